/-
  The proof of 'Rows.FnVarianceMatchesTwoPassSaid'. The frame is the guide's template, written by its tool (proof-skeleton.mjs) for this function; the walk is ours.
-/
import Derived.Test.Qxb6601435aModsRows
import Derived.WalkKit
import Derived.ProofKit
import Derived.OpenShut
import Derived.ShutString
import Derived.Test.Qxb6601435aModsVw
import Derived.ChangeOld
import Derived.Below
namespace Go.Proofs.Qxb6601435aMods.fnVarianceMatchesTwoPass
open Go.ChangeShapes Go.WideShapes Go.ChangeAt Go.RowKit
open Go.ChangeMaps (open_string shut_string)
set_option linter.unusedVariables false

theorem own : ownKnob Trym.prog.godebug = none := by kernel_rfl
theorem laidOut : laidOutB Trym.prog = true := by kernel_rfl

/-- WHAT THE WALK IS TOLD OF A SLICE OF INTEGERS THAT CAME IN: it is nil; or it leads to a row of 'cap' cells, the numbers 'zs' (the first 'len' are its elements, the rest its spare room), each fitting its kind. -/
def IsRow (k : IntKind) (w : World) (a : Option Addr) (len cap : Nat) (zs : List Int) : Prop :=
  (a = none ∧ len = 0 ∧ cap = 0 ∧ zs = []) ∨
  ∃ x, a = some x ∧ len ≤ cap ∧ cap ≤ maxLen ∧ zs.length = cap ∧ (∀ i, i < zs.length → w.cell? (x.add i) = some (.int k (zs.getD i 0))) ∧ ∀ n ∈ zs, (Lit.int k n).wf = true

/-! ### STEP 1: THE WALK -/
open Tl Fl Vf Vp Vw

set_option maxHeartbeats 400000 in
theorem bytes_yes (a : Option Addr) (n c : Nat) (w : World) (h : n ≤ 1048576) :
    Calls Trym.prog 16 #[.slice a n c] w fun e w' => e = .returned (.bool true) ∧ w' = w := by
  go_enter Trym.func16, Trym.ntmps16
  go_wp2
  go_ret
  exact ⟨rfl, rfl⟩

set_option maxHeartbeats 400000 in
theorem bytes_no (a : Option Addr) (n c : Nat) (w : World) (h : ¬ n ≤ 1048576) :
    Calls Trym.prog 16 #[.slice a n c] w fun e w' => e = .returned (.bool false) ∧ w' = w := by
  go_enter Trym.func16, Trym.ntmps16
  go_wp2
  all_goals (go_ret; exact ⟨rfl, rfl⟩)

theorem ord_le {y t : Nat} (hy : Fnt y) (ht : Fnt t) (h : V y ≤ V t) : FloatKind.f64.format.order y t = some .lt ∨ FloatKind.f64.format.order y t = some .eq := by
  have ho : FloatKind.f64.format.order y t = some (compare (V y) (V t)) := order_spec hy ht
  rw [ho]
  rcases Int.lt_or_eq_of_le h with h | h
  · rw [Int.compare_eq_lt.2 h]; exact .inl rfl
  · rw [Int.compare_eq_eq.2 h]; exact .inr rfl
theorem ord_ge {y t : Nat} (hy : Fnt y) (ht : Fnt t) (h : V t ≤ V y) : FloatKind.f64.format.order y t = some .gt ∨ FloatKind.f64.format.order y t = some .eq := by
  have ho : FloatKind.f64.format.order y t = some (compare (V y) (V t)) := order_spec hy ht
  rw [ho]
  rcases Int.lt_or_eq_of_le h with h | h
  · rw [Int.compare_eq_gt.2 h]; exact .inl rfl
  · rw [Int.compare_eq_eq.2 h.symm]; exact .inr rfl

set_option maxHeartbeats 400000 in
theorem walk_few (a : Option Addr) (n c : Nat) (ts : List Nat) (w : World) (h : Raw Cu w a n ts) (hnil : a = none → n = 0 ∧ c = 0) (h2 : n < 2) :
    Calls Trym.prog 5 #[.slice a n c] w fun e w' => e = .returned (.bool true) ∧ Below w.heap.size w w' := by
  have ho : FloatKind.f64.format.order 0 0 = some Ordering.eq := by
    have := order_spec fin_zero.1 fin_zero.1
    rw [Int.compare_eq_eq.2 rfl] at this; exact this
  go_enter Trym.func5, Trym.ntmps5
  go_wp2_with fail
  refine (bytes_yes _ _ _ _ (by omega)).mono ?_
  rintro e w' ⟨rfl, hw⟩
  subst hw
  go_wp2_with fail
  refine (Vw.copy_any a n c ts _ h (by omega) hnil).mono ?_
  rintro e w1 ⟨d, rfl, r1, e1⟩
  go_wp2_with fail
  refine (zz_few d n n _ h2).mono ?_
  rintro e w2 ⟨rfl, hw⟩
  subst hw
  go_wp2
  go_ret
  exact ⟨by simp, e1⟩

set_option maxHeartbeats 2000000 in
theorem walk_many (a : Option Addr) (n c : Nat) (ts : List Nat) (w : World) (h : Raw Cu w a n ts) (ht : ∀ t ∈ ts, t < 18446744073709551616) (hnil : a = none → n = 0 ∧ c = 0) (h2 : 2 ≤ n) (hn : n ≤ 131072) :
    Calls Trym.prog 5 #[.slice a n c] w fun e w' => e = .returned (.bool true) ∧ Below w.heap.size w w' := by
  have hok := fls_ok ht
  have hl : (fls ts).length = n := by unfold fls; rw [List.length_map]; exact h.len
  have F := facts hok (by omega) (by omega) (fls_zero ht)
  have CZ : Hid _ := fun a c w (h : Raw Cu w a n ts) => zz_any a n c ts w h ht h2 hn
  have HOK : Hid _ := hok
  have HL : Hid _ := hl
  have HF : Hid _ := F
  clear hok hl F ht
  go_enter Trym.func5, Trym.ntmps5
  go_wp2_with fail
  refine (bytes_yes _ _ _ _ (by omega)).mono ?_
  rintro e w' ⟨rfl, hw⟩
  subst hw
  go_wp2_with fail
  refine (Vw.copy_any a n c ts _ h hn hnil).mono ?_
  rintro e w1 ⟨d, rfl, r1, e1⟩
  go_wp2_with fail
  refine Calls.mono (CZ.out d n _ r1) ?_
  rintro e w2 ⟨rfl, hw⟩
  subst hw
  obtain ⟨v, hv⟩ : ∃ y, y = vW (fls ts) := ⟨_, rfl⟩
  rw [← hv]
  have HV : Hid _ := hv
  clear hv CZ h
  go_wp2_with fail
  go_loop [5, 6] (fun s i => ∃ (k : Nat) (T : Nat), k ≤ n ∧ i = .int .i64 k ∧ s = .float .f64 T ∧ Hid (T = tot ((fls ts).take k))) (fun _ i => n - (intOf i).toNat)
  case atStart => exact ⟨0, 0, Nat.zero_le _, rfl, rfl, rfl⟩
  case round =>
    obtain ⟨k, T, hk, rfl, rfl, hT⟩ := hrel
    by_cases hlt : k < n
    · obtain ⟨b, off, t, rfl, hb, hc, htk⟩ := r1.at hlt
      replace hc : w2.cell? ⟨b, off + k, none⟩ = some (.int .u64 (t : Int)) := hc
      have hkl : k < (fls ts).length := by rw [HL.out]; exact hlt
      obtain ⟨x, hx⟩ : ∃ x, x = (fls ts)[k] := ⟨_, rfl⟩
      have hcv : floatOfInt FloatKind.f64 (t : Int) = x := by
        rw [cv_of t _ rfl, hx]
        obtain ⟨h1, h2⟩ := htk.out
        rw [h2]; exact (fls_get h1 hkl).symm
      have s1 := tot_step HOK.out HL.out hn hkl
      rw [← hx, ← hT.out] at s1
      obtain ⟨T1, hT1⟩ : ∃ y, y = tot ((fls ts).take (k + 1)) := ⟨_, rfl⟩
      rw [← hT1] at s1
      have q1 := fun w => run_float_arith (P := Trym.prog) w .add 26 .f64 T x T1 s1
      have HT1 : Hid _ := hT1
      clear s1 hT1 hx htk hT
      go_wp2
      go_round
      case rel => exact ⟨k + 1, T1, by omega, by go_num, rfl, HT1.out⟩
      case measure => simp [intOf]; omega
    · have eT : T = tot (fls ts) := by
        rw [hT.out, List.take_of_length_le (by rw [HL.out]; omega)]
      have hcn : floatOfInt FloatKind.f64 (n : Int) = cv n := cv_of n _ rfl
      have p1 := HF.out.mu
      have HM : Hid _ := HF.out.muM
      rw [HL.out, ← eT] at p1
      obtain ⟨mu, hmu⟩ : ∃ y, y = muW (fls ts) := ⟨_, rfl⟩
      rw [← hmu] at p1
      generalize cv n = N at *
      have q1 := fun w => run_float_arith (P := Trym.prog) w .quo 26 .f64 T N mu p1
      have HMU : Hid _ := hmu
      clear p1 hmu eT hT
      go_wp2_with fail
      go_loop [8, 9, 10] (fun dv sv i => ∃ (k D S : Nat), k ≤ n ∧ i = .int .i64 k ∧ dv = .float .f64 D ∧ sv = .float .f64 S ∧ Hid (D = dvs mu ((fls ts).take k)) ∧ Hid (S = sqs ((fls ts).take k))) (fun _ _ i => n - (intOf i).toNat)
      case atStart => exact ⟨0, 0, 0, Nat.zero_le _, rfl, rfl, rfl, rfl, rfl⟩
      case round =>
        clear q1 hcn
        obtain ⟨j, D, S, hj, rfl, rfl, rfl, hD, hS⟩ := hrel
        by_cases hlt2 : j < n
        · obtain ⟨b, off, t, rfl, hb, hc, htk⟩ := r1.at hlt2
          replace hc : w2.cell? ⟨b, off + j, none⟩ = some (.int .u64 (t : Int)) := hc
          have hkl : j < (fls ts).length := by rw [HL.out]; exact hlt2
          obtain ⟨x, hx⟩ : ∃ x, x = (fls ts)[j] := ⟨_, rfl⟩
          have hcv : floatOfInt FloatKind.f64 (t : Int) = x := by
            rw [cv_of t _ rfl, hx]
            obtain ⟨h1, h2⟩ := htk.out
            rw [h2]; exact (fls_get h1 hkl).symm
          have hMu : Mu mu := by rw [HMU.out]; exact HM.out
          have s1 := dvs_step HOK.out HL.out hn hMu hkl
          have s2 := sqs_step HOK.out HL.out hn hkl
          rw [← hx, ← hD.out] at s1
          rw [← hx, ← hS.out] at s2
          obtain ⟨D1, hD1⟩ : ∃ y, y = dvs mu ((fls ts).take (j + 1)) := ⟨_, rfl⟩
          obtain ⟨S1, hS1⟩ : ∃ y, y = sqs ((fls ts).take (j + 1)) := ⟨_, rfl⟩
          rw [← hD1] at s1
          rw [← hS1] at s2
          generalize sq x = Q at *
          generalize dsq mu x = Q2 at *
          generalize fsub x mu = df at *
          have q1 := fun w => run_float_arith (P := Trym.prog) w .sub 26 .f64 x mu df s1.1
          have q2 := fun w => run_float_arith (P := Trym.prog) w .mul 26 .f64 df df Q2 s1.2.1
          have q3 := fun w => run_float_arith (P := Trym.prog) w .add 26 .f64 D Q2 D1 s1.2.2
          have q4 := fun w => run_float_arith (P := Trym.prog) w .mul 26 .f64 x x Q s2.1
          have q5 := fun w => run_float_arith (P := Trym.prog) w .add 26 .f64 S Q S1 s2.2
          have HD1 : Hid _ := hD1
          have HS1 : Hid _ := hS1
          clear s1 s2 hD1 hS1 hx htk hD hS hMu
          go_wp2
          go_round
          case rel => exact ⟨j + 1, D1, S1, by omega, by go_num, rfl, rfl, HD1.out, HS1.out⟩
          case measure => simp [intOf]; omega
        · have eD : D = devW (fls ts) := by
            rw [hD.out, List.take_of_length_le (by rw [HL.out]; omega), HMU.out]; rfl
          have eS : S = sqs (fls ts) := by
            rw [hS.out, List.take_of_length_le (by rw [HL.out]; omega)]
          have hcn1 : floatOfInt FloatKind.f64 ((n : Int) - 1) = cv (n - 1) := cv_of (n - 1) _ (by omega)
          have hcn4 : floatOfInt FloatKind.f64 ((n : Int) + 4) = cv (n + 4) := cv_of (n + 4) _ (by omega)
          have p1 := HF.out.mo
          have p2 := HF.out.c1
          have p3 := HF.out.c2
          have p4 := HF.out.c3
          have p5 := HF.out.tol
          have p6 := HF.out.w
          have p7 := HF.out.law
          have p8 := HF.out.vF
          have p9 := HF.out.v0
          have p10 := HF.out.tolF
          have p11 := HF.out.wF
          rw [HL.out, ← eD] at p1
          rw [HL.out] at p2 p5
          rw [← eS] at p4
          rw [← HV.out] at p6 p8 p9
          have ov := ord_ge p8 fin_zero.1 (by rw [fin_zero.2]; exact p9)
          have CF : Hid _ := fun w => fin_any v w p8
          generalize moW (fls ts) = mo at *
          generalize c1W (fls ts) = c1 at *
          generalize c2W (fls ts) = c2 at *
          generalize c3W (fls ts) = c3 at *
          generalize tolW (fls ts) = tol at *
          generalize wW (fls ts) = wd at *
          generalize cv (n - 1) = N1 at *
          generalize cv (n + 4) = N4 at *
          have CA : Hid _ := fun w => abs_any wd w p11
          have q1 := fun w => run_float_arith (P := Trym.prog) w .quo 26 .f64 D N1 mo p1
          have q2 := fun w => run_float_arith (P := Trym.prog) w .mul 26 .f64 4629700416936869888 N4 c1 p2
          have q3 := fun w => run_float_arith (P := Trym.prog) w .mul 26 .f64 c1 4368491638549381120 c2 p3
          have q4 := fun w => run_float_arith (P := Trym.prog) w .mul 26 .f64 c2 S c3 p4
          have q5 := fun w => run_float_arith (P := Trym.prog) w .quo 26 .f64 c3 N1 tol p5
          have q6 := fun w => run_float_arith (P := Trym.prog) w .sub 26 .f64 v mo wd p6
          have P7 : Hid _ := p7
          have P10 : Hid _ := p10
          clear p1 p2 p3 p4 p5 p6 p7 p8 p9 p10 p11 eD eS hD hS HF HV
          rcases ov with ov | ov
          all_goals
            go_wp2_with fail
            refine (CF.out _).mono ?_
            rintro e w3 ⟨rfl, hw⟩
            subst hw
            go_wp2_with fail
            refine (CA.out _).mono ?_
            rintro e w4 ⟨y, rfl, hw, hy⟩
            subst hw
            have oy := ord_le hy.out.1 P10.out (by rw [hy.out.2]; exact P7.out)
            rcases oy with oy | oy
            all_goals
              go_wp2
              go_ret
              exact ⟨by simp, e1⟩

theorem row_raw {w : World} {a : Option Addr} {len cap : Nat} {zs : List Int} (h : IsRow .u64 w a len cap zs) :
    ∃ xs : List Nat, Raw Cu w a len xs ∧ (∀ t ∈ xs, t < 18446744073709551616) ∧ (a = none → len = 0 ∧ cap = 0) := by
  rcases h with ⟨rfl, rfl, rfl, rfl⟩ | ⟨x, rfl, hl, hm, hz, hc, hw⟩
  · exact ⟨[], ⟨rfl, fun h => by omega⟩, (fun t h => by cases h), fun _ => ⟨rfl, rfl⟩⟩
  · have each : ∀ i, i < zs.length → 0 ≤ zs.getD i 0 ∧ zs.getD i 0 ≤ 18446744073709551615 := fun i hi => by
      have := bounds_u64 (hw (zs.getD i 0) (by rw [List.getD, List.getElem?_eq_getElem hi]; exact List.getElem_mem hi))
      exact this
    refine ⟨(List.range len).map fun i => (zs.getD i 0).toNat, ⟨by simp, fun hp => ?_⟩, ?_, fun h => by cases h⟩
    · obtain ⟨b, off, rfl, hc'⟩ := ints_at hc (by omega)
      have hlt : b < w.heap.size := by
        have := World.block_lt_of_cell? w _ (hc' 0 (by omega))
        simpa using this
      refine ⟨b, off, rfl, hlt, fun j hj => ?_⟩
      have hj' : j < len := by simpa using hj
      have e := each j (by omega)
      rw [hc' j (by omega)]
      simp only [Cu, List.getElem_map, List.getElem_range]
      rw [Int.toNat_of_nonneg e.1]
    · intro t ht
      obtain ⟨i, hi, rfl⟩ := List.mem_map.1 ht
      have hi' : i < len := List.mem_range.1 hi
      have e := each i (by omega)
      omega

theorem walk (a0 : Option Addr) (len0 cap0 : Nat) (z0 : List Int) (w : World) (w0 : IsRow .u64 w a0 len0 cap0 z0) :
    Calls Trym.prog 5 #[.slice a0 len0 cap0] w fun e w' => e = .returned (.bool true) ∧ Below w.heap.size w w' := by
  obtain ⟨ts, hr, ht, hnil⟩ := row_raw w0
  by_cases hn : len0 ≤ 131072
  · by_cases h2 : 2 ≤ len0
    · exact walk_many a0 len0 cap0 ts w hr ht hnil h2 hn
    · exact walk_few a0 len0 cap0 ts w hr hnil (by omega)
  · clear hr ht hnil w0
    by_cases hb : len0 ≤ 1048576
    · go_enter Trym.func5, Trym.ntmps5
      go_wp2_with fail
      refine (bytes_yes _ _ _ _ hb).mono ?_
      rintro e w' ⟨rfl, hw⟩
      subst hw
      go_wp2
      go_ret
      exact ⟨rfl, Below.refl _ _⟩
    · go_enter Trym.func5, Trym.ntmps5
      go_wp2_with fail
      refine (bytes_no _ _ _ _ hb).mono ?_
      rintro e w' ⟨rfl, hw⟩
      subst hw
      go_wp2
      go_ret
      exact ⟨rfl, Below.refl _ _⟩

/-! ### THE ROW's STEP: WRITTEN OUT: LEAVE IT -/
set_option maxRecDepth 100000 in
theorem lifted (os : Os) (started : os.Started) (H : Type) (enc : TypeId × Value → H) :
    ReturnsInHanded {} Trym.checked os 5 .any (Rows.fnVarianceMatchesTwoPassSpec.pre6 enc Trym.prog Trym.f5 Rows.fnVarianceMatchesTwoPassRow.domain false) (Rows.fnVarianceMatchesTwoPassSpec.post enc Trym.prog Trym.f5 false true false false) := by
  refine returnsInHanded_of_change (C := Trym.checked) own started (by kernel_rfl) Trym.func5
    (ChangeSpec.witness6 (enc := enc) (C := Trym.checked) false ⟨#[], #[.slice none 0 0], []⟩ 8 (by kernel_rfl) (by kernel_rfl) (by kernel_rfl) (by kernel_rfl)) ?_
  intro W base args ds gs before hval0 hW hcnd _
  have hval : ∀ (j : Nat) t v, Trym.f5.params[j]? = some t → args[j]? = some v → Value.okWide Trym.prog W .any base t v := hval0
  have hW' := hW
  obtain ⟨p, q, hA0, hV, rfl, hfz, hnd⟩ := hW
  have hA : DataW.TrodAll enc Trym.prog W 0 (fun _ => true) true Trym.f5.params.toList args.toList ds p := hA0
  rw [Trym.params5] at hA hval
  obtain ⟨v0, vs0, d0, ds0, p0, q0, hargs, rfl, rfl, h0, r0⟩ := trodAll_cons hA
  obtain ⟨rfl, rfl, rfl⟩ := trodAll_nil r0
  obtain rfl : args = #[v0] := by cases args; simp_all
  obtain ⟨rfl, rfl⟩ := trodVars_none hV
  obtain ⟨a0, len0, cap0, rfl⟩ := okWide_slice Trym.underlying31 (hval 0 31 v0 rfl rfl)
  have k0 := h0
  have lt0 : ∀ x ∈ p0, x.block < W.heap.size := by obtain ⟨m, hm⟩ := k0; exact DataW.trod_lt m _ _ _ hm
  obtain ⟨z0, w0⟩ : ∃ zs, IsRow .u64 W a0 len0 cap0 zs := by
    obtain ⟨fuel, hf⟩ := h0
    rcases open_ints Trym.underlying31 Trym.underlying22 (by kernel_rfl) hf with ⟨hcs, _⟩ | ⟨x, l, c, zs, hcs, _, hl, hm, hz, _, hcell, hwz⟩
    · simp [Value.cells] at hcs
      obtain ⟨rfl, rfl, rfl⟩ := hcs
      exact ⟨[], .inl ⟨rfl, rfl, rfl, rfl⟩⟩
    · simp [Value.cells] at hcs
      obtain ⟨rfl, rfl, rfl⟩ := hcs
      exact ⟨zs, .inr ⟨_, rfl, hl, hm, by simpa using hz, hcell, hwz⟩⟩
  clear hA0 hval0
  refine (walk a0 len0 cap0 z0 W w0).mono fun e W' ⟨he, bel⟩ => ?_
  subst he
  exact ⟨_, rfl, _, _, _, [], _, [], hW', trodAll_mk1 (shut_bool Trym.underlying4 _), (trodAll_cons_mk (Below.trod laidOut (by kernel_rfl) (of_decide_eq_true (by kernel_rfl)) k0 bel lt0) trodAll_mk0), rfl, bel.frame _, fun h => by cases h⟩

theorem over : Rows.fnVarianceMatchesTwoPassRow.holds Trym.pinned (OpenSpec.ofChange Rows.fnVarianceMatchesTwoPassSpec) :=
  OpenClaim.holds_of_wide 5 Trym.f5 rfl rfl rfl rfl rfl rfl rfl ⟨rfl, rfl, rfl, rfl, rfl⟩ rfl rfl rfl rfl rfl (by kernel_rfl) Trym.func5 (by kernel_rfl)
    (of_decide_eq_true (by kernel_rfl)) (by unfold Func.isWrapper; first | (rw [if_pos (by decide +kernel)]; kernel_rfl) | (rw [if_neg (by decide +kernel)]; exact ⟨rfl, rfl⟩))
    (fun os started H enc _ => lifted os started H enc)

/-- ████ THE STATEMENT ████ -/
theorem proved : Rows.FnVarianceMatchesTwoPassSaid := over
#print axioms proved
end Go.Proofs.Qxb6601435aMods.fnVarianceMatchesTwoPass
