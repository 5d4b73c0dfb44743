/- The walks of FnVarianceMatchesTwoPass: copyUints (17), variance (25), ZZVariance (18), isFinite (19), absF (20). -/
import Derived.Test.Qxb6601435aModsTail
import Derived.Test.Qxb6601435aModsVq
namespace Go.Proofs.Qxb6601435aMods
open Go.RowKit
set_option linter.unusedVariables false

theorem Trym.info22 : (Trym.prog.info? 22).map (fun i => (i.zero, i.size, i.bytes)) = some (some (.int .u64 0), 1, 8) := by kernel_rfl

namespace Vw
open Tl Fl Vf Vp

/-- A uint64's cell. -/
def Cu (x : Nat) : Value := .int .u64 (x : Int)

set_option maxHeartbeats 400000 in
theorem copy_some (x : Addr) (n c : Nat) (xs : List Nat) (w : World) (h : Raw Cu w (some x) n xs) (hn : n ≤ 131072) :
    Calls Trym.prog 17 #[.slice (some x) n c] w fun e w' => ∃ a' : Option Addr, e = .returned (.slice a' n n) ∧ Raw Cu w' a' n xs ∧ Below w.heap.size w w' := by
  obtain ⟨i0, hi, hz0, hz1, hz2⟩ := info_parts Trym.info22
  have heq := fun w => Lib.run_eql_slice_nil (P := Trym.prog) w 31 22 (some x) n c 0 0 Trym.underlying31
  go_enter Trym.func17, Trym.ntmps17
  go_wp2_with (at_make; refine wpList_make_full _ rfl _ _ 31 rfl w.heap.size 22 i0 (.int .u64 0) 1 Trym.underlying31 hi hz0 hz1 _ _ _ _ n rfl rfl rfl rfl ?b2 ?b3 (Nat.le_refl _) ?_)
  case b2 => rw [hz2]; omega
  case b3 => unfold maxLen; omega
  intro w0 hown0 hgrow0
  have hb0 : Below w.heap.size w w0 := (Below.refl _ _).grown hgrow0 (Nat.le_refl _) (fun k h => by cases h)
  obtain ⟨xs0, hown0, hl0⟩ : ∃ vs, w0.ownsRow w.heap.size 22 1 (.slice (some ⟨w.heap.size, 0, none⟩) n n) n vs ∧ vs.length = n := ⟨_, hown0, by simpa using hown0.1⟩
  clear hgrow0
  have HL0 : Hid _ := hl0
  clear hl0
  go_wp2
  go_loopw [4] (fun i wr => ∃ (k : Nat) (vs : List Value), k ≤ n ∧ i = .int .i64 k ∧ wr.ownsRow w.heap.size 22 1 (.slice (some ⟨w.heap.size, 0, none⟩) n n) n vs ∧ Hid (vs.length = n) ∧ Filled Cu xs k vs ∧ Below w.heap.size w wr)
    (fun i _ => n - (intOf i).toNat)
  case atStart => exact ⟨0, xs0, Nat.zero_le _, rfl, hown0, HL0, Filled.zero _ _ _, hb0⟩
  case round =>
    clear hown0 hb0 HL0
    obtain ⟨k, vs, hk, rfl, hown, hxl, hF, hb⟩ := hrel
    by_cases hlt : k < n
    · obtain ⟨b, off, s, hx, hbs, hc, hsk⟩ := h.at hlt
      simp only [Option.some.injEq] at hx
      subst hx
      have hc' : wr.cell? ⟨b, off + k, none⟩ = some (.int .u64 (s : Int)) := (hb.cell (p := ⟨b, off + k, none⟩) hbs).trans hc
      have hkx : k < vs.length := by rw [hxl.out]; exact hlt
      have hd := hown.cellAt k (by omega)
      have hf := hown.frozenAt k
      rw [List.getElem?_eq_getElem hkx] at hd
      generalize vs[k] = old at hd
      obtain ⟨st1, st2⟩ := hown.stored k (.int .u64 (s : Int))
      have hb1 : Below w.heap.size w (wr.setCell ⟨w.heap.size, k, none⟩ (.int .u64 (s : Int))) := hb.grown st2 hb.size (fun k hk => by cases hk; exact Nat.le_refl _)
      have hF1 : Filled Cu xs (k + 1) (vs.set k (.int .u64 (s : Int))) := hF.succ hkx hsk.out
      have hxl1 : Hid ((vs.set k (.int .u64 (s : Int))).length = n) := by show _ = _; simp; exact hxl.out
      clear st2 hown hF hkx hc
      go_wp2
      go_roundw
      case rel => exact ⟨k + 1, vs.set k (.int .u64 (s : Int)), by omega, by go_num, st1, hxl1, hF1, hb1⟩
      case measure => simp [intOf]; omega
    · have hfin := hF.all h.len hxl.out hlt
      rw [hfin] at hown
      clear hfin hF hxl
      go_wp2
      go_ret
      exact ⟨_, rfl, raw_own hown h.len, hb⟩

set_option maxHeartbeats 400000 in
theorem copy_nil (xs : List Nat) (w : World) (h : Raw Cu w none 0 xs) :
    Calls Trym.prog 17 #[.slice none 0 0] w fun e w' => ∃ a' : Option Addr, e = .returned (.slice a' 0 0) ∧ Raw Cu w' a' 0 xs ∧ Below w.heap.size w w' := by
  have heq := fun w => Lib.run_eql_slice_nil (P := Trym.prog) w 31 22 none 0 0 0 0 Trym.underlying31
  go_enter Trym.func17, Trym.ntmps17
  go_wp2
  go_ret
  exact ⟨_, rfl, h, Below.refl _ _⟩

theorem copy_any (a : Option Addr) (n c : Nat) (xs : List Nat) (w : World) (h : Raw Cu w a n xs) (hn : n ≤ 131072) (hnil : a = none → n = 0 ∧ c = 0) :
    Calls Trym.prog 17 #[.slice a n c] w fun e w' => ∃ a' : Option Addr, e = .returned (.slice a' n n) ∧ Raw Cu w' a' n xs ∧ Below w.heap.size w w' := by
  cases a with
  | some x => exact copy_some x n c xs w h hn
  | none =>
    obtain ⟨rfl, rfl⟩ := hnil rfl
    exact copy_nil xs w h

/-! ### From uint64s to floats -/
theorem cv_of (t : Nat) (z : Int) (h : z = t) : floatOfInt FloatKind.f64 z = cv t := by
  subst h
  unfold floatOfInt FloatKind.nearest FloatKind.encode cv
  have e : decide ((t : Int) < 0) = false := by simp
  rw [e, Int.natAbs_natCast]; rfl

def fls (ts : List Nat) : List Nat := ts.map cv

theorem fls_get {ts : List Nat} {k : Nat} (h : k < ts.length) (h' : k < (fls ts).length) : (fls ts)[k] = cv ts[k] := by simp [fls]
theorem ret_f {x y : Nat} (h : x = y) : Ending.returned (.float .f64 x) = .returned (.float .f64 y) := by rw [h]

theorem fls_ok {ts : List Nat} (ht : ∀ t ∈ ts, t < 18446744073709551616) : Ok (fls ts) := by
  intro x hx
  obtain ⟨t, h, rfl⟩ := List.mem_map.1 hx
  have hb := ht t h
  obtain ⟨f, a1, a2⟩ := ofNat_near t (by omega)
  have hU := U_pos
  have hp : (t : Int) * U ≤ 18446744073709551616 * U := Int.mul_le_mul_of_nonneg_right (by omega) (by omega)
  have hp0 : 0 ≤ (t : Int) * U := Int.mul_nonneg (by omega) (by omega)
  refine ⟨f, ?_, ?_⟩
  · unfold cv; omega
  · unfold Mx cv; omega

theorem fls_zero {ts : List Nat} (ht : ∀ t ∈ ts, t < 18446744073709551616) : (∀ x ∈ fls ts, V x = 0) ∨ ∃ x ∈ fls ts, U ≤ 2 * V x := by
  by_cases h : ∀ t ∈ ts, t = 0
  · left
    intro x hx
    obtain ⟨t, h', rfl⟩ := List.mem_map.1 hx
    rw [h t h']
    have := (ofNat_exact 0 (by decide)).2
    unfold cv; rw [this]; simp
  · right
    have : ∃ t ∈ ts, t ≠ 0 := by
      apply Classical.byContradiction
      intro hc
      apply h
      intro t ht'
      apply Classical.byContradiction
      intro h0
      exact hc ⟨t, ht', h0⟩
    obtain ⟨t, h1, h2⟩ := this
    refine ⟨cv t, List.mem_map.2 ⟨t, h1, rfl⟩, ?_⟩
    obtain ⟨_, _, a2⟩ := ofNat_near t (by have := ht t h1; omega)
    have hU := U_pos
    have hp : 1 * U ≤ (t : Int) * U := Int.mul_le_mul_of_nonneg_right (by omega) (by omega)
    unfold cv
    omega

/-! ### The variance -/
theorem max_run (d : Nat) (hd : Fnt d) (w : World) (ts : Array TypeId) (t : TypeId) : (Builtin.max_ ts t #[.float .f64 0, .float .f64 d]).run Trym.prog w = .ok (.float .f64 (mW d)) w := by
  have ho : FloatKind.f64.format.order 0 d = some (compare (V 0) (V d)) := order_spec fin_zero.1 hd
  rw [fin_zero.2] at ho
  have hneg : (FloatKind.f64.decode 0).neg = false := by decide
  unfold mW
  rcases Int.lt_trichotomy 0 (V d) with h | h | h
  · rw [Int.compare_eq_lt.2 h] at ho
    rw [if_pos h]
    simp [Builtin.max_, Builtin.max2, ho]
  · rw [Int.compare_eq_eq.2 h] at ho
    rw [if_neg (by omega)]
    simp [Builtin.max_, Builtin.max2, ho, hneg]
  · rw [Int.compare_eq_gt.2 h] at ho
    rw [if_neg (by omega)]
    simp [Builtin.max_, Builtin.max2, ho]

set_option maxHeartbeats 1000000 in
theorem var_any (a : Option Addr) (n c : Nat) (ts : List Nat) (w : World) (h : Raw Cu w a n ts) (ht : ∀ t ∈ ts, t < 18446744073709551616) (h2 : 2 ≤ n) (hn : n ≤ 131072) :
    Calls Trym.prog 25 #[.slice a n c] w fun e w' => e = .returned (.float .f64 (vW (fls ts))) ∧ w' = w := by
  have hok := fls_ok ht
  have hl : (fls ts).length = n := by unfold fls; rw [List.length_map]; exact h.len
  have F := facts hok (by omega) (by omega) (fls_zero ht)
  have HOK : Hid _ := hok
  have HL : Hid _ := hl
  have HF : Hid _ := F
  clear hok hl F ht
  go_enter Trym.func25, Trym.ntmps25
  go_wp2
  go_loop [3, 4, 12] (fun t s i => ∃ (k : Nat) (T S : Nat), k ≤ n ∧ i = .int .i64 k ∧ t = .float .f64 T ∧ s = .float .f64 S ∧ Hid (T = tot ((fls ts).take k)) ∧ Hid (S = sqs ((fls ts).take k))) (fun _ _ i => n - (intOf i).toNat)
  case atStart => exact ⟨0, 0, 0, Nat.zero_le _, rfl, rfl, rfl, rfl, rfl⟩
  case round =>
    obtain ⟨k, T, S, hk, rfl, rfl, rfl, hT, hS⟩ := hrel
    by_cases hlt : k < n
    · obtain ⟨b, off, t, rfl, hb, hc, htk⟩ := h.at hlt
      replace hc : w.cell? ⟨b, off + k, none⟩ = some (.int .u64 (t : Int)) := hc
      have hkl : k < (fls ts).length := by rw [HL.out]; exact hlt
      obtain ⟨x, hx⟩ : ∃ x, x = (fls ts)[k] := ⟨_, rfl⟩
      have hcv : floatOfInt FloatKind.f64 (t : Int) = x := by
        rw [cv_of t _ rfl, hx]
        obtain ⟨h1, h2⟩ := htk.out
        rw [h2]; exact (fls_get h1 hkl).symm
      have s1 := tot_step HOK.out HL.out hn hkl
      have s2 := sqs_step HOK.out HL.out hn hkl
      rw [← hx] at s1 s2
      rw [← hT.out] at s1
      rw [← hS.out] at s2
      obtain ⟨T1, hT1⟩ : ∃ y, y = tot ((fls ts).take (k + 1)) := ⟨_, rfl⟩
      obtain ⟨S1, hS1⟩ : ∃ y, y = sqs ((fls ts).take (k + 1)) := ⟨_, rfl⟩
      obtain ⟨Q, hQ⟩ : ∃ y, y = sq x := ⟨_, rfl⟩
      rw [← hT1] at s1
      rw [← hS1, ← hQ] at s2
      have r1 := fun w => run_float_arith (P := Trym.prog) w .add 26 .f64 T x T1 s1
      have r2 := fun w => run_float_arith (P := Trym.prog) w .mul 26 .f64 x x Q s2.1
      have r3 := fun w => run_float_arith (P := Trym.prog) w .add 26 .f64 S Q S1 s2.2
      have HT1 : Hid _ := hT1
      have HS1 : Hid _ := hS1
      clear s1 s2 hT1 hS1 hQ hx htk hT hS
      go_wp2
      go_round
      case rel => exact ⟨k + 1, T1, S1, by omega, by go_num, rfl, rfl, HT1.out, HS1.out⟩
      case measure => simp [intOf]; omega
    · have eT : T = tot (fls ts) := by
        rw [hT.out, List.take_of_length_le (by rw [HL.out]; omega)]
      have eS : S = sqs (fls ts) := by
        rw [hS.out, List.take_of_length_le (by rw [HL.out]; omega)]
      have hcn : floatOfInt FloatKind.f64 (n : Int) = cv n := cv_of n _ rfl
      have hcn1 : floatOfInt FloatKind.f64 ((n : Int) - 1) = cv (n - 1) := cv_of (n - 1) _ (by omega)
      have p1 := HF.out.p
      have p2 := HF.out.q
      have p3 := HF.out.d
      have p4 := HF.out.v
      have p5 := HF.out.dF
      rw [HL.out] at p2 p4
      rw [← eT] at p1
      rw [← eS] at p3
      obtain ⟨v, hv⟩ : ∃ y, y = vW (fls ts) := ⟨_, rfl⟩
      rw [← hv] at p4
      generalize pW (fls ts) = P at *
      generalize qW (fls ts) = Q at *
      generalize dW (fls ts) = D at *
      generalize hM : mW D = M at *
      generalize hN : cv n = N at *
      generalize hN1 : cv (n - 1) = N1 at *
      have r1 := fun w => run_float_arith (P := Trym.prog) w .mul 26 .f64 T T P p1
      have r2 := fun w => run_float_arith (P := Trym.prog) w .quo 26 .f64 P N Q p2
      have r3 := fun w => run_float_arith (P := Trym.prog) w .sub 26 .f64 S Q D p3
      have r4 := fun w ts t => max_run D p5 w ts t
      rw [hM] at r4
      have r5 := fun w => run_float_arith (P := Trym.prog) w .quo 26 .f64 M N1 v p4
      have HV : Hid _ := hv
      clear p1 p2 p3 p4 p5 hN hN1 hM hv hT hS eT eS HF
      go_wp2
      go_ret
      exact ⟨ret_f HV.out, rfl⟩

set_option maxHeartbeats 400000 in
theorem var_few (a : Option Addr) (n c : Nat) (w : World) (h2 : n < 2) :
    Calls Trym.prog 25 #[.slice a n c] w fun e w' => e = .returned (.float .f64 0) ∧ w' = w := by
  go_enter Trym.func25, Trym.ntmps25
  go_wp2
  go_ret
  exact ⟨rfl, rfl⟩

theorem zz_any (a : Option Addr) (n c : Nat) (ts : List Nat) (w : World) (h : Raw Cu w a n ts) (ht : ∀ t ∈ ts, t < 18446744073709551616) (h2 : 2 ≤ n) (hn : n ≤ 131072) :
    Calls Trym.prog 18 #[.slice a n c] w fun e w' => e = .returned (.float .f64 (vW (fls ts))) ∧ w' = w := by
  have C : Hid _ := fun w (h : Raw Cu w a n ts) => var_any a n c ts w h ht h2 hn
  clear ht
  go_enter Trym.func18, Trym.ntmps18
  go_wp2_with fail
  refine Calls.mono (C.out _ h) ?_
  rintro e w' ⟨rfl, rfl⟩
  go_wp2
  go_ret
  exact ⟨rfl, rfl⟩
theorem zz_few (a : Option Addr) (n c : Nat) (w : World) (h2 : n < 2) :
    Calls Trym.prog 18 #[.slice a n c] w fun e w' => e = .returned (.float .f64 0) ∧ w' = w := by
  go_enter Trym.func18, Trym.ntmps18
  go_wp2_with fail
  refine (var_few _ _ _ _ h2).mono ?_
  rintro e w' ⟨rfl, rfl⟩
  go_wp2
  go_ret
  exact ⟨rfl, rfl⟩

/-- isFinite of a finite float. -/
theorem fin_any (v : Nat) (w : World) (hv : Fnt v) : Calls Trym.prog 19 #[.float .f64 v] w fun e w' => e = .returned (.bool true) ∧ w' = w := by
  have hU := U_pos
  obtain ⟨e, f, nr⟩ := sub_ok hv hv (by rw [Int.sub_self]; have := CbU; omega) (by rw [Int.sub_self]; have := CbU; omega)
  have hz : V (fsub v v) = 0 := by
    rw [Int.sub_self] at nr
    exact near_zero (by simpa using nr)
  have r1 := fun w => run_float_arith (P := Trym.prog) w .sub 26 .f64 v v _ e
  have ho : FloatKind.f64.format.order (fsub v v) 0 = some (compare (V (fsub v v)) (V 0)) := order_spec f fin_zero.1
  rw [hz, fin_zero.2, Int.compare_eq_eq.2 rfl] at ho
  have hb : (FloatKind.f64.format.order (fsub v v) 0 == some Ordering.eq) = true := by rw [ho]; rfl
  generalize fsub v v = z at *
  clear e f nr hz ho hU
  go_enter Trym.func19, Trym.ntmps19
  go_wp2
  go_ret
  exact ⟨by simp, rfl⟩

/-! ### The other sign -/
theorem neg_read (x : Nat) (s : Bool) (m : Nat) (i : Int) (h : Ieee.double.read x = .number s m i) : Ieee.double.read (Op.negFloat .f64 x) = .number (!s) m i := by
  have e : Op.negFloat .f64 x = x ^^^ 2 ^ 63 := rfl
  rw [e]
  have h1 : (x ^^^ 2 ^ 63) % 9223372036854775808 = x % 9223372036854775808 := by
    rw [show (9223372036854775808 : Nat) = 2 ^ 63 from rfl, Nat.xor_mod_two_pow]
    simp
  have h2 : ((x ^^^ 2 ^ 63) / 9223372036854775808 % 2 == 1) = !(x / 9223372036854775808 % 2 == 1) := by
    have t1 := Nat.testBit_eq_decide_div_mod_eq (x := x ^^^ 2 ^ 63) (i := 63)
    have t2 := Nat.testBit_eq_decide_div_mod_eq (x := x) (i := 63)
    rw [Nat.testBit_xor, Nat.testBit_two_pow_self] at t1
    have e1 : ∀ y : Nat, (y == 1) = decide (y = 1) := fun y => by by_cases c : y = 1 <;> simp [c]
    rw [e1, e1]
    rw [show (9223372036854775808 : Nat) = 2 ^ 63 from rfl]
    rw [← t1, ← t2]
    simp
  unfold Ieee.Format.read at h ⊢
  simp only [least, binade_eq, inf_eq, sign_eq] at h ⊢
  rw [h1, h2]
  generalize x % 9223372036854775808 = r at *
  generalize (x / 9223372036854775808 % 2 == 1) = b at *
  by_cases c1 : r < 4503599627370496
  · rw [if_pos c1] at h ⊢
    simp only [Ieee.Datum.number.injEq] at h ⊢
    obtain ⟨rfl, rfl, rfl⟩ := h
    exact ⟨rfl, rfl, rfl⟩
  · rw [if_neg c1] at h ⊢
    by_cases c2 : r < 9218868437227405312
    · rw [if_pos c2] at h ⊢
      simp only [Ieee.Datum.number.injEq] at h ⊢
      obtain ⟨rfl, rfl, rfl⟩ := h
      exact ⟨rfl, rfl, rfl⟩
    · rw [if_neg c2] at h
      split at h <;> cases h

theorem neg_ok (x : Nat) (h : Fnt x) : Fnt (Op.negFloat .f64 x) ∧ V (Op.negFloat .f64 x) = -V x := by
  obtain ⟨s, m, i, e⟩ := h
  have e' := neg_read x s m i e
  refine ⟨⟨_, _, _, e'⟩, ?_⟩
  rw [V_of e, V_of e']
  cases s <;> simp

/-- Unary minus on a float, for the walk (the kit has it for integers). -/
theorem unary_neg_float (k : FloatKind) (b : Nat) : Op.unary .neg (.float k b) = pure (.float k (Op.negFloat k b)) := rfl
attribute [local go_sem] unary_neg_float

/-- absF of a finite float. -/
theorem abs_any (x : Nat) (w : World) (h : Fnt x) : Calls Trym.prog 20 #[.float .f64 x] w fun e w' => ∃ y, e = .returned (.float .f64 y) ∧ w' = w ∧ Hid (Fnt y ∧ V y = ((V x).natAbs : Int)) := by
  have ho : FloatKind.f64.format.order x 0 = some (compare (V x) (V 0)) := order_spec h fin_zero.1
  rw [fin_zero.2] at ho
  by_cases c : V x < 0
  · have hb : (FloatKind.f64.format.order x 0 == some Ordering.lt) = true := by rw [ho, Int.compare_eq_lt.2 c]; rfl
    have hres : Hid (Fnt (Op.negFloat .f64 x) ∧ V (Op.negFloat .f64 x) = ((V x).natAbs : Int)) := by
      obtain ⟨a, b⟩ := neg_ok x h
      exact ⟨a, by rw [b]; omega⟩
    clear ho c h
    go_enter Trym.func20, Trym.ntmps20
    go_wp2
    go_ret
    exact ⟨_, rfl, rfl, hres⟩
  · have hb : (FloatKind.f64.format.order x 0 == some Ordering.lt) = false := by
      rw [ho]
      rcases Int.lt_or_eq_of_le (show 0 ≤ V x by omega) with h | h
      · rw [Int.compare_eq_gt.2 h]; rfl
      · rw [Int.compare_eq_eq.2 h.symm]; rfl
    have hres : Hid (Fnt x ∧ V x = ((V x).natAbs : Int)) := ⟨h, by omega⟩
    clear ho c h
    go_enter Trym.func20, Trym.ntmps20
    go_wp2
    go_ret
    exact ⟨_, rfl, rfl, hres⟩
end Vw
end Go.Proofs.Qxb6601435aMods
