/-
  The proof of 'Rows.FnShareFitNextKeepsBoundsItStandsOnSaid'. The frame is the guide's template turned to floats by hand; the walk is ours.
-/
import Derived.Test.Qxb6601435aModsRows
import Derived.WalkKit
import Derived.ProofKit
import Derived.OpenShut
import Derived.ShutString
import Derived.Test.Qxb6601435aModsSx
import Derived.Laws.Cover2
namespace Go.Proofs.Qxb6601435aMods.fnShareFitNextKeepsBoundsItStandsOn
open Go.ChangeShapes Go.WideShapes Go.ChangeAt Go.RowKit
open Go.ChangeMaps (open_string shut_string)
set_option linter.unusedVariables false

theorem own : ownKnob Trym.prog.godebug = none := by kernel_rfl

/-! ### STEP 1: THE WALK -/
open Tl Fl Vf Sd Sf

theorem eq_b {x y : Nat} (hx : Num x) (hy : Num y) : (FloatKind.f64.format.order x y == some Ordering.eq) = decide (W x = W y) := by
  have ho : FloatKind.f64.format.order x y = some (compare (W x) (W y)) := order_num hx hy
  rw [ho]
  rcases Int.lt_trichotomy (W x) (W y) with h | h | h
  · rw [Int.compare_eq_lt.2 h, decide_eq_false (by omega)]; rfl
  · rw [Int.compare_eq_eq.2 h, decide_eq_true h]; rfl
  · rw [Int.compare_eq_gt.2 h, decide_eq_false (by omega)]; rfl

set_option maxRecDepth 20000 in
set_option maxHeartbeats 4000000 in
theorem walk (most alpha beta scale l g0 g1 i00 i01 i11 : Nat) (nb : Bool) (w : World) :
    Calls Trym.prog 7 #[.float .f64 most, .float .f64 alpha, .float .f64 beta, .float .f64 scale, .bool nb, .float .f64 l, .float .f64 g0, .float .f64 g1, .float .f64 i00, .float .f64 i01, .float .f64 i11] w fun e w' => e = .returned (.bool true) ∧ Below w.heap.size w w' := by
  go_enter Trym.func7, Trym.ntmps7
  go_wp2_with fail
  refine (nd_any most alpha beta g0 g1 i00 i01 i11 _).mono ?_
  rintro e w1 ⟨r, rfl, hw, hr⟩
  subst hw
  cases r
  · go_wp2
    go_ret
    exact ⟨rfl, Below.refl _ _⟩
  have HD : Hid _ := hr rfl
  clear hr
  go_wp2_with fail
  refine (zz_any most alpha beta scale l g0 g1 i00 i01 i11 nb _ HD.out).mono ?_
  rintro e w2 ⟨a, b, rfl, bel, hG⟩
  have G := hG.out
  have D := HD.out
  have nb' : Num b := by
    rcases G.hb with h | ⟨_, h, _⟩
    · exact .inl h
    · exact h
  have o0 : (FloatKind.f64.format.order 0 0 == some Ordering.eq) = true := by rw [eq_b (.inl fin_zero.1) (.inl fin_zero.1)]; simp
  have o1 := ge_b (.inl G.fa) (.inl F_n60)
  rw [W_fin G.fa, W_fin F_n60, decide_eq_true G.a60] at o1
  obtain ⟨xA, oA⟩ : ∃ x, (FloatKind.f64.format.order alpha most == some Ordering.eq) = x := ⟨_, rfl⟩
  obtain ⟨xB, oB⟩ : ∃ x, (FloatKind.f64.format.order beta 0 == some Ordering.eq) = x := ⟨_, rfl⟩
  have kA : Hid (xA = true → (FloatKind.f64.format.order a most == some Ordering.lt || FloatKind.f64.format.order a most == some Ordering.eq) = true) := fun h => by
    rw [← oA, eq_b (.inl D.fa) (.inl D.fm), W_fin D.fa, W_fin D.fm] at h
    have := G.ka (of_decide_eq_true h)
    rw [le_b (.inl G.fa) (.inl D.fm), W_fin G.fa, W_fin D.fm]; exact decide_eq_true this
  have kB : Hid (xB = true → (FloatKind.f64.format.order b 0 == some Ordering.lt || FloatKind.f64.format.order b 0 == some Ordering.eq) = true) := fun h => by
    rw [← oB, eq_b (.inl D.fb) (.inl fin_zero.1), W_fin D.fb, W_zero] at h
    have := G.kb (of_decide_eq_true h)
    rw [le_b nb' (.inl fin_zero.1), W_zero]; exact decide_eq_true this
  have CA : Hid _ := fun w => Vw.fin_any a w G.fa
  have bf : Fnt b ∨ (∃ s, Ieee.double.read b = .infinity s) ∧ (FloatKind.f64.format.order i11 0 == some Ordering.eq) = true ∧ (FloatKind.f64.format.order b 18442240474082181119 == some Ordering.lt) = true := by
    rcases G.hb with h | ⟨h1, h2, h3⟩
    · exact .inl h
    · rcases h2 with h2 | ⟨s, h2⟩
      · exact .inl h2
      · refine .inr ⟨⟨s, h2⟩, ?_, ?_⟩
        · rw [eq_b (.inl D.dC.1) (.inl fin_zero.1), W_fin D.dC.1, W_zero]; exact decide_eq_true h1
        · rw [lt_b (.inr ⟨s, h2⟩) (.inl F_mxn)]
          apply decide_eq_true
          have hs := V_small F_mxn
          have hB := BG_pos
          rw [W_inf h2] at h3 ⊢
          rw [W_fin F_mxn]
          cases s <;> simp only [sg, if_true, Bool.false_eq_true, if_false] at h3 ⊢ <;> omega
  clear D G hG nb'
  go_wp2_with fail
  refine (CA.out _).mono ?_
  rintro e w3 ⟨rfl, hw⟩
  subst hw
  rcases bf with h | ⟨⟨s, h⟩, o2, o3⟩
  · have CB : Hid _ := fun w => Vw.fin_any b w h
    clear h
    go_wp2_with fail
    refine (CB.out _).mono ?_
    rintro e w4 ⟨rfl, hw⟩
    subst hw
    cases xA
    · cases xB
      · go_wp2
        go_ret
        exact ⟨rfl, bel⟩
      · have o4 := kB.out rfl
        go_wp2
        go_ret
        exact ⟨rfl, bel⟩
    · have o5 := kA.out rfl
      cases xB
      · go_wp2
        go_ret
        exact ⟨rfl, bel⟩
      · have o4 := kB.out rfl
        go_wp2
        go_ret
        exact ⟨rfl, bel⟩
  · have CB : Hid _ := fun w => fin_inf b s w h
    clear h
    go_wp2_with fail
    refine (CB.out _).mono ?_
    rintro e w4 ⟨rfl, hw⟩
    subst hw
    cases xA
    · cases xB
      · go_wp2
        go_ret
        exact ⟨rfl, bel.drew⟩
      · have o4 := kB.out rfl
        go_wp2
        go_ret
        exact ⟨rfl, bel.drew⟩
    · have o5 := kA.out rfl
      cases xB
      · go_wp2
        go_ret
        exact ⟨rfl, bel.drew⟩
      · have o4 := kB.out rfl
        go_wp2
        go_ret
        exact ⟨rfl, bel.drew⟩

/-! ### THE ROW's STEP -/
set_option maxRecDepth 100000 in
theorem lifted (os : Os) (started : os.Started) (H : Type) (enc : TypeId × Value → H) :
    ReturnsInHanded {} Trym.checked os 7 .any (Rows.fnShareFitNextKeepsBoundsItStandsOnSpec.pre6 enc Trym.prog Trym.f7 Rows.fnShareFitNextKeepsBoundsItStandsOnRow.domain false) (Rows.fnShareFitNextKeepsBoundsItStandsOnSpec.post enc Trym.prog Trym.f7 false true false false) := by
  refine returnsInHanded_of_change (C := Trym.checked) own started (by kernel_rfl) Trym.func7
    (ChangeSpec.witness6 (enc := enc) (C := Trym.checked) false ⟨#[], #[.float .f64 0, .float .f64 0, .float .f64 0, .float .f64 0, .bool false, .float .f64 0, .float .f64 0, .float .f64 0, .float .f64 0, .float .f64 0, .float .f64 0], []⟩ 8 (by kernel_rfl) (by kernel_rfl) (by kernel_rfl) (by kernel_rfl)) ?_
  intro W base args ds gs before hval0 hW hcnd _
  have hval : ∀ (j : Nat) t v, Trym.f7.params[j]? = some t → args[j]? = some v → Value.okWide Trym.prog W .any base t v := hval0
  have hW' := hW
  obtain ⟨p, q, hA0, hV, rfl, hfz, hnd⟩ := hW
  have hA : DataW.TrodAll enc Trym.prog W 0 (fun _ => true) true Trym.f7.params.toList args.toList ds p := hA0
  rw [Trym.params7] at hA hval
  obtain ⟨v0, vs0, d0, ds0, p0, q0, hargs, rfl, rfl, h0, r0⟩ := trodAll_cons hA
  obtain ⟨v1, vs1, d1, ds1, p1, q1, rfl, rfl, rfl, h1, r1⟩ := trodAll_cons r0
  obtain ⟨v2, vs2, d2, ds2, p2, q2, rfl, rfl, rfl, h2, r2⟩ := trodAll_cons r1
  obtain ⟨v3, vs3, d3, ds3, p3, q3, rfl, rfl, rfl, h3, r3⟩ := trodAll_cons r2
  obtain ⟨v4, vs4, d4, ds4, p4, q4, rfl, rfl, rfl, h4, r4⟩ := trodAll_cons r3
  obtain ⟨v5, vs5, d5, ds5, p5, q5, rfl, rfl, rfl, h5, r5⟩ := trodAll_cons r4
  obtain ⟨v6, vs6, d6, ds6, p6, q6, rfl, rfl, rfl, h6, r6⟩ := trodAll_cons r5
  obtain ⟨v7, vs7, d7, ds7, p7, q7, rfl, rfl, rfl, h7, r7⟩ := trodAll_cons r6
  obtain ⟨v8, vs8, d8, ds8, p8, q8, rfl, rfl, rfl, h8, r8⟩ := trodAll_cons r7
  obtain ⟨v9, vs9, d9, ds9, p9, q9, rfl, rfl, rfl, h9, r9⟩ := trodAll_cons r8
  obtain ⟨v10, vs10, d10, ds10, p10, q10, rfl, rfl, rfl, h10, r10⟩ := trodAll_cons r9
  obtain ⟨rfl, rfl, rfl⟩ := trodAll_nil r10
  obtain rfl : args = #[v0, v1, v2, v3, v4, v5, v6, v7, v8, v9, v10] := by cases args; simp_all
  obtain ⟨rfl, rfl⟩ := trodVars_none hV
  obtain ⟨a0, rfl, rfl, rfl, w0⟩ := open_float Trym.underlying26 (hval 0 26 v0 rfl rfl) h0
  obtain ⟨a1, rfl, rfl, rfl, w1⟩ := open_float Trym.underlying26 (hval 1 26 v1 rfl rfl) h1
  obtain ⟨a2, rfl, rfl, rfl, w2⟩ := open_float Trym.underlying26 (hval 2 26 v2 rfl rfl) h2
  obtain ⟨a3, rfl, rfl, rfl, w3⟩ := open_float Trym.underlying26 (hval 3 26 v3 rfl rfl) h3
  obtain ⟨a4, rfl, rfl, rfl⟩ := open_bool Trym.underlying4 (hval 4 4 v4 rfl rfl) h4
  obtain ⟨a5, rfl, rfl, rfl, w5⟩ := open_float Trym.underlying26 (hval 5 26 v5 rfl rfl) h5
  obtain ⟨a6, rfl, rfl, rfl, w6⟩ := open_float Trym.underlying26 (hval 6 26 v6 rfl rfl) h6
  obtain ⟨a7, rfl, rfl, rfl, w7⟩ := open_float Trym.underlying26 (hval 7 26 v7 rfl rfl) h7
  obtain ⟨a8, rfl, rfl, rfl, w8⟩ := open_float Trym.underlying26 (hval 8 26 v8 rfl rfl) h8
  obtain ⟨a9, rfl, rfl, rfl, w9⟩ := open_float Trym.underlying26 (hval 9 26 v9 rfl rfl) h9
  obtain ⟨a10, rfl, rfl, rfl, w10⟩ := open_float Trym.underlying26 (hval 10 26 v10 rfl rfl) h10
  clear hA0 hval0
  simp only [List.append_nil] at hW'
  refine (walk a0 a1 a2 a3 a5 a6 a7 a8 a9 a10 a4 W).mono fun e W' ⟨he, bel⟩ => ?_
  subst he
  exact ⟨_, rfl, _, _, _, [], _, [], hW', trodAll_mk1 (shut_bool Trym.underlying4 _), (trodAll_cons_mk (shut_float Trym.underlying26 w0) (trodAll_cons_mk (shut_float Trym.underlying26 w1) (trodAll_cons_mk (shut_float Trym.underlying26 w2) (trodAll_cons_mk (shut_float Trym.underlying26 w3) (trodAll_cons_mk (shut_bool Trym.underlying4 _) (trodAll_cons_mk (shut_float Trym.underlying26 w5) (trodAll_cons_mk (shut_float Trym.underlying26 w6) (trodAll_cons_mk (shut_float Trym.underlying26 w7) (trodAll_cons_mk (shut_float Trym.underlying26 w8) (trodAll_cons_mk (shut_float Trym.underlying26 w9) (trodAll_cons_mk (shut_float Trym.underlying26 w10) trodAll_mk0))))))))))), rfl, bel.frame _, fun h => by cases h⟩

theorem over : Rows.fnShareFitNextKeepsBoundsItStandsOnRow.holds Trym.pinned (OpenSpec.ofChange Rows.fnShareFitNextKeepsBoundsItStandsOnSpec) :=
  OpenClaim.holds_of_wide 7 Trym.f7 rfl rfl rfl rfl rfl rfl rfl ⟨rfl, rfl, rfl, rfl, rfl⟩ rfl rfl rfl rfl rfl (by kernel_rfl) Trym.func7 (by kernel_rfl)
    (of_decide_eq_true (by kernel_rfl)) (by unfold Func.isWrapper; first | (rw [if_pos (by decide +kernel)]; kernel_rfl) | (rw [if_neg (by decide +kernel)]; exact ⟨rfl, rfl⟩))
    (fun os started H enc _ => lifted os started H enc)

/-- ████ THE STATEMENT ████ -/
theorem proved : Rows.FnShareFitNextKeepsBoundsItStandsOnSaid := over
#print axioms proved
end Go.Proofs.Qxb6601435aMods.fnShareFitNextKeepsBoundsItStandsOn
