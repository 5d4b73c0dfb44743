/-
  The proof of 'Rows.FnWalksBeforeStrictOrderSaid'. The frame is the guide's template, written by its tool (proof-skeleton.mjs) for this function; the walk is ours.
-/
import Derived.Test.Qxb6601133aModsRows
import Derived.WalkKit
import Derived.ProofKit
import Derived.OpenShut
import Derived.ShutString
import Derived.Test.Qxb6601133aModsWb
namespace Go.Proofs.Qxb6601133aMods.fnWalksBeforeStrictOrder
open Go.ChangeShapes Go.WideShapes Go.ChangeAt Go.RowKit
open Go.ChangeMaps (open_string shut_string)
set_option linter.unusedVariables false      -- a walk need not use every 'w<i>' (that an integer argument fits its kind)

theorem own : ownKnob Trym.prog.godebug = none := by kernel_rfl

/-! ### STEP 1: THE WALK: the Go text returns true. -/
theorem grown_drewN {W w' : World} (h : Grown W w') (n : Nat) : Grown W (w'.drewN n) := h

set_option maxHeartbeats 400000 in
theorem bytes_yes (a b c : ByteArray) (w : World) (h : a.size + b.size + c.size ≤ 1048576) :
    Calls Trym.prog 12 #[.string a, .string b, .string c] w fun e w' => e = .returned (.bool true) ∧ w' = w := by
  go_enter Trym.func12, Trym.ntmps12
  go_wp2
  go_ret
  exact ⟨rfl, rfl⟩

set_option maxHeartbeats 400000 in
theorem bytes_no (a b c : ByteArray) (w : World) (ha : a.size ≤ maxLen) (hb : b.size ≤ maxLen) (hc : c.size ≤ maxLen) (h : ¬ a.size + b.size + c.size ≤ 1048576) :
    Calls Trym.prog 12 #[.string a, .string b, .string c] w fun e w' => e = .returned (.bool false) ∧ w' = w := by
  unfold maxLen at ha hb hc
  go_enter Trym.func12, Trym.ntmps12
  go_wp2
  all_goals (go_ret; exact ⟨rfl, rfl⟩)

set_option maxHeartbeats 1000000 in
theorem walk_in (a0 a1 a2 : ByteArray) (w : World) (h : a0.size + a1.size + a2.size ≤ 1048576) (ab ba bc ac : Bool)
    (hab : Pl.wb a0.data.toList a1.data.toList = ab) (hba : Pl.wb a1.data.toList a0.data.toList = ba)
    (hbc : Pl.wb a1.data.toList a2.data.toList = bc) (hac : Pl.wb a0.data.toList a2.data.toList = ac)
    (sm : Bool) (hs : decide (a0.data.toList = a1.data.toList) = sm)
    (h1 : sm = true → ab = false ∧ ba = false) (h2 : sm = false → (ab == ba) = false) (h3 : ab = true → bc = true → ac = true) :
    Calls Trym.prog 4 #[.string a0, .string a1, .string a2] w fun e w' => e = .returned (.bool true) ∧ ∃ n, w' = w.drewN n := by
  have c01 := fun w => Wb.zz_any a0 a1 w (by unfold maxLen; omega) (by unfold maxLen; omega)
  have c10 := fun w => Wb.zz_any a1 a0 w (by unfold maxLen; omega) (by unfold maxLen; omega)
  have c12 := fun w => Wb.zz_any a1 a2 w (by unfold maxLen; omega) (by unfold maxLen; omega)
  have c02 := fun w => Wb.zz_any a0 a2 w (by unfold maxLen; omega) (by unfold maxLen; omega)
  have cs := fun w => Wb.same_any a0 a1 w (by unfold maxLen; omega) (by unfold maxLen; omega)
  rw [hab] at c01; rw [hba] at c10; rw [hbc] at c12; rw [hac] at c02; rw [hs] at cs
  have C01 : Hid _ := c01
  have C10 : Hid _ := c10
  have C12 : Hid _ := c12
  have C02 : Hid _ := c02
  have CS : Hid _ := cs
  clear c01 c10 c12 c02 cs hab hba hbc hac hs
  have cases : (sm = true ∧ ab = false ∧ ba = false) ∨ (sm = false ∧ ab = false ∧ ba = true) ∨ (sm = false ∧ ab = true ∧ ba = false ∧ bc = false) ∨ (sm = false ∧ ab = true ∧ ba = false ∧ bc = true ∧ ac = true) := by
    revert h1 h2 h3; clear C01 C10 C12 C02 CS; revert sm ab ba bc ac; decide
  clear h1 h2 h3
  rcases cases with ⟨rfl, rfl, rfl⟩ | ⟨rfl, rfl, rfl⟩ | ⟨rfl, rfl, rfl, rfl⟩ | ⟨rfl, rfl, rfl, rfl, rfl⟩
  all_goals
    go_enter Trym.func4, Trym.ntmps4
    go_wp2_with fail
    refine (bytes_yes _ _ _ _ h).mono ?_
    rintro e w' ⟨rfl, rfl⟩
    go_wp2_with fail
    refine (C01.out _).mono ?_
    rintro e w' ⟨rfl, n1, rfl⟩
    go_wp2_with fail
    refine (C10.out _).mono ?_
    rintro e w' ⟨rfl, n2, rfl⟩
    go_wp2_with fail
    refine (CS.out _).mono ?_
    rintro e w' ⟨rfl, n3, rfl⟩
    go_wp2_with fail
  · go_ret
    exact ⟨rfl, _, rfl⟩
  · go_ret
    exact ⟨rfl, _, rfl⟩
  · refine (C12.out _).mono ?_
    rintro e w' ⟨rfl, n4, rfl⟩
    go_wp2_with fail
    go_ret
    exact ⟨rfl, _, rfl⟩
  · refine (C12.out _).mono ?_
    rintro e w' ⟨rfl, n4, rfl⟩
    go_wp2_with fail
    refine (C02.out _).mono ?_
    rintro e w' ⟨rfl, n5, rfl⟩
    go_wp2_with fail
    go_ret
    exact ⟨rfl, _, rfl⟩

theorem walk (a0 : ByteArray) (a1 : ByteArray) (a2 : ByteArray) (w0 : a0.size ≤ maxLen) (w1 : a1.size ≤ maxLen) (w2 : a2.size ≤ maxLen) (w : World) :
    Calls Trym.prog 4 #[.string a0, .string a1, .string a2] w fun e w' => e = .returned (.bool true) ∧ Grown w w' := by
  by_cases h : a0.size + a1.size + a2.size ≤ 1048576
  · refine (walk_in a0 a1 a2 w h _ _ _ _ rfl rfl rfl rfl _ rfl ?_ ?_ ?_).mono ?_
    · intro hs
      have e : a0.data.toList = a1.data.toList := by simpa using hs
      rw [e]; exact ⟨Pl.wb_irrefl _, Pl.wb_irrefl _⟩
    · intro hs
      exact Pl.wb_total _ _ (by simpa using hs)
    · exact Pl.wb_trans _ _ _
    · rintro e w' ⟨rfl, n, rfl⟩
      exact ⟨rfl, Grown.refl w⟩
  · go_enter Trym.func4, Trym.ntmps4
    go_wp2_with fail
    refine (bytes_no _ _ _ _ w0 w1 w2 h).mono ?_
    rintro e w' ⟨rfl, rfl⟩
    go_wp2
    go_ret
    exact ⟨rfl, Grown.refl _⟩

/-! ### THE ROW's STEP: WRITTEN OUT: LEAVE IT -/
set_option maxRecDepth 100000 in
theorem lifted (os : Os) (started : os.Started) (H : Type) (enc : TypeId × Value → H) :
    ReturnsInHanded {} Trym.checked os 4 .any (Rows.fnWalksBeforeStrictOrderSpec.pre6 enc Trym.prog Trym.f4 Rows.fnWalksBeforeStrictOrderRow.domain false) (Rows.fnWalksBeforeStrictOrderSpec.post enc Trym.prog Trym.f4 false true false false) := by
  refine returnsInHanded_of_change (C := Trym.checked) own started (by kernel_rfl) Trym.func4
    (ChangeSpec.witness6 (enc := enc) (C := Trym.checked) false ⟨#[], #[.string ByteArray.empty, .string ByteArray.empty, .string ByteArray.empty], []⟩ 8 (by kernel_rfl) (by kernel_rfl) (by kernel_rfl) (by kernel_rfl)) ?_
  intro W base args ds gs before hval0 hW hcnd _
  have hval : ∀ (j : Nat) t v, Trym.f4.params[j]? = some t → args[j]? = some v → Value.okWide Trym.prog W .any base t v := hval0
  have hW' := hW
  obtain ⟨p, q, hA0, hV, rfl, hfz, hnd⟩ := hW
  have hA : DataW.TrodAll enc Trym.prog W 0 (fun _ => true) true Trym.f4.params.toList args.toList ds p := hA0
  rw [Trym.params4] at hA hval
  obtain ⟨v0, vs0, d0, ds0, p0, q0, hargs, rfl, rfl, h0, r0⟩ := trodAll_cons hA
  obtain ⟨v1, vs1, d1, ds1, p1, q1, rfl, rfl, rfl, h1, r1⟩ := trodAll_cons r0
  obtain ⟨v2, vs2, d2, ds2, p2, q2, rfl, rfl, rfl, h2, r2⟩ := trodAll_cons r1
  obtain ⟨rfl, rfl, rfl⟩ := trodAll_nil r2
  obtain rfl : args = #[v0, v1, v2] := by cases args; simp_all
  obtain ⟨rfl, rfl⟩ := trodVars_none hV
  obtain ⟨a0, rfl, rfl, rfl, w0⟩ := open_string Trym.underlying9 (hval 0 9 v0 rfl rfl) h0
  obtain ⟨a1, rfl, rfl, rfl, w1⟩ := open_string Trym.underlying9 (hval 1 9 v1 rfl rfl) h1
  obtain ⟨a2, rfl, rfl, rfl, w2⟩ := open_string Trym.underlying9 (hval 2 9 v2 rfl rfl) h2
  clear hA0 hval0
  simp only [List.append_nil] at hW'
  refine (walk a0 a1 a2 w0 w1 w2 W).mono fun e W' ⟨he, hg⟩ => ?_
  subst he
  exact ⟨_, rfl, post_of_same (pa := []) (pv := []) hW' (fun _ _ _ => (trodAll_cons_mk (shut_bool Trym.underlying4 _) trodAll_mk0)) (fun sp _ => (trodAll_cons_mk (shut_string Trym.underlying9 w0) (trodAll_cons_mk (shut_string Trym.underlying9 w1) (trodAll_cons_mk (shut_string Trym.underlying9 w2) trodAll_mk0)))) (fun _ _ => rfl) rfl
    (hg.frame _) hg.2.1 (ok_one (by kernel_rfl) rfl (okWide_bool_mk Trym.underlying4 _))⟩

theorem over : Rows.fnWalksBeforeStrictOrderRow.holds Trym.pinned (OpenSpec.ofChange Rows.fnWalksBeforeStrictOrderSpec) :=
  OpenClaim.holds_of_wide 4 Trym.f4 rfl rfl rfl rfl rfl rfl rfl ⟨rfl, rfl, rfl, rfl, rfl⟩ rfl rfl rfl rfl rfl (by kernel_rfl) Trym.func4 (by kernel_rfl)
    (of_decide_eq_true (by kernel_rfl)) (by unfold Func.isWrapper; first | (rw [if_pos (by decide +kernel)]; kernel_rfl) | (rw [if_neg (by decide +kernel)]; exact ⟨rfl, rfl⟩))
    (fun os started H enc _ => lifted os started H enc)

/-- ████ THE STATEMENT ████ -/
theorem proved : Rows.FnWalksBeforeStrictOrderSaid :=
  over
#print axioms proved
end Go.Proofs.Qxb6601133aMods.fnWalksBeforeStrictOrder
