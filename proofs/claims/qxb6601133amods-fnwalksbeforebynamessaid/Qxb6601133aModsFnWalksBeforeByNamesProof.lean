/-
  The proof of 'Rows.FnWalksBeforeByNamesSaid'. The frame is the guide's template, written by its tool (proof-skeleton.mjs) for this function; the walk is ours.
-/
import Derived.Test.Qxb6601133aModsRows
import Derived.WalkKit
import Derived.ProofKit
import Derived.OpenShut
import Derived.ShutString
import Derived.Test.Qxb6601133aModsSplit
namespace Go.Proofs.Qxb6601133aMods.fnWalksBeforeByNames
open Go.ChangeShapes Go.WideShapes Go.ChangeAt Go.RowKit
open Go.ChangeMaps (open_string shut_string)
set_option linter.unusedVariables false      -- a walk need not use every 'w<i>' (that an integer argument fits its kind)

theorem own : ownKnob Trym.prog.godebug = none := by kernel_rfl

/-! ### STEP 1: THE WALK: the Go text returns true. -/
set_option maxHeartbeats 400000 in
theorem bytes_yes (a b : ByteArray) (w : World) (h : a.size + b.size ≤ 1048576) :
    Calls Trym.prog 8 #[.string a, .string b] w fun e w' => e = .returned (.bool true) ∧ w' = w := by
  go_enter Trym.func8, Trym.ntmps8
  go_wp2
  go_ret
  exact ⟨rfl, rfl⟩

set_option maxHeartbeats 400000 in
theorem bytes_no (a b : ByteArray) (w : World) (ha : a.size ≤ maxLen) (hb : b.size ≤ maxLen) (h : ¬ a.size + b.size ≤ 1048576) :
    Calls Trym.prog 8 #[.string a, .string b] w fun e w' => e = .returned (.bool false) ∧ w' = w := by
  unfold maxLen at ha hb
  go_enter Trym.func8, Trym.ntmps8
  go_wp2
  all_goals (go_ret; exact ⟨rfl, rfl⟩)

theorem below_draws {B : Nat} {a w : World} (h : Below B a w) (n : Nat) : Below B a (w.drewN n) := ⟨h.os, h.tape, h.output, h.size, h.block⟩

theorem own_slice {w : World} {B : Nat} {v : Value} {outs : List ByteArray} (h : w.ownsRow B 9 1 v outs.length (outs.map Value.string)) (hne : outs ≠ []) :
    ∃ g cap, v = .slice (some ⟨g, 0, none⟩) outs.length cap ∧ g < w.heap.size ∧ ∀ j (hj : j < outs.length), w.cell? ⟨g, 0 + j, none⟩ = some (.string outs[j]) := by
  have hl := h.lt
  rcases h.2 with ⟨_, hn⟩ | ⟨g, cap, cur, rfl, _⟩
  · exact absurd (List.eq_nil_of_length_eq_zero hn) hne
  · refine ⟨g, cap, rfl, (hl g rfl).2, fun j hj => ?_⟩
    rw [Nat.zero_add, h.cellAt j (by omega)]
    simp [hj]

theorem split_cells (s : ByteArray) (w : World) (hs : s.size ≤ 1048576) :
    Calls Trym.prog 11 #[.string s] w fun e w' => ∃ (g cap n : Nat) (outs : List ByteArray), e = .returned (.slice (some ⟨g, 0, none⟩) n cap) ∧ outs.length = n ∧ n ≤ 1048577 ∧ g < w'.heap.size ∧
      (∀ j (hj : j < outs.length), w'.cell? ⟨g, 0 + j, none⟩ = some (.string outs[j])) ∧ (∀ j (hj : j < outs.length), outs[j].size ≤ maxLen) ∧ Nm.L outs = Pl.split s.data.toList ∧ Below w.heap.size w w' := by
  refine (Sp.split_any s w hs).mono ?_
  rintro e w' ⟨v, outs, rfl, hown, hL, hsz, hlen, hb⟩
  have hne : outs ≠ [] := by
    intro h; subst h
    obtain ⟨a, t, e⟩ := Pl.split_ne s.data.toList
    rw [e] at hL; cases hL
  obtain ⟨g, cap, rfl, hg, hc⟩ := own_slice hown hne
  exact ⟨g, cap, outs.length, outs, rfl, rfl, by omega, hg, hc, fun j hj => by have := hsz _ (List.getElem_mem hj); unfold maxLen; omega, hL, hb⟩

set_option maxHeartbeats 1000000 in
theorem walk (a0 : ByteArray) (a1 : ByteArray) (w0 : a0.size ≤ maxLen) (w1 : a1.size ≤ maxLen) (w : World) :
    Calls Trym.prog 3 #[.string a0, .string a1] w fun e w' => e = .returned (.bool true) ∧ Below w.heap.size w w' := by
  by_cases h : a0.size + a1.size ≤ 1048576
  · have hw : Hid _ := Pl.wb_names a0.data.toList a1.data.toList
    go_enter Trym.func3, Trym.ntmps3
    go_wp2_with fail
    refine (bytes_yes _ _ _ h).mono ?_
    rintro e w' ⟨rfl, rfl⟩
    go_wp2_with fail
    refine (Wb.zz_any _ _ _ w0 w1).mono ?_
    rintro e w' ⟨rfl, n1, rfl⟩
    go_wp2_with fail
    refine (split_cells _ _ (by omega)).mono ?_
    rintro e wa ⟨ga, capa, na, oa, rfl, hla, hna, hga, hca, hsa, hLa, hba⟩
    have HCA : Hid _ := hca
    have HSA : Hid _ := hsa
    have HLA : Hid _ := hLa
    have HLLA : Hid _ := hla
    clear hca hsa hLa hla
    go_wp2_with fail
    refine (split_cells _ _ (by omega)).mono ?_
    rintro e wb ⟨gb, capb, nb, ob, rfl, hlb, hnb, hgb, hcb, hsb, hLb, hbb⟩
    have hca' : ∀ j (hj : j < oa.length), wb.cell? ⟨ga, 0 + j, none⟩ = some (.string oa[j]) := fun j hj => (hbb.cell (p := ⟨ga, 0 + j, none⟩) hga).trans (HCA.out j hj)
    have HCA' : Hid _ := hca'
    have HCB : Hid _ := hcb
    have HSB : Hid _ := hsb
    have HLB : Hid _ := hLb
    have HLLB : Hid _ := hlb
    clear hca' hcb hsb hLb hlb
    go_wp2_with fail
    refine (Nm.names_any ga 0 na capa gb 0 nb capb oa ob _ HLLA.out HLLB.out hna hnb HCA'.out HCB.out HSA.out HSB.out).mono ?_
    rintro e w' ⟨rfl, n2, rfl⟩
    rw [HLA.out, HLB.out, ← hw.out]
    go_wp2_with fail
    go_ret
    refine ⟨by simp, ?_⟩
    exact below_draws (((below_draws (Below.refl _ _) n1).trans hba).trans (hbb.mono (by have := hba.size; simpa using this))) n2
  · go_enter Trym.func3, Trym.ntmps3
    go_wp2_with fail
    refine (bytes_no _ _ _ w0 w1 h).mono ?_
    rintro e w' ⟨rfl, rfl⟩
    go_wp2
    go_ret
    exact ⟨rfl, Below.refl _ _⟩

/-! ### THE ROW's STEP: WRITTEN OUT: LEAVE IT -/
set_option maxRecDepth 100000 in
theorem lifted (os : Os) (started : os.Started) (H : Type) (enc : TypeId × Value → H) :
    ReturnsInHanded {} Trym.checked os 3 .any (Rows.fnWalksBeforeByNamesSpec.pre6 enc Trym.prog Trym.f3 Rows.fnWalksBeforeByNamesRow.domain false) (Rows.fnWalksBeforeByNamesSpec.post enc Trym.prog Trym.f3 false true false false) := by
  refine returnsInHanded_of_change (C := Trym.checked) own started (by kernel_rfl) Trym.func3
    (ChangeSpec.witness6 (enc := enc) (C := Trym.checked) false ⟨#[], #[.string ByteArray.empty, .string ByteArray.empty], []⟩ 8 (by kernel_rfl) (by kernel_rfl) (by kernel_rfl) (by kernel_rfl)) ?_
  intro W base args ds gs before hval0 hW hcnd _
  have hval : ∀ (j : Nat) t v, Trym.f3.params[j]? = some t → args[j]? = some v → Value.okWide Trym.prog W .any base t v := hval0
  have hW' := hW
  obtain ⟨p, q, hA0, hV, rfl, hfz, hnd⟩ := hW
  have hA : DataW.TrodAll enc Trym.prog W 0 (fun _ => true) true Trym.f3.params.toList args.toList ds p := hA0
  rw [Trym.params3] at hA hval
  obtain ⟨v0, vs0, d0, ds0, p0, q0, hargs, rfl, rfl, h0, r0⟩ := trodAll_cons hA
  obtain ⟨v1, vs1, d1, ds1, p1, q1, rfl, rfl, rfl, h1, r1⟩ := trodAll_cons r0
  obtain ⟨rfl, rfl, rfl⟩ := trodAll_nil r1
  obtain rfl : args = #[v0, v1] := by cases args; simp_all
  obtain ⟨rfl, rfl⟩ := trodVars_none hV
  obtain ⟨a0, rfl, rfl, rfl, w0⟩ := open_string Trym.underlying9 (hval 0 9 v0 rfl rfl) h0
  obtain ⟨a1, rfl, rfl, rfl, w1⟩ := open_string Trym.underlying9 (hval 1 9 v1 rfl rfl) h1
  clear hA0 hval0
  simp only [List.append_nil] at hW'
  refine (walk a0 a1 w0 w1 W).mono fun e W' ⟨he, bel⟩ => ?_
  subst he
  exact ⟨_, rfl, _, _, _, [], _, [], hW', trodAll_mk1 (shut_bool Trym.underlying4 _), (trodAll_cons_mk (shut_string Trym.underlying9 w0) (trodAll_cons_mk (shut_string Trym.underlying9 w1) trodAll_mk0)), rfl, bel.frame _, fun h => by cases h⟩

theorem over : Rows.fnWalksBeforeByNamesRow.holds Trym.pinned (OpenSpec.ofChange Rows.fnWalksBeforeByNamesSpec) :=
  OpenClaim.holds_of_wide 3 Trym.f3 rfl rfl rfl rfl rfl rfl rfl ⟨rfl, rfl, rfl, rfl, rfl⟩ rfl rfl rfl rfl rfl (by kernel_rfl) Trym.func3 (by kernel_rfl)
    (of_decide_eq_true (by kernel_rfl)) (by unfold Func.isWrapper; first | (rw [if_pos (by decide +kernel)]; kernel_rfl) | (rw [if_neg (by decide +kernel)]; exact ⟨rfl, rfl⟩))
    (fun os started H enc _ => lifted os started H enc)

/-- ████ THE STATEMENT ████ -/
theorem proved : Rows.FnWalksBeforeByNamesSaid :=
  over
#print axioms proved
end Go.Proofs.Qxb6601133aMods.fnWalksBeforeByNames
