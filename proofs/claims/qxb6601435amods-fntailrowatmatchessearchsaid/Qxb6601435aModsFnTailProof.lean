/-
  The proof of 'Rows.FnTailRowAtMatchesSearchSaid'. The frame is the guide's template (its tool's shell for slices of integers, turned to a slice of floats); the walk is ours.
-/
import Derived.Test.Qxb6601435aModsRows
import Derived.WalkKit
import Derived.ProofKit
import Derived.OpenShut
import Derived.ShutString
import Derived.Deep.Slices
import Derived.Test.Qxb6601435aModsTail
namespace Go.Proofs.Qxb6601435aMods.fnTailRowAtMatchesSearch
open Go.ChangeShapes Go.WideShapes Go.ChangeAt Go.RowKit
open Tl
set_option linter.unusedVariables false

theorem own : ownKnob Trym.prog.godebug = none := by kernel_rfl
theorem laidOut : laidOutB Trym.prog = true := by kernel_rfl

/-- What the walk is told of a slice of floats that came in. -/
structure Arg (w : World) (a : Option Addr) (n c : Nat) (xs : List Nat) : Prop where
  raw : Raw F w a n xs
  nil : a = none → n = 0 ∧ c = 0
  big : n ≤ maxLen

set_option maxHeartbeats 400000 in
theorem bytes_yes (first c : Int) (a : Option Addr) (n cp : Nat) (w : World) (h : n ≤ 1048576) :
    Calls Trym.prog 9 #[.int .u64 first, .slice a n cp, .int .u64 c] w fun e w' => e = .returned (.bool true) ∧ w' = w := by
  go_enter Trym.func9, Trym.ntmps9
  go_wp2
  go_ret
  exact ⟨rfl, rfl⟩

set_option maxHeartbeats 400000 in
theorem bytes_no (first c : Int) (a : Option Addr) (n cp : Nat) (w : World) (h : ¬ n ≤ 1048576) :
    Calls Trym.prog 9 #[.int .u64 first, .slice a n cp, .int .u64 c] w fun e w' => e = .returned (.bool false) ∧ w' = w := by
  go_enter Trym.func9, Trym.ntmps9
  go_wp2
  all_goals (go_ret; exact ⟨rfl, rfl⟩)

set_option maxHeartbeats 1000000 in
theorem walk (first c : Int) (a : Option Addr) (n cp : Nat) (xs : List Nat) (w : World) (h : Arg w a n cp xs)
    (f0 : 0 ≤ first) (f1 : first ≤ 18446744073709551615) (g0 : 0 ≤ c) (g1 : c ≤ 18446744073709551615) :
    Calls Trym.prog 3 #[.int .u64 first, .slice a n cp, .int .u64 c] w fun e w' => e = .returned (.bool true) ∧ Below w.heap.size w w' := by
  by_cases hb : n ≤ 1048576
  · by_cases hn : n ≤ 131072
    · go_enter Trym.func3, Trym.ntmps3
      go_wp2_with fail
      refine (bytes_yes _ _ _ _ _ _ hb).mono ?_
      rintro e w' ⟨rfl, hw⟩
      subst hw
      go_wp2_with fail
      refine (copy_any a n cp xs _ h.raw hn h.nil).mono ?_
      rintro e w1 ⟨d, rfl, r1, e1⟩
      go_wp2_with fail
      refine (zz_at d n n xs first c _ r1 hn f0 f1 g0 g1).mono ?_
      rintro e w2 ⟨rfl, e2⟩
      have r2 := r1.below e2
      have e12 := e1.trans (e2.mono e1.size)
      clear r1 e1 e2
      go_wp2_with fail
      refine (model_any d n n xs first c _ r2 hn f0 f1 g0 g1).mono ?_
      rintro e w3 ⟨rfl, hw⟩
      subst hw
      go_wp2_with fail
      refine (same_self _ _).mono ?_
      rintro e w4 ⟨rfl, hw⟩
      subst hw
      go_wp2
      go_ret
      exact ⟨rfl, e12⟩
    · go_enter Trym.func3, Trym.ntmps3
      go_wp2_with fail
      refine (bytes_yes _ _ _ _ _ _ hb).mono ?_
      rintro e w' ⟨rfl, hw⟩
      subst hw
      go_wp2
      go_ret
      exact ⟨rfl, Below.refl _ _⟩
  · go_enter Trym.func3, Trym.ntmps3
    go_wp2_with fail
    refine (bytes_no _ _ _ _ _ _ hb).mono ?_
    rintro e w' ⟨rfl, hw⟩
    subst hw
    go_wp2
    go_ret
    exact ⟨rfl, Below.refl _ _⟩

/-! ### THE ROW's STEP -/
theorem trod_float {H : Type} {enc : TypeId × Value → H} {P : Program} {w : World} {base : Nat} {spare : Nat → Bool} {held : Bool} {e : TypeId} {k : FloatKind} {m : Nat} {v : Value} {x : DataW H × List MemPlace}
    (he : P.underlying e = some (.float k)) (h : DataW.trod enc P w base spare held m e [v] = some x) : ∃ b, v = .float k b := by
  cases m with
  | zero => simp [DataW.trod] at h
  | succ m =>
    simp only [DataW.trod, he] at h
    cases v <;> simp at h
    rename_i k' b
    exact ⟨b, by rw [h.1.1]⟩

def bitsOf : Value → Nat | .float _ b => b | _ => 0

theorem arg_of {H : Type} {enc : TypeId × Value → H} {W : World} {a : Option Addr} {len cap fuel : Nat} {x : DataW H × List MemPlace}
    (hf : DataW.trod enc Trym.prog W 0 (fun _ => true) true fuel 23 (Value.slice a len cap).cells.toList = some x) : ∃ xs, Arg W a len cap xs := by
  rcases Deep.open_slice1 Trym.underlying23 (by kernel_rfl) hf with ⟨hcs, _⟩ | ⟨y, l, c, m, n, V, D, Pl, hcs, _, hl, hm, hmm, _, hx⟩
  · simp [Value.cells] at hcs
    obtain ⟨rfl, rfl, rfl⟩ := hcs
    exact ⟨[], ⟨⟨rfl, fun h => by omega⟩, fun _ => ⟨rfl, rfl⟩, Nat.zero_le _⟩⟩
  · simp [Value.cells] at hcs
    obtain ⟨rfl, rfl, rfl⟩ := hcs
    simp at hmm
    subst hmm
    have hV : ∀ i, i < m → V i = F (bitsOf (V i)) := fun i hi => by
      obtain ⟨b, e⟩ := trod_float Trym.underlying26 (hx i hi).2
      rw [e]; rfl
    refine ⟨(List.range len).map fun i => bitsOf (V i), ⟨⟨by simp, fun hp => ?_⟩, (fun h => by cases h), (by omega)⟩⟩
    obtain ⟨b, off, spot⟩ := y
    have h0 := (hx 0 (by omega)).1
    have hspot : spot = none := by simpa [Addr.add] using World.cell?_spot h0
    subst hspot
    have hlt : b < W.heap.size := by
      have := World.block_lt_of_cell? W _ h0
      simpa [Addr.add] using this
    refine ⟨b, off, rfl, hlt, fun j hj => ?_⟩
    have hj' : j < len := by simpa using hj
    rw [← add_plain, (hx j (by omega)).1, hV j (by omega)]
    simp [F, bitsOf]

set_option maxRecDepth 100000 in
theorem lifted (os : Os) (started : os.Started) (H : Type) (enc : TypeId × Value → H) :
    ReturnsInHanded {} Trym.checked os 3 .any (Rows.fnTailRowAtMatchesSearchSpec.pre6 enc Trym.prog Trym.f3 Rows.fnTailRowAtMatchesSearchRow.domain false) (Rows.fnTailRowAtMatchesSearchSpec.post enc Trym.prog Trym.f3 false true false false) := by
  refine returnsInHanded_of_change (C := Trym.checked) own started (by kernel_rfl) Trym.func3
    (ChangeSpec.witness6 (enc := enc) (C := Trym.checked) false ⟨#[], #[.int .u64 0, .slice none 0 0, .int .u64 0], []⟩ 8 (by kernel_rfl) (by kernel_rfl) (by kernel_rfl) (by kernel_rfl)) ?_
  intro W base args ds gs before hval0 hW hcnd _
  have hval : ∀ (j : Nat) t v, Trym.f3.params[j]? = some t → args[j]? = some v → Value.okWide Trym.prog W .any base t v := hval0
  have hW' := hW
  obtain ⟨p, q, hA0, hV, rfl, hfz, hnd⟩ := hW
  have hA : DataW.TrodAll enc Trym.prog W 0 (fun _ => true) true Trym.f3.params.toList args.toList ds p := hA0
  rw [Trym.params3] at hA hval
  obtain ⟨v0, vs0, d0, ds0, p0, q0, hargs, rfl, rfl, h0, r0⟩ := trodAll_cons hA
  obtain ⟨v1, vs1, d1, ds1, p1, q1, rfl, rfl, rfl, h1, r1⟩ := trodAll_cons r0
  obtain ⟨v2, vs2, d2, ds2, p2, q2, rfl, rfl, rfl, h2, r2⟩ := trodAll_cons r1
  obtain ⟨rfl, rfl, rfl⟩ := trodAll_nil r2
  obtain rfl : args = #[v0, v1, v2] := by cases args; simp_all
  obtain ⟨rfl, rfl⟩ := trodVars_none hV
  obtain ⟨x0, rfl, rfl, rfl, w0⟩ := open_int Trym.underlying22 (hval 0 22 v0 rfl rfl) h0
  obtain ⟨a1, len1, cap1, rfl⟩ := okWide_slice Trym.underlying23 (hval 1 23 v1 rfl rfl)
  have k1 := h1
  have lt1 : ∀ x ∈ p1, x.block < W.heap.size := by obtain ⟨m, hm⟩ := k1; exact DataW.trod_lt m _ _ _ hm
  obtain ⟨xs, w1⟩ : ∃ xs, Arg W a1 len1 cap1 xs := by obtain ⟨fuel, hf⟩ := h1; exact arg_of hf
  obtain ⟨x2, rfl, rfl, rfl, w2⟩ := open_int Trym.underlying22 (hval 2 22 v2 rfl rfl) h2
  clear hA0 hval0
  have c0 := bounds_u64 w0
  have c2 := bounds_u64 w2
  refine (walk x0 x2 a1 len1 cap1 xs W w1 c0.1 c0.2 c2.1 c2.2).mono fun e W' ⟨he, bel⟩ => ?_
  subst he
  exact ⟨_, rfl, _, _, _, [], _, [], hW', trodAll_mk1 (shut_bool Trym.underlying4 _), (trodAll_cons_mk (shut_int Trym.underlying22 w0) (trodAll_cons_mk (Below.trod laidOut (by kernel_rfl) (of_decide_eq_true (by kernel_rfl)) k1 bel lt1) (trodAll_cons_mk (shut_int Trym.underlying22 w2) trodAll_mk0))), rfl, bel.frame _, fun h => by cases h⟩

theorem over : Rows.fnTailRowAtMatchesSearchRow.holds Trym.pinned (OpenSpec.ofChange Rows.fnTailRowAtMatchesSearchSpec) :=
  OpenClaim.holds_of_wide 3 Trym.f3 rfl rfl rfl rfl rfl rfl rfl ⟨rfl, rfl, rfl, rfl, rfl⟩ rfl rfl rfl rfl rfl (by kernel_rfl) Trym.func3 (by kernel_rfl)
    (of_decide_eq_true (by kernel_rfl)) (by unfold Func.isWrapper; first | (rw [if_pos (by decide +kernel)]; kernel_rfl) | (rw [if_neg (by decide +kernel)]; exact ⟨rfl, rfl⟩))
    (fun os started H enc _ => lifted os started H enc)

/-- THE STATEMENT -/
theorem proved : Rows.FnTailRowAtMatchesSearchSaid := over
#print axioms proved
end Go.Proofs.Qxb6601435aMods.fnTailRowAtMatchesSearch
