/-
  The proof of 'Rows.FnNonceFirstWindowModelSaid'. The frame is the guide's template, written by its tool (proof-skeleton.mjs) for this function; the walk is ours.
-/
import Derived.Test.Qxb6602838aModsRows
import Derived.WalkKit
import Derived.ProofKit
import Derived.OpenShut
import Derived.ShutString
import Derived.Test.Qxb6602838aModsNc
namespace Go.Proofs.Qxb6602838aMods.fnNonceFirstWindowModel
open Go.ChangeShapes Go.WideShapes Go.ChangeAt Go.RowKit
open Go.ChangeMaps (open_string shut_string)
set_option linter.unusedVariables false      -- a walk need not use every 'w<i>' (that an integer argument fits its kind)

theorem own : ownKnob Trym.prog.godebug = none := by kernel_rfl

/-! ### THE PLAIN LAW -/
open Nc

theorem bit_shl (s e k : Nat) : (s * 2 ^ e).testBit k = (decide (e ≤ k) && s.testBit (k - e)) := by
  rw [← Nat.shiftLeft_eq, Nat.testBit_shiftLeft]

theorem bit_up (s d k : Nat) (hk : k < 64) : (upS s d).testBit k = ((decide (d ≤ k) && s.testBit (k - d)) || decide (k = 0)) := by
  unfold upS
  rw [show (18446744073709551616 : Nat) = 2 ^ 64 from rfl, Nat.testBit_or, Nat.testBit_mod_two_pow, bit_shl]
  have h1 : (1 : Nat).testBit k = decide (k = 0) := by
    rw [show (1 : Nat) = 2 ^ 0 from rfl, Nat.testBit_two_pow]
    by_cases c : k = 0 <;> simp [c]
    omega
  rw [h1]
  by_cases c : d ≤ 64
  · rw [Nat.min_eq_left c]; simp [hk]
  · rw [Nat.min_eq_right (by omega)]
    have a : decide (64 ≤ k) = false := by simp; omega
    have b : decide (d ≤ k) = false := by simp; omega
    simp [a, b]

theorem bit_set (s d k : Nat) : (setS s d).testBit k = (s.testBit k || decide (d = k)) := by
  unfold setS
  rw [Nat.testBit_or, Nat.testBit_two_pow]

/-- THE PLAIN LAW: the new window holds what the old one held, and nc. -/
theorem window (mx s nc : Nat) (v : Int) : mem (nMax mx nc) (nSeen mx s nc) v = (decide (v ≤ (nMax mx nc : Nat) ∧ ((nMax mx nc : Nat) : Int) - 63 ≤ v) && (mem mx s v || v == (nc : Int))) := by
  unfold mem
  by_cases hin : v ≤ (nMax mx nc : Nat) ∧ ((nMax mx nc : Nat) : Int) - 63 ≤ v
  · rw [decide_eq_true hin, Bool.true_and, Bool.true_and]
    unfold nMax at hin ⊢
    unfold nSeen
    by_cases h : mx < nc
    · simp only [h, if_true] at hin ⊢
      rw [bit_up _ _ _ (by omega)]
      by_cases c : v ≤ mx
      · have e1 : decide (nc - mx ≤ ((nc : Int) - v).toNat) = true := by simp; omega
        have e2 : ((nc : Int) - v).toNat - (nc - mx) = ((mx : Int) - v).toNat := by omega
        have e3 : decide (((nc : Int) - v).toNat = 0) = false := by simp; omega
        have e4 : decide (v ≤ mx ∧ (mx : Int) - 63 ≤ v) = true := by simp; omega
        have e5 : (v == (nc : Int)) = false := by simp; omega
        rw [e1, e2, e3, e4, e5]
      · have e1 : decide (nc - mx ≤ ((nc : Int) - v).toNat) = false := by simp; omega
        have e4 : decide (v ≤ mx ∧ (mx : Int) - 63 ≤ v) = false := by simp; omega
        rw [e1, e4, Bool.false_and, Bool.false_and, Bool.false_or, Bool.false_or, Bool.eq_iff_iff]
        simp; omega
    · simp only [h, if_false] at hin ⊢
      rw [decide_eq_true hin, Bool.true_and]
      cases hu : used mx s nc with
      | true =>
        rw [if_pos rfl]
        by_cases e : v = nc
        · subst e
          have hb : s.testBit ((mx : Int) - (nc : Int)).toNat = true := by
            unfold used at hu
            have e1 : decide (64 ≤ mx - nc) = false := by simp; omega
            have e2 : ((mx : Int) - (nc : Int)).toNat = mx - nc := by omega
            rw [e2]; rw [e1] at hu; simp at hu; exact hu.2
          rw [hb]; simp
        · have e5 : (v == (nc : Int)) = false := by simp [e]
          rw [e5]; simp
      | false =>
        rw [if_neg (by simp), bit_set]
        congr 1
        rw [Bool.eq_iff_iff]; simp; omega
  · rw [decide_eq_false hin]; simp

/-! ### STEP 1: THE WALK: the Go text returns true. -/
set_option maxHeartbeats 1000000 in
theorem walk_in (iss v : Int) (mx s nc M S : Nat) (w : World) (hm : mx < 4294967296) (hs : s < 18446744073709551616) (hn : nc < 4294967296) (v0 : -9223372036854775808 ≤ v) (v1 : v ≤ 9223372036854775807)
    (hM : M < 4294967296) (hcase : (mx < nc ∧ M = nc) ∨ (¬ mx < nc ∧ M = mx)) (A B U : Bool)
    (cz : ∀ w, Calls Trym.prog 13 #[.int .i64 iss, .int .u32 mx, .int .u64 s, .int .u32 nc] w fun e w' => e = .returned (.tuple #[.int .i64 iss, .int .u32 (M : Nat), .int .u64 (S : Nat), .bool (!U)]) ∧ Below w.heap.size w w')
    (ca : ∀ w, Calls Trym.prog 14 #[.int .u32 mx, .int .u64 s, .int .i64 v] w fun e w' => e = .returned (.bool A) ∧ w' = w)
    (cu : ∀ w, Calls Trym.prog 15 #[.int .u32 mx, .int .u64 s, .int .u32 nc] w fun e w' => e = .returned (.bool U) ∧ w' = w)
    (cb : ∀ w, Calls Trym.prog 14 #[.int .u32 M, .int .u64 S, .int .i64 v] w fun e w' => e = .returned (.bool B) ∧ w' = w)
    (hlaw : B = (decide (v ≤ (M : Nat) ∧ ((M : Nat) : Int) - 63 ≤ v) && (A || v == (nc : Int)))) :
    Calls Trym.prog 5 #[.int .i64 iss, .int .u32 mx, .int .u64 s, .int .u32 nc, .int .i64 v] w fun e w' => e = .returned (.bool true) ∧ Below w.heap.size w w' := by
  have CZ : Hid _ := cz
  have CA : Hid _ := ca
  have CU : Hid _ := cu
  have CB : Hid _ := cb
  clear cz ca cu cb
  have hii : (iss == iss) = true := by simp
  have hMM : ((M : Int) == (M : Int)) = true := by simp
  have hUU : ((!U) == (!U)) = true := by simp
  by_cases hin : v ≤ (M : Nat) ∧ ((M : Nat) : Int) - 63 ≤ v
  · obtain ⟨in1, in2⟩ := hin
    have hin' : decide (v ≤ (M : Nat) ∧ ((M : Nat) : Int) - 63 ≤ v) = true := decide_eq_true ⟨in1, in2⟩
    rw [hin', Bool.true_and] at hlaw
    clear hin'
    cases A with
    | true =>
      simp only [Bool.true_or] at hlaw
      subst hlaw
      rcases hcase with ⟨h, rfl⟩ | ⟨h, rfl⟩
      all_goals
        go_enter Trym.func5, Trym.ntmps5
        go_wp2_with fail
        refine (CZ.out _).mono ?_
        rintro e w1 ⟨rfl, hb⟩
        go_wp2_with fail
        refine (CA.out _).mono ?_
        rintro e w2 ⟨rfl, hw⟩
        subst hw
        go_wp2_with fail
        refine (CU.out _).mono ?_
        rintro e w3 ⟨rfl, hw⟩
        subst hw
        go_wp2_with fail
        refine (CB.out _).mono ?_
        rintro e w4 ⟨rfl, hw⟩
        subst hw
        go_wp2
        go_ret
        exact ⟨by simp, hb⟩
    | false =>
      simp only [Bool.false_or] at hlaw
      have HL : Hid _ := hlaw
      clear hlaw
      rcases hcase with ⟨h, rfl⟩ | ⟨h, rfl⟩
      all_goals
        go_enter Trym.func5, Trym.ntmps5
        go_wp2_with fail
        refine (CZ.out _).mono ?_
        rintro e w1 ⟨rfl, hb⟩
        go_wp2_with fail
        refine (CA.out _).mono ?_
        rintro e w2 ⟨rfl, hw⟩
        subst hw
        go_wp2_with fail
        refine (CU.out _).mono ?_
        rintro e w3 ⟨rfl, hw⟩
        subst hw
        go_wp2_with fail
        refine (CB.out _).mono ?_
        rintro e w4 ⟨rfl, hw⟩
        subst hw
        go_wp2
        go_ret
        exact ⟨by simp [HL.out], hb⟩
  · have hin' : decide (v ≤ (M : Nat) ∧ ((M : Nat) : Int) - 63 ≤ v) = false := decide_eq_false hin
    rw [hin', Bool.false_and] at hlaw
    clear hin'
    subst hlaw
    by_cases in1 : v ≤ (M : Nat)
    · have in2 : ¬ ((M : Nat) : Int) - 63 ≤ v := fun c => hin ⟨in1, c⟩
      clear hin
      rcases hcase with ⟨h, rfl⟩ | ⟨h, rfl⟩
      all_goals
        go_enter Trym.func5, Trym.ntmps5
        go_wp2_with fail
        refine (CZ.out _).mono ?_
        rintro e w1 ⟨rfl, hb⟩
        go_wp2_with fail
        refine (CU.out _).mono ?_
        rintro e w3 ⟨rfl, hw⟩
        subst hw
        go_wp2_with fail
        refine (CB.out _).mono ?_
        rintro e w4 ⟨rfl, hw⟩
        subst hw
        go_wp2
        go_ret
        exact ⟨by simp, hb⟩
    · clear hin
      rcases hcase with ⟨h, rfl⟩ | ⟨h, rfl⟩
      all_goals
        go_enter Trym.func5, Trym.ntmps5
        go_wp2_with fail
        refine (CZ.out _).mono ?_
        rintro e w1 ⟨rfl, hb⟩
        go_wp2_with fail
        refine (CU.out _).mono ?_
        rintro e w3 ⟨rfl, hw⟩
        subst hw
        go_wp2_with fail
        refine (CB.out _).mono ?_
        rintro e w4 ⟨rfl, hw⟩
        subst hw
        go_wp2
        go_ret
        exact ⟨by simp, hb⟩

theorem walk (a0 : Int) (a1 : Int) (a2 : Int) (a3 : Int) (a4 : Int) (w0 : (Lit.int .i64 a0).wf = true) (w1 : (Lit.int .u32 a1).wf = true) (w2 : (Lit.int .u64 a2).wf = true) (w3 : (Lit.int .u32 a3).wf = true) (w4 : (Lit.int .i64 a4).wf = true) (w : World) :
    Calls Trym.prog 5 #[.int .i64 a0, .int .u32 a1, .int .u64 a2, .int .u32 a3, .int .i64 a4] w fun e w' => e = .returned (.bool true) ∧ Below w.heap.size w w' := by
  have b1 := bounds_u32 w1
  have b2 := bounds_u64 w2
  have b3 := bounds_u32 w3
  have b4 := bounds_i64 w4
  obtain ⟨mx, rfl⟩ := Int.eq_ofNat_of_zero_le b1.1
  obtain ⟨s, rfl⟩ := Int.eq_ofNat_of_zero_le b2.1
  obtain ⟨nc, rfl⟩ := Int.eq_ofNat_of_zero_le b3.1
  have hm : mx < 4294967296 := by omega
  have hs : s < 18446744073709551616 := by omega
  have hn : nc < 4294967296 := by omega
  exact walk_in a0 a4 mx s nc (nMax mx nc) (nSeen mx s nc) w hm hs hn b4.1 b4.2 (nMax_lt hm hn) (by unfold nMax; split <;> simp_all) (mem mx s a4) (mem (nMax mx nc) (nSeen mx s nc) a4) (used mx s nc)
    (fun w => zz_any mx s nc a0 w hm hs hn) (fun w => member_any mx s a4 w hm hs b4.1 b4.2) (fun w => used_any mx s nc w hm hs hn)
    (fun w => member_any _ _ a4 w (nMax_lt hm hn) (nSeen_lt hs) b4.1 b4.2) (window mx s nc a4)

/-! ### THE ROW's STEP: WRITTEN OUT: LEAVE IT -/
set_option maxRecDepth 100000 in
theorem lifted (os : Os) (started : os.Started) (H : Type) (enc : TypeId × Value → H) :
    ReturnsInHanded {} Trym.checked os 5 .any (Rows.fnNonceFirstWindowModelSpec.pre6 enc Trym.prog Trym.f5 Rows.fnNonceFirstWindowModelRow.domain false) (Rows.fnNonceFirstWindowModelSpec.post enc Trym.prog Trym.f5 false true false false) := by
  refine returnsInHanded_of_change (C := Trym.checked) own started (by kernel_rfl) Trym.func5
    (ChangeSpec.witness6 (enc := enc) (C := Trym.checked) false ⟨#[], #[.int .i64 0, .int .u32 0, .int .u64 0, .int .u32 0, .int .i64 0], []⟩ 8 (by kernel_rfl) (by kernel_rfl) (by kernel_rfl) (by kernel_rfl)) ?_
  intro W base args ds gs before hval0 hW hcnd _
  have hval : ∀ (j : Nat) t v, Trym.f5.params[j]? = some t → args[j]? = some v → Value.okWide Trym.prog W .any base t v := hval0
  have hW' := hW
  obtain ⟨p, q, hA0, hV, rfl, hfz, hnd⟩ := hW
  have hA : DataW.TrodAll enc Trym.prog W 0 (fun _ => true) true Trym.f5.params.toList args.toList ds p := hA0
  rw [Trym.params5] at hA hval
  obtain ⟨v0, vs0, d0, ds0, p0, q0, hargs, rfl, rfl, h0, r0⟩ := trodAll_cons hA
  obtain ⟨v1, vs1, d1, ds1, p1, q1, rfl, rfl, rfl, h1, r1⟩ := trodAll_cons r0
  obtain ⟨v2, vs2, d2, ds2, p2, q2, rfl, rfl, rfl, h2, r2⟩ := trodAll_cons r1
  obtain ⟨v3, vs3, d3, ds3, p3, q3, rfl, rfl, rfl, h3, r3⟩ := trodAll_cons r2
  obtain ⟨v4, vs4, d4, ds4, p4, q4, rfl, rfl, rfl, h4, r4⟩ := trodAll_cons r3
  obtain ⟨rfl, rfl, rfl⟩ := trodAll_nil r4
  obtain rfl : args = #[v0, v1, v2, v3, v4] := by cases args; simp_all
  obtain ⟨rfl, rfl⟩ := trodVars_none hV
  obtain ⟨a0, rfl, rfl, rfl, w0⟩ := open_int Trym.underlying2 (hval 0 2 v0 rfl rfl) h0
  obtain ⟨a1, rfl, rfl, rfl, w1⟩ := open_int Trym.underlying28 (hval 1 28 v1 rfl rfl) h1
  obtain ⟨a2, rfl, rfl, rfl, w2⟩ := open_int Trym.underlying29 (hval 2 29 v2 rfl rfl) h2
  obtain ⟨a3, rfl, rfl, rfl, w3⟩ := open_int Trym.underlying28 (hval 3 28 v3 rfl rfl) h3
  obtain ⟨a4, rfl, rfl, rfl, w4⟩ := open_int Trym.underlying2 (hval 4 2 v4 rfl rfl) h4
  clear hA0 hval0
  simp only [List.append_nil] at hW'
  refine (walk a0 a1 a2 a3 a4 w0 w1 w2 w3 w4 W).mono fun e W' ⟨he, bel⟩ => ?_
  subst he
  exact ⟨_, rfl, _, _, _, [], _, [], hW', trodAll_mk1 (shut_bool Trym.underlying4 _), (trodAll_cons_mk (shut_int Trym.underlying2 w0) (trodAll_cons_mk (shut_int Trym.underlying28 w1) (trodAll_cons_mk (shut_int Trym.underlying29 w2) (trodAll_cons_mk (shut_int Trym.underlying28 w3) (trodAll_cons_mk (shut_int Trym.underlying2 w4) trodAll_mk0))))), rfl, bel.frame _, fun h => by cases h⟩

theorem over : Rows.fnNonceFirstWindowModelRow.holds Trym.pinned (OpenSpec.ofChange Rows.fnNonceFirstWindowModelSpec) :=
  OpenClaim.holds_of_wide 5 Trym.f5 rfl rfl rfl rfl rfl rfl rfl ⟨rfl, rfl, rfl, rfl, rfl⟩ rfl rfl rfl rfl rfl (by kernel_rfl) Trym.func5 (by kernel_rfl)
    (of_decide_eq_true (by kernel_rfl)) (by unfold Func.isWrapper; first | (rw [if_pos (by decide +kernel)]; kernel_rfl) | (rw [if_neg (by decide +kernel)]; exact ⟨rfl, rfl⟩))
    (fun os started H enc _ => lifted os started H enc)

/-- ████ THE STATEMENT ████ -/
theorem proved : Rows.FnNonceFirstWindowModelSaid :=
  over
#print axioms proved
end Go.Proofs.Qxb6602838aMods.fnNonceFirstWindowModel
