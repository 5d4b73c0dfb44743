/- Contracts: nonceMember (14), nonceUsed (15), (*nonceUse).first (18), ZZNonceFirst (13). -/
import Derived.Test.Qxb6602838aModsProg
import Derived.WalkKit
import Derived.WalkLawsBesides
import Derived.Deep.Draws
import Derived.RegionTactic
import Derived.Below
import Derived.BigQuiet
import Derived.BigRegion
import Derived.Deep.QuietTactic
namespace Go.Proofs.Qxb6602838aMods
open Go.RowKit
set_option linter.unusedVariables false
namespace Nc

/-! ### Bits, plain -/
theorem ret_bool {a b : Bool} (h : a = b) : Ending.returned (.bool a) = .returned (.bool b) := by rw [h]

theorem ofInt_u64 (a : Nat) (h : a < 18446744073709551616) : (BitVec.ofInt 64 (a : Int)).toNat = a := by
  rw [BitVec.ofInt_natCast, BitVec.toNat_ofNat]; exact Nat.mod_eq_of_lt (by omega)

theorem bits_or_u64 (a b : Nat) (ha : a < 18446744073709551616) (hb : b < 18446744073709551616) : bits .or .u64 (a : Int) (b : Int) = ((a ||| b : Nat) : Int) := by
  have hx : a ||| b < 2 ^ 64 := Nat.or_lt_two_pow (by omega) (by omega)
  show IntKind.u64.wrap ((BitVec.ofInt 64 (a : Int) ||| BitVec.ofInt 64 (b : Int)).toNat : Int) = _
  rw [BitVec.toNat_or, ofInt_u64 a ha, ofInt_u64 b hb, IntKind.wrap_u64]
  omega
theorem bits_and_u64 (a b : Nat) (ha : a < 18446744073709551616) (hb : b < 18446744073709551616) : bits .and .u64 (a : Int) (b : Int) = ((a &&& b : Nat) : Int) := by
  have hx : a &&& b < 2 ^ 64 := Nat.and_lt_two_pow _ (by omega)
  show IntKind.u64.wrap ((BitVec.ofInt 64 (a : Int) &&& BitVec.ofInt 64 (b : Int)).toNat : Int) = _
  rw [BitVec.toNat_and, ofInt_u64 a ha, ofInt_u64 b hb, IntKind.wrap_u64]
  omega

/-- The window holds v. -/
def mem (mx s : Nat) (v : Int) : Bool := decide (v ≤ mx ∧ (mx : Int) - 63 ≤ v) && s.testBit ((mx : Int) - v).toNat
/-- c counts as used. -/
def used (mx s c : Nat) : Bool := decide (c ≤ mx) && (decide (64 ≤ mx - c) || s.testBit (mx - c))
/-- The bitmap behind a move up by d. -/
def upS (s d : Nat) : Nat := s * 2 ^ min d 64 % 18446744073709551616 ||| 1
/-- The bitmap with bit d set. -/
def setS (s d : Nat) : Nat := s ||| 2 ^ d

theorem mem_bit {mx s : Nat} {v : Int} (hs : s < 18446744073709551616) (h1 : v ≤ mx) (h2 : (mx : Int) - 63 ≤ v) :
    (bits BinOp.and IntKind.u64 ((s : Int) / 2 ^ ((mx : Int) - v).toNat) 1 == 1) = mem mx s v := by
  have e : ((s : Int) / 2 ^ ((mx : Int) - v).toNat) = ((s / 2 ^ ((mx : Int) - v).toNat : Nat) : Int) := by
    rw [Int.natCast_ediv, Int.natCast_pow]; rfl
  have hlt : s / 2 ^ ((mx : Int) - v).toNat < 18446744073709551616 := Nat.lt_of_le_of_lt (Nat.div_le_self _ _) hs
  have o : ((1 : Nat) : Int) = 1 := rfl
  rw [e, ← o, bits_and_u64 _ 1 hlt (by decide)]
  unfold mem
  have hd : decide (v ≤ mx ∧ (mx : Int) - 63 ≤ v) = true := by simp; omega
  rw [hd, Bool.true_and, Nat.testBit_eq_decide_div_mod_eq, Nat.and_one_is_mod]
  rw [Bool.eq_iff_iff]; simp; omega

set_option maxHeartbeats 400000 in
theorem member_any (mx s : Nat) (v : Int) (w : World) (hm : mx < 4294967296) (hs : s < 18446744073709551616) (v0 : -9223372036854775808 ≤ v) (v1 : v ≤ 9223372036854775807) :
    Calls Trym.prog 14 #[.int .u32 mx, .int .u64 s, .int .i64 v] w fun e w' => e = .returned (.bool (mem mx s v)) ∧ w' = w := by
  by_cases h1 : v ≤ mx
  · by_cases h2 : (mx : Int) - 63 ≤ v
    · have E := mem_bit hs h1 h2
      have HE : Hid _ := E
      clear E
      go_enter Trym.func14, Trym.ntmps14
      go_wp2
      go_ret
      exact ⟨ret_bool HE.out, rfl⟩
    · have E : false = mem mx s v := by unfold mem; simp; omega
      have HE : Hid _ := E
      clear E
      go_enter Trym.func14, Trym.ntmps14
      go_wp2
      go_ret
      exact ⟨ret_bool HE.out, rfl⟩
  · have E : false = mem mx s v := by unfold mem; simp; omega
    have HE : Hid _ := E
    clear E
    go_enter Trym.func14, Trym.ntmps14
    go_wp2
    go_ret
    exact ⟨ret_bool HE.out, rfl⟩

theorem used_mem {mx s c : Nat} (h1 : c ≤ mx) (h2 : ¬ 64 ≤ mx - c) : mem mx s (c : Int) = used mx s c := by
  unfold mem used
  have e : ((mx : Int) - (c : Int)).toNat = mx - c := by omega
  have a : decide ((c : Int) ≤ mx ∧ (mx : Int) - 63 ≤ c) = true := by simp; omega
  have b : decide (c ≤ mx) = true := by simp [h1]
  have d : decide (64 ≤ mx - c) = false := by simp; omega
  rw [e, a, b, d]; simp

set_option maxHeartbeats 400000 in
theorem used_any (mx s c : Nat) (w : World) (hm : mx < 4294967296) (hs : s < 18446744073709551616) (hc : c < 4294967296) :
    Calls Trym.prog 15 #[.int .u32 mx, .int .u64 s, .int .u32 c] w fun e w' => e = .returned (.bool (used mx s c)) ∧ w' = w := by
  by_cases h1 : c ≤ mx
  · by_cases h2 : 64 ≤ mx - c
    · have E : true = used mx s c := by unfold used; simp [h1, h2]
      have HE : Hid _ := E
      clear E
      go_enter Trym.func15, Trym.ntmps15
      go_wp2
      go_ret
      exact ⟨ret_bool HE.out, rfl⟩
    · have HE : Hid _ := used_mem (s := s) h1 h2
      go_enter Trym.func15, Trym.ntmps15
      go_wp2_with (go_at_call 14; refine (member_any _ _ _ _ hm hs (by omega) (by omega)).mono ?_; rintro e w' ⟨rfl, rfl⟩)
      go_ret
      exact ⟨ret_bool HE.out, rfl⟩
  · have E : false = used mx s c := by unfold used; simp; omega
    have HE : Hid _ := E
    clear E
    go_enter Trym.func15, Trym.ntmps15
    go_wp2
    go_ret
    exact ⟨ret_bool HE.out, rfl⟩

theorem up_val (s d : Nat) : bits BinOp.or IntKind.u64 (IntKind.u64.wrap ((s : Int) * 2 ^ min d 64)) 1 = ((upS s d : Nat) : Int) := by
  have e : IntKind.u64.wrap ((s : Int) * 2 ^ min d 64) = ((s * 2 ^ min d 64 % 18446744073709551616 : Nat) : Int) := by
    rw [IntKind.wrap_u64, Int.natCast_emod, Int.natCast_mul, Int.natCast_pow]; rfl
  have o : ((1 : Nat) : Int) = 1 := rfl
  rw [e, ← o, bits_or_u64 _ 1 (Nat.mod_lt _ (by decide)) (by decide)]; rfl

set_option maxHeartbeats 800000 in
theorem first_up (mx s nc : Nat) (iss : Int) (w : World) (hm : mx < 4294967296) (hs : s < 18446744073709551616) (hn : nc < 4294967296) (h : mx < nc) :
    Calls Trym.prog 18 #[.pointer (some ⟨w.heap.size, 0, none⟩), .int .u32 nc] (w.alloc (.cells #[.int .i64 iss, .int .u32 mx, .int .u64 s] 40))
      fun e w' => e = .returned (.bool true) ∧ ∃ m, w' = (w.alloc (.cells #[.int .i64 iss, .int .u32 nc, .int .u64 (upS s (nc - mx) : Nat)] 40)).drewN m := by
  have HU : Hid _ := up_val s (nc - mx)
  go_enter Trym.func18, Trym.ntmps18
  go_wp2
  go_region
  all_goals go_wp2
  all_goals
    go_ret
    rw [HU.out]
    exact ⟨rfl, 1, rfl⟩

theorem pow_lt {d : Nat} (h : d < 64) : 2 ^ d < 18446744073709551616 :=
  Nat.lt_of_lt_of_le (Nat.pow_lt_pow_right (by decide) h) (by decide)

theorem wrap_pow {d : Nat} (h : d < 64) : IntKind.u64.wrap ((2 : Int) ^ d) = ((2 ^ d : Nat) : Int) := by
  have := pow_lt h
  have e : ((2 : Int) ^ d) = ((2 ^ d : Nat) : Int) := by rw [Int.natCast_pow]; rfl
  rw [IntKind.wrap_u64, e]
  clear e
  generalize 2 ^ d = N at *
  omega

theorem bit_test {s d : Nat} (hs : s < 18446744073709551616) (h : d < 64) : (bits BinOp.and IntKind.u64 (s : Int) (IntKind.u64.wrap ((2 : Int) ^ d)) != 0) = s.testBit d := by
  rw [wrap_pow h, bits_and_u64 _ _ hs (pow_lt h)]
  rw [Bool.eq_iff_iff]
  simp only [bne_iff_ne, ne_eq]
  rw [show ((0 : Int)) = ((0 : Nat) : Int) from rfl, Int.natCast_inj]
  constructor
  · intro hne
    by_cases c : s.testBit d = true
    · exact c
    · refine absurd ?_ hne
      apply Nat.eq_of_testBit_eq
      intro i
      rw [Nat.testBit_and, Nat.testBit_two_pow, Nat.zero_testBit]
      by_cases e : d = i
      · subst e; simp [c]
      · simp [e]
  · intro hb e0
    have := congrArg (fun n => n.testBit d) e0
    simp [hb] at this

theorem set_val {s d : Nat} (hs : s < 18446744073709551616) (h : d < 64) : bits BinOp.or IntKind.u64 (s : Int) (IntKind.u64.wrap ((2 : Int) ^ d)) = ((setS s d : Nat) : Int) := by
  rw [wrap_pow h, bits_or_u64 _ _ hs (pow_lt h)]; rfl

set_option maxHeartbeats 800000 in
theorem first_old (mx s nc : Nat) (iss : Int) (w : World) (hm : mx < 4294967296) (hs : s < 18446744073709551616) (hn : nc < 4294967296) (h : nc ≤ mx) (hu : used mx s nc = true) :
    Calls Trym.prog 18 #[.pointer (some ⟨w.heap.size, 0, none⟩), .int .u32 nc] (w.alloc (.cells #[.int .i64 iss, .int .u32 mx, .int .u64 s] 40))
      fun e w' => e = .returned (.bool false) ∧ ∃ m, w' = (w.alloc (.cells #[.int .i64 iss, .int .u32 mx, .int .u64 s] 40)).drewN m := by
  by_cases h64 : 64 ≤ mx - nc
  · clear hu
    go_enter Trym.func18, Trym.ntmps18
    go_wp2
    go_ret
    exact ⟨rfl, 0, rfl⟩
  · have hb : (bits BinOp.and IntKind.u64 (s : Int) (IntKind.u64.wrap ((2 : Int) ^ (mx - nc))) != 0) = true := by
      rw [bit_test hs (by omega)]
      unfold used at hu
      simp [h, h64] at hu
      exact hu
    clear hu
    go_enter Trym.func18, Trym.ntmps18
    go_wp2
    go_ret
    exact ⟨rfl, 0, rfl⟩

set_option maxHeartbeats 800000 in
theorem first_set (mx s nc : Nat) (iss : Int) (w : World) (hm : mx < 4294967296) (hs : s < 18446744073709551616) (hn : nc < 4294967296) (h : nc ≤ mx) (hu : used mx s nc = false) :
    Calls Trym.prog 18 #[.pointer (some ⟨w.heap.size, 0, none⟩), .int .u32 nc] (w.alloc (.cells #[.int .i64 iss, .int .u32 mx, .int .u64 s] 40))
      fun e w' => e = .returned (.bool true) ∧ ∃ m, w' = (w.alloc (.cells #[.int .i64 iss, .int .u32 mx, .int .u64 (setS s (mx - nc) : Nat)] 40)).drewN m := by
  have h64 : ¬ 64 ≤ mx - nc := fun c => by unfold used at hu; simp [h, c] at hu
  have hb : (bits BinOp.and IntKind.u64 (s : Int) (IntKind.u64.wrap ((2 : Int) ^ (mx - nc))) != 0) = false := by
    rw [bit_test hs (by omega)]
    unfold used at hu
    simp [h, h64] at hu
    exact hu
  have HV : Hid _ := set_val (s := s) (d := mx - nc) hs (by omega)
  clear hu
  go_enter Trym.func18, Trym.ntmps18
  go_wp2
  go_ret
  rw [HV.out]
  exact ⟨rfl, 0, rfl⟩

/-! ### ZZNonceFirst: every state -/
def nMax (mx nc : Nat) : Nat := if mx < nc then nc else mx
def nSeen (mx s nc : Nat) : Nat := if mx < nc then upS s (nc - mx) else if used mx s nc then s else setS s (mx - nc)

theorem first_any (mx s nc : Nat) (iss : Int) (w : World) (hm : mx < 4294967296) (hs : s < 18446744073709551616) (hn : nc < 4294967296) :
    Calls Trym.prog 18 #[.pointer (some ⟨w.heap.size, 0, none⟩), .int .u32 nc] (w.alloc (.cells #[.int .i64 iss, .int .u32 mx, .int .u64 s] 40))
      fun e w' => e = .returned (.bool (!used mx s nc)) ∧ ∃ m, w' = (w.alloc (.cells #[.int .i64 iss, .int .u32 (nMax mx nc : Nat), .int .u64 (nSeen mx s nc : Nat)] 40)).drewN m := by
  by_cases h : mx < nc
  · have e : used mx s nc = false := by unfold used; simp; omega
    unfold nMax nSeen
    rw [e, if_pos h, if_pos h]
    exact first_up mx s nc iss w hm hs hn h
  · cases hu : used mx s nc with
    | true =>
      unfold nMax nSeen
      rw [hu, if_neg h, if_neg h, if_pos rfl]
      exact first_old mx s nc iss w hm hs hn (by omega) hu
    | false =>
      unfold nMax nSeen
      rw [hu, if_neg h, if_neg h, if_neg (by simp)]
      exact first_set mx s nc iss w hm hs hn (by omega) hu

theorem nMax_lt {mx nc : Nat} (hm : mx < 4294967296) (hn : nc < 4294967296) : nMax mx nc < 4294967296 := by unfold nMax; split <;> assumption
theorem nSeen_lt {mx s nc : Nat} (hs : s < 18446744073709551616) : nSeen mx s nc < 18446744073709551616 := by
  unfold nSeen
  split
  · unfold upS; exact Nat.or_lt_two_pow (n := 64) (Nat.mod_lt _ (by decide)) (by decide)
  · split
    · exact hs
    · rename_i h1 h2
      unfold setS
      by_cases c : mx - nc < 64
      · exact Nat.or_lt_two_pow (n := 64) hs (pow_lt c)
      · exfalso; apply h2; unfold used; simp; omega

set_option maxHeartbeats 800000 in
theorem zz_any (mx s nc : Nat) (iss : Int) (w : World) (hm : mx < 4294967296) (hs : s < 18446744073709551616) (hn : nc < 4294967296) :
    Calls Trym.prog 13 #[.int .i64 iss, .int .u32 mx, .int .u64 s, .int .u32 nc] w
      fun e w' => e = .returned (.tuple #[.int .i64 iss, .int .u32 (nMax mx nc : Nat), .int .u64 (nSeen mx s nc : Nat), .bool (!used mx s nc)]) ∧ Below w.heap.size w w' := by
  have hf := first_any mx s nc iss w hm hs hn
  generalize nMax mx nc = M at hf ⊢
  generalize nSeen mx s nc = S at hf ⊢
  generalize used mx s nc = U at hf ⊢
  have HF : Hid _ := hf
  clear hf
  go_enter Trym.func13, Trym.ntmps13
  go_wp2_with fail
  refine Calls.mono HF.out ?_
  rintro e w' ⟨rfl, m, rfl⟩
  go_wp2_with fail
  have hb : Below w.heap.size w (w.alloc (.cells #[.int .i64 iss, .int .u32 (M : Nat), .int .u64 (S : Nat)] 40)) := (Below.refl _ _).alloc (Nat.le_refl _) _
  go_quiet (fail)
  go_wp2
  refine bodyPost_ret (v := .tuple #[.int .i64 iss, .int .u32 (M : Nat), .int .u64 (S : Nat), .bool (!U)]) (by simp [results, Trym.results13, go_sem]) rfl ⟨rfl, ?_⟩
  exact ⟨hb.os, hb.tape, hb.output, hb.size, hb.block⟩
end Nc
end Go.Proofs.Qxb6602838aMods
