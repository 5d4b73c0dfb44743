/- Rows of uint32 in memory; the plain law of FnNonceFirstNoReplay. -/
import Derived.Test.Qxb6602838aModsNc
import Derived.OwnWalk
namespace Go.Proofs.Qxb6602838aMods
open Go.RowKit
set_option linter.unusedVariables false

theorem Trym.info28 : (Trym.prog.info? 28).map (fun i => (i.zero, i.size, i.bytes)) = some (some (.int .u32 0), 1, 4) := by kernel_rfl

namespace Rp
open Nc

/-! ### The plain law -/
theorem bit_shl (s e k : Nat) : (s * 2 ^ e).testBit k = (decide (e ≤ k) && s.testBit (k - e)) := by
  rw [← Nat.shiftLeft_eq, Nat.testBit_shiftLeft]

theorem bit_up (s d k : Nat) (hk : k < 64) : (upS s d).testBit k = ((decide (d ≤ k) && s.testBit (k - d)) || decide (k = 0)) := by
  unfold upS
  rw [show (18446744073709551616 : Nat) = 2 ^ 64 from rfl, Nat.testBit_or, Nat.testBit_mod_two_pow, bit_shl]
  have h1 : (1 : Nat).testBit k = decide (k = 0) := by
    rw [show (1 : Nat) = 2 ^ 0 from rfl, Nat.testBit_two_pow]
    by_cases c : k = 0 <;> simp [c]
    omega
  rw [h1]
  by_cases c : d ≤ 64
  · rw [Nat.min_eq_left c]; simp [hk]
  · rw [Nat.min_eq_right (by omega)]
    have a : decide (64 ≤ k) = false := by simp; omega
    have b : decide (d ≤ k) = false := by simp; omega
    simp [a, b]

theorem bit_set (s d k : Nat) : (setS s d).testBit k = (s.testBit k || decide (d = k)) := by
  unfold setS
  rw [Nat.testBit_or, Nat.testBit_two_pow]

theorem used_iff (m s x : Nat) : used m s x = true ↔ x ≤ m ∧ (64 ≤ m - x ∨ s.testBit (m - x) = true) := by
  unfold used; simp

/-- What was used stays used; the count itself is used behind the call. -/
theorem used_step (m s nc x : Nat) (h : used m s x = true ∨ x = nc) : used (nMax m nc) (nSeen m s nc) x = true := by
  have hx : x = nc ∨ (x ≤ m ∧ (64 ≤ m - x ∨ s.testBit (m - x) = true)) := by
    rcases h with h | h
    · exact .inr ((used_iff m s x).1 h)
    · exact .inl h
  rw [used_iff]
  unfold nMax nSeen
  by_cases c : m < nc
  · simp only [c, if_true]
    refine ⟨by omega, ?_⟩
    by_cases c2 : 64 ≤ nc - x
    · exact .inl c2
    · right
      rw [bit_up _ _ _ (by omega)]
      rcases hx with rfl | ⟨h1, h2⟩
      · simp
      · have e : nc - x - (nc - m) = m - x := by omega
        have hb : s.testBit (m - x) = true := by
          rcases h2 with h2 | h2
          · omega
          · exact h2
        have d : decide (nc - m ≤ nc - x) = true := by simp; omega
        rw [d, e, hb]; simp
  · simp only [c, if_false]
    cases hu : used m s nc with
    | true =>
      rw [if_pos rfl]
      rcases hx with rfl | h
      · exact (used_iff m s x).1 hu
      · exact h
    | false =>
      rw [if_neg (by simp)]
      rcases hx with rfl | ⟨h1, h2⟩
      · refine ⟨by omega, .inr ?_⟩
        rw [bit_set]; simp
      · refine ⟨h1, ?_⟩
        rcases h2 with h2 | h2
        · exact .inl h2
        · right; rw [bit_set, h2]; simp

/-- What the script has come to: every count that the start took as used, and every accepted one, is used. -/
def Inv (mx0 s0 m s : Nat) (acc : List Nat) : Prop := (∀ x, used mx0 s0 x = true → used m s x = true) ∧ ∀ x ∈ acc, used m s x = true

theorem inv_zero (mx s : Nat) : Inv mx s mx s [] := ⟨fun _ h => h, fun _ h => by cases h⟩
theorem inv_step {mx0 s0 m s : Nat} {acc : List Nat} (h : Inv mx0 s0 m s acc) (nc : Nat) : Inv mx0 s0 (nMax m nc) (nSeen m s nc) acc :=
  ⟨fun x hx => used_step m s nc x (.inl (h.1 x hx)), fun x hx => used_step m s nc x (.inl (h.2 x hx))⟩
theorem inv_acc {mx0 s0 m s : Nat} {acc : List Nat} (h : Inv mx0 s0 m s acc) (nc : Nat) : Inv mx0 s0 (nMax m nc) (nSeen m s nc) (acc ++ [nc]) := by
  refine ⟨(inv_step h nc).1, fun x hx => ?_⟩
  rcases List.mem_append.1 hx with hx | hx
  · exact (inv_step h nc).2 x hx
  · simp at hx; exact used_step m s nc x (.inr hx)
theorem inv_fresh {mx0 s0 m s : Nat} {acc : List Nat} (h : Inv mx0 s0 m s acc) {nc : Nat} (hu : used m s nc = false) : used mx0 s0 nc = false ∧ ∀ x ∈ acc, x ≠ nc := by
  constructor
  · cases c : used mx0 s0 nc with
    | false => rfl
    | true => rw [h.1 nc c] at hu; cases hu
  · intro x hx e
    rw [← e, h.2 x hx] at hu; cases hu

/-! ### Rows of uint32 -/
def C (x : Nat) : Value := .int .u32 (x : Int)

def Raw (w : World) (a : Option Addr) (n : Nat) (xs : List Nat) : Prop :=
  xs.length = n ∧ (0 < n → ∃ b off, a = some ⟨b, off, none⟩ ∧ b < w.heap.size ∧ ∀ j (h : j < xs.length), w.cell? ⟨b, off + j, none⟩ = some (C xs[j]))

theorem Raw.len {w : World} {a : Option Addr} {n : Nat} {xs : List Nat} (h : Raw w a n xs) : xs.length = n := h.1

theorem Raw.at {w : World} {a : Option Addr} {n : Nat} {xs : List Nat} (h : Raw w a n xs) {k : Nat} (hk : k < n) :
    ∃ (b off x : Nat), a = some ⟨b, off, none⟩ ∧ b < w.heap.size ∧ w.cell? ⟨b, off + k, none⟩ = some (.int .u32 (x : Int)) ∧ Hid (∃ h : k < xs.length, x = xs[k]) := by
  obtain ⟨b, off, e, hb, hc⟩ := h.2 (by omega)
  have hk' : k < xs.length := by rw [h.1]; exact hk
  exact ⟨b, off, xs[k], e, hb, hc k hk', hk', rfl⟩

theorem Raw.below {w w' : World} {a : Option Addr} {n : Nat} {xs : List Nat} (h : Raw w a n xs) (hb : Below w.heap.size w w') : Raw w' a n xs := by
  refine ⟨h.1, fun hn => ?_⟩
  obtain ⟨b, off, e, hlt, hc⟩ := h.2 hn
  exact ⟨b, off, e, Nat.lt_of_lt_of_le hlt hb.size, fun j hj => (hb.cell (p := ⟨b, off + j, none⟩) hlt).trans (hc j hj)⟩

theorem raw_own {w : World} {B g n cap E : Nat} {xs : List Nat} (h : w.ownsRow B E 1 (.slice (some ⟨g, 0, none⟩) n cap) n (xs.map C)) (hl : xs.length = n) : Raw w (some ⟨g, 0, none⟩) n xs := by
  refine ⟨hl, fun _ => ⟨g, 0, rfl, (h.lt g rfl).2, fun j hj => ?_⟩⟩
  rw [Nat.zero_add, h.cellAt j (by omega)]
  simp [hj]

theorem raw_of_own {w : World} {B n : Nat} {v : Value} {xs : List Nat} (h : w.ownsRow B 28 1 v n (xs.map C)) (hl : xs.length = n) : ∃ a c, v = .slice a n c ∧ Raw w a n xs := by
  rcases h.2 with ⟨rfl, hn⟩ | ⟨g, cap, cur, rfl, hB, hg, hc, _⟩
  · subst hn; exact ⟨none, 0, rfl, ⟨hl, fun h => by omega⟩⟩
  · exact ⟨_, _, rfl, raw_own h hl⟩

theorem own_below {w w' : World} {B n : Nat} {v : Value} {vs : List Value} (h : w.ownsRow B 28 1 v n vs) (hb : Below w.heap.size w w') : w'.ownsRow B 28 1 v n vs :=
  h.kept (row := none) ⟨hb.os, hb.tape, hb.output, hb.size, fun k hk _ => hb.block k hk⟩ (by cases v.ownBlock <;> simp)

def Filled (xs : List Nat) (k : Nat) (vs : List Value) : Prop := ∀ j (h : j < xs.length), j < k → vs[j]? = some (C xs[j])

theorem Filled.zero (xs : List Nat) (vs : List Value) : Filled xs 0 vs := fun j h hj => by omega
theorem Filled.succ {xs : List Nat} {k : Nat} {vs : List Value} (h : Filled xs k vs) (hx : k < vs.length) {x : Nat} (e : ∃ hk : k < xs.length, x = xs[k]) : Filled xs (k + 1) (vs.set k (C x)) := by
  intro j hj hjk
  by_cases c : j = k
  · subst c; obtain ⟨_, e⟩ := e; rw [← e]; simp [hx]
  · rw [List.getElem?_set_ne (by omega)]; exact h j hj (by omega)
theorem Filled.all {xs : List Nat} {k n : Nat} {vs : List Value} (h : Filled xs k vs) (hl : xs.length = n) (hx : vs.length = n) (hk : ¬ k < n) : vs = xs.map C := by
  apply List.ext_getElem?
  intro j
  by_cases hj : j < xs.length
  · rw [h j hj (by omega)]; simp [hj]
  · rw [List.getElem?_eq_none (by omega), List.getElem?_eq_none (by simpa using hj)]

set_option maxHeartbeats 400000 in
theorem bytes_yes (iss mx s : Int) (a : Option Addr) (n c : Nat) (w : World) (h : n ≤ 1048576) :
    Calls Trym.prog 16 #[.int .i64 iss, .int .u32 mx, .int .u64 s, .slice a n c] w fun e w' => e = .returned (.bool true) ∧ w' = w := by
  go_enter Trym.func16, Trym.ntmps16
  go_wp2
  go_ret
  exact ⟨rfl, rfl⟩

set_option maxHeartbeats 400000 in
theorem bytes_no (iss mx s : Int) (a : Option Addr) (n c : Nat) (w : World) (h : ¬ n ≤ 1048576) :
    Calls Trym.prog 16 #[.int .i64 iss, .int .u32 mx, .int .u64 s, .slice a n c] w fun e w' => e = .returned (.bool false) ∧ w' = w := by
  go_enter Trym.func16, Trym.ntmps16
  go_wp2
  all_goals (go_ret; exact ⟨rfl, rfl⟩)
end Rp
end Go.Proofs.Qxb6602838aMods
