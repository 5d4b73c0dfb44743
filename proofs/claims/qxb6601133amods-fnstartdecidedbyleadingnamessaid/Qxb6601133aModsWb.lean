/- The contracts of wbSame (13), walksBefore (25), ZZWalksBefore (9). -/
import Derived.Test.Qxb6601133aModsProg
import Derived.Test.Qxb6601133aModsPlain
import Derived.WalkKit
import Derived.Deep.Draws
import Derived.RegionTactic
namespace Go.Proofs.Qxb6601133aMods
open Go.RowKit
set_option linter.unusedVariables false

namespace Wb
theorem ret_bool {a b : Bool} (h : a = b) : Ending.returned (.bool a) = .returned (.bool b) := by rw [h]

theorem drop_cons (s : ByteArray) (k : Nat) (h : k < s.size) : s.data.toList.drop k = s[k] :: s.data.toList.drop (k + 1) := by
  rw [List.drop_eq_getElem_cons (by simpa using h)]; rfl
theorem drop_nil (s : ByteArray) (k : Nat) (h : s.size ≤ k) : s.data.toList.drop k = [] :=
  List.drop_eq_nil_of_le (by simpa using h)

theorem same_step {a b : ByteArray} {k : Nat} (ha : k < a.size) (hb : k < b.size) (h : (((a[k].toNat : Nat) : Int) != ((b[k].toNat : Nat) : Int)) = false)
    (e : decide (a.data.toList.drop k = b.data.toList.drop k) = decide (a.data.toList = b.data.toList)) :
    decide (a.data.toList.drop (k + 1) = b.data.toList.drop (k + 1)) = decide (a.data.toList = b.data.toList) := by
  rw [← e, drop_cons a k ha, drop_cons b k hb]
  have h' : a[k].toNat = b[k].toNat := by simp at h; omega
  have := Pl.byte_ext h'
  simp [this]

theorem same_miss {a b : ByteArray} {k : Nat} (ha : k < a.size) (hb : k < b.size) (h : (((a[k].toNat : Nat) : Int) != ((b[k].toNat : Nat) : Int)) = true)
    (e : decide (a.data.toList.drop k = b.data.toList.drop k) = decide (a.data.toList = b.data.toList)) :
    false = decide (a.data.toList = b.data.toList) := by
  rw [← e, drop_cons a k ha, drop_cons b k hb]
  have h' : a[k] ≠ b[k] := fun e => by rw [e] at h; simp at h
  simp [h']

theorem same_end {a b : ByteArray} {k : Nat} (ha : ¬ k < a.size) (hb : ¬ k < b.size)
    (e : decide (a.data.toList.drop k = b.data.toList.drop k) = decide (a.data.toList = b.data.toList)) :
    true = decide (a.data.toList = b.data.toList) := by
  rw [← e, drop_nil a k (by omega), drop_nil b k (by omega)]; simp

theorem same_len {a b : ByteArray} (h : ¬ a.size = b.size) : false = decide (a.data.toList = b.data.toList) := by
  have : ¬ a.data.toList = b.data.toList := fun e => h (by
    have := congrArg List.length e
    simpa using this)
  simp [this]

set_option maxHeartbeats 400000 in
theorem same_any (a b : ByteArray) (w : World) (ha : a.size ≤ maxLen) (hb : b.size ≤ maxLen) :
    Calls Trym.prog 13 #[.string a, .string b] w fun e w' => e = .returned (.bool (decide (a.data.toList = b.data.toList))) ∧ ∃ n, w' = w.drewN n := by
  unfold maxLen at ha hb
  by_cases hl : a.size = b.size
  · have hl' : ((a.size : Int) != (b.size : Int)) = false := by simp [hl]
    go_enter Trym.func13, Trym.ntmps13
    go_wp2
    go_loopw [5] (fun i wr => ∃ k n : Nat, k ≤ a.size ∧ i = .int .i64 k ∧ Hid (decide (a.data.toList.drop k = b.data.toList.drop k) = decide (a.data.toList = b.data.toList)) ∧ wr = w.drewN n)
      (fun i _ => a.size - (intOf i).toNat)
    case atStart => exact ⟨0, 0, Nat.zero_le _, rfl, rfl, rfl⟩
    case round =>
      obtain ⟨k, n, hk, rfl, hp, rfl⟩ := hrel
      by_cases hlt : k < b.size
      · go_wp2
        go_region
        all_goals go_wp2
        · go_ret
          exact ⟨ret_bool (same_miss (by omega) hlt (by assumption) hp), _, rfl⟩
        · go_roundw
          case rel => exact ⟨k + 1, _, by omega, by go_num, same_step (by omega) hlt (by assumption) hp, rfl⟩
          case measure => simp [intOf]; omega
      · go_wp2
        go_ret
        exact ⟨ret_bool (same_end (by omega) hlt hp), _, rfl⟩
  · have hl' : ((a.size : Int) != (b.size : Int)) = true := by simp; omega
    go_enter Trym.func13, Trym.ntmps13
    go_wp2
    go_ret
    exact ⟨ret_bool (same_len hl), 0, rfl⟩

theorem wb_step {a b : ByteArray} {k : Nat} (ha : k < a.size) (hb : k < b.size) (h : (((a[k].toNat : Nat) : Int) == ((b[k].toNat : Nat) : Int)) = true)
    (e : Pl.wb (a.data.toList.drop k) (b.data.toList.drop k) = Pl.wb a.data.toList b.data.toList) :
    Pl.wb (a.data.toList.drop (k + 1)) (b.data.toList.drop (k + 1)) = Pl.wb a.data.toList b.data.toList := by
  rw [← e, drop_cons a k ha, drop_cons b k hb]
  have h' : a[k].toNat = b[k].toNat := by simp at h; omega
  simp [Pl.wb, h']

theorem wb_slash {a b : ByteArray} {k : Nat} (ha : k < a.size) (hb : k < b.size) (h : (((a[k].toNat : Nat) : Int) == ((b[k].toNat : Nat) : Int)) = false)
    (h1 : (((a[k].toNat : Nat) : Int) == 47) = true)
    (e : Pl.wb (a.data.toList.drop k) (b.data.toList.drop k) = Pl.wb a.data.toList b.data.toList) :
    true = Pl.wb a.data.toList b.data.toList := by
  rw [← e, drop_cons a k ha, drop_cons b k hb]
  have h' : ¬ a[k].toNat = b[k].toNat := by simp at h; omega
  have h1' : a[k].toNat = 47 := by simp at h1; omega
  simp only [Pl.wb]; rw [if_neg h', if_pos h1']

theorem wb_slash2 {a b : ByteArray} {k : Nat} (ha : k < a.size) (hb : k < b.size) (h : (((a[k].toNat : Nat) : Int) == ((b[k].toNat : Nat) : Int)) = false)
    (h1 : (((a[k].toNat : Nat) : Int) == 47) = false) (h2 : (((b[k].toNat : Nat) : Int) == 47) = true)
    (e : Pl.wb (a.data.toList.drop k) (b.data.toList.drop k) = Pl.wb a.data.toList b.data.toList) :
    false = Pl.wb a.data.toList b.data.toList := by
  rw [← e, drop_cons a k ha, drop_cons b k hb]
  have h' : ¬ a[k].toNat = b[k].toNat := by simp at h; omega
  have h1' : ¬ a[k].toNat = 47 := by simp at h1; omega
  have h2' : b[k].toNat = 47 := by simp at h2; omega
  simp only [Pl.wb]; rw [if_neg h', if_neg h1', if_pos h2']

theorem wb_less {a b : ByteArray} {k : Nat} (ha : k < a.size) (hb : k < b.size) (h : (((a[k].toNat : Nat) : Int) == ((b[k].toNat : Nat) : Int)) = false)
    (h1 : (((a[k].toNat : Nat) : Int) == 47) = false) (h2 : (((b[k].toNat : Nat) : Int) == 47) = false)
    (e : Pl.wb (a.data.toList.drop k) (b.data.toList.drop k) = Pl.wb a.data.toList b.data.toList) :
    decide (a[k].toNat < b[k].toNat) = Pl.wb a.data.toList b.data.toList := by
  rw [← e, drop_cons a k ha, drop_cons b k hb]
  have h' : ¬ a[k].toNat = b[k].toNat := by simp at h; omega
  have h1' : ¬ a[k].toNat = 47 := by simp at h1; omega
  have h2' : ¬ b[k].toNat = 47 := by simp at h2; omega
  simp only [Pl.wb]; rw [if_neg h', if_neg h1', if_neg h2']

theorem wb_end {a b : ByteArray} {k : Nat} (hka : k ≤ a.size) (hkb : k ≤ b.size) (hab : ¬ (k < a.size ∧ k < b.size))
    (e : Pl.wb (a.data.toList.drop k) (b.data.toList.drop k) = Pl.wb a.data.toList b.data.toList) :
    decide (a.size < b.size) = Pl.wb a.data.toList b.data.toList := by
  rw [← e]
  by_cases h1 : k < a.size
  · have h2 : ¬ k < b.size := fun h => hab ⟨h1, h⟩
    rw [drop_cons a k h1, drop_nil b k (by omega)]
    simp [Pl.wb]; omega
  · rw [drop_nil a k (by omega)]
    by_cases h2 : k < b.size
    · rw [drop_cons b k h2]; simp [Pl.wb]; omega
    · rw [drop_nil b k (by omega)]; simp [Pl.wb]; omega

set_option maxHeartbeats 800000 in
theorem walks_any (a b : ByteArray) (w : World) (ha : a.size ≤ maxLen) (hb : b.size ≤ maxLen) :
    Calls Trym.prog 25 #[.string a, .string b] w fun e w' => e = .returned (.bool (Pl.wb a.data.toList b.data.toList)) ∧ ∃ n, w' = w.drewN n := by
  unfold maxLen at ha hb
  go_enter Trym.func25, Trym.ntmps25
  go_wp2
  go_loopw [5] (fun i wr => ∃ k n : Nat, k ≤ a.size ∧ k ≤ b.size ∧ i = .int .i64 k ∧ Hid (Pl.wb (a.data.toList.drop k) (b.data.toList.drop k) = Pl.wb a.data.toList b.data.toList) ∧ wr = w.drewN n)
    (fun i _ => a.size - (intOf i).toNat)
  case atStart => exact ⟨0, 0, Nat.zero_le _, Nat.zero_le _, rfl, rfl, rfl⟩
  case round =>
    obtain ⟨k, n, hka, hkb, rfl, hp, rfl⟩ := hrel
    by_cases h1 : k < a.size
    · by_cases h2 : k < b.size
      · go_wp2
        go_region
        all_goals go_wp2
        · go_roundw
          case rel => exact ⟨k + 1, _, by omega, by omega, by go_num, wb_step h1 h2 (by assumption) hp, rfl⟩
          case measure => simp [intOf]; omega
        · go_ret
          exact ⟨ret_bool (wb_slash h1 h2 (by assumption) (by assumption) hp), _, rfl⟩
        · go_ret
          exact ⟨ret_bool (wb_slash2 h1 h2 (by assumption) (by assumption) (by assumption) hp), _, rfl⟩
        · go_region
          all_goals go_wp2
          go_ret
          exact ⟨ret_bool (wb_less h1 h2 (by assumption) (by assumption) (by assumption) hp), _, rfl⟩
      · go_wp2
        go_ret
        exact ⟨ret_bool (wb_end hka hkb (by omega) hp), _, rfl⟩
    · go_wp2
      go_ret
      exact ⟨ret_bool (wb_end hka hkb (by omega) hp), _, rfl⟩

theorem zz_any (a b : ByteArray) (w : World) (ha : a.size ≤ maxLen) (hb : b.size ≤ maxLen) :
    Calls Trym.prog 9 #[.string a, .string b] w fun e w' => e = .returned (.bool (Pl.wb a.data.toList b.data.toList)) ∧ ∃ n, w' = w.drewN n := by
  go_enter Trym.func9, Trym.ntmps9
  go_wp2_with (go_at_call 25; refine (walks_any _ _ _ ha hb).mono ?_; rintro e w' ⟨rfl, n, rfl⟩)
  go_ret
  exact ⟨rfl, _, rfl⟩
end Wb
end Go.Proofs.Qxb6601133aMods
