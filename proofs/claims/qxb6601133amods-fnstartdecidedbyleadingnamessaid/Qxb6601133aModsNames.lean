/- The contracts of wbNameLess (26), wbNamesBefore (10). -/
import Derived.Test.Qxb6601133aModsWb
import Derived.BigQuiet
import Derived.Deep.QuietTactic
namespace Go.Proofs.Qxb6601133aMods
open Go.RowKit
set_option linter.unusedVariables false

namespace Nm
open Wb

theorem nl_step {a b : ByteArray} {k : Nat} (ha : k < a.size) (hb : k < b.size) (h : (((a[k].toNat : Nat) : Int) != ((b[k].toNat : Nat) : Int)) = false)
    (e : Pl.nameLess (a.data.toList.drop k) (b.data.toList.drop k) = Pl.nameLess a.data.toList b.data.toList) :
    Pl.nameLess (a.data.toList.drop (k + 1)) (b.data.toList.drop (k + 1)) = Pl.nameLess a.data.toList b.data.toList := by
  rw [← e, drop_cons a k ha, drop_cons b k hb]
  have h' : a[k].toNat = b[k].toNat := by simp at h; omega
  simp [Pl.nameLess, h']

theorem nl_less {a b : ByteArray} {k : Nat} (ha : k < a.size) (hb : k < b.size) (h : (((a[k].toNat : Nat) : Int) != ((b[k].toNat : Nat) : Int)) = true)
    (e : Pl.nameLess (a.data.toList.drop k) (b.data.toList.drop k) = Pl.nameLess a.data.toList b.data.toList) :
    decide (a[k].toNat < b[k].toNat) = Pl.nameLess a.data.toList b.data.toList := by
  rw [← e, drop_cons a k ha, drop_cons b k hb]
  have h' : ¬ a[k].toNat = b[k].toNat := fun e => by rw [e] at h; simp at h
  simp only [Pl.nameLess]; rw [if_neg h']

theorem nl_end {a b : ByteArray} {k : Nat} (hka : k ≤ a.size) (hkb : k ≤ b.size) (hab : ¬ (k < a.size ∧ k < b.size))
    (e : Pl.nameLess (a.data.toList.drop k) (b.data.toList.drop k) = Pl.nameLess a.data.toList b.data.toList) :
    decide (a.size < b.size) = Pl.nameLess a.data.toList b.data.toList := by
  rw [← e]
  by_cases h1 : k < a.size
  · have h2 : ¬ k < b.size := fun h => hab ⟨h1, h⟩
    rw [drop_cons a k h1, drop_nil b k (by omega)]
    simp [Pl.nameLess]; omega
  · rw [drop_nil a k (by omega)]
    by_cases h2 : k < b.size
    · rw [drop_cons b k h2]; simp [Pl.nameLess]; omega
    · rw [drop_nil b k (by omega)]; simp [Pl.nameLess]; omega

set_option maxHeartbeats 800000 in
theorem less_any (a b : ByteArray) (w : World) (ha : a.size ≤ maxLen) (hb : b.size ≤ maxLen) :
    Calls Trym.prog 26 #[.string a, .string b] w fun e w' => e = .returned (.bool (Pl.nameLess a.data.toList b.data.toList)) ∧ ∃ n, w' = w.drewN n := by
  unfold maxLen at ha hb
  go_enter Trym.func26, Trym.ntmps26
  go_wp2
  go_loopw [5] (fun i wr => ∃ k n : Nat, k ≤ a.size ∧ k ≤ b.size ∧ i = .int .i64 k ∧ Hid (Pl.nameLess (a.data.toList.drop k) (b.data.toList.drop k) = Pl.nameLess a.data.toList b.data.toList) ∧ wr = w.drewN n)
    (fun i _ => a.size - (intOf i).toNat)
  case atStart => exact ⟨0, 0, Nat.zero_le _, Nat.zero_le _, rfl, rfl, rfl⟩
  case round =>
    obtain ⟨k, n, hka, hkb, rfl, hp, rfl⟩ := hrel
    by_cases h1 : k < a.size
    · by_cases h2 : k < b.size
      · go_wp2
        go_region
        all_goals go_wp2
        · go_region
          all_goals go_wp2
          go_ret
          exact ⟨ret_bool (nl_less h1 h2 (by assumption) hp), _, rfl⟩
        · go_roundw
          case rel => exact ⟨k + 1, _, by omega, by omega, by go_num, nl_step h1 h2 (by assumption) hp, rfl⟩
          case measure => simp [intOf]; omega
      · go_wp2
        go_ret
        exact ⟨ret_bool (nl_end hka hkb (by omega) hp), _, rfl⟩
    · go_wp2
      go_ret
      exact ⟨ret_bool (nl_end hka hkb (by omega) hp), _, rfl⟩

/-- A list of strings as lists of bytes. -/
def L (ss : List ByteArray) : List (List UInt8) := ss.map (·.data.toList)

theorem L_drop {ss : List ByteArray} {k : Nat} (h : k < ss.length) : (L ss).drop k = ss[k].data.toList :: (L ss).drop (k + 1) := by
  unfold L; rw [List.drop_eq_getElem_cons (by simpa using h)]; simp

theorem nb_step {x y : List ByteArray} {k : Nat} (hx : k < x.length) (hy : k < y.length) (h : decide (x[k].data.toList = y[k].data.toList) = true)
    (e : Pl.namesBefore ((L x).drop k) ((L y).drop k) = Pl.namesBefore (L x) (L y)) :
    Pl.namesBefore ((L x).drop (k + 1)) ((L y).drop (k + 1)) = Pl.namesBefore (L x) (L y) := by
  rw [← e, L_drop hx, L_drop hy]
  have h' := of_decide_eq_true h
  simp only [Pl.namesBefore]; rw [if_pos h']

theorem nb_less {x y : List ByteArray} {k : Nat} (hx : k < x.length) (hy : k < y.length) (h : decide (x[k].data.toList = y[k].data.toList) = false)
    (e : Pl.namesBefore ((L x).drop k) ((L y).drop k) = Pl.namesBefore (L x) (L y)) :
    Pl.nameLess x[k].data.toList y[k].data.toList = Pl.namesBefore (L x) (L y) := by
  rw [← e, L_drop hx, L_drop hy]
  have h' := of_decide_eq_false h
  simp only [Pl.namesBefore]; rw [if_neg h']

theorem nb_end {x y : List ByteArray} {k : Nat} (hka : k ≤ x.length) (hkb : k ≤ y.length) (hab : ¬ (k < x.length ∧ k < y.length))
    (e : Pl.namesBefore ((L x).drop k) ((L y).drop k) = Pl.namesBefore (L x) (L y)) :
    decide (x.length < y.length) = Pl.namesBefore (L x) (L y) := by
  have nil : ∀ z : List ByteArray, z.length ≤ k → (L z).drop k = [] := fun z h => List.drop_eq_nil_of_le (by simpa [L] using h)
  rw [← e]
  by_cases h1 : k < x.length
  · have h2 : ¬ k < y.length := fun h => hab ⟨h1, h⟩
    rw [L_drop h1, nil y (by omega)]
    simp [Pl.namesBefore]; omega
  · rw [nil x (by omega)]
    by_cases h2 : k < y.length
    · rw [L_drop h2]; simp [Pl.namesBefore]; omega
    · rw [nil y (by omega)]; simp [Pl.namesBefore]; omega

theorem drewT {w wr : World} (h : ∃ n, wr = w.drewN n) (m : Nat) : ∃ n, wr.drewN m = w.drewN n := by
  obtain ⟨n, rfl⟩ := h; exact ⟨n + m, World.drewN_drewN ..⟩

/-- wbSame's answer, under a name that the walk does not open. -/
def sameB (a b : ByteArray) : Bool := decide (a.data.toList = b.data.toList)

theorem same_b (a b : ByteArray) (w : World) (ha : a.size ≤ maxLen) (hb : b.size ≤ maxLen) :
    Calls Trym.prog 13 #[.string a, .string b] w fun e w' => e = .returned (.bool (sameB a b)) ∧ ∃ n, w' = w.drewN n :=
  same_any a b w ha hb

set_option maxHeartbeats 800000 in
theorem names_any (b1 o1 n1 c1 b2 o2 n2 c2 : Nat) (x y : List ByteArray) (w : World) (hx : x.length = n1) (hy : y.length = n2) (hn1 : n1 ≤ 1048577) (hn2 : n2 ≤ 1048577)
    (h1 : ∀ j (h : j < x.length), w.cell? ⟨b1, o1 + j, none⟩ = some (.string x[j])) (h2 : ∀ j (h : j < y.length), w.cell? ⟨b2, o2 + j, none⟩ = some (.string y[j]))
    (s1 : ∀ j (h : j < x.length), x[j].size ≤ maxLen) (s2 : ∀ j (h : j < y.length), y[j].size ≤ maxLen) :
    Calls Trym.prog 10 #[.slice (some ⟨b1, o1, none⟩) n1 c1, .slice (some ⟨b2, o2, none⟩) n2 c2] w fun e w' => e = .returned (.bool (Pl.namesBefore (L x) (L y))) ∧ ∃ n, w' = w.drewN n := by
  have H1 : Hid _ := h1
  have H2 : Hid _ := h2
  have S1 : Hid _ := s1
  have S2 : Hid _ := s2
  have HX : Hid _ := hx
  have HY : Hid _ := hy
  clear h1 h2 s1 s2 hx hy
  go_enter Trym.func10, Trym.ntmps10
  go_wp2
  go_loopw [5] (fun i wr => ∃ k : Nat, k ≤ n1 ∧ k ≤ n2 ∧ i = .int .i64 k ∧ Hid (Pl.namesBefore ((L x).drop k) ((L y).drop k) = Pl.namesBefore (L x) (L y)) ∧ Hid (∃ n, wr = w.drewN n))
    (fun i _ => n1 - (intOf i).toNat)
  case atStart => exact ⟨0, Nat.zero_le _, Nat.zero_le _, rfl, rfl, 0, rfl⟩
  case round =>
    obtain ⟨k, hka, hkb, rfl, hp, hwr⟩ := hrel
    by_cases g1 : k < n1
    · by_cases g2 : k < n2
      · have l1 : k < x.length := by rw [HX.out]; exact g1
        have l2 : k < y.length := by rw [HY.out]; exact g2
        obtain ⟨sx, hsx⟩ : ∃ s, s = x[k] := ⟨_, rfl⟩
        obtain ⟨sy, hsy⟩ : ∃ s, s = y[k] := ⟨_, rfl⟩
        have e1 : wr.cell? ⟨b1, o1 + k, none⟩ = some (.string sx) := by
          obtain ⟨n, hn⟩ := hwr.out; rw [hn, World.cell?_drewN, hsx]; exact H1.out k l1
        have e2 : wr.cell? ⟨b2, o2 + k, none⟩ = some (.string sy) := by
          obtain ⟨n, hn⟩ := hwr.out; rw [hn, World.cell?_drewN, hsy]; exact H2.out k l2
        have q1 := S1.out k l1
        have q2 := S2.out k l2
        rw [← hsx] at q1; rw [← hsy] at q2
        have HSX : Hid _ := hsx
        have HSY : Hid _ := hsy
        clear hsx hsy
        by_cases hd : sameB sx sy = true
        · go_wp2_with fail
          go_quiet ((go_at_call 13; exact Calls.quiet_of (same_b _ _ _ q1 q2)))
          go_wp2_with fail
          go_roundw
          case rel => exact ⟨k + 1, by omega, by omega, by go_num, nb_step l1 l2 (by rw [← HSX.out, ← HSY.out]; exact hd) hp, drewT hwr.out _⟩
          case measure => simp [intOf]; omega
        · have hd' : sameB sx sy = false := by simpa using hd
          clear hd
          go_wp2_with fail
          go_quiet ((go_at_call 13; exact Calls.quiet_of (same_b _ _ _ q1 q2)))
          go_wp2_with fail
          generalize hwn : wr.drewN nq = wn at *
          have e1' : wn.cell? ⟨b1, o1 + k, none⟩ = some (.string sx) := by rw [← hwn, World.cell?_drewN]; exact e1
          have e2' : wn.cell? ⟨b2, o2 + k, none⟩ = some (.string sy) := by rw [← hwn, World.cell?_drewN]; exact e2
          have hwr' : Hid (∃ n, wn = w.drewN n) := by rw [← hwn]; exact drewT hwr.out _
          clear hwn
          go_quiet ((go_at_call 26; exact Calls.quiet_of (less_any _ _ _ q1 q2)))
          go_wp2_with fail
          go_ret
          exact ⟨ret_bool (by rw [HSX.out, HSY.out]; exact nb_less l1 l2 (by rw [← HSX.out, ← HSY.out]; exact hd') hp), drewT hwr'.out _⟩
      · go_wp2
        go_ret
        exact ⟨ret_bool (by rw [← HX.out, ← HY.out]; exact nb_end (by rw [HX.out]; exact hka) (by rw [HY.out]; exact hkb) (by rw [HX.out, HY.out]; omega) hp), hwr.out⟩
    · go_wp2
      go_ret
      exact ⟨ret_bool (by rw [← HX.out, ← HY.out]; exact nb_end (by rw [HX.out]; exact hka) (by rw [HY.out]; exact hkb) (by rw [HX.out, HY.out]; omega) hp), hwr.out⟩

end Nm
end Go.Proofs.Qxb6601133aMods
