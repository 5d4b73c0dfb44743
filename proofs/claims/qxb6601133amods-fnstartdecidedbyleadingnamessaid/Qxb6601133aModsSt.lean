/- Contracts on slices of strings: spBytes (15), zzBytes (14). -/
import Derived.Test.Qxb6601133aModsSplit
namespace Go.Proofs.Qxb6601133aMods
open Go.RowKit
set_option linter.unusedVariables false

namespace St
open Wb Nm

/-- The slice value '.slice a n c' holds the strings ss in the world w. -/
def Raw (w : World) (a : Option Addr) (n : Nat) (ss : List ByteArray) : Prop :=
  ss.length = n ∧ (0 < n → ∃ b off, a = some ⟨b, off, none⟩ ∧ b < w.heap.size ∧ ∀ j (h : j < ss.length), w.cell? ⟨b, off + j, none⟩ = some (.string ss[j]))

theorem Raw.len {w : World} {a : Option Addr} {n : Nat} {ss : List ByteArray} (h : Raw w a n ss) : ss.length = n := h.1

theorem Raw.at {w : World} {a : Option Addr} {n : Nat} {ss : List ByteArray} (h : Raw w a n ss) {k : Nat} (hk : k < n) :
    ∃ b off s, a = some ⟨b, off, none⟩ ∧ b < w.heap.size ∧ w.cell? ⟨b, off + k, none⟩ = some (.string s) ∧ Hid (∃ h : k < ss.length, s = ss[k]) := by
  obtain ⟨b, off, e, hb, hc⟩ := h.2 (by omega)
  have hk' : k < ss.length := by rw [h.1]; exact hk
  exact ⟨b, off, ss[k], e, hb, hc k hk', hk', rfl⟩

theorem Raw.below {w w' : World} {a : Option Addr} {n : Nat} {ss : List ByteArray} (h : Raw w a n ss) (hb : Below w.heap.size w w') : Raw w' a n ss := by
  refine ⟨h.1, fun hn => ?_⟩
  obtain ⟨b, off, e, hlt, hc⟩ := h.2 hn
  exact ⟨b, off, e, Nat.lt_of_lt_of_le hlt hb.size, fun j hj => (hb.cell (p := ⟨b, off + j, none⟩) hlt).trans (hc j hj)⟩

theorem Raw.below' {B : Nat} {w w' : World} {a : Option Addr} {n : Nat} {ss : List ByteArray} (h : Raw w a n ss) (hb : Below B w w') (hB : w.heap.size ≤ B) : Raw w' a n ss :=
  h.below (hb.mono hB)

theorem Raw.drew {w : World} {a : Option Addr} {n : Nat} {ss : List ByteArray} (h : Raw w a n ss) (m : Nat) : Raw (w.drewN m) a n ss := h

set_option maxHeartbeats 400000 in
theorem bytes_any (a : Option Addr) (n c : Nat) (ss : List ByteArray) (w : World) (h : Raw w a n ss) (hn : n ≤ 65536) (hs : ∀ t ∈ ss, t.size ≤ 1048576) :
    Calls Trym.prog 15 #[.slice a n c] w fun e w' => ∃ z : Int, e = .returned (.int .i64 z) ∧ 0 ≤ z ∧ z ≤ 4194304 ∧ w' = w := by
  have HS : Hid _ := hs
  clear hs
  go_enter Trym.func15, Trym.ntmps15
  go_wp2
  go_loop [3, 4] (fun z i => ∃ (k : Nat) (y : Int), k ≤ n ∧ i = .int .i64 k ∧ z = .int .i64 y ∧ 0 ≤ y ∧ y ≤ 1048576) (fun _ i => n - (intOf i).toNat)
  case atStart => exact ⟨0, 0, Nat.zero_le _, rfl, rfl, by omega, by omega⟩
  case round =>
    obtain ⟨k, y, hk, rfl, rfl, hy0, hy1⟩ := hrel
    by_cases hlt : k < n
    · obtain ⟨b, off, s, rfl, hb, hc, hsk⟩ := h.at hlt
      have hsz : s.size ≤ 1048576 := by obtain ⟨h, e⟩ := hsk.out; rw [e]; exact HS.out _ (List.getElem_mem h)
      go_wp2
      · go_ret
        exact ⟨_, rfl, by omega, by omega, rfl⟩
      · go_round
        case rel => exact ⟨k + 1, _, by omega, by go_num, rfl, by omega, by omega⟩
        case measure => simp [intOf]; omega
    · go_wp2
      go_ret
      exact ⟨_, rfl, by omega, by omega, rfl⟩
def Small (ss : List ByteArray) (k : Nat) : Prop := ∀ j (h : j < ss.length), j < k → ss[j].size ≤ 1048576

theorem Small.zero (ss : List ByteArray) : Small ss 0 := fun j h hj => by omega
theorem Small.succ {ss : List ByteArray} {k : Nat} (h : Small ss k) {s : ByteArray} (e : ∃ hk : k < ss.length, s = ss[k]) (hs : s.size ≤ 1048576) : Small ss (k + 1) := by
  intro j hj hjk
  by_cases c : j = k
  · subst c; obtain ⟨_, e⟩ := e; rw [← e]; exact hs
  · exact h j hj (by omega)
theorem Small.all {ss : List ByteArray} {k n : Nat} (h : Small ss k) (hl : ss.length = n) (hk : ¬ k < n) : ∀ t ∈ ss, t.size ≤ 1048576 := by
  intro t ht
  obtain ⟨j, hj, rfl⟩ := List.getElem_of_mem ht
  exact h j hj (by omega)

/-- What zzBytes says, under a name that the walk does not open. -/
def ZzOk (s0 s1 s2 s3 : List ByteArray) (w : World) (e : Ending) (w' : World) : Prop :=
  ∃ r, e = .returned (.bool r) ∧ w' = w ∧ (r = true → (∀ t ∈ s0, t.size ≤ 1048576) ∧ (∀ t ∈ s1, t.size ≤ 1048576) ∧ (∀ t ∈ s2, t.size ≤ 1048576) ∧ (∀ t ∈ s3, t.size ≤ 1048576))
theorem zz_no (s0 s1 s2 s3 : List ByteArray) (w : World) : ZzOk s0 s1 s2 s3 w (.returned (.bool false)) w := ⟨_, rfl, rfl, fun h => by cases h⟩

set_option maxHeartbeats 2000000 in
theorem zz_any (a0 a1 a2 a3 : Option Addr) (n0 c0 n1 c1 n2 c2 n3 c3 : Nat) (s0 s1 s2 s3 : List ByteArray) (w : World) (h0 : Raw w a0 n0 s0) (h1 : Raw w a1 n1 s1) (h2 : Raw w a2 n2 s2) (h3 : Raw w a3 n3 s3)
    (m0 : n0 ≤ maxLen) (m1 : n1 ≤ maxLen) (m2 : n2 ≤ maxLen) (m3 : n3 ≤ maxLen) (q0 : ∀ t ∈ s0, t.size ≤ maxLen) (q1 : ∀ t ∈ s1, t.size ≤ maxLen) (q2 : ∀ t ∈ s2, t.size ≤ maxLen) (q3 : ∀ t ∈ s3, t.size ≤ maxLen) :
    Calls Trym.prog 14 #[.slice a0 n0 c0, .slice a1 n1 c1, .slice a2 n2 c2, .slice a3 n3 c3] w (ZzOk s0 s1 s2 s3 w) := by
  unfold maxLen at m0 m1 m2 m3 q0 q1 q2 q3
  have Q0 : Hid _ := q0
  have Q1 : Hid _ := q1
  have Q2 : Hid _ := q2
  have Q3 : Hid _ := q3
  clear q0 q1 q2 q3
  go_enter Trym.func14, Trym.ntmps14
  go_wp2
  · go_ret
    exact zz_no _ _ _ _ _
  · go_loop [9, 10] (fun z i => ∃ (k : Nat) (y : Int), k ≤ n0 ∧ i = .int .i64 k ∧ z = .int .i64 y ∧ 0 ≤ y ∧ y ≤ 1048576 ∧ Small s0 k) (fun _ i => n0 - (intOf i).toNat)
    case atStart => exact ⟨0, _, Nat.zero_le _, rfl, rfl, by omega, by omega, Small.zero _⟩
    case round =>
      obtain ⟨k0, y0, hk0, rfl, rfl, hy0, hz0, hS0⟩ := hrel
      by_cases hlt0 : k0 < n0
      · obtain ⟨b, off, s, rfl, hb, hc, hsk⟩ := h0.at hlt0
        have hsz : s.size ≤ 2 ^ 63 - 1 := by obtain ⟨h, e⟩ := hsk.out; rw [e]; exact Q0.out _ (List.getElem_mem h)
        by_cases hs1 : s.size ≤ 1048576
        · go_wp2
          · go_ret
            exact zz_no _ _ _ _ _
          · go_round
            case rel => exact ⟨k0 + 1, _, by omega, by go_num, rfl, by omega, by omega, hS0.succ hsk.out hs1⟩
            case measure => simp [intOf]; omega
        · go_wp2
          go_ret
          exact zz_no _ _ _ _ _
      · have hA0 := hS0.all h0.len hlt0
        have HA0 : Hid _ := hA0
        clear hA0 hS0
        go_wp2
        · go_ret
          exact zz_no _ _ _ _ _
        · go_ret
          exact zz_no _ _ _ _ _
        · go_loop [9, 11] (fun z i => ∃ (k : Nat) (y : Int), k ≤ n1 ∧ i = .int .i64 k ∧ z = .int .i64 y ∧ 0 ≤ y ∧ y ≤ 1048576 ∧ Small s1 k) (fun _ i => n1 - (intOf i).toNat)
          case atStart => exact ⟨0, _, Nat.zero_le _, rfl, rfl, by omega, by omega, Small.zero _⟩
          case round =>
            obtain ⟨k1, y1, hk1, rfl, rfl, hy1, hz1, hS1⟩ := hrel
            by_cases hlt1 : k1 < n1
            · obtain ⟨b, off, s, rfl, hb, hc, hsk⟩ := h1.at hlt1
              have hsz : s.size ≤ 2 ^ 63 - 1 := by obtain ⟨h, e⟩ := hsk.out; rw [e]; exact Q1.out _ (List.getElem_mem h)
              by_cases hs1 : s.size ≤ 1048576
              · go_wp2
                · go_ret
                  exact zz_no _ _ _ _ _
                · go_round
                  case rel => exact ⟨k1 + 1, _, by omega, by go_num, rfl, by omega, by omega, hS1.succ hsk.out hs1⟩
                  case measure => simp [intOf]; omega
              · go_wp2
                go_ret
                exact zz_no _ _ _ _ _
            · have hA1 := hS1.all h1.len hlt1
              have HA1 : Hid _ := hA1
              clear hA1 hS1
              go_wp2
              · go_ret
                exact zz_no _ _ _ _ _
              · go_ret
                exact zz_no _ _ _ _ _
              · go_loop [9, 12] (fun z i => ∃ (k : Nat) (y : Int), k ≤ n2 ∧ i = .int .i64 k ∧ z = .int .i64 y ∧ 0 ≤ y ∧ y ≤ 1048576 ∧ Small s2 k) (fun _ i => n2 - (intOf i).toNat)
                case atStart => exact ⟨0, _, Nat.zero_le _, rfl, rfl, by omega, by omega, Small.zero _⟩
                case round =>
                  obtain ⟨k2, y2, hk2, rfl, rfl, hy2, hz2, hS2⟩ := hrel
                  by_cases hlt2 : k2 < n2
                  · obtain ⟨b, off, s, rfl, hb, hc, hsk⟩ := h2.at hlt2
                    have hsz : s.size ≤ 2 ^ 63 - 1 := by obtain ⟨h, e⟩ := hsk.out; rw [e]; exact Q2.out _ (List.getElem_mem h)
                    by_cases hs1 : s.size ≤ 1048576
                    · go_wp2
                      · go_ret
                        exact zz_no _ _ _ _ _
                      · go_round
                        case rel => exact ⟨k2 + 1, _, by omega, by go_num, rfl, by omega, by omega, hS2.succ hsk.out hs1⟩
                        case measure => simp [intOf]; omega
                    · go_wp2
                      go_ret
                      exact zz_no _ _ _ _ _
                  · have hA2 := hS2.all h2.len hlt2
                    have HA2 : Hid _ := hA2
                    clear hA2 hS2
                    go_wp2
                    · go_ret
                      exact zz_no _ _ _ _ _
                    · go_ret
                      exact zz_no _ _ _ _ _
                    · go_loop [9, 13] (fun z i => ∃ (k : Nat) (y : Int), k ≤ n3 ∧ i = .int .i64 k ∧ z = .int .i64 y ∧ 0 ≤ y ∧ y ≤ 1048576 ∧ Small s3 k) (fun _ i => n3 - (intOf i).toNat)
                      case atStart => exact ⟨0, _, Nat.zero_le _, rfl, rfl, by omega, by omega, Small.zero _⟩
                      case round =>
                        obtain ⟨k3, y3, hk3, rfl, rfl, hy3, hz3, hS3⟩ := hrel
                        by_cases hlt3 : k3 < n3
                        · obtain ⟨b, off, s, rfl, hb, hc, hsk⟩ := h3.at hlt3
                          have hsz : s.size ≤ 2 ^ 63 - 1 := by obtain ⟨h, e⟩ := hsk.out; rw [e]; exact Q3.out _ (List.getElem_mem h)
                          by_cases hs1 : s.size ≤ 1048576
                          · go_wp2
                            · go_ret
                              exact zz_no _ _ _ _ _
                            · go_round
                              case rel => exact ⟨k3 + 1, _, by omega, by go_num, rfl, by omega, by omega, hS3.succ hsk.out hs1⟩
                              case measure => simp [intOf]; omega
                          · go_wp2
                            go_ret
                            exact zz_no _ _ _ _ _
                        · have hA3 := hS3.all h3.len hlt3
                          have HA3 : Hid _ := hA3
                          clear hA3 hS3
                          go_wp2
                          go_ret
                          exact ⟨_, rfl, rfl, fun _ => ⟨HA0.out, HA1.out, HA2.out, HA3.out⟩⟩

end St
end Go.Proofs.Qxb6601133aMods
