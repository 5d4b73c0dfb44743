/- Contracts: (*absPaths).start (27), ZZStart (17). -/
import Derived.Test.Qxb6601133aModsSt2
namespace Go.Proofs.Qxb6601133aMods
open Go.RowKit
set_option linter.unusedVariables false

namespace St
open Wb Nm

/-- What start says, under a name that the walk does not open. -/
def StOk (w : World) (ng nr n : Nat) (g s : List ByteArray) (e : Ending) (w' : World) : Prop :=
  ∃ (k : Nat) (a' : Option Addr) (n' c' : Nat), e = .returned (.tuple #[.int .i64 k, .slice a' n' c']) ∧ (∃ m, w' = w.drewN m) ∧
    (((L s).take ng = L g ∧ k = 0 ∧ Raw w a' n' (s.drop ng) ∧ n' = n - ng) ∨ (¬ (L s).take ng = L g ∧ k = nr ∧ Raw w a' n' s ∧ n' = n))

def pfx (g s : List ByteArray) (k : Nat) : Bool := decide ((L s).take k = (L g).take k)

theorem pfx_zero (g s : List ByteArray) : true = pfx g s 0 := by simp [pfx]
theorem L_take_succ {x : List ByteArray} {k : Nat} {t : ByteArray} (e : ∃ hk : k < x.length, t = x[k]) : (L x).take (k + 1) = (L x).take k ++ [t.data.toList] := by
  obtain ⟨hk, rfl⟩ := e
  unfold L
  rw [List.take_succ_eq_append_getElem (by simpa using hk)]; simp
theorem pfx_stay {g s : List ByteArray} {k : Nat} (h : false = pfx g s k) : false = pfx g s (k + 1) := by
  have h' := of_decide_eq_false h.symm
  have : ¬ (L s).take (k + 1) = (L g).take (k + 1) := fun e => h' (by
    have := congrArg (List.take k) e
    simpa [List.take_take] using this)
  simp [pfx, this]
theorem pfx_step {g s : List ByteArray} {k : Nat} {tg ts : ByteArray} (eg : ∃ hk : k < g.length, tg = g[k]) (es : ∃ hk : k < s.length, ts = s[k]) (h : true = pfx g s k) :
    (ts.toList == tg.toList) = pfx g s (k + 1) := by
  have h' := of_decide_eq_true h.symm
  unfold pfx
  rw [L_take_succ eg, L_take_succ es, h', Go.ByteArray.toList_eq, Go.ByteArray.toList_eq]
  rw [Bool.eq_iff_iff]; simp
theorem pfx_all {g s : List ByteArray} {k ng : Nat} {b : Bool} (hl : g.length = ng) (hk : k = ng) (h : b = pfx g s k) : b = true ↔ (L s).take ng = L g := by
  subst hk
  rw [h]; unfold pfx
  rw [List.take_of_length_le (l := L g) (by simp [L]; omega)]
  simp

theorem raw_cut {w : World} {a : Option Addr} {n c ng : Nat} {s : List ByteArray} (h : Raw w a n s) (hc : n ≤ c) (hg : ng ≤ n) :
    Raw w (if c = ng then a else a.map (·.add ng)) (n - ng) (s.drop ng) := by
  refine ⟨by rw [List.length_drop, h.len], fun hp => ?_⟩
  obtain ⟨b, off, rfl, hb, hcell⟩ := h.2 (by omega)
  refine ⟨b, off + ng, ?_, hb, fun j hj => ?_⟩
  · rw [if_neg (by omega)]; simp only [Option.map_some, Addr.add]
    split
    · simp_all
    · rfl
  · rw [Nat.add_assoc, hcell (ng + j) (by simp at hj; omega)]
    simp

set_option maxHeartbeats 1000000 in
theorem start_any (bp : Nat) (ag ar a : Option Addr) (ng cg nr cr n c : Nat) (g s : List ByteArray) (w : World) (hg : Raw w ag ng g) (hs : Raw w a n s)
    (hc0 : w.cell? ⟨bp, 0, none⟩ = some (.slice ag ng cg)) (hc1 : w.cell? ⟨bp, 0 + 1, none⟩ = some (.slice ar nr cr)) (hge : ng ≤ n) (hn : n ≤ 1048576) (hcap : n ≤ c) :
    Calls Trym.prog 27 #[.pointer (some ⟨bp, 0, none⟩), .slice a n c] w (StOk w ng nr n g s) := by
  have hcut := raw_cut hs hcap hge
  go_enter Trym.func27, Trym.ntmps27
  go_wp2
  go_loop [6, 22] (fun sm i => ∃ (k : Nat) (q : Bool), k ≤ ng ∧ i = .int .i64 k ∧ sm = .bool q ∧ Hid (q = pfx g s k)) (fun _ i => ng - (intOf i).toNat)
  case atStart => exact ⟨0, true, Nat.zero_le _, rfl, rfl, pfx_zero _ _⟩
  case round =>
    obtain ⟨k, q, hk, rfl, rfl, hq⟩ := hrel
    by_cases hlt : k < ng
    · obtain ⟨b1, o1, t1, rfl, hb1, hk1, e1⟩ := hg.at hlt
      obtain ⟨b2, o2, t2, rfl, hb2, hk2, e2⟩ := hs.at (k := k) (by omega)
      cases q with
      | true =>
        go_wp2
        go_round
        case rel => exact ⟨k + 1, _, by omega, by go_num, rfl, pfx_step e1.out e2.out hq.out⟩
        case measure => simp [intOf]; omega
      | false =>
        go_wp2
        go_round
        case rel => exact ⟨k + 1, _, by omega, by go_num, rfl, pfx_stay hq.out⟩
        case measure => simp [intOf]; omega
    · have hall := pfx_all hg.len (by omega : k = ng) hq.out
      have HA : Hid _ := hall
      clear hall hq
      cases q with
      | true =>
        go_wp2
        go_region
        all_goals go_wp2
        · go_ret2
          refine ⟨0, a, n - ng, 0, rfl, ⟨_, rfl⟩, .inl ⟨HA.out.1 (by simp), rfl, ?_, rfl⟩⟩
          have e : n - ng = 0 := by omega
          refine ⟨by rw [List.length_drop, hs.len], fun h => by omega⟩
        · have hne : ¬ c = ng := by assumption
          rw [if_neg hne] at hcut
          go_ret2
          exact ⟨0, _, n - ng, c - ng, rfl, ⟨_, rfl⟩, .inl ⟨HA.out.1 (by simp), rfl, hcut, rfl⟩⟩
      | false =>
        go_wp2
        go_ret2
        exact ⟨nr, a, n, c, rfl, ⟨0, rfl⟩, .inr ⟨fun e => by simpa using HA.out.2 e, rfl, hs, rfl⟩⟩

/-- What ZZStart says. -/
def ZsOk (w : World) (ng nr n : Nat) (g s : List ByteArray) (e : Ending) (w' : World) : Prop :=
  ∃ (k : Nat) (a' : Option Addr) (n' c' : Nat), e = .returned (.tuple #[.int .i64 k, .slice a' n' c']) ∧ Below w.heap.size w w' ∧
    (((L s).take ng = L g ∧ k = 0 ∧ Raw w' a' n' (s.drop ng) ∧ n' = n - ng) ∨ (¬ (L s).take ng = L g ∧ k = nr ∧ Raw w' a' n' s ∧ n' = n))

set_option maxHeartbeats 1000000 in
theorem zstart_any (ag ar a : Option Addr) (ng cg nr cr n c : Nat) (g s : List ByteArray) (w : World) (hg : Raw w ag ng g) (hs : Raw w a n s) (hge : ng ≤ n) (hn : n ≤ 1048576) (hcap : n ≤ c) :
    Calls Trym.prog 17 #[.slice ag ng cg, .slice ar nr cr, .slice a n c] w (ZsOk w ng nr n g s) := by
  go_enter Trym.func17, Trym.ntmps17
  go_wp2_with fail
  have hb : Below w.heap.size w (w.alloc (.cells #[.slice ag ng cg, .slice ar nr cr] 43)) := (Below.refl _ _).alloc (Nat.le_refl _) _
  refine (start_any w.heap.size ag ar a ng cg nr cr n c g s _ (hg.below hb) (hs.below hb) (by simp [go_sem]) (by simp [go_sem]) hge hn hcap).mono ?_
  rintro e w' ⟨k, a', n', c', rfl, ⟨m, rfl⟩, hcase⟩
  go_wp2
  go_ret2
  exact ⟨k, a', n', c', rfl, ⟨hb.os, hb.tape, hb.output, hb.size, hb.block⟩, hcase⟩
end St
end Go.Proofs.Qxb6601133aMods
