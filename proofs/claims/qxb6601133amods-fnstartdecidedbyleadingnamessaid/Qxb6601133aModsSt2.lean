/- Contracts on slices of strings: spClone (16), spJoin (18), spSame (19). -/
import Derived.Test.Qxb6601133aModsSt
import Derived.Lib.SliceRun
namespace Go.Proofs.Qxb6601133aMods
open Go.RowKit
set_option linter.unusedVariables false

namespace St
open Wb Nm

theorem raw_own {w : World} {B g n cap : Nat} {ss : List ByteArray} (h : w.ownsRow B 9 1 (.slice (some ⟨g, 0, none⟩) n cap) n (ss.map Value.string)) (hl : ss.length = n) : Raw w (some ⟨g, 0, none⟩) n ss := by
  refine ⟨hl, fun _ => ⟨g, 0, rfl, (h.lt g rfl).2, fun j hj => ?_⟩⟩
  rw [Nat.zero_add, h.cellAt j (by omega)]
  simp [hj]

/-- The cells of a row that is being filled: the first k are ss's. -/
def Filled (ss : List ByteArray) (k : Nat) (xs : List Value) : Prop := ∀ j (h : j < ss.length), j < k → xs[j]? = some (.string ss[j])

theorem Filled.zero (ss : List ByteArray) (xs : List Value) : Filled ss 0 xs := fun j h hj => by omega
theorem Filled.succ {ss : List ByteArray} {k : Nat} {xs : List Value} (h : Filled ss k xs) (hx : k < xs.length) {s : ByteArray} (e : ∃ hk : k < ss.length, s = ss[k]) : Filled ss (k + 1) (xs.set k (.string s)) := by
  intro j hj hjk
  by_cases c : j = k
  · subst c; obtain ⟨_, e⟩ := e; rw [← e]; simp [hx]
  · rw [List.getElem?_set_ne (by omega)]; exact h j hj (by omega)
theorem Filled.all {ss : List ByteArray} {k n : Nat} {xs : List Value} (h : Filled ss k xs) (hl : ss.length = n) (hx : xs.length = n) (hk : ¬ k < n) : xs = ss.map Value.string := by
  apply List.ext_getElem?
  intro j
  by_cases hj : j < ss.length
  · rw [h j hj (by omega)]; simp [hj]
  · rw [List.getElem?_eq_none (by omega), List.getElem?_eq_none (by simpa using hj)]

set_option maxHeartbeats 400000 in
theorem clone_some (x : Addr) (n c : Nat) (ss : List ByteArray) (w : World) (h : Raw w (some x) n ss) (hn : n ≤ 65536) :
    Calls Trym.prog 16 #[.slice (some x) n c] w fun e w' => ∃ a' : Option Addr, e = .returned (.slice a' n n) ∧ Raw w' a' n ss ∧ Below w.heap.size w w' := by
  obtain ⟨i0, hi, hz0, hz1, hz2⟩ := info_parts Trym.info9
  have heq := fun w => Lib.run_eql_slice_nil (P := Trym.prog) w 24 9 (some x) n c 0 0 Trym.underlying24
  go_enter Trym.func16, Trym.ntmps16
  go_wp2_with (at_make; refine wpList_make_full _ rfl _ _ 24 rfl w.heap.size 9 i0 (.string ByteArray.empty) 1 Trym.underlying24 hi hz0 hz1 _ _ _ _ n rfl rfl rfl rfl ?b2 ?b3 (Nat.le_refl _) ?_)
  case b2 => rw [hz2]; omega
  case b3 => unfold maxLen; omega
  intro w0 hown0 hgrow0
  have hb0 : Below w.heap.size w w0 := (Below.refl _ _).grown hgrow0 (Nat.le_refl _) (fun k h => by cases h)
  obtain ⟨xs0, hown0, hl0⟩ : ∃ xs, w0.ownsRow w.heap.size 9 1 (.slice (some ⟨w.heap.size, 0, none⟩) n n) n xs ∧ xs.length = n := ⟨_, hown0, by simpa using hown0.1⟩
  clear hgrow0
  have HL0 : Hid _ := hl0
  clear hl0
  go_wp2
  go_loopw [4] (fun i wr => ∃ (k : Nat) (xs : List Value), k ≤ n ∧ i = .int .i64 k ∧ wr.ownsRow w.heap.size 9 1 (.slice (some ⟨w.heap.size, 0, none⟩) n n) n xs ∧ Hid (xs.length = n) ∧ Filled ss k xs ∧ Below w.heap.size w wr)
    (fun i _ => n - (intOf i).toNat)
  case atStart => exact ⟨0, xs0, Nat.zero_le _, rfl, hown0, HL0, Filled.zero _ _, hb0⟩
  case round =>
    clear hown0 hb0 HL0
    obtain ⟨k, xs, hk, rfl, hown, hxl, hF, hb⟩ := hrel
    by_cases hlt : k < n
    · obtain ⟨b, off, s, hx, hbs, hc, hsk⟩ := h.at hlt
      simp only [Option.some.injEq] at hx
      subst hx
      have hc' : wr.cell? ⟨b, off + k, none⟩ = some (.string s) := (hb.cell (p := ⟨b, off + k, none⟩) hbs).trans hc
      have hkx : k < xs.length := by rw [hxl.out]; exact hlt
      have hd := hown.cellAt k (by omega)
      have hf := hown.frozenAt k
      rw [List.getElem?_eq_getElem hkx] at hd
      generalize xs[k] = old at hd
      obtain ⟨st1, st2⟩ := hown.stored k (.string s)
      have hb1 : Below w.heap.size w (wr.setCell ⟨w.heap.size, k, none⟩ (.string s)) := hb.grown st2 hb.size (fun k hk => by cases hk; exact Nat.le_refl _)
      have hF1 := hF.succ hkx hsk.out
      have hxl1 : Hid ((xs.set k (.string s)).length = n) := by show _ = _; simp; exact hxl.out
      clear st2 hown hF hkx
      go_wp2
      go_roundw
      case rel => exact ⟨k + 1, xs.set k (.string s), by omega, by go_num, st1, hxl1, hF1, hb1⟩
      case measure => simp [intOf]; omega
    · have hfin := hF.all h.len hxl.out hlt
      rw [hfin] at hown
      clear hfin hF hxl
      go_wp2
      go_ret
      exact ⟨_, rfl, raw_own hown h.len, hb⟩

set_option maxHeartbeats 400000 in
theorem clone_nil (ss : List ByteArray) (w : World) (h : Raw w none 0 ss) :
    Calls Trym.prog 16 #[.slice none 0 0] w fun e w' => ∃ a' : Option Addr, e = .returned (.slice a' 0 0) ∧ Raw w' a' 0 ss ∧ Below w.heap.size w w' := by
  have heq := fun w => Lib.run_eql_slice_nil (P := Trym.prog) w 24 9 none 0 0 0 0 Trym.underlying24
  go_enter Trym.func16, Trym.ntmps16
  go_wp2
  go_ret
  exact ⟨_, rfl, h, Below.refl _ _⟩

theorem clone_any (a : Option Addr) (n c : Nat) (ss : List ByteArray) (w : World) (h : Raw w a n ss) (hn : n ≤ 65536) (hnil : a = none → n = 0 ∧ c = 0) :
    Calls Trym.prog 16 #[.slice a n c] w fun e w' => ∃ a' : Option Addr, e = .returned (.slice a' n n) ∧ Raw w' a' n ss ∧ Below w.heap.size w w' := by
  cases a with
  | some x => exact clone_some x n c ss w h hn
  | none =>
    obtain ⟨rfl, rfl⟩ := hnil rfl
    exact clone_nil ss w h

/-- What has been gathered: x's first k, then y's first j. -/
theorem take_snoc {x : List ByteArray} {k : Nat} {s : ByteArray} (e : ∃ hk : k < x.length, s = x[k]) : x.take (k + 1) = x.take k ++ [s] := by
  obtain ⟨hk, rfl⟩ := e
  rw [List.take_succ_eq_append_getElem hk]

theorem raw_of_own {w : World} {B n : Nat} {v : Value} {ss : List ByteArray} (h : w.ownsRow B 9 1 v n (ss.map Value.string)) (hl : ss.length = n) : ∃ a c, v = .slice a n c ∧ Raw w a n ss ∧ n ≤ c := by
  rcases h.2 with ⟨rfl, hn⟩ | ⟨g, cap, cur, rfl, hB, hg, hc, _⟩
  · subst hn; exact ⟨none, 0, rfl, ⟨hl, fun h => by omega⟩, Nat.le_refl _⟩
  · exact ⟨_, _, rfl, raw_own h hl, hc⟩

set_option maxHeartbeats 1000000 in
theorem join_any (a1 a2 : Option Addr) (n1 c1 n2 c2 : Nat) (x y : List ByteArray) (w : World) (h1 : Raw w a1 n1 x) (h2 : Raw w a2 n2 y) (m1 : n1 ≤ 131072) (m2 : n2 ≤ 65536) :
    Calls Trym.prog 18 #[.slice a1 n1 c1, .slice a2 n2 c2] w fun e w' => ∃ (a' : Option Addr) (c' n' : Nat), e = .returned (.slice a' n' c') ∧ n' = n1 + n2 ∧ Raw w' a' n' (x ++ y) ∧ n' ≤ c' ∧ Below w.heap.size w w' := by
  obtain ⟨i0, hi, hz0, hz1, hz2⟩ := info_parts Trym.info9
  go_enter Trym.func18, Trym.ntmps18
  go_wp2_with (at_make; refine wpList_make_own _ rfl _ _ 24 rfl w.heap.size 9 i0 (.string ByteArray.empty) 1 Trym.underlying24 hi hz0 hz1 _ _ _ (n1 + n2) rfl rfl (by omega) ?b2 ?b3 (Nat.le_refl _) ?_)
  case b2 => rw [hz2]; omega
  case b3 => unfold maxLen; omega
  intro w0 hown0 hgrow0
  have hb0 : Below w.heap.size w w0 := (Below.refl _ _).grown hgrow0 (Nat.le_refl _) (fun k h => by cases h)
  clear hgrow0
  go_wp2
  go_loopw [5, 6] (fun out i wr => ∃ k : Nat, k ≤ n1 ∧ i = .int .i64 k ∧ wr.ownsRow w.heap.size 9 1 out k ((x.take k).map Value.string) ∧ Below w.heap.size w wr)
    (fun _ i _ => n1 - (intOf i).toNat)
  case atStart => exact ⟨0, Nat.zero_le _, rfl, hown0, hb0⟩
  case round =>
    clear hown0 hb0
    obtain ⟨k, hk, rfl, hown, hb⟩ := hrel
    by_cases hlt : k < n1
    · obtain ⟨b, off, s, rfl, hbs, hc, hsk⟩ := h1.at hlt
      have hc' : wr.cell? ⟨b, off + k, none⟩ = some (.string s) := (hb.cell (p := ⟨b, off + k, none⟩) hbs).trans hc
      go_wp2_with (first
        | (at_builtin; refine wpList_append_own _ rfl _ _ 24 rfl w.heap.size 9 i0 (.string ByteArray.empty) 1 16 Trym.underlying24 hi hz0 hz1 hz2 rfl (by decide) _ _ _ rfl (hown.alloc _) ⟨wr.heap.size, 0, none⟩ 1 1 [.string s] rfl rfl ?c1 ?c2 ?c3 ?c4 ?c5 ?_))
      case c1 =>
        intro j u hj
        match j, hj with
        | 0, hj => simp at hj; subst hj; simp [Addr.add]
      case c2 => intro u hu; simp at hu; subst hu; rfl
      case c3 => unfold maxLen; omega
      case c4 => omega
      case c5 => have := hb.size; simp; omega
      intro v' w1 hown' hgrow _
      have hown2 : w1.ownsRow w.heap.size 9 1 v' (k + 1) ((x.take (k + 1)).map Value.string) := by rw [take_snoc hsk.out]; simpa using hown'
      have hb1 : Below w.heap.size w w1 := (hb.alloc hb.size _).grown hgrow (by simp; have := hb.size; omega) (fun k hk => (hown.lt k hk).1)
      clear hown' hgrow hown hb hc hc'
      go_wp2
      go_roundw
      case rel => exact ⟨k + 1, by omega, by go_num, hown2, hb1⟩
      case measure => simp [intOf]; omega
    · have hown0 : wr.ownsRow w.heap.size 9 1 u5 n1 (x.map Value.string) := by
        have e : k = n1 := by omega
        rw [e, List.take_of_length_le (by rw [h1.len]; exact Nat.le_refl _)] at hown; exact hown
      clear hown
      go_wp2
      go_loopw [5, 7] (fun out i wr => ∃ j : Nat, j ≤ n2 ∧ i = .int .i64 j ∧ wr.ownsRow w.heap.size 9 1 out (n1 + j) ((x ++ y.take j).map Value.string) ∧ Below w.heap.size w wr)
        (fun _ i _ => n2 - (intOf i).toNat)
      case atStart => exact ⟨0, Nat.zero_le _, rfl, by simpa using hown0, hb⟩
      case round =>
        clear hown0 hb
        obtain ⟨j, hj, rfl, hown, hb⟩ := hrel
        by_cases hlt2 : j < n2
        · obtain ⟨b, off, s, rfl, hbs, hc, hsk⟩ := h2.at hlt2
          have hc' : wr.cell? ⟨b, off + j, none⟩ = some (.string s) := (hb.cell (p := ⟨b, off + j, none⟩) hbs).trans hc
          go_wp2_with (first
            | (at_builtin; refine wpList_append_own _ rfl _ _ 24 rfl w.heap.size 9 i0 (.string ByteArray.empty) 1 16 Trym.underlying24 hi hz0 hz1 hz2 rfl (by decide) _ _ _ rfl (hown.alloc _) ⟨wr.heap.size, 0, none⟩ 1 1 [.string s] rfl rfl ?c1 ?c2 ?c3 ?c4 ?c5 ?_))
          case c1 =>
            intro j u hj
            match j, hj with
            | 0, hj => simp at hj; subst hj; simp [Addr.add]
          case c2 => intro u hu; simp at hu; subst hu; rfl
          case c3 => unfold maxLen; omega
          case c4 => omega
          case c5 => have := hb.size; simp; omega
          intro v' w1 hown' hgrow _
          have hown2 : w1.ownsRow w.heap.size 9 1 v' (n1 + (j + 1)) ((x ++ y.take (j + 1)).map Value.string) := by rw [take_snoc hsk.out]; simpa [Nat.add_assoc] using hown'
          have hb1 : Below w.heap.size w w1 := (hb.alloc hb.size _).grown hgrow (by simp; have := hb.size; omega) (fun k hk => (hown.lt k hk).1)
          clear hown' hgrow hown hb hc hc'
          go_wp2
          go_roundw
          case rel => exact ⟨j + 1, by omega, by go_num, hown2, hb1⟩
          case measure => simp [intOf]; omega
        · have hown0 : wr.ownsRow w.heap.size 9 1 u5 (n1 + n2) ((x ++ y).map Value.string) := by
            have e : j = n2 := by omega
            rw [e, List.take_of_length_le (by rw [h2.len]; exact Nat.le_refl _)] at hown; exact hown
          clear hown
          obtain ⟨ar, cr, hv, hr, hrc⟩ := raw_of_own hown0 (by rw [List.length_append, h1.len, h2.len])
          have HV : Hid _ := hv
          clear hv hown0
          go_wp2
          go_ret
          exact ⟨ar, cr, n1 + n2, congrArg Ending.returned HV.out, rfl, hr, hrc, hb⟩

theorem L_ne_of_len {x y : List ByteArray} {n1 n2 : Nat} (hx : x.length = n1) (hy : y.length = n2) (h : ¬ n1 = n2) : false = decide (L x = L y) := by
  have : ¬ L x = L y := fun e => h (by rw [← hx, ← hy]; simpa [L] using congrArg List.length e)
  simp [this]

theorem sm_step {x y : List ByteArray} {k : Nat} {s t : ByteArray} (hx : ∃ h : k < x.length, s = x[k]) (hy : ∃ h : k < y.length, t = y[k]) (h : sameB s t = true)
    (e : decide ((L x).drop k = (L y).drop k) = decide (L x = L y)) : decide ((L x).drop (k + 1) = (L y).drop (k + 1)) = decide (L x = L y) := by
  obtain ⟨hx, rfl⟩ := hx
  obtain ⟨hy, rfl⟩ := hy
  rw [← e, L_drop hx, L_drop hy]
  have := of_decide_eq_true h
  simp [this]
theorem sm_miss {x y : List ByteArray} {k : Nat} {s t : ByteArray} (hx : ∃ h : k < x.length, s = x[k]) (hy : ∃ h : k < y.length, t = y[k]) (h : sameB s t = false)
    (e : decide ((L x).drop k = (L y).drop k) = decide (L x = L y)) : false = decide (L x = L y) := by
  obtain ⟨hx, rfl⟩ := hx
  obtain ⟨hy, rfl⟩ := hy
  rw [← e, L_drop hx, L_drop hy]
  have := of_decide_eq_false h
  simp
  intro a b
  exact absurd (by rw [a]) this
theorem sm_end {x y : List ByteArray} {k n : Nat} (hx : x.length = n) (hy : y.length = n) (hk : ¬ k < n)
    (e : decide ((L x).drop k = (L y).drop k) = decide (L x = L y)) : true = decide (L x = L y) := by
  rw [← e, List.drop_eq_nil_of_le (by simp [L]; omega), List.drop_eq_nil_of_le (by simp [L]; omega)]
  simp

set_option maxHeartbeats 1000000 in
theorem same_strs (a1 a2 : Option Addr) (n1 c1 n2 c2 : Nat) (x y : List ByteArray) (w : World) (h1 : Raw w a1 n1 x) (h2 : Raw w a2 n2 y) (m1 : n1 ≤ 1048576) (m2 : n2 ≤ 1048576)
    (q1 : ∀ t ∈ x, t.size ≤ 1048576) (q2 : ∀ t ∈ y, t.size ≤ 1048576) :
    Calls Trym.prog 19 #[.slice a1 n1 c1, .slice a2 n2 c2] w fun e w' => e = .returned (.bool (decide (L x = L y))) ∧ ∃ n, w' = w.drewN n := by
  have Q1 : Hid _ := q1
  have Q2 : Hid _ := q2
  clear q1 q2
  by_cases hl : n1 = n2
  · subst hl
    have hl' : ((n1 : Int) != (n1 : Int)) = false := by simp
    go_enter Trym.func19, Trym.ntmps19
    go_wp2
    go_loopw [5] (fun i wr => ∃ k : Nat, k ≤ n1 ∧ i = .int .i64 k ∧ Hid (decide ((L x).drop k = (L y).drop k) = decide (L x = L y)) ∧ Hid (∃ n, wr = w.drewN n))
      (fun i _ => n1 - (intOf i).toNat)
    case atStart => exact ⟨0, Nat.zero_le _, rfl, rfl, 0, rfl⟩
    case round =>
      obtain ⟨k, hk, rfl, hp, hwr⟩ := hrel
      by_cases hlt : k < n1
      · obtain ⟨b, off, s, rfl, hbs, hc, hsk⟩ := h1.at hlt
        obtain ⟨b', off', t, rfl, hbt, hct, htk⟩ := h2.at hlt
        have e1 : wr.cell? ⟨b, off + k, none⟩ = some (.string s) := by
          obtain ⟨n, hn⟩ := hwr.out; rw [hn, World.cell?_drewN]; exact hc
        have e2 : wr.cell? ⟨b', off' + k, none⟩ = some (.string t) := by
          obtain ⟨n, hn⟩ := hwr.out; rw [hn, World.cell?_drewN]; exact hct
        have z1 : s.size ≤ maxLen := by obtain ⟨h, e⟩ := hsk.out; rw [e]; have := Q1.out _ (List.getElem_mem h); unfold maxLen; omega
        have z2 : t.size ≤ maxLen := by obtain ⟨h, e⟩ := htk.out; rw [e]; have := Q2.out _ (List.getElem_mem h); unfold maxLen; omega
        by_cases hd : sameB s t = true
        · go_wp2_with fail
          go_quiet ((go_at_call 13; exact Calls.quiet_of (same_b _ _ _ z1 z2)))
          go_wp2_with fail
          go_roundw
          case rel => exact ⟨k + 1, by omega, by go_num, sm_step hsk.out htk.out hd hp, drewT hwr.out _⟩
          case measure => simp [intOf]; omega
        · have hd' : sameB s t = false := by simpa using hd
          clear hd
          go_wp2_with fail
          go_quiet ((go_at_call 13; exact Calls.quiet_of (same_b _ _ _ z1 z2)))
          go_wp2_with fail
          go_ret
          exact ⟨ret_bool (sm_miss hsk.out htk.out hd' hp), drewT hwr.out _⟩
      · go_wp2
        go_ret
        exact ⟨ret_bool (sm_end h1.len h2.len hlt hp), hwr.out⟩
  · have hl' : ((n1 : Int) != (n2 : Int)) = true := by simp; omega
    go_enter Trym.func19, Trym.ntmps19
    go_wp2
    go_ret
    exact ⟨ret_bool (L_ne_of_len h1.len h2.len hl), 0, rfl⟩
end St
end Go.Proofs.Qxb6601133aMods
