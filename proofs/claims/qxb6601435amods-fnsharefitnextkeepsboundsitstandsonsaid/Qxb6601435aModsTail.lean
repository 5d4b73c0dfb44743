/- Contracts on the road of FnTailRowAtMatchesSearch: copyFloats (10), (*tailRow).at (24), ZZTailRowAt (11), sameFloat (12), atModel (13). -/
import Derived.Test.Qxb6601435aModsProg
import Derived.WalkKit
import Derived.WalkLawsBesides
import Derived.Deep.Draws
import Derived.RegionTactic
import Derived.OwnWalk
import Derived.Below
import Derived.Lib.SliceRun
import Derived.BigQuiet
import Derived.Deep.QuietTactic
import Derived.Laws.FloatArith
namespace Go.Proofs.Qxb6601435aMods
open Go.RowKit
set_option linter.unusedVariables false

theorem Trym.info26 : (Trym.prog.info? 26).map (fun i => (i.zero, i.size, i.bytes)) = some (some (.float .f64 0), 1, 8) := by kernel_rfl

namespace Tl
/-- A store of a float, for the walk (the kit has it for integers, bools, pointers, slices, strings). -/
theorem run_store_float {P : Program} (w : World) (a : Addr) (m : Mode) (k : FloatKind) (x : Nat) : (store a (.float k x) m).run P w = stored P w a (.float k x) m := run_store P w a _ m rfl
attribute [local go_sem] run_store_float

/-- The slice value '.slice a n c' holds the elements 'C x', x in xs, in the world w. -/
def Raw (C : Nat → Value) (w : World) (a : Option Addr) (n : Nat) (xs : List Nat) : Prop :=
  xs.length = n ∧ (0 < n → ∃ b off, a = some ⟨b, off, none⟩ ∧ b < w.heap.size ∧ ∀ j (h : j < xs.length), w.cell? ⟨b, off + j, none⟩ = some (C xs[j]))

theorem Raw.len {C : Nat → Value} {w : World} {a : Option Addr} {n : Nat} {xs : List Nat} (h : Raw C w a n xs) : xs.length = n := h.1

theorem Raw.at {C : Nat → Value} {w : World} {a : Option Addr} {n : Nat} {xs : List Nat} (h : Raw C w a n xs) {k : Nat} (hk : k < n) :
    ∃ b off x, a = some ⟨b, off, none⟩ ∧ b < w.heap.size ∧ w.cell? ⟨b, off + k, none⟩ = some (C x) ∧ Hid (∃ h : k < xs.length, x = xs[k]) := by
  obtain ⟨b, off, e, hb, hc⟩ := h.2 (by omega)
  have hk' : k < xs.length := by rw [h.1]; exact hk
  exact ⟨b, off, xs[k], e, hb, hc k hk', hk', rfl⟩

theorem Raw.below {C : Nat → Value} {w w' : World} {a : Option Addr} {n : Nat} {xs : List Nat} (h : Raw C w a n xs) (hb : Below w.heap.size w w') : Raw C w' a n xs := by
  refine ⟨h.1, fun hn => ?_⟩
  obtain ⟨b, off, e, hlt, hc⟩ := h.2 hn
  exact ⟨b, off, e, Nat.lt_of_lt_of_le hlt hb.size, fun j hj => (hb.cell (p := ⟨b, off + j, none⟩) hlt).trans (hc j hj)⟩

theorem Raw.drew {C : Nat → Value} {w : World} {a : Option Addr} {n : Nat} {xs : List Nat} (h : Raw C w a n xs) (m : Nat) : Raw C (w.drewN m) a n xs := h

theorem raw_own {C : Nat → Value} {w : World} {B g n cap E : Nat} {xs : List Nat} (h : w.ownsRow B E 1 (.slice (some ⟨g, 0, none⟩) n cap) n (xs.map C)) (hl : xs.length = n) : Raw C w (some ⟨g, 0, none⟩) n xs := by
  refine ⟨hl, fun _ => ⟨g, 0, rfl, (h.lt g rfl).2, fun j hj => ?_⟩⟩
  rw [Nat.zero_add, h.cellAt j (by omega)]
  simp [hj]

/-- The cells of a row that is being filled: the first k are xs's. -/
def Filled (C : Nat → Value) (xs : List Nat) (k : Nat) (vs : List Value) : Prop := ∀ j (h : j < xs.length), j < k → vs[j]? = some (C xs[j])

theorem Filled.zero (C : Nat → Value) (xs : List Nat) (vs : List Value) : Filled C xs 0 vs := fun j h hj => by omega
theorem Filled.succ {C : Nat → Value} {xs : List Nat} {k : Nat} {vs : List Value} (h : Filled C xs k vs) (hx : k < vs.length) {x : Nat} (e : ∃ hk : k < xs.length, x = xs[k]) : Filled C xs (k + 1) (vs.set k (C x)) := by
  intro j hj hjk
  by_cases c : j = k
  · subst c; obtain ⟨_, e⟩ := e; rw [← e]; simp [hx]
  · rw [List.getElem?_set_ne (by omega)]; exact h j hj (by omega)
theorem Filled.all {C : Nat → Value} {xs : List Nat} {k n : Nat} {vs : List Value} (h : Filled C xs k vs) (hl : xs.length = n) (hx : vs.length = n) (hk : ¬ k < n) : vs = xs.map C := by
  apply List.ext_getElem?
  intro j
  by_cases hj : j < xs.length
  · rw [h j hj (by omega)]; simp [hj]
  · rw [List.getElem?_eq_none (by omega), List.getElem?_eq_none (by simpa using hj)]

/-- A float's cell. -/
def F (x : Nat) : Value := .float .f64 x

set_option maxHeartbeats 400000 in
theorem copy_some (x : Addr) (n c : Nat) (xs : List Nat) (w : World) (h : Raw F w (some x) n xs) (hn : n ≤ 131072) :
    Calls Trym.prog 10 #[.slice (some x) n c] w fun e w' => ∃ a' : Option Addr, e = .returned (.slice a' n n) ∧ Raw F w' a' n xs ∧ Below w.heap.size w w' := by
  obtain ⟨i0, hi, hz0, hz1, hz2⟩ := info_parts Trym.info26
  have heq := fun w => Lib.run_eql_slice_nil (P := Trym.prog) w 23 26 (some x) n c 0 0 Trym.underlying23
  go_enter Trym.func10, Trym.ntmps10
  go_wp2_with (at_make; refine wpList_make_full _ rfl _ _ 23 rfl w.heap.size 26 i0 (.float .f64 0) 1 Trym.underlying23 hi hz0 hz1 _ _ _ _ n rfl rfl rfl rfl ?b2 ?b3 (Nat.le_refl _) ?_)
  case b2 => rw [hz2]; omega
  case b3 => unfold maxLen; omega
  intro w0 hown0 hgrow0
  have hb0 : Below w.heap.size w w0 := (Below.refl _ _).grown hgrow0 (Nat.le_refl _) (fun k h => by cases h)
  obtain ⟨xs0, hown0, hl0⟩ : ∃ vs, w0.ownsRow w.heap.size 26 1 (.slice (some ⟨w.heap.size, 0, none⟩) n n) n vs ∧ vs.length = n := ⟨_, hown0, by simpa using hown0.1⟩
  clear hgrow0
  have HL0 : Hid _ := hl0
  clear hl0
  go_wp2
  go_loopw [4] (fun i wr => ∃ (k : Nat) (vs : List Value), k ≤ n ∧ i = .int .i64 k ∧ wr.ownsRow w.heap.size 26 1 (.slice (some ⟨w.heap.size, 0, none⟩) n n) n vs ∧ Hid (vs.length = n) ∧ Filled F xs k vs ∧ Below w.heap.size w wr)
    (fun i _ => n - (intOf i).toNat)
  case atStart => exact ⟨0, xs0, Nat.zero_le _, rfl, hown0, HL0, Filled.zero _ _ _, hb0⟩
  case round =>
    clear hown0 hb0 HL0
    obtain ⟨k, vs, hk, rfl, hown, hxl, hF, hb⟩ := hrel
    by_cases hlt : k < n
    · obtain ⟨b, off, s, hx, hbs, hc, hsk⟩ := h.at hlt
      simp only [Option.some.injEq] at hx
      subst hx
      have hc' : wr.cell? ⟨b, off + k, none⟩ = some (.float .f64 s) := (hb.cell (p := ⟨b, off + k, none⟩) hbs).trans hc
      have hkx : k < vs.length := by rw [hxl.out]; exact hlt
      have hd := hown.cellAt k (by omega)
      have hf := hown.frozenAt k
      rw [List.getElem?_eq_getElem hkx] at hd
      generalize vs[k] = old at hd
      obtain ⟨st1, st2⟩ := hown.stored k (.float .f64 s)
      have hb1 : Below w.heap.size w (wr.setCell ⟨w.heap.size, k, none⟩ (.float .f64 s)) := hb.grown st2 hb.size (fun k hk => by cases hk; exact Nat.le_refl _)
      have hF1 : Filled F xs (k + 1) (vs.set k (.float .f64 s)) := hF.succ hkx hsk.out
      have hxl1 : Hid ((vs.set k (.float .f64 s)).length = n) := by show _ = _; simp; exact hxl.out
      clear st2 hown hF hkx hc
      go_wp2
      go_roundw
      case rel => exact ⟨k + 1, vs.set k (.float .f64 s), by omega, by go_num, st1, hxl1, hF1, hb1⟩
      case measure => simp [intOf]; omega
    · have hfin := hF.all h.len hxl.out hlt
      rw [hfin] at hown
      clear hfin hF hxl
      go_wp2
      go_ret
      exact ⟨_, rfl, raw_own hown h.len, hb⟩

set_option maxHeartbeats 400000 in
theorem copy_nil (xs : List Nat) (w : World) (h : Raw F w none 0 xs) :
    Calls Trym.prog 10 #[.slice none 0 0] w fun e w' => ∃ a' : Option Addr, e = .returned (.slice a' 0 0) ∧ Raw F w' a' 0 xs ∧ Below w.heap.size w w' := by
  have heq := fun w => Lib.run_eql_slice_nil (P := Trym.prog) w 23 26 none 0 0 0 0 Trym.underlying23
  go_enter Trym.func10, Trym.ntmps10
  go_wp2
  go_ret
  exact ⟨_, rfl, h, Below.refl _ _⟩

theorem copy_any (a : Option Addr) (n c : Nat) (xs : List Nat) (w : World) (h : Raw F w a n xs) (hn : n ≤ 131072) (hnil : a = none → n = 0 ∧ c = 0) :
    Calls Trym.prog 10 #[.slice a n c] w fun e w' => ∃ a' : Option Addr, e = .returned (.slice a' n n) ∧ Raw F w' a' n xs ∧ Below w.heap.size w w' := by
  cases a with
  | some x => exact copy_some x n c xs w h hn
  | none =>
    obtain ⟨rfl, rfl⟩ := hnil rfl
    exact copy_nil xs w h

/-- What '(*tailRow).at' answers, as bits. -/
def atB (first : Int) (xs : List Nat) (c : Int) : Nat :=
  if c < first then 4607182418800017408 else xs[(c - first).toNat]?.getD 0

theorem at_lo {first c : Int} {xs : List Nat} (h : c < first) : Ending.returned (.float .f64 4607182418800017408) = .returned (F (atB first xs c)) := by
  unfold atB F; rw [if_pos h]
theorem at_hi {first c : Int} {xs : List Nat} {n : Nat} (h : ¬ c < first) (hl : xs.length = n) (hn : (n : Int) ≤ c - first) : Ending.returned (.float .f64 0) = .returned (F (atB first xs c)) := by
  unfold atB F; rw [if_neg h, List.getElem?_eq_none (by omega)]; rfl
theorem at_in {first c : Int} {xs : List Nat} {x : Nat} (h : ¬ c < first) (e : ∃ h : (c - first).toNat < xs.length, x = xs[(c - first).toNat]) : Ending.returned (.float .f64 x) = .returned (F (atB first xs c)) := by
  obtain ⟨hk, rfl⟩ := e
  unfold atB F; rw [if_neg h, List.getElem?_eq_getElem hk]; rfl

set_option maxHeartbeats 1000000 in
theorem at_any (bp : Nat) (a : Option Addr) (n cp : Nat) (xs : List Nat) (first c : Int) (w : World) (h : Raw F w a n xs) (hn : n ≤ 131072)
    (f0 : 0 ≤ first) (f1 : first ≤ 18446744073709551615) (g0 : 0 ≤ c) (g1 : c ≤ 18446744073709551615)
    (hc0 : w.cell? ⟨bp, 0, none⟩ = some (.int .u64 first)) (hc1 : w.cell? ⟨bp, 0 + 1, none⟩ = some (.slice a n cp)) :
    Calls Trym.prog 24 #[.pointer (some ⟨bp, 0, none⟩), .int .u64 c] w fun e w' => e = .returned (F (atB first xs c)) ∧ ∃ m, w' = w.drewN m := by
  by_cases h1 : c < first
  · go_enter Trym.func24, Trym.ntmps24
    go_wp2
    go_ret
    exact ⟨at_lo h1, 0, rfl⟩
  · obtain ⟨k, hk⟩ := Int.eq_ofNat_of_zero_le (show 0 ≤ c - first by omega)
    by_cases h2 : (n : Int) ≤ c - first
    · go_enter Trym.func24, Trym.ntmps24
      go_wp2
      go_quiet (fail)
      go_wp2
      go_ret
      exact ⟨at_hi (by omega) h.len h2, _, rfl⟩
    · have hkn : k < n := by omega
      obtain ⟨b, off, x, rfl, hb, hx, hxk⟩ := h.at hkn
      have hxk' : Hid (∃ h : (c - first).toNat < xs.length, x = xs[(c - first).toNat]) := by
        have e : (c - first).toNat = k := by omega
        rw [e]; exact hxk
      replace hx : w.cell? ⟨b, off + k, none⟩ = some (.float .f64 x) := hx
      clear hxk
      go_enter Trym.func24, Trym.ntmps24
      go_wp2
      go_quiet (fail)
      go_wp2
      go_quiet (fail)
      go_wp2
      go_ret
      exact ⟨at_in (by omega) hxk'.out, _, World.drewN_drewN ..⟩

set_option maxHeartbeats 400000 in
theorem zz_at (a : Option Addr) (n cp : Nat) (xs : List Nat) (first c : Int) (w : World) (h : Raw F w a n xs) (hn : n ≤ 131072)
    (f0 : 0 ≤ first) (f1 : first ≤ 18446744073709551615) (g0 : 0 ≤ c) (g1 : c ≤ 18446744073709551615) :
    Calls Trym.prog 11 #[.int .u64 first, .slice a n cp, .int .u64 c] w fun e w' => e = .returned (F (atB first xs c)) ∧ Below w.heap.size w w' := by
  go_enter Trym.func11, Trym.ntmps11
  go_wp2_with fail
  have hb : Below w.heap.size w (w.alloc (.cells #[.int .u64 first, .slice a n cp] 44)) := (Below.refl _ _).alloc (Nat.le_refl _) _
  refine (at_any w.heap.size a n cp xs first c _ (h.below hb) hn f0 f1 g0 g1 (by simp [go_sem]) (by simp [go_sem])).mono ?_
  rintro e w' ⟨rfl, m, rfl⟩
  go_wp2
  go_ret
  exact ⟨rfl, ⟨hb.os, hb.tape, hb.output, hb.size, hb.block⟩⟩

theorem wrap_u64 (z : Int) : IntKind.u64.wrap z = z % 18446744073709551616 := by
  simp [IntKind.wrap, IntKind.bits, IntKind.signed]

set_option maxHeartbeats 1000000 in
theorem model_any (a : Option Addr) (n cp : Nat) (xs : List Nat) (first c : Int) (w : World) (h : Raw F w a n xs) (hn : n ≤ 131072)
    (f0 : 0 ≤ first) (f1 : first ≤ 18446744073709551615) (g0 : 0 ≤ c) (g1 : c ≤ 18446744073709551615) :
    Calls Trym.prog 13 #[.int .u64 first, .slice a n cp, .int .u64 c] w fun e w' => e = .returned (F (atB first xs c)) ∧ w' = w := by
  by_cases h1 : c < first
  · go_enter Trym.func13, Trym.ntmps13
    go_wp2
    go_ret
    exact ⟨at_lo h1, rfl⟩
  · go_enter Trym.func13, Trym.ntmps13
    go_wp2
    go_loop [7] (fun i => ∃ k : Nat, k ≤ n ∧ i = .int .i64 k ∧ (k : Int) ≤ c - first) (fun i => n - (intOf i).toNat)
    case atStart => exact ⟨0, Nat.zero_le _, rfl, by omega⟩
    case round =>
      obtain ⟨k, hk, rfl, hle⟩ := hrel
      by_cases hlt : k < n
      · obtain ⟨b, off, x, rfl, hb, hx, hxk⟩ := h.at hlt
        replace hx : w.cell? ⟨b, off + k, none⟩ = some (.float .f64 x) := hx
        by_cases he : first + k = c
        · have hxk' : Hid (∃ h : (c - first).toNat < xs.length, x = xs[(c - first).toNat]) := by
            have e : (c - first).toNat = k := by omega
            rw [e]; exact hxk
          have he' : (first + (k : Int) == c) = true := by simp [he]
          clear hxk he
          go_wp2
          go_ret
          exact ⟨at_in (by omega) hxk'.out, rfl⟩
        · have he' : (first + (k : Int) == c) = false := by simp [he]
          clear he
          have hlt3 : (k : Int) + 1 ≤ c - first := by simp at he'; omega
          go_wp2
          go_round
          case rel => exact ⟨k + 1, by omega, by go_num, by omega⟩
          case measure => simp [intOf]; omega
      · go_wp2
        go_ret
        exact ⟨at_hi (by omega) h.len (by omega), rfl⟩

/-! ### sameFloat at two equal words -/
theorem order_self (b : Nat) : FloatKind.f64.format.order b b = none ∨ FloatKind.f64.format.order b b = some .eq := by
  unfold Ieee.Format.order
  cases FloatKind.f64.format.read b with
  | nan s f => exact .inl rfl
  | infinity s => right; cases s <;> rfl
  | number s m i =>
    right
    simp only [Ieee.Datum.order]
    congr 1
    simp

theorem read_zero_word : FloatKind.f64.format.read 0 = .number false 0 Ieee.double.leastPlace := by rfl
theorem read_one_word : FloatKind.f64.format.read 4607182418800017408 = .number false 4503599627370496 (-52) := by decide

theorem div_zero (b : Nat) (h : FloatKind.f64.format.order b 0 = some .eq) : ∃ r, FloatKind.f64.format.div 4607182418800017408 b = some r := by
  unfold Ieee.Format.order at h
  unfold Ieee.Format.div
  rw [read_zero_word] at h
  rw [read_one_word]
  cases hb : FloatKind.f64.format.read b with
  | nan s f => rw [hb] at h; simp [Ieee.Datum.order] at h
  | infinity s => rw [hb] at h; cases s <;> simp [Ieee.Datum.order] at h
  | number s m i =>
    rw [hb] at h
    have hm : m = 0 := by
      simp only [Ieee.Datum.order, Option.some.injEq] at h
      have h' := Int.compare_eq_eq.1 h
      have z : Ieee.signed false 0 (Ieee.double.leastPlace - min i Ieee.double.leastPlace).toNat = 0 := by simp [Ieee.signed]
      rw [z] at h'
      unfold Ieee.signed at h'
      split at h' <;> simp [Nat.shiftLeft_eq] at h'
      all_goals
        have p : (0 : Int) < 2 ^ (i - min i Ieee.double.leastPlace).toNat := Int.pow_pos (by decide)
        rcases Int.mul_eq_zero.1 h' with h | h <;> omega
    subst hm
    exact ⟨_, by simp [Ieee.Datum.quotient]; rfl⟩

set_option maxHeartbeats 400000 in
theorem same_self (b : Nat) (w : World) : Calls Trym.prog 12 #[F b, F b] w fun e w' => e = .returned (.bool true) ∧ w' = w := by
  unfold F
  by_cases h1 : FloatKind.f64.format.order b b = some .eq
  · have n1 : (FloatKind.f64.format.order b b != some .eq) = false := by simp [h1]
    by_cases h2 : FloatKind.f64.format.order b 0 = some .eq
    · have n2 : (FloatKind.f64.format.order b 0 != some .eq) = false := by simp [h2]
      obtain ⟨r, hr⟩ := div_zero b h2
      have hq := fun w => run_float_arith (P := Trym.prog) w .quo 26 .f64 4607182418800017408 b r hr
      clear h1 h2 hr
      go_enter Trym.func12, Trym.ntmps12
      go_wp2
      go_ret
      exact ⟨by simp, rfl⟩
    · have n2 : (FloatKind.f64.format.order b 0 != some .eq) = true := by simp [h2]
      clear h1 h2
      go_enter Trym.func12, Trym.ntmps12
      go_wp2
      go_ret
      exact ⟨rfl, rfl⟩
  · have n1 : (FloatKind.f64.format.order b b != some .eq) = true := by simp [h1]
    clear h1
    go_enter Trym.func12, Trym.ntmps12
    go_wp2
    go_ret
    exact ⟨by simp, rfl⟩
end Tl
end Go.Proofs.Qxb6601435aMods
