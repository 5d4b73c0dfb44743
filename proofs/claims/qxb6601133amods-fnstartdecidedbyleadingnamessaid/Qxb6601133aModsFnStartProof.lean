/-
  The proof of 'Rows.FnStartDecidedByLeadingNamesSaid'. The frame is the guide's template (its tool's shell for slices of integers, turned to slices of strings); the walk is ours.
-/
import Derived.Test.Qxb6601133aModsRows
import Derived.WalkKit
import Derived.ProofKit
import Derived.OpenShut
import Derived.ShutString
import Derived.SliceStrings
import Derived.Test.Qxb6601133aModsSt3
namespace Go.Proofs.Qxb6601133aMods.fnStartDecidedByLeadingNames
open Go.ChangeShapes Go.WideShapes Go.ChangeAt Go.RowKit
open Go.ChangeMaps (open_string shut_string)
open St Nm Wb
set_option linter.unusedVariables false

theorem own : ownKnob Trym.prog.godebug = none := by kernel_rfl
theorem laidOut : laidOutB Trym.prog = true := by kernel_rfl

/-- What the walk is told of a slice of strings that came in. -/
structure Arg (w : World) (a : Option Addr) (n c : Nat) (ss : List ByteArray) : Prop where
  raw : Raw w a n ss
  nil : a = none → n = 0 ∧ c = 0
  big : n ≤ maxLen
  small : ∀ t ∈ ss, t.size ≤ maxLen

/-! ### THE PLAIN LAW -/
theorem L_append (x y : List ByteArray) : L (x ++ y) = L x ++ L y := by simp [L]
theorem L_drop (x : List ByteArray) (k : Nat) : L (x.drop k) = (L x).drop k := by simp [L]
theorem L_len (x : List ByteArray) : (L x).length = x.length := by simp [L]

theorem take_more {g s m : List ByteArray} {ng n : Nat} (hs : s.length = n) (hge : ng ≤ n) : ((L (s ++ m)).take ng = L g) = ((L s).take ng = L g) := by
  rw [L_append, List.take_append_of_le_length (by rw [L_len]; omega)]

theorem law_hit {s m : List ByteArray} {ng n : Nat} (hs : s.length = n) (hge : ng ≤ n) : decide (L (s.drop ng ++ m) = L ((s ++ m).drop ng)) = true := by
  rw [L_append, L_drop, L_drop, L_append, List.drop_append_of_le_length (by rw [L_len]; omega)]
  simp

theorem mem_small {x y : List ByteArray} (hx : ∀ t ∈ x, t.size ≤ 1048576) (hy : ∀ t ∈ y, t.size ≤ 1048576) : ∀ t ∈ x ++ y, t.size ≤ 1048576 := by
  intro t ht
  rcases List.mem_append.1 ht with h | h
  · exact hx t h
  · exact hy t h
theorem mem_drop {x : List ByteArray} {k : Nat} (hx : ∀ t ∈ x, t.size ≤ 1048576) : ∀ t ∈ x.drop k, t.size ≤ 1048576 :=
  fun t ht => hx t (List.mem_of_mem_drop ht)

theorem two_cases {w5 w7 : World} {x1 x3 : Option Addr} {y1 y3 k1 k2 n0 n1 n2 n3 nj : Nat} {s0 s2 s3 : List ByteArray} (hl : s2.length = n2) (hge : n0 ≤ n2) (hj : nj = n2 + n3) (b2 : n2 ≤ 65536) (b3 : n3 ≤ 65536)
    (q2 : ∀ t ∈ s2, t.size ≤ 1048576) (q3 : ∀ t ∈ s3, t.size ≤ 1048576)
    (h1 : (L s2).take n0 = L s0 ∧ k1 = 0 ∧ Raw w5 x1 y1 (s2.drop n0) ∧ y1 = n2 - n0 ∨ ¬ (L s2).take n0 = L s0 ∧ k1 = n1 ∧ Raw w5 x1 y1 s2 ∧ y1 = n2)
    (h2 : (L (s2 ++ s3)).take n0 = L s0 ∧ k2 = 0 ∧ Raw w7 x3 y3 ((s2 ++ s3).drop n0) ∧ y3 = nj - n0 ∨ ¬ (L (s2 ++ s3)).take n0 = L s0 ∧ k2 = n1 ∧ Raw w7 x3 y3 (s2 ++ s3) ∧ y3 = nj) :
    k1 = k2 ∧ y1 ≤ 131072 ∧ y3 ≤ 1048576 ∧ ∃ t1 t2, Raw w5 x1 y1 t1 ∧ Raw w7 x3 y3 t2 ∧ (∀ t ∈ t1 ++ s3, t.size ≤ 1048576) ∧ (∀ t ∈ t2, t.size ≤ 1048576) ∧ decide (L (t1 ++ s3) = L t2) = true := by
  rw [take_more hl hge] at h2
  rcases h1 with ⟨c1, e1, r1, l1⟩ | ⟨c1, e1, r1, l1⟩
  · rcases h2 with ⟨c2, e2, r2, l2⟩ | ⟨c2, _⟩
    · exact ⟨by omega, by omega, by omega, _, _, r1, r2, mem_small (mem_drop q2) q3, mem_drop (mem_small q2 q3), law_hit hl hge⟩
    · exact absurd c1 c2
  · rcases h2 with ⟨c2, _⟩ | ⟨c2, e2, r2, l2⟩
    · exact absurd c2 c1
    · exact ⟨by omega, by omega, by omega, _, _, r1, r2, mem_small q2 q3, mem_small q2 q3, by simp⟩

set_option maxHeartbeats 2000000 in
theorem walk (a0 a1 a2 a3 : Option Addr) (n0 c0 n1 c1 n2 c2 n3 c3 : Nat) (s0 s1 s2 s3 : List ByteArray) (w : World)
    (h0 : Arg w a0 n0 c0 s0) (h1 : Arg w a1 n1 c1 s1) (h2 : Arg w a2 n2 c2 s2) (h3 : Arg w a3 n3 c3 s3) :
    Calls Trym.prog 5 #[.slice a0 n0 c0, .slice a1 n1 c1, .slice a2 n2 c2, .slice a3 n3 c3] w fun e w' => e = .returned (.bool true) ∧ Below w.heap.size w w' := by
  have m0 := h0.big
  have m1 := h1.big
  have m2 := h2.big
  have m3 := h3.big
  unfold maxLen at m0 m1 m2 m3
  go_enter Trym.func5, Trym.ntmps5
  go_wp2_with fail
  refine (zz_any a0 a1 a2 a3 n0 c0 n1 c1 n2 c2 n3 c3 s0 s1 s2 s3 w h0.raw h1.raw h2.raw h3.raw h0.big h1.big h2.big h3.big h0.small h1.small h2.small h3.small).mono ?_
  rintro e w' ⟨r, rfl, hw, hr⟩
  subst hw
  cases r with
  | false =>
    clear hr
    go_wp2
    go_ret
    exact ⟨rfl, Below.refl _ _⟩
  | true =>
    obtain ⟨q0, q1, q2, q3⟩ := hr rfl
    clear hr
    have Q0 : Hid _ := q0
    have Q1 : Hid _ := q1
    have Q2 : Hid _ := q2
    have Q3 : Hid _ := q3
    clear q0 q1 q2 q3
    by_cases b0 : n0 ≤ 65536
    · by_cases b1 : n1 ≤ 65536
      · by_cases b2 : n2 ≤ 65536
        · by_cases b3 : n3 ≤ 65536
          · go_wp2_with fail
            refine (bytes_any a0 n0 c0 s0 _ h0.raw b0 Q0.out).mono ?_
            rintro e w' ⟨z0, rfl, l0, u0, hw⟩
            subst hw
            go_wp2_with fail
            refine (bytes_any a1 n1 c1 s1 _ h1.raw b1 Q1.out).mono ?_
            rintro e w' ⟨z1, rfl, l1, u1, hw⟩
            subst hw
            go_wp2_with fail
            refine (bytes_any a2 n2 c2 s2 _ h2.raw b2 Q2.out).mono ?_
            rintro e w' ⟨z2, rfl, l2, u2, hw⟩
            subst hw
            go_wp2_with fail
            refine (bytes_any a3 n3 c3 s3 _ h3.raw b3 Q3.out).mono ?_
            rintro e w' ⟨z3, rfl, l3, u3, hw⟩
            subst hw
            by_cases hge : n0 ≤ n2
            · go_wp2_with fail
              · go_ret
                exact ⟨rfl, Below.refl _ _⟩
              · refine (clone_any a0 n0 c0 s0 _ h0.raw b0 h0.nil).mono ?_
                rintro e w1 ⟨d0, rfl, r0, e1⟩
                have p1 := h1.raw.below e1
                have p2 := h2.raw.below e1
                have p3 := h3.raw.below e1
                go_wp2_with fail
                refine (clone_any a1 n1 c1 s1 _ p1 b1 h1.nil).mono ?_
                rintro e w2 ⟨d1, rfl, r1, e2⟩
                have r0' := r0.below e2
                have p2' := p2.below e2
                have p3' := p3.below e2
                have e12 := e1.trans (e2.mono e1.size)
                clear r0 p1 p2 p3 e1 e2
                go_wp2_with fail
                refine (clone_any a2 n2 c2 s2 _ p2' b2 h2.nil).mono ?_
                rintro e w3 ⟨d2, rfl, r2, e3⟩
                have r0 := r0'.below e3
                have p3 := p3'.below e3
                have e13 := e12.trans (e3.mono e12.size)
                clear r0' p2' p3' e12 e3 r1
                go_wp2_with fail
                refine (clone_any a3 n3 c3 s3 _ p3 b3 h3.nil).mono ?_
                rintro e w4 ⟨d3, rfl, r3, e4⟩
                have r0' := r0.below e4
                have r2' := r2.below e4
                have e14 := e13.trans (e4.mono e13.size)
                clear r0 r2 p3 e13 e4
                go_wp2_with fail
                refine (zstart_any d0 d1 d2 n0 n0 n1 n1 n2 n2 s0 s2 _ r0' r2' hge (by omega) (Nat.le_refl _)).mono ?_
                rintro e w5 ⟨k1, x1, y1, z1', rfl, e5, hcase1⟩
                have r0 := r0'.below e5
                have r2 := r2'.below e5
                have r3' := r3.below e5
                have e15 := e14.trans (e5.mono e14.size)
                clear r0' r2' r3 e14 e5
                go_wp2_with fail
                refine (join_any d2 d3 n2 n2 n3 n3 s2 s3 _ r2 r3' (by omega) b3).mono ?_
                rintro e w6 ⟨x2, y2, z2', rfl, hz2, rj, hjc, e6⟩
                have r0' := r0.below e6
                have r3 := r3'.below e6
                have e16 := e15.trans (e6.mono e15.size)
                have HZ : Hid _ := hz2
                have z2a : z2' ≤ 131072 := by rw [hz2]; omega
                have z2b : n0 ≤ z2' := by rw [hz2]; omega
                have HC1 : Hid _ := hcase1
                clear hz2 hcase1 r0 r3' e15 r2
                go_wp2_with fail
                refine (zstart_any d0 d1 x2 n0 n0 n1 n1 z2' y2 s0 (s2 ++ s3) _ r0' rj z2b (by omega) hjc).mono ?_
                rintro e w7 ⟨k2, x3, y3, z3', rfl, e7, hcase2⟩
                have r3' := r3.below e7
                have e17 := e16.trans (e7.mono e16.size)
                obtain ⟨hk, hy1, hy3, t1, t2, rt1, rt2, qt1, qt2, hdec⟩ := two_cases h2.raw.len hge HZ.out b2 b3 Q2.out Q3.out HC1.out hcase2
                have rt1' : Raw w7 x1 y1 t1 := (rt1.below e6).below e7
                have QT1 : Hid _ := qt1
                have QT2 : Hid _ := qt2
                have HD : Hid _ := hdec
                clear hcase2 qt1 qt2 hdec rt1 r3 e16 e7 e6 HZ HC1 rj r0' hjc
                subst hk
                have hkk : ((k1 : Int) == (k1 : Int)) = true := by simp
                go_wp2_with fail
                refine (join_any x1 d3 y1 z1' n3 n3 t1 s3 _ rt1' r3' hy1 b3).mono ?_
                rintro e w8 ⟨x4, y4, z4', rfl, hz4, rj4, hjc4, e8⟩
                have rt2' := rt2.below e8
                have e18 := e17.trans (e8.mono e17.size)
                have z4a : z4' ≤ 1048576 := by rw [hz4]; omega
                clear hz4 rt1' r3' e17 rt2 e8
                have cs := same_strs x4 x3 z4' y4 y3 z3' (t1 ++ s3) t2 w8 rj4 rt2' z4a hy3 QT1.out QT2.out
                rw [HD.out] at cs
                have CS : Hid _ := cs
                clear cs
                go_wp2_with fail
                refine Calls.mono CS.out ?_
                rintro e w9 ⟨rfl, m9, rfl⟩
                go_wp2
                go_ret
                exact ⟨rfl, ⟨e18.os, e18.tape, e18.output, e18.size, e18.block⟩⟩
            · go_wp2_with fail
              · go_ret
                exact ⟨rfl, Below.refl _ _⟩
              · go_ret
                exact ⟨rfl, Below.refl _ _⟩
          · go_wp2
            go_ret
            exact ⟨rfl, Below.refl _ _⟩
        · go_wp2
          go_ret
          exact ⟨rfl, Below.refl _ _⟩
      · go_wp2
        go_ret
        exact ⟨rfl, Below.refl _ _⟩
    · go_wp2
      go_ret
      exact ⟨rfl, Below.refl _ _⟩

/-! ### THE ROW's STEP -/
theorem arg_of {H : Type} {enc : TypeId × Value → H} {W : World} {a : Option Addr} {len cap fuel : Nat} {x : DataW H × List MemPlace}
    (hf : DataW.trod enc Trym.prog W 0 (fun _ => true) true fuel 24 (Value.slice a len cap).cells.toList = some x) : ∃ ss, Arg W a len cap ss := by
  rcases open_strings Trym.underlying24 Trym.underlying9 (by kernel_rfl) hf with ⟨hcs, _⟩ | ⟨y, l, c, ss, hcs, _, hl, hm, hz, _, hcell, hws⟩
  · simp [Value.cells] at hcs
    obtain ⟨rfl, rfl, rfl⟩ := hcs
    exact ⟨[], ⟨⟨rfl, fun h => by omega⟩, fun _ => ⟨rfl, rfl⟩, Nat.zero_le _, fun t h => by cases h⟩⟩
  · simp [Value.cells] at hcs
    obtain ⟨rfl, rfl, rfl⟩ := hcs
    simp at hz
    refine ⟨ss.take len, ⟨⟨by simp; omega, fun hp => ?_⟩, (fun h => by cases h), (by omega), fun t ht => hws t (List.mem_of_mem_take ht)⟩⟩
    obtain ⟨b, off, spot⟩ := y
    have h0 := hcell 0 (by omega)
    have hspot : spot = none := by simpa [Addr.add] using World.cell?_spot h0
    subst hspot
    have hlt : b < W.heap.size := by
      have := World.block_lt_of_cell? W _ h0
      simpa [Addr.add] using this
    refine ⟨b, off, rfl, hlt, fun j hj => ?_⟩
    have hj' : j < ss.length := by simp at hj; omega
    rw [← add_plain, hcell j hj']
    simp [hj']

set_option maxRecDepth 100000 in
theorem lifted (os : Os) (started : os.Started) (H : Type) (enc : TypeId × Value → H) :
    ReturnsInHanded {} Trym.checked os 5 .any (Rows.fnStartDecidedByLeadingNamesSpec.pre6 enc Trym.prog Trym.f5 Rows.fnStartDecidedByLeadingNamesRow.domain false) (Rows.fnStartDecidedByLeadingNamesSpec.post enc Trym.prog Trym.f5 false true false false) := by
  refine returnsInHanded_of_change (C := Trym.checked) own started (by kernel_rfl) Trym.func5
    (ChangeSpec.witness6 (enc := enc) (C := Trym.checked) false ⟨#[], #[.slice none 0 0, .slice none 0 0, .slice none 0 0, .slice none 0 0], []⟩ 8 (by kernel_rfl) (by kernel_rfl) (by kernel_rfl) (by kernel_rfl)) ?_
  intro W base args ds gs before hval0 hW hcnd _
  have hval : ∀ (j : Nat) t v, Trym.f5.params[j]? = some t → args[j]? = some v → Value.okWide Trym.prog W .any base t v := hval0
  have hW' := hW
  obtain ⟨p, q, hA0, hV, rfl, hfz, hnd⟩ := hW
  have hA : DataW.TrodAll enc Trym.prog W 0 (fun _ => true) true Trym.f5.params.toList args.toList ds p := hA0
  rw [Trym.params5] at hA hval
  obtain ⟨v0, vs0, d0, ds0, p0, q0, hargs, rfl, rfl, h0, r0⟩ := trodAll_cons hA
  obtain ⟨v1, vs1, d1, ds1, p1, q1, rfl, rfl, rfl, h1, r1⟩ := trodAll_cons r0
  obtain ⟨v2, vs2, d2, ds2, p2, q2, rfl, rfl, rfl, h2, r2⟩ := trodAll_cons r1
  obtain ⟨v3, vs3, d3, ds3, p3, q3, rfl, rfl, rfl, h3, r3⟩ := trodAll_cons r2
  obtain ⟨rfl, rfl, rfl⟩ := trodAll_nil r3
  obtain rfl : args = #[v0, v1, v2, v3] := by cases args; simp_all
  obtain ⟨rfl, rfl⟩ := trodVars_none hV
  obtain ⟨a0, len0, cap0, rfl⟩ := okWide_slice Trym.underlying24 (hval 0 24 v0 rfl rfl)
  have k0 := h0
  have lt0 : ∀ x ∈ p0, x.block < W.heap.size := by obtain ⟨m, hm⟩ := k0; exact DataW.trod_lt m _ _ _ hm
  obtain ⟨s0, w0⟩ : ∃ ss, Arg W a0 len0 cap0 ss := by obtain ⟨fuel, hf⟩ := h0; exact arg_of hf
  obtain ⟨a1, len1, cap1, rfl⟩ := okWide_slice Trym.underlying24 (hval 1 24 v1 rfl rfl)
  have k1 := h1
  have lt1 : ∀ x ∈ p1, x.block < W.heap.size := by obtain ⟨m, hm⟩ := k1; exact DataW.trod_lt m _ _ _ hm
  obtain ⟨s1, w1⟩ : ∃ ss, Arg W a1 len1 cap1 ss := by obtain ⟨fuel, hf⟩ := h1; exact arg_of hf
  obtain ⟨a2, len2, cap2, rfl⟩ := okWide_slice Trym.underlying24 (hval 2 24 v2 rfl rfl)
  have k2 := h2
  have lt2 : ∀ x ∈ p2, x.block < W.heap.size := by obtain ⟨m, hm⟩ := k2; exact DataW.trod_lt m _ _ _ hm
  obtain ⟨s2, w2⟩ : ∃ ss, Arg W a2 len2 cap2 ss := by obtain ⟨fuel, hf⟩ := h2; exact arg_of hf
  obtain ⟨a3, len3, cap3, rfl⟩ := okWide_slice Trym.underlying24 (hval 3 24 v3 rfl rfl)
  have k3 := h3
  have lt3 : ∀ x ∈ p3, x.block < W.heap.size := by obtain ⟨m, hm⟩ := k3; exact DataW.trod_lt m _ _ _ hm
  obtain ⟨s3, w3⟩ : ∃ ss, Arg W a3 len3 cap3 ss := by obtain ⟨fuel, hf⟩ := h3; exact arg_of hf
  clear hA0 hval0
  refine (walk a0 a1 a2 a3 len0 cap0 len1 cap1 len2 cap2 len3 cap3 s0 s1 s2 s3 W w0 w1 w2 w3).mono fun e W' ⟨he, bel⟩ => ?_
  subst he
  exact ⟨_, rfl, _, _, _, [], _, [], hW', trodAll_mk1 (shut_bool Trym.underlying4 _), (trodAll_cons_mk (Below.trod laidOut (by kernel_rfl) (of_decide_eq_true (by kernel_rfl)) k0 bel lt0) (trodAll_cons_mk (Below.trod laidOut (by kernel_rfl) (of_decide_eq_true (by kernel_rfl)) k1 bel lt1) (trodAll_cons_mk (Below.trod laidOut (by kernel_rfl) (of_decide_eq_true (by kernel_rfl)) k2 bel lt2) (trodAll_cons_mk (Below.trod laidOut (by kernel_rfl) (of_decide_eq_true (by kernel_rfl)) k3 bel lt3) trodAll_mk0)))), rfl, bel.frame _, fun h => by cases h⟩

theorem over : Rows.fnStartDecidedByLeadingNamesRow.holds Trym.pinned (OpenSpec.ofChange Rows.fnStartDecidedByLeadingNamesSpec) :=
  OpenClaim.holds_of_wide 5 Trym.f5 rfl rfl rfl rfl rfl rfl rfl ⟨rfl, rfl, rfl, rfl, rfl⟩ rfl rfl rfl rfl rfl (by kernel_rfl) Trym.func5 (by kernel_rfl)
    (of_decide_eq_true (by kernel_rfl)) (by unfold Func.isWrapper; first | (rw [if_pos (by decide +kernel)]; kernel_rfl) | (rw [if_neg (by decide +kernel)]; exact ⟨rfl, rfl⟩))
    (fun os started H enc _ => lifted os started H enc)

/-- THE STATEMENT -/
theorem proved : Rows.FnStartDecidedByLeadingNamesSaid := over
#print axioms proved
end Go.Proofs.Qxb6601133aMods.fnStartDecidedByLeadingNames
