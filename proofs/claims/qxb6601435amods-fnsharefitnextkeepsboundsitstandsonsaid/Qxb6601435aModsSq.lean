/- ShareFit: the second half of a step: the bounds. Plain: no Go in sight. -/
import Derived.Test.Qxb6601435aModsSp
namespace Go.Proofs.Qxb6601435aMods
namespace Fl
open Ieee
set_option linter.unusedVariables false
set_option linter.unusedSimpArgs false

/-- What the step (da, db) is. -/
structure S2 (most alpha beta i11 da db : Nat) : Prop where
  na : Num da
  nb : Num db
  ka : V alpha = V most → W da ≤ 0
  cs : (Fnt da ∧ Fnt db ∧ Le 850 (V da) ∧ Le 850 (V db) ∧ (V beta = 0 → V db ≤ 0)) ∨ (Fnt db ∧ V db = 0) ∨ (Fnt da ∧ V da = 0 ∧ (V i11 ≠ 0 → Fnt db ∧ Le 850 (V db)))

structure Good (most alpha beta i11 a b : Nat) : Prop where
  fa : Fnt a
  a60 : V 13857013103465594880 ≤ V a
  hb : Fnt b ∨ (V i11 = 0 ∧ Num b ∧ W b ≤ 0)
  ka : V alpha = V most → V a ≤ V most
  kb : V beta = 0 → W b ≤ 0

structure PA (most alpha da ra toA : Nat) : Prop where
  n : Num toA
  p : 0 ≤ W toA
  lt : W toA < U → V most < W ra ∧ 0 < W da
  ge : U ≤ W toA → W ra ≤ V most ∨ (Fnt ra ∧ V most < V ra)

structure PB (beta db rb toB : Nat) : Prop where
  n : Num toB
  p : 0 ≤ W toB
  lt : W toB < U → 0 < W rb ∧ 0 < W db
  ge : U ≤ W toB → W rb ≤ 0 ∨ (Fnt rb ∧ V beta ≠ 0)

theorem W_one : W 4607182418800017408 = U := by rw [W_fin V_one.1, V_one.2]
theorem U_lt_BG : U < BG := by
  have h := V_small V_one.1
  rw [V_one.2] at h
  have := Vf.U_pos
  omega
theorem W_zero : W 0 = 0 := by rw [W_fin fin_zero.1, fin_zero.2]

theorem fin_of_lt {x : Nat} (h : Num x) (h0 : 0 ≤ W x) (hl : W x < U) : Fnt x := by
  rcases h with h | ⟨s, e⟩
  · exact h
  · exfalso
    have := BG_pos
    have := U_lt_BG
    rw [W_inf e] at h0 hl
    cases s <;> simp only [sg, if_true, Bool.false_eq_true, if_false] at h0 hl <;> omega

/-- Between two finite values: finite. -/
theorem fin_between {x y z : Nat} (h : Num x) (hy : Fnt y) (hz : Fnt z) (h1 : V y ≤ W x) (h2 : W x ≤ V z) : Fnt x := by
  rcases h with h | ⟨s, e⟩
  · exact h
  · exfalso
    have := BG_pos
    have hy' := V_small hy
    have hz' := V_small hz
    rw [W_inf e] at h1 h2
    cases s <;> simp only [sg, if_true, Bool.false_eq_true, if_false] at h1 h2 <;> omega

theorem Le.zero {c : Nat} {z : Int} (h : z = 0) : Le c z := by
  subst h
  unfold Le
  have := Int.mul_nonneg (show 0 ≤ pw c by have := pw_pos c; omega) (show 0 ≤ U by have := Vf.U_pos; omega)
  simpa using this

theorem Le.twice {c : Nat} {z y : Int} (h : Le c y) (h0 : 0 ≤ z) (h1 : z ≤ 2 * y) : Le (c + 1) z := by
  unfold Le at *
  rw [pw_succ (a := c) rfl, Int.mul_assoc]
  generalize pw c * U = A at *
  omega

theorem stepA {most alpha beta g0 g1 i00 i01 i11 da db : Nat} (D : Dom most alpha beta g0 g1 i00 i01 i11) (S : S2 most alpha beta i11 da db) :
    ∃ ra, double.add alpha da = some ra ∧ Num ra ∧ (W ra ≤ V most → PA most alpha da ra 4607182418800017408) ∧
      (V most < W ra → ∃ X toA, double.sub most alpha = some X ∧ double.div X da = some toA ∧ PA most alpha da ra toA) := by
  have hU := Vf.U_pos
  obtain ⟨ra, e, n, up, dn⟩ := add_num D.fa S.na
  refine ⟨ra, e, n, ?_, ?_⟩
  · intro h
    exact ⟨.inl V_one.1, by rw [W_one]; omega, fun h => by rw [W_one] at h; omega, fun _ => .inl h⟩
  · intro h
    have hp : 0 < W da := by
      apply Classical.byContradiction
      intro hc
      have := up most D.fm (by have := D.am; omega)
      omega
    obtain ⟨X, e1, fX, lX, x0, _, _⟩ := sub_le D.fm D.fa D.lm D.la (by decide)
    have hX0 := x0 (by have := D.am; omega)
    obtain ⟨toA, e2, nA, pA, _, big⟩ := div_to fX S.na hX0 hp
    refine ⟨X, toA, e1, e2, nA, pA, fun _ => ⟨h, hp⟩, fun hge => .inr ?_⟩
    obtain ⟨fd, ld⟩ := big hge
    rw [W_fin fd] at ld hp
    obtain ⟨r', e3, fr, _⟩ := add_le D.fa fd (D.la.mono (b := 203) (by decide)) (Le.twice lX (by omega) ld) (by decide)
    rw [e] at e3
    obtain rfl : ra = r' := Option.some.inj e3
    exact ⟨fr, by rw [W_fin fr] at h; exact h⟩

theorem stepB {most alpha beta g0 g1 i00 i01 i11 da db nbeta : Nat} (D : Dom most alpha beta g0 g1 i00 i01 i11) (S : S2 most alpha beta i11 da db) (fn : Fnt nbeta) (vn : V nbeta = - V beta) :
    ∃ rb, double.add beta db = some rb ∧ Num rb ∧ (W rb ≤ 0 → PB beta db rb 4607182418800017408) ∧
      (0 < W rb → ∃ toB, double.div nbeta db = some toB ∧ PB beta db rb toB) := by
  have hU := Vf.U_pos
  obtain ⟨rb, e, n, up, dn⟩ := add_num D.fb S.nb
  have hb0 := D.b0
  refine ⟨rb, e, n, ?_, ?_⟩
  · intro h
    exact ⟨.inl V_one.1, by rw [W_one]; omega, fun h => by rw [W_one] at h; omega, fun _ => .inl h⟩
  · intro h
    have hp : 0 < W db := by
      apply Classical.byContradiction
      intro hc
      have := up 0 fin_zero.1 (by rw [fin_zero.2]; omega)
      rw [fin_zero.2] at this
      omega
    obtain ⟨toB, e2, nB, pB, zB, big⟩ := div_to fn S.nb (by omega) hp
    refine ⟨toB, e2, nB, pB, fun _ => ⟨h, hp⟩, fun hge => .inr ?_⟩
    obtain ⟨fd, ld⟩ := big hge
    have lX : Le 200 (V nbeta) := by have := D.lb; unfold Le at *; rw [vn]; omega
    rw [W_fin fd] at ld hp
    obtain ⟨r', e3, fr, _⟩ := add_le D.fb fd (D.lb.mono (b := 201) (by decide)) (Le.twice lX (by omega) ld) (by decide)
    rw [e] at e3
    obtain rfl : rb = r' := Option.some.inj e3
    refine ⟨fr, fun h0 => ?_⟩
    have := zB (by omega)
    omega

/-- toAlpha is the first bound. -/
theorem ret1 {most alpha beta g0 g1 i00 i01 i11 da db ra toA : Nat} (D : Dom most alpha beta g0 g1 i00 i01 i11) (S : S2 most alpha beta i11 da db)
    (A : PA most alpha da ra toA) (h : W toA < U) : ∃ m b, double.mul toA db = some m ∧ double.add beta m = some b ∧ Good most alpha beta i11 most b := by
  have hU := Vf.U_pos
  have fA := fin_of_lt A.n A.p h
  have hp := A.p
  obtain ⟨_, hda⟩ := A.lt h
  rw [W_fin fA] at h hp
  have lA : Le 0 (V toA) := by
    unfold Le
    have : pw 0 = 1 := rfl
    rw [this]; omega
  have key : Fnt db ∧ Le 850 (V db) ∧ (V beta = 0 → V db ≤ 0) := by
    rcases S.cs with ⟨_, h2, _, h4, h5⟩ | ⟨h1, h2⟩ | ⟨h1, h2, _⟩
    · exact ⟨h2, h4, h5⟩
    · exact ⟨h1, Le.zero h2, fun _ => by omega⟩
    · rw [W_fin h1] at hda; omega
  obtain ⟨fd, ld, kd⟩ := key
  obtain ⟨m, e1, fm, lm, _, sm, _⟩ := mul_le fA fd lA ld (by decide)
  obtain ⟨b, e2, fb, _⟩ := add_le D.fb fm (D.lb.mono (b := 851) (by decide)) (lm.mono (by decide)) (by decide)
  refine ⟨m, b, e1, e2, D.fm, D.m60, .inl fb, fun _ => Int.le_refl _, fun h0 => ?_⟩
  have h1 := sm (Int.mul_nonpos_of_nonneg_of_nonpos hp (kd h0))
  obtain ⟨b', e3, _, up, _⟩ := add_num D.fb (.inl fm)
  rw [e2] at e3
  obtain rfl : b = b' := Option.some.inj e3
  have := up 0 fin_zero.1 (by rw [fin_zero.2, W_fin fm]; omega)
  rw [fin_zero.2] at this
  exact this

/-- toBeta is the first bound. -/
theorem ret2 {most alpha beta g0 g1 i00 i01 i11 da db rb toB : Nat} (D : Dom most alpha beta g0 g1 i00 i01 i11) (S : S2 most alpha beta i11 da db)
    (B : PB beta db rb toB) (h : W toB < U) : ∃ m t, double.mul toB da = some m ∧ double.add alpha m = some t ∧ Num t ∧
      ∀ a, Num a → W a = max (W 13857013103465594880) (W t) → (a = 13857013103465594880 ∨ a = t) → Good most alpha beta i11 a 0 := by
  have hU := Vf.U_pos
  have fB := fin_of_lt B.n B.p h
  have hp := B.p
  obtain ⟨_, hdb⟩ := B.lt h
  rw [W_fin fB] at h hp
  have lB : Le 0 (V toB) := by
    unfold Le
    have : pw 0 = 1 := rfl
    rw [this]; omega
  have key : Fnt da ∧ Le 850 (V da) := by
    rcases S.cs with ⟨h1, h2, h3, h4, h5⟩ | ⟨h1, h2⟩ | ⟨h1, h2, _⟩
    · exact ⟨h1, h3⟩
    · rw [W_fin h1] at hdb; omega
    · exact ⟨h1, Le.zero h2⟩
  obtain ⟨fd, ld⟩ := key
  obtain ⟨m, e1, fm, lm, _, sm, _⟩ := mul_le fB fd lB ld (by decide)
  obtain ⟨t, e2, ft, _⟩ := add_le D.fa fm (D.la.mono (b := 851) (by decide)) (lm.mono (by decide)) (by decide)
  refine ⟨m, t, e1, e2, .inl ft, fun a na wa ca => ?_⟩
  have fa : Fnt a := by rcases ca with h | h <;> rw [h]; exact F_n60; exact ft
  rw [W_fin fa, W_fin F_n60, W_fin ft] at wa
  refine ⟨fa, by omega, .inl fin_zero.1, fun h0 => ?_, fun _ => by rw [W_zero]; exact Int.le_refl _⟩
  have hka := S.ka h0
  rw [W_fin fd] at hka
  have h1 := sm (Int.mul_nonpos_of_nonneg_of_nonpos hp hka)
  obtain ⟨t', e3, _, up, _⟩ := add_num D.fa (.inl fm)
  rw [e2] at e3
  obtain rfl : t = t' := Option.some.inj e3
  have h3 := up most D.fm (by rw [W_fin fm]; have := D.am; omega)
  rw [W_fin ft] at h3
  have := D.m60
  omega

/-- The whole step. -/
theorem ret3 {most alpha beta g0 g1 i00 i01 i11 da db ra rb toA toB : Nat} (D : Dom most alpha beta g0 g1 i00 i01 i11) (S : S2 most alpha beta i11 da db)
    (ea : double.add alpha da = some ra) (na : Num ra) (eb : double.add beta db = some rb) (nb : Num rb)
    (A : PA most alpha da ra toA) (B : PB beta db rb toB) (hA : U ≤ W toA) (hB : U ≤ W toB) :
    ∀ a, Num a → W a = max (W 13857013103465594880) (W ra) → (a = 13857013103465594880 ∨ a = ra) → Good most alpha beta i11 a rb := by
  intro a nm wa ca
  have hm := D.m60
  rw [W_fin F_n60] at wa
  have fa : Fnt a := by
    rcases A.ge hA with h | ⟨h, _⟩
    · exact fin_between nm F_n60 D.fm (by omega) (by omega)
    · rcases ca with h' | h' <;> rw [h']; exact F_n60; exact h
  rw [W_fin fa] at wa
  refine ⟨fa, by omega, ?_, fun h0 => ?_, fun h0 => ?_⟩
  · rcases B.ge hB with h | ⟨h, _⟩
    · by_cases hi : V i11 = 0
      · exact .inr ⟨hi, nb, h⟩
      · left
        have key : Fnt db ∧ Le 850 (V db) := by
          rcases S.cs with ⟨h1, h2, h3, h4, h5⟩ | ⟨h1, h2⟩ | ⟨h1, h2, h3⟩
          · exact ⟨h2, h4⟩
          · exact ⟨h1, Le.zero h2⟩
          · exact h3 hi
        obtain ⟨r', e3, fr, _⟩ := add_le D.fb key.1 (D.lb.mono (b := 850) (by decide)) key.2 (by decide)
        rw [eb] at e3
        obtain rfl : rb = r' := Option.some.inj e3
        exact fr
    · exact .inl h
  · have hka := S.ka h0
    obtain ⟨r', e3, _, up, _⟩ := add_num D.fa S.na
    rw [ea] at e3
    obtain rfl : ra = r' := Option.some.inj e3
    have h3 := up most D.fm (by omega)
    omega
  · rcases B.ge hB with h | ⟨_, h⟩
    · exact h
    · exact absurd h0 h
end Fl
end Go.Proofs.Qxb6601435aMods
