/- Floats for ShareFit: quotients of any size, and bounds by powers of two. Plain: no Go in sight. -/
import Derived.Test.Qxb6601435aModsFm
import Derived.Test.Qxb6601435aModsVf
namespace Go.Proofs.Qxb6601435aMods
namespace Fl
open Ieee
set_option linter.unusedVariables false
set_option linter.unusedSimpArgs false

/-- ROUNDING, whatever the size and the place: no NaN, and the sign is kept. -/
theorem nearest_num (neg : Bool) (mag : Nat) (place : Int) :
    ∃ R : Int, Num (double.nearest neg mag place) ∧ W (double.nearest neg mag place) = sg neg * R ∧ 0 ≤ R ∧ (mag = 0 → R = 0) := by
  by_cases hm : mag = 0
  · subst hm
    rw [nearest_zero]
    obtain ⟨h1, h2⟩ := V_word neg 0 (by decide)
    refine ⟨0, .inl h1, ?_, Int.le_refl _, fun _ => rfl⟩
    rw [W_fin h1, h2]; simp [rv]
  · obtain ⟨P, hP⟩ : ∃ P : Nat, P = (-(place + 1074)).toNat := ⟨_, rfl⟩
    obtain ⟨a, ha⟩ : ∃ a : Nat, place + 1074 + P = a := Int.eq_ofNat_of_zero_le (by omega)
    obtain ⟨kept, E, e, k1, k2, _⟩ := nearest_core neg mag place P a hm ha
    by_cases hr : E * 4503599627370496 + kept < 9218868437227405312
    · rw [Nat.min_eq_left (by omega)] at e
      obtain ⟨h1, h2⟩ := V_word neg _ hr
      rw [rv_kept E kept k1 k2] at h2
      refine ⟨((kept * 2 ^ E : Nat) : Int), by rw [e]; exact .inl h1, ?_, Int.natCast_nonneg _, fun h => absurd h hm⟩
      rw [e, W_fin h1, h2]; rfl
    · rw [Nat.min_eq_right (by omega)] at e
      have hinf := read_inf neg
      exact ⟨BG, by rw [e]; exact .inr ⟨_, hinf⟩, by rw [e]; exact W_inf hinf, by have := BG_pos; omega, fun h => absurd h hm⟩

/-- A QUOTIENT of a finite by a finite that is not zero: no NaN; its sign. -/
theorem div_sign {x y : Nat} (hx : Fnt x) (hy : Fnt y) (hy0 : 0 < V y) :
    ∃ r, double.div x y = some r ∧ Num r ∧ (V x ≤ 0 → W r ≤ 0) ∧ (0 ≤ V x → 0 ≤ W r) := by
  obtain ⟨s, m, i, ex⟩ := hx
  obtain ⟨t, n, j, ey⟩ := hy
  have vx := V_of ex
  have vy := V_of ey
  have pn : (0 : Int) ≤ ((n * 2 ^ (j + 1074).toNat : Nat) : Int) := Int.natCast_nonneg _
  have pm : (0 : Int) ≤ ((m * 2 ^ (i + 1074).toNat : Nat) : Int) := Int.natCast_nonneg _
  have hn : n ≠ 0 := by
    intro h; subst h; rw [vy] at hy0; simp at hy0
  have ht : t = false := by
    cases t
    · rfl
    · rw [vy] at hy0; simp only [if_true] at hy0; omega
  subst ht
  unfold Format.div
  rw [ex, ey]
  simp only [Datum.quotient, if_neg hn, Option.map_some, Format.write, frac_eq, Bool.xor_false]
  refine ⟨_, rfl, ?_⟩
  generalize hmag : 2 * _ + _ = mag
  generalize i - j - _ - 1 = pl
  have hz : m = 0 → mag = 0 := by
    intro h; subst h; rw [← hmag]; simp [Nat.shiftLeft_eq]
  clear hmag
  obtain ⟨R, n1, n2, n3, n4⟩ := nearest_num s mag pl
  refine ⟨n1, ?_⟩
  rw [n2, vx]
  by_cases hm : m = 0
  · rw [n4 (hz hm)]; simp
  · have h1 : 0 < m * 2 ^ (i + 1074).toNat := Nat.mul_pos (Nat.pos_of_ne_zero hm) (Nat.two_pow_pos _)
    generalize m * 2 ^ (i + 1074).toNat = M at *
    cases s <;> simp only [sg, if_true, Bool.false_eq_true, if_false] <;> omega

/-- A power of two, not to be reckoned out. -/
def pw (c : Nat) : Int := ((2 ^ c : Nat) : Int)
theorem pw_pos (c : Nat) : 0 < pw c := Int.natCast_pos.2 (Nat.two_pow_pos _)
theorem pw_mul {a b c : Nat} (h : a + b = c) : pw a * pw b = pw c := by
  unfold pw; rw [← Int.natCast_mul, pow_split h]
theorem pw_le {a b : Nat} (h : a ≤ b) : pw a ≤ pw b := Int.ofNat_le.2 (Nat.pow_le_pow_right (by decide) h)
theorem pw_succ {a b : Nat} (h : a + 1 = b) : pw b = 2 * pw a := by
  unfold pw; rw [← h, Nat.pow_succ]; omega
theorem U_pw : ∃ k : Nat, k = 1074 ∧ U = pw k := U_spec

/-- At most 2^c in size. -/
def Le (c : Nat) (z : Int) : Prop := (z.natAbs : Int) ≤ pw c * U

theorem Le.mono {a b : Nat} {z : Int} (h : Le a z) (hab : a ≤ b) : Le b z := by
  have h1 : pw a * U ≤ pw b * U := Int.mul_le_mul_of_nonneg_right (pw_le hab) (by have := Vf.U_pos; omega)
  unfold Le at *; omega

theorem Le.nat {c k : Nat} {z : Int} (h : Le c z) (hk : k = 1074) (eU : U = pw k) : z.natAbs ≤ 2 ^ (c + k) := by
  unfold Le at h
  rw [eU, pw_mul (c := c + k) rfl] at h
  unfold pw at h
  exact Int.ofNat_le.1 h

theorem add_le {x y a : Nat} (hx : Fnt x) (hy : Fnt y) (lx : Le a (V x)) (ly : Le a (V y)) (ha : a ≤ 1000) :
    ∃ r, double.add x y = some r ∧ Fnt r ∧ Le (a + 2) (V r) := by
  have e1 : pw (a + 1) * U = 2 * (pw a * U) := by rw [pw_succ (a := a) rfl, Int.mul_assoc]
  have e2 : pw (a + 2) * U = 2 * (pw (a + 1) * U) := by rw [pw_succ (a := a + 1) rfl, Int.mul_assoc]
  have hs : Le (a + 1) (V x + V y) := by unfold Le at *; omega
  obtain ⟨k, hk, eU⟩ := U_pw
  obtain ⟨r, h1, h2, h3⟩ := add_spec hx hy (cap_gt (Le.nat hs hk eU) (by omega))
  refine ⟨r, h1, h2, ?_⟩
  unfold Le at *
  generalize pw a * U = A at *
  generalize pw (a + 1) * U = B at *
  generalize pw (a + 2) * U = C at *
  omega

theorem sub_le {x y a : Nat} (hx : Fnt x) (hy : Fnt y) (lx : Le a (V x)) (ly : Le a (V y)) (ha : a ≤ 1000) :
    ∃ r, double.sub x y = some r ∧ Fnt r ∧ Le (a + 2) (V r) ∧ (0 ≤ V x - V y → 0 ≤ V r) ∧ (V x - V y ≤ 0 → V r ≤ 0) ∧ (V r = 0 → V x - V y = 0) := by
  have e1 : pw (a + 1) * U = 2 * (pw a * U) := by rw [pw_succ (a := a) rfl, Int.mul_assoc]
  have e2 : pw (a + 2) * U = 2 * (pw (a + 1) * U) := by rw [pw_succ (a := a + 1) rfl, Int.mul_assoc]
  have hs : Le (a + 1) (V x - V y) := by unfold Le at *; omega
  obtain ⟨k, hk, eU⟩ := U_pw
  obtain ⟨r, h1, h2, h3⟩ := sub_spec hx hy (cap_gt (Le.nat hs hk eU) (by omega))
  refine ⟨r, h1, h2, ?_, ?_, ?_, ?_⟩
  · unfold Le at *
    generalize pw a * U = A at *
    generalize pw (a + 1) * U = B at *
    generalize pw (a + 2) * U = C at *
    omega
  · omega
  · omega
  · omega

/-- |p| at most 2^c U U. -/
theorem prod_le {a b : Nat} {x y : Int} (lx : Le a x) (ly : Le b y) : ((x * y).natAbs : Int) ≤ pw (a + b) * U * U := by
  unfold Le at *
  rw [Int.natAbs_mul, Int.natCast_mul]
  have h1 : (x.natAbs : Int) * (y.natAbs : Int) ≤ pw a * U * (pw b * U) := Int.mul_le_mul lx ly (by omega) (by omega)
  have e : pw a * U * (pw b * U) = pw (a + b) * U * U := by
    rw [← pw_mul (a := a) (b := b) rfl]
    simp only [Int.mul_assoc, Int.mul_comm, Int.mul_left_comm]
  omega

theorem lt_of_mul_U {a b : Int} (h : a * U < b * U) : a < b := Int.lt_of_mul_lt_mul_right h (by have := Vf.U_pos; omega)

theorem mul_le {x y a b : Nat} (hx : Fnt x) (hy : Fnt y) (lx : Le a (V x)) (ly : Le b (V y)) (ha : a + b ≤ 1000) :
    ∃ r, double.mul x y = some r ∧ Fnt r ∧ Le (a + b + 1) (V r) ∧ (0 ≤ V x * V y → 0 ≤ V r) ∧ (V x * V y ≤ 0 → V r ≤ 0) ∧
      (∀ L : Int, 2 * U ≤ 2 * (L * U) → 2 * (L * U) ≤ V x * V y → L ≤ V r) := by
  have hU := Vf.U_pos
  have hp := prod_le lx ly
  obtain ⟨k, hk, eU⟩ := U_pw
  have hc : (V x * V y).natAbs < cap 1074 := by
    apply cap_gt (k := a + b + k + k) _ (by omega)
    have e : pw (a + b) * U * U = ((2 ^ (a + b + k + k) : Nat) : Int) := by
      rw [eU, pw_mul (c := a + b + k) rfl, pw_mul (c := a + b + k + k) rfl]; rfl
    rw [e] at hp
    exact Int.ofNat_le.1 hp
  obtain ⟨r, h1, h2, h3⟩ := mul_spec hx hy hc
  have e1 : pw (a + b + 1) * U * U = 2 * (pw (a + b) * U * U) := by rw [pw_succ (a := a + b) rfl, Int.mul_assoc, Int.mul_assoc, Int.mul_assoc]
  have hbig : U ≤ pw (a + b) * U * U := by
    have h4 : 1 * (1 * U) ≤ pw (a + b) * (U * U) := by
      have h5 : 1 * U ≤ U * U := Int.mul_le_mul_of_nonneg_right (by omega) (by omega)
      have h6 : 1 * (U * U) ≤ pw (a + b) * (U * U) := Int.mul_le_mul_of_nonneg_right (by have := pw_pos (a + b); omega) (by omega)
      omega
    rw [Int.mul_assoc]; omega
  refine ⟨r, h1, h2, ?_, ?_, ?_, ?_⟩
  · unfold Le
    generalize hP : V x * V y = P at *
    clear eU hk hc lx ly
    have hr1 : V r * U < (pw (a + b + 1) * U + 1) * U := by
      rw [Int.add_mul, e1]
      generalize pw (a + b) * U * U = Q at *
      generalize V r * U = R at *
      omega
    have hr2 : (-(V r)) * U < (pw (a + b + 1) * U + 1) * U := by
      rw [Int.add_mul, e1, Int.neg_mul]
      generalize pw (a + b) * U * U = Q at *
      generalize V r * U = R at *
      omega
    have := lt_of_mul_U hr1
    have := lt_of_mul_U hr2
    generalize pw (a + b + 1) * U = Z at *
    omega
  · intro h
    have hr1 : (-1) * U < V r * U := by
      generalize V x * V y = P at *
      generalize V r * U = R at *
      omega
    have := lt_of_mul_U hr1
    omega
  · intro h
    have hr1 : V r * U < 1 * U := by
      generalize V x * V y = P at *
      generalize V r * U = R at *
      omega
    have := lt_of_mul_U hr1
    omega
  · intro L hL h
    have hr1 : (L - 1) * U < V r * U := by
      rw [Int.sub_mul]
      generalize V x * V y = P at *
      generalize V r * U = R at *
      generalize L * U = LL at *
      omega
    have := lt_of_mul_U hr1
    omega

/-- A QUOTIENT by what is not too small. -/
theorem div_le {x y a b : Nat} (hx : Fnt x) (hy : Fnt y) (lx : Le a (V x)) (hy0 : 0 < V y) (ly : U ≤ pw b * V y) (ha : a + b ≤ 1000) :
    ∃ r, double.div x y = some r ∧ Fnt r ∧ Le (a + b + 1) (V r) := by
  have hU := Vf.U_pos
  obtain ⟨k, hk, eU⟩ := U_pw
  -- |x| U ≤ 2^a U U ≤ 2^(a+b) U y
  have hxU : ((V x * U).natAbs : Int) ≤ V y * (pw (a + b) * U) := by
    have h1 : ((V x * U).natAbs : Int) = ((V x).natAbs : Int) * U := by
      rw [Int.natAbs_mul, Int.natCast_mul]
      have : ((U.natAbs : Nat) : Int) = U := by omega
      rw [this]
    unfold Le at lx
    have h2 : ((V x).natAbs : Int) * U ≤ pw a * U * U := Int.mul_le_mul_of_nonneg_right lx (by omega)
    have hn : 0 ≤ pw a * U := Int.mul_nonneg (by have := pw_pos a; omega) (by omega)
    have h3 : pw a * U * U ≤ pw a * U * (pw b * V y) := Int.mul_le_mul_of_nonneg_left ly hn
    have e : pw a * U * (pw b * V y) = V y * (pw (a + b) * U) := by
      rw [← pw_mul (a := a) (b := b) rfl]; simp only [Int.mul_assoc, Int.mul_comm, Int.mul_left_comm]
    omega
  have hb : (V x * U).natAbs ≤ (V y).natAbs * 2 ^ (a + b + k) := by
    have e : pw (a + b) * U = ((2 ^ (a + b + k) : Nat) : Int) := by rw [eU, pw_mul (c := a + b + k) rfl]; rfl
    rw [e] at hxU
    have e2 : V y = ((V y).natAbs : Int) := by omega
    rw [e2, ← Int.natCast_mul] at hxU
    exact Int.ofNat_le.1 hxU
  obtain ⟨r, h1, h2, h3⟩ := div_spec hx hy (by omega) (a + b + k) (by omega) hb
  refine ⟨r, h1, h2, ?_⟩
  clear hb eU hk
  have ey : ((V y).natAbs : Int) = V y := by omega
  rw [ey] at h3
  have e1 : V y * (pw (a + b + 1) * U) = 2 * (V y * (pw (a + b) * U)) := by
    rw [pw_succ (a := a + b) rfl]; simp only [Int.mul_assoc, Int.mul_comm, Int.mul_left_comm]
  have hr1 : V r * V y < (pw (a + b + 1) * U + 1) * V y := by
    rw [Int.add_mul, Int.mul_comm (pw (a + b + 1) * U), e1]
    generalize V y * (pw (a + b) * U) = Q at *
    generalize V r * V y = R at *
    generalize V x * U = X at *
    omega
  have hr2 : (-(V r)) * V y < (pw (a + b + 1) * U + 1) * V y := by
    rw [Int.add_mul, Int.mul_comm (pw (a + b + 1) * U), e1, Int.neg_mul]
    generalize V y * (pw (a + b) * U) = Q at *
    generalize V r * V y = R at *
    generalize V x * U = X at *
    omega
  have l1 := Int.lt_of_mul_lt_mul_right hr1 (by omega)
  have l2 := Int.lt_of_mul_lt_mul_right hr2 (by omega)
  unfold Le
  generalize pw (a + b + 1) * U = Z at *
  omega

/-- A QUOTIENT of what is not negative by what is positive, perhaps infinite. -/
theorem div_to {x y : Nat} (hx : Fnt x) (hy : Num y) (hx0 : 0 ≤ V x) (hy0 : 0 < W y) :
    ∃ r, double.div x y = some r ∧ Num r ∧ 0 ≤ W r ∧ (V x = 0 → W r = 0) ∧ (U ≤ W r → Fnt y ∧ W y ≤ 2 * V x) := by
  have hU := Vf.U_pos
  rcases hy with hy | ⟨t, ey⟩
  · rw [W_fin hy] at hy0
    obtain ⟨r, h1, h2, h3, h4⟩ := div_sign hx hy hy0
    refine ⟨r, h1, h2, h4 hx0, ?_, ?_⟩
    · intro h
      have := h3 (by omega)
      have := h4 (by omega)
      omega
    · intro h
      refine ⟨hy, ?_⟩
      rw [W_fin hy]
      apply Classical.byContradiction
      intro hc
      obtain ⟨k, hk, eU⟩ := U_pw
      obtain ⟨j, hj⟩ : ∃ j, j + 1 = k := ⟨k - 1, by omega⟩
      have e2 : U = 2 * pw j := by rw [eU]; exact pw_succ hj
      have hb : (V x * U).natAbs ≤ (V y).natAbs * 2 ^ j := by
        have h5 : 2 * V x * pw j ≤ V y * pw j := Int.mul_le_mul_of_nonneg_right (by omega) (by have := pw_pos j; omega)
        have h6 : V x * U = 2 * V x * pw j := by rw [e2]; simp only [Int.mul_assoc, Int.mul_comm, Int.mul_left_comm]
        have h7 : 0 ≤ V x * U := Int.mul_nonneg hx0 (by omega)
        have h8 : V y * pw j = (((V y).natAbs * 2 ^ j : Nat) : Int) := by
          rw [Int.natCast_mul]; unfold pw
          have : (((V y).natAbs : Nat) : Int) = V y := by omega
          rw [this]
        rw [h8] at h5
        omega
      obtain ⟨r', g1, g2, g3⟩ := div_spec hx hy (by omega) j (by omega) hb
      rw [h1] at g1
      obtain rfl : r = r' := Option.some.inj g1
      rw [W_fin g2] at h
      -- U * V y ≤ V r * V y ≤ ..
      have k1 : U * V y ≤ V r * V y := Int.mul_le_mul_of_nonneg_right h (by omega)
      have k2 : 2 * V x * U ≤ (V y - 1) * U := Int.mul_le_mul_of_nonneg_right (by omega) (by omega)
      rw [Int.sub_mul, Int.mul_assoc, Int.mul_comm (V y)] at k2
      have k3 : 0 ≤ V x * U := Int.mul_nonneg hx0 (by omega)
      have k4 : V y * 4 ≤ V y * U := Int.mul_le_mul_of_nonneg_left (by have := Vf.U_big; omega) (by omega)
      have k5 : ((V y).natAbs : Int) = V y := by omega
      rw [k5] at g3
      rw [Int.mul_comm (V y) U] at k4
      generalize V x * U = A at *
      generalize U * V y = B at *
      generalize V r * V y = C at *
      omega
  · have hB := BG_pos
    rw [W_inf ey] at hy0
    have ht : t = false := by
      cases t
      · rfl
      · simp only [sg, if_true] at hy0; omega
    subst ht
    obtain ⟨s, m, i, ex⟩ := hx
    unfold Format.div
    rw [ex, ey]
    simp only [Datum.quotient, Option.map_some, Format.write]
    obtain ⟨R, n1, n2, n3, n4⟩ := nearest_num (s ^^ false) 0 0
    have h0 : W (double.nearest (s ^^ false) 0 0) = 0 := by rw [n2, n4 rfl]; simp
    exact ⟨_, rfl, n1, by rw [h0]; exact Int.le_refl _, fun _ => h0, fun h => by rw [h0] at h; omega⟩
end Fl
end Go.Proofs.Qxb6601435aMods
