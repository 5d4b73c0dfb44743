/- Floats, more: infinities; rounding is monotone; quotients by sign. Plain: no Go in sight. -/
import Derived.Test.Qxb6601435aModsFl
namespace Go.Proofs.Qxb6601435aMods
namespace Fl
open Ieee
set_option linter.unusedVariables false
set_option linter.unusedSimpArgs false

/-- No NaN. -/
def Num (x : Nat) : Prop := Fnt x ∨ ∃ s, double.read x = .infinity s
/-- Beyond every finite value. -/
def BG : Int := ((2 ^ 3000 : Nat) : Int)
theorem BG_spec : ∃ k : Nat, k = 3000 ∧ BG = ((2 ^ k : Nat) : Int) := ⟨3000, rfl, rfl⟩
/-- The value; an infinity as a number beyond all others. -/
def W (x : Nat) : Int := match double.read x with
  | .infinity s => sg s * BG
  | _ => V x

theorem W_fin {x : Nat} (h : Fnt x) : W x = V x := by
  obtain ⟨s, m, i, e⟩ := h
  unfold W; rw [e]
theorem W_inf {x : Nat} {s : Bool} (h : double.read x = .infinity s) : W x = sg s * BG := by
  unfold W; rw [h]

theorem V_small {x : Nat} (h : Fnt x) : 2 * ((V x).natAbs : Int) < BG := by
  obtain ⟨s, m, i, e⟩ := h
  have r := read_num e
  rw [V_of e]
  have h1 : ((if s = true then (-1 : Int) else 1) * ((m * 2 ^ (i + 1074).toNat : Nat) : Int)).natAbs = m * 2 ^ (i + 1074).toNat := (sg_abs s _).trans (Int.natAbs_natCast _)
  rw [h1]
  obtain ⟨k, hk, e2⟩ := BG_spec
  rw [e2]
  obtain ⟨j, hj⟩ : ∃ j : Nat, j = (i + 1074).toNat := ⟨_, rfl⟩
  rw [← hj]
  have h2 : m * 2 ^ j < 2 ^ 53 * 2 ^ j := Nat.mul_lt_mul_of_pos_right (by omega) (Nat.two_pow_pos _)
  have h3 : (2 : Nat) ^ 53 * 2 ^ j = 2 ^ (53 + j) := pow_split rfl
  have h4 : (2 : Nat) ^ (53 + j + 1) ≤ 2 ^ k := Nat.pow_le_pow_right (by decide) (by omega)
  rw [Nat.pow_succ] at h4
  generalize m * 2 ^ j = A at *
  generalize 2 ^ k = B at *
  generalize 2 ^ (53 + j) = C at *
  omega

theorem BG_pos : 0 < BG := by
  have := V_small fin_zero.1
  omega

theorem read_inf (neg : Bool) : double.read (double.word neg 9218868437227405312) = .infinity neg := by
  unfold Format.read
  simp only [least, binade_eq, inf_eq, sign_eq]
  rw [word_mod neg _ (by decide), word_sign neg _ (by decide)]
  rw [if_neg (by decide), if_neg (by decide), if_pos rfl]

/-- The order of two words that are no NaNs. -/
theorem order_num {x y : Nat} (hx : Num x) (hy : Num y) : double.order x y = some (compare (W x) (W y)) := by
  have hB := BG_pos
  rcases hx with hx | ⟨s, ex⟩
  · rcases hy with hy | ⟨t, ey⟩
    · rw [W_fin hx, W_fin hy]; exact order_spec hx hy
    · have hs := V_small hx
      rw [W_fin hx, W_inf ey]
      obtain ⟨s, m, i, ex⟩ := hx
      unfold Format.order
      rw [ex, ey]
      cases t
      · have : V x < sg false * BG := by simp [sg]; omega
        rw [Int.compare_eq_lt.2 this]; rfl
      · have : sg true * BG < V x := by simp [sg]; omega
        rw [Int.compare_eq_gt.2 this]; rfl
  · rcases hy with hy | ⟨t, ey⟩
    · have hs := V_small hy
      rw [W_fin hy, W_inf ex]
      obtain ⟨t, m, i, ey⟩ := hy
      unfold Format.order
      rw [ex, ey]
      cases s
      · have : V y < sg false * BG := by simp [sg]; omega
        rw [Int.compare_eq_gt.2 this]; rfl
      · have : sg true * BG < V y := by simp [sg]; omega
        rw [Int.compare_eq_lt.2 this]; rfl
    · rw [W_inf ex, W_inf ey]
      unfold Format.order
      rw [ex, ey]
      have h1 : sg true * BG < sg false * BG := by simp [sg]; omega
      cases s <;> cases t
      · rw [Int.compare_eq_eq.2 rfl]; rfl
      · rw [Int.compare_eq_gt.2 h1]; rfl
      · rw [Int.compare_eq_lt.2 h1]; rfl
      · rw [Int.compare_eq_eq.2 rfl]; rfl

/-- ROUNDING, whatever the size: no NaN; the magnitude R of the result, against any magnitude that the format has. -/
theorem nearest_mono (neg : Bool) (mag : Nat) (place : Int) (a : Nat) (ha : place + 1074 = a) :
    ∃ R : Int, Num (double.nearest neg mag place) ∧ W (double.nearest neg mag place) = sg neg * R ∧ 0 ≤ R ∧ (mag = 0 → R = 0) ∧
      (∀ m j : Nat, m < 9007199254740992 → j ≤ 2045 → mag * 2 ^ a ≤ m * 2 ^ j → R ≤ ((m * 2 ^ j : Nat) : Int)) ∧
      (∀ m j : Nat, m < 9007199254740992 → j ≤ 2045 → m * 2 ^ j ≤ mag * 2 ^ a → ((m * 2 ^ j : Nat) : Int) ≤ R) := by
  by_cases hm : mag = 0
  · subst hm
    rw [nearest_zero]
    obtain ⟨h1, h2⟩ := V_word neg 0 (by decide)
    refine ⟨0, .inl h1, ?_, Int.le_refl _, fun _ => rfl, ?_, ?_⟩
    · rw [W_fin h1, h2]; simp [rv]
    · intro m j _ _ _; exact Int.natCast_nonneg _
    · intro m j _ _ h
      have h0 : m * 2 ^ j = 0 := by rw [Nat.zero_mul] at h; exact Nat.le_zero.1 h
      rw [h0]; exact Int.le_refl _
  · obtain ⟨kept, E, e, k1, k2, n1, n2, up, low⟩ := nearest_core neg mag place 0 a hm (by omega)
    simp only [Nat.add_zero] at *
    -- against what the format has
    have hup : ∀ m j : Nat, m < 9007199254740992 → mag * 2 ^ a ≤ m * 2 ^ j → kept * 2 ^ E ≤ m * 2 ^ j := by
      intro m j hm1 hle
      by_cases c : E ≤ j
      · have hs : m * 2 ^ j = m * 2 ^ (j - E) * 2 ^ E := by rw [Nat.mul_assoc, pow_split (z := j) (by omega)]
        rw [hs] at hle ⊢
        have hp : 0 < 2 ^ E := Nat.two_pow_pos _
        apply Nat.mul_le_mul_right
        apply Nat.le_of_lt_succ
        apply Nat.lt_of_mul_lt_mul_right (a := 2 ^ E)
        rw [Nat.succ_mul]
        generalize 2 ^ E = Z at *
        generalize m * 2 ^ (j - E) = M at *
        omega
      · exfalso
        rcases low with h | h
        · omega
        · have h3 : m * 2 ^ j < 9007199254740992 * 2 ^ j := Nat.mul_lt_mul_of_pos_right hm1 (Nat.two_pow_pos _)
          have h4 : 2 ^ (j + 1) ≤ 2 ^ E := Nat.pow_le_pow_right (by decide) (by omega)
          rw [Nat.pow_succ] at h4
          generalize 2 ^ E = Z at *
          generalize 2 ^ j = Y at *
          omega
    have hdn : ∀ m j : Nat, m < 9007199254740992 → m * 2 ^ j ≤ mag * 2 ^ a → m * 2 ^ j ≤ kept * 2 ^ E := by
      intro m j hm1 hle
      by_cases c : E ≤ j
      · have hs : m * 2 ^ j = m * 2 ^ (j - E) * 2 ^ E := by rw [Nat.mul_assoc, pow_split (z := j) (by omega)]
        rw [hs] at hle ⊢
        have hp : 0 < 2 ^ E := Nat.two_pow_pos _
        apply Nat.mul_le_mul_right
        apply Nat.le_of_lt_succ
        apply Nat.lt_of_mul_lt_mul_right (a := 2 ^ E)
        rw [Nat.succ_mul]
        generalize 2 ^ E = Z at *
        generalize m * 2 ^ (j - E) = M at *
        omega
      · have hE : E ≠ 0 := by omega
        have hk : 4503599627370496 ≤ kept := by
          by_cases c2 : kept < 4503599627370496
          · exact absurd (k2 c2) hE
          · omega
        have h3 : m * 2 ^ j < 9007199254740992 * 2 ^ j := Nat.mul_lt_mul_of_pos_right hm1 (Nat.two_pow_pos _)
        have h4 : 2 ^ (j + 1) ≤ 2 ^ E := Nat.pow_le_pow_right (by decide) (by omega)
        rw [Nat.pow_succ] at h4
        have h5 : 4503599627370496 * 2 ^ E ≤ kept * 2 ^ E := Nat.mul_le_mul_right _ hk
        generalize 2 ^ E = Z at *
        generalize 2 ^ j = Y at *
        omega
    by_cases hr : E * 4503599627370496 + kept < 9218868437227405312
    · rw [Nat.min_eq_left (by omega)] at e
      obtain ⟨h1, h2⟩ := V_word neg _ hr
      rw [rv_kept E kept k1 k2] at h2
      refine ⟨((kept * 2 ^ E : Nat) : Int), by rw [e]; exact .inl h1, ?_, Int.natCast_nonneg _, fun h => absurd h hm, ?_, ?_⟩
      · rw [e, W_fin h1, h2]; rfl
      · intro m j a1 _ a2; exact Int.ofNat_le.2 (hup m j a1 a2)
      · intro m j a1 _ a2; exact Int.ofNat_le.2 (hdn m j a1 a2)
    · rw [Nat.min_eq_right (by omega)] at e
      have hinf := read_inf neg
      refine ⟨BG, by rw [e]; exact .inr ⟨_, hinf⟩, by rw [e]; exact W_inf hinf, by have := BG_pos; omega, fun h => absurd h hm, ?_, ?_⟩
      · intro m j a1 a2 a3
        exfalso
        have h1 := hup m j a1 a3
        have h2 : m * 2 ^ j < 9007199254740992 * 2 ^ j := Nat.mul_lt_mul_of_pos_right a1 (Nat.two_pow_pos _)
        obtain ⟨q, hq⟩ : ∃ q : Nat, q = 2045 := ⟨_, rfl⟩
        have h3 : (2 : Nat) ^ j ≤ 2 ^ q := Nat.pow_le_pow_right (by decide) (by omega)
        have h4 : 9007199254740992 * 2 ^ q ≤ kept * 2 ^ E := by
          by_cases c : E = q
          · subst c
            exact Nat.mul_le_mul_right _ (by omega)
          · have hE : q + 1 ≤ E := by omega
            have hk : 4503599627370496 ≤ kept := by
              by_cases c2 : kept < 4503599627370496
              · have := k2 c2; omega
              · omega
            have h5 : 2 ^ (q + 1) ≤ 2 ^ E := Nat.pow_le_pow_right (by decide) hE
            rw [Nat.pow_succ] at h5
            have h6 : 4503599627370496 * 2 ^ E ≤ kept * 2 ^ E := Nat.mul_le_mul_right _ hk
            generalize 2 ^ E = Z at *
            generalize 2 ^ q = Y at *
            omega
        generalize kept * 2 ^ E = Z at *
        generalize 2 ^ q = Y at *
        generalize 2 ^ j = X at *
        omega
      · intro m j a1 a2 a3
        obtain ⟨k, hk, e2⟩ := BG_spec
        rw [e2]
        apply Int.ofNat_le.2
        have h2 : m * 2 ^ j < 2 ^ 53 * 2 ^ j := Nat.mul_lt_mul_of_pos_right a1 (Nat.two_pow_pos _)
        have h3 : (2 : Nat) ^ 53 * 2 ^ j = 2 ^ (53 + j) := pow_split rfl
        have h4 : (2 : Nat) ^ (53 + j) ≤ 2 ^ k := Nat.pow_le_pow_right (by decide) (by omega)
        omega

/-- A finite value as a magnitude that the format has. -/
theorem mag_of {z : Nat} (h : Fnt z) : ∃ (s : Bool) (m j : Nat), m < 9007199254740992 ∧ j ≤ 2045 ∧ V z = sg s * ((m * 2 ^ j : Nat) : Int) := by
  obtain ⟨s, m, i, e⟩ := h
  have r := read_num e
  exact ⟨s, m, (i + 1074).toNat, by omega, by omega, V_of e⟩

/-- Signed: rounding keeps what lies below a float below it, and what lies above it above. -/
theorem nearest_signed (neg : Bool) (mag : Nat) (place : Int) (a : Nat) (ha : place + 1074 = a) (S : Int) (hS : S = sg neg * ((mag * 2 ^ a : Nat) : Int)) :
    Num (double.nearest neg mag place) ∧ (∀ z, Fnt z → S ≤ V z → W (double.nearest neg mag place) ≤ V z) ∧ (∀ z, Fnt z → V z ≤ S → V z ≤ W (double.nearest neg mag place)) := by
  obtain ⟨R, h1, h2, h3, h4, hu, hd⟩ := nearest_mono neg mag place a ha
  refine ⟨h1, ?_, ?_⟩
  · intro z hz hle
    obtain ⟨t, m, j, a1, a2, ez⟩ := mag_of hz
    rw [h2]
    rw [hS, ez] at hle
    rw [ez]
    have u := hu m j a1 a2
    have d := hd m j a1 a2
    have p1 : (0 : Int) ≤ ((mag * 2 ^ a : Nat) : Int) := Int.natCast_nonneg _
    have p2 : (0 : Int) ≤ ((m * 2 ^ j : Nat) : Int) := Int.natCast_nonneg _
    generalize mag * 2 ^ a = A at *
    generalize m * 2 ^ j = B at *
    cases neg <;> cases t <;> simp only [sg] at * <;> simp only [if_true, Bool.false_eq_true, if_false] at *
    · by_cases c : A ≤ B
      · have := u c; omega
      · omega
    · -- A ≤ -B: both zero
      have hA : A = 0 := by omega
      have hB : B = 0 := by omega
      have := u (by omega); omega
    · omega
    · by_cases c : B ≤ A
      · have := d c; omega
      · omega
  · intro z hz hle
    obtain ⟨t, m, j, a1, a2, ez⟩ := mag_of hz
    rw [h2]
    rw [hS, ez] at hle
    rw [ez]
    have u := hu m j a1 a2
    have d := hd m j a1 a2
    have p1 : (0 : Int) ≤ ((mag * 2 ^ a : Nat) : Int) := Int.natCast_nonneg _
    have p2 : (0 : Int) ≤ ((m * 2 ^ j : Nat) : Int) := Int.natCast_nonneg _
    generalize mag * 2 ^ a = A at *
    generalize m * 2 ^ j = B at *
    cases neg <;> cases t <;> simp only [sg] at * <;> simp only [if_true, Bool.false_eq_true, if_false] at *
    · by_cases c : B ≤ A
      · have := d c; omega
      · omega
    · omega
    · have hA : A = 0 := by omega
      have hB : B = 0 := by omega
      have := u (by omega); omega
    · by_cases c : A ≤ B
      · have := u c; omega
      · omega

/-- A SUM with what may be infinite: no NaN; below what the exact sum lies below, above what it lies above. -/
theorem add_num {x y : Nat} (hx : Fnt x) (hy : Num y) :
    ∃ r, double.add x y = some r ∧ Num r ∧ (∀ z, Fnt z → V x + W y ≤ V z → W r ≤ V z) ∧ (∀ z, Fnt z → V z ≤ V x + W y → V z ≤ W r) := by
  rcases hy with hy | ⟨t, ey⟩
  · rw [W_fin hy]
    obtain ⟨s, m, i, ex⟩ := hx
    obtain ⟨t, n, j, ey⟩ := hy
    have ri := read_num ex
    have rj := read_num ey
    have vx := V_of ex
    have vy := V_of ey
    unfold Format.add
    rw [ex, ey]
    simp only [Datum.sum, Option.map_some, Format.write]
    refine ⟨_, rfl, ?_⟩
    obtain ⟨bs, hbs⟩ : ∃ b, b = min i j := ⟨_, rfl⟩
    rw [← hbs]
    obtain ⟨a, ha⟩ : ∃ a : Nat, bs + 1074 = a := Int.eq_ofNat_of_zero_le (by omega)
    obtain ⟨total, ht⟩ : ∃ z, z = signed s m (i - bs).toNat + signed t n (j - bs).toNat := ⟨_, rfl⟩
    rw [← ht]
    have hsum : V x + V y = total * (2 : Int) ^ a := by
      rw [ht, signed_eq, signed_eq, Int.add_mul, vx, vy, ← pow_cast]
      have p1 : m * 2 ^ (i - bs).toNat * 2 ^ a = m * 2 ^ (i + 1074).toNat := by rw [Nat.mul_assoc, pow_split (z := (i + 1074).toNat) (by omega)]
      have p2 : n * 2 ^ (j - bs).toNat * 2 ^ a = n * 2 ^ (j + 1074).toNat := by rw [Nat.mul_assoc, pow_split (z := (j + 1074).toNat) (by omega)]
      rw [Int.mul_assoc, Int.mul_assoc, ← Int.natCast_mul, ← Int.natCast_mul, p1, p2]
    apply nearest_signed _ _ _ a ha
    rw [hsum, Int.natCast_mul, pow_cast, ← Int.mul_assoc]
    congr 1
    refine (sg_natAbs total _ ?_).symm
    by_cases hz : total = 0
    · exact .inl hz
    · right; rw [if_neg hz]
  · have hB := BG_pos
    have hsx := V_small hx
    rw [W_inf ey]
    obtain ⟨s, m, i, ex⟩ := hx
    unfold Format.add
    rw [ex, ey]
    simp only [Datum.sum, Option.map_some, Format.write, inf_eq]
    refine ⟨_, rfl, .inr ⟨_, read_inf t⟩, ?_, ?_⟩
    · intro z hz hle
      have hsz := V_small hz
      rw [W_inf (read_inf t)]
      cases t <;> simp only [sg] at * <;> simp only [if_true, Bool.false_eq_true, if_false] at * <;> omega
    · intro z hz hle
      have hsz := V_small hz
      rw [W_inf (read_inf t)]
      cases t <;> simp only [sg] at * <;> simp only [if_true, Bool.false_eq_true, if_false] at * <;> omega
end Fl
end Go.Proofs.Qxb6601435aMods
