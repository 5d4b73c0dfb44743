/- Doubles as whole numbers of units of 2^-1074; what rounding does, in Int. Plain: no Go in sight. -/
import Ieee.Arith
namespace Go.Proofs.Qxb6601435aMods
namespace Fl
open Ieee
set_option linter.unusedVariables false
set_option linter.unusedSimpArgs false

theorem least : double.leastPlace = -1074 := by decide
theorem binade_eq : double.binade = 4503599627370496 := by decide
theorem inf_eq : double.infRung = 9218868437227405312 := by decide
theorem sign_eq : double.signWeight = 9223372036854775808 := by decide
theorem frac_eq : double.fractionBits = 52 := rfl

/-- Finite. -/
def Fnt (x : Nat) : Prop := ∃ s m i, double.read x = .number s m i
/-- The value in units of 2^-1074. -/
def V (x : Nat) : Int := match double.read x with
  | .number s m i => signed s m (i + 1074).toNat
  | _ => 0

theorem signed_eq (s : Bool) (m k : Nat) : signed s m k = (if s then -1 else 1) * ((m * 2 ^ k : Nat) : Int) := by
  unfold signed
  rw [Nat.shiftLeft_eq]
  cases s <;> simp

theorem V_of {x : Nat} {s : Bool} {m : Nat} {i : Int} (h : double.read x = .number s m i) : V x = (if s then -1 else 1) * ((m * 2 ^ (i + 1074).toNat : Nat) : Int) := by
  unfold V; rw [h]; exact signed_eq _ _ _

/-- What a word that is read as a number looks like. -/
theorem read_num {x : Nat} {s : Bool} {m : Nat} {i : Int} (h : double.read x = .number s m i) :
    m < 9007199254740992 ∧ -1074 ≤ i ∧ i ≤ 971 ∧ (4503599627370496 ≤ m ∨ i = -1074) := by
  unfold Format.read at h
  simp only [least, binade_eq, inf_eq, sign_eq] at h
  generalize x % 9223372036854775808 = r at h
  by_cases c1 : r < 4503599627370496
  · rw [if_pos c1] at h
    simp only [Datum.number.injEq] at h
    obtain ⟨_, rfl, rfl⟩ := h
    omega
  · rw [if_neg c1] at h
    by_cases c2 : r < 9218868437227405312
    · rw [if_pos c2] at h
      simp only [Datum.number.injEq] at h
      obtain ⟨_, rfl, rfl⟩ := h
      omega
    · rw [if_neg c2] at h
      split at h <;> cases h

/-- The magnitude on a rung. -/
def rv (r : Nat) : Nat := if r < 4503599627370496 then r else (4503599627370496 + r % 4503599627370496) * 2 ^ (r / 4503599627370496 - 1)

theorem word_mod (neg : Bool) (r : Nat) (h : r < 9223372036854775808) : double.word neg r % 9223372036854775808 = r := by
  unfold Format.word; rw [sign_eq]; split <;> omega
theorem word_sign (neg : Bool) (r : Nat) (h : r < 9223372036854775808) : (double.word neg r / 9223372036854775808 % 2 == 1) = neg := by
  unfold Format.word; rw [sign_eq]
  cases neg with
  | true => simp; omega
  | false => simp; omega

/-- A word below infinity's rung is finite, of that sign, of that rung's magnitude. -/
theorem read_word (neg : Bool) (r : Nat) (h : r < 9218868437227405312) :
    ∃ m i, double.read (double.word neg r) = .number neg m i ∧ m * 2 ^ (i + 1074).toNat = rv r := by
  unfold Format.read
  simp only [least, binade_eq, inf_eq, sign_eq]
  rw [word_mod neg r (by omega), word_sign neg r (by omega)]
  by_cases c1 : r < 4503599627370496
  · rw [if_pos c1]
    refine ⟨_, _, rfl, ?_⟩
    unfold rv; rw [if_pos c1]; simp
  · rw [if_neg c1, if_pos h]
    refine ⟨_, _, rfl, ?_⟩
    unfold rv; rw [if_neg c1]
    congr 2
    omega

theorem V_word (neg : Bool) (r : Nat) (h : r < 9218868437227405312) : Fnt (double.word neg r) ∧ V (double.word neg r) = (if neg then -1 else 1) * ((rv r : Nat) : Int) := by
  obtain ⟨m, i, e, hv⟩ := read_word neg r h
  refine ⟨⟨_, _, _, e⟩, ?_⟩
  rw [V_of e, hv]

theorem rv_kept (E kept : Nat) (h1 : kept ≤ 9007199254740992) (h2 : kept < 4503599627370496 → E = 0) : rv (E * 4503599627370496 + kept) = kept * 2 ^ E := by
  unfold rv
  by_cases c : kept < 4503599627370496
  · have := h2 c; subst this
    rw [if_pos (by omega)]; simp
  · rw [if_neg (by omega)]
    by_cases c2 : kept = 9007199254740992
    · subst c2
      have a : (E * 4503599627370496 + 9007199254740992) % 4503599627370496 = 0 := by omega
      have b : (E * 4503599627370496 + 9007199254740992) / 4503599627370496 - 1 = E + 1 := by omega
      rw [a, b, Nat.pow_succ]
      generalize 2 ^ E = p
      omega
    · have a : (E * 4503599627370496 + kept) % 4503599627370496 = kept - 4503599627370496 := by omega
      have b : (E * 4503599627370496 + kept) / 4503599627370496 - 1 = E := by omega
      rw [a, b, show 4503599627370496 + (kept - 4503599627370496) = kept by omega]

/-- Rounding to a whole number is off by half a unit at most. -/
theorem cut_near (neg : Bool) (n drop : Nat) : 2 * (Toward.even.cut neg n drop * 2 ^ drop) ≤ 2 * n + 2 ^ drop ∧ 2 * n ≤ 2 * (Toward.even.cut neg n drop * 2 ^ drop) + 2 ^ drop := by
  unfold Toward.cut
  simp only [Nat.one_shiftLeft]
  by_cases c : drop ≤ n.log2 + 2
  · rw [Nat.min_eq_left c]
    generalize hg : 2 ^ drop = g
    have hg0 : 0 < g := by rw [← hg]; exact Nat.two_pow_pos _
    have hdm := Nat.div_add_mod n g
    have hml := Nat.mod_lt n hg0
    generalize n / g = q at *
    generalize n % g = r at *
    have e1 : q * g = g * q := Nat.mul_comm _ _
    by_cases hm : (decide (g < 2 * r) || (g == 2 * r && q % 2 == 1)) = true
    · rw [hm]
      simp only [Bool.toNat_true]
      have hr : g ≤ 2 * r := by simp at hm; omega
      rw [Nat.add_mul, e1]; omega
    · have hm' : (decide (g < 2 * r) || (g == 2 * r && q % 2 == 1)) = false := by simpa using hm
      rw [hm']
      simp only [Bool.toNat_false, Nat.add_zero]
      have hr : 2 * r ≤ g := by simp at hm'; omega
      rw [e1]; omega
  · rw [Nat.min_eq_right (by omega)]
    have hlog : n < 2 ^ (n.log2 + 1) := Nat.lt_log2_self
    have hp : (2 : Nat) ^ (n.log2 + 2) = 2 * 2 ^ (n.log2 + 1) := by rw [Nat.pow_succ, Nat.mul_comm]
    have hle : (2 : Nat) ^ (n.log2 + 2) ≤ 2 ^ drop := Nat.pow_le_pow_right (by decide) (by omega)
    have a : n / 2 ^ (n.log2 + 2) = 0 := Nat.div_eq_of_lt (by omega)
    have b : n % 2 ^ (n.log2 + 2) = n := Nat.mod_eq_of_lt (by omega)
    have d : (decide (2 ^ (n.log2 + 2) < 2 * n) || (2 ^ (n.log2 + 2) == 2 * n && 0 % 2 == 1)) = false := by simp; omega
    rw [a, b, d]
    simp; omega

/-- Powers of two, for omega's sake: 2^(x+y) as a product. -/
theorem pow_split {x y z : Nat} (h : x + y = z) : (2 : Nat) ^ x * 2 ^ y = 2 ^ z := by rw [← Nat.pow_add, h]

/-- THE CORE OF ROUNDING. 'a': the exact number is mag * 2^a units of 2^-(1074+P). 'e = E + P': the last kept digit's place in the same units. -/
theorem nearest_core (neg : Bool) (mag : Nat) (place : Int) (P a : Nat) (hm : mag ≠ 0) (ha : place + 1074 + P = a) :
    ∃ kept E : Nat, double.nearest neg mag place = double.word neg (min (E * 4503599627370496 + kept) 9218868437227405312) ∧ kept ≤ 9007199254740992 ∧ (kept < 4503599627370496 → E = 0) ∧
      2 * (kept * 2 ^ (E + P)) ≤ 2 * (mag * 2 ^ a) + 2 ^ (E + P) ∧ 2 * (mag * 2 ^ a) ≤ 2 * (kept * 2 ^ (E + P)) + 2 ^ (E + P) ∧
      mag * 2 ^ a < 9007199254740992 * 2 ^ (E + P) ∧ (E = 0 ∨ 4503599627370496 * 2 ^ (E + P) ≤ mag * 2 ^ a) := by
  unfold Format.nearest
  rw [if_neg hm]
  simp only [least, binade_eq, inf_eq, frac_eq]
  have hlo : 2 ^ mag.log2 ≤ mag := Nat.log2_self_le hm
  have hhi : mag < 2 ^ (mag.log2 + 1) := Nat.lt_log2_self
  generalize mag.log2 = L at *
  obtain ⟨last, hlast⟩ : ∃ l, l = max (place + (L : Int) - ((52 : Nat) : Int)) (-1074) := ⟨_, rfl⟩
  rw [← hlast]
  obtain ⟨E, hE⟩ : ∃ E : Nat, last + 1074 = E := Int.eq_ofNat_of_zero_le (by omega)
  have e1 : (last - -1074).toNat = E := by omega
  rw [e1]
  have hd : (last - place).toNat = (E + P) - a := by omega
  have hsft : (place - last).toNat = a - (E + P) := by omega
  rw [hd, hsft, Nat.shiftLeft_eq]
  obtain ⟨c1, c2⟩ := cut_near neg (mag * 2 ^ (a - (E + P))) ((E + P) - a)
  generalize Toward.even.cut neg (mag * 2 ^ (a - (E + P))) ((E + P) - a) = kept at *
  -- to the common units
  have m1 : (2 : Nat) ^ ((E + P) - a) * 2 ^ min a (E + P) = 2 ^ (E + P) := pow_split (by omega)
  have m2 : (2 : Nat) ^ (a - (E + P)) * 2 ^ min a (E + P) = 2 ^ a := pow_split (by omega)
  have d1 := Nat.mul_le_mul_right (2 ^ min a (E + P)) c1
  have d2 := Nat.mul_le_mul_right (2 ^ min a (E + P)) c2
  rw [Nat.add_mul, Nat.mul_assoc, Nat.mul_assoc, Nat.mul_assoc, Nat.mul_assoc, m1, m2] at d1
  rw [Nat.add_mul, Nat.mul_assoc, Nat.mul_assoc, Nat.mul_assoc, Nat.mul_assoc, m1, m2] at d2
  -- the range
  have u1 : mag * 2 ^ a < 2 ^ (L + 1) * 2 ^ a := Nat.mul_lt_mul_of_pos_right hhi (Nat.two_pow_pos _)
  have u2 : (2 : Nat) ^ (L + 1) * 2 ^ a = 2 ^ (L + 1 + a) := pow_split rfl
  have u3 : (2 : Nat) ^ (L + 1 + a) ≤ 2 ^ (53 + (E + P)) := Nat.pow_le_pow_right (by decide) (by omega)
  have u4 : (2 : Nat) ^ (53 + (E + P)) = 9007199254740992 * 2 ^ (E + P) := by rw [Nat.pow_add]
  have up : mag * 2 ^ a < 9007199254740992 * 2 ^ (E + P) := by omega
  have low : E = 0 ∨ 4503599627370496 * 2 ^ (E + P) ≤ mag * 2 ^ a := by
    by_cases c : E = 0
    · exact .inl c
    · right
      have l1 : 2 ^ L * 2 ^ a ≤ mag * 2 ^ a := Nat.mul_le_mul_right _ hlo
      have l2 : (2 : Nat) ^ L * 2 ^ a = 2 ^ (52 + (E + P)) := pow_split (by omega)
      have l3 : (2 : Nat) ^ (52 + (E + P)) = 4503599627370496 * 2 ^ (E + P) := by rw [Nat.pow_add]
      omega
  have hp : 0 < 2 ^ (E + P) := Nat.two_pow_pos _
  refine ⟨kept, E, rfl, ?_, ?_, d1, d2, up, low⟩
  all_goals generalize hW : 2 ^ (E + P) = W at *
  all_goals generalize mag * 2 ^ a = Q at *
  · -- kept ≤ 2^53
    have h := Nat.lt_of_mul_lt_mul_right (a := W) (b := 2 * kept) (c := 2 * 9007199254740992 + 1) (by
      have e : 2 * kept * W = 2 * (kept * W) := Nat.mul_assoc ..
      have e2 : (2 * 9007199254740992 + 1) * W = 2 * (9007199254740992 * W) + W := by rw [Nat.add_mul, Nat.mul_assoc, Nat.one_mul]
      omega)
    omega
  · intro hk
    rcases low with h | h
    · exact h
    · exfalso
      have h2 : kept * W ≤ 4503599627370495 * W := Nat.mul_le_mul_right _ (by omega)
      omega

/-- 2^1023, in units of 2^-(1074+P). -/
def cap (P : Nat) : Nat := 2 ^ (2097 + P)
theorem cap_gt {x k P : Nat} (h : x ≤ 2 ^ k) (hk : k < 2097 + P) : x < cap P :=
  Nat.lt_of_le_of_lt h (Nat.pow_lt_pow_right (by decide) hk)

theorem mul_cap {n c k P : Nat} (h : n ≤ 2 ^ c) (hk : c + k < 2097 + P) : n * 2 ^ k < cap P :=
  cap_gt (k := c + k) (by rw [Nat.pow_add]; exact Nat.mul_le_mul_right _ h) hk
theorem exp_le_of_cap {E P : Nat} (h : 4503599627370496 * 2 ^ (E + P) < cap P) : E ≤ 2044 := by
  have h4 : (4503599627370496 : Nat) * 2 ^ (E + P) = 2 ^ (52 + (E + P)) := by rw [show (4503599627370496 : Nat) = 2 ^ 52 from rfl, ← Nat.pow_add]
  rw [h4] at h
  have := (Nat.pow_lt_pow_iff_right (a := 2) (by decide)).1 h
  omega

def sg (neg : Bool) : Int := if neg then -1 else 1

theorem nearest_zero (neg : Bool) (place : Int) : double.nearest neg 0 place = double.word neg 0 := by
  unfold Format.nearest; rw [if_pos rfl]

/-- ROUNDING, BELOW THE GREATEST BINADE: finite; the magnitude R is off by a part in 2^53, or by half a unit. -/
theorem round_small (neg : Bool) (mag : Nat) (place : Int) (P a : Nat) (ha : place + 1074 + P = a) (hq : mag * 2 ^ a < cap P) :
    ∃ R : Nat, Fnt (double.nearest neg mag place) ∧ V (double.nearest neg mag place) = sg neg * (R : Int) ∧
      9007199254740992 * (R * 2 ^ P) ≤ 9007199254740992 * (mag * 2 ^ a) + (mag * 2 ^ a + 4503599627370496 * 2 ^ P) ∧
      9007199254740992 * (mag * 2 ^ a) ≤ 9007199254740992 * (R * 2 ^ P) + (mag * 2 ^ a + 4503599627370496 * 2 ^ P) ∧
      (P = 0 → 9007199254740992 * R ≤ 9007199254740993 * (mag * 2 ^ a) ∧ 9007199254740991 * (mag * 2 ^ a) ≤ 9007199254740992 * R) := by
  by_cases hm : mag = 0
  · subst hm
    rw [nearest_zero]
    obtain ⟨h1, h2⟩ := V_word neg 0 (by decide)
    refine ⟨0, h1, ?_, ?_, ?_, ?_⟩
    · rw [h2]; unfold sg; rfl
    · simp
    · simp
    · intro _; simp
  · obtain ⟨kept, E, e, k1, k2, n1, n2, up, low⟩ := nearest_core neg mag place P a hm ha
    have hE : E ≤ 2044 := by
      rcases low with h | h
      · omega
      · have h3 : 4503599627370496 * 2 ^ (E + P) < 2 ^ (2097 + P) := Nat.lt_of_le_of_lt h hq
        have h4 : (4503599627370496 : Nat) * 2 ^ (E + P) = 2 ^ (52 + (E + P)) := by rw [show (4503599627370496 : Nat) = 2 ^ 52 from rfl, ← Nat.pow_add]
        rw [h4] at h3
        have := (Nat.pow_lt_pow_iff_right (a := 2) (by decide)).1 h3
        omega
    have hr : E * 4503599627370496 + kept < 9218868437227405312 := by omega
    rw [Nat.min_eq_left (by omega)] at e
    obtain ⟨h1, h2⟩ := V_word neg _ hr
    rw [rv_kept E kept k1 k2] at h2
    have e3 : kept * 2 ^ E * 2 ^ P = kept * 2 ^ (E + P) := by rw [Nat.mul_assoc, ← Nat.pow_add]
    refine ⟨kept * 2 ^ E, by rw [e]; exact h1, by rw [e, h2]; rfl, ?_, ?_, ?_⟩
    · rw [e3]
      rcases low with h | h
      · subst h; simp only [Nat.zero_add] at *; omega
      · omega
    · rw [e3]
      rcases low with h | h
      · subst h; simp only [Nat.zero_add] at *; omega
      · omega
    · intro hP
      subst hP
      simp only [Nat.add_zero, Nat.pow_zero, Nat.mul_one] at *
      rcases low with h | h
      · subst h; simp only [Nat.pow_zero, Nat.mul_one] at *; omega
      · omega

theorem sg_natAbs (z : Int) (b : Bool) (hz : z = 0 ∨ b = decide (z < 0)) : sg b * (z.natAbs : Int) = z := by
  rcases hz with h | h
  · subst h; simp
  · subst h
    unfold sg
    by_cases c : z < 0
    · simp [c]; omega
    · simp [c]; omega

theorem pow_cast (k : Nat) : (((2 : Nat) ^ k : Nat) : Int) = (2 : Int) ^ k := by rw [Int.natCast_pow]; rfl

/-- A SUM. -/
theorem add_spec {x y : Nat} (hx : Fnt x) (hy : Fnt y) (hb : (V x + V y).natAbs < cap 0) :
    ∃ r, double.add x y = some r ∧ Fnt r ∧ 9007199254740992 * ((V r - (V x + V y)).natAbs : Int) ≤ ((V x + V y).natAbs : Int) := by
  obtain ⟨s, m, i, ex⟩ := hx
  obtain ⟨t, n, j, ey⟩ := hy
  have ri := read_num ex
  have rj := read_num ey
  have vx := V_of ex
  have vy := V_of ey
  unfold Format.add
  rw [ex, ey]
  simp only [Datum.sum, Option.map_some, Format.write]
  refine ⟨_, rfl, ?_⟩
  obtain ⟨bs, hbs⟩ : ∃ b, b = min i j := ⟨_, rfl⟩
  rw [← hbs]
  obtain ⟨a, ha⟩ : ∃ a : Nat, bs + 1074 + ((0 : Nat) : Int) = a := Int.eq_ofNat_of_zero_le (by omega)
  obtain ⟨total, ht⟩ : ∃ z, z = signed s m (i - bs).toNat + signed t n (j - bs).toNat := ⟨_, rfl⟩
  rw [← ht]
  have hsum : V x + V y = total * (2 : Int) ^ a := by
    rw [ht, signed_eq, signed_eq, Int.add_mul, vx, vy, ← pow_cast]
    have p1 : m * 2 ^ (i - bs).toNat * 2 ^ a = m * 2 ^ (i + 1074).toNat := by rw [Nat.mul_assoc, pow_split (z := (i + 1074).toNat) (by omega)]
    have p2 : n * 2 ^ (j - bs).toNat * 2 ^ a = n * 2 ^ (j + 1074).toNat := by rw [Nat.mul_assoc, pow_split (z := (j + 1074).toNat) (by omega)]
    rw [Int.mul_assoc, Int.mul_assoc, ← Int.natCast_mul, ← Int.natCast_mul, p1, p2]
  have hmag : total.natAbs * 2 ^ a = (V x + V y).natAbs := by
    rw [hsum, Int.natAbs_mul, ← pow_cast, Int.natAbs_natCast]
  obtain ⟨R, hf, hv, _, _, h0⟩ := round_small (if total = 0 then s && t else decide (total < 0)) total.natAbs bs 0 a ha (by rw [hmag]; exact hb)
  obtain ⟨h1, h2⟩ := h0 rfl
  refine ⟨hf, ?_⟩
  rw [hv]
  rw [hmag] at h1 h2
  by_cases hz : total = 0
  · have : V x + V y = 0 := by rw [hsum, hz]; simp
    rw [this] at h1 h2 ⊢
    have hR : R = 0 := by simp at h1; omega
    subst hR; simp
  · rw [if_neg hz]
    have hsign : decide (total < 0) = decide (V x + V y < 0) := by
      rw [hsum]
      have hp : (0 : Int) < 2 ^ a := by rw [← pow_cast]; exact Int.natCast_pos.2 (Nat.two_pow_pos _)
      by_cases c : total < 0
      · have := Int.mul_neg_of_neg_of_pos c hp; simp [c, this]
      · have := Int.mul_nonneg (a := total) (b := 2 ^ a) (by omega) (by omega)
        have c2 : ¬ total * 2 ^ a < 0 := by omega
        simp [c, c2]
    rw [hsign]
    generalize V x + V y = S at *
    unfold sg
    by_cases c : S < 0
    · simp only [c, decide_true, if_true]; omega
    · simp only [c, decide_false]
      have : (if false = true then (-1 : Int) else 1) = 1 := rfl
      rw [this]; omega

/-- The other zero, the other sign. -/
theorem read_opposite (d : Datum) (s : Bool) (m : Nat) (i : Int) (h : d = .number s m i) : d.opposite = .number (!s) m i := by subst h; rfl

/-- A DIFFERENCE. -/
theorem sub_spec {x y : Nat} (hx : Fnt x) (hy : Fnt y) (hb : (V x - V y).natAbs < cap 0) :
    ∃ r, double.sub x y = some r ∧ Fnt r ∧ 9007199254740992 * ((V r - (V x - V y)).natAbs : Int) ≤ ((V x - V y).natAbs : Int) := by
  obtain ⟨s, m, i, ex⟩ := hx
  obtain ⟨t, n, j, ey⟩ := hy
  have ri := read_num ex
  have rj := read_num ey
  have vx := V_of ex
  have vy := V_of ey
  unfold Format.sub
  rw [ex, ey]
  simp only [Datum.opposite, Datum.sum, Option.map_some, Format.write]
  refine ⟨_, rfl, ?_⟩
  obtain ⟨bs, hbs⟩ : ∃ b, b = min i j := ⟨_, rfl⟩
  rw [← hbs]
  obtain ⟨a, ha⟩ : ∃ a : Nat, bs + 1074 + ((0 : Nat) : Int) = a := Int.eq_ofNat_of_zero_le (by omega)
  obtain ⟨total, ht⟩ : ∃ z, z = signed s m (i - bs).toNat + signed (!t) n (j - bs).toNat := ⟨_, rfl⟩
  rw [← ht]
  have hneg : (if (!t) = true then (-1 : Int) else 1) = -(if t = true then -1 else 1) := by cases t <;> rfl
  have hsum : V x - V y = total * (2 : Int) ^ a := by
    rw [ht, signed_eq, signed_eq, Int.add_mul, vx, vy, ← pow_cast, hneg]
    have p1 : m * 2 ^ (i - bs).toNat * 2 ^ a = m * 2 ^ (i + 1074).toNat := by rw [Nat.mul_assoc, pow_split (z := (i + 1074).toNat) (by omega)]
    have p2 : n * 2 ^ (j - bs).toNat * 2 ^ a = n * 2 ^ (j + 1074).toNat := by rw [Nat.mul_assoc, pow_split (z := (j + 1074).toNat) (by omega)]
    rw [Int.mul_assoc, Int.mul_assoc, ← Int.natCast_mul, ← Int.natCast_mul, p1, p2, Int.neg_mul, Int.sub_eq_add_neg]
  have hmag : total.natAbs * 2 ^ a = (V x - V y).natAbs := by
    rw [hsum, Int.natAbs_mul, ← pow_cast, Int.natAbs_natCast]
  obtain ⟨R, hf, hv, _, _, h0⟩ := round_small (if total = 0 then s && !t else decide (total < 0)) total.natAbs bs 0 a ha (by rw [hmag]; exact hb)
  obtain ⟨h1, h2⟩ := h0 rfl
  refine ⟨hf, ?_⟩
  rw [hv]
  rw [hmag] at h1 h2
  by_cases hz : total = 0
  · have : V x - V y = 0 := by rw [hsum, hz]; simp
    rw [this] at h1 h2 ⊢
    have hR : R = 0 := by simp at h1; omega
    subst hR; simp
  · rw [if_neg hz]
    have hsign : decide (total < 0) = decide (V x - V y < 0) := by
      rw [hsum]
      have hp : (0 : Int) < 2 ^ a := by rw [← pow_cast]; exact Int.natCast_pos.2 (Nat.two_pow_pos _)
      by_cases c : total < 0
      · have := Int.mul_neg_of_neg_of_pos c hp; simp [c, this]
      · have := Int.mul_nonneg (a := total) (b := 2 ^ a) (by omega) (by omega)
        have c2 : ¬ total * 2 ^ a < 0 := by omega
        simp [c, c2]
    rw [hsign]
    generalize V x - V y = S at *
    unfold sg
    by_cases c : S < 0
    · simp only [c, decide_true, if_true]; omega
    · simp only [c, decide_false]
      have : (if false = true then (-1 : Int) else 1) = 1 := rfl
      rw [this]; omega

/-- 2^1074: one, in units. -/
def U : Int := 2 ^ 1074

theorem sg_mul (s t : Bool) : sg (s ^^ t) = sg s * sg t := by cases s <;> cases t <;> rfl
theorem sg_abs (s : Bool) (z : Int) : (sg s * z).natAbs = z.natAbs := by cases s <;> simp [sg]

/-- A PRODUCT. -/
theorem mul_spec {x y : Nat} (hx : Fnt x) (hy : Fnt y) (hb : (V x * V y).natAbs < cap 1074) :
    ∃ r, double.mul x y = some r ∧ Fnt r ∧ 9007199254740992 * ((V r * U - V x * V y).natAbs : Int) ≤ ((V x * V y).natAbs : Int) + 4503599627370496 * U := by
  obtain ⟨s, m, i, ex⟩ := hx
  obtain ⟨t, n, j, ey⟩ := hy
  have ri := read_num ex
  have rj := read_num ey
  have vx := V_of ex
  have vy := V_of ey
  unfold Format.mul
  rw [ex, ey]
  simp only [Datum.product, Option.map_some, Format.write]
  refine ⟨_, rfl, ?_⟩
  obtain ⟨a, ha⟩ : ∃ a : Nat, i + j + 1074 + ((1074 : Nat) : Int) = a := Int.eq_ofNat_of_zero_le (by omega)
  have hprod : V x * V y = sg (s ^^ t) * ((m * n * 2 ^ a : Nat) : Int) := by
    have e : m * n * 2 ^ a = m * 2 ^ (i + 1074).toNat * (n * 2 ^ (j + 1074).toNat) := by
      rw [← pow_split (x := (i + 1074).toNat) (y := (j + 1074).toNat) (z := a) (by omega), Nat.mul_mul_mul_comm]
    rw [e, Int.natCast_mul, sg_mul, vx, vy]
    show sg s * _ * (sg t * _) = _
    generalize ((m * 2 ^ (i + 1074).toNat : Nat) : Int) = p
    generalize ((n * 2 ^ (j + 1074).toNat : Nat) : Int) = q
    rw [Int.mul_assoc, Int.mul_assoc, ← Int.mul_assoc p, Int.mul_comm p, Int.mul_assoc (sg t)]
  have hmag : m * n * 2 ^ a = (V x * V y).natAbs := by rw [hprod, sg_abs, Int.natAbs_natCast]
  obtain ⟨R, hf, hv, h1, h2, _⟩ := round_small (s ^^ t) (m * n) (i + j) 1074 a ha (by rw [hmag]; exact hb)
  refine ⟨hf, ?_⟩
  rw [hv, hprod]
  have hU : ((2 ^ 1074 : Nat) : Int) = U := pow_cast 1074
  have e : sg (s ^^ t) * (R : Int) * U - sg (s ^^ t) * ((m * n * 2 ^ a : Nat) : Int) = sg (s ^^ t) * ((R : Int) * U - ((m * n * 2 ^ a : Nat) : Int)) := by
    rw [Int.mul_sub, Int.mul_assoc]
  rw [e, sg_abs, sg_abs, Int.natAbs_natCast, ← hU]
  have h1' := Int.ofNat_le.2 h1
  have h2' := Int.ofNat_le.2 h2
  have e2 : (R : Int) * ((2 ^ 1074 : Nat) : Int) = ((R * 2 ^ 1074 : Nat) : Int) := (Int.natCast_mul _ _).symm
  rw [e2]
  generalize R * 2 ^ 1074 = A at *
  generalize m * n * 2 ^ a = B at *
  generalize (2 : Nat) ^ 1074 = C at *
  omega

theorem quo_facts (m n D : Nat) (hn : n ≠ 0) (hD : 9007199254740992 * n ≤ D) :
    ∃ mag, mag = 2 * (D / n) + (D % n != 0).toNat ∧ n * mag ≤ 2 * D + n ∧ 2 * D ≤ n * mag + n ∧ 18014398509481984 ≤ mag := by
  refine ⟨_, rfl, ?_⟩
  have hdm := Nat.div_add_mod D n
  have hml := Nat.mod_lt D (Nat.pos_of_ne_zero hn)
  have hq : 9007199254740992 ≤ D / n := (Nat.le_div_iff_mul_le (Nat.pos_of_ne_zero hn)).2 hD
  generalize D / n = q at *
  generalize D % n = r at *
  by_cases c : r = 0
  · subst c
    simp only [bne_self_eq_false, Bool.toNat_false, Nat.add_zero]
    have e : n * (2 * q) = 2 * (n * q) := Nat.mul_left_comm ..
    rw [e]; omega
  · have hb : (r != 0) = true := by simp [c]
    rw [hb]
    simp only [Bool.toNat_true]
    have e : n * (2 * q + 1) = 2 * (n * q) + n := by rw [Nat.mul_add, Nat.mul_left_comm, Nat.mul_one]
    rw [e]; omega

theorem dividend_big {m n more : Nat} (hm : m ≠ 0) (hn : n ≠ 0) (h : more = 54 + n.log2 - m.log2) : 9007199254740992 * n ≤ m * 2 ^ more := by
  have h1 : 2 ^ m.log2 ≤ m := Nat.log2_self_le hm
  have h2 : n < 2 ^ (n.log2 + 1) := Nat.lt_log2_self
  have h3 : 2 ^ m.log2 * 2 ^ more ≤ m * 2 ^ more := Nat.mul_le_mul_right _ h1
  have h4 : (2 : Nat) ^ m.log2 * 2 ^ more = 2 ^ (m.log2 + more) := pow_split rfl
  have h5 : (2 : Nat) ^ (54 + n.log2) ≤ 2 ^ (m.log2 + more) := Nat.pow_le_pow_right (by decide) (by omega)
  have h6 : (2 : Nat) ^ (54 + n.log2) = 9007199254740992 * 2 ^ (n.log2 + 1) := by
    rw [show (9007199254740992 : Nat) = 2 ^ 53 from rfl, ← Nat.pow_add]; congr 1; omega
  omega

/-- A QUOTIENT (the factor 2 in the bound: the quotient is written with one sticky digit). -/
theorem div_spec {x y : Nat} (hx : Fnt x) (hy : Fnt y) (hy0 : V y ≠ 0) (k : Nat) (hk : k + 1 ≤ 2097) (hb : (V x * U).natAbs ≤ (V y).natAbs * 2 ^ k) :
    ∃ r, double.div x y = some r ∧ Fnt r ∧ 9007199254740992 * ((V r * V y - V x * U).natAbs : Int) ≤ 2 * ((V x * U).natAbs : Int) + 4503599627370496 * ((V y).natAbs : Int) := by
  obtain ⟨s, m, i, ex⟩ := hx
  obtain ⟨t, n, j, ey⟩ := hy
  have ri := read_num ex
  have rj := read_num ey
  have vx := V_of ex
  have vy := V_of ey
  have hn : n ≠ 0 := by
    intro h; subst h; apply hy0; rw [vy]; simp
  unfold Format.div
  rw [ex, ey]
  simp only [Datum.quotient, if_neg hn, Option.map_some, Format.write, frac_eq]
  refine ⟨_, rfl, ?_⟩
  obtain ⟨more, hmore⟩ : ∃ k, k = 52 + 2 + n.log2 - m.log2 := ⟨_, rfl⟩
  rw [← hmore, Nat.shiftLeft_eq]
  have ax : ((V x).natAbs : Int) = ((m * 2 ^ (i + 1074).toNat : Nat) : Int) := by rw [vx]; exact congrArg _ ((sg_abs s _).trans (Int.natAbs_natCast _))
  have ay : ((V y).natAbs : Int) = ((n * 2 ^ (j + 1074).toNat : Nat) : Int) := by rw [vy]; exact congrArg _ ((sg_abs t _).trans (Int.natAbs_natCast _))
  have hUn : U = ((2 ^ 1074 : Nat) : Int) := (pow_cast 1074).symm
  have hUabs : U.natAbs = 2 ^ 1074 := by rw [hUn, Int.natAbs_natCast]
  have axn : (V x).natAbs = m * 2 ^ (i + 1074).toNat := by omega
  have ayn : (V y).natAbs = n * 2 ^ (j + 1074).toNat := by omega
  by_cases hm : m = 0
  · -- a zero
    subst hm
    have hv0 : V x = 0 := by rw [vx]; simp
    simp only [Nat.zero_mul, Nat.zero_div, Nat.zero_mod, Nat.mul_zero]
    have e0 : ((0 : Nat) != 0).toNat = 0 := rfl
    rw [e0]
    simp only [Nat.add_zero]
    rw [nearest_zero]
    obtain ⟨h1, h2⟩ := V_word (s ^^ t) 0 (by decide)
    refine ⟨h1, ?_⟩
    have h3 : V (double.word (s ^^ t) 0) = 0 := by rw [h2]; simp [rv]
    rw [h3, hv0]; simp
    omega
  · have hdb := dividend_big hm hn (more := more) (by omega)
    obtain ⟨mag, hmag, q1, q2, q3⟩ := quo_facts m n (m * 2 ^ more) hn hdb
    rw [← hmag]
    -- the units
    obtain ⟨P, hP⟩ : ∃ P : Nat, (P : Int) = j + 1074 + more + 1 := ⟨(j + 1074 + more + 1).toNat, by omega⟩
    obtain ⟨a, ha'⟩ : ∃ a : Nat, (a : Int) = i + 1074 + 1074 := ⟨(i + 1074 + 1074).toNat, by omega⟩
    have ha : i - j - (more : Int) - 1 + 1074 + (P : Int) = a := by omega
    -- 2 * dividend * 2^a = |x| * U * D ; n * 2^P = |y| * D
    have eD : 2 * (m * 2 ^ more) * 2 ^ a = (m * 2 ^ (i + 1074).toNat) * 2 ^ 1074 * 2 ^ (more + 1) := by
      have : (2 : Nat) * (m * 2 ^ more) * 2 ^ a = m * (2 ^ (more + 1) * 2 ^ a) := by rw [Nat.pow_succ]; simp only [Nat.mul_assoc, Nat.mul_comm, Nat.mul_left_comm]
      rw [this, pow_split (z := more + 1 + a) rfl]
      rw [Nat.mul_assoc, Nat.mul_assoc, pow_split (z := 1074 + (more + 1)) rfl, pow_split (z := more + 1 + a) (by omega)]
    have eP : n * 2 ^ P = (n * 2 ^ (j + 1074).toNat) * 2 ^ (more + 1) := by
      rw [Nat.mul_assoc, pow_split (z := P) (by omega)]
    have ax2 : (V x * U).natAbs = m * 2 ^ (i + 1074).toNat * 2 ^ 1074 := by rw [Int.natAbs_mul, axn, hUabs]
    rw [← ax2] at eD
    rw [← ayn] at eP
    -- no overflow
    have n1 : n * (mag * 2 ^ a) ≤ 2 * (m * 2 ^ more) * 2 ^ a + n * 2 ^ a := by
      have := Nat.mul_le_mul_right (2 ^ a) q1
      rw [Nat.add_mul, Nat.mul_assoc] at this; exact this
    have n2 : 2 * (m * 2 ^ more) * 2 ^ a ≤ n * (mag * 2 ^ a) + n * 2 ^ a := by
      have := Nat.mul_le_mul_right (2 ^ a) q2
      rw [Nat.add_mul, Nat.mul_assoc n] at this; exact this
    have n3 : 18014398509481984 * (n * 2 ^ a) ≤ n * (mag * 2 ^ a) := by
      have h := Nat.mul_le_mul_right (n * 2 ^ a) q3
      have e : mag * (n * 2 ^ a) = n * (mag * 2 ^ a) := Nat.mul_left_comm ..
      omega
    have hD0 : 0 < 2 ^ (more + 1) := Nat.two_pow_pos _
    have hover : mag * 2 ^ a < cap P := by
      unfold cap
      apply Nat.lt_of_mul_lt_mul_left (a := n)
      have h1 : (V x * U).natAbs * 2 ^ (more + 1) ≤ (V y).natAbs * 2 ^ k * 2 ^ (more + 1) := Nat.mul_le_mul_right _ hb
      have h2 : (V y).natAbs * 2 ^ k * 2 ^ (more + 1) = n * 2 ^ P * 2 ^ k := by rw [eP]; simp only [Nat.mul_assoc, Nat.mul_comm, Nat.mul_left_comm]
      have h3 : n * 2 ^ P * 2 ^ k * 2 ≤ n * 2 ^ (2097 + P) := by
        have : n * 2 ^ P * 2 ^ k * 2 = n * 2 ^ (P + k + 1) := by rw [Nat.pow_succ, Nat.pow_add]; simp only [Nat.mul_assoc]
        rw [this]
        exact Nat.mul_le_mul_left _ (Nat.pow_le_pow_right (by decide) (by omega))
      have h4 : 0 < n * 2 ^ a := Nat.mul_pos (Nat.pos_of_ne_zero hn) (Nat.two_pow_pos _)
      omega
    obtain ⟨R, hf, hv, h1, h2, _⟩ := round_small (s ^^ t) mag (i - j - (more : Int) - 1) P a ha hover
    refine ⟨hf, ?_⟩
    -- times n
    have m1 := Nat.mul_le_mul_left n h1
    have m2 := Nat.mul_le_mul_left n h2
    have eR : n * (R * 2 ^ P) = R * (V y).natAbs * 2 ^ (more + 1) := by rw [Nat.mul_left_comm, eP, Nat.mul_assoc]
    have k1 : 9007199254740992 * (R * (V y).natAbs * 2 ^ (more + 1)) ≤ 9007199254740992 * ((V x * U).natAbs * 2 ^ (more + 1)) + (2 * ((V x * U).natAbs * 2 ^ (more + 1)) + 4503599627370496 * ((V y).natAbs * 2 ^ (more + 1))) := by
      have e1 : n * (9007199254740992 * (R * 2 ^ P)) = 9007199254740992 * (n * (R * 2 ^ P)) := Nat.mul_left_comm ..
      have e2 : n * (9007199254740992 * (mag * 2 ^ a) + (mag * 2 ^ a + 4503599627370496 * 2 ^ P)) = 9007199254740992 * (n * (mag * 2 ^ a)) + (n * (mag * 2 ^ a) + 4503599627370496 * (n * 2 ^ P)) := by
        simp only [Nat.mul_add, Nat.mul_left_comm]
      omega
    have k2 : 9007199254740992 * ((V x * U).natAbs * 2 ^ (more + 1)) ≤ 9007199254740992 * (R * (V y).natAbs * 2 ^ (more + 1)) + (2 * ((V x * U).natAbs * 2 ^ (more + 1)) + 4503599627370496 * ((V y).natAbs * 2 ^ (more + 1))) := by
      have e1 : n * (9007199254740992 * (R * 2 ^ P) + (mag * 2 ^ a + 4503599627370496 * 2 ^ P)) = 9007199254740992 * (n * (R * 2 ^ P)) + (n * (mag * 2 ^ a) + 4503599627370496 * (n * 2 ^ P)) := by
        simp only [Nat.mul_add, Nat.mul_left_comm]
      have e2 : n * (9007199254740992 * (mag * 2 ^ a)) = 9007199254740992 * (n * (mag * 2 ^ a)) := Nat.mul_left_comm ..
      omega
    -- strike the common factor
    have c1 : 9007199254740992 * (R * (V y).natAbs) ≤ 9007199254740992 * (V x * U).natAbs + (2 * (V x * U).natAbs + 4503599627370496 * (V y).natAbs) := by
      apply Nat.le_of_mul_le_mul_right (c := 2 ^ (more + 1)) _ hD0
      simp only [Nat.add_mul, Nat.mul_assoc] at k1 ⊢
      exact k1
    have c2 : 9007199254740992 * (V x * U).natAbs ≤ 9007199254740992 * (R * (V y).natAbs) + (2 * (V x * U).natAbs + 4503599627370496 * (V y).natAbs) := by
      apply Nat.le_of_mul_le_mul_right (c := 2 ^ (more + 1)) _ hD0
      simp only [Nat.add_mul, Nat.mul_assoc] at k2 ⊢
      exact k2
    -- the signs
    have hsx : V x * U = sg s * ((V x * U).natAbs : Int) := by
      rw [ax2, Int.natCast_mul, ← hUn, vx, ← Int.mul_assoc]; rfl
    have hsy : V y = sg t * ((V y).natAbs : Int) := by rw [ay]; exact vy
    have hrv : V (double.nearest (s ^^ t) mag (i - j - (more : Int) - 1)) * V y = sg s * ((R * (V y).natAbs : Nat) : Int) := by
      rw [hv]
      generalize hY : (V y).natAbs = Y at *
      rw [hsy, sg_mul, Int.natCast_mul]
      have : sg t * sg t = 1 := by cases t <;> rfl
      calc sg s * sg t * (R : Int) * (sg t * (Y : Int)) = sg s * (R : Int) * (Y : Int) * (sg t * sg t) := by simp only [Int.mul_assoc, Int.mul_comm, Int.mul_left_comm]
        _ = sg s * ((R : Int) * (Y : Int)) := by rw [this, Int.mul_one, Int.mul_assoc]
    rw [hrv, hsx, ← Int.mul_sub, sg_abs, sg_abs, Int.natAbs_natCast]
    generalize R * (V y).natAbs = A at *
    generalize (V x * U).natAbs = B at *
    generalize (V y).natAbs = C at *
    omega

/-- THE ORDER of two finite words is that of their values. -/
theorem order_spec {x y : Nat} (hx : Fnt x) (hy : Fnt y) : double.order x y = some (compare (V x) (V y)) := by
  obtain ⟨s, m, i, ex⟩ := hx
  obtain ⟨t, n, j, ey⟩ := hy
  have ri := read_num ex
  have rj := read_num ey
  have vx := V_of ex
  have vy := V_of ey
  unfold Format.order
  rw [ex, ey]
  simp only [Datum.order, Option.some.injEq]
  obtain ⟨bs, hbs⟩ : ∃ b, b = min i j := ⟨_, rfl⟩
  rw [← hbs]
  obtain ⟨a, ha⟩ : ∃ a : Nat, bs + 1074 = a := Int.eq_ofNat_of_zero_le (by omega)
  have p1 : m * 2 ^ (i - bs).toNat * 2 ^ a = m * 2 ^ (i + 1074).toNat := by rw [Nat.mul_assoc, pow_split (z := (i + 1074).toNat) (by omega)]
  have p2 : n * 2 ^ (j - bs).toNat * 2 ^ a = n * 2 ^ (j + 1074).toNat := by rw [Nat.mul_assoc, pow_split (z := (j + 1074).toNat) (by omega)]
  have hp : (0 : Int) < 2 ^ a := by rw [← pow_cast]; exact Int.natCast_pos.2 (Nat.two_pow_pos _)
  have e1 : V x = signed s m (i - bs).toNat * 2 ^ a := by rw [vx, signed_eq, Int.mul_assoc, ← pow_cast, ← Int.natCast_mul, p1]
  have e2 : V y = signed t n (j - bs).toNat * 2 ^ a := by rw [vy, signed_eq, Int.mul_assoc, ← pow_cast, ← Int.natCast_mul, p2]
  rw [e1, e2]
  generalize signed s m (i - bs).toNat = A
  generalize signed t n (j - bs).toNat = B
  generalize (2 : Int) ^ a = D at *
  rcases Int.lt_trichotomy A B with h | h | h
  · have h' : A * D < B * D := Int.mul_lt_mul_of_pos_right h hp
    rw [Int.compare_eq_lt.2 h, Int.compare_eq_lt.2 h']
  · subst h; rw [Int.compare_eq_eq.2 rfl, Int.compare_eq_eq.2 rfl]
  · have h' : B * D < A * D := Int.mul_lt_mul_of_pos_right h hp
    rw [Int.compare_eq_gt.2 h, Int.compare_eq_gt.2 h']

/-- A number with at most 53 digits, no digit below 2^-1074, is written as it is. -/
theorem nearest_exact (neg : Bool) (mag : Nat) (place : Int) (a : Nat) (hm : mag < 9007199254740992) (ha : place + 1074 = a) (hq : mag * 2 ^ a < cap 0) :
    Fnt (double.nearest neg mag place) ∧ V (double.nearest neg mag place) = sg neg * ((mag * 2 ^ a : Nat) : Int) := by
  by_cases h0 : mag = 0
  · subst h0
    rw [nearest_zero]
    obtain ⟨h1, h2⟩ := V_word neg 0 (by decide)
    exact ⟨h1, by rw [h2]; simp [rv]⟩
  · obtain ⟨kept, E, e, k1, k2, n1, n2, up, low⟩ := nearest_core neg mag place 0 a h0 (by omega)
    simp only [Nat.add_zero] at *
    have hE : E ≤ a := by
      rcases low with h | h
      · omega
      · have h3 : 4503599627370496 * 2 ^ E < 9007199254740992 * 2 ^ a := Nat.lt_of_le_of_lt h (Nat.mul_lt_mul_of_pos_right hm (Nat.two_pow_pos _))
        have h4 : 2 ^ E < 2 ^ (a + 1) := by rw [Nat.pow_succ]; omega
        have := (Nat.pow_lt_pow_iff_right (a := 2) (by decide)).1 h4
        omega
    have hE2 : E ≤ 2044 := by
      rcases low with h | h
      · omega
      · exact exp_le_of_cap (P := 0) (Nat.lt_of_le_of_lt h hq)
    have hs : mag * 2 ^ a = mag * 2 ^ (a - E) * 2 ^ E := by rw [Nat.mul_assoc, pow_split (z := a) (by omega)]
    rw [hs] at n1 n2
    have hk : kept = mag * 2 ^ (a - E) := by
      have hp : 0 < 2 ^ E := Nat.two_pow_pos _
      generalize 2 ^ E = W at *
      generalize mag * 2 ^ (a - E) = M at *
      have a1 : kept ≤ M := by
        apply Nat.le_of_lt_succ
        apply Nat.lt_of_mul_lt_mul_right (a := W)
        rw [Nat.succ_mul]; omega
      have a2 : M ≤ kept := by
        apply Nat.le_of_lt_succ
        apply Nat.lt_of_mul_lt_mul_right (a := W)
        rw [Nat.succ_mul]; omega
      omega
    have hr : E * 4503599627370496 + kept < 9218868437227405312 := by omega
    rw [Nat.min_eq_left (by omega)] at e
    obtain ⟨h1, h2⟩ := V_word neg _ hr
    rw [rv_kept E kept k1 k2, hk, ← hs] at h2
    exact ⟨by rw [e]; exact h1, by rw [e, hk, h2]; rfl⟩

/-- 'float64(n)' of a number below 2^53. -/
theorem ofNat_exact (n : Nat) (hn : n < 9007199254740992) : Fnt (double.nearest false n 0) ∧ V (double.nearest false n 0) = (n : Int) * U := by
  obtain ⟨h1, h2⟩ := nearest_exact false n 0 1074 hn rfl (@mul_cap n 53 1074 0 (by omega) (by decide))
  refine ⟨h1, ?_⟩
  have hU : ((2 ^ 1074 : Nat) : Int) = U := pow_cast 1074
  rw [h2, Int.natCast_mul, hU]
  exact Int.one_mul _

/-- 'float64(n)' of a number below 2^65. -/
theorem ofNat_near (n : Nat) (hn : n < 36893488147419103232) : Fnt (double.nearest false n 0) ∧ 9007199254740992 * V (double.nearest false n 0) ≤ 9007199254740993 * ((n : Int) * U) ∧ 9007199254740991 * ((n : Int) * U) ≤ 9007199254740992 * V (double.nearest false n 0) := by
  obtain ⟨R, h1, h2, _, _, h0⟩ := round_small false n 0 0 1074 rfl (@mul_cap n 65 1074 0 (by omega) (by decide))
  obtain ⟨a1, a2⟩ := h0 rfl
  refine ⟨h1, ?_⟩
  have e : sg false * (R : Int) = R := by simp [sg]
  rw [h2, e]
  have a1' := Int.ofNat_le.2 a1
  have a2' := Int.ofNat_le.2 a2
  have eu : ((n * 2 ^ 1074 : Nat) : Int) = (n : Int) * U := by
    have hU : ((2 ^ 1074 : Nat) : Int) = U := pow_cast 1074
    rw [Int.natCast_mul, hU]
  rw [← eu]
  generalize n * 2 ^ 1074 = A at *
  omega

theorem fin_zero : Fnt 0 ∧ V 0 = 0 := by
  have h : double.read 0 = .number false 0 (-1074) := by decide
  exact ⟨⟨_, _, _, h⟩, by rw [V_of h]; simp⟩

theorem U_spec : ∃ k : Nat, k = 1074 ∧ U = ((2 ^ k : Nat) : Int) := by
  obtain ⟨k, hk⟩ : ∃ k : Nat, k = 1074 := ⟨_, rfl⟩
  refine ⟨k, hk, ?_⟩
  rw [pow_cast, hk]; rfl
end Fl
end Go.Proofs.Qxb6601435aMods
