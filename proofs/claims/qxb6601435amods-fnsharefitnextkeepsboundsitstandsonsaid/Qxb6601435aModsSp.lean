/- ShareFit: what one step of the climb gives. Plain: no Go in sight. -/
import Derived.Test.Qxb6601435aModsSa
namespace Go.Proofs.Qxb6601435aMods
namespace Fl
open Ieee
set_option linter.unusedVariables false
set_option linter.unusedSimpArgs false

theorem up_of {x : Nat} {s : Bool} {m : Nat} {i : Int} (e : double.read x = .number s m i) (c : Nat) (h : i + 53 ≤ (c : Int)) : Le c (V x) := by
  obtain ⟨k, hk, eU⟩ := U_pw
  have r := read_num e
  unfold Le
  rw [V_of e, eU, pw_mul (c := c + k) rfl]
  have h1 : ((if s = true then (-1 : Int) else 1) * ((m * 2 ^ (i + 1074).toNat : Nat) : Int)).natAbs = m * 2 ^ (i + 1074).toNat := (sg_abs s _).trans (Int.natAbs_natCast _)
  rw [h1]
  unfold pw
  apply Int.ofNat_le.2
  have h2 : m * 2 ^ (i + 1074).toNat ≤ 2 ^ 53 * 2 ^ (i + 1074).toNat := Nat.mul_le_mul_right _ (by omega)
  have h3 : (2 : Nat) ^ 53 * 2 ^ (i + 1074).toNat = 2 ^ (53 + (i + 1074).toNat) := pow_split rfl
  have h4 : (2 : Nat) ^ (53 + (i + 1074).toNat) ≤ 2 ^ (c + k) := Nat.pow_le_pow_right (by decide) (by omega)
  omega

theorem low_of {x : Nat} {s : Bool} {m : Nat} {i : Int} (e : double.read x = .number s m i) (b : Nat) (hm : 4503599627370496 ≤ m) (h : 0 ≤ i + 52 + (b : Int)) : U ≤ pw b * ((V x).natAbs : Int) := by
  obtain ⟨k, hk, eU⟩ := U_pw
  have r := read_num e
  rw [V_of e, eU]
  have h1 : ((if s = true then (-1 : Int) else 1) * ((m * 2 ^ (i + 1074).toNat : Nat) : Int)).natAbs = m * 2 ^ (i + 1074).toNat := (sg_abs s _).trans (Int.natAbs_natCast _)
  rw [h1]
  unfold pw
  rw [← Int.natCast_mul]
  apply Int.ofNat_le.2
  have h2 : 2 ^ 52 * 2 ^ (i + 1074).toNat ≤ m * 2 ^ (i + 1074).toNat := Nat.mul_le_mul_right _ hm
  have h3 : (2 : Nat) ^ 52 * 2 ^ (i + 1074).toNat = 2 ^ (52 + (i + 1074).toNat) := pow_split rfl
  have h4 : (2 : Nat) ^ b * 2 ^ (52 + (i + 1074).toNat) = 2 ^ (b + (52 + (i + 1074).toNat)) := pow_split rfl
  have h5 : (2 : Nat) ^ k ≤ 2 ^ (b + (52 + (i + 1074).toNat)) := Nat.pow_le_pow_right (by decide) (by omega)
  have h6 := Nat.mul_le_mul_left (2 ^ b) h2
  rw [h3, h4] at h6
  omega

/-! ### The constants -/
theorem rd_one : double.read 4607182418800017408 = .number false 4503599627370496 (-52) := by decide
theorem rd_n60 : double.read 13857013103465594880 = .number true 8444249301319680 (-47) := by decide
theorem rd_c9 : ∃ m, double.read 4472406533629990549 = .number false m (-82) ∧ 4503599627370496 ≤ m := ⟨4835703278458517, by decide, by decide⟩
theorem rd_c300 : ∃ m, double.read 118622047889322841 = .number false m (-1049) ∧ 4503599627370496 ≤ m ∧ m < 9007199254740992 := ⟨6032057205060441, by decide, by decide, by decide⟩
theorem rd_p60 : ∃ m, double.read 5504500338876674884 = .number false m 147 := ⟨5605193857299268, by decide⟩
theorem rd_q60 : ∃ m, double.read 14727872375731450692 = .number true m 147 := ⟨5605193857299268, by decide⟩
theorem rd_e60 : ∃ m, double.read 3709195899275879974 = .number false m (-252) ∧ 4503599627370496 ≤ m := ⟨7237005577332262, by decide, by decide⟩
theorem rd_mxn : ∃ m, double.read 18442240474082181119 = .number true m 971 := ⟨9007199254740991, by decide⟩

theorem V_one : Fnt 4607182418800017408 ∧ V 4607182418800017408 = U := by
  refine ⟨⟨_, _, _, rd_one⟩, ?_⟩
  obtain ⟨k, hk, eU⟩ := U_pw
  rw [V_of rd_one, eU]
  unfold pw
  simp only [Bool.false_eq_true, if_false, Int.one_mul]
  apply congrArg
  rw [show (4503599627370496 : Nat) = 2 ^ 52 from rfl, pow_split (z := k) (by omega)]

theorem F_n60 : Fnt 13857013103465594880 := ⟨_, _, _, rd_n60⟩
theorem F_p60 : Fnt 5504500338876674884 ∧ Le 200 (V 5504500338876674884) := by
  obtain ⟨m, e⟩ := rd_p60; exact ⟨⟨_, _, _, e⟩, up_of e 200 (by decide)⟩
theorem F_q60 : Fnt 14727872375731450692 ∧ Le 200 (V 14727872375731450692) := by
  obtain ⟨m, e⟩ := rd_q60; exact ⟨⟨_, _, _, e⟩, up_of e 200 (by decide)⟩
theorem F_e60 : Fnt 3709195899275879974 ∧ 0 ≤ V 3709195899275879974 ∧ U ≤ pw 200 * V 3709195899275879974 := by
  obtain ⟨m, e, hm⟩ := rd_e60
  have h0 : 0 ≤ V 3709195899275879974 := by
    rw [V_of e]; simp only [Bool.false_eq_true, if_false, Int.one_mul]; exact Int.natCast_nonneg _
  have h1 := low_of e 200 hm (by decide)
  have h2 : ((V 3709195899275879974).natAbs : Int) = V 3709195899275879974 := by omega
  rw [h2] at h1
  exact ⟨⟨_, _, _, e⟩, h0, h1⟩
theorem F_c9 : Fnt 4472406533629990549 ∧ 0 ≤ V 4472406533629990549 ∧ Le 0 (V 4472406533629990549) ∧ U ≤ pw 30 * V 4472406533629990549 := by
  obtain ⟨m, e, hm⟩ := rd_c9
  have h0 : 0 ≤ V 4472406533629990549 := by
    rw [V_of e]; simp only [Bool.false_eq_true, if_false, Int.one_mul]; exact Int.natCast_nonneg _
  have h1 := low_of e 30 hm (by decide)
  have h2 : ((V 4472406533629990549).natAbs : Int) = V 4472406533629990549 := by omega
  rw [h2] at h1
  exact ⟨⟨_, _, _, e⟩, h0, up_of e 0 (by decide), h1⟩
/-- 1e-300: positive, below 2^78 units. -/
theorem F_c300 : Fnt 118622047889322841 ∧ 0 < V 118622047889322841 ∧ V 118622047889322841 < pw 78 := by
  obtain ⟨m, e, hm, hm2⟩ := rd_c300
  have hv : V 118622047889322841 = ((m * 2 ^ 25 : Nat) : Int) := by
    rw [V_of e]; simp only [Bool.false_eq_true, if_false, Int.one_mul]; rfl
  refine ⟨⟨_, _, _, e⟩, ?_, ?_⟩
  · rw [hv]; omega
  · rw [hv]; unfold pw
    apply Int.ofNat_lt.2
    have : (2 : Nat) ^ 78 = 9007199254740992 * 2 ^ 25 := by decide
    omega
theorem F_mxn : Fnt 18442240474082181119 := by obtain ⟨m, e⟩ := rd_mxn; exact ⟨_, _, _, e⟩

/-! ### The data -/
/-- Zero, or of a middling size. -/
def Dat (x : Nat) : Prop := Fnt x ∧ Le 200 (V x) ∧ (V x = 0 ∨ U ≤ pw 200 * ((V x).natAbs : Int))

structure Dom (most alpha beta g0 g1 i00 i01 i11 : Nat) : Prop where
  fm : Fnt most
  fa : Fnt alpha
  fb : Fnt beta
  lm : Le 200 (V most)
  la : Le 200 (V alpha)
  lb : Le 200 (V beta)
  m60 : V 13857013103465594880 ≤ V most
  am : V alpha ≤ V most
  b0 : V beta ≤ 0
  d0 : Dat g0
  d1 : Dat g1
  dA : Dat i00
  dB : Dat i01
  dC : Dat i11
  p0 : 0 ≤ V i00
  p1 : 0 ≤ V i11

/-- A product of two that are not too small is not too small. -/
theorem mul_low {x y r a b : Nat} (h : ∀ L : Int, 2 * U ≤ 2 * (L * U) → 2 * (L * U) ≤ V x * V y → L ≤ V r) (hx : U ≤ pw a * V x) (hy : U ≤ pw b * V y) (x0 : 0 ≤ V x) (y0 : 0 ≤ V y) (hab : a + b ≤ 1000) :
    U ≤ pw (a + b + 1) * V r := by
  have hU := Vf.U_pos
  obtain ⟨k, hk, eU⟩ := U_pw
  obtain ⟨j, hj⟩ : ∃ j, a + b + 1 + j = k := ⟨k - (a + b + 1), by omega⟩
  have eL : pw (a + b + 1) * pw j = U := by rw [eU]; exact pw_mul hj
  have hpj := pw_pos j
  have hpab := pw_pos (a + b)
  have hL : pw j ≤ V r := by
    apply h (pw j)
    · have : 1 * U ≤ pw j * U := Int.mul_le_mul_of_nonneg_right (by omega) (by omega)
      omega
    · -- times pw (a + b)
      have h1 : U * U ≤ pw a * V x * (pw b * V y) := Int.mul_le_mul hx hy (by omega) (by have := pw_pos a; exact Int.mul_nonneg (by omega) x0)
      have h2 : pw a * V x * (pw b * V y) = pw (a + b) * (V x * V y) := by
        rw [← pw_mul (a := a) (b := b) rfl]; simp only [Int.mul_assoc, Int.mul_comm, Int.mul_left_comm]
      have h3 : pw (a + b) * (2 * (pw j * U)) = U * U := by
        have : pw (a + b) * (2 * (pw j * U)) = 2 * pw (a + b) * pw j * U := by simp only [Int.mul_assoc, Int.mul_comm, Int.mul_left_comm]
        rw [this, ← pw_succ (a := a + b) rfl, eL]
      have h4 : pw (a + b) * (2 * (pw j * U)) ≤ pw (a + b) * (V x * V y) := by rw [h3, ← h2]; exact h1
      exact Int.le_of_mul_le_mul_left h4 hpab
  have := Int.mul_le_mul_of_nonneg_left hL (show 0 ≤ pw (a + b + 1) by have := pw_pos (a + b + 1); omega)
  omega

theorem Dat.low {x : Nat} (h : Dat x) (h0 : 0 ≤ V x) (hn : V x ≠ 0) : U ≤ pw 200 * V x := by
  rcases h.2.2 with h | h
  · exact absurd h hn
  · have e : ((V x).natAbs : Int) = V x := by omega
    rw [e] at h; exact h

/-- The step where the information is regular. -/
def RegF (det g0 g1 i00 i01 i11 da db : Nat) : Prop :=
  ∃ a1 a2 a3 b1 b2 b3, double.mul i11 g0 = some a1 ∧ double.mul i01 g1 = some a2 ∧ double.sub a1 a2 = some a3 ∧ double.div a3 det = some da ∧
    double.mul i00 g1 = some b1 ∧ double.mul i01 g0 = some b2 ∧ double.sub b1 b2 = some b3 ∧ double.div b3 det = some db ∧ Fnt da ∧ Fnt db ∧ Le 850 (V da) ∧ Le 850 (V db)

theorem stage1 {most alpha beta g0 g1 i00 i01 i11 : Nat} (D : Dom most alpha beta g0 g1 i00 i01 i11) :
    ∃ p q det s1 s, double.mul i00 i11 = some p ∧ double.mul i01 i01 = some q ∧ double.sub p q = some det ∧ double.mul 4472406533629990549 i00 = some s1 ∧ double.mul s1 i11 = some s ∧
      Fnt det ∧ Fnt s ∧ (V s < V det → ∃ da db, RegF det g0 g1 i00 i01 i11 da db) := by
  obtain ⟨c1, c2, c3, c4⟩ := F_c9
  obtain ⟨fA, lA, _⟩ := D.dA
  obtain ⟨fB, lB, _⟩ := D.dB
  obtain ⟨fC, lC, _⟩ := D.dC
  obtain ⟨f0, l0, _⟩ := D.d0
  obtain ⟨f1, l1, _⟩ := D.d1
  have hA0 := D.p0
  have hC0 := D.p1
  obtain ⟨p, e1, fp, lp, sp1, sp2, _⟩ := mul_le fA fC lA lC (by decide)
  obtain ⟨q, e2, fq, lq, sq1, sq2, _⟩ := mul_le fB fB lB lB (by decide)
  obtain ⟨det, e3, fd, ld, sd1, sd2, _⟩ := sub_le fp fq lp lq (by decide)
  obtain ⟨s1, e4, fs1, ls1, ss1, _, low1⟩ := mul_le c1 fA c3 lA (by decide)
  obtain ⟨s, e5, fs, ls, ss2, _, low2⟩ := mul_le fs1 fC ls1 lC (by decide)
  refine ⟨p, q, det, s1, s, e1, e2, e3, e4, e5, fd, fs, fun hlt => ?_⟩
  have hs1 := ss1 (Int.mul_nonneg c2 hA0)
  have hs := ss2 (Int.mul_nonneg hs1 hC0)
  have hq : 0 ≤ V q := sq1 (by rcases Int.le_total 0 (V i01) with h | h
                               · exact Int.mul_nonneg h h
                               · exact Int.mul_nonneg_of_nonpos_of_nonpos h h)
  have hne : V i00 * V i11 ≠ 0 := by
    intro h
    have := sp2 (by omega)
    have := sd2 (by omega)
    omega
  have hA : V i00 ≠ 0 := by intro h; rw [h] at hne; simp at hne
  have hC : V i11 ≠ 0 := by intro h; rw [h] at hne; simp at hne
  have k1 := mul_low low1 c4 (D.dA.low hA0 hA) c2 hA0 (by decide)
  have k2 := mul_low low2 k1 (D.dC.low hC0 hC) hs1 hC0 (by decide)
  have hd : U ≤ pw 432 * V det := by
    have : pw 432 * V s ≤ pw 432 * V det := Int.mul_le_mul_of_nonneg_left (by omega) (by have := pw_pos 432; omega)
    have k2' : U ≤ pw 432 * V s := k2
    omega
  obtain ⟨a1, g1', fa1, la1, _⟩ := mul_le fC f0 lC l0 (by decide)
  obtain ⟨a2, g2', fa2, la2, _⟩ := mul_le fB f1 lB l1 (by decide)
  obtain ⟨a3, g3', fa3, la3, _⟩ := sub_le fa1 fa2 la1 la2 (by decide)
  obtain ⟨b1, g4', fb1, lb1, _⟩ := mul_le fA f1 lA l1 (by decide)
  obtain ⟨b2, g5', fb2, lb2, _⟩ := mul_le fB f0 lB l0 (by decide)
  obtain ⟨b3, g6', fb3, lb3, _⟩ := sub_le fb1 fb2 lb1 lb2 (by decide)
  obtain ⟨da, g7', fda, lda⟩ := div_le fa3 fd la3 (by omega) hd (by decide)
  obtain ⟨db, g8', fdb, ldb⟩ := div_le fb3 fd lb3 (by omega) hd (by decide)
  exact ⟨da, db, a1, a2, a3, b1, b2, b3, g1', g2', g3', g7', g4', g5', g6', g8', fda, fdb, lda.mono (by decide), ldb.mono (by decide)⟩

/-- A slope over its information (never below 1e-300). -/
def OverF (g d i r : Nat) : Prop := double.div g d = some r ∧ Num r ∧ (V g ≤ 0 → W r ≤ 0) ∧ (V i ≠ 0 → Fnt r ∧ Le 850 (V r))

theorem over_ok {g i d : Nat} (hg : Dat g) (hi : Dat i) (i0 : 0 ≤ V i) (hd : Num d) (wd : W d = max (W i) (W 118622047889322841)) (dd : d = i ∨ d = 118622047889322841) : ∃ r, OverF g d i r := by
  obtain ⟨c1, c2, c3⟩ := F_c300
  rw [W_fin hi.1, W_fin c1] at wd
  have fd : Fnt d := by rcases dd with h | h <;> rw [h]; exact hi.1; exact c1
  rw [W_fin fd] at wd
  obtain ⟨r, h1, h2, h3, h4⟩ := div_sign hg.1 fd (by omega)
  refine ⟨r, h1, h2, h3, fun hn => ?_⟩
  have lo := hi.low i0 hn
  have hdi : V i ≤ V d := by omega
  have lod : U ≤ pw 200 * V d := by
    have := Int.mul_le_mul_of_nonneg_left hdi (show 0 ≤ pw 200 by have := pw_pos 200; omega)
    omega
  obtain ⟨r', g1, g2, g3⟩ := div_le hg.1 fd hg.2.1 (by omega) lod (by decide)
  rw [h1] at g1
  obtain rfl : r = r' := Option.some.inj g1
  exact ⟨g2, g3.mono (by decide)⟩

end Fl
end Go.Proofs.Qxb6601435aMods
