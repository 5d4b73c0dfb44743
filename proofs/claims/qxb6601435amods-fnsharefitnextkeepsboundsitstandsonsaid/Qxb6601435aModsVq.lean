/- The plain law of FnVarianceMatchesTwoPass, all together. No Go in sight. -/
import Derived.Test.Qxb6601435aModsVp
namespace Go.Proofs.Qxb6601435aMods
namespace Vp
open Ieee Fl Vn Vf
set_option linter.unusedVariables false
set_option linter.unusedSimpArgs false

/-! ### All together -/
theorem cv_ok (n : Nat) (hn : n ≤ 131076) : Fnt (cv n) ∧ V (cv n) = (n : Int) * U := ofNat_exact n (by omega)

/-- 32.0 and 2^-53, as words. -/
theorem w32_ok : Fnt 4629700416936869888 ∧ V 4629700416936869888 = 32 * U := by
  have h : double.read 4629700416936869888 = .number false 4503599627370496 (-47) := by decide
  obtain ⟨k, hk, e⟩ := U_spec
  refine ⟨⟨_, _, _, h⟩, ?_⟩
  rw [V_of h, e]
  obtain ⟨j, hj⟩ : ∃ j : Nat, j = ((-47 : Int) + 1074).toNat := ⟨_, rfl⟩
  rw [← hj]
  have e2 : 4503599627370496 * 2 ^ j = 32 * 2 ^ k := by
    rw [show (4503599627370496 : Nat) = 2 ^ 52 from rfl, show (32 : Nat) = 2 ^ 5 from rfl, ← Nat.pow_add, ← Nat.pow_add]
    congr 1
    omega
  rw [e2, Int.natCast_mul]
  generalize ((2 ^ k : Nat) : Int) = W
  show 1 * (32 * W) = 32 * W
  omega
theorem wu_ok : Fnt 4368491638549381120 ∧ 9007199254740992 * V 4368491638549381120 = U := by
  have h : double.read 4368491638549381120 = .number false 4503599627370496 (-105) := by decide
  obtain ⟨k, hk, e⟩ := U_spec
  refine ⟨⟨_, _, _, h⟩, ?_⟩
  rw [V_of h, e]
  obtain ⟨j, hj⟩ : ∃ j : Nat, j = ((-105 : Int) + 1074).toNat := ⟨_, rfl⟩
  rw [← hj]
  have e2 : 9007199254740992 * (4503599627370496 * 2 ^ j) = 2 ^ k := by
    rw [show (4503599627370496 : Nat) = 2 ^ 52 from rfl, show (9007199254740992 : Nat) = 2 ^ 53 from rfl, ← Nat.pow_add, ← Nat.pow_add]
    congr 1
    omega
  rw [← e2]
  generalize 2 ^ j = W
  show 9007199254740992 * (1 * ((4503599627370496 * W : Nat) : Int)) = _
  omega

/-- The greater of 0 and d, as a word. -/
def mW (d : Nat) : Nat := if 0 < V d then d else 0
theorem mW_ok {d : Nat} (hd : Fnt d) : Fnt (mW d) ∧ ((0 ≤ V d ∧ V (mW d) = V d) ∨ (V d ≤ 0 ∧ V (mW d) = 0)) ∧ 0 ≤ V (mW d) := by
  unfold mW
  by_cases c : 0 < V d
  · rw [if_pos c]; exact ⟨hd, .inl ⟨by omega, rfl⟩, by omega⟩
  · rw [if_neg c]; exact ⟨fin_zero.1, .inr ⟨by omega, fin_zero.2⟩, by rw [fin_zero.2]; exact Int.le_refl _⟩

/-- The words that the two functions reckon. -/
def pW (xs : List Nat) : Nat := fmul (tot xs) (tot xs)
def qW (xs : List Nat) : Nat := fdiv (pW xs) (cv xs.length)
def dW (xs : List Nat) : Nat := fsub (sqs xs) (qW xs)
def vW (xs : List Nat) : Nat := fdiv (mW (dW xs)) (cv (xs.length - 1))
def muW (xs : List Nat) : Nat := fdiv (tot xs) (cv xs.length)
def devW (xs : List Nat) : Nat := dvs (muW xs) xs
def moW (xs : List Nat) : Nat := fdiv (devW xs) (cv (xs.length - 1))
def c1W (xs : List Nat) : Nat := fmul 4629700416936869888 (cv (xs.length + 4))
def c2W (xs : List Nat) : Nat := fmul (c1W xs) 4368491638549381120
def c3W (xs : List Nat) : Nat := fmul (c2W xs) (sqs xs)
def tolW (xs : List Nat) : Nat := fdiv (c3W xs) (cv (xs.length - 1))
def wW (xs : List Nat) : Nat := fsub (vW xs) (moW xs)

/-- What the walk asks. -/
structure Facts (xs : List Nat) : Prop where
  p : double.mul (tot xs) (tot xs) = some (pW xs)
  q : double.div (pW xs) (cv xs.length) = some (qW xs)
  d : double.sub (sqs xs) (qW xs) = some (dW xs)
  dF : Fnt (dW xs)
  v : double.div (mW (dW xs)) (cv (xs.length - 1)) = some (vW xs)
  vF : Fnt (vW xs)
  v0 : 0 ≤ V (vW xs)
  vC : V (vW xs) ≤ Cb * U
  mu : double.div (tot xs) (cv xs.length) = some (muW xs)
  muM : Mu (muW xs)
  mo : double.div (devW xs) (cv (xs.length - 1)) = some (moW xs)
  c1 : double.mul 4629700416936869888 (cv (xs.length + 4)) = some (c1W xs)
  c2 : double.mul (c1W xs) 4368491638549381120 = some (c2W xs)
  c3 : double.mul (c2W xs) (sqs xs) = some (c3W xs)
  tol : double.div (c3W xs) (cv (xs.length - 1)) = some (tolW xs)
  tolF : Fnt (tolW xs)
  w : double.sub (vW xs) (moW xs) = some (wW xs)
  wF : Fnt (wW xs)
  law : ((V (wW xs)).natAbs : Int) ≤ V (tolW xs)

theorem leC {z c : Int} (h : z ≤ c * U) (hc : c ≤ 226156424291633194186662080095093570025917938800079226639565593765455331328) : z ≤ Cb * U :=
  Int.le_trans h (Int.mul_le_mul_of_nonneg_right (Int.le_trans hc (by decide)) (by have := U_pos; omega))
theorem leCC {z c : Int} (h : z ≤ c * (U * U)) (hc : c ≤ 226156424291633194186662080095093570025917938800079226639565593765455331328) : z ≤ Cb * (U * U) :=
  Int.le_trans h (Int.mul_le_mul_of_nonneg_right (Int.le_trans hc (by decide)) (sqr_nonneg U))
theorem dbl {z y c : Int} (h1 : z ≤ 2 * y) (h2 : y ≤ c * U) : z ≤ (2 * c) * U := by rw [Int.mul_assoc]; omega
theorem rng {a b c : Int} (a0 : 0 ≤ a) (a1 : a ≤ c * U) (b0 : 0 ≤ b) (b1 : b ≤ c * U) (hc : c ≤ 226156424291633194186662080095093570025917938800079226639565593765455331328) : -(Cb * U) ≤ a - b ∧ a - b ≤ Cb * U := by
  have h := leC (Int.le_refl (c * U)) hc
  generalize c * U = X at *
  generalize Cb * U = Y at *
  omega
theorem prodUU {a b c e : Int} (a0 : 0 ≤ a) (a1 : a ≤ c * U) (b0 : 0 ≤ b) (b1 : b ≤ e * U) (hc : 0 ≤ c) : a * b ≤ (c * e) * (U * U) := by
  have hU := U_pos
  have h := Int.mul_le_mul a1 b1 b0 (Int.mul_nonneg hc (by omega))
  have e3 : c * U * (e * U) = (c * e) * (U * U) := by rw [Int.mul_assoc, Int.mul_left_comm U, ← Int.mul_assoc]
  rw [e3] at h; exact h
theorem grow {z c e : Int} (h : z ≤ c * U) (hc : c ≤ e) : z ≤ e * U :=
  Int.le_trans h (Int.mul_le_mul_of_nonneg_right hc (by have := U_pos; omega))

theorem near_le {d a b c : Int} (h : Nr (d - (a - b)) ((a - b).natAbs : Int)) (a0 : 0 ≤ a) (a1 : a ≤ c * U) (b0 : 0 ≤ b) (b1 : b ≤ c * U) : d ≤ (2 * c) * U := by
  rw [Int.mul_assoc]
  unfold Nr at h
  generalize c * U = X at *
  omega


theorem nV (n : Nat) (hn : n ≤ 131076) : Fnt (cv n) ∧ V (cv n) = (n : Int) * U := cv_ok n hn
theorem n1V (n : Nat) (h2 : 2 ≤ n) (hn : n ≤ 131072) : Fnt (cv (n - 1)) ∧ V (cv (n - 1)) = ((n : Int) - 1) * U := by
  obtain ⟨h1, h2'⟩ := cv_ok (n - 1) (by omega)
  have e : ((n - 1 : Nat) : Int) = (n : Int) - 1 := by omega
  rw [e] at h2'; exact ⟨h1, h2'⟩
theorem n4V (n : Nat) (hn : n ≤ 131072) : Fnt (cv (n + 4)) ∧ V (cv (n + 4)) = ((n : Int) + 4) * U := by
  obtain ⟨h1, h2'⟩ := cv_ok (n + 4) (by omega)
  have e : ((n + 4 : Nat) : Int) = (n : Int) + 4 := by omega
  rw [e] at h2'; exact ⟨h1, h2'⟩

/-- T: total. -/
theorem stT {xs : List Nat} (hok : Ok xs) (hn : xs.length ≤ 131072) :
    Fnt (tot xs) ∧ 0 ≤ V (tot xs) ∧ V (tot xs) ≤ (2 * 9671406556917033397649408) * U ∧ V (tot xs) ≤ 2 * sumF V xs ∧ Nr (V (tot xs) - sumF V xs) (2 * ((xs.length : Int) * sumF V xs)) := by
  have hT := tot_ok hok rfl hn
  obtain ⟨t0, t2⟩ := hT.bounds (by omega) (by omega)
  exact ⟨hT.1, t0, dbl t2 (A_le hok rfl hn), t2, hT.2.2⟩

theorem stS {xs : List Nat} (hok : Ok xs) (hn : xs.length ≤ 131072) :
    Fnt (sqs xs) ∧ 0 ≤ V (sqs xs) ∧ V (sqs xs) ≤ (2 * 2854495385411919762116571938898990272765493248) * U ∧ V (sqs xs) ≤ 2 * sumF V (xs.map sq) := by
  have hS := sqs_ok hok rfl hn
  obtain ⟨t0, t2⟩ := hS.bounds (by omega) (by omega)
  exact ⟨hS.1, t0, dbl t2 (Q_le hok rfl hn), t2⟩

theorem stP {xs : List Nat} (hok : Ok xs) (hn : xs.length ≤ 131072) :
    double.mul (tot xs) (tot xs) = some (pW xs) ∧ Fnt (pW xs) ∧ Nr (V (pW xs) * U - V (tot xs) * V (tot xs)) (V (tot xs) * V (tot xs) + 4503599627370496 * U) ∧ 0 ≤ V (pW xs) ∧
      V (pW xs) ≤ 748288838313422294120286634350736906063837462003712 * U ∧ (V (tot xs) = 0 → V (pW xs) ≤ 0) := by
  obtain ⟨tF, t0, tB, _, _⟩ := stT hok hn
  have hp := prodUU t0 tB t0 tB (by decide)
  obtain ⟨e, f, nr, nn, bd⟩ := mul_ok tF tF (sqr_nonneg _) (leCC hp (by decide))
  have b1 := bd ((2 * 9671406556917033397649408 * (2 * 9671406556917033397649408)) * U) (by rw [Int.mul_assoc (_ * _)]; exact hp)
  refine ⟨e, f, nr, nn, ?_, ?_⟩
  · have e2 : 2 * ((2 * 9671406556917033397649408 * (2 * 9671406556917033397649408)) * U) = 748288838313422294120286634350736906063837462003712 * U := by rw [← Int.mul_assoc]; rfl
    rw [← e2]; exact b1
  · intro h0
    have := bd 0 (by rw [h0]; simp)
    exact this

theorem stQ {xs : List Nat} (hok : Ok xs) (h2 : 2 ≤ xs.length) (hn : xs.length ≤ 131072) :
    double.div (pW xs) (cv xs.length) = some (qW xs) ∧ Fnt (qW xs) ∧ Nr (V (qW xs) * ((xs.length : Int) * U) - V (pW xs) * U) (2 * (V (pW xs) * U) + 4503599627370496 * ((xs.length : Int) * U)) ∧ 0 ≤ V (qW xs) ∧
      V (qW xs) ≤ (2 * 748288838313422294120286634350736906063837462003712) * U ∧ V (qW xs) ≤ 2 * V (pW xs) := by
  obtain ⟨_, pF, _, p0, pB, _⟩ := stP hok hn
  obtain ⟨nF, nv⟩ := nV xs.length (by omega)
  obtain ⟨e, f, nr, nn, bd⟩ := div_ok (k := (xs.length : Int)) pF nF (by omega) nv p0 (leC pB (by decide))
  exact ⟨e, f, nr, nn, dbl bd pB, bd⟩

theorem stD {xs : List Nat} (hok : Ok xs) (h2 : 2 ≤ xs.length) (hn : xs.length ≤ 131072) :
    double.sub (sqs xs) (qW xs) = some (dW xs) ∧ Fnt (dW xs) ∧ Nr (V (dW xs) - (V (sqs xs) - V (qW xs))) ((V (sqs xs) - V (qW xs)).natAbs : Int) ∧ V (dW xs) ≤ (2 * (2 * 748288838313422294120286634350736906063837462003712)) * U := by
  obtain ⟨sF, s0, sB, _⟩ := stS hok hn
  obtain ⟨_, qF, _, q0, qB, _⟩ := stQ hok h2 hn
  have sB' := grow (e := 2 * 748288838313422294120286634350736906063837462003712) sB (by decide)
  obtain ⟨r1, r2⟩ := rng s0 sB' q0 qB (by decide)
  obtain ⟨e, f, nr⟩ := sub_ok sF qF r1 r2
  exact ⟨e, f, nr, near_le nr s0 sB' q0 qB⟩

theorem stM {xs : List Nat} (hok : Ok xs) (h2 : 2 ≤ xs.length) (hn : xs.length ≤ 131072) :
    Fnt (mW (dW xs)) ∧ ((0 ≤ V (dW xs) ∧ V (mW (dW xs)) = V (dW xs)) ∨ (V (dW xs) ≤ 0 ∧ V (mW (dW xs)) = 0)) ∧ 0 ≤ V (mW (dW xs)) ∧ V (mW (dW xs)) ≤ (2 * (2 * 748288838313422294120286634350736906063837462003712)) * U := by
  obtain ⟨_, dF, _, dB⟩ := stD hok h2 hn
  obtain ⟨a, b, c⟩ := mW_ok dF
  refine ⟨a, b, c, ?_⟩
  rcases b with ⟨_, e⟩ | ⟨_, e⟩
  · rw [e]; exact dB
  · rw [e]; exact Int.mul_nonneg (by decide) (by have := U_pos; omega)

theorem stV {xs : List Nat} (hok : Ok xs) (h2 : 2 ≤ xs.length) (hn : xs.length ≤ 131072) :
    double.div (mW (dW xs)) (cv (xs.length - 1)) = some (vW xs) ∧ Fnt (vW xs) ∧ Nr (V (vW xs) * (((xs.length : Int) - 1) * U) - V (mW (dW xs)) * U) (2 * (V (mW (dW xs)) * U) + 4503599627370496 * (((xs.length : Int) - 1) * U)) ∧ 0 ≤ V (vW xs) ∧
      V (vW xs) ≤ (2 * (2 * (2 * 748288838313422294120286634350736906063837462003712))) * U ∧ V (vW xs) ≤ 2 * V (mW (dW xs)) := by
  obtain ⟨mF, _, m0, mB⟩ := stM hok h2 hn
  obtain ⟨nF, nv⟩ := n1V xs.length h2 hn
  obtain ⟨e, f, nr, nn, bd⟩ := div_ok (k := (xs.length : Int) - 1) mF nF (by omega) nv m0 (leC mB (by decide))
  exact ⟨e, f, nr, nn, dbl bd mB, bd⟩

theorem stU {xs : List Nat} (hok : Ok xs) (h2 : 2 ≤ xs.length) (hn : xs.length ≤ 131072) :
    double.div (tot xs) (cv xs.length) = some (muW xs) ∧ Mu (muW xs) ∧ Nr (V (muW xs) * ((xs.length : Int) * U) - V (tot xs) * U) (2 * (V (tot xs) * U) + 4503599627370496 * ((xs.length : Int) * U)) ∧ V (muW xs) ≤ 2 * V (tot xs) := by
  obtain ⟨tF, t0, tB, _, _⟩ := stT hok hn
  obtain ⟨nF, nv⟩ := nV xs.length (by omega)
  obtain ⟨e, f, nr, nn, bd⟩ := div_ok (k := (xs.length : Int)) tF nF (by omega) nv t0 (leC tB (by decide))
  exact ⟨e, ⟨f, nn, grow (dbl bd tB) (by decide)⟩, nr, bd⟩

theorem stE {xs : List Nat} (hok : Ok xs) (h2 : 2 ≤ xs.length) (hn : xs.length ≤ 131072) :
    Fnt (devW xs) ∧ 0 ≤ V (devW xs) ∧ V (devW xs) ≤ (2 * 3213876088517980551083924184682325205044405987565585670602752) * U ∧ V (devW xs) ≤ 2 * sumF V (xs.map (dsq (muW xs))) := by
  obtain ⟨_, hMu, _, _⟩ := stU hok h2 hn
  have hD := dvs_ok hok rfl hn hMu
  obtain ⟨t0, t2⟩ := hD.bounds (by omega) (by omega)
  exact ⟨hD.1, t0, dbl t2 (Dq_le hok rfl hn hMu), t2⟩

theorem stO {xs : List Nat} (hok : Ok xs) (h2 : 2 ≤ xs.length) (hn : xs.length ≤ 131072) :
    double.div (devW xs) (cv (xs.length - 1)) = some (moW xs) ∧ Fnt (moW xs) ∧ Nr (V (moW xs) * (((xs.length : Int) - 1) * U) - V (devW xs) * U) (2 * (V (devW xs) * U) + 4503599627370496 * (((xs.length : Int) - 1) * U)) ∧ 0 ≤ V (moW xs) ∧
      V (moW xs) ≤ (2 * (2 * 3213876088517980551083924184682325205044405987565585670602752)) * U ∧ V (moW xs) ≤ 2 * V (devW xs) := by
  obtain ⟨dF, d0, dB, _⟩ := stE hok h2 hn
  obtain ⟨nF, nv⟩ := n1V xs.length h2 hn
  obtain ⟨e, f, nr, nn, bd⟩ := div_ok (k := (xs.length : Int) - 1) dF nF (by omega) nv d0 (leC dB (by decide))
  exact ⟨e, f, nr, nn, dbl bd dB, bd⟩

theorem stW {xs : List Nat} (hok : Ok xs) (h2 : 2 ≤ xs.length) (hn : xs.length ≤ 131072) :
    double.sub (vW xs) (moW xs) = some (wW xs) ∧ Fnt (wW xs) ∧ Nr (V (wW xs) - (V (vW xs) - V (moW xs))) ((V (vW xs) - V (moW xs)).natAbs : Int) := by
  obtain ⟨_, vF, _, v0, vB, _⟩ := stV hok h2 hn
  obtain ⟨_, oF, _, o0, oB, _⟩ := stO hok h2 hn
  have vB' := grow (e := 2 * (2 * 3213876088517980551083924184682325205044405987565585670602752)) vB (by decide)
  obtain ⟨r1, r2⟩ := rng v0 vB' o0 oB (by decide)
  exact sub_ok vF oF r1 r2

theorem st1 {xs : List Nat} (hn : xs.length ≤ 131072) :
    double.mul 4629700416936869888 (cv (xs.length + 4)) = some (c1W xs) ∧ Fnt (c1W xs) ∧ Nr (V (c1W xs) * U - (32 * U) * (((xs.length : Int) + 4) * U)) ((32 * U) * (((xs.length : Int) + 4) * U) + 4503599627370496 * U) ∧ 0 ≤ V (c1W xs) ∧ V (c1W xs) ≤ 8388864 * U := by
  have hU := U_pos
  obtain ⟨nF, nv⟩ := n4V xs.length hn
  have hn4 : ((xs.length : Int) + 4) * U ≤ 131076 * U := Int.mul_le_mul_of_nonneg_right (by omega) (by omega)
  have hn40 : 0 ≤ ((xs.length : Int) + 4) * U := Int.mul_nonneg (by omega) (by omega)
  have hp := prodUU (a := 32 * U) (c := 32) (by omega) (Int.le_refl _) hn40 hn4 (by decide)
  rw [← w32_ok.2, ← nv] at hp
  have h0 : 0 ≤ V 4629700416936869888 * V (cv (xs.length + 4)) := by rw [w32_ok.2, nv]; exact Int.mul_nonneg (by omega) hn40
  obtain ⟨e, f, nr, nn, bd⟩ := mul_ok w32_ok.1 nF h0 (leCC hp (by decide))
  have b1 := bd ((32 * 131076) * U) (by rw [Int.mul_assoc (_ * _)]; exact hp)
  rw [w32_ok.2, nv] at nr
  refine ⟨e, f, nr, nn, ?_⟩
  have e2 : 2 * ((32 * 131076) * U) = 8388864 * U := by rw [← Int.mul_assoc]; rfl
  rw [← e2]; exact b1

theorem st2 {xs : List Nat} (hn : xs.length ≤ 131072) :
    double.mul (c1W xs) 4368491638549381120 = some (c2W xs) ∧ Fnt (c2W xs) ∧ Nr (V (c2W xs) * U - V (c1W xs) * V 4368491638549381120) (V (c1W xs) * V 4368491638549381120 + 4503599627370496 * U) ∧ 0 ≤ V (c2W xs) ∧ V (c2W xs) ≤ 16777728 * U := by
  obtain ⟨_, c1F, _, c10, c1B⟩ := st1 hn
  have wu0 : 0 ≤ V 4368491638549381120 := by have := wu_ok.2; have := U_pos; omega
  have wu1 : V 4368491638549381120 ≤ 1 * U := by have := wu_ok.2; have := U_pos; omega
  have hp := prodUU c10 c1B wu0 wu1 (by decide)
  obtain ⟨e, f, nr, nn, bd⟩ := mul_ok c1F wu_ok.1 (Int.mul_nonneg c10 wu0) (leCC hp (by decide))
  have b1 := bd ((8388864 * 1) * U) (by rw [Int.mul_assoc (_ * _)]; exact hp)
  refine ⟨e, f, nr, nn, ?_⟩
  have e2 : 2 * ((8388864 * 1) * U) = 16777728 * U := by rw [← Int.mul_assoc]; rfl
  rw [← e2]; exact b1

theorem st3 {xs : List Nat} (hok : Ok xs) (hn : xs.length ≤ 131072) :
    double.mul (c2W xs) (sqs xs) = some (c3W xs) ∧ Fnt (c3W xs) ∧ Nr (V (c3W xs) * U - V (c2W xs) * V (sqs xs)) (V (c2W xs) * V (sqs xs) + 4503599627370496 * U) ∧ 0 ≤ V (c3W xs) ∧ V (c3W xs) ≤ 191567788614785430906466193133119513084421014003122176 * U := by
  obtain ⟨_, c2F, _, c20, c2B⟩ := st2 hn
  obtain ⟨sF, s0, sB, _⟩ := stS hok hn
  have hp := prodUU c20 c2B s0 sB (by decide)
  obtain ⟨e, f, nr, nn, bd⟩ := mul_ok c2F sF (Int.mul_nonneg c20 s0) (leCC hp (by decide))
  have b1 := bd ((16777728 * (2 * 2854495385411919762116571938898990272765493248)) * U) (by rw [Int.mul_assoc (_ * _)]; exact hp)
  refine ⟨e, f, nr, nn, ?_⟩
  have e2 : 2 * ((16777728 * (2 * 2854495385411919762116571938898990272765493248)) * U) = 191567788614785430906466193133119513084421014003122176 * U := by rw [← Int.mul_assoc]; rfl
  rw [← e2]; exact b1

theorem st4 {xs : List Nat} (hok : Ok xs) (h2 : 2 ≤ xs.length) (hn : xs.length ≤ 131072) :
    double.div (c3W xs) (cv (xs.length - 1)) = some (tolW xs) ∧ Fnt (tolW xs) ∧ Nr (V (tolW xs) * (((xs.length : Int) - 1) * U) - V (c3W xs) * U) (2 * (V (c3W xs) * U) + 4503599627370496 * (((xs.length : Int) - 1) * U)) ∧ 0 ≤ V (tolW xs) := by
  obtain ⟨_, cF, _, c0, cB⟩ := st3 hok hn
  obtain ⟨nF, nv⟩ := n1V xs.length h2 hn
  obtain ⟨e, f, nr, nn, bd⟩ := div_ok (k := (xs.length : Int) - 1) cF nF (by omega) nv c0 (leC cB (by decide))
  exact ⟨e, f, nr, nn⟩

/-- The law where some element is not zero. -/
theorem law_some {xs : List Nat} (hok : Ok xs) (h2 : 2 ≤ xs.length) (hn : xs.length ≤ 131072) {x : Nat} (hx : x ∈ xs) (hxU : U ≤ 2 * V x) : ((V (wW xs)).natAbs : Int) ≤ V (tolW xs) := by
  have hU := U_pos
  have hUb := U_big
  -- A and B are great
  have hA : V x ≤ sumF V xs := sumF_mem (fun y hy => (hok y hy).2.1) hx
  have hB : V x * V x ≤ sumF (fun y => V y * V y) xs := sumF_mem (f := fun y => V y * V y) (fun y _ => sqr_nonneg _) hx
  have hB0 : 0 ≤ sumF (fun y => V y * V y) xs := sumF_nonneg (fun y _ => sqr_nonneg _)
  have hA0 : 0 ≤ sumF V xs := by omega
  have hxx : U * U ≤ 4 * (V x * V x) := by
    have h := Int.mul_le_mul hxU hxU (by omega) (by omega)
    have e : 2 * V x * (2 * V x) = 4 * (V x * V x) := by rw [Int.mul_assoc, Int.mul_left_comm (V x) 2, ← Int.mul_assoc]; rfl
    rw [e] at h; exact h
  have hbigU : 5316911983139663491615228241121378304 * U ≤ U * U := Int.mul_le_mul_of_nonneg_right (by omega) (by omega)
  have hBu : 1329227995784915872903807060280344576 * U ≤ sumF (fun y => V y * V y) xs := by
    generalize U * U = W at *
    generalize V x * V x = P at *
    omega
  have hAA : V x * V x ≤ sumF V xs * sumF V xs := Int.mul_le_mul hA hA (by omega) hA0
  have hbig : 1329227995784915872903807060280344576 * U ≤ sumF V xs * sumF V xs := by
    generalize U * U = W at *
    generalize V x * V x = P at *
    generalize sumF V xs * sumF V xs = Q at *
    omega
  have hcs := cauchy xs
  have hA1 : 1267650600228229401496703205376 ≤ sumF V xs := by omega
  obtain ⟨_, t0, _, _, tN⟩ := stT hok hn
  obtain ⟨_, s0, _, _⟩ := stS hok hn
  obtain ⟨_, _, pN, p0, _, _⟩ := stP hok hn
  obtain ⟨_, _, qN, q0, _, _⟩ := stQ hok h2 hn
  obtain ⟨_, _, dN, _⟩ := stD hok h2 hn
  obtain ⟨_, mC, m0, _⟩ := stM hok h2 hn
  obtain ⟨_, _, vN, v0, _, _⟩ := stV hok h2 hn
  obtain ⟨_, hMu, muN, _⟩ := stU hok h2 hn
  obtain ⟨_, e0, _, _⟩ := stE hok h2 hn
  obtain ⟨_, _, oN, o0, _, _⟩ := stO hok h2 hn
  obtain ⟨_, _, wN⟩ := stW hok h2 hn
  obtain ⟨_, _, c1N, c10, _⟩ := st1 hn
  obtain ⟨_, _, c2N, c20, _⟩ := st2 hn
  obtain ⟨_, _, c3N, c30, _⟩ := st3 hok hn
  obtain ⟨_, _, tlN, tl0⟩ := st4 hok h2 hn
  have sN := sqs_near hok rfl hn (by omega) hBu
  have eN := dvs_near hok rfl hn hMu
  have hSE := SE_n (V (muW xs)) (sumF V xs) (sumF (fun y => V y * V y) xs) xs.length _ (SE_id (V (muW xs)) xs)
  have hSE0 := sumF_nonneg (f := fun y => (V y - V (muW xs)) * (V y - V (muW xs))) (xs := xs) (fun y _ => sqr_nonneg _)
  have hnI : (2 : Int) ≤ (xs.length : Int) := by omega
  have hnI2 : (xs.length : Int) ≤ 131072 := by omega
  have hU2 : 1329227995784915872903807060280344576 ≤ U := by omega
  have r1 := onepass hA0 hB0 hnI hnI2 hU2 hbig hcs tN pN p0 qN q0 sN s0 dN mC vN
  have r2 := twopass hA1 hB0 hnI hnI2 hU2 hbig hcs tN muN hSE hSE0 e0 eN oN
  have r3 := tol_low hB0 hnI hnI2 hU2 hBu sN s0 c1N wu_ok.2 c2N c3N tlN
  exact within hB0 hnI hnI2 hU r1 r2 wN r3

theorem sumF_zero {f : Nat → Int} {xs : List Nat} (h : ∀ x ∈ xs, f x = 0) : sumF f xs = 0 := by
  induction xs with
  | nil => rfl
  | cons x t ih => simp only [sumF]; rw [h x (List.mem_cons_self ..), ih (fun y hy => h y (List.mem_cons_of_mem _ hy))]; rfl

theorem near_zero {w : Int} (h : Nr (w - (0 - 0)) (((0 : Int) - 0).natAbs : Int)) : w = 0 := by
  unfold Nr at h
  have e : (((0 : Int) - 0).natAbs : Int) = 0 := rfl
  rw [e] at h
  omega

/-- The law where all are zero. -/
theorem law_none {xs : List Nat} (hok : Ok xs) (h2 : 2 ≤ xs.length) (hn : xs.length ≤ 131072) (hz : ∀ x ∈ xs, V x = 0) : ((V (wW xs)).natAbs : Int) ≤ V (tolW xs) := by
  have hA : sumF V xs = 0 := sumF_zero hz
  obtain ⟨_, t0, _, t2, _⟩ := stT hok hn
  have hT : V (tot xs) = 0 := by omega
  have hQ : sumF V (xs.map sq) = 0 := by
    rw [sumF_map]
    refine sumF_zero (fun x hx => ?_)
    obtain ⟨h1, _, _⟩ := hok x hx
    have hx0 := hz x hx
    obtain ⟨_, _, _, nn, bd⟩ := mul_ok h1 h1 (sqr_nonneg _) (by rw [hx0, Int.zero_mul]; exact Int.mul_nonneg (by decide) (sqr_nonneg U))
    have := bd 0 (by rw [hx0, Int.zero_mul, Int.zero_mul]; exact Int.le_refl _)
    unfold sq
    omega
  obtain ⟨_, s0, _, s2⟩ := stS hok hn
  obtain ⟨_, _, _, p0, _, pz⟩ := stP hok hn
  have hp := pz hT
  obtain ⟨_, _, _, q0, _, q2⟩ := stQ hok h2 hn
  obtain ⟨_, _, dN, _⟩ := stD hok h2 hn
  have hd : V (dW xs) = 0 := by
    have e1 : V (sqs xs) = 0 := by omega
    have e2 : V (qW xs) = 0 := by omega
    rw [e1, e2] at dN
    unfold Nr at dN
    omega
  obtain ⟨_, mC, m0, _⟩ := stM hok h2 hn
  have hm : V (mW (dW xs)) = 0 := by rcases mC with ⟨_, e⟩ | ⟨_, e⟩ <;> omega
  obtain ⟨_, _, _, v0, _, v2⟩ := stV hok h2 hn
  obtain ⟨_, hMu, _, mu2⟩ := stU hok h2 hn
  have hmu : V (muW xs) = 0 := by have := hMu.2.1; omega
  have hDq : sumF V (xs.map (dsq (muW xs))) = 0 := by
    rw [sumF_map]
    refine sumF_zero (fun x hx => ?_)
    have hx' := hok x hx
    have hx0 := hz x hx
    obtain ⟨_, _, _, nn, nr, _⟩ := dsq_ok hMu hx'
    rw [hx0, hmu] at nr
    have hU := U_pos
    have h : V (dsq (muW xs) x) * U < 1 * U := by
      unfold Nr at nr
      simp only [Int.sub_self, Int.mul_zero] at nr
      generalize V (dsq (muW xs) x) * U = P at *
      omega
    have := Int.lt_of_mul_lt_mul_right h (by omega)
    omega
  obtain ⟨_, e0, _, e2⟩ := stE hok h2 hn
  obtain ⟨_, _, _, o0, _, o2⟩ := stO hok h2 hn
  obtain ⟨_, _, wN⟩ := stW hok h2 hn
  obtain ⟨_, _, _, tl0⟩ := st4 hok h2 hn
  have e1 : V (vW xs) = 0 := by omega
  have e3 : V (moW xs) = 0 := by omega
  rw [e1, e3] at wN
  rw [near_zero wN]
  exact tl0

theorem facts {xs : List Nat} (hok : Ok xs) (h2 : 2 ≤ xs.length) (hn : xs.length ≤ 131072) (hz : (∀ x ∈ xs, V x = 0) ∨ ∃ x ∈ xs, U ≤ 2 * V x) : Facts xs := by
  obtain ⟨pe, _⟩ := stP hok hn
  obtain ⟨qe, _⟩ := stQ hok h2 hn
  obtain ⟨de, dF, _⟩ := stD hok h2 hn
  obtain ⟨ve, vF, _, v0, vB, _⟩ := stV hok h2 hn
  obtain ⟨ue, uM, _⟩ := stU hok h2 hn
  obtain ⟨oe, _⟩ := stO hok h2 hn
  obtain ⟨we, wF, _⟩ := stW hok h2 hn
  obtain ⟨c1e, _⟩ := st1 hn
  obtain ⟨c2e, _⟩ := st2 hn
  obtain ⟨c3e, _⟩ := st3 hok hn
  obtain ⟨te, tF, _⟩ := st4 hok h2 hn
  refine ⟨pe, qe, de, dF, ve, vF, v0, leC vB (by decide), ue, uM, oe, c1e, c2e, c3e, te, tF, we, wF, ?_⟩
  rcases hz with h | ⟨x, hx, h⟩
  · exact law_none hok h2 hn h
  · exact law_some hok h2 hn hx h
end Vp
end Go.Proofs.Qxb6601435aMods
