/- The numbers behind FnVarianceMatchesTwoPass: inequalities between whole numbers. Plain: no floats, no Go. -/
namespace Go.Proofs.Qxb6601435aMods
namespace Vn
set_option linter.unusedVariables false
set_option linter.unusedSimpArgs false

/-- 'z is off by at most W parts in 2^53'. -/
def Nr (z W : Int) : Prop := -W ≤ 9007199254740992 * z ∧ 9007199254740992 * z ≤ W

theorem Nr.of_abs {z W : Int} (h : 9007199254740992 * (z.natAbs : Int) ≤ W) : Nr z W := by unfold Nr; omega
theorem Nr.abs {z W : Int} (h : Nr z W) : 9007199254740992 * (z.natAbs : Int) ≤ W := by unfold Nr at h; omega
theorem Nr.mono {z W W' : Int} (h : Nr z W) (hw : W ≤ W') : Nr z W' := by unfold Nr at *; omega
theorem Nr.add {z y W X : Int} (h : Nr z W) (k : Nr y X) : Nr (z + y) (W + X) := by unfold Nr at *; omega
theorem Nr.neg {z W : Int} (h : Nr z W) : Nr (-z) W := by unfold Nr at *; omega
theorem Nr.congr {z y W : Int} (h : Nr z W) (e : z = y) : Nr y W := e ▸ h
theorem Nr.mul {z W n : Int} (h : Nr z W) (hn : 0 ≤ n) : Nr (n * z) (n * W) := by
  unfold Nr at *
  have h1 := Int.mul_le_mul_of_nonneg_left h.1 hn
  have h2 := Int.mul_le_mul_of_nonneg_left h.2 hn
  have e : n * (9007199254740992 * z) = 9007199254740992 * (n * z) := Int.mul_left_comm ..
  have e2 : n * -W = -(n * W) := Int.mul_neg ..
  omega

theorem am {x y a b : Int} (hx : (x.natAbs : Int) ≤ a) (hy : (y.natAbs : Int) ≤ b) : ((x * y).natAbs : Int) ≤ a * b := by
  rw [Int.natAbs_mul, Int.natCast_mul]
  exact Int.mul_le_mul hx hy (Int.natCast_nonneg _) (by omega)

/-- The square of what is near A is near A². -/
theorem sq_near {n A t : Int} (hA : 0 ≤ A) (hn : 0 ≤ n) (hn2 : n ≤ 131073) (h : Nr (t - A) (2 * (n * A))) : Nr (t * t - A * A) (6 * (n * (A * A))) ∧ 0 ≤ t ∧ t ≤ 2 * A ∧ t * t ≤ 2 * (A * A) := by
  have hnA : n * A ≤ 131073 * A := Int.mul_le_mul_of_nonneg_right hn2 hA
  have hnA0 : 0 ≤ n * A := Int.mul_nonneg hn hA
  have h' := h
  unfold Nr at h'
  have ht0 : 0 ≤ t := by omega
  have ht2 : t ≤ 2 * A := by omega
  have e : t * t - A * A = (t - A) * (t + A) := by
    rw [Int.sub_mul, Int.mul_add, Int.mul_add, Int.mul_comm A t]; omega
  have hb := am (x := 9007199254740992 * (t - A)) (y := t + A) (a := 2 * (n * A)) (b := 3 * A) (by omega) (by omega)
  have e2 : 9007199254740992 * (t - A) * (t + A) = 9007199254740992 * (t * t - A * A) := by rw [e, Int.mul_assoc]
  have e3 : 2 * (n * A) * (3 * A) = 6 * (n * (A * A)) := by
    rw [Int.mul_assoc, Int.mul_left_comm (n * A), Int.mul_assoc n A A]; omega
  rw [e2, e3] at hb
  have hnAA : n * (A * A) ≤ 131073 * (A * A) := Int.mul_le_mul_of_nonneg_right hn2 (Int.mul_nonneg hA hA)
  refine ⟨by unfold Nr; omega, ht0, ht2, by omega⟩

/-- total*total, rounded; over n, rounded. 'u' is one, in units. -/
theorem quot_near {n A u t p q : Int} (hA : 0 ≤ A) (hn : 1 ≤ n) (hn2 : n ≤ 131072) (hu : 0 < u) (hbig : 1329227995784915872903807060280344576 * u ≤ A * A)
    (ht : Nr (t - A) (2 * (n * A))) (hp : Nr (p * u - t * t) (t * t + 4503599627370496 * u)) (hp0 : 0 ≤ p)
    (hq : Nr (q * (n * u) - p * u) (2 * (p * u) + 4503599627370496 * (n * u))) : Nr (n * (q * u) - A * A) (6 * (n * (A * A)) + 8 * (A * A)) := by
  obtain ⟨s1, s2, s3, s4⟩ := sq_near hA (by omega) (by omega) ht
  have hnu : n * u ≤ 131072 * u := Int.mul_le_mul_of_nonneg_right hn2 (by omega)
  have hnu0 : 0 ≤ n * u := Int.mul_nonneg (by omega) (by omega)
  have e : q * (n * u) = n * (q * u) := Int.mul_left_comm ..
  rw [e] at hq
  have hnAA : n * (A * A) ≤ 131072 * (A * A) := Int.mul_le_mul_of_nonneg_right hn2 (Int.mul_nonneg hA hA)
  have hnAA0 : 0 ≤ n * (A * A) := Int.mul_nonneg (by omega) (Int.mul_nonneg hA hA)
  unfold Nr at *
  generalize n * (A * A) = X at *
  generalize A * A = Y at *
  generalize t * t = Z at *
  generalize p * u = P at *
  generalize n * (q * u) = Q at *
  generalize n * u = W at *
  omega

/-- The one-pass variance: n(n-1)v is near N = nB - A², to a part of G = nB. -/
theorem onepass {n A B u t p q s d m v : Int} (hA : 0 ≤ A) (hB : 0 ≤ B) (hn : 2 ≤ n) (hn2 : n ≤ 131072) (hu : 1329227995784915872903807060280344576 ≤ u) (hbig : 1329227995784915872903807060280344576 * u ≤ A * A) (hcs : A * A ≤ n * B)
    (ht : Nr (t - A) (2 * (n * A))) (hp : Nr (p * u - t * t) (t * t + 4503599627370496 * u)) (hp0 : 0 ≤ p)
    (hq : Nr (q * (n * u) - p * u) (2 * (p * u) + 4503599627370496 * (n * u))) (hq0 : 0 ≤ q)
    (hs : Nr (s * u - B) (4 * (n * B) + 2 * B)) (hs0 : 0 ≤ s)
    (hd : Nr (d - (s - q)) ((s - q).natAbs : Int)) (hm : (0 ≤ d ∧ m = d) ∨ (d ≤ 0 ∧ m = 0))
    (hv : Nr (v * ((n - 1) * u) - m * u) (2 * (m * u) + 4503599627370496 * ((n - 1) * u))) :
    Nr (n * ((n - 1) * (v * u)) - (n * B - A * A)) (10 * (n * (n * B)) + 17 * (n * B)) := by
  have hqn := quot_near hA (by omega) hn2 (by omega) hbig ht hp hp0 hq
  have hsn := hs.mul (n := n) (by omega)
  have e1 : n * (s * u - B) = n * (s * u) - n * B := Int.mul_sub ..
  have e2 : n * (4 * (n * B) + 2 * B) = 4 * (n * (n * B)) + 2 * (n * B) := by rw [Int.mul_add, Int.mul_left_comm, Int.mul_left_comm n 2]
  rw [e1, e2] at hsn
  have hG0 : 0 ≤ n * B := Int.mul_nonneg (by omega) hB
  have hH : n * (n * B) ≤ 131072 * (n * B) := Int.mul_le_mul_of_nonneg_right hn2 hG0
  have hH0 : 0 ≤ n * (n * B) := Int.mul_nonneg (by omega) hG0
  have hAA0 : 0 ≤ A * A := Int.mul_nonneg hA hA
  have hnAA : n * (A * A) ≤ n * (n * B) := Int.mul_le_mul_of_nonneg_left hcs (by omega)
  have hnAA0 : 0 ≤ n * (A * A) := Int.mul_nonneg (by omega) hAA0
  -- the difference, times n*u
  have hnu0 : 0 ≤ n * u := Int.mul_nonneg (by omega) (by omega)
  have hnu : n * u ≤ 131072 * u := Int.mul_le_mul_of_nonneg_right hn2 (by omega)
  have hd1 : Nr (n * (d * u) - (n * (s * u) - n * (q * u))) ((n * (s * u) - n * (q * u)).natAbs : Int) := by
    have h := hd.mul (n := n * u) hnu0
    have f1 : n * u * (d - (s - q)) = n * (d * u) - (n * (s * u) - n * (q * u)) := by
      rw [Int.mul_sub, Int.mul_sub, Int.mul_assoc, Int.mul_assoc, Int.mul_assoc, Int.mul_comm u d, Int.mul_comm u s, Int.mul_comm u q]
    have f2 : n * u * ((s - q).natAbs : Int) = ((n * (s * u) - n * (q * u)).natAbs : Int) := by
      have g : n * (s * u) - n * (q * u) = n * u * (s - q) := by
        rw [Int.mul_sub, Int.mul_assoc, Int.mul_assoc, Int.mul_comm u s, Int.mul_comm u q]
      rw [g, Int.natAbs_mul, Int.natCast_mul, Int.natAbs_of_nonneg hnu0]
    rw [f1, f2] at h; exact h
  have hsu0 : 0 ≤ n * (s * u) := Int.mul_nonneg (by omega) (Int.mul_nonneg hs0 (by omega))
  have hqu0 : 0 ≤ n * (q * u) := Int.mul_nonneg (by omega) (Int.mul_nonneg hq0 (by omega))
  -- m
  have hm1 : (0 ≤ n * (d * u) ∧ n * (m * u) = n * (d * u)) ∨ (n * (d * u) ≤ 0 ∧ n * (m * u) = 0) := by
    rcases hm with ⟨h, rfl⟩ | ⟨h, rfl⟩
    · exact .inl ⟨Int.mul_nonneg (by omega) (Int.mul_nonneg h (by omega)), rfl⟩
    · right
      refine ⟨?_, by simp⟩
      have h1 : d * u ≤ 0 := Int.mul_nonpos_of_nonpos_of_nonneg h (by omega)
      exact Int.mul_nonpos_of_nonneg_of_nonpos (by omega) h1
  -- v
  have hvn := hv.mul (n := n) (by omega)
  have g1 : n * (v * ((n - 1) * u) - m * u) = n * ((n - 1) * (v * u)) - n * (m * u) := by rw [Int.mul_sub, Int.mul_left_comm v]
  have g2 : n * (2 * (m * u) + 4503599627370496 * ((n - 1) * u)) = 2 * (n * (m * u)) + 4503599627370496 * ((n - 1) * (n * u)) := by
    rw [Int.mul_add, Int.mul_left_comm n 2, Int.mul_left_comm n 4503599627370496, Int.mul_left_comm n (n - 1)]
  rw [g1, g2] at hvn
  have hn1 : (n - 1) * (n * u) ≤ 131072 * (n * u) := Int.mul_le_mul_of_nonneg_right (by omega) hnu0
  have hn10 : 0 ≤ (n - 1) * (n * u) := Int.mul_nonneg (by omega) hnu0
  unfold Nr at *
  generalize (n - 1) * (n * u) = W2 at *
  generalize n * ((n - 1) * (v * u)) = VV at *
  generalize n * (m * u) = MM at *
  generalize n * (d * u) = DD at *
  generalize n * (s * u) = SS at *
  generalize n * (q * u) = QQ at *
  generalize n * (A * A) = X at *
  generalize n * (n * B) = H at *
  generalize n * B = G at *
  generalize A * A = Y at *
  generalize n * u = W at *
  clear ht hp hq hs hd hv hm
  omega

theorem Nr.cancel {z W u : Int} (hu : 0 < u) (h : Nr (u * z) (u * W)) : Nr z W := by
  unfold Nr at *
  have e : 9007199254740992 * (u * z) = u * (9007199254740992 * z) := Int.mul_left_comm ..
  have e2 : -(u * W) = u * -W := (Int.mul_neg ..).symm
  rw [e, e2] at h
  exact ⟨Int.le_of_mul_le_mul_left h.1 hu, Int.le_of_mul_le_mul_left h.2 hu⟩

/-- The mean: n times it is near A. -/
theorem mean_near {n A u t mu : Int} (hA : 1267650600228229401496703205376 ≤ A) (hn : 1 ≤ n) (hn2 : n ≤ 131072) (hu : 0 < u)
    (ht : Nr (t - A) (2 * (n * A))) (hm : Nr (mu * (n * u) - t * u) (2 * (t * u) + 4503599627370496 * (n * u))) : Nr (n * mu - A) (2 * (n * A) + 5 * A) := by
  have h : Nr (n * mu - t) (2 * t + 4503599627370496 * n) := by
    apply Nr.cancel hu
    have e1 : u * (n * mu - t) = mu * (n * u) - t * u := by rw [Int.mul_sub, Int.mul_comm u t, Int.mul_left_comm mu n u, Int.mul_comm mu u, Int.mul_left_comm u n mu]
    have e2 : u * (2 * t + 4503599627370496 * n) = 2 * (t * u) + 4503599627370496 * (n * u) := by rw [Int.mul_add, Int.mul_left_comm, Int.mul_left_comm u, Int.mul_comm u t, Int.mul_comm u n]
    rw [e1, e2]; exact hm
  have hnA : n * A ≤ 131072 * A := Int.mul_le_mul_of_nonneg_right hn2 (by omega)
  have hnA0 : 0 ≤ n * A := Int.mul_nonneg (by omega) (by omega)
  unfold Nr at *
  generalize n * A = X at *
  generalize n * mu = M at *
  clear hm
  omega

/-- The two-pass variance: n(n-1)mo is near N = nB - A². -/
theorem twopass {n A B u t mu SE D mo : Int} (hA : 1267650600228229401496703205376 ≤ A) (hB : 0 ≤ B) (hn : 2 ≤ n) (hn2 : n ≤ 131072) (hu : 1329227995784915872903807060280344576 ≤ u) (hbig : 1329227995784915872903807060280344576 * u ≤ A * A) (hcs : A * A ≤ n * B)
    (ht : Nr (t - A) (2 * (n * A))) (hmu : Nr (mu * (n * u) - t * u) (2 * (t * u) + 4503599627370496 * (n * u)))
    (hSE : n * SE = (n * B - A * A) + (n * mu - A) * (n * mu - A)) (hSE0 : 0 ≤ SE) (hD0 : 0 ≤ D)
    (hD : Nr (D * u - SE) (4 * (n * SE) + 5 * SE + (2 * (n * n) + 4503599627370496 * n) * u))
    (hmo : Nr (mo * ((n - 1) * u) - D * u) (2 * (D * u) + 4503599627370496 * ((n - 1) * u))) :
    Nr (n * ((n - 1) * (mo * u)) - (n * B - A * A)) (10 * (n * (n * B)) + 21 * (n * B)) := by
  have hmn := mean_near hA (by omega) hn2 (by omega) ht hmu
  have hG0 : 0 ≤ n * B := Int.mul_nonneg (by omega) hB
  have hH : n * (n * B) ≤ 131072 * (n * B) := Int.mul_le_mul_of_nonneg_right hn2 hG0
  have hH0 : 0 ≤ n * (n * B) := Int.mul_nonneg (by omega) hG0
  have hAA0 : 0 ≤ A * A := Int.mul_nonneg (by omega) (by omega)
  have hnAA : n * (A * A) ≤ n * (n * B) := Int.mul_le_mul_of_nonneg_left hcs (by omega)
  have hnA : n * A ≤ 131072 * A := Int.mul_le_mul_of_nonneg_right hn2 (by omega)
  have hnA0 : 0 ≤ n * A := Int.mul_nonneg (by omega) (by omega)
  -- the square of the mean's error
  have hsq : 9007199254740992 * ((n * mu - A) * (n * mu - A)) ≤ 2 * (n * (n * B)) + 5 * (n * B) := by
    have hb := am (x := 9007199254740992 * (n * mu - A)) (y := n * mu - A) (a := 2 * (n * A) + 5 * A) (b := A) (by unfold Nr at hmn; omega) (by unfold Nr at hmn; omega)
    have f1 : 9007199254740992 * (n * mu - A) * (n * mu - A) = 9007199254740992 * ((n * mu - A) * (n * mu - A)) := Int.mul_assoc ..
    have f2 : (2 * (n * A) + 5 * A) * A = 2 * (n * (A * A)) + 5 * (A * A) := by rw [Int.add_mul, Int.mul_assoc, Int.mul_assoc, Int.mul_assoc]
    rw [f1, f2] at hb
    omega
  have hsq0 : 0 ≤ (n * mu - A) * (n * mu - A) := by
    rcases Int.le_total 0 (n * mu - A) with h | h
    · exact Int.mul_nonneg h h
    · exact Int.mul_nonneg_of_nonpos_of_nonpos h h
  generalize (n * mu - A) * (n * mu - A) = E2 at *
  -- n * SE
  have hnSE : n * (n * SE) ≤ 131072 * (n * SE) := Int.mul_le_mul_of_nonneg_right hn2 (Int.mul_nonneg (by omega) hSE0)
  have hnSE1 : n * (n * SE) = n * (n * B) - n * (A * A) + n * E2 := by rw [hSE, Int.mul_add, Int.mul_sub]
  have hnE : n * E2 ≤ 131072 * E2 := Int.mul_le_mul_of_nonneg_right hn2 hsq0
  have hnE0 : 0 ≤ n * E2 := Int.mul_nonneg (by omega) hsq0
  have hnAA0 : 0 ≤ n * (A * A) := Int.mul_nonneg (by omega) hAA0
  -- the dust
  have hnn : n * n ≤ 131072 * 131072 := Int.mul_le_mul hn2 hn2 (by omega) (by omega)
  have hdust : (2 * (n * n) + 4503599627370496 * n) * u ≤ 1180591620717411303424 * u := Int.mul_le_mul_of_nonneg_right (by omega) (by omega)
  have hdust0 : 0 ≤ (2 * (n * n) + 4503599627370496 * n) * u := Int.mul_nonneg (by have := Int.mul_nonneg (a := n) (b := n) (by omega) (by omega); omega) (by omega)
  have hndust : n * ((2 * (n * n) + 4503599627370496 * n) * u) ≤ 131072 * ((2 * (n * n) + 4503599627370496 * n) * u) := Int.mul_le_mul_of_nonneg_right hn2 hdust0
  generalize (2 * (n * n) + 4503599627370496 * n) * u = Z at *
  -- D, times n
  have hDn := hD.mul (n := n) (by omega)
  have g1 : n * (D * u - SE) = n * (D * u) - n * SE := Int.mul_sub ..
  have g2 : n * (4 * (n * SE) + 5 * SE + Z) = 4 * (n * (n * SE)) + 5 * (n * SE) + n * Z := by
    rw [Int.mul_add, Int.mul_add, Int.mul_left_comm n 4, Int.mul_left_comm n 5]
  rw [g1, g2] at hDn
  -- mo, times n
  have hnu0 : 0 ≤ n * u := Int.mul_nonneg (by omega) (by omega)
  have hnu : n * u ≤ 131072 * u := Int.mul_le_mul_of_nonneg_right hn2 (by omega)
  have hmn2 := hmo.mul (n := n) (by omega)
  have k1 : n * (mo * ((n - 1) * u) - D * u) = n * ((n - 1) * (mo * u)) - n * (D * u) := by rw [Int.mul_sub, Int.mul_left_comm mo]
  have k2 : n * (2 * (D * u) + 4503599627370496 * ((n - 1) * u)) = 2 * (n * (D * u)) + 4503599627370496 * ((n - 1) * (n * u)) := by
    rw [Int.mul_add, Int.mul_left_comm n 2, Int.mul_left_comm n 4503599627370496, Int.mul_left_comm n (n - 1)]
  rw [k1, k2] at hmn2
  have hn1 : (n - 1) * (n * u) ≤ 131072 * (n * u) := Int.mul_le_mul_of_nonneg_right (by omega) hnu0
  have hn10 : 0 ≤ (n - 1) * (n * u) := Int.mul_nonneg (by omega) hnu0
  have hDu0 : 0 ≤ n * (D * u) := Int.mul_nonneg (by omega) (Int.mul_nonneg hD0 (by omega))
  unfold Nr at *
  generalize (n - 1) * (n * u) = W2 at *
  generalize n * ((n - 1) * (mo * u)) = MO at *
  generalize n * (D * u) = DD at *
  generalize n * Z = NZ at *
  generalize n * E2 = NE at *
  generalize n * (n * SE) = H2 at *
  generalize n * SE = G2 at *
  generalize n * (A * A) = X at *
  generalize n * (n * B) = H at *
  generalize n * B = G at *
  generalize A * A = Y at *
  generalize n * u = W at *
  clear ht hmu hD hmo hmn hnA hnA0
  omega

/-- The tolerance, from below. -/
theorem tol_low {n B u s c1 c2 c3 e tol : Int} (hB : 0 ≤ B) (hn : 2 ≤ n) (hn2 : n ≤ 131072) (hu : 1329227995784915872903807060280344576 ≤ u) (hBu : 1329227995784915872903807060280344576 * u ≤ B)
    (hs : Nr (s * u - B) (4 * (n * B) + 2 * B)) (hs0 : 0 ≤ s)
    (h1 : Nr (c1 * u - (32 * u) * ((n + 4) * u)) ((32 * u) * ((n + 4) * u) + 4503599627370496 * u))
    (he : 9007199254740992 * e = u) (h2 : Nr (c2 * u - c1 * e) (c1 * e + 4503599627370496 * u))
    (h3 : Nr (c3 * u - c2 * s) (c2 * s + 4503599627370496 * u))
    (h4 : Nr (tol * ((n - 1) * u) - c3 * u) (2 * (c3 * u) + 4503599627370496 * ((n - 1) * u))) :
    29 * (n * B) + 116 * B ≤ 9007199254740992 * ((n - 1) * (tol * u)) := by
  -- c1
  have k1 : Nr (c1 - 32 * ((n + 4) * u)) (32 * ((n + 4) * u) + 4503599627370496) := by
    apply Nr.cancel (u := u) (by omega)
    have f1 : u * (c1 - 32 * ((n + 4) * u)) = c1 * u - (32 * u) * ((n + 4) * u) := by rw [Int.mul_sub, Int.mul_comm u c1, Int.mul_assoc, Int.mul_left_comm u 32]
    have f2 : u * (32 * ((n + 4) * u) + 4503599627370496) = (32 * u) * ((n + 4) * u) + 4503599627370496 * u := by rw [Int.mul_add, Int.mul_assoc, Int.mul_left_comm u 32, Int.mul_comm u 4503599627370496]
    rw [f1, f2]; exact h1
  -- c = 2^53 c2
  have k2 : Nr (9007199254740992 * c2 - c1) (c1 + 40564819207303340847894502572032) := by
    apply Nr.cancel (u := u) (by omega)
    have h := h2.mul (n := 9007199254740992) (by decide)
    have f1 : 9007199254740992 * (c2 * u - c1 * e) = u * (9007199254740992 * c2 - c1) := by
      rw [Int.mul_sub, Int.mul_left_comm 9007199254740992 c1 e, he, Int.mul_sub, Int.mul_comm u c1, Int.mul_left_comm u, Int.mul_comm u c2]
    have f2 : 9007199254740992 * (c1 * e + 4503599627370496 * u) = u * (c1 + 40564819207303340847894502572032) := by
      rw [Int.mul_add, Int.mul_left_comm 9007199254740992 c1 e, he, Int.mul_add, Int.mul_comm u c1, Int.mul_comm u 40564819207303340847894502572032]; omega
    rw [f1, f2] at h; exact h
  have hnu : 6 * u ≤ (n + 4) * u := Int.mul_le_mul_of_nonneg_right (by omega) (by omega)
  have hc : 31 * ((n + 4) * u) ≤ 9007199254740992 * c2 := by unfold Nr at k1 k2; omega
  -- c * s
  have hcs : 31 * ((n + 4) * (s * u)) ≤ 9007199254740992 * (c2 * s) := by
    have h := Int.mul_le_mul_of_nonneg_right hc hs0
    have f1 : 31 * ((n + 4) * u) * s = 31 * ((n + 4) * (s * u)) := by rw [Int.mul_assoc, Int.mul_assoc, Int.mul_comm u s]
    have f2 : 9007199254740992 * c2 * s = 9007199254740992 * (c2 * s) := Int.mul_assoc ..
    omega
  have hnB : n * B ≤ 131072 * B := Int.mul_le_mul_of_nonneg_right hn2 hB
  have hnB0 : 0 ≤ n * B := Int.mul_nonneg (by omega) hB
  -- (n+4)(s u) against (n+4) B
  have hsB := hs.mul (n := n + 4) (by omega)
  have g1 : (n + 4) * (s * u - B) = (n + 4) * (s * u) - (n * B + 4 * B) := by rw [Int.mul_sub, Int.add_mul n 4 B]
  have g2 : (n + 4) * (4 * (n * B) + 2 * B) = 4 * (n * (n * B)) + 18 * (n * B) + 8 * B := by
    rw [Int.add_mul, Int.mul_add n, Int.mul_left_comm n 4, Int.mul_left_comm n 2]; omega
  rw [g1, g2] at hsB
  have hH : n * (n * B) ≤ 131072 * (n * B) := Int.mul_le_mul_of_nonneg_right hn2 hnB0
  have hn1 : (n - 1) * u ≤ 131072 * u := Int.mul_le_mul_of_nonneg_right (by omega) (by omega)
  have hn10 : 0 ≤ (n - 1) * u := Int.mul_nonneg (by omega) (by omega)
  have et : tol * ((n - 1) * u) = (n - 1) * (tol * u) := Int.mul_left_comm ..
  rw [et] at h4
  unfold Nr at *
  generalize (n - 1) * (tol * u) = T at *
  generalize (n - 1) * u = W at *
  generalize c3 * u = C3 at *
  generalize c2 * s = CS at *
  generalize (n + 4) * (s * u) = S4 at *
  generalize n * (n * B) = H at *
  generalize n * B = G at *
  clear h1 h2 hs k1 k2 hc he
  omega

/-- THE LAW: the difference of the two lies within the tolerance. -/
theorem within {n B N u v mo w tol : Int} (hB : 0 ≤ B) (hn : 2 ≤ n) (hn2 : n ≤ 131072) (hu : 0 < u)
    (hv : Nr (n * ((n - 1) * (v * u)) - N) (10 * (n * (n * B)) + 17 * (n * B)))
    (hm : Nr (n * ((n - 1) * (mo * u)) - N) (10 * (n * (n * B)) + 21 * (n * B)))
    (hw : Nr (w - (v - mo)) ((v - mo).natAbs : Int))
    (ht : 29 * (n * B) + 116 * B ≤ 9007199254740992 * ((n - 1) * (tol * u))) : (w.natAbs : Int) ≤ tol := by
  -- the factor n (n-1) u
  obtain ⟨c, hc⟩ : ∃ c, c = n * ((n - 1) * u) := ⟨_, rfl⟩
  have hc0 : 0 < c := by rw [hc]; exact Int.mul_pos (by omega) (Int.mul_pos (by omega) hu)
  have e : ∀ z, n * ((n - 1) * (z * u)) = c * z := fun z => by
    rw [hc, Int.mul_comm z u, Int.mul_assoc n, Int.mul_assoc (n - 1)]
  rw [e] at hv hm
  have ht2 := Int.mul_le_mul_of_nonneg_left ht (show 0 ≤ n by omega)
  have e1 : n * (29 * (n * B) + 116 * B) = 29 * (n * (n * B)) + 116 * (n * B) := by rw [Int.mul_add, Int.mul_left_comm n 29, Int.mul_left_comm n 116]
  have e2 : n * (9007199254740992 * ((n - 1) * (tol * u))) = 9007199254740992 * (c * tol) := by rw [Int.mul_left_comm n, e]
  rw [e1, e2] at ht2
  have hwc := hw.mul (n := c) (by omega)
  have e3 : c * (w - (v - mo)) = c * w - (c * v - c * mo) := by rw [Int.mul_sub, Int.mul_sub]
  have e4 : c * ((v - mo).natAbs : Int) = ((c * v - c * mo).natAbs : Int) := by
    have h : (c.natAbs : Int) = c := by omega
    rw [← Int.mul_sub, Int.natAbs_mul, Int.natCast_mul, h]
  rw [e3, e4] at hwc
  have hG0 : 0 ≤ n * B := Int.mul_nonneg (by omega) hB
  have hH : n * (n * B) ≤ 131072 * (n * B) := Int.mul_le_mul_of_nonneg_right hn2 hG0
  have hH0 : 0 ≤ n * (n * B) := Int.mul_nonneg (by omega) hG0
  have a1 : c * w ≤ c * tol := by
    unfold Nr at *
    generalize c * w = CW at *
    generalize c * v = CV at *
    generalize c * mo = CM at *
    generalize c * tol = CT at *
    generalize n * (n * B) = H at *
    generalize n * B = G at *
    clear hw ht e1 e2 e3 e4 e
    omega
  have a2 : c * -w ≤ c * tol := by
    rw [Int.mul_neg]
    unfold Nr at *
    generalize c * w = CW at *
    generalize c * v = CV at *
    generalize c * mo = CM at *
    generalize c * tol = CT at *
    generalize n * (n * B) = H at *
    generalize n * B = G at *
    clear hw ht e1 e2 e3 e4 e
    omega
  have b1 := Int.le_of_mul_le_mul_left a1 hc0
  have b2 := Int.le_of_mul_le_mul_left a2 hc0
  omega
end Vn
end Go.Proofs.Qxb6601435aMods
