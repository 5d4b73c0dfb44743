/- The plain law of FnVarianceMatchesTwoPass: over lists of finite floats. No Go in sight. -/
import Derived.Test.Qxb6601435aModsVf
namespace Go.Proofs.Qxb6601435aMods
namespace Vp
open Ieee Fl Vn Vf
set_option linter.unusedVariables false
set_option linter.unusedSimpArgs false

/-- 2^66. -/
def Mx : Int := 73786976294838206464 * U

/-- What is known of the elements. -/
def Ok (xs : List Nat) : Prop := ∀ x ∈ xs, Fnt x ∧ 0 ≤ V x ∧ V x ≤ Mx

def sq (x : Nat) : Nat := fmul x x
def dsq (mu x : Nat) : Nat := fmul (fsub x mu) (fsub x mu)
def tot (xs : List Nat) : Nat := xs.foldl fadd 0
def sqs (xs : List Nat) : Nat := (xs.map sq).foldl fadd 0
def dvs (mu : Nat) (xs : List Nat) : Nat := (xs.map (dsq mu)).foldl fadd 0

theorem sumF_map (f : Nat → Int) (g : Nat → Nat) (xs : List Nat) : sumF f (xs.map g) = sumF (fun x => f (g x)) xs := by
  induction xs with
  | nil => rfl
  | cons x t ih => simp only [List.map_cons, sumF, ih]

/-- Term by term near, so the sums are near. -/
theorem near_sum {f g : Nat → Int} {xs : List Nat} {c D : Int} (h : ∀ x ∈ xs, Nr (f x * U - g x) (c * g x + D)) :
    Nr (sumF f xs * U - sumF g xs) (c * sumF g xs + (xs.length : Int) * D) := by
  induction xs with
  | nil => simp only [sumF, List.length_nil]; unfold Nr; simp
  | cons x t ih =>
    have h1 := h x (List.mem_cons_self ..)
    have h2 := ih (fun y hy => h y (List.mem_cons_of_mem _ hy))
    have h3 := h1.add h2
    simp only [sumF, List.length_cons, Int.natCast_add]
    have e1 : (f x + sumF f t) * U - (g x + sumF g t) = f x * U - g x + (sumF f t * U - sumF g t) := by rw [Int.add_mul]; omega
    have e2 : c * (g x + sumF g t) + ((t.length : Int) + ((1 : Nat) : Int)) * D = c * g x + D + (c * sumF g t + (t.length : Int) * D) := by
      rw [Int.mul_add, Int.add_mul]; simp; omega
    rw [e1, e2]; exact h3

theorem Mx_pos : 0 ≤ Mx := Int.mul_nonneg (by decide) (by have := U_pos; omega)
theorem Mx_sq : Mx * Mx = 5444517870735015415413993718908291383296 * U * U := by
  unfold Mx
  rw [Int.mul_assoc, Int.mul_left_comm U, ← Int.mul_assoc, ← Int.mul_assoc]; rfl

theorem CbUU : (170141183460469231731687303715884105728 * 1329227995784915872903807060280344576) * (U * U) ≤ Cb * (U * U) :=
  Int.mul_le_mul_of_nonneg_right (by decide) (Int.mul_nonneg (by have := U_pos; omega) (by have := U_pos; omega))
theorem CbU : (170141183460469231731687303715884105728 * 1329227995784915872903807060280344576) * U ≤ Cb * U :=
  Int.mul_le_mul_of_nonneg_right (by decide) (by have := U_pos; omega)

theorem A_le {xs : List Nat} {n : Nat} (hok : Ok xs) (hl : xs.length = n) (hn : n ≤ 131072) : sumF V xs ≤ 9671406556917033397649408 * U := by
  have h := sumF_le (f := V) (xs := xs) (M := Mx) (fun x hx => (hok x hx).2.2)
  rw [hl] at h
  have h2 : (n : Int) * Mx ≤ 131072 * Mx := Int.mul_le_mul_of_nonneg_right (by omega) Mx_pos
  unfold Mx at *
  omega

theorem tot_ok {xs : List Nat} {n : Nat} (hok : Ok xs) (hl : xs.length = n) (hn : n ≤ 131072) : Sm (tot xs) (sumF V xs) n := by
  have h := Sm.all (qs := xs) Sm.zero (by omega) (by omega) (fun q hq => ⟨(hok q hq).1, (hok q hq).2.1⟩) (by have := A_le hok hl hn; have := CbU; have := U_pos; omega)
  rw [hl] at h
  unfold tot
  simpa using h

theorem tot_step {xs : List Nat} {n : Nat} (hok : Ok xs) (hl : xs.length = n) (hn : n ≤ 131072) {k : Nat} (hk : k < xs.length) : double.add (tot (xs.take k)) xs[k] = some (tot (xs.take (k + 1))) :=
  Sm.prefix hk (by omega) (fun q hq => ⟨(hok q hq).1, (hok q hq).2.1⟩) (by have := A_le hok hl hn; have := CbU; have := U_pos; omega)

theorem sq_ok {xs : List Nat} {n : Nat} (hok : Ok xs) (hl : xs.length = n) (hn : n ≤ 131072) {x : Nat} (hx : x ∈ xs) : double.mul x x = some (sq x) ∧ Fnt (sq x) ∧ Nr (V (sq x) * U - V x * V x) (V x * V x + 4503599627370496 * U) ∧ 0 ≤ V (sq x) ∧ V (sq x) ≤ 10889035741470030830827987437816582766593 * U := by
  obtain ⟨h1, h2, h3⟩ := hok x hx
  have hp : V x * V x ≤ Mx * Mx := Int.mul_le_mul h3 h3 h2 Mx_pos
  rw [Mx_sq, Int.mul_assoc] at hp
  have hUU : 0 ≤ U * U := Int.mul_nonneg (by have := U_pos; omega) (by have := U_pos; omega)
  obtain ⟨e, f, nr, nn, bd⟩ := mul_ok h1 h1 (Int.mul_nonneg h2 h2) (by have := CbUU; generalize U * U = W at *; generalize V x * V x = P at *; omega)
  have := bd (5444517870735015415413993718908291383296 * U) (by rw [Int.mul_assoc]; exact hp)
  refine ⟨e, f, nr, nn, ?_⟩
  have := U_big
  unfold sq
  omega

theorem Q_le {xs : List Nat} {n : Nat} (hok : Ok xs) (hl : xs.length = n) (hn : n ≤ 131072) : sumF V (xs.map sq) ≤ 2854495385411919762116571938898990272765493248 * U := by
  rw [sumF_map]
  have h := sumF_le (f := fun x => V (sq x)) (xs := xs) (M := 10889035741470030830827987437816582766593 * U) (fun x hx => (sq_ok hok hl hn hx).2.2.2.2)
  rw [hl] at h
  have h2 : (n : Int) * (10889035741470030830827987437816582766593 * U) ≤ 131072 * (10889035741470030830827987437816582766593 * U) := Int.mul_le_mul_of_nonneg_right (by omega) (Int.mul_nonneg (by decide) (by have := U_pos; omega))
  have := U_pos
  omega

theorem sqs_each {xs : List Nat} {n : Nat} (hok : Ok xs) (hl : xs.length = n) (hn : n ≤ 131072) : ∀ q ∈ xs.map sq, Fnt q ∧ 0 ≤ V q := by
  intro q hq
  obtain ⟨x, hx, rfl⟩ := List.mem_map.1 hq
  have := sq_ok hok hl hn hx
  exact ⟨this.2.1, this.2.2.2.1⟩

theorem sqs_ok {xs : List Nat} {n : Nat} (hok : Ok xs) (hl : xs.length = n) (hn : n ≤ 131072) : Sm (sqs xs) (sumF V (xs.map sq)) n := by
  have h := Sm.all (qs := xs.map sq) Sm.zero (by omega) (by simp; omega) (sqs_each hok hl hn) (by have := Q_le hok hl hn; have := CbU; have := U_pos; omega)
  rw [List.length_map, hl] at h
  unfold sqs
  simpa using h

theorem sqs_step {xs : List Nat} {n : Nat} (hok : Ok xs) (hl : xs.length = n) (hn : n ≤ 131072) {k : Nat} (hk : k < xs.length) : double.mul xs[k] xs[k] = some (sq xs[k]) ∧ double.add (sqs (xs.take k)) (sq xs[k]) = some (sqs (xs.take (k + 1))) := by
  refine ⟨(sq_ok hok hl hn (List.getElem_mem hk)).1, ?_⟩
  have h := Sm.prefix (qs := xs.map sq) (k := k) (by simpa using hk) (by simp; omega) (sqs_each hok hl hn) (by have := Q_le hok hl hn; have := CbU; have := U_pos; omega)
  simp only [List.getElem_map] at h
  unfold sqs
  rw [List.map_take, List.map_take]
  exact h

/-- squares, in one: near B. -/
theorem sqs_near {xs : List Nat} {n : Nat} (hok : Ok xs) (hl : xs.length = n) (hn : n ≤ 131072) (hn1 : 1 ≤ n) (hBu : 1329227995784915872903807060280344576 * U ≤ sumF (fun x => V x * V x) xs) :
    Nr (V (sqs xs) * U - sumF (fun x => V x * V x) xs) (4 * ((n : Int) * sumF (fun x => V x * V x) xs) + 2 * sumF (fun x => V x * V x) xs) := by
  have h1 := near_sum (f := fun x => V (sq x)) (g := fun x => V x * V x) (xs := xs) (c := 1) (D := 4503599627370496 * U) (fun x hx => by
    have := (sq_ok hok hl hn hx).2.2.1
    rw [Int.one_mul]; exact this)
  rw [hl, Int.one_mul, ← sumF_map V sq] at h1
  obtain ⟨_, hQ0, h2⟩ := sqs_ok hok hl hn
  have hU := U_pos
  have h3 := h2.mul (n := U) (by omega)
  generalize sumF V (xs.map sq) = Q at *
  generalize sumF (fun x => V x * V x) xs = B at *
  have e1 : U * (V (sqs xs) - Q) = V (sqs xs) * U - Q * U := by rw [Int.mul_sub, Int.mul_comm U, Int.mul_comm U Q]
  have e2 : U * (2 * ((n : Int) * Q)) = 2 * ((n : Int) * (Q * U)) := by rw [Int.mul_left_comm, Int.mul_left_comm U, Int.mul_comm U Q]
  rw [e1, e2] at h3
  have hnU : (n : Int) * (4503599627370496 * U) ≤ 131072 * (4503599627370496 * U) := Int.mul_le_mul_of_nonneg_right (by omega) (by omega)
  have hnU0 : 0 ≤ (n : Int) * (4503599627370496 * U) := Int.mul_nonneg (by omega) (by omega)
  have hQU : Q * U ≤ 2 * B := by
    unfold Nr at h1
    generalize Q * U = QU at *
    generalize (n : Int) * (4503599627370496 * U) = W at *
    omega
  have hnQ : (n : Int) * (Q * U) ≤ (n : Int) * (2 * B) := Int.mul_le_mul_of_nonneg_left hQU (by omega)
  have e3 : (n : Int) * (2 * B) = 2 * ((n : Int) * B) := Int.mul_left_comm ..
  have hQU0 : 0 ≤ Q * U := Int.mul_nonneg hQ0 (by omega)
  unfold Nr at *
  generalize (n : Int) * (4503599627370496 * U) = W at *
  generalize (n : Int) * (Q * U) = NQ at *
  generalize (n : Int) * B = NB at *
  generalize Q * U = QU at *
  generalize V (sqs xs) * U = SU at *
  omega

/-! ### The second pass -/
/-- What is known of the mean. -/
def Mu (mu : Nat) : Prop := Fnt mu ∧ 0 ≤ V mu ∧ V mu ≤ 1237940039285380274899124224 * U

theorem sq_close {d E : Int} (h : Nr (d - E) ((E.natAbs : Int))) : Nr (d * d - E * E) (3 * (E * E)) ∧ d * d ≤ 2 * (E * E) := by
  have hb := am (x := 9007199254740992 * (d - E)) (y := d + E) (a := (E.natAbs : Int)) (b := 3 * (E.natAbs : Int)) (by unfold Nr at h; omega) (by unfold Nr at h; omega)
  have e1 : 9007199254740992 * (d - E) * (d + E) = 9007199254740992 * (d * d - E * E) := by
    rw [Int.mul_assoc, Int.sub_mul, Int.mul_add, Int.mul_add, Int.mul_comm E d]; omega
  have e2 : (E.natAbs : Int) * (3 * (E.natAbs : Int)) = 3 * (E * E) := by
    rw [Int.mul_left_comm, ← Int.natCast_mul, ← Int.natAbs_mul]
    have h0 : 0 ≤ E * E := by
      rcases Int.le_total 0 E with h | h
      · exact Int.mul_nonneg h h
      · exact Int.mul_nonneg_of_nonpos_of_nonpos h h
    omega
  rw [e1, e2] at hb
  have h0 : 0 ≤ E * E := by
    rcases Int.le_total 0 E with h | h
    · exact Int.mul_nonneg h h
    · exact Int.mul_nonneg_of_nonpos_of_nonpos h h
  unfold Nr
  generalize d * d = A at *
  generalize E * E = B at *
  omega

theorem sqr_nonneg (z : Int) : 0 ≤ z * z := by
  rcases Int.le_total 0 z with h | h
  · exact Int.mul_nonneg h h
  · exact Int.mul_nonneg_of_nonpos_of_nonpos h h

theorem sqr_le {z b : Int} (h : (z.natAbs : Int) ≤ b) : z * z ≤ b * b := by
  have := am h h
  have h0 := sqr_nonneg z
  generalize z * z = A at *
  omega

theorem dsq_ok {mu x : Nat} (hmu : Mu mu) (hx : Fnt x ∧ 0 ≤ V x ∧ V x ≤ Mx) :
    double.sub x mu = some (fsub x mu) ∧ double.mul (fsub x mu) (fsub x mu) = some (dsq mu x) ∧ Fnt (dsq mu x) ∧ 0 ≤ V (dsq mu x) ∧
      Nr (V (dsq mu x) * U - (V x - V mu) * (V x - V mu)) (5 * ((V x - V mu) * (V x - V mu)) + 4503599627370496 * U) ∧ V (dsq mu x) ≤ 24519928653854221733733552434404946937899825954937634816 * U := by
  obtain ⟨h1, h2, h3⟩ := hx
  obtain ⟨m1, m2, m3⟩ := hmu
  have hU := U_pos
  have hC := CbU
  unfold Mx at h3
  have hE : ((V x - V mu).natAbs : Int) ≤ 1237940039285380274899124224 * U := by omega
  obtain ⟨e, f, nr⟩ := sub_ok h1 m1 (by omega) (by omega)
  obtain ⟨c1, c2⟩ := sq_close nr
  have hE2 := sqr_le hE
  have e3 : 1237940039285380274899124224 * U * (1237940039285380274899124224 * U) = 1532495540865888858358347027150309183618739122183602176 * (U * U) := by
    rw [Int.mul_assoc, Int.mul_left_comm U, ← Int.mul_assoc]; rfl
  rw [e3] at hE2
  have hUU : 0 ≤ U * U := sqr_nonneg U
  have hCC := CbUU
  have hd0 := sqr_nonneg (V (fsub x mu))
  obtain ⟨e', f', nr', nn', bd'⟩ := mul_ok f f hd0 (by
    generalize U * U = W at *
    generalize V (fsub x mu) * V (fsub x mu) = P at *
    generalize (V x - V mu) * (V x - V mu) = Q at *
    omega)
  have hb := bd' (3064991081731777716716694054300618367237478244367204352 * U) (by
    rw [Int.mul_assoc]
    generalize U * U = W at *
    generalize V (fsub x mu) * V (fsub x mu) = P at *
    generalize (V x - V mu) * (V x - V mu) = Q at *
    omega)
  refine ⟨e, e', f', nn', ?_, ?_⟩
  · unfold dsq
    unfold Nr at *
    generalize V (fmul (fsub x mu) (fsub x mu)) * U = S at *
    generalize V (fsub x mu) * V (fsub x mu) = P at *
    generalize (V x - V mu) * (V x - V mu) = Q at *
    omega
  · unfold dsq
    have := U_big
    omega

theorem SE_id (mu : Int) (xs : List Nat) : sumF (fun x => (V x - mu) * (V x - mu)) xs = sumF (fun x => V x * V x) xs - 2 * (mu * sumF V xs) + (xs.length : Int) * (mu * mu) := by
  induction xs with
  | nil => simp [sumF]
  | cons x t ih =>
    simp only [sumF, ih, List.length_cons, Int.natCast_add]
    have e1 : (V x - mu) * (V x - mu) = V x * V x - 2 * (mu * V x) + mu * mu := by
      rw [Int.sub_mul, Int.mul_sub, Int.mul_sub, Int.mul_comm (V x) mu]; omega
    have e2 : ((t.length : Int) + ((1 : Nat) : Int)) * (mu * mu) = (t.length : Int) * (mu * mu) + mu * mu := by rw [Int.add_mul]; simp
    rw [e1, e2, Int.mul_add]; omega

theorem SE_n (mu A B n SE : Int) (h : SE = B - 2 * (mu * A) + n * (mu * mu)) : n * SE = (n * B - A * A) + (n * mu - A) * (n * mu - A) := by
  subst h
  have e : (n * mu - A) * (n * mu - A) = n * (n * (mu * mu)) - 2 * (n * (mu * A)) + A * A := by
    rw [Int.sub_mul, Int.mul_sub, Int.mul_sub, Int.mul_assoc n mu (n * mu), Int.mul_left_comm mu n mu, Int.mul_comm A (n * mu), Int.mul_assoc n mu A]; omega
  rw [e, Int.mul_add, Int.mul_sub, Int.mul_left_comm n 2]
  omega

/-- A² ≤ n B. -/
theorem cauchy (xs : List Nat) : sumF V xs * sumF V xs ≤ (xs.length : Int) * sumF (fun x => V x * V x) xs := by
  induction xs with
  | nil => simp [sumF]
  | cons x t ih =>
    by_cases ht : t = []
    · subst ht; simp [sumF]
    have hlen : 0 < t.length := List.length_pos_iff.2 ht
    simp only [sumF, List.length_cons, Int.natCast_add]
    generalize sumF V t = A at *
    generalize sumF (fun x => V x * V x) t = B at *
    generalize hm : ((t.length : Nat) : Int) = m at *
    have hm0 : 0 ≤ m := by rw [← hm]; exact Int.natCast_nonneg _
    generalize V x = y
    -- 2 A y ≤ B + m y y
    have key : 2 * (A * y) ≤ B + m * (y * y) := by
      have h1 := sqr_nonneg (A - m * y)
      have e1 : (A - m * y) * (A - m * y) = A * A - 2 * (m * (A * y)) + m * (m * (y * y)) := by
        rw [Int.sub_mul, Int.mul_sub, Int.mul_sub, Int.mul_left_comm A m y, Int.mul_assoc m y A, Int.mul_comm y A, Int.mul_assoc m y (m * y), Int.mul_left_comm y m y]; omega
      rw [e1] at h1
      have h2 : m * (2 * (A * y)) ≤ m * (B + m * (y * y)) := by
        rw [Int.mul_add, Int.mul_left_comm m 2]; omega
      exact Int.le_of_mul_le_mul_left h2 (by omega)
    have e2 : (y + A) * (y + A) = y * y + 2 * (A * y) + A * A := by rw [Int.add_mul, Int.mul_add, Int.mul_add, Int.mul_comm y A]; omega
    have e3 : (m + ((1 : Nat) : Int)) * (y * y + B) = m * (y * y) + m * B + y * y + B := by rw [Int.add_mul, Int.mul_add]; simp; omega
    rw [e2, e3]
    generalize A * A = AA at *
    generalize A * y = AY at *
    generalize y * y = YY at *
    omega

/-! ### The sum of the second pass -/
theorem Dq_le {xs : List Nat} {n mu : Nat} (hok : Ok xs) (hl : xs.length = n) (hn : n ≤ 131072) (hmu : Mu mu) : sumF V (xs.map (dsq mu)) ≤ 3213876088517980551083924184682325205044405987565585670602752 * U := by
  rw [sumF_map]
  have h := sumF_le (f := fun x => V (dsq mu x)) (xs := xs) (M := 24519928653854221733733552434404946937899825954937634816 * U) (fun x hx => (dsq_ok hmu (hok x hx)).2.2.2.2.2)
  rw [hl] at h
  have h2 : (n : Int) * (24519928653854221733733552434404946937899825954937634816 * U) ≤ 131072 * (24519928653854221733733552434404946937899825954937634816 * U) := Int.mul_le_mul_of_nonneg_right (by omega) (Int.mul_nonneg (by decide) (by have := U_pos; omega))
  have := U_pos
  omega

theorem dvs_each {xs : List Nat} {n mu : Nat} (hok : Ok xs) (hl : xs.length = n) (hn : n ≤ 131072) (hmu : Mu mu) : ∀ q ∈ xs.map (dsq mu), Fnt q ∧ 0 ≤ V q := by
  intro q hq
  obtain ⟨x, hx, rfl⟩ := List.mem_map.1 hq
  have := dsq_ok hmu (hok x hx)
  exact ⟨this.2.2.1, this.2.2.2.1⟩

theorem dvs_ok {xs : List Nat} {n mu : Nat} (hok : Ok xs) (hl : xs.length = n) (hn : n ≤ 131072) (hmu : Mu mu) : Sm (dvs mu xs) (sumF V (xs.map (dsq mu))) n := by
  have h := Sm.all (qs := xs.map (dsq mu)) Sm.zero (by omega) (by simp; omega) (dvs_each hok hl hn hmu) (by have := Dq_le hok hl hn hmu; have := CbU; have := U_pos; omega)
  rw [List.length_map, hl] at h
  unfold dvs
  simpa using h

theorem dvs_step {xs : List Nat} {n mu : Nat} (hok : Ok xs) (hl : xs.length = n) (hn : n ≤ 131072) (hmu : Mu mu) {k : Nat} (hk : k < xs.length) :
    double.sub xs[k] mu = some (fsub xs[k] mu) ∧ double.mul (fsub xs[k] mu) (fsub xs[k] mu) = some (dsq mu xs[k]) ∧ double.add (dvs mu (xs.take k)) (dsq mu xs[k]) = some (dvs mu (xs.take (k + 1))) := by
  obtain ⟨a1, a2, _⟩ := dsq_ok hmu (hok _ (List.getElem_mem hk))
  refine ⟨a1, a2, ?_⟩
  have h := Sm.prefix (qs := xs.map (dsq mu)) (k := k) (by simpa using hk) (by simp; omega) (dvs_each hok hl hn hmu) (by have := Dq_le hok hl hn hmu; have := CbU; have := U_pos; omega)
  simp only [List.getElem_map] at h
  unfold dvs
  rw [List.map_take, List.map_take]
  exact h

theorem dvs_near {xs : List Nat} {n mu : Nat} (hok : Ok xs) (hl : xs.length = n) (hn : n ≤ 131072) (hmu : Mu mu) :
    Nr (V (dvs mu xs) * U - sumF (fun x => (V x - V mu) * (V x - V mu)) xs)
      (4 * ((n : Int) * sumF (fun x => (V x - V mu) * (V x - V mu)) xs) + 5 * sumF (fun x => (V x - V mu) * (V x - V mu)) xs + (2 * ((n : Int) * n) + 4503599627370496 * n) * U) := by
  have h1 := near_sum (f := fun x => V (dsq mu x)) (g := fun x => (V x - V mu) * (V x - V mu)) (xs := xs) (c := 5) (D := 4503599627370496 * U) (fun x hx => (dsq_ok hmu (hok x hx)).2.2.2.2.1)
  rw [hl, ← sumF_map V (dsq mu)] at h1
  obtain ⟨_, hQ0, h2⟩ := dvs_ok hok hl hn hmu
  have hU := U_pos
  have h3 := h2.mul (n := U) (by omega)
  have hSE0 := sumF_nonneg (f := fun x => (V x - V mu) * (V x - V mu)) (xs := xs) (fun x _ => sqr_nonneg _)
  generalize sumF V (xs.map (dsq mu)) = Q at *
  generalize sumF (fun x => (V x - V mu) * (V x - V mu)) xs = SE at *
  have e1 : U * (V (dvs mu xs) - Q) = V (dvs mu xs) * U - Q * U := by rw [Int.mul_sub, Int.mul_comm U, Int.mul_comm U Q]
  have e2 : U * (2 * ((n : Int) * Q)) = 2 * ((n : Int) * (Q * U)) := by rw [Int.mul_left_comm, Int.mul_left_comm U, Int.mul_comm U Q]
  rw [e1, e2] at h3
  have hnU0 : 0 ≤ (n : Int) * U := Int.mul_nonneg (by omega) (by omega)
  have e4 : (n : Int) * (4503599627370496 * U) = 4503599627370496 * ((n : Int) * U) := Int.mul_left_comm ..
  rw [e4] at h1
  have hQU : Q * U ≤ 2 * SE + (n : Int) * U := by
    unfold Nr at h1
    generalize Q * U = QU at *
    generalize (n : Int) * U = W at *
    omega
  have hnQ : (n : Int) * (Q * U) ≤ (n : Int) * (2 * SE + (n : Int) * U) := Int.mul_le_mul_of_nonneg_left hQU (by omega)
  have e3 : (n : Int) * (2 * SE + (n : Int) * U) = 2 * ((n : Int) * SE) + (n : Int) * ((n : Int) * U) := by rw [Int.mul_add, Int.mul_left_comm]
  have e5 : (2 * ((n : Int) * n) + 4503599627370496 * n) * U = 2 * ((n : Int) * ((n : Int) * U)) + 4503599627370496 * ((n : Int) * U) := by
    rw [Int.add_mul, Int.mul_assoc, Int.mul_assoc, Int.mul_assoc]
  rw [e3] at hnQ
  rw [e5]
  have hQU0 : 0 ≤ Q * U := Int.mul_nonneg hQ0 (by omega)
  unfold Nr at *
  generalize (n : Int) * ((n : Int) * U) = W2 at *
  generalize (n : Int) * U = W at *
  generalize (n : Int) * (Q * U) = NQ at *
  generalize (n : Int) * SE = NS at *
  generalize Q * U = QU at *
  generalize V (dvs mu xs) * U = SU at *
  omega

end Vp
end Go.Proofs.Qxb6601435aMods
