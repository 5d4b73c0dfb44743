/- Sums of floats: how near a sum in floats comes. Plain: no Go in sight. -/
import Derived.Test.Qxb6601435aModsFl
import Derived.Test.Qxb6601435aModsVn
namespace Go.Proofs.Qxb6601435aMods
namespace Vf
open Ieee Fl Vn
set_option linter.unusedVariables false
set_option linter.unusedSimpArgs false

def fadd (x y : Nat) : Nat := (double.add x y).getD 0
def fsub (x y : Nat) : Nat := (double.sub x y).getD 0
def fmul (x y : Nat) : Nat := (double.mul x y).getD 0
def fdiv (x y : Nat) : Nat := (double.div x y).getD 0
def cv (n : Nat) : Nat := double.nearest false n 0

/-- A bound far above all that occurs here: 2^300. -/
def Cb : Int := 2037035976334486086268445688409378161051468393665936250636140449354381299763336706183397376

theorem U_big : 1427247692705959881058285969449495136382746624 ≤ U := by
  obtain ⟨k, hk, e⟩ := U_spec
  rw [e]
  have h : (2 : Nat) ^ 150 ≤ 2 ^ k := Nat.pow_le_pow_right (by decide) (by omega)
  have h2 : (2 : Nat) ^ 150 = 1427247692705959881058285969449495136382746624 := by decide
  rw [h2] at h
  exact Int.ofNat_le.2 h
theorem U_pos : 0 < U := by have := U_big; omega

theorem Cb_spec : ∃ c : Nat, c = 300 ∧ Cb = ((2 ^ c : Nat) : Int) := by
  obtain ⟨c, hc⟩ : ∃ c : Nat, c = 150 := ⟨_, rfl⟩
  refine ⟨c + c, by omega, ?_⟩
  rw [Nat.pow_add, hc]; decide

theorem capU {z : Int} (h1 : -(Cb * U) ≤ z) (h2 : z ≤ Cb * U) : z.natAbs < cap 0 := by
  obtain ⟨k, hk, e⟩ := U_spec
  obtain ⟨c, hc, e2⟩ := Cb_spec
  have h3 : 2 ^ c * 2 ^ k < cap 0 := mul_cap (Nat.le_refl _) (by omega)
  have e3 : Cb * U = ((2 ^ c * 2 ^ k : Nat) : Int) := by rw [e, e2, Int.natCast_mul]
  generalize 2 ^ c * 2 ^ k = X at *
  generalize Cb * U = Y at *
  omega
theorem capUU {z : Int} (h1 : -(Cb * (U * U)) ≤ z) (h2 : z ≤ Cb * (U * U)) : z.natAbs < cap 1074 := by
  obtain ⟨k, hk, e⟩ := U_spec
  obtain ⟨c, hc, e2⟩ := Cb_spec
  have h3 : 2 ^ c * (2 ^ k * 2 ^ k) < cap 1074 := by
    rw [pow_split (x := k) (y := k) (z := k + k) rfl]
    exact mul_cap (Nat.le_refl _) (by omega)
  have e3 : Cb * (U * U) = ((2 ^ c * (2 ^ k * 2 ^ k) : Nat) : Int) := by rw [e, e2, Int.natCast_mul, Int.natCast_mul]
  generalize 2 ^ c * (2 ^ k * 2 ^ k) = X at *
  generalize Cb * (U * U) = Y at *
  omega

theorem add_ok {x y : Nat} (hx : Fnt x) (hy : Fnt y) (h1 : -(Cb * U) ≤ V x + V y) (h2 : V x + V y ≤ Cb * U) :
    double.add x y = some (fadd x y) ∧ Fnt (fadd x y) ∧ Nr (V (fadd x y) - (V x + V y)) ((V x + V y).natAbs : Int) := by
  obtain ⟨r, e, hf, hn⟩ := add_spec hx hy (capU h1 h2)
  have : fadd x y = r := by unfold fadd; rw [e]; rfl
  rw [this]; exact ⟨e, hf, Nr.of_abs hn⟩
theorem sub_ok {x y : Nat} (hx : Fnt x) (hy : Fnt y) (h1 : -(Cb * U) ≤ V x - V y) (h2 : V x - V y ≤ Cb * U) :
    double.sub x y = some (fsub x y) ∧ Fnt (fsub x y) ∧ Nr (V (fsub x y) - (V x - V y)) ((V x - V y).natAbs : Int) := by
  obtain ⟨r, e, hf, hn⟩ := sub_spec hx hy (capU h1 h2)
  have : fsub x y = r := by unfold fsub; rw [e]; rfl
  rw [this]; exact ⟨e, hf, Nr.of_abs hn⟩

/-- A product that is not negative. -/
theorem mul_ok {x y : Nat} (hx : Fnt x) (hy : Fnt y) (h1 : 0 ≤ V x * V y) (h2 : V x * V y ≤ Cb * (U * U)) :
    double.mul x y = some (fmul x y) ∧ Fnt (fmul x y) ∧ Nr (V (fmul x y) * U - V x * V y) (V x * V y + 4503599627370496 * U) ∧ 0 ≤ V (fmul x y) ∧
      (∀ X, V x * V y ≤ X * U → V (fmul x y) ≤ 2 * X) := by
  have hUU : 0 ≤ U * U := Int.mul_nonneg (by have := U_pos; omega) (by have := U_pos; omega)
  have hC : 0 ≤ Cb * (U * U) := Int.mul_nonneg (by decide) hUU
  obtain ⟨r, e, hf, hn⟩ := mul_spec hx hy (capUU (by omega) h2)
  have : fmul x y = r := by unfold fmul; rw [e]; rfl
  rw [this]
  have hU := U_pos
  have hab : ((V x * V y).natAbs : Int) = V x * V y := by omega
  rw [hab] at hn
  have hn' : Nr (V r * U - V x * V y) (V x * V y + 4503599627370496 * U) := Nr.of_abs hn
  refine ⟨e, hf, hn', ?_, ?_⟩
  · -- V r * U > -U
    have h : (-1) * U < V r * U := by
      unfold Nr at hn'
      generalize V r * U = A at *
      generalize V x * V y = P at *
      omega
    have := Int.lt_of_mul_lt_mul_right h (by omega)
    omega
  · intro X hX
    have h : V r * U < (2 * X + 1) * U := by
      rw [Int.add_mul, Int.mul_assoc]
      unfold Nr at hn'
      generalize V r * U = A at *
      generalize V x * V y = P at *
      generalize X * U = Y at *
      omega
    have := Int.lt_of_mul_lt_mul_right h (by omega)
    omega

/-- A quotient of what is not negative by a whole number k ≥ 1. -/
theorem div_ok {x y : Nat} {k : Int} (hx : Fnt x) (hy : Fnt y) (hk : 1 ≤ k) (hyk : V y = k * U) (h1 : 0 ≤ V x) (h2 : V x ≤ Cb * U) :
    double.div x y = some (fdiv x y) ∧ Fnt (fdiv x y) ∧ Nr (V (fdiv x y) * (k * U) - V x * U) (2 * (V x * U) + 4503599627370496 * (k * U)) ∧ 0 ≤ V (fdiv x y) ∧ V (fdiv x y) ≤ 2 * V x := by
  have hU := U_pos
  have hkU : U ≤ k * U := by
    have := Int.mul_le_mul_of_nonneg_right hk (show 0 ≤ U by omega)
    omega
  have hxU : 0 ≤ V x * U := Int.mul_nonneg h1 (by omega)
  obtain ⟨j, hj, ej⟩ := U_spec
  obtain ⟨c, hc, ec⟩ := Cb_spec
  have eCU : Cb * U = ((2 ^ c * 2 ^ j : Nat) : Int) := by rw [ej, ec, Int.natCast_mul]
  have hb : (V x * U).natAbs ≤ (V y).natAbs * 2 ^ (c + j) := by
    have a1 : V x * U ≤ Cb * U * U := Int.mul_le_mul_of_nonneg_right h2 (by omega)
    have a2 : Cb * U * U ≤ Cb * U * (k * U) := Int.mul_le_mul_of_nonneg_left hkU (Int.mul_nonneg (by decide) (by omega))
    have a3 : Cb * U * (k * U) = ((2 ^ c * 2 ^ j : Nat) : Int) * (V y) := by rw [← eCU, hyk]
    have a4 : ((V y).natAbs : Int) = V y := by omega
    have a5 : (((V x * U).natAbs : Nat) : Int) ≤ (((V y).natAbs * 2 ^ (c + j) : Nat) : Int) := by
      rw [Int.natCast_mul, a4, Nat.pow_add, Int.mul_comm (V y)]
      omega
    exact Int.ofNat_le.1 a5
  obtain ⟨r, e, hf, hn⟩ := div_spec hx hy (by omega) (c + j) (by omega) hb
  have : fdiv x y = r := by unfold fdiv; rw [e]; rfl
  rw [this]
  have hab : ((V x * U).natAbs : Int) = V x * U := by omega
  have hab2 : ((V y).natAbs : Int) = k * U := by omega
  rw [hab, hab2, hyk] at hn
  have hn' : Nr (V r * (k * U) - V x * U) (2 * (V x * U) + 4503599627370496 * (k * U)) := Nr.of_abs hn
  have hxk : V x * U ≤ V x * (k * U) := Int.mul_le_mul_of_nonneg_left hkU h1
  refine ⟨e, hf, hn', ?_, ?_⟩
  · have h : (-1) * (k * U) < V r * (k * U) := by
      unfold Nr at hn'
      generalize V r * (k * U) = A at *
      generalize V x * U = P at *
      generalize k * U = W at *
      omega
    have := Int.lt_of_mul_lt_mul_right h (by omega)
    omega
  · have h : V r * (k * U) < (2 * V x + 1) * (k * U) := by
      rw [Int.add_mul, Int.mul_assoc]
      unfold Nr at hn'
      generalize V r * (k * U) = A at *
      generalize V x * U = P at *
      generalize V x * (k * U) = P2 at *
      generalize k * U = W at *
      omega
    have := Int.lt_of_mul_lt_mul_right h (by omega)
    omega

/-! ### Sums -/
def sumF (f : Nat → Int) : List Nat → Int
  | [] => 0
  | x :: t => f x + sumF f t

theorem sumF_nonneg {f : Nat → Int} {xs : List Nat} (h : ∀ x ∈ xs, 0 ≤ f x) : 0 ≤ sumF f xs := by
  induction xs with
  | nil => exact Int.le_refl _
  | cons x t ih =>
    have h1 := h x (List.mem_cons_self ..)
    have h2 := ih (fun y hy => h y (List.mem_cons_of_mem _ hy))
    simp only [sumF]; omega
theorem sumF_le {f : Nat → Int} {xs : List Nat} {M : Int} (h : ∀ x ∈ xs, f x ≤ M) : sumF f xs ≤ (xs.length : Int) * M := by
  induction xs with
  | nil => simp [sumF]
  | cons x t ih =>
    have h1 := h x (List.mem_cons_self ..)
    have h2 := ih (fun y hy => h y (List.mem_cons_of_mem _ hy))
    simp only [sumF, List.length_cons]
    have e : ((t.length + 1 : Nat) : Int) * M = (t.length : Int) * M + M := by rw [Int.natCast_add, Int.add_mul]; simp
    omega
theorem sumF_mem {f : Nat → Int} {xs : List Nat} (h : ∀ x ∈ xs, 0 ≤ f x) {y : Nat} (hy : y ∈ xs) : f y ≤ sumF f xs := by
  induction xs with
  | nil => cases hy
  | cons x t ih =>
    have h1 := h x (List.mem_cons_self ..)
    have h2 := sumF_nonneg (fun y hy => h y (List.mem_cons_of_mem _ hy))
    simp only [sumF]
    rcases List.mem_cons.1 hy with rfl | hy
    · omega
    · have := ih (fun y hy => h y (List.mem_cons_of_mem _ hy)) hy
      omega

/-- 'the word a is near S, by k rounded sums of what is not negative'. -/
def Sm (a : Nat) (S k : Int) : Prop := Fnt a ∧ 0 ≤ S ∧ Nr (V a - S) (2 * (k * S))

theorem Sm.zero : Sm 0 0 0 := by
  refine ⟨fin_zero.1, Int.le_refl _, ?_⟩
  rw [fin_zero.2]; unfold Nr; omega

theorem Sm.bounds {a : Nat} {S k : Int} (h : Sm a S k) (hk : 0 ≤ k) (hk2 : k ≤ 131072) : 0 ≤ V a ∧ V a ≤ 2 * S := by
  obtain ⟨_, hS, hn⟩ := h
  have h1 : k * S ≤ 131072 * S := Int.mul_le_mul_of_nonneg_right hk2 hS
  have h2 : 0 ≤ k * S := Int.mul_nonneg hk hS
  unfold Nr at hn
  omega

theorem Sm.step {a q : Nat} {S k : Int} (h : Sm a S k) (hk : 0 ≤ k) (hk2 : k ≤ 131071) (hq : Fnt q) (hq0 : 0 ≤ V q) (hb : 2 * (S + V q) ≤ Cb * U) :
    double.add a q = some (fadd a q) ∧ Sm (fadd a q) (S + V q) (k + 1) := by
  obtain ⟨b1, b2⟩ := h.bounds hk (by omega)
  obtain ⟨hf, hS, hn⟩ := h
  obtain ⟨e, hf', hn'⟩ := add_ok hf hq (by omega) (by omega)
  refine ⟨e, hf', by omega, ?_⟩
  have h1 : k * S ≤ 131071 * S := Int.mul_le_mul_of_nonneg_right hk2 hS
  have h2 : 0 ≤ k * S := Int.mul_nonneg hk hS
  have h3 : 0 ≤ k * V q := Int.mul_nonneg hk hq0
  have e2 : (k + 1) * (S + V q) = k * S + k * V q + S + V q := by rw [Int.add_mul, Int.mul_add]; omega
  rw [e2]
  unfold Nr at *
  omega

theorem Sm.all {qs : List Nat} : ∀ {a : Nat} {S k : Int}, Sm a S k → 0 ≤ k → k + (qs.length : Int) ≤ 131072 → (∀ q ∈ qs, Fnt q ∧ 0 ≤ V q) → 2 * (S + sumF V qs) ≤ Cb * U →
    Sm (qs.foldl fadd a) (S + sumF V qs) (k + (qs.length : Int)) := by
  induction qs with
  | nil => intro a S k h _ _ _ _; simpa [sumF] using h
  | cons q t ih =>
    intro a S k h hk hl hq hb
    obtain ⟨q1, q2⟩ := hq q (List.mem_cons_self ..)
    have ht := sumF_nonneg (f := V) (xs := t) (fun y hy => (hq y (List.mem_cons_of_mem _ hy)).2)
    simp only [sumF, List.length_cons, Int.natCast_add] at hb hl ⊢
    have h' := (h.step hk (by simp at hl; omega) q1 q2 (by omega)).2
    have := ih h' (by omega) (by simp at hl; omega) (fun y hy => hq y (List.mem_cons_of_mem _ hy)) (by omega)
    simp only [List.foldl_cons]
    have e1 : S + (V q + sumF V t) = S + V q + sumF V t := by omega
    have e2 : k + ((t.length : Int) + ((1 : Nat) : Int)) = k + 1 + (t.length : Int) := by simp; omega
    rw [e1, e2]; exact this

/-- The sum of a prefix is formed: what the loop's step asks. -/
theorem Sm.prefix {qs : List Nat} {k : Nat} (hk : k < qs.length) (hl : qs.length ≤ 131072) (hq : ∀ q ∈ qs, Fnt q ∧ 0 ≤ V q) (hb : 2 * sumF V qs ≤ Cb * U) :
    double.add ((qs.take k).foldl fadd 0) qs[k] = some ((qs.take (k + 1)).foldl fadd 0) := by
  have e : qs.take (k + 1) = qs.take k ++ [qs[k]] := List.take_succ_eq_append_getElem hk
  have hsplit : ∀ (l : List Nat) (r : List Nat), sumF V (l ++ r) = sumF V l + sumF V r := by
    intro l r
    induction l with
    | nil => simp [sumF]
    | cons x t ih => simp only [List.cons_append, sumF, ih]; omega
  have hsum : sumF V qs = sumF V (qs.take k) + (V qs[k] + sumF V (qs.drop (k + 1))) := by
    have h1 : qs = qs.take k ++ qs.drop k := (List.take_append_drop k qs).symm
    have h2 : qs.drop k = qs[k] :: qs.drop (k + 1) := List.drop_eq_getElem_cons hk
    have h3 := hsplit (qs.take k) (qs.drop k)
    rw [← h1, h2] at h3
    simpa [sumF] using h3
  have hd := sumF_nonneg (f := V) (xs := qs.drop (k + 1)) (fun y hy => (hq y (List.mem_of_mem_drop hy)).2)
  have hqk := hq qs[k] (List.getElem_mem hk)
  have hs := Sm.all (qs := qs.take k) Sm.zero (by omega) (by simp; omega) (fun q hq' => hq q (List.mem_of_mem_take hq')) (by omega)
  rw [e, List.foldl_append]
  simp only [List.foldl_cons, List.foldl_nil]
  have hlen : ((qs.take k).length : Int) = k := by simp; omega
  rw [hlen] at hs
  refine (hs.step (by omega) (by omega) hqk.1 hqk.2 ?_).1
  omega
end Vf
end Go.Proofs.Qxb6601435aMods
