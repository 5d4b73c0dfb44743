/- Plain facts on lists of bytes: the order 'walksBefore' computes; no Go in sight. -/
namespace Go.Proofs.Qxb6601133aMods
namespace Pl

/-- What 'walksBefore' computes. -/
def wb : List UInt8 → List UInt8 → Bool
  | [], [] => false
  | [], _ :: _ => true
  | _ :: _, [] => false
  | x :: xs, y :: ys =>
    if x.toNat = y.toNat then wb xs ys
    else if x.toNat = 47 then true
    else if y.toNat = 47 then false
    else decide (x.toNat < y.toNat)

theorem byte_ext {x y : UInt8} (h : x.toNat = y.toNat) : x = y := UInt8.toNat_inj.1 h

theorem wb_irrefl : ∀ a : List UInt8, wb a a = false
  | [] => rfl
  | x :: xs => by simp [wb, wb_irrefl xs]

theorem wb_total : ∀ a b : List UInt8, a ≠ b → (wb a b == wb b a) = false
  | [], [] => fun h => absurd rfl h
  | [], _ :: _ => fun _ => rfl
  | _ :: _, [] => fun _ => rfl
  | x :: xs, y :: ys => fun h => by
    by_cases e : x.toNat = y.toNat
    · have : xs ≠ ys := fun e2 => h (by rw [byte_ext e, e2])
      have ih := wb_total xs ys this
      simp only [wb, e, if_true]
      exact ih
    · have e' : ¬ y.toNat = x.toNat := fun h => e h.symm
      simp only [wb, e, e', if_false]
      by_cases a : x.toNat = 47
      · have b : ¬ y.toNat = 47 := by omega
        simp [a, b]
      · by_cases b : y.toNat = 47
        · simp [a, b]
        · simp only [a, b, if_false]
          by_cases c : x.toNat < y.toNat
          · have d : ¬ y.toNat < x.toNat := by omega
            simp [c, d]
          · have d : y.toNat < x.toNat := by omega
            simp [c, d]

theorem wb_trans : ∀ a b c : List UInt8, wb a b = true → wb b c = true → wb a c = true
  | [], [], _ => fun h _ => by simp [wb] at h
  | [], _ :: _, [] => fun _ h => by simp [wb] at h
  | [], _ :: _, _ :: _ => fun _ _ => rfl
  | _ :: _, [], _ => fun h _ => by simp [wb] at h
  | _ :: _, _ :: _, [] => fun _ h => by simp [wb] at h
  | x :: xs, y :: ys, z :: zs => fun h1 h2 => by
    have ih := wb_trans xs ys zs
    simp only [wb] at h1 h2 ⊢
    by_cases exy : x.toNat = y.toNat
    · by_cases eyz : y.toNat = z.toNat
      · rw [if_pos exy] at h1; rw [if_pos eyz] at h2
        rw [if_pos (by omega)]; exact ih h1 h2
      · rw [if_neg eyz] at h2; rw [exy, if_neg eyz]; exact h2
    · by_cases eyz : y.toNat = z.toNat
      · rw [if_neg exy] at h1; rw [← eyz, if_neg exy]; exact h1
      · rw [if_neg exy] at h1; rw [if_neg eyz] at h2
        by_cases xa : x.toNat = 47
        · by_cases za : z.toNat = 47
          · have ya : ¬ y.toNat = 47 := by omega
            rw [if_neg ya, if_pos za] at h2
            cases h2
          · rw [if_neg (by omega), if_pos xa]
        · rw [if_neg xa] at h1
          by_cases ya : y.toNat = 47
          · rw [if_pos ya] at h1; cases h1
          · rw [if_neg ya] at h1 h2
            by_cases za : z.toNat = 47
            · rw [if_pos za] at h2; cases h2
            · rw [if_neg za] at h2
              simp only [decide_eq_true_eq] at h1 h2
              rw [if_neg (by omega), if_neg xa, if_neg za]
              simp; omega

/-- The lists of names: split at every '/'. -/
def split : List UInt8 → List (List UInt8)
  | [] => [[]]
  | x :: xs => if x.toNat = 47 then [] :: split xs else
    match split xs with
    | [] => [[x]]
    | h :: t => (x :: h) :: t

def nameLess : List UInt8 → List UInt8 → Bool
  | [], [] => false
  | [], _ :: _ => true
  | _ :: _, [] => false
  | x :: xs, y :: ys => if x.toNat = y.toNat then nameLess xs ys else decide (x.toNat < y.toNat)

def namesBefore : List (List UInt8) → List (List UInt8) → Bool
  | [], [] => false
  | [], _ :: _ => true
  | _ :: _, [] => false
  | x :: xs, y :: ys => if x = y then namesBefore xs ys else nameLess x y

theorem split_ne (a : List UInt8) : ∃ h t, split a = h :: t := by
  cases a with
  | nil => exact ⟨[], [], rfl⟩
  | cons x xs =>
    unfold split
    by_cases e : x.toNat = 47
    · exact ⟨[], split xs, by rw [if_pos e]⟩
    · rw [if_neg e]
      cases split xs with
      | nil => exact ⟨_, _, rfl⟩
      | cons h t => exact ⟨_, _, rfl⟩

theorem names_cons (x : UInt8) (h h' : List UInt8) (t t' : List (List UInt8)) :
    namesBefore ((x :: h) :: t) ((x :: h') :: t') = namesBefore (h :: t) (h' :: t') := by
  simp only [namesBefore, nameLess, if_true]
  by_cases e : h = h'
  · simp [e]
  · simp [e]

theorem wb_names : ∀ a b : List UInt8, wb a b = namesBefore (split a) (split b)
  | [], [] => rfl
  | [], y :: ys => by
    obtain ⟨h, t, e⟩ := split_ne ys
    by_cases c : y.toNat = 47 <;> simp [wb, split, namesBefore, nameLess, c, e]
  | x :: xs, [] => by
    obtain ⟨h, t, e⟩ := split_ne xs
    by_cases c : x.toNat = 47 <;> simp [wb, split, namesBefore, nameLess, c, e]
  | x :: xs, y :: ys => by
    have ih := wb_names xs ys
    obtain ⟨h, t, e⟩ := split_ne xs
    obtain ⟨h', t', e'⟩ := split_ne ys
    by_cases exy : x.toNat = y.toNat
    · have := byte_ext exy
      subst this
      by_cases c : x.toNat = 47
      · simp only [wb, split, c, if_true, namesBefore]; exact ih
      · simp only [wb, split, c, if_true, if_false, e, e']
        rw [names_cons, ← e, ← e']; exact ih
    · by_cases c : x.toNat = 47
      · have c' : ¬ y.toNat = 47 := by omega
        have cc : ¬ (47 = y.toNat) := by omega
        simp [wb, split, c, c', cc, e, e', namesBefore, nameLess]
      · by_cases c' : y.toNat = 47
        · simp [wb, split, c, c', e, e', namesBefore, nameLess]
        · have hne : x ≠ y := fun h => exy (by rw [h])
          simp [wb, split, c, c', exy, e, e', namesBefore, nameLess, hne]

end Pl
end Go.Proofs.Qxb6601133aMods
