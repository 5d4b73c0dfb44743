/- ShareFit: the walks of the domain: inShareRange (28), inDataRange (26), dataDomain (21), nextDomain (23). -/
import Derived.Test.Qxb6601435aModsVw
import Derived.Test.Qxb6601435aModsSq
namespace Go.Proofs.Qxb6601435aMods
open Go.RowKit
set_option linter.unusedVariables false
namespace Sd
open Tl Fl Vf
attribute [local go_sem] Vw.unary_neg_float Tl.run_store_float

theorem num_left {x y : Nat} {o : Ordering} (h : Ieee.double.order x y = some o) : Num x := by
  unfold Ieee.Format.order at h
  cases e : Ieee.double.read x with
  | number s m i => exact .inl ⟨_, _, _, e⟩
  | infinity s => exact .inr ⟨_, e⟩
  | nan => rw [e] at h; simp [Ieee.Datum.order] at h

/-- No NaN, and how the two compare. -/
theorem ord_fact {x y : Nat} {o : Ordering} (hy : Fnt y) (h : Ieee.double.order x y = some o) : Num x ∧ compare (W x) (V y) = o := by
  have hx := num_left h
  refine ⟨hx, ?_⟩
  rw [order_num hx (.inl hy), W_fin hy] at h
  exact Option.some.inj h
theorem ord_lt {x y : Nat} (hy : Fnt y) (h : FloatKind.f64.format.order x y = some .lt) : Num x ∧ W x < V y := by
  obtain ⟨a, b⟩ := ord_fact hy h; exact ⟨a, Int.compare_eq_lt.1 b⟩
theorem ord_eq {x y : Nat} (hy : Fnt y) (h : FloatKind.f64.format.order x y = some .eq) : Num x ∧ W x = V y := by
  obtain ⟨a, b⟩ := ord_fact hy h; exact ⟨a, Int.compare_eq_eq.1 b⟩
theorem ord_gt {x y : Nat} (hy : Fnt y) (h : FloatKind.f64.format.order x y = some .gt) : Num x ∧ V y < W x := by
  obtain ⟨a, b⟩ := ord_fact hy h; exact ⟨a, Int.compare_eq_gt.1 b⟩

/-- x ≤ y, for the walk: one of two equations; else none of them. -/
theorem le_cases {x y : Nat} (hy : Fnt y) : (FloatKind.f64.format.order x y = some .lt ∧ Hid (Num x ∧ W x ≤ V y)) ∨ (FloatKind.f64.format.order x y = some .eq ∧ Hid (Num x ∧ W x ≤ V y)) ∨ FloatKind.f64.format.order x y = some .gt ∨ FloatKind.f64.format.order x y = none := by
  rcases h : FloatKind.f64.format.order x y with _ | o
  · exact .inr (.inr (.inr rfl))
  · cases o
    · obtain ⟨a, b⟩ := ord_lt hy h; exact .inl ⟨rfl, a, by omega⟩
    · obtain ⟨a, b⟩ := ord_eq hy h; exact .inr (.inl ⟨rfl, a, by omega⟩)
    · exact .inr (.inr (.inl rfl))
theorem ge_cases {x y : Nat} (hy : Fnt y) : (FloatKind.f64.format.order x y = some .gt ∧ Hid (Num x ∧ V y ≤ W x)) ∨ (FloatKind.f64.format.order x y = some .eq ∧ Hid (Num x ∧ V y ≤ W x)) ∨ FloatKind.f64.format.order x y = some .lt ∨ FloatKind.f64.format.order x y = none := by
  rcases h : FloatKind.f64.format.order x y with _ | o
  · exact .inr (.inr (.inr rfl))
  · cases o
    · exact .inr (.inr (.inl rfl))
    · obtain ⟨a, b⟩ := ord_eq hy h; exact .inr (.inl ⟨rfl, a, by omega⟩)
    · obtain ⟨a, b⟩ := ord_gt hy h; exact .inl ⟨rfl, a, by omega⟩

/-- What a test of the domain says. -/
def Ans (r : Bool) (p : Prop) : Prop := r = true → p

theorem Ans.no {p : Prop} : Ans false p := fun h => by cases h

theorem Le.between {c : Nat} {a b z : Int} (h1 : Le c a) (h2 : Le c b) (h3 : a ≤ z) (h4 : z ≤ b) : Le c z := by
  unfold Le at *; omega

def InShare (x : Nat) : Prop := Fnt x ∧ Le 200 (V x)
theorem in_share {x : Nat} (h1 : Hid (Num x ∧ V 14727872375731450692 ≤ W x)) (h2 : Hid (Num x ∧ W x ≤ V 5504500338876674884)) : InShare x := by
  have f := fin_between h1.out.1 F_q60.1 F_p60.1 h1.out.2 h2.out.2
  have a := h1.out.2
  have b := h2.out.2
  rw [W_fin f] at a b
  exact ⟨f, Le.between F_q60.2 F_p60.2 a b⟩

set_option maxHeartbeats 400000 in
theorem share_any (x : Nat) (w : World) : Calls Trym.prog 28 #[.float .f64 x] w fun e w' => ∃ r, e = .returned (.bool r) ∧ w' = w ∧ Ans r (InShare x) := by
  rcases ge_cases (x := x) F_q60.1 with ⟨o1, h1⟩ | ⟨o1, h1⟩ | o1 | o1
  · rcases le_cases (x := x) F_p60.1 with ⟨o2, h2⟩ | ⟨o2, h2⟩ | o2 | o2
    all_goals
      go_enter Trym.func28, Trym.ntmps28
      go_wp2
      go_ret
      first
        | exact ⟨true, by simp, rfl, fun _ => in_share h1 h2⟩
        | exact ⟨false, by simp, rfl, Ans.no⟩
  · rcases le_cases (x := x) F_p60.1 with ⟨o2, h2⟩ | ⟨o2, h2⟩ | o2 | o2
    all_goals
      go_enter Trym.func28, Trym.ntmps28
      go_wp2
      go_ret
      first
        | exact ⟨true, by simp, rfl, fun _ => in_share h1 h2⟩
        | exact ⟨false, by simp, rfl, Ans.no⟩
  all_goals
    go_enter Trym.func28, Trym.ntmps28
    go_wp2
    go_ret
    exact ⟨false, by simp, rfl, Ans.no⟩

theorem neg_neg (x : Nat) : Op.negFloat .f64 (Op.negFloat .f64 x) = x := by
  show (x ^^^ 2 ^ 63) ^^^ 2 ^ 63 = x
  rw [Nat.xor_assoc, Nat.xor_self, Nat.xor_zero]

theorem dat_neg {x : Nat} (h : Dat (Op.negFloat .f64 x)) : Dat x := by
  obtain ⟨f, l, z⟩ := h
  obtain ⟨f2, e2⟩ := Vw.neg_ok _ f
  rw [neg_neg] at f2 e2
  refine ⟨f2, ?_, ?_⟩
  · rw [e2]; unfold Le at *; omega
  · rw [e2]
    rcases z with z | z
    · left; omega
    · right
      have : ((-V (Op.negFloat .f64 x)).natAbs : Int) = ((V (Op.negFloat .f64 x)).natAbs : Int) := by omega
      rw [this]; exact z

theorem dat_zero {x : Nat} (h : FloatKind.f64.format.order x 0 = some .eq) : Dat x := by
  obtain ⟨a, b⟩ := ord_eq fin_zero.1 h
  rw [fin_zero.2] at b
  have f := fin_between a fin_zero.1 fin_zero.1 (by rw [fin_zero.2]; omega) (by rw [fin_zero.2]; omega)
  rw [W_fin f] at b
  exact ⟨f, Le.zero b, .inl b⟩

theorem dat_mid {x : Nat} (h1 : Hid (Num x ∧ V 3709195899275879974 ≤ W x)) (h2 : Hid (Num x ∧ W x ≤ V 5504500338876674884)) : Dat x := by
  have f := fin_between h1.out.1 F_e60.1 F_p60.1 h1.out.2 h2.out.2
  have a := h1.out.2
  have b := h2.out.2
  rw [W_fin f] at a b
  have c := F_e60.2.1
  refine ⟨f, ?_, .inr ?_⟩
  · have := F_p60.2; unfold Le at *; omega
  · have e : ((V x).natAbs : Int) = V x := by omega
    rw [e]
    have := Int.mul_le_mul_of_nonneg_left a (show 0 ≤ pw 200 by have := pw_pos 200; omega)
    have := F_e60.2.2
    omega

set_option maxHeartbeats 1000000 in
theorem data_pos (x : Nat) (w : World) (hb : (FloatKind.f64.format.order x 0 == some Ordering.lt) = false) : Calls Trym.prog 26 #[.float .f64 x] w fun e w' => ∃ r, e = .returned (.bool r) ∧ w' = w ∧ Ans r (Dat x) := by
  by_cases h0 : FloatKind.f64.format.order x 0 = some .eq
  · have hr : Hid (Dat x) := dat_zero h0
    clear hb
    go_enter Trym.func26, Trym.ntmps26
    go_wp2
    go_ret
    exact ⟨true, by simp, rfl, fun _ => hr.out⟩
  · have h0b : (FloatKind.f64.format.order x 0 == some Ordering.eq) = false := by simp [h0]
    clear h0
    rcases ge_cases (x := x) F_e60.1 with ⟨o1, h1⟩ | ⟨o1, h1⟩ | o1 | o1
    · rcases le_cases (x := x) F_p60.1 with ⟨o2, h2⟩ | ⟨o2, h2⟩ | o2 | o2
      all_goals
        go_enter Trym.func26, Trym.ntmps26
        go_wp2
        go_ret
        first
          | exact ⟨true, by simp, rfl, fun _ => dat_mid h1 h2⟩
          | exact ⟨false, by simp, rfl, Ans.no⟩
    · rcases le_cases (x := x) F_p60.1 with ⟨o2, h2⟩ | ⟨o2, h2⟩ | o2 | o2
      all_goals
        go_enter Trym.func26, Trym.ntmps26
        go_wp2
        go_ret
        first
          | exact ⟨true, by simp, rfl, fun _ => dat_mid h1 h2⟩
          | exact ⟨false, by simp, rfl, Ans.no⟩
    all_goals
      go_enter Trym.func26, Trym.ntmps26
      go_wp2
      go_ret
      exact ⟨false, by simp, rfl, Ans.no⟩
set_option maxHeartbeats 1000000 in
theorem data_neg (x y : Nat) (w : World) (hy : Op.negFloat .f64 x = y) (hb : (FloatKind.f64.format.order x 0 == some Ordering.lt) = true) : Calls Trym.prog 26 #[.float .f64 x] w fun e w' => ∃ r, e = .returned (.bool r) ∧ w' = w ∧ Ans r (Dat y) := by
  by_cases h0 : FloatKind.f64.format.order y 0 = some .eq
  · have hr : Hid (Dat y) := dat_zero h0
    go_enter Trym.func26, Trym.ntmps26
    go_wp2
    go_ret
    exact ⟨true, by simp, rfl, fun _ => hr.out⟩
  · have h0b : (FloatKind.f64.format.order y 0 == some Ordering.eq) = false := by simp [h0]
    clear h0
    rcases ge_cases (x := y) F_e60.1 with ⟨o1, h1⟩ | ⟨o1, h1⟩ | o1 | o1
    · rcases le_cases (x := y) F_p60.1 with ⟨o2, h2⟩ | ⟨o2, h2⟩ | o2 | o2
      all_goals
        go_enter Trym.func26, Trym.ntmps26
        go_wp2
        go_ret
        first
          | exact ⟨true, by simp, rfl, fun _ => dat_mid h1 h2⟩
          | exact ⟨false, by simp, rfl, Ans.no⟩
    · rcases le_cases (x := y) F_p60.1 with ⟨o2, h2⟩ | ⟨o2, h2⟩ | o2 | o2
      all_goals
        go_enter Trym.func26, Trym.ntmps26
        go_wp2
        go_ret
        first
          | exact ⟨true, by simp, rfl, fun _ => dat_mid h1 h2⟩
          | exact ⟨false, by simp, rfl, Ans.no⟩
    all_goals
      go_enter Trym.func26, Trym.ntmps26
      go_wp2
      go_ret
      exact ⟨false, by simp, rfl, Ans.no⟩

theorem data_any (x : Nat) (w : World) : Calls Trym.prog 26 #[.float .f64 x] w fun e w' => ∃ r, e = .returned (.bool r) ∧ w' = w ∧ Ans r (Dat x) := by
  cases hb : (FloatKind.f64.format.order x 0 == some Ordering.lt) with
  | false => exact data_pos x w hb
  | true =>
    refine (data_neg x _ w rfl hb).mono ?_
    rintro e w' ⟨r, he, hw, hr⟩
    exact ⟨r, he, hw, fun h => dat_neg (hr h)⟩

structure DD (g0 g1 i00 i01 i11 : Nat) : Prop where
  d0 : Dat g0
  d1 : Dat g1
  dA : Dat i00
  dB : Dat i01
  dC : Dat i11
  p0 : 0 ≤ V i00
  p1 : 0 ≤ V i11

theorem nn {x : Nat} (d : Dat x) (h : Hid (Num x ∧ V 0 ≤ W x)) : 0 ≤ V x := by
  have := h.out.2
  rw [W_fin d.1, fin_zero.2] at this; exact this

set_option maxHeartbeats 2000000 in
theorem dd_any (g0 g1 i00 i01 i11 : Nat) (w : World) : Calls Trym.prog 21 #[.float .f64 g0, .float .f64 g1, .float .f64 i00, .float .f64 i01, .float .f64 i11] w
    fun e w' => ∃ r, e = .returned (.bool r) ∧ w' = w ∧ Ans r (DD g0 g1 i00 i01 i11) := by
  go_enter Trym.func21, Trym.ntmps21
  go_wp2_with fail
  refine (data_any g0 _).mono ?_
  rintro e w1 ⟨r, rfl, hw, q0⟩
  subst hw
  cases r
  · go_wp2
    go_ret
    exact ⟨false, rfl, rfl, Ans.no⟩
  go_wp2_with fail
  refine (data_any g1 _).mono ?_
  rintro e w1 ⟨r, rfl, hw, q1⟩
  subst hw
  cases r
  · go_wp2
    go_ret
    exact ⟨false, rfl, rfl, Ans.no⟩
  go_wp2_with fail
  refine (data_any i00 _).mono ?_
  rintro e w1 ⟨r, rfl, hw, q2⟩
  subst hw
  cases r
  · go_wp2
    go_ret
    exact ⟨false, rfl, rfl, Ans.no⟩
  go_wp2_with fail
  refine (data_any i01 _).mono ?_
  rintro e w1 ⟨r, rfl, hw, q3⟩
  subst hw
  cases r
  · go_wp2
    go_ret
    exact ⟨false, rfl, rfl, Ans.no⟩
  go_wp2_with fail
  refine (data_any i11 _).mono ?_
  rintro e w1 ⟨r, rfl, hw, q4⟩
  subst hw
  cases r
  · go_wp2
    go_ret
    exact ⟨false, rfl, rfl, Ans.no⟩
  rcases ge_cases (x := i00) fin_zero.1 with ⟨o1, h1⟩ | ⟨o1, h1⟩ | o1 | o1
  · rcases ge_cases (x := i11) fin_zero.1 with ⟨o2, h2⟩ | ⟨o2, h2⟩ | o2 | o2
    all_goals
      go_wp2
      go_ret
      first
        | exact ⟨true, by simp, rfl, fun _ => ⟨q0 rfl, q1 rfl, q2 rfl, q3 rfl, q4 rfl, nn (q2 rfl) h1, nn (q4 rfl) h2⟩⟩
        | exact ⟨false, by simp, rfl, Ans.no⟩
  · rcases ge_cases (x := i11) fin_zero.1 with ⟨o2, h2⟩ | ⟨o2, h2⟩ | o2 | o2
    all_goals
      go_wp2
      go_ret
      first
        | exact ⟨true, by simp, rfl, fun _ => ⟨q0 rfl, q1 rfl, q2 rfl, q3 rfl, q4 rfl, nn (q2 rfl) h1, nn (q4 rfl) h2⟩⟩
        | exact ⟨false, by simp, rfl, Ans.no⟩
  all_goals
    go_wp2
    go_ret
    exact ⟨false, by simp, rfl, Ans.no⟩

/-- Every word against every word: x ≤ y. -/
theorem le_two {x y : Nat} (hx : Fnt x) (hy : Fnt y) : (FloatKind.f64.format.order x y = some .lt ∧ Hid (V x ≤ V y)) ∨ (FloatKind.f64.format.order x y = some .eq ∧ Hid (V x ≤ V y)) ∨ FloatKind.f64.format.order x y = some .gt ∨ FloatKind.f64.format.order x y = none := by
  rcases le_cases (x := x) hy with ⟨o, h⟩ | ⟨o, h⟩ | o | o
  · exact .inl ⟨o, by have := h.out.2; rw [W_fin hx] at this; exact this⟩
  · exact .inr (.inl ⟨o, by have := h.out.2; rw [W_fin hx] at this; exact this⟩)
  · exact .inr (.inr (.inl o))
  · exact .inr (.inr (.inr o))

theorem mk_dom {most alpha beta g0 g1 i00 i01 i11 : Nat} (h : Hid (Num most ∧ V 13857013103465594880 ≤ W most)) (s1 : InShare most) (s2 : InShare alpha) (s3 : InShare beta) (h1 : Hid (V alpha ≤ V most)) (h2 : Hid (V beta ≤ V 0)) (d : DD g0 g1 i00 i01 i11) :
    Dom most alpha beta g0 g1 i00 i01 i11 :=
  ⟨s1.1, s2.1, s3.1, s1.2, s2.2, s3.2, by have := h.out.2; rw [W_fin s1.1] at this; exact this, h1.out, by have := h2.out; rw [fin_zero.2] at this; exact this, d.d0, d.d1, d.dA, d.dB, d.dC, d.p0, d.p1⟩

set_option maxHeartbeats 2000000 in
theorem nd_any (most alpha beta g0 g1 i00 i01 i11 : Nat) (w : World) : Calls Trym.prog 23 #[.float .f64 most, .float .f64 alpha, .float .f64 beta, .float .f64 g0, .float .f64 g1, .float .f64 i00, .float .f64 i01, .float .f64 i11] w
    fun e w' => ∃ r, e = .returned (.bool r) ∧ w' = w ∧ Ans r (Dom most alpha beta g0 g1 i00 i01 i11) := by
  have key : ∀ (hm : Hid (Num most ∧ V 13857013103465594880 ≤ W most)) (o1 : FloatKind.f64.format.order most 13857013103465594880 = some .gt ∨ FloatKind.f64.format.order most 13857013103465594880 = some .eq), Calls Trym.prog 23 #[.float .f64 most, .float .f64 alpha, .float .f64 beta, .float .f64 g0, .float .f64 g1, .float .f64 i00, .float .f64 i01, .float .f64 i11] w
    fun e w' => ∃ r, e = .returned (.bool r) ∧ w' = w ∧ Ans r (Dom most alpha beta g0 g1 i00 i01 i11) := by
    intro hm o1
    rcases o1 with o1 | o1
    all_goals
      go_enter Trym.func23, Trym.ntmps23
      go_wp2_with fail
      refine (share_any most _).mono ?_
      rintro e w1 ⟨r, rfl, hw, q0⟩
      subst hw
      cases r
      · go_wp2
        go_ret
        exact ⟨false, rfl, rfl, Ans.no⟩
      go_wp2_with fail
      refine (share_any alpha _).mono ?_
      rintro e w1 ⟨r, rfl, hw, q1⟩
      subst hw
      cases r
      · go_wp2
        go_ret
        exact ⟨false, rfl, rfl, Ans.no⟩
      go_wp2_with fail
      refine (share_any beta _).mono ?_
      rintro e w1 ⟨r, rfl, hw, q2⟩
      subst hw
      cases r
      · go_wp2
        go_ret
        exact ⟨false, rfl, rfl, Ans.no⟩
      rcases le_two (q1 rfl).1 (q0 rfl).1 with ⟨o2, h2⟩ | ⟨o2, h2⟩ | o2 | o2
      · rcases le_two (q2 rfl).1 fin_zero.1 with ⟨o3, h3⟩ | ⟨o3, h3⟩ | o3 | o3
        all_goals
          first
            | (go_wp2_with fail
               refine (dd_any g0 g1 i00 i01 i11 _).mono ?_
               rintro e w1 ⟨r, rfl, hw, q3⟩
               subst hw
               go_wp2
               go_ret
               exact ⟨r, rfl, rfl, fun h => mk_dom hm (q0 rfl) (q1 rfl) (q2 rfl) h2 h3 (q3 h)⟩)
            | (go_wp2; go_ret; exact ⟨false, rfl, rfl, Ans.no⟩)
      · rcases le_two (q2 rfl).1 fin_zero.1 with ⟨o3, h3⟩ | ⟨o3, h3⟩ | o3 | o3
        all_goals
          first
            | (go_wp2_with fail
               refine (dd_any g0 g1 i00 i01 i11 _).mono ?_
               rintro e w1 ⟨r, rfl, hw, q3⟩
               subst hw
               go_wp2
               go_ret
               exact ⟨r, rfl, rfl, fun h => mk_dom hm (q0 rfl) (q1 rfl) (q2 rfl) h2 h3 (q3 h)⟩)
            | (go_wp2; go_ret; exact ⟨false, rfl, rfl, Ans.no⟩)
      all_goals (go_wp2; go_ret; exact ⟨false, rfl, rfl, Ans.no⟩)
  rcases ge_cases (x := most) F_n60 with ⟨o1, h1⟩ | ⟨o1, h1⟩ | o1 | o1
  · exact key h1 (.inl o1)
  · exact key h1 (.inr o1)
  all_goals
    clear key
    go_enter Trym.func23, Trym.ntmps23
    go_wp2
    go_ret
    exact ⟨false, rfl, rfl, Ans.no⟩
end Sd
end Go.Proofs.Qxb6601435aMods
