/- ShareFit: isFinite (19) of an infinity; ZZShareFitNext (22). -/
import Derived.Test.Qxb6601435aModsSw
namespace Go.Proofs.Qxb6601435aMods
open Go.RowKit
set_option linter.unusedVariables false
namespace Sf
open Tl Fl Vf
attribute [local go_sem] Vw.unary_neg_float Tl.run_store_float

theorem nan_read (b m : Nat) (hb : b < 2) (hm : m < 4503599627370495) : ∀ y, Ieee.double.order (b * 9223372036854775808 + 9218868437227405312 + 1 + m) y = none := by
  intro y
  unfold Ieee.Format.order
  have e : ∃ s p, Ieee.double.read (b * 9223372036854775808 + 9218868437227405312 + 1 + m) = .nan s p := by
    unfold Ieee.Format.read
    simp only [least, binade_eq, inf_eq, sign_eq]
    have h1 : (b * 9223372036854775808 + 9218868437227405312 + 1 + m) % 9223372036854775808 = 9218868437227405312 + 1 + m := by omega
    rw [h1]
    rw [if_neg (by omega), if_neg (by omega), if_neg (by omega)]
    exact ⟨_, _, rfl⟩
  obtain ⟨s, p, e⟩ := e
  rw [e]; rfl

theorem sub_inf {v : Nat} {s : Bool} (h : Ieee.double.read v = .infinity s) : Ieee.double.sub v v = none := by
  unfold Ieee.Format.sub
  rw [h]
  cases s <;> rfl

/-- isFinite of an infinity. -/
theorem fin_inf (v : Nat) (s : Bool) (w : World) (hv : Ieee.double.read v = .infinity s) : Calls Trym.prog 19 #[.float .f64 v] w fun e w' => e = .returned (.bool false) ∧ w' = w.drew := by
  have hs : FloatKind.f64.format.sub v v = none := sub_inf hv
  obtain ⟨r, r1, r2⟩ : ∃ r, (binOp .sub 26 (.float .f64 v) (.float .f64 v)).run Trym.prog w = .ok (.float .f64 r) w.drew ∧ FloatKind.f64.format.order r 0 = none := by
    refine ⟨Question.cut (.nanBits .f64 v v) (w.tape w.drawn (.nanBits .f64 v v)), ?_, ?_⟩
    · simp [binOp, Op.floatArith, hs, Question.forced]
    · exact nan_read _ _ (Nat.mod_lt _ (by decide)) (Nat.mod_lt _ (by decide)) 0
  have r3 : (FloatKind.f64.format.order r 0 == some Ordering.eq) = false := by rw [r2]; rfl
  clear r2 hs hv
  go_enter Trym.func19, Trym.ntmps19
  go_wp2
  go_ret
  exact ⟨by simp, rfl⟩

set_option maxRecDepth 20000 in
set_option maxHeartbeats 1000000 in
theorem zz_any (most alpha beta scale l g0 g1 i00 i01 i11 : Nat) (nb : Bool) (w : World) (D : Dom most alpha beta g0 g1 i00 i01 i11) :
    Calls Trym.prog 22 #[.float .f64 most, .float .f64 alpha, .float .f64 beta, .float .f64 scale, .bool nb, .float .f64 l, .float .f64 g0, .float .f64 g1, .float .f64 i00, .float .f64 i01, .float .f64 i11] w
      fun e w' => ∃ a b, e = .returned (.tuple #[.float .f64 a, .float .f64 b, .float .f64 0, .bool false]) ∧ Below w.heap.size w w' ∧ Hid (Fl.Good most alpha beta i11 a b) := by
  have HD : Hid _ := D
  clear D
  go_enter Trym.func22, Trym.ntmps22
  go_wp2_with fail
  refine (next_any most alpha beta scale l g0 g1 i00 i01 i11 nb _ HD.out).mono ?_
  rintro e w1 ⟨a, b, rfl, hb, hG⟩
  have hb1 : Below w.heap.size w w1 := ((Below.refl _ _).alloc (Nat.le_refl _) _).trans (hb.mono (by simp))
  clear hb
  have hb2 : Below w.heap.size w (w1.alloc (.cells #[.float .f64 a, .float .f64 b, .float .f64 0, .bool false] 52)) := hb1.alloc hb1.size _
  clear hb1
  go_wp2_with fail
  go_quiet (fail)
  go_wp2
  refine bodyPost_ret (v := .tuple #[.float .f64 a, .float .f64 b, .float .f64 0, .bool false]) (by simp [results, Trym.results22, go_sem]) rfl ⟨a, b, rfl, ?_, hG⟩
  exact ⟨hb2.os, hb2.tape, hb2.output, hb2.size, hb2.block⟩
end Sf
end Go.Proofs.Qxb6601435aMods
