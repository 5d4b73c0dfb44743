/- ShareFit: (shareFit).next (27), whole. -/
import Derived.Test.Qxb6601435aModsSwb
namespace Go.Proofs.Qxb6601435aMods
open Go.RowKit
set_option linter.unusedVariables false
namespace Sf
open Tl Fl Vf
attribute [local go_sem] Vw.unary_neg_float Tl.run_store_float

set_option maxRecDepth 20000 in
set_option maxHeartbeats 4000000 in
theorem next_any (most alpha beta scale l g0 g1 i00 i01 i11 : Nat) (nb : Bool) (w : World) (D : Dom most alpha beta g0 g1 i00 i01 i11) :
    Calls Trym.prog 27 #[.agg #[.slice .none 0 0, .float .f64 most], .agg #[.float .f64 alpha, .float .f64 beta, .float .f64 scale, .bool nb],
      .agg #[.float .f64 l, .float .f64 g0, .float .f64 g1, .float .f64 i00, .float .f64 i01, .float .f64 i11]] w
      fun e w' => ∃ a b, e = .returned (.agg #[.float .f64 a, .float .f64 b, .float .f64 0, .bool false]) ∧ Below w.heap.size w w' ∧ Hid (Fl.Good most alpha beta i11 a b) := by
  obtain ⟨p, q, det, s1, s, e1, e2, e3, e4, e5, fd, fs, hreg⟩ := stage1 D
  have r1 := fun w => run_float_arith (P := Trym.prog) w .mul 26 .f64 i00 i11 p e1
  have r2 := fun w => run_float_arith (P := Trym.prog) w .mul 26 .f64 i01 i01 q e2
  have r3 := fun w => run_float_arith (P := Trym.prog) w .sub 26 .f64 p q det e3
  have r4 := fun w => run_float_arith (P := Trym.prog) w .mul 26 .f64 4472406533629990549 i00 s1 e4
  have r5 := fun w => run_float_arith (P := Trym.prog) w .mul 26 .f64 s1 i11 s e5
  obtain ⟨atA, hA⟩ : ∃ b, b = decide (W most ≤ W alpha) := ⟨_, rfl⟩
  obtain ⟨atB, hB⟩ : ∃ b, b = decide (W 0 ≤ W beta) := ⟨_, rfl⟩
  obtain ⟨reg, hG⟩ : ∃ b, b = decide (W s < W det) := ⟨_, rfl⟩
  have oA := ge_b (.inl D.fa) (.inl D.fm)
  have oB := ge_b (.inl D.fb) (.inl fin_zero.1)
  have oG := gt_b (.inl fd) (.inl fs)
  rw [← hA] at oA
  rw [← hB] at oB
  rw [← hG] at oG
  have kA : Hid (V alpha = V most → atA = true) := fun h => by rw [hA, W_fin D.fa, W_fin D.fm]; simp; omega
  have kB : Hid (V beta = 0 → atB = true) := fun h => by rw [hB, W_fin D.fb, W_zero]; simp; omega
  have kG : Hid (reg = true → ∃ da db, RegF det g0 g1 i00 i01 i11 da db) := fun h => by
    rw [hG, W_fin fd, W_fin fs] at h; exact hreg (by simpa using h)
  have HD : Hid _ := D
  clear e1 e2 e3 e4 e5 D hreg fd fs hA hB hG
  go_enter Trym.func27, Trym.ntmps27
  go_upto_region 1 with fail
  go_cut [7, 8] from 15 (fun s7 s8 wx => s7 = .bool atA ∧ s8 = .bool atB ∧ wx = (W4 w most alpha beta scale l g0 g1 i00 i01 i11 nb 0 0).drew)
  case first =>
    go_region
    go_wp2_with fail
    go_meet
    exact ⟨rfl, rfl, rfl⟩
  case rest =>
    obtain ⟨rfl, rfl, rfl⟩ := hcut
    clear oA oB
    unfold W4
    go_upto_if 42 with fail
    go_cut [9, 10] from 15 (fun s9 s10 wx => ∃ da db, s9 = .float .f64 da ∧ s10 = .float .f64 db ∧ Hid (RegV reg da db) ∧ wx = (W4 w most alpha beta scale l g0 g1 i00 i01 i11 nb 0 0).drew)
    case first =>
      cases reg
      · go_wp2
        go_meet
        exact ⟨0, 0, rfl, rfl, RegV.no, rfl⟩
      · obtain ⟨da, db, a1, a2, a3, b1, b2, b3, m1, m2, m3, m4, m5, m6, m7, m8, f⟩ := kG.out rfl
        have q1 := fun w => run_float_arith (P := Trym.prog) w .mul 26 .f64 i11 g0 a1 m1
        have q2 := fun w => run_float_arith (P := Trym.prog) w .mul 26 .f64 i01 g1 a2 m2
        have q3 := fun w => run_float_arith (P := Trym.prog) w .sub 26 .f64 a1 a2 a3 m3
        have q4 := fun w => run_float_arith (P := Trym.prog) w .quo 26 .f64 a3 det da m4
        have q5 := fun w => run_float_arith (P := Trym.prog) w .mul 26 .f64 i00 g1 b1 m5
        have q6 := fun w => run_float_arith (P := Trym.prog) w .mul 26 .f64 i01 g0 b2 m6
        have q7 := fun w => run_float_arith (P := Trym.prog) w .sub 26 .f64 b1 b2 b3 m7
        have q8 := fun w => run_float_arith (P := Trym.prog) w .quo 26 .f64 b3 det db m8
        have HV : Hid _ := f
        clear m1 m2 m3 m4 m5 m6 m7 m8 f
        go_wp2
        go_meet
        exact ⟨da, db, rfl, rfl, fun _ => HV.out, rfl⟩
    case rest =>
      obtain ⟨da, db, rfl, rfl, hV, rfl⟩ := hcut
      clear kG r1 r2 r3 r4 r5 oG
      unfold W4
      go_upto_block 0 with fail
      refine block0 most alpha beta scale l g0 g1 i00 i01 i11 nb w HD atA atB reg kA kB da db hV _ _ _ _ _ _ _ _ _ _ _ _ _ _ _ _ _ _ _ _ _ _ _ _ _ _ _ _ _ _ _ _ _ _ _ _ _ _ _ _ _ _ _ _ _ _ _ _ _ _ _ _ _ _ _ _ _ _ _ _ _ _ _ _ _ _ _ _ _ _ _ _ _ _ _ _ _ _ _ _ _ _ _ _ _ _ _ _ _ _ _ _ _ _ _ _ _ _ _ _ _ _ _ _ _ _ _ _ _ _ _ _ _ _ _ _ _ _ _ _ _ _ _ _ _ _ _ _ _ _ _ _ _ _ _ _ _ _ _ _ _ _ _ _ _ _ _ _ _ _ _ _ _ _ _ _ _ _ _ ?_
      intro a' w' h
      unfold RB at h
      obtain ⟨u9, h⟩ := h
      obtain ⟨u10, h⟩ := h
      obtain ⟨u15, h⟩ := h
      obtain ⟨u16, h⟩ := h
      obtain ⟨u17, h⟩ := h
      obtain ⟨u18, h⟩ := h
      obtain ⟨u19, h⟩ := h
      obtain ⟨u20, h⟩ := h
      obtain ⟨u21, h⟩ := h
      obtain ⟨u22, h⟩ := h
      obtain ⟨u23, h⟩ := h
      obtain ⟨u24, h⟩ := h
      obtain ⟨u25, h⟩ := h
      obtain ⟨u26, h⟩ := h
      obtain ⟨u27, h⟩ := h
      obtain ⟨u28, h⟩ := h
      obtain ⟨u29, h⟩ := h
      obtain ⟨u30, h⟩ := h
      obtain ⟨u31, h⟩ := h
      obtain ⟨u32, h⟩ := h
      obtain ⟨u33, h⟩ := h
      obtain ⟨u34, h⟩ := h
      obtain ⟨u35, h⟩ := h
      obtain ⟨u36, h⟩ := h
      obtain ⟨u37, h⟩ := h
      obtain ⟨u38, h⟩ := h
      obtain ⟨u39, h⟩ := h
      obtain ⟨u40, h⟩ := h
      obtain ⟨u41, h⟩ := h
      obtain ⟨u42, h⟩ := h
      obtain ⟨u43, h⟩ := h
      obtain ⟨u44, h⟩ := h
      obtain ⟨u45, h⟩ := h
      obtain ⟨u46, h⟩ := h
      obtain ⟨u47, h⟩ := h
      obtain ⟨u48, h⟩ := h
      obtain ⟨u49, h⟩ := h
      obtain ⟨u50, h⟩ := h
      obtain ⟨u51, h⟩ := h
      obtain ⟨u52, h⟩ := h
      obtain ⟨u53, h⟩ := h
      obtain ⟨u54, h⟩ := h
      obtain ⟨u55, h⟩ := h
      obtain ⟨u56, h⟩ := h
      obtain ⟨u57, h⟩ := h
      obtain ⟨u58, h⟩ := h
      obtain ⟨u59, h⟩ := h
      obtain ⟨u60, h⟩ := h
      obtain ⟨u61, h⟩ := h
      obtain ⟨u62, h⟩ := h
      obtain ⟨u63, h⟩ := h
      obtain ⟨u64, h⟩ := h
      obtain ⟨u65, h⟩ := h
      obtain ⟨u66, h⟩ := h
      obtain ⟨u67, h⟩ := h
      obtain ⟨u68, h⟩ := h
      obtain ⟨u69, h⟩ := h
      obtain ⟨u70, h⟩ := h
      obtain ⟨u71, h⟩ := h
      obtain ⟨u72, h⟩ := h
      obtain ⟨u73, h⟩ := h
      obtain ⟨u74, h⟩ := h
      obtain ⟨u75, h⟩ := h
      obtain ⟨u76, h⟩ := h
      obtain ⟨u77, h⟩ := h
      obtain ⟨u78, h⟩ := h
      obtain ⟨u79, h⟩ := h
      obtain ⟨u80, h⟩ := h
      obtain ⟨u81, h⟩ := h
      obtain ⟨u82, h⟩ := h
      obtain ⟨u83, h⟩ := h
      obtain ⟨u84, h⟩ := h
      obtain ⟨u85, h⟩ := h
      obtain ⟨u86, h⟩ := h
      obtain ⟨u87, h⟩ := h
      obtain ⟨u88, h⟩ := h
      obtain ⟨u89, h⟩ := h
      obtain ⟨u90, h⟩ := h
      obtain ⟨u91, h⟩ := h
      obtain ⟨u92, h⟩ := h
      obtain ⟨u93, h⟩ := h
      obtain ⟨u94, h⟩ := h
      obtain ⟨u95, h⟩ := h
      obtain ⟨u96, h⟩ := h
      obtain ⟨u97, h⟩ := h
      obtain ⟨u98, h⟩ := h
      obtain ⟨u99, h⟩ := h
      obtain ⟨u100, h⟩ := h
      obtain ⟨u101, h⟩ := h
      obtain ⟨u102, h⟩ := h
      obtain ⟨u103, h⟩ := h
      obtain ⟨u104, h⟩ := h
      obtain ⟨u105, h⟩ := h
      obtain ⟨u106, h⟩ := h
      obtain ⟨u107, h⟩ := h
      obtain ⟨u108, h⟩ := h
      obtain ⟨u109, h⟩ := h
      obtain ⟨u110, h⟩ := h
      obtain ⟨u111, h⟩ := h
      obtain ⟨u112, h⟩ := h
      obtain ⟨u113, h⟩ := h
      obtain ⟨u114, h⟩ := h
      obtain ⟨u115, h⟩ := h
      obtain ⟨u116, h⟩ := h
      obtain ⟨u117, h⟩ := h
      obtain ⟨u118, h⟩ := h
      obtain ⟨u119, h⟩ := h
      obtain ⟨u120, h⟩ := h
      obtain ⟨u121, h⟩ := h
      obtain ⟨u122, h⟩ := h
      obtain ⟨u123, h⟩ := h
      obtain ⟨u124, h⟩ := h
      obtain ⟨u125, h⟩ := h
      obtain ⟨u126, h⟩ := h
      obtain ⟨u127, h⟩ := h
      obtain ⟨u128, h⟩ := h
      obtain ⟨u129, h⟩ := h
      obtain ⟨u130, h⟩ := h
      obtain ⟨u131, h⟩ := h
      obtain ⟨u132, h⟩ := h
      obtain ⟨u133, h⟩ := h
      obtain ⟨u134, h⟩ := h
      obtain ⟨u135, h⟩ := h
      obtain ⟨u136, h⟩ := h
      obtain ⟨u137, h⟩ := h
      obtain ⟨u138, h⟩ := h
      obtain ⟨u139, h⟩ := h
      obtain ⟨u140, h⟩ := h
      obtain ⟨u141, h⟩ := h
      obtain ⟨u142, h⟩ := h
      obtain ⟨u143, h⟩ := h
      obtain ⟨u144, h⟩ := h
      obtain ⟨u145, h⟩ := h
      obtain ⟨u146, h⟩ := h
      obtain ⟨u147, h⟩ := h
      obtain ⟨u148, h⟩ := h
      obtain ⟨u149, h⟩ := h
      obtain ⟨u150, h⟩ := h
      obtain ⟨u151, h⟩ := h
      obtain ⟨u152, h⟩ := h
      obtain ⟨u153, h⟩ := h
      obtain ⟨u154, h⟩ := h
      obtain ⟨u155, h⟩ := h
      obtain ⟨u156, h⟩ := h
      obtain ⟨u157, h⟩ := h
      obtain ⟨u158, h⟩ := h
      obtain ⟨u159, h⟩ := h
      obtain ⟨u160, h⟩ := h
      obtain ⟨u161, h⟩ := h
      obtain ⟨u162, h⟩ := h
      obtain ⟨u163, h⟩ := h
      obtain ⟨u164, h⟩ := h
      obtain ⟨u165, h⟩ := h
      obtain ⟨u166, h⟩ := h
      obtain ⟨u167, h⟩ := h
      obtain ⟨u168, h⟩ := h
      obtain ⟨⟨da2, db2, rfl, rfl, hS, n, rfl⟩, rfl⟩ := h
      clear kA kB hV
      go_step
      exact stage3 most alpha beta scale l g0 g1 i00 i01 i11 nb w HD.out da2 db2 n hS.out _ _ _ _ _ _ _ _ _ _ _ _ _ _ _ _ _ _ _ _ _ _ _ _ _ _ _ _ _ _ _ _ _ _ _ _ _ _ _ _ _ _ _ _ _ _ _ _ _ _ _ _ _ _ _ _ _ _ _ _ _ _ _ _ _ _ _ _ _ _ _ _ _ _ _ _ _ _ _ _ _ _ _ _ _ _ _ _ _ _ _ _ _ _ _ _ _ _ _ _ _ _ _ _ _ _ _ _ _ _ _ _ _ _ _ _ _ _ _ _ _ _ _ _ _ _ _ _ _ _ _ _ _ _ _ _ _ _ _ _ _ _ _ _ _ _ _ _ _ _ _ _ _ _ _ _ _ _ _ _
end Sf
end Go.Proofs.Qxb6601435aMods
