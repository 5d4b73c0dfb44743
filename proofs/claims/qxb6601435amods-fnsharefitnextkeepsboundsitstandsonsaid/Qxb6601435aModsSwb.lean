/- ShareFit: (shareFit).next (27): the choice of the step. -/
import Derived.Test.Qxb6601435aModsSwa
namespace Go.Proofs.Qxb6601435aMods
open Go.RowKit
set_option linter.unusedVariables false
namespace Sf
open Tl Fl Vf
attribute [local go_sem] Vw.unary_neg_float Tl.run_store_float

set_option maxRecDepth 1000000 in
/-- Where the ways through the choice of the step meet. -/
def RB (most alpha beta scale l g0 g1 i00 i01 i11 : Nat) (nb : Bool) (w : World) (atA atB reg : Bool) (u11 u13 u14 : Value) (a' : Act) (w' : World) : Prop :=
  ∃ u9 u10 u15 u16 u17 u18 u19 u20 u21 u22 u23 u24 u25 u26 u27 u28 u29 u30 u31 u32 u33 u34 u35 u36 u37 u38 u39 u40 u41 u42 u43 u44 u45 u46 u47 u48 u49 u50 u51 u52 u53 u54 u55 u56 u57 u58 u59 u60 u61 u62 u63 u64 u65 u66 u67 u68 u69 u70 u71 u72 u73 u74 u75 u76 u77 u78 u79 u80 u81 u82 u83 u84 u85 u86 u87 u88 u89 u90 u91 u92 u93 u94 u95 u96 u97 u98 u99 u100 u101 u102 u103 u104 u105 u106 u107 u108 u109 u110 u111 u112 u113 u114 u115 u116 u117 u118 u119 u120 u121 u122 u123 u124 u125 u126 u127 u128 u129 u130 u131 u132 u133 u134 u135 u136 u137 u138 u139 u140 u141 u142 u143 u144 u145 u146 u147 u148 u149 u150 u151 u152 u153 u154 u155 u156 u157 u158 u159 u160 u161 u162 u163 u164 u165 u166 u167 u168 : Value, (∃ da db, u9 = .float .f64 da ∧ u10 = .float .f64 db ∧ Hid (S2 most alpha beta i11 da db) ∧ ∃ n, w' = (W4 w most alpha beta scale l g0 g1 i00 i01 i11 nb 0 0).drewN n) ∧
    a' = ⟨#[.agg #[.slice .none 0 0, .float .f64 most], .agg #[.float .f64 alpha, .float .f64 beta, .float .f64 scale, .bool nb], .agg #[.float .f64 l, .float .f64 g0, .float .f64 g1, .float .f64 i00, .float .f64 i01, .float .f64 i11], .pointer (some ⟨w.heap.size, 0, none⟩), .pointer (some ⟨w.heap.size + 1, 0, none⟩), .pointer (some ⟨w.heap.size + 1 + 1, 0, none⟩), .pointer (some ⟨w.heap.size + 1 + 1 + 1, 0, none⟩), .bool atA, .bool atB, u9, u10, u11, .bool reg, u13, u14, u15, u16, u17, u18, u19, u20, u21, u22, u23, u24, u25, u26, u27, u28, u29, u30, u31, u32, u33, u34, u35, u36, u37, u38, u39, u40, u41, u42, u43, u44, u45, u46, u47, u48, u49, u50, u51, u52, u53, u54, u55, u56, u57, u58, u59, u60, u61, u62, u63, u64, u65, u66, u67, u68, u69, u70, u71, u72, u73, u74, u75, u76, u77, u78, u79, u80, u81, u82, u83, u84, u85, u86, u87, u88, u89, u90, u91, u92, u93, u94, u95, u96, u97, u98, u99, u100, u101, u102, u103, u104, u105, u106, u107, u108, u109, u110, u111, u112, u113, u114, u115, u116, u117, u118, u119, u120, u121, u122, u123, u124, u125, u126, u127, u128, u129, u130, u131, u132, u133, u134, u135, u136, u137, u138, u139, u140, u141, u142, u143, u144, u145, u146, u147, u148, u149, u150, u151, u152, u153, u154, u155, u156, u157, u158, u159, u160, u161, u162, u163, u164, u165, u166, u167, u168], []⟩

set_option maxRecDepth 100000 in
set_option maxHeartbeats 4000000 in
/-- The choice of the step. -/
theorem block0 (most alpha beta scale l g0 g1 i00 i01 i11 : Nat) (nb : Bool) (w : World) (HD : Hid (Dom most alpha beta g0 g1 i00 i01 i11)) (atA atB reg : Bool) (kA : Hid (V alpha = V most → atA = true)) (kB : Hid (V beta = 0 → atB = true))
    (da db : Nat) (hV : Hid (RegV reg da db)) (u11 u13 u14 u15 u16 u17 u18 u19 u20 u21 u22 u23 u24 u25 u26 u27 u28 u29 u30 u31 u32 u33 u34 u35 u36 u37 u38 u39 u40 u41 u42 u43 u44 u45 u46 u47 u48 u49 u50 u51 u52 u53 u54 u55 u56 u57 u58 u59 u60 u61 u62 u63 u64 u65 u66 u67 u68 u69 u70 u71 u72 u73 u74 u75 u76 u77 u78 u79 u80 u81 u82 u83 u84 u85 u86 u87 u88 u89 u90 u91 u92 u93 u94 u95 u96 u97 u98 u99 u100 u101 u102 u103 u104 u105 u106 u107 u108 u109 u110 u111 u112 u113 u114 u115 u116 u117 u118 u119 u120 u121 u122 u123 u124 u125 u126 u127 u128 u129 u130 u131 u132 u133 u134 u135 u136 u137 u138 u139 u140 u141 u142 u143 u144 u145 u146 u147 u148 u149 u150 u151 u152 u153 u154 u155 u156 u157 u158 u159 u160 u161 u162 u163 u164 u165 u166 u167 u168 : Value) (K : Act → World → Prop) (Q' : Exit → Act → World → Prop)
    (hK : ∀ a' w', RB most alpha beta scale l g0 g1 i00 i01 i11 nb w atA atB reg u11 u13 u14 a' w' → K a' w') :
    Code.wp Trym.prog (seqAt 6 (Trym.f27.body.getD .skip)) (Exit.then K Q')
      ⟨#[.agg #[.slice .none 0 0, .float .f64 most], .agg #[.float .f64 alpha, .float .f64 beta, .float .f64 scale, .bool nb], .agg #[.float .f64 l, .float .f64 g0, .float .f64 g1, .float .f64 i00, .float .f64 i01, .float .f64 i11], .pointer (some ⟨w.heap.size, 0, none⟩), .pointer (some ⟨w.heap.size + 1, 0, none⟩), .pointer (some ⟨w.heap.size + 1 + 1, 0, none⟩), .pointer (some ⟨w.heap.size + 1 + 1 + 1, 0, none⟩), .bool atA, .bool atB, .float .f64 da, .float .f64 db, u11, .bool reg, u13, u14, u15, u16, u17, u18, u19, u20, u21, u22, u23, u24, u25, u26, u27, u28, u29, u30, u31, u32, u33, u34, u35, u36, u37, u38, u39, u40, u41, u42, u43, u44, u45, u46, u47, u48, u49, u50, u51, u52, u53, u54, u55, u56, u57, u58, u59, u60, u61, u62, u63, u64, u65, u66, u67, u68, u69, u70, u71, u72, u73, u74, u75, u76, u77, u78, u79, u80, u81, u82, u83, u84, u85, u86, u87, u88, u89, u90, u91, u92, u93, u94, u95, u96, u97, u98, u99, u100, u101, u102, u103, u104, u105, u106, u107, u108, u109, u110, u111, u112, u113, u114, u115, u116, u117, u118, u119, u120, u121, u122, u123, u124, u125, u126, u127, u128, u129, u130, u131, u132, u133, u134, u135, u136, u137, u138, u139, u140, u141, u142, u143, u144, u145, u146, u147, u148, u149, u150, u151, u152, u153, u154, u155, u156, u157, u158, u159, u160, u161, u162, u163, u164, u165, u166, u167, u168], []⟩ (W4 w most alpha beta scale l g0 g1 i00 i01 i11 nb 0 0).drew := by
  conv => arg 2; whnf
  unfold W4
  dsimp only
  go_cut [9, 10] from 15 (fun s9 s10 wx => ∃ da db, s9 = .float .f64 da ∧ s10 = .float .f64 db ∧ Hid (S2 most alpha beta i11 da db) ∧ ∃ n, wx = (W4 w most alpha beta scale l g0 g1 i00 i01 i11 nb 0 0).drewN n)
  case rest =>
    refine hK _ _ ?_
    unfold RB
    (repeat apply Exists.intro)
    exact ⟨hcut, rfl⟩
  case first =>
    clear hK
    obtain ⟨pda, oda⟩ : ∃ b, (FloatKind.f64.format.order da 0 == some Ordering.gt) = b := ⟨_, rfl⟩
    obtain ⟨pdb, odb⟩ : ∃ b, (FloatKind.f64.format.order db 0 == some Ordering.gt) = b := ⟨_, rfl⟩
    obtain ⟨ng, og⟩ : ∃ b, (FloatKind.f64.format.order g0 0 == some Ordering.lt) = b := ⟨_, rfl⟩
    have kda : Hid (reg = true → pda = false → V da ≤ 0) := fun h1 h2 => by
      have f := (hV.out h1).1
      rw [← oda, gt_b (.inl f) (.inl fin_zero.1), W_fin f, W_zero] at h2
      have := of_decide_eq_false h2; omega
    have kdb : Hid (reg = true → pdb = false → V db ≤ 0) := fun h1 h2 => by
      have f := (hV.out h1).2.1
      rw [← odb, gt_b (.inl f) (.inl fin_zero.1), W_fin f, W_zero] at h2
      have := of_decide_eq_false h2; omega
    have kng : Hid (ng = true → V g0 ≤ 0) := fun h2 => by
      have f := HD.out.d0.1
      rw [← og, lt_b (.inl f) (.inl fin_zero.1), W_fin f, W_zero] at h2
      have := of_decide_eq_true h2; omega
    obtain ⟨zB, xB, nB, wB, cB⟩ := max_two (.inl HD.out.dA.1) (.inl F_c300.1)
    obtain ⟨zC, xC, nC, wC, cC⟩ := max_two (.inl HD.out.dC.1) (.inl F_c300.1)
    obtain ⟨vB, ovB⟩ := over_ok HD.out.d0 HD.out.dA HD.out.p0 nB wB cB
    obtain ⟨vC, ovC⟩ := over_ok HD.out.d1 HD.out.dC HD.out.p1 nC wC cC
    have yB := fun w => run_float_arith (P := Trym.prog) w .quo 26 .f64 g0 zB vB ovB.1
    have yC := fun w => run_float_arith (P := Trym.prog) w .quo 26 .f64 g1 zC vC ovC.1
    have hvB : Hid _ := ovB
    have hvC : Hid _ := ovC
    clear ovB ovC nB nC wB wC cB cC
    cases reg
    · cases atA
      · go_wp2
        go_meet
        exact ⟨vB, 0, rfl, rfl, sB hvB.out (fun h => by cases kA.out h), 1, rfl⟩
      · cases ng
        · go_wp2
          go_region
          all_goals
            go_wp2_with fail
            go_meet
            exact ⟨0, vC, rfl, rfl, sC hvC.out, 2, rfl⟩
        · go_wp2
          go_meet
          exact ⟨vB, 0, rfl, rfl, sB hvB.out (fun _ => kng.out (by trivial)), 1, rfl⟩
    · cases atA
      · cases atB
        · go_wp2
          go_meet
          exact ⟨da, db, rfl, rfl, sA (hV.out rfl) (fun h => by cases kA.out h) (fun h => by cases kB.out h), 1, rfl⟩
        · cases pdb
          · go_wp2
            go_meet
            exact ⟨da, db, rfl, rfl, sA (hV.out rfl) (fun h => by cases kA.out h) (fun _ => kdb.out (by trivial) (by trivial)), 1, rfl⟩
          · go_wp2
            go_meet
            exact ⟨vB, 0, rfl, rfl, sB hvB.out (fun h => by cases kA.out h), 1, rfl⟩
      · cases pda
        · cases atB
          · go_wp2
            go_meet
            exact ⟨da, db, rfl, rfl, sA (hV.out rfl) (fun _ => kda.out (by trivial) (by trivial)) (fun h => by cases kB.out h), 1, rfl⟩
          · cases pdb
            · go_wp2
              go_meet
              exact ⟨da, db, rfl, rfl, sA (hV.out rfl) (fun _ => kda.out (by trivial) (by trivial)) (fun _ => kdb.out (by trivial) (by trivial)), 1, rfl⟩
            · cases ng
              · go_wp2
                go_region
                all_goals
                  go_wp2_with fail
                  go_meet
                  exact ⟨0, vC, rfl, rfl, sC hvC.out, 2, rfl⟩
              · go_wp2
                go_meet
                exact ⟨vB, 0, rfl, rfl, sB hvB.out (fun _ => kng.out (by trivial)), 1, rfl⟩
        · cases ng
          · go_wp2
            go_region
            all_goals
              go_wp2_with fail
              go_meet
              exact ⟨0, vC, rfl, rfl, sC hvC.out, 2, rfl⟩
          · go_wp2
            go_meet
            exact ⟨vB, 0, rfl, rfl, sB hvB.out (fun _ => kng.out (by trivial)), 1, rfl⟩

end Sf
end Go.Proofs.Qxb6601435aMods
