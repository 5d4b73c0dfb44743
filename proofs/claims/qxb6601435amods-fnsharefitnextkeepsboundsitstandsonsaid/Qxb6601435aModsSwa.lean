/- ShareFit: (shareFit).next (27): helpers, and all behind the choice of the step. -/
import Derived.Test.Qxb6601435aModsSd
import Derived.Deep.Cut
import Derived.Deep.CutRange
import Derived.Deep.CutBlock
namespace Go.Proofs.Qxb6601435aMods
open Go.RowKit
set_option linter.unusedVariables false
namespace Sf
open Tl Fl Vf
attribute [local go_sem] Vw.unary_neg_float Tl.run_store_float

theorem max_two {x y : Nat} (hx : Num x) (hy : Num y) : ∃ z, (∀ (w : World) (ts : Array TypeId) (t : TypeId), (Builtin.max_ ts t #[.float .f64 x, .float .f64 y]).run Trym.prog w = .ok (.float .f64 z) w) ∧ Num z ∧ W z = max (W x) (W y) ∧ (z = x ∨ z = y) := by
  have ho : FloatKind.f64.format.order x y = some (compare (W x) (W y)) := order_num hx hy
  rcases Int.lt_trichotomy (W x) (W y) with h | h | h
  · rw [Int.compare_eq_lt.2 h] at ho
    refine ⟨y, fun w ts t => ?_, hy, by omega, .inr rfl⟩
    simp [Builtin.max_, Builtin.max2, ho]
  · rw [Int.compare_eq_eq.2 h] at ho
    by_cases hn : (FloatKind.f64.decode x).neg = true
    · refine ⟨y, fun w ts t => ?_, hy, by omega, .inr rfl⟩
      simp [Builtin.max_, Builtin.max2, ho, hn]
    · refine ⟨x, fun w ts t => ?_, hx, by omega, .inl rfl⟩
      simp [Builtin.max_, Builtin.max2, ho, hn]
  · rw [Int.compare_eq_gt.2 h] at ho
    refine ⟨x, fun w ts t => ?_, hx, by omega, .inl rfl⟩
    simp [Builtin.max_, Builtin.max2, ho]

/-- The memory of a call: the three parameters' boxes and the result's. -/
def W4 (w : World) (most alpha beta scale l g0 g1 i00 i01 i11 : Nat) (nb : Bool) (ra rb : Nat) : World :=
  (((w.alloc (.cells #[.slice .none 0 0, .float .f64 most] 50)).alloc (.cells #[.float .f64 alpha, .float .f64 beta, .float .f64 scale, .bool nb] 52)).alloc
    (.cells #[.float .f64 l, .float .f64 g0, .float .f64 g1, .float .f64 i00, .float .f64 i01, .float .f64 i11] 55)).alloc (.cells #[.float .f64 ra, .float .f64 rb, .float .f64 0, .bool false] 52)

theorem sA {most alpha beta i11 da db : Nat} (h : Fnt da ∧ Fnt db ∧ Le 850 (V da) ∧ Le 850 (V db)) (ka : V alpha = V most → V da ≤ 0) (kb : V beta = 0 → V db ≤ 0) : S2 most alpha beta i11 da db :=
  ⟨.inl h.1, .inl h.2.1, fun h0 => by rw [W_fin h.1]; exact ka h0, .inl ⟨h.1, h.2.1, h.2.2.1, h.2.2.2, kb⟩⟩
theorem sB {most alpha beta i11 g0 d i00 r : Nat} (h : OverF g0 d i00 r) (ka : V alpha = V most → V g0 ≤ 0) : S2 most alpha beta i11 r 0 :=
  ⟨h.2.1, .inl fin_zero.1, fun h0 => h.2.2.1 (ka h0), .inr (.inl fin_zero)⟩
theorem sC {most alpha beta i11 g1 d r : Nat} (h : OverF g1 d i11 r) : S2 most alpha beta i11 0 r :=
  ⟨.inl fin_zero.1, h.2.1, fun _ => by rw [W_zero]; exact Int.le_refl _, .inr (.inr ⟨fin_zero.1, fin_zero.2, h.2.2.2⟩)⟩

theorem gt_b {x y : Nat} (hx : Num x) (hy : Num y) : (FloatKind.f64.format.order x y == some Ordering.gt) = decide (W y < W x) := by
  have ho : FloatKind.f64.format.order x y = some (compare (W x) (W y)) := order_num hx hy
  rw [ho]
  rcases Int.lt_trichotomy (W x) (W y) with h | h | h
  · rw [Int.compare_eq_lt.2 h, decide_eq_false (by omega)]; rfl
  · rw [Int.compare_eq_eq.2 h, decide_eq_false (by omega)]; rfl
  · rw [Int.compare_eq_gt.2 h, decide_eq_true (by omega)]; rfl
theorem lt_b {x y : Nat} (hx : Num x) (hy : Num y) : (FloatKind.f64.format.order x y == some Ordering.lt) = decide (W x < W y) := by
  have ho : FloatKind.f64.format.order x y = some (compare (W x) (W y)) := order_num hx hy
  rw [ho]
  rcases Int.lt_trichotomy (W x) (W y) with h | h | h
  · rw [Int.compare_eq_lt.2 h, decide_eq_true (by omega)]; rfl
  · rw [Int.compare_eq_eq.2 h, decide_eq_false (by omega)]; rfl
  · rw [Int.compare_eq_gt.2 h, decide_eq_false (by omega)]; rfl
theorem ge_b {x y : Nat} (hx : Num x) (hy : Num y) : (FloatKind.f64.format.order x y == some Ordering.gt || FloatKind.f64.format.order x y == some Ordering.eq) = decide (W y ≤ W x) := by
  have ho : FloatKind.f64.format.order x y = some (compare (W x) (W y)) := order_num hx hy
  rw [ho]
  rcases Int.lt_trichotomy (W x) (W y) with h | h | h
  · rw [Int.compare_eq_lt.2 h, decide_eq_false (by omega)]; rfl
  · rw [Int.compare_eq_eq.2 h, decide_eq_true (by omega)]; rfl
  · rw [Int.compare_eq_gt.2 h, decide_eq_true (by omega)]; rfl
theorem le_b {x y : Nat} (hx : Num x) (hy : Num y) : (FloatKind.f64.format.order x y == some Ordering.lt || FloatKind.f64.format.order x y == some Ordering.eq) = decide (W x ≤ W y) := by
  have ho : FloatKind.f64.format.order x y = some (compare (W x) (W y)) := order_num hx hy
  rw [ho]
  rcases Int.lt_trichotomy (W x) (W y) with h | h | h
  · rw [Int.compare_eq_lt.2 h, decide_eq_true (by omega)]; rfl
  · rw [Int.compare_eq_eq.2 h, decide_eq_true (by omega)]; rfl
  · rw [Int.compare_eq_gt.2 h, decide_eq_false (by omega)]; rfl

theorem below4 (w : World) (most alpha beta scale l g0 g1 i00 i01 i11 : Nat) (nb : Bool) (n a b : Nat) :
    Below w.heap.size w ((((((W4 w most alpha beta scale l g0 g1 i00 i01 i11 nb 0 0).drewN n).setCell ⟨w.heap.size + 1 + 1 + 1, 0, none⟩ (.float .f64 a)).setCell ⟨w.heap.size + 1 + 1 + 1, 1, none⟩ (.float .f64 b)).setCell ⟨w.heap.size + 1 + 1 + 1, 2, none⟩ (.float .f64 0)).setCell ⟨w.heap.size + 1 + 1 + 1, 3, none⟩ (.bool false)) := by
  have h1 : Below w.heap.size w (W4 w most alpha beta scale l g0 g1 i00 i01 i11 nb 0 0) := by
    unfold W4
    exact ((((Below.refl _ _).alloc (Nat.le_refl _) _).alloc (by simp) _).alloc (by simp; omega) _).alloc (by simp; omega) _
  have h2 : Below w.heap.size w ((W4 w most alpha beta scale l g0 g1 i00 i01 i11 nb 0 0).drewN n) := ⟨h1.os, h1.tape, h1.output, h1.size, h1.block⟩
  exact (((h2.setCell (by show w.heap.size ≤ w.heap.size + 1 + 1 + 1; omega) _).setCell (by show w.heap.size ≤ w.heap.size + 1 + 1 + 1; omega) _).setCell (by show w.heap.size ≤ w.heap.size + 1 + 1 + 1; omega) _).setCell (by show w.heap.size ≤ w.heap.size + 1 + 1 + 1; omega) _

def RegV (reg : Bool) (da db : Nat) : Prop := reg = true → Fnt da ∧ Fnt db ∧ Le 850 (V da) ∧ Le 850 (V db)
theorem RegV.no {da db : Nat} : RegV false da db := fun h => by cases h

/-- A statement of a sequence; and all from one on. -/
def seqAt : Nat → Code → Code
  | 0, .seq a _ => a
  | n + 1, .seq _ b => seqAt n b
  | _, c => c
def tailAt : Nat → Code → Code
  | 0, c => c
  | n + 1, .seq _ b => tailAt n b
  | _, c => c

set_option maxRecDepth 100000 in
set_option maxHeartbeats 4000000 in
/-- All behind the choice of the step. -/
theorem stage3 (most alpha beta scale l g0 g1 i00 i01 i11 : Nat) (nb : Bool) (w : World) (D : Dom most alpha beta g0 g1 i00 i01 i11) (da db n : Nat) (S : S2 most alpha beta i11 da db)
    (u7 u8 u11 u12 u13 u14 u15 u16 u17 u18 u19 u20 u21 u22 u23 u24 u25 u26 u27 u28 u29 u30 u31 u32 u33 u34 u35 u36 u37 u38 u39 u40 u41 u42 u43 u44 u45 u46 u47 u48 u49 u50 u51 u52 u53 u54 u55 u56 u57 u58 u59 u60 u61 u62 u63 u64 u65 u66 u67 u68 u69 u70 u71 u72 u73 u74 u75 u76 u77 u78 u79 u80 u81 u82 u83 u84 u85 u86 u87 u88 u89 u90 u91 u92 u93 u94 u95 u96 u97 u98 u99 u100 u101 u102 u103 u104 u105 u106 u107 u108 u109 u110 u111 u112 u113 u114 u115 u116 u117 u118 u119 u120 u121 u122 u123 u124 u125 u126 u127 u128 u129 u130 u131 u132 u133 u134 u135 u136 u137 u138 u139 u140 u141 u142 u143 u144 u145 u146 u147 u148 u149 u150 u151 u152 u153 u154 u155 u156 u157 u158 u159 u160 u161 u162 u163 u164 u165 u166 u167 u168 : Value) :
    Code.wp Trym.prog (tailAt 7 (Trym.f27.body.getD .skip)) (bodyPost Trym.prog Trym.f27 fun e w' => ∃ a b, e = .returned (.agg #[.float .f64 a, .float .f64 b, .float .f64 0, .bool false]) ∧ Below w.heap.size w w' ∧ Hid (Fl.Good most alpha beta i11 a b))
      ⟨#[.agg #[.slice .none 0 0, .float .f64 most], .agg #[.float .f64 alpha, .float .f64 beta, .float .f64 scale, .bool nb], .agg #[.float .f64 l, .float .f64 g0, .float .f64 g1, .float .f64 i00, .float .f64 i01, .float .f64 i11], .pointer (some ⟨w.heap.size, 0, none⟩), .pointer (some ⟨w.heap.size + 1, 0, none⟩), .pointer (some ⟨w.heap.size + 1 + 1, 0, none⟩), .pointer (some ⟨w.heap.size + 1 + 1 + 1, 0, none⟩), u7, u8, .float .f64 da, .float .f64 db, u11, u12, u13, u14, u15, u16, u17, u18, u19, u20, u21, u22, u23, u24, u25, u26, u27, u28, u29, u30, u31, u32, u33, u34, u35, u36, u37, u38, u39, u40, u41, u42, u43, u44, u45, u46, u47, u48, u49, u50, u51, u52, u53, u54, u55, u56, u57, u58, u59, u60, u61, u62, u63, u64, u65, u66, u67, u68, u69, u70, u71, u72, u73, u74, u75, u76, u77, u78, u79, u80, u81, u82, u83, u84, u85, u86, u87, u88, u89, u90, u91, u92, u93, u94, u95, u96, u97, u98, u99, u100, u101, u102, u103, u104, u105, u106, u107, u108, u109, u110, u111, u112, u113, u114, u115, u116, u117, u118, u119, u120, u121, u122, u123, u124, u125, u126, u127, u128, u129, u130, u131, u132, u133, u134, u135, u136, u137, u138, u139, u140, u141, u142, u143, u144, u145, u146, u147, u148, u149, u150, u151, u152, u153, u154, u155, u156, u157, u158, u159, u160, u161, u162, u163, u164, u165, u166, u167, u168], []⟩ ((W4 w most alpha beta scale l g0 g1 i00 i01 i11 nb 0 0).drewN n) := by
  have HD : Hid _ := D
  have hS : Hid _ := S
  clear D S
  conv => arg 2; whnf
  obtain ⟨ra, ea, na, pa1, pa2⟩ := stepA HD.out hS.out
  obtain ⟨rb, eb, nrb, pb1, pb2⟩ := stepB HD.out hS.out (Vw.neg_ok _ HD.out.fb).1 (Vw.neg_ok _ HD.out.fb).2
  have rA := fun w => run_float_arith (P := Trym.prog) w .add 26 .f64 alpha da ra ea
  have rB := fun w => run_float_arith (P := Trym.prog) w .add 26 .f64 beta db rb eb
  have oA := gt_b na (.inl HD.out.fm)
  have oB := gt_b nrb (.inl fin_zero.1)
  rw [W_fin HD.out.fm] at oA
  rw [W_zero] at oB
  replace ea : Hid _ := ea
  replace eb : Hid _ := eb
  replace na : Hid _ := na
  replace nrb : Hid _ := nrb
  replace pa1 : Hid _ := pa1
  replace pa2 : Hid _ := pa2
  replace pb1 : Hid _ := pb1
  replace pb2 : Hid _ := pb2
  obtain ⟨gA, ogA⟩ : ∃ b, (FloatKind.f64.format.order ra most == some Ordering.gt) = b := ⟨_, rfl⟩
  obtain ⟨gB, ogB⟩ : ∃ b, (FloatKind.f64.format.order rb 0 == some Ordering.gt) = b := ⟨_, rfl⟩
  rw [ogA] at oA
  rw [ogB] at oB
  replace oA : Hid _ := oA
  replace oB : Hid _ := oB
  unfold W4
  go_upto_if 113 with fail
  go_cut [13] from 15 (fun s13 wx => ∃ toA, s13 = .float .f64 toA ∧ Hid (PA most alpha da ra toA) ∧ wx = (W4 w most alpha beta scale l g0 g1 i00 i01 i11 nb 0 0).drewN n)
  case first =>
    cases gA
    · have hc : ¬ V most < W ra := of_decide_eq_false oA.out.symm
      have HP : Hid _ := pa1.out (by omega)
      clear hc oA
      go_wp2
      go_meet
      exact ⟨_, rfl, HP, rfl⟩
    · have hc : V most < W ra := of_decide_eq_true oA.out.symm
      obtain ⟨X, toA, x1, x2, hP⟩ := pa2.out hc
      have x3 := fun w => run_float_arith (P := Trym.prog) w .sub 26 .f64 most alpha X x1
      have x4 := fun w => run_float_arith (P := Trym.prog) w .quo 26 .f64 X da toA x2
      have HP : Hid _ := hP
      clear hP x1 x2 hc oA
      go_wp2
      go_meet
      exact ⟨toA, rfl, HP, rfl⟩
  case rest =>
    obtain ⟨toA, rfl, hPA, rfl⟩ := hcut
    unfold W4
    go_upto_if 125 with fail
    go_cut [14] from 15 (fun s14 wx => ∃ toB, s14 = .float .f64 toB ∧ Hid (PB beta db rb toB) ∧ wx = (W4 w most alpha beta scale l g0 g1 i00 i01 i11 nb 0 0).drewN n)
    case first =>
      cases gB
      · have hc : ¬ 0 < W rb := of_decide_eq_false oB.out.symm
        have HP : Hid _ := pb1.out (by omega)
        clear hc oB
        go_wp2
        go_meet
        exact ⟨_, rfl, HP, rfl⟩
      · have hc : 0 < W rb := of_decide_eq_true oB.out.symm
        obtain ⟨toB, x2, hP⟩ := pb2.out hc
        have x4 := fun w => run_float_arith (P := Trym.prog) w .quo 26 .f64 (Op.negFloat .f64 beta) db toB x2
        have HP : Hid _ := hP
        clear hP x2 hc oB
        go_wp2
        go_meet
        exact ⟨toB, rfl, HP, rfl⟩
    case rest =>
      obtain ⟨toB, rfl, hPB, rfl⟩ := hcut
      have o1 := lt_b hPA.out.n (.inl V_one.1)
      have o2 := le_b hPA.out.n hPB.out.n
      have o3 := lt_b hPB.out.n (.inl V_one.1)
      rw [W_one] at o1 o3
      clear pa1 pa2 pb1 pb2 oA oB ogA ogB
      unfold W4
      by_cases hA : W toA < U
      · rw [decide_eq_true hA] at o1
        by_cases hAB : W toA ≤ W toB
        · rw [decide_eq_true hAB] at o2
          obtain ⟨m, b, y1, y2, hG⟩ := ret1 HD.out hS.out hPA.out hA
          have z1 := fun w => run_float_arith (P := Trym.prog) w .mul 26 .f64 toA db m y1
          have z2 := fun w => run_float_arith (P := Trym.prog) w .add 26 .f64 beta m b y2
          have HG : Hid _ := hG
          clear hG y1 y2 hA hAB
          go_wp2
          refine bodyPost_ret (v := .agg #[.float .f64 most, .float .f64 b, .float .f64 0, .bool false]) (by simp [results, Trym.results27, go_sem]) rfl ⟨most, b, rfl, ?_, HG⟩
          exact below4 w most alpha beta scale l g0 g1 i00 i01 i11 nb n most b
        · rw [decide_eq_false hAB] at o2
          have hB : W toB < U := by omega
          rw [decide_eq_true hB] at o3
          obtain ⟨m, t, y1, y2, nt, hG⟩ := ret2 HD.out hS.out hPB.out hB
          obtain ⟨a, xa, nma, wa, ca⟩ := max_two (.inl F_n60) nt
          have z1 := fun w => run_float_arith (P := Trym.prog) w .mul 26 .f64 toB da m y1
          have z2 := fun w => run_float_arith (P := Trym.prog) w .add 26 .f64 alpha m t y2
          have HG : Hid _ := hG a nma wa ca
          clear hG y1 y2 nt nma wa ca hA hB hAB
          go_wp2
          refine bodyPost_ret (v := .agg #[.float .f64 a, .float .f64 0, .float .f64 0, .bool false]) (by simp [results, Trym.results27, go_sem]) rfl ⟨a, 0, rfl, ?_, HG⟩
          exact below4 w most alpha beta scale l g0 g1 i00 i01 i11 nb n a 0
      · rw [decide_eq_false hA] at o1
        by_cases hB : W toB < U
        · rw [decide_eq_true hB] at o3
          obtain ⟨m, t, y1, y2, nt, hG⟩ := ret2 HD.out hS.out hPB.out hB
          obtain ⟨a, xa, nma, wa, ca⟩ := max_two (.inl F_n60) nt
          have z1 := fun w => run_float_arith (P := Trym.prog) w .mul 26 .f64 toB da m y1
          have z2 := fun w => run_float_arith (P := Trym.prog) w .add 26 .f64 alpha m t y2
          have HG : Hid _ := hG a nma wa ca
          clear hG y1 y2 nt nma wa ca hA hB o2
          go_wp2
          refine bodyPost_ret (v := .agg #[.float .f64 a, .float .f64 0, .float .f64 0, .bool false]) (by simp [results, Trym.results27, go_sem]) rfl ⟨a, 0, rfl, ?_, HG⟩
          exact below4 w most alpha beta scale l g0 g1 i00 i01 i11 nb n a 0
        · rw [decide_eq_false hB] at o3
          obtain ⟨a, xa, nma, wa, ca⟩ := max_two (.inl F_n60) na.out
          have HG : Hid _ := ret3 HD.out hS.out ea.out na.out eb.out nrb.out hPA.out hPB.out (by omega) (by omega) a nma wa ca
          clear nma wa ca hA hB o2
          go_wp2
          refine bodyPost_ret (v := .agg #[.float .f64 a, .float .f64 rb, .float .f64 0, .bool false]) (by simp [results, Trym.results27, go_sem]) rfl ⟨a, rb, rfl, ?_, HG⟩
          exact below4 w most alpha beta scale l g0 g1 i00 i01 i11 nb n a rb

end Sf
end Go.Proofs.Qxb6601435aMods
