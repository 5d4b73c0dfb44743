/- The walk of FnNonceFirstNoReplay (6). -/
import Derived.Test.Qxb6602838aModsRp
namespace Go.Proofs.Qxb6602838aMods
open Go.RowKit
set_option linter.unusedVariables false
namespace Rp
open Nc

theorem new_one (w : World) (x : Value) (t : TypeId) : ∀ j u, [x][j]? = some u → (w.alloc (.cells #[x] t)).cell? ((⟨w.heap.size, 0, none⟩ : Addr).add j) = some u := by
  intro j u hj
  match j, hj with
  | 0, hj => simp at hj; subst hj; simp [Addr.add]
theorem one_u32 (z : Int) : ∀ u ∈ [Value.int .u32 z], u.oneCell' = true := by
  intro u hu; simp at hu; subst hu; rfl
theorem len_ok {k : Nat} (h : k ≤ 100000) : k ≤ maxLen := by unfold maxLen; omega

set_option maxHeartbeats 2000000 in
set_option maxRecDepth 100000 in
theorem walk_some (iss : Int) (mx s : Nat) (x : Addr) (n c : Nat) (xs : List Nat) (w : World) (hm : mx < 4294967296) (hs : s < 18446744073709551616) (h : Raw w (some x) n xs) (hx : ∀ t ∈ xs, t < 4294967296) (hn : n ≤ 4096) :
    Calls Trym.prog 6 #[.int .i64 iss, .int .u32 mx, .int .u64 s, .slice (some x) n c] w fun e w' => e = .returned (.bool true) ∧ Below w.heap.size w w' := by
  obtain ⟨i0, hi, hz0, hz1, hz2⟩ := info_parts Trym.info28
  have HX : Hid _ := hx
  clear hx
  have hii : (iss != iss) = false := by simp
  go_enter Trym.func6, Trym.ntmps6
  go_wp2_with fail
  refine (bytes_yes _ _ _ _ _ _ _ (by omega)).mono ?_
  rintro e w' ⟨rfl, hw⟩
  subst hw
  go_wp2_with (at_make; refine wpList_make_full _ rfl _ _ 35 rfl w'.heap.size 28 i0 (.int .u32 0) 1 Trym.underlying35 hi hz0 hz1 _ _ _ _ n rfl rfl rfl rfl ?b2 ?b3 (Nat.le_refl _) ?_)
  case b2 => rw [hz2]; omega
  case b3 => unfold maxLen; omega
  intro w0 hown0 hgrow0
  have hb0 : Below w'.heap.size w' w0 := (Below.refl _ _).grown hgrow0 (Nat.le_refl _) (fun k h => by cases h)
  obtain ⟨xs0, hown0, hl0⟩ : ∃ vs, w0.ownsRow w'.heap.size 28 1 (.slice (some ⟨w'.heap.size, 0, none⟩) n n) n vs ∧ vs.length = n := ⟨_, hown0, by simpa using hown0.1⟩
  clear hgrow0
  have HL0 : Hid _ := hl0
  clear hl0
  go_wp2
  go_loopw [10] (fun i wr => ∃ (k : Nat) (vs : List Value), k ≤ n ∧ i = .int .i64 k ∧ wr.ownsRow w'.heap.size 28 1 (.slice (some ⟨w'.heap.size, 0, none⟩) n n) n vs ∧ Hid (vs.length = n) ∧ Filled xs k vs ∧ Below w'.heap.size w' wr)
    (fun i _ => n - (intOf i).toNat)
  case atStart => exact ⟨0, xs0, Nat.zero_le _, rfl, hown0, HL0, Filled.zero _ _, hb0⟩
  case round =>
    clear hown0 hb0 HL0
    obtain ⟨k, vs, hk, rfl, hown, hxl, hF, hb⟩ := hrel
    by_cases hlt : k < n
    · obtain ⟨b, off, t, hx, hbs, hc, hsk⟩ := h.at hlt
      simp only [Option.some.injEq] at hx
      subst hx
      have hc' : wr.cell? ⟨b, off + k, none⟩ = some (.int .u32 (t : Int)) := (hb.cell (p := ⟨b, off + k, none⟩) hbs).trans hc
      have hkx : k < vs.length := by rw [hxl.out]; exact hlt
      have hd := hown.cellAt k (by omega)
      have hf := hown.frozenAt k
      rw [List.getElem?_eq_getElem hkx] at hd
      generalize vs[k] = old at hd
      obtain ⟨st1, st2⟩ := hown.stored k (.int .u32 (t : Int))
      have hb1 : Below w'.heap.size w' (wr.setCell ⟨w'.heap.size, k, none⟩ (.int .u32 (t : Int))) := hb.grown st2 hb.size (fun k hk => by cases hk; exact Nat.le_refl _)
      have hF1 : Filled xs (k + 1) (vs.set k (.int .u32 (t : Int))) := hF.succ hkx hsk.out
      have hxl1 : Hid ((vs.set k (.int .u32 (t : Int))).length = n) := by show _ = _; simp; exact hxl.out
      clear st2 hown hF hkx hc
      go_wp2
      go_roundw
      case rel => exact ⟨k + 1, vs.set k (.int .u32 (t : Int)), by omega, by go_num, st1, hxl1, hF1, hb1⟩
      case measure => simp [intOf]; omega
    · have hfin := hF.all h.len hxl.out hlt
      rw [hfin] at hown
      have hraw := raw_own hown h.len
      clear hfin hF hxl hown
      have hle := hb.size
      go_wp2_with (at_make; refine wpList_make_own _ rfl _ _ 35 rfl wr.heap.size 28 i0 (.int .u32 0) 1 Trym.underlying35 hi hz0 hz1 _ _ _ n rfl rfl rfl ?b2 ?b3 (Nat.le_refl _) ?_)
      case b2 => rw [hz2]; omega
      case b3 => unfold maxLen; omega
      intro w2 hown2 hgrow2
      have hb2 : Below wr.heap.size wr w2 := (Below.refl _ _).grown hgrow2 (Nat.le_refl _) (fun k h => by cases h)
      clear hgrow2
      obtain ⟨w1, hw1⟩ : ∃ w1, w1 = wr := ⟨_, rfl⟩
      subst hw1
      go_wp2
      go_loopw [11, 12, 13, 14, 15, 16] (fun vi vm vs vt va i wr => ∃ (k m sn : Nat) (acc : List Nat) (ao : Option Addr) (cap : Nat), k ≤ n ∧ i = .int .i64 k ∧ vi = .int .i64 iss ∧ vm = .int .u32 (m : Int) ∧ vs = .int .u64 (sn : Int) ∧ vt = .int .u32 (m : Int) ∧
          m < 4294967296 ∧ sn < 18446744073709551616 ∧ va = .slice ao acc.length cap ∧ acc.length ≤ k ∧ wr.ownsRow w1.heap.size 28 1 (.slice ao acc.length cap) acc.length (acc.map C) ∧ Inv mx s m sn acc ∧ Below w1.heap.size w1 wr)
        (fun _ _ _ _ _ i _ => n - (intOf i).toNat)
      case atStart => exact ⟨0, mx, s, [], _, _, Nat.zero_le _, rfl, rfl, rfl, rfl, rfl, hm, hs, rfl, Nat.le_refl _, hown2, inv_zero _ _, hb2⟩
      case round =>
        clear hown2 hb2
        obtain ⟨k, m, sn, acc, ao, cap, hk, rfl, rfl, rfl, rfl, rfl, hm', hs', rfl, hal, hown, hinv, hbl⟩ := hrel
        by_cases hlt : k < n
        · obtain ⟨b, off, nc, e0, hbs, hc, hsk⟩ := hraw.at hlt
          simp only [Option.some.injEq, Addr.mk.injEq, and_true] at e0
          obtain ⟨rfl, rfl⟩ := e0
          have hcell : wr.cell? ⟨w'.heap.size, 0 + k, none⟩ = some (.int .u32 (nc : Int)) := (hbl.cell (p := ⟨w'.heap.size, 0 + k, none⟩) hbs).trans hc
          rw [Nat.zero_add] at hcell
          have hnc : nc < 4294967296 := by obtain ⟨h1, h2⟩ := hsk.out; rw [h2]; exact HX.out _ (List.getElem_mem h1)
          have cz := fun w => zz_any m sn nc iss w hm' hs' hnc
          have hMl := nMax_lt hm' hnc
          have hSl := nSeen_lt (mx := m) (nc := nc) hs'
          have hcase : (m < nc ∧ nc = nMax m nc) ∨ (¬ m < nc ∧ m = nMax m nc) := by
            unfold nMax
            by_cases c : m < nc
            · exact .inl ⟨c, (if_pos c).symm⟩
            · exact .inr ⟨c, (if_neg c).symm⟩
          have hup : m < nc → used m sn nc = false := fun c => by
            cases hu : used m sn nc with
            | false => rfl
            | true => have := (used_iff m sn nc).1 hu; omega
          have hinv1 := inv_step hinv nc
          have hinv2 := inv_acc hinv nc
          have hfresh := fun hu => inv_fresh hinv (nc := nc) hu
          generalize nMax m nc = M at *
          generalize nSeen m sn nc = S at *
          generalize used m sn nc = U at *
          have CZ : Hid _ := cz
          clear cz hc
          cases U with
          | true =>
            have hno : ¬ m < nc := fun c => by have := hup c; cases this
            obtain rfl : M = m := by rcases hcase with ⟨c, _⟩ | ⟨_, e⟩; exact absurd c hno; exact e.symm
            clear hcase hup hfresh hinv2
            go_wp2_with fail
            refine (CZ.out _).mono ?_
            rintro e w3 ⟨rfl, hb3⟩
            have hown3 := own_below hown hb3
            have hbl3 := hbl.trans (hb3.mono hbl.size)
            clear hown hbl hb3 hcell
            go_wp2
            go_roundw
            case rel => exact ⟨k + 1, M, S, acc, ao, cap, by omega, by go_num, rfl, rfl, rfl, rfl, hm', hSl, rfl, by omega, hown3, hinv1, hbl3⟩
            case measure => simp [intOf]; omega
          | false =>
            obtain ⟨hf1, hf2⟩ := hfresh rfl
            have HF2 : Hid _ := hf2
            have cu := fun w => used_any mx s nc w hm hs hnc
            rw [hf1] at cu
            have CU : Hid _ := cu
            clear hfresh hf1 hf2 cu hup hinv1
            have hsh : Raw wr ao acc.length acc := by
              obtain ⟨a', c', e', r'⟩ := raw_of_own hown rfl
              simp only [Value.slice.injEq, true_and] at e'
              obtain ⟨rfl, rfl⟩ := e'
              exact r'
            rcases hcase with ⟨hup, rfl⟩ | ⟨hup, rfl⟩
            all_goals
              go_wp2_with fail
              refine (CZ.out _).mono ?_
              rintro e w3 ⟨rfl, hb3⟩
              have hown3 := own_below hown hb3
              have hsh3 := hsh.below hb3
              have hbl3 := hbl.trans (hb3.mono hbl.size)
              clear hown hbl hb3 hcell hsh
              go_wp2_with fail
              refine (CU.out _).mono ?_
              rintro e w4 ⟨rfl, hw⟩
              subst hw
              go_wp2_with fail
              go_loop [22] (fun j => ∃ t : Nat, t ≤ acc.length ∧ j = .int .i64 t) (fun j => acc.length - (intOf j).toNat)
              case atStart => exact ⟨0, Nat.zero_le _, rfl⟩
              case round =>
                obtain ⟨t, ht, rfl⟩ := hrel
                by_cases hlt2 : t < acc.length
                · obtain ⟨b, off, y, rfl, hbs2, hc2, hyk⟩ := hsh3.at hlt2
                  have hne : ((y : Int) == (nc : Int)) = false := by
                    obtain ⟨h1, h2⟩ := hyk.out
                    have := HF2.out _ (List.getElem_mem h1)
                    rw [← h2] at this
                    simp; omega
                  go_wp2
                  go_round
                  case rel => exact ⟨t + 1, by omega, by go_num⟩
                  case measure => simp [intOf]; omega
                · go_wp2_with (at_builtin; refine wpList_append_own _ rfl _ _ 35 rfl w1.heap.size 28 i0 (.int .u32 0) 1 4 Trym.underlying35 hi hz0 hz1 hz2 rfl (by decide) _ _ _ rfl (hown3.alloc _) ⟨w4.heap.size, 0, none⟩ 1 1 [.int .u32 (nc : Int)] rfl rfl (by exact new_one _ _ _) (by exact one_u32 _) (by exact len_ok (by omega)) (by omega) (by have := hbl3.size; simp; omega) ?_)
                  intro v' w5 hown' hgrow _
                  have hown5 : w5.ownsRow w1.heap.size 28 1 v' (acc ++ [nc]).length ((acc ++ [nc]).map C) := by simpa [C] using hown'
                  obtain ⟨a', c', hv', _⟩ := raw_of_own hown5 rfl
                  have hbl5 : Below w1.heap.size w1 w5 := (hbl3.alloc hbl3.size _).grown hgrow (by simp; have := hbl3.size; omega) (fun k hk => (hown3.lt k hk).1)
                  rw [hv'] at hown5
                  have HV : Hid _ := hv'
                  clear hown' hgrow hown3 hbl3 hsh3 hv'
                  go_wp2
                  go_roundw
                  case rel => exact ⟨k + 1, _, S, acc ++ [nc], a', c', by omega, by go_num, rfl, rfl, rfl, rfl, hMl, hSl, HV.out, by simp; omega, hown5, hinv2, hbl5⟩
                  case measure => simp [intOf]; omega
        · go_wp2
          go_ret
          exact ⟨by simp, hb.trans (hbl.mono hle)⟩

set_option maxHeartbeats 1000000 in
set_option maxRecDepth 100000 in
theorem walk_nil (iss : Int) (mx s : Nat) (w : World) :
    Calls Trym.prog 6 #[.int .i64 iss, .int .u32 mx, .int .u64 s, .slice none 0 0] w fun e w' => e = .returned (.bool true) ∧ Below w.heap.size w w' := by
  obtain ⟨i0, hi, hz0, hz1, hz2⟩ := info_parts Trym.info28
  go_enter Trym.func6, Trym.ntmps6
  go_wp2_with fail
  refine (bytes_yes _ _ _ _ _ _ _ (by omega)).mono ?_
  rintro e w' ⟨rfl, hw⟩
  subst hw
  go_wp2_with (at_make; refine wpList_make_own _ rfl _ _ 35 rfl w'.heap.size 28 i0 (.int .u32 0) 1 Trym.underlying35 hi hz0 hz1 _ _ _ 0 rfl rfl rfl ?b2 ?b3 (Nat.le_refl _) ?_)
  case b2 => rw [hz2]; omega
  case b3 => unfold maxLen; omega
  intro w2 hown2 hgrow2
  have hb2 : Below w'.heap.size w' w2 := (Below.refl _ _).grown hgrow2 (Nat.le_refl _) (fun k h => by cases h)
  clear hgrow2 hown2
  go_wp2
  refine wp_loop_rounds 1 ?_
  rw [rounds_succ]
  go_wp2
  go_ret
  exact ⟨by simp, hb2⟩

theorem walk_any (iss : Int) (mx s : Nat) (a : Option Addr) (n c : Nat) (xs : List Nat) (w : World) (hm : mx < 4294967296) (hs : s < 18446744073709551616) (h : Raw w a n xs) (hx : ∀ t ∈ xs, t < 4294967296) (hnil : a = none → n = 0 ∧ c = 0) :
    Calls Trym.prog 6 #[.int .i64 iss, .int .u32 mx, .int .u64 s, .slice a n c] w fun e w' => e = .returned (.bool true) ∧ Below w.heap.size w w' := by
  by_cases hn : n ≤ 4096
  · cases a with
    | some x => exact walk_some iss mx s x n c xs w hm hs h hx hn
    | none =>
      obtain ⟨rfl, rfl⟩ := hnil rfl
      exact walk_nil iss mx s w
  · by_cases hb : n ≤ 1048576
    · go_enter Trym.func6, Trym.ntmps6
      go_wp2_with fail
      refine (bytes_yes _ _ _ _ _ _ _ hb).mono ?_
      rintro e w' ⟨rfl, hw⟩
      subst hw
      go_wp2
      go_ret
      exact ⟨rfl, Below.refl _ _⟩
    · go_enter Trym.func6, Trym.ntmps6
      go_wp2_with fail
      refine (bytes_no _ _ _ _ _ _ _ hb).mono ?_
      rintro e w' ⟨rfl, hw⟩
      subst hw
      go_wp2
      go_ret
      exact ⟨rfl, Below.refl _ _⟩
end Rp
end Go.Proofs.Qxb6602838aMods
