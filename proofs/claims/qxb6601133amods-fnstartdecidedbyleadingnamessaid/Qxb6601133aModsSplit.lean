/- The contract of wbSplit (11). -/
import Derived.Test.Qxb6601133aModsNames
import Derived.OwnWalk
import Derived.Below
namespace Go.Proofs.Qxb6601133aMods
open Go.RowKit
set_option linter.unusedVariables false

theorem Trym.info9 : (Trym.prog.info? 9).map (fun i => (i.zero, i.size, i.bytes)) = some (some (.string ByteArray.empty), 1, 16) := by kernel_rfl

namespace Sp
open Wb Nm

def pre (p : List UInt8) : List (List UInt8) → List (List UInt8)
  | [] => [p]
  | h :: t => (p ++ h) :: t

theorem pre_nil (a : List UInt8) : pre [] (Pl.split a) = Pl.split a := by
  obtain ⟨h, t, e⟩ := Pl.split_ne a
  rw [e]; rfl

theorem ext_data (s : ByteArray) (a b : Nat) : (s.extract a b).data.toList = (s.data.toList.take b).drop a := by
  simp [List.drop_take]

theorem sp_slash {s : ByteArray} {f k : Nat} {outs : List ByteArray} (hk : k < s.size) (h : (((s[k].toNat : Nat) : Int) == 47) = true)
    (e : L outs ++ pre ((s.data.toList.take k).drop f) (Pl.split (s.data.toList.drop k)) = Pl.split s.data.toList) :
    L (outs ++ [s.extract f k]) ++ pre ((s.data.toList.take (k + 1)).drop (k + 1)) (Pl.split (s.data.toList.drop (k + 1))) = Pl.split s.data.toList := by
  rw [← e, drop_cons s k hk]
  have h' : s[k].toNat = 47 := by simp at h; omega
  have e1 : (s.data.toList.take (k + 1)).drop (k + 1) = [] := by simp
  rw [e1, pre_nil]
  simp only [Pl.split, h', if_true, pre, L, List.map_append, List.map_cons, List.map_nil, ext_data]
  simp

theorem sp_other {s : ByteArray} {f k : Nat} {outs : List ByteArray} (hf : f ≤ k) (hk : k < s.size) (h : (((s[k].toNat : Nat) : Int) == 47) = false)
    (e : L outs ++ pre ((s.data.toList.take k).drop f) (Pl.split (s.data.toList.drop k)) = Pl.split s.data.toList) :
    L outs ++ pre ((s.data.toList.take (k + 1)).drop f) (Pl.split (s.data.toList.drop (k + 1))) = Pl.split s.data.toList := by
  rw [← e, drop_cons s k hk]
  have h' : ¬ s[k].toNat = 47 := by simp at h; omega
  obtain ⟨hd, t, e2⟩ := Pl.split_ne (s.data.toList.drop (k + 1))
  have e3 : s.data.toList.take (k + 1) = s.data.toList.take k ++ [s[k]] := by
    rw [List.take_succ_eq_append_getElem (by simpa using hk)]; rfl
  have e4 : (s.data.toList.take (k + 1)).drop f = (s.data.toList.take k).drop f ++ [s[k]] := by
    rw [e3, List.drop_append_of_le_length (by simp; omega)]
  simp only [Pl.split, h', if_false, e2, pre]
  rw [e4]; simp

theorem sp_end {s : ByteArray} {f k : Nat} {outs : List ByteArray} (hk : ¬ k < s.size)
    (e : L outs ++ pre ((s.data.toList.take k).drop f) (Pl.split (s.data.toList.drop k)) = Pl.split s.data.toList) :
    L (outs ++ [s.extract f s.size]) = Pl.split s.data.toList := by
  rw [← e, drop_nil s k (by omega)]
  have e1 : s.data.toList.take k = s.data.toList := List.take_of_length_le (by simp; omega)
  have e2 : s.data.toList.take s.size = s.data.toList := List.take_of_length_le (by simp)
  simp only [Pl.split, pre, L, List.map_append, List.map_cons, List.map_nil, ext_data, e1, e2, List.append_nil]

set_option maxHeartbeats 1000000 in
theorem split_any (s : ByteArray) (w : World) (hs : s.size ≤ 1048576) :
    Calls Trym.prog 11 #[.string s] w fun e w' => ∃ (v : Value) (outs : List ByteArray), e = .returned v ∧ w'.ownsRow w.heap.size 9 1 v outs.length (outs.map Value.string) ∧ L outs = Pl.split s.data.toList ∧
      (∀ t ∈ outs, t.size ≤ s.size) ∧ outs.length ≤ s.size + 1 ∧ Below w.heap.size w w' := by
  obtain ⟨i0, hi, hz0, hz1, hz2⟩ := info_parts Trym.info9
  go_enter Trym.func11, Trym.ntmps11
  go_wp2
  go_loop [3, 4] (fun n i => ∃ k c : Nat, k ≤ s.size ∧ i = .int .i64 k ∧ n = .int .i64 c ∧ 1 ≤ c ∧ c ≤ k + 1) (fun _ i => s.size - (intOf i).toNat)
  case atStart => exact ⟨0, 1, Nat.zero_le _, rfl, rfl, by omega, by omega⟩
  case round =>
    obtain ⟨k, c, hk, rfl, rfl, hc1, hc2⟩ := hrel
    by_cases hlt : k < s.size
    · go_wp2
      · go_round
        case rel => exact ⟨k + 1, c + 1, by omega, by go_num, by go_num, by omega, by omega⟩
        case measure => simp [intOf]; omega
      · go_round
        case rel => exact ⟨k + 1, c, by omega, by go_num, rfl, by omega, by omega⟩
        case measure => simp [intOf]; omega
    · go_wp2_with (at_make; refine wpList_make_own _ rfl _ _ 24 rfl w.heap.size 9 i0 (.string ByteArray.empty) 1 Trym.underlying24 hi hz0 hz1 _ _ _ c rfl rfl rfl ?b2 ?b3 (Nat.le_refl _) ?_)
      case b2 => omega
      case b3 => unfold maxLen; omega
      intro w0 hown0 hgrow0
      go_wp2
      have hb0 : Below w.heap.size w w0 := (Below.refl _ _).grown hgrow0 (Nat.le_refl _) (fun k h => by cases h)
      clear hgrow0
      go_loopw [5, 6, 7] (fun out fr i wr => ∃ (j f : Nat) (outs : List ByteArray), j ≤ s.size ∧ f ≤ j ∧ outs.length ≤ j ∧ i = .int .i64 j ∧ fr = .int .i64 f ∧ wr.ownsRow w.heap.size 9 1 out outs.length (outs.map Value.string) ∧
          Hid (L outs ++ pre ((s.data.toList.take j).drop f) (Pl.split (s.data.toList.drop j)) = Pl.split s.data.toList) ∧ Hid (∀ t ∈ outs, t.size ≤ s.size) ∧ Below w.heap.size w wr)
        (fun _ _ i _ => s.size - (intOf i).toNat)
      case atStart => exact ⟨0, 0, [], Nat.zero_le _, Nat.le_refl _, Nat.le_refl _, rfl, rfl, hown0, by show _ = _; simp [L, pre_nil], (fun t h => by cases h), hb0⟩
      case round =>
        clear hown0 hb0
        obtain ⟨j, f, outs, hj, hf, hol, rfl, rfl, hown, hinv, hsz, hb⟩ := hrel
        by_cases hlt2 : j < s.size
        · go_wp2_with (first
            | (at_builtin; refine wpList_append_own _ rfl _ _ 24 rfl w.heap.size 9 i0 (.string ByteArray.empty) 1 16 Trym.underlying24 hi hz0 hz1 hz2 rfl (by decide) _ _ _ rfl (hown.alloc _) ⟨wr.heap.size, 0, none⟩ 1 1 [.string (s.extract f j)] rfl rfl ?c1 ?c2 ?c3 ?c4 ?c5 ?_))
          case c1 =>
            intro j u hj
            match j, hj with
            | 0, hj => simp at hj; subst hj; simp [Addr.add]
          case c2 => intro u hu; simp at hu; subst hu; rfl
          case c3 => unfold maxLen; omega
          case c4 => omega
          case c5 => have := hb.size; simp; omega
          · intro v' w1 hown' hgrow _
            have hsl : (((s[j].toNat : Nat) : Int) == 47) = true := by assumption
            have hown2 : w1.ownsRow w.heap.size 9 1 v' (outs ++ [s.extract f j]).length ((outs ++ [s.extract f j]).map Value.string) := by simpa using hown'
            have hb1 : Below w.heap.size w w1 := (hb.alloc hb.size _).grown hgrow (by simp; have := hb.size; omega) (fun k hk => (hown.lt k hk).1)
            have hsz1 : Hid (∀ t ∈ outs ++ [s.extract f j], t.size ≤ s.size) := by
              intro t ht
              rcases List.mem_append.1 ht with h | h
              · exact hsz.out t h
              · simp at h; subst h; simp; omega
            have hinv1 : Hid _ := sp_slash hlt2 hsl hinv.out
            clear hown' hgrow hown hb hsz hinv
            go_wp2
            go_roundw
            case rel => exact ⟨j + 1, j + 1, outs ++ [s.extract f j], by omega, by omega, by simp; omega, by go_num, by go_num, hown2, hinv1, hsz1, hb1⟩
            case measure => simp [intOf]; omega
          · have hsl : (((s[j].toNat : Nat) : Int) == 47) = false := by assumption
            go_roundw
            case rel => exact ⟨j + 1, f, outs, by omega, by omega, by omega, by go_num, rfl, hown, sp_other hf hlt2 hsl hinv.out, hsz, hb⟩
            case measure => simp [intOf]; omega
        · go_wp2_with (first
            | (at_builtin; refine wpList_append_own _ rfl _ _ 24 rfl w.heap.size 9 i0 (.string ByteArray.empty) 1 16 Trym.underlying24 hi hz0 hz1 hz2 rfl (by decide) _ _ _ rfl (hown.alloc _) ⟨wr.heap.size, 0, none⟩ 1 1 [.string (s.extract f s.size)] rfl rfl ?c1 ?c2 ?c3 ?c4 ?c5 ?_))
          case c1 =>
            intro j u hj
            match j, hj with
            | 0, hj => simp at hj; subst hj; simp [Addr.add]
          case c2 => intro u hu; simp at hu; subst hu; rfl
          case c3 => unfold maxLen; omega
          case c4 => omega
          case c5 => have := hb.size; simp; omega
          intro v' w1 hown' hgrow _
          have hown2 : w1.ownsRow w.heap.size 9 1 v' (outs ++ [s.extract f s.size]).length ((outs ++ [s.extract f s.size]).map Value.string) := by simpa using hown'
          have hb1 : Below w.heap.size w w1 := (hb.alloc hb.size _).grown hgrow (by simp; have := hb.size; omega) (fun k hk => (hown.lt k hk).1)
          have hsz1 : Hid (∀ t ∈ outs ++ [s.extract f s.size], t.size ≤ s.size) := by
            intro t ht
            rcases List.mem_append.1 ht with h | h
            · exact hsz.out t h
            · simp at h; subst h; simp
          have hinv1 : Hid _ := sp_end hlt2 hinv.out
          clear hown' hgrow hown hb hsz hinv
          go_wp2
          go_ret
          exact ⟨v', outs ++ [s.extract f s.size], rfl, hown2, hinv1, hsz1, by simp; omega, hb1⟩
end Sp
end Go.Proofs.Qxb6601133aMods
