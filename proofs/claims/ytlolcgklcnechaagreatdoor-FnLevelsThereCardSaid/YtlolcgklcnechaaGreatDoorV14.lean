/- laws.levels: two ones, written by runs. -/
import Derived.Test.YtlolcgklcnechaaGreatDoorV10
import Derived.Test.YtlolcgklcnechaaGreatDoorL1
set_option linter.unusedVariables false
set_option linter.unusedSimpArgs false
namespace Go.Proofs.YtlolcgklcnechaaGreatDoor
open Go.RowKit

set_option maxRecDepth 100000 in
theorem takeVlq_two (d cap : Nat) (cs : List Value) (w : World) (hd : Blk w d cs) (h0 : cs[0]? = some (.int .u8 4)) :
    Calls Tryz.prog 81 #[.slice (some ⟨d, 0, none⟩) 2 cap, .int .i64 0] w fun e w' => e = .returned (.tuple #[.int .u64 4, .int .i64 1, .bool true]) ∧ w' = w := by
  have c0 := hd.cell h0
  clear hd h0
  go_enter Tryz.func81, Tryz.ntmps81
  go_wp2_with fail
  go_loopw [7, 1, 4] (fun i a u wr => i = .int .i64 0 ∧ a = .int .i64 0 ∧ u = .int .u64 0 ∧ w = wr) (fun _ _ _ _ => 0)
  case atStart => exact ⟨rfl, rfl, rfl, rfl⟩
  case round =>
    obtain ⟨rfl, rfl, rfl, rfl⟩ := hrel
    go_wp2
    go_ret3
    exact ⟨rfl, rfl⟩

set_option maxRecDepth 100000 in
set_option maxHeartbeats 2000000 in
theorem takeRuns_two (d cap : Nat) (cs : List Value) (w : World) (hd : Blk w d cs) (h0 : cs[0]? = some (.int .u8 4)) (h1 : cs[1]? = some (.int .u8 1)) :
    Calls Tryz.prog 32 #[.slice (some ⟨d, 0, none⟩) 2 cap, .int .i64 1, .int .i64 2] w fun e w' => ∃ v, e = .returned (.tuple #[v, .bool true]) ∧ Keep [] w w' ∧ RowAt w' v .u64 [1, 1] := by
  have c1 := hd.cell h1
  have hT := takeVlq_two d cap cs w hd h0
  obtain ⟨i0, hi, hz0, hz1, hz2⟩ := info_parts info_u64
  have HD := Lib.hid hd
  clear hd h0 h1
  go_enter Tryz.func32, Tryz.ntmps32
  go_wp2_with fail
  go_loopw [8, 9] (fun ov a wr => (ov = .slice none 0 0 ∧ a = .int .i64 0 ∧ w = wr) ∨ (∃ a' c, ov = .slice a' 2 c ∧ a = .int .i64 2 ∧ Keep [] w wr ∧ GrowS w.heap.size [] wr ov .u64 [1, 1])) (fun _ a _ => 2 - (intOf a).toNat)
  case atStart => exact .inl ⟨rfl, rfl, rfl⟩
  case round =>
    rcases hrel with ⟨rfl, rfl, rfl⟩ | ⟨a', c, rfl, rfl, kk, hG⟩
    · go_wp2_with fail
      refine hT.mono ?_
      rintro e w2 ⟨rfl, hw2⟩
      have hw3 := hw2.symm
      subst hw3
      clear hw2
      go_wp2_with fail
      go_loopw [19, 18] (fun i u wr => (i = .int .i64 0 ∧ u = .int .u64 0 ∧ w = wr) ∨ (i = .int .i64 1 ∧ u = .int .u64 1 ∧ w = wr)) (fun i _ _ => 2 - (intOf i).toNat)
      case atStart => exact .inl ⟨rfl, rfl, rfl⟩
      case round =>
        rcases hrel with ⟨rfl, rfl, rfl⟩ | ⟨rfl, rfl, rfl⟩
        · go_wp2
          go_roundw
          case rel => exact .inr ⟨rfl, by rfl, trivial⟩
          case measure => simp [intOf]
        · go_wp2_with fail
          go_loopw [20, 8] (fun i ov wr => ∃ k : Nat, k ≤ 2 ∧ i = .int .i64 (k : Int) ∧ Keep [] w wr ∧ GrowS w.heap.size [] wr ov .u64 (List.replicate k 1)) (fun i _ _ => 2 - (intOf i).toNat)
          case atStart => exact ⟨0, by omega, rfl, Keep.refl _ _, .inl ⟨rfl, rfl⟩⟩
          case round =>
            obtain ⟨k, hk, rfl, kk, hG⟩ := hrel
            have hG' := hG
            obtain ⟨ao, cp, rfl, -, -⟩ := hG.row.open
            have hrl : (List.replicate k 1).length = k := by simp
            by_cases hk3 : k < 2
            · have hk3i : (k : Int) < 2 := by omega
              have HG := Lib.hid hG'
              clear hG hG'
              go_wp2_with (at_builtin; refine halt ?_)
              refine Lib.hid ?_
              refine wpList_append_grow rfl _ _ 22 _ rfl i0 8 Tryz.underlying22 hi hz0 hz1 hz2 rfl (HG.out.keep (S := []) ((Keep.refl [] wr).alloc _) (by simp)) (by simp; exact Nat.le_succ_of_le kk.size) (by simp) _ [1] rfl (Src.blk Tryz.underlying22 (Blk.new wr (rowV .u64 [1]) _) rfl rfl) (by simp; omega) (by simp; omega) ?_
              intro v2 w5 S hG5 k5 hS5
              have K5 : Keep [] w w5 := (kk.alloc _).trans k5 (fun b hb => .inr (hS5 b hb).1)
              have HG5 := Lib.hid hG5
              clear hG5 k5 hS5
              go_wp2
              go_roundw
              case rel =>
                refine ⟨_, _, _, _, _, _, _, _, _, _, _, _, _, _, _, _, _, ⟨k + 1, hk3, ?_, K5, ?_⟩, rfl⟩
                · go_num
                · rw [List.replicate_succ']; exact HG5.out
              case measure => simp [intOf]; omega
            · have hke : k = 2 := by omega
              subst hke
              have HG := Lib.hid hG'
              clear hG hG'
              go_wp2
              go_roundw
              case rel => exact .inr ⟨_, _, rfl, rfl, kk, HG.out⟩
              case measure => simp [intOf]
    · have HG := Lib.hid hG
      clear hG
      go_wp2
      go_ret2
      exact ⟨_, rfl, kk, HG.out.row⟩

theorem bitLen_one : bitLen 1 = 1 := by decide

theorem fin11 : (St.run 1 [1, 1]).finish 1 = [4, 1] := by
  have e : St.run 1 [1, 1] = ⟨1, 2, 0, [1, 1], [], none⟩ := by rfl
  rw [e]
  simp [St.finish, vlq_small, leBytes]

set_option maxRecDepth 100000 in
set_option maxHeartbeats 1000000 in
theorem levelsC (w : World) : Calls Tryz.prog 28 #[] w fun e w' => e = .returned (.bool true) ∧ Keep [] w w' := by
  have hb6 : ∀ w, (Instr.buildSlice 65 2 #[(0, .int .i16 1), (1, .int .i16 1)]).run Tryz.prog w = .ok (.slice (some ⟨w.heap.size, 0, none⟩) 2 2) (w.alloc (.cells (rowV .i16 [1, 1]).toArray 68)) := fun w => by kernel_rfl
  have hb7 : ∀ (b : Nat) w, (Instr.buildSlice 60 1 #[(0, .slice (some ⟨b, 0, none⟩) 2 2)]).run Tryz.prog w = .ok (.slice (some ⟨w.heap.size, 0, none⟩) 1 1) (w.alloc (.cells #[.slice (some ⟨b, 0, none⟩) 2 2] 65)) := fun b w => by kernel_rfl
  have hbs : ∀ w, (Instr.buildSlice 22 2 #[(0, .int .u64 1), (1, .int .u64 1)]).run Tryz.prog w = .ok (.slice (some ⟨w.heap.size, 0, none⟩) 2 2) (w.alloc (.cells (rowV .u64 [1, 1]).toArray 43)) := fun w => by kernel_rfl
  have hrow : ∀ w : World, RowAt (w.alloc (.cells (rowV .u64 [1, 1]).toArray 43)) (.slice (some ⟨w.heap.size, 0, none⟩) 2 2) .u64 [1, 1] := fun w => by
    refine .inr ⟨_, 2, rfl, Nat.le_refl _, fun i x hx => ?_⟩
    rw [add_at, Nat.zero_add]
    exact (Blk.new w (rowV .u64 [1, 1]) 43).cell (rowV_get hx)
  have hparts : PartsAt ((w.alloc (.cells (rowV .i16 [1, 1]).toArray 68)).alloc (.cells #[.slice (some ⟨w.heap.size, 0, none⟩) 2 2] 65)) (.slice (some ⟨w.heap.size + 1, 0, none⟩) 1 1) .i16 [[1, 1]] := by
    refine ⟨some ⟨w.heap.size + 1, 0, none⟩, 1, rfl, Nat.le_refl _, fun i l hi => ?_⟩
    match i with
    | 0 =>
      simp at hi
      subst hi
      refine ⟨_, _, rfl, by rw [add_at]; exact Blk.cell (Blk.of_new (cs := [.slice (some ⟨w.heap.size, 0, none⟩) 2 2]) (by simp)) rfl, some ⟨w.heap.size, 0, none⟩, 2, rfl, Nat.le_refl _, fun j x hx => ⟨_, rfl, ?_⟩, by simp⟩
      rw [add_at, Nat.zero_add]
      refine ((Blk.new w (rowV .i16 [1, 1]) 68).alloc _).cell ?_
      match j with
      | 0 => simp at hx; subst hx; rfl
      | 1 => simp at hx; subst hx; rfl
      | j + 2 => simp at hx
    | i + 1 => simp at hi
  have hW := levelsWrittenRle 1 _ [[1, 1]] _ hparts (by omega) (by omega) (by simp) (by simp) (by simp)
  rw [bitLen_one, show (([[1, 1]] : List (List Int)).flatten.map Int.toNat) = [1, 1] from rfl, fin11] at hW
  have KB : Keep [] w ((w.alloc (.cells (rowV .i16 [1, 1]).toArray 68)).alloc (.cells #[.slice (some ⟨w.heap.size, 0, none⟩) 2 2] 65)) := ((Keep.refl [] w).alloc _).alloc _
  clear hparts
  go_enter Tryz.func28, Tryz.ntmps28
  go_wp2_with fail
  refine hW.mono ?_
  rintro e w4 ⟨d, cp, data, fin, rfl, k4, hd0, hfin, hd, hdl, hdt, hcp⟩
  have hf2 : fin = 2 := hfin
  subst hf2
  have K4 : Keep [] w w4 := KB.trans k4 (by simp)
  have hg : ∀ (i x : Nat), ([4, 1] : List Nat)[i]? = some x → (rowV .u8 data)[i]? = some (Value.int .u8 (x : Int)) := fun i x hx => by
    refine rowV_get ?_
    rw [← hdt] at hx
    rw [List.getElem?_take] at hx
    split at hx
    · exact hx
    · cases hx
  have h0 := hg 0 4 rfl
  have h1 := hg 1 1 rfl
  have hT := takeRuns_two d cp _ w4 hd h0 h1
  clear hg h0 h1 hd hdt hdl hfin hd0 k4 hcp hW KB hb6 hb7
  go_wp2_with fail
  refine hT.mono ?_
  rintro e w5 ⟨v, rfl, k5, hv⟩
  have hv2 := (hv.keep ((Keep.refl [] w5).alloc (.cells (rowV .u64 [1, 1]).toArray 43)))
  have hS := sameNumbersC _ _ [1, 1] _ hv2 (hrow w5) (by simp)
  obtain ⟨ao, cp2, rfl, -, -⟩ := hv.open
  have K5 := K4.trans k5 (by simp)
  clear hT hv hv2 hrow
  go_wp2_with fail
  refine hS.mono ?_
  rintro e w6 ⟨rfl, k6⟩
  go_wp2
  go_ret
  exact ⟨rfl, (K5.alloc _).trans k6 (by simp)⟩
end Go.Proofs.YtlolcgklcnechaaGreatDoor
