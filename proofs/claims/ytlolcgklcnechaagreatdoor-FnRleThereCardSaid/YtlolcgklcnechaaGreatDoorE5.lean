/- The RLE encoder: how it is made. -/
import Derived.Test.YtlolcgklcnechaaGreatDoorE4
import Derived.Deep.RegionWith
set_option linter.unusedVariables false
namespace Go.Proofs.YtlolcgklcnechaaGreatDoor
open Go.RowKit

theorem newWriterAt (d L C : Nat) (w : World) :
    Calls Tryz.prog 37 #[.slice (some ⟨d, 0, none⟩) L C] w fun e w' =>
      e = .returned (.iface 176 (.pointer (some ⟨w.heap.size, 0, none⟩))) ∧ w' = w.alloc (.cells #[.slice (some ⟨d, 0, none⟩) L C] 178) := by
  go_enter Tryz.func37, Tryz.ntmps37
  go_wp2
  go_ret
  exact ⟨rfl, rfl⟩

def bwRest : List Value := List.replicate 10 (.int .u8 0) ++ List.replicate 8 (.int .u8 0)

theorem newBitWriter (p : Nat) (w : World) :
    Calls Tryz.prog 84 #[.iface 176 (.pointer (some ⟨p, 0, none⟩))] w fun e w' =>
      e = .returned (.pointer (some ⟨w.heap.size, 0, none⟩)) ∧ w' = w.alloc (.cells (bwCells p 0 0 0 bwRest).toArray 235) := by
  go_enter Tryz.func84, Tryz.ntmps84
  go_wp2
  go_ret
  exact ⟨rfl, rfl⟩

theorem encFresh {w : World} {r b p d g L W : Nat} (hp : Blk w p [.slice (some ⟨d, 0, none⟩) L L]) (hd : Blk w d (rowV .u8 (List.replicate L 0))) (hL : L ≤ 1099511627776)
    (hb : Blk w b (bwCells p 0 0 0 bwRest)) (hg : Blk w g (rowV .u64 (List.replicate 8 0))) (hr : Blk w r (reCells b g 0 W 0 0 0 (-1) 0))
    (rb : r ≠ b) (rp : r ≠ p) (rd : r ≠ d) (rg : r ≠ g) (gb : g ≠ b) (gp : g ≠ p) (gd : g ≠ d) (bp : b ≠ p) (bd : b ≠ d) (pd : p ≠ d) : EncS w r b p d g L W ⟨0, 0, 0, [], [], none⟩ := by
  refine ⟨[], 0, 0, rfl, rfl, ⟨0, hr⟩, ⟨List.replicate 8 0, by simp, by simp, hg⟩, ⟨List.replicate L 0, 0, 0, 0, 0, ?_, by simp, rfl, rfl, rfl, by simp, rfl⟩, rb, rp, rd, rg, gb, gp, gd, by simp⟩
  exact ⟨⟨bwRest, rfl, by intro v hv; simp [bwRest] at hv; rw [hv]; rfl, hb⟩, by simpa using hp, hd, bp, bd, pd, by simpa using hL, by simp, by omega⟩

set_option maxRecDepth 100000 in
set_option maxHeartbeats 1000000 in
theorem newRleEncoder (p d L W : Nat) (w : World) (hp : Blk w p [.slice (some ⟨d, 0, none⟩) L L]) (hd : Blk w d (rowV .u8 (List.replicate L 0))) (hL : L ≤ 1099511627776) (pd : p ≠ d) :
    Calls Tryz.prog 36 #[.iface 176 (.pointer (some ⟨p, 0, none⟩)), .int .i64 (W : Int)] w fun e w' =>
      ∃ r b g, e = .returned (.pointer (some ⟨r, 0, none⟩)) ∧ Keep [] w w' ∧ w.heap.size ≤ r ∧ w.heap.size ≤ b ∧ w.heap.size ≤ g ∧ EncS w' r b p d g L W ⟨0, 0, 0, [], [], none⟩ := by
  have hmk : ∀ w, (Instr.makeSlice 22 (.int .i64 0) (.int .i64 8)).run Tryz.prog w = .ok (.slice (some ⟨w.heap.size, 0, none⟩) 0 8) (w.alloc (.cells (rowV .u64 (List.replicate 8 0)).toArray 43)) := fun _ => by kernel_rfl
  go_enter Tryz.func36, Tryz.ntmps36
  go_wp2_with fail
  go_region_with (go_at_call 84; refine (newBitWriter p _).mono ?_; rintro e w' ⟨rfl, rfl⟩)
  all_goals
    go_wp2
    go_ret
  · refine ⟨w.heap.size + 1 + 1, w.heap.size, w.heap.size + 1, rfl, ((((Keep.refl [] w).alloc _).alloc _).alloc _).drewN _, by omega, by omega, by omega, ?_⟩
    have pl := hp.lt
    have dl := hd.lt
    have hB := ((Blk.new w (bwCells p 0 0 0 bwRest) 235).alloc (.cells (rowV .u64 (List.replicate 8 0)).toArray 43)).alloc (.cells (reCells w.heap.size (w.heap.size + 1) 0 W 0 0 0 (-1) 0).toArray 175)
    have hG := (Blk.of_new (w := w.alloc (.cells (bwCells p 0 0 0 bwRest).toArray 235)) (b := w.heap.size + 1) (cs := rowV .u64 (List.replicate 8 0)) (T := 43) (by simp)).alloc (.cells (reCells w.heap.size (w.heap.size + 1) 0 W 0 0 0 (-1) 0).toArray 175)
    have hR := Blk.of_new (w := (w.alloc (.cells (bwCells p 0 0 0 bwRest).toArray 235)).alloc (.cells (rowV .u64 (List.replicate 8 0)).toArray 43)) (b := w.heap.size + 1 + 1) (cs := reCells w.heap.size (w.heap.size + 1) 0 W 0 0 0 (-1) 0) (T := 175) (by simp)
    exact encFresh (((hp.alloc _).alloc _).alloc _) (((hd.alloc _).alloc _).alloc _) hL hB hG hR (by omega) (by omega) (by omega) (by omega) (by omega) (by omega) (by omega) (by omega) (by omega) pd
  · refine ⟨w.heap.size + 1 + 1, w.heap.size + 1, w.heap.size, rfl, ((((Keep.refl [] w).alloc _).alloc _).alloc _).drewN _, by omega, by omega, by omega, ?_⟩
    have pl := hp.lt
    have dl := hd.lt
    have hG := ((Blk.new w (rowV .u64 (List.replicate 8 0)) 43).alloc (.cells (bwCells p 0 0 0 bwRest).toArray 235)).alloc (.cells (reCells (w.heap.size + 1) w.heap.size 0 W 0 0 0 (-1) 0).toArray 175)
    have hB := (Blk.of_new (w := w.alloc (.cells (rowV .u64 (List.replicate 8 0)).toArray 43)) (b := w.heap.size + 1) (cs := bwCells p 0 0 0 bwRest) (T := 235) (by simp)).alloc (.cells (reCells (w.heap.size + 1) w.heap.size 0 W 0 0 0 (-1) 0).toArray 175)
    have hR := Blk.of_new (w := (w.alloc (.cells (rowV .u64 (List.replicate 8 0)).toArray 43)).alloc (.cells (bwCells p 0 0 0 bwRest).toArray 235)) (b := w.heap.size + 1 + 1) (cs := reCells (w.heap.size + 1) w.heap.size 0 W 0 0 0 (-1) 0) (T := 175) (by simp)
    exact encFresh (((hp.alloc _).alloc _).alloc _) (((hd.alloc _).alloc _).alloc _) hL hB hG hR (by omega) (by omega) (by omega) (by omega) (by omega) (by omega) (by omega) (by omega) (by omega) pd

/-- MaxRLEBufferSize + MinRLEBufferSize. -/
def maxRle (W n : Nat) : Nat := max ((n + 7) / 8 + (n + 7) / 8 * W) ((n + 7) / 8 * (1 + (W + 7) / 8))
def minRle (W : Nat) : Nat := max (1 + (512 * W + 7) / 8) (5 + (W + 7) / 8)

set_option maxRecDepth 100000 in
theorem maxRleC (W n : Nat) (w : World) (hW : W ≤ 64) (hn : n ≤ 2147483648) :
    Calls Tryz.prog 34 #[.int .i64 (W : Int), .int .i64 (n : Int)] w fun e w' =>
      e = .returned (.int .i64 (maxRle W n : Int)) ∧ w' = w := by
  have h1 : (n + 7) / 8 * W ≤ 300000000 * 64 := Nat.mul_le_mul (by omega) hW
  have h2 : (n + 7) / 8 * (1 + (W + 7) / 8) ≤ 300000000 * 100 := Nat.mul_le_mul (by omega) (by omega)
  obtain ⟨a, ha⟩ : ∃ a, a = (n + 7) / 8 := ⟨_, rfl⟩
  obtain ⟨c, hc⟩ : ∃ c, c = (W + 7) / 8 := ⟨_, rfl⟩
  unfold maxRle
  rw [← ha, ← hc] at h2 ⊢
  rw [← ha] at h1
  obtain ⟨x, hx⟩ : ∃ x, x = a * W := ⟨_, rfl⟩
  obtain ⟨y, hy⟩ : ∃ y, y = a * (1 + c) := ⟨_, rfl⟩
  have hxi : (a : Int) * (W : Int) = (x : Int) := by rw [hx]; simp
  have hyi : (a : Int) * (1 + (c : Int)) = (y : Int) := by rw [hy]; simp
  rw [← hx] at h1 ⊢
  rw [← hy] at h2 ⊢
  have Ha := Lib.hid ha
  have Hc := Lib.hid hc
  have ha2 : a ≤ 300000000 := by omega
  have hc2 : c ≤ 100 := by omega
  clear ha hc hx hy
  go_enter Tryz.func34, Tryz.ntmps34
  go_wp2_with (first
    | (go_at_call_of 83 (n : Int); refine (bytesForBitsN n a _ Ha.out (by omega)).mono ?_; rintro e w' ⟨rfl, rfl⟩)
    | (go_at_call_of 83 (W : Int); refine (bytesForBitsN W c _ Hc.out (by omega)).mono ?_; rintro e w' ⟨rfl, rfl⟩))
  all_goals
    go_ret
    refine ⟨?_, rfl⟩
    refine congrArg (fun z => Ending.returned (.int .i64 z)) ?_
    rw [Nat.max_def]
    split <;> omega

set_option maxRecDepth 100000 in
theorem minRleC (W : Nat) (w : World) (hW : W ≤ 64) :
    Calls Tryz.prog 35 #[.int .i64 (W : Int)] w fun e w' =>
      e = .returned (.int .i64 (minRle W : Int)) ∧ w' = w := by
  obtain ⟨a, ha⟩ : ∃ a, a = (512 * W + 7) / 8 := ⟨_, rfl⟩
  obtain ⟨c, hc⟩ : ∃ c, c = (W + 7) / 8 := ⟨_, rfl⟩
  unfold minRle
  rw [← ha, ← hc]
  have Ha := Lib.hid ha
  have Hc := Lib.hid hc
  have ha2 : a ≤ 300000000 := by omega
  have hc2 : c ≤ 100 := by omega
  obtain ⟨x, hx⟩ : ∃ x, x = 512 * W := ⟨_, rfl⟩
  have hxi : 512 * (W : Int) = (x : Int) := by rw [hx]; simp
  have hxl : x ≤ 32768 := by omega
  have Hx := Lib.hid hx
  clear ha hc hx
  go_enter Tryz.func35, Tryz.ntmps35
  go_wp2_with (first
    | (go_at_call_of 83 (x : Int); refine (bytesForBitsN x a _ (by rw [Hx.out]; exact Ha.out) (by omega)).mono ?_; rintro e w' ⟨rfl, rfl⟩)
    | (go_at_call_of 83 (W : Int); refine (bytesForBitsN W c _ Hc.out (by omega)).mono ?_; rintro e w' ⟨rfl, rfl⟩))
  all_goals
    go_ret
    refine ⟨?_, rfl⟩
    refine congrArg (fun z => Ending.returned (.int .i64 z)) ?_
    rw [Nat.max_def]
    split <;> omega
end Go.Proofs.YtlolcgklcnechaaGreatDoor
