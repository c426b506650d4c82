/- readLittle. -/
import Derived.Test.YtlolcgklcnechaaGreatDoorXD5
set_option linter.unusedVariables false
namespace Go.Proofs.YtlolcgklcnechaaGreatDoor
open Go.RowKit

set_option maxRecDepth 100000 in
set_option maxHeartbeats 1000000 in
/-- readLittle: four bytes into a number. -/
theorem readLittleC (z zo : Nat) (x : XP) (d o n cap pos : Nat) (pr : Int) (D : List Nat) (zcs : List Value) (w : World)
    (hx : Rd w x [.slice (some ⟨d, o, none⟩) n cap, .int .i64 (pos : Int), .int .i64 pr]) (hD : BytesAt w d o n cap D) (hz : Blk w z zcs) (hzo : zo < zcs.length)
    (zx : z ≠ x.b) (zd : z ≠ d) (xd : x.b ≠ d) (hfit : pos + 4 ≤ n) :
    Calls Tryz.prog 231 #[.iface 91 (.pointer (some ⟨x.b, x.o, none⟩)), .pointer (some ⟨z, zo, none⟩)] w fun e w' =>
      e = .returned (.tuple #[]) ∧ Keep [z, x] w w' ∧ Blk w' z (zcs.set zo (.int .u32 (leVal ((D.drop pos).take 4) : Int))) ∧ Rd w' x [.slice (some ⟨d, o, none⟩) n cap, .int .i64 ((pos + 4 : Nat) : Int), .int .i64 (-1)] := by
  obtain ⟨w1, hw1⟩ : ∃ w1, w1 = w.alloc (.cells (rowV .u8 [0, 0, 0, 0]).toArray 368) := ⟨_, rfl⟩
  have hb1 : Blk w1 w.heap.size (rowV .u8 [0, 0, 0, 0]) := by rw [hw1]; exact Blk.new _ _ _
  have K1 : Keep [] w w1 := by rw [hw1]; exact (Keep.refl _ _).alloc _
  have hx1 := hx.keep K1 (by simp)
  have hD1 := hD.keep K1 (by simp)
  have hz1 := hz.keep K1 (by simp)
  have xl := hx.lt
  have zl := hz.lt
  have dl : d < w.heap.size := by obtain ⟨_, h, _⟩ := hD.hd; exact h.lt
  obtain ⟨R, hR⟩ : ∃ R, R = (D.drop pos).take 4 := ⟨_, rfl⟩
  have hRl : R.length = 4 := by rw [hR]; simp [hD.dl]; omega
  have hRb : ∀ y ∈ R, y < 256 := by rw [hR]; intro y hy; exact hD.bytes y (List.mem_of_mem_drop (List.mem_of_mem_take hy))
  have HR := Lib.hid hR
  clear hR hx hD hz
  obtain ⟨y0, y1, y2, y3, rfl⟩ : ∃ y0 y1 y2 y3, R = [y0, y1, y2, y3] := by
    match R, hRl with
    | [y0, y1, y2, y3], _ => exact ⟨_, _, _, _, rfl⟩
  have HRb := Lib.hid hRb
  have hs1 : w1.heap.size = w.heap.size + 1 := by rw [hw1]; simp
  clear hRl hRb
  go_enter Tryz.func231, Tryz.ntmps231
  go_wp2_with fail
  change Calls _ _ _ (w.alloc (.cells (rowV .u8 [0, 0, 0, 0]).toArray 368)) _
  rw [← hw1]
  clear hw1
  refine (readFullC x d o n cap w.heap.size 0 4 4 pos pr D _ w1 hx1 hD1 hb1 (by omega) (by omega) xd (by simp [rowV]) (by omega) (by omega) (by omega) hfit).mono ?_
  rw [← HR.out]
  rintro e w2 ⟨rfl, k2, hb2, hx2⟩
  have hb2 : Blk w2 w.heap.size (rowV .u8 [y0, y1, y2, y3]) := hb2
  have hz2 := hz1.keep k2 (by simp; omega)
  have Hx2 := Lib.hid hx2
  have K2 : Keep [z, x] w w2 := (K1.weaken (by simp)).trans k2 (by simp)
  have wl2 := hb2.lt
  clear hx2 hx1 hD1 hb1 hz1
  go_wp2_with fail
  go_region_with (
    go_at_call 118;
    refine (uint32C w.heap.size 0 4 4 y0 y1 y2 y3 (rowV .u8 [y0, y1, y2, y3]) _ hb2.drew (by omega) (by omega) rfl rfl rfl rfl
      (HRb.out _ (by simp)) (HRb.out _ (by simp)) (HRb.out _ (by simp)) (HRb.out _ (by simp))).mono ?_;
    rintro e w5 ⟨rfl, k5, -⟩;
    have hz5 := hz2.drew.keep k5 (by simp);
    have ct := hz5.cell (i := zo) (v := zcs[zo]) (by simp);
    have hft := hz5.unfrozen)
  all_goals
    have K5 : Keep [z, x] w w5 := K2.drew.trans k5 (by simp)
    have Hz5 := Lib.hid hz5
    have Hx5 := Lib.hid (Hx2.out.drew.keep k5 (by simp))
    clear hz5
    go_wp2
    go_end0
    rw [← HR.out]
    exact ⟨rfl, K5.set (by simp) _ _ _, Hz5.out.set _ _, Hx5.out.set_other (Ne.symm zx) _ _ _⟩
end Go.Proofs.YtlolcgklcnechaaGreatDoor
