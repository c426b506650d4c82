/- How a decoder is made; impl.rleBatch. -/
import Derived.Test.YtlolcgklcnechaaGreatDoorU14
set_option linter.unusedVariables false
set_option linter.unusedSimpArgs false
namespace Go.Proofs.YtlolcgklcnechaaGreatDoor
open Go.RowKit

set_option maxRecDepth 100000 in
theorem newBitReader (x : Nat) (w : World) :
    Calls Tryz.prog 91 #[.iface 91 (.pointer (some ⟨x, 0, none⟩))] w fun e w' =>
      e = .returned (.pointer (some ⟨w.heap.size, 0, none⟩)) ∧ w' = w.alloc (.cells (brCells x 0 0 0 0 (List.replicate 8 0) (List.replicate 1024 0)).toArray 247) := by
  go_enter Tryz.func91, Tryz.ntmps91
  go_wp2
  go_ret
  exact ⟨rfl, congrArg (fun c => w.alloc (Obj.cells c _)) (by kernel_rfl)⟩

set_option maxRecDepth 100000 in
theorem newRleDecoder (x W : Nat) (w : World) :
    Calls Tryz.prog 42 #[.pointer (some ⟨x, 0, none⟩), .int .i64 (W : Int)] w fun e w' =>
      e = .returned (.pointer (some ⟨w.heap.size + 1, 0, none⟩)) ∧ w' = (w.alloc (.cells (brCells x 0 0 0 0 (List.replicate 8 0) (List.replicate 1024 0)).toArray 247)).alloc (.cells (decCells w.heap.size W 0 0 0).toArray 184) := by
  have hN := newBitReader x w
  obtain ⟨o, ho⟩ : ∃ o, o = (Obj.cells (brCells x 0 0 0 0 (List.replicate 8 0) (List.replicate 1024 0)).toArray 247) := ⟨_, rfl⟩
  rw [← ho] at hN ⊢
  clear ho
  go_enter Tryz.func42, Tryz.ntmps42
  go_wp2_with fail
  refine hN.mono ?_
  rintro e w2 ⟨rfl, rfl⟩
  go_wp2
  go_ret
  exact ⟨rfl, rfl⟩

theorem unp_zero : UnpOk (List.replicate 1024 0) := by
  refine ⟨List.length_replicate, fun v hv => ?_⟩
  rw [List.mem_replicate] at hv
  omega

/-- A fresh decoder over runs. -/
theorem DecAt.fresh {w w' : World} {x d o n cap W : Nat} {ea : Addr} {D : List Nat} {rs : List Rn} {rest : List Nat} {pos pr : Int} (raw unp : List Nat) (hraw : raw.length = 8) (hunp : UnpOk unp) (hw : w' = (w.alloc (.cells (brCells x 0 0 0 0 raw unp).toArray 247)).alloc (.cells (decCells w.heap.size W 0 0 0).toArray 184))
    (hx : Blk w x [.slice (some ⟨d, o, none⟩) n cap, .int .i64 pos, .int .i64 pr]) (hD : BytesAt w d o n cap D) (hE : Eof w ea) (xd : x ≠ d) (xe : x ≠ 4) (hW0 : 0 < W) (hW : W ≤ 64) (hn8 : n + 8 ≤ 1099511627776)
    (hrs : ∀ r ∈ rs, Rn.Ok W r) (hr : D = encR W rs ++ rest) : DecAt ⟨w.heap.size + 1, w.heap.size, x, d, o, n, cap, ea, D, W⟩ w' (valsR rs) := by
  have xl := hx.lt
  have dl : d < w.heap.size := by obtain ⟨⟨cs, h, _⟩, _⟩ := hD; exact h.lt
  have el := hE.lt
  have K : Keep [] w w' := by rw [hw]; exact ((Keep.refl [] w).alloc _).alloc _
  have hq : Blk w' w.heap.size (brCells x 0 0 0 0 raw unp) := by rw [hw]; exact (Blk.new w _ _).alloc _
  have ht : Blk w' (w.heap.size + 1) (decCells w.heap.size W 0 0 0) := by rw [hw]; exact Blk.of_new (by simp)
  refine ⟨0, 0, 0, 0, rs, rest, ⟨by show w.heap.size + 1 ≠ w.heap.size; omega, by show w.heap.size + 1 ≠ x; omega, by show w.heap.size + 1 ≠ d; omega, by show w.heap.size + 1 ≠ 4; omega, hW0, hW, hn8⟩, ht, hrs, by simpa using hr, by omega, by omega, by omega, .inl ⟨rfl, ⟨0, 0, 0, 0, ?_, by omega, by omega⟩, by simp⟩⟩
  exact ⟨⟨raw, unp, hraw, hunp, hq⟩, ⟨pos, pr, hx.keep K (by simp)⟩, hD.keep K (by simp), hE.keep K (by simp), by show w.heap.size ≠ x; omega, by show w.heap.size ≠ d; omega, xd, by show w.heap.size ≠ 4; omega, xe⟩

set_option maxRecDepth 100000 in
set_option maxHeartbeats 1000000 in
theorem rleBatchC (B : DecB) (L : List Nat) (m : Nat) (w : World) (h : DecAt B w L) (tl : B.t < w.heap.size) (ql : B.q < w.heap.size) (xl : B.x < w.heap.size) (dl : B.d < w.heap.size) (el : 4 < w.heap.size) (hmL : m ≤ L.length) (hm : m ≤ 1000000) :
    Calls Tryz.prog 45 #[.pointer (some ⟨B.t, 0, none⟩), .int .i64 0, .int .i64 (m : Int)] w fun e w' =>
      e = .returned (.tuple #[.slice (some ⟨w.heap.size, 0, none⟩) m m, .nilIface]) ∧ Keep [B.t, B.q, B.x] w w' ∧ DecAt B w' (L.drop m) ∧ Blk w' w.heap.size (rowV .u64 (L.take m)) := by
  have hmk := make_u64 (m : Int) m rfl (by omega)
  have K1 : Keep [] w (w.alloc (.cells (rowV .u64 (List.replicate m 0)).toArray 43)) := (Keep.refl [] w).alloc _
  have h1 := h.keep K1 (by simp) (by simp) (by simp) (by simp) (by simp)
  have hv := Blk.new w (rowV .u64 (List.replicate m 0)) 43
  have H1 := Lib.hid h1
  have HV := Lib.hid hv
  have HK := Lib.hid K1
  clear h h1 hv K1
  go_enter Tryz.func45, Tryz.ntmps45
  go_wp2_with fail
  refine (decGetBatch B L w.heap.size 0 m m (rowV .u64 (List.replicate m 0)) _ H1.out HV.out (by omega) (by omega) (by omega) (by omega) (by omega) (by simp) hmL hm (Nat.le_refl _)).mono ?_
  rintro e w2 ⟨rfl, k2, h2, hv2⟩
  have hv3 : Blk w2 w.heap.size (rowV .u64 (L.take m)) := by
    have e1 : splice (rowV .u64 (List.replicate m 0)) 0 (rowV .u64 (L.take m)) = rowV .u64 (L.take m) := by
      unfold splice
      rw [List.take_zero, List.nil_append, List.drop_of_length_le (by simp; omega), List.append_nil]
    rw [e1] at hv2; exact hv2
  have K2 : Keep [B.t, B.q, B.x] w w2 := (HK.out.weaken (S' := [B.t, B.q, B.x]) (by simp)).trans k2 (by simp)
  have H2 := Lib.hid h2
  have HV3 := Lib.hid hv3
  clear h2 hv2 hv3 k2
  go_wp2
  go_ret2
  exact ⟨rfl, K2, H2.out, HV3.out⟩
end Go.Proofs.YtlolcgklcnechaaGreatDoor
