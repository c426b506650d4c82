/- The level encoder: EncodeNoFlush, Flush, Len. The level encoder, bit-packed: Init. -/
import Derived.Test.YtlolcgklcnechaaGreatDoorV2
set_option linter.unusedVariables false
set_option linter.unusedSimpArgs false
namespace Go.Proofs.YtlolcgklcnechaaGreatDoor
open Go.RowKit

set_option maxRecDepth 100000 in
set_option maxHeartbeats 1000000 in
theorem encRle (x r b p d g L W N len : Nat) (pre vs : List Nat) (lv : Value) (w : World) (hx : Blk w x (leCells W len 3 (.pointer (some ⟨r, 0, none⟩)) (.pointer none))) (h : EncS w r b p d g L W (St.run W pre)) (hR : RowAt w lv .i16 vs) (hs : ∀ v ∈ vs, v < 2 ^ W) (hps : ∀ v ∈ pre, v < 2 ^ W)
    (hW0 : 0 < W) (hW15 : W ≤ 15) (hN : (pre ++ vs).length ≤ N) (hN2 : N ≤ 99999) (hL : Room W N L) (hblk : ∀ a c, 0 < vs.length → lv = .slice (some a) vs.length c → ¬ (a.block = r ∨ a.block = b ∨ a.block = d ∨ a.block = g)) :
    Calls Tryz.prog 75 #[.pointer (some ⟨x, 0, none⟩), lv] w fun e w' =>
      e = .returned (.tuple #[.int .i64 (vs.length : Int), .nilIface]) ∧ Keep [r, b, d, g] w w' ∧ EncS w' r b p d g L W (St.run W (pre ++ vs)) := by
  have hP := putBatchC r b p d g L W N pre vs lv w h hR hs hps hW0 hW15 hN hN2 hL hblk
  obtain ⟨ao, cap, hlv⟩ : ∃ ao cap, lv = .slice ao vs.length cap := by
    rcases hR with ⟨h1, h2⟩ | ⟨a, cap, h1, -⟩
    · exact ⟨none, 0, by rw [h1, h2]; rfl⟩
    · exact ⟨some a, cap, h1⟩
  obtain ⟨n, hn⟩ : ∃ n, n = vs.length := ⟨_, rfl⟩
  rw [← hn] at hlv hP ⊢
  subst hlv
  have c2 := hx.cell (i := 2) rfl
  have c3 := hx.cell (i := 3) rfl
  have HP := Lib.hid hP
  clear hn hx h hR hs hps hN hL hblk hP
  go_enter Tryz.func75, Tryz.ntmps75
  go_wp2_with fail
  refine HP.out.mono ?_
  rintro e w2 ⟨rfl, k2, hE⟩
  have HE := Lib.hid hE
  clear hE
  go_wp2
  go_ret2
  exact ⟨rfl, k2, HE.out⟩

set_option maxRecDepth 100000 in
set_option maxHeartbeats 1000000 in
theorem encPacked (x b p d L W len : Nat) (pre vs : List Nat) (lv : Value) (w : World) (hx : Blk w x (leCells W len 4 (.pointer none) (.pointer (some ⟨b, 0, none⟩)))) (h : BWA w b p d L [] (packN W pre) (W * pre.length)) (hR : RowAt w lv .i16 vs) (hs : ∀ v ∈ vs, v < 2 ^ W)
    (hW0 : 0 < W) (hW15 : W ≤ 15) (hN : vs.length ≤ 99999) (hL : W * (pre ++ vs).length ≤ 8 * L) (hblk : ∀ a c, 0 < vs.length → lv = .slice (some a) vs.length c → ¬ (a.block = b ∨ a.block = d)) (xb : x ≠ b) (xd : x ≠ d) :
    Calls Tryz.prog 75 #[.pointer (some ⟨x, 0, none⟩), lv] w fun e w' =>
      e = .returned (.tuple #[.int .i64 (vs.length : Int), .nilIface]) ∧ Keep [b, d] w w' ∧ BWA w' b p d L [] (packN W (pre ++ vs)) (W * (pre ++ vs).length) := by
  obtain ⟨ao, cap, rfl, hc, hcell⟩ := (show ∃ ao cap, lv = .slice ao vs.length cap ∧ vs.length ≤ cap ∧ ∀ (i x : Nat), vs[i]? = some x → ∃ a, ao = some a ∧ w.cell? (a.add i) = some (.int .i16 (x : Int)) by
    rcases hR with ⟨rfl, rfl⟩ | ⟨a, cap, h1, h2, h3⟩
    · exact ⟨none, 0, rfl, Nat.le_refl _, fun i x hx => by simp at hx⟩
    · exact ⟨some a, cap, h1, h2, fun i x hx => ⟨a, rfl, h3 i x hx⟩⟩)
  have hw15 : 2 ^ W ≤ 32768 := Nat.pow_le_pow_right (n := 2) (by omega) hW15
  obtain ⟨n, hn'⟩ : ∃ n, n = vs.length := ⟨_, rfl⟩
  rw [← hn'] at hc hN ⊢
  have h0 : BWA w b p d L [] (packN W (pre ++ vs.take 0)) (W * (pre ++ vs.take 0).length) := by simpa using h
  have c0 := hx.cell (i := 0) rfl
  have c2 := hx.cell (i := 2) rfl
  have c3 := hx.cell (i := 3) rfl
  have c4 := hx.cell (i := 4) rfl
  have HX := Lib.hid hx
  have Hn := Lib.hid hn'
  have Hc := Lib.hid hcell
  have Hs := Lib.hid hs
  have HL := Lib.hid hL
  have HW15 := Lib.hid hw15
  have Hblk0 := Lib.hid hblk
  clear hn' hcell hs hw15 hblk hR h hL hx
  go_enter Tryz.func75, Tryz.ntmps75
  go_wp2_with fail
  go_loopw [27, 4, 5] (fun i c e wr => ∃ k : Nat, k ≤ n ∧ i = .int .i64 (k : Int) ∧ c = .int .i64 (k : Int) ∧ e = .nilIface ∧ Keep [b, d] w wr ∧ BWA wr b p d L [] (packN W (pre ++ vs.take k)) (W * (pre ++ vs.take k).length)) (fun i _ _ _ => n - (intOf i).toNat)
  case atStart => exact ⟨0, Nat.zero_le _, rfl, rfl, rfl, Keep.refl _ _, h0⟩
  case round =>
    obtain ⟨k, hk, rfl, rfl, rfl, kk, hE⟩ := hrel
    by_cases hk2 : k < n
    · obtain ⟨v, hv⟩ : ∃ v, vs[k]? = some v := ⟨vs[k]'(by rw [← Hn.out]; exact hk2), by simp⟩
      obtain ⟨a, rfl, hcv⟩ := Hc.out k v hv
      have hbk : (a.add k).block ∉ [b, d] := fun hm => by
        have e : (a.add k).block = a.block := by unfold Addr.add; split <;> rfl
        simp only [List.mem_cons, List.not_mem_nil, or_false] at hm
        rw [e] at hm
        exact Hblk0.out a cap (by rw [← Hn.out]; omega) (by rw [← Hn.out]) hm
      have hcv := kk.cell_some hcv hbk
      have hvW := Hs.out v (List.mem_of_getElem? hv)
      have hvb : v < 32768 := Nat.lt_of_lt_of_le hvW HW15.out
      have hx2 := HX.out.keep kk (by simp; exact ⟨xb, xd⟩)
      have d0 := hx2.cell (i := 0) rfl
      have d4 := hx2.cell (i := 4) rfl
      have hlk : (pre ++ vs.take k).length + 1 ≤ (pre ++ vs).length := by simp only [List.length_append, List.length_take, ← Hn.out]; omega
      have hfit : ([] : List Nat).length + 8 * ((W * (pre ++ vs.take k).length + W) / 64) ≤ L := by
        have h1 : W * (pre ++ vs.take k).length + W ≤ W * (pre ++ vs).length := by rw [← Nat.mul_succ]; exact Nat.mul_le_mul_left _ hlk
        have := HL.out
        simp only [List.length_nil]
        omega
      have hw := writeValueA b p d L W v [] (packN W (pre ++ vs.take k)) (W * (pre ++ vs.take k).length) wr.drew hE.drew hvW (by omega) hfit
      rw [← packN_snoc, List.append_assoc] at hw
      have hnx : vs.take k ++ [v] = vs.take (k + 1) := by
        rw [List.take_succ_eq_append_getElem (by rw [← Hn.out]; exact hk2)]
        rw [List.getElem?_eq_getElem (by rw [← Hn.out]; exact hk2)] at hv
        rw [Option.some.inj hv]
      have hln : W * (pre ++ vs.take k).length + W = W * (pre ++ vs.take (k + 1)).length := by
        rw [← hnx, ← Nat.mul_succ]; congr 1; simp; omega
      rw [hnx, hln] at hw
      have Hw := Lib.hid hw
      clear hw hnx hln hfit hlk hvW hv hx2 hE hbk
      go_wp2_with fail
      refine wp_region_mid 11 (by kernel_rfl) (by kernel_rfl) ?_
      simp only [List.take_succ_cons, List.take_zero, List.drop_succ_cons, List.drop_zero]
      change wpStill _ _ (World.drew _) _ _ _
      repeat still_step
      refine wpStill_nil ?_
      go_wp2_with fail
      refine Hw.out.mono ?_
      rintro e w2 ⟨rfl, k2, hE2⟩
      have K2 : Keep [b, d] w w2 := kk.drew.trans k2 (fun x hx => .inl hx)
      have HE2 := Lib.hid hE2
      clear hE2 k2
      go_wp2_with fail
      repeat still_step
      refine wpStill_nil ?_
      go_wp2
      go_roundw
      case rel => exact ⟨k + 1, hk2, by go_num, by go_num, rfl, K2, HE2.out⟩
      case measure => simp [intOf]; omega
    · have hkn : k = n := by omega
      subst hkn
      have HE := Lib.hid hE
      clear hE
      go_wp2
      go_ret2
      have := HE.out
      rw [List.take_of_length_le (by rw [← Hn.out]; exact Nat.le_refl _)] at this
      exact ⟨rfl, kk, this⟩

set_option maxRecDepth 100000 in
set_option maxHeartbeats 1000000 in
theorem levFlushRle (x r b p d g L W len : Nat) (s : St) (w : World) (hx : Blk w x (leCells W len 3 (.pointer (some ⟨r, 0, none⟩)) (.pointer none))) (h : EncS w r b p d g L W s) (hok : s.Ok W L) (hW0 : 0 < W) (hW : W ≤ 64)
    (hrb : s.rep < 8 → s.rep ≤ s.buf.length ∧ (s.buf ≠ [] → 0 < s.rep)) (hroom : s.done.length + 1 + W * ((s.o.getD []).length + (s.buf.length + 7) / 8 * 8) / 8 ≤ L) (hfl : (s.finish W).length ≤ L) (xr : x ≠ r) (xb : x ≠ b) (xd : x ≠ d) (xg : x ≠ g) :
    Calls Tryz.prog 76 #[.pointer (some ⟨x, 0, none⟩)] w fun e w' =>
      e = .returned (.tuple #[]) ∧ Keep [r, b, d, g, x] w w' ∧ Blk w' x (leCells W (s.finish W).length 3 (.pointer (some ⟨r, 0, none⟩)) (.pointer none)) ∧ ∃ data, Blk w' d (rowV .u8 data) ∧ data.length = L ∧ data.take (s.finish W).length = s.finish W := by
  have hF := flushC r b p d g L W s w h hok hW0 hW hrb hroom hfl
  have c2 := hx.cell (i := 2) rfl
  have c3 := hx.cell (i := 3) rfl
  have HX := Lib.hid hx
  have HF := Lib.hid hF
  obtain ⟨fn, hfn⟩ : ∃ fn, fn = (s.finish W).length := ⟨_, rfl⟩
  rw [← hfn] at HF ⊢
  clear hfn hF h hok hrb hroom hfl hx
  go_enter Tryz.func76, Tryz.ntmps76
  go_wp2_with fail
  refine HF.out.mono ?_
  rintro e w2 ⟨rfl, k2, data, hd, hdl, hdt⟩
  have hx2 := HX.out.keep k2 (by simp; exact ⟨xr, xb, xd, xg⟩)
  have c12 := hx2.cell (i := 1) rfl
  have f2 := hx2.unfrozen
  have HX2 := Lib.hid hx2
  have HD := Lib.hid hd
  have Hdt := Lib.hid (And.intro hdl hdt)
  clear hx2 hd hdl hdt HF
  go_wp2
  go_end0
  obtain ⟨hdl, hdt⟩ := Hdt.out
  exact ⟨rfl, (k2.weaken (S' := [r, b, d, g, x]) (fun y hy => .inl (by simp at hy ⊢; omega))).set (by simp) _ _ _, HX2.out.set 1 (.int .i64 (fn : Int)), data, HD.out.set_other (Ne.symm xd) _ _ _, hdl, hdt⟩

set_option maxRecDepth 100000 in
set_option maxHeartbeats 1000000 in
theorem levFlushPacked (x b p d L W len X n : Nat) (w : World) (hx : Blk w x (leCells W len 4 (.pointer none) (.pointer (some ⟨b, 0, none⟩)))) (h : BWA w b p d L [] X n) (hfit : (n + 7) / 8 ≤ L) :
    Calls Tryz.prog 76 #[.pointer (some ⟨x, 0, none⟩)] w fun e w' =>
      e = .returned (.tuple #[]) ∧ Keep [b, d] w w' ∧ ∃ data, Blk w' d (rowV .u8 data) ∧ data.length = L ∧ data.take ((n + 7) / 8) = leBytes ((n + 7) / 8) X := by
  have hF := flushA false b p d L [] X n w h (by simpa using hfit)
  have c2 := hx.cell (i := 2) rfl
  have c3 := hx.cell (i := 3) rfl
  have c4 := hx.cell (i := 4) rfl
  have HF := Lib.hid hF
  clear hF h hfit hx
  go_enter Tryz.func76, Tryz.ntmps76
  go_wp2_with fail
  refine HF.out.mono ?_
  rintro e w2 ⟨rfl, k2, -, data, hd, hdl, hdt⟩
  have HD := Lib.hid hd
  have Hdt := Lib.hid (And.intro hdl hdt)
  clear hd hdl hdt HF
  go_wp2
  go_end0
  obtain ⟨hdl, hdt⟩ := Hdt.out
  exact ⟨rfl, k2, data, HD.out, hdl, by simpa using hdt⟩

theorem levLen (x r W len : Nat) (w : World) (hx : Blk w x (leCells W len 3 (.pointer (some ⟨r, 0, none⟩)) (.pointer none))) :
    Calls Tryz.prog 77 #[.pointer (some ⟨x, 0, none⟩)] w fun e w' => e = .returned (.int .i64 (len : Int)) ∧ w' = w := by
  have c1 := hx.cell (i := 1) rfl
  have c2 := hx.cell (i := 2) rfl
  clear hx
  go_enter Tryz.func77, Tryz.ntmps77
  go_wp2
  go_ret
  exact ⟨rfl, rfl⟩
end Go.Proofs.YtlolcgklcnechaaGreatDoor
set_option linter.unusedVariables false
set_option linter.unusedSimpArgs false
namespace Go.Proofs.YtlolcgklcnechaaGreatDoor
open Go.RowKit

theorem bwaFresh {w : World} {b p d L : Nat} (hp : Blk w p [.slice (some ⟨d, 0, none⟩) L L]) (hd : Blk w d (rowV .u8 (List.replicate L 0))) (hL : L ≤ 1099511627776)
    (hb : Blk w b (bwCells p 0 0 0 bwRest)) (bp : b ≠ p) (bd : b ≠ d) (pd : p ≠ d) : BWA w b p d L [] 0 0 := by
  refine ⟨List.replicate L 0, 0, 0, 0, 0, ?_, by simp, rfl, rfl, rfl, by simp, rfl⟩
  exact ⟨⟨bwRest, rfl, by intro v hv; simp [bwRest] at hv; rw [hv]; rfl, hb⟩, by simpa using hp, hd, bp, bd, pd, by simpa using hL, by simp, by omega⟩

theorem BWA.keepS {S : List Nat} {w w' : World} {b p d L X len : Nat} {pre : List Nat} (h : BWA w b p d L pre X len) (k : Keep S w w') (hb : b ∉ S) (hp : p ∉ S) (hd : d ∉ S) : BWA w' b p d L pre X len := by
  obtain ⟨data, buf, bo, bi, q, hB, h2, h3, h4, h5, h6, h7⟩ := h.ex
  obtain ⟨⟨rest, e1, e2, e3⟩, e4, e5, e6, e7, e8, e9, e10, e11⟩ := hB
  exact ⟨data, buf, bo, bi, q, ⟨⟨rest, e1, e2, e3.keep k hb⟩, e4.keep k hp, e5.keep k hd, e6, e7, e8, e9, e10, e11⟩, h2, h3, h4, h5, h6, h7⟩

set_option maxRecDepth 100000 in
set_option maxHeartbeats 1000000 in
theorem initPacked (x g p d L : Nat) (w : World) (hx : Blk w x (leCells 0 0 0 (.pointer none) (.pointer none))) (hp : Blk w p [.slice (some ⟨d, 0, none⟩) L L]) (hd : Blk w d (rowV .u8 (List.replicate L 0))) (hL : L ≤ 1099511627776) (pd : p ≠ d) (xp : x ≠ p) (xd : x ≠ d)
    (h0 : 0 < g) (h1 : g ≤ 16384) :
    Calls Tryz.prog 74 #[.pointer (some ⟨x, 0, none⟩), .int .i64 4, .int .i16 (g : Int), .iface 176 (.pointer (some ⟨p, 0, none⟩))] w fun e w' =>
      ∃ b, e = .returned (.tuple #[]) ∧ Keep [x] w w' ∧ w.heap.size ≤ b ∧ BWA w' b p d L [] 0 0 ∧ Blk w' x (leCells (bitLen g) 0 4 (.pointer none) (.pointer (some ⟨b, 0, none⟩))) := by
  have hLen := fun w => (len64C g w (by omega)).mono fun e w' ⟨a, b⟩ => (show e = _ ∧ w = w' from ⟨a, b.symm⟩)
  obtain ⟨W, hWd⟩ : ∃ W, W = bitLen g := ⟨_, rfl⟩
  rw [← hWd] at hLen ⊢
  have fx := hx.unfrozen
  have c0 := hx.cell (i := 0) rfl
  have c2 := hx.cell (i := 2) rfl
  have c4 := hx.cell (i := 4) rfl
  have HX := Lib.hid hx
  have xl := hx.lt
  have pl := hp.lt
  have dl := hd.lt
  obtain ⟨w1, hw1⟩ : ∃ w1, w1 = (w.setCell ⟨x, 0, none⟩ (.int .i64 (W : Int))).setCell ⟨x, 2, none⟩ (.int .i64 4) := ⟨_, rfl⟩
  have K1 : Keep [x] w w1 := by rw [hw1]; exact ((Keep.refl _ w).set (by simp) _ _ _).set (by simp) _ _ _
  have hx1 : Blk w1 x (leCells W 0 4 (.pointer none) (.pointer none)) := by rw [hw1]; exact (hx.set 0 (.int .i64 (W : Int))).set 2 (.int .i64 ((4 : Nat) : Int))
  have hn : Calls Tryz.prog 84 #[.iface 176 (.pointer (some ⟨p, 0, none⟩))] w1 fun e w2 => e = .returned (.pointer (some ⟨w.heap.size, 0, none⟩)) ∧ Keep [x] w w2 ∧ Blk w2 x (leCells W 0 4 (.pointer none) (.pointer none)) ∧ BWA w2 w.heap.size p d L [] 0 0 := by
    refine (newBitWriter p w1).mono ?_
    rintro e w2 ⟨rfl, rfl⟩
    have hs1 : w1.heap.size = w.heap.size := by rw [hw1]; simp
    rw [hs1]
    refine ⟨rfl, K1.alloc _, hx1.alloc _, bwaFresh ((hp.keep K1 (by simp; exact Ne.symm xp)).alloc _) ((hd.keep K1 (by simp; exact Ne.symm xd)).alloc _) hL (Blk.of_new (by rw [hs1])) (by omega) (by omega) pd⟩
  have Hn := Lib.hid hn
  clear hWd hx hp hd hn
  go_enter Tryz.func74, Tryz.ntmps74
  go_wp2_with (go_at_call 116; refine (hLen _).mono ?_; rintro e w' ⟨rfl, rfl⟩)
  rw [← hw1]
  refine Hn.out.mono ?_
  rintro e w2 ⟨rfl, K2, hx2, hE⟩
  have fx2 := hx2.unfrozen
  have c42 := hx2.cell (i := 4) rfl
  have HX2 := Lib.hid hx2
  have HE := Lib.hid hE
  clear hx2 hE K1 hx1 hw1 fx c0 c2 c4 Hn
  go_wp2
  go_end0
  have Kx : Keep [x] w2 (w2.setCell ⟨x, 4, none⟩ (.pointer (some ⟨w.heap.size, 0, none⟩))) := (Keep.refl _ w2).set (by simp) _ _ _
  exact ⟨w.heap.size, rfl, K2.set (by simp) _ _ _, Nat.le_refl _, BWA.keepS HE.out Kx (by simp; omega) (by simp; exact Ne.symm xp) (by simp; exact Ne.symm xd), HX2.out.set 4 _⟩
end Go.Proofs.YtlolcgklcnechaaGreatDoor
