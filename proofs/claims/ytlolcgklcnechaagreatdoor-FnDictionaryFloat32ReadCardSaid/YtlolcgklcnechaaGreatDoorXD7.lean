/- The bit reader: getAlignedUint16, 32, 64. (Printed by gen_al.py.) -/
import Derived.Test.YtlolcgklcnechaaGreatDoorXD6
set_option linter.unusedVariables false
namespace Go.Proofs.YtlolcgklcnechaaGreatDoor
open Go.RowKit





set_option maxRecDepth 100000 in
set_option maxHeartbeats 4000000 in
theorem getAligned16 (q : Nat) (x : XP) (d o n cap : Nat) (ea : Addr) (D : List Nat) (buf bo bi vb t tO P nb : Nat) (tcs : List Value) (w : World) (h : BR w q x d o n cap ea D buf bo bi vb) (hbi : bi ≤ 64) (hnb0 : 0 < nb) (hnb : nb ≤ 2)
    (ht : Blk w t tcs) (tq : t ≠ q) (tx : t ≠ x.b) (td : t ≠ d) (te : t ≠ 4) (htO : tO < tcs.length) (hP : P = bo + (bi + 7) / 8) (hfit : P + nb ≤ n) :
    Calls Tryz.prog 134 #[.pointer (some ⟨q, 0, none⟩), .int .i64 (nb : Int), .pointer (some ⟨t, tO, none⟩)] w fun e w' =>
      e = .returned (.bool true) ∧ Keep [q, t] w w' ∧ BRF w' q x d o n cap ea D (P + nb) 0 ∧ Blk w' t (tcs.set tO (.int .u16 (leVal ((D.drop P).take nb) : Int))) := by
  obtain ⟨⟨raw, unp, hr1, hu, hq⟩, ⟨pos, pr, hx⟩, hD, hE, qx, qd, xd, qe, xe⟩ := h
  have c0 := hq.cell (i := 0) rfl
  have c2 := hq.cell (i := 2) rfl
  have c3 := hq.cell (i := 3) rfl
  have hf := hq.unfrozen
  have hm := method_ReadAt ⟨x.b, x.o, none⟩
  obtain ⟨nbb, hnbb⟩ : ∃ nbb, nbb = (bi + 7) / 8 := ⟨_, rfl⟩
  obtain ⟨w1, hw1⟩ : ∃ w1, w1 = w.setCell ⟨q, 2, none⟩ (.int .i64 (P : Int)) := ⟨_, rfl⟩
  have hPi : (bo : Int) + (nbb : Int) = (P : Int) := by omega
  have hnb8 : (nb : Int) ≤ 8 := by omega
  have hnb9 : nb ≤ 8 := by omega
  have hq1 : Blk w1 q (brCells x buf P bi vb raw unp) := by rw [hw1]; exact hq.set 2 (.int .i64 (P : Int))
  have K1 : Keep [q] w w1 := by rw [hw1]; exact (Keep.refl _ _).set (by simp) _ _ _
  have hx1 := hx.keep K1 (by simp; exact Ne.symm qx)
  have hD1 := hD.keep K1 (by simp; exact Ne.symm qd)
  have hE1 := hE.keep K1 (by simp; exact Ne.symm qe)
  have ht1 := ht.keep K1 (by simp; exact tq)
  obtain ⟨R, hR⟩ : ∃ R, R = (D.drop P).take nb := ⟨_, rfl⟩
  rw [← hR]
  have hRl : R.length = nb := by rw [hR]; simp [hD.dl]; omega
  have hRb : ∀ y ∈ R, y < 256 := by rw [hR]; intro y hy; exact hD.bytes y (List.mem_of_mem_drop (List.mem_of_mem_take hy))
  have hbo2 : P + nb ≤ 1099511627776 := by have := hD.cap; have := hD.len; omega
  have HR := Lib.hid hR
  have HRl := Lib.hid hRl
  have HRb := Lib.hid hRb
  have Hr1 := Lib.hid hr1
  have Hnbb := Lib.hid hnbb
  clear hR hRl hRb hr1 hq hx hD hE ht hnbb hP
  have hn8 : ¬ 8 = nb := by omega
  have hnk : (nb : Int) ≤ 2 := by omega
  go_enter Tryz.func134, Tryz.ntmps134
  go_wp2_with (go_at_call 83; refine (bytesForBitsN bi nbb _ Hnbb.out (by omega)).mono ?_; rintro e w' ⟨rfl, rfl⟩)
  rw [← hw1]
  clear hw1
  have d0 := hq1.cell (i := 0) rfl
  have d2 := hq1.cell (i := 2) rfl
  have hf1 := hq1.unfrozen
  refine wp_region_mid 15 (by kernel_rfl) (by kernel_rfl) ?_
  simp only [List.take_succ_cons, List.take_zero, List.drop_succ_cons, List.drop_zero]
  change wpStill _ _ (World.drew _) _ _ _
  repeat still_step
  refine wpStill_nil ?_
  go_wp2_with fail
  refine (readAt x d o n cap q 5 nb 8 P pos pr D _ ea nb _ hx1.drew (hD1.keep (S := []) (Keep.refl [] w1).drew (by simp)) hq1.drew (hE1.keep (S := []) (Keep.refl [] w1).drew (by simp)) qd qx qe (by simp [brCells, brHead, Hr1.out]; omega) (by omega) (by omega) (by omega)).mono ?_
  rw [← HR.out, if_neg (Nat.lt_irrefl nb)]
  rintro e w2 ⟨rfl, k2, hB2⟩
  rw [show (5 : Nat) = 5 + 0 from rfl, brCells_splice _ _ _ _ _ _ _ _ _ (by rw [HRl.out, Hr1.out]; omega)] at hB2
  have K2 : Keep [q] w1 w2 := (Keep.refl _ _).drew.trans k2 (by simp)
  have hx2 := hx1.keep K2 (by simp; exact Ne.symm qx)
  have hD2 := hD1.keep K2 (by simp; exact Ne.symm qd)
  have hE2 := hE1.keep K2 (by simp; exact Ne.symm qe)
  have ht2 := ht1.keep K2 (by simp; exact tq)
  have hrl : (splice raw 0 R).length = 8 := by rw [length_splice _ _ _ (by rw [HRl.out, Hr1.out]; omega)]; exact Hr1.out
  have hrt : (splice raw 0 R).take nb = R := by simp [splice, HRl.out]
  obtain ⟨raw2, hraw2⟩ : ∃ raw2, raw2 = splice raw 0 R := ⟨_, rfl⟩
  rw [← hraw2] at hB2 hrl hrt
  have Hrl := Lib.hid hrl
  have Hrt := Lib.hid hrt
  clear d0 d2 hf1 hx1 hD1 hE1 ht1 hq1 c0 c2 c3 hf hraw2 hrl hrt
  go_wp2_with fail
  repeat still_step
  refine wpStill_nil ?_
  go_wp2_with fail
  refine (memSetC q (5 + nb) (2 - nb) (8 - nb) 0 _ _ hB2 (by simp [brCells, brHead, Hrl.out]; omega) (by omega)).mono ?_
  rintro e w3 ⟨rfl, k3, hB3⟩
  rw [show List.replicate (2 - nb) (Value.int .u8 ((0 : Nat) : Int)) = rowV .u8 (List.replicate (2 - nb) 0) by simp [rowV], brCells_splice _ _ _ _ _ _ _ _ _ (by rw [Hrl.out]; simp; omega)] at hB3
  have hx3 := hx2.keep k3 (by simp; exact Ne.symm qx)
  have hD3 := hD2.keep k3 (by simp; exact Ne.symm qd)
  have hE3 := hE2.keep k3 (by simp; exact Ne.symm qe)
  have ht3 := ht2.keep k3 (by simp; exact tq)
  have K3 : Keep [q, t] w w3 := ((K1.trans K2 (by simp)).trans k3 (by simp)).weaken (by simp)
  have hr3l : (splice raw2 nb (List.replicate (2 - nb) 0)).length = 8 := by rw [length_splice _ _ _ (by rw [Hrl.out]; simp; omega)]; exact Hrl.out
  have hr3t : (splice raw2 nb (List.replicate (2 - nb) 0)).take 2 = R ++ List.replicate (2 - nb) 0 := by
    have := take_splice_end raw2 nb (List.replicate (2 - nb) 0) (by rw [Hrl.out]; omega)
    rw [Hrt.out, List.length_replicate, show nb + (2 - nb) = 2 by omega] at this
    exact this
  obtain ⟨raw3, hraw3⟩ : ∃ raw3, raw3 = splice raw2 nb (List.replicate (2 - nb) 0) := ⟨_, rfl⟩
  rw [← hraw3] at hB3 hr3l hr3t
  clear hraw3
  obtain ⟨y0, y1, y2, y3, y4, y5, y6, y7, rfl⟩ : ∃ y0 y1 y2 y3 y4 y5 y6 y7, raw3 = [y0, y1, y2, y3, y4, y5, y6, y7] := by
    match raw3, hr3l with
    | [y0, y1, y2, y3, y4, y5, y6, y7], _ => exact ⟨_, _, _, _, _, _, _, _, rfl⟩
  have hlt : ∀ y ∈ [y0, y1], y < 256 := by
    have e1 : [y0, y1] = R ++ List.replicate (2 - nb) 0 := hr3t
    rw [e1]
    intro y hy
    rw [List.mem_append, List.mem_replicate] at hy
    rcases hy with hy | ⟨_, rfl⟩
    · exact HRb.out y hy
    · omega
  have hval : leVal [y0, y1] = leVal R := by
    have e1 : [y0, y1] = R ++ List.replicate (2 - nb) 0 := hr3t
    rw [e1, leVal_zeros]
  obtain ⟨v, hv⟩ : ∃ v, v = leVal R := ⟨_, rfl⟩
  rw [← hv] at hval
  have Hv := Lib.hid hv
  have Hval := Lib.hid hval
  have Hlt := Lib.hid hlt
  obtain ⟨tv, htv⟩ : ∃ tv, tcs[tO]? = some tv := ⟨tcs[tO], by simp⟩
  have Htv := Lib.hid htv
  have qt := Ne.symm tq
  have hbr : BR w3 q x d o n cap ea D buf P bi vb := ⟨⟨_, unp, hr3l, hu, hB3⟩, ⟨pos, pr, hx3⟩, hD3, hE3, qx, qd, xd, qe, xe⟩
  have Hbr := Lib.hid hbr
  have Ht3 := Lib.hid ht3
  have HK3 := Lib.hid K3
  have HB3 := Lib.hid hB3
  clear hval hlt hv hr3l hr3t hB2 hx2 hD2 hE2 ht2 K2 K1 hx3 hD3 hE3 ht3 K3 k3 hB3 hbr htv
  go_wp2_with fail
  go_region_with (
    go_at_call 154;
    refine (uint16C q 5 2 8 y0 y1 (brCells x buf P bi vb [y0, y1, y2, y3, y4, y5, y6, y7] unp) _ HB3.out.drew (by omega) (by omega) rfl rfl
      (Hlt.out _ (by simp)) (Hlt.out _ (by simp))).mono ?_;
    rintro e w5 ⟨rfl, k5, -⟩;
    rw [Hval.out];
    have ht5 := Ht3.out.drew.keep k5 (by simp);
    have ct := ht5.cell Htv.out;
    have hft := ht5.unfrozen;
    have hbr5 := Hbr.out.drew.keep k5 (by simp) (by simp) (by simp) (by simp);
    have c2 := hbr5.cells.2.2.1;
    have c3 := hbr5.cells.2.2.2.1;
    have hf := hbr5.cells.2.2.2.2.2)
  all_goals
    have K5 : Keep [q, t] w w5 := HK3.out.drew.trans k5 (by simp)
    have Hbr5 := Lib.hid hbr5
    have Ht5 := Lib.hid ht5
    clear hbr5 ht5
    go_wp2_with fail
    have hr := ((Hbr5.out.keep (S := [t]) ((Keep.refl [t] w5).set (b := t) (by simp) tO none (.int .u16 (v : Int))) (by simp; exact qt) (by simp; exact Ne.symm tx) (by simp; exact Ne.symm td) (by simp; exact Ne.symm te)).setBo (P + nb)).setBi 0
    rw [show ((P + nb : Nat) : Int) = (P : Int) + (nb : Int) by omega] at hr
    refine (fillC q x d o n cap ea D _ (P + nb) 0 _ _ hr (by omega) hbo2).mono ?_
    rintro e w4 ⟨rfl, k4, h4⟩
    have hts : Blk w4 t (tcs.set tO (.int .u16 (v : Int))) := (((Ht5.out.set tO (.int .u16 (v : Int))).set_other (c := q) tq 2 none _).set_other (c := q) tq 3 none _).keep k4 (by simp; exact tq)
    have K4 : Keep [q, t] w w4 := (((K5.set (by simp) _ _ _).set (by simp) _ _ _).set (by simp) _ _ _).trans k4 (by simp)
    have Hts := Lib.hid hts
    have H4 := Lib.hid h4
    clear hr h4 hts
    go_wp2
    go_ret
    rw [← Hv.out]
    exact ⟨rfl, K4, H4.out, Hts.out⟩


set_option maxRecDepth 100000 in
set_option maxHeartbeats 4000000 in
theorem getAligned32 (q : Nat) (x : XP) (d o n cap : Nat) (ea : Addr) (D : List Nat) (buf bo bi vb t tO P nb : Nat) (tcs : List Value) (w : World) (h : BR w q x d o n cap ea D buf bo bi vb) (hbi : bi ≤ 64) (hnb0 : 0 < nb) (hnb : nb ≤ 4)
    (ht : Blk w t tcs) (tq : t ≠ q) (tx : t ≠ x.b) (td : t ≠ d) (te : t ≠ 4) (htO : tO < tcs.length) (hP : P = bo + (bi + 7) / 8) (hfit : P + nb ≤ n) :
    Calls Tryz.prog 133 #[.pointer (some ⟨q, 0, none⟩), .int .i64 (nb : Int), .pointer (some ⟨t, tO, none⟩)] w fun e w' =>
      e = .returned (.bool true) ∧ Keep [q, t] w w' ∧ BRF w' q x d o n cap ea D (P + nb) 0 ∧ Blk w' t (tcs.set tO (.int .u32 (leVal ((D.drop P).take nb) : Int))) := by
  obtain ⟨⟨raw, unp, hr1, hu, hq⟩, ⟨pos, pr, hx⟩, hD, hE, qx, qd, xd, qe, xe⟩ := h
  have c0 := hq.cell (i := 0) rfl
  have c2 := hq.cell (i := 2) rfl
  have c3 := hq.cell (i := 3) rfl
  have hf := hq.unfrozen
  have hm := method_ReadAt ⟨x.b, x.o, none⟩
  obtain ⟨nbb, hnbb⟩ : ∃ nbb, nbb = (bi + 7) / 8 := ⟨_, rfl⟩
  obtain ⟨w1, hw1⟩ : ∃ w1, w1 = w.setCell ⟨q, 2, none⟩ (.int .i64 (P : Int)) := ⟨_, rfl⟩
  have hPi : (bo : Int) + (nbb : Int) = (P : Int) := by omega
  have hnb8 : (nb : Int) ≤ 8 := by omega
  have hnb9 : nb ≤ 8 := by omega
  have hq1 : Blk w1 q (brCells x buf P bi vb raw unp) := by rw [hw1]; exact hq.set 2 (.int .i64 (P : Int))
  have K1 : Keep [q] w w1 := by rw [hw1]; exact (Keep.refl _ _).set (by simp) _ _ _
  have hx1 := hx.keep K1 (by simp; exact Ne.symm qx)
  have hD1 := hD.keep K1 (by simp; exact Ne.symm qd)
  have hE1 := hE.keep K1 (by simp; exact Ne.symm qe)
  have ht1 := ht.keep K1 (by simp; exact tq)
  obtain ⟨R, hR⟩ : ∃ R, R = (D.drop P).take nb := ⟨_, rfl⟩
  rw [← hR]
  have hRl : R.length = nb := by rw [hR]; simp [hD.dl]; omega
  have hRb : ∀ y ∈ R, y < 256 := by rw [hR]; intro y hy; exact hD.bytes y (List.mem_of_mem_drop (List.mem_of_mem_take hy))
  have hbo2 : P + nb ≤ 1099511627776 := by have := hD.cap; have := hD.len; omega
  have HR := Lib.hid hR
  have HRl := Lib.hid hRl
  have HRb := Lib.hid hRb
  have Hr1 := Lib.hid hr1
  have Hnbb := Lib.hid hnbb
  clear hR hRl hRb hr1 hq hx hD hE ht hnbb hP
  have hn8 : ¬ 8 = nb := by omega
  have hnk : (nb : Int) ≤ 4 := by omega
  go_enter Tryz.func133, Tryz.ntmps133
  go_wp2_with (go_at_call 83; refine (bytesForBitsN bi nbb _ Hnbb.out (by omega)).mono ?_; rintro e w' ⟨rfl, rfl⟩)
  rw [← hw1]
  clear hw1
  have d0 := hq1.cell (i := 0) rfl
  have d2 := hq1.cell (i := 2) rfl
  have hf1 := hq1.unfrozen
  refine wp_region_mid 15 (by kernel_rfl) (by kernel_rfl) ?_
  simp only [List.take_succ_cons, List.take_zero, List.drop_succ_cons, List.drop_zero]
  change wpStill _ _ (World.drew _) _ _ _
  repeat still_step
  refine wpStill_nil ?_
  go_wp2_with fail
  refine (readAt x d o n cap q 5 nb 8 P pos pr D _ ea nb _ hx1.drew (hD1.keep (S := []) (Keep.refl [] w1).drew (by simp)) hq1.drew (hE1.keep (S := []) (Keep.refl [] w1).drew (by simp)) qd qx qe (by simp [brCells, brHead, Hr1.out]; omega) (by omega) (by omega) (by omega)).mono ?_
  rw [← HR.out, if_neg (Nat.lt_irrefl nb)]
  rintro e w2 ⟨rfl, k2, hB2⟩
  rw [show (5 : Nat) = 5 + 0 from rfl, brCells_splice _ _ _ _ _ _ _ _ _ (by rw [HRl.out, Hr1.out]; omega)] at hB2
  have K2 : Keep [q] w1 w2 := (Keep.refl _ _).drew.trans k2 (by simp)
  have hx2 := hx1.keep K2 (by simp; exact Ne.symm qx)
  have hD2 := hD1.keep K2 (by simp; exact Ne.symm qd)
  have hE2 := hE1.keep K2 (by simp; exact Ne.symm qe)
  have ht2 := ht1.keep K2 (by simp; exact tq)
  have hrl : (splice raw 0 R).length = 8 := by rw [length_splice _ _ _ (by rw [HRl.out, Hr1.out]; omega)]; exact Hr1.out
  have hrt : (splice raw 0 R).take nb = R := by simp [splice, HRl.out]
  obtain ⟨raw2, hraw2⟩ : ∃ raw2, raw2 = splice raw 0 R := ⟨_, rfl⟩
  rw [← hraw2] at hB2 hrl hrt
  have Hrl := Lib.hid hrl
  have Hrt := Lib.hid hrt
  clear d0 d2 hf1 hx1 hD1 hE1 ht1 hq1 c0 c2 c3 hf hraw2 hrl hrt
  go_wp2_with fail
  repeat still_step
  refine wpStill_nil ?_
  go_wp2_with fail
  refine (memSetC q (5 + nb) (4 - nb) (8 - nb) 0 _ _ hB2 (by simp [brCells, brHead, Hrl.out]; omega) (by omega)).mono ?_
  rintro e w3 ⟨rfl, k3, hB3⟩
  rw [show List.replicate (4 - nb) (Value.int .u8 ((0 : Nat) : Int)) = rowV .u8 (List.replicate (4 - nb) 0) by simp [rowV], brCells_splice _ _ _ _ _ _ _ _ _ (by rw [Hrl.out]; simp; omega)] at hB3
  have hx3 := hx2.keep k3 (by simp; exact Ne.symm qx)
  have hD3 := hD2.keep k3 (by simp; exact Ne.symm qd)
  have hE3 := hE2.keep k3 (by simp; exact Ne.symm qe)
  have ht3 := ht2.keep k3 (by simp; exact tq)
  have K3 : Keep [q, t] w w3 := ((K1.trans K2 (by simp)).trans k3 (by simp)).weaken (by simp)
  have hr3l : (splice raw2 nb (List.replicate (4 - nb) 0)).length = 8 := by rw [length_splice _ _ _ (by rw [Hrl.out]; simp; omega)]; exact Hrl.out
  have hr3t : (splice raw2 nb (List.replicate (4 - nb) 0)).take 4 = R ++ List.replicate (4 - nb) 0 := by
    have := take_splice_end raw2 nb (List.replicate (4 - nb) 0) (by rw [Hrl.out]; omega)
    rw [Hrt.out, List.length_replicate, show nb + (4 - nb) = 4 by omega] at this
    exact this
  obtain ⟨raw3, hraw3⟩ : ∃ raw3, raw3 = splice raw2 nb (List.replicate (4 - nb) 0) := ⟨_, rfl⟩
  rw [← hraw3] at hB3 hr3l hr3t
  clear hraw3
  obtain ⟨y0, y1, y2, y3, y4, y5, y6, y7, rfl⟩ : ∃ y0 y1 y2 y3 y4 y5 y6 y7, raw3 = [y0, y1, y2, y3, y4, y5, y6, y7] := by
    match raw3, hr3l with
    | [y0, y1, y2, y3, y4, y5, y6, y7], _ => exact ⟨_, _, _, _, _, _, _, _, rfl⟩
  have hlt : ∀ y ∈ [y0, y1, y2, y3], y < 256 := by
    have e1 : [y0, y1, y2, y3] = R ++ List.replicate (4 - nb) 0 := hr3t
    rw [e1]
    intro y hy
    rw [List.mem_append, List.mem_replicate] at hy
    rcases hy with hy | ⟨_, rfl⟩
    · exact HRb.out y hy
    · omega
  have hval : leVal [y0, y1, y2, y3] = leVal R := by
    have e1 : [y0, y1, y2, y3] = R ++ List.replicate (4 - nb) 0 := hr3t
    rw [e1, leVal_zeros]
  obtain ⟨v, hv⟩ : ∃ v, v = leVal R := ⟨_, rfl⟩
  rw [← hv] at hval
  have Hv := Lib.hid hv
  have Hval := Lib.hid hval
  have Hlt := Lib.hid hlt
  obtain ⟨tv, htv⟩ : ∃ tv, tcs[tO]? = some tv := ⟨tcs[tO], by simp⟩
  have Htv := Lib.hid htv
  have qt := Ne.symm tq
  have hbr : BR w3 q x d o n cap ea D buf P bi vb := ⟨⟨_, unp, hr3l, hu, hB3⟩, ⟨pos, pr, hx3⟩, hD3, hE3, qx, qd, xd, qe, xe⟩
  have Hbr := Lib.hid hbr
  have Ht3 := Lib.hid ht3
  have HK3 := Lib.hid K3
  have HB3 := Lib.hid hB3
  clear hval hlt hv hr3l hr3t hB2 hx2 hD2 hE2 ht2 K2 K1 hx3 hD3 hE3 ht3 K3 k3 hB3 hbr htv
  go_wp2_with fail
  go_region_with (
    go_at_call 118;
    refine (uint32C q 5 4 8 y0 y1 y2 y3 (brCells x buf P bi vb [y0, y1, y2, y3, y4, y5, y6, y7] unp) _ HB3.out.drew (by omega) (by omega) rfl rfl rfl rfl
      (Hlt.out _ (by simp)) (Hlt.out _ (by simp)) (Hlt.out _ (by simp)) (Hlt.out _ (by simp))).mono ?_;
    rintro e w5 ⟨rfl, k5, -⟩;
    rw [Hval.out];
    have ht5 := Ht3.out.drew.keep k5 (by simp);
    have ct := ht5.cell Htv.out;
    have hft := ht5.unfrozen;
    have hbr5 := Hbr.out.drew.keep k5 (by simp) (by simp) (by simp) (by simp);
    have c2 := hbr5.cells.2.2.1;
    have c3 := hbr5.cells.2.2.2.1;
    have hf := hbr5.cells.2.2.2.2.2)
  all_goals
    have K5 : Keep [q, t] w w5 := HK3.out.drew.trans k5 (by simp)
    have Hbr5 := Lib.hid hbr5
    have Ht5 := Lib.hid ht5
    clear hbr5 ht5
    go_wp2_with fail
    have hr := ((Hbr5.out.keep (S := [t]) ((Keep.refl [t] w5).set (b := t) (by simp) tO none (.int .u32 (v : Int))) (by simp; exact qt) (by simp; exact Ne.symm tx) (by simp; exact Ne.symm td) (by simp; exact Ne.symm te)).setBo (P + nb)).setBi 0
    rw [show ((P + nb : Nat) : Int) = (P : Int) + (nb : Int) by omega] at hr
    refine (fillC q x d o n cap ea D _ (P + nb) 0 _ _ hr (by omega) hbo2).mono ?_
    rintro e w4 ⟨rfl, k4, h4⟩
    have hts : Blk w4 t (tcs.set tO (.int .u32 (v : Int))) := (((Ht5.out.set tO (.int .u32 (v : Int))).set_other (c := q) tq 2 none _).set_other (c := q) tq 3 none _).keep k4 (by simp; exact tq)
    have K4 : Keep [q, t] w w4 := (((K5.set (by simp) _ _ _).set (by simp) _ _ _).set (by simp) _ _ _).trans k4 (by simp)
    have Hts := Lib.hid hts
    have H4 := Lib.hid h4
    clear hr h4 hts
    go_wp2
    go_ret
    rw [← Hv.out]
    exact ⟨rfl, K4, H4.out, Hts.out⟩


set_option maxRecDepth 100000 in
set_option maxHeartbeats 4000000 in
theorem getAligned64_lt (q : Nat) (x : XP) (d o n cap : Nat) (ea : Addr) (D : List Nat) (buf bo bi vb t tO P nb : Nat) (tcs : List Value) (w : World) (h : BR w q x d o n cap ea D buf bo bi vb) (hbi : bi ≤ 64) (hnb0 : 0 < nb) (hnb : nb < 8)
    (ht : Blk w t tcs) (tq : t ≠ q) (tx : t ≠ x.b) (td : t ≠ d) (te : t ≠ 4) (htO : tO < tcs.length) (hP : P = bo + (bi + 7) / 8) (hfit : P + nb ≤ n) :
    Calls Tryz.prog 132 #[.pointer (some ⟨q, 0, none⟩), .int .i64 (nb : Int), .pointer (some ⟨t, tO, none⟩)] w fun e w' =>
      e = .returned (.bool true) ∧ Keep [q, t] w w' ∧ BRF w' q x d o n cap ea D (P + nb) 0 ∧ Blk w' t (tcs.set tO (.int .u64 (leVal ((D.drop P).take nb) : Int))) := by
  obtain ⟨⟨raw, unp, hr1, hu, hq⟩, ⟨pos, pr, hx⟩, hD, hE, qx, qd, xd, qe, xe⟩ := h
  have c0 := hq.cell (i := 0) rfl
  have c2 := hq.cell (i := 2) rfl
  have c3 := hq.cell (i := 3) rfl
  have hf := hq.unfrozen
  have hm := method_ReadAt ⟨x.b, x.o, none⟩
  obtain ⟨nbb, hnbb⟩ : ∃ nbb, nbb = (bi + 7) / 8 := ⟨_, rfl⟩
  obtain ⟨w1, hw1⟩ : ∃ w1, w1 = w.setCell ⟨q, 2, none⟩ (.int .i64 (P : Int)) := ⟨_, rfl⟩
  have hPi : (bo : Int) + (nbb : Int) = (P : Int) := by omega
  have hnb8 : (nb : Int) ≤ 8 := by omega
  have hnb9 : nb ≤ 8 := by omega
  have hq1 : Blk w1 q (brCells x buf P bi vb raw unp) := by rw [hw1]; exact hq.set 2 (.int .i64 (P : Int))
  have K1 : Keep [q] w w1 := by rw [hw1]; exact (Keep.refl _ _).set (by simp) _ _ _
  have hx1 := hx.keep K1 (by simp; exact Ne.symm qx)
  have hD1 := hD.keep K1 (by simp; exact Ne.symm qd)
  have hE1 := hE.keep K1 (by simp; exact Ne.symm qe)
  have ht1 := ht.keep K1 (by simp; exact tq)
  obtain ⟨R, hR⟩ : ∃ R, R = (D.drop P).take nb := ⟨_, rfl⟩
  rw [← hR]
  have hRl : R.length = nb := by rw [hR]; simp [hD.dl]; omega
  have hRb : ∀ y ∈ R, y < 256 := by rw [hR]; intro y hy; exact hD.bytes y (List.mem_of_mem_drop (List.mem_of_mem_take hy))
  have hbo2 : P + nb ≤ 1099511627776 := by have := hD.cap; have := hD.len; omega
  have HR := Lib.hid hR
  have HRl := Lib.hid hRl
  have HRb := Lib.hid hRb
  have Hr1 := Lib.hid hr1
  have Hnbb := Lib.hid hnbb
  clear hR hRl hRb hr1 hq hx hD hE ht hnbb hP
  have hn8 : ¬ 8 = nb := by omega
  have hnk : (nb : Int) ≤ 8 := by omega
  go_enter Tryz.func132, Tryz.ntmps132
  go_wp2_with (go_at_call 83; refine (bytesForBitsN bi nbb _ Hnbb.out (by omega)).mono ?_; rintro e w' ⟨rfl, rfl⟩)
  rw [← hw1]
  clear hw1
  have d0 := hq1.cell (i := 0) rfl
  have d2 := hq1.cell (i := 2) rfl
  have hf1 := hq1.unfrozen
  refine wp_region_mid 15 (by kernel_rfl) (by kernel_rfl) ?_
  simp only [List.take_succ_cons, List.take_zero, List.drop_succ_cons, List.drop_zero]
  change wpStill _ _ (World.drew _) _ _ _
  repeat still_step
  refine wpStill_nil ?_
  go_wp2_with fail
  refine (readAt x d o n cap q 5 nb 8 P pos pr D _ ea nb _ hx1.drew (hD1.keep (S := []) (Keep.refl [] w1).drew (by simp)) hq1.drew (hE1.keep (S := []) (Keep.refl [] w1).drew (by simp)) qd qx qe (by simp [brCells, brHead, Hr1.out]; omega) (by omega) (by omega) (by omega)).mono ?_
  rw [← HR.out, if_neg (Nat.lt_irrefl nb)]
  rintro e w2 ⟨rfl, k2, hB2⟩
  rw [show (5 : Nat) = 5 + 0 from rfl, brCells_splice _ _ _ _ _ _ _ _ _ (by rw [HRl.out, Hr1.out]; omega)] at hB2
  have K2 : Keep [q] w1 w2 := (Keep.refl _ _).drew.trans k2 (by simp)
  have hx2 := hx1.keep K2 (by simp; exact Ne.symm qx)
  have hD2 := hD1.keep K2 (by simp; exact Ne.symm qd)
  have hE2 := hE1.keep K2 (by simp; exact Ne.symm qe)
  have ht2 := ht1.keep K2 (by simp; exact tq)
  have hrl : (splice raw 0 R).length = 8 := by rw [length_splice _ _ _ (by rw [HRl.out, Hr1.out]; omega)]; exact Hr1.out
  have hrt : (splice raw 0 R).take nb = R := by simp [splice, HRl.out]
  obtain ⟨raw2, hraw2⟩ : ∃ raw2, raw2 = splice raw 0 R := ⟨_, rfl⟩
  rw [← hraw2] at hB2 hrl hrt
  have Hrl := Lib.hid hrl
  have Hrt := Lib.hid hrt
  clear d0 d2 hf1 hx1 hD1 hE1 ht1 hq1 c0 c2 c3 hf hraw2 hrl hrt
  go_wp2_with fail
  repeat still_step
  refine wpStill_nil ?_
  go_wp2_with fail
  refine (memSetC q (5 + nb) (8 - nb) (8 - nb) 0 _ _ hB2 (by simp [brCells, brHead, Hrl.out]; omega) (by omega)).mono ?_
  rintro e w3 ⟨rfl, k3, hB3⟩
  rw [show List.replicate (8 - nb) (Value.int .u8 ((0 : Nat) : Int)) = rowV .u8 (List.replicate (8 - nb) 0) by simp [rowV], brCells_splice _ _ _ _ _ _ _ _ _ (by rw [Hrl.out]; simp; omega)] at hB3
  have hx3 := hx2.keep k3 (by simp; exact Ne.symm qx)
  have hD3 := hD2.keep k3 (by simp; exact Ne.symm qd)
  have hE3 := hE2.keep k3 (by simp; exact Ne.symm qe)
  have ht3 := ht2.keep k3 (by simp; exact tq)
  have K3 : Keep [q, t] w w3 := ((K1.trans K2 (by simp)).trans k3 (by simp)).weaken (by simp)
  have hr3l : (splice raw2 nb (List.replicate (8 - nb) 0)).length = 8 := by rw [length_splice _ _ _ (by rw [Hrl.out]; simp; omega)]; exact Hrl.out
  have hr3t : (splice raw2 nb (List.replicate (8 - nb) 0)).take 8 = R ++ List.replicate (8 - nb) 0 := by
    have := take_splice_end raw2 nb (List.replicate (8 - nb) 0) (by rw [Hrl.out]; omega)
    rw [Hrt.out, List.length_replicate, show nb + (8 - nb) = 8 by omega] at this
    exact this
  obtain ⟨raw3, hraw3⟩ : ∃ raw3, raw3 = splice raw2 nb (List.replicate (8 - nb) 0) := ⟨_, rfl⟩
  rw [← hraw3] at hB3 hr3l hr3t
  clear hraw3
  obtain ⟨y0, y1, y2, y3, y4, y5, y6, y7, rfl⟩ : ∃ y0 y1 y2 y3 y4 y5 y6 y7, raw3 = [y0, y1, y2, y3, y4, y5, y6, y7] := by
    match raw3, hr3l with
    | [y0, y1, y2, y3, y4, y5, y6, y7], _ => exact ⟨_, _, _, _, _, _, _, _, rfl⟩
  have hlt : ∀ y ∈ [y0, y1, y2, y3, y4, y5, y6, y7], y < 256 := by
    have e1 : [y0, y1, y2, y3, y4, y5, y6, y7] = R ++ List.replicate (8 - nb) 0 := hr3t
    rw [e1]
    intro y hy
    rw [List.mem_append, List.mem_replicate] at hy
    rcases hy with hy | ⟨_, rfl⟩
    · exact HRb.out y hy
    · omega
  have hval : leVal [y0, y1, y2, y3, y4, y5, y6, y7] = leVal R := by
    have e1 : [y0, y1, y2, y3, y4, y5, y6, y7] = R ++ List.replicate (8 - nb) 0 := hr3t
    rw [e1, leVal_zeros]
  obtain ⟨v, hv⟩ : ∃ v, v = leVal R := ⟨_, rfl⟩
  rw [← hv] at hval
  have Hv := Lib.hid hv
  have Hval := Lib.hid hval
  have Hlt := Lib.hid hlt
  obtain ⟨tv, htv⟩ : ∃ tv, tcs[tO]? = some tv := ⟨tcs[tO], by simp⟩
  have Htv := Lib.hid htv
  have qt := Ne.symm tq
  have hbr : BR w3 q x d o n cap ea D buf P bi vb := ⟨⟨_, unp, hr3l, hu, hB3⟩, ⟨pos, pr, hx3⟩, hD3, hE3, qx, qd, xd, qe, xe⟩
  have Hbr := Lib.hid hbr
  have Ht3 := Lib.hid ht3
  have HK3 := Lib.hid K3
  have HB3 := Lib.hid hB3
  clear hval hlt hv hr3l hr3t hB2 hx2 hD2 hE2 ht2 K2 K1 hx3 hD3 hE3 ht3 K3 k3 hB3 hbr htv
  go_wp2_with fail
  go_region_with (
    go_at_call 151;
    refine (uint64C q 5 8 8 y0 y1 y2 y3 y4 y5 y6 y7 (brCells x buf P bi vb [y0, y1, y2, y3, y4, y5, y6, y7] unp) _ HB3.out.drew (by omega) (by omega) rfl rfl rfl rfl rfl rfl rfl rfl
      (Hlt.out _ (by simp)) (Hlt.out _ (by simp)) (Hlt.out _ (by simp)) (Hlt.out _ (by simp)) (Hlt.out _ (by simp)) (Hlt.out _ (by simp)) (Hlt.out _ (by simp)) (Hlt.out _ (by simp))).mono ?_;
    rintro e w5 ⟨rfl, k5, -⟩;
    rw [Hval.out];
    have ht5 := Ht3.out.drew.keep k5 (by simp);
    have ct := ht5.cell Htv.out;
    have hft := ht5.unfrozen;
    have hbr5 := Hbr.out.drew.keep k5 (by simp) (by simp) (by simp) (by simp);
    have c2 := hbr5.cells.2.2.1;
    have c3 := hbr5.cells.2.2.2.1;
    have hf := hbr5.cells.2.2.2.2.2)
  all_goals
    have K5 : Keep [q, t] w w5 := HK3.out.drew.trans k5 (by simp)
    have Hbr5 := Lib.hid hbr5
    have Ht5 := Lib.hid ht5
    clear hbr5 ht5
    go_wp2_with fail
    have hr := ((Hbr5.out.keep (S := [t]) ((Keep.refl [t] w5).set (b := t) (by simp) tO none (.int .u64 (v : Int))) (by simp; exact qt) (by simp; exact Ne.symm tx) (by simp; exact Ne.symm td) (by simp; exact Ne.symm te)).setBo (P + nb)).setBi 0
    rw [show ((P + nb : Nat) : Int) = (P : Int) + (nb : Int) by omega] at hr
    refine (fillC q x d o n cap ea D _ (P + nb) 0 _ _ hr (by omega) hbo2).mono ?_
    rintro e w4 ⟨rfl, k4, h4⟩
    have hts : Blk w4 t (tcs.set tO (.int .u64 (v : Int))) := (((Ht5.out.set tO (.int .u64 (v : Int))).set_other (c := q) tq 2 none _).set_other (c := q) tq 3 none _).keep k4 (by simp; exact tq)
    have K4 : Keep [q, t] w w4 := (((K5.set (by simp) _ _ _).set (by simp) _ _ _).set (by simp) _ _ _).trans k4 (by simp)
    have Hts := Lib.hid hts
    have H4 := Lib.hid h4
    clear hr h4 hts
    go_wp2
    go_ret
    rw [← Hv.out]
    exact ⟨rfl, K4, H4.out, Hts.out⟩




set_option maxRecDepth 100000 in
set_option maxHeartbeats 4000000 in
theorem getAligned64_eq (q : Nat) (x : XP) (d o n cap : Nat) (ea : Addr) (D : List Nat) (buf bo bi vb t tO P : Nat) (tcs : List Value) (w : World) (h : BR w q x d o n cap ea D buf bo bi vb) (hbi : bi ≤ 64) 
    (ht : Blk w t tcs) (tq : t ≠ q) (tx : t ≠ x.b) (td : t ≠ d) (te : t ≠ 4) (htO : tO < tcs.length) (hP : P = bo + (bi + 7) / 8) (hfit : P + 8 ≤ n) :
    Calls Tryz.prog 132 #[.pointer (some ⟨q, 0, none⟩), .int .i64 (8 : Int), .pointer (some ⟨t, tO, none⟩)] w fun e w' =>
      e = .returned (.bool true) ∧ Keep [q, t] w w' ∧ BRF w' q x d o n cap ea D (P + 8) 0 ∧ Blk w' t (tcs.set tO (.int .u64 (leVal ((D.drop P).take 8) : Int))) := by
  obtain ⟨⟨raw, unp, hr1, hu, hq⟩, ⟨pos, pr, hx⟩, hD, hE, qx, qd, xd, qe, xe⟩ := h
  have c0 := hq.cell (i := 0) rfl
  have c2 := hq.cell (i := 2) rfl
  have c3 := hq.cell (i := 3) rfl
  have hf := hq.unfrozen
  have hm := method_ReadAt ⟨x.b, x.o, none⟩
  obtain ⟨nbb, hnbb⟩ : ∃ nbb, nbb = (bi + 7) / 8 := ⟨_, rfl⟩
  obtain ⟨w1, hw1⟩ : ∃ w1, w1 = w.setCell ⟨q, 2, none⟩ (.int .i64 (P : Int)) := ⟨_, rfl⟩
  have hPi : (bo : Int) + (nbb : Int) = (P : Int) := by omega
  have hq1 : Blk w1 q (brCells x buf P bi vb raw unp) := by rw [hw1]; exact hq.set 2 (.int .i64 (P : Int))
  have K1 : Keep [q] w w1 := by rw [hw1]; exact (Keep.refl _ _).set (by simp) _ _ _
  have hx1 := hx.keep K1 (by simp; exact Ne.symm qx)
  have hD1 := hD.keep K1 (by simp; exact Ne.symm qd)
  have hE1 := hE.keep K1 (by simp; exact Ne.symm qe)
  have ht1 := ht.keep K1 (by simp; exact tq)
  obtain ⟨R, hR⟩ : ∃ R, R = (D.drop P).take 8 := ⟨_, rfl⟩
  rw [← hR]
  have hRl : R.length = 8 := by rw [hR]; simp [hD.dl]; omega
  have hRb : ∀ y ∈ R, y < 256 := by rw [hR]; intro y hy; exact hD.bytes y (List.mem_of_mem_drop (List.mem_of_mem_take hy))
  have hbo2 : P + 8 ≤ 1099511627776 := by have := hD.cap; have := hD.len; omega
  have HR := Lib.hid hR
  have HRl := Lib.hid hRl
  have HRb := Lib.hid hRb
  have Hr1 := Lib.hid hr1
  have Hnbb := Lib.hid hnbb
  clear hR hRl hRb hr1 hq hx hD hE ht hnbb hP
  go_enter Tryz.func132, Tryz.ntmps132
  go_wp2_with (go_at_call 83; refine (bytesForBitsN bi nbb _ Hnbb.out (by omega)).mono ?_; rintro e w' ⟨rfl, rfl⟩)
  rw [← hw1]
  clear hw1
  have d0 := hq1.cell (i := 0) rfl
  have d2 := hq1.cell (i := 2) rfl
  have hf1 := hq1.unfrozen
  refine wp_region_mid 15 (by kernel_rfl) (by kernel_rfl) ?_
  simp only [List.take_succ_cons, List.take_zero, List.drop_succ_cons, List.drop_zero]
  change wpStill _ _ (World.drew _) _ _ _
  repeat still_step
  refine wpStill_nil ?_
  go_wp2_with fail
  refine (readAt x d o n cap q 5 8 8 P pos pr D _ ea 8 _ hx1.drew (hD1.keep (S := []) (Keep.refl [] w1).drew (by simp)) hq1.drew (hE1.keep (S := []) (Keep.refl [] w1).drew (by simp)) qd qx qe (by simp [brCells, brHead, Hr1.out]) (by omega) (by omega) (by omega)).mono ?_
  rw [← HR.out, if_neg (Nat.lt_irrefl 8)]
  rintro e w2 ⟨rfl, k2, hB2⟩
  rw [show (5 : Nat) = 5 + 0 from rfl, brCells_splice _ _ _ _ _ _ _ _ _ (by rw [HRl.out, Hr1.out]; omega)] at hB2
  have K2 : Keep [q] w1 w2 := (Keep.refl _ _).drew.trans k2 (by simp)
  have hx2 := hx1.keep K2 (by simp; exact Ne.symm qx)
  have hD2 := hD1.keep K2 (by simp; exact Ne.symm qd)
  have hE2 := hE1.keep K2 (by simp; exact Ne.symm qe)
  have ht2 := ht1.keep K2 (by simp; exact tq)
  have hrl : (splice raw 0 R).length = 8 := by rw [length_splice _ _ _ (by rw [HRl.out, Hr1.out]; omega)]; exact Hr1.out
  have hrt : (splice raw 0 R).take 8 = R := by simp [splice, HRl.out]
  obtain ⟨raw2, hraw2⟩ : ∃ raw2, raw2 = splice raw 0 R := ⟨_, rfl⟩
  rw [← hraw2] at hB2 hrl hrt
  have Hrl := Lib.hid hrl
  have Hrt := Lib.hid hrt
  clear d0 d2 hf1 hx1 hD1 hE1 ht1 hq1 c0 c2 c3 hf hraw2 hrl hrt
  go_wp2_with fail
  repeat still_step
  refine wpStill_nil ?_
  go_wp2_with fail
  refine (memSetC q 5 0 0 0 _ _ hB2 (by simp [brCells, brHead, Hrl.out]) (by omega)).mono ?_
  rintro e w3 ⟨rfl, k3, hB3⟩
  rw [show splice (brCells x buf P bi vb raw2 unp) 5 (List.replicate 0 (Value.int .u8 ((0 : Nat) : Int))) = brCells x buf P bi vb raw2 unp by simp [splice]] at hB3
  have hx3 := hx2.keep k3 (by simp; exact Ne.symm qx)
  have hD3 := hD2.keep k3 (by simp; exact Ne.symm qd)
  have hE3 := hE2.keep k3 (by simp; exact Ne.symm qe)
  have ht3 := ht2.keep k3 (by simp; exact tq)
  have K3 : Keep [q, t] w w3 := ((K1.trans K2 (by simp)).trans k3 (by simp)).weaken (by simp)
  have hr3l := Hrl.out
  have hr3t : raw2.take 8 = R ++ List.replicate (8 - 8) 0 := by rw [Hrt.out]; simp
  obtain ⟨raw3, hraw3⟩ : ∃ raw3, raw3 = raw2 := ⟨_, rfl⟩
  rw [← hraw3] at hB3 hr3l hr3t
  clear hraw3
  obtain ⟨y0, y1, y2, y3, y4, y5, y6, y7, rfl⟩ : ∃ y0 y1 y2 y3 y4 y5 y6 y7, raw3 = [y0, y1, y2, y3, y4, y5, y6, y7] := by
    match raw3, hr3l with
    | [y0, y1, y2, y3, y4, y5, y6, y7], _ => exact ⟨_, _, _, _, _, _, _, _, rfl⟩
  have hlt : ∀ y ∈ [y0, y1, y2, y3, y4, y5, y6, y7], y < 256 := by
    have e1 : [y0, y1, y2, y3, y4, y5, y6, y7] = R ++ List.replicate (8 - 8) 0 := hr3t
    rw [e1]
    intro y hy
    rw [List.mem_append, List.mem_replicate] at hy
    rcases hy with hy | ⟨_, rfl⟩
    · exact HRb.out y hy
    · omega
  have hval : leVal [y0, y1, y2, y3, y4, y5, y6, y7] = leVal R := by
    have e1 : [y0, y1, y2, y3, y4, y5, y6, y7] = R ++ List.replicate (8 - 8) 0 := hr3t
    rw [e1, leVal_zeros]
  obtain ⟨v, hv⟩ : ∃ v, v = leVal R := ⟨_, rfl⟩
  rw [← hv] at hval
  have Hv := Lib.hid hv
  have Hval := Lib.hid hval
  have Hlt := Lib.hid hlt
  obtain ⟨tv, htv⟩ : ∃ tv, tcs[tO]? = some tv := ⟨tcs[tO], by simp⟩
  have Htv := Lib.hid htv
  have qt := Ne.symm tq
  have hbr : BR w3 q x d o n cap ea D buf P bi vb := ⟨⟨_, unp, hr3l, hu, hB3⟩, ⟨pos, pr, hx3⟩, hD3, hE3, qx, qd, xd, qe, xe⟩
  have Hbr := Lib.hid hbr
  have Ht3 := Lib.hid ht3
  have HK3 := Lib.hid K3
  have HB3 := Lib.hid hB3
  clear hval hlt hv hr3l hr3t hB2 hx2 hD2 hE2 ht2 K2 K1 hx3 hD3 hE3 ht3 K3 k3 hB3 hbr htv
  go_wp2_with fail
  go_region_with (
    go_at_call 151;
    refine (uint64C q 5 8 8 y0 y1 y2 y3 y4 y5 y6 y7 (brCells x buf P bi vb [y0, y1, y2, y3, y4, y5, y6, y7] unp) _ HB3.out.drew (by omega) (by omega) rfl rfl rfl rfl rfl rfl rfl rfl
      (Hlt.out _ (by simp)) (Hlt.out _ (by simp)) (Hlt.out _ (by simp)) (Hlt.out _ (by simp)) (Hlt.out _ (by simp)) (Hlt.out _ (by simp)) (Hlt.out _ (by simp)) (Hlt.out _ (by simp))).mono ?_;
    rintro e w5 ⟨rfl, k5, -⟩;
    rw [Hval.out];
    have ht5 := Ht3.out.drew.keep k5 (by simp);
    have ct := ht5.cell Htv.out;
    have hft := ht5.unfrozen;
    have hbr5 := Hbr.out.drew.keep k5 (by simp) (by simp) (by simp) (by simp);
    have c2 := hbr5.cells.2.2.1;
    have c3 := hbr5.cells.2.2.2.1;
    have hf := hbr5.cells.2.2.2.2.2)
  all_goals
    have K5 : Keep [q, t] w w5 := HK3.out.drew.trans k5 (by simp)
    have Hbr5 := Lib.hid hbr5
    have Ht5 := Lib.hid ht5
    clear hbr5 ht5
    go_wp2_with fail
    have hr := ((Hbr5.out.keep (S := [t]) ((Keep.refl [t] w5).set (b := t) (by simp) tO none (.int .u64 (v : Int))) (by simp; exact qt) (by simp; exact Ne.symm tx) (by simp; exact Ne.symm td) (by simp; exact Ne.symm te)).setBo (P + 8)).setBi 0
    rw [show ((P + 8 : Nat) : Int) = (P : Int) + (8 : Int) by omega] at hr
    refine (fillC q x d o n cap ea D _ (P + 8) 0 _ _ hr (by omega) hbo2).mono ?_
    rintro e w4 ⟨rfl, k4, h4⟩
    have hts : Blk w4 t (tcs.set tO (.int .u64 (v : Int))) := (((Ht5.out.set tO (.int .u64 (v : Int))).set_other (c := q) tq 2 none _).set_other (c := q) tq 3 none _).keep k4 (by simp; exact tq)
    have K4 : Keep [q, t] w w4 := (((K5.set (by simp) _ _ _).set (by simp) _ _ _).set (by simp) _ _ _).trans k4 (by simp)
    have Hts := Lib.hid hts
    have H4 := Lib.hid h4
    clear hr h4 hts
    go_wp2
    go_ret
    rw [← Hv.out]
    exact ⟨rfl, K4, H4.out, Hts.out⟩

theorem getAligned64 (q : Nat) (x : XP) (d o n cap : Nat) (ea : Addr) (D : List Nat) (buf bo bi vb t tO P nb : Nat) (tcs : List Value) (w : World) (h : BR w q x d o n cap ea D buf bo bi vb) (hbi : bi ≤ 64) (hnb0 : 0 < nb) (hnb : nb ≤ 8)
    (ht : Blk w t tcs) (tq : t ≠ q) (tx : t ≠ x.b) (td : t ≠ d) (te : t ≠ 4) (htO : tO < tcs.length) (hP : P = bo + (bi + 7) / 8) (hfit : P + nb ≤ n) :
    Calls Tryz.prog 132 #[.pointer (some ⟨q, 0, none⟩), .int .i64 (nb : Int), .pointer (some ⟨t, tO, none⟩)] w fun e w' =>
      e = .returned (.bool true) ∧ Keep [q, t] w w' ∧ BRF w' q x d o n cap ea D (P + nb) 0 ∧ Blk w' t (tcs.set tO (.int .u64 (leVal ((D.drop P).take nb) : Int))) := by
  by_cases h8 : nb = 8
  · subst h8
    exact getAligned64_eq q x d o n cap ea D buf bo bi vb t tO P tcs w h hbi ht tq tx td te htO hP hfit
  · exact getAligned64_lt q x d o n cap ea D buf bo bi vb t tO P nb tcs w h hbi hnb0 (by omega) ht tq tx td te htO hP hfit
end Go.Proofs.YtlolcgklcnechaaGreatDoor
