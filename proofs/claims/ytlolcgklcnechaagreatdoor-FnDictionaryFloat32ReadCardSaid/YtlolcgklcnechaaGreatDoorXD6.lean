/- The bit reader: whole bytes (getAlignedUint8, 16, 32, 64). -/
import Derived.Test.YtlolcgklcnechaaGreatDoorXD5
set_option linter.unusedVariables false
namespace Go.Proofs.YtlolcgklcnechaaGreatDoor
open Go.RowKit

theorem nextC (q : Nat) (x : XP) (d o n cap : Nat) (ea : Addr) (D : List Nat) (bo bi b : Nat) (w : World) (h : BRF w q x d o n cap ea D bo bi) (hb0 : 0 < b) (hb : b ≤ 64) (hbi : bi ≤ 64) (hbo : bo + 8 ≤ 1099511627776) (hfit : 8 * bo + bi + b ≤ 8 * n) :
    Calls Tryz.prog 129 #[.pointer (some ⟨q, 0, none⟩), .int .u64 (b : Int)] w fun e w' =>
      e = .returned (.tuple #[.int .u64 ((leVal D / 2 ^ (8 * bo + bi) % 2 ^ b : Nat) : Int), .nilIface]) ∧ Keep [q] w w' ∧ ∃ bo' bi', 8 * bo' + bi' = 8 * bo + bi + b ∧ 0 < bi' ∧ bi' ≤ 64 ∧ BRF w' q x d o n cap ea D bo' bi' := by
  by_cases h64 : bi = 64
  · subst h64
    exact (next_64 q x d o n cap ea D bo b w h hb0 hb hbo (by omega)).mono fun e w' ⟨h1, k, h2⟩ => ⟨h1, k, bo + 8, b, by omega, hb0, hb, h2⟩
  · by_cases hin : bi + b ≤ 64
    · exact (next_in q x d o n cap ea D bo bi b w h hb0 (by omega) hin hfit).mono fun e w' ⟨h1, k, h2⟩ => ⟨h1, k, bo, bi + b, by omega, by omega, hin, h2⟩
    · exact (next_cross q x d o n cap ea D bo bi b w h hb (by omega) (by omega) hbo hfit).mono fun e w' ⟨h1, k, h2⟩ => ⟨h1, k, bo + 8, bi + b - 64, by omega, by omega, by omega, h2⟩



set_option maxRecDepth 100000 in
set_option maxHeartbeats 2000000 in
theorem getAligned8 (q : Nat) (x : XP) (d o n cap : Nat) (ea : Addr) (D : List Nat) (buf bo bi vb t tO P nb : Nat) (tcs : List Value) (w : World) (h : BR w q x d o n cap ea D buf bo bi vb) (hbi : bi ≤ 64) (hnb0 : 0 < nb) (hnb : nb ≤ 1)
    (ht : Blk w t tcs) (tq : t ≠ q) (tx : t ≠ x.b) (td : t ≠ d) (te : t ≠ 4) (htO : tO < tcs.length) (hP : P = bo + (bi + 7) / 8) (hfit : P + nb ≤ n) :
    Calls Tryz.prog 135 #[.pointer (some ⟨q, 0, none⟩), .int .i64 (nb : Int), .pointer (some ⟨t, tO, none⟩)] w fun e w' =>
      e = .returned (.bool true) ∧ Keep [q, t] w w' ∧ BRF w' q x d o n cap ea D (P + nb) 0 ∧ Blk w' t (tcs.set tO (.int .u8 (leVal ((D.drop P).take nb) : Int))) := by
  obtain ⟨⟨raw, unp, hr1, hu, hq⟩, ⟨pos, pr, hx⟩, hD, hE, qx, qd, xd, qe, xe⟩ := h
  have c0 := hq.cell (i := 0) rfl
  have c2 := hq.cell (i := 2) rfl
  have c3 := hq.cell (i := 3) rfl
  have hf := hq.unfrozen
  have hm := method_ReadAt ⟨x.b, x.o, none⟩
  obtain ⟨nbb, hnbb⟩ : ∃ nbb, nbb = (bi + 7) / 8 := ⟨_, rfl⟩
  obtain ⟨w1, hw1⟩ : ∃ w1, w1 = w.setCell ⟨q, 2, none⟩ (.int .i64 (P : Int)) := ⟨_, rfl⟩
  have hPi : (bo : Int) + (nbb : Int) = (P : Int) := by omega
  have hnb8 : (nb : Int) ≤ 8 := by omega
  have hnb9 : nb ≤ 8 := by omega
  have hq1 : Blk w1 q (brCells x buf P bi vb raw unp) := by rw [hw1]; exact hq.set 2 (.int .i64 (P : Int))
  have K1 : Keep [q] w w1 := by rw [hw1]; exact (Keep.refl _ _).set (by simp) _ _ _
  have hx1 := hx.keep K1 (by simp; exact Ne.symm qx)
  have hD1 := hD.keep K1 (by simp; exact Ne.symm qd)
  have hE1 := hE.keep K1 (by simp; exact Ne.symm qe)
  have ht1 := ht.keep K1 (by simp; exact tq)
  obtain ⟨R, hR⟩ : ∃ R, R = (D.drop P).take nb := ⟨_, rfl⟩
  rw [← hR]
  have hRl : R.length = nb := by rw [hR]; simp [hD.dl]; omega
  have hRb : ∀ y ∈ R, y < 256 := by rw [hR]; intro y hy; exact hD.bytes y (List.mem_of_mem_drop (List.mem_of_mem_take hy))
  have hbo2 : P + nb ≤ 1099511627776 := by have := hD.cap; have := hD.len; omega
  have HR := Lib.hid hR
  have HRl := Lib.hid hRl
  have HRb := Lib.hid hRb
  have Hr1 := Lib.hid hr1
  have Hnbb := Lib.hid hnbb
  clear hR hRl hRb hr1 hq hx hD hE ht hnbb hP
  go_enter Tryz.func135, Tryz.ntmps135
  go_wp2_with (go_at_call 83; refine (bytesForBitsN bi nbb _ Hnbb.out (by omega)).mono ?_; rintro e w' ⟨rfl, rfl⟩)
  rw [← hw1]
  clear hw1
  have d0 := hq1.cell (i := 0) rfl
  have d2 := hq1.cell (i := 2) rfl
  have hf1 := hq1.unfrozen
  refine wp_region_mid 15 (by kernel_rfl) (by kernel_rfl) ?_
  simp only [List.take_succ_cons, List.take_zero, List.drop_succ_cons, List.drop_zero]
  change wpStill _ _ (World.drew _) _ _ _
  repeat still_step
  refine wpStill_nil ?_
  go_wp2_with fail
  refine (readAt x d o n cap q 5 nb 8 P pos pr D _ ea nb _ hx1.drew (hD1.keep (S := []) (Keep.refl [] w1).drew (by simp)) hq1.drew (hE1.keep (S := []) (Keep.refl [] w1).drew (by simp)) qd qx qe (by simp [brCells, brHead, Hr1.out]; omega) (by omega) (by omega) (by omega)).mono ?_
  rw [← HR.out, if_neg (Nat.lt_irrefl nb)]
  rintro e w2 ⟨rfl, k2, hB2⟩
  rw [show (5 : Nat) = 5 + 0 from rfl, brCells_splice _ _ _ _ _ _ _ _ _ (by rw [HRl.out, Hr1.out]; omega)] at hB2
  have K2 : Keep [q] w1 w2 := (Keep.refl _ _).drew.trans k2 (by simp)
  have hx2 := hx1.keep K2 (by simp; exact Ne.symm qx)
  have hD2 := hD1.keep K2 (by simp; exact Ne.symm qd)
  have hE2 := hE1.keep K2 (by simp; exact Ne.symm qe)
  have ht2 := ht1.keep K2 (by simp; exact tq)
  have hrl : (splice raw 0 R).length = 8 := by rw [length_splice _ _ _ (by rw [HRl.out, Hr1.out]; omega)]; exact Hr1.out
  have hrt : (splice raw 0 R).take nb = R := by simp [splice, HRl.out]
  obtain ⟨raw2, hraw2⟩ : ∃ raw2, raw2 = splice raw 0 R := ⟨_, rfl⟩
  rw [← hraw2] at hB2 hrl hrt
  have Hrl := Lib.hid hrl
  have Hrt := Lib.hid hrt
  clear d0 d2 hf1 hx1 hD1 hE1 ht1 hq1 c0 c2 c3 hf hraw2 hrl hrt
  obtain ⟨v, hv⟩ : ∃ v, v = leVal R := ⟨_, rfl⟩
  have h5 : raw2[0]? = some v := by
    have h1 : R.length = 1 := by have := HRl.out; omega
    obtain ⟨y, rfl⟩ := List.length_eq_one_iff.1 h1
    have := Hrt.out
    have e1 : raw2[0]? = (raw2.take nb)[0]? := by rw [List.getElem?_take, if_pos hnb0]
    rw [e1, this, hv]
    simp [leVal]
  have c5 := hB2.cell (brCells_get x buf P bi vb raw2 unp 0 v h5)
  clear h5
  have Hv := Lib.hid hv
  clear hv
  have c2 := hB2.cell (i := 2) rfl
  have c3 := hB2.cell (i := 3) rfl
  have hf := hB2.unfrozen
  obtain ⟨tv, htv⟩ : ∃ tv, tcs[tO]? = some tv := ⟨tcs[tO], by simp⟩
  have ct := ht2.cell htv
  have hft := ht2.unfrozen
  have qt := Ne.symm tq
  have hbr : BR w2 q x d o n cap ea D buf P bi vb := ⟨⟨raw2, unp, Hrl.out, hu, hB2⟩, ⟨pos, pr, hx2⟩, hD2, hE2, qx, qd, xd, qe, xe⟩
  have Hbr := Lib.hid hbr
  have Ht2 := Lib.hid ht2
  have HK2 := Lib.hid K2
  have HK1 := Lib.hid K1
  clear hbr hx2 hD2 hE2 hB2 ht2 K2 K1 htv
  go_wp2_with fail
  repeat still_step
  refine wpStill_nil ?_
  go_wp2_with fail
  have hr := ((Hbr.out.keep (S := [t]) ((Keep.refl [t] w2).set (b := t) (by simp) tO none (.int .u8 (v : Int))) (by simp; exact qt) (by simp; exact Ne.symm tx) (by simp; exact Ne.symm td) (by simp; exact Ne.symm te)).setBo (P + nb)).setBi 0
  rw [show ((P + nb : Nat) : Int) = (P : Int) + (nb : Int) by omega] at hr
  refine (fillC q x d o n cap ea D _ (P + nb) 0 _ _ hr (by omega) hbo2).mono ?_
  rintro e w4 ⟨rfl, k4, h4⟩
  have hts : Blk w4 t (tcs.set tO (.int .u8 (v : Int))) := (((Ht2.out.set tO (.int .u8 (v : Int))).set_other (c := q) tq 2 none _).set_other (c := q) tq 3 none _).keep k4 (by simp; exact tq)
  have K4 : Keep [q, t] w w4 := ((((HK1.out.weaken (by simp)).trans HK2.out (by simp)).set (by simp) _ _ _).set (by simp) _ _ _).set (by simp) _ _ _ |>.trans k4 (by simp)
  have Hts := Lib.hid hts
  have H4 := Lib.hid h4
  clear hr h4 hts
  go_wp2
  go_ret
  rw [← Hv.out]
  exact ⟨rfl, K4, H4.out, Hts.out⟩
end Go.Proofs.YtlolcgklcnechaaGreatDoor
