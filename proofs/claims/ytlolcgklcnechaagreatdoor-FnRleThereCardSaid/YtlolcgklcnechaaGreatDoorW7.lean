/- The bit writer: WriteAt, SkipBytes, WriteAligned, WriteVlqInt. -/
import Derived.Test.YtlolcgklcnechaaGreatDoorW6
set_option linter.unusedVariables false
namespace Go.Proofs.YtlolcgklcnechaaGreatDoor
open Go.RowKit

/-- An aligned writer, opened. -/
theorem BWA.aligned {w : World} {b p d L : Nat} {pre : List Nat} (h : BWA w b p d L pre 0 0) :
    ∃ data, BW w b p d 0 pre.length 0 data ∧ data.length = L ∧ data.take pre.length = pre := by
  obtain ⟨data, buf, bo, bi, q, hB, hL, hbo, hlen, hbuf, hX, htk⟩ := h
  have hq : q = 0 := by omega
  subst hq
  have : bi = 0 := by omega
  subst this
  simp at hbuf hbo
  subst hbuf hbo
  exact ⟨data, hB, hL, by simpa [leBytes] using htk⟩

theorem BWA.mk_aligned {w : World} {b p d L : Nat} {pre : List Nat} {data : List Nat} (hB : BW w b p d 0 pre.length 0 data) (hL : data.length = L) (ht : data.take pre.length = pre) :
    BWA w b p d L pre 0 0 := ⟨data, 0, pre.length, 0, 0, hB, hL, by simp, by simp, by simp, by simp, by simpa [leBytes] using ht⟩

set_option maxRecDepth 100000 in
set_option maxHeartbeats 400000 in
/-- BitWriter.WriteAt, of one byte into what is finished. -/
theorem bwWriteAtA (b p d L : Nat) (pre : List Nat) (X len : Nat) (w : World) (h : BWA w b p d L pre X len) (s so x off cap : Nat) (scs : List Value)
    (hs : Blk w s scs) (hsv : scs[so]? = some (.int .u8 (x : Int))) (h1 : ∀ v ∈ scs, v.oneCell' = true) (hoff : off < pre.length) (hcap : 1 ≤ cap) :
    Calls Tryz.prog 127 #[.pointer (some ⟨b, 0, none⟩), .slice (some ⟨s, so, none⟩) 1 cap, .int .i64 (off : Int)] w fun e w' =>
      e = .returned (.tuple #[.int .i64 1, .nilIface]) ∧ Keep [d] w w' ∧ BWA w' b p d L (pre.set off x) X len := by
  obtain ⟨data, buf, bo, bi, q, hB, hL, hbo, hlen, hbuf, hX, htk⟩ := h
  obtain ⟨⟨rest, hr1, hr2, hb⟩, hp, hd, bp, bd, pd, hdl, hbole, hbi⟩ := hB
  have hbod : off < data.length := by omega
  have hso : so < scs.length := by
    rcases Nat.lt_or_ge so scs.length with h | h
    · exact h
    · rw [List.getElem?_eq_none h] at hsv; cases hsv
  have c0 := hb.cell (i := 0) rfl
  have hme := method_WriteAt
  have Hh := Lib.hid htk
  have HL := Lib.hid hL
  have Hbo := Lib.hid hbo
  have Hlen := Lib.hid hlen
  have Hbuf := Lib.hid hbuf
  have Hsv := Lib.hid hsv
  clear htk hL hbo hlen hbuf hsv
  go_enter Tryz.func127, Tryz.ntmps127
  go_wp2_with fail
  refine (wabWriteAt p d s so off 1 _ _ cap _ _ w hp hd hs (by simp) (by simp) (by omega) (by omega) (by omega) (by omega) h1 hcap).mono ?_
  rintro e w1 ⟨rfl, k1, d1⟩
  go_wp2
  go_ret2
  have e1 : (scs.drop so).take 1 = rowV .u8 [x] := by
    have h2 := Hsv.out
    rw [List.getElem?_eq_getElem hso] at h2
    rw [List.drop_eq_getElem_cons hso]
    simp at h2
    simp [h2, rowV]
  rw [e1, ← rowV_splice] at d1
  have e2 : splice data off [x] = data.set off x := by
    rw [← setsAt_splice _ _ _ (by simp; omega)]; rfl
  rw [e2] at d1
  refine ⟨rfl, k1, data.set off x, buf, bo, bi, q, ⟨⟨rest, hr1, hr2, hb.keep k1 (by simp; exact bd)⟩, by simpa using hp.keep k1 (by simp; exact pd), d1, bp, bd, pd, by simpa using hdl, by simpa using hbole, hbi⟩, by simpa using HL.out,
    by simpa using Hbo.out, Hlen.out, Hbuf.out, hX, ?_⟩
  rw [List.take_set, Hh.out, List.set_append_left _ _ hoff]

set_option maxRecDepth 100000 in
set_option maxHeartbeats 400000 in
/-- SkipBytes(1): the place of a byte that is left. -/
theorem skipA (b p d L : Nat) (pre : List Nat) (X len : Nat) (w : World) (h : BWA w b p d L pre X len) (hfit : pre.length + (len + 7) / 8 + 1 ≤ L) :
    Calls Tryz.prog 126 #[.pointer (some ⟨b, 0, none⟩), .int .i64 1] w fun e w' =>
      e = .returned (.tuple #[.int .i64 ((pre.length + (len + 7) / 8 : Nat) : Int), .nilIface]) ∧ Keep [b, d] w w' ∧ ∃ x, BWA w' b p d L (pre ++ leBytes ((len + 7) / 8) X ++ [x]) 0 0 := by
  have hme := method_Reserve
  have Hn := Lib.hid hfit
  clear hfit
  go_enter Tryz.func126, Tryz.ntmps126
  go_wp2_with fail
  refine (flushA true b p d L pre X len w h (by have := Hn.out; omega)).mono ?_
  rintro e w1 ⟨rfl, k1, hA, -⟩
  simp only [if_true] at hA
  obtain ⟨data, hB, hL, ht⟩ := hA.aligned
  obtain ⟨⟨rest, hr1, hr2, hb⟩, hp, hd, bp, bd, pd, hdl, hbole, hbi⟩ := hB
  obtain ⟨bo, hbo⟩ : ∃ bo, bo = (pre ++ leBytes ((len + 7) / 8) X).length := ⟨_, rfl⟩
  have hfit : bo + 1 ≤ data.length := by have := Hn.out; rw [hL, hbo]; simp; omega
  have hbo2 : bo = pre.length + (len + 7) / 8 := by rw [hbo]; simp
  rw [← hbo] at hb ht hbole
  have c0 := hb.cell (i := 0) rfl
  have c2 := hb.cell (i := 2) rfl
  have hf := hb.unfrozen
  have Hbo := Lib.hid hbo
  have Hbo2 := Lib.hid hbo2
  have Ht := Lib.hid ht
  have HL := Lib.hid hL
  clear hbo hbo2 ht hL
  go_wp2_with fail
  refine wp_region_mid 10 (by kernel_rfl) (by kernel_rfl) ?_
  simp only [List.take_succ_cons, List.take_zero, List.drop_succ_cons, List.drop_zero]
  change wpStill _ _ (World.drew _) _ _ _
  repeat still_step
  refine wpStill_nil ?_
  go_wp2_with fail
  refine (wabReserve _ _ _).mono ?_
  rintro e w2 ⟨rfl, rfl⟩
  go_wp2_with fail
  repeat still_step
  refine wpStill_nil ?_
  go_wp2
  go_ret2
  refine ⟨by rw [Hbo2.out]; rfl, (k1.set (by simp) _ _ _).drew, data[bo], ?_⟩
  have e2 : data.take (bo + 1) = pre ++ leBytes ((len + 7) / 8) X ++ [data[bo]] := by
    rw [List.take_succ_eq_append_getElem (by omega), Ht.out]
  refine BWA.mk_aligned (data := data) ⟨⟨rest, hr1, hr2, ?_⟩, (hp.set_other (Ne.symm bp) _ _ _).drew, (hd.set_other (Ne.symm bd) _ _ _).drew, bp, bd, pd, hdl, ?_, by omega⟩ HL.out ?_
  · have e3 : (pre ++ leBytes ((len + 7) / 8) X ++ [data[bo]]).length = bo + 1 := by rw [List.length_append, ← Hbo.out]; simp
    rw [e3]
    have := (hb.set 2 (.int .i64 ((bo : Int) + 1))).drew
    simpa [bwCells] using this
  · rw [List.length_append, ← Hbo.out]; simpa using hfit
  · rw [List.length_append, ← Hbo.out]; simpa using e2
end Go.Proofs.YtlolcgklcnechaaGreatDoor
