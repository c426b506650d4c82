/- The bit writer: WriteAt, SkipBytes, WriteAligned, WriteVlqInt. The bit writer: WriteAligned, WriteVlqInt. -/
import Derived.Test.YtlolcgklcnechaaGreatDoorW5
set_option linter.unusedVariables false
namespace Go.Proofs.YtlolcgklcnechaaGreatDoor
open Go.RowKit

/-- An aligned writer, opened. -/
theorem BWA.aligned {w : World} {b p d L : Nat} {pre : List Nat} (h : BWA w b p d L pre 0 0) :
    ∃ data, BW w b p d 0 pre.length 0 data ∧ data.length = L ∧ data.take pre.length = pre := by
  obtain ⟨data, buf, bo, bi, q, hB, hL, hbo, hlen, hbuf, hX, htk⟩ := h
  have hq : q = 0 := by omega
  subst hq
  have : bi = 0 := by omega
  subst this
  simp at hbuf hbo
  subst hbuf hbo
  exact ⟨data, hB, hL, by simpa [leBytes] using htk⟩

theorem BWA.mk_aligned {w : World} {b p d L : Nat} {pre : List Nat} {data : List Nat} (hB : BW w b p d 0 pre.length 0 data) (hL : data.length = L) (ht : data.take pre.length = pre) :
    BWA w b p d L pre 0 0 := ⟨data, 0, pre.length, 0, 0, hB, hL, by simp, by simp, by simp, by simp, by simpa [leBytes] using ht⟩

set_option maxRecDepth 100000 in
set_option maxHeartbeats 400000 in
/-- BitWriter.WriteAt, of one byte into what is finished. -/
theorem bwWriteAtA (b p d L : Nat) (pre : List Nat) (X len : Nat) (w : World) (h : BWA w b p d L pre X len) (s so x off cap : Nat) (scs : List Value)
    (hs : Blk w s scs) (hsv : scs[so]? = some (.int .u8 (x : Int))) (h1 : ∀ v ∈ scs, v.oneCell' = true) (hoff : off < pre.length) (hcap : 1 ≤ cap) :
    Calls Tryz.prog 127 #[.pointer (some ⟨b, 0, none⟩), .slice (some ⟨s, so, none⟩) 1 cap, .int .i64 (off : Int)] w fun e w' =>
      e = .returned (.tuple #[.int .i64 1, .nilIface]) ∧ Keep [d] w w' ∧ BWA w' b p d L (pre.set off x) X len := by
  obtain ⟨data, buf, bo, bi, q, hB, hL, hbo, hlen, hbuf, hX, htk⟩ := h
  obtain ⟨⟨rest, hr1, hr2, hb⟩, hp, hd, bp, bd, pd, hdl, hbole, hbi⟩ := hB
  have hbod : off < data.length := by omega
  have hso : so < scs.length := by
    rcases Nat.lt_or_ge so scs.length with h | h
    · exact h
    · rw [List.getElem?_eq_none h] at hsv; cases hsv
  have c0 := hb.cell (i := 0) rfl
  have hme := method_WriteAt
  have Hh := Lib.hid htk
  have HL := Lib.hid hL
  have Hbo := Lib.hid hbo
  have Hlen := Lib.hid hlen
  have Hbuf := Lib.hid hbuf
  have Hsv := Lib.hid hsv
  clear htk hL hbo hlen hbuf hsv
  go_enter Tryz.func127, Tryz.ntmps127
  go_wp2_with fail
  refine (wabWriteAt p d s so off 1 _ _ cap _ _ w hp hd hs (by simp) (by simp) (by omega) (by omega) (by omega) (by omega) h1 hcap).mono ?_
  rintro e w1 ⟨rfl, k1, d1⟩
  go_wp2
  go_ret2
  have e1 : (scs.drop so).take 1 = rowV .u8 [x] := by
    have h2 := Hsv.out
    rw [List.getElem?_eq_getElem hso] at h2
    rw [List.drop_eq_getElem_cons hso]
    simp at h2
    simp [h2, rowV]
  rw [e1, ← rowV_splice] at d1
  have e2 : splice data off [x] = data.set off x := by
    rw [← setsAt_splice _ _ _ (by simp; omega)]; rfl
  rw [e2] at d1
  refine ⟨rfl, k1, data.set off x, buf, bo, bi, q, ⟨⟨rest, hr1, hr2, hb.keep k1 (by simp; exact bd)⟩, by simpa using hp.keep k1 (by simp; exact pd), d1, bp, bd, pd, by simpa using hdl, by simpa using hbole, hbi⟩, by simpa using HL.out,
    by simpa using Hbo.out, Hlen.out, Hbuf.out, hX, ?_⟩
  rw [List.take_set, Hh.out, List.set_append_left _ _ hoff]

set_option maxRecDepth 100000 in
set_option maxHeartbeats 400000 in
/-- SkipBytes(1): the place of a byte that is left. -/
theorem skipA (b p d L : Nat) (pre : List Nat) (X len : Nat) (w : World) (h : BWA w b p d L pre X len) (hfit : pre.length + (len + 7) / 8 + 1 ≤ L) :
    Calls Tryz.prog 126 #[.pointer (some ⟨b, 0, none⟩), .int .i64 1] w fun e w' =>
      e = .returned (.tuple #[.int .i64 ((pre.length + (len + 7) / 8 : Nat) : Int), .nilIface]) ∧ Keep [b, d] w w' ∧ ∃ x, BWA w' b p d L (pre ++ leBytes ((len + 7) / 8) X ++ [x]) 0 0 := by
  have hme := method_Reserve
  have Hn := Lib.hid hfit
  clear hfit
  go_enter Tryz.func126, Tryz.ntmps126
  go_wp2_with fail
  refine (flushA true b p d L pre X len w h (by have := Hn.out; omega)).mono ?_
  rintro e w1 ⟨rfl, k1, hA, -⟩
  simp only [if_true] at hA
  obtain ⟨data, hB, hL, ht⟩ := hA.aligned
  obtain ⟨⟨rest, hr1, hr2, hb⟩, hp, hd, bp, bd, pd, hdl, hbole, hbi⟩ := hB
  obtain ⟨bo, hbo⟩ : ∃ bo, bo = (pre ++ leBytes ((len + 7) / 8) X).length := ⟨_, rfl⟩
  have hfit : bo + 1 ≤ data.length := by have := Hn.out; rw [hL, hbo]; simp; omega
  have hbo2 : bo = pre.length + (len + 7) / 8 := by rw [hbo]; simp
  rw [← hbo] at hb ht hbole
  have c0 := hb.cell (i := 0) rfl
  have c2 := hb.cell (i := 2) rfl
  have hf := hb.unfrozen
  have Hbo := Lib.hid hbo
  have Hbo2 := Lib.hid hbo2
  have Ht := Lib.hid ht
  have HL := Lib.hid hL
  clear hbo hbo2 ht hL
  go_wp2_with fail
  refine wp_region_mid 10 (by kernel_rfl) (by kernel_rfl) ?_
  simp only [List.take_succ_cons, List.take_zero, List.drop_succ_cons, List.drop_zero]
  change wpStill _ _ (World.drew _) _ _ _
  repeat still_step
  refine wpStill_nil ?_
  go_wp2_with fail
  refine (wabReserve _ _ _).mono ?_
  rintro e w2 ⟨rfl, rfl⟩
  go_wp2_with fail
  repeat still_step
  refine wpStill_nil ?_
  go_wp2
  go_ret2
  refine ⟨by rw [Hbo2.out]; rfl, (k1.set (by simp) _ _ _).drew, data[bo], ?_⟩
  have e2 : data.take (bo + 1) = pre ++ leBytes ((len + 7) / 8) X ++ [data[bo]] := by
    rw [List.take_succ_eq_append_getElem (by omega), Ht.out]
  refine BWA.mk_aligned (data := data) ⟨⟨rest, hr1, hr2, ?_⟩, (hp.set_other (Ne.symm bp) _ _ _).drew, (hd.set_other (Ne.symm bd) _ _ _).drew, bp, bd, pd, hdl, ?_, by omega⟩ HL.out ?_
  · have e3 : (pre ++ leBytes ((len + 7) / 8) X ++ [data[bo]]).length = bo + 1 := by rw [List.length_append, ← Hbo.out]; simp
    rw [e3]
    have := (hb.set 2 (.int .i64 ((bo : Int) + 1))).drew
    simpa [bwCells] using this
  · rw [List.length_append, ← Hbo.out]; simpa using hfit
  · rw [List.length_append, ← Hbo.out]; simpa using e2
end Go.Proofs.YtlolcgklcnechaaGreatDoor
set_option linter.unusedVariables false
namespace Go.Proofs.YtlolcgklcnechaaGreatDoor
open Go.RowKit

set_option maxRecDepth 100000 in
set_option maxHeartbeats 1000000 in
theorem writeAlignedA (b p d L : Nat) (pre : List Nat) (X len : Nat) (w : World) (h : BWA w b p d L pre X len) (v n : Nat) (hn0 : 0 < n) (hn8 : n ≤ 8)
    (hfit : pre.length + (len + 7) / 8 + n ≤ L) :
    Calls Tryz.prog 125 #[.pointer (some ⟨b, 0, none⟩), .int .u64 (v : Int), .int .i64 (n : Int)] w fun e w' =>
      e = .returned (.bool true) ∧ Keep [b, d] w w' ∧ BWA w' b p d L (pre ++ leBytes ((len + 7) / 8) X ++ leBytes n v) 0 0 := by
  have hme := method_WriteAt
  have hleg := le_global
  have i0 : (0 : Int) ≤ (n : Int) := by omega
  have i8 : (n : Int) ≤ 8 := by omega
  have Hn := Lib.hid hfit
  clear hfit
  go_enter Tryz.func125, Tryz.ntmps125
  go_wp2_with fail
  refine (flushA true b p d L pre X len w h (by have := Hn.out; omega)).mono ?_
  rintro e w1 ⟨rfl, k1, hA, -⟩
  simp only [if_true] at hA
  obtain ⟨data, hB, hL, ht⟩ := hA.aligned
  obtain ⟨⟨rest, hr1, hr2, hb⟩, hp, hd, bp, bd, pd, hdl, hbole, hbi⟩ := hB
  obtain ⟨bo, hbo⟩ : ∃ bo, bo = (pre ++ leBytes ((len + 7) / 8) X).length := ⟨_, rfl⟩
  have hfit : bo + n ≤ data.length := by have := Hn.out; rw [hL, hbo]; simp; omega
  rw [← hbo] at hb ht hbole
  have c0 := hb.cell (i := 0) rfl
  have c1 := hb.cell (i := 1) rfl
  have c2 := hb.cell (i := 2) rfl
  have c3 := hb.cell (i := 3) rfl
  have hf := hb.unfrozen
  have Hbo := Lib.hid hbo
  have Ht := Lib.hid ht
  have HL := Lib.hid hL
  clear hbo ht hL h hA
  go_wp2_with fail
  refine wp_region_mid 6 (by kernel_rfl) (by kernel_rfl) ?_
  simp only [List.take_succ_cons, List.take_zero, List.drop_succ_cons, List.drop_zero]
  change wpStill _ _ (World.drew _) _ _ _
  repeat still_step
  refine wpStill_nil ?_
  go_wp2_with fail
  refine (put64 b 4 8 8 v _ _ hb.drew (by simp [bwCells]; omega) (by omega) (by omega)).mono ?_
  rintro e w2 ⟨rfl, k2, b2⟩
  have b2' : Blk w2 b (bwCells p 0 bo 0 (rowV .u8 (leBytes 8 v) ++ rest.drop 8)) := by
    simpa [bwCells, splice] using b2
  have K2 : Keep [b] w1 w2 := (Keep.refl [b] w1).drew.trans k2 (by simp)
  have one : ∀ v' ∈ rowV .u8 (leBytes 8 v) ++ rest.drop 8, v'.oneCell' = true := by
    intro x hx
    simp only [List.mem_append] at hx
    rcases hx with hx | hx
    · exact one_rowV _ _ _ hx
    · exact hr2 _ (List.mem_of_mem_drop hx)
  have Hone := Lib.hid one
  clear one b2 k2 c0 c1 c2 c3 hf
  have c0 := b2'.cell (i := 0) rfl
  have c1 := b2'.cell (i := 1) rfl
  have c2 := b2'.cell (i := 2) rfl
  have c3 := b2'.cell (i := 3) rfl
  have hf := b2'.unfrozen
  go_wp2_with fail
  repeat still_step
  refine wpStill_nil ?_
  go_wp2_with fail
  refine wp_region_mid 15 (by kernel_rfl) (by kernel_rfl) ?_
  simp only [List.take_succ_cons, List.take_zero, List.drop_succ_cons, List.drop_zero]
  change wpStill _ _ (World.drew _) _ _ _
  repeat still_step
  refine wpStill_nil ?_
  go_wp2_with fail
  refine (wabWriteAt p d b 4 bo n _ _ 8 _ _ w2.drew (hp.keep K2 (by simp; exact Ne.symm bp)).drew (hd.keep K2 (by simp; exact Ne.symm bd)).drew b2'.drew
    (by simp) (by simp) (by omega) (by omega) (by omega) (by simp [bwCells]; omega) (one_bwCells Hone.out) (by omega)).mono ?_
  rintro e w3 ⟨rfl, k3, d3⟩
  have b3 := b2'.drew.keep k3 (by simp; exact bd)
  have K3 : Keep [b, d] w1 w3 := (K2.drew.weaken (by simp)).trans k3 (by simp)
  have e3 : List.take n (List.drop 4 (bwCells p 0 bo 0 (rowV IntKind.u8 (leBytes 8 v) ++ List.drop 8 rest))) = rowV .u8 (leBytes n v) := by
    rw [← le8_take n v hn8, rowV_take]
    simp [bwCells, List.take_append, show n - 8 = 0 by omega]
  rw [e3, ← rowV_splice] at d3
  clear k3 e3 c0 c1 c2 c3 hf
  have c0 := b3.cell (i := 0) rfl
  have c1 := b3.cell (i := 1) rfl
  have c2 := b3.cell (i := 2) rfl
  have c3 := b3.cell (i := 3) rfl
  have hf := b3.unfrozen
  go_wp2_with fail
  repeat still_step
  refine wpStill_nil ?_
  go_wp2
  go_ret
  have hl : (splice data bo (leBytes n v)).length = data.length := length_splice _ _ _ (by simpa using hfit)
  have et := take_splice_end data bo (leBytes n v) hbole
  simp only [length_leBytes] at et
  have elen : (pre ++ leBytes ((len + 7) / 8) X ++ leBytes n v).length = bo + n := by rw [List.length_append, ← Hbo.out]; simp
  refine ⟨rfl, k1.trans (K3.set (by simp) _ _ _) (by simp), BWA.mk_aligned (data := splice data bo (leBytes n v)) ⟨⟨_, ?_, Hone.out, ?_⟩, ?_, ?_, bp, bd, pd, by rw [hl]; exact hdl, by rw [hl, elen]; exact hfit, by omega⟩ (by rw [hl]; exact HL.out) ?_⟩
  · simp; omega
  · rw [elen]
    have := b3.set 2 (.int .i64 ((bo : Int) + n))
    simpa [bwCells] using this
  · rw [hl]; exact (hp.keep K3 (by simp; exact ⟨Ne.symm bp, pd⟩)).set_other (Ne.symm bp) _ _ _
  · exact d3.set_other (Ne.symm bd) _ _ _
  · rw [elen, et, Ht.out]

set_option maxRecDepth 100000 in
set_option maxHeartbeats 1000000 in
theorem writeVlqA (b p d L : Nat) (pre : List Nat) (X len : Nat) (w : World) (h : BWA w b p d L pre X len) (v : Nat) (hv : v < 18446744073709551616)
    (hfit : pre.length + (len + 7) / 8 + (vlq v).length ≤ L) :
    Calls Tryz.prog 124 #[.pointer (some ⟨b, 0, none⟩), .int .u64 (v : Int)] w fun e w' =>
      e = .returned (.bool true) ∧ Keep [b, d] w w' ∧ BWA w' b p d L (pre ++ leBytes ((len + 7) / 8) X ++ vlq v) 0 0 := by
  obtain ⟨n, hn⟩ : ∃ n, n = (vlq v).length := ⟨_, rfl⟩
  have hn8 : n ≤ 10 := by
    rw [hn]; exact vlq_length 9 v (Nat.lt_of_lt_of_le hv (by decide))
  have hn0 : 0 < n := by rw [hn]; exact vlq_pos v
  rw [← hn] at hfit
  have Hv : Hid (v < 18446744073709551616) := Lib.hid hv
  have HN := Lib.hid hn
  clear hv hn
  have hme := method_WriteAt
  have i0 : (0 : Int) ≤ (n : Int) := by omega
  have i8 : (n : Int) ≤ 10 := by omega
  have Hn := Lib.hid hfit
  clear hfit
  go_enter Tryz.func124, Tryz.ntmps124
  go_wp2_with fail
  refine (flushA true b p d L pre X len w h (by have := Hn.out; omega)).mono ?_
  rintro e w1 ⟨rfl, k1, hA, -⟩
  simp only [if_true] at hA
  obtain ⟨data, hB, hL, ht⟩ := hA.aligned
  obtain ⟨⟨rest, hr1, hr2, hb⟩, hp, hd, bp, bd, pd, hdl, hbole, hbi⟩ := hB
  obtain ⟨bo, hbo⟩ : ∃ bo, bo = (pre ++ leBytes ((len + 7) / 8) X).length := ⟨_, rfl⟩
  have hfit : bo + n ≤ data.length := by have := Hn.out; rw [hL, hbo]; simp; omega
  rw [← hbo] at hb ht hbole
  have c0 := hb.cell (i := 0) rfl
  have c1 := hb.cell (i := 1) rfl
  have c2 := hb.cell (i := 2) rfl
  have c3 := hb.cell (i := 3) rfl
  have hf := hb.unfrozen
  have Hbo := Lib.hid hbo
  have Ht := Lib.hid ht
  have HL := Lib.hid hL
  clear hbo ht hL h hA
  go_wp2_with fail
  refine (putUvarint b 12 10 10 v _ w1 hb (by rw [← HN.out]; simp [bwCells]; omega) (by rw [← HN.out]; exact hn8) (by omega) Hv.out).mono ?_
  rw [← HN.out]
  rintro e w2 ⟨rfl, K2, b2⟩
  have hvl : (rowV .u8 (vlq v)).length = n := by rw [length_rowV, HN.out]
  have b2' : Blk w2 b (bwCells p 0 bo 0 (splice rest 8 (rowV .u8 (vlq v)))) := by
    have e : splice (bwCells p 0 bo 0 rest) 12 (rowV .u8 (vlq v)) = bwCells p 0 bo 0 (splice rest 8 (rowV .u8 (vlq v))) := by
      unfold splice bwCells
      rw [hvl, show 12 + n = (8 + n) + 1 + 1 + 1 + 1 by omega]
      simp
    rw [← e]; exact b2
  have hrl : (splice rest 8 (rowV .u8 (vlq v))).length = 18 := by rw [length_splice _ _ _ (by rw [hvl]; omega), hr1]
  have one : ∀ v' ∈ splice rest 8 (rowV .u8 (vlq v)), v'.oneCell' = true := by
    intro x hx
    simp only [splice, List.mem_append] at hx
    rcases hx with hx | hx | hx
    · exact hr2 _ (List.mem_of_mem_take hx)
    · exact one_rowV _ _ _ hx
    · exact hr2 _ (List.mem_of_mem_drop hx)
  have Hone := Lib.hid one
  have Hvl := Lib.hid hvl
  have Hrl := Lib.hid hrl
  clear one b2 c0 c1 c2 c3 hf hvl hrl
  have c0 := b2'.cell (i := 0) rfl
  have c1 := b2'.cell (i := 1) rfl
  have c2 := b2'.cell (i := 2) rfl
  have c3 := b2'.cell (i := 3) rfl
  have hf := b2'.unfrozen
  go_wp2_with fail
  refine wp_region_mid 15 (by kernel_rfl) (by kernel_rfl) ?_
  simp only [List.take_succ_cons, List.take_zero, List.drop_succ_cons, List.drop_zero]
  change wpStill _ _ (World.drew _) _ _ _
  repeat still_step
  refine wpStill_nil ?_
  go_wp2_with fail
  refine (wabWriteAt p d b 12 bo n _ _ 10 _ _ w2.drew (hp.keep K2 (by simp; exact Ne.symm bp)).drew (hd.keep K2 (by simp; exact Ne.symm bd)).drew b2'.drew
    (by simp) (by simp) (by omega) (by omega) (by omega) (by have := Hrl.out; simp [bwCells]; omega) (one_bwCells Hone.out) (by omega)).mono ?_
  rintro e w3 ⟨rfl, k3, d3⟩
  have b3 := b2'.drew.keep k3 (by simp; exact bd)
  have K3 : Keep [b, d] w1 w3 := (K2.drew.weaken (by simp)).trans k3 (by simp)
  have e3 : List.take n (List.drop 12 (bwCells p 0 bo 0 (splice rest 8 (rowV .u8 (vlq v))))) = rowV .u8 (vlq v) := by
    have h1 := Hvl.out
    have h2 : (rest.take 8).length = 8 := by simp; omega
    unfold splice bwCells
    rw [show (12 : Nat) = 8 + 4 by rfl]
    simp only [List.drop_succ_cons]
    rw [List.drop_append_of_le_length (by omega), List.drop_of_length_le (by omega), List.nil_append, List.take_append_of_le_length (by omega), List.take_of_length_le (by omega)]
  rw [e3, ← rowV_splice] at d3
  clear k3 e3 c0 c1 c2 c3 hf
  have c0 := b3.cell (i := 0) rfl
  have c1 := b3.cell (i := 1) rfl
  have c2 := b3.cell (i := 2) rfl
  have c3 := b3.cell (i := 3) rfl
  have hf := b3.unfrozen
  go_wp2_with fail
  repeat still_step
  refine wpStill_nil ?_
  go_wp2
  go_ret
  have hvl' : (vlq v).length = n := HN.out.symm
  have hl : (splice data bo (vlq v)).length = data.length := length_splice _ _ _ (by rw [hvl']; exact hfit)
  have et := take_splice_end data bo (vlq v) hbole
  rw [hvl'] at et
  have elen : (pre ++ leBytes ((len + 7) / 8) X ++ vlq v).length = bo + n := by rw [List.length_append, ← Hbo.out, hvl']
  refine ⟨rfl, k1.trans (K3.set (by simp) _ _ _) (by simp), BWA.mk_aligned (data := splice data bo (vlq v)) ⟨⟨_, Hrl.out, Hone.out, ?_⟩, ?_, ?_, bp, bd, pd, by rw [hl]; exact hdl, by rw [hl, elen]; exact hfit, by omega⟩ (by rw [hl]; exact HL.out) ?_⟩
  · rw [elen]
    have := b3.set 2 (.int .i64 ((bo : Int) + n))
    simpa [bwCells] using this
  · rw [hl]; exact (hp.keep K3 (by simp; exact ⟨Ne.symm bp, pd⟩)).set_other (Ne.symm bp) _ _ _
  · exact d3.set_other (Ne.symm bd) _ _ _
  · rw [elen, et, Ht.out]
end Go.Proofs.YtlolcgklcnechaaGreatDoor
