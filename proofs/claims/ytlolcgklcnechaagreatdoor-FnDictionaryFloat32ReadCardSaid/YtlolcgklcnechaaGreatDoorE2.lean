/- The RLE encoder: flushLiteral in one contract, flushRepeated, flushBuffered. -/
import Derived.Test.YtlolcgklcnechaaGreatDoorE1
set_option linter.unusedVariables false
namespace Go.Proofs.YtlolcgklcnechaaGreatDoor
open Go.RowKit

/-- flushLiteral: the buffered values are written; closed, the run is finished. -/
theorem flushLit (up : Bool) (r b p d g L W cur rep lit : Nat) (buf done : List Nat) (o : Option (List Nat)) (w : World) (h : EncAt w r b p d g L W cur rep lit buf done o)
    (hW : W ≤ 64) (hsmall : ∀ v ∈ buf, v < 2 ^ W) (hroom : done.length + 1 + W * ((o.getD []).length + buf.length) / 8 ≤ L) (h8 : buf.length % 8 = 0)
    (hlit : lit = (o.getD []).length + buf.length) (hlit2 : lit / 8 ≤ 127) :
    Calls Tryz.prog 87 #[.pointer (some ⟨r, 0, none⟩), .bool up] w fun e w' =>
      e = .returned .nilIface ∧ Keep [r, b, d] w w' ∧ (if up then EncAt w' r b p d g L W cur rep 0 [] (done ++ (2 * (lit / 8) + 1) :: leBytes (W * lit / 8) (packN W (o.getD [] ++ buf))) none
        else EncAt w' r b p d g L W cur rep lit [] done (some (o.getD [] ++ buf))) := by
  cases o with
  | none =>
    cases up
    · simpa using flushLit_closed_false r b p d g L W cur rep lit buf done w h hW hsmall (by simpa using hroom) h8
    · simpa using flushLit_closed_true r b p d g L W cur rep lit buf done w h hW hsmall (by simpa using hroom) h8 (by simpa using hlit) hlit2
  | some l =>
    have hl8 : l.length % 8 = 0 := by obtain ⟨x, h1, -⟩ := h; exact h1
    cases up
    · simpa using flushLit_open_false r b p d g L W cur rep lit buf done l w h hW hsmall (by simpa using hroom) (by omega)
    · simpa using flushLit_open_true r b p d g L W cur rep lit buf done l w h hW hsmall (by simpa using hroom) (by omega) (by simpa using hlit) hlit2

set_option maxRecDepth 100000 in
set_option maxHeartbeats 1000000 in
theorem flushRep (r b p d g L W cur rep lit : Nat) (buf done : List Nat) (w : World) (h : EncAt w r b p d g L W cur rep lit buf done none)
    (hW0 : 0 < W) (hW : W ≤ 64) (hrep : rep < 1000000) (hroom : done.length + (vlq (2 * rep)).length + (W + 7) / 8 ≤ L) :
    Calls Tryz.prog 85 #[.pointer (some ⟨r, 0, none⟩)] w fun e w' =>
      e = .returned (.bool true) ∧ Keep [r, b, d] w w' ∧ EncAt w' r b p d g L W cur 0 lit [] (done ++ vlq (2 * rep) ++ leBytes ((W + 7) / 8) cur) none := by
  obtain ⟨pre, X, len, hlen8, hdone, ⟨xx, hb0⟩, ⟨cells, hc8, hcells, hg0⟩, hB0, rb, rp, rd, rg, gb, gp, gd, bl8⟩ := h
  obtain ⟨nb, hnb⟩ : ∃ nb, nb = (W + 7) / 8 := ⟨_, rfl⟩
  rw [← hnb] at hroom ⊢
  have hlen : (len + 7) / 8 = len / 8 := by omega
  have hdl : pre.length + (len + 7) / 8 = done.length := by rw [hdone]; simp; omega
  have hn0 : 0 < nb := by omega
  have hn8 : nb ≤ 8 := by omega
  have Hdone := Lib.hid hdone
  have Hdl := Lib.hid hdl
  have Hlen := Lib.hid hlen
  have Hroom := Lib.hid hroom
  have Hnb := Lib.hid hnb
  have Hc8 := Lib.hid hc8
  have HW := IntWalk.u64_in (rep : Int) (by omega)
  clear hdone hdl hlen hlen8 hroom hc8 hcells hnb
  have c0 := hb0.cell (i := 0) rfl
  have c2 := hb0.cell (i := 2) rfl
  have c3 := hb0.cell (i := 3) rfl
  have c4 := hb0.cell (i := 4) rfl
  go_enter Tryz.func85, Tryz.ntmps85
  go_wp2_with fail
  rw [show ((rep : Int) * 2) = ((2 * rep : Nat) : Int) by omega]
  refine (writeVlqA b p d L pre X len w hB0 (2 * rep) (by omega) (by rw [Hdl.out]; have := Hroom.out; omega)).mono ?_
  rw [Hlen.out, ← Hdone.out]
  rintro e w1 ⟨rfl, k1, hB1⟩
  have hb1 := hb0.keep k1 (by simp; exact ⟨rb, rd⟩)
  have hg1 := hg0.keep k1 (by simp; exact ⟨gb, gd⟩)
  clear c0 c2 c3 c4
  have c0 := hb1.cell (i := 0) rfl
  have c1 := hb1.cell (i := 1) rfl
  have c2 := hb1.cell (i := 2) rfl
  have c3 := hb1.cell (i := 3) rfl
  have c4 := hb1.cell (i := 4) rfl
  go_wp2_with fail
  refine wp_region_mid 15 (by kernel_rfl) (by kernel_rfl) ?_
  simp only [List.take_succ_cons, List.take_zero, List.drop_succ_cons, List.drop_zero]
  change wpStill _ _ (World.drew _) _ _ _
  repeat still_step
  still_call (flipW (bytesForBitsN W nb _ Hnb.out (by omega)))
  repeat still_step
  refine wpStill_nil ?_
  go_wp2_with fail
  refine (writeAlignedA b p d L _ 0 0 w1.drew hB1.drew cur nb hn0 hn8 (by have := Hroom.out; simp; omega)).mono ?_
  rintro e w2 ⟨rfl, k2, hB2⟩
  have hB3 : BWA w2 b p d L (done ++ vlq (2 * rep) ++ leBytes nb cur) 0 0 := by simpa [leBytes] using hB2
  have hb2 := hb1.drew.keep k2 (by simp; exact ⟨rb, rd⟩)
  have hg2 := hg1.drew.keep k2 (by simp; exact ⟨gb, gd⟩)
  have K2 : Keep [r, b, d] w w2 := ((k1.drew).trans k2 (by simp)).weaken (by simp)
  clear c0 c1 c2 c3 c4 hB2
  have c0 := hb2.cell (i := 0) rfl
  have c1 := hb2.cell (i := 1) rfl
  have c4 := hb2.cell (i := 4) rfl
  have hf := hb2.unfrozen
  go_wp2_with fail
  repeat still_step
  refine wpStill_nil ?_
  go_wp2
  go_ret
  refine ⟨rfl, (K2.set (by simp) _ _ _).set (by simp) _ _ _, done ++ vlq (2 * rep) ++ leBytes nb cur, 0, 0, rfl, by simp [leBytes], RE.of (cells := cells) (x := xx) ?_ Hc8.out (by simp) ?_ ?_ rb rp rd rg gb gp gd (by simp)⟩
  · have := (hb2.set 4 (.int .i32 0)).set 1 (.slice (some ⟨g, 0, none⟩) 0 8)
    simpa [reCells] using this
  · exact (hg2.set_other (Ne.symm rg) _ _ _).set_other (Ne.symm rg) _ _ _
  · exact hB3.keep (S := [r]) (((Keep.refl _ w2).set (b := r) (by simp) 4 none _).set (b := r) (by simp) 1 none _) (by simp; exact Ne.symm rb) (by simp; exact Ne.symm rp) (by simp; exact Ne.symm rd)

theorem EncAt.lits_lt {w : World} {r b p d g L W cur rep lit : Nat} {buf done : List Nat} {o : Option (List Nat)} (h : EncAt w r b p d g L W cur rep lit buf done o) : buf.length ≤ 8 := by
  cases o with
  | none => obtain ⟨_, _, _, _, _, h⟩ := h; exact h.bl8
  | some l => obtain ⟨_, _, h⟩ := h; exact h.bl8

/-- The encoder's cells, whatever the run. -/
theorem EncAt.opened {w : World} {r b p d g L W cur rep lit : Nat} {buf done : List Nat} {o : Option (List Nat)} (h : EncAt w r b p d g L W cur rep lit buf done o) :
    ∃ ind x cells, Blk w r (reCells b g buf.length W cur rep lit ind x) ∧ cells.length = 8 ∧ cells.take buf.length = buf ∧ Blk w g (rowV .u64 cells) ∧ r ≠ b ∧ r ≠ p ∧ r ≠ d ∧ r ≠ g ∧ g ≠ b ∧ g ≠ p ∧ g ≠ d ∧ buf.length ≤ 8 ∧
      ∀ (w' : World) (cur' rep' lit' : Nat) (buf' cells' : List Nat), Keep [r, g] w w' → Blk w' r (reCells b g buf'.length W cur' rep' lit' ind x) → cells'.length = 8 → cells'.take buf'.length = buf' → Blk w' g (rowV .u64 cells') → buf'.length ≤ 8 →
        EncAt w' r b p d g L W cur' rep' lit' buf' done o := by
  cases o with
  | none =>
    obtain ⟨pre, X, len, h1, h2, ⟨x, hr⟩, ⟨cells, hc8, ht, hg⟩, hB, rb, rp, rd, rg, gb, gp, gd, bl8⟩ := h
    refine ⟨_, x, cells, hr, hc8, ht, hg, rb, rp, rd, rg, gb, gp, gd, bl8, fun w' cur' rep' lit' buf' cells' k hr' h8' ht' hg' hb' => ?_⟩
    exact ⟨pre, X, len, h1, h2, RE.of hr' h8' ht' hg' (hB.keep k (by simp; exact ⟨Ne.symm rb, Ne.symm gb⟩) (by simp; exact ⟨Ne.symm rp, Ne.symm gp⟩) (by simp; exact ⟨Ne.symm rd, Ne.symm gd⟩)) rb rp rd rg gb gp gd hb'⟩
  | some l =>
    obtain ⟨x1, h1, ⟨x, hr⟩, ⟨cells, hc8, ht, hg⟩, hB, rb, rp, rd, rg, gb, gp, gd, bl8⟩ := h
    refine ⟨_, x, cells, hr, hc8, ht, hg, rb, rp, rd, rg, gb, gp, gd, bl8, fun w' cur' rep' lit' buf' cells' k hr' h8' ht' hg' hb' => ?_⟩
    exact ⟨x1, h1, RE.of hr' h8' ht' hg' (hB.keep k (by simp; exact ⟨Ne.symm rb, Ne.symm gb⟩) (by simp; exact ⟨Ne.symm rp, Ne.symm gp⟩) (by simp; exact ⟨Ne.symm rd, Ne.symm gd⟩)) rb rp rd rg gb gp gd hb'⟩

theorem EncAt.setRep {w : World} {r b p d g L W cur rep lit : Nat} {buf done : List Nat} {o : Option (List Nat)} (h : EncAt w r b p d g L W cur rep lit buf done o) (n : Nat) :
    EncAt (w.setCell ⟨r, 4, none⟩ (.int .i32 (n : Int))) r b p d g L W cur n lit buf done o := by
  obtain ⟨ind, x, cells, hr, hc8, hcells, hg, rb, rp, rd, rg, gb, gp, gd, bl8, back⟩ := h.opened
  refine back _ cur n lit buf cells ((Keep.refl _ _).set (by simp) _ _ _) ?_ hc8 hcells (hg.set_other (Ne.symm rg) _ _ _) bl8
  have := hr.set 4 (.int .i32 (n : Int))
  simpa [reCells] using this

theorem EncAt.setCur {w : World} {r b p d g L W cur rep lit : Nat} {buf done : List Nat} {o : Option (List Nat)} (h : EncAt w r b p d g L W cur rep lit buf done o) (n : Nat) :
    EncAt (w.setCell ⟨r, 3, none⟩ (.int .u64 (n : Int))) r b p d g L W n rep lit buf done o := by
  obtain ⟨ind, x, cells, hr, hc8, hcells, hg, rb, rp, rd, rg, gb, gp, gd, bl8, back⟩ := h.opened
  refine back _ n rep lit buf cells ((Keep.refl _ _).set (by simp) _ _ _) ?_ hc8 hcells (hg.set_other (Ne.symm rg) _ _ _) bl8
  have := hr.set 3 (.int .u64 (n : Int))
  simpa [reCells] using this

theorem EncAt.setLit {w : World} {r b p d g L W cur rep lit : Nat} {buf done : List Nat} {o : Option (List Nat)} (h : EncAt w r b p d g L W cur rep lit buf done o) (n : Nat) :
    EncAt (w.setCell ⟨r, 5, none⟩ (.int .i32 (n : Int))) r b p d g L W cur rep n buf done o := by
  obtain ⟨ind, x, cells, hr, hc8, hcells, hg, rb, rp, rd, rg, gb, gp, gd, bl8, back⟩ := h.opened
  refine back _ cur rep n buf cells ((Keep.refl _ _).set (by simp) _ _ _) ?_ hc8 hcells (hg.set_other (Ne.symm rg) _ _ _) bl8
  have := hr.set 5 (.int .i32 (n : Int))
  simpa [reCells] using this

theorem EncAt.drew {w : World} {r b p d g L W cur rep lit : Nat} {buf done : List Nat} {o : Option (List Nat)} (h : EncAt w r b p d g L W cur rep lit buf done o) :
    EncAt w.drew r b p d g L W cur rep lit buf done o := by
  obtain ⟨ind, x, cells, hr, hc8, hcells, hg, rb, rp, rd, rg, gb, gp, gd, bl8, back⟩ := h.opened
  exact back _ cur rep lit buf cells (Keep.refl _ _).drew hr.drew hc8 hcells hg.drew bl8

theorem EncAt.drewN {w : World} {r b p d g L W cur rep lit : Nat} {buf done : List Nat} {o : Option (List Nat)} (h : EncAt w r b p d g L W cur rep lit buf done o) {n : Nat} :
    EncAt (w.drewN n) r b p d g L W cur rep lit buf done o := by
  obtain ⟨ind, x, cells, hr, hc8, hcells, hg, rb, rp, rd, rg, gb, gp, gd, bl8, back⟩ := h.opened
  exact back _ cur rep lit buf cells ((Keep.refl _ _).drewN n) (hr.drewN n) hc8 hcells (hg.drewN n) bl8

set_option maxRecDepth 100000 in
set_option maxHeartbeats 1000000 in
/-- flushBuffered(false) where eight values are alike: they are part of a run. -/
theorem flushBuf_rep (r b p d g L W cur rep lit : Nat) (buf done : List Nat) (o : Option (List Nat)) (w : World) (h : EncAt w r b p d g L W cur rep lit buf done o)
    (hW : W ≤ 64) (hrep : 8 ≤ rep) (hrep2 : rep < 1000000) (hroom : done.length + 1 + W * (o.getD []).length / 8 ≤ L) (hlit : lit = (o.getD []).length) (hlit2 : lit / 8 ≤ 127) (ho : lit = 0 → o = none) :
    Calls Tryz.prog 90 #[.pointer (some ⟨r, 0, none⟩), .bool false] w fun e w' =>
      e = .returned .nilIface ∧ Keep [r, b, d] w w' ∧ EncAt w' r b p d g L W cur rep 0 [] (if lit = 0 then done else done ++ (2 * (lit / 8) + 1) :: leBytes (W * lit / 8) (packN W (o.getD []))) none := by
  obtain ⟨ind, x, cells, hr, hc8, hcells, hg, rb, rp, rd, rg, gb, gp, gd, bl8, back⟩ := h.opened
  have Back := Lib.hid back
  have Hlit := Lib.hid hlit
  have Hroom := Lib.hid hroom
  have Ho := Lib.hid ho
  have Hc8 := Lib.hid hc8
  have hrep' : (8 : Int) ≤ (rep : Int) := by omega
  have c1 := hr.cell (i := 1) rfl
  have c4 := hr.cell (i := 4) rfl
  have c5 := hr.cell (i := 5) rfl
  have hf := hr.unfrozen
  have hS := hr.set 1 (.slice (some ⟨g, 0, none⟩) 0 8)
  have hgS := hg.set_other (Ne.symm rg) 1 none (.slice (some ⟨g, 0, none⟩) 0 8)
  have KS : Keep [r, g] w (w.setCell ⟨r, 1, none⟩ (.slice (some ⟨g, 0, none⟩) 0 8)) := (Keep.refl _ _).set (by simp) _ _ _
  have HE : EncAt (w.setCell ⟨r, 1, none⟩ (.slice (some ⟨g, 0, none⟩) 0 8)) r b p d g L W cur rep lit [] done o :=
    back _ cur rep lit [] cells KS (by simpa [reCells] using hS) hc8 (by simp) hgS (by simp)
  clear hlit hroom ho hcells back hc8
  by_cases hz : lit = 0
  · have hz1 : ((lit : Int) != 0) = false := by simp [hz]
    have Hz := Lib.hid hz
    clear hz
    go_enter Tryz.func90, Tryz.ntmps90
    go_wp2
    go_ret
    try rw [if_pos Hz.out]
    refine ⟨rfl, (Keep.refl _ _).set (by simp) _ _ _, ?_⟩
    have := Ho.out Hz.out
    rw [this, Hz.out] at HE
    exact HE
  · have hz1 : ((lit : Int) != 0) = true := by simp [hz]
    have Hz := Lib.hid hz
    clear hz
    go_enter Tryz.func90, Tryz.ntmps90
    go_wp2_with fail
    refine (flushLit true r b p d g L W cur rep lit [] done o _ HE hW (by simp) (by simpa using Hroom.out) (by simp) (by simpa using Hlit.out) hlit2).mono ?_
    rintro e w1 ⟨rfl, k1, hE⟩
    go_wp2
    go_ret
    try rw [if_neg Hz.out]
    refine ⟨rfl, ((Keep.refl [r, b, d] w).set (by simp) _ _ _).trans k1 (by simp), by simpa using hE⟩

set_option maxRecDepth 100000 in
set_option maxHeartbeats 1000000 in
/-- flushBuffered(false) where they are not: they are literals. -/
theorem flushBuf_lit (r b p d g L W cur rep lit : Nat) (buf done : List Nat) (o : Option (List Nat)) (w : World) (h : EncAt w r b p d g L W cur rep lit buf done o)
    (hW : W ≤ 64) (hrep : rep < 8) (hb8 : buf.length = 8) (hsmall : ∀ v ∈ buf, v < 2 ^ W) (hroom : done.length + 1 + W * ((o.getD []).length + 8) / 8 ≤ L) (hlit : lit = (o.getD []).length) (hlit2 : lit ≤ 496) :
    Calls Tryz.prog 90 #[.pointer (some ⟨r, 0, none⟩), .bool false] w fun e w' =>
      e = .returned .nilIface ∧ Keep [r, b, d] w w' ∧
        (if lit = 496 then EncAt w' r b p d g L W cur 0 0 [] (done ++ 127 :: leBytes (W * 504 / 8) (packN W (o.getD [] ++ buf))) none
         else EncAt w' r b p d g L W cur 0 (lit + 8) [] done (some (o.getD [] ++ buf))) := by
  obtain ⟨ind, x, cells, hr, hc8, hcells, hg, rb, rp, rd, rg, gb, gp, gd, bl8, back⟩ := h.opened
  have Back := Lib.hid back
  have Hlit := Lib.hid hlit
  have Hroom := Lib.hid hroom
  have Hsmall := Lib.hid hsmall
  have hrep' : ¬ (8 : Int) ≤ (rep : Int) := by omega
  rw [hb8] at hr
  have c1 := hr.cell (i := 1) rfl
  have c4 := hr.cell (i := 4) rfl
  have c5 := hr.cell (i := 5) rfl
  have hf := hr.unfrozen
  have hS := (hr.set 5 (.int .i32 ((lit : Int) + 8))).drew
  have hgS := (hg.set_other (Ne.symm rg) 5 none (.int .i32 ((lit : Int) + 8))).drew
  have KS : Keep [r, g] w (w.setCell ⟨r, 5, none⟩ (.int .i32 ((lit : Int) + 8))).drew := ((Keep.refl _ _).set (by simp) _ _ _).drew
  have HE : EncAt (w.setCell ⟨r, 5, none⟩ (.int .i32 ((lit : Int) + 8))).drew r b p d g L W cur rep (lit + 8) buf done o :=
    back _ cur rep (lit + 8) buf cells KS (by rw [hb8]; simpa [reCells] using hS) hc8 hcells hgS bl8
  have hmod : lit % 8 = 0 := by
    cases o with
    | none => simp at hlit; omega
    | some l => obtain ⟨_, h1, -⟩ := h; simp at hlit; omega
  have e1 : IntKind.i32.wrap ((lit : Int) + 8) = (lit : Int) + 8 := IntWalk.i32_in _ (by omega)
  have Hmod := Lib.hid hmod
  have Hb8 := Lib.hid hb8
  have e2 : IntKind.i32.wrap 8 = 8 := by decide
  clear hlit hroom hcells back hc8 hsmall hmod hb8
  by_cases hz : lit = 496
  · have hz1 : (64 : Int) ≤ ((lit : Int) + 8) / 8 + 1 := by omega
    have Hz := Lib.hid hz
    clear hz
    go_enter Tryz.func90, Tryz.ntmps90
    go_wp2_with fail
    refine wp_region_still_tail 13 (by kernel_rfl) (by kernel_rfl) ?_
    simp only [List.take_succ_cons, List.take_zero, List.drop_succ_cons, List.drop_zero]
    change wpStill _ _ (World.drew _) _ _ _
    repeat still_step
    refine wpStill_nil ?_
    change wpList _ _ _ _ _ (World.drew _)
    go_wp2_with fail
    refine (flushLit true r b p d g L W cur rep (lit + 8) buf done o _ HE hW Hsmall.out (by rw [Hb8.out]; exact Hroom.out) (by rw [Hb8.out]) (by rw [Hb8.out, ← Hlit.out]) (by have := Hz.out; omega)).mono ?_
    rintro e w1 ⟨rfl, k1, hE⟩
    simp only [if_true] at hE
    obtain ⟨ind1, x1, cells1, hr1, -, -, -, -, -, -, -, -, -, -, -, -⟩ := hE.opened
    clear c1 c4 c5 hf
    have c4 := hr1.cell (i := 4) rfl
    have hf := hr1.unfrozen
    go_wp2
    go_ret
    try rw [if_pos Hz.out]
    refine ⟨rfl, (((Keep.refl [r, b, d] w).set (by simp) 5 none _).drew.trans k1 (by simp)).set (by simp) _ _ _, ?_⟩
    have := hE.setRep 0
    rw [Hz.out] at this
    exact this
  · have hz1 : ¬ (64 : Int) ≤ ((lit : Int) + 8) / 8 + 1 := by omega
    have Hz := Lib.hid hz
    clear hz
    go_enter Tryz.func90, Tryz.ntmps90
    go_wp2_with fail
    refine wp_region_still_tail 13 (by kernel_rfl) (by kernel_rfl) ?_
    simp only [List.take_succ_cons, List.take_zero, List.drop_succ_cons, List.drop_zero]
    change wpStill _ _ (World.drew _) _ _ _
    repeat still_step
    refine wpStill_nil ?_
    change wpList _ _ _ _ _ (World.drew _)
    go_wp2_with fail
    refine (flushLit false r b p d g L W cur rep (lit + 8) buf done o _ HE hW Hsmall.out (by rw [Hb8.out]; exact Hroom.out) (by rw [Hb8.out]) (by rw [Hb8.out, ← Hlit.out]) (by omega)).mono ?_
    rintro e w1 ⟨rfl, k1, hE⟩
    simp only [if_false, Bool.false_eq_true] at hE
    obtain ⟨ind1, x1, cells1, hr1, -, -, -, -, -, -, -, -, -, -, -, -⟩ := hE.opened
    clear c1 c4 c5 hf
    have c4 := hr1.cell (i := 4) rfl
    have hf := hr1.unfrozen
    go_wp2
    go_ret
    try rw [if_neg Hz.out]
    refine ⟨rfl, (((Keep.refl [r, b, d] w).set (by simp) 5 none _).drew.trans k1 (by simp)).set (by simp) _ _ _, ?_⟩
    exact hE.setRep 0
end Go.Proofs.YtlolcgklcnechaaGreatDoor
