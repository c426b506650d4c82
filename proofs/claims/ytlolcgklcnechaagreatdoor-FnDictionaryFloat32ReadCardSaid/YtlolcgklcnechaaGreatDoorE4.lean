/- The RLE encoder: Flush. The RLE encoder: how it is made. -/
import Derived.Test.YtlolcgklcnechaaGreatDoorE3
import Derived.Deep.RegionWith
set_option linter.unusedVariables false
namespace Go.Proofs.YtlolcgklcnechaaGreatDoor
open Go.RowKit

/-- The bytes that Flush leaves. -/
def St.finish (W : Nat) (s : St) : List Nat :=
  if s.lit = 0 ∧ 0 < s.rep ∧ (s.rep = s.buf.length ∨ s.buf = []) then s.done ++ vlq (2 * s.rep) ++ leBytes ((W + 7) / 8) s.cur
  else if s.lit = 0 ∧ s.buf = [] then s.done
  else s.done ++ (2 * ((s.lit + (s.buf.length + 7) / 8 * 8) / 8) + 1) :: leBytes (W * (s.lit + (s.buf.length + 7) / 8 * 8) / 8) (packN W (s.o.getD [] ++ s.buf))


set_option maxRecDepth 100000 in
set_option maxHeartbeats 1000000 in
theorem flush_rep (r b p d g L W cur rep : Nat) (buf done : List Nat) (w : World) (h : EncAt w r b p d g L W cur rep 0 buf done none) (hW0 : 0 < W) (hW : W ≤ 64)
    (hrep0 : 0 < rep) (hrep : rep < 100000) (hall : rep = buf.length ∨ buf = []) (fin : List Nat) (hfin : fin = done ++ vlq (2 * rep) ++ leBytes ((W + 7) / 8) cur) (hroom : fin.length ≤ L) :
    Calls Tryz.prog 39 #[.pointer (some ⟨r, 0, none⟩)] w fun e w' =>
      e = .returned (.int .i64 (fin.length : Int)) ∧ Keep [r, b, d] w w' ∧ ∃ data, Blk w' d (rowV .u8 data) ∧ data.length = L ∧ data.take fin.length = fin := by
  obtain ⟨ind, x, cells, hr, -⟩ := EncAt.opened h
  have c0 := hr.cell (i := 0) rfl
  have c1 := hr.cell (i := 1) rfl
  have c4 := hr.cell (i := 4) rfl
  have c5 : w.cell? ⟨r, 5, none⟩ = some (.int .i32 0) := hr.cell (i := 5) rfl
  have hbl := EncAt.lits_lt h
  have hp : (0 : Int) < (rep : Int) := by omega
  have Hfin := Lib.hid hfin
  have Hfl := Lib.hid hroom
  have hw32 := IntWalk.i32_in (buf.length : Int) (by omega)
  have hroom3 : done.length + (vlq (2 * rep)).length + (W + 7) / 8 ≤ L := by rw [hfin] at hroom; simp at hroom; omega
  have Hroom3 := Lib.hid hroom3
  clear hfin hroom hroom3
  by_cases ha : rep = buf.length
  · have hb1 : ((rep : Int) == (buf.length : Int)) = true := by simp [ha]
    clear hall ha
    go_enter Tryz.func39, Tryz.ntmps39
    go_wp2_with fail
    go_quiet (fail)
    go_wp2_with fail
    refine (flushRep r b p d g L W cur rep 0 buf done _ h.drewN hW0 hW (by omega) Hroom3.out).mono ?_
    rw [← Hfin.out]
    rintro e w7 ⟨rfl, k7, hEf⟩
    obtain ⟨pre, X, len, hl8, hdone, hRE⟩ := hEf
    have hBf := hRE.hB
    obtain ⟨xf, hrf⟩ := hRE.hr
    have hlen : (len + 7) / 8 = len / 8 := by omega
    have hdl : pre.length + (len + 7) / 8 = fin.length := by rw [hdone]; simp; omega
    have hroomf := Hfl.out
    have Hdone := Lib.hid hdone
    have Hlen := Lib.hid hlen
    have Hdl := Lib.hid hdl
    have rbf := hRE.rb
    have rdf := hRE.rd
    have cf0 := hrf.cell (i := 0) rfl
    clear hdone hlen hdl hl8 hRE
    go_wp2_with fail
    refine (flushA false b p d L pre X len _ hBf (by rw [Hdl.out]; exact hroomf)).mono ?_
    rintro e w8 ⟨rfl, k8, hB8, data, hd8, hdL, hdt⟩
    simp only [if_false, Bool.false_eq_true] at hB8
    rw [Hdl.out, Hlen.out, ← Hdone.out] at hdt
    have hr8 := hrf.keep k8 (by simp; exact ⟨rbf, rdf⟩)
    clear cf0
    have cf0 := hr8.cell (i := 0) rfl
    have Hdt := Lib.hid hdt
    have HdL := Lib.hid hdL
    clear hdt hdL
    go_wp2_with fail
    refine (writtenA b p d L pre X len _ hB8).mono ?_
    rw [Hdl.out]
    rintro e w9 ⟨rfl, nq, rfl⟩
    go_wp2
    go_ret
    exact ⟨rfl, ((((Keep.refl _ w).drewN _).trans k7 (by simp)).trans k8 (by simp)).drewN _, data, hd8.drewN _, HdL.out, Hdt.out⟩
  · have hb0 : buf = [] := by rcases hall with h | h; exact absurd h ha; exact h
    subst hb0
    have hb1 : ((rep : Int) == 0) = false := by simp; omega
    clear hall ha
    go_enter Tryz.func39, Tryz.ntmps39
    go_wp2_with fail
    go_quiet (fail)
    go_wp2_with fail
    refine (flushRep r b p d g L W cur rep 0 [] done _ h.drewN hW0 hW (by omega) Hroom3.out).mono ?_
    rw [← Hfin.out]
    rintro e w7 ⟨rfl, k7, hEf⟩
    obtain ⟨pre, X, len, hl8, hdone, hRE⟩ := hEf
    have hBf := hRE.hB
    obtain ⟨xf, hrf⟩ := hRE.hr
    have hlen : (len + 7) / 8 = len / 8 := by omega
    have hdl : pre.length + (len + 7) / 8 = fin.length := by rw [hdone]; simp; omega
    have hroomf := Hfl.out
    have Hdone := Lib.hid hdone
    have Hlen := Lib.hid hlen
    have Hdl := Lib.hid hdl
    have rbf := hRE.rb
    have rdf := hRE.rd
    have cf0 := hrf.cell (i := 0) rfl
    clear hdone hlen hdl hl8 hRE
    go_wp2_with fail
    refine (flushA false b p d L pre X len _ hBf (by rw [Hdl.out]; exact hroomf)).mono ?_
    rintro e w8 ⟨rfl, k8, hB8, data, hd8, hdL, hdt⟩
    simp only [if_false, Bool.false_eq_true] at hB8
    rw [Hdl.out, Hlen.out, ← Hdone.out] at hdt
    have hr8 := hrf.keep k8 (by simp; exact ⟨rbf, rdf⟩)
    clear cf0
    have cf0 := hr8.cell (i := 0) rfl
    have Hdt := Lib.hid hdt
    have HdL := Lib.hid hdL
    clear hdt hdL
    go_wp2_with fail
    refine (writtenA b p d L pre X len _ hB8).mono ?_
    rw [Hdl.out]
    rintro e w9 ⟨rfl, nq, rfl⟩
    go_wp2
    go_ret
    exact ⟨rfl, ((((Keep.refl _ w).drewN _).trans k7 (by simp)).trans k8 (by simp)).drewN _, data, hd8.drewN _, HdL.out, Hdt.out⟩

/-- How much is buffered, read off the memory. -/
def bufLen (w : World) (r : Nat) : Nat := match w.cell? ⟨r, 1, none⟩ with
  | some (.slice _ n _) => n
  | _ => 0

theorem EncAt.bufLen {w : World} {r b p d g L W cur rep lit : Nat} {buf done : List Nat} {o : Option (List Nat)} (h : EncAt w r b p d g L W cur rep lit buf done o) : bufLen w r = buf.length := by
  obtain ⟨ind, x, cells, hr, -⟩ := h.opened
  unfold Go.Proofs.YtlolcgklcnechaaGreatDoor.bufLen
  rw [hr.cell (i := 1) rfl]


set_option maxRecDepth 100000 in
set_option maxHeartbeats 2000000 in
theorem flush_lit (r b p d g L W cur rep lit : Nat) (buf done : List Nat) (o : Option (List Nat)) (w : World) (h : EncAt w r b p d g L W cur rep lit buf done o) (hW0 : 0 < W) (hW : W ≤ 64)
    (hrep : rep < 100000) (hpos : 0 < lit) (hlitb : lit ≤ 496) (hlit : lit = (o.getD []).length) (hsmall : ∀ v ∈ buf, v < 2 ^ W) (hroom : done.length + 1 + W * ((o.getD []).length + (buf.length + 7) / 8 * 8) / 8 ≤ L)
    (fin : List Nat) (hfin : fin = done ++ (2 * ((lit + (buf.length + 7) / 8 * 8) / 8) + 1) :: leBytes (W * (lit + (buf.length + 7) / 8 * 8) / 8) (packN W (o.getD [] ++ buf))) (hfl : fin.length ≤ L) :
    Calls Tryz.prog 39 #[.pointer (some ⟨r, 0, none⟩)] w fun e w' =>
      e = .returned (.int .i64 (fin.length : Int)) ∧ Keep [r, b, d, g] w w' ∧ ∃ data, Blk w' d (rowV .u8 data) ∧ data.length = L ∧ data.take fin.length = fin := by
  obtain ⟨ind, x, cells, hr, -⟩ := EncAt.opened h
  have c0 := hr.cell (i := 0) rfl
  have c1 := hr.cell (i := 1) rfl
  have c4 := hr.cell (i := 4) rfl
  have c5 := hr.cell (i := 5) rfl
  have hf := hr.unfrozen
  have bl8 := EncAt.lits_lt h
  have hp : (0 : Int) < (lit : Int) := by omega
  have hp2 : ((lit : Int) == 0) = false := by simp; omega
  have Hfin := Lib.hid hfin
  have Hfl := Lib.hid hfl
  have Hroom := Lib.hid hroom
  have Hlit := Lib.hid hlit
  have Hsmall := Lib.hid hsmall
  obtain ⟨i0, hi, hz0, hz1, hz2⟩ := info_parts info_u64
  clear hfin hfl hroom hlit hsmall
  by_cases hr0 : (0 : Int) < (rep : Int)
  all_goals
    go_enter Tryz.func39, Tryz.ntmps39
    go_wp2_with fail
    go_quiet (fail)
    have HE := Lib.hid (h.drewN (n := nq))
    have KS : Keep [r, b, d, g] w (w.drewN nq) := (Keep.refl _ w).drewN _
    go_wp2_with fail
    go_loopw [] (fun wr => ∃ bk : List Nat, Hid (∃ k, bk = buf ++ List.replicate k 0 ∧ (buf = [] → k = 0)) ∧ bk.length ≤ 8 ∧ EncAt wr r b p d g L W cur rep lit bk done o ∧ Keep [r, b, d, g] w wr) (fun wr => 8 - bufLen wr r)
    case atStart => exact ⟨buf, Lib.hid ⟨0, by simp, fun _ => rfl⟩, bl8, HE.out, KS⟩
    case round =>
      obtain ⟨bk, hbk, hbk8, hEk, hKk⟩ := hrel
      obtain ⟨indk, xk, cellsk, hrk, hck8, hckt, hgk, rb, rp, rd, rg, gb, gp, gd, -, -⟩ := EncAt.opened hEk
      have gr := Ne.symm rg
      have hrl := hrk.lt
      clear c0 c1 c4 c5 hf
      have c0 := hrk.cell (i := 0) rfl
      have c1 := hrk.cell (i := 1) rfl
      have c4 := hrk.cell (i := 4) rfl
      have c5 := hrk.cell (i := 5) rfl
      have hf := hrk.unfrozen
      have Hckt := Lib.hid hckt
      clear hckt
      by_cases hgo : bk.length ≠ 0 ∧ bk.length < 8
      · have hg1 : ((bk.length : Int) != 0) = true := by rw [bne_iff_ne]; omega
        have hg2 : (bk.length : Int) < 8 := by omega
        have Hgo := Lib.hid hgo
        clear hgo
        have hbl : bufLen wr r = bk.length := hEk.bufLen
        have Hbl := Lib.hid hbl
        clear hbl
        go_wp2_with (at_builtin; refine wpList_push rfl _ _ _ rfl _ i0 Tryz.underlying22 hi hz1 g 0 bk.length 8 _ 1 _ rfl rfl (by simp) rfl hgk (by omega) (by simp; omega) ?_)
        go_roundw
        case rel =>
          refine ⟨bk ++ [0], ?_, by have := Hgo.out; simp; omega, hEk.push (by have := Hgo.out; omega) 0 43, hKk.trans ((((Keep.refl [r, b, d, g] _).alloc _).set (by simp) _ _ _).set (by simp) _ _ _) (by simp)⟩
          obtain ⟨k, hk1, hk2⟩ := hbk.out
          refine Lib.hid ⟨k + 1, by rw [hk1, List.append_assoc, ← List.replicate_succ'], fun h0 => ?_⟩
          have := hk2 h0
          have h1 := Hgo.out.1
          rw [hk1, h0, this] at h1
          simp at h1
        case measure =>
          have h1 := (hEk.push (by have := Hgo.out; omega) 0 43).bufLen
          rw [show (((0:Nat):Int)) = 0 from rfl] at h1
          rw [h1, Hbl.out]
          have := Hgo.out
          simp
          omega
      · have hlitk : (lit + bk.length) ≤ 504 := by omega
        have Hgo := Lib.hid hgo
        have hEn : ∃ z, bk = buf ++ List.replicate z 0 ∧ bk.length = (buf.length + 7) / 8 * 8 := by
          obtain ⟨k, hk1, hk2⟩ := hbk.out
          refine ⟨k, hk1, ?_⟩
          have hl : bk.length = buf.length + k := by rw [hk1]; simp
          by_cases hb0 : buf = []
          · have := hk2 hb0
            rw [hl, this, hb0]; simp
          · have : 0 < buf.length := List.length_pos_iff.2 hb0
            omega
        have HEn := Lib.hid hEn
        have e1 := IntWalk.i32_in ((lit : Int) + (bk.length : Int)) (by omega)
        have e2 := IntWalk.i32_in (bk.length : Int) (by omega)
        have hx : ((bk.length : Int) != 0) = false ∨ (((bk.length : Int) != 0) = true ∧ ¬ (bk.length : Int) < 8) := by
          by_cases h0 : bk.length = 0
          · left; simp [h0]
          · right; exact ⟨by rw [bne_iff_ne]; omega, by omega⟩
        clear hgo hEn
        rcases hx with hx | ⟨hx, hx2⟩
        all_goals
          go_wp2_with fail
          refine wp_region_still_tail 13 (by kernel_rfl) (by kernel_rfl) ?_
          simp only [List.take_succ_cons, List.take_zero, List.drop_succ_cons, List.drop_zero]
          change wpStill _ _ (World.drew _) _ _ _
          repeat still_step
          refine wpStill_nil ?_
          change wpList _ _ _ _ _ (World.drew _)
          go_wp2_with fail
          refine (flushLit true r b p d g L W cur rep (lit + bk.length) bk done o _ ?_ hW ?_ ?_ ?_ ?_ ?_).mono ?_
          · first
              | simpa using (hEk.setLit (lit + bk.length)).drew
              | (have hL := (hEk.setLit (lit + bk.length)).drew
                 rw [show ((lit + bk.length : Nat) : Int) = (bk.length : Int) by have := Hl0.out; omega] at hL
                 exact hL)
          · obtain ⟨z, hz, -⟩ := HEn.out
            intro y hy
            rw [hz] at hy
            simp only [List.mem_append, List.mem_replicate] at hy
            rcases hy with hy | ⟨_, rfl⟩
            · exact Hsmall.out y hy
            · exact Nat.two_pow_pos W
          · obtain ⟨z, -, hz⟩ := HEn.out
            rw [hz]; exact Hroom.out
          · obtain ⟨z, -, hz⟩ := HEn.out
            rw [hz]; omega
          · rw [← Hlit.out]
          · omega
          rintro e w7 ⟨rfl, k7, hE7⟩
          simp only [if_true] at hE7
          have e3 : done ++ (2 * ((lit + bk.length) / 8) + 1) :: leBytes (W * (lit + bk.length) / 8) (packN W (o.getD [] ++ bk)) = fin := by
            obtain ⟨z, hz, hz2⟩ := HEn.out
            rw [Hfin.out, hz2, hz, ← List.append_assoc, packN_append W (o.getD [] ++ buf), packN_replicate_zero]
            simp
          rw [e3] at hE7
          obtain ⟨ind7, x7, cells7, hr7, -⟩ := EncAt.opened hE7
          clear c0 c1 c4 c5 hf e3
          have c4 := hr7.cell (i := 4) rfl
          have hf := hr7.unfrozen
          have hEf := hE7.setRep 0
          rw [show (((0:Nat):Int)) = 0 from rfl] at hEf
          have c0 : (w7.setCell ⟨r, 4, none⟩ (.int .i32 0)).cell? ⟨r, 0, none⟩ = some (.pointer (some ⟨b, 0, none⟩)) := by
            obtain ⟨_, _, _, hr, -⟩ := EncAt.opened hEf
            exact hr.cell (i := 0) rfl
          have K7 : Keep [r, b, d, g] w (w7.setCell ⟨r, 4, none⟩ (.int .i32 0)) :=
            ((hKk.trans ((Keep.refl [r] wr).set (b := r) (by simp) 5 none _).drew (by simp)).trans k7 (by simp)).set (by simp) _ _ _
          obtain ⟨pre, X, len, hl8, hdone, hRE⟩ := hEf
          have hBf := hRE.hB
          obtain ⟨xf, hrf⟩ := hRE.hr
          have hlen : (len + 7) / 8 = len / 8 := by omega
          have hdl : pre.length + (len + 7) / 8 = fin.length := by rw [hdone]; simp; omega
          have hroomf := Hfl.out
          have Hdone := Lib.hid hdone
          have Hlen := Lib.hid hlen
          have Hdl := Lib.hid hdl
          have rbf := hRE.rb
          have rdf := hRE.rd
          have cf0 := hrf.cell (i := 0) rfl
          clear hdone hlen hdl hl8 hRE
          go_wp2_with fail
          refine (flushA false b p d L pre X len _ hBf (by rw [Hdl.out]; exact hroomf)).mono ?_
          rintro e w8 ⟨rfl, k8, hB8, data, hd8, hdL, hdt⟩
          simp only [if_false, Bool.false_eq_true] at hB8
          rw [Hdl.out, Hlen.out, ← Hdone.out] at hdt
          have hr8 := hrf.keep k8 (by simp; exact ⟨rbf, rdf⟩)
          clear cf0
          have cf0 := hr8.cell (i := 0) rfl
          have Hdt := Lib.hid hdt
          have HdL := Lib.hid hdL
          clear hdt hdL
          go_wp2_with fail
          refine (writtenA b p d L pre X len _ hB8).mono ?_
          rw [Hdl.out]
          rintro e w9 ⟨rfl, nq, rfl⟩
          go_wp2
          go_ret
          exact ⟨rfl, (((K7.trans k8 (by simp))).drewN _), data, hd8.drewN _, HdL.out, Hdt.out⟩

set_option maxRecDepth 100000 in
set_option maxHeartbeats 2000000 in
theorem flush_buf (r b p d g L W cur rep lit : Nat) (buf done : List Nat) (o : Option (List Nat)) (w : World) (h : EncAt w r b p d g L W cur rep lit buf done o) (hW0 : 0 < W) (hW : W ≤ 64)
    (hrep : rep < buf.length) (hpos : 0 < rep) (hlit0 : lit = 0) (hlit : lit = (o.getD []).length) (hsmall : ∀ v ∈ buf, v < 2 ^ W) (hroom : done.length + 1 + W * ((o.getD []).length + (buf.length + 7) / 8 * 8) / 8 ≤ L)
    (fin : List Nat) (hfin : fin = done ++ (2 * ((lit + (buf.length + 7) / 8 * 8) / 8) + 1) :: leBytes (W * (lit + (buf.length + 7) / 8 * 8) / 8) (packN W (o.getD [] ++ buf))) (hfl : fin.length ≤ L) :
    Calls Tryz.prog 39 #[.pointer (some ⟨r, 0, none⟩)] w fun e w' =>
      e = .returned (.int .i64 (fin.length : Int)) ∧ Keep [r, b, d, g] w w' ∧ ∃ data, Blk w' d (rowV .u8 data) ∧ data.length = L ∧ data.take fin.length = fin := by
  obtain ⟨ind, x, cells, hr, -⟩ := EncAt.opened h
  have c0 := hr.cell (i := 0) rfl
  have c1 := hr.cell (i := 1) rfl
  have c4 := hr.cell (i := 4) rfl
  have c5 := hr.cell (i := 5) rfl
  have hf := hr.unfrozen
  have bl8 := EncAt.lits_lt h
  have hp : ¬ (0 : Int) < (lit : Int) := by omega
  have hp2 : ((lit : Int) == 0) = true := by simp; omega
  have hp3 : (0 : Int) < (rep : Int) := by omega
  have hb1 : ((rep : Int) == (buf.length : Int)) = false := by simp; omega
  have hb2 : ((buf.length : Int) == 0) = false := beq_eq_false_iff_ne.2 (by omega)
  have hw32 := IntWalk.i32_in (buf.length : Int) (by omega)
  have Hfin := Lib.hid hfin
  have Hfl := Lib.hid hfl
  have Hroom := Lib.hid hroom
  have Hlit := Lib.hid hlit
  have Hsmall := Lib.hid hsmall
  have hlitb : lit ≤ 496 := by omega
  have Hl0 := Lib.hid hlit0
  obtain ⟨i0, hi, hz0, hz1, hz2⟩ := info_parts info_u64
  clear hfin hfl hroom hlit hsmall hlit0
  go_enter Tryz.func39, Tryz.ntmps39
  go_wp2_with fail
  go_quiet (fail)
  clear hp hp2
  have HE := Lib.hid (h.drewN (n := nq))
  have KS : Keep [r, b, d, g] w (w.drewN nq) := (Keep.refl _ w).drewN _
  go_wp2_with fail
  go_loopw [] (fun wr => ∃ bk : List Nat, Hid (∃ k, bk = buf ++ List.replicate k 0 ∧ (buf = [] → k = 0)) ∧ bk.length ≤ 8 ∧ EncAt wr r b p d g L W cur rep lit bk done o ∧ Keep [r, b, d, g] w wr) (fun wr => 8 - bufLen wr r)
  case atStart => exact ⟨buf, Lib.hid ⟨0, by simp, fun _ => rfl⟩, bl8, HE.out, KS⟩
  case round =>
    obtain ⟨bk, hbk, hbk8, hEk, hKk⟩ := hrel
    obtain ⟨indk, xk, cellsk, hrk, hck8, hckt, hgk, rb, rp, rd, rg, gb, gp, gd, -, -⟩ := EncAt.opened hEk
    have gr := Ne.symm rg
    have hrl := hrk.lt
    clear c0 c1 c4 c5 hf
    have c0 := hrk.cell (i := 0) rfl
    have c1 := hrk.cell (i := 1) rfl
    have c4 := hrk.cell (i := 4) rfl
    have c5 := hrk.cell (i := 5) rfl
    have hf := hrk.unfrozen
    have Hckt := Lib.hid hckt
    clear hckt
    by_cases hgo : bk.length ≠ 0 ∧ bk.length < 8
    · have hg1 : ((bk.length : Int) != 0) = true := by rw [bne_iff_ne]; omega
      have hg2 : (bk.length : Int) < 8 := by omega
      have Hgo := Lib.hid hgo
      clear hgo
      have hbl : bufLen wr r = bk.length := hEk.bufLen
      have Hbl := Lib.hid hbl
      clear hbl
      go_wp2_with (at_builtin; refine wpList_push rfl _ _ _ rfl _ i0 Tryz.underlying22 hi hz1 g 0 bk.length 8 _ 1 _ rfl rfl (by simp) rfl hgk (by omega) (by simp; omega) ?_)
      go_roundw
      case rel =>
        refine ⟨bk ++ [0], ?_, by have := Hgo.out; simp; omega, hEk.push (by have := Hgo.out; omega) 0 43, hKk.trans ((((Keep.refl [r, b, d, g] _).alloc _).set (by simp) _ _ _).set (by simp) _ _ _) (by simp)⟩
        obtain ⟨k, hk1, hk2⟩ := hbk.out
        refine Lib.hid ⟨k + 1, by rw [hk1, List.append_assoc, ← List.replicate_succ'], fun h0 => ?_⟩
        have := hk2 h0
        have h1 := Hgo.out.1
        rw [hk1, h0, this] at h1
        simp at h1
      case measure =>
        have h1 := (hEk.push (by have := Hgo.out; omega) 0 43).bufLen
        rw [show (((0:Nat):Int)) = 0 from rfl] at h1
        rw [h1, Hbl.out]
        have := Hgo.out
        simp
        omega
    · have hlitk : (lit + bk.length) ≤ 504 := by omega
      have Hgo := Lib.hid hgo
      have hEn : ∃ z, bk = buf ++ List.replicate z 0 ∧ bk.length = (buf.length + 7) / 8 * 8 := by
        obtain ⟨k, hk1, hk2⟩ := hbk.out
        refine ⟨k, hk1, ?_⟩
        have hl : bk.length = buf.length + k := by rw [hk1]; simp
        by_cases hb0 : buf = []
        · have := hk2 hb0
          rw [hl, this, hb0]; simp
        · have : 0 < buf.length := List.length_pos_iff.2 hb0
          omega
      have HEn := Lib.hid hEn
      have e1 := IntWalk.i32_in ((lit : Int) + (bk.length : Int)) (by omega)
      have e2 := IntWalk.i32_in (bk.length : Int) (by omega)
      have hx : ((bk.length : Int) != 0) = false ∨ (((bk.length : Int) != 0) = true ∧ ¬ (bk.length : Int) < 8) := by
        by_cases h0 : bk.length = 0
        · left; simp [h0]
        · right; exact ⟨by rw [bne_iff_ne]; omega, by omega⟩
      clear hgo hEn
      rcases hx with hx | ⟨hx, hx2⟩
      all_goals
        go_wp2_with fail
        refine wp_region_still_tail 13 (by kernel_rfl) (by kernel_rfl) ?_
        simp only [List.take_succ_cons, List.take_zero, List.drop_succ_cons, List.drop_zero]
        change wpStill _ _ (World.drew _) _ _ _
        repeat still_step
        refine wpStill_nil ?_
        change wpList _ _ _ _ _ (World.drew _)
        go_wp2_with fail
        refine (flushLit true r b p d g L W cur rep (lit + bk.length) bk done o _ ?_ hW ?_ ?_ ?_ ?_ ?_).mono ?_
        · first
            | simpa using (hEk.setLit (lit + bk.length)).drew
            | (have hL := (hEk.setLit (lit + bk.length)).drew
               rw [show ((lit + bk.length : Nat) : Int) = (bk.length : Int) by have := Hl0.out; omega] at hL
               exact hL)
        · obtain ⟨z, hz, -⟩ := HEn.out
          intro y hy
          rw [hz] at hy
          simp only [List.mem_append, List.mem_replicate] at hy
          rcases hy with hy | ⟨_, rfl⟩
          · exact Hsmall.out y hy
          · exact Nat.two_pow_pos W
        · obtain ⟨z, -, hz⟩ := HEn.out
          rw [hz]; exact Hroom.out
        · obtain ⟨z, -, hz⟩ := HEn.out
          rw [hz]; omega
        · rw [← Hlit.out]
        · omega
        rintro e w7 ⟨rfl, k7, hE7⟩
        simp only [if_true] at hE7
        have e3 : done ++ (2 * ((lit + bk.length) / 8) + 1) :: leBytes (W * (lit + bk.length) / 8) (packN W (o.getD [] ++ bk)) = fin := by
          obtain ⟨z, hz, hz2⟩ := HEn.out
          rw [Hfin.out, hz2, hz, ← List.append_assoc, packN_append W (o.getD [] ++ buf), packN_replicate_zero]
          simp
        rw [e3] at hE7
        obtain ⟨ind7, x7, cells7, hr7, -⟩ := EncAt.opened hE7
        clear c0 c1 c4 c5 hf e3
        have c4 := hr7.cell (i := 4) rfl
        have hf := hr7.unfrozen
        have hEf := hE7.setRep 0
        rw [show (((0:Nat):Int)) = 0 from rfl] at hEf
        have c0 : (w7.setCell ⟨r, 4, none⟩ (.int .i32 0)).cell? ⟨r, 0, none⟩ = some (.pointer (some ⟨b, 0, none⟩)) := by
          obtain ⟨_, _, _, hr, -⟩ := EncAt.opened hEf
          exact hr.cell (i := 0) rfl
        have K7 : Keep [r, b, d, g] w (w7.setCell ⟨r, 4, none⟩ (.int .i32 0)) :=
          ((hKk.trans ((Keep.refl [r] wr).set (b := r) (by simp) 5 none _).drew (by simp)).trans k7 (by simp)).set (by simp) _ _ _
        obtain ⟨pre, X, len, hl8, hdone, hRE⟩ := hEf
        have hBf := hRE.hB
        obtain ⟨xf, hrf⟩ := hRE.hr
        have hlen : (len + 7) / 8 = len / 8 := by omega
        have hdl : pre.length + (len + 7) / 8 = fin.length := by rw [hdone]; simp; omega
        have hroomf := Hfl.out
        have Hdone := Lib.hid hdone
        have Hlen := Lib.hid hlen
        have Hdl := Lib.hid hdl
        have rbf := hRE.rb
        have rdf := hRE.rd
        have cf0 := hrf.cell (i := 0) rfl
        clear hdone hlen hdl hl8 hRE
        go_wp2_with fail
        refine (flushA false b p d L pre X len _ hBf (by rw [Hdl.out]; exact hroomf)).mono ?_
        rintro e w8 ⟨rfl, k8, hB8, data, hd8, hdL, hdt⟩
        simp only [if_false, Bool.false_eq_true] at hB8
        rw [Hdl.out, Hlen.out, ← Hdone.out] at hdt
        have hr8 := hrf.keep k8 (by simp; exact ⟨rbf, rdf⟩)
        clear cf0
        have cf0 := hr8.cell (i := 0) rfl
        have Hdt := Lib.hid hdt
        have HdL := Lib.hid hdL
        clear hdt hdL
        go_wp2_with fail
        refine (writtenA b p d L pre X len _ hB8).mono ?_
        rw [Hdl.out]
        rintro e w9 ⟨rfl, nq, rfl⟩
        go_wp2
        go_ret
        exact ⟨rfl, (((K7.trans k8 (by simp))).drewN _), data, hd8.drewN _, HdL.out, Hdt.out⟩

set_option maxRecDepth 100000 in
set_option maxHeartbeats 2000000 in
theorem flush_none (r b p d g L W cur rep : Nat) (fin : List Nat) (w : World) (h : EncAt w r b p d g L W cur 0 0 [] fin none) (hW0 : 0 < W) (hW : W ≤ 64) (hfl : fin.length ≤ L) :
    Calls Tryz.prog 39 #[.pointer (some ⟨r, 0, none⟩)] w fun e w' =>
      e = .returned (.int .i64 (fin.length : Int)) ∧ Keep [r, b, d, g] w w' ∧ ∃ data, Blk w' d (rowV .u8 data) ∧ data.length = L ∧ data.take fin.length = fin := by
  obtain ⟨ind, x, cells, hr, -⟩ := EncAt.opened h
  have c0 := hr.cell (i := 0) rfl
  have c1 : w.cell? ⟨r, 1, none⟩ = some (.slice (some ⟨g, 0, none⟩) 0 8) := hr.cell (i := 1) rfl
  have c4 : w.cell? ⟨r, 4, none⟩ = some (.int .i32 0) := hr.cell (i := 4) rfl
  have c5 : w.cell? ⟨r, 5, none⟩ = some (.int .i32 0) := hr.cell (i := 5) rfl
  have Hfl := Lib.hid hfl
  have hEf := h
  clear hfl hr h
  go_enter Tryz.func39, Tryz.ntmps39
  obtain ⟨pre, X, len, hl8, hdone, hRE⟩ := hEf
  have hBf := hRE.hB
  obtain ⟨xf, hrf⟩ := hRE.hr
  have hlen : (len + 7) / 8 = len / 8 := by omega
  have hdl : pre.length + (len + 7) / 8 = fin.length := by rw [hdone]; simp; omega
  have hroomf := Hfl.out
  have Hdone := Lib.hid hdone
  have Hlen := Lib.hid hlen
  have Hdl := Lib.hid hdl
  have rbf := hRE.rb
  have rdf := hRE.rd
  have cf0 := hrf.cell (i := 0) rfl
  clear hdone hlen hdl hl8 hRE
  go_wp2_with fail
  refine (flushA false b p d L pre X len _ hBf (by rw [Hdl.out]; exact hroomf)).mono ?_
  rintro e w8 ⟨rfl, k8, hB8, data, hd8, hdL, hdt⟩
  simp only [if_false, Bool.false_eq_true] at hB8
  rw [Hdl.out, Hlen.out, ← Hdone.out] at hdt
  have hr8 := hrf.keep k8 (by simp; exact ⟨rbf, rdf⟩)
  clear cf0
  have cf0 := hr8.cell (i := 0) rfl
  have Hdt := Lib.hid hdt
  have HdL := Lib.hid hdL
  clear hdt hdL
  go_wp2_with fail
  refine (writtenA b p d L pre X len _ hB8).mono ?_
  rw [Hdl.out]
  rintro e w9 ⟨rfl, nq, rfl⟩
  go_wp2
  go_ret
  exact ⟨rfl, (((Keep.refl [r, b, d, g] w).trans k8 (by simp))).drewN _, data, hd8.drewN _, HdL.out, Hdt.out⟩

/-- **Flush**, by what the encoder holds. -/
theorem flushC (r b p d g L W : Nat) (s : St) (w : World) (h : EncS w r b p d g L W s) (hok : s.Ok W L) (hW0 : 0 < W) (hW : W ≤ 64)
    (hrb : s.rep < 8 → s.rep ≤ s.buf.length ∧ (s.buf ≠ [] → 0 < s.rep)) (hroom : s.done.length + 1 + W * ((s.o.getD []).length + (s.buf.length + 7) / 8 * 8) / 8 ≤ L) (hfl : (s.finish W).length ≤ L) :
    Calls Tryz.prog 39 #[.pointer (some ⟨r, 0, none⟩)] w fun e w' =>
      e = .returned (.int .i64 ((s.finish W).length : Int)) ∧ Keep [r, b, d, g] w w' ∧ ∃ data, Blk w' d (rowV .u8 data) ∧ data.length = L ∧ data.take (s.finish W).length = s.finish W := by
  obtain ⟨cur, rep, lit, buf, done, o⟩ := s
  have hlit := hok.lit
  have hlitb := hok.litb
  have hrep := hok.repb
  have ho := hok.o
  have hsmall := hok.small
  have hr8 := hok.rep8
  simp only at hlit hlitb hrep ho hsmall hr8 hrb hroom
  have hfl' := hfl
  unfold EncS at h
  simp only at h
  unfold St.finish at hfl ⊢
  simp only at hfl ⊢
  by_cases ha : lit = 0 ∧ 0 < rep ∧ (rep = buf.length ∨ buf = [])
  · rw [if_pos ha] at hfl ⊢
    obtain ⟨h0, h1, h2⟩ := ha
    have := ho h0
    subst this h0
    exact (flush_rep r b p d g L W cur rep buf done w h hW0 hW h1 hrep h2 _ rfl hfl).mono fun e w' ⟨h1, k, h2⟩ => ⟨h1, k.weaken (by simp), h2⟩
  · rw [if_neg ha] at hfl ⊢
    by_cases hz : lit = 0 ∧ buf = []
    · rw [if_pos hz] at hfl ⊢
      obtain ⟨h0, hb⟩ := hz
      have ho := ho h0
      have h0r : rep = 0 := by
        rcases Nat.eq_zero_or_pos rep with h | h
        · exact h
        · exact absurd ⟨h0, h, Or.inr hb⟩ ha
      subst ho h0 hb h0r
      exact flush_none r b p d g L W cur 0 done w h hW0 hW hfl
    · rw [if_neg hz] at hfl ⊢
      by_cases h0 : lit = 0
      · have hb : buf ≠ [] := fun hb => hz ⟨h0, hb⟩
        have hlen : 0 < buf.length := List.length_pos_iff.2 hb
        have h8 : rep < 8 := by
          apply Decidable.byContradiction
          intro hn
          exact hb (hr8 (by omega)).2
        obtain ⟨h1, h2⟩ := hrb h8
        have h2 := h2 hb
        have : rep ≠ buf.length := fun hE => ha ⟨h0, h2, Or.inl hE⟩
        exact flush_buf r b p d g L W cur rep lit buf done o w h hW0 hW (by omega) h2 h0 hlit hsmall hroom _ rfl hfl
      · exact flush_lit r b p d g L W cur rep lit buf done o w h hW0 hW hrep (by omega) hlitb hlit hsmall hroom _ rfl hfl
end Go.Proofs.YtlolcgklcnechaaGreatDoor
set_option linter.unusedVariables false
namespace Go.Proofs.YtlolcgklcnechaaGreatDoor
open Go.RowKit

theorem newWriterAt (d L C : Nat) (w : World) :
    Calls Tryz.prog 37 #[.slice (some ⟨d, 0, none⟩) L C] w fun e w' =>
      e = .returned (.iface 176 (.pointer (some ⟨w.heap.size, 0, none⟩))) ∧ w' = w.alloc (.cells #[.slice (some ⟨d, 0, none⟩) L C] 178) := by
  go_enter Tryz.func37, Tryz.ntmps37
  go_wp2
  go_ret
  exact ⟨rfl, rfl⟩

def bwRest : List Value := List.replicate 10 (.int .u8 0) ++ List.replicate 8 (.int .u8 0)

theorem newBitWriter (p : Nat) (w : World) :
    Calls Tryz.prog 84 #[.iface 176 (.pointer (some ⟨p, 0, none⟩))] w fun e w' =>
      e = .returned (.pointer (some ⟨w.heap.size, 0, none⟩)) ∧ w' = w.alloc (.cells (bwCells p 0 0 0 bwRest).toArray 235) := by
  go_enter Tryz.func84, Tryz.ntmps84
  go_wp2
  go_ret
  exact ⟨rfl, rfl⟩

theorem encFresh {w : World} {r b p d g L W : Nat} (hp : Blk w p [.slice (some ⟨d, 0, none⟩) L L]) (hd : Blk w d (rowV .u8 (List.replicate L 0))) (hL : L ≤ 1099511627776)
    (hb : Blk w b (bwCells p 0 0 0 bwRest)) (hg : Blk w g (rowV .u64 (List.replicate 8 0))) (hr : Blk w r (reCells b g 0 W 0 0 0 (-1) 0))
    (rb : r ≠ b) (rp : r ≠ p) (rd : r ≠ d) (rg : r ≠ g) (gb : g ≠ b) (gp : g ≠ p) (gd : g ≠ d) (bp : b ≠ p) (bd : b ≠ d) (pd : p ≠ d) : EncS w r b p d g L W ⟨0, 0, 0, [], [], none⟩ := by
  refine ⟨[], 0, 0, rfl, rfl, ⟨0, hr⟩, ⟨List.replicate 8 0, by simp, by simp, hg⟩, ⟨List.replicate L 0, 0, 0, 0, 0, ?_, by simp, rfl, rfl, rfl, by simp, rfl⟩, rb, rp, rd, rg, gb, gp, gd, by simp⟩
  exact ⟨⟨bwRest, rfl, by intro v hv; simp [bwRest] at hv; rw [hv]; rfl, hb⟩, by simpa using hp, hd, bp, bd, pd, by simpa using hL, by simp, by omega⟩

set_option maxRecDepth 100000 in
set_option maxHeartbeats 1000000 in
theorem newRleEncoder (p d L W : Nat) (w : World) (hp : Blk w p [.slice (some ⟨d, 0, none⟩) L L]) (hd : Blk w d (rowV .u8 (List.replicate L 0))) (hL : L ≤ 1099511627776) (pd : p ≠ d) :
    Calls Tryz.prog 36 #[.iface 176 (.pointer (some ⟨p, 0, none⟩)), .int .i64 (W : Int)] w fun e w' =>
      ∃ r b g, e = .returned (.pointer (some ⟨r, 0, none⟩)) ∧ Keep [] w w' ∧ w.heap.size ≤ r ∧ w.heap.size ≤ b ∧ w.heap.size ≤ g ∧ EncS w' r b p d g L W ⟨0, 0, 0, [], [], none⟩ := by
  have hmk : ∀ w, (Instr.makeSlice 22 (.int .i64 0) (.int .i64 8)).run Tryz.prog w = .ok (.slice (some ⟨w.heap.size, 0, none⟩) 0 8) (w.alloc (.cells (rowV .u64 (List.replicate 8 0)).toArray 43)) := fun _ => by kernel_rfl
  go_enter Tryz.func36, Tryz.ntmps36
  go_wp2_with fail
  go_region_with (go_at_call 84; refine (newBitWriter p _).mono ?_; rintro e w' ⟨rfl, rfl⟩)
  all_goals
    go_wp2
    go_ret
  · refine ⟨w.heap.size + 1 + 1, w.heap.size, w.heap.size + 1, rfl, ((((Keep.refl [] w).alloc _).alloc _).alloc _).drewN _, by omega, by omega, by omega, ?_⟩
    have pl := hp.lt
    have dl := hd.lt
    have hB := ((Blk.new w (bwCells p 0 0 0 bwRest) 235).alloc (.cells (rowV .u64 (List.replicate 8 0)).toArray 43)).alloc (.cells (reCells w.heap.size (w.heap.size + 1) 0 W 0 0 0 (-1) 0).toArray 175)
    have hG := (Blk.of_new (w := w.alloc (.cells (bwCells p 0 0 0 bwRest).toArray 235)) (b := w.heap.size + 1) (cs := rowV .u64 (List.replicate 8 0)) (T := 43) (by simp)).alloc (.cells (reCells w.heap.size (w.heap.size + 1) 0 W 0 0 0 (-1) 0).toArray 175)
    have hR := Blk.of_new (w := (w.alloc (.cells (bwCells p 0 0 0 bwRest).toArray 235)).alloc (.cells (rowV .u64 (List.replicate 8 0)).toArray 43)) (b := w.heap.size + 1 + 1) (cs := reCells w.heap.size (w.heap.size + 1) 0 W 0 0 0 (-1) 0) (T := 175) (by simp)
    exact encFresh (((hp.alloc _).alloc _).alloc _) (((hd.alloc _).alloc _).alloc _) hL hB hG hR (by omega) (by omega) (by omega) (by omega) (by omega) (by omega) (by omega) (by omega) (by omega) pd
  · refine ⟨w.heap.size + 1 + 1, w.heap.size + 1, w.heap.size, rfl, ((((Keep.refl [] w).alloc _).alloc _).alloc _).drewN _, by omega, by omega, by omega, ?_⟩
    have pl := hp.lt
    have dl := hd.lt
    have hG := ((Blk.new w (rowV .u64 (List.replicate 8 0)) 43).alloc (.cells (bwCells p 0 0 0 bwRest).toArray 235)).alloc (.cells (reCells (w.heap.size + 1) w.heap.size 0 W 0 0 0 (-1) 0).toArray 175)
    have hB := (Blk.of_new (w := w.alloc (.cells (rowV .u64 (List.replicate 8 0)).toArray 43)) (b := w.heap.size + 1) (cs := bwCells p 0 0 0 bwRest) (T := 235) (by simp)).alloc (.cells (reCells (w.heap.size + 1) w.heap.size 0 W 0 0 0 (-1) 0).toArray 175)
    have hR := Blk.of_new (w := (w.alloc (.cells (rowV .u64 (List.replicate 8 0)).toArray 43)).alloc (.cells (bwCells p 0 0 0 bwRest).toArray 235)) (b := w.heap.size + 1 + 1) (cs := reCells (w.heap.size + 1) w.heap.size 0 W 0 0 0 (-1) 0) (T := 175) (by simp)
    exact encFresh (((hp.alloc _).alloc _).alloc _) (((hd.alloc _).alloc _).alloc _) hL hB hG hR (by omega) (by omega) (by omega) (by omega) (by omega) (by omega) (by omega) (by omega) (by omega) pd

/-- MaxRLEBufferSize + MinRLEBufferSize. -/
def maxRle (W n : Nat) : Nat := max ((n + 7) / 8 + (n + 7) / 8 * W) ((n + 7) / 8 * (1 + (W + 7) / 8))
def minRle (W : Nat) : Nat := max (1 + (512 * W + 7) / 8) (5 + (W + 7) / 8)

set_option maxRecDepth 100000 in
theorem maxRleC (W n : Nat) (w : World) (hW : W ≤ 64) (hn : n ≤ 2147483648) :
    Calls Tryz.prog 34 #[.int .i64 (W : Int), .int .i64 (n : Int)] w fun e w' =>
      e = .returned (.int .i64 (maxRle W n : Int)) ∧ w' = w := by
  have h1 : (n + 7) / 8 * W ≤ 300000000 * 64 := Nat.mul_le_mul (by omega) hW
  have h2 : (n + 7) / 8 * (1 + (W + 7) / 8) ≤ 300000000 * 100 := Nat.mul_le_mul (by omega) (by omega)
  obtain ⟨a, ha⟩ : ∃ a, a = (n + 7) / 8 := ⟨_, rfl⟩
  obtain ⟨c, hc⟩ : ∃ c, c = (W + 7) / 8 := ⟨_, rfl⟩
  unfold maxRle
  rw [← ha, ← hc] at h2 ⊢
  rw [← ha] at h1
  obtain ⟨x, hx⟩ : ∃ x, x = a * W := ⟨_, rfl⟩
  obtain ⟨y, hy⟩ : ∃ y, y = a * (1 + c) := ⟨_, rfl⟩
  have hxi : (a : Int) * (W : Int) = (x : Int) := by rw [hx]; simp
  have hyi : (a : Int) * (1 + (c : Int)) = (y : Int) := by rw [hy]; simp
  rw [← hx] at h1 ⊢
  rw [← hy] at h2 ⊢
  have Ha := Lib.hid ha
  have Hc := Lib.hid hc
  have ha2 : a ≤ 300000000 := by omega
  have hc2 : c ≤ 100 := by omega
  clear ha hc hx hy
  go_enter Tryz.func34, Tryz.ntmps34
  go_wp2_with (first
    | (go_at_call_of 83 (n : Int); refine (bytesForBitsN n a _ Ha.out (by omega)).mono ?_; rintro e w' ⟨rfl, rfl⟩)
    | (go_at_call_of 83 (W : Int); refine (bytesForBitsN W c _ Hc.out (by omega)).mono ?_; rintro e w' ⟨rfl, rfl⟩))
  all_goals
    go_ret
    refine ⟨?_, rfl⟩
    refine congrArg (fun z => Ending.returned (.int .i64 z)) ?_
    rw [Nat.max_def]
    split <;> omega

set_option maxRecDepth 100000 in
theorem minRleC (W : Nat) (w : World) (hW : W ≤ 64) :
    Calls Tryz.prog 35 #[.int .i64 (W : Int)] w fun e w' =>
      e = .returned (.int .i64 (minRle W : Int)) ∧ w' = w := by
  obtain ⟨a, ha⟩ : ∃ a, a = (512 * W + 7) / 8 := ⟨_, rfl⟩
  obtain ⟨c, hc⟩ : ∃ c, c = (W + 7) / 8 := ⟨_, rfl⟩
  unfold minRle
  rw [← ha, ← hc]
  have Ha := Lib.hid ha
  have Hc := Lib.hid hc
  have ha2 : a ≤ 300000000 := by omega
  have hc2 : c ≤ 100 := by omega
  obtain ⟨x, hx⟩ : ∃ x, x = 512 * W := ⟨_, rfl⟩
  have hxi : 512 * (W : Int) = (x : Int) := by rw [hx]; simp
  have hxl : x ≤ 32768 := by omega
  have Hx := Lib.hid hx
  clear ha hc hx
  go_enter Tryz.func35, Tryz.ntmps35
  go_wp2_with (first
    | (go_at_call_of 83 (x : Int); refine (bytesForBitsN x a _ (by rw [Hx.out]; exact Ha.out) (by omega)).mono ?_; rintro e w' ⟨rfl, rfl⟩)
    | (go_at_call_of 83 (W : Int); refine (bytesForBitsN W c _ Hc.out (by omega)).mono ?_; rintro e w' ⟨rfl, rfl⟩))
  all_goals
    go_ret
    refine ⟨?_, rfl⟩
    refine congrArg (fun z => Ending.returned (.int .i64 z)) ?_
    rw [Nat.max_def]
    split <;> omega
end Go.Proofs.YtlolcgklcnechaaGreatDoor
