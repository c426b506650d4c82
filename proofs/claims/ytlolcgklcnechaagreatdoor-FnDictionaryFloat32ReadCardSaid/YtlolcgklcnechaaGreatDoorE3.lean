/- The RLE encoder: Put. -/
import Derived.Test.YtlolcgklcnechaaGreatDoorE2
import Derived.Test.YtlolcgklcnechaaGreatDoorBase
set_option linter.unusedVariables false
namespace Go.Proofs.YtlolcgklcnechaaGreatDoor
open Go.RowKit

/-- What the encoder holds: the current value and its repetitions, how many literals, what is buffered, the finished bytes, the open run. -/
structure St where
  cur : Nat
  rep : Nat
  lit : Nat
  buf : List Nat
  done : List Nat
  o : Option (List Nat)

def EncS (w : World) (r b p d g L W : Nat) (s : St) : Prop := EncAt w r b p d g L W s.cur s.rep s.lit s.buf s.done s.o

def St.flushBuf (W : Nat) (s : St) : St :=
  if 8 ≤ s.rep then { s with lit := 0, buf := [], o := none, done := if s.lit = 0 then s.done else s.done ++ (2 * (s.lit / 8) + 1) :: leBytes (W * s.lit / 8) (packN W (s.o.getD [])) }
  else if s.lit = 496 then { s with rep := 0, lit := 0, buf := [], o := none, done := s.done ++ 127 :: leBytes (W * 504 / 8) (packN W (s.o.getD [] ++ s.buf)) }
  else { s with rep := 0, lit := s.lit + 8, buf := [], o := some (s.o.getD [] ++ s.buf) }

def St.push (W : Nat) (s : St) (v : Nat) : St :=
  if s.buf.length = 7 then ({ s with buf := s.buf ++ [v] }).flushBuf W else { s with buf := s.buf ++ [v] }

def St.put (W : Nat) (s : St) (v : Nat) : St :=
  if s.cur = v then (if 8 ≤ s.rep then { s with rep := s.rep + 1 } else ({ s with rep := s.rep + 1 }).push W v)
  else if 8 ≤ s.rep then ({ s with rep := 1, cur := v, buf := [], done := s.done ++ vlq (2 * s.rep) ++ leBytes ((W + 7) / 8) s.cur }).push W v
  else ({ s with rep := 1, cur := v }).push W v

structure St.Ok (W L : Nat) (s : St) : Prop where
  repb : s.rep < 100000
  litb : s.lit ≤ 496
  lit : s.lit = (s.o.getD []).length
  o : s.lit = 0 → s.o = none
  buf8 : s.buf.length < 8
  small : ∀ v ∈ s.buf, v < 2 ^ W
  rep8 : 8 ≤ s.rep → s.o = none ∧ s.buf = []
  roomL : s.done.length + 1 + W * ((s.o.getD []).length + 8) / 8 ≤ L
  roomR : 8 ≤ s.rep → s.done.length + (vlq (2 * s.rep)).length + (W + 7) / 8 ≤ L

theorem info_u64 : (Tryz.prog.info? 43).map (fun i => (i.zero, i.size, i.bytes)) = some (some (.int .u64 0), 1, 8) := by kernel_rfl

set_option maxRecDepth 100000 in
set_option maxHeartbeats 1000000 in
theorem put_same8 (r b p d g L W v : Nat) (s : St) (w : World) (h : EncS w r b p d g L W s) (hok : s.Ok W L) (hv : s.cur = v) (h8 : 8 ≤ s.rep) :
    Calls Tryz.prog 40 #[.pointer (some ⟨r, 0, none⟩), .int .u64 (v : Int)] w fun e w' =>
      e = .returned .nilIface ∧ Keep [r, b, d, g] w w' ∧ EncS w' r b p d g L W { s with rep := s.rep + 1 } := by
  obtain ⟨cur, rep, lit, buf, done, o⟩ := s
  simp only at hv h8 ⊢
  subst hv
  obtain ⟨ind, x, cells, hr, -⟩ := EncAt.opened h
  have hb := hok.repb
  simp only at hb hr
  have c3 := hr.cell (i := 3) rfl
  have c4 := hr.cell (i := 4) rfl
  have hf := hr.unfrozen
  have h8' : (8 : Int) < (rep : Int) + 1 := by omega
  have hE := EncAt.setRep h (rep + 1)
  have HE := Lib.hid hE
  clear h hE
  go_enter Tryz.func40, Tryz.ntmps40
  go_wp2
  go_ret
  refine ⟨rfl, (Keep.refl _ _).set (by simp) _ _ _, ?_⟩
  have := HE.out
  simpa [EncS] using this

theorem flushBufS (r b p d g L W : Nat) (s : St) (w : World) (h : EncS w r b p d g L W s) (hW : W ≤ 64) (hb8 : s.buf.length = 8) (hrep : s.rep < 100000) (hlit2 : s.lit ≤ 496)
    (hlit : s.lit = (s.o.getD []).length) (ho : s.lit = 0 → s.o = none) (hsmall : ∀ v ∈ s.buf, v < 2 ^ W) (hroom : s.done.length + 1 + W * ((s.o.getD []).length + 8) / 8 ≤ L) :
    Calls Tryz.prog 90 #[.pointer (some ⟨r, 0, none⟩), .bool false] w fun e w' =>
      e = .returned .nilIface ∧ Keep [r, b, d] w w' ∧ EncS w' r b p d g L W (s.flushBuf W) := by
  obtain ⟨cur, rep, lit, buf, done, o⟩ := s
  simp only at hb8 hrep hlit2 hlit ho hsmall hroom
  by_cases h8 : 8 ≤ rep
  · refine (flushBuf_rep r b p d g L W cur rep lit buf done o w h hW h8 (by omega) ?_ hlit (by omega) ho).mono ?_
    · have : W * (o.getD []).length / 8 ≤ W * ((o.getD []).length + 8) / 8 := Nat.div_le_div_right (Nat.mul_le_mul_left _ (by omega))
      omega
    rintro e w' ⟨rfl, k, hE⟩
    refine ⟨rfl, k, ?_⟩
    unfold EncS St.flushBuf
    rw [if_pos h8]
    exact hE
  · refine (flushBuf_lit r b p d g L W cur rep lit buf done o w h hW (by omega) hb8 hsmall hroom hlit hlit2).mono ?_
    rintro e w' ⟨rfl, k, hE⟩
    refine ⟨rfl, k, ?_⟩
    unfold EncS St.flushBuf
    rw [if_neg h8]
    by_cases hz : lit = 496
    · rw [if_pos hz] at hE ⊢; exact hE
    · rw [if_neg hz] at hE ⊢; exact hE

theorem EncAt.push {w : World} {r b p d g L W cur rep lit : Nat} {buf done : List Nat} {o : Option (List Nat)} (h : EncAt w r b p d g L W cur rep lit buf done o) (hb : buf.length < 8) (v : Nat) (T : TypeId) :
    EncAt (((w.alloc (.cells #[.int .u64 (v : Int)] T)).setCell ⟨g, buf.length, none⟩ (.int .u64 (v : Int))).setCell ⟨r, 1, none⟩ (.slice (some ⟨g, 0, none⟩) (buf.length + 1) 8)) r b p d g L W cur rep lit (buf ++ [v]) done o := by
  obtain ⟨ind, x, cells, hr, hc8, hcells, hg, rb, rp, rd, rg, gb, gp, gd, bl8, back⟩ := h.opened
  refine back _ cur rep lit (buf ++ [v]) (cells.set buf.length v) ?_ ?_ (by simpa using hc8) ?_ ?_ (by simp; omega)
  · exact (((Keep.refl _ _).alloc _).set (by simp) _ _ _).set (by simp) _ _ _
  · have := ((hr.alloc (.cells #[.int .u64 (v : Int)] T)).set_other rg buf.length none (.int .u64 (v : Int))).set 1 (.slice (some ⟨g, 0, none⟩) (buf.length + 1) 8)
    simpa [reCells] using this
  · rw [List.length_append, List.length_singleton, List.take_succ_eq_append_getElem (by simp; omega), List.take_set_of_le (Nat.le_refl _), hcells]
    simp
  · rw [rowV_set]
    exact ((hg.alloc _).set _ _).set_other (Ne.symm rg) _ _ _

set_option maxRecDepth 100000 in
set_option maxHeartbeats 1000000 in
theorem put_same (r b p d g L W v : Nat) (s : St) (w : World) (h : EncS w r b p d g L W s) (hok : s.Ok W L) (hv : s.cur = v) (hv2 : v < 2 ^ W) (hW : W ≤ 64) (h8 : s.rep < 8) :
    Calls Tryz.prog 40 #[.pointer (some ⟨r, 0, none⟩), .int .u64 (v : Int)] w fun e w' =>
      e = .returned .nilIface ∧ Keep [r, b, d, g] w w' ∧ EncS w' r b p d g L W (({ s with rep := s.rep + 1 }).push W v) := by
  obtain ⟨v1, rep, lit1, buf1, done1, o1⟩ := s
  simp only at hv h8 ⊢
  subst hv
  obtain ⟨rep1, hrep1⟩ : ∃ rep1, rep1 = rep + 1 := ⟨_, rfl⟩
  rw [← hrep1]
  obtain ⟨wS, hwS⟩ : ∃ wS, wS = w.setCell ⟨r, 4, none⟩ (.int .i32 ((rep : Int) + 1)) := ⟨_, rfl⟩
  have he : EncAt wS r b p d g L W v1 rep1 lit1 buf1 done1 o1 := by rw [hwS, hrep1]; simpa using EncAt.setRep h (rep + 1)
  have HE := Lib.hid he
  obtain ⟨ind0, x0, cells0, hr0, -⟩ := EncAt.opened h
  obtain ⟨ind, x, cells, -, hc8, hcells, hgS, rb, rp, rd, rg, gb, gp, gd, bl8, -⟩ := EncAt.opened he
  have hb := hok.repb
  have hb8 := hok.buf8
  have hlitb := hok.litb
  have Hlit := Lib.hid hok.lit
  have Hlito := Lib.hid hok.o
  have Hsmall := Lib.hid hok.small
  have Hroom := Lib.hid hok.roomL
  simp only at hb hr0 hb8 hlitb
  have Hrep : Hid (rep1 < 100000) := Lib.hid (by omega)
  have Hv2 := Lib.hid hv2
  have KS : Keep [r, b, d, g] w wS := by rw [hwS]; exact (Keep.refl _ _).set (by simp) _ _ _
  obtain ⟨i0, hi, hz0, hz1, hz2⟩ := info_parts info_u64
  have c1 := hr0.cell (i := 1) rfl
  have c3 := hr0.cell (i := 3) rfl
  have c4 := hr0.cell (i := 4) rfl
  have hf := hr0.unfrozen
  have h8' : ¬ (8 : Int) < (rep : Int) + 1 := by omega
  have gr := Ne.symm rg
  have hrl := hr0.lt
  subst hwS
  clear hrep1 he h hok hv2 hcells
  go_enter Tryz.func40, Tryz.ntmps40
  by_cases h7 : buf1.length = 7
  · have h7' : ((buf1.length : Int) + 1 == 8) = true := by rw [h7]; rfl
    have H7 := Lib.hid h7
    clear h7
    go_wp2_with (at_builtin; refine wpList_push rfl _ _ _ rfl _ i0 Tryz.underlying22 hi hz1 g 0 buf1.length 8 _ 1 _ rfl rfl (by simp) rfl hgS (by omega) (by simp; omega) ?_)
    refine (flushBufS r b p d g L W { cur := v1, rep := rep1, lit := lit1, buf := buf1 ++ [v1], done := done1, o := o1 } _ (HE.out.push (by omega) v1 43) hW (by simp; exact H7.out) Hrep.out hlitb Hlit.out Hlito.out ?_ Hroom.out).mono ?_
    · intro y hy
      simp only [List.mem_append, List.mem_singleton] at hy
      rcases hy with hy | rfl
      · exact Hsmall.out y hy
      · exact Hv2.out
    rintro e w9 ⟨rfl, k9, hE9⟩
    go_wp2
    go_ret
    refine ⟨rfl, (KS.trans ((((Keep.refl [r, b, d, g] _).alloc _).set (by simp) _ _ _).set (by simp) _ _ _) (by simp)).trans k9 (by simp), ?_⟩
    unfold St.push
    rw [if_pos H7.out]
    exact hE9
  · have h7' : ((buf1.length : Int) + 1 == 8) = false := by simp; omega
    have H7 := Lib.hid h7
    clear h7
    go_wp2_with (at_builtin; refine wpList_push rfl _ _ _ rfl _ i0 Tryz.underlying22 hi hz1 g 0 buf1.length 8 _ 1 _ rfl rfl (by simp) rfl hgS (by omega) (by simp; omega) ?_)
    go_ret
    refine ⟨rfl, KS.trans ((((Keep.refl [r, b, d, g] _).alloc _).set (by simp) _ _ _).set (by simp) _ _ _) (by simp), ?_⟩
    unfold St.push
    rw [if_neg H7.out]
    exact HE.out.push (by omega) v1 43

set_option maxRecDepth 100000 in
set_option maxHeartbeats 1000000 in
theorem put_diff (r b p d g L W v1 : Nat) (s : St) (w : World) (h : EncS w r b p d g L W s) (hok : s.Ok W L) (hv : s.cur ≠ v1) (hv2 : v1 < 2 ^ W) (hW : W ≤ 64) (h8 : s.rep < 8) :
    Calls Tryz.prog 40 #[.pointer (some ⟨r, 0, none⟩), .int .u64 (v1 : Int)] w fun e w' =>
      e = .returned .nilIface ∧ Keep [r, b, d, g] w w' ∧ EncS w' r b p d g L W (({ s with rep := 1, cur := v1 }).push W v1) := by
  obtain ⟨cur, rep, lit1, buf1, done1, o1⟩ := s
  simp only at hv h8 ⊢
  obtain ⟨rep1, hrep1⟩ : ∃ rep1, rep1 = 1 := ⟨_, rfl⟩
  rw [← hrep1]
  obtain ⟨wS, hwS⟩ : ∃ wS, wS = (w.setCell ⟨r, 4, none⟩ (.int .i32 1)).setCell ⟨r, 3, none⟩ (.int .u64 (v1 : Int)) := ⟨_, rfl⟩
  have he : EncAt wS r b p d g L W v1 rep1 lit1 buf1 done1 o1 := by rw [hwS, hrep1]; exact (EncAt.setRep h 1).setCur v1
  have HE := Lib.hid he
  obtain ⟨ind0, x0, cells0, hr0, -⟩ := EncAt.opened h
  obtain ⟨ind, x, cells, -, hc8, hcells, hgS, rb, rp, rd, rg, gb, gp, gd, bl8, -⟩ := EncAt.opened he
  have hb8 := hok.buf8
  have hlitb := hok.litb
  have Hlit := Lib.hid hok.lit
  have Hlito := Lib.hid hok.o
  have Hsmall := Lib.hid hok.small
  have Hroom := Lib.hid hok.roomL
  simp only at hr0 hb8 hlitb
  have Hrep : Hid (rep1 < 100000) := Lib.hid (by omega)
  have Hv2 := Lib.hid hv2
  have KS : Keep [r, b, d, g] w wS := by rw [hwS]; exact ((Keep.refl _ _).set (by simp) _ _ _).set (by simp) _ _ _
  obtain ⟨i0, hi, hz0, hz1, hz2⟩ := info_parts info_u64
  have c1 := hr0.cell (i := 1) rfl
  have c3 := hr0.cell (i := 3) rfl
  have c4 := hr0.cell (i := 4) rfl
  have hf := hr0.unfrozen
  have hne : ((cur : Int) == (v1 : Int)) = false := by simp; omega
  have h8' : ¬ (8 : Int) ≤ (rep : Int) := by omega
  have gr := Ne.symm rg
  have hrl := hr0.lt
  subst hwS
  clear hrep1 he h hok hv2 hcells hv
  go_enter Tryz.func40, Tryz.ntmps40
  by_cases h7 : buf1.length = 7
  · have h7' : ((buf1.length : Int) + 1 == 8) = true := by rw [h7]; rfl
    have H7 := Lib.hid h7
    clear h7
    go_wp2_with (at_builtin; refine wpList_push rfl _ _ _ rfl _ i0 Tryz.underlying22 hi hz1 g 0 buf1.length 8 _ 1 _ rfl rfl (by simp) rfl hgS (by omega) (by simp; omega) ?_)
    refine (flushBufS r b p d g L W { cur := v1, rep := rep1, lit := lit1, buf := buf1 ++ [v1], done := done1, o := o1 } _ (HE.out.push (by omega) v1 43) hW (by simp; exact H7.out) Hrep.out hlitb Hlit.out Hlito.out ?_ Hroom.out).mono ?_
    · intro y hy
      simp only [List.mem_append, List.mem_singleton] at hy
      rcases hy with hy | rfl
      · exact Hsmall.out y hy
      · exact Hv2.out
    rintro e w9 ⟨rfl, k9, hE9⟩
    go_wp2
    go_ret
    refine ⟨rfl, (KS.trans ((((Keep.refl [r, b, d, g] _).alloc _).set (by simp) _ _ _).set (by simp) _ _ _) (by simp)).trans k9 (by simp), ?_⟩
    unfold St.push
    rw [if_pos H7.out]
    exact hE9
  · have h7' : ((buf1.length : Int) + 1 == 8) = false := by simp; omega
    have H7 := Lib.hid h7
    clear h7
    go_wp2_with (at_builtin; refine wpList_push rfl _ _ _ rfl _ i0 Tryz.underlying22 hi hz1 g 0 buf1.length 8 _ 1 _ rfl rfl (by simp) rfl hgS (by omega) (by simp; omega) ?_)
    go_ret
    refine ⟨rfl, KS.trans ((((Keep.refl [r, b, d, g] _).alloc _).set (by simp) _ _ _).set (by simp) _ _ _) (by simp), ?_⟩
    unfold St.push
    rw [if_neg H7.out]
    exact HE.out.push (by omega) v1 43

set_option maxRecDepth 100000 in
set_option maxHeartbeats 1000000 in
theorem put_diff8_aux (r b p d g L W v1 cur rep lit1 rep1 : Nat) (done done1 buf1 : List Nat) (o1 : Option (List Nat)) (w : World) (h : EncAt w r b p d g L W cur rep lit1 [] done none)
    (hok : St.Ok W L ⟨cur, rep, lit1, [], done, none⟩) (hv : cur ≠ v1) (hv2 : v1 < 2 ^ W) (hW0 : 0 < W) (hW : W ≤ 64) (h8 : 8 ≤ rep)
    (hroom2 : done.length + (vlq (2 * rep)).length + (W + 7) / 8 + 1 + W ≤ L)
    (ho1 : o1 = none) (hbuf1 : buf1 = []) (hrep1 : rep1 = 1) (hdone1 : done1 = done ++ vlq (2 * rep) ++ leBytes ((W + 7) / 8) cur) :
    Calls Tryz.prog 40 #[.pointer (some ⟨r, 0, none⟩), .int .u64 (v1 : Int)] w fun e w' =>
      e = .returned .nilIface ∧ Keep [r, b, d, g] w w' ∧ EncS w' r b p d g L W (St.push W ⟨v1, rep1, lit1, buf1, done1, o1⟩ v1) := by
  obtain ⟨ind0, x0, cells0, hr0, -⟩ := EncAt.opened h
  have hlit0 : lit1 = 0 := by have := hok.lit; simpa using this
  have hlitb : lit1 ≤ 496 := by omega
  have hb8 : buf1.length < 8 := by rw [hbuf1]; simp
  have Hlit : Hid (lit1 = (o1.getD []).length) := Lib.hid (by rw [ho1, hlit0]; rfl)
  have Hlito : Hid (lit1 = 0 → o1 = none) := Lib.hid (fun _ => ho1)
  have Hsmall : Hid (∀ v ∈ buf1, v < 2 ^ W) := Lib.hid (by rw [hbuf1]; simp)
  have Hroom : Hid (done1.length + 1 + W * ((o1.getD []).length + 8) / 8 ≤ L) := Lib.hid (by
    rw [ho1, hdone1]; simp; omega)
  have Hrep : Hid (rep1 < 100000) := Lib.hid (by omega)
  have Hrep1 := Lib.hid hrep1
  have Hdone1 := Lib.hid hdone1
  have Ho1 := Lib.hid ho1
  have Hbuf1 := Lib.hid hbuf1
  have Hv2 := Lib.hid hv2
  obtain ⟨i0, hi, hz0, hz1, hz2⟩ := info_parts info_u64
  have c1 := hr0.cell (i := 1) rfl
  have c3 := hr0.cell (i := 3) rfl
  have c4 := hr0.cell (i := 4) rfl
  have hf := hr0.unfrozen
  have hne : ((cur : Int) == (v1 : Int)) = false := by simp; omega
  have h8' : (8 : Int) ≤ (rep : Int) := by omega
  have hrb := hok.repb
  simp only at hrb
  clear hrep1 hdone1 ho1 hbuf1 hlit0 hok hv2 hv
  go_enter Tryz.func40, Tryz.ntmps40
  go_wp2_with fail
  refine (flushRep r b p d g L W cur rep lit1 [] done w h hW0 hW (by omega) (by omega)).mono ?_
  rintro e w1 ⟨rfl, k1, hE1⟩
  rw [← Hdone1.out, ← Ho1.out] at hE1
  have hE1' : EncAt w1 r b p d g L W cur 0 lit1 buf1 done1 o1 := by rw [Hbuf1.out]; exact hE1
  obtain ⟨wS, hwS⟩ : ∃ wS, wS = (w1.setCell ⟨r, 4, none⟩ (.int .i32 1)).setCell ⟨r, 3, none⟩ (.int .u64 (v1 : Int)) := ⟨_, rfl⟩
  have he : EncAt wS r b p d g L W v1 rep1 lit1 buf1 done1 o1 := by rw [hwS, Hrep1.out]; exact (hE1'.setRep 1).setCur v1
  have HE := Lib.hid he
  obtain ⟨ind1, x1, cells1, hr1, -⟩ := EncAt.opened hE1'
  obtain ⟨ind, x, cells, -, hc8, hcells, hgS, rb, rp, rd, rg, gb, gp, gd, bl8, -⟩ := EncAt.opened he
  have KS : Keep [r, b, d, g] w wS := by rw [hwS]; exact ((k1.weaken (by simp)).set (by simp) _ _ _).set (by simp) _ _ _
  clear c1 c3 c4 hf hE1 hE1' he h
  have c1 := hr1.cell (i := 1) rfl
  have c3 := hr1.cell (i := 3) rfl
  have c4 := hr1.cell (i := 4) rfl
  have hf := hr1.unfrozen
  have gr := Ne.symm rg
  have hrl := hr1.lt
  subst hwS
  clear hcells
  by_cases h7 : buf1.length = 7
  · have h7' : ((buf1.length : Int) + 1 == 8) = true := by rw [h7]; rfl
    have H7 := Lib.hid h7
    clear h7
    go_wp2_with (at_builtin; refine wpList_push rfl _ _ _ rfl _ i0 Tryz.underlying22 hi hz1 g 0 buf1.length 8 _ 1 _ rfl rfl (by simp) rfl hgS (by omega) (by simp; omega) ?_)
    refine (flushBufS r b p d g L W { cur := v1, rep := rep1, lit := lit1, buf := buf1 ++ [v1], done := done1, o := o1 } _ (HE.out.push (by omega) v1 43) hW (by simp; exact H7.out) Hrep.out hlitb Hlit.out Hlito.out ?_ Hroom.out).mono ?_
    · intro y hy
      simp only [List.mem_append, List.mem_singleton] at hy
      rcases hy with hy | rfl
      · exact Hsmall.out y hy
      · exact Hv2.out
    rintro e w9 ⟨rfl, k9, hE9⟩
    go_wp2
    go_ret
    refine ⟨rfl, (KS.trans ((((Keep.refl [r, b, d, g] _).alloc _).set (by simp) _ _ _).set (by simp) _ _ _) (by simp)).trans k9 (by simp), ?_⟩
    unfold St.push
    rw [if_pos H7.out]
    exact hE9
  · have h7' : ((buf1.length : Int) + 1 == 8) = false := by simp; omega
    have H7 := Lib.hid h7
    clear h7
    go_wp2_with (at_builtin; refine wpList_push rfl _ _ _ rfl _ i0 Tryz.underlying22 hi hz1 g 0 buf1.length 8 _ 1 _ rfl rfl (by simp) rfl hgS (by omega) (by simp; omega) ?_)
    go_ret
    refine ⟨rfl, KS.trans ((((Keep.refl [r, b, d, g] _).alloc _).set (by simp) _ _ _).set (by simp) _ _ _) (by simp), ?_⟩
    unfold St.push
    rw [if_neg H7.out]
    exact HE.out.push (by omega) v1 43

theorem put_diff8 (r b p d g L W v1 : Nat) (s : St) (w : World) (h : EncS w r b p d g L W s) (hok : s.Ok W L) (hv : s.cur ≠ v1) (hv2 : v1 < 2 ^ W) (hW0 : 0 < W) (hW : W ≤ 64) (h8 : 8 ≤ s.rep)
    (hroom2 : s.done.length + (vlq (2 * s.rep)).length + (W + 7) / 8 + 1 + W ≤ L) :
    Calls Tryz.prog 40 #[.pointer (some ⟨r, 0, none⟩), .int .u64 (v1 : Int)] w fun e w' =>
      e = .returned .nilIface ∧ Keep [r, b, d, g] w w' ∧ EncS w' r b p d g L W (({ s with rep := 1, cur := v1, buf := [], done := s.done ++ vlq (2 * s.rep) ++ leBytes ((W + 7) / 8) s.cur }).push W v1) := by
  have hbufo := hok.rep8 h8
  obtain ⟨cur, rep, lit1, buf0, done, o1⟩ := s
  simp only at hv h8 hroom2 hbufo ⊢
  obtain ⟨rfl, rfl⟩ := hbufo
  exact put_diff8_aux r b p d g L W v1 cur rep lit1 1 done _ [] none w h hok hv hv2 hW0 hW h8 hroom2 rfl rfl rfl rfl

/-- **Put**, by what the encoder holds. -/
theorem putC (r b p d g L W v : Nat) (s : St) (w : World) (h : EncS w r b p d g L W s) (hok : s.Ok W L) (hv2 : v < 2 ^ W) (hW0 : 0 < W) (hW : W ≤ 64)
    (hroom2 : 8 ≤ s.rep → s.done.length + (vlq (2 * s.rep)).length + (W + 7) / 8 + 1 + W ≤ L) :
    Calls Tryz.prog 40 #[.pointer (some ⟨r, 0, none⟩), .int .u64 (v : Int)] w fun e w' =>
      e = .returned .nilIface ∧ Keep [r, b, d, g] w w' ∧ EncS w' r b p d g L W (s.put W v) := by
  unfold St.put
  by_cases hv : s.cur = v
  · by_cases h8 : 8 ≤ s.rep
    · rw [if_pos hv, if_pos h8]; exact put_same8 r b p d g L W v s w h hok hv h8
    · rw [if_pos hv, if_neg h8]; exact put_same r b p d g L W v s w h hok hv hv2 hW (by omega)
  · by_cases h8 : 8 ≤ s.rep
    · rw [if_neg hv, if_pos h8]; exact put_diff8 r b p d g L W v s w h hok hv hv2 hW0 hW h8 (hroom2 h8)
    · rw [if_neg hv, if_neg h8]; exact put_diff r b p d g L W v s w h hok hv hv2 hW (by omega)
end Go.Proofs.YtlolcgklcnechaaGreatDoor
