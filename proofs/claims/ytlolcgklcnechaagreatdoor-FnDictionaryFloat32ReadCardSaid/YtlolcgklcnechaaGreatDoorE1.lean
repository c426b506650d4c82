/- The RLE encoder: its cells, flushLiteral. -/
import Derived.Test.YtlolcgklcnechaaGreatDoorW7
import Derived.IntWalk
set_option linter.unusedVariables false
namespace Go.Proofs.YtlolcgklcnechaaGreatDoor
open Go.RowKit

/-- The cells of an RLE encoder: writer, buffer, width, current value, repetitions, literals, the indicator's place, its byte. -/
def reCells (b g bl W cur rep lit : Nat) (ind : Int) (x : Nat) : List Value :=
  [.pointer (some ⟨b, 0, none⟩), .slice (some ⟨g, 0, none⟩) bl 8, .int .i64 (W : Int), .int .u64 (cur : Int), .int .i32 (rep : Int), .int .i32 (lit : Int), .int .i64 ind, .int .u8 (x : Int)]

theorem one_reCells (b g bl W cur rep lit : Nat) (ind : Int) (x : Nat) : ∀ v ∈ reCells b g bl W cur rep lit ind x, v.oneCell' = true := by
  intro v hv
  simp only [reCells, List.mem_cons, List.not_mem_nil, or_false] at hv
  rcases hv with rfl | rfl | rfl | rfl | rfl | rfl | rfl | rfl <;> rfl

structure RE (w : World) (r b p d g L W cur rep lit : Nat) (ind : Int) (buf pre : List Nat) (X len : Nat) : Prop where
  hr : ∃ x, Blk w r (reCells b g buf.length W cur rep lit ind x)
  hg : ∃ cells, cells.length = 8 ∧ cells.take buf.length = buf ∧ Blk w g (rowV .u64 cells)
  hB : BWA w b p d L pre X len
  rb : r ≠ b
  rp : r ≠ p
  rd : r ≠ d
  rg : r ≠ g
  gb : g ≠ b
  gp : g ≠ p
  gd : g ≠ d
  bl8 : buf.length ≤ 8

/-- Where the encoder stands: 'done' is finished; a run of literals may be open behind it. -/
def EncAt (w : World) (r b p d g L W cur rep lit : Nat) (buf done : List Nat) : Option (List Nat) → Prop
  | none => ∃ pre X len, len % 8 = 0 ∧ done = pre ++ leBytes (len / 8) X ∧ RE w r b p d g L W cur rep lit (-1) buf pre X len
  | some l => ∃ x, l.length % 8 = 0 ∧ RE w r b p d g L W cur rep lit (done.length : Int) buf (done ++ [x]) (packN W l) (W * l.length)

theorem packN_snoc (W : Nat) (l : List Nat) (v : Nat) : packN W (l ++ [v]) = packN W l + v * 2 ^ (W * l.length) := by
  rw [packN_append]; simp [packN, Nat.mul_comm]


theorem BWA.drew {w : World} {b p d L : Nat} {pre : List Nat} {X len : Nat} (h : BWA w b p d L pre X len) : BWA w.drew b p d L pre X len := by
  obtain ⟨data, buf, bo, bi, q, hB, r⟩ := h
  obtain ⟨⟨rest, hr1, hr2, hb⟩, hp, hd, s⟩ := hB
  exact ⟨data, buf, bo, bi, q, ⟨⟨rest, hr1, hr2, hb⟩, hp, hd, by assumption, by assumption, by assumption, by assumption, by assumption, by assumption⟩, r⟩

theorem BWA.keep {S : List Nat} {w w' : World} {b p d L : Nat} {pre : List Nat} {X len : Nat} (h : BWA w b p d L pre X len) (k : Keep S w w') (hb' : b ∉ S) (hp' : p ∉ S) (hd' : d ∉ S) : BWA w' b p d L pre X len := by
  obtain ⟨data, buf, bo, bi, q, hB, r⟩ := h
  obtain ⟨⟨rest, hr1, hr2, hb⟩, hp, hd, s⟩ := hB
  exact ⟨data, buf, bo, bi, q, ⟨⟨rest, hr1, hr2, hb.keep k hb'⟩, hp.keep k hp', hd.keep k hd', by assumption, by assumption, by assumption, by assumption, by assumption, by assumption⟩, r⟩

theorem RE.of {w : World} {r b p d g L W cur rep lit : Nat} {ind : Int} {buf pre : List Nat} {X len : Nat} {x : Nat} {cells : List Nat}
    (hr : Blk w r (reCells b g buf.length W cur rep lit ind x)) (h8 : cells.length = 8) (ht : cells.take buf.length = buf) (hg : Blk w g (rowV .u64 cells)) (hB : BWA w b p d L pre X len)
    (rb : r ≠ b) (rp : r ≠ p) (rd : r ≠ d) (rg : r ≠ g) (gb : g ≠ b) (gp : g ≠ p) (gd : g ≠ d) (bl8 : buf.length ≤ 8) : RE w r b p d g L W cur rep lit ind buf pre X len :=
  ⟨⟨x, hr⟩, ⟨cells, h8, ht, hg⟩, hB, rb, rp, rd, rg, gb, gp, gd, bl8⟩


set_option maxRecDepth 100000 in
set_option maxHeartbeats 1000000 in
theorem flushLit_open_false (r b p d g L W cur rep lit : Nat) (buf done l : List Nat) (w : World) (h : EncAt w r b p d g L W cur rep lit buf done (some l))
    (hW : W ≤ 64) (hsmall : ∀ v ∈ buf, v < 2 ^ W) (hroom : done.length + 1 + W * (l.length + buf.length) / 8 ≤ L) (h8 : (l.length + buf.length) % 8 = 0) :
    Calls Tryz.prog 87 #[.pointer (some ⟨r, 0, none⟩), .bool false] w fun e w' =>
      e = .returned .nilIface ∧ Keep [r, b, d] w w' ∧ EncAt w' r b p d g L W cur rep lit [] done (some (l ++ buf)) := by
  obtain ⟨x1, hl8, ⟨xx, hb1⟩, ⟨cells, hc8, hcells, hg1⟩, hB1, rb, rp, rd, rg, gb, gp, gd, bl8⟩ := h
  have Hcells := Lib.hid hcells
  have Hsmall := Lib.hid hsmall
  have Hroom := Lib.hid hroom
  have H8 := Lib.hid h8
  have Hc8 := Lib.hid hc8
  have HW := IntWalk.u64_in (W : Int) (by omega)
  have hne : ((done.length : Int) == -1) = false := by simp
  obtain ⟨w1, rfl⟩ : ∃ w1, w1 = w := ⟨_, rfl⟩
  have K0 : Keep [r, b, d] w1 w1 := Keep.refl _ _
  clear hcells hsmall hroom h8 hc8
  have c0 := hb1.cell (i := 0) rfl
  have c1 := hb1.cell (i := 1) rfl
  have c6 := hb1.cell (i := 6) rfl
  go_enter Tryz.func87, Tryz.ntmps87
  go_wp2_with fail
  clear c0 c1 c6
  have c0 := hb1.cell (i := 0) rfl
  have c1 := hb1.cell (i := 1) rfl
  have c2 := hb1.cell (i := 2) rfl
  have c5 := hb1.cell (i := 5) rfl
  have c6 := hb1.cell (i := 6) rfl
  have c7 := hb1.cell (i := 7) rfl
  have hf := hb1.unfrozen
  go_wp2_with fail
  go_loopw [4, 31] (fun e i wr => ∃ k : Nat, k ≤ buf.length ∧ e = .nilIface ∧ i = .int .i64 (k : Int) ∧ Keep [b, d] w1 wr ∧ BWA wr b p d L (done ++ [x1]) (packN W (l ++ buf.take k)) (W * (l.length + k))) (fun _ i _ => buf.length - (intOf i).toNat)
  case atStart => exact ⟨0, Nat.zero_le _, rfl, rfl, Keep.refl _ _, by simpa using hB1⟩
  case round =>
    obtain ⟨k, hk, rfl, rfl, kk, hBk⟩ := hrel
    have hbk := hb1.keep kk (by simp; exact ⟨rb, rd⟩)
    have hgk := hg1.keep kk (by simp; exact ⟨gb, gd⟩)
    clear c0 c1 c2 c5 c6 c7 hf
    have c0 := hbk.cell (i := 0) rfl
    have c1 := hbk.cell (i := 1) rfl
    have c2 := hbk.cell (i := 2) rfl
    have c5 := hbk.cell (i := 5) rfl
    have c6 := hbk.cell (i := 6) rfl
    have c7 := hbk.cell (i := 7) rfl
    have hf := hbk.unfrozen
    by_cases hlt : k < buf.length
    · have hgc : wr.cell? ⟨g, k, none⟩ = some (.int .u64 (buf[k] : Int)) := hgk.cell (by
        refine rowV_get ?_
        have h1 := Hcells.out
        have h2 : (cells.take buf.length)[k]? = cells[k]? := by rw [List.getElem?_take, if_pos hlt]
        rw [← h2, h1]; simp)
      have hv := Hsmall.out buf[k] (List.getElem_mem _)
      have Hv := Lib.hid hv
      clear hv
      have hroom := Hroom.out
      go_wp2_with fail
      refine wp_region_mid 10 (by kernel_rfl) (by kernel_rfl) ?_
      simp only [List.take_succ_cons, List.take_zero, List.drop_succ_cons, List.drop_zero]
      change wpStill _ _ (World.drew _) _ _ _
      repeat still_step
      refine wpStill_nil ?_
      go_wp2_with fail
      refine (writeValueA b p d L W buf[k] _ _ _ _ (BWA.drew hBk) Hv.out (by omega) ?_).mono ?_
      · have h3 : W * (l.length + k) + W ≤ W * (l.length + buf.length) := by
          rw [← Nat.mul_succ]; exact Nat.mul_le_mul_left _ (by omega)
        have h4 := Hroom.out
        simp
        omega
      rintro e w2 ⟨rfl, k2, hB2⟩
      go_wp2_with fail
      repeat still_step
      refine wpStill_nil ?_
      go_wp2
      go_roundw
      case rel =>
        refine ⟨k + 1, by omega, rfl, by go_num, kk.drew.trans k2 (by simp), ?_⟩
        have e1 : buf.take (k + 1) = buf.take k ++ [buf[k]] := by rw [List.take_succ_eq_append_getElem hlt]
        rw [e1, ← List.append_assoc, packN_snoc]
        have e2 : (l ++ buf.take k).length = l.length + k := by rw [List.length_append, List.length_take]; omega
        rw [e2, show W * (l.length + (k + 1)) = W * (l.length + k) + W by rw [← Nat.mul_succ]; rfl]
        exact hB2
      case measure => simp [intOf]; omega
    · have hkl : k = buf.length := by omega
      subst hkl
      rw [List.take_length] at hBk
      have hB2 := hBk
      clear hBk
      go_wp2_with fail
      go_ret
      have KS : Keep [r, b, d] w1 (wr.setCell ⟨r, 1, none⟩ (.slice (some ⟨g, 0, none⟩) 0 8)) := (kk.weaken (by simp)).set (by simp) _ _ _
      refine ⟨rfl, K0.trans KS (by simp), x1, by have := H8.out; simpa using this, RE.of (cells := cells) (x := xx) ?_ Hc8.out (by simp) ?_ ?_ rb rp rd rg gb gp gd (by simp)⟩
      · have := hbk.set 1 (.slice (some ⟨g, 0, none⟩) 0 8)
        simpa [reCells] using this
      · exact hgk.set_other (Ne.symm rg) _ _ _
      · have := hB2.keep (S := [r]) ((Keep.refl _ wr).set (b := r) (by simp) 1 none (.slice (some ⟨g, 0, none⟩) 0 8)) (by simp; exact Ne.symm rb) (by simp; exact Ne.symm rp) (by simp; exact Ne.symm rd)
        simpa using this

theorem or_one_i32 (n : Nat) (h : n ≤ 1000000) : bits .or .i32 ((n : Int) * 2) 1 = ((2 * n + 1 : Nat) : Int) := by
  have h1 := (bits_nat .i32 31 (by decide) (fun n h0 h1 => IntWalk.i32_in n (by omega)) (n * 2) 1 (by omega) (by decide)).2
  rw [nat_join 1 _ 1 (by omega) (by omega)] at h1
  rw [show ((n : Int) * 2) = ((n * 2 : Nat) : Int) by simp, show (1 : Int) = ((1 : Nat) : Int) by rfl, h1]
  congr 1
  omega

set_option maxRecDepth 100000 in
set_option maxHeartbeats 1000000 in
theorem flushLit_open_true (r b p d g L W cur rep lit : Nat) (buf done l : List Nat) (w : World) (h : EncAt w r b p d g L W cur rep lit buf done (some l))
    (hW : W ≤ 64) (hsmall : ∀ v ∈ buf, v < 2 ^ W) (hroom : done.length + 1 + W * (l.length + buf.length) / 8 ≤ L) (h8 : (l.length + buf.length) % 8 = 0)
    (hlit : lit = l.length + buf.length) (hlit2 : lit / 8 ≤ 127) :
    Calls Tryz.prog 87 #[.pointer (some ⟨r, 0, none⟩), .bool true] w fun e w' =>
      e = .returned .nilIface ∧ Keep [r, b, d] w w' ∧ EncAt w' r b p d g L W cur rep 0 [] (done ++ (2 * (lit / 8) + 1) :: leBytes (W * lit / 8) (packN W (l ++ buf))) none := by
  obtain ⟨x1, hl8, ⟨xx, hb1⟩, ⟨cells, hc8, hcells, hg1⟩, hB1, rb, rp, rd, rg, gb, gp, gd, bl8⟩ := h
  have Hcells := Lib.hid hcells
  have Hsmall := Lib.hid hsmall
  have Hroom := Lib.hid hroom
  have H8 := Lib.hid h8
  have Hc8 := Lib.hid hc8
  have HW := IntWalk.u64_in (W : Int) (by omega)
  have hne : ((done.length : Int) == -1) = false := by simp
  obtain ⟨w1, rfl⟩ : ∃ w1, w1 = w := ⟨_, rfl⟩
  have K0 : Keep [r, b, d] w1 w1 := Keep.refl _ _
  clear hcells hsmall hroom h8 hc8
  have c0 := hb1.cell (i := 0) rfl
  have c1 := hb1.cell (i := 1) rfl
  have c6 := hb1.cell (i := 6) rfl
  have Hlit := Lib.hid hlit
  have hlit3 : lit ≤ 1023 := by omega
  have hlit4 : (lit : Int) / 8 ≤ 127 := by omega
  obtain ⟨M, hM⟩ : ∃ M, M = 2 * (lit / 8) + 1 := ⟨_, rfl⟩
  have hor1 : bits .or .i32 ((lit : Int) / 8 * 2) 1 = (M : Int) := by
    rw [hM, ← or_one_i32 (lit / 8) (by omega)]; simp
  have hM2 : (M : Int) < 256 := by omega
  have hM3 : (M : Int) % 256 = (M : Int) := by omega
  have HM := Lib.hid hM
  clear hlit hM
  go_enter Tryz.func87, Tryz.ntmps87
  go_wp2_with fail
  clear c0 c1 c6
  have c0 := hb1.cell (i := 0) rfl
  have c1 := hb1.cell (i := 1) rfl
  have c2 := hb1.cell (i := 2) rfl
  have c5 := hb1.cell (i := 5) rfl
  have c6 := hb1.cell (i := 6) rfl
  have c7 := hb1.cell (i := 7) rfl
  have hf := hb1.unfrozen
  go_wp2_with fail
  go_loopw [4, 31] (fun e i wr => ∃ k : Nat, k ≤ buf.length ∧ e = .nilIface ∧ i = .int .i64 (k : Int) ∧ Keep [b, d] w1 wr ∧ BWA wr b p d L (done ++ [x1]) (packN W (l ++ buf.take k)) (W * (l.length + k))) (fun _ i _ => buf.length - (intOf i).toNat)
  case atStart => exact ⟨0, Nat.zero_le _, rfl, rfl, Keep.refl _ _, by simpa using hB1⟩
  case round =>
    obtain ⟨k, hk, rfl, rfl, kk, hBk⟩ := hrel
    have hbk := hb1.keep kk (by simp; exact ⟨rb, rd⟩)
    have hgk := hg1.keep kk (by simp; exact ⟨gb, gd⟩)
    clear c0 c1 c2 c5 c6 c7 hf
    have c0 := hbk.cell (i := 0) rfl
    have c1 := hbk.cell (i := 1) rfl
    have c2 := hbk.cell (i := 2) rfl
    have c5 := hbk.cell (i := 5) rfl
    have c6 := hbk.cell (i := 6) rfl
    have c7 := hbk.cell (i := 7) rfl
    have hf := hbk.unfrozen
    by_cases hlt : k < buf.length
    · have hgc : wr.cell? ⟨g, k, none⟩ = some (.int .u64 (buf[k] : Int)) := hgk.cell (by
        refine rowV_get ?_
        have h1 := Hcells.out
        have h2 : (cells.take buf.length)[k]? = cells[k]? := by rw [List.getElem?_take, if_pos hlt]
        rw [← h2, h1]; simp)
      have hv := Hsmall.out buf[k] (List.getElem_mem _)
      have Hv := Lib.hid hv
      clear hv
      have hroom := Hroom.out
      go_wp2_with fail
      refine wp_region_mid 10 (by kernel_rfl) (by kernel_rfl) ?_
      simp only [List.take_succ_cons, List.take_zero, List.drop_succ_cons, List.drop_zero]
      change wpStill _ _ (World.drew _) _ _ _
      repeat still_step
      refine wpStill_nil ?_
      go_wp2_with fail
      refine (writeValueA b p d L W buf[k] _ _ _ _ (BWA.drew hBk) Hv.out (by omega) ?_).mono ?_
      · have h3 : W * (l.length + k) + W ≤ W * (l.length + buf.length) := by
          rw [← Nat.mul_succ]; exact Nat.mul_le_mul_left _ (by omega)
        have h4 := Hroom.out
        simp
        omega
      rintro e w2 ⟨rfl, k2, hB2⟩
      go_wp2_with fail
      repeat still_step
      refine wpStill_nil ?_
      go_wp2
      go_roundw
      case rel =>
        refine ⟨k + 1, by omega, rfl, by go_num, kk.drew.trans k2 (by simp), ?_⟩
        have e1 : buf.take (k + 1) = buf.take k ++ [buf[k]] := by rw [List.take_succ_eq_append_getElem hlt]
        rw [e1, ← List.append_assoc, packN_snoc]
        have e2 : (l ++ buf.take k).length = l.length + k := by rw [List.length_append, List.length_take]; omega
        rw [e2, show W * (l.length + (k + 1)) = W * (l.length + k) + W by rw [← Nat.mul_succ]; rfl]
        exact hB2
      case measure => simp [intOf]; omega
    · have hkl : k = buf.length := by omega
      subst hkl
      rw [List.take_length] at hBk
      have hB2 := hBk
      clear hBk
      go_wp2_with fail
      have hbs := (hbk.set 1 (.slice (some ⟨g, 0, none⟩) 0 8)).set 7 (.int .u8 (M : Int))
      have KS : Keep [r, b, d] w1 ((wr.setCell ⟨r, 1, none⟩ (.slice (some ⟨g, 0, none⟩) 0 8)).setCell ⟨r, 7, none⟩ (.int .u8 (M : Int))) := ((kk.weaken (by simp)).set (by simp) _ _ _).set (by simp) _ _ _
      have hgs := (hgk.set_other (Ne.symm rg) 1 none (.slice (some ⟨g, 0, none⟩) 0 8)).set_other (Ne.symm rg) 7 none (.int .u8 (M : Int))
      have hBs := hB2.keep (S := [r]) (((Keep.refl _ wr).set (b := r) (by simp) 1 none (.slice (some ⟨g, 0, none⟩) 0 8)).set (b := r) (by simp) 7 none (.int .u8 (M : Int))) (by simp; exact Ne.symm rb) (by simp; exact Ne.symm rp) (by simp; exact Ne.symm rd)
      have hone : ∀ v ∈ ((reCells b g buf.length W cur rep lit (done.length : Int) xx).set 1 (.slice (some ⟨g, 0, none⟩) 0 8)).set 7 (.int .u8 (M : Int)), v.oneCell' = true := by
        intro v hv
        simp only [reCells, List.set, List.mem_cons, List.not_mem_nil, or_false] at hv
        rcases hv with rfl | rfl | rfl | rfl | rfl | rfl | rfl | rfl <;> rfl
      refine wp_region_mid 12 (by kernel_rfl) (by kernel_rfl) ?_
      simp only [List.take_succ_cons, List.take_zero, List.drop_succ_cons, List.drop_zero]
      change wpStill _ _ (World.drew _) _ _ _
      repeat still_step
      refine wpStill_nil ?_
      go_wp2_with fail
      refine (bwWriteAtA b p d L (done ++ [x1]) _ _ _ hBs.drew r 7 M done.length 1 _ hbs.drew rfl hone (by simp) (by omega)).mono ?_
      rintro e w3 ⟨rfl, k3, hB3⟩
      have hb3 := hbs.drew.keep k3 (by simp; exact rd)
      have hg3 := hgs.drew.keep k3 (by simp; exact gd)
      clear c0 c1 c2 c5 c6 c7 hf
      have c5 := hb3.cell (i := 5) rfl
      have c6 := hb3.cell (i := 6) rfl
      have hf := hb3.unfrozen
      go_wp2_with fail
      repeat still_step
      refine wpStill_nil ?_
      go_wp2
      go_ret
      have K3 : Keep [r, b, d] w1 ((w3.setCell ⟨r, 6, none⟩ (.int .i64 (-1))).setCell ⟨r, 5, none⟩ (.int .i32 0)) := ((KS.drew.trans k3 (by simp)).set (by simp) _ _ _).set (by simp) _ _ _
      have hlit' := Hlit.out
      have h8' := H8.out
      have e8 : W * (l.length + buf.length) % 8 = 0 := by
        rw [Nat.mul_mod, h8']; simp
      have eset : (done ++ [x1]).set done.length M = done ++ [M] := by
        rw [List.set_append_right _ _ (Nat.le_refl _)]; simp
      refine ⟨rfl, K0.trans K3 (by simp), done ++ [M], packN W (l ++ buf), W * (l.length + buf.length), e8, ?_, RE.of (cells := cells) (x := M) ?_ Hc8.out (by simp) ?_ ?_ rb rp rd rg gb gp gd (by simp)⟩
      · rw [hlit', ← hlit', HM.out]; simp
      · have := (hb3.set 6 (.int .i64 (-1))).set 5 (.int .i32 0)
        simpa [reCells] using this
      · exact (hg3.set_other (Ne.symm rg) _ _ _).set_other (Ne.symm rg) _ _ _
      · rw [eset] at hB3
        exact hB3.keep (S := [r]) (((Keep.refl _ w3).set (b := r) (by simp) 6 none _).set (b := r) (by simp) 5 none _) (by simp; exact Ne.symm rb) (by simp; exact Ne.symm rp) (by simp; exact Ne.symm rd)

set_option maxRecDepth 100000 in
set_option maxHeartbeats 1000000 in
theorem flushLit_closed_false (r b p d g L W cur rep lit : Nat) (buf done : List Nat) (w : World) (h : EncAt w r b p d g L W cur rep lit buf done none)
    (hW : W ≤ 64) (hsmall : ∀ v ∈ buf, v < 2 ^ W) (hroom : done.length + 1 + W * buf.length / 8 ≤ L) (h8 : buf.length % 8 = 0) :
    Calls Tryz.prog 87 #[.pointer (some ⟨r, 0, none⟩), .bool false] w fun e w' =>
      e = .returned .nilIface ∧ Keep [r, b, d] w w' ∧ EncAt w' r b p d g L W cur rep lit [] done (some buf) := by
  obtain ⟨pre, X, len, hlen8, hdone, ⟨xx, hb0⟩, ⟨cells, hc8, hcells, hg0⟩, hB0, rb, rp, rd, rg, gb, gp, gd, bl8⟩ := h
  have hlen : (len + 7) / 8 = len / 8 := by omega
  have hdl : pre.length + (len + 7) / 8 = done.length := by rw [hdone]; simp; omega
  have hroom1 : pre.length + (len + 7) / 8 + 1 ≤ L := by omega
  obtain ⟨l, hl⟩ : ∃ l : List Nat, l = [] := ⟨_, rfl⟩
  have hroom2 : done.length + 1 + W * (l.length + buf.length) / 8 ≤ L := by rw [hl]; simpa using hroom
  have h82 : (l.length + buf.length) % 8 = 0 := by rw [hl]; simpa using h8
  have Hcells := Lib.hid hcells
  have Hsmall := Lib.hid hsmall
  have Hroom := Lib.hid hroom2
  have H8 := Lib.hid h82
  have Hc8 := Lib.hid hc8
  have Hl := Lib.hid hl
  have Hdone := Lib.hid hdone
  have Hdl := Lib.hid hdl
  have Hlen := Lib.hid hlen
  have Hroom1 := Lib.hid hroom1
  have HW := IntWalk.u64_in (W : Int) (by omega)
  clear hcells hsmall hroom h8 hc8 hroom2 h82 hl hdone hdl hlen hlen8 hroom1
  have c0 := hb0.cell (i := 0) rfl
  have c1 := hb0.cell (i := 1) rfl
  have c6 := hb0.cell (i := 6) rfl
  rw [show buf = l ++ buf by rw [Hl.out]; rfl]
  have Hgoal : Hid (buf = l ++ buf) := Lib.hid (by rw [Hl.out]; rfl)
  go_enter Tryz.func87, Tryz.ntmps87
  go_wp2_with fail
  refine (skipA b p d L pre X len w hB0 Hroom1.out).mono ?_
  rw [Hdl.out]
  rintro e w0 ⟨rfl, k0, x1, hBs⟩
  rw [Hlen.out, ← Hdone.out] at hBs
  have hbs := hb0.keep k0 (by simp; exact ⟨rb, rd⟩)
  have hgs := hg0.keep k0 (by simp; exact ⟨gb, gd⟩)
  clear c0 c1 c6
  have c0 := hbs.cell (i := 0) rfl
  have c1 := hbs.cell (i := 1) rfl
  have c6 := hbs.cell (i := 6) rfl
  have hf := hbs.unfrozen
  go_wp2_with fail
  have K0 : Keep [r, b, d] w (w0.setCell ⟨r, 6, none⟩ (.int .i64 (done.length : Int))) := (k0.weaken (by simp)).set (by simp) _ _ _
  have hb1 : Blk (w0.setCell ⟨r, 6, none⟩ (.int .i64 (done.length : Int))) r (reCells b g buf.length W cur rep lit (done.length : Int) xx) := by
    have := hbs.set 6 (.int .i64 (done.length : Int))
    simpa [reCells] using this
  have hg1 := hgs.set_other (Ne.symm rg) 6 none (.int .i64 (done.length : Int))
  have hB1 : BWA (w0.setCell ⟨r, 6, none⟩ (.int .i64 (done.length : Int))) b p d L (done ++ [x1]) (packN W l) (W * l.length) := by
    rw [Hl.out]
    exact hBs.keep (S := [r]) ((Keep.refl _ w0).set (b := r) (by simp) 6 none _) (by simp; exact Ne.symm rb) (by simp; exact Ne.symm rp) (by simp; exact Ne.symm rd)
  clear c0 c1 c6 hf hbs hgs hBs hb0 hg0 hB0
  generalize w0.setCell ⟨r, 6, none⟩ (.int .i64 (done.length : Int)) = w1 at *
  have c0 := hb1.cell (i := 0) rfl
  have c1 := hb1.cell (i := 1) rfl
  have c2 := hb1.cell (i := 2) rfl
  have c5 := hb1.cell (i := 5) rfl
  have c6 := hb1.cell (i := 6) rfl
  have c7 := hb1.cell (i := 7) rfl
  have hf := hb1.unfrozen
  go_wp2_with fail
  go_loopw [4, 31] (fun e i wr => ∃ k : Nat, k ≤ buf.length ∧ e = .nilIface ∧ i = .int .i64 (k : Int) ∧ Keep [b, d] w1 wr ∧ BWA wr b p d L (done ++ [x1]) (packN W (l ++ buf.take k)) (W * (l.length + k))) (fun _ i _ => buf.length - (intOf i).toNat)
  case atStart => exact ⟨0, Nat.zero_le _, rfl, rfl, Keep.refl _ _, by simpa using hB1⟩
  case round =>
    obtain ⟨k, hk, rfl, rfl, kk, hBk⟩ := hrel
    have hbk := hb1.keep kk (by simp; exact ⟨rb, rd⟩)
    have hgk := hg1.keep kk (by simp; exact ⟨gb, gd⟩)
    clear c0 c1 c2 c5 c6 c7 hf
    have c0 := hbk.cell (i := 0) rfl
    have c1 := hbk.cell (i := 1) rfl
    have c2 := hbk.cell (i := 2) rfl
    have c5 := hbk.cell (i := 5) rfl
    have c6 := hbk.cell (i := 6) rfl
    have c7 := hbk.cell (i := 7) rfl
    have hf := hbk.unfrozen
    by_cases hlt : k < buf.length
    · have hgc : wr.cell? ⟨g, k, none⟩ = some (.int .u64 (buf[k] : Int)) := hgk.cell (by
        refine rowV_get ?_
        have h1 := Hcells.out
        have h2 : (cells.take buf.length)[k]? = cells[k]? := by rw [List.getElem?_take, if_pos hlt]
        rw [← h2, h1]; simp)
      have hv := Hsmall.out buf[k] (List.getElem_mem _)
      have Hv := Lib.hid hv
      clear hv
      have hroom := Hroom.out
      go_wp2_with fail
      refine wp_region_mid 10 (by kernel_rfl) (by kernel_rfl) ?_
      simp only [List.take_succ_cons, List.take_zero, List.drop_succ_cons, List.drop_zero]
      change wpStill _ _ (World.drew _) _ _ _
      repeat still_step
      refine wpStill_nil ?_
      go_wp2_with fail
      refine (writeValueA b p d L W buf[k] _ _ _ _ (BWA.drew hBk) Hv.out (by omega) ?_).mono ?_
      · have h3 : W * (l.length + k) + W ≤ W * (l.length + buf.length) := by
          rw [← Nat.mul_succ]; exact Nat.mul_le_mul_left _ (by omega)
        have h4 := Hroom.out
        simp
        omega
      rintro e w2 ⟨rfl, k2, hB2⟩
      go_wp2_with fail
      repeat still_step
      refine wpStill_nil ?_
      go_wp2
      go_roundw
      case rel =>
        refine ⟨k + 1, by omega, rfl, by go_num, kk.drew.trans k2 (by simp), ?_⟩
        have e1 : buf.take (k + 1) = buf.take k ++ [buf[k]] := by rw [List.take_succ_eq_append_getElem hlt]
        rw [e1, ← List.append_assoc, packN_snoc]
        have e2 : (l ++ buf.take k).length = l.length + k := by rw [List.length_append, List.length_take]; omega
        rw [e2, show W * (l.length + (k + 1)) = W * (l.length + k) + W by rw [← Nat.mul_succ]; rfl]
        exact hB2
      case measure => simp [intOf]; omega
    · have hkl : k = buf.length := by omega
      subst hkl
      rw [List.take_length] at hBk
      have hB2 := hBk
      clear hBk
      go_wp2_with fail
      go_ret
      have KS : Keep [r, b, d] w1 (wr.setCell ⟨r, 1, none⟩ (.slice (some ⟨g, 0, none⟩) 0 8)) := (kk.weaken (by simp)).set (by simp) _ _ _
      refine ⟨rfl, K0.trans KS (by simp), x1, by have := H8.out; simpa using this, RE.of (cells := cells) (x := xx) ?_ Hc8.out (by simp) ?_ ?_ rb rp rd rg gb gp gd (by simp)⟩
      · have := hbk.set 1 (.slice (some ⟨g, 0, none⟩) 0 8)
        simpa [reCells] using this
      · exact hgk.set_other (Ne.symm rg) _ _ _
      · have := hB2.keep (S := [r]) ((Keep.refl _ wr).set (b := r) (by simp) 1 none (.slice (some ⟨g, 0, none⟩) 0 8)) (by simp; exact Ne.symm rb) (by simp; exact Ne.symm rp) (by simp; exact Ne.symm rd)
        simpa using this

set_option maxRecDepth 100000 in
set_option maxHeartbeats 1000000 in
theorem flushLit_closed_true (r b p d g L W cur rep lit : Nat) (buf done : List Nat) (w : World) (h : EncAt w r b p d g L W cur rep lit buf done none)
    (hW : W ≤ 64) (hsmall : ∀ v ∈ buf, v < 2 ^ W) (hroom : done.length + 1 + W * buf.length / 8 ≤ L) (h8 : buf.length % 8 = 0) (hlit0 : lit = buf.length) (hlit2 : lit / 8 ≤ 127) :
    Calls Tryz.prog 87 #[.pointer (some ⟨r, 0, none⟩), .bool true] w fun e w' =>
      e = .returned .nilIface ∧ Keep [r, b, d] w w' ∧ EncAt w' r b p d g L W cur rep 0 [] (done ++ (2 * (lit / 8) + 1) :: leBytes (W * lit / 8) (packN W buf)) none := by
  obtain ⟨pre, X, len, hlen8, hdone, ⟨xx, hb0⟩, ⟨cells, hc8, hcells, hg0⟩, hB0, rb, rp, rd, rg, gb, gp, gd, bl8⟩ := h
  have hlen : (len + 7) / 8 = len / 8 := by omega
  have hdl : pre.length + (len + 7) / 8 = done.length := by rw [hdone]; simp; omega
  have hroom1 : pre.length + (len + 7) / 8 + 1 ≤ L := by omega
  obtain ⟨l, hl⟩ : ∃ l : List Nat, l = [] := ⟨_, rfl⟩
  have hroom2 : done.length + 1 + W * (l.length + buf.length) / 8 ≤ L := by rw [hl]; simpa using hroom
  have h82 : (l.length + buf.length) % 8 = 0 := by rw [hl]; simpa using h8
  have Hcells := Lib.hid hcells
  have Hsmall := Lib.hid hsmall
  have Hroom := Lib.hid hroom2
  have H8 := Lib.hid h82
  have Hc8 := Lib.hid hc8
  have Hl := Lib.hid hl
  have Hdone := Lib.hid hdone
  have Hdl := Lib.hid hdl
  have Hlen := Lib.hid hlen
  have Hroom1 := Lib.hid hroom1
  have HW := IntWalk.u64_in (W : Int) (by omega)
  clear hcells hsmall hroom h8 hc8 hroom2 h82 hl hdone hdl hlen hlen8 hroom1
  have c0 := hb0.cell (i := 0) rfl
  have c1 := hb0.cell (i := 1) rfl
  have c6 := hb0.cell (i := 6) rfl
  rw [show packN W buf = packN W (l ++ buf) by rw [Hl.out]; rfl]
  have hlit : lit = l.length + buf.length := by rw [Hl.out, hlit0]; simp
  have Hlit := Lib.hid hlit
  have hlit3 : lit ≤ 1023 := by omega
  have hlit4 : (lit : Int) / 8 ≤ 127 := by omega
  obtain ⟨M, hM⟩ : ∃ M, M = 2 * (lit / 8) + 1 := ⟨_, rfl⟩
  have hor1 : bits .or .i32 ((lit : Int) / 8 * 2) 1 = (M : Int) := by
    rw [hM, ← or_one_i32 (lit / 8) (by omega)]; simp
  have hM2 : (M : Int) < 256 := by omega
  have hM3 : (M : Int) % 256 = (M : Int) := by omega
  have HM := Lib.hid hM
  clear hlit hlit0 hM
  go_enter Tryz.func87, Tryz.ntmps87
  go_wp2_with fail
  refine (skipA b p d L pre X len w hB0 Hroom1.out).mono ?_
  rw [Hdl.out]
  rintro e w0 ⟨rfl, k0, x1, hBs⟩
  rw [Hlen.out, ← Hdone.out] at hBs
  have hbs := hb0.keep k0 (by simp; exact ⟨rb, rd⟩)
  have hgs := hg0.keep k0 (by simp; exact ⟨gb, gd⟩)
  clear c0 c1 c6
  have c0 := hbs.cell (i := 0) rfl
  have c1 := hbs.cell (i := 1) rfl
  have c6 := hbs.cell (i := 6) rfl
  have hf := hbs.unfrozen
  go_wp2_with fail
  have K0 : Keep [r, b, d] w (w0.setCell ⟨r, 6, none⟩ (.int .i64 (done.length : Int))) := (k0.weaken (by simp)).set (by simp) _ _ _
  have hb1 : Blk (w0.setCell ⟨r, 6, none⟩ (.int .i64 (done.length : Int))) r (reCells b g buf.length W cur rep lit (done.length : Int) xx) := by
    have := hbs.set 6 (.int .i64 (done.length : Int))
    simpa [reCells] using this
  have hg1 := hgs.set_other (Ne.symm rg) 6 none (.int .i64 (done.length : Int))
  have hB1 : BWA (w0.setCell ⟨r, 6, none⟩ (.int .i64 (done.length : Int))) b p d L (done ++ [x1]) (packN W l) (W * l.length) := by
    rw [Hl.out]
    exact hBs.keep (S := [r]) ((Keep.refl _ w0).set (b := r) (by simp) 6 none _) (by simp; exact Ne.symm rb) (by simp; exact Ne.symm rp) (by simp; exact Ne.symm rd)
  clear c0 c1 c6 hf hbs hgs hBs hb0 hg0 hB0
  generalize w0.setCell ⟨r, 6, none⟩ (.int .i64 (done.length : Int)) = w1 at *
  have c0 := hb1.cell (i := 0) rfl
  have c1 := hb1.cell (i := 1) rfl
  have c2 := hb1.cell (i := 2) rfl
  have c5 := hb1.cell (i := 5) rfl
  have c6 := hb1.cell (i := 6) rfl
  have c7 := hb1.cell (i := 7) rfl
  have hf := hb1.unfrozen
  go_wp2_with fail
  go_loopw [4, 31] (fun e i wr => ∃ k : Nat, k ≤ buf.length ∧ e = .nilIface ∧ i = .int .i64 (k : Int) ∧ Keep [b, d] w1 wr ∧ BWA wr b p d L (done ++ [x1]) (packN W (l ++ buf.take k)) (W * (l.length + k))) (fun _ i _ => buf.length - (intOf i).toNat)
  case atStart => exact ⟨0, Nat.zero_le _, rfl, rfl, Keep.refl _ _, by simpa using hB1⟩
  case round =>
    obtain ⟨k, hk, rfl, rfl, kk, hBk⟩ := hrel
    have hbk := hb1.keep kk (by simp; exact ⟨rb, rd⟩)
    have hgk := hg1.keep kk (by simp; exact ⟨gb, gd⟩)
    clear c0 c1 c2 c5 c6 c7 hf
    have c0 := hbk.cell (i := 0) rfl
    have c1 := hbk.cell (i := 1) rfl
    have c2 := hbk.cell (i := 2) rfl
    have c5 := hbk.cell (i := 5) rfl
    have c6 := hbk.cell (i := 6) rfl
    have c7 := hbk.cell (i := 7) rfl
    have hf := hbk.unfrozen
    by_cases hlt : k < buf.length
    · have hgc : wr.cell? ⟨g, k, none⟩ = some (.int .u64 (buf[k] : Int)) := hgk.cell (by
        refine rowV_get ?_
        have h1 := Hcells.out
        have h2 : (cells.take buf.length)[k]? = cells[k]? := by rw [List.getElem?_take, if_pos hlt]
        rw [← h2, h1]; simp)
      have hv := Hsmall.out buf[k] (List.getElem_mem _)
      have Hv := Lib.hid hv
      clear hv
      have hroom := Hroom.out
      go_wp2_with fail
      refine wp_region_mid 10 (by kernel_rfl) (by kernel_rfl) ?_
      simp only [List.take_succ_cons, List.take_zero, List.drop_succ_cons, List.drop_zero]
      change wpStill _ _ (World.drew _) _ _ _
      repeat still_step
      refine wpStill_nil ?_
      go_wp2_with fail
      refine (writeValueA b p d L W buf[k] _ _ _ _ (BWA.drew hBk) Hv.out (by omega) ?_).mono ?_
      · have h3 : W * (l.length + k) + W ≤ W * (l.length + buf.length) := by
          rw [← Nat.mul_succ]; exact Nat.mul_le_mul_left _ (by omega)
        have h4 := Hroom.out
        simp
        omega
      rintro e w2 ⟨rfl, k2, hB2⟩
      go_wp2_with fail
      repeat still_step
      refine wpStill_nil ?_
      go_wp2
      go_roundw
      case rel =>
        refine ⟨k + 1, by omega, rfl, by go_num, kk.drew.trans k2 (by simp), ?_⟩
        have e1 : buf.take (k + 1) = buf.take k ++ [buf[k]] := by rw [List.take_succ_eq_append_getElem hlt]
        rw [e1, ← List.append_assoc, packN_snoc]
        have e2 : (l ++ buf.take k).length = l.length + k := by rw [List.length_append, List.length_take]; omega
        rw [e2, show W * (l.length + (k + 1)) = W * (l.length + k) + W by rw [← Nat.mul_succ]; rfl]
        exact hB2
      case measure => simp [intOf]; omega
    · have hkl : k = buf.length := by omega
      subst hkl
      rw [List.take_length] at hBk
      have hB2 := hBk
      clear hBk
      go_wp2_with fail
      have hbs := (hbk.set 1 (.slice (some ⟨g, 0, none⟩) 0 8)).set 7 (.int .u8 (M : Int))
      have KS : Keep [r, b, d] w1 ((wr.setCell ⟨r, 1, none⟩ (.slice (some ⟨g, 0, none⟩) 0 8)).setCell ⟨r, 7, none⟩ (.int .u8 (M : Int))) := ((kk.weaken (by simp)).set (by simp) _ _ _).set (by simp) _ _ _
      have hgs := (hgk.set_other (Ne.symm rg) 1 none (.slice (some ⟨g, 0, none⟩) 0 8)).set_other (Ne.symm rg) 7 none (.int .u8 (M : Int))
      have hBs := hB2.keep (S := [r]) (((Keep.refl _ wr).set (b := r) (by simp) 1 none (.slice (some ⟨g, 0, none⟩) 0 8)).set (b := r) (by simp) 7 none (.int .u8 (M : Int))) (by simp; exact Ne.symm rb) (by simp; exact Ne.symm rp) (by simp; exact Ne.symm rd)
      have hone : ∀ v ∈ ((reCells b g buf.length W cur rep lit (done.length : Int) xx).set 1 (.slice (some ⟨g, 0, none⟩) 0 8)).set 7 (.int .u8 (M : Int)), v.oneCell' = true := by
        intro v hv
        simp only [reCells, List.set, List.mem_cons, List.not_mem_nil, or_false] at hv
        rcases hv with rfl | rfl | rfl | rfl | rfl | rfl | rfl | rfl <;> rfl
      refine wp_region_mid 12 (by kernel_rfl) (by kernel_rfl) ?_
      simp only [List.take_succ_cons, List.take_zero, List.drop_succ_cons, List.drop_zero]
      change wpStill _ _ (World.drew _) _ _ _
      repeat still_step
      refine wpStill_nil ?_
      go_wp2_with fail
      refine (bwWriteAtA b p d L (done ++ [x1]) _ _ _ hBs.drew r 7 M done.length 1 _ hbs.drew rfl hone (by simp) (by omega)).mono ?_
      rintro e w3 ⟨rfl, k3, hB3⟩
      have hb3 := hbs.drew.keep k3 (by simp; exact rd)
      have hg3 := hgs.drew.keep k3 (by simp; exact gd)
      clear c0 c1 c2 c5 c6 c7 hf
      have c5 := hb3.cell (i := 5) rfl
      have c6 := hb3.cell (i := 6) rfl
      have hf := hb3.unfrozen
      go_wp2_with fail
      repeat still_step
      refine wpStill_nil ?_
      go_wp2
      go_ret
      have K3 : Keep [r, b, d] w1 ((w3.setCell ⟨r, 6, none⟩ (.int .i64 (-1))).setCell ⟨r, 5, none⟩ (.int .i32 0)) := ((KS.drew.trans k3 (by simp)).set (by simp) _ _ _).set (by simp) _ _ _
      have hlit' := Hlit.out
      have h8' := H8.out
      have e8 : W * (l.length + buf.length) % 8 = 0 := by
        rw [Nat.mul_mod, h8']; simp
      have eset : (done ++ [x1]).set done.length M = done ++ [M] := by
        rw [List.set_append_right _ _ (Nat.le_refl _)]; simp
      refine ⟨rfl, K0.trans K3 (by simp), done ++ [M], packN W (l ++ buf), W * (l.length + buf.length), e8, ?_, RE.of (cells := cells) (x := M) ?_ Hc8.out (by simp) ?_ ?_ rb rp rd rg gb gp gd (by simp)⟩
      · rw [hlit', ← hlit', HM.out]; simp
      · have := (hb3.set 6 (.int .i64 (-1))).set 5 (.int .i32 0)
        simpa [reCells] using this
      · exact (hg3.set_other (Ne.symm rg) _ _ _).set_other (Ne.symm rg) _ _ _
      · rw [eset] at hB3
        exact hB3.keep (S := [r]) (((Keep.refl _ w3).set (b := r) (by simp) 6 none _).set (b := r) (by simp) 5 none _) (by simp; exact Ne.symm rb) (by simp; exact Ne.symm rp) (by simp; exact Ne.symm rd)
end Go.Proofs.YtlolcgklcnechaaGreatDoor
