/- The bit writer: a value that stays in the buffer, Flush, Written. The bit writer: Flush of a buffer that holds bits. -/
import Derived.Test.YtlolcgklcnechaaGreatDoorW1
set_option linter.unusedVariables false
namespace Go.Proofs.YtlolcgklcnechaaGreatDoor
open Go.RowKit

set_option maxRecDepth 100000 in
set_option maxHeartbeats 400000 in
theorem writeValue_small (b p d buf bo bi n v : Nat) (data : List Nat) (w : World) (h : BW w b p d buf bo bi data)
    (hbuf : buf < 2 ^ bi) (hlt : bi + n < 64) :
    Calls Tryz.prog 117 #[.pointer (some ⟨b, 0, none⟩), .int .u64 (v : Int), .int .u64 (n : Int)] w fun e w' =>
      e = .returned .nilIface ∧ Keep [b, d] w w' ∧ BW w' b p d ((buf + v * 2 ^ bi) % 18446744073709551616) bo (bi + n) data := by
  obtain ⟨⟨rest, hr1, hr2, hb⟩, hp, hd, bp, bd, pd, hlen, hbole, hbi⟩ := h
  have hbo : bo ≤ 1099511627776 := by omega
  have c1 := hb.cell (i := 1) rfl
  have c3 := hb.cell (i := 3) rfl
  have hf := hb.unfrozen
  obtain ⟨X, hX⟩ : ∃ X, X = (buf + v * 2 ^ bi) % 18446744073709551616 := ⟨_, rfl⟩
  have hor := or_acc buf v bi hbuf (by omega)
  rw [← hX] at hor
  have HX := Lib.hid hX
  clear hX
  have hlt' : (bi : Int) + n < 64 := by omega
  go_enter Tryz.func117, Tryz.ntmps117
  go_wp2
  refine wp_region_still_tail 13 (by kernel_rfl) (by kernel_rfl) ?_
  simp only [List.take_succ_cons, List.take_zero, List.drop_succ_cons, List.drop_zero]
  change wpStill _ _ (World.drew _) _ _ _
  repeat still_step
  refine wpStill_nil ?_
  change wpList _ _ _ _ _ (World.drew _)
  go_wp2
  go_ret
  rw [← HX.out]
  refine ⟨rfl, ?_, ⟨rest, hr1, hr2, ?_⟩, ?_, ?_, bp, bd, pd, hlen, hbole, by omega⟩
  · exact (((Keep.refl [b, d] w).set (by simp) _ _ _).set (by simp) _ _ _).drew
  · have := ((hb.set 1 (.int .u64 (X : Int))).set 3 (.int .u64 ((bi : Int) + n))).drew
    simpa [bwCells] using this
  · exact ((hp.set_other (Ne.symm bp) _ _ _).set_other (Ne.symm bp) _ _ _).drew
  · exact ((hd.set_other (Ne.symm bd) _ _ _).set_other (Ne.symm bd) _ _ _).drew

set_option maxRecDepth 100000 in
set_option maxHeartbeats 400000 in
theorem written (b p d buf bo bi : Nat) (data : List Nat) (w : World) (h : BW w b p d buf bo bi data) :
    Calls Tryz.prog 89 #[.pointer (some ⟨b, 0, none⟩)] w fun e w' =>
      e = .returned (.int .i64 ((bo + (bi + 7) / 8 : Nat) : Int)) ∧ ∃ n, w' = w.drewN n := by
  obtain ⟨⟨rest, hr1, hr2, hb⟩, hp, hd, bp, bd, pd, hlen, hbole, hbi⟩ := h
  have hbo : bo ≤ 1099511627776 := by omega
  have c2 := hb.cell (i := 2) rfl
  have c3 := hb.cell (i := 3) rfl
  have h0 : (0 : Int) ≤ ((bi : Int) + 7) / 8 := by omega
  have h1 : ((bi : Int) + 7) / 8 < 100 := by omega
  have e1 : IntKind.i64.wrap (bi : Int) = bi := IntWalk.i64_in _ (by omega)
  have e2 : IntKind.i64.wrap ((bo : Int) + ((bi : Int) + 7) / 8) = (bo : Int) + ((bi : Int) + 7) / 8 := IntWalk.i64_in _ (by omega)
  go_enter Tryz.func89, Tryz.ntmps89
  go_wp2
  go_quiet ((go_at_call 83; exact Calls.quiet_of_same (flipW (bytesForBits _ _ (by omega) (by omega)))))
  go_wp2
  go_ret
  exact ⟨by simp, _, rfl⟩

set_option maxRecDepth 100000 in
set_option maxHeartbeats 400000 in
theorem flush_zero (al : Bool) (b p d bo : Nat) (data : List Nat) (w : World) (h : BW w b p d 0 bo 0 data) :
    Calls Tryz.prog 88 #[.pointer (some ⟨b, 0, none⟩), .bool al] w fun e w' =>
      e = .returned (.tuple #[]) ∧ Keep [b, d] w w' ∧ BW w' b p d 0 bo 0 data := by
  obtain ⟨⟨rest, hr1, hr2, hb⟩, hp, hd, bp, bd, pd, hlen, hbole, hbi⟩ := h
  have hbo : bo ≤ 1099511627776 := by omega
  have c1 := hb.cell (i := 1) rfl
  have c2 := hb.cell (i := 2) rfl
  have c3 := hb.cell (i := 3) rfl
  have hf := hb.unfrozen
  cases al
  · go_enter Tryz.func88, Tryz.ntmps88
    go_wp2
    go_end0
    exact ⟨rfl, Keep.refl _ _, ⟨rest, hr1, hr2, hb⟩, hp, hd, bp, bd, pd, hlen, hbole, by omega⟩
  · go_enter Tryz.func88, Tryz.ntmps88
    go_wp2
    go_end0
    refine ⟨rfl, ?_, ⟨rest, hr1, hr2, ?_⟩, ?_, ?_, bp, bd, pd, hlen, hbole, by omega⟩
    · exact ((((Keep.refl [b, d] w).set (by simp) _ _ _).set (by simp) _ _ _).set (by simp) _ _ _)
    · have := (((hb.set 1 (.int .u64 0)).set 2 (.int .i64 (bo : Int))).set 3 (.int .u64 0))
      simpa [bwCells] using this
    · exact (((hp.set_other (Ne.symm bp) _ _ _).set_other (Ne.symm bp) _ _ _).set_other (Ne.symm bp) _ _ _)
    · exact (((hd.set_other (Ne.symm bd) _ _ _).set_other (Ne.symm bd) _ _ _).set_other (Ne.symm bd) _ _ _)

end Go.Proofs.YtlolcgklcnechaaGreatDoor
set_option linter.unusedVariables false
namespace Go.Proofs.YtlolcgklcnechaaGreatDoor
open Go.RowKit

theorem le8_take (nb n : Nat) (h : nb ≤ 8) : (leBytes 8 n).take nb = leBytes nb n := by
  have key : ∀ (k m nb : Nat), nb ≤ k → (leBytes k m).take nb = leBytes nb m := by
    intro k
    induction k with
    | zero => intro m nb h; have : nb = 0 := by omega
              subst this; rfl
    | succ k ih =>
      intro m nb h
      cases nb with
      | zero => rfl
      | succ nb => simp [leBytes, ih _ _ (show nb ≤ k by omega)]
  exact key 8 n nb h

set_option maxRecDepth 100000 in
set_option maxHeartbeats 1000000 in
theorem flush_pos (al : Bool) (b p d buf bo bi nb : Nat) (data : List Nat) (w : World) (h : BW w b p d buf bo bi data) (hpos : 0 < bi) (hnb : nb = (bi + 7) / 8) (hfit : bo + nb ≤ data.length) :
    Calls Tryz.prog 88 #[.pointer (some ⟨b, 0, none⟩), .bool al] w fun e w' =>
      e = .returned (.tuple #[]) ∧ Keep [b, d] w w' ∧ BW w' b p d (if al then 0 else buf) (if al then bo + nb else bo) (if al then 0 else bi) (splice data bo (leBytes nb buf)) := by
  obtain ⟨⟨rest, hr1, hr2, hb⟩, hp, hd, bp, bd, pd, hlen, hbole, hbi⟩ := h
  have hbo : bo ≤ 1099511627776 := by omega
  have hn0 : 0 < nb := by omega
  have hn8 : nb ≤ 8 := by omega
  have c0 := hb.cell (i := 0) rfl
  have c1 := hb.cell (i := 1) rfl
  have c2 := hb.cell (i := 2) rfl
  have c3 := hb.cell (i := 3) rfl
  have hf := hb.unfrozen
  have hleg := le_global
  have hme := method_WriteAt
  have i0 : (0 : Int) ≤ (nb : Int) := by omega
  have i8 : (nb : Int) ≤ 8 := by omega
  have hpos' : 0 < (bi : Int) := by omega
  have HN := Lib.hid hnb
  clear hnb
  have fin : ∀ w2 : World, Keep [b, d] w w2 → Blk w2 b (bwCells p buf bo bi (rowV .u8 (leBytes 8 buf) ++ rest.drop 8)) → Blk w2 d (rowV .u8 (splice data bo (leBytes nb buf))) →
      Blk w2 p [.slice (some ⟨d, 0, none⟩) data.length data.length] := fun w2 k _ _ => hp.keep k (by simp; exact ⟨Ne.symm bp, pd⟩)
  have hl : (splice data bo (leBytes nb buf)).length = data.length := length_splice _ _ _ (by simpa using hfit)
  have one : ∀ v ∈ rowV .u8 (leBytes 8 buf) ++ rest.drop 8, v.oneCell' = true := by
    intro x hx
    simp only [List.mem_append] at hx
    rcases hx with hx | hx
    · exact one_rowV _ _ _ hx
    · exact hr2 _ (List.mem_of_mem_drop hx)
  have Hone := Lib.hid one
  have Hl := Lib.hid hl
  have Hfin := Lib.hid fin
  clear one hl fin
  cases al
  all_goals
    go_enter Tryz.func88, Tryz.ntmps88
    go_wp2_with fail
    refine (bytesForBitsN _ _ _ HN.out (by omega)).mono ?_
    rintro e w' ⟨rfl, rfl⟩
    go_wp2_with fail
    refine wp_region_mid 9 (by kernel_rfl) (by kernel_rfl) ?_
    simp only [List.take_succ_cons, List.take_zero, List.drop_succ_cons, List.drop_zero]
    change wpStill _ _ (World.drew _) _ _ _
    repeat still_step
    refine wpStill_nil ?_
    go_wp2_with fail
    refine (put64 b 4 8 8 buf _ _ hb.drew (by simp [bwCells]; omega) (by omega) (by omega)).mono ?_
    rintro e w1 ⟨rfl, k1, b1⟩
    have b1' : Blk w1 b (bwCells p buf bo bi (rowV .u8 (leBytes 8 buf) ++ rest.drop 8)) := by
      simpa [bwCells, splice] using b1
    have K1 : Keep [b] w w1 := (Keep.refl [b] w).drew.trans k1 (by simp)
    clear b1 k1 c0 c1 c2 c3 hf
    have c0 := b1'.cell (i := 0) rfl
    have c1 := b1'.cell (i := 1) rfl
    have c2 := b1'.cell (i := 2) rfl
    have c3 := b1'.cell (i := 3) rfl
    have hf := b1'.unfrozen
    go_wp2_with fail
    repeat still_step
    refine wpStill_nil ?_
    go_wp2_with fail
    refine wp_region_mid 15 (by kernel_rfl) (by kernel_rfl) ?_
    simp only [List.take_succ_cons, List.take_zero, List.drop_succ_cons, List.drop_zero]
    change wpStill _ _ (World.drew _) _ _ _
    repeat still_step
    refine wpStill_nil ?_
    go_wp2_with fail
    refine (wabWriteAt p d b 4 bo nb _ _ 8 _ _ w1.drew (hp.keep K1 (by simp; exact Ne.symm bp)).drew (hd.keep K1 (by simp; exact Ne.symm bd)).drew b1'.drew
      (by simp) (by simp) (by omega) (by omega) (by omega) (by simp [bwCells]; omega) (one_bwCells Hone.out) (by omega)).mono ?_
    rintro e w2 ⟨rfl, k2, d2⟩
    have b2 := b1'.drew.keep k2 (by simp; exact bd)
    have K2 : Keep [b, d] w w2 := (K1.drew.weaken (by simp)).trans k2 (by simp)
    have e3 : List.take nb (List.drop 4 (bwCells p buf bo bi (rowV IntKind.u8 (leBytes 8 buf) ++ List.drop 8 rest))) = rowV .u8 (leBytes nb buf) := by
      rw [← le8_take nb buf hn8, rowV_take]
      simp [bwCells, List.take_append, show nb - 8 = 0 by omega]
    rw [e3, ← rowV_splice] at d2
    clear k2 e3 c0 c1 c2 c3 hf
    have c0 := b2.cell (i := 0) rfl
    have c1 := b2.cell (i := 1) rfl
    have c2 := b2.cell (i := 2) rfl
    have c3 := b2.cell (i := 3) rfl
    have hf := b2.unfrozen
    go_wp2_with fail
    repeat still_step
    refine wpStill_nil ?_
    go_wp2
    go_end0
  · have hl := Hl.out
    refine ⟨rfl, K2, ⟨_, ?_, Hone.out, b2⟩, ?_, d2, bp, bd, pd, by rw [hl]; exact hlen, by rw [hl]; exact hbole, hbi⟩
    · simp; omega
    · rw [hl]; exact Hfin.out _ K2 b2 d2
  · have hl := Hl.out
    refine ⟨rfl, ((K2.set (by simp) _ _ _).set (by simp) _ _ _).set (by simp) _ _ _, ⟨rowV .u8 (leBytes 8 buf) ++ rest.drop 8, ?_, Hone.out, ?_⟩, ?_, ?_, bp, bd, pd, by rw [hl]; exact hlen, by rw [hl]; exact hfit, by simp⟩
    · simp; omega
    · have := (((b2.set 1 (.int .u64 0)).set 2 (.int .i64 ((bo : Int) + nb))).set 3 (.int .u64 0))
      simpa [bwCells] using this
    · rw [hl]; exact ((((Hfin.out _ K2 b2 d2).set_other (Ne.symm bp) _ _ _).set_other (Ne.symm bp) _ _ _).set_other (Ne.symm bp) _ _ _)
    · exact (((d2.set_other (Ne.symm bd) _ _ _).set_other (Ne.symm bd) _ _ _).set_other (Ne.symm bd) _ _ _)
end Go.Proofs.YtlolcgklcnechaaGreatDoor
