/- The bit writer: a value that stays in the buffer, Flush, Written. -/
import Derived.Test.YtlolcgklcnechaaGreatDoorW2
set_option linter.unusedVariables false
namespace Go.Proofs.YtlolcgklcnechaaGreatDoor
open Go.RowKit

set_option maxRecDepth 100000 in
set_option maxHeartbeats 400000 in
theorem writeValue_small (b p d buf bo bi n v : Nat) (data : List Nat) (w : World) (h : BW w b p d buf bo bi data)
    (hbuf : buf < 2 ^ bi) (hlt : bi + n < 64) :
    Calls Tryz.prog 117 #[.pointer (some ⟨b, 0, none⟩), .int .u64 (v : Int), .int .u64 (n : Int)] w fun e w' =>
      e = .returned .nilIface ∧ Keep [b, d] w w' ∧ BW w' b p d ((buf + v * 2 ^ bi) % 18446744073709551616) bo (bi + n) data := by
  obtain ⟨⟨rest, hr1, hr2, hb⟩, hp, hd, bp, bd, pd, hlen, hbole, hbi⟩ := h
  have hbo : bo ≤ 1099511627776 := by omega
  have c1 := hb.cell (i := 1) rfl
  have c3 := hb.cell (i := 3) rfl
  have hf := hb.unfrozen
  obtain ⟨X, hX⟩ : ∃ X, X = (buf + v * 2 ^ bi) % 18446744073709551616 := ⟨_, rfl⟩
  have hor := or_acc buf v bi hbuf (by omega)
  rw [← hX] at hor
  have HX := Lib.hid hX
  clear hX
  have hlt' : (bi : Int) + n < 64 := by omega
  go_enter Tryz.func117, Tryz.ntmps117
  go_wp2
  refine wp_region_still_tail 13 (by kernel_rfl) (by kernel_rfl) ?_
  simp only [List.take_succ_cons, List.take_zero, List.drop_succ_cons, List.drop_zero]
  change wpStill _ _ (World.drew _) _ _ _
  repeat still_step
  refine wpStill_nil ?_
  change wpList _ _ _ _ _ (World.drew _)
  go_wp2
  go_ret
  rw [← HX.out]
  refine ⟨rfl, ?_, ⟨rest, hr1, hr2, ?_⟩, ?_, ?_, bp, bd, pd, hlen, hbole, by omega⟩
  · exact (((Keep.refl [b, d] w).set (by simp) _ _ _).set (by simp) _ _ _).drew
  · have := ((hb.set 1 (.int .u64 (X : Int))).set 3 (.int .u64 ((bi : Int) + n))).drew
    simpa [bwCells] using this
  · exact ((hp.set_other (Ne.symm bp) _ _ _).set_other (Ne.symm bp) _ _ _).drew
  · exact ((hd.set_other (Ne.symm bd) _ _ _).set_other (Ne.symm bd) _ _ _).drew

set_option maxRecDepth 100000 in
set_option maxHeartbeats 400000 in
theorem written (b p d buf bo bi : Nat) (data : List Nat) (w : World) (h : BW w b p d buf bo bi data) :
    Calls Tryz.prog 89 #[.pointer (some ⟨b, 0, none⟩)] w fun e w' =>
      e = .returned (.int .i64 ((bo + (bi + 7) / 8 : Nat) : Int)) ∧ ∃ n, w' = w.drewN n := by
  obtain ⟨⟨rest, hr1, hr2, hb⟩, hp, hd, bp, bd, pd, hlen, hbole, hbi⟩ := h
  have hbo : bo ≤ 1099511627776 := by omega
  have c2 := hb.cell (i := 2) rfl
  have c3 := hb.cell (i := 3) rfl
  have h0 : (0 : Int) ≤ ((bi : Int) + 7) / 8 := by omega
  have h1 : ((bi : Int) + 7) / 8 < 100 := by omega
  have e1 : IntKind.i64.wrap (bi : Int) = bi := IntWalk.i64_in _ (by omega)
  have e2 : IntKind.i64.wrap ((bo : Int) + ((bi : Int) + 7) / 8) = (bo : Int) + ((bi : Int) + 7) / 8 := IntWalk.i64_in _ (by omega)
  go_enter Tryz.func89, Tryz.ntmps89
  go_wp2
  go_quiet ((go_at_call 83; exact Calls.quiet_of_same (flipW (bytesForBits _ _ (by omega) (by omega)))))
  go_wp2
  go_ret
  exact ⟨by simp, _, rfl⟩

set_option maxRecDepth 100000 in
set_option maxHeartbeats 400000 in
theorem flush_zero (al : Bool) (b p d bo : Nat) (data : List Nat) (w : World) (h : BW w b p d 0 bo 0 data) :
    Calls Tryz.prog 88 #[.pointer (some ⟨b, 0, none⟩), .bool al] w fun e w' =>
      e = .returned (.tuple #[]) ∧ Keep [b, d] w w' ∧ BW w' b p d 0 bo 0 data := by
  obtain ⟨⟨rest, hr1, hr2, hb⟩, hp, hd, bp, bd, pd, hlen, hbole, hbi⟩ := h
  have hbo : bo ≤ 1099511627776 := by omega
  have c1 := hb.cell (i := 1) rfl
  have c2 := hb.cell (i := 2) rfl
  have c3 := hb.cell (i := 3) rfl
  have hf := hb.unfrozen
  cases al
  · go_enter Tryz.func88, Tryz.ntmps88
    go_wp2
    go_end0
    exact ⟨rfl, Keep.refl _ _, ⟨rest, hr1, hr2, hb⟩, hp, hd, bp, bd, pd, hlen, hbole, by omega⟩
  · go_enter Tryz.func88, Tryz.ntmps88
    go_wp2
    go_end0
    refine ⟨rfl, ?_, ⟨rest, hr1, hr2, ?_⟩, ?_, ?_, bp, bd, pd, hlen, hbole, by omega⟩
    · exact ((((Keep.refl [b, d] w).set (by simp) _ _ _).set (by simp) _ _ _).set (by simp) _ _ _)
    · have := (((hb.set 1 (.int .u64 0)).set 2 (.int .i64 (bo : Int))).set 3 (.int .u64 0))
      simpa [bwCells] using this
    · exact (((hp.set_other (Ne.symm bp) _ _ _).set_other (Ne.symm bp) _ _ _).set_other (Ne.symm bp) _ _ _)
    · exact (((hd.set_other (Ne.symm bd) _ _ _).set_other (Ne.symm bd) _ _ _).set_other (Ne.symm bd) _ _ _)

end Go.Proofs.YtlolcgklcnechaaGreatDoor
