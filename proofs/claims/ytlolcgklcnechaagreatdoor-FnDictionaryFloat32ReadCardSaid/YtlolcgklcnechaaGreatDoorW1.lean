/- Contracts of the small functions beneath the bit writer. The bit writer: WriteValue, Flush, Written, SkipBytes, WriteAt, WriteAligned. -/
import Derived.Test.YtlolcgklcnechaaGreatDoorBase
import Derived.Test.YtlolcgklcnechaaGreatDoorProg
import Derived.WalkKit
import Derived.WalkSpells
import Derived.WalkLawsBesides
import Derived.Deep.QuietTactic
import Derived.BigQuiet
import Derived.StillTailTactics
import Derived.Lib.Hide
import Derived.Test.YtlolcgklcnechaaGreatDoorNum
set_option linter.unusedVariables false
namespace Go.Proofs.YtlolcgklcnechaaGreatDoor
open Go.RowKit

/-- A contract that leaves the world alone, the world's equation the other way round. -/
theorem flipW {P : Program} {f : FuncId} {args : Array Value} {w : World} {v : Value} (h : Calls P f args w fun e w' => e = .returned v ∧ w = w') : Calls P f args w fun e w' => e = .returned v ∧ w' = w :=
  h.mono fun _ _ ⟨a, b⟩ => ⟨a, b.symm⟩

theorem bytesForBits (n : Int) (w : World) (h0 : 0 ≤ n) (h1 : n < 1152921504606846976) :
    Calls Tryz.prog 83 #[.int .i64 n] w fun e w' => e = .returned (.int .i64 ((n + 7) / 8)) ∧ w = w' := by
  go_enter Tryz.func83, Tryz.ntmps83
  go_wp2
  go_ret
  exact ⟨rfl, rfl⟩

theorem bytesForBitsN (n nb : Nat) (w : World) (h : nb = (n + 7) / 8) (h1 : n < 1152921504606846976) :
    Calls Tryz.prog 83 #[.int .i64 (n : Int)] w fun e w' => e = .returned (.int .i64 (nb : Int)) ∧ w = w' :=
  (bytesForBits (n : Int) w (by omega) (by omega)).mono fun _ _ ⟨a, b⟩ => ⟨by rw [a, h]; simp, b⟩

set_option maxRecDepth 100000 in
set_option maxHeartbeats 400000 in
/-- binary.LittleEndian.PutUint64: eight bytes of a row of bytes are written. -/
theorem put64 (b o len cap n : Nat) (cs : List Value) (w : World) (hb : Blk w b cs) (ho : o + 8 ≤ cs.length) (hl : 8 ≤ len) (hlen : len ≤ 140737488351232) :
    Calls Tryz.prog 128 #[.agg #[], .slice (some ⟨b, o, none⟩) len cap, .int .u64 (n : Int)] w fun e w' =>
      e = .returned (.tuple #[]) ∧ Keep [b] w w' ∧ Blk w' b (splice cs o (rowV .u8 (leBytes 8 n))) := by
  have H : Hid (Keep [b] w w) := Lib.hid (Keep.refl _ _)
  have HB : Hid (Blk w b cs) := Lib.hid hb
  have hf := hb.unfrozen
  obtain ⟨x0, h0⟩ : ∃ x, w.cell? ⟨b, o, none⟩ = some x := ⟨cs[o], hb.cell (by simp)⟩
  obtain ⟨x1, h1⟩ : ∃ x, w.cell? ⟨b, o + 1, none⟩ = some x := ⟨cs[o + 1], hb.cell (by simp)⟩
  obtain ⟨x2, h2⟩ : ∃ x, w.cell? ⟨b, o + 2, none⟩ = some x := ⟨cs[o + 2], hb.cell (by simp)⟩
  obtain ⟨x3, h3⟩ : ∃ x, w.cell? ⟨b, o + 3, none⟩ = some x := ⟨cs[o + 3], hb.cell (by simp)⟩
  obtain ⟨x4, h4⟩ : ∃ x, w.cell? ⟨b, o + 4, none⟩ = some x := ⟨cs[o + 4], hb.cell (by simp)⟩
  obtain ⟨x5, h5⟩ : ∃ x, w.cell? ⟨b, o + 5, none⟩ = some x := ⟨cs[o + 5], hb.cell (by simp)⟩
  obtain ⟨x6, h6⟩ : ∃ x, w.cell? ⟨b, o + 6, none⟩ = some x := ⟨cs[o + 6], hb.cell (by simp)⟩
  obtain ⟨x7, h7⟩ : ∃ x, w.cell? ⟨b, o + 7, none⟩ = some x := ⟨cs[o + 7], hb.cell (by simp)⟩
  have hlt := hb.lt
  have h7' : (7 : Int) < (len : Int) := by omega
  have HO := Lib.hid ho
  clear ho hb
  go_enter Tryz.func128, Tryz.ntmps128
  go_wp2
  go_end0
  refine ⟨rfl, ?_, ?_⟩
  · refine Keep.alloc ?_ _
    repeat' (refine Keep.set ?_ (by simp) _ _ _)
    exact H.out
  · rw [← setsAt_splice _ _ _ (by have := HO.out; simp; omega), leBytes8]
    exact ((((((((HB.out.set _ _).set _ _).set _ _).set _ _).set _ _).set _ _).set _ _).set _ _).alloc _

set_option maxRecDepth 100000 in
set_option maxHeartbeats 400000 in
/-- WriterAtBuffer.WriteAt: n bytes (one at least) that fit are written. -/
theorem wabWriteAt (p d s so off n L C cap : Nat) (data scs : List Value) (w : World) (hp : Blk w p [.slice (some ⟨d, 0, none⟩) L C]) (hd : Blk w d data) (hs : Blk w s scs)
    (hL : data.length = L) (hC : L ≤ C) (hLm : C ≤ 140737488351232) (hn : 0 < n) (hfit : off + n ≤ L) (hso : so + n ≤ scs.length) (h1 : ∀ v ∈ scs, v.oneCell' = true) (hcap : n ≤ cap) :
    Calls Tryz.prog 284 #[.pointer (some ⟨p, 0, none⟩), .slice (some ⟨s, so, none⟩) n cap, .int .i64 (off : Int)] w fun e w' =>
      e = .returned (.tuple #[.int .i64 (n : Int), .nilIface]) ∧ Keep [d] w w' ∧ Blk w' d (splice data off ((scs.drop so).take n)) := by
  have hcp := fun ty => run_copy_blk (P := Tryz.prog) hd hs 28 28 ty 5 off so (L - off) (C - off) n cap Tryz.underlying28 (by kernel_rfl) n (Nat.min_eq_left (by omega)).symm (by omega) hso h1
  have hc := hp.cell (i := 0) rfl
  have hlt : (off : Int) ≤ (L : Int) := by omega
  have hlt2 : ¬ (L : Int) < (off : Int) := by omega
  have hne : ¬ C = off := by omega
  have H : Hid (Keep [d] w w) := Lib.hid (Keep.refl _ _)
  have HB : Hid (Blk w d data) := Lib.hid hd
  have HL := Lib.hid hL
  clear hd hs hL
  go_enter Tryz.func284, Tryz.ntmps284
  go_wp2
  go_ret2
  exact ⟨rfl, Keep.setCells (by simp) H.out, HB.out.setCells (by have := HL.out; simp; omega)⟩

theorem wabReserve (v : Value) (n : Int) (w : World) :
    Calls Tryz.prog 283 #[v, .int .i64 n] w fun e w' => e = .returned (.tuple #[]) ∧ w = w' := by
  go_enter Tryz.func283, Tryz.ntmps283
  go_wp2
  go_end0
  exact ⟨rfl, rfl⟩
end Go.Proofs.YtlolcgklcnechaaGreatDoor
set_option linter.unusedVariables false
namespace Go.Proofs.YtlolcgklcnechaaGreatDoor
open Go.RowKit

/-- The cells of a bit writer. -/
def bwCells (p buf bo bi : Nat) (rest : List Value) : List Value :=
  .iface 176 (.pointer (some ⟨p, 0, none⟩)) :: .int .u64 (buf : Int) :: .int .i64 (bo : Int) :: .int .u64 (bi : Int) :: rest

/-- A bit writer at block b, over the buffer at p, over the bytes at d. -/
structure BW (w : World) (b p d buf bo bi : Nat) (data : List Nat) : Prop where
  ex : ∃ rest, rest.length = 18 ∧ (∀ v ∈ rest, v.oneCell' = true) ∧ Blk w b (bwCells p buf bo bi rest)
  hp : Blk w p [.slice (some ⟨d, 0, none⟩) data.length data.length]
  hd : Blk w d (rowV .u8 data)
  bp : b ≠ p
  bd : b ≠ d
  pd : p ≠ d
  len : data.length ≤ 1099511627776
  bole : bo ≤ data.length
  bi64 : bi < 64

theorem one_bwCells {p buf bo bi : Nat} {rest : List Value} (h : ∀ v ∈ rest, v.oneCell' = true) : ∀ v ∈ bwCells p buf bo bi rest, v.oneCell' = true := by
  intro x hx
  simp only [bwCells, List.mem_cons] at hx
  rcases hx with rfl | rfl | rfl | rfl | hx
  · rfl
  · rfl
  · rfl
  · rfl
  · exact h _ hx

theorem le_global (w : World) : (loadVar 225 ⟨0, 0, none⟩).run Tryz.prog w = .ok (.agg #[]) w := by kernel_rfl

theorem method_WriteAt (a : Addr) (w : World) : (method 521 176 (.pointer (some a)) "WriteAt").run Tryz.prog w = .ok (284, .pointer (some a)) w := by kernel_rfl
theorem method_Reserve (a : Addr) (w : World) : (method 521 176 (.pointer (some a)) "Reserve").run Tryz.prog w = .ok (283, .pointer (some a)) w := by kernel_rfl

set_option maxRecDepth 100000 in
set_option maxHeartbeats 400000 in
theorem writeValue_big (b p d buf bo bi n v : Nat) (data : List Nat) (w : World) (h : BW w b p d buf bo bi data)
    (hbuf : buf < 2 ^ bi) (hn : n ≤ 64) (hge : 64 ≤ bi + n) (hfit : bo + 8 ≤ data.length) :
    Calls Tryz.prog 117 #[.pointer (some ⟨b, 0, none⟩), .int .u64 (v : Int), .int .u64 (n : Int)] w fun e w' =>
      e = .returned .nilIface ∧ Keep [b, d] w w' ∧ BW w' b p d (v / 2 ^ (64 - bi)) (bo + 8) (bi + n - 64) (splice data bo (leBytes 8 ((buf + v * 2 ^ bi) % 18446744073709551616))) := by
  obtain ⟨⟨rest, hr1, hr2, hb⟩, hp, hd, bp, bd, pd, hlen, hbole, hbi⟩ := h
  have c0 := hb.cell (i := 0) rfl
  have c1 := hb.cell (i := 1) rfl
  have c2 := hb.cell (i := 2) rfl
  have c3 := hb.cell (i := 3) rfl
  have hf := hb.unfrozen
  obtain ⟨X, hX⟩ : ∃ X, X = (buf + v * 2 ^ bi) % 18446744073709551616 := ⟨_, rfl⟩
  have hor := or_acc buf v bi hbuf (by omega)
  rw [← hX] at hor
  have HX := Lib.hid hX
  clear hX
  have HK : Hid (Keep [b, d] w w) := Lib.hid (Keep.refl _ _)
  have hge' : ¬ (bi : Int) + n < 64 := by omega
  go_enter Tryz.func117, Tryz.ntmps117
  go_wp2
  refine wp_region_still_tail 13 (by kernel_rfl) (by kernel_rfl) ?_
  simp only [List.take_succ_cons, List.take_zero, List.drop_succ_cons, List.drop_zero]
  change wpStill _ _ (World.drew _) _ _ _
  repeat still_step
  refine wpStill_nil ?_
  change wpList _ _ _ _ _ (World.drew _)
  go_wp2
  refine wp_region_still_tail 9 (by kernel_rfl) (by kernel_rfl) ?_
  simp only [List.take_succ_cons, List.take_zero, List.drop_succ_cons, List.drop_zero]
  change wpStill _ _ (World.drew _) _ _ _
  repeat still_step
  refine wpStill_nil ?_
  change wpList _ _ _ _ _ (World.drew _)
  go_wp2_with fail
  refine (put64 b 4 8 8 X _ _ (((hb.set 1 _).set 3 _).drew).drew (by simp [bwCells]; omega) (by omega) (by omega)).mono ?_
  rintro e w1 ⟨rfl, k1, b1⟩
  have b1' : Blk w1 b (bwCells p X bo (bi + n) (rowV .u8 (leBytes 8 X) ++ rest.drop 8)) := by
    simpa [bwCells, splice] using b1
  clear b1 c0 c1 c2 c3 hf
  have c0 := b1'.cell (i := 0) rfl
  have c1 := b1'.cell (i := 1) rfl
  have c2 := b1'.cell (i := 2) rfl
  have c3 := b1'.cell (i := 3) rfl
  have hf := b1'.unfrozen
  go_wp2_with fail
  have hme := method_WriteAt
  have K1 : Keep [b] w w1 := by
    refine Keep.trans ?_ k1 (by simp)
    exact (((Keep.refl [b] w).set (by simp) _ _ _).set (by simp) _ _ _).drew.drew
  refine wp_region_mid 14 (by kernel_rfl) (by kernel_rfl) ?_
  simp only [List.take_succ_cons, List.take_zero, List.drop_succ_cons, List.drop_zero]
  change wpStill _ _ (World.drew _) _ _ _
  repeat still_step
  refine wpStill_nil ?_
  go_wp2_with fail
  refine (wabWriteAt p d b 4 bo 8 _ _ 8 _ _ w1.drew (hp.keep K1 (by simp; exact Ne.symm bp)).drew (hd.keep K1 (by simp; exact Ne.symm bd)).drew b1'.drew
    (by simp) (by simp) (by omega) (by omega) (by omega) (by simp [bwCells]) ?_ (by omega)).mono ?_
  · simp only [bwCells]
    intro x hx
    simp only [List.mem_cons, List.mem_append] at hx
    rcases hx with rfl | rfl | rfl | rfl | hx | hx
    · rfl
    · rfl
    · rfl
    · rfl
    · exact one_rowV _ _ _ hx
    · exact hr2 _ (List.mem_of_mem_drop hx)
  rintro e w2 ⟨rfl, k2, d2⟩
  have b2 := b1'.drew.keep k2 (by simp; exact bd)
  clear c0 c1 c2 c3 hf
  have c0 := b2.cell (i := 0) rfl
  have c1 := b2.cell (i := 1) rfl
  have c2 := b2.cell (i := 2) rfl
  have c3 := b2.cell (i := 3) rfl
  have hf := b2.unfrozen
  go_wp2_with fail
  repeat still_step
  refine wpStill_nil ?_
  go_wp2
  have K2 : Keep [b, d] w w2 := (K1.drew.weaken (by simp)).trans k2 (by simp)
  go_ret
  rw [← HX.out]
  refine ⟨rfl, ?_, ?_⟩
  · exact (((K2.set (by simp) _ _ _).set (by simp) _ _ _).set (by simp) _ _ _).set (by simp) _ _ _
  · have e1 : ((bi : Int) + n - 64) = ((bi + n - 64 : Nat) : Int) := by omega
    have e2 : ((v : Int) / 2 ^ (n - (bi + n - 64))) = ((v / 2 ^ (64 - bi) : Nat) : Int) := by
      rw [show n - (bi + n - 64) = 64 - bi by omega, Int.natCast_ediv, Int.natCast_pow]; rfl
    have hl : (splice data bo (leBytes 8 X)).length = data.length := length_splice _ _ _ (by simpa using hfit)
    rw [e1, e2]
    refine ⟨⟨rowV .u8 (leBytes 8 X) ++ rest.drop 8, by simp; omega, ?_, ?_⟩, ?_, ?_, bp, bd, pd, by rw [hl]; exact hlen, by rw [hl]; exact hfit, by omega⟩
    · intro x hx
      simp only [List.mem_append] at hx
      rcases hx with hx | hx
      · exact one_rowV _ _ _ hx
      · exact hr2 _ (List.mem_of_mem_drop hx)
    · have := (((b2.set 1 (.int .u64 0)).set 2 (.int .i64 ((bo : Int) + 8))).set 3 (.int .u64 ((bi + n - 64 : Nat) : Int))).set 1 (.int .u64 ((v / 2 ^ (64 - bi) : Nat) : Int))
      simpa [bwCells] using this
    · rw [hl]
      exact ((((hp.keep K2 (by simp; exact ⟨Ne.symm bp, pd⟩)).set_other (Ne.symm bp) _ _ _).set_other (Ne.symm bp) _ _ _).set_other (Ne.symm bp) _ _ _).set_other (Ne.symm bp) _ _ _
    · have e3 : List.take 8 (List.drop 4 (bwCells p X bo (bi + n) (rowV IntKind.u8 (leBytes 8 X) ++ List.drop 8 rest))) = rowV .u8 (leBytes 8 X) := by
        simp [bwCells]
      rw [e3, ← rowV_splice] at d2
      exact (((d2.set_other (Ne.symm bd) _ _ _).set_other (Ne.symm bd) _ _ _).set_other (Ne.symm bd) _ _ _).set_other (Ne.symm bd) _ _ _
end Go.Proofs.YtlolcgklcnechaaGreatDoor
