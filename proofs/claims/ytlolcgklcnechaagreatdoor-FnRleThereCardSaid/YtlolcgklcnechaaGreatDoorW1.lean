/- Contracts of the small functions beneath the bit writer. -/
import Derived.Test.YtlolcgklcnechaaGreatDoorBase2
import Derived.Test.YtlolcgklcnechaaGreatDoorProg
import Derived.WalkKit
import Derived.WalkSpells
import Derived.WalkLawsBesides
import Derived.Deep.QuietTactic
import Derived.BigQuiet
import Derived.StillTailTactics
import Derived.Lib.Hide
set_option linter.unusedVariables false
namespace Go.Proofs.YtlolcgklcnechaaGreatDoor
open Go.RowKit

/-- A contract that leaves the world alone, the world's equation the other way round. -/
theorem flipW {P : Program} {f : FuncId} {args : Array Value} {w : World} {v : Value} (h : Calls P f args w fun e w' => e = .returned v ∧ w = w') : Calls P f args w fun e w' => e = .returned v ∧ w' = w :=
  h.mono fun _ _ ⟨a, b⟩ => ⟨a, b.symm⟩

theorem bytesForBits (n : Int) (w : World) (h0 : 0 ≤ n) (h1 : n < 1152921504606846976) :
    Calls Tryz.prog 83 #[.int .i64 n] w fun e w' => e = .returned (.int .i64 ((n + 7) / 8)) ∧ w = w' := by
  go_enter Tryz.func83, Tryz.ntmps83
  go_wp2
  go_ret
  exact ⟨rfl, rfl⟩

theorem bytesForBitsN (n nb : Nat) (w : World) (h : nb = (n + 7) / 8) (h1 : n < 1152921504606846976) :
    Calls Tryz.prog 83 #[.int .i64 (n : Int)] w fun e w' => e = .returned (.int .i64 (nb : Int)) ∧ w = w' :=
  (bytesForBits (n : Int) w (by omega) (by omega)).mono fun _ _ ⟨a, b⟩ => ⟨by rw [a, h]; simp, b⟩

set_option maxRecDepth 100000 in
set_option maxHeartbeats 400000 in
/-- binary.LittleEndian.PutUint64: eight bytes of a row of bytes are written. -/
theorem put64 (b o len cap n : Nat) (cs : List Value) (w : World) (hb : Blk w b cs) (ho : o + 8 ≤ cs.length) (hl : 8 ≤ len) (hlen : len ≤ 140737488351232) :
    Calls Tryz.prog 128 #[.agg #[], .slice (some ⟨b, o, none⟩) len cap, .int .u64 (n : Int)] w fun e w' =>
      e = .returned (.tuple #[]) ∧ Keep [b] w w' ∧ Blk w' b (splice cs o (rowV .u8 (leBytes 8 n))) := by
  have H : Hid (Keep [b] w w) := Lib.hid (Keep.refl _ _)
  have HB : Hid (Blk w b cs) := Lib.hid hb
  have hf := hb.unfrozen
  obtain ⟨x0, h0⟩ : ∃ x, w.cell? ⟨b, o, none⟩ = some x := ⟨cs[o], hb.cell (by simp)⟩
  obtain ⟨x1, h1⟩ : ∃ x, w.cell? ⟨b, o + 1, none⟩ = some x := ⟨cs[o + 1], hb.cell (by simp)⟩
  obtain ⟨x2, h2⟩ : ∃ x, w.cell? ⟨b, o + 2, none⟩ = some x := ⟨cs[o + 2], hb.cell (by simp)⟩
  obtain ⟨x3, h3⟩ : ∃ x, w.cell? ⟨b, o + 3, none⟩ = some x := ⟨cs[o + 3], hb.cell (by simp)⟩
  obtain ⟨x4, h4⟩ : ∃ x, w.cell? ⟨b, o + 4, none⟩ = some x := ⟨cs[o + 4], hb.cell (by simp)⟩
  obtain ⟨x5, h5⟩ : ∃ x, w.cell? ⟨b, o + 5, none⟩ = some x := ⟨cs[o + 5], hb.cell (by simp)⟩
  obtain ⟨x6, h6⟩ : ∃ x, w.cell? ⟨b, o + 6, none⟩ = some x := ⟨cs[o + 6], hb.cell (by simp)⟩
  obtain ⟨x7, h7⟩ : ∃ x, w.cell? ⟨b, o + 7, none⟩ = some x := ⟨cs[o + 7], hb.cell (by simp)⟩
  have hlt := hb.lt
  have h7' : (7 : Int) < (len : Int) := by omega
  have HO := Lib.hid ho
  clear ho hb
  go_enter Tryz.func128, Tryz.ntmps128
  go_wp2
  go_end0
  refine ⟨rfl, ?_, ?_⟩
  · refine Keep.alloc ?_ _
    repeat' (refine Keep.set ?_ (by simp) _ _ _)
    exact H.out
  · rw [← setsAt_splice _ _ _ (by have := HO.out; simp; omega), leBytes8]
    exact ((((((((HB.out.set _ _).set _ _).set _ _).set _ _).set _ _).set _ _).set _ _).set _ _).alloc _

set_option maxRecDepth 100000 in
set_option maxHeartbeats 400000 in
/-- WriterAtBuffer.WriteAt: n bytes (one at least) that fit are written. -/
theorem wabWriteAt (p d s so off n L C cap : Nat) (data scs : List Value) (w : World) (hp : Blk w p [.slice (some ⟨d, 0, none⟩) L C]) (hd : Blk w d data) (hs : Blk w s scs)
    (hL : data.length = L) (hC : L ≤ C) (hLm : C ≤ 140737488351232) (hn : 0 < n) (hfit : off + n ≤ L) (hso : so + n ≤ scs.length) (h1 : ∀ v ∈ scs, v.oneCell' = true) (hcap : n ≤ cap) :
    Calls Tryz.prog 284 #[.pointer (some ⟨p, 0, none⟩), .slice (some ⟨s, so, none⟩) n cap, .int .i64 (off : Int)] w fun e w' =>
      e = .returned (.tuple #[.int .i64 (n : Int), .nilIface]) ∧ Keep [d] w w' ∧ Blk w' d (splice data off ((scs.drop so).take n)) := by
  have hcp := fun ty => run_copy_blk (P := Tryz.prog) hd hs 28 28 ty 5 off so (L - off) (C - off) n cap Tryz.underlying28 (by kernel_rfl) n (Nat.min_eq_left (by omega)).symm (by omega) hso h1
  have hc := hp.cell (i := 0) rfl
  have hlt : (off : Int) ≤ (L : Int) := by omega
  have hlt2 : ¬ (L : Int) < (off : Int) := by omega
  have hne : ¬ C = off := by omega
  have H : Hid (Keep [d] w w) := Lib.hid (Keep.refl _ _)
  have HB : Hid (Blk w d data) := Lib.hid hd
  have HL := Lib.hid hL
  clear hd hs hL
  go_enter Tryz.func284, Tryz.ntmps284
  go_wp2
  go_ret2
  exact ⟨rfl, Keep.setCells (by simp) H.out, HB.out.setCells (by have := HL.out; simp; omega)⟩

theorem wabReserve (v : Value) (n : Int) (w : World) :
    Calls Tryz.prog 283 #[v, .int .i64 n] w fun e w' => e = .returned (.tuple #[]) ∧ w = w' := by
  go_enter Tryz.func283, Tryz.ntmps283
  go_wp2
  go_end0
  exact ⟨rfl, rfl⟩
end Go.Proofs.YtlolcgklcnechaaGreatDoor
