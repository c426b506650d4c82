/- math/bits.Len64 (below 2^16); the level encoder's small functions. -/
import Derived.Test.YtlolcgklcnechaaGreatDoorV1
import Derived.Laws.MathBits
import Derived.Deep.DeepCutAuto
import Derived.Deep.CutBlock
set_option linter.unusedVariables false
set_option linter.unusedSimpArgs false
namespace Go.Proofs.YtlolcgklcnechaaGreatDoor
open Go.RowKit

set_option maxRecDepth 1000000 in
set_option maxHeartbeats 4000000 in
theorem len64C (x : Nat) (w : World) (hx : x < 65536) :
    Calls Tryz.prog 116 #[.int .u64 (x : Int)] w fun e w' => e = .returned (.int .i64 (bitLen x : Int)) ∧ w' = w := by
  have h1 : ¬ (4294967296 : Int) ≤ (x : Int) := by omega
  have h2 : ¬ (65536 : Int) ≤ (x : Int) := by omega
  by_cases h3 : x < 256
  · have h3i : ¬ (256 : Int) ≤ (x : Int) := by omega
    have h8 := bitLen_le8 x h3
    go_enter Tryz.func116, Tryz.ntmps116
    go_upto_region 10 with fail
    have ht := fun h => len8tab_get x h
    go_wp2
    go_ret
    exact ⟨rfl, rfl⟩
  · have h3i : (256 : Int) ≤ (x : Int) := by omega
    obtain ⟨y, hy⟩ : ∃ y, y = x / 2 ^ 8 := ⟨_, rfl⟩
    have hyi : (x : Int) / 256 = (y : Int) := by rw [hy]; omega
    have hyb : y < 256 := by rw [hy]; omega
    have e := bitLen_shift x 8 (by omega)
    rw [← hy] at e
    have h8 := bitLen_le8 y hyb
    have He := Lib.hid e
    clear hy e
    go_enter Tryz.func116, Tryz.ntmps116
    go_upto_region 10 with fail
    have ht := fun h => len8tab_get y h
    go_wp2
    go_ret
    exact ⟨by rw [He.out]; simp, rfl⟩
theorem levelsCodeC (b : Bool) (w : World) : Calls Tryz.prog 73 #[.bool b] w fun e w' => e = .returned (.int .i64 (if b then 3 else 4)) ∧ w' = w := by
  cases b
  · go_enter Tryz.func73, Tryz.ntmps73
    go_wp2
    go_ret
    exact ⟨rfl, rfl⟩
  · go_enter Tryz.func73, Tryz.ntmps73
    go_wp2
    go_ret
    exact ⟨rfl, rfl⟩

/-- The width of levels up to a greatest one. -/
theorem width_spec (g : Nat) (h0 : 0 < g) (h1 : g ≤ 16384) : 0 < bitLen g ∧ bitLen g ≤ 15 ∧ ∀ v, v ≤ g → v < 2 ^ bitLen g := by
  obtain ⟨a, b⟩ := bitLen_spec g
  have b := b (by omega)
  refine ⟨?_, ?_, fun v hv => Nat.lt_of_le_of_lt hv a⟩
  · unfold bitLen; rw [if_neg (by omega)]; omega
  · have : 2 ^ (bitLen g - 1) < 2 ^ 15 := Nat.lt_of_le_of_lt b (by omega)
    have := (Nat.pow_lt_pow_iff_right (by omega : 1 < 2)).1 this
    omega

set_option maxRecDepth 100000 in
theorem maxLevelRle (g n : Nat) (w : World) (h0 : 0 < g) (h1 : g ≤ 16384) (hn : n ≤ 2147483648) :
    Calls Tryz.prog 72 #[.int .i64 3, .int .i16 (g : Int), .int .i64 (n : Int)] w fun e w' => e = .returned (.int .i64 ((maxRle (bitLen g) n + minRle (bitLen g) : Nat) : Int)) ∧ w' = w := by
  have hL := fun w => len64C g w (by omega)
  obtain ⟨-, hW, -⟩ := width_spec g h0 h1
  obtain ⟨W, hWd⟩ : ∃ W, W = bitLen g := ⟨_, rfl⟩
  rw [← hWd] at hL hW ⊢
  have hM := fun w => maxRleC W n w (by omega) hn
  have hm := fun w => minRleC W w (by omega)
  have hMb : maxRle W n ≤ 1000000000000 := by
    have h1 : (n + 7) / 8 * W ≤ 1000000000 * 15 := Nat.mul_le_mul (by omega) hW
    have h2 : (n + 7) / 8 * (1 + (W + 7) / 8) ≤ 1000000000 * 15 := Nat.mul_le_mul (by omega) (by omega)
    unfold maxRle; omega
  have hmb : minRle W ≤ 1000000000 := by unfold minRle; omega
  obtain ⟨M, hMd⟩ : ∃ M, M = maxRle W n := ⟨_, rfl⟩
  obtain ⟨m, hmd⟩ : ∃ m, m = minRle W := ⟨_, rfl⟩
  rw [← hMd] at hM hMb ⊢
  rw [← hmd] at hm hmb ⊢
  obtain ⟨T, hT⟩ : ∃ T, T = M + m := ⟨_, rfl⟩
  have hTi : (M : Int) + (m : Int) = (T : Int) := by omega
  rw [← hT]
  clear hMd hmd hWd hT
  go_enter Tryz.func72, Tryz.ntmps72
  go_wp2_with (first
    | (go_at_call 116; refine (hL _).mono ?_; rintro e w' ⟨rfl, rfl⟩)
    | (go_at_call 34; refine (hM _).mono ?_; rintro e w' ⟨rfl, rfl⟩)
    | (go_at_call 35; refine (hm _).mono ?_; rintro e w' ⟨rfl, rfl⟩))
  go_ret
  exact ⟨rfl, rfl⟩

set_option maxRecDepth 100000 in
theorem maxLevelPacked (g n : Nat) (w : World) (h0 : 0 < g) (h1 : g ≤ 16384) (hn : n ≤ 1000000) :
    Calls Tryz.prog 72 #[.int .i64 4, .int .i16 (g : Int), .int .i64 (n : Int)] w fun e w' => e = .returned (.int .i64 (((n * bitLen g + 7) / 8 : Nat) : Int)) ∧ w' = w := by
  have hL := fun w => len64C g w (by omega)
  obtain ⟨-, hW, -⟩ := width_spec g h0 h1
  obtain ⟨W, hWd⟩ : ∃ W, W = bitLen g := ⟨_, rfl⟩
  rw [← hWd] at hL hW ⊢
  obtain ⟨T, hT⟩ : ∃ T, T = n * W := ⟨_, rfl⟩
  have hTb : T ≤ 15000000 := by rw [hT]; exact Nat.mul_le_mul hn hW
  have hTi : (n : Int) * (W : Int) = (T : Int) := by rw [hT]; simp
  rw [← hT]
  obtain ⟨q, hq⟩ : ∃ q, q = (T + 7) / 8 := ⟨_, rfl⟩
  rw [← hq]
  have Hq := Lib.hid hq
  clear hWd hT hq
  go_enter Tryz.func72, Tryz.ntmps72
  go_wp2_with (first
    | (go_at_call 116; refine (hL _).mono ?_; rintro e w' ⟨rfl, rfl⟩)
    | (go_at_call 83; refine (bytesForBitsN T q _ Hq.out (by omega)).mono ?_; rintro e w' ⟨rfl, rfl⟩))
  go_ret
  exact ⟨rfl, rfl⟩

/-- The level encoder's cells. -/
def leCells (W len enc : Nat) (r b : Value) : List Value := [.int .i64 (W : Int), .int .i64 (len : Int), .int .i64 (enc : Int), r, b]

/-- What an encoder is, stays where its blocks stay. -/
theorem EncAt.keepS {S : List Nat} {w w' : World} {r b p d g L W cur rep lit : Nat} {buf done : List Nat} {o : Option (List Nat)} (h : EncAt w r b p d g L W cur rep lit buf done o) (k : Keep S w w') (hr : r ∉ S) (hb : b ∉ S) (hp : p ∉ S) (hd : d ∉ S) (hg : g ∉ S) :
    EncAt w' r b p d g L W cur rep lit buf done o := by
  have key : ∀ {ind : Int} {bf pre : List Nat} {X len : Nat}, RE w r b p d g L W cur rep lit ind bf pre X len → RE w' r b p d g L W cur rep lit ind bf pre X len := by
    rintro ind bf pre X len ⟨⟨x, h1⟩, ⟨cells, c1, c2, h2⟩, h3, h4, h5, h6, h7, h8, h9, h10, h11⟩
    exact ⟨⟨x, h1.keep k hr⟩, ⟨cells, c1, c2, h2.keep k hg⟩, h3.keep k hb hp hd, h4, h5, h6, h7, h8, h9, h10, h11⟩
  cases o with
  | none => obtain ⟨pre, X, len, a, b, c⟩ := h; exact ⟨pre, X, len, a, b, key c⟩
  | some l => obtain ⟨x, a, b⟩ := h; exact ⟨x, a, key b⟩

set_option maxRecDepth 100000 in
set_option maxHeartbeats 1000000 in
theorem initRle (x g p d L : Nat) (w : World) (hx : Blk w x (leCells 0 0 0 (.pointer none) (.pointer none))) (hp : Blk w p [.slice (some ⟨d, 0, none⟩) L L]) (hd : Blk w d (rowV .u8 (List.replicate L 0))) (hL : L ≤ 1099511627776) (pd : p ≠ d) (xp : x ≠ p) (xd : x ≠ d)
    (h0 : 0 < g) (h1 : g ≤ 16384) :
    Calls Tryz.prog 74 #[.pointer (some ⟨x, 0, none⟩), .int .i64 3, .int .i16 (g : Int), .iface 176 (.pointer (some ⟨p, 0, none⟩))] w fun e w' =>
      ∃ r b gg, e = .returned (.tuple #[]) ∧ Keep [x] w w' ∧ w.heap.size ≤ r ∧ w.heap.size ≤ b ∧ w.heap.size ≤ gg ∧ EncS w' r b p d gg L (bitLen g) ⟨0, 0, 0, [], [], none⟩ ∧ Blk w' x (leCells (bitLen g) 0 3 (.pointer (some ⟨r, 0, none⟩)) (.pointer none)) := by
  have hLen := fun w => (len64C g w (by omega)).mono fun e w' ⟨a, b⟩ => (show e = _ ∧ w = w' from ⟨a, b.symm⟩)
  obtain ⟨W, hWd⟩ : ∃ W, W = bitLen g := ⟨_, rfl⟩
  rw [← hWd] at hLen ⊢
  have fx := hx.unfrozen
  have c0 := hx.cell (i := 0) rfl
  have c2 := hx.cell (i := 2) rfl
  have c3 := hx.cell (i := 3) rfl
  have HX := Lib.hid hx
  have xl := hx.lt
  obtain ⟨w1, hw1⟩ : ∃ w1, w1 = (w.setCell ⟨x, 0, none⟩ (.int .i64 (W : Int))).setCell ⟨x, 2, none⟩ (.int .i64 3) := ⟨_, rfl⟩
  have K1 : Keep [x] w w1 := by rw [hw1]; exact ((Keep.refl _ w).set (by simp) _ _ _).set (by simp) _ _ _
  have hx1 : Blk w1 x (leCells W 0 3 (.pointer none) (.pointer none)) := by rw [hw1]; exact (hx.set 0 (.int .i64 (W : Int))).set 2 (.int .i64 ((3 : Nat) : Int))
  have hn := newRleEncoder p d L W w1 (hp.keep K1 (by simp; exact Ne.symm xp)) (hd.keep K1 (by simp; exact Ne.symm xd)) hL pd
  have hs1 : w1.heap.size = w.heap.size := by rw [hw1]; simp
  clear hWd hx hp hd
  go_enter Tryz.func74, Tryz.ntmps74
  go_wp2_with (go_at_call 116; refine (hLen _).mono ?_; rintro e w' ⟨rfl, rfl⟩)
  rw [← hw1]
  refine hn.mono ?_
  rintro e w2 ⟨r, b, gg, rfl, k2, hr, hb, hg, hE⟩
  have K2 : Keep [x] w w2 := K1.trans k2 (by simp)
  have hx2 := hx1.keep k2 (by simp)
  rw [hs1] at hr hb hg
  have fx2 := hx2.unfrozen
  have c32 := hx2.cell (i := 3) rfl
  have HX2 := Lib.hid hx2
  have HE := Lib.hid hE
  have HR := Lib.hid (And.intro hr (And.intro hb hg))
  clear hx2 hE hn k2 K1 hx1 hw1 hs1 fx c0 c2 c3 hr hb hg
  go_wp2
  go_end0
  obtain ⟨hr, hb, hg⟩ := HR.out
  have Kx : Keep [x] w2 (w2.setCell ⟨x, 3, none⟩ (.pointer (some ⟨r, 0, none⟩))) := (Keep.refl _ w2).set (by simp) _ _ _
  exact ⟨r, b, gg, rfl, K2.set (by simp) _ _ _, hr, hb, hg, EncAt.keepS HE.out Kx (by simp; omega) (by simp; omega) (by simp; exact Ne.symm xp) (by simp; exact Ne.symm xd) (by simp; omega), HX2.out.set 3 _⟩
end Go.Proofs.YtlolcgklcnechaaGreatDoor
