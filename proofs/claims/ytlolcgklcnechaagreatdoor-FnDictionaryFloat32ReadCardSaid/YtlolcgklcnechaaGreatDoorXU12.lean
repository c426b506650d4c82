/- BitReader.GetBatch whole; BitReader.Discard. -/
import Derived.Test.YtlolcgklcnechaaGreatDoorXU11
set_option linter.unusedVariables false
set_option linter.unusedSimpArgs false
namespace Go.Proofs.YtlolcgklcnechaaGreatDoor
open Go.RowKit

/-- BitReader.GetBatch. -/
theorem getBatchC (q : Nat) (x : XP) (d o n cap : Nat) (ea : Addr) (D : List Nat) (bo bi v vo m vc W p : Nat) (vcs : List Value) (w : World) (h : BRF w q x d o n cap ea D bo bi) (hbi : bi ≤ 64) (hp : 8 * bo + bi = p) (hW0 : 0 < W) (hW : W ≤ 64)
    (hv : Blk w v vcs) (vq : v ≠ q) (vx : v ≠ x.b) (vd : v ≠ d) (ve : v ≠ 4) (hvo : vo + m ≤ vcs.length) (hm0 : 0 < m) (hm : m ≤ 1099511627776) (hn8 : n + 8 ≤ 1099511627776) (hfit : p + W * m ≤ 8 * n) :
    Calls Tryz.prog 136 #[.pointer (some ⟨q, 0, none⟩), .int .u64 (W : Int), .slice (some ⟨v, vo, none⟩) m vc] w fun e w' =>
      e = .returned (.tuple #[.int .i64 (m : Int), .nilIface]) ∧ Keep [q, x, v] w w' ∧ ∃ bo' bi', 8 * bo' + bi' = p + W * m ∧ bi' ≤ 64 ∧ BRF w' q x d o n cap ea D bo' bi' ∧ Blk w' v (splice vcs vo (rowV .u64 (bitVals D p W m))) := by
  by_cases hbi0 : 0 < bi
  · by_cases h32 : W ≤ 32
    · exact getBatch_bits32 q x d o n cap ea D bo bi v vo m vc W p vcs w h hbi hbi0 hp hW0 h32 hv vq vx vd ve hvo hm hn8 hfit
    · exact getBatch_bits q x d o n cap ea D bo bi v vo m vc W p vcs w h hbi hbi0 hp hW0 hW h32 hv vq vx vd ve hvo hm hn8 hfit
  · have e : bi = 0 := by omega
    subst e
    by_cases h32 : W ≤ 32
    · exact getBatch_zero32 q x d o n cap ea D bo v vo m vc W p vcs w h (by omega) hW0 h32 hv vq vx vd ve hvo hm0 hm hn8 hfit
    · exact getBatch_zero q x d o n cap ea D bo v vo m vc W p vcs w h (by omega) hW0 hW h32 hv vq vx vd ve hvo hm0 hm hn8 hfit


set_option maxRecDepth 100000 in
set_option maxHeartbeats 4000000 in
theorem discard_bits (q : Nat) (x : XP) (d o n cap : Nat) (ea : Addr) (D : List Nat) (bo bi m W p : Nat) (w : World) (h : BRF w q x d o n cap ea D bo bi) (hbi : bi ≤ 64) (hbi0 : 0 < bi) (hp : 8 * bo + bi = p) (hW0 : 0 < W) (hW : W ≤ 64)
    (hm : m ≤ 1099511627776) (hn8 : n + 8 ≤ 1099511627776) (hfit : p + W * m ≤ 8 * n) :
    Calls Tryz.prog 92 #[.pointer (some ⟨q, 0, none⟩), .int .u64 (W : Int), .int .i64 (m : Int)] w fun e w' =>
      e = .returned (.tuple #[.int .i64 (m : Int), .nilIface]) ∧ Keep [q] w w' ∧ ∃ bo' bi', 8 * bo' + bi' = p + W * m ∧ bi' ≤ 64 ∧ BRF w' q x d o n cap ea D bo' bi' := by
  have HD := Lib.hid h.hD
  have hW64 : ¬ (64 : Int) < (W : Int) := by omega
  go_enter Tryz.func92, Tryz.ntmps92
  go_wp2_with fail
  go_loopw [8] (fun i wr => ∃ k bo' bi' : Nat, k ≤ m ∧ i = .int .i64 (k : Int) ∧ 8 * bo' + bi' = p + W * k ∧ 0 < bi' ∧ bi' ≤ 64 ∧ Keep [q] w wr ∧ BRF wr q x d o n cap ea D bo' bi') (fun i _ => m - (intOf i).toNat)
  case atStart => exact ⟨0, bo, bi, by omega, rfl, by simpa using hp, hbi0, hbi, Keep.refl _ _, h⟩
  case round =>
    obtain ⟨k, bo', bi', hk, rfl, hpos, hb0', hbi', kk, hB⟩ := hrel
    obtain ⟨c0, c1, c2, c3, c4, hfq⟩ := hB.cells
    have hne : ((bi' : Int) != 0) = true := by rw [bne_iff_ne]; omega
    by_cases hk2 : k < m
    · have hWk : W * k + W ≤ W * m := by rw [← Nat.mul_succ]; exact Nat.mul_le_mul_left _ hk2
      go_wp2_with fail
      clear c0 c1 c2 c3 c4 hfq
      refine (nextC q x d o n cap ea D bo' bi' W wr hB hW0 hW hbi' (by omega) (by omega)).mono ?_
      rw [hpos]
      rintro e w4 ⟨rfl, k4, bo2, bi2, hp2, hb0, hb64, hB4⟩
      have HB4 := Lib.hid hB4
      have Hp2 := Lib.hid hp2
      clear hB4 hB hp2
      go_wp2
      go_roundw
      case rel => exact ⟨k + 1, bo2, bi2, by omega, by go_num, by have := Hp2.out; rw [Nat.mul_succ]; omega, hb0, hb64, kk.trans k4 (by simp), HB4.out⟩
      case measure => simp [intOf]; omega
    · have hkm : m = k := by omega
      subst hkm
      obtain ⟨bo1, hbo1⟩ : ∃ b, b = bo' := ⟨_, rfl⟩
      obtain ⟨bi1, hbi1'⟩ : ∃ b, b = bi' := ⟨_, rfl⟩
      have hpos1 : 8 * bo1 + bi1 = p + W * m := by rw [hbo1, hbi1']; exact hpos
      have hbo1b : bo1 ≤ 1099511627776 := by omega
      have hbi1 : bi1 ≤ 64 := by omega
      have hk0 : m ≤ m := by omega
      have hB1 := hB
      rw [← hbo1, ← hbi1'] at hB1
      have K1 := kk
      have hmm : ¬ (32 : Int) < (m : Int) - (m : Int) := by omega
      clear hB kk hpos hb0' hbi' hne hbo1 hbi1' c0 c1 c2 c3 c4 hfq
      go_wp2_with fail
      refine (fillC q x d o n cap ea D _ bo1 bi1 _ _ hB1 hbi1 (by omega)).mono ?_
      rintro e w2 ⟨rfl, k2, h2⟩
      have K2 : Keep [q] w w2 := K1.trans k2 (by simp)
      clear hB1
      go_wp2_with fail
      go_loopw [8] (fun i wr => ∃ k bo' bi' : Nat, k ≤ m ∧ i = .int .i64 (k : Int) ∧ 8 * bo' + bi' = p + W * k ∧ bi' ≤ 64 ∧ Keep [q] w wr ∧ BRF wr q x d o n cap ea D bo' bi') (fun i _ => m - (intOf i).toNat)
      case atStart => exact ⟨m, bo1, bi1, hk0, rfl, hpos1, hbi1, K2, h2⟩
      case round =>
        obtain ⟨k, bo', bi', hk, rfl, hpos, hbi', kk, hB⟩ := hrel
        by_cases hk2 : k < m
        · have hWk : W * k + W ≤ W * m := by rw [← Nat.mul_succ]; exact Nat.mul_le_mul_left _ hk2
          go_wp2_with fail
          refine (nextC q x d o n cap ea D bo' bi' W wr hB hW0 hW hbi' (by omega) (by omega)).mono ?_
          rw [hpos]
          rintro e w4 ⟨rfl, k4, bo2, bi2, hp2, hb0, hb64, hB4⟩
          have HB4 := Lib.hid hB4
          have Hp2 := Lib.hid hp2
          clear hB4 hB hp2
          go_wp2
          go_roundw
          case rel => exact ⟨k + 1, bo2, bi2, by omega, by go_num, by have := Hp2.out; rw [Nat.mul_succ]; omega, hb64, kk.trans k4 (by simp), HB4.out⟩
          case measure => simp [intOf]; omega
        · have hkm : k = m := by omega
          subst hkm
          have HB := Lib.hid hB
          clear hB
          go_wp2
          go_ret2
          exact ⟨rfl, kk, bo', bi', hpos, hbi', HB.out⟩

set_option maxRecDepth 100000 in
set_option maxHeartbeats 4000000 in
theorem discard_few (q : Nat) (x : XP) (d o n cap : Nat) (ea : Addr) (D : List Nat) (bo1 m W p : Nat) (w : World) (h : BRF w q x d o n cap ea D bo1 0) (hp : 8 * bo1 = p) (hW0 : 0 < W) (hW : W ≤ 64) (hm0 : 0 < m)
    (hm : m ≤ 32) (hn8 : n + 8 ≤ 1099511627776) (hfit : p + W * m ≤ 8 * n) :
    Calls Tryz.prog 92 #[.pointer (some ⟨q, 0, none⟩), .int .u64 (W : Int), .int .i64 (m : Int)] w fun e w' =>
      e = .returned (.tuple #[.int .i64 (m : Int), .nilIface]) ∧ Keep [q] w w' ∧ ∃ bo' bi', 8 * bo' + bi' = p + W * m ∧ bi' ≤ 64 ∧ BRF w' q x d o n cap ea D bo' bi' := by
  have HD := Lib.hid h.hD
  have hW64 : ¬ (64 : Int) < (W : Int) := by omega
  have hm0i : (0 : Int) < (m : Int) := by omega
  have hm32 : ¬ (32 : Int) < (m : Int) := by omega
  obtain ⟨bi1, hbi1'⟩ : ∃ b, b = 0 := ⟨_, rfl⟩
  rw [← hbi1'] at h
  obtain ⟨c0, c1, c2, c3, c4, hfq⟩ := h.cells
  have hne : ((bi1 : Int) != 0) = false := by rw [hbi1']; rfl
  have hbi1 : bi1 ≤ 64 := by omega
  have hpos1 : 8 * bo1 + bi1 = p + W * 0 := by rw [hbi1']; simpa using hp
  have hbo1b : bo1 ≤ 1099511627776 := by omega
  have hB1 := h
  obtain ⟨k0, hk0'⟩ : ∃ b, b = 0 := ⟨_, rfl⟩
  rw [← hk0'] at hpos1
  have hk0 : k0 ≤ m := by omega
  have Hk0 := Lib.hid hk0'
  clear hbi1' h hk0'
  go_enter Tryz.func92, Tryz.ntmps92
  go_wp2_with fail
  go_loopw [8] (fun i wr2 => i = .int .i64 0 ∧ w = wr2) (fun _ _ => 0)
  case atStart => exact ⟨rfl, rfl⟩
  case round =>
    obtain ⟨rfl, rfl⟩ := hrel
    have K1 : Keep [q] w w := Keep.refl _ _
    go_wp2_with fail
    refine (fillC q x d o n cap ea D _ bo1 bi1 _ _ hB1 hbi1 (by omega)).mono ?_
    rintro e w2 ⟨rfl, k2, h2⟩
    have K2 : Keep [q] w w2 := K1.trans k2 (by simp)
    clear hB1
    go_wp2_with fail
    go_loopw [8] (fun i wr => ∃ k bo' bi' : Nat, k ≤ m ∧ i = .int .i64 (k : Int) ∧ 8 * bo' + bi' = p + W * k ∧ bi' ≤ 64 ∧ Keep [q] w wr ∧ BRF wr q x d o n cap ea D bo' bi') (fun i _ => m - (intOf i).toNat)
    case atStart => exact ⟨0, bo1, bi1, Nat.zero_le _, rfl, by rw [Hk0.out] at hpos1; exact hpos1, hbi1, K2, h2⟩
    case round =>
      obtain ⟨k, bo', bi', hk, rfl, hpos, hbi', kk, hB⟩ := hrel
      by_cases hk2 : k < m
      · have hWk : W * k + W ≤ W * m := by rw [← Nat.mul_succ]; exact Nat.mul_le_mul_left _ hk2
        go_wp2_with fail
        refine (nextC q x d o n cap ea D bo' bi' W wr hB hW0 hW hbi' (by omega) (by omega)).mono ?_
        rw [hpos]
        rintro e w4 ⟨rfl, k4, bo2, bi2, hp2, hb0, hb64, hB4⟩
        have HB4 := Lib.hid hB4
        have Hp2 := Lib.hid hp2
        clear hB4 hB hp2
        go_wp2
        go_roundw
        case rel => exact ⟨k + 1, bo2, bi2, by omega, by go_num, by have := Hp2.out; rw [Nat.mul_succ]; omega, hb64, kk.trans k4 (by simp), HB4.out⟩
        case measure => simp [intOf]; omega
      · have hkm : k = m := by omega
        subst hkm
        have HB := Lib.hid hB
        clear hB
        go_wp2
        go_ret2
        exact ⟨rfl, kk, bo', bi', hpos, hbi', HB.out⟩

set_option maxRecDepth 100000 in
set_option maxHeartbeats 4000000 in
theorem discard_many (q : Nat) (x : XP) (d o n cap : Nat) (ea : Addr) (D : List Nat) (bo m W p : Nat) (w : World) (h : BRF w q x d o n cap ea D bo 0) (hp : 8 * bo = p) (hW0 : 0 < W) (hW : W ≤ 64) (hm0 : 32 < m)
    (hm : m ≤ 1000000000) (hn8 : n + 8 ≤ 1099511627776) (hfit : p + W * m ≤ 8 * n) :
    Calls Tryz.prog 92 #[.pointer (some ⟨q, 0, none⟩), .int .u64 (W : Int), .int .i64 (m : Int)] w fun e w' =>
      e = .returned (.tuple #[.int .i64 (m : Int), .nilIface]) ∧ Keep [q] w w' ∧ ∃ bo' bi', 8 * bo' + bi' = p + W * m ∧ bi' ≤ 64 ∧ BRF w' q x d o n cap ea D bo' bi' := by
  have HD := Lib.hid h.hD
  have HE := Lib.hid h.hE
  have hW64 : ¬ (64 : Int) < (W : Int) := by omega
  have hm0i : (0 : Int) < (m : Int) := by omega
  have hm32 : (32 : Int) < (m : Int) := by omega
  have hra := method_ReadAt ⟨x.b, x.o, none⟩
  obtain ⟨bi1, hbi1'⟩ : ∃ b, b = 0 := ⟨_, rfl⟩
  rw [← hbi1'] at h
  unfold BRF at h
  obtain ⟨buf, hbuf⟩ : ∃ b, b = leVal ((D.drop bo).take 8) := ⟨_, rfl⟩
  obtain ⟨vb, hvb⟩ : ∃ b, b = 8 * min 8 (n - bo) := ⟨_, rfl⟩
  rw [← hbuf, ← hvb] at h
  obtain ⟨c0, c1, c2, c3, c4, hfq⟩ := h.cells
  have hne : ((bi1 : Int) != 0) = false := by rw [hbi1']; rfl
  have hbi1 : bi1 ≤ 64 := by omega
  have hbo1b : bo ≤ 1099511627776 := by omega
  obtain ⟨G, hG⟩ : ∃ G, G = m / 32 := ⟨_, rfl⟩
  obtain ⟨N, hN⟩ : ∃ N, N = G * 32 := ⟨_, rfl⟩
  obtain ⟨M1, hM1⟩ : ∃ M1, M1 = N * W := ⟨_, rfl⟩
  obtain ⟨M2, hM2⟩ : ∃ M2, M2 = 4 * W * G := ⟨_, rfl⟩
  have hM12 : M1 = 8 * M2 := by rw [hM1, hM2, hN, Nat.mul_comm (G * 32), Nat.mul_right_comm 4 W G, Nat.mul_comm (4 * G) W, ← Nat.mul_assoc 8, Nat.mul_comm 8 W, Nat.mul_assoc W 8]; congr 1; omega
  have hWk : W * N ≤ W * m := Nat.mul_le_mul_left _ (by omega)
  have hWN : W * N = 8 * M2 := by rw [← hM12, hM1, Nat.mul_comm]
  have hM20 : 0 < M2 := by
    have : 0 < W * N := Nat.mul_pos hW0 (by omega)
    omega
  have hfit2 : bo + M2 ≤ n := by omega
  have hGi : (m : Int) / 32 = (G : Int) := by omega
  have hGt : (m : Int).tdiv 32 = (G : Int) := by rw [Int.tdiv_eq_ediv_of_nonneg (by omega)]; omega
  have hNi : (G : Int) * 32 = (N : Int) := by omega
  have hM1i : (N : Int) * (W : Int) = (M1 : Int) := by rw [hM1]; simp
  have hM1b : M1 ≤ 100000000000 := by
    have : N * W ≤ 1000000000 * 64 := Nat.mul_le_mul (by omega) hW
    omega
  have hM2p : M2 = (M1 + 7) / 8 := by omega
  have HM2p := Lib.hid hM2p
  have hM2i : (0 : Int) < (M2 : Int) := by omega
  obtain ⟨bo1, hbo1⟩ : ∃ b, b = bo + M2 := ⟨_, rfl⟩
  obtain ⟨off, hoff⟩ : ∃ b, b = bo + M2 - 1 := ⟨_, rfl⟩
  have hbo1i : (bo : Int) + (M2 : Int) = (bo1 : Int) := by omega
  have hoffi : (bo1 : Int) - 1 = (off : Int) := by omega
  have hpos1 : 8 * bo1 + bi1 = p + W * N := by rw [hbo1, hbi1', hWN]; omega
  have hbo1c : bo1 ≤ 1099511627776 := by omega
  have hoffn : off < n := by omega
  have hNm : N ≤ m := by omega
  obtain ⟨k0, hk0'⟩ : ∃ b, b = N := ⟨_, rfl⟩
  have hk0 : k0 ≤ m := by omega
  rw [← hk0'] at hpos1
  have Hpos := Lib.hid hpos1
  have Hk0 := Lib.hid hk0'
  have Hr := Lib.hid h
  have Hbo1 := Lib.hid hbo1
  clear hbi1' h hk0' hbuf hvb hG hN hM1 hM2 hM12 hWk hWN hM2p hbo1 hoff hpos1
  go_enter Tryz.func92, Tryz.ntmps92
  go_wp2_with fail
  go_loopw [8] (fun i wr2 => i = .int .i64 0 ∧ w = wr2) (fun _ _ => 0)
  case atStart => exact ⟨rfl, rfl⟩
  case round =>
    obtain ⟨rfl, rfl⟩ := hrel
    go_wp2_with (go_at_call 83; refine (bytesForBitsN M1 M2 _ HM2p.out (by omega)).mono ?_; rintro e w' ⟨rfl, rfl⟩)
    obtain ⟨w1, hw1⟩ : ∃ w1, w1 = w.alloc (Obj.cells #[Value.int IntKind.u8 0] 173) := ⟨_, rfl⟩
    rw [← hw1]
    have K1 : Keep [] w w1 := by rw [hw1]; exact (Keep.refl _ _).alloc _
    have hb1 : Blk w1 w.heap.size (rowV .u8 [0]) := by rw [hw1]; exact Blk.new w (rowV .u8 [0]) _
    have ql := World.block_lt_of_cell? _ _ c0
    have xl : x.b < w.heap.size := by obtain ⟨_, _, h⟩ := Hr.out.hx; exact h.lt
    have dl : d < w.heap.size := by obtain ⟨⟨cs, h, _⟩, _⟩ := HD.out; exact h.lt
    have el := HE.out.lt
    simp only at ql
    clear c0 c1 c2 c3 c4 hfq hw1
    have hR1 := Hr.out.keep K1 (by simp) (by simp) (by simp) (by simp)
    obtain ⟨c0, c1, c2, c3, c4, hfq⟩ := hR1.cells
    obtain ⟨pos, pr, hx1⟩ := hR1.hx
    have HR1 := Lib.hid hR1
    have HB1 := Lib.hid hb1
    have HX1 := Lib.hid hx1
    have HK1 := Lib.hid K1
    clear hR1 hb1 hx1 K1
    refine wp_region_mid 14 (by kernel_rfl) (by kernel_rfl) ?_
    simp only [List.take_succ_cons, List.take_zero, List.drop_succ_cons, List.drop_zero]
    change wpStill _ _ (World.drew _) _ _ _
    repeat still_step
    refine wpStill_nil ?_
    go_wp2_with fail
    have hrd := readAt x d o n cap w.heap.size 0 1 1 off pos pr D (rowV .u8 [0]) ea 1 w1.drew HX1.out.drew ((HD.out.keep HK1.out.drew (by simp))) HB1.out.drew (HE.out.keep HK1.out.drew (by simp)) (by omega) (by omega) (by omega) (by simp) (by omega) (by omega) (by omega)
    rw [← hoffi, if_neg (Nat.lt_irrefl 1)] at hrd
    refine hrd.mono ?_
    clear hrd
    rintro e w2 ⟨rfl, k2, hb2⟩
    have hR2 := HR1.out.drew.keep k2 (by simp; omega) (by simp; omega) (by simp; omega) (by simp; omega)
    have K2 : Keep [] w w2 := HK1.out.drew.trans k2 (fun b hb => .inr (by simp at hb; omega))
    clear c0 c1 c2 c3 c4 hfq k2 hb2
    obtain ⟨c0, c1, c2, c3, c4, hfq⟩ := hR2.cells
    have hB1 := hR2.setBo bo1
    have K1 : Keep [q] w (w2.setCell ⟨q, 2, none⟩ (.int .i64 (bo1 : Int))) := (K2.weaken (by simp)).set (by simp) _ _ _
    have HB := Lib.hid hB1
    clear hR2 K2 hB1
    go_wp2_with fail
    repeat still_step
    refine wpStill_nil ?_
    go_wp2_with fail
    have hB1 := HB.out
    have hpos1 : 8 * bo1 + bi1 = p + W * N := by have := Hpos.out; rw [Hk0.out] at this; exact this
    have hk0 := hNm
    go_wp2_with fail
    refine (fillC q x d o n cap ea D _ bo1 bi1 _ _ hB1 hbi1 (by omega)).mono ?_
    rintro e w2 ⟨rfl, k2, h2⟩
    have K2 : Keep [q] w w2 := K1.trans k2 (by simp)
    clear hB1
    go_wp2_with fail
    go_loopw [8] (fun i wr => ∃ k bo' bi' : Nat, k ≤ m ∧ i = .int .i64 (k : Int) ∧ 8 * bo' + bi' = p + W * k ∧ bi' ≤ 64 ∧ Keep [q] w wr ∧ BRF wr q x d o n cap ea D bo' bi') (fun i _ => m - (intOf i).toNat)
    case atStart => exact ⟨N, bo1, bi1, hk0, rfl, hpos1, hbi1, K2, h2⟩
    case round =>
      obtain ⟨k, bo', bi', hk, rfl, hpos, hbi', kk, hB⟩ := hrel
      by_cases hk2 : k < m
      · have hWk : W * k + W ≤ W * m := by rw [← Nat.mul_succ]; exact Nat.mul_le_mul_left _ hk2
        go_wp2_with fail
        refine (nextC q x d o n cap ea D bo' bi' W wr hB hW0 hW hbi' (by omega) (by omega)).mono ?_
        rw [hpos]
        rintro e w4 ⟨rfl, k4, bo2, bi2, hp2, hb0, hb64, hB4⟩
        have HB4 := Lib.hid hB4
        have Hp2 := Lib.hid hp2
        clear hB4 hB hp2
        go_wp2
        go_roundw
        case rel => exact ⟨k + 1, bo2, bi2, by omega, by go_num, by have := Hp2.out; rw [Nat.mul_succ]; omega, hb64, kk.trans k4 (by simp), HB4.out⟩
        case measure => simp [intOf]; omega
      · have hkm : k = m := by omega
        subst hkm
        have HB := Lib.hid hB
        clear hB
        go_wp2
        go_ret2
        exact ⟨rfl, kk, bo', bi', hpos, hbi', HB.out⟩

/-- BitReader.Discard. -/
theorem discardC (q : Nat) (x : XP) (d o n cap : Nat) (ea : Addr) (D : List Nat) (bo bi m W p : Nat) (w : World) (h : BRF w q x d o n cap ea D bo bi) (hbi : bi ≤ 64) (hp : 8 * bo + bi = p) (hW0 : 0 < W) (hW : W ≤ 64)
    (hm0 : 0 < m) (hm : m ≤ 1000000000) (hn8 : n + 8 ≤ 1099511627776) (hfit : p + W * m ≤ 8 * n) :
    Calls Tryz.prog 92 #[.pointer (some ⟨q, 0, none⟩), .int .u64 (W : Int), .int .i64 (m : Int)] w fun e w' =>
      e = .returned (.tuple #[.int .i64 (m : Int), .nilIface]) ∧ Keep [q] w w' ∧ ∃ bo' bi', 8 * bo' + bi' = p + W * m ∧ bi' ≤ 64 ∧ BRF w' q x d o n cap ea D bo' bi' := by
  by_cases hbi0 : 0 < bi
  · exact discard_bits q x d o n cap ea D bo bi m W p w h hbi hbi0 hp hW0 hW (by omega) hn8 hfit
  · have e : bi = 0 := by omega
    subst e
    by_cases h32 : m ≤ 32
    · exact discard_few q x d o n cap ea D bo m W p w h (by omega) hW0 hW hm0 h32 hn8 hfit
    · exact discard_many q x d o n cap ea D bo m W p w h (by omega) hW0 hW (by omega) hm hn8 hfit
end Go.Proofs.YtlolcgklcnechaaGreatDoor
