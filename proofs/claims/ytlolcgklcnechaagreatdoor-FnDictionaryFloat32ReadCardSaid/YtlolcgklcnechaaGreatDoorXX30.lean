/- BitReader.GetBatchIndex: what it leaves, and where its ways meet. BitReader.GetBatchIndex. -/
import Derived.Test.YtlolcgklcnechaaGreatDoorXX14
import Derived.Test.YtlolcgklcnechaaGreatDoorXU11
import Derived.Test.YtlolcgklcnechaaGreatDoorXU13
import Derived.Test.YtlolcgklcnechaaGreatDoorXP2
import Derived.Test.YtlolcgklcnechaaGreatDoorE6
set_option linter.unusedVariables false
set_option linter.unusedSimpArgs false
namespace Go.Proofs.YtlolcgklcnechaaGreatDoor
open Go.RowKit


theorem make_u32 (k : Int) (n : Nat) (hk : k = (n : Int)) (hn : n ≤ 70368744177664) (w : World) :
    (Instr.makeSlice 275 (.int .i64 k) (.int .i64 k)).run Tryz.prog w = .ok (.slice (some ⟨w.heap.size, 0, none⟩) n n) (w.alloc (.cells (rowV .u32 (List.replicate n 0)).toArray 202)) := by
  subst hk
  rw [rowV_replicate, ← madeRow]
  exact run_make_row' (P := Tryz.prog) 275 202 (.int .u32 0) 4 Tryz.underlying275 info_u32 rfl .i64 .i64 n (by omega) (by omega) w

theorem BR.seekS {S : List Nat} {w w' : World} {q : Nat} {x : XP} {d o n cap : Nat} {ea : Addr} {D : List Nat} {buf bo bi vb : Nat} {p' pr' : Int} (h : BR w q x d o n cap ea D buf bo bi vb) (k : Keep S w w') (hq : q ∉ S) (hd : d ∉ S) (he : 4 ∉ S)
    (hx : Rd w' x [.slice (some ⟨d, o, none⟩) n cap, .int .i64 p', .int .i64 pr']) : BR w' q x d o n cap ea D buf bo bi vb := by
  obtain ⟨⟨raw, unp, h1, h2, h3⟩, _, h5, h6, h7, h8, h9, h10, h11⟩ := h
  exact ⟨⟨raw, unp, h1, h2, h3.keep k hq⟩, ⟨p', pr', hx⟩, h5.keep k hd, h6.keep k he, h7, h8, h9, h10, h11⟩

theorem splice_two {D : List Nat} {p W k0 m vo : Nat} {vcs : List Value} (h : k0 ≤ m) (hvo : vo + m ≤ vcs.length) :
    splice (splice vcs vo (rowV .i32 (bitVals D p W k0))) (vo + k0) (rowV .i32 (bitVals D (p + W * k0) W (m - k0))) = splice vcs vo (rowV .i32 (bitVals D p W m)) := by
  have := splice_then vcs (rowV .i32 (bitVals D p W k0)) (rowV .i32 (bitVals D (p + W * k0) W (m - k0))) vo (by simp; omega)
  simp only [length_rowV, length_bitVals] at this
  rw [this, ← rowV_append, ← bitVals_add, show k0 + (m - k0) = m by omega]

theorem splice_nil {α : Type} (cs : List α) (o : Nat) : splice cs o [] = cs := by simp [splice]

def IndexPost (q : Nat) (x : XP) (d o n cap : Nat) (ea : Addr) (D : List Nat) (p W v vo m : Nat) (vcs : List Value) (w : World) (e : Ending) (w' : World) : Prop :=
  e = .returned (.tuple #[.int .i64 (m : Int), .nilIface]) ∧ Keep [q, x, v] w w' ∧ ∃ bo' bi', 8 * bo' + bi' = p + W * m ∧ bi' ≤ 64 ∧ BRF w' q x d o n cap ea D bo' bi' ∧ Blk w' v (splice vcs vo (rowV .i32 (bitVals D p W m)))

def IdxA (q : Nat) (x : XP) (d o n cap : Nat) (ea : Addr) (D : List Nat) (p W v vo m : Nat) (vcs : List Value) (w : World) (iv : Value) (wx : World) : Prop :=
  ∃ k : Nat, iv = .int .i64 (k : Int) ∧ k < m ∧ Keep [q, x, v] w wx ∧ Blk wx v (splice vcs vo (rowV .i32 (bitVals D p W k))) ∧ ∃ bo buf vb : Nat, 8 * bo = p + W * k ∧ BR wx q x d o n cap ea D buf bo 0 vb

def IdxC (q : Nat) (x : XP) (d o n cap : Nat) (ea : Addr) (D : List Nat) (p W v vo m : Nat) (vcs : List Value) (w : World) (iv : Value) (wx : World) : Prop :=
  ∃ t : Nat, iv = .int .i64 (t : Int) ∧ t ≤ m ∧ Keep [q, x, v] w wx ∧ Blk wx v (splice vcs vo (rowV .i32 (bitVals D p W t))) ∧ ∃ bo buf vb : Nat, 8 * bo = p + W * t ∧ BR wx q x d o n cap ea D buf bo 0 vb
end Go.Proofs.YtlolcgklcnechaaGreatDoor
set_option linter.unusedVariables false
set_option linter.unusedSimpArgs false
namespace Go.Proofs.YtlolcgklcnechaaGreatDoor
open Go.RowKit

set_option maxRecDepth 100000 in
set_option maxHeartbeats 8000000 in
theorem batchIndexC (q : Nat) (x : XP) (d o n cap : Nat) (ea : Addr) (D : List Nat) (bo bi v vo m vc W p : Nat) (vcs : List Value) (w : World) (h : BRF w q x d o n cap ea D bo bi) (hbi : bi ≤ 64) (hp : 8 * bo + bi = p) (hW0 : 0 < W) (hW : W ≤ 31)
    (hv : Blk w v vcs) (vq : v ≠ q) (vx : v ≠ x.b) (vd : v ≠ d) (ve : v ≠ 4) (ql : q < w.heap.size) (xl : x.b < w.heap.size) (dl : d < w.heap.size) (vl : v < w.heap.size) (el : 4 < w.heap.size) (hvo : vo + m ≤ vcs.length) (hm0 : 0 < m) (hm : m ≤ 1099511627776) (hmc : m ≤ vc) (hn8 : n + 8 ≤ 1099511627776) (hfit : p + W * m ≤ 8 * n) :
    Calls Tryz.prog 158 #[.pointer (some ⟨q, 0, none⟩), .int .u64 (W : Int), .slice (some ⟨v, vo, none⟩) m vc] w fun e w' => IndexPost q x d o n cap ea D p W v vo m vcs w e w' := by
  have Hby := Lib.hid h.hD.bytes
  have hW32 : ¬ (32 : Int) < (W : Int) := by omega
  have hWi1 : ((W : Int) == 0) = false := by rw [beq_eq_false_iff_ne]; omega
  have hsk := method_Seek ⟨x.b, x.o, none⟩
  obtain ⟨c0, c1, c2, c3, c4, hfq⟩ := h.cells
  have HB := Lib.hid (And.intro h hv)
  clear h hv
  go_enter Tryz.func158, Tryz.ntmps158
  go_upto_if 29 with (fail)
  go_cut [6] (fun iv wx => IdxA q x d o n cap ea D p W v vo m vcs w iv wx)
  case first =>
    by_cases hbi0 : 0 < bi
    · have hbn : ((bi : Int) != 0) = true := by rw [bne_iff_ne]; omega
      go_wp2_with fail
      refine (batchIndexScalar true q x d o n cap ea D bo bi v vo m vc W p vcs _ HB.out.1 hbi (fun _ => hbi0) hp hW0 hW HB.out.2 vq vx vd ve hvo hm hmc hn8 hfit).mono ?_
      rintro e w2 ⟨k, hk, rfl, k2, hV2, hcase⟩
      clear c0 c1 c2 c3 c4 hfq
      rcases hcase with ⟨hkm, bo', bi', hpos, hbi', h0, hB⟩ | ⟨-, hkm, bo1, buf, vb, hpos1, hB1⟩
      · subst hkm
        have H2 := Lib.hid (And.intro hpos (And.intro hB hV2))
        clear hpos hB hV2 h0
        go_wp2
        go_ret2
        exact ⟨rfl, k2.weaken (by simp), bo', bi', H2.out.1, hbi', H2.out.2.1, H2.out.2.2⟩
      · have hke1 : ¬ (k : Int) = (m : Int) := by omega
        have hke2 : ((k : Int) == (m : Int)) = false := by rw [beq_eq_false_iff_ne]; omega
        have H2 := Lib.hid (show IdxA q x d o n cap ea D p W v vo m vcs w (.int .i64 (k : Int)) w2 from ⟨k, rfl, hkm, k2.weaken (by simp), hV2, bo1, buf, vb, hpos1, hB1⟩)
        clear hpos1 hB1 hV2 k2
        go_wp2_with fail
        go_meet
        exact H2.out
    · have hb0 : bi = 0 := by omega
      subst hb0
      have hbn : (((0 : Nat) : Int) != 0) = false := rfl
      have H2 := Lib.hid (show IdxA q x d o n cap ea D p W v vo m vcs w (.int .i64 0) w from ⟨0, rfl, hm0, Keep.refl _ _, by simpa [bitVals, splice, rowV] using HB.out.2, bo, _, _, by omega, HB.out.1⟩)
      go_wp2_with fail
      go_meet
      exact H2.out
  case rest =>
    obtain ⟨k, rfl, hkm, K2, hV1, bo1, buf, vb, hpos1, hB1⟩ := hcut
    have hkm1 : (k : Int) < (m : Int) := by omega
    obtain ⟨r, hrd⟩ : ∃ r, r = m - k := ⟨_, rfl⟩
    have hri : (m : Int) - (k : Int) = (r : Int) := by omega
    clear hrd
    obtain ⟨c0, c1, c2, c3, c4, hfq⟩ := hB1.cells
    have hbob : bo1 ≤ 1099511627776 := by
      have : W * k ≤ W * m := Nat.mul_le_mul_left _ (by omega)
      omega
    have HB1 := Lib.hid (And.intro hB1 (And.intro hV1 hpos1))
    have HK2 := Lib.hid K2
    clear hB1 hV1 K2 HB hpos1 hp
    go_wp2_with fail
    refine wp_region_mid 10 (by kernel_rfl) (by kernel_rfl) ?_
    simp only [List.take_succ_cons, List.take_zero, List.drop_succ_cons, List.drop_zero]
    change wpStill _ _ (World.drew _) _ _ _
    repeat still_step
    refine wpStill_nil ?_
    go_wp2_with fail
    obtain ⟨p0, pr, hx⟩ := HB1.out.1.hx
    refine (seekC x bo1 _ p0 pr _ hx.drew).mono ?_
    rintro e ws ⟨rfl, ks, hxs⟩
    have hB2 := HB1.out.1.drew.seek ks hxs
    have hV2 := HB1.out.2.1.drew.keep ks (by simp; exact vx)
    have K3 : Keep [q, x, v] w ws := HK2.out.drew.trans ks (by simp)
    have HS := Lib.hid (And.intro hB2 (And.intro hV2 (And.intro K3 hxs)))
    clear c0 c1 c2 c3 c4 hfq hx hB2 hV2 ks hxs K3
    go_wp2_with fail
    repeat still_step
    refine wpStill_nil ?_
    go_upto_if 68 with (fail)
    go_cut [6] (fun iv wx => IdxC q x d o n cap ea D p W v vo m vcs w iv wx)
    case first =>
      obtain ⟨hB2, hV2, K3, hxs⟩ := HS.out
      have hpos1 := HB1.out.2.2
      have hmk := make_u32 (r : Int) r rfl (by omega)
      obtain ⟨G, hG⟩ : ∃ G, G = r / 32 := ⟨_, rfl⟩
      obtain ⟨N, hN⟩ : ∃ N, N = G * 32 := ⟨_, rfl⟩
      obtain ⟨M1, hM1⟩ : ∃ M1, M1 = N * W := ⟨_, rfl⟩
      obtain ⟨M2, hM2⟩ : ∃ M2, M2 = 4 * W * G := ⟨_, rfl⟩
      have hM12 : M1 = 8 * M2 := by rw [hM1, hM2, hN, Nat.mul_comm (G * 32), Nat.mul_right_comm 4 W G, Nat.mul_comm (4 * G) W, ← Nat.mul_assoc 8, Nat.mul_comm 8 W, Nat.mul_assoc W 8]; congr 1; omega
      have hWk : W * k + W * N ≤ W * m := by rw [← Nat.mul_add]; exact Nat.mul_le_mul_left _ (by omega)
      have hWN : W * N = 8 * M2 := by rw [← hM12, hM1, Nat.mul_comm]
      have hM1i : (N : Int) * (W : Int) = (M1 : Int) := by rw [hM1]; simp
      have hM2i : (M1 : Int) / 8 = (M2 : Int) := by omega
      have hM2t : (M1 : Int).tdiv 8 = (M2 : Int) := by rw [Int.tdiv_eq_ediv_of_nonneg (by omega)]; omega
      have hfit2 : bo1 + M2 ≤ n := by omega
      have hM1b : M1 ≤ 8796093022208 := by omega
      have hNr : N ≤ r := by omega
      have hNm : k + N ≤ m := by omega
      have HM := Lib.hid (And.intro hG (And.intro hN (And.intro hM2 (And.intro hWN hpos1))))
      have hsz := K3.size
      have KA : Keep [] ws (ws.alloc (.cells (rowV .u32 (List.replicate r 0)).toArray 202)) := (Keep.refl [] ws).alloc _
      obtain ⟨a0, a1, a2, a3, a4, af⟩ := (hB2.keep KA (by simp) (by simp) (by simp) (by simp)).cells
      have hg : Blk (ws.alloc (.cells (rowV .u32 (List.replicate r 0)).toArray 202)) ws.heap.size (splice (rowV .u32 (List.replicate r 0)) 0 (rowV .u32 (List.replicate r 0))) := by
        have e1 : splice (rowV .u32 (List.replicate r 0)) 0 (rowV .u32 (List.replicate r 0)) = rowV .u32 (List.replicate r 0) := by
          unfold splice
          rw [List.take_zero, List.nil_append, List.drop_of_length_le (by simp), List.append_nil]
        rw [e1]; exact Blk.new ws _ _
      have hun := unpack32C ws.heap.size 0 x d o n cap r r bo1 W (-1) D (rowV .u32 (List.replicate r 0)) (List.replicate r 0) _ hW0 (by omega) (Nat.le_refl _) (by omega) hg (hxs.alloc _) (hB2.hD.keep KA (by simp)) (by omega) (by omega) hB2.xd (by simp) (by simp) (by simp) (by rw [← HM.out.1, ← HM.out.2.2.1]; exact hfit2)
      rw [← HM.out.1, ← HM.out.2.1, ← HM.out.2.2.1] at hun
      have HU := Lib.hid hun
      have HKA := Lib.hid KA
      clear hM12 hM1 hM2 hG hN hWN hWk hpos1 hg hun hB2 hV2 K3 hxs KA
      go_wp2_with fail
      refine HU.out.mono ?_
      rintro e w3 ⟨rfl, k3, outs, pr3, hg3, hol, hob, hval, hx3⟩
      obtain ⟨hB2, hV2, K3, hxs⟩ := HS.out
      have e1 : splice (rowV .u32 (List.replicate r 0)) 0 (rowV .u32 outs) = rowV .u32 outs := by
        unfold splice
        rw [List.take_zero, List.nil_append, List.drop_of_length_le (by simp; omega), List.append_nil]
      rw [e1] at hg3
      have hget : ∀ j, j < N → outs[j]? = some (leVal D / 2 ^ (p + W * (k + j)) % 2 ^ W) := fun j hj => by
        rw [hval j hj, val_at Hby.out HM.out.2.2.2.2]
      have hB3 := (hB2.keep HKA.out (by simp) (by simp) (by simp) (by simp)).seekS k3 (by simp; exact ⟨hB2.qx, by omega⟩) (by simp; exact ⟨Ne.symm hB2.xd, by omega⟩) (by simp; exact ⟨Ne.symm hB2.xe, by omega⟩) hx3
      have hV3 := (hV2.alloc (.cells (rowV .u32 (List.replicate r 0)).toArray 202)).keep k3 (by simp; exact ⟨vx, by omega⟩)
      have K4 : Keep [q, x, v] w w3 := (K3.alloc (.cells (rowV .u32 (List.replicate r 0)).toArray 202)).trans k3 (by simp; omega)
      obtain ⟨g, hgd⟩ : ∃ g, g = ws.heap.size := ⟨_, rfl⟩
      have hgv : g ≠ v := by omega
      rw [← hgd] at hg3
      have H3 := Lib.hid (And.intro hB3 (And.intro hget K4))
      rw [← hgd]
      clear hgd a0 a1 a2 a3 a4 af hB2 hV2 K3 k3 hxs hx3 hval hol hob hB3 hget K4 e1 hmk hsk HU HKA
      go_wp2_with fail
      go_loopw [85] (fun i wr2 => ∃ j : Nat, j ≤ N ∧ i = .int .i64 (j : Int) ∧ Keep [v] w3 wr2 ∧ Blk wr2 v (splice vcs vo (rowV .i32 (bitVals D p W (k + j))))) (fun i _ => N - (intOf i).toNat)
      case atStart => exact ⟨0, Nat.zero_le _, rfl, Keep.refl _ _, hV3⟩
      case round =>
        obtain ⟨j, hj, rfl, kj, hVj⟩ := hrel
        have hgj := hg3.keep kj (by simp; exact hgv)
        obtain ⟨t, ht⟩ : ∃ t, t = k + j := ⟨_, rfl⟩
        by_cases hj2 : j < N
        · obtain ⟨y, hy⟩ : ∃ y, y = leVal D / 2 ^ (p + W * (k + j)) % 2 ^ W := ⟨_, rfl⟩
          have hyb : y < 2147483648 := by
            rw [hy]
            exact Nat.lt_of_lt_of_le (Nat.mod_lt _ (Nat.two_pow_pos W)) (show 2 ^ W ≤ 2 ^ 31 from Nat.pow_le_pow_right (by omega) hW)
          have hcy := hgj.cell (rowV_get (k := .u32) (H3.out.2.1 j hj2))
          rw [← hy] at hcy
          have hyw : IntKind.i32.wrap (y : Int) = (y : Int) := by simp only [IntKind.wrap, IntKind.bits, IntKind.signed]; simp; omega
          have hti : (k : Int) + (j : Int) = (t : Int) := by omega
          have htm : t < m := by omega
          have hjr : j < r := by omega
          rw [← ht] at hVj hy
          obtain ⟨u, hcu⟩ := hVj.layICell (i := vo + t) (by rw [length_bitVals]; omega) (by omega)
          have hfv := hVj.unfrozen
          have HV := Lib.hid (And.intro hVj (And.intro hy ht))
          clear hVj hgj hy ht
          go_wp2
          go_roundw
          case rel =>
            refine ⟨j + 1, hj2, by go_num, kj.set (by simp) _ _ _, ?_⟩
            have := HV.out.1.layI .i32 y (by rw [length_bitVals]; omega) (vo + t) (by rw [length_bitVals])
            rw [show k + (j + 1) = t + 1 by have := HV.out.2.2; omega, bitVals_snoc, ← HV.out.2.1]
            exact this
          case measure => simp [intOf]; omega
        · have hjN : j = N := by omega
          subst hjN
          have hti : (k : Int) + (j : Int) = (t : Int) := by omega
          have htm : t ≤ m := by omega
          have hBj := H3.out.1.keep kj (by simp; exact Ne.symm vq) (by simp; exact Ne.symm vx) (by simp; exact Ne.symm vd) (by simp; exact Ne.symm ve)
          have Kj : Keep [q, x, v] w _ := H3.out.2.2.trans kj (by simp)
          obtain ⟨c0, c1, c2, c3, c4, hfq⟩ := hBj.cells
          obtain ⟨bo2, hbo2⟩ : ∃ b, b = bo1 + M2 := ⟨_, rfl⟩
          have hbo2i : (bo1 : Int) + (M2 : Int) = (bo2 : Int) := by omega
          have hbo2b : bo2 ≤ 1099511627776 := by omega
          have hpos2 : 8 * bo2 = p + W * t := by
            have h1 := HM.out.2.2.2.2
            rw [hbo2, ht, Nat.mul_add W k j, HM.out.2.2.2.1]; omega
          have hB4 := hBj.setBo bo2
          rw [← ht] at hVj
          have hV4 := hVj.set_other vq 2 none (.int .i64 (bo2 : Int))
          have K4 : Keep [q, x, v] w _ := Kj.set (b := q) (by simp) 2 none (.int .i64 (bo2 : Int))
          have HC := Lib.hid (show IdxC q x d o n cap ea D p W v vo m vcs w (.int .i64 (t : Int)) _ from ⟨t, rfl, htm, K4, hV4, bo2, _, _, hpos2, hB4⟩)
          clear hgj hVj hBj Kj ht hpos2 hbo2 hB4 hV4 K4 hg3 hV3 H3
          go_wp2_with fail
          go_meet
          exact HC.out
    case rest =>
      obtain ⟨t, rfl, htm, K4, hV4, bo2, buf2, vb2, hpos2, hB4⟩ := hcut
      have htc : t ≤ vc := by omega
      have hWt : W * t + W * (m - t) = W * m := by rw [← Nat.mul_add]; congr 1; omega
      have hbo2b : bo2 ≤ 1099511627776 := by omega
      have HWt := Lib.hid (And.intro hWt hpos2)
      have H4 := Lib.hid (And.intro hB4 (And.intro hV4 K4))
      clear hB4 hV4 K4 hWt hpos2 HS HB1 HK2
      go_wp2_with fail
      refine (fillC q x d o n cap ea D _ bo2 0 _ _ H4.out.1 (by omega) hbo2b).mono ?_
      rintro e w5 ⟨rfl, k5, h5⟩
      have hV5 := H4.out.2.1.keep k5 (by simp; exact vq)
      have K5 : Keep [q, x, v] w w5 := H4.out.2.2.trans k5 (by simp)
      have hsc := batchIndexScalar false q x d o n cap ea D bo2 0 v (vo + t) (m - t) (vc - t) W (p + W * t) (splice vcs vo (rowV .i32 (bitVals D p W t))) w5 h5 (by omega) (by simp) (by have := HWt.out.2; omega) hW0 hW hV5 vq vx vd ve (by rw [length_splice _ _ _ (by simp; omega)]; omega) (by omega) (by omega) hn8 (by have := HWt.out.1; omega)
      have hsc0 := And.intro (batchIndexScalar false q x d o n cap ea D bo2 0 v vo 0 0 W (p + W * t) (splice vcs vo (rowV .i32 (bitVals D p W t))) w5 h5 (by omega) (by simp) (by have := HWt.out.2; omega) hW0 hW hV5 vq vx vd ve (by rw [length_splice _ _ _ (by simp; omega)]; omega) (by omega) (by omega) hn8 (by have := HWt.out.1; omega)) K5
      have H5 := Lib.hid (And.intro hsc K5)
      have htI : (t : Int) ≤ (m : Int) := by omega
      clear h5 hV5 K5 H4 k5 hsc
      by_cases htv : vc = t
      · obtain rfl : m = t := by omega
        subst htv
        have H7 := Lib.hid hsc0
        clear hsc0 H5
        go_wp2_with fail
        refine H7.out.1.mono ?_
        rintro e w6 ⟨k', hk', rfl, k6, hV6, hcase⟩
        obtain rfl : k' = 0 := by omega
        rcases hcase with ⟨-, bo', bi', hpos6, hbi6, -, hB6⟩ | ⟨hf, -⟩
        · have hk'i : (vc : Int) + ((0 : Nat) : Int) = (vc : Int) := by omega
          rw [show rowV .i32 (bitVals D (p + W * vc) W 0) = [] from rfl, splice_nil] at hV6
          have K6 : Keep [q, x, v] w w6 := H7.out.2.trans k6 (by simp)
          have H6 := Lib.hid (And.intro hB6 (And.intro hV6 K6))
          have hpos7 : 8 * bo' + bi' = p + W * vc := by rw [hpos6]; omega
          clear hpos6 hV6 hB6 K6 H7
          go_wp2
          go_ret2
          exact ⟨rfl, H6.out.2.2, bo', bi', hpos7, hbi6, H6.out.1, H6.out.2.1⟩
        · cases hf
      · clear hsc0
        go_wp2_with fail
        refine H5.out.1.mono ?_
        rintro e w6 ⟨k', hk', rfl, k6, hV6, hcase⟩
        rcases hcase with ⟨hk'm, bo', bi', hpos6, hbi6, -, hB6⟩ | ⟨hf, -⟩
        · have hk'i : (t : Int) + (k' : Int) = (m : Int) := by omega
          rw [hk'm, splice_two htm hvo] at hV6
          have K6 : Keep [q, x, v] w w6 := H5.out.2.trans k6 (by simp)
          have H6 := Lib.hid (And.intro hB6 (And.intro hV6 K6))
          have hpos7 : 8 * bo' + bi' = p + W * m := by rw [hpos6, hk'm]; have := HWt.out.1; omega
          clear hpos6 hk'm hV6 hB6 K6 H5
          go_wp2
          go_ret2
          exact ⟨rfl, H6.out.2.2, bo', bi', hpos7, hbi6, H6.out.1, H6.out.2.1⟩
        · cases hf
end Go.Proofs.YtlolcgklcnechaaGreatDoor
