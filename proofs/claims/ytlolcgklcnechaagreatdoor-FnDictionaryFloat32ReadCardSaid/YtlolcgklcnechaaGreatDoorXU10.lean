/- BitReader.GetBatch. -/
import Derived.Test.YtlolcgklcnechaaGreatDoorXU9
import Derived.Test.YtlolcgklcnechaaGreatDoorXD6
set_option linter.unusedVariables false
set_option linter.unusedSimpArgs false
namespace Go.Proofs.YtlolcgklcnechaaGreatDoor
open Go.RowKit

/-- m values of W bits from bit p on. -/
def bitVals (D : List Nat) (p W m : Nat) : List Nat := (List.range m).map fun i => leVal D / 2 ^ (p + W * i) % 2 ^ W
@[simp] theorem length_bitVals (D : List Nat) (p W m : Nat) : (bitVals D p W m).length = m := by simp [bitVals]
theorem bitVals_snoc (D : List Nat) (p W m : Nat) : bitVals D p W (m + 1) = bitVals D p W m ++ [leVal D / 2 ^ (p + W * m) % 2 ^ W] := by simp [bitVals, List.range_succ]

theorem splice_next {α : Type} (cs X : List α) (o : Nat) (v : α) (h : o + X.length < cs.length) : (splice cs o X).set (o + X.length) v = splice cs o (X ++ [v]) := by
  unfold splice
  have e1 : (cs.take o).length = o := by simp; omega
  rw [List.set_append_right _ _ (by rw [e1]; omega), e1, show o + X.length - o = X.length by omega, List.set_append_right _ _ (Nat.le_refl _), Nat.sub_self]
  rw [List.drop_eq_getElem_cons (by omega), List.set_cons_zero]
  simp [Nat.add_assoc]

/-- The next value is laid behind those that stand. -/
theorem Blk.lay {w : World} {v vo k : Nat} {vcs : List Value} {D : List Nat} {p W : Nat} (h : Blk w v (splice vcs vo (rowV .u64 (bitVals D p W k)))) (hk : vo + k < vcs.length) :
    Blk (w.setCell ⟨v, vo + k, none⟩ (.int .u64 ((leVal D / 2 ^ (p + W * k) % 2 ^ W : Nat) : Int))) v (splice vcs vo (rowV .u64 (bitVals D p W (k + 1)))) := by
  have := h.set (vo + k) (.int .u64 ((leVal D / 2 ^ (p + W * k) % 2 ^ W : Nat) : Int))
  have e := splice_next vcs (rowV .u64 (bitVals D p W k)) vo (.int .u64 ((leVal D / 2 ^ (p + W * k) % 2 ^ W : Nat) : Int)) (by simpa using hk)
  simp only [length_rowV, length_bitVals] at e
  rw [e] at this
  rw [bitVals_snoc, rowV_append]
  exact this
theorem Blk.layCell {w : World} {v vo k : Nat} {vcs : List Value} {D : List Nat} {p W : Nat} (h : Blk w v (splice vcs vo (rowV .u64 (bitVals D p W k)))) (hk : vo + k < vcs.length) :
    ∃ u, w.cell? ⟨v, vo + k, none⟩ = some u := by
  have hl : vo + k < (splice vcs vo (rowV .u64 (bitVals D p W k))).length := by rw [length_splice _ _ _ (by simp; omega)]; exact hk
  exact ⟨_, h.cell (List.getElem?_eq_getElem hl)⟩

theorem BR.seek {w w' : World} {q : Nat} {x : XP} {d o n cap : Nat} {ea : Addr} {D : List Nat} {buf bo bi vb : Nat} {p' pr' : Int} (h : BR w q x d o n cap ea D buf bo bi vb) (k : Keep [x] w w')
    (hx : Rd w' x [.slice (some ⟨d, o, none⟩) n cap, .int .i64 p', .int .i64 pr']) : BR w' q x d o n cap ea D buf bo bi vb := by
  obtain ⟨⟨raw, unp, h1, h2, h3⟩, _, h5, h6, h7, h8, h9, h10, h11⟩ := h
  exact ⟨⟨raw, unp, h1, h2, h3.keep k (by simp; exact h7)⟩, ⟨p', pr', hx⟩, h5.keep k (by simp; exact Ne.symm h9), h6.keep k (by simp; exact Ne.symm h11), h7, h8, h9, h10, h11⟩



set_option maxRecDepth 100000 in
set_option maxHeartbeats 4000000 in
theorem getBatch_bits (q : Nat) (x : XP) (d o n cap : Nat) (ea : Addr) (D : List Nat) (bo bi v vo m vc W p : Nat) (vcs : List Value) (w : World) (h : BRF w q x d o n cap ea D bo bi) (hbi : bi ≤ 64) (hbi0 : 0 < bi) (hp : 8 * bo + bi = p) (hW0 : 0 < W) (hW : W ≤ 64) (hW32 : ¬ W ≤ 32)
    (hv : Blk w v vcs) (vq : v ≠ q) (vx : v ≠ x.b) (vd : v ≠ d) (ve : v ≠ 4) (hvo : vo + m ≤ vcs.length) (hm : m ≤ 1099511627776) (hn8 : n + 8 ≤ 1099511627776) (hfit : p + W * m ≤ 8 * n) :
    Calls Tryz.prog 136 #[.pointer (some ⟨q, 0, none⟩), .int .u64 (W : Int), .slice (some ⟨v, vo, none⟩) m vc] w fun e w' =>
      e = .returned (.tuple #[.int .i64 (m : Int), .nilIface]) ∧ Keep [q, x, v] w w' ∧ ∃ bo' bi', 8 * bo' + bi' = p + W * m ∧ bi' ≤ 64 ∧ BRF w' q x d o n cap ea D bo' bi' ∧ Blk w' v (splice vcs vo (rowV .u64 (bitVals D p W m))) := by
  have HD := Lib.hid h.hD
  have hV0 : Blk w v (splice vcs vo (rowV .u64 (bitVals D p W 0))) := by simpa [bitVals, splice, rowV] using hv
  have hW64 : ¬ (64 : Int) < (W : Int) := by omega
  have hW32' : ¬ (W : Int) ≤ 32 := by omega
  go_enter Tryz.func136, Tryz.ntmps136
  go_wp2_with fail
  go_loopw [9] (fun i wr => ∃ k bo' bi' : Nat, k ≤ m ∧ i = .int .i64 (k : Int) ∧ 8 * bo' + bi' = p + W * k ∧ 0 < bi' ∧ bi' ≤ 64 ∧ Keep [q, x, v] w wr ∧ BRF wr q x d o n cap ea D bo' bi' ∧ Blk wr v (splice vcs vo (rowV .u64 (bitVals D p W k)))) (fun i _ => m - (intOf i).toNat)
  case atStart => exact ⟨0, bo, bi, by omega, rfl, by simpa using hp, hbi0, hbi, Keep.refl _ _, h, hV0⟩
  case round =>
    obtain ⟨k, bo', bi', hk, rfl, hpos, hb0', hbi', kk, hB, hV⟩ := hrel
    obtain ⟨c0, c1, c2, c3, c4, hfq⟩ := hB.cells
    have hne : ((bi' : Int) != 0) = true := by rw [bne_iff_ne]; omega
    by_cases hk2 : k < m
    · have hWk : W * k + W ≤ W * m := by rw [← Nat.mul_succ]; exact Nat.mul_le_mul_left _ hk2
      go_wp2_with fail
      clear c0 c1 c2 c3 c4 hfq
      refine (nextC q x d o n cap ea D bo' bi' W wr hB hW0 hW hbi' (by omega) (by omega)).mono ?_
      rw [hpos]
      rintro e w4 ⟨rfl, k4, bo2, bi2, hp2, hb0, hb64, hB4⟩
      have hV4 := hV.keep k4 (by simp; exact vq)
      obtain ⟨u, hcu⟩ := hV4.layCell (k := k) (by omega)
      have hfv := hV4.unfrozen
      have HV4 := Lib.hid hV4
      have HB4 := Lib.hid hB4
      have Hp2 := Lib.hid hp2
      clear hV4 hB4 hV hB hp2
      go_wp2
      go_roundw
      case rel =>
        refine ⟨k + 1, bo2, bi2, by omega, by go_num, by have := Hp2.out; rw [Nat.mul_succ]; omega, hb0, hb64, (kk.trans k4 (by simp)).set (by simp) _ _ _, HB4.out.keep (S := [v]) ((Keep.refl [v] w4).set (b := v) (by simp) _ _ _) (by simp; exact Ne.symm vq) (by simp; exact Ne.symm vx) (by simp; exact Ne.symm vd) (by simp; exact Ne.symm ve), HV4.out.lay (by omega)⟩
      case measure => simp [intOf]; omega
    · have hkm : m = k := by omega
      subst hkm
      obtain ⟨bo1, hbo1⟩ : ∃ b, b = bo' := ⟨_, rfl⟩
      obtain ⟨bi1, hbi1'⟩ : ∃ b, b = bi' := ⟨_, rfl⟩
      have hpos1 : 8 * bo1 + bi1 = p + W * m := by rw [hbo1, hbi1']; exact hpos
      have hbo1b : bo1 ≤ 1099511627776 := by omega
      have hbi1 : bi1 ≤ 64 := by omega
      have hm0 : m ≤ m := by omega
      have hB1 := hB
      rw [← hbo1, ← hbi1'] at hB1
      have hV1 := hV
      have K1 := kk
      clear hB hV kk hpos hb0' hbi' hne hbo1 hbi1' c0 c1 c2 c3 c4 hfq
      go_wp2_with fail
      refine (fillC q x d o n cap ea D _ bo1 bi1 _ _ hB1 hbi1 (by omega)).mono ?_
      rintro e w2 ⟨rfl, k2, h2⟩
      have hV2 := hV1.keep k2 (by simp; exact vq)
      have K2 : Keep [q, x, v] w w2 := K1.trans k2 (by simp)
      clear hB1 hV1
      go_wp2_with fail
      go_loopw [9] (fun i wr => ∃ k bo' bi' : Nat, k ≤ m ∧ i = .int .i64 (k : Int) ∧ 8 * bo' + bi' = p + W * k ∧ bi' ≤ 64 ∧ Keep [q, x, v] w wr ∧ BRF wr q x d o n cap ea D bo' bi' ∧ Blk wr v (splice vcs vo (rowV .u64 (bitVals D p W k)))) (fun i _ => m - (intOf i).toNat)
      case atStart => exact ⟨m, bo1, bi1, hm0, rfl, hpos1, hbi1, K2, h2, hV2⟩
      case round =>
        obtain ⟨k, bo', bi', hk, rfl, hpos, hbi', kk, hB, hV⟩ := hrel
        by_cases hk2 : k < m
        · have hWk : W * k + W ≤ W * m := by rw [← Nat.mul_succ]; exact Nat.mul_le_mul_left _ hk2
          go_wp2_with fail
          refine (nextC q x d o n cap ea D bo' bi' W wr hB hW0 hW hbi' (by omega) (by omega)).mono ?_
          rw [hpos]
          rintro e w4 ⟨rfl, k4, bo2, bi2, hp2, hb0, hb64, hB4⟩
          have hV4 := hV.keep k4 (by simp; exact vq)
          obtain ⟨u, hcu⟩ := hV4.layCell (k := k) (by omega)
          have hfv := hV4.unfrozen
          have HV4 := Lib.hid hV4
          have HB4 := Lib.hid hB4
          have Hp2 := Lib.hid hp2
          clear hV4 hB4 hV hB hp2
          go_wp2
          go_roundw
          case rel =>
            refine ⟨k + 1, bo2, bi2, by omega, by go_num, by have := Hp2.out; rw [Nat.mul_succ]; omega, hb64, (kk.trans k4 (by simp)).set (by simp) _ _ _, HB4.out.keep (S := [v]) ((Keep.refl [v] w4).set (b := v) (by simp) _ _ _) (by simp; exact Ne.symm vq) (by simp; exact Ne.symm vx) (by simp; exact Ne.symm vd) (by simp; exact Ne.symm ve), HV4.out.lay (by omega)⟩
          case measure => simp [intOf]; omega
        · have hkm : k = m := by omega
          subst hkm
          have HB := Lib.hid hB
          have HV := Lib.hid hV
          clear hB hV
          go_wp2
          go_ret2
          exact ⟨rfl, kk, bo', bi', hpos, hbi', HB.out, HV.out⟩

set_option maxRecDepth 100000 in
set_option maxHeartbeats 4000000 in
theorem getBatch_bits32 (q : Nat) (x : XP) (d o n cap : Nat) (ea : Addr) (D : List Nat) (bo bi v vo m vc W p : Nat) (vcs : List Value) (w : World) (h : BRF w q x d o n cap ea D bo bi) (hbi : bi ≤ 64) (hbi0 : 0 < bi) (hp : 8 * bo + bi = p) (hW0 : 0 < W) (hW32 : W ≤ 32)
    (hv : Blk w v vcs) (vq : v ≠ q) (vx : v ≠ x.b) (vd : v ≠ d) (ve : v ≠ 4) (hvo : vo + m ≤ vcs.length) (hm : m ≤ 1099511627776) (hn8 : n + 8 ≤ 1099511627776) (hfit : p + W * m ≤ 8 * n) :
    Calls Tryz.prog 136 #[.pointer (some ⟨q, 0, none⟩), .int .u64 (W : Int), .slice (some ⟨v, vo, none⟩) m vc] w fun e w' =>
      e = .returned (.tuple #[.int .i64 (m : Int), .nilIface]) ∧ Keep [q, x, v] w w' ∧ ∃ bo' bi', 8 * bo' + bi' = p + W * m ∧ bi' ≤ 64 ∧ BRF w' q x d o n cap ea D bo' bi' ∧ Blk w' v (splice vcs vo (rowV .u64 (bitVals D p W m))) := by
  have HD := Lib.hid h.hD
  have hV0 : Blk w v (splice vcs vo (rowV .u64 (bitVals D p W 0))) := by simpa [bitVals, splice, rowV] using hv
  have hW64 : ¬ (64 : Int) < (W : Int) := by omega
  have hW32' : (W : Int) ≤ 32 := by omega
  have hW : W ≤ 64 := by omega
  have hsk := method_Seek ⟨x.b, x.o, none⟩
  go_enter Tryz.func136, Tryz.ntmps136
  go_wp2_with fail
  go_loopw [9] (fun i wr => ∃ k bo' bi' : Nat, k ≤ m ∧ i = .int .i64 (k : Int) ∧ 8 * bo' + bi' = p + W * k ∧ 0 < bi' ∧ bi' ≤ 64 ∧ Keep [q, x, v] w wr ∧ BRF wr q x d o n cap ea D bo' bi' ∧ Blk wr v (splice vcs vo (rowV .u64 (bitVals D p W k)))) (fun i _ => m - (intOf i).toNat)
  case atStart => exact ⟨0, bo, bi, by omega, rfl, by simpa using hp, hbi0, hbi, Keep.refl _ _, h, hV0⟩
  case round =>
    obtain ⟨k, bo', bi', hk, rfl, hpos, hb0', hbi', kk, hB, hV⟩ := hrel
    obtain ⟨c0, c1, c2, c3, c4, hfq⟩ := hB.cells
    have hne : ((bi' : Int) != 0) = true := by rw [bne_iff_ne]; omega
    by_cases hk2 : k < m
    · have hWk : W * k + W ≤ W * m := by rw [← Nat.mul_succ]; exact Nat.mul_le_mul_left _ hk2
      go_wp2_with fail
      clear c0 c1 c2 c3 c4 hfq
      refine (nextC q x d o n cap ea D bo' bi' W wr hB hW0 hW hbi' (by omega) (by omega)).mono ?_
      rw [hpos]
      rintro e w4 ⟨rfl, k4, bo2, bi2, hp2, hb0, hb64, hB4⟩
      have hV4 := hV.keep k4 (by simp; exact vq)
      obtain ⟨u, hcu⟩ := hV4.layCell (k := k) (by omega)
      have hfv := hV4.unfrozen
      have HV4 := Lib.hid hV4
      have HB4 := Lib.hid hB4
      have Hp2 := Lib.hid hp2
      clear hV4 hB4 hV hB hp2
      go_wp2
      go_roundw
      case rel =>
        refine ⟨k + 1, bo2, bi2, by omega, by go_num, by have := Hp2.out; rw [Nat.mul_succ]; omega, hb0, hb64, (kk.trans k4 (by simp)).set (by simp) _ _ _, HB4.out.keep (S := [v]) ((Keep.refl [v] w4).set (b := v) (by simp) _ _ _) (by simp; exact Ne.symm vq) (by simp; exact Ne.symm vx) (by simp; exact Ne.symm vd) (by simp; exact Ne.symm ve), HV4.out.lay (by omega)⟩
      case measure => simp [intOf]; omega
    · have hkm : m = k := by omega
      subst hkm
      obtain ⟨bo1, hbo1⟩ : ∃ b, b = bo' := ⟨_, rfl⟩
      obtain ⟨bi1, hbi1'⟩ : ∃ b, b = bi' := ⟨_, rfl⟩
      have hpos1 : 8 * bo1 + bi1 = p + W * m := by rw [hbo1, hbi1']; exact hpos
      have hbo1b : bo1 ≤ 1099511627776 := by omega
      have hbi1 : bi1 ≤ 64 := by omega
      have hm0 : m ≤ m := by omega
      have hB1 := hB
      rw [← hbo1, ← hbi1'] at hB1
      have hV1 := hV
      have K1 := kk
      clear hB hV kk hpos hb0' hbi' hne hbo1 hbi1' c0 c1 c2 c3 c4 hfq
      obtain ⟨c0, c1, c2, c3, c4, hfq⟩ := hB1.cells
      go_wp2_with fail
      refine wp_region_mid 10 (by kernel_rfl) (by kernel_rfl) ?_
      simp only [List.take_succ_cons, List.take_zero, List.drop_succ_cons, List.drop_zero]
      change wpStill _ _ (World.drew _) _ _ _
      repeat still_step
      refine wpStill_nil ?_
      go_wp2_with fail
      obtain ⟨p0, pr, hx⟩ := hB1.hx
      refine (seekC x bo1 _ p0 pr _ hx.drew).mono ?_
      rintro e ws ⟨rfl, ks, hxs⟩
      have hB1 := hB1.drew.seek ks hxs
      have hV1 := hV1.drew.keep ks (by simp; exact vx)
      have K1 : Keep [q, x, v] w ws := K1.drew.trans ks (by simp)
      clear c0 c1 c2 c3 c4 hfq hx hxs
      go_wp2_with fail
      repeat still_step
      refine wpStill_nil ?_
      go_wp2_with fail
      go_loopw [9] (fun i wr2 => i = .int .i64 (m : Int) ∧ wr2 = ws) (fun _ _ => 0)
      case atStart => exact ⟨rfl, rfl⟩
      case round =>
        obtain ⟨rfl, rfl⟩ := hrel
        go_wp2_with fail
        refine (fillC q x d o n cap ea D _ bo1 bi1 _ _ hB1 hbi1 (by omega)).mono ?_
        rintro e w2 ⟨rfl, k2, h2⟩
        have hV2 := hV1.keep k2 (by simp; exact vq)
        have K2 : Keep [q, x, v] w w2 := K1.trans k2 (by simp)
        clear hB1 hV1
        go_wp2_with fail
        go_loopw [9] (fun i wr => ∃ k bo' bi' : Nat, k ≤ m ∧ i = .int .i64 (k : Int) ∧ 8 * bo' + bi' = p + W * k ∧ bi' ≤ 64 ∧ Keep [q, x, v] w wr ∧ BRF wr q x d o n cap ea D bo' bi' ∧ Blk wr v (splice vcs vo (rowV .u64 (bitVals D p W k)))) (fun i _ => m - (intOf i).toNat)
        case atStart => exact ⟨m, bo1, bi1, hm0, rfl, hpos1, hbi1, K2, h2, hV2⟩
        case round =>
          obtain ⟨k, bo', bi', hk, rfl, hpos, hbi', kk, hB, hV⟩ := hrel
          by_cases hk2 : k < m
          · have hWk : W * k + W ≤ W * m := by rw [← Nat.mul_succ]; exact Nat.mul_le_mul_left _ hk2
            go_wp2_with fail
            refine (nextC q x d o n cap ea D bo' bi' W wr hB hW0 hW hbi' (by omega) (by omega)).mono ?_
            rw [hpos]
            rintro e w4 ⟨rfl, k4, bo2, bi2, hp2, hb0, hb64, hB4⟩
            have hV4 := hV.keep k4 (by simp; exact vq)
            obtain ⟨u, hcu⟩ := hV4.layCell (k := k) (by omega)
            have hfv := hV4.unfrozen
            have HV4 := Lib.hid hV4
            have HB4 := Lib.hid hB4
            have Hp2 := Lib.hid hp2
            clear hV4 hB4 hV hB hp2
            go_wp2
            go_roundw
            case rel =>
              refine ⟨k + 1, bo2, bi2, by omega, by go_num, by have := Hp2.out; rw [Nat.mul_succ]; omega, hb64, (kk.trans k4 (by simp)).set (by simp) _ _ _, HB4.out.keep (S := [v]) ((Keep.refl [v] w4).set (b := v) (by simp) _ _ _) (by simp; exact Ne.symm vq) (by simp; exact Ne.symm vx) (by simp; exact Ne.symm vd) (by simp; exact Ne.symm ve), HV4.out.lay (by omega)⟩
            case measure => simp [intOf]; omega
          · have hkm : k = m := by omega
            subst hkm
            have HB := Lib.hid hB
            have HV := Lib.hid hV
            clear hB hV
            go_wp2
            go_ret2
            exact ⟨rfl, kk, bo', bi', hpos, hbi', HB.out, HV.out⟩

set_option maxRecDepth 100000 in
set_option maxHeartbeats 4000000 in
theorem getBatch_zero (q : Nat) (x : XP) (d o n cap : Nat) (ea : Addr) (D : List Nat) (bo1 v vo m vc W p : Nat) (vcs : List Value) (w : World) (h : BRF w q x d o n cap ea D bo1 0) (hp : 8 * bo1 = p) (hW0 : 0 < W) (hW : W ≤ 64) (hW32 : ¬ W ≤ 32)
    (hv : Blk w v vcs) (vq : v ≠ q) (vx : v ≠ x.b) (vd : v ≠ d) (ve : v ≠ 4) (hvo : vo + m ≤ vcs.length) (hm0 : 0 < m) (hm : m ≤ 1099511627776) (hn8 : n + 8 ≤ 1099511627776) (hfit : p + W * m ≤ 8 * n) :
    Calls Tryz.prog 136 #[.pointer (some ⟨q, 0, none⟩), .int .u64 (W : Int), .slice (some ⟨v, vo, none⟩) m vc] w fun e w' =>
      e = .returned (.tuple #[.int .i64 (m : Int), .nilIface]) ∧ Keep [q, x, v] w w' ∧ ∃ bo' bi', 8 * bo' + bi' = p + W * m ∧ bi' ≤ 64 ∧ BRF w' q x d o n cap ea D bo' bi' ∧ Blk w' v (splice vcs vo (rowV .u64 (bitVals D p W m))) := by
  have HD := Lib.hid h.hD
  have hV0 : Blk w v (splice vcs vo (rowV .u64 (bitVals D p W 0))) := by simpa [bitVals, splice, rowV] using hv
  have hW64 : ¬ (64 : Int) < (W : Int) := by omega
  have hW32' : ¬ (W : Int) ≤ 32 := by omega
  have hm0i : (0 : Int) < (m : Int) := by omega
  have hpos1 : 8 * bo1 + 0 = p + W * 0 := by simpa using hp
  have hbo1b : bo1 ≤ 1099511627776 := by omega
  obtain ⟨bi1, hbi1'⟩ : ∃ b, b = 0 := ⟨_, rfl⟩
  rw [← hbi1'] at h
  obtain ⟨c0, c1, c2, c3, c4, hfq⟩ := h.cells
  have hne : ((bi1 : Int) != 0) = false := by rw [hbi1']; rfl
  have hbi1 : bi1 ≤ 64 := by omega
  have hpos1 : 8 * bo1 + bi1 = p + W * 0 := by rw [hbi1']; exact hpos1
  have hB1 := h
  have hV1 := hV0
  clear hbi1' h hV0 hv
  go_enter Tryz.func136, Tryz.ntmps136
  go_wp2_with fail
  go_loopw [9] (fun i wr2 => i = .int .i64 0 ∧ w = wr2) (fun _ _ => 0)
  case atStart => exact ⟨rfl, rfl⟩
  case round =>
    obtain ⟨rfl, rfl⟩ := hrel
    have K1 : Keep [q, x, v] w w := Keep.refl _ _
    go_wp2_with fail
    refine (fillC q x d o n cap ea D _ bo1 bi1 _ _ hB1 hbi1 (by omega)).mono ?_
    rintro e w2 ⟨rfl, k2, h2⟩
    have hV2 := hV1.keep k2 (by simp; exact vq)
    have K2 : Keep [q, x, v] w w2 := K1.trans k2 (by simp)
    clear hB1 hV1
    go_wp2_with fail
    go_loopw [9] (fun i wr => ∃ k bo' bi' : Nat, k ≤ m ∧ i = .int .i64 (k : Int) ∧ 8 * bo' + bi' = p + W * k ∧ bi' ≤ 64 ∧ Keep [q, x, v] w wr ∧ BRF wr q x d o n cap ea D bo' bi' ∧ Blk wr v (splice vcs vo (rowV .u64 (bitVals D p W k)))) (fun i _ => m - (intOf i).toNat)
    case atStart => exact ⟨0, bo1, bi1, Nat.zero_le _, rfl, hpos1, hbi1, K2, h2, hV2⟩
    case round =>
      obtain ⟨k, bo', bi', hk, rfl, hpos, hbi', kk, hB, hV⟩ := hrel
      by_cases hk2 : k < m
      · have hWk : W * k + W ≤ W * m := by rw [← Nat.mul_succ]; exact Nat.mul_le_mul_left _ hk2
        go_wp2_with fail
        refine (nextC q x d o n cap ea D bo' bi' W wr hB hW0 hW hbi' (by omega) (by omega)).mono ?_
        rw [hpos]
        rintro e w4 ⟨rfl, k4, bo2, bi2, hp2, hb0, hb64, hB4⟩
        have hV4 := hV.keep k4 (by simp; exact vq)
        obtain ⟨u, hcu⟩ := hV4.layCell (k := k) (by omega)
        have hfv := hV4.unfrozen
        have HV4 := Lib.hid hV4
        have HB4 := Lib.hid hB4
        have Hp2 := Lib.hid hp2
        clear hV4 hB4 hV hB hp2
        go_wp2
        go_roundw
        case rel =>
          refine ⟨k + 1, bo2, bi2, by omega, by go_num, by have := Hp2.out; rw [Nat.mul_succ]; omega, hb64, (kk.trans k4 (by simp)).set (by simp) _ _ _, HB4.out.keep (S := [v]) ((Keep.refl [v] w4).set (b := v) (by simp) _ _ _) (by simp; exact Ne.symm vq) (by simp; exact Ne.symm vx) (by simp; exact Ne.symm vd) (by simp; exact Ne.symm ve), HV4.out.lay (by omega)⟩
        case measure => simp [intOf]; omega
      · have hkm : k = m := by omega
        subst hkm
        have HB := Lib.hid hB
        have HV := Lib.hid hV
        clear hB hV
        go_wp2
        go_ret2
        exact ⟨rfl, kk, bo', bi', hpos, hbi', HB.out, HV.out⟩
end Go.Proofs.YtlolcgklcnechaaGreatDoor
