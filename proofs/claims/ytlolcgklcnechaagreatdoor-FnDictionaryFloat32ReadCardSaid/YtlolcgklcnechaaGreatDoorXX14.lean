/- BitReader.getBatchIndexScalar. -/
import Derived.Test.YtlolcgklcnechaaGreatDoorXU10
set_option linter.unusedVariables false
set_option linter.unusedSimpArgs false
namespace Go.Proofs.YtlolcgklcnechaaGreatDoor
open Go.RowKit

theorem Blk.layI {w : World} {v vo : Nat} {vcs : List Value} {A : List Nat} (kd : IntKind) (h : Blk w v (splice vcs vo (rowV kd A))) (x : Nat) (hk : vo + A.length < vcs.length) (i : Nat) (hi : i = vo + A.length) :
    Blk (w.setCell ⟨v, i, none⟩ (.int kd (x : Int))) v (splice vcs vo (rowV kd (A ++ [x]))) := by
  subst hi
  have := h.set (vo + A.length) (.int kd (x : Int))
  have e := splice_next vcs (rowV kd A) vo (.int kd (x : Int)) (by simpa using hk)
  simp only [length_rowV] at e
  rw [e] at this
  rw [rowV_append]
  exact this
theorem Blk.layICell {w : World} {v vo : Nat} {vcs : List Value} {kd : IntKind} {A : List Nat} (h : Blk w v (splice vcs vo (rowV kd A))) (i : Nat) (hA : vo + A.length ≤ vcs.length) (hk : i < vcs.length) : ∃ u, w.cell? ⟨v, i, none⟩ = some u := by
  have hl : i < (splice vcs vo (rowV kd A)).length := by rw [length_splice _ _ _ (by simp; omega)]; exact hk
  exact ⟨_, h.cell (List.getElem?_eq_getElem hl)⟩

/-- How far it came: to the end, or (where it shall stop) to a byte's start. -/
def ScalarPost (stop : Bool) (q : Nat) (x : XP) (d o n cap : Nat) (ea : Addr) (D : List Nat) (p W v vo m : Nat) (vcs : List Value) (w : World) (e : Ending) (w' : World) : Prop :=
  ∃ k, k ≤ m ∧ e = .returned (.tuple #[.int .i64 (k : Int), .nilIface]) ∧ Keep [q, v] w w' ∧ Blk w' v (splice vcs vo (rowV .i32 (bitVals D p W k))) ∧
    ((k = m ∧ ∃ bo bi, 8 * bo + bi = p + W * k ∧ bi ≤ 64 ∧ (0 < bi ∨ m = 0) ∧ BRF w' q x d o n cap ea D bo bi) ∨ (stop = true ∧ k < m ∧ ∃ bo buf vb, 8 * bo = p + W * k ∧ BR w' q x d o n cap ea D buf bo 0 vb))


set_option maxRecDepth 100000 in
set_option maxHeartbeats 4000000 in
theorem batchIndexScalar (stop : Bool) (q : Nat) (x : XP) (d o n cap : Nat) (ea : Addr) (D : List Nat) (bo bi v vo m vc W p : Nat) (vcs : List Value) (w : World) (h : BRF w q x d o n cap ea D bo bi) (hbi : bi ≤ 64) (hbi0 : stop = true → 0 < bi) (hp : 8 * bo + bi = p) (hW0 : 0 < W) (hW : W ≤ 31)
    (hv : Blk w v vcs) (vq : v ≠ q) (vx : v ≠ x.b) (vd : v ≠ d) (ve : v ≠ 4) (hvo : vo + m ≤ vcs.length) (hm : m ≤ 1099511627776) (hmc : m ≤ vc) (hn8 : n + 8 ≤ 1099511627776) (hfit : p + W * m ≤ 8 * n) :
    Calls Tryz.prog 173 #[.pointer (some ⟨q, 0, none⟩), .int .u64 (W : Int), .slice (some ⟨v, vo, none⟩) m vc, .bool stop] w fun e w' => ScalarPost stop q x d o n cap ea D p W v vo m vcs w e w' := by
  have hby := h.hD.bytes
  have hV0 : Blk w v (splice vcs vo (rowV .i32 (bitVals D p W 0))) := by simpa [bitVals, splice, rowV] using hv
  have hWi1 : ((W : Int) == 0) = false := by rw [beq_eq_false_iff_ne]; omega
  have HB := Lib.hid (And.intro h hV0)
  have Hp := Lib.hid (And.intro hp hby)
  clear h hv hV0 hp hby
  go_enter Tryz.func173, Tryz.ntmps173
  go_wp2_with fail
  go_loopw [10] (fun i wr => ∃ k bo' bi' : Nat, k ≤ m ∧ i = .int .i64 (k : Int) ∧ 8 * bo' + bi' = p + W * k ∧ bi' ≤ 64 ∧ (0 < bi' ∨ k = 0) ∧ (stop = true → 0 < bi') ∧ Keep [q, v] w wr ∧ BRF wr q x d o n cap ea D bo' bi' ∧ Blk wr v (splice vcs vo (rowV .i32 (bitVals D p W k)))) (fun i _ => m - (intOf i).toNat)
  case atStart => exact ⟨0, bo, bi, Nat.zero_le _, rfl, by have := Hp.out.1; omega, hbi, .inr rfl, hbi0, Keep.refl _ _, HB.out.1, HB.out.2⟩
  case round =>
    obtain ⟨k, bo', bi', hk, rfl, hpos, hbi', h0, hst, kk, hB, hV⟩ := hrel
    obtain ⟨c0, c1, c2, c3, c4, hf⟩ := hB.cells
    by_cases hk2 : k < m
    · obtain ⟨VB, hVB⟩ : ∃ VB, VB = 8 * min 8 (n - bo') := ⟨_, rfl⟩
      have hVB64 : VB ≤ 64 := by omega
      have hWk : W * (k + 1) ≤ W * m := Nat.mul_le_mul_left _ hk2
      rw [Nat.mul_succ] at hWk
      have hfk : 8 * bo' + bi' + W ≤ 8 * n := by omega
      cases stop with
      | false =>
        have hVBc : wr.cell? ⟨q, 4, none⟩ = some (.int .u64 (VB : Int)) := by rw [hVB]; exact c4
        have HB2 := Lib.hid (And.intro hB hV)
        have Hpos := Lib.hid (And.intro hpos (And.intro h0 hVB))
        clear hB hV hpos h0 c4 hVB
        by_cases hlt : bi' < VB
        · obtain ⟨r, hr⟩ : ∃ r, r = VB - bi' := ⟨_, rfl⟩
          obtain ⟨c, hcd⟩ : ∃ c, c = r / W := ⟨_, rfl⟩
          obtain ⟨f, hfd⟩ : ∃ f, f = m - k := ⟨_, rfl⟩
          have hri : (VB : Int) - (bi' : Int) = (r : Int) := by omega
          have hci1 : Int.tdiv (r : Int) (W : Int) = (c : Int) := by rw [hcd]; simp [Int.tdiv_eq_ediv_of_nonneg]
          have hci2 : (r : Int) / (W : Int) = (c : Int) := by rw [hcd]; simp
          have hfi : (m : Int) - (k : Int) = (f : Int) := by omega
          have hcW : W * c ≤ r := by rw [hcd]; exact Nat.mul_div_le r W
          have hrb : r ≤ 64 := by omega
          have hcb : c ≤ 64 := by have : c ≤ W * c := Nat.le_mul_of_pos_left c hW0; omega
          have Hd := Lib.hid (And.intro hr (And.intro hcd hfd))
          have hrV : r + bi' ≤ 64 := by omega
          have hfk2 : k + f = m := by omega
          clear hr hcd hfd
          rcases Nat.lt_trichotomy c f with hcf | hcf | hcf
          · have hcf1 : (c : Int) < (f : Int) := by omega
            have hcf2 : ¬ (f : Int) ≤ (c : Int) := by omega
            go_wp2_with fail
            go_region
            go_wp2_with fail
            go_region
            go_wp2_with fail
            go_loopw [78, 10] (fun jv iv wr2 => ∃ s ks : Nat, s ≤ c ∧ ks = k + s ∧ jv = .int .i64 (s : Int) ∧ iv = .int .i64 (ks : Int) ∧ Keep [q, v] w wr2 ∧ BRF wr2 q x d o n cap ea D bo' (bi' + W * s) ∧ Blk wr2 v (splice vcs vo (rowV .i32 (bitVals D p W ks)))) (fun jv _ _ => c - (intOf jv).toNat)
            case atStart => exact ⟨0, k, Nat.zero_le _, rfl, rfl, rfl, kk.drew.drew, by simpa [BRF] using BR.drew (BR.drew HB2.out.1), HB2.out.2.drew.drew⟩
            case round =>
              obtain ⟨s, ks, hs, hks, rfl, rfl, kk3, hB3, hV3⟩ := hrel
              obtain ⟨b1, hb1⟩ : ∃ b1, b1 = bi' + W * s := ⟨_, rfl⟩
              rw [← hb1] at hB3
              have hWs : W * s ≤ W * c := Nat.mul_le_mul_left _ hs
              have hks2 : ks ≤ m := by omega
              by_cases hs2 : s < c
              · have hWs1 : W * (s + 1) ≤ W * c := Nat.mul_le_mul_left _ hs2
                rw [Nat.mul_succ] at hWs1
                obtain ⟨E, hE⟩ : ∃ E, E = b1 + W := ⟨_, rfl⟩
                have hE64 : E ≤ 64 := by omega
                have hEi : (b1 : Int) + (W : Int) = (E : Int) := by omega
                have hEw : IntKind.u64.wrap ((b1 : Int) + (W : Int)) = (E : Int) := by rw [IntWalk.u64_in ((b1 : Int) + (W : Int)) (by omega), hEi]
                unfold BRF at hB3
                obtain ⟨B, hBd⟩ : ∃ B, B = leVal ((D.drop bo').take 8) := ⟨_, rfl⟩
                have hwin := window D bo' Hp.out.2
                have hB64 : B < 18446744073709551616 := by rw [hBd, hwin]; exact Nat.mod_lt _ (by omega)
                have hval := bits_in (leVal D) (8 * bo') b1 W (by omega)
                rw [← hwin, ← hBd, ← hE] at hval
                rw [← hBd] at hB3
                obtain ⟨Y, hY⟩ : ∃ Y, Y = B % 2 ^ E := ⟨_, rfl⟩
                obtain ⟨V, hVd⟩ : ∃ V, V = Y / 2 ^ b1 := ⟨_, rfl⟩
                rw [← hY, ← hVd] at hval
                have hVlt : V < 2147483648 := by
                  have h1 : V < 2 ^ W := by rw [hval]; exact Nat.mod_lt _ (Nat.two_pow_pos _)
                  have h2 : 2 ^ W ≤ 2 ^ 31 := Nat.pow_le_pow_right (by omega) hW
                  omega
                have hVi : (Y : Int) / 2 ^ b1 = (V : Int) := by rw [hVd]; simp
                have hVw : IntKind.i32.wrap (V : Int) = (V : Int) := by simp only [IntKind.wrap, IntKind.bits, IntKind.signed]; simp; omega
                have hpp : 8 * bo' + b1 = p + W * ks := by rw [hks, Nat.mul_add]; have := Hpos.out.1; omega
                rw [hpp] at hval
                have hT : ∀ w, Calls Tryz.prog 150 #[.int .u64 (B : Int), .int .u64 (E : Int)] w fun e w' => e = .returned (.int .u64 (Y : Int)) ∧ w = w' := fun w => by
                  rw [hY]; exact trailingC B E w hE64 hB64
                obtain ⟨e0, e1, e2, e3, e4, ef⟩ := hB3.cells
                have hlt : ks < m := by omega
                obtain ⟨uc, hcu⟩ := hV3.layICell (i := vo + ks) (by rw [length_bitVals]; omega) (by omega)
                have hfv := hV3.unfrozen
                have H3 := Lib.hid (And.intro hB3 (And.intro hV3 (And.intro hval (And.intro hBd (And.intro hE (And.intro hb1 hks))))))
                clear hB3 hV3 hval hBd hE hb1 hwin hY hVd hpp hks
                go_wp2_with fail
                go_region_with (go_at_call 150; refine (hT _).mono ?_; rintro e w' ⟨rfl, rfl⟩)
                all_goals
                  go_wp2
                  go_roundw
                  case rel =>
                    obtain ⟨hB3, hV3, hval, hBd, hE, hb1, hks⟩ := H3.out
                    have hEs : E = bi' + W * (s + 1) := by rw [Nat.mul_succ]; omega
                    have hl : Blk (wr.setCell ⟨v, vo + ks, none⟩ (.int .i32 (V : Int))) v (splice vcs vo (rowV .i32 (bitVals D p W (ks + 1)))) := by
                      rw [bitVals_snoc, ← hval]
                      exact hV3.layI .i32 V (by rw [length_bitVals]; omega) (vo + ks) (by rw [length_bitVals])
                    have hk1 : Keep [v] wr (wr.setCell ⟨v, vo + ks, none⟩ (.int .i32 (V : Int))) := (Keep.refl [v] wr).set (by simp) _ _ _
                    have hB4 := (hB3.keep hk1 (by simp; exact Ne.symm vq) (by simp; exact Ne.symm vx) (by simp; exact Ne.symm vd) (by simp; exact Ne.symm ve)).setBi E
                    refine ⟨s + 1, ks + 1, hs2, by omega, by go_num, by go_num, (((kk3.set (by simp) _ _ _).set (by simp) _ _ _)).drew, ?_, (hl.set_other vq _ _ _).drew⟩
                    unfold BRF
                    rw [← hBd, ← hEs]
                    exact hB4.drew
                  case measure => simp [intOf]; omega
              · have hsC : c = s := by omega
                have HsC := Lib.hid (And.intro hsC (And.intro hb1 hks))
                have H3 := Lib.hid (And.intro hB3 hV3)
                by_cases hC0 : c = 0
                · have hC0i : ¬ (0 : Int) < (c : Int) := by omega
                  have hksk : k = ks := by omega
                  have hbb : bi' = b1 := by rw [hb1, ← hsC, hC0]; simp
                  clear hB3 hV3 hb1 hks hsC
                  subst hksk
                  subst hbb
                  go_wp2_with fail
                  all_goals
                    have HNB := H3.out.1
                    have HNV := H3.out.2
                    have HNK := kk3
                    obtain ⟨X, hX⟩ : ∃ X, X = leVal D / 2 ^ (p + W * k) % 2 ^ W := ⟨_, rfl⟩
                    have hN := fun wz (hz : BRF wz q x d o n cap ea D bo' bi') => nextC q x d o n cap ea D bo' bi' W wz hz hW0 (by omega) hbi' (by omega) hfk
                    rw [Hpos.out.1, ← hX] at hN
                    have hXlt : X < 2147483648 := by
                      have h1 : X < 2 ^ W := by rw [hX]; exact Nat.mod_lt _ (Nat.two_pow_pos _)
                      have h2 : 2 ^ W ≤ 2 ^ 31 := Nat.pow_le_pow_right (by omega) hW
                      omega
                    have hXw : IntKind.i32.wrap (X : Int) = (X : Int) := by simp only [IntKind.wrap, IntKind.bits, IntKind.signed]; simp; omega
                    have HX := Lib.hid hX
                    clear hX
                    refine (hN _ HNB).mono ?_
                    rintro e w4 ⟨rfl, k4, bo2, bi2, hp2, hb0, hb64, hB4⟩
                    have hV4 := HNV.keep k4 (by simp; exact vq)
                    obtain ⟨uc, hcu⟩ := hV4.layICell (i := vo + k) (by rw [length_bitVals]; omega) (by omega)
                    have hfv := hV4.unfrozen
                    have H4 := Lib.hid (And.intro hV4 (And.intro hB4 hp2))
                    have K4 := HNK.trans k4 (by simp)
                    clear hV4 hB4 hp2 k4 hN
                    go_wp2
                    go_roundw
                    case rel =>
                      obtain ⟨hV4, hB4, hp2⟩ := H4.out
                      refine ⟨k + 1, bo2, bi2, by omega, by go_num, by rw [Nat.mul_succ]; omega, hb64, .inl hb0, fun _ => hb0, K4.set (by simp) _ _ _, ?_, ?_⟩
                      · exact BR.keep hB4 ((Keep.refl [v] w4).set (b := v) (by simp) _ _ _) (by simp; exact Ne.symm vq) (by simp; exact Ne.symm vx) (by simp; exact Ne.symm vd) (by simp; exact Ne.symm ve)
                      · rw [bitVals_snoc, ← HX.out]
                        exact hV4.layI .i32 X (by rw [length_bitVals]; omega) (vo + k) (by rw [length_bitVals])
                    case measure => simp [intOf]; omega
                · have hC0i : (0 : Int) < (c : Int) := by omega
                  have hkb : b1 ≤ 64 := by rw [hb1, ← hsC]; omega
                  have hb10 : 0 < b1 := by
                    have : 0 < W * s := Nat.mul_pos hW0 (by omega)
                    omega
                  clear hB3 hV3 hb1 hks hsC hC0
                  go_wp2
                  go_roundw
                  case rel =>
                    obtain ⟨hsC, hb1, hks⟩ := HsC.out
                    exact ⟨ks, bo', b1, by omega, rfl, by rw [hks, hb1, Nat.mul_add]; have := Hpos.out.1; omega, hkb, .inl hb10, fun _ => hb10, kk3, H3.out.1, H3.out.2⟩
                  case measure =>
                    obtain ⟨hsC, hb1, hks⟩ := HsC.out
                    simp [intOf]; omega
          · subst hcf
            have hcf1 : ¬ (c : Int) < (c : Int) := by omega
            have hcf : c ≤ c := Nat.le_refl _
            go_wp2_with fail
            go_region
            go_wp2_with fail
            go_region
            go_wp2_with fail
            go_loopw [78, 10] (fun jv iv wr2 => ∃ s ks : Nat, s ≤ c ∧ ks = k + s ∧ jv = .int .i64 (s : Int) ∧ iv = .int .i64 (ks : Int) ∧ Keep [q, v] w wr2 ∧ BRF wr2 q x d o n cap ea D bo' (bi' + W * s) ∧ Blk wr2 v (splice vcs vo (rowV .i32 (bitVals D p W ks)))) (fun jv _ _ => c - (intOf jv).toNat)
            case atStart => exact ⟨0, k, Nat.zero_le _, rfl, rfl, rfl, kk.drew.drew, by simpa [BRF] using BR.drew (BR.drew HB2.out.1), HB2.out.2.drew.drew⟩
            case round =>
              obtain ⟨s, ks, hs, hks, rfl, rfl, kk3, hB3, hV3⟩ := hrel
              obtain ⟨b1, hb1⟩ : ∃ b1, b1 = bi' + W * s := ⟨_, rfl⟩
              rw [← hb1] at hB3
              have hWs : W * s ≤ W * c := Nat.mul_le_mul_left _ hs
              have hks2 : ks ≤ m := by omega
              by_cases hs2 : s < c
              · have hWs1 : W * (s + 1) ≤ W * c := Nat.mul_le_mul_left _ hs2
                rw [Nat.mul_succ] at hWs1
                obtain ⟨E, hE⟩ : ∃ E, E = b1 + W := ⟨_, rfl⟩
                have hE64 : E ≤ 64 := by omega
                have hEi : (b1 : Int) + (W : Int) = (E : Int) := by omega
                have hEw : IntKind.u64.wrap ((b1 : Int) + (W : Int)) = (E : Int) := by rw [IntWalk.u64_in ((b1 : Int) + (W : Int)) (by omega), hEi]
                unfold BRF at hB3
                obtain ⟨B, hBd⟩ : ∃ B, B = leVal ((D.drop bo').take 8) := ⟨_, rfl⟩
                have hwin := window D bo' Hp.out.2
                have hB64 : B < 18446744073709551616 := by rw [hBd, hwin]; exact Nat.mod_lt _ (by omega)
                have hval := bits_in (leVal D) (8 * bo') b1 W (by omega)
                rw [← hwin, ← hBd, ← hE] at hval
                rw [← hBd] at hB3
                obtain ⟨Y, hY⟩ : ∃ Y, Y = B % 2 ^ E := ⟨_, rfl⟩
                obtain ⟨V, hVd⟩ : ∃ V, V = Y / 2 ^ b1 := ⟨_, rfl⟩
                rw [← hY, ← hVd] at hval
                have hVlt : V < 2147483648 := by
                  have h1 : V < 2 ^ W := by rw [hval]; exact Nat.mod_lt _ (Nat.two_pow_pos _)
                  have h2 : 2 ^ W ≤ 2 ^ 31 := Nat.pow_le_pow_right (by omega) hW
                  omega
                have hVi : (Y : Int) / 2 ^ b1 = (V : Int) := by rw [hVd]; simp
                have hVw : IntKind.i32.wrap (V : Int) = (V : Int) := by simp only [IntKind.wrap, IntKind.bits, IntKind.signed]; simp; omega
                have hpp : 8 * bo' + b1 = p + W * ks := by rw [hks, Nat.mul_add]; have := Hpos.out.1; omega
                rw [hpp] at hval
                have hT : ∀ w, Calls Tryz.prog 150 #[.int .u64 (B : Int), .int .u64 (E : Int)] w fun e w' => e = .returned (.int .u64 (Y : Int)) ∧ w = w' := fun w => by
                  rw [hY]; exact trailingC B E w hE64 hB64
                obtain ⟨e0, e1, e2, e3, e4, ef⟩ := hB3.cells
                have hlt : ks < m := by omega
                obtain ⟨uc, hcu⟩ := hV3.layICell (i := vo + ks) (by rw [length_bitVals]; omega) (by omega)
                have hfv := hV3.unfrozen
                have H3 := Lib.hid (And.intro hB3 (And.intro hV3 (And.intro hval (And.intro hBd (And.intro hE (And.intro hb1 hks))))))
                clear hB3 hV3 hval hBd hE hb1 hwin hY hVd hpp hks
                go_wp2_with fail
                go_region_with (go_at_call 150; refine (hT _).mono ?_; rintro e w' ⟨rfl, rfl⟩)
                all_goals
                  go_wp2
                  go_roundw
                  case rel =>
                    obtain ⟨hB3, hV3, hval, hBd, hE, hb1, hks⟩ := H3.out
                    have hEs : E = bi' + W * (s + 1) := by rw [Nat.mul_succ]; omega
                    have hl : Blk (wr.setCell ⟨v, vo + ks, none⟩ (.int .i32 (V : Int))) v (splice vcs vo (rowV .i32 (bitVals D p W (ks + 1)))) := by
                      rw [bitVals_snoc, ← hval]
                      exact hV3.layI .i32 V (by rw [length_bitVals]; omega) (vo + ks) (by rw [length_bitVals])
                    have hk1 : Keep [v] wr (wr.setCell ⟨v, vo + ks, none⟩ (.int .i32 (V : Int))) := (Keep.refl [v] wr).set (by simp) _ _ _
                    have hB4 := (hB3.keep hk1 (by simp; exact Ne.symm vq) (by simp; exact Ne.symm vx) (by simp; exact Ne.symm vd) (by simp; exact Ne.symm ve)).setBi E
                    refine ⟨s + 1, ks + 1, hs2, by omega, by go_num, by go_num, (((kk3.set (by simp) _ _ _).set (by simp) _ _ _)).drew, ?_, (hl.set_other vq _ _ _).drew⟩
                    unfold BRF
                    rw [← hBd, ← hEs]
                    exact hB4.drew
                  case measure => simp [intOf]; omega
              · have hsC : c = s := by omega
                have HsC := Lib.hid (And.intro hsC (And.intro hb1 hks))
                have H3 := Lib.hid (And.intro hB3 hV3)
                by_cases hC0 : c = 0
                · have hC0i : ¬ (0 : Int) < (c : Int) := by omega
                  have hksk : k = ks := by omega
                  have hbb : bi' = b1 := by rw [hb1, ← hsC, hC0]; simp
                  clear hB3 hV3 hb1 hks hsC
                  subst hksk
                  subst hbb
                  go_wp2_with fail
                  all_goals
                    have HNB := H3.out.1
                    have HNV := H3.out.2
                    have HNK := kk3
                    obtain ⟨X, hX⟩ : ∃ X, X = leVal D / 2 ^ (p + W * k) % 2 ^ W := ⟨_, rfl⟩
                    have hN := fun wz (hz : BRF wz q x d o n cap ea D bo' bi') => nextC q x d o n cap ea D bo' bi' W wz hz hW0 (by omega) hbi' (by omega) hfk
                    rw [Hpos.out.1, ← hX] at hN
                    have hXlt : X < 2147483648 := by
                      have h1 : X < 2 ^ W := by rw [hX]; exact Nat.mod_lt _ (Nat.two_pow_pos _)
                      have h2 : 2 ^ W ≤ 2 ^ 31 := Nat.pow_le_pow_right (by omega) hW
                      omega
                    have hXw : IntKind.i32.wrap (X : Int) = (X : Int) := by simp only [IntKind.wrap, IntKind.bits, IntKind.signed]; simp; omega
                    have HX := Lib.hid hX
                    clear hX
                    refine (hN _ HNB).mono ?_
                    rintro e w4 ⟨rfl, k4, bo2, bi2, hp2, hb0, hb64, hB4⟩
                    have hV4 := HNV.keep k4 (by simp; exact vq)
                    obtain ⟨uc, hcu⟩ := hV4.layICell (i := vo + k) (by rw [length_bitVals]; omega) (by omega)
                    have hfv := hV4.unfrozen
                    have H4 := Lib.hid (And.intro hV4 (And.intro hB4 hp2))
                    have K4 := HNK.trans k4 (by simp)
                    clear hV4 hB4 hp2 k4 hN
                    go_wp2
                    go_roundw
                    case rel =>
                      obtain ⟨hV4, hB4, hp2⟩ := H4.out
                      refine ⟨k + 1, bo2, bi2, by omega, by go_num, by rw [Nat.mul_succ]; omega, hb64, .inl hb0, fun _ => hb0, K4.set (by simp) _ _ _, ?_, ?_⟩
                      · exact BR.keep hB4 ((Keep.refl [v] w4).set (b := v) (by simp) _ _ _) (by simp; exact Ne.symm vq) (by simp; exact Ne.symm vx) (by simp; exact Ne.symm vd) (by simp; exact Ne.symm ve)
                      · rw [bitVals_snoc, ← HX.out]
                        exact hV4.layI .i32 X (by rw [length_bitVals]; omega) (vo + k) (by rw [length_bitVals])
                    case measure => simp [intOf]; omega
                · have hC0i : (0 : Int) < (c : Int) := by omega
                  have hkb : b1 ≤ 64 := by rw [hb1, ← hsC]; omega
                  have hb10 : 0 < b1 := by
                    have : 0 < W * s := Nat.mul_pos hW0 (by omega)
                    omega
                  clear hB3 hV3 hb1 hks hsC hC0
                  go_wp2
                  go_roundw
                  case rel =>
                    obtain ⟨hsC, hb1, hks⟩ := HsC.out
                    exact ⟨ks, bo', b1, by omega, rfl, by rw [hks, hb1, Nat.mul_add]; have := Hpos.out.1; omega, hkb, .inl hb10, fun _ => hb10, kk3, H3.out.1, H3.out.2⟩
                  case measure =>
                    obtain ⟨hsC, hb1, hks⟩ := HsC.out
                    simp [intOf]; omega
          · have hcf1 : ¬ (c : Int) < (f : Int) := by omega
            have hcf2 : (f : Int) < (c : Int) := by omega
            have hcf3 : (f : Int) ≤ (c : Int) := by omega
            have hcW : W * f ≤ r := Nat.le_trans (Nat.mul_le_mul_left _ (by omega)) hcW
            go_wp2_with fail
            go_region
            go_wp2_with fail
            go_region
            go_wp2_with fail
            go_loopw [78, 10] (fun jv iv wr2 => ∃ s ks : Nat, s ≤ f ∧ ks = k + s ∧ jv = .int .i64 (s : Int) ∧ iv = .int .i64 (ks : Int) ∧ Keep [q, v] w wr2 ∧ BRF wr2 q x d o n cap ea D bo' (bi' + W * s) ∧ Blk wr2 v (splice vcs vo (rowV .i32 (bitVals D p W ks)))) (fun jv _ _ => f - (intOf jv).toNat)
            case atStart => exact ⟨0, k, Nat.zero_le _, rfl, rfl, rfl, kk.drew.drew, by simpa [BRF] using BR.drew (BR.drew HB2.out.1), HB2.out.2.drew.drew⟩
            case round =>
              obtain ⟨s, ks, hs, hks, rfl, rfl, kk3, hB3, hV3⟩ := hrel
              obtain ⟨b1, hb1⟩ : ∃ b1, b1 = bi' + W * s := ⟨_, rfl⟩
              rw [← hb1] at hB3
              have hWs : W * s ≤ W * f := Nat.mul_le_mul_left _ hs
              have hks2 : ks ≤ m := by omega
              by_cases hs2 : s < f
              · have hWs1 : W * (s + 1) ≤ W * f := Nat.mul_le_mul_left _ hs2
                rw [Nat.mul_succ] at hWs1
                obtain ⟨E, hE⟩ : ∃ E, E = b1 + W := ⟨_, rfl⟩
                have hE64 : E ≤ 64 := by omega
                have hEi : (b1 : Int) + (W : Int) = (E : Int) := by omega
                have hEw : IntKind.u64.wrap ((b1 : Int) + (W : Int)) = (E : Int) := by rw [IntWalk.u64_in ((b1 : Int) + (W : Int)) (by omega), hEi]
                unfold BRF at hB3
                obtain ⟨B, hBd⟩ : ∃ B, B = leVal ((D.drop bo').take 8) := ⟨_, rfl⟩
                have hwin := window D bo' Hp.out.2
                have hB64 : B < 18446744073709551616 := by rw [hBd, hwin]; exact Nat.mod_lt _ (by omega)
                have hval := bits_in (leVal D) (8 * bo') b1 W (by omega)
                rw [← hwin, ← hBd, ← hE] at hval
                rw [← hBd] at hB3
                obtain ⟨Y, hY⟩ : ∃ Y, Y = B % 2 ^ E := ⟨_, rfl⟩
                obtain ⟨V, hVd⟩ : ∃ V, V = Y / 2 ^ b1 := ⟨_, rfl⟩
                rw [← hY, ← hVd] at hval
                have hVlt : V < 2147483648 := by
                  have h1 : V < 2 ^ W := by rw [hval]; exact Nat.mod_lt _ (Nat.two_pow_pos _)
                  have h2 : 2 ^ W ≤ 2 ^ 31 := Nat.pow_le_pow_right (by omega) hW
                  omega
                have hVi : (Y : Int) / 2 ^ b1 = (V : Int) := by rw [hVd]; simp
                have hVw : IntKind.i32.wrap (V : Int) = (V : Int) := by simp only [IntKind.wrap, IntKind.bits, IntKind.signed]; simp; omega
                have hpp : 8 * bo' + b1 = p + W * ks := by rw [hks, Nat.mul_add]; have := Hpos.out.1; omega
                rw [hpp] at hval
                have hT : ∀ w, Calls Tryz.prog 150 #[.int .u64 (B : Int), .int .u64 (E : Int)] w fun e w' => e = .returned (.int .u64 (Y : Int)) ∧ w = w' := fun w => by
                  rw [hY]; exact trailingC B E w hE64 hB64
                obtain ⟨e0, e1, e2, e3, e4, ef⟩ := hB3.cells
                have hlt : ks < m := by omega
                obtain ⟨uc, hcu⟩ := hV3.layICell (i := vo + ks) (by rw [length_bitVals]; omega) (by omega)
                have hfv := hV3.unfrozen
                have H3 := Lib.hid (And.intro hB3 (And.intro hV3 (And.intro hval (And.intro hBd (And.intro hE (And.intro hb1 hks))))))
                clear hB3 hV3 hval hBd hE hb1 hwin hY hVd hpp hks
                go_wp2_with fail
                go_region_with (go_at_call 150; refine (hT _).mono ?_; rintro e w' ⟨rfl, rfl⟩)
                all_goals
                  go_wp2
                  go_roundw
                  case rel =>
                    obtain ⟨hB3, hV3, hval, hBd, hE, hb1, hks⟩ := H3.out
                    have hEs : E = bi' + W * (s + 1) := by rw [Nat.mul_succ]; omega
                    have hl : Blk (wr.setCell ⟨v, vo + ks, none⟩ (.int .i32 (V : Int))) v (splice vcs vo (rowV .i32 (bitVals D p W (ks + 1)))) := by
                      rw [bitVals_snoc, ← hval]
                      exact hV3.layI .i32 V (by rw [length_bitVals]; omega) (vo + ks) (by rw [length_bitVals])
                    have hk1 : Keep [v] wr (wr.setCell ⟨v, vo + ks, none⟩ (.int .i32 (V : Int))) := (Keep.refl [v] wr).set (by simp) _ _ _
                    have hB4 := (hB3.keep hk1 (by simp; exact Ne.symm vq) (by simp; exact Ne.symm vx) (by simp; exact Ne.symm vd) (by simp; exact Ne.symm ve)).setBi E
                    refine ⟨s + 1, ks + 1, hs2, by omega, by go_num, by go_num, (((kk3.set (by simp) _ _ _).set (by simp) _ _ _)).drew, ?_, (hl.set_other vq _ _ _).drew⟩
                    unfold BRF
                    rw [← hBd, ← hEs]
                    exact hB4.drew
                  case measure => simp [intOf]; omega
              · have hsC : f = s := by omega
                have HsC := Lib.hid (And.intro hsC (And.intro hb1 hks))
                have H3 := Lib.hid (And.intro hB3 hV3)
                by_cases hC0 : f = 0
                · have hC0i : ¬ (0 : Int) < (f : Int) := by omega
                  have hksk : k = ks := by omega
                  have hbb : bi' = b1 := by rw [hb1, ← hsC, hC0]; simp
                  clear hB3 hV3 hb1 hks hsC
                  subst hksk
                  subst hbb
                  go_wp2_with fail
                  all_goals
                    have HNB := H3.out.1
                    have HNV := H3.out.2
                    have HNK := kk3
                    obtain ⟨X, hX⟩ : ∃ X, X = leVal D / 2 ^ (p + W * k) % 2 ^ W := ⟨_, rfl⟩
                    have hN := fun wz (hz : BRF wz q x d o n cap ea D bo' bi') => nextC q x d o n cap ea D bo' bi' W wz hz hW0 (by omega) hbi' (by omega) hfk
                    rw [Hpos.out.1, ← hX] at hN
                    have hXlt : X < 2147483648 := by
                      have h1 : X < 2 ^ W := by rw [hX]; exact Nat.mod_lt _ (Nat.two_pow_pos _)
                      have h2 : 2 ^ W ≤ 2 ^ 31 := Nat.pow_le_pow_right (by omega) hW
                      omega
                    have hXw : IntKind.i32.wrap (X : Int) = (X : Int) := by simp only [IntKind.wrap, IntKind.bits, IntKind.signed]; simp; omega
                    have HX := Lib.hid hX
                    clear hX
                    refine (hN _ HNB).mono ?_
                    rintro e w4 ⟨rfl, k4, bo2, bi2, hp2, hb0, hb64, hB4⟩
                    have hV4 := HNV.keep k4 (by simp; exact vq)
                    obtain ⟨uc, hcu⟩ := hV4.layICell (i := vo + k) (by rw [length_bitVals]; omega) (by omega)
                    have hfv := hV4.unfrozen
                    have H4 := Lib.hid (And.intro hV4 (And.intro hB4 hp2))
                    have K4 := HNK.trans k4 (by simp)
                    clear hV4 hB4 hp2 k4 hN
                    go_wp2
                    go_roundw
                    case rel =>
                      obtain ⟨hV4, hB4, hp2⟩ := H4.out
                      refine ⟨k + 1, bo2, bi2, by omega, by go_num, by rw [Nat.mul_succ]; omega, hb64, .inl hb0, fun _ => hb0, K4.set (by simp) _ _ _, ?_, ?_⟩
                      · exact BR.keep hB4 ((Keep.refl [v] w4).set (b := v) (by simp) _ _ _) (by simp; exact Ne.symm vq) (by simp; exact Ne.symm vx) (by simp; exact Ne.symm vd) (by simp; exact Ne.symm ve)
                      · rw [bitVals_snoc, ← HX.out]
                        exact hV4.layI .i32 X (by rw [length_bitVals]; omega) (vo + k) (by rw [length_bitVals])
                    case measure => simp [intOf]; omega
                · have hC0i : (0 : Int) < (f : Int) := by omega
                  have hkb : b1 ≤ 64 := by rw [hb1, ← hsC]; omega
                  have hb10 : 0 < b1 := by
                    have : 0 < W * s := Nat.mul_pos hW0 (by omega)
                    omega
                  clear hB3 hV3 hb1 hks hsC hC0
                  go_wp2
                  go_roundw
                  case rel =>
                    obtain ⟨hsC, hb1, hks⟩ := HsC.out
                    exact ⟨ks, bo', b1, by omega, rfl, by rw [hks, hb1, Nat.mul_add]; have := Hpos.out.1; omega, hkb, .inl hb10, fun _ => hb10, kk3, H3.out.1, H3.out.2⟩
                  case measure =>
                    obtain ⟨hsC, hb1, hks⟩ := HsC.out
                    simp [intOf]; omega
        · go_wp2_with fail
          go_region
          go_wp2_with fail
          have HNB : BRF wr.drew q x d o n cap ea D bo' bi' := by simpa [BRF] using BR.drew HB2.out.1
          have HNV := HB2.out.2.drew
          have HNK := kk.drew
          obtain ⟨X, hX⟩ : ∃ X, X = leVal D / 2 ^ (p + W * k) % 2 ^ W := ⟨_, rfl⟩
          have hN := fun wz (hz : BRF wz q x d o n cap ea D bo' bi') => nextC q x d o n cap ea D bo' bi' W wz hz hW0 (by omega) hbi' (by omega) hfk
          rw [Hpos.out.1, ← hX] at hN
          have hXlt : X < 2147483648 := by
            have h1 : X < 2 ^ W := by rw [hX]; exact Nat.mod_lt _ (Nat.two_pow_pos _)
            have h2 : 2 ^ W ≤ 2 ^ 31 := Nat.pow_le_pow_right (by omega) hW
            omega
          have hXw : IntKind.i32.wrap (X : Int) = (X : Int) := by simp only [IntKind.wrap, IntKind.bits, IntKind.signed]; simp; omega
          have HX := Lib.hid hX
          clear hX
          refine (hN _ HNB).mono ?_
          rintro e w4 ⟨rfl, k4, bo2, bi2, hp2, hb0, hb64, hB4⟩
          have hV4 := HNV.keep k4 (by simp; exact vq)
          obtain ⟨uc, hcu⟩ := hV4.layICell (i := vo + k) (by rw [length_bitVals]; omega) (by omega)
          have hfv := hV4.unfrozen
          have H4 := Lib.hid (And.intro hV4 (And.intro hB4 hp2))
          have K4 := HNK.trans k4 (by simp)
          clear hV4 hB4 hp2 k4 hN
          go_wp2
          go_roundw
          case rel =>
            obtain ⟨hV4, hB4, hp2⟩ := H4.out
            refine ⟨k + 1, bo2, bi2, by omega, by go_num, by rw [Nat.mul_succ]; omega, hb64, .inl hb0, fun _ => hb0, K4.set (by simp) _ _ _, ?_, ?_⟩
            · exact BR.keep hB4 ((Keep.refl [v] w4).set (b := v) (by simp) _ _ _) (by simp; exact Ne.symm vq) (by simp; exact Ne.symm vx) (by simp; exact Ne.symm vd) (by simp; exact Ne.symm ve)
            · rw [bitVals_snoc, ← HX.out]
              exact hV4.layI .i32 X (by rw [length_bitVals]; omega) (vo + k) (by rw [length_bitVals])
          case measure => simp [intOf]; omega
      | true =>
        have hb0 : ¬ (bi' : Int) = 0 := by have := hst rfl; omega
        by_cases h64 : bi' = 64
        · subst h64
          have HB2 := Lib.hid (And.intro hB hV)
          have Hpos := Lib.hid (And.intro hpos (And.intro h0 hVB))
          have hbo : bo' ≤ n := by omega
          clear hB hV hpos h0 hVB hfk
          go_wp2
          go_ret2
          unfold ScalarPost
          have hB3 := HB2.out.1
          unfold BRF at hB3
          refine ⟨k, hk, rfl, (kk.set (by simp) _ _ _).set (by simp) _ _ _, ?_, .inr ⟨rfl, hk2, bo' + 8, leVal ((D.drop bo').take 8), 8 * min 8 (n - bo'), by have := Hpos.out.1; omega, ?_⟩⟩
          · exact (HB2.out.2.set_other vq _ _ _).set_other vq _ _ _
          · have hB4 := (hB3.setBo (bo' + 8)).setBi 0
            first | exact hB4 | simpa using hB4
        · have h64i : ((bi' : Int) == 64) = false := by rw [beq_eq_false_iff_ne]; omega
          have h0i : ((bi' : Int) == 0) = false := by rw [beq_eq_false_iff_ne]; omega
          clear hb0
          have hVBc : wr.cell? ⟨q, 4, none⟩ = some (.int .u64 (VB : Int)) := by rw [hVB]; exact c4
          have HB2 := Lib.hid (And.intro hB hV)
          have Hpos := Lib.hid (And.intro hpos (And.intro h0 hVB))
          clear hB hV hpos h0 c4 hVB
          by_cases hlt : bi' < VB
          · obtain ⟨r, hr⟩ : ∃ r, r = VB - bi' := ⟨_, rfl⟩
            obtain ⟨c, hcd⟩ : ∃ c, c = r / W := ⟨_, rfl⟩
            obtain ⟨f, hfd⟩ : ∃ f, f = m - k := ⟨_, rfl⟩
            have hri : (VB : Int) - (bi' : Int) = (r : Int) := by omega
            have hci1 : Int.tdiv (r : Int) (W : Int) = (c : Int) := by rw [hcd]; simp [Int.tdiv_eq_ediv_of_nonneg]
            have hci2 : (r : Int) / (W : Int) = (c : Int) := by rw [hcd]; simp
            have hfi : (m : Int) - (k : Int) = (f : Int) := by omega
            have hcW : W * c ≤ r := by rw [hcd]; exact Nat.mul_div_le r W
            have hrb : r ≤ 64 := by omega
            have hcb : c ≤ 64 := by have : c ≤ W * c := Nat.le_mul_of_pos_left c hW0; omega
            have Hd := Lib.hid (And.intro hr (And.intro hcd hfd))
            have hrV : r + bi' ≤ 64 := by omega
            have hfk2 : k + f = m := by omega
            clear hr hcd hfd
            rcases Nat.lt_trichotomy c f with hcf | hcf | hcf
            · have hcf1 : (c : Int) < (f : Int) := by omega
              have hcf2 : ¬ (f : Int) ≤ (c : Int) := by omega
              go_wp2_with fail
              go_region
              go_wp2_with fail
              go_region
              go_wp2_with fail
              go_loopw [78, 10] (fun jv iv wr2 => ∃ s ks : Nat, s ≤ c ∧ ks = k + s ∧ jv = .int .i64 (s : Int) ∧ iv = .int .i64 (ks : Int) ∧ Keep [q, v] w wr2 ∧ BRF wr2 q x d o n cap ea D bo' (bi' + W * s) ∧ Blk wr2 v (splice vcs vo (rowV .i32 (bitVals D p W ks)))) (fun jv _ _ => c - (intOf jv).toNat)
              case atStart => exact ⟨0, k, Nat.zero_le _, rfl, rfl, rfl, kk.drew.drew, by simpa [BRF] using BR.drew (BR.drew HB2.out.1), HB2.out.2.drew.drew⟩
              case round =>
                obtain ⟨s, ks, hs, hks, rfl, rfl, kk3, hB3, hV3⟩ := hrel
                obtain ⟨b1, hb1⟩ : ∃ b1, b1 = bi' + W * s := ⟨_, rfl⟩
                rw [← hb1] at hB3
                have hWs : W * s ≤ W * c := Nat.mul_le_mul_left _ hs
                have hks2 : ks ≤ m := by omega
                by_cases hs2 : s < c
                · have hWs1 : W * (s + 1) ≤ W * c := Nat.mul_le_mul_left _ hs2
                  rw [Nat.mul_succ] at hWs1
                  obtain ⟨E, hE⟩ : ∃ E, E = b1 + W := ⟨_, rfl⟩
                  have hE64 : E ≤ 64 := by omega
                  have hEi : (b1 : Int) + (W : Int) = (E : Int) := by omega
                  have hEw : IntKind.u64.wrap ((b1 : Int) + (W : Int)) = (E : Int) := by rw [IntWalk.u64_in ((b1 : Int) + (W : Int)) (by omega), hEi]
                  unfold BRF at hB3
                  obtain ⟨B, hBd⟩ : ∃ B, B = leVal ((D.drop bo').take 8) := ⟨_, rfl⟩
                  have hwin := window D bo' Hp.out.2
                  have hB64 : B < 18446744073709551616 := by rw [hBd, hwin]; exact Nat.mod_lt _ (by omega)
                  have hval := bits_in (leVal D) (8 * bo') b1 W (by omega)
                  rw [← hwin, ← hBd, ← hE] at hval
                  rw [← hBd] at hB3
                  obtain ⟨Y, hY⟩ : ∃ Y, Y = B % 2 ^ E := ⟨_, rfl⟩
                  obtain ⟨V, hVd⟩ : ∃ V, V = Y / 2 ^ b1 := ⟨_, rfl⟩
                  rw [← hY, ← hVd] at hval
                  have hVlt : V < 2147483648 := by
                    have h1 : V < 2 ^ W := by rw [hval]; exact Nat.mod_lt _ (Nat.two_pow_pos _)
                    have h2 : 2 ^ W ≤ 2 ^ 31 := Nat.pow_le_pow_right (by omega) hW
                    omega
                  have hVi : (Y : Int) / 2 ^ b1 = (V : Int) := by rw [hVd]; simp
                  have hVw : IntKind.i32.wrap (V : Int) = (V : Int) := by simp only [IntKind.wrap, IntKind.bits, IntKind.signed]; simp; omega
                  have hpp : 8 * bo' + b1 = p + W * ks := by rw [hks, Nat.mul_add]; have := Hpos.out.1; omega
                  rw [hpp] at hval
                  have hT : ∀ w, Calls Tryz.prog 150 #[.int .u64 (B : Int), .int .u64 (E : Int)] w fun e w' => e = .returned (.int .u64 (Y : Int)) ∧ w = w' := fun w => by
                    rw [hY]; exact trailingC B E w hE64 hB64
                  obtain ⟨e0, e1, e2, e3, e4, ef⟩ := hB3.cells
                  have hlt : ks < m := by omega
                  obtain ⟨uc, hcu⟩ := hV3.layICell (i := vo + ks) (by rw [length_bitVals]; omega) (by omega)
                  have hfv := hV3.unfrozen
                  have H3 := Lib.hid (And.intro hB3 (And.intro hV3 (And.intro hval (And.intro hBd (And.intro hE (And.intro hb1 hks))))))
                  clear hB3 hV3 hval hBd hE hb1 hwin hY hVd hpp hks
                  go_wp2_with fail
                  go_region_with (go_at_call 150; refine (hT _).mono ?_; rintro e w' ⟨rfl, rfl⟩)
                  all_goals
                    go_wp2
                    go_roundw
                    case rel =>
                      obtain ⟨hB3, hV3, hval, hBd, hE, hb1, hks⟩ := H3.out
                      have hEs : E = bi' + W * (s + 1) := by rw [Nat.mul_succ]; omega
                      have hl : Blk (wr.setCell ⟨v, vo + ks, none⟩ (.int .i32 (V : Int))) v (splice vcs vo (rowV .i32 (bitVals D p W (ks + 1)))) := by
                        rw [bitVals_snoc, ← hval]
                        exact hV3.layI .i32 V (by rw [length_bitVals]; omega) (vo + ks) (by rw [length_bitVals])
                      have hk1 : Keep [v] wr (wr.setCell ⟨v, vo + ks, none⟩ (.int .i32 (V : Int))) := (Keep.refl [v] wr).set (by simp) _ _ _
                      have hB4 := (hB3.keep hk1 (by simp; exact Ne.symm vq) (by simp; exact Ne.symm vx) (by simp; exact Ne.symm vd) (by simp; exact Ne.symm ve)).setBi E
                      refine ⟨s + 1, ks + 1, hs2, by omega, by go_num, by go_num, (((kk3.set (by simp) _ _ _).set (by simp) _ _ _)).drew, ?_, (hl.set_other vq _ _ _).drew⟩
                      unfold BRF
                      rw [← hBd, ← hEs]
                      exact hB4.drew
                    case measure => simp [intOf]; omega
                · have hsC : c = s := by omega
                  have HsC := Lib.hid (And.intro hsC (And.intro hb1 hks))
                  have H3 := Lib.hid (And.intro hB3 hV3)
                  by_cases hC0 : c = 0
                  · have hC0i : ¬ (0 : Int) < (c : Int) := by omega
                    have hksk : k = ks := by omega
                    have hbb : bi' = b1 := by rw [hb1, ← hsC, hC0]; simp
                    clear hB3 hV3 hb1 hks hsC
                    subst hksk
                    subst hbb
                    go_wp2_with fail
                    all_goals
                      have HNB := H3.out.1
                      have HNV := H3.out.2
                      have HNK := kk3
                      obtain ⟨X, hX⟩ : ∃ X, X = leVal D / 2 ^ (p + W * k) % 2 ^ W := ⟨_, rfl⟩
                      have hN := fun wz (hz : BRF wz q x d o n cap ea D bo' bi') => nextC q x d o n cap ea D bo' bi' W wz hz hW0 (by omega) hbi' (by omega) hfk
                      rw [Hpos.out.1, ← hX] at hN
                      have hXlt : X < 2147483648 := by
                        have h1 : X < 2 ^ W := by rw [hX]; exact Nat.mod_lt _ (Nat.two_pow_pos _)
                        have h2 : 2 ^ W ≤ 2 ^ 31 := Nat.pow_le_pow_right (by omega) hW
                        omega
                      have hXw : IntKind.i32.wrap (X : Int) = (X : Int) := by simp only [IntKind.wrap, IntKind.bits, IntKind.signed]; simp; omega
                      have HX := Lib.hid hX
                      clear hX
                      refine (hN _ HNB).mono ?_
                      rintro e w4 ⟨rfl, k4, bo2, bi2, hp2, hb0, hb64, hB4⟩
                      have hV4 := HNV.keep k4 (by simp; exact vq)
                      obtain ⟨uc, hcu⟩ := hV4.layICell (i := vo + k) (by rw [length_bitVals]; omega) (by omega)
                      have hfv := hV4.unfrozen
                      have H4 := Lib.hid (And.intro hV4 (And.intro hB4 hp2))
                      have K4 := HNK.trans k4 (by simp)
                      clear hV4 hB4 hp2 k4 hN
                      go_wp2
                      go_roundw
                      case rel =>
                        obtain ⟨hV4, hB4, hp2⟩ := H4.out
                        refine ⟨k + 1, bo2, bi2, by omega, by go_num, by rw [Nat.mul_succ]; omega, hb64, .inl hb0, fun _ => hb0, K4.set (by simp) _ _ _, ?_, ?_⟩
                        · exact BR.keep hB4 ((Keep.refl [v] w4).set (b := v) (by simp) _ _ _) (by simp; exact Ne.symm vq) (by simp; exact Ne.symm vx) (by simp; exact Ne.symm vd) (by simp; exact Ne.symm ve)
                        · rw [bitVals_snoc, ← HX.out]
                          exact hV4.layI .i32 X (by rw [length_bitVals]; omega) (vo + k) (by rw [length_bitVals])
                      case measure => simp [intOf]; omega
                  · have hC0i : (0 : Int) < (c : Int) := by omega
                    have hkb : b1 ≤ 64 := by rw [hb1, ← hsC]; omega
                    have hb10 : 0 < b1 := by
                      have : 0 < W * s := Nat.mul_pos hW0 (by omega)
                      omega
                    clear hB3 hV3 hb1 hks hsC hC0
                    go_wp2
                    go_roundw
                    case rel =>
                      obtain ⟨hsC, hb1, hks⟩ := HsC.out
                      exact ⟨ks, bo', b1, by omega, rfl, by rw [hks, hb1, Nat.mul_add]; have := Hpos.out.1; omega, hkb, .inl hb10, fun _ => hb10, kk3, H3.out.1, H3.out.2⟩
                    case measure =>
                      obtain ⟨hsC, hb1, hks⟩ := HsC.out
                      simp [intOf]; omega
            · subst hcf
              have hcf1 : ¬ (c : Int) < (c : Int) := by omega
              have hcf : c ≤ c := Nat.le_refl _
              go_wp2_with fail
              go_region
              go_wp2_with fail
              go_region
              go_wp2_with fail
              go_loopw [78, 10] (fun jv iv wr2 => ∃ s ks : Nat, s ≤ c ∧ ks = k + s ∧ jv = .int .i64 (s : Int) ∧ iv = .int .i64 (ks : Int) ∧ Keep [q, v] w wr2 ∧ BRF wr2 q x d o n cap ea D bo' (bi' + W * s) ∧ Blk wr2 v (splice vcs vo (rowV .i32 (bitVals D p W ks)))) (fun jv _ _ => c - (intOf jv).toNat)
              case atStart => exact ⟨0, k, Nat.zero_le _, rfl, rfl, rfl, kk.drew.drew, by simpa [BRF] using BR.drew (BR.drew HB2.out.1), HB2.out.2.drew.drew⟩
              case round =>
                obtain ⟨s, ks, hs, hks, rfl, rfl, kk3, hB3, hV3⟩ := hrel
                obtain ⟨b1, hb1⟩ : ∃ b1, b1 = bi' + W * s := ⟨_, rfl⟩
                rw [← hb1] at hB3
                have hWs : W * s ≤ W * c := Nat.mul_le_mul_left _ hs
                have hks2 : ks ≤ m := by omega
                by_cases hs2 : s < c
                · have hWs1 : W * (s + 1) ≤ W * c := Nat.mul_le_mul_left _ hs2
                  rw [Nat.mul_succ] at hWs1
                  obtain ⟨E, hE⟩ : ∃ E, E = b1 + W := ⟨_, rfl⟩
                  have hE64 : E ≤ 64 := by omega
                  have hEi : (b1 : Int) + (W : Int) = (E : Int) := by omega
                  have hEw : IntKind.u64.wrap ((b1 : Int) + (W : Int)) = (E : Int) := by rw [IntWalk.u64_in ((b1 : Int) + (W : Int)) (by omega), hEi]
                  unfold BRF at hB3
                  obtain ⟨B, hBd⟩ : ∃ B, B = leVal ((D.drop bo').take 8) := ⟨_, rfl⟩
                  have hwin := window D bo' Hp.out.2
                  have hB64 : B < 18446744073709551616 := by rw [hBd, hwin]; exact Nat.mod_lt _ (by omega)
                  have hval := bits_in (leVal D) (8 * bo') b1 W (by omega)
                  rw [← hwin, ← hBd, ← hE] at hval
                  rw [← hBd] at hB3
                  obtain ⟨Y, hY⟩ : ∃ Y, Y = B % 2 ^ E := ⟨_, rfl⟩
                  obtain ⟨V, hVd⟩ : ∃ V, V = Y / 2 ^ b1 := ⟨_, rfl⟩
                  rw [← hY, ← hVd] at hval
                  have hVlt : V < 2147483648 := by
                    have h1 : V < 2 ^ W := by rw [hval]; exact Nat.mod_lt _ (Nat.two_pow_pos _)
                    have h2 : 2 ^ W ≤ 2 ^ 31 := Nat.pow_le_pow_right (by omega) hW
                    omega
                  have hVi : (Y : Int) / 2 ^ b1 = (V : Int) := by rw [hVd]; simp
                  have hVw : IntKind.i32.wrap (V : Int) = (V : Int) := by simp only [IntKind.wrap, IntKind.bits, IntKind.signed]; simp; omega
                  have hpp : 8 * bo' + b1 = p + W * ks := by rw [hks, Nat.mul_add]; have := Hpos.out.1; omega
                  rw [hpp] at hval
                  have hT : ∀ w, Calls Tryz.prog 150 #[.int .u64 (B : Int), .int .u64 (E : Int)] w fun e w' => e = .returned (.int .u64 (Y : Int)) ∧ w = w' := fun w => by
                    rw [hY]; exact trailingC B E w hE64 hB64
                  obtain ⟨e0, e1, e2, e3, e4, ef⟩ := hB3.cells
                  have hlt : ks < m := by omega
                  obtain ⟨uc, hcu⟩ := hV3.layICell (i := vo + ks) (by rw [length_bitVals]; omega) (by omega)
                  have hfv := hV3.unfrozen
                  have H3 := Lib.hid (And.intro hB3 (And.intro hV3 (And.intro hval (And.intro hBd (And.intro hE (And.intro hb1 hks))))))
                  clear hB3 hV3 hval hBd hE hb1 hwin hY hVd hpp hks
                  go_wp2_with fail
                  go_region_with (go_at_call 150; refine (hT _).mono ?_; rintro e w' ⟨rfl, rfl⟩)
                  all_goals
                    go_wp2
                    go_roundw
                    case rel =>
                      obtain ⟨hB3, hV3, hval, hBd, hE, hb1, hks⟩ := H3.out
                      have hEs : E = bi' + W * (s + 1) := by rw [Nat.mul_succ]; omega
                      have hl : Blk (wr.setCell ⟨v, vo + ks, none⟩ (.int .i32 (V : Int))) v (splice vcs vo (rowV .i32 (bitVals D p W (ks + 1)))) := by
                        rw [bitVals_snoc, ← hval]
                        exact hV3.layI .i32 V (by rw [length_bitVals]; omega) (vo + ks) (by rw [length_bitVals])
                      have hk1 : Keep [v] wr (wr.setCell ⟨v, vo + ks, none⟩ (.int .i32 (V : Int))) := (Keep.refl [v] wr).set (by simp) _ _ _
                      have hB4 := (hB3.keep hk1 (by simp; exact Ne.symm vq) (by simp; exact Ne.symm vx) (by simp; exact Ne.symm vd) (by simp; exact Ne.symm ve)).setBi E
                      refine ⟨s + 1, ks + 1, hs2, by omega, by go_num, by go_num, (((kk3.set (by simp) _ _ _).set (by simp) _ _ _)).drew, ?_, (hl.set_other vq _ _ _).drew⟩
                      unfold BRF
                      rw [← hBd, ← hEs]
                      exact hB4.drew
                    case measure => simp [intOf]; omega
                · have hsC : c = s := by omega
                  have HsC := Lib.hid (And.intro hsC (And.intro hb1 hks))
                  have H3 := Lib.hid (And.intro hB3 hV3)
                  by_cases hC0 : c = 0
                  · have hC0i : ¬ (0 : Int) < (c : Int) := by omega
                    have hksk : k = ks := by omega
                    have hbb : bi' = b1 := by rw [hb1, ← hsC, hC0]; simp
                    clear hB3 hV3 hb1 hks hsC
                    subst hksk
                    subst hbb
                    go_wp2_with fail
                    all_goals
                      have HNB := H3.out.1
                      have HNV := H3.out.2
                      have HNK := kk3
                      obtain ⟨X, hX⟩ : ∃ X, X = leVal D / 2 ^ (p + W * k) % 2 ^ W := ⟨_, rfl⟩
                      have hN := fun wz (hz : BRF wz q x d o n cap ea D bo' bi') => nextC q x d o n cap ea D bo' bi' W wz hz hW0 (by omega) hbi' (by omega) hfk
                      rw [Hpos.out.1, ← hX] at hN
                      have hXlt : X < 2147483648 := by
                        have h1 : X < 2 ^ W := by rw [hX]; exact Nat.mod_lt _ (Nat.two_pow_pos _)
                        have h2 : 2 ^ W ≤ 2 ^ 31 := Nat.pow_le_pow_right (by omega) hW
                        omega
                      have hXw : IntKind.i32.wrap (X : Int) = (X : Int) := by simp only [IntKind.wrap, IntKind.bits, IntKind.signed]; simp; omega
                      have HX := Lib.hid hX
                      clear hX
                      refine (hN _ HNB).mono ?_
                      rintro e w4 ⟨rfl, k4, bo2, bi2, hp2, hb0, hb64, hB4⟩
                      have hV4 := HNV.keep k4 (by simp; exact vq)
                      obtain ⟨uc, hcu⟩ := hV4.layICell (i := vo + k) (by rw [length_bitVals]; omega) (by omega)
                      have hfv := hV4.unfrozen
                      have H4 := Lib.hid (And.intro hV4 (And.intro hB4 hp2))
                      have K4 := HNK.trans k4 (by simp)
                      clear hV4 hB4 hp2 k4 hN
                      go_wp2
                      go_roundw
                      case rel =>
                        obtain ⟨hV4, hB4, hp2⟩ := H4.out
                        refine ⟨k + 1, bo2, bi2, by omega, by go_num, by rw [Nat.mul_succ]; omega, hb64, .inl hb0, fun _ => hb0, K4.set (by simp) _ _ _, ?_, ?_⟩
                        · exact BR.keep hB4 ((Keep.refl [v] w4).set (b := v) (by simp) _ _ _) (by simp; exact Ne.symm vq) (by simp; exact Ne.symm vx) (by simp; exact Ne.symm vd) (by simp; exact Ne.symm ve)
                        · rw [bitVals_snoc, ← HX.out]
                          exact hV4.layI .i32 X (by rw [length_bitVals]; omega) (vo + k) (by rw [length_bitVals])
                      case measure => simp [intOf]; omega
                  · have hC0i : (0 : Int) < (c : Int) := by omega
                    have hkb : b1 ≤ 64 := by rw [hb1, ← hsC]; omega
                    have hb10 : 0 < b1 := by
                      have : 0 < W * s := Nat.mul_pos hW0 (by omega)
                      omega
                    clear hB3 hV3 hb1 hks hsC hC0
                    go_wp2
                    go_roundw
                    case rel =>
                      obtain ⟨hsC, hb1, hks⟩ := HsC.out
                      exact ⟨ks, bo', b1, by omega, rfl, by rw [hks, hb1, Nat.mul_add]; have := Hpos.out.1; omega, hkb, .inl hb10, fun _ => hb10, kk3, H3.out.1, H3.out.2⟩
                    case measure =>
                      obtain ⟨hsC, hb1, hks⟩ := HsC.out
                      simp [intOf]; omega
            · have hcf1 : ¬ (c : Int) < (f : Int) := by omega
              have hcf2 : (f : Int) < (c : Int) := by omega
              have hcf3 : (f : Int) ≤ (c : Int) := by omega
              have hcW : W * f ≤ r := Nat.le_trans (Nat.mul_le_mul_left _ (by omega)) hcW
              go_wp2_with fail
              go_region
              go_wp2_with fail
              go_region
              go_wp2_with fail
              go_loopw [78, 10] (fun jv iv wr2 => ∃ s ks : Nat, s ≤ f ∧ ks = k + s ∧ jv = .int .i64 (s : Int) ∧ iv = .int .i64 (ks : Int) ∧ Keep [q, v] w wr2 ∧ BRF wr2 q x d o n cap ea D bo' (bi' + W * s) ∧ Blk wr2 v (splice vcs vo (rowV .i32 (bitVals D p W ks)))) (fun jv _ _ => f - (intOf jv).toNat)
              case atStart => exact ⟨0, k, Nat.zero_le _, rfl, rfl, rfl, kk.drew.drew, by simpa [BRF] using BR.drew (BR.drew HB2.out.1), HB2.out.2.drew.drew⟩
              case round =>
                obtain ⟨s, ks, hs, hks, rfl, rfl, kk3, hB3, hV3⟩ := hrel
                obtain ⟨b1, hb1⟩ : ∃ b1, b1 = bi' + W * s := ⟨_, rfl⟩
                rw [← hb1] at hB3
                have hWs : W * s ≤ W * f := Nat.mul_le_mul_left _ hs
                have hks2 : ks ≤ m := by omega
                by_cases hs2 : s < f
                · have hWs1 : W * (s + 1) ≤ W * f := Nat.mul_le_mul_left _ hs2
                  rw [Nat.mul_succ] at hWs1
                  obtain ⟨E, hE⟩ : ∃ E, E = b1 + W := ⟨_, rfl⟩
                  have hE64 : E ≤ 64 := by omega
                  have hEi : (b1 : Int) + (W : Int) = (E : Int) := by omega
                  have hEw : IntKind.u64.wrap ((b1 : Int) + (W : Int)) = (E : Int) := by rw [IntWalk.u64_in ((b1 : Int) + (W : Int)) (by omega), hEi]
                  unfold BRF at hB3
                  obtain ⟨B, hBd⟩ : ∃ B, B = leVal ((D.drop bo').take 8) := ⟨_, rfl⟩
                  have hwin := window D bo' Hp.out.2
                  have hB64 : B < 18446744073709551616 := by rw [hBd, hwin]; exact Nat.mod_lt _ (by omega)
                  have hval := bits_in (leVal D) (8 * bo') b1 W (by omega)
                  rw [← hwin, ← hBd, ← hE] at hval
                  rw [← hBd] at hB3
                  obtain ⟨Y, hY⟩ : ∃ Y, Y = B % 2 ^ E := ⟨_, rfl⟩
                  obtain ⟨V, hVd⟩ : ∃ V, V = Y / 2 ^ b1 := ⟨_, rfl⟩
                  rw [← hY, ← hVd] at hval
                  have hVlt : V < 2147483648 := by
                    have h1 : V < 2 ^ W := by rw [hval]; exact Nat.mod_lt _ (Nat.two_pow_pos _)
                    have h2 : 2 ^ W ≤ 2 ^ 31 := Nat.pow_le_pow_right (by omega) hW
                    omega
                  have hVi : (Y : Int) / 2 ^ b1 = (V : Int) := by rw [hVd]; simp
                  have hVw : IntKind.i32.wrap (V : Int) = (V : Int) := by simp only [IntKind.wrap, IntKind.bits, IntKind.signed]; simp; omega
                  have hpp : 8 * bo' + b1 = p + W * ks := by rw [hks, Nat.mul_add]; have := Hpos.out.1; omega
                  rw [hpp] at hval
                  have hT : ∀ w, Calls Tryz.prog 150 #[.int .u64 (B : Int), .int .u64 (E : Int)] w fun e w' => e = .returned (.int .u64 (Y : Int)) ∧ w = w' := fun w => by
                    rw [hY]; exact trailingC B E w hE64 hB64
                  obtain ⟨e0, e1, e2, e3, e4, ef⟩ := hB3.cells
                  have hlt : ks < m := by omega
                  obtain ⟨uc, hcu⟩ := hV3.layICell (i := vo + ks) (by rw [length_bitVals]; omega) (by omega)
                  have hfv := hV3.unfrozen
                  have H3 := Lib.hid (And.intro hB3 (And.intro hV3 (And.intro hval (And.intro hBd (And.intro hE (And.intro hb1 hks))))))
                  clear hB3 hV3 hval hBd hE hb1 hwin hY hVd hpp hks
                  go_wp2_with fail
                  go_region_with (go_at_call 150; refine (hT _).mono ?_; rintro e w' ⟨rfl, rfl⟩)
                  all_goals
                    go_wp2
                    go_roundw
                    case rel =>
                      obtain ⟨hB3, hV3, hval, hBd, hE, hb1, hks⟩ := H3.out
                      have hEs : E = bi' + W * (s + 1) := by rw [Nat.mul_succ]; omega
                      have hl : Blk (wr.setCell ⟨v, vo + ks, none⟩ (.int .i32 (V : Int))) v (splice vcs vo (rowV .i32 (bitVals D p W (ks + 1)))) := by
                        rw [bitVals_snoc, ← hval]
                        exact hV3.layI .i32 V (by rw [length_bitVals]; omega) (vo + ks) (by rw [length_bitVals])
                      have hk1 : Keep [v] wr (wr.setCell ⟨v, vo + ks, none⟩ (.int .i32 (V : Int))) := (Keep.refl [v] wr).set (by simp) _ _ _
                      have hB4 := (hB3.keep hk1 (by simp; exact Ne.symm vq) (by simp; exact Ne.symm vx) (by simp; exact Ne.symm vd) (by simp; exact Ne.symm ve)).setBi E
                      refine ⟨s + 1, ks + 1, hs2, by omega, by go_num, by go_num, (((kk3.set (by simp) _ _ _).set (by simp) _ _ _)).drew, ?_, (hl.set_other vq _ _ _).drew⟩
                      unfold BRF
                      rw [← hBd, ← hEs]
                      exact hB4.drew
                    case measure => simp [intOf]; omega
                · have hsC : f = s := by omega
                  have HsC := Lib.hid (And.intro hsC (And.intro hb1 hks))
                  have H3 := Lib.hid (And.intro hB3 hV3)
                  by_cases hC0 : f = 0
                  · have hC0i : ¬ (0 : Int) < (f : Int) := by omega
                    have hksk : k = ks := by omega
                    have hbb : bi' = b1 := by rw [hb1, ← hsC, hC0]; simp
                    clear hB3 hV3 hb1 hks hsC
                    subst hksk
                    subst hbb
                    go_wp2_with fail
                    all_goals
                      have HNB := H3.out.1
                      have HNV := H3.out.2
                      have HNK := kk3
                      obtain ⟨X, hX⟩ : ∃ X, X = leVal D / 2 ^ (p + W * k) % 2 ^ W := ⟨_, rfl⟩
                      have hN := fun wz (hz : BRF wz q x d o n cap ea D bo' bi') => nextC q x d o n cap ea D bo' bi' W wz hz hW0 (by omega) hbi' (by omega) hfk
                      rw [Hpos.out.1, ← hX] at hN
                      have hXlt : X < 2147483648 := by
                        have h1 : X < 2 ^ W := by rw [hX]; exact Nat.mod_lt _ (Nat.two_pow_pos _)
                        have h2 : 2 ^ W ≤ 2 ^ 31 := Nat.pow_le_pow_right (by omega) hW
                        omega
                      have hXw : IntKind.i32.wrap (X : Int) = (X : Int) := by simp only [IntKind.wrap, IntKind.bits, IntKind.signed]; simp; omega
                      have HX := Lib.hid hX
                      clear hX
                      refine (hN _ HNB).mono ?_
                      rintro e w4 ⟨rfl, k4, bo2, bi2, hp2, hb0, hb64, hB4⟩
                      have hV4 := HNV.keep k4 (by simp; exact vq)
                      obtain ⟨uc, hcu⟩ := hV4.layICell (i := vo + k) (by rw [length_bitVals]; omega) (by omega)
                      have hfv := hV4.unfrozen
                      have H4 := Lib.hid (And.intro hV4 (And.intro hB4 hp2))
                      have K4 := HNK.trans k4 (by simp)
                      clear hV4 hB4 hp2 k4 hN
                      go_wp2
                      go_roundw
                      case rel =>
                        obtain ⟨hV4, hB4, hp2⟩ := H4.out
                        refine ⟨k + 1, bo2, bi2, by omega, by go_num, by rw [Nat.mul_succ]; omega, hb64, .inl hb0, fun _ => hb0, K4.set (by simp) _ _ _, ?_, ?_⟩
                        · exact BR.keep hB4 ((Keep.refl [v] w4).set (b := v) (by simp) _ _ _) (by simp; exact Ne.symm vq) (by simp; exact Ne.symm vx) (by simp; exact Ne.symm vd) (by simp; exact Ne.symm ve)
                        · rw [bitVals_snoc, ← HX.out]
                          exact hV4.layI .i32 X (by rw [length_bitVals]; omega) (vo + k) (by rw [length_bitVals])
                      case measure => simp [intOf]; omega
                  · have hC0i : (0 : Int) < (f : Int) := by omega
                    have hkb : b1 ≤ 64 := by rw [hb1, ← hsC]; omega
                    have hb10 : 0 < b1 := by
                      have : 0 < W * s := Nat.mul_pos hW0 (by omega)
                      omega
                    clear hB3 hV3 hb1 hks hsC hC0
                    go_wp2
                    go_roundw
                    case rel =>
                      obtain ⟨hsC, hb1, hks⟩ := HsC.out
                      exact ⟨ks, bo', b1, by omega, rfl, by rw [hks, hb1, Nat.mul_add]; have := Hpos.out.1; omega, hkb, .inl hb10, fun _ => hb10, kk3, H3.out.1, H3.out.2⟩
                    case measure =>
                      obtain ⟨hsC, hb1, hks⟩ := HsC.out
                      simp [intOf]; omega
          · go_wp2_with fail
            go_region
            go_wp2_with fail
            have HNB : BRF wr.drew q x d o n cap ea D bo' bi' := by simpa [BRF] using BR.drew HB2.out.1
            have HNV := HB2.out.2.drew
            have HNK := kk.drew
            obtain ⟨X, hX⟩ : ∃ X, X = leVal D / 2 ^ (p + W * k) % 2 ^ W := ⟨_, rfl⟩
            have hN := fun wz (hz : BRF wz q x d o n cap ea D bo' bi') => nextC q x d o n cap ea D bo' bi' W wz hz hW0 (by omega) hbi' (by omega) hfk
            rw [Hpos.out.1, ← hX] at hN
            have hXlt : X < 2147483648 := by
              have h1 : X < 2 ^ W := by rw [hX]; exact Nat.mod_lt _ (Nat.two_pow_pos _)
              have h2 : 2 ^ W ≤ 2 ^ 31 := Nat.pow_le_pow_right (by omega) hW
              omega
            have hXw : IntKind.i32.wrap (X : Int) = (X : Int) := by simp only [IntKind.wrap, IntKind.bits, IntKind.signed]; simp; omega
            have HX := Lib.hid hX
            clear hX
            refine (hN _ HNB).mono ?_
            rintro e w4 ⟨rfl, k4, bo2, bi2, hp2, hb0, hb64, hB4⟩
            have hV4 := HNV.keep k4 (by simp; exact vq)
            obtain ⟨uc, hcu⟩ := hV4.layICell (i := vo + k) (by rw [length_bitVals]; omega) (by omega)
            have hfv := hV4.unfrozen
            have H4 := Lib.hid (And.intro hV4 (And.intro hB4 hp2))
            have K4 := HNK.trans k4 (by simp)
            clear hV4 hB4 hp2 k4 hN
            go_wp2
            go_roundw
            case rel =>
              obtain ⟨hV4, hB4, hp2⟩ := H4.out
              refine ⟨k + 1, bo2, bi2, by omega, by go_num, by rw [Nat.mul_succ]; omega, hb64, .inl hb0, fun _ => hb0, K4.set (by simp) _ _ _, ?_, ?_⟩
              · exact BR.keep hB4 ((Keep.refl [v] w4).set (b := v) (by simp) _ _ _) (by simp; exact Ne.symm vq) (by simp; exact Ne.symm vx) (by simp; exact Ne.symm vd) (by simp; exact Ne.symm ve)
              · rw [bitVals_snoc, ← HX.out]
                exact hV4.layI .i32 X (by rw [length_bitVals]; omega) (vo + k) (by rw [length_bitVals])
            case measure => simp [intOf]; omega
    · have hkm : m = k := by omega
      subst hkm
      have HB2 := Lib.hid (And.intro hB hV)
      have Hpos := Lib.hid (And.intro hpos h0)
      clear hB hV hpos h0 c0 c1 c2 c3 c4 hf
      go_wp2
      go_ret2
      unfold ScalarPost
      refine ⟨m, Nat.le_refl _, rfl, kk, HB2.out.2, .inl ⟨rfl, bo', bi', Hpos.out.1, hbi', Hpos.out.2, HB2.out.1⟩⟩
end Go.Proofs.YtlolcgklcnechaaGreatDoor
