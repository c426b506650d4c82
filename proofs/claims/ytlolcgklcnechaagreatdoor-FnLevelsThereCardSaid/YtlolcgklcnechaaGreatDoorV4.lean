/- RleDecoder.GetBatchLevels. -/
import Derived.Test.YtlolcgklcnechaaGreatDoorV3
import Derived.Test.YtlolcgklcnechaaGreatDoorU13
set_option linter.unusedVariables false
set_option linter.unusedSimpArgs false
namespace Go.Proofs.YtlolcgklcnechaaGreatDoor
open Go.RowKit


set_option maxRecDepth 100000 in
set_option maxHeartbeats 4000000 in
/-- RleDecoder.GetBatchLevels. -/
theorem decGetBatchLevels (B : DecB) (L : List Nat) (v vo m vc M : Nat) (vcs : List Value) (w : World) (h : DecAt B w L) (hv : Blk w v vcs) (vt : v ≠ B.t) (vq : v ≠ B.q) (vx : v ≠ B.x) (vd : v ≠ B.d) (ve : v ≠ 4)
    (hvo : vo + m ≤ vcs.length) (hmL : m ≤ L.length) (hm : m ≤ 1000000) (hmc : m ≤ vc) (hW15 : B.W ≤ 15) (hsm : ∀ y ∈ L, y < 32768) :
    Calls Tryz.prog 95 #[.pointer (some ⟨B.t, 0, none⟩), .slice (some ⟨v, vo, none⟩) m vc, .int .i16 (M : Int)] w fun e w' =>
      ∃ mx : Nat, mx ≤ m ∧ e = .returned (.tuple #[.int .i64 (m : Int), .int .i64 (mx : Int), .nilIface]) ∧ Keep [B.t, B.q, B.x, v] w w' ∧ DecAt B w' (L.drop m) ∧ Blk w' v (splice vcs vo (rowV .i16 (L.take m))) := by
  have hv0 : Blk w v (splice vcs vo (rowV .i16 (L.take 0))) := by simpa [splice, rowV] using hv
  have ok : B.Ok := by obtain ⟨_, _, _, _, _, _, h⟩ := h; exact h.ok
  have Hok := Lib.hid ok
  obtain ⟨tq, tx, td, te, W0, W64, n8⟩ := ok
  have HL := Lib.hid hmL
  have Hsm := Lib.hid hsm
  clear hv hmL hsm
  go_enter Tryz.func95, Tryz.ntmps95
  go_wp2_with fail
  go_loopw [9, 11, 10] (fun i o cc wr => ∃ k s r c mx : Nat, k ≤ m ∧ mx ≤ k ∧ i = .int .i64 (k : Int) ∧ cc = .int .i64 (mx : Int) ∧ o = .slice (some ⟨v, vo + s, none⟩) r c ∧ r = m - k ∧ c = vc - k ∧ (k < m → s = k) ∧ Keep [B.t, B.q, B.x, v] w wr ∧ DecAt B wr (L.drop k) ∧ Blk wr v (splice vcs vo (rowV .i16 (L.take k))))
    (fun i _ _ wr => 2 * (m - (intOf i).toNat) + idle B.t wr)
  case atStart => exact ⟨0, 0, m, vc, 0, Nat.zero_le _, Nat.zero_le _, rfl, rfl, rfl, rfl, rfl, fun _ => rfl, Keep.refl _ _, by simpa using h, hv0⟩
  case round =>
    obtain ⟨k, s, r, c, mx, hk, hmx, rfl, rfl, rfl, hr, hc, hs, kk, hD, hV⟩ := hrel
    by_cases hk2 : k < m
    · have hsk := hs hk2
      subst hsk
      obtain ⟨cur, rep, lit, P, rs, rest, hS⟩ := hD
      obtain ⟨c0, c1, c2, c3, c4, cf⟩ := hS.cell
      have hri : (m : Int) - (s : Int) = (r : Int) := by omega
      have hrc : r ≤ c := by omega
      have hr0 : 0 < r := by omega
      have hrm : s + r = m := by omega
      have hsL : s ≤ L.length := by have := HL.out; omega
      have hAl : (L.take s).length = s := by simp; omega
      have HAl := Lib.hid hAl
      have hrepb := hS.repB
      have hlitb := hS.litB
      have Hc := Lib.hid hc
      clear hs hr hc hAl
      by_cases hrep0 : 0 < rep
      · have hrepi : (0 : Int) < (rep : Int) := by omega
        have hlit0 : lit = 0 := by rcases hS.st with h | h <;> omega
        have hcT := hS.cells
        rw [hlit0] at hcT
        have HT := Lib.hid hcT
        have Hlit0 := Lib.hid hlit0
        have Hrep0 := Lib.hid hrep0
        have hcb0 : cur < 32768 := by
          have h1 := (hS.takeRep (b := 0) (S := []) hrep0 (Nat.zero_le _) (by rw [Nat.sub_zero]; rw [hlit0] at hS; exact hS.cells) (Keep.refl [] wr) (by simp) (by simp) (by simp) (by simp)).1
          rcases hS.st with ⟨_, _, h2⟩ | ⟨h2, _⟩
          · refine Hsm.out cur (List.mem_of_mem_drop (i := s) ?_)
            rw [h2]
            exact List.mem_append_left _ (List.mem_replicate.2 ⟨by omega, rfl⟩)
          · omega
        have HS := Lib.hid hS
        have hc0 : ¬ c = 0 := by omega
        clear hlit0 hcT hrep0 hS
        by_cases hle : rep < r
        · have hlei : (rep : Int) < (r : Int) := by omega
          have hlei2 : ¬ (r : Int) ≤ (rep : Int) := by omega
          obtain ⟨k2, hk2'⟩ : ∃ x, x = s + rep := ⟨_, rfl⟩
          have hk2i : (s : Int) + (rep : Int) = (k2 : Int) := by omega
          have hk2m : k2 ≤ m := by omega
          have hcr : ¬ c = rep := by omega
          have hbc : (rep : Int) ≤ (c : Int) := by omega
          have hbc2 : rep ≤ c := by omega
          have Hk2 := Lib.hid hk2'
          clear hk2'
          go_wp2_with fail
          go_loopw [50] (fun i wr2 => ∃ j : Nat, j ≤ rep ∧ i = .int .i64 (j : Int) ∧ Keep [v] wr wr2 ∧ Blk wr2 v (splice vcs vo (rowV .i16 (L.take s ++ List.replicate j cur)))) (fun i _ => rep - (intOf i).toNat)
          case atStart => exact ⟨0, Nat.zero_le _, rfl, Keep.refl _ _, by simpa using hV⟩
          case round =>
            obtain ⟨j, hj, rfl, kj, hVj⟩ := hrel
            have hTj := HT.out.keep kj (by simp; exact Ne.symm vt)
            have c2 := hTj.cell (i := 2) rfl
            have c3 := hTj.cell (i := 3) rfl
            have cf := hTj.unfrozen
            have HTj := Lib.hid hTj
            by_cases hj2 : j < rep
            · have hjr : (j : Int) < (r : Int) := by omega
              have hAj : (L.take s ++ List.replicate j cur).length = s + j := by rw [List.length_append, HAl.out]; simp
              obtain ⟨u, hcu⟩ := hVj.layICell (vo + s + j) (by rw [hAj]; omega) (by omega)
              have hfv := hVj.unfrozen
              have HVj := Lib.hid hVj
              have HAj := Lib.hid hAj
              clear hVj hTj hAj
              go_wp2
              go_roundw
              case rel =>
                refine ⟨j + 1, hj2, by go_num, kj.set (by simp) _ _ _, ?_⟩
                have := HVj.out.layI .i16 cur (by rw [HAj.out]; omega) (vo + s + j) (by rw [HAj.out]; omega)
                rw [List.append_assoc, ← List.replicate_succ'] at this
                exact this
              case measure => simp [intOf]; omega
            · have hjb : j = rep := by omega
              subst hjb
              have HVj := Lib.hid hVj
              have Hkj := Lib.hid kj
              clear hVj hTj kj
              by_cases hcM : cur = M
              · have hcMi : ((cur : Int) == (M : Int)) = true := by rw [hcM]; simp
                clear hcM
                go_wp2
                go_roundw
                case rel =>
                  have hc2 : Blk (wr.setCell ⟨B.t, 3, none⟩ (.int .i32 0)) B.t (decCells B.q B.W cur (j - j) 0) := by
                    rw [Nat.sub_self]; exact HTj.out.set 3 (.int .i32 ((0 : Nat) : Int))
                  obtain ⟨e1, e2⟩ := HS.out.takeRep (b := j) (S := [B.t, v]) Hrep0.out (Nat.le_refl _) hc2 ((Hkj.out.weaken (S' := [B.t, v]) (by simp)).set (by simp) _ _ _) (by simp; exact ⟨Ne.symm tq, Ne.symm vq⟩) (by simp; exact ⟨Ne.symm tx, Ne.symm vx⟩) (by simp; exact ⟨Ne.symm td, Ne.symm vd⟩) (by simp; exact ⟨Ne.symm te, Ne.symm ve⟩)
                  have hV2 := HVj.out.set_other (c := B.t) vt 3 none (.int .i32 0)
                  rw [List.drop_drop, ← Hk2.out] at e1
                  rw [← e2, ← List.take_add, ← Hk2.out] at hV2
                  exact ⟨k2, k2, r - j, c - j, mx + j, hk2m, by have := Hk2.out; omega, rfl, by go_num, by rw [Hk2.out, Nat.add_assoc], by have := Hk2.out; omega, by have := Hk2.out; have := Hc.out; omega, fun _ => rfl, (kk.trans Hkj.out (by simp)).set (by simp) _ _ _, ⟨_, _, _, _, _, _, e1⟩, hV2⟩
                case measure =>
                  have h1 := idle_le B.t (wr.setCell ⟨B.t, 3, none⟩ (.int .i32 0))
                  have h2 := Hk2.out
                  have h3 := Hrep0.out
                  simp only [intOf, Int.toNat_natCast]
                  omega
              · have hcMi : ((cur : Int) == (M : Int)) = false := by rw [beq_eq_false_iff_ne]; omega
                clear hcM
                go_wp2
                go_roundw
                case rel =>
                  have hc2 : Blk (wr.setCell ⟨B.t, 3, none⟩ (.int .i32 0)) B.t (decCells B.q B.W cur (j - j) 0) := by
                    rw [Nat.sub_self]; exact HTj.out.set 3 (.int .i32 ((0 : Nat) : Int))
                  obtain ⟨e1, e2⟩ := HS.out.takeRep (b := j) (S := [B.t, v]) Hrep0.out (Nat.le_refl _) hc2 ((Hkj.out.weaken (S' := [B.t, v]) (by simp)).set (by simp) _ _ _) (by simp; exact ⟨Ne.symm tq, Ne.symm vq⟩) (by simp; exact ⟨Ne.symm tx, Ne.symm vx⟩) (by simp; exact ⟨Ne.symm td, Ne.symm vd⟩) (by simp; exact ⟨Ne.symm te, Ne.symm ve⟩)
                  have hV2 := HVj.out.set_other (c := B.t) vt 3 none (.int .i32 0)
                  rw [List.drop_drop, ← Hk2.out] at e1
                  rw [← e2, ← List.take_add, ← Hk2.out] at hV2
                  exact ⟨k2, k2, r - j, c - j, mx, hk2m, by have := Hk2.out; omega, rfl, by go_num, by rw [Hk2.out, Nat.add_assoc], by have := Hk2.out; omega, by have := Hk2.out; have := Hc.out; omega, fun _ => rfl, (kk.trans Hkj.out (by simp)).set (by simp) _ _ _, ⟨_, _, _, _, _, _, e1⟩, hV2⟩
                case measure =>
                  have h1 := idle_le B.t (wr.setCell ⟨B.t, 3, none⟩ (.int .i32 0))
                  have h2 := Hk2.out
                  have h3 := Hrep0.out
                  simp only [intOf, Int.toNat_natCast]
                  omega
        · have hlei : ¬ (rep : Int) < (r : Int) := by omega
          have hlei2 : (r : Int) ≤ (rep : Int) := by omega
          obtain ⟨rep2, hrep2⟩ : ∃ x, x = rep - r := ⟨_, rfl⟩
          have hrep2i : (rep : Int) - (r : Int) = (rep2 : Int) := by omega
          have hk2i : (s : Int) + (r : Int) = (m : Int) := by omega
          have hbc : (r : Int) ≤ (c : Int) := by omega
          have Hrep2 := Lib.hid hrep2
          clear hrep2
          go_wp2_with fail
          go_loopw [50] (fun i wr2 => ∃ j : Nat, j ≤ r ∧ i = .int .i64 (j : Int) ∧ Keep [v] wr wr2 ∧ Blk wr2 v (splice vcs vo (rowV .i16 (L.take s ++ List.replicate j cur)))) (fun i _ => r - (intOf i).toNat)
          case atStart => exact ⟨0, Nat.zero_le _, rfl, Keep.refl _ _, by simpa using hV⟩
          case round =>
            obtain ⟨j, hj, rfl, kj, hVj⟩ := hrel
            have hTj := HT.out.keep kj (by simp; exact Ne.symm vt)
            have c2 := hTj.cell (i := 2) rfl
            have c3 := hTj.cell (i := 3) rfl
            have cf := hTj.unfrozen
            have HTj := Lib.hid hTj
            by_cases hj2 : j < r
            · have hjr : (j : Int) < (r : Int) := by omega
              have hAj : (L.take s ++ List.replicate j cur).length = s + j := by rw [List.length_append, HAl.out]; simp
              obtain ⟨u, hcu⟩ := hVj.layICell (vo + s + j) (by rw [hAj]; omega) (by omega)
              have hfv := hVj.unfrozen
              have HVj := Lib.hid hVj
              have HAj := Lib.hid hAj
              clear hVj hTj hAj
              go_wp2
              go_roundw
              case rel =>
                refine ⟨j + 1, hj2, by go_num, kj.set (by simp) _ _ _, ?_⟩
                have := HVj.out.layI .i16 cur (by rw [HAj.out]; omega) (vo + s + j) (by rw [HAj.out]; omega)
                rw [List.append_assoc, ← List.replicate_succ'] at this
                exact this
              case measure => simp [intOf]; omega
            · have hjb : j = r := by omega
              subst hjb
              have HVj := Lib.hid hVj
              have Hkj := Lib.hid kj
              clear hVj hTj kj
              by_cases hcM : cur = M
              · have hcMi : ((cur : Int) == (M : Int)) = true := by rw [hcM]; simp
                clear hcM
                by_cases hcb : c = j
                · go_wp2
                  go_roundw
                  case rel =>
                    have hc2 : Blk (wr.setCell ⟨B.t, 3, none⟩ (.int .i32 (rep2 : Int))) B.t (decCells B.q B.W cur (rep - j) 0) := by
                      rw [← Hrep2.out]; exact HTj.out.set 3 (.int .i32 (rep2 : Int))
                    obtain ⟨e1, e2⟩ := HS.out.takeRep (b := j) (S := [B.t, v]) Hrep0.out (by omega) hc2 ((Hkj.out.weaken (S' := [B.t, v]) (by simp)).set (by simp) _ _ _) (by simp; exact ⟨Ne.symm tq, Ne.symm vq⟩) (by simp; exact ⟨Ne.symm tx, Ne.symm vx⟩) (by simp; exact ⟨Ne.symm td, Ne.symm vd⟩) (by simp; exact ⟨Ne.symm te, Ne.symm ve⟩)
                    have hV2 := HVj.out.set_other (c := B.t) vt 3 none (.int .i32 (rep2 : Int))
                    rw [List.drop_drop, hrm] at e1
                    rw [← e2, ← List.take_add, hrm] at hV2
                    exact ⟨m, s, 0, 0, mx + j, Nat.le_refl _, by omega, rfl, by go_num, rfl, by omega, by have := Hc.out; omega, fun h => by omega, (kk.trans Hkj.out (by simp)).set (by simp) _ _ _, ⟨_, _, _, _, _, _, e1⟩, hV2⟩
                  case measure =>
                    have h1 := idle_le B.t (wr.setCell ⟨B.t, 3, none⟩ (.int .i32 (rep2 : Int)))
                    simp only [intOf, Int.toNat_natCast]
                    omega
                · go_wp2
                  go_roundw
                  case rel =>
                    have hc2 : Blk (wr.setCell ⟨B.t, 3, none⟩ (.int .i32 (rep2 : Int))) B.t (decCells B.q B.W cur (rep - j) 0) := by
                      rw [← Hrep2.out]; exact HTj.out.set 3 (.int .i32 (rep2 : Int))
                    obtain ⟨e1, e2⟩ := HS.out.takeRep (b := j) (S := [B.t, v]) Hrep0.out (by omega) hc2 ((Hkj.out.weaken (S' := [B.t, v]) (by simp)).set (by simp) _ _ _) (by simp; exact ⟨Ne.symm tq, Ne.symm vq⟩) (by simp; exact ⟨Ne.symm tx, Ne.symm vx⟩) (by simp; exact ⟨Ne.symm td, Ne.symm vd⟩) (by simp; exact ⟨Ne.symm te, Ne.symm ve⟩)
                    have hV2 := HVj.out.set_other (c := B.t) vt 3 none (.int .i32 (rep2 : Int))
                    rw [List.drop_drop, hrm] at e1
                    rw [← e2, ← List.take_add, hrm] at hV2
                    exact ⟨m, s + j, 0, c - j, mx + j, Nat.le_refl _, by omega, rfl, by go_num, by rw [Nat.add_assoc], by omega, by have := Hc.out; omega, fun h => by omega, (kk.trans Hkj.out (by simp)).set (by simp) _ _ _, ⟨_, _, _, _, _, _, e1⟩, hV2⟩
                  case measure =>
                    have h1 := idle_le B.t (wr.setCell ⟨B.t, 3, none⟩ (.int .i32 (rep2 : Int)))
                    simp only [intOf, Int.toNat_natCast]
                    omega
              · have hcMi : ((cur : Int) == (M : Int)) = false := by rw [beq_eq_false_iff_ne]; omega
                clear hcM
                by_cases hcb : c = j
                · go_wp2
                  go_roundw
                  case rel =>
                    have hc2 : Blk (wr.setCell ⟨B.t, 3, none⟩ (.int .i32 (rep2 : Int))) B.t (decCells B.q B.W cur (rep - j) 0) := by
                      rw [← Hrep2.out]; exact HTj.out.set 3 (.int .i32 (rep2 : Int))
                    obtain ⟨e1, e2⟩ := HS.out.takeRep (b := j) (S := [B.t, v]) Hrep0.out (by omega) hc2 ((Hkj.out.weaken (S' := [B.t, v]) (by simp)).set (by simp) _ _ _) (by simp; exact ⟨Ne.symm tq, Ne.symm vq⟩) (by simp; exact ⟨Ne.symm tx, Ne.symm vx⟩) (by simp; exact ⟨Ne.symm td, Ne.symm vd⟩) (by simp; exact ⟨Ne.symm te, Ne.symm ve⟩)
                    have hV2 := HVj.out.set_other (c := B.t) vt 3 none (.int .i32 (rep2 : Int))
                    rw [List.drop_drop, hrm] at e1
                    rw [← e2, ← List.take_add, hrm] at hV2
                    exact ⟨m, s, 0, 0, mx, Nat.le_refl _, by omega, rfl, by go_num, rfl, by omega, by have := Hc.out; omega, fun h => by omega, (kk.trans Hkj.out (by simp)).set (by simp) _ _ _, ⟨_, _, _, _, _, _, e1⟩, hV2⟩
                  case measure =>
                    have h1 := idle_le B.t (wr.setCell ⟨B.t, 3, none⟩ (.int .i32 (rep2 : Int)))
                    simp only [intOf, Int.toNat_natCast]
                    omega
                · go_wp2
                  go_roundw
                  case rel =>
                    have hc2 : Blk (wr.setCell ⟨B.t, 3, none⟩ (.int .i32 (rep2 : Int))) B.t (decCells B.q B.W cur (rep - j) 0) := by
                      rw [← Hrep2.out]; exact HTj.out.set 3 (.int .i32 (rep2 : Int))
                    obtain ⟨e1, e2⟩ := HS.out.takeRep (b := j) (S := [B.t, v]) Hrep0.out (by omega) hc2 ((Hkj.out.weaken (S' := [B.t, v]) (by simp)).set (by simp) _ _ _) (by simp; exact ⟨Ne.symm tq, Ne.symm vq⟩) (by simp; exact ⟨Ne.symm tx, Ne.symm vx⟩) (by simp; exact ⟨Ne.symm td, Ne.symm vd⟩) (by simp; exact ⟨Ne.symm te, Ne.symm ve⟩)
                    have hV2 := HVj.out.set_other (c := B.t) vt 3 none (.int .i32 (rep2 : Int))
                    rw [List.drop_drop, hrm] at e1
                    rw [← e2, ← List.take_add, hrm] at hV2
                    exact ⟨m, s + j, 0, c - j, mx, Nat.le_refl _, by omega, rfl, by go_num, by rw [Nat.add_assoc], by omega, by have := Hc.out; omega, fun h => by omega, (kk.trans Hkj.out (by simp)).set (by simp) _ _ _, ⟨_, _, _, _, _, _, e1⟩, hV2⟩
                  case measure =>
                    have h1 := idle_le B.t (wr.setCell ⟨B.t, 3, none⟩ (.int .i32 (rep2 : Int)))
                    simp only [intOf, Int.toNat_natCast]
                    omega
      · have hr0' : rep = 0 := by omega
        subst hr0'
        by_cases hlit0 : 0 < lit
        · have hliti : (0 : Int) < (lit : Int) := by omega
          obtain ⟨bo, bi, hBR, hbi64, hpP, hPn, hLe⟩ : ∃ bo bi, BRF wr B.q B.x B.d B.o B.n B.cap B.ea B.D bo bi ∧ bi ≤ 64 ∧ 8 * bo + bi + B.W * lit = 8 * P ∧ P ≤ B.n ∧ L.drop s = bitVals B.D (8 * bo + bi) B.W lit ++ valsR rs := by
            rcases hS.st with h | ⟨_, _, bo, bi, h⟩
            · omega
            · exact ⟨bo, bi, h⟩
          obtain ⟨p, hpp⟩ : ∃ p, 8 * bo + bi = p := ⟨_, rfl⟩
          rw [hpp] at hpP hLe
          have HT := Lib.hid hS.cells
          have HS := Lib.hid hS
          have HBR := Lib.hid hBR
          have HpP := Lib.hid hpP
          have HPn := Lib.hid hPn
          have HLe := Lib.hid hLe
          have Hpp := Lib.hid hpp
          have HV := Lib.hid hV
          have hc0 : ¬ c = 0 := by omega
          clear hS hBR hpP hPn hLe hpp hV
          by_cases hle : lit < r
          · have hlei : (lit : Int) < (r : Int) := by omega
            have hlei2 : ¬ (r : Int) ≤ (lit : Int) := by omega
            obtain ⟨k2, hk2'⟩ : ∃ x, x = s + lit := ⟨_, rfl⟩
            have hk2i : (s : Int) + (lit : Int) = (k2 : Int) := by omega
            have hk2m : k2 ≤ m := by omega
            have hcr : ¬ c = lit := by omega
            have hlc : (lit : Int) ≤ (c : Int) := by omega
            have hlc2 : lit ≤ c := by omega
            have Hk2 := Lib.hid hk2'
            clear hk2'
            go_wp2_with fail
            refine wp_region_mid 13 (by kernel_rfl) (by kernel_rfl) ?_
            simp only [List.take_succ_cons, List.take_zero, List.drop_succ_cons, List.drop_zero]
            change wpStill _ _ (World.drew _) _ _ _
            repeat still_step
            refine wpStill_nil ?_
            go_wp2_with fail
            refine (getBatchLevelsC B.q B.x B.d B.o B.n B.cap B.ea B.D bo bi v (vo + s) lit c B.W p M (splice vcs vo (rowV .i16 (L.take s))) _ (BR.drew HBR.out) hbi64 Hpp.out W0 hW15 HV.out.drew vq vx vd ve (by rw [length_splice _ _ _ (by rw [length_rowV, HAl.out]; omega)]; omega) (by omega) (by omega) n8 (by have := HpP.out; have : B.W * lit ≤ B.W * lit := Nat.mul_le_mul_left _ (by omega); have := HPn.out; omega)).mono ?_
            rintro e w2 ⟨m3, hm3, rfl, k2, bo2, bi2, hp2, hb2, hB2, hV2⟩
            have kd2 : Keep [B.q, B.x, v] wr w2 := (Keep.refl [B.q, B.x, v] wr).drew.trans k2 (fun x hx => .inl hx)
            have hT2 := HT.out.keep kd2 (by simp; exact ⟨tq, tx, Ne.symm vt⟩)
            have c4 := hT2.cell (i := 4) rfl
            have cf := hT2.unfrozen
            have HT2 := Lib.hid hT2
            have HB2 := Lib.hid hB2
            have HV2 := Lib.hid hV2
            have Hp2 := Lib.hid hp2
            have KK2 : Keep [B.t, B.q, B.x, v] w w2 := kk.trans kd2 (by simp)
            clear hT2 hB2 hV2 hp2 k2
            go_wp2_with fail
            repeat still_step
            refine wpStill_nil ?_
            go_wp2
            go_roundw
            case rel =>
              have hc2 : Blk (w2.setCell ⟨B.t, 4, none⟩ (.int .i32 0)) B.t (decCells B.q B.W cur 0 (lit - lit)) := by
                rw [Nat.sub_self]; exact HT2.out.set 4 (.int .i32 ((0 : Nat) : Int))
              have Ks : Keep [B.t] w2 (w2.setCell ⟨B.t, 4, none⟩ (.int .i32 0)) := (Keep.refl [B.t] w2).set (by simp) _ _ _
              obtain ⟨e1, e2⟩ := DecSt.takeLit (w := wr) (rep := 0) (bo := bo) (bi := bi) Hok.out HS.out.rsOk HS.out.runs HS.out.litB HS.out.curB (Nat.le_refl lit) HpP.out HPn.out HLe.out hc2 (BR.keep HB2.out Ks (by simp; exact Ne.symm tq) (by simp; exact Ne.symm tx) (by simp; exact Ne.symm td) (by simp; exact Ne.symm te)) hb2 Hp2.out
              have hV3 := HV2.out.set_other (c := B.t) vt 4 none (.int .i32 0)
              have hsp := splice_then vcs (rowV .i16 (L.take s)) (rowV .i16 (bitVals B.D p B.W lit)) vo (by rw [length_rowV, HAl.out]; simp; omega)
              rw [length_rowV, HAl.out] at hsp
              rw [hsp, ← rowV_append, ← e2, ← List.take_add, ← Hk2.out] at hV3
              rw [List.drop_drop, ← Hk2.out] at e1
              exact ⟨k2, k2, r - lit, c - lit, mx + m3, hk2m, by have := Hk2.out; omega, rfl, by go_num, by rw [Hk2.out, Nat.add_assoc], by have := Hk2.out; omega, by have := Hk2.out; have := Hc.out; omega, fun _ => rfl, KK2.set (by simp) _ _ _, ⟨_, _, _, _, _, _, e1⟩, hV3⟩
            case measure =>
              have h1 := idle_le B.t (w2.setCell ⟨B.t, 4, none⟩ (.int .i32 0))
              have h2 := Hk2.out
              simp only [intOf, Int.toNat_natCast]
              omega
          · have hlei : ¬ (lit : Int) < (r : Int) := by omega
            have hlei2 : (r : Int) ≤ (lit : Int) := by omega
            obtain ⟨lit2, hlit2⟩ : ∃ x, x = lit - r := ⟨_, rfl⟩
            have hlit2i : (lit : Int) - (r : Int) = (lit2 : Int) := by omega
            have hk2i : (s : Int) + (r : Int) = (m : Int) := by omega
            have hlc : (r : Int) ≤ (c : Int) := by omega
            have Hlit2 := Lib.hid hlit2
            clear hlit2
            go_wp2_with fail
            refine wp_region_mid 13 (by kernel_rfl) (by kernel_rfl) ?_
            simp only [List.take_succ_cons, List.take_zero, List.drop_succ_cons, List.drop_zero]
            change wpStill _ _ (World.drew _) _ _ _
            repeat still_step
            refine wpStill_nil ?_
            go_wp2_with fail
            refine (getBatchLevelsC B.q B.x B.d B.o B.n B.cap B.ea B.D bo bi v (vo + s) r c B.W p M (splice vcs vo (rowV .i16 (L.take s))) _ (BR.drew HBR.out) hbi64 Hpp.out W0 hW15 HV.out.drew vq vx vd ve (by rw [length_splice _ _ _ (by rw [length_rowV, HAl.out]; omega)]; omega) (by omega) (by omega) n8 (by have := HpP.out; have : B.W * r ≤ B.W * lit := Nat.mul_le_mul_left _ (by omega); have := HPn.out; omega)).mono ?_
            rintro e w2 ⟨m3, hm3, rfl, k2, bo2, bi2, hp2, hb2, hB2, hV2⟩
            have kd2 : Keep [B.q, B.x, v] wr w2 := (Keep.refl [B.q, B.x, v] wr).drew.trans k2 (fun x hx => .inl hx)
            have hT2 := HT.out.keep kd2 (by simp; exact ⟨tq, tx, Ne.symm vt⟩)
            have c4 := hT2.cell (i := 4) rfl
            have cf := hT2.unfrozen
            have HT2 := Lib.hid hT2
            have HB2 := Lib.hid hB2
            have HV2 := Lib.hid hV2
            have Hp2 := Lib.hid hp2
            have KK2 : Keep [B.t, B.q, B.x, v] w w2 := kk.trans kd2 (by simp)
            clear hT2 hB2 hV2 hp2 k2
            go_wp2_with fail
            repeat still_step
            refine wpStill_nil ?_
            by_cases hcb : c = r
            · go_wp2
              go_roundw
              case rel =>
                have hc2 : Blk (w2.setCell ⟨B.t, 4, none⟩ (.int .i32 (lit2 : Int))) B.t (decCells B.q B.W cur 0 (lit - r)) := by
                  rw [← Hlit2.out]; exact HT2.out.set 4 (.int .i32 (lit2 : Int))
                have Ks : Keep [B.t] w2 (w2.setCell ⟨B.t, 4, none⟩ (.int .i32 (lit2 : Int))) := (Keep.refl [B.t] w2).set (by simp) _ _ _
                obtain ⟨e1, e2⟩ := DecSt.takeLit (w := wr) (rep := 0) (bo := bo) (bi := bi) (b := r) Hok.out HS.out.rsOk HS.out.runs HS.out.litB HS.out.curB (by omega) HpP.out HPn.out HLe.out hc2 (BR.keep HB2.out Ks (by simp; exact Ne.symm tq) (by simp; exact Ne.symm tx) (by simp; exact Ne.symm td) (by simp; exact Ne.symm te)) hb2 Hp2.out
                have hV3 := HV2.out.set_other (c := B.t) vt 4 none (.int .i32 (lit2 : Int))
                have hsp := splice_then vcs (rowV .i16 (L.take s)) (rowV .i16 (bitVals B.D p B.W r)) vo (by rw [length_rowV, HAl.out]; simp; omega)
                rw [length_rowV, HAl.out] at hsp
                rw [hsp, ← rowV_append, ← e2, ← List.take_add, hrm] at hV3
                rw [List.drop_drop, hrm] at e1
                exact ⟨m, s, 0, 0, mx + m3, Nat.le_refl _, by omega, rfl, by go_num, rfl, by omega, by have := Hc.out; omega, fun h => by omega, KK2.set (by simp) _ _ _, ⟨_, _, _, _, _, _, e1⟩, hV3⟩
              case measure =>
                have h1 := idle_le B.t (w2.setCell ⟨B.t, 4, none⟩ (.int .i32 (lit2 : Int)))
                simp only [intOf, Int.toNat_natCast]
                omega
            · go_wp2
              go_roundw
              case rel =>
                have hc2 : Blk (w2.setCell ⟨B.t, 4, none⟩ (.int .i32 (lit2 : Int))) B.t (decCells B.q B.W cur 0 (lit - r)) := by
                  rw [← Hlit2.out]; exact HT2.out.set 4 (.int .i32 (lit2 : Int))
                have Ks : Keep [B.t] w2 (w2.setCell ⟨B.t, 4, none⟩ (.int .i32 (lit2 : Int))) := (Keep.refl [B.t] w2).set (by simp) _ _ _
                obtain ⟨e1, e2⟩ := DecSt.takeLit (w := wr) (rep := 0) (bo := bo) (bi := bi) (b := r) Hok.out HS.out.rsOk HS.out.runs HS.out.litB HS.out.curB (by omega) HpP.out HPn.out HLe.out hc2 (BR.keep HB2.out Ks (by simp; exact Ne.symm tq) (by simp; exact Ne.symm tx) (by simp; exact Ne.symm td) (by simp; exact Ne.symm te)) hb2 Hp2.out
                have hV3 := HV2.out.set_other (c := B.t) vt 4 none (.int .i32 (lit2 : Int))
                have hsp := splice_then vcs (rowV .i16 (L.take s)) (rowV .i16 (bitVals B.D p B.W r)) vo (by rw [length_rowV, HAl.out]; simp; omega)
                rw [length_rowV, HAl.out] at hsp
                rw [hsp, ← rowV_append, ← e2, ← List.take_add, hrm] at hV3
                rw [List.drop_drop, hrm] at e1
                exact ⟨m, s + r, 0, c - r, mx + m3, Nat.le_refl _, by omega, rfl, by go_num, by rw [Nat.add_assoc], by omega, by have := Hc.out; omega, fun h => by omega, KK2.set (by simp) _ _ _, ⟨_, _, _, _, _, _, e1⟩, hV3⟩
              case measure =>
                have h1 := idle_le B.t (w2.setCell ⟨B.t, 4, none⟩ (.int .i32 (lit2 : Int)))
                simp only [intOf, Int.toNat_natCast]
                omega
        · have hl0 : lit = 0 := by omega
          subst hl0
          have hne : L.drop s ≠ [] := by
            intro h
            have := congrArg List.length h
            simp at this
            have := HL.out
            omega
          have hid1 := hS.idle_one
          have HV := Lib.hid hV
          have HS := Lib.hid hS
          have Hid1 := Lib.hid hid1
          clear hS hV hid1
          go_wp2_with fail
          refine (HS.out.next hne).mono ?_
          rintro e w2 ⟨rfl, k2, cur', rep', lit', P', rs', hpos, hS2⟩
          have KK2 : Keep [B.t, B.q, B.x, v] w w2 := kk.trans k2 (by simp)
          have hid2 := hS2.idle_zero hpos
          have HV2 := Lib.hid (HV.out.keep k2 (by simp; exact ⟨vq, vt⟩))
          have HS2 := Lib.hid hS2
          have Hid2 := Lib.hid hid2
          clear hS2 hid2 k2 c0 c1 c2 c3 c4 cf
          go_wp2
          go_roundw
          case rel => exact ⟨s, s, r, c, mx, hk, hmx, rfl, rfl, rfl, by omega, Hc.out, fun _ => rfl, KK2, ⟨_, _, _, _, _, _, HS2.out⟩, HV2.out⟩
          case measure => rw [Hid1.out, Hid2.out]; simp only [intOf]; omega
    · have hkm : k = m := by omega
      subst hkm
      have HD := Lib.hid hD
      have HV := Lib.hid hV
      clear hD hV hs
      go_wp2
      go_ret3
      exact ⟨mx, hmx, rfl, kk, HD.out, HV.out⟩
end Go.Proofs.YtlolcgklcnechaaGreatDoor
