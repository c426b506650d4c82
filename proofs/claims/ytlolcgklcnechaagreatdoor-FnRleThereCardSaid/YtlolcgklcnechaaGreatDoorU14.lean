/- RleDecoder.Discard. -/
import Derived.Test.YtlolcgklcnechaaGreatDoorU13
set_option linter.unusedVariables false
set_option linter.unusedSimpArgs false
namespace Go.Proofs.YtlolcgklcnechaaGreatDoor
open Go.RowKit


set_option maxRecDepth 100000 in
set_option maxHeartbeats 4000000 in
/-- RleDecoder.Discard. -/
theorem decDiscard (B : DecB) (L : List Nat) (m : Nat) (w : World) (h : DecAt B w L) (hmL : m ≤ L.length) (hm : m ≤ 1000000) :
    Calls Tryz.prog 44 #[.pointer (some ⟨B.t, 0, none⟩), .int .i64 (m : Int)] w fun e w' =>
      e = .returned (.int .i64 (m : Int)) ∧ Keep [B.t, B.q] w w' ∧ DecAt B w' (L.drop m) := by
  have ok : B.Ok := by obtain ⟨_, _, _, _, _, _, h⟩ := h; exact h.ok
  have Hok := Lib.hid ok
  obtain ⟨tq, tx, td, te, W0, W64, n8⟩ := ok
  have HL := Lib.hid hmL
  clear hmL
  go_enter Tryz.func44, Tryz.ntmps44
  go_wp2_with fail
  go_loopw [5] (fun i wr => ∃ k : Nat, k ≤ m ∧ i = .int .i64 (k : Int) ∧ Keep [B.t, B.q] w wr ∧ DecAt B wr (L.drop k)) (fun i wr => 2 * (m - (intOf i).toNat) + idle B.t wr)
  case atStart => exact ⟨0, Nat.zero_le _, rfl, Keep.refl _ _, by simpa using h⟩
  case round =>
    obtain ⟨s, hk, rfl, kk, hD⟩ := hrel
    by_cases hk2 : s < m
    · obtain ⟨cur, rep, lit, P, rs, rest, hS⟩ := hD
      obtain ⟨c0, c1, c2, c3, c4, cf⟩ := hS.cell
      obtain ⟨r, hr⟩ : ∃ r, r = m - s := ⟨_, rfl⟩
      have hri : (m : Int) - (s : Int) = (r : Int) := by omega
      have hr0 : 0 < r := by omega
      have hrm : s + r = m := by omega
      have hrepb := hS.repB
      have hlitb := hS.litB
      clear hr
      by_cases hrep0 : 0 < rep
      · have hrepi : (0 : Int) < (rep : Int) := by omega
        have hlit0 : lit = 0 := by rcases hS.st with h | h <;> omega
        have hcT := hS.cells
        rw [hlit0] at hcT
        have HT := Lib.hid hcT
        have Hrep0 := Lib.hid hrep0
        have HS := Lib.hid hS
        clear hlit0 hcT hrep0 hS
        by_cases hle : rep < r
        · have hlei : (rep : Int) < (r : Int) := by omega
          have hlei2 : ¬ (r : Int) ≤ (rep : Int) := by omega
          obtain ⟨k2, hk2'⟩ : ∃ x, x = s + rep := ⟨_, rfl⟩
          have hk2i : (s : Int) + (rep : Int) = (k2 : Int) := by omega
          have hk2m : k2 ≤ m := by omega
          have Hk2 := Lib.hid hk2'
          clear hk2'
          go_wp2
          go_roundw
          case rel =>
            have hc2 : Blk (wr.setCell ⟨B.t, 3, none⟩ (.int .i32 0)) B.t (decCells B.q B.W cur (rep - rep) 0) := by
              rw [Nat.sub_self]; exact HT.out.set 3 (.int .i32 ((0 : Nat) : Int))
            obtain ⟨e1, e2⟩ := HS.out.takeRep (b := rep) (S := [B.t]) Hrep0.out (Nat.le_refl _) hc2 ((Keep.refl [B.t] wr).set (by simp) _ _ _) (by simp; exact Ne.symm tq) (by simp; exact Ne.symm tx) (by simp; exact Ne.symm td) (by simp; exact Ne.symm te)
            rw [List.drop_drop, ← Hk2.out] at e1
            exact ⟨k2, hk2m, rfl, kk.set (by simp) _ _ _, ⟨_, _, _, _, _, _, e1⟩⟩
          case measure =>
            have h1 := idle_le B.t (wr.setCell ⟨B.t, 3, none⟩ (.int .i32 0))
            have h2 := Hk2.out
            have h3 := Hrep0.out
            simp only [intOf, Int.toNat_natCast]
            omega
        · have hlei : ¬ (rep : Int) < (r : Int) := by omega
          have hlei2 : (r : Int) ≤ (rep : Int) := by omega
          obtain ⟨rep2, hrep2⟩ : ∃ x, x = rep - r := ⟨_, rfl⟩
          have hrep2i : (rep : Int) - (r : Int) = (rep2 : Int) := by omega
          have hk2i : (s : Int) + (r : Int) = (m : Int) := by omega
          have Hrep2 := Lib.hid hrep2
          clear hrep2
          go_wp2
          go_roundw
          case rel =>
            have hc2 : Blk (wr.setCell ⟨B.t, 3, none⟩ (.int .i32 (rep2 : Int))) B.t (decCells B.q B.W cur (rep - r) 0) := by
              rw [← Hrep2.out]; exact HT.out.set 3 (.int .i32 (rep2 : Int))
            obtain ⟨e1, e2⟩ := HS.out.takeRep (b := r) (S := [B.t]) Hrep0.out (by omega) hc2 ((Keep.refl [B.t] wr).set (by simp) _ _ _) (by simp; exact Ne.symm tq) (by simp; exact Ne.symm tx) (by simp; exact Ne.symm td) (by simp; exact Ne.symm te)
            rw [List.drop_drop, hrm] at e1
            exact ⟨m, Nat.le_refl _, rfl, kk.set (by simp) _ _ _, ⟨_, _, _, _, _, _, e1⟩⟩
          case measure =>
            have h1 := idle_le B.t (wr.setCell ⟨B.t, 3, none⟩ (.int .i32 (rep2 : Int)))
            simp only [intOf, Int.toNat_natCast]
            omega
      · have hr0' : rep = 0 := by omega
        subst hr0'
        by_cases hlit0 : 0 < lit
        · have hliti : (0 : Int) < (lit : Int) := by omega
          obtain ⟨bo, bi, hBR, hbi64, hpP, hPn, hLe⟩ : ∃ bo bi, BRF wr B.q B.x B.d B.o B.n B.cap B.ea B.D bo bi ∧ bi ≤ 64 ∧ 8 * bo + bi + B.W * lit = 8 * P ∧ P ≤ B.n ∧ L.drop s = bitVals B.D (8 * bo + bi) B.W lit ++ valsR rs := by
            rcases hS.st with h | ⟨_, _, bo, bi, h⟩
            · omega
            · exact ⟨bo, bi, h⟩
          obtain ⟨p, hpp⟩ : ∃ p, 8 * bo + bi = p := ⟨_, rfl⟩
          rw [hpp] at hpP hLe
          have HT := Lib.hid hS.cells
          have HS := Lib.hid hS
          have HBR := Lib.hid hBR
          have HpP := Lib.hid hpP
          have HPn := Lib.hid hPn
          have HLe := Lib.hid hLe
          have Hpp := Lib.hid hpp
          clear hS hBR hpP hPn hLe hpp
          by_cases hle : lit < r
          · have hlei : (lit : Int) < (r : Int) := by omega
            have hlei2 : ¬ (r : Int) ≤ (lit : Int) := by omega
            obtain ⟨k2, hk2'⟩ : ∃ x, x = s + lit := ⟨_, rfl⟩
            have hk2i : (s : Int) + (lit : Int) = (k2 : Int) := by omega
            have hk2m : k2 ≤ m := by omega
            have Hk2 := Lib.hid hk2'
            clear hk2'
            go_wp2_with fail
            refine wp_region_mid 10 (by kernel_rfl) (by kernel_rfl) ?_
            simp only [List.take_succ_cons, List.take_zero, List.drop_succ_cons, List.drop_zero]
            change wpStill _ _ (World.drew _) _ _ _
            repeat still_step
            refine wpStill_nil ?_
            go_wp2_with fail
            refine (discardC B.q B.x B.d B.o B.n B.cap B.ea B.D bo bi lit B.W p _ (BR.drew HBR.out) hbi64 Hpp.out W0 W64 (by omega) (by omega) n8 (by have := HpP.out; have : B.W * lit ≤ B.W * lit := Nat.mul_le_mul_left _ (by omega); have := HPn.out; omega)).mono ?_
            rintro e w2 ⟨rfl, k2, bo2, bi2, hp2, hb2, hB2⟩
            have kd2 : Keep [B.q] wr w2 := (Keep.refl [B.q] wr).drew.trans k2 (fun x hx => .inl hx)
            have hT2 := HT.out.keep kd2 (by simp; exact tq)
            have c4 := hT2.cell (i := 4) rfl
            have cf := hT2.unfrozen
            have HT2 := Lib.hid hT2
            have HB2 := Lib.hid hB2
            have Hp2 := Lib.hid hp2
            have KK2 : Keep [B.t, B.q] w w2 := kk.trans kd2 (by simp)
            clear hT2 hB2 hp2 k2
            go_wp2_with fail
            repeat still_step
            refine wpStill_nil ?_
            go_wp2
            go_roundw
            case rel =>
              have hc2 : Blk (w2.setCell ⟨B.t, 4, none⟩ (.int .i32 0)) B.t (decCells B.q B.W cur 0 (lit - lit)) := by
                rw [Nat.sub_self]; exact HT2.out.set 4 (.int .i32 ((0 : Nat) : Int))
              have Ks : Keep [B.t] w2 (w2.setCell ⟨B.t, 4, none⟩ (.int .i32 0)) := (Keep.refl [B.t] w2).set (by simp) _ _ _
              obtain ⟨e1, e2⟩ := DecSt.takeLit (w := wr) (rep := 0) (bo := bo) (bi := bi) Hok.out HS.out.rsOk HS.out.runs HS.out.litB HS.out.curB (Nat.le_refl lit) HpP.out HPn.out HLe.out hc2 (BR.keep HB2.out Ks (by simp; exact Ne.symm tq) (by simp; exact Ne.symm tx) (by simp; exact Ne.symm td) (by simp; exact Ne.symm te)) hb2 Hp2.out
              rw [List.drop_drop, ← Hk2.out] at e1
              exact ⟨k2, hk2m, rfl, KK2.set (by simp) _ _ _, ⟨_, _, _, _, _, _, e1⟩⟩
            case measure =>
              have h1 := idle_le B.t (w2.setCell ⟨B.t, 4, none⟩ (.int .i32 0))
              have h2 := Hk2.out
              simp only [intOf, Int.toNat_natCast]
              omega
          · have hlei : ¬ (lit : Int) < (r : Int) := by omega
            have hlei2 : (r : Int) ≤ (lit : Int) := by omega
            obtain ⟨lit2, hlit2⟩ : ∃ x, x = lit - r := ⟨_, rfl⟩
            have hlit2i : (lit : Int) - (r : Int) = (lit2 : Int) := by omega
            have hk2i : (s : Int) + (r : Int) = (m : Int) := by omega
            have Hlit2 := Lib.hid hlit2
            clear hlit2
            go_wp2_with fail
            refine wp_region_mid 10 (by kernel_rfl) (by kernel_rfl) ?_
            simp only [List.take_succ_cons, List.take_zero, List.drop_succ_cons, List.drop_zero]
            change wpStill _ _ (World.drew _) _ _ _
            repeat still_step
            refine wpStill_nil ?_
            go_wp2_with fail
            refine (discardC B.q B.x B.d B.o B.n B.cap B.ea B.D bo bi r B.W p _ (BR.drew HBR.out) hbi64 Hpp.out W0 W64 (by omega) (by omega) n8 (by have := HpP.out; have : B.W * r ≤ B.W * lit := Nat.mul_le_mul_left _ (by omega); have := HPn.out; omega)).mono ?_
            rintro e w2 ⟨rfl, k2, bo2, bi2, hp2, hb2, hB2⟩
            have kd2 : Keep [B.q] wr w2 := (Keep.refl [B.q] wr).drew.trans k2 (fun x hx => .inl hx)
            have hT2 := HT.out.keep kd2 (by simp; exact tq)
            have c4 := hT2.cell (i := 4) rfl
            have cf := hT2.unfrozen
            have HT2 := Lib.hid hT2
            have HB2 := Lib.hid hB2
            have Hp2 := Lib.hid hp2
            have KK2 : Keep [B.t, B.q] w w2 := kk.trans kd2 (by simp)
            clear hT2 hB2 hp2 k2
            go_wp2_with fail
            repeat still_step
            refine wpStill_nil ?_
            go_wp2
            go_roundw
            case rel =>
              have hc2 : Blk (w2.setCell ⟨B.t, 4, none⟩ (.int .i32 (lit2 : Int))) B.t (decCells B.q B.W cur 0 (lit - r)) := by
                rw [← Hlit2.out]; exact HT2.out.set 4 (.int .i32 (lit2 : Int))
              have Ks : Keep [B.t] w2 (w2.setCell ⟨B.t, 4, none⟩ (.int .i32 (lit2 : Int))) := (Keep.refl [B.t] w2).set (by simp) _ _ _
              obtain ⟨e1, e2⟩ := DecSt.takeLit (w := wr) (rep := 0) (bo := bo) (bi := bi) (b := r) Hok.out HS.out.rsOk HS.out.runs HS.out.litB HS.out.curB (by omega) HpP.out HPn.out HLe.out hc2 (BR.keep HB2.out Ks (by simp; exact Ne.symm tq) (by simp; exact Ne.symm tx) (by simp; exact Ne.symm td) (by simp; exact Ne.symm te)) hb2 Hp2.out
              rw [List.drop_drop, hrm] at e1
              exact ⟨m, Nat.le_refl _, rfl, KK2.set (by simp) _ _ _, ⟨_, _, _, _, _, _, e1⟩⟩
            case measure =>
              have h1 := idle_le B.t (w2.setCell ⟨B.t, 4, none⟩ (.int .i32 (lit2 : Int)))
              simp only [intOf, Int.toNat_natCast]
              omega
        · have hl0 : lit = 0 := by omega
          subst hl0
          have hne : L.drop s ≠ [] := by
            intro h
            have := congrArg List.length h
            simp at this
            have := HL.out
            omega
          have hid1 := hS.idle_one
          have HS := Lib.hid hS
          have Hid1 := Lib.hid hid1
          clear hS hid1
          go_wp2_with fail
          refine (HS.out.next hne).mono ?_
          rintro e w2 ⟨rfl, k2, cur', rep', lit', P', rs', hpos, hS2⟩
          have KK2 : Keep [B.t, B.q] w w2 := kk.trans k2 (by simp)
          have hid2 := hS2.idle_zero hpos
          have HS2 := Lib.hid hS2
          have Hid2 := Lib.hid hid2
          clear hS2 hid2 k2 c0 c1 c2 c3 c4 cf
          go_wp2
          go_roundw
          case rel => exact ⟨s, hk, rfl, KK2, ⟨_, _, _, _, _, _, HS2.out⟩⟩
          case measure => rw [Hid1.out, Hid2.out]; simp only [intOf]; omega
    · have hkm : s = m := by omega
      subst hkm
      have HD := Lib.hid hD
      clear hD
      go_wp2
      go_ret
      exact ⟨rfl, kk, HD.out⟩
end Go.Proofs.YtlolcgklcnechaaGreatDoor
