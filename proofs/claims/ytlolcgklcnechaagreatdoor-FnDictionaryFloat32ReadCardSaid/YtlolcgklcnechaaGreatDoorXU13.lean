/- RleDecoder.GetBatch, RleDecoder.Discard. RleDecoder.Discard. How a decoder is made; impl.rleBatch. -/
import Derived.Test.YtlolcgklcnechaaGreatDoorXU12
import Derived.Test.YtlolcgklcnechaaGreatDoorXP2
import Derived.Test.YtlolcgklcnechaaGreatDoorOwn
set_option linter.unusedVariables false
set_option linter.unusedSimpArgs false
namespace Go.Proofs.YtlolcgklcnechaaGreatDoor
open Go.RowKit

open Classical in
/-- 1 where a decoder stands between two runs. -/
noncomputable def idle (t : Nat) (w : World) : Nat := if w.cell? ⟨t, 3, none⟩ = some (.int .i32 0) ∧ w.cell? ⟨t, 4, none⟩ = some (.int .i32 0) then 1 else 0
theorem idle_le (t : Nat) (w : World) : idle t w ≤ 1 := by unfold idle; split <;> omega

theorem DecSt.cell {B : DecB} {w : World} {L : List Nat} {cur rep lit P : Nat} {rs : List Rn} {rest : List Nat} (h : DecSt B w L cur rep lit P rs rest) :
    w.cell? ⟨B.t, 0, none⟩ = some (.pointer (some ⟨B.q, 0, none⟩)) ∧ w.cell? ⟨B.t, 1, none⟩ = some (.int .i64 (B.W : Int)) ∧ w.cell? ⟨B.t, 2, none⟩ = some (.int .u64 (cur : Int)) ∧
      w.cell? ⟨B.t, 3, none⟩ = some (.int .i32 (rep : Int)) ∧ w.cell? ⟨B.t, 4, none⟩ = some (.int .i32 (lit : Int)) ∧ ∀ i, w.frozen? ⟨B.t, i, none⟩ = false :=
  ⟨h.cells.cell (i := 0) rfl, h.cells.cell (i := 1) rfl, h.cells.cell (i := 2) rfl, h.cells.cell (i := 3) rfl, h.cells.cell (i := 4) rfl, h.cells.unfrozen⟩

theorem DecSt.idle_one {B : DecB} {w : World} {L : List Nat} {cur P : Nat} {rs : List Rn} {rest : List Nat} (h : DecSt B w L cur 0 0 P rs rest) : idle B.t w = 1 := by
  unfold idle
  rw [if_pos ⟨h.cell.2.2.2.1, h.cell.2.2.2.2.1⟩]

theorem DecSt.idle_zero {B : DecB} {w : World} {L : List Nat} {cur rep lit P : Nat} {rs : List Rn} {rest : List Nat} (h : DecSt B w L cur rep lit P rs rest) (h0 : 0 < rep ∨ 0 < lit) : idle B.t w = 0 := by
  unfold idle
  rw [if_neg]
  rintro ⟨h1, h2⟩
  rw [h.cell.2.2.2.1] at h1
  rw [h.cell.2.2.2.2.1] at h2
  simp at h1 h2
  omega

/-- Some of a repeated value are taken. -/
theorem DecSt.takeRep {B : DecB} {w w' : World} {L : List Nat} {cur rep lit P b : Nat} {rs : List Rn} {rest : List Nat} {S : List Nat} (h : DecSt B w L cur rep lit P rs rest) (h0 : 0 < rep) (hb : b ≤ rep)
    (hc : Blk w' B.t (decCells B.q B.W cur (rep - b) 0)) (k : Keep S w w') (hq : B.q ∉ S) (hx : B.x.b ∉ S) (hd : B.d ∉ S) (he : 4 ∉ S) :
    DecSt B w' (L.drop b) cur (rep - b) 0 P rs rest ∧ L.take b = List.replicate b cur := by
  obtain ⟨h1, h2, h3, h4, h5, h6, h7, h8⟩ := h
  rcases h8 with ⟨a1, a2, rfl⟩ | ⟨a1, _⟩
  · refine ⟨⟨h1, hc, h3, h4, by omega, by omega, h7, .inl ⟨rfl, a2.keep k hq hx hd he, ?_⟩⟩, ?_⟩
    · rw [List.drop_append_of_le_length (by simpa using hb), List.drop_replicate]
    · rw [List.take_append_of_le_length (by simpa using hb), List.take_replicate, Nat.min_eq_left hb]
  · omega

/-- Some of a group's values are taken. -/
theorem DecSt.takeLit {B : DecB} {w' : World} {w : World} {L : List Nat} {cur rep lit P b bo bi bo' bi' p : Nat} {rs : List Rn} {rest : List Nat} (h1 : B.Ok) (h3 : ∀ r ∈ rs, Rn.Ok B.W r) (h4 : B.D.drop P = encR B.W rs ++ rest) (h6 : lit < 1000000)
    (h7 : cur < 18446744073709551616) (hb : b ≤ lit) (hpP : p + B.W * lit = 8 * P) (hPn : P ≤ B.n) (hL : L = bitVals B.D p B.W lit ++ valsR rs)
    (hc : Blk w' B.t (decCells B.q B.W cur 0 (lit - b))) (hB : BRF w' B.q B.x B.d B.o B.n B.cap B.ea B.D bo' bi') (hbi' : bi' ≤ 64) (hp' : 8 * bo' + bi' = p + B.W * b) :
    DecSt B w' (L.drop b) cur 0 (lit - b) P rs rest ∧ L.take b = bitVals B.D p B.W b := by
  have e : bitVals B.D p B.W lit = bitVals B.D p B.W b ++ bitVals B.D (p + B.W * b) B.W (lit - b) := by
    rw [← bitVals_add, Nat.add_sub_cancel' hb]
  have e2 : B.W * lit = B.W * b + B.W * (lit - b) := by rw [← Nat.mul_add, Nat.add_sub_cancel' hb]
  have hd : L.drop b = bitVals B.D (p + B.W * b) B.W (lit - b) ++ valsR rs := by
    rw [hL, e, List.append_assoc, List.drop_left' (by simp)]
  have ht : L.take b = bitVals B.D p B.W b := by
    rw [hL, e, List.append_assoc, List.take_left' (by simp)]
  refine ⟨⟨h1, hc, h3, h4, by omega, by omega, h7, ?_⟩, ht⟩
  by_cases hl : lit - b = 0
  · rw [hl, Nat.mul_zero] at e2
    refine .inl ⟨hl, ⟨_, bo', bi', _, hB, hbi', by omega⟩, ?_⟩
    rw [hd, hl]; simp [bitVals]
  · exact .inr ⟨rfl, by omega, bo', bi', hB, hbi', by omega, hPn, by rw [hd, hp']⟩

theorem splice_then {α : Type} (cs X Y : List α) (o : Nat) (h : o + X.length + Y.length ≤ cs.length) : splice (splice cs o X) (o + X.length) Y = splice cs o (X ++ Y) := by
  have e1 : (cs.take o).length = o := by simp; omega
  unfold splice
  have e2 : (cs.take o ++ (X ++ cs.drop (o + X.length))).take (o + X.length) = cs.take o ++ X := by
    rw [← List.append_assoc, List.take_left' (by simp; omega)]
  have e3 : (cs.take o ++ (X ++ cs.drop (o + X.length))).drop (o + X.length + Y.length) = cs.drop (o + (X ++ Y).length) := by
    rw [← List.append_assoc, ← List.drop_drop, List.drop_left' (by simp; omega), List.drop_drop, List.length_append, Nat.add_assoc]
  simp only [List.append_assoc] at e2 e3 ⊢
  rw [e2, e3]
  simp

theorem Blk.layOne {w : World} {v vo : Nat} {vcs : List Value} {A : List Nat} (h : Blk w v (splice vcs vo (rowV .u64 A))) (x : Nat) (hk : vo + A.length < vcs.length) (i : Nat) (hi : i = vo + A.length) :
    Blk (w.setCell ⟨v, i, none⟩ (.int .u64 (x : Int))) v (splice vcs vo (rowV .u64 (A ++ [x]))) := by
  subst hi
  have := h.set (vo + A.length) (.int .u64 (x : Int))
  have e := splice_next vcs (rowV .u64 A) vo (.int .u64 (x : Int)) (by simpa using hk)
  simp only [length_rowV] at e
  rw [e] at this
  rw [rowV_append]
  exact this
theorem Blk.layOneCell {w : World} {v vo : Nat} {vcs : List Value} {A : List Nat} (h : Blk w v (splice vcs vo (rowV .u64 A))) (i : Nat) (hA : vo + A.length ≤ vcs.length) (hk : i < vcs.length) : ∃ u, w.cell? ⟨v, i, none⟩ = some u := by
  have hl : i < (splice vcs vo (rowV .u64 A)).length := by rw [length_splice _ _ _ (by simp; omega)]; exact hk
  exact ⟨_, h.cell (List.getElem?_eq_getElem hl)⟩



set_option maxRecDepth 100000 in
set_option maxHeartbeats 4000000 in
/-- RleDecoder.GetBatch. -/
theorem decGetBatch (B : DecB) (L : List Nat) (v vo m vc : Nat) (vcs : List Value) (w : World) (h : DecAt B w L) (hv : Blk w v vcs) (vt : v ≠ B.t) (vq : v ≠ B.q) (vx : v ≠ B.x.b) (vd : v ≠ B.d) (ve : v ≠ 4)
    (hvo : vo + m ≤ vcs.length) (hmL : m ≤ L.length) (hm : m ≤ 1000000) (hmc : m ≤ vc) :
    Calls Tryz.prog 94 #[.pointer (some ⟨B.t, 0, none⟩), .slice (some ⟨v, vo, none⟩) m vc] w fun e w' =>
      e = .returned (.tuple #[.int .i64 (m : Int), .nilIface]) ∧ Keep [B.t, B.q, B.x, v] w w' ∧ DecAt B w' (L.drop m) ∧ Blk w' v (splice vcs vo (rowV .u64 (L.take m))) := by
  have hv0 : Blk w v (splice vcs vo (rowV .u64 (L.take 0))) := by simpa [splice, rowV] using hv
  have ok : B.Ok := by obtain ⟨_, _, _, _, _, _, h⟩ := h; exact h.ok
  have Hok := Lib.hid ok
  obtain ⟨tq, tx, td, te, W0, W64, n8⟩ := ok
  have HL := Lib.hid hmL
  clear hv hmL
  go_enter Tryz.func94, Tryz.ntmps94
  go_wp2_with fail
  go_loopw [6, 8] (fun i o wr => ∃ k s r c : Nat, k ≤ m ∧ i = .int .i64 (k : Int) ∧ o = .slice (some ⟨v, vo + s, none⟩) r c ∧ r = m - k ∧ c = vc - k ∧ (k < m → s = k) ∧ Keep [B.t, B.q, B.x, v] w wr ∧ DecAt B wr (L.drop k) ∧ Blk wr v (splice vcs vo (rowV .u64 (L.take k))))
    (fun i _ wr => 2 * (m - (intOf i).toNat) + idle B.t wr)
  case atStart => exact ⟨0, 0, m, vc, Nat.zero_le _, rfl, rfl, rfl, rfl, fun _ => rfl, Keep.refl _ _, by simpa using h, hv0⟩
  case round =>
    obtain ⟨k, s, r, c, hk, rfl, rfl, hr, hc, hs, kk, hD, hV⟩ := hrel
    by_cases hk2 : k < m
    · have hsk := hs hk2
      subst hsk
      obtain ⟨cur, rep, lit, P, rs, rest, hS⟩ := hD
      obtain ⟨c0, c1, c2, c3, c4, cf⟩ := hS.cell
      have hri : (m : Int) - (s : Int) = (r : Int) := by omega
      have hrc : r ≤ c := by omega
      have hr0 : 0 < r := by omega
      have hrm : s + r = m := by omega
      have hsL : s ≤ L.length := by have := HL.out; omega
      have hAl : (L.take s).length = s := by simp; omega
      have HAl := Lib.hid hAl
      have hrepb := hS.repB
      have hlitb := hS.litB
      have Hc := Lib.hid hc
      clear hs hr hc hAl
      by_cases hrep0 : 0 < rep
      · have hrepi : (0 : Int) < (rep : Int) := by omega
        have hlit0 : lit = 0 := by rcases hS.st with h | h <;> omega
        have hcT := hS.cells
        rw [hlit0] at hcT
        have HT := Lib.hid hcT
        have Hlit0 := Lib.hid hlit0
        have Hrep0 := Lib.hid hrep0
        have HS := Lib.hid hS
        clear hlit0 hcT hrep0 hS
        by_cases hle : rep < r
        · have hlei : (rep : Int) < (r : Int) := by omega
          have hlei2 : ¬ (r : Int) ≤ (rep : Int) := by omega
          obtain ⟨k2, hk2'⟩ : ∃ x, x = s + rep := ⟨_, rfl⟩
          have hk2i : (s : Int) + (rep : Int) = (k2 : Int) := by omega
          have hk2m : k2 ≤ m := by omega
          have hcr : ¬ c = rep := by omega
          have Hk2 := Lib.hid hk2'
          clear hk2'
          go_wp2_with fail
          go_loopw [11] (fun i wr2 => ∃ j : Nat, j ≤ rep ∧ i = .int .i64 (j : Int) ∧ Keep [v] wr wr2 ∧ Blk wr2 v (splice vcs vo (rowV .u64 (L.take s ++ List.replicate j cur)))) (fun i _ => rep - (intOf i).toNat)
          case atStart => exact ⟨0, Nat.zero_le _, rfl, Keep.refl _ _, by simpa using hV⟩
          case round =>
            obtain ⟨j, hj, rfl, kj, hVj⟩ := hrel
            have hTj := HT.out.keep kj (by simp; exact Ne.symm vt)
            have c2 := hTj.cell (i := 2) rfl
            have c3 := hTj.cell (i := 3) rfl
            have cf := hTj.unfrozen
            have HTj := Lib.hid hTj
            by_cases hj2 : j < rep
            · have hjr : (j : Int) < (r : Int) := by omega
              have hAj : (L.take s ++ List.replicate j cur).length = s + j := by rw [List.length_append, HAl.out]; simp
              obtain ⟨u, hcu⟩ := hVj.layOneCell (vo + s + j) (by rw [hAj]; omega) (by omega)
              have hfv := hVj.unfrozen
              have HVj := Lib.hid hVj
              have HAj := Lib.hid hAj
              clear hVj hTj hAj
              go_wp2
              go_roundw
              case rel =>
                refine ⟨j + 1, hj2, by go_num, kj.set (by simp) _ _ _, ?_⟩
                have := HVj.out.layOne cur (by rw [HAj.out]; omega) (vo + s + j) (by rw [HAj.out]; omega)
                rw [List.append_assoc, ← List.replicate_succ'] at this
                exact this
              case measure => simp [intOf]; omega
            · have hjb : j = rep := by omega
              subst hjb
              have HVj := Lib.hid hVj
              have Hkj := Lib.hid kj
              clear hVj hTj kj
              go_wp2
              go_roundw
              case rel =>
                have hc2 : Blk (wr.setCell ⟨B.t, 3, none⟩ (.int .i32 0)) B.t (decCells B.q B.W cur (j - j) 0) := by
                  rw [Nat.sub_self]; exact HTj.out.set 3 (.int .i32 ((0 : Nat) : Int))
                obtain ⟨e1, e2⟩ := HS.out.takeRep (b := j) (S := [B.t, v]) Hrep0.out (Nat.le_refl _) hc2 ((Hkj.out.weaken (S' := [B.t, v]) (by simp)).set (by simp) _ _ _) (by simp; exact ⟨Ne.symm tq, Ne.symm vq⟩) (by simp; exact ⟨Ne.symm tx, Ne.symm vx⟩) (by simp; exact ⟨Ne.symm td, Ne.symm vd⟩) (by simp; exact ⟨Ne.symm te, Ne.symm ve⟩)
                have hV2 := HVj.out.set_other (c := B.t) vt 3 none (.int .i32 0)
                rw [List.drop_drop, ← Hk2.out] at e1
                rw [← e2, ← List.take_add, ← Hk2.out] at hV2
                exact ⟨k2, k2, r - j, c - j, hk2m, rfl, by rw [Hk2.out, Nat.add_assoc], by have := Hk2.out; omega, by have := Hk2.out; have := Hc.out; omega, fun _ => rfl, (kk.trans Hkj.out (by simp)).set (by simp) _ _ _, ⟨_, _, _, _, _, _, e1⟩, hV2⟩
              case measure =>
                have h1 := idle_le B.t (wr.setCell ⟨B.t, 3, none⟩ (.int .i32 0))
                have h2 := Hk2.out
                have h3 := Hrep0.out
                simp only [intOf, Int.toNat_natCast]
                omega
        · have hlei : ¬ (rep : Int) < (r : Int) := by omega
          have hlei2 : (r : Int) ≤ (rep : Int) := by omega
          obtain ⟨rep2, hrep2⟩ : ∃ x, x = rep - r := ⟨_, rfl⟩
          have hrep2i : (rep : Int) - (r : Int) = (rep2 : Int) := by omega
          have hk2i : (s : Int) + (r : Int) = (m : Int) := by omega
          have Hrep2 := Lib.hid hrep2
          clear hrep2
          go_wp2_with fail
          go_loopw [11] (fun i wr2 => ∃ j : Nat, j ≤ r ∧ i = .int .i64 (j : Int) ∧ Keep [v] wr wr2 ∧ Blk wr2 v (splice vcs vo (rowV .u64 (L.take s ++ List.replicate j cur)))) (fun i _ => r - (intOf i).toNat)
          case atStart => exact ⟨0, Nat.zero_le _, rfl, Keep.refl _ _, by simpa using hV⟩
          case round =>
            obtain ⟨j, hj, rfl, kj, hVj⟩ := hrel
            have hTj := HT.out.keep kj (by simp; exact Ne.symm vt)
            have c2 := hTj.cell (i := 2) rfl
            have c3 := hTj.cell (i := 3) rfl
            have cf := hTj.unfrozen
            have HTj := Lib.hid hTj
            by_cases hj2 : j < r
            · have hjr : (j : Int) < (r : Int) := by omega
              have hAj : (L.take s ++ List.replicate j cur).length = s + j := by rw [List.length_append, HAl.out]; simp
              obtain ⟨u, hcu⟩ := hVj.layOneCell (vo + s + j) (by rw [hAj]; omega) (by omega)
              have hfv := hVj.unfrozen
              have HVj := Lib.hid hVj
              have HAj := Lib.hid hAj
              clear hVj hTj hAj
              go_wp2
              go_roundw
              case rel =>
                refine ⟨j + 1, hj2, by go_num, kj.set (by simp) _ _ _, ?_⟩
                have := HVj.out.layOne cur (by rw [HAj.out]; omega) (vo + s + j) (by rw [HAj.out]; omega)
                rw [List.append_assoc, ← List.replicate_succ'] at this
                exact this
              case measure => simp [intOf]; omega
            · have hjb : j = r := by omega
              subst hjb
              have HVj := Lib.hid hVj
              have Hkj := Lib.hid kj
              clear hVj hTj kj
              by_cases hcb : c = j
              · go_wp2
                go_roundw
                case rel =>
                  have hc2 : Blk (wr.setCell ⟨B.t, 3, none⟩ (.int .i32 (rep2 : Int))) B.t (decCells B.q B.W cur (rep - j) 0) := by
                    rw [← Hrep2.out]; exact HTj.out.set 3 (.int .i32 (rep2 : Int))
                  obtain ⟨e1, e2⟩ := HS.out.takeRep (b := j) (S := [B.t, v]) Hrep0.out (by omega) hc2 ((Hkj.out.weaken (S' := [B.t, v]) (by simp)).set (by simp) _ _ _) (by simp; exact ⟨Ne.symm tq, Ne.symm vq⟩) (by simp; exact ⟨Ne.symm tx, Ne.symm vx⟩) (by simp; exact ⟨Ne.symm td, Ne.symm vd⟩) (by simp; exact ⟨Ne.symm te, Ne.symm ve⟩)
                  have hV2 := HVj.out.set_other (c := B.t) vt 3 none (.int .i32 (rep2 : Int))
                  rw [List.drop_drop, hrm] at e1
                  rw [← e2, ← List.take_add, hrm] at hV2
                  exact ⟨m, s, 0, 0, Nat.le_refl _, rfl, rfl, by omega, by have := Hc.out; omega, fun h => by omega, (kk.trans Hkj.out (by simp)).set (by simp) _ _ _, ⟨_, _, _, _, _, _, e1⟩, hV2⟩
                case measure =>
                  have h1 := idle_le B.t (wr.setCell ⟨B.t, 3, none⟩ (.int .i32 (rep2 : Int)))
                  simp only [intOf, Int.toNat_natCast]
                  omega
              · go_wp2
                go_roundw
                case rel =>
                  have hc2 : Blk (wr.setCell ⟨B.t, 3, none⟩ (.int .i32 (rep2 : Int))) B.t (decCells B.q B.W cur (rep - j) 0) := by
                    rw [← Hrep2.out]; exact HTj.out.set 3 (.int .i32 (rep2 : Int))
                  obtain ⟨e1, e2⟩ := HS.out.takeRep (b := j) (S := [B.t, v]) Hrep0.out (by omega) hc2 ((Hkj.out.weaken (S' := [B.t, v]) (by simp)).set (by simp) _ _ _) (by simp; exact ⟨Ne.symm tq, Ne.symm vq⟩) (by simp; exact ⟨Ne.symm tx, Ne.symm vx⟩) (by simp; exact ⟨Ne.symm td, Ne.symm vd⟩) (by simp; exact ⟨Ne.symm te, Ne.symm ve⟩)
                  have hV2 := HVj.out.set_other (c := B.t) vt 3 none (.int .i32 (rep2 : Int))
                  rw [List.drop_drop, hrm] at e1
                  rw [← e2, ← List.take_add, hrm] at hV2
                  exact ⟨m, s + j, 0, c - j, Nat.le_refl _, rfl, by rw [Nat.add_assoc], by omega, by have := Hc.out; omega, fun h => by omega, (kk.trans Hkj.out (by simp)).set (by simp) _ _ _, ⟨_, _, _, _, _, _, e1⟩, hV2⟩
                case measure =>
                  have h1 := idle_le B.t (wr.setCell ⟨B.t, 3, none⟩ (.int .i32 (rep2 : Int)))
                  simp only [intOf, Int.toNat_natCast]
                  omega
      · have hr0' : rep = 0 := by omega
        subst hr0'
        by_cases hlit0 : 0 < lit
        · have hliti : (0 : Int) < (lit : Int) := by omega
          obtain ⟨bo, bi, hBR, hbi64, hpP, hPn, hLe⟩ : ∃ bo bi, BRF wr B.q B.x B.d B.o B.n B.cap B.ea B.D bo bi ∧ bi ≤ 64 ∧ 8 * bo + bi + B.W * lit = 8 * P ∧ P ≤ B.n ∧ L.drop s = bitVals B.D (8 * bo + bi) B.W lit ++ valsR rs := by
            rcases hS.st with h | ⟨_, _, bo, bi, h⟩
            · omega
            · exact ⟨bo, bi, h⟩
          obtain ⟨p, hpp⟩ : ∃ p, 8 * bo + bi = p := ⟨_, rfl⟩
          rw [hpp] at hpP hLe
          have HT := Lib.hid hS.cells
          have HS := Lib.hid hS
          have HBR := Lib.hid hBR
          have HpP := Lib.hid hpP
          have HPn := Lib.hid hPn
          have HLe := Lib.hid hLe
          have Hpp := Lib.hid hpp
          have HV := Lib.hid hV
          have hc0 : ¬ c = 0 := by omega
          clear hS hBR hpP hPn hLe hpp hV
          by_cases hle : lit < r
          · have hlei : (lit : Int) < (r : Int) := by omega
            have hlei2 : ¬ (r : Int) ≤ (lit : Int) := by omega
            obtain ⟨k2, hk2'⟩ : ∃ x, x = s + lit := ⟨_, rfl⟩
            have hk2i : (s : Int) + (lit : Int) = (k2 : Int) := by omega
            have hk2m : k2 ≤ m := by omega
            have hcr : ¬ c = lit := by omega
            have hlc : (lit : Int) ≤ (c : Int) := by omega
            have hlc2 : lit ≤ c := by omega
            have Hk2 := Lib.hid hk2'
            clear hk2'
            go_wp2_with fail
            refine wp_region_mid 12 (by kernel_rfl) (by kernel_rfl) ?_
            simp only [List.take_succ_cons, List.take_zero, List.drop_succ_cons, List.drop_zero]
            change wpStill _ _ (World.drew _) _ _ _
            repeat still_step
            refine wpStill_nil ?_
            go_wp2_with fail
            refine (getBatchC B.q B.x B.d B.o B.n B.cap B.ea B.D bo bi v (vo + s) lit c B.W p (splice vcs vo (rowV .u64 (L.take s))) _ (BR.drew HBR.out) hbi64 Hpp.out W0 W64 HV.out.drew vq vx vd ve (by rw [length_splice _ _ _ (by rw [length_rowV, HAl.out]; omega)]; omega) (by omega) (by omega) n8 (by have := HpP.out; have : B.W * lit ≤ B.W * lit := Nat.mul_le_mul_left _ (by omega); have := HPn.out; omega)).mono ?_
            rintro e w2 ⟨rfl, k2, bo2, bi2, hp2, hb2, hB2, hV2⟩
            have kd2 : Keep [B.q, B.x, v] wr w2 := (Keep.refl [B.q, B.x, v] wr).drew.trans k2 (fun x hx => .inl hx)
            have hT2 := HT.out.keep kd2 (by simp; exact ⟨tq, tx, Ne.symm vt⟩)
            have c4 := hT2.cell (i := 4) rfl
            have cf := hT2.unfrozen
            have HT2 := Lib.hid hT2
            have HB2 := Lib.hid hB2
            have HV2 := Lib.hid hV2
            have Hp2 := Lib.hid hp2
            have KK2 : Keep [B.t, B.q, B.x, v] w w2 := kk.trans kd2 (by simp)
            clear hT2 hB2 hV2 hp2 k2
            go_wp2_with fail
            repeat still_step
            refine wpStill_nil ?_
            go_wp2
            go_roundw
            case rel =>
              have hc2 : Blk (w2.setCell ⟨B.t, 4, none⟩ (.int .i32 0)) B.t (decCells B.q B.W cur 0 (lit - lit)) := by
                rw [Nat.sub_self]; exact HT2.out.set 4 (.int .i32 ((0 : Nat) : Int))
              have Ks : Keep [B.t] w2 (w2.setCell ⟨B.t, 4, none⟩ (.int .i32 0)) := (Keep.refl [B.t] w2).set (by simp) _ _ _
              obtain ⟨e1, e2⟩ := DecSt.takeLit (w := wr) (rep := 0) (bo := bo) (bi := bi) Hok.out HS.out.rsOk HS.out.runs HS.out.litB HS.out.curB (Nat.le_refl lit) HpP.out HPn.out HLe.out hc2 (BR.keep HB2.out Ks (by simp; exact Ne.symm tq) (by simp; exact Ne.symm tx) (by simp; exact Ne.symm td) (by simp; exact Ne.symm te)) hb2 Hp2.out
              have hV3 := HV2.out.set_other (c := B.t) vt 4 none (.int .i32 0)
              have hsp := splice_then vcs (rowV .u64 (L.take s)) (rowV .u64 (bitVals B.D p B.W lit)) vo (by rw [length_rowV, HAl.out]; simp; omega)
              rw [length_rowV, HAl.out] at hsp
              rw [hsp, ← rowV_append, ← e2, ← List.take_add, ← Hk2.out] at hV3
              rw [List.drop_drop, ← Hk2.out] at e1
              exact ⟨k2, k2, r - lit, c - lit, hk2m, rfl, by rw [Hk2.out, Nat.add_assoc], by have := Hk2.out; omega, by have := Hk2.out; have := Hc.out; omega, fun _ => rfl, KK2.set (by simp) _ _ _, ⟨_, _, _, _, _, _, e1⟩, hV3⟩
            case measure =>
              have h1 := idle_le B.t (w2.setCell ⟨B.t, 4, none⟩ (.int .i32 0))
              have h2 := Hk2.out
              simp only [intOf, Int.toNat_natCast]
              omega
          · have hlei : ¬ (lit : Int) < (r : Int) := by omega
            have hlei2 : (r : Int) ≤ (lit : Int) := by omega
            obtain ⟨lit2, hlit2⟩ : ∃ x, x = lit - r := ⟨_, rfl⟩
            have hlit2i : (lit : Int) - (r : Int) = (lit2 : Int) := by omega
            have hk2i : (s : Int) + (r : Int) = (m : Int) := by omega
            have hlc : (r : Int) ≤ (c : Int) := by omega
            have Hlit2 := Lib.hid hlit2
            clear hlit2
            go_wp2_with fail
            refine wp_region_mid 12 (by kernel_rfl) (by kernel_rfl) ?_
            simp only [List.take_succ_cons, List.take_zero, List.drop_succ_cons, List.drop_zero]
            change wpStill _ _ (World.drew _) _ _ _
            repeat still_step
            refine wpStill_nil ?_
            go_wp2_with fail
            refine (getBatchC B.q B.x B.d B.o B.n B.cap B.ea B.D bo bi v (vo + s) r c B.W p (splice vcs vo (rowV .u64 (L.take s))) _ (BR.drew HBR.out) hbi64 Hpp.out W0 W64 HV.out.drew vq vx vd ve (by rw [length_splice _ _ _ (by rw [length_rowV, HAl.out]; omega)]; omega) (by omega) (by omega) n8 (by have := HpP.out; have : B.W * r ≤ B.W * lit := Nat.mul_le_mul_left _ (by omega); have := HPn.out; omega)).mono ?_
            rintro e w2 ⟨rfl, k2, bo2, bi2, hp2, hb2, hB2, hV2⟩
            have kd2 : Keep [B.q, B.x, v] wr w2 := (Keep.refl [B.q, B.x, v] wr).drew.trans k2 (fun x hx => .inl hx)
            have hT2 := HT.out.keep kd2 (by simp; exact ⟨tq, tx, Ne.symm vt⟩)
            have c4 := hT2.cell (i := 4) rfl
            have cf := hT2.unfrozen
            have HT2 := Lib.hid hT2
            have HB2 := Lib.hid hB2
            have HV2 := Lib.hid hV2
            have Hp2 := Lib.hid hp2
            have KK2 : Keep [B.t, B.q, B.x, v] w w2 := kk.trans kd2 (by simp)
            clear hT2 hB2 hV2 hp2 k2
            go_wp2_with fail
            repeat still_step
            refine wpStill_nil ?_
            by_cases hcb : c = r
            · go_wp2
              go_roundw
              case rel =>
                have hc2 : Blk (w2.setCell ⟨B.t, 4, none⟩ (.int .i32 (lit2 : Int))) B.t (decCells B.q B.W cur 0 (lit - r)) := by
                  rw [← Hlit2.out]; exact HT2.out.set 4 (.int .i32 (lit2 : Int))
                have Ks : Keep [B.t] w2 (w2.setCell ⟨B.t, 4, none⟩ (.int .i32 (lit2 : Int))) := (Keep.refl [B.t] w2).set (by simp) _ _ _
                obtain ⟨e1, e2⟩ := DecSt.takeLit (w := wr) (rep := 0) (bo := bo) (bi := bi) (b := r) Hok.out HS.out.rsOk HS.out.runs HS.out.litB HS.out.curB (by omega) HpP.out HPn.out HLe.out hc2 (BR.keep HB2.out Ks (by simp; exact Ne.symm tq) (by simp; exact Ne.symm tx) (by simp; exact Ne.symm td) (by simp; exact Ne.symm te)) hb2 Hp2.out
                have hV3 := HV2.out.set_other (c := B.t) vt 4 none (.int .i32 (lit2 : Int))
                have hsp := splice_then vcs (rowV .u64 (L.take s)) (rowV .u64 (bitVals B.D p B.W r)) vo (by rw [length_rowV, HAl.out]; simp; omega)
                rw [length_rowV, HAl.out] at hsp
                rw [hsp, ← rowV_append, ← e2, ← List.take_add, hrm] at hV3
                rw [List.drop_drop, hrm] at e1
                exact ⟨m, s, 0, 0, Nat.le_refl _, rfl, rfl, by omega, by have := Hc.out; omega, fun h => by omega, KK2.set (by simp) _ _ _, ⟨_, _, _, _, _, _, e1⟩, hV3⟩
              case measure =>
                have h1 := idle_le B.t (w2.setCell ⟨B.t, 4, none⟩ (.int .i32 (lit2 : Int)))
                simp only [intOf, Int.toNat_natCast]
                omega
            · go_wp2
              go_roundw
              case rel =>
                have hc2 : Blk (w2.setCell ⟨B.t, 4, none⟩ (.int .i32 (lit2 : Int))) B.t (decCells B.q B.W cur 0 (lit - r)) := by
                  rw [← Hlit2.out]; exact HT2.out.set 4 (.int .i32 (lit2 : Int))
                have Ks : Keep [B.t] w2 (w2.setCell ⟨B.t, 4, none⟩ (.int .i32 (lit2 : Int))) := (Keep.refl [B.t] w2).set (by simp) _ _ _
                obtain ⟨e1, e2⟩ := DecSt.takeLit (w := wr) (rep := 0) (bo := bo) (bi := bi) (b := r) Hok.out HS.out.rsOk HS.out.runs HS.out.litB HS.out.curB (by omega) HpP.out HPn.out HLe.out hc2 (BR.keep HB2.out Ks (by simp; exact Ne.symm tq) (by simp; exact Ne.symm tx) (by simp; exact Ne.symm td) (by simp; exact Ne.symm te)) hb2 Hp2.out
                have hV3 := HV2.out.set_other (c := B.t) vt 4 none (.int .i32 (lit2 : Int))
                have hsp := splice_then vcs (rowV .u64 (L.take s)) (rowV .u64 (bitVals B.D p B.W r)) vo (by rw [length_rowV, HAl.out]; simp; omega)
                rw [length_rowV, HAl.out] at hsp
                rw [hsp, ← rowV_append, ← e2, ← List.take_add, hrm] at hV3
                rw [List.drop_drop, hrm] at e1
                exact ⟨m, s + r, 0, c - r, Nat.le_refl _, rfl, by rw [Nat.add_assoc], by omega, by have := Hc.out; omega, fun h => by omega, KK2.set (by simp) _ _ _, ⟨_, _, _, _, _, _, e1⟩, hV3⟩
              case measure =>
                have h1 := idle_le B.t (w2.setCell ⟨B.t, 4, none⟩ (.int .i32 (lit2 : Int)))
                simp only [intOf, Int.toNat_natCast]
                omega
        · have hl0 : lit = 0 := by omega
          subst hl0
          have hne : L.drop s ≠ [] := by
            intro h
            have := congrArg List.length h
            simp at this
            have := HL.out
            omega
          have hid1 := hS.idle_one
          have HV := Lib.hid hV
          have HS := Lib.hid hS
          have Hid1 := Lib.hid hid1
          clear hS hV hid1
          go_wp2_with fail
          refine (HS.out.next hne).mono ?_
          rintro e w2 ⟨rfl, k2, cur', rep', lit', P', rs', hpos, hS2⟩
          have KK2 : Keep [B.t, B.q, B.x, v] w w2 := kk.trans k2 (by simp)
          have hid2 := hS2.idle_zero hpos
          have HV2 := Lib.hid (HV.out.keep k2 (by simp; exact ⟨vq, vt⟩))
          have HS2 := Lib.hid hS2
          have Hid2 := Lib.hid hid2
          clear hS2 hid2 k2 c0 c1 c2 c3 c4 cf
          go_wp2
          go_roundw
          case rel => exact ⟨s, s, r, c, hk, rfl, rfl, by omega, Hc.out, fun _ => rfl, KK2, ⟨_, _, _, _, _, _, HS2.out⟩, HV2.out⟩
          case measure => rw [Hid1.out, Hid2.out]; simp only [intOf]; omega
    · have hkm : k = m := by omega
      subst hkm
      have HD := Lib.hid hD
      have HV := Lib.hid hV
      clear hD hV hs
      go_wp2
      go_ret2
      exact ⟨rfl, kk, HD.out, HV.out⟩
end Go.Proofs.YtlolcgklcnechaaGreatDoor
set_option linter.unusedVariables false
set_option linter.unusedSimpArgs false
namespace Go.Proofs.YtlolcgklcnechaaGreatDoor
open Go.RowKit


set_option maxRecDepth 100000 in
set_option maxHeartbeats 4000000 in
/-- RleDecoder.Discard. -/
theorem decDiscard (B : DecB) (L : List Nat) (m : Nat) (w : World) (h : DecAt B w L) (hmL : m ≤ L.length) (hm : m ≤ 1000000) :
    Calls Tryz.prog 44 #[.pointer (some ⟨B.t, 0, none⟩), .int .i64 (m : Int)] w fun e w' =>
      e = .returned (.int .i64 (m : Int)) ∧ Keep [B.t, B.q] w w' ∧ DecAt B w' (L.drop m) := by
  have ok : B.Ok := by obtain ⟨_, _, _, _, _, _, h⟩ := h; exact h.ok
  have Hok := Lib.hid ok
  obtain ⟨tq, tx, td, te, W0, W64, n8⟩ := ok
  have HL := Lib.hid hmL
  clear hmL
  go_enter Tryz.func44, Tryz.ntmps44
  go_wp2_with fail
  go_loopw [5] (fun i wr => ∃ k : Nat, k ≤ m ∧ i = .int .i64 (k : Int) ∧ Keep [B.t, B.q] w wr ∧ DecAt B wr (L.drop k)) (fun i wr => 2 * (m - (intOf i).toNat) + idle B.t wr)
  case atStart => exact ⟨0, Nat.zero_le _, rfl, Keep.refl _ _, by simpa using h⟩
  case round =>
    obtain ⟨s, hk, rfl, kk, hD⟩ := hrel
    by_cases hk2 : s < m
    · obtain ⟨cur, rep, lit, P, rs, rest, hS⟩ := hD
      obtain ⟨c0, c1, c2, c3, c4, cf⟩ := hS.cell
      obtain ⟨r, hr⟩ : ∃ r, r = m - s := ⟨_, rfl⟩
      have hri : (m : Int) - (s : Int) = (r : Int) := by omega
      have hr0 : 0 < r := by omega
      have hrm : s + r = m := by omega
      have hrepb := hS.repB
      have hlitb := hS.litB
      clear hr
      by_cases hrep0 : 0 < rep
      · have hrepi : (0 : Int) < (rep : Int) := by omega
        have hlit0 : lit = 0 := by rcases hS.st with h | h <;> omega
        have hcT := hS.cells
        rw [hlit0] at hcT
        have HT := Lib.hid hcT
        have Hrep0 := Lib.hid hrep0
        have HS := Lib.hid hS
        clear hlit0 hcT hrep0 hS
        by_cases hle : rep < r
        · have hlei : (rep : Int) < (r : Int) := by omega
          have hlei2 : ¬ (r : Int) ≤ (rep : Int) := by omega
          obtain ⟨k2, hk2'⟩ : ∃ x, x = s + rep := ⟨_, rfl⟩
          have hk2i : (s : Int) + (rep : Int) = (k2 : Int) := by omega
          have hk2m : k2 ≤ m := by omega
          have Hk2 := Lib.hid hk2'
          clear hk2'
          go_wp2
          go_roundw
          case rel =>
            have hc2 : Blk (wr.setCell ⟨B.t, 3, none⟩ (.int .i32 0)) B.t (decCells B.q B.W cur (rep - rep) 0) := by
              rw [Nat.sub_self]; exact HT.out.set 3 (.int .i32 ((0 : Nat) : Int))
            obtain ⟨e1, e2⟩ := HS.out.takeRep (b := rep) (S := [B.t]) Hrep0.out (Nat.le_refl _) hc2 ((Keep.refl [B.t] wr).set (by simp) _ _ _) (by simp; exact Ne.symm tq) (by simp; exact Ne.symm tx) (by simp; exact Ne.symm td) (by simp; exact Ne.symm te)
            rw [List.drop_drop, ← Hk2.out] at e1
            exact ⟨k2, hk2m, rfl, kk.set (by simp) _ _ _, ⟨_, _, _, _, _, _, e1⟩⟩
          case measure =>
            have h1 := idle_le B.t (wr.setCell ⟨B.t, 3, none⟩ (.int .i32 0))
            have h2 := Hk2.out
            have h3 := Hrep0.out
            simp only [intOf, Int.toNat_natCast]
            omega
        · have hlei : ¬ (rep : Int) < (r : Int) := by omega
          have hlei2 : (r : Int) ≤ (rep : Int) := by omega
          obtain ⟨rep2, hrep2⟩ : ∃ x, x = rep - r := ⟨_, rfl⟩
          have hrep2i : (rep : Int) - (r : Int) = (rep2 : Int) := by omega
          have hk2i : (s : Int) + (r : Int) = (m : Int) := by omega
          have Hrep2 := Lib.hid hrep2
          clear hrep2
          go_wp2
          go_roundw
          case rel =>
            have hc2 : Blk (wr.setCell ⟨B.t, 3, none⟩ (.int .i32 (rep2 : Int))) B.t (decCells B.q B.W cur (rep - r) 0) := by
              rw [← Hrep2.out]; exact HT.out.set 3 (.int .i32 (rep2 : Int))
            obtain ⟨e1, e2⟩ := HS.out.takeRep (b := r) (S := [B.t]) Hrep0.out (by omega) hc2 ((Keep.refl [B.t] wr).set (by simp) _ _ _) (by simp; exact Ne.symm tq) (by simp; exact Ne.symm tx) (by simp; exact Ne.symm td) (by simp; exact Ne.symm te)
            rw [List.drop_drop, hrm] at e1
            exact ⟨m, Nat.le_refl _, rfl, kk.set (by simp) _ _ _, ⟨_, _, _, _, _, _, e1⟩⟩
          case measure =>
            have h1 := idle_le B.t (wr.setCell ⟨B.t, 3, none⟩ (.int .i32 (rep2 : Int)))
            simp only [intOf, Int.toNat_natCast]
            omega
      · have hr0' : rep = 0 := by omega
        subst hr0'
        by_cases hlit0 : 0 < lit
        · have hliti : (0 : Int) < (lit : Int) := by omega
          obtain ⟨bo, bi, hBR, hbi64, hpP, hPn, hLe⟩ : ∃ bo bi, BRF wr B.q B.x B.d B.o B.n B.cap B.ea B.D bo bi ∧ bi ≤ 64 ∧ 8 * bo + bi + B.W * lit = 8 * P ∧ P ≤ B.n ∧ L.drop s = bitVals B.D (8 * bo + bi) B.W lit ++ valsR rs := by
            rcases hS.st with h | ⟨_, _, bo, bi, h⟩
            · omega
            · exact ⟨bo, bi, h⟩
          obtain ⟨p, hpp⟩ : ∃ p, 8 * bo + bi = p := ⟨_, rfl⟩
          rw [hpp] at hpP hLe
          have HT := Lib.hid hS.cells
          have HS := Lib.hid hS
          have HBR := Lib.hid hBR
          have HpP := Lib.hid hpP
          have HPn := Lib.hid hPn
          have HLe := Lib.hid hLe
          have Hpp := Lib.hid hpp
          clear hS hBR hpP hPn hLe hpp
          by_cases hle : lit < r
          · have hlei : (lit : Int) < (r : Int) := by omega
            have hlei2 : ¬ (r : Int) ≤ (lit : Int) := by omega
            obtain ⟨k2, hk2'⟩ : ∃ x, x = s + lit := ⟨_, rfl⟩
            have hk2i : (s : Int) + (lit : Int) = (k2 : Int) := by omega
            have hk2m : k2 ≤ m := by omega
            have Hk2 := Lib.hid hk2'
            clear hk2'
            go_wp2_with fail
            refine wp_region_mid 10 (by kernel_rfl) (by kernel_rfl) ?_
            simp only [List.take_succ_cons, List.take_zero, List.drop_succ_cons, List.drop_zero]
            change wpStill _ _ (World.drew _) _ _ _
            repeat still_step
            refine wpStill_nil ?_
            go_wp2_with fail
            refine (discardC B.q B.x B.d B.o B.n B.cap B.ea B.D bo bi lit B.W p _ (BR.drew HBR.out) hbi64 Hpp.out W0 W64 (by omega) (by omega) n8 (by have := HpP.out; have : B.W * lit ≤ B.W * lit := Nat.mul_le_mul_left _ (by omega); have := HPn.out; omega)).mono ?_
            rintro e w2 ⟨rfl, k2, bo2, bi2, hp2, hb2, hB2⟩
            have kd2 : Keep [B.q] wr w2 := (Keep.refl [B.q] wr).drew.trans k2 (fun x hx => .inl hx)
            have hT2 := HT.out.keep kd2 (by simp; exact tq)
            have c4 := hT2.cell (i := 4) rfl
            have cf := hT2.unfrozen
            have HT2 := Lib.hid hT2
            have HB2 := Lib.hid hB2
            have Hp2 := Lib.hid hp2
            have KK2 : Keep [B.t, B.q] w w2 := kk.trans kd2 (by simp)
            clear hT2 hB2 hp2 k2
            go_wp2_with fail
            repeat still_step
            refine wpStill_nil ?_
            go_wp2
            go_roundw
            case rel =>
              have hc2 : Blk (w2.setCell ⟨B.t, 4, none⟩ (.int .i32 0)) B.t (decCells B.q B.W cur 0 (lit - lit)) := by
                rw [Nat.sub_self]; exact HT2.out.set 4 (.int .i32 ((0 : Nat) : Int))
              have Ks : Keep [B.t] w2 (w2.setCell ⟨B.t, 4, none⟩ (.int .i32 0)) := (Keep.refl [B.t] w2).set (by simp) _ _ _
              obtain ⟨e1, e2⟩ := DecSt.takeLit (w := wr) (rep := 0) (bo := bo) (bi := bi) Hok.out HS.out.rsOk HS.out.runs HS.out.litB HS.out.curB (Nat.le_refl lit) HpP.out HPn.out HLe.out hc2 (BR.keep HB2.out Ks (by simp; exact Ne.symm tq) (by simp; exact Ne.symm tx) (by simp; exact Ne.symm td) (by simp; exact Ne.symm te)) hb2 Hp2.out
              rw [List.drop_drop, ← Hk2.out] at e1
              exact ⟨k2, hk2m, rfl, KK2.set (by simp) _ _ _, ⟨_, _, _, _, _, _, e1⟩⟩
            case measure =>
              have h1 := idle_le B.t (w2.setCell ⟨B.t, 4, none⟩ (.int .i32 0))
              have h2 := Hk2.out
              simp only [intOf, Int.toNat_natCast]
              omega
          · have hlei : ¬ (lit : Int) < (r : Int) := by omega
            have hlei2 : (r : Int) ≤ (lit : Int) := by omega
            obtain ⟨lit2, hlit2⟩ : ∃ x, x = lit - r := ⟨_, rfl⟩
            have hlit2i : (lit : Int) - (r : Int) = (lit2 : Int) := by omega
            have hk2i : (s : Int) + (r : Int) = (m : Int) := by omega
            have Hlit2 := Lib.hid hlit2
            clear hlit2
            go_wp2_with fail
            refine wp_region_mid 10 (by kernel_rfl) (by kernel_rfl) ?_
            simp only [List.take_succ_cons, List.take_zero, List.drop_succ_cons, List.drop_zero]
            change wpStill _ _ (World.drew _) _ _ _
            repeat still_step
            refine wpStill_nil ?_
            go_wp2_with fail
            refine (discardC B.q B.x B.d B.o B.n B.cap B.ea B.D bo bi r B.W p _ (BR.drew HBR.out) hbi64 Hpp.out W0 W64 (by omega) (by omega) n8 (by have := HpP.out; have : B.W * r ≤ B.W * lit := Nat.mul_le_mul_left _ (by omega); have := HPn.out; omega)).mono ?_
            rintro e w2 ⟨rfl, k2, bo2, bi2, hp2, hb2, hB2⟩
            have kd2 : Keep [B.q] wr w2 := (Keep.refl [B.q] wr).drew.trans k2 (fun x hx => .inl hx)
            have hT2 := HT.out.keep kd2 (by simp; exact tq)
            have c4 := hT2.cell (i := 4) rfl
            have cf := hT2.unfrozen
            have HT2 := Lib.hid hT2
            have HB2 := Lib.hid hB2
            have Hp2 := Lib.hid hp2
            have KK2 : Keep [B.t, B.q] w w2 := kk.trans kd2 (by simp)
            clear hT2 hB2 hp2 k2
            go_wp2_with fail
            repeat still_step
            refine wpStill_nil ?_
            go_wp2
            go_roundw
            case rel =>
              have hc2 : Blk (w2.setCell ⟨B.t, 4, none⟩ (.int .i32 (lit2 : Int))) B.t (decCells B.q B.W cur 0 (lit - r)) := by
                rw [← Hlit2.out]; exact HT2.out.set 4 (.int .i32 (lit2 : Int))
              have Ks : Keep [B.t] w2 (w2.setCell ⟨B.t, 4, none⟩ (.int .i32 (lit2 : Int))) := (Keep.refl [B.t] w2).set (by simp) _ _ _
              obtain ⟨e1, e2⟩ := DecSt.takeLit (w := wr) (rep := 0) (bo := bo) (bi := bi) (b := r) Hok.out HS.out.rsOk HS.out.runs HS.out.litB HS.out.curB (by omega) HpP.out HPn.out HLe.out hc2 (BR.keep HB2.out Ks (by simp; exact Ne.symm tq) (by simp; exact Ne.symm tx) (by simp; exact Ne.symm td) (by simp; exact Ne.symm te)) hb2 Hp2.out
              rw [List.drop_drop, hrm] at e1
              exact ⟨m, Nat.le_refl _, rfl, KK2.set (by simp) _ _ _, ⟨_, _, _, _, _, _, e1⟩⟩
            case measure =>
              have h1 := idle_le B.t (w2.setCell ⟨B.t, 4, none⟩ (.int .i32 (lit2 : Int)))
              simp only [intOf, Int.toNat_natCast]
              omega
        · have hl0 : lit = 0 := by omega
          subst hl0
          have hne : L.drop s ≠ [] := by
            intro h
            have := congrArg List.length h
            simp at this
            have := HL.out
            omega
          have hid1 := hS.idle_one
          have HS := Lib.hid hS
          have Hid1 := Lib.hid hid1
          clear hS hid1
          go_wp2_with fail
          refine (HS.out.next hne).mono ?_
          rintro e w2 ⟨rfl, k2, cur', rep', lit', P', rs', hpos, hS2⟩
          have KK2 : Keep [B.t, B.q] w w2 := kk.trans k2 (by simp)
          have hid2 := hS2.idle_zero hpos
          have HS2 := Lib.hid hS2
          have Hid2 := Lib.hid hid2
          clear hS2 hid2 k2 c0 c1 c2 c3 c4 cf
          go_wp2
          go_roundw
          case rel => exact ⟨s, hk, rfl, KK2, ⟨_, _, _, _, _, _, HS2.out⟩⟩
          case measure => rw [Hid1.out, Hid2.out]; simp only [intOf]; omega
    · have hkm : s = m := by omega
      subst hkm
      have HD := Lib.hid hD
      clear hD
      go_wp2
      go_ret
      exact ⟨rfl, kk, HD.out⟩
end Go.Proofs.YtlolcgklcnechaaGreatDoor
set_option linter.unusedVariables false
set_option linter.unusedSimpArgs false
namespace Go.Proofs.YtlolcgklcnechaaGreatDoor
open Go.RowKit

set_option maxRecDepth 100000 in
theorem newBitReader (x : XP) (w : World) :
    Calls Tryz.prog 91 #[.iface 91 (.pointer (some ⟨x.b, x.o, none⟩))] w fun e w' =>
      e = .returned (.pointer (some ⟨w.heap.size, 0, none⟩)) ∧ w' = w.alloc (.cells (brCells x 0 0 0 0 (List.replicate 8 0) (List.replicate 1024 0)).toArray 247) := by
  go_enter Tryz.func91, Tryz.ntmps91
  go_wp2
  go_ret
  exact ⟨rfl, congrArg (fun c => w.alloc (Obj.cells c _)) (by kernel_rfl)⟩

set_option maxRecDepth 100000 in
theorem newRleDecoder (x : XP) (W : Nat) (w : World) :
    Calls Tryz.prog 42 #[.pointer (some ⟨x.b, x.o, none⟩), .int .i64 (W : Int)] w fun e w' =>
      e = .returned (.pointer (some ⟨w.heap.size + 1, 0, none⟩)) ∧ w' = (w.alloc (.cells (brCells x 0 0 0 0 (List.replicate 8 0) (List.replicate 1024 0)).toArray 247)).alloc (.cells (decCells w.heap.size W 0 0 0).toArray 184) := by
  have hN := newBitReader x w
  obtain ⟨o, ho⟩ : ∃ o, o = (Obj.cells (brCells x 0 0 0 0 (List.replicate 8 0) (List.replicate 1024 0)).toArray 247) := ⟨_, rfl⟩
  rw [← ho] at hN ⊢
  clear ho
  go_enter Tryz.func42, Tryz.ntmps42
  go_wp2_with fail
  refine hN.mono ?_
  rintro e w2 ⟨rfl, rfl⟩
  go_wp2
  go_ret
  exact ⟨rfl, rfl⟩

theorem unp_zero : UnpOk (List.replicate 1024 0) := by
  refine ⟨List.length_replicate, fun v hv => ?_⟩
  rw [List.mem_replicate] at hv
  omega

/-- A fresh decoder over runs. -/
theorem DecAt.fresh {w w' : World} {x : XP} {d o n cap W : Nat} {ea : Addr} {D : List Nat} {rs : List Rn} {rest : List Nat} {pos pr : Int} (raw unp : List Nat) (hraw : raw.length = 8) (hunp : UnpOk unp) (hw : w' = (w.alloc (.cells (brCells x 0 0 0 0 raw unp).toArray 247)).alloc (.cells (decCells w.heap.size W 0 0 0).toArray 184))
    (hx : Rd w x [.slice (some ⟨d, o, none⟩) n cap, .int .i64 pos, .int .i64 pr]) (hD : BytesAt w d o n cap D) (hE : Eof w ea) (xd : x.b ≠ d) (xe : x.b ≠ 4) (hW0 : 0 < W) (hW : W ≤ 64) (hn8 : n + 8 ≤ 1099511627776)
    (hrs : ∀ r ∈ rs, Rn.Ok W r) (hr : D = encR W rs ++ rest) : DecAt ⟨w.heap.size + 1, w.heap.size, x, d, o, n, cap, ea, D, W⟩ w' (valsR rs) := by
  have xl := hx.lt
  have dl : d < w.heap.size := by obtain ⟨⟨cs, h, _⟩, _⟩ := hD; exact h.lt
  have el := hE.lt
  have K : Keep [] w w' := by rw [hw]; exact ((Keep.refl [] w).alloc _).alloc _
  have hq : Blk w' w.heap.size (brCells x 0 0 0 0 raw unp) := by rw [hw]; exact (Blk.new w _ _).alloc _
  have ht : Blk w' (w.heap.size + 1) (decCells w.heap.size W 0 0 0) := by rw [hw]; exact Blk.of_new (by simp)
  refine ⟨0, 0, 0, 0, rs, rest, ⟨by show w.heap.size + 1 ≠ w.heap.size; omega, by show w.heap.size + 1 ≠ x.b; omega, by show w.heap.size + 1 ≠ d; omega, by show w.heap.size + 1 ≠ 4; omega, hW0, hW, hn8⟩, ht, hrs, by simpa using hr, by omega, by omega, by omega, .inl ⟨rfl, ⟨0, 0, 0, 0, ?_, by omega, by omega⟩, by simp⟩⟩
  exact ⟨⟨raw, unp, hraw, hunp, hq⟩, ⟨pos, pr, hx.keep K (by simp)⟩, hD.keep K (by simp), hE.keep K (by simp), by show w.heap.size ≠ x.b; omega, by show w.heap.size ≠ d; omega, xd, by show w.heap.size ≠ 4; omega, xe⟩

set_option maxRecDepth 100000 in
set_option maxHeartbeats 1000000 in
theorem rleBatchC (B : DecB) (L : List Nat) (m : Nat) (w : World) (h : DecAt B w L) (tl : B.t < w.heap.size) (ql : B.q < w.heap.size) (xl : B.x.b < w.heap.size) (dl : B.d < w.heap.size) (el : 4 < w.heap.size) (hmL : m ≤ L.length) (hm : m ≤ 1000000) :
    Calls Tryz.prog 45 #[.pointer (some ⟨B.t, 0, none⟩), .int .i64 0, .int .i64 (m : Int)] w fun e w' =>
      e = .returned (.tuple #[.slice (some ⟨w.heap.size, 0, none⟩) m m, .nilIface]) ∧ Keep [B.t, B.q, B.x] w w' ∧ DecAt B w' (L.drop m) ∧ Blk w' w.heap.size (rowV .u64 (L.take m)) := by
  have hmk := make_u64 (m : Int) m rfl (by omega)
  have K1 : Keep [] w (w.alloc (.cells (rowV .u64 (List.replicate m 0)).toArray 43)) := (Keep.refl [] w).alloc _
  have h1 := h.keep K1 (by simp) (by simp) (by simp) (by simp) (by simp)
  have hv := Blk.new w (rowV .u64 (List.replicate m 0)) 43
  have H1 := Lib.hid h1
  have HV := Lib.hid hv
  have HK := Lib.hid K1
  clear h h1 hv K1
  go_enter Tryz.func45, Tryz.ntmps45
  go_wp2_with fail
  refine (decGetBatch B L w.heap.size 0 m m (rowV .u64 (List.replicate m 0)) _ H1.out HV.out (by omega) (by omega) (by omega) (by omega) (by omega) (by simp) hmL hm (Nat.le_refl _)).mono ?_
  rintro e w2 ⟨rfl, k2, h2, hv2⟩
  have hv3 : Blk w2 w.heap.size (rowV .u64 (L.take m)) := by
    have e1 : splice (rowV .u64 (List.replicate m 0)) 0 (rowV .u64 (L.take m)) = rowV .u64 (L.take m) := by
      unfold splice
      rw [List.take_zero, List.nil_append, List.drop_of_length_le (by simp; omega), List.append_nil]
    rw [e1] at hv2; exact hv2
  have K2 : Keep [B.t, B.q, B.x] w w2 := (HK.out.weaken (S' := [B.t, B.q, B.x]) (by simp)).trans k2 (by simp)
  have H2 := Lib.hid h2
  have HV3 := Lib.hid hv3
  clear h2 hv2 hv3 k2
  go_wp2
  go_ret2
  exact ⟨rfl, K2, H2.out, HV3.out⟩
end Go.Proofs.YtlolcgklcnechaaGreatDoor
