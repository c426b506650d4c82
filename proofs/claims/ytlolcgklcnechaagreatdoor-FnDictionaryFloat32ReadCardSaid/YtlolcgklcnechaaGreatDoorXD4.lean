/- The bit reader: fillbuffer. -/
import Derived.Test.YtlolcgklcnechaaGreatDoorXD3
import Derived.LaidEql
set_option linter.unusedVariables false
namespace Go.Proofs.YtlolcgklcnechaaGreatDoor
open Go.RowKit

theorem comp_err : (Tryz.prog.info? 238).map (·.comparable) = some true := by kernel_rfl
theorem size_err : ((Tryz.prog.info? 240).map (·.size)).isSome = true := by kernel_rfl
/-- io.EOF is io.EOF. -/
theorem neq_eof (ea : Addr) (w : World) : (binOp .neq 82 (.iface 238 (.pointer (some ea))) (.iface 238 (.pointer (some ea)))).run Tryz.prog w = .ok (.bool false) w := by
  obtain ⟨i, hi, hcmp⟩ := Option.map_eq_some_iff.1 comp_err
  obtain ⟨j, hj⟩ := Option.isSome_iff_exists.1 size_err
  obtain ⟨j', hj', -⟩ := Option.map_eq_some_iff.1 hj
  simp only [binOp]
  simp [Op.equal, Op.maxDepth, run_equalIn_iface_ptr_same w 9998 ea Tryz.underlying82 (te := 240) (by kernel_rfl) hi hcmp hj']

def brHead (x : XP) (buf bo bi vb : Nat) : List Value := [.iface 91 (.pointer (some ⟨x.b, x.o, none⟩)), .int .u64 (buf : Int), .int .i64 (bo : Int), .int .u64 (bi : Int), .int .u64 (vb : Int)]
def brCells (x : XP) (buf bo bi vb : Nat) (raw unp : List Nat) : List Value := brHead x buf bo bi vb ++ (rowV .u8 raw ++ rowV .u32 unp)

/-- What is unpacked: 1024 numbers of 32 bits. -/
def UnpOk (unp : List Nat) : Prop := unp.length = 1024 ∧ ∀ v ∈ unp, v < 4294967296

/-- A bit reader at q over the bytes.Reader at x over the bytes D at d. -/
structure BR (w : World) (q : Nat) (x : XP) (d o n cap : Nat) (ea : Addr) (D : List Nat) (buf bo bi vb : Nat) : Prop where
  hq : ∃ raw unp, raw.length = 8 ∧ UnpOk unp ∧ Blk w q (brCells x buf bo bi vb raw unp)
  hx : ∃ pos pr : Int, Rd w x [.slice (some ⟨d, o, none⟩) n cap, .int .i64 pos, .int .i64 pr]
  hD : BytesAt w d o n cap D
  hE : Eof w ea
  qx : q ≠ x.b
  qd : q ≠ d
  xd : x.b ≠ d
  qe : q ≠ 4
  xe : x.b ≠ 4

theorem BR.keep {S : List Nat} {w w' : World} {q : Nat} {x : XP} {d o n cap : Nat} {ea : Addr} {D : List Nat} {buf bo bi vb : Nat} (h : BR w q x d o n cap ea D buf bo bi vb) (k : Keep S w w')
    (hq : q ∉ S) (hx : x.b ∉ S) (hd : d ∉ S) (he : 4 ∉ S) : BR w' q x d o n cap ea D buf bo bi vb := by
  obtain ⟨⟨raw, unp, h1, h2, h3⟩, ⟨pos, pr, h4⟩, h5, h6, h7, h8, h9, h10, h11⟩ := h
  exact ⟨⟨raw, unp, h1, h2, h3.keep k hq⟩, ⟨pos, pr, h4.keep k hx⟩, h5.keep k hd, h6.keep k he, h7, h8, h9, h10, h11⟩

theorem BR.drewN {w : World} {q : Nat} {x : XP} {d o n cap : Nat} {ea : Addr} {D : List Nat} {buf bo bi vb : Nat} (h : BR w q x d o n cap ea D buf bo bi vb) (k : Nat) : BR (w.drewN k) q x d o n cap ea D buf bo bi vb :=
  h.keep (S := []) ((Keep.refl [] w).drewN k) (by simp) (by simp) (by simp) (by simp)
theorem BR.drew {w : World} {q : Nat} {x : XP} {d o n cap : Nat} {ea : Addr} {D : List Nat} {buf bo bi vb : Nat} (h : BR w q x d o n cap ea D buf bo bi vb) : BR w.drew q x d o n cap ea D buf bo bi vb := h.drewN 1

theorem brCells_raw (x : XP) (buf bo bi vb : Nat) (raw unp : List Nat) (i v : Nat) (hi : i < raw.length) :
    (brCells x buf bo bi vb raw unp).set (5 + i) (.int .u8 (v : Int)) = brCells x buf bo bi vb (raw.set i v) unp := by
  unfold brCells
  rw [List.set_append_right _ _ (by simp [brHead]), show 5 + i - (brHead x buf bo bi vb).length = i by simp [brHead], List.set_append_left _ _ (by simpa using hi), rowV_set]

theorem brCells_splice (x : XP) (buf bo bi vb : Nat) (raw unp : List Nat) (i : Nat) (R : List Nat) (hi : i + R.length ≤ raw.length) :
    splice (brCells x buf bo bi vb raw unp) (5 + i) (rowV .u8 R) = brCells x buf bo bi vb (splice raw i R) unp := by
  rw [← setsAt_splice _ _ _ (by simp [brCells, brHead]; omega), ← setsAt_splice _ _ _ hi]
  induction R generalizing i raw with
  | nil => rfl
  | cons v R ih =>
    simp only [rowV, List.map_cons, setsAt]
    rw [brCells_raw _ _ _ _ _ _ _ _ _ (by simp at hi; omega), Nat.add_assoc]
    exact ih _ (i + 1) (by simp at hi ⊢; omega)

theorem brCells_get (x : XP) (buf bo bi vb : Nat) (raw unp : List Nat) (i v : Nat) (h : raw[i]? = some v) : (brCells x buf bo bi vb raw unp)[5 + i]? = some (.int .u8 (v : Int)) := by
  have hi : i < raw.length := (List.getElem?_eq_some_iff.1 h).1
  unfold brCells
  rw [List.getElem?_append_right (by simp [brHead]), show 5 + i - (brHead x buf bo bi vb).length = i by simp [brHead], List.getElem?_append_left (by simpa using hi)]
  exact rowV_get h

theorem leVal_zeros : ∀ (R : List Nat) (k : Nat), leVal (R ++ List.replicate k 0) = leVal R
  | [], 0 => rfl
  | [], k + 1 => by
    have h0 : leVal (List.replicate k 0) = 0 := leVal_zeros [] k
    simp [leVal, List.replicate_succ, h0]
  | b :: R, k => by simp only [List.cons_append, leVal, leVal_zeros R k]

theorem le_run (w : World) : (loadVar 225 ⟨0, 0, none⟩).run Tryz.prog w = .ok (.agg #[]) w := le_global w

/-- fillbuffer's loop: the rest of raw is laid to nought. -/
def RawAt (raw R : List Nat) (k j : Nat) : Prop := raw.length = 8 ∧ k ≤ j ∧ raw.take j = R ++ List.replicate (j - k) 0

theorem RawAt.step {raw R : List Nat} {k j : Nat} (h : RawAt raw R k j) (hj : j < 8) : RawAt (raw.set j 0) R k (j + 1) := by
  obtain ⟨h1, h2, h3⟩ := h
  refine ⟨by simpa using h1, by omega, ?_⟩
  rw [List.take_succ_eq_append_getElem (by simp; omega), List.take_set_of_le (Nat.le_refl _), h3, show j + 1 - k = (j - k) + 1 by omega, List.replicate_succ', List.append_assoc]
  simp


set_option maxRecDepth 100000 in
set_option maxHeartbeats 2000000 in
theorem fillC (q : Nat) (x : XP) (d o n cap : Nat) (ea : Addr) (D : List Nat) (buf bo bi vb : Nat) (w : World) (h : BR w q x d o n cap ea D buf bo bi vb) (hbi : bi ≤ 64) (hbo : bo ≤ 1099511627776) :
    Calls Tryz.prog 130 #[.pointer (some ⟨q, 0, none⟩)] w fun e w' =>
      e = .returned .nilIface ∧ Keep [q] w w' ∧ BR w' q x d o n cap ea D (leVal ((D.drop bo).take 8)) bo bi (8 * min 8 (n - bo)) := by
  obtain ⟨⟨raw, unp, hr1, hu, hq⟩, ⟨pos, pr, hx⟩, hD, hE, qx, qd, xd, qe, xe⟩ := h
  have c0 := hq.cell (i := 0) rfl
  have c2 := hq.cell (i := 2) rfl
  have hm := method_ReadAt ⟨x.b, x.o, none⟩
  have hne := neq_eof ea
  obtain ⟨k, hk⟩ : ∃ k, k = min 8 (n - bo) := ⟨_, rfl⟩
  obtain ⟨R, hR⟩ : ∃ R, R = (D.drop bo).take k := ⟨_, rfl⟩
  have hRl : R.length = k := by rw [hR]; simp [hD.dl]; omega
  have hR8 : leVal ((D.drop bo).take 8) = leVal R := by
    rw [hR, hk]
    congr 1
    rcases Nat.lt_or_ge (n - bo) 8 with h | h
    · rw [Nat.min_eq_right (by omega), List.take_of_length_le (by simp [hD.dl]; omega), List.take_of_length_le (by simp [hD.dl])]
    · rw [Nat.min_eq_left h]
  have hRb : ∀ y ∈ R, y < 256 := by rw [hR]; intro y hy; exact hD.bytes y (List.mem_of_mem_drop (List.mem_of_mem_take hy))
  rw [hR8, ← hk]
  have HR := Lib.hid hR
  have HK := Lib.hid hk
  have HRl := Lib.hid hRl
  have HRb := Lib.hid hRb
  have Hr1 := Lib.hid hr1
  have hk8 : k ≤ 8 := by omega
  clear hR hRl hR8 hRb hk hr1
  go_enter Tryz.func130, Tryz.ntmps130
  go_wp2_with fail
  refine wp_region_mid 14 (by kernel_rfl) (by kernel_rfl) ?_
  simp only [List.take_succ_cons, List.take_zero, List.drop_succ_cons, List.drop_zero]
  change wpStill _ _ (World.drew _) _ _ _
  repeat still_step
  refine wpStill_nil ?_
  go_wp2_with fail
  refine (readAt x d o n cap q 5 8 8 bo pos pr D _ ea k _ hx.drew (hD.keep (S := []) (Keep.refl [] w).drew (by simp)) hq.drew (hE.keep (S := []) (Keep.refl [] w).drew (by simp)) qd qx qe (by simp [brCells, brHead, Hr1.out]) (by omega) (by omega) HK.out).mono ?_
  rintro e w2 ⟨rfl, k2, hB2⟩
  rw [← HR.out, show (5 : Nat) = 5 + 0 from rfl, brCells_splice _ _ _ _ _ _ _ _ _ (by rw [HRl.out, Hr1.out]; omega)] at hB2
  have hE2 : w2.cell? ⟨4, 0, none⟩ = some (.iface 238 (.pointer (some ea))) := (hE.keep (S := []) (Keep.refl [] w).drew (by simp)).keep k2 (by simp; exact Ne.symm qe)
  have c4 := hB2.cell (i := 4) rfl
  have hf2 := hB2.unfrozen
  have HB2 := Lib.hid hB2
  clear hB2 hq c0 c2
  have c0 := HB2.out.cell (i := 0) rfl
  have c2 := HB2.out.cell (i := 2) rfl
  by_cases h8 : k < 8
  · rw [if_pos h8]
    go_wp2_with fail
    repeat still_step
    refine wpStill_nil ?_
    go_wp2_with fail
    go_loopw [5] (fun i wr => ∃ (j : Nat) (raw : List Nat), j ≤ 8 ∧ i = .int .i64 (j : Int) ∧ RawAt raw R k j ∧ Keep [q] w wr ∧ Blk wr q (brCells x buf bo bi (8 * k) raw unp)) (fun i _ => 8 - (intOf i).toNat)
    case atStart =>
      refine ⟨k, splice raw 0 R, hk8, rfl, ⟨by rw [length_splice _ _ _ (by rw [HRl.out, Hr1.out]; omega)]; exact Hr1.out, Nat.le_refl _, ?_⟩, ?_, ?_⟩
      · rw [Nat.sub_self]; simp [splice, HRl.out]
      · exact ((Keep.refl _ _).drew.trans k2 (by simp)).set (by simp) _ _ _
      · have := HB2.out.set 4 (.int .u64 ((8 * k : Nat) : Int))
        rw [show (k : Int) * 8 = ((8 * k : Nat) : Int) by omega]
        exact this
    case round =>
      obtain ⟨j, raw1, hj, rfl, hra, kk, hBj⟩ := hrel
      have hra1 := hra.1
      have Hra := Lib.hid hra
      clear hra
      clear c0 c2 hf2 c4
      by_cases hj8 : j < 8
      · have hc := hBj.cell (brCells_get x buf bo bi (8 * k) raw1 unp j (raw1[j]'(by omega)) (by simp))
        have hf := hBj.unfrozen
        have HBj := Lib.hid hBj
        have HKk := Lib.hid kk
        obtain ⟨vv, hvv⟩ : ∃ vv, vv = raw1[j]'(by omega) := ⟨_, rfl⟩
        rw [← hvv] at hc
        clear hBj kk hvv
        go_wp2
        go_roundw
        case rel =>
          refine ⟨j + 1, raw1.set j 0, by omega, by go_num, Hra.out.step hj8, HKk.out.set (by simp) _ _ _, ?_⟩
          rw [← brCells_raw _ _ _ _ _ _ _ _ _ (by omega)]
          exact HBj.out.set _ _
        case measure => simp [intOf]; omega
      · have hj9 : j = 8 := by omega
        subst hj9
        obtain ⟨y0, y1, y2, y3, y4, y5, y6, y7, rfl⟩ : ∃ y0 y1 y2 y3 y4 y5 y6 y7, raw1 = [y0, y1, y2, y3, y4, y5, y6, y7] := by
          match raw1, hra1 with
          | [y0, y1, y2, y3, y4, y5, y6, y7], _ => exact ⟨_, _, _, _, _, _, _, _, rfl⟩
        have hraw : [y0, y1, y2, y3, y4, y5, y6, y7] = R ++ List.replicate (8 - k) 0 := Hra.out.2.2
        have hlt : ∀ y ∈ [y0, y1, y2, y3, y4, y5, y6, y7], y < 256 := by
          rw [hraw]
          intro y hy
          rw [List.mem_append, List.mem_replicate] at hy
          rcases hy with hy | ⟨_, rfl⟩
          · exact HRb.out y hy
          · omega
        have hval : leVal [y0, y1, y2, y3, y4, y5, y6, y7] = leVal R := by rw [hraw, leVal_zeros]
        have Hval := Lib.hid hval
        have Hlt := Lib.hid hlt
        have c0 := hBj.cell (i := 0) rfl
        have c1 := hBj.cell (i := 1) rfl
        have hf := hBj.unfrozen
        clear hraw hlt hval
        go_wp2_with fail
        go_region_with (
          go_at_call 151;
          refine (uint64C q 5 8 8 y0 y1 y2 y3 y4 y5 y6 y7 (brCells x buf bo bi (8 * k) [y0, y1, y2, y3, y4, y5, y6, y7] unp) _ hBj.drew (by omega) (by omega) rfl rfl rfl rfl rfl rfl rfl rfl
            (Hlt.out _ (by simp)) (Hlt.out _ (by simp)) (Hlt.out _ (by simp)) (Hlt.out _ (by simp)) (Hlt.out _ (by simp)) (Hlt.out _ (by simp)) (Hlt.out _ (by simp)) (Hlt.out _ (by simp))).mono ?_;
          rintro e w3 ⟨rfl, k3, -⟩;
          rw [Hval.out];
          have hB3 := hBj.drew.keep k3 (by simp);
          clear c0 c1 hf;
          have c1 := hB3.cell (i := 1) rfl;
          have hf := hB3.unfrozen)
        have HB3 := Lib.hid hB3
        have HKk := Lib.hid kk
        have Hx := Lib.hid hx
        have HD := Lib.hid hD
        have HE := Lib.hid hE
        clear hBj kk hB3 hx hD hE
        go_wp2
        go_ret
        have K3 : Keep [q] w (w3.setCell ⟨q, 1, none⟩ (.int .u64 (leVal R : Int))) := (HKk.out.drew.trans k3 (by simp)).set (by simp) _ _ _
        exact ⟨rfl, K3, ⟨_, unp, rfl, hu, HB3.out.set 1 (.int .u64 (leVal R : Int))⟩, ⟨pos, pr, Hx.out.keep K3 (by simp; exact Ne.symm qx)⟩, HD.out.keep K3 (by simp; exact Ne.symm qd), HE.out.keep K3 (by simp; exact Ne.symm qe), qx, qd, xd, qe, xe⟩
  · rw [if_neg h8]
    go_wp2_with fail
    repeat still_step
    refine wpStill_nil ?_
    go_wp2_with fail
    go_loopw [5] (fun i wr => ∃ (j : Nat) (raw : List Nat), j ≤ 8 ∧ i = .int .i64 (j : Int) ∧ RawAt raw R k j ∧ Keep [q] w wr ∧ Blk wr q (brCells x buf bo bi (8 * k) raw unp)) (fun i _ => 8 - (intOf i).toNat)
    case atStart =>
      refine ⟨k, splice raw 0 R, hk8, rfl, ⟨by rw [length_splice _ _ _ (by rw [HRl.out, Hr1.out]; omega)]; exact Hr1.out, Nat.le_refl _, ?_⟩, ?_, ?_⟩
      · rw [Nat.sub_self]; simp [splice, HRl.out]
      · exact ((Keep.refl _ _).drew.trans k2 (by simp)).set (by simp) _ _ _
      · have := HB2.out.set 4 (.int .u64 ((8 * k : Nat) : Int))
        rw [show (k : Int) * 8 = ((8 * k : Nat) : Int) by omega]
        exact this
    case round =>
      obtain ⟨j, raw1, hj, rfl, hra, kk, hBj⟩ := hrel
      have hra1 := hra.1
      have Hra := Lib.hid hra
      clear hra
      clear c0 c2 hf2 c4
      by_cases hj8 : j < 8
      · have hc := hBj.cell (brCells_get x buf bo bi (8 * k) raw1 unp j (raw1[j]'(by omega)) (by simp))
        have hf := hBj.unfrozen
        have HBj := Lib.hid hBj
        have HKk := Lib.hid kk
        obtain ⟨vv, hvv⟩ : ∃ vv, vv = raw1[j]'(by omega) := ⟨_, rfl⟩
        rw [← hvv] at hc
        clear hBj kk hvv
        go_wp2
        go_roundw
        case rel =>
          refine ⟨j + 1, raw1.set j 0, by omega, by go_num, Hra.out.step hj8, HKk.out.set (by simp) _ _ _, ?_⟩
          rw [← brCells_raw _ _ _ _ _ _ _ _ _ (by omega)]
          exact HBj.out.set _ _
        case measure => simp [intOf]; omega
      · have hj9 : j = 8 := by omega
        subst hj9
        obtain ⟨y0, y1, y2, y3, y4, y5, y6, y7, rfl⟩ : ∃ y0 y1 y2 y3 y4 y5 y6 y7, raw1 = [y0, y1, y2, y3, y4, y5, y6, y7] := by
          match raw1, hra1 with
          | [y0, y1, y2, y3, y4, y5, y6, y7], _ => exact ⟨_, _, _, _, _, _, _, _, rfl⟩
        have hraw : [y0, y1, y2, y3, y4, y5, y6, y7] = R ++ List.replicate (8 - k) 0 := Hra.out.2.2
        have hlt : ∀ y ∈ [y0, y1, y2, y3, y4, y5, y6, y7], y < 256 := by
          rw [hraw]
          intro y hy
          rw [List.mem_append, List.mem_replicate] at hy
          rcases hy with hy | ⟨_, rfl⟩
          · exact HRb.out y hy
          · omega
        have hval : leVal [y0, y1, y2, y3, y4, y5, y6, y7] = leVal R := by rw [hraw, leVal_zeros]
        have Hval := Lib.hid hval
        have Hlt := Lib.hid hlt
        have c0 := hBj.cell (i := 0) rfl
        have c1 := hBj.cell (i := 1) rfl
        have hf := hBj.unfrozen
        clear hraw hlt hval
        go_wp2_with fail
        go_region_with (
          go_at_call 151;
          refine (uint64C q 5 8 8 y0 y1 y2 y3 y4 y5 y6 y7 (brCells x buf bo bi (8 * k) [y0, y1, y2, y3, y4, y5, y6, y7] unp) _ hBj.drew (by omega) (by omega) rfl rfl rfl rfl rfl rfl rfl rfl
            (Hlt.out _ (by simp)) (Hlt.out _ (by simp)) (Hlt.out _ (by simp)) (Hlt.out _ (by simp)) (Hlt.out _ (by simp)) (Hlt.out _ (by simp)) (Hlt.out _ (by simp)) (Hlt.out _ (by simp))).mono ?_;
          rintro e w3 ⟨rfl, k3, -⟩;
          rw [Hval.out];
          have hB3 := hBj.drew.keep k3 (by simp);
          clear c0 c1 hf;
          have c1 := hB3.cell (i := 1) rfl;
          have hf := hB3.unfrozen)
        have HB3 := Lib.hid hB3
        have HKk := Lib.hid kk
        have Hx := Lib.hid hx
        have HD := Lib.hid hD
        have HE := Lib.hid hE
        clear hBj kk hB3 hx hD hE
        go_wp2
        go_ret
        have K3 : Keep [q] w (w3.setCell ⟨q, 1, none⟩ (.int .u64 (leVal R : Int))) := (HKk.out.drew.trans k3 (by simp)).set (by simp) _ _ _
        exact ⟨rfl, K3, ⟨_, unp, rfl, hu, HB3.out.set 1 (.int .u64 (leVal R : Int))⟩, ⟨pos, pr, Hx.out.keep K3 (by simp; exact Ne.symm qx)⟩, HD.out.keep K3 (by simp; exact Ne.symm qd), HE.out.keep K3 (by simp; exact Ne.symm qe), qx, qd, xd, qe, xe⟩
end Go.Proofs.YtlolcgklcnechaaGreatDoor
