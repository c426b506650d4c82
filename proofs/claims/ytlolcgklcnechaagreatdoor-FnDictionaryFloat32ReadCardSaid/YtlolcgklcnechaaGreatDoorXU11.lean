/- BitReader.GetBatch from a whole byte on, by groups of 32 (W <= 32); GetBatch whole. -/
import Derived.Test.YtlolcgklcnechaaGreatDoorXU10
set_option linter.unusedVariables false
set_option linter.unusedSimpArgs false
namespace Go.Proofs.YtlolcgklcnechaaGreatDoor
open Go.RowKit

theorem brCells_getU (x : XP) (buf bo bi vb : Nat) (raw unp : List Nat) (i v : Nat) (hr : raw.length = 8) (h : unp[i]? = some v) : (brCells x buf bo bi vb raw unp)[13 + i]? = some (.int .u32 (v : Int)) := by
  unfold brCells
  rw [List.getElem?_append_right (by simp [brHead]; omega), List.getElem?_append_right (by simp [brHead, hr]; omega)]
  rw [show 13 + i - (brHead x buf bo bi vb).length - (rowV .u8 raw).length = i by simp [brHead, hr]; omega]
  exact rowV_get h

theorem brCells_spliceU (x : XP) (buf bo bi vb : Nat) (raw unp : List Nat) (R : List Nat) (hr : raw.length = 8) (hR : R.length ≤ unp.length) :
    splice (brCells x buf bo bi vb raw unp) 13 (rowV .u32 R) = brCells x buf bo bi vb raw (splice unp 0 R) := by
  have e : brCells x buf bo bi vb raw unp = (brHead x buf bo bi vb ++ rowV .u8 raw) ++ rowV .u32 unp := by simp [brCells]
  have e2 : brCells x buf bo bi vb raw (splice unp 0 R) = (brHead x buf bo bi vb ++ rowV .u8 raw) ++ rowV .u32 (splice unp 0 R) := by simp [brCells]
  have hl : (brHead x buf bo bi vb ++ rowV .u8 raw).length = 13 := by simp [brHead, hr]
  rw [e, e2]
  unfold splice
  rw [List.take_left' hl, List.drop_append, hl, rowV_append, rowV_append, rowV_drop, rowV_take]
  have h13 : List.drop (13 + (rowV .u32 R).length) (brHead x buf bo bi vb ++ rowV .u8 raw) = [] := List.drop_of_length_le (by rw [hl]; omega)
  rw [h13]
  simp

theorem val_at {D : List Nat} {P W i p k : Nat} (hD : ∀ y ∈ D, y < 256) (h : 8 * P = p + W * k) : leVal (D.drop P) / 2 ^ (W * i) % 2 ^ W = leVal D / 2 ^ (p + W * (k + i)) % 2 ^ W := by
  rw [leVal_drop D P hD, show (256 : Nat) = 2 ^ 8 from rfl, ← Nat.pow_mul, Nat.div_div_eq_div_mul, ← Nat.pow_add, h, Nat.mul_add, Nat.add_assoc]


set_option maxRecDepth 100000 in
set_option maxHeartbeats 4000000 in
theorem getBatch_zero32 (q : Nat) (x : XP) (d o n cap : Nat) (ea : Addr) (D : List Nat) (bo0 v vo m vc W p : Nat) (vcs : List Value) (w : World) (h : BRF w q x d o n cap ea D bo0 0) (hp : 8 * bo0 = p) (hW0 : 0 < W) (hW32 : W ≤ 32)
    (hv : Blk w v vcs) (vq : v ≠ q) (vx : v ≠ x.b) (vd : v ≠ d) (ve : v ≠ 4) (hvo : vo + m ≤ vcs.length) (hm0 : 0 < m) (hm : m ≤ 1099511627776) (hn8 : n + 8 ≤ 1099511627776) (hfit : p + W * m ≤ 8 * n) :
    Calls Tryz.prog 136 #[.pointer (some ⟨q, 0, none⟩), .int .u64 (W : Int), .slice (some ⟨v, vo, none⟩) m vc] w fun e w' =>
      e = .returned (.tuple #[.int .i64 (m : Int), .nilIface]) ∧ Keep [q, x, v] w w' ∧ ∃ bo' bi', 8 * bo' + bi' = p + W * m ∧ bi' ≤ 64 ∧ BRF w' q x d o n cap ea D bo' bi' ∧ Blk w' v (splice vcs vo (rowV .u64 (bitVals D p W m))) := by
  have hby := h.hD.bytes
  have Hby := Lib.hid hby
  have HD := Lib.hid h.hD
  have HE := Lib.hid h.hE
  have hV0 : Blk w v (splice vcs vo (rowV .u64 (bitVals D p W 0))) := by simpa [bitVals, splice, rowV] using hv
  have hW64 : ¬ (64 : Int) < (W : Int) := by omega
  have hW32' : (W : Int) ≤ 32 := by omega
  have hW : W ≤ 64 := by omega
  have hm0i : (0 : Int) < (m : Int) := by omega
  have hsk := method_Seek ⟨x.b, x.o, none⟩
  obtain ⟨bi1, hbi1'⟩ : ∃ b, b = 0 := ⟨_, rfl⟩
  unfold BRF at h
  obtain ⟨buf, hbuf⟩ : ∃ b, b = leVal ((D.drop bo0).take 8) := ⟨_, rfl⟩
  obtain ⟨vb, hvb⟩ : ∃ b, b = 8 * min 8 (n - bo0) := ⟨_, rfl⟩
  rw [← hbi1', ← hbuf, ← hvb] at h
  obtain ⟨c0, c1, c2, c3, c4, hfq⟩ := h.cells
  have hne : ((bi1 : Int) != 0) = false := by rw [hbi1']; rfl
  have hbi1 : bi1 ≤ 64 := by omega
  have hbi0 := Lib.hid hbi1'
  obtain ⟨⟨raw0, unp0, hr0, hu0, hq0⟩, ⟨p0, pr0, hx0⟩, -, -, qx, qd, xd, qe, xe⟩ := h
  clear hbi1' hbuf hvb hv hby
  go_enter Tryz.func136, Tryz.ntmps136
  go_wp2_with fail
  go_loopw [9] (fun i wr2 => i = .int .i64 0 ∧ w = wr2) (fun _ _ => 0)
  case atStart => exact ⟨rfl, rfl⟩
  case round =>
    obtain ⟨rfl, rfl⟩ := hrel
    go_wp2_with fail
    refine wp_region_mid 10 (by kernel_rfl) (by kernel_rfl) ?_
    simp only [List.take_succ_cons, List.take_zero, List.drop_succ_cons, List.drop_zero]
    change wpStill _ _ (World.drew _) _ _ _
    repeat still_step
    refine wpStill_nil ?_
    go_wp2_with fail
    refine (seekC x bo0 _ p0 pr0 _ hx0.drew).mono ?_
    rintro e ws ⟨rfl, ks, hxs⟩
    have hq1 := hq0.drew.keep ks (by simp; exact qx)
    have hV1 := hV0.drew.keep ks (by simp; exact vx)
    have K1 : Keep [q, x, v] w ws := (Keep.refl [q, x, v] w).drew.trans ks (by simp)
    clear c0 c1 c2 c3 c4 hfq hx0 hq0 hV0
    go_wp2_with fail
    repeat still_step
    refine wpStill_nil ?_
    go_wp2_with fail
    go_loopw [9] (fun i wr => ∃ (k bo' : Nat) (raw unp : List Nat) (pr : Int), k ≤ m ∧ i = .int .i64 (k : Int) ∧ 8 * bo' = p + W * k ∧ Keep [q, x, v] w wr ∧ raw.length = 8 ∧ UnpOk unp ∧ Blk wr q (brCells x buf bo' bi1 vb raw unp) ∧
      Rd wr x [.slice (some ⟨d, o, none⟩) n cap, .int .i64 (bo' : Int), .int .i64 pr] ∧ Blk wr v (splice vcs vo (rowV .u64 (bitVals D p W k)))) (fun i _ => m - (intOf i).toNat)
    case atStart => exact ⟨0, bo0, raw0, unp0, -1, by omega, rfl, by simpa using hp, K1, hr0, hu0, hq1, hxs, hV1⟩
    case round =>
      obtain ⟨k, bo', raw, unp, pr, hk, rfl, hpos, kk, hr, hu, hq, hx, hV⟩ := hrel
      clear hq1 hxs hV1 K1 hr0 hu0
      by_cases hk2 : k < m
      · obtain ⟨r, hrr⟩ : ∃ r, r = m - k := ⟨_, rfl⟩
        obtain ⟨U, hU⟩ : ∃ U, U = min 1024 r := ⟨_, rfl⟩
        obtain ⟨G, hG⟩ : ∃ G, G = U / 32 := ⟨_, rfl⟩
        obtain ⟨N, hN⟩ : ∃ N, N = G * 32 := ⟨_, rfl⟩
        obtain ⟨M1, hM1⟩ : ∃ M1, M1 = N * W := ⟨_, rfl⟩
        obtain ⟨M2, hM2⟩ : ∃ M2, M2 = 4 * W * G := ⟨_, rfl⟩
        have hM12 : M1 = 8 * M2 := by rw [hM1, hM2, hN, Nat.mul_comm (G * 32), Nat.mul_right_comm 4 W G, Nat.mul_comm (4 * G) W, ← Nat.mul_assoc 8, Nat.mul_comm 8 W, Nat.mul_assoc W 8]; congr 1; omega
        have hWk : W * k + W * N ≤ W * m := by rw [← Nat.mul_add]; exact Nat.mul_le_mul_left _ (by omega)
        have hWN : W * N = 8 * M2 := by rw [← hM12, hM1, Nat.mul_comm]
        have hMin : ∀ w, Calls Tryz.prog 147 #[.int .i64 1024, .int .i64 (r : Int)] w fun e w' => e = .returned (.int .i64 (U : Int)) ∧ w = w' := fun w => by
          rw [hU]; exact (minC 1024 r w).mono fun e w' ⟨a, b⟩ => ⟨a, b.symm⟩
        have hri : (m : Int) - (k : Int) = (r : Int) := by omega
        have hU1 : (U : Int) ≤ 1024 := by omega
        have hM1i : (N : Int) * (W : Int) = (M1 : Int) := by rw [hM1]; simp
        have hM2i : (M1 : Int) / 8 = (M2 : Int) := by omega
        have hM2t : (M1 : Int).tdiv 8 = (M2 : Int) := by rw [Int.tdiv_eq_ediv_of_nonneg (by omega)]; omega
        have hM1b : M1 ≤ 1000000 := by
          have : N * W ≤ 1024 * 32 := Nat.mul_le_mul (by omega) hW32
          omega
        have c0 := hq.cell (i := 0) rfl
        have c2 := hq.cell (i := 2) rfl
        have hfq := hq.unfrozen
        have hbob : bo' ≤ 1099511627776 := by omega
        have hfit2 : bo' + M2 ≤ n := by omega
        have HM2 := Lib.hid hM2
        have HG := Lib.hid hG
        have HN := Lib.hid hN
        have HU := Lib.hid hU
        have Hr := Lib.hid hrr
        have HWN := Lib.hid hWN
        have HWk := Lib.hid hWk
        have hNm : k + N ≤ m := by omega
        have hNU : N ≤ U := by omega
        have hU2 : U ≤ 1024 := by omega
        have hun : unp.length = 1024 := hu.1
        clear hM12 hM1 hM2 hG hN hU hrr hWN hWk
        go_wp2_with (go_at_call 147; refine (hMin _).mono ?_; rintro e w' ⟨rfl, rfl⟩)
        refine wp_region_mid 11 (by kernel_rfl) (by kernel_rfl) ?_
        simp only [List.take_succ_cons, List.take_zero, List.drop_succ_cons, List.drop_zero]
        change wpStill _ _ (World.drew _) _ _ _
        repeat still_step
        refine wpStill_nil ?_
        go_wp2_with fail
        have hg : Blk wr.drew q (splice (brCells x buf bo' bi1 vb raw unp) 13 (rowV .u32 (unp.take U))) := by
          rw [brCells_spliceU _ _ _ _ _ _ _ _ hr (by simp; omega)]
          rw [show splice unp 0 (unp.take U) = unp by have := splice_self unp 0 U (by omega); simpa using this]
          exact hq.drew
        refine (unpack32C q 13 x d o n cap U 1024 bo' W pr D (brCells x buf bo' bi1 vb raw unp) (unp.take U) _ hW0 hW32 hU2 (by omega) hg hx.drew ((HD.out.keep kk (by simp; exact ⟨Ne.symm qd, Ne.symm xd, Ne.symm vd⟩)).keep (S := []) (Keep.refl [] _).drew (by simp)) qx qd xd
          (by simp [brCells, brHead, hr, hun]; omega) (by simp; omega) (fun y hy => hu.2 y (List.mem_of_mem_take hy)) (by rw [← HG.out, ← HM2.out]; exact hfit2)).mono ?_
        rw [← HG.out, ← HN.out, ← HM2.out]
        rintro e w3 ⟨rfl, k3, outs, pr3, hq3, hol, hob, hval, hx3⟩
        rw [brCells_spliceU _ _ _ _ _ _ _ _ hr (by omega)] at hq3
        have hu3 : UnpOk (splice unp 0 outs) := by
          refine ⟨by rw [length_splice _ _ _ (by omega)]; exact hun, fun y hy => ?_⟩
          unfold splice at hy
          simp at hy
          rcases hy with hy | hy
          · exact hob y hy
          · exact hu.2 y (List.mem_of_mem_drop hy)
        have hget : ∀ j, j < N → (splice unp 0 outs)[j]? = some (leVal D / 2 ^ (p + W * (k + j)) % 2 ^ W) := fun j hj => by
          unfold splice
          simp only [List.take_zero, List.nil_append]
          rw [List.getElem?_append_left (by omega), hval j hj, val_at Hby.out hpos]
        obtain ⟨unp3, hunp3⟩ : ∃ u, u = splice unp 0 outs := ⟨_, rfl⟩
        rw [← hunp3] at hq3 hu3 hget
        have hV3 := hV.drew.keep k3 (by simp; exact ⟨vx, vq⟩)
        have K3 : Keep [q, x, v] w w3 := kk.drew.trans k3 (by simp)
        have HK3 := Lib.hid K3
        have Hget := Lib.hid hget
        have Hu3 := Lib.hid hu3
        clear c0 c2 hfq hg hunp3 hval hol hob hu hq hx hV kk k3 hget hu3 K3
        go_wp2_with fail
        repeat still_step
        refine wpStill_nil ?_
        go_wp2_with fail
        go_loopw [17] (fun i wr2 => ∃ j : Nat, j ≤ N ∧ i = .int .i64 (j : Int) ∧ Keep [v] w3 wr2 ∧ Blk wr2 v (splice vcs vo (rowV .u64 (bitVals D p W (k + j))))) (fun i _ => N - (intOf i).toNat)
        case atStart => exact ⟨0, Nat.zero_le _, rfl, Keep.refl _ _, hV3⟩
        case round =>
          obtain ⟨j, hj, rfl, kj, hVj⟩ := hrel
          have hqj := hq3.keep kj (by simp; exact Ne.symm vq)
          by_cases hj2 : j < N
          · obtain ⟨y, hy⟩ : ∃ y, y = leVal D / 2 ^ (p + W * (k + j)) % 2 ^ W := ⟨_, rfl⟩
            have hyb : y < 4294967296 := by
              rw [hy]
              exact Nat.lt_of_lt_of_le (Nat.mod_lt _ (Nat.two_pow_pos W)) (Nat.pow_le_pow_right (by omega) hW32)
            have hcy := hqj.cell (brCells_getU x buf bo' bi1 vb raw unp3 j y hr (by rw [hy]; exact Hget.out j hj2))
            obtain ⟨t, ht⟩ : ∃ t, t = k + j := ⟨_, rfl⟩
            have hti : (k : Int) + (j : Int) = (t : Int) := by omega
            have htm : t < m := by omega
            rw [← ht] at hVj hy
            obtain ⟨u, hcu⟩ := hVj.layCell (k := t) (by omega)
            have hfv := hVj.unfrozen
            have HV := Lib.hid hVj
            have Hy := Lib.hid hy
            have Ht := Lib.hid ht
            clear hVj hqj hy ht
            go_wp2
            go_roundw
            case rel =>
              refine ⟨j + 1, hj2, by go_num, kj.set (by simp) _ _ _, ?_⟩
              have := HV.out.lay (k := t) (by omega)
              rw [← Hy.out] at this
              rw [show k + (j + 1) = t + 1 by have := Ht.out; omega]
              exact this
            case measure => simp [intOf]; omega
          · have hjN : j = N := by omega
            subst hjN
            have hxj := hx3.keep kj (by simp; exact Ne.symm vx)
            have c2 := hqj.cell (i := 2) rfl
            have hfq := hqj.unfrozen
            have Kj : Keep [q, x, v] w _ := HK3.out.trans kj (by simp)
            obtain ⟨k0, hk0'⟩ : ∃ k0, k0 = k + j := ⟨_, rfl⟩
            have hk0i : (k : Int) + (j : Int) = (k0 : Int) := by omega
            have hk0 : k0 ≤ m := by omega
            rw [← hk0'] at hVj
            obtain ⟨bo1, hbo1⟩ : ∃ b, b = bo' + M2 := ⟨_, rfl⟩
            have hbo1i : (bo' : Int) + (M2 : Int) = (bo1 : Int) := by omega
            have hpos1 : 8 * bo1 = p + W * k0 := by
              rw [hbo1, hk0', Nat.mul_add, Nat.mul_add, HWN.out]; omega
            rw [← hbo1] at hxj
            have Hk0 := Lib.hid hk0'
            have Hxj := Lib.hid hxj
            have Hqj := Lib.hid hqj
            have HVj := Lib.hid hVj
            have Hpos := Lib.hid hpos
            have Hbo1 := Lib.hid hbo1
            clear hk0' hxj hqj hVj hq3 hx3 hV3 hpos hbo1
            by_cases hN0 : j = 0
            · have hNe : ((j : Int) == 0) = true := by rw [hN0]; rfl
              have K1 : Keep [q, x, v] w (wr.setCell ⟨q, 2, none⟩ (.int .i64 (bo1 : Int))) := Kj.set (by simp) _ _ _
              have hB1 : BR (wr.setCell ⟨q, 2, none⟩ (.int .i64 (bo1 : Int))) q x d o n cap ea D buf bo1 bi1 vb :=
                ⟨⟨raw, unp3, hr, Hu3.out, Hqj.out.set 2 (.int .i64 (bo1 : Int))⟩, ⟨bo1, pr3, Hxj.out.set_other (Ne.symm qx) _ _ _⟩, HD.out.keep K1 (by simp; exact ⟨Ne.symm qd, Ne.symm xd, Ne.symm vd⟩), HE.out.keep K1 (by simp; exact ⟨Ne.symm qe, Ne.symm xe, Ne.symm ve⟩), qx, qd, xd, qe, xe⟩
              have hV1 : Blk (wr.setCell ⟨q, 2, none⟩ (.int .i64 (bo1 : Int))) v (splice vcs vo (rowV .u64 (bitVals D p W k0))) := HVj.out.set_other vq _ _ _
              have hpos1 : 8 * bo1 + bi1 = p + W * k0 := by rw [hbi0.out]; exact hpos1
              have hbo1b : bo1 ≤ 1099511627776 := by have := Hbo1.out; omega
              have hf := hN0
              clear hf hN0 hri hU1 hMin
              go_wp2_with fail
              refine (fillC q x d o n cap ea D _ bo1 bi1 _ _ hB1 hbi1 (by omega)).mono ?_
              rintro e w2 ⟨rfl, k2, h2⟩
              have hV2 := hV1.keep k2 (by simp; exact vq)
              have K2 : Keep [q, x, v] w w2 := K1.trans k2 (by simp)
              clear hB1 hV1
              go_wp2_with fail
              go_loopw [9] (fun i wr => ∃ k bo' bi' : Nat, k ≤ m ∧ i = .int .i64 (k : Int) ∧ 8 * bo' + bi' = p + W * k ∧ bi' ≤ 64 ∧ Keep [q, x, v] w wr ∧ BRF wr q x d o n cap ea D bo' bi' ∧ Blk wr v (splice vcs vo (rowV .u64 (bitVals D p W k)))) (fun i _ => m - (intOf i).toNat)
              case atStart => exact ⟨k0, bo1, bi1, hk0, rfl, hpos1, hbi1, K2, h2, hV2⟩
              case round =>
                obtain ⟨k, bo', bi', hk, rfl, hpos, hbi', kk, hB, hV⟩ := hrel
                by_cases hk2 : k < m
                · have hWk : W * k + W ≤ W * m := by rw [← Nat.mul_succ]; exact Nat.mul_le_mul_left _ hk2
                  go_wp2_with fail
                  refine (nextC q x d o n cap ea D bo' bi' W wr hB hW0 hW hbi' (by omega) (by omega)).mono ?_
                  rw [hpos]
                  rintro e w4 ⟨rfl, k4, bo2, bi2, hp2, hb0, hb64, hB4⟩
                  have hV4 := hV.keep k4 (by simp; exact vq)
                  obtain ⟨u, hcu⟩ := hV4.layCell (k := k) (by omega)
                  have hfv := hV4.unfrozen
                  have HV4 := Lib.hid hV4
                  have HB4 := Lib.hid hB4
                  have Hp2 := Lib.hid hp2
                  clear hV4 hB4 hV hB hp2
                  go_wp2
                  go_roundw
                  case rel =>
                    refine ⟨k + 1, bo2, bi2, by omega, by go_num, by have := Hp2.out; rw [Nat.mul_succ]; omega, hb64, (kk.trans k4 (by simp)).set (by simp) _ _ _, HB4.out.keep (S := [v]) ((Keep.refl [v] w4).set (b := v) (by simp) _ _ _) (by simp; exact Ne.symm vq) (by simp; exact Ne.symm vx) (by simp; exact Ne.symm vd) (by simp; exact Ne.symm ve), HV4.out.lay (by omega)⟩
                  case measure => simp [intOf]; omega
                · have hkm : k = m := by omega
                  subst hkm
                  have HB := Lib.hid hB
                  have HV := Lib.hid hV
                  clear hB hV
                  go_wp2
                  go_ret2
                  exact ⟨rfl, kk, bo', bi', hpos, hbi', HB.out, HV.out⟩
            · have hNne : ((j : Int) == 0) = false := by simp; omega
              go_wp2
              go_roundw
              case rel =>
                refine ⟨k0, bo1, raw, unp3, pr3, hk0, rfl, hpos1, Kj.set (by simp) _ _ _, hr, Hu3.out, ?_, ?_, ?_⟩
                · exact Hqj.out.set 2 (.int .i64 (bo1 : Int))
                · exact Hxj.out.set_other (Ne.symm qx) _ _ _
                · exact HVj.out.set_other vq _ _ _
              case measure => simp [intOf]; have := Hk0.out; omega
      · have hkm : m = k := by omega
        subst hkm
        have K1 := kk
        have hB1 : BR wr q x d o n cap ea D buf bo' bi1 vb :=
          ⟨⟨raw, unp, hr, hu, hq⟩, ⟨bo', pr, hx⟩, HD.out.keep K1 (by simp; exact ⟨Ne.symm qd, Ne.symm xd, Ne.symm vd⟩), HE.out.keep K1 (by simp; exact ⟨Ne.symm qe, Ne.symm xe, Ne.symm ve⟩), qx, qd, xd, qe, xe⟩
        have hV1 := hV
        have hpos1 : 8 * bo' + bi1 = p + W * m := by rw [hbi0.out]; exact hpos
        obtain ⟨bo1, hbo1⟩ : ∃ b, b = bo' := ⟨_, rfl⟩
        rw [← hbo1] at hB1 hpos1
        have hbo1b : bo1 ≤ 1099511627776 := by omega
        have hk0 : m ≤ m := Nat.le_refl _
        clear hq hx hV kk hpos hbo1 hu hr
        go_wp2_with fail
        refine (fillC q x d o n cap ea D _ bo1 bi1 _ _ hB1 hbi1 (by omega)).mono ?_
        rintro e w2 ⟨rfl, k2, h2⟩
        have hV2 := hV1.keep k2 (by simp; exact vq)
        have K2 : Keep [q, x, v] w w2 := K1.trans k2 (by simp)
        clear hB1 hV1
        go_wp2_with fail
        go_loopw [9] (fun i wr => ∃ k bo' bi' : Nat, k ≤ m ∧ i = .int .i64 (k : Int) ∧ 8 * bo' + bi' = p + W * k ∧ bi' ≤ 64 ∧ Keep [q, x, v] w wr ∧ BRF wr q x d o n cap ea D bo' bi' ∧ Blk wr v (splice vcs vo (rowV .u64 (bitVals D p W k)))) (fun i _ => m - (intOf i).toNat)
        case atStart => exact ⟨m, bo1, bi1, hk0, rfl, hpos1, hbi1, K2, h2, hV2⟩
        case round =>
          obtain ⟨k, bo', bi', hk, rfl, hpos, hbi', kk, hB, hV⟩ := hrel
          by_cases hk2 : k < m
          · have hWk : W * k + W ≤ W * m := by rw [← Nat.mul_succ]; exact Nat.mul_le_mul_left _ hk2
            go_wp2_with fail
            refine (nextC q x d o n cap ea D bo' bi' W wr hB hW0 hW hbi' (by omega) (by omega)).mono ?_
            rw [hpos]
            rintro e w4 ⟨rfl, k4, bo2, bi2, hp2, hb0, hb64, hB4⟩
            have hV4 := hV.keep k4 (by simp; exact vq)
            obtain ⟨u, hcu⟩ := hV4.layCell (k := k) (by omega)
            have hfv := hV4.unfrozen
            have HV4 := Lib.hid hV4
            have HB4 := Lib.hid hB4
            have Hp2 := Lib.hid hp2
            clear hV4 hB4 hV hB hp2
            go_wp2
            go_roundw
            case rel =>
              refine ⟨k + 1, bo2, bi2, by omega, by go_num, by have := Hp2.out; rw [Nat.mul_succ]; omega, hb64, (kk.trans k4 (by simp)).set (by simp) _ _ _, HB4.out.keep (S := [v]) ((Keep.refl [v] w4).set (b := v) (by simp) _ _ _) (by simp; exact Ne.symm vq) (by simp; exact Ne.symm vx) (by simp; exact Ne.symm vd) (by simp; exact Ne.symm ve), HV4.out.lay (by omega)⟩
            case measure => simp [intOf]; omega
          · have hkm : k = m := by omega
            subst hkm
            have HB := Lib.hid hB
            have HV := Lib.hid hV
            clear hB hV
            go_wp2
            go_ret2
            exact ⟨rfl, kk, bo', bi', hpos, hbi', HB.out, HV.out⟩
end Go.Proofs.YtlolcgklcnechaaGreatDoor
