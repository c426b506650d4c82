/- The level decoder, by runs. -/
import Derived.Test.YtlolcgklcnechaaGreatDoorV6
set_option linter.unusedVariables false
set_option linter.unusedSimpArgs false
namespace Go.Proofs.YtlolcgklcnechaaGreatDoor
open Go.RowKit

set_option maxRecDepth 100000 in
set_option maxHeartbeats 4000000 in
/-- Decode, by runs: one batch of all that is there. -/
theorem decodeRle (B : DecB) (L : List Nat) (y g W n vc : Nat) (v : Nat) (vcs : List Value) (w : World) (hy : Blk w y (ldCells W n g 3 (.pointer (some ⟨B.t, 0, none⟩)) (.pointer none))) (hW15 : B.W ≤ 15)
    (hB : DecAt B w L) (hL : n ≤ L.length) (hsm : ∀ z ∈ L, z < 32768) (hv : Blk w v vcs) (vl : vcs.length = n) (hnc : n ≤ vc) (vt : v ≠ B.t) (vq : v ≠ B.q) (vx : v ≠ B.x) (vd : v ≠ B.d) (ve : v ≠ 4) (vy : v ≠ y) (yt : y ≠ B.t) (yq : y ≠ B.q) (yx : y ≠ B.x) (yd : y ≠ B.d) (ye : y ≠ 4) (hn : n ≤ 1000000) :
    Calls Tryz.prog 80 #[.pointer (some ⟨y, 0, none⟩), .slice (some ⟨v, 0, none⟩) n vc] w fun e w' =>
      ∃ mx : Nat, e = .returned (.tuple #[.int .i64 (n : Int), .int .i64 (mx : Int), .nilIface]) ∧ Keep [y, B.t, B.q, B.x, v] w w' ∧ Blk w' v (splice vcs 0 (rowV .i16 (L.take n))) := by
  have hV0 : Blk w v (splice vcs 0 (rowV .i16 (L.take 0))) := by simpa [splice, rowV] using hv
  have hMn : ∀ w, Calls Tryz.prog 122 #[.int .i64 (n : Int), .int .i64 (n : Int)] w fun e w' => e = .returned (.int .i64 (n : Int)) ∧ w = w' := fun w =>
    (min64C n n w).mono fun e w' ⟨a, b⟩ => ⟨by rw [a, Nat.min_self], b.symm⟩
  have y1 := hy.cell (i := 1) rfl
  have HL := Lib.hid hL
  have Hsm := Lib.hid hsm
  have HB := Lib.hid hB
  have HY := Lib.hid hy
  have HV := Lib.hid hV0
  clear hv hL hsm hB hy hV0
  go_enter Tryz.func80, Tryz.ntmps80
  go_wp2_with (go_at_call 122; refine (hMn _).mono ?_; rintro e w' ⟨rfl, rfl⟩)
  clear hMn y1
  go_loopw [12, 7, 9, 1] (fun a t m4 l wr => ∃ k s r c mx : Nat, k ≤ n ∧ mx ≤ k ∧ a = .int .i64 (r : Int) ∧ t = .int .i64 (k : Int) ∧ m4 = .int .i64 (mx : Int) ∧ l = .slice (some ⟨v, s, none⟩) r c ∧ r = n - k ∧ c = vc - k ∧ (k < n → s = k) ∧ Keep [y, B.t, B.q, B.x, v] w wr ∧
    Blk wr y (ldCells W r g 3 (.pointer (some ⟨B.t, 0, none⟩)) (.pointer none)) ∧ DecAt B wr (L.drop k) ∧ Blk wr v (splice vcs 0 (rowV .i16 (L.take k)))) (fun a _ _ _ _ => (intOf a).toNat)
  case atStart => exact ⟨0, 0, n, vc, 0, Nat.zero_le _, Nat.le_refl _, rfl, rfl, rfl, rfl, rfl, rfl, fun _ => rfl, Keep.refl _ _, HY.out, by simpa using HB.out, HV.out⟩
  case round =>
    obtain ⟨k, s, r, c, mx, hk, hmx, rfl, rfl, rfl, rfl, hr, hc, hs, kk, hY, hP, hV⟩ := hrel
    have y1 := hY.cell (i := 1) rfl
    have y2 := hY.cell (i := 2) rfl
    have y3 := hY.cell (i := 3) rfl
    have y0 := hY.cell (i := 0) rfl
    have y4 := hY.cell (i := 4) rfl
    have y5 := hY.cell (i := 5) rfl
    have fy := hY.unfrozen
    by_cases hk2 : k < n
    · have hsk := hs hk2
      subst hsk
      have hr0 : 0 < r := by omega
      have hr0i : (0 : Int) < (r : Int) := by omega
      obtain ⟨b, hb⟩ : ∃ b, b = min 1024 r := ⟨_, rfl⟩
      have hMb : ∀ w, Calls Tryz.prog 122 #[.int .i64 1024, .int .i64 (r : Int)] w fun e w' => e = .returned (.int .i64 (b : Int)) ∧ w = w' := fun w => by
        rw [hb]; exact (min64C 1024 r w).mono fun e w' ⟨a, b⟩ => ⟨a, b.symm⟩
      have hrc : r ≤ c := by omega
      have hbr : b ≤ r := by omega
      have hb0 : 0 < b := by omega
      have hbc : (b : Int) ≤ (c : Int) := by omega
      have hc0 : ¬ c = 0 := by omega
      have hsr : s + r = n := by omega
      obtain ⟨r2, hr2⟩ : ∃ x, x = r - b := ⟨_, rfl⟩
      obtain ⟨k2, hk2'⟩ : ∃ x, x = s + b := ⟨_, rfl⟩
      have hr2i : (r : Int) - (b : Int) = (r2 : Int) := by omega
      have hk2i : (s : Int) + (b : Int) = (k2 : Int) := by omega
      have hk2n : k2 ≤ n := by omega
      have hr2n : r2 = n - k2 := by omega
      have Hr2 := Lib.hid (And.intro hr2 hr2n)
      have Hk2 := Lib.hid hk2'
      have Hc := Lib.hid hc
      have HY := Lib.hid hY
      have HP := Lib.hid hP
      have HV := Lib.hid hV
      clear hb hr2 hr2n hk2' hc hr hY hP hV hs
      go_wp2_with (go_at_call 122; refine (hMb _).mono ?_; rintro e w' ⟨rfl, rfl⟩)
      refine wp_region_mid 11 (by kernel_rfl) (by kernel_rfl) ?_
      simp only [List.take_succ_cons, List.take_zero, List.drop_succ_cons, List.drop_zero]
      change wpStill _ _ (World.drew _) _ _ _
      repeat still_step
      refine wpStill_nil ?_
      go_wp2_with fail
      refine (decGetBatchLevels B (L.drop s) v s b c g _ _ (HP.out.keep (S := []) (Keep.refl [] _).drew (by simp) (by simp) (by simp) (by simp) (by simp)) HV.out.drew vt vq vx vd ve (by rw [length_splice _ _ _ (by simp; have := HL.out; omega)]; omega) (by rw [List.length_drop]; have := HL.out; omega) (by omega) (by omega) hW15 (fun z hz => Hsm.out z (List.mem_of_mem_drop hz))).mono ?_
      rintro e w2 ⟨m3, hm3, rfl, k3, hD2, hV2⟩
      have kd2 : Keep [B.t, B.q, B.x, v] wr w2 := (Keep.refl [B.t, B.q, B.x, v] wr).drew.trans k3 (fun z hz => .inl hz)
      have hP2 : DecAt B w2 (L.drop k2) := by rw [Hk2.out, ← List.drop_drop]; exact hD2
      have hls : (L.take s).length = s := by rw [List.length_take]; have := HL.out; omega
      have hlb : ((L.drop s).take b).length = b := by rw [List.length_take, List.length_drop]; have := HL.out; omega
      have hsp := splice_then vcs (rowV .i16 (L.take s)) (rowV .i16 ((L.drop s).take b)) 0 (by rw [length_rowV, length_rowV, hls, hlb]; omega)
      rw [length_rowV, hls, Nat.zero_add] at hsp
      rw [hsp, ← rowV_append, ← List.take_add, ← Hk2.out] at hV2
      clear hsp hls hlb hD2 k3
      have hY2 := HY.out.keep kd2 (by simp; exact ⟨yt, yq, yx, Ne.symm vy⟩)
      have y12 := hY2.cell (i := 1) rfl
      have fy2 := hY2.unfrozen
      have HY2 := Lib.hid hY2
      have HP2 := Lib.hid hP2
      have HV2 := Lib.hid hV2
      have KK2 := Lib.hid (kk.trans kd2 (by simp))
      clear hY2 hP2 hV2 kd2 y0 y1 y2 y3 y4 y5 fy
      go_wp2_with fail
      repeat still_step
      refine wpStill_nil ?_
      by_cases hcb : c = b
      · go_wp2
        go_roundw
        case rel =>
          have hkn : k2 = n := by have := Hk2.out; omega
          have hrz : r2 = 0 := by have := Hr2.out.2; omega
          refine ⟨k2, s, r2, c - b, mx + m3, hk2n, by have := Hk2.out; omega, by go_num, rfl, by go_num, ?_, Hr2.out.2, by have := Hk2.out; have := Hc.out; omega, fun h => by omega, KK2.out.set (by simp) _ _ _, HY2.out.set 1 (.int .i64 (r2 : Int)), HP2.out.keep ((Keep.refl [y] w2).set (b := y) (by simp) 1 none (.int .i64 (r2 : Int))) (by simp; exact Ne.symm yt) (by simp; exact Ne.symm yq) (by simp; exact Ne.symm yx) (by simp; exact Ne.symm yd) (by simp; exact Ne.symm ye), HV2.out.set_other vy _ _ _⟩
          rw [Hr2.out.1, hcb]; simp
        case measure => simp [intOf]; have := Hr2.out.1; omega
      · go_wp2
        go_roundw
        case rel =>
          refine ⟨k2, k2, r2, c - b, mx + m3, hk2n, by have := Hk2.out; omega, by go_num, rfl, by go_num, by rw [Hr2.out.1, Hk2.out], Hr2.out.2, by have := Hk2.out; have := Hc.out; omega, fun h => rfl, KK2.out.set (by simp) _ _ _, HY2.out.set 1 (.int .i64 (r2 : Int)), HP2.out.keep ((Keep.refl [y] w2).set (b := y) (by simp) 1 none (.int .i64 (r2 : Int))) (by simp; exact Ne.symm yt) (by simp; exact Ne.symm yq) (by simp; exact Ne.symm yx) (by simp; exact Ne.symm yd) (by simp; exact Ne.symm ye), HV2.out.set_other vy _ _ _⟩
        case measure => simp [intOf]; have := Hr2.out.1; omega
    · have hkn : k = n := by omega
      subst hkn
      have hr0 : r = 0 := by omega
      subst hr0
      have HV := Lib.hid hV
      clear hY hP hV hs y0 y1 y2 y3 y4 y5 fy hr
      go_wp2
      go_ret3
      exact ⟨mx, rfl, kk, HV.out⟩

set_option maxRecDepth 100000 in
set_option maxHeartbeats 4000000 in
/-- SetData, by runs: behind four bytes of the length. -/
theorem setRle (y g n d nb cap x0 x1 x2 x3 : Nat) (ea : Addr) (D : List Nat) (cs : List Value) (w : World) (hy : Blk w y (ldCells 0 0 0 0 (.pointer none) (.pointer none))) (h0 : 0 < g) (h1 : g ≤ 16384) (hn : n ≤ 1000000) (hd : Blk w d cs)
    (l0 : x0 < 256) (l1 : x1 < 256) (l2 : x2 < 256) (l3 : x3 < 256) (h00 : cs[0]? = some (.int .u8 (x0 : Int))) (h01 : cs[1]? = some (.int .u8 (x1 : Int))) (h02 : cs[2]? = some (.int .u8 (x2 : Int))) (h03 : cs[3]? = some (.int .u8 (x3 : Int))) (hnb : leVal [x0, x1, x2, x3] = nb) (hnb0 : 0 < nb) (hnb9 : nb ≤ 600000000)
    (hD : BytesAt w d 4 nb (cap - 4) D) (hE : Eof w ea) (yd : y ≠ d) (ye : y ≠ 4) (hcap : nb + 4 ≤ cap) (rs : List Rn) (hrs : ∀ r ∈ rs, Rn.Ok (bitLen g) r) (hDr : D = encR (bitLen g) rs) :
    Calls Tryz.prog 79 #[.pointer (some ⟨y, 0, none⟩), .int .i64 3, .int .i16 (g : Int), .int .i64 (n : Int), .slice (some ⟨d, 0, none⟩) (4 + nb) cap] w fun e w' =>
      ∃ u : Nat, e = .returned (.tuple #[.int .i64 (u : Int), .nilIface]) ∧ Keep [y] w w' ∧ ∃ B : DecB, B.d = d ∧ B.W = bitLen g ∧ w.heap.size ≤ B.t ∧ w.heap.size ≤ B.q ∧ w.heap.size ≤ B.x ∧ Blk w' y (ldCells (bitLen g) n g 3 (.pointer (some ⟨B.t, 0, none⟩)) (.pointer none)) ∧ DecAt B w' (valsR rs) := by
  have hLen := fun w => (len64C g w (by omega)).mono fun e w' ⟨a, b⟩ => (show e = _ ∧ w = w' from ⟨a, b.symm⟩)
  obtain ⟨hW0, hW15, -⟩ := width_spec g h0 h1
  obtain ⟨W, hWd⟩ : ∃ W, W = bitLen g := ⟨_, rfl⟩
  rw [← hWd] at hLen hW0 hW15 hrs hDr ⊢
  have fy := hy.unfrozen
  have y0 := hy.cell (i := 0) rfl
  have y1 := hy.cell (i := 1) rfl
  have y2 := hy.cell (i := 2) rfl
  have y3 := hy.cell (i := 3) rfl
  have y4 := hy.cell (i := 4) rfl
  have yl := hy.lt
  have dl := hd.lt
  have el := hE.lt
  have hle := le_run
  have hl4 : ¬ ((4 : Int) + (nb : Int)) < 4 := by omega
  have hl5 : (4 : Int) + (nb : Int) - 4 = (nb : Int) := by omega
  have hc4 : ¬ cap = 4 := by omega
  obtain ⟨w1, hw1⟩ : ∃ w1, w1 = ((((w.setCell ⟨y, 2, none⟩ (.int .i16 (g : Int))).setCell ⟨y, 3, none⟩ (.int .i64 3)).setCell ⟨y, 1, none⟩ (.int .i64 (n : Int))).setCell ⟨y, 0, none⟩ (.int .i64 (W : Int))) := ⟨_, rfl⟩
  have K1 : Keep [y] w w1 := by rw [hw1]; exact ((((Keep.refl _ w).set (by simp) _ _ _).set (by simp) _ _ _).set (by simp) _ _ _).set (by simp) _ _ _
  have hy1 : Blk w1 y (ldCells W n g 3 (.pointer none) (.pointer none)) := by
    rw [hw1]; exact (((hy.set 2 (.int .i16 (g : Int))).set 3 (.int .i64 ((3 : Nat) : Int))).set 1 (.int .i64 (n : Int))).set 0 (.int .i64 (W : Int))
  have hs1 : w1.heap.size = w.heap.size := by rw [hw1]; simp
  have hd1 := hd.keep K1 (by simp; exact Ne.symm yd)
  have hD1 := hD.keep K1 (by simp; exact Ne.symm yd)
  have hE1 := hE.keep K1 (by simp; exact Ne.symm ye)
  have HY1 := Lib.hid hy1
  have HD1 := Lib.hid hD1
  have HE1 := Lib.hid hE1
  have Hd1 := Lib.hid hd1
  have HS1 := Lib.hid hs1
  have HK1 := Lib.hid K1
  have Hrs := Lib.hid (And.intro hrs hDr)
  have Hnb := Lib.hid hnb
  clear hWd hy hd hD hE hy1 hD1 hE1 hd1 hs1 K1 hrs hDr hnb
  go_enter Tryz.func79, Tryz.ntmps79
  go_wp2_with (go_at_call 116; refine (hLen _).mono ?_; rintro e w' ⟨rfl, rfl⟩)
  rw [← hw1]
  clear hw1 fy y0 y1 y2 y3 y4
  have h4c : (4 : Int) ≤ (cap : Int) := by omega
  have hcap0 : ¬ cap = 0 := by omega
  refine wp_region_mid 3 (by kernel_rfl) (by kernel_rfl) ?_
  simp only [List.take_succ_cons, List.take_zero, List.drop_succ_cons, List.drop_zero]
  change wpStill _ _ (World.drew _) _ _ _
  repeat still_step
  refine wpStill_nil ?_
  go_wp2_with fail
  refine (uint32C d 0 4 cap x0 x1 x2 x3 cs _ Hd1.out.drew (by omega) (by omega) h00 h01 h02 h03 l0 l1 l2 l3).mono ?_
  rw [Hnb.out]
  rintro e w2 ⟨rfl, k2, hs2⟩
  have K2 : Keep [y] w w2 := (HK1.out.drew).trans k2 (by simp)
  have hy2 := HY1.out.drew.keep k2 (by simp)
  have hD2 := (HD1.out.keep (S := []) (Keep.refl [] w1).drew (by simp)).keep k2 (by simp)
  have hE2 := (HE1.out.keep (S := []) (Keep.refl [] w1).drew (by simp)).keep k2 (by simp)
  have fy2 := hy2.unfrozen
  have yl2 := hy2.lt
  have yn2 : ¬ y = w2.heap.size := by omega
  have yn3 : ¬ y = w2.heap.size + 1 := by omega
  have yn4 : ¬ y = w2.heap.size + 1 + 1 := by omega
  have z0 := hy2.cell (i := 0) rfl
  have z4 := hy2.cell (i := 4) rfl
  have HY2 := Lib.hid hy2
  have HD2 := Lib.hid hD2
  have HE2 := Lib.hid hE2
  have HK2 := Lib.hid K2
  have hsz : w2.heap.size = w.heap.size + 1 := by rw [hs2]; simp; exact HS1.out
  have Hsz := Lib.hid hsz
  obtain ⟨o1, ho1⟩ : ∃ o1 : Nat → Obj, o1 = fun x => .cells (brCells x 0 0 0 0 (List.replicate 8 0) (List.replicate 1024 0)).toArray 247 := ⟨_, rfl⟩
  have hN : ∀ x w, Calls Tryz.prog 42 #[.pointer (some ⟨x, 0, none⟩), .int .i64 (W : Int)] w fun e w' => e = .returned (.pointer (some ⟨w.heap.size + 1, 0, none⟩)) ∧ w' = (w.alloc (o1 x)).alloc (.cells (decCells w.heap.size W 0 0 0).toArray 184) := fun x w => by
    rw [ho1]; exact newRleDecoder x W w
  have Ho1 := Lib.hid ho1
  have h4n : (4 : Int) + (nb : Int) ≤ (cap : Int) := by omega
  clear hy2 hD2 hE2 K2 hsz ho1 hs2 k2
  go_wp2_with fail
  repeat still_step
  refine wpStill_nil ?_
  go_wp2_with fail
  go_region_with (first | (go_at_call 43; refine (newReaderC _ _ _ _ _ rfl).mono ?_; rintro e w' ⟨rfl, rfl⟩) | (go_at_call 42; refine (hN _ _).mono ?_; rintro e w5 ⟨rfl, hw5⟩; have hY5 : Blk w5 y (ldCells W n g 3 (.pointer none) (.pointer none)) := (by rw [hw5]; first | exact (((HY2.out.drewN _).alloc _).alloc _).alloc _ | exact ((HY2.out.drew.alloc _).alloc _).alloc _ | exact (((HY2.out.alloc _).drewN _).alloc _).alloc _); have z45 := hY5.cell (i := 4) rfl; have fy5 := hY5.unfrozen; have HY5 := Lib.hid hY5; have HW5 := Lib.hid hw5; clear hY5 hw5))
  all_goals
    go_wp2
    go_ret2
    have hw5 := HW5.out
    rw [Ho1.out] at hw5
    obtain ⟨hrs, hDr⟩ := Hrs.out
    have hsz := Hsz.out
    have KX : Keep [] w2 ((w2.alloc (Obj.cells #[Value.slice (some ⟨d, 4, none⟩) nb (cap - 4), Value.int .i64 0, Value.int .i64 (-1)] 120)).drew) := ((Keep.refl [] w2).alloc _).drew
    have hx : Blk ((w2.alloc (Obj.cells #[Value.slice (some ⟨d, 4, none⟩) nb (cap - 4), Value.int .i64 0, Value.int .i64 (-1)] 120)).drew) w2.heap.size [.slice (some ⟨d, 4, none⟩) nb (cap - 4), .int .i64 0, .int .i64 (-1)] := (Blk.of_new (cs := [.slice (some ⟨d, 4, none⟩) nb (cap - 4), .int .i64 0, .int .i64 (-1)]) rfl).drew
    have hsX : ((w2.alloc (Obj.cells #[Value.slice (some ⟨d, 4, none⟩) nb (cap - 4), Value.int .i64 0, Value.int .i64 (-1)] 120)).drew).heap.size = w2.heap.size + 1 := by simp
    have K5 : Keep [y] w w5 := by rw [hw5]; exact (((HK2.out.alloc _).drew).alloc _).alloc _
    have hdec := DecAt.fresh (W := W) (rest := []) (List.replicate 8 0) (List.replicate 1024 0) List.length_replicate unp_zero hw5 hx (HD2.out.keep KX (by simp)) (HE2.out.keep KX (by simp)) (by omega) (by omega) hW0 (by omega) (by omega) hrs (by simpa using hDr)
    rw [hsX] at hdec
    have KY : Keep [y] w5 (w5.setCell ⟨y, 4, none⟩ (.pointer (some ⟨w2.heap.size + 1 + 1, 0, none⟩))) := (Keep.refl _ w5).set (by simp) _ _ _
    exact ⟨nb + 4, rfl, K5.set (by simp) _ _ _, ⟨w2.heap.size + 1 + 1, w2.heap.size + 1, w2.heap.size, d, 4, nb, cap - 4, ea, D, W⟩, rfl, rfl, by show w.heap.size ≤ w2.heap.size + 1 + 1; omega, by show w.heap.size ≤ w2.heap.size + 1; omega, by show w.heap.size ≤ w2.heap.size; omega, HY5.out.set 4 _,
      hdec.keep KY (by simp; omega) (by simp; omega) (by simp; omega) (by simp; exact Ne.symm yd) (by simp; exact Ne.symm ye)⟩
end Go.Proofs.YtlolcgklcnechaaGreatDoor
