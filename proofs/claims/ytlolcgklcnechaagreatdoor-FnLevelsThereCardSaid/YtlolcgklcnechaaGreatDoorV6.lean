/- The level decoder: SetData, Decode. -/
import Derived.Test.YtlolcgklcnechaaGreatDoorV4
import Derived.Test.YtlolcgklcnechaaGreatDoorV2
import Derived.Test.YtlolcgklcnechaaGreatDoorU13
set_option linter.unusedVariables false
set_option linter.unusedSimpArgs false
namespace Go.Proofs.YtlolcgklcnechaaGreatDoor
open Go.RowKit

/-- The level decoder's cells. -/
def ldCells (W rem g enc : Nat) (r b : Value) : List Value := [.int .i64 (W : Int), .int .i64 (rem : Int), .int .i16 (g : Int), .int .i64 (enc : Int), r, b]

theorem min64C (a b : Nat) (w : World) :
    Calls Tryz.prog 122 #[.int .i64 (a : Int), .int .i64 (b : Int)] w fun e w' => e = .returned (.int .i64 ((min a b : Nat) : Int)) ∧ w' = w := by
  by_cases h : a < b
  · have h1 : (a : Int) < (b : Int) := by omega
    rw [Nat.min_eq_left (by omega)]
    go_enter Tryz.func122, Tryz.ntmps122
    go_wp2
    go_ret
    exact ⟨rfl, rfl⟩
  · have h1 : ¬ (a : Int) < (b : Int) := by omega
    rw [Nat.min_eq_right (by omega)]
    go_enter Tryz.func122, Tryz.ntmps122
    go_wp2
    go_ret
    exact ⟨rfl, rfl⟩

set_option maxRecDepth 100000 in
theorem mulC (a b : Nat) (w : World) (ha0 : 0 < a) (hb0 : 0 < b) (ha : a ≤ 1000000) (hb : b ≤ 1000000) :
    Calls Tryz.prog 120 #[.int .i64 (a : Int), .int .i64 (b : Int)] w fun e w' => e = .returned (.tuple #[.int .i64 ((a * b : Nat) : Int), .bool true]) ∧ w' = w := by
  obtain ⟨t, ht⟩ : ∃ t, t = a * b := ⟨_, rfl⟩
  have hti : (a : Int) * (b : Int) = (t : Int) := by rw [ht]; simp
  have htb : t ≤ 1000000 * 1000000 := by rw [ht]; exact Nat.mul_le_mul ha hb
  have ht0 : 0 < t := by rw [ht]; exact Nat.mul_pos ha0 hb0
  have ht0i : (0 : Int) < (t : Int) := by omega
  have ha1 : ((a : Int) == 0) = false := by rw [beq_eq_false_iff_ne]; omega
  have hb1 : ((b : Int) == 0) = false := by rw [beq_eq_false_iff_ne]; omega
  rw [← ht]
  clear ht
  go_enter Tryz.func120, Tryz.ntmps120
  go_wp2
  go_ret2
  exact ⟨rfl, rfl⟩

set_option maxRecDepth 100000 in
set_option maxHeartbeats 4000000 in
/-- SetData, bit-packed. -/
theorem setPacked (y g n d len cap : Nat) (ea : Addr) (D : List Nat) (w : World) (hy : Blk w y (ldCells 0 0 0 0 (.pointer none) (.pointer none))) (h0 : 0 < g) (h1 : g ≤ 16384) (hn0 : 0 < n) (hn : n ≤ 1000000) (hD : BytesAt w d 0 len cap D) (hE : Eof w ea) (hlen : (n * bitLen g + 7) / 8 ≤ len) (hl9 : len ≤ 1000000000) (yd : y ≠ d) (ye : y ≠ 4) :
    Calls Tryz.prog 79 #[.pointer (some ⟨y, 0, none⟩), .int .i64 4, .int .i16 (g : Int), .int .i64 (n : Int), .slice (some ⟨d, 0, none⟩) len cap] w fun e w' =>
      ∃ u : Nat, e = .returned (.tuple #[.int .i64 (u : Int), .nilIface]) ∧ Keep [y] w w' ∧ ∃ q x, w.heap.size ≤ q ∧ w.heap.size ≤ x ∧ Blk w' y (ldCells (bitLen g) n g 4 (.pointer none) (.pointer (some ⟨q, 0, none⟩))) ∧ ∃ buf vb, BR w' q x d 0 len cap ea D buf 0 0 vb := by
  have hLen := fun w => (len64C g w (by omega)).mono fun e w' ⟨a, b⟩ => (show e = _ ∧ w = w' from ⟨a, b.symm⟩)
  obtain ⟨hW0, hW15, -⟩ := width_spec g h0 h1
  obtain ⟨W, hWd⟩ : ∃ W, W = bitLen g := ⟨_, rfl⟩
  rw [← hWd] at hLen hlen hW0 hW15 ⊢
  have hM := fun w => (mulC n W w hn0 hW0 hn (by omega)).mono fun e w' ⟨a, b⟩ => (show e = _ ∧ w = w' from ⟨a, b.symm⟩)
  obtain ⟨t, ht⟩ : ∃ t, t = n * W := ⟨_, rfl⟩
  rw [← ht] at hM hlen
  have htb : t ≤ 1000000 * 15 := by rw [ht]; exact Nat.mul_le_mul hn hW15
  obtain ⟨u, hu⟩ : ∃ u, u = (t + 7) / 8 := ⟨_, rfl⟩
  have hBy := fun w => bytesForBitsN t u w hu (by omega)
  rw [← hu] at hlen
  have hui : ¬ (len : Int) < (u : Int) := by omega
  have fy := hy.unfrozen
  have y0 := hy.cell (i := 0) rfl
  have y1 := hy.cell (i := 1) rfl
  have y2 := hy.cell (i := 2) rfl
  have y3 := hy.cell (i := 3) rfl
  have y5 := hy.cell (i := 5) rfl
  have HY := Lib.hid hy
  have HD := Lib.hid hD
  have HE := Lib.hid hE
  have yl := hy.lt
  have dl : d < w.heap.size := by obtain ⟨⟨cs, h, _⟩, _⟩ := hD; exact h.lt
  have el := hE.lt
  clear hWd ht hu hy hD hE
  go_enter Tryz.func79, Tryz.ntmps79
  go_wp2_with (first
    | (go_at_call 116; refine (hLen _).mono ?_; rintro e w' ⟨rfl, rfl⟩)
    | (go_at_call 120; refine (hM _).mono ?_; rintro e w' ⟨rfl, rfl⟩)
    | (go_at_call 83; refine (hBy _).mono ?_; rintro e w' ⟨rfl, rfl⟩)
    | (go_at_call 43; refine (newReaderC _ _ _ _ _ rfl).mono ?_; rintro e w' ⟨rfl, rfl⟩))
  refine (newBitReader w.heap.size _).mono ?_
  rintro e w4 ⟨rfl, hw4⟩
  have K4 : Keep [y] w w4 := by
    rw [hw4]
    exact ((((((Keep.refl _ w).set (by simp) _ _ _).set (by simp) _ _ _).set (by simp) _ _ _).set (by simp) _ _ _).alloc _).alloc _
  have hy4 : Blk w4 y (ldCells W n g 4 (.pointer none) (.pointer none)) := by
    rw [hw4]
    exact (((((HY.out.set 2 (.int .i16 (g : Int))).set 3 (.int .i64 ((4 : Nat) : Int))).set 1 (.int .i64 (n : Int))).set 0 (.int .i64 (W : Int))).alloc _).alloc _
  have hx4 : Blk w4 w.heap.size [.slice (some ⟨d, 0, none⟩) len cap, .int .i64 0, .int .i64 (-1)] := by
    rw [hw4]
    exact (Blk.of_new (cs := [.slice (some ⟨d, 0, none⟩) len cap, .int .i64 0, .int .i64 (-1)]) (by simp)).alloc _
  have hq4 : Blk w4 (w.heap.size + 1) (brCells w.heap.size 0 0 0 0 (List.replicate 8 0) (List.replicate 1024 0)) := by
    rw [hw4]
    exact Blk.of_new (by simp)
  have fy4 := hy4.unfrozen
  have y54 := hy4.cell (i := 5) rfl
  have HY4 := Lib.hid hy4
  have HX4 := Lib.hid hx4
  have HQ4 := Lib.hid hq4
  clear hw4 hy4 hx4 hq4 fy y0 y1 y2 y3 y5
  go_wp2
  go_ret2
  have K5 := K4.set (b := y) (by simp) 5 none (.pointer (some ⟨w.heap.size + 1, 0, none⟩))
  refine ⟨u, rfl, K5, w.heap.size + 1, w.heap.size, by omega, Nat.le_refl _, HY4.out.set 5 _, 0, 0, ⟨List.replicate 8 0, List.replicate 1024 0, List.length_replicate, unp_zero, HQ4.out.set_other (by omega) _ _ _⟩, ⟨0, -1, HX4.out.set_other (by omega) _ _ _⟩, HD.out.keep K5 (by simp; exact Ne.symm yd), HE.out.keep K5 (by simp; exact Ne.symm ye), by omega, by omega, by omega, by omega, by omega⟩

set_option maxRecDepth 100000 in
set_option maxHeartbeats 4000000 in
/-- Decode, bit-packed: one batch of all that is there. -/
theorem decodePacked (y q x g W n d len cap vc : Nat) (ea : Addr) (D : List Nat) (v : Nat) (vcs : List Value) (w : World) (hy : Blk w y (ldCells W n g 4 (.pointer none) (.pointer (some ⟨q, 0, none⟩)))) (hW0 : 0 < W) (hW15 : W ≤ 15)
    (hB : PackAt w q x d 0 len cap ea D 0) (hv : Blk w v vcs) (vl : vcs.length = n) (hnc : n ≤ vc) (vq : v ≠ q) (vx : v ≠ x) (vd : v ≠ d) (ve : v ≠ 4) (vy : v ≠ y) (yq : y ≠ q) (yx : y ≠ x) (yd : y ≠ d) (ye : y ≠ 4) (hn : n ≤ 1000000) (hl9 : len ≤ 1000000000) (hfit : W * n ≤ 8 * len) :
    Calls Tryz.prog 80 #[.pointer (some ⟨y, 0, none⟩), .slice (some ⟨v, 0, none⟩) n vc] w fun e w' =>
      ∃ mx : Nat, e = .returned (.tuple #[.int .i64 (n : Int), .int .i64 (mx : Int), .nilIface]) ∧ Keep [y, q, x, v] w w' ∧ Blk w' v (splice vcs 0 (rowV .i16 (bitVals D 0 W n))) := by
  have hV0 : Blk w v (splice vcs 0 (rowV .i16 (bitVals D 0 W 0))) := by simpa [bitVals, splice, rowV] using hv
  have hMn : ∀ w, Calls Tryz.prog 122 #[.int .i64 (n : Int), .int .i64 (n : Int)] w fun e w' => e = .returned (.int .i64 (n : Int)) ∧ w = w' := fun w =>
    (min64C n n w).mono fun e w' ⟨a, b⟩ => ⟨by rw [a, Nat.min_self], b.symm⟩
  have y1 := hy.cell (i := 1) rfl
  have Hfit := Lib.hid hfit
  have HB := Lib.hid hB
  have HY := Lib.hid hy
  have HV := Lib.hid hV0
  clear hv hfit hB hy hV0
  go_enter Tryz.func80, Tryz.ntmps80
  go_wp2_with (go_at_call 122; refine (hMn _).mono ?_; rintro e w' ⟨rfl, rfl⟩)
  clear hMn y1
  go_loopw [12, 7, 9, 1] (fun a t m4 l wr => ∃ k s r c mx : Nat, k ≤ n ∧ mx ≤ k ∧ a = .int .i64 (r : Int) ∧ t = .int .i64 (k : Int) ∧ m4 = .int .i64 (mx : Int) ∧ l = .slice (some ⟨v, s, none⟩) r c ∧ r = n - k ∧ c = vc - k ∧ (k < n → s = k) ∧ Keep [y, q, x, v] w wr ∧
    Blk wr y (ldCells W r g 4 (.pointer none) (.pointer (some ⟨q, 0, none⟩))) ∧ PackAt wr q x d 0 len cap ea D (W * k) ∧ Blk wr v (splice vcs 0 (rowV .i16 (bitVals D 0 W k)))) (fun a _ _ _ _ => (intOf a).toNat)
  case atStart => exact ⟨0, 0, n, vc, 0, Nat.zero_le _, Nat.le_refl _, rfl, rfl, rfl, rfl, rfl, rfl, fun _ => rfl, Keep.refl _ _, HY.out, by simpa using HB.out, HV.out⟩
  case round =>
    obtain ⟨k, s, r, c, mx, hk, hmx, rfl, rfl, rfl, rfl, hr, hc, hs, kk, hY, hP, hV⟩ := hrel
    have y1 := hY.cell (i := 1) rfl
    have y2 := hY.cell (i := 2) rfl
    have y3 := hY.cell (i := 3) rfl
    have y0 := hY.cell (i := 0) rfl
    have y4 := hY.cell (i := 4) rfl
    have y5 := hY.cell (i := 5) rfl
    have fy := hY.unfrozen
    by_cases hk2 : k < n
    · have hsk := hs hk2
      subst hsk
      have hr0 : 0 < r := by omega
      have hr0i : (0 : Int) < (r : Int) := by omega
      obtain ⟨b, hb⟩ : ∃ b, b = min 1024 r := ⟨_, rfl⟩
      have hMb : ∀ w, Calls Tryz.prog 122 #[.int .i64 1024, .int .i64 (r : Int)] w fun e w' => e = .returned (.int .i64 (b : Int)) ∧ w = w' := fun w => by
        rw [hb]; exact (min64C 1024 r w).mono fun e w' ⟨a, b⟩ => ⟨a, b.symm⟩
      have hrc : r ≤ c := by omega
      have hbr : b ≤ r := by omega
      have hb0 : 0 < b := by omega
      have hbc : (b : Int) ≤ (c : Int) := by omega
      have hc0 : ¬ c = 0 := by omega
      have hsr : s + r = n := by omega
      obtain ⟨r2, hr2⟩ : ∃ x, x = r - b := ⟨_, rfl⟩
      obtain ⟨k2, hk2'⟩ : ∃ x, x = s + b := ⟨_, rfl⟩
      have hr2i : (r : Int) - (b : Int) = (r2 : Int) := by omega
      have hk2i : (s : Int) + (b : Int) = (k2 : Int) := by omega
      have hk2n : k2 ≤ n := by omega
      have hr2n : r2 = n - k2 := by omega
      have Hr2 := Lib.hid (And.intro hr2 hr2n)
      have Hk2 := Lib.hid hk2'
      have Hc := Lib.hid hc
      have HY := Lib.hid hY
      have HP := Lib.hid hP
      have HV := Lib.hid hV
      clear hb hr2 hr2n hk2' hc hr hY hP hV hs
      go_wp2_with (go_at_call 122; refine (hMb _).mono ?_; rintro e w' ⟨rfl, rfl⟩)
      refine wp_region_mid 16 (by kernel_rfl) (by kernel_rfl) ?_
      simp only [List.take_succ_cons, List.take_zero, List.drop_succ_cons, List.drop_zero]
      change wpStill _ _ (World.drew _) _ _ _
      repeat still_step
      refine wpStill_nil ?_
      go_wp2_with fail
      have hfb : W * s + W * b ≤ 8 * len := by
        have h1 : W * s + W * b ≤ W * n := by rw [← Nat.mul_add]; exact Nat.mul_le_mul_left _ (by omega)
        have h2 := Hfit.out
        omega
      refine (getBatchLevelsP q x d 0 len cap ea D v s b c W (W * s) g _ _ (HP.out.keep (S := []) (Keep.refl [] _).drew (by simp) (by simp) (by simp) (by simp)) hW0 hW15 HV.out.drew vq vx vd ve (by rw [length_splice _ _ _ (by simp; omega)]; omega) hb0 (by omega) (by omega) hfb).mono ?_
      rintro e w2 ⟨m3, hm3, rfl, k3, bo2, bi2, hp2, hb2, hB2, hV2⟩
      have kd2 : Keep [q, x, v] wr w2 := (Keep.refl [q, x, v] wr).drew.trans k3 (fun z hz => .inl hz)
      have hP2 : PackAt w2 q x d 0 len cap ea D (W * k2) := ⟨bo2, bi2, by rw [Hk2.out, Nat.mul_add]; exact hp2, hb2, .inl hB2⟩
      have hsp := splice_then vcs (rowV .i16 (bitVals D 0 W s)) (rowV .i16 (bitVals D (W * s) W b)) 0 (by simp; omega)
      rw [length_rowV, length_bitVals, Nat.zero_add] at hsp
      have hba := bitVals_add D 0 W s b
      rw [Nat.zero_add, ← Hk2.out] at hba
      rw [hsp, ← rowV_append, ← hba] at hV2
      clear hsp hba hB2 hp2 hb2 k3 hfb
      have hY2 := HY.out.keep kd2 (by simp; exact ⟨yq, yx, Ne.symm vy⟩)
      have y12 := hY2.cell (i := 1) rfl
      have fy2 := hY2.unfrozen
      have HY2 := Lib.hid hY2
      have HP2 := Lib.hid hP2
      have HV2 := Lib.hid hV2
      have KK2 := Lib.hid (kk.trans kd2 (by simp))
      clear hY2 hP2 hV2 kd2 y0 y1 y2 y3 y4 y5 fy
      go_wp2_with fail
      repeat still_step
      refine wpStill_nil ?_
      by_cases hcb : c = b
      · go_wp2
        go_roundw
        case rel =>
          have hkn : k2 = n := by have := Hk2.out; omega
          have hrz : r2 = 0 := by have := Hr2.out.2; omega
          refine ⟨k2, s, r2, c - b, mx + m3, hk2n, by have := Hk2.out; omega, by go_num, rfl, by go_num, ?_, Hr2.out.2, by have := Hk2.out; have := Hc.out; omega, fun h => by omega, KK2.out.set (by simp) _ _ _, HY2.out.set 1 (.int .i64 (r2 : Int)), HP2.out.keep ((Keep.refl [y] w2).set (b := y) (by simp) 1 none (.int .i64 (r2 : Int))) (by simp; exact Ne.symm yq) (by simp; exact Ne.symm yx) (by simp; exact Ne.symm yd) (by simp; exact Ne.symm ye), HV2.out.set_other vy _ _ _⟩
          rw [Hr2.out.1, hcb]; simp
        case measure => simp [intOf]; have := Hr2.out.1; omega
      · go_wp2
        go_roundw
        case rel =>
          refine ⟨k2, k2, r2, c - b, mx + m3, hk2n, by have := Hk2.out; omega, by go_num, rfl, by go_num, by rw [Hr2.out.1, Hk2.out], Hr2.out.2, by have := Hk2.out; have := Hc.out; omega, fun h => rfl, KK2.out.set (by simp) _ _ _, HY2.out.set 1 (.int .i64 (r2 : Int)), HP2.out.keep ((Keep.refl [y] w2).set (b := y) (by simp) 1 none (.int .i64 (r2 : Int))) (by simp; exact Ne.symm yq) (by simp; exact Ne.symm yx) (by simp; exact Ne.symm yd) (by simp; exact Ne.symm ye), HV2.out.set_other vy _ _ _⟩
        case measure => simp [intOf]; have := Hr2.out.1; omega
    · have hkn : k = n := by omega
      subst hkn
      have hr0 : r = 0 := by omega
      subst hr0
      have HV := Lib.hid hV
      clear hY hP hV hs y0 y1 y2 y3 y4 y5 fy hr
      go_wp2
      go_ret3
      exact ⟨mx, rfl, kk, HV.out⟩
end Go.Proofs.YtlolcgklcnechaaGreatDoor
