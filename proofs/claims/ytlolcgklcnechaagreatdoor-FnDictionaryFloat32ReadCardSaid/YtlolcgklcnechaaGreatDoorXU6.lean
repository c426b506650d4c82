/- unpack24_32, unpack28_32. (Printed by gen_u6.py.) -/
import Derived.Test.YtlolcgklcnechaaGreatDoorXU5
set_option linter.unusedVariables false
set_option linter.unusedSimpArgs false
namespace Go.Proofs.YtlolcgklcnechaaGreatDoor
open Go.RowKit

theorem UW.drew {w0 : World} {g go z : Nat} {x : XP} {d o n cap : Nat} {D : List Nat} {cs0 : List Value} {μ : Mem} {w : World} (h : UW w0 g go z x d o n cap D cs0 μ w) : UW w0 g go z x d o n cap D cs0 μ w.drew :=
  ⟨h.hg.drew, h.hz.drew, let ⟨pr, hx⟩ := h.hx; ⟨pr, hx.drew⟩, h.hD.keep (S := []) (Keep.refl [] w).drew (by simp), h.K.drew, h.len, h.b32, h.wd⟩

theorem getD_set_self {l : List Nat} {k v : Nat} (h : k < l.length) : (l.set k v).getD k 0 = v := by
  rw [List.getD_eq_getElem?_getD, List.getElem?_set_self h]; rfl


set_option maxRecDepth 100000 in
set_option maxHeartbeats 4000000 in
theorem unpacks24 : Unpacks 209 24 := by
  intro g go x d o len0 cap len caps P pr D cs0 outs w hlen hlc hcc hg hx hD gx gd xd room ol ob hfit
  have gl := hg.lt
  have xl := hx.lt
  have dl : d < w.heap.size := by obtain ⟨_, h, _⟩ := hD.hd; exact h.lt
  have KA : Keep [] w (w.alloc (.cells #[.int .u32 0] 202)) := (Keep.refl [] w).alloc _
  have u : UD g go w.heap.size x d cs0 := ⟨by omega, gx, gd, by omega, by omega, xd, room⟩
  have hU : UW w g go w.heap.size x d o len0 cap D cs0 ⟨P, 0, outs⟩ (w.alloc (.cells #[.int .u32 0] 202)) :=
    ⟨hg.keep KA (by simp), Blk.new w [.int .u32 0] _, ⟨pr, hx.keep KA (by simp)⟩, hD.keep KA (by simp), KA.weaken (by simp), ol, ob, by simp⟩
  have hby := hD.bytes
  have Hb := Lib.hid hby
  have HU := Lib.hid hU
  have Hd := Lib.hid u
  clear hg hx hD KA hU hby ob u
  go_enter Tryz.func209, Tryz.ntmps209
  go_wp2_with fail
  go_loopw [5] (fun i wr => ∃ (k W0 : Nat) (out : List Nat), k ≤ 8 ∧ i = .int .i64 (k : Int) ∧ UW w g go w.heap.size x d o len0 cap D cs0 ⟨P + 4 * (3 * k), W0, out⟩ wr ∧ ∀ i, i < 4 * k → out[i]? = some (leVal (D.drop P) / 2 ^ (24 * i) % 2 ^ 24)) (fun i _ => 8 - (intOf i).toNat)
  case atStart => exact ⟨0, 0, outs, by omega, rfl, HU.out, fun i hi => absurd hi (by omega)⟩
  case round =>
    obtain ⟨k, W0, out, hk, rfl, hU, hv⟩ := hrel
    have HV := Lib.hid hv
    clear hv
    by_cases hk2 : k < 8
    · have hU : UW w g go w.heap.size x d o len0 cap D cs0 ⟨P + 4 * (3 * k + 0), W0, out⟩ wr := hU
      have hkb : (k : Int) < 8 := by omega
      go_wp2_with fail
      refine (hU.read Hd.out (by simp; omega)).mono ?_
      rintro e w1 ⟨rfl, h1⟩
      obtain ⟨W1, hW1⟩ : ∃ W, W = leVal (D.drop P) / 2 ^ (32 * (3 * k + 0)) % 2 ^ 32 := ⟨_, rfl⟩
      have e1 : (⟨P + 4 * (3 * k + 0) + 4, leVal ((D.drop (P + 4 * (3 * k + 0))).take 4), out⟩ : Mem) = ⟨P + 4 * (3 * k + 1), W1, out⟩ := by rw [word_at D P _ Hb.out, ← hW1]; congr 1
      simp only at h1
      rw [e1] at h1
      have HW1 := Lib.hid hW1
      have wl1 : W1 < 4294967296 := h1.wd
      clear hU hW1 e1
      obtain ⟨cz, hfg, gl1, zl1⟩ := h1.cells
      simp only at cz
      have hc0 := h1.cell Hd.out (k := 4 * k + 0) (by omega)
      rw [show go + (4 * k + 0) = go + k * 4 by omega] at hc0
      have hc1 := h1.cell Hd.out (k := 4 * k + 1) (by omega)
      rw [show go + (4 * k + 1) = go + (k * 4 + 1) by omega] at hc1
      obtain ⟨X, hX⟩ : ∃ X, X = W1 % 16777216 := ⟨_, rfl⟩
      have hXi : (W1 : Int) % 16777216 = (X : Int) := by omega
      obtain ⟨A1, hA1⟩ : ∃ A, A = W1 / 16777216 := ⟨_, rfl⟩
      have hA1i : (W1 : Int) / 16777216 = (A1 : Int) := by omega
      have al1 : A1 < 256 := by omega
      have xl1 : X < 16777216 := by omega
      have HX := Lib.hid hX
      have HA1 := Lib.hid hA1
      obtain ⟨O1, hO1⟩ : ∃ O, O = (out.set (4 * k + 0) X).set (4 * k + 1) A1 := ⟨_, rfl⟩
      have hU : UW w g go w.heap.size x d o len0 cap D cs0 ⟨P + 4 * (3 * k + 1), W1, O1⟩ ((w1.setCell ⟨g, go + k * 4, none⟩ (.int .u32 (X : Int))).setCell ⟨g, go + (k * 4 + 1), none⟩ (.int .u32 (A1 : Int))) := by
        have := (h1.out Hd.out (k := 4 * k + 0) (v := X) (by omega) (by omega)).out Hd.out (k := 4 * k + 1) (v := A1) (by omega) (by omega)
        rw [show go + (4 * k + 0) = go + k * 4 by omega, show go + (4 * k + 1) = go + (k * 4 + 1) by omega] at this
        rw [hO1]; exact this
      have hg1 : O1.getD (4 * k + 1) 0 = A1 := by rw [hO1]; exact getD_set_self (by simp [h1.len]; omega)
      have hn1 : O1.length = 32 := by rw [hO1]; simpa using h1.len
      have HO1 := Lib.hid hO1
      have HO0 := Lib.hid h1.len
      clear hX hA1 hO1 h1
      go_wp2_with fail
      clear cz hfg gl1 zl1
      clear hc0
      clear hc1
      refine (hU.read Hd.out (by simp; omega)).mono ?_
      rintro e w2 ⟨rfl, h2⟩
      obtain ⟨W2, hW2⟩ : ∃ W, W = leVal (D.drop P) / 2 ^ (32 * (3 * k + 1)) % 2 ^ 32 := ⟨_, rfl⟩
      have e2 : (⟨P + 4 * (3 * k + 1) + 4, leVal ((D.drop (P + 4 * (3 * k + 1))).take 4), O1⟩ : Mem) = ⟨P + 4 * (3 * k + 2), W2, O1⟩ := by rw [word_at D P _ Hb.out, ← hW2]; congr 1
      simp only at h2
      rw [e2] at h2
      have HW2 := Lib.hid hW2
      have wl2 : W2 < 4294967296 := h2.wd
      clear hU hW2 e2
      obtain ⟨cz, hfg, gl1, zl1⟩ := h2.cells
      simp only at cz
      have hc1 := h2.cell Hd.out (k := 4 * k + 1) (by omega)
      rw [show go + (4 * k + 1) = go + (k * 4 + 1) by omega] at hc1
      have hc2 := h2.cell Hd.out (k := 4 * k + 2) (by omega)
      rw [show go + (4 * k + 2) = go + (k * 4 + 2) by omega] at hc2
      rw [hg1] at hc1
      obtain ⟨Y1, hY1⟩ : ∃ Y, Y = W2 % 65536 := ⟨_, rfl⟩
      have hY1i : (W2 : Int) % 65536 = (Y1 : Int) := by omega
      have yl1 : Y1 < 65536 := by omega
      obtain ⟨S1, hS1⟩ : ∃ S, S = A1 + Y1 * 2 ^ 8 := ⟨_, rfl⟩
      have sl1 : S1 < 16777216 := by omega
      have hor1 : bits .or .u32 (A1 : Int) ((Y1 : Int) * 256) = (S1 : Int) := by rw [hS1]; exact or_join_u32 8 A1 Y1 (by omega) (by omega) (by omega)
      obtain ⟨A2, hA2⟩ : ∃ A, A = W2 / 65536 := ⟨_, rfl⟩
      have hA2i : (W2 : Int) / 65536 = (A2 : Int) := by omega
      have al2 : A2 < 65536 := by omega
      have HY1 := Lib.hid hY1
      have HS1 := Lib.hid hS1
      have HA2 := Lib.hid hA2
      obtain ⟨O2, hO2⟩ : ∃ O, O = (O1.set (4 * k + 1) S1).set (4 * k + 2) A2 := ⟨_, rfl⟩
      have hU : UW w g go w.heap.size x d o len0 cap D cs0 ⟨P + 4 * (3 * k + 2), W2, O2⟩ ((w2.drew.setCell ⟨g, go + (k * 4 + 1), none⟩ (.int .u32 (S1 : Int))).setCell ⟨g, go + (k * 4 + 2), none⟩ (.int .u32 (A2 : Int))) := by
        have := (h2.drew.out Hd.out (k := 4 * k + 1) (v := S1) (by omega) (by omega)).out Hd.out (k := 4 * k + 2) (v := A2) (by omega) (by omega)
        rw [show go + (4 * k + 1) = go + (k * 4 + 1) by omega, show go + (4 * k + 2) = go + (k * 4 + 2) by omega] at this
        rw [hO2]; exact this
      have hg2 : O2.getD (4 * k + 2) 0 = A2 := by rw [hO2]; exact getD_set_self (by simp [hn1]; omega)
      have hn2 : O2.length = 32 := by rw [hO2]; simpa using hn1
      have HO2 := Lib.hid hO2
      clear hY1 hS1 hA2 hO2 h2
      have ix1 := IntWalk.i64_in ((k : Int) * 4 + 1) (by omega)
      have iy1 : ((k : Int) * 4 + 1).toNat = k * 4 + 1 := by omega
      have iz1 : 0 ≤ (k : Int) * 4 + 1 := by omega
      have il1 : (k : Int) * 4 + 1 < (len : Int) := by omega
      go_wp2_with fail
      refine wp_region_still_tail 9 (by kernel_rfl) (by kernel_rfl) ?_
      simp only [List.take_succ_cons, List.take_zero, List.drop_succ_cons, List.drop_zero]
      change wpStill _ _ (World.drew _) _ _ _
      repeat still_step
      refine wpStill_nil ?_
      change wpList _ _ _ _ _ (World.drew _)
      go_wp2_with fail
      clear cz hfg gl1 zl1
      clear hc1
      clear hc2
      refine (hU.read Hd.out (by simp; omega)).mono ?_
      rintro e w3 ⟨rfl, h3⟩
      obtain ⟨W3, hW3⟩ : ∃ W, W = leVal (D.drop P) / 2 ^ (32 * (3 * k + 2)) % 2 ^ 32 := ⟨_, rfl⟩
      have e3 : (⟨P + 4 * (3 * k + 2) + 4, leVal ((D.drop (P + 4 * (3 * k + 2))).take 4), O2⟩ : Mem) = ⟨P + 4 * (3 * k + 3), W3, O2⟩ := by rw [word_at D P _ Hb.out, ← hW3]; congr 1
      simp only at h3
      rw [e3] at h3
      have HW3 := Lib.hid hW3
      have wl3 : W3 < 4294967296 := h3.wd
      clear hU hW3 e3
      obtain ⟨cz, hfg, gl1, zl1⟩ := h3.cells
      simp only at cz
      have hc2 := h3.cell Hd.out (k := 4 * k + 2) (by omega)
      rw [show go + (4 * k + 2) = go + (k * 4 + 2) by omega] at hc2
      have hc3 := h3.cell Hd.out (k := 4 * k + 3) (by omega)
      rw [show go + (4 * k + 3) = go + (k * 4 + 3) by omega] at hc3
      rw [hg2] at hc2
      obtain ⟨Y2, hY2⟩ : ∃ Y, Y = W3 % 256 := ⟨_, rfl⟩
      have hY2i : (W3 : Int) % 256 = (Y2 : Int) := by omega
      have yl2 : Y2 < 256 := by omega
      obtain ⟨S2, hS2⟩ : ∃ S, S = A2 + Y2 * 2 ^ 16 := ⟨_, rfl⟩
      have sl2 : S2 < 16777216 := by omega
      have hor2 : bits .or .u32 (A2 : Int) ((Y2 : Int) * 65536) = (S2 : Int) := by rw [hS2]; exact or_join_u32 16 A2 Y2 (by omega) (by omega) (by omega)
      obtain ⟨A3, hA3⟩ : ∃ A, A = W3 / 256 := ⟨_, rfl⟩
      have hA3i : (W3 : Int) / 256 = (A3 : Int) := by omega
      have al3 : A3 < 16777216 := by omega
      have HY2 := Lib.hid hY2
      have HS2 := Lib.hid hS2
      have HA3 := Lib.hid hA3
      obtain ⟨O3, hO3⟩ : ∃ O, O = (O2.set (4 * k + 2) S2).set (4 * k + 3) A3 := ⟨_, rfl⟩
      have hU : UW w g go w.heap.size x d o len0 cap D cs0 ⟨P + 4 * (3 * k + 3), W3, O3⟩ ((w3.drew.setCell ⟨g, go + (k * 4 + 2), none⟩ (.int .u32 (S2 : Int))).setCell ⟨g, go + (k * 4 + 3), none⟩ (.int .u32 (A3 : Int))) := by
        have := (h3.drew.out Hd.out (k := 4 * k + 2) (v := S2) (by omega) (by omega)).out Hd.out (k := 4 * k + 3) (v := A3) (by omega) (by omega)
        rw [show go + (4 * k + 2) = go + (k * 4 + 2) by omega, show go + (4 * k + 3) = go + (k * 4 + 3) by omega] at this
        rw [hO3]; exact this
      have hg3 : O3.getD (4 * k + 3) 0 = A3 := by rw [hO3]; exact getD_set_self (by simp [hn2]; omega)
      have hn3 : O3.length = 32 := by rw [hO3]; simpa using hn2
      have HO3 := Lib.hid hO3
      clear hY2 hS2 hA3 hO3 h3
      have ix2 := IntWalk.i64_in ((k : Int) * 4 + 2) (by omega)
      have iy2 : ((k : Int) * 4 + 2).toNat = k * 4 + 2 := by omega
      have iz2 : 0 ≤ (k : Int) * 4 + 2 := by omega
      have il2 : (k : Int) * 4 + 2 < (len : Int) := by omega
      go_wp2_with fail
      refine wp_region_still_tail 9 (by kernel_rfl) (by kernel_rfl) ?_
      simp only [List.take_succ_cons, List.take_zero, List.drop_succ_cons, List.drop_zero]
      change wpStill _ _ (World.drew _) _ _ _
      repeat still_step
      refine wpStill_nil ?_
      change wpList _ _ _ _ _ (World.drew _)
      go_wp2
      go_roundw
      case rel =>
        refine ⟨k + 1, W3, O3, hk2, by go_num, ?_, ?_⟩
        · have := hU
          rw [show 3 * k + 3 = 3 * (k + 1) by omega] at this
          exact this
        · have f0 := HV.out
          have a0 : X = leVal (D.drop P) / 2 ^ (24 * (4 * k)) % 2 ^ 24 := by
            rw [HX.out, HW1.out, show 24 * (4 * k) = 32 * (3 * k + 0) + 0 by omega, ← win_in 32 _ _ 0 24 (by omega)]
            simp
          have s0 := set_val (k := 4 * k) (v := X) (f := fun i => leVal (D.drop P) / 2 ^ (24 * i) % 2 ^ 24) HO0.out (by omega) f0 a0
          have a1 : S1 = leVal (D.drop P) / 2 ^ (24 * (4 * k + 1)) % 2 ^ 24 := by
            rw [show 24 * (4 * k + 1) = 32 * (3 * k + 0) + 24 by omega, ← win_cross 32 _ _ 24 24 (by omega) (by omega) (by omega), ← HW1.out, show 32 * (3 * k + 0) + 32 = 32 * (3 * k + 1) by omega, ← HW2.out, HS1.out, HA1.out, HY1.out]
          have s1 := set_val (k := 4 * k + 1) (v := S1) (f := fun i => leVal (D.drop P) / 2 ^ (24 * i) % 2 ^ 24) (by simpa using HO0.out) (by omega) s0 a1
          have a2 : S2 = leVal (D.drop P) / 2 ^ (24 * (4 * k + 2)) % 2 ^ 24 := by
            rw [show 24 * (4 * k + 2) = 32 * (3 * k + 1) + 16 by omega, ← win_cross 32 _ _ 16 24 (by omega) (by omega) (by omega), ← HW2.out, show 32 * (3 * k + 1) + 32 = 32 * (3 * k + 2) by omega, ← HW3.out, HS2.out, HA2.out, HY2.out]
          have s2 := set_val (k := 4 * k + 2) (v := S2) (f := fun i => leVal (D.drop P) / 2 ^ (24 * i) % 2 ^ 24) (by simpa using HO0.out) (by omega) s1 a2
          have a3 : A3 = leVal (D.drop P) / 2 ^ (24 * (4 * k + 3)) % 2 ^ 24 := by
            rw [show 24 * (4 * k + 3) = 32 * (3 * k + 2) + 8 by omega, ← win_in 32 _ _ 8 24 (by omega), ← HW3.out, HA3.out]
            exact (Nat.mod_eq_of_lt (by omega)).symm
          have s3 := set_val (k := 4 * k + 3) (v := A3) (f := fun i => leVal (D.drop P) / 2 ^ (24 * i) % 2 ^ 24) (by simpa using HO0.out) (by omega) s2 a3
          rw [show O3 = (((out.set (4 * k) X).set (4 * k + 1) S1).set (4 * k + 2) S2).set (4 * k + 3) A3 from by rw [HO3.out, HO2.out, HO1.out, List.set_set, List.set_set]; rfl]
          exact fun i hi => s3 i (by omega)
      case measure => simp [intOf]; omega
    · have hk3 : k = 8 := by omega
      subst hk3
      go_wp2
      go_end0
      exact ⟨rfl, hU.K.weaken (by simp), out, hU.hg, hU.len, fun i hi => HV.out i (by omega)⟩

set_option maxRecDepth 100000 in
set_option maxHeartbeats 4000000 in
theorem unpacks28 : Unpacks 213 28 := by
  intro g go x d o len0 cap len caps P pr D cs0 outs w hlen hlc hcc hg hx hD gx gd xd room ol ob hfit
  have gl := hg.lt
  have xl := hx.lt
  have dl : d < w.heap.size := by obtain ⟨_, h, _⟩ := hD.hd; exact h.lt
  have KA : Keep [] w (w.alloc (.cells #[.int .u32 0] 202)) := (Keep.refl [] w).alloc _
  have u : UD g go w.heap.size x d cs0 := ⟨by omega, gx, gd, by omega, by omega, xd, room⟩
  have hU : UW w g go w.heap.size x d o len0 cap D cs0 ⟨P, 0, outs⟩ (w.alloc (.cells #[.int .u32 0] 202)) :=
    ⟨hg.keep KA (by simp), Blk.new w [.int .u32 0] _, ⟨pr, hx.keep KA (by simp)⟩, hD.keep KA (by simp), KA.weaken (by simp), ol, ob, by simp⟩
  have hby := hD.bytes
  have Hb := Lib.hid hby
  have HU := Lib.hid hU
  have Hd := Lib.hid u
  clear hg hx hD KA hU hby ob u
  go_enter Tryz.func213, Tryz.ntmps213
  go_wp2_with fail
  go_loopw [5] (fun i wr => ∃ (k W0 : Nat) (out : List Nat), k ≤ 4 ∧ i = .int .i64 (k : Int) ∧ UW w g go w.heap.size x d o len0 cap D cs0 ⟨P + 4 * (7 * k), W0, out⟩ wr ∧ ∀ i, i < 8 * k → out[i]? = some (leVal (D.drop P) / 2 ^ (28 * i) % 2 ^ 28)) (fun i _ => 4 - (intOf i).toNat)
  case atStart => exact ⟨0, 0, outs, by omega, rfl, HU.out, fun i hi => absurd hi (by omega)⟩
  case round =>
    obtain ⟨k, W0, out, hk, rfl, hU, hv⟩ := hrel
    have HV := Lib.hid hv
    clear hv
    by_cases hk2 : k < 4
    · have hU : UW w g go w.heap.size x d o len0 cap D cs0 ⟨P + 4 * (7 * k + 0), W0, out⟩ wr := hU
      have hkb : (k : Int) < 4 := by omega
      go_wp2_with fail
      refine (hU.read Hd.out (by simp; omega)).mono ?_
      rintro e w1 ⟨rfl, h1⟩
      obtain ⟨W1, hW1⟩ : ∃ W, W = leVal (D.drop P) / 2 ^ (32 * (7 * k + 0)) % 2 ^ 32 := ⟨_, rfl⟩
      have e1 : (⟨P + 4 * (7 * k + 0) + 4, leVal ((D.drop (P + 4 * (7 * k + 0))).take 4), out⟩ : Mem) = ⟨P + 4 * (7 * k + 1), W1, out⟩ := by rw [word_at D P _ Hb.out, ← hW1]; congr 1
      simp only at h1
      rw [e1] at h1
      have HW1 := Lib.hid hW1
      have wl1 : W1 < 4294967296 := h1.wd
      clear hU hW1 e1
      obtain ⟨cz, hfg, gl1, zl1⟩ := h1.cells
      simp only at cz
      have hc0 := h1.cell Hd.out (k := 8 * k + 0) (by omega)
      rw [show go + (8 * k + 0) = go + k * 8 by omega] at hc0
      have hc1 := h1.cell Hd.out (k := 8 * k + 1) (by omega)
      rw [show go + (8 * k + 1) = go + (k * 8 + 1) by omega] at hc1
      obtain ⟨X, hX⟩ : ∃ X, X = W1 % 268435456 := ⟨_, rfl⟩
      have hXi : (W1 : Int) % 268435456 = (X : Int) := by omega
      obtain ⟨A1, hA1⟩ : ∃ A, A = W1 / 268435456 := ⟨_, rfl⟩
      have hA1i : (W1 : Int) / 268435456 = (A1 : Int) := by omega
      have al1 : A1 < 16 := by omega
      have xl1 : X < 268435456 := by omega
      have HX := Lib.hid hX
      have HA1 := Lib.hid hA1
      obtain ⟨O1, hO1⟩ : ∃ O, O = (out.set (8 * k + 0) X).set (8 * k + 1) A1 := ⟨_, rfl⟩
      have hU : UW w g go w.heap.size x d o len0 cap D cs0 ⟨P + 4 * (7 * k + 1), W1, O1⟩ ((w1.setCell ⟨g, go + k * 8, none⟩ (.int .u32 (X : Int))).setCell ⟨g, go + (k * 8 + 1), none⟩ (.int .u32 (A1 : Int))) := by
        have := (h1.out Hd.out (k := 8 * k + 0) (v := X) (by omega) (by omega)).out Hd.out (k := 8 * k + 1) (v := A1) (by omega) (by omega)
        rw [show go + (8 * k + 0) = go + k * 8 by omega, show go + (8 * k + 1) = go + (k * 8 + 1) by omega] at this
        rw [hO1]; exact this
      have hg1 : O1.getD (8 * k + 1) 0 = A1 := by rw [hO1]; exact getD_set_self (by simp [h1.len]; omega)
      have hn1 : O1.length = 32 := by rw [hO1]; simpa using h1.len
      have HO1 := Lib.hid hO1
      have HO0 := Lib.hid h1.len
      clear hX hA1 hO1 h1
      go_wp2_with fail
      clear cz hfg gl1 zl1
      clear hc0
      clear hc1
      refine (hU.read Hd.out (by simp; omega)).mono ?_
      rintro e w2 ⟨rfl, h2⟩
      obtain ⟨W2, hW2⟩ : ∃ W, W = leVal (D.drop P) / 2 ^ (32 * (7 * k + 1)) % 2 ^ 32 := ⟨_, rfl⟩
      have e2 : (⟨P + 4 * (7 * k + 1) + 4, leVal ((D.drop (P + 4 * (7 * k + 1))).take 4), O1⟩ : Mem) = ⟨P + 4 * (7 * k + 2), W2, O1⟩ := by rw [word_at D P _ Hb.out, ← hW2]; congr 1
      simp only at h2
      rw [e2] at h2
      have HW2 := Lib.hid hW2
      have wl2 : W2 < 4294967296 := h2.wd
      clear hU hW2 e2
      obtain ⟨cz, hfg, gl1, zl1⟩ := h2.cells
      simp only at cz
      have hc1 := h2.cell Hd.out (k := 8 * k + 1) (by omega)
      rw [show go + (8 * k + 1) = go + (k * 8 + 1) by omega] at hc1
      have hc2 := h2.cell Hd.out (k := 8 * k + 2) (by omega)
      rw [show go + (8 * k + 2) = go + (k * 8 + 2) by omega] at hc2
      rw [hg1] at hc1
      obtain ⟨Y1, hY1⟩ : ∃ Y, Y = W2 % 16777216 := ⟨_, rfl⟩
      have hY1i : (W2 : Int) % 16777216 = (Y1 : Int) := by omega
      have yl1 : Y1 < 16777216 := by omega
      obtain ⟨S1, hS1⟩ : ∃ S, S = A1 + Y1 * 2 ^ 4 := ⟨_, rfl⟩
      have sl1 : S1 < 268435456 := by omega
      have hor1 : bits .or .u32 (A1 : Int) ((Y1 : Int) * 16) = (S1 : Int) := by rw [hS1]; exact or_join_u32 4 A1 Y1 (by omega) (by omega) (by omega)
      obtain ⟨A2, hA2⟩ : ∃ A, A = W2 / 16777216 := ⟨_, rfl⟩
      have hA2i : (W2 : Int) / 16777216 = (A2 : Int) := by omega
      have al2 : A2 < 256 := by omega
      have HY1 := Lib.hid hY1
      have HS1 := Lib.hid hS1
      have HA2 := Lib.hid hA2
      obtain ⟨O2, hO2⟩ : ∃ O, O = (O1.set (8 * k + 1) S1).set (8 * k + 2) A2 := ⟨_, rfl⟩
      have hU : UW w g go w.heap.size x d o len0 cap D cs0 ⟨P + 4 * (7 * k + 2), W2, O2⟩ ((w2.drew.setCell ⟨g, go + (k * 8 + 1), none⟩ (.int .u32 (S1 : Int))).setCell ⟨g, go + (k * 8 + 2), none⟩ (.int .u32 (A2 : Int))) := by
        have := (h2.drew.out Hd.out (k := 8 * k + 1) (v := S1) (by omega) (by omega)).out Hd.out (k := 8 * k + 2) (v := A2) (by omega) (by omega)
        rw [show go + (8 * k + 1) = go + (k * 8 + 1) by omega, show go + (8 * k + 2) = go + (k * 8 + 2) by omega] at this
        rw [hO2]; exact this
      have hg2 : O2.getD (8 * k + 2) 0 = A2 := by rw [hO2]; exact getD_set_self (by simp [hn1]; omega)
      have hn2 : O2.length = 32 := by rw [hO2]; simpa using hn1
      have HO2 := Lib.hid hO2
      clear hY1 hS1 hA2 hO2 h2
      have ix1 := IntWalk.i64_in ((k : Int) * 8 + 1) (by omega)
      have iy1 : ((k : Int) * 8 + 1).toNat = k * 8 + 1 := by omega
      have iz1 : 0 ≤ (k : Int) * 8 + 1 := by omega
      have il1 : (k : Int) * 8 + 1 < (len : Int) := by omega
      go_wp2_with fail
      refine wp_region_still_tail 9 (by kernel_rfl) (by kernel_rfl) ?_
      simp only [List.take_succ_cons, List.take_zero, List.drop_succ_cons, List.drop_zero]
      change wpStill _ _ (World.drew _) _ _ _
      repeat still_step
      refine wpStill_nil ?_
      change wpList _ _ _ _ _ (World.drew _)
      go_wp2_with fail
      clear cz hfg gl1 zl1
      clear hc1
      clear hc2
      refine (hU.read Hd.out (by simp; omega)).mono ?_
      rintro e w3 ⟨rfl, h3⟩
      obtain ⟨W3, hW3⟩ : ∃ W, W = leVal (D.drop P) / 2 ^ (32 * (7 * k + 2)) % 2 ^ 32 := ⟨_, rfl⟩
      have e3 : (⟨P + 4 * (7 * k + 2) + 4, leVal ((D.drop (P + 4 * (7 * k + 2))).take 4), O2⟩ : Mem) = ⟨P + 4 * (7 * k + 3), W3, O2⟩ := by rw [word_at D P _ Hb.out, ← hW3]; congr 1
      simp only at h3
      rw [e3] at h3
      have HW3 := Lib.hid hW3
      have wl3 : W3 < 4294967296 := h3.wd
      clear hU hW3 e3
      obtain ⟨cz, hfg, gl1, zl1⟩ := h3.cells
      simp only at cz
      have hc2 := h3.cell Hd.out (k := 8 * k + 2) (by omega)
      rw [show go + (8 * k + 2) = go + (k * 8 + 2) by omega] at hc2
      have hc3 := h3.cell Hd.out (k := 8 * k + 3) (by omega)
      rw [show go + (8 * k + 3) = go + (k * 8 + 3) by omega] at hc3
      rw [hg2] at hc2
      obtain ⟨Y2, hY2⟩ : ∃ Y, Y = W3 % 1048576 := ⟨_, rfl⟩
      have hY2i : (W3 : Int) % 1048576 = (Y2 : Int) := by omega
      have yl2 : Y2 < 1048576 := by omega
      obtain ⟨S2, hS2⟩ : ∃ S, S = A2 + Y2 * 2 ^ 8 := ⟨_, rfl⟩
      have sl2 : S2 < 268435456 := by omega
      have hor2 : bits .or .u32 (A2 : Int) ((Y2 : Int) * 256) = (S2 : Int) := by rw [hS2]; exact or_join_u32 8 A2 Y2 (by omega) (by omega) (by omega)
      obtain ⟨A3, hA3⟩ : ∃ A, A = W3 / 1048576 := ⟨_, rfl⟩
      have hA3i : (W3 : Int) / 1048576 = (A3 : Int) := by omega
      have al3 : A3 < 4096 := by omega
      have HY2 := Lib.hid hY2
      have HS2 := Lib.hid hS2
      have HA3 := Lib.hid hA3
      obtain ⟨O3, hO3⟩ : ∃ O, O = (O2.set (8 * k + 2) S2).set (8 * k + 3) A3 := ⟨_, rfl⟩
      have hU : UW w g go w.heap.size x d o len0 cap D cs0 ⟨P + 4 * (7 * k + 3), W3, O3⟩ ((w3.drew.setCell ⟨g, go + (k * 8 + 2), none⟩ (.int .u32 (S2 : Int))).setCell ⟨g, go + (k * 8 + 3), none⟩ (.int .u32 (A3 : Int))) := by
        have := (h3.drew.out Hd.out (k := 8 * k + 2) (v := S2) (by omega) (by omega)).out Hd.out (k := 8 * k + 3) (v := A3) (by omega) (by omega)
        rw [show go + (8 * k + 2) = go + (k * 8 + 2) by omega, show go + (8 * k + 3) = go + (k * 8 + 3) by omega] at this
        rw [hO3]; exact this
      have hg3 : O3.getD (8 * k + 3) 0 = A3 := by rw [hO3]; exact getD_set_self (by simp [hn2]; omega)
      have hn3 : O3.length = 32 := by rw [hO3]; simpa using hn2
      have HO3 := Lib.hid hO3
      clear hY2 hS2 hA3 hO3 h3
      have ix2 := IntWalk.i64_in ((k : Int) * 8 + 2) (by omega)
      have iy2 : ((k : Int) * 8 + 2).toNat = k * 8 + 2 := by omega
      have iz2 : 0 ≤ (k : Int) * 8 + 2 := by omega
      have il2 : (k : Int) * 8 + 2 < (len : Int) := by omega
      go_wp2_with fail
      refine wp_region_still_tail 9 (by kernel_rfl) (by kernel_rfl) ?_
      simp only [List.take_succ_cons, List.take_zero, List.drop_succ_cons, List.drop_zero]
      change wpStill _ _ (World.drew _) _ _ _
      repeat still_step
      refine wpStill_nil ?_
      change wpList _ _ _ _ _ (World.drew _)
      go_wp2_with fail
      clear cz hfg gl1 zl1
      clear hc2
      clear hc3
      refine (hU.read Hd.out (by simp; omega)).mono ?_
      rintro e w4 ⟨rfl, h4⟩
      obtain ⟨W4, hW4⟩ : ∃ W, W = leVal (D.drop P) / 2 ^ (32 * (7 * k + 3)) % 2 ^ 32 := ⟨_, rfl⟩
      have e4 : (⟨P + 4 * (7 * k + 3) + 4, leVal ((D.drop (P + 4 * (7 * k + 3))).take 4), O3⟩ : Mem) = ⟨P + 4 * (7 * k + 4), W4, O3⟩ := by rw [word_at D P _ Hb.out, ← hW4]; congr 1
      simp only at h4
      rw [e4] at h4
      have HW4 := Lib.hid hW4
      have wl4 : W4 < 4294967296 := h4.wd
      clear hU hW4 e4
      obtain ⟨cz, hfg, gl1, zl1⟩ := h4.cells
      simp only at cz
      have hc3 := h4.cell Hd.out (k := 8 * k + 3) (by omega)
      rw [show go + (8 * k + 3) = go + (k * 8 + 3) by omega] at hc3
      have hc4 := h4.cell Hd.out (k := 8 * k + 4) (by omega)
      rw [show go + (8 * k + 4) = go + (k * 8 + 4) by omega] at hc4
      rw [hg3] at hc3
      obtain ⟨Y3, hY3⟩ : ∃ Y, Y = W4 % 65536 := ⟨_, rfl⟩
      have hY3i : (W4 : Int) % 65536 = (Y3 : Int) := by omega
      have yl3 : Y3 < 65536 := by omega
      obtain ⟨S3, hS3⟩ : ∃ S, S = A3 + Y3 * 2 ^ 12 := ⟨_, rfl⟩
      have sl3 : S3 < 268435456 := by omega
      have hor3 : bits .or .u32 (A3 : Int) ((Y3 : Int) * 4096) = (S3 : Int) := by rw [hS3]; exact or_join_u32 12 A3 Y3 (by omega) (by omega) (by omega)
      obtain ⟨A4, hA4⟩ : ∃ A, A = W4 / 65536 := ⟨_, rfl⟩
      have hA4i : (W4 : Int) / 65536 = (A4 : Int) := by omega
      have al4 : A4 < 65536 := by omega
      have HY3 := Lib.hid hY3
      have HS3 := Lib.hid hS3
      have HA4 := Lib.hid hA4
      obtain ⟨O4, hO4⟩ : ∃ O, O = (O3.set (8 * k + 3) S3).set (8 * k + 4) A4 := ⟨_, rfl⟩
      have hU : UW w g go w.heap.size x d o len0 cap D cs0 ⟨P + 4 * (7 * k + 4), W4, O4⟩ ((w4.drew.setCell ⟨g, go + (k * 8 + 3), none⟩ (.int .u32 (S3 : Int))).setCell ⟨g, go + (k * 8 + 4), none⟩ (.int .u32 (A4 : Int))) := by
        have := (h4.drew.out Hd.out (k := 8 * k + 3) (v := S3) (by omega) (by omega)).out Hd.out (k := 8 * k + 4) (v := A4) (by omega) (by omega)
        rw [show go + (8 * k + 3) = go + (k * 8 + 3) by omega, show go + (8 * k + 4) = go + (k * 8 + 4) by omega] at this
        rw [hO4]; exact this
      have hg4 : O4.getD (8 * k + 4) 0 = A4 := by rw [hO4]; exact getD_set_self (by simp [hn3]; omega)
      have hn4 : O4.length = 32 := by rw [hO4]; simpa using hn3
      have HO4 := Lib.hid hO4
      clear hY3 hS3 hA4 hO4 h4
      have ix3 := IntWalk.i64_in ((k : Int) * 8 + 3) (by omega)
      have iy3 : ((k : Int) * 8 + 3).toNat = k * 8 + 3 := by omega
      have iz3 : 0 ≤ (k : Int) * 8 + 3 := by omega
      have il3 : (k : Int) * 8 + 3 < (len : Int) := by omega
      go_wp2_with fail
      refine wp_region_still_tail 9 (by kernel_rfl) (by kernel_rfl) ?_
      simp only [List.take_succ_cons, List.take_zero, List.drop_succ_cons, List.drop_zero]
      change wpStill _ _ (World.drew _) _ _ _
      repeat still_step
      refine wpStill_nil ?_
      change wpList _ _ _ _ _ (World.drew _)
      go_wp2_with fail
      clear cz hfg gl1 zl1
      clear hc3
      clear hc4
      refine (hU.read Hd.out (by simp; omega)).mono ?_
      rintro e w5 ⟨rfl, h5⟩
      obtain ⟨W5, hW5⟩ : ∃ W, W = leVal (D.drop P) / 2 ^ (32 * (7 * k + 4)) % 2 ^ 32 := ⟨_, rfl⟩
      have e5 : (⟨P + 4 * (7 * k + 4) + 4, leVal ((D.drop (P + 4 * (7 * k + 4))).take 4), O4⟩ : Mem) = ⟨P + 4 * (7 * k + 5), W5, O4⟩ := by rw [word_at D P _ Hb.out, ← hW5]; congr 1
      simp only at h5
      rw [e5] at h5
      have HW5 := Lib.hid hW5
      have wl5 : W5 < 4294967296 := h5.wd
      clear hU hW5 e5
      obtain ⟨cz, hfg, gl1, zl1⟩ := h5.cells
      simp only at cz
      have hc4 := h5.cell Hd.out (k := 8 * k + 4) (by omega)
      rw [show go + (8 * k + 4) = go + (k * 8 + 4) by omega] at hc4
      have hc5 := h5.cell Hd.out (k := 8 * k + 5) (by omega)
      rw [show go + (8 * k + 5) = go + (k * 8 + 5) by omega] at hc5
      rw [hg4] at hc4
      obtain ⟨Y4, hY4⟩ : ∃ Y, Y = W5 % 4096 := ⟨_, rfl⟩
      have hY4i : (W5 : Int) % 4096 = (Y4 : Int) := by omega
      have yl4 : Y4 < 4096 := by omega
      obtain ⟨S4, hS4⟩ : ∃ S, S = A4 + Y4 * 2 ^ 16 := ⟨_, rfl⟩
      have sl4 : S4 < 268435456 := by omega
      have hor4 : bits .or .u32 (A4 : Int) ((Y4 : Int) * 65536) = (S4 : Int) := by rw [hS4]; exact or_join_u32 16 A4 Y4 (by omega) (by omega) (by omega)
      obtain ⟨A5, hA5⟩ : ∃ A, A = W5 / 4096 := ⟨_, rfl⟩
      have hA5i : (W5 : Int) / 4096 = (A5 : Int) := by omega
      have al5 : A5 < 1048576 := by omega
      have HY4 := Lib.hid hY4
      have HS4 := Lib.hid hS4
      have HA5 := Lib.hid hA5
      obtain ⟨O5, hO5⟩ : ∃ O, O = (O4.set (8 * k + 4) S4).set (8 * k + 5) A5 := ⟨_, rfl⟩
      have hU : UW w g go w.heap.size x d o len0 cap D cs0 ⟨P + 4 * (7 * k + 5), W5, O5⟩ ((w5.drew.setCell ⟨g, go + (k * 8 + 4), none⟩ (.int .u32 (S4 : Int))).setCell ⟨g, go + (k * 8 + 5), none⟩ (.int .u32 (A5 : Int))) := by
        have := (h5.drew.out Hd.out (k := 8 * k + 4) (v := S4) (by omega) (by omega)).out Hd.out (k := 8 * k + 5) (v := A5) (by omega) (by omega)
        rw [show go + (8 * k + 4) = go + (k * 8 + 4) by omega, show go + (8 * k + 5) = go + (k * 8 + 5) by omega] at this
        rw [hO5]; exact this
      have hg5 : O5.getD (8 * k + 5) 0 = A5 := by rw [hO5]; exact getD_set_self (by simp [hn4]; omega)
      have hn5 : O5.length = 32 := by rw [hO5]; simpa using hn4
      have HO5 := Lib.hid hO5
      clear hY4 hS4 hA5 hO5 h5
      have ix4 := IntWalk.i64_in ((k : Int) * 8 + 4) (by omega)
      have iy4 : ((k : Int) * 8 + 4).toNat = k * 8 + 4 := by omega
      have iz4 : 0 ≤ (k : Int) * 8 + 4 := by omega
      have il4 : (k : Int) * 8 + 4 < (len : Int) := by omega
      go_wp2_with fail
      refine wp_region_still_tail 9 (by kernel_rfl) (by kernel_rfl) ?_
      simp only [List.take_succ_cons, List.take_zero, List.drop_succ_cons, List.drop_zero]
      change wpStill _ _ (World.drew _) _ _ _
      repeat still_step
      refine wpStill_nil ?_
      change wpList _ _ _ _ _ (World.drew _)
      go_wp2_with fail
      clear cz hfg gl1 zl1
      clear hc4
      clear hc5
      refine (hU.read Hd.out (by simp; omega)).mono ?_
      rintro e w6 ⟨rfl, h6⟩
      obtain ⟨W6, hW6⟩ : ∃ W, W = leVal (D.drop P) / 2 ^ (32 * (7 * k + 5)) % 2 ^ 32 := ⟨_, rfl⟩
      have e6 : (⟨P + 4 * (7 * k + 5) + 4, leVal ((D.drop (P + 4 * (7 * k + 5))).take 4), O5⟩ : Mem) = ⟨P + 4 * (7 * k + 6), W6, O5⟩ := by rw [word_at D P _ Hb.out, ← hW6]; congr 1
      simp only at h6
      rw [e6] at h6
      have HW6 := Lib.hid hW6
      have wl6 : W6 < 4294967296 := h6.wd
      clear hU hW6 e6
      obtain ⟨cz, hfg, gl1, zl1⟩ := h6.cells
      simp only at cz
      have hc5 := h6.cell Hd.out (k := 8 * k + 5) (by omega)
      rw [show go + (8 * k + 5) = go + (k * 8 + 5) by omega] at hc5
      have hc6 := h6.cell Hd.out (k := 8 * k + 6) (by omega)
      rw [show go + (8 * k + 6) = go + (k * 8 + 6) by omega] at hc6
      rw [hg5] at hc5
      obtain ⟨Y5, hY5⟩ : ∃ Y, Y = W6 % 256 := ⟨_, rfl⟩
      have hY5i : (W6 : Int) % 256 = (Y5 : Int) := by omega
      have yl5 : Y5 < 256 := by omega
      obtain ⟨S5, hS5⟩ : ∃ S, S = A5 + Y5 * 2 ^ 20 := ⟨_, rfl⟩
      have sl5 : S5 < 268435456 := by omega
      have hor5 : bits .or .u32 (A5 : Int) ((Y5 : Int) * 1048576) = (S5 : Int) := by rw [hS5]; exact or_join_u32 20 A5 Y5 (by omega) (by omega) (by omega)
      obtain ⟨A6, hA6⟩ : ∃ A, A = W6 / 256 := ⟨_, rfl⟩
      have hA6i : (W6 : Int) / 256 = (A6 : Int) := by omega
      have al6 : A6 < 16777216 := by omega
      have HY5 := Lib.hid hY5
      have HS5 := Lib.hid hS5
      have HA6 := Lib.hid hA6
      obtain ⟨O6, hO6⟩ : ∃ O, O = (O5.set (8 * k + 5) S5).set (8 * k + 6) A6 := ⟨_, rfl⟩
      have hU : UW w g go w.heap.size x d o len0 cap D cs0 ⟨P + 4 * (7 * k + 6), W6, O6⟩ ((w6.drew.setCell ⟨g, go + (k * 8 + 5), none⟩ (.int .u32 (S5 : Int))).setCell ⟨g, go + (k * 8 + 6), none⟩ (.int .u32 (A6 : Int))) := by
        have := (h6.drew.out Hd.out (k := 8 * k + 5) (v := S5) (by omega) (by omega)).out Hd.out (k := 8 * k + 6) (v := A6) (by omega) (by omega)
        rw [show go + (8 * k + 5) = go + (k * 8 + 5) by omega, show go + (8 * k + 6) = go + (k * 8 + 6) by omega] at this
        rw [hO6]; exact this
      have hg6 : O6.getD (8 * k + 6) 0 = A6 := by rw [hO6]; exact getD_set_self (by simp [hn5]; omega)
      have hn6 : O6.length = 32 := by rw [hO6]; simpa using hn5
      have HO6 := Lib.hid hO6
      clear hY5 hS5 hA6 hO6 h6
      have ix5 := IntWalk.i64_in ((k : Int) * 8 + 5) (by omega)
      have iy5 : ((k : Int) * 8 + 5).toNat = k * 8 + 5 := by omega
      have iz5 : 0 ≤ (k : Int) * 8 + 5 := by omega
      have il5 : (k : Int) * 8 + 5 < (len : Int) := by omega
      go_wp2_with fail
      refine wp_region_still_tail 9 (by kernel_rfl) (by kernel_rfl) ?_
      simp only [List.take_succ_cons, List.take_zero, List.drop_succ_cons, List.drop_zero]
      change wpStill _ _ (World.drew _) _ _ _
      repeat still_step
      refine wpStill_nil ?_
      change wpList _ _ _ _ _ (World.drew _)
      go_wp2_with fail
      clear cz hfg gl1 zl1
      clear hc5
      clear hc6
      refine (hU.read Hd.out (by simp; omega)).mono ?_
      rintro e w7 ⟨rfl, h7⟩
      obtain ⟨W7, hW7⟩ : ∃ W, W = leVal (D.drop P) / 2 ^ (32 * (7 * k + 6)) % 2 ^ 32 := ⟨_, rfl⟩
      have e7 : (⟨P + 4 * (7 * k + 6) + 4, leVal ((D.drop (P + 4 * (7 * k + 6))).take 4), O6⟩ : Mem) = ⟨P + 4 * (7 * k + 7), W7, O6⟩ := by rw [word_at D P _ Hb.out, ← hW7]; congr 1
      simp only at h7
      rw [e7] at h7
      have HW7 := Lib.hid hW7
      have wl7 : W7 < 4294967296 := h7.wd
      clear hU hW7 e7
      obtain ⟨cz, hfg, gl1, zl1⟩ := h7.cells
      simp only at cz
      have hc6 := h7.cell Hd.out (k := 8 * k + 6) (by omega)
      rw [show go + (8 * k + 6) = go + (k * 8 + 6) by omega] at hc6
      have hc7 := h7.cell Hd.out (k := 8 * k + 7) (by omega)
      rw [show go + (8 * k + 7) = go + (k * 8 + 7) by omega] at hc7
      rw [hg6] at hc6
      obtain ⟨Y6, hY6⟩ : ∃ Y, Y = W7 % 16 := ⟨_, rfl⟩
      have hY6i : (W7 : Int) % 16 = (Y6 : Int) := by omega
      have yl6 : Y6 < 16 := by omega
      obtain ⟨S6, hS6⟩ : ∃ S, S = A6 + Y6 * 2 ^ 24 := ⟨_, rfl⟩
      have sl6 : S6 < 268435456 := by omega
      have hor6 : bits .or .u32 (A6 : Int) ((Y6 : Int) * 16777216) = (S6 : Int) := by rw [hS6]; exact or_join_u32 24 A6 Y6 (by omega) (by omega) (by omega)
      obtain ⟨A7, hA7⟩ : ∃ A, A = W7 / 16 := ⟨_, rfl⟩
      have hA7i : (W7 : Int) / 16 = (A7 : Int) := by omega
      have al7 : A7 < 268435456 := by omega
      have HY6 := Lib.hid hY6
      have HS6 := Lib.hid hS6
      have HA7 := Lib.hid hA7
      obtain ⟨O7, hO7⟩ : ∃ O, O = (O6.set (8 * k + 6) S6).set (8 * k + 7) A7 := ⟨_, rfl⟩
      have hU : UW w g go w.heap.size x d o len0 cap D cs0 ⟨P + 4 * (7 * k + 7), W7, O7⟩ ((w7.drew.setCell ⟨g, go + (k * 8 + 6), none⟩ (.int .u32 (S6 : Int))).setCell ⟨g, go + (k * 8 + 7), none⟩ (.int .u32 (A7 : Int))) := by
        have := (h7.drew.out Hd.out (k := 8 * k + 6) (v := S6) (by omega) (by omega)).out Hd.out (k := 8 * k + 7) (v := A7) (by omega) (by omega)
        rw [show go + (8 * k + 6) = go + (k * 8 + 6) by omega, show go + (8 * k + 7) = go + (k * 8 + 7) by omega] at this
        rw [hO7]; exact this
      have hg7 : O7.getD (8 * k + 7) 0 = A7 := by rw [hO7]; exact getD_set_self (by simp [hn6]; omega)
      have hn7 : O7.length = 32 := by rw [hO7]; simpa using hn6
      have HO7 := Lib.hid hO7
      clear hY6 hS6 hA7 hO7 h7
      have ix6 := IntWalk.i64_in ((k : Int) * 8 + 6) (by omega)
      have iy6 : ((k : Int) * 8 + 6).toNat = k * 8 + 6 := by omega
      have iz6 : 0 ≤ (k : Int) * 8 + 6 := by omega
      have il6 : (k : Int) * 8 + 6 < (len : Int) := by omega
      go_wp2_with fail
      refine wp_region_still_tail 9 (by kernel_rfl) (by kernel_rfl) ?_
      simp only [List.take_succ_cons, List.take_zero, List.drop_succ_cons, List.drop_zero]
      change wpStill _ _ (World.drew _) _ _ _
      repeat still_step
      refine wpStill_nil ?_
      change wpList _ _ _ _ _ (World.drew _)
      go_wp2
      go_roundw
      case rel =>
        refine ⟨k + 1, W7, O7, hk2, by go_num, ?_, ?_⟩
        · have := hU
          rw [show 7 * k + 7 = 7 * (k + 1) by omega] at this
          exact this
        · have f0 := HV.out
          have a0 : X = leVal (D.drop P) / 2 ^ (28 * (8 * k)) % 2 ^ 28 := by
            rw [HX.out, HW1.out, show 28 * (8 * k) = 32 * (7 * k + 0) + 0 by omega, ← win_in 32 _ _ 0 28 (by omega)]
            simp
          have s0 := set_val (k := 8 * k) (v := X) (f := fun i => leVal (D.drop P) / 2 ^ (28 * i) % 2 ^ 28) HO0.out (by omega) f0 a0
          have a1 : S1 = leVal (D.drop P) / 2 ^ (28 * (8 * k + 1)) % 2 ^ 28 := by
            rw [show 28 * (8 * k + 1) = 32 * (7 * k + 0) + 28 by omega, ← win_cross 32 _ _ 28 28 (by omega) (by omega) (by omega), ← HW1.out, show 32 * (7 * k + 0) + 32 = 32 * (7 * k + 1) by omega, ← HW2.out, HS1.out, HA1.out, HY1.out]
          have s1 := set_val (k := 8 * k + 1) (v := S1) (f := fun i => leVal (D.drop P) / 2 ^ (28 * i) % 2 ^ 28) (by simpa using HO0.out) (by omega) s0 a1
          have a2 : S2 = leVal (D.drop P) / 2 ^ (28 * (8 * k + 2)) % 2 ^ 28 := by
            rw [show 28 * (8 * k + 2) = 32 * (7 * k + 1) + 24 by omega, ← win_cross 32 _ _ 24 28 (by omega) (by omega) (by omega), ← HW2.out, show 32 * (7 * k + 1) + 32 = 32 * (7 * k + 2) by omega, ← HW3.out, HS2.out, HA2.out, HY2.out]
          have s2 := set_val (k := 8 * k + 2) (v := S2) (f := fun i => leVal (D.drop P) / 2 ^ (28 * i) % 2 ^ 28) (by simpa using HO0.out) (by omega) s1 a2
          have a3 : S3 = leVal (D.drop P) / 2 ^ (28 * (8 * k + 3)) % 2 ^ 28 := by
            rw [show 28 * (8 * k + 3) = 32 * (7 * k + 2) + 20 by omega, ← win_cross 32 _ _ 20 28 (by omega) (by omega) (by omega), ← HW3.out, show 32 * (7 * k + 2) + 32 = 32 * (7 * k + 3) by omega, ← HW4.out, HS3.out, HA3.out, HY3.out]
          have s3 := set_val (k := 8 * k + 3) (v := S3) (f := fun i => leVal (D.drop P) / 2 ^ (28 * i) % 2 ^ 28) (by simpa using HO0.out) (by omega) s2 a3
          have a4 : S4 = leVal (D.drop P) / 2 ^ (28 * (8 * k + 4)) % 2 ^ 28 := by
            rw [show 28 * (8 * k + 4) = 32 * (7 * k + 3) + 16 by omega, ← win_cross 32 _ _ 16 28 (by omega) (by omega) (by omega), ← HW4.out, show 32 * (7 * k + 3) + 32 = 32 * (7 * k + 4) by omega, ← HW5.out, HS4.out, HA4.out, HY4.out]
          have s4 := set_val (k := 8 * k + 4) (v := S4) (f := fun i => leVal (D.drop P) / 2 ^ (28 * i) % 2 ^ 28) (by simpa using HO0.out) (by omega) s3 a4
          have a5 : S5 = leVal (D.drop P) / 2 ^ (28 * (8 * k + 5)) % 2 ^ 28 := by
            rw [show 28 * (8 * k + 5) = 32 * (7 * k + 4) + 12 by omega, ← win_cross 32 _ _ 12 28 (by omega) (by omega) (by omega), ← HW5.out, show 32 * (7 * k + 4) + 32 = 32 * (7 * k + 5) by omega, ← HW6.out, HS5.out, HA5.out, HY5.out]
          have s5 := set_val (k := 8 * k + 5) (v := S5) (f := fun i => leVal (D.drop P) / 2 ^ (28 * i) % 2 ^ 28) (by simpa using HO0.out) (by omega) s4 a5
          have a6 : S6 = leVal (D.drop P) / 2 ^ (28 * (8 * k + 6)) % 2 ^ 28 := by
            rw [show 28 * (8 * k + 6) = 32 * (7 * k + 5) + 8 by omega, ← win_cross 32 _ _ 8 28 (by omega) (by omega) (by omega), ← HW6.out, show 32 * (7 * k + 5) + 32 = 32 * (7 * k + 6) by omega, ← HW7.out, HS6.out, HA6.out, HY6.out]
          have s6 := set_val (k := 8 * k + 6) (v := S6) (f := fun i => leVal (D.drop P) / 2 ^ (28 * i) % 2 ^ 28) (by simpa using HO0.out) (by omega) s5 a6
          have a7 : A7 = leVal (D.drop P) / 2 ^ (28 * (8 * k + 7)) % 2 ^ 28 := by
            rw [show 28 * (8 * k + 7) = 32 * (7 * k + 6) + 4 by omega, ← win_in 32 _ _ 4 28 (by omega), ← HW7.out, HA7.out]
            exact (Nat.mod_eq_of_lt (by omega)).symm
          have s7 := set_val (k := 8 * k + 7) (v := A7) (f := fun i => leVal (D.drop P) / 2 ^ (28 * i) % 2 ^ 28) (by simpa using HO0.out) (by omega) s6 a7
          rw [show O7 = (((((((out.set (8 * k) X).set (8 * k + 1) S1).set (8 * k + 2) S2).set (8 * k + 3) S3).set (8 * k + 4) S4).set (8 * k + 5) S5).set (8 * k + 6) S6).set (8 * k + 7) A7 from by rw [HO7.out, HO6.out, HO5.out, HO4.out, HO3.out, HO2.out, HO1.out, List.set_set, List.set_set, List.set_set, List.set_set, List.set_set, List.set_set]; rfl]
          exact fun i hi => s7 i (by omega)
      case measure => simp [intOf]; omega
    · have hk3 : k = 4 := by omega
      subst hk3
      go_wp2
      go_end0
      exact ⟨rfl, hU.K.weaken (by simp), out, hU.hg, hU.len, fun i hi => HV.out i (by omega)⟩

end Go.Proofs.YtlolcgklcnechaaGreatDoor
