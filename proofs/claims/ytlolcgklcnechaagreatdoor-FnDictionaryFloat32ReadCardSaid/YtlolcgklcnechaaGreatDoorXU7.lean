/- unpack4_32, unpack8_32. (Printed by gen_u7.py.) -/
import Derived.Test.YtlolcgklcnechaaGreatDoorXU6
set_option linter.unusedVariables false
set_option linter.unusedSimpArgs false
namespace Go.Proofs.YtlolcgklcnechaaGreatDoor
open Go.RowKit


set_option maxRecDepth 100000 in
set_option maxHeartbeats 4000000 in
theorem unpacks4 : Unpacks 189 4 := by
  intro g go x d o len0 cap len caps P pr D cs0 outs w hlen hlc hcc hg hx hD gx gd xd room ol ob hfit
  have gl := hg.lt
  have xl := hx.lt
  have dl : d < w.heap.size := by obtain ⟨_, h, _⟩ := hD.hd; exact h.lt
  have KA : Keep [] w (w.alloc (.cells #[.int .u32 0] 202)) := (Keep.refl [] w).alloc _
  have u : UD g go w.heap.size x d cs0 := ⟨by omega, gx, gd, by omega, by omega, xd, room⟩
  have hU : UW w g go w.heap.size x d o len0 cap D cs0 ⟨P, 0, outs⟩ (w.alloc (.cells #[.int .u32 0] 202)) :=
    ⟨hg.keep KA (by simp), Blk.new w [.int .u32 0] _, ⟨pr, hx.keep KA (by simp)⟩, hD.keep KA (by simp), KA.weaken (by simp), ol, ob, by simp⟩
  have hby := hD.bytes
  have Hb := Lib.hid hby
  have HU := Lib.hid hU
  have Hd := Lib.hid u
  clear hg hx hD KA hU hby ob u
  go_enter Tryz.func189, Tryz.ntmps189
  have hU : UW w g go w.heap.size x d o len0 cap D cs0 ⟨P + 4 * 0, 0, outs⟩ (w.alloc (.cells #[.int .u32 0] 202)) := HU.out
  obtain ⟨out0, hout0⟩ : ∃ o, o = outs := ⟨_, rfl⟩
  rw [← hout0] at hU
  have HV0 : Hid (∀ i, i < 8 * 0 → out0[i]? = some (leVal (D.drop P) / 2 ^ (4 * i) % 2 ^ 4)) := Lib.hid (fun i hi => absurd hi (by omega))
  clear hout0
  go_wp2_with fail
  refine (hU.read Hd.out (by simp; omega)).mono ?_
  rintro e w1 ⟨rfl, h1⟩
  obtain ⟨W1, hW1⟩ : ∃ W, W = leVal (D.drop P) / 2 ^ (32 * 0) % 2 ^ 32 := ⟨_, rfl⟩
  have e1 : (⟨P + 4 * 0 + 4, leVal ((D.drop (P + 4 * 0)).take 4), out0⟩ : Mem) = ⟨P + 4 * 1, W1, out0⟩ := by rw [word_at D P _ Hb.out, ← hW1]
  simp only at h1
  rw [e1] at h1
  have HW1 := Lib.hid hW1
  have wl1 : W1 < 4294967296 := h1.wd
  clear hU hW1 e1
  go_wp2_with fail
  go_loopw [5] (fun i wr => ∃ (c m : Nat) (out : List Nat), m ≤ 7 ∧ i = .int .i64 (c : Int) ∧ c = 4 * m ∧ UW w g go w.heap.size x d o len0 cap D cs0 ⟨P + 4 * 1, W1, out⟩ wr ∧ Hid (∀ i, i < 8 * 0 + m → out[i]? = some (leVal (D.drop P) / 2 ^ (4 * i) % 2 ^ 4))) (fun i _ => 32 - (intOf i).toNat)
  case atStart => exact ⟨0, 0, out0, by omega, rfl, rfl, h1, HV0⟩
  case round =>
    obtain ⟨c, m, out, hm, rfl, hc, hU, HV⟩ := hrel
    have hcm : (c : Int) / 4 = (m : Int) := by omega
    have hct : (c : Int).tdiv 4 = (m : Int) := by rw [Int.tdiv_eq_ediv_of_nonneg (by omega)]; exact hcm
    have hm2 : (m : Int) ≤ 7 := by omega
    have hcs : c < 32 := by omega
    by_cases hk2 : m < 7
    · have hcb : (c : Int) < 28 := by omega
      have hcl := hU.cell Hd.out (k := 0 + m) (by omega)
      rw [show go + (0 + m) = go + m by omega] at hcl
      obtain ⟨cz, hfg, gl1, zl1⟩ := hU.cells
      simp only at cz
      obtain ⟨V, hV⟩ : ∃ V, V = W1 / 2 ^ c := ⟨_, rfl⟩
      have hVi : (W1 : Int) / 2 ^ c = (V : Int) := by rw [hV]; simp
      have hVl : V < 4294967296 := by rw [hV]; exact Nat.lt_of_le_of_lt (Nat.div_le_self _ _) wl1
      obtain ⟨X, hX⟩ : ∃ X, X = V % 16 := ⟨_, rfl⟩
      have hXi : (V : Int) % 16 = (X : Int) := by omega
      have hXl : X < 16 := by omega
      have HVk := Lib.hid hV
      have HX := Lib.hid hX
      have HUk := Lib.hid hU
      have Hc := Lib.hid hc
      clear hU hV hX hc
      go_wp2
      go_roundw
      case rel =>
        refine ⟨c + 4, m + 1, out.set (0 + m) X, by omega, by go_num, by have := Hc.out; omega, ?_, ?_⟩
        · have := HUk.out.out Hd.out (k := 0 + m) (v := X) (by omega) (by omega)
          rw [show go + (0 + m) = go + m by omega] at this
          simpa using this
        · have a1 : X = leVal (D.drop P) / 2 ^ (4 * (0 + m)) % 2 ^ 4 := by
            rw [HX.out, HVk.out, HW1.out, show 4 * (0 + m) = 32 * 0 + c by have := Hc.out; omega, ← win_in 32 _ _ c 4 (by omega)]
          have s1 := set_val (k := 0 + m) (v := X) (f := fun i => leVal (D.drop P) / 2 ^ (4 * i) % 2 ^ 4) HUk.out.len (by omega) HV.out a1
          exact Lib.hid fun i hi => s1 i (by omega)
      case measure => simp [intOf]; have := Hc.out; omega
    · have hm3 : m = 7 := by omega
      have hc3 : c = 28 := by omega
      clear hcm hct hm2 hcs hc
      subst hm3 hc3
      have hcl := hU.cell Hd.out (k := 7) (by omega)
      obtain ⟨cz, hfg, gl1, zl1⟩ := hU.cells
      simp only at cz
      obtain ⟨A, hA⟩ : ∃ A, A = W1 / 268435456 := ⟨_, rfl⟩
      have hAi : (W1 : Int) / 268435456 = (A : Int) := by omega
      have hAl : A < 16 := by omega
      have HA := Lib.hid hA
      obtain ⟨out1, hout1⟩ : ∃ o, o = out.set 7 A := ⟨_, rfl⟩
      have HV1 : Hid (∀ i, i < 8 * 1 → out1[i]? = some (leVal (D.drop P) / 2 ^ (4 * i) % 2 ^ 4)) := by
        have a1 : A = leVal (D.drop P) / 2 ^ (4 * 7) % 2 ^ 4 := by
          have h1 := win_in 32 (leVal (D.drop P)) (32 * 0) 28 4 (by omega)
          rw [← HW1.out] at h1
          rw [show 4 * 7 = 32 * 0 + 28 from rfl, ← h1, hA]
          exact (Nat.mod_eq_of_lt (by omega)).symm
        have s1 := set_val (k := 7) (v := A) (f := fun i => leVal (D.drop P) / 2 ^ (4 * i) % 2 ^ 4) hU.len (by omega) (fun i hi => HV.out i (by omega)) a1
        rw [hout1]
        exact Lib.hid fun i hi => s1 i (by omega)
      have hU := hU.out Hd.out (k := 7) (v := A) (by omega) (by omega)
      simp only at hU
      rw [← hout1] at hU
      clear hA hout1 HV
      go_wp2_with fail
      clear cz hfg gl1 zl1 hcl
      refine (hU.read Hd.out (by simp; omega)).mono ?_
      rintro e w2 ⟨rfl, h2⟩
      obtain ⟨W2, hW2⟩ : ∃ W, W = leVal (D.drop P) / 2 ^ (32 * 1) % 2 ^ 32 := ⟨_, rfl⟩
      have e2 : (⟨P + 4 * 1 + 4, leVal ((D.drop (P + 4 * 1)).take 4), out1⟩ : Mem) = ⟨P + 4 * 2, W2, out1⟩ := by rw [word_at D P _ Hb.out, ← hW2]
      simp only at h2
      rw [e2] at h2
      have HW2 := Lib.hid hW2
      have wl2 : W2 < 4294967296 := h2.wd
      clear hU hW2 e2
      go_wp2_with fail
      go_loopw [6] (fun i wr => ∃ (c m : Nat) (out : List Nat), m ≤ 7 ∧ i = .int .i64 (c : Int) ∧ c = 4 * m ∧ UW w g go w.heap.size x d o len0 cap D cs0 ⟨P + 4 * 2, W2, out⟩ wr ∧ Hid (∀ i, i < 8 * 1 + m → out[i]? = some (leVal (D.drop P) / 2 ^ (4 * i) % 2 ^ 4))) (fun i _ => 32 - (intOf i).toNat)
      case atStart => exact ⟨0, 0, out1, by omega, rfl, rfl, h2, HV1⟩
      case round =>
        obtain ⟨c, m, out, hm, rfl, hc, hU, HV⟩ := hrel
        have hcm : (c : Int) / 4 = (m : Int) := by omega
        have hct : (c : Int).tdiv 4 = (m : Int) := by rw [Int.tdiv_eq_ediv_of_nonneg (by omega)]; exact hcm
        have hm2 : (m : Int) ≤ 7 := by omega
        have hcs : c < 32 := by omega
        by_cases hk2 : m < 7
        · have hcb : (c : Int) < 28 := by omega
          have hcl := hU.cell Hd.out (k := 8 + m) (by omega)
          obtain ⟨cz, hfg, gl1, zl1⟩ := hU.cells
          simp only at cz
          obtain ⟨V, hV⟩ : ∃ V, V = W2 / 2 ^ c := ⟨_, rfl⟩
          have hVi : (W2 : Int) / 2 ^ c = (V : Int) := by rw [hV]; simp
          have hVl : V < 4294967296 := by rw [hV]; exact Nat.lt_of_le_of_lt (Nat.div_le_self _ _) wl2
          obtain ⟨X, hX⟩ : ∃ X, X = V % 16 := ⟨_, rfl⟩
          have hXi : (V : Int) % 16 = (X : Int) := by omega
          have hXl : X < 16 := by omega
          have HVk := Lib.hid hV
          have HX := Lib.hid hX
          have HUk := Lib.hid hU
          have Hc := Lib.hid hc
          clear hU hV hX hc
          go_wp2
          go_roundw
          case rel =>
            refine ⟨c + 4, m + 1, out.set (8 + m) X, by omega, by go_num, by have := Hc.out; omega, ?_, ?_⟩
            · have := HUk.out.out Hd.out (k := 8 + m) (v := X) (by omega) (by omega)
              simpa using this
            · have a1 : X = leVal (D.drop P) / 2 ^ (4 * (8 + m)) % 2 ^ 4 := by
                rw [HX.out, HVk.out, HW2.out, show 4 * (8 + m) = 32 * 1 + c by have := Hc.out; omega, ← win_in 32 _ _ c 4 (by omega)]
              have s1 := set_val (k := 8 + m) (v := X) (f := fun i => leVal (D.drop P) / 2 ^ (4 * i) % 2 ^ 4) HUk.out.len (by omega) HV.out a1
              exact Lib.hid fun i hi => s1 i (by omega)
          case measure => simp [intOf]; have := Hc.out; omega
        · have hm3 : m = 7 := by omega
          have hc3 : c = 28 := by omega
          clear hcm hct hm2 hcs hc
          subst hm3 hc3
          have hcl := hU.cell Hd.out (k := 15) (by omega)
          obtain ⟨cz, hfg, gl1, zl1⟩ := hU.cells
          simp only at cz
          obtain ⟨A, hA⟩ : ∃ A, A = W2 / 268435456 := ⟨_, rfl⟩
          have hAi : (W2 : Int) / 268435456 = (A : Int) := by omega
          have hAl : A < 16 := by omega
          have HA := Lib.hid hA
          obtain ⟨out2, hout2⟩ : ∃ o, o = out.set 15 A := ⟨_, rfl⟩
          have HV2 : Hid (∀ i, i < 8 * 2 → out2[i]? = some (leVal (D.drop P) / 2 ^ (4 * i) % 2 ^ 4)) := by
            have a1 : A = leVal (D.drop P) / 2 ^ (4 * 15) % 2 ^ 4 := by
              have h1 := win_in 32 (leVal (D.drop P)) (32 * 1) 28 4 (by omega)
              rw [← HW2.out] at h1
              rw [show 4 * 15 = 32 * 1 + 28 from rfl, ← h1, hA]
              exact (Nat.mod_eq_of_lt (by omega)).symm
            have s1 := set_val (k := 15) (v := A) (f := fun i => leVal (D.drop P) / 2 ^ (4 * i) % 2 ^ 4) hU.len (by omega) (fun i hi => HV.out i (by omega)) a1
            rw [hout2]
            exact Lib.hid fun i hi => s1 i (by omega)
          have hU := hU.out Hd.out (k := 15) (v := A) (by omega) (by omega)
          simp only at hU
          rw [← hout2] at hU
          clear hA hout2 HV
          go_wp2_with fail
          clear cz hfg gl1 zl1 hcl
          refine (hU.read Hd.out (by simp; omega)).mono ?_
          rintro e w3 ⟨rfl, h3⟩
          obtain ⟨W3, hW3⟩ : ∃ W, W = leVal (D.drop P) / 2 ^ (32 * 2) % 2 ^ 32 := ⟨_, rfl⟩
          have e3 : (⟨P + 4 * 2 + 4, leVal ((D.drop (P + 4 * 2)).take 4), out2⟩ : Mem) = ⟨P + 4 * 3, W3, out2⟩ := by rw [word_at D P _ Hb.out, ← hW3]
          simp only at h3
          rw [e3] at h3
          have HW3 := Lib.hid hW3
          have wl3 : W3 < 4294967296 := h3.wd
          clear hU hW3 e3
          go_wp2_with fail
          go_loopw [7] (fun i wr => ∃ (c m : Nat) (out : List Nat), m ≤ 7 ∧ i = .int .i64 (c : Int) ∧ c = 4 * m ∧ UW w g go w.heap.size x d o len0 cap D cs0 ⟨P + 4 * 3, W3, out⟩ wr ∧ Hid (∀ i, i < 8 * 2 + m → out[i]? = some (leVal (D.drop P) / 2 ^ (4 * i) % 2 ^ 4))) (fun i _ => 32 - (intOf i).toNat)
          case atStart => exact ⟨0, 0, out2, by omega, rfl, rfl, h3, HV2⟩
          case round =>
            obtain ⟨c, m, out, hm, rfl, hc, hU, HV⟩ := hrel
            have hcm : (c : Int) / 4 = (m : Int) := by omega
            have hct : (c : Int).tdiv 4 = (m : Int) := by rw [Int.tdiv_eq_ediv_of_nonneg (by omega)]; exact hcm
            have hm2 : (m : Int) ≤ 7 := by omega
            have hcs : c < 32 := by omega
            by_cases hk2 : m < 7
            · have hcb : (c : Int) < 28 := by omega
              have hcl := hU.cell Hd.out (k := 16 + m) (by omega)
              obtain ⟨cz, hfg, gl1, zl1⟩ := hU.cells
              simp only at cz
              obtain ⟨V, hV⟩ : ∃ V, V = W3 / 2 ^ c := ⟨_, rfl⟩
              have hVi : (W3 : Int) / 2 ^ c = (V : Int) := by rw [hV]; simp
              have hVl : V < 4294967296 := by rw [hV]; exact Nat.lt_of_le_of_lt (Nat.div_le_self _ _) wl3
              obtain ⟨X, hX⟩ : ∃ X, X = V % 16 := ⟨_, rfl⟩
              have hXi : (V : Int) % 16 = (X : Int) := by omega
              have hXl : X < 16 := by omega
              have HVk := Lib.hid hV
              have HX := Lib.hid hX
              have HUk := Lib.hid hU
              have Hc := Lib.hid hc
              clear hU hV hX hc
              go_wp2
              go_roundw
              case rel =>
                refine ⟨c + 4, m + 1, out.set (16 + m) X, by omega, by go_num, by have := Hc.out; omega, ?_, ?_⟩
                · have := HUk.out.out Hd.out (k := 16 + m) (v := X) (by omega) (by omega)
                  simpa using this
                · have a1 : X = leVal (D.drop P) / 2 ^ (4 * (16 + m)) % 2 ^ 4 := by
                    rw [HX.out, HVk.out, HW3.out, show 4 * (16 + m) = 32 * 2 + c by have := Hc.out; omega, ← win_in 32 _ _ c 4 (by omega)]
                  have s1 := set_val (k := 16 + m) (v := X) (f := fun i => leVal (D.drop P) / 2 ^ (4 * i) % 2 ^ 4) HUk.out.len (by omega) HV.out a1
                  exact Lib.hid fun i hi => s1 i (by omega)
              case measure => simp [intOf]; have := Hc.out; omega
            · have hm3 : m = 7 := by omega
              have hc3 : c = 28 := by omega
              clear hcm hct hm2 hcs hc
              subst hm3 hc3
              have hcl := hU.cell Hd.out (k := 23) (by omega)
              obtain ⟨cz, hfg, gl1, zl1⟩ := hU.cells
              simp only at cz
              obtain ⟨A, hA⟩ : ∃ A, A = W3 / 268435456 := ⟨_, rfl⟩
              have hAi : (W3 : Int) / 268435456 = (A : Int) := by omega
              have hAl : A < 16 := by omega
              have HA := Lib.hid hA
              obtain ⟨out3, hout3⟩ : ∃ o, o = out.set 23 A := ⟨_, rfl⟩
              have HV3 : Hid (∀ i, i < 8 * 3 → out3[i]? = some (leVal (D.drop P) / 2 ^ (4 * i) % 2 ^ 4)) := by
                have a1 : A = leVal (D.drop P) / 2 ^ (4 * 23) % 2 ^ 4 := by
                  have h1 := win_in 32 (leVal (D.drop P)) (32 * 2) 28 4 (by omega)
                  rw [← HW3.out] at h1
                  rw [show 4 * 23 = 32 * 2 + 28 from rfl, ← h1, hA]
                  exact (Nat.mod_eq_of_lt (by omega)).symm
                have s1 := set_val (k := 23) (v := A) (f := fun i => leVal (D.drop P) / 2 ^ (4 * i) % 2 ^ 4) hU.len (by omega) (fun i hi => HV.out i (by omega)) a1
                rw [hout3]
                exact Lib.hid fun i hi => s1 i (by omega)
              have hU := hU.out Hd.out (k := 23) (v := A) (by omega) (by omega)
              simp only at hU
              rw [← hout3] at hU
              clear hA hout3 HV
              go_wp2_with fail
              clear cz hfg gl1 zl1 hcl
              refine (hU.read Hd.out (by simp; omega)).mono ?_
              rintro e w4 ⟨rfl, h4⟩
              obtain ⟨W4, hW4⟩ : ∃ W, W = leVal (D.drop P) / 2 ^ (32 * 3) % 2 ^ 32 := ⟨_, rfl⟩
              have e4 : (⟨P + 4 * 3 + 4, leVal ((D.drop (P + 4 * 3)).take 4), out3⟩ : Mem) = ⟨P + 4 * 4, W4, out3⟩ := by rw [word_at D P _ Hb.out, ← hW4]
              simp only at h4
              rw [e4] at h4
              have HW4 := Lib.hid hW4
              have wl4 : W4 < 4294967296 := h4.wd
              clear hU hW4 e4
              go_wp2_with fail
              go_loopw [8] (fun i wr => ∃ (c m : Nat) (out : List Nat), m ≤ 7 ∧ i = .int .i64 (c : Int) ∧ c = 4 * m ∧ UW w g go w.heap.size x d o len0 cap D cs0 ⟨P + 4 * 4, W4, out⟩ wr ∧ Hid (∀ i, i < 8 * 3 + m → out[i]? = some (leVal (D.drop P) / 2 ^ (4 * i) % 2 ^ 4))) (fun i _ => 32 - (intOf i).toNat)
              case atStart => exact ⟨0, 0, out3, by omega, rfl, rfl, h4, HV3⟩
              case round =>
                obtain ⟨c, m, out, hm, rfl, hc, hU, HV⟩ := hrel
                have hcm : (c : Int) / 4 = (m : Int) := by omega
                have hct : (c : Int).tdiv 4 = (m : Int) := by rw [Int.tdiv_eq_ediv_of_nonneg (by omega)]; exact hcm
                have hm2 : (m : Int) ≤ 7 := by omega
                have hcs : c < 32 := by omega
                by_cases hk2 : m < 7
                · have hcb : (c : Int) < 28 := by omega
                  have hcl := hU.cell Hd.out (k := 24 + m) (by omega)
                  obtain ⟨cz, hfg, gl1, zl1⟩ := hU.cells
                  simp only at cz
                  obtain ⟨V, hV⟩ : ∃ V, V = W4 / 2 ^ c := ⟨_, rfl⟩
                  have hVi : (W4 : Int) / 2 ^ c = (V : Int) := by rw [hV]; simp
                  have hVl : V < 4294967296 := by rw [hV]; exact Nat.lt_of_le_of_lt (Nat.div_le_self _ _) wl4
                  obtain ⟨X, hX⟩ : ∃ X, X = V % 16 := ⟨_, rfl⟩
                  have hXi : (V : Int) % 16 = (X : Int) := by omega
                  have hXl : X < 16 := by omega
                  have HVk := Lib.hid hV
                  have HX := Lib.hid hX
                  have HUk := Lib.hid hU
                  have Hc := Lib.hid hc
                  clear hU hV hX hc
                  go_wp2
                  go_roundw
                  case rel =>
                    refine ⟨c + 4, m + 1, out.set (24 + m) X, by omega, by go_num, by have := Hc.out; omega, ?_, ?_⟩
                    · have := HUk.out.out Hd.out (k := 24 + m) (v := X) (by omega) (by omega)
                      simpa using this
                    · have a1 : X = leVal (D.drop P) / 2 ^ (4 * (24 + m)) % 2 ^ 4 := by
                        rw [HX.out, HVk.out, HW4.out, show 4 * (24 + m) = 32 * 3 + c by have := Hc.out; omega, ← win_in 32 _ _ c 4 (by omega)]
                      have s1 := set_val (k := 24 + m) (v := X) (f := fun i => leVal (D.drop P) / 2 ^ (4 * i) % 2 ^ 4) HUk.out.len (by omega) HV.out a1
                      exact Lib.hid fun i hi => s1 i (by omega)
                  case measure => simp [intOf]; have := Hc.out; omega
                · have hm3 : m = 7 := by omega
                  have hc3 : c = 28 := by omega
                  clear hcm hct hm2 hcs hc
                  subst hm3 hc3
                  have hcl := hU.cell Hd.out (k := 31) (by omega)
                  obtain ⟨cz, hfg, gl1, zl1⟩ := hU.cells
                  simp only at cz
                  obtain ⟨A, hA⟩ : ∃ A, A = W4 / 268435456 := ⟨_, rfl⟩
                  have hAi : (W4 : Int) / 268435456 = (A : Int) := by omega
                  have hAl : A < 16 := by omega
                  have HA := Lib.hid hA
                  obtain ⟨out4, hout4⟩ : ∃ o, o = out.set 31 A := ⟨_, rfl⟩
                  have HV4 : Hid (∀ i, i < 8 * 4 → out4[i]? = some (leVal (D.drop P) / 2 ^ (4 * i) % 2 ^ 4)) := by
                    have a1 : A = leVal (D.drop P) / 2 ^ (4 * 31) % 2 ^ 4 := by
                      have h1 := win_in 32 (leVal (D.drop P)) (32 * 3) 28 4 (by omega)
                      rw [← HW4.out] at h1
                      rw [show 4 * 31 = 32 * 3 + 28 from rfl, ← h1, hA]
                      exact (Nat.mod_eq_of_lt (by omega)).symm
                    have s1 := set_val (k := 31) (v := A) (f := fun i => leVal (D.drop P) / 2 ^ (4 * i) % 2 ^ 4) hU.len (by omega) (fun i hi => HV.out i (by omega)) a1
                    rw [hout4]
                    exact Lib.hid fun i hi => s1 i (by omega)
                  have hU := hU.out Hd.out (k := 31) (v := A) (by omega) (by omega)
                  simp only at hU
                  rw [← hout4] at hU
                  clear hA hout4 HV
                  go_wp2
                  go_end0
                  exact ⟨rfl, hU.K.weaken (by simp), out4, hU.hg, hU.len, fun i hi => HV4.out i (by omega)⟩

set_option maxRecDepth 100000 in
set_option maxHeartbeats 4000000 in
theorem unpacks8 : Unpacks 193 8 := by
  intro g go x d o len0 cap len caps P pr D cs0 outs w hlen hlc hcc hg hx hD gx gd xd room ol ob hfit
  have gl := hg.lt
  have xl := hx.lt
  have dl : d < w.heap.size := by obtain ⟨_, h, _⟩ := hD.hd; exact h.lt
  have KA : Keep [] w (w.alloc (.cells #[.int .u32 0] 202)) := (Keep.refl [] w).alloc _
  have u : UD g go w.heap.size x d cs0 := ⟨by omega, gx, gd, by omega, by omega, xd, room⟩
  have hU : UW w g go w.heap.size x d o len0 cap D cs0 ⟨P, 0, outs⟩ (w.alloc (.cells #[.int .u32 0] 202)) :=
    ⟨hg.keep KA (by simp), Blk.new w [.int .u32 0] _, ⟨pr, hx.keep KA (by simp)⟩, hD.keep KA (by simp), KA.weaken (by simp), ol, ob, by simp⟩
  have hby := hD.bytes
  have Hb := Lib.hid hby
  have HU := Lib.hid hU
  have Hd := Lib.hid u
  clear hg hx hD KA hU hby ob u
  go_enter Tryz.func193, Tryz.ntmps193
  have hU : UW w g go w.heap.size x d o len0 cap D cs0 ⟨P + 4 * 0, 0, outs⟩ (w.alloc (.cells #[.int .u32 0] 202)) := HU.out
  obtain ⟨out0, hout0⟩ : ∃ o, o = outs := ⟨_, rfl⟩
  rw [← hout0] at hU
  have HV0 : Hid (∀ i, i < 4 * 0 → out0[i]? = some (leVal (D.drop P) / 2 ^ (8 * i) % 2 ^ 8)) := Lib.hid (fun i hi => absurd hi (by omega))
  clear hout0
  go_wp2_with fail
  refine (hU.read Hd.out (by simp; omega)).mono ?_
  rintro e w1 ⟨rfl, h1⟩
  obtain ⟨W1, hW1⟩ : ∃ W, W = leVal (D.drop P) / 2 ^ (32 * 0) % 2 ^ 32 := ⟨_, rfl⟩
  have e1 : (⟨P + 4 * 0 + 4, leVal ((D.drop (P + 4 * 0)).take 4), out0⟩ : Mem) = ⟨P + 4 * 1, W1, out0⟩ := by rw [word_at D P _ Hb.out, ← hW1]
  simp only at h1
  rw [e1] at h1
  have HW1 := Lib.hid hW1
  have wl1 : W1 < 4294967296 := h1.wd
  clear hU hW1 e1
  go_wp2_with fail
  go_loopw [5] (fun i wr => ∃ (c m : Nat) (out : List Nat), m ≤ 3 ∧ i = .int .i64 (c : Int) ∧ c = 8 * m ∧ UW w g go w.heap.size x d o len0 cap D cs0 ⟨P + 4 * 1, W1, out⟩ wr ∧ Hid (∀ i, i < 4 * 0 + m → out[i]? = some (leVal (D.drop P) / 2 ^ (8 * i) % 2 ^ 8))) (fun i _ => 32 - (intOf i).toNat)
  case atStart => exact ⟨0, 0, out0, by omega, rfl, rfl, h1, HV0⟩
  case round =>
    obtain ⟨c, m, out, hm, rfl, hc, hU, HV⟩ := hrel
    have hcm : (c : Int) / 8 = (m : Int) := by omega
    have hct : (c : Int).tdiv 8 = (m : Int) := by rw [Int.tdiv_eq_ediv_of_nonneg (by omega)]; exact hcm
    have hm2 : (m : Int) ≤ 3 := by omega
    have hcs : c < 32 := by omega
    by_cases hk2 : m < 3
    · have hcb : (c : Int) < 24 := by omega
      have hcl := hU.cell Hd.out (k := 0 + m) (by omega)
      rw [show go + (0 + m) = go + m by omega] at hcl
      obtain ⟨cz, hfg, gl1, zl1⟩ := hU.cells
      simp only at cz
      obtain ⟨V, hV⟩ : ∃ V, V = W1 / 2 ^ c := ⟨_, rfl⟩
      have hVi : (W1 : Int) / 2 ^ c = (V : Int) := by rw [hV]; simp
      have hVl : V < 4294967296 := by rw [hV]; exact Nat.lt_of_le_of_lt (Nat.div_le_self _ _) wl1
      obtain ⟨X, hX⟩ : ∃ X, X = V % 256 := ⟨_, rfl⟩
      have hXi : (V : Int) % 256 = (X : Int) := by omega
      have hXl : X < 256 := by omega
      have HVk := Lib.hid hV
      have HX := Lib.hid hX
      have HUk := Lib.hid hU
      have Hc := Lib.hid hc
      clear hU hV hX hc
      go_wp2
      go_roundw
      case rel =>
        refine ⟨c + 8, m + 1, out.set (0 + m) X, by omega, by go_num, by have := Hc.out; omega, ?_, ?_⟩
        · have := HUk.out.out Hd.out (k := 0 + m) (v := X) (by omega) (by omega)
          rw [show go + (0 + m) = go + m by omega] at this
          simpa using this
        · have a1 : X = leVal (D.drop P) / 2 ^ (8 * (0 + m)) % 2 ^ 8 := by
            rw [HX.out, HVk.out, HW1.out, show 8 * (0 + m) = 32 * 0 + c by have := Hc.out; omega, ← win_in 32 _ _ c 8 (by omega)]
          have s1 := set_val (k := 0 + m) (v := X) (f := fun i => leVal (D.drop P) / 2 ^ (8 * i) % 2 ^ 8) HUk.out.len (by omega) HV.out a1
          exact Lib.hid fun i hi => s1 i (by omega)
      case measure => simp [intOf]; have := Hc.out; omega
    · have hm3 : m = 3 := by omega
      have hc3 : c = 24 := by omega
      clear hcm hct hm2 hcs hc
      subst hm3 hc3
      have hcl := hU.cell Hd.out (k := 3) (by omega)
      obtain ⟨cz, hfg, gl1, zl1⟩ := hU.cells
      simp only at cz
      obtain ⟨A, hA⟩ : ∃ A, A = W1 / 16777216 := ⟨_, rfl⟩
      have hAi : (W1 : Int) / 16777216 = (A : Int) := by omega
      have hAl : A < 256 := by omega
      have HA := Lib.hid hA
      obtain ⟨out1, hout1⟩ : ∃ o, o = out.set 3 A := ⟨_, rfl⟩
      have HV1 : Hid (∀ i, i < 4 * 1 → out1[i]? = some (leVal (D.drop P) / 2 ^ (8 * i) % 2 ^ 8)) := by
        have a1 : A = leVal (D.drop P) / 2 ^ (8 * 3) % 2 ^ 8 := by
          have h1 := win_in 32 (leVal (D.drop P)) (32 * 0) 24 8 (by omega)
          rw [← HW1.out] at h1
          rw [show 8 * 3 = 32 * 0 + 24 from rfl, ← h1, hA]
          exact (Nat.mod_eq_of_lt (by omega)).symm
        have s1 := set_val (k := 3) (v := A) (f := fun i => leVal (D.drop P) / 2 ^ (8 * i) % 2 ^ 8) hU.len (by omega) (fun i hi => HV.out i (by omega)) a1
        rw [hout1]
        exact Lib.hid fun i hi => s1 i (by omega)
      have hU := hU.out Hd.out (k := 3) (v := A) (by omega) (by omega)
      simp only at hU
      rw [← hout1] at hU
      clear hA hout1 HV
      go_wp2_with fail
      clear cz hfg gl1 zl1 hcl
      refine (hU.read Hd.out (by simp; omega)).mono ?_
      rintro e w2 ⟨rfl, h2⟩
      obtain ⟨W2, hW2⟩ : ∃ W, W = leVal (D.drop P) / 2 ^ (32 * 1) % 2 ^ 32 := ⟨_, rfl⟩
      have e2 : (⟨P + 4 * 1 + 4, leVal ((D.drop (P + 4 * 1)).take 4), out1⟩ : Mem) = ⟨P + 4 * 2, W2, out1⟩ := by rw [word_at D P _ Hb.out, ← hW2]
      simp only at h2
      rw [e2] at h2
      have HW2 := Lib.hid hW2
      have wl2 : W2 < 4294967296 := h2.wd
      clear hU hW2 e2
      go_wp2_with fail
      go_loopw [6] (fun i wr => ∃ (c m : Nat) (out : List Nat), m ≤ 3 ∧ i = .int .i64 (c : Int) ∧ c = 8 * m ∧ UW w g go w.heap.size x d o len0 cap D cs0 ⟨P + 4 * 2, W2, out⟩ wr ∧ Hid (∀ i, i < 4 * 1 + m → out[i]? = some (leVal (D.drop P) / 2 ^ (8 * i) % 2 ^ 8))) (fun i _ => 32 - (intOf i).toNat)
      case atStart => exact ⟨0, 0, out1, by omega, rfl, rfl, h2, HV1⟩
      case round =>
        obtain ⟨c, m, out, hm, rfl, hc, hU, HV⟩ := hrel
        have hcm : (c : Int) / 8 = (m : Int) := by omega
        have hct : (c : Int).tdiv 8 = (m : Int) := by rw [Int.tdiv_eq_ediv_of_nonneg (by omega)]; exact hcm
        have hm2 : (m : Int) ≤ 3 := by omega
        have hcs : c < 32 := by omega
        by_cases hk2 : m < 3
        · have hcb : (c : Int) < 24 := by omega
          have hcl := hU.cell Hd.out (k := 4 + m) (by omega)
          obtain ⟨cz, hfg, gl1, zl1⟩ := hU.cells
          simp only at cz
          obtain ⟨V, hV⟩ : ∃ V, V = W2 / 2 ^ c := ⟨_, rfl⟩
          have hVi : (W2 : Int) / 2 ^ c = (V : Int) := by rw [hV]; simp
          have hVl : V < 4294967296 := by rw [hV]; exact Nat.lt_of_le_of_lt (Nat.div_le_self _ _) wl2
          obtain ⟨X, hX⟩ : ∃ X, X = V % 256 := ⟨_, rfl⟩
          have hXi : (V : Int) % 256 = (X : Int) := by omega
          have hXl : X < 256 := by omega
          have HVk := Lib.hid hV
          have HX := Lib.hid hX
          have HUk := Lib.hid hU
          have Hc := Lib.hid hc
          clear hU hV hX hc
          go_wp2
          go_roundw
          case rel =>
            refine ⟨c + 8, m + 1, out.set (4 + m) X, by omega, by go_num, by have := Hc.out; omega, ?_, ?_⟩
            · have := HUk.out.out Hd.out (k := 4 + m) (v := X) (by omega) (by omega)
              simpa using this
            · have a1 : X = leVal (D.drop P) / 2 ^ (8 * (4 + m)) % 2 ^ 8 := by
                rw [HX.out, HVk.out, HW2.out, show 8 * (4 + m) = 32 * 1 + c by have := Hc.out; omega, ← win_in 32 _ _ c 8 (by omega)]
              have s1 := set_val (k := 4 + m) (v := X) (f := fun i => leVal (D.drop P) / 2 ^ (8 * i) % 2 ^ 8) HUk.out.len (by omega) HV.out a1
              exact Lib.hid fun i hi => s1 i (by omega)
          case measure => simp [intOf]; have := Hc.out; omega
        · have hm3 : m = 3 := by omega
          have hc3 : c = 24 := by omega
          clear hcm hct hm2 hcs hc
          subst hm3 hc3
          have hcl := hU.cell Hd.out (k := 7) (by omega)
          obtain ⟨cz, hfg, gl1, zl1⟩ := hU.cells
          simp only at cz
          obtain ⟨A, hA⟩ : ∃ A, A = W2 / 16777216 := ⟨_, rfl⟩
          have hAi : (W2 : Int) / 16777216 = (A : Int) := by omega
          have hAl : A < 256 := by omega
          have HA := Lib.hid hA
          obtain ⟨out2, hout2⟩ : ∃ o, o = out.set 7 A := ⟨_, rfl⟩
          have HV2 : Hid (∀ i, i < 4 * 2 → out2[i]? = some (leVal (D.drop P) / 2 ^ (8 * i) % 2 ^ 8)) := by
            have a1 : A = leVal (D.drop P) / 2 ^ (8 * 7) % 2 ^ 8 := by
              have h1 := win_in 32 (leVal (D.drop P)) (32 * 1) 24 8 (by omega)
              rw [← HW2.out] at h1
              rw [show 8 * 7 = 32 * 1 + 24 from rfl, ← h1, hA]
              exact (Nat.mod_eq_of_lt (by omega)).symm
            have s1 := set_val (k := 7) (v := A) (f := fun i => leVal (D.drop P) / 2 ^ (8 * i) % 2 ^ 8) hU.len (by omega) (fun i hi => HV.out i (by omega)) a1
            rw [hout2]
            exact Lib.hid fun i hi => s1 i (by omega)
          have hU := hU.out Hd.out (k := 7) (v := A) (by omega) (by omega)
          simp only at hU
          rw [← hout2] at hU
          clear hA hout2 HV
          go_wp2_with fail
          clear cz hfg gl1 zl1 hcl
          refine (hU.read Hd.out (by simp; omega)).mono ?_
          rintro e w3 ⟨rfl, h3⟩
          obtain ⟨W3, hW3⟩ : ∃ W, W = leVal (D.drop P) / 2 ^ (32 * 2) % 2 ^ 32 := ⟨_, rfl⟩
          have e3 : (⟨P + 4 * 2 + 4, leVal ((D.drop (P + 4 * 2)).take 4), out2⟩ : Mem) = ⟨P + 4 * 3, W3, out2⟩ := by rw [word_at D P _ Hb.out, ← hW3]
          simp only at h3
          rw [e3] at h3
          have HW3 := Lib.hid hW3
          have wl3 : W3 < 4294967296 := h3.wd
          clear hU hW3 e3
          go_wp2_with fail
          go_loopw [7] (fun i wr => ∃ (c m : Nat) (out : List Nat), m ≤ 3 ∧ i = .int .i64 (c : Int) ∧ c = 8 * m ∧ UW w g go w.heap.size x d o len0 cap D cs0 ⟨P + 4 * 3, W3, out⟩ wr ∧ Hid (∀ i, i < 4 * 2 + m → out[i]? = some (leVal (D.drop P) / 2 ^ (8 * i) % 2 ^ 8))) (fun i _ => 32 - (intOf i).toNat)
          case atStart => exact ⟨0, 0, out2, by omega, rfl, rfl, h3, HV2⟩
          case round =>
            obtain ⟨c, m, out, hm, rfl, hc, hU, HV⟩ := hrel
            have hcm : (c : Int) / 8 = (m : Int) := by omega
            have hct : (c : Int).tdiv 8 = (m : Int) := by rw [Int.tdiv_eq_ediv_of_nonneg (by omega)]; exact hcm
            have hm2 : (m : Int) ≤ 3 := by omega
            have hcs : c < 32 := by omega
            by_cases hk2 : m < 3
            · have hcb : (c : Int) < 24 := by omega
              have hcl := hU.cell Hd.out (k := 8 + m) (by omega)
              obtain ⟨cz, hfg, gl1, zl1⟩ := hU.cells
              simp only at cz
              obtain ⟨V, hV⟩ : ∃ V, V = W3 / 2 ^ c := ⟨_, rfl⟩
              have hVi : (W3 : Int) / 2 ^ c = (V : Int) := by rw [hV]; simp
              have hVl : V < 4294967296 := by rw [hV]; exact Nat.lt_of_le_of_lt (Nat.div_le_self _ _) wl3
              obtain ⟨X, hX⟩ : ∃ X, X = V % 256 := ⟨_, rfl⟩
              have hXi : (V : Int) % 256 = (X : Int) := by omega
              have hXl : X < 256 := by omega
              have HVk := Lib.hid hV
              have HX := Lib.hid hX
              have HUk := Lib.hid hU
              have Hc := Lib.hid hc
              clear hU hV hX hc
              go_wp2
              go_roundw
              case rel =>
                refine ⟨c + 8, m + 1, out.set (8 + m) X, by omega, by go_num, by have := Hc.out; omega, ?_, ?_⟩
                · have := HUk.out.out Hd.out (k := 8 + m) (v := X) (by omega) (by omega)
                  simpa using this
                · have a1 : X = leVal (D.drop P) / 2 ^ (8 * (8 + m)) % 2 ^ 8 := by
                    rw [HX.out, HVk.out, HW3.out, show 8 * (8 + m) = 32 * 2 + c by have := Hc.out; omega, ← win_in 32 _ _ c 8 (by omega)]
                  have s1 := set_val (k := 8 + m) (v := X) (f := fun i => leVal (D.drop P) / 2 ^ (8 * i) % 2 ^ 8) HUk.out.len (by omega) HV.out a1
                  exact Lib.hid fun i hi => s1 i (by omega)
              case measure => simp [intOf]; have := Hc.out; omega
            · have hm3 : m = 3 := by omega
              have hc3 : c = 24 := by omega
              clear hcm hct hm2 hcs hc
              subst hm3 hc3
              have hcl := hU.cell Hd.out (k := 11) (by omega)
              obtain ⟨cz, hfg, gl1, zl1⟩ := hU.cells
              simp only at cz
              obtain ⟨A, hA⟩ : ∃ A, A = W3 / 16777216 := ⟨_, rfl⟩
              have hAi : (W3 : Int) / 16777216 = (A : Int) := by omega
              have hAl : A < 256 := by omega
              have HA := Lib.hid hA
              obtain ⟨out3, hout3⟩ : ∃ o, o = out.set 11 A := ⟨_, rfl⟩
              have HV3 : Hid (∀ i, i < 4 * 3 → out3[i]? = some (leVal (D.drop P) / 2 ^ (8 * i) % 2 ^ 8)) := by
                have a1 : A = leVal (D.drop P) / 2 ^ (8 * 11) % 2 ^ 8 := by
                  have h1 := win_in 32 (leVal (D.drop P)) (32 * 2) 24 8 (by omega)
                  rw [← HW3.out] at h1
                  rw [show 8 * 11 = 32 * 2 + 24 from rfl, ← h1, hA]
                  exact (Nat.mod_eq_of_lt (by omega)).symm
                have s1 := set_val (k := 11) (v := A) (f := fun i => leVal (D.drop P) / 2 ^ (8 * i) % 2 ^ 8) hU.len (by omega) (fun i hi => HV.out i (by omega)) a1
                rw [hout3]
                exact Lib.hid fun i hi => s1 i (by omega)
              have hU := hU.out Hd.out (k := 11) (v := A) (by omega) (by omega)
              simp only at hU
              rw [← hout3] at hU
              clear hA hout3 HV
              go_wp2_with fail
              clear cz hfg gl1 zl1 hcl
              refine (hU.read Hd.out (by simp; omega)).mono ?_
              rintro e w4 ⟨rfl, h4⟩
              obtain ⟨W4, hW4⟩ : ∃ W, W = leVal (D.drop P) / 2 ^ (32 * 3) % 2 ^ 32 := ⟨_, rfl⟩
              have e4 : (⟨P + 4 * 3 + 4, leVal ((D.drop (P + 4 * 3)).take 4), out3⟩ : Mem) = ⟨P + 4 * 4, W4, out3⟩ := by rw [word_at D P _ Hb.out, ← hW4]
              simp only at h4
              rw [e4] at h4
              have HW4 := Lib.hid hW4
              have wl4 : W4 < 4294967296 := h4.wd
              clear hU hW4 e4
              go_wp2_with fail
              go_loopw [8] (fun i wr => ∃ (c m : Nat) (out : List Nat), m ≤ 3 ∧ i = .int .i64 (c : Int) ∧ c = 8 * m ∧ UW w g go w.heap.size x d o len0 cap D cs0 ⟨P + 4 * 4, W4, out⟩ wr ∧ Hid (∀ i, i < 4 * 3 + m → out[i]? = some (leVal (D.drop P) / 2 ^ (8 * i) % 2 ^ 8))) (fun i _ => 32 - (intOf i).toNat)
              case atStart => exact ⟨0, 0, out3, by omega, rfl, rfl, h4, HV3⟩
              case round =>
                obtain ⟨c, m, out, hm, rfl, hc, hU, HV⟩ := hrel
                have hcm : (c : Int) / 8 = (m : Int) := by omega
                have hct : (c : Int).tdiv 8 = (m : Int) := by rw [Int.tdiv_eq_ediv_of_nonneg (by omega)]; exact hcm
                have hm2 : (m : Int) ≤ 3 := by omega
                have hcs : c < 32 := by omega
                by_cases hk2 : m < 3
                · have hcb : (c : Int) < 24 := by omega
                  have hcl := hU.cell Hd.out (k := 12 + m) (by omega)
                  obtain ⟨cz, hfg, gl1, zl1⟩ := hU.cells
                  simp only at cz
                  obtain ⟨V, hV⟩ : ∃ V, V = W4 / 2 ^ c := ⟨_, rfl⟩
                  have hVi : (W4 : Int) / 2 ^ c = (V : Int) := by rw [hV]; simp
                  have hVl : V < 4294967296 := by rw [hV]; exact Nat.lt_of_le_of_lt (Nat.div_le_self _ _) wl4
                  obtain ⟨X, hX⟩ : ∃ X, X = V % 256 := ⟨_, rfl⟩
                  have hXi : (V : Int) % 256 = (X : Int) := by omega
                  have hXl : X < 256 := by omega
                  have HVk := Lib.hid hV
                  have HX := Lib.hid hX
                  have HUk := Lib.hid hU
                  have Hc := Lib.hid hc
                  clear hU hV hX hc
                  go_wp2
                  go_roundw
                  case rel =>
                    refine ⟨c + 8, m + 1, out.set (12 + m) X, by omega, by go_num, by have := Hc.out; omega, ?_, ?_⟩
                    · have := HUk.out.out Hd.out (k := 12 + m) (v := X) (by omega) (by omega)
                      simpa using this
                    · have a1 : X = leVal (D.drop P) / 2 ^ (8 * (12 + m)) % 2 ^ 8 := by
                        rw [HX.out, HVk.out, HW4.out, show 8 * (12 + m) = 32 * 3 + c by have := Hc.out; omega, ← win_in 32 _ _ c 8 (by omega)]
                      have s1 := set_val (k := 12 + m) (v := X) (f := fun i => leVal (D.drop P) / 2 ^ (8 * i) % 2 ^ 8) HUk.out.len (by omega) HV.out a1
                      exact Lib.hid fun i hi => s1 i (by omega)
                  case measure => simp [intOf]; have := Hc.out; omega
                · have hm3 : m = 3 := by omega
                  have hc3 : c = 24 := by omega
                  clear hcm hct hm2 hcs hc
                  subst hm3 hc3
                  have hcl := hU.cell Hd.out (k := 15) (by omega)
                  obtain ⟨cz, hfg, gl1, zl1⟩ := hU.cells
                  simp only at cz
                  obtain ⟨A, hA⟩ : ∃ A, A = W4 / 16777216 := ⟨_, rfl⟩
                  have hAi : (W4 : Int) / 16777216 = (A : Int) := by omega
                  have hAl : A < 256 := by omega
                  have HA := Lib.hid hA
                  obtain ⟨out4, hout4⟩ : ∃ o, o = out.set 15 A := ⟨_, rfl⟩
                  have HV4 : Hid (∀ i, i < 4 * 4 → out4[i]? = some (leVal (D.drop P) / 2 ^ (8 * i) % 2 ^ 8)) := by
                    have a1 : A = leVal (D.drop P) / 2 ^ (8 * 15) % 2 ^ 8 := by
                      have h1 := win_in 32 (leVal (D.drop P)) (32 * 3) 24 8 (by omega)
                      rw [← HW4.out] at h1
                      rw [show 8 * 15 = 32 * 3 + 24 from rfl, ← h1, hA]
                      exact (Nat.mod_eq_of_lt (by omega)).symm
                    have s1 := set_val (k := 15) (v := A) (f := fun i => leVal (D.drop P) / 2 ^ (8 * i) % 2 ^ 8) hU.len (by omega) (fun i hi => HV.out i (by omega)) a1
                    rw [hout4]
                    exact Lib.hid fun i hi => s1 i (by omega)
                  have hU := hU.out Hd.out (k := 15) (v := A) (by omega) (by omega)
                  simp only at hU
                  rw [← hout4] at hU
                  clear hA hout4 HV
                  go_wp2_with fail
                  clear cz hfg gl1 zl1 hcl
                  refine (hU.read Hd.out (by simp; omega)).mono ?_
                  rintro e w5 ⟨rfl, h5⟩
                  obtain ⟨W5, hW5⟩ : ∃ W, W = leVal (D.drop P) / 2 ^ (32 * 4) % 2 ^ 32 := ⟨_, rfl⟩
                  have e5 : (⟨P + 4 * 4 + 4, leVal ((D.drop (P + 4 * 4)).take 4), out4⟩ : Mem) = ⟨P + 4 * 5, W5, out4⟩ := by rw [word_at D P _ Hb.out, ← hW5]
                  simp only at h5
                  rw [e5] at h5
                  have HW5 := Lib.hid hW5
                  have wl5 : W5 < 4294967296 := h5.wd
                  clear hU hW5 e5
                  go_wp2_with fail
                  go_loopw [9] (fun i wr => ∃ (c m : Nat) (out : List Nat), m ≤ 3 ∧ i = .int .i64 (c : Int) ∧ c = 8 * m ∧ UW w g go w.heap.size x d o len0 cap D cs0 ⟨P + 4 * 5, W5, out⟩ wr ∧ Hid (∀ i, i < 4 * 4 + m → out[i]? = some (leVal (D.drop P) / 2 ^ (8 * i) % 2 ^ 8))) (fun i _ => 32 - (intOf i).toNat)
                  case atStart => exact ⟨0, 0, out4, by omega, rfl, rfl, h5, HV4⟩
                  case round =>
                    obtain ⟨c, m, out, hm, rfl, hc, hU, HV⟩ := hrel
                    have hcm : (c : Int) / 8 = (m : Int) := by omega
                    have hct : (c : Int).tdiv 8 = (m : Int) := by rw [Int.tdiv_eq_ediv_of_nonneg (by omega)]; exact hcm
                    have hm2 : (m : Int) ≤ 3 := by omega
                    have hcs : c < 32 := by omega
                    by_cases hk2 : m < 3
                    · have hcb : (c : Int) < 24 := by omega
                      have hcl := hU.cell Hd.out (k := 16 + m) (by omega)
                      obtain ⟨cz, hfg, gl1, zl1⟩ := hU.cells
                      simp only at cz
                      obtain ⟨V, hV⟩ : ∃ V, V = W5 / 2 ^ c := ⟨_, rfl⟩
                      have hVi : (W5 : Int) / 2 ^ c = (V : Int) := by rw [hV]; simp
                      have hVl : V < 4294967296 := by rw [hV]; exact Nat.lt_of_le_of_lt (Nat.div_le_self _ _) wl5
                      obtain ⟨X, hX⟩ : ∃ X, X = V % 256 := ⟨_, rfl⟩
                      have hXi : (V : Int) % 256 = (X : Int) := by omega
                      have hXl : X < 256 := by omega
                      have HVk := Lib.hid hV
                      have HX := Lib.hid hX
                      have HUk := Lib.hid hU
                      have Hc := Lib.hid hc
                      clear hU hV hX hc
                      go_wp2
                      go_roundw
                      case rel =>
                        refine ⟨c + 8, m + 1, out.set (16 + m) X, by omega, by go_num, by have := Hc.out; omega, ?_, ?_⟩
                        · have := HUk.out.out Hd.out (k := 16 + m) (v := X) (by omega) (by omega)
                          simpa using this
                        · have a1 : X = leVal (D.drop P) / 2 ^ (8 * (16 + m)) % 2 ^ 8 := by
                            rw [HX.out, HVk.out, HW5.out, show 8 * (16 + m) = 32 * 4 + c by have := Hc.out; omega, ← win_in 32 _ _ c 8 (by omega)]
                          have s1 := set_val (k := 16 + m) (v := X) (f := fun i => leVal (D.drop P) / 2 ^ (8 * i) % 2 ^ 8) HUk.out.len (by omega) HV.out a1
                          exact Lib.hid fun i hi => s1 i (by omega)
                      case measure => simp [intOf]; have := Hc.out; omega
                    · have hm3 : m = 3 := by omega
                      have hc3 : c = 24 := by omega
                      clear hcm hct hm2 hcs hc
                      subst hm3 hc3
                      have hcl := hU.cell Hd.out (k := 19) (by omega)
                      obtain ⟨cz, hfg, gl1, zl1⟩ := hU.cells
                      simp only at cz
                      obtain ⟨A, hA⟩ : ∃ A, A = W5 / 16777216 := ⟨_, rfl⟩
                      have hAi : (W5 : Int) / 16777216 = (A : Int) := by omega
                      have hAl : A < 256 := by omega
                      have HA := Lib.hid hA
                      obtain ⟨out5, hout5⟩ : ∃ o, o = out.set 19 A := ⟨_, rfl⟩
                      have HV5 : Hid (∀ i, i < 4 * 5 → out5[i]? = some (leVal (D.drop P) / 2 ^ (8 * i) % 2 ^ 8)) := by
                        have a1 : A = leVal (D.drop P) / 2 ^ (8 * 19) % 2 ^ 8 := by
                          have h1 := win_in 32 (leVal (D.drop P)) (32 * 4) 24 8 (by omega)
                          rw [← HW5.out] at h1
                          rw [show 8 * 19 = 32 * 4 + 24 from rfl, ← h1, hA]
                          exact (Nat.mod_eq_of_lt (by omega)).symm
                        have s1 := set_val (k := 19) (v := A) (f := fun i => leVal (D.drop P) / 2 ^ (8 * i) % 2 ^ 8) hU.len (by omega) (fun i hi => HV.out i (by omega)) a1
                        rw [hout5]
                        exact Lib.hid fun i hi => s1 i (by omega)
                      have hU := hU.out Hd.out (k := 19) (v := A) (by omega) (by omega)
                      simp only at hU
                      rw [← hout5] at hU
                      clear hA hout5 HV
                      go_wp2_with fail
                      clear cz hfg gl1 zl1 hcl
                      refine (hU.read Hd.out (by simp; omega)).mono ?_
                      rintro e w6 ⟨rfl, h6⟩
                      obtain ⟨W6, hW6⟩ : ∃ W, W = leVal (D.drop P) / 2 ^ (32 * 5) % 2 ^ 32 := ⟨_, rfl⟩
                      have e6 : (⟨P + 4 * 5 + 4, leVal ((D.drop (P + 4 * 5)).take 4), out5⟩ : Mem) = ⟨P + 4 * 6, W6, out5⟩ := by rw [word_at D P _ Hb.out, ← hW6]
                      simp only at h6
                      rw [e6] at h6
                      have HW6 := Lib.hid hW6
                      have wl6 : W6 < 4294967296 := h6.wd
                      clear hU hW6 e6
                      go_wp2_with fail
                      go_loopw [10] (fun i wr => ∃ (c m : Nat) (out : List Nat), m ≤ 3 ∧ i = .int .i64 (c : Int) ∧ c = 8 * m ∧ UW w g go w.heap.size x d o len0 cap D cs0 ⟨P + 4 * 6, W6, out⟩ wr ∧ Hid (∀ i, i < 4 * 5 + m → out[i]? = some (leVal (D.drop P) / 2 ^ (8 * i) % 2 ^ 8))) (fun i _ => 32 - (intOf i).toNat)
                      case atStart => exact ⟨0, 0, out5, by omega, rfl, rfl, h6, HV5⟩
                      case round =>
                        obtain ⟨c, m, out, hm, rfl, hc, hU, HV⟩ := hrel
                        have hcm : (c : Int) / 8 = (m : Int) := by omega
                        have hct : (c : Int).tdiv 8 = (m : Int) := by rw [Int.tdiv_eq_ediv_of_nonneg (by omega)]; exact hcm
                        have hm2 : (m : Int) ≤ 3 := by omega
                        have hcs : c < 32 := by omega
                        by_cases hk2 : m < 3
                        · have hcb : (c : Int) < 24 := by omega
                          have hcl := hU.cell Hd.out (k := 20 + m) (by omega)
                          obtain ⟨cz, hfg, gl1, zl1⟩ := hU.cells
                          simp only at cz
                          obtain ⟨V, hV⟩ : ∃ V, V = W6 / 2 ^ c := ⟨_, rfl⟩
                          have hVi : (W6 : Int) / 2 ^ c = (V : Int) := by rw [hV]; simp
                          have hVl : V < 4294967296 := by rw [hV]; exact Nat.lt_of_le_of_lt (Nat.div_le_self _ _) wl6
                          obtain ⟨X, hX⟩ : ∃ X, X = V % 256 := ⟨_, rfl⟩
                          have hXi : (V : Int) % 256 = (X : Int) := by omega
                          have hXl : X < 256 := by omega
                          have HVk := Lib.hid hV
                          have HX := Lib.hid hX
                          have HUk := Lib.hid hU
                          have Hc := Lib.hid hc
                          clear hU hV hX hc
                          go_wp2
                          go_roundw
                          case rel =>
                            refine ⟨c + 8, m + 1, out.set (20 + m) X, by omega, by go_num, by have := Hc.out; omega, ?_, ?_⟩
                            · have := HUk.out.out Hd.out (k := 20 + m) (v := X) (by omega) (by omega)
                              simpa using this
                            · have a1 : X = leVal (D.drop P) / 2 ^ (8 * (20 + m)) % 2 ^ 8 := by
                                rw [HX.out, HVk.out, HW6.out, show 8 * (20 + m) = 32 * 5 + c by have := Hc.out; omega, ← win_in 32 _ _ c 8 (by omega)]
                              have s1 := set_val (k := 20 + m) (v := X) (f := fun i => leVal (D.drop P) / 2 ^ (8 * i) % 2 ^ 8) HUk.out.len (by omega) HV.out a1
                              exact Lib.hid fun i hi => s1 i (by omega)
                          case measure => simp [intOf]; have := Hc.out; omega
                        · have hm3 : m = 3 := by omega
                          have hc3 : c = 24 := by omega
                          clear hcm hct hm2 hcs hc
                          subst hm3 hc3
                          have hcl := hU.cell Hd.out (k := 23) (by omega)
                          obtain ⟨cz, hfg, gl1, zl1⟩ := hU.cells
                          simp only at cz
                          obtain ⟨A, hA⟩ : ∃ A, A = W6 / 16777216 := ⟨_, rfl⟩
                          have hAi : (W6 : Int) / 16777216 = (A : Int) := by omega
                          have hAl : A < 256 := by omega
                          have HA := Lib.hid hA
                          obtain ⟨out6, hout6⟩ : ∃ o, o = out.set 23 A := ⟨_, rfl⟩
                          have HV6 : Hid (∀ i, i < 4 * 6 → out6[i]? = some (leVal (D.drop P) / 2 ^ (8 * i) % 2 ^ 8)) := by
                            have a1 : A = leVal (D.drop P) / 2 ^ (8 * 23) % 2 ^ 8 := by
                              have h1 := win_in 32 (leVal (D.drop P)) (32 * 5) 24 8 (by omega)
                              rw [← HW6.out] at h1
                              rw [show 8 * 23 = 32 * 5 + 24 from rfl, ← h1, hA]
                              exact (Nat.mod_eq_of_lt (by omega)).symm
                            have s1 := set_val (k := 23) (v := A) (f := fun i => leVal (D.drop P) / 2 ^ (8 * i) % 2 ^ 8) hU.len (by omega) (fun i hi => HV.out i (by omega)) a1
                            rw [hout6]
                            exact Lib.hid fun i hi => s1 i (by omega)
                          have hU := hU.out Hd.out (k := 23) (v := A) (by omega) (by omega)
                          simp only at hU
                          rw [← hout6] at hU
                          clear hA hout6 HV
                          go_wp2_with fail
                          clear cz hfg gl1 zl1 hcl
                          refine (hU.read Hd.out (by simp; omega)).mono ?_
                          rintro e w7 ⟨rfl, h7⟩
                          obtain ⟨W7, hW7⟩ : ∃ W, W = leVal (D.drop P) / 2 ^ (32 * 6) % 2 ^ 32 := ⟨_, rfl⟩
                          have e7 : (⟨P + 4 * 6 + 4, leVal ((D.drop (P + 4 * 6)).take 4), out6⟩ : Mem) = ⟨P + 4 * 7, W7, out6⟩ := by rw [word_at D P _ Hb.out, ← hW7]
                          simp only at h7
                          rw [e7] at h7
                          have HW7 := Lib.hid hW7
                          have wl7 : W7 < 4294967296 := h7.wd
                          clear hU hW7 e7
                          go_wp2_with fail
                          go_loopw [11] (fun i wr => ∃ (c m : Nat) (out : List Nat), m ≤ 3 ∧ i = .int .i64 (c : Int) ∧ c = 8 * m ∧ UW w g go w.heap.size x d o len0 cap D cs0 ⟨P + 4 * 7, W7, out⟩ wr ∧ Hid (∀ i, i < 4 * 6 + m → out[i]? = some (leVal (D.drop P) / 2 ^ (8 * i) % 2 ^ 8))) (fun i _ => 32 - (intOf i).toNat)
                          case atStart => exact ⟨0, 0, out6, by omega, rfl, rfl, h7, HV6⟩
                          case round =>
                            obtain ⟨c, m, out, hm, rfl, hc, hU, HV⟩ := hrel
                            have hcm : (c : Int) / 8 = (m : Int) := by omega
                            have hct : (c : Int).tdiv 8 = (m : Int) := by rw [Int.tdiv_eq_ediv_of_nonneg (by omega)]; exact hcm
                            have hm2 : (m : Int) ≤ 3 := by omega
                            have hcs : c < 32 := by omega
                            by_cases hk2 : m < 3
                            · have hcb : (c : Int) < 24 := by omega
                              have hcl := hU.cell Hd.out (k := 24 + m) (by omega)
                              obtain ⟨cz, hfg, gl1, zl1⟩ := hU.cells
                              simp only at cz
                              obtain ⟨V, hV⟩ : ∃ V, V = W7 / 2 ^ c := ⟨_, rfl⟩
                              have hVi : (W7 : Int) / 2 ^ c = (V : Int) := by rw [hV]; simp
                              have hVl : V < 4294967296 := by rw [hV]; exact Nat.lt_of_le_of_lt (Nat.div_le_self _ _) wl7
                              obtain ⟨X, hX⟩ : ∃ X, X = V % 256 := ⟨_, rfl⟩
                              have hXi : (V : Int) % 256 = (X : Int) := by omega
                              have hXl : X < 256 := by omega
                              have HVk := Lib.hid hV
                              have HX := Lib.hid hX
                              have HUk := Lib.hid hU
                              have Hc := Lib.hid hc
                              clear hU hV hX hc
                              go_wp2
                              go_roundw
                              case rel =>
                                refine ⟨c + 8, m + 1, out.set (24 + m) X, by omega, by go_num, by have := Hc.out; omega, ?_, ?_⟩
                                · have := HUk.out.out Hd.out (k := 24 + m) (v := X) (by omega) (by omega)
                                  simpa using this
                                · have a1 : X = leVal (D.drop P) / 2 ^ (8 * (24 + m)) % 2 ^ 8 := by
                                    rw [HX.out, HVk.out, HW7.out, show 8 * (24 + m) = 32 * 6 + c by have := Hc.out; omega, ← win_in 32 _ _ c 8 (by omega)]
                                  have s1 := set_val (k := 24 + m) (v := X) (f := fun i => leVal (D.drop P) / 2 ^ (8 * i) % 2 ^ 8) HUk.out.len (by omega) HV.out a1
                                  exact Lib.hid fun i hi => s1 i (by omega)
                              case measure => simp [intOf]; have := Hc.out; omega
                            · have hm3 : m = 3 := by omega
                              have hc3 : c = 24 := by omega
                              clear hcm hct hm2 hcs hc
                              subst hm3 hc3
                              have hcl := hU.cell Hd.out (k := 27) (by omega)
                              obtain ⟨cz, hfg, gl1, zl1⟩ := hU.cells
                              simp only at cz
                              obtain ⟨A, hA⟩ : ∃ A, A = W7 / 16777216 := ⟨_, rfl⟩
                              have hAi : (W7 : Int) / 16777216 = (A : Int) := by omega
                              have hAl : A < 256 := by omega
                              have HA := Lib.hid hA
                              obtain ⟨out7, hout7⟩ : ∃ o, o = out.set 27 A := ⟨_, rfl⟩
                              have HV7 : Hid (∀ i, i < 4 * 7 → out7[i]? = some (leVal (D.drop P) / 2 ^ (8 * i) % 2 ^ 8)) := by
                                have a1 : A = leVal (D.drop P) / 2 ^ (8 * 27) % 2 ^ 8 := by
                                  have h1 := win_in 32 (leVal (D.drop P)) (32 * 6) 24 8 (by omega)
                                  rw [← HW7.out] at h1
                                  rw [show 8 * 27 = 32 * 6 + 24 from rfl, ← h1, hA]
                                  exact (Nat.mod_eq_of_lt (by omega)).symm
                                have s1 := set_val (k := 27) (v := A) (f := fun i => leVal (D.drop P) / 2 ^ (8 * i) % 2 ^ 8) hU.len (by omega) (fun i hi => HV.out i (by omega)) a1
                                rw [hout7]
                                exact Lib.hid fun i hi => s1 i (by omega)
                              have hU := hU.out Hd.out (k := 27) (v := A) (by omega) (by omega)
                              simp only at hU
                              rw [← hout7] at hU
                              clear hA hout7 HV
                              go_wp2_with fail
                              clear cz hfg gl1 zl1 hcl
                              refine (hU.read Hd.out (by simp; omega)).mono ?_
                              rintro e w8 ⟨rfl, h8⟩
                              obtain ⟨W8, hW8⟩ : ∃ W, W = leVal (D.drop P) / 2 ^ (32 * 7) % 2 ^ 32 := ⟨_, rfl⟩
                              have e8 : (⟨P + 4 * 7 + 4, leVal ((D.drop (P + 4 * 7)).take 4), out7⟩ : Mem) = ⟨P + 4 * 8, W8, out7⟩ := by rw [word_at D P _ Hb.out, ← hW8]
                              simp only at h8
                              rw [e8] at h8
                              have HW8 := Lib.hid hW8
                              have wl8 : W8 < 4294967296 := h8.wd
                              clear hU hW8 e8
                              go_wp2_with fail
                              go_loopw [12] (fun i wr => ∃ (c m : Nat) (out : List Nat), m ≤ 3 ∧ i = .int .i64 (c : Int) ∧ c = 8 * m ∧ UW w g go w.heap.size x d o len0 cap D cs0 ⟨P + 4 * 8, W8, out⟩ wr ∧ Hid (∀ i, i < 4 * 7 + m → out[i]? = some (leVal (D.drop P) / 2 ^ (8 * i) % 2 ^ 8))) (fun i _ => 32 - (intOf i).toNat)
                              case atStart => exact ⟨0, 0, out7, by omega, rfl, rfl, h8, HV7⟩
                              case round =>
                                obtain ⟨c, m, out, hm, rfl, hc, hU, HV⟩ := hrel
                                have hcm : (c : Int) / 8 = (m : Int) := by omega
                                have hct : (c : Int).tdiv 8 = (m : Int) := by rw [Int.tdiv_eq_ediv_of_nonneg (by omega)]; exact hcm
                                have hm2 : (m : Int) ≤ 3 := by omega
                                have hcs : c < 32 := by omega
                                by_cases hk2 : m < 3
                                · have hcb : (c : Int) < 24 := by omega
                                  have hcl := hU.cell Hd.out (k := 28 + m) (by omega)
                                  obtain ⟨cz, hfg, gl1, zl1⟩ := hU.cells
                                  simp only at cz
                                  obtain ⟨V, hV⟩ : ∃ V, V = W8 / 2 ^ c := ⟨_, rfl⟩
                                  have hVi : (W8 : Int) / 2 ^ c = (V : Int) := by rw [hV]; simp
                                  have hVl : V < 4294967296 := by rw [hV]; exact Nat.lt_of_le_of_lt (Nat.div_le_self _ _) wl8
                                  obtain ⟨X, hX⟩ : ∃ X, X = V % 256 := ⟨_, rfl⟩
                                  have hXi : (V : Int) % 256 = (X : Int) := by omega
                                  have hXl : X < 256 := by omega
                                  have HVk := Lib.hid hV
                                  have HX := Lib.hid hX
                                  have HUk := Lib.hid hU
                                  have Hc := Lib.hid hc
                                  clear hU hV hX hc
                                  go_wp2
                                  go_roundw
                                  case rel =>
                                    refine ⟨c + 8, m + 1, out.set (28 + m) X, by omega, by go_num, by have := Hc.out; omega, ?_, ?_⟩
                                    · have := HUk.out.out Hd.out (k := 28 + m) (v := X) (by omega) (by omega)
                                      simpa using this
                                    · have a1 : X = leVal (D.drop P) / 2 ^ (8 * (28 + m)) % 2 ^ 8 := by
                                        rw [HX.out, HVk.out, HW8.out, show 8 * (28 + m) = 32 * 7 + c by have := Hc.out; omega, ← win_in 32 _ _ c 8 (by omega)]
                                      have s1 := set_val (k := 28 + m) (v := X) (f := fun i => leVal (D.drop P) / 2 ^ (8 * i) % 2 ^ 8) HUk.out.len (by omega) HV.out a1
                                      exact Lib.hid fun i hi => s1 i (by omega)
                                  case measure => simp [intOf]; have := Hc.out; omega
                                · have hm3 : m = 3 := by omega
                                  have hc3 : c = 24 := by omega
                                  clear hcm hct hm2 hcs hc
                                  subst hm3 hc3
                                  have hcl := hU.cell Hd.out (k := 31) (by omega)
                                  obtain ⟨cz, hfg, gl1, zl1⟩ := hU.cells
                                  simp only at cz
                                  obtain ⟨A, hA⟩ : ∃ A, A = W8 / 16777216 := ⟨_, rfl⟩
                                  have hAi : (W8 : Int) / 16777216 = (A : Int) := by omega
                                  have hAl : A < 256 := by omega
                                  have HA := Lib.hid hA
                                  obtain ⟨out8, hout8⟩ : ∃ o, o = out.set 31 A := ⟨_, rfl⟩
                                  have HV8 : Hid (∀ i, i < 4 * 8 → out8[i]? = some (leVal (D.drop P) / 2 ^ (8 * i) % 2 ^ 8)) := by
                                    have a1 : A = leVal (D.drop P) / 2 ^ (8 * 31) % 2 ^ 8 := by
                                      have h1 := win_in 32 (leVal (D.drop P)) (32 * 7) 24 8 (by omega)
                                      rw [← HW8.out] at h1
                                      rw [show 8 * 31 = 32 * 7 + 24 from rfl, ← h1, hA]
                                      exact (Nat.mod_eq_of_lt (by omega)).symm
                                    have s1 := set_val (k := 31) (v := A) (f := fun i => leVal (D.drop P) / 2 ^ (8 * i) % 2 ^ 8) hU.len (by omega) (fun i hi => HV.out i (by omega)) a1
                                    rw [hout8]
                                    exact Lib.hid fun i hi => s1 i (by omega)
                                  have hU := hU.out Hd.out (k := 31) (v := A) (by omega) (by omega)
                                  simp only at hU
                                  rw [← hout8] at hU
                                  clear hA hout8 HV
                                  go_wp2
                                  go_end0
                                  exact ⟨rfl, hU.K.weaken (by simp), out8, hU.hg, hU.len, fun i hi => HV8.out i (by omega)⟩

end Go.Proofs.YtlolcgklcnechaaGreatDoor
