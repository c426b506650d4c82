/- The functions with loops: unpack1_32, unpack16_32, unpack24_32, unpack28_32, unpack32_32. -/
import Derived.Test.YtlolcgklcnechaaGreatDoorXU3
set_option linter.unusedVariables false
set_option linter.unusedSimpArgs false
namespace Go.Proofs.YtlolcgklcnechaaGreatDoor
open Go.RowKit

/-- Function f reads 32 numbers of n bits. -/
def Unpacks (f n : Nat) : Prop := ∀ (g go : Nat) (x : XP) (d o len0 cap len caps P : Nat) (pr : Int) (D : List Nat) (cs0 : List Value) (outs : List Nat) (w : World), 32 ≤ len → len ≤ caps → caps ≤ 1099511627776 →
  Blk w g (splice cs0 go (rowV .u32 outs)) → Rd w x [.slice (some ⟨d, o, none⟩) len0 cap, .int .i64 (P : Int), .int .i64 pr] → BytesAt w d o len0 cap D →
  g ≠ x.b → g ≠ d → x.b ≠ d → go + 32 ≤ cs0.length → outs.length = 32 → (∀ v ∈ outs, v < 4294967296) → P + 4 * n ≤ len0 →
  Calls Tryz.prog f #[.iface 91 (.pointer (some ⟨x.b, x.o, none⟩)), .slice (some ⟨g, go, none⟩) len caps] w fun e w' =>
    e = .returned (.tuple #[]) ∧ Keep [x, g] w w' ∧ ∃ outs', Blk w' g (splice cs0 go (rowV .u32 outs')) ∧ outs'.length = 32 ∧ ∀ i, i < 32 → outs'[i]? = some (leVal (D.drop P) / 2 ^ (n * i) % 2 ^ n)

theorem unpacks_straight (f n : Nat) (fn : Func) (hf : Tryz.prog.funcs[f]? = some fn) (h : Straight fn (progN n)) (hn0 : 0 < n) (hn : n < 32) : Unpacks f n := by
  intro g go x d o len0 cap len caps P pr D cs0 outs w hlen hlc hcc hg hx hD gx gd xd room ol ob hfit
  obtain ⟨h1, h2⟩ := progN_law (L := len0) hD.bytes hn0 hn hfit ol
  refine (unpack_of f fn (progN n) hf h g go x d o len0 cap len caps P pr D cs0 outs w hlen hg hx hD gx gd xd room ol ob h1).mono ?_
  rintro e w' ⟨h3, k, h4, h5, h6⟩
  exact ⟨h3, k, _, h4, h2.len, h2.val⟩

theorem and_one32 (m : Nat) (h : m < 4294967296) : bits .and .u32 (m : Int) 1 = ((m % 2 : Nat) : Int) := by
  have := u32_and_nat m 1 h (by omega)
  rw [nat_mask1] at this
  exact this


theorem UW.read {w0 : World} {g go z : Nat} {x : XP} {d o n cap : Nat} {D : List Nat} {cs0 : List Value} {μ : Mem} {w : World} (h : UW w0 g go z x d o n cap D cs0 μ w) (u : UD g go z x d cs0) (hfit : μ.P + 4 ≤ n) :
    Calls Tryz.prog 231 #[.iface 91 (.pointer (some ⟨x.b, x.o, none⟩)), .pointer (some ⟨z, 0, none⟩)] w fun e w' =>
      e = .returned (.tuple #[]) ∧ UW w0 g go z x d o n cap D cs0 ⟨μ.P + 4, leVal ((D.drop μ.P).take 4), μ.outs⟩ w' := by
  obtain ⟨pr, hx⟩ := h.hx
  refine (readLittleC z 0 x d o n cap μ.P pr D _ w hx h.hD h.hz (by simp) u.zx u.zd u.xd hfit).mono ?_
  rintro e w' ⟨rfl, k, hz', hx'⟩
  refine ⟨rfl, h.hg.keep k (by simp; exact ⟨u.gz, u.gx⟩), hz', ⟨_, hx'⟩, h.hD.keep k (by simp; exact ⟨Ne.symm u.zd, Ne.symm u.xd⟩), h.K.trans k (by simp), h.len, h.b32, ?_⟩
  have hv := leVal_lt ((D.drop μ.P).take 4) (fun y hy => h.hD.bytes y (List.mem_of_mem_drop (List.mem_of_mem_take hy)))
  have : ((D.drop μ.P).take 4).length ≤ 4 := by simp; omega
  exact Nat.lt_of_lt_of_le hv (Nat.le_trans (Nat.pow_le_pow_right (by omega) this) (by decide))

theorem UW.cells {w0 : World} {g go z : Nat} {x : XP} {d o n cap : Nat} {D : List Nat} {cs0 : List Value} {μ : Mem} {w : World} (h : UW w0 g go z x d o n cap D cs0 μ w) :
    w.cell? ⟨z, 0, none⟩ = some (.int .u32 (μ.word : Int)) ∧ (∀ i, w.frozen? ⟨g, i, none⟩ = false) ∧ g < w.heap.size ∧ z < w.heap.size := ⟨h.hz.cell (i := 0) rfl, h.hg.unfrozen, h.hg.lt, h.hz.lt⟩

set_option maxRecDepth 100000 in
set_option maxHeartbeats 1000000 in
theorem unpacks1 : Unpacks 186 1 := by
  intro g go x d o len0 cap len caps P pr D cs0 outs w hlen hlc hcc hg hx hD gx gd xd room ol ob hfit
  have gl := hg.lt
  have xl := hx.lt
  have dl : d < w.heap.size := by obtain ⟨_, h, _⟩ := hD.hd; exact h.lt
  have KA : Keep [] w (w.alloc (.cells #[.int .u32 0] 202)) := (Keep.refl [] w).alloc _
  have u : UD g go w.heap.size x d cs0 := ⟨by omega, gx, gd, by omega, by omega, xd, room⟩
  have hU : UW w g go w.heap.size x d o len0 cap D cs0 ⟨P, 0, outs⟩ (w.alloc (.cells #[.int .u32 0] 202)) :=
    ⟨hg.keep KA (by simp), Blk.new w [.int .u32 0] _, ⟨pr, hx.keep KA (by simp)⟩, hD.keep KA (by simp), KA.weaken (by simp), ol, ob, by simp⟩
  have hby := hD.bytes
  have Hb := Lib.hid hby
  have HU := Lib.hid hU
  have Hd := Lib.hid u
  clear hg hx hD KA hU hby ob u
  have hl32 : (32 : Int) ≤ (caps : Int) := by omega
  have hl32' : 32 ≤ caps := by omega
  go_enter Tryz.func186, Tryz.ntmps186
  go_wp2_with fail
  refine (HU.out.read Hd.out (by simp; omega)).mono ?_
  rintro e w1 ⟨rfl, h1⟩
  simp only at h1
  obtain ⟨W, hW⟩ : ∃ W, W = leVal ((D.drop P).take 4) := ⟨_, rfl⟩
  rw [← hW] at h1
  have HW := Lib.hid hW
  clear hW
  go_wp2_with fail
  go_loopw [11] (fun i wr => ∃ (k : Nat) (out : List Nat), k ≤ 32 ∧ i = .int .i64 (k : Int) ∧ UW w g go w.heap.size x d o len0 cap D cs0 ⟨P + 4, W, out⟩ wr ∧ ∀ i, i < k → out[i]? = some (W / 2 ^ i % 2)) (fun i _ => 32 - (intOf i).toNat)
  case atStart => exact ⟨0, outs, by omega, rfl, h1, fun i hi => absurd hi (by omega)⟩
  case round =>
    obtain ⟨k, out, hk, rfl, hU, hv⟩ := hrel
    have HV := Lib.hid hv
    have hW32 := hU.wd
    simp only at hW32
    clear hv
    by_cases hk2 : k < 32
    · have hc := hU.cell Hd.out hk2
      obtain ⟨cz, hfg, gl1, zl1⟩ := hU.cells
      simp only at cz
      obtain ⟨V, hV⟩ : ∃ V, V = W / 2 ^ k := ⟨_, rfl⟩
      have hVi : (W : Int) / 2 ^ k = (V : Int) := by rw [hV]; simp
      have hV32 : V < 4294967296 := by rw [hV]; exact Nat.lt_of_le_of_lt (Nat.div_le_self _ _) hW32
      have hand := and_one32 V hV32
      have HUk := Lib.hid hU
      have HVk := Lib.hid hV
      clear hU hV
      go_wp2
      go_roundw
      case rel =>
        refine ⟨k + 1, out.set k (V % 2), hk2, by go_num, ?_, set_val HUk.out.len hk2 HV.out (by rw [HVk.out])⟩
        have := HUk.out.out Hd.out hk2 (v := V % 2) (by omega)
        simpa using this
      case measure => simp [intOf]; omega
    · have hk3 : k = 32 := by omega
      subst hk3
      go_wp2
      go_end0
      refine ⟨rfl, hU.K.weaken (by simp), out, hU.hg, hU.len, fun i hi => ?_⟩
      rw [HV.out i hi, HW.out]
      have := word_at D P 0 Hb.out
      simp only [Nat.mul_zero, Nat.add_zero, Nat.pow_zero, Nat.div_one] at this
      rw [this, Nat.one_mul, Nat.pow_one]
      have h2 := win_in 32 (leVal (D.drop P)) 0 i 1 (by omega)
      simp only [Nat.pow_zero, Nat.div_one, Nat.zero_add, Nat.pow_one] at h2
      rw [h2]

set_option maxRecDepth 100000 in
set_option maxHeartbeats 1000000 in
theorem unpacks32 : Unpacks 217 32 := by
  intro g go x d o len0 cap len caps P pr D cs0 outs w hlen hlc hcc hg hx hD gx gd xd room ol ob hfit
  have hl32 : (32 : Int) ≤ (caps : Int) := by omega
  have hl32' : 32 ≤ caps := by omega
  have Hg := Lib.hid hg
  have Hx := Lib.hid hx
  have HD := Lib.hid hD
  clear hg hx hD ob
  go_enter Tryz.func217, Tryz.ntmps217
  go_wp2_with fail
  go_loopw [8] (fun i wr => ∃ (k : Nat) (out : List Nat) (p' : Int), k ≤ 32 ∧ i = .int .i64 (k : Int) ∧ Keep [x, g] w wr ∧ Blk wr g (splice cs0 go (rowV .u32 out)) ∧ out.length = 32 ∧ Rd wr x [.slice (some ⟨d, o, none⟩) len0 cap, .int .i64 ((P + 4 * k : Nat) : Int), .int .i64 p'] ∧
    ∀ i, i < k → out[i]? = some (leVal (D.drop P) / 2 ^ (32 * i) % 2 ^ 32)) (fun i _ => 32 - (intOf i).toNat)
  case atStart => exact ⟨0, outs, pr, by omega, rfl, Keep.refl _ _, Hg.out, ol, Hx.out, fun i hi => absurd hi (by omega)⟩
  case round =>
    obtain ⟨k, out, p', hk, rfl, kk, hgk, hol, hxk, hv⟩ := hrel
    have HV := Lib.hid hv
    clear hv
    by_cases hk2 : k < 32
    · go_wp2_with fail
      refine (readLittleC g (go + k) x d o len0 cap (P + 4 * k) p' D _ wr hxk (HD.out.keep kk (by simp; exact ⟨Ne.symm xd, Ne.symm gd⟩)) hgk (by unfold splice; simp; omega) gx gd xd (by omega)).mono ?_
      rw [word_at D P k HD.out.bytes]
      rintro e w2 ⟨rfl, k2, hg2, hx2⟩
      have e1 : (splice cs0 go (rowV .u32 out)).set (go + k) (.int .u32 ((leVal (D.drop P) / 2 ^ (32 * k) % 2 ^ 32 : Nat) : Int)) = splice cs0 go (rowV .u32 (out.set k (leVal (D.drop P) / 2 ^ (32 * k) % 2 ^ 32))) := by
        rw [rowV_set]
        unfold splice
        have e1 : (cs0.take go).length = go := by simp; omega
        rw [List.set_append_right _ _ (by rw [e1]; omega), e1, show go + k - go = k by omega, List.set_append_left _ _ (by simp; omega)]
        simp
      rw [e1] at hg2
      have Hg2 := Lib.hid hg2
      have Hx2 := Lib.hid hx2
      clear hg2 hx2 hgk hxk e1
      go_wp2
      go_roundw
      case rel =>
        refine ⟨k + 1, _, -1, hk2, by go_num, kk.trans k2 (by simp), Hg2.out, by simpa using hol, ?_, set_val hol hk2 HV.out rfl⟩
        have := Hx2.out
        rw [show P + 4 * k + 4 = P + 4 * (k + 1) by omega] at this
        exact this
      case measure => simp [intOf]; omega
    · have hk3 : k = 32 := by omega
      subst hk3
      go_wp2
      go_end0
      exact ⟨rfl, kk, out, hgk, hol, HV.out⟩

set_option maxRecDepth 100000 in
set_option maxHeartbeats 1000000 in
theorem unpacks16 : Unpacks 201 16 := by
  intro g go x d o len0 cap len caps P pr D cs0 outs w hlen hlc hcc hg hx hD gx gd xd room ol ob hfit
  have gl := hg.lt
  have xl := hx.lt
  have dl : d < w.heap.size := by obtain ⟨_, h, _⟩ := hD.hd; exact h.lt
  have KA : Keep [] w (w.alloc (.cells #[.int .u32 0] 202)) := (Keep.refl [] w).alloc _
  have u : UD g go w.heap.size x d cs0 := ⟨by omega, gx, gd, by omega, by omega, xd, room⟩
  have hU : UW w g go w.heap.size x d o len0 cap D cs0 ⟨P, 0, outs⟩ (w.alloc (.cells #[.int .u32 0] 202)) :=
    ⟨hg.keep KA (by simp), Blk.new w [.int .u32 0] _, ⟨pr, hx.keep KA (by simp)⟩, hD.keep KA (by simp), KA.weaken (by simp), ol, ob, by simp⟩
  have hby := hD.bytes
  have Hb := Lib.hid hby
  have HU := Lib.hid hU
  have Hd := Lib.hid u
  clear hg hx hD KA hU hby ob u
  go_enter Tryz.func201, Tryz.ntmps201
  go_wp2_with fail
  go_loopw [5] (fun i wr => ∃ (k W0 : Nat) (out : List Nat), k ≤ 16 ∧ i = .int .i64 (k : Int) ∧ UW w g go w.heap.size x d o len0 cap D cs0 ⟨P + 4 * k, W0, out⟩ wr ∧ ∀ i, i < 2 * k → out[i]? = some (leVal (D.drop P) / 2 ^ (16 * i) % 2 ^ 16)) (fun i _ => 16 - (intOf i).toNat)
  case atStart => exact ⟨0, 0, outs, by omega, rfl, HU.out, fun i hi => absurd hi (by omega)⟩
  case round =>
    obtain ⟨k, W0, out, hk, rfl, hU, hv⟩ := hrel
    have HV := Lib.hid hv
    clear hv
    by_cases hk2 : k < 16
    · go_wp2_with fail
      refine (hU.read Hd.out (by simp; omega)).mono ?_
      rintro e w1 ⟨rfl, h1⟩
      simp only at h1
      rw [word_at D P k Hb.out] at h1
      obtain ⟨W, hW⟩ : ∃ W, W = leVal (D.drop P) / 2 ^ (32 * k) % 2 ^ 32 := ⟨_, rfl⟩
      rw [← hW] at h1
      have hW32 : W < 4294967296 := h1.wd
      have hc := h1.cell Hd.out (k := 2 * k) (by omega)
      have hc2 := h1.cell Hd.out (k := 2 * k + 1) (by omega)
      rw [show go + 2 * k = go + k * 2 by omega] at hc
      rw [show go + (2 * k + 1) = go + (k * 2 + 1) by omega] at hc2
      obtain ⟨cz, hfg, gl1, zl1⟩ := h1.cells
      simp only at cz
      obtain ⟨V, hV⟩ : ∃ V, V = W / 65536 := ⟨_, rfl⟩
      have hVi : (W : Int) / 65536 = (V : Int) := by omega
      have HU1 := Lib.hid h1
      have HW := Lib.hid hW
      have HVk := Lib.hid hV
      clear hU h1 hW hV
      go_wp2
      go_roundw
      case rel =>
        have hV32 : V < 65536 := by have := HVk.out; omega
        refine ⟨k + 1, W, (out.set (2 * k) (W % 65536)).set (2 * k + 1) V, hk2, by go_num, ?_, ?_⟩
        · have := (HU1.out.out Hd.out (k := 2 * k) (v := W % 65536) (by omega) (by omega)).out Hd.out (k := 2 * k + 1) (v := V) (by omega) (by omega)
          rw [show go + 2 * k = go + k * 2 by omega, show go + (2 * k + 1) = go + (k * 2 + 1) by omega, show P + 4 * k + 4 = P + 4 * (k + 1) by omega] at this
          simpa using this
        · have e1 : W % 65536 = leVal (D.drop P) / 2 ^ (16 * (2 * k)) % 2 ^ 16 := by
            rw [HW.out]
            have := win_in 32 (leVal (D.drop P)) (32 * k) 0 16 (by omega)
            simp only [Nat.pow_zero, Nat.div_one, Nat.add_zero] at this
            rw [show 16 * (2 * k) = 32 * k by omega]
            exact this
          have e2 : V = leVal (D.drop P) / 2 ^ (16 * (2 * k + 1)) % 2 ^ 16 := by
            have := win_in 32 (leVal (D.drop P)) (32 * k) 16 16 (by omega)
            rw [show 16 * (2 * k + 1) = 32 * k + 16 by omega, ← this, ← HW.out, HVk.out]
            exact (Nat.mod_eq_of_lt (by omega)).symm
          have h1 := set_val (k := 2 * k) (v := W % 65536) (f := fun i => leVal (D.drop P) / 2 ^ (16 * i) % 2 ^ 16) HU1.out.len (by omega) HV.out e1
          have h2 := set_val (k := 2 * k + 1) (v := V) (f := fun i => leVal (D.drop P) / 2 ^ (16 * i) % 2 ^ 16) (by simpa using HU1.out.len) (by omega) h1 e2
          exact fun i hi => h2 i (by omega)
      case measure => simp [intOf]; omega
    · have hk3 : k = 16 := by omega
      subst hk3
      go_wp2
      go_end0
      exact ⟨rfl, hU.K.weaken (by simp), out, hU.hg, hU.len, fun i hi => HV.out i (by omega)⟩
end Go.Proofs.YtlolcgklcnechaaGreatDoor
