/- memory.Set, io.ReadFull, trailingBits. -/
import Derived.Test.YtlolcgklcnechaaGreatDoorXD1
set_option linter.unusedVariables false
namespace Go.Proofs.YtlolcgklcnechaaGreatDoor
open Go.RowKit

theorem splice_snoc {α : Type} (cs : List α) (o k : Nat) (v : α) (h : o + k < cs.length) : (splice cs o (List.replicate k v)).set (o + k) v = splice cs o (List.replicate (k + 1) v) := by
  unfold splice
  have e1 : (cs.take o).length = o := by simp; omega
  rw [List.set_append_right _ _ (by rw [e1]; omega), e1, show o + k - o = k by omega, List.set_append_right _ _ (by simp)]
  simp only [List.length_replicate, Nat.sub_self]
  rw [List.drop_eq_getElem_cons (by simpa using h), List.set_cons_zero, List.replicate_succ', List.append_assoc]
  simp [Nat.add_assoc]

set_option maxRecDepth 100000 in
theorem memsetC (b o len cap v : Nat) (cs : List Value) (w : World) (hb : Blk w b cs) (hl : o + len ≤ cs.length) (hlen : len ≤ 1099511627776) :
    Calls Tryz.prog 168 #[.slice (some ⟨b, o, none⟩) len cap, .int .u8 (v : Int)] w fun e w' =>
      e = .returned (.tuple #[]) ∧ Keep [b] w w' ∧ Blk w' b (splice cs o (List.replicate len (.int .u8 (v : Int)))) := by
  have H := Lib.hid hb
  have HL := Lib.hid hl
  clear hb hl
  go_enter Tryz.func168, Tryz.ntmps168
  go_wp2_with fail
  go_loopw [4] (fun i wr => ∃ k : Nat, k ≤ len ∧ i = .int .i64 (k : Int) ∧ Keep [b] w wr ∧ Blk wr b (splice cs o (List.replicate k (.int .u8 (v : Int))))) (fun i _ => len - (intOf i).toNat)
  case atStart => exact ⟨0, Nat.zero_le _, rfl, Keep.refl _ _, by simpa [splice] using H.out⟩
  case round =>
    obtain ⟨k, hk, rfl, kk, hB⟩ := hrel
    by_cases hk2 : k < len
    · have hlen2 : o + k < (splice cs o (List.replicate k (Value.int .u8 (v : Int)))).length := by
        have := HL.out
        unfold splice; simp; omega
      have hc := hB.cell (i := o + k) (v := (splice cs o (List.replicate k (Value.int .u8 (v : Int))))[o + k]) (by simp)
      have hf := hB.unfrozen
      have HB := Lib.hid hB
      have HK := Lib.hid kk
      clear hB kk
      obtain ⟨vv, hvv⟩ : ∃ vv, vv = (splice cs o (List.replicate k (Value.int .u8 (v : Int))))[o + k] := ⟨_, rfl⟩
      rw [← hvv] at hc
      clear hvv hlen2
      go_wp2
      go_roundw
      case rel =>
        refine ⟨k + 1, hk2, by go_num, HK.out.set (by simp) _ _ _, ?_⟩
        rw [← splice_snoc _ _ _ _ (by have := HL.out; omega)]
        exact HB.out.set _ _
      case measure => simp [intOf]; omega
    · have hkl : k = len := by omega
      subst hkl
      go_wp2
      go_end0
      exact ⟨rfl, kk, hB⟩

theorem memSetC (b o len cap v : Nat) (cs : List Value) (w : World) (hb : Blk w b cs) (hl : o + len ≤ cs.length) (hlen : len ≤ 1099511627776) :
    Calls Tryz.prog 153 #[.slice (some ⟨b, o, none⟩) len cap, .int .u8 (v : Int)] w fun e w' =>
      e = .returned (.tuple #[]) ∧ Keep [b] w w' ∧ Blk w' b (splice cs o (List.replicate len (.int .u8 (v : Int)))) := by
  have H := Lib.hid hb
  clear hb
  go_enter Tryz.func153, Tryz.ntmps153
  go_wp2_with fail
  refine (memsetC b o len cap v cs w H.out hl hlen).mono ?_
  rintro e w' ⟨rfl, k, hB⟩
  go_wp2
  go_end0
  exact ⟨rfl, k, hB⟩

theorem trailing_lt (v i : Nat) (hi : i < 64) (hv : v < 18446744073709551616) : bits .and .u64 (v : Int) ((18446744073709551615 / 2 ^ (64 - i) : Nat) : Int) = ((v % 2 ^ i : Nat) : Int) := by
  have h1 : 18446744073709551615 / 2 ^ (64 - i) = 2 ^ i - 1 := by
    have h2 : (2 : Nat) ^ i * 2 ^ (64 - i) = 18446744073709551616 := by rw [← Nat.pow_add, show i + (64 - i) = 64 by omega]
    have hp := Nat.two_pow_pos i
    have hp2 := Nat.two_pow_pos (64 - i)
    rw [Nat.div_eq_iff hp2]
    constructor
    · rw [Nat.mul_comm] at h2; rw [Nat.mul_comm, Nat.mul_sub_one, h2]; omega
    · rw [Nat.sub_mul, h2]; omega
  have hp : (2 : Nat) ^ i ≤ 2 ^ 64 := Nat.pow_le_pow_right (by omega) (by omega)
  have h64 : (2 : Nat) ^ 64 = 18446744073709551616 := rfl
  rw [h1, u64_and_nat _ _ hv (by omega), Nat.and_two_pow_sub_one_eq_mod]

set_option maxRecDepth 100000 in
theorem trailingC (v i : Nat) (w : World) (hi : i ≤ 64) (hv : v < 18446744073709551616) :
    Calls Tryz.prog 150 #[.int .u64 (v : Int), .int .u64 (i : Int)] w fun e w' => e = .returned (.int .u64 ((v % 2 ^ i : Nat) : Int)) ∧ w = w' := by
  by_cases h : i < 64
  · have h1 : ¬ (64 : Int) ≤ (i : Int) := by omega
    have hr := trailing_lt v i h hv
    obtain ⟨X, hX⟩ : ∃ X, X = v % 2 ^ i := ⟨_, rfl⟩
    rw [← hX] at hr ⊢
    have hr2 : bits .and .u64 (v : Int) (18446744073709551615 / 2 ^ (64 - i)) = (X : Int) := by simpa using hr
    clear hX hr
    go_enter Tryz.func150, Tryz.ntmps150
    go_wp2
    go_ret
    exact ⟨rfl, rfl⟩
  · have h1 : (64 : Int) ≤ (i : Int) := by omega
    have h2 : v % 2 ^ i = v := Nat.mod_eq_of_lt (by rw [show i = 64 by omega]; exact hv)
    rw [h2]
    clear h2
    go_enter Tryz.func150, Tryz.ntmps150
    go_wp2
    go_ret
    exact ⟨rfl, rfl⟩

theorem method_Read (a : Addr) (w : World) : (method 521 91 (.pointer (some a)) "Read").run Tryz.prog w = .ok (266, .pointer (some a)) w := by kernel_rfl
theorem method_ReadAt (a : Addr) (w : World) : (method 521 91 (.pointer (some a)) "ReadAt").run Tryz.prog w = .ok (267, .pointer (some a)) w := by kernel_rfl
theorem method_Seek (a : Addr) (w : World) : (method 521 91 (.pointer (some a)) "Seek").run Tryz.prog w = .ok (269, .pointer (some a)) w := by kernel_rfl
theorem nil_Read (a : Addr) (w : World) : (nilAhead 521 91 (.pointer (some a)) "Read").run Tryz.prog w = .ok (some false) w := by kernel_rfl

set_option maxRecDepth 100000 in
set_option maxHeartbeats 400000 in
/-- io.ReadAtLeast of a bytes.Reader: as much as is asked, where it is there: one read. -/
theorem readAtLeastC (x : XP) (d o n cap q qo m mcap pos : Nat) (pr : Int) (D : List Nat) (qcs : List Value) (w : World)
    (hx : Rd w x [.slice (some ⟨d, o, none⟩) n cap, .int .i64 (pos : Int), .int .i64 pr]) (hD : BytesAt w d o n cap D) (hq : Blk w q qcs)
    (hqd : q ≠ d) (hqx : q ≠ x.b) (hxd : x.b ≠ d) (hqo : qo + m ≤ qcs.length) (hm : m ≤ mcap) (hmc : mcap ≤ 1099511627776) (hm0 : 0 < m) (hfit : pos + m ≤ n) :
    Calls Tryz.prog 171 #[.iface 91 (.pointer (some ⟨x.b, x.o, none⟩)), .slice (some ⟨q, qo, none⟩) m mcap, .int .i64 (m : Int)] w fun e w' =>
      e = .returned (.tuple #[.int .i64 (m : Int), .nilIface]) ∧ Keep [q, x] w w' ∧ Blk w' q (splice qcs qo (rowV .u8 ((D.drop pos).take m))) ∧ Rd w' x [.slice (some ⟨d, o, none⟩) n cap, .int .i64 ((pos + m : Nat) : Int), .int .i64 (-1)] := by
  have hmf : ∀ (fn : Fn) (first cap : Array Value) (w : World), (Instr.makeFunc fn first cap).run Tryz.prog w = .ok (.func fn first cap) w := fun _ _ _ _ => rfl
  have hmr := method_Read ⟨x.b, x.o, none⟩
  have hnr := nil_Read ⟨x.b, x.o, none⟩
  have hm0' : (0 : Int) < (m : Int) := by omega
  have hm1 : ¬ mcap = 0 := by omega
  have hqb := hq.lt
  go_enter Tryz.func171, Tryz.ntmps171
  go_wp2_with fail
  go_loopw [6, 7] (fun nn er wr => er = .nilIface ∧ ((nn = .int .i64 0 ∧ wr = w) ∨ (nn = .int .i64 (m : Int) ∧ Keep [q, x] w wr ∧ Blk wr q (splice qcs qo (rowV .u8 ((D.drop pos).take m))) ∧ Rd wr x [.slice (some ⟨d, o, none⟩) n cap, .int .i64 ((pos + m : Nat) : Int), .int .i64 (-1)]))) (fun nn _ _ => m - (intOf nn).toNat)
  case atStart => exact ⟨rfl, .inl ⟨rfl, rfl⟩⟩
  case round =>
    obtain ⟨rfl, ⟨rfl, rfl⟩ | ⟨rfl, kk, hB, hX⟩⟩ := hrel
    · go_wp2_with fail
      refine wp_region_mid 7 (by kernel_rfl) (by kernel_rfl) ?_
      simp only [List.take_succ_cons, List.take_zero, List.drop_succ_cons, List.drop_zero]
      change wpStill _ _ (World.drew _) _ _ _
      repeat still_step
      refine wpStill_nil ?_
      go_wp2_with fail
      refine (readC x d o n cap q qo m mcap pos pr D qcs _ hx.drew (hD.keep (S := []) (Keep.refl [] _).drew (by simp)) hq.drew hqd hqx hxd hqo hm hm0 hfit).mono ?_
      rintro e w2 ⟨rfl, k2, hB2, hX2⟩
      go_wp2_with fail
      repeat still_step
      refine wpStill_nil ?_
      go_wp2
      go_roundw
      case rel =>
        exact ⟨rfl, .inr ⟨by go_num, (Keep.refl _ _).drew.trans k2 (by simp), hB2, hX2⟩⟩
      case measure => simp [intOf]; omega
    · have HB := Lib.hid hB
      have HX := Lib.hid hX
      clear hB hX hx hD hq
      go_wp2
      go_ret2
      exact ⟨rfl, kk, HB.out, HX.out⟩

theorem readFullC (x : XP) (d o n cap q qo m mcap pos : Nat) (pr : Int) (D : List Nat) (qcs : List Value) (w : World)
    (hx : Rd w x [.slice (some ⟨d, o, none⟩) n cap, .int .i64 (pos : Int), .int .i64 pr]) (hD : BytesAt w d o n cap D) (hq : Blk w q qcs)
    (hqd : q ≠ d) (hqx : q ≠ x.b) (hxd : x.b ≠ d) (hqo : qo + m ≤ qcs.length) (hm : m ≤ mcap) (hmc : mcap ≤ 1099511627776) (hm0 : 0 < m) (hfit : pos + m ≤ n) :
    Calls Tryz.prog 156 #[.iface 91 (.pointer (some ⟨x.b, x.o, none⟩)), .slice (some ⟨q, qo, none⟩) m mcap] w fun e w' =>
      e = .returned (.tuple #[.int .i64 (m : Int), .nilIface]) ∧ Keep [q, x] w w' ∧ Blk w' q (splice qcs qo (rowV .u8 ((D.drop pos).take m))) ∧ Rd w' x [.slice (some ⟨d, o, none⟩) n cap, .int .i64 ((pos + m : Nat) : Int), .int .i64 (-1)] := by
  go_enter Tryz.func156, Tryz.ntmps156
  go_wp2_with fail
  refine (readAtLeastC x d o n cap q qo m mcap pos pr D qcs _ hx hD hq hqd hqx hxd hqo hm hmc hm0 hfit).mono ?_
  rintro e w2 ⟨rfl, k2, hB2, hX2⟩
  have HB := Lib.hid hB2
  have HX := Lib.hid hX2
  clear hB2 hX2 hx hD hq
  go_wp2
  go_ret2
  exact ⟨rfl, k2, HB.out, HX.out⟩
end Go.Proofs.YtlolcgklcnechaaGreatDoor