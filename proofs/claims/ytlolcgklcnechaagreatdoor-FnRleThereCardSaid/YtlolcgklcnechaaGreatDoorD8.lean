/- The bit reader: ReadByte, ReadUvarint, GetVlqInt. -/
import Derived.Test.YtlolcgklcnechaaGreatDoorD7
set_option linter.unusedVariables false
namespace Go.Proofs.YtlolcgklcnechaaGreatDoor
open Go.RowKit

/-- The reader's next whole byte is byte P. -/
def BRat (w : World) (q x d o n cap : Nat) (ea : Addr) (D : List Nat) (P : Nat) : Prop := ∃ buf bo bi vb, BR w q x d o n cap ea D buf bo bi vb ∧ bi ≤ 64 ∧ P = bo + (bi + 7) / 8

theorem BRat.of {w : World} {q x d o n cap : Nat} {ea : Addr} {D : List Nat} {P : Nat} (h : BRF w q x d o n cap ea D P 0) : BRat w q x d o n cap ea D P := ⟨_, P, 0, _, h, by omega, by omega⟩

theorem info_u8z : (Tryz.prog.info? 5).map (·.zero) = some (some (.int .u8 0)) := by kernel_rfl

theorem leVal_one (D : List Nat) (P y : Nat) (rest : List Nat) (h : D.drop P = y :: rest) : leVal ((D.drop P).take 1) = y := by rw [h]; simp [leVal]

set_option maxRecDepth 100000 in
set_option maxHeartbeats 1000000 in
theorem readByteC (q x d o n cap : Nat) (ea : Addr) (D : List Nat) (P y : Nat) (rest : List Nat) (w : World) (h : BRat w q x d o n cap ea D P) (hy : D.drop P = y :: rest) :
    Calls Tryz.prog 281 #[.pointer (some ⟨q, 0, none⟩)] w fun e w' =>
      e = .returned (.tuple #[.int .u8 (y : Int), .nilIface]) ∧ Keep [q] w w' ∧ BRF w' q x d o n cap ea D (P + 1) 0 := by
  obtain ⟨buf, bo, bi, vb, hb, hbi, hP⟩ := h
  have hl : P + 1 ≤ n := by
    have := congrArg List.length hy
    rw [List.length_drop, hb.hD.dl] at this
    simp at this; omega
  have hv := leVal_one D P y rest hy
  have ql : q < w.heap.size := by obtain ⟨_, _, _, _, h⟩ := hb.hq; exact h.lt
  have xl : x < w.heap.size := by obtain ⟨_, _, h⟩ := hb.hx; exact h.lt
  have dl : d < w.heap.size := by obtain ⟨_, h, _⟩ := hb.hD.hd; exact h.lt
  have el := hb.hE.lt
  have Hv := Lib.hid hv
  clear hv hy
  go_enter Tryz.func281, Tryz.ntmps281
  go_wp2_with fail
  refine (getAligned8 q x d o n cap ea D buf bo bi vb w.heap.size 0 P 1 [.int .u8 0] _ (hb.keep (S := []) ((Keep.refl [] w).alloc _) (by simp) (by simp) (by simp) (by simp)) hbi (by omega) (by omega)
    (Blk.new w _ _) (by omega) (by omega) (by omega) (by omega) (by simp) hP hl).mono ?_
  rw [Hv.out]
  rintro e w2 ⟨rfl, k2, hB, ht⟩
  have ct := ht.cell (i := 0) (v := .int .u8 (y : Int)) rfl
  have HB := Lib.hid hB
  have K2 : Keep [q] w w2 := ((Keep.refl [q] w).alloc _).trans k2 (by simp)
  clear hB ht hb
  go_wp2
  go_ret2
  exact ⟨rfl, K2, HB.out⟩

theorem method_ReadByte (a : Addr) (w : World) : (method 521 162 (.pointer (some a)) "ReadByte").run Tryz.prog w = .ok (281, .pointer (some a)) w := by kernel_rfl

theorem and127 (y : Nat) (h : y < 256) : bits .and .u8 (y : Int) 127 = ((y % 128 : Nat) : Int) := by
  have := u8_and_nat y 127 h (by omega)
  rw [nat_mask7] at this
  exact this

set_option maxRecDepth 100000 in
set_option maxHeartbeats 2000000 in
theorem readUvarintC (q x d o n cap : Nat) (ea : Addr) (D : List Nat) (P m : Nat) (rest : List Nat) (w : World) (h : BRat w q x d o n cap ea D P) (hm : D.drop P = vlq m ++ rest) (hlt : m < 34359738368) :
    Calls Tryz.prog 152 #[.iface 162 (.pointer (some ⟨q, 0, none⟩))] w fun e w' =>
      e = .returned (.tuple #[.int .u64 (m : Int), .nilIface]) ∧ Keep [q] w w' ∧ BRF w' q x d o n cap ea D (P + (vlq m).length) 0 := by
  have hmr := method_ReadByte ⟨q, 0, none⟩
  have hby : ∀ y ∈ D, y < 256 := by obtain ⟨_, _, _, _, hb, _⟩ := h; exact hb.hD.bytes
  have HM := Lib.hid hm
  have Hby := Lib.hid hby
  clear hm hby
  go_enter Tryz.func152, Tryz.ntmps152
  go_wp2_with fail
  go_loopw [4, 5, 6] (fun xx ss ii wr => ∃ (j s X m' : Nat), xx = .int .u64 (X : Int) ∧ ss = .int .u64 (s : Int) ∧ ii = .int .i64 (j : Int) ∧ j ≤ 4 ∧ s = 7 * j ∧ X < 2 ^ s ∧ Hid (m = X + m' * 2 ^ s) ∧ Hid (D.drop (P + j) = vlq m' ++ rest) ∧
    Hid ((vlq m).length = j + (vlq m').length) ∧ Keep [q] w wr ∧ BRat wr q x d o n cap ea D (P + j) ∧ Hid (m' * 128 ^ j ≤ m)) (fun _ _ i _ => 10 - (intOf i).toNat)
  case atStart => exact ⟨0, 0, 0, m, rfl, rfl, rfl, by omega, rfl, by simp, Lib.hid (by simp), Lib.hid HM.out, Lib.hid (by simp), Keep.refl _ _, h, Lib.hid (by simp)⟩
  case round =>
    obtain ⟨j, s, X, m', rfl, rfl, rfl, hj, hs, hX, HE, HD, HL, kk, hB, HB2⟩ := hrel
    have hj9 : ((j : Int) == 9) = false := by simp; omega
    by_cases hsm : m' < 128
    · have hd := HD.out
      rw [vlq_small hsm] at hd
      go_wp2_with fail
      refine (readByteC q x d o n cap ea D (P + j) m' rest wr hB hd).mono ?_
      rintro e w2 ⟨rfl, k2, hB2⟩
      have h128 : (m' : Int) < 128 := by omega
      have hor := or_acc X m' s hX (by omega)
      rw [← HE.out, Nat.mod_eq_of_lt (show m < 18446744073709551616 by omega)] at hor
      have HB3 := Lib.hid hB2
      have hLL := HL.out
      rw [vlq_small hsm] at hLL
      have HLL := Lib.hid hLL
      have Hs := Lib.hid hs
      have hmin : min s 64 = s := by omega
      clear hB hB2 hd hLL h hs hX
      go_wp2
      go_ret2
      refine ⟨rfl, kk.trans k2 (by simp), ?_⟩
      rw [HLL.out]
      exact HB3.out
    · have hd := HD.out
      rw [vlq_big hsm, List.cons_append] at hd
      have hlow : m' % 128 + 128 < 256 := by omega
      obtain ⟨y, hy⟩ : ∃ y, y = m' % 128 + 128 := ⟨_, rfl⟩
      rw [← hy] at hd hlow
      have hj4 : j < 4 := by
        apply Decidable.byContradiction
        intro hn
        have hj4 : j = 4 := by omega
        have h1 := HB2.out
        rw [hj4] at h1
        have : (128 : Nat) ^ 4 = 268435456 := rfl
        rw [this] at h1
        omega
      go_wp2_with fail
      refine (readByteC q x d o n cap ea D (P + j) y (vlq (m' / 128) ++ rest) wr hB hd).mono ?_
      rintro e w2 ⟨rfl, k2, hB2⟩
      have h128 : ¬ (y : Int) < 128 := by omega
      obtain ⟨z, hz⟩ : ∃ z, z = y % 128 := ⟨_, rfl⟩
      have hz2 : z = m' % 128 := by omega
      have hand := and127 y hlow
      rw [← hz] at hand
      have hor := or_acc X z s hX (by omega)
      have hlt2 : X + z * 2 ^ s < 2 ^ (s + 7) := by
        have : z < 2 ^ 7 := by omega
        exact add_mul_two_pow_lt hX this
      have h35 : (2 : Nat) ^ (s + 7) ≤ 2 ^ 35 := Nat.pow_le_pow_right (by omega) (by omega)
      have h35' : (2 : Nat) ^ 35 = 34359738368 := rfl
      obtain ⟨X', hX'⟩ : ∃ X', X' = X + z * 2 ^ s := ⟨_, rfl⟩
      rw [← hX'] at hlt2 hor
      rw [Nat.mod_eq_of_lt (show X' < 18446744073709551616 by omega)] at hor
      have hmin : min s 64 = s := by omega
      have hz8 : z < 128 := by omega
      have hwz := IntWalk.u64_in (z : Int) (by omega)
      have hE' : m = X' + m' / 128 * 2 ^ (s + 7) := by
        have h1 := HE.out
        have h2 : m' = z + 128 * (m' / 128) := by omega
        rw [h1, hX', Nat.pow_add, Nat.mul_comm (2 ^ s) (2 ^ 7), ← Nat.mul_assoc]
        conv => lhs; rw [h2, Nat.add_mul]
        rw [Nat.add_assoc, Nat.mul_comm 128]
      have hL' : (vlq m).length = (j + 1) + (vlq (m' / 128)).length := by
        have h1 := HL.out
        rw [vlq_big hsm, List.length_cons] at h1
        omega
      have hD' : D.drop (P + (j + 1)) = vlq (m' / 128) ++ rest := by
        have h1 := congrArg (List.drop 1) hd
        rw [List.drop_drop, List.drop_succ_cons, List.drop_zero] at h1
        rw [show P + (j + 1) = P + j + 1 by omega]
        exact h1
      have hM' : m' / 128 * 128 ^ (j + 1) ≤ m := by
        refine Nat.le_trans ?_ HB2.out
        rw [Nat.pow_succ, Nat.mul_comm (128 ^ j), ← Nat.mul_assoc]
        exact Nat.mul_le_mul_right _ (Nat.div_mul_le_self _ _)
      have HE' := Lib.hid hE'
      have HL' := Lib.hid hL'
      have HD' := Lib.hid hD'
      have HM' := Lib.hid hM'
      have HB' := Lib.hid hB2
      have Hs := Lib.hid hs
      have Hlt2 := Lib.hid hlt2
      clear hB hB2 hd h hE' hL' hD' hM' hs hX' hz hz2 hy hlt2 hX
      go_wp2
      go_roundw
      case rel =>
        refine ⟨j + 1, s + 7, X', m' / 128, by go_num, by go_num, by go_num, by omega, by have := Hs.out; omega, Hlt2.out, HE', HD', HL', kk.trans k2 (by simp), ?_, HM'⟩
        exact BRat.of HB'.out
      case measure => simp [intOf]; omega

set_option maxRecDepth 100000 in
theorem getVlqC (q x d o n cap : Nat) (ea : Addr) (D : List Nat) (P m : Nat) (rest : List Nat) (w : World) (h : BRat w q x d o n cap ea D P) (hm : D.drop P = vlq m ++ rest) (hlt : m < 34359738368) :
    Calls Tryz.prog 131 #[.pointer (some ⟨q, 0, none⟩)] w fun e w' =>
      e = .returned (.tuple #[.int .u64 (m : Int), .bool true]) ∧ Keep [q] w w' ∧ BRF w' q x d o n cap ea D (P + (vlq m).length) 0 := by
  have Hm := Lib.hid hm
  clear hm
  go_enter Tryz.func131, Tryz.ntmps131
  go_wp2_with fail
  refine (readUvarintC q x d o n cap ea D P m rest w h Hm.out hlt).mono ?_
  rintro e w2 ⟨rfl, k2, hB2⟩
  have HB2 := Lib.hid hB2
  clear hB2
  go_wp2
  go_ret2
  exact ⟨rfl, k2, HB2.out⟩
end Go.Proofs.YtlolcgklcnechaaGreatDoor
