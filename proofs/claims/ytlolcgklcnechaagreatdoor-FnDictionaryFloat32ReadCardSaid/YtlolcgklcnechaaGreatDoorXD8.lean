/- The bit reader: ReadByte, ReadUvarint, GetVlqInt. The RLE decoder: Next. RleDecoder.Next at a run of whatever width. -/
import Derived.Test.YtlolcgklcnechaaGreatDoorXD7
set_option linter.unusedVariables false
namespace Go.Proofs.YtlolcgklcnechaaGreatDoor
open Go.RowKit

/-- The reader's next whole byte is byte P. -/
def BRat (w : World) (q : Nat) (x : XP) (d o n cap : Nat) (ea : Addr) (D : List Nat) (P : Nat) : Prop := ∃ buf bo bi vb, BR w q x d o n cap ea D buf bo bi vb ∧ bi ≤ 64 ∧ P = bo + (bi + 7) / 8

theorem BRat.of {w : World} {q : Nat} {x : XP} {d o n cap : Nat} {ea : Addr} {D : List Nat} {P : Nat} (h : BRF w q x d o n cap ea D P 0) : BRat w q x d o n cap ea D P := ⟨_, P, 0, _, h, by omega, by omega⟩

theorem info_u8z : (Tryz.prog.info? 5).map (·.zero) = some (some (.int .u8 0)) := by kernel_rfl

theorem leVal_one (D : List Nat) (P y : Nat) (rest : List Nat) (h : D.drop P = y :: rest) : leVal ((D.drop P).take 1) = y := by rw [h]; simp [leVal]

set_option maxRecDepth 100000 in
set_option maxHeartbeats 1000000 in
theorem readByteC (q : Nat) (x : XP) (d o n cap : Nat) (ea : Addr) (D : List Nat) (P y : Nat) (rest : List Nat) (w : World) (h : BRat w q x d o n cap ea D P) (hy : D.drop P = y :: rest) :
    Calls Tryz.prog 281 #[.pointer (some ⟨q, 0, none⟩)] w fun e w' =>
      e = .returned (.tuple #[.int .u8 (y : Int), .nilIface]) ∧ Keep [q] w w' ∧ BRF w' q x d o n cap ea D (P + 1) 0 := by
  obtain ⟨buf, bo, bi, vb, hb, hbi, hP⟩ := h
  have hl : P + 1 ≤ n := by
    have := congrArg List.length hy
    rw [List.length_drop, hb.hD.dl] at this
    simp at this; omega
  have hv := leVal_one D P y rest hy
  have ql : q < w.heap.size := by obtain ⟨_, _, _, _, h⟩ := hb.hq; exact h.lt
  have xl : x.b < w.heap.size := by obtain ⟨_, _, h⟩ := hb.hx; exact h.lt
  have dl : d < w.heap.size := by obtain ⟨_, h, _⟩ := hb.hD.hd; exact h.lt
  have el := hb.hE.lt
  have Hv := Lib.hid hv
  clear hv hy
  go_enter Tryz.func281, Tryz.ntmps281
  go_wp2_with fail
  refine (getAligned8 q x d o n cap ea D buf bo bi vb w.heap.size 0 P 1 [.int .u8 0] _ (hb.keep (S := []) ((Keep.refl [] w).alloc _) (by simp) (by simp) (by simp) (by simp)) hbi (by omega) (by omega)
    (Blk.new w _ _) (by omega) (by omega) (by omega) (by omega) (by simp) hP hl).mono ?_
  rw [Hv.out]
  rintro e w2 ⟨rfl, k2, hB, ht⟩
  have ct := ht.cell (i := 0) (v := .int .u8 (y : Int)) rfl
  have HB := Lib.hid hB
  have K2 : Keep [q] w w2 := ((Keep.refl [q] w).alloc _).trans k2 (by simp)
  clear hB ht hb
  go_wp2
  go_ret2
  exact ⟨rfl, K2, HB.out⟩

theorem method_ReadByte (a : Addr) (w : World) : (method 521 162 (.pointer (some a)) "ReadByte").run Tryz.prog w = .ok (281, .pointer (some a)) w := by kernel_rfl

theorem and127 (y : Nat) (h : y < 256) : bits .and .u8 (y : Int) 127 = ((y % 128 : Nat) : Int) := by
  have := u8_and_nat y 127 h (by omega)
  rw [nat_mask7] at this
  exact this

set_option maxRecDepth 100000 in
set_option maxHeartbeats 2000000 in
theorem readUvarintC (q : Nat) (x : XP) (d o n cap : Nat) (ea : Addr) (D : List Nat) (P m : Nat) (rest : List Nat) (w : World) (h : BRat w q x d o n cap ea D P) (hm : D.drop P = vlq m ++ rest) (hlt : m < 34359738368) :
    Calls Tryz.prog 152 #[.iface 162 (.pointer (some ⟨q, 0, none⟩))] w fun e w' =>
      e = .returned (.tuple #[.int .u64 (m : Int), .nilIface]) ∧ Keep [q] w w' ∧ BRF w' q x d o n cap ea D (P + (vlq m).length) 0 := by
  have hmr := method_ReadByte ⟨q, 0, none⟩
  have hby : ∀ y ∈ D, y < 256 := by obtain ⟨_, _, _, _, hb, _⟩ := h; exact hb.hD.bytes
  have HM := Lib.hid hm
  have Hby := Lib.hid hby
  clear hm hby
  go_enter Tryz.func152, Tryz.ntmps152
  go_wp2_with fail
  go_loopw [4, 5, 6] (fun xx ss ii wr => ∃ (j s X m' : Nat), xx = .int .u64 (X : Int) ∧ ss = .int .u64 (s : Int) ∧ ii = .int .i64 (j : Int) ∧ j ≤ 4 ∧ s = 7 * j ∧ X < 2 ^ s ∧ Hid (m = X + m' * 2 ^ s) ∧ Hid (D.drop (P + j) = vlq m' ++ rest) ∧
    Hid ((vlq m).length = j + (vlq m').length) ∧ Keep [q] w wr ∧ BRat wr q x d o n cap ea D (P + j) ∧ Hid (m' * 128 ^ j ≤ m)) (fun _ _ i _ => 10 - (intOf i).toNat)
  case atStart => exact ⟨0, 0, 0, m, rfl, rfl, rfl, by omega, rfl, by simp, Lib.hid (by simp), Lib.hid HM.out, Lib.hid (by simp), Keep.refl _ _, h, Lib.hid (by simp)⟩
  case round =>
    obtain ⟨j, s, X, m', rfl, rfl, rfl, hj, hs, hX, HE, HD, HL, kk, hB, HB2⟩ := hrel
    have hj9 : ((j : Int) == 9) = false := by simp; omega
    by_cases hsm : m' < 128
    · have hd := HD.out
      rw [vlq_small hsm] at hd
      go_wp2_with fail
      refine (readByteC q x d o n cap ea D (P + j) m' rest wr hB hd).mono ?_
      rintro e w2 ⟨rfl, k2, hB2⟩
      have h128 : (m' : Int) < 128 := by omega
      have hor := or_acc X m' s hX (by omega)
      rw [← HE.out, Nat.mod_eq_of_lt (show m < 18446744073709551616 by omega)] at hor
      have HB3 := Lib.hid hB2
      have hLL := HL.out
      rw [vlq_small hsm] at hLL
      have HLL := Lib.hid hLL
      have Hs := Lib.hid hs
      have hmin : min s 64 = s := by omega
      clear hB hB2 hd hLL h hs hX
      go_wp2
      go_ret2
      refine ⟨rfl, kk.trans k2 (by simp), ?_⟩
      rw [HLL.out]
      exact HB3.out
    · have hd := HD.out
      rw [vlq_big hsm, List.cons_append] at hd
      have hlow : m' % 128 + 128 < 256 := by omega
      obtain ⟨y, hy⟩ : ∃ y, y = m' % 128 + 128 := ⟨_, rfl⟩
      rw [← hy] at hd hlow
      have hj4 : j < 4 := by
        apply Decidable.byContradiction
        intro hn
        have hj4 : j = 4 := by omega
        have h1 := HB2.out
        rw [hj4] at h1
        have : (128 : Nat) ^ 4 = 268435456 := rfl
        rw [this] at h1
        omega
      go_wp2_with fail
      refine (readByteC q x d o n cap ea D (P + j) y (vlq (m' / 128) ++ rest) wr hB hd).mono ?_
      rintro e w2 ⟨rfl, k2, hB2⟩
      have h128 : ¬ (y : Int) < 128 := by omega
      obtain ⟨z, hz⟩ : ∃ z, z = y % 128 := ⟨_, rfl⟩
      have hz2 : z = m' % 128 := by omega
      have hand := and127 y hlow
      rw [← hz] at hand
      have hor := or_acc X z s hX (by omega)
      have hlt2 : X + z * 2 ^ s < 2 ^ (s + 7) := by
        have : z < 2 ^ 7 := by omega
        exact add_mul_two_pow_lt hX this
      have h35 : (2 : Nat) ^ (s + 7) ≤ 2 ^ 35 := Nat.pow_le_pow_right (by omega) (by omega)
      have h35' : (2 : Nat) ^ 35 = 34359738368 := rfl
      obtain ⟨X', hX'⟩ : ∃ X', X' = X + z * 2 ^ s := ⟨_, rfl⟩
      rw [← hX'] at hlt2 hor
      rw [Nat.mod_eq_of_lt (show X' < 18446744073709551616 by omega)] at hor
      have hmin : min s 64 = s := by omega
      have hz8 : z < 128 := by omega
      have hwz := IntWalk.u64_in (z : Int) (by omega)
      have hE' : m = X' + m' / 128 * 2 ^ (s + 7) := by
        have h1 := HE.out
        have h2 : m' = z + 128 * (m' / 128) := by omega
        rw [h1, hX', Nat.pow_add, Nat.mul_comm (2 ^ s) (2 ^ 7), ← Nat.mul_assoc]
        conv => lhs; rw [h2, Nat.add_mul]
        rw [Nat.add_assoc, Nat.mul_comm 128]
      have hL' : (vlq m).length = (j + 1) + (vlq (m' / 128)).length := by
        have h1 := HL.out
        rw [vlq_big hsm, List.length_cons] at h1
        omega
      have hD' : D.drop (P + (j + 1)) = vlq (m' / 128) ++ rest := by
        have h1 := congrArg (List.drop 1) hd
        rw [List.drop_drop, List.drop_succ_cons, List.drop_zero] at h1
        rw [show P + (j + 1) = P + j + 1 by omega]
        exact h1
      have hM' : m' / 128 * 128 ^ (j + 1) ≤ m := by
        refine Nat.le_trans ?_ HB2.out
        rw [Nat.pow_succ, Nat.mul_comm (128 ^ j), ← Nat.mul_assoc]
        exact Nat.mul_le_mul_right _ (Nat.div_mul_le_self _ _)
      have HE' := Lib.hid hE'
      have HL' := Lib.hid hL'
      have HD' := Lib.hid hD'
      have HM' := Lib.hid hM'
      have HB' := Lib.hid hB2
      have Hs := Lib.hid hs
      have Hlt2 := Lib.hid hlt2
      clear hB hB2 hd h hE' hL' hD' hM' hs hX' hz hz2 hy hlt2 hX
      go_wp2
      go_roundw
      case rel =>
        refine ⟨j + 1, s + 7, X', m' / 128, by go_num, by go_num, by go_num, by omega, by have := Hs.out; omega, Hlt2.out, HE', HD', HL', kk.trans k2 (by simp), ?_, HM'⟩
        exact BRat.of HB'.out
      case measure => simp [intOf]; omega

set_option maxRecDepth 100000 in
theorem getVlqC (q : Nat) (x : XP) (d o n cap : Nat) (ea : Addr) (D : List Nat) (P m : Nat) (rest : List Nat) (w : World) (h : BRat w q x d o n cap ea D P) (hm : D.drop P = vlq m ++ rest) (hlt : m < 34359738368) :
    Calls Tryz.prog 131 #[.pointer (some ⟨q, 0, none⟩)] w fun e w' =>
      e = .returned (.tuple #[.int .u64 (m : Int), .bool true]) ∧ Keep [q] w w' ∧ BRF w' q x d o n cap ea D (P + (vlq m).length) 0 := by
  have Hm := Lib.hid hm
  clear hm
  go_enter Tryz.func131, Tryz.ntmps131
  go_wp2_with fail
  refine (readUvarintC q x d o n cap ea D P m rest w h Hm.out hlt).mono ?_
  rintro e w2 ⟨rfl, k2, hB2⟩
  have HB2 := Lib.hid hB2
  clear hB2
  go_wp2
  go_ret2
  exact ⟨rfl, k2, HB2.out⟩
end Go.Proofs.YtlolcgklcnechaaGreatDoor
set_option linter.unusedVariables false
namespace Go.Proofs.YtlolcgklcnechaaGreatDoor
open Go.RowKit

def decCells (q W cur rep lit : Nat) : List Value := [.pointer (some ⟨q, 0, none⟩), .int .i64 (W : Int), .int .u64 (cur : Int), .int .i32 (rep : Int), .int .i32 (lit : Int)]

theorem and_one (m : Nat) (h : m < 18446744073709551616) : bits .and .u64 (m : Int) 1 = ((m % 2 : Nat) : Int) := by
  have := u64_and_nat m 1 h (by omega)
  rw [nat_mask1] at this
  exact this

set_option maxRecDepth 100000 in
set_option maxHeartbeats 2000000 in
theorem nextLit (t q : Nat) (x : XP) (d o n cap : Nat) (ea : Addr) (D : List Nat) (P W cur g : Nat) (rest : List Nat) (w : World) (h : BRat w q x d o n cap ea D P) (ht : Blk w t (decCells q W cur 0 0)) (tq : t ≠ q) (tx : t ≠ x.b) (td : t ≠ d) (te : t ≠ 4)
    (hm : D.drop P = vlq (2 * g + 1) ++ rest) (hg0 : 0 < g) (hg : g < 1000000) :
    Calls Tryz.prog 93 #[.pointer (some ⟨t, 0, none⟩)] w fun e w' =>
      e = .returned (.bool true) ∧ Keep [q, t] w w' ∧ BRF w' q x d o n cap ea D (P + (vlq (2 * g + 1)).length) 0 ∧ Blk w' t (decCells q W cur 0 (8 * g)) := by
  have c0 := ht.cell (i := 0) rfl
  obtain ⟨m, hm2⟩ : ∃ m, m = 2 * g + 1 := ⟨_, rfl⟩
  rw [← hm2] at hm ⊢
  have hand := and_one m (by omega)
  rw [show m % 2 = 1 by omega] at hand
  have hand : bits .and .u64 (m : Int) 1 = 1 := hand
  have hdiv : (m : Int) / 2 = (g : Int) := by omega
  have hw32 := IntWalk.u32_in (g : Int) (by omega)
  have hi32 := IntWalk.i32_in (g : Int) (by omega)
  have hi32' := IntWalk.i32_in ((g : Int) * 8) (by omega)
  have hg1 : ((g : Int) == 0) = false := by simp; omega
  have hg2 : ¬ (268435455 : Int) < (g : Int) := by omega
  have Hm := Lib.hid hm
  have Htx := Lib.hid (And.intro tx (And.intro td te))
  have hml : m < 34359738368 := by omega
  clear hm2 hm
  go_enter Tryz.func93, Tryz.ntmps93
  go_wp2_with fail
  refine (getVlqC q x d o n cap ea D P m rest w h Hm.out hml).mono ?_
  rintro e w2 ⟨rfl, k2, hB2⟩
  have ht2 := ht.keep k2 (by simp; exact tq)
  clear c0 h ht
  have c4 := ht2.cell (i := 4) rfl
  have hf := ht2.unfrozen
  have HB2 := Lib.hid hB2
  have Ht2 := Lib.hid ht2
  clear hB2 ht2
  go_wp2
  go_ret
  have K3 : Keep [q, t] w (w2.setCell ⟨t, 4, none⟩ (.int .i32 ((g : Int) * 8))) := (k2.weaken (by simp)).set (by simp) _ _ _
  have tx := Htx.out
  refine ⟨rfl, K3, HB2.out.keep (S := [t]) ((Keep.refl [t] w2).set (b := t) (by simp) 4 none _) (by simp; exact Ne.symm tq) (by simp; exact Ne.symm tx.1) (by simp; exact Ne.symm tx.2.1) (by simp; exact Ne.symm tx.2.2), ?_⟩
  have := Ht2.out.set 4 (.int .i32 ((g : Int) * 8))
  rw [show (g : Int) * 8 = ((8 * g : Nat) : Int) by omega] at this ⊢
  exact this


set_option maxRecDepth 100000 in
set_option maxHeartbeats 2000000 in
theorem nextRep64 (t q : Nat) (x : XP) (d o n cap : Nat) (ea : Addr) (D : List Nat) (P W cur r v : Nat) (rest : List Nat) (w : World) (h : BRat w q x d o n cap ea D P) (ht : Blk w t (decCells q W cur 0 0)) (tq : t ≠ q) (tx : t ≠ x.b) (td : t ≠ d) (te : t ≠ 4)
    (hm : D.drop P = vlq (2 * r) ++ leBytes ((W + 7) / 8) v ++ rest) (hr0 : 0 < r) (hr : r < 1000000) (hW : W ≤ 64) (hv : v < 2 ^ W) (hnlo : 4 < (W + 7) / 8) (hnhi : (W + 7) / 8 ≤ 8) :
    Calls Tryz.prog 93 #[.pointer (some ⟨t, 0, none⟩)] w fun e w' =>
      e = .returned (.bool true) ∧ Keep [q, t] w w' ∧ BRF w' q x d o n cap ea D (P + (vlq (2 * r)).length + (W + 7) / 8) 0 ∧ Blk w' t (decCells q W v r 0) := by
  have c0 := ht.cell (i := 0) rfl
  obtain ⟨m, hm2⟩ : ∃ m, m = 2 * r := ⟨_, rfl⟩
  rw [← hm2] at hm ⊢
  have hand := and_one m (by omega)
  rw [show m % 2 = 0 by omega] at hand
  have hand : bits .and .u64 (m : Int) 1 = 0 := hand
  have hdiv : (m : Int) / 2 = (r : Int) := by omega
  have hw32 := IntWalk.u32_in (r : Int) (by omega)
  have hi32 := IntWalk.i32_in (r : Int) (by omega)
  have hg1 : ((r : Int) == 0) = false := by simp; omega
  have hg2 : ¬ (2147483647 : Int) < (r : Int) := by omega
  have hml : m < 34359738368 := by omega
  obtain ⟨nb, hnb⟩ : ∃ nb, nb = (W + 7) / 8 := ⟨_, rfl⟩
  have hv256 : v < 256 ^ nb := Nat.lt_of_lt_of_le hv (by rw [show (256 : Nat) = 2 ^ 8 from rfl, ← Nat.pow_mul]; exact Nat.pow_le_pow_right (by omega) (by omega))
  have hv64 : v < 18446744073709551616 := Nat.lt_of_lt_of_le hv (Nat.le_trans (Nat.pow_le_pow_right (by omega) hW) (by decide))
  have hwv := IntWalk.u64_in (v : Int) (by omega)
  rw [← hnb] at hm hnlo hnhi ⊢
  have hd2 : D.drop (P + (vlq m).length) = leBytes nb v ++ rest := by
    have h1 := congrArg (List.drop (vlq m).length) hm
    rw [List.drop_drop, List.append_assoc, List.drop_left] at h1
    exact h1
  have hval : leVal ((D.drop (P + (vlq m).length)).take nb) = v := by
    rw [hd2, List.take_append_of_le_length (by simp), List.take_of_length_le (by simp), leVal_leBytes _ _ hv256]
  have hfit : P + (vlq m).length + nb ≤ n := by
    obtain ⟨_, _, _, _, hb, _⟩ := h
    have h1 := congrArg List.length hm
    have h2 := vlq_pos m
    rw [List.length_drop, hb.hD.dl] at h1
    simp at h1
    omega
  have hrest : D.drop P = vlq m ++ (leBytes nb v ++ rest) := by rw [hm, List.append_assoc]
  obtain ⟨P2, hP2⟩ : ∃ P2, P2 = P + (vlq m).length := ⟨_, rfl⟩
  rw [← hP2] at hval hfit ⊢
  have Hm := Lib.hid hrest
  have Hval := Lib.hid hval
  have HP2 := Lib.hid hP2
  have Hnb := Lib.hid hnb
  have Htx := Lib.hid (And.intro tx (And.intro td te))
  clear hm2 hm hrest hval hd2 hP2 hnb hv hv256
  have hsw : (4 : Int) < (nb : Int) := by omega
  go_enter Tryz.func93, Tryz.ntmps93
  go_wp2_with fail
  refine (getVlqC q x d o n cap ea D P m _ w h Hm.out hml).mono ?_
  rw [← HP2.out]
  rintro e w2 ⟨rfl, k2, hB2⟩
  have ht2 := ht.keep k2 (by simp; exact tq)
  have K2 : Keep [q, t] w w2 := k2.weaken (by simp)
  clear c0 h ht k2
  obtain ⟨w3, hw3⟩ : ∃ w3, w3 = w2.setCell ⟨t, 3, none⟩ (.int .i32 (r : Int)) := ⟨_, rfl⟩
  have ht3 : Blk w3 t (decCells q W cur r 0) := by rw [hw3]; exact ht2.set 3 (.int .i32 (r : Int))
  have K3 : Keep [q, t] w w3 := by rw [hw3]; exact K2.set (by simp) _ _ _
  have hB3 : BRF w3 q x d o n cap ea D P2 0 := by
    rw [hw3]
    exact hB2.keep (S := [t]) ((Keep.refl [t] w2).set (b := t) (by simp) 3 none _) (by simp; exact Ne.symm tq) (by simp; exact Ne.symm Htx.out.1) (by simp; exact Ne.symm Htx.out.2.1) (by simp; exact Ne.symm Htx.out.2.2)
  have c0 := ht2.cell (i := 0) rfl
  have c1 := ht2.cell (i := 1) rfl
  have c3 := ht2.cell (i := 3) rfl
  have hf := ht2.unfrozen
  have Ht3 := Lib.hid ht3
  have HB3 := Lib.hid hB3
  have tl2 : t < w2.heap.size := ht2.lt
  have hsz : w2.heap.size = w3.heap.size := by rw [hw3]; simp
  clear ht2 hB2 K2 ht3 hB3
  go_wp2_with (go_at_call 83; refine (bytesForBitsN W nb _ Hnb.out (by omega)).mono ?_; rintro e w' ⟨rfl, rfl⟩)
  rw [← hw3]
  clear hw3 c0 c1 c3 hf tl2
  have tl3 := Ht3.out.lt
  have c0 := Ht3.out.cell (i := 0) rfl
  have hf := Ht3.out.unfrozen
  refine wp_region_mid 8 (by kernel_rfl) (by kernel_rfl) ?_
  simp only [List.take_succ_cons, List.take_zero, List.drop_succ_cons, List.drop_zero]
  change wpStill _ _ (World.drew _) _ _ _
  repeat still_step
  refine wpStill_nil ?_
  go_wp2_with fail
  refine (getAligned64 q x d o n cap ea D _ P2 0 _ t 2 P2 nb _ _ HB3.out.drew (by omega) (by omega) hnhi Ht3.out.drew tq Htx.out.1 Htx.out.2.1 Htx.out.2.2 (by simp [decCells]) (by omega) hfit).mono ?_
  rw [Hval.out]
  rintro e w4 ⟨rfl, k4, hB4, ht4⟩
  have HB4 := Lib.hid hB4
  have Ht4 := Lib.hid ht4
  clear hB4 ht4
  go_wp2_with fail
  repeat still_step
  refine wpStill_nil ?_
  go_wp2
  go_ret
  exact ⟨rfl, K3.drew.trans k4 (by simp), HB4.out, Ht4.out⟩


set_option maxRecDepth 100000 in
set_option maxHeartbeats 2000000 in
theorem nextRep32 (t q : Nat) (x : XP) (d o n cap : Nat) (ea : Addr) (D : List Nat) (P W cur r v : Nat) (rest : List Nat) (w : World) (h : BRat w q x d o n cap ea D P) (ht : Blk w t (decCells q W cur 0 0)) (tq : t ≠ q) (tx : t ≠ x.b) (td : t ≠ d) (te : t ≠ 4)
    (hm : D.drop P = vlq (2 * r) ++ leBytes ((W + 7) / 8) v ++ rest) (hr0 : 0 < r) (hr : r < 1000000) (hW : W ≤ 64) (hv : v < 2 ^ W) (hnlo : 2 < (W + 7) / 8) (hnhi : (W + 7) / 8 ≤ 4) :
    Calls Tryz.prog 93 #[.pointer (some ⟨t, 0, none⟩)] w fun e w' =>
      e = .returned (.bool true) ∧ Keep [q, t] w w' ∧ BRF w' q x d o n cap ea D (P + (vlq (2 * r)).length + (W + 7) / 8) 0 ∧ Blk w' t (decCells q W v r 0) := by
  have c0 := ht.cell (i := 0) rfl
  obtain ⟨m, hm2⟩ : ∃ m, m = 2 * r := ⟨_, rfl⟩
  rw [← hm2] at hm ⊢
  have hand := and_one m (by omega)
  rw [show m % 2 = 0 by omega] at hand
  have hand : bits .and .u64 (m : Int) 1 = 0 := hand
  have hdiv : (m : Int) / 2 = (r : Int) := by omega
  have hw32 := IntWalk.u32_in (r : Int) (by omega)
  have hi32 := IntWalk.i32_in (r : Int) (by omega)
  have hg1 : ((r : Int) == 0) = false := by simp; omega
  have hg2 : ¬ (2147483647 : Int) < (r : Int) := by omega
  have hml : m < 34359738368 := by omega
  obtain ⟨nb, hnb⟩ : ∃ nb, nb = (W + 7) / 8 := ⟨_, rfl⟩
  have hv256 : v < 256 ^ nb := Nat.lt_of_lt_of_le hv (by rw [show (256 : Nat) = 2 ^ 8 from rfl, ← Nat.pow_mul]; exact Nat.pow_le_pow_right (by omega) (by omega))
  have hv64 : v < 18446744073709551616 := Nat.lt_of_lt_of_le hv (Nat.le_trans (Nat.pow_le_pow_right (by omega) hW) (by decide))
  have hwv := IntWalk.u64_in (v : Int) (by omega)
  rw [← hnb] at hm hnlo hnhi ⊢
  have hd2 : D.drop (P + (vlq m).length) = leBytes nb v ++ rest := by
    have h1 := congrArg (List.drop (vlq m).length) hm
    rw [List.drop_drop, List.append_assoc, List.drop_left] at h1
    exact h1
  have hval : leVal ((D.drop (P + (vlq m).length)).take nb) = v := by
    rw [hd2, List.take_append_of_le_length (by simp), List.take_of_length_le (by simp), leVal_leBytes _ _ hv256]
  have hfit : P + (vlq m).length + nb ≤ n := by
    obtain ⟨_, _, _, _, hb, _⟩ := h
    have h1 := congrArg List.length hm
    have h2 := vlq_pos m
    rw [List.length_drop, hb.hD.dl] at h1
    simp at h1
    omega
  have hrest : D.drop P = vlq m ++ (leBytes nb v ++ rest) := by rw [hm, List.append_assoc]
  obtain ⟨P2, hP2⟩ : ∃ P2, P2 = P + (vlq m).length := ⟨_, rfl⟩
  rw [← hP2] at hval hfit ⊢
  have Hm := Lib.hid hrest
  have Hval := Lib.hid hval
  have HP2 := Lib.hid hP2
  have Hnb := Lib.hid hnb
  have Htx := Lib.hid (And.intro tx (And.intro td te))
  clear hm2 hm hrest hval hd2 hP2 hnb hv hv256
  have hsw0 : ¬ (4 : Int) < (nb : Int) := by omega
  have hsw1 : (2 : Int) < (nb : Int) := by omega
  have ql : q < w.heap.size := by obtain ⟨_, _, _, _, hb, _⟩ := h; obtain ⟨_, _, _, _, h⟩ := hb.hq; exact h.lt
  have xl : x.b < w.heap.size := by obtain ⟨_, _, _, _, hb, _⟩ := h; obtain ⟨_, _, h⟩ := hb.hx; exact h.lt
  have dl : d < w.heap.size := by obtain ⟨_, _, _, _, hb, _⟩ := h; obtain ⟨_, h, _⟩ := hb.hD.hd; exact h.lt
  have el : 4 < w.heap.size := by obtain ⟨_, _, _, _, hb, _⟩ := h; exact hb.hE.lt
  have tl := ht.lt
  go_enter Tryz.func93, Tryz.ntmps93
  go_wp2_with fail
  refine (getVlqC q x d o n cap ea D P m _ w h Hm.out hml).mono ?_
  rw [← HP2.out]
  rintro e w2 ⟨rfl, k2, hB2⟩
  have ht2 := ht.keep k2 (by simp; exact tq)
  have K2 : Keep [q, t] w w2 := k2.weaken (by simp)
  clear c0 h ht k2
  obtain ⟨w3, hw3⟩ : ∃ w3, w3 = w2.setCell ⟨t, 3, none⟩ (.int .i32 (r : Int)) := ⟨_, rfl⟩
  have ht3 : Blk w3 t (decCells q W cur r 0) := by rw [hw3]; exact ht2.set 3 (.int .i32 (r : Int))
  have K3 : Keep [q, t] w w3 := by rw [hw3]; exact K2.set (by simp) _ _ _
  have hB3 : BRF w3 q x d o n cap ea D P2 0 := by
    rw [hw3]
    exact hB2.keep (S := [t]) ((Keep.refl [t] w2).set (b := t) (by simp) 3 none _) (by simp; exact Ne.symm tq) (by simp; exact Ne.symm Htx.out.1) (by simp; exact Ne.symm Htx.out.2.1) (by simp; exact Ne.symm Htx.out.2.2)
  have c0 := ht2.cell (i := 0) rfl
  have c1 := ht2.cell (i := 1) rfl
  have c3 := ht2.cell (i := 3) rfl
  have hf := ht2.unfrozen
  have Ht3 := Lib.hid ht3
  have HB3 := Lib.hid hB3
  have tl2 : t < w2.heap.size := ht2.lt
  have hsz : w2.heap.size = w3.heap.size := by rw [hw3]; simp
  clear ht2 hB2 K2 ht3 hB3
  go_wp2_with (go_at_call 83; refine (bytesForBitsN W nb _ Hnb.out (by omega)).mono ?_; rintro e w' ⟨rfl, rfl⟩)
  rw [← hw3]
  clear hw3 c0 c1 c3 hf tl2
  have tl3 := Ht3.out.lt
  have c0 := Ht3.out.cell (i := 0) rfl
  have hf := Ht3.out.unfrozen
  have hw3s := K3.size
  go_wp2_with fail
  refine (getAligned32 q x d o n cap ea D _ P2 0 _ w3.heap.size 0 P2 nb [.int .u32 0] _ (BR.keep (S := []) HB3.out ((Keep.refl [] w3).alloc _) (by simp) (by simp) (by simp) (by simp)) (by omega) (by omega) hnhi
    (Blk.new w3 _ _) (by omega) (by omega) (by omega) (by omega) (by simp) (by omega) hfit).mono ?_
  rw [Hval.out]
  rintro e w4 ⟨rfl, k4, hB4, hl4⟩
  have ht4 := (Ht3.out.alloc (.cells #[.int .u32 0] 202)).keep k4 (by simp; exact ⟨tq, by omega⟩)
  have cl := hl4.cell (i := 0) (v := .int .u32 (v : Int)) rfl
  have c2 := ht4.cell (i := 2) rfl
  have hf4 := ht4.unfrozen
  have HB4 := Lib.hid hB4
  have Ht4 := Lib.hid ht4
  have K4 : Keep [q, t] w w4 := (K3.alloc _).trans k4 (by have := K3.size; simp; omega)
  clear hB4 ht4 hl4 c0 hf
  go_wp2
  go_ret
  have K5 : Keep [q, t] w (w4.setCell ⟨t, 2, none⟩ (.int .u64 (v : Int))) := K4.set (by simp) _ _ _
  refine ⟨rfl, K5, BR.keep (S := [t]) HB4.out ((Keep.refl [t] w4).set (b := t) (by simp) 2 none _) (by simp; exact Ne.symm tq) (by simp; exact Ne.symm Htx.out.1) (by simp; exact Ne.symm Htx.out.2.1) (by simp; exact Ne.symm Htx.out.2.2), ?_⟩
  exact Ht4.out.set 2 (.int .u64 (v : Int))


set_option maxRecDepth 100000 in
set_option maxHeartbeats 2000000 in
theorem nextRep16 (t q : Nat) (x : XP) (d o n cap : Nat) (ea : Addr) (D : List Nat) (P W cur r v : Nat) (rest : List Nat) (w : World) (h : BRat w q x d o n cap ea D P) (ht : Blk w t (decCells q W cur 0 0)) (tq : t ≠ q) (tx : t ≠ x.b) (td : t ≠ d) (te : t ≠ 4)
    (hm : D.drop P = vlq (2 * r) ++ leBytes ((W + 7) / 8) v ++ rest) (hr0 : 0 < r) (hr : r < 1000000) (hW : W ≤ 64) (hv : v < 2 ^ W) (hnlo : 1 < (W + 7) / 8) (hnhi : (W + 7) / 8 ≤ 2) :
    Calls Tryz.prog 93 #[.pointer (some ⟨t, 0, none⟩)] w fun e w' =>
      e = .returned (.bool true) ∧ Keep [q, t] w w' ∧ BRF w' q x d o n cap ea D (P + (vlq (2 * r)).length + (W + 7) / 8) 0 ∧ Blk w' t (decCells q W v r 0) := by
  have c0 := ht.cell (i := 0) rfl
  obtain ⟨m, hm2⟩ : ∃ m, m = 2 * r := ⟨_, rfl⟩
  rw [← hm2] at hm ⊢
  have hand := and_one m (by omega)
  rw [show m % 2 = 0 by omega] at hand
  have hand : bits .and .u64 (m : Int) 1 = 0 := hand
  have hdiv : (m : Int) / 2 = (r : Int) := by omega
  have hw32 := IntWalk.u32_in (r : Int) (by omega)
  have hi32 := IntWalk.i32_in (r : Int) (by omega)
  have hg1 : ((r : Int) == 0) = false := by simp; omega
  have hg2 : ¬ (2147483647 : Int) < (r : Int) := by omega
  have hml : m < 34359738368 := by omega
  obtain ⟨nb, hnb⟩ : ∃ nb, nb = (W + 7) / 8 := ⟨_, rfl⟩
  have hv256 : v < 256 ^ nb := Nat.lt_of_lt_of_le hv (by rw [show (256 : Nat) = 2 ^ 8 from rfl, ← Nat.pow_mul]; exact Nat.pow_le_pow_right (by omega) (by omega))
  have hv64 : v < 18446744073709551616 := Nat.lt_of_lt_of_le hv (Nat.le_trans (Nat.pow_le_pow_right (by omega) hW) (by decide))
  have hwv := IntWalk.u64_in (v : Int) (by omega)
  rw [← hnb] at hm hnlo hnhi ⊢
  have hd2 : D.drop (P + (vlq m).length) = leBytes nb v ++ rest := by
    have h1 := congrArg (List.drop (vlq m).length) hm
    rw [List.drop_drop, List.append_assoc, List.drop_left] at h1
    exact h1
  have hval : leVal ((D.drop (P + (vlq m).length)).take nb) = v := by
    rw [hd2, List.take_append_of_le_length (by simp), List.take_of_length_le (by simp), leVal_leBytes _ _ hv256]
  have hfit : P + (vlq m).length + nb ≤ n := by
    obtain ⟨_, _, _, _, hb, _⟩ := h
    have h1 := congrArg List.length hm
    have h2 := vlq_pos m
    rw [List.length_drop, hb.hD.dl] at h1
    simp at h1
    omega
  have hrest : D.drop P = vlq m ++ (leBytes nb v ++ rest) := by rw [hm, List.append_assoc]
  obtain ⟨P2, hP2⟩ : ∃ P2, P2 = P + (vlq m).length := ⟨_, rfl⟩
  rw [← hP2] at hval hfit ⊢
  have Hm := Lib.hid hrest
  have Hval := Lib.hid hval
  have HP2 := Lib.hid hP2
  have Hnb := Lib.hid hnb
  have Htx := Lib.hid (And.intro tx (And.intro td te))
  clear hm2 hm hrest hval hd2 hP2 hnb hv hv256
  have hsw0 : ¬ (4 : Int) < (nb : Int) := by omega
  have hsw1 : ¬ (2 : Int) < (nb : Int) := by omega
  have hsw2 : (1 : Int) < (nb : Int) := by omega
  have ql : q < w.heap.size := by obtain ⟨_, _, _, _, hb, _⟩ := h; obtain ⟨_, _, _, _, h⟩ := hb.hq; exact h.lt
  have xl : x.b < w.heap.size := by obtain ⟨_, _, _, _, hb, _⟩ := h; obtain ⟨_, _, h⟩ := hb.hx; exact h.lt
  have dl : d < w.heap.size := by obtain ⟨_, _, _, _, hb, _⟩ := h; obtain ⟨_, h, _⟩ := hb.hD.hd; exact h.lt
  have el : 4 < w.heap.size := by obtain ⟨_, _, _, _, hb, _⟩ := h; exact hb.hE.lt
  have tl := ht.lt
  go_enter Tryz.func93, Tryz.ntmps93
  go_wp2_with fail
  refine (getVlqC q x d o n cap ea D P m _ w h Hm.out hml).mono ?_
  rw [← HP2.out]
  rintro e w2 ⟨rfl, k2, hB2⟩
  have ht2 := ht.keep k2 (by simp; exact tq)
  have K2 : Keep [q, t] w w2 := k2.weaken (by simp)
  clear c0 h ht k2
  obtain ⟨w3, hw3⟩ : ∃ w3, w3 = w2.setCell ⟨t, 3, none⟩ (.int .i32 (r : Int)) := ⟨_, rfl⟩
  have ht3 : Blk w3 t (decCells q W cur r 0) := by rw [hw3]; exact ht2.set 3 (.int .i32 (r : Int))
  have K3 : Keep [q, t] w w3 := by rw [hw3]; exact K2.set (by simp) _ _ _
  have hB3 : BRF w3 q x d o n cap ea D P2 0 := by
    rw [hw3]
    exact hB2.keep (S := [t]) ((Keep.refl [t] w2).set (b := t) (by simp) 3 none _) (by simp; exact Ne.symm tq) (by simp; exact Ne.symm Htx.out.1) (by simp; exact Ne.symm Htx.out.2.1) (by simp; exact Ne.symm Htx.out.2.2)
  have c0 := ht2.cell (i := 0) rfl
  have c1 := ht2.cell (i := 1) rfl
  have c3 := ht2.cell (i := 3) rfl
  have hf := ht2.unfrozen
  have Ht3 := Lib.hid ht3
  have HB3 := Lib.hid hB3
  have tl2 : t < w2.heap.size := ht2.lt
  have hsz : w2.heap.size = w3.heap.size := by rw [hw3]; simp
  clear ht2 hB2 K2 ht3 hB3
  go_wp2_with (go_at_call 83; refine (bytesForBitsN W nb _ Hnb.out (by omega)).mono ?_; rintro e w' ⟨rfl, rfl⟩)
  rw [← hw3]
  clear hw3 c0 c1 c3 hf tl2
  have tl3 := Ht3.out.lt
  have c0 := Ht3.out.cell (i := 0) rfl
  have hf := Ht3.out.unfrozen
  have hw3s := K3.size
  go_wp2_with fail
  refine (getAligned16 q x d o n cap ea D _ P2 0 _ w3.heap.size 0 P2 nb [.int .u16 0] _ (BR.keep (S := []) HB3.out ((Keep.refl [] w3).alloc _) (by simp) (by simp) (by simp) (by simp)) (by omega) (by omega) hnhi
    (Blk.new w3 _ _) (by omega) (by omega) (by omega) (by omega) (by simp) (by omega) hfit).mono ?_
  rw [Hval.out]
  rintro e w4 ⟨rfl, k4, hB4, hl4⟩
  have ht4 := (Ht3.out.alloc (.cells #[.int .u16 0] 210)).keep k4 (by simp; exact ⟨tq, by omega⟩)
  have cl := hl4.cell (i := 0) (v := .int .u16 (v : Int)) rfl
  have c2 := ht4.cell (i := 2) rfl
  have hf4 := ht4.unfrozen
  have HB4 := Lib.hid hB4
  have Ht4 := Lib.hid ht4
  have K4 : Keep [q, t] w w4 := (K3.alloc _).trans k4 (by have := K3.size; simp; omega)
  clear hB4 ht4 hl4 c0 hf
  go_wp2
  go_ret
  have K5 : Keep [q, t] w (w4.setCell ⟨t, 2, none⟩ (.int .u64 (v : Int))) := K4.set (by simp) _ _ _
  refine ⟨rfl, K5, BR.keep (S := [t]) HB4.out ((Keep.refl [t] w4).set (b := t) (by simp) 2 none _) (by simp; exact Ne.symm tq) (by simp; exact Ne.symm Htx.out.1) (by simp; exact Ne.symm Htx.out.2.1) (by simp; exact Ne.symm Htx.out.2.2), ?_⟩
  exact Ht4.out.set 2 (.int .u64 (v : Int))


set_option maxRecDepth 100000 in
set_option maxHeartbeats 2000000 in
theorem nextRep8 (t q : Nat) (x : XP) (d o n cap : Nat) (ea : Addr) (D : List Nat) (P W cur r v : Nat) (rest : List Nat) (w : World) (h : BRat w q x d o n cap ea D P) (ht : Blk w t (decCells q W cur 0 0)) (tq : t ≠ q) (tx : t ≠ x.b) (td : t ≠ d) (te : t ≠ 4)
    (hm : D.drop P = vlq (2 * r) ++ leBytes ((W + 7) / 8) v ++ rest) (hr0 : 0 < r) (hr : r < 1000000) (hW : W ≤ 64) (hv : v < 2 ^ W) (hnlo : 0 < (W + 7) / 8) (hnhi : (W + 7) / 8 ≤ 1) :
    Calls Tryz.prog 93 #[.pointer (some ⟨t, 0, none⟩)] w fun e w' =>
      e = .returned (.bool true) ∧ Keep [q, t] w w' ∧ BRF w' q x d o n cap ea D (P + (vlq (2 * r)).length + (W + 7) / 8) 0 ∧ Blk w' t (decCells q W v r 0) := by
  have c0 := ht.cell (i := 0) rfl
  obtain ⟨m, hm2⟩ : ∃ m, m = 2 * r := ⟨_, rfl⟩
  rw [← hm2] at hm ⊢
  have hand := and_one m (by omega)
  rw [show m % 2 = 0 by omega] at hand
  have hand : bits .and .u64 (m : Int) 1 = 0 := hand
  have hdiv : (m : Int) / 2 = (r : Int) := by omega
  have hw32 := IntWalk.u32_in (r : Int) (by omega)
  have hi32 := IntWalk.i32_in (r : Int) (by omega)
  have hg1 : ((r : Int) == 0) = false := by simp; omega
  have hg2 : ¬ (2147483647 : Int) < (r : Int) := by omega
  have hml : m < 34359738368 := by omega
  obtain ⟨nb, hnb⟩ : ∃ nb, nb = (W + 7) / 8 := ⟨_, rfl⟩
  have hv256 : v < 256 ^ nb := Nat.lt_of_lt_of_le hv (by rw [show (256 : Nat) = 2 ^ 8 from rfl, ← Nat.pow_mul]; exact Nat.pow_le_pow_right (by omega) (by omega))
  have hv64 : v < 18446744073709551616 := Nat.lt_of_lt_of_le hv (Nat.le_trans (Nat.pow_le_pow_right (by omega) hW) (by decide))
  have hwv := IntWalk.u64_in (v : Int) (by omega)
  rw [← hnb] at hm hnlo hnhi ⊢
  have hd2 : D.drop (P + (vlq m).length) = leBytes nb v ++ rest := by
    have h1 := congrArg (List.drop (vlq m).length) hm
    rw [List.drop_drop, List.append_assoc, List.drop_left] at h1
    exact h1
  have hval : leVal ((D.drop (P + (vlq m).length)).take nb) = v := by
    rw [hd2, List.take_append_of_le_length (by simp), List.take_of_length_le (by simp), leVal_leBytes _ _ hv256]
  have hfit : P + (vlq m).length + nb ≤ n := by
    obtain ⟨_, _, _, _, hb, _⟩ := h
    have h1 := congrArg List.length hm
    have h2 := vlq_pos m
    rw [List.length_drop, hb.hD.dl] at h1
    simp at h1
    omega
  have hrest : D.drop P = vlq m ++ (leBytes nb v ++ rest) := by rw [hm, List.append_assoc]
  obtain ⟨P2, hP2⟩ : ∃ P2, P2 = P + (vlq m).length := ⟨_, rfl⟩
  rw [← hP2] at hval hfit ⊢
  have Hm := Lib.hid hrest
  have Hval := Lib.hid hval
  have HP2 := Lib.hid hP2
  have Hnb := Lib.hid hnb
  have Htx := Lib.hid (And.intro tx (And.intro td te))
  clear hm2 hm hrest hval hd2 hP2 hnb hv hv256
  have hsw0 : ¬ (4 : Int) < (nb : Int) := by omega
  have hsw1 : ¬ (2 : Int) < (nb : Int) := by omega
  have hsw2 : ¬ (1 : Int) < (nb : Int) := by omega
  have ql : q < w.heap.size := by obtain ⟨_, _, _, _, hb, _⟩ := h; obtain ⟨_, _, _, _, h⟩ := hb.hq; exact h.lt
  have xl : x.b < w.heap.size := by obtain ⟨_, _, _, _, hb, _⟩ := h; obtain ⟨_, _, h⟩ := hb.hx; exact h.lt
  have dl : d < w.heap.size := by obtain ⟨_, _, _, _, hb, _⟩ := h; obtain ⟨_, h, _⟩ := hb.hD.hd; exact h.lt
  have el : 4 < w.heap.size := by obtain ⟨_, _, _, _, hb, _⟩ := h; exact hb.hE.lt
  have tl := ht.lt
  go_enter Tryz.func93, Tryz.ntmps93
  go_wp2_with fail
  refine (getVlqC q x d o n cap ea D P m _ w h Hm.out hml).mono ?_
  rw [← HP2.out]
  rintro e w2 ⟨rfl, k2, hB2⟩
  have ht2 := ht.keep k2 (by simp; exact tq)
  have K2 : Keep [q, t] w w2 := k2.weaken (by simp)
  clear c0 h ht k2
  obtain ⟨w3, hw3⟩ : ∃ w3, w3 = w2.setCell ⟨t, 3, none⟩ (.int .i32 (r : Int)) := ⟨_, rfl⟩
  have ht3 : Blk w3 t (decCells q W cur r 0) := by rw [hw3]; exact ht2.set 3 (.int .i32 (r : Int))
  have K3 : Keep [q, t] w w3 := by rw [hw3]; exact K2.set (by simp) _ _ _
  have hB3 : BRF w3 q x d o n cap ea D P2 0 := by
    rw [hw3]
    exact hB2.keep (S := [t]) ((Keep.refl [t] w2).set (b := t) (by simp) 3 none _) (by simp; exact Ne.symm tq) (by simp; exact Ne.symm Htx.out.1) (by simp; exact Ne.symm Htx.out.2.1) (by simp; exact Ne.symm Htx.out.2.2)
  have c0 := ht2.cell (i := 0) rfl
  have c1 := ht2.cell (i := 1) rfl
  have c3 := ht2.cell (i := 3) rfl
  have hf := ht2.unfrozen
  have Ht3 := Lib.hid ht3
  have HB3 := Lib.hid hB3
  have tl2 : t < w2.heap.size := ht2.lt
  have hsz : w2.heap.size = w3.heap.size := by rw [hw3]; simp
  clear ht2 hB2 K2 ht3 hB3
  go_wp2_with (go_at_call 83; refine (bytesForBitsN W nb _ Hnb.out (by omega)).mono ?_; rintro e w' ⟨rfl, rfl⟩)
  rw [← hw3]
  clear hw3 c0 c1 c3 hf tl2
  have tl3 := Ht3.out.lt
  have c0 := Ht3.out.cell (i := 0) rfl
  have hf := Ht3.out.unfrozen
  have hw3s := K3.size
  go_wp2_with fail
  refine (getAligned8 q x d o n cap ea D _ P2 0 _ w3.heap.size 0 P2 nb [.int .u8 0] _ (BR.keep (S := []) HB3.out ((Keep.refl [] w3).alloc _) (by simp) (by simp) (by simp) (by simp)) (by omega) (by omega) hnhi
    (Blk.new w3 _ _) (by omega) (by omega) (by omega) (by omega) (by simp) (by omega) hfit).mono ?_
  rw [Hval.out]
  rintro e w4 ⟨rfl, k4, hB4, hl4⟩
  have ht4 := (Ht3.out.alloc (.cells #[.int .u8 0] 5)).keep k4 (by simp; exact ⟨tq, by omega⟩)
  have cl := hl4.cell (i := 0) (v := .int .u8 (v : Int)) rfl
  have c2 := ht4.cell (i := 2) rfl
  have hf4 := ht4.unfrozen
  have HB4 := Lib.hid hB4
  have Ht4 := Lib.hid ht4
  have K4 : Keep [q, t] w w4 := (K3.alloc _).trans k4 (by have := K3.size; simp; omega)
  clear hB4 ht4 hl4 c0 hf
  go_wp2
  go_ret
  have K5 : Keep [q, t] w (w4.setCell ⟨t, 2, none⟩ (.int .u64 (v : Int))) := K4.set (by simp) _ _ _
  refine ⟨rfl, K5, BR.keep (S := [t]) HB4.out ((Keep.refl [t] w4).set (b := t) (by simp) 2 none _) (by simp; exact Ne.symm tq) (by simp; exact Ne.symm Htx.out.1) (by simp; exact Ne.symm Htx.out.2.1) (by simp; exact Ne.symm Htx.out.2.2), ?_⟩
  exact Ht4.out.set 2 (.int .u64 (v : Int))

end Go.Proofs.YtlolcgklcnechaaGreatDoor
set_option linter.unusedVariables false
namespace Go.Proofs.YtlolcgklcnechaaGreatDoor
open Go.RowKit

theorem nextRep (t q : Nat) (x : XP) (d o n cap : Nat) (ea : Addr) (D : List Nat) (P W cur r v : Nat) (rest : List Nat) (w : World) (h : BRat w q x d o n cap ea D P) (ht : Blk w t (decCells q W cur 0 0)) (tq : t ≠ q) (tx : t ≠ x.b) (td : t ≠ d) (te : t ≠ 4)
    (hm : D.drop P = vlq (2 * r) ++ leBytes ((W + 7) / 8) v ++ rest) (hr0 : 0 < r) (hr : r < 1000000) (hW0 : 0 < W) (hW : W ≤ 64) (hv : v < 2 ^ W) :
    Calls Tryz.prog 93 #[.pointer (some ⟨t, 0, none⟩)] w fun e w' =>
      e = .returned (.bool true) ∧ Keep [q, t] w w' ∧ BRF w' q x d o n cap ea D (P + (vlq (2 * r)).length + (W + 7) / 8) 0 ∧ Blk w' t (decCells q W v r 0) := by
  by_cases h4 : 4 < (W + 7) / 8
  · exact nextRep64 t q x d o n cap ea D P W cur r v rest w h ht tq tx td te hm hr0 hr hW hv h4 (by omega)
  · by_cases h2 : 2 < (W + 7) / 8
    · exact nextRep32 t q x d o n cap ea D P W cur r v rest w h ht tq tx td te hm hr0 hr hW hv h2 (by omega)
    · by_cases h1 : 1 < (W + 7) / 8
      · exact nextRep16 t q x d o n cap ea D P W cur r v rest w h ht tq tx td te hm hr0 hr hW hv h1 (by omega)
      · exact nextRep8 t q x d o n cap ea D P W cur r v rest w h ht tq tx td te hm hr0 hr hW hv (by omega) (by omega)
end Go.Proofs.YtlolcgklcnechaaGreatDoor
