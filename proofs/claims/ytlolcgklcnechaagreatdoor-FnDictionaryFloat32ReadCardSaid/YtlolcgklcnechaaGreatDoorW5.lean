/- The bit writer by what has been written: bytes that are finished, and a number of so many bits behind them. binary.PutUvarint. -/
import Derived.Test.YtlolcgklcnechaaGreatDoorW3
set_option linter.unusedVariables false
namespace Go.Proofs.YtlolcgklcnechaaGreatDoor
open Go.RowKit

theorem leBytes_add : ∀ (a b n : Nat), leBytes (a + b) n = leBytes a n ++ leBytes b (n / 256 ^ a)
  | 0, b, n => by simp [leBytes]
  | a + 1, b, n => by
    rw [show a + 1 + b = (a + b) + 1 by omega]
    simp only [leBytes, leBytes_add a b (n / 256), List.cons_append]
    rw [Nat.pow_succ, Nat.mul_comm, Nat.div_div_eq_div_mul]

theorem leBytes_mod : ∀ (k n m : Nat), leBytes k (n + 256 ^ k * m) = leBytes k n
  | 0, _, _ => rfl
  | k + 1, n, m => by
    simp only [leBytes]
    rw [Nat.pow_succ, show n + 256 ^ k * 256 * m = n + 256 * (256 ^ k * m) by rw [Nat.mul_comm (256 ^ k) 256, Nat.mul_assoc]]
    rw [show (n + 256 * (256 ^ k * m)) % 256 = n % 256 by omega, show (n + 256 * (256 ^ k * m)) / 256 = n / 256 + 256 ^ k * m by omega, leBytes_mod k]

theorem take_splice_le {α : Type} (L : List α) (o k : Nat) (cs : List α) (h : k ≤ o) (ho : o ≤ L.length) : (splice L o cs).take k = L.take k := by
  unfold splice
  rw [List.take_append_of_le_length (by simp; omega), List.take_take, Nat.min_eq_left h]

theorem take_splice_end {α : Type} (L : List α) (o : Nat) (cs : List α) (ho : o ≤ L.length) : (splice L o cs).take (o + cs.length) = L.take o ++ cs := by
  unfold splice
  rw [← List.append_assoc, List.take_append_of_le_length (by simp; omega), List.take_of_length_le (by simp; omega)]

structure BWA (w : World) (b p d L : Nat) (pre : List Nat) (X len : Nat) : Prop where
  ex : ∃ data buf bo bi q, BW w b p d buf bo bi data ∧ data.length = L ∧ bo = pre.length + 8 * q ∧ len = 64 * q + bi ∧ buf = X / 2 ^ (64 * q) ∧ X < 2 ^ len ∧ data.take bo = pre ++ leBytes (8 * q) X

theorem div_lt_two_pow {X a b : Nat} (h : X < 2 ^ (a + b)) : X / 2 ^ a < 2 ^ b := by
  rw [Nat.div_lt_iff_lt_mul (Nat.two_pow_pos a), ← Nat.pow_add, Nat.add_comm]; exact h

theorem add_mul_two_pow_lt {X v len n : Nat} (h : X < 2 ^ len) (hv : v < 2 ^ n) : X + v * 2 ^ len < 2 ^ (len + n) := by
  have : (v + 1) * 2 ^ len ≤ 2 ^ n * 2 ^ len := Nat.mul_le_mul_right _ hv
  rw [← Nat.pow_add, Nat.add_mul] at this
  rw [Nat.add_comm len n]
  omega

theorem two_pow_256 (q : Nat) : (2 : Nat) ^ (64 * q) = 256 ^ (8 * q) := by
  rw [show (256 : Nat) = 2 ^ 8 by rfl, ← Nat.pow_mul]; congr 1; omega

/-- WriteValue: n bits more. -/
theorem writeValueA (b p d L n v : Nat) (pre : List Nat) (X len : Nat) (w : World) (h : BWA w b p d L pre X len)
    (hv : v < 2 ^ n) (hn : n ≤ 64) (hfit : pre.length + 8 * ((len + n) / 64) ≤ L) :
    Calls Tryz.prog 117 #[.pointer (some ⟨b, 0, none⟩), .int .u64 (v : Int), .int .u64 (n : Int)] w fun e w' =>
      e = .returned .nilIface ∧ Keep [b, d] w w' ∧ BWA w' b p d L pre (X + v * 2 ^ len) (len + n) := by
  obtain ⟨data, buf, bo, bi, q, hB, hL, hbo, hlen, hbuf, hX, htk⟩ := h
  have hbi := hB.bi64
  have hbl : buf < 2 ^ bi := by rw [hbuf]; exact div_lt_two_pow (by rw [← hlen]; exact hX)
  have hbole := hB.bole
  have hX' := add_mul_two_pow_lt hX hv
  have hdiv : (X + v * 2 ^ len) / 2 ^ (64 * q) = buf + v * 2 ^ bi := by
    rw [hlen, Nat.pow_add, ← Nat.mul_assoc, Nat.mul_right_comm, Nat.add_mul_div_right _ _ (Nat.two_pow_pos _), hbuf]
  by_cases hlt : bi + n < 64
  · refine (writeValue_small b p d buf bo bi n v data w hB hbl hlt).mono ?_
    rintro e w' ⟨rfl, k, hB'⟩
    refine ⟨rfl, k, data, _, bo, bi + n, q, hB', hL, hbo, by omega, ?_, hX', ?_⟩
    · rw [hdiv]
      refine Nat.mod_eq_of_lt ?_
      have := add_mul_two_pow_lt hbl hv
      have h2 : (2 : Nat) ^ (bi + n) ≤ 2 ^ 64 := Nat.pow_le_pow_right (by omega) (by omega)
      have : (2 : Nat) ^ 64 = 18446744073709551616 := rfl
      omega
    · rw [htk, hlen, Nat.pow_add, ← Nat.mul_assoc, Nat.mul_right_comm, two_pow_256, Nat.mul_comm _ (256 ^ (8 * q)), leBytes_mod]
  · have hq : (len + n) / 64 = q + 1 := by omega
    refine (writeValue_big b p d buf bo bi n v data w hB hbl hn (by omega) (by rw [hq] at hfit; omega)).mono ?_
    rintro e w' ⟨rfl, k, hB'⟩
    have hfit' : bo + 8 ≤ data.length := by rw [hq] at hfit; omega
    refine ⟨rfl, k, _, _, _, _, q + 1, hB', ?_, by omega, by omega, ?_, hX', ?_⟩
    · rw [length_splice _ _ _ (by simpa using hfit')]; exact hL
    · rw [show 64 * (q + 1) = 64 * q + 64 by omega, Nat.pow_add, ← Nat.div_div_eq_div_mul, hdiv]
      rw [show (2 : Nat) ^ 64 = 2 ^ bi * 2 ^ (64 - bi) by rw [← Nat.pow_add]; congr 1; omega, ← Nat.div_div_eq_div_mul, Nat.add_mul_div_right _ _ (Nat.two_pow_pos _),
        Nat.div_eq_of_lt hbl, Nat.zero_add]
    · have e1 := take_splice_end data bo (leBytes 8 ((buf + v * 2 ^ bi) % 18446744073709551616)) hbole
      simp only [length_leBytes] at e1
      rw [e1, htk, show 8 * (q + 1) = 8 * q + 8 by omega, leBytes_add, ← two_pow_256, hdiv, List.append_assoc]
      congr 1
      congr 1
      · rw [hlen, Nat.pow_add, ← Nat.mul_assoc, Nat.mul_right_comm, two_pow_256, Nat.mul_comm _ (256 ^ (8 * q)), leBytes_mod]
      · have := leBytes_mod 8 ((buf + v * 2 ^ bi) % 18446744073709551616) ((buf + v * 2 ^ bi) / 18446744073709551616)
        rw [show (256 : Nat) ^ 8 = 18446744073709551616 by rfl, Nat.mod_add_div] at this
        exact this.symm

/-- Flush: the bits behind the finished bytes are written; aligned, they are finished. -/
theorem flushA (al : Bool) (b p d L : Nat) (pre : List Nat) (X len : Nat) (w : World) (h : BWA w b p d L pre X len) (hfit : pre.length + (len + 7) / 8 ≤ L) :
    Calls Tryz.prog 88 #[.pointer (some ⟨b, 0, none⟩), .bool al] w fun e w' =>
      e = .returned (.tuple #[]) ∧ Keep [b, d] w w' ∧ (if al then BWA w' b p d L (pre ++ leBytes ((len + 7) / 8) X) 0 0 else BWA w' b p d L pre X len) ∧
        ∃ data, Blk w' d (rowV .u8 data) ∧ data.length = L ∧ data.take (pre.length + (len + 7) / 8) = pre ++ leBytes ((len + 7) / 8) X := by
  obtain ⟨data, buf, bo, bi, q, hB, hL, hbo, hlen, hbuf, hX, htk⟩ := h
  have hbi := hB.bi64
  have hbole := hB.bole
  have hbl : buf < 2 ^ bi := by rw [hbuf]; exact div_lt_two_pow (by rw [← hlen]; exact hX)
  have hnb : (len + 7) / 8 = 8 * q + (bi + 7) / 8 := by omega
  have hall : leBytes ((len + 7) / 8) X = leBytes (8 * q) X ++ leBytes ((bi + 7) / 8) buf := by
    rw [hnb, leBytes_add, ← two_pow_256, hbuf]
  by_cases hz : bi = 0
  · subst hz
    have hb0 : buf = 0 := by simp at hbl; exact hbl
    rw [hb0] at hB
    refine (flush_zero al b p d bo data w hB).mono ?_
    rintro e w' ⟨rfl, k, hB'⟩
    have ht : data.take (pre.length + (len + 7) / 8) = pre ++ leBytes ((len + 7) / 8) X := by
      rw [hall, show pre.length + (len + 7) / 8 = bo by omega, htk]; simp [leBytes]
    refine ⟨rfl, k, ?_, data, hB'.hd, hL, ht⟩
    cases al
    · exact ⟨data, 0, bo, 0, q, hB', hL, hbo, hlen, by rw [← hbuf, hb0], hX, htk⟩
    · refine ⟨data, 0, bo, 0, 0, hB', hL, by simp; omega, by simp, by simp, by simp, ?_⟩
      rw [← show pre.length + (len + 7) / 8 = bo by omega, ht]; simp [leBytes]
  · refine (flush_pos al b p d buf bo bi _ data w hB (by omega) rfl (by omega)).mono ?_
    rintro e w' ⟨rfl, k, hB'⟩
    have hl : (splice data bo (leBytes ((bi + 7) / 8) buf)).length = data.length := length_splice _ _ _ (by simp; omega)
    have e1 := take_splice_end data bo (leBytes ((bi + 7) / 8) buf) hbole
    simp only [length_leBytes] at e1
    have ht : (splice data bo (leBytes ((bi + 7) / 8) buf)).take (pre.length + (len + 7) / 8) = pre ++ leBytes ((len + 7) / 8) X := by
      rw [hall, show pre.length + (len + 7) / 8 = bo + (bi + 7) / 8 by omega, e1, htk, List.append_assoc]
    refine ⟨rfl, k, ?_, _, hB'.hd, by rw [hl]; exact hL, ht⟩
    cases al
    · refine ⟨_, buf, bo, bi, q, by simpa using hB', by rw [hl]; exact hL, hbo, hlen, hbuf, hX, ?_⟩
      rw [take_splice_le _ _ _ _ (Nat.le_refl _) hbole]; exact htk
    · refine ⟨_, 0, bo + (bi + 7) / 8, 0, 0, by simpa using hB', by rw [hl]; exact hL, by simp; omega, by simp, by simp, by simp, ?_⟩
      rw [← show pre.length + (len + 7) / 8 = bo + (bi + 7) / 8 by omega, ht]; simp [leBytes]

theorem writtenA (b p d L : Nat) (pre : List Nat) (X len : Nat) (w : World) (h : BWA w b p d L pre X len) :
    Calls Tryz.prog 89 #[.pointer (some ⟨b, 0, none⟩)] w fun e w' =>
      e = .returned (.int .i64 ((pre.length + (len + 7) / 8 : Nat) : Int)) ∧ ∃ n, w' = w.drewN n := by
  obtain ⟨data, buf, bo, bi, q, hB, hL, hbo, hlen, hbuf, hX, htk⟩ := h
  refine (written b p d buf bo bi data w hB).mono ?_
  rintro e w' ⟨rfl, h⟩
  exact ⟨by rw [show bo + (bi + 7) / 8 = pre.length + (len + 7) / 8 by omega], h⟩

end Go.Proofs.YtlolcgklcnechaaGreatDoor
set_option linter.unusedVariables false
namespace Go.Proofs.YtlolcgklcnechaaGreatDoor
open Go.RowKit

/-- A number in groups of seven bits. -/
def vlq (n : Nat) : List Nat := if n < 128 then [n] else (n % 128 + 128) :: vlq (n / 128)
termination_by n

theorem vlq_small {n : Nat} (h : n < 128) : vlq n = [n] := by rw [vlq, if_pos h]
theorem vlq_big {n : Nat} (h : ¬ n < 128) : vlq n = (n % 128 + 128) :: vlq (n / 128) := by rw [vlq, if_neg h]

theorem vlq_length : ∀ (k n : Nat), n < 128 ^ (k + 1) → (vlq n).length ≤ k + 1
  | 0, n, h => by rw [vlq_small (by simpa using h)]; simp
  | k + 1, n, h => by
    by_cases h1 : n < 128
    · rw [vlq_small h1]; simp
    · rw [vlq_big h1]
      have := vlq_length k (n / 128) (by rw [Nat.pow_succ] at h; omega)
      simp; omega

theorem vlq_pos (n : Nat) : 0 < (vlq n).length := by
  rw [vlq]; split <;> simp

theorem or128 (x : Nat) : bits .or .u8 ((x : Int) % 256) 128 = ((x % 128 + 128 : Nat) : Int) := by
  have h : ((x : Int) % 256) = ((x % 256 : Nat) : Int) := by simp
  have e : (128 : Int) = ((128 : Nat) : Int) := rfl
  rw [h, e, u8_or_nat _ _ (by omega) (by omega)]
  congr 1
  have h2 : x % 256 = x % 128 + x / 128 % 2 * 128 := by omega
  rw [h2]
  rcases Nat.mod_two_eq_zero_or_one (x / 128) with h3 | h3 <;> rw [h3]
  · simp only [Nat.zero_mul, Nat.add_zero]
    rw [Nat.or_comm, nat_join 7 128 _ rfl (by omega), Nat.add_comm]
  · simp only [Nat.one_mul]
    have h4 : x % 128 + 128 = 128 ||| x % 128 := by rw [nat_join 7 128 _ rfl (by omega), Nat.add_comm]
    rw [h4, Nat.or_comm 128, Nat.or_assoc]; rfl

set_option maxRecDepth 100000 in
set_option maxHeartbeats 400000 in
theorem putUvarint (b o len cap n : Nat) (cs : List Value) (w : World) (hb : Blk w b cs) (ho : o + (vlq n).length ≤ cs.length) (hl : (vlq n).length ≤ len) (hlen : len ≤ 1000) (hn : n < 18446744073709551616) :
    Calls Tryz.prog 149 #[.slice (some ⟨b, o, none⟩) len cap, .int .u64 (n : Int)] w fun e w' =>
      e = .returned (.int .i64 ((vlq n).length : Int)) ∧ Keep [b] w w' ∧ Blk w' b (splice cs o (rowV .u8 (vlq n))) := by
  have HB := Lib.hid hb
  have Ho := Lib.hid ho
  have Hl := Lib.hid hl
  have Hn : n ≤ 18446744073709551615 := by omega
  clear hb ho hl hn
  go_enter Tryz.func149, Tryz.ntmps149
  go_wp2
  go_loopw [1, 5] (fun x i wr => ∃ (done : List Nat) (x' : Nat), Hid (vlq n = done ++ vlq x') ∧ x = .int .u64 (x' : Int) ∧ i = .int .i64 (done.length : Int) ∧ x' ≤ n ∧ Keep [b] w wr ∧ Blk wr b (splice cs o (rowV .u8 done))) (fun x _ _ => (intOf x).toNat)
  case atStart => exact ⟨[], n, Lib.hid rfl, rfl, rfl, Nat.le_refl _, Keep.refl _ _, by simpa [splice, rowV] using HB.out⟩
  case round =>
    obtain ⟨done, x', hv, rfl, rfl, hx', hk, hbl⟩ := hrel
    have hsz : done.length + (vlq x').length = (vlq n).length := by rw [hv.out]; simp
    have hpos := vlq_pos x'
    have Hlo := Hl.out
    have Hoo := Ho.out
    have hi0 : (0 : Int) ≤ (done.length : Int) := by omega
    have hi1 : (done.length : Int) < (len : Int) := by omega
    obtain ⟨v0, hc⟩ : ∃ v, wr.cell? ⟨b, o + done.length, none⟩ = some v := by
      have hlt : o + done.length < (splice cs o (rowV .u8 done)).length := by rw [length_splice _ _ _ (by simp; omega)]; omega
      exact ⟨(splice cs o (rowV .u8 done))[o + done.length], hbl.cell (by simp)⟩
    have hf := hbl.unfrozen
    have next : ∀ y : Nat, Blk (wr.setCell ⟨b, o + done.length, none⟩ (.int .u8 (y : Int))) b (splice cs o (rowV .u8 (done ++ [y]))) := fun y => by
      have := hbl.set (o + done.length) (.int .u8 (y : Int))
      have e : (splice cs o (rowV .u8 done)).set (o + done.length) (.int .u8 (y : Int)) = splice cs o (rowV .u8 (done ++ [y])) := by
        rw [← setsAt_splice _ _ _ (by simp; omega), ← setsAt_splice _ _ _ (by simp; omega), rowV_append]
        have key : ∀ (a : List Value) (c : List Value) (q : Nat) (z : Value), setsAt c q (a ++ [z]) = (setsAt c q a).set (q + a.length) z := by
          intro a
          induction a with
          | nil => intro c q z; rfl
          | cons a0 a ih => intro c q z; simp only [List.cons_append, setsAt, ih, List.length_cons]; congr 1; omega
        rw [show rowV .u8 [y] = [Value.int .u8 (y : Int)] by rfl, key]; simp
      rw [e] at this; exact this
    have Hnext := Lib.hid next
    have Hsz := Lib.hid hsz
    clear next hsz
    by_cases hlt : x' < 128
    · have hlt' : ¬ (128 : Int) ≤ (x' : Int) := by omega
      have hm : ((x' : Int) % 256) = (x' : Int) := by omega
      go_wp2
      go_ret
      have e1 : vlq n = done ++ [x'] := by rw [hv.out, vlq_small hlt]
      refine ⟨?_, hk.set (by simp) _ _ _, ?_⟩
      · rw [e1]; simp
      · rw [e1]; exact Hnext.out x'
    · have hge : (128 : Int) ≤ (x' : Int) := by omega
      have hor := or128 x'
      go_wp2
      go_roundw
      case rel => exact ⟨done ++ [x' % 128 + 128], x' / 128, Lib.hid (by rw [hv.out, vlq_big hlt]; simp), by simp, by simp, by omega, hk.set (by simp) _ _ _, Hnext.out _⟩
      case measure => simp [intOf]; omega
end Go.Proofs.YtlolcgklcnechaaGreatDoor
