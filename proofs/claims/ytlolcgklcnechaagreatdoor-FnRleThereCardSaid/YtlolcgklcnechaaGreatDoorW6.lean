/- binary.PutUvarint. -/
import Derived.Test.YtlolcgklcnechaaGreatDoorW5
set_option linter.unusedVariables false
namespace Go.Proofs.YtlolcgklcnechaaGreatDoor
open Go.RowKit

/-- A number in groups of seven bits. -/
def vlq (n : Nat) : List Nat := if n < 128 then [n] else (n % 128 + 128) :: vlq (n / 128)
termination_by n

theorem vlq_small {n : Nat} (h : n < 128) : vlq n = [n] := by rw [vlq, if_pos h]
theorem vlq_big {n : Nat} (h : ¬ n < 128) : vlq n = (n % 128 + 128) :: vlq (n / 128) := by rw [vlq, if_neg h]

theorem vlq_length : ∀ (k n : Nat), n < 128 ^ (k + 1) → (vlq n).length ≤ k + 1
  | 0, n, h => by rw [vlq_small (by simpa using h)]; simp
  | k + 1, n, h => by
    by_cases h1 : n < 128
    · rw [vlq_small h1]; simp
    · rw [vlq_big h1]
      have := vlq_length k (n / 128) (by rw [Nat.pow_succ] at h; omega)
      simp; omega

theorem vlq_pos (n : Nat) : 0 < (vlq n).length := by
  rw [vlq]; split <;> simp

theorem or128 (x : Nat) : bits .or .u8 ((x : Int) % 256) 128 = ((x % 128 + 128 : Nat) : Int) := by
  have h : ((x : Int) % 256) = ((x % 256 : Nat) : Int) := by simp
  have e : (128 : Int) = ((128 : Nat) : Int) := rfl
  rw [h, e, u8_or_nat _ _ (by omega) (by omega)]
  congr 1
  have h2 : x % 256 = x % 128 + x / 128 % 2 * 128 := by omega
  rw [h2]
  rcases Nat.mod_two_eq_zero_or_one (x / 128) with h3 | h3 <;> rw [h3]
  · simp only [Nat.zero_mul, Nat.add_zero]
    rw [Nat.or_comm, nat_join 7 128 _ rfl (by omega), Nat.add_comm]
  · simp only [Nat.one_mul]
    have h4 : x % 128 + 128 = 128 ||| x % 128 := by rw [nat_join 7 128 _ rfl (by omega), Nat.add_comm]
    rw [h4, Nat.or_comm 128, Nat.or_assoc]; rfl

set_option maxRecDepth 100000 in
set_option maxHeartbeats 400000 in
theorem putUvarint (b o len cap n : Nat) (cs : List Value) (w : World) (hb : Blk w b cs) (ho : o + (vlq n).length ≤ cs.length) (hl : (vlq n).length ≤ len) (hlen : len ≤ 1000) (hn : n < 18446744073709551616) :
    Calls Tryz.prog 149 #[.slice (some ⟨b, o, none⟩) len cap, .int .u64 (n : Int)] w fun e w' =>
      e = .returned (.int .i64 ((vlq n).length : Int)) ∧ Keep [b] w w' ∧ Blk w' b (splice cs o (rowV .u8 (vlq n))) := by
  have HB := Lib.hid hb
  have Ho := Lib.hid ho
  have Hl := Lib.hid hl
  have Hn : n ≤ 18446744073709551615 := by omega
  clear hb ho hl hn
  go_enter Tryz.func149, Tryz.ntmps149
  go_wp2
  go_loopw [1, 5] (fun x i wr => ∃ (done : List Nat) (x' : Nat), Hid (vlq n = done ++ vlq x') ∧ x = .int .u64 (x' : Int) ∧ i = .int .i64 (done.length : Int) ∧ x' ≤ n ∧ Keep [b] w wr ∧ Blk wr b (splice cs o (rowV .u8 done))) (fun x _ _ => (intOf x).toNat)
  case atStart => exact ⟨[], n, Lib.hid rfl, rfl, rfl, Nat.le_refl _, Keep.refl _ _, by simpa [splice, rowV] using HB.out⟩
  case round =>
    obtain ⟨done, x', hv, rfl, rfl, hx', hk, hbl⟩ := hrel
    have hsz : done.length + (vlq x').length = (vlq n).length := by rw [hv.out]; simp
    have hpos := vlq_pos x'
    have Hlo := Hl.out
    have Hoo := Ho.out
    have hi0 : (0 : Int) ≤ (done.length : Int) := by omega
    have hi1 : (done.length : Int) < (len : Int) := by omega
    obtain ⟨v0, hc⟩ : ∃ v, wr.cell? ⟨b, o + done.length, none⟩ = some v := by
      have hlt : o + done.length < (splice cs o (rowV .u8 done)).length := by rw [length_splice _ _ _ (by simp; omega)]; omega
      exact ⟨(splice cs o (rowV .u8 done))[o + done.length], hbl.cell (by simp)⟩
    have hf := hbl.unfrozen
    have next : ∀ y : Nat, Blk (wr.setCell ⟨b, o + done.length, none⟩ (.int .u8 (y : Int))) b (splice cs o (rowV .u8 (done ++ [y]))) := fun y => by
      have := hbl.set (o + done.length) (.int .u8 (y : Int))
      have e : (splice cs o (rowV .u8 done)).set (o + done.length) (.int .u8 (y : Int)) = splice cs o (rowV .u8 (done ++ [y])) := by
        rw [← setsAt_splice _ _ _ (by simp; omega), ← setsAt_splice _ _ _ (by simp; omega), rowV_append]
        have key : ∀ (a : List Value) (c : List Value) (q : Nat) (z : Value), setsAt c q (a ++ [z]) = (setsAt c q a).set (q + a.length) z := by
          intro a
          induction a with
          | nil => intro c q z; rfl
          | cons a0 a ih => intro c q z; simp only [List.cons_append, setsAt, ih, List.length_cons]; congr 1; omega
        rw [show rowV .u8 [y] = [Value.int .u8 (y : Int)] by rfl, key]; simp
      rw [e] at this; exact this
    have Hnext := Lib.hid next
    have Hsz := Lib.hid hsz
    clear next hsz
    by_cases hlt : x' < 128
    · have hlt' : ¬ (128 : Int) ≤ (x' : Int) := by omega
      have hm : ((x' : Int) % 256) = (x' : Int) := by omega
      go_wp2
      go_ret
      have e1 : vlq n = done ++ [x'] := by rw [hv.out, vlq_small hlt]
      refine ⟨?_, hk.set (by simp) _ _ _, ?_⟩
      · rw [e1]; simp
      · rw [e1]; exact Hnext.out x'
    · have hge : (128 : Int) ≤ (x' : Int) := by omega
      have hor := or128 x'
      go_wp2
      go_roundw
      case rel => exact ⟨done ++ [x' % 128 + 128], x' / 128, Lib.hid (by rw [hv.out, vlq_big hlt]; simp), by simp, by simp, by omega, hk.set (by simp) _ _ _, Hnext.out _⟩
      case measure => simp [intOf]; omega
end Go.Proofs.YtlolcgklcnechaaGreatDoor
