/- Plain laws on machine numbers, bits and packed values. No program here. -/
import Derived.Test.YtlolcgklcnechaaGreatDoorBase2
import Derived.Laws.BitsAllLaws
import Derived.Laws.Bits64
namespace Go.Proofs.YtlolcgklcnechaaGreatDoor
open Go.RowKit

theorem mul_two_pow_mod (v i : Nat) (hi : i ≤ 64) : v * 2 ^ i % 18446744073709551616 = v % 2 ^ (64 - i) * 2 ^ i := by
  rw [show 18446744073709551616 = 2 ^ (64 - i) * 2 ^ i by rw [← Nat.pow_add, show 64 - i + i = 64 by omega]]
  exact Nat.mul_mod_mul_right _ _ _

theorem acc_lt (x v i : Nat) (hx : x < 2 ^ i) (hi : i ≤ 64) : x + v % 2 ^ (64 - i) * 2 ^ i < 18446744073709551616 := by
  have h1 : v % 2 ^ (64 - i) < 2 ^ (64 - i) := Nat.mod_lt _ (Nat.two_pow_pos _)
  have h2 : (v % 2 ^ (64 - i) + 1) * 2 ^ i ≤ 2 ^ (64 - i) * 2 ^ i := Nat.mul_le_mul_right _ h1
  rw [← Nat.pow_add, show 64 - i + i = 64 by omega] at h2
  rw [Nat.add_mul] at h2
  have : (2 : Nat) ^ 64 = 18446744073709551616 := rfl
  omega

theorem acc_mod (x v i : Nat) (hx : x < 2 ^ i) (hi : i ≤ 64) : (x + v * 2 ^ i) % 18446744073709551616 = x + v % 2 ^ (64 - i) * 2 ^ i := by
  rw [Nat.add_mod, mul_two_pow_mod v i hi]
  have h := acc_lt x v i hx hi
  rw [Nat.mod_eq_of_lt (a := x) (by omega), Nat.mod_eq_of_lt h]

/-- A value's bits behind those of an accumulator (Go's acc | v << i). -/
theorem or_acc (x v i : Nat) (hx : x < 2 ^ i) (hi : i ≤ 64) :
    bits .or .u64 (x : Int) (IntKind.u64.wrap ((v : Int) * 2 ^ i)) = (((x + v * 2 ^ i) % 18446744073709551616 : Nat) : Int) := by
  have e : IntKind.u64.wrap ((v : Int) * 2 ^ i) = ((v * 2 ^ i % 18446744073709551616 : Nat) : Int) := by
    rw [IntKind.wrap_u64, Int.natCast_emod, Int.natCast_mul, Int.natCast_pow]; rfl
  have h := acc_lt x v i hx hi
  have h0 : (2 : Nat) ^ i ≤ 2 ^ 64 := Nat.pow_le_pow_right (by omega) hi
  have h64 : (2 : Nat) ^ 64 = 18446744073709551616 := rfl
  rw [e, u64_or_nat _ _ (by omega) (Nat.mod_lt _ (by omega)), acc_mod x v i hx hi, mul_two_pow_mod v i hi, Nat.or_comm,
    nat_join i _ _ (Nat.mul_mod_left _ _) hx, Nat.add_comm]

/-- Values of a width as one number, the first lowest. -/
def packN (w : Nat) : List Nat → Nat
  | [] => 0
  | v :: l => v + 2 ^ w * packN w l

theorem packN_lt {w : Nat} : ∀ {l : List Nat}, (∀ v ∈ l, v < 2 ^ w) → packN w l < 2 ^ (w * l.length)
  | [], _ => by simp [packN]
  | v :: l, h => by
    have h1 := h v (by simp)
    have h2 := packN_lt (l := l) (fun x hx => h x (by simp [hx]))
    have h3 : 2 ^ w * (packN w l + 1) ≤ 2 ^ w * 2 ^ (w * l.length) := Nat.mul_le_mul_left _ h2
    rw [← Nat.pow_add] at h3
    simp only [packN, List.length_cons]
    rw [show w * (l.length + 1) = w + w * l.length by rw [Nat.mul_add]; omega]
    rw [Nat.mul_add] at h3
    omega

theorem packN_append (w : Nat) : ∀ (l m : List Nat), packN w (l ++ m) = packN w l + 2 ^ (w * l.length) * packN w m
  | [], m => by simp [packN]
  | v :: l, m => by
    simp only [List.cons_append, packN, packN_append w l m, List.length_cons]
    rw [show w * (l.length + 1) = w + w * l.length by rw [Nat.mul_add]; omega, Nat.pow_add]
    rw [Nat.mul_add, Nat.mul_assoc]
    omega

theorem packN_replicate_zero (w n : Nat) : packN w (List.replicate n 0) = 0 := by
  induction n with
  | zero => rfl
  | succ n ih => simp [List.replicate_succ, packN, ih]

theorem packN_get {w : Nat} : ∀ {l : List Nat} {i v : Nat}, (∀ v ∈ l, v < 2 ^ w) → l[i]? = some v → packN w l / 2 ^ (w * i) % 2 ^ w = v
  | [], i, v, _, h => by simp at h
  | a :: l, 0, v, hl, h => by
    simp at h
    subst h
    simp only [packN, Nat.mul_zero, Nat.pow_zero, Nat.div_one, Nat.add_mul_mod_self_left]
    exact Nat.mod_eq_of_lt (hl a (by simp))
  | a :: l, i + 1, v, hl, h => by
    simp at h
    rw [← packN_get (l := l) (i := i) (fun x hx => hl x (by simp [hx])) h]
    have ha := hl a (by simp)
    simp only [packN]
    rw [show w * (i + 1) = w + w * i by rw [Nat.mul_add]; omega, Nat.pow_add, ← Nat.div_div_eq_div_mul, Nat.add_mul_div_left _ _ (Nat.two_pow_pos w), Nat.div_eq_of_lt ha, Nat.zero_add]

end Go.Proofs.YtlolcgklcnechaaGreatDoor
