/- Plain law: what the straight lines compute. -/
import Derived.Test.YtlolcgklcnechaaGreatDoorU3
set_option linter.unusedVariables false
set_option linter.unusedSimpArgs false
namespace Go.Proofs.YtlolcgklcnechaaGreatDoor
open Go.RowKit

theorem win_in (M N P i b : Nat) (h : i + b ≤ M) : N / 2 ^ P % 2 ^ M / 2 ^ i % 2 ^ b = N / 2 ^ (P + i) % 2 ^ b := by
  rw [show (2 : Nat) ^ M = 2 ^ i * 2 ^ (M - i) by rw [← Nat.pow_add, show i + (M - i) = M by omega], Nat.mod_mul_right_div_self, Nat.div_div_eq_div_mul, ← Nat.pow_add,
    Nat.mod_mod_of_dvd _ (Nat.pow_dvd_pow 2 (by omega))]

theorem win_cross (M N P i b : Nat) (hi : i ≤ M) (hb : b ≤ M) (h : M ≤ i + b) :
    N / 2 ^ P % 2 ^ M / 2 ^ i + N / 2 ^ (P + M) % 2 ^ M % 2 ^ (i + b - M) * 2 ^ (M - i) = N / 2 ^ (P + i) % 2 ^ b := by
  rw [Nat.mod_mod_of_dvd _ (Nat.pow_dvd_pow 2 (by omega : i + b - M ≤ M))]
  rw [show (2 : Nat) ^ M = 2 ^ i * 2 ^ (M - i) by rw [← Nat.pow_add, show i + (M - i) = M by omega], Nat.mod_mul_right_div_self, Nat.div_div_eq_div_mul, ← Nat.pow_add]
  conv => rhs; rw [show (2 : Nat) ^ b = 2 ^ (M - i) * 2 ^ (i + b - M) by rw [← Nat.pow_add, show M - i + (i + b - M) = b by omega], Nat.mod_mul, Nat.div_div_eq_div_mul, ← Nat.pow_add, show P + i + (M - i) = P + M by omega]
  rw [Nat.mul_comm (2 ^ (M - i))]

theorem word_at (D : List Nat) (P m : Nat) (h : ∀ y ∈ D, y < 256) : leVal ((D.drop (P + 4 * m)).take 4) = leVal (D.drop P) / 2 ^ (32 * m) % 2 ^ 32 := by
  rw [← List.drop_drop, leVal_take _ _ (fun y hy => h y (List.mem_of_mem_drop (List.mem_of_mem_drop hy))), leVal_drop _ _ (fun y hy => h y (List.mem_of_mem_drop hy)), show (256 : Nat) = 2 ^ 8 from rfl, ← Nat.pow_mul, ← Nat.pow_mul]
  congr 2
  congr 1
  omega

theorem runAll_append (D : List Nat) : ∀ (l m : List Ins) (μ : Mem), runAll D (l ++ m) μ = runAll D m (runAll D l μ)
  | [], m, μ => rfl
  | i :: l, m, μ => runAll_append D l m _
theorem okAll_append (D : List Nat) (n : Nat) : ∀ (l m : List Ins) (μ : Mem), okAll D n l μ → okAll D n m (runAll D l μ) → okAll D n (l ++ m) μ
  | [], m, μ, _, h => h
  | i :: l, m, μ, h, h2 => ⟨h.1, okAll_append D n l m _ h.2 h2⟩

/-- What stands where k numbers are read. -/
structure Jk (D : List Nat) (P n k : Nat) (μ : Mem) : Prop where
  len : μ.outs.length = 32
  val : ∀ i, i < k → μ.outs[i]? = some (leVal (D.drop P) / 2 ^ (n * i) % 2 ^ n)
  word : k < 32 → μ.word = leVal (D.drop P) / 2 ^ (32 * (n * k / 32)) % 2 ^ 32 ∧ μ.P = P + 4 * (n * k / 32 + 1)
  last : k = 32 → μ.P = P + 4 * n

theorem set_val {outs : List Nat} {k v : Nat} {f : Nat → Nat} (hl : outs.length = 32) (hk : k < 32) (h : ∀ i, i < k → outs[i]? = some (f i)) (hv : v = f k) : ∀ i, i < k + 1 → (outs.set k v)[i]? = some (f i) := by
  intro i hi
  rw [List.getElem?_set]
  by_cases hik : k = i
  · subst hik
    rw [if_pos rfl, if_pos (by omega), hv]
  · rw [if_neg hik]
    exact h i (by omega)

theorem layN_run (D : List Nat) (n k : Nat) (μ : Mem) (hw : μ.word < 2 ^ 32) (hge : 32 ≤ n * k % 32 + n) : (layN n k).run D μ = { μ with outs := μ.outs.set k (μ.word / 2 ^ (n * k % 32)) } := by
  unfold layN
  split
  · simp only [Ins.run]
    have hs : n * k % 32 < 32 := Nat.mod_lt _ (by omega)
    have h1 : μ.word / 2 ^ (n * k % 32) < 2 ^ (32 - n * k % 32) := by
      rw [Nat.div_lt_iff_lt_mul (Nat.two_pow_pos _), ← Nat.pow_add, show 32 - n * k % 32 + n * k % 32 = 32 by omega]; exact hw
    rw [Nat.mod_eq_of_lt (Nat.lt_of_lt_of_le h1 (Nat.pow_le_pow_right (by omega) (by omega)))]
  · rfl
theorem layN_ok (L n k : Nat) (μ : Mem) (hk : k < 32) : (layN n k).ok L μ := by
  unfold layN
  split
  · exact ⟨hk, Nat.mod_lt _ (by omega), Nat.two_pow_pos _⟩
  · exact ⟨hk, Nat.mod_lt _ (by omega)⟩

theorem step_Jk {D : List Nat} {P n k L : Nat} {μ : Mem} (h : Jk D P n k μ) (hby : ∀ y ∈ D, y < 256) (hn0 : 0 < n) (hn : n < 32) (hk : k < 32) (hL : P + 4 * n ≤ L) :
    okAll D L (stepN n k) μ ∧ Jk D P n (k + 1) (runAll D (stepN n k) μ) := by
  obtain ⟨hl, hv, hw, -⟩ := h
  obtain ⟨hw, hP⟩ := hw hk
  obtain ⟨j, hj⟩ : ∃ j, j = n * k / 32 := ⟨_, rfl⟩
  obtain ⟨s, hs⟩ : ∃ s, s = n * k % 32 := ⟨_, rfl⟩
  have hsum : 32 * j + s = n * k := by rw [hj, hs]; exact Nat.div_add_mod _ _
  have hs32 : s < 32 := by rw [hs]; exact Nat.mod_lt _ (by omega)
  have hnext : n * (k + 1) = 32 * j + s + n := by rw [Nat.mul_add, hsum, Nat.mul_one]
  have hmax : n * (k + 1) ≤ n * 32 := Nat.mul_le_mul_left _ (by omega)
  have hw32 : μ.word < 2 ^ 32 := by rw [hw]; exact Nat.mod_lt _ (by decide)
  rw [← hj] at hw hP
  unfold stepN
  rw [← hs]
  by_cases h1 : s + n < 32
  · rw [if_pos h1]
    have hdiv : n * (k + 1) / 32 = j := by rw [hnext]; omega
    refine ⟨⟨⟨hk, hs32, Nat.two_pow_pos _⟩, trivial⟩, by simpa [runAll, Ins.run] using hl, ?_, fun _ => ?_, ?_⟩
    · refine set_val hl hk hv ?_
      rw [hw, win_in 32 _ _ _ _ (by omega), hsum]
    · rw [hdiv]; exact ⟨hw, hP⟩
    · intro h32
      exfalso
      have : k = 31 := by omega
      subst this
      omega
  · rw [if_neg h1]
    have hrun := layN_run D n k μ hw32 (by rw [← hs]; omega)
    rw [← hs] at hrun
    by_cases h2 : s + n = 32
    · rw [if_pos h2]
      have hval : μ.word / 2 ^ s = leVal (D.drop P) / 2 ^ (n * k) % 2 ^ n := by
        rw [← hsum, ← win_in 32 _ _ s n (by omega), ← hw]
        symm
        refine Nat.mod_eq_of_lt ?_
        rw [Nat.div_lt_iff_lt_mul (Nat.two_pow_pos _), ← Nat.pow_add, show n + s = 32 by omega]; exact hw32
      have hdiv : n * (k + 1) / 32 = j + 1 := by rw [hnext]; omega
      by_cases h31 : k = 31
      · rw [if_pos h31]
        refine ⟨⟨layN_ok _ _ _ _ hk, trivial⟩, ?_⟩
        simp only [runAll]
        rw [hrun]
        refine ⟨by simpa using hl, set_val hl hk hv hval, fun h => by omega, fun _ => ?_⟩
        simp only
        rw [hP]
        subst h31
        omega
      · rw [if_neg h31]
        refine ⟨⟨layN_ok _ _ _ _ hk, ?_, trivial⟩, ?_⟩
        · rw [hrun]
          show μ.P + 4 ≤ L
          rw [hP]
          have : n * (k + 1) ≤ n * 31 := Nat.mul_le_mul_left _ (by omega)
          omega
        · simp only [runAll]
          rw [hrun]
          simp only [Ins.run]
          refine ⟨by simpa using hl, set_val hl hk hv hval, fun _ => ?_, fun h => by omega⟩
          simp only
          rw [hP, word_at D P (j + 1) hby, hdiv]
          exact ⟨rfl, by omega⟩
    · rw [if_neg h2]
      have h31 : k ≠ 31 := by
        rintro rfl
        omega
      have hdiv : n * (k + 1) / 32 = j + 1 := by rw [hnext]; omega
      have hA : μ.word / 2 ^ s < 2 ^ (32 - s) := by
        rw [Nat.div_lt_iff_lt_mul (Nat.two_pow_pos _), ← Nat.pow_add, show 32 - s + s = 32 by omega]; exact hw32
      have hwn := word_at D P (j + 1) hby
      obtain ⟨W2, hW2⟩ : ∃ W2, W2 = leVal ((D.drop (P + 4 * (j + 1))).take 4) := ⟨_, rfl⟩
      rw [← hW2] at hwn
      have hB : W2 % 2 ^ (s + n - 32) * 2 ^ (32 - s) < 2 ^ n := by
        have e1 : W2 % 2 ^ (s + n - 32) < 2 ^ (s + n - 32) := Nat.mod_lt _ (Nat.two_pow_pos _)
        have e2 : (W2 % 2 ^ (s + n - 32) + 1) * 2 ^ (32 - s) ≤ 2 ^ (s + n - 32) * 2 ^ (32 - s) := Nat.mul_le_mul_right _ e1
        rw [← Nat.pow_add, show s + n - 32 + (32 - s) = n by omega, Nat.add_mul] at e2
        have := Nat.two_pow_pos (32 - s)
        omega
      have hB32 : W2 % 2 ^ (s + n - 32) * 2 ^ (32 - s) < 4294967296 := Nat.lt_of_lt_of_le hB (Nat.le_trans (Nat.pow_le_pow_right (by omega) (show n ≤ 32 by omega)) (by decide))
      have hval : μ.word / 2 ^ s ||| W2 % 2 ^ (s + n - 32) * 2 ^ (32 - s) % 4294967296 = leVal (D.drop P) / 2 ^ (n * k) % 2 ^ n := by
        rw [Nat.mod_eq_of_lt hB32, Nat.or_comm, nat_join (32 - s) _ _ (Nat.mul_mod_left _ _) hA, Nat.add_comm, hw, hwn, ← hsum, show 32 * (j + 1) = 32 * j + 32 by omega]
        exact win_cross 32 _ _ _ _ (by omega) (by omega) (by omega)
      refine ⟨⟨layN_ok _ _ _ _ hk, ?_, ⟨hk, by omega, Nat.two_pow_pos _⟩, trivial⟩, ?_⟩
      · rw [hrun]
        show μ.P + 4 ≤ L
        rw [hP]
        have : n * (k + 1) ≤ n * 31 := Nat.mul_le_mul_left _ (by omega)
        omega
      · simp only [runAll]
        rw [hrun]
        simp only [Ins.run]
        rw [hP, ← hW2]
        have hget : (μ.outs.set k (μ.word / 2 ^ s)).getD k 0 = μ.word / 2 ^ s := by
          rw [List.getD_eq_getElem?_getD, List.getElem?_set_self (by omega)]; rfl
        rw [hget, List.set_set]
        refine ⟨by simpa using hl, set_val hl hk hv hval, fun _ => ?_, fun h => by omega⟩
        simp only
        rw [hdiv]
        exact ⟨hwn, by omega⟩

theorem progN_law {D : List Nat} {P n L : Nat} {outs : List Nat} (hby : ∀ y ∈ D, y < 256) (hn0 : 0 < n) (hn : n < 32) (hL : P + 4 * n ≤ L) (hl : outs.length = 32) :
    okAll D L (progN n) ⟨P, 0, outs⟩ ∧ Jk D P n 32 (runAll D (progN n) ⟨P, 0, outs⟩) := by
  have key : ∀ k, k ≤ 32 → okAll D L (.rd :: (List.range k).flatMap (stepN n)) ⟨P, 0, outs⟩ ∧ Jk D P n k (runAll D (.rd :: (List.range k).flatMap (stepN n)) ⟨P, 0, outs⟩) := by
    intro k
    induction k with
    | zero =>
      intro _
      refine ⟨⟨?_, trivial⟩, ?_⟩
      · show P + 4 ≤ L
        omega
      · simp only [List.range_zero, List.flatMap_nil, runAll, Ins.run]
        refine ⟨hl, fun i hi => absurd hi (by omega), fun _ => ?_, fun h => absurd h (by omega)⟩
        have := word_at D P 0 hby
        simp only [Nat.mul_zero, Nat.add_zero] at this
        simp [this]
    | succ k ih =>
      intro hk
      obtain ⟨h1, h2⟩ := ih (by omega)
      obtain ⟨h3, h4⟩ := step_Jk h2 hby hn0 hn (by omega) hL
      rw [List.range_succ, List.flatMap_append, ← List.cons_append]
      simp only [List.flatMap_cons, List.flatMap_nil, List.append_nil]
      rw [runAll_append]
      exact ⟨okAll_append _ _ _ _ _ h1 h3, h4⟩
  exact key 32 (by omega)
end Go.Proofs.YtlolcgklcnechaaGreatDoor
