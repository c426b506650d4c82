/- Plain laws on machine numbers, bits and packed values. No program here. A region that draws its order, with ONE operation that acts: what stands ahead of it only reads, what stands behind it only reads. One walk in the order of the text serves every order. No program here. -/
import Derived.Test.YtlolcgklcnechaaGreatDoorBase
import Derived.Laws.BitsAllLaws
import Derived.Laws.Bits64
import Derived.StillTail
import Derived.Tactics
namespace Go.Proofs.YtlolcgklcnechaaGreatDoor
open Go.RowKit

theorem mul_two_pow_mod (v i : Nat) (hi : i ≤ 64) : v * 2 ^ i % 18446744073709551616 = v % 2 ^ (64 - i) * 2 ^ i := by
  rw [show 18446744073709551616 = 2 ^ (64 - i) * 2 ^ i by rw [← Nat.pow_add, show 64 - i + i = 64 by omega]]
  exact Nat.mul_mod_mul_right _ _ _

theorem acc_lt (x v i : Nat) (hx : x < 2 ^ i) (hi : i ≤ 64) : x + v % 2 ^ (64 - i) * 2 ^ i < 18446744073709551616 := by
  have h1 : v % 2 ^ (64 - i) < 2 ^ (64 - i) := Nat.mod_lt _ (Nat.two_pow_pos _)
  have h2 : (v % 2 ^ (64 - i) + 1) * 2 ^ i ≤ 2 ^ (64 - i) * 2 ^ i := Nat.mul_le_mul_right _ h1
  rw [← Nat.pow_add, show 64 - i + i = 64 by omega] at h2
  rw [Nat.add_mul] at h2
  have : (2 : Nat) ^ 64 = 18446744073709551616 := rfl
  omega

theorem acc_mod (x v i : Nat) (hx : x < 2 ^ i) (hi : i ≤ 64) : (x + v * 2 ^ i) % 18446744073709551616 = x + v % 2 ^ (64 - i) * 2 ^ i := by
  rw [Nat.add_mod, mul_two_pow_mod v i hi]
  have h := acc_lt x v i hx hi
  rw [Nat.mod_eq_of_lt (a := x) (by omega), Nat.mod_eq_of_lt h]

/-- A value's bits behind those of an accumulator (Go's acc | v << i). -/
theorem or_acc (x v i : Nat) (hx : x < 2 ^ i) (hi : i ≤ 64) :
    bits .or .u64 (x : Int) (IntKind.u64.wrap ((v : Int) * 2 ^ i)) = (((x + v * 2 ^ i) % 18446744073709551616 : Nat) : Int) := by
  have e : IntKind.u64.wrap ((v : Int) * 2 ^ i) = ((v * 2 ^ i % 18446744073709551616 : Nat) : Int) := by
    rw [IntKind.wrap_u64, Int.natCast_emod, Int.natCast_mul, Int.natCast_pow]; rfl
  have h := acc_lt x v i hx hi
  have h0 : (2 : Nat) ^ i ≤ 2 ^ 64 := Nat.pow_le_pow_right (by omega) hi
  have h64 : (2 : Nat) ^ 64 = 18446744073709551616 := rfl
  rw [e, u64_or_nat _ _ (by omega) (Nat.mod_lt _ (by omega)), acc_mod x v i hx hi, mul_two_pow_mod v i hi, Nat.or_comm,
    nat_join i _ _ (Nat.mul_mod_left _ _) hx, Nat.add_comm]

/-- Values of a width as one number, the first lowest. -/
def packN (w : Nat) : List Nat → Nat
  | [] => 0
  | v :: l => v + 2 ^ w * packN w l

theorem packN_lt {w : Nat} : ∀ {l : List Nat}, (∀ v ∈ l, v < 2 ^ w) → packN w l < 2 ^ (w * l.length)
  | [], _ => by simp [packN]
  | v :: l, h => by
    have h1 := h v (by simp)
    have h2 := packN_lt (l := l) (fun x hx => h x (by simp [hx]))
    have h3 : 2 ^ w * (packN w l + 1) ≤ 2 ^ w * 2 ^ (w * l.length) := Nat.mul_le_mul_left _ h2
    rw [← Nat.pow_add] at h3
    simp only [packN, List.length_cons]
    rw [show w * (l.length + 1) = w + w * l.length by rw [Nat.mul_add]; omega]
    rw [Nat.mul_add] at h3
    omega

theorem packN_append (w : Nat) : ∀ (l m : List Nat), packN w (l ++ m) = packN w l + 2 ^ (w * l.length) * packN w m
  | [], m => by simp [packN]
  | v :: l, m => by
    simp only [List.cons_append, packN, packN_append w l m, List.length_cons]
    rw [show w * (l.length + 1) = w + w * l.length by rw [Nat.mul_add]; omega, Nat.pow_add]
    rw [Nat.mul_add, Nat.mul_assoc]
    omega

theorem packN_replicate_zero (w n : Nat) : packN w (List.replicate n 0) = 0 := by
  induction n with
  | zero => rfl
  | succ n ih => simp [List.replicate_succ, packN, ih]

theorem packN_get {w : Nat} : ∀ {l : List Nat} {i v : Nat}, (∀ v ∈ l, v < 2 ^ w) → l[i]? = some v → packN w l / 2 ^ (w * i) % 2 ^ w = v
  | [], i, v, _, h => by simp at h
  | a :: l, 0, v, hl, h => by
    simp at h
    subst h
    simp only [packN, Nat.mul_zero, Nat.pow_zero, Nat.div_one, Nat.add_mul_mod_self_left]
    exact Nat.mod_eq_of_lt (hl a (by simp))
  | a :: l, i + 1, v, hl, h => by
    simp at h
    rw [← packN_get (l := l) (i := i) (fun x hx => hl x (by simp [hx])) h]
    have ha := hl a (by simp)
    simp only [packN]
    rw [show w * (i + 1) = w + w * i by rw [Nat.mul_add]; omega, Nat.pow_add, ← Nat.div_div_eq_div_mul, Nat.add_mul_div_left _ _ (Nat.two_pow_pos w), Nat.div_eq_of_lt ha, Nat.zero_add]

end Go.Proofs.YtlolcgklcnechaaGreatDoor
namespace Go.Proofs.YtlolcgklcnechaaGreatDoor

section
variable {P : Program} {ops : Array Oper} {md : Region.Mode}

/-- Every operation behind n waits for n, or for one behind n that does. -/
def rootB (md : Region.Mode) (ops : Array Oper) (n : Nat) : Bool :=
  (List.range ops.size).all fun t => decide (t ≤ n) || (List.range t).any fun s => decide (n ≤ s) && Region.waitsFor md ops t s

theorem none_early {n : Nat} {listed : Array Bool} (hs : Region.sinkB md ops n = true) (hroot : rootB md ops n = true) (hn : n < ops.size) (inv : HeadInv md ops n listed)
    (i : Nat) (hi : i < n) (hun : listed.getD i true = false) (t : Nat) (ht : n ≤ t) : t ∉ Region.ready md ops listed := by
  intro hr
  obtain ⟨_, ot, hot, hall⟩ := mem_ready.1 hr
  have htl : t < ops.size := (Array.getElem?_eq_some_iff.1 hot).1
  have waits : ∀ s, Region.waitsFor md ops t s = true → listed.getD s true = false → False := fun s hw hu => by
    obtain ⟨o', ho', e, he, hb, hon⟩ := Region.waitsFor_spec hw
    obtain rfl : o' = ot := Option.some.inj (ho'.symm.trans hot)
    have h := hall e he hb
    rw [hon, getD_both hu] at h
    cases h
  rcases Nat.eq_or_lt_of_le ht with rfl | hlt
  · -- 'n' itself: it waits for each of those ahead, by a chain
    have key : ∀ d j, n - j = d → j < n → listed.getD j true = false → False := by
      intro d
      induction d using Nat.strongRecOn with
      | _ d ih =>
        intro j hd hj huj
        obtain ⟨k, hk, hk2⟩ := List.any_eq_true.1 (List.all_eq_true.1 hs j (List.mem_range.2 hj))
        simp only [Bool.and_eq_true, decide_eq_true_eq] at hk2
        have hkn := List.mem_range.1 hk
        by_cases hkn' : k = n
        · subst hkn'; exact waits j hk2.2 huj
        · obtain ⟨ok, hok, e, he, hb, hon⟩ := Region.waitsFor_spec hk2.2
          cases hl : listed.getD k false with
          | true =>
            have h := inv.closed k ok hok hl e he hb
            rw [hon, getD_both huj] at h
            cases h
          | false => exact ih (n - k) (by omega) k rfl (by omega) (getD_in (by rw [inv.size]; omega) hl)
    exact key _ i rfl hi hun
  · have h := List.all_eq_true.1 hroot t (List.mem_range.2 htl)
    simp only [Bool.or_eq_true, decide_eq_true_eq] at h
    rcases h with h | h
    · omega
    · obtain ⟨s, hs1, hs2⟩ := List.any_eq_true.1 h
      simp only [Bool.and_eq_true, decide_eq_true_eq] at hs2
      have := List.mem_range.1 hs1
      exact waits s hs2.2 (inv.tail s hs2.1 (by omega))

theorem head_first {w : World} {n i : Nat} {oi : Oper} {v : Value} {L : Array Bool → Act → Prop} (hi : ops[i]? = some oi) (hsel : Region.noSelect ops = true)
    (hwait : ∀ listed, HeadInv md ops n listed → ∀ i, i < n → listed.getD i true = false → ∀ t, n ≤ t → t ∉ Region.ready md ops listed) (hin : i < n)
    (hdone : ∀ listed a, L listed a → ∀ j ∈ Region.ready md ops listed, n ≤ j) :
    ∀ (f : Nat) (listed : Array Bool) (a : Act), HeadInv md ops n listed →
      (∀ j oj, ops[j]? = some oj → j ≠ i → listed.getD j true = false → (∀ e ∈ oj.after, Region.binds md e = true → e.on ≠ i) → oi.apart ops oj = true) →
      i ∈ Region.ready md ops listed → YieldsAt P ops w oi v a →
      wpAnyL P md ops w n L f (listed.setIfInBounds i true) (a.put oi.dst v) → wpAnyL P md ops w n L (f + 1) listed a := by
  intro f
  induction f with
  | zero =>
    intro listed a inv _ hr hy H
    refine ⟨List.ne_nil_of_mem hr, fun j hj => ?_⟩
    have hjn : j < n := Nat.lt_of_not_le fun h => hwait _ inv i hin (mem_ready.1 hr).1 j h hj
    refine ⟨hjn, ?_⟩
    by_cases hji : j = i
    · subst hji; exact hy.stOp hi H
    · exact absurd (hdone _ _ H j (ready_mono hj hji)) (by omega)
  | succ f ih =>
    intro listed a inv hfree hr hy H
    refine ⟨List.ne_nil_of_mem hr, fun j hj => ?_⟩
    have hun := (mem_ready.1 hr).1
    have hjn : j < n := Nat.lt_of_not_le fun h => hwait _ inv i hin hun j h hj
    refine ⟨hjn, ?_⟩
    by_cases hji : j = i
    · subst hji; exact hy.stOp hi H
    · obtain ⟨hjun, oj, hoj, hall⟩ := mem_ready.1 hj
      have hno : ∀ e ∈ oj.after, Region.binds md e = true → e.on ≠ i := fun e he hb heq => by
        have h := hall e he hb
        rw [heq, getD_both hun] at h
        cases h
      have h2 := stOp_put hoj (hfree j oj hoj hji hjun hno) (fun cs b => Region.noSelect_spec hsel i oi cs b hi) (fun cs b => Region.noSelect_spec hsel j oj cs b hoj) hy (H.2 j (ready_mono hj hji)).2
      refine stOp_mono (fun a' h3 => ih _ a' (inv.set hj hjn) (fun k ok hk hki hu hn => hfree k ok hk hki ?_ hn) (ready_mono hr (Ne.symm hji)) h3.1 ?_) h2
      · by_cases hjk : j = k
        · subst hjk; exact hjun
        · rwa [getD_set_ne true hjk] at hu
      · rw [Array.setIfInBounds_comm _ _ hji]; exact h3.2

/-- The order of the text up to n; there n alone may come up; then the order of the text again. -/
def midFrom (md : Region.Mode) (ops : Array Oper) (n : Nat) : Nat → Nat → Array Bool → Bool
  | 0, _, listed => decide (Region.ready md ops listed = [n]) && Region.lexFrom md ops (ops.size - (n + 1)) (n + 1) (listed.setIfInBounds n true)
  | f + 1, k, listed => (Region.ready md ops listed).contains k && Region.free md ops listed k && midFrom md ops n f (k + 1) (listed.setIfInBounds k true)

def midB (md : Region.Mode) (ops : Array Oper) (n : Nat) : Bool :=
  Region.noSelect ops && decide (n < ops.size) && Region.sinkB md ops n && rootB md ops n && midFrom md ops n n 0 (Array.replicate ops.size false)

theorem head_lex {w : World} {n : Nat} {Lq : Act → Prop} (hsel : Region.noSelect ops = true)
    (hwait : ∀ listed, HeadInv md ops n listed → ∀ i, i < n → listed.getD i true = false → ∀ t, n ≤ t → t ∉ Region.ready md ops listed) :
    ∀ (l : List Oper) (k : Nat) (listed : Array Bool) (a : Act), (∀ j, j < l.length → l[j]? = ops[k + j]?) → k + l.length = n → HeadInv md ops n listed →
    midFrom md ops n l.length k listed = true → wpStill P ops w Lq l a →
    wpAnyL P md ops w n (fun listed' a' => midFrom md ops n 0 n listed' = true ∧ Lq a') l.length listed a
  | [], k, listed, a, _, hk, _, hB, h => ⟨by simpa [midFrom] using hB, h⟩
  | o :: l, k, listed, a, hl, hk, inv, hB, h => by
    have h0 : ops[k]? = some o := by simpa using (hl 0 (by simp)).symm
    simp only [List.length_cons, midFrom, Bool.and_eq_true] at hB
    have hkn : k < n := by simp only [List.length_cons] at hk; omega
    have hr : k ∈ Region.ready md ops listed := by simpa using hB.1.1
    obtain ⟨v, hy, hK⟩ := yieldsAt_of_stOp h0 (show stOp P ops w k (wpStill P ops w Lq l) a by unfold stOp; simp only [h0]; exact h)
    refine head_first h0 hsel hwait hkn (fun listed' a' hL j hj => ?_) l.length listed a inv (Region.free_spec h0 hB.1.2) hr hy
      (head_lex hsel hwait l (k + 1) _ _ (fun j hj => by have := hl (j + 1) (by simp; omega); simpa [Nat.add_assoc, Nat.add_comm 1 j] using this)
        (by simp only [List.length_cons] at hk; omega) (inv.set hr hkn) hB.2 hK)
    have h1 := hL.1
    simp only [midFrom, Bool.and_eq_true, decide_eq_true_eq] at h1
    rw [h1.1] at hj
    have : j = n := by simpa using hj
    omega

theorem Oper.wp_exit {o : Oper} {a : Act} {w : World} {K : Act → World → Prop} {Q Q' : Exit → Act → World → Prop} (hQ : ∀ e a w, e ≠ .normal → Q' e a w → Q e a w) (h : o.wp P a w K Q') : o.wp P a w K Q := by
  unfold Oper.wp at *
  generalize (execOp a.eval o).run P w = r at *
  cases r with
  | ok n w' =>
    cases n <;> simp only [Oper.upon] at h ⊢
    case enter f args =>
      refine h.mono fun e w'' he => ?_
      cases e with
      | returned v => exact he
      | panicked c => exact hQ _ _ _ (by simp) he
      | outgrown => obtain ⟨a0, w0, h0⟩ := he; exact ⟨a0, w0, hQ _ _ _ (by simp) h0⟩
    all_goals exact h
  | halt x w' =>
    cases x <;> simp only [Oper.upon] at h ⊢
    exact hQ _ _ _ (by simp) h

/-- **A region that draws its order and holds one operation that acts**, number n. -/
theorem wp_region_mid {id : Nat} {Q : Exit → Act → World → Prop} {a : Act} {w : World} {l : List Oper} (n : Nat) (hm : P.follows .mixedOrders = true) (hB : midB .any l.toArray n = true)
    (h : wpStill P l.toArray w.drew (fun a' => wpList P l.toArray (Exit.then (fun a2 w2 => wpStill P l.toArray w2 (fun a3 => Q .normal a3 w2) (l.drop (n + 1)) a2) Q) ((l.drop n).take 1) a' w.drew) (l.take n) a) :
    (Code.region id l.toArray true).wp P Q a w := by
  simp only [midB, Bool.and_eq_true, decide_eq_true_eq] at hB
  obtain ⟨⟨⟨⟨hsel, hn⟩, hs⟩, hroot⟩, hmid⟩ := hB
  have hn' : n < l.length := by simpa using hn
  have htl : (l.take n).length = n := by simp; omega
  have inv0 : HeadInv .any l.toArray n (Array.replicate l.toArray.size false) :=
    ⟨by simp, fun j oj _ hl => (by rw [getD_replicate_false] at hl; cases hl), fun t _ ht => getD_in (by simpa using ht) (getD_replicate_false _ _)⟩
  have H := head_lex (md := .any) hsel (fun listed inv i hi hun t ht => none_early hs hroot hn inv i hi hun t ht) (l.take n) 0 _ a (fun j hj => by
    have hj' : j < n := by rw [htl] at hj; exact hj
    simp [hj']) (by simpa using htl) inv0 (by rw [htl]; exact hmid) h
  refine wp_region_any hm ?_
  have := wpAny_of_head (Q' := Q) (g := l.toArray.size - n) (fun listed a' hL => by
    obtain ⟨h1, h2⟩ := hL
    simp only [midFrom, Bool.and_eq_true, decide_eq_true_eq] at h1
    obtain ⟨hr, hlex⟩ := h1
    rw [show l.toArray.size - n = (l.toArray.size - (n + 1)) + 1 by simp; omega]
    refine ⟨fun h0 => (by rw [hr] at h0; cases h0), fun i hi => ?_⟩
    rw [hr] at hi
    obtain rfl : i = n := by simpa using hi
    have e1 : (l.drop i).take 1 = [l[i]] := by
      rw [List.drop_eq_getElem_cons hn']; rfl
    rw [e1] at h2
    have hop : l.toArray[i]? = some l[i] := by simp [hn']
    have fin : ∀ a2 w2, wpStill P l.toArray w2 (fun a3 => Q .normal a3 w2) (l.drop (i + 1)) a2 →
        wpAny P .any l.toArray Q (l.toArray.size - (i + 1)) (listed.setIfInBounds i true) a2 w2 := fun a2 w2 hst => by
      refine wpAny_of_still (Q := fun a3 => Q .normal a3 w2) (fun _ h => h) _ _ _ ?_
      have := wpAnyS_lex (md := .any) (w := w2) hsel (l.drop (i + 1)) (i + 1) (listed.setIfInBounds i true) a2 (fun j => by simp [List.getElem?_drop]) (by simpa using hlex) hst
      simpa using this
    unfold wpOp
    simp only [hop]
    unfold wpList at h2
    split
    · rename_i hw
      simp only [hw, if_true] at h2
      rcases h2 with h2 | ⟨hask, a0, w0, h0⟩
      · exact .inl (Oper.wp_exit (fun e a w he hq => by cases e <;> first | exact absurd rfl he | exact hq) (Oper.wp_mono (fun a2 w2 hk => fin a2 w2 hk) h2))
      · exact .inr ⟨hask, a0, w0, h0⟩
    · rename_i hw
      simp only [hw] at h2
      exact fin _ _ h2) _ _ _ H
  rw [htl, show n + (l.toArray.size - n) = l.toArray.size by simp; omega] at this
  exact this
end
end Go.Proofs.YtlolcgklcnechaaGreatDoor
