/- Plain laws: rows of whole numbers, cells stored one behind the other, copy between blocks that are known whole. No program here. -/
import Derived.Test.YtlolcgklcnechaaGreatDoorBase
import Derived.Laws.IdiomCopy
import Derived.Laws.CopyOwn
namespace Go.Proofs.YtlolcgklcnechaaGreatDoor
open Go.RowKit

/-- Numbers as the cells of a kind. -/
def rowV (k : IntKind) (l : List Nat) : List Value := l.map fun (n : Nat) => .int k (n : Int)

@[simp] theorem length_rowV (k : IntKind) (l : List Nat) : (rowV k l).length = l.length := by simp [rowV]
theorem rowV_get {k : IntKind} {l : List Nat} {i n : Nat} (h : l[i]? = some n) : (rowV k l)[i]? = some (.int k (n : Int)) := by simp [rowV, h]
theorem rowV_append (k : IntKind) (l m : List Nat) : rowV k (l ++ m) = rowV k l ++ rowV k m := by simp [rowV]
theorem rowV_take (k : IntKind) (l : List Nat) (n : Nat) : rowV k (l.take n) = (rowV k l).take n := by simp [rowV]
theorem rowV_drop (k : IntKind) (l : List Nat) (n : Nat) : rowV k (l.drop n) = (rowV k l).drop n := by simp [rowV]
theorem rowV_set (k : IntKind) (l : List Nat) (i n : Nat) : rowV k (l.set i n) = (rowV k l).set i (.int k (n : Int)) := by simp [rowV, List.map_set]
theorem rowV_splice (k : IntKind) (l : List Nat) (o : Nat) (m : List Nat) : rowV k (splice l o m) = splice (rowV k l) o (rowV k m) := by simp [splice, rowV]
theorem rowV_replicate (k : IntKind) (n x : Nat) : rowV k (List.replicate n x) = List.replicate n (.int k (x : Int)) := by simp [rowV]
theorem rowV_inj {k : IntKind} {l m : List Nat} (h : rowV k l = rowV k m) : l = m := by
  unfold rowV at h
  induction l generalizing m with
  | nil => cases m <;> simp_all
  | cons a l ih => cases m with
    | nil => simp at h
    | cons b m => simp at h; obtain ⟨h1, h2⟩ := h; rw [ih h2]; simp; omega
theorem one_rowV (k : IntKind) (l : List Nat) : ∀ v ∈ rowV k l, v.oneCell' = true := by
  intro v hv
  simp [rowV] at hv
  obtain ⟨n, _, rfl⟩ := hv
  rfl

def setsAt {α : Type} (cs : List α) (o : Nat) : List α → List α
  | [] => cs
  | v :: r => setsAt (cs.set o v) (o + 1) r

theorem setsAt_splice {α : Type} : ∀ (vs cs : List α) (o : Nat), o + vs.length ≤ cs.length → setsAt cs o vs = splice cs o vs
  | [], cs, o, _ => by simp [setsAt, splice]
  | v :: r, cs, o, h => by
    simp at h
    rw [setsAt, setsAt_splice r _ _ (by simp; omega)]
    have h1 : (cs.set o v).take (o + 1) = cs.take o ++ [v] := by
      rw [List.take_succ_eq_append_getElem (by simp; omega), List.take_set_of_le (Nat.le_refl _)]
      simp
    have h2 : (cs.set o v).drop (o + 1 + r.length) = cs.drop (o + (r.length + 1)) := by
      rw [List.drop_set, if_pos (by omega), show o + 1 + r.length = o + (r.length + 1) by omega]
    simp only [splice, h1, h2, List.length_cons]
    simp

theorem Blk.setCells {w : World} {b : Nat} : ∀ {vs cs : List Value} {o : Nat}, Blk w b cs → o + vs.length ≤ cs.length → Blk (w.setCells b o vs) b (splice cs o vs) := by
  intro vs
  induction vs generalizing w with
  | nil => intro cs o h _; simpa [splice, World.setCells] using h
  | cons v r ih =>
    intro cs o h hl
    rw [← setsAt_splice _ _ _ hl, setsAt, World.setCells, setsAt_splice _ _ _ (by simp at *; omega)]
    exact ih (h.set o v) (by simp at *; omega)

theorem Blk.setCells_other {b c : Nat} {cs : List Value} {vs : List Value} (hn : b ≠ c) : ∀ {w : World} {o : Nat}, Blk w b cs → Blk (w.setCells c o vs) b cs := by
  induction vs with
  | nil => intro w o h; exact h
  | cons v r ih => intro w o h; exact ih (h.set_other hn _ _ _)

theorem Keep.setCells {S : List Nat} {a : World} {b : Nat} {vs : List Value} (hb : b ∈ S ∨ a.heap.size ≤ b) : ∀ {w : World} {o : Nat}, Keep S a w → Keep S a (w.setCells b o vs) := by
  induction vs with
  | nil => intro w o h; exact h
  | cons v r ih => intro w o h; exact ih (h.set hb _ _ _)

/-- copy between two blocks (or within one) that are known whole: all is read before anything is written. -/
theorem run_copy_blk {P : Program} {w : World} {g s : Nat} {cur scs : List Value} (hg : Blk w g cur) (hs : Blk w s scs) (dT sT ty elem : TypeId) (o so dLen dCap sLen sCap : Nat)
    (hu : P.underlying dT = some (.slice elem)) (hz : (P.info? elem).map (·.size) = some 1) (n : Nat) (hn : n = Nat.min sLen dLen)
    (hd : o + n ≤ cur.length) (hss : so + n ≤ scs.length) (h1 : ∀ v ∈ scs, v.oneCell' = true) :
    (Builtin.copy_ #[dT, sT] ty #[.slice (some ⟨g, o, none⟩) dLen dCap, .slice (some ⟨s, so, none⟩) sLen sCap]).run P w = .ok (.int .i64 n) (w.setCells g o ((scs.drop so).take n)) := by
  have hlen : ((scs.drop so).take n).length = n := by simp; omega
  have := run_copy_cells (P := P) w dT sT ty elem g o dLen dCap ⟨s, so, none⟩ sLen sCap ((scs.drop so).take n) hu hz (by rw [hlen, hn])
    (fun j v hj => by
      have hjn : j < n := by
        rcases Nat.lt_or_ge j n with h | h
        · exact h
        · rw [List.getElem?_eq_none (by rw [hlen]; exact h)] at hj; cases hj
      have hadd : (⟨s, so, none⟩ : Addr).add j = ⟨s, so + j, none⟩ := by unfold Addr.add; split <;> simp_all
      rw [hadd]
      refine hs.cell ?_
      rw [List.getElem?_take, if_pos hjn, List.getElem?_drop] at hj
      exact hj)
    (fun j hj => by
      rw [hlen] at hj
      rw [hg.cell (v := cur[o + j]'(by omega)) (by simp)]; rfl)
    (fun j _ => hg.frozen _)
    (fun v hv => h1 v (List.mem_of_mem_drop (List.mem_of_mem_take hv)))
  rw [this, hlen]
  rfl

/-- A number's lowest k bytes, the lowest first. -/
def leBytes : Nat → Nat → List Nat
  | 0, _ => []
  | k + 1, n => n % 256 :: leBytes k (n / 256)

@[simp] theorem length_leBytes : ∀ (k n : Nat), (leBytes k n).length = k
  | 0, _ => rfl
  | k + 1, n => by simp [leBytes, length_leBytes k]

/-- What bytes are as a number, the lowest first. -/
def leVal : List Nat → Nat
  | [] => 0
  | b :: l => b + 256 * leVal l

theorem leVal_lt : ∀ (l : List Nat), (∀ x ∈ l, x < 256) → leVal l < 256 ^ l.length
  | [], _ => by simp [leVal]
  | b :: l, h => by
    have h1 := h b (by simp)
    have h2 := leVal_lt l (fun x hx => h x (by simp [hx]))
    simp only [leVal, List.length_cons, Nat.pow_succ]
    omega

theorem leVal_leBytes : ∀ (k n : Nat), n < 256 ^ k → leVal (leBytes k n) = n
  | 0, n, h => by simp at h; simp [leBytes, leVal, h]
  | k + 1, n, h => by
    rw [leBytes, leVal, leVal_leBytes k (n / 256) (by rw [Nat.pow_succ] at h; omega)]
    omega

theorem leBytes_lt (k n : Nat) : ∀ x ∈ leBytes k n, x < 256 := by
  induction k generalizing n with
  | zero => simp [leBytes]
  | succ k ih =>
    intro x hx
    simp [leBytes] at hx
    rcases hx with rfl | hx
    · omega
    · exact ih _ x hx

theorem leBytes_leVal : ∀ (l : List Nat), (∀ x ∈ l, x < 256) → leBytes l.length (leVal l) = l
  | [], _ => rfl
  | b :: l, h => by
    have h1 := h b (by simp)
    have h2 := leBytes_leVal l (fun x hx => h x (by simp [hx]))
    simp only [List.length_cons, leBytes, leVal]
    rw [show (b + 256 * leVal l) % 256 = b by omega, show (b + 256 * leVal l) / 256 = leVal l by omega, h2]

theorem leBytes8 (n : Nat) : rowV .u8 (leBytes 8 n) = [.int .u8 ((n : Int) % 256), .int .u8 ((n : Int) / 256 % 256), .int .u8 ((n : Int) / 65536 % 256), .int .u8 ((n : Int) / 16777216 % 256),
    .int .u8 ((n : Int) / 4294967296 % 256), .int .u8 ((n : Int) / 1099511627776 % 256), .int .u8 ((n : Int) / 281474976710656 % 256), .int .u8 ((n : Int) / 72057594037927936 % 256)] := by
  simp [rowV, leBytes, Nat.div_div_eq_div_mul]

end Go.Proofs.YtlolcgklcnechaaGreatDoor
