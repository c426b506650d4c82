/- Plain laws on worlds: a block that is known whole (Blk), and what a call keeps (Keep). No program here. Plain laws: rows of whole numbers, cells stored one behind the other, copy between blocks that are known whole. No program here. append of one value where there is room, for the walk. No program here. -/
import Derived.WalkKit
import Derived.Deep.Draws
import Derived.Laws.IdiomCopy
import Derived.Laws.CopyOwn
import Derived.ArgAppend
namespace Go.Proofs.YtlolcgklcnechaaGreatDoor
open Go.RowKit

/-- Block b holds exactly these cells, and none of them is frozen. -/
def Blk (w : World) (b : Nat) (cs : List Value) : Prop := ∃ T, w.heap[b]? = some (.cells cs.toArray T (0, 0))

/-- From w to w' no block below w's heap's size has turned but those of S; the streams stay. -/
structure Keep (S : List Nat) (w w' : World) : Prop where
  os : w'.os = w.os
  tape : w'.tape = w.tape
  output : w'.output = w.output
  size : w.heap.size ≤ w'.heap.size
  block : ∀ k, k < w.heap.size → k ∉ S → w'.heap[k]? = w.heap[k]?

theorem Blk.lt {w : World} {b : Nat} {cs : List Value} (h : Blk w b cs) : b < w.heap.size := by
  obtain ⟨T, h⟩ := h
  rcases Nat.lt_or_ge b w.heap.size with h' | h'
  · exact h'
  · simp [Array.getElem?_eq_none h'] at h

theorem Blk.cell {w : World} {b : Nat} {cs : List Value} (h : Blk w b cs) {i : Nat} {v : Value} (e : cs[i]? = some v) : w.cell? ⟨b, i, none⟩ = some v := by
  obtain ⟨T, h⟩ := h
  simp [World.cell?, h, e]

theorem Blk.frozen {w : World} {b : Nat} {cs : List Value} (h : Blk w b cs) (i : Nat) : w.frozen? ⟨b, i, none⟩ = false := by
  obtain ⟨T, h⟩ := h
  simp [World.frozen?, h]

theorem Blk.unfrozen {w : World} {b : Nat} {cs : List Value} (h : Blk w b cs) : ∀ i, w.frozen? ⟨b, i, none⟩ = false := h.frozen

theorem Blk.uniq {w : World} {b : Nat} {cs ds : List Value} (h : Blk w b cs) (k : Blk w b ds) : cs = ds := by
  obtain ⟨T, h⟩ := h
  obtain ⟨U, k⟩ := k
  rw [h] at k
  simp at k
  exact k.1

theorem Blk.set {w : World} {b : Nat} {cs : List Value} (h : Blk w b cs) (i : Nat) (v : Value) : Blk (w.setCell ⟨b, i, none⟩ v) b (cs.set i v) := by
  obtain ⟨T, h⟩ := h
  exact ⟨T, by simp only [World.setCell, Array.getElem?_modify, if_true, h]; simp⟩

theorem Blk.set_other {w : World} {b c : Nat} {cs : List Value} (h : Blk w b cs) (hne : b ≠ c) (i : Nat) (s : Option Nat) (v : Value) : Blk (w.setCell ⟨c, i, s⟩ v) b cs := by
  obtain ⟨T, h⟩ := h
  refine ⟨T, ?_⟩
  simp only [World.setCell, Array.getElem?_modify]
  rw [if_neg (Ne.symm hne)]
  exact h

theorem Blk.drew {w : World} {b : Nat} {cs : List Value} (h : Blk w b cs) : Blk w.drew b cs := h
theorem Blk.drewN {w : World} {b : Nat} {cs : List Value} (h : Blk w b cs) (n : Nat) : Blk (w.drewN n) b cs := h

theorem Blk.alloc {w : World} {b : Nat} {cs : List Value} (h : Blk w b cs) (o : Obj) : Blk (w.alloc o) b cs := by
  have hl := h.lt
  obtain ⟨T, h⟩ := h
  exact ⟨T, by rw [Below.heap_alloc _ _ _ hl]; exact h⟩

theorem Blk.new (w : World) (cs : List Value) (T : TypeId) : Blk (w.alloc (.cells cs.toArray T)) w.heap.size cs :=
  ⟨T, by show (w.heap.push _)[w.heap.size]? = _; simp⟩

theorem Blk.of_new {w : World} {b : Nat} {cs : List Value} {T : TypeId} (hb : b = w.heap.size) : Blk (w.alloc (.cells cs.toArray T)) b cs := by
  subst hb; exact Blk.new _ _ _

theorem Keep.refl (S : List Nat) (w : World) : Keep S w w := ⟨rfl, rfl, rfl, Nat.le_refl _, fun _ _ _ => rfl⟩

theorem Keep.trans {S S' : List Nat} {a b c : World} (h : Keep S a b) (k : Keep S' b c) (hs : ∀ x ∈ S', x ∈ S ∨ a.heap.size ≤ x) : Keep S a c :=
  ⟨k.os.trans h.os, k.tape.trans h.tape, k.output.trans h.output, Nat.le_trans h.size k.size, fun i hi hn =>
    (k.block i (Nat.lt_of_lt_of_le hi h.size) (fun hm => (hs i hm).elim hn (fun hle => absurd hi (by omega)))).trans (h.block i hi hn)⟩

theorem Keep.drew {S : List Nat} {a w : World} (h : Keep S a w) : Keep S a w.drew := ⟨h.os, h.tape, h.output, h.size, h.block⟩
theorem Keep.drewN {S : List Nat} {a w : World} (h : Keep S a w) (n : Nat) : Keep S a (w.drewN n) := ⟨h.os, h.tape, h.output, h.size, h.block⟩

theorem Keep.alloc {S : List Nat} {a w : World} (h : Keep S a w) (o : Obj) : Keep S a (w.alloc o) :=
  ⟨h.os, h.tape, h.output, by simp; exact Nat.le_succ_of_le h.size, fun k hk hn => by rw [Below.heap_alloc _ _ _ (Nat.lt_of_lt_of_le hk h.size)]; exact h.block k hk hn⟩

theorem Keep.set {S : List Nat} {a w : World} (h : Keep S a w) {b : Nat} (hb : b ∈ S ∨ a.heap.size ≤ b) (i : Nat) (s : Option Nat) (v : Value) : Keep S a (w.setCell ⟨b, i, s⟩ v) :=
  ⟨h.os, h.tape, h.output, by simpa using h.size, fun k hk hn => by
    rw [Below.heap_setCell _ _ _ _ (fun e => by subst e; exact hb.elim hn (fun hle => absurd hk (by simp at hle ⊢; omega)))]; exact h.block k hk hn⟩

theorem Keep.weaken {S S' : List Nat} {a w : World} (h : Keep S a w) (hs : ∀ x ∈ S, x ∈ S' ∨ a.heap.size ≤ x) : Keep S' a w :=
  (Keep.refl S' a).trans h hs

theorem Blk.keep {S : List Nat} {w w' : World} {b : Nat} {cs : List Value} (h : Blk w b cs) (k : Keep S w w') (hn : b ∉ S) : Blk w' b cs := by
  have hl := h.lt
  obtain ⟨T, h⟩ := h
  exact ⟨T, by rw [k.block b hl hn]; exact h⟩

theorem Keep.cell {S : List Nat} {w w' : World} (k : Keep S w w') {b i : Nat} {s : Option Nat} (hl : b < w.heap.size) (hn : b ∉ S) : w'.cell? ⟨b, i, s⟩ = w.cell? ⟨b, i, s⟩ :=
  World.cell?_of_block (w := w) (k.block b hl hn)

theorem Keep.cell_some {S : List Nat} {w w' : World} (k : Keep S w w') {p : Addr} {v : Value} (h : w.cell? p = some v) (hn : p.block ∉ S) : w'.cell? p = some v := by
  have hl := World.block_lt_of_cell? _ _ h
  rw [show w'.cell? p = w.cell? p from World.cell?_of_block (w := w) (k.block p.block hl hn)]
  exact h

theorem Keep.below {w w' : World} (k : Keep [] w w') : Below w.heap.size w w' := ⟨k.os, k.tape, k.output, k.size, fun i hi => k.block i hi (by simp)⟩
theorem Keep.of_below {S : List Nat} {w w' : World} (k : Below w.heap.size w w') : Keep S w w' := ⟨k.os, k.tape, k.output, k.size, fun i hi _ => k.block i hi⟩

end Go.Proofs.YtlolcgklcnechaaGreatDoor
namespace Go.Proofs.YtlolcgklcnechaaGreatDoor
open Go.RowKit

/-- Numbers as the cells of a kind. -/
def rowV (k : IntKind) (l : List Nat) : List Value := l.map fun (n : Nat) => .int k (n : Int)

@[simp] theorem length_rowV (k : IntKind) (l : List Nat) : (rowV k l).length = l.length := by simp [rowV]
theorem rowV_get {k : IntKind} {l : List Nat} {i n : Nat} (h : l[i]? = some n) : (rowV k l)[i]? = some (.int k (n : Int)) := by simp [rowV, h]
theorem rowV_append (k : IntKind) (l m : List Nat) : rowV k (l ++ m) = rowV k l ++ rowV k m := by simp [rowV]
theorem rowV_take (k : IntKind) (l : List Nat) (n : Nat) : rowV k (l.take n) = (rowV k l).take n := by simp [rowV]
theorem rowV_drop (k : IntKind) (l : List Nat) (n : Nat) : rowV k (l.drop n) = (rowV k l).drop n := by simp [rowV]
theorem rowV_set (k : IntKind) (l : List Nat) (i n : Nat) : rowV k (l.set i n) = (rowV k l).set i (.int k (n : Int)) := by simp [rowV, List.map_set]
theorem rowV_splice (k : IntKind) (l : List Nat) (o : Nat) (m : List Nat) : rowV k (splice l o m) = splice (rowV k l) o (rowV k m) := by simp [splice, rowV]
theorem rowV_replicate (k : IntKind) (n x : Nat) : rowV k (List.replicate n x) = List.replicate n (.int k (x : Int)) := by simp [rowV]
theorem rowV_inj {k : IntKind} {l m : List Nat} (h : rowV k l = rowV k m) : l = m := by
  unfold rowV at h
  induction l generalizing m with
  | nil => cases m <;> simp_all
  | cons a l ih => cases m with
    | nil => simp at h
    | cons b m => simp at h; obtain ⟨h1, h2⟩ := h; rw [ih h2]; simp; omega
theorem one_rowV (k : IntKind) (l : List Nat) : ∀ v ∈ rowV k l, v.oneCell' = true := by
  intro v hv
  simp [rowV] at hv
  obtain ⟨n, _, rfl⟩ := hv
  rfl

def setsAt {α : Type} (cs : List α) (o : Nat) : List α → List α
  | [] => cs
  | v :: r => setsAt (cs.set o v) (o + 1) r

theorem setsAt_splice {α : Type} : ∀ (vs cs : List α) (o : Nat), o + vs.length ≤ cs.length → setsAt cs o vs = splice cs o vs
  | [], cs, o, _ => by simp [setsAt, splice]
  | v :: r, cs, o, h => by
    simp at h
    rw [setsAt, setsAt_splice r _ _ (by simp; omega)]
    have h1 : (cs.set o v).take (o + 1) = cs.take o ++ [v] := by
      rw [List.take_succ_eq_append_getElem (by simp; omega), List.take_set_of_le (Nat.le_refl _)]
      simp
    have h2 : (cs.set o v).drop (o + 1 + r.length) = cs.drop (o + (r.length + 1)) := by
      rw [List.drop_set, if_pos (by omega), show o + 1 + r.length = o + (r.length + 1) by omega]
    simp only [splice, h1, h2, List.length_cons]
    simp

theorem Blk.setCells {w : World} {b : Nat} : ∀ {vs cs : List Value} {o : Nat}, Blk w b cs → o + vs.length ≤ cs.length → Blk (w.setCells b o vs) b (splice cs o vs) := by
  intro vs
  induction vs generalizing w with
  | nil => intro cs o h _; simpa [splice, World.setCells] using h
  | cons v r ih =>
    intro cs o h hl
    rw [← setsAt_splice _ _ _ hl, setsAt, World.setCells, setsAt_splice _ _ _ (by simp at *; omega)]
    exact ih (h.set o v) (by simp at *; omega)

theorem Blk.setCells_other {b c : Nat} {cs : List Value} {vs : List Value} (hn : b ≠ c) : ∀ {w : World} {o : Nat}, Blk w b cs → Blk (w.setCells c o vs) b cs := by
  induction vs with
  | nil => intro w o h; exact h
  | cons v r ih => intro w o h; exact ih (h.set_other hn _ _ _)

theorem Keep.setCells {S : List Nat} {a : World} {b : Nat} {vs : List Value} (hb : b ∈ S ∨ a.heap.size ≤ b) : ∀ {w : World} {o : Nat}, Keep S a w → Keep S a (w.setCells b o vs) := by
  induction vs with
  | nil => intro w o h; exact h
  | cons v r ih => intro w o h; exact ih (h.set hb _ _ _)

/-- copy between two blocks (or within one) that are known whole: all is read before anything is written. -/
theorem run_copy_blk {P : Program} {w : World} {g s : Nat} {cur scs : List Value} (hg : Blk w g cur) (hs : Blk w s scs) (dT sT ty elem : TypeId) (o so dLen dCap sLen sCap : Nat)
    (hu : P.underlying dT = some (.slice elem)) (hz : (P.info? elem).map (·.size) = some 1) (n : Nat) (hn : n = Nat.min sLen dLen)
    (hd : o + n ≤ cur.length) (hss : so + n ≤ scs.length) (h1 : ∀ v ∈ scs, v.oneCell' = true) :
    (Builtin.copy_ #[dT, sT] ty #[.slice (some ⟨g, o, none⟩) dLen dCap, .slice (some ⟨s, so, none⟩) sLen sCap]).run P w = .ok (.int .i64 n) (w.setCells g o ((scs.drop so).take n)) := by
  have hlen : ((scs.drop so).take n).length = n := by simp; omega
  have := run_copy_cells (P := P) w dT sT ty elem g o dLen dCap ⟨s, so, none⟩ sLen sCap ((scs.drop so).take n) hu hz (by rw [hlen, hn])
    (fun j v hj => by
      have hjn : j < n := by
        rcases Nat.lt_or_ge j n with h | h
        · exact h
        · rw [List.getElem?_eq_none (by rw [hlen]; exact h)] at hj; cases hj
      have hadd : (⟨s, so, none⟩ : Addr).add j = ⟨s, so + j, none⟩ := by unfold Addr.add; split <;> simp_all
      rw [hadd]
      refine hs.cell ?_
      rw [List.getElem?_take, if_pos hjn, List.getElem?_drop] at hj
      exact hj)
    (fun j hj => by
      rw [hlen] at hj
      rw [hg.cell (v := cur[o + j]'(by omega)) (by simp)]; rfl)
    (fun j _ => hg.frozen _)
    (fun v hv => h1 v (List.mem_of_mem_drop (List.mem_of_mem_take hv)))
  rw [this, hlen]
  rfl

/-- A number's lowest k bytes, the lowest first. -/
def leBytes : Nat → Nat → List Nat
  | 0, _ => []
  | k + 1, n => n % 256 :: leBytes k (n / 256)

@[simp] theorem length_leBytes : ∀ (k n : Nat), (leBytes k n).length = k
  | 0, _ => rfl
  | k + 1, n => by simp [leBytes, length_leBytes k]

/-- What bytes are as a number, the lowest first. -/
def leVal : List Nat → Nat
  | [] => 0
  | b :: l => b + 256 * leVal l

theorem leVal_lt : ∀ (l : List Nat), (∀ x ∈ l, x < 256) → leVal l < 256 ^ l.length
  | [], _ => by simp [leVal]
  | b :: l, h => by
    have h1 := h b (by simp)
    have h2 := leVal_lt l (fun x hx => h x (by simp [hx]))
    simp only [leVal, List.length_cons, Nat.pow_succ]
    omega

theorem leVal_leBytes : ∀ (k n : Nat), n < 256 ^ k → leVal (leBytes k n) = n
  | 0, n, h => by simp at h; simp [leBytes, leVal, h]
  | k + 1, n, h => by
    rw [leBytes, leVal, leVal_leBytes k (n / 256) (by rw [Nat.pow_succ] at h; omega)]
    omega

theorem leBytes_lt (k n : Nat) : ∀ x ∈ leBytes k n, x < 256 := by
  induction k generalizing n with
  | zero => simp [leBytes]
  | succ k ih =>
    intro x hx
    simp [leBytes] at hx
    rcases hx with rfl | hx
    · omega
    · exact ih _ x hx

theorem leBytes_leVal : ∀ (l : List Nat), (∀ x ∈ l, x < 256) → leBytes l.length (leVal l) = l
  | [], _ => rfl
  | b :: l, h => by
    have h1 := h b (by simp)
    have h2 := leBytes_leVal l (fun x hx => h x (by simp [hx]))
    simp only [List.length_cons, leBytes, leVal]
    rw [show (b + 256 * leVal l) % 256 = b by omega, show (b + 256 * leVal l) / 256 = leVal l by omega, h2]

theorem leBytes8 (n : Nat) : rowV .u8 (leBytes 8 n) = [.int .u8 ((n : Int) % 256), .int .u8 ((n : Int) / 256 % 256), .int .u8 ((n : Int) / 65536 % 256), .int .u8 ((n : Int) / 16777216 % 256),
    .int .u8 ((n : Int) / 4294967296 % 256), .int .u8 ((n : Int) / 1099511627776 % 256), .int .u8 ((n : Int) / 281474976710656 % 256), .int .u8 ((n : Int) / 72057594037927936 % 256)] := by
  simp [rowV, leBytes, Nat.div_div_eq_div_mul]

end Go.Proofs.YtlolcgklcnechaaGreatDoor
namespace Go.Proofs.YtlolcgklcnechaaGreatDoor
open Go.RowKit

theorem run_append_one {P : Program} (w : World) (t ty e : TypeId) (i : TypeInfo) (ht : P.underlying t = some (.slice e)) (hi : P.info? e = some i) (hz : i.size = 1)
    (g o n cap b bo c : Nat) (v : Value) (hv : w.cell? ⟨b, bo, none⟩ = some v) (h1 : v.oneCell' = true) (hn : n < cap) (hc : (w.cell? ⟨g, o + n, none⟩).isSome = true) (hf : w.frozen? ⟨g, o + n, none⟩ = false) :
    (Builtin.append_ #[t, t] ty #[.slice (some ⟨g, o, none⟩) n cap, .slice (some ⟨b, bo, none⟩) 1 c]).run P w = .ok (.slice (some ⟨g, o, none⟩) (n + 1) cap) (w.setCell ⟨g, o + n, none⟩ v) := by
  have := run_append_room_cells (P := P) w t ty e i ht hi g o n cap ⟨b, bo, none⟩ 1 c [v] (by simp [hz])
    (fun j u hj => by
      cases j with
      | zero => simp at hj; subst hj; simpa [Addr.add] using hv
      | succ j => simp at hj)
    (by simpa using h1) (by omega)
    (fun j hj => by have : j = 0 := by simpa using hj
                    subst this; simpa [hz] using hc)
    (fun j hj => by have : j = 0 := by simpa using hj
                    subst this; simpa [hz] using hf)
  simpa [hz, World.setCells] using this

theorem wpList_append_one {P : Program} {w : World} {ops : Array Oper} {rest : List Oper} {o : Oper} {a : Act} {Q : Exit → Act → World → Prop}
    (hgd : o.guard = none) (s x : Operand) (t : TypeId) (hop : o.op = Op.call { callee := Callee.builtin Builtin.append, args := #[s, x], argTypes := #[t, t] })
    (e : TypeId) (i : TypeInfo) (ht : P.underlying t = some (.slice e)) (hi : P.info? e = some i) (hz : i.size = 1)
    (g go n cap b bo c : Nat) (v : Value) (hs : a.eval s = .slice (some ⟨g, go, none⟩) n cap) (hx : a.eval x = .slice (some ⟨b, bo, none⟩) 1 c)
    (hv : w.cell? ⟨b, bo, none⟩ = some v) (h1 : v.oneCell' = true) (hn : n < cap) (hc : (w.cell? ⟨g, go + n, none⟩).isSome = true) (hf : w.frozen? ⟨g, go + n, none⟩ = false)
    (next : wpList P ops Q rest (a.put o.dst (.slice (some ⟨g, go, none⟩) (n + 1) cap)) (w.setCell ⟨g, go + n, none⟩ v)) :
    wpList P ops Q (o :: rest) a w := by
  refine wpList_plain hgd fun K hK' => ?_
  have hrun := run_append_one (P := P) w t o.type e i ht hi hz g go n cap b bo c v hv h1 hn hc hf
  unfold Oper.wp
  simp [execOp, hop, resolve, invoke, builtin, hs, hx, hrun, Result.andThen]
  exact hK' _ _ next

/-- The value to be appended has just been laid into a block of its own. -/
theorem wpList_push {P : Program} {W : World} {ops : Array Oper} {rest : List Oper} {o : Oper} {a : Act} {Q : Exit → Act → World → Prop} {v : Value} {T : TypeId}
    (hgd : o.guard = none) (s x : Operand) (t : TypeId) (hop : o.op = Op.call { callee := Callee.builtin Builtin.append, args := #[s, x], argTypes := #[t, t] })
    (e : TypeId) (i : TypeInfo) (ht : P.underlying t = some (.slice e)) (hi : P.info? e = some i) (hz : i.size = 1)
    (g go n cap B c : Nat) (cur : List Value) (hs : a.eval s = .slice (some ⟨g, go, none⟩) n cap) (hx : a.eval x = .slice (some ⟨B, 0, none⟩) 1 c)
    (hB : B = W.heap.size) (h1 : v.oneCell' = true) (hg : Blk W g cur) (hn : n < cap) (hgo : go + n < cur.length)
    (next : wpList P ops Q rest (a.put o.dst (.slice (some ⟨g, go, none⟩) (n + 1) cap)) ((W.alloc (.cells #[v] T)).setCell ⟨g, go + n, none⟩ v)) :
    wpList P ops Q (o :: rest) a (W.alloc (.cells #[v] T)) := by
  have hg' := hg.alloc (.cells #[v] T)
  refine wpList_append_one hgd s x t hop e i ht hi hz g go n cap B 0 c v hs hx ?_ h1 hn ?_ (hg'.frozen _) next
  · exact (Blk.of_new (cs := [v]) (T := T) hB).cell rfl
  · rw [hg'.cell (i := go + n) (v := cur[go + n]) (by simp)]; rfl
end Go.Proofs.YtlolcgklcnechaaGreatDoor
