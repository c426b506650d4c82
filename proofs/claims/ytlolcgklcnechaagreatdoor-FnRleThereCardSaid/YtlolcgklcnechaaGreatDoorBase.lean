/- Plain laws on worlds: a block that is known whole (Blk), and what a call keeps (Keep). No program here. -/
import Derived.WalkKit
import Derived.Deep.Draws
namespace Go.Proofs.YtlolcgklcnechaaGreatDoor
open Go.RowKit

/-- Block b holds exactly these cells, and none of them is frozen. -/
def Blk (w : World) (b : Nat) (cs : List Value) : Prop := ∃ T, w.heap[b]? = some (.cells cs.toArray T (0, 0))

/-- From w to w' no block below w's heap's size has turned but those of S; the streams stay. -/
structure Keep (S : List Nat) (w w' : World) : Prop where
  os : w'.os = w.os
  tape : w'.tape = w.tape
  output : w'.output = w.output
  size : w.heap.size ≤ w'.heap.size
  block : ∀ k, k < w.heap.size → k ∉ S → w'.heap[k]? = w.heap[k]?

theorem Blk.lt {w : World} {b : Nat} {cs : List Value} (h : Blk w b cs) : b < w.heap.size := by
  obtain ⟨T, h⟩ := h
  rcases Nat.lt_or_ge b w.heap.size with h' | h'
  · exact h'
  · simp [Array.getElem?_eq_none h'] at h

theorem Blk.cell {w : World} {b : Nat} {cs : List Value} (h : Blk w b cs) {i : Nat} {v : Value} (e : cs[i]? = some v) : w.cell? ⟨b, i, none⟩ = some v := by
  obtain ⟨T, h⟩ := h
  simp [World.cell?, h, e]

theorem Blk.frozen {w : World} {b : Nat} {cs : List Value} (h : Blk w b cs) (i : Nat) : w.frozen? ⟨b, i, none⟩ = false := by
  obtain ⟨T, h⟩ := h
  simp [World.frozen?, h]

theorem Blk.unfrozen {w : World} {b : Nat} {cs : List Value} (h : Blk w b cs) : ∀ i, w.frozen? ⟨b, i, none⟩ = false := h.frozen

theorem Blk.uniq {w : World} {b : Nat} {cs ds : List Value} (h : Blk w b cs) (k : Blk w b ds) : cs = ds := by
  obtain ⟨T, h⟩ := h
  obtain ⟨U, k⟩ := k
  rw [h] at k
  simp at k
  exact k.1

theorem Blk.set {w : World} {b : Nat} {cs : List Value} (h : Blk w b cs) (i : Nat) (v : Value) : Blk (w.setCell ⟨b, i, none⟩ v) b (cs.set i v) := by
  obtain ⟨T, h⟩ := h
  exact ⟨T, by simp only [World.setCell, Array.getElem?_modify, if_true, h]; simp⟩

theorem Blk.set_other {w : World} {b c : Nat} {cs : List Value} (h : Blk w b cs) (hne : b ≠ c) (i : Nat) (s : Option Nat) (v : Value) : Blk (w.setCell ⟨c, i, s⟩ v) b cs := by
  obtain ⟨T, h⟩ := h
  refine ⟨T, ?_⟩
  simp only [World.setCell, Array.getElem?_modify]
  rw [if_neg (Ne.symm hne)]
  exact h

theorem Blk.drew {w : World} {b : Nat} {cs : List Value} (h : Blk w b cs) : Blk w.drew b cs := h
theorem Blk.drewN {w : World} {b : Nat} {cs : List Value} (h : Blk w b cs) (n : Nat) : Blk (w.drewN n) b cs := h

theorem Blk.alloc {w : World} {b : Nat} {cs : List Value} (h : Blk w b cs) (o : Obj) : Blk (w.alloc o) b cs := by
  have hl := h.lt
  obtain ⟨T, h⟩ := h
  exact ⟨T, by rw [Below.heap_alloc _ _ _ hl]; exact h⟩

theorem Blk.new (w : World) (cs : List Value) (T : TypeId) : Blk (w.alloc (.cells cs.toArray T)) w.heap.size cs :=
  ⟨T, by show (w.heap.push _)[w.heap.size]? = _; simp⟩

theorem Blk.of_new {w : World} {b : Nat} {cs : List Value} {T : TypeId} (hb : b = w.heap.size) : Blk (w.alloc (.cells cs.toArray T)) b cs := by
  subst hb; exact Blk.new _ _ _

theorem Keep.refl (S : List Nat) (w : World) : Keep S w w := ⟨rfl, rfl, rfl, Nat.le_refl _, fun _ _ _ => rfl⟩

theorem Keep.trans {S S' : List Nat} {a b c : World} (h : Keep S a b) (k : Keep S' b c) (hs : ∀ x ∈ S', x ∈ S ∨ a.heap.size ≤ x) : Keep S a c :=
  ⟨k.os.trans h.os, k.tape.trans h.tape, k.output.trans h.output, Nat.le_trans h.size k.size, fun i hi hn =>
    (k.block i (Nat.lt_of_lt_of_le hi h.size) (fun hm => (hs i hm).elim hn (fun hle => absurd hi (by omega)))).trans (h.block i hi hn)⟩

theorem Keep.drew {S : List Nat} {a w : World} (h : Keep S a w) : Keep S a w.drew := ⟨h.os, h.tape, h.output, h.size, h.block⟩
theorem Keep.drewN {S : List Nat} {a w : World} (h : Keep S a w) (n : Nat) : Keep S a (w.drewN n) := ⟨h.os, h.tape, h.output, h.size, h.block⟩

theorem Keep.alloc {S : List Nat} {a w : World} (h : Keep S a w) (o : Obj) : Keep S a (w.alloc o) :=
  ⟨h.os, h.tape, h.output, by simp; exact Nat.le_succ_of_le h.size, fun k hk hn => by rw [Below.heap_alloc _ _ _ (Nat.lt_of_lt_of_le hk h.size)]; exact h.block k hk hn⟩

theorem Keep.set {S : List Nat} {a w : World} (h : Keep S a w) {b : Nat} (hb : b ∈ S ∨ a.heap.size ≤ b) (i : Nat) (s : Option Nat) (v : Value) : Keep S a (w.setCell ⟨b, i, s⟩ v) :=
  ⟨h.os, h.tape, h.output, by simpa using h.size, fun k hk hn => by
    rw [Below.heap_setCell _ _ _ _ (fun e => by subst e; exact hb.elim hn (fun hle => absurd hk (by simp at hle ⊢; omega)))]; exact h.block k hk hn⟩

theorem Keep.weaken {S S' : List Nat} {a w : World} (h : Keep S a w) (hs : ∀ x ∈ S, x ∈ S' ∨ a.heap.size ≤ x) : Keep S' a w :=
  (Keep.refl S' a).trans h hs

theorem Blk.keep {S : List Nat} {w w' : World} {b : Nat} {cs : List Value} (h : Blk w b cs) (k : Keep S w w') (hn : b ∉ S) : Blk w' b cs := by
  have hl := h.lt
  obtain ⟨T, h⟩ := h
  exact ⟨T, by rw [k.block b hl hn]; exact h⟩

theorem Keep.cell {S : List Nat} {w w' : World} (k : Keep S w w') {b i : Nat} {s : Option Nat} (hl : b < w.heap.size) (hn : b ∉ S) : w'.cell? ⟨b, i, s⟩ = w.cell? ⟨b, i, s⟩ :=
  World.cell?_of_block (w := w) (k.block b hl hn)

theorem Keep.cell_some {S : List Nat} {w w' : World} (k : Keep S w w') {p : Addr} {v : Value} (h : w.cell? p = some v) (hn : p.block ∉ S) : w'.cell? p = some v := by
  have hl := World.block_lt_of_cell? _ _ h
  rw [show w'.cell? p = w.cell? p from World.cell?_of_block (w := w) (k.block p.block hl hn)]
  exact h

theorem Keep.below {w w' : World} (k : Keep [] w w') : Below w.heap.size w w' := ⟨k.os, k.tape, k.output, k.size, fun i hi => k.block i hi (by simp)⟩
theorem Keep.of_below {S : List Nat} {w w' : World} (k : Below w.heap.size w w') : Keep S w w' := ⟨k.os, k.tape, k.output, k.size, fun i hi _ => k.block i hi⟩

end Go.Proofs.YtlolcgklcnechaaGreatDoor
