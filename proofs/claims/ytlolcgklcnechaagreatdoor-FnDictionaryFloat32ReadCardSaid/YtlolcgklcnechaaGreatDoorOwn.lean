/- Plain law: a slice of numbers of the call's own that grows by append. No walk here. -/
import Derived.Test.YtlolcgklcnechaaGreatDoorE6
import Derived.Deep.AppendSrc
import Derived.Deep.Upon
set_option linter.unusedVariables false
namespace Go.Proofs.YtlolcgklcnechaaGreatDoor
open Go.RowKit

/-- A slice of numbers that the call itself has made: none yet, or a row in a block from lo on that is none of those to be avoided. -/
def GrowS (lo : Nat) (avoid : List Nat) (w : World) (v : Value) (k : IntKind) (vs : List Nat) : Prop :=
  (v = .slice none 0 0 ∧ vs = []) ∨ ∃ g c cs, v = .slice (some ⟨g, 0, none⟩) vs.length c ∧ lo ≤ g ∧ g ∉ avoid ∧ Blk w g cs ∧ cs.length = c ∧ cs.take vs.length = rowV k vs ∧ vs.length ≤ c

theorem GrowS.keep {lo : Nat} {avoid S : List Nat} {w w' : World} {v : Value} {k : IntKind} {vs : List Nat} (h : GrowS lo avoid w v k vs) (kk : Keep S w w') (hS : ∀ b ∈ S, b ∈ avoid ∨ b < lo) : GrowS lo avoid w' v k vs := by
  rcases h with h | ⟨g, c, cs, h1, h2, h3, h4, h5⟩
  · exact .inl h
  · exact .inr ⟨g, c, cs, h1, h2, h3, h4.keep kk (fun hm => (hS g hm).elim h3 (fun hl => by omega)), h5⟩

theorem GrowS.avoid {lo : Nat} {avoid avoid' : List Nat} {w : World} {v : Value} {k : IntKind} {vs : List Nat} (h : GrowS lo avoid w v k vs) (hS : ∀ b ∈ avoid', b ∈ avoid ∨ w.heap.size ≤ b) : GrowS lo avoid' w v k vs := by
  rcases h with h | ⟨g, c, cs, h1, h2, h3, h4, h5⟩
  · exact .inl h
  · have := h4.lt
    exact .inr ⟨g, c, cs, h1, h2, fun hm => (hS g hm).elim h3 (fun hl => by omega), h4, h5⟩

theorem GrowS.row {lo : Nat} {avoid : List Nat} {w : World} {v : Value} {k : IntKind} {vs : List Nat} (h : GrowS lo avoid w v k vs) : RowAt w v k vs := by
  rcases h with h | ⟨g, c, cs, h1, h2, h3, h4, h5, h6, h7⟩
  · exact .inl h
  · refine .inr ⟨⟨g, 0, none⟩, c, h1, h7, fun i x hi => ?_⟩
    have hil : i < vs.length := (List.getElem?_eq_some_iff.1 hi).1
    have := rowV_get (k := k) hi
    rw [← h6, List.getElem?_take, if_pos hil] at this
    rw [add_at, Nat.zero_add]
    exact h4.cell this

theorem GrowS.append {P : Program} {lo : Nat} {avoid : List Nat} {w : World} {v : Value} {k : IntKind} {vs : List Nat} (t ty e : TypeId) (i : TypeInfo) (bytes : Nat) (ht : P.underlying t = some (.slice e)) (hi : P.info? e = some i)
    (hz : i.zero = some (.int k 0)) (hsize : i.size = 1) (hby : i.bytes = bytes) (h : GrowS lo avoid w v k vs) (hlo : lo ≤ w.heap.size) (hav : ∀ b ∈ avoid, b < w.heap.size) (x : Value) (news : List Nat)
    (hs : Src P 1 t x news.length (rowV k news) w) (hb : (vs.length + news.length) * bytes ≤ 140737488355328) (h63 : vs.length + news.length ≤ 1000000000000) :
    ∃ v' w' S, (Builtin.append_ #[t, t] ty #[v, x]).run P w = .ok v' w' ∧ GrowS lo avoid w' v' k (vs ++ news) ∧ Keep S w w' ∧ (∀ b ∈ S, lo ≤ b ∧ b ∉ avoid) := by
  have hs' : Src P i.size t x news.length (rowV k news) w := by rw [hsize]; exact hs
  have grow : ∀ (base : Option Addr) (c : Nat), c < vs.length + news.length → (Builtin.firstCells i.size vs.length (.slice base vs.length c)).run P w.drew = .ok (rowV k vs).toArray w.drew →
      ∃ v' w' S, (Builtin.append_ #[t, t] ty #[.slice base vs.length c, x]).run P w = .ok v' w' ∧ GrowS lo avoid w' v' k (vs ++ news) ∧ Keep S w w' ∧ (∀ b ∈ S, lo ≤ b ∧ b ∉ avoid) := by
    intro base c hc hold
    have hrun := run_append_grow_src (P := P) w t t ty e i (.int k 0) ht hi hz base vs.length c (rowV k vs) hold x news.length (rowV k news) hs' hc (by omega) (growslice_fits hc (by rw [hby]; exact hb))
    have hge := grownCap_ge w (vs.length + news.length) c e
    refine ⟨_, _, [], hrun, .inr ⟨w.heap.size, _, ((rowV k vs ++ rowV k news).toArray ++ Builtin.zeroCells (Value.int k 0).cells (grownCap w (vs.length + news.length) c e - (vs.length + news.length))).toList, by rw [List.length_append], hlo, fun hm => absurd (hav _ hm) (by omega), ?_, ?_, ?_, ?_⟩, ((Keep.refl [] w).drew).alloc _, by simp⟩
    · have := Blk.new w.drew ((rowV k vs ++ rowV k news).toArray ++ Builtin.zeroCells (Value.int k 0).cells (grownCap w (vs.length + news.length) c e - (vs.length + news.length))).toList e
      rw [Array.toArray_toList] at this
      exact this
    · rw [Array.length_toList, Array.size_append, List.size_toArray, size_zeroCells, List.length_append, length_rowV, length_rowV]
      rw [show (Value.int k 0).cells.size = 1 from rfl]; omega
    · rw [rowV_append, Array.toList_append, List.toList_toArray, List.take_left' (by simp)]
    · rw [List.length_append]; exact hge
  rcases h with ⟨rfl, rfl⟩ | ⟨g, c, cs, rfl, h2, h3, h4, h5, h6, h7⟩
  · by_cases hn : news = []
    · subst hn
      refine ⟨_, _, [], run_append_nothing (P := P) w t t ty e i ht hi none 0 0 (Nat.le_refl _) x hs', .inl ⟨rfl, rfl⟩, Keep.refl _ _, by simp⟩
    · have hpos : 0 < news.length := List.length_pos_iff.2 hn
      exact grow none 0 (by simpa using hpos) (run_firstCells_none w.drew i.size 0 0 0)
  · by_cases hfit : vs.length + news.length ≤ c
    · have hrun := run_append_room_src (P := P) w t t ty e i ht hi g 0 vs.length c x news.length (rowV k news) hs' hfit
        (fun j hj => by
          rw [length_rowV] at hj
          rw [hsize, h4.cell (i := 0 + vs.length * 1 + j) (v := cs[0 + vs.length * 1 + j]'(by omega)) (by simp)]; rfl)
        (fun j hj => h4.frozen _)
      rw [hsize, Nat.zero_add, Nat.mul_one] at hrun
      refine ⟨_, _, [g], hrun, .inr ⟨g, c, splice cs vs.length (rowV k news), by rw [List.length_append], h2, h3, h4.setCells (by simp; omega), by rw [length_splice _ _ _ (by simp; omega)]; exact h5, ?_, by rw [List.length_append]; exact hfit⟩, Keep.setCells (by simp) (Keep.refl _ _), by
        intro b hb
        simp at hb
        subst hb
        exact ⟨h2, h3⟩⟩
      rw [rowV_append]
      unfold splice
      rw [h6, ← List.append_assoc, List.take_left' (by simp)]
    · refine grow _ c (by omega) (run_firstCells_some w.drew i.size vs.length ⟨g, 0, none⟩ vs.length c (rowV k vs) (by rw [hsize]; simp) (fun j u hu => ?_))
      have hj : j < vs.length := by
        have := (List.getElem?_eq_some_iff.1 hu).1
        simpa using this
      rw [add_at, Nat.zero_add]
      rw [← h6, List.getElem?_take, if_pos hj] at hu
      exact h4.drew.cell hu

/-- .. at a walk's step. -/
theorem wpList_append_grow {P : Program} {lo : Nat} {avoid : List Nat} {w : World} {v : Value} {k : IntKind} {vs : List Nat} {ops : Array Oper} {rest : List Oper} {o : Oper} {a : Act} {Q : Exit → Act → World → Prop} (hgd : o.guard = none) (s x : Operand) (t e : TypeId)
    (ho : o.op = .call { callee := .builtin .append, args := #[s, x], argTypes := #[t, t] }) (i : TypeInfo) (bytes : Nat) (ht : P.underlying t = some (.slice e)) (hi : P.info? e = some i)
    (hz : i.zero = some (.int k 0)) (hsize : i.size = 1) (hby : i.bytes = bytes) (hv : a.eval s = v) (h : GrowS lo avoid w v k vs) (hlo : lo ≤ w.heap.size) (hav : ∀ b ∈ avoid, b < w.heap.size) (xv : Value) (news : List Nat)
    (hx : a.eval x = xv) (hs : Src P 1 t xv news.length (rowV k news) w) (hb : (vs.length + news.length) * bytes ≤ 140737488355328) (h63 : vs.length + news.length ≤ 1000000000000)
    (hK : ∀ v' w' S, GrowS lo avoid w' v' k (vs ++ news) → Keep S w w' → (∀ b ∈ S, lo ≤ b ∧ b ∉ avoid) → wpList P ops Q rest (a.put o.dst v') w') : wpList P ops Q (o :: rest) a w := by
  refine wpList_plain hgd fun K hK' => ?_
  obtain ⟨v', w', S, hrun, r1, r2, r3⟩ := h.append (P := P) t o.type e i bytes ht hi hz hsize hby hlo hav xv news hs hb h63
  unfold Oper.wp
  simp [execOp, ho, resolve, invoke, builtin, hv, hx, hrun, Result.andThen]
  exact hK' _ _ (hK v' w' S r1 r2 r3)

/-- What is appended: a stretch of a block that is known whole. -/
theorem Src.blk {P : Program} {w : World} {t e : TypeId} (ht : P.underlying t = some (.slice e)) {b o n c : Nat} {cs : List Value} {k : IntKind} {news : List Nat} (h : Blk w b cs) (hn : news.length = n) (hcs : (cs.drop o).take n = rowV k news) :
    Src P 1 t (.slice (some ⟨b, o, none⟩) n c) news.length (rowV k news) w := by
  subst hn
  refine Src.ofSlice w ht _ _ _ _ (by simp) (fun j u hu => ?_) (one_rowV k news)
  have hj : j < news.length := by simpa using (List.getElem?_eq_some_iff.1 hu).1
  rw [add_at]
  rw [← hcs, List.getElem?_take, if_pos hj, List.getElem?_drop] at hu
  exact h.cell hu

/-- What is appended: cells from an address on. -/
theorem Src.row {P : Program} {w : World} {t e : TypeId} (ht : P.underlying t = some (.slice e)) {a : Addr} {c : Nat} {k : IntKind} {news : List Nat} (h : ∀ (i x : Nat), news[i]? = some x → w.cell? (a.add i) = some (.int k (x : Int))) :
    Src P 1 t (.slice (some a) news.length c) news.length (rowV k news) w := by
  refine Src.ofSlice w ht _ _ _ _ (by simp) (fun j u hu => ?_) (one_rowV k news)
  have hj : j < news.length := by simpa using (List.getElem?_eq_some_iff.1 hu).1
  have h1 := h j news[j] (List.getElem?_eq_getElem hj)
  have h2 := rowV_get (k := k) (List.getElem?_eq_getElem hj)
  rw [h2] at hu
  rw [h1, ← Option.some.inj hu]

/-- The walk stands still here. -/
theorem halt {p : Prop} (h : Hid p) : p := h.out

/-- A batch more: so many numbers are taken, or (below nought) passed by. -/
def batchStep (l : List Nat) (s : List Nat × Nat) (n : Int) : Option (List Nat × Nat) :=
  if l.length - s.2 < n.natAbs then none else some (s.1 ++ (l.drop s.2).take n.toNat, s.2 + n.natAbs)
def batchOn (l : List Nat) (bs : List Int) : Option (List Nat × Nat) := bs.foldlM (batchStep l) ([], 0)

theorem batchOn_snoc (l : List Nat) (bs : List Int) (n : Int) : batchOn l (bs ++ [n]) = (batchOn l bs).bind fun s => batchStep l s n := by
  unfold batchOn
  rw [List.foldlM_append]
  cases bs.foldlM (batchStep l) ([], 0) <;> simp

theorem batchOn_take_succ (l : List Nat) (bs : List Int) (k : Nat) (hk : k < bs.length) : batchOn l (bs.take (k + 1)) = (batchOn l (bs.take k)).bind fun s => batchStep l s bs[k] := by
  rw [List.take_succ_eq_append_getElem hk, batchOn_snoc]

theorem batchOn_none (l : List Nat) (bs : List Int) : ∀ k j, batchOn l (bs.take k) = none → k ≤ j → batchOn l (bs.take j) = none := by
  intro k j h hkj
  induction j with
  | zero => have : k = 0 := by omega
            subst this; exact h
  | succ j ih =>
    by_cases hk : k ≤ j
    · by_cases hj : j < bs.length
      · rw [batchOn_take_succ _ _ _ hj, ih hk]; rfl
      · rw [List.take_of_length_le (by omega)]
        have := ih hk
        rwa [List.take_of_length_le (by omega)] at this
    · have : k = j + 1 := by omega
      subst this; exact h

theorem batchOn_take {l : List Nat} {bs : List Int} {r : List Nat × Nat} (h : batchOn l bs = some r) (k : Nat) : ∃ out at', batchOn l (bs.take k) = some (out, at') := by
  cases hc : batchOn l (bs.take k) with
  | some s => exact ⟨s.1, s.2, rfl⟩
  | none =>
    have hk : k ≤ bs.length ∨ bs.length < k := by omega
    rcases hk with hk | hk
    · have := batchOn_none l bs k bs.length hc hk
      rw [List.take_length, h] at this
      cases this
    · rw [List.take_of_length_le (by omega), h] at hc
      cases hc

theorem batchStep_some {l out out' : List Nat} {at' at2 : Nat} {n : Int} (h : batchStep l (out, at') n = some (out', at2)) : n.natAbs ≤ l.length - at' ∧ out' = out ++ (l.drop at').take n.toNat ∧ at2 = at' + n.natAbs := by
  unfold batchStep at h
  simp only at h
  split at h
  · cases h
  · rename_i h1
    simp at h
    exact ⟨by omega, h.1.symm, h.2.symm⟩

theorem batchOn_le {l : List Nat} : ∀ (k : Nat) (bs : List Int) (out : List Nat) (at' : Nat), batchOn l (bs.take k) = some (out, at') → at' ≤ l.length ∧ out.length ≤ at' := by
  intro k
  induction k with
  | zero => intro bs out at' h; simp [batchOn] at h; simp [← h.1, ← h.2]
  | succ k ih =>
    intro bs out at' h
    by_cases hk : k < bs.length
    · rw [batchOn_take_succ _ _ _ hk] at h
      cases hb : batchOn l (bs.take k) with
      | none => rw [hb] at h; cases h
      | some s =>
        obtain ⟨o1, a1⟩ := s
        rw [hb] at h
        obtain ⟨h1, h2, h3⟩ := batchStep_some (show batchStep l (o1, a1) bs[k] = some (out, at') from h)
        obtain ⟨i1, i2⟩ := ih bs o1 a1 hb
        subst h2 h3
        refine ⟨by omega, ?_⟩
        simp
        omega
    · rw [List.take_of_length_le (by omega)] at h
      exact ih bs out at' (by rw [List.take_of_length_le (by omega)]; exact h)
end Go.Proofs.YtlolcgklcnechaaGreatDoor
