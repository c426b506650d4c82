/- append of one value where there is room, for the walk. No program here. -/
import Derived.Test.YtlolcgklcnechaaGreatDoorBase2
import Derived.ArgAppend
namespace Go.Proofs.YtlolcgklcnechaaGreatDoor
open Go.RowKit

theorem run_append_one {P : Program} (w : World) (t ty e : TypeId) (i : TypeInfo) (ht : P.underlying t = some (.slice e)) (hi : P.info? e = some i) (hz : i.size = 1)
    (g o n cap b bo c : Nat) (v : Value) (hv : w.cell? ⟨b, bo, none⟩ = some v) (h1 : v.oneCell' = true) (hn : n < cap) (hc : (w.cell? ⟨g, o + n, none⟩).isSome = true) (hf : w.frozen? ⟨g, o + n, none⟩ = false) :
    (Builtin.append_ #[t, t] ty #[.slice (some ⟨g, o, none⟩) n cap, .slice (some ⟨b, bo, none⟩) 1 c]).run P w = .ok (.slice (some ⟨g, o, none⟩) (n + 1) cap) (w.setCell ⟨g, o + n, none⟩ v) := by
  have := run_append_room_cells (P := P) w t ty e i ht hi g o n cap ⟨b, bo, none⟩ 1 c [v] (by simp [hz])
    (fun j u hj => by
      cases j with
      | zero => simp at hj; subst hj; simpa [Addr.add] using hv
      | succ j => simp at hj)
    (by simpa using h1) (by omega)
    (fun j hj => by have : j = 0 := by simpa using hj
                    subst this; simpa [hz] using hc)
    (fun j hj => by have : j = 0 := by simpa using hj
                    subst this; simpa [hz] using hf)
  simpa [hz, World.setCells] using this

theorem wpList_append_one {P : Program} {w : World} {ops : Array Oper} {rest : List Oper} {o : Oper} {a : Act} {Q : Exit → Act → World → Prop}
    (hgd : o.guard = none) (s x : Operand) (t : TypeId) (hop : o.op = Op.call { callee := Callee.builtin Builtin.append, args := #[s, x], argTypes := #[t, t] })
    (e : TypeId) (i : TypeInfo) (ht : P.underlying t = some (.slice e)) (hi : P.info? e = some i) (hz : i.size = 1)
    (g go n cap b bo c : Nat) (v : Value) (hs : a.eval s = .slice (some ⟨g, go, none⟩) n cap) (hx : a.eval x = .slice (some ⟨b, bo, none⟩) 1 c)
    (hv : w.cell? ⟨b, bo, none⟩ = some v) (h1 : v.oneCell' = true) (hn : n < cap) (hc : (w.cell? ⟨g, go + n, none⟩).isSome = true) (hf : w.frozen? ⟨g, go + n, none⟩ = false)
    (next : wpList P ops Q rest (a.put o.dst (.slice (some ⟨g, go, none⟩) (n + 1) cap)) (w.setCell ⟨g, go + n, none⟩ v)) :
    wpList P ops Q (o :: rest) a w := by
  refine wpList_plain hgd fun K hK' => ?_
  have hrun := run_append_one (P := P) w t o.type e i ht hi hz g go n cap b bo c v hv h1 hn hc hf
  unfold Oper.wp
  simp [execOp, hop, resolve, invoke, builtin, hs, hx, hrun, Result.andThen]
  exact hK' _ _ next

/-- The value to be appended has just been laid into a block of its own. -/
theorem wpList_push {P : Program} {W : World} {ops : Array Oper} {rest : List Oper} {o : Oper} {a : Act} {Q : Exit → Act → World → Prop} {v : Value} {T : TypeId}
    (hgd : o.guard = none) (s x : Operand) (t : TypeId) (hop : o.op = Op.call { callee := Callee.builtin Builtin.append, args := #[s, x], argTypes := #[t, t] })
    (e : TypeId) (i : TypeInfo) (ht : P.underlying t = some (.slice e)) (hi : P.info? e = some i) (hz : i.size = 1)
    (g go n cap B c : Nat) (cur : List Value) (hs : a.eval s = .slice (some ⟨g, go, none⟩) n cap) (hx : a.eval x = .slice (some ⟨B, 0, none⟩) 1 c)
    (hB : B = W.heap.size) (h1 : v.oneCell' = true) (hg : Blk W g cur) (hn : n < cap) (hgo : go + n < cur.length)
    (next : wpList P ops Q rest (a.put o.dst (.slice (some ⟨g, go, none⟩) (n + 1) cap)) ((W.alloc (.cells #[v] T)).setCell ⟨g, go + n, none⟩ v)) :
    wpList P ops Q (o :: rest) a (W.alloc (.cells #[v] T)) := by
  have hg' := hg.alloc (.cells #[v] T)
  refine wpList_append_one hgd s x t hop e i ht hi hz g go n cap B 0 c v hs hx ?_ h1 hn ?_ (hg'.frozen _) next
  · exact (Blk.of_new (cs := [v]) (T := T) hB).cell rfl
  · rw [hg'.cell (i := go + n) (v := cur[go + n]) (by simp)]; rfl
end Go.Proofs.YtlolcgklcnechaaGreatDoor
