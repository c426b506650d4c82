/- laws.behind: four bytes of the length, then the bytes. -/
import Derived.Test.YtlolcgklcnechaaGreatDoorL1
import Derived.Test.YtlolcgklcnechaaGreatDoorD1
set_option linter.unusedVariables false
set_option linter.unusedSimpArgs false
namespace Go.Proofs.YtlolcgklcnechaaGreatDoor
open Go.RowKit

theorem zeroCells_one (k : IntKind) (m : Nat) : ∀ v ∈ (Builtin.zeroCells (Value.int k 0).cells m).toList, v.oneCell' = true := by
  intro v hv
  rw [show (Value.int k 0).cells = #[.int k 0] from rfl] at hv
  unfold Builtin.zeroCells at hv
  simp only [Array.toList_map, List.mem_map] at hv
  obtain ⟨i, _, rfl⟩ := hv
  simp [Nat.mod_one, Value.oneCell']

/-- What an append to a full slice leaves: a block of its own. -/
def Appended (k : IntKind) (l : List Nat) (w : World) (v' : Value) (w' : World) : Prop :=
  ∃ c cs, v' = .slice (some ⟨w.heap.size, 0, none⟩) l.length c ∧ Keep [] w w' ∧ Blk w' w.heap.size cs ∧ cs.length = c ∧ cs.take l.length = rowV k l ∧ l.length ≤ c ∧ ∀ v ∈ cs, v.oneCell' = true

theorem append_full {P : Program} {w : World} {k : IntKind} (t ty e : TypeId) (i : TypeInfo) (bytes : Nat) (ht : P.underlying t = some (.slice e)) (hi : P.info? e = some i)
    (hz : i.zero = some (.int k 0)) (hsize : i.size = 1) (hby : i.bytes = bytes) (b : Nat) (vs : List Nat) (hb : Blk w b (rowV k vs)) (x : Value) (news : List Nat) (hpos : 0 < news.length)
    (hs : Src P 1 t x news.length (rowV k news) w) (hbb : (vs.length + news.length) * bytes ≤ 140737488355328) (h63 : vs.length + news.length ≤ 1000000000000) :
    ∃ v' w', (Builtin.append_ #[t, t] ty #[.slice (some ⟨b, 0, none⟩) vs.length vs.length, x]).run P w = .ok v' w' ∧ Appended k (vs ++ news) w v' w' := by
  have hs' : Src P i.size t x news.length (rowV k news) w := by rw [hsize]; exact hs
  have hc : vs.length < vs.length + news.length := by omega
  have hold : (Builtin.firstCells i.size vs.length (.slice (some ⟨b, 0, none⟩) vs.length vs.length)).run P w.drew = .ok (rowV k vs).toArray w.drew :=
    run_firstCells_some w.drew i.size vs.length ⟨b, 0, none⟩ vs.length vs.length (rowV k vs) (by rw [hsize]; simp) (fun j u hu => by rw [add_at, Nat.zero_add]; exact hb.drew.cell hu)
  have hrun := run_append_grow_src (P := P) w t t ty e i (.int k 0) ht hi hz (some ⟨b, 0, none⟩) vs.length vs.length (rowV k vs) hold x news.length (rowV k news) hs' hc (by omega) (growslice_fits hc (by rw [hby]; exact hbb))
  have hge := grownCap_ge w (vs.length + news.length) vs.length e
  refine ⟨_, _, hrun, _, ((rowV k vs ++ rowV k news).toArray ++ Builtin.zeroCells (Value.int k 0).cells (grownCap w (vs.length + news.length) vs.length e - (vs.length + news.length))).toList, by rw [List.length_append], ((Keep.refl [] w).drew).alloc _, ?_, ?_, ?_, ?_, ?_⟩
  · have := Blk.new w.drew ((rowV k vs ++ rowV k news).toArray ++ Builtin.zeroCells (Value.int k 0).cells (grownCap w (vs.length + news.length) vs.length e - (vs.length + news.length))).toList e
    rw [Array.toArray_toList] at this
    exact this
  · rw [Array.length_toList, Array.size_append, List.size_toArray, size_zeroCells, List.length_append, length_rowV, length_rowV]
    rw [show (Value.int k 0).cells.size = 1 from rfl]; omega
  · rw [rowV_append, Array.toList_append, List.toList_toArray, List.take_left' (by simp)]
  · rw [List.length_append]; exact hge
  · intro v hv
    rw [Array.toList_append, List.toList_toArray, List.mem_append, List.mem_append] at hv
    rcases hv with (hv | hv) | hv
    · exact one_rowV _ _ v hv
    · exact one_rowV _ _ v hv
    · exact zeroCells_one _ _ v hv

/-- .. at a walk's step. -/
theorem wpList_append_full {P : Program} {w : World} {k : IntKind} {ops : Array Oper} {rest : List Oper} {o : Oper} {a : Act} {Q : Exit → Act → World → Prop} (hgd : o.guard = none) (s x : Operand) (t e : TypeId)
    (ho : o.op = .call { callee := .builtin .append, args := #[s, x], argTypes := #[t, t] }) (i : TypeInfo) (bytes : Nat) (ht : P.underlying t = some (.slice e)) (hi : P.info? e = some i)
    (hz : i.zero = some (.int k 0)) (hsize : i.size = 1) (hby : i.bytes = bytes) (b : Nat) (vs : List Nat) (hv : a.eval s = .slice (some ⟨b, 0, none⟩) vs.length vs.length) (hb : Blk w b (rowV k vs)) (xv : Value) (news : List Nat) (hpos : 0 < news.length)
    (hx : a.eval x = xv) (hs : Src P 1 t xv news.length (rowV k news) w) (hbb : (vs.length + news.length) * bytes ≤ 140737488355328) (h63 : vs.length + news.length ≤ 1000000000000)
    (hK : ∀ v' w', Appended k (vs ++ news) w v' w' → wpList P ops Q rest (a.put o.dst v') w') : wpList P ops Q (o :: rest) a w := by
  refine wpList_plain hgd fun K hK' => ?_
  obtain ⟨v', w', hrun, r1⟩ := append_full (P := P) t o.type e i bytes ht hi hz hsize hby b vs hb xv news hpos hs hbb h63
  unfold Oper.wp
  simp [execOp, ho, resolve, invoke, builtin, hv, hx, hrun, Result.andThen]
  exact hK' _ _ (hK v' w' r1)

set_option maxRecDepth 100000 in
set_option maxHeartbeats 2000000 in
theorem behindC (d n cap : Nat) (D : List Nat) (w : World) (hD : BytesAt w d 0 n cap D) (hn0 : 0 < n) (hn : n ≤ 600000000) :
    Calls Tryz.prog 30 #[.slice (some ⟨d, 0, none⟩) n cap] w fun e w' => ∃ b c cs, e = .returned (.slice (some ⟨b, 0, none⟩) (4 + n) c) ∧ Keep [] w w' ∧ w.heap.size ≤ b ∧ Blk w' b cs ∧ cs.length = c ∧ 4 + n ≤ c ∧
      cs.take (4 + n) = rowV .u8 ([n % 256, n / 256 % 256, n / 65536 % 256, n / 16777216 % 256] ++ D) ∧ ∀ v ∈ cs, v.oneCell' = true := by
  obtain ⟨⟨cs0, hd, hcl, hcD, h1⟩, hlen, hcap, hdl, hby⟩ := hD
  obtain ⟨i0, hi, hz0, hz1, hz2⟩ := info_parts info_u8
  obtain ⟨x0, hx0⟩ : ∃ x, x = n % 256 := ⟨_, rfl⟩
  obtain ⟨x1, hx1⟩ : ∃ x, x = n / 256 % 256 := ⟨_, rfl⟩
  obtain ⟨x2, hx2⟩ : ∃ x, x = n / 65536 % 256 := ⟨_, rfl⟩
  obtain ⟨x3, hx3⟩ : ∃ x, x = n / 16777216 % 256 := ⟨_, rfl⟩
  have e0 : IntKind.u8.wrap (n : Int) = (x0 : Int) := by rw [IntKind.wrap_u8]; omega
  have e1 : IntKind.u8.wrap ((n : Int) / 256) = (x1 : Int) := by rw [IntKind.wrap_u8]; omega
  have e2 : IntKind.u8.wrap ((n : Int) / 65536) = (x2 : Int) := by rw [IntKind.wrap_u8]; omega
  have e3 : IntKind.u8.wrap ((n : Int) / 16777216) = (x3 : Int) := by rw [IntKind.wrap_u8]; omega
  rw [← hx0, ← hx1, ← hx2, ← hx3]
  have Hd := Lib.hid hd
  have HcD := Lib.hid hcD
  have Hdl := Lib.hid hdl
  clear hx0 hx1 hx2 hx3 hd hcD h1 hby hcl hdl
  go_enter Tryz.func30, Tryz.ntmps30
  go_wp2_with (at_builtin; refine halt ?_)
  refine Lib.hid ?_
  have hb : Blk (w.alloc (Obj.cells #[Value.int .u8 (x0 : Int), Value.int .u8 (x1 : Int), Value.int .u8 (x2 : Int), Value.int .u8 (x3 : Int)] 5)) w.heap.size (rowV .u8 [x0, x1, x2, x3]) := Blk.new w (rowV .u8 [x0, x1, x2, x3]) _
  refine wpList_append_full rfl _ _ 28 _ rfl i0 1 Tryz.underlying28 hi hz0 hz1 hz2 w.heap.size [x0, x1, x2, x3] rfl hb _ D (by rw [Hdl.out]; exact hn0) rfl (Src.blk Tryz.underlying28 (Hd.out.alloc _) Hdl.out HcD.out) (by rw [Hdl.out]; simp; omega) (by rw [Hdl.out]; simp; omega) ?_
  rintro v2 w5 ⟨c, cs, hv2, k5, hb2, hb3, hb4, hb5, hb6⟩
  have K5 : Keep [] w w5 := ((Keep.refl [] w).alloc _).trans k5 (by simp)
  have hlen : ([x0, x1, x2, x3] ++ D).length = 4 + n := by rw [List.length_append, Hdl.out]; rfl
  rw [hlen] at hv2 hb4 hb5
  obtain ⟨b, hbb⟩ : ∃ b, b = (w.alloc (Obj.cells #[Value.int .u8 (x0 : Int), Value.int .u8 (x1 : Int), Value.int .u8 (x2 : Int), Value.int .u8 (x3 : Int)] 5)).heap.size := ⟨_, rfl⟩
  rw [← hbb] at hv2 hb2
  have hb1 : w.heap.size ≤ b := by rw [hbb]; simp
  clear hbb
  subst hv2
  have HB := Lib.hid (And.intro hb1 (And.intro hb2 (And.intro hb3 (And.intro hb4 (And.intro hb5 hb6)))))
  clear k5 hb hb1 hb2 hb3 hb4 hb5 hb6 hlen
  go_wp2
  go_ret
  obtain ⟨hb1, hb2, hb3, hb4, hb5, hb6⟩ := HB.out
  exact ⟨b, c, cs, rfl, K5, hb1, hb2, hb3, hb5, hb4, hb6⟩
end Go.Proofs.YtlolcgklcnechaaGreatDoor
