/- laws.behind: four bytes of the length, then the bytes. impl.copied, impl.valueFloat32, impl.valued[float32], impl.noNumbers[impl.Value], NewDictionaryDecoder[float32]. impl.decoded[float32]. NewDictionaryDecoder[float32]. -/
import Derived.Test.YtlolcgklcnechaaGreatDoorL1
import Derived.Test.YtlolcgklcnechaaGreatDoorXD1
import Derived.Test.YtlolcgklcnechaaGreatDoorXX28
import Derived.Test.YtlolcgklcnechaaGreatDoorXX10
import Derived.Test.YtlolcgklcnechaaGreatDoorXX7
import Derived.Test.YtlolcgklcnechaaGreatDoorXX27
set_option linter.unusedVariables false
set_option linter.unusedSimpArgs false
namespace Go.Proofs.YtlolcgklcnechaaGreatDoor
open Go.RowKit

theorem zeroCells_one (k : IntKind) (m : Nat) : ∀ v ∈ (Builtin.zeroCells (Value.int k 0).cells m).toList, v.oneCell' = true := by
  intro v hv
  rw [show (Value.int k 0).cells = #[.int k 0] from rfl] at hv
  unfold Builtin.zeroCells at hv
  simp only [Array.toList_map, List.mem_map] at hv
  obtain ⟨i, _, rfl⟩ := hv
  simp [Nat.mod_one, Value.oneCell']

/-- What an append to a full slice leaves: a block of its own. -/
def Appended (k : IntKind) (l : List Nat) (w : World) (v' : Value) (w' : World) : Prop :=
  ∃ c cs, v' = .slice (some ⟨w.heap.size, 0, none⟩) l.length c ∧ Keep [] w w' ∧ Blk w' w.heap.size cs ∧ cs.length = c ∧ cs.take l.length = rowV k l ∧ l.length ≤ c ∧ ∀ v ∈ cs, v.oneCell' = true

theorem append_full {P : Program} {w : World} {k : IntKind} (t ty e : TypeId) (i : TypeInfo) (bytes : Nat) (ht : P.underlying t = some (.slice e)) (hi : P.info? e = some i)
    (hz : i.zero = some (.int k 0)) (hsize : i.size = 1) (hby : i.bytes = bytes) (b : Nat) (vs : List Nat) (hb : Blk w b (rowV k vs)) (x : Value) (news : List Nat) (hpos : 0 < news.length)
    (hs : Src P 1 t x news.length (rowV k news) w) (hbb : (vs.length + news.length) * bytes ≤ 140737488355328) (h63 : vs.length + news.length ≤ 1000000000000) :
    ∃ v' w', (Builtin.append_ #[t, t] ty #[.slice (some ⟨b, 0, none⟩) vs.length vs.length, x]).run P w = .ok v' w' ∧ Appended k (vs ++ news) w v' w' := by
  have hs' : Src P i.size t x news.length (rowV k news) w := by rw [hsize]; exact hs
  have hc : vs.length < vs.length + news.length := by omega
  have hold : (Builtin.firstCells i.size vs.length (.slice (some ⟨b, 0, none⟩) vs.length vs.length)).run P w.drew = .ok (rowV k vs).toArray w.drew :=
    run_firstCells_some w.drew i.size vs.length ⟨b, 0, none⟩ vs.length vs.length (rowV k vs) (by rw [hsize]; simp) (fun j u hu => by rw [add_at, Nat.zero_add]; exact hb.drew.cell hu)
  have hrun := run_append_grow_src (P := P) w t t ty e i (.int k 0) ht hi hz (some ⟨b, 0, none⟩) vs.length vs.length (rowV k vs) hold x news.length (rowV k news) hs' hc (by omega) (growslice_fits hc (by rw [hby]; exact hbb))
  have hge := grownCap_ge w (vs.length + news.length) vs.length e
  refine ⟨_, _, hrun, _, ((rowV k vs ++ rowV k news).toArray ++ Builtin.zeroCells (Value.int k 0).cells (grownCap w (vs.length + news.length) vs.length e - (vs.length + news.length))).toList, by rw [List.length_append], ((Keep.refl [] w).drew).alloc _, ?_, ?_, ?_, ?_, ?_⟩
  · have := Blk.new w.drew ((rowV k vs ++ rowV k news).toArray ++ Builtin.zeroCells (Value.int k 0).cells (grownCap w (vs.length + news.length) vs.length e - (vs.length + news.length))).toList e
    rw [Array.toArray_toList] at this
    exact this
  · rw [Array.length_toList, Array.size_append, List.size_toArray, size_zeroCells, List.length_append, length_rowV, length_rowV]
    rw [show (Value.int k 0).cells.size = 1 from rfl]; omega
  · rw [rowV_append, Array.toList_append, List.toList_toArray, List.take_left' (by simp)]
  · rw [List.length_append]; exact hge
  · intro v hv
    rw [Array.toList_append, List.toList_toArray, List.mem_append, List.mem_append] at hv
    rcases hv with (hv | hv) | hv
    · exact one_rowV _ _ v hv
    · exact one_rowV _ _ v hv
    · exact zeroCells_one _ _ v hv

/-- .. at a walk's step. -/
theorem wpList_append_full {P : Program} {w : World} {k : IntKind} {ops : Array Oper} {rest : List Oper} {o : Oper} {a : Act} {Q : Exit → Act → World → Prop} (hgd : o.guard = none) (s x : Operand) (t e : TypeId)
    (ho : o.op = .call { callee := .builtin .append, args := #[s, x], argTypes := #[t, t] }) (i : TypeInfo) (bytes : Nat) (ht : P.underlying t = some (.slice e)) (hi : P.info? e = some i)
    (hz : i.zero = some (.int k 0)) (hsize : i.size = 1) (hby : i.bytes = bytes) (b : Nat) (vs : List Nat) (hv : a.eval s = .slice (some ⟨b, 0, none⟩) vs.length vs.length) (hb : Blk w b (rowV k vs)) (xv : Value) (news : List Nat) (hpos : 0 < news.length)
    (hx : a.eval x = xv) (hs : Src P 1 t xv news.length (rowV k news) w) (hbb : (vs.length + news.length) * bytes ≤ 140737488355328) (h63 : vs.length + news.length ≤ 1000000000000)
    (hK : ∀ v' w', Appended k (vs ++ news) w v' w' → wpList P ops Q rest (a.put o.dst v') w') : wpList P ops Q (o :: rest) a w := by
  refine wpList_plain hgd fun K hK' => ?_
  obtain ⟨v', w', hrun, r1⟩ := append_full (P := P) t o.type e i bytes ht hi hz hsize hby b vs hb xv news hpos hs hbb h63
  unfold Oper.wp
  simp [execOp, ho, resolve, invoke, builtin, hv, hx, hrun, Result.andThen]
  exact hK' _ _ (hK v' w' r1)

set_option maxRecDepth 100000 in
set_option maxHeartbeats 2000000 in
theorem behindC (d n cap : Nat) (D : List Nat) (w : World) (hD : BytesAt w d 0 n cap D) (hn0 : 0 < n) (hn : n ≤ 600000000) :
    Calls Tryz.prog 30 #[.slice (some ⟨d, 0, none⟩) n cap] w fun e w' => ∃ b c cs, e = .returned (.slice (some ⟨b, 0, none⟩) (4 + n) c) ∧ Keep [] w w' ∧ w.heap.size ≤ b ∧ Blk w' b cs ∧ cs.length = c ∧ 4 + n ≤ c ∧
      cs.take (4 + n) = rowV .u8 ([n % 256, n / 256 % 256, n / 65536 % 256, n / 16777216 % 256] ++ D) ∧ ∀ v ∈ cs, v.oneCell' = true := by
  obtain ⟨⟨cs0, hd, hcl, hcD, h1⟩, hlen, hcap, hdl, hby⟩ := hD
  obtain ⟨i0, hi, hz0, hz1, hz2⟩ := info_parts info_u8
  obtain ⟨x0, hx0⟩ : ∃ x, x = n % 256 := ⟨_, rfl⟩
  obtain ⟨x1, hx1⟩ : ∃ x, x = n / 256 % 256 := ⟨_, rfl⟩
  obtain ⟨x2, hx2⟩ : ∃ x, x = n / 65536 % 256 := ⟨_, rfl⟩
  obtain ⟨x3, hx3⟩ : ∃ x, x = n / 16777216 % 256 := ⟨_, rfl⟩
  have e0 : IntKind.u8.wrap (n : Int) = (x0 : Int) := by rw [IntKind.wrap_u8]; omega
  have e1 : IntKind.u8.wrap ((n : Int) / 256) = (x1 : Int) := by rw [IntKind.wrap_u8]; omega
  have e2 : IntKind.u8.wrap ((n : Int) / 65536) = (x2 : Int) := by rw [IntKind.wrap_u8]; omega
  have e3 : IntKind.u8.wrap ((n : Int) / 16777216) = (x3 : Int) := by rw [IntKind.wrap_u8]; omega
  rw [← hx0, ← hx1, ← hx2, ← hx3]
  have Hd := Lib.hid hd
  have HcD := Lib.hid hcD
  have Hdl := Lib.hid hdl
  clear hx0 hx1 hx2 hx3 hd hcD h1 hby hcl hdl
  go_enter Tryz.func30, Tryz.ntmps30
  go_wp2_with (at_builtin; refine halt ?_)
  refine Lib.hid ?_
  have hb : Blk (w.alloc (Obj.cells #[Value.int .u8 (x0 : Int), Value.int .u8 (x1 : Int), Value.int .u8 (x2 : Int), Value.int .u8 (x3 : Int)] 5)) w.heap.size (rowV .u8 [x0, x1, x2, x3]) := Blk.new w (rowV .u8 [x0, x1, x2, x3]) _
  refine wpList_append_full rfl _ _ 28 _ rfl i0 1 Tryz.underlying28 hi hz0 hz1 hz2 w.heap.size [x0, x1, x2, x3] rfl hb _ D (by rw [Hdl.out]; exact hn0) rfl (Src.blk Tryz.underlying28 (Hd.out.alloc _) Hdl.out HcD.out) (by rw [Hdl.out]; simp; omega) (by rw [Hdl.out]; simp; omega) ?_
  rintro v2 w5 ⟨c, cs, hv2, k5, hb2, hb3, hb4, hb5, hb6⟩
  have K5 : Keep [] w w5 := ((Keep.refl [] w).alloc _).trans k5 (by simp)
  have hlen : ([x0, x1, x2, x3] ++ D).length = 4 + n := by rw [List.length_append, Hdl.out]; rfl
  rw [hlen] at hv2 hb4 hb5
  obtain ⟨b, hbb⟩ : ∃ b, b = (w.alloc (Obj.cells #[Value.int .u8 (x0 : Int), Value.int .u8 (x1 : Int), Value.int .u8 (x2 : Int), Value.int .u8 (x3 : Int)] 5)).heap.size := ⟨_, rfl⟩
  rw [← hbb] at hv2 hb2
  have hb1 : w.heap.size ≤ b := by rw [hbb]; simp
  clear hbb
  subst hv2
  have HB := Lib.hid (And.intro hb1 (And.intro hb2 (And.intro hb3 (And.intro hb4 (And.intro hb5 hb6)))))
  clear k5 hb hb1 hb2 hb3 hb4 hb5 hb6 hlen
  go_wp2
  go_ret
  obtain ⟨hb1, hb2, hb3, hb4, hb5, hb6⟩ := HB.out
  exact ⟨b, c, cs, rfl, K5, hb1, hb2, hb3, hb5, hb4, hb6⟩
end Go.Proofs.YtlolcgklcnechaaGreatDoor
set_option linter.unusedVariables false
set_option linter.unusedSimpArgs false
namespace Go.Proofs.YtlolcgklcnechaaGreatDoor
open Go.RowKit

theorem noValues_idle (p q : Addr) (w : World) :
    CallsD Tryz.prog 48 #[.pointer (some p), .pointer (some q)] .returning w fun e u' w' => e = .returned (.tuple #[]) ∧ u' = .returning ∧ w' = w := by
  refine callsD_of_wpS Tryz.func48 rfl fun c₀ cs hu => ?_
  apply wpS_seq
  apply wpS_region
  simp [wpOpsS, go_sem, recoverD, hu, Tryz.ntmps48, Exit.thenS]
  refine wpS_cond (t := false) (by simp [Act.eval, Array.replicate]) ?_
  simp only [Bool.false_eq_true, if_false]
  refine wpS_of_wp (wp_skip ?_)
  cases c₀
  simp_all [bodyPostS, results, Tryz.results48]

/-- The value that a number of 32 bits becomes. -/
def numV (x : Nat) : Vq := ⟨false, x, ⟨#[]⟩, none, 0, 0⟩

set_option maxRecDepth 100000 in
theorem valueFloat32C (x : Nat) (w : World) (hx : x < 4294967296) : Calls Tryz.prog 58 #[.float .f32 x] w fun e w' => e = .returned (.agg #[.bool false, .int .u64 (x : Int), .string ⟨#[]⟩, .slice none 0 0]) ∧ Keep [] w w' := by
  have ht := run_tobits x
  have hxw : IntKind.u64.wrap (x : Int) = (x : Int) := by rw [IntKind.wrap_u64]; omega
  go_enter Tryz.func58, Tryz.ntmps58
  go_wp2
  refine bodyPost_ret (v := .agg #[.bool false, .int .u64 (x : Int), .string ⟨#[]⟩, .slice none 0 0]) ?_ rfl ⟨rfl, ?_⟩
  · rw [results_cell1 rfl]
    go_simp
  · exact (Keep.refl [] w).alloc _

set_option maxRecDepth 100000 in
set_option maxHeartbeats 1000000 in
theorem copiedC (v : Value) (n : Nat) (D : List Nat) (w : World) (hR : RowAt w v .u8 D) (hl : D.length = n) (hn0 : 0 < n) (hn : n ≤ 1000000000000) (hby : ∀ y ∈ D, y < 256) :
    Calls Tryz.prog 51 #[v] w fun e w' => ∃ b c, e = .returned (.slice (some ⟨b, 0, none⟩) n c) ∧ Keep [] w w' ∧ w.heap.size ≤ b ∧ BytesAt w' b 0 n c D := by
  have hR0 := hR
  obtain ⟨ao, cap, rfl, hlen, -⟩ := hR.open
  obtain ⟨i0, hi, hz0, hz1, hz2⟩ := info_parts info_u8
  rw [hl] at hR0 hlen ⊢
  have Hd := Lib.hid (And.intro hR0 (And.intro hl hby))
  clear hR hR0 hl hby
  go_enter Tryz.func51, Tryz.ntmps51
  go_wp2_with (at_builtin; refine halt ?_)
  refine Lib.hid ?_
  have hb : Blk (w.alloc (Obj.cells #[] 5)) w.heap.size (rowV .u8 []) := Blk.new w (rowV .u8 []) _
  refine wpList_append_full rfl _ _ 28 _ rfl i0 1 Tryz.underlying28 hi hz0 hz1 hz2 w.heap.size [] rfl hb _ D (by rw [Hd.out.2.1]; exact hn0) rfl ((Hd.out.1.keep ((Keep.refl [] w).alloc _)).src Tryz.underlying28) (by rw [Hd.out.2.1]; simp; omega) (by rw [Hd.out.2.1]; simp; omega) ?_
  rintro v2 w5 ⟨c, cs, hv2, k5, hb2, hb3, hb4, hb5, hb6⟩
  have K5 : Keep [] w w5 := ((Keep.refl [] w).alloc _).trans k5 (by simp)
  rw [List.nil_append, Hd.out.2.1] at hv2 hb4 hb5
  obtain ⟨b, hbb⟩ : ∃ b, b = (w.alloc (Obj.cells #[] 5)).heap.size := ⟨_, rfl⟩
  rw [← hbb] at hv2 hb2
  have hb1 : w.heap.size ≤ b := by rw [hbb]; simp
  clear hbb
  subst hv2
  have HB := Lib.hid (And.intro hb1 (And.intro hb2 (And.intro hb3 (And.intro hb4 (And.intro hb5 hb6)))))
  clear k5 hb hb1 hb2 hb3 hb4 hb5 hb6
  go_wp2
  go_ret
  obtain ⟨hb1, hb2, hb3, hb4, hb5, hb6⟩ := HB.out
  exact ⟨b, c, rfl, K5, hb1, ⟨cs, hb2, by omega, by rw [List.drop_zero]; exact hb4, hb6⟩, hb5, by omega, Hd.out.2.1, Hd.out.2.2⟩

/-- The values that numbers become. -/
def nums (l : List Nat) : List Vq := l.map numV

theorem nums_snoc {l : List Nat} {j x : Nat} (hx : l[j]? = some x) : nums (l.take (j + 1)) = nums (l.take j) ++ [numV x] := by
  unfold nums
  rw [List.take_add_one, hx]
  simp

set_option maxRecDepth 100000 in
set_option maxHeartbeats 2000000 in
theorem valuedC (lo : Nat) (av : List Nat) (v : Value) (l : List Nat) (w : World) (hG : GrowC cfF 1 lo av w v l) (hn : l.length ≤ 1000000) (hu : ∀ x ∈ l, x < 4294967296) :
    Calls Tryz.prog 57 #[v, .func (.func 58) #[] #[]] w fun e w' => ∃ ov, e = .returned ov ∧ Keep [] w w' ∧ GrowC Vq.cells 4 w.heap.size [] w' ov (nums l) := by
  obtain ⟨ao, c, rfl, hc⟩ := hG.shape
  obtain ⟨n, hn'⟩ : ∃ n, n = l.length := ⟨_, rfl⟩
  obtain ⟨i0, hi, hz, hsz, hby⟩ := info_val_parts
  have HG := Lib.hid (And.intro hG (And.intro hu hn'))
  rw [← hn'] at hn hc ⊢
  clear hG hu hn'
  go_enter Tryz.func57, Tryz.ntmps57
  go_wp2_with fail
  go_loopw [10, 5] (fun i ov wr => ∃ j : Nat, j ≤ n ∧ i = .int .i64 (j : Int) ∧ Keep [] w wr ∧ GrowC Vq.cells 4 w.heap.size [] wr ov (nums (l.take j))) (fun i _ _ => n - (intOf i).toNat)
  case atStart => exact ⟨0, Nat.zero_le _, rfl, Keep.refl _ _, .inl ⟨rfl, rfl⟩⟩
  case round =>
    obtain ⟨j, hj, rfl, kk, hO⟩ := hrel
    obtain ⟨oa, oc, rfl, -⟩ := hO.shape
    obtain ⟨N, hN⟩ : ∃ N, N = (nums (l.take j)).length := ⟨_, rfl⟩
    have hNj : N ≤ j := by rw [hN]; simp [nums]; omega
    rw [← hN] at hO ⊢
    have HO := Lib.hid (And.intro hO hN)
    clear hO hN
    by_cases hj2 : j < n
    · obtain ⟨x, hx⟩ : ∃ x, l[j]? = some x := ⟨l[j]'(by rw [← HG.out.2.2]; exact hj2), by simp⟩
      obtain ⟨g, c', hv, hcx⟩ := HG.out.1.cell cfF_len hx (j := 0) (u := .float .f32 x) rfl
      simp only [Value.slice.injEq] at hv
      obtain ⟨rfl, -, -⟩ := hv
      rw [Nat.mul_one, Nat.add_zero] at hcx
      have hcx := kk.cell_some hcx (by simp)
      have hx32 := HG.out.2.1 x (List.mem_of_getElem? hx)
      have Hx := Lib.hid hx
      clear hx
      go_wp2_with fail
      refine (valueFloat32C x _ hx32).mono ?_
      rintro e w4 ⟨rfl, k4⟩
      have HO4 := Lib.hid (HO.out.1.keep k4 (by simp))
      have kk4 : Keep [] w w4 := kk.trans k4 (by simp)
      clear k4 kk hcx
      go_wp2_with (at_builtin; refine halt ?_)
      refine Lib.hid ?_
      refine wpList_append_growC Vq.cells_length (by omega) rfl _ _ 34 _ rfl i0 56 Tryz.underlying34 hi hz hsz hby rfl (HO4.out.keep (S := []) ((Keep.refl [] w4).alloc _) (by simp)) (by simp; exact Nat.le_succ_of_le kk4.size) (by simp) _ [numV x] rfl (Src.oneC Vq.cells_length Vq.cells_one Tryz.underlying34 (Blk.new w4 (Vq.cells (numV x)) _)) (by rw [← HO.out.2]; simp; omega) (by rw [← HO.out.2]; simp; omega) ?_
      intro v5 w5 S hG5 k5 hS5
      have K5 : Keep [] w w5 := (kk4.alloc _).trans k5 (fun b hb => .inr (hS5 b hb).1)
      have HG5 := Lib.hid hG5
      clear hG5 k5 hS5
      go_wp2
      go_roundw
      case rel =>
        refine ⟨j + 1, hj2, by go_num, K5, ?_⟩
        rw [nums_snoc Hx.out]
        exact HG5.out
      case measure => simp [intOf]; omega
    · have hjn : j = n := by omega
      subst hjn
      go_wp2
      go_ret
      obtain ⟨hO, hN⟩ := HO.out
      rw [List.take_of_length_le (by rw [← HG.out.2.2]; exact Nat.le_refl _)] at hO
      exact ⟨_, rfl, kk, hO⟩
end Go.Proofs.YtlolcgklcnechaaGreatDoor
set_option linter.unusedVariables false
set_option linter.unusedSimpArgs false
namespace Go.Proofs.YtlolcgklcnechaaGreatDoor
open Go.RowKit

/-- The block that a slice lies in. -/
def ownB : Value → List Nat
  | .slice (some a) _ _ => [a.block]
  | _ => []

theorem GrowC.avoidOwn {α : Type} {cf : α → List Value} {sz lo : Nat} {av av' : List Nat} {w : World} {v : Value} {l : List α} (h : GrowC cf sz lo av w v l) (hg : ∀ b ∈ ownB v, b ∉ av') : GrowC cf sz lo av' w v l := by
  rcases h with h | ⟨g, c, cs, rfl, h2, h3, h4⟩
  · exact .inl h
  · exact .inr ⟨g, c, cs, rfl, h2, hg g (by simp [ownB]), h4⟩

theorem GrowC.ownB_not {α : Type} {cf : α → List Value} {sz lo : Nat} {av : List Nat} {w : World} {v : Value} {l : List α} (h : GrowC cf sz lo av w v l) : ∀ b ∈ ownB v, b ∉ av ∧ lo ≤ b ∧ b < w.heap.size := by
  rcases h with ⟨rfl, _⟩ | ⟨g, c, cs, rfl, h2, h3, h4, _⟩
  · simp [ownB]
  · intro b hb
    simp [ownB] at hb
    subst hb
    exact ⟨h3, h2, h4.lt⟩

theorem GrowC.keepD {α : Type} {cf : α → List Value} {sz lo : Nat} {av avD F : List Nat} {w w' : World} {v : Value} {l : List α} (h : GrowC cf sz lo av w v l) (hg : ∀ b ∈ ownB v, b ∈ avD) (k : KeepD lo avD F w w') (hF : ∀ b ∈ ownB v, b ∉ F) : GrowC cf sz lo av w' v l := by
  rcases h with h | ⟨g, c, cs, rfl, h2, h3, h4, h5⟩
  · exact .inl h
  · exact .inr ⟨g, c, cs, rfl, h2, h3, h4.keepD k (.inr (hg g (by simp [ownB]))) (hF g (by simp [ownB])), h5⟩

theorem KeepD.fresh {lo : Nat} {av F : List Nat} {w0 w w' : World} (k : KeepD lo av F w w') (K0 : Keep [] w0 w) (hF : ∀ b ∈ F, w0.heap.size ≤ b) (hl : w0.heap.size ≤ lo) : Keep [] w0 w' := by
  obtain ⟨S, k, hS⟩ := k
  refine K0.trans k (fun b hb => .inr ?_)
  rcases hS b hb with h | h
  · exact hF b h
  · omega

/-- The converter's own block, that others may not touch. -/
theorem ConvAt.sep {lo : Nat} {av : List Nat} {w : World} {cb pd d num len cap : Nat} {D : List Nat} {k : Nat} (h : ConvAt lo av w cb pd d num len cap D k) :
    ∃ G : List Nat, (∀ g ∈ G, g ∉ av ∧ g < w.heap.size) ∧ ∀ (av' S : List Nat) (w' : World), Keep S w w' → (∀ g ∈ G, g ∉ av' ∧ g ∉ S) → cb ∉ S → pd ∉ S → d ∉ S → ConvAt lo av' w' cb pd d num len cap D k := by
  obtain ⟨v, h2, h3⟩ := h.vals
  obtain ⟨o2, h4, h5⟩ := h.plain
  have key : ∃ G : List Nat, (∀ g ∈ G, g ∉ av ∧ g < w.heap.size) ∧ ∀ (av' S : List Nat) (w' : World), Keep S w w' → (∀ g ∈ G, g ∉ av' ∧ g ∉ S) → GrowC cfF 1 lo av' w' v (f32s D k) := by
    rcases h3 with h3 | ⟨g, c, cs, e1, e2, e3, e4, e5⟩
    · exact ⟨[], by simp, fun _ _ _ _ _ => .inl h3⟩
    · exact ⟨[g], by simp; exact ⟨e3, e4.lt⟩, fun av' S w' kk hS => .inr ⟨g, c, cs, e1, e2, (hS g (by simp)).1, e4.keep kk (hS g (by simp)).2, e5⟩⟩
  obtain ⟨G, hG, key⟩ := key
  exact ⟨G, hG, fun av' S w' kk hS hc hp hd => { h with vals := ⟨v, h2.keep kk hc, key av' S w' kk hS⟩, plain := ⟨o2, h4.keep kk hp, h5.keep kk hd⟩ }⟩

section
variable {lo : Nat} {av : List Nat} {t q xb nv : Nat} {mem : Value} {dd o n cap : Nat} {ea : Addr} {D : List Nat} {W cb pd d num len dcap : Nat} {Dd L : List Nat} {w : World}

theorem DictAt.avoid {av' : List Nat} (h : DictAt lo av w t q xb nv mem dd o n cap ea D W cb pd d num len dcap Dd L) (hS : ∀ b ∈ av', b ∈ av ∨ w.heap.size ≤ b) : DictAt lo av' w t q xb nv mem dd o n cap ea D W cb pd d num len dcap Dd L := by
  obtain ⟨k, b⟩ := h.conv
  exact { h with conv := ⟨k, b.avoid hS⟩ }

theorem DictAt.alloc (h : DictAt lo av w t q xb nv mem dd o n cap ea D W cb pd d num len dcap Dd L) (ob : Obj) : DictAt lo av (w.alloc ob) t q xb nv mem dd o n cap ea D W cb pd d num len dcap Dd L := by
  obtain ⟨k, b⟩ := h.conv
  have K : Keep [] w (w.alloc ob) := (Keep.refl [] w).alloc ob
  exact { h with dec := h.dec.keep K (by simp) (by simp) (by simp) (by simp) (by simp), conv := ⟨k, b.keep K (by simp)⟩ }

theorem DictAt.sep (h : DictAt lo av w t q xb nv mem dd o n cap ea D W cb pd d num len dcap Dd L) :
    ∃ G : List Nat, (∀ g ∈ G, g ∉ av ∧ g < w.heap.size) ∧ ∀ (av' S : List Nat) (w' : World), Keep S w w' → (∀ g ∈ G, g ∉ av' ∧ g ∉ S) → (∀ b ∈ S, lo ≤ b) → DictAt lo av' w' t q xb nv mem dd o n cap ea D W cb pd d num len dcap Dd L := by
  obtain ⟨k, b⟩ := h.conv
  have a := h.dec
  have ap := h.ap
  obtain ⟨G, hG, key⟩ := b.sep
  have low : ∀ {S : List Nat} {x : Nat}, (∀ b ∈ S, lo ≤ b) → x < lo → x ∉ S := fun hS hx hm => by have := hS _ hm; omega
  refine ⟨G, hG, fun av' S w' kk hS hl => { h with dec := a.keep kk (low hl ap.t.1) (low hl ap.q.1) (low hl ap.x.1) (low hl ap.d.1) (low hl ap.e.1), conv := ⟨k, key av' S w' kk hS (low hl b.cl) (low hl b.pl) (low hl b.dl)⟩ }⟩

def DecodedPost (lo : Nat) (t q xb cb pd : Nat) (Dd want : List Nat) (w : World) (e : Ending) (w' : World) : Prop :=
  ∃ ov, e = .returned (.tuple #[ov, .bool true]) ∧ KeepD lo [] [t, q, xb, cb, pd] w w' ∧ GrowC cfF 1 lo [] w' ov (want.map (f32At Dd))

/-- The numbers that a batch takes. -/
theorem batch_drop {L : List Nat} {a b : Nat} : (L.drop a).drop b = L.drop (a + b) := List.drop_drop

set_option maxRecDepth 100000 in
set_option maxHeartbeats 4000000 in
theorem decodedC (w0 : World) (K0 : Keep [] w0 w) (bv : Value) (bs : List Int) (want : List Nat) (at2 : Nat) (h : DictAt lo [] w t q xb nv mem dd o n cap ea D W cb pd d num len dcap Dd L) (hlo : lo ≤ w.heap.size) (hB : IntsAt w0 bv bs) (hF : ∀ b ∈ [t, q, xb, cb, pd], w0.heap.size ≤ b) (hl0 : w0.heap.size ≤ lo)
    (hbat : batchOn L bs = some (want, at2)) (hm : bs.length ≤ 1000000) (hL : L.length ≤ 1000000) :
    Calls Tryz.prog 54 #[bv, .func (.func 55) #[.pointer (some ⟨xb, 0, none⟩)] #[], .func (.func 56) #[.pointer (some ⟨xb, 0, none⟩)] #[]] w fun e w' => DecodedPost lo t q xb cb pd Dd want w e w' := by
  obtain ⟨bo, bcap, rfl, hbc, hbcell⟩ := hB.open
  obtain ⟨m, hm'⟩ : ∃ m, m = bs.length := ⟨_, rfl⟩
  rw [← hm'] at hm hbc ⊢
  have Hm := Lib.hid (And.intro hm' (And.intro hbat hL))
  have Hbc := Lib.hid hbcell
  have HF0 := Lib.hid (And.intro K0 hF)
  have ht := h.ap.t.1
  have hq := h.ap.q.1
  have hx := h.ap.x.1
  have hdd := h.ap.d.1
  have he := h.ap.e.1
  have HH := Lib.hid h
  have Hap := Lib.hid (And.intro h.ap (And.intro h.nvl h.nvb))
  obtain ⟨i0, hi, hz, hsz, hby⟩ := info_f32_parts
  clear hm' hbcell hB hbat hL h K0 hF
  simp only [dB] at ht hq hx hdd he
  go_enter Tryz.func54, Tryz.ntmps54
  go_wp2_with fail
  go_loopw [6, 17] (fun ov i wr => ∃ k at' : Nat, ∃ out : List Nat, k ≤ m ∧ i = .int .i64 (k : Int) ∧ batchOn L (bs.take k) = some (out, at') ∧ KeepD lo [] [t, q, xb, cb, pd] w wr ∧ GrowC cfF 1 lo [] wr ov (out.map (f32At Dd)) ∧
      DictAt lo (ownB ov) wr t q xb (nv - at') mem dd o n cap ea D W cb pd d num len dcap Dd (L.drop at')) (fun _ i _ => m - (intOf i).toNat)
  case atStart => exact ⟨0, 0, [], Nat.zero_le _, rfl, rfl, KeepD.refl _ _ _ _, .inl ⟨rfl, rfl⟩, by simpa [ownB] using HH.out⟩
  case round =>
    obtain ⟨k, at', out, hk, rfl, hbk, kk, hG, hD⟩ := hrel
    obtain ⟨oa, oc, hov, hoc⟩ := hG.shape
    obtain ⟨N, hN⟩ : ∃ N, N = (out.map (f32At Dd)).length := ⟨_, rfl⟩
    rw [← hN] at hov hoc
    subst hov
    have hle := batchOn_le k bs out at' hbk
    have hNat : N ≤ at' := by rw [hN, List.length_map]; exact hle.2
    have hsz1 := kk.size
    have HG := Lib.hid (And.intro hG (And.intro hN hle))
    have HD := Lib.hid hD
    have Hbk := Lib.hid hbk
    clear hG hN hle hD hbk
    by_cases hk2 : k < m
    · obtain ⟨x, hx0⟩ : ∃ x, bs[k]? = some x := ⟨bs[k]'(by rw [← Hm.out.1]; exact hk2), by simp⟩
      obtain ⟨ba, rfl, hca⟩ := Hbc.out k x hx0
      have KF := kk.fresh HF0.out.1 HF0.out.2 hl0
      have hca := KF.cell_some hca (by simp)
      obtain ⟨out2, at3, hb2⟩ := batchOn_take Hm.out.2.1 (k + 1)
      have hkl : k < bs.length := by rw [← Hm.out.1]; exact hk2
      have hst := hb2
      rw [batchOn_take_succ _ _ _ hkl, Hbk.out] at hst
      have hbx : bs[k] = x := by
        have e := hx0
        rw [List.getElem?_eq_getElem hkl] at e
        exact Option.some.inj e
      rw [hbx] at hst
      obtain ⟨h1, h2, h3⟩ := batchStep_some (show batchStep L (out, at') x = some (out2, at3) from hst)
      have hLl := Hm.out.2.2
      have hnvl := Hap.out.2.1
      obtain ⟨a, ha⟩ : ∃ a, a = x.natAbs := ⟨_, rfl⟩
      rw [← ha] at h1 h3
      have hab : a ≤ 1000000 := by omega
      have han : a ≤ nv - at' := by omega
      have Hneg := Lib.hid (fun h : x < 0 => (show -x = (a : Int) by omega))
      have Hpos := Lib.hid (fun h : ¬ x < 0 => (show x = (a : Int) by omega))
      have HST := Lib.hid (And.intro hb2 (And.intro h2 h3))
      have hatL : at' ≤ 1000000 := by have := HG.out.2.2.1; omega
      clear h1 h2 h3 hst hb2 hx0 hbx ha KF hLl hnvl hkl
      by_cases hneg : x < 0
      · have hqi : -x = (a : Int) := Hneg.out hneg
        go_wp2_with fail
        refine (typedDiscardC a HD.out han (by omega)).mono ?_
        rintro e w5 ⟨rfl, k5, hD5⟩
        have hG5 := HG.out.1.keepD (fun b hb => hb) k5 (fun b hb => by have := (HG.out.1.ownB_not b hb).2.1; simp; omega)
        have kk5 : KeepD lo [] [t, q, xb, cb, pd] w w5 := kk.trans k5 (fun x hx => .inl (by simp at hx ⊢; omega)) (by simp)
        have H5 := Lib.hid (And.intro hG5 (And.intro kk5 hD5))
        clear hG5 kk5 hD5 k5 kk
        go_wp2
        go_roundw
        case rel =>
          obtain ⟨hb2, h2, h3⟩ := HST.out
          have e0 : x.toNat = 0 := by omega
          rw [e0] at h2
          simp at h2
          refine ⟨k + 1, at3, out2, hk2, by go_num, hb2, H5.out.2.1, by rw [h2]; exact H5.out.1, ?_⟩
          have := H5.out.2.2
          rw [List.drop_drop, Nat.sub_sub] at this
          rw [h3]
          exact this
        case measure => simp [intOf]; omega
      · have hxq : x = (a : Int) := Hpos.out hneg
        subst hxq
        have hmk := make_f32 (a : Int) a rfl (by omega)
        have hDa : DictAt lo (wr.heap.size :: ownB (.slice oa N oc)) (wr.alloc (.cells (rowF (List.replicate a 0)).toArray 102)) t q xb (nv - at') mem dd o n cap ea D W cb pd d num len dcap Dd (L.drop at') :=
          (HD.out.avoid (fun b hb => by
            rcases List.mem_cons.1 hb with rfl | hb
            · exact .inr (Nat.le_refl _)
            · exact .inl hb)).alloc _
        obtain ⟨kd, hcv⟩ := HD.out.conv
        have hcl := hcv.cl
        have hpl := hcv.pl
        have hdl := hcv.dl
        have hDec := typedDecodeC wr.heap.size 0 a a (rowF (List.replicate a 0)) hDa (by simp; omega) (fun b hb => by
            rcases List.mem_cons.1 hb with rfl | hb
            · simp
            · have := (HG.out.1.ownB_not b hb).2.2; simp; omega) (Blk.new wr _ _) (one_rowF _) (.inl (by simp)) ⟨by omega, by omega, by omega, by omega, by omega, by omega, by omega, by omega⟩ (by simp) han hab (Nat.le_refl _)
        have HDec := Lib.hid hDec
        clear hDa hcv hDec
        go_wp2_with fail
        refine HDec.out.mono ?_
        rintro e w5 ⟨rfl, k5, hD5, hv5⟩
        obtain ⟨X, hX⟩ : ∃ X, X = ((L.drop at').take a).map (f32At Dd) := ⟨_, rfl⟩
        have hXl : X.length = a := by rw [hX, List.length_map, List.length_take, List.length_drop]; have := Hm.out.2.2; have := Hap.out.2.1; omega
        rw [← hX] at hv5
        have e1 : splice (rowF (List.replicate a 0)) 0 (rowF X) = rowF X := by
          unfold splice
          rw [List.take_zero, List.nil_append, List.drop_of_length_le (by simp [hXl]), List.append_nil]
        rw [e1] at hv5
        have hsrc := Src.rowF (c := a) hv5 hXl
        have hG5 := (HG.out.1.keep ((Keep.refl [] wr).alloc (.cells (rowF (List.replicate a 0)).toArray 102)) (by simp)).keepD (fun b hb => by simp [hb]) k5 (fun b hb => by have h := HG.out.1.ownB_not b hb; simp; omega)
        have kk5 : KeepD lo [] [t, q, xb, cb, pd] w w5 := (kk.alloc (.cells (rowF (List.replicate a 0)).toArray 102)).trans k5 (fun x hx => by
          simp at hx ⊢
          omega) (by simp)
        obtain ⟨G, hGd, sep⟩ := hD5.sep
        have hG6 := hG5.avoidOwn (av' := G) (fun b hb hm => (hGd b hm).1 (by simp [hb]))
        have hlo5 : lo ≤ w5.heap.size := by have := k5.size; simp at this; omega
        have HN := HG.out.2.1
        have hAx := Lib.hid (And.intro hG6 (And.intro (fun b hb => (hGd b hb).2) (And.intro hsrc (And.intro hX hXl))))
        have Hsep := Lib.hid sep
        have Hkk := Lib.hid kk5
        clear hD5 hv5 e1 hX hXl hsrc hG5 kk5 sep hG6 k5 kk HDec hmk hGd HN
        go_wp2_with (at_builtin; refine halt ?_)
        refine Lib.hid ?_
        refine wpList_append_growC cfF_len (by omega) rfl _ _ 125 _ rfl i0 4 Tryz.underlying125 hi hz hsz hby rfl hAx.out.1 hlo5 hAx.out.2.1 _ X rfl hAx.out.2.2.1 (by rw [← HG.out.2.1, hAx.out.2.2.2.2]; omega) (by rw [← HG.out.2.1, hAx.out.2.2.2.2]; omega) ?_
        intro v6 w6 S6 hG6 k6 hS6
        have hD6 := Hsep.out (ownB v6) S6 w6 k6 (fun g hg => ⟨fun hm => (hG6.ownB_not g hm).1 hg, fun hm => (hS6 g hm).2 hg⟩) (fun b hb => (hS6 b hb).1)
        have kk6 : KeepD lo [] [t, q, xb, cb, pd] w w6 := Hkk.out.trans (av' := []) (KeepD.of k6 (F := []) (fun b hb => .inr ⟨(hS6 b hb).1, by simp⟩)) (by simp) (by simp)
        obtain ⟨oa6, oc6, hv6, -⟩ := hG6.shape
        obtain ⟨N6, hN6⟩ : ∃ N, N = (out.map (f32At Dd) ++ X).length := ⟨_, rfl⟩
        rw [← hN6] at hv6
        subst hv6
        have H6 := Lib.hid (And.intro (hG6.avoidOwn (av' := []) (by simp)) (And.intro hD6 kk6))
        clear hG6 hD6 kk6 k6 hS6 hN6 Hsep
        go_wp2
        go_roundw
        case rel =>
          obtain ⟨hb2, h2, h3⟩ := HST.out
          simp at h2
          refine ⟨k + 1, at3, out2, hk2, by go_num, hb2, H6.out.2.2, ?_, ?_⟩
          · rw [h2, List.map_append, ← hAx.out.2.2.2.1]; exact H6.out.1
          · have := H6.out.2.1
            rw [List.drop_drop, Nat.sub_sub] at this
            rw [h3]
            exact this
        case measure => simp [intOf]; omega
    · have hkm : m = k := by omega
      subst hkm
      have hout : out = want := by
        have h1 := Hbk.out
        rw [List.take_of_length_le (by rw [← Hm.out.1]; exact Nat.le_refl _), Hm.out.2.1] at h1
        exact (congrArg Prod.fst (Option.some.inj h1)).symm
      have HO := Lib.hid (And.intro hout kk)
      clear hout kk
      go_wp2
      go_ret2
      exact ⟨_, rfl, HO.out.2, by rw [← HO.out.1]; exact HG.out.1⟩
end
end Go.Proofs.YtlolcgklcnechaaGreatDoor
set_option linter.unusedVariables false
set_option linter.unusedSimpArgs false
namespace Go.Proofs.YtlolcgklcnechaaGreatDoor
open Go.RowKit

set_option maxRecDepth 100000 in
set_option maxHeartbeats 1000000 in
theorem newDictC (pd num : Nat) (w : World) (hn : num ≤ 1099511627776) :
    Calls Tryz.prog 52 #[.iface 113 (.agg #[]), .iface 100 (.pointer (some ⟨pd, 0, none⟩)), .int .i64 (num : Int)] w fun e w' => ∃ xb cb, e = .returned (.pointer (some ⟨xb, 0, none⟩)) ∧ Keep [] w w' ∧ w.heap.size ≤ xb ∧ w.heap.size ≤ cb ∧ xb ≠ cb ∧
      Rd w' ⟨xb, ddPre 0 (.iface 113 (.agg #[])) (.iface 197 (.pointer (some ⟨cb, 0, none⟩))) none, ddPost⟩ [.slice none 0 0, .int .i64 0, .int .i64 0] ∧
      Blk w' cb [.iface 100 (.pointer (some ⟨pd, 0, none⟩)), .int .i64 (num : Int), .slice none 0 0, .float .f32 0] := by
  go_enter Tryz.func52, Tryz.ntmps52
  go_wp2_with fail
  refine (newBaseC w).mono ?_
  rintro e w2 ⟨rfl, k2⟩
  go_wp2
  go_ret
  refine ⟨w2.heap.size, w2.heap.size + 1, rfl, (k2.alloc _).alloc _, k2.size, Nat.le_succ_of_le k2.size, by omega, ?_, Blk.of_new (by simp)⟩
  exact (Blk.new w2 [Value.int IntKind.i64 0, Value.slice none 0 0, Value.int IntKind.i64 0, Value.iface 113 (Value.agg #[]), Value.iface 197 (Value.pointer (some ⟨w2.heap.size + 1, 0, none⟩)), Value.pointer none, Value.slice none 0 0, Value.int IntKind.i64 0, Value.int IntKind.i64 0, Value.slice none 0 0, Value.slice none 0 0, Value.slice none 0 0] _).alloc _
end Go.Proofs.YtlolcgklcnechaaGreatDoor
