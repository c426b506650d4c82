/- PlainDecoder[float32]'s leaves: widthOf, requiredBytes, getValue, fromBytes. PlainDecoder[float32].Decode. utils.GetMinMaxInt32. -/
import Derived.Test.YtlolcgklcnechaaGreatDoorXX10
import Derived.Test.YtlolcgklcnechaaGreatDoorXU10
import Derived.Test.YtlolcgklcnechaaGreatDoorE6
set_option linter.unusedVariables false
set_option linter.unusedSimpArgs false
namespace Go.Proofs.YtlolcgklcnechaaGreatDoor
open Go.RowKit

theorem assert_f32_i32 (w : World) : (Instr.typeAssert (.iface 102 (.float .f32 0)) 20 21 true).run Tryz.prog w = .ok (.tuple #[.int .i32 0, .bool false]) w := by kernel_rfl
theorem assert_f32_f32 (w : World) : (Instr.typeAssert (.iface 102 (.float .f32 0)) 20 102 true).run Tryz.prog w = .ok (.tuple #[.float .f32 0, .bool true]) w := by kernel_rfl
theorem assert_pf32_1 (p : Value) (w : World) : (Instr.typeAssert (.iface 411 p) 20 412 true).run Tryz.prog w = .ok (.tuple #[.pointer none, .bool false]) w := by kernel_rfl
theorem assert_pf32_2 (p : Value) (w : World) : (Instr.typeAssert (.iface 411 p) 20 413 true).run Tryz.prog w = .ok (.tuple #[.pointer none, .bool false]) w := by kernel_rfl
theorem assert_pf32_3 (p : Value) (w : World) : (Instr.typeAssert (.iface 411 p) 20 411 true).run Tryz.prog w = .ok (.tuple #[p, .bool true]) w := by kernel_rfl

theorem run_store_f32 {w : World} {a : Addr} {u : Value} (x : Nat) (h : w.cell? a = some u) (hf : w.frozen? a = false) : (store a (.float .f32 x)).run Tryz.prog w = .ok () (w.setCell a (.float .f32 x)) := by
  simp [store, Sem.run, h, hf]

theorem results_cell1 {fn : Func} {p : Tmp} {ty : TypeId} (h : fn.results = #[.cell p ty]) (tmps : Array Value) (P : Program) (w : World) :
    (results fn tmps).run P w = ((asAddr (tmps.getD p undef)).run P w).andThen fun a w₁ => (loadVar ty a).run P w₁ := by
  simp only [results, h]
  simp [Sem.run_bind, Result.andThen]

set_option maxRecDepth 100000 in
theorem widthOfC (w : World) : Calls Tryz.prog 313 #[] w fun e w' => e = .returned (.int .i64 4) ∧ w = w' := by
  have h1 := assert_f32_i32
  have h2 := assert_f32_f32
  go_enter Tryz.func313, Tryz.ntmps313
  go_wp2
  go_ret
  exact ⟨rfl, rfl⟩

set_option maxRecDepth 100000 in
theorem requiredC (n N : Nat) (w : World) (hN : N = 4 * n) (hn : n ≤ 1099511627776) :
    Calls Tryz.prog 311 #[.int .i64 (n : Int)] w fun e w' => e = .returned (.int .i64 (N : Int)) ∧ w = w' := by
  have hi : (n : Int) * 4 = (N : Int) := by omega
  have hb : N ≤ 4398046511104 := by omega
  clear hN
  go_enter Tryz.func311, Tryz.ntmps311
  go_wp2_with fail
  refine (widthOfC _).mono ?_
  rintro e w' ⟨rfl, rfl⟩
  go_wp2
  go_ret
  exact ⟨rfl, rfl⟩

/-- The i-th number of four bytes each. -/
def f32At (D : List Nat) (i : Nat) : Nat := leVal ((D.drop (4 * i)).take 4)

theorem BytesAt.cellAt {w : World} {d o n cap : Nat} {D : List Nat} (h : BytesAt w d o n cap D) : ∃ cs, Blk w d cs ∧ ∀ k y : Nat, D[k]? = some y → cs[o + k]? = some (.int .u8 (y : Int)) := by
  obtain ⟨⟨cs, h2, h3, h4, h5⟩, h7, h8, h9, h10⟩ := h
  refine ⟨cs, h2, fun k y hk => ?_⟩
  have hlt : k < D.length := (List.getElem?_eq_some_iff.1 hk).1
  have e : ((cs.drop o).take n)[k]? = (rowV .u8 D)[k]? := by rw [h4]
  rw [List.getElem?_take, if_pos (by omega), List.getElem?_drop, rowV_get hk] at e
  exact e

set_option maxRecDepth 100000 in
set_option maxHeartbeats 2000000 in
theorem getValueC (b o len cap : Nat) (D : List Nat) (i : Nat) (w : World) (hD : BytesAt w b o len cap D) (hi : 4 * i + 4 ≤ len) :
    Calls Tryz.prog 315 #[.slice (some ⟨b, o, none⟩) len cap, .int .i64 (i : Int)] w fun e w' => e = .returned (.float .f32 (f32At D i)) ∧ Keep [] w w' := by
  obtain ⟨cs, hb, hc⟩ := hD.cellAt
  have hlen := hD.cap
  have hlc := hD.len
  obtain ⟨I, hI⟩ : ∃ I, I = 4 * i := ⟨_, rfl⟩
  have hIi : (4 : Int) * (i : Int) = (I : Int) := by omega
  have hIl : I + 4 ≤ len := by omega
  have hIc : I ≤ cap := by omega
  have hIl2 : I ≤ len := by omega
  have hIne : ¬ cap = I := by omega
  have hIne2 : ¬ cap = 4 * i := by omega
  have hIw : IntKind.i64.wrap (I : Int) = (I : Int) := by simp only [IntKind.wrap, IntKind.bits, IntKind.signed]; simp; omega
  have hIz1 : (0 : Int) ≤ (I : Int) ∧ (I : Int) ≤ (len : Int) := by omega
  have hIz2 : (I : Int) ≤ (cap : Int) := by omega
  have hIz3 : (len : Int) ≤ (cap : Int) := by omega
  have hIz4 : ¬ cap ≤ I := by omega
  have hR : ((D.drop I).take 4).length = 4 := by simp; have := hD.dl; omega
  obtain ⟨y0, y1, y2, y3, hy⟩ : ∃ y0 y1 y2 y3, (D.drop I).take 4 = [y0, y1, y2, y3] := match (D.drop I).take 4, hR with | [y0, y1, y2, y3], _ => ⟨_, _, _, _, rfl⟩
  have hyj : ∀ j y : Nat, [y0, y1, y2, y3][j]? = some y → cs[o + I + j]? = some (.int .u8 (y : Int)) ∧ y < 256 := fun j y h => by
    rw [← hy, List.getElem?_take] at h
    split at h
    · rw [List.getElem?_drop] at h
      exact ⟨by rw [Nat.add_assoc]; exact hc _ _ h, hD.bytes y (List.mem_of_getElem? h)⟩
    · cases h
  have hfv : f32At D i = leVal [y0, y1, y2, y3] := by unfold f32At; rw [← hI, hy]
  rw [hfv]
  obtain ⟨X, hX⟩ : ∃ X, X = leVal [y0, y1, y2, y3] := ⟨_, rfl⟩
  rw [← hX]
  have hfb := run_frombits X
  have HB := Lib.hid (And.intro hb (And.intro hyj hX))
  clear hb hc hR hy hyj hfv hX hD hI
  have h1 := assert_pf32_1
  have h2 := assert_pf32_2
  have h3 := assert_pf32_3
  go_enter Tryz.func315, Tryz.ntmps315
  go_wp2_with fail
  obtain ⟨w1, hw1⟩ : ∃ w1, w1 = w.alloc (Obj.cells #[.float .f32 0] 102) := ⟨_, rfl⟩
  rw [← hw1]
  have K1 : Keep [] w w1 := by rw [hw1]; exact (Keep.refl _ _).alloc _
  have hT1 : Blk w1 w.heap.size [.float .f32 0] := by rw [hw1]; exact Blk.of_new rfl
  have hb1 : Blk w1 b cs := by rw [hw1]; exact HB.out.1.alloc _
  obtain ⟨g, hg⟩ : ∃ g, g = w.heap.size := ⟨_, rfl⟩
  rw [← hg] at hT1 ⊢
  have hgs : w.heap.size ≤ g := by omega
  clear hw1 hg
  go_wp2_with fail
  go_region_with (
    go_at_call 118;
    refine (uint32C b (o + I) (len - I) (cap - I) y0 y1 y2 y3 cs _ hb1.drew (by omega) (by omega) (HB.out.2.1 0 y0 rfl).1 (HB.out.2.1 1 y1 rfl).1 (HB.out.2.1 2 y2 rfl).1 (HB.out.2.1 3 y3 rfl).1 (HB.out.2.1 0 y0 rfl).2 (HB.out.2.1 1 y1 rfl).2 (HB.out.2.1 2 y2 rfl).2 (HB.out.2.1 3 y3 rfl).2).mono ?_;
    rintro e w5 ⟨rfl, k5, -⟩;
    rw [← HB.out.2.2];
    have hT5 := hT1.drew.keep k5 (by simp);
    have ct := hT5.cell (i := 0) rfl;
    have hft := hT5.unfrozen;
    have hst := run_store_f32 X ct (hft 0);
    have hT6 := hT5.set 0 (.float .f32 X);
    have ct6 := hT6.cell (i := 0) (v := .float .f32 X) rfl;
    have hft6 := hT6.unfrozen;
    have hst6 := run_store_f32 X ct6 (hft6 0))
  all_goals
    have K5 : Keep [] w w5 := K1.drew.trans k5 (by simp)
    have hs := K5.size
    have HT5 := Lib.hid (And.intro hT5 k5)
    clear hT5 hT6 k5
    go_wp2
    have hT7 := (HT5.out.1.set 0 (.float .f32 X)).set 0 (.float .f32 X)
    have ct7 := hT7.cell (i := 0) (v := .float .f32 X) rfl
    refine bodyPost_ret (v := .float .f32 X) ?_ rfl ⟨rfl, K5.trans ((((Keep.refl [g] w5).set (by simp) _ _ _)).set (by simp) _ _ _) (by simp; omega)⟩
    rw [results_cell1 rfl]
    go_simp

/-- A row of float32. -/
def rowF (l : List Nat) : List Value := l.map fun x => .float .f32 x
@[simp] theorem length_rowF (l : List Nat) : (rowF l).length = l.length := by simp [rowF]
theorem rowF_append (a b : List Nat) : rowF (a ++ b) = rowF a ++ rowF b := by simp [rowF]
theorem rowF_replicate (n x : Nat) : rowF (List.replicate n x) = List.replicate n (.float .f32 x) := by simp [rowF]
theorem rowF_get {l : List Nat} {i x : Nat} (h : l[i]? = some x) : (rowF l)[i]? = some (.float .f32 x) := by simp [rowF, h]

theorem info_f32 : (Tryz.prog.info? 102).map (fun i => (i.zero, i.size, i.bytes)) = some (some (.float .f32 0), 1, 4) := by kernel_rfl

theorem make_f32 (k : Int) (n : Nat) (hk : k = (n : Int)) (hn : n ≤ 70368744177664) (w : World) :
    (Instr.makeSlice 125 (.int .i64 k) (.int .i64 k)).run Tryz.prog w = .ok (.slice (some ⟨w.heap.size, 0, none⟩) n n) (w.alloc (.cells (rowF (List.replicate n 0)).toArray 102)) := by
  subst hk
  rw [rowF_replicate, ← madeRow]
  exact run_make_row' (P := Tryz.prog) 125 102 (.float .f32 0) 4 Tryz.underlying125 info_f32 rfl .i64 .i64 n (by omega) (by omega) w

set_option maxRecDepth 100000 in
set_option maxHeartbeats 2000000 in
theorem fromBytesC (b o len cap m : Nat) (D : List Nat) (w : World) (hD : BytesAt w b o len cap D) (hm : len = 4 * m) (bl : b < w.heap.size) :
    Calls Tryz.prog 314 #[.slice (some ⟨b, o, none⟩) len cap] w fun e w' => e = .returned (.slice (some ⟨w.heap.size, 0, none⟩) m m) ∧ Keep [] w w' ∧ w.heap.size < w'.heap.size ∧ Blk w' w.heap.size (rowF ((List.range m).map (f32At D))) := by
  have hlen := hD.cap
  have hdi : (len : Int) / 4 = (m : Int) := by omega
  have hdt : (len : Int).tdiv 4 = (m : Int) := by rw [Int.tdiv_eq_ediv_of_nonneg (by omega)]; omega
  have hmk := make_f32 (m : Int) m rfl (by omega)
  have HD := Lib.hid (And.intro hD hm)
  have hmb : m ≤ 1099511627776 := by omega
  clear hD hm
  go_enter Tryz.func314, Tryz.ntmps314
  go_wp2_with fail
  refine (requiredC 1 4 _ rfl (by omega)).mono ?_
  rintro e w' ⟨rfl, rfl⟩
  go_wp2_with fail
  obtain ⟨w1, hw1⟩ : ∃ w1, w1 = w.alloc (.cells (rowF (List.replicate m 0)).toArray 102) := ⟨_, rfl⟩
  rw [← hw1]
  have K1 : Keep [] w w1 := by rw [hw1]; exact (Keep.refl _ _).alloc _
  have hT1 : Blk w1 w.heap.size (rowF (List.replicate m 0)) := by rw [hw1]; exact Blk.of_new rfl
  have hs1 : w1.heap.size = w.heap.size + 1 := by rw [hw1]; simp
  have hD1 := HD.out.1.keep K1 (by simp)
  obtain ⟨g, hg⟩ : ∃ g, g = w.heap.size := ⟨_, rfl⟩
  rw [← hg] at hT1 ⊢
  have hbg : b ≠ g := by omega
  have hg1 : w1.heap.size = g + 1 := by omega
  have hgs : w.heap.size = g := hg.symm
  have Hgs := Lib.hid hgs
  clear hg hgs hs1
  have hT2 : Blk w1 g (splice (rowF (List.replicate m 0)) 0 (rowF ((List.range 0).map (f32At D)))) := by simpa [splice, rowF] using hT1
  clear hw1 hT1 hmk
  go_loopw [12] (fun iv wr => ∃ j : Nat, j ≤ m ∧ iv = .int .i64 (j : Int) ∧ Keep [g] w1 wr ∧ Blk wr g (splice (rowF (List.replicate m 0)) 0 (rowF ((List.range j).map (f32At D))))) (fun iv _ => m - (intOf iv).toNat)
  case atStart => exact ⟨0, Nat.zero_le _, rfl, Keep.refl _ _, hT2⟩
  case round =>
    obtain ⟨j, hj, rfl, kj, hV⟩ := hrel
    by_cases hj2 : j < m
    · have HV := Lib.hid hV
      clear hV hT2
      go_wp2_with fail
      refine (getValueC b o len cap D j _ (hD1.keep kj (by simp; exact hbg)) (by have := HD.out.2; omega)).mono ?_
      rintro e w3 ⟨rfl, k3⟩
      have hV3 := HV.out.keep k3 (by simp)
      obtain ⟨u, hcu⟩ : ∃ u, w3.cell? ⟨g, j, none⟩ = some u := by
        have hl : j < (splice (rowF (List.replicate m 0)) 0 (rowF ((List.range j).map (f32At D)))).length := by rw [length_splice _ _ _ (by simp; omega)]; simpa using hj2
        exact ⟨_, hV3.cell (List.getElem?_eq_getElem hl)⟩
      have hfu := hV3.unfrozen
      have hst := run_store_f32 (f32At D j) hcu (hfu j)
      have HV3 := Lib.hid hV3
      have K3 := kj.trans k3 (by simp)
      clear hV3 k3
      go_wp2
      go_roundw
      case rel =>
        refine ⟨j + 1, hj2, by go_num, K3.set (by simp) _ _ _, ?_⟩
        have h := HV3.out.set j (.float .f32 (f32At D j))
        have e := splice_next (rowF (List.replicate m 0)) (rowF ((List.range j).map (f32At D))) 0 (.float .f32 (f32At D j)) (by simpa using hj2)
        simp only [length_rowF, List.length_map, List.length_range, Nat.zero_add] at e
        rw [e] at h
        rw [List.range_succ, List.map_append, rowF_append]
        exact h
      case measure => simp [intOf]; omega
    · have hjm : j = m := by omega
      subst hjm
      have e1 : splice (rowF (List.replicate j 0)) 0 (rowF ((List.range j).map (f32At D))) = rowF ((List.range j).map (f32At D)) := by
        unfold splice
        rw [List.take_zero, List.nil_append, List.drop_of_length_le (by simp), List.append_nil]
      rw [e1] at hV
      have HV := Lib.hid (And.intro hV kj)
      clear hV hT2 kj e1
      go_wp2
      go_ret
      have hgs := Hgs.out
      rw [hgs]
      exact ⟨rfl, K1.trans HV.out.2 (by simp; omega), by have := HV.out.2.size; omega, HV.out.1⟩
end Go.Proofs.YtlolcgklcnechaaGreatDoor
set_option linter.unusedVariables false
set_option linter.unusedSimpArgs false
namespace Go.Proofs.YtlolcgklcnechaaGreatDoor
open Go.RowKit

theorem one_rowF (l : List Nat) : ∀ v ∈ rowF l, v.oneCell' = true := by
  intro v hv
  simp [rowF] at hv
  obtain ⟨a, -, rfl⟩ := hv
  rfl

theorem size_f32 : (Tryz.prog.info? 102).map (·.size) = some 1 := by kernel_rfl

theorem run_copy_f32 {w : World} {g s : Nat} {cur : List Value} {l : List Nat} (hg : Blk w g cur) (hs : Blk w s (rowF l)) (o n vc sc : Nat) (ty : TypeId) (hl : l.length = n) (hd : o + n ≤ cur.length) :
    (Builtin.copy_ #[125, 125] ty #[.slice (some ⟨g, o, none⟩) n vc, .slice (some ⟨s, 0, none⟩) n sc]).run Tryz.prog w = .ok (.int .i64 (n : Int)) (w.setCells g o (rowF l)) := by
  have h := run_copy_blk (P := Tryz.prog) hg hs 125 125 ty 102 o 0 n vc n sc Tryz.underlying125 size_f32 n (Nat.min_self n).symm hd (by simp [hl]) (one_rowF l)
  rw [List.drop_zero, List.take_of_length_le (by simp [hl])] at h
  exact h

set_option maxRecDepth 100000 in
set_option maxHeartbeats 1000000 in
theorem copyFromC (v vo n vc b o len cap : Nat) (D : List Nat) (vcs : List Value) (w : World) (hv : Blk w v vcs) (hD : BytesAt w b o len cap D) (hm : len = 4 * n) (hvo : vo + n ≤ vcs.length) (vl : v < w.heap.size) (bl : b < w.heap.size) :
    Calls Tryz.prog 312 #[.slice (some ⟨v, vo, none⟩) n vc, .slice (some ⟨b, o, none⟩) len cap] w fun e w' => e = .returned (.tuple #[]) ∧ Keep [v] w w' ∧ Blk w' v (splice vcs vo (rowF ((List.range n).map (f32At D)))) := by
  have HD := Lib.hid (And.intro hv (And.intro hD hm))
  clear hv hD hm
  go_enter Tryz.func312, Tryz.ntmps312
  go_wp2_with fail
  refine (fromBytesC b o len cap n D _ HD.out.2.1 HD.out.2.2 bl).mono ?_
  rintro e w2 ⟨rfl, k2, hs2, hg2⟩
  have hv2 := HD.out.1.keep k2 (by simp)
  obtain ⟨L, hL⟩ : ∃ L, L = (List.range n).map (f32At D) := ⟨_, rfl⟩
  have hLl : L.length = n := by rw [hL]; simp
  rw [← hL] at hg2
  have HL := Lib.hid hL
  have hcp := fun ty => run_copy_f32 hv2 hg2 vo n vc n ty hLl hvo
  have hv3 := hv2.setCells (o := vo) (vs := rowF L) (by simpa [hLl] using hvo)
  have H3 := Lib.hid (And.intro hv3 k2)
  clear hv2 hg2 hv3 k2 hL hLl
  go_wp2
  go_end0
  exact ⟨rfl, Keep.setCells (by simp) (H3.out.2.weaken (by simp)), by rw [← HL.out]; exact H3.out.1⟩

theorem BytesAt.front {w : World} {d o n cap : Nat} {D : List Nat} (h : BytesAt w d o n cap D) (k : Nat) (hk : k ≤ n) : BytesAt w d o k cap (D.take k) := by
  obtain ⟨⟨cs, h2, h3, h4, h5⟩, h7, h8, h9, h10⟩ := h
  refine ⟨⟨cs, h2, by omega, ?_, h5⟩, by omega, by omega, by simp; omega, fun y hy => h10 y (List.mem_of_mem_take hy)⟩
  have : ((cs.drop o).take n).take k = (rowV .u8 D).take k := by rw [h4]
  rw [List.take_take, Nat.min_eq_left hk] at this
  rw [this, rowV_take]

theorem BytesAt.back {w : World} {d o n cap : Nat} {D : List Nat} (h : BytesAt w d o n cap D) (k : Nat) (hk : k ≤ n) : BytesAt w d (o + k) (n - k) (cap - k) (D.drop k) := by
  obtain ⟨⟨cs, h2, h3, h4, h5⟩, h7, h8, h9, h10⟩ := h
  refine ⟨⟨cs, h2, by omega, ?_, h5⟩, by omega, by omega, by simp; omega, fun y hy => h10 y (List.mem_of_mem_drop hy)⟩
  have : ((cs.drop o).take n).drop k = (rowV .u8 D).drop k := by rw [h4]
  rw [List.drop_take, List.drop_drop] at this
  rw [this, rowV_drop]

theorem f32At_take {D : List Nat} {n i : Nat} (h : i < n) : f32At (D.take (4 * n)) i = f32At D i := by
  unfold f32At
  rw [List.drop_take, List.take_take, Nat.min_eq_left (by omega)]

theorem f32s_take (D : List Nat) (n : Nat) : (List.range n).map (f32At (D.take (4 * n))) = (List.range n).map (f32At D) := by
  apply List.map_congr_left
  intro i hi
  exact f32At_take (List.mem_range.1 hi)

def PlainDecPost (pd num n v vo d len cap : Nat) (D : List Nat) (vcs : List Value) (w : World) (e : Ending) (w' : World) : Prop :=
  e = .returned (.tuple #[.int .i64 (n : Int), .nilIface]) ∧ Keep [pd, v] w w' ∧ Blk w' v (splice vcs vo (rowF ((List.range n).map (f32At D)))) ∧
    ∃ o2, Blk w' pd [.int .i64 ((num - n : Nat) : Int), .slice (some ⟨d, o2, none⟩) (len - 4 * n) (cap - 4 * n), .int .i64 0, .nilIface] ∧ BytesAt w' d o2 (len - 4 * n) (cap - 4 * n) (D.drop (4 * n))


theorem PlainDecPost.of {pd num n v vo d o len cap : Nat} {D : List Nat} {vcs : List Value} {w W : World} (N r : Nat) (hN : N = 4 * n) (hr : r = num - n) (hD : BytesAt w d o len cap D) (hn : N ≤ len) (pD : pd ≠ d) (vd : v ≠ d) (K : Keep [pd, v] w W)
    (hv : Blk W v (splice vcs vo (rowF ((List.range n).map (f32At D))))) (hp : Blk W pd [.int .i64 (r : Int), .slice (some ⟨d, if cap = N then o else o + N, none⟩) (len - N) (cap - N), .int .i64 0, .nilIface]) :
    PlainDecPost pd num n v vo d len cap D vcs w (.returned (.tuple #[.int .i64 (n : Int), .nilIface])) W := by
  unfold PlainDecPost
  rw [← hN, ← hr]
  refine ⟨rfl, K, hv, _, hp, ?_⟩
  have h0 := hD.keep K (by simp; exact ⟨Ne.symm pD, Ne.symm vd⟩)
  by_cases hc : cap = N
  · rw [if_pos hc]
    obtain ⟨⟨cs, a1, a2, a3, a4⟩, a5, a6, a7, a8⟩ := h0
    have hl0 : len - N = 0 := by omega
    rw [hl0, List.drop_of_length_le (by omega)]
    exact ⟨⟨cs, a1, by omega, by simp [rowV], a4⟩, by omega, by omega, rfl, by simp⟩
  · rw [if_neg hc]
    exact h0.back N hn

set_option maxRecDepth 100000 in
set_option maxHeartbeats 2000000 in
theorem plainDecodeC (pd num n v vo vc d o len cap : Nat) (D : List Nat) (vcs : List Value) (w : World) (hp : Blk w pd [.int .i64 (num : Int), .slice (some ⟨d, o, none⟩) len cap, .int .i64 0, .nilIface]) (hD : BytesAt w d o len cap D) (hv : Blk w v vcs)
    (vp : v ≠ pd) (vd : v ≠ d) (pD : pd ≠ d) (hn0 : 0 < n) (hnn : n ≤ num) (hnl : 4 * n ≤ len) (hnb : n ≤ 100000000) (hnum : num ≤ 1099511627776) (hvo : vo + n ≤ vcs.length) (hvc : n ≤ vc) (vl : v < w.heap.size) (dl : d < w.heap.size) :
    Calls Tryz.prog 310 #[.pointer (some ⟨pd, 0, none⟩), .slice (some ⟨v, vo, none⟩) n vc] w fun e w' => PlainDecPost pd num n v vo d len cap D vcs w e w' := by
  have hlc := hD.len
  have hlb := hD.cap
  obtain ⟨N, hN⟩ : ∃ N, N = 4 * n := ⟨_, rfl⟩
  obtain ⟨r, hr⟩ : ∃ r, r = num - n := ⟨_, rfl⟩
  have hreq := fun w => requiredC n N w hN (by omega)
  have hmin1 : ¬ (num : Int) < (n : Int) := by omega
  have hmin2 : (n : Int) ≤ (num : Int) := by omega
  have hNl : ¬ (len : Int) < (N : Int) := by omega
  have hNb : ¬ (2147483647 : Int) < (N : Int) := by omega
  have hNle : N ≤ len := by omega
  have hNlc : N ≤ cap := by omega
  have hNb2 : N ≤ 400000000 := by omega
  have hri : (num : Int) - (n : Int) = (r : Int) := by omega
  have hvc0 : ¬ vc = 0 := by omega
  have hc0 : ¬ cap = 0 := by omega
  have hcopy : ∀ w1, Blk w1 v vcs → BytesAt w1 d o len cap D → v < w1.heap.size → d < w1.heap.size → Calls Tryz.prog 312 #[.slice (some ⟨v, vo, none⟩) n vc, .slice (some ⟨d, o, none⟩) N cap] w1 fun e w' => e = .returned (.tuple #[]) ∧ Keep [v] w1 w' ∧ Blk w' v (splice vcs vo (rowF ((List.range n).map (f32At D)))) := fun w1 h1 h2 h3 h4 => by
    have := copyFromC v vo n vc d o N cap (D.take N) vcs w1 h1 (h2.front N hNle) hN hvo h3 h4
    rw [hN, f32s_take] at this
    rw [hN]
    exact this
  have p0 := hp.cell (i := 0) rfl
  have p1 := hp.cell (i := 1) rfl
  have pf := hp.unfrozen
  have HB := Lib.hid (And.intro hD (And.intro hp (And.intro hv (And.intro hN hr))))
  have HC := Lib.hid hcopy
  clear hp hD hv hN hr hcopy
  go_enter Tryz.func310, Tryz.ntmps310
  go_wp2_with fail
  refine (hreq _).mono ?_
  rintro e w' ⟨rfl, rfl⟩
  go_wp2_with fail
  go_region_with (
    go_at_call 312;
    refine (HC.out _ HB.out.2.2.1.drew (HB.out.1.keep (S := []) (Keep.refl [] w).drew (by simp)) vl dl).mono ?_;
    rintro e w5 ⟨rfl, k5, hv5⟩)
  all_goals
    have hp5 := HB.out.2.1.drew.keep k5 (by simp; exact Ne.symm vp)
    have p0 := hp5.cell (i := 0) rfl
    have p1 := hp5.cell (i := 1) rfl
    have pf := hp5.unfrozen
    have K5 : Keep [pd, v] w w5 := ((Keep.refl [pd, v] w).drew).trans k5 (by simp)
    have hD5 := HB.out.1.keep K5 (by simp; exact ⟨Ne.symm pD, Ne.symm vd⟩)
    have H5 := Lib.hid (And.intro hv5 (And.intro hp5 hD5))
    clear hv5 hp5 hD5 k5
    by_cases hcN : cap = N
    · have hz : cap - N = 0 := by omega
      go_wp2
      go_ret2
      refine PlainDecPost.of N r HB.out.2.2.2.1 HB.out.2.2.2.2 HB.out.1 hNle pD vd ((K5.set (by simp) _ _ _).set (by simp) _ _ _) ((H5.out.1.set_other vp _ _ _).set_other vp _ _ _) ?_
      rw [if_pos hcN, hz]
      exact (H5.out.2.1.set 1 (.slice (some ⟨d, o, none⟩) (len - N) 0)).set 0 (.int .i64 (r : Int))
    · go_wp2
      go_ret2
      refine PlainDecPost.of N r HB.out.2.2.2.1 HB.out.2.2.2.2 HB.out.1 hNle pD vd ((K5.set (by simp) _ _ _).set (by simp) _ _ _) ((H5.out.1.set_other vp _ _ _).set_other vp _ _ _) ?_
      rw [if_neg hcN]
      exact (H5.out.2.1.set 1 (.slice (some ⟨d, o + N, none⟩) (len - N) (cap - N))).set 0 (.int .i64 (r : Int))
end Go.Proofs.YtlolcgklcnechaaGreatDoor
set_option linter.unusedVariables false
set_option linter.unusedSimpArgs false
namespace Go.Proofs.YtlolcgklcnechaaGreatDoor
open Go.RowKit

/-- The least and the greatest of the first j. -/
def MM (A : List Nat) (j : Nat) (l h : Int) : Prop := (j = 0 ∧ l = 2147483647 ∧ h = -2147483648) ∨ ∃ a b : Nat, l = (a : Int) ∧ h = (b : Int) ∧ b ∈ A.take j ∧ a ≤ b ∧ ∀ y ∈ A.take j, y ≤ b

theorem MM.step {A : List Nat} {j x : Nat} {l h : Int} (hx : A[j]? = some x) (hb : x < 2147483648) (m : MM A j l h) : MM A (j + 1) (if (x : Int) < l then (x : Int) else l) (if h < (x : Int) then (x : Int) else h) := by
  have ht : ∀ y, y ∈ A.take (j + 1) ↔ y ∈ A.take j ∨ y = x := fun y => by rw [List.take_add_one, hx]; simp
  rcases m with ⟨hj, hl, hh⟩ | ⟨a, b, hl, hh, hm, hab, hall⟩
  · subst hj
    refine .inr ⟨x, x, ?_, ?_, (ht x).2 (.inr rfl), Nat.le_refl _, fun y hy => ?_⟩
    · split <;> omega
    · split <;> omega
    · rcases (ht y).1 hy with h1 | h1
      · simp at h1
      · omega
  · refine .inr ⟨if x < a then x else a, if b < x then x else b, ?_, ?_, ?_, ?_, fun y hy => ?_⟩
    · split <;> split <;> omega
    · split <;> split <;> omega
    · split
      · exact (ht _).2 (.inr rfl)
      · exact (ht _).2 (.inl hm)
    · split <;> split <;> omega
    · rcases (ht y).1 hy with h1 | h1
      · have := hall y h1
        split <;> omega
      · split <;> omega

set_option maxRecDepth 100000 in
set_option maxHeartbeats 1000000 in
theorem int32MinMaxC (v vo n vc : Nat) (A : List Nat) (w : World) (hc : ∀ (i a : Nat), A[i]? = some a → w.cell? ⟨v, vo + i, none⟩ = some (.int .i32 (a : Int))) (hl : A.length = n) (hn0 : 0 < n) (hn : n ≤ 1099511627776) (hA : ∀ a ∈ A, a < 2147483648) :
    Calls Tryz.prog 292 #[.slice (some ⟨v, vo, none⟩) n vc] w fun e w' => ∃ l h : Nat, e = .returned (.tuple #[.int .i32 (l : Int), .int .i32 (h : Int)]) ∧ w = w' ∧ h ∈ A ∧ l ≤ h ∧ ∀ a ∈ A, a ≤ h := by
  have HC := Lib.hid (And.intro hc (And.intro hA hl))
  clear hc hA hl
  go_enter Tryz.func292, Tryz.ntmps292
  go_wp2_with fail
  go_loopw [2, 3, 8] (fun lo hi i wr => ∃ (l h : Int) (j : Nat), j ≤ n ∧ lo = .int .i32 l ∧ hi = .int .i32 h ∧ i = .int .i64 (j : Int) ∧ w = wr ∧ MM A j l h) (fun _ _ i _ => n - (intOf i).toNat)
  case atStart => exact ⟨_, _, 0, Nat.zero_le _, rfl, rfl, rfl, rfl, .inl ⟨rfl, rfl, rfl⟩⟩
  case round =>
    obtain ⟨l, h, j, hj, rfl, rfl, rfl, rfl, hm⟩ := hrel
    by_cases hj2 : j < n
    · obtain ⟨x, hx⟩ : ∃ x, A[j]? = some x := ⟨A[j]'(by rw [HC.out.2.2]; exact hj2), by simp⟩
      have hxb := HC.out.2.1 x (List.mem_of_getElem? hx)
      have hcx := HC.out.1 j x hx
      have hst := hm.step hx hxb
      have HM := Lib.hid (And.intro hm hx)
      clear hm hx
      by_cases c1 : (x : Int) < l <;> by_cases c2 : h < (x : Int)
      all_goals
        simp only [c1, c2, if_true, if_false] at hst
        have HS := Lib.hid hst
        clear hst
        go_wp2
        go_roundw
        case rel => exact ⟨_, _, j + 1, hj2, rfl, rfl, by go_num, trivial, HS.out⟩
        case measure => simp [intOf]; omega
    · have hjn : j = n := by omega
      have HM := Lib.hid hm
      clear hm
      go_wp2
      go_ret2
      rcases HM.out with ⟨h0, -⟩ | ⟨a, b, h1, h2, h3, h4, h5⟩
      · omega
      · have ht : A.take j = A := List.take_of_length_le (by rw [HC.out.2.2]; omega)
        rw [ht] at h3 h5
        subst h1
        subst h2
        exact ⟨a, b, rfl, rfl, h3, h4, h5⟩

set_option maxRecDepth 100000 in
theorem minMaxC (v vo n vc : Nat) (A : List Nat) (w : World) (hc : ∀ (i a : Nat), A[i]? = some a → w.cell? ⟨v, vo + i, none⟩ = some (.int .i32 (a : Int))) (hl : A.length = n) (hn0 : 0 < n) (hn : n ≤ 1099511627776) (hA : ∀ a ∈ A, a < 2147483648) :
    Calls Tryz.prog 291 #[.slice (some ⟨v, vo, none⟩) n vc] w fun e w' => ∃ l h : Nat, e = .returned (.tuple #[.int .i32 (l : Int), .int .i32 (h : Int)]) ∧ w = w' ∧ h ∈ A ∧ l ≤ h ∧ ∀ a ∈ A, a ≤ h := by
  have hC := int32MinMaxC v vo n vc A w hc hl hn0 hn hA
  have HC := Lib.hid hC
  clear hC hc hl hA
  go_enter Tryz.func291, Tryz.ntmps291
  go_wp2_with fail
  refine HC.out.mono ?_
  rintro e w' ⟨l, h, rfl, rfl, h1, h2, h3⟩
  have H := Lib.hid (And.intro h1 (And.intro h2 h3))
  clear h1 h2 h3
  go_wp2
  go_ret2
  exact ⟨l, h, rfl, rfl, H.out.1, H.out.2.1, H.out.2.2⟩
end Go.Proofs.YtlolcgklcnechaaGreatDoor
