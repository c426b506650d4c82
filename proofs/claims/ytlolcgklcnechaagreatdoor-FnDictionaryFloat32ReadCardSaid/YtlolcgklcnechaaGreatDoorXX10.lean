/- spec.OneBits, OneFits, PlainAll: of numbers of 32 bits. spec.floatOf, PlainFloats: of numbers of 32 bits, whatever they say. laws.byIndex, spec.BatchedValues. spec.PlainBytes, spec.Plainly: of numbers of 32 bits. -/
import Derived.Test.YtlolcgklcnechaaGreatDoorXX7
import Derived.Laws.Cover2
set_option linter.unusedVariables false
set_option linter.unusedSimpArgs false
namespace Go.Proofs.YtlolcgklcnechaaGreatDoor
open Go.RowKit

theorem loop_len (bs : ByteArray) : ∀ (k i : Nat) (r : List UInt8), bs.size - i = k → r.length ≤ (ByteArray.toList.loop bs i r).length := by
  intro k
  induction k with
  | zero =>
    intro i r h
    rw [ByteArray.toList.loop]
    rw [if_neg (by omega)]
    simp
  | succ k ih =>
    intro i r h
    rw [ByteArray.toList.loop]
    rw [if_pos (by omega)]
    have := ih (i + 1) (bs.get! i :: r) (by omega)
    simp at this
    omega
theorem toList_ne (qt : ByteArray) (h : ¬ qt = ⟨#[]⟩) : qt.toList.isEmpty = false := by
  have h0 : 0 < qt.size := by
    rcases Nat.eq_zero_or_pos qt.size with h0 | h0
    · exfalso; apply h
      cases qt with
      | mk d =>
        congr 1
        exact Array.eq_empty_of_size_eq_zero h0
    · exact h0
  unfold ByteArray.toList
  rw [ByteArray.toList.loop, if_pos h0]
  have := loop_len qt _ 1 [qt.get! 0] rfl
  cases hl : ByteArray.toList.loop qt (0 + 1) [qt.get! 0] with
  | nil => rw [hl] at this; simp at this
  | cons a l => rfl

theorem build_f32 (w : World) : (Instr.build 42 #[(0, .int .i64 3), (1, .int .i64 32)]).run Tryz.prog w = .ok (.agg #[.int .i64 3, .int .i64 32, .bool false, .int .i64 0, .int .i64 0, .int .i64 0, .string ⟨#[]⟩, .bool false, .slice none 0 0, .slice none 0 0]) w := by kernel_rfl

set_option maxRecDepth 100000 in
theorem oneBitsC (w : World) :
    Calls Tryz.prog 105 #[.agg #[.int .i64 3, .int .i64 32, .bool false, .int .i64 0, .int .i64 0, .int .i64 0, .string ⟨#[]⟩, .bool false, .slice none 0 0, .slice none 0 0]] w fun e w' => e = .returned (.tuple #[.int .i64 32, .bool false]) ∧ Keep [] w w' := by
  go_enter Tryz.func105, Tryz.ntmps105
  go_wp2
  go_ret2
  exact ⟨rfl, (Keep.refl _ _).alloc _⟩


def OneFitsPost (q : Vq) (w : World) (e : Ending) (w' : World) : Prop := ∃ b : Bool, e = .returned (.bool b) ∧ Keep [] w w' ∧ (b = true → q.null = false → q.kl = 0 ∧ q.text = ⟨#[]⟩ ∧ q.num < 4294967296)

set_option maxRecDepth 100000 in
set_option maxHeartbeats 1000000 in
theorem oneFitsC (q : Vq) (w : World) (hq : q.num < 18446744073709551616) :
    Calls Tryz.prog 62 #[.agg #[.int .i64 3, .int .i64 32, .bool false, .int .i64 0, .int .i64 0, .int .i64 0, .string ⟨#[]⟩, .bool false, .slice none 0 0, .slice none 0 0], .agg #[.bool q.null, .int .u64 (q.num : Int), .string q.text, .slice q.ka q.kl q.kc]] w fun e w' => OneFitsPost q w e w' := by
  obtain ⟨qn, qm, qt, qa, ql, qc⟩ := q
  simp only at hq ⊢
  have hB := oneBitsC
  by_cases hl : 0 < ql
  · have hli : (0 : Int) < (ql : Int) := by omega
    go_enter Tryz.func62, Tryz.ntmps62
    go_wp2
    go_ret
    unfold OneFitsPost; exact ⟨false, rfl, ((Keep.refl [] w).alloc _).alloc _, by simp⟩
  have hl0 : ql = 0 := by omega
  subst hl0
  by_cases ht : qt = ⟨#[]⟩
  · subst ht
    cases qn with
    | true =>
      go_enter Tryz.func62, Tryz.ntmps62
      go_wp2
      all_goals
        go_ret
        unfold OneFitsPost; exact ⟨_, rfl, ((Keep.refl [] w).alloc _).alloc _, by simp⟩
    | false =>
      go_enter Tryz.func62, Tryz.ntmps62
      go_wp2_with fail
      have hBv : Blk ((w.alloc (Obj.cells #[.int .i64 3, .int .i64 32, .bool false, .int .i64 0, .int .i64 0, .int .i64 0, .string ⟨#[]⟩, .bool false, .slice none 0 0, .slice none 0 0] 42)).alloc (Obj.cells #[.bool false, .int .u64 (qm : Int), .string ⟨#[]⟩, .slice qa 0 qc] 45)) (w.heap.size + 1) [.bool false, .int .u64 (qm : Int), .string ⟨#[]⟩, .slice qa 0 qc] := Blk.of_new (by simp)
      refine (hB _).mono ?_
      rintro e w2 ⟨rfl, k2⟩
      have K2 : Keep [] w w2 := (((Keep.refl [] w).alloc _).alloc _).trans k2 (by simp)
      have hB2 := hBv.keep k2 (by simp)
      have cv1 := hB2.cell (i := 1) rfl
      have cv2 := hB2.cell (i := 2) rfl
      clear hBv hB2 k2
      go_wp2_with fail
      go_region
      go_wp2
      go_ret
      unfold OneFitsPost
      refine ⟨_, rfl, K2.drewN _, fun hb _ => ⟨rfl, rfl, ?_⟩⟩
      have hb2 : IntKind.u64.wrap ((qm : Int) * 4294967296) / 4294967296 = (qm : Int) := by simpa using hb
      rw [IntKind.wrap_u64] at hb2
      show qm < 4294967296
      omega
  · have hte := toList_ne qt ht
    cases qn with
    | true =>
      go_enter Tryz.func62, Tryz.ntmps62
      go_wp2
      all_goals
        go_ret
        unfold OneFitsPost; exact ⟨_, rfl, ((Keep.refl [] w).alloc _).alloc _, by simp⟩
    | false =>
      go_enter Tryz.func62, Tryz.ntmps62
      go_wp2_with fail
      have hBv : Blk ((w.alloc (Obj.cells #[.int .i64 3, .int .i64 32, .bool false, .int .i64 0, .int .i64 0, .int .i64 0, .string ⟨#[]⟩, .bool false, .slice none 0 0, .slice none 0 0] 42)).alloc (Obj.cells #[.bool false, .int .u64 (qm : Int), .string qt, .slice qa 0 qc] 45)) (w.heap.size + 1) [.bool false, .int .u64 (qm : Int), .string qt, .slice qa 0 qc] := Blk.of_new (by simp)
      refine (hB _).mono ?_
      rintro e w2 ⟨rfl, k2⟩
      have K2 : Keep [] w w2 := (((Keep.refl [] w).alloc _).alloc _).trans k2 (by simp)
      have hB2 := hBv.keep k2 (by simp)
      have cv1 := hB2.cell (i := 1) rfl
      have cv2 := hB2.cell (i := 2) rfl
      clear hBv hB2 k2
      go_wp2
      go_ret
      unfold OneFitsPost; exact ⟨_, rfl, K2, by simp⟩

def PlainPost (l : List Vq) (w : World) (e : Ending) (w' : World) : Prop := ∃ b : Bool, e = .returned (.bool b) ∧ Keep [] w w' ∧ (b = true → ∀ q ∈ l, q.Plain q.num ∧ q.num < 4294967296)

set_option maxRecDepth 100000 in
set_option maxHeartbeats 1000000 in
theorem plainAllC (v : Value) (l : List Vq) (w : World) (hV : ValsAt w v l) (hn : l.length ≤ 100) (hu : ∀ q ∈ l, q.num < 18446744073709551616) :
    Calls Tryz.prog 19 #[.agg #[.int .i64 3, .int .i64 32, .bool false, .int .i64 0, .int .i64 0, .int .i64 0, .string ⟨#[]⟩, .bool false, .slice none 0 0, .slice none 0 0], v] w fun e w' => PlainPost l w e w' := by
  obtain ⟨ao, cap, rfl, hc, hcell⟩ := hV
  obtain ⟨n, hn'⟩ : ∃ n, n = l.length := ⟨_, rfl⟩
  rw [← hn'] at hn hc ⊢
  have Hn := Lib.hid hn'
  have Hc := Lib.hid hcell
  have Hu := Lib.hid hu
  clear hn' hcell hu
  go_enter Tryz.func19, Tryz.ntmps19
  go_wp2_with fail
  obtain ⟨w1, hw1⟩ : ∃ w1, w1 = w.alloc (Obj.cells #[.int .i64 3, .int .i64 32, .bool false, .int .i64 0, .int .i64 0, .int .i64 0, .string ⟨#[]⟩, .bool false, .slice none 0 0, .slice none 0 0] 42) := ⟨_, rfl⟩
  rw [← hw1]
  have K1 : Keep [] w w1 := by rw [hw1]; exact (Keep.refl _ _).alloc _
  have hT1 : Blk w1 w.heap.size [.int .i64 3, .int .i64 32, .bool false, .int .i64 0, .int .i64 0, .int .i64 0, .string ⟨#[]⟩, .bool false, .slice none 0 0, .slice none 0 0] := by rw [hw1]; exact Blk.of_new rfl
  clear hw1
  go_loopw [9] (fun i wr => ∃ k : Nat, k ≤ n ∧ i = .int .i64 (k : Int) ∧ Keep [] w1 wr ∧ ∀ q ∈ l.take k, q.Plain q.num ∧ q.num < 4294967296) (fun i _ => n - (intOf i).toNat)
  case atStart => exact ⟨0, Nat.zero_le _, rfl, Keep.refl _ _, by simp⟩
  case round =>
    obtain ⟨k, hk, rfl, kk, hin⟩ := hrel
    have hT := hT1.keep kk (by simp)
    by_cases hk2 : k < n
    · obtain ⟨q, hq⟩ : ∃ q, l[k]? = some q := ⟨l[k]'(by rw [← Hn.out]; exact hk2), by simp⟩
      obtain ⟨a, rfl, c0, c1, c2, c3⟩ := Hc.out k q hq
      have kw := K1.trans kk (by simp)
      have d0 := kw.cell_some c0 (by simp)
      have d1 := kw.cell_some c1 (by simp)
      have d2 := kw.cell_some c2 (by simp)
      have d3 := kw.cell_some c3 (by simp)
      have hqu := Hu.out q (List.mem_of_getElem? hq)
      have step : (q.Plain q.num ∧ q.num < 4294967296) → ∀ y ∈ l.take (k + 1), y.Plain y.num ∧ y.num < 4294967296 := fun h y hy => by
        rw [List.take_succ_eq_append_getElem (by rw [← Hn.out]; exact hk2), List.mem_append, List.mem_singleton] at hy
        rcases hy with hy | rfl
        · exact hin y hy
        · rw [List.getElem?_eq_getElem (by rw [← Hn.out]; exact hk2)] at hq
          rw [Option.some.inj hq]; exact h
      have Hst := Lib.hid step
      have hF := fun w => oneFitsC q w hqu
      have t0 := hT.cell (i := 0) rfl
      have t1 := hT.cell (i := 1) rfl
      have t2 := hT.cell (i := 2) rfl
      have t3 := hT.cell (i := 3) rfl
      have t4 := hT.cell (i := 4) rfl
      have t5 := hT.cell (i := 5) rfl
      have t6 := hT.cell (i := 6) rfl
      have t7 := hT.cell (i := 7) rfl
      have t8 := hT.cell (i := 8) rfl
      have t9 := hT.cell (i := 9) rfl
      have htl := hT.lt
      have htn : ¬ w.heap.size = wr.heap.size := by omega
      clear c0 c1 c2 c3 hq step hin hT kw hqu
      obtain ⟨qn, qm, qt, qa, ql, qc⟩ := q
      simp only at d0 d1 d2 d3 hF
      cases qn with
      | true =>
        go_wp2
        go_ret
        unfold PlainPost; exact ⟨false, rfl, (K1.trans kk (by simp)).alloc _, by simp⟩
      | false =>
        go_wp2_with fail
        refine (hF _).mono ?_
        rintro e w3 ⟨b, rfl, k3, hb⟩
        cases b with
        | true =>
          obtain ⟨g1, g2, g3⟩ := hb rfl rfl
          have Hg := Lib.hid (Hst.out ⟨⟨rfl, rfl, g2, g1⟩, g3⟩)
          clear hb g1 g2 g3 hF
          go_wp2
          go_roundw
          case rel => exact ⟨k + 1, hk2, by go_num, (kk.alloc _).trans k3 (by simp), Hg.out⟩
          case measure => simp [intOf]; omega
        | false =>
          clear hb hF
          go_wp2
          go_ret
          unfold PlainPost; exact ⟨false, rfl, K1.trans ((kk.alloc _).trans k3 (by simp)) (by simp), by simp⟩
    · have hkn : n = k := by omega
      subst hkn
      rw [List.take_of_length_le (by rw [← Hn.out]; exact Nat.le_refl _)] at hin
      have hn5 : (n : Int) ≤ 500 := by omega
      have Hin := Lib.hid hin
      clear hin
      go_wp2
      go_ret
      unfold PlainPost; exact ⟨_, rfl, K1.trans kk (by simp), fun _ => Hin.out⟩
end Go.Proofs.YtlolcgklcnechaaGreatDoor
set_option linter.unusedVariables false
set_option linter.unusedSimpArgs false
namespace Go.Proofs.YtlolcgklcnechaaGreatDoor
open Go.RowKit

theorem run_widen (b : Nat) (w : World) : ∃ r w', (Conv.floatToFloat .f32 b .f64).run Tryz.prog w = .ok (.float .f64 r) w' ∧ Keep [] w w' := by
  unfold Conv.floatToFloat
  simp only [show (FloatKind.f32 = FloatKind.f64) = False by simp, if_false]
  cases h : FloatKind.f32.decode b with
  | nan s f =>
    simp only [go_sem, Sem.run]
    simp
    split
    · exact ⟨_, _, rfl, Keep.refl _ _⟩
    · exact ⟨_, _, rfl, (Keep.refl _ _).drew⟩
  | infinity s =>
    exact ⟨FloatKind.f64.encode (.infinity s), w, by simp, Keep.refl _ _⟩
  | number s m e =>
    simp
    split
    · split
      · exact ⟨_, _, rfl, Keep.refl _ _⟩
      · exact ⟨_, _, rfl, (Keep.refl _ _).drew⟩
    · exact ⟨_, _, rfl, Keep.refl _ _⟩

theorem run_frombits (x : Nat) (w : World) : (callFunc 110 #[.int .u32 (x : Int)]).run Tryz.prog w = .ok (.value (.float .f32 x)) w := by
  rw [run_callFunc_extern (e := Extern.MathFloatBits.float32frombits) Tryz.func110 (by kernel_rfl) (by kernel_rfl) (by kernel_rfl) (by kernel_rfl)]
  rfl

theorem run_tobits (x : Nat) (w : World) : (callFunc 104 #[.float .f32 x]).run Tryz.prog w = .ok (.value (.int .u32 (x : Int))) w := by
  rw [run_callFunc_extern (e := Extern.MathFloatBits.float32bits) Tryz.func104 (by kernel_rfl) (by kernel_rfl) (by kernel_rfl) (by kernel_rfl)]
  rfl

set_option maxRecDepth 100000 in
theorem floatOfC (x : Nat) (w : World) (hx : x < 4294967296) :
    Calls Tryz.prog 63 #[.int .i64 32, .int .u64 (x : Int)] w fun e w' => ∃ r, e = .returned (.float .f64 r) ∧ Keep [] w w' := by
  obtain ⟨r, w2, hr, k2⟩ := run_widen x w
  have hf := run_frombits x
  have hcv : (convert 102 136 (.float .f32 x)).run Tryz.prog w = .ok (.float .f64 r) w2 := by
    simp [convert, run_underlying Tryz.underlying102, run_underlying Tryz.underlying136]
    exact hr
  go_enter Tryz.func63, Tryz.ntmps63
  go_wp2
  go_ret
  exact ⟨r, rfl, k2⟩

def BoolPost (w : World) (e : Ending) (w' : World) : Prop := ∃ b : Bool, e = .returned (.bool b) ∧ Keep [] w w'

set_option maxRecDepth 100000 in
set_option maxHeartbeats 1000000 in
theorem plainFloatsC (v : Value) (l : List Vq) (w : World) (hV : ValsAt w v l) (hn : l.length ≤ 100) (hu : ∀ q ∈ l, q.num < 4294967296) :
    Calls Tryz.prog 20 #[.agg #[.int .i64 3, .int .i64 32, .bool false, .int .i64 0, .int .i64 0, .int .i64 0, .string ⟨#[]⟩, .bool false, .slice none 0 0, .slice none 0 0], v] w fun e w' => BoolPost w e w' := by
  obtain ⟨ao, cap, rfl, hc, hcell⟩ := hV
  obtain ⟨n, hn'⟩ : ∃ n, n = l.length := ⟨_, rfl⟩
  rw [← hn'] at hn hc ⊢
  have Hn := Lib.hid hn'
  have Hc := Lib.hid hcell
  have Hu := Lib.hid hu
  clear hn' hcell hu
  go_enter Tryz.func20, Tryz.ntmps20
  go_wp2_with fail
  obtain ⟨w1, hw1⟩ : ∃ w1, w1 = w.alloc (Obj.cells #[.int .i64 3, .int .i64 32, .bool false, .int .i64 0, .int .i64 0, .int .i64 0, .string ⟨#[]⟩, .bool false, .slice none 0 0, .slice none 0 0] 42) := ⟨_, rfl⟩
  rw [← hw1]
  have K1 : Keep [] w w1 := by rw [hw1]; exact (Keep.refl _ _).alloc _
  have hT1 : Blk w1 w.heap.size [.int .i64 3, .int .i64 32, .bool false, .int .i64 0, .int .i64 0, .int .i64 0, .string ⟨#[]⟩, .bool false, .slice none 0 0, .slice none 0 0] := by rw [hw1]; exact Blk.of_new rfl
  clear hw1
  go_loopw [10] (fun i wr => ∃ k : Nat, k ≤ n ∧ i = .int .i64 (k : Int) ∧ Keep [] w1 wr) (fun i _ => n - (intOf i).toNat)
  case atStart => exact ⟨0, Nat.zero_le _, rfl, Keep.refl _ _⟩
  case round =>
    obtain ⟨k, hk, rfl, kk⟩ := hrel
    have hT := hT1.keep kk (by simp)
    by_cases hk2 : k < n
    · obtain ⟨q, hq⟩ : ∃ q, l[k]? = some q := ⟨l[k]'(by rw [← Hn.out]; exact hk2), by simp⟩
      obtain ⟨a, rfl, c0, c1, c2, c3⟩ := Hc.out k q hq
      have kw := K1.trans kk (by simp)
      have d0 := kw.cell_some c0 (by simp)
      have d1 := kw.cell_some c1 (by simp)
      have d2 := kw.cell_some c2 (by simp)
      have d3 := kw.cell_some c3 (by simp)
      have hqu := Hu.out q (List.mem_of_getElem? hq)
      have hF := fun w => floatOfC q.num w hqu
      have t0 := hT.cell (i := 0) rfl
      have t1 := hT.cell (i := 1) rfl
      have htl := hT.lt
      have htn : ¬ w.heap.size = wr.heap.size := by omega
      have HT := Lib.hid hT
      clear c0 c1 c2 c3 hq hT kw hqu
      obtain ⟨qn, qm, qt, qa, ql, qc⟩ := q
      simp only at d0 d1 d2 d3 hF
      go_wp2_with fail
      have hBv : Blk (wr.alloc (Obj.cells #[.bool qn, .int .u64 (qm : Int), .string qt, .slice qa ql qc] 45)) wr.heap.size [.bool qn, .int .u64 (qm : Int), .string qt, .slice qa ql qc] := Blk.of_new rfl
      refine (hF _).mono ?_
      rintro e w3 ⟨r, rfl, k3⟩
      have K3 : Keep [] w1 w3 := (kk.alloc _).trans k3 (by simp)
      have hB3 := hBv.keep k3 (by simp)
      have hT3 := hT1.keep K3 (by simp)
      have b0 := hB3.cell (i := 0) rfl
      clear t0 t1
      have t0 := hT3.cell (i := 0) rfl
      obtain ⟨b1, hb1⟩ : ∃ b1, (FloatKind.f64.format.order r r != some .eq) = b1 := ⟨_, rfl⟩
      obtain ⟨b2, hb2⟩ : ∃ b2, (FloatKind.f64.format.order r 0 == some .eq) = b2 := ⟨_, rfl⟩
      clear hBv hB3 hT3 k3 hF d0 d1 d2 d3 htl htn
      cases qn with
      | true =>
        go_wp2
        go_roundw
        case rel => exact ⟨k + 1, hk2, by go_num, K3⟩
        case measure => simp [intOf]; omega
      | false =>
        cases b1 with
        | true =>
          go_wp2
          go_ret
          unfold BoolPost; exact ⟨_, rfl, K1.trans K3 (by simp)⟩
        | false =>
          cases b2 with
          | true =>
            go_wp2
            go_ret
            unfold BoolPost; exact ⟨_, rfl, K1.trans K3 (by simp)⟩
          | false =>
            go_wp2
            go_roundw
            case rel => exact ⟨k + 1, hk2, by go_num, K3⟩
            case measure => simp [intOf]; omega
    · have hkn : k = n := by omega
      subst hkn
      go_wp2
      go_ret
      unfold BoolPost; exact ⟨_, rfl, K1.trans kk (by simp)⟩
end Go.Proofs.YtlolcgklcnechaaGreatDoor
set_option linter.unusedVariables false
set_option linter.unusedSimpArgs false
namespace Go.Proofs.YtlolcgklcnechaaGreatDoor
open Go.RowKit

def ByIndexPost (rs : List Rq) (width : Int) (w : World) (e : Ending) (w' : World) : Prop :=
  ∃ dv av ok, e = .returned (.tuple #[dv, av, .bool ok]) ∧ Keep [] w w' ∧ (ok = false → av = .slice none 0 0) ∧
    (ok = true → ∃ W : Nat, width = (W : Int) ∧ 0 < W ∧ W ≤ 20 ∧ rs.length ≤ 40 ∧ (∀ r ∈ rs, r.Ok W) ∧ RowAt w' dv .u8 (W :: encR W (rs.map Rq.rn)) ∧ RowAt w' av .u64 (rs.flatMap Rq.all))

theorem encR_short {W : Nat} (hW : W ≤ 20) : ∀ (rs : List Rq), (∀ r ∈ rs, r.Ok W) → (encR W (rs.map Rq.rn)).length ≤ rs.length * 500
  | [], _ => by simp [encR]
  | r :: rs, h => by
    have h1 := Rq.enc_length (h r (by simp)) hW
    have h2 := encR_short hW rs (fun x hx => h x (by simp [hx]))
    have e : encR W ((r :: rs).map Rq.rn) = r.rn.enc W ++ encR W (rs.map Rq.rn) := by simp [encR]
    rw [e, List.length_append, List.length_cons, Nat.succ_mul]
    omega

set_option maxRecDepth 100000 in
set_option maxHeartbeats 1000000 in
theorem byIndexC (v : Value) (rs : List Rq) (width : Int) (w : World) (hP : RunsAt w v rs) (hu : ∀ r ∈ rs, ∀ x ∈ r.vs, x < 18446744073709551616) (hl : ∀ r ∈ rs, r.vs.length ≤ 2147483647) (hct : ∀ r ∈ rs, -9223372036854775808 ≤ r.count ∧ r.count ≤ 9223372036854775807) :
    Calls Tryz.prog 17 #[v, .int .i64 width] w fun e w' => ByIndexPost rs width w e w' := by
  have hP0 := hP
  obtain ⟨ao, cap, rfl, -⟩ := hP
  obtain ⟨n, hn'⟩ : ∃ n, n = rs.length := ⟨_, rfl⟩
  rw [← hn'] at hP0 ⊢
  have Hn := Lib.hid hn'
  have HP := Lib.hid hP0
  have Hu := Lib.hid (And.intro hu (And.intro hl hct))
  clear hn' hP0 hu hl hct
  obtain ⟨i0, hi, hz0, hz1, hz2⟩ := info_parts info_u8
  by_cases h1 : width < 1
  · go_enter Tryz.func17, Tryz.ntmps17
    go_wp2
    go_ret3
    unfold ByIndexPost; exact ⟨_, _, false, rfl, Keep.refl _ _, fun _ => rfl, by simp⟩
  by_cases h2 : 20 < width
  · go_enter Tryz.func17, Tryz.ntmps17
    go_wp2
    go_ret3
    unfold ByIndexPost; exact ⟨_, _, false, rfl, Keep.refl _ _, fun _ => rfl, by simp⟩
  obtain ⟨W, rfl⟩ : ∃ W : Nat, width = (W : Int) := ⟨width.toNat, by omega⟩
  have hW0 : 0 < W := by omega
  have hW : W ≤ 20 := by omega
  have hwr : IntKind.u8.wrap (W : Int) = (W : Int) := by rw [IntKind.wrap_u8]; omega
  go_enter Tryz.func17, Tryz.ntmps17
  go_wp2_with fail
  refine (runsFitC _ rs W _ HP.out hW0 hW Hu.out.1 Hu.out.2.1 Hu.out.2.2).mono ?_
  rintro e w2 ⟨av, ok, rfl, k2, hok⟩
  cases ok with
  | false =>
    go_wp2
    go_ret3
    unfold ByIndexPost; exact ⟨_, _, false, rfl, k2, fun _ => rfl, by simp⟩
  | true =>
    obtain ⟨h40, hrok, hG⟩ := hok rfl
    have hal := hG.row
    have HA := Lib.hid (And.intro h40 (And.intro hrok hal))
    clear hok h40 hrok hG hal
    go_wp2_with fail
    have hPn := HP.out.keep (k2.alloc (.cells #[.int .u8 (W : Int)] 5))
    refine (putRunsC _ rs W _ hPn hW0 hW HA.out.2.1 HA.out.1).mono ?_
    rintro e w3 ⟨pv, rfl, k3, hG3⟩
    have hR3 := hG3.row
    obtain ⟨pa, pc, rfl, -, -⟩ := hR3.open
    obtain ⟨N, hN⟩ : ∃ N, N = (encR W (rs.map Rq.rn)).length := ⟨_, rfl⟩
    have hNb : N ≤ 20000 := by
      have := encR_short hW rs HA.out.2.1
      have := HA.out.1
      omega
    rw [← hN] at hR3 ⊢
    have hB3 : GrowS w2.heap.size [] w3 (.slice (some ⟨w2.heap.size, 0, none⟩) 1 1) .u8 [W] :=
      .inr ⟨w2.heap.size, 1, rowV .u8 [W], rfl, Nat.le_refl _, by simp, (Blk.new w2 (rowV .u8 [W]) 5).keep k3 (by simp), rfl, rfl, Nat.le_refl _⟩
    have k23 : Keep [] w2 w3 := ((Keep.refl [] w2).alloc _).trans k3 (by simp)
    have H3 := Lib.hid (And.intro hR3 (And.intro hN (And.intro hB3 k23)))
    clear hR3 hN hB3 hG3 k23 hPn k3
    go_wp2_with (at_builtin; refine halt ?_)
    refine Lib.hid ?_
    refine wpList_append_grow rfl _ _ 28 _ rfl i0 1 Tryz.underlying28 hi hz0 hz1 hz2 rfl H3.out.2.2.1 H3.out.2.2.2.size (by simp) _ (encR W (rs.map Rq.rn)) rfl (H3.out.1.src Tryz.underlying28) (by rw [← H3.out.2.1]; simp; omega) (by rw [← H3.out.2.1]; simp; omega) ?_
    intro v4 w4 S hG4 k4 hS4
    have K24 : Keep [] w2 w4 := H3.out.2.2.2.trans k4 (fun b hb => .inr (hS4 b hb).1)
    have HG4 := Lib.hid hG4
    clear hG4 k4 hS4
    go_wp2
    go_ret3
    unfold ByIndexPost; exact ⟨_, _, true, rfl, k2.trans K24 (by simp), by simp, fun _ => ⟨W, rfl, hW0, hW, HA.out.1, HA.out.2.1, HG4.out.row, HA.out.2.2.keep K24⟩⟩

theorem batchOn_lt {n : Nat} : ∀ (bs : List Int) (k : Nat) (out : List Nat) (at' : Nat), batchOn (List.range n) (bs.take k) = some (out, at') → ∀ x ∈ out, x < n := by
  intro bs k
  induction k with
  | zero =>
    intro out at' h x hx
    have : out = [] := by simpa [batchOn] using (congrArg Prod.fst (Option.some.inj h)).symm
    rw [this] at hx; cases hx
  | succ k ih =>
    intro out at' h x hx
    by_cases hk : k < bs.length
    · rw [batchOn_take_succ _ _ _ hk] at h
      cases hc : batchOn (List.range n) (bs.take k) with
      | none => rw [hc] at h; cases h
      | some s =>
        obtain ⟨o, a⟩ := s
        rw [hc] at h
        obtain ⟨h1, h2, h3⟩ := batchStep_some (show batchStep (List.range n) (o, a) bs[k] = some (out, at') from h)
        rw [h2, List.mem_append] at hx
        rcases hx with hx | hx
        · exact ih o a hc x hx
        · have := List.mem_of_mem_drop (List.mem_of_mem_take hx)
          simpa using this
    · rw [List.take_of_length_le (by omega)] at h
      exact ih out at' (by rw [List.take_of_length_le (by omega)]; exact h) x hx

theorem GrowC.lower {α : Type} {cf : α → List Value} {sz lo lo' : Nat} {av : List Nat} {w : World} {v : Value} {l : List α} (h : GrowC cf sz lo av w v l) (hl : lo' ≤ lo) : GrowC cf sz lo' av w v l := by
  rcases h with h | ⟨g, c, cs, h1, h2, h3⟩
  · exact .inl h
  · exact .inr ⟨g, c, cs, h1, by omega, h3⟩

def BatchedValuesPost (l : List Vq) (bs : List Int) (w : World) (e : Ending) (w' : World) : Prop :=
  ∃ v ok, e = .returned (.tuple #[v, .bool ok]) ∧ Keep [] w w' ∧ (ok = true → bs.length ≤ 50 ∧ ∃ out at', batchOn (List.range l.length) bs = some (out, at') ∧ GrowC Vq.cells 4 w.heap.size [] w' v (pick l out))

set_option maxRecDepth 100000 in
set_option maxHeartbeats 2000000 in
theorem batchedValuesC (v bv : Value) (l : List Vq) (bs : List Int) (w : World) (hV : ValsAt w v l) (hB : IntsAt w bv bs) (hb : ∀ x ∈ bs, -9223372036854775808 ≤ x ∧ x ≤ 9223372036854775807) (hn : l.length ≤ 20000) (hbn : bs.length ≤ 2147483648) :
    Calls Tryz.prog 21 #[v, bv] w fun e w' => BatchedValuesPost l bs w e w' := by
  obtain ⟨ao, cap, rfl, hc, hcell⟩ := hV
  obtain ⟨n, hn'⟩ : ∃ n, n = l.length := ⟨_, rfl⟩
  rw [← hn'] at hn hc ⊢
  obtain ⟨i0, hi, hz, hsz, hby⟩ := info_val_parts
  have Hn := Lib.hid hn'
  have Hc := Lib.hid hcell
  have HB := Lib.hid (And.intro hB hb)
  obtain ⟨bo, bcap, rfl, -⟩ := hB.open
  obtain ⟨mb, hmb⟩ : ∃ mb, mb = bs.length := ⟨_, rfl⟩
  rw [← hmb] at HB ⊢
  have Hmb := Lib.hid hmb
  clear hn' hcell hB hb hmb
  go_enter Tryz.func21, Tryz.ntmps21
  go_wp2_with fail
  refine (counted0C n w (by omega)).mono ?_
  rintro e w2 ⟨cv, rfl, k2, hG2⟩
  have hR2 := hG2.row
  obtain ⟨ca, cc, rfl, -, -⟩ := hR2.open
  have hBt := batchedC _ _ (List.range n) bs w2 hR2 (HB.out.1.keep k2) HB.out.2 (by simp; omega) hbn
  have hln : (List.range n).length = n := by simp
  rw [hln] at hBt ⊢
  clear hG2 hR2 hln
  go_wp2_with fail
  refine hBt.mono ?_
  rintro e w3 ⟨av, ok, rfl, k3, hok⟩
  clear hBt
  have K3 := k2.trans k3 (by simp)
  cases ok with
  | false =>
    go_wp2
    go_ret2
    unfold BatchedValuesPost; exact ⟨_, false, rfl, K3, by simp⟩
  | true =>
    obtain ⟨h50, out, at', hbo, hG3⟩ := hok rfl
    have hlt := batchOn_lt (n := n) bs bs.length out at' (by rw [List.take_length]; exact hbo)
    have hle := batchOn_le bs.length bs out at' (by rw [List.take_length]; exact hbo)
    have hR3 := hG3.row
    obtain ⟨oa, oc, rfl, hoc, hocell⟩ := hR3.open
    obtain ⟨m, hm⟩ : ∃ m, m = out.length := ⟨_, rfl⟩
    have hmn : m ≤ n := by
      have := hle.1; have := hle.2
      simp at *
      omega
    rw [← hm] at hoc ⊢
    have H3 := Lib.hid (And.intro h50 (And.intro hbo (And.intro hlt (And.intro hm hocell))))
    clear hok h50 hbo hG3 hlt hle hR3 hm hocell
    go_wp2_with fail
    go_loopw [23, 8] (fun i ov wr => ∃ j : Nat, j ≤ m ∧ i = .int .i64 (j : Int) ∧ Keep [] w3 wr ∧ GrowC Vq.cells 4 w3.heap.size [] wr ov (pick l (out.take j))) (fun i _ _ => m - (intOf i).toNat)
    case atStart => exact ⟨0, Nat.zero_le _, rfl, Keep.refl _ _, .inl ⟨rfl, rfl⟩⟩
    case round =>
      obtain ⟨j, hj, rfl, kk, hG⟩ := hrel
      obtain ⟨pa, pc, rfl, -⟩ := hG.shape
      obtain ⟨N, hN⟩ : ∃ N, N = (pick l (out.take j)).length := ⟨_, rfl⟩
      have hNj : N ≤ j := by rw [hN]; simp [pick]; omega
      rw [← hN] at hG ⊢
      have HG := Lib.hid (And.intro hG hN)
      clear hG hN
      by_cases hj2 : j < m
      · obtain ⟨h50, hbo, hlt, hm, hocell⟩ := H3.out
        obtain ⟨k, hk⟩ : ∃ k, out[j]? = some k := ⟨out[j]'(by omega), by simp⟩
        obtain ⟨b, rfl, hcb⟩ := hocell j k hk
        have hcb := kk.cell_some hcb (by simp)
        have hkn := hlt k (List.mem_of_getElem? hk)
        have hnext := pick_snoc (l := l) hk
        obtain ⟨q, hq⟩ : ∃ q, l[k]? = some q := ⟨l[k]'(by rw [← Hn.out]; exact hkn), by simp⟩
        obtain ⟨a, rfl, c0, c1, c2, c3⟩ := Hc.out k q hq
        have kw := K3.trans kk (by simp)
        have d0 := kw.cell_some c0 (by simp)
        have d1 := kw.cell_some c1 (by simp)
        have d2 := kw.cell_some c2 (by simp)
        have d3 := kw.cell_some c3 (by simp)
        have hgd : l.getD k dq = q := by simp [List.getD, hq]
        have Hq := Lib.hid (And.intro hgd hnext)
        clear c0 c1 c2 c3 hgd hq hnext hk kw h50 hbo hlt hm hocell
        obtain ⟨qn, qm, qt, qa, ql, qc⟩ := q
        simp only at d0 d1 d2 d3
        go_wp2_with (at_builtin; refine halt ?_)
        refine Lib.hid ?_
        refine wpList_append_growC Vq.cells_length (by omega) rfl _ _ 34 _ rfl i0 56 Tryz.underlying34 hi hz hsz hby rfl (HG.out.1.keep (S := []) ((Keep.refl [] wr).alloc _) (by simp)) (by simp; exact Nat.le_succ_of_le kk.size) (by simp) _ [⟨qn, qm, qt, qa, ql, qc⟩] rfl (Src.oneC Vq.cells_length Vq.cells_one Tryz.underlying34 (Blk.new wr (Vq.cells ⟨qn, qm, qt, qa, ql, qc⟩) _)) (by rw [← HG.out.2]; simp; omega) (by rw [← HG.out.2]; simp; omega) ?_
        intro v5 w5 S hG5 k5 hS5
        have K5 : Keep [] w3 w5 := (kk.alloc _).trans k5 (fun b hb => .inr (hS5 b hb).1)
        have HG5 := Lib.hid hG5
        clear hG5 k5 hS5
        go_wp2
        go_roundw
        case rel =>
          refine ⟨j + 1, hj2, by go_num, K5, ?_⟩
          rw [Hq.out.2, Hq.out.1]
          exact HG5.out
        case measure => simp [intOf]; omega
      · have hjm : m = j := by omega
        subst hjm
        go_wp2
        go_ret2
        obtain ⟨h50, hbo, hlt, hm, hocell⟩ := H3.out
        obtain ⟨hG, hN⟩ := HG.out
        rw [List.take_of_length_le (by rw [← hm]; exact Nat.le_refl _)] at hG
        unfold BatchedValuesPost; exact ⟨.slice pa N pc, true, rfl, K3.trans kk (by simp), fun _ => ⟨h50, out, at', by rw [← Hn.out]; exact hbo, hG.lower K3.size⟩⟩
end Go.Proofs.YtlolcgklcnechaaGreatDoor
set_option linter.unusedVariables false
set_option linter.unusedSimpArgs false
namespace Go.Proofs.YtlolcgklcnechaaGreatDoor
open Go.RowKit

theorem GrowS.lower {lo lo' : Nat} {av : List Nat} {w : World} {v : Value} {k : IntKind} {l : List Nat} (h : GrowS lo av w v k l) (hl : lo' ≤ lo) : GrowS lo' av w v k l := by
  rcases h with h | ⟨g, c, cs, h1, h2, h3⟩
  · exact .inl h
  · exact .inr ⟨g, c, cs, h1, by omega, h3⟩

set_option maxRecDepth 100000 in
set_option maxHeartbeats 1000000 in
theorem plainBytesC (q : Vq) (w : World) :
    Calls Tryz.prog 59 #[.agg #[.int .i64 3, .int .i64 32, .bool false, .int .i64 0, .int .i64 0, .int .i64 0, .string ⟨#[]⟩, .bool false, .slice none 0 0, .slice none 0 0], .agg #[.bool q.null, .int .u64 (q.num : Int), .string q.text, .slice q.ka q.kl q.kc]] w fun e w' => ∃ v, e = .returned v ∧ Keep [] w w' ∧ GrowS w.heap.size [] w' v .u8 (leBytes 4 q.num) := by
  obtain ⟨qn, qm, qt, qa, ql, qc⟩ := q
  simp only
  obtain ⟨i0, hi, hz0, hz1, hz2⟩ := info_parts info_u8
  go_enter Tryz.func59, Tryz.ntmps59
  go_wp2_with fail
  have hBv : Blk ((w.alloc (Obj.cells #[.int .i64 3, .int .i64 32, .bool false, .int .i64 0, .int .i64 0, .int .i64 0, .string ⟨#[]⟩, .bool false, .slice none 0 0, .slice none 0 0] 42)).alloc (Obj.cells #[.bool qn, .int .u64 (qm : Int), .string qt, .slice qa ql qc] 45)) (w.heap.size + 1) [.bool qn, .int .u64 (qm : Int), .string qt, .slice qa ql qc] := Blk.of_new (by simp)
  refine (oneBitsC _).mono ?_
  rintro e w2 ⟨rfl, k2⟩
  have K2 : Keep [] w w2 := (((Keep.refl [] w).alloc _).alloc _).trans k2 (by simp)
  have hB2 := hBv.keep k2 (by simp)
  have HB := Lib.hid hB2
  clear hBv hB2 k2
  go_wp2_with fail
  go_loopw [7, 8] (fun ov i wr => ∃ k : Nat, k ≤ 4 ∧ i = .int .i64 (k : Int) ∧ Keep [] w2 wr ∧ GrowS w2.heap.size [] wr ov .u8 (leBytes k qm)) (fun _ i _ => 4 - (intOf i).toNat)
  case atStart => exact ⟨0, by omega, rfl, Keep.refl _ _, .inl ⟨rfl, rfl⟩⟩
  case round =>
    obtain ⟨q, hq, rfl, K7, hG7⟩ := hrel
    have hG7' := hG7
    obtain ⟨oa7, oc7, rfl, -, -⟩ := hG7.row.open
    rw [length_leBytes] at hG7' ⊢
    have cb1 := (HB.out.keep K7 (by simp)).cell (i := 1) rfl
    have H7 := Lib.hid hG7'
    clear hG7 hG7'
    by_cases hq2 : q < 4
    · have hq2i : (q : Int) < 4 := by omega
      obtain ⟨q8, hq8⟩ : ∃ q8, q8 = 8 * q := ⟨_, rfl⟩
      have hq8i : 8 * (q : Int) = (q8 : Int) := by omega
      have hq8b : q8 ≤ 24 := by omega
      obtain ⟨z, hz⟩ : ∃ z, z = qm / 2 ^ q8 := ⟨_, rfl⟩
      have hzi : (qm : Int) / 2 ^ q8 = (z : Int) := by rw [hz, Int.natCast_ediv, Int.natCast_pow]; rfl
      obtain ⟨y, hy⟩ : ∃ y, y = z % 256 := ⟨_, rfl⟩
      have hyi : (z : Int) % 256 = (y : Int) := by omega
      have hnx : leBytes (q + 1) qm = leBytes q qm ++ [y] := by
        rw [leBytes_add, hy, hz, hq8]
        congr 1
        simp only [leBytes]
        rw [show (256 : Nat) = 2 ^ 8 from rfl, ← Nat.pow_mul]
      have Hy := Lib.hid hnx
      clear hq8 hz hy hnx
      go_wp2_with (at_builtin; refine halt ?_)
      refine Lib.hid ?_
      refine wpList_append_grow rfl _ _ 28 _ rfl i0 1 Tryz.underlying28 hi hz0 hz1 hz2 rfl (H7.out.keep (S := []) ((Keep.refl [] wr).alloc _) (by simp)) (by simp; exact Nat.le_succ_of_le K7.size) (by simp) _ [y] rfl (Src.blk Tryz.underlying28 (Blk.new wr (rowV .u8 [y]) _) rfl rfl) (by simp; omega) (by simp; omega) ?_
      intro v8 w8 S8 hG8 k8 hS8
      have K8 : Keep [] w2 w8 := (K7.alloc _).trans k8 (fun b hb => .inr (hS8 b hb).1)
      have H8 := Lib.hid hG8
      clear cb1 hG8 k8 hS8
      go_wp2
      go_roundw
      case rel =>
        refine ⟨q + 1, by omega, by go_num, K8, ?_⟩
        rw [Hy.out]
        exact H8.out
      case measure => simp [intOf]; omega
    · have hqc : q = 4 := by omega
      subst hqc
      go_wp2
      go_ret
      exact ⟨_, rfl, K2.trans K7 (by simp), H7.out.lower K2.size⟩

/-- The values' bytes, one behind the other. -/
def bytesOf (l : List Vq) : List Nat := l.flatMap fun q => leBytes 4 q.num

theorem bytesOf_length : ∀ l : List Vq, (bytesOf l).length = 4 * l.length
  | [] => rfl
  | q :: l => by
    have := bytesOf_length l
    unfold bytesOf at this ⊢
    rw [List.flatMap_cons, List.length_append, this, length_leBytes, List.length_cons]
    omega

theorem bytesOf_take {l : List Vq} {k : Nat} {q : Vq} (hq : l[k]? = some q) : bytesOf (l.take (k + 1)) = bytesOf (l.take k) ++ leBytes 4 q.num := by
  have hk : k < l.length := by
    rcases Nat.lt_or_ge k l.length with h | h
    · exact h
    · rw [List.getElem?_eq_none h] at hq; cases hq
  rw [List.take_succ_eq_append_getElem hk]
  rw [List.getElem?_eq_getElem hk] at hq
  rw [Option.some.inj hq]
  simp [bytesOf]

set_option maxRecDepth 100000 in
set_option maxHeartbeats 1000000 in
theorem plainlyC (v : Value) (l : List Vq) (w : World) (hV : ValsAt w v l) (hn : l.length ≤ 100) :
    Calls Tryz.prog 15 #[.agg #[.int .i64 3, .int .i64 32, .bool false, .int .i64 0, .int .i64 0, .int .i64 0, .string ⟨#[]⟩, .bool false, .slice none 0 0, .slice none 0 0], v] w fun e w' => ∃ v, e = .returned v ∧ Keep [] w w' ∧ GrowS w.heap.size [] w' v .u8 (bytesOf l) := by
  obtain ⟨ao, cap, rfl, hc, hcell⟩ := hV
  obtain ⟨n, hn'⟩ : ∃ n, n = l.length := ⟨_, rfl⟩
  rw [← hn'] at hn hc ⊢
  have Hn := Lib.hid hn'
  have Hc := Lib.hid hcell
  clear hn' hcell
  obtain ⟨i0, hi, hz0, hz1, hz2⟩ := info_parts info_u8
  go_enter Tryz.func15, Tryz.ntmps15
  go_wp2_with fail
  obtain ⟨w1, hw1⟩ : ∃ w1, w1 = w.alloc (Obj.cells #[.int .i64 3, .int .i64 32, .bool false, .int .i64 0, .int .i64 0, .int .i64 0, .string ⟨#[]⟩, .bool false, .slice none 0 0, .slice none 0 0] 42) := ⟨_, rfl⟩
  rw [← hw1]
  have K1 : Keep [] w w1 := by rw [hw1]; exact (Keep.refl _ _).alloc _
  have hT1 : Blk w1 w.heap.size [.int .i64 3, .int .i64 32, .bool false, .int .i64 0, .int .i64 0, .int .i64 0, .string ⟨#[]⟩, .bool false, .slice none 0 0, .slice none 0 0] := by rw [hw1]; exact Blk.of_new rfl
  clear hw1
  go_loopw [10, 5] (fun i ov wr => ∃ k : Nat, k ≤ n ∧ i = .int .i64 (k : Int) ∧ Keep [] w1 wr ∧ GrowS w1.heap.size [] wr ov .u8 (bytesOf (l.take k))) (fun i _ _ => n - (intOf i).toNat)
  case atStart => exact ⟨0, Nat.zero_le _, rfl, Keep.refl _ _, .inl ⟨rfl, rfl⟩⟩
  case round =>
    obtain ⟨k, hk, rfl, kk, hG⟩ := hrel
    have hT := hT1.keep kk (by simp)
    have hG' := hG
    obtain ⟨oa, oc, rfl, -, -⟩ := hG.row.open
    have hNl : (bytesOf (l.take k)).length = 4 * k := by rw [bytesOf_length, List.length_take]; have := Hn.out; omega
    obtain ⟨N, hN⟩ : ∃ N, N = (bytesOf (l.take k)).length := ⟨_, rfl⟩
    rw [← hN] at hG' hNl ⊢
    have HG := Lib.hid (And.intro hG' (And.intro hN hNl))
    clear hG hG' hN hNl
    by_cases hk2 : k < n
    · obtain ⟨q, hq⟩ : ∃ q, l[k]? = some q := ⟨l[k]'(by rw [← Hn.out]; exact hk2), by simp⟩
      obtain ⟨a, rfl, c0, c1, c2, c3⟩ := Hc.out k q hq
      have kw := K1.trans kk (by simp)
      have d0 := kw.cell_some c0 (by simp)
      have d1 := kw.cell_some c1 (by simp)
      have d2 := kw.cell_some c2 (by simp)
      have d3 := kw.cell_some c3 (by simp)
      have hF := fun w => plainBytesC q w
      have t0 := hT.cell (i := 0) rfl
      have t1 := hT.cell (i := 1) rfl
      have t2 := hT.cell (i := 2) rfl
      have t3 := hT.cell (i := 3) rfl
      have t4 := hT.cell (i := 4) rfl
      have t5 := hT.cell (i := 5) rfl
      have t6 := hT.cell (i := 6) rfl
      have t7 := hT.cell (i := 7) rfl
      have t8 := hT.cell (i := 8) rfl
      have t9 := hT.cell (i := 9) rfl
      have htl := hT.lt
      have htn : ¬ w.heap.size = wr.heap.size := by omega
      have Hq := Lib.hid (bytesOf_take hq)
      clear c0 c1 c2 c3 hq hT kw
      obtain ⟨qn, qm, qt, qa, ql, qc⟩ := q
      simp only at d0 d1 d2 d3 hF
      go_wp2_with fail
      refine (hF _).mono ?_
      rintro e w3 ⟨pv, rfl, k3, hG3⟩
      have hR3 := hG3.row
      obtain ⟨pa, pc, rfl, -, -⟩ := hR3.open
      rw [length_leBytes] at hR3 ⊢
      have K3 : Keep [] w1 w3 := (kk.alloc _).trans k3 (by simp)
      have HR := Lib.hid (And.intro hR3 ((HG.out.1.keep ((Keep.refl [] wr).alloc _) (by simp)).keep k3 (by simp)))
      clear hR3 hG3 k3 hF d0 d1 d2 d3 t0 t1 t2 t3 t4 t5 t6 t7 t8 t9 htl htn
      go_wp2_with (at_builtin; refine halt ?_)
      refine Lib.hid ?_
      refine wpList_append_grow rfl _ _ 28 _ rfl i0 1 Tryz.underlying28 hi hz0 hz1 hz2 rfl HR.out.2 K3.size (by simp) _ (leBytes 4 qm) rfl (HR.out.1.src Tryz.underlying28) (by rw [← HG.out.2.1, length_leBytes]; have := HG.out.2.2; omega) (by rw [← HG.out.2.1, length_leBytes]; have := HG.out.2.2; omega) ?_
      intro v8 w8 S8 hG8 k8 hS8
      have K8 : Keep [] w1 w8 := K3.trans k8 (fun b hb => .inr (hS8 b hb).1)
      have H8 := Lib.hid hG8
      clear hG8 k8 hS8
      go_wp2
      go_roundw
      case rel =>
        refine ⟨k + 1, by omega, by go_num, K8, ?_⟩
        rw [Hq.out]
        exact H8.out
      case measure => simp [intOf]; omega
    · have hkn : n = k := by omega
      subst hkn
      go_wp2
      go_ret
      have := HG.out.1
      rw [List.take_of_length_le (by rw [← Hn.out]; exact Nat.le_refl _)] at this
      exact ⟨_, rfl, K1.trans kk (by simp), this.lower K1.size⟩
end Go.Proofs.YtlolcgklcnechaaGreatDoor
