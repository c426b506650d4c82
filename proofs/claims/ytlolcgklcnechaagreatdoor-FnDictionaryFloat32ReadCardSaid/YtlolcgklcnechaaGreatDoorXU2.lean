/- Straight lines of code that read words and lay numbers (unpackN_32): one law for all of them. -/
import Derived.Test.YtlolcgklcnechaaGreatDoorXU0
set_option linter.unusedVariables false
set_option linter.unusedSimpArgs false
namespace Go.Proofs.YtlolcgklcnechaaGreatDoor
open Go.RowKit

section
variable (ρ : Operand → Value) (o : Oper) (w : World)
theorem x_move (x : Operand) (ho : o.op = .move x) : (execOp ρ o).run Tryz.prog w = .ok (.value (ρ x)) w := by simp [execOp, ho, go_sem]
theorem x_load (k : Operand) (p : Addr) (v : Value) (ho : o.op = .load 202 k) (hρ : ρ k = .pointer (some p)) (hc : w.cell? p = some v) :
    (execOp ρ o).run Tryz.prog w = .ok (.value v) w := by
  simp [execOp, ho, hρ, go_sem, hc]
theorem x_shr (x : Operand) (n s : Nat) (ho : o.op = .binOp .shr 202 x (.const (.int .u64 (s : Int))) 161) (hρ : ρ x = .int .u32 (n : Int)) (hk : ρ (.const (.int .u64 (s : Int))) = .int .u64 (s : Int)) (hs : s < 32):
    (execOp ρ o).run Tryz.prog w = .ok (.value (.int .u32 ((n / 2 ^ s : Nat) : Int))) w := by
  have h1 : ¬ (s : Int) < 0 := by omega
  simp [execOp, ho, hρ, hk, go_sem]
theorem x_shl (x : Operand) (n s : Nat) (ho : o.op = .binOp .shl 202 x (.const (.int .u64 (s : Int))) 161) (hρ : ρ x = .int .u32 (n : Int)) (hk : ρ (.const (.int .u64 (s : Int))) = .int .u64 (s : Int)) (hs : s < 32):
    (execOp ρ o).run Tryz.prog w = .ok (.value (.int .u32 ((n * 2 ^ s % 4294967296 : Nat) : Int))) w := by
  have h1 : ¬ (s : Int) < 0 := by omega
  simp [execOp, ho, hρ, hk, go_sem, IntKind.wrap_u32']
theorem x_rem (x : Operand) (n m : Nat) (ho : o.op = .binOp .rem 202 x (.const (.int .u32 (m : Int))) 202) (hρ : ρ x = .int .u32 (n : Int)) (hk : ρ (.const (.int .u32 (m : Int))) = .int .u32 (m : Int)) (hm : 0 < m) (hn : n < 4294967296) :
    (execOp ρ o).run Tryz.prog w = .ok (.value (.int .u32 ((n % m : Nat) : Int))) w := by
  have hm0 : ¬ m = 0 := by omega
  simp [execOp, ho, hρ, hk, go_sem, hm0, Int.tmod_eq_emod_of_nonneg]
theorem x_idx (x : Operand) (g go len cap k : Nat) (ho : o.op = .indexAddr 275 x (.const (.int .i64 (k : Int)))) (hρ : ρ x = .slice (some ⟨g, go, none⟩) len cap) (hk : ρ (.const (.int .i64 (k : Int))) = .int .i64 (k : Int)) (hkl : k < len) :
    (execOp ρ o).run Tryz.prog w = .ok (.value (.pointer (some ⟨g, go + k, none⟩))) w := by
  have h2 : (k : Int) < (len : Int) := by omega
  simp [execOp, ho, hρ, hk, go_sem, h2]
theorem x_store (x y : Operand) (p : Addr) (n : Nat) (u : Value) (ho : o.op = .store 202 x y) (hρ : ρ x = .pointer (some p)) (hy : ρ y = .int .u32 (n : Int)) (hc : w.cell? p = some u) (hf : w.frozen? p = false) :
    (execOp ρ o).run Tryz.prog w = .ok .skip (w.setCell p (.int .u32 (n : Int))) := by
  simp [execOp, ho, hρ, hy, go_sem, hc, hf]
theorem x_or (x y : Operand) (n m : Nat) (ho : o.op = .binOp .or 202 x y 202) (hρ : ρ x = .int .u32 (n : Int)) (hy : ρ y = .int .u32 (m : Int)) (hn : n < 4294967296) (hm : m < 4294967296) :
    (execOp ρ o).run Tryz.prog w = .ok (.value (.int .u32 ((n ||| m : Nat) : Int))) w := by
  simp [execOp, ho, hρ, hy, go_sem, u32_or_nat n m hn hm]
theorem run_readLittle (u v : Value) : (callFunc 231 #[u, v]).run Tryz.prog w = .ok (.enter 231 #[u, v]) w := by kernel_rfl
theorem x_call (x y : Operand) (ts : Array TypeId) (ho : o.op = .call { callee := .value (.func 231), args := #[x, y], argTypes := ts }) (hf : ρ (.func 231) = .func (.func 231) #[] #[]) :
    (execOp ρ o).run Tryz.prog w = .ok (.enter 231 #[ρ x, ρ y]) w := by
  simp [execOp, ho, hf, go_sem, resolve, invoke, run_readLittle]
end

theorem eval_put_ne {a : Act} {k j : Nat} {v : Value} (h : j ≠ k) : (a.put (some k) v).eval (.tmp j) = a.eval (.tmp j) := by
  simp [Act.put, Act.eval, Array.getD_eq_getD_getElem?, Array.getElem?_setIfInBounds, Ne.symm h]
theorem eval_put_eq {a : Act} {k : Nat} {v : Value} (h : k < a.tmps.size) : (a.put (some k) v).eval (.tmp k) = v := by
  simp [Act.put, Act.eval, Array.getD_eq_getD_getElem?, Array.getElem?_setIfInBounds, h]
@[simp] theorem eval_const (a : Act) (v : Value) : a.eval (.const v) = v := rfl
@[simp] theorem size_put (a : Act) (d : Option Tmp) (v : Value) : (a.put d v).tmps.size = a.tmps.size := by cases d <;> simp [Act.put]
@[simp] theorem defers_put (a : Act) (d : Option Tmp) (v : Value) : (a.put d v).defers = a.defers := by cases d <;> simp [Act.put]

theorem wpList_val {P : Program} {ops : Array Oper} {Q : Exit → Act → World → Prop} {a : Act} {w : World} {o : Oper} {rest : List Oper} (v : Value) (hg : o.guard = none) (hx : (execOp a.eval o).run P w = .ok (.value v) w)
    (h : wpList P ops Q rest (a.put o.dst v) w) : wpList P ops Q (o :: rest) a w :=
  wpList_plain hg fun K hK => by unfold Oper.wp; rw [hx]; exact hK _ _ h
theorem wpList_skip {P : Program} {ops : Array Oper} {Q : Exit → Act → World → Prop} {a : Act} {w w' : World} {o : Oper} {rest : List Oper} (hg : o.guard = none) (hx : (execOp a.eval o).run P w = .ok .skip w')
    (h : wpList P ops Q rest (a.put o.dst undef) w') : wpList P ops Q (o :: rest) a w :=
  wpList_plain hg fun K hK => by unfold Oper.wp; rw [hx]; exact hK _ _ h
theorem wpList_enter {P : Program} {ops : Array Oper} {Q : Exit → Act → World → Prop} {a : Act} {w : World} {o : Oper} {rest : List Oper} {f : FuncId} {args : Array Value} {R : Ending → World → Prop} (hg : o.guard = none) (hx : (execOp a.eval o).run P w = .ok (.enter f args) w)
    (hc : Calls P f args w R) (h : ∀ e w', R e w' → ∃ v, e = .returned v ∧ wpList P ops Q rest (a.put o.dst v) w') : wpList P ops Q (o :: rest) a w :=
  wpList_plain hg fun K hK => by
    unfold Oper.wp; rw [hx]
    refine hc.mono fun e w' hr => ?_
    obtain ⟨v, rfl, h2⟩ := h e w' hr
    exact hK _ _ h2
theorem wpStill_val {P : Program} {ops : Array Oper} {Q : Act → Prop} {a : Act} {w : World} {o : Oper} {rest : List Oper} (v : Value) (hg : o.guard = none) (hx : (execOp a.eval o).run P w = .ok (.value v) w)
    (h : wpStill P ops w Q rest (a.put o.dst v)) : wpStill P ops w Q (o :: rest) a :=
  wpStill_step fun K hK => by
    rw [if_pos (by simp [Region.wanted, hg])]
    unfold Oper.still; rw [hx, Oper.stillUpon_value]; exact hK _ h

/-- What such code does. -/
inductive Ins where
  | rd
  | out (k s m : Nat)
  | outAll (k s : Nat)
  | orl (k m s : Nat)

abbrev Key := Option Tmp × Op × Option (Nat × Bool)
def keyOf (o : Oper) : Key := (o.dst, o.op, o.guard)

def Ins.keys (b : Nat) : Ins → List Key × Bool
  | .rd => ([(some b, .move (.tmp 0), none), (some (b + 1), .call { callee := .value (.func 231), args := #[.tmp b, .tmp 4], argTypes := #[302, 254] }, none)], false)
  | .out k s m => ([(some b, .move (.tmp 1), none), (some (b + 1), .load 202 (.tmp 4), none), (some (b + 2), .binOp .shr 202 (.tmp (b + 1)) (.const (.int .u64 (s : Int))) 161, none),
      (some (b + 3), .binOp .rem 202 (.tmp (b + 2)) (.const (.int .u32 (m : Int))) 202, none), (some (b + 4), .indexAddr 275 (.tmp b) (.const (.int .i64 (k : Int))), none), (none, .store 202 (.tmp (b + 4)) (.tmp (b + 3)), none)], false)
  | .outAll k s => ([(some b, .move (.tmp 1), none), (some (b + 1), .load 202 (.tmp 4), none), (some (b + 2), .binOp .shr 202 (.tmp (b + 1)) (.const (.int .u64 (s : Int))) 161, none),
      (some (b + 3), .indexAddr 275 (.tmp b) (.const (.int .i64 (k : Int))), none), (none, .store 202 (.tmp (b + 3)) (.tmp (b + 2)), none)], false)
  | .orl k m s => ([(some b, .move (.tmp 1), none), (some (b + 1), .indexAddr 275 (.tmp b) (.const (.int .i64 (k : Int))), none), (some (b + 2), .load 202 (.tmp (b + 1)), none), (some (b + 3), .load 202 (.tmp 4), none),
      (some (b + 4), .binOp .rem 202 (.tmp (b + 3)) (.const (.int .u32 (m : Int))) 202, none), (some (b + 5), .binOp .shl 202 (.tmp (b + 4)) (.const (.int .u64 (s : Int))) 161, none),
      (some (b + 6), .binOp .or 202 (.tmp (b + 2)) (.tmp (b + 5)) 202, none), (some (b + 7), .indexAddr 275 (.tmp b) (.const (.int .i64 (k : Int))), none), (none, .store 202 (.tmp (b + 7)) (.tmp (b + 6)), none)], true)

def Ins.slots : Ins → Nat
  | .rd => 2
  | .out .. => 5
  | .outAll .. => 4
  | .orl .. => 8

structure Mem where
  P : Nat
  word : Nat
  outs : List Nat

def Ins.run (D : List Nat) : Ins → Mem → Mem
  | .rd, μ => ⟨μ.P + 4, leVal ((D.drop μ.P).take 4), μ.outs⟩
  | .out k s m, μ => { μ with outs := μ.outs.set k (μ.word / 2 ^ s % m) }
  | .outAll k s, μ => { μ with outs := μ.outs.set k (μ.word / 2 ^ s) }
  | .orl k m s, μ => { μ with outs := μ.outs.set k (μ.outs.getD k 0 ||| μ.word % m * 2 ^ s % 4294967296) }

def Ins.ok (n : Nat) (μ : Mem) : Ins → Prop
  | .rd => μ.P + 4 ≤ n
  | .out k s m => k < 32 ∧ s < 32 ∧ 0 < m
  | .outAll k s => k < 32 ∧ s < 32
  | .orl k m s => k < 32 ∧ s < 32 ∧ 0 < m

structure UW (w0 : World) (g go z : Nat) (x : XP) (d o n cap : Nat) (D : List Nat) (cs0 : List Value) (μ : Mem) (w : World) : Prop where
  hg : Blk w g (splice cs0 go (rowV .u32 μ.outs))
  hz : Blk w z [.int .u32 (μ.word : Int)]
  hx : ∃ pr : Int, Rd w x [.slice (some ⟨d, o, none⟩) n cap, .int .i64 (μ.P : Int), .int .i64 pr]
  hD : BytesAt w d o n cap D
  K : Keep [z, x, g] w0 w
  len : μ.outs.length = 32
  b32 : ∀ v ∈ μ.outs, v < 4294967296
  wd : μ.word < 4294967296

structure UD (g go z : Nat) (x : XP) (d : Nat) (cs0 : List Value) : Prop where
  gz : g ≠ z
  gx : g ≠ x.b
  gd : g ≠ d
  zx : z ≠ x.b
  zd : z ≠ d
  xd : x.b ≠ d
  room : go + 32 ≤ cs0.length

structure Sl (a : Act) (N : Nat) (x : XP) (g go len cap z : Nat) : Prop where
  t0 : a.eval (.tmp 0) = .iface 91 (.pointer (some ⟨x.b, x.o, none⟩))
  t1 : a.eval (.tmp 1) = .slice (some ⟨g, go, none⟩) len cap
  t4 : a.eval (.tmp 4) = .pointer (some ⟨z, 0, none⟩)
  df : a.defers = []
  sz : a.tmps.size = N

theorem Sl.put {a : Act} {N : Nat} {x : XP} {g go len cap z : Nat} (h : Sl a N x g go len cap z) {k : Nat} (hk : 5 ≤ k) (v : Value) : Sl (a.put (some k) v) N x g go len cap z :=
  ⟨by rw [eval_put_ne (by omega)]; exact h.t0, by rw [eval_put_ne (by omega)]; exact h.t1, by rw [eval_put_ne (by omega)]; exact h.t4, by simpa using h.df, by simpa using h.sz⟩
theorem Sl.none {a : Act} {N : Nat} {x : XP} {g go len cap z : Nat} (h : Sl a N x g go len cap z) (v : Value) : Sl (a.put none v) N x g go len cap z := h

theorem UW.out {w0 : World} {g go z : Nat} {x : XP} {d o n cap : Nat} {D : List Nat} {cs0 : List Value} {μ : Mem} {w : World} (h : UW w0 g go z x d o n cap D cs0 μ w) (u : UD g go z x d cs0) {k v : Nat} (hk : k < 32) (hv : v < 4294967296) :
    UW w0 g go z x d o n cap D cs0 { μ with outs := μ.outs.set k v } (w.setCell ⟨g, go + k, none⟩ (.int .u32 (v : Int))) := by
  obtain ⟨hg, hz, ⟨pr, hx⟩, hD, K, hl, hb, hw⟩ := h
  have hK : Keep [g] w (w.setCell ⟨g, go + k, none⟩ (.int .u32 (v : Int))) := (Keep.refl _ _).set (by simp) _ _ _
  refine ⟨?_, hz.keep hK (by simp; exact Ne.symm u.gz), ⟨pr, hx.keep hK (by simp; exact Ne.symm u.gx)⟩, hD.keep hK (by simp; exact Ne.symm u.gd), K.set (by simp) _ _ _, by simpa using hl, ?_, hw⟩
  · have := hg.set (go + k) (.int .u32 (v : Int))
    rw [rowV_set]
    have e : (splice cs0 go (rowV .u32 μ.outs)).set (go + k) (.int .u32 (v : Int)) = splice cs0 go ((rowV .u32 μ.outs).set k (.int .u32 (v : Int))) := by
      have hr := u.room
      unfold splice
      have e1 : (cs0.take go).length = go := by simp; omega
      rw [List.set_append_right _ _ (by rw [e1]; omega), e1, show go + k - go = k by omega, List.set_append_left _ _ (by simp; omega)]
      simp
    rw [e] at this
    exact this
  · intro y hy
    rcases List.mem_or_eq_of_mem_set hy with h | h
    · exact hb y h
    · rw [h]; exact hv

theorem UW.cell {w0 : World} {g go z : Nat} {x : XP} {d o n cap : Nat} {D : List Nat} {cs0 : List Value} {μ : Mem} {w : World} (h : UW w0 g go z x d o n cap D cs0 μ w) (u : UD g go z x d cs0) {k : Nat} (hk : k < 32) :
    w.cell? ⟨g, go + k, none⟩ = some (.int .u32 ((μ.outs.getD k 0 : Nat) : Int)) := by
  refine h.hg.cell ?_
  have hr := u.room
  have e1 : (cs0.take go).length = go := by simp; omega
  unfold splice
  rw [List.getElem?_append_right (by rw [e1]; omega), e1, show go + k - go = k by omega, List.getElem?_append_left (by simp [h.len]; omega)]
  refine rowV_get ?_
  rw [List.getD_eq_getElem?_getD, List.getElem?_eq_getElem (by rw [h.len]; exact hk)]; rfl

theorem UW.getD_lt {w0 : World} {g go z : Nat} {x : XP} {d o n cap : Nat} {D : List Nat} {cs0 : List Value} {μ : Mem} {w : World} (h : UW w0 g go z x d o n cap D cs0 μ w) (k : Nat) : μ.outs.getD k 0 < 4294967296 := by
  rw [List.getD_eq_getElem?_getD]
  rcases Nat.lt_or_ge k μ.outs.length with hk | hk
  · rw [List.getElem?_eq_getElem hk]; exact h.b32 _ (List.getElem_mem _)
  · rw [List.getElem?_eq_none hk]; simp

def Ins.top (b : Nat) (i : Ins) : Nat := b + i.slots

theorem list2 {α : Type} {l : List α} (h : l.length = 2) : ∃ x0 x1, l = [x0, x1] := by
  match l, h with
  | [x0, x1], _ => exact ⟨_, _, rfl⟩

theorem list5 {α : Type} {l : List α} (h : l.length = 5) : ∃ x0 x1 x2 x3 x4, l = [x0, x1, x2, x3, x4] := by
  match l, h with
  | [x0, x1, x2, x3, x4], _ => exact ⟨_, _, _, _, _, rfl⟩

theorem list6 {α : Type} {l : List α} (h : l.length = 6) : ∃ x0 x1 x2 x3 x4 x5, l = [x0, x1, x2, x3, x4, x5] := by
  match l, h with
  | [x0, x1, x2, x3, x4, x5], _ => exact ⟨_, _, _, _, _, _, rfl⟩

theorem list9 {α : Type} {l : List α} (h : l.length = 9) : ∃ x0 x1 x2 x3 x4 x5 x6 x7 x8, l = [x0, x1, x2, x3, x4, x5, x6, x7, x8] := by
  match l, h with
  | [x0, x1, x2, x3, x4, x5, x6, x7, x8], _ => exact ⟨_, _, _, _, _, _, _, _, _, rfl⟩

set_option maxHeartbeats 1000000 in
/-- One region of such code. -/
theorem ins_sound {w0 : World} {g go z : Nat} {x : XP} {d o n cap N len caps : Nat} {D : List Nat} {cs0 : List Value} {μ : Mem} {w : World} {a : Act} {Q : Exit → Act → World → Prop} (u : UD g go z x d cs0)
    (h : UW w0 g go z x d o n cap D cs0 μ w) (hs : Sl a N x g go len caps z) (hlen : 32 ≤ len) (i : Ins) (b id : Nat) (ops : List Oper) (dr : Bool) (hkeys : (ops.map keyOf, dr) = i.keys b) (hb5 : 5 ≤ b) (htop : b + i.slots ≤ N)
    (hok : i.ok n μ) (hlex : dr = true → Region.lexTailB .any ops.toArray 7 = true)
    (hQ : ∀ a' w', Sl a' N x g go len caps z → UW w0 g go z x d o n cap D cs0 (i.run D μ) w' → Q .normal a' w') : (Code.region id ops.toArray dr).wp Tryz.prog Q a w := by
  have hz0 := h.hz.cell (i := 0) rfl
  cases i with
  | rd =>
    simp only [Ins.keys, Prod.mk.injEq] at hkeys
    obtain ⟨hk, rfl⟩ := hkeys
    have hl : ops.length = 2 := by have := congrArg List.length hk; simpa using this
    obtain ⟨o0, o1, rfl⟩ := list2 hl
    simp only [List.map_cons, List.map_nil, List.cons.injEq, keyOf, Prod.mk.injEq, and_true] at hk
    obtain ⟨⟨d0, p0, g0⟩, d1, p1, g1⟩ := hk
    simp only [Ins.slots] at htop
    refine wp_region_lit ?_
    refine wpList_val _ g0 (x_move _ _ _ _ p0) ?_
    rw [d0]
    refine wpList_enter g1 (x_call _ _ _ _ _ _ p1 rfl) (R := fun e w' => e = .returned (.tuple #[]) ∧ Keep [z, x] w w' ∧ Blk w' z [.int .u32 (leVal ((D.drop μ.P).take 4) : Int)] ∧ Rd w' x [.slice (some ⟨d, o, none⟩) n cap, .int .i64 ((μ.P + 4 : Nat) : Int), .int .i64 (-1)]) ?_ ?_
    · rw [eval_put_eq (by rw [hs.sz]; omega), hs.t0, (hs.put hb5 _).t4]
      obtain ⟨pr, hx⟩ := h.hx
      exact readLittleC z 0 x d o n cap μ.P pr D _ w hx h.hD h.hz (by simp) u.zx u.zd u.xd hok
    · rintro e w' ⟨rfl, k, hz', hx'⟩
      refine ⟨_, rfl, ?_⟩
      rw [d1]
      refine hQ _ _ ((hs.put hb5 _).put (by omega) _) ⟨h.hg.keep k (by simp; exact ⟨u.gz, u.gx⟩), hz', ⟨_, hx'⟩, h.hD.keep k (by simp; exact ⟨Ne.symm u.zd, Ne.symm u.xd⟩), h.K.trans k (by simp), h.len, h.b32, ?_⟩
      have hv := leVal_lt ((D.drop μ.P).take 4) (fun y hy => h.hD.bytes y (List.mem_of_mem_drop (List.mem_of_mem_take hy)))
      have : ((D.drop μ.P).take 4).length ≤ 4 := by simp; omega
      exact Nat.lt_of_lt_of_le hv (Nat.le_trans (Nat.pow_le_pow_right (by omega) this) (by decide))
  | out k s m =>
    simp only [Ins.keys, Prod.mk.injEq] at hkeys
    obtain ⟨hk, rfl⟩ := hkeys
    have hl : ops.length = 6 := by have := congrArg List.length hk; simpa using this
    obtain ⟨o0, o1, o2, o3, o4, o5, rfl⟩ := list6 hl
    simp only [List.map_cons, List.map_nil, List.cons.injEq, keyOf, Prod.mk.injEq, and_true] at hk
    obtain ⟨⟨d0, p0, g0⟩, ⟨d1, p1, g1⟩, ⟨d2, p2, g2⟩, ⟨d3, p3, g3⟩, ⟨d4, p4, g4⟩, d5, p5, g5⟩ := hk
    simp only [Ins.slots] at htop
    obtain ⟨hk32, hs32, hm0⟩ := hok
    have hc := h.cell u hk32
    have hf := h.hg.frozen (go + k)
    have hvlt : μ.word / 2 ^ s < 4294967296 := Nat.lt_of_le_of_lt (Nat.div_le_self _ _) h.wd
    have hvlt2 : μ.word / 2 ^ s % m < 4294967296 := Nat.lt_of_le_of_lt (Nat.mod_le _ _) hvlt
    have s0 := hs.put hb5 (a.eval (.tmp 1))
    refine wp_region_lit ?_
    refine wpList_val _ g0 (x_move _ _ _ _ p0) ?_
    rw [d0]
    have s1 := s0.put (k := b + 1) (by omega) (.int .u32 (μ.word : Int))
    refine wpList_val (.int .u32 (μ.word : Int)) g1 (x_load _ _ _ _ _ _ p1 s0.t4 hz0) ?_
    rw [d1]
    have s2 := s1.put (k := b + 2) (by omega) (.int .u32 ((μ.word / 2 ^ s : Nat) : Int))
    refine wpList_val (.int .u32 ((μ.word / 2 ^ s : Nat) : Int)) g2 (x_shr _ _ _ _ _ _ p2 (eval_put_eq (by rw [s0.sz]; omega)) rfl hs32) ?_
    rw [d2]
    have s3 := s2.put (k := b + 3) (by omega) (.int .u32 ((μ.word / 2 ^ s % m : Nat) : Int))
    refine wpList_val (.int .u32 ((μ.word / 2 ^ s % m : Nat) : Int)) g3 (x_rem _ _ _ _ _ _ p3 (eval_put_eq (by rw [s1.sz]; omega)) rfl hm0 hvlt) ?_
    rw [d3]
    have s4 := s3.put (k := b + 4) (by omega) (.pointer (some ⟨g, go + k, none⟩))
    refine wpList_val (.pointer (some ⟨g, go + k, none⟩)) g4 (x_idx _ _ _ _ g go len caps k p4 ?_ rfl (by omega)) ?_
    · rw [eval_put_ne (by omega), eval_put_ne (by omega), eval_put_ne (by omega), eval_put_eq (by rw [hs.sz]; omega)]; exact hs.t1
    rw [d4]
    refine wpList_skip g5 (x_store _ _ _ _ _ _ (μ.word / 2 ^ s % m) _ p5 (eval_put_eq (by rw [s3.sz]; omega)) ?_ hc hf) ?_
    · rw [eval_put_ne (by omega), eval_put_eq (by rw [s2.sz]; omega)]
    rw [d5]
    exact hQ _ _ (s4.none _) (h.out u hk32 hvlt2)
  | outAll k s =>
    simp only [Ins.keys, Prod.mk.injEq] at hkeys
    obtain ⟨hk, rfl⟩ := hkeys
    have hl : ops.length = 5 := by have := congrArg List.length hk; simpa using this
    obtain ⟨o0, o1, o2, o4, o5, rfl⟩ := list5 hl
    simp only [List.map_cons, List.map_nil, List.cons.injEq, keyOf, Prod.mk.injEq, and_true] at hk
    obtain ⟨⟨d0, p0, g0⟩, ⟨d1, p1, g1⟩, ⟨d2, p2, g2⟩, ⟨d4, p4, g4⟩, d5, p5, g5⟩ := hk
    simp only [Ins.slots] at htop
    obtain ⟨hk32, hs32⟩ := hok
    have hc := h.cell u hk32
    have hf := h.hg.frozen (go + k)
    have hvlt : μ.word / 2 ^ s < 4294967296 := Nat.lt_of_le_of_lt (Nat.div_le_self _ _) h.wd
    have s0 := hs.put hb5 (a.eval (.tmp 1))
    refine wp_region_lit ?_
    refine wpList_val _ g0 (x_move _ _ _ _ p0) ?_
    rw [d0]
    have s1 := s0.put (k := b + 1) (by omega) (.int .u32 (μ.word : Int))
    refine wpList_val (.int .u32 (μ.word : Int)) g1 (x_load _ _ _ _ _ _ p1 s0.t4 hz0) ?_
    rw [d1]
    have s2 := s1.put (k := b + 2) (by omega) (.int .u32 ((μ.word / 2 ^ s : Nat) : Int))
    refine wpList_val (.int .u32 ((μ.word / 2 ^ s : Nat) : Int)) g2 (x_shr _ _ _ _ _ _ p2 (eval_put_eq (by rw [s0.sz]; omega)) rfl hs32) ?_
    rw [d2]
    have s4 := s2.put (k := b + 3) (by omega) (.pointer (some ⟨g, go + k, none⟩))
    refine wpList_val (.pointer (some ⟨g, go + k, none⟩)) g4 (x_idx _ _ _ _ g go len caps k p4 ?_ rfl (by omega)) ?_
    · rw [eval_put_ne (by omega), eval_put_ne (by omega), eval_put_eq (by rw [hs.sz]; omega)]; exact hs.t1
    rw [d4]
    refine wpList_skip g5 (x_store _ _ _ _ _ _ (μ.word / 2 ^ s) _ p5 (eval_put_eq (by rw [s2.sz]; omega)) ?_ hc hf) ?_
    · rw [eval_put_ne (by omega), eval_put_eq (by rw [s1.sz]; omega)]
    rw [d5]
    exact hQ _ _ (s4.none _) (h.out u hk32 hvlt)
  | orl k m s =>
    simp only [Ins.keys, Prod.mk.injEq] at hkeys
    obtain ⟨hk, rfl⟩ := hkeys
    have hl : ops.length = 9 := by have := congrArg List.length hk; simpa using this
    obtain ⟨o0, o1, o2, o3, o4, o5, o6, o7, o8, rfl⟩ := list9 hl
    simp only [List.map_cons, List.map_nil, List.cons.injEq, keyOf, Prod.mk.injEq, and_true] at hk
    obtain ⟨⟨d0, p0, g0⟩, ⟨d1, p1, g1⟩, ⟨d2, p2, g2⟩, ⟨d3, p3, g3⟩, ⟨d4, p4, g4⟩, ⟨d5, p5, g5⟩, ⟨d6, p6, g6⟩, ⟨d7, p7, g7⟩, d8, p8, g8⟩ := hk
    simp only [Ins.slots] at htop
    obtain ⟨hk32, hs32, hm0⟩ := hok
    have hc := h.cell u hk32
    have hf := h.hg.frozen (go + k)
    have ho32 := h.getD_lt k
    obtain ⟨A0, hA0⟩ : ∃ A0, A0 = μ.outs.getD k 0 := ⟨_, rfl⟩
    obtain ⟨B0, hB0⟩ : ∃ B0, B0 = μ.word % m * 2 ^ s % 4294967296 := ⟨_, rfl⟩
    have hB32 : B0 < 4294967296 := by rw [hB0]; exact Nat.mod_lt _ (by omega)
    have hor : A0 ||| B0 < 4294967296 := Nat.or_lt_two_pow (n := 32) (by rw [hA0]; exact ho32) hB32
    rw [← hA0] at hc ho32
    have hrun : Ins.run D (.orl k m s) μ = { μ with outs := μ.outs.set k (A0 ||| B0) } := by simp only [Ins.run]; rw [← hA0, ← hB0]
    rw [hrun] at hQ
    have s0 := hs.put hb5 (a.eval (.tmp 1))
    have s1 := s0.put (k := b + 1) (by omega) (.pointer (some ⟨g, go + k, none⟩))
    have s2 := s1.put (k := b + 2) (by omega) (.int .u32 (A0 : Int))
    have s3 := s2.put (k := b + 3) (by omega) (.int .u32 (μ.word : Int))
    have s4 := s3.put (k := b + 4) (by omega) (.int .u32 ((μ.word % m : Nat) : Int))
    have s5 := s4.put (k := b + 5) (by omega) (.int .u32 (B0 : Int))
    have s6 := s5.put (k := b + 6) (by omega) (.int .u32 ((A0 ||| B0 : Nat) : Int))
    have s7 := s6.put (k := b + 7) (by omega) (.pointer (some ⟨g, go + k, none⟩))
    refine wp_region_still_tail 7 (by kernel_rfl) (hlex rfl) ?_
    simp only [List.take_succ_cons, List.take_zero, List.drop_succ_cons, List.drop_zero]
    change wpStill _ _ (World.drew _) _ _ _
    refine wpStill_val _ g0 (x_move _ _ _ _ p0) ?_
    rw [d0]
    refine wpStill_val (.pointer (some ⟨g, go + k, none⟩)) g1 (x_idx _ _ _ _ g go len caps k p1 ?_ rfl (by omega)) ?_
    · rw [eval_put_eq (by rw [hs.sz]; omega)]; exact hs.t1
    rw [d1]
    refine wpStill_val (.int .u32 (A0 : Int)) g2 (x_load _ _ _ _ _ _ p2 (eval_put_eq (by rw [s0.sz]; omega)) hc) ?_
    rw [d2]
    refine wpStill_val (.int .u32 (μ.word : Int)) g3 (x_load _ _ _ _ _ _ p3 s2.t4 hz0) ?_
    rw [d3]
    refine wpStill_val (.int .u32 ((μ.word % m : Nat) : Int)) g4 (x_rem _ _ _ _ _ _ p4 (eval_put_eq (by rw [s2.sz]; omega)) rfl hm0 h.wd) ?_
    rw [d4]
    refine wpStill_val (.int .u32 (B0 : Int)) g5 (by rw [hB0]; exact x_shl _ _ _ _ _ _ p5 (eval_put_eq (by rw [s3.sz]; omega)) rfl hs32) ?_
    rw [d5]
    refine wpStill_val (.int .u32 ((A0 ||| B0 : Nat) : Int)) g6 (x_or _ _ _ _ _ A0 B0 p6 ?_ (eval_put_eq (by rw [s4.sz]; omega)) ho32 hB32) ?_
    · rw [eval_put_ne (by omega), eval_put_ne (by omega), eval_put_ne (by omega), eval_put_eq (by rw [s1.sz]; omega)]
    rw [d6]
    refine wpStill_nil ?_
    change wpList _ _ _ _ _ (World.drew _)
    refine wpList_val (.pointer (some ⟨g, go + k, none⟩)) g7 (x_idx _ _ _ _ g go len caps k p7 ?_ rfl (by omega)) ?_
    · rw [eval_put_ne (by omega), eval_put_ne (by omega), eval_put_ne (by omega), eval_put_ne (by omega), eval_put_ne (by omega), eval_put_ne (by omega), eval_put_eq (by rw [hs.sz]; omega)]; exact hs.t1
    rw [d7]
    refine wpList_skip g8 (x_store _ _ _ _ _ _ (A0 ||| B0) (.int .u32 (A0 : Int)) p8 (eval_put_eq (by rw [s6.sz]; omega)) ?_ hc hf) ?_
    · rw [eval_put_ne (by omega), eval_put_eq (by rw [s5.sz]; omega)]
    rw [d8]
    have hdr : UW w0 g go z x d o n cap D cs0 μ w.drew := ⟨h.hg.drew, h.hz.drew, let ⟨pr, hx⟩ := h.hx; ⟨pr, hx.drew⟩, h.hD.keep (S := []) (Keep.refl [] w).drew (by simp), h.K.drew, h.len, h.b32, h.wd⟩
    exact hQ _ _ (s7.none _) (hdr.out u hk32 hor)
end Go.Proofs.YtlolcgklcnechaaGreatDoor
