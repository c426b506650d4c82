/- Straight lines of code: the whole function. -/
import Derived.Test.YtlolcgklcnechaaGreatDoorU2
set_option linter.unusedVariables false
set_option linter.unusedSimpArgs false
namespace Go.Proofs.YtlolcgklcnechaaGreatDoor
open Go.RowKit

abbrev Reg := Nat × List Oper × Bool

def flatC : Code → Option (List Reg)
  | .region id ops dr => some [(id, ops.toList, dr)]
  | .seq a b => match flatC a, flatC b with
    | some x, some y => some (x ++ y)
    | _, _ => none
  | _ => none

def wpRs (P : Program) : List Reg → (Exit → Act → World → Prop) → Act → World → Prop
  | [], Q, a, w => Q .normal a w
  | r :: rs, Q, a, w => (Code.region r.1 r.2.1.toArray r.2.2).wp P (Exit.then (wpRs P rs Q) Q) a w

theorem wpRs_append (P : Program) : ∀ (xs ys : List Reg) (Q : Exit → Act → World → Prop) (a : Act) (w : World), wpRs P (xs ++ ys) Q a w → wpRs P xs (Exit.then (wpRs P ys Q) Q) a w
  | [], ys, Q, a, w, h => h
  | r :: xs, ys, Q, a, w, h => by
    refine Code.wp_mono ?_ h
    intro e a' w' h'
    cases e <;> first | exact wpRs_append P xs ys Q _ _ h' | exact h'

theorem wpRs_mono (P : Program) : ∀ (xs : List Reg) (Q Q' : Exit → Act → World → Prop) (hq : ∀ e a w, Q e a w → Q' e a w) (a : Act) (w : World), wpRs P xs Q a w → wpRs P xs Q' a w
  | [], Q, Q', hq, a, w, h => hq _ _ _ h
  | r :: xs, Q, Q', hq, a, w, h => by
    refine Code.wp_mono ?_ h
    intro e a' w' h'
    cases e <;> first | exact wpRs_mono P xs Q Q' hq _ _ h' | exact hq _ _ _ h'

theorem flat_sound (P : Program) : ∀ (c : Code) (rs : List Reg) (Q : Exit → Act → World → Prop) (a : Act) (w : World), flatC c = some rs → wpRs P rs Q a w → c.wp P Q a w := by
  intro c
  induction c with
  | region id ops dr =>
    intro rs Q a w h h2
    simp only [flatC, Option.some.injEq] at h
    subst h
    refine Code.wp_mono ?_ h2
    intro e a' w' h'
    cases e <;> exact h'
  | seq x y hx hy =>
    intro rs Q a w h h2
    unfold flatC at h
    split at h
    · rename_i xs ys h3 h4
      simp only [Option.some.injEq] at h
      subst h
      refine wp_seq (hx _ _ _ _ h3 (wpRs_mono P xs _ _ ?_ a w (wpRs_append P xs ys Q a w h2)))
      intro e a' w' h'
      cases e <;> first | exact hy _ _ _ _ h4 h' | exact h'
    · cases h
  | _ => intro rs Q a w h; simp [flatC] at h

def keysAll : Nat → List Ins → List (List Key × Bool)
  | _, [] => []
  | b, i :: l => i.keys b :: keysAll (b + i.slots) l

def slotsAll : List Ins → Nat
  | [] => 0
  | i :: l => i.slots + slotsAll l

def runAll (D : List Nat) : List Ins → Mem → Mem
  | [], μ => μ
  | i :: l, μ => runAll D l (i.run D μ)

def okAll (D : List Nat) (n : Nat) : List Ins → Mem → Prop
  | [], _ => True
  | i :: l, μ => i.ok n μ ∧ okAll D n l (i.run D μ)

def keysOf (rs : List Reg) : List (List Key × Bool) := rs.map fun r => (r.2.1.map keyOf, r.2.2)
def lexOf (rs : List Reg) : Bool := rs.all fun r => !r.2.2 || Region.lexTailB .any r.2.1.toArray 7

theorem rs_sound {w0 : World} {g go z x d o n cap N len caps : Nat} {D : List Nat} {cs0 : List Value} {Q : Exit → Act → World → Prop} (u : UD g go z x d cs0) (hlen : 32 ≤ len) :
    ∀ (is : List Ins) (rs : List Reg) (b : Nat) (μ : Mem) (w : World) (a : Act) (h : UW w0 g go z x d o n cap D cs0 μ w) (hs : Sl a N x g go len caps z) (hk : keysOf rs = keysAll b is) (hl : lexOf rs = true) (hb : 5 ≤ b) (ht : b + slotsAll is ≤ N)
      (hok : okAll D n is μ) (hQ : ∀ a' w', Sl a' N x g go len caps z → UW w0 g go z x d o n cap D cs0 (runAll D is μ) w' → Q .normal a' w'), wpRs Tryz.prog rs Q a w
  | [], rs, b, μ, w, a, h, hs, hk, hl, hb, ht, hok, hQ => by
    cases rs with
    | nil => exact hQ _ _ hs h
    | cons r rs => simp [keysOf, keysAll] at hk
  | i :: is, rs, b, μ, w, a, h, hs, hk, hl, hb, ht, hok, hQ => by
    cases rs with
    | nil => simp [keysOf, keysAll] at hk
    | cons r rs =>
      simp only [keysOf, List.map_cons, keysAll, List.cons.injEq] at hk
      simp only [lexOf, List.all_cons, Bool.and_eq_true] at hl
      simp only [slotsAll] at ht
      refine ins_sound u h hs hlen i b r.1 r.2.1 r.2.2 hk.1 hb (by omega) hok.1 (fun hd => by have := hl.1; rw [hd] at this; simpa using this) ?_
      intro a' w' hs' h'
      exact rs_sound u hlen is rs (b + i.slots) _ _ _ h' hs' hk.2 hl.2 (by omega) (by omega) hok.2 hQ

theorem info_u32 : (Tryz.prog.info? 202).map (fun i => (i.zero, i.size, i.bytes)) = some (some (.int .u32 0), 1, 4) := by kernel_rfl
theorem run_alloc32 (w : World) : (Instr.alloc 202 true (.tuple #[])).run Tryz.prog w = .ok (.pointer (some ⟨w.heap.size, 0, none⟩)) (w.alloc (.cells #[.int .u32 0] 202)) := by kernel_rfl

set_option maxHeartbeats 1000000 in
/-- A whole function of such code. -/
theorem unpack_straight (f : FuncId) (fn : Func) (c : Code) (is : List Ins) (N id0 : Nat) (o0 : Oper) (rs : List Reg) (hf : Tryz.prog.funcs[f]? = some fn) (hbody : fn.body = some c) (hres : fn.results = #[]) (hN : fn.ntmps = N)
    (hflat : flatC c = some ((id0, [o0], false) :: rs)) (h0 : keyOf o0 = (some 4, .alloc 202, none)) (hk : keysOf rs = keysAll 5 is) (hl : lexOf rs = true) (ht : 5 + slotsAll is ≤ N)
    (g go x d o n cap len caps P : Nat) (pr : Int) (D : List Nat) (cs0 : List Value) (outs : List Nat) (w : World) (hlen : 32 ≤ len)
    (hg : Blk w g (splice cs0 go (rowV .u32 outs))) (hx : Blk w x [.slice (some ⟨d, o, none⟩) n cap, .int .i64 (P : Int), .int .i64 pr]) (hD : BytesAt w d o n cap D)
    (gx : g ≠ x) (gd : g ≠ d) (xd : x ≠ d) (room : go + 32 ≤ cs0.length) (ol : outs.length = 32) (ob : ∀ v ∈ outs, v < 4294967296) (hok : okAll D n is ⟨P, 0, outs⟩) :
    Calls Tryz.prog f #[.iface 91 (.pointer (some ⟨x, 0, none⟩)), .slice (some ⟨g, go, none⟩) len caps] w fun e w' =>
      e = .returned (.tuple #[]) ∧ Keep [x, g] w w' ∧ Blk w' g (splice cs0 go (rowV .u32 (runAll D is ⟨P, 0, outs⟩).outs)) ∧
        (∃ pr' : Int, Blk w' x [.slice (some ⟨d, o, none⟩) n cap, .int .i64 ((runAll D is ⟨P, 0, outs⟩).P : Int), .int .i64 pr']) ∧ (runAll D is ⟨P, 0, outs⟩).outs.length = 32 := by
  have gl := hg.lt
  have xl := hx.lt
  have dl : d < w.heap.size := by obtain ⟨_, h, _⟩ := hD.hd; exact h.lt
  refine calls_of_wp hf hbody (flat_sound Tryz.prog c _ _ _ _ hflat ?_)
  simp only [keyOf, Prod.mk.injEq] at h0
  obtain ⟨d0, p0, g0⟩ := h0
  have KA : Keep [] w (w.alloc (.cells #[.int .u32 0] 202)) := (Keep.refl [] w).alloc _
  refine wp_region_lit ?_
  refine wpList_plain g0 fun K hK => ?_
  unfold Oper.wp
  have hx0 : ∀ ρ, (execOp ρ o0).run Tryz.prog w = .ok (.value (.pointer (some ⟨w.heap.size, 0, none⟩))) (w.alloc (.cells #[.int .u32 0] 202)) := by
    intro ρ
    simp only [execOp, p0]
    simp [run_alloc32]
  rw [hx0, Oper.upon_value, d0]
  refine hK _ _ ?_
  change wpRs Tryz.prog rs _ _ _
  have hsz : (#[Value.iface 91 (.pointer (some ⟨x, 0, none⟩)), .slice (some ⟨g, go, none⟩) len caps] ++ Array.replicate (fn.ntmps - 2) undef).size = N := by
    simp [hN]; omega
  refine rs_sound (w0 := w) (z := w.heap.size) (N := N) (caps := caps) ⟨by omega, gx, gd, by omega, by omega, xd, room⟩ hlen is rs 5 ⟨P, 0, outs⟩ _ _
    ⟨hg.keep KA (by simp), Blk.new w [.int .u32 0] _, ⟨pr, hx.keep KA (by simp)⟩, hD.keep KA (by simp), KA.weaken (by simp), ol, ob, by simp⟩ ⟨?_, ?_, ?_, rfl, ?_⟩ hk hl (by omega) ht hok ?_
  · rw [eval_put_ne (by omega)]; simp [Act.eval, Array.getD_eq_getD_getElem?, Array.getElem?_append]
  · rw [eval_put_ne (by omega)]; simp [Act.eval, Array.getD_eq_getD_getElem?, Array.getElem?_append]
  · refine eval_put_eq ?_
    show 4 < (_ : Array Value).size
    rw [show (#[Value.iface 91 (.pointer (some ⟨x, 0, none⟩)), Value.slice (some ⟨g, go, none⟩) len caps].size) = 2 from rfl]
    rw [hsz]; omega
  · rw [size_put]
    exact hsz
  · intro a' w' hs h
    refine ⟨hs.df, .tuple #[], results_none hres _ _ _, rfl, h.K.weaken (by simp), h.hg, h.hx, h.len⟩

/-- The code that lays number k of n bits, as far as the word goes. (Function 3 takes a remainder that it need not take, once.) -/
def layN (n k : Nat) : Ins := if n = 3 ∧ k = 21 then .out k (n * k % 32) (2 ^ n) else .outAll k (n * k % 32)
def stepN (n k : Nat) : List Ins :=
  if n * k % 32 + n < 32 then [.out k (n * k % 32) (2 ^ n)]
  else if n * k % 32 + n = 32 then layN n k :: (if k = 31 then [] else [.rd])
  else [layN n k, .rd, .orl k (2 ^ (n * k % 32 + n - 32)) (32 - n * k % 32)]
/-- The code that reads 32 numbers of n bits. -/
def progN (n : Nat) : List Ins := .rd :: (List.range 32).flatMap (stepN n)

/-- This function is that code. -/
structure Straight (fn : Func) (is : List Ins) : Prop where
  head : (fn.body.bind flatC).map (fun l => keysOf (l.take 1)) = some [([(some 4, .alloc 202, none)], false)]
  keys : (fn.body.bind flatC).map (fun l => keysOf (l.drop 1)) = some (keysAll 5 is)
  lex : (fn.body.bind flatC).map (fun l => lexOf (l.drop 1)) = some true
  res : fn.results = #[]
  top : decide (5 + slotsAll is ≤ fn.ntmps) = true

theorem unpack_of (f : FuncId) (fn : Func) (is : List Ins) (hf : Tryz.prog.funcs[f]? = some fn) (h : Straight fn is)
    (g go x d o n cap len caps P : Nat) (pr : Int) (D : List Nat) (cs0 : List Value) (outs : List Nat) (w : World) (hlen : 32 ≤ len)
    (hg : Blk w g (splice cs0 go (rowV .u32 outs))) (hx : Blk w x [.slice (some ⟨d, o, none⟩) n cap, .int .i64 (P : Int), .int .i64 pr]) (hD : BytesAt w d o n cap D)
    (gx : g ≠ x) (gd : g ≠ d) (xd : x ≠ d) (room : go + 32 ≤ cs0.length) (ol : outs.length = 32) (ob : ∀ v ∈ outs, v < 4294967296) (hok : okAll D n is ⟨P, 0, outs⟩) :
    Calls Tryz.prog f #[.iface 91 (.pointer (some ⟨x, 0, none⟩)), .slice (some ⟨g, go, none⟩) len caps] w fun e w' =>
      e = .returned (.tuple #[]) ∧ Keep [x, g] w w' ∧ Blk w' g (splice cs0 go (rowV .u32 (runAll D is ⟨P, 0, outs⟩).outs)) ∧
        (∃ pr' : Int, Blk w' x [.slice (some ⟨d, o, none⟩) n cap, .int .i64 ((runAll D is ⟨P, 0, outs⟩).P : Int), .int .i64 pr']) ∧ (runAll D is ⟨P, 0, outs⟩).outs.length = 32 := by
  obtain ⟨h1, h2, h3, h4, h5⟩ := h
  cases hb : fn.body with
  | none => rw [hb] at h1; cases h1
  | some c =>
    rw [hb] at h1 h2 h3
    simp only [Option.bind_some] at h1 h2 h3
    cases hfl : flatC c with
    | none => rw [hfl] at h1; cases h1
    | some l =>
      rw [hfl] at h1 h2 h3
      simp only [Option.map_some, Option.some.injEq] at h1 h2 h3
      cases l with
      | nil => simp [keysOf] at h1
      | cons r rs =>
        obtain ⟨id0, ops, dr⟩ := r
        simp only [List.take_succ_cons, List.take_zero, keysOf, List.map_cons, List.map_nil, List.cons.injEq, Prod.mk.injEq, and_true] at h1
        obtain ⟨h1, rfl⟩ := h1
        obtain ⟨o0, rfl⟩ : ∃ o0, ops = [o0] := List.length_eq_one_iff.1 (by have := congrArg List.length h1; simpa using this)
        simp only [List.map_cons, List.map_nil, List.cons.injEq, and_true] at h1
        exact unpack_straight f fn c is fn.ntmps id0 o0 rs hf hb h4 rfl hfl h1 (by simpa using h2) (by simpa using h3) (by simpa using h5) g go x d o n cap len caps P pr D cs0 outs w hlen hg hx hD gx gd xd room ol ob hok

theorem straight2 : Straight Tryz.f187 (progN 2) := ⟨by kernel_rfl, by kernel_rfl, by kernel_rfl, by kernel_rfl, by kernel_rfl⟩
theorem straight3 : Straight Tryz.f188 (progN 3) := ⟨by kernel_rfl, by kernel_rfl, by kernel_rfl, by kernel_rfl, by kernel_rfl⟩
theorem straight5 : Straight Tryz.f190 (progN 5) := ⟨by kernel_rfl, by kernel_rfl, by kernel_rfl, by kernel_rfl, by kernel_rfl⟩
theorem straight6 : Straight Tryz.f191 (progN 6) := ⟨by kernel_rfl, by kernel_rfl, by kernel_rfl, by kernel_rfl, by kernel_rfl⟩
theorem straight7 : Straight Tryz.f192 (progN 7) := ⟨by kernel_rfl, by kernel_rfl, by kernel_rfl, by kernel_rfl, by kernel_rfl⟩
theorem straight9 : Straight Tryz.f194 (progN 9) := ⟨by kernel_rfl, by kernel_rfl, by kernel_rfl, by kernel_rfl, by kernel_rfl⟩
theorem straight10 : Straight Tryz.f195 (progN 10) := ⟨by kernel_rfl, by kernel_rfl, by kernel_rfl, by kernel_rfl, by kernel_rfl⟩
theorem straight11 : Straight Tryz.f196 (progN 11) := ⟨by kernel_rfl, by kernel_rfl, by kernel_rfl, by kernel_rfl, by kernel_rfl⟩
theorem straight12 : Straight Tryz.f197 (progN 12) := ⟨by kernel_rfl, by kernel_rfl, by kernel_rfl, by kernel_rfl, by kernel_rfl⟩
theorem straight13 : Straight Tryz.f198 (progN 13) := ⟨by kernel_rfl, by kernel_rfl, by kernel_rfl, by kernel_rfl, by kernel_rfl⟩
theorem straight14 : Straight Tryz.f199 (progN 14) := ⟨by kernel_rfl, by kernel_rfl, by kernel_rfl, by kernel_rfl, by kernel_rfl⟩
theorem straight15 : Straight Tryz.f200 (progN 15) := ⟨by kernel_rfl, by kernel_rfl, by kernel_rfl, by kernel_rfl, by kernel_rfl⟩
theorem straight17 : Straight Tryz.f202 (progN 17) := ⟨by kernel_rfl, by kernel_rfl, by kernel_rfl, by kernel_rfl, by kernel_rfl⟩
theorem straight18 : Straight Tryz.f203 (progN 18) := ⟨by kernel_rfl, by kernel_rfl, by kernel_rfl, by kernel_rfl, by kernel_rfl⟩
theorem straight19 : Straight Tryz.f204 (progN 19) := ⟨by kernel_rfl, by kernel_rfl, by kernel_rfl, by kernel_rfl, by kernel_rfl⟩
theorem straight20 : Straight Tryz.f205 (progN 20) := ⟨by kernel_rfl, by kernel_rfl, by kernel_rfl, by kernel_rfl, by kernel_rfl⟩
theorem straight21 : Straight Tryz.f206 (progN 21) := ⟨by kernel_rfl, by kernel_rfl, by kernel_rfl, by kernel_rfl, by kernel_rfl⟩
theorem straight22 : Straight Tryz.f207 (progN 22) := ⟨by kernel_rfl, by kernel_rfl, by kernel_rfl, by kernel_rfl, by kernel_rfl⟩
theorem straight23 : Straight Tryz.f208 (progN 23) := ⟨by kernel_rfl, by kernel_rfl, by kernel_rfl, by kernel_rfl, by kernel_rfl⟩
theorem straight25 : Straight Tryz.f210 (progN 25) := ⟨by kernel_rfl, by kernel_rfl, by kernel_rfl, by kernel_rfl, by kernel_rfl⟩
theorem straight26 : Straight Tryz.f211 (progN 26) := ⟨by kernel_rfl, by kernel_rfl, by kernel_rfl, by kernel_rfl, by kernel_rfl⟩
theorem straight27 : Straight Tryz.f212 (progN 27) := ⟨by kernel_rfl, by kernel_rfl, by kernel_rfl, by kernel_rfl, by kernel_rfl⟩
theorem straight29 : Straight Tryz.f214 (progN 29) := ⟨by kernel_rfl, by kernel_rfl, by kernel_rfl, by kernel_rfl, by kernel_rfl⟩
theorem straight30 : Straight Tryz.f215 (progN 30) := ⟨by kernel_rfl, by kernel_rfl, by kernel_rfl, by kernel_rfl, by kernel_rfl⟩
theorem straight31 : Straight Tryz.f216 (progN 31) := ⟨by kernel_rfl, by kernel_rfl, by kernel_rfl, by kernel_rfl, by kernel_rfl⟩
end Go.Proofs.YtlolcgklcnechaaGreatDoor
