/- Straight lines of code: the whole function. Plain law: what the straight lines compute. -/
import Derived.Test.YtlolcgklcnechaaGreatDoorXU2
set_option linter.unusedVariables false
set_option linter.unusedSimpArgs false
namespace Go.Proofs.YtlolcgklcnechaaGreatDoor
open Go.RowKit

abbrev Reg := Nat × List Oper × Bool

def flatC : Code → Option (List Reg)
  | .region id ops dr => some [(id, ops.toList, dr)]
  | .seq a b => match flatC a, flatC b with
    | some x, some y => some (x ++ y)
    | _, _ => none
  | _ => none

def wpRs (P : Program) : List Reg → (Exit → Act → World → Prop) → Act → World → Prop
  | [], Q, a, w => Q .normal a w
  | r :: rs, Q, a, w => (Code.region r.1 r.2.1.toArray r.2.2).wp P (Exit.then (wpRs P rs Q) Q) a w

theorem wpRs_append (P : Program) : ∀ (xs ys : List Reg) (Q : Exit → Act → World → Prop) (a : Act) (w : World), wpRs P (xs ++ ys) Q a w → wpRs P xs (Exit.then (wpRs P ys Q) Q) a w
  | [], ys, Q, a, w, h => h
  | r :: xs, ys, Q, a, w, h => by
    refine Code.wp_mono ?_ h
    intro e a' w' h'
    cases e <;> first | exact wpRs_append P xs ys Q _ _ h' | exact h'

theorem wpRs_mono (P : Program) : ∀ (xs : List Reg) (Q Q' : Exit → Act → World → Prop) (hq : ∀ e a w, Q e a w → Q' e a w) (a : Act) (w : World), wpRs P xs Q a w → wpRs P xs Q' a w
  | [], Q, Q', hq, a, w, h => hq _ _ _ h
  | r :: xs, Q, Q', hq, a, w, h => by
    refine Code.wp_mono ?_ h
    intro e a' w' h'
    cases e <;> first | exact wpRs_mono P xs Q Q' hq _ _ h' | exact hq _ _ _ h'

theorem flat_sound (P : Program) : ∀ (c : Code) (rs : List Reg) (Q : Exit → Act → World → Prop) (a : Act) (w : World), flatC c = some rs → wpRs P rs Q a w → c.wp P Q a w := by
  intro c
  induction c with
  | region id ops dr =>
    intro rs Q a w h h2
    simp only [flatC, Option.some.injEq] at h
    subst h
    refine Code.wp_mono ?_ h2
    intro e a' w' h'
    cases e <;> exact h'
  | seq x y hx hy =>
    intro rs Q a w h h2
    unfold flatC at h
    split at h
    · rename_i xs ys h3 h4
      simp only [Option.some.injEq] at h
      subst h
      refine wp_seq (hx _ _ _ _ h3 (wpRs_mono P xs _ _ ?_ a w (wpRs_append P xs ys Q a w h2)))
      intro e a' w' h'
      cases e <;> first | exact hy _ _ _ _ h4 h' | exact h'
    · cases h
  | _ => intro rs Q a w h; simp [flatC] at h

def keysAll : Nat → List Ins → List (List Key × Bool)
  | _, [] => []
  | b, i :: l => i.keys b :: keysAll (b + i.slots) l

def slotsAll : List Ins → Nat
  | [] => 0
  | i :: l => i.slots + slotsAll l

def runAll (D : List Nat) : List Ins → Mem → Mem
  | [], μ => μ
  | i :: l, μ => runAll D l (i.run D μ)

def okAll (D : List Nat) (n : Nat) : List Ins → Mem → Prop
  | [], _ => True
  | i :: l, μ => i.ok n μ ∧ okAll D n l (i.run D μ)

def keysOf (rs : List Reg) : List (List Key × Bool) := rs.map fun r => (r.2.1.map keyOf, r.2.2)
def lexOf (rs : List Reg) : Bool := rs.all fun r => !r.2.2 || Region.lexTailB .any r.2.1.toArray 7

theorem rs_sound {w0 : World} {g go z : Nat} {x : XP} {d o n cap N len caps : Nat} {D : List Nat} {cs0 : List Value} {Q : Exit → Act → World → Prop} (u : UD g go z x d cs0) (hlen : 32 ≤ len) :
    ∀ (is : List Ins) (rs : List Reg) (b : Nat) (μ : Mem) (w : World) (a : Act) (h : UW w0 g go z x d o n cap D cs0 μ w) (hs : Sl a N x g go len caps z) (hk : keysOf rs = keysAll b is) (hl : lexOf rs = true) (hb : 5 ≤ b) (ht : b + slotsAll is ≤ N)
      (hok : okAll D n is μ) (hQ : ∀ a' w', Sl a' N x g go len caps z → UW w0 g go z x d o n cap D cs0 (runAll D is μ) w' → Q .normal a' w'), wpRs Tryz.prog rs Q a w
  | [], rs, b, μ, w, a, h, hs, hk, hl, hb, ht, hok, hQ => by
    cases rs with
    | nil => exact hQ _ _ hs h
    | cons r rs => simp [keysOf, keysAll] at hk
  | i :: is, rs, b, μ, w, a, h, hs, hk, hl, hb, ht, hok, hQ => by
    cases rs with
    | nil => simp [keysOf, keysAll] at hk
    | cons r rs =>
      simp only [keysOf, List.map_cons, keysAll, List.cons.injEq] at hk
      simp only [lexOf, List.all_cons, Bool.and_eq_true] at hl
      simp only [slotsAll] at ht
      refine ins_sound u h hs hlen i b r.1 r.2.1 r.2.2 hk.1 hb (by omega) hok.1 (fun hd => by have := hl.1; rw [hd] at this; simpa using this) ?_
      intro a' w' hs' h'
      exact rs_sound u hlen is rs (b + i.slots) _ _ _ h' hs' hk.2 hl.2 (by omega) (by omega) hok.2 hQ

theorem info_u32 : (Tryz.prog.info? 202).map (fun i => (i.zero, i.size, i.bytes)) = some (some (.int .u32 0), 1, 4) := by kernel_rfl
theorem run_alloc32 (w : World) : (Instr.alloc 202 true (.tuple #[])).run Tryz.prog w = .ok (.pointer (some ⟨w.heap.size, 0, none⟩)) (w.alloc (.cells #[.int .u32 0] 202)) := by kernel_rfl

set_option maxHeartbeats 1000000 in
/-- A whole function of such code. -/
theorem unpack_straight (f : FuncId) (fn : Func) (c : Code) (is : List Ins) (N id0 : Nat) (o0 : Oper) (rs : List Reg) (hf : Tryz.prog.funcs[f]? = some fn) (hbody : fn.body = some c) (hres : fn.results = #[]) (hN : fn.ntmps = N)
    (hflat : flatC c = some ((id0, [o0], false) :: rs)) (h0 : keyOf o0 = (some 4, .alloc 202, none)) (hk : keysOf rs = keysAll 5 is) (hl : lexOf rs = true) (ht : 5 + slotsAll is ≤ N)
    (g go : Nat) (x : XP) (d o n cap len caps P : Nat) (pr : Int) (D : List Nat) (cs0 : List Value) (outs : List Nat) (w : World) (hlen : 32 ≤ len)
    (hg : Blk w g (splice cs0 go (rowV .u32 outs))) (hx : Rd w x [.slice (some ⟨d, o, none⟩) n cap, .int .i64 (P : Int), .int .i64 pr]) (hD : BytesAt w d o n cap D)
    (gx : g ≠ x.b) (gd : g ≠ d) (xd : x.b ≠ d) (room : go + 32 ≤ cs0.length) (ol : outs.length = 32) (ob : ∀ v ∈ outs, v < 4294967296) (hok : okAll D n is ⟨P, 0, outs⟩) :
    Calls Tryz.prog f #[.iface 91 (.pointer (some ⟨x.b, x.o, none⟩)), .slice (some ⟨g, go, none⟩) len caps] w fun e w' =>
      e = .returned (.tuple #[]) ∧ Keep [x, g] w w' ∧ Blk w' g (splice cs0 go (rowV .u32 (runAll D is ⟨P, 0, outs⟩).outs)) ∧
        (∃ pr' : Int, Rd w' x [.slice (some ⟨d, o, none⟩) n cap, .int .i64 ((runAll D is ⟨P, 0, outs⟩).P : Int), .int .i64 pr']) ∧ (runAll D is ⟨P, 0, outs⟩).outs.length = 32 := by
  have gl := hg.lt
  have xl := hx.lt
  have dl : d < w.heap.size := by obtain ⟨_, h, _⟩ := hD.hd; exact h.lt
  refine calls_of_wp hf hbody (flat_sound Tryz.prog c _ _ _ _ hflat ?_)
  simp only [keyOf, Prod.mk.injEq] at h0
  obtain ⟨d0, p0, g0⟩ := h0
  have KA : Keep [] w (w.alloc (.cells #[.int .u32 0] 202)) := (Keep.refl [] w).alloc _
  refine wp_region_lit ?_
  refine wpList_plain g0 fun K hK => ?_
  unfold Oper.wp
  have hx0 : ∀ ρ, (execOp ρ o0).run Tryz.prog w = .ok (.value (.pointer (some ⟨w.heap.size, 0, none⟩))) (w.alloc (.cells #[.int .u32 0] 202)) := by
    intro ρ
    simp only [execOp, p0]
    simp [run_alloc32]
  rw [hx0, Oper.upon_value, d0]
  refine hK _ _ ?_
  change wpRs Tryz.prog rs _ _ _
  have hsz : (#[Value.iface 91 (.pointer (some ⟨x.b, x.o, none⟩)), .slice (some ⟨g, go, none⟩) len caps] ++ Array.replicate (fn.ntmps - 2) undef).size = N := by
    simp [hN]; omega
  refine rs_sound (w0 := w) (z := w.heap.size) (N := N) (caps := caps) ⟨by omega, gx, gd, by omega, by omega, xd, room⟩ hlen is rs 5 ⟨P, 0, outs⟩ _ _
    ⟨hg.keep KA (by simp), Blk.new w [.int .u32 0] _, ⟨pr, hx.keep KA (by simp)⟩, hD.keep KA (by simp), KA.weaken (by simp), ol, ob, by simp⟩ ⟨?_, ?_, ?_, rfl, ?_⟩ hk hl (by omega) ht hok ?_
  · rw [eval_put_ne (by omega)]; simp [Act.eval, Array.getD_eq_getD_getElem?, Array.getElem?_append]
  · rw [eval_put_ne (by omega)]; simp [Act.eval, Array.getD_eq_getD_getElem?, Array.getElem?_append]
  · refine eval_put_eq ?_
    show 4 < (_ : Array Value).size
    rw [show (#[Value.iface 91 (.pointer (some ⟨x.b, x.o, none⟩)), Value.slice (some ⟨g, go, none⟩) len caps].size) = 2 from rfl]
    rw [hsz]; omega
  · rw [size_put]
    exact hsz
  · intro a' w' hs h
    refine ⟨hs.df, .tuple #[], results_none hres _ _ _, rfl, h.K.weaken (by simp), h.hg, h.hx, h.len⟩

/-- The code that lays number k of n bits, as far as the word goes. (Function 3 takes a remainder that it need not take, once.) -/
def layN (n k : Nat) : Ins := if n = 3 ∧ k = 21 then .out k (n * k % 32) (2 ^ n) else .outAll k (n * k % 32)
def stepN (n k : Nat) : List Ins :=
  if n * k % 32 + n < 32 then [.out k (n * k % 32) (2 ^ n)]
  else if n * k % 32 + n = 32 then layN n k :: (if k = 31 then [] else [.rd])
  else [layN n k, .rd, .orl k (2 ^ (n * k % 32 + n - 32)) (32 - n * k % 32)]
/-- The code that reads 32 numbers of n bits. -/
def progN (n : Nat) : List Ins := .rd :: (List.range 32).flatMap (stepN n)

/-- This function is that code. -/
structure Straight (fn : Func) (is : List Ins) : Prop where
  head : (fn.body.bind flatC).map (fun l => keysOf (l.take 1)) = some [([(some 4, .alloc 202, none)], false)]
  keys : (fn.body.bind flatC).map (fun l => keysOf (l.drop 1)) = some (keysAll 5 is)
  lex : (fn.body.bind flatC).map (fun l => lexOf (l.drop 1)) = some true
  res : fn.results = #[]
  top : decide (5 + slotsAll is ≤ fn.ntmps) = true

theorem unpack_of (f : FuncId) (fn : Func) (is : List Ins) (hf : Tryz.prog.funcs[f]? = some fn) (h : Straight fn is)
    (g go : Nat) (x : XP) (d o n cap len caps P : Nat) (pr : Int) (D : List Nat) (cs0 : List Value) (outs : List Nat) (w : World) (hlen : 32 ≤ len)
    (hg : Blk w g (splice cs0 go (rowV .u32 outs))) (hx : Rd w x [.slice (some ⟨d, o, none⟩) n cap, .int .i64 (P : Int), .int .i64 pr]) (hD : BytesAt w d o n cap D)
    (gx : g ≠ x.b) (gd : g ≠ d) (xd : x.b ≠ d) (room : go + 32 ≤ cs0.length) (ol : outs.length = 32) (ob : ∀ v ∈ outs, v < 4294967296) (hok : okAll D n is ⟨P, 0, outs⟩) :
    Calls Tryz.prog f #[.iface 91 (.pointer (some ⟨x.b, x.o, none⟩)), .slice (some ⟨g, go, none⟩) len caps] w fun e w' =>
      e = .returned (.tuple #[]) ∧ Keep [x, g] w w' ∧ Blk w' g (splice cs0 go (rowV .u32 (runAll D is ⟨P, 0, outs⟩).outs)) ∧
        (∃ pr' : Int, Rd w' x [.slice (some ⟨d, o, none⟩) n cap, .int .i64 ((runAll D is ⟨P, 0, outs⟩).P : Int), .int .i64 pr']) ∧ (runAll D is ⟨P, 0, outs⟩).outs.length = 32 := by
  obtain ⟨h1, h2, h3, h4, h5⟩ := h
  cases hb : fn.body with
  | none => rw [hb] at h1; cases h1
  | some c =>
    rw [hb] at h1 h2 h3
    simp only [Option.bind_some] at h1 h2 h3
    cases hfl : flatC c with
    | none => rw [hfl] at h1; cases h1
    | some l =>
      rw [hfl] at h1 h2 h3
      simp only [Option.map_some, Option.some.injEq] at h1 h2 h3
      cases l with
      | nil => simp [keysOf] at h1
      | cons r rs =>
        obtain ⟨id0, ops, dr⟩ := r
        simp only [List.take_succ_cons, List.take_zero, keysOf, List.map_cons, List.map_nil, List.cons.injEq, Prod.mk.injEq, and_true] at h1
        obtain ⟨h1, rfl⟩ := h1
        obtain ⟨o0, rfl⟩ : ∃ o0, ops = [o0] := List.length_eq_one_iff.1 (by have := congrArg List.length h1; simpa using this)
        simp only [List.map_cons, List.map_nil, List.cons.injEq, and_true] at h1
        exact unpack_straight f fn c is fn.ntmps id0 o0 rs hf hb h4 rfl hfl h1 (by simpa using h2) (by simpa using h3) (by simpa using h5) g go x d o n cap len caps P pr D cs0 outs w hlen hg hx hD gx gd xd room ol ob hok

theorem straight2 : Straight Tryz.f187 (progN 2) := ⟨by kernel_rfl, by kernel_rfl, by kernel_rfl, by kernel_rfl, by kernel_rfl⟩
theorem straight3 : Straight Tryz.f188 (progN 3) := ⟨by kernel_rfl, by kernel_rfl, by kernel_rfl, by kernel_rfl, by kernel_rfl⟩
theorem straight5 : Straight Tryz.f190 (progN 5) := ⟨by kernel_rfl, by kernel_rfl, by kernel_rfl, by kernel_rfl, by kernel_rfl⟩
theorem straight6 : Straight Tryz.f191 (progN 6) := ⟨by kernel_rfl, by kernel_rfl, by kernel_rfl, by kernel_rfl, by kernel_rfl⟩
theorem straight7 : Straight Tryz.f192 (progN 7) := ⟨by kernel_rfl, by kernel_rfl, by kernel_rfl, by kernel_rfl, by kernel_rfl⟩
theorem straight9 : Straight Tryz.f194 (progN 9) := ⟨by kernel_rfl, by kernel_rfl, by kernel_rfl, by kernel_rfl, by kernel_rfl⟩
theorem straight10 : Straight Tryz.f195 (progN 10) := ⟨by kernel_rfl, by kernel_rfl, by kernel_rfl, by kernel_rfl, by kernel_rfl⟩
theorem straight11 : Straight Tryz.f196 (progN 11) := ⟨by kernel_rfl, by kernel_rfl, by kernel_rfl, by kernel_rfl, by kernel_rfl⟩
theorem straight12 : Straight Tryz.f197 (progN 12) := ⟨by kernel_rfl, by kernel_rfl, by kernel_rfl, by kernel_rfl, by kernel_rfl⟩
theorem straight13 : Straight Tryz.f198 (progN 13) := ⟨by kernel_rfl, by kernel_rfl, by kernel_rfl, by kernel_rfl, by kernel_rfl⟩
theorem straight14 : Straight Tryz.f199 (progN 14) := ⟨by kernel_rfl, by kernel_rfl, by kernel_rfl, by kernel_rfl, by kernel_rfl⟩
theorem straight15 : Straight Tryz.f200 (progN 15) := ⟨by kernel_rfl, by kernel_rfl, by kernel_rfl, by kernel_rfl, by kernel_rfl⟩
theorem straight17 : Straight Tryz.f202 (progN 17) := ⟨by kernel_rfl, by kernel_rfl, by kernel_rfl, by kernel_rfl, by kernel_rfl⟩
theorem straight18 : Straight Tryz.f203 (progN 18) := ⟨by kernel_rfl, by kernel_rfl, by kernel_rfl, by kernel_rfl, by kernel_rfl⟩
theorem straight19 : Straight Tryz.f204 (progN 19) := ⟨by kernel_rfl, by kernel_rfl, by kernel_rfl, by kernel_rfl, by kernel_rfl⟩
theorem straight20 : Straight Tryz.f205 (progN 20) := ⟨by kernel_rfl, by kernel_rfl, by kernel_rfl, by kernel_rfl, by kernel_rfl⟩
theorem straight21 : Straight Tryz.f206 (progN 21) := ⟨by kernel_rfl, by kernel_rfl, by kernel_rfl, by kernel_rfl, by kernel_rfl⟩
theorem straight22 : Straight Tryz.f207 (progN 22) := ⟨by kernel_rfl, by kernel_rfl, by kernel_rfl, by kernel_rfl, by kernel_rfl⟩
theorem straight23 : Straight Tryz.f208 (progN 23) := ⟨by kernel_rfl, by kernel_rfl, by kernel_rfl, by kernel_rfl, by kernel_rfl⟩
theorem straight25 : Straight Tryz.f210 (progN 25) := ⟨by kernel_rfl, by kernel_rfl, by kernel_rfl, by kernel_rfl, by kernel_rfl⟩
theorem straight26 : Straight Tryz.f211 (progN 26) := ⟨by kernel_rfl, by kernel_rfl, by kernel_rfl, by kernel_rfl, by kernel_rfl⟩
theorem straight27 : Straight Tryz.f212 (progN 27) := ⟨by kernel_rfl, by kernel_rfl, by kernel_rfl, by kernel_rfl, by kernel_rfl⟩
theorem straight29 : Straight Tryz.f214 (progN 29) := ⟨by kernel_rfl, by kernel_rfl, by kernel_rfl, by kernel_rfl, by kernel_rfl⟩
theorem straight30 : Straight Tryz.f215 (progN 30) := ⟨by kernel_rfl, by kernel_rfl, by kernel_rfl, by kernel_rfl, by kernel_rfl⟩
theorem straight31 : Straight Tryz.f216 (progN 31) := ⟨by kernel_rfl, by kernel_rfl, by kernel_rfl, by kernel_rfl, by kernel_rfl⟩
end Go.Proofs.YtlolcgklcnechaaGreatDoor
set_option linter.unusedVariables false
set_option linter.unusedSimpArgs false
namespace Go.Proofs.YtlolcgklcnechaaGreatDoor
open Go.RowKit

theorem win_in (M N P i b : Nat) (h : i + b ≤ M) : N / 2 ^ P % 2 ^ M / 2 ^ i % 2 ^ b = N / 2 ^ (P + i) % 2 ^ b := by
  rw [show (2 : Nat) ^ M = 2 ^ i * 2 ^ (M - i) by rw [← Nat.pow_add, show i + (M - i) = M by omega], Nat.mod_mul_right_div_self, Nat.div_div_eq_div_mul, ← Nat.pow_add,
    Nat.mod_mod_of_dvd _ (Nat.pow_dvd_pow 2 (by omega))]

theorem win_cross (M N P i b : Nat) (hi : i ≤ M) (hb : b ≤ M) (h : M ≤ i + b) :
    N / 2 ^ P % 2 ^ M / 2 ^ i + N / 2 ^ (P + M) % 2 ^ M % 2 ^ (i + b - M) * 2 ^ (M - i) = N / 2 ^ (P + i) % 2 ^ b := by
  rw [Nat.mod_mod_of_dvd _ (Nat.pow_dvd_pow 2 (by omega : i + b - M ≤ M))]
  rw [show (2 : Nat) ^ M = 2 ^ i * 2 ^ (M - i) by rw [← Nat.pow_add, show i + (M - i) = M by omega], Nat.mod_mul_right_div_self, Nat.div_div_eq_div_mul, ← Nat.pow_add]
  conv => rhs; rw [show (2 : Nat) ^ b = 2 ^ (M - i) * 2 ^ (i + b - M) by rw [← Nat.pow_add, show M - i + (i + b - M) = b by omega], Nat.mod_mul, Nat.div_div_eq_div_mul, ← Nat.pow_add, show P + i + (M - i) = P + M by omega]
  rw [Nat.mul_comm (2 ^ (M - i))]

theorem word_at (D : List Nat) (P m : Nat) (h : ∀ y ∈ D, y < 256) : leVal ((D.drop (P + 4 * m)).take 4) = leVal (D.drop P) / 2 ^ (32 * m) % 2 ^ 32 := by
  rw [← List.drop_drop, leVal_take _ _ (fun y hy => h y (List.mem_of_mem_drop (List.mem_of_mem_drop hy))), leVal_drop _ _ (fun y hy => h y (List.mem_of_mem_drop hy)), show (256 : Nat) = 2 ^ 8 from rfl, ← Nat.pow_mul, ← Nat.pow_mul]
  congr 2
  congr 1
  omega

theorem runAll_append (D : List Nat) : ∀ (l m : List Ins) (μ : Mem), runAll D (l ++ m) μ = runAll D m (runAll D l μ)
  | [], m, μ => rfl
  | i :: l, m, μ => runAll_append D l m _
theorem okAll_append (D : List Nat) (n : Nat) : ∀ (l m : List Ins) (μ : Mem), okAll D n l μ → okAll D n m (runAll D l μ) → okAll D n (l ++ m) μ
  | [], m, μ, _, h => h
  | i :: l, m, μ, h, h2 => ⟨h.1, okAll_append D n l m _ h.2 h2⟩

/-- What stands where k numbers are read. -/
structure Jk (D : List Nat) (P n k : Nat) (μ : Mem) : Prop where
  len : μ.outs.length = 32
  val : ∀ i, i < k → μ.outs[i]? = some (leVal (D.drop P) / 2 ^ (n * i) % 2 ^ n)
  word : k < 32 → μ.word = leVal (D.drop P) / 2 ^ (32 * (n * k / 32)) % 2 ^ 32 ∧ μ.P = P + 4 * (n * k / 32 + 1)
  last : k = 32 → μ.P = P + 4 * n

theorem set_val {outs : List Nat} {k v : Nat} {f : Nat → Nat} (hl : outs.length = 32) (hk : k < 32) (h : ∀ i, i < k → outs[i]? = some (f i)) (hv : v = f k) : ∀ i, i < k + 1 → (outs.set k v)[i]? = some (f i) := by
  intro i hi
  rw [List.getElem?_set]
  by_cases hik : k = i
  · subst hik
    rw [if_pos rfl, if_pos (by omega), hv]
  · rw [if_neg hik]
    exact h i (by omega)

theorem layN_run (D : List Nat) (n k : Nat) (μ : Mem) (hw : μ.word < 2 ^ 32) (hge : 32 ≤ n * k % 32 + n) : (layN n k).run D μ = { μ with outs := μ.outs.set k (μ.word / 2 ^ (n * k % 32)) } := by
  unfold layN
  split
  · simp only [Ins.run]
    have hs : n * k % 32 < 32 := Nat.mod_lt _ (by omega)
    have h1 : μ.word / 2 ^ (n * k % 32) < 2 ^ (32 - n * k % 32) := by
      rw [Nat.div_lt_iff_lt_mul (Nat.two_pow_pos _), ← Nat.pow_add, show 32 - n * k % 32 + n * k % 32 = 32 by omega]; exact hw
    rw [Nat.mod_eq_of_lt (Nat.lt_of_lt_of_le h1 (Nat.pow_le_pow_right (by omega) (by omega)))]
  · rfl
theorem layN_ok (L n k : Nat) (μ : Mem) (hk : k < 32) : (layN n k).ok L μ := by
  unfold layN
  split
  · exact ⟨hk, Nat.mod_lt _ (by omega), Nat.two_pow_pos _⟩
  · exact ⟨hk, Nat.mod_lt _ (by omega)⟩

theorem step_Jk {D : List Nat} {P n k L : Nat} {μ : Mem} (h : Jk D P n k μ) (hby : ∀ y ∈ D, y < 256) (hn0 : 0 < n) (hn : n < 32) (hk : k < 32) (hL : P + 4 * n ≤ L) :
    okAll D L (stepN n k) μ ∧ Jk D P n (k + 1) (runAll D (stepN n k) μ) := by
  obtain ⟨hl, hv, hw, -⟩ := h
  obtain ⟨hw, hP⟩ := hw hk
  obtain ⟨j, hj⟩ : ∃ j, j = n * k / 32 := ⟨_, rfl⟩
  obtain ⟨s, hs⟩ : ∃ s, s = n * k % 32 := ⟨_, rfl⟩
  have hsum : 32 * j + s = n * k := by rw [hj, hs]; exact Nat.div_add_mod _ _
  have hs32 : s < 32 := by rw [hs]; exact Nat.mod_lt _ (by omega)
  have hnext : n * (k + 1) = 32 * j + s + n := by rw [Nat.mul_add, hsum, Nat.mul_one]
  have hmax : n * (k + 1) ≤ n * 32 := Nat.mul_le_mul_left _ (by omega)
  have hw32 : μ.word < 2 ^ 32 := by rw [hw]; exact Nat.mod_lt _ (by decide)
  rw [← hj] at hw hP
  unfold stepN
  rw [← hs]
  by_cases h1 : s + n < 32
  · rw [if_pos h1]
    have hdiv : n * (k + 1) / 32 = j := by rw [hnext]; omega
    refine ⟨⟨⟨hk, hs32, Nat.two_pow_pos _⟩, trivial⟩, by simpa [runAll, Ins.run] using hl, ?_, fun _ => ?_, ?_⟩
    · refine set_val hl hk hv ?_
      rw [hw, win_in 32 _ _ _ _ (by omega), hsum]
    · rw [hdiv]; exact ⟨hw, hP⟩
    · intro h32
      exfalso
      have : k = 31 := by omega
      subst this
      omega
  · rw [if_neg h1]
    have hrun := layN_run D n k μ hw32 (by rw [← hs]; omega)
    rw [← hs] at hrun
    by_cases h2 : s + n = 32
    · rw [if_pos h2]
      have hval : μ.word / 2 ^ s = leVal (D.drop P) / 2 ^ (n * k) % 2 ^ n := by
        rw [← hsum, ← win_in 32 _ _ s n (by omega), ← hw]
        symm
        refine Nat.mod_eq_of_lt ?_
        rw [Nat.div_lt_iff_lt_mul (Nat.two_pow_pos _), ← Nat.pow_add, show n + s = 32 by omega]; exact hw32
      have hdiv : n * (k + 1) / 32 = j + 1 := by rw [hnext]; omega
      by_cases h31 : k = 31
      · rw [if_pos h31]
        refine ⟨⟨layN_ok _ _ _ _ hk, trivial⟩, ?_⟩
        simp only [runAll]
        rw [hrun]
        refine ⟨by simpa using hl, set_val hl hk hv hval, fun h => by omega, fun _ => ?_⟩
        simp only
        rw [hP]
        subst h31
        omega
      · rw [if_neg h31]
        refine ⟨⟨layN_ok _ _ _ _ hk, ?_, trivial⟩, ?_⟩
        · rw [hrun]
          show μ.P + 4 ≤ L
          rw [hP]
          have : n * (k + 1) ≤ n * 31 := Nat.mul_le_mul_left _ (by omega)
          omega
        · simp only [runAll]
          rw [hrun]
          simp only [Ins.run]
          refine ⟨by simpa using hl, set_val hl hk hv hval, fun _ => ?_, fun h => by omega⟩
          simp only
          rw [hP, word_at D P (j + 1) hby, hdiv]
          exact ⟨rfl, by omega⟩
    · rw [if_neg h2]
      have h31 : k ≠ 31 := by
        rintro rfl
        omega
      have hdiv : n * (k + 1) / 32 = j + 1 := by rw [hnext]; omega
      have hA : μ.word / 2 ^ s < 2 ^ (32 - s) := by
        rw [Nat.div_lt_iff_lt_mul (Nat.two_pow_pos _), ← Nat.pow_add, show 32 - s + s = 32 by omega]; exact hw32
      have hwn := word_at D P (j + 1) hby
      obtain ⟨W2, hW2⟩ : ∃ W2, W2 = leVal ((D.drop (P + 4 * (j + 1))).take 4) := ⟨_, rfl⟩
      rw [← hW2] at hwn
      have hB : W2 % 2 ^ (s + n - 32) * 2 ^ (32 - s) < 2 ^ n := by
        have e1 : W2 % 2 ^ (s + n - 32) < 2 ^ (s + n - 32) := Nat.mod_lt _ (Nat.two_pow_pos _)
        have e2 : (W2 % 2 ^ (s + n - 32) + 1) * 2 ^ (32 - s) ≤ 2 ^ (s + n - 32) * 2 ^ (32 - s) := Nat.mul_le_mul_right _ e1
        rw [← Nat.pow_add, show s + n - 32 + (32 - s) = n by omega, Nat.add_mul] at e2
        have := Nat.two_pow_pos (32 - s)
        omega
      have hB32 : W2 % 2 ^ (s + n - 32) * 2 ^ (32 - s) < 4294967296 := Nat.lt_of_lt_of_le hB (Nat.le_trans (Nat.pow_le_pow_right (by omega) (show n ≤ 32 by omega)) (by decide))
      have hval : μ.word / 2 ^ s ||| W2 % 2 ^ (s + n - 32) * 2 ^ (32 - s) % 4294967296 = leVal (D.drop P) / 2 ^ (n * k) % 2 ^ n := by
        rw [Nat.mod_eq_of_lt hB32, Nat.or_comm, nat_join (32 - s) _ _ (Nat.mul_mod_left _ _) hA, Nat.add_comm, hw, hwn, ← hsum, show 32 * (j + 1) = 32 * j + 32 by omega]
        exact win_cross 32 _ _ _ _ (by omega) (by omega) (by omega)
      refine ⟨⟨layN_ok _ _ _ _ hk, ?_, ⟨hk, by omega, Nat.two_pow_pos _⟩, trivial⟩, ?_⟩
      · rw [hrun]
        show μ.P + 4 ≤ L
        rw [hP]
        have : n * (k + 1) ≤ n * 31 := Nat.mul_le_mul_left _ (by omega)
        omega
      · simp only [runAll]
        rw [hrun]
        simp only [Ins.run]
        rw [hP, ← hW2]
        have hget : (μ.outs.set k (μ.word / 2 ^ s)).getD k 0 = μ.word / 2 ^ s := by
          rw [List.getD_eq_getElem?_getD, List.getElem?_set_self (by omega)]; rfl
        rw [hget, List.set_set]
        refine ⟨by simpa using hl, set_val hl hk hv hval, fun _ => ?_, fun h => by omega⟩
        simp only
        rw [hdiv]
        exact ⟨hwn, by omega⟩

theorem progN_law {D : List Nat} {P n L : Nat} {outs : List Nat} (hby : ∀ y ∈ D, y < 256) (hn0 : 0 < n) (hn : n < 32) (hL : P + 4 * n ≤ L) (hl : outs.length = 32) :
    okAll D L (progN n) ⟨P, 0, outs⟩ ∧ Jk D P n 32 (runAll D (progN n) ⟨P, 0, outs⟩) := by
  have key : ∀ k, k ≤ 32 → okAll D L (.rd :: (List.range k).flatMap (stepN n)) ⟨P, 0, outs⟩ ∧ Jk D P n k (runAll D (.rd :: (List.range k).flatMap (stepN n)) ⟨P, 0, outs⟩) := by
    intro k
    induction k with
    | zero =>
      intro _
      refine ⟨⟨?_, trivial⟩, ?_⟩
      · show P + 4 ≤ L
        omega
      · simp only [List.range_zero, List.flatMap_nil, runAll, Ins.run]
        refine ⟨hl, fun i hi => absurd hi (by omega), fun _ => ?_, fun h => absurd h (by omega)⟩
        have := word_at D P 0 hby
        simp only [Nat.mul_zero, Nat.add_zero] at this
        simp [this]
    | succ k ih =>
      intro hk
      obtain ⟨h1, h2⟩ := ih (by omega)
      obtain ⟨h3, h4⟩ := step_Jk h2 hby hn0 hn (by omega) hL
      rw [List.range_succ, List.flatMap_append, ← List.cons_append]
      simp only [List.flatMap_cons, List.flatMap_nil, List.append_nil]
      rw [runAll_append]
      exact ⟨okAll_append _ _ _ _ _ h1 h3, h4⟩
  exact key 32 (by omega)
end Go.Proofs.YtlolcgklcnechaaGreatDoor
