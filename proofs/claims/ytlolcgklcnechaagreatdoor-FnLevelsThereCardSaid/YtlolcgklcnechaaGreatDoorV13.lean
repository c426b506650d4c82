/- impl.LevelsRead, of one batch, whatever reads the levels. -/
import Derived.Test.YtlolcgklcnechaaGreatDoorOwn
import Derived.Test.YtlolcgklcnechaaGreatDoorV10
import Derived.Deep.RegionWith
import Derived.Deep.CutRange
set_option linter.unusedVariables false
set_option linter.unusedSimpArgs false
namespace Go.Proofs.YtlolcgklcnechaaGreatDoor
open Go.RowKit

theorem info_i16 : (Tryz.prog.info? 68).map (fun i => (i.zero, i.size, i.bytes)) = some (some (.int .i16 0), 1, 2) := by kernel_rfl

theorem make_i16 (k : Int) (n : Nat) (hk : k = (n : Int)) (hn : n ≤ 35184372088832) (w : World) :
    (Instr.makeSlice 65 (.int .i64 k) (.int .i64 k)).run Tryz.prog w = .ok (.slice (some ⟨w.heap.size, 0, none⟩) n n) (w.alloc (.cells (rowV .i16 (List.replicate n 0)).toArray 68)) := by
  subst hk
  rw [rowV_replicate, ← madeRow]
  exact run_make_row' (P := Tryz.prog) 65 68 (.int .i16 0) 2 Tryz.underlying65 info_i16 rfl .i64 .i64 n (by omega) (by omega) w

theorem levelsRead_idle (p q r s : Addr) (w : World) :
    CallsD Tryz.prog 78 #[.pointer (some p), .pointer (some q), .pointer (some r), .pointer (some s)] .returning w fun e u' w' => e = .returned (.tuple #[]) ∧ u' = .returning ∧ w' = w := by
  refine callsD_of_wpS Tryz.func78 rfl fun c₀ cs hu => ?_
  apply wpS_seq
  apply wpS_region
  simp [wpOpsS, go_sem, recoverD, hu, Tryz.ntmps78, Exit.thenS]
  refine wpS_cond (t := false) (by simp [Act.eval, Array.replicate]) ?_
  simp only [Bool.false_eq_true, if_false]
  refine wpS_of_wp (wp_skip ?_)
  cases c₀
  simp_all [bodyPostS, results, Tryz.results78]

def leDecCells0 : List Value := [.int .i64 0, .int .i64 0, .int .i16 0, .int .i64 0, .pointer none, .pointer none]

def DecPost (y v n : Nat) (want : List Nat) (w2 : World) (e : Ending) (w3 : World) : Prop :=
  ∃ mx : Nat, e = .returned (.tuple #[.int .i64 (n : Int), .int .i64 (mx : Int), .nilIface]) ∧ (∃ S, Keep S w2 w3 ∧ ∀ s ∈ S, y ≤ s) ∧ Blk w3 v (rowV .i16 want)

def SetPost (lo y n : Nat) (want : List Nat) (w1 : World) (e : Ending) (w' : World) : Prop :=
  ∃ u : Nat, e = .returned (.tuple #[.int .i64 (u : Int), .nilIface]) ∧ Keep [y] w1 w' ∧ ∀ S w2 v, Keep S w' w2 → (∀ s ∈ S, lo ≤ s ∧ s < y) → w'.heap.size ≤ v → Blk w2 v (rowV .i16 (List.replicate n 0)) →
    Calls Tryz.prog 80 #[.pointer (some ⟨y, 0, none⟩), .slice (some ⟨v, 0, none⟩) n n] w2 fun e w3 => DecPost y v n want w2 e w3

/-- What stands behind the one batch. -/
def ReadAll (w : World) (n : Nat) (want : List Nat) (u : Nat) (b : Bool) (wx : World) : Prop :=
  ∃ gb c cs gi, Keep [] w wx ∧ Blk wx w.heap.size [.slice (some ⟨gb, 0, none⟩) n c] ∧ Blk wx (w.heap.size + 1) [.int .i64 gi] ∧ Blk wx (w.heap.size + 1 + 1) [.int .i64 (u : Int)] ∧ Blk wx (w.heap.size + 1 + 1 + 1) [.bool b] ∧
    w.heap.size + 1 + 1 + 1 < gb ∧ Blk wx gb cs ∧ cs.take n = rowV .i16 want ∧ cs.length = c ∧ n ≤ c

theorem ReadAll.drew {w : World} {n : Nat} {want : List Nat} {u : Nat} {b : Bool} {wx : World} (h : ReadAll w n want u b wx) : ReadAll w n want u b wx.drew := by
  obtain ⟨gb, c, cs, gi, kk, hA, hG, hU, hT, hgb, hB, ht, hl, hc⟩ := h
  exact ⟨gb, c, cs, gi, kk.drew, hA.drew, hG.drew, hU.drew, hT.drew, hgb, hB.drew, ht, hl, hc⟩

/-- An append at a step of a drawn region. -/
theorem wp_append {P : Program} {o : Oper} {a : Act} {w w' : World} {K : Act → World → Prop} {Q : Exit → Act → World → Prop} (s x : Operand) (t : TypeId) (ho : o.op = .call { callee := .builtin .append, args := #[s, x], argTypes := #[t, t] })
    {sv xv v' : Value} (hs : a.eval s = sv) (hx : a.eval x = xv) (hrun : (Builtin.append_ #[t, t] o.type #[sv, xv]).run P w = .ok v' w') (hK : K (a.put o.dst v') w') : o.wp P a w K Q := by
  unfold Oper.wp
  simp [execOp, ho, resolve, invoke, builtin, hs, hx, hrun, Result.andThen]
  exact hK

set_option maxRecDepth 100000 in
set_option maxHeartbeats 4000000 in
theorem levelsReadOf (runs : Bool) (g n ba bc : Nat) (want : List Nat) (dv : Value) (w : World) (hn0 : 0 < n) (hn : n ≤ 100000) (hg : g ≤ 16384) (hwl : want.length = n) (hb : w.cell? ⟨ba, 0, none⟩ = some (.int .i64 (n : Int)))
    (hSet : ∀ w1 y, Keep [] w w1 → w.heap.size ≤ y → y + 1 = w1.heap.size → Blk w1 y leDecCells0 → Calls Tryz.prog 79 #[.pointer (some ⟨y, 0, none⟩), .int .i64 (if runs then 3 else 4), .int .i16 (g : Int), .int .i64 (n : Int), dv] w1 fun e w' => SetPost w.heap.size y n want w1 e w') :
    Calls Tryz.prog 31 #[.bool runs, .int .i64 (g : Int), .int .i64 (n : Int), dv, .slice (some ⟨ba, 0, none⟩) 1 bc] w fun e w' =>
      ∃ gb c cs gi u, e = .returned (.tuple #[.slice (some ⟨gb, 0, none⟩) n c, .int .i64 gi, .int .i64 u, .bool true]) ∧ Keep [] w w' ∧ w.heap.size ≤ gb ∧ Blk w' gb cs ∧ cs.take n = rowV .i16 want ∧ cs.length = c ∧ n ≤ c := by
  have hCode := fun w => levelsCodeC runs w
  obtain ⟨cd, hcd⟩ : ∃ cd : Int, cd = if runs then 3 else 4 := ⟨_, rfl⟩
  rw [← hcd] at hSet
  simp only [← hcd] at hCode
  have hwr : IntKind.i16.wrap (g : Int) = (g : Int) := by simp only [IntKind.wrap, IntKind.bits, IntKind.signed]; simp; omega
  have hbl := World.block_lt_of_cell? _ _ hb
  have hmk := make_i16 (n : Int) n rfl (by omega)
  obtain ⟨i0, hi, hz0, hz1, hz2⟩ := info_parts info_i16
  have HSet := Lib.hid hSet
  clear hSet hcd
  go_enter_defers Tryz.func31, Tryz.ntmps31
  go_wp2_with (go_at_call 73; refine (hCode _).mono ?_; rintro e w' ⟨rfl, rfl⟩)
  obtain ⟨w4, hw4⟩ : ∃ w4, w4 = (((((w.alloc (Obj.cells #[Value.slice none 0 0] 65)).alloc (Obj.cells #[Value.int IntKind.i64 0] 3)).alloc (Obj.cells #[Value.int IntKind.i64 0] 3)).alloc (Obj.cells #[Value.bool false] 4)).alloc
      (Obj.cells #[Value.int IntKind.i64 0, Value.int IntKind.i64 0, Value.int IntKind.i16 0, Value.int IntKind.i64 0, Value.pointer none, Value.pointer none] 164)) := ⟨_, rfl⟩
  rw [← hw4]
  have K4 : Keep [] w w4 := by rw [hw4]; exact (((((Keep.refl [] w).alloc _).alloc _).alloc _).alloc _).alloc _
  have hs4 : w4.heap.size = w.heap.size + 1 + 1 + 1 + 1 + 1 := by rw [hw4]; simp
  have hA4 : Blk w4 w.heap.size [.slice none 0 0] := by
    rw [hw4]; exact ((((Blk.of_new (cs := [.slice none 0 0]) rfl).alloc _).alloc _).alloc _).alloc _
  have hG4 : Blk w4 (w.heap.size + 1) [.int .i64 0] := by
    rw [hw4]; exact (((Blk.of_new (cs := [.int .i64 0]) (by simp)).alloc _).alloc _).alloc _
  have hU4 : Blk w4 (w.heap.size + 1 + 1) [.int .i64 0] := by
    rw [hw4]; exact ((Blk.of_new (cs := [.int .i64 0]) (by simp)).alloc _).alloc _
  have hT4 : Blk w4 (w.heap.size + 1 + 1 + 1) [.bool false] := by
    rw [hw4]; exact (Blk.of_new (cs := [.bool false]) (by simp)).alloc _
  have hY4 : Blk w4 (w.heap.size + 1 + 1 + 1 + 1) leDecCells0 := by
    rw [hw4]; exact Blk.of_new (by simp)
  clear hw4
  refine (HSet.out w4 (w.heap.size + 1 + 1 + 1 + 1) K4 (by omega) (by omega) hY4).mono ?_
  rintro e w5 hsp
  obtain ⟨u, rfl, k5, hDec⟩ := hsp
  have K5 : Keep [] w w5 := K4.trans k5 (by simp; omega)
  have hA5 := hA4.keep k5 (by simp; omega)
  have hG5 := hG4.keep k5 (by simp)
  have hU5 := hU4.keep k5 (by simp)
  have hT5 := hT4.keep k5 (by simp)
  have fU5 := hU5.unfrozen
  have cU5 := hU5.cell (i := 0) rfl
  have hs5 : w.heap.size + 1 + 1 + 1 + 1 + 1 ≤ w5.heap.size := by rw [← hs4]; exact k5.size
  obtain ⟨w6, hw6⟩ : ∃ w6, w6 = w5.setCell ⟨w.heap.size + 1 + 1, 0, none⟩ (.int .i64 (u : Int)) := ⟨_, rfl⟩
  have k6 : Keep [w.heap.size + 1 + 1] w5 w6 := by rw [hw6]; exact (Keep.refl _ w5).set (by simp) _ _ _
  have hU6 : Blk w6 (w.heap.size + 1 + 1) [.int .i64 (u : Int)] := by rw [hw6]; exact hU5.set 0 _
  have hA6 := hA5.keep k6 (by simp; omega)
  have hG6 := hG5.keep k6 (by simp)
  have hT6 := hT5.keep k6 (by simp)
  have K6 : Keep [] w w6 := K5.trans k6 (by simp; omega)
  have hs6 : w5.heap.size = w6.heap.size := by rw [hw6]; simp
  have HDec := Lib.hid hDec
  have Hw6 := Lib.hid hw6
  have HK6 := Lib.hid (And.intro K6 k6)
  have HB6 := Lib.hid (And.intro hA6 (And.intro hG6 (And.intro hU6 hT6)))
  have Hs6 := Lib.hid (And.intro hs5 hs6)
  clear hDec hw6 K4 K5 K6 k5 k6 hA4 hG4 hU4 hT4 hY4 hA5 hG5 hU5 hT5 hA6 hG6 hU6 hT6 hs4 hs5 hs6 HSet
  go_wp2_with fail
  rw [← Hw6.out]
  go_loopw [37] (fun i wr => (i = .int .i64 0 ∧ w6 = wr) ∨ (i = .int .i64 1 ∧ ReadAll w n want u false wr)) (fun i _ => 1 - (intOf i).toNat)
  case atStart => exact .inl ⟨rfl, rfl⟩
  case round =>
    rcases hrel with ⟨rfl, rfl⟩ | ⟨rfl, hR⟩
    · have hcb := HK6.out.1.cell_some hb (by simp)
      go_wp2_with fail
      have hv7 : Blk (w6.alloc (Obj.cells (rowV IntKind.i16 (List.replicate n 0)).toArray 68)) w6.heap.size (rowV .i16 (List.replicate n 0)) := Blk.of_new rfl
      refine (HDec.out [w.heap.size + 1 + 1] _ w6.heap.size (HK6.out.2.alloc _) (by simp; omega) (by rw [Hs6.out.2]; exact Nat.le_refl _) hv7).mono ?_
      rintro e w8 hdp
      obtain ⟨mx, rfl, ⟨S, k8, hS⟩, hv8⟩ := hdp
      obtain ⟨hA6, hG6, hU6, hT6⟩ := HB6.out
      have hs8 := Nat.le_trans (Nat.le_of_eq Hs6.out.2) (Nat.le_trans (by simp) k8.size)
      have hlow : ∀ s, s < w.heap.size + 1 + 1 + 1 + 1 → s ∉ S := fun s hs hm => by have := hS s hm; omega
      have hA8 := (hA6.alloc _).keep k8 (hlow _ (by omega))
      have hG8 := (hG6.alloc _).keep k8 (hlow _ (by omega))
      have hU8 := (hU6.alloc _).keep k8 (hlow _ (by omega))
      have hT8 := (hT6.alloc _).keep k8 (hlow _ (by omega))
      have K8 : Keep [] w w8 := (HK6.out.1.alloc _).trans k8 (fun s hs => .inr (by have := hS s hs; omega))
      have hsrc : Src Tryz.prog 1 65 (.slice (some ⟨w6.heap.size, 0, none⟩) n n) want.length (rowV .i16 want) w8.drew := Src.blk Tryz.underlying65 hv8.drew hwl (by rw [List.drop_zero, List.take_of_length_le (by rw [length_rowV, hwl]; exact Nat.le_refl _)])
      obtain ⟨v9, w9, S9, happ, hG9', k9, hS9⟩ := GrowS.append (P := Tryz.prog) (lo := w.heap.size + 1 + 1 + 1 + 1) (avoid := []) (w := w8.drew) 65 65 68 i0 2 Tryz.underlying65 hi hz0 hz1 hz2 (.inl ⟨rfl, rfl⟩) (by simp; have := Hs6.out.1; omega) (by simp) _ want hsrc (by simp; omega) (by simp; omega)
      have cA8 := hA8.cell (i := 0) rfl
      have fA8 := hA8.unfrozen
      have cG8 := hG8.cell (i := 0) rfl
      have fG8 := hG8.unfrozen
      have hlow9 : ∀ s, s < w.heap.size + 1 + 1 + 1 + 1 → s ∉ S9 := fun s hs hm => by have := (hS9 s hm).1; omega
      have K9 : Keep [] w w9 := K8.drew.trans k9 (fun s hs => .inr (by have := (hS9 s hs).1; omega))
      have hA9 := hA8.drew.keep k9 (hlow9 _ (by omega))
      have hG9 := hG8.drew.keep k9 (hlow9 _ (by omega))
      have hU9 := hU8.drew.keep k9 (hlow9 _ (by omega))
      have hT9 := hT8.drew.keep k9 (hlow9 _ (by omega))
      obtain ⟨gb, c, cs, hv9, hgb, hb9, hl9, ht9, hc9⟩ : ∃ gb c cs, v9 = .slice (some ⟨gb, 0, none⟩) n c ∧ w.heap.size + 1 + 1 + 1 < gb ∧ Blk w9 gb cs ∧ cs.length = c ∧ cs.take n = rowV .i16 want ∧ n ≤ c := by
        rw [List.nil_append] at hG9'
        rcases hG9' with ⟨_, h⟩ | ⟨g2, c, cs, a1, a2, a3, a4, a5, a6, a7⟩
        · rw [h] at hwl; simp at hwl; omega
        · rw [hwl] at a1 a6 a7
          exact ⟨g2, c, cs, a1, by omega, a4, a5, a6, a7⟩
      subst hv9
      have cA9 := hA9.cell (i := 0) rfl
      have fA9 := hA9.unfrozen
      have cG9 := hG9.cell (i := 0) rfl
      have fG9 := hG9.unfrozen
      have hAll : ReadAll w n want u false ((w9.setCell ⟨w.heap.size, 0, none⟩ (.slice (some ⟨gb, 0, none⟩) n c)).setCell ⟨w.heap.size + 1, 0, none⟩ (.int .i64 (IntKind.i64.wrap (mx : Int)))) :=
        ⟨gb, c, cs, IntKind.i64.wrap (mx : Int), (K9.set (by simp) _ _ _).set (by simp) _ _ _, (hA9.set 0 _).set_other (by omega) _ _ _, (hG9.set_other (by omega) _ _ _).set 0 _, (hU9.set_other (by omega) _ _ _).set_other (by omega) _ _ _,
          (hT9.set_other (by omega) _ _ _).set_other (by omega) _ _ _, hgb, (hb9.set_other (by omega) _ _ _).set_other (by omega) _ _ _, ht9, hl9, hc9⟩
      have HAll := Lib.hid hAll
      have HK8 := Lib.hid K8
      clear hA9 hG9 hU9 hT9 hb9 hl9 ht9 hc9 hgb K9 hlow9 k9 hS9 hG9' hAll hsrc
      clear hA6 hG6 hU6 hT6 hA8 hG8 hU8 hT8 hv8 hv7 k8 hS hlow K8 hmk hCode
      go_wp2_with fail
      go_cut [] from 49 to 56 (fun wx => ReadAll w n want u false wx)
      case first =>
        refine only_normal ?_
        refine wp_region_any (by kernel_rfl) ?_
        change wpAny _ _ _ _ _ _ _ (World.drew _)
        refine wpAny_take (i := 1) (v := ?_) rfl (by kernel_rfl) (by kernel_rfl) (by kernel_rfl) (fun _ _ _ h => h) (Or.inl ⟨by rfl, ?_⟩) ?_
        rotate_left 1
        · (intro w; go_simp; try with_reducible rfl)
        refine wpAny_take (i := 2) (v := ?_) rfl (by kernel_rfl) (by kernel_rfl) (by kernel_rfl) (fun _ _ _ h => h) (Or.inl ⟨by rfl, ?_⟩) ?_
        rotate_left 1
        · (intro w; go_simp; try with_reducible rfl)
        refine wpAny_take (i := 3) (v := ?_) rfl (by kernel_rfl) (by kernel_rfl) (by kernel_rfl) (fun _ _ _ h => h) (Or.inl ⟨by rfl, ?_⟩) ?_
        rotate_left 1
        · (intro w; go_simp; try with_reducible rfl)
        refine wpAny_take (i := 6) (v := ?_) rfl (by kernel_rfl) (by kernel_rfl) (by kernel_rfl) (fun _ _ _ h => h) (Or.inl ⟨by rfl, ?_⟩) ?_
        rotate_left 1
        · (intro w; go_simp; try with_reducible rfl)
        refine wpAny_ready (rs := [0, 5]) (by kernel_rfl) (by simp) ?_
        refine (AllReady.cons rfl (fun K hK => ?_) (AllReady.cons rfl (fun K hK => ?_) AllReady.nil))
        · go_simp
          refine hK _ _ ?_
          clear hK K
          refine wpAny_ready (rs := [4, 5]) (by kernel_rfl) (by simp) ?_
          refine (AllReady.cons rfl (fun K hK => ?_) (AllReady.cons rfl (fun K hK => ?_) AllReady.nil))
          · refine wp_append _ _ 65 rfl rfl rfl happ ?_
            refine hK _ _ ?_
            clear hK K
            refine wpAny_ready (rs := [5, 8]) (by kernel_rfl) (by simp) ?_
            refine (AllReady.cons rfl (fun K hK => ?_) (AllReady.cons rfl (fun K hK => ?_) AllReady.nil))
            · go_simp
              refine hK _ _ ?_
              clear hK K
              refine wpAny_ready (rs := [7, 8]) (by kernel_rfl) (by simp) ?_
              refine (AllReady.cons rfl (fun K hK => ?_) (AllReady.cons rfl (fun K hK => ?_) AllReady.nil))
              · go_simp
                refine hK _ _ ?_
                clear hK K
                refine wpAny_ready (rs := [8]) (by kernel_rfl) (by simp) ?_
                refine (AllReady.cons rfl (fun K hK => ?_) AllReady.nil)
                · go_simp
                  refine hK _ _ ?_
                  clear hK K
                  refine wpAny_ready (rs := [9]) (by kernel_rfl) (by simp) ?_
                  refine (AllReady.cons rfl (fun K hK => ?_) AllReady.nil)
                  · go_simp
                    refine hK _ _ ?_
                    clear hK K
                    refine wpAny_done (by kernel_rfl) ?_ _
                    go_wp2_with fail
                    go_meet
                    exact HAll.out
              · go_simp
                refine hK _ _ ?_
                clear hK K
                refine wpAny_ready (rs := [7]) (by kernel_rfl) (by simp) ?_
                refine (AllReady.cons rfl (fun K hK => ?_) AllReady.nil)
                · go_simp
                  refine hK _ _ ?_
                  clear hK K
                  refine wpAny_ready (rs := [9]) (by kernel_rfl) (by simp) ?_
                  refine (AllReady.cons rfl (fun K hK => ?_) AllReady.nil)
                  · go_simp
                    refine hK _ _ ?_
                    clear hK K
                    refine wpAny_done (by kernel_rfl) ?_ _
                    go_wp2_with fail
                    go_meet
                    exact HAll.out
            · go_simp
              refine hK _ _ ?_
              clear hK K
              refine wpAny_ready (rs := [5]) (by kernel_rfl) (by simp) ?_
              refine (AllReady.cons rfl (fun K hK => ?_) AllReady.nil)
              · go_simp
                refine hK _ _ ?_
                clear hK K
                refine wpAny_ready (rs := [7]) (by kernel_rfl) (by simp) ?_
                refine (AllReady.cons rfl (fun K hK => ?_) AllReady.nil)
                · go_simp
                  refine hK _ _ ?_
                  clear hK K
                  refine wpAny_ready (rs := [9]) (by kernel_rfl) (by simp) ?_
                  refine (AllReady.cons rfl (fun K hK => ?_) AllReady.nil)
                  · go_simp
                    refine hK _ _ ?_
                    clear hK K
                    refine wpAny_done (by kernel_rfl) ?_ _
                    go_wp2_with fail
                    go_meet
                    exact HAll.out
          · go_simp
            refine hK _ _ ?_
            clear hK K
            refine wpAny_ready (rs := [4, 7]) (by kernel_rfl) (by simp) ?_
            refine (AllReady.cons rfl (fun K hK => ?_) (AllReady.cons rfl (fun K hK => ?_) AllReady.nil))
            · refine wp_append _ _ 65 rfl rfl rfl happ ?_
              refine hK _ _ ?_
              clear hK K
              refine wpAny_ready (rs := [7, 8]) (by kernel_rfl) (by simp) ?_
              refine (AllReady.cons rfl (fun K hK => ?_) (AllReady.cons rfl (fun K hK => ?_) AllReady.nil))
              · go_simp
                refine hK _ _ ?_
                clear hK K
                refine wpAny_ready (rs := [8]) (by kernel_rfl) (by simp) ?_
                refine (AllReady.cons rfl (fun K hK => ?_) AllReady.nil)
                · go_simp
                  refine hK _ _ ?_
                  clear hK K
                  refine wpAny_ready (rs := [9]) (by kernel_rfl) (by simp) ?_
                  refine (AllReady.cons rfl (fun K hK => ?_) AllReady.nil)
                  · go_simp
                    refine hK _ _ ?_
                    clear hK K
                    refine wpAny_done (by kernel_rfl) ?_ _
                    go_wp2_with fail
                    go_meet
                    exact HAll.out
              · go_simp
                refine hK _ _ ?_
                clear hK K
                refine wpAny_ready (rs := [7]) (by kernel_rfl) (by simp) ?_
                refine (AllReady.cons rfl (fun K hK => ?_) AllReady.nil)
                · go_simp
                  refine hK _ _ ?_
                  clear hK K
                  refine wpAny_ready (rs := [9]) (by kernel_rfl) (by simp) ?_
                  refine (AllReady.cons rfl (fun K hK => ?_) AllReady.nil)
                  · go_simp
                    refine hK _ _ ?_
                    clear hK K
                    refine wpAny_done (by kernel_rfl) ?_ _
                    go_wp2_with fail
                    go_meet
                    exact HAll.out
            · go_simp
              refine hK _ _ ?_
              clear hK K
              refine wpAny_ready (rs := [4]) (by kernel_rfl) (by simp) ?_
              refine (AllReady.cons rfl (fun K hK => ?_) AllReady.nil)
              · refine wp_append _ _ 65 rfl rfl rfl happ ?_
                refine hK _ _ ?_
                clear hK K
                refine wpAny_ready (rs := [8]) (by kernel_rfl) (by simp) ?_
                refine (AllReady.cons rfl (fun K hK => ?_) AllReady.nil)
                · go_simp
                  refine hK _ _ ?_
                  clear hK K
                  refine wpAny_ready (rs := [9]) (by kernel_rfl) (by simp) ?_
                  refine (AllReady.cons rfl (fun K hK => ?_) AllReady.nil)
                  · go_simp
                    refine hK _ _ ?_
                    clear hK K
                    refine wpAny_done (by kernel_rfl) ?_ _
                    go_wp2_with fail
                    go_meet
                    exact HAll.out
        · go_simp
          refine hK _ _ ?_
          clear hK K
          refine wpAny_ready (rs := [0, 7]) (by kernel_rfl) (by simp) ?_
          refine (AllReady.cons rfl (fun K hK => ?_) (AllReady.cons rfl (fun K hK => ?_) AllReady.nil))
          · go_simp
            refine hK _ _ ?_
            clear hK K
            refine wpAny_ready (rs := [4, 7]) (by kernel_rfl) (by simp) ?_
            refine (AllReady.cons rfl (fun K hK => ?_) (AllReady.cons rfl (fun K hK => ?_) AllReady.nil))
            · refine wp_append _ _ 65 rfl rfl rfl happ ?_
              refine hK _ _ ?_
              clear hK K
              refine wpAny_ready (rs := [7, 8]) (by kernel_rfl) (by simp) ?_
              refine (AllReady.cons rfl (fun K hK => ?_) (AllReady.cons rfl (fun K hK => ?_) AllReady.nil))
              · go_simp
                refine hK _ _ ?_
                clear hK K
                refine wpAny_ready (rs := [8]) (by kernel_rfl) (by simp) ?_
                refine (AllReady.cons rfl (fun K hK => ?_) AllReady.nil)
                · go_simp
                  refine hK _ _ ?_
                  clear hK K
                  refine wpAny_ready (rs := [9]) (by kernel_rfl) (by simp) ?_
                  refine (AllReady.cons rfl (fun K hK => ?_) AllReady.nil)
                  · go_simp
                    refine hK _ _ ?_
                    clear hK K
                    refine wpAny_done (by kernel_rfl) ?_ _
                    go_wp2_with fail
                    go_meet
                    exact HAll.out
              · go_simp
                refine hK _ _ ?_
                clear hK K
                refine wpAny_ready (rs := [7]) (by kernel_rfl) (by simp) ?_
                refine (AllReady.cons rfl (fun K hK => ?_) AllReady.nil)
                · go_simp
                  refine hK _ _ ?_
                  clear hK K
                  refine wpAny_ready (rs := [9]) (by kernel_rfl) (by simp) ?_
                  refine (AllReady.cons rfl (fun K hK => ?_) AllReady.nil)
                  · go_simp
                    refine hK _ _ ?_
                    clear hK K
                    refine wpAny_done (by kernel_rfl) ?_ _
                    go_wp2_with fail
                    go_meet
                    exact HAll.out
            · go_simp
              refine hK _ _ ?_
              clear hK K
              refine wpAny_ready (rs := [4]) (by kernel_rfl) (by simp) ?_
              refine (AllReady.cons rfl (fun K hK => ?_) AllReady.nil)
              · refine wp_append _ _ 65 rfl rfl rfl happ ?_
                refine hK _ _ ?_
                clear hK K
                refine wpAny_ready (rs := [8]) (by kernel_rfl) (by simp) ?_
                refine (AllReady.cons rfl (fun K hK => ?_) AllReady.nil)
                · go_simp
                  refine hK _ _ ?_
                  clear hK K
                  refine wpAny_ready (rs := [9]) (by kernel_rfl) (by simp) ?_
                  refine (AllReady.cons rfl (fun K hK => ?_) AllReady.nil)
                  · go_simp
                    refine hK _ _ ?_
                    clear hK K
                    refine wpAny_done (by kernel_rfl) ?_ _
                    go_wp2_with fail
                    go_meet
                    exact HAll.out
          · go_simp
            refine hK _ _ ?_
            clear hK K
            refine wpAny_ready (rs := [0]) (by kernel_rfl) (by simp) ?_
            refine (AllReady.cons rfl (fun K hK => ?_) AllReady.nil)
            · go_simp
              refine hK _ _ ?_
              clear hK K
              refine wpAny_ready (rs := [4]) (by kernel_rfl) (by simp) ?_
              refine (AllReady.cons rfl (fun K hK => ?_) AllReady.nil)
              · refine wp_append _ _ 65 rfl rfl rfl happ ?_
                refine hK _ _ ?_
                clear hK K
                refine wpAny_ready (rs := [8]) (by kernel_rfl) (by simp) ?_
                refine (AllReady.cons rfl (fun K hK => ?_) AllReady.nil)
                · go_simp
                  refine hK _ _ ?_
                  clear hK K
                  refine wpAny_ready (rs := [9]) (by kernel_rfl) (by simp) ?_
                  refine (AllReady.cons rfl (fun K hK => ?_) AllReady.nil)
                  · go_simp
                    refine hK _ _ ?_
                    clear hK K
                    refine wpAny_done (by kernel_rfl) ?_ _
                    go_wp2_with fail
                    go_meet
                    exact HAll.out
      case rest =>
        have HR := Lib.hid hcut
        clear hcut
        go_wp2
        go_roundw
        case rel => exact .inr ⟨rfl, HR.out⟩
        case measure => simp [intOf]
    · obtain ⟨gb, c, cs, gi, kk, hA, hG, hU, hT, hgb, hB, ht, hl, hc⟩ := hR
      have cA := hA.cell (i := 0) rfl
      have fA := hA.unfrozen
      have cG := hG.cell (i := 0) rfl
      have fG := hG.unfrozen
      have cU := hU.cell (i := 0) rfl
      have fU := hU.unfrozen
      have cT := hT.cell (i := 0) rfl
      have fT := hT.unfrozen
      have HR : Hid (ReadAll w n want u true ((((wr.setCell ⟨w.heap.size, 0, none⟩ (.slice (some ⟨gb, 0, none⟩) n c)).setCell ⟨w.heap.size + 1, 0, none⟩ (.int .i64 gi)).setCell ⟨w.heap.size + 1 + 1, 0, none⟩ (.int .i64 (u : Int))).setCell ⟨w.heap.size + 1 + 1 + 1, 0, none⟩ (.bool true))) := Lib.hid
        ⟨gb, c, cs, gi, (((kk.set (by simp) _ _ _).set (by simp) _ _ _).set (by simp; omega) _ _ _).set (by simp; omega) _ _ _, (((hA.set 0 _).set_other (by omega) _ _ _).set_other (by omega) _ _ _).set_other (by omega) _ _ _,
          (((hG.set_other (by omega) _ _ _).set 0 _).set_other (by omega) _ _ _).set_other (by omega) _ _ _, (((hU.set_other (by omega) _ _ _).set_other (by omega) _ _ _).set 0 _).set_other (by omega) _ _ _,
          (((hT.set_other (by omega) _ _ _).set_other (by omega) _ _ _).set_other (by omega) _ _ _).set 0 _, hgb, (((hB.set_other (by omega) _ _ _).set_other (by omega) _ _ _).set_other (by omega) _ _ _).set_other (by omega) _ _ _, ht, hl, hc⟩
      clear kk hA hG hU hT hgb hB ht hl hc HDec Hw6 HK6 HB6 Hs6 hmk hCode hb
      go_wp2_with fail
      go_cut [] from 65 to 67 (fun wx => ReadAll w n want u true wx)
      case first =>
        refine only_normal ?_
        go_region_with fail
        all_goals
          go_wp2_with fail
          go_meet
          exact HR.out.drew
      case rest =>
        obtain ⟨gb, c, cs, gi, kk, hA, hG, hU, hT, hgb, hB, ht, hl, hc⟩ := hcut
        have cA := hA.cell (i := 0) rfl
        have cG := hG.cell (i := 0) rfl
        have cU := hU.cell (i := 0) rfl
        have cT := hT.cell (i := 0) rfl
        have HF := Lib.hid (And.intro kk (And.intro hgb (And.intro hB (And.intro ht (And.intro hl hc)))))
        clear kk hA hG hU hT hgb hB ht hl hc
        go_wp2
        refine leaves_cons (f := 78) (args := #[.pointer (some ⟨w.heap.size, 0, none⟩), .pointer (some ⟨w.heap.size + 1, 0, none⟩), .pointer (some ⟨w.heap.size + 1 + 1, 0, none⟩), .pointer (some ⟨w.heap.size + 1 + 1 + 1, 0, none⟩)]) (by simp) (by simp [go_sem]) ?_
        refine (levelsRead_idle ⟨w.heap.size, 0, none⟩ ⟨w.heap.size + 1, 0, none⟩ ⟨w.heap.size + 1 + 1, 0, none⟩ ⟨w.heap.size + 1 + 1 + 1, 0, none⟩ _).mono ?_
        rintro e u' w'' ⟨rfl, rfl, rfl⟩
        obtain ⟨kk, hgb, hB, ht, hl, hc⟩ := HF.out
        refine ⟨.tuple #[.slice (some ⟨gb, 0, none⟩) n c, .int .i64 gi, .int .i64 (u : Int), .bool true], ?_, gb, c, cs, gi, u, rfl, kk, by omega, hB, ht, hl, hc⟩
        simp [results, Tryz.results31, go_sem, cA, cG, cU, cT]
end Go.Proofs.YtlolcgklcnechaaGreatDoor
