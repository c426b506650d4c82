/- impl.RleWritten. -/
import Derived.Test.YtlolcgklcnechaaGreatDoorP1
import Derived.Recover
import Derived.Deep.OwnRows
set_option linter.unusedVariables false
namespace Go.Proofs.YtlolcgklcnechaaGreatDoor
open Go.RowKit

theorem madeRow (z : Value) (n : Nat) : madeCells #[z] n = (List.replicate n z).toArray := by
  apply Array.toList_inj.1
  rw [toList_madeCells_one]

theorem info_u8 : (Tryz.prog.info? 5).map (fun i => (i.zero, i.size, i.bytes)) = some (some (.int .u8 0), 1, 1) := by kernel_rfl

theorem make_u8 (k : Int) (n : Nat) (hk : k = (n : Int)) (hn : n ≤ 281474976710656) (w : World) :
    (Instr.makeSlice 28 (.int .i64 k) (.int .i64 k)).run Tryz.prog w = .ok (.slice (some ⟨w.heap.size, 0, none⟩) n n) (w.alloc (.cells (rowV .u8 (List.replicate n 0)).toArray 5)) := by
  subst hk
  rw [rowV_replicate, ← madeRow]
  exact run_make_row' (P := Tryz.prog) 28 5 (.int .u8 0) 1 Tryz.underlying28 info_u8 rfl .i64 .i64 n (by omega) (by omega) w

theorem make_u64 (k : Int) (n : Nat) (hk : k = (n : Int)) (hn : n ≤ 35184372088832) (w : World) :
    (Instr.makeSlice 22 (.int .i64 k) (.int .i64 k)).run Tryz.prog w = .ok (.slice (some ⟨w.heap.size, 0, none⟩) n n) (w.alloc (.cells (rowV .u64 (List.replicate n 0)).toArray 43)) := by
  subst hk
  rw [rowV_replicate, ← madeRow]
  exact run_make_row' (P := Tryz.prog) 22 43 (.int .u64 0) 8 Tryz.underlying22 info_u64 rfl .i64 .i64 n (by omega) (by omega) w

theorem noBytes_idle (p q : Addr) (w : World) :
    CallsD Tryz.prog 33 #[.pointer (some p), .pointer (some q)] .returning w fun e u' w' => e = .returned (.tuple #[]) ∧ u' = .returning ∧ w' = w := by
  refine callsD_of_wpS Tryz.func33 rfl fun c₀ cs hu => ?_
  apply wpS_seq
  apply wpS_region
  simp [wpOpsS, go_sem, recoverD, hu, Tryz.ntmps33, Exit.thenS]
  refine wpS_cond (t := false) (by simp [Act.eval, Array.replicate]) ?_
  simp only [Bool.false_eq_true, if_false]
  refine wpS_of_wp (wp_skip ?_)
  cases c₀
  simp_all [bodyPostS, results, Tryz.results33]

/-- A slice of numbers: none, or so many cells from an address on. -/
def RowAt (w : World) (v : Value) (k : IntKind) (vs : List Nat) : Prop :=
  (v = .slice none 0 0 ∧ vs = []) ∨ ∃ a cap, v = .slice (some a) vs.length cap ∧ vs.length ≤ cap ∧ ∀ (i x : Nat), vs[i]? = some x → w.cell? (a.add i) = some (.int k (x : Int))

theorem RowAt.keep {w w' : World} {v : Value} {k : IntKind} {vs : List Nat} (h : RowAt w v k vs) (kk : Keep [] w w') : RowAt w' v k vs := by
  rcases h with h | ⟨a, cap, h1, h2, h3⟩
  · exact .inl h
  · exact .inr ⟨a, cap, h1, h2, fun i x hx => kk.cell_some (h3 i x hx) (by simp)⟩

theorem add_at (g o i : Nat) : (⟨g, o, none⟩ : Addr).add i = ⟨g, o + i, none⟩ := by unfold Addr.add; split <;> simp_all

set_option maxRecDepth 100000 in
set_option maxHeartbeats 2000000 in
theorem rleWritten_of (a : Option Addr) (cap W n : Nat) (vs : List Nat) (w : World) (hn : n = vs.length) (ha : 0 < n → ∃ a', a = some a' ∧ ∀ (i x : Nat), vs[i]? = some x → w.cell? (a'.add i) = some (.int .u64 (x : Int)))
    (hW0 : 0 < W) (hW : W ≤ 64) (hn3 : n ≤ 3000) (hs : ∀ v ∈ vs, v < 2 ^ W) :
    Calls Tryz.prog 10 #[.slice a n cap, .int .i64 (W : Int), .bool false] w fun e w' => ∃ d L data fin,
      e = .returned (.tuple #[.slice (some ⟨d, 0, none⟩) fin L, .bool true]) ∧ Keep [] w w' ∧ w.heap.size ≤ d ∧ fin = ((St.run W vs).finish W).length ∧ Blk w' d (rowV .u8 data) ∧ data.length = L ∧
        data.take fin = (St.run W vs).finish W ∧ L ≤ 600000000 := by
  obtain ⟨M, hM⟩ : ∃ M, M = maxRle W n := ⟨_, rfl⟩
  obtain ⟨m, hm⟩ : ∃ m, m = minRle W := ⟨_, rfl⟩
  have hM2 : M ≤ 300000000 := by
    have h1 : (n + 7) / 8 * W ≤ 1000 * 64 := Nat.mul_le_mul (by omega) hW
    have h2 : (n + 7) / 8 * (1 + (W + 7) / 8) ≤ 1000 * 100 := Nat.mul_le_mul (by omega) (by omega)
    rw [hM]; unfold maxRle; omega
  have hm2 : m ≤ 300000000 := by rw [hm]; unfold minRle; omega
  have hroom : Room W n (M + m) := by rw [hM, hm]; exact room_rle W n hW0
  obtain ⟨L, hL⟩ : ∃ L, L = M + m := ⟨_, rfl⟩
  rw [← hL] at hroom
  have HL := Lib.hid hL
  have hL2 : L ≤ 1099511627776 := by omega
  have hL3 : L ≤ 600000000 := by omega
  have hmk := make_u8 ((M : Int) + (m : Int)) L (by omega) (by omega)
  have HM := Lib.hid hM
  have Hm := Lib.hid hm
  have Hroom := Lib.hid hroom
  have Ha := Lib.hid ha
  have Hn := Lib.hid hn
  have Hs := Lib.hid hs
  clear hM hm hroom ha hn hs hL
  go_enter_defers Tryz.func10, Tryz.ntmps10
  go_wp2_with (first
    | (go_at_call_of 34 (W : Int); refine (maxRleC W n _ hW (by omega)).mono ?_; rw [← HM.out]; rintro e w' ⟨rfl, rfl⟩)
    | (go_at_call_of 35 (W : Int); refine (minRleC W _ hW).mono ?_; rw [← Hm.out]; rintro e w' ⟨rfl, rfl⟩))
  refine (newWriterAt (w.heap.size + 1 + 1) L L _).mono ?_
  rintro e w4 ⟨rfl, hw4⟩
  have K4 : Keep [] w w4 := by rw [hw4]; exact ((((Keep.refl [] w).alloc _).alloc _).alloc _).alloc _
  have hA4 : Blk w4 w.heap.size [.slice (some ⟨w.heap.size + 1 + 1, 0, none⟩) L L] := by
    rw [hw4]
    exact (((Blk.of_new (cs := [.slice (some ⟨w.heap.size + 1 + 1, 0, none⟩) L L]) rfl).alloc _).alloc _).alloc _
  have hT4 : Blk w4 (w.heap.size + 1) [.bool false] := by
    rw [hw4]
    exact ((Blk.of_new (cs := [.bool false]) (by simp)).alloc _).alloc _
  have hD4 : Blk w4 (w.heap.size + 1 + 1) (rowV .u8 (List.replicate L 0)) := by
    rw [hw4]
    exact (Blk.of_new (cs := rowV .u8 (List.replicate L 0)) (by simp)).alloc _
  have hP4 : Blk w4 (w.heap.size + 1 + 1 + 1) [.slice (some ⟨w.heap.size + 1 + 1, 0, none⟩) L L] := by
    rw [hw4]
    exact Blk.of_new (by simp)
  have hs4 : w4.heap.size = w.heap.size + 4 := by rw [hw4]; simp
  have Hs4 := Lib.hid hs4
  clear hw4 hs4
  go_wp2_with fail
  refine (newRleEncoder (w.heap.size + 1 + 1 + 1) (w.heap.size + 1 + 1) L W _ hP4 hD4 hL2 (by omega)).mono ?_
  rintro e w5 ⟨r, b, g, rfl, k5, hr, hb, hg, hE5⟩
  have K5 : Keep [] w w5 := K4.trans k5 (by simp)
  have hA5 := hA4.keep k5 (by simp)
  have hT5 := hT4.keep k5 (by simp)
  rw [Hs4.out] at hr hb hg
  clear k5 K4 hA4 hT4 hD4 hP4 hmk
  go_wp2_with fail
  go_loopw [61] (fun i wr => ∃ k : Nat, k ≤ n ∧ i = .int .i64 (k : Int) ∧ Keep [r, b, w.heap.size + 1 + 1, g] w5 wr ∧ EncS wr r b (w.heap.size + 1 + 1 + 1) (w.heap.size + 1 + 1) g L W (St.run W (vs.take k))) (fun i _ => n - (intOf i).toNat)
  case atStart => exact ⟨0, Nat.zero_le _, rfl, Keep.refl _ _, hE5⟩
  case round =>
    obtain ⟨k, hk, rfl, kk, hEk⟩ := hrel
    have hAk := hA5.keep kk (by simp; omega)
    have hTk := hT5.keep kk (by simp; omega)
    have hbnd := run_bounds (W := W) (n := n) (L := L) (vs.take k) (fun v hv => Hs.out v (List.mem_of_mem_take hv)) hW0 hW (by simp; omega) (by omega) Hroom.out
    have Hbnd := Lib.hid hbnd
    clear hbnd
    by_cases hk2 : k < n
    · obtain ⟨v, hv⟩ : ∃ v, v = vs[k]'(by rw [← Hn.out]; exact hk2) := ⟨_, rfl⟩
      obtain ⟨a', rfl, Hcell⟩ := Ha.out (by omega)
      have hck0 := Hcell k v (by rw [hv]; simp)
      have hlb := World.block_lt_of_cell? _ _ hck0
      have hck := kk.cell_some (K5.cell_some hck0 (by simp)) (fun hm => by simp only [List.mem_cons, List.not_mem_nil, or_false] at hm; omega)
      clear Hcell hck0 hlb
      have hvs : v < 2 ^ W := by rw [hv]; exact Hs.out _ (List.getElem_mem _)
      have Hv := Lib.hid hv
      clear hv
      go_wp2_with fail
      refine (putC r b (w.heap.size + 1 + 1 + 1) (w.heap.size + 1 + 1) g L W v (St.run W (vs.take k)) _ hEk Hbnd.out.1 hvs hW0 hW Hbnd.out.2).mono ?_
      rintro e w6 ⟨rfl, k6, hE6⟩
      go_wp2
      go_roundw
      case rel =>
        refine ⟨k + 1, hk2, by go_num, kk.trans k6 (by simp), ?_⟩
        rw [List.take_succ_eq_append_getElem (by rw [← Hn.out]; exact hk2), run_snoc, ← Hv.out]
        exact hE6
      case measure => simp [intOf]; omega
    · have hkn : k = n := by omega
      subst hkn
      rw [List.take_of_length_le (by rw [← Hn.out]; exact Nat.le_refl _)] at hEk Hbnd
      have hinv := run_inv hW0 vs (by rw [← Hn.out]; omega) Hs.out
      obtain ⟨o1, o2, o3, o4⟩ := hinv.ok (n := k) (L := L) hW0 hW (by rw [← Hn.out]; exact Nat.le_refl _) (by omega) Hroom.out
      obtain ⟨f1, f2⟩ := hinv.finish (n := k) (L := L) hW0 hW (by rw [← Hn.out]; exact Nat.le_refl _) (by omega) Hroom.out
      have Ho1 := Lib.hid o1
      have Ho3 := Lib.hid o3
      have Ho4 := Lib.hid o4
      have Hf1 := Lib.hid f1
      have cA := hAk.cell (i := 0) rfl
      have cT := hTk.cell (i := 0) rfl
      have fA := hAk.unfrozen
      have fT := hTk.unfrozen
      have Hbr := Lib.hid (And.intro hr (And.intro hb hg))
      clear hinv o1 o2 o3 o4 f1 f2
      go_wp2_with fail
      have hfl := Hf1.out
      refine wp_region_any (by kernel_rfl) ?_
      change wpAny _ _ _ _ _ _ _ (World.drew _)
      refine wpAny_ready (rs := [0, 1]) (by kernel_rfl) (by simp) ?_
      refine (AllReady.cons rfl (fun K hK => ?_) (AllReady.cons rfl (fun K hK => ?_) AllReady.nil))
      · go_simp
        refine hK _ _ ?_
        clear hK K
        refine wpAny_ready (rs := [1]) (by kernel_rfl) (by simp) ?_
        refine (AllReady.cons rfl (fun K hK => ?_) AllReady.nil)
        · go_simp
          refine hK _ _ ?_
          clear hK K
          refine wpAny_ready (rs := [2]) (by kernel_rfl) (by simp) ?_
          refine (AllReady.cons rfl (fun K hK => ?_) AllReady.nil)
          · go_simp
            refine (flushC r b (w.heap.size + 1 + 1 + 1) (w.heap.size + 1 + 1) g L W (St.run W vs) wr.drew hEk.drew Ho1.out hW0 hW Ho3.out Ho4.out Hf1.out).mono ?_
            rintro e w6 ⟨rfl, k6, data, hd6, hdl, hdt⟩
            have hA6 := hAk.drew.keep k6 (by simp; omega)
            have hT6 := hTk.drew.keep k6 (by simp; omega)
            have cA6 := hA6.cell (i := 0) rfl
            have cT6 := hT6.cell (i := 0) rfl
            have fA6 := hA6.unfrozen
            have fT6 := hT6.unfrozen
            go_wp2_with fail
            refine wpAny_ready (rs := [3]) (by kernel_rfl) (by simp) ?_
            refine (AllReady.cons rfl (fun K hK => ?_) AllReady.nil)
            · go_simp
              refine hK _ _ ?_
              clear hK K
              refine wpAny_ready (rs := [4]) (by kernel_rfl) (by simp) ?_
              refine (AllReady.cons rfl (fun K hK => ?_) AllReady.nil)
              · go_simp
                refine hK _ _ ?_
                clear hK K
                refine wpAny_ready (rs := [5]) (by kernel_rfl) (by simp) ?_
                refine (AllReady.cons rfl (fun K hK => ?_) AllReady.nil)
                · go_simp
                  refine hK _ _ ?_
                  clear hK K
                  refine wpAny_done (by kernel_rfl) ?_ _
                  go_wp2
                  refine leaves_cons (f := 33) (args := #[.pointer (some ⟨w.heap.size, 0, none⟩), .pointer (some ⟨w.heap.size + 1, 0, none⟩)]) (by simp) (by simp [go_sem]) ?_
                  refine (noBytes_idle ⟨w.heap.size, 0, none⟩ ⟨w.heap.size + 1, 0, none⟩ _).mono ?_
                  rintro e u' w'' ⟨rfl, rfl, rfl⟩
                  have hA7 := (hA6.set 0 (.slice (some ⟨w.heap.size + 1 + 1, 0, none⟩) (St.finish W (St.run W vs)).length L)).set_other (c := w.heap.size + 1) (by omega) 0 none (.bool true)
                  have hT7 := (hT6.set_other (c := w.heap.size) (by omega) 0 none (.slice (some ⟨w.heap.size + 1 + 1, 0, none⟩) (St.finish W (St.run W vs)).length L)).set 0 (.bool true)
                  have cA7 := hA7.cell (i := 0) rfl
                  have cT7 := hT7.cell (i := 0) rfl
                  have K7 : Keep [] w ((w6.setCell ⟨w.heap.size, 0, none⟩ (.slice (some ⟨w.heap.size + 1 + 1, 0, none⟩) (St.finish W (St.run W vs)).length L)).setCell ⟨w.heap.size + 1, 0, none⟩ (.bool true)) :=
                    (((K5.trans kk.drew (by simp; omega)).trans k6 (by simp; omega)).set (by simp) _ _ _).set (by simp) _ _ _
                  have hd7 := (hd6.set_other (c := w.heap.size) (by omega) 0 none (.slice (some ⟨w.heap.size + 1 + 1, 0, none⟩) (St.finish W (St.run W vs)).length L)).set_other (c := w.heap.size + 1) (by omega) 0 none (.bool true)
                  refine ⟨.tuple #[.slice (some ⟨w.heap.size + 1 + 1, 0, none⟩) (St.finish W (St.run W vs)).length L, .bool true], ?_, w.heap.size + 1 + 1, L, data, _, rfl, K7, by omega, rfl, hd7, hdl, hdt, hL3⟩
                  clear hA7 hT7 K7 hd7 hd6 hA6 hT6
                  obtain ⟨w7, hw7⟩ : ∃ w7, w7 = ((w6.setCell ⟨w.heap.size, 0, none⟩ (.slice (some ⟨w.heap.size + 1 + 1, 0, none⟩) (St.finish W (St.run W vs)).length L)).setCell ⟨w.heap.size + 1, 0, none⟩ (.bool true)) := ⟨_, rfl⟩
                  rw [← hw7] at cA7 cT7 ⊢
                  clear hw7
                  simp [results, Tryz.results10, go_sem, cA7, cT7]
      · go_simp
        refine hK _ _ ?_
        clear hK K
        refine wpAny_ready (rs := [0, 2]) (by kernel_rfl) (by simp) ?_
        refine (AllReady.cons rfl (fun K hK => ?_) (AllReady.cons rfl (fun K hK => ?_) AllReady.nil))
        · go_simp
          refine hK _ _ ?_
          clear hK K
          refine wpAny_ready (rs := [2]) (by kernel_rfl) (by simp) ?_
          refine (AllReady.cons rfl (fun K hK => ?_) AllReady.nil)
          · go_simp
            refine (flushC r b (w.heap.size + 1 + 1 + 1) (w.heap.size + 1 + 1) g L W (St.run W vs) wr.drew hEk.drew Ho1.out hW0 hW Ho3.out Ho4.out Hf1.out).mono ?_
            rintro e w6 ⟨rfl, k6, data, hd6, hdl, hdt⟩
            have hA6 := hAk.drew.keep k6 (by simp; omega)
            have hT6 := hTk.drew.keep k6 (by simp; omega)
            have cA6 := hA6.cell (i := 0) rfl
            have cT6 := hT6.cell (i := 0) rfl
            have fA6 := hA6.unfrozen
            have fT6 := hT6.unfrozen
            go_wp2_with fail
            refine wpAny_ready (rs := [3]) (by kernel_rfl) (by simp) ?_
            refine (AllReady.cons rfl (fun K hK => ?_) AllReady.nil)
            · go_simp
              refine hK _ _ ?_
              clear hK K
              refine wpAny_ready (rs := [4]) (by kernel_rfl) (by simp) ?_
              refine (AllReady.cons rfl (fun K hK => ?_) AllReady.nil)
              · go_simp
                refine hK _ _ ?_
                clear hK K
                refine wpAny_ready (rs := [5]) (by kernel_rfl) (by simp) ?_
                refine (AllReady.cons rfl (fun K hK => ?_) AllReady.nil)
                · go_simp
                  refine hK _ _ ?_
                  clear hK K
                  refine wpAny_done (by kernel_rfl) ?_ _
                  go_wp2
                  refine leaves_cons (f := 33) (args := #[.pointer (some ⟨w.heap.size, 0, none⟩), .pointer (some ⟨w.heap.size + 1, 0, none⟩)]) (by simp) (by simp [go_sem]) ?_
                  refine (noBytes_idle ⟨w.heap.size, 0, none⟩ ⟨w.heap.size + 1, 0, none⟩ _).mono ?_
                  rintro e u' w'' ⟨rfl, rfl, rfl⟩
                  have hA7 := (hA6.set 0 (.slice (some ⟨w.heap.size + 1 + 1, 0, none⟩) (St.finish W (St.run W vs)).length L)).set_other (c := w.heap.size + 1) (by omega) 0 none (.bool true)
                  have hT7 := (hT6.set_other (c := w.heap.size) (by omega) 0 none (.slice (some ⟨w.heap.size + 1 + 1, 0, none⟩) (St.finish W (St.run W vs)).length L)).set 0 (.bool true)
                  have cA7 := hA7.cell (i := 0) rfl
                  have cT7 := hT7.cell (i := 0) rfl
                  have K7 : Keep [] w ((w6.setCell ⟨w.heap.size, 0, none⟩ (.slice (some ⟨w.heap.size + 1 + 1, 0, none⟩) (St.finish W (St.run W vs)).length L)).setCell ⟨w.heap.size + 1, 0, none⟩ (.bool true)) :=
                    (((K5.trans kk.drew (by simp; omega)).trans k6 (by simp; omega)).set (by simp) _ _ _).set (by simp) _ _ _
                  have hd7 := (hd6.set_other (c := w.heap.size) (by omega) 0 none (.slice (some ⟨w.heap.size + 1 + 1, 0, none⟩) (St.finish W (St.run W vs)).length L)).set_other (c := w.heap.size + 1) (by omega) 0 none (.bool true)
                  refine ⟨.tuple #[.slice (some ⟨w.heap.size + 1 + 1, 0, none⟩) (St.finish W (St.run W vs)).length L, .bool true], ?_, w.heap.size + 1 + 1, L, data, _, rfl, K7, by omega, rfl, hd7, hdl, hdt, hL3⟩
                  clear hA7 hT7 K7 hd7 hd6 hA6 hT6
                  obtain ⟨w7, hw7⟩ : ∃ w7, w7 = ((w6.setCell ⟨w.heap.size, 0, none⟩ (.slice (some ⟨w.heap.size + 1 + 1, 0, none⟩) (St.finish W (St.run W vs)).length L)).setCell ⟨w.heap.size + 1, 0, none⟩ (.bool true)) := ⟨_, rfl⟩
                  rw [← hw7] at cA7 cT7 ⊢
                  clear hw7
                  simp [results, Tryz.results10, go_sem, cA7, cT7]
        · go_simp
          refine (flushC r b (w.heap.size + 1 + 1 + 1) (w.heap.size + 1 + 1) g L W (St.run W vs) wr.drew hEk.drew Ho1.out hW0 hW Ho3.out Ho4.out Hf1.out).mono ?_
          rintro e w6 ⟨rfl, k6, data, hd6, hdl, hdt⟩
          have hA6 := hAk.drew.keep k6 (by simp; omega)
          have hT6 := hTk.drew.keep k6 (by simp; omega)
          have cA6 := hA6.cell (i := 0) rfl
          have cT6 := hT6.cell (i := 0) rfl
          have fA6 := hA6.unfrozen
          have fT6 := hT6.unfrozen
          go_wp2_with fail
          refine wpAny_ready (rs := [0]) (by kernel_rfl) (by simp) ?_
          refine (AllReady.cons rfl (fun K hK => ?_) AllReady.nil)
          · go_simp
            refine hK _ _ ?_
            clear hK K
            refine wpAny_ready (rs := [3]) (by kernel_rfl) (by simp) ?_
            refine (AllReady.cons rfl (fun K hK => ?_) AllReady.nil)
            · go_simp
              refine hK _ _ ?_
              clear hK K
              refine wpAny_ready (rs := [4]) (by kernel_rfl) (by simp) ?_
              refine (AllReady.cons rfl (fun K hK => ?_) AllReady.nil)
              · go_simp
                refine hK _ _ ?_
                clear hK K
                refine wpAny_ready (rs := [5]) (by kernel_rfl) (by simp) ?_
                refine (AllReady.cons rfl (fun K hK => ?_) AllReady.nil)
                · go_simp
                  refine hK _ _ ?_
                  clear hK K
                  refine wpAny_done (by kernel_rfl) ?_ _
                  go_wp2
                  refine leaves_cons (f := 33) (args := #[.pointer (some ⟨w.heap.size, 0, none⟩), .pointer (some ⟨w.heap.size + 1, 0, none⟩)]) (by simp) (by simp [go_sem]) ?_
                  refine (noBytes_idle ⟨w.heap.size, 0, none⟩ ⟨w.heap.size + 1, 0, none⟩ _).mono ?_
                  rintro e u' w'' ⟨rfl, rfl, rfl⟩
                  have hA7 := (hA6.set 0 (.slice (some ⟨w.heap.size + 1 + 1, 0, none⟩) (St.finish W (St.run W vs)).length L)).set_other (c := w.heap.size + 1) (by omega) 0 none (.bool true)
                  have hT7 := (hT6.set_other (c := w.heap.size) (by omega) 0 none (.slice (some ⟨w.heap.size + 1 + 1, 0, none⟩) (St.finish W (St.run W vs)).length L)).set 0 (.bool true)
                  have cA7 := hA7.cell (i := 0) rfl
                  have cT7 := hT7.cell (i := 0) rfl
                  have K7 : Keep [] w ((w6.setCell ⟨w.heap.size, 0, none⟩ (.slice (some ⟨w.heap.size + 1 + 1, 0, none⟩) (St.finish W (St.run W vs)).length L)).setCell ⟨w.heap.size + 1, 0, none⟩ (.bool true)) :=
                    (((K5.trans kk.drew (by simp; omega)).trans k6 (by simp; omega)).set (by simp) _ _ _).set (by simp) _ _ _
                  have hd7 := (hd6.set_other (c := w.heap.size) (by omega) 0 none (.slice (some ⟨w.heap.size + 1 + 1, 0, none⟩) (St.finish W (St.run W vs)).length L)).set_other (c := w.heap.size + 1) (by omega) 0 none (.bool true)
                  refine ⟨.tuple #[.slice (some ⟨w.heap.size + 1 + 1, 0, none⟩) (St.finish W (St.run W vs)).length L, .bool true], ?_, w.heap.size + 1 + 1, L, data, _, rfl, K7, by omega, rfl, hd7, hdl, hdt, hL3⟩
                  clear hA7 hT7 K7 hd7 hd6 hA6 hT6
                  obtain ⟨w7, hw7⟩ : ∃ w7, w7 = ((w6.setCell ⟨w.heap.size, 0, none⟩ (.slice (some ⟨w.heap.size + 1 + 1, 0, none⟩) (St.finish W (St.run W vs)).length L)).setCell ⟨w.heap.size + 1, 0, none⟩ (.bool true)) := ⟨_, rfl⟩
                  rw [← hw7] at cA7 cT7 ⊢
                  clear hw7
                  simp [results, Tryz.results10, go_sem, cA7, cT7]


theorem rleWritten (ls : Value) (W : Nat) (vs : List Nat) (w : World) (hR : RowAt w ls .u64 vs) (hW0 : 0 < W) (hW : W ≤ 64) (hn3 : vs.length ≤ 3000) (hs : ∀ v ∈ vs, v < 2 ^ W) :
    Calls Tryz.prog 10 #[ls, .int .i64 (W : Int), .bool false] w fun e w' => ∃ d L data fin,
      e = .returned (.tuple #[.slice (some ⟨d, 0, none⟩) fin L, .bool true]) ∧ Keep [] w w' ∧ w.heap.size ≤ d ∧ fin = ((St.run W vs).finish W).length ∧ Blk w' d (rowV .u8 data) ∧ data.length = L ∧
        data.take fin = (St.run W vs).finish W ∧ L ≤ 600000000 := by
  rcases hR with ⟨rfl, rfl⟩ | ⟨a, cap, rfl, h2, h3⟩
  · exact rleWritten_of none 0 W 0 [] w rfl (fun h => absurd h (by omega)) hW0 hW (by simp) hs
  · exact rleWritten_of (some a) cap W vs.length vs w rfl (fun _ => ⟨a, rfl, h3⟩) hW0 hW hn3 hs
end Go.Proofs.YtlolcgklcnechaaGreatDoor
