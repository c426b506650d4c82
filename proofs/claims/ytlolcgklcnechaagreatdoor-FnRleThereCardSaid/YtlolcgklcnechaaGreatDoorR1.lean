/- impl.RleRead (how = 0). -/
import Derived.Test.YtlolcgklcnechaaGreatDoorC1
import Derived.Test.YtlolcgklcnechaaGreatDoorL1
set_option linter.unusedVariables false
set_option linter.unusedSimpArgs false
namespace Go.Proofs.YtlolcgklcnechaaGreatDoor
open Go.RowKit

theorem noNumbers_idle (p q : Addr) (w : World) :
    CallsD Tryz.prog 41 #[.pointer (some p), .pointer (some q)] .returning w fun e u' w' => e = .returned (.tuple #[]) ∧ u' = .returning ∧ w' = w := by
  refine callsD_of_wpS Tryz.func41 rfl fun c₀ cs hu => ?_
  apply wpS_seq
  apply wpS_region
  simp [wpOpsS, go_sem, recoverD, hu, Tryz.ntmps41, Exit.thenS]
  refine wpS_cond (t := false) (by simp [Act.eval, Array.replicate]) ?_
  simp only [Bool.false_eq_true, if_false]
  refine wpS_of_wp (wp_skip ?_)
  cases c₀
  simp_all [bodyPostS, results, Tryz.results41]

/-- The decoder that RleRead makes. -/
def decB (w : World) (d fin cap : Nat) (ea : Addr) (D : List Nat) (W : Nat) : DecB := ⟨w.heap.size + 1 + 1 + 1 + 1, w.heap.size + 1 + 1 + 1, w.heap.size + 1 + 1, d, 0, fin, cap, ea, D, W⟩


set_option maxRecDepth 100000 in
set_option maxHeartbeats 4000000 in
theorem rleReadC (d fin cap W z at2 : Nat) (ea : Addr) (D l want : List Nat) (rs : List Rn) (bv : Value) (bs : List Int) (w : World) (hD : BytesAt w d 0 fin cap D) (hE : Eof w ea) (hDr : D = encR W rs) (hrs : ∀ r ∈ rs, Rn.Ok W r)
    (hvals : valsR rs = l ++ List.replicate z 0) (hW0 : 0 < W) (hW : W ≤ 64) (hB : IntsAt w bv bs) (hbat : batchOn l bs = some (want, at2)) (hm : bs.length ≤ 50) (hl : l.length ≤ 3000) (hfin : fin + 8 ≤ 1099511627776) :
    Calls Tryz.prog 11 #[.slice (some ⟨d, 0, none⟩) fin cap, .int .i64 (W : Int), .int .i64 0, bv] w fun e w' => ∃ v, e = .returned (.tuple #[v, .bool true]) ∧ Keep [] w w' ∧ RowAt w' v .u64 want := by
  obtain ⟨bo, bcap, rfl, hbc, hbcell⟩ := hB.open
  obtain ⟨m, hm'⟩ : ∃ m, m = bs.length := ⟨_, rfl⟩
  rw [← hm'] at hm hbc ⊢
  have dl : d < w.heap.size := by obtain ⟨⟨cs, h, _⟩, _⟩ := hD; exact h.lt
  have el := hE.lt
  have Hm := Lib.hid hm'
  have Hbc := Lib.hid hbcell
  have HD := Lib.hid hD
  have HE := Lib.hid hE
  have Hbat := Lib.hid hbat
  have Hrun := Lib.hid (And.intro hDr (And.intro hrs hvals))
  obtain ⟨i0, hi, hz0, hz1, hz2⟩ := info_parts info_u64
  clear hm' hbcell hB hD hE hbat hDr hrs hvals
  go_enter_defers Tryz.func11, Tryz.ntmps11
  go_wp2_with (go_at_call 43; refine (newReaderC _ _ _ _ _ rfl).mono ?_; rintro e w' ⟨rfl, rfl⟩)
  refine (newRleDecoder (w.heap.size + 1 + 1) W _).mono ?_
  rintro e w4 ⟨rfl, hw4⟩
  have K4 : Keep [] w w4 := by rw [hw4]; exact (((((Keep.refl [] w).alloc _).alloc _).alloc _).alloc _).alloc _
  have hA4 : Blk w4 w.heap.size [.slice none 0 0] := by
    rw [hw4]
    exact ((((Blk.of_new (cs := [.slice none 0 0]) rfl).alloc _).alloc _).alloc _).alloc _
  have hT4 : Blk w4 (w.heap.size + 1) [.bool false] := by
    rw [hw4]
    exact (((Blk.of_new (cs := [.bool false]) (by simp)).alloc _).alloc _).alloc _
  have hs4 : w4.heap.size = w.heap.size + 5 := by rw [hw4]; simp
  have hx4 : Blk ((((w.alloc (.cells #[.slice none 0 0] 22)).alloc (.cells #[.bool false] 4))).alloc (.cells #[.slice (some ⟨d, 0, none⟩) fin cap, .int .i64 0, .int .i64 (-1)] 120)) (w.heap.size + 1 + 1) [.slice (some ⟨d, 0, none⟩) fin cap, .int .i64 0, .int .i64 (-1)] := Blk.of_new (by simp)
  have KX : Keep [] w ((((w.alloc (.cells #[.slice none 0 0] 22)).alloc (.cells #[.bool false] 4))).alloc (.cells #[.slice (some ⟨d, 0, none⟩) fin cap, .int .i64 0, .int .i64 (-1)] 120)) := (((Keep.refl [] w).alloc _).alloc _).alloc _
  have hsX : ((((w.alloc (.cells #[.slice none 0 0] 22)).alloc (.cells #[.bool false] 4))).alloc (.cells #[.slice (some ⟨d, 0, none⟩) fin cap, .int .i64 0, .int .i64 (-1)] 120)).heap.size = w.heap.size + 1 + 1 + 1 := by simp
  obtain ⟨hDr, hrs, hvals⟩ := Hrun.out
  have hdec := DecAt.fresh (W := W) (rest := []) (List.replicate 8 0) (List.replicate 1024 0) List.length_replicate unp_zero hw4 hx4 (HD.out.keep KX (by simp)) (HE.out.keep KX (by simp)) (by omega) (by omega) hW0 hW hfin hrs (by simpa using hDr)
  rw [hsX, hvals] at hdec
  have hdec : DecAt (decB w d fin cap ea D W) w4 (l ++ List.replicate z 0) := hdec
  have HS4 := Lib.hid hs4
  obtain ⟨L, hL⟩ : ∃ L, L = l ++ List.replicate z 0 := ⟨_, rfl⟩
  rw [← hL] at hdec
  have HLl := Lib.hid hL
  clear hw4 hs4 hx4 KX hsX hDr hrs hvals hL
  go_wp2_with fail
  go_loopw [21] (fun i wr => ∃ k at' : Nat, ∃ out : List Nat, ∃ ov : Value, k ≤ m ∧ i = .int .i64 (k : Int) ∧ batchOn l (bs.take k) = some (out, at') ∧ Keep [] w wr ∧ w4.heap.size ≤ wr.heap.size ∧ Blk wr w.heap.size [ov] ∧
    GrowS w.heap.size [w.heap.size, w.heap.size + 1, w.heap.size + 1 + 1, w.heap.size + 1 + 1 + 1, w.heap.size + 1 + 1 + 1 + 1] wr ov .u64 out ∧ Blk wr (w.heap.size + 1) [.bool false] ∧ DecAt (decB w d fin cap ea D W) wr (L.drop at')) (fun i _ => m - (intOf i).toNat)
  case atStart => exact ⟨0, 0, [], .slice none 0 0, Nat.zero_le _, rfl, rfl, K4, Nat.le_refl _, hA4, .inl ⟨rfl, rfl⟩, hT4, hdec⟩
  case round =>
    obtain ⟨k, at', out, ov, hk, rfl, hbk, kk, hsz, hA, hG, hT, hDk⟩ := hrel
    obtain ⟨oa, oc, rfl, -, -⟩ := hG.row.open
    clear hA4 hT4 hdec K4
    have hle := batchOn_le k bs out at' hbk
    have hle1 := hle.1
    have hle2 := hle.2
    have cA := hA.cell (i := 0) rfl
    have fA := hA.unfrozen
    have cT := hT.cell (i := 0) rfl
    have fT := hT.unfrozen
    have HA := Lib.hid hA
    have HG := Lib.hid hG
    have HT := Lib.hid hT
    have HDk := Lib.hid hDk
    have Hbk := Lib.hid hbk
    clear hle hA hG hT hDk hbk
    by_cases hk2 : k < m
    · obtain ⟨x, hx⟩ : ∃ x, bs[k]? = some x := ⟨bs[k]'(by rw [← Hm.out]; exact hk2), by simp⟩
      obtain ⟨ba, rfl, hca⟩ := Hbc.out k x hx
      have hca := kk.cell_some hca (by simp)
      obtain ⟨out2, at3, hb2⟩ := batchOn_take Hbat.out (k + 1)
      have hkl : k < bs.length := by rw [← Hm.out]; exact hk2
      have hst := hb2
      rw [batchOn_take_succ _ _ _ hkl, Hbk.out] at hst
      have hbx : bs[k] = x := by
        have e := hx
        rw [List.getElem?_eq_getElem hkl] at e
        exact Option.some.inj e
      rw [hbx] at hst
      obtain ⟨h1, h2, h3⟩ := batchStep_some (show batchStep l (out, at') x = some (out2, at3) from hst)
      have Hb2 := Lib.hid hb2
      obtain ⟨a, ha⟩ : ∃ a, a = x.natAbs := ⟨_, rfl⟩
      rw [← ha] at h1 h3
      have hab : a ≤ 3000 := by omega
      have hal := h1
      have haL : a ≤ (L.drop at').length := by rw [List.length_drop, HLl.out, List.length_append]; omega
      have haL2 : (L.drop at').take a = (l.drop at').take a := by
        rw [HLl.out, List.drop_append_of_le_length hle1, List.take_append_of_le_length (by rw [List.length_drop]; omega)]
      have HaL := Lib.hid haL
      have HaL2 := Lib.hid haL2
      have Hst := Lib.hid (And.intro h2 h3)
      have Hneg : x < 0 → -x = (a : Int) := fun h => by omega
      have Hpos : ¬ x < 0 → x = (a : Int) := fun h => by omega
      have Hneg := Lib.hid Hneg
      have Hpos := Lib.hid Hpos
      have HS := HS4.out
      have tl : w.heap.size + 1 + 1 + 1 + 1 < wr.heap.size := by omega
      have HTL := Lib.hid tl
      clear h1 h2 h3 hst hb2 hx hbx haL haL2 ha HS tl
      by_cases hneg : x < 0
      · have hqi : -x = (a : Int) := Hneg.out hneg
        go_wp2_with fail
        refine (decDiscard (decB w d fin cap ea D W) (L.drop at') a _ HDk.out HaL.out (by omega)).mono ?_
        rintro e w5 ⟨rfl, k5, hD5⟩
        have K5 : Keep [] w w5 := kk.trans k5 (fun b hb => .inr (by simp [decB] at hb; omega))
        have hA5 := HA.out.keep k5 (by simp [decB] <;> omega)
        have hT5 := HT.out.keep k5 (by simp [decB] <;> omega)
        have hG5 := HG.out.keep k5 (fun b hb => .inl (by simp [decB] at hb; simp; omega))
        have hs5 := Nat.le_trans hsz k5.size
        have HA5 := Lib.hid hA5
        have HT5 := Lib.hid hT5
        have HG5 := Lib.hid hG5
        have HD5 := Lib.hid hD5
        clear hA5 hT5 hG5 hD5 k5 cA fA cT fT
        go_wp2
        go_roundw
        case rel =>
          have h := Hst.out
          have e0 : x.toNat = 0 := by omega
          rw [e0] at h
          simp at h
          refine ⟨k + 1, at3, out2, _, hk2, by go_num, Hb2.out, K5, hs5, HA5.out, by rw [h.1]; exact HG5.out, HT5.out, ?_⟩
          have := HD5.out
          rw [List.drop_drop] at this
          rw [h.2]; exact this
        case measure => simp [intOf]; omega
      · have hxq : x = (a : Int) := Hpos.out hneg
        subst hxq
        go_wp2_with fail
        refine (rleBatchC (decB w d fin cap ea D W) (L.drop at') a _ HDk.out (by have := HTL.out; exact this) (by have := HTL.out; show w.heap.size + 1 + 1 + 1 < _; omega) (by have := HTL.out; show w.heap.size + 1 + 1 < _; omega) (by have := HTL.out; show d < _; omega) (by have := HTL.out; omega) HaL.out (by omega)).mono ?_
        rintro e w5 ⟨rfl, k5, hD5, hv5⟩
        have K5 : Keep [] w w5 := kk.trans k5 (fun b hb => .inr (by simp [decB] at hb; omega))
        have hA5 := HA.out.keep k5 (by simp [decB] <;> omega)
        have hT5 := HT.out.keep k5 (by simp [decB] <;> omega)
        have hG5 := HG.out.keep k5 (fun b hb => .inl (by simp [decB] at hb; simp; omega))
        have hs5 := Nat.le_trans hsz k5.size
        rw [HaL2.out] at hv5
        have cA5 := hA5.cell (i := 0) rfl
        have fA5 := hA5.unfrozen
        have HA5 := Lib.hid hA5
        have HT5 := Lib.hid hT5
        have HG5 := Lib.hid hG5
        have HD5 := Lib.hid hD5
        have HV5 := Lib.hid hv5
        clear hA5 hT5 hG5 hD5 hv5 k5 cA fA cT fT
        go_wp2_with (at_builtin; refine halt ?_)
        refine Lib.hid ?_
        have hln : ((l.drop at').take a).length = a := by rw [List.length_take, List.length_drop]; omega
        have HLn := Lib.hid hln
        have hsrc : Src Tryz.prog 1 22 (.slice (some ⟨wr.heap.size, 0, none⟩) a a) ((l.drop at').take a).length (rowV .u64 ((l.drop at').take a)) w5 := Src.blk Tryz.underlying22 HV5.out hln (by rw [List.drop_zero, List.take_of_length_le (by rw [length_rowV, hln]; exact Nat.le_refl _)])
        clear hln
        refine wpList_append_grow rfl _ _ 22 _ rfl i0 8 Tryz.underlying22 hi hz0 hz1 hz2 rfl HG5.out K5.size (fun b hb => by simp at hb; have := HS4.out; omega) _ ((l.drop at').take a) rfl hsrc (by rw [HLn.out]; omega) (by rw [HLn.out]; omega) ?_
        intro v6 w6 S hG6 k6 hS6
        have K6 : Keep [] w w6 := K5.trans k6 (fun b hb => .inr (hS6 b hb).1)
        have hA6 := HA5.out.keep k6 (fun hb => (hS6 _ hb).2 (by simp))
        have hT6 := HT5.out.keep k6 (fun hb => (hS6 _ hb).2 (by simp))
        have hD6 := HD5.out.keep k6 (fun hb => (hS6 _ hb).2 (by simp [decB])) (fun hb => (hS6 _ hb).2 (by simp [decB])) (fun hb => (hS6 _ hb).2 (by simp [decB])) (fun hb => by have := (hS6 _ hb).1; simp [decB] at this; omega) (fun hb => by have := (hS6 _ hb).1; omega)
        have hs6 := Nat.le_trans hs5 k6.size
        obtain ⟨oa6, oc6, hv6, -, -⟩ := hG6.row.open
        obtain ⟨N6, hN6⟩ : ∃ N, N = (out ++ (l.drop at').take a).length := ⟨_, rfl⟩
        rw [← hN6] at hv6
        subst hv6
        clear hN6
        have cA6 := hA6.cell (i := 0) rfl
        have fA6 := hA6.unfrozen
        have HA6 := Lib.hid hA6
        have HT6 := Lib.hid hT6
        have HG6 := Lib.hid hG6
        have HD6 := Lib.hid hD6
        clear hA6 hT6 hG6 hD6 k6 hS6 hsrc cA5 fA5
        go_wp2
        go_roundw
        case rel =>
          have h := Hst.out
          simp at h
          have hD7 := HD6.out
          rw [List.drop_drop, ← h.2] at hD7
          have KA : Keep [w.heap.size] w6 (w6.setCell ⟨w.heap.size, 0, none⟩ (.slice oa6 N6 oc6)) := (Keep.refl _ w6).set (by simp) _ _ _
          refine ⟨k + 1, at3, out2, _, hk2, by go_num, Hb2.out, K6.set (by simp) _ _ _, ?_, HA6.out.set 0 _, ?_, HT6.out.set_other (by omega) _ _ _, hD7.keep KA (by simp [decB] <;> omega) (by simp [decB] <;> omega) (by simp [decB] <;> omega) (by simp [decB] <;> omega) (by simp; omega)⟩
          · simpa using hs6
          · rw [h.1]
            exact HG6.out.keep KA (fun b hb => by simp at hb; subst hb; simp)
        case measure => simp [intOf]; omega
    · have hkm : k = m := by omega
      subst hkm
      have hout : out = want := by
        have h1 := Hbk.out
        rw [List.take_of_length_le (by rw [← Hm.out]; exact Nat.le_refl _), Hbat.out] at h1
        exact (congrArg Prod.fst (Option.some.inj h1)).symm
      have Hout := Lib.hid hout
      clear hout
      go_wp2
      refine leaves_cons (f := 41) (args := #[.pointer (some ⟨w.heap.size, 0, none⟩), .pointer (some ⟨w.heap.size + 1, 0, none⟩)]) (by simp) (by simp [go_sem]) ?_
      refine (noNumbers_idle ⟨w.heap.size, 0, none⟩ ⟨w.heap.size + 1, 0, none⟩ _).mono ?_
      rintro e u' w'' ⟨rfl, rfl, rfl⟩
      have hA7 := (HA.out.set 0 (.slice oa out.length oc)).set_other (c := w.heap.size + 1) (by omega) 0 none (.bool true)
      have hT7 := (HT.out.set_other (c := w.heap.size) (by omega) 0 none (.slice oa out.length oc)).set 0 (.bool true)
      have cA7 := hA7.cell (i := 0) rfl
      have cT7 := hT7.cell (i := 0) rfl
      have KA : Keep [w.heap.size, w.heap.size + 1] wr ((wr.setCell ⟨w.heap.size, 0, none⟩ (.slice oa out.length oc)).setCell ⟨w.heap.size + 1, 0, none⟩ (.bool true)) := ((Keep.refl _ wr).set (by simp) _ _ _).set (by simp) _ _ _
      have K7 : Keep [] w ((wr.setCell ⟨w.heap.size, 0, none⟩ (.slice oa out.length oc)).setCell ⟨w.heap.size + 1, 0, none⟩ (.bool true)) := (kk.set (by simp) _ _ _).set (by simp) _ _ _
      have hR7 := (HG.out.keep KA (fun b hb => by simp at hb; rcases hb with rfl | rfl <;> simp)).row
      rw [Hout.out] at hR7
      refine ⟨.tuple #[.slice oa out.length oc, .bool true], ?_, .slice oa out.length oc, rfl, K7, by rw [Hout.out]; exact hR7⟩
      clear hA7 hT7 K7 KA hR7
      obtain ⟨w7, hw7⟩ : ∃ w7, w7 = ((wr.setCell ⟨w.heap.size, 0, none⟩ (.slice oa out.length oc)).setCell ⟨w.heap.size + 1, 0, none⟩ (.bool true)) := ⟨_, rfl⟩
      rw [← hw7] at cA7 cT7 ⊢
      clear hw7
      simp [results, Tryz.results11, go_sem, cA7, cT7]
end Go.Proofs.YtlolcgklcnechaaGreatDoor
