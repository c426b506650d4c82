/- laws.narrow, spec.Batched, laws.sameNumbers. -/
import Derived.Test.YtlolcgklcnechaaGreatDoorOwn
set_option linter.unusedVariables false
namespace Go.Proofs.YtlolcgklcnechaaGreatDoor
open Go.RowKit

/-- A slice of signed numbers: none, or so many cells from an address on. -/
def IntsAt (w : World) (v : Value) (bs : List Int) : Prop :=
  (v = .slice none 0 0 ∧ bs = []) ∨ ∃ a cap, v = .slice (some a) bs.length cap ∧ bs.length ≤ cap ∧ ∀ (i : Nat) (x : Int), bs[i]? = some x → w.cell? (a.add i) = some (.int .i64 x)

theorem IntsAt.keep {w w' : World} {v : Value} {bs : List Int} (h : IntsAt w v bs) (kk : Keep [] w w') : IntsAt w' v bs := by
  rcases h with h | ⟨a, cap, h1, h2, h3⟩
  · exact .inl h
  · exact .inr ⟨a, cap, h1, h2, fun i x hx => kk.cell_some (h3 i x hx) (by simp)⟩

/-- Told by base, length and capacity, whichever of the two it is. -/
theorem IntsAt.open {w : World} {v : Value} {bs : List Int} (h : IntsAt w v bs) : ∃ ao cap, v = .slice ao bs.length cap ∧ bs.length ≤ cap ∧ ∀ (i : Nat) (x : Int), bs[i]? = some x → ∃ a, ao = some a ∧ w.cell? (a.add i) = some (.int .i64 x) := by
  rcases h with ⟨rfl, rfl⟩ | ⟨a, cap, h1, h2, h3⟩
  · exact ⟨none, 0, rfl, Nat.le_refl _, fun i x hx => by simp at hx⟩
  · exact ⟨some a, cap, h1, h2, fun i x hx => ⟨a, rfl, h3 i x hx⟩⟩
theorem RowAt.open {w : World} {v : Value} {k : IntKind} {vs : List Nat} (h : RowAt w v k vs) : ∃ ao cap, v = .slice ao vs.length cap ∧ vs.length ≤ cap ∧ ∀ (i x : Nat), vs[i]? = some x → ∃ a, ao = some a ∧ w.cell? (a.add i) = some (.int k (x : Int)) := by
  rcases h with ⟨rfl, rfl⟩ | ⟨a, cap, h1, h2, h3⟩
  · exact ⟨none, 0, rfl, Nat.le_refl _, fun i x hx => by simp at hx⟩
  · exact ⟨some a, cap, h1, h2, fun i x hx => ⟨a, rfl, h3 i x hx⟩⟩

theorem add_add (a : Addr) (x y : Nat) : (a.add x).add y = a.add (x + y) := by
  unfold Addr.add
  by_cases hx : x = 0
  · subst hx; simp
  · by_cases hy : y = 0
    · subst hy; simp
    · simp [hx, hy, Nat.add_assoc]

set_option maxRecDepth 100000 in
set_option maxHeartbeats 1000000 in
theorem narrowC (ls : Value) (W : Nat) (vs : List Nat) (w : World) (hR : RowAt w ls .u64 vs) (hW0 : 0 < W) (hW : W ≤ 64) (hs : ∀ v ∈ vs, v < 18446744073709551616) (hn : vs.length ≤ 2147483648) :
    Calls Tryz.prog 7 #[ls, .int .i64 (W : Int)] w fun e w' => ∃ b : Bool, e = .returned (.bool b) ∧ w' = w ∧ (b = true → vs.length ≤ 3000 ∧ ∀ v ∈ vs, v < 2 ^ W) := by
  obtain ⟨ao, cap, rfl, hc, hcell⟩ := hR.open
  obtain ⟨n, hn'⟩ : ∃ n, n = vs.length := ⟨_, rfl⟩
  rw [← hn'] at hn hc ⊢
  have Hn := Lib.hid hn'
  have Hc := Lib.hid hcell
  have Hs := Lib.hid hs
  clear hn' hcell hs hR
  go_enter Tryz.func7, Tryz.ntmps7
  go_wp2_with fail
  go_loopw [9] (fun i wr => ∃ k : Nat, k ≤ n ∧ i = .int .i64 (k : Int) ∧ w = wr ∧ ∀ v ∈ vs.take k, v < 2 ^ W) (fun i _ => n - (intOf i).toNat)
  case atStart => exact ⟨0, Nat.zero_le _, rfl, rfl, by simp⟩
  case round =>
    obtain ⟨k, hk, rfl, rfl, hsm⟩ := hrel
    by_cases hk2 : k < n
    · obtain ⟨x, hx⟩ : ∃ x, vs[k]? = some x := ⟨vs[k]'(by rw [← Hn.out]; exact hk2), by simp⟩
      obtain ⟨a, rfl, hca⟩ := Hc.out k x hx
      have hx64 : x < 18446744073709551616 := Hs.out x (List.mem_of_getElem? hx)
      have Hx := Lib.hid hx
      have Hsm := Lib.hid hsm
      have step : x < 2 ^ W → ∀ v ∈ vs.take (k + 1), v < 2 ^ W := fun hlt v hv => by
        rw [List.take_succ_eq_append_getElem (by rw [← Hn.out]; exact hk2), List.mem_append, List.mem_singleton] at hv
        rcases hv with hv | rfl
        · exact Hsm.out v hv
        · have := Hx.out
          rw [List.getElem?_eq_getElem (by rw [← Hn.out]; exact hk2)] at this
          rw [Option.some.inj this]; exact hlt
      have Hstep := Lib.hid step
      clear hx hsm step
      by_cases h64 : W = 64
      · subst h64
        go_wp2
        go_roundw
        case rel => exact ⟨k + 1, hk2, by go_num, trivial, Hstep.out (by omega)⟩
        case measure => simp [intOf]; omega
      · have h64i : (W : Int) < 64 := by omega
        obtain ⟨y, hy⟩ : ∃ y, y = x / 2 ^ W := ⟨_, rfl⟩
        have hyi : (x : Int) / 2 ^ W = (y : Int) := by rw [hy]; simp
        by_cases hy0 : y = 0
        · have hlt : x < 2 ^ W := by
            rw [hy0] at hy
            rcases Nat.lt_or_ge x (2 ^ W) with h | h
            · exact h
            · have := (Nat.le_div_iff_mul_le (Nat.two_pow_pos W)).2 (by simpa using h : 1 * 2 ^ W ≤ x)
              omega
          have Hlt := Lib.hid hlt
          have hyi0 : ¬ (0 : Int) < (y : Int) := by omega
          clear hy hlt
          go_wp2
          go_roundw
          case rel => exact ⟨k + 1, hk2, by go_num, trivial, Hstep.out Hlt.out⟩
          case measure => simp [intOf]; omega
        · have hyi0 : (0 : Int) < (y : Int) := by omega
          clear hy
          go_wp2
          go_ret
          exact ⟨false, rfl, rfl, by simp⟩
    · have hkn : k = n := by omega
      subst hkn
      have Hsm := Lib.hid hsm
      clear hsm
      go_wp2
      go_ret
      refine ⟨_, rfl, rfl, fun h => ⟨by have := of_decide_eq_true h; omega, ?_⟩⟩
      have := Hsm.out
      rwa [List.take_of_length_le (by rw [← Hn.out]; exact Nat.le_refl _)] at this

/-- What Batched answers: nothing that counts; or the batches, in a slice of its own. -/
def BatchedPost (l : List Nat) (bs : List Int) (w : World) (e : Ending) (w' : World) : Prop :=
  ∃ v ok, e = .returned (.tuple #[v, .bool ok]) ∧ Keep [] w w' ∧ (ok = true → bs.length ≤ 50 ∧ ∃ out at', batchOn l bs = some (out, at') ∧ GrowS w.heap.size [] w' v .u64 out)

set_option maxRecDepth 100000 in
set_option maxHeartbeats 2000000 in
theorem batchedC (ls bv : Value) (l : List Nat) (bs : List Int) (w : World) (hR : RowAt w ls .u64 l) (hB : IntsAt w bv bs) (hb : ∀ x ∈ bs, -9223372036854775808 ≤ x ∧ x ≤ 9223372036854775807) (hn : l.length ≤ 20000) (hbn : bs.length ≤ 2147483648) :
    Calls Tryz.prog 9 #[ls, bv] w fun e w' => BatchedPost l bs w e w' := by
  obtain ⟨ao, cap, rfl, hc, hcell⟩ := hR.open
  obtain ⟨bo, bcap, rfl, hbc, hbcell⟩ := hB.open
  obtain ⟨n, hn'⟩ : ∃ n, n = l.length := ⟨_, rfl⟩
  obtain ⟨m, hm'⟩ : ∃ m, m = bs.length := ⟨_, rfl⟩
  rw [← hn'] at hn hc ⊢
  rw [← hm'] at hbn hbc ⊢
  have Hn := Lib.hid hn'
  have Hm := Lib.hid hm'
  have Hc := Lib.hid hcell
  have Hbc := Lib.hid hbcell
  have Hb := Lib.hid hb
  clear hn' hm' hcell hbcell hb hR hB
  by_cases h50 : m ≤ 50
  · have h50i : ¬ (50 : Int) < (m : Int) := by omega
    obtain ⟨i0, hi, hz0, hz1, hz2⟩ := info_parts info_u64
    go_enter Tryz.func9, Tryz.ntmps9
    go_wp2_with fail
    go_loopw [16, 7, 6] (fun i at2 ov wr => ∃ k at' : Nat, ∃ out : List Nat, k ≤ m ∧ i = .int .i64 (k : Int) ∧ at2 = .int .i64 (at' : Int) ∧ batchOn l (bs.take k) = some (out, at') ∧ Keep [] w wr ∧ GrowS w.heap.size [] wr ov .u64 out) (fun i _ _ _ => m - (intOf i).toNat)
    case atStart => exact ⟨0, 0, [], Nat.zero_le _, rfl, rfl, rfl, Keep.refl _ _, .inl ⟨rfl, rfl⟩⟩
    case round =>
      obtain ⟨k, at', out, hk, rfl, rfl, hbat, kk, hG⟩ := hrel
      have hle := batchOn_le k bs out at' hbat
      rw [← Hn.out] at hle
      have hle1 := hle.1
      have hle2 := hle.2
      have Hbat := Lib.hid hbat
      have HG := Lib.hid hG
      clear hbat hle hG
      by_cases hk2 : k < m
      · obtain ⟨x, hx⟩ : ∃ x, bs[k]? = some x := ⟨bs[k]'(by rw [← Hm.out]; exact hk2), by simp⟩
        obtain ⟨ba, rfl, hca⟩ := Hbc.out k x hx
        have hca := kk.cell_some hca (by simp)
        obtain ⟨hxl, hxh⟩ := Hb.out x (List.mem_of_getElem? hx)
        have next : ∀ out2 at2, batchStep l (out, at') x = some (out2, at2) → batchOn l (bs.take (k + 1)) = some (out2, at2) := fun out2 at2 h => by
          have hkl : k < bs.length := by rw [← Hm.out]; exact hk2
          rw [batchOn_take_succ _ _ _ hkl, Hbat.out]
          have e := hx
          rw [List.getElem?_eq_getElem hkl] at e
          rw [Option.some.inj e]
          exact h
        have Hnext := Lib.hid next
        clear next hx
        by_cases hmin : x = -9223372036854775808
        · subst hmin
          have hwm : wrap64 9223372036854775808 = -9223372036854775808 := by unfold wrap64; rfl
          go_wp2
          go_ret2
          unfold BatchedPost; exact ⟨_, false, rfl, kk, by simp⟩
        obtain ⟨q, hq⟩ : ∃ q, q = x.natAbs := ⟨_, rfl⟩
        have hqb : q ≤ 9223372036854775807 := by omega
        have Hneg : x < 0 → -x = (q : Int) := fun h => by omega
        have Hpos : ¬ x < 0 → x = (q : Int) := fun h => by omega
        have Hneg := Lib.hid Hneg
        have Hpos := Lib.hid Hpos
        obtain ⟨lf, hlf⟩ : ∃ lf, lf = n - at' := ⟨_, rfl⟩
        have hlfi : (n : Int) - (at' : Int) = (lf : Int) := by omega
        by_cases hbig : lf < q
        · clear hq hlf
          have hbigi : (lf : Int) < (q : Int) := by omega
          by_cases hneg : x < 0
          · have hqi : -x = (q : Int) := Hneg.out hneg
            go_wp2
            go_ret2
            unfold BatchedPost; exact ⟨_, false, rfl, kk, by simp⟩
          · have hxq : x = (q : Int) := Hpos.out hneg
            subst hxq
            go_wp2
            go_ret2
            unfold BatchedPost; exact ⟨_, false, rfl, kk, by simp⟩
        have hbigi : ¬ (lf : Int) < (q : Int) := by omega
        obtain ⟨a2, ha2⟩ : ∃ a2, a2 = at' + q := ⟨_, rfl⟩
        have ha2i : (at' : Int) + (q : Int) = (a2 : Int) := by omega
        have ha2n : a2 ≤ n := by omega
        have ha2q : a2 - at' = q := by omega
        have Hq := Lib.hid hq
        have Ha2 := Lib.hid ha2
        have Hlf := Lib.hid hlf
        have hlq : ¬ l.length - at' < x.natAbs := by rw [← Hn.out, ← hq]; omega
        have Hlq := Lib.hid hlq
        clear hlf hq ha2 hlq
        by_cases hneg : x < 0
        · have hqi : -x = (q : Int) := Hneg.out hneg
          go_wp2
          go_roundw
          case rel =>
            refine ⟨k + 1, a2, out, hk2, by go_num, rfl, Hnext.out _ _ ?_, kk, HG.out⟩
            unfold batchStep
            simp only
            rw [if_neg Hlq.out, ← Hq.out, Ha2.out, show x.toNat = 0 by omega]
            simp
          case measure => simp [intOf]; omega
        · have hxq : x = (q : Int) := Hpos.out hneg
          subst hxq
          by_cases hq0 : q = 0
          · subst hq0
            go_wp2
            go_roundw
            case rel =>
              refine ⟨k + 1, at', out, hk2, by go_num, rfl, Hnext.out _ _ ?_, kk, HG.out⟩
              unfold batchStep
              simp only
              rw [if_neg Hlq.out]
              simp
            case measure => simp [intOf]; omega
          · have hq0i : (0 : Int) < (q : Int) := by omega
            have hcb : ¬ cap = at' := by omega
            obtain ⟨y, hy⟩ : ∃ y, l[at']? = some y := ⟨l[at']'(by rw [← Hn.out]; omega), by simp⟩
            obtain ⟨la, rfl, -⟩ := Hc.out at' y hy
            clear hy
            have hsl : ∀ (i x : Nat), ((l.drop at').take q)[i]? = some x → wr.cell? ((la.add at').add i) = some (.int .u64 (x : Int)) := fun i x hx => by
              have hi : i < q := by have := (List.getElem?_eq_some_iff.1 hx).1; simp at this; omega
              rw [List.getElem?_take, if_pos hi, List.getElem?_drop] at hx
              obtain ⟨a', e, h⟩ := Hc.out _ _ hx
              obtain rfl := Option.some.inj e
              rw [add_add]
              exact kk.cell_some h (by simp)
            have hll : ((l.drop at').take q).length = q := by rw [List.length_take, List.length_drop, ← Hn.out]; omega
            have hsrc : Src Tryz.prog 1 22 (.slice (some (la.add at')) q (cap - at')) ((l.drop at').take q).length (rowV .u64 ((l.drop at').take q)) wr := by
              have := Src.row (t := 22) Tryz.underlying22 (c := cap - at') hsl
              rw [hll] at this ⊢
              exact this
            have Hsrc := Lib.hid hsrc
            have Hll := Lib.hid hll
            clear hsl hsrc hll
            go_wp2_with (at_builtin; refine halt ?_)
            refine Lib.hid ?_
            refine wpList_append_grow rfl _ _ 22 _ rfl i0 8 Tryz.underlying22 hi hz0 hz1 hz2 rfl HG.out kk.size (by simp) _ ((l.drop at').take q) rfl Hsrc.out (by rw [Hll.out]; omega) (by rw [Hll.out]; omega) ?_
            intro v2 w5 S hG5 k5 hS5
            have K5 : Keep [] w w5 := kk.trans k5 (fun b hb => .inr (hS5 b hb).1)
            have HG5 := Lib.hid hG5
            clear hG5 k5 hS5
            go_wp2
            go_roundw
            case rel =>
              refine ⟨k + 1, a2, out ++ (l.drop at').take q, hk2, by go_num, rfl, Hnext.out _ _ ?_, K5, HG5.out⟩
              unfold batchStep
              simp only
              rw [if_neg Hlq.out, ← Hq.out, Ha2.out]
              simp
            case measure => simp [intOf]; omega
      · have hkm : k = m := by omega
        subst hkm
        go_wp2
        go_ret2
        have hb2 := Hbat.out
        rw [List.take_of_length_le (by rw [← Hm.out]; exact Nat.le_refl _)] at hb2
        unfold BatchedPost; exact ⟨_, true, rfl, kk, fun _ => ⟨by rw [← Hm.out]; exact h50, out, at', hb2, HG.out⟩⟩
  · have h50i : (50 : Int) < (m : Int) := by omega
    go_enter Tryz.func9, Tryz.ntmps9
    go_wp2
    go_ret2
    unfold BatchedPost; exact ⟨_, false, rfl, Keep.refl _ _, by simp⟩

set_option maxRecDepth 100000 in
set_option maxHeartbeats 1000000 in
theorem sameWordsC (v1 v2 : Value) (vs : List Nat) (w : World) (h1 : RowAt w v1 .u64 vs) (h2 : RowAt w v2 .u64 vs) (hn : vs.length ≤ 2147483648) :
    Calls Tryz.prog 46 #[v1, v2] w fun e w' => e = .returned (.bool true) ∧ Keep [] w w' := by
  obtain ⟨ao, cap, rfl, hc, hcell⟩ := h1.open
  obtain ⟨bo, bcap, rfl, hbc, hbcell⟩ := h2.open
  obtain ⟨n, hn'⟩ : ∃ n, n = vs.length := ⟨_, rfl⟩
  rw [← hn'] at hn hc hbc ⊢
  have Hn := Lib.hid hn'
  have Hc := Lib.hid hcell
  have Hbc := Lib.hid hbcell
  clear hn' hcell hbcell h1 h2
  go_enter Tryz.func46, Tryz.ntmps46
  go_wp2_with fail
  go_loopw [13] (fun i wr => ∃ k : Nat, k ≤ n ∧ i = .int .i64 (k : Int) ∧ Keep [] w wr) (fun i _ => n - (intOf i).toNat)
  case atStart => exact ⟨0, Nat.zero_le _, rfl, Keep.refl _ _⟩
  case round =>
    obtain ⟨k, hk, rfl, kk⟩ := hrel
    by_cases hk2 : k < n
    · obtain ⟨x, hx⟩ : ∃ x, vs[k]? = some x := ⟨vs[k]'(by rw [← Hn.out]; exact hk2), by simp⟩
      obtain ⟨a, rfl, hca⟩ := Hc.out k x hx
      obtain ⟨b, rfl, hcb⟩ := Hbc.out k x hx
      have hca := kk.cell_some hca (by simp)
      have hcb := kk.cell_some hcb (by simp)
      clear hx
      go_wp2_with fail
      go_region
      go_wp2
      go_roundw
      case rel => exact ⟨k + 1, hk2, by go_num, kk.drewN _⟩
      case measure => simp [intOf]; omega
    · have hkn : k = n := by omega
      subst hkn
      go_wp2
      go_ret
      exact ⟨rfl, kk⟩

set_option maxRecDepth 100000 in
theorem sameNumbersC (v1 v2 : Value) (vs : List Nat) (w : World) (h1 : RowAt w v1 .u64 vs) (h2 : RowAt w v2 .u64 vs) (hn : vs.length ≤ 2147483648) :
    Calls Tryz.prog 12 #[v1, v2] w fun e w' => e = .returned (.bool true) ∧ Keep [] w w' := by
  have hS := sameWordsC v1 v2 vs w h1 h2 hn
  go_enter Tryz.func12, Tryz.ntmps12
  go_wp2_with fail
  refine hS.mono ?_
  rintro e w2 ⟨rfl, k2⟩
  go_wp2
  go_ret
  exact ⟨rfl, k2⟩
end Go.Proofs.YtlolcgklcnechaaGreatDoor
