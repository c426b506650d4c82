/- laws.zzFits7, laws.joined. -/
import Derived.Test.YtlolcgklcnechaaGreatDoorL1
import Derived.Test.YtlolcgklcnechaaGreatDoorV2
set_option linter.unusedVariables false
set_option linter.unusedSimpArgs false
namespace Go.Proofs.YtlolcgklcnechaaGreatDoor
open Go.RowKit

/-- A slice of signed numbers of a kind: none, or so many cells from an address on. -/
def IntsK (w : World) (v : Value) (k : IntKind) (bs : List Int) : Prop :=
  ∃ ao cap, v = .slice ao bs.length cap ∧ bs.length ≤ cap ∧ (∀ (i : Nat) (x : Int), bs[i]? = some x → ∃ a, ao = some a ∧ w.cell? (a.add i) = some (.int k x)) ∧ (ao = none → cap = 0)

theorem IntsK.keep {w w' : World} {v : Value} {k : IntKind} {bs : List Int} (h : IntsK w v k bs) (kk : Keep [] w w') : IntsK w' v k bs := by
  obtain ⟨ao, cap, h1, h2, h3, h4⟩ := h
  refine ⟨ao, cap, h1, h2, fun i x hx => ?_, h4⟩
  obtain ⟨a, e, hc⟩ := h3 i x hx
  exact ⟨a, e, kk.cell_some hc (by simp)⟩

/-- A slice of such slices. -/
def PartsAt (w : World) (v : Value) (k : IntKind) (ps : List (List Int)) : Prop :=
  ∃ ao cap, v = .slice ao ps.length cap ∧ ps.length ≤ cap ∧ ∀ (i : Nat) (l : List Int), ps[i]? = some l → ∃ a lv, ao = some a ∧ w.cell? (a.add i) = some lv ∧ IntsK w lv k l

theorem PartsAt.keep {w w' : World} {v : Value} {k : IntKind} {ps : List (List Int)} (h : PartsAt w v k ps) (kk : Keep [] w w') : PartsAt w' v k ps := by
  obtain ⟨ao, cap, h1, h2, h3⟩ := h
  refine ⟨ao, cap, h1, h2, fun i l hl => ?_⟩
  obtain ⟨a, lv, e, hc, hi⟩ := h3 i l hl
  exact ⟨a, lv, e, kk.cell_some hc (by simp), hi.keep kk⟩

def FitsPost (ps : List (List Int)) (w : World) (e : Ending) (w' : World) : Prop := ∃ b : Bool, e = .returned (.bool b) ∧ w' = w ∧ (b = true → ps.length ≤ 2147483647 ∧ ∀ l ∈ ps, l.length ≤ 2147483647)

set_option maxRecDepth 100000 in
set_option maxHeartbeats 1000000 in
theorem fitsC (v : Value) (ps : List (List Int)) (w : World) (hP : PartsAt w v .i16 ps) (hn : ps.length ≤ 9223372036854775807) (hl : ∀ l ∈ ps, l.length ≤ 9223372036854775807) :
    Calls Tryz.prog 26 #[v] w fun e w' => FitsPost ps w e w' := by
  obtain ⟨ao, cap, rfl, hc, hcell⟩ := hP
  obtain ⟨n, hn'⟩ : ∃ n, n = ps.length := ⟨_, rfl⟩
  rw [← hn'] at hn hc ⊢
  have Hn := Lib.hid hn'
  have Hc := Lib.hid hcell
  have Hl := Lib.hid hl
  clear hn' hcell hl
  by_cases hbig : 2147483647 < n
  · have hbi : (2147483647 : Int) < (n : Int) := by omega
    go_enter Tryz.func26, Tryz.ntmps26
    go_wp2
    go_ret
    unfold FitsPost
    exact ⟨false, rfl, rfl, by simp⟩
  have hbi : ¬ (2147483647 : Int) < (n : Int) := by omega
  go_enter Tryz.func26, Tryz.ntmps26
  go_wp2_with fail
  go_loopw [10] (fun i wr => ∃ k : Nat, k ≤ n ∧ i = .int .i64 (k : Int) ∧ w = wr ∧ ∀ l ∈ ps.take k, l.length ≤ 2147483647) (fun i _ => n - (intOf i).toNat)
  case atStart => exact ⟨0, Nat.zero_le _, rfl, rfl, by simp⟩
  case round =>
    obtain ⟨k, hk, rfl, rfl, hsm⟩ := hrel
    by_cases hk2 : k < n
    · obtain ⟨l, hl⟩ : ∃ l, ps[k]? = some l := ⟨ps[k]'(by rw [← Hn.out]; exact hk2), by simp⟩
      obtain ⟨a, lv, rfl, hca, ao2, cap2, rfl, hc2, -⟩ := Hc.out k l hl
      have hlb := Hl.out l (List.mem_of_getElem? hl)
      obtain ⟨m, hm⟩ : ∃ m, m = l.length := ⟨_, rfl⟩
      rw [← hm] at hca hc2 hlb
      have step : m ≤ 2147483647 → ∀ y ∈ ps.take (k + 1), y.length ≤ 2147483647 := fun hlt y hy => by
        rw [List.take_succ_eq_append_getElem (by rw [← Hn.out]; exact hk2), List.mem_append, List.mem_singleton] at hy
        rcases hy with hy | rfl
        · exact hsm y hy
        · rw [List.getElem?_eq_getElem (by rw [← Hn.out]; exact hk2)] at hl
          rw [Option.some.inj hl, ← hm]; exact hlt
      have Hstep := Lib.hid step
      clear step hl hsm hm
      by_cases hmb : 2147483647 < m
      · have hmi : (2147483647 : Int) < (m : Int) := by omega
        go_wp2
        go_ret
        unfold FitsPost
        exact ⟨false, rfl, rfl, by simp⟩
      · have hmi : ¬ (2147483647 : Int) < (m : Int) := by omega
        go_wp2
        go_roundw
        case rel => exact ⟨k + 1, hk2, by go_num, trivial, Hstep.out (by omega)⟩
        case measure => simp [intOf]; omega
    · have hkn : k = n := by omega
      subst hkn
      have Hsm := Lib.hid hsm
      clear hsm
      go_wp2
      go_ret
      unfold FitsPost
      refine ⟨true, rfl, rfl, fun _ => ⟨by rw [← Hn.out]; omega, ?_⟩⟩
      have := Hsm.out
      rwa [List.take_of_length_le (by rw [← Hn.out]; exact Nat.le_refl _)] at this

/-- What joined answers: nothing that counts; or all levels, in a slice of its own. -/
def JoinPost (ps : List (List Int)) (g : Int) (w : World) (e : Ending) (w' : World) : Prop :=
  ∃ v ok, e = .returned (.tuple #[v, .bool ok]) ∧ Keep [] w w' ∧ (ok = true → 1 ≤ g ∧ g ≤ 16384 ∧ ps.length ≤ 20 ∧ (∀ x ∈ ps.flatten, 0 ≤ x ∧ x ≤ g) ∧ 0 < ps.flatten.length ∧ ps.flatten.length ≤ 2000 ∧ GrowS w.heap.size [] w' v .u64 (ps.flatten.map Int.toNat))

set_option maxRecDepth 100000 in
set_option maxHeartbeats 4000000 in
theorem joinedC (v : Value) (ps : List (List Int)) (g : Int) (w : World) (hP : PartsAt w v .i16 ps) (hl : ∀ l ∈ ps, l.length ≤ 2147483647) (hw : ∀ x ∈ ps.flatten, -32768 ≤ x ∧ x ≤ 32767) (hn : ps.length ≤ 2147483647) :
    Calls Tryz.prog 27 #[v, .int .i64 g] w fun e w' => JoinPost ps g w e w' := by
  obtain ⟨ao, cap, rfl, hc, hcell⟩ := hP
  obtain ⟨n, hn'⟩ : ∃ n, n = ps.length := ⟨_, rfl⟩
  rw [← hn'] at hn hc ⊢
  have Hn := Lib.hid hn'
  have Hc := Lib.hid hcell
  have Hl := Lib.hid hl
  have Hw := Lib.hid hw
  clear hn' hcell hl hw
  by_cases h1 : g < 1
  · go_enter Tryz.func27, Tryz.ntmps27
    go_wp2
    go_ret2
    unfold JoinPost; exact ⟨_, false, rfl, Keep.refl _ _, by simp⟩
  by_cases h2 : 16384 < g
  · go_enter Tryz.func27, Tryz.ntmps27
    go_wp2
    go_ret2
    unfold JoinPost; exact ⟨_, false, rfl, Keep.refl _ _, by simp⟩
  by_cases h3 : 20 < n
  · have h3i : (20 : Int) < (n : Int) := by omega
    go_enter Tryz.func27, Tryz.ntmps27
    go_wp2
    go_ret2
    unfold JoinPost; exact ⟨_, false, rfl, Keep.refl _ _, by simp⟩
  have h3i : ¬ (20 : Int) < (n : Int) := by omega
  obtain ⟨i0, hi, hz0, hz1, hz2⟩ := info_parts info_u64
  go_enter Tryz.func27, Tryz.ntmps27
  go_wp2_with fail
  go_loopw [24, 6] (fun i ov wr => ∃ k : Nat, k ≤ n ∧ i = .int .i64 (k : Int) ∧ Keep [] w wr ∧ (∀ x ∈ (ps.take k).flatten, 0 ≤ x ∧ x ≤ g) ∧ (ps.take k).flatten.length ≤ k * 2147483647 ∧ GrowS w.heap.size [] wr ov .u64 ((ps.take k).flatten.map Int.toNat)) (fun i _ _ => n - (intOf i).toNat)
  case atStart => exact ⟨0, Nat.zero_le _, rfl, Keep.refl _ _, by simp, by simp, .inl ⟨rfl, by simp⟩⟩
  case round =>
    obtain ⟨k, hk, rfl, kk, hin, hlen, hG⟩ := hrel
    by_cases hk2 : k < n
    · obtain ⟨l, hl⟩ : ∃ l, ps[k]? = some l := ⟨ps[k]'(by rw [← Hn.out]; exact hk2), by simp⟩
      obtain ⟨a, lv, rfl, hca, ao2, cap2, rfl, hc2, hcl, -⟩ := Hc.out k l hl
      have hca := kk.cell_some hca (by simp)
      have hlb := Hl.out l (List.mem_of_getElem? hl)
      have hlw : ∀ x ∈ l, -32768 ≤ x ∧ x ≤ 32767 := fun x hx => Hw.out x (List.mem_flatten.2 ⟨l, List.mem_of_getElem? hl, hx⟩)
      have hnext : (ps.take (k + 1)).flatten = (ps.take k).flatten ++ l := by
        rw [List.take_succ_eq_append_getElem (by rw [← Hn.out]; exact hk2), List.flatten_append]
        rw [List.getElem?_eq_getElem (by rw [← Hn.out]; exact hk2)] at hl
        rw [Option.some.inj hl]; simp
      obtain ⟨F, hF⟩ : ∃ F, F = (ps.take k).flatten := ⟨_, rfl⟩
      rw [← hF] at hin hlen hG hnext
      obtain ⟨m, hm⟩ : ∃ m, m = l.length := ⟨_, rfl⟩
      rw [← hm] at hca hc2 hlb
      have Hm := Lib.hid hm
      have Hin := Lib.hid hin
      have Hcl := Lib.hid hcl
      have Hlw := Lib.hid hlw
      have Hnext := Lib.hid hnext
      have HG := Lib.hid hG
      have hF20 : F.length ≤ 42949672940 := by omega
      clear hl hcl hlw hnext hF hm hin hG
      go_wp2_with fail
      go_loopw [30, 6] (fun i ov wr2 => ∃ j : Nat, j ≤ m ∧ i = .int .i64 (j : Int) ∧ Keep [] w wr2 ∧ (∀ x ∈ l.take j, 0 ≤ x ∧ x ≤ g) ∧ GrowS w.heap.size [] wr2 ov .u64 ((F ++ l.take j).map Int.toNat)) (fun i _ _ => m - (intOf i).toNat)
      case atStart => exact ⟨0, Nat.zero_le _, rfl, kk, by simp, by simpa using HG.out⟩
      case round =>
        obtain ⟨j, hj, rfl, kj, hinj, hGj⟩ := hrel
        by_cases hj2 : j < m
        · obtain ⟨x, hx⟩ : ∃ x, l[j]? = some x := ⟨l[j]'(by rw [← Hm.out]; exact hj2), by simp⟩
          obtain ⟨b, rfl, hcx⟩ := Hcl.out j x hx
          have hcx := kj.cell_some hcx (by simp)
          obtain ⟨hx1, hx2⟩ := Hlw.out x (List.mem_of_getElem? hx)
          by_cases hxn : x < 0
          · go_wp2
            go_ret2
            unfold JoinPost; exact ⟨_, false, rfl, kj, by simp⟩
          by_cases hxg : g < x
          · go_wp2
            go_ret2
            unfold JoinPost; exact ⟨_, false, rfl, kj, by simp⟩
          obtain ⟨y, rfl⟩ : ∃ y : Nat, x = (y : Int) := ⟨x.toNat, by omega⟩
          have hj3 : l.take (j + 1) = l.take j ++ [(y : Int)] := by
            rw [List.take_succ_eq_append_getElem (by rw [← Hm.out]; exact hj2)]
            rw [List.getElem?_eq_getElem (by rw [← Hm.out]; exact hj2)] at hx
            rw [Option.some.inj hx]
          have hgl : ((F ++ l.take j).map Int.toNat).length = F.length + j := by simp; have := Hm.out; omega
          have Hj3 := Lib.hid hj3
          have Hinj := Lib.hid hinj
          have HGj := Lib.hid hGj
          have Hgl := Lib.hid hgl
          clear hj3 hinj hGj hgl hx
          go_wp2_with (at_builtin; refine halt ?_)
          refine Lib.hid ?_
          refine wpList_append_grow rfl _ _ 22 _ rfl i0 8 Tryz.underlying22 hi hz0 hz1 hz2 rfl (HGj.out.keep (S := []) ((Keep.refl [] _).alloc _) (by simp)) (by simp; exact Nat.le_succ_of_le kj.size) (by simp) _ [y] rfl (Src.blk Tryz.underlying22 (Blk.new _ (rowV .u64 [y]) _) rfl rfl) (by rw [Hgl.out]; simp; omega) (by rw [Hgl.out]; simp; omega) ?_
          intro v2 w5 S hG5 k5 hS5
          have K5 : Keep [] w w5 := (kj.alloc _).trans k5 (fun b hb => .inr (hS5 b hb).1)
          have HG5 := Lib.hid hG5
          clear hG5 k5 hS5
          go_wp2
          go_roundw
          case rel =>
            refine ⟨j + 1, hj2, by go_num, K5, ?_, ?_⟩
            · rw [Hj3.out]
              intro z hz
              rw [List.mem_append, List.mem_singleton] at hz
              rcases hz with hz | rfl
              · exact Hinj.out z hz
              · omega
            · rw [Hj3.out, ← List.append_assoc, List.map_append]
              simpa using HG5.out
          case measure => simp [intOf]; omega
        · have hjm : j = m := by omega
          subst hjm
          have Hinj := Lib.hid hinj
          have HGj := Lib.hid hGj
          clear hinj hGj
          have hlj : l.take j = l := List.take_of_length_le (by rw [← Hm.out]; exact Nat.le_refl _)
          have Hlj := Lib.hid hlj
          clear hlj
          go_wp2
          go_roundw
          case rel =>
            have h1 := Hinj.out
            have h2 := HGj.out
            rw [Hlj.out] at h1 h2
            refine ⟨k + 1, hk2, by go_num, kj, ?_, ?_, ?_⟩
            · rw [Hnext.out]
              intro z hz
              rw [List.mem_append] at hz
              exact hz.elim (Hin.out z) (h1 z)
            · rw [Hnext.out, List.length_append, ← Hm.out, Nat.succ_mul]; omega
            · rw [Hnext.out]; exact h2
          case measure => simp [intOf]; omega
    · have hkn : k = n := by omega
      subst hkn
      rw [List.take_of_length_le (by rw [← Hn.out]; exact Nat.le_refl _)] at hin hlen hG
      obtain ⟨oa, oc, hov, -, -⟩ := hG.row.open
      obtain ⟨N, hN⟩ : ∃ N, N = ps.flatten.length := ⟨_, rfl⟩
      have hN2 : (ps.flatten.map Int.toNat).length = N := by rw [List.length_map, hN]
      rw [hN2] at hov
      subst hov
      rw [← hN] at hlen
      have hNb : N ≤ 42949672940 := by omega
      have HN := Lib.hid hN
      have Hin := Lib.hid hin
      have HG := Lib.hid hG
      clear hin hG hN hN2 hlen
      by_cases hN0 : N = 0
      · have hN0i : ¬ (0 : Int) < (N : Int) := by omega
        clear hN0
        go_wp2
        go_ret2
        unfold JoinPost; exact ⟨_, false, rfl, kk, by simp⟩
      have hN0i : (0 : Int) < (N : Int) := by omega
      by_cases hN9 : N ≤ 2000
      · have hN9i : (N : Int) ≤ 2000 := by omega
        go_wp2
        go_ret2
        unfold JoinPost; exact ⟨_, true, rfl, kk, fun _ => ⟨by omega, by omega, by rw [← Hn.out]; omega, Hin.out, by rw [← HN.out]; omega, by rw [← HN.out]; exact hN9, HG.out⟩⟩
      · have hN9i : ¬ (N : Int) ≤ 2000 := by omega
        go_wp2
        go_ret2
        unfold JoinPost; exact ⟨_, false, rfl, kk, by simp⟩
end Go.Proofs.YtlolcgklcnechaaGreatDoor
