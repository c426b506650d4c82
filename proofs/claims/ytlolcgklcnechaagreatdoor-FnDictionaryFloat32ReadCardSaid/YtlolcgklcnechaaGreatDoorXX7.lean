/- spec.PutRuns. Slices of the call's own, of elements of whatever size; the values among the arguments. laws.indexed, spec.Counted0, spec.BatchedValues. spec.SameValue, spec.SameValues: of plain numbers. -/
import Derived.Test.YtlolcgklcnechaaGreatDoorXX1
set_option linter.unusedVariables false
set_option linter.unusedSimpArgs false
namespace Go.Proofs.YtlolcgklcnechaaGreatDoor
open Go.RowKit

def Rq.rn (r : Rq) : Rn := if r.packed then .lit r.all else .rep r.count.toNat (r.vs.headD 0)

theorem Rq.rn_vals (r : Rq) : r.rn.vals = r.all := by
  unfold Rq.rn
  cases h : r.packed <;> simp [Rn.vals, Rq.all, h]

theorem valsR_rn (rs : List Rq) : valsR (rs.map Rq.rn) = rs.flatMap Rq.all := by
  unfold valsR
  rw [List.flatMap_map]
  congr 1
  funext r
  exact r.rn_vals

theorem Rq.rn_ok {W : Nat} {r : Rq} (h : r.Ok W) : Rn.Ok W r.rn := by
  obtain ⟨h1, h2, h3, h4⟩ := h
  unfold Rq.rn
  cases hp : r.packed with
  | true =>
    obtain ⟨a, b⟩ := h2 hp
    have hl : r.all.length = 8 * r.count.toNat := by unfold Rq.all; simp [hp]; omega
    refine ⟨by rw [hl]; omega, by rw [hl]; omega, by rw [hl]; omega, fun v hv => ?_⟩
    unfold Rq.all at hv
    rw [hp] at hv
    simp only [if_true, List.mem_append, List.mem_replicate] at hv
    rcases hv with hv | ⟨_, rfl⟩
    · exact h4 v hv
    · exact Nat.two_pow_pos W
  | false =>
    obtain ⟨a, b⟩ := h3 hp
    refine ⟨by omega, by omega, ?_⟩
    match hv : r.vs, b with
    | [x], _ => exact h4 x (by rw [hv]; simp)

theorem Rq.enc_length {W : Nat} {r : Rq} (h : r.Ok W) (hW : W ≤ 20) : (r.rn.enc W).length ≤ 500 := by
  have ha := Rq.all_length h
  obtain ⟨h1, h2, h3, h4⟩ := h
  unfold Rq.rn
  cases hp : r.packed with
  | true =>
    obtain ⟨a, b⟩ := h2 hp
    have hl : r.all.length = 8 * r.count.toNat := by unfold Rq.all; simp [hp]; omega
    have hv := vlq_length 5 (2 * (r.all.length / 8) + 1) (by omega)
    have hm : W * r.all.length ≤ 20 * 160 := Nat.mul_le_mul hW (by omega)
    simp only [if_true, Rn.enc, List.length_append, length_leBytes]
    omega
  | false =>
    obtain ⟨a, b⟩ := h3 hp
    have hv := vlq_length 5 (2 * r.count.toNat) (by omega)
    simp only [Bool.false_eq_true, if_false, Rn.enc, List.length_append, length_leBytes]
    omega

theorem encR_take {W : Nat} {rs : List Rq} {k : Nat} {r : Rq} (hr : rs[k]? = some r) : encR W ((rs.take (k + 1)).map Rq.rn) = encR W ((rs.take k).map Rq.rn) ++ r.rn.enc W := by
  have hk : k < rs.length := by
    rcases Nat.lt_or_ge k rs.length with h | h
    · exact h
    · rw [List.getElem?_eq_none h] at hr; cases hr
  rw [List.take_succ_eq_append_getElem hk, List.map_append]
  rw [List.getElem?_eq_getElem hk] at hr
  rw [Option.some.inj hr]
  simp [encR]

theorem or_one (c : Nat) (hc : c ≤ 1000000) : bits .or .u64 (((2 * c : Nat)) : Int) 1 = ((2 * c + 1 : Nat) : Int) := by
  have e : (1 : Int) = ((1 : Nat) : Int) := rfl
  rw [e, u64_or_nat _ _ (by omega) (by omega), nat_join 1 (2 * c) 1 (by omega) (by omega)]

def lenV : Value → Nat
  | .slice _ n _ => n
  | _ => 0


set_option maxRecDepth 100000 in
set_option maxHeartbeats 4000000 in
theorem putRunsC (v : Value) (rs : List Rq) (W : Nat) (w : World) (hP : RunsAt w v rs) (hW0 : 0 < W) (hW : W ≤ 20) (hok : ∀ r ∈ rs, r.Ok W) (hn : rs.length ≤ 40) :
    Calls Tryz.prog 61 #[v, .int .i64 (W : Int)] w fun e w' => ∃ v, e = .returned v ∧ Keep [] w w' ∧ GrowS w.heap.size [] w' v .u8 (encR W (rs.map Rq.rn)) := by
  have HP := Lib.hid hP
  obtain ⟨ao, cap, rfl, hc, hcell⟩ := hP
  obtain ⟨n, hn'⟩ : ∃ n, n = rs.length := ⟨_, rfl⟩
  rw [← hn'] at hc hn ⊢
  have Hn := Lib.hid hn'
  have Hc := Lib.hid hcell
  have Hok := Lib.hid hok
  clear hn' hcell hok
  obtain ⟨i0, hi, hz0, hz1, hz2⟩ := info_parts info_u8
  obtain ⟨j0, ji, jz0, jz1, jz2⟩ := info_parts info_u64
  go_enter Tryz.func61, Tryz.ntmps61
  go_wp2_with fail
  go_loopw [12, 5] (fun i ov wr => ∃ k : Nat, k ≤ n ∧ i = .int .i64 (k : Int) ∧ Keep [] w wr ∧ (encR W ((rs.take k).map Rq.rn)).length ≤ k * 500 ∧ GrowS w.heap.size [] wr ov .u8 (encR W ((rs.take k).map Rq.rn))) (fun i _ _ => n - (intOf i).toNat)
  case atStart => exact ⟨0, Nat.zero_le _, rfl, Keep.refl _ _, by simp [encR], .inl ⟨rfl, by simp [encR]⟩⟩
  case round =>
    obtain ⟨k, hk, rfl, kk, hlen, hG⟩ := hrel
    by_cases hk2 : k < n
    · obtain ⟨r, hr⟩ : ∃ r, rs[k]? = some r := ⟨rs[k]'(by rw [← Hn.out]; exact hk2), by simp⟩
      obtain ⟨a, lv, rfl, c0, c1, c2, hl⟩ := Hc.out k r hr
      have hlw := hl
      obtain ⟨ao2, cap2, rfl, -, hlc⟩ := hl.open
      have d0 := kk.cell_some c0 (by simp)
      have d1 := kk.cell_some c1 (by simp)
      have d2 := kk.cell_some c2 (by simp)
      clear c0 c1 c2
      have hro := Hok.out r (List.mem_of_getElem? hr)
      have hnext := encR_take (W := W) hr
      have hel := Rq.enc_length hro hW
      have hlen2 : (encR W ((rs.take (k + 1)).map Rq.rn)).length ≤ (k + 1) * 500 := by rw [hnext, List.length_append, Nat.succ_mul]; omega
      obtain ⟨F, hF⟩ : ∃ F, F = encR W ((rs.take k).map Rq.rn) := ⟨_, rfl⟩
      rw [← hF] at hlen hG hnext
      obtain ⟨pk, ct, vs⟩ := r
      obtain ⟨h1, h2, h3, h4⟩ := hro
      simp only at h1 h2 h3 h4 d0 d1 d2 hlw hlc
      obtain ⟨c, rfl⟩ : ∃ c : Nat, ct = (c : Int) := ⟨ct.toNat, by omega⟩
      obtain ⟨m, hm⟩ : ∃ m, m = vs.length := ⟨_, rfl⟩
      simp only [← hm] at d2 hlw
      have hc300 : c ≤ 300 ∧ m ≤ 160 := by
        cases pk with
        | true => have := h2 rfl; rw [← hm] at this; omega
        | false => have := h3 rfl; rw [← hm] at this; omega
      obtain ⟨hc300, hm160⟩ := hc300
      have Hnx := Lib.hid (And.intro hnext hlen2)
      have HG := Lib.hid hG
      have HFm := Lib.hid hm
      have Hl := Lib.hid hlw
      have Hlc := Lib.hid hlc
      have Hq := Lib.hid (And.intro h1 (And.intro h2 (And.intro h3 h4)))
      have hF20 : F.length ≤ 20000 := by omega
      clear hnext hlen2 hG hm hlw hl hlc hr hF hlen hel h1 h2 h3 h4
      obtain ⟨c2x, hc2⟩ : ∃ c2x, c2x = 2 * c := ⟨_, rfl⟩
      obtain ⟨c2y, hcy⟩ : ∃ c2y, c2y = c2x + 1 := ⟨_, rfl⟩
      have hsh : (c : Int) * 2 = (c2x : Int) := by omega
      have hor : bits .or .u64 (c2x : Int) 1 = (c2y : Int) := by rw [hcy, hc2]; exact or_one c (by omega)
      have hc2b : c2x ≤ 600 := by omega
      have hcyb : c2y ≤ 601 := by omega
      obtain ⟨c8, hc8⟩ : ∃ c8, c8 = 8 * c := ⟨_, rfl⟩
      have hc8i : 8 * (c : Int) = (c8 : Int) := by omega
      have hc8b : c8 ≤ 2400 := by omega
      have Hc2 := Lib.hid (And.intro hc2 (And.intro hcy hc8))
      clear hc2 hcy hc8
      obtain ⟨oa, oc, rfl, -, -⟩ := HG.out.row.open
      obtain ⟨N, hN⟩ : ∃ N, N = F.length := ⟨_, rfl⟩
      rw [← hN] at HG hF20 ⊢
      have HN := Lib.hid hN
      clear hN
      cases pk with
      | true =>
        go_wp2_with fail
        obtain ⟨wA, hwA⟩ : ∃ wA, wA = wr.alloc (Obj.cells #[Value.bool true, Value.int IntKind.i64 (c : Int), Value.slice ao2 m cap2] 96) := ⟨_, rfl⟩
        rw [← hwA]
        obtain ⟨b7, hb7⟩ : ∃ b7, b7 = wr.heap.size := ⟨_, rfl⟩
        have hB7 : Blk wA b7 [.bool true, .int .i64 (c : Int), .slice ao2 m cap2] := by rw [hwA]; exact Blk.of_new hb7
        have KA : Keep [] w wA := by rw [hwA]; exact kk.alloc _
        have hGA : GrowS w.heap.size [b7] wA (.slice oa N oc) .u8 F := by
          rw [hwA]
          exact (HG.out.avoid (fun b hb => .inr (by simp at hb; omega))).keep (S := []) ((Keep.refl [] wr).alloc _) (by simp)
        have hlA : RowAt wA (.slice ao2 m cap2) .u64 vs := by rw [hwA]; exact Hl.out.keep (kk.alloc _)
        have hb7l : b7 < wA.heap.size := hB7.lt
        have hb7w : w.heap.size ≤ b7 := by rw [hb7]; exact kk.size
        rw [← hb7]
        clear hwA hb7 d0 d1 d2
        refine (putVlqC c2y wA (by omega)).mono ?_
        rintro e w2 ⟨v2, rfl, k2, hG2⟩
        have hR2 := hG2.row
        obtain ⟨oa2, oc2, rfl, -, -⟩ := hR2.open
        obtain ⟨nv, hnv⟩ : ∃ nv, nv = (vlq c2y).length := ⟨_, rfl⟩
        have hnv6 : nv ≤ 6 := by rw [hnv]; exact vlq_length 5 c2y (by omega)
        rw [← hnv] at hR2 ⊢
        have H2 := Lib.hid (And.intro hR2 hnv)
        have hB72 := hB7.keep k2 (by simp)
        have cb0 := hB72.cell (i := 0) rfl
        have cb1 := hB72.cell (i := 1) rfl
        have cb2 := hB72.cell (i := 2) rfl
        have HA := Lib.hid (And.intro (KA.trans k2 (by simp)) (And.intro hB72 (And.intro (hGA.keep k2 (by simp)) (And.intro (hlA.keep k2) (And.intro (Nat.lt_of_lt_of_le hb7l k2.size) hb7w)))))
        clear hG2 hR2 hnv hB72 hB7 KA hGA hlA hb7l hb7w k2
        go_wp2_with (at_builtin; refine halt ?_)
        refine Lib.hid ?_
        refine wpList_append_grow rfl _ _ 28 _ rfl i0 1 Tryz.underlying28 hi hz0 hz1 hz2 rfl HA.out.2.2.1 HA.out.1.size (fun b hb => by simp at hb; have := HA.out.2.2.2.2.1; omega) _ (vlq c2y) rfl (H2.out.1.src Tryz.underlying28) (by rw [← HN.out, ← H2.out.2]; omega) (by rw [← HN.out, ← H2.out.2]; omega) ?_
        intro v3 w3 S hG3 k3 hS3
        have K3 : Keep [] w w3 := HA.out.1.trans k3 (fun b hb => .inr (hS3 b hb).1)
        have hB3 := HA.out.2.1.keep k3 (fun hb => (hS3 _ hb).2 (by simp))
        have hl3 : RowAt w3 (.slice ao2 m cap2) .u64 vs := Hl.out.keep K3
        have hb7w := HA.out.2.2.2.2.2
        obtain ⟨oa3, oc3, rfl, -, -⟩ := hG3.row.open
        obtain ⟨N3, hN3⟩ : ∃ N3, N3 = (F ++ vlq c2y).length := ⟨_, rfl⟩
        have hN3b : N3 ≤ 20006 := by rw [hN3, List.length_append, ← HN.out, ← H2.out.2]; omega
        rw [← hN3] at hG3 ⊢
        clear cb0 cb1 cb2
        have cb0 := hB3.cell (i := 0) rfl
        have cb1 := hB3.cell (i := 1) rfl
        have cb2 := hB3.cell (i := 2) rfl
        have H3 := Lib.hid (And.intro K3 (And.intro hB3 (And.intro hG3 (And.intro hl3 (And.intro hN3 hb7w)))))
        have hb7l := hB3.lt
        clear K3 hB3 hG3 hl3 hN3 hb7w k3 hS3
        go_wp2_with (at_builtin; refine halt ?_)
        refine Lib.hid ?_
        have hG0 : GrowS w3.heap.size [] (w3.alloc (.cells #[] 43)) (.slice (some ⟨w3.heap.size, 0, none⟩) 0 0) .u64 [] := .inr ⟨w3.heap.size, 0, [], rfl, Nat.le_refl _, by simp, Blk.new w3 [] _, rfl, rfl, Nat.le_refl _⟩
        refine wpList_append_grow rfl _ _ 22 _ rfl j0 8 Tryz.underlying22 ji jz0 jz1 jz2 rfl hG0 (by simp) (by simp) _ vs rfl ((H3.out.2.2.2.1.keep ((Keep.refl [] w3).alloc _)).src Tryz.underlying22) (by have := HFm.out; simp; omega) (by have := HFm.out; simp; omega) ?_
        intro v4 w4 S4 hG4 k4 hS4
        have K34 : Keep [] w3 w4 := ((Keep.refl [] w3).alloc _).trans k4 (fun b hb => .inr (hS4 b hb).1)
        have HG4 := Lib.hid hG4
        clear hG4 k4 hS4 hG0
        have hB4 := H3.out.2.1.keep K34 (by simp)
        clear cb0 cb1 cb2
        have cb0 := hB4.cell (i := 0) rfl
        have cb1 := hB4.cell (i := 1) rfl
        have cb2 := hB4.cell (i := 2) rfl
        clear hB4
        go_wp2_with fail
        go_loopw [8] (fun vv wr2 => ∃ q : Nat, m + q ≤ c8 ∧ Keep [] w3 wr2 ∧ GrowS w3.heap.size [] wr2 vv .u64 (vs ++ List.replicate q 0)) (fun vv _ => c8 - lenV vv)
        case atStart => exact ⟨0, by have := Hq.out.2.1 trivial; have := HFm.out; have := Hc2.out.2.2; omega, K34, by simpa using HG4.out⟩
        case round =>
          obtain ⟨q, hq, K5, hG5⟩ := hrel
          have hG5' := hG5
          obtain ⟨oa5, oc5, rfl, -, -⟩ := hG5.row.open
          obtain ⟨mq, hmq⟩ : ∃ mq, mq = (vs ++ List.replicate q 0).length := ⟨_, rfl⟩
          have hmq2 : mq = m + q := by rw [hmq]; simp; exact HFm.out.symm
          rw [← hmq] at hG5' ⊢
          have H5 := Lib.hid (And.intro hG5' (And.intro hmq hmq2))
          have hmqb : mq ≤ c8 := by omega
          have hB5 := H3.out.2.1.keep K5 (by simp)
          clear cb0 cb1 cb2
          have cb0 := hB5.cell (i := 0) rfl
          have cb1 := hB5.cell (i := 1) rfl
          have cb2 := hB5.cell (i := 2) rfl
          clear hB5 hG5 hG5' hmq hmq2
          by_cases hq2 : mq < c8
          · have hq2i : (mq : Int) < (c8 : Int) := by omega
            go_wp2_with (at_builtin; refine halt ?_)
            refine Lib.hid ?_
            refine wpList_append_grow rfl _ _ 22 _ rfl j0 8 Tryz.underlying22 ji jz0 jz1 jz2 rfl (H5.out.1.keep (S := []) ((Keep.refl [] wr).alloc _) (by simp)) (by simp; exact Nat.le_succ_of_le K5.size) (by simp) _ [0] rfl (Src.blk Tryz.underlying22 (Blk.new wr (rowV .u64 [0]) _) rfl rfl) (by rw [← H5.out.2.1]; simp; omega) (by rw [← H5.out.2.1]; simp; omega) ?_
            intro v8 w8 S8 hG8 k8 hS8
            have K8 : Keep [] w3 w8 := (K5.alloc _).trans k8 (fun b hb => .inr (hS8 b hb).1)
            have hG8' := hG8
            obtain ⟨oa8, oc8, rfl, -, -⟩ := hG8.row.open
            obtain ⟨N8, hN8⟩ : ∃ N8, N8 = (vs ++ List.replicate q 0 ++ [0]).length := ⟨_, rfl⟩
            have hN8m : N8 = mq + 1 := by rw [hN8, List.length_append, ← H5.out.2.1]; rfl
            rw [← hN8] at hG8' ⊢
            have HG8 := Lib.hid (And.intro hG8' hN8m)
            clear hG8 hG8' k8 hS8 hN8 hN8m
            go_wp2
            go_roundw
            case rel =>
              refine ⟨q + 1, by have := H5.out.2.2; omega, K8, ?_⟩
              rw [List.replicate_succ', ← List.append_assoc]
              exact HG8.out.1
            case measure =>
              have := HG8.out.2
              simp [lenV]; omega
          · have hqc : c8 = mq := by omega
            obtain ⟨l, hl⟩ : ∃ l, l = vs ++ List.replicate q 0 := ⟨_, rfl⟩
            have hll : l.length = mq := by rw [hl]; exact H5.out.2.1.symm
            obtain ⟨L, hL⟩ : ∃ L, L = (l.length * W + 7) / 8 := ⟨_, rfl⟩
            have hLb : L ≤ 48001 := by
              have : l.length * W ≤ 2400 * 20 := Nat.mul_le_mul (by omega) hW
              omega
            have hls : ∀ x ∈ l, x < 2 ^ W := fun x hx => by
              rw [hl, List.mem_append, List.mem_replicate] at hx
              rcases hx with hx | ⟨_, rfl⟩
              · exact Hq.out.2.2.2 x hx
              · exact Nat.two_pow_pos W
            have hPB := packBitsC (.slice oa5 mq oc5) W L l wr (by rw [hl]; exact H5.out.1.row) hW0 (by omega) hls (by omega) hL
            have Hl5 := Lib.hid (And.intro hl (And.intro hll (And.intro hL hqc)))
            have hq2i : ¬ (mq : Int) < (c8 : Int) := by omega
            clear hl hll hL hls hqc
            go_wp2_with fail
            refine hPB.mono ?_
            rintro e w9 ⟨rfl, k9, hB9⟩
            have H9 := Lib.hid (And.intro (K5.trans k9 (by simp)) hB9)
            clear hPB hB9 k9
            go_wp2_with (at_builtin; refine halt ?_)
            refine Lib.hid ?_
            refine wpList_append_grow rfl _ _ 28 _ rfl i0 1 Tryz.underlying28 hi hz0 hz1 hz2 rfl (H3.out.2.2.1.keep H9.out.1 (by simp)) (H3.out.1.trans H9.out.1 (by simp)).size (fun b hb => by simp at hb; have := H9.out.1.size; omega) _ (leBytes L (packN W l)) rfl (Src.blk Tryz.underlying28 H9.out.2 (by simp) (by rw [List.drop_zero, List.take_of_length_le (by simp)])) (by rw [← H3.out.2.2.2.2.1]; simp; omega) (by rw [← H3.out.2.2.2.2.1]; simp; omega) ?_
            intro v10 w10 S10 hG10 k10 hS10
            have K10 : Keep [] w w10 := (H3.out.1.trans H9.out.1 (by simp)).trans k10 (fun b hb => .inr (hS10 b hb).1)
            have HG10 := Lib.hid hG10
            clear hG10 k10 hS10
            go_wp2
            go_roundw
            case rel =>
              obtain ⟨hl, hll, hL, hqc⟩ := Hl5.out
              obtain ⟨hc2, hcy, hc8⟩ := Hc2.out
              have hall : Rq.all ⟨true, (c : Int), vs⟩ = l := by
                rw [hl]
                unfold Rq.all
                simp only [if_true]
                congr 2
                have := HFm.out
                have := H5.out.2.2
                show 8 * (c : Int).toNat - vs.length = q
                omega
              have henc : (Rq.rn ⟨true, (c : Int), vs⟩).enc W = vlq c2y ++ leBytes L (packN W l) := by
                unfold Rq.rn
                simp only [if_true, hall, Rn.enc]
                have e1 : 2 * (l.length / 8) + 1 = c2y := by omega
                have e2 : W * l.length / 8 = L := by
                  rw [hL, hll, ← hqc, hc8]
                  have : W * (8 * c) = 8 * c * W := Nat.mul_comm _ _
                  have : 8 * c * W = 8 * (c * W) := Nat.mul_assoc _ _ _
                  omega
                rw [e1, e2]
              refine ⟨k + 1, hk2, by go_num, K10, Hnx.out.2, ?_⟩
              rw [Hnx.out.1, henc, ← List.append_assoc]
              exact HG10.out.avoid (by simp)
            case measure => simp [intOf]; omega
      | false =>
        go_wp2_with fail
        obtain ⟨wA, hwA⟩ : ∃ wA, wA = wr.alloc (Obj.cells #[Value.bool false, Value.int IntKind.i64 (c : Int), Value.slice ao2 m cap2] 96) := ⟨_, rfl⟩
        rw [← hwA]
        obtain ⟨b7, hb7⟩ : ∃ b7, b7 = wr.heap.size := ⟨_, rfl⟩
        have hB7 : Blk wA b7 [.bool false, .int .i64 (c : Int), .slice ao2 m cap2] := by rw [hwA]; exact Blk.of_new hb7
        have KA : Keep [] w wA := by rw [hwA]; exact kk.alloc _
        have hGA : GrowS w.heap.size [b7] wA (.slice oa N oc) .u8 F := by
          rw [hwA]
          exact (HG.out.avoid (fun b hb => .inr (by simp at hb; omega))).keep (S := []) ((Keep.refl [] wr).alloc _) (by simp)
        have hlA : RowAt wA (.slice ao2 m cap2) .u64 vs := by rw [hwA]; exact Hl.out.keep (kk.alloc _)
        have hb7l : b7 < wA.heap.size := hB7.lt
        have hb7w : w.heap.size ≤ b7 := by rw [hb7]; exact kk.size
        rw [← hb7]
        clear hwA hb7 d0 d1 d2
        refine (putVlqC c2x wA (by omega)).mono ?_
        rintro e w2 ⟨v2, rfl, k2, hG2⟩
        have hR2 := hG2.row
        obtain ⟨oa2, oc2, rfl, -, -⟩ := hR2.open
        obtain ⟨nv, hnv⟩ : ∃ nv, nv = (vlq c2x).length := ⟨_, rfl⟩
        have hnv6 : nv ≤ 6 := by rw [hnv]; exact vlq_length 5 c2x (by omega)
        rw [← hnv] at hR2 ⊢
        have H2 := Lib.hid (And.intro hR2 hnv)
        have hB72 := hB7.keep k2 (by simp)
        have cb0 := hB72.cell (i := 0) rfl
        have cb1 := hB72.cell (i := 1) rfl
        have cb2 := hB72.cell (i := 2) rfl
        have HA := Lib.hid (And.intro (KA.trans k2 (by simp)) (And.intro hB72 (And.intro (hGA.keep k2 (by simp)) (And.intro (hlA.keep k2) (And.intro (Nat.lt_of_lt_of_le hb7l k2.size) hb7w)))))
        clear hG2 hR2 hnv hB72 hB7 KA hGA hlA hb7l hb7w k2
        go_wp2_with (at_builtin; refine halt ?_)
        refine Lib.hid ?_
        refine wpList_append_grow rfl _ _ 28 _ rfl i0 1 Tryz.underlying28 hi hz0 hz1 hz2 rfl HA.out.2.2.1 HA.out.1.size (fun b hb => by simp at hb; have := HA.out.2.2.2.2.1; omega) _ (vlq c2x) rfl (H2.out.1.src Tryz.underlying28) (by rw [← HN.out, ← H2.out.2]; omega) (by rw [← HN.out, ← H2.out.2]; omega) ?_
        intro v3 w3 S hG3 k3 hS3
        have K3 : Keep [] w w3 := HA.out.1.trans k3 (fun b hb => .inr (hS3 b hb).1)
        have hB3 := HA.out.2.1.keep k3 (fun hb => (hS3 _ hb).2 (by simp))
        have hl3 : RowAt w3 (.slice ao2 m cap2) .u64 vs := Hl.out.keep K3
        have hb7w := HA.out.2.2.2.2.2
        obtain ⟨x0, hx0⟩ : ∃ x0, vs = [x0] := by
          have := (Hq.out.2.2.1 trivial).2
          match vs, this with
          | [x0], _ => exact ⟨x0, rfl⟩
        obtain ⟨la, rfl, hla⟩ := Hlc.out 0 x0 (by rw [hx0]; rfl)
        have hla0 : la.add 0 = la := by simp [Addr.add]
        rw [hla0] at hla
        have hm1 : 0 < m := by have := HFm.out; rw [hx0] at this; simp at this; omega
        have hx64 : x0 < 2 ^ W := Hq.out.2.2.2 x0 (by rw [hx0]; simp)
        have Hx0 := Lib.hid (And.intro hx0 hla)
        obtain ⟨wb, hwb⟩ : ∃ wb, wb = (W + 7) / 8 := ⟨_, rfl⟩
        have hwbi : ((W : Int) + 7) / 8 = (wb : Int) := by omega
        have hwb3 : wb ≤ 3 := by omega
        have Hwb := Lib.hid hwb
        clear hx0 hla hla0 hwb
        obtain ⟨oa3, oc3, rfl, -, -⟩ := hG3.row.open
        obtain ⟨N3, hN3⟩ : ∃ N3, N3 = (F ++ vlq c2x).length := ⟨_, rfl⟩
        have hN3b : N3 ≤ 20006 := by rw [hN3, List.length_append, ← HN.out, ← H2.out.2]; omega
        rw [← hN3] at hG3 ⊢
        clear cb0 cb1 cb2
        have H3 := Lib.hid (And.intro K3 (And.intro hB3 (And.intro hG3 (And.intro hN3 hb7w))))
        clear K3 hB3 hG3 hl3 hN3 hb7w k3 hS3
        go_wp2_with fail
        go_loopw [9, 5] (fun i ov wr2 => ∃ q : Nat, q ≤ wb ∧ i = .int .i64 (q : Int) ∧ Keep [] w wr2 ∧ Blk wr2 b7 [.bool false, .int .i64 (c : Int), .slice (some la) m cap2] ∧ GrowS w.heap.size [b7] wr2 ov .u8 (F ++ vlq c2x ++ leBytes q x0)) (fun i _ _ => wb - (intOf i).toNat)
        case atStart => exact ⟨0, Nat.zero_le _, rfl, H3.out.1, H3.out.2.1, by simpa [leBytes] using H3.out.2.2.1⟩
        case round =>
          obtain ⟨q, hq, rfl, K7, hB7, hG7⟩ := hrel
          have hG7' := hG7
          obtain ⟨oa7, oc7, rfl, -, -⟩ := hG7.row.open
          obtain ⟨N7, hN7⟩ : ∃ N7, N7 = (F ++ vlq c2x ++ leBytes q x0).length := ⟨_, rfl⟩
          have hN7b : N7 ≤ 20010 := by rw [hN7, List.length_append, length_leBytes, ← H3.out.2.2.2.1]; omega
          rw [← hN7] at hG7' ⊢
          have cb0 := hB7.cell (i := 0) rfl
          have cb1 := hB7.cell (i := 1) rfl
          have cb2 := hB7.cell (i := 2) rfl
          have hca := K7.cell_some Hx0.out.2 (by simp)
          have H7 := Lib.hid (And.intro hB7 (And.intro hG7' hN7))
          have hb7l := hB7.lt
          clear hB7 hG7 hG7' hN7
          by_cases hq2 : q < wb
          · have hq2i : (q : Int) < (wb : Int) := by omega
            obtain ⟨q8, hq8⟩ : ∃ q8, q8 = 8 * q := ⟨_, rfl⟩
            have hq8i : 8 * (q : Int) = (q8 : Int) := by omega
            have hq8b : q8 ≤ 24 := by omega
            obtain ⟨z, hz⟩ : ∃ z, z = x0 / 2 ^ q8 := ⟨_, rfl⟩
            have hzi : (x0 : Int) / 2 ^ q8 = (z : Int) := by rw [hz, Int.natCast_ediv, Int.natCast_pow]; rfl
            obtain ⟨y, hy⟩ : ∃ y, y = z % 256 := ⟨_, rfl⟩
            have hyi : (z : Int) % 256 = (y : Int) := by omega
            have hnx : leBytes (q + 1) x0 = leBytes q x0 ++ [y] := by
              rw [leBytes_add, hy, hz, hq8]
              congr 1
              simp only [leBytes]
              rw [show (256 : Nat) = 2 ^ 8 from rfl, ← Nat.pow_mul]
            have Hy := Lib.hid hnx
            clear hq8 hz hy hnx
            go_wp2_with (at_builtin; refine halt ?_)
            refine Lib.hid ?_
            refine wpList_append_grow rfl _ _ 28 _ rfl i0 1 Tryz.underlying28 hi hz0 hz1 hz2 rfl (H7.out.2.1.keep (S := []) ((Keep.refl [] wr).alloc _) (by simp)) (by simp; exact Nat.le_succ_of_le K7.size) (fun b hb => by simp at hb ⊢; omega) _ [y] rfl (Src.blk Tryz.underlying28 (Blk.new wr (rowV .u8 [y]) _) rfl rfl) (by rw [← H7.out.2.2]; simp; omega) (by rw [← H7.out.2.2]; simp; omega) ?_
            intro v8 w8 S8 hG8 k8 hS8
            have K8 : Keep [] w w8 := (K7.alloc _).trans k8 (fun b hb => .inr (hS8 b hb).1)
            have hB8 := (H7.out.1.alloc (.cells #[.int .u8 (y : Int)] 5)).keep k8 (fun hb => (hS8 _ hb).2 (by simp))
            clear cb0 cb1 cb2 hca
            have cb0 := hB8.cell (i := 0) rfl
            have cb1 := hB8.cell (i := 1) rfl
            have cb2 := hB8.cell (i := 2) rfl
            have H8 := Lib.hid (And.intro hB8 hG8)
            clear hB8 hG8 k8 hS8
            go_wp2
            go_roundw
            case rel =>
              refine ⟨q + 1, by omega, by go_num, K8, H8.out.1, ?_⟩
              rw [Hy.out, ← List.append_assoc]
              exact H8.out.2
            case measure => simp [intOf]; omega
          · have hqc : wb = q := by omega
            have Hqc := Lib.hid hqc
            have hq2i : ¬ (q : Int) < (wb : Int) := by omega
            clear hqc
            go_wp2
            go_roundw
            case rel =>
              obtain ⟨hc2, hcy, hc8⟩ := Hc2.out
              have henc : (Rq.rn ⟨false, (c : Int), vs⟩).enc W = vlq c2x ++ leBytes q x0 := by
                unfold Rq.rn
                simp only [Bool.false_eq_true, if_false, Hx0.out.1, List.headD_cons, Rn.enc]
                rw [← Hqc.out, Hwb.out, hc2]
                rfl
              refine ⟨k + 1, hk2, by go_num, K7, Hnx.out.2, ?_⟩
              rw [Hnx.out.1, henc, ← List.append_assoc]
              exact H7.out.2.1.avoid (by simp)
            case measure => simp [intOf]; omega
    · have hkn : k = n := by omega
      subst hkn
      rw [List.take_of_length_le (by rw [← Hn.out]; exact Nat.le_refl _)] at hG
      have HG := Lib.hid hG
      clear hG hlen
      go_wp2
      go_ret
      exact ⟨_, rfl, kk, HG.out⟩
end Go.Proofs.YtlolcgklcnechaaGreatDoor
set_option linter.unusedVariables false
set_option linter.unusedSimpArgs false
namespace Go.Proofs.YtlolcgklcnechaaGreatDoor
open Go.RowKit

/-- A slice that the call itself has made: none yet, or a row of elements in a block from lo on that is none of those to be avoided. -/
def GrowC {α : Type} (cf : α → List Value) (sz lo : Nat) (avoid : List Nat) (w : World) (v : Value) (l : List α) : Prop :=
  (v = .slice none 0 0 ∧ l = []) ∨ ∃ g c cs, v = .slice (some ⟨g, 0, none⟩) l.length c ∧ lo ≤ g ∧ g ∉ avoid ∧ Blk w g cs ∧ cs.length = c * sz ∧ cs.take (l.length * sz) = l.flatMap cf ∧ l.length ≤ c

section
variable {α : Type} {cf : α → List Value} {sz lo : Nat} {av : List Nat}

theorem GrowC.keep {S : List Nat} {w w' : World} {v : Value} {l : List α} (h : GrowC cf sz lo av w v l) (kk : Keep S w w') (hS : ∀ b ∈ S, b ∈ av ∨ b < lo) : GrowC cf sz lo av w' v l := by
  rcases h with h | ⟨g, c, cs, h1, h2, h3, h4, h5⟩
  · exact .inl h
  · exact .inr ⟨g, c, cs, h1, h2, h3, h4.keep kk (fun hm => (hS g hm).elim h3 (fun hl => by omega)), h5⟩

theorem GrowC.avoid {avoid' : List Nat} {w : World} {v : Value} {l : List α} (h : GrowC cf sz lo av w v l) (hS : ∀ b ∈ avoid', b ∈ av ∨ w.heap.size ≤ b) : GrowC cf sz lo avoid' w v l := by
  rcases h with h | ⟨g, c, cs, h1, h2, h3, h4, h5⟩
  · exact .inl h
  · have := h4.lt
    exact .inr ⟨g, c, cs, h1, h2, fun hm => (hS g hm).elim h3 (fun hl => by omega), h4, h5⟩

theorem GrowC.shape {w : World} {v : Value} {l : List α} (h : GrowC cf sz lo av w v l) : ∃ ao c, v = .slice ao l.length c ∧ l.length ≤ c := by
  rcases h with ⟨h, rfl⟩ | ⟨g, c, cs, h1, _, _, _, _, _, h7⟩
  · exact ⟨none, 0, h, Nat.le_refl _⟩
  · exact ⟨_, c, h1, h7⟩

theorem flatMap_length (hcf : ∀ x, (cf x).length = sz) : ∀ l : List α, (l.flatMap cf).length = l.length * sz
  | [] => by simp
  | x :: l => by rw [List.flatMap_cons, List.length_append, hcf, flatMap_length hcf l, List.length_cons, Nat.succ_mul, Nat.add_comm]

theorem flatMap_get (hcf : ∀ x, (cf x).length = sz) : ∀ (l : List α) (i : Nat) (x : α) (j : Nat), l[i]? = some x → j < sz → (l.flatMap cf)[i * sz + j]? = (cf x)[j]?
  | [], i, x, j, h, _ => by simp at h
  | y :: l, 0, x, j, h, hj => by
    simp at h
    subst h
    rw [List.flatMap_cons, Nat.zero_mul, Nat.zero_add, List.getElem?_append_left (by rw [hcf]; exact hj)]
  | y :: l, i + 1, x, j, h, hj => by
    simp at h
    rw [List.flatMap_cons, List.getElem?_append_right (by rw [hcf, Nat.succ_mul]; omega), hcf]
    rw [show (i + 1) * sz + j - sz = i * sz + j by rw [Nat.succ_mul]; omega]
    exact flatMap_get hcf l i x j h hj

/-- An element's cells. -/
theorem GrowC.cell (hcf : ∀ x, (cf x).length = sz) {w : World} {v : Value} {l : List α} (h : GrowC cf sz lo av w v l) {i : Nat} {x : α} (hx : l[i]? = some x) {j : Nat} {u : Value} (hj : (cf x)[j]? = some u) :
    ∃ g c, v = .slice (some ⟨g, 0, none⟩) l.length c ∧ w.cell? ⟨g, i * sz + j, none⟩ = some u := by
  rcases h with ⟨_, rfl⟩ | ⟨g, c, cs, h1, h2, h3, h4, h5, h6, h7⟩
  · simp at hx
  · have hil := (List.getElem?_eq_some_iff.1 hx).1
    have hjs : j < sz := by rw [← hcf x]; exact (List.getElem?_eq_some_iff.1 hj).1
    refine ⟨g, c, h1, h4.cell ?_⟩
    have hle : i * sz + j < l.length * sz := by
      have : (i + 1) * sz ≤ l.length * sz := Nat.mul_le_mul_right _ hil
      rw [Nat.succ_mul] at this
      omega
    have := flatMap_get hcf l i x j hx hjs
    rw [← h6, List.getElem?_take, if_pos hle, hj] at this
    exact this

theorem GrowC.append (hcf : ∀ x, (cf x).length = sz) (hsz0 : 0 < sz) {P : Program} {w : World} {v : Value} {l : List α} (t ty e : TypeId) (i : TypeInfo) (bytes : Nat) (ht : P.underlying t = some (.slice e)) (hi : P.info? e = some i)
    (hz : ∃ z, i.zero = some z ∧ z.cells.size = sz) (hsize : i.size = sz) (hby : i.bytes = bytes) (h : GrowC cf sz lo av w v l) (hlo : lo ≤ w.heap.size) (hav : ∀ b ∈ av, b < w.heap.size) (x : Value) (news : List α)
    (hs : Src P sz t x news.length (news.flatMap cf) w) (hb : (l.length + news.length) * bytes ≤ 140737488355328) (h63 : l.length + news.length ≤ 1000000000000) :
    ∃ v' w' S, (Builtin.append_ #[t, t] ty #[v, x]).run P w = .ok v' w' ∧ GrowC cf sz lo av w' v' (l ++ news) ∧ Keep S w w' ∧ (∀ b ∈ S, lo ≤ b ∧ b ∉ av) := by
  obtain ⟨z, hz, hzs⟩ := hz
  have hs' : Src P i.size t x news.length (news.flatMap cf) w := by rw [hsize]; exact hs
  have hln := flatMap_length hcf news
  have hll := flatMap_length hcf l
  have grow : ∀ (base : Option Addr) (c : Nat), c < l.length + news.length → (Builtin.firstCells i.size l.length (.slice base l.length c)).run P w.drew = .ok (l.flatMap cf).toArray w.drew →
      ∃ v' w' S, (Builtin.append_ #[t, t] ty #[.slice base l.length c, x]).run P w = .ok v' w' ∧ GrowC cf sz lo av w' v' (l ++ news) ∧ Keep S w w' ∧ (∀ b ∈ S, lo ≤ b ∧ b ∉ av) := by
    intro base c hc hold
    have hrun := run_append_grow_src (P := P) w t t ty e i z ht hi hz base l.length c (l.flatMap cf) hold x news.length (news.flatMap cf) hs' hc (by omega) (growslice_fits hc (by rw [hby]; exact hb))
    have hge := grownCap_ge w (l.length + news.length) c e
    refine ⟨_, _, [], hrun, .inr ⟨w.heap.size, _, ((l.flatMap cf ++ news.flatMap cf).toArray ++ Builtin.zeroCells z.cells (grownCap w (l.length + news.length) c e - (l.length + news.length))).toList, by rw [List.length_append], hlo, fun hm => absurd (hav _ hm) (by omega), ?_, ?_, ?_, ?_⟩, ((Keep.refl [] w).drew).alloc _, by simp⟩
    · have := Blk.new w.drew ((l.flatMap cf ++ news.flatMap cf).toArray ++ Builtin.zeroCells z.cells (grownCap w (l.length + news.length) c e - (l.length + news.length))).toList e
      rw [Array.toArray_toList] at this
      exact this
    · rw [Array.length_toList, Array.size_append, List.size_toArray, size_zeroCells, List.length_append, hln, hll, hzs, ← Nat.add_mul, ← Nat.add_mul]
      congr 1; omega
    · rw [List.flatMap_append, Array.toList_append, List.toList_toArray, List.take_left' (by rw [List.length_append, List.length_append, hln, hll, Nat.add_mul])]
    · rw [List.length_append]; exact hge
  rcases h with ⟨rfl, rfl⟩ | ⟨g, c, cs, rfl, h2, h3, h4, h5, h6, h7⟩
  · by_cases hn : news = []
    · subst hn
      refine ⟨_, _, [], run_append_nothing (P := P) w t t ty e i ht hi none 0 0 (Nat.le_refl _) x hs', .inl ⟨rfl, rfl⟩, Keep.refl _ _, by simp⟩
    · have hpos : 0 < news.length := List.length_pos_iff.2 hn
      exact grow none 0 (by simpa using hpos) (run_firstCells_none w.drew i.size 0 0 0)
  · by_cases hfit : l.length + news.length ≤ c
    · have hmul : (l.length + news.length) * sz ≤ c * sz := Nat.mul_le_mul_right _ hfit
      rw [Nat.add_mul] at hmul
      have hrun := run_append_room_src (P := P) w t t ty e i ht hi g 0 l.length c x news.length (news.flatMap cf) hs' hfit
        (fun j hj => by
          rw [hln] at hj
          rw [hsize, h4.cell (i := 0 + l.length * sz + j) (v := cs[0 + l.length * sz + j]'(by omega)) (by simp)]; rfl)
        (fun j hj => h4.frozen _)
      rw [hsize, Nat.zero_add] at hrun
      refine ⟨_, _, [g], hrun, .inr ⟨g, c, splice cs (l.length * sz) (news.flatMap cf), by rw [List.length_append], h2, h3, h4.setCells (by rw [hln]; omega), by rw [length_splice _ _ _ (by rw [hln]; omega)]; exact h5, ?_, by rw [List.length_append]; exact hfit⟩, Keep.setCells (by simp) (Keep.refl _ _), by
        intro b hb
        simp at hb
        subst hb
        exact ⟨h2, h3⟩⟩
      rw [List.flatMap_append]
      unfold splice
      rw [h6, ← List.append_assoc, List.take_left' (by rw [List.length_append, List.length_append, hln, hll, Nat.add_mul])]
    · refine grow _ c (by omega) (run_firstCells_some w.drew i.size l.length ⟨g, 0, none⟩ l.length c (l.flatMap cf) (by rw [hsize]; exact hll) (fun j u hu => ?_))
      have hj : j < l.length * sz := by
        have := (List.getElem?_eq_some_iff.1 hu).1
        rw [hll] at this; exact this
      rw [add_at, Nat.zero_add]
      rw [← h6, List.getElem?_take, if_pos hj] at hu
      exact h4.drew.cell hu

/-- .. at a walk's step. -/
theorem wpList_append_growC (hcf : ∀ x, (cf x).length = sz) (hsz0 : 0 < sz) {P : Program} {w : World} {v : Value} {l : List α} {ops : Array Oper} {rest : List Oper} {o : Oper} {a : Act} {Q : Exit → Act → World → Prop} (hgd : o.guard = none) (s x : Operand) (t e : TypeId)
    (ho : o.op = .call { callee := .builtin .append, args := #[s, x], argTypes := #[t, t] }) (i : TypeInfo) (bytes : Nat) (ht : P.underlying t = some (.slice e)) (hi : P.info? e = some i)
    (hz : ∃ z, i.zero = some z ∧ z.cells.size = sz) (hsize : i.size = sz) (hby : i.bytes = bytes) (hv : a.eval s = v) (h : GrowC cf sz lo av w v l) (hlo : lo ≤ w.heap.size) (hav : ∀ b ∈ av, b < w.heap.size) (xv : Value) (news : List α)
    (hx : a.eval x = xv) (hs : Src P sz t xv news.length (news.flatMap cf) w) (hb : (l.length + news.length) * bytes ≤ 140737488355328) (h63 : l.length + news.length ≤ 1000000000000)
    (hK : ∀ v' w' S, GrowC cf sz lo av w' v' (l ++ news) → Keep S w w' → (∀ b ∈ S, lo ≤ b ∧ b ∉ av) → wpList P ops Q rest (a.put o.dst v') w') : wpList P ops Q (o :: rest) a w := by
  refine wpList_plain hgd fun K hK' => ?_
  obtain ⟨v', w', S, hrun, r1, r2, r3⟩ := h.append hcf hsz0 (P := P) t o.type e i bytes ht hi hz hsize hby hlo hav xv news hs hb h63
  unfold Oper.wp
  simp [execOp, ho, resolve, invoke, builtin, hv, hx, hrun, Result.andThen]
  exact hK' _ _ (hK v' w' S r1 r2 r3)

/-- What is appended: one element, laid into a block of its own. -/
theorem Src.oneC (hcf : ∀ x, (cf x).length = sz) (h1 : ∀ x, ∀ u ∈ cf x, u.oneCell' = true) {P : Program} {w : World} {t e : TypeId} (ht : P.underlying t = some (.slice e)) {b c : Nat} {x : α} (h : Blk w b (cf x)) :
    Src P sz t (.slice (some ⟨b, 0, none⟩) 1 c) [x].length ([x].flatMap cf) w := by
  refine Src.ofSlice w ht _ _ _ _ (by simp [hcf]) (fun j u hu => ?_) (by simpa using h1 x)
  rw [add_at, Nat.zero_add]
  exact h.cell (by simpa using hu)
end

/-- A value of the format's plain types, as it is given. -/
structure Vq where
  null : Bool
  num : Nat
  text : ByteArray
  ka : Option Addr
  kl : Nat
  kc : Nat

def Vq.cells (q : Vq) : List Value := [.bool q.null, .int .u64 (q.num : Int), .string q.text, .slice q.ka q.kl q.kc]
theorem Vq.cells_length (q : Vq) : q.cells.length = 4 := rfl
theorem Vq.cells_one (q : Vq) : ∀ u ∈ q.cells, u.oneCell' = true := by
  intro u hu
  simp [Vq.cells] at hu
  rcases hu with rfl | rfl | rfl | rfl <;> rfl

/-- A slice of values. -/
def ValsAt (w : World) (v : Value) (l : List Vq) : Prop :=
  ∃ ao cap, v = .slice ao l.length cap ∧ l.length ≤ cap ∧ ∀ (i : Nat) (q : Vq), l[i]? = some q → ∃ a : Addr, ao = some a ∧ w.cell? (a.add (i * 4)) = some (.bool q.null) ∧ w.cell? ⟨(a.add (i * 4)).block, (a.add (i * 4)).off + 1, none⟩ = some (.int .u64 (q.num : Int)) ∧
    w.cell? ⟨(a.add (i * 4)).block, (a.add (i * 4)).off + 2, none⟩ = some (.string q.text) ∧ w.cell? ⟨(a.add (i * 4)).block, (a.add (i * 4)).off + 3, none⟩ = some (.slice q.ka q.kl q.kc)

theorem ValsAt.keep {w w' : World} {v : Value} {l : List Vq} (h : ValsAt w v l) (kk : Keep [] w w') : ValsAt w' v l := by
  obtain ⟨ao, cap, h1, h2, h3⟩ := h
  refine ⟨ao, cap, h1, h2, fun i q hq => ?_⟩
  obtain ⟨a, e, c0, c1, c2, c3⟩ := h3 i q hq
  exact ⟨a, e, kk.cell_some c0 (by simp), kk.cell_some c1 (by simp), kk.cell_some c2 (by simp), kk.cell_some c3 (by simp)⟩

theorem GrowC.vals {lo : Nat} {avoid : List Nat} {w : World} {v : Value} {l : List Vq} (h : GrowC Vq.cells 4 lo avoid w v l) : ValsAt w v l := by
  obtain ⟨ao, c, hv, hl⟩ := h.shape
  refine ⟨ao, c, hv, hl, fun i q hq => ?_⟩
  obtain ⟨g, c', h0, e0⟩ := h.cell Vq.cells_length hq (j := 0) rfl
  obtain ⟨g1, c1, h1, e1⟩ := h.cell Vq.cells_length hq (j := 1) rfl
  obtain ⟨g2, c2, h2, e2⟩ := h.cell Vq.cells_length hq (j := 2) rfl
  obtain ⟨g3, c3, h3, e3⟩ := h.cell Vq.cells_length hq (j := 3) rfl
  rw [h0] at hv h1 h2 h3
  simp at hv h1 h2 h3
  obtain ⟨rfl, rfl⟩ := h1
  obtain ⟨rfl, rfl⟩ := h2
  obtain ⟨rfl, rfl⟩ := h3
  refine ⟨⟨g, 0, none⟩, hv.1.symm, ?_⟩
  rw [add_at, Nat.zero_add]
  exact ⟨by simpa using e0, e1, e2, e3⟩

theorem info_val : (Tryz.prog.info? 45).map (fun i => (i.size, i.bytes, i.zero.map (·.cells.size))) = some (4, 56, some 4) := by kernel_rfl

theorem info_val_parts : ∃ i, Tryz.prog.info? 45 = some i ∧ (∃ z, i.zero = some z ∧ z.cells.size = 4) ∧ i.size = 4 ∧ i.bytes = 56 := by
  have h := info_val
  cases hi : Tryz.prog.info? 45 with
  | none => rw [hi] at h; cases h
  | some i =>
    rw [hi] at h
    simp at h
    obtain ⟨h1, h2, z, h3, h4⟩ := h
    exact ⟨i, rfl, ⟨z, h3, h4⟩, h1, h2⟩
end Go.Proofs.YtlolcgklcnechaaGreatDoor
set_option linter.unusedVariables false
set_option linter.unusedSimpArgs false
namespace Go.Proofs.YtlolcgklcnechaaGreatDoor
open Go.RowKit

def dq : Vq := ⟨false, 0, ⟨#[]⟩, none, 0, 0⟩

/-- The values that stand at these places. -/
def pick (l : List Vq) (ks : List Nat) : List Vq := ks.map fun k => l.getD k dq

theorem pick_snoc {l : List Vq} {ks : List Nat} {j k : Nat} (hk : ks[j]? = some k) : pick l (ks.take (j + 1)) = pick l (ks.take j) ++ [l.getD k dq] := by
  have hj : j < ks.length := by
    rcases Nat.lt_or_ge j ks.length with h | h
    · exact h
    · rw [List.getElem?_eq_none h] at hk; cases hk
  rw [List.take_succ_eq_append_getElem hj]
  rw [List.getElem?_eq_getElem hj] at hk
  rw [Option.some.inj hk]
  simp [pick]

def IndexedPost (l : List Vq) (ks : List Nat) (w : World) (e : Ending) (w' : World) : Prop :=
  ∃ v ok, e = .returned (.tuple #[v, .bool ok]) ∧ Keep [] w w' ∧ (ok = true → (∀ k ∈ ks, k < l.length) ∧ GrowC Vq.cells 4 w.heap.size [] w' v (pick l ks)) ∧ (ok = false → v = .slice none 0 0)

set_option maxRecDepth 100000 in
set_option maxHeartbeats 2000000 in
theorem indexedC (v lv : Value) (l : List Vq) (ks : List Nat) (w : World) (hV : ValsAt w v l) (hR : RowAt w lv .u64 ks) (hn : l.length ≤ 2147483647) (hm : ks.length ≤ 100000) (hu : ∀ k ∈ ks, k < 18446744073709551616) :
    Calls Tryz.prog 18 #[v, lv] w fun e w' => IndexedPost l ks w e w' := by
  obtain ⟨ao, cap, rfl, hc, hcell⟩ := hV
  obtain ⟨bo, bcap, rfl, hbc, hbcell⟩ := hR.open
  obtain ⟨n, hn'⟩ : ∃ n, n = l.length := ⟨_, rfl⟩
  obtain ⟨m, hm'⟩ : ∃ m, m = ks.length := ⟨_, rfl⟩
  rw [← hn'] at hn hc ⊢
  rw [← hm'] at hm hbc ⊢
  obtain ⟨i0, hi, hz, hsz, hby⟩ := info_val_parts
  have Hn := Lib.hid (And.intro hn' hm')
  have Hc := Lib.hid hcell
  have Hbc := Lib.hid hbcell
  have Hu := Lib.hid hu
  clear hn' hm' hcell hbcell hR hu
  go_enter Tryz.func18, Tryz.ntmps18
  go_wp2_with fail
  go_loopw [11, 6] (fun i ov wr => ∃ j : Nat, j ≤ m ∧ i = .int .i64 (j : Int) ∧ Keep [] w wr ∧ (∀ k ∈ ks.take j, k < n) ∧ GrowC Vq.cells 4 w.heap.size [] wr ov (pick l (ks.take j))) (fun i _ _ => m - (intOf i).toNat)
  case atStart => exact ⟨0, Nat.zero_le _, rfl, Keep.refl _ _, by simp, .inl ⟨rfl, rfl⟩⟩
  case round =>
    obtain ⟨j, hj, rfl, kk, hin, hG⟩ := hrel
    obtain ⟨oa, oc, rfl, -⟩ := hG.shape
    obtain ⟨N, hN⟩ : ∃ N, N = (pick l (ks.take j)).length := ⟨_, rfl⟩
    have hNj : N ≤ j := by rw [hN]; simp [pick]; omega
    rw [← hN] at hG ⊢
    have HG := Lib.hid (And.intro hG (And.intro hin hN))
    clear hG hin hN
    by_cases hj2 : j < m
    · obtain ⟨k, hk⟩ : ∃ k, ks[j]? = some k := ⟨ks[j]'(by rw [← Hn.out.2]; exact hj2), by simp⟩
      obtain ⟨b, rfl, hcb⟩ := Hbc.out j k hk
      have hcb := kk.cell_some hcb (by simp)
      have hku := Hu.out k (List.mem_of_getElem? hk)
      have hnext := pick_snoc (l := l) hk
      have hin2 : k < n → ∀ y ∈ ks.take (j + 1), y < n := fun h y hy => by
        rw [List.take_succ_eq_append_getElem (by rw [← Hn.out.2]; exact hj2), List.mem_append, List.mem_singleton] at hy
        rcases hy with hy | rfl
        · exact HG.out.2.1 y hy
        · rw [List.getElem?_eq_getElem (by rw [← Hn.out.2]; exact hj2)] at hk
          rw [Option.some.inj hk]; exact h
      have Hnx := Lib.hid (And.intro hnext hin2)
      clear hk hnext hin2
      by_cases hkn : k < n
      · have hki : ¬ (n : Int) ≤ (k : Int) := by omega
        obtain ⟨q, hq⟩ : ∃ q, l[k]? = some q := ⟨l[k]'(by rw [← Hn.out.1]; exact hkn), by simp⟩
        obtain ⟨a, rfl, c0, c1, c2, c3⟩ := Hc.out k q hq
        have d0 := kk.cell_some c0 (by simp)
        have d1 := kk.cell_some c1 (by simp)
        have d2 := kk.cell_some c2 (by simp)
        have d3 := kk.cell_some c3 (by simp)
        have hgd : l.getD k dq = q := by simp [List.getD, hq]
        have Hq := Lib.hid hgd
        clear c0 c1 c2 c3 hgd hq
        obtain ⟨qn, qm, qt, qa, ql, qc⟩ := q
        simp only at d0 d1 d2 d3
        go_wp2_with (at_builtin; refine halt ?_)
        refine Lib.hid ?_
        refine wpList_append_growC Vq.cells_length (by omega) rfl _ _ 34 _ rfl i0 56 Tryz.underlying34 hi hz hsz hby rfl (HG.out.1.keep (S := []) ((Keep.refl [] wr).alloc _) (by simp)) (by simp; exact Nat.le_succ_of_le kk.size) (by simp) _ [⟨qn, qm, qt, qa, ql, qc⟩] rfl (Src.oneC Vq.cells_length Vq.cells_one Tryz.underlying34 (Blk.new wr (Vq.cells ⟨qn, qm, qt, qa, ql, qc⟩) _)) (by rw [← HG.out.2.2]; simp; omega) (by rw [← HG.out.2.2]; simp; omega) ?_
        intro v5 w5 S hG5 k5 hS5
        have K5 : Keep [] w w5 := (kk.alloc _).trans k5 (fun b hb => .inr (hS5 b hb).1)
        have HG5 := Lib.hid hG5
        clear hG5 k5 hS5
        go_wp2
        go_roundw
        case rel =>
          refine ⟨j + 1, hj2, by go_num, K5, Hnx.out.2 hkn, ?_⟩
          rw [Hnx.out.1, Hq.out]
          exact HG5.out
        case measure => simp [intOf]; omega
      · have hki : (n : Int) ≤ (k : Int) := by omega
        go_wp2
        go_ret2
        unfold IndexedPost; exact ⟨_, false, rfl, kk, by simp, fun _ => rfl⟩
    · have hjm : m = j := by omega
      subst hjm
      go_wp2
      go_ret2
      obtain ⟨hG, hin, hN⟩ := HG.out
      rw [List.take_of_length_le (by rw [← Hn.out.2]; exact Nat.le_refl _)] at hin hG
      unfold IndexedPost; exact ⟨.slice oa N oc, true, rfl, kk, fun _ => ⟨fun k hk => by rw [← Hn.out.1]; exact hin k hk, hG⟩, by simp⟩

theorem range_take (n k : Nat) (hk : k < n) : (List.range n).take (k + 1) = (List.range n).take k ++ [k] := by
  rw [List.take_succ_eq_append_getElem (by simpa using hk)]
  simp

set_option maxRecDepth 100000 in
set_option maxHeartbeats 1000000 in
theorem counted0C (n : Nat) (w : World) (hn : n ≤ 100000) :
    Calls Tryz.prog 64 #[.int .i64 (n : Int)] w fun e w' => ∃ v, e = .returned v ∧ Keep [] w w' ∧ GrowS w.heap.size [] w' v .u64 (List.range n) := by
  obtain ⟨i0, hi, hz0, hz1, hz2⟩ := info_parts info_u64
  go_enter Tryz.func64, Tryz.ntmps64
  go_wp2_with fail
  go_loopw [4, 3] (fun i ov wr => ∃ k : Nat, k ≤ n ∧ i = .int .i64 (k : Int) ∧ Keep [] w wr ∧ GrowS w.heap.size [] wr ov .u64 ((List.range n).take k)) (fun i _ _ => n - (intOf i).toNat)
  case atStart => exact ⟨0, Nat.zero_le _, rfl, Keep.refl _ _, .inl ⟨rfl, rfl⟩⟩
  case round =>
    obtain ⟨k, hk, rfl, kk, hG⟩ := hrel
    have hG' := hG
    obtain ⟨oa, oc, rfl, -, -⟩ := hG.row.open
    obtain ⟨N, hN⟩ : ∃ N, N = ((List.range n).take k).length := ⟨_, rfl⟩
    have hNk : N ≤ k := by rw [hN]; simp; omega
    rw [← hN] at hG' ⊢
    have HG := Lib.hid (And.intro hG' hN)
    clear hG hG' hN
    by_cases hk2 : k < n
    · have hki : (k : Int) < (n : Int) := by omega
      go_wp2_with (at_builtin; refine halt ?_)
      refine Lib.hid ?_
      refine wpList_append_grow rfl _ _ 22 _ rfl i0 8 Tryz.underlying22 hi hz0 hz1 hz2 rfl (HG.out.1.keep (S := []) ((Keep.refl [] wr).alloc _) (by simp)) (by simp; exact Nat.le_succ_of_le kk.size) (by simp) _ [k] rfl (Src.blk Tryz.underlying22 (Blk.new wr (rowV .u64 [k]) _) rfl rfl) (by rw [← HG.out.2]; simp; omega) (by rw [← HG.out.2]; simp; omega) ?_
      intro v5 w5 S hG5 k5 hS5
      have K5 : Keep [] w w5 := (kk.alloc _).trans k5 (fun b hb => .inr (hS5 b hb).1)
      have HG5 := Lib.hid hG5
      clear hG5 k5 hS5
      go_wp2
      go_roundw
      case rel =>
        refine ⟨k + 1, hk2, by go_num, K5, ?_⟩
        rw [range_take n k hk2]
        exact HG5.out
      case measure => simp [intOf]; omega
    · have hkn : n = k := by omega
      subst hkn
      go_wp2
      go_ret
      refine ⟨_, rfl, kk, ?_⟩
      have := HG.out.1
      rwa [List.take_of_length_le (by simp)] at this
end Go.Proofs.YtlolcgklcnechaaGreatDoor
set_option linter.unusedVariables false
set_option linter.unusedSimpArgs false
namespace Go.Proofs.YtlolcgklcnechaaGreatDoor
open Go.RowKit

/-- A number alone. -/
def Vq.Plain (q : Vq) (x : Nat) : Prop := q.null = false ∧ q.num = x ∧ q.text = ⟨#[]⟩ ∧ q.kl = 0

set_option maxRecDepth 100000 in
theorem sameValues0 (a b : Option Addr) (c d : Nat) (w : World) :
    Calls Tryz.prog 22 #[.slice a 0 c, .slice b 0 d] w fun e w' => e = .returned (.bool true) ∧ Keep [] w w' := by
  go_enter Tryz.func22, Tryz.ntmps22
  go_wp2_with fail
  go_loopw [13] (fun i wr => i = .int .i64 0 ∧ w = wr) (fun i _ => 0)
  case atStart => exact ⟨rfl, rfl⟩
  case round =>
    obtain ⟨rfl, rfl⟩ := hrel
    go_wp2
    go_ret
    exact ⟨rfl, Keep.refl _ _⟩

set_option maxRecDepth 100000 in
theorem sameValueC (p q : Vq) (x : Nat) (w : World) (hp : p.Plain x) (hq : q.Plain x) :
    Calls Tryz.prog 16 #[.agg #[.bool p.null, .int .u64 (p.num : Int), .string p.text, .slice p.ka p.kl p.kc], .agg #[.bool q.null, .int .u64 (q.num : Int), .string q.text, .slice q.ka q.kl q.kc]] w fun e w' => e = .returned (.bool true) ∧ Keep [] w w' := by
  obtain ⟨pn, pm, pt, pa, pl, pc⟩ := p
  obtain ⟨qn, qm, qt, qa, ql, qc⟩ := q
  obtain ⟨h1, h2, h3, h4⟩ := hp
  obtain ⟨g1, g2, g3, g4⟩ := hq
  simp only at h1 h2 h3 h4 g1 g2 g3 g4 ⊢
  subst h1 h2 h3 h4 g1 g3 g4
  subst g2
  go_enter Tryz.func16, Tryz.ntmps16
  go_wp2_with fail
  refine (sameValues0 _ _ _ _ _).mono ?_
  rintro e w2 ⟨rfl, k2⟩
  go_wp2
  go_ret
  exact ⟨rfl, (((Keep.refl [] w).alloc _).alloc _).trans k2 (by simp)⟩

set_option maxRecDepth 100000 in
set_option maxHeartbeats 1000000 in
theorem sameValuesC (v1 v2 : Value) (l1 l2 : List Vq) (xs : List Nat) (w : World) (h1 : ValsAt w v1 l1) (h2 : ValsAt w v2 l2) (e1 : l1.length = xs.length) (e2 : l2.length = xs.length) (hn : xs.length ≤ 2147483647)
    (p1 : ∀ (i x : Nat) (q : Vq), xs[i]? = some x → l1[i]? = some q → q.Plain x) (p2 : ∀ (i x : Nat) (q : Vq), xs[i]? = some x → l2[i]? = some q → q.Plain x) :
    Calls Tryz.prog 22 #[v1, v2] w fun e w' => e = .returned (.bool true) ∧ Keep [] w w' := by
  obtain ⟨ao, cap, rfl, hc, hcell⟩ := h1
  obtain ⟨bo, bcap, rfl, hbc, hbcell⟩ := h2
  obtain ⟨n, hn'⟩ : ∃ n, n = xs.length := ⟨_, rfl⟩
  rw [e1] at hc ⊢
  rw [e2] at hbc ⊢
  rw [← hn'] at hn hc hbc ⊢
  have Hn := Lib.hid (And.intro hn' (And.intro e1 e2))
  have Hc := Lib.hid hcell
  have Hbc := Lib.hid hbcell
  have Hp := Lib.hid (And.intro p1 p2)
  clear hn' e1 e2 hcell hbcell p1 p2
  go_enter Tryz.func22, Tryz.ntmps22
  go_wp2_with fail
  go_loopw [13] (fun i wr => ∃ k : Nat, k ≤ n ∧ i = .int .i64 (k : Int) ∧ Keep [] w wr) (fun i _ => n - (intOf i).toNat)
  case atStart => exact ⟨0, Nat.zero_le _, rfl, Keep.refl _ _⟩
  case round =>
    obtain ⟨k, hk, rfl, kk⟩ := hrel
    by_cases hk2 : k < n
    · obtain ⟨hnx, e1, e2⟩ := Hn.out
      obtain ⟨x, hx⟩ : ∃ x, xs[k]? = some x := ⟨xs[k]'(by omega), by simp⟩
      obtain ⟨p, hp⟩ : ∃ p, l1[k]? = some p := ⟨l1[k]'(by omega), by simp⟩
      obtain ⟨q, hq⟩ : ∃ q, l2[k]? = some q := ⟨l2[k]'(by omega), by simp⟩
      have hS := fun w => sameValueC p q x w (Hp.out.1 k x p hx hp) (Hp.out.2 k x q hx hq)
      obtain ⟨a, rfl, c0, c1, c2, c3⟩ := Hc.out k p hp
      obtain ⟨b, rfl, d0, d1, d2, d3⟩ := Hbc.out k q hq
      have f0 := kk.cell_some c0 (by simp)
      have f1 := kk.cell_some c1 (by simp)
      have f2 := kk.cell_some c2 (by simp)
      have f3 := kk.cell_some c3 (by simp)
      have g0 := kk.cell_some d0 (by simp)
      have g1 := kk.cell_some d1 (by simp)
      have g2 := kk.cell_some d2 (by simp)
      have g3 := kk.cell_some d3 (by simp)
      clear c0 c1 c2 c3 d0 d1 d2 d3 hx hp hq hnx e1 e2
      obtain ⟨pn, pm, pt, pa, pl, pc⟩ := p
      obtain ⟨qn, qm, qt, qa, ql, qc⟩ := q
      simp only at f0 f1 f2 f3 g0 g1 g2 g3 hS
      go_wp2_with fail
      go_region_with (go_at_call 16; refine (hS _).mono ?_; rintro e w3 ⟨rfl, k3⟩)
      all_goals
        go_wp2
        go_roundw
        case rel => exact ⟨k + 1, hk2, by go_num, kk.drew.trans k3 (by simp)⟩
        case measure => simp [intOf]; omega
    · have hkn : n = k := by omega
      subst hkn
      go_wp2
      go_ret
      exact ⟨rfl, kk⟩
end Go.Proofs.YtlolcgklcnechaaGreatDoor
