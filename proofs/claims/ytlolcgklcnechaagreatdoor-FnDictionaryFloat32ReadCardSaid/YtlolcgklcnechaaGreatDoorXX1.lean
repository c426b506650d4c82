/- The runs among the law's arguments; laws.zzFits5. spec.PutVLQ. spec.PackBits. spec.RunsFit. -/
import Derived.Test.YtlolcgklcnechaaGreatDoorL1
import Derived.Deep.DeepCutAuto
import Derived.Test.YtlolcgklcnechaaGreatDoorW5
import Derived.Test.YtlolcgklcnechaaGreatDoorE4
set_option linter.unusedVariables false
set_option linter.unusedSimpArgs false
namespace Go.Proofs.YtlolcgklcnechaaGreatDoor
open Go.RowKit

/-- A run as it is given. -/
structure Rq where
  packed : Bool
  count : Int
  vs : List Nat

/-- A slice of runs. -/
def RunsAt (w : World) (v : Value) (rs : List Rq) : Prop :=
  ∃ ao cap, v = .slice ao rs.length cap ∧ rs.length ≤ cap ∧ ∀ (i : Nat) (r : Rq), rs[i]? = some r → ∃ (a : Addr) (lv : Value), ao = some a ∧ w.cell? (a.add (i * 3)) = some (.bool r.packed) ∧ w.cell? ⟨(a.add (i * 3)).block, (a.add (i * 3)).off + 1, none⟩ = some (.int .i64 r.count) ∧ w.cell? ⟨(a.add (i * 3)).block, (a.add (i * 3)).off + 2, none⟩ = some lv ∧ RowAt w lv .u64 r.vs

theorem RunsAt.keep {w w' : World} {v : Value} {rs : List Rq} (h : RunsAt w v rs) (kk : Keep [] w w') : RunsAt w' v rs := by
  obtain ⟨ao, cap, h1, h2, h3⟩ := h
  refine ⟨ao, cap, h1, h2, fun i r hr => ?_⟩
  obtain ⟨a, lv, e, c0, c1, c2, hl⟩ := h3 i r hr
  exact ⟨a, lv, e, kk.cell_some c0 (by simp), kk.cell_some c1 (by simp), kk.cell_some c2 (by simp), hl.keep kk⟩

theorem info_run : (Tryz.prog.info? 96).map (fun i => (i.size, i.bytes)) = some (3, 40) := by kernel_rfl

def Fits5Post (rs : List Rq) (w : World) (e : Ending) (w' : World) : Prop := ∃ b : Bool, e = .returned (.bool b) ∧ Keep [] w w' ∧ (b = true → rs.length ≤ 2147483647 ∧ ∀ r ∈ rs, r.vs.length ≤ 2147483647)

set_option maxRecDepth 100000 in
theorem fits6C (p : Bool) (c : Int) (ao : Option Addr) (n cap : Nat) (w : World) :
    Calls Tryz.prog 47 #[.agg #[.bool p, .int .i64 c, .slice ao n cap]] w fun e w' => e = .returned (.bool (decide (n ≤ 2147483647))) ∧ Keep [] w w' := by
  by_cases h : 2147483647 < n
  · have hi : (2147483647 : Int) < (n : Int) := by omega
    rw [decide_eq_false (by omega)]
    go_enter Tryz.func47, Tryz.ntmps47
    go_wp2
    go_ret
    exact ⟨rfl, (Keep.refl _ _).alloc _⟩
  · have hi : ¬ (2147483647 : Int) < (n : Int) := by omega
    rw [decide_eq_true (by omega)]
    go_enter Tryz.func47, Tryz.ntmps47
    go_wp2
    go_ret
    exact ⟨rfl, (Keep.refl _ _).alloc _⟩

set_option maxRecDepth 100000 in
set_option maxHeartbeats 1000000 in
theorem fits5C (v : Value) (rs : List Rq) (w : World) (hP : RunsAt w v rs) :
    Calls Tryz.prog 13 #[v] w fun e w' => Fits5Post rs w e w' := by
  obtain ⟨ao, cap, rfl, hc, hcell⟩ := hP
  obtain ⟨n, hn'⟩ : ∃ n, n = rs.length := ⟨_, rfl⟩
  rw [← hn'] at hc ⊢
  have Hn := Lib.hid hn'
  have Hc := Lib.hid hcell
  clear hn' hcell
  by_cases hbig : 2147483647 < n
  · have hbi : (2147483647 : Int) < (n : Int) := by omega
    go_enter Tryz.func13, Tryz.ntmps13
    go_wp2
    go_ret
    unfold Fits5Post
    exact ⟨false, rfl, Keep.refl _ _, by simp⟩
  have hbi : ¬ (2147483647 : Int) < (n : Int) := by omega
  go_enter Tryz.func13, Tryz.ntmps13
  go_wp2_with fail
  go_loopw [10] (fun i wr => ∃ k : Nat, k ≤ n ∧ i = .int .i64 (k : Int) ∧ Keep [] w wr ∧ ∀ r ∈ rs.take k, r.vs.length ≤ 2147483647) (fun i _ => n - (intOf i).toNat)
  case atStart => exact ⟨0, Nat.zero_le _, rfl, Keep.refl _ _, by simp⟩
  case round =>
    obtain ⟨k, hk, rfl, kk, hsm⟩ := hrel
    by_cases hk2 : k < n
    · obtain ⟨r, hr⟩ : ∃ r, rs[k]? = some r := ⟨rs[k]'(by rw [← Hn.out]; exact hk2), by simp⟩
      obtain ⟨a, lv, rfl, c0, c1, c2, hl⟩ := Hc.out k r hr
      obtain ⟨ao2, cap2, rfl, -, -⟩ := hl.open
      have c0 := kk.cell_some c0 (by simp)
      have c1 := kk.cell_some c1 (by simp)
      have c2 := kk.cell_some c2 (by simp)
      have step : r.vs.length ≤ 2147483647 → ∀ y ∈ rs.take (k + 1), y.vs.length ≤ 2147483647 := fun hlt y hy => by
        rw [List.take_succ_eq_append_getElem (by rw [← Hn.out]; exact hk2), List.mem_append, List.mem_singleton] at hy
        rcases hy with hy | rfl
        · exact hsm y hy
        · rw [List.getElem?_eq_getElem (by rw [← Hn.out]; exact hk2)] at hr
          rw [Option.some.inj hr]; exact hlt
      have Hstep := Lib.hid step
      obtain ⟨pk, ct, vs⟩ := r
      obtain ⟨m, hm⟩ : ∃ m, m = vs.length := ⟨_, rfl⟩
      simp only [← hm] at c2 hl Hstep
      clear step hsm hr hm hl
      go_wp2_with fail
      refine (fits6C pk ct ao2 m cap2 _).mono ?_
      by_cases hmb : m ≤ 2147483647
      · rw [decide_eq_true hmb]
        rintro e w3 ⟨rfl, k3⟩
        go_wp2
        go_roundw
        case rel => exact ⟨k + 1, hk2, by go_num, (kk.alloc _).trans k3 (by simp), Hstep.out hmb⟩
        case measure => simp [intOf]; omega
      · rw [decide_eq_false hmb]
        rintro e w3 ⟨rfl, k3⟩
        go_wp2
        go_ret
        unfold Fits5Post
        exact ⟨false, rfl, (kk.alloc _).trans k3 (by simp), by simp⟩
    · have hkn : k = n := by omega
      subst hkn
      have Hsm := Lib.hid hsm
      clear hsm
      go_wp2
      go_ret
      unfold Fits5Post
      refine ⟨true, rfl, kk, fun _ => ⟨by rw [← Hn.out]; omega, ?_⟩⟩
      have := Hsm.out
      rwa [List.take_of_length_le (by rw [← Hn.out]; exact Nat.le_refl _)] at this
end Go.Proofs.YtlolcgklcnechaaGreatDoor
set_option linter.unusedVariables false
set_option linter.unusedSimpArgs false
namespace Go.Proofs.YtlolcgklcnechaaGreatDoor
open Go.RowKit

set_option maxRecDepth 100000 in
set_option maxHeartbeats 1000000 in
theorem putVlqC (m : Nat) (w : World) (hm : m < 1099511627776) :
    Calls Tryz.prog 107 #[.int .u64 (m : Int)] w fun e w' => ∃ v, e = .returned v ∧ Keep [] w w' ∧ GrowS w.heap.size [] w' v .u8 (vlq m) := by
  obtain ⟨i0, hi, hz0, hz1, hz2⟩ := info_parts info_u8
  go_enter Tryz.func107, Tryz.ntmps107
  go_wp2_with fail
  go_loopw [3, 0] (fun ov u wr => ∃ (l : List Nat) (y : Nat), u = .int .u64 (y : Int) ∧ y ≤ m ∧ vlq m = l ++ vlq y ∧ Keep [] w wr ∧ GrowS w.heap.size [] wr ov .u8 l) (fun _ u _ => (intOf u).toNat)
  case atStart => exact ⟨[], m, rfl, Nat.le_refl _, rfl, Keep.refl _ _, .inl ⟨rfl, rfl⟩⟩
  case round =>
    obtain ⟨l, y, rfl, hy, hv, kk, hG⟩ := hrel
    have hlen : l.length ≤ 6 := by
      have h1 := congrArg List.length hv
      have h2 := vlq_length 5 m (by omega)
      rw [List.length_append] at h1
      omega
    have hG' := hG
    obtain ⟨oa, oc, rfl, -, -⟩ := hG.row.open
    obtain ⟨N, hN⟩ : ∃ N, N = l.length := ⟨_, rfl⟩
    rw [← hN] at hlen hG' ⊢
    have HN := Lib.hid hN
    have HG := Lib.hid hG'
    have Hv := Lib.hid hv
    clear hv hG hG' hN
    by_cases hlt : y < 128
    · have hle : ¬ (128 : Int) ≤ (y : Int) := by omega
      have hw : IntKind.u8.wrap (y : Int) = (y : Int) := by rw [IntKind.wrap_u8]; omega
      go_wp2_with (at_builtin; refine halt ?_)
      refine Lib.hid ?_
      refine wpList_append_grow rfl _ _ 28 _ rfl i0 1 Tryz.underlying28 hi hz0 hz1 hz2 rfl (HG.out.keep (S := []) ((Keep.refl [] wr).alloc _) (by simp)) (by simp; exact Nat.le_succ_of_le kk.size) (by simp) _ [y] rfl (Src.blk Tryz.underlying28 (Blk.new wr (rowV .u8 [y]) _) rfl rfl) (by rw [← HN.out]; simp; omega) (by rw [← HN.out]; simp; omega) ?_
      intro v2 w5 S hG5 k5 hS5
      have K5 : Keep [] w w5 := (kk.alloc _).trans k5 (fun b hb => .inr (hS5 b hb).1)
      have HG5 := Lib.hid hG5
      clear hG5 k5 hS5
      go_wp2
      go_ret
      exact ⟨_, rfl, K5, by rw [Hv.out, vlq_small hlt]; exact HG5.out⟩
    · have hle : (128 : Int) ≤ (y : Int) := by omega
      obtain ⟨b, hb⟩ : ∃ b, b = y % 128 + 128 := ⟨_, rfl⟩
      obtain ⟨z, hz⟩ : ∃ z, z = y / 128 := ⟨_, rfl⟩
      have hw : bits .or .u8 ((y : Int) % 256) 128 = (b : Int) := by rw [or128, hb]
      have hz2' : (y : Int) / 128 = (z : Int) := by omega
      have Hb := Lib.hid (And.intro hb hz)
      clear hb hz
      go_wp2_with (at_builtin; refine halt ?_)
      refine Lib.hid ?_
      refine wpList_append_grow rfl _ _ 28 _ rfl i0 1 Tryz.underlying28 hi hz0 hz1 hz2 rfl (HG.out.keep (S := []) ((Keep.refl [] wr).alloc _) (by simp)) (by simp; exact Nat.le_succ_of_le kk.size) (by simp) _ [b] rfl (Src.blk Tryz.underlying28 (Blk.new wr (rowV .u8 [b]) _) rfl rfl) (by rw [← HN.out]; simp; omega) (by rw [← HN.out]; simp; omega) ?_
      intro v2 w5 S hG5 k5 hS5
      have K5 : Keep [] w w5 := (kk.alloc _).trans k5 (fun b hb => .inr (hS5 b hb).1)
      have HG5 := Lib.hid hG5
      clear hG5 k5 hS5
      go_wp2
      go_roundw
      case rel =>
        obtain ⟨hb, hz⟩ := Hb.out
        refine ⟨l ++ [b], z, by go_num, by omega, ?_, K5, HG5.out⟩
        rw [Hv.out, vlq_big hlt, List.append_assoc, ← hb, ← hz]
        rfl
      case measure =>
        obtain ⟨hb, hz⟩ := Hb.out
        simp [intOf]; omega
end Go.Proofs.YtlolcgklcnechaaGreatDoor
set_option linter.unusedVariables false
set_option linter.unusedSimpArgs false
namespace Go.Proofs.YtlolcgklcnechaaGreatDoor
open Go.RowKit

theorem leBytes_get : ∀ (L n k : Nat), k < L → (leBytes L n)[k]? = some (n / 256 ^ k % 256)
  | L + 1, n, 0, _ => by simp [leBytes]
  | L + 1, n, k + 1, h => by
    rw [leBytes, List.getElem?_cons_succ, leBytes_get L (n / 256) k (by omega), Nat.div_div_eq_div_mul, Nat.pow_succ, Nat.mul_comm]

theorem leBytes_bit (L n i : Nat) (hn : n < 2 ^ i) (hi : i < 8 * L) : leBytes L (n + 2 ^ i) = (leBytes L n).set (i / 8) (n / 256 ^ (i / 8) % 256 + 2 ^ (i % 8)) := by
  apply List.ext_getElem?
  intro k
  have h256 : ∀ k, (256 : Nat) ^ k = 2 ^ (8 * k) := fun k => by rw [show (256 : Nat) = 2 ^ 8 from rfl, ← Nat.pow_mul]
  by_cases hk : k < L
  · rw [List.getElem?_set, leBytes_get _ _ _ hk]
    rcases Nat.lt_trichotomy k (i / 8) with h | h | h
    · rw [if_neg (by omega), leBytes_get _ _ _ hk]
      congr 1
      have e : 2 ^ i = 256 ^ k * (256 * 2 ^ (i - 8 * k - 8)) := by
        rw [show (256 : Nat) * 2 ^ (i - 8 * k - 8) = 2 ^ (8 + (i - 8 * k - 8)) by rw [Nat.pow_add], h256, ← Nat.pow_add]; congr 1; omega
      rw [e, Nat.add_mul_div_left _ _ (Nat.pow_pos (by omega)), Nat.add_mul_mod_self_left]
    · subst h
      rw [if_pos rfl, if_pos (by simpa using hk)]
      congr 1
      have e : 2 ^ i = 256 ^ (i / 8) * 2 ^ (i % 8) := by rw [h256, ← Nat.pow_add]; congr 1; omega
      have h1 : n / 256 ^ (i / 8) < 2 ^ (i % 8) := Nat.div_lt_of_lt_mul (by rw [← e]; exact hn)
      have h2 : 2 ^ (i % 8) ≤ 2 ^ 7 := Nat.pow_le_pow_right (by omega) (by omega)
      rw [e, Nat.add_mul_div_left _ _ (Nat.pow_pos (by omega)), Nat.mod_eq_of_lt (show n / 256 ^ (i / 8) + 2 ^ (i % 8) < 256 by omega), Nat.mod_eq_of_lt (show n / 256 ^ (i / 8) < 256 by omega)]
    · rw [if_neg (by omega), leBytes_get _ _ _ hk]
      congr 1
      have h1 : 2 ^ (i + 1) ≤ 256 ^ k := by rw [h256]; exact Nat.pow_le_pow_right (by omega) (by omega)
      have h2 : 2 ^ (i + 1) = 2 ^ i + 2 ^ i := by rw [Nat.pow_succ]; omega
      rw [Nat.div_eq_of_lt (by omega), Nat.div_eq_of_lt (by omega)]
  · rw [List.getElem?_eq_none (by simp; omega), List.getElem?_eq_none (by simp; omega)]

theorem mod_bit (a W j : Nat) (hj : j < W) : a % 2 ^ W / 2 ^ j % 2 = a / 2 ^ j % 2 := by
  have e : 2 ^ W = 2 ^ j * 2 ^ (W - j) := by rw [← Nat.pow_add]; congr 1; omega
  rw [e, Nat.mod_mul_right_div_self, Nat.mod_mod_of_dvd]
  exact ⟨2 ^ (W - j - 1), by rw [← Nat.pow_succ']; congr 1; omega⟩

theorem packN_bit {W : Nat} {l : List Nat} {i v : Nat} (hW : 0 < W) (hs : ∀ v ∈ l, v < 2 ^ W) (hv : l[i / W]? = some v) : packN W l / 2 ^ i % 2 = v / 2 ^ (i % W) % 2 := by
  have h := packN_get hs hv
  rw [← h, mod_bit _ _ _ (Nat.mod_lt _ hW), Nat.div_div_eq_div_mul, ← Nat.pow_add, Nat.div_add_mod]

theorem mod_next (n i : Nat) : n % 2 ^ (i + 1) = n % 2 ^ i + n / 2 ^ i % 2 * 2 ^ i := by
  rw [Nat.mod_pow_succ, Nat.mul_comm]

theorem shl_u8 (j : Nat) (hj : j < 8) : IntKind.u8.wrap (2 ^ j : Int) = ((2 ^ j : Nat) : Int) := by
  have h2 : 2 ^ j ≤ 2 ^ 7 := Nat.pow_le_pow_right (by omega) (by omega)
  rw [IntKind.wrap_u8, Int.natCast_pow]
  have e : ((2 : Nat) : Int) ^ j = ((2 ^ j : Nat) : Int) := by rw [Int.natCast_pow]
  show ((2 : Nat) : Int) ^ j % 256 = _
  rw [e]
  generalize 2 ^ j = p at h2 ⊢
  omega

theorem or_bit (y j : Nat) (hy : y < 2 ^ j) (hj : j < 8) : bits .or .u8 (y : Int) ((2 ^ j : Nat) : Int) = ((y + 2 ^ j : Nat) : Int) := by
  have h2 : 2 ^ j ≤ 2 ^ 7 := Nat.pow_le_pow_right (by omega) (by omega)
  rw [u8_or_nat _ _ (by omega) (by omega), Nat.or_comm, nat_join j (2 ^ j) y (Nat.mod_self _) hy, Nat.add_comm]

theorem and_bit (y : Nat) (hy : y < 18446744073709551616) : bits .and .u64 (y : Int) 1 = ((y % 2 : Nat) : Int) := by
  have e : (1 : Int) = ((1 : Nat) : Int) := rfl
  rw [e, u64_and_nat _ _ hy (by omega), Nat.and_one_is_mod]

set_option maxRecDepth 100000 in
set_option maxHeartbeats 2000000 in
theorem packBitsC (lv : Value) (W L : Nat) (vs : List Nat) (w : World) (hR : RowAt w lv .u64 vs) (hW0 : 0 < W) (hW : W ≤ 64) (hs : ∀ v ∈ vs, v < 2 ^ W) (hn : vs.length ≤ 100000) (hL : L = (vs.length * W + 7) / 8) :
    Calls Tryz.prog 108 #[lv, .int .i64 (W : Int)] w fun e w' => e = .returned (.slice (some ⟨w.heap.size, 0, none⟩) L L) ∧ Keep [] w w' ∧ Blk w' w.heap.size (rowV .u8 (leBytes L (packN W vs))) := by
  obtain ⟨ao, cap, rfl, hc, hcell⟩ := hR.open
  obtain ⟨n, hn'⟩ : ∃ n, n = vs.length := ⟨_, rfl⟩
  rw [← hn'] at hn hc hL ⊢
  obtain ⟨M, hM⟩ : ∃ M, M = n * W := ⟨_, rfl⟩
  have hMi : (n : Int) * (W : Int) = (M : Int) := by rw [hM]; simp
  have hMb : M ≤ 100000 * 64 := by rw [hM]; exact Nat.mul_le_mul hn hW
  rw [← hM] at hL
  have hLi : ((M : Int) + 7) / 8 = (L : Int) := by omega
  have hmk := make_u8 (((M : Int) + 7) / 8) L hLi (by omega)
  have Hn := Lib.hid (And.intro hn' hM)
  have Hc := Lib.hid hcell
  have Hs := Lib.hid hs
  have HL := Lib.hid hL
  clear hn' hcell hs hR hM hLi hL
  go_enter Tryz.func108, Tryz.ntmps108
  go_wp2_with fail
  go_loopw [6] (fun i wr => ∃ k : Nat, k ≤ M ∧ i = .int .i64 (k : Int) ∧ Keep [] w wr ∧ Blk wr w.heap.size (rowV .u8 (leBytes L (packN W vs % 2 ^ k)))) (fun i _ => M - (intOf i).toNat)
  case atStart => exact ⟨0, Nat.zero_le _, rfl, (Keep.refl [] w).alloc _, by
    have e : leBytes L (packN W vs % 2 ^ 0) = List.replicate L 0 := by
      rw [Nat.pow_zero, Nat.mod_one]
      generalize L = L
      induction L with
      | zero => rfl
      | succ L ih => simp [leBytes, List.replicate_succ, ih]
    rw [e]
    exact Blk.of_new rfl⟩
  case round =>
    obtain ⟨k, hk, rfl, kk, hB⟩ := hrel
    by_cases hk2 : k < M
    · have hki : (k : Int) < (M : Int) := by omega
      obtain ⟨hnv, hMM⟩ := Hn.out
      obtain ⟨d, hd⟩ : ∃ d, d = k / W := ⟨_, rfl⟩
      obtain ⟨j, hj⟩ : ∃ j, j = k % W := ⟨_, rfl⟩
      have hdn : d < n := by rw [hd]; exact Nat.div_lt_of_lt_mul (by rw [Nat.mul_comm, ← hMM]; exact hk2)
      have hjW : j < W := by rw [hj]; exact Nat.mod_lt _ hW0
      obtain ⟨v, hv⟩ : ∃ v, vs[d]? = some v := ⟨vs[d]'(by rw [← hnv]; exact hdn), by simp⟩
      obtain ⟨a, rfl, hca⟩ := Hc.out d v hv
      have hca := kk.cell_some hca (by simp)
      have hvs := Hs.out v (List.mem_of_getElem? hv)
      have h264 : 2 ^ W ≤ 2 ^ 64 := Nat.pow_le_pow_right (by omega) hW
      obtain ⟨z, hz⟩ : ∃ z, z = v / 2 ^ j := ⟨_, rfl⟩
      have hzv : z ≤ v := by rw [hz]; exact Nat.div_le_self _ _
      have hzi : (v : Int) / 2 ^ j = (z : Int) := by rw [hz, Int.natCast_ediv, Int.natCast_pow]; rfl
      have hbit : packN W vs / 2 ^ k % 2 = z % 2 := by rw [packN_bit hW0 Hs.out (by rw [← hd]; exact hv), ← hj, hz]
      obtain ⟨b, hb⟩ : ∃ b, b = z % 2 := ⟨_, rfl⟩
      have hand : bits .and .u64 (z : Int) 1 = (b : Int) := by rw [and_bit z (by omega), hb]
      have hq1 : Int.tdiv (k : Int) (W : Int) = (d : Int) := by rw [hd]; simp [Int.tdiv_eq_ediv_of_nonneg]
      have hq2 : (k : Int) / (W : Int) = (d : Int) := by rw [hd]; simp
      have hr1 : Int.tmod (k : Int) (W : Int) = (j : Int) := by rw [hj]; simp [Int.tmod_eq_emod_of_nonneg]
      have hr2 : (k : Int) % (W : Int) = (j : Int) := by rw [hj]; simp
      have hb2 : b = 0 ∨ b = 1 := by omega
      have Hbit := Lib.hid (And.intro hbit hb)
      clear hd hj hz hbit hb hv hvs h264 hnv hMM
      have hPk : packN W vs % 2 ^ k < 2 ^ k := Nat.mod_lt _ (Nat.two_pow_pos k)
      have hnext := mod_next (packN W vs) k
      rcases hb2 with rfl | rfl
      · have Hbk := Lib.hid hB
        have Hnx := Lib.hid (And.intro hPk hnext)
        clear hB hPk hnext
        go_wp2_with fail
        go_region
        go_wp2
        go_roundw
        case rel =>
          refine ⟨k + 1, hk2, by go_num, kk.drew, ?_⟩
          obtain ⟨h1, h2⟩ := Hbit.out
          rw [Hnx.out.2, h1, ← h2, Nat.zero_mul, Nat.add_zero]
          exact Hbk.out.drew
        case measure => simp [intOf]; omega
      · obtain ⟨g, hg⟩ : ∃ g, g = k / 8 := ⟨_, rfl⟩
        obtain ⟨s, hs8⟩ : ∃ s, s = k % 8 := ⟨_, rfl⟩
        have hLo := HL.out
        have hgL : g < L := by omega
        obtain ⟨y, hy⟩ : ∃ y, y = packN W vs % 2 ^ k / 256 ^ g % 256 := ⟨_, rfl⟩
        have hys : y < 2 ^ s := by
          have e : 2 ^ k = 256 ^ g * 2 ^ s := by rw [show (256 : Nat) = 2 ^ 8 from rfl, ← Nat.pow_mul, ← Nat.pow_add]; congr 1; omega
          have h1 : packN W vs % 2 ^ k / 256 ^ g < 2 ^ s := Nat.div_lt_of_lt_mul (by rw [← e]; exact hPk)
          rw [hy]
          exact Nat.lt_of_le_of_lt (Nat.mod_le _ _) h1
        have hcell := hB.cell (i := g) (v := .int .u8 (y : Int)) (by rw [hy]; exact rowV_get (leBytes_get L _ g hgL))
        have fB := hB.unfrozen
        obtain ⟨y2, hy2⟩ : ∃ y2, y2 = y + 2 ^ s := ⟨_, rfl⟩
        have hor : bits .or .u8 (y : Int) (2 ^ s) = (y2 : Int) := by
          have := or_bit y s hys (by omega)
          rw [Int.natCast_pow] at this
          rw [hy2]; exact this
        have hgi : (k : Int) / 8 = (g : Int) := by omega
        have hsi : (k : Int) % 8 = (s : Int) := by omega
        have hsh := shl_u8 s (by omega)
        have hs8' : s < 8 := by omega
        have Hbk := Lib.hid hB
        have Hnx := Lib.hid (And.intro hPk (And.intro hnext (And.intro hg (And.intro hs8 (And.intro hy hy2)))))
        clear hB hPk hnext hg hs8 hy hy2 hys hLo
        go_wp2_with fail
        go_region
        go_wp2_with fail
        go_region
        go_wp2
        go_roundw
        case rel =>
          obtain ⟨h1, h2⟩ := Hbit.out
          obtain ⟨hPk, hnext, hg, hs8, hy, hy2⟩ := Hnx.out
          refine ⟨k + 1, hk2, by go_num, (((kk.set (.inr (Nat.le_refl _)) _ _ _).drew).drew), ?_⟩
          rw [hnext, h1, ← h2, Nat.one_mul, leBytes_bit L _ k hPk (by have := HL.out; omega), rowV_set, ← hg, ← hs8, ← hy, ← hy2]
          exact ((Hbk.out.set g (.int .u8 (y2 : Int))).drew).drew
        case measure => simp [intOf]; omega
    · have hkM : k = M := by omega
      subst hkM
      obtain ⟨hnv, hMM⟩ := Hn.out
      have hlt : packN W vs % 2 ^ k = packN W vs := Nat.mod_eq_of_lt (by rw [hMM, hnv, Nat.mul_comm]; exact packN_lt Hs.out)
      rw [hlt] at hB
      have Hbk := Lib.hid hB
      clear hB hlt hnv hMM
      go_wp2
      go_ret
      exact ⟨rfl, kk, Hbk.out⟩
end Go.Proofs.YtlolcgklcnechaaGreatDoor
set_option linter.unusedVariables false
set_option linter.unusedSimpArgs false
namespace Go.Proofs.YtlolcgklcnechaaGreatDoor
open Go.RowKit

theorem RowAt.src {P : Program} {w : World} {t e : TypeId} (ht : P.underlying t = some (.slice e)) {v : Value} {k : IntKind} {vs : List Nat} (h : RowAt w v k vs) : Src P 1 t v vs.length (rowV k vs) w := by
  rcases h with ⟨rfl, rfl⟩ | ⟨a, cap, rfl, -, h⟩
  · exact Src.ofNil w ht 0
  · exact Src.row ht h

/-- What a run stands for. -/
def Rq.all (r : Rq) : List Nat := if r.packed then r.vs ++ List.replicate (8 * r.count.toNat - r.vs.length) 0 else List.replicate r.count.toNat (r.vs.headD 0)

def Rq.Ok (W : Nat) (r : Rq) : Prop := 1 ≤ r.count ∧ (r.packed = true → r.count ≤ 20 ∧ (r.vs.length : Int) ≤ 8 * r.count) ∧ (r.packed = false → r.count ≤ 300 ∧ r.vs.length = 1) ∧ ∀ v ∈ r.vs, v < 2 ^ W

theorem Rq.all_length {W : Nat} {r : Rq} (h : r.Ok W) : r.all.length ≤ 300 := by
  obtain ⟨h1, h2, h3, _⟩ := h
  unfold Rq.all
  cases hp : r.packed with
  | true => have := h2 hp; simp; omega
  | false => have := h3 hp; simp; omega

def RunsPost (W : Nat) (rs : List Rq) (w : World) (e : Ending) (w' : World) : Prop :=
  ∃ v ok, e = .returned (.tuple #[v, .bool ok]) ∧ Keep [] w w' ∧ (ok = true → rs.length ≤ 40 ∧ (∀ r ∈ rs, r.Ok W) ∧ GrowS w.heap.size [] w' v .u64 (rs.flatMap Rq.all))

theorem flatMap_take {rs : List Rq} {k : Nat} {r : Rq} (hr : rs[k]? = some r) : (rs.take (k + 1)).flatMap Rq.all = (rs.take k).flatMap Rq.all ++ r.all := by
  have hk : k < rs.length := by
    rcases Nat.lt_or_ge k rs.length with h | h
    · exact h
    · rw [List.getElem?_eq_none h] at hr; cases hr
  rw [List.take_succ_eq_append_getElem hk, List.flatMap_append]
  rw [List.getElem?_eq_getElem hk] at hr
  rw [Option.some.inj hr]; simp



set_option maxRecDepth 100000 in
set_option maxHeartbeats 4000000 in
theorem runsFitC (v : Value) (rs : List Rq) (W : Nat) (w : World) (hP : RunsAt w v rs) (hW0 : 0 < W) (hW : W ≤ 20) (hu : ∀ r ∈ rs, ∀ x ∈ r.vs, x < 18446744073709551616) (hl : ∀ r ∈ rs, r.vs.length ≤ 2147483647) (hct : ∀ r ∈ rs, -9223372036854775808 ≤ r.count ∧ r.count ≤ 9223372036854775807) :
    Calls Tryz.prog 60 #[v, .int .i64 (W : Int)] w fun e w' => RunsPost W rs w e w' := by
  have HP := Lib.hid hP
  obtain ⟨ao, cap, rfl, hc, hcell⟩ := hP
  obtain ⟨n, hn'⟩ : ∃ n, n = rs.length := ⟨_, rfl⟩
  rw [← hn'] at hc ⊢
  have Hn := Lib.hid hn'
  have Hc := Lib.hid hcell
  have Hu := Lib.hid (And.intro hu (And.intro hl hct))
  clear hn' hcell hu hl hct
  obtain ⟨i0, hi, hz0, hz1, hz2⟩ := info_parts info_u64
  by_cases hbig : 40 < n
  · have hbi : (40 : Int) < (n : Int) := by omega
    go_enter Tryz.func60, Tryz.ntmps60
    go_wp2
    go_ret2
    unfold RunsPost; exact ⟨_, false, rfl, Keep.refl _ _, by simp⟩
  have hbi : ¬ (40 : Int) < (n : Int) := by omega
  have hW1 : ¬ (W : Int) < 1 := by omega
  have hW2 : ¬ (64 : Int) < (W : Int) := by omega
  have hW3 : (W : Int) < 64 := by omega
  go_enter Tryz.func60, Tryz.ntmps60
  go_wp2_with fail
  go_loopw [26, 6] (fun i ov wr => ∃ k : Nat, k ≤ n ∧ i = .int .i64 (k : Int) ∧ Keep [] w wr ∧ (∀ r ∈ rs.take k, r.Ok W) ∧ ((rs.take k).flatMap Rq.all).length ≤ k * 300 ∧ GrowS w.heap.size [] wr ov .u64 ((rs.take k).flatMap Rq.all)) (fun i _ _ => n - (intOf i).toNat)
  case atStart => exact ⟨0, Nat.zero_le _, rfl, Keep.refl _ _, by simp, by simp, .inl ⟨rfl, by simp⟩⟩
  case round =>
    obtain ⟨k, hk, rfl, kk, hin, hlen, hG⟩ := hrel
    by_cases hk2 : k < n
    · obtain ⟨r, hr⟩ : ∃ r, rs[k]? = some r := ⟨rs[k]'(by rw [← Hn.out]; exact hk2), by simp⟩
      obtain ⟨a, lv, rfl, c0, c1, c2, hl⟩ := Hc.out k r hr
      have hl' := hl.keep kk
      obtain ⟨ao2, cap2, rfl, -, hlc⟩ := hl.open
      have c0 := kk.cell_some c0 (by simp)
      have c1 := kk.cell_some c1 (by simp)
      have c2 := kk.cell_some c2 (by simp)
      have hrm := List.mem_of_getElem? hr
      obtain ⟨hu, hll, hct⟩ := Hu.out
      have hu := hu r hrm
      have hll := hll r hrm
      obtain ⟨hct1, hct2⟩ := hct r hrm
      have hnext := flatMap_take hr
      have hok : r.Ok W → ∀ y ∈ rs.take (k + 1), y.Ok W := fun h y hy => by
        rw [List.take_succ_eq_append_getElem (by rw [← Hn.out]; exact hk2), List.mem_append, List.mem_singleton] at hy
        rcases hy with hy | rfl
        · exact hin y hy
        · rw [List.getElem?_eq_getElem (by rw [← Hn.out]; exact hk2)] at hr
          rw [Option.some.inj hr]; exact h
      have hlen2 : r.Ok W → ((rs.take (k + 1)).flatMap Rq.all).length ≤ (k + 1) * 300 := fun h => by
        have := Rq.all_length h
        rw [hnext, List.length_append, Nat.succ_mul]; omega
      have Hok := Lib.hid (And.intro hok (And.intro hlen2 hnext))
      obtain ⟨F, hF⟩ : ∃ F, F = (rs.take k).flatMap Rq.all := ⟨_, rfl⟩
      rw [← hF] at hlen hG
      obtain ⟨pk, ct, vs⟩ := r
      obtain ⟨m, hm⟩ : ∃ m, m = vs.length := ⟨_, rfl⟩
      simp only at hu hll hct1 hct2 hl' hlc c0 c1 c2
      simp only [← hm] at c2 hl' hll
      have HF := Lib.hid (And.intro hF hm)
      have HG := Lib.hid hG
      have Hl := Lib.hid hl'
      have Hu2 := Lib.hid hu
      have Hlc := Lib.hid hlc
      have hF20 : F.length ≤ 12000 := by omega
      clear hin hnext hok hlen2 hr hF hm hl hl' hlc hu hrm hG hlen
      by_cases hc1 : ct < 1
      · go_wp2
        go_ret2
        unfold RunsPost; exact ⟨_, false, rfl, (kk.alloc _), by simp⟩
      cases pk with
      | true =>
        by_cases hc20 : 20 < ct
        · go_wp2
          go_ret2
          unfold RunsPost; exact ⟨_, false, rfl, (kk.alloc _), by simp⟩
        obtain ⟨c, rfl⟩ : ∃ c : Nat, ct = (c : Int) := ⟨ct.toNat, by omega⟩
        obtain ⟨c8, hc8⟩ : ∃ c8, c8 = 8 * c := ⟨_, rfl⟩
        have hc8i : 8 * (c : Int) = (c8 : Int) := by omega
        have hc8b : c8 ≤ 160 := by omega
        have Hc8 := Lib.hid hc8
        clear hc8
        by_cases hm8 : c8 < m
        · have hm8i : (c8 : Int) < (m : Int) := by omega
          go_wp2
          go_ret2
          unfold RunsPost; exact ⟨_, false, rfl, (kk.alloc _), by simp⟩
        have hm8i : ¬ (c8 : Int) < (m : Int) := by omega
        obtain ⟨oa, oc, rfl, -, -⟩ := HG.out.row.open
        obtain ⟨N, hN⟩ : ∃ N, N = F.length := ⟨_, rfl⟩
        rw [← hN] at hF20 ⊢
        rw [← hN] at HG
        have HN := Lib.hid hN
        clear hN
        go_wp2_with fail
        obtain ⟨wA, hwA⟩ : ∃ wA, wA = wr.alloc (Obj.cells #[Value.bool true, Value.int IntKind.i64 (c : Int), Value.slice ao2 m cap2] 96) := ⟨_, rfl⟩
        rw [← hwA]
        obtain ⟨b8, hb8⟩ : ∃ b8, b8 = wr.heap.size := ⟨_, rfl⟩
        have hB8 : Blk wA b8 [.bool true, .int .i64 (c : Int), .slice ao2 m cap2] := by rw [hwA]; exact Blk.of_new hb8
        have KA : Keep [] w wA := by rw [hwA]; exact kk.alloc _
        have hGA : GrowS w.heap.size [b8] wA (.slice oa N oc) .u64 F := by
          rw [hwA]
          exact (HG.out.avoid (fun b hb => .inr (by simp at hb; omega))).keep (S := []) ((Keep.refl [] wr).alloc _) (by simp)
        have hlA : RowAt wA (.slice ao2 m cap2) .u64 vs := by rw [hwA]; exact Hl.out.keep ((Keep.refl [] wr).alloc _)
        have hb8l : b8 < wA.heap.size := hB8.lt
        have hb8w : w.heap.size ≤ b8 := by rw [hb8]; exact kk.size
        have HA := Lib.hid (And.intro hB8 (And.intro KA (And.intro hGA (And.intro hlA (And.intro hb8l hb8w)))))
        have cb0 := hB8.cell (i := 0) rfl
        have cb1 := hB8.cell (i := 1) rfl
        have cb2 := hB8.cell (i := 2) rfl
        rw [← hb8]
        clear hwA hB8 KA hGA hlA hb8l hb8w hb8 c0 c1 c2
        go_loopw [70] (fun i wr2 => ∃ j : Nat, j ≤ m ∧ i = .int .i64 (j : Int) ∧ wA = wr2 ∧ ∀ y ∈ vs.take j, y < 2 ^ W) (fun i _ => m - (intOf i).toNat)
        case atStart => exact ⟨0, Nat.zero_le _, rfl, rfl, by simp⟩
        case round =>
          obtain ⟨j, hj, rfl, rfl, hsm⟩ := hrel
          by_cases hj2 : j < m
          · obtain ⟨x, hx⟩ : ∃ x, vs[j]? = some x := ⟨vs[j]'(by rw [← HF.out.2]; exact hj2), by simp⟩
            obtain ⟨la, rfl, hca⟩ := Hlc.out j x hx
            have hca := HA.out.2.1.cell_some hca (by simp)
            have hx64 := Hu2.out x (List.mem_of_getElem? hx)
            have step : x < 2 ^ W → ∀ y ∈ vs.take (j + 1), y < 2 ^ W := fun hlt y hy => by
              rw [List.take_succ_eq_append_getElem (by rw [← HF.out.2]; exact hj2), List.mem_append, List.mem_singleton] at hy
              rcases hy with hy | rfl
              · exact hsm y hy
              · rw [List.getElem?_eq_getElem (by rw [← HF.out.2]; exact hj2)] at hx
                rw [Option.some.inj hx]; exact hlt
            have Hstep := Lib.hid step
            clear hx hsm step
            obtain ⟨y, hy⟩ : ∃ y, y = x / 2 ^ W := ⟨_, rfl⟩
            have hyi : (x : Int) / 2 ^ W = (y : Int) := by rw [hy]; simp
            by_cases hy0 : y = 0
            · have hlt : x < 2 ^ W := by
                rw [hy0] at hy
                rcases Nat.lt_or_ge x (2 ^ W) with h | h
                · exact h
                · have := (Nat.le_div_iff_mul_le (Nat.two_pow_pos W)).2 (by simpa using h : 1 * 2 ^ W ≤ x)
                  omega
              have Hlt := Lib.hid hlt
              have hyi0 : ¬ (0 : Int) < (y : Int) := by omega
              clear hy hlt
              go_wp2
              go_roundw
              case rel => exact ⟨j + 1, hj2, by go_num, trivial, Hstep.out Hlt.out⟩
              case measure => simp [intOf]; omega
            · have hyi0 : (0 : Int) < (y : Int) := by omega
              clear hy
              go_wp2
              go_ret2
              unfold RunsPost; exact ⟨_, false, rfl, HA.out.2.1, by simp⟩
          · have hjm : m = j := by omega
            subst hjm
            have Hsm := Lib.hid (show ∀ y ∈ vs, y < 2 ^ W by rwa [List.take_of_length_le (by rw [← HF.out.2]; exact Nat.le_refl _)] at hsm)
            clear hsm
            go_wp2_with (at_builtin; refine halt ?_)
            refine Lib.hid ?_
            refine wpList_append_grow rfl _ _ 22 _ rfl i0 8 Tryz.underlying22 hi hz0 hz1 hz2 rfl HA.out.2.2.1 HA.out.2.1.size (fun b hb => by simp at hb; have := HA.out.2.2.2.2.1; omega) _ vs rfl (HA.out.2.2.2.1.src Tryz.underlying22) (by rw [← HN.out, ← HF.out.2]; omega) (by rw [← HN.out, ← HF.out.2]; omega) ?_
            intro v6 w6 S hG6 k6 hS6
            have K6 : Keep [] w w6 := HA.out.2.1.trans k6 (fun b hb => .inr (hS6 b hb).1)
            have hB6 := HA.out.1.keep k6 (fun hb => (hS6 _ hb).2 (by simp))
            obtain ⟨oa6, oc6, hv6, -, -⟩ := hG6.row.open
            obtain ⟨N6, hN6⟩ : ∃ N6, N6 = (F ++ vs).length := ⟨_, rfl⟩
            rw [← hN6] at hv6
            subst hv6
            clear cb0 cb1 cb2
            have cb0 := hB6.cell (i := 0) rfl
            have cb1 := hB6.cell (i := 1) rfl
            have cb2 := hB6.cell (i := 2) rfl
            have H6 := Lib.hid (And.intro K6 (And.intro hB6 hG6))
            have hb8w := HA.out.2.2.2.2.2
            clear K6 hB6 hG6 k6 hS6 hN6
            go_wp2_with fail
            go_loopw [6, 11] (fun ov i wr2 => ∃ q mq : Nat, mq = m + q ∧ mq ≤ c8 ∧ i = .int .i64 (mq : Int) ∧ Keep [] w wr2 ∧ Blk wr2 b8 [.bool true, .int .i64 (c : Int), .slice ao2 m cap2] ∧ GrowS w.heap.size [b8] wr2 ov .u64 (F ++ vs ++ List.replicate q 0)) (fun _ i _ => c8 - (intOf i).toNat)
            case atStart => exact ⟨0, m, by omega, by omega, rfl, H6.out.1, H6.out.2.1, by simpa using H6.out.2.2⟩
            case round =>
              obtain ⟨q, mq, hmq, hq, rfl, K7, hB7, hG7⟩ := hrel
              have hG7' := hG7
              obtain ⟨oa7, oc7, rfl, -, -⟩ := hG7.row.open
              obtain ⟨N7, hN7⟩ : ∃ N7, N7 = (F ++ vs ++ List.replicate q 0).length := ⟨_, rfl⟩
              rw [← hN7] at hG7' ⊢
              have hN7b : N7 ≤ 20000 := by rw [hN7]; simp; have := HN.out; have := HF.out.2; omega
              clear cb0 cb1 cb2
              have cb0 := hB7.cell (i := 0) rfl
              have cb1 := hB7.cell (i := 1) rfl
              have cb2 := hB7.cell (i := 2) rfl
              have H7 := Lib.hid (And.intro hB7 (And.intro hG7' (And.intro hN7 hmq)))
              have hb8l := hB7.lt
              clear hB7 hG7 hG7' hN7 hmq
              by_cases hq2 : mq < c8
              · have hq2i : (mq : Int) < (c8 : Int) := by omega
                go_wp2_with (at_builtin; refine halt ?_)
                refine Lib.hid ?_
                refine wpList_append_grow rfl _ _ 22 _ rfl i0 8 Tryz.underlying22 hi hz0 hz1 hz2 rfl (H7.out.2.1.keep (S := []) ((Keep.refl [] wr).alloc _) (by simp)) (by simp; exact Nat.le_succ_of_le K7.size) (fun b hb => by simp at hb ⊢; omega) _ [0] rfl (Src.blk Tryz.underlying22 (Blk.new wr (rowV .u64 [0]) _) rfl rfl) (by rw [← H7.out.2.2.1]; simp; omega) (by rw [← H7.out.2.2.1]; simp; omega) ?_
                intro v8 w8 S hG8 k8 hS8
                have K8 : Keep [] w w8 := (K7.alloc _).trans k8 (fun b hb => .inr (hS8 b hb).1)
                have hB8 := (H7.out.1.alloc (.cells #[.int .u64 0] 43)).keep k8 (fun hb => (hS8 _ hb).2 (by simp))
                clear cb0 cb1 cb2
                have cb0 := hB8.cell (i := 0) rfl
                have cb1 := hB8.cell (i := 1) rfl
                have cb2 := hB8.cell (i := 2) rfl
                have H8 := Lib.hid (And.intro hB8 hG8)
                clear hB8 hG8 k8 hS8
                go_wp2
                go_roundw
                case rel =>
                  refine ⟨q + 1, mq + 1, by have := H7.out.2.2.2; omega, by omega, by go_num, K8, H8.out.1, ?_⟩
                  rw [List.replicate_succ', ← List.append_assoc]
                  exact H8.out.2
                case measure => simp [intOf]; omega
              · have hq2i : ¬ (mq : Int) < (c8 : Int) := by omega
                go_wp2
                go_roundw
                case rel =>
                  have hmq := H7.out.2.2.2
                  have hrOk : Rq.Ok W ⟨true, (c : Int), vs⟩ := ⟨by show 1 ≤ (c : Int); omega, fun _ => ⟨by show (c : Int) ≤ 20; omega, by show (vs.length : Int) ≤ 8 * (c : Int); have := HF.out.2; have := Hc8.out; omega⟩, (fun h => by cases h), Hsm.out⟩
                  have hall : Rq.all ⟨true, (c : Int), vs⟩ = vs ++ List.replicate q 0 := by
                    unfold Rq.all
                    simp only [if_true]
                    congr 2
                    have := HF.out.2; have := Hc8.out
                    omega
                  refine ⟨k + 1, hk2, by go_num, K7, Hok.out.1 hrOk, Hok.out.2.1 hrOk, ?_⟩
                  rw [Hok.out.2.2, hall, ← HF.out.1, ← List.append_assoc]
                  exact H7.out.2.1.avoid (by simp)
                case measure => simp [intOf]; omega
      | false =>
        by_cases hc300 : 300 < ct
        · go_wp2
          go_ret2
          unfold RunsPost; exact ⟨_, false, rfl, (kk.alloc _), by simp⟩
        obtain ⟨c, rfl⟩ : ∃ c : Nat, ct = (c : Int) := ⟨ct.toNat, by omega⟩
        by_cases hm1 : m = 1
        · subst hm1
          obtain ⟨oa, oc, rfl, -, -⟩ := HG.out.row.open
          obtain ⟨N, hN⟩ : ∃ N, N = F.length := ⟨_, rfl⟩
          rw [← hN] at hF20 ⊢
          rw [← hN] at HG
          have HN := Lib.hid hN
          clear hN
          go_wp2_with fail
          obtain ⟨wA, hwA⟩ : ∃ wA, wA = wr.alloc (Obj.cells #[Value.bool false, Value.int IntKind.i64 (c : Int), Value.slice ao2 1 cap2] 96) := ⟨_, rfl⟩
          rw [← hwA]
          obtain ⟨b8, hb8⟩ : ∃ b8, b8 = wr.heap.size := ⟨_, rfl⟩
          have hB8 : Blk wA b8 [.bool false, .int .i64 (c : Int), .slice ao2 1 cap2] := by rw [hwA]; exact Blk.of_new hb8
          have KA : Keep [] w wA := by rw [hwA]; exact kk.alloc _
          have hGA : GrowS w.heap.size [b8] wA (.slice oa N oc) .u64 F := by
            rw [hwA]
            exact (HG.out.avoid (fun b hb => .inr (by simp at hb; omega))).keep (S := []) ((Keep.refl [] wr).alloc _) (by simp)
          have hlA : RowAt wA (.slice ao2 1 cap2) .u64 vs := by rw [hwA]; exact Hl.out.keep ((Keep.refl [] wr).alloc _)
          have hb8l : b8 < wA.heap.size := hB8.lt
          have hb8w : w.heap.size ≤ b8 := by rw [hb8]; exact kk.size
          have HA := Lib.hid (And.intro hB8 (And.intro KA (And.intro hGA (And.intro hlA (And.intro hb8l hb8w)))))
          have cb0 := hB8.cell (i := 0) rfl
          have cb1 := hB8.cell (i := 1) rfl
          have cb2 := hB8.cell (i := 2) rfl
          rw [← hb8]
          clear hwA hB8 KA hGA hlA hb8l hb8w hb8 c0 c1 c2
          go_loopw [70] (fun i wr2 => ∃ j : Nat, j ≤ 1 ∧ i = .int .i64 (j : Int) ∧ wA = wr2 ∧ ∀ y ∈ vs.take j, y < 2 ^ W) (fun i _ => 1 - (intOf i).toNat)
          case atStart => exact ⟨0, Nat.zero_le _, rfl, rfl, by simp⟩
          case round =>
            obtain ⟨j, hj, rfl, rfl, hsm⟩ := hrel
            by_cases hj2 : j < 1
            · obtain ⟨x, hx⟩ : ∃ x, vs[j]? = some x := ⟨vs[j]'(by rw [← HF.out.2]; exact hj2), by simp⟩
              obtain ⟨la, rfl, hca⟩ := Hlc.out j x hx
              have hca := HA.out.2.1.cell_some hca (by simp)
              have hx64 := Hu2.out x (List.mem_of_getElem? hx)
              have step : x < 2 ^ W → ∀ y ∈ vs.take (j + 1), y < 2 ^ W := fun hlt y hy => by
                rw [List.take_succ_eq_append_getElem (by rw [← HF.out.2]; exact hj2), List.mem_append, List.mem_singleton] at hy
                rcases hy with hy | rfl
                · exact hsm y hy
                · rw [List.getElem?_eq_getElem (by rw [← HF.out.2]; exact hj2)] at hx
                  rw [Option.some.inj hx]; exact hlt
              have Hstep := Lib.hid step
              clear hx hsm step
              obtain ⟨y, hy⟩ : ∃ y, y = x / 2 ^ W := ⟨_, rfl⟩
              have hyi : (x : Int) / 2 ^ W = (y : Int) := by rw [hy]; simp
              by_cases hy0 : y = 0
              · have hlt : x < 2 ^ W := by
                  rw [hy0] at hy
                  rcases Nat.lt_or_ge x (2 ^ W) with h | h
                  · exact h
                  · have := (Nat.le_div_iff_mul_le (Nat.two_pow_pos W)).2 (by simpa using h : 1 * 2 ^ W ≤ x)
                    omega
                have Hlt := Lib.hid hlt
                have hyi0 : ¬ (0 : Int) < (y : Int) := by omega
                clear hy hlt
                go_wp2
                go_roundw
                case rel => exact ⟨j + 1, hj2, by go_num, trivial, Hstep.out Hlt.out⟩
                case measure => simp [intOf]; omega
              · have hyi0 : (0 : Int) < (y : Int) := by omega
                clear hy
                go_wp2
                go_ret2
                unfold RunsPost; exact ⟨_, false, rfl, HA.out.2.1, by simp⟩
            · have hjm : 1 = j := by omega
              subst hjm
              have Hsm := Lib.hid (show ∀ y ∈ vs, y < 2 ^ W by rwa [List.take_of_length_le (by rw [← HF.out.2]; exact Nat.le_refl _)] at hsm)
              clear hsm
              obtain ⟨x0, hx0⟩ : ∃ x0, vs = [x0] := by
                have := HF.out.2
                match vs, this with
                | [x0], _ => exact ⟨x0, rfl⟩
              obtain ⟨la, rfl, hla⟩ := Hlc.out 0 x0 (by rw [hx0]; rfl)
              have hla0 : la.add 0 = la := by simp [Addr.add]
              rw [hla0] at hla
              have Hx0 := Lib.hid (And.intro hx0 hla)
              have hb8w := HA.out.2.2.2.2.2
              clear hx0 hla hla0
              go_wp2_with fail
              go_loopw [6, 12] (fun ov i wr2 => ∃ q : Nat, q ≤ c ∧ i = .int .i64 (q : Int) ∧ Keep [] w wr2 ∧ Blk wr2 b8 [.bool false, .int .i64 (c : Int), .slice (some la) 1 cap2] ∧ GrowS w.heap.size [b8] wr2 ov .u64 (F ++ List.replicate q x0)) (fun _ i _ => c - (intOf i).toNat)
              case atStart => exact ⟨0, Nat.zero_le _, rfl, HA.out.2.1, HA.out.1, by simpa using HA.out.2.2.1⟩
              case round =>
                obtain ⟨q, hq, rfl, K7, hB7, hG7⟩ := hrel
                have hG7' := hG7
                obtain ⟨oa7, oc7, rfl, -, -⟩ := hG7.row.open
                obtain ⟨N7, hN7⟩ : ∃ N7, N7 = (F ++ List.replicate q x0).length := ⟨_, rfl⟩
                rw [← hN7] at hG7' ⊢
                have hN7b : N7 ≤ 20000 := by rw [hN7]; simp; have := HN.out; omega
                clear cb0 cb1 cb2
                have cb0 := hB7.cell (i := 0) rfl
                have cb1 := hB7.cell (i := 1) rfl
                have cb2 := hB7.cell (i := 2) rfl
                have hca := K7.cell_some Hx0.out.2 (by simp)
                have H7 := Lib.hid (And.intro hB7 (And.intro hG7' hN7))
                have hb8l := hB7.lt
                clear hB7 hG7 hG7' hN7
                by_cases hq2 : q < c
                · go_wp2_with (at_builtin; refine halt ?_)
                  refine Lib.hid ?_
                  refine wpList_append_grow rfl _ _ 22 _ rfl i0 8 Tryz.underlying22 hi hz0 hz1 hz2 rfl (H7.out.2.1.keep (S := []) ((Keep.refl [] wr).alloc _) (by simp)) (by simp; exact Nat.le_succ_of_le K7.size) (fun b hb => by simp at hb ⊢; omega) _ [x0] rfl (Src.blk Tryz.underlying22 (Blk.new wr (rowV .u64 [x0]) _) rfl rfl) (by rw [← H7.out.2.2]; simp; omega) (by rw [← H7.out.2.2]; simp; omega) ?_
                  intro v8 w8 S hG8 k8 hS8
                  have K8 : Keep [] w w8 := (K7.alloc _).trans k8 (fun b hb => .inr (hS8 b hb).1)
                  have hB8 := (H7.out.1.alloc (.cells #[.int .u64 (x0 : Int)] 43)).keep k8 (fun hb => (hS8 _ hb).2 (by simp))
                  clear cb0 cb1 cb2 hca
                  have cb0 := hB8.cell (i := 0) rfl
                  have cb1 := hB8.cell (i := 1) rfl
                  have cb2 := hB8.cell (i := 2) rfl
                  have H8 := Lib.hid (And.intro hB8 hG8)
                  clear hB8 hG8 k8 hS8
                  go_wp2
                  go_roundw
                  case rel =>
                    refine ⟨_, _, _, _, _, _, _, _, _, _, _, _, _, _, _, ⟨q + 1, by omega, by go_num, K8, H8.out.1, ?_⟩, rfl⟩
                    rw [List.replicate_succ', ← List.append_assoc]
                    exact H8.out.2
                  case measure => simp [intOf]; omega
                · have hqc : c = q := by omega
                  subst hqc
                  go_wp2
                  go_roundw
                  case rel =>
                    have hrOk : Rq.Ok W ⟨false, (c : Int), vs⟩ := ⟨by show 1 ≤ (c : Int); omega, (fun h => by cases h), fun _ => ⟨by show (c : Int) ≤ 300; omega, HF.out.2.symm⟩, Hsm.out⟩
                    have hall : Rq.all ⟨false, (c : Int), vs⟩ = List.replicate c x0 := by
                      unfold Rq.all
                      simp [Hx0.out.1]
                    refine ⟨k + 1, hk2, by go_num, K7, Hok.out.1 hrOk, Hok.out.2.1 hrOk, ?_⟩
                    rw [Hok.out.2.2, hall, ← HF.out.1]
                    exact H7.out.2.1.avoid (by simp)
                  case measure => simp [intOf]; omega
        · have hm1i : ¬ (m : Int) = 1 := by omega
          go_wp2
          go_ret2
          unfold RunsPost; exact ⟨_, false, rfl, (kk.alloc _), by simp⟩
    · have hkn : k = n := by omega
      subst hkn
      rw [List.take_of_length_le (by rw [← Hn.out]; exact Nat.le_refl _)] at hin hlen hG
      obtain ⟨oa, oc, hov, -, -⟩ := hG.row.open
      obtain ⟨N, hN⟩ : ∃ N, N = (rs.flatMap Rq.all).length := ⟨_, rfl⟩
      rw [← hN] at hov
      subst hov
      have Hin := Lib.hid hin
      have HG := Lib.hid hG
      have HN := Lib.hid hN
      clear hin hG hN hlen
      go_wp2
      go_ret2
      unfold RunsPost; exact ⟨.slice oa N oc, true, rfl, kk, fun _ => ⟨by rw [← Hn.out]; omega, Hin.out, HG.out⟩⟩
end Go.Proofs.YtlolcgklcnechaaGreatDoor
