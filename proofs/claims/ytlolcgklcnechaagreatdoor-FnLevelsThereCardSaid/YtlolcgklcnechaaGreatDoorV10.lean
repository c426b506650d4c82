/- impl.LevelsWritten, by runs. -/
import Derived.Test.YtlolcgklcnechaaGreatDoorV5
import Derived.Test.YtlolcgklcnechaaGreatDoorV8
import Derived.Deep.RegionWith
set_option linter.unusedVariables false
set_option linter.unusedSimpArgs false
namespace Go.Proofs.YtlolcgklcnechaaGreatDoor
open Go.RowKit

/-- In a function that defers: a statement that ends as usual needs no word on its other ends. -/
theorem only_normal {P : Program} {c : Code} {K : Act → World → Prop} {Q' : Exit → Act → World → Prop} {a : Act} {w : World} (h : c.wp P (Exit.then K (fun _ _ _ => False)) a w) : c.wp P (Exit.then K Q') a w :=
  Code.wp_mono (fun e a w hq => by cases e <;> first | exact hq | exact hq.elim) h

theorem take_flat {ps : List (List Int)} {k : Nat} {l : List Int} (hl : ps[k]? = some l) : (ps.take (k + 1)).flatten = (ps.take k).flatten ++ l := by
  have hk : k < ps.length := by
    rcases Nat.lt_or_ge k ps.length with h | h
    · exact h
    · rw [List.getElem?_eq_none h] at hl; cases hl
  rw [List.take_succ_eq_append_getElem hk, List.flatten_append]
  rw [List.getElem?_eq_getElem hk] at hl
  rw [Option.some.inj hl]; simp

theorem flat_le (ps : List (List Int)) (k : Nat) : (ps.take k).flatten.length ≤ ps.flatten.length := by
  have h : ps.flatten.length = ((ps.take k) ++ (ps.drop k)).flatten.length := by rw [List.take_append_drop]
  rw [h, List.flatten_append, List.length_append]
  omega

theorem IntsK.row {w : World} {v : Value} {k : IntKind} {l : List Int} (h : IntsK w v k l) (h0 : ∀ x ∈ l, 0 ≤ x) : RowAt w v k (l.map Int.toNat) := by
  obtain ⟨ao, cap, h1, h2, h3, h4⟩ := h
  cases ao with
  | none =>
    have : l = [] := by
      cases l with
      | nil => rfl
      | cons x l => obtain ⟨a, e, _⟩ := h3 0 x rfl; cases e
    subst this
    obtain rfl := h4 rfl
    exact .inl ⟨h1, rfl⟩
  | some a =>
    refine .inr ⟨a, cap, by rw [List.length_map]; exact h1, by rw [List.length_map]; exact h2, fun i x hx => ?_⟩
    rw [List.getElem?_map] at hx
    cases hl : l[i]? with
    | none => rw [hl] at hx; simp at hx
    | some y =>
      rw [hl] at hx
      simp at hx
      obtain ⟨a', e, hc⟩ := h3 i y hl
      obtain rfl := Option.some.inj e
      have := h0 y (List.mem_of_getElem? hl)
      rw [hc, ← hx]
      congr 2
      omega

def FlushPost (w : World) (fin L W r : Nat) (bytes : List Nat) (w' : World) : Prop :=
  Keep [] w w' ∧ Blk w' w.heap.size [.slice (some ⟨w.heap.size + 1 + 1, 0, none⟩) L L] ∧ Blk w' (w.heap.size + 1) [.bool false] ∧ Blk w' (w.heap.size + 1 + 1 + 1) (leCells W fin 3 (.pointer (some ⟨r, 0, none⟩)) (.pointer none)) ∧
    ∃ data, Blk w' (w.heap.size + 1 + 1) (rowV .u8 data) ∧ data.length = L ∧ data.take fin = bytes

set_option maxRecDepth 100000 in
set_option maxHeartbeats 4000000 in
theorem levelsWrittenRle (g : Nat) (pv : Value) (ps : List (List Int)) (w : World) (hP : PartsAt w pv .i16 ps) (h0 : 0 < g) (h1 : g ≤ 16384) (hin : ∀ x ∈ ps.flatten, 0 ≤ x ∧ x ≤ (g : Int)) (hl : ps.flatten.length ≤ 2000) (hp : ps.length ≤ 20) :
    Calls Tryz.prog 29 #[.bool true, .int .i64 (g : Int), pv] w fun e w' => ∃ d L data fin, e = .returned (.tuple #[.slice (some ⟨d, 0, none⟩) fin L, .bool true]) ∧ Keep [] w w' ∧ w.heap.size ≤ d ∧
      fin = ((St.run (bitLen g) (ps.flatten.map Int.toNat)).finish (bitLen g)).length ∧ Blk w' d (rowV .u8 data) ∧ data.length = L ∧ data.take fin = (St.run (bitLen g) (ps.flatten.map Int.toNat)).finish (bitLen g) ∧ L ≤ 600000000 := by
  obtain ⟨ao, cap, rfl, hc, hcell⟩ := hP
  obtain ⟨n, hn'⟩ : ∃ n, n = ps.length := ⟨_, rfl⟩
  rw [← hn'] at hp hc ⊢
  obtain ⟨N, hN'⟩ : ∃ N, N = ps.flatten.length := ⟨_, rfl⟩
  obtain ⟨hW0, hW15, hsm⟩ := width_spec g h0 h1
  have hwr : IntKind.i16.wrap (g : Int) = (g : Int) := by simp only [IntKind.wrap, IntKind.bits, IntKind.signed]; simp; omega
  have hMax := fun w => maxLevelRle g N w h0 h1 (by omega)
  obtain ⟨W, hWd⟩ : ∃ W, W = bitLen g := ⟨_, rfl⟩
  rw [← hWd] at hMax hW0 hW15 hsm ⊢
  obtain ⟨L, hL⟩ : ∃ L, L = maxRle W N + minRle W := ⟨_, rfl⟩
  have hM2 : maxRle W N ≤ 300000 := by
    have h1 : (N + 7) / 8 * W ≤ 300 * 15 := Nat.mul_le_mul (by omega) hW15
    have h2 : (N + 7) / 8 * (1 + (W + 7) / 8) ≤ 300 * 100 := Nat.mul_le_mul (by omega) (by omega)
    unfold maxRle; omega
  have hm2 : minRle W ≤ 300000 := by unfold minRle; omega
  have hroom : Room W N L := by rw [hL]; exact room_rle W N hW0
  rw [← hL] at hMax
  have hLb : L ≤ 600000 := by omega
  have hmk := make_u8 (L : Int) L rfl (by omega)
  have Hn := Lib.hid hn'
  have HN := Lib.hid hN'
  have Hc := Lib.hid hcell
  have Hin := Lib.hid hin
  have Hroom := Lib.hid hroom
  have Hsm := Lib.hid hsm
  have Hl := Lib.hid hl
  have HWd := Lib.hid hWd
  clear hn' hN' hcell hin hroom hsm hl hL hM2 hm2 hWd
  have hCode : ∀ w, Calls Tryz.prog 73 #[.bool true] w fun e w' => e = .returned (.int .i64 3) ∧ w' = w := fun w => by simpa using levelsCodeC true w
  go_enter_defers Tryz.func29, Tryz.ntmps29
  go_wp2_with fail
  go_loopw [18, 8] (fun i c wr => ∃ k : Nat, k ≤ n ∧ i = .int .i64 (k : Int) ∧ c = .int .i64 ((ps.take k).flatten.length : Int) ∧ wr = (w.alloc (.cells #[.slice none 0 0] 28)).alloc (.cells #[.bool false] 4)) (fun i _ _ => n - (intOf i).toNat)
  case atStart => exact ⟨0, Nat.zero_le _, rfl, rfl, rfl⟩
  case round =>
    obtain ⟨k, hk, rfl, rfl, rfl⟩ := hrel
    by_cases hk2 : k < n
    · obtain ⟨l, hl⟩ : ∃ l, ps[k]? = some l := ⟨ps[k]'(by rw [← Hn.out]; exact hk2), by simp⟩
      obtain ⟨a, lv, rfl, hca, ao2, cap2, rfl, hc2, -, -⟩ := Hc.out k l hl
      have hca := (((Keep.refl [] w).alloc (.cells #[.slice none 0 0] 28)).alloc (.cells #[.bool false] 4)).cell_some hca (by simp)
      have hnext : (ps.take (k + 1)).flatten.length = (ps.take k).flatten.length + l.length := by
        rw [take_flat hl, List.length_append]
      have hle := flat_le ps (k + 1)
      rw [hnext] at hle
      have hl2 := Hl.out
      obtain ⟨m, hm⟩ : ∃ m, m = l.length := ⟨_, rfl⟩
      rw [← hm] at hca hc2 hnext hle
      have Hnext := Lib.hid hnext
      obtain ⟨F, hF⟩ : ∃ F, F = (ps.take k).flatten.length := ⟨_, rfl⟩
      rw [← hF] at hle ⊢
      have HF := Lib.hid hF
      clear hnext hm hl hF hCode hMax hmk
      go_wp2
      go_roundw
      case rel => exact ⟨k + 1, hk2, by go_num, by rw [Hnext.out, ← HF.out]; go_num, trivial⟩
      case measure => simp [intOf]; omega
    · have hkn : k = n := by omega
      subst hkn
      have hpl : (ps.take k).flatten.length = N := by rw [List.take_of_length_le (by rw [← Hn.out]; exact Nat.le_refl _)]; exact HN.out.symm
      rw [hpl]
      clear hpl
      go_wp2_with (first
        | (go_at_call 73; refine (hCode _).mono ?_; rintro e w' ⟨rfl, rfl⟩)
        | (go_at_call 72; refine (hMax _).mono ?_; rintro e w' ⟨rfl, rfl⟩))
      obtain ⟨w3, hw3⟩ : ∃ w3, w3 = ((((w.alloc (Obj.cells #[Value.slice (some ⟨w.heap.size + 1 + 1, 0, none⟩) L L] 28)).alloc (Obj.cells #[Value.bool false] 4)).alloc (Obj.cells (rowV .u8 (List.replicate L 0)).toArray 5)).alloc
        (Obj.cells #[Value.int .i64 0, Value.int .i64 0, Value.int .i64 0, Value.pointer none, Value.pointer none] 159)) := ⟨_, rfl⟩
      rw [← hw3]
      have K3 : Keep [] w w3 := by rw [hw3]; exact ((((Keep.refl [] w).alloc _).alloc _).alloc _).alloc _
      have hs3 : w3.heap.size = w.heap.size + 1 + 1 + 1 + 1 := by rw [hw3]; simp
      have hA3 : Blk w3 w.heap.size [.slice (some ⟨w.heap.size + 1 + 1, 0, none⟩) L L] := by
        rw [hw3]; exact (((Blk.of_new (cs := [.slice (some ⟨w.heap.size + 1 + 1, 0, none⟩) L L]) rfl).alloc _).alloc _).alloc _
      have hT3 : Blk w3 (w.heap.size + 1) [.bool false] := by
        rw [hw3]; exact ((Blk.of_new (cs := [.bool false]) (by simp)).alloc _).alloc _
      have hD3 : Blk w3 (w.heap.size + 1 + 1) (rowV .u8 (List.replicate L 0)) := by
        rw [hw3]; exact (Blk.of_new (by simp)).alloc _
      have hX3 : Blk w3 (w.heap.size + 1 + 1 + 1) (leCells 0 0 0 (.pointer none) (.pointer none)) := by
        rw [hw3]; exact Blk.of_new (by simp)
      have cA3 := hA3.cell (i := 0) rfl
      have fA3 := hA3.unfrozen
      obtain ⟨P5, hP5⟩ : ∃ P5 : World → Prop, P5 = fun wx => Keep [] w3 wx ∧ Blk wx (w.heap.size + 1 + 1 + 1 + 1) [.slice (some ⟨w.heap.size + 1 + 1, 0, none⟩) L L] ∧ w.heap.size + 5 ≤ wx.heap.size := ⟨_, rfl⟩
      have hNW : ∀ wx, Keep [] w3 wx → wx.heap.size = w3.heap.size → Calls Tryz.prog 37 #[.slice (some ⟨w.heap.size + 1 + 1, 0, none⟩) L L] wx fun e w' => e = .returned (.iface 176 (.pointer (some ⟨w.heap.size + 1 + 1 + 1 + 1, 0, none⟩))) ∧ P5 w' := fun wx kx hsx => by
        refine (newWriterAt (w.heap.size + 1 + 1) L L wx).mono ?_
        rintro e w' ⟨rfl, rfl⟩
        rw [hsx, hs3, hP5]
        exact ⟨rfl, kx.alloc _, Blk.of_new (by rw [hsx, hs3]), by simp; omega⟩
      obtain ⟨P6, hP6⟩ : ∃ P6 : World → Prop, P6 = fun wx => ∃ r b gg, Keep [w.heap.size + 1 + 1 + 1] w3 wx ∧ w.heap.size + 5 ≤ r ∧ w.heap.size + 5 ≤ b ∧ w.heap.size + 5 ≤ gg ∧ EncS wx r b (w.heap.size + 1 + 1 + 1 + 1) (w.heap.size + 1 + 1) gg L W ⟨0, 0, 0, [], [], none⟩ ∧
        Blk wx (w.heap.size + 1 + 1 + 1) (leCells W 0 3 (.pointer (some ⟨r, 0, none⟩)) (.pointer none)) := ⟨_, rfl⟩
      have hI : ∀ wx, P5 wx → Calls Tryz.prog 74 #[.pointer (some ⟨w.heap.size + 1 + 1 + 1, 0, none⟩), .int .i64 3, .int .i16 (g : Int), .iface 176 (.pointer (some ⟨w.heap.size + 1 + 1 + 1 + 1, 0, none⟩))] wx fun e w' => e = .returned (.tuple #[]) ∧ P6 w' := fun wx h5 => by
        rw [hP5] at h5
        obtain ⟨k5, h5a, h5b⟩ := h5
        refine (initRle (w.heap.size + 1 + 1 + 1) g (w.heap.size + 1 + 1 + 1 + 1) (w.heap.size + 1 + 1) L wx (hX3.keep k5 (by simp)) h5a (hD3.keep k5 (by simp)) (by omega) (by omega) (by omega) (by omega) h0 h1).mono ?_
        rintro e w' ⟨r, b, gg, rfl, k6, hr, hb, hg, hE, hx⟩
        rw [hP6]
        rw [← HWd.out] at hE hx
        exact ⟨rfl, r, b, gg, (k5.weaken (S' := [w.heap.size + 1 + 1 + 1]) (by simp)).trans k6 (by simp), by omega, by omega, by omega, hE, hx⟩
      have h5d : ∀ wx, P5 wx → P5 wx.drew := fun wx h => by rw [hP5] at h ⊢; exact ⟨h.1.drew, h.2.1.drew, h.2.2⟩
      have h5n : ∀ wx j, P5 wx → P5 (wx.drewN j) := fun wx j h => by rw [hP5] at h ⊢; exact ⟨h.1.drewN j, h.2.1.drewN j, h.2.2⟩
      have HK3 := Lib.hid K3
      have HT3 := Lib.hid hT3
      have HA3 := Lib.hid hA3
      have HP6 := Lib.hid hP6
      clear hw3 hA3 hT3 hD3 hX3 K3 hP6
      go_cut [] from 34 (fun wx => P6 wx)
      case first =>
        refine only_normal ?_
        go_region_with (first
          | (go_at_call 73; refine (hCode _).mono ?_; rintro e w' ⟨rfl, rfl⟩)
          | (go_at_call 37; refine (hNW _ (by first | exact Keep.refl _ _ | exact (Keep.refl [] _).drew | exact (Keep.refl [] _).drewN _) (by first | rfl | simp)).mono ?_; rintro e w5 ⟨rfl, h5⟩)
          | (go_at_call 74; refine (hI _ (by first | assumption | exact h5d _ (by assumption) | exact h5n _ _ (by assumption))).mono ?_; rintro e w6 ⟨rfl, h6⟩))
        all_goals
          go_wp2_with fail
          go_meet
          exact h6
      case rest =>
        rw [HP6.out] at hcut
        obtain ⟨r, b, gg, k6, hr, hb, hg, hE6, hX6⟩ := hcut
        have K6 : Keep [] w wc := HK3.out.trans k6 (by simp; omega)
        have hA6 := HA3.out.keep k6 (by simp; omega)
        have hT6 := HT3.out.keep k6 (by simp)
        obtain ⟨hne1, hne2, hne3⟩ : w.heap.size ∉ [r, b, w.heap.size + 1 + 1, gg] ∧ w.heap.size + 1 ∉ [r, b, w.heap.size + 1 + 1, gg] ∧ w.heap.size + 1 + 1 + 1 ∉ [r, b, w.heap.size + 1 + 1, gg] := ⟨by simp; omega, by simp; omega, by simp; omega⟩
        have hold : ∀ a : Addr, a.block < w.heap.size → a.block ∉ [r, b, w.heap.size + 1 + 1, gg] := fun a ha hm => by
          simp only [List.mem_cons, List.not_mem_nil, or_false] at hm; omega
        have Hold := Lib.hid hold
        have HE6 := Lib.hid hE6
        have HX6 := Lib.hid hX6
        have HA6 := Lib.hid hA6
        have HT6 := Lib.hid hT6
        have Hk6 := Lib.hid K6
        clear k6 hE6 hX6 hA6 hT6 K6 hold hI hNW h5d h5n hCode hMax hmk
        go_wp2_with fail
        go_loopw [43] (fun i wr => ∃ j : Nat, j ≤ k ∧ i = .int .i64 (j : Int) ∧ Keep [r, b, w.heap.size + 1 + 1, gg] wc wr ∧ EncS wr r b (w.heap.size + 1 + 1 + 1 + 1) (w.heap.size + 1 + 1) gg L W (St.run W ((ps.take j).flatten.map Int.toNat))) (fun i _ => k - (intOf i).toNat)
        case atStart => exact ⟨0, Nat.zero_le _, rfl, Keep.refl _ _, HE6.out⟩
        case round =>
          obtain ⟨j, hj, rfl, kj, hEj⟩ := hrel
          have hAj := HA6.out.keep kj hne1
          have hTj := HT6.out.keep kj hne2
          have hXj := HX6.out.keep kj hne3
          by_cases hj2 : j < k
          · obtain ⟨l, hl⟩ : ∃ l, ps[j]? = some l := ⟨ps[j]'(by rw [← Hn.out]; exact hj2), by simp⟩
            obtain ⟨a, lv, rfl, hca, hI⟩ := Hc.out j l hl
            have hlb := World.block_lt_of_cell? _ _ hca
            have hca := kj.cell_some (Hk6.out.cell_some hca (by simp)) (Hold.out _ hlb)
            have hin2 : ∀ x ∈ l, 0 ≤ x ∧ x ≤ (g : Int) := fun x hx => Hin.out x (List.mem_flatten.2 ⟨l, List.mem_of_getElem? hl, hx⟩)
            have hR : RowAt wr lv .i16 (l.map Int.toNat) := (hI.row (fun x hx => (hin2 x hx).1)).keep (Hk6.out.trans kj (by simp only [List.mem_cons, List.not_mem_nil, or_false]; omega))
            have hsm2 : ∀ k, ∀ v ∈ (ps.take k).flatten.map Int.toNat, v < 2 ^ W := fun k v hv => by
              rw [List.mem_map] at hv
              obtain ⟨x, hx, rfl⟩ := hv
              obtain ⟨l', hl', hx'⟩ := List.mem_flatten.1 hx
              have := Hin.out x (List.mem_flatten.2 ⟨l', List.mem_of_mem_take hl', hx'⟩)
              exact Hsm.out _ (by omega)
            have hnext := take_flat hl
            have hlen : ((ps.take j).flatten.map Int.toNat ++ l.map Int.toNat).length ≤ N := by
              rw [← List.map_append, ← hnext, List.length_map, HN.out]; exact flat_le ps _
            have hN2 := Hl.out
            obtain ⟨ao2, cap2, rfl, hc2, hcl, h4⟩ := hI
            have hEnc := encRle (w.heap.size + 1 + 1 + 1) r b (w.heap.size + 1 + 1 + 1 + 1) (w.heap.size + 1 + 1) gg L W N 0 ((ps.take j).flatten.map Int.toNat) (l.map Int.toNat) _ wr hXj hEj hR
              (fun v hv => hsm2 (j + 1) v (by rw [hnext, List.map_append]; exact List.mem_append_right _ hv)) (hsm2 j) hW0 hW15 hlen (by rw [HN.out]; omega) Hroom.out (fun a' c h0 he hm => by
                rw [List.length_map] at h0
                obtain ⟨a2, e2, hc2⟩ := hcl 0 l[0] (by simp)
                have h9 := World.block_lt_of_cell? _ _ hc2
                have e : (a2.add 0).block = a2.block := by unfold Addr.add; split <;> rfl
                rw [e] at h9
                have e3 : ao2 = some a' := by injection he
                rw [e2] at e3
                obtain rfl := Option.some.inj e3
                omega)
            rw [← List.map_append, ← hnext, List.length_map] at hEnc
            obtain ⟨m, hm⟩ : ∃ m, m = l.length := ⟨_, rfl⟩
            rw [← hm] at hca hEnc
            have HEnc := Lib.hid hEnc
            clear hEnc hm hnext hlen hR hin2 hsm2 hcl h4 hc2 hl hXj hAj hTj hEj
            go_wp2_with fail
            refine HEnc.out.mono ?_
            rintro e w7 ⟨rfl, k7, hE7⟩
            have HE7 := Lib.hid hE7
            have K7 := kj.trans k7 (fun x hx => .inl hx)
            clear hE7 k7 HEnc
            go_wp2
            go_roundw
            case rel => exact ⟨j + 1, hj2, by go_num, K7, HE7.out⟩
            case measure => simp [intOf]; omega
          · have hjk : j = k := by omega
            subst hjk
            rw [List.take_of_length_le (by rw [← Hn.out]; exact Nat.le_refl _)] at hEj
            have hvl : (ps.flatten.map Int.toNat).length ≤ N := by rw [List.length_map, HN.out]; exact Nat.le_refl _
            have hN9 : N ≤ 99999 := by rw [HN.out]; have := Hl.out; omega
            have hinv := run_inv hW0 (ps.flatten.map Int.toNat) (by omega) (fun v hv => by
              rw [List.mem_map] at hv
              obtain ⟨x, hx, rfl⟩ := hv
              have := Hin.out x hx
              exact Hsm.out _ (by omega))
            obtain ⟨o1, o2, o3, o4⟩ := hinv.ok (n := N) (L := L) hW0 (by omega) hvl hN9 Hroom.out
            obtain ⟨f1, f2⟩ := hinv.finish (n := N) (L := L) hW0 (by omega) hvl hN9 Hroom.out
            have hF := levFlushRle (w.heap.size + 1 + 1 + 1) r b (w.heap.size + 1 + 1 + 1 + 1) (w.heap.size + 1 + 1) gg L W 0 _ wr hXj hEj o1 hW0 (by omega) o3 o4 f1 (by omega) (by omega) (by omega) (by omega)
            obtain ⟨fin, hfin⟩ : ∃ fin, fin = (St.finish W (St.run W (ps.flatten.map Int.toNat))).length := ⟨_, rfl⟩
            rw [← hfin] at hF f1
            have hF2 : Calls Tryz.prog 76 #[.pointer (some ⟨w.heap.size + 1 + 1 + 1, 0, none⟩)] wr fun e w' => e = .returned (.tuple #[]) ∧ FlushPost w fin L W r (St.finish W (St.run W (ps.flatten.map Int.toNat))) w' := by
              refine hF.mono ?_
              rintro e w8 ⟨rfl, k8, hx8, data, hd8, hdl, hdt⟩
              exact ⟨rfl, (Hk6.out.trans kj (by simp only [List.mem_cons, List.not_mem_nil, or_false]; omega)).trans k8 (by simp only [List.mem_cons, List.not_mem_nil, or_false]; omega), hAj.keep k8 (by simp; omega), hTj.keep k8 (by simp; omega), hx8, data, hd8, hdl, hdt⟩
            have HF := Lib.hid hF2
            have Hfin := Lib.hid hfin
            clear hF hF2 hfin f2 o1 o2 o3 o4 hinv hvl hN9 hXj hAj hTj hEj kj
            go_wp2_with fail
            refine HF.out.mono ?_
            rintro e w8 ⟨rfl, hP8⟩
            obtain ⟨k8, hA8, hT8, hX8, data, hd8, hdl, hdt⟩ := hP8
            have cA8 := hA8.cell (i := 0) rfl
            have fA8 := hA8.unfrozen
            have Hk8 := Lib.hid k8
            have HA8 := Lib.hid hA8
            have HT8 := Lib.hid hT8
            have Hd8 := Lib.hid hd8
            have Hdt := Lib.hid (And.intro hdl hdt)
            have hLen : ∀ wx, Blk wx (w.heap.size + 1 + 1 + 1) (leCells W fin 3 (.pointer (some ⟨r, 0, none⟩)) (.pointer none)) → Calls Tryz.prog 77 #[.pointer (some ⟨w.heap.size + 1 + 1 + 1, 0, none⟩)] wx fun e w' => e = .returned (.int .i64 (fin : Int)) ∧ w' = wx := fun wx hx => levLen _ r W fin wx hx
            have HL := Lib.hid hLen
            have HX8 := Lib.hid hX8
            clear HF k8 hA8 hT8 hd8 hdl hdt hLen hX8
            go_wp2_with fail
            go_cut [] from 63 (fun wx => Keep [w.heap.size] w8 wx ∧ Blk wx w.heap.size [.slice (some ⟨w.heap.size + 1 + 1, 0, none⟩) fin L])
            case first =>
              refine only_normal ?_
              go_region_with (go_at_call 77; refine (HL.out _ (by first | exact HX8.out | exact HX8.out.drew | exact HX8.out.drewN _)).mono ?_; rintro e w9 ⟨rfl, rfl⟩)
              all_goals
                go_wp2_with fail
                go_meet
                exact ⟨((Keep.refl _ w8).drew).set (by simp) _ _ _, HA8.out.drew.set 0 (.slice (some ⟨w.heap.size + 1 + 1, 0, none⟩) fin L)⟩
            case rest =>
              obtain ⟨k9, hA9⟩ := hcut
              have hT9 := HT8.out.keep k9 (by simp)
              have hd9 := Hd8.out.keep k9 (by simp; omega)
              have K9 := Hk8.out.trans k9 (by simp)
              have cA9 := hA9.cell (i := 0) rfl
              have fA9 := hA9.unfrozen
              have cT9 := hT9.cell (i := 0) rfl
              have fT9 := hT9.unfrozen
              go_wp2
              refine leaves_cons (f := 33) (args := #[.pointer (some ⟨w.heap.size, 0, none⟩), .pointer (some ⟨w.heap.size + 1, 0, none⟩)]) (by simp) (by simp [go_sem]) ?_
              refine (noBytes_idle ⟨w.heap.size, 0, none⟩ ⟨w.heap.size + 1, 0, none⟩ _).mono ?_
              rintro e u' w'' ⟨rfl, rfl, rfl⟩
              have hA7 := (hA9.set 0 (.slice (some ⟨w.heap.size + 1 + 1, 0, none⟩) fin L)).set_other (c := w.heap.size + 1) (by omega) 0 none (.bool true)
              have hT7 := (hT9.set_other (c := w.heap.size) (by omega) 0 none (.slice (some ⟨w.heap.size + 1 + 1, 0, none⟩) fin L)).set 0 (.bool true)
              have cA7 := hA7.cell (i := 0) rfl
              have cT7 := hT7.cell (i := 0) rfl
              have K7 : Keep [] w ((wc.setCell ⟨w.heap.size, 0, none⟩ (.slice (some ⟨w.heap.size + 1 + 1, 0, none⟩) fin L)).setCell ⟨w.heap.size + 1, 0, none⟩ (.bool true)) :=
                (K9.set (by simp) _ _ _).set (by simp) _ _ _
              have hd7 := (hd9.set_other (c := w.heap.size) (by omega) 0 none (.slice (some ⟨w.heap.size + 1 + 1, 0, none⟩) fin L)).set_other (c := w.heap.size + 1) (by omega) 0 none (.bool true)
              refine ⟨.tuple #[.slice (some ⟨w.heap.size + 1 + 1, 0, none⟩) fin L, .bool true], ?_, w.heap.size + 1 + 1, L, data, fin, rfl, K7, by omega, Hfin.out, hd7, Hdt.out.1, by rw [Hdt.out.2], by omega⟩
              clear hA7 hT7 K7 hd7 hd9 hA9 hT9
              obtain ⟨w7, hw7⟩ : ∃ w7, w7 = ((wc.setCell ⟨w.heap.size, 0, none⟩ (.slice (some ⟨w.heap.size + 1 + 1, 0, none⟩) fin L)).setCell ⟨w.heap.size + 1, 0, none⟩ (.bool true)) := ⟨_, rfl⟩
              rw [← hw7] at cA7 cT7 ⊢
              clear hw7
              simp [results, Tryz.results29, go_sem, cA7, cT7]
end Go.Proofs.YtlolcgklcnechaaGreatDoor
