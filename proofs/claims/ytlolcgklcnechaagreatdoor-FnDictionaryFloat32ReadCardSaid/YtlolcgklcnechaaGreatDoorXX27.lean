/- TypedRleDecoder[float32].GetBatchWithDict. dictDecoder[float32]: decode, discard; typedDictDecoder[float32]: Decode, Discard. -/
import Derived.Test.YtlolcgklcnechaaGreatDoorXX28
import Derived.Test.YtlolcgklcnechaaGreatDoorXX30
set_option linter.unusedVariables false
set_option linter.unusedSimpArgs false
namespace Go.Proofs.YtlolcgklcnechaaGreatDoor
open Go.RowKit

theorem zero_idx : Tryz.zeroCells286 = (rowV .i32 (List.replicate 1024 0)).toArray := by kernel_rfl

theorem ends_eq {B : DecB} {w : World} {L : List Nat} {cur rep lit P : Nat} {rs : List Rn} {rest : List Nat} (h : DecSt B w L cur rep lit P rs rest) (h0 : 0 < rep) : cur ∈ L := by
  rcases h.st with ⟨_, _, rfl⟩ | ⟨h, _⟩
  · rw [List.mem_append, List.mem_replicate]
    exact .inl ⟨by omega, rfl⟩
  · omega

theorem BR.keepD {lo : Nat} {av F : List Nat} {w w' : World} {q : Nat} {x : XP} {d o n cap : Nat} {ea : Addr} {D : List Nat} {buf bo bi vb : Nat} (h : BR w q x d o n cap ea D buf bo bi vb) (k : KeepD lo av F w w') (hl : q < lo ∧ x.b < lo ∧ d < lo ∧ 4 < lo)
    (hq : q ∉ F) (hx : x.b ∉ F) (hd : d ∉ F) (he : 4 ∉ F) : BR w' q x d o n cap ea D buf bo bi vb := by
  obtain ⟨S, k, hS⟩ := k.out
  exact h.keep k (hS _ (.inl hl.1) hq) (hS _ (.inl hl.2.1) hx) (hS _ (.inl hl.2.2.1) hd) (hS _ (.inl hl.2.2.2) he)

theorem bitVals_mem {D : List Nat} {p W b lit : Nat} {X L : List Nat} (hb : b ≤ lit) (h : L = bitVals D p W lit ++ X) : ∀ a ∈ bitVals D p W b, a ∈ L := by
  intro a ha
  rw [h, show lit = b + (lit - b) by omega, bitVals_add]
  simp [ha]

theorem idx_cell {w : World} {ib : Nat} {ics : List Value} {A' : List Nat} (h : Blk w ib (splice ics 0 (rowV .i32 A'))) : ∀ (i a : Nat), A'[i]? = some a → w.cell? ⟨ib, 0 + i, none⟩ = some (.int .i32 (a : Int)) := by
  intro i a ha
  refine h.cell ?_
  have hi := (List.getElem?_eq_some_iff.1 ha).1
  rw [Nat.zero_add]
  unfold splice
  rw [List.take_zero, List.nil_append, List.getElem?_append_left (by simpa using hi)]
  exact rowV_get ha


set_option maxRecDepth 100000 in
set_option maxHeartbeats 8000000 in
theorem withDictC (B : DecB) (L : List Nat) (lo : Nat) (av : List Nat) (cb pd d num len cap : Nat) (Dd : List Nat) (v vo m vc : Nat) (vcs : List Value) (w : World)
    (h : DecAt B w L) (hC : ∃ k, ConvAt lo av w cb pd d num len cap Dd k) (ap : Apart B lo [cb, pd, d]) (hlo : lo ≤ w.heap.size) (hav : ∀ b ∈ av, b < w.heap.size) (hL : ∀ x ∈ L, x < num) (hW : B.W ≤ 31)
    (hv : Blk w v vcs) (h1 : ∀ u ∈ vcs, u.oneCell' = true) (hva : v ∈ av ∨ v < lo) (vt : v ≠ B.t) (vq : v ≠ B.q) (vx : v ≠ B.x.b) (vd : v ≠ B.d) (ve : v ≠ 4) (v1 : v ≠ cb) (v2 : v ≠ pd) (v3 : v ≠ d)
    (hvo : vo + m ≤ vcs.length) (hmL : m ≤ L.length) (hm : m ≤ 1000000) (hmc : m ≤ vc) :
    Calls Tryz.prog 141 #[.pointer (some ⟨B.t, 0, none⟩), .iface 197 (.pointer (some ⟨cb, 0, none⟩)), .slice (some ⟨v, vo, none⟩) m vc] w fun e w' => WithDictPost B L lo av cb pd d num len cap Dd v vo m vcs w e w' := by
  have hv0 : Blk w v (splice vcs vo (rowF ((L.take 0).map (f32At Dd)))) := by simpa [splice, rowF] using hv
  have ok : B.Ok := by obtain ⟨_, _, _, _, _, _, h⟩ := h; exact h.ok
  have Hok := Lib.hid ok
  obtain ⟨tq, tx, td, te, W0, W64, n8⟩ := ok
  have HL := Lib.hid (And.intro hmL hL)
  have HA := Lib.hid (And.intro hav h1)
  have m1 := method_IsValidSingle ⟨cb, 0, none⟩
  have m2 := method_IsValid ⟨cb, 0, none⟩
  have m3 := method_Copy ⟨cb, 0, none⟩
  have m4 := method_Fill ⟨cb, 0, none⟩
  have m5 := ahead_Fill ⟨cb, 0, none⟩
  have hvl := hv.lt
  have HH := Lib.hid (And.intro h (And.intro hC hv0))
  clear hmL hL hav h1 h hC hv hv0
  go_enter Tryz.func141, Tryz.ntmps141
  go_wp2_with fail
  rw [zero_idx]
  obtain ⟨w1, hw1⟩ : ∃ w1, w1 = w.alloc (Obj.cells (rowV .i32 (List.replicate 1024 0)).toArray 286) := ⟨_, rfl⟩
  rw [← hw1]
  obtain ⟨ib, hib0⟩ : ∃ ib, ib = w.heap.size := ⟨_, rfl⟩
  have K1 : Keep [] w w1 := by rw [hw1]; exact (Keep.refl [] w).alloc _
  have hs1 : w1.heap.size = ib + 1 := by rw [hw1, hib0]; simp
  have hI1 : Blk w1 ib (rowV .i32 (List.replicate 1024 0)) := by rw [hw1]; exact Blk.of_new hib0
  rw [← hib0]
  have hC1 : ∃ k, ConvAt lo (ib :: av) w1 cb pd d num len cap Dd k := by
    obtain ⟨k, hk⟩ := HH.out.2.1
    exact ⟨k, (hk.avoid (av' := ib :: av) (fun b hb => by
      rcases List.mem_cons.1 hb with rfl | hb
      · exact .inr (by omega)
      · exact .inl hb)).keep K1 (by simp)⟩
  have hD1 := HH.out.1.keep K1 (by simp) (by simp) (by simp) (by simp) (by simp)
  have hV1 := HH.out.2.2.keep K1 (by simp)
  have kk1 : KeepD lo av [B.t, B.q, B.x.b, v, cb, pd] w w1 := KeepD.of K1 (by simp)
  have hav1 : ∀ b ∈ ib :: av, b < ib + 1 := fun b hb => by
    rcases List.mem_cons.1 hb with rfl | hb
    · omega
    · have := HA.out.1 b hb; omega
  have hiav : ib ∉ av := fun h => by have := HA.out.1 ib h; omega
  have hlo2 : lo ≤ ib := by omega
  have hwi : w.heap.size ≤ ib := by omega
  have hvi : v ≠ ib := by omega
  have ht' := ap.t.1
  have hq' := ap.q.1
  have hx' := ap.x.1
  have hd' := ap.d.1
  have he' := ap.e.1
  have hva2 : v ∈ ib :: av ∨ v < lo := hva.elim (fun h => .inl (by simp [h])) .inr
  have HAV := Lib.hid hav1
  have hne1 : B.q ∉ [B.t, v, cb, pd] ∧ B.x.b ∉ [B.t, v, cb, pd] ∧ B.d ∉ [B.t, v, cb, pd] ∧ 4 ∉ [B.t, v, cb, pd] := by
    have a1 := ap.q.2
    have a2 := ap.x.2
    have a3 := ap.d.2
    have a4 := ap.e.2
    simp at a1 a2 a3 a4 ⊢
    exact ⟨⟨Ne.symm tq, Ne.symm vq, a1.1, a1.2.1⟩, ⟨Ne.symm tx, Ne.symm vx, a2.1, a2.2.1⟩, ⟨Ne.symm td, Ne.symm vd, a3.1, a3.2.1⟩, ⟨Ne.symm te, Ne.symm ve, a4.1, a4.2.1⟩⟩
  have Hne := Lib.hid hne1
  clear HH hw1 K1 hib0 hav1 hva
  go_loopw [2, 8] (fun o i wr => ∃ k s r c : Nat, k ≤ m ∧ i = .int .i64 (k : Int) ∧ o = .slice (some ⟨v, vo + s, none⟩) r c ∧ r = m - k ∧ c = vc - k ∧ (k < m → s = k) ∧ (∃ kd, ConvAt lo (ib :: av) wr cb pd d num len cap Dd kd) ∧ ib + 1 ≤ wr.heap.size ∧
      KeepD lo av [B.t, B.q, B.x.b, v, cb, pd] w wr ∧ DecAt B wr (L.drop k) ∧ Blk wr v (splice vcs vo (rowF ((L.take k).map (f32At Dd)))) ∧ ∃ ics, Blk wr ib ics ∧ ics.length = 1024)
    (fun _ i wr => 2 * (m - (intOf i).toNat) + idle B.t wr)
  case atStart => exact ⟨0, 0, m, vc, Nat.zero_le _, rfl, rfl, rfl, rfl, fun _ => rfl, hC1, by omega, kk1, by simpa using hD1, hV1, _, hI1, by simp⟩
  case round =>
    obtain ⟨k, s, r, c, hk, rfl, rfl, hr, hc, hs, ⟨kd, hCv⟩, hsz, kk, hD, hV, ics, hI, hIl⟩ := hrel
    clear hC1 hD1 hV1 kk1 hI1
    have hne2 : ib ∉ [B.t, v, cb, pd] := by have := hCv.cl; have := hCv.pl; simp; omega
    have Hne2 := Lib.hid hne2
    clear hne1 hne2
    by_cases hk2 : k < m
    · have hsk := hs hk2
      subst hsk
      obtain ⟨cur, rep, lit, P, rs, rest, hS⟩ := hD
      obtain ⟨c0, c1, c2, c3, c4, cf⟩ := hS.cell
      have hri : (m : Int) - (s : Int) = (r : Int) := by omega
      have hrc : r ≤ c := by omega
      have hr0 : 0 < r := by omega
      have hrm : s + r = m := by omega
      have hsL : s ≤ L.length := by have := HL.out.1; omega
      have hAl : (L.take s).length = s := by simp; omega
      have HAl := Lib.hid hAl
      have hrepb := hS.repB
      have hlitb := hS.litB
      have hnumb := hCv.numb
      have Hc := Lib.hid hc
      have HI := Lib.hid (And.intro hI hIl)
      have HCv := Lib.hid hCv
      have HV := Lib.hid hV
      clear hs hr hc hAl hI hIl hCv hV
      by_cases hrep0 : 0 < rep
      · have hrepi : (0 : Int) < (rep : Int) := by omega
        have hlit0 : lit = 0 := by rcases hS.st with h | h <;> omega
        have hcT := hS.cells
        rw [hlit0] at hcT
        have hcur : cur < num := HL.out.2 cur (List.mem_of_mem_drop (ends_eq hS hrep0))
        have hcw : IntKind.i32.wrap (cur : Int) = (cur : Int) := by simp only [IntKind.wrap, IntKind.bits, IntKind.signed]; simp; omega
        obtain ⟨b, hb⟩ : ∃ b, b = min r rep := ⟨_, rfl⟩
        have hmin : min (r : Int) (rep : Int) = (b : Int) := by omega
        have hb0 : 0 < b := by omega
        have hbr : b ≤ r := by omega
        have hbc : b ≤ c := by omega
        have hbrep : b ≤ rep := by omega
        obtain ⟨k2, hk2'⟩ : ∃ k2, k2 = s + b := ⟨_, rfl⟩
        have hk2i : (s : Int) + (b : Int) = (k2 : Int) := by omega
        have hk2m : k2 ≤ m := by omega
        obtain ⟨rep2, hrep2⟩ : ∃ x, x = rep - b := ⟨_, rfl⟩
        have hrep2i : (rep : Int) - (b : Int) = (rep2 : Int) := by omega
        have hrep2b : rep2 < 1000000 := by omega
        have HT := Lib.hid hcT
        have HS := Lib.hid hS
        have HX := Lib.hid (And.intro hk2' (And.intro hrep2 hlit0))
        have HV1 := Lib.hid (isValidSingleC lo (ib :: av) cb pd d num len cap Dd kd cur wr HCv.out (by omega) (fun b hb => by have := HAV.out b hb; omega) hcur)
        clear hlit0 hcT hS hb hk2' hrep2
        go_wp2_with fail
        refine HV1.out.mono ?_
        rintro e wa ⟨rfl, ⟨Sa, kSa, hSa⟩, hCa⟩
        have kA : KeepD lo (ib :: av) [cb, pd] wr wa := KeepD.conv kSa hSa
        have hTa := HT.out.keepD kA (.inl ht') (fun h => ap.t.2 (by simp at h ⊢; omega))
        have c3 := hTa.cell (i := 3) rfl
        have cf := hTa.unfrozen
        have hVa := HV.out.keepD kA hva2.symm (by simp; exact ⟨v1, v2⟩)
        have hsa := kA.size
        have HFi := Lib.hid (convFillC lo (ib :: av) cb pd d num len cap Dd _ cur v (vo + s) b c (splice vcs vo (rowF ((L.take s).map (f32At Dd)))) wa.drew hCa.drew (by simp; omega) (fun b hb => by have := HAV.out b hb; simp; omega) hcur hVa.drew hva2 v1 v2 v3
          (one_splice HA.out.2 (one_rowF _)) hb0 (by omega) hbc (by rw [length_splice _ _ _ (by rw [length_rowF, List.length_map, HAl.out]; omega)]; omega))
        have HKA := Lib.hid (And.intro kA hTa)
        clear kSa hSa hCa kA hTa hVa c0 c1 c2 c4 HV1
        go_wp2_with fail
        refine wp_region_mid 8 (by kernel_rfl) (by kernel_rfl) ?_
        simp only [List.take_succ_cons, List.take_zero, List.drop_succ_cons, List.drop_zero]
        change wpStill _ _ (World.drew _) _ _ _
        repeat still_step
        refine wpStill_nil ?_
        go_wp2_with fail
        refine HFi.out.mono ?_
        rintro e wf ⟨rfl, ⟨Sf, kSf, hSf⟩, hCf, hVf⟩
        have kF : KeepD lo (ib :: av) [v, cb, pd] wa wf := by
          exact (KeepD.refl lo (ib :: av) [v, cb, pd] wa).drew.trans (av' := ib :: av) (F' := [v, cb, pd]) (KeepD.fill kSf hSf) (fun x hx => .inl hx) (fun x hx => hx)
        have hTf := HKA.out.2.keepD kF (.inl ht') (by simp; exact ⟨Ne.symm vt, fun h => ap.t.2 (by simp [h]), fun h => ap.t.2 (by simp [h])⟩)
        have c3 := hTf.cell (i := 3) rfl
        have cf := hTf.unfrozen
        have kAll : KeepD lo (ib :: av) [B.t, v, cb, pd] wr wf := ((KeepD.refl lo (ib :: av) [B.t, v, cb, pd] wr).trans HKA.out.1 (fun x hx => .inl (by simp at hx ⊢; omega)) (fun x hx => hx)).trans kF (fun x hx => .inl (by simp at hx ⊢; omega)) (fun x hx => hx)
        have HF := Lib.hid (And.intro hTf (And.intro (Exists.intro _ hCf) (And.intro hVf kAll)))
        clear kSf hSf hCf hVf kF hTf kAll HKA HFi
        go_wp2_with fail
        repeat still_step
        refine wpStill_nil ?_
        by_cases hcb : c = b
        · obtain rfl : r = b := by omega
          obtain rfl : c = r := hcb
          go_wp2
          go_roundw
          case rel =>
            have hc2 : Blk (wf.setCell ⟨B.t, 3, none⟩ (.int .i32 (rep2 : Int))) B.t (decCells B.q B.W cur (rep - c) 0) := by
              rw [← HX.out.2.1]; exact HF.out.1.set 3 (.int .i32 (rep2 : Int))
            obtain ⟨S, kS, hSn⟩ := (HF.out.2.2.2.set (b := B.t) (by simp) 3 none (.int .i32 (rep2 : Int))).out
            obtain ⟨e1, e2⟩ := HS.out.takeRep (b := c) (S := S) hrep0 hbrep hc2 kS (hSn _ (.inl hq') Hne.out.1) (hSn _ (.inl hx') Hne.out.2.1) (hSn _ (.inl hd') Hne.out.2.2.1) (hSn _ (.inl he') Hne.out.2.2.2)
            have hV2 := HF.out.2.2.1.set_other (c := B.t) vt 3 none (.int .i32 (rep2 : Int))
            have hI2 := ((HI.out.1.keepD HF.out.2.2.2 (.inr (by simp)) Hne2.out).set_other (c := B.t) (by omega) 3 none (.int .i32 (rep2 : Int)))
            have hC2 : ∃ kd, ConvAt lo (ib :: av) (wf.setCell ⟨B.t, 3, none⟩ (.int .i32 (rep2 : Int))) cb pd d num len cap Dd kd := by
              obtain ⟨kd2, hCf⟩ := HF.out.2.1
              exact ⟨kd2, hCf.keep ((Keep.refl [B.t] wf).set (b := B.t) (by simp) 3 none (.int .i32 (rep2 : Int))) (by simp; exact ⟨.inr ht', by simpa using ap.t.2⟩)⟩
            have kk2 : KeepD lo av [B.t, B.q, B.x.b, v, cb, pd] w _ := (kk.trans HF.out.2.2.2 (fun x hx => .inl (by simp at hx ⊢; omega)) (fun x hx => by simp [hx])).set (b := B.t) (by simp) 3 none (.int .i32 (rep2 : Int))
            have hsp := splice_then vcs (rowF ((L.take s).map (f32At Dd))) (rowF (List.replicate c (f32At Dd cur))) vo (by simp; omega)
            rw [length_rowF, List.length_map, HAl.out] at hsp
            rw [hsp, ← rowF_append, ← List.map_replicate, take_more e2, ← HX.out.1] at hV2
            rw [List.drop_drop, ← HX.out.1] at e1
            have hsz2 : ib + 1 ≤ (wf.setCell ⟨B.t, 3, none⟩ (.int .i32 (rep2 : Int))).heap.size := by have := HF.out.2.2.2.size; simp; omega
            exact ⟨k2, s, 0, 0, hk2m, rfl, rfl, by have := HX.out.1; omega, by have := Hc.out; have := HX.out.1; omega, fun h => by have := HX.out.1; omega, hC2, hsz2, kk2, ⟨_, _, _, _, _, _, e1⟩, hV2, _, hI2, HI.out.2⟩
          case measure =>
            have h1 := idle_le B.t (wf.setCell ⟨B.t, 3, none⟩ (.int .i32 (rep2 : Int)))
            have h2 := HX.out.1
            simp only [intOf, Int.toNat_natCast]
            omega
        · go_wp2
          go_roundw
          case rel =>
            have hc2 : Blk (wf.setCell ⟨B.t, 3, none⟩ (.int .i32 (rep2 : Int))) B.t (decCells B.q B.W cur (rep - b) 0) := by
              rw [← HX.out.2.1]; exact HF.out.1.set 3 (.int .i32 (rep2 : Int))
            obtain ⟨S, kS, hSn⟩ := (HF.out.2.2.2.set (b := B.t) (by simp) 3 none (.int .i32 (rep2 : Int))).out
            obtain ⟨e1, e2⟩ := HS.out.takeRep (b := b) (S := S) hrep0 hbrep hc2 kS (hSn _ (.inl hq') Hne.out.1) (hSn _ (.inl hx') Hne.out.2.1) (hSn _ (.inl hd') Hne.out.2.2.1) (hSn _ (.inl he') Hne.out.2.2.2)
            have hV2 := HF.out.2.2.1.set_other (c := B.t) vt 3 none (.int .i32 (rep2 : Int))
            have hI2 := ((HI.out.1.keepD HF.out.2.2.2 (.inr (by simp)) Hne2.out).set_other (c := B.t) (by omega) 3 none (.int .i32 (rep2 : Int)))
            have hC2 : ∃ kd, ConvAt lo (ib :: av) (wf.setCell ⟨B.t, 3, none⟩ (.int .i32 (rep2 : Int))) cb pd d num len cap Dd kd := by
              obtain ⟨kd2, hCf⟩ := HF.out.2.1
              exact ⟨kd2, hCf.keep ((Keep.refl [B.t] wf).set (b := B.t) (by simp) 3 none (.int .i32 (rep2 : Int))) (by simp; exact ⟨.inr ht', by simpa using ap.t.2⟩)⟩
            have kk2 : KeepD lo av [B.t, B.q, B.x.b, v, cb, pd] w _ := (kk.trans HF.out.2.2.2 (fun x hx => .inl (by simp at hx ⊢; omega)) (fun x hx => by simp [hx])).set (b := B.t) (by simp) 3 none (.int .i32 (rep2 : Int))
            have hsp := splice_then vcs (rowF ((L.take s).map (f32At Dd))) (rowF (List.replicate b (f32At Dd cur))) vo (by simp; omega)
            rw [length_rowF, List.length_map, HAl.out] at hsp
            rw [hsp, ← rowF_append, ← List.map_replicate, take_more e2, ← HX.out.1] at hV2
            rw [List.drop_drop, ← HX.out.1] at e1
            have hsz2 : ib + 1 ≤ (wf.setCell ⟨B.t, 3, none⟩ (.int .i32 (rep2 : Int))).heap.size := by have := HF.out.2.2.2.size; simp; omega
            exact ⟨k2, k2, r - b, c - b, hk2m, rfl, by rw [HX.out.1, Nat.add_assoc], by have := HX.out.1; omega, by have := Hc.out; have := HX.out.1; omega, fun _ => rfl, hC2, hsz2, kk2, ⟨_, _, _, _, _, _, e1⟩, hV2, _, hI2, HI.out.2⟩
          case measure =>
            have h1 := idle_le B.t (wf.setCell ⟨B.t, 3, none⟩ (.int .i32 (rep2 : Int)))
            have h2 := HX.out.1
            simp only [intOf, Int.toNat_natCast]
            omega
      · have hr0' : rep = 0 := by omega
        subst hr0'
        by_cases hlit0 : 0 < lit
        · have hliti : (0 : Int) < (lit : Int) := by omega
          obtain ⟨bo, bi, hBR, hbi64, hpP, hPn, hLe⟩ : ∃ bo bi, BRF wr B.q B.x B.d B.o B.n B.cap B.ea B.D bo bi ∧ bi ≤ 64 ∧ 8 * bo + bi + B.W * lit = 8 * P ∧ P ≤ B.n ∧ L.drop s = bitVals B.D (8 * bo + bi) B.W lit ++ valsR rs := by
            rcases hS.st with h | ⟨_, _, bo, bi, h⟩
            · omega
            · exact ⟨bo, bi, h⟩
          obtain ⟨p, hpp⟩ : ∃ p, 8 * bo + bi = p := ⟨_, rfl⟩
          rw [hpp] at hpP hLe
          obtain ⟨b, hb⟩ : ∃ b, b = min (min r lit) 1024 := ⟨_, rfl⟩
          have hmin := fun ts ty w => run_min3 ts ty (r : Int) (lit : Int) 1024 (b : Int) (by omega) w
          have hb0 : 0 < b := by omega
          have hbr : b ≤ r := by omega
          have hbc : b ≤ c := by omega
          have hblit : b ≤ lit := by omega
          have hb1 : b ≤ 1024 := by omega
          obtain ⟨k2, hk2'⟩ : ∃ k2, k2 = s + b := ⟨_, rfl⟩
          have hk2i : (s : Int) + (b : Int) = (k2 : Int) := by omega
          have hk2m : k2 ≤ m := by omega
          obtain ⟨lit2, hlit2⟩ : ∃ x, x = lit - b := ⟨_, rfl⟩
          have hlit2i : (lit : Int) - (b : Int) = (lit2 : Int) := by omega
          have hlit2b : lit2 < 1000000 := by omega
          have hsl := slice_idx ib b hb1
          have hWb : B.W * b ≤ B.W * lit := Nat.mul_le_mul_left _ hblit
          obtain ⟨A', hA'⟩ : ∃ A', A' = bitVals B.D p B.W b := ⟨_, rfl⟩
          have hAm : ∀ a ∈ A', a < num := fun a ha => HL.out.2 a (List.mem_of_mem_drop (bitVals_mem hblit hLe a (by rw [← hA']; exact ha)))
          have hAn : A'.length = b := by rw [hA']; simp
          have HG := batchIndexC B.q B.x B.d B.o B.n B.cap B.ea B.D bo bi ib 0 b 1024 B.W p ics wr.drew (BR.drew hBR) hbi64 hpp W0 hW HI.out.1.drew (by omega) (by omega) (by omega) (by omega) (by simp; omega) (by simp; omega) (by simp; omega) (by simp; omega) (by simp; omega) (by rw [HI.out.2]; omega) hb0 (by omega) hb1 n8 (by omega)
          unfold IndexPost at HG
          rw [← hA'] at HG
          have HG := Lib.hid HG
          have HT := Lib.hid hS.cells
          have HS := Lib.hid hS
          have HpP := Lib.hid hpP
          have HPn := Lib.hid hPn
          have HLe := Lib.hid hLe
          have HX := Lib.hid (And.intro hk2' hlit2)
          have HA' := Lib.hid (And.intro hA' (And.intro hAm hAn))
          clear hS hBR hpP hPn hLe hpp hb hk2' hlit2 hA' hAm hAn hWb
          go_wp2_with fail
          refine wp_region_mid 12 (by kernel_rfl) (by kernel_rfl) ?_
          simp only [List.take_succ_cons, List.take_zero, List.drop_succ_cons, List.drop_zero]
          change wpStill _ _ (World.drew _) _ _ _
          repeat still_step
          refine wpStill_nil ?_
          go_wp2_with fail
          refine HG.out.mono ?_
          rintro e w2 ⟨rfl, kI, bo2, bi2, hp2, hb2, hB2, hI2⟩
          obtain ⟨hA', hAm, hAn⟩ := HA'.out
          have kI2 : KeepD lo (ib :: av) [B.q, B.x.b, ib] wr w2 := (KeepD.refl lo (ib :: av) [B.q, B.x.b, ib] wr).drew.trans (KeepD.of kI (F := [B.q, B.x.b, ib]) (fun x hx => .inl hx)) (fun x hx => .inl hx) (fun x hx => hx)
          have hsI := kI2.size
          have hT2 := HT.out.keepD kI2 (.inl ht') (by simp; exact ⟨tq, tx, by omega⟩)
          have hV2 := HV.out.keepD kI2 hva2.symm (by simp; exact ⟨vq, vx, hvi⟩)
          have hcells := idx_cell hI2
          have apq := ap.q.2
          have apx := ap.x.2
          have hCv2 : ConvAt lo (ib :: av) w2 cb pd d num len cap Dd kd := HCv.out.drew.keep kI (fun b hb => by
            have h1 := HCv.out.cl
            have h2 := HCv.out.pl
            have h3 := HCv.out.dl
            simp at hb apq apx
            rcases hb with rfl | rfl | rfl
            · exact ⟨.inr hq', apq⟩
            · exact ⟨.inr hx', apx⟩
            · exact ⟨.inl (by simp), by omega, by omega, by omega⟩)
          have HVd := Lib.hid (isValidC lo (ib :: av) cb pd d num len cap Dd kd ib 0 b 1024 A' w2 hCv2 (by omega) (fun b hb => by have := HAV.out b hb; omega) hcells hAn hb0 (by omega) hAm)
          have HY := Lib.hid (And.intro hT2 (And.intro hV2 (And.intro hI2 (And.intro hB2 kI2))))
          have Hb2 := Lib.hid (And.intro hb2 hp2)
          clear kI kI2 hT2 hV2 hcells hCv2 hI2 hB2 hp2 HG hA' hAm hAn c0 c1 c2 c3 c4 cf hmin hb2 hsl
          go_wp2_with fail
          repeat still_step
          refine wpStill_nil ?_
          go_wp2_with fail
          refine HVd.out.mono ?_
          rintro e w3 ⟨mx, hmx, hall, rfl, ⟨S3, kS3, hS3⟩, hC3⟩
          have kV : KeepD lo (ib :: av) [cb, pd] w2 w3 := KeepD.conv kS3 hS3
          obtain ⟨hT2, hV2, hI2, hB2, kI2⟩ := HY.out
          obtain ⟨hA', hAm, hAn⟩ := HA'.out
          have hV3 := hV2.keepD kV hva2.symm (by simp; exact ⟨v1, v2⟩)
          have hI3 := hI2.keepD kV (.inr (by simp)) (fun h => Hne2.out (by simp at h ⊢; omega))
          have hcells := idx_cell hI3
          have hT3 := hT2.keepD kV (.inl ht') (fun h => ap.t.2 (by simp at h ⊢; omega))
          have hB3 := BR.keepD hB2 kV ⟨hq', hx', hd', he'⟩ (fun h => ap.q.2 (by simp at h ⊢; omega)) (fun h => ap.x.2 (by simp at h ⊢; omega)) (fun h => ap.d.2 (by simp at h ⊢; omega)) (fun h => ap.e.2 (by simp at h ⊢; omega))
          have hs3 := kV.size
          have HCp := Lib.hid (convCopyC lo (ib :: av) cb pd d num len cap Dd (max kd (mx + 1)) v (vo + s) r c ib 0 b 1024 A' (splice vcs vo (rowF ((L.take s).map (f32At Dd)))) w3 hC3 hV3 hva2 v1 v2 v3 hvi hcells hAn (by omega) (fun a ha => by have := hall a ha; omega) hbr
            (by rw [length_splice _ _ _ (by rw [length_rowF, List.length_map, HAl.out]; omega)]; omega))
          have HZ := Lib.hid (And.intro hT3 (And.intro hI3 (And.intro hB3 (And.intro kV hC3))))
          clear kS3 hS3 hC3 kV hV2 hI2 hB2 kI2 hT2 hV3 hI3 hcells hT3 hB3 hA' hAm hAn HVd hall hmx
          go_wp2_with fail
          refine HCp.out.mono ?_
          rintro e wf ⟨rfl, k4, hVf⟩
          obtain ⟨hT3, hI3, hB3, kV, hC3⟩ := HZ.out
          have hTf := hT3.keep k4 (by simp; exact Ne.symm vt)
          have c4 := hTf.cell (i := 4) rfl
          have cf := hTf.unfrozen
          have hIf := hI3.keep k4 (by simp; exact Ne.symm hvi)
          have hBf := BR.keep hB3 k4 (by simp; exact Ne.symm vq) (by simp; exact Ne.symm vx) (by simp; exact Ne.symm vd) (by simp; exact Ne.symm ve)
          have hCf : ∃ kd, ConvAt lo (ib :: av) wf cb pd d num len cap Dd kd := ⟨_, hC3.keep k4 (by simp; exact ⟨by simpa using hva2, v1, v2, v3⟩)⟩
          have kAll : KeepD lo av [B.t, B.q, B.x.b, v, cb, pd] w wf :=
            (((kk.trans HY.out.2.2.2.2 (fun x hx => by
              simp at hx ⊢
              rcases hx with rfl | rfl | rfl
              · exact .inl (by simp)
              · exact .inl (by simp)
              · exact .inr ⟨hlo2, hiav⟩) (fun x hx => by simp [hx])).trans kV (fun x hx => .inl (by simp at hx ⊢; omega)) (fun x hx => by simp [hx])).trans (av' := ib :: av) (KeepD.of k4 (F := [v]) (fun x hx => .inl hx)) (fun x hx => .inl (by simp at hx ⊢; omega)) (fun x hx => by simp [hx]))
          have hszf : ib + 1 ≤ wf.heap.size := by have := k4.size; omega
          rw [HA'.out.1] at hVf
          have hlI : (splice ics 0 (rowV .i32 A')).length = 1024 := by rw [length_splice _ _ _ (by rw [length_rowV, HA'.out.2.2, HI.out.2]; omega)]; exact HI.out.2
          have HlI := Lib.hid hlI
          have HF := Lib.hid (And.intro hTf (And.intro hCf (And.intro hVf (And.intro kAll (And.intro hBf hIf)))))
          clear hT3 hI3 hB3 kV hC3 hTf hIf hBf hCf kAll k4 hVf HCp HZ HY hlI
          by_cases hcb : c = b
          · obtain rfl : r = b := by omega
            obtain rfl : c = r := hcb
            go_wp2
            go_roundw
            case rel =>
              have hc2 : Blk (wf.setCell ⟨B.t, 4, none⟩ (.int .i32 (lit2 : Int))) B.t (decCells B.q B.W cur 0 (lit - c)) := by
                rw [← HX.out.2]; exact HF.out.1.set 4 (.int .i32 (lit2 : Int))
              obtain ⟨e1, e2⟩ := DecSt.takeLit (w := wr) (rep := 0) (bo := bo) (bi := bi) (b := c) Hok.out HS.out.rsOk HS.out.runs HS.out.litB HS.out.curB hblit HpP.out HPn.out HLe.out hc2 (BR.keep HF.out.2.2.2.2.1 ((Keep.refl [B.t] wf).set (b := B.t) (by simp) 4 none (.int .i32 (lit2 : Int))) (by simp; exact Ne.symm tq) (by simp; exact Ne.symm tx) (by simp; exact Ne.symm td) (by simp; exact Ne.symm te)) Hb2.out.1 Hb2.out.2
              have hV2 := HF.out.2.2.1.set_other (c := B.t) vt 4 none (.int .i32 (lit2 : Int))
              have hI2 := HF.out.2.2.2.2.2.set_other (c := B.t) (by omega) 4 none (.int .i32 (lit2 : Int))
              have hC2 : ∃ kd, ConvAt lo (ib :: av) (wf.setCell ⟨B.t, 4, none⟩ (.int .i32 (lit2 : Int))) cb pd d num len cap Dd kd := by
                obtain ⟨kd2, hCf⟩ := HF.out.2.1
                exact ⟨kd2, hCf.keep ((Keep.refl [B.t] wf).set (b := B.t) (by simp) 4 none (.int .i32 (lit2 : Int))) (by simp; exact ⟨.inr ht', by simpa using ap.t.2⟩)⟩
              have kk2 : KeepD lo av [B.t, B.q, B.x.b, v, cb, pd] w _ := HF.out.2.2.2.1.set (b := B.t) (by simp) 4 none (.int .i32 (lit2 : Int))
              have hsp := splice_then vcs (rowF ((L.take s).map (f32At Dd))) (rowF ((bitVals B.D p B.W c).map (f32At Dd))) vo (by simp; omega)
              rw [length_rowF, List.length_map, HAl.out] at hsp
              rw [hsp, ← rowF_append, take_more e2, ← HX.out.1] at hV2
              rw [List.drop_drop, ← HX.out.1] at e1
              have hsz2 : ib + 1 ≤ (wf.setCell ⟨B.t, 4, none⟩ (.int .i32 (lit2 : Int))).heap.size := by simp; exact hszf
              exact ⟨k2, s, 0, 0, hk2m, rfl, rfl, by have := HX.out.1; omega, by have := Hc.out; have := HX.out.1; omega, fun h => by have := HX.out.1; omega, hC2, hsz2, kk2, ⟨_, _, _, _, _, _, e1⟩, hV2, _, hI2, HlI.out⟩
            case measure =>
              have h1 := idle_le B.t (wf.setCell ⟨B.t, 4, none⟩ (.int .i32 (lit2 : Int)))
              have h2 := HX.out.1
              simp only [intOf, Int.toNat_natCast]
              omega
          · go_wp2
            go_roundw
            case rel =>
              have hc2 : Blk (wf.setCell ⟨B.t, 4, none⟩ (.int .i32 (lit2 : Int))) B.t (decCells B.q B.W cur 0 (lit - b)) := by
                rw [← HX.out.2]; exact HF.out.1.set 4 (.int .i32 (lit2 : Int))
              obtain ⟨e1, e2⟩ := DecSt.takeLit (w := wr) (rep := 0) (bo := bo) (bi := bi) (b := b) Hok.out HS.out.rsOk HS.out.runs HS.out.litB HS.out.curB hblit HpP.out HPn.out HLe.out hc2 (BR.keep HF.out.2.2.2.2.1 ((Keep.refl [B.t] wf).set (b := B.t) (by simp) 4 none (.int .i32 (lit2 : Int))) (by simp; exact Ne.symm tq) (by simp; exact Ne.symm tx) (by simp; exact Ne.symm td) (by simp; exact Ne.symm te)) Hb2.out.1 Hb2.out.2
              have hV2 := HF.out.2.2.1.set_other (c := B.t) vt 4 none (.int .i32 (lit2 : Int))
              have hI2 := HF.out.2.2.2.2.2.set_other (c := B.t) (by omega) 4 none (.int .i32 (lit2 : Int))
              have hC2 : ∃ kd, ConvAt lo (ib :: av) (wf.setCell ⟨B.t, 4, none⟩ (.int .i32 (lit2 : Int))) cb pd d num len cap Dd kd := by
                obtain ⟨kd2, hCf⟩ := HF.out.2.1
                exact ⟨kd2, hCf.keep ((Keep.refl [B.t] wf).set (b := B.t) (by simp) 4 none (.int .i32 (lit2 : Int))) (by simp; exact ⟨.inr ht', by simpa using ap.t.2⟩)⟩
              have kk2 : KeepD lo av [B.t, B.q, B.x.b, v, cb, pd] w _ := HF.out.2.2.2.1.set (b := B.t) (by simp) 4 none (.int .i32 (lit2 : Int))
              have hsp := splice_then vcs (rowF ((L.take s).map (f32At Dd))) (rowF ((bitVals B.D p B.W b).map (f32At Dd))) vo (by simp; omega)
              rw [length_rowF, List.length_map, HAl.out] at hsp
              rw [hsp, ← rowF_append, take_more e2, ← HX.out.1] at hV2
              rw [List.drop_drop, ← HX.out.1] at e1
              have hsz2 : ib + 1 ≤ (wf.setCell ⟨B.t, 4, none⟩ (.int .i32 (lit2 : Int))).heap.size := by simp; exact hszf
              exact ⟨k2, k2, r - b, c - b, hk2m, rfl, by rw [HX.out.1, Nat.add_assoc], by have := HX.out.1; omega, by have := Hc.out; have := HX.out.1; omega, fun _ => rfl, hC2, hsz2, kk2, ⟨_, _, _, _, _, _, e1⟩, hV2, _, hI2, HlI.out⟩
            case measure =>
              have h1 := idle_le B.t (wf.setCell ⟨B.t, 4, none⟩ (.int .i32 (lit2 : Int)))
              have h2 := HX.out.1
              simp only [intOf, Int.toNat_natCast]
              omega
        · have hl0 : lit = 0 := by omega
          subst hl0
          have hne : L.drop s ≠ [] := by
            intro h
            have := congrArg List.length h
            simp at this
            have := HL.out.1
            omega
          have hid1 := hS.idle_one
          have HS := Lib.hid hS
          have Hid1 := Lib.hid hid1
          clear hS hid1
          go_wp2_with fail
          refine (HS.out.next hne).mono ?_
          rintro e w2 ⟨rfl, kN, cur', rep', lit', P', rs', hpos, hS2⟩
          have hid2 := hS2.idle_zero hpos
          have hVn := HV.out.keep kN (by simp; exact ⟨vq, vt⟩)
          have hIn := HI.out.1.keep kN (by simp; omega)
          have apq := ap.q.2
          have apt := ap.t.2
          have hCn : ∃ kd, ConvAt lo (ib :: av) w2 cb pd d num len cap Dd kd := ⟨kd, HCv.out.keep kN (fun b hb => by
            simp at hb apq apt
            rcases hb with rfl | rfl
            · exact ⟨.inr hq', apq⟩
            · exact ⟨.inr ht', apt⟩)⟩
          have kkn : KeepD lo av [B.t, B.q, B.x.b, v, cb, pd] w w2 := kk.trans (av' := ib :: av) (KeepD.of kN (F := [B.q, B.t]) (fun x hx => .inl hx)) (fun x hx => .inl (by simp at hx ⊢; omega)) (fun x hx => by simp [hx])
          have hszn : ib + 1 ≤ w2.heap.size := Nat.le_trans hsz kN.size
          have HF := Lib.hid (And.intro hVn (And.intro hIn (And.intro hCn (And.intro kkn (And.intro hS2 hid2)))))
          clear hVn hIn hCn kkn hS2 hid2 kN c0 c1 c2 c3 c4 cf
          go_wp2
          go_roundw
          case rel => exact ⟨s, s, r, c, hk, rfl, rfl, by omega, Hc.out, fun _ => rfl, HF.out.2.2.1, hszn, HF.out.2.2.2.1, ⟨_, _, _, _, _, _, HF.out.2.2.2.2.1⟩, HF.out.1, _, HF.out.2.1, HI.out.2⟩
          case measure => rw [Hid1.out, HF.out.2.2.2.2.2]; simp only [intOf]; omega
    · have hkm : m = k := by omega
      subst hkm
      obtain ⟨hav, -⟩ := HA.out
      have hCf : ∃ kd, ConvAt lo av wr cb pd d num len cap Dd kd := ⟨kd, hCv.avoid (fun b hb => .inl (by simp [hb]))⟩
      have HF := Lib.hid (And.intro kk (And.intro hD (And.intro hCf hV)))
      clear kk hD hCf hV hCv hI hs
      go_wp2
      go_ret2
      exact ⟨rfl, HF.out.1, HF.out.2.1, HF.out.2.2.1, HF.out.2.2.2⟩
end Go.Proofs.YtlolcgklcnechaaGreatDoor
set_option linter.unusedVariables false
set_option linter.unusedSimpArgs false
namespace Go.Proofs.YtlolcgklcnechaaGreatDoor
open Go.RowKit

/-- A converter as its decoder holds it. -/
def convV (cb : Nat) : Value := .iface 197 (.pointer (some ⟨cb, 0, none⟩))

/-- The decoder at xb, with nv values left, over a dictionary: its numbers are L. -/
structure DictAt (lo : Nat) (av : List Nat) (w : World) (t q xb nv : Nat) (mem : Value) (dd o n cap : Nat) (ea : Addr) (D : List Nat) (W cb pd d num len dcap : Nat) (Dd L : List Nat) : Prop where
  dec : DecAt (dB t q xb nv mem (convV cb) dd o n cap ea D W) w L
  conv : ∃ k, ConvAt lo av w cb pd d num len dcap Dd k
  ap : Apart (dB t q xb nv mem (convV cb) dd o n cap ea D W) lo [cb, pd, d]
  small : ∀ x ∈ L, x < num
  wid : W ≤ 31
  nvl : L.length = nv
  nvb : nv ≤ 1000000000

theorem DictAt.cells {lo : Nat} {av : List Nat} {w : World} {t q xb nv : Nat} {mem : Value} {dd o n cap : Nat} {ea : Addr} {D : List Nat} {W cb pd d num len dcap : Nat} {Dd L : List Nat} (h : DictAt lo av w t q xb nv mem dd o n cap ea D W cb pd d num len dcap Dd L) :
    w.cell? ⟨xb, 0, none⟩ = some (.int .i64 (nv : Int)) ∧ w.cell? ⟨xb, 4, none⟩ = some (convV cb) ∧ w.cell? ⟨xb, 5, none⟩ = some (.pointer (some ⟨t, 0, none⟩)) ∧ ∀ i, w.frozen? ⟨xb, i, none⟩ = false := by
  obtain ⟨pos, pr, hx⟩ := h.dec.rd
  exact ⟨Blk.cell hx (by simp [dB, ddPre]), Blk.cell hx (by simp [dB, ddPre]), Blk.cell hx (by simp [dB, ddPre]), hx.unfrozen⟩

/-- So many values are taken, and the decoder says so. -/
theorem DictAt.less {lo : Nat} {av : List Nat} {w : World} {t q xb nv : Nat} {mem : Value} {dd o n cap : Nat} {ea : Addr} {D : List Nat} {W cb pd d num len dcap : Nat} {Dd L : List Nat} (m nv2 : Nat) (hm : nv2 = nv - m)
    (dec : DecAt (dB t q xb nv mem (convV cb) dd o n cap ea D W) w (L.drop m)) (conv : ∃ k, ConvAt lo av w cb pd d num len dcap Dd k) (ap : Apart (dB t q xb nv mem (convV cb) dd o n cap ea D W) lo [cb, pd, d]) (small : ∀ x ∈ L, x < num) (wid : W ≤ 31) (nvl : L.length = nv) (nvb : nv ≤ 1000000000) :
    DictAt lo av (w.setCell ⟨xb, 0, none⟩ (.int .i64 (nv2 : Int))) t q xb nv2 mem dd o n cap ea D W cb pd d num len dcap Dd (L.drop m) := by
  subst hm
  obtain ⟨k, hc⟩ := conv
  refine ⟨dec.setPre 0 (.int .i64 ((nv - m : Nat) : Int)) (by simp [dB, ddPre]), ⟨k, hc.keep ((Keep.refl [xb] w).set (by simp) _ _ _) (fun b hb => ?_)⟩, ⟨ap.t, ap.q, ap.x, ap.d, ap.e⟩, fun x hx => small x (List.mem_of_mem_drop hx), wid, by simp; omega, by omega⟩
  simp at hb
  subst hb
  have h1 := ap.x.1
  have h2 := ap.x.2
  simp [dB] at h1 h2
  exact ⟨.inr h1, h2.1, h2.2.1, h2.2.2⟩

def TakenPost (lo : Nat) (av : List Nat) (t q xb nv : Nat) (mem : Value) (dd o n cap : Nat) (ea : Addr) (D : List Nat) (W cb pd d num len dcap : Nat) (Dd L : List Nat) (v vo m : Nat) (vcs : List Value) (w : World) (e : Ending) (w' : World) : Prop :=
  e = .returned (.tuple #[.int .i64 (m : Int), .nilIface]) ∧ KeepD lo av [t, q, xb, v, cb, pd] w w' ∧ DictAt lo av w' t q xb (nv - m) mem dd o n cap ea D W cb pd d num len dcap Dd (L.drop m) ∧ Blk w' v (splice vcs vo (rowF ((L.take m).map (f32At Dd))))

def PassedPost (lo : Nat) (av : List Nat) (t q xb nv : Nat) (mem : Value) (dd o n cap : Nat) (ea : Addr) (D : List Nat) (W cb pd d num len dcap : Nat) (Dd L : List Nat) (m : Nat) (w : World) (e : Ending) (w' : World) : Prop :=
  e = .returned (.tuple #[.int .i64 (m : Int), .nilIface]) ∧ KeepD lo av [t, q, xb] w w' ∧ DictAt lo av w' t q xb (nv - m) mem dd o n cap ea D W cb pd d num len dcap Dd (L.drop m)

section
variable {lo : Nat} {av : List Nat} {t q xb nv : Nat} {mem : Value} {dd o n cap : Nat} {ea : Addr} {D : List Nat} {W cb pd d num len dcap : Nat} {Dd L : List Nat} {w : World}

set_option maxRecDepth 100000 in
set_option maxHeartbeats 1000000 in
theorem dictDecodeC (v vo m vc : Nat) (vcs : List Value) (h : DictAt lo av w t q xb nv mem dd o n cap ea D W cb pd d num len dcap Dd L) (hlo : lo ≤ w.heap.size) (hav : ∀ b ∈ av, b < w.heap.size) (hv : Blk w v vcs) (h1 : ∀ u ∈ vcs, u.oneCell' = true) (hva : v ∈ av ∨ v < lo)
    (vne : v ≠ t ∧ v ≠ q ∧ v ≠ xb ∧ v ≠ dd ∧ v ≠ 4 ∧ v ≠ cb ∧ v ≠ pd ∧ v ≠ d) (hvo : vo + m ≤ vcs.length) (hmn : m ≤ nv) (hm : m ≤ 1000000) (hmc : m ≤ vc) :
    Calls Tryz.prog 102 #[.pointer (some ⟨xb, 0, none⟩), .slice (some ⟨v, vo, none⟩) m vc] w fun e w' => TakenPost lo av t q xb nv mem dd o n cap ea D W cb pd d num len dcap Dd L v vo m vcs w e w' := by
  obtain ⟨c0, c4, c5, cf⟩ := h.cells
  have hnb := h.nvb
  obtain ⟨nv2, hnv2⟩ : ∃ x, x = nv - m := ⟨_, rfl⟩
  have hni : (nv : Int) - (m : Int) = (nv2 : Int) := by omega
  obtain ⟨k, hCk⟩ := h.conv
  have hD := withDictC (dB t q xb nv mem (convV cb) dd o n cap ea D W) L lo av cb pd d num len dcap Dd v vo m vc vcs w.drew (h.dec.keep (S := []) (Keep.refl [] w).drew (by simp) (by simp) (by simp) (by simp) (by simp)) ⟨k, hCk.drew⟩ h.ap hlo hav h.small h.wid hv.drew h1 hva
    vne.1 vne.2.1 vne.2.2.1 vne.2.2.2.1 vne.2.2.2.2.1 vne.2.2.2.2.2.1 vne.2.2.2.2.2.2.1 vne.2.2.2.2.2.2.2 hvo (by rw [h.nvl]; exact hmn) hm hmc
  have HD := Lib.hid hD
  have HH := Lib.hid (And.intro h hnv2)
  clear h hCk hv hD hnv2
  unfold convV at c4
  go_enter Tryz.func102, Tryz.ntmps102
  go_wp2_with fail
  refine wp_region_mid 9 (by kernel_rfl) (by kernel_rfl) ?_
  simp only [List.take_succ_cons, List.take_zero, List.drop_succ_cons, List.drop_zero]
  change wpStill _ _ (World.drew _) _ _ _
  repeat still_step
  refine wpStill_nil ?_
  go_wp2_with fail
  refine HD.out.mono ?_
  rintro e w2 ⟨rfl, k2, hd2, hc2, hv2⟩
  obtain ⟨pos, pr, hx⟩ := hd2.rd
  have c0 : w2.cell? ⟨xb, 0, none⟩ = some (.int .i64 (nv : Int)) := Blk.cell hx (by simp [dB, ddPre])
  have cf : ∀ i, w2.frozen? ⟨xb, i, none⟩ = false := hx.unfrozen
  have hf := HH.out.1
  have hL := DictAt.less m nv2 HH.out.2 hd2 hc2 hf.ap hf.small hf.wid hf.nvl hf.nvb
  rw [HH.out.2] at hL
  have K : KeepD lo av [t, q, xb, v, cb, pd] w (w2.setCell ⟨xb, 0, none⟩ (.int .i64 (nv2 : Int))) := ((KeepD.refl lo av [t, q, xb, v, cb, pd] w).drew.trans k2 (fun x hx => .inl hx) (fun x hx => hx)).set (by simp) _ _ _
  have HF := Lib.hid (And.intro hL (And.intro K (hv2.set_other vne.2.2.1 0 none (.int .i64 (nv2 : Int)))))
  clear k2 hd2 hc2 hv2 hx hf hL K
  go_wp2_with fail
  repeat still_step
  refine wpStill_nil ?_
  go_wp2
  go_ret2
  obtain ⟨hL, K, hv2⟩ := HF.out
  have e := HH.out.2
  refine ⟨rfl, K, ?_, hv2⟩
  rw [← e] at hL ⊢
  exact hL

set_option maxRecDepth 100000 in
set_option maxHeartbeats 1000000 in
theorem dictDiscardC (m : Nat) (h : DictAt lo av w t q xb nv mem dd o n cap ea D W cb pd d num len dcap Dd L) (hmn : m ≤ nv) (hm : m ≤ 1000000) :
    Calls Tryz.prog 103 #[.pointer (some ⟨xb, 0, none⟩), .int .i64 (m : Int)] w fun e w' => PassedPost lo av t q xb nv mem dd o n cap ea D W cb pd d num len dcap Dd L m w e w' := by
  obtain ⟨c0, c4, c5, cf⟩ := h.cells
  have hnb := h.nvb
  obtain ⟨nv2, hnv2⟩ : ∃ x, x = nv - m := ⟨_, rfl⟩
  have hni : (nv : Int) - (m : Int) = (nv2 : Int) := by omega
  have hD := decDiscard (dB t q xb nv mem (convV cb) dd o n cap ea D W) L m w h.dec (by rw [h.nvl]; exact hmn) hm
  have HD := Lib.hid hD
  have HH := Lib.hid (And.intro h hnv2)
  clear h hD hnv2 c4
  go_enter Tryz.func103, Tryz.ntmps103
  go_wp2_with fail
  refine HD.out.mono ?_
  rintro e w2 ⟨rfl, k2, hd2⟩
  obtain ⟨pos, pr, hx⟩ := hd2.rd
  have c0 : w2.cell? ⟨xb, 0, none⟩ = some (.int .i64 (nv : Int)) := Blk.cell hx (by simp [dB, ddPre])
  have cf : ∀ i, w2.frozen? ⟨xb, i, none⟩ = false := hx.unfrozen
  have hf := HH.out.1
  obtain ⟨k, hCk⟩ := hf.conv
  have hC2 : ConvAt lo av w2 cb pd d num len dcap Dd k := hCk.keep k2 (fun b hb => by
    simp [dB] at hb
    have h1 := hf.ap.t
    have h2 := hf.ap.q
    simp [dB] at h1 h2
    rcases hb with rfl | rfl
    · exact ⟨.inr h1.1, h1.2⟩
    · exact ⟨.inr h2.1, h2.2⟩)
  have hL := DictAt.less m nv2 HH.out.2 hd2 ⟨k, hC2⟩ hf.ap hf.small hf.wid hf.nvl hf.nvb
  have K : KeepD lo av [t, q, xb] w (w2.setCell ⟨xb, 0, none⟩ (.int .i64 (nv2 : Int))) := (KeepD.of k2 (F := [t, q, xb]) (fun b hb => .inl (by simp [dB] at hb; simp; omega))).set (by simp) _ _ _
  have HF := Lib.hid (And.intro hL K)
  clear k2 hd2 hx hf hL K hCk hC2
  go_wp2
  go_ret2
  obtain ⟨hL, K⟩ := HF.out
  have e := HH.out.2
  refine ⟨rfl, K, ?_⟩
  rw [← e] at ⊢
  exact hL

set_option maxRecDepth 100000 in
set_option maxHeartbeats 1000000 in
theorem typedDecodeC (v vo m vc : Nat) (vcs : List Value) (h : DictAt lo av w t q xb nv mem dd o n cap ea D W cb pd d num len dcap Dd L) (hlo : lo ≤ w.heap.size) (hav : ∀ b ∈ av, b < w.heap.size) (hv : Blk w v vcs) (h1 : ∀ u ∈ vcs, u.oneCell' = true) (hva : v ∈ av ∨ v < lo)
    (vne : v ≠ t ∧ v ≠ q ∧ v ≠ xb ∧ v ≠ dd ∧ v ≠ 4 ∧ v ≠ cb ∧ v ≠ pd ∧ v ≠ d) (hvo : vo + m ≤ vcs.length) (hmn : m ≤ nv) (hm : m ≤ 1000000) (hmc : m ≤ vc) :
    Calls Tryz.prog 55 #[.pointer (some ⟨xb, 0, none⟩), .slice (some ⟨v, vo, none⟩) m vc] w fun e w' => TakenPost lo av t q xb nv mem dd o n cap ea D W cb pd d num len dcap Dd L v vo m vcs w e w' := by
  obtain ⟨c0, c4, c5, cf⟩ := h.cells
  have hmin : min (m : Int) (nv : Int) = (m : Int) := by omega
  have hd : DictAt lo av w.drew t q xb nv mem dd o n cap ea D W cb pd d num len dcap Dd L := by
    obtain ⟨k, b⟩ := h.conv
    exact { h with dec := h.dec.keep (S := []) (Keep.refl [] w).drew (by simp) (by simp) (by simp) (by simp) (by simp), conv := ⟨k, b.drew⟩ }
  have HD := Lib.hid (dictDecodeC (w := w.drew) v vo m vc vcs hd hlo hav hv.drew h1 hva vne hvo hmn hm hmc)
  clear h hd hv c4 c5
  go_enter Tryz.func55, Tryz.ntmps55
  go_wp2_with fail
  refine wp_region_mid 6 (by kernel_rfl) (by kernel_rfl) ?_
  simp only [List.take_succ_cons, List.take_zero, List.drop_succ_cons, List.drop_zero]
  change wpStill _ _ (World.drew _) _ _ _
  repeat still_step
  refine wpStill_nil ?_
  go_wp2_with fail
  refine HD.out.mono ?_
  rintro e w2 ⟨rfl, k2, hd2, hv2⟩
  have HF := Lib.hid (And.intro k2 (And.intro hd2 hv2))
  clear k2 hd2 hv2
  go_wp2_with fail
  repeat still_step
  refine wpStill_nil ?_
  go_wp2
  go_ret2
  exact ⟨rfl, (KeepD.refl lo av [t, q, xb, v, cb, pd] w).drew.trans HF.out.1 (fun x hx => .inl hx) (fun x hx => hx), HF.out.2.1, HF.out.2.2⟩

set_option maxRecDepth 100000 in
set_option maxHeartbeats 1000000 in
theorem typedDiscardC (m : Nat) (h : DictAt lo av w t q xb nv mem dd o n cap ea D W cb pd d num len dcap Dd L) (hmn : m ≤ nv) (hm : m ≤ 1000000) :
    Calls Tryz.prog 56 #[.pointer (some ⟨xb, 0, none⟩), .int .i64 (m : Int)] w fun e w' => PassedPost lo av t q xb nv mem dd o n cap ea D W cb pd d num len dcap Dd L m w e w' := by
  obtain ⟨c0, c4, c5, cf⟩ := h.cells
  have hmin : min (m : Int) (nv : Int) = (m : Int) := by omega
  have HD := Lib.hid (dictDiscardC m h hmn hm)
  clear h c4 c5
  go_enter Tryz.func56, Tryz.ntmps56
  go_wp2_with fail
  refine HD.out.mono ?_
  rintro e w2 ⟨rfl, k2, hd2⟩
  have HF := Lib.hid (And.intro k2 hd2)
  clear k2 hd2
  go_wp2
  go_ret2
  exact ⟨rfl, HF.out.1, HF.out.2⟩
end
end Go.Proofs.YtlolcgklcnechaaGreatDoor
