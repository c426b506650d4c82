/- impl.DictionaryFloat32Read. Plain law: values by a dictionary, read in batches, are the dictionary's at the numbers. No walk here. laws.FnDictionaryFloat32Read, walked: the law itself. -/
import Derived.Test.YtlolcgklcnechaaGreatDoorXX32
import Derived.Test.YtlolcgklcnechaaGreatDoorXX10
set_option linter.unusedVariables false
set_option linter.unusedSimpArgs false
namespace Go.Proofs.YtlolcgklcnechaaGreatDoor
open Go.RowKit

/-- In a function that defers: a statement that ends as usual needs no word on its other ends. -/
theorem only_normal2 {P : Program} {c : Code} {K : Act → World → Prop} {Q' : Exit → Act → World → Prop} {a : Act} {w : World} (h : c.wp P (Exit.then K (fun _ _ _ => False)) a w) : c.wp P (Exit.then K Q') a w :=
  Code.wp_mono (fun e a w hq => by cases e <;> first | exact hq | exact hq.elim) h

def ReadPost (w : World) (want : List Nat) (Dd : List Nat) (e : Ending) (w' : World) : Prop :=
  ∃ v, e = .returned (.tuple #[v, .bool true]) ∧ Keep [] w w' ∧ GrowC Vq.cells 4 w.heap.size [] w' v (nums (want.map (f32At Dd)))

theorem f32At_lt {D : List Nat} (h : ∀ y ∈ D, y < 256) (i : Nat) : f32At D i < 4294967296 := by
  unfold f32At
  have h1 := leVal_lt ((D.drop (4 * i)).take 4) (fun y hy => h y (List.mem_of_mem_drop (List.mem_of_mem_take hy)))
  have h2 : (256 : Nat) ^ ((D.drop (4 * i)).take 4).length ≤ 256 ^ 4 := Nat.pow_le_pow_right (by omega) (by simp; omega)
  omega


set_option maxRecDepth 100000 in
set_option maxHeartbeats 4000000 in
theorem dictReadC (dv ev : Value) (len num n nv W at2 : Nat) (Dd D : List Nat) (rs : List Rn) (rest : List Nat) (ea : Addr) (bv : Value) (bs : List Int) (want : List Nat) (w : World) (hDd : RowAt w dv .u8 Dd) (hdl : Dd.length = len) (hdb : ∀ y ∈ Dd, y < 256) (hlen : len = 4 * num) (hnum0 : 0 < num) (hnum : num ≤ 1000)
    (hD : RowAt w ev .u8 (W :: D)) (hDl : D.length = n) (hDb : ∀ y ∈ D, y < 256) (hE : Eof w ea) (hW0 : 0 < W) (hW : W ≤ 31) (hn0 : 0 < n) (hn : n ≤ 1000000000) (hrs : ∀ r ∈ rs, Rn.Ok W r) (hr : D = encR W rs ++ rest) (hnv : (valsR rs).length = nv) (hnv6 : nv ≤ 1000000) (hsm : ∀ x ∈ valsR rs, x < num)
    (hB : IntsAt w bv bs) (hbat : batchOn (valsR rs) bs = some (want, at2)) (hm : bs.length ≤ 1000000) :
    Calls Tryz.prog 14 #[dv, .int .i64 (num : Int), ev, .int .i64 (nv : Int), bv] w fun e w' => ReadPost w want Dd e w' := by
  obtain ⟨bo, bcap, hbv, hbc, -⟩ := hB.open
  obtain ⟨m, hm'⟩ : ∃ m, m = bs.length := ⟨_, rfl⟩
  rw [← hm'] at hm hbc hbv
  obtain ⟨N, hN⟩ : ∃ N, N = n + 1 := ⟨_, rfl⟩
  obtain ⟨da, cap0, hdv, hdc, -⟩ := hDd.open
  obtain ⟨ea1, cap1, hev, hec, -⟩ := hD.open
  have hel1 : (W :: D).length = N := by rw [List.length_cons, hDl, hN]
  rw [hdl] at hdv hdc
  rw [hel1] at hev hec
  subst hdv
  subst hev
  have HL := Lib.hid (And.intro hdl (And.intro hdb (And.intro hel1 (And.intro hDl hDb))))
  clear hdl hdb hel1 hDl hDb
  have HA := Lib.hid (And.intro hDd (And.intro hlen (And.intro hD (And.intro hE (And.intro hrs (And.intro hr (And.intro hnv (And.intro hsm (And.intro hB (And.intro hbat (And.intro hm' (And.intro hN hbv))))))))))))
  subst hbv
  clear hDd hlen hD hE hrs hr hnv hsm hB hbat hm' hN
  go_enter_defers Tryz.func14, Tryz.ntmps14
  go_wp2_with fail
  obtain ⟨w1, hw1⟩ : ∃ w1, w1 = (w.alloc (Obj.cells #[Value.slice none 0 0] 34)).alloc (Obj.cells #[Value.bool false] 4) := ⟨_, rfl⟩
  rw [← hw1]
  obtain ⟨a0, ha0⟩ : ∃ a, a = w.heap.size := ⟨_, rfl⟩
  obtain ⟨a1, ha1⟩ : ∃ a, a = w.heap.size + 1 := ⟨_, rfl⟩
  have K1 : Keep [] w w1 := by rw [hw1]; exact ((Keep.refl [] w).alloc _).alloc _
  have hs1 : w1.heap.size = a0 + 2 := by rw [hw1, ha0]; simp
  have hO1 : Blk w1 a0 [.slice none 0 0] := by rw [hw1]; exact (Blk.of_new (cs := [.slice none 0 0]) ha0).alloc _
  have hT1 : Blk w1 a1 [.bool false] := by rw [hw1]; exact Blk.of_new (cs := [.bool false]) (by simp [ha1])
  have h01 : a1 = a0 + 1 := by omega
  rw [← ha1, ← ha0]
  have hsw : w.heap.size = a0 := ha0.symm
  have Hsw := Lib.hid hsw
  clear hw1 ha0 ha1 hsw
  refine (newPlainC w1).mono ?_
  rintro e w2 ⟨pd, rfl, k2, hpd, hP2⟩
  have hpl2 := hP2.lt
  have K2 : Keep [] w w2 := K1.trans k2 (by simp)
  have H2 := Lib.hid (And.intro (hO1.keep k2 (by simp)) (And.intro (hT1.keep k2 (by simp)) (And.intro hP2 K2)))
  clear K1 hO1 hT1 k2 hP2 K2
  go_wp2_with fail
  refine only_normal2 ?_
  refine wp_region_any (by kernel_rfl) ?_
  change wpAny _ _ _ _ _ _ _ (World.drew _)
  refine wpAny_take (i := 0) (v := ?_) rfl (by kernel_rfl) (by kernel_rfl) (by kernel_rfl) (fun _ _ _ h => h) (Or.inl ⟨by rfl, ?_⟩) ?_
  rotate_left 1
  · (intro w; go_simp; try with_reducible rfl)
  refine wpAny_take (i := 1) (v := ?_) rfl (by kernel_rfl) (by kernel_rfl) (by kernel_rfl) (fun _ _ _ h => h) (Or.inl ⟨by rfl, ?_⟩) ?_
  rotate_left 1
  · (intro w; go_simp; try with_reducible rfl)
  refine wpAny_take (i := 2) (v := ?_) rfl (by kernel_rfl) (by kernel_rfl) (by kernel_rfl) (fun _ _ _ h => h) (Or.inl ⟨by rfl, ?_⟩) ?_
  rotate_left 1
  · (intro w; go_simp; try with_reducible rfl)
  refine wpAny_take (i := 3) (v := ?_) rfl (by kernel_rfl) (by kernel_rfl) (by kernel_rfl) (fun _ _ _ h => h) (Or.inl ⟨by rfl, ?_⟩) ?_
  rotate_left 1
  · (intro w; go_simp; try with_reducible rfl)
  refine wpAny_take (i := 4) (v := ?_) rfl (by kernel_rfl) (by kernel_rfl) (by kernel_rfl) (fun _ _ _ h => h) (Or.inl ⟨by rfl, ?_⟩) ?_
  rotate_left 1
  · (intro w; go_simp; try with_reducible rfl)
  go_simp
  refine wpAny_ready (rs := [5]) (by kernel_rfl) (by simp) ?_
  refine (AllReady.cons rfl (fun K hK => ?_) AllReady.nil)
  go_simp
  refine (copiedC _ len Dd w2.drew ((HA.out.1.keep H2.out.2.2.2).keep (Keep.refl [] w2).drew) HL.out.1 (by have := HA.out.2.1; omega) (by have := HA.out.2.1; omega) HL.out.2.1).mono ?_
  rintro e w3 ⟨d, dcap, rfl, k3, hd3, hB3⟩
  refine hK _ _ ?_
  clear hK K
  obtain ⟨hO2, hT2, hP2, K2⟩ := H2.out
  have kd3 : Keep [] w2 w3 := (Keep.refl [] w2).drew.trans k3 (by simp)
  have hs3 : w2.heap.size ≤ w3.heap.size := kd3.size
  have hd3' : w2.heap.size ≤ d := hd3
  have hdl3 : d < w3.heap.size := by obtain ⟨⟨cs, h, _⟩, _⟩ := hB3; exact h.lt
  have H3 := Lib.hid (And.intro (hO2.keep kd3 (by simp)) (And.intro (hT2.keep kd3 (by simp)) (And.intro (hP2.keep kd3 (by simp)) (And.intro (K2.trans kd3 (by simp)) hB3))))
  clear hO2 hT2 hP2 K2 k3 kd3 hd3 hB3
  refine wpAny_ready (rs := [6]) (by kernel_rfl) (by simp) ?_
  refine (AllReady.cons rfl (fun K hK => ?_) AllReady.nil)
  go_simp
  refine (setDataC pd num d 0 len dcap (.int .i64 0) (.slice none 0 0) [.int .i64 0, .nilIface] [] w3 H3.out.2.2.1).mono ?_
  rintro e w4 ⟨rfl, k4, hP4⟩
  refine hK _ _ ?_
  clear hK K
  obtain ⟨hO3, hT3, hP3, K3, hB3⟩ := H3.out
  have hs4 := k4.size
  have H4 := Lib.hid (And.intro (hO3.keep k4 (by simp; omega)) (And.intro (hT3.keep k4 (by simp; omega)) (And.intro hP4 (And.intro (K3.trans k4 (by have := Hsw.out; simp; omega)) (hB3.keep k4 (by simp; omega))))))
  clear hO3 hT3 hP3 K3 hB3 k4 hP4
  refine wpAny_take (i := 7) (v := ?_) rfl (by kernel_rfl) (by kernel_rfl) (by kernel_rfl) (fun _ _ _ h => h) (Or.inl ⟨by rfl, ?_⟩) ?_
  rotate_left 1
  · (intro w; go_simp; try with_reducible rfl)
  refine wpAny_done (by kernel_rfl) ?_ _
  go_wp2_with fail
  refine (newDictC pd num w4 (by omega)).mono ?_
  rintro e w5 ⟨xb, cb, rfl, k5, hxb, hcb, hxc, hX5, hC5⟩
  obtain ⟨hO4, hT4, hP4, K4, hB4⟩ := H4.out
  have hs5 := k5.size
  have hxl := hX5.lt
  have hcl := hC5.lt
  have H5 := Lib.hid (And.intro (hO4.keep k5 (by simp)) (And.intro (hT4.keep k5 (by simp)) (And.intro (hP4.keep k5 (by simp)) (And.intro (K4.trans k5 (by simp)) (And.intro (hB4.keep k5 (by simp)) (And.intro hX5 hC5))))))
  clear hO4 hT4 hP4 K4 hB4 k5 hX5 hC5
  go_wp2_with fail
  refine only_normal2 ?_
  refine wp_region_any (by kernel_rfl) ?_
  change wpAny _ _ _ _ _ _ _ (World.drew _)
  refine wpAny_take (i := 0) (v := ?_) rfl (by kernel_rfl) (by kernel_rfl) (by kernel_rfl) (fun _ _ _ h => h) (Or.inl ⟨by rfl, ?_⟩) ?_
  rotate_left 1
  · (intro w; go_simp; try with_reducible rfl)
  refine wpAny_take (i := 1) (v := ?_) rfl (by kernel_rfl) (by kernel_rfl) (by kernel_rfl) (fun _ _ _ h => h) (Or.inl ⟨by rfl, ?_⟩) ?_
  rotate_left 1
  · (intro w; go_simp; try with_reducible rfl)
  refine wpAny_take (i := 2) (v := ?_) rfl (by kernel_rfl) (by kernel_rfl) (by kernel_rfl) (fun _ _ _ h => h) (Or.inl ⟨by rfl, ?_⟩) ?_
  rotate_left 1
  · (intro w; go_simp; try with_reducible rfl)
  refine wpAny_take (i := 3) (v := ?_) rfl (by kernel_rfl) (by kernel_rfl) (by kernel_rfl) (fun _ _ _ h => h) (Or.inl ⟨by rfl, ?_⟩) ?_
  rotate_left 1
  · (intro w; go_simp; try with_reducible rfl)
  refine wpAny_take (i := 4) (v := ?_) rfl (by kernel_rfl) (by kernel_rfl) (by kernel_rfl) (fun _ _ _ h => h) (Or.inl ⟨by rfl, ?_⟩) ?_
  rotate_left 1
  · (intro w; go_simp; try with_reducible rfl)
  go_simp
  refine wpAny_ready (rs := [5]) (by kernel_rfl) (by simp) ?_
  refine (AllReady.cons rfl (fun K hK => ?_) AllReady.nil)
  go_simp
  have hNn : N = n + 1 := by obtain ⟨-, -, -, -, -, -, -, -, -, -, -, h, -⟩ := HA.out; exact h
  have HNn := Lib.hid hNn
  have hD5 := (HA.out.2.2.1.keep H5.out.2.2.2.1).keep (Keep.refl [] w5).drew
  have hby5 : ∀ y ∈ W :: D, y < 256 := fun y hy => by
    rcases List.mem_cons.1 hy with rfl | hy
    · omega
    · exact HL.out.2.2.2.2 y hy
  refine (copiedC _ N (W :: D) w5.drew hD5 HL.out.2.2.1 (by omega) (by omega) hby5).mono ?_
  rintro e w6 ⟨dd, c6, rfl, k6, hd6, hB6⟩
  refine hK _ _ ?_
  clear hK K hNn hD5 hby5
  obtain ⟨hO5, hT5, hP5, K5, hB5, hX5, hC5⟩ := H5.out
  have kd6 : Keep [] w5 w6 := (Keep.refl [] w5).drew.trans k6 (by simp)
  have hs6 : w5.heap.size ≤ w6.heap.size := kd6.size
  have hd6' : w5.heap.size ≤ dd := hd6
  have hdl6 : dd < w6.heap.size := by obtain ⟨⟨cs, h, _⟩, _⟩ := hB6; exact h.lt
  rw [HNn.out] at hB6
  have H6 := Lib.hid (And.intro (hO5.keep kd6 (by simp)) (And.intro (hT5.keep kd6 (by simp)) (And.intro (hP5.keep kd6 (by simp)) (And.intro (K5.trans kd6 (by simp)) (And.intro (hB5.keep kd6 (by simp)) (And.intro (hX5.keep kd6 (by simp)) (And.intro (hC5.keep kd6 (by simp)) hB6)))))))
  clear hO5 hT5 hP5 K5 hB5 hX5 hC5 k6 kd6 hd6 hB6
  refine wpAny_ready (rs := [6]) (by kernel_rfl) (by simp) ?_
  refine (AllReady.cons rfl (fun K hK => ?_) AllReady.nil)
  go_simp
  rw [HNn.out]
  have hel2 : 4 < a0 := by have := HA.out.2.2.2.1.lt; have := Hsw.out; omega
  have hE6 := HA.out.2.2.2.1.keep H6.out.2.2.2.1 (by simp)
  refine (dictSetDataC xb 0 nv dd n c6 (.iface 113 (.agg #[])) (convV cb) ea D W rs rest (.slice none 0 0) (.int .i64 0) (.int .i64 0) w6 H6.out.2.2.2.2.2.1 H6.out.2.2.2.2.2.2.2 hE6 (by omega) (by omega) hW0 (by omega) hn0 (by omega) HA.out.2.2.2.2.1 HA.out.2.2.2.2.2.1).mono ?_
  rintro e w7 ⟨rfl, k7, t, q, ht, hq, hA7⟩
  refine hK _ _ ?_
  clear hK K hE6
  obtain ⟨hO6, hT6, hP6, K6, hB6, hX6, hC6, hBd6⟩ := H6.out
  obtain ⟨htl, hql, hxl7, hdl7, hel7⟩ := hA7.lt
  simp only [dB] at htl hql hxl7 hdl7 hel7
  have hs7 := k7.size
  have K7 : Keep [] w w7 := K6.trans k7 (by have := Hsw.out; simp; omega)
  have hlenq := HA.out.2.1
  have hconv : ConvAt w7.heap.size [] w7 cb pd d num len dcap Dd 0 :=
    ⟨Nat.zero_le _, ⟨.slice none 0 0, hC6.keep k7 (by simp; omega), .inl ⟨rfl, rfl⟩⟩, ⟨0, hP6.keep k7 (by simp; omega), hB6.keep k7 (by simp; omega)⟩, by omega, by omega, by omega, by omega, by omega, by omega, by omega, by omega⟩
  have hap : Apart (dB t q xb nv (.iface 113 (.agg #[])) (convV cb) dd 1 n (c6 - 1) ea D W) w7.heap.size [cb, pd, d] :=
    ⟨⟨htl, by simp [dB]; omega⟩, ⟨hql, by simp [dB]; omega⟩, ⟨hxl7, by simp [dB]; omega⟩, ⟨hdl7, by simp [dB]; omega⟩, ⟨hel7, by simp; omega⟩⟩
  have hDict : DictAt w7.heap.size [] w7 t q xb nv (.iface 113 (.agg #[])) dd 1 n (c6 - 1) ea D W cb pd d num len dcap Dd (valsR rs) :=
    ⟨hA7, ⟨0, hconv⟩, hap, HA.out.2.2.2.2.2.2.2.1, hW, HA.out.2.2.2.2.2.2.1, by omega⟩
  have H7 := Lib.hid (And.intro (hO6.keep k7 (by simp; omega)) (And.intro (hT6.keep k7 (by simp; omega)) (And.intro K7 hDict)))
  clear hO6 hT6 hP6 K6 hB6 hX6 hC6 hBd6 k7 K7 hconv hap hDict hA7 hlenq
  refine wpAny_take (i := 7) (v := ?_) rfl (by kernel_rfl) (by kernel_rfl) (by kernel_rfl) (fun _ _ _ h => h) (Or.inl ⟨by rfl, ?_⟩) ?_
  rotate_left 1
  · (intro w; go_simp; try with_reducible rfl)
  refine wpAny_done (by kernel_rfl) ?_ _
  go_wp2_with fail
  obtain ⟨-, -, -, -, -, -, hnv, -, hB, hbat, hm', -, -⟩ := HA.out
  have hF : ∀ b ∈ [t, q, xb, cb, pd], w.heap.size ≤ b := fun b hb => by have := Hsw.out; simp at hb; omega
  refine (decodedC w H7.out.2.2.1 (.slice bo m bcap) bs want at2 H7.out.2.2.2 (Nat.le_refl _) hB hF (by have := Hsw.out; omega) hbat (by omega) (by omega)).mono ?_
  rintro e w8 ⟨ov, rfl, k8, hG8⟩
  obtain ⟨hO7, hT7, K7, hDict⟩ := H7.out
  have K8 : Keep [] w w8 := k8.fresh K7 hF (by have := Hsw.out; omega)
  have hO8 := hO7.keepD k8 (.inl (by omega)) (by simp; omega)
  have hT8 := hT7.keepD k8 (.inl (by omega)) (by simp; omega)
  obtain ⟨ao, c, hov, -⟩ := hG8.shape
  obtain ⟨N8, hN8⟩ : ∃ N, N = (want.map (f32At Dd)).length := ⟨_, rfl⟩
  have hwl : want.length ≤ 1000000 := by
    have := (batchOn_le bs.length bs want at2 (by rw [List.take_length]; exact hbat))
    omega
  have hu : ∀ x ∈ want.map (f32At Dd), x < 4294967296 := fun x hx => by
    rw [List.mem_map] at hx
    obtain ⟨i, -, rfl⟩ := hx
    exact f32At_lt HL.out.2.1 i
  have HWl := Lib.hid hwl
  have HU := Lib.hid hu
  have cT := hT8.cell (i := 0) rfl
  have fT := hT8.unfrozen
  have hT9 := hT8.set 0 (.bool true)
  have hO9 := hO8.set_other (c := a1) (by omega) 0 none (.bool true)
  have hG9 := hG8.keep ((Keep.refl [a1] w8).set (b := a1) (by simp) 0 none (.bool true)) (fun b hb => .inr (by simp at hb; omega))
  have K9 : Keep [] w (w8.setCell ⟨a1, 0, none⟩ (.bool true)) := K8.set (by have := Hsw.out; omega) _ _ _
  have Hov := Lib.hid hov
  rw [← hN8] at hov
  rw [hov]
  have HN8 := Lib.hid hN8
  obtain ⟨w9, hw9⟩ : ∃ w9, w9 = w8.setCell ⟨a1, 0, none⟩ (.bool true) := ⟨_, rfl⟩
  rw [← hw9] at hT9 hO9 hG9 K9
  have Hw9 := Lib.hid hw9
  have HO9 := Lib.hid (And.intro hO9 hT9)
  have HK9 := Lib.hid K9
  have HG9 := Lib.hid (show GrowC cfF 1 w7.heap.size [] w9 (.slice ao N8 c) (want.map (f32At Dd)) by rw [← hov]; exact hG9)
  clear hB hbat hm' hnv hF k8 hG8 hO7 hT7 K7 hDict K8 hO8 hT8 hN8 hwl hu hT9 hO9 hG9 K9 hw9 hov Hov
  subst h01
  go_wp2_with fail
  rw [← Hw9.out]
  have cO := HO9.out.1.cell (i := 0) rfl
  have fO := HO9.out.1.unfrozen
  have cT := HO9.out.2.cell (i := 0) rfl
  have fT := HO9.out.2.unfrozen
  refine only_normal2 ?_
  refine wp_region_any (by kernel_rfl) ?_
  change wpAny _ _ _ _ _ _ _ (World.drew _)
  refine wpAny_take (i := 0) (v := ?_) rfl (by kernel_rfl) (by kernel_rfl) (by kernel_rfl) (fun _ _ _ h => h) (Or.inl ⟨by rfl, ?_⟩) ?_
  rotate_left 1
  · (intro w; go_simp; try with_reducible rfl)
  refine wpAny_ready (rs := [1, 2]) (by kernel_rfl) (by simp) ?_
  refine (AllReady.cons rfl (fun K hK => ?_) (AllReady.cons rfl (fun K hK => ?_) AllReady.nil))
  · go_simp
    refine (valuedC w7.heap.size [] _ _ w9.drew (HG9.out.keep (S := []) (Keep.refl [] w9).drew (by simp)) (by simpa using HWl.out) HU.out).mono ?_
    rintro e w10 ⟨rv, rfl, k10, hG10⟩
    obtain ⟨ao10, c10, hrv, -⟩ := hG10.shape
    obtain ⟨N10, hN10⟩ : ∃ N, N = (nums (want.map (f32At Dd))).length := ⟨_, rfl⟩
    rw [← hN10] at hrv
    subst hrv
    have hO10 := HO9.out.1.drew.keep k10 (by simp)
    have hT10 := HO9.out.2.drew.keep k10 (by simp)
    have cO := hO10.cell (i := 0) rfl
    have fO := hO10.unfrozen
    have cT := hT10.cell (i := 0) rfl
    have fT := hT10.unfrozen
    have H10 := Lib.hid (And.intro hO10 (And.intro hT10 (And.intro k10 hG10)))
    clear hO10 hT10 k10 hG10 hN10
    refine hK _ _ ?_
    clear hK K
    refine wpAny_ready (rs := [2]) (by kernel_rfl) (by simp) ?_
    refine (AllReady.cons rfl (fun K hK => ?_) AllReady.nil)
    · go_simp
      refine hK _ _ ?_
      clear hK K
      refine wpAny_ready (rs := [3]) (by kernel_rfl) (by simp) ?_
      refine (AllReady.cons rfl (fun K hK => ?_) AllReady.nil)
      · go_simp
        refine hK _ _ ?_
        clear hK K
        refine wpAny_ready (rs := [4]) (by kernel_rfl) (by simp) ?_
        refine (AllReady.cons rfl (fun K hK => ?_) AllReady.nil)
        · go_simp
          refine hK _ _ ?_
          clear hK K
          refine wpAny_done (by kernel_rfl) ?_ _
          go_wp2
          refine leaves_cons (f := 48) (args := #[.pointer (some ⟨a0, 0, none⟩), .pointer (some ⟨a0 + 1, 0, none⟩)]) (by simp) (by simp [go_sem]) ?_
          refine (noValues_idle ⟨a0, 0, none⟩ ⟨a0 + 1, 0, none⟩ _).mono ?_
          rintro e u' w'' ⟨rfl, rfl, rfl⟩
          obtain ⟨hO10, hT10, k10, hG10⟩ := H10.out
          have hO11 := (hO10.set 0 (.slice ao10 N10 c10)).set_other (c := a0 + 1) (by omega) 0 none (.bool true)
          have hT11 := (hT10.set_other (c := a0) (by omega) 0 none (.slice ao10 N10 c10)).set 0 (.bool true)
          have cO11 := hO11.cell (i := 0) rfl
          have cT11 := hT11.cell (i := 0) rfl
          have hws := Hsw.out
          have hsl := HO9.out.2.lt
          have K11 : Keep [] w ((w10.setCell ⟨a0, 0, none⟩ (.slice ao10 N10 c10)).setCell ⟨a0 + 1, 0, none⟩ (.bool true)) := ((HK9.out.drew.trans k10 (by simp)).set (by omega) _ _ _).set (by omega) _ _ _
          have hG11 := (hG10.keep (((Keep.refl [a0, a0 + 1] w10).set (b := a0) (by simp) 0 none (.slice ao10 N10 c10)).set (b := a0 + 1) (by simp) 0 none (.bool true)) (fun b hb => .inr (by simp at hb ⊢; omega))).lower (lo' := w.heap.size) (by simp; omega)
          refine ⟨.tuple #[.slice ao10 N10 c10, .bool true], ?_, .slice ao10 N10 c10, rfl, K11, hG11⟩
          clear hO11 hT11 K11 hG11
          obtain ⟨w12, hw12⟩ : ∃ w12, w12 = ((w10.setCell ⟨a0, 0, none⟩ (.slice ao10 N10 c10)).setCell ⟨a0 + 1, 0, none⟩ (.bool true)) := ⟨_, rfl⟩
          rw [← hw12] at cO11 cT11 ⊢
          clear hw12
          simp [results, Tryz.results14, go_sem, cO11, cT11]
  · go_simp
    refine hK _ _ ?_
    clear hK K
    refine wpAny_ready (rs := [1]) (by kernel_rfl) (by simp) ?_
    refine (AllReady.cons rfl (fun K hK => ?_) AllReady.nil)
    · go_simp
      refine (valuedC w7.heap.size [] _ _ w9.drew (HG9.out.keep (S := []) (Keep.refl [] w9).drew (by simp)) (by simpa using HWl.out) HU.out).mono ?_
      rintro e w10 ⟨rv, rfl, k10, hG10⟩
      obtain ⟨ao10, c10, hrv, -⟩ := hG10.shape
      obtain ⟨N10, hN10⟩ : ∃ N, N = (nums (want.map (f32At Dd))).length := ⟨_, rfl⟩
      rw [← hN10] at hrv
      subst hrv
      have hO10 := HO9.out.1.drew.keep k10 (by simp)
      have hT10 := HO9.out.2.drew.keep k10 (by simp)
      have cO := hO10.cell (i := 0) rfl
      have fO := hO10.unfrozen
      have cT := hT10.cell (i := 0) rfl
      have fT := hT10.unfrozen
      have H10 := Lib.hid (And.intro hO10 (And.intro hT10 (And.intro k10 hG10)))
      clear hO10 hT10 k10 hG10 hN10
      refine hK _ _ ?_
      clear hK K
      refine wpAny_ready (rs := [3]) (by kernel_rfl) (by simp) ?_
      refine (AllReady.cons rfl (fun K hK => ?_) AllReady.nil)
      · go_simp
        refine hK _ _ ?_
        clear hK K
        refine wpAny_ready (rs := [4]) (by kernel_rfl) (by simp) ?_
        refine (AllReady.cons rfl (fun K hK => ?_) AllReady.nil)
        · go_simp
          refine hK _ _ ?_
          clear hK K
          refine wpAny_done (by kernel_rfl) ?_ _
          go_wp2
          refine leaves_cons (f := 48) (args := #[.pointer (some ⟨a0, 0, none⟩), .pointer (some ⟨a0 + 1, 0, none⟩)]) (by simp) (by simp [go_sem]) ?_
          refine (noValues_idle ⟨a0, 0, none⟩ ⟨a0 + 1, 0, none⟩ _).mono ?_
          rintro e u' w'' ⟨rfl, rfl, rfl⟩
          obtain ⟨hO10, hT10, k10, hG10⟩ := H10.out
          have hO11 := (hO10.set 0 (.slice ao10 N10 c10)).set_other (c := a0 + 1) (by omega) 0 none (.bool true)
          have hT11 := (hT10.set_other (c := a0) (by omega) 0 none (.slice ao10 N10 c10)).set 0 (.bool true)
          have cO11 := hO11.cell (i := 0) rfl
          have cT11 := hT11.cell (i := 0) rfl
          have hws := Hsw.out
          have hsl := HO9.out.2.lt
          have K11 : Keep [] w ((w10.setCell ⟨a0, 0, none⟩ (.slice ao10 N10 c10)).setCell ⟨a0 + 1, 0, none⟩ (.bool true)) := ((HK9.out.drew.trans k10 (by simp)).set (by omega) _ _ _).set (by omega) _ _ _
          have hG11 := (hG10.keep (((Keep.refl [a0, a0 + 1] w10).set (b := a0) (by simp) 0 none (.slice ao10 N10 c10)).set (b := a0 + 1) (by simp) 0 none (.bool true)) (fun b hb => .inr (by simp at hb ⊢; omega))).lower (lo' := w.heap.size) (by simp; omega)
          refine ⟨.tuple #[.slice ao10 N10 c10, .bool true], ?_, .slice ao10 N10 c10, rfl, K11, hG11⟩
          clear hO11 hT11 K11 hG11
          obtain ⟨w12, hw12⟩ : ∃ w12, w12 = ((w10.setCell ⟨a0, 0, none⟩ (.slice ao10 N10 c10)).setCell ⟨a0 + 1, 0, none⟩ (.bool true)) := ⟨_, rfl⟩
          rw [← hw12] at cO11 cT11 ⊢
          clear hw12
          simp [results, Tryz.results14, go_sem, cO11, cT11]
end Go.Proofs.YtlolcgklcnechaaGreatDoor
set_option linter.unusedVariables false
set_option linter.unusedSimpArgs false
namespace Go.Proofs.YtlolcgklcnechaaGreatDoor
open Go.RowKit

theorem batchStep_map (f : Nat → Nat) (l : List Nat) (s : List Nat × Nat) (n : Int) : batchStep (l.map f) (s.1.map f, s.2) n = (batchStep l s n).map fun s => (s.1.map f, s.2) := by
  unfold batchStep
  simp only [List.length_map]
  split
  · rfl
  · simp [List.map_drop, List.map_take]

theorem batchOn_map (f : Nat → Nat) (l : List Nat) (bs : List Int) : batchOn (l.map f) bs = (batchOn l bs).map fun s => (s.1.map f, s.2) := by
  have key : ∀ (bs : List Int) (s : List Nat × Nat), bs.foldlM (batchStep (l.map f)) (s.1.map f, s.2) = (bs.foldlM (batchStep l) s).map fun s => (s.1.map f, s.2) := by
    intro bs
    induction bs with
    | nil => intro s; rfl
    | cons n bs ih =>
      intro s
      simp only [List.foldlM_cons, batchStep_map]
      cases h : batchStep l s n with
      | none => rfl
      | some s2 => exact ih s2
  exact key bs ([], 0)

theorem range_getD (ks : List Nat) : (List.range ks.length).map (fun i => ks.getD i 0) = ks := by
  apply List.ext_getElem?
  intro i
  by_cases h : i < ks.length
  · simp [h, List.getD]
  · rw [List.getElem?_eq_none (by simp; omega), List.getElem?_eq_none (by omega)]

theorem batchOn_range {ks : List Nat} {bs : List Int} {out : List Nat} {at' : Nat} (h : batchOn (List.range ks.length) bs = some (out, at')) : batchOn ks bs = some (out.map fun i => ks.getD i 0, at') := by
  have := batchOn_map (fun i => ks.getD i 0) (List.range ks.length) bs
  rw [range_getD, h] at this
  exact this

theorem leVal_le4 (x : Nat) (hx : x < 4294967296) : leVal (leBytes 4 x) = x := leVal_leBytes 4 x hx

/-- The i-th number of a dictionary's bytes. -/
theorem f32At_bytes : ∀ (l : List Vq) (i : Nat) (q : Vq), l[i]? = some q → q.num < 4294967296 → f32At (bytesOf l) i = q.num
  | [], i, q, h, _ => by simp at h
  | a :: l, 0, q, h, hq => by
    simp at h
    subst h
    unfold f32At bytesOf
    rw [Nat.mul_zero, List.drop_zero, List.flatMap_cons, List.take_left' (by simp)]
    exact leVal_le4 _ hq
  | a :: l, i + 1, q, h, hq => by
    simp at h
    have ih := f32At_bytes l i q h hq
    unfold f32At bytesOf at ih ⊢
    rw [List.flatMap_cons, show 4 * (i + 1) = (leBytes 4 a.num).length + 4 * i by simp; omega, ← List.drop_drop, List.drop_left' rfl]
    exact ih

theorem bytesOf_lt (l : List Vq) : ∀ y ∈ bytesOf l, y < 256 := by
  intro y hy
  unfold bytesOf at hy
  rw [List.mem_flatMap] at hy
  obtain ⟨q, -, hy⟩ := hy
  exact leBytes_lt _ _ y hy

theorem vlq_lt256 (n : Nat) : ∀ y ∈ vlq n, y < 256 := by
  induction n using Nat.strongRecOn with
  | _ n ih =>
    intro y hy
    by_cases h : n < 128
    · rw [vlq_small h] at hy; simp at hy; omega
    · rw [vlq_big h] at hy
      simp at hy
      rcases hy with rfl | hy
      · omega
      · exact ih (n / 128) (by omega) y hy

theorem encR_lt256 (W : Nat) (rs : List Rn) : ∀ y ∈ encR W rs, y < 256 := by
  intro y hy
  unfold encR at hy
  rw [List.mem_flatMap] at hy
  obtain ⟨r, _, hy⟩ := hy
  cases r with
  | rep n v =>
    simp only [Rn.enc, List.mem_append] at hy
    rcases hy with hy | hy
    · exact vlq_lt256 _ y hy
    · exact leBytes_lt _ _ y hy
  | lit l =>
    simp only [Rn.enc, List.mem_append] at hy
    rcases hy with hy | hy
    · exact vlq_lt256 _ y hy
    · exact leBytes_lt _ _ y hy

theorem vlq_nonempty (n : Nat) : 0 < (vlq n).length := by
  by_cases h : n < 128
  · rw [vlq_small h]; simp
  · rw [vlq_big h]; simp

theorem encR_nonempty {W : Nat} {rs : List Rn} (h : valsR rs ≠ []) : 0 < (encR W rs).length := by
  cases rs with
  | nil => exact absurd rfl h
  | cons r rs =>
    cases r with
    | rep n v => have := vlq_nonempty (2 * n); simp [encR, Rn.enc]; omega
    | lit l => have := vlq_nonempty (2 * (l.length / 8) + 1); simp [encR, Rn.enc]; omega

theorem all_short {W : Nat} : ∀ (rs : List Rq), (∀ r ∈ rs, r.Ok W) → (rs.flatMap Rq.all).length ≤ rs.length * 300
  | [], _ => by simp
  | r :: rs, h => by
    have h1 := Rq.all_length (h r (by simp))
    have h2 := all_short rs (fun x hx => h x (by simp [hx]))
    rw [List.flatMap_cons, List.length_append, List.length_cons, Nat.succ_mul]
    omega

/-- The values of numbers in a dictionary, picked again. -/
theorem pick_pick {l : List Vq} {ks out : List Nat} (h : ∀ x ∈ out, x < ks.length) (hk : ∀ k ∈ ks, k < l.length) (hp : ∀ q ∈ l, q.Plain q.num ∧ q.num < 4294967296) :
    ∀ (i x : Nat) (q : Vq), ((out.map fun i => ks.getD i 0).map (f32At (bytesOf l)))[i]? = some x → (pick (pick l ks) out)[i]? = some q → q.Plain x := by
  intro i x q hx hq
  simp only [List.getElem?_map, pick] at hx hq
  cases ho : out[i]? with
  | none => rw [ho] at hx; cases hx
  | some o =>
    rw [ho] at hx hq
    simp only [Option.map_some, Option.some.injEq] at hx hq
    have hok := h o (List.mem_of_getElem? ho)
    have hkk : ks[o]? = some ks[o] := List.getElem?_eq_getElem hok
    have hkl := hk ks[o] (List.getElem_mem _)
    have hll : l[ks[o]]? = some l[ks[o]] := List.getElem?_eq_getElem hkl
    have hgk : ks.getD o 0 = ks[o] := by simp [List.getD, hkk]
    have hq2 : (List.map (fun k => l.getD k dq) ks).getD o dq = l[ks[o]] := by
      simp [List.getD, hkk, hll]
    rw [hq2] at hq
    rw [hgk] at hx
    obtain ⟨p1, p2⟩ := hp l[ks[o]] (List.getElem_mem _)
    rw [f32At_bytes l ks[o] _ hll p2] at hx
    rw [← hq, ← hx]
    exact p1

theorem nums_plain (xs : List Nat) : ∀ (i x : Nat) (q : Vq), xs[i]? = some x → (nums xs)[i]? = some q → q.Plain x := by
  intro i x q hx hq
  simp only [nums, List.getElem?_map, hx, Option.map_some, Option.some.injEq] at hq
  subst hq
  exact ⟨rfl, rfl, rfl, rfl⟩
end Go.Proofs.YtlolcgklcnechaaGreatDoor
set_option linter.unusedVariables false
set_option linter.unusedSimpArgs false
namespace Go.Proofs.YtlolcgklcnechaaGreatDoor
open Go.RowKit

theorem all_lt {W : Nat} {r : Rq} (h : r.Ok W) : ∀ x ∈ r.all, x < 2 ^ W := by
  obtain ⟨h1, h2, h3, h4⟩ := h
  intro x hx
  unfold Rq.all at hx
  cases hp : r.packed with
  | true =>
    rw [hp] at hx
    simp only [if_true, List.mem_append, List.mem_replicate] at hx
    rcases hx with hx | ⟨_, rfl⟩
    · exact h4 x hx
    · exact Nat.two_pow_pos _
  | false =>
    rw [hp] at hx
    simp only [Bool.false_eq_true, if_false, List.mem_replicate] at hx
    obtain ⟨_, rfl⟩ := hx
    have hl := (h3 hp).2
    match hv : r.vs, hl with
    | [a], _ => exact h4 a (by rw [hv]; simp)

/-- The constant call's values. -/
theorem oneVals {w : World} {b : Nat} (h : Blk w b (Vq.cells (numV 5))) : ValsAt w (.slice (some ⟨b, 0, none⟩) 1 1) [numV 5] := by
  refine ⟨some ⟨b, 0, none⟩, 1, rfl, Nat.le_refl _, fun i q hq => ?_⟩
  match i, hq with
  | 0, hq =>
    simp at hq
    subst hq
    refine ⟨⟨b, 0, none⟩, rfl, ?_⟩
    rw [Nat.zero_mul, add_at, Nat.zero_add]
    exact ⟨h.cell (i := 0) rfl, h.cell (i := 1) rfl, h.cell (i := 2) rfl, h.cell (i := 3) rfl⟩

theorem oneRow {w : World} {b : Nat} (h : Blk w b (rowV .u8 [1, 2, 0])) : RowAt w (.slice (some ⟨b, 0, none⟩) 3 3) .u8 [1, 2, 0] :=
  .inr ⟨⟨b, 0, none⟩, 3, rfl, Nat.le_refl _, fun i x hx => by rw [add_at, Nat.zero_add]; exact h.cell (rowV_get hx)⟩

theorem oneInts {w : World} {b : Nat} (h : Blk w b [.int .i64 1]) : IntsAt w (.slice (some ⟨b, 0, none⟩) 1 1) [1] := by
  refine .inr ⟨⟨b, 0, none⟩, 1, rfl, Nat.le_refl _, fun i x hx => ?_⟩
  match i, hx with
  | 0, hx =>
    simp at hx
    subst hx
    rw [add_at, Nat.zero_add]
    exact h.cell rfl

/-- The constant call. -/
theorem oneRead (pv : Value) (b c : Nat) (ea : Addr) (w : World) (hp : RowAt w pv .u8 (bytesOf [numV 5])) (hb : Blk w b (rowV .u8 [1, 2, 0])) (hc : Blk w c [.int .i64 1]) (hE : Eof w ea) :
    Calls Tryz.prog 14 #[pv, .int .i64 1, .slice (some ⟨b, 0, none⟩) 3 3, .int .i64 1, .slice (some ⟨c, 0, none⟩) 1 1] w fun e w' =>
      ∃ g cap, e = .returned (.tuple #[.slice (some ⟨g, 0, none⟩) 1 cap, .bool true]) ∧ Keep [] w w' ∧ w'.cell? ⟨g, 0, none⟩ = some (.bool false) ∧ w'.cell? ⟨g, 1, none⟩ = some (.int .u64 5) ∧ w'.cell? ⟨g, 2, none⟩ = some (.string ⟨#[]⟩) ∧ w'.cell? ⟨g, 3, none⟩ = some (.slice none 0 0) := by
  have h := dictReadC pv (.slice (some ⟨b, 0, none⟩) 3 3) 4 1 2 1 1 1 (bytesOf [numV 5]) [2, 0] [.rep 1 0] [] ea (.slice (some ⟨c, 0, none⟩) 1 1) [1] [0] w hp (by simp [bytesOf_length]) (bytesOf_lt _) rfl (by omega) (by omega)
    (oneRow hb) rfl (by intro y hy; simp at hy; omega) hE (by omega) (by omega) (by omega) (by omega) (by intro r hr; simp at hr; subst hr; exact ⟨by omega, by omega, by simp⟩) (by simp [encR, Rn.enc, vlq_small, leBytes]) (by simp [valsR, Rn.vals]) (by omega) (by intro x hx; simp [valsR, Rn.vals] at hx; omega)
    (oneInts hc) (by rfl) (by simp)
  refine h.mono ?_
  rintro e w' ⟨v, rfl, k, hG⟩
  have hn : nums ([0].map (f32At (bytesOf [numV 5]))) = [numV 5] := by
    have := f32At_bytes [numV 5] 0 (numV 5) rfl (by simp [numV])
    simp only [List.map_cons, List.map_nil, this, nums]
    rfl
  rw [hn] at hG
  rcases hG with ⟨_, h⟩ | ⟨g, cap, cs, rfl, h2, h3, h4, h5, h6, h7⟩
  · cases h
  · have key : ∀ j u, (Vq.cells (numV 5))[j]? = some u → w'.cell? ⟨g, j, none⟩ = some u := fun j u hu => by
      have hj := (List.getElem?_eq_some_iff.1 hu).1
      refine h4.cell ?_
      have e : (if j < 4 then cs[j]? else none) = (Vq.cells (numV 5))[j]? := by
        have := congrArg (fun l => l[j]?) h6
        simp only [List.length_singleton, Nat.one_mul, List.getElem?_take, List.flatMap_cons, List.flatMap_nil, List.append_nil] at this
        exact this
      have hj4 : j < 4 := hj
      rw [if_pos hj4] at e
      rw [e]; exact hu
    exact ⟨g, cap, rfl, k, key 0 _ rfl, key 1 _ rfl, key 2 _ rfl, key 3 _ rfl⟩

set_option maxRecDepth 100000 in
set_option maxHeartbeats 4000000 in
theorem fnDictReadC (v0 v2 v3 : Value) (width : Int) (dict : List Vq) (rs : List Rq) (bs : List Int) (ea : Addr) (w : World) (hV : ValsAt w v0 dict) (hR : RunsAt w v2 rs) (hB : IntsAt w v3 bs) (hE : Eof w ea) (hq : ∀ q ∈ dict, q.num < 18446744073709551616)
    (hu : ∀ r ∈ rs, ∀ x ∈ r.vs, x < 18446744073709551616) (hct : ∀ r ∈ rs, -9223372036854775808 ≤ r.count ∧ r.count ≤ 9223372036854775807) (hb : ∀ x ∈ bs, -9223372036854775808 ≤ x ∧ x ≤ 9223372036854775807) :
    Calls Tryz.prog 4 #[v0, .int .i64 width, v2, v3] w fun e w' => e = .returned (.bool true) ∧ Keep [] w w' := by
  have hV0 := hV
  have hR0 := hR
  have hB0 := hB
  obtain ⟨ao, cap, rfl, hcap, -⟩ := hV
  obtain ⟨ro, rcap, rfl, hrcap, -⟩ := hR
  obtain ⟨bo, bcap, rfl, hbcap, -⟩ := hB.open
  obtain ⟨n, hn⟩ : ∃ n, n = dict.length := ⟨_, rfl⟩
  obtain ⟨l, hl⟩ : ∃ l, l = rs.length := ⟨_, rfl⟩
  obtain ⟨m, hm⟩ : ∃ m, m = bs.length := ⟨_, rfl⟩
  rw [← hn] at hV0 hcap ⊢
  rw [← hl] at hR0 hrcap ⊢
  rw [← hm] at hB0 hbcap ⊢
  have Hn := Lib.hid (And.intro hn (And.intro hl hm))
  have HV := Lib.hid (And.intro hV0 (And.intro hR0 (And.intro hB0 hE)))
  have Hq := Lib.hid (And.intro hq (And.intro hu (And.intro hct hb)))
  clear hn hl hm hV0 hR0 hB0 hE hq hu hct hb hB
  by_cases h1 : 2147483647 < n
  · have h1i : (2147483647 : Int) < (n : Int) := by omega
    go_enter Tryz.func4, Tryz.ntmps4
    go_wp2
    go_ret
    exact ⟨rfl, Keep.refl _ _⟩
  have h1i : ¬ (2147483647 : Int) < (n : Int) := by omega
  go_enter Tryz.func4, Tryz.ntmps4
  go_wp2_with fail
  refine (fits5C _ rs w HV.out.2.1).mono ?_
  rintro e w1 ⟨b1, rfl, k1, hb1⟩
  cases b1 with
  | false =>
    go_wp2
    go_ret
    exact ⟨rfl, k1⟩
  | true =>
    have HF := Lib.hid (hb1 rfl)
    clear hb1
    by_cases h2 : 2147483647 < m
    · have h2i : (2147483647 : Int) < (m : Int) := by omega
      go_wp2
      go_ret
      exact ⟨rfl, k1⟩
    have h2i : ¬ (2147483647 : Int) < (m : Int) := by omega
    go_wp2_with fail
    refine (plainlyC _ [numV 5] _ (oneVals (Blk.new w1 (Vq.cells (numV 5)) _)) (by simp)).mono ?_
    rintro e w2 ⟨pv, rfl, k2, hG2⟩
    have hp2 := hG2.row
    obtain ⟨pa, pc, hpv, -, -⟩ := hp2.open
    rw [show (bytesOf [numV 5]).length = 4 from bytesOf_length _] at hpv
    subst hpv
    have K2 : Keep [] w w2 := (k1.alloc _).trans k2 (by simp)
    have H2 := Lib.hid (And.intro hp2 K2)
    clear hG2 hp2 k2 K2
    go_wp2_with fail
    refine (oneRead _ w2.heap.size (w2.heap.size + 1) ea _ ((H2.out.1.keep ((Keep.refl [] w2).alloc _)).keep ((Keep.refl [] _).alloc _)) ((Blk.new w2 (rowV .u8 [1, 2, 0]) _).alloc _) (Blk.of_new (cs := [.int .i64 1]) (by simp)) (HV.out.2.2.2.keep ((H2.out.2.alloc _).alloc _) (by simp))).mono ?_
    rintro e w3 ⟨g, gc, rfl, k3, c0, c1, c2, c3⟩
    have K3 : Keep [] w w3 := ((H2.out.2.alloc _).alloc _).trans k3 (by simp)
    have HK3 := Lib.hid K3
    clear k3 K3
    go_wp2_with fail
    refine (sameValueC (numV 5) (numV 5) 5 _ ⟨rfl, rfl, rfl, rfl⟩ ⟨rfl, rfl, rfl, rfl⟩).mono ?_
    rintro e w4 ⟨rfl, k4⟩
    have K4 : Keep [] w w4 := HK3.out.trans k4 (by simp)
    clear c0 c1 c2 c3 k4
    go_wp2_with fail
    refine (byIndexC _ rs width w4 (HV.out.2.1.keep K4) Hq.out.2.1 HF.out.2 Hq.out.2.2.1).mono ?_
    rintro e w5 ⟨dv, av, okI, rfl, k5, hf5, ht5⟩
    have K5 : Keep [] w w5 := K4.trans k5 (by simp)
    clear K4 k5
    cases okI with
    | false =>
      obtain rfl := hf5 rfl
      clear ht5 hf5
      go_wp2_with fail
      refine (indexedC _ _ dict [] w5 (HV.out.1.keep K5) (.inl ⟨rfl, rfl⟩) (by have := Hn.out.1; omega) (by simp) (by simp)).mono ?_
      rintro e w6 ⟨iv, ok2, rfl, k6, ht6, hf6⟩
      clear ht6 hf6
      go_wp2
      go_ret
      exact ⟨rfl, K5.trans k6 (by simp)⟩
    | true =>
      obtain ⟨W, rfl, hW0, hW, h40, hrok, hdv, hav⟩ := ht5 rfl
      clear ht5 hf5
      obtain ⟨ks, hks⟩ : ∃ ks, ks = rs.flatMap Rq.all := ⟨_, rfl⟩
      have hkl : ks.length ≤ 12000 := by
        have := all_short rs hrok
        rw [hks]; omega
      have hku : ∀ k ∈ ks, k < 18446744073709551616 := fun k hk => by
        rw [hks, List.mem_flatMap] at hk
        obtain ⟨r, hr, hk⟩ := hk
        have h1 := all_lt (hrok r hr) k hk
        have h2 : 2 ^ W ≤ 2 ^ 20 := Nat.pow_le_pow_right (by omega) hW
        omega
      rw [← hks] at hav
      have hav0 := hav
      obtain ⟨aa, ac, rfl, hac, -⟩ := hav.open
      obtain ⟨da, dc, hdv', hdc, -⟩ := hdv.open
      obtain ⟨N, hN⟩ : ∃ N, N = ks.length := ⟨_, rfl⟩
      obtain ⟨dn, hdn⟩ : ∃ dn, dn = (W :: encR W (rs.map Rq.rn)).length := ⟨_, rfl⟩
      rw [← hdn] at hdv' hdc
      subst hdv'
      rw [← hN] at hav0 hac hkl ⊢
      have hX := indexedC _ _ dict ks w5 (HV.out.1.keep K5) hav0 (by have := Hn.out.1; omega) (by omega) hku
      have HX := Lib.hid hX
      have HR := Lib.hid (And.intro h40 (And.intro hrok (And.intro hdv (And.intro hks (And.intro hN (And.intro hdn hku))))))
      clear h40 hrok hdv hks hN hdn hku hav hav0 hX
      go_wp2_with fail
      refine HX.out.mono ?_
      rintro e w6 ⟨iv, ok2, rfl, k6, ht6, hf6⟩
      have K6 : Keep [] w w6 := K5.trans k6 (by simp)
      clear HX
      cases ok2 with
      | false =>
        clear ht6 hf6
        go_wp2
        go_ret
        exact ⟨rfl, K6⟩
      | true =>
        obtain ⟨hkd, hG6⟩ := ht6 rfl
        clear ht6 hf6
        obtain ⟨ia, ic, hiv, hic⟩ := hG6.shape
        have hpl : (pick dict ks).length = N := by simp [pick, HR.out.2.2.2.2.1]
        rw [hpl] at hiv hic
        have hV6 := hG6.vals
        subst hiv
        have H6 := Lib.hid (And.intro hkd (And.intro hV6 (And.intro hpl (And.intro k6 K6))))
        clear hkd hG6 hV6 hpl k6 K6 K5
        by_cases hN0 : N = 0
        · subst hN0
          go_wp2
          go_ret
          exact ⟨rfl, H6.out.2.2.2.2⟩
        have hN0i : ¬ (N : Int) = 0 := by omega
        have hN0b : ((N : Int) == 0) = false := by rw [beq_eq_false_iff_ne]; omega
        by_cases h100 : 100 < n
        · have h100i : (100 : Int) < (n : Int) := by omega
          go_wp2
          go_ret
          exact ⟨rfl, H6.out.2.2.2.2⟩
        have h100i : ¬ (100 : Int) < (n : Int) := by omega
        go_wp2_with fail
        refine (plainAllC _ dict w6 (HV.out.1.keep H6.out.2.2.2.2) (by have := Hn.out.1; omega) Hq.out.1).mono ?_
        rintro e w7 ⟨b7, rfl, k7, hb7⟩
        have K7 : Keep [] w w7 := H6.out.2.2.2.2.trans k7 (by simp)
        cases b7 with
        | false =>
          clear hb7
          go_wp2
          go_ret
          exact ⟨rfl, K7⟩
        | true =>
          have hpla := hb7 rfl
          clear hb7
          have HP := Lib.hid hpla
          have HK7 := Lib.hid (And.intro k7 K7)
          clear hpla k7 K7
          go_wp2_with fail
          refine (plainFloatsC _ dict w7 (HV.out.1.keep HK7.out.2) (by have := Hn.out.1; omega) (fun q hq => (HP.out q hq).2)).mono ?_
          rintro e w8 ⟨b8, rfl, k8⟩
          have K8 : Keep [] w w8 := HK7.out.2.trans k8 (by simp)
          have k68 : Keep [] w6 w8 := HK7.out.1.trans k8 (by simp)
          have k58 : Keep [] w5 w8 := H6.out.2.2.2.1.trans k68 (by simp)
          cases b8 with
          | false =>
            go_wp2
            go_ret
            exact ⟨rfl, K8⟩
          | true =>
            have HK8 := Lib.hid (And.intro K8 (And.intro k68 k58))
            clear K8 k68 k58 k8
            have hBV := batchedValuesC _ _ (pick dict ks) bs w8 (H6.out.2.1.keep HK8.out.2.1) (HV.out.2.2.1.keep HK8.out.1) Hq.out.2.2.2 (by rw [H6.out.2.2.1]; omega) (by have := Hn.out.2.2; omega)
            have HBV := Lib.hid hBV
            clear hBV
            go_wp2_with fail
            refine HBV.out.mono ?_
            rintro e w9 ⟨wv, ok3, rfl, k9, ht9⟩
            clear HBV
            have K9 : Keep [] w w9 := HK8.out.1.trans k9 (by simp)
            cases ok3 with
            | false =>
              clear ht9
              go_wp2
              go_ret
              exact ⟨rfl, K9⟩
            | true =>
              obtain ⟨h50, out, at', hbo, hG9⟩ := ht9 rfl
              clear ht9
              have hV9 := hG9.vals
              obtain ⟨wa, wc, hwv, hwc⟩ := hG9.shape
              obtain ⟨M, hM⟩ : ∃ M, M = (pick (pick dict ks) out).length := ⟨_, rfl⟩
              rw [← hM] at hwv hwc
              subst hwv
              have H9 := Lib.hid (And.intro h50 (And.intro hbo (And.intro hV9 (And.intro hM (And.intro K9 k9)))))
              clear h50 hbo hG9 hV9 hM K9 k9
              go_wp2_with fail
              refine (plainlyC _ dict w9 (HV.out.1.keep H9.out.2.2.2.2.1) (by have := Hn.out.1; omega)).mono ?_
              rintro e w10 ⟨qv, rfl, k10, hG10⟩
              have hq10 := hG10.row
              obtain ⟨qa, qc, hqv, hqc, -⟩ := hq10.open
              rw [bytesOf_length, ← Hn.out.1] at hqv hqc
              obtain ⟨n4, hn4⟩ : ∃ n4, n4 = 4 * n := ⟨_, rfl⟩
              rw [← hn4] at hqv hqc
              have K10 : Keep [] w w10 := H9.out.2.2.2.2.1.trans k10 (by simp)
              have k910 : Keep [] w5 w10 := (HK8.out.2.2.trans H9.out.2.2.2.2.2 (by simp)).trans k10 (by simp)
              obtain ⟨h40, hrok, hdv, hks, hN, hdn, hku⟩ := HR.out
              obtain ⟨hkd, hV6, hpl, -, -⟩ := H6.out
              obtain ⟨h50, hbo, hV9, hM, -, -⟩ := H9.out
              have hvr : valsR (rs.map Rq.rn) = ks := by rw [valsR_rn, hks]
              have hks0 : valsR (rs.map Rq.rn) ≠ [] := fun h => hN0 (by rw [hN, ← hvr, h]; rfl)
              have hen := encR_nonempty (W := W) hks0
              have hes := encR_short hW rs hrok
              have hn0 : 0 < n := by
                have : ks ≠ [] := fun h => hN0 (by rw [hN, h]; rfl)
                match hk : ks, this with
                | k :: _, _ => have := hkd k (by simp); have := Hn.out.1; omega
              rw [hpl, hN] at hbo
              have hbat := batchOn_range hbo
              rw [← hvr] at hbat
              have hrk : ∀ r ∈ rs.map Rq.rn, Rn.Ok W r := fun r hr => by
                rw [List.mem_map] at hr
                obtain ⟨x, hx, rfl⟩ := hr
                exact Rq.rn_ok (hrok x hx)
              subst hqv
              have hdl : (encR W (rs.map Rq.rn)).length + 1 = dn := by rw [hdn]; simp
              have hRd := dictReadC _ _ n4 n (encR W (rs.map Rq.rn)).length N W at' (bytesOf dict) (encR W (rs.map Rq.rn)) (rs.map Rq.rn) [] ea _ bs _ w10 hq10 (by rw [bytesOf_length, ← Hn.out.1, hn4]) (bytesOf_lt dict) hn4 hn0 (by omega)
                (hdv.keep k910) rfl (encR_lt256 W _) (HV.out.2.2.2.keep K10 (by simp)) hW0 (by omega) hen (by omega) hrk (by simp) (by rw [hvr, hN]) (by omega) (by rw [hvr, Hn.out.1] at *; exact hkd) (HV.out.2.2.1.keep K10) hbat (by omega)
              have HRd := Lib.hid hRd
              have H10 := Lib.hid (And.intro K10 k10)
              clear hRd hq10 hG10 K10 k10 k910 h40 hrok hdv hks hN hdn hku hkd hV6 hpl h50 hV9 hM hvr hks0 hen hes hbat hrk hdl hn4
              go_wp2_with fail
              refine HRd.out.mono ?_
              rintro e w11 ⟨rv, rfl, k11, hG11⟩
              obtain ⟨h40, hrok, hdv, hks, hN, hdn, hku⟩ := HR.out
              obtain ⟨hkd, hV6, hpl, -, -⟩ := H6.out
              obtain ⟨h50, hbo2, hV9, hM, -, -⟩ := H9.out
              have hvr : valsR (rs.map Rq.rn) = ks := by rw [valsR_rn, hks]
              rw [hvr] at hG11
              obtain ⟨xs, hxs⟩ : ∃ xs, xs = (out.map fun i => ks.getD i 0).map (f32At (bytesOf dict)) := ⟨_, rfl⟩
              have hlt := batchOn_lt (n := ks.length) bs bs.length out at' (by rw [List.take_length]; exact hbo)
              have hle := batchOn_le bs.length bs out at' (by rw [List.take_length]; exact hbo)
              have hxl : xs.length = out.length := by rw [hxs]; simp
              have hpp := pick_pick hlt hkd HP.out
              rw [← hxs] at hG11 hpp
              have hV11 := hG11.vals
              obtain ⟨ra, rc, hrv, -⟩ := hG11.shape
              obtain ⟨R, hRl⟩ : ∃ R, R = (nums xs).length := ⟨_, rfl⟩
              have hS := sameValuesC _ _ (nums xs) (pick (pick dict ks) out) xs w11 hV11 (hV9.keep (H10.out.2.trans k11 (by simp))) (by simp [nums]) (by rw [hxl]; simp [pick]) (by rw [hxl]; have := hle.1; have := hle.2; simp at *; omega) (nums_plain xs) hpp
              rw [← hRl] at hrv
              subst hrv
              have K11 : Keep [] w w11 := H10.out.1.trans k11 (by simp)
              have HS := Lib.hid hS
              clear h40 hrok hdv hks hN hdn hku hkd hV6 hpl h50 hbo2 hbo hV9 hM hvr hxs hlt hle hxl hpp hG11 hV11 hRl hS HRd k11
              go_wp2_with fail
              refine HS.out.mono ?_
              rintro e w12 ⟨rfl, k12⟩
              clear HS
              go_wp2
              go_ret
              exact ⟨rfl, K11.trans k12 (by simp)⟩
end Go.Proofs.YtlolcgklcnechaaGreatDoor
