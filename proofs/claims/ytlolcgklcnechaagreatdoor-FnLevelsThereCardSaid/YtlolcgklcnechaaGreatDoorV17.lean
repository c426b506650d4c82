/- laws.FnLevelsThere, walked: the law itself. -/
import Derived.Test.YtlolcgklcnechaaGreatDoorV16
set_option linter.unusedVariables false
set_option linter.unusedSimpArgs false
namespace Go.Proofs.YtlolcgklcnechaaGreatDoor
open Go.RowKit

set_option maxRecDepth 100000 in
set_option maxHeartbeats 1500000 in
theorem fnLevelsThereC (r : Bool) (v : Value) (g : Int) (ps : List (List Int)) (ea : Addr) (w : World) (hP : PartsAt w v .i16 ps) (hE : Eof w ea) (hn : ps.length ≤ 9223372036854775807) (hl : ∀ l ∈ ps, l.length ≤ 9223372036854775807)
    (hw : ∀ x ∈ ps.flatten, -32768 ≤ x ∧ x ≤ 32767) :
    Calls Tryz.prog 6 #[.bool r, .int .i64 g, v] w fun e w' => e = .returned (.bool true) ∧ Keep [] w w' := by
  have HP := Lib.hid hP
  have HE := Lib.hid hE
  have Hw := Lib.hid hw
  have hF := fitsC v ps w hP hn hl
  obtain ⟨ao, cap, rfl, -⟩ := hP
  obtain ⟨pl, hpl⟩ : ∃ pl, pl = ps.length := ⟨_, rfl⟩
  have Hpl := Lib.hid hpl
  rw [← hpl] at hF ⊢
  clear hE hw hl hn hpl
  go_enter Tryz.func6, Tryz.ntmps6
  go_wp2_with fail
  refine hF.mono ?_
  rintro e w' ⟨b, rfl, hw', hb⟩
  have hw'' := hw'.symm
  subst hw''
  clear hw' hF
  cases b with
  | false =>
    go_wp2
    go_ret
    exact ⟨rfl, Keep.refl _ _⟩
  | true =>
    obtain ⟨hb1, hb2⟩ := hb rfl
    have hJ := joinedC _ ps g w HP.out hb2 Hw.out hb1
    rw [← Hpl.out] at hJ
    clear hb hb1 hb2
    go_wp2_with fail
    refine hJ.mono ?_
    rintro e w2 ⟨jv, ok, rfl, k2, hok⟩
    clear hJ
    cases ok with
    | false =>
      go_wp2_with fail
      refine (levelsC _).mono ?_
      rintro e w3 ⟨rfl, k3⟩
      go_wp2
      go_ret
      exact ⟨rfl, k2.trans k3 (by simp)⟩
    | true =>
      obtain ⟨hg1, hg2, h20, hin, hN0, hN, hG⟩ := hok rfl
      obtain ⟨gn, rfl⟩ : ∃ gn : Nat, g = (gn : Int) := ⟨g.toNat, by omega⟩
      have hg1 : 0 < gn := by omega
      have hg2 : gn ≤ 16384 := by omega
      obtain ⟨hW0, hW15, hsm⟩ := width_spec gn hg1 hg2
      obtain ⟨want, hwant⟩ : ∃ want, want = ps.flatten.map Int.toNat := ⟨_, rfl⟩
      obtain ⟨n, hn⟩ : ∃ n, n = ps.flatten.length := ⟨_, rfl⟩
      have hwl : want.length = n := by rw [hwant, hn, List.length_map]
      have hwg : ∀ x ∈ want, x < 2 ^ bitLen gn := fun x hx => by
        rw [hwant, List.mem_map] at hx
        obtain ⟨y, hy, rfl⟩ := hx
        have := hin y hy
        exact hsm _ (by omega)
      have hw15 : ∀ x ∈ want, x < 32768 := fun x hx => by
        have h1 := hwg x hx
        have h2 : 2 ^ bitLen gn ≤ 2 ^ 15 := Nat.pow_le_pow_right (by omega) hW15
        omega
      rw [← hwant] at hG
      obtain ⟨lo, lc, rfl, -, hlcell⟩ := hG.row.open
      rw [← hn] at hN0 hN
      have hW := writtenPost r gn n _ ps want w2 hwant hn (HP.out.keep k2) hg1 hg2 hin hN0 hN h20 hwg
      rw [← Hpl.out] at hW
      rw [hwl]
      have Hwl := Lib.hid hwl
      have Hlc := Lib.hid hlcell
      have Hsm := Lib.hid hw15
      have Hwg := Lib.hid hwg
      have HE2 := Lib.hid (HE.out.keep k2 (by simp))
      have Hk2 := Lib.hid k2
      clear hG hlcell hw15 hwg hsm hwl hin h20 hwant hn hok k2 HE HP Hw hW0 hW15
      go_wp2_with fail
      refine hW.mono ?_
      rintro e w3 ⟨d, len, cp, rfl, hWP⟩
      have HWP := Lib.hid hWP
      clear hW hWP
      go_upto_if 35 with (fail)
      go_cut [9] from 16 to 64 (fun dv wx => ReadyPost r gn n want w2 dv wx)
      case first =>
        cases r with
        | true =>
          obtain ⟨k3, hr, -⟩ := HWP.out
          obtain ⟨hfin, hfin0, hfin9, hBA⟩ := hr rfl
          have hBh := behindC d len cp _ w3 hBA hfin0 hfin9
          have HF := Lib.hid (And.intro k3 hfin)
          clear k3 hr hBA hfin
          go_wp2_with fail
          refine hBh.mono ?_
          rintro e w4 ⟨b, c, cs, rfl, k4, hb0, hb, hcl, hc4, hcs, hone⟩
          have HR : Hid (ReadyPost true gn n want w2 (.slice (some ⟨b, 0, none⟩) (4 + len) c) w4) := Lib.hid
            ⟨b, _, c, rfl, HF.out.1.trans k4 (by simp), levelsReadRle gn n len b c ea want cs w4 hg1 hg2 hN0 hN Hwl.out Hwg.out HF.out.2 hfin0 hfin9 hb hcl hc4 hcs hone ((HE2.out.keep HF.out.1 (by simp)).keep k4 (by simp))⟩
          clear hBh k4 hb0 hb hcl hc4 hcs hone
          go_wp2_with fail
          go_meet
          exact HR.out
        | false =>
          obtain ⟨k3, -, hr⟩ := HWP.out
          obtain ⟨rfl, hL, hL6, data, hd, hdl, hdt⟩ := hr rfl
          have HR : Hid (ReadyPost false gn n want w2 (.slice (some ⟨d, 0, none⟩) len len) w3) := Lib.hid
            ⟨d, _, _, rfl, k3, levelsReadPacked gn n d len ea want data w3 hg1 hg2 hN0 hN Hwl.out Hwg.out hL hd hdl hdt hL6 (HE2.out.keep k3 (by simp))⟩
          clear k3 hr hL hL6 hd hdl hdt
          go_wp2_with fail
          go_meet
          exact HR.out
      case rest =>
        obtain ⟨b, len, c, rfl, k24, hRd⟩ := hcut
        have Hk24 := Lib.hid k24
        clear k24 HWP HE2 Hwg
        go_wp2_with fail
        refine hRd.mono ?_
        rintro e w5 ⟨got, gi, u, rfl, k5, hgot⟩
        obtain ⟨ga, gc, rfl, -, hgcell⟩ := hgot.open
        have HK5 := Lib.hid (((Hk2.out.trans Hk24.out (by simp)).alloc (.cells #[.int .i64 (n : Int)] 3)).trans k5 (by simp))
        have hLc : ∀ (i x : Nat), want[i]? = some x → ∃ a, lo = some a ∧ w5.cell? (a.add i) = some (.int .u64 (x : Int)) := fun i x hx => by
          obtain ⟨a, e, hc⟩ := Hlc.out i x hx
          exact ⟨a, e, ((Hk24.out.alloc (.cells #[.int .i64 (n : Int)] 3)).trans k5 (by simp)).cell_some hc (by simp)⟩
        rw [Hwl.out]
        have Hgc := Lib.hid hgcell
        have HLc := Lib.hid hLc
        clear hgcell hLc hgot k5 hRd Hlc Hk2 Hk24
        go_wp2_with fail
        go_loopw [67] (fun i wr => ∃ k : Nat, k ≤ n ∧ i = .int .i64 (k : Int) ∧ Keep [] w5 wr) (fun i _ => n - (intOf i).toNat)
        case atStart => exact ⟨0, Nat.zero_le _, rfl, Keep.refl _ _⟩
        case round =>
          obtain ⟨k, hk, rfl, kk⟩ := hrel
          by_cases hk2 : k < n
          · obtain ⟨x, hx⟩ : ∃ x, want[k]? = some x := ⟨want[k]'(by rw [Hwl.out]; exact hk2), by simp⟩
            obtain ⟨a, rfl, hca⟩ := Hgc.out k x hx
            obtain ⟨b2, rfl, hcb⟩ := HLc.out k x hx
            have hca := kk.cell_some hca (by simp)
            have hcb := kk.cell_some hcb (by simp)
            have hx15 := Hsm.out x (List.mem_of_getElem? hx)
            have hxi : ¬ (x : Int) < 0 := by omega
            have hxw : IntKind.u64.wrap (x : Int) = (x : Int) := by rw [IntKind.wrap_u64]; omega
            clear hx
            go_wp2_with fail
            refine wp_region_any (by kernel_rfl) ?_
            change wpAny _ _ _ _ _ _ _ (World.drew _)
            refine wpAny_take (i := 0) (v := ?_) rfl (by kernel_rfl) (by kernel_rfl) (by kernel_rfl) (fun _ _ _ h => h) (Or.inl ⟨by rfl, ?_⟩) ?_
            rotate_left 1
            · (intro w; go_simp; try with_reducible rfl)
            refine wpAny_take (i := 1) (v := ?_) rfl (by kernel_rfl) (by kernel_rfl) (by kernel_rfl) (fun _ _ _ h => h) (Or.inl ⟨by rfl, ?_⟩) ?_
            rotate_left 1
            · (intro w; go_simp; try with_reducible rfl)
            refine wpAny_take (i := 2) (v := ?_) rfl (by kernel_rfl) (by kernel_rfl) (by kernel_rfl) (fun _ _ _ h => h) (Or.inl ⟨by rfl, ?_⟩) ?_
            rotate_left 1
            · (intro w; go_simp; try with_reducible rfl)
            refine wpAny_ready (rs := [3]) (by kernel_rfl) (by simp) ?_
            refine (AllReady.cons rfl (fun K hK => ?_) AllReady.nil)
            go_simp
            refine hK _ _ ?_
            clear hK K
            refine wpAny_take (i := 4) (v := ?_) rfl (by kernel_rfl) (by kernel_rfl) (by kernel_rfl) (fun _ _ _ h => h) (Or.inl ⟨by rfl, ?_⟩) ?_
            rotate_left 1
            · (intro w; go_simp; try with_reducible rfl)
            refine wpAny_take (i := 5) (v := ?_) rfl (by kernel_rfl) (by kernel_rfl) (by kernel_rfl) (fun _ _ _ h => h) (Or.inl ⟨by rfl, ?_⟩) ?_
            rotate_left 1
            · (intro w; go_simp; try with_reducible rfl)
            go_simp
            refine wpAny_take (i := 6) (v := ?_) rfl (by kernel_rfl) (by kernel_rfl) (by kernel_rfl) (fun _ _ _ h => h) (Or.inl ⟨by rfl, ?_⟩) ?_
            rotate_left 1
            · (intro w; go_simp; try with_reducible rfl)
            refine wpAny_take (i := 7) (v := ?_) rfl (by kernel_rfl) (by kernel_rfl) (by kernel_rfl) (fun _ _ _ h => h) (Or.inl ⟨by rfl, ?_⟩) ?_
            rotate_left 1
            · (intro w; go_simp; try with_reducible rfl)
            refine wpAny_take (i := 8) (v := ?_) rfl (by kernel_rfl) (by kernel_rfl) (by kernel_rfl) (fun _ _ _ h => h) (Or.inl ⟨by rfl, ?_⟩) ?_
            rotate_left 1
            · (intro w; go_simp; try with_reducible rfl)
            go_simp
            refine wpAny_take (i := 11) (v := ?_) rfl (by kernel_rfl) (by kernel_rfl) (by kernel_rfl) (fun _ _ _ h => h) (Or.inl ⟨by rfl, ?_⟩) ?_
            rotate_left 1
            · (intro w; go_simp; try with_reducible rfl)
            refine wpAny_take (i := 12) (v := ?_) rfl (by kernel_rfl) (by kernel_rfl) (by kernel_rfl) (fun _ _ _ h => h) (Or.inl ⟨by rfl, ?_⟩) ?_
            rotate_left 1
            · (intro w; go_simp; try with_reducible rfl)
            refine wpAny_take (i := 13) (v := ?_) rfl (by kernel_rfl) (by kernel_rfl) (by kernel_rfl) (fun _ _ _ h => h) (Or.inl ⟨by rfl, ?_⟩) ?_
            rotate_left 1
            · (intro w; go_simp; try with_reducible rfl)
            go_simp
            refine wpAny_ready (rs := [9, 14]) (by kernel_rfl) (by simp) ?_
            refine (AllReady.cons rfl (fun K hK => ?_) (AllReady.cons rfl (fun K hK => ?_) AllReady.nil))
            · go_simp
              refine hK _ _ ?_
              clear hK K
              refine wpAny_take (i := 10) (v := ?_) rfl (by kernel_rfl) (by kernel_rfl) (by kernel_rfl) (fun _ _ _ h => h) (Or.inl ⟨by rfl, ?_⟩) ?_
              rotate_left 1
              · (intro w; go_simp; try with_reducible rfl)
              refine wpAny_ready (rs := [14]) (by kernel_rfl) (by simp) ?_
              refine (AllReady.cons rfl (fun K hK => ?_) AllReady.nil)
              go_simp
              refine hK _ _ ?_
              clear hK K
              refine wpAny_take (i := 15) (v := ?_) rfl (by kernel_rfl) (by kernel_rfl) (by kernel_rfl) (fun _ _ _ h => h) (Or.inl ⟨by rfl, ?_⟩) ?_
              rotate_left 1
              · (intro w; go_simp; try with_reducible rfl)
              refine wpAny_take (i := 16) (v := ?_) rfl (by kernel_rfl) (by kernel_rfl) (by kernel_rfl) (fun _ _ _ h => h) (Or.inl ⟨by rfl, ?_⟩) ?_
              rotate_left 1
              · (intro w; go_simp; try with_reducible rfl)
              refine wpAny_done (by kernel_rfl) ?_ _
              go_wp2
              go_roundw
              case rel => exact ⟨k + 1, hk2, by go_num, kk.drew⟩
              case measure => simp [intOf]; omega
            · go_simp
              refine hK _ _ ?_
              clear hK K
              refine wpAny_ready (rs := [9]) (by kernel_rfl) (by simp) ?_
              refine (AllReady.cons rfl (fun K hK => ?_) AllReady.nil)
              go_simp
              refine hK _ _ ?_
              clear hK K
              refine wpAny_take (i := 10) (v := ?_) rfl (by kernel_rfl) (by kernel_rfl) (by kernel_rfl) (fun _ _ _ h => h) (Or.inl ⟨by rfl, ?_⟩) ?_
              rotate_left 1
              · (intro w; go_simp; try with_reducible rfl)
              go_simp
              refine wpAny_take (i := 15) (v := ?_) rfl (by kernel_rfl) (by kernel_rfl) (by kernel_rfl) (fun _ _ _ h => h) (Or.inl ⟨by rfl, ?_⟩) ?_
              rotate_left 1
              · (intro w; go_simp; try with_reducible rfl)
              refine wpAny_take (i := 16) (v := ?_) rfl (by kernel_rfl) (by kernel_rfl) (by kernel_rfl) (fun _ _ _ h => h) (Or.inl ⟨by rfl, ?_⟩) ?_
              rotate_left 1
              · (intro w; go_simp; try with_reducible rfl)
              refine wpAny_done (by kernel_rfl) ?_ _
              go_wp2
              go_roundw
              case rel => exact ⟨k + 1, hk2, by go_num, kk.drew⟩
              case measure => simp [intOf]; omega
          · have hkn : k = n := by omega
            subst hkn
            go_wp2_with fail
            refine (levelsC _).mono ?_
            rintro e w7 ⟨rfl, k7⟩
            go_wp2
            go_ret
            exact ⟨rfl, (HK5.out.trans kk (by simp)).trans k7 (by simp)⟩
end Go.Proofs.YtlolcgklcnechaaGreatDoor
