/- laws.FnRleThere, walked. -/
import Derived.Test.YtlolcgklcnechaaGreatDoorR1
import Derived.Test.YtlolcgklcnechaaGreatDoorT1
set_option linter.unusedVariables false
set_option linter.unusedSimpArgs false
namespace Go.Proofs.YtlolcgklcnechaaGreatDoor
open Go.RowKit

theorem vlq_lt (n : Nat) : ∀ y ∈ vlq n, y < 256 := by
  induction n using Nat.strongRecOn with
  | _ n ih =>
    intro y hy
    by_cases h : n < 128
    · rw [vlq_small h] at hy; simp at hy; omega
    · rw [vlq_big h] at hy
      simp at hy
      rcases hy with rfl | hy
      · omega
      · exact ih (n / 128) (by omega) y hy

theorem encR_lt (W : Nat) (rs : List Rn) : ∀ y ∈ encR W rs, y < 256 := by
  intro y hy
  unfold encR at hy
  rw [List.mem_flatMap] at hy
  obtain ⟨r, _, hy⟩ := hy
  cases r with
  | rep n v =>
    simp only [Rn.enc, List.mem_append] at hy
    rcases hy with hy | hy
    · exact vlq_lt _ y hy
    · exact leBytes_lt _ _ y hy
  | lit l =>
    simp only [Rn.enc, List.mem_append] at hy
    rcases hy with hy | hy
    · exact vlq_lt _ y hy
    · exact leBytes_lt _ _ y hy

set_option maxRecDepth 100000 in
set_option maxHeartbeats 4000000 in
theorem fnRleThereC (v0 v2 : Value) (W : Int) (vs : List Nat) (bs : List Int) (ea : Addr) (w : World) (hR : RowAt w v0 .u64 vs) (hB : IntsAt w v2 bs) (hE : Eof w ea) (hv : ∀ v ∈ vs, v < 18446744073709551616)
    (hb : ∀ x ∈ bs, -9223372036854775808 ≤ x ∧ x ≤ 9223372036854775807) :
    Calls Tryz.prog 3 #[v0, .int .i64 W, v2] w fun e w' => e = .returned (.bool true) ∧ Keep [] w w' := by
  have hR0 := hR
  have hB0 := hB
  obtain ⟨ao, cap, rfl, -⟩ := hR.open
  obtain ⟨bo, bcap, rfl, -⟩ := hB.open
  obtain ⟨n, hn⟩ : ∃ n, n = vs.length := ⟨_, rfl⟩
  obtain ⟨m, hm⟩ : ∃ m, m = bs.length := ⟨_, rfl⟩
  rw [← hn] at hR0 ⊢
  rw [← hm] at hB0 ⊢
  have Hn := Lib.hid hn
  have Hm := Lib.hid hm
  have HR := Lib.hid hR0
  have HB := Lib.hid hB0
  have HE := Lib.hid hE
  have Hv := Lib.hid hv
  have Hb := Lib.hid hb
  clear hn hm hR0 hB0 hE hv hb hR hB
  by_cases h1 : 2147483647 < n
  · have h1i : (2147483647 : Int) < (n : Int) := by omega
    go_enter Tryz.func3, Tryz.ntmps3
    go_wp2
    go_ret
    exact ⟨rfl, Keep.refl _ _⟩
  have h1i : ¬ (2147483647 : Int) < (n : Int) := by omega
  by_cases h2 : 2147483647 < m
  · have h2i : (2147483647 : Int) < (m : Int) := by omega
    go_enter Tryz.func3, Tryz.ntmps3
    go_wp2
    go_ret
    exact ⟨rfl, Keep.refl _ _⟩
  have h2i : ¬ (2147483647 : Int) < (m : Int) := by omega
  by_cases h3 : W < 1
  · go_enter Tryz.func3, Tryz.ntmps3
    go_wp2_with fail
    refine (rlesC _).mono ?_
    rintro e w2 ⟨rfl, k2⟩
    go_wp2
    go_ret
    exact ⟨rfl, k2⟩
  by_cases h4 : 64 < W
  · go_enter Tryz.func3, Tryz.ntmps3
    go_wp2_with fail
    refine (rlesC _).mono ?_
    rintro e w2 ⟨rfl, k2⟩
    go_wp2
    go_ret
    exact ⟨rfl, k2⟩
  obtain ⟨Wn, rfl⟩ : ∃ Wn : Nat, W = (Wn : Int) := ⟨W.toNat, by omega⟩
  have hW0 : 0 < Wn := by omega
  have hW : Wn ≤ 64 := by omega
  go_enter Tryz.func3, Tryz.ntmps3
  go_wp2_with fail
  refine (narrowC _ Wn vs _ HR.out hW0 hW Hv.out (by rw [← Hn.out]; omega)).mono ?_
  rintro e w2 ⟨b, rfl, rfl, hbt⟩
  cases b with
  | false =>
    go_wp2_with fail
    refine (rlesC _).mono ?_
    rintro e w2 ⟨rfl, k2⟩
    go_wp2
    go_ret
    exact ⟨rfl, k2⟩
  | true =>
    obtain ⟨hl3, hsm⟩ := hbt rfl
    have Hl3 := Lib.hid hl3
    have Hsm := Lib.hid hsm
    clear hl3 hsm hbt
    go_wp2_with fail
    refine (batchedC _ _ vs bs _ HR.out HB.out Hb.out Hl3.out (by rw [← Hm.out]; omega)).mono ?_
    rintro e w3 hbp
    obtain ⟨wv, ok, rfl, k3, hok⟩ := hbp
    cases ok with
    | false =>
      go_wp2_with fail
      refine (rlesC _).mono ?_
      rintro e w2 ⟨rfl, k2⟩
      go_wp2
      go_ret
      exact ⟨rfl, k3.trans k2 (by simp)⟩
    | true =>
      obtain ⟨h50, want, at', hbat, hG⟩ := hok rfl
      have hG1 := hG.row
      have Hbat := Lib.hid hbat
      have H50 := Lib.hid h50
      have HG := Lib.hid hG1
      clear hok h50 hbat hG hG1
      go_wp2_with fail
      refine (rleWritten _ Wn vs _ (HR.out.keep k3) hW0 hW Hl3.out Hsm.out).mono ?_
      rintro e w4 ⟨d, cp, data, fin, rfl, k4, hd0, hfin, hd, hdl, hdt, hcp⟩
      obtain ⟨-, rs, z, hrs, hfr, hz, hvr⟩ := (run_inv hW0 vs (by have := Hl3.out; omega) Hsm.out).finish (n := vs.length) (L := maxRle Wn vs.length + minRle Wn) hW0 hW (Nat.le_refl _) (by have := Hl3.out; omega) (room_rle Wn vs.length hW0)
      have hfl : fin ≤ data.length := by
        have := congrArg List.length hdt
        rw [List.length_take, ← hfin] at this
        omega
      have hBA : BytesAt w4 d 0 fin cp (St.finish Wn (St.run Wn vs)) := by
        refine ⟨⟨_, hd, by simp; omega, ?_, one_rowV _ _⟩, by omega, by omega, hfin.symm, ?_⟩
        · rw [List.drop_zero, ← rowV_take, hdt]
        · rw [hfr]; exact encR_lt Wn rs
      have K4 := k3.trans k4 (by simp)
      have hrd := rleReadC d fin cp Wn z at' ea _ vs want rs _ bs w4 hBA (HE.out.keep K4 (by simp)) hfr hrs hvr hW0 hW (HB.out.keep K4) Hbat.out H50.out Hl3.out (by omega)
      have hwant := HG.out.keep k4
      have HW := Lib.hid hwant
      clear hrs hfr hvr hz hd hdl hdt hfl hBA hfin hd0 hcp hwant
      go_wp2_with fail
      refine hrd.mono ?_
      rintro e w5 ⟨v5, rfl, k5, hv5⟩
      have hS := sameNumbersC _ _ want _ hv5 (HW.out.keep k5) (by have := batchOn_le bs.length bs want at' (by rw [List.take_length]; exact Hbat.out); have := Hl3.out; omega)
      obtain ⟨ao5, cp5, rfl, -, -⟩ := hv5.open
      clear hrd hv5
      go_wp2_with fail
      refine hS.mono ?_
      rintro e w6 ⟨rfl, k6⟩
      clear hS
      go_wp2_with fail
      refine (rlesC _).mono ?_
      rintro e w7 ⟨rfl, k7⟩
      go_wp2
      go_ret
      exact ⟨rfl, ((K4.trans k5 (by simp)).trans k6 (by simp)).trans k7 (by simp)⟩
end Go.Proofs.YtlolcgklcnechaaGreatDoor
