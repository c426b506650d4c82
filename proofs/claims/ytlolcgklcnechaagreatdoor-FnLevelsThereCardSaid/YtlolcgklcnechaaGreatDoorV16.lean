/- what the law needs: LevelsWritten, then LevelsRead, in either form. -/
import Derived.Test.YtlolcgklcnechaaGreatDoorV12
import Derived.Test.YtlolcgklcnechaaGreatDoorV14
import Derived.Test.YtlolcgklcnechaaGreatDoorV15
import Derived.Test.YtlolcgklcnechaaGreatDoorV9
set_option linter.unusedVariables false
set_option linter.unusedSimpArgs false
namespace Go.Proofs.YtlolcgklcnechaaGreatDoor
open Go.RowKit

theorem vlq_lt256 (n : Nat) : ∀ y ∈ vlq n, y < 256 := by
  induction n using Nat.strongRecOn with
  | _ n ih =>
    intro y hy
    by_cases h : n < 128
    · rw [vlq_small h] at hy; simp at hy; omega
    · rw [vlq_big h] at hy
      simp at hy
      rcases hy with rfl | hy
      · omega
      · exact ih (n / 128) (by omega) y hy

theorem encR_lt256 (W : Nat) (rs : List Rn) : ∀ y ∈ encR W rs, y < 256 := by
  intro y hy
  unfold encR at hy
  rw [List.mem_flatMap] at hy
  obtain ⟨r, _, hy⟩ := hy
  cases r with
  | rep n v =>
    simp only [Rn.enc, List.mem_append] at hy
    rcases hy with hy | hy
    · exact vlq_lt256 _ y hy
    · exact leBytes_lt _ _ y hy
  | lit l =>
    simp only [Rn.enc, List.mem_append] at hy
    rcases hy with hy | hy
    · exact vlq_lt256 _ y hy
    · exact leBytes_lt _ _ y hy

theorem vlq_nonempty (n : Nat) : 0 < (vlq n).length := by
  by_cases h : n < 128
  · rw [vlq_small h]; simp
  · rw [vlq_big h]; simp

theorem encR_nonempty {W : Nat} {rs : List Rn} (h : valsR rs ≠ []) : 0 < (encR W rs).length := by
  cases rs with
  | nil => exact absurd rfl h
  | cons r rs =>
    cases r with
    | rep n v => have := vlq_nonempty (2 * n); simp [encR, Rn.enc]; omega
    | lit l => have := vlq_nonempty (2 * (l.length / 8) + 1); simp [encR, Rn.enc]; omega

/-- What LevelsRead answers. -/
def ReadPost (want : List Nat) (w : World) (e : Ending) (w' : World) : Prop :=
  ∃ got gi u, e = .returned (.tuple #[got, .int .i64 gi, .int .i64 u, .bool true]) ∧ Keep [] w w' ∧ RowAt w' got .i16 want

theorem ReadPost.of {n : Nat} {want : List Nat} {w w' : World} {e : Ending} (hwl : want.length = n) (h : ∃ gb c cs gi u, e = .returned (.tuple #[.slice (some ⟨gb, 0, none⟩) n c, .int .i64 gi, .int .i64 u, .bool true]) ∧ Keep [] w w' ∧ w.heap.size ≤ gb ∧ Blk w' gb cs ∧ cs.take n = rowV .i16 want ∧ cs.length = c ∧ n ≤ c) :
    ReadPost want w e w' := by
  obtain ⟨gb, c, cs, gi, u, h1, h2, h3, h4, h5, h6, h7⟩ := h
  refine ⟨_, gi, u, h1, h2, .inr ⟨⟨gb, 0, none⟩, c, by rw [hwl], by rw [hwl]; exact h7, fun i x hi => ?_⟩⟩
  have hil : i < n := by rw [← hwl]; exact (List.getElem?_eq_some_iff.1 hi).1
  have := rowV_get (k := .i16) hi
  rw [← h5, List.getElem?_take, if_pos hil] at this
  rw [add_at, Nat.zero_add]
  exact h4.cell this

theorem levelsReadRle (gn n fin b c : Nat) (ea : Addr) (want : List Nat) (cs : List Value) (w4 : World) (hg1 : 0 < gn) (hg2 : gn ≤ 16384) (hn0 : 0 < n) (hn : n ≤ 2000) (hwl : want.length = n) (hwg : ∀ x ∈ want, x < 2 ^ bitLen gn)
    (hfin : fin = (St.finish (bitLen gn) (St.run (bitLen gn) want)).length) (hfin0 : 0 < fin) (hfin9 : fin ≤ 600000000) (hb : Blk w4 b cs) (hcl : cs.length = c) (hc4 : 4 + fin ≤ c)
    (hcs : cs.take (4 + fin) = rowV .u8 ([fin % 256, fin / 256 % 256, fin / 65536 % 256, fin / 16777216 % 256] ++ St.finish (bitLen gn) (St.run (bitLen gn) want))) (hone : ∀ v ∈ cs, v.oneCell' = true) (hE : Eof w4 ea) :
    Calls Tryz.prog 31 #[.bool true, .int .i64 (gn : Int), .int .i64 (n : Int), .slice (some ⟨b, 0, none⟩) (4 + fin) c, .slice (some ⟨w4.heap.size, 0, none⟩) 1 1] (w4.alloc (.cells #[.int .i64 (n : Int)] 3)) (fun e w' => ReadPost want (w4.alloc (.cells #[.int .i64 (n : Int)] 3)) e w') := by
  obtain ⟨hW0, hW15, hsm⟩ := width_spec gn hg1 hg2
  have hw15 : ∀ x ∈ want, x < 32768 := fun x hx => by
    have h1 := hwg x hx
    have h2 : 2 ^ bitLen gn ≤ 2 ^ 15 := Nat.pow_le_pow_right (by omega) hW15
    omega
  obtain ⟨-, rs, z, hrs, hfr, hz, hvr⟩ := (run_inv hW0 want (by omega) hwg).finish (n := n) (L := maxRle (bitLen gn) n + minRle (bitLen gn)) hW0 (by omega) (by omega) (by omega) (room_rle (bitLen gn) n hW0)
  have hby : ∀ y ∈ St.finish (bitLen gn) (St.run (bitLen gn) want), y < 256 := by rw [hfr]; exact encR_lt256 _ rs
  have hbn := hb.alloc (.cells #[.int .i64 (n : Int)] 3)
  have hEn := hE.keep (S := []) ((Keep.refl [] w4).alloc (.cells #[.int .i64 (n : Int)] 3)) (by simp)
  have hS := setPostRle gn n b fin c z ea (St.finish (bitLen gn) (St.run (bitLen gn) want)) want rs cs _ hg1 hg2 (by omega) hbn hcl hcs hc4 hfin.symm hfin0 hfin9 hone hEn hrs hfr hby hvr hwl hw15
  exact (levelsReadOf true gn n w4.heap.size 1 want _ _ hn0 (by omega) hg2 hwl (Blk.cell (Blk.of_new (cs := [.int .i64 (n : Int)]) rfl) rfl) (by simpa using hS)).mono fun e w' h => ReadPost.of hwl h

theorem levelsReadPacked (gn n d L : Nat) (ea : Addr) (want data : List Nat) (w4 : World) (hg1 : 0 < gn) (hg2 : gn ≤ 16384) (hn0 : 0 < n) (hn : n ≤ 2000) (hwl : want.length = n) (hwg : ∀ x ∈ want, x < 2 ^ bitLen gn)
    (hL : L = (bitLen gn * n + 7) / 8) (hd : Blk w4 d (rowV .u8 data)) (hdl : data.length = L) (hdt : data = leBytes L (packN (bitLen gn) want)) (hL6 : L ≤ 600000) (hE : Eof w4 ea) :
    Calls Tryz.prog 31 #[.bool false, .int .i64 (gn : Int), .int .i64 (n : Int), .slice (some ⟨d, 0, none⟩) L L, .slice (some ⟨w4.heap.size, 0, none⟩) 1 1] (w4.alloc (.cells #[.int .i64 (n : Int)] 3)) (fun e w' => ReadPost want (w4.alloc (.cells #[.int .i64 (n : Int)] 3)) e w') := by
  have hBA : BytesAt (w4.alloc (.cells #[.int .i64 (n : Int)] 3)) d 0 L L data :=
    ⟨⟨_, hd.alloc _, by simp; omega, by rw [List.drop_zero, List.take_of_length_le (by simp; omega)], one_rowV _ _⟩, Nat.le_refl _, by omega, hdl, by rw [hdt]; exact leBytes_lt _ _⟩
  have hEn := hE.keep (S := []) ((Keep.refl [] w4).alloc (.cells #[.int .i64 (n : Int)] 3)) (by simp)
  have hS := setPostPacked gn n d L ea data want _ hg1 hg2 hn0 hn hBA hEn hL hdt hwl hwg
  exact (levelsReadOf false gn n w4.heap.size 1 want _ _ hn0 (by omega) hg2 hwl (Blk.cell (Blk.of_new (cs := [.int .i64 (n : Int)]) rfl) rfl) (by simpa using hS)).mono fun e w' h => ReadPost.of hwl h

/-- What LevelsWritten leaves, in either form. -/
def WrittenPost (r : Bool) (gn n : Nat) (want : List Nat) (w2 : World) (d len cp : Nat) (w3 : World) : Prop :=
  Keep [] w2 w3 ∧ (r = true → len = (St.finish (bitLen gn) (St.run (bitLen gn) want)).length ∧ 0 < len ∧ len ≤ 600000000 ∧ BytesAt w3 d 0 len cp (St.finish (bitLen gn) (St.run (bitLen gn) want))) ∧
    (r = false → len = cp ∧ len = (bitLen gn * n + 7) / 8 ∧ len ≤ 600000 ∧ ∃ data, Blk w3 d (rowV .u8 data) ∧ data.length = len ∧ data = leBytes len (packN (bitLen gn) want))

theorem writtenPost (r : Bool) (gn n : Nat) (pv : Value) (ps : List (List Int)) (want : List Nat) (w2 : World) (hwant : want = ps.flatten.map Int.toNat) (hnn : n = ps.flatten.length) (hP : PartsAt w2 pv .i16 ps) (hg1 : 0 < gn) (hg2 : gn ≤ 16384)
    (hin : ∀ x ∈ ps.flatten, 0 ≤ x ∧ x ≤ (gn : Int)) (hN0 : 0 < n) (hN : n ≤ 2000) (h20 : ps.length ≤ 20) (hwg : ∀ x ∈ want, x < 2 ^ bitLen gn) :
    Calls Tryz.prog 29 #[.bool r, .int .i64 (gn : Int), pv] w2 fun e w3 => ∃ d len cp, e = .returned (.tuple #[.slice (some ⟨d, 0, none⟩) len cp, .bool true]) ∧ WrittenPost r gn n want w2 d len cp w3 := by
  obtain ⟨hW0, hW15, -⟩ := width_spec gn hg1 hg2
  have hwl : want.length = n := by rw [hwant, hnn, List.length_map]
  cases r with
  | true =>
    refine (levelsWrittenRle gn _ ps w2 hP hg1 hg2 hin (by omega) h20).mono ?_
    rintro e w3 ⟨d, L, data, fin, rfl, k3, hd0, hfin, hd, hdl, hdt, hL⟩
    rw [← hwant] at hfin hdt
    obtain ⟨-, rs, z, hrs, hfr, hz, hvr⟩ := (run_inv hW0 want (by omega) hwg).finish (n := n) (L := maxRle (bitLen gn) n + minRle (bitLen gn)) hW0 (by omega) (by omega) (by omega) (room_rle (bitLen gn) n hW0)
    have hfl : fin ≤ data.length := by
      have := congrArg List.length hdt
      rw [List.length_take, ← hfin] at this
      omega
    have hby : ∀ y ∈ St.finish (bitLen gn) (St.run (bitLen gn) want), y < 256 := by rw [hfr]; exact encR_lt256 _ rs
    have hfin0 : 0 < fin := by
      rw [hfin, hfr]
      refine encR_nonempty ?_
      rw [hvr]
      intro h0
      have := congrArg List.length h0
      simp [hwl] at this
      omega
    refine ⟨d, fin, L, rfl, k3, fun _ => ⟨hfin, hfin0, by omega, ⟨_, hd, by simp; omega, by rw [List.drop_zero, ← rowV_take, hdt], one_rowV _ _⟩, by omega, by omega, hfin.symm, hby⟩, fun h => by cases h⟩
  | false =>
    refine (levelsWrittenPacked gn _ ps w2 hP hg1 hg2 hin (by omega) h20).mono ?_
    rintro e w3 ⟨d, L, data, rfl, k3, hd0, hL, hd, hdl, hdt, hL6⟩
    rw [← hwant] at hdt
    rw [← hnn] at hL
    exact ⟨d, L, L, rfl, k3, (fun h => by cases h), fun _ => ⟨rfl, hL, hL6, data, hd, hdl, hdt⟩⟩

/-- Behind 'data = behind(data)': LevelsRead will answer the levels. -/
def ReadyPost (r : Bool) (gn n : Nat) (want : List Nat) (w2 : World) (dv : Value) (wx : World) : Prop :=
  ∃ b len c, dv = .slice (some ⟨b, 0, none⟩) len c ∧ Keep [] w2 wx ∧
    Calls Tryz.prog 31 #[.bool r, .int .i64 (gn : Int), .int .i64 (n : Int), .slice (some ⟨b, 0, none⟩) len c, .slice (some ⟨wx.heap.size, 0, none⟩) 1 1] (wx.alloc (.cells #[.int .i64 (n : Int)] 3)) (fun e w' => ReadPost want (wx.alloc (.cells #[.int .i64 (n : Int)] 3)) e w')

end Go.Proofs.YtlolcgklcnechaaGreatDoor
