/- What SetData and Decode give impl.LevelsRead, in either form. -/
import Derived.Test.YtlolcgklcnechaaGreatDoorV7
import Derived.Test.YtlolcgklcnechaaGreatDoorV13
set_option linter.unusedVariables false
set_option linter.unusedSimpArgs false
namespace Go.Proofs.YtlolcgklcnechaaGreatDoor
open Go.RowKit

theorem packed_vals {W : Nat} {l : List Nat} (L : Nat) (hL : L = (W * l.length + 7) / 8) (hs : ∀ v ∈ l, v < 2 ^ W) : bitVals (leBytes L (packN W l)) 0 W l.length = l := by
  have hb : packN W l < 256 ^ L := by
    have h1 := packN_lt hs
    have h2 : 2 ^ (W * l.length) ≤ 2 ^ (8 * L) := Nat.pow_le_pow_right (by omega) (by omega)
    rw [show (256 : Nat) = 2 ^ 8 from rfl, ← Nat.pow_mul]
    omega
  apply List.ext_getElem?
  intro i
  by_cases hi : i < l.length
  · have hg := packN_get hs (List.getElem?_eq_getElem hi)
    simp [bitVals, hi, leVal_leBytes _ _ hb, hg]
  · rw [List.getElem?_eq_none (by simp; omega), List.getElem?_eq_none (by omega)]

theorem BR.lts {w : World} {q x d o n cap : Nat} {ea : Addr} {D : List Nat} {buf bo bi vb : Nat} (h : BR w q x d o n cap ea D buf bo bi vb) : q < w.heap.size ∧ x < w.heap.size := by
  obtain ⟨raw, unp, _, _, hq⟩ := h.hq
  obtain ⟨pos, pr, hx⟩ := h.hx
  exact ⟨hq.lt, hx.lt⟩

theorem DecAt.lts {B : DecB} {w : World} {L : List Nat} (h : DecAt B w L) : B.t < w.heap.size ∧ B.q < w.heap.size ∧ B.x < w.heap.size := by
  obtain ⟨cur, rep, lit, P, rs, rest, h⟩ := h
  refine ⟨h.cells.lt, ?_⟩
  rcases h.st with ⟨_, ⟨buf, bo, bi, vb, hb, _⟩, _⟩ | ⟨_, _, bo, bi, hb, _⟩
  · exact hb.lts
  · exact BR.lts hb

theorem splice_whole {cs X : List Value} (h : X.length = cs.length) : splice cs 0 X = X := by
  unfold splice
  simp [h]

/-- By runs. -/
theorem setPostRle (g n b nb cap z : Nat) (ea : Addr) (D want : List Nat) (rs : List Rn) (cs : List Value) (w : World) (h0 : 0 < g) (h1 : g ≤ 16384) (hn : n ≤ 1000000) (hb : Blk w b cs) (hcl : cs.length = cap)
    (hcs : cs.take (4 + nb) = rowV .u8 ([nb % 256, nb / 256 % 256, nb / 65536 % 256, nb / 16777216 % 256] ++ D)) (hcap : 4 + nb ≤ cap) (hD : D.length = nb) (hnb0 : 0 < nb) (hnb9 : nb ≤ 600000000) (hone : ∀ v ∈ cs, v.oneCell' = true) (hE : Eof w ea)
    (hrs : ∀ r ∈ rs, Rn.Ok (bitLen g) r) (hDr : D = encR (bitLen g) rs) (hby : ∀ y ∈ D, y < 256) (hv : valsR rs = want ++ List.replicate z 0) (hwl : want.length = n) (hsm : ∀ x ∈ want, x < 32768) :
    ∀ w1 y, Keep [] w w1 → w.heap.size ≤ y → y + 1 = w1.heap.size → Blk w1 y leDecCells0 →
      Calls Tryz.prog 79 #[.pointer (some ⟨y, 0, none⟩), .int .i64 3, .int .i16 (g : Int), .int .i64 (n : Int), .slice (some ⟨b, 0, none⟩) (4 + nb) cap] w1 fun e w' => SetPost w.heap.size y n want w1 e w' := by
  intro w1 y k1 hy hy1 hY
  obtain ⟨hW0, hW15, -⟩ := width_spec g h0 h1
  have hEl := hE.lt
  have hbl := hb.lt
  have hb1 := hb.keep k1 (by simp)
  have hE1 := hE.keep k1 (by simp)
  have hget : ∀ (i x : Nat), i < 4 → ([nb % 256, nb / 256 % 256, nb / 65536 % 256, nb / 16777216 % 256] ++ D)[i]? = some x → cs[i]? = some (.int .u8 (x : Int)) := fun i x hi hx => by
    have h2 := rowV_get (k := .u8) hx
    rw [← hcs, List.getElem?_take, if_pos (by omega)] at h2
    exact h2
  have hdrop : (cs.drop 4).take nb = rowV .u8 D := by
    have h2 := congrArg (List.drop 4) hcs
    rw [List.drop_take, show 4 + nb - 4 = nb by omega] at h2
    rw [h2, rowV_append]
    rfl
  have hBA : BytesAt w1 b 4 nb (cap - 4) D := ⟨⟨cs, hb1, by omega, hdrop, hone⟩, by omega, by omega, hD, hby⟩
  have hle : leVal [nb % 256, nb / 256 % 256, nb / 65536 % 256, nb / 16777216 % 256] = nb := by
    simp only [leVal]; omega
  refine (setRle y g n b nb cap _ _ _ _ ea D cs w1 hY h0 h1 hn hb1 (Nat.mod_lt _ (by omega)) (Nat.mod_lt _ (by omega)) (Nat.mod_lt _ (by omega)) (Nat.mod_lt _ (by omega)) (hget 0 _ (by omega) rfl) (hget 1 _ (by omega) rfl) (hget 2 _ (by omega) rfl) (hget 3 _ (by omega) rfl) hle hnb0 hnb9 hBA hE1 (by omega) (by omega) (by omega) rs hrs hDr).mono ?_
  rintro e w' ⟨u, rfl, k, B, hBd, hBW, ht, hq, hx, hyc, hdec⟩
  refine ⟨u, rfl, k, fun S w2 v kk hS hv2 hvb => ?_⟩
  obtain ⟨l1, l2, l3⟩ := hdec.lts
  have hyl := hyc.lt
  have hnot : ∀ s, (s < w.heap.size ∨ y ≤ s) → s ∉ S := fun s hs hm => by have := hS s hm; omega
  have hdec2 : DecAt B w2 (valsR rs) := hdec.keep kk (hnot _ (by omega)) (hnot _ (by omega)) (hnot _ (by omega)) (hnot _ (by omega)) (hnot _ (by omega))
  refine (decodeRle B (valsR rs) y g (bitLen g) n n v (rowV .i16 (List.replicate n 0)) w2 (hyc.keep kk (hnot _ (by omega))) (by rw [hBW]; exact hW15) hdec2 (by rw [hv]; simp; omega) (fun q hq => ?_) hvb (by simp) (Nat.le_refl _)
    (by omega) (by omega) (by omega) (by omega) (by omega) (by omega) (by omega) (by omega) (by omega) (by omega) (by omega) hn).mono ?_
  · rw [hv, List.mem_append] at hq
    rcases hq with hq | hq
    · exact hsm q hq
    · rw [List.mem_replicate] at hq; omega
  · rintro e w3 ⟨mx, rfl, k3, hb3⟩
    refine ⟨mx, rfl, ⟨_, k3, ?_⟩, ?_⟩
    · intro s hs
      simp only [List.mem_cons, List.not_mem_nil, or_false] at hs
      omega
    · rw [hv, ← hwl, List.take_left' rfl, splice_whole (by simp)] at hb3
      exact hb3

/-- Bit-packed. -/
theorem setPostPacked (g n b L : Nat) (ea : Addr) (D want : List Nat) (w : World) (h0 : 0 < g) (h1 : g ≤ 16384) (hn0 : 0 < n) (hn : n ≤ 2000) (hD : BytesAt w b 0 L L D) (hE : Eof w ea) (hL : L = (bitLen g * n + 7) / 8) (hDl : D = leBytes L (packN (bitLen g) want))
    (hwl : want.length = n) (hsm : ∀ x ∈ want, x < 2 ^ bitLen g) :
    ∀ w1 y, Keep [] w w1 → w.heap.size ≤ y → y + 1 = w1.heap.size → Blk w1 y leDecCells0 →
      Calls Tryz.prog 79 #[.pointer (some ⟨y, 0, none⟩), .int .i64 4, .int .i16 (g : Int), .int .i64 (n : Int), .slice (some ⟨b, 0, none⟩) L L] w1 fun e w' => SetPost w.heap.size y n want w1 e w' := by
  intro w1 y k1 hy hy1 hY
  obtain ⟨hW0, hW15, -⟩ := width_spec g h0 h1
  have hEl := hE.lt
  have hbl : b < w.heap.size := by obtain ⟨⟨cs, h, _⟩, _⟩ := hD; exact h.lt
  have hWn : bitLen g * n ≤ 15 * 2000 := Nat.mul_le_mul hW15 hn
  have hbv := packed_vals L (by rw [hwl]; exact hL) hsm
  rw [← hDl, hwl] at hbv
  refine (setPacked y g n b L L ea D w1 hY h0 h1 hn0 (by omega) (hD.keep k1 (by simp)) (hE.keep k1 (by simp)) (by rw [Nat.mul_comm]; omega) (by omega) (by omega) (by omega)).mono ?_
  rintro e w' ⟨u, rfl, k, q, x, hq, hx, hyc, buf, vb, hBR⟩
  refine ⟨u, rfl, k, fun S w2 v kk hS hv2 hvb => ?_⟩
  obtain ⟨l1, l2⟩ := hBR.lts
  have hyl := hyc.lt
  have hnot : ∀ s, (s < w.heap.size ∨ y ≤ s) → s ∉ S := fun s hs hm => by have := hS s hm; omega
  have hP : PackAt w' q x b 0 L L ea D 0 := ⟨0, 0, rfl, by omega, .inr ⟨rfl, buf, vb, hBR⟩⟩
  refine (decodePacked y q x g (bitLen g) n b L L n ea D v (rowV .i16 (List.replicate n 0)) w2 (hyc.keep kk (hnot _ (by omega))) hW0 hW15 (hP.keep kk (hnot _ (by omega)) (hnot _ (by omega)) (hnot _ (by omega)) (hnot _ (by omega))) hvb (by simp) (Nat.le_refl _)
    (by omega) (by omega) (by omega) (by omega) (by omega) (by omega) (by omega) (by omega) (by omega) (by omega) (by omega) (by omega)).mono ?_
  rintro e w3 ⟨mx, rfl, k3, hb3⟩
  refine ⟨mx, rfl, ⟨_, k3, ?_⟩, ?_⟩
  · intro s hs
    simp only [List.mem_cons, List.not_mem_nil, or_false] at hs
    omega
  · rw [hbv, splice_whole (by simp [hwl])] at hb3
    exact hb3
end Go.Proofs.YtlolcgklcnechaaGreatDoor
