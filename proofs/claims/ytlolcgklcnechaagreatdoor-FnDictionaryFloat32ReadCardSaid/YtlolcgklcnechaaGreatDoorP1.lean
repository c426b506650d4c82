/- Plain law: what the encoder's states hold. No walk here. -/
import Derived.Test.YtlolcgklcnechaaGreatDoorE4
set_option linter.unusedVariables false
namespace Go.Proofs.YtlolcgklcnechaaGreatDoor
open Go.RowKit

/-- Runs of a width: a value repeated, or values in groups of eight. -/
inductive Rn where
  | rep (n v : Nat)
  | lit (l : List Nat)

def Rn.vals : Rn → List Nat
  | .rep n v => List.replicate n v
  | .lit l => l

def Rn.enc (W : Nat) : Rn → List Nat
  | .rep n v => vlq (2 * n) ++ leBytes ((W + 7) / 8) v
  | .lit l => vlq (2 * (l.length / 8) + 1) ++ leBytes (W * l.length / 8) (packN W l)

def Rn.Ok (W : Nat) : Rn → Prop
  | .rep n v => 0 < n ∧ n < 1000000 ∧ v < 2 ^ W
  | .lit l => l.length % 8 = 0 ∧ 0 < l.length ∧ l.length < 1000000 ∧ ∀ v ∈ l, v < 2 ^ W

def valsR (rs : List Rn) : List Nat := rs.flatMap Rn.vals
def encR (W : Nat) (rs : List Rn) : List Nat := rs.flatMap (Rn.enc W)

theorem valsR_snoc (rs : List Rn) (r : Rn) : valsR (rs ++ [r]) = valsR rs ++ r.vals := by simp [valsR]
theorem encR_snoc (W : Nat) (rs : List Rn) (r : Rn) : encR W (rs ++ [r]) = encR W rs ++ r.enc W := by simp [encR]

/-- What stands in done: whole runs, short enough. -/
def Done (W : Nat) (done c : List Nat) : Prop := ∃ rs, (∀ r ∈ rs, Rn.Ok W r) ∧ done = encR W rs ∧ valsR rs = c ∧ 8 * done.length ≤ c.length * (1 + W)

theorem Done.lit {W : Nat} {done c l : List Nat} (h : Done W done c) (h8 : l.length % 8 = 0) (h0 : 0 < l.length) (h5 : l.length ≤ 504) (hs : ∀ v ∈ l, v < 2 ^ W) :
    Done W (done ++ (2 * (l.length / 8) + 1) :: leBytes (W * l.length / 8) (packN W l)) (c ++ l) := by
  obtain ⟨rs, h1, h2, h3, h4⟩ := h
  refine ⟨rs ++ [.lit l], ?_, ?_, by rw [valsR_snoc, h3]; rfl, ?_⟩
  · intro r hr
    rw [List.mem_append, List.mem_singleton] at hr
    rcases hr with hr | rfl
    · exact h1 r hr
    · exact ⟨h8, h0, by omega, hs⟩
  · rw [encR_snoc, h2, Rn.enc, vlq_small (by omega)]; rfl
  · have : W * l.length % 8 = 0 := by rw [Nat.mul_mod, h8]; simp
    simp only [List.length_append, List.length_cons, length_leBytes]
    rw [Nat.add_mul c.length]
    have e : l.length * (1 + W) = l.length + W * l.length := by rw [Nat.mul_add, Nat.mul_one, Nat.mul_comm]
    rw [e]
    omega

theorem Done.rep {W n v : Nat} {done c : List Nat} (h : Done W done c) (h8 : 8 ≤ n) (hn : n < 100000) (hv : v < 2 ^ W) (hW : 0 < W) :
    Done W (done ++ vlq (2 * n) ++ leBytes ((W + 7) / 8) v) (c ++ List.replicate n v) := by
  obtain ⟨rs, h1, h2, h3, h4⟩ := h
  refine ⟨rs ++ [.rep n v], ?_, ?_, by rw [valsR_snoc, h3]; rfl, ?_⟩
  · intro r hr
    rw [List.mem_append, List.mem_singleton] at hr
    rcases hr with hr | rfl
    · exact h1 r hr
    · exact ⟨by omega, by omega, hv⟩
  · rw [encR_snoc, h2, Rn.enc, List.append_assoc]
  · simp only [List.length_append, length_leBytes, List.length_replicate]
    rw [Nat.add_mul c.length]
    have e : n * (1 + W) = n + n * W := by rw [Nat.mul_add, Nat.mul_one]
    have e8 : 8 * W ≤ n * W := Nat.mul_le_mul_right _ h8
    rw [e]
    by_cases h64 : n < 64
    · have := vlq_length 0 (2 * n) (by simp; omega)
      omega
    · have := vlq_length 2 (2 * n) (by simp; omega)
      have e64 : 64 * W ≤ n * W := Nat.mul_le_mul_right _ (by omega)
      omega

structure Inv (W : Nat) (s : St) (l : List Nat) : Prop where
  rs : ∃ c, Done W s.done c ∧ l = c ++ (s.o.getD [] ++ (if 8 ≤ s.rep then List.replicate s.rep s.cur else s.buf))
  cur : s.cur < 2 ^ W
  small : ∀ v ∈ s.o.getD [] ++ s.buf, v < 2 ^ W
  lit : s.lit = (s.o.getD []).length
  lit8 : s.lit % 8 = 0
  litb : s.lit ≤ 496
  o : s.lit = 0 → s.o = none
  buf8 : s.buf.length < 8
  rep8 : 8 ≤ s.rep → s.o = none ∧ s.buf = []
  rep7 : s.rep < 8 → ∃ b0, s.buf = b0 ++ List.replicate s.rep s.cur
  pos : s.rep < 8 → s.buf ≠ [] → 0 < s.rep

theorem Inv.fresh (W : Nat) : Inv W ⟨0, 0, 0, [], [], none⟩ [] :=
  ⟨⟨[], ⟨[], by simp, rfl, rfl, by simp⟩, by simp⟩, Nat.two_pow_pos W, by simp, rfl, rfl, by simp, fun _ => rfl, by simp, fun _ => ⟨rfl, rfl⟩, fun _ => ⟨[], rfl⟩, fun _ h => absurd rfl h⟩

theorem push_inv {W v rep lit : Nat} {buf done l c : List Nat} {o : Option (List Nat)} (hD : Done W done c) (hl : l = c ++ (o.getD [] ++ buf))
    (hv : v < 2 ^ W) (hs : ∀ x ∈ o.getD [] ++ buf, x < 2 ^ W) (hlit : lit = (o.getD []).length) (h8 : lit % 8 = 0) (hlb : lit ≤ 496) (ho : lit = 0 → o = none) (hb8 : buf.length < 8)
    (hr0 : 0 < rep) (hrep : ∃ b0, buf ++ [v] = b0 ++ List.replicate rep v) : Inv W (St.push W ⟨v, rep, lit, buf, done, o⟩ v) (l ++ [v]) := by
  obtain ⟨b0, hb0⟩ := hrep
  have hlen : buf.length + 1 = b0.length + rep := by have := congrArg List.length hb0; simpa using this
  have hs' : ∀ x ∈ o.getD [] ++ (buf ++ [v]), x < 2 ^ W := by
    intro x hx
    rw [← List.append_assoc, List.mem_append, List.mem_singleton] at hx
    rcases hx with hx | rfl
    · exact hs x hx
    · exact hv
  unfold St.push
  by_cases h7 : buf.length = 7
  · simp only [h7, if_true]
    unfold St.flushBuf
    simp only
    by_cases hr : 8 ≤ rep
    · rw [if_pos hr]
      have hb : b0 = [] := List.length_eq_zero_iff.1 (by omega)
      have hr8 : rep = 8 := by omega
      subst hb
      rw [List.nil_append] at hb0
      refine ⟨⟨c ++ o.getD [], ?_, ?_⟩, hv, by simp, rfl, rfl, by simp, fun _ => rfl, by simp, fun _ => ⟨rfl, rfl⟩, fun h => absurd h (by simp; omega), fun _ h => absurd rfl h⟩
      · simp only
        by_cases hz : lit = 0
        · rw [if_pos hz, ho hz]; simpa using hD
        · rw [if_neg hz, hlit]
          exact hD.lit (by omega) (by omega) (by omega) (fun x hx => hs x (by simp [hx]))
      · simp only [if_pos hr]
        rw [hl, ← hb0]; simp
    · rw [if_neg hr]
      by_cases h4 : lit = 496
      · rw [if_pos h4]
        have hll : (o.getD [] ++ (buf ++ [v])).length = 504 := by simp; omega
        refine ⟨⟨c ++ (o.getD [] ++ (buf ++ [v])), ?_, ?_⟩, hv, by simp, rfl, rfl, by simp, fun _ => rfl, by simp, fun _ => ⟨rfl, rfl⟩, fun h => ⟨[], rfl⟩, fun _ h => absurd rfl h⟩
        · have := hD.lit (l := o.getD [] ++ (buf ++ [v])) (by omega) (by omega) (by omega) hs'
          rw [hll] at this
          exact this
        · simp only
          rw [hl]; simp
      · rw [if_neg h4]
        refine ⟨⟨c, hD, ?_⟩, hv, ?_, ?_, ?_, ?_, ?_, by simp, fun h => absurd h (by simp), fun h => ⟨[], rfl⟩, fun _ h => absurd rfl h⟩
        · simp only
          rw [hl]; simp
        · simpa using hs'
        · simp; omega
        · simp; omega
        · simp; omega
        · intro h; simp at h
  · simp only [if_neg h7]
    refine ⟨⟨c, hD, ?_⟩, hv, hs', hlit, h8, hlb, ho, by simp; omega, fun h => absurd h (by simp; omega), fun h => ⟨b0, hb0⟩, fun _ _ => hr0⟩
    simp only
    rw [if_neg (by omega), hl]; simp

theorem Inv.put {W v : Nat} {s : St} {l : List Nat} (h : Inv W s l) (hv : v < 2 ^ W) (hW : 0 < W) (hl : l.length < 99999) : Inv W (s.put W v) (l ++ [v]) := by
  obtain ⟨⟨c, hD, hlc⟩, hcur, hs, hlit, h8, hlb, ho, hb8, hr8, hr7, hpos⟩ := h
  obtain ⟨cur, rep, lit, buf, done, o⟩ := s
  simp only at *
  unfold St.put
  simp only
  by_cases h1 : cur = v
  · rw [if_pos h1]
    by_cases h2 : 8 ≤ rep
    · rw [if_pos h2]
      obtain ⟨rfl, rfl⟩ := hr8 h2
      refine ⟨⟨c, hD, ?_⟩, hcur, hs, hlit, h8, hlb, ho, hb8, fun _ => ⟨rfl, rfl⟩, fun h => absurd h (by simp; omega), fun _ h => absurd rfl h⟩
      simp only
      rw [if_pos h2] at hlc
      rw [if_pos (by omega), hlc, ← h1, List.replicate_succ']; simp
    · rw [if_neg h2]
      rw [if_neg h2] at hlc
      obtain ⟨b0, hb0⟩ := hr7 (by omega)
      subst h1
      exact push_inv hD hlc hv hs hlit h8 hlb ho hb8 (by omega) ⟨b0, by rw [hb0, List.replicate_succ', List.append_assoc]⟩
  · rw [if_neg h1]
    by_cases h2 : 8 ≤ rep
    · rw [if_pos h2]
      rw [if_pos h2] at hlc
      obtain ⟨rfl, rfl⟩ := hr8 h2
      have hn : rep ≤ l.length := by rw [hlc]; simp
      refine push_inv (hD.rep h2 (by omega) hcur hW) ?_ hv (by simp) hlit h8 hlb ho (by simp) (by omega) ⟨[], rfl⟩
      rw [hlc]; simp
    · rw [if_neg h2]
      rw [if_neg h2] at hlc
      exact push_inv hD hlc hv hs hlit h8 hlb ho hb8 (by omega) ⟨buf, rfl⟩

/-- The encoder's state after so many values. -/
def St.run (W : Nat) (l : List Nat) : St := l.foldl (St.put W) ⟨0, 0, 0, [], [], none⟩

theorem run_snoc (W : Nat) (l : List Nat) (v : Nat) : St.run W (l ++ [v]) = (St.run W l).put W v := by simp [St.run]

theorem run_inv {W : Nat} (hW : 0 < W) (l : List Nat) (hl : l.length ≤ 99999) (hs : ∀ v ∈ l, v < 2 ^ W) : Inv W (St.run W l) l := by
  have key : ∀ n, n ≤ l.length → Inv W (St.run W (l.take n)) (l.take n) := by
    intro n
    induction n with
    | zero => intro _; exact Inv.fresh W
    | succ n ih =>
      intro hn
      rw [List.take_succ_eq_append_getElem (by omega), run_snoc]
      exact (ih (by omega)).put (hs _ (List.getElem_mem _)) hW (by simp; omega)
  have := key l.length (Nat.le_refl _)
  rwa [List.take_length] at this

theorem Done.len {W n : Nat} {done c : List Nat} (h : Done W done c) (hc : c.length ≤ n) : done.length ≤ (n + 7) / 8 * (1 + W) := by
  obtain ⟨rs, h1, h2, h3, h4⟩ := h
  have e : c.length * (1 + W) ≤ (8 * ((n + 7) / 8)) * (1 + W) := Nat.mul_le_mul_right _ (by omega)
  rw [Nat.mul_assoc] at e
  omega

/-- Room: what MaxRLEBufferSize and MinRLEBufferSize leave. -/
def Room (W n L : Nat) : Prop := (n + 7) / 8 * (1 + W) + 1 + 64 * W ≤ L

theorem Inv.ok {W n L : Nat} {s : St} {l : List Nat} (h : Inv W s l) (hW : 0 < W) (hW2 : W ≤ 64) (hl : l.length ≤ n) (hn : n ≤ 99999) (hL : Room W n L) :
    s.Ok W L ∧ (8 ≤ s.rep → s.done.length + (vlq (2 * s.rep)).length + (W + 7) / 8 + 1 + W ≤ L) ∧ (s.rep < 8 → s.rep ≤ s.buf.length ∧ (s.buf ≠ [] → 0 < s.rep)) ∧
      s.done.length + 1 + W * ((s.o.getD []).length + (s.buf.length + 7) / 8 * 8) / 8 ≤ L := by
  obtain ⟨⟨c, hD, hlc⟩, hcur, hs, hlit, h8, hlb, ho, hb8, hr8, hr7, hpos⟩ := h
  have hcl : c.length ≤ n := by rw [hlc] at hl; simp at hl; omega
  have hdl := hD.len hcl
  unfold Room at hL
  have hrep : s.rep < 100000 := by
    by_cases h2 : 8 ≤ s.rep
    · rw [if_pos h2] at hlc
      rw [hlc] at hl; simp at hl; omega
    · omega
  have hv := vlq_length 2 (2 * s.rep) (by simp; omega)
  have hm : ∀ k, k ≤ 504 → W * k / 8 ≤ W * 63 := by
    intro k hk
    have : W * k ≤ W * 504 := Nat.mul_le_mul_left _ hk
    omega
  refine ⟨⟨hrep, hlb, hlit, ho, hb8, fun v hv => hs v (by simp [hv]), hr8, ?_, ?_⟩, ?_, ?_, ?_⟩
  · have := hm ((s.o.getD []).length + 8) (by omega)
    omega
  · intro _; omega
  · intro _; omega
  · intro h7
    obtain ⟨b0, hb0⟩ := hr7 h7
    refine ⟨by rw [hb0]; simp, hpos h7⟩
  · have := hm ((s.o.getD []).length + (s.buf.length + 7) / 8 * 8) (by omega)
    omega

theorem Inv.finish {W n L : Nat} {s : St} {l : List Nat} (h : Inv W s l) (hW : 0 < W) (hW2 : W ≤ 64) (hl : l.length ≤ n) (hn : n ≤ 99999) (hL : Room W n L) :
    (s.finish W).length ≤ L ∧ ∃ rs z, (∀ r ∈ rs, Rn.Ok W r) ∧ s.finish W = encR W rs ∧ z < 8 ∧ valsR rs = l ++ List.replicate z 0 := by
  obtain ⟨hok, hr2, hrb, hroom⟩ := h.ok hW hW2 hl hn hL
  obtain ⟨⟨c, hD, hlc⟩, hcur, hs, hlit, h8, hlb, ho, hb8, hr8, hr7, hpos⟩ := h
  have hrep := hok.repb
  obtain ⟨cur, rep, lit, buf, done, o⟩ := s
  unfold St.finish
  simp only at *
  obtain ⟨rs, g1, g2, g3, g4⟩ := hD
  by_cases h1 : lit = 0 ∧ 0 < rep ∧ (rep = buf.length ∨ buf = [])
  · rw [if_pos h1]
    obtain ⟨h0, hp, hb⟩ := h1
    have ho0 := ho h0
    subst ho0
    have hl2 : l = c ++ List.replicate rep cur := by
      by_cases h2 : 8 ≤ rep
      · rw [if_pos h2] at hlc; simpa using hlc
      · rw [if_neg h2] at hlc
        obtain ⟨b0, hb0⟩ := hr7 (by omega)
        have hn0 : buf ≠ [] := by
          rintro rfl
          have := hrb (by omega)
          simp at this; omega
        have hbl : rep = buf.length := by rcases hb with h | h; exact h; exact absurd h hn0
        have : b0 = [] := by
          have := congrArg List.length hb0
          simp at this
          exact List.length_eq_zero_iff.1 (by omega)
        rw [this] at hb0
        rw [hlc, hb0]; simp
    refine ⟨?_, rs ++ [.rep rep cur], 0, ?_, ?_, by omega, ?_⟩
    · have hv := vlq_length 2 (2 * rep) (by simp; omega)
      have hcl : c.length ≤ n := by rw [hl2] at hl; simp at hl; omega
      have := Done.len ⟨rs, g1, g2, g3, g4⟩ hcl
      unfold Room at hL
      simp
      omega
    · intro r hr
      rw [List.mem_append, List.mem_singleton] at hr
      rcases hr with hr | rfl
      · exact g1 r hr
      · exact ⟨hp, by omega, hcur⟩
    · rw [encR_snoc, ← g2, Rn.enc, List.append_assoc]
    · rw [valsR_snoc, g3, hl2]; simp [Rn.vals]
  · rw [if_neg h1]
    have h2 : ¬ 8 ≤ rep := by
      intro h2
      obtain ⟨ho1, hb1⟩ := hr8 h2
      subst ho1
      exact h1 ⟨by rw [hlit]; rfl, by omega, Or.inr hb1⟩
    rw [if_neg h2] at hlc
    by_cases h3 : lit = 0 ∧ buf = []
    · rw [if_pos h3]
      obtain ⟨h0, hb⟩ := h3
      have ho0 := ho h0
      subst ho0 hb
      refine ⟨by omega, rs, 0, g1, g2, by omega, ?_⟩
      rw [g3, hlc]; simp
    · rw [if_neg h3]
      refine ⟨?_, rs ++ [.lit (o.getD [] ++ buf ++ List.replicate ((buf.length + 7) / 8 * 8 - buf.length) 0)], (buf.length + 7) / 8 * 8 - buf.length, ?_, ?_, by omega, ?_⟩
      · rw [hlit]; simp; omega
      · intro r hr
        rw [List.mem_append, List.mem_singleton] at hr
        rcases hr with hr | rfl
        · exact g1 r hr
        · refine ⟨by simp; omega, ?_, by simp; omega, ?_⟩
          · have : 0 < lit ∨ 0 < buf.length := by
              by_cases h0 : lit = 0
              · right
                exact List.length_pos_iff.2 (fun hb => h3 ⟨h0, hb⟩)
              · left; omega
            simp; omega
          · intro v hv
            rw [List.mem_append, List.mem_replicate] at hv
            rcases hv with hv | ⟨_, rfl⟩
            · exact hs v hv
            · exact Nat.two_pow_pos W
      · have hll : (o.getD [] ++ buf ++ List.replicate ((buf.length + 7) / 8 * 8 - buf.length) 0).length = lit + (buf.length + 7) / 8 * 8 := by simp; omega
        rw [encR_snoc, ← g2, Rn.enc, vlq_small (by rw [hll]; omega), hll, packN_append W (o.getD [] ++ buf), packN_replicate_zero]
        simp
      · rw [valsR_snoc, g3, hlc]; simp [Rn.vals]

theorem run_bounds {W n L : Nat} (l : List Nat) (hs : ∀ v ∈ l, v < 2 ^ W) (hW : 0 < W) (hW2 : W ≤ 64) (hl : l.length ≤ n) (hn : n ≤ 99999) (hL : Room W n L) :
    (St.run W l).Ok W L ∧ (8 ≤ (St.run W l).rep → (St.run W l).done.length + (vlq (2 * (St.run W l).rep)).length + (W + 7) / 8 + 1 + W ≤ L) :=
  have h := (run_inv hW l (by omega) hs).ok hW hW2 hl hn hL
  ⟨h.1, h.2.1⟩

theorem room_rle (W n : Nat) (hW : 0 < W) : Room W n (maxRle W n + minRle W) := by
  unfold Room maxRle minRle
  have : (n + 7) / 8 * (1 + W) = (n + 7) / 8 + (n + 7) / 8 * W := by rw [Nat.mul_add, Nat.mul_one]
  omega
end Go.Proofs.YtlolcgklcnechaaGreatDoor
