/- Plain law: the values that still stand in written runs. No walk here. -/
import Derived.Test.YtlolcgklcnechaaGreatDoorXU10
import Derived.Test.YtlolcgklcnechaaGreatDoorXD8
import Derived.Test.YtlolcgklcnechaaGreatDoorP1
set_option linter.unusedVariables false
set_option linter.unusedSimpArgs false
namespace Go.Proofs.YtlolcgklcnechaaGreatDoor
open Go.RowKit

theorem leVal_append : ∀ (A B : List Nat), leVal (A ++ B) = leVal A + 2 ^ (8 * A.length) * leVal B
  | [], B => by simp [leVal]
  | a :: A, B => by
    simp only [List.cons_append, leVal, leVal_append A B, List.length_cons]
    have h8 : (2 : Nat) ^ 8 = 256 := rfl
    have e : 2 ^ (8 * (A.length + 1)) * leVal B = 256 * (2 ^ (8 * A.length) * leVal B) := by
      rw [show 8 * (A.length + 1) = 8 * A.length + 8 by omega, Nat.pow_add, h8, Nat.mul_right_comm, Nat.mul_comm]
    rw [e]
    omega

/-- A group of values behind its head, read by bits. -/
theorem lit_vals {D : List Nat} {P W : Nat} {l rest : List Nat} (hD : ∀ y ∈ D, y < 256) (h8 : l.length % 8 = 0) (hs : ∀ v ∈ l, v < 2 ^ W)
    (h : D.drop P = leBytes (W * l.length / 8) (packN W l) ++ rest) : bitVals D (8 * P) W l.length = l := by
  have h9 : 8 * (W * l.length / 8) = W * l.length := by
    have : W * l.length % 8 = 0 := by rw [Nat.mul_mod, h8]; simp
    omega
  have h1 : leVal D / 2 ^ (8 * P) = packN W l + 2 ^ (W * l.length) * leVal rest := by
    have := leVal_drop D P hD
    rw [show (256 : Nat) = 2 ^ 8 from rfl, ← Nat.pow_mul] at this
    rw [← this, h, leVal_append, length_leBytes, h9, leVal_leBytes _ _ (by rw [show (256 : Nat) = 2 ^ 8 from rfl, ← Nat.pow_mul, h9]; exact packN_lt hs)]
  apply List.ext_getElem?
  intro i
  by_cases hi : i < l.length
  · have e : W * l.length = W * i + (W + W * (l.length - i - 1)) := by
      rw [show W + W * (l.length - i - 1) = W * (l.length - i - 1 + 1) by rw [Nat.mul_succ, Nat.add_comm], ← Nat.mul_add]; congr 1; omega
    have hg := packN_get hs (List.getElem?_eq_getElem hi)
    have hv : leVal D / 2 ^ (8 * P + W * i) % 2 ^ W = l[i] := by
      rw [Nat.pow_add, ← Nat.div_div_eq_div_mul, h1, e, Nat.pow_add, Nat.mul_assoc, Nat.add_mul_div_left _ _ (Nat.two_pow_pos _), Nat.pow_add, Nat.mul_assoc, Nat.add_mul_mod_self_left]
      exact hg
    simp [bitVals, hi, hv]
  · rw [List.getElem?_eq_none (by simp; omega), List.getElem?_eq_none (by omega)]

theorem bitVals_add (D : List Nat) (p W a b : Nat) : bitVals D p W (a + b) = bitVals D p W a ++ bitVals D (p + W * a) W b := by
  induction b with
  | zero => simp [bitVals]
  | succ b ih => rw [← Nat.add_assoc, bitVals_snoc, bitVals_snoc, ih, List.append_assoc, Nat.mul_add, Nat.add_assoc p]

/-- The blocks of a decoder: its own (t), its bit reader's (q), the bytes.Reader's (x), the bytes' (d). -/
structure DecB where
  t : Nat
  q : Nat
  x : XP
  d : Nat
  o : Nat
  n : Nat
  cap : Nat
  ea : Addr
  D : List Nat
  W : Nat

structure DecB.Ok (B : DecB) : Prop where
  tq : B.t ≠ B.q
  tx : B.t ≠ B.x.b
  td : B.t ≠ B.d
  te : B.t ≠ 4
  W0 : 0 < B.W
  W64 : B.W ≤ 64
  n8 : B.n + 8 ≤ 1099511627776

/-- What a decoder still holds: L, at the state (cur, rep, lit), the next run at byte P. -/
structure DecSt (B : DecB) (w : World) (L : List Nat) (cur rep lit P : Nat) (rs : List Rn) (rest : List Nat) : Prop where
  ok : B.Ok
  cells : Blk w B.t (decCells B.q B.W cur rep lit)
  rsOk : ∀ r ∈ rs, Rn.Ok B.W r
  runs : B.D.drop P = encR B.W rs ++ rest
  repB : rep < 1000000
  litB : lit < 1000000
  curB : cur < 18446744073709551616
  st : (lit = 0 ∧ BRat w B.q B.x B.d B.o B.n B.cap B.ea B.D P ∧ L = List.replicate rep cur ++ valsR rs) ∨
    (rep = 0 ∧ 0 < lit ∧ ∃ bo bi, BRF w B.q B.x B.d B.o B.n B.cap B.ea B.D bo bi ∧ bi ≤ 64 ∧ 8 * bo + bi + B.W * lit = 8 * P ∧ P ≤ B.n ∧ L = bitVals B.D (8 * bo + bi) B.W lit ++ valsR rs)

def DecAt (B : DecB) (w : World) (L : List Nat) : Prop := ∃ cur rep lit P rs rest, DecSt B w L cur rep lit P rs rest

theorem BRat.keep {S : List Nat} {w w' : World} {q : Nat} {x : XP} {d o n cap : Nat} {ea : Addr} {D : List Nat} {P : Nat} (h : BRat w q x d o n cap ea D P) (k : Keep S w w')
    (hq : q ∉ S) (hx : x.b ∉ S) (hd : d ∉ S) (he : 4 ∉ S) : BRat w' q x d o n cap ea D P := by
  obtain ⟨buf, bo, bi, vb, h1, h2, h3⟩ := h
  exact ⟨buf, bo, bi, vb, h1.keep k hq hx hd he, h2, h3⟩

theorem DecSt.keep {S : List Nat} {B : DecB} {w w' : World} {L : List Nat} {cur rep lit P : Nat} {rs : List Rn} {rest : List Nat} (h : DecSt B w L cur rep lit P rs rest) (k : Keep S w w')
    (ht : B.t ∉ S) (hq : B.q ∉ S) (hx : B.x.b ∉ S) (hd : B.d ∉ S) (he : 4 ∉ S) : DecSt B w' L cur rep lit P rs rest := by
  obtain ⟨h1, h2, h3, h4, h5, h6, h7, h8⟩ := h
  refine ⟨h1, h2.keep k ht, h3, h4, h5, h6, h7, ?_⟩
  rcases h8 with ⟨a, b, c⟩ | ⟨a, b, bo, bi, c, r⟩
  · exact .inl ⟨a, b.keep k hq hx hd he, c⟩
  · exact .inr ⟨a, b, bo, bi, BR.keep c k hq hx hd he, r⟩

theorem DecAt.keep {S : List Nat} {B : DecB} {w w' : World} {L : List Nat} (h : DecAt B w L) (k : Keep S w w')
    (ht : B.t ∉ S) (hq : B.q ∉ S) (hx : B.x.b ∉ S) (hd : B.d ∉ S) (he : 4 ∉ S) : DecAt B w' L := by
  obtain ⟨cur, rep, lit, P, rs, rest, h⟩ := h
  exact ⟨cur, rep, lit, P, rs, rest, h.keep k ht hq hx hd he⟩

/-- The next run's head is read: what Next leaves. -/
theorem DecSt.next {B : DecB} {w : World} {L : List Nat} {cur P : Nat} {rs : List Rn} {rest : List Nat} (h : DecSt B w L cur 0 0 P rs rest) (hL : L ≠ []) :
    Calls Tryz.prog 93 #[.pointer (some ⟨B.t, 0, none⟩)] w fun e w' =>
      e = .returned (.bool true) ∧ Keep [B.q, B.t] w w' ∧ ∃ cur' rep' lit' P' rs', (0 < rep' ∨ 0 < lit') ∧ DecSt B w' L cur' rep' lit' P' rs' rest := by
  obtain ⟨hok, hc, hrs, hrun, hrep, hlit, hcur, hst⟩ := h
  obtain ⟨tq, tx, td, te, W0, W64, n8⟩ := hok
  obtain ⟨hB, hL2⟩ : BRat w B.q B.x B.d B.o B.n B.cap B.ea B.D P ∧ L = valsR rs := by
    rcases hst with ⟨_, h1, h2⟩ | ⟨_, h1, _⟩
    · exact ⟨h1, by simpa using h2⟩
    · omega
  match rs, hrs, hrun, hL2 with
  | [], _, _, hL2 => exact absurd hL2 hL
  | .rep r v :: rs', hrs, hrun, hL2 =>
    obtain ⟨hr0, hr, hv⟩ := hrs _ (List.mem_cons_self ..)
    have hm : B.D.drop P = vlq (2 * r) ++ leBytes ((B.W + 7) / 8) v ++ (encR B.W rs' ++ rest) := by
      rw [hrun]; simp [encR, Rn.enc]
    refine (nextRep B.t B.q B.x B.d B.o B.n B.cap B.ea B.D P B.W cur r v _ w hB hc tq tx td te hm hr0 hr W0 W64 hv).mono ?_
    rintro e w' ⟨rfl, k, hB', hc'⟩
    refine ⟨rfl, k, v, r, 0, P + (vlq (2 * r)).length + (B.W + 7) / 8, rs', .inl hr0, ⟨tq, tx, td, te, W0, W64, n8⟩, hc', fun r hr => hrs r (List.mem_cons_of_mem _ hr), ?_, hr, by omega, ?_, .inl ⟨rfl, .of hB', ?_⟩⟩
    · rw [Nat.add_assoc, ← List.drop_drop, hm, List.drop_left' (by simp)]
    · exact Nat.lt_of_lt_of_le hv (Nat.pow_le_pow_right (by omega) W64)
    · rw [hL2]; simp [valsR, Rn.vals]
  | .lit l :: rs', hrs, hrun, hL2 =>
    obtain ⟨h8, hl0, hl, hv⟩ := hrs _ (List.mem_cons_self ..)
    have hm : B.D.drop P = vlq (2 * (l.length / 8) + 1) ++ (leBytes (B.W * l.length / 8) (packN B.W l) ++ (encR B.W rs' ++ rest)) := by
      rw [hrun]; simp [encR, Rn.enc]
    have hW8 : 8 * (B.W * l.length / 8) = B.W * l.length := by
      have : B.W * l.length % 8 = 0 := by rw [Nat.mul_mod, h8]; simp
      omega
    refine (nextLit B.t B.q B.x B.d B.o B.n B.cap B.ea B.D P B.W cur (l.length / 8) _ w hB hc tq tx td te hm (by omega) (by omega)).mono ?_
    rintro e w' ⟨rfl, k, hB', hc'⟩
    rw [show 8 * (l.length / 8) = l.length by omega] at hc'
    have hD1 : B.D.drop (P + (vlq (2 * (l.length / 8) + 1)).length) = leBytes (B.W * l.length / 8) (packN B.W l) ++ (encR B.W rs' ++ rest) := by
      rw [← List.drop_drop, hm, List.drop_left' rfl]
    have hby := hB'.hD.bytes
    have hdl := hB'.hD.dl
    have hlen := congrArg List.length hD1
    simp at hlen
    refine ⟨rfl, k, cur, 0, l.length, P + (vlq (2 * (l.length / 8) + 1)).length + B.W * l.length / 8, rs', .inr hl0, ⟨tq, tx, td, te, W0, W64, n8⟩, hc', fun r hr => hrs r (List.mem_cons_of_mem _ hr), ?_, by omega, hl, hcur,
      .inr ⟨rfl, hl0, P + (vlq (2 * (l.length / 8) + 1)).length, 0, hB', by omega, by omega, ?_, ?_⟩⟩
    · rw [← List.drop_drop, hD1, List.drop_left' (by simp)]
    · have : 0 < B.W * l.length := Nat.mul_pos W0 hl0
      omega
    · rw [hL2, Nat.add_zero, lit_vals hby h8 hv hD1]; simp [valsR, Rn.vals]
end Go.Proofs.YtlolcgklcnechaaGreatDoor
