/- RleEncoder.PutBatchLevels. -/
import Derived.Test.YtlolcgklcnechaaGreatDoorOwn
set_option linter.unusedVariables false
set_option linter.unusedSimpArgs false
namespace Go.Proofs.YtlolcgklcnechaaGreatDoor
open Go.RowKit

theorem run_append (W : Nat) (l m : List Nat) : St.run W (l ++ m) = m.foldl (St.put W) (St.run W l) := by simp [St.run]

theorem fold_same (W v : Nat) : ∀ (n : Nat) (s : St), s.cur = v → 8 ≤ s.rep → (List.replicate n v).foldl (St.put W) s = { s with rep := s.rep + n }
  | 0, s, _, _ => rfl
  | n + 1, s, h1, h2 => by
    rw [List.replicate_succ, List.foldl_cons]
    have e : St.put W s v = { s with rep := s.rep + 1 } := by unfold St.put; rw [if_pos h1, if_pos h2]
    rw [e]
    refine (fold_same W v n { s with rep := s.rep + 1 } h1 (by show 8 ≤ s.rep + 1; omega)).trans ?_
    show St.mk s.cur (s.rep + 1 + n) s.lit s.buf s.done s.o = St.mk s.cur (s.rep + (n + 1)) s.lit s.buf s.done s.o
    rw [show s.rep + 1 + n = s.rep + (n + 1) by omega]

def St.closed (W : Nat) (s : St) : List Nat := if s.lit = 0 then s.done else s.done ++ (2 * (s.lit / 8) + 1) :: leBytes (W * s.lit / 8) (packN W (s.o.getD []))

theorem fold_eight (W v : Nat) (s : St) (h0 : s.rep = 0) (hb : s.buf = []) : (List.replicate 8 v).foldl (St.put W) s = ⟨v, 8, 0, [], s.closed W, none⟩ := by
  obtain ⟨cur, rep, lit, buf, done, o⟩ := s
  simp only at h0 hb
  subst h0 hb
  by_cases hc : cur = v
  · subst hc
    simp [List.replicate, St.put, St.push, St.flushBuf, St.closed]
  · simp [List.replicate, St.put, St.push, St.flushBuf, St.closed, hc]

/-- A long run behind nothing that waits. -/
theorem fold_run (W v n : Nat) (s : St) (h0 : s.rep = 0) (hb : s.buf = []) (hn : 8 ≤ n) : (List.replicate n v).foldl (St.put W) s = ⟨v, n, 0, [], s.closed W, none⟩ := by
  rw [show n = 8 + (n - 8) by omega, ← List.replicate_append_replicate, List.foldl_append, fold_eight W v s h0 hb, fold_same W v _ _ rfl (Nat.le_refl 8)]

theorem EncS.cells {w : World} {r b p d g L W : Nat} {s : St} (h : EncS w r b p d g L W s) :
    w.cell? ⟨r, 1, none⟩ = some (.slice (some ⟨g, 0, none⟩) s.buf.length 8) ∧ w.cell? ⟨r, 3, none⟩ = some (.int .u64 (s.cur : Int)) ∧ w.cell? ⟨r, 4, none⟩ = some (.int .i32 (s.rep : Int)) ∧
      w.cell? ⟨r, 5, none⟩ = some (.int .i32 (s.lit : Int)) ∧ (∀ i, w.frozen? ⟨r, i, none⟩ = false) ∧ r < w.heap.size := by
  obtain ⟨ind, x, cells, hr, hc8, hcells, hg, rb, rp, rd, rg, gb, gp, gd, bl8, back⟩ := EncAt.opened h
  exact ⟨hr.cell (i := 1) rfl, hr.cell (i := 3) rfl, hr.cell (i := 4) rfl, hr.cell (i := 5) rfl, hr.unfrozen, hr.lt⟩

/-- So many equal values behind place k. -/
def Runs (vs : List Nat) (k e v : Nat) : Prop := ∀ j, k ≤ j → j < e → vs[j]? = some v

theorem Runs.take {vs : List Nat} {k e v : Nat} (h : Runs vs k e v) (hk : k ≤ e) (he : e ≤ vs.length) : vs.take e = vs.take k ++ List.replicate (e - k) v := by
  apply List.ext_getElem?
  intro i
  by_cases hi : i < e
  · rw [List.getElem?_take, if_pos hi]
    by_cases hik : i < k
    · rw [List.getElem?_append_left (by simp; omega), List.getElem?_take, if_pos hik]
    · rw [h i (by omega) hi, List.getElem?_append_right (by simp; omega), List.getElem?_replicate, if_pos (by simp; omega)]
  · rw [List.getElem?_eq_none (by simp; omega), List.getElem?_eq_none (by simp; omega)]



set_option maxRecDepth 100000 in
set_option maxHeartbeats 4000000 in
/-- PutBatchLevels: as if each were put. -/
theorem putBatchC (r b p d g L W N : Nat) (pre vs : List Nat) (lv : Value) (w : World) (h : EncS w r b p d g L W (St.run W pre)) (hR : RowAt w lv .i16 vs) (hs : ∀ v ∈ vs, v < 2 ^ W) (hps : ∀ v ∈ pre, v < 2 ^ W)
    (hW0 : 0 < W) (hW15 : W ≤ 15) (hN : (pre ++ vs).length ≤ N) (hN2 : N ≤ 99999) (hL : Room W N L) (hblk : ∀ a c, 0 < vs.length → lv = .slice (some a) vs.length c → ¬ (a.block = r ∨ a.block = b ∨ a.block = d ∨ a.block = g)) :
    Calls Tryz.prog 38 #[.pointer (some ⟨r, 0, none⟩), lv] w fun e w' =>
      e = .returned (.tuple #[.int .i64 (vs.length : Int), .nilIface]) ∧ Keep [r, b, d, g] w w' ∧ EncS w' r b p d g L W (St.run W (pre ++ vs)) := by
  obtain ⟨ao, cap, rfl, hc, hcell⟩ := (show ∃ ao cap, lv = .slice ao vs.length cap ∧ vs.length ≤ cap ∧ ∀ (i x : Nat), vs[i]? = some x → ∃ a, ao = some a ∧ w.cell? (a.add i) = some (.int .i16 (x : Int)) by
    rcases hR with ⟨rfl, rfl⟩ | ⟨a, cap, h1, h2, h3⟩
    · exact ⟨none, 0, rfl, Nat.le_refl _, fun i x hx => by simp at hx⟩
    · exact ⟨some a, cap, h1, h2, fun i x hx => ⟨a, rfl, h3 i x hx⟩⟩)
  have hbounds := fun k => run_bounds (W := W) (n := N) (L := L) (pre ++ vs.take k) (fun v hv => by rw [List.mem_append] at hv; exact hv.elim (hps v) (fun h => hs v (List.mem_of_mem_take h))) hW0 (by omega) (by rw [List.length_append] at hN ⊢; rw [List.length_take]; omega) hN2 hL
  have hw15 : 2 ^ W ≤ 32768 := Nat.pow_le_pow_right (n := 2) (by omega) hW15
  obtain ⟨n, hn'⟩ : ∃ n, n = vs.length := ⟨_, rfl⟩
  rw [← hn'] at hc ⊢
  have hnN : n ≤ 99999 := by rw [List.length_append] at hN; omega
  have h0 : EncS w r b p d g L W (St.run W (pre ++ vs.take 0)) := by simpa using h
  have Hn := Lib.hid hn'
  have Hc := Lib.hid hcell
  have Hs := Lib.hid hs
  have HB := Lib.hid hbounds
  have HW15 := Lib.hid hw15
  have Hblk0 := Lib.hid hblk
  clear hn' hcell hs hbounds hw15 hblk hR h hN hL hps
  go_enter Tryz.func38, Tryz.ntmps38
  go_wp2_with fail
  go_loopw [6] (fun i wr => ∃ k : Nat, k ≤ n ∧ i = .int .i64 (k : Int) ∧ Keep [r, b, d, g] w wr ∧ EncS wr r b p d g L W (St.run W (pre ++ vs.take k))) (fun i _ => n - (intOf i).toNat)
  case atStart => exact ⟨0, Nat.zero_le _, rfl, Keep.refl _ _, h0⟩
  case round =>
    obtain ⟨k, hk, rfl, kk, hE⟩ := hrel
    by_cases hk2 : k < n
    · obtain ⟨v, hv⟩ : ∃ v, vs[k]? = some v := ⟨vs[k]'(by rw [← Hn.out]; exact hk2), by simp⟩
      obtain ⟨a, rfl, hcv⟩ := Hc.out k v hv
      have hblk2 : ∀ x, (a.add x).block = r ∨ (a.add x).block = b ∨ (a.add x).block = d ∨ (a.add x).block = g → False := fun x hx => by
        have e : (a.add x).block = a.block := by unfold Addr.add; split <;> rfl
        rw [e] at hx
        exact Hblk0.out a cap (by rw [← Hn.out]; omega) (by rw [← Hn.out]) hx
      have Hblk := Lib.hid hblk2
      have hcv := kk.cell_some hcv (by simp only [List.mem_cons, List.not_mem_nil, or_false]; exact fun hm => Hblk.out _ hm)
      have hvW := Hs.out v (List.mem_of_getElem? hv)
      have hvb : v < 32768 := Nat.lt_of_lt_of_le hvW HW15.out
      obtain ⟨hok, hroom⟩ := HB.out k
      obtain ⟨s, hsd⟩ : ∃ s, s = St.run W (pre ++ vs.take k) := ⟨_, rfl⟩
      rw [← hsd] at hE hok hroom
      obtain ⟨c1, c3, c4, c5, cf, crl⟩ := hE.cells
      have hrep := hok.repb
      have hlit := hok.litb
      have hb8 := hok.buf8
      have HE := Lib.hid hE
      have Hok := Lib.hid hok
      have Hroom := Lib.hid hroom
      have Hsd := Lib.hid hsd
      have Hv := Lib.hid hv
      have HvW := Lib.hid hvW
      clear hblk2 hE hok hroom hsd hv hvW
      by_cases h8 : 8 ≤ s.rep ∧ s.cur = v
      · obtain ⟨h81, h82⟩ := h8
        have h81i : (8 : Int) ≤ (s.rep : Int) := by omega
        have h82i : ((s.cur : Int) == (v : Int)) = true := by rw [h82]; simp
        have H81 := Lib.hid h81
        have H82 := Lib.hid h82
        clear h81 h82
        go_wp2_with fail
        go_loopw [8] (fun i wr2 => ∃ e : Nat, k + 1 ≤ e ∧ e ≤ n ∧ i = .int .i64 (e : Int) ∧ wr = wr2 ∧ Runs vs k e v) (fun i _ => n - (intOf i).toNat)
        case atStart => exact ⟨k + 1, Nat.le_refl _, hk2, by go_num, rfl, fun j h1 h2 => by rw [show j = k by omega]; exact Hv.out⟩
        case round =>
          as_aux_lemma =>
            obtain ⟨e, he1, he2, rfl, rfl, hruns⟩ := hrel
            by_cases hen : e < n
            · obtain ⟨y, hy⟩ : ∃ y, vs[e]? = some y := ⟨vs[e]'(by rw [← Hn.out]; exact hen), by simp⟩
              obtain ⟨a2, ha2, hcy⟩ := Hc.out e y hy
              obtain rfl := Option.some.inj ha2
              have hcy := kk.cell_some hcy (by simp only [List.mem_cons, List.not_mem_nil, or_false]; exact fun hm => Hblk.out _ hm)
              have hyb := Hs.out y (List.mem_of_getElem? hy)
              have hyb2 : y < 32768 := Nat.lt_of_lt_of_le hyb HW15.out
              by_cases hyv : y = v
              · subst hyv
                have hr2 : Runs vs k (e + 1) y := fun j h1 h2 => by
                  by_cases h : j < e
                  · exact hruns j h1 h
                  · have : j = e := by omega
                    subst this; exact hy
                have Hr2 := Lib.hid hr2
                clear hr2 hruns hy hyb
                go_wp2
                go_roundw
                case rel => exact ⟨e + 1, by omega, by omega, by go_num, trivial, Hr2.out⟩
                case measure => simp [intOf]; omega
              · have hyvi : ((y : Int) == (v : Int)) = false := by simp; omega
                have Hruns := Lib.hid hruns
                clear hruns hy hyb hyv
                obtain ⟨q, hq⟩ : ∃ q, q = e - k := ⟨_, rfl⟩
                obtain ⟨rep2, hrep2⟩ : ∃ x, x = s.rep + q := ⟨_, rfl⟩
                have hqi : (e : Int) - (k : Int) = (q : Int) := by omega
                have hM : ¬ 2147483647 - (s.rep : Int) ≤ (q : Int) := by omega
                have hM2 : (q : Int) < 2147483647 - (s.rep : Int) := by omega
                have hrep2i : (s.rep : Int) + (q : Int) = (rep2 : Int) := by omega
                have hne2 : ((rep2 : Int) == 2147483647) = false := by simp; omega
                have hk2i : (k : Int) + (q : Int) = (e : Int) := by omega
                have hst : St.run W (pre ++ vs.take e) = { s with rep := rep2 } := by
                  rw [Hruns.out.take (by omega) (by rw [← Hn.out]; omega), ← List.append_assoc, run_append, ← Hsd.out, fold_same W v _ s H82.out H81.out, hrep2, hq]
                have Hst := Lib.hid hst
                clear hq hrep2 hst
                go_wp2
                go_roundw
                case rel =>
                  refine ⟨e, by omega, rfl, kk.set (by simp) _ _ _, ?_⟩
                  rw [Hst.out]
                  exact HE.out.setRep rep2
                case measure => simp [intOf]; omega
            · have hen2 : e = n := by omega
              subst hen2
              have Hruns := Lib.hid hruns
              clear hruns
              obtain ⟨q, hq⟩ : ∃ q, q = e - k := ⟨_, rfl⟩
              obtain ⟨rep2, hrep2⟩ : ∃ x, x = s.rep + q := ⟨_, rfl⟩
              have hqi : (e : Int) - (k : Int) = (q : Int) := by omega
              have hM : ¬ 2147483647 - (s.rep : Int) ≤ (q : Int) := by omega
              have hM2 : (q : Int) < 2147483647 - (s.rep : Int) := by omega
              have hrep2i : (s.rep : Int) + (q : Int) = (rep2 : Int) := by omega
              have hne2 : ((rep2 : Int) == 2147483647) = false := by simp; omega
              have hk2i : (k : Int) + (q : Int) = (e : Int) := by omega
              have hst : St.run W (pre ++ vs.take e) = { s with rep := rep2 } := by
                rw [Hruns.out.take (by omega) (by rw [← Hn.out]; omega), ← List.append_assoc, run_append, ← Hsd.out, fold_same W v _ s H82.out H81.out, hrep2, hq]
              have Hst := Lib.hid hst
              clear hq hrep2 hst
              go_wp2
              go_roundw
              case rel =>
                refine ⟨e, by omega, rfl, kk.set (by simp) _ _ _, ?_⟩
                rw [Hst.out]
                exact HE.out.setRep rep2
              case measure => simp [intOf]; omega
      · by_cases h81 : 8 ≤ s.rep
        · have h81i : (8 : Int) ≤ (s.rep : Int) := by omega
          have hcv2 : ((s.cur : Int) == (v : Int)) = false := by simp; intro h; exact h8 ⟨h81, by omega⟩
          have hr0 : ((s.rep : Int) == 0) = false := by simp; omega
          clear h8
          obtain ⟨X, hX⟩ : ∃ X, X = k + 8 - s.buf.length := ⟨_, rfl⟩
          have hXi : (k : Int) + 8 - (s.buf.length : Int) = (X : Int) := by omega
          by_cases hnX : n < X
          · have hnXi : (n : Int) < (X : Int) := by omega
            have hnXi2 : ¬ (X : Int) ≤ (n : Int) := by omega
            have hnXi3 : (n : Int) ≤ (X : Int) := by omega
            clear hX
            as_aux_lemma =>
              go_wp2_with fail
              go_loopw [6] (fun i wr2 => ∃ j : Nat, k ≤ j ∧ j ≤ n ∧ i = .int .i64 (j : Int) ∧ Keep [r, b, d, g] w wr2 ∧ EncS wr2 r b p d g L W (St.run W (pre ++ vs.take j))) (fun i _ => n - (intOf i).toNat)
              case atStart => exact ⟨k, Nat.le_refl _, by omega, rfl, kk, by rw [← Hsd.out]; exact HE.out⟩
              case round =>
                obtain ⟨j, hj1, hj2, rfl, kj, hEj⟩ := hrel
                by_cases hjn : j < n
                · have hjn3 : j < n := by omega
                  obtain ⟨y, hy⟩ : ∃ y, vs[j]? = some y := ⟨vs[j]'(by rw [← Hn.out]; exact hjn3), by simp⟩
                  obtain ⟨a2, ha2, hcy⟩ := Hc.out j y hy
                  obtain rfl := Option.some.inj ha2
                  have hcy := kj.cell_some hcy (by simp only [List.mem_cons, List.not_mem_nil, or_false]; exact fun hm => Hblk.out _ hm)
                  have hyW := Hs.out y (List.mem_of_getElem? hy)
                  have hyb : y < 32768 := Nat.lt_of_lt_of_le hyW HW15.out
                  obtain ⟨hokj, hroomj⟩ := HB.out j
                  have hnext : St.run W (pre ++ vs.take (j + 1)) = (St.run W (pre ++ vs.take j)).put W y := by
                    rw [List.take_succ_eq_append_getElem (by rw [← Hn.out]; exact hjn3), ← List.append_assoc, run_snoc]
                    rw [List.getElem?_eq_getElem (by rw [← Hn.out]; exact hjn3)] at hy
                    rw [Option.some.inj hy]
                  have HyW := Lib.hid hyW
                  have Hnext := Lib.hid hnext
                  have HEj := Lib.hid hEj
                  have Hokj := Lib.hid hokj
                  have Hroomj := Lib.hid hroomj
                  clear hyW hnext hEj hokj hroomj hy
                  go_wp2_with fail
                  refine (putC r b p d g L W y _ _ HEj.out Hokj.out HyW.out hW0 (by omega) Hroomj.out).mono ?_
                  rintro e w6 ⟨rfl, k6, hE6⟩
                  have HE6 := Lib.hid hE6
                  clear hE6
                  go_wp2
                  go_roundw
                  case rel => exact ⟨j + 1, by omega, hjn, by go_num, kj.trans k6 (by simp), by rw [Hnext.out]; exact HE6.out⟩
                  case measure => simp [intOf]; omega
                · have hjn2 : j = n := by omega
                  subst hjn2
                  have HEj := Lib.hid hEj
                  clear hEj
                  go_wp2
                  go_roundw
                  case rel => exact ⟨j, by omega, rfl, kj, HEj.out⟩
                  case measure => simp [intOf]; omega
          · by_cases hnX2 : n = X
            · clear hX hnX
              rw [← hnX2] at hXi
              clear hnX2
              as_aux_lemma =>
                go_wp2_with fail
                go_loopw [6] (fun i wr2 => ∃ j : Nat, k ≤ j ∧ j ≤ n ∧ i = .int .i64 (j : Int) ∧ Keep [r, b, d, g] w wr2 ∧ EncS wr2 r b p d g L W (St.run W (pre ++ vs.take j))) (fun i _ => n - (intOf i).toNat)
                case atStart => exact ⟨k, Nat.le_refl _, by omega, rfl, kk, by rw [← Hsd.out]; exact HE.out⟩
                case round =>
                  obtain ⟨j, hj1, hj2, rfl, kj, hEj⟩ := hrel
                  by_cases hjn : j < n
                  · have hjn3 : j < n := by omega
                    obtain ⟨y, hy⟩ : ∃ y, vs[j]? = some y := ⟨vs[j]'(by rw [← Hn.out]; exact hjn3), by simp⟩
                    obtain ⟨a2, ha2, hcy⟩ := Hc.out j y hy
                    obtain rfl := Option.some.inj ha2
                    have hcy := kj.cell_some hcy (by simp only [List.mem_cons, List.not_mem_nil, or_false]; exact fun hm => Hblk.out _ hm)
                    have hyW := Hs.out y (List.mem_of_getElem? hy)
                    have hyb : y < 32768 := Nat.lt_of_lt_of_le hyW HW15.out
                    obtain ⟨hokj, hroomj⟩ := HB.out j
                    have hnext : St.run W (pre ++ vs.take (j + 1)) = (St.run W (pre ++ vs.take j)).put W y := by
                      rw [List.take_succ_eq_append_getElem (by rw [← Hn.out]; exact hjn3), ← List.append_assoc, run_snoc]
                      rw [List.getElem?_eq_getElem (by rw [← Hn.out]; exact hjn3)] at hy
                      rw [Option.some.inj hy]
                    have HyW := Lib.hid hyW
                    have Hnext := Lib.hid hnext
                    have HEj := Lib.hid hEj
                    have Hokj := Lib.hid hokj
                    have Hroomj := Lib.hid hroomj
                    clear hyW hnext hEj hokj hroomj hy
                    go_wp2_with fail
                    refine (putC r b p d g L W y _ _ HEj.out Hokj.out HyW.out hW0 (by omega) Hroomj.out).mono ?_
                    rintro e w6 ⟨rfl, k6, hE6⟩
                    have HE6 := Lib.hid hE6
                    clear hE6
                    go_wp2
                    go_roundw
                    case rel => exact ⟨j + 1, by omega, hjn, by go_num, kj.trans k6 (by simp), by rw [Hnext.out]; exact HE6.out⟩
                    case measure => simp [intOf]; omega
                  · have hjn2 : j = n := by omega
                    subst hjn2
                    have HEj := Lib.hid hEj
                    clear hEj
                    go_wp2
                    go_roundw
                    case rel => exact ⟨j, by omega, rfl, kj, HEj.out⟩
                    case measure => simp [intOf]; omega
            · have hnXi : ¬ (n : Int) < (X : Int) := by omega
              have hnXi2 : (X : Int) ≤ (n : Int) := by omega
              have hnXi3 : ¬ (n : Int) ≤ (X : Int) := by omega
              have hnXi4 : (X : Int) < (n : Int) := by omega
              have hkX : k < X := by omega
              clear hX
              as_aux_lemma =>
                go_wp2_with fail
                go_loopw [6] (fun i wr2 => ∃ j : Nat, k ≤ j ∧ j ≤ X ∧ i = .int .i64 (j : Int) ∧ Keep [r, b, d, g] w wr2 ∧ EncS wr2 r b p d g L W (St.run W (pre ++ vs.take j))) (fun i _ => X - (intOf i).toNat)
                case atStart => exact ⟨k, Nat.le_refl _, by omega, rfl, kk, by rw [← Hsd.out]; exact HE.out⟩
                case round =>
                  obtain ⟨j, hj1, hj2, rfl, kj, hEj⟩ := hrel
                  by_cases hjn : j < X
                  · have hjn3 : j < n := by omega
                    obtain ⟨y, hy⟩ : ∃ y, vs[j]? = some y := ⟨vs[j]'(by rw [← Hn.out]; exact hjn3), by simp⟩
                    obtain ⟨a2, ha2, hcy⟩ := Hc.out j y hy
                    obtain rfl := Option.some.inj ha2
                    have hcy := kj.cell_some hcy (by simp only [List.mem_cons, List.not_mem_nil, or_false]; exact fun hm => Hblk.out _ hm)
                    have hyW := Hs.out y (List.mem_of_getElem? hy)
                    have hyb : y < 32768 := Nat.lt_of_lt_of_le hyW HW15.out
                    obtain ⟨hokj, hroomj⟩ := HB.out j
                    have hnext : St.run W (pre ++ vs.take (j + 1)) = (St.run W (pre ++ vs.take j)).put W y := by
                      rw [List.take_succ_eq_append_getElem (by rw [← Hn.out]; exact hjn3), ← List.append_assoc, run_snoc]
                      rw [List.getElem?_eq_getElem (by rw [← Hn.out]; exact hjn3)] at hy
                      rw [Option.some.inj hy]
                    have HyW := Lib.hid hyW
                    have Hnext := Lib.hid hnext
                    have HEj := Lib.hid hEj
                    have Hokj := Lib.hid hokj
                    have Hroomj := Lib.hid hroomj
                    clear hyW hnext hEj hokj hroomj hy
                    go_wp2_with fail
                    refine (putC r b p d g L W y _ _ HEj.out Hokj.out HyW.out hW0 (by omega) Hroomj.out).mono ?_
                    rintro e w6 ⟨rfl, k6, hE6⟩
                    have HE6 := Lib.hid hE6
                    clear hE6
                    go_wp2
                    go_roundw
                    case rel => exact ⟨j + 1, by omega, hjn, by go_num, kj.trans k6 (by simp), by rw [Hnext.out]; exact HE6.out⟩
                    case measure => simp [intOf]; omega
                  · have hjn2 : j = X := by omega
                    subst hjn2
                    have HEj := Lib.hid hEj
                    clear hEj
                    go_wp2
                    go_roundw
                    case rel => exact ⟨j, by omega, rfl, kj, HEj.out⟩
                    case measure => simp [intOf]; omega
        · have h81i : ¬ (8 : Int) ≤ (s.rep : Int) := by omega
          clear h8
          by_cases hr0 : s.rep = 0
          · have hr0i : ((s.rep : Int) == 0) = true := by rw [hr0]; rfl
            by_cases hbl : s.buf.length = 0
            · have hbli : ((s.buf.length : Int) == 0) = true := by rw [hbl]; rfl
              by_cases hk8 : k + 8 ≤ n
              · have hk8i : (8 : Int) ≤ (n : Int) - (k : Int) := by omega
                obtain ⟨t, ht⟩ : ∃ t, t = k + 7 := ⟨_, rfl⟩
                have hti : (k : Int) + 7 = (t : Int) := by omega
                have htn : t < n := by omega
                have Ht := Lib.hid ht
                clear ht
                obtain ⟨y, hy⟩ : ∃ y, vs[t]? = some y := ⟨vs[t]'(by rw [← Hn.out]; omega), by simp⟩
                obtain ⟨a2, ha2, hcy⟩ := Hc.out t y hy
                obtain rfl := Option.some.inj ha2
                have hcy := kk.cell_some hcy (by simp only [List.mem_cons, List.not_mem_nil, or_false]; exact fun hm => Hblk.out _ hm)
                have hyW := Hs.out y (List.mem_of_getElem? hy)
                have hyb : y < 32768 := Nat.lt_of_lt_of_le hyW HW15.out
                by_cases hyv : y = v
                · rw [hyv] at hcy
                  clear hyv
                  have Hr0 := Lib.hid hr0
                  have Hbl := Lib.hid hbl
                  clear hr0 hbl hy hyW hyb
                  go_wp2_with fail
                  go_loopw [10] (fun i wr2 => ∃ e : Nat, k + 1 ≤ e ∧ e ≤ n ∧ i = .int .i64 (e : Int) ∧ wr = wr2 ∧ Runs vs k e v) (fun i _ => n - (intOf i).toNat)
                  case atStart => exact ⟨k + 1, Nat.le_refl _, hk2, by go_num, rfl, fun j h1 h2 => by rw [show j = k by omega]; exact Hv.out⟩
                  case round =>
                    obtain ⟨e, he1, he2, rfl, rfl, hruns⟩ := hrel
                    by_cases hen : e < n
                    · obtain ⟨y, hy⟩ : ∃ y, vs[e]? = some y := ⟨vs[e]'(by rw [← Hn.out]; exact hen), by simp⟩
                      obtain ⟨a2, ha2, hcy⟩ := Hc.out e y hy
                      obtain rfl := Option.some.inj ha2
                      have hcy := kk.cell_some hcy (by simp only [List.mem_cons, List.not_mem_nil, or_false]; exact fun hm => Hblk.out _ hm)
                      have hyb := Hs.out y (List.mem_of_getElem? hy)
                      have hyb2 : y < 32768 := Nat.lt_of_lt_of_le hyb HW15.out
                      by_cases hyv : y = v
                      · subst hyv
                        have hr2 : Runs vs k (e + 1) y := fun j h1 h2 => by
                          by_cases h : j < e
                          · exact hruns j h1 h
                          · have : j = e := by omega
                            subst this; exact hy
                        have Hr2 := Lib.hid hr2
                        clear hr2 hruns hy hyb
                        go_wp2
                        go_roundw
                        case rel => exact ⟨e + 1, by omega, by omega, by go_num, trivial, Hr2.out⟩
                        case measure => simp [intOf]; omega
                      · have hyvi : ((y : Int) == (v : Int)) = false := by simp; omega
                        have Hruns := Lib.hid hruns
                        clear hruns hy hyb hyv
                        by_cases he8 : k + 8 ≤ e
                        · have he8i : (8 : Int) ≤ (e : Int) - (k : Int) := by omega
                          have hst : St.run W (pre ++ vs.take e) = ⟨v, e - k, 0, [], s.closed W, none⟩ := by
                            rw [Hruns.out.take (by omega) (by rw [← Hn.out]; omega), ← List.append_assoc, run_append, ← Hsd.out, fold_run W v _ s Hr0.out (List.length_eq_zero_iff.1 Hbl.out) (by omega)]
                          have Hst := Lib.hid hst
                          clear hst
                          by_cases hl0 : s.lit = 0
                          · as_aux_lemma =>
                              have hl0i : ((s.lit : Int) != 0) = false := by rw [hl0]; rfl
                              have Hl0 := Lib.hid hl0
                              obtain ⟨q, hq⟩ : ∃ q, q = e - k := ⟨_, rfl⟩
                              obtain ⟨rep2, hrep2⟩ : ∃ x, x = s.rep + q := ⟨_, rfl⟩
                              have hqi : (e : Int) - (k : Int) = (q : Int) := by omega
                              have hM : ¬ 2147483647 - (s.rep : Int) ≤ (q : Int) := by omega
                              have hM2 : (q : Int) < 2147483647 - (s.rep : Int) := by omega
                              have hrep2i : (s.rep : Int) + (q : Int) = (rep2 : Int) := by omega
                              have hk2i : (k : Int) + (q : Int) = (e : Int) := by omega
                              have hre : rep2 = e - k := by have := Hr0.out; omega
                              have Hre := Lib.hid hre
                              have hHE := (EncAt.setCur (show EncAt wr r b p d g L W s.cur s.rep s.lit s.buf s.done s.o from HE.out) v).setRep rep2
                              rw [hre, hl0, List.length_eq_zero_iff.1 Hbl.out, Hok.out.o hl0] at hHE
                              have HHE := Lib.hid hHE
                              clear hq hrep2 hl0 hHE hre
                              go_wp2
                              go_roundw
                              case rel =>
                                refine ⟨e, by omega, rfl, (kk.set (by simp) _ _ _).set (by simp) _ _ _, ?_⟩
                                rw [Hst.out]
                                unfold EncS St.closed
                                rw [if_pos Hl0.out, Hre.out]
                                exact HHE.out
                              case measure => simp [intOf]; omega
                          · as_aux_lemma =>
                              have hl0i : ((s.lit : Int) != 0) = true := by rw [bne_iff_ne]; omega
                              have Hl0 := Lib.hid hl0
                              have hHE := (EncAt.setCur (show EncAt wr r b p d g L W s.cur s.rep s.lit s.buf s.done s.o from HE.out) v).setRep 8
                              rw [List.length_eq_zero_iff.1 Hbl.out] at hHE
                              have hroom := Hok.out.roomL
                              have hlitl := Hok.out.lit
                              have hroom2 : s.done.length + 1 + W * ((s.o.getD []).length + 0) / 8 ≤ L := by
                                have : W * ((s.o.getD []).length + 0) ≤ W * ((s.o.getD []).length + 8) := Nat.mul_le_mul_left _ (by omega)
                                omega
                              have hfl := flushLit true r b p d g L W v 8 s.lit [] s.done s.o _ hHE (by omega) (by simp) hroom2 rfl (by simpa using hlitl) (by omega)
                              have KW : Keep [r, b, d, g] w ((wr.setCell ⟨r, 3, none⟩ (.int .u64 (v : Int))).setCell ⟨r, 4, none⟩ (.int .i32 ((8 : Nat) : Int))) := (kk.set (by simp) _ _ _).set (by simp) _ _ _
                              clear hl0 hHE hroom hlitl hroom2
                              go_wp2_with fail
                              refine hfl.mono ?_
                              rintro e5 w5 ⟨rfl, k5, hE5⟩
                              have hE5 : EncAt w5 r b p d g L W v 8 0 [] (s.done ++ (2 * (s.lit / 8) + 1) :: leBytes (W * s.lit / 8) (packN W (s.o.getD [] ++ []))) none := hE5
                              have K5 : Keep [r, b, d, g] w w5 := KW.trans k5 (by simp)
                              have hE6 : EncS w5 r b p d g L W ⟨v, 8, 0, [], s.closed W, none⟩ := by
                                unfold EncS St.closed
                                rw [if_neg Hl0.out]
                                simpa using hE5
                              clear hfl hE5 k5 KW c1 c3 c4 c5 cf crl
                              obtain ⟨c1, c3, c4, c5, cf, crl⟩ := hE6.cells
                              have HE6 := Lib.hid hE6
                              obtain ⟨k8, hk8'⟩ : ∃ x, x = k + 8 := ⟨_, rfl⟩
                              have hk8i : (k : Int) + 8 = (k8 : Int) := by omega
                              obtain ⟨q, hq⟩ : ∃ q, q = e - k8 := ⟨_, rfl⟩
                              obtain ⟨rep2, hrep2⟩ : ∃ x, x = 8 + q := ⟨_, rfl⟩
                              have hqi : (e : Int) - (k8 : Int) = (q : Int) := by omega
                              have hM : ¬ (2147483639 : Int) ≤ (q : Int) := by omega
                              have hM2 : (q : Int) < 2147483639 := by omega
                              have hrep2i : 8 + (q : Int) = (rep2 : Int) := by omega
                              have hk2i : (k8 : Int) + (q : Int) = (e : Int) := by omega
                              have hre : rep2 = e - k := by omega
                              have Hre := Lib.hid hre
                              have hkb : k8 ≤ 99999 := by omega
                              clear hE6 hk8' hq hrep2 hre
                              go_wp2
                              go_roundw
                              case rel =>
                                refine ⟨e, by omega, rfl, K5.set (by simp) _ _ _, ?_⟩
                                rw [Hst.out]
                                have := EncAt.setRep (show EncAt w5 r b p d g L W v 8 0 [] (s.closed W) none from HE6.out) rep2
                                rw [Hre.out] at this
                                unfold EncS
                                rw [Hre.out]
                                exact this
                              case measure => simp [intOf]; omega
                        · have he8i : ¬ (8 : Int) ≤ (e : Int) - (k : Int) := by omega
                          have hbl := Hbl.out
                          obtain ⟨X, hX⟩ : ∃ X, X = k + 8 - s.buf.length := ⟨_, rfl⟩
                          have hXi : (k : Int) + 8 - (s.buf.length : Int) = (X : Int) := by omega
                          have hnX : ¬ n < X := by omega
                          by_cases hnX2 : n = X
                          · clear hX hnX
                            rw [← hnX2] at hXi
                            clear hnX2
                            as_aux_lemma =>
                              go_wp2_with fail
                              go_loopw [6] (fun i wr2 => ∃ j : Nat, k ≤ j ∧ j ≤ n ∧ i = .int .i64 (j : Int) ∧ Keep [r, b, d, g] w wr2 ∧ EncS wr2 r b p d g L W (St.run W (pre ++ vs.take j))) (fun i _ => n - (intOf i).toNat)
                              case atStart => exact ⟨k, Nat.le_refl _, by omega, rfl, kk, by rw [← Hsd.out]; exact HE.out⟩
                              case round =>
                                obtain ⟨j, hj1, hj2, rfl, kj, hEj⟩ := hrel
                                by_cases hjn : j < n
                                · have hjn3 : j < n := by omega
                                  obtain ⟨y, hy⟩ : ∃ y, vs[j]? = some y := ⟨vs[j]'(by rw [← Hn.out]; exact hjn3), by simp⟩
                                  obtain ⟨a2, ha2, hcy⟩ := Hc.out j y hy
                                  obtain rfl := Option.some.inj ha2
                                  have hcy := kj.cell_some hcy (by simp only [List.mem_cons, List.not_mem_nil, or_false]; exact fun hm => Hblk.out _ hm)
                                  have hyW := Hs.out y (List.mem_of_getElem? hy)
                                  have hyb : y < 32768 := Nat.lt_of_lt_of_le hyW HW15.out
                                  obtain ⟨hokj, hroomj⟩ := HB.out j
                                  have hnext : St.run W (pre ++ vs.take (j + 1)) = (St.run W (pre ++ vs.take j)).put W y := by
                                    rw [List.take_succ_eq_append_getElem (by rw [← Hn.out]; exact hjn3), ← List.append_assoc, run_snoc]
                                    rw [List.getElem?_eq_getElem (by rw [← Hn.out]; exact hjn3)] at hy
                                    rw [Option.some.inj hy]
                                  have HyW := Lib.hid hyW
                                  have Hnext := Lib.hid hnext
                                  have HEj := Lib.hid hEj
                                  have Hokj := Lib.hid hokj
                                  have Hroomj := Lib.hid hroomj
                                  clear hyW hnext hEj hokj hroomj hy
                                  go_wp2_with fail
                                  refine (putC r b p d g L W y _ _ HEj.out Hokj.out HyW.out hW0 (by omega) Hroomj.out).mono ?_
                                  rintro e w6 ⟨rfl, k6, hE6⟩
                                  have HE6 := Lib.hid hE6
                                  clear hE6
                                  go_wp2
                                  go_roundw
                                  case rel => exact ⟨j + 1, by omega, hjn, by go_num, kj.trans k6 (by simp), by rw [Hnext.out]; exact HE6.out⟩
                                  case measure => simp [intOf]; omega
                                · have hjn2 : j = n := by omega
                                  subst hjn2
                                  have HEj := Lib.hid hEj
                                  clear hEj
                                  go_wp2
                                  go_roundw
                                  case rel => exact ⟨j, by omega, rfl, kj, HEj.out⟩
                                  case measure => simp [intOf]; omega
                          · have hnXi : ¬ (n : Int) < (X : Int) := by omega
                            have hnXi2 : (X : Int) ≤ (n : Int) := by omega
                            have hnXi3 : ¬ (n : Int) ≤ (X : Int) := by omega
                            have hnXi4 : (X : Int) < (n : Int) := by omega
                            have hkX : k < X := by omega
                            clear hX
                            as_aux_lemma =>
                              go_wp2_with fail
                              go_loopw [6] (fun i wr2 => ∃ j : Nat, k ≤ j ∧ j ≤ X ∧ i = .int .i64 (j : Int) ∧ Keep [r, b, d, g] w wr2 ∧ EncS wr2 r b p d g L W (St.run W (pre ++ vs.take j))) (fun i _ => X - (intOf i).toNat)
                              case atStart => exact ⟨k, Nat.le_refl _, by omega, rfl, kk, by rw [← Hsd.out]; exact HE.out⟩
                              case round =>
                                obtain ⟨j, hj1, hj2, rfl, kj, hEj⟩ := hrel
                                by_cases hjn : j < X
                                · have hjn3 : j < n := by omega
                                  obtain ⟨y, hy⟩ : ∃ y, vs[j]? = some y := ⟨vs[j]'(by rw [← Hn.out]; exact hjn3), by simp⟩
                                  obtain ⟨a2, ha2, hcy⟩ := Hc.out j y hy
                                  obtain rfl := Option.some.inj ha2
                                  have hcy := kj.cell_some hcy (by simp only [List.mem_cons, List.not_mem_nil, or_false]; exact fun hm => Hblk.out _ hm)
                                  have hyW := Hs.out y (List.mem_of_getElem? hy)
                                  have hyb : y < 32768 := Nat.lt_of_lt_of_le hyW HW15.out
                                  obtain ⟨hokj, hroomj⟩ := HB.out j
                                  have hnext : St.run W (pre ++ vs.take (j + 1)) = (St.run W (pre ++ vs.take j)).put W y := by
                                    rw [List.take_succ_eq_append_getElem (by rw [← Hn.out]; exact hjn3), ← List.append_assoc, run_snoc]
                                    rw [List.getElem?_eq_getElem (by rw [← Hn.out]; exact hjn3)] at hy
                                    rw [Option.some.inj hy]
                                  have HyW := Lib.hid hyW
                                  have Hnext := Lib.hid hnext
                                  have HEj := Lib.hid hEj
                                  have Hokj := Lib.hid hokj
                                  have Hroomj := Lib.hid hroomj
                                  clear hyW hnext hEj hokj hroomj hy
                                  go_wp2_with fail
                                  refine (putC r b p d g L W y _ _ HEj.out Hokj.out HyW.out hW0 (by omega) Hroomj.out).mono ?_
                                  rintro e w6 ⟨rfl, k6, hE6⟩
                                  have HE6 := Lib.hid hE6
                                  clear hE6
                                  go_wp2
                                  go_roundw
                                  case rel => exact ⟨j + 1, by omega, hjn, by go_num, kj.trans k6 (by simp), by rw [Hnext.out]; exact HE6.out⟩
                                  case measure => simp [intOf]; omega
                                · have hjn2 : j = X := by omega
                                  subst hjn2
                                  have HEj := Lib.hid hEj
                                  clear hEj
                                  go_wp2
                                  go_roundw
                                  case rel => exact ⟨j, by omega, rfl, kj, HEj.out⟩
                                  case measure => simp [intOf]; omega
                    · have hen2 : e = n := by omega
                      subst hen2
                      have Hruns := Lib.hid hruns
                      clear hruns
                      by_cases he8 : k + 8 ≤ e
                      · have he8i : (8 : Int) ≤ (e : Int) - (k : Int) := by omega
                        have hst : St.run W (pre ++ vs.take e) = ⟨v, e - k, 0, [], s.closed W, none⟩ := by
                          rw [Hruns.out.take (by omega) (by rw [← Hn.out]; omega), ← List.append_assoc, run_append, ← Hsd.out, fold_run W v _ s Hr0.out (List.length_eq_zero_iff.1 Hbl.out) (by omega)]
                        have Hst := Lib.hid hst
                        clear hst
                        by_cases hl0 : s.lit = 0
                        · as_aux_lemma =>
                            have hl0i : ((s.lit : Int) != 0) = false := by rw [hl0]; rfl
                            have Hl0 := Lib.hid hl0
                            obtain ⟨q, hq⟩ : ∃ q, q = e - k := ⟨_, rfl⟩
                            obtain ⟨rep2, hrep2⟩ : ∃ x, x = s.rep + q := ⟨_, rfl⟩
                            have hqi : (e : Int) - (k : Int) = (q : Int) := by omega
                            have hM : ¬ 2147483647 - (s.rep : Int) ≤ (q : Int) := by omega
                            have hM2 : (q : Int) < 2147483647 - (s.rep : Int) := by omega
                            have hrep2i : (s.rep : Int) + (q : Int) = (rep2 : Int) := by omega
                            have hk2i : (k : Int) + (q : Int) = (e : Int) := by omega
                            have hre : rep2 = e - k := by have := Hr0.out; omega
                            have Hre := Lib.hid hre
                            have hHE := (EncAt.setCur (show EncAt wr r b p d g L W s.cur s.rep s.lit s.buf s.done s.o from HE.out) v).setRep rep2
                            rw [hre, hl0, List.length_eq_zero_iff.1 Hbl.out, Hok.out.o hl0] at hHE
                            have HHE := Lib.hid hHE
                            clear hq hrep2 hl0 hHE hre
                            go_wp2
                            go_roundw
                            case rel =>
                              refine ⟨e, by omega, rfl, (kk.set (by simp) _ _ _).set (by simp) _ _ _, ?_⟩
                              rw [Hst.out]
                              unfold EncS St.closed
                              rw [if_pos Hl0.out, Hre.out]
                              exact HHE.out
                            case measure => simp [intOf]; omega
                        · as_aux_lemma =>
                            have hl0i : ((s.lit : Int) != 0) = true := by rw [bne_iff_ne]; omega
                            have Hl0 := Lib.hid hl0
                            have hHE := (EncAt.setCur (show EncAt wr r b p d g L W s.cur s.rep s.lit s.buf s.done s.o from HE.out) v).setRep 8
                            rw [List.length_eq_zero_iff.1 Hbl.out] at hHE
                            have hroom := Hok.out.roomL
                            have hlitl := Hok.out.lit
                            have hroom2 : s.done.length + 1 + W * ((s.o.getD []).length + 0) / 8 ≤ L := by
                              have : W * ((s.o.getD []).length + 0) ≤ W * ((s.o.getD []).length + 8) := Nat.mul_le_mul_left _ (by omega)
                              omega
                            have hfl := flushLit true r b p d g L W v 8 s.lit [] s.done s.o _ hHE (by omega) (by simp) hroom2 rfl (by simpa using hlitl) (by omega)
                            have KW : Keep [r, b, d, g] w ((wr.setCell ⟨r, 3, none⟩ (.int .u64 (v : Int))).setCell ⟨r, 4, none⟩ (.int .i32 ((8 : Nat) : Int))) := (kk.set (by simp) _ _ _).set (by simp) _ _ _
                            clear hl0 hHE hroom hlitl hroom2
                            go_wp2_with fail
                            refine hfl.mono ?_
                            rintro e5 w5 ⟨rfl, k5, hE5⟩
                            have hE5 : EncAt w5 r b p d g L W v 8 0 [] (s.done ++ (2 * (s.lit / 8) + 1) :: leBytes (W * s.lit / 8) (packN W (s.o.getD [] ++ []))) none := hE5
                            have K5 : Keep [r, b, d, g] w w5 := KW.trans k5 (by simp)
                            have hE6 : EncS w5 r b p d g L W ⟨v, 8, 0, [], s.closed W, none⟩ := by
                              unfold EncS St.closed
                              rw [if_neg Hl0.out]
                              simpa using hE5
                            clear hfl hE5 k5 KW c1 c3 c4 c5 cf crl
                            obtain ⟨c1, c3, c4, c5, cf, crl⟩ := hE6.cells
                            have HE6 := Lib.hid hE6
                            obtain ⟨k8, hk8'⟩ : ∃ x, x = k + 8 := ⟨_, rfl⟩
                            have hk8i : (k : Int) + 8 = (k8 : Int) := by omega
                            obtain ⟨q, hq⟩ : ∃ q, q = e - k8 := ⟨_, rfl⟩
                            obtain ⟨rep2, hrep2⟩ : ∃ x, x = 8 + q := ⟨_, rfl⟩
                            have hqi : (e : Int) - (k8 : Int) = (q : Int) := by omega
                            have hM : ¬ (2147483639 : Int) ≤ (q : Int) := by omega
                            have hM2 : (q : Int) < 2147483639 := by omega
                            have hrep2i : 8 + (q : Int) = (rep2 : Int) := by omega
                            have hk2i : (k8 : Int) + (q : Int) = (e : Int) := by omega
                            have hre : rep2 = e - k := by omega
                            have Hre := Lib.hid hre
                            have hkb : k8 ≤ 99999 := by omega
                            clear hE6 hk8' hq hrep2 hre
                            go_wp2
                            go_roundw
                            case rel =>
                              refine ⟨e, by omega, rfl, K5.set (by simp) _ _ _, ?_⟩
                              rw [Hst.out]
                              have := EncAt.setRep (show EncAt w5 r b p d g L W v 8 0 [] (s.closed W) none from HE6.out) rep2
                              rw [Hre.out] at this
                              unfold EncS
                              rw [Hre.out]
                              exact this
                            case measure => simp [intOf]; omega
                      · exact absurd he8 (by omega)
                · have hyvi : ((y : Int) == (v : Int)) = false := by rw [beq_eq_false_iff_ne]; omega
                  have hyv2 := hyv
                  clear hr0 hy hyW
                  obtain ⟨X, hX⟩ : ∃ X, X = k + 8 - s.buf.length := ⟨_, rfl⟩
                  have hXi : (k : Int) + 8 - (s.buf.length : Int) = (X : Int) := by omega
                  have hnX : ¬ n < X := by omega
                  by_cases hnX2 : n = X
                  · clear hX hnX
                    rw [← hnX2] at hXi
                    clear hnX2
                    as_aux_lemma =>
                      go_wp2_with fail
                      go_loopw [6] (fun i wr2 => ∃ j : Nat, k ≤ j ∧ j ≤ n ∧ i = .int .i64 (j : Int) ∧ Keep [r, b, d, g] w wr2 ∧ EncS wr2 r b p d g L W (St.run W (pre ++ vs.take j))) (fun i _ => n - (intOf i).toNat)
                      case atStart => exact ⟨k, Nat.le_refl _, by omega, rfl, kk, by rw [← Hsd.out]; exact HE.out⟩
                      case round =>
                        obtain ⟨j, hj1, hj2, rfl, kj, hEj⟩ := hrel
                        by_cases hjn : j < n
                        · have hjn3 : j < n := by omega
                          obtain ⟨y, hy⟩ : ∃ y, vs[j]? = some y := ⟨vs[j]'(by rw [← Hn.out]; exact hjn3), by simp⟩
                          obtain ⟨a2, ha2, hcy⟩ := Hc.out j y hy
                          obtain rfl := Option.some.inj ha2
                          have hcy := kj.cell_some hcy (by simp only [List.mem_cons, List.not_mem_nil, or_false]; exact fun hm => Hblk.out _ hm)
                          have hyW := Hs.out y (List.mem_of_getElem? hy)
                          have hyb : y < 32768 := Nat.lt_of_lt_of_le hyW HW15.out
                          obtain ⟨hokj, hroomj⟩ := HB.out j
                          have hnext : St.run W (pre ++ vs.take (j + 1)) = (St.run W (pre ++ vs.take j)).put W y := by
                            rw [List.take_succ_eq_append_getElem (by rw [← Hn.out]; exact hjn3), ← List.append_assoc, run_snoc]
                            rw [List.getElem?_eq_getElem (by rw [← Hn.out]; exact hjn3)] at hy
                            rw [Option.some.inj hy]
                          have HyW := Lib.hid hyW
                          have Hnext := Lib.hid hnext
                          have HEj := Lib.hid hEj
                          have Hokj := Lib.hid hokj
                          have Hroomj := Lib.hid hroomj
                          clear hyW hnext hEj hokj hroomj hy
                          go_wp2_with fail
                          refine (putC r b p d g L W y _ _ HEj.out Hokj.out HyW.out hW0 (by omega) Hroomj.out).mono ?_
                          rintro e w6 ⟨rfl, k6, hE6⟩
                          have HE6 := Lib.hid hE6
                          clear hE6
                          go_wp2
                          go_roundw
                          case rel => exact ⟨j + 1, by omega, hjn, by go_num, kj.trans k6 (by simp), by rw [Hnext.out]; exact HE6.out⟩
                          case measure => simp [intOf]; omega
                        · have hjn2 : j = n := by omega
                          subst hjn2
                          have HEj := Lib.hid hEj
                          clear hEj
                          go_wp2
                          go_roundw
                          case rel => exact ⟨j, by omega, rfl, kj, HEj.out⟩
                          case measure => simp [intOf]; omega
                  · have hnXi : ¬ (n : Int) < (X : Int) := by omega
                    have hnXi2 : (X : Int) ≤ (n : Int) := by omega
                    have hnXi3 : ¬ (n : Int) ≤ (X : Int) := by omega
                    have hnXi4 : (X : Int) < (n : Int) := by omega
                    have hkX : k < X := by omega
                    clear hX
                    as_aux_lemma =>
                      go_wp2_with fail
                      go_loopw [6] (fun i wr2 => ∃ j : Nat, k ≤ j ∧ j ≤ X ∧ i = .int .i64 (j : Int) ∧ Keep [r, b, d, g] w wr2 ∧ EncS wr2 r b p d g L W (St.run W (pre ++ vs.take j))) (fun i _ => X - (intOf i).toNat)
                      case atStart => exact ⟨k, Nat.le_refl _, by omega, rfl, kk, by rw [← Hsd.out]; exact HE.out⟩
                      case round =>
                        obtain ⟨j, hj1, hj2, rfl, kj, hEj⟩ := hrel
                        by_cases hjn : j < X
                        · have hjn3 : j < n := by omega
                          obtain ⟨y, hy⟩ : ∃ y, vs[j]? = some y := ⟨vs[j]'(by rw [← Hn.out]; exact hjn3), by simp⟩
                          obtain ⟨a2, ha2, hcy⟩ := Hc.out j y hy
                          obtain rfl := Option.some.inj ha2
                          have hcy := kj.cell_some hcy (by simp only [List.mem_cons, List.not_mem_nil, or_false]; exact fun hm => Hblk.out _ hm)
                          have hyW := Hs.out y (List.mem_of_getElem? hy)
                          have hyb : y < 32768 := Nat.lt_of_lt_of_le hyW HW15.out
                          obtain ⟨hokj, hroomj⟩ := HB.out j
                          have hnext : St.run W (pre ++ vs.take (j + 1)) = (St.run W (pre ++ vs.take j)).put W y := by
                            rw [List.take_succ_eq_append_getElem (by rw [← Hn.out]; exact hjn3), ← List.append_assoc, run_snoc]
                            rw [List.getElem?_eq_getElem (by rw [← Hn.out]; exact hjn3)] at hy
                            rw [Option.some.inj hy]
                          have HyW := Lib.hid hyW
                          have Hnext := Lib.hid hnext
                          have HEj := Lib.hid hEj
                          have Hokj := Lib.hid hokj
                          have Hroomj := Lib.hid hroomj
                          clear hyW hnext hEj hokj hroomj hy
                          go_wp2_with fail
                          refine (putC r b p d g L W y _ _ HEj.out Hokj.out HyW.out hW0 (by omega) Hroomj.out).mono ?_
                          rintro e w6 ⟨rfl, k6, hE6⟩
                          have HE6 := Lib.hid hE6
                          clear hE6
                          go_wp2
                          go_roundw
                          case rel => exact ⟨j + 1, by omega, hjn, by go_num, kj.trans k6 (by simp), by rw [Hnext.out]; exact HE6.out⟩
                          case measure => simp [intOf]; omega
                        · have hjn2 : j = X := by omega
                          subst hjn2
                          have HEj := Lib.hid hEj
                          clear hEj
                          go_wp2
                          go_roundw
                          case rel => exact ⟨j, by omega, rfl, kj, HEj.out⟩
                          case measure => simp [intOf]; omega
              · have hk8i : ¬ (8 : Int) ≤ (n : Int) - (k : Int) := by omega
                clear hr0
                obtain ⟨X, hX⟩ : ∃ X, X = k + 8 - s.buf.length := ⟨_, rfl⟩
                have hXi : (k : Int) + 8 - (s.buf.length : Int) = (X : Int) := by omega
                have hnX : n < X := by omega
                have hnXi : (n : Int) < (X : Int) := by omega
                have hnXi2 : ¬ (X : Int) ≤ (n : Int) := by omega
                have hnXi3 : (n : Int) ≤ (X : Int) := by omega
                clear hX
                as_aux_lemma =>
                  go_wp2_with fail
                  go_loopw [6] (fun i wr2 => ∃ j : Nat, k ≤ j ∧ j ≤ n ∧ i = .int .i64 (j : Int) ∧ Keep [r, b, d, g] w wr2 ∧ EncS wr2 r b p d g L W (St.run W (pre ++ vs.take j))) (fun i _ => n - (intOf i).toNat)
                  case atStart => exact ⟨k, Nat.le_refl _, by omega, rfl, kk, by rw [← Hsd.out]; exact HE.out⟩
                  case round =>
                    obtain ⟨j, hj1, hj2, rfl, kj, hEj⟩ := hrel
                    by_cases hjn : j < n
                    · have hjn3 : j < n := by omega
                      obtain ⟨y, hy⟩ : ∃ y, vs[j]? = some y := ⟨vs[j]'(by rw [← Hn.out]; exact hjn3), by simp⟩
                      obtain ⟨a2, ha2, hcy⟩ := Hc.out j y hy
                      obtain rfl := Option.some.inj ha2
                      have hcy := kj.cell_some hcy (by simp only [List.mem_cons, List.not_mem_nil, or_false]; exact fun hm => Hblk.out _ hm)
                      have hyW := Hs.out y (List.mem_of_getElem? hy)
                      have hyb : y < 32768 := Nat.lt_of_lt_of_le hyW HW15.out
                      obtain ⟨hokj, hroomj⟩ := HB.out j
                      have hnext : St.run W (pre ++ vs.take (j + 1)) = (St.run W (pre ++ vs.take j)).put W y := by
                        rw [List.take_succ_eq_append_getElem (by rw [← Hn.out]; exact hjn3), ← List.append_assoc, run_snoc]
                        rw [List.getElem?_eq_getElem (by rw [← Hn.out]; exact hjn3)] at hy
                        rw [Option.some.inj hy]
                      have HyW := Lib.hid hyW
                      have Hnext := Lib.hid hnext
                      have HEj := Lib.hid hEj
                      have Hokj := Lib.hid hokj
                      have Hroomj := Lib.hid hroomj
                      clear hyW hnext hEj hokj hroomj hy
                      go_wp2_with fail
                      refine (putC r b p d g L W y _ _ HEj.out Hokj.out HyW.out hW0 (by omega) Hroomj.out).mono ?_
                      rintro e w6 ⟨rfl, k6, hE6⟩
                      have HE6 := Lib.hid hE6
                      clear hE6
                      go_wp2
                      go_roundw
                      case rel => exact ⟨j + 1, by omega, hjn, by go_num, kj.trans k6 (by simp), by rw [Hnext.out]; exact HE6.out⟩
                      case measure => simp [intOf]; omega
                    · have hjn2 : j = n := by omega
                      subst hjn2
                      have HEj := Lib.hid hEj
                      clear hEj
                      go_wp2
                      go_roundw
                      case rel => exact ⟨j, by omega, rfl, kj, HEj.out⟩
                      case measure => simp [intOf]; omega
            · have hbli : ((s.buf.length : Int) == 0) = false := by rw [beq_eq_false_iff_ne]; omega
              clear hr0
              obtain ⟨X, hX⟩ : ∃ X, X = k + 8 - s.buf.length := ⟨_, rfl⟩
              have hXi : (k : Int) + 8 - (s.buf.length : Int) = (X : Int) := by omega
              by_cases hnX : n < X
              · have hnXi : (n : Int) < (X : Int) := by omega
                have hnXi2 : ¬ (X : Int) ≤ (n : Int) := by omega
                have hnXi3 : (n : Int) ≤ (X : Int) := by omega
                clear hX
                as_aux_lemma =>
                  go_wp2_with fail
                  go_loopw [6] (fun i wr2 => ∃ j : Nat, k ≤ j ∧ j ≤ n ∧ i = .int .i64 (j : Int) ∧ Keep [r, b, d, g] w wr2 ∧ EncS wr2 r b p d g L W (St.run W (pre ++ vs.take j))) (fun i _ => n - (intOf i).toNat)
                  case atStart => exact ⟨k, Nat.le_refl _, by omega, rfl, kk, by rw [← Hsd.out]; exact HE.out⟩
                  case round =>
                    obtain ⟨j, hj1, hj2, rfl, kj, hEj⟩ := hrel
                    by_cases hjn : j < n
                    · have hjn3 : j < n := by omega
                      obtain ⟨y, hy⟩ : ∃ y, vs[j]? = some y := ⟨vs[j]'(by rw [← Hn.out]; exact hjn3), by simp⟩
                      obtain ⟨a2, ha2, hcy⟩ := Hc.out j y hy
                      obtain rfl := Option.some.inj ha2
                      have hcy := kj.cell_some hcy (by simp only [List.mem_cons, List.not_mem_nil, or_false]; exact fun hm => Hblk.out _ hm)
                      have hyW := Hs.out y (List.mem_of_getElem? hy)
                      have hyb : y < 32768 := Nat.lt_of_lt_of_le hyW HW15.out
                      obtain ⟨hokj, hroomj⟩ := HB.out j
                      have hnext : St.run W (pre ++ vs.take (j + 1)) = (St.run W (pre ++ vs.take j)).put W y := by
                        rw [List.take_succ_eq_append_getElem (by rw [← Hn.out]; exact hjn3), ← List.append_assoc, run_snoc]
                        rw [List.getElem?_eq_getElem (by rw [← Hn.out]; exact hjn3)] at hy
                        rw [Option.some.inj hy]
                      have HyW := Lib.hid hyW
                      have Hnext := Lib.hid hnext
                      have HEj := Lib.hid hEj
                      have Hokj := Lib.hid hokj
                      have Hroomj := Lib.hid hroomj
                      clear hyW hnext hEj hokj hroomj hy
                      go_wp2_with fail
                      refine (putC r b p d g L W y _ _ HEj.out Hokj.out HyW.out hW0 (by omega) Hroomj.out).mono ?_
                      rintro e w6 ⟨rfl, k6, hE6⟩
                      have HE6 := Lib.hid hE6
                      clear hE6
                      go_wp2
                      go_roundw
                      case rel => exact ⟨j + 1, by omega, hjn, by go_num, kj.trans k6 (by simp), by rw [Hnext.out]; exact HE6.out⟩
                      case measure => simp [intOf]; omega
                    · have hjn2 : j = n := by omega
                      subst hjn2
                      have HEj := Lib.hid hEj
                      clear hEj
                      go_wp2
                      go_roundw
                      case rel => exact ⟨j, by omega, rfl, kj, HEj.out⟩
                      case measure => simp [intOf]; omega
              · by_cases hnX2 : n = X
                · clear hX hnX
                  rw [← hnX2] at hXi
                  clear hnX2
                  as_aux_lemma =>
                    go_wp2_with fail
                    go_loopw [6] (fun i wr2 => ∃ j : Nat, k ≤ j ∧ j ≤ n ∧ i = .int .i64 (j : Int) ∧ Keep [r, b, d, g] w wr2 ∧ EncS wr2 r b p d g L W (St.run W (pre ++ vs.take j))) (fun i _ => n - (intOf i).toNat)
                    case atStart => exact ⟨k, Nat.le_refl _, by omega, rfl, kk, by rw [← Hsd.out]; exact HE.out⟩
                    case round =>
                      obtain ⟨j, hj1, hj2, rfl, kj, hEj⟩ := hrel
                      by_cases hjn : j < n
                      · have hjn3 : j < n := by omega
                        obtain ⟨y, hy⟩ : ∃ y, vs[j]? = some y := ⟨vs[j]'(by rw [← Hn.out]; exact hjn3), by simp⟩
                        obtain ⟨a2, ha2, hcy⟩ := Hc.out j y hy
                        obtain rfl := Option.some.inj ha2
                        have hcy := kj.cell_some hcy (by simp only [List.mem_cons, List.not_mem_nil, or_false]; exact fun hm => Hblk.out _ hm)
                        have hyW := Hs.out y (List.mem_of_getElem? hy)
                        have hyb : y < 32768 := Nat.lt_of_lt_of_le hyW HW15.out
                        obtain ⟨hokj, hroomj⟩ := HB.out j
                        have hnext : St.run W (pre ++ vs.take (j + 1)) = (St.run W (pre ++ vs.take j)).put W y := by
                          rw [List.take_succ_eq_append_getElem (by rw [← Hn.out]; exact hjn3), ← List.append_assoc, run_snoc]
                          rw [List.getElem?_eq_getElem (by rw [← Hn.out]; exact hjn3)] at hy
                          rw [Option.some.inj hy]
                        have HyW := Lib.hid hyW
                        have Hnext := Lib.hid hnext
                        have HEj := Lib.hid hEj
                        have Hokj := Lib.hid hokj
                        have Hroomj := Lib.hid hroomj
                        clear hyW hnext hEj hokj hroomj hy
                        go_wp2_with fail
                        refine (putC r b p d g L W y _ _ HEj.out Hokj.out HyW.out hW0 (by omega) Hroomj.out).mono ?_
                        rintro e w6 ⟨rfl, k6, hE6⟩
                        have HE6 := Lib.hid hE6
                        clear hE6
                        go_wp2
                        go_roundw
                        case rel => exact ⟨j + 1, by omega, hjn, by go_num, kj.trans k6 (by simp), by rw [Hnext.out]; exact HE6.out⟩
                        case measure => simp [intOf]; omega
                      · have hjn2 : j = n := by omega
                        subst hjn2
                        have HEj := Lib.hid hEj
                        clear hEj
                        go_wp2
                        go_roundw
                        case rel => exact ⟨j, by omega, rfl, kj, HEj.out⟩
                        case measure => simp [intOf]; omega
                · have hnXi : ¬ (n : Int) < (X : Int) := by omega
                  have hnXi2 : (X : Int) ≤ (n : Int) := by omega
                  have hnXi3 : ¬ (n : Int) ≤ (X : Int) := by omega
                  have hnXi4 : (X : Int) < (n : Int) := by omega
                  have hkX : k < X := by omega
                  clear hX
                  as_aux_lemma =>
                    go_wp2_with fail
                    go_loopw [6] (fun i wr2 => ∃ j : Nat, k ≤ j ∧ j ≤ X ∧ i = .int .i64 (j : Int) ∧ Keep [r, b, d, g] w wr2 ∧ EncS wr2 r b p d g L W (St.run W (pre ++ vs.take j))) (fun i _ => X - (intOf i).toNat)
                    case atStart => exact ⟨k, Nat.le_refl _, by omega, rfl, kk, by rw [← Hsd.out]; exact HE.out⟩
                    case round =>
                      obtain ⟨j, hj1, hj2, rfl, kj, hEj⟩ := hrel
                      by_cases hjn : j < X
                      · have hjn3 : j < n := by omega
                        obtain ⟨y, hy⟩ : ∃ y, vs[j]? = some y := ⟨vs[j]'(by rw [← Hn.out]; exact hjn3), by simp⟩
                        obtain ⟨a2, ha2, hcy⟩ := Hc.out j y hy
                        obtain rfl := Option.some.inj ha2
                        have hcy := kj.cell_some hcy (by simp only [List.mem_cons, List.not_mem_nil, or_false]; exact fun hm => Hblk.out _ hm)
                        have hyW := Hs.out y (List.mem_of_getElem? hy)
                        have hyb : y < 32768 := Nat.lt_of_lt_of_le hyW HW15.out
                        obtain ⟨hokj, hroomj⟩ := HB.out j
                        have hnext : St.run W (pre ++ vs.take (j + 1)) = (St.run W (pre ++ vs.take j)).put W y := by
                          rw [List.take_succ_eq_append_getElem (by rw [← Hn.out]; exact hjn3), ← List.append_assoc, run_snoc]
                          rw [List.getElem?_eq_getElem (by rw [← Hn.out]; exact hjn3)] at hy
                          rw [Option.some.inj hy]
                        have HyW := Lib.hid hyW
                        have Hnext := Lib.hid hnext
                        have HEj := Lib.hid hEj
                        have Hokj := Lib.hid hokj
                        have Hroomj := Lib.hid hroomj
                        clear hyW hnext hEj hokj hroomj hy
                        go_wp2_with fail
                        refine (putC r b p d g L W y _ _ HEj.out Hokj.out HyW.out hW0 (by omega) Hroomj.out).mono ?_
                        rintro e w6 ⟨rfl, k6, hE6⟩
                        have HE6 := Lib.hid hE6
                        clear hE6
                        go_wp2
                        go_roundw
                        case rel => exact ⟨j + 1, by omega, hjn, by go_num, kj.trans k6 (by simp), by rw [Hnext.out]; exact HE6.out⟩
                        case measure => simp [intOf]; omega
                      · have hjn2 : j = X := by omega
                        subst hjn2
                        have HEj := Lib.hid hEj
                        clear hEj
                        go_wp2
                        go_roundw
                        case rel => exact ⟨j, by omega, rfl, kj, HEj.out⟩
                        case measure => simp [intOf]; omega
          · have hr0i : ((s.rep : Int) == 0) = false := by simp; omega
            obtain ⟨X, hX⟩ : ∃ X, X = k + 8 - s.buf.length := ⟨_, rfl⟩
            have hXi : (k : Int) + 8 - (s.buf.length : Int) = (X : Int) := by omega
            by_cases hnX : n < X
            · have hnXi : (n : Int) < (X : Int) := by omega
              have hnXi2 : ¬ (X : Int) ≤ (n : Int) := by omega
              have hnXi3 : (n : Int) ≤ (X : Int) := by omega
              clear hX
              as_aux_lemma =>
                go_wp2_with fail
                go_loopw [6] (fun i wr2 => ∃ j : Nat, k ≤ j ∧ j ≤ n ∧ i = .int .i64 (j : Int) ∧ Keep [r, b, d, g] w wr2 ∧ EncS wr2 r b p d g L W (St.run W (pre ++ vs.take j))) (fun i _ => n - (intOf i).toNat)
                case atStart => exact ⟨k, Nat.le_refl _, by omega, rfl, kk, by rw [← Hsd.out]; exact HE.out⟩
                case round =>
                  obtain ⟨j, hj1, hj2, rfl, kj, hEj⟩ := hrel
                  by_cases hjn : j < n
                  · have hjn3 : j < n := by omega
                    obtain ⟨y, hy⟩ : ∃ y, vs[j]? = some y := ⟨vs[j]'(by rw [← Hn.out]; exact hjn3), by simp⟩
                    obtain ⟨a2, ha2, hcy⟩ := Hc.out j y hy
                    obtain rfl := Option.some.inj ha2
                    have hcy := kj.cell_some hcy (by simp only [List.mem_cons, List.not_mem_nil, or_false]; exact fun hm => Hblk.out _ hm)
                    have hyW := Hs.out y (List.mem_of_getElem? hy)
                    have hyb : y < 32768 := Nat.lt_of_lt_of_le hyW HW15.out
                    obtain ⟨hokj, hroomj⟩ := HB.out j
                    have hnext : St.run W (pre ++ vs.take (j + 1)) = (St.run W (pre ++ vs.take j)).put W y := by
                      rw [List.take_succ_eq_append_getElem (by rw [← Hn.out]; exact hjn3), ← List.append_assoc, run_snoc]
                      rw [List.getElem?_eq_getElem (by rw [← Hn.out]; exact hjn3)] at hy
                      rw [Option.some.inj hy]
                    have HyW := Lib.hid hyW
                    have Hnext := Lib.hid hnext
                    have HEj := Lib.hid hEj
                    have Hokj := Lib.hid hokj
                    have Hroomj := Lib.hid hroomj
                    clear hyW hnext hEj hokj hroomj hy
                    go_wp2_with fail
                    refine (putC r b p d g L W y _ _ HEj.out Hokj.out HyW.out hW0 (by omega) Hroomj.out).mono ?_
                    rintro e w6 ⟨rfl, k6, hE6⟩
                    have HE6 := Lib.hid hE6
                    clear hE6
                    go_wp2
                    go_roundw
                    case rel => exact ⟨j + 1, by omega, hjn, by go_num, kj.trans k6 (by simp), by rw [Hnext.out]; exact HE6.out⟩
                    case measure => simp [intOf]; omega
                  · have hjn2 : j = n := by omega
                    subst hjn2
                    have HEj := Lib.hid hEj
                    clear hEj
                    go_wp2
                    go_roundw
                    case rel => exact ⟨j, by omega, rfl, kj, HEj.out⟩
                    case measure => simp [intOf]; omega
            · by_cases hnX2 : n = X
              · clear hX hnX
                rw [← hnX2] at hXi
                clear hnX2
                as_aux_lemma =>
                  go_wp2_with fail
                  go_loopw [6] (fun i wr2 => ∃ j : Nat, k ≤ j ∧ j ≤ n ∧ i = .int .i64 (j : Int) ∧ Keep [r, b, d, g] w wr2 ∧ EncS wr2 r b p d g L W (St.run W (pre ++ vs.take j))) (fun i _ => n - (intOf i).toNat)
                  case atStart => exact ⟨k, Nat.le_refl _, by omega, rfl, kk, by rw [← Hsd.out]; exact HE.out⟩
                  case round =>
                    obtain ⟨j, hj1, hj2, rfl, kj, hEj⟩ := hrel
                    by_cases hjn : j < n
                    · have hjn3 : j < n := by omega
                      obtain ⟨y, hy⟩ : ∃ y, vs[j]? = some y := ⟨vs[j]'(by rw [← Hn.out]; exact hjn3), by simp⟩
                      obtain ⟨a2, ha2, hcy⟩ := Hc.out j y hy
                      obtain rfl := Option.some.inj ha2
                      have hcy := kj.cell_some hcy (by simp only [List.mem_cons, List.not_mem_nil, or_false]; exact fun hm => Hblk.out _ hm)
                      have hyW := Hs.out y (List.mem_of_getElem? hy)
                      have hyb : y < 32768 := Nat.lt_of_lt_of_le hyW HW15.out
                      obtain ⟨hokj, hroomj⟩ := HB.out j
                      have hnext : St.run W (pre ++ vs.take (j + 1)) = (St.run W (pre ++ vs.take j)).put W y := by
                        rw [List.take_succ_eq_append_getElem (by rw [← Hn.out]; exact hjn3), ← List.append_assoc, run_snoc]
                        rw [List.getElem?_eq_getElem (by rw [← Hn.out]; exact hjn3)] at hy
                        rw [Option.some.inj hy]
                      have HyW := Lib.hid hyW
                      have Hnext := Lib.hid hnext
                      have HEj := Lib.hid hEj
                      have Hokj := Lib.hid hokj
                      have Hroomj := Lib.hid hroomj
                      clear hyW hnext hEj hokj hroomj hy
                      go_wp2_with fail
                      refine (putC r b p d g L W y _ _ HEj.out Hokj.out HyW.out hW0 (by omega) Hroomj.out).mono ?_
                      rintro e w6 ⟨rfl, k6, hE6⟩
                      have HE6 := Lib.hid hE6
                      clear hE6
                      go_wp2
                      go_roundw
                      case rel => exact ⟨j + 1, by omega, hjn, by go_num, kj.trans k6 (by simp), by rw [Hnext.out]; exact HE6.out⟩
                      case measure => simp [intOf]; omega
                    · have hjn2 : j = n := by omega
                      subst hjn2
                      have HEj := Lib.hid hEj
                      clear hEj
                      go_wp2
                      go_roundw
                      case rel => exact ⟨j, by omega, rfl, kj, HEj.out⟩
                      case measure => simp [intOf]; omega
              · have hnXi : ¬ (n : Int) < (X : Int) := by omega
                have hnXi2 : (X : Int) ≤ (n : Int) := by omega
                have hnXi3 : ¬ (n : Int) ≤ (X : Int) := by omega
                have hnXi4 : (X : Int) < (n : Int) := by omega
                have hkX : k < X := by omega
                clear hX
                as_aux_lemma =>
                  go_wp2_with fail
                  go_loopw [6] (fun i wr2 => ∃ j : Nat, k ≤ j ∧ j ≤ X ∧ i = .int .i64 (j : Int) ∧ Keep [r, b, d, g] w wr2 ∧ EncS wr2 r b p d g L W (St.run W (pre ++ vs.take j))) (fun i _ => X - (intOf i).toNat)
                  case atStart => exact ⟨k, Nat.le_refl _, by omega, rfl, kk, by rw [← Hsd.out]; exact HE.out⟩
                  case round =>
                    obtain ⟨j, hj1, hj2, rfl, kj, hEj⟩ := hrel
                    by_cases hjn : j < X
                    · have hjn3 : j < n := by omega
                      obtain ⟨y, hy⟩ : ∃ y, vs[j]? = some y := ⟨vs[j]'(by rw [← Hn.out]; exact hjn3), by simp⟩
                      obtain ⟨a2, ha2, hcy⟩ := Hc.out j y hy
                      obtain rfl := Option.some.inj ha2
                      have hcy := kj.cell_some hcy (by simp only [List.mem_cons, List.not_mem_nil, or_false]; exact fun hm => Hblk.out _ hm)
                      have hyW := Hs.out y (List.mem_of_getElem? hy)
                      have hyb : y < 32768 := Nat.lt_of_lt_of_le hyW HW15.out
                      obtain ⟨hokj, hroomj⟩ := HB.out j
                      have hnext : St.run W (pre ++ vs.take (j + 1)) = (St.run W (pre ++ vs.take j)).put W y := by
                        rw [List.take_succ_eq_append_getElem (by rw [← Hn.out]; exact hjn3), ← List.append_assoc, run_snoc]
                        rw [List.getElem?_eq_getElem (by rw [← Hn.out]; exact hjn3)] at hy
                        rw [Option.some.inj hy]
                      have HyW := Lib.hid hyW
                      have Hnext := Lib.hid hnext
                      have HEj := Lib.hid hEj
                      have Hokj := Lib.hid hokj
                      have Hroomj := Lib.hid hroomj
                      clear hyW hnext hEj hokj hroomj hy
                      go_wp2_with fail
                      refine (putC r b p d g L W y _ _ HEj.out Hokj.out HyW.out hW0 (by omega) Hroomj.out).mono ?_
                      rintro e w6 ⟨rfl, k6, hE6⟩
                      have HE6 := Lib.hid hE6
                      clear hE6
                      go_wp2
                      go_roundw
                      case rel => exact ⟨j + 1, by omega, hjn, by go_num, kj.trans k6 (by simp), by rw [Hnext.out]; exact HE6.out⟩
                      case measure => simp [intOf]; omega
                    · have hjn2 : j = X := by omega
                      subst hjn2
                      have HEj := Lib.hid hEj
                      clear hEj
                      go_wp2
                      go_roundw
                      case rel => exact ⟨j, by omega, rfl, kj, HEj.out⟩
                      case measure => simp [intOf]; omega
    · have hkn : k = n := by omega
      subst hkn
      have HE := Lib.hid hE
      clear hE
      go_wp2
      go_ret2
      refine ⟨rfl, kk, ?_⟩
      have := HE.out
      rwa [List.take_of_length_le (by rw [← Hn.out]; exact Nat.le_refl _)] at this
end Go.Proofs.YtlolcgklcnechaaGreatDoor
