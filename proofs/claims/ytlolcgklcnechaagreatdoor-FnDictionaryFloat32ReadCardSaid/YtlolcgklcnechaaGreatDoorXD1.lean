/- bytes.Reader. binary.LittleEndian's numbers, memory.Set, io.ReadFull. (The first part printed by gen_le.py.) -/
import Derived.Test.YtlolcgklcnechaaGreatDoorW7
import Derived.IntWalk
import Derived.ArgAppend
import Derived.Recover
import Derived.Deep.RegionWith
import Derived.Deep.OwnRows
set_option linter.unusedVariables false
namespace Go.Proofs.YtlolcgklcnechaaGreatDoor
open Go.RowKit

/-- Where a bytes.Reader stands: a block, and what lies before it and behind it there. -/
structure XP where
  b : Nat
  pre : List Value
  post : List Value

def XP.o (x : XP) : Nat := x.pre.length

instance : Coe XP Nat := ⟨XP.b⟩

/-- There stand these cells. -/
def Rd (w : World) (x : XP) (l : List Value) : Prop := Blk w x.b (x.pre ++ l ++ x.post)

theorem Rd.of_blk {w : World} {b : Nat} {l : List Value} (h : Blk w b l) : Rd w ⟨b, [], []⟩ l := by unfold Rd; simpa using h
theorem Rd.blk {w : World} {x : XP} {l : List Value} (h : Rd w x l) : Blk w x.b (x.pre ++ l ++ x.post) := h
theorem Rd.lt {w : World} {x : XP} {l : List Value} (h : Rd w x l) : x.b < w.heap.size := Blk.lt h
theorem Rd.cell {w : World} {x : XP} {l : List Value} (h : Rd w x l) {i : Nat} {v : Value} (e : l[i]? = some v) : w.cell? ⟨x.b, x.o + i, none⟩ = some v := by
  refine Blk.cell h ?_
  have hi := (List.getElem?_eq_some_iff.1 e).1
  unfold XP.o
  rw [List.append_assoc, List.getElem?_append_right (by omega), Nat.add_sub_cancel_left, List.getElem?_append_left hi]
  exact e
theorem Rd.c0 {w : World} {x : XP} {l : List Value} {v : Value} (h : Rd w x (v :: l)) : w.cell? ⟨x.b, x.o, none⟩ = some v := h.cell (i := 0) rfl
theorem Rd.unfrozen {w : World} {x : XP} {l : List Value} (h : Rd w x l) : ∀ i, w.frozen? ⟨x.b, i, none⟩ = false := Blk.unfrozen h
theorem Rd.drew {w : World} {x : XP} {l : List Value} (h : Rd w x l) : Rd w.drew x l := h
theorem Rd.drewN {w : World} {x : XP} {l : List Value} (h : Rd w x l) (n : Nat) : Rd (w.drewN n) x l := h
theorem Rd.alloc {w : World} {x : XP} {l : List Value} (h : Rd w x l) (o : Obj) : Rd (w.alloc o) x l := Blk.alloc h o
theorem Rd.keep {S : List Nat} {w w' : World} {x : XP} {l : List Value} (h : Rd w x l) (k : Keep S w w') (hn : x.b ∉ S) : Rd w' x l := Blk.keep h k hn
theorem Rd.set_other {w : World} {x : XP} {c : Nat} {l : List Value} (h : Rd w x l) (hne : x.b ≠ c) (i : Nat) (s : Option Nat) (v : Value) : Rd (w.setCell ⟨c, i, s⟩ v) x l := Blk.set_other h hne i s v
theorem Rd.set {w : World} {x : XP} {l : List Value} (h : Rd w x l) (i : Nat) (v : Value) (hi : i < l.length := by simp) : Rd (w.setCell ⟨x.b, x.o + i, none⟩ v) x (l.set i v) := by
  have := Blk.set h (x.o + i) v
  unfold Rd
  unfold XP.o at this ⊢
  rw [List.append_assoc, List.set_append_right _ _ (by omega), Nat.add_sub_cancel_left, List.set_append_left _ _ hi, ← List.append_assoc] at this
  exact this

/-- io.EOF holds an error, told by its address. -/
def Eof (w : World) (ea : Addr) : Prop := w.cell? ⟨4, 0, none⟩ = some (.iface 238 (.pointer (some ea)))

theorem Eof.keep {S : List Nat} {w w' : World} {ea : Addr} (h : Eof w ea) (k : Keep S w w') (hn : 4 ∉ S) : Eof w' ea := k.cell_some h hn
theorem Eof.lt {w : World} {ea : Addr} (h : Eof w ea) : 4 < w.heap.size := World.block_lt_of_cell? _ _ h

/-- The bytes that a bytes.Reader reads: n bytes at d from o on. -/
structure BytesAt (w : World) (d o n cap : Nat) (D : List Nat) : Prop where
  hd : ∃ cs, Blk w d cs ∧ o + n ≤ cs.length ∧ (cs.drop o).take n = rowV .u8 D ∧ ∀ v ∈ cs, v.oneCell' = true
  len : n ≤ cap
  cap : n ≤ 1099511627776
  dl : D.length = n
  bytes : ∀ y ∈ D, y < 256

theorem BytesAt.keep {S : List Nat} {w w' : World} {d o n cap : Nat} {D : List Nat} (h : BytesAt w d o n cap D) (k : Keep S w w') (hd : d ∉ S) : BytesAt w' d o n cap D := by
  obtain ⟨⟨cs, h2, h3, h4, h5⟩, h7, h8, h9, h10⟩ := h
  exact ⟨⟨cs, h2.keep k hd, h3, h4, h5⟩, h7, h8, h9, h10⟩

theorem take_drop_of {α : Type} {cs D : List α} {o n off k : Nat} (h : (cs.drop o).take n = D) (hk : off + k ≤ n) : (cs.drop (o + off)).take k = (D.drop off).take k := by
  rw [← h, List.drop_take, List.take_take, List.drop_drop, Nat.min_eq_left (by omega)]

set_option maxRecDepth 100000 in
set_option maxHeartbeats 400000 in
/-- ReadAt: what is there is read; io.EOF where that is less than asked. -/
theorem readAt_some (x : XP) (d o n cap q qo m mcap off : Nat) (pos pr : Int) (D : List Nat) (qcs : List Value) (ea : Addr) (k : Nat) (w : World)
    (hx : Rd w x [.slice (some ⟨d, o, none⟩) n cap, .int .i64 pos, .int .i64 pr]) (hD : BytesAt w d o n cap D) (hq : Blk w q qcs) (hE : Eof w ea)
    (hqd : q ≠ d) (hqx : q ≠ x.b) (hqe : q ≠ 4) (hqo : qo + m ≤ qcs.length) (hm : m ≤ mcap) (hoff : off < n) (hk : k = min m (n - off)) :
    Calls Tryz.prog 267 #[.pointer (some ⟨x.b, x.o, none⟩), .slice (some ⟨q, qo, none⟩) m mcap, .int .i64 (off : Int)] w fun e w' =>
      e = .returned (.tuple #[.int .i64 (k : Int), if k < m then .iface 238 (.pointer (some ea)) else .nilIface]) ∧ Keep [q] w w' ∧ Blk w' q (splice qcs qo (rowV .u8 ((D.drop off).take k))) := by
  obtain ⟨⟨cs, hd, hcl, hcD, h1⟩, hlen, hcap, hdl, hby⟩ := hD
  have hcp := fun ty => run_copy_blk (P := Tryz.prog) hq hd 28 28 ty 5 qo (o + off) m mcap (n - off) (cap - off) Tryz.underlying28 (by kernel_rfl) k (by rw [hk]; exact Nat.min_comm _ _) (by omega) (by omega) h1
  rw [take_drop_of hcD (by omega), ← rowV_drop, ← rowV_take] at hcp
  have hkl : (rowV .u8 ((D.drop off).take k)).length = k := by simp; omega
  obtain ⟨R, hR⟩ : ∃ R, R = rowV .u8 ((D.drop off).take k) := ⟨_, rfl⟩
  rw [← hR] at hcp hkl ⊢
  have hc := hx.c0
  have hlt : (off : Int) ≤ (n : Int) := by omega
  have hlt2 : ¬ (n : Int) < (off : Int) := by omega
  have hlt3 : ¬ (n : Int) ≤ (off : Int) := by omega
  have hne : ¬ cap = off := by omega
  have hE2 : (w.setCells q qo R).cell? ⟨4, 0, none⟩ = some (.iface 238 (.pointer (some ea))) :=
    (Keep.setCells (S := [q]) (by simp) (Keep.refl [q] w)).cell_some hE (by simp; exact Ne.symm hqe)
  have hkm : k ≤ m := by omega
  have H : Hid (Keep [q] w w) := Lib.hid (Keep.refl _ _)
  have HB : Hid (Blk w q qcs) := Lib.hid hq
  have HL := Lib.hid hkl
  clear hd hq hE hR hcD hkl hk hcl h1 hdl hx
  by_cases hkm2 : k < m
  · have hkm3 : (k : Int) < (m : Int) := by omega
    rw [if_pos hkm2]
    go_enter Tryz.func267, Tryz.ntmps267
    go_wp2
    go_ret2
    exact ⟨rfl, Keep.setCells (by simp) H.out, HB.out.setCells (by rw [HL.out]; omega)⟩
  · have hkm3 : ¬ (k : Int) < (m : Int) := by omega
    rw [if_neg hkm2]
    go_enter Tryz.func267, Tryz.ntmps267
    go_wp2
    go_ret2
    exact ⟨rfl, Keep.setCells (by simp) H.out, HB.out.setCells (by rw [HL.out]; omega)⟩

set_option maxRecDepth 100000 in
theorem readAt_none (x : XP) (d o n cap q qo m mcap off : Nat) (pos pr : Int) (ea : Addr) (w : World)
    (hx : Rd w x [.slice (some ⟨d, o, none⟩) n cap, .int .i64 pos, .int .i64 pr]) (hE : Eof w ea) (hoff : n ≤ off) :
    Calls Tryz.prog 267 #[.pointer (some ⟨x.b, x.o, none⟩), .slice (some ⟨q, qo, none⟩) m mcap, .int .i64 (off : Int)] w fun e w' =>
      e = .returned (.tuple #[.int .i64 0, .iface 238 (.pointer (some ea))]) ∧ ∃ k, w' = w.drewN k := by
  have hc := hx.c0
  have hE' : w.cell? ⟨4, 0, none⟩ = some (.iface 238 (.pointer (some ea))) := hE
  have hlt : (n : Int) ≤ (off : Int) := by omega
  clear hx hE
  go_enter Tryz.func267, Tryz.ntmps267
  go_wp2_with fail
  go_quiet (fail)
  go_wp2
  go_ret2
  exact ⟨rfl, _, rfl⟩

/-- ReadAt, whatever lies there. -/
theorem readAt (x : XP) (d o n cap q qo m mcap off : Nat) (pos pr : Int) (D : List Nat) (qcs : List Value) (ea : Addr) (k : Nat) (w : World)
    (hx : Rd w x [.slice (some ⟨d, o, none⟩) n cap, .int .i64 pos, .int .i64 pr]) (hD : BytesAt w d o n cap D) (hq : Blk w q qcs) (hE : Eof w ea)
    (hqd : q ≠ d) (hqx : q ≠ x.b) (hqe : q ≠ 4) (hqo : qo + m ≤ qcs.length) (hm : m ≤ mcap) (hm0 : 0 < m) (hk : k = min m (n - off)) :
    Calls Tryz.prog 267 #[.pointer (some ⟨x.b, x.o, none⟩), .slice (some ⟨q, qo, none⟩) m mcap, .int .i64 (off : Int)] w fun e w' =>
      e = .returned (.tuple #[.int .i64 (k : Int), if k < m then .iface 238 (.pointer (some ea)) else .nilIface]) ∧ Keep [q] w w' ∧ Blk w' q (splice qcs qo (rowV .u8 ((D.drop off).take k))) := by
  rcases Nat.lt_or_ge off n with h | h
  · exact readAt_some x d o n cap q qo m mcap off pos pr D qcs ea k w hx hD hq hE hqd hqx hqe hqo hm h hk
  · refine (readAt_none x d o n cap q qo m mcap off pos pr ea w hx hE h).mono ?_
    rintro e w' ⟨rfl, j, rfl⟩
    have : k = 0 := by omega
    subst this
    rw [if_pos hm0]
    refine ⟨rfl, (Keep.refl _ _).drewN _, ?_⟩
    simpa [splice, rowV] using hq.drewN j

set_option maxRecDepth 100000 in
theorem seekC (x : XP) (pos : Nat) (sl : Value) (p0 pr : Int) (w : World) (hx : Rd w x [sl, .int .i64 p0, .int .i64 pr]) :
    Calls Tryz.prog 269 #[.pointer (some ⟨x.b, x.o, none⟩), .int .i64 (pos : Int), .int .i64 0] w fun e w' =>
      e = .returned (.tuple #[.int .i64 (pos : Int), .nilIface]) ∧ Keep [x] w w' ∧ Rd w' x [sl, .int .i64 (pos : Int), .int .i64 (-1)] := by
  have c0 := hx.c0
  have c1 := hx.cell (i := 1) rfl
  have c2 := hx.cell (i := 2) rfl
  have hf := hx.unfrozen
  have H := Lib.hid hx
  clear hx
  go_enter Tryz.func269, Tryz.ntmps269
  go_wp2
  go_ret2
  refine ⟨rfl, ((Keep.refl _ _).set (by simp) _ _ _).set (by simp) _ _ _, ?_⟩
  exact (H.out.set 2 (.int .i64 (-1))).set 1 (.int .i64 (pos : Int))

set_option maxRecDepth 100000 in
set_option maxHeartbeats 400000 in
/-- Read: as much as is asked, where it is there. -/
theorem readC (x : XP) (d o n cap q qo m mcap pos : Nat) (pr : Int) (D : List Nat) (qcs : List Value) (w : World)
    (hx : Rd w x [.slice (some ⟨d, o, none⟩) n cap, .int .i64 (pos : Int), .int .i64 pr]) (hD : BytesAt w d o n cap D) (hq : Blk w q qcs)
    (hqd : q ≠ d) (hqx : q ≠ x.b) (hxd : x.b ≠ d) (hqo : qo + m ≤ qcs.length) (hm : m ≤ mcap) (hm0 : 0 < m) (hfit : pos + m ≤ n) :
    Calls Tryz.prog 266 #[.pointer (some ⟨x.b, x.o, none⟩), .slice (some ⟨q, qo, none⟩) m mcap] w fun e w' =>
      e = .returned (.tuple #[.int .i64 (m : Int), .nilIface]) ∧ Keep [q, x] w w' ∧ Blk w' q (splice qcs qo (rowV .u8 ((D.drop pos).take m))) ∧ Rd w' x [.slice (some ⟨d, o, none⟩) n cap, .int .i64 ((pos + m : Nat) : Int), .int .i64 (-1)] := by
  have c0 := hx.c0
  have c1 := hx.cell (i := 1) rfl
  have c2 := hx.cell (i := 2) rfl
  have hf := hx.unfrozen
  have hlt4 : ¬ n ≤ pos := by omega
  go_enter Tryz.func266, Tryz.ntmps266
  go_wp2_with fail
  go_quiet (fail)
  obtain ⟨w1, hw1⟩ : ∃ w1, w1 = (w.drewN nq).setCell ⟨x.b, x.o + 2, none⟩ (.int .i64 (-1)) := ⟨_, rfl⟩
  have hx1 : Rd w1 x [.slice (some ⟨d, o, none⟩) n cap, .int .i64 (pos : Int), .int .i64 (-1)] := by rw [hw1]; exact (hx.drewN nq).set 2 (.int .i64 (-1))
  have K1 : Keep [x] w w1 := by rw [hw1]; exact ((Keep.refl [x] w).drewN nq).set (by simp) _ _ _
  go_wp2_with fail
  rw [← hw1]
  clear hw1
  have hq1 := hq.keep K1 (by simp; exact hqx)
  have hD1 := hD.keep K1 (by simp; exact Ne.symm hxd)
  obtain ⟨⟨cs, hd, hcl, hcD, h1⟩, hlen, hcap, hdl, hby⟩ := hD1
  have hcp := fun ty => run_copy_blk (P := Tryz.prog) hq1.drew hd.drew 28 28 ty 5 qo (o + pos) m mcap (n - pos) (cap - pos) Tryz.underlying28 (by kernel_rfl) m (Nat.min_eq_right (by omega)).symm (by omega) (by omega) h1
  rw [take_drop_of hcD (by omega), ← rowV_drop, ← rowV_take] at hcp
  have hkl : (rowV .u8 ((D.drop pos).take m)).length = m := by simp; omega
  obtain ⟨R, hR⟩ : ∃ R, R = rowV .u8 ((D.drop pos).take m) := ⟨_, rfl⟩
  rw [← hR] at hcp hkl
  have HR := Lib.hid hR
  have d0 := hx1.c0
  have d1 := hx1.cell (i := 1) rfl
  have hf1 := hx1.unfrozen
  have hlt : (pos : Int) ≤ (n : Int) := by omega
  have hlt2 : ¬ (n : Int) < (pos : Int) := by omega
  have hlt3 : ¬ (n : Int) ≤ (pos : Int) := by omega
  have hne : ¬ cap = pos := by omega
  have hx2 := hx1.drew.keep (Keep.setCells (S := [q]) (b := q) (vs := R) (o := qo) (by simp) (Keep.refl [q] w1.drew)) (by simp; exact Ne.symm hqx)
  have e0 := hx2.c0
  have e1 := hx2.cell (i := 1) rfl
  have hf2 := hx2.unfrozen
  have Hx2 := Lib.hid hx2
  have HB := Lib.hid hq1
  have HL := Lib.hid hkl
  have HK := Lib.hid K1
  have hw64 := IntWalk.i64_in ((pos : Int) + (m : Int)) (by omega)
  clear hd hq hR hcD hkl hcl h1 hdl hx hx1 hx2 hq1 K1 hD c0 c1 c2 hf
  refine wp_region_still_tail 10 (by kernel_rfl) (by kernel_rfl) ?_
  simp only [List.take_succ_cons, List.take_zero, List.drop_succ_cons, List.drop_zero]
  change wpStill _ _ (World.drew _) _ _ _
  repeat still_step
  refine wpStill_nil ?_
  change wpList _ _ _ _ _ (World.drew _)
  go_wp2
  go_ret2
  rw [← HR.out]
  refine ⟨rfl, ?_, ?_, ?_⟩
  · exact ((HK.out.drew.weaken (by simp)).trans (Keep.setCells (S := [q]) (b := q) (vs := R) (o := qo) (by simp) (Keep.refl [q] w1.drew)) (by simp)).set (by simp) _ _ _
  · exact (HB.out.drew.setCells (by rw [HL.out]; omega)).set_other hqx _ _ _
  · have := Hx2.out.set 1 (.int .i64 ((pos : Int) + (m : Int)))
    simpa using this
end Go.Proofs.YtlolcgklcnechaaGreatDoor
set_option linter.unusedVariables false
namespace Go.Proofs.YtlolcgklcnechaaGreatDoor
open Go.RowKit

theorem or_join_u16 (i s y : Nat) (hs : s < 2 ^ i) (hi : 2 ^ i ≤ 65536) (hb : y * 2 ^ i < 65536) : bits .or .u16 (s : Int) ((y : Int) * ((2 ^ i : Nat) : Int)) = ((s + y * 2 ^ i : Nat) : Int) := by
  by_cases hy : y = 0
  · subst hy
    have h2 : (2:Nat) ^ i > 0 := Nat.two_pow_pos i
    have := u16_or_nat s 0 (by omega) (by omega)
    simp at this ⊢
    exact this
  · have h2 : 1 * 2 ^ i ≤ y * 2 ^ i := Nat.mul_le_mul_right _ (by omega)
    rw [← Int.natCast_mul, u16_or_nat _ _ (by omega) hb, Nat.or_comm, nat_join i _ _ (Nat.mul_mod_left _ _) hs, Nat.add_comm]

theorem or_join_u32 (i s y : Nat) (hs : s < 2 ^ i) (hi : 2 ^ i ≤ 4294967296) (hb : y * 2 ^ i < 4294967296) : bits .or .u32 (s : Int) ((y : Int) * ((2 ^ i : Nat) : Int)) = ((s + y * 2 ^ i : Nat) : Int) := by
  by_cases hy : y = 0
  · subst hy
    have h2 : (2:Nat) ^ i > 0 := Nat.two_pow_pos i
    have := u32_or_nat s 0 (by omega) (by omega)
    simp at this ⊢
    exact this
  · have h2 : 1 * 2 ^ i ≤ y * 2 ^ i := Nat.mul_le_mul_right _ (by omega)
    rw [← Int.natCast_mul, u32_or_nat _ _ (by omega) hb, Nat.or_comm, nat_join i _ _ (Nat.mul_mod_left _ _) hs, Nat.add_comm]

theorem or_join_u64 (i s y : Nat) (hs : s < 2 ^ i) (hi : 2 ^ i ≤ 18446744073709551616) (hb : y * 2 ^ i < 18446744073709551616) : bits .or .u64 (s : Int) ((y : Int) * ((2 ^ i : Nat) : Int)) = ((s + y * 2 ^ i : Nat) : Int) := by
  by_cases hy : y = 0
  · subst hy
    have h2 : (2:Nat) ^ i > 0 := Nat.two_pow_pos i
    have := u64_or_nat s 0 (by omega) (by omega)
    simp at this ⊢
    exact this
  · have h2 : 1 * 2 ^ i ≤ y * 2 ^ i := Nat.mul_le_mul_right _ (by omega)
    rw [← Int.natCast_mul, u64_or_nat _ _ (by omega) hb, Nat.or_comm, nat_join i _ _ (Nat.mul_mod_left _ _) hs, Nat.add_comm]

set_option maxRecDepth 100000 in
set_option maxHeartbeats 2000000 in
theorem uint16C (b o len cap x0 x1 : Nat) (cs : List Value) (w : World) (hb : Blk w b cs) (hl : 2 ≤ len) (hlen : len ≤ 1099511627776)
    (h0 : cs[o]? = some (.int .u8 (x0 : Int))) (h1 : cs[o + 1]? = some (.int .u8 (x1 : Int)))
    (l0 : x0 < 256) (l1 : x1 < 256) :
    Calls Tryz.prog 154 #[.agg #[], .slice (some ⟨b, o, none⟩) len cap] w fun e w' =>
      e = .returned (.int .u16 ((leVal [x0, x1] : Nat) : Int)) ∧ Keep [] w w' ∧ w'.heap.size = w.heap.size + 1 := by
  have c0 := hb.cell h0
  have c1 := hb.cell h1
  have hlt := hb.lt
  have l2' : (1 : Int) < (len : Int) := by omega
  obtain ⟨s1, e1⟩ : ∃ s, s = x0 + x1 * 256 := ⟨_, rfl⟩
  have b1 : s1 < 65536 := by omega
  have q1 : bits .or .u16 (x0 : Int) ((x1 : Int) * 256) = (s1 : Int) := by rw [e1]; exact or_join_u16 8 _ _ (by omega) (by omega) (by omega)
  have HS : Hid (s1 = leVal [x0, x1]) := Lib.hid (by simp only [leVal]; omega)
  clear hb h0 h1 e1
  go_enter Tryz.func154, Tryz.ntmps154
  go_wp2_with fail
  go_quiet (fail)
  go_wp2
  go_ret
  refine ⟨?_, ((Keep.refl [] w).alloc _).drewN nq, by simp⟩
  rw [← HS.out]
  rfl

set_option maxRecDepth 100000 in
set_option maxHeartbeats 2000000 in
theorem uint32C (b o len cap x0 x1 x2 x3 : Nat) (cs : List Value) (w : World) (hb : Blk w b cs) (hl : 4 ≤ len) (hlen : len ≤ 1099511627776)
    (h0 : cs[o]? = some (.int .u8 (x0 : Int))) (h1 : cs[o + 1]? = some (.int .u8 (x1 : Int))) (h2 : cs[o + 2]? = some (.int .u8 (x2 : Int))) (h3 : cs[o + 3]? = some (.int .u8 (x3 : Int)))
    (l0 : x0 < 256) (l1 : x1 < 256) (l2 : x2 < 256) (l3 : x3 < 256) :
    Calls Tryz.prog 118 #[.agg #[], .slice (some ⟨b, o, none⟩) len cap] w fun e w' =>
      e = .returned (.int .u32 ((leVal [x0, x1, x2, x3] : Nat) : Int)) ∧ Keep [] w w' ∧ w'.heap.size = w.heap.size + 1 := by
  have c0 := hb.cell h0
  have c1 := hb.cell h1
  have c2 := hb.cell h2
  have c3 := hb.cell h3
  have hlt := hb.lt
  have l4' : (3 : Int) < (len : Int) := by omega
  obtain ⟨s1, e1⟩ : ∃ s, s = x0 + x1 * 256 := ⟨_, rfl⟩
  have b1 : s1 < 65536 := by omega
  have q1 : bits .or .u32 (x0 : Int) ((x1 : Int) * 256) = (s1 : Int) := by rw [e1]; exact or_join_u32 8 _ _ (by omega) (by omega) (by omega)
  obtain ⟨s2, e2⟩ : ∃ s, s = s1 + x2 * 65536 := ⟨_, rfl⟩
  have b2 : s2 < 16777216 := by omega
  have q2 : bits .or .u32 (s1 : Int) ((x2 : Int) * 65536) = (s2 : Int) := by rw [e2]; exact or_join_u32 16 _ _ (by omega) (by omega) (by omega)
  obtain ⟨s3, e3⟩ : ∃ s, s = s2 + x3 * 16777216 := ⟨_, rfl⟩
  have b3 : s3 < 4294967296 := by omega
  have q3 : bits .or .u32 (s2 : Int) ((x3 : Int) * 16777216) = (s3 : Int) := by rw [e3]; exact or_join_u32 24 _ _ (by omega) (by omega) (by omega)
  have HS : Hid (s3 = leVal [x0, x1, x2, x3]) := Lib.hid (by simp only [leVal]; omega)
  clear hb h0 h1 h2 h3 e1 e2 e3
  go_enter Tryz.func118, Tryz.ntmps118
  go_wp2_with fail
  go_quiet (fail)
  go_wp2
  go_ret
  refine ⟨?_, ((Keep.refl [] w).alloc _).drewN nq, by simp⟩
  rw [← HS.out]
  rfl

set_option maxRecDepth 100000 in
set_option maxHeartbeats 2000000 in
theorem uint64C (b o len cap x0 x1 x2 x3 x4 x5 x6 x7 : Nat) (cs : List Value) (w : World) (hb : Blk w b cs) (hl : 8 ≤ len) (hlen : len ≤ 1099511627776)
    (h0 : cs[o]? = some (.int .u8 (x0 : Int))) (h1 : cs[o + 1]? = some (.int .u8 (x1 : Int))) (h2 : cs[o + 2]? = some (.int .u8 (x2 : Int))) (h3 : cs[o + 3]? = some (.int .u8 (x3 : Int))) (h4 : cs[o + 4]? = some (.int .u8 (x4 : Int))) (h5 : cs[o + 5]? = some (.int .u8 (x5 : Int))) (h6 : cs[o + 6]? = some (.int .u8 (x6 : Int))) (h7 : cs[o + 7]? = some (.int .u8 (x7 : Int)))
    (l0 : x0 < 256) (l1 : x1 < 256) (l2 : x2 < 256) (l3 : x3 < 256) (l4 : x4 < 256) (l5 : x5 < 256) (l6 : x6 < 256) (l7 : x7 < 256) :
    Calls Tryz.prog 151 #[.agg #[], .slice (some ⟨b, o, none⟩) len cap] w fun e w' =>
      e = .returned (.int .u64 ((leVal [x0, x1, x2, x3, x4, x5, x6, x7] : Nat) : Int)) ∧ Keep [] w w' ∧ w'.heap.size = w.heap.size + 1 := by
  have c0 := hb.cell h0
  have c1 := hb.cell h1
  have c2 := hb.cell h2
  have c3 := hb.cell h3
  have c4 := hb.cell h4
  have c5 := hb.cell h5
  have c6 := hb.cell h6
  have c7 := hb.cell h7
  have hlt := hb.lt
  have l8' : (7 : Int) < (len : Int) := by omega
  obtain ⟨s1, e1⟩ : ∃ s, s = x0 + x1 * 256 := ⟨_, rfl⟩
  have b1 : s1 < 65536 := by omega
  have q1 : bits .or .u64 (x0 : Int) ((x1 : Int) * 256) = (s1 : Int) := by rw [e1]; exact or_join_u64 8 _ _ (by omega) (by omega) (by omega)
  obtain ⟨s2, e2⟩ : ∃ s, s = s1 + x2 * 65536 := ⟨_, rfl⟩
  have b2 : s2 < 16777216 := by omega
  have q2 : bits .or .u64 (s1 : Int) ((x2 : Int) * 65536) = (s2 : Int) := by rw [e2]; exact or_join_u64 16 _ _ (by omega) (by omega) (by omega)
  obtain ⟨s3, e3⟩ : ∃ s, s = s2 + x3 * 16777216 := ⟨_, rfl⟩
  have b3 : s3 < 4294967296 := by omega
  have q3 : bits .or .u64 (s2 : Int) ((x3 : Int) * 16777216) = (s3 : Int) := by rw [e3]; exact or_join_u64 24 _ _ (by omega) (by omega) (by omega)
  obtain ⟨s4, e4⟩ : ∃ s, s = s3 + x4 * 4294967296 := ⟨_, rfl⟩
  have b4 : s4 < 1099511627776 := by omega
  have q4 : bits .or .u64 (s3 : Int) ((x4 : Int) * 4294967296) = (s4 : Int) := by rw [e4]; exact or_join_u64 32 _ _ (by omega) (by omega) (by omega)
  obtain ⟨s5, e5⟩ : ∃ s, s = s4 + x5 * 1099511627776 := ⟨_, rfl⟩
  have b5 : s5 < 281474976710656 := by omega
  have q5 : bits .or .u64 (s4 : Int) ((x5 : Int) * 1099511627776) = (s5 : Int) := by rw [e5]; exact or_join_u64 40 _ _ (by omega) (by omega) (by omega)
  obtain ⟨s6, e6⟩ : ∃ s, s = s5 + x6 * 281474976710656 := ⟨_, rfl⟩
  have b6 : s6 < 72057594037927936 := by omega
  have q6 : bits .or .u64 (s5 : Int) ((x6 : Int) * 281474976710656) = (s6 : Int) := by rw [e6]; exact or_join_u64 48 _ _ (by omega) (by omega) (by omega)
  obtain ⟨s7, e7⟩ : ∃ s, s = s6 + x7 * 72057594037927936 := ⟨_, rfl⟩
  have b7 : s7 < 18446744073709551616 := by omega
  have q7 : bits .or .u64 (s6 : Int) ((x7 : Int) * 72057594037927936) = (s7 : Int) := by rw [e7]; exact or_join_u64 56 _ _ (by omega) (by omega) (by omega)
  have HS : Hid (s7 = leVal [x0, x1, x2, x3, x4, x5, x6, x7]) := Lib.hid (by simp only [leVal]; omega)
  clear hb h0 h1 h2 h3 h4 h5 h6 h7 e1 e2 e3 e4 e5 e6 e7
  go_enter Tryz.func151, Tryz.ntmps151
  go_wp2_with fail
  go_quiet (fail)
  go_wp2
  go_ret
  refine ⟨?_, ((Keep.refl [] w).alloc _).drewN nq, by simp⟩
  rw [← HS.out]
  rfl
end Go.Proofs.YtlolcgklcnechaaGreatDoor
