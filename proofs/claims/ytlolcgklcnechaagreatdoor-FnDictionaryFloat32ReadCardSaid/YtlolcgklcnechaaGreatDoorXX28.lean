/- What a decoder by a dictionary keeps, and where it stands. NewTypedRleDecoder[float32]. bytes.Reader.Reset. NewPlainDecoder[float32], decoder.SetData. dictDecoder[float32]: resetIndexDecoder, SetData. -/
import Derived.Test.YtlolcgklcnechaaGreatDoorXX19
import Derived.Test.YtlolcgklcnechaaGreatDoorXU13
import Derived.Lib.MinMax
import Derived.Test.YtlolcgklcnechaaGreatDoorXD1
set_option linter.unusedVariables false
set_option linter.unusedSimpArgs false
namespace Go.Proofs.YtlolcgklcnechaaGreatDoor
open Go.RowKit

/-- From w to w' only blocks of F have turned, and such as lie from lo on and are not to be avoided. -/
def KeepD (lo : Nat) (av F : List Nat) (w w' : World) : Prop := ∃ S, Keep S w w' ∧ ∀ b ∈ S, b ∈ F ∨ (lo ≤ b ∧ b ∉ av)

section
variable {lo : Nat} {av F : List Nat} {a w w' : World}
theorem KeepD.of {S : List Nat} (k : Keep S w w') (h : ∀ b ∈ S, b ∈ F ∨ (lo ≤ b ∧ b ∉ av)) : KeepD lo av F w w' := ⟨S, k, h⟩
theorem KeepD.refl (lo : Nat) (av F : List Nat) (w : World) : KeepD lo av F w w := ⟨[], Keep.refl _ _, by simp⟩
theorem KeepD.size (k : KeepD lo av F w w') : w.heap.size ≤ w'.heap.size := by obtain ⟨S, k, _⟩ := k; exact k.size
theorem KeepD.drew (k : KeepD lo av F a w) : KeepD lo av F a w.drew := by obtain ⟨S, k, h⟩ := k; exact ⟨S, k.drew, h⟩
theorem KeepD.alloc (k : KeepD lo av F a w) (o : Obj) : KeepD lo av F a (w.alloc o) := by obtain ⟨S, k, h⟩ := k; exact ⟨S, k.alloc o, h⟩
theorem KeepD.trans {av' F' : List Nat} (h : KeepD lo av F a w) (k : KeepD lo av' F' w w') (hF : ∀ x ∈ F', x ∈ F ∨ (lo ≤ x ∧ x ∉ av)) (hav : ∀ x ∈ av, x ∈ av') : KeepD lo av F a w' := by
  obtain ⟨S, h, hS⟩ := h
  obtain ⟨S', k, hS'⟩ := k
  refine ⟨S ++ S', (h.weaken (S' := S ++ S') (fun x hx => .inl (by simp [hx]))).trans k (fun x hx => .inl (by simp [hx])), fun b hb => ?_⟩
  rcases List.mem_append.1 hb with hb | hb
  · exact hS b hb
  · rcases hS' b hb with hb | ⟨h1, h2⟩
    · exact hF b hb
    · exact .inr ⟨h1, fun hm => h2 (hav b hm)⟩
theorem KeepD.set (k : KeepD lo av F a w) {b : Nat} (hb : b ∈ F ∨ (lo ≤ b ∧ b ∉ av)) (i : Nat) (s : Option Nat) (v : Value) : KeepD lo av F a (w.setCell ⟨b, i, s⟩ v) := by
  obtain ⟨S, k, h⟩ := k
  refine ⟨b :: S, (k.weaken (S' := b :: S) (fun x hx => .inl (by simp [hx]))).set (by simp) _ _ _, fun x hx => ?_⟩
  rcases List.mem_cons.1 hx with rfl | hx
  · exact hb
  · exact h x hx
theorem KeepD.out (k : KeepD lo av F w w') : ∃ S, Keep S w w' ∧ ∀ b, (b < lo ∨ b ∈ av) → b ∉ F → b ∉ S := by
  obtain ⟨S, k, h⟩ := k
  refine ⟨S, k, fun b hb hF hm => ?_⟩
  rcases h b hm with h | ⟨h1, h2⟩
  · exact hF h
  · rcases hb with hb | hb
    · omega
    · exact h2 hb
theorem Blk.keepD {b : Nat} {cs : List Value} (h : Blk w b cs) (k : KeepD lo av F w w') (hb : b < lo ∨ b ∈ av) (hF : b ∉ F) : Blk w' b cs := by
  obtain ⟨S, k, h'⟩ := k.out
  exact h.keep k (h' b hb hF)
end

theorem KeepD.conv {lo : Nat} {av S : List Nat} {w w' : World} {cb pd : Nat} (k : Keep S w w') (h : ∀ b ∈ S, b = cb ∨ b = pd ∨ (lo ≤ b ∧ b ∉ av)) : KeepD lo av [cb, pd] w w' := by
  refine ⟨S, k, fun b hb => ?_⟩
  rcases h b hb with rfl | rfl | h
  · exact .inl (by simp)
  · exact .inl (by simp)
  · exact .inr h
theorem KeepD.fill {lo : Nat} {av S : List Nat} {w w' : World} {v cb pd : Nat} (k : Keep (v :: S) w w') (h : ∀ b ∈ S, b = cb ∨ b = pd ∨ (lo ≤ b ∧ b ∉ av)) : KeepD lo av [v, cb, pd] w w' := by
  refine ⟨v :: S, k, fun b hb => ?_⟩
  rcases List.mem_cons.1 hb with rfl | hb
  · exact .inl (by simp)
  · rcases h b hb with rfl | rfl | h
    · exact .inl (by simp)
    · exact .inl (by simp)
    · exact .inr h

/-- A decoder's blocks lie below lo, and are none of F. -/
structure Apart (B : DecB) (lo : Nat) (F : List Nat) : Prop where
  t : B.t < lo ∧ B.t ∉ F
  q : B.q < lo ∧ B.q ∉ F
  x : B.x.b < lo ∧ B.x.b ∉ F
  d : B.d < lo ∧ B.d ∉ F
  e : 4 < lo ∧ 4 ∉ F

theorem DecAt.keepD {B : DecB} {L : List Nat} {lo : Nat} {av F : List Nat} {w w' : World} (h : DecAt B w L) (k : KeepD lo av F w w') (ap : Apart B lo F) : DecAt B w' L := by
  obtain ⟨S, k, h'⟩ := k.out
  exact h.keep k (h' _ (.inl ap.t.1) ap.t.2) (h' _ (.inl ap.q.1) ap.q.2) (h' _ (.inl ap.x.1) ap.x.2) (h' _ (.inl ap.d.1) ap.d.2) (h' _ (.inl ap.e.1) ap.e.2)

theorem run_min3 (ts : Array TypeId) (t : TypeId) (x y z b : Int) (hb : min (min x y) z = b) (w : World) :
    (Builtin.min_ ts t #[.int .i64 x, .int .i64 y, .int .i64 z]).run Tryz.prog w = .ok (.int .i64 b) w := by
  have e1 : (if y < x then y else x) = min x y := by
    rw [Int.min_def]
    split <;> split <;> omega
  have e2 : (if z < min x y then z else min x y) = b := by
    split <;> omega
  simp [Builtin.min_, Builtin.min2, e1, e2]

theorem method_IsValidSingle (a : Addr) (w : World) : (method 521 197 (.pointer (some a)) "IsValidSingle").run Tryz.prog w = .ok (289, .pointer (some a)) w := by kernel_rfl
theorem method_IsValid (a : Addr) (w : World) : (method 521 197 (.pointer (some a)) "IsValid").run Tryz.prog w = .ok (288, .pointer (some a)) w := by kernel_rfl
theorem method_Copy (a : Addr) (w : World) : (method 521 197 (.pointer (some a)) "Copy").run Tryz.prog w = .ok (285, .pointer (some a)) w := by kernel_rfl
theorem method_Fill (a : Addr) (w : World) : (method 521 197 (.pointer (some a)) "Fill").run Tryz.prog w = .ok (286, .pointer (some a)) w := by kernel_rfl

theorem slice_idx (ib b : Nat) (hb : b ≤ 1024) (w : World) : (Instr.sliceAt 286 (.pointer (some ⟨ib, 0, none⟩)) none (some (.int .i64 (b : Int))) none).run Tryz.prog w = .ok (.slice (some ⟨ib, 0, none⟩) b 1024) w := by
  have hl : Tryz.prog.arrayLen 286 = 1024 := by kernel_rfl
  have hs : (sizeOf (Tryz.prog.elem 286)).run Tryz.prog w = .ok 1 w := by kernel_rfl
  rw [run_sliceAt_array_h w 286 ⟨ib, 0, none⟩ (by kernel_rfl) .i64 (b : Int) (by omega) (by rw [hl]; omega), hs, hl]
  simp [Result.andThen, slicedAt, Addr.add]

theorem ahead_Fill (a : Addr) (w : World) : (nilAhead 521 197 (.pointer (some a)) "Fill").run Tryz.prog w = .ok (some false) w := by kernel_rfl

theorem ConvAt.avoid {lo : Nat} {av av' : List Nat} {w : World} {cb pd d num len cap : Nat} {D : List Nat} {k : Nat} (h : ConvAt lo av w cb pd d num len cap D k) (hS : ∀ b ∈ av', b ∈ av ∨ w.heap.size ≤ b) : ConvAt lo av' w cb pd d num len cap D k := by
  obtain ⟨v, h2, h3⟩ := h.vals
  exact { h with vals := ⟨v, h2, h3.avoid hS⟩ }
theorem ConvAt.drew {lo : Nat} {av : List Nat} {w : World} {cb pd d num len cap : Nat} {D : List Nat} {k : Nat} (h : ConvAt lo av w cb pd d num len cap D k) : ConvAt lo av w.drew cb pd d num len cap D k :=
  h.keep (S := []) (Keep.refl [] w).drew (by simp)

/-- What is read: the numbers' values. -/
theorem take_more {L : List Nat} {s b : Nat} {X : List Nat} {f : Nat → Nat} (h : (L.drop s).take b = X) : (L.take s).map f ++ X.map f = (L.take (s + b)).map f := by
  rw [← h, ← List.map_append, ← List.take_add]

def WithDictPost (B : DecB) (L : List Nat) (lo : Nat) (av : List Nat) (cb pd d num len cap : Nat) (Dd : List Nat) (v vo m : Nat) (vcs : List Value) (w : World) (e : Ending) (w' : World) : Prop :=
  e = .returned (.tuple #[.int .i64 (m : Int), .nilIface]) ∧ KeepD lo av [B.t, B.q, B.x.b, v, cb, pd] w w' ∧ DecAt B w' (L.drop m) ∧ (∃ k, ConvAt lo av w' cb pd d num len cap Dd k) ∧ Blk w' v (splice vcs vo (rowF ((L.take m).map (f32At Dd))))
end Go.Proofs.YtlolcgklcnechaaGreatDoor
set_option linter.unusedVariables false
set_option linter.unusedSimpArgs false
namespace Go.Proofs.YtlolcgklcnechaaGreatDoor
open Go.RowKit

set_option maxRecDepth 100000 in
theorem newTypedRle (x : XP) (W : Nat) (w : World) :
    Calls Tryz.prog 140 #[.pointer (some ⟨x.b, x.o, none⟩), .int .i64 (W : Int)] w fun e w' =>
      e = .returned (.pointer (some ⟨w.heap.size + 1, 0, none⟩)) ∧ w' = (w.alloc (.cells (brCells x 0 0 0 0 (List.replicate 8 0) (List.replicate 1024 0)).toArray 247)).alloc (.cells (decCells w.heap.size W 0 0 0).toArray 264) := by
  have hN := newBitReader x w
  obtain ⟨o, ho⟩ : ∃ o, o = (Obj.cells (brCells x 0 0 0 0 (List.replicate 8 0) (List.replicate 1024 0)).toArray 247) := ⟨_, rfl⟩
  rw [← ho] at hN ⊢
  clear ho
  go_enter Tryz.func140, Tryz.ntmps140
  go_wp2_with fail
  refine hN.mono ?_
  rintro e w2 ⟨rfl, rfl⟩
  go_wp2
  go_ret
  exact ⟨rfl, rfl⟩
/-- A fresh decoder over runs. -/
theorem DecAt.freshT {T : TypeId} {w w' : World} {x : XP} {d o n cap W : Nat} {ea : Addr} {D : List Nat} {rs : List Rn} {rest : List Nat} {pos pr : Int} (raw unp : List Nat) (hraw : raw.length = 8) (hunp : UnpOk unp) (hw : w' = (w.alloc (.cells (brCells x 0 0 0 0 raw unp).toArray 247)).alloc (.cells (decCells w.heap.size W 0 0 0).toArray T))
    (hx : Rd w x [.slice (some ⟨d, o, none⟩) n cap, .int .i64 pos, .int .i64 pr]) (hD : BytesAt w d o n cap D) (hE : Eof w ea) (xd : x.b ≠ d) (xe : x.b ≠ 4) (hW0 : 0 < W) (hW : W ≤ 64) (hn8 : n + 8 ≤ 1099511627776)
    (hrs : ∀ r ∈ rs, Rn.Ok W r) (hr : D = encR W rs ++ rest) : DecAt ⟨w.heap.size + 1, w.heap.size, x, d, o, n, cap, ea, D, W⟩ w' (valsR rs) := by
  have xl := hx.lt
  have dl : d < w.heap.size := by obtain ⟨⟨cs, h, _⟩, _⟩ := hD; exact h.lt
  have el := hE.lt
  have K : Keep [] w w' := by rw [hw]; exact ((Keep.refl [] w).alloc _).alloc _
  have hq : Blk w' w.heap.size (brCells x 0 0 0 0 raw unp) := by rw [hw]; exact (Blk.new w _ _).alloc _
  have ht : Blk w' (w.heap.size + 1) (decCells w.heap.size W 0 0 0) := by rw [hw]; exact Blk.of_new (by simp)
  refine ⟨0, 0, 0, 0, rs, rest, ⟨by show w.heap.size + 1 ≠ w.heap.size; omega, by show w.heap.size + 1 ≠ x.b; omega, by show w.heap.size + 1 ≠ d; omega, by show w.heap.size + 1 ≠ 4; omega, hW0, hW, hn8⟩, ht, hrs, by simpa using hr, by omega, by omega, by omega, .inl ⟨rfl, ⟨0, 0, 0, 0, ?_, by omega, by omega⟩, by simp⟩⟩
  exact ⟨⟨raw, unp, hraw, hunp, hq⟩, ⟨pos, pr, hx.keep K (by simp)⟩, hD.keep K (by simp), hE.keep K (by simp), by show w.heap.size ≠ x.b; omega, by show w.heap.size ≠ d; omega, xd, by show w.heap.size ≠ 4; omega, xe⟩

end Go.Proofs.YtlolcgklcnechaaGreatDoor
set_option linter.unusedVariables false
set_option linter.unusedSimpArgs false
namespace Go.Proofs.YtlolcgklcnechaaGreatDoor
open Go.RowKit

set_option maxRecDepth 100000 in
set_option maxHeartbeats 1000000 in
theorem readerResetC (x : XP) (d o len cap : Nat) (v0 v1 v2 : Value) (w : World) (hx : Rd w x [v0, v1, v2]) :
    Calls Tryz.prog 139 #[.pointer (some ⟨x.b, x.o, none⟩), .slice (some ⟨d, o, none⟩) len cap] w fun e w' => e = .returned (.tuple #[]) ∧ Keep [x] w w' ∧ Rd w' x [.slice (some ⟨d, o, none⟩) len cap, .int .i64 0, .int .i64 (-1)] := by
  have c0 := hx.c0
  have c1 : w.cell? ⟨x.b, x.o + 1, none⟩ = some v1 := hx.cell (i := 1) rfl
  have c2 : w.cell? ⟨x.b, x.o + 2, none⟩ = some v2 := hx.cell (i := 2) rfl
  have cf := hx.unfrozen
  have H := Lib.hid hx
  clear hx
  go_enter Tryz.func139, Tryz.ntmps139
  go_wp2
  go_end0
  refine ⟨rfl, (((Keep.refl [x] w).set (by simp) _ _ _).set (by simp) _ _ _).set (by simp) _ _ _, ?_⟩
  exact ((H.out.set 0 (.slice (some ⟨d, o, none⟩) len cap)).set 1 (.int .i64 0)).set 2 (.int .i64 (-1))
end Go.Proofs.YtlolcgklcnechaaGreatDoor
set_option linter.unusedVariables false
set_option linter.unusedSimpArgs false
namespace Go.Proofs.YtlolcgklcnechaaGreatDoor
open Go.RowKit

set_option maxRecDepth 100000 in
theorem setDataC (pd n d o len cap : Nat) (a b : Value) (rest pre : List Value) (w : World) (h : Blk w pd (pre ++ a :: b :: rest)) :
    Calls Tryz.prog 50 #[.pointer (some ⟨pd, pre.length, none⟩), .int .i64 (n : Int), .slice (some ⟨d, o, none⟩) len cap] w fun e w' => e = .returned .nilIface ∧ Keep [pd] w w' ∧ Blk w' pd (pre ++ .int .i64 (n : Int) :: .slice (some ⟨d, o, none⟩) len cap :: rest) := by
  have c0 : w.cell? ⟨pd, pre.length, none⟩ = some a := h.cell (by simp)
  have c1 : w.cell? ⟨pd, pre.length + 1, none⟩ = some b := h.cell (by simp)
  have cf := h.unfrozen
  have H := Lib.hid h
  clear h
  go_enter Tryz.func50, Tryz.ntmps50
  go_wp2
  go_ret
  refine ⟨rfl, ((Keep.refl [pd] w).set (by simp) _ _ _).set (by simp) _ _ _, ?_⟩
  have h := (H.out.set (pre.length + 1) (.slice (some ⟨d, o, none⟩) len cap)).set pre.length (.int .i64 (n : Int))
  rw [List.set_append_right _ _ (by omega), Nat.add_sub_cancel_left, List.set_append_right _ _ (by omega), Nat.sub_self] at h
  exact h

set_option maxRecDepth 100000 in
theorem newBaseC (w : World) : Calls Tryz.prog 100 #[] w fun e w' => e = .returned (.agg #[.int .i64 0, .slice none 0 0, .int .i64 0]) ∧ Keep [] w w' := by
  go_enter Tryz.func100, Tryz.ntmps100
  go_wp2
  refine bodyPost_ret (v := .agg #[.int .i64 0, .slice none 0 0, .int .i64 0]) ?_ rfl ⟨rfl, (Keep.refl [] w).alloc _⟩
  rw [results_cell1 rfl]
  go_simp

set_option maxRecDepth 100000 in
theorem newPlainC (w : World) : Calls Tryz.prog 49 #[] w fun e w' => ∃ pd, e = .returned (.pointer (some ⟨pd, 0, none⟩)) ∧ Keep [] w w' ∧ w.heap.size ≤ pd ∧ Blk w' pd [.int .i64 0, .slice none 0 0, .int .i64 0, .nilIface] := by
  go_enter Tryz.func49, Tryz.ntmps49
  go_wp2_with fail
  refine (newBaseC w).mono ?_
  rintro e w2 ⟨rfl, k2⟩
  go_wp2
  go_ret
  exact ⟨_, rfl, k2.alloc _, k2.size, Blk.new w2 [.int .i64 0, .slice none 0 0, .int .i64 0, .nilIface] _⟩
end Go.Proofs.YtlolcgklcnechaaGreatDoor
set_option linter.unusedVariables false
set_option linter.unusedSimpArgs false
namespace Go.Proofs.YtlolcgklcnechaaGreatDoor
open Go.RowKit

theorem Rd.setPre {w : World} {x : XP} {l : List Value} (h : Rd w x l) (i : Nat) (v : Value) (hi : i < x.pre.length) : Rd (w.setCell ⟨x.b, i, none⟩ v) ⟨x.b, x.pre.set i v, x.post⟩ l := by
  have := Blk.set h i v
  unfold Rd
  rw [List.append_assoc, List.set_append_left _ _ hi, ← List.append_assoc] at this
  exact this

theorem brCells_pre (x : XP) (i : Nat) (v : Value) (buf bo bi vb : Nat) (raw unp : List Nat) : brCells ⟨x.b, x.pre.set i v, x.post⟩ buf bo bi vb raw unp = brCells x buf bo bi vb raw unp := by
  simp [brCells, brHead, XP.o]

theorem BR.setPre {w : World} {q : Nat} {x : XP} {d o n cap : Nat} {ea : Addr} {D : List Nat} {buf bo bi vb : Nat} (h : BR w q x d o n cap ea D buf bo bi vb) (i : Nat) (v : Value) (hi : i < x.pre.length) :
    BR (w.setCell ⟨x.b, i, none⟩ v) q ⟨x.b, x.pre.set i v, x.post⟩ d o n cap ea D buf bo bi vb := by
  obtain ⟨⟨raw, unp, h1, h2, h3⟩, ⟨pos, pr, h4⟩, h5, h6, h7, h8, h9, h10, h11⟩ := h
  have k : Keep [x.b] w (w.setCell ⟨x.b, i, none⟩ v) := (Keep.refl _ _).set (by simp) _ _ _
  exact ⟨⟨raw, unp, h1, h2, by rw [brCells_pre]; exact h3.keep k (by simp; exact h7)⟩, ⟨pos, pr, h4.setPre i v hi⟩, h5.keep k (by simp; exact Ne.symm h9), h6.keep k (by simp; exact Ne.symm h11), h7, h8, h9, h10, h11⟩

/-- The same decoder, where a cell ahead of the reader has turned. -/
def DecB.pre (B : DecB) (i : Nat) (v : Value) : DecB := ⟨B.t, B.q, ⟨B.x.b, B.x.pre.set i v, B.x.post⟩, B.d, B.o, B.n, B.cap, B.ea, B.D, B.W⟩

theorem DecAt.setPre {B : DecB} {w : World} {L : List Nat} (h : DecAt B w L) (i : Nat) (v : Value) (hi : i < B.x.pre.length) : DecAt (B.pre i v) (w.setCell ⟨B.x.b, i, none⟩ v) L := by
  obtain ⟨cur, rep, lit, P, rs, rest, hok, h2, h3, h4, h5, h6, h7, h8⟩ := h
  obtain ⟨tq, tx, td, te, W0, W64, n8⟩ := hok
  refine ⟨cur, rep, lit, P, rs, rest, ⟨tq, tx, td, te, W0, W64, n8⟩, h2.set_other tx _ _ _, h3, h4, h5, h6, h7, ?_⟩
  rcases h8 with ⟨a, ⟨buf, bo, bi, vb, b1, b2, b3⟩, c⟩ | ⟨a, b, bo, bi, c, r⟩
  · exact .inl ⟨a, ⟨buf, bo, bi, vb, b1.setPre i v hi, b2, b3⟩, c⟩
  · exact .inr ⟨a, b, bo, bi, BR.setPre c i v hi, r⟩

theorem DecAt.rd {B : DecB} {w : World} {L : List Nat} (h : DecAt B w L) : ∃ pos pr : Int, Rd w B.x [.slice (some ⟨B.d, B.o, none⟩) B.n B.cap, .int .i64 pos, .int .i64 pr] := by
  obtain ⟨cur, rep, lit, P, rs, rest, hok, h2, h3, h4, h5, h6, h7, h8⟩ := h
  rcases h8 with ⟨a, ⟨buf, bo, bi, vb, b1, b2, b3⟩, c⟩ | ⟨a, b, bo, bi, c, r⟩
  · exact b1.hx
  · exact BR.hx c

theorem DecAt.lt {B : DecB} {w : World} {L : List Nat} (h : DecAt B w L) : B.t < w.heap.size ∧ B.q < w.heap.size ∧ B.x.b < w.heap.size ∧ B.d < w.heap.size ∧ 4 < w.heap.size := by
  obtain ⟨cur, rep, lit, P, rs, rest, hok, h2, h3, h4, h5, h6, h7, h8⟩ := h
  have key : ∀ {buf bo bi vb : Nat}, BR w B.q B.x B.d B.o B.n B.cap B.ea B.D buf bo bi vb → B.t < w.heap.size ∧ B.q < w.heap.size ∧ B.x.b < w.heap.size ∧ B.d < w.heap.size ∧ 4 < w.heap.size := fun hb => by
    obtain ⟨⟨raw, unp, e1, e2, e3⟩, ⟨pos, pr, e4⟩, ⟨⟨cs, e5, _⟩, _⟩, e6, _⟩ := hb
    exact ⟨h2.lt, e3.lt, e4.lt, e5.lt, e6.lt⟩
  rcases h8 with ⟨a, ⟨buf, bo, bi, vb, b1, b2, b3⟩, c⟩ | ⟨a, b, bo, bi, c, r⟩
  · exact key b1
  · exact key c

/-- What lies ahead of the reader in a dictDecoder, and behind it. -/
def ddPre (nv : Nat) (mem conv : Value) (t : Option Addr) : List Value := [.int .i64 (nv : Int), .slice none 0 0, .int .i64 0, mem, conv, .pointer t]
def ddPost : List Value := [.slice none 0 0, .slice none 0 0, .slice none 0 0]

def dB (t q xb nv : Nat) (mem conv : Value) (d o n cap : Nat) (ea : Addr) (D : List Nat) (W : Nat) : DecB := ⟨t, q, ⟨xb, ddPre nv mem conv (some ⟨t, 0, none⟩), ddPost⟩, d, o, n, cap, ea, D, W⟩

/-- A fresh decoder at xb, over runs whose bytes lie at d. -/
def ResetPost (xb nv d o n cap : Nat) (mem conv : Value) (ea : Addr) (D : List Nat) (W : Nat) (rs : List Rn) (w : World) (e : Ending) (w' : World) : Prop :=
  e = .returned (.tuple #[]) ∧ Keep [xb] w w' ∧ ∃ t q, w.heap.size ≤ t ∧ w.heap.size ≤ q ∧ DecAt (dB t q xb nv mem conv d o n cap ea D W) w' (valsR rs)

set_option maxRecDepth 100000 in
set_option maxHeartbeats 1000000 in
theorem resetIndexC (xb nv d o n cap : Nat) (mem conv : Value) (ea : Addr) (D : List Nat) (W : Nat) (rs : List Rn) (rest : List Nat) (v0 v1 v2 : Value) (w : World) (hx : Rd w ⟨xb, ddPre nv mem conv none, ddPost⟩ [v0, v1, v2]) (hD : BytesAt w d o n cap D) (hE : Eof w ea) (xd : xb ≠ d) (xe : xb ≠ 4)
    (hW0 : 0 < W) (hW : W ≤ 64) (hn8 : n + 8 ≤ 1099511627776) (hrs : ∀ r ∈ rs, Rn.Ok W r) (hr : D = encR W rs ++ rest) :
    Calls Tryz.prog 101 #[.pointer (some ⟨xb, 0, none⟩), .slice (some ⟨d, o, none⟩) n cap, .int .i64 (W : Int)] w fun e w' => ResetPost xb nv d o n cap mem conv ea D W rs w e w' := by
  have hxl := hx.lt
  have H := Lib.hid (And.intro hx (And.intro hD (And.intro hE (And.intro hrs hr))))
  clear hx hD hE hrs hr
  go_enter Tryz.func101, Tryz.ntmps101
  go_wp2_with fail
  refine (readerResetC ⟨xb, ddPre nv mem conv none, ddPost⟩ d o n cap v0 v1 v2 _ H.out.1).mono ?_
  rintro e w1 ⟨rfl, k1, hx1⟩
  have c5 : w1.cell? ⟨xb, 5, none⟩ = some (.pointer none) := Blk.cell hx1 (by simp [ddPre])
  have cf := hx1.unfrozen
  have hs1 := k1.size
  have H1 := Lib.hid (And.intro hx1 k1)
  clear hx1 k1
  go_wp2_with fail
  refine (newTypedRle ⟨xb, ddPre nv mem conv none, ddPost⟩ W w1).mono ?_
  rintro e w2 ⟨rfl, hw2⟩
  obtain ⟨hx, hD, hE, hrs, hr⟩ := H.out
  have hD1 := hD.keep H1.out.2 (by simp; exact Ne.symm xd)
  have hE1 := hE.keep H1.out.2 (by simp; exact Ne.symm xe)
  have hA := DecAt.freshT (List.replicate 8 0) (List.replicate 1024 0) List.length_replicate unp_zero hw2 H1.out.1 hD1 hE1 xd xe hW0 hW hn8 hrs hr
  have K2 : Keep [] w1 w2 := by rw [hw2]; exact ((Keep.refl [] w1).alloc _).alloc _
  have hx2 := H1.out.1.keep K2 (by simp)
  have c5 : w2.cell? ⟨xb, 5, none⟩ = some (.pointer none) := Blk.cell hx2 (by simp [ddPre])
  have cf := hx2.unfrozen
  have hA2 := hA.setPre 5 (.pointer (some ⟨w1.heap.size + 1, 0, none⟩)) (by simp [ddPre])
  have K : Keep [xb] w (w2.setCell ⟨xb, 5, none⟩ (.pointer (some ⟨w1.heap.size + 1, 0, none⟩))) := (H1.out.2.trans K2 (by simp)).set (by simp) _ _ _
  have HF := Lib.hid (And.intro hA2 K)
  clear hA hA2 K hx2 K2 hw2 hD1 hE1 hx hD hE hrs hr
  go_wp2
  go_end0
  exact ⟨rfl, HF.out.2, w1.heap.size + 1, w1.heap.size, by omega, by omega, HF.out.1⟩

def SetPost (xb nv d n cap : Nat) (mem conv : Value) (ea : Addr) (D : List Nat) (W : Nat) (rs : List Rn) (w : World) (e : Ending) (w' : World) : Prop :=
  e = .returned .nilIface ∧ Keep [xb] w w' ∧ ∃ t q, w.heap.size ≤ t ∧ w.heap.size ≤ q ∧ DecAt (dB t q xb nv mem conv d 1 n cap ea D W) w' (valsR rs)

set_option maxRecDepth 100000 in
set_option maxHeartbeats 1000000 in
theorem dictSetDataC (xb nv0 nv d n cap : Nat) (mem conv : Value) (ea : Addr) (D : List Nat) (W : Nat) (rs : List Rn) (rest : List Nat) (v0 v1 v2 : Value) (w : World) (hx : Rd w ⟨xb, ddPre nv0 mem conv none, ddPost⟩ [v0, v1, v2]) (hD : BytesAt w d 0 (n + 1) cap (W :: D)) (hE : Eof w ea) (xd : xb ≠ d) (xe : xb ≠ 4)
    (hW0 : 0 < W) (hW : W < 64) (hn0 : 0 < n) (hn8 : n + 8 ≤ 1099511627776) (hrs : ∀ r ∈ rs, Rn.Ok W r) (hr : D = encR W rs ++ rest) :
    Calls Tryz.prog 53 #[.pointer (some ⟨xb, 0, none⟩), .int .i64 (nv : Int), .slice (some ⟨d, 0, none⟩) (n + 1) cap] w fun e w' => SetPost xb nv d n (cap - 1) mem conv ea D W rs w e w' := by
  obtain ⟨N, hN⟩ : ∃ N, N = n + 1 := ⟨_, rfl⟩
  have hlc := hD.len
  have c0 : w.cell? ⟨xb, 0, none⟩ = some (.int .i64 (nv0 : Int)) := Blk.cell hx (by simp [ddPre])
  have cf := hx.unfrozen
  have hx1 := hx.setPre 0 (.int .i64 (nv : Int)) (by simp [ddPre])
  have K1 : Keep [xb] w (w.setCell ⟨xb, 0, none⟩ (.int .i64 (nv : Int))) := (Keep.refl _ _).set (by simp) _ _ _
  have hD1 := hD.keep K1 (by simp; exact Ne.symm xd)
  have hE1 := hE.keep K1 (by simp; exact Ne.symm xe)
  obtain ⟨cs, hcs, hcell⟩ := hD1.cellAt
  have hd0 := hcs.cell (hcell 0 W rfl)
  rw [Nat.zero_add] at hd0
  have hWi : ¬ (64 : Int) ≤ (W : Int) := by omega
  have hc1 : ¬ cap = 1 := by omega
  have hDb := hD1.back 1 (by omega)
  rw [Nat.zero_add, Nat.add_sub_cancel] at hDb
  have hR := resetIndexC xb nv d 1 n (cap - 1) mem conv ea D W rs rest v0 v1 v2 _ hx1 hDb hE1 xd xe hW0 (by omega) hn8 hrs hr
  have HR := Lib.hid (And.intro hR K1)
  have hNc : N ≤ cap := by omega
  have hN0 : ¬ N = 0 := by omega
  have hN1 : N - 1 = n := by omega
  have hNb : N ≤ 1099511627776 := by omega
  rw [← hN]
  have HN := Lib.hid hN1
  clear hx hD hE hrs hr hx1 hD1 hE1 hDb hR K1 hcell hcs hN hN1
  go_enter Tryz.func53, Tryz.ntmps53
  go_wp2_with fail
  rw [HN.out]
  refine HR.out.1.mono ?_
  rintro e w2 ⟨rfl, k2, t, q, ht, hq, hA⟩
  have HF := Lib.hid (And.intro k2 (And.intro ht (And.intro hq hA)))
  clear k2 ht hq hA
  go_wp2
  go_ret
  exact ⟨rfl, HR.out.2.trans HF.out.1 (by simp), t, q, by simpa using HF.out.2.1, by simpa using HF.out.2.2.1, HF.out.2.2.2⟩
end Go.Proofs.YtlolcgklcnechaaGreatDoor
