/- laws.FnDictionaryFloat32Read: for every input the law returns true and each argument reads behind the call as it did. The row, lifted. -/
import Derived.Test.YtlolcgklcnechaaGreatDoorXX35
import Derived.Test.YtlolcgklcnechaaGreatDoorTie
import Derived.Test.YtlolcgklcnechaaGreatDoorCards
import Derived.ProofKit
import Derived.LaidMore
import Derived.OpenShut
import Derived.OpenVars
import Derived.Stop.Joined
import Derived.Stop.LaidErr
import Derived.MakeChecks
import Derived.SevenTiedAt
import Derived.Deep.Slices
import Derived.Deep.Fields
import Derived.ChangeSame
import Derived.Carry
set_option linter.unusedVariables false
set_option linter.unusedSimpArgs false
namespace Go.Proofs.YtlolcgklcnechaaGreatDoor
open Go.ChangeShapes Go.WideShapes Go.ChangeAt Go.WideElems Go.RowKit
open Go.Proofs.YtlolcgklcnechaaGreatDoor

theorem own : ownKnob Tryz.prog.godebug = none := by kernel_rfl
theorem laidOut : laidOutB Tryz.prog = true := by kernel_rfl
theorem cellsU64 : Tryz.prog.cellsOf 43 = 1 := by kernel_rfl
theorem cellsInt : Tryz.prog.cellsOf 3 = 1 := by kernel_rfl
theorem cellsValue : Tryz.prog.cellsOf 45 = 4 := by kernel_rfl
theorem cellsRun : Tryz.prog.cellsOf 96 = 3 := by kernel_rfl
theorem cellsErr : Tryz.prog.cellsOf 240 = 1 := by kernel_rfl
theorem cellsStr : Tryz.prog.cellsOf 9 = 1 := by kernel_rfl
theorem gEof : Tryz.prog.globalNamed "io.EOF" = some 4 := by kernel_rfl
theorem starErr : "*" ++ "errors.errorString" = "*errors.errorString" := by decide
set_option maxRecDepth 100000 in
theorem rowErr (u : TypeId) (h : Tryz.prog.typeName? 3 u = some "*errors.errorString") : u = 238 :=
  typeName_ptr_named (nm := "errors.errorString") (by rw [starErr]; kernel_rfl) (by kernel_rfl) (by decide) u (by rw [starErr]; exact h)

set_option maxRecDepth 100000 in
/-- io.EOF holds an error when the call begins. -/
theorem eof_of_laid {W : World} (h : laidMetH Tryz.prog Rows.fnDictionaryFloat32ReadRow.laid W) : ∃ ea, Eof W ea := by
  rw [MakeChecks.laidMetH_plain _ _ _ (by kernel_rfl)] at h
  have h1 := laidMet.tail (show laidMet Tryz.prog (("io.ErrShortBuffer", Rows.laid_io_ErrShortBuffer) :: ("io.EOF", Rows.laid_io_EOF) :: _) W from h)
  obtain ⟨a, s, hv, -⟩ := laid_sentinel (show laidMet Tryz.prog (("io.EOF", .iface "*errors.errorString" (.ptr (.agg [.lit (.string [69, 79, 70])]))) :: _) W from h1) gEof (by kernel_rfl : (Tryz.prog.globals[4]?).map (·.type) = some 82) Tryz.underlying82 rowErr Tryz.underlying238 Tryz.underlying240 rfl rfl Tryz.underlying9 cellsErr cellsStr
  refine ⟨a, ?_⟩
  have := World.var?_cell gEof hv 0
  unfold Eof
  simpa using this

set_option maxRecDepth 100000 in
theorem door_met (os : Os) (args : Array Value) : laidMetH Tryz.prog Rows.fnDictionaryFloat32ReadRow.laid ((World.doorLaid Tryz.prog 110 os).forCall (fun _ _ => 0) ⟨#[], args, []⟩).memory :=
  laidMetH_of_parts3 (fuel := 8) (laidMet_of_run' 8 (by kernel_rfl) (by kernel_rfl)) (by kernel_rfl) (by kernel_rfl)

section
open Go.Deep
variable {H : Type} {enc : TypeId × Value → H} {P : Program} {w : World} {base : Nat} {spare : Nat → Bool} {held : Bool}
theorem open_slice_fields {t e : TypeId} {fs : Array Field} {fuel : Nat} {cs : List Value} {x : DataW H × List MemPlace} (ht : P.underlying t = some (.slice e)) (he : P.underlying e = some (.struct fs))
    (hone : oneCellFields P fs = true) (hC : P.cellsOf e = fs.size) (h : DataW.trod enc P w base spare held fuel t cs = some x) :
    (cs = [.slice none 0 0] ∧ x = (.nil, [])) ∨
    ∃ (a : Addr) (len cap m : Nat) (D : Nat → DataW H) (Pl : Nat → List MemPlace), cs = [.slice (some a) len cap] ∧ base ≤ a.block ∧ len ≤ cap ∧ cap ≤ maxLen ∧ m = (if spare a.block then cap else len) ∧
      x = (.slice ((List.range len).map D) ((List.range (m - len)).map fun j => D (len + j)), MemPlace.row a (m * fs.size) ++ (List.range m).flatMap Pl) ∧
      ∀ i, i < m → ∃ (ys : List (DataW H × List MemPlace)) (n : Nat), D i = .agg (ys.map (·.1)) ∧ Pl i = ys.flatMap (·.2) ∧ ys.length = fs.size ∧
        ∀ (j : Nat) (f : Field), fs[j]? = some f → ∃ (v : Value) (y : DataW H × List MemPlace), w.cell? (a.add (i * fs.size + j)) = some v ∧ ys[j]? = some y ∧ DataW.trod enc P w base spare held n f.type [v] = some y := by
  rcases open_slice ht h with h0 | ⟨a, len, cap, m, n, D, Pl, hcs, hb, hl, hm, hmm, hx, hi⟩
  · exact .inl h0
  · refine .inr ⟨a, len, cap, m, D, Pl, hcs, hb, hl, hm, hmm, by rw [hC] at hx; exact hx, fun i him => ?_⟩
    obtain ⟨cs', hc, ht'⟩ := hi i him
    rw [hC] at hc
    obtain ⟨ys, n', hn', hy, hlen, hyl, hf⟩ := DataW.trod_struct he ht'
    obtain ⟨_, hcl, hat⟩ := World.cells?_some hc
    simp only [Prod.mk.injEq] at hy
    refine ⟨ys, n', hy.1, hy.2, hyl, fun j f hj => ?_⟩
    obtain ⟨ho, hk⟩ := hone_of hone j f hj
    have hjl : j < fs.size := (Array.getElem?_eq_some_iff.1 hj).1
    have hcell := hat j hjl
    have hv : cs'[j]? = some (cs'[j]'(by omega)) := List.getElem?_eq_getElem (by omega)
    have h1 := hf j f hj
    rw [ho, hk] at h1
    have hone' : (cs'.drop j).take 1 = [cs'[j]'(by omega)] := by
      rw [List.drop_eq_getElem_cons (by omega)]
      rfl
    rw [hone'] at h1
    have hys : ys[j]? = some (ys[j]'(by omega)) := List.getElem?_eq_getElem (by omega)
    refine ⟨_, _, ?_, hys, h1.trans hys⟩
    rw [← Go.Deep.add_add, hcell, hv]
end

section
variable {H : Type} {enc : TypeId × Value → H} {W : World}

/-- A slice of uint64 among what is read. -/
theorem open_row64 {v : Value} {fuel : Nat} {x : DataW H × List MemPlace} (hf : DataW.trod enc Tryz.prog W 0 (fun _ => true) true fuel 22 [v] = some x) :
    ∃ vs : List Nat, RowAt W v .u64 vs ∧ ∀ x ∈ vs, x < 18446744073709551616 := by
  rcases open_ints Tryz.underlying22 Tryz.underlying43 cellsU64 hf with ⟨hcs, hx⟩ | ⟨a, len, cap, zs, hcs, _, hl, hm, hz, hx, hcell, hwz⟩
  · simp at hcs
    subst hcs
    exact ⟨[], .inl ⟨rfl, rfl⟩, by simp⟩
  · simp at hcs
    subst hcs
    have hzl : zs.length = cap := by simpa using hz
    have hwf : ∀ n ∈ zs, 0 ≤ n ∧ n < 18446744073709551616 := fun n hn => by
      have := hwz n hn
      simp only [Lit.wf, Bool.and_eq_true, decide_eq_true_eq] at this
      have e1 : IntKind.u64.min = 0 := by rfl
      have e2 : IntKind.u64.max = 18446744073709551615 := by rfl
      rw [e1, e2] at this
      omega
    refine ⟨(zs.take len).map Int.toNat, .inr ⟨a, cap, by rw [List.length_map, List.length_take]; congr 1; omega, by simp; omega, fun i x hi => ?_⟩, fun x hx => ?_⟩
    · rw [List.getElem?_map, List.getElem?_take] at hi
      split at hi
      · rename_i hil
        have hiz : i < zs.length := by omega
        rw [List.getElem?_eq_getElem hiz] at hi
        simp at hi
        have h1 := hcell i hiz
        have h2 := hwf zs[i] (List.getElem_mem _)
        rw [h1, show zs.getD i 0 = zs[i] by simp [List.getD, List.getElem?_eq_getElem hiz], ← hi]
        congr 2
        omega
      · simp at hi
    · rw [List.mem_map] at hx
      obtain ⟨n, hn, rfl⟩ := hx
      have := hwf n (List.mem_of_mem_take hn)
      omega

/-- A slice of int among the arguments. -/
theorem open_rowInt {v : Value} {d : DataW H} {ps : List MemPlace} (hs : ∃ a len cap, v = .slice a len cap) (h : DataW.Trod enc Tryz.prog W 0 (fun _ => true) true 23 v d ps) :
    ∃ bs : List Int, IntsAt W v bs ∧ ∀ x ∈ bs, -9223372036854775808 ≤ x ∧ x ≤ 9223372036854775807 := by
  obtain ⟨a0, len, cap, rfl⟩ := hs
  obtain ⟨fuel, hf⟩ := h
  rcases open_ints Tryz.underlying23 Tryz.underlying3 cellsInt hf with ⟨hcs, hx⟩ | ⟨a, len', cap', zs, hcs, _, hl, hm, hz, hx, hcell, hwz⟩
  · simp [Value.cells] at hcs
    obtain ⟨rfl, rfl, rfl⟩ := hcs
    exact ⟨[], .inl ⟨rfl, rfl⟩, by simp⟩
  · simp [Value.cells] at hcs
    obtain ⟨rfl, rfl, rfl⟩ := hcs
    have hzl : zs.length = cap := by simpa using hz
    have hwf : ∀ n ∈ zs, -9223372036854775808 ≤ n ∧ n ≤ 9223372036854775807 := fun n hn => by
      have := hwz n hn
      simp only [Lit.wf, Bool.and_eq_true, decide_eq_true_eq] at this
      have e1 : IntKind.i64.min = -9223372036854775808 := by rfl
      have e2 : IntKind.i64.max = 9223372036854775807 := by rfl
      rw [e1, e2] at this
      omega
    refine ⟨zs.take len, .inr ⟨a, cap, by rw [List.length_take]; congr 1; omega, by simp; omega, fun i x hi => ?_⟩, fun x hx => hwf x (List.mem_of_mem_take hx)⟩
    rw [List.getElem?_take] at hi
    split at hi
    · rename_i hil
      have hiz : i < zs.length := by omega
      have h1 := hcell i hiz
      rw [h1, show zs.getD i 0 = x by simp [List.getD, hi]]
    · cases hi

theorem add_off (a : Addr) (i j : Nat) : a.add (i + (j + 1)) = ⟨(a.add i).block, (a.add i).off + (j + 1), none⟩ := by
  unfold Addr.add
  by_cases hi : i = 0
  · subst hi
    simp
  · simp [hi, Nat.add_assoc]

/-- A slice of values among the arguments. -/
theorem open_vals {v : Value} {d : DataW H} {ps : List MemPlace} (hs : ∃ a len cap, v = .slice a len cap) (h : DataW.Trod enc Tryz.prog W 0 (fun _ => true) true 34 v d ps) :
    ∃ l : List Vq, ValsAt W v l ∧ ∀ q ∈ l, q.num < 18446744073709551616 := by
  obtain ⟨a0, len, cap, rfl⟩ := hs
  obtain ⟨fuel, hf⟩ := h
  rcases open_slice_fields Tryz.underlying34 Tryz.underlying45 (by kernel_rfl) cellsValue hf with ⟨hcs, hx⟩ | ⟨a, len', cap', m, D, Pl, hcs, _, hl, _, hm, hx, hi⟩
  · simp [Value.cells] at hcs
    obtain ⟨rfl, rfl, rfl⟩ := hcs
    exact ⟨[], ⟨none, 0, rfl, Nat.le_refl _, fun i q hq => by simp at hq⟩, by simp⟩
  · simp [Value.cells] at hcs
    obtain ⟨rfl, rfl, rfl⟩ := hcs
    simp at hm
    subst hm
    have key : ∀ i, i < len → ∃ q : Vq, q.num < 18446744073709551616 ∧ W.cell? (a.add (i * 4)) = some (.bool q.null) ∧ W.cell? ⟨(a.add (i * 4)).block, (a.add (i * 4)).off + 1, none⟩ = some (.int .u64 (q.num : Int)) ∧
        W.cell? ⟨(a.add (i * 4)).block, (a.add (i * 4)).off + 2, none⟩ = some (.string q.text) ∧ W.cell? ⟨(a.add (i * 4)).block, (a.add (i * 4)).off + 3, none⟩ = some (.slice q.ka q.kl q.kc) := fun i hil => by
      obtain ⟨ys, n, -, -, -, hfld⟩ := hi i (by omega)
      obtain ⟨v0, y0, c0, -, t0⟩ := hfld 0 _ rfl
      obtain ⟨v1, y1, c1, -, t1⟩ := hfld 1 _ rfl
      obtain ⟨v2, y2, c2, -, t2⟩ := hfld 2 _ rfl
      obtain ⟨v3, y3, c3, -, t3⟩ := hfld 3 _ rfl
      obtain ⟨b, h0, -⟩ := DataW.trod_bool Tryz.underlying4 t0
      obtain ⟨z, h1, -, hz⟩ := DataW.trod_int Tryz.underlying43 t1
      obtain ⟨s, h2, -⟩ := DataW.trod_string Tryz.underlying9 t2
      have h3 : ∃ ka kl kc, v3 = .slice ka kl kc := by
        rcases DataW.trod_slice Tryz.underlying34 t3 with ⟨h3, -⟩ | ⟨a', l', c', el, re, n', -, h3, -⟩
        · simp at h3; exact ⟨_, _, _, h3⟩
        · simp at h3; exact ⟨_, _, _, h3⟩
      obtain ⟨ka, kl, kc, rfl⟩ := h3
      simp at h0 h1 h2
      subst h0 h1 h2
      simp only [Lit.wf, Bool.and_eq_true, decide_eq_true_eq] at hz
      have e1 : IntKind.u64.min = 0 := by rfl
      have e2 : IntKind.u64.max = 18446744073709551615 := by rfl
      rw [e1, e2] at hz
      have hzz : ((z.toNat : Nat) : Int) = z := by omega
      refine ⟨⟨b, z.toNat, s, ka, kl, kc⟩, by show z.toNat < _; omega, c0, ?_, ?_, ?_⟩
      · rw [hzz]
        have := c1; rwa [show (1 : Nat) = 0 + 1 from rfl, add_off] at this
      · have := c2; rwa [show (2 : Nat) = 1 + 1 from rfl, add_off] at this
      · have := c3; rwa [show (3 : Nat) = 2 + 1 from rfl, add_off] at this
    have key2 : ∀ i, ∃ q : Vq, i < len → (q.num < 18446744073709551616 ∧ W.cell? (a.add (i * 4)) = some (.bool q.null) ∧ W.cell? ⟨(a.add (i * 4)).block, (a.add (i * 4)).off + 1, none⟩ = some (.int .u64 (q.num : Int)) ∧
        W.cell? ⟨(a.add (i * 4)).block, (a.add (i * 4)).off + 2, none⟩ = some (.string q.text) ∧ W.cell? ⟨(a.add (i * 4)).block, (a.add (i * 4)).off + 3, none⟩ = some (.slice q.ka q.kl q.kc)) := fun i => by
      by_cases hil : i < len
      · obtain ⟨q, hq⟩ := key i hil
        exact ⟨q, fun _ => hq⟩
      · exact ⟨dq, fun h => absurd h hil⟩
    obtain ⟨f, hf2⟩ := Classical.axiomOfChoice key2
    refine ⟨(List.range len).map f, ⟨some a, m, by simp, by simpa using hl, fun i q hq => ?_⟩, fun q hq => ?_⟩
    · rw [List.getElem?_map] at hq
      by_cases hil : i < len
      · rw [List.getElem?_range hil] at hq
        simp at hq
        subst hq
        exact ⟨a, rfl, (hf2 i hil).2⟩
      · rw [List.getElem?_eq_none (by simp; omega)] at hq; cases hq
    · rw [List.mem_map] at hq
      obtain ⟨i, hi2, rfl⟩ := hq
      exact (hf2 i (List.mem_range.1 hi2)).1

/-- A slice of runs among the arguments. -/
theorem open_runs {v : Value} {d : DataW H} {ps : List MemPlace} (hs : ∃ a len cap, v = .slice a len cap) (h : DataW.Trod enc Tryz.prog W 0 (fun _ => true) true 35 v d ps) :
    ∃ l : List Rq, RunsAt W v l ∧ ∀ r ∈ l, (∀ x ∈ r.vs, x < 18446744073709551616) ∧ -9223372036854775808 ≤ r.count ∧ r.count ≤ 9223372036854775807 := by
  obtain ⟨a0, len, cap, rfl⟩ := hs
  obtain ⟨fuel, hf⟩ := h
  rcases open_slice_fields Tryz.underlying35 Tryz.underlying96 (by kernel_rfl) cellsRun hf with ⟨hcs, hx⟩ | ⟨a, len', cap', m, D, Pl, hcs, _, hl, _, hm, hx, hi⟩
  · simp [Value.cells] at hcs
    obtain ⟨rfl, rfl, rfl⟩ := hcs
    exact ⟨[], ⟨none, 0, rfl, Nat.le_refl _, fun i q hq => by simp at hq⟩, by simp⟩
  · simp [Value.cells] at hcs
    obtain ⟨rfl, rfl, rfl⟩ := hcs
    simp at hm
    subst hm
    have key2 : ∀ i, ∃ r : Rq, i < len → (((∀ x ∈ r.vs, x < 18446744073709551616) ∧ -9223372036854775808 ≤ r.count ∧ r.count ≤ 9223372036854775807) ∧ ∃ lv, W.cell? (a.add (i * 3)) = some (.bool r.packed) ∧
        W.cell? ⟨(a.add (i * 3)).block, (a.add (i * 3)).off + 1, none⟩ = some (.int .i64 r.count) ∧ W.cell? ⟨(a.add (i * 3)).block, (a.add (i * 3)).off + 2, none⟩ = some lv ∧ RowAt W lv .u64 r.vs) := fun i => by
      by_cases hil : i < len
      · obtain ⟨ys, n, -, -, -, hfld⟩ := hi i (by omega)
        obtain ⟨v0, y0, c0, -, t0⟩ := hfld 0 _ rfl
        obtain ⟨v1, y1, c1, -, t1⟩ := hfld 1 _ rfl
        obtain ⟨v2, y2, c2, -, t2⟩ := hfld 2 _ rfl
        obtain ⟨b, h0, -⟩ := DataW.trod_bool Tryz.underlying4 t0
        obtain ⟨z, h1, -, hz⟩ := DataW.trod_int Tryz.underlying3 t1
        obtain ⟨vs, hvs, hvb⟩ := open_row64 t2
        simp at h0 h1
        subst h0 h1
        simp only [Lit.wf, Bool.and_eq_true, decide_eq_true_eq] at hz
        have e1 : IntKind.i64.min = -9223372036854775808 := by rfl
        have e2 : IntKind.i64.max = 9223372036854775807 := by rfl
        rw [e1, e2] at hz
        refine ⟨⟨b, z, vs⟩, fun _ => ⟨⟨hvb, hz⟩, v2, c0, ?_, ?_, hvs⟩⟩
        · have := c1; rwa [show (1 : Nat) = 0 + 1 from rfl, add_off] at this
        · have := c2; rwa [show (2 : Nat) = 1 + 1 from rfl, add_off] at this
      · exact ⟨⟨false, 0, []⟩, fun h => absurd h hil⟩
    obtain ⟨f, hf2⟩ := Classical.axiomOfChoice key2
    refine ⟨(List.range len).map f, ⟨some a, m, by simp, by simpa using hl, fun i q hq => ?_⟩, fun q hq => ?_⟩
    · rw [List.getElem?_map] at hq
      by_cases hil : i < len
      · rw [List.getElem?_range hil] at hq
        simp at hq
        subst hq
        obtain ⟨-, lv, h1, h2, h3, h4⟩ := hf2 i hil
        exact ⟨a, lv, rfl, h1, h2, h3, h4⟩
      · rw [List.getElem?_eq_none (by simp; omega)] at hq; cases hq
    · rw [List.mem_map] at hq
      obtain ⟨i, hi2, rfl⟩ := hq
      exact (hf2 i (List.mem_range.1 hi2)).1
end

set_option maxRecDepth 100000 in
theorem lifted (os : Os) (started : os.Started) (H : Type) (enc : TypeId × Value → H) :
    ReturnsInHanded {} Tryz.checked os 4 .any (fun w args => (Rows.fnDictionaryFloat32ReadSpec.pre enc Tryz.prog Tryz.f4 [] false w args ∧ laidMetH Tryz.prog Rows.fnDictionaryFloat32ReadRow.laid w) ∧ sizedMet enc Tryz.prog Tryz.f4 (OpenSpec.ofChange Rows.fnDictionaryFloat32ReadSpec) false w args)
      (Rows.fnDictionaryFloat32ReadSpec.post enc Tryz.prog Tryz.f4 false true false false) := by
  refine returnsInHanded_of_change_and (C := Tryz.checked) (X := fun w _ => laidMetH Tryz.prog Rows.fnDictionaryFloat32ReadRow.laid w) (fun _ _ _ hh h => h.of_heap hh) own started (by kernel_rfl) Tryz.func4
    (ChangeSpec.witness_shaped (enc := enc) (C := Tryz.checked) (os := os) (X := fun w _ => laidMetH Tryz.prog Rows.fnDictionaryFloat32ReadRow.laid w) false (World.doorLaid Tryz.prog 110 os) #[.slice none 0 0, .int .i64 0, .slice none 0 0, .slice none 0 0] 8 rfl (World.shaped_of_RefB (by kernel_rfl) (by kernel_rfl)) (by kernel_rfl) (by kernel_rfl) (by kernel_rfl) (door_met os _)) ?_
  intro W base args ds gs before hval0 hW _ _ hL _
  have hval : ∀ (j : Nat) t v, Tryz.f4.params[j]? = some t → args[j]? = some v → Value.okWide Tryz.prog W .any base t v := hval0
  have hW' := hW
  obtain ⟨p, q, hA0, hV, rfl, hfz, hnd⟩ := hW
  have hA : DataW.TrodAll enc Tryz.prog W 0 (fun _ => true) true Tryz.f4.params.toList args.toList ds p := hA0
  rw [Tryz.params4] at hA hval
  obtain ⟨v0, v1, v2, v3, d0, d1, d2, d3, p0, p1, p2, p3, rfl, rfl, rfl, h0, h1, h2, h3⟩ := trodAll_four hA
  obtain ⟨ea, hE⟩ := eof_of_laid hL
  obtain ⟨dict, hdict, hdb⟩ := open_vals (okWide_slice Tryz.underlying34 (hval 0 34 v0 rfl rfl)) h0
  obtain ⟨rs, hrs, hrb⟩ := open_runs (okWide_slice Tryz.underlying35 (hval 2 35 v2 rfl rfl)) h2
  obtain ⟨bs, hbs, hbb⟩ := open_rowInt (okWide_slice Tryz.underlying23 (hval 3 23 v3 rfl rfl)) h3
  obtain ⟨n, rfl, rfl, rfl, hn⟩ := open_int Tryz.underlying3 (hval 1 3 v1 rfl rfl) h1
  have hlt : ∀ x ∈ p0 ++ [] ++ p2 ++ p3 ++ q, x.block < W.heap.size := fun x hx => by simpa using hW'.lt x hx
  refine (fnDictReadC v0 v2 v3 n dict rs bs ea W hdict hrs hbs hE hdb (fun r hr => (hrb r hr).1) (fun r hr => (hrb r hr).2) hbb).mono fun e W' ⟨he, hk⟩ => ?_
  subst he
  have hB := hk.below
  have e0 := Below.trod laidOut (by kernel_rfl) (of_decide_eq_true (by kernel_rfl)) h0 hB (fun x hx => hlt x (by simp [hx]))
  have e2 := Below.trod laidOut (by kernel_rfl) (of_decide_eq_true (by kernel_rfl)) h2 hB (fun x hx => hlt x (by simp [hx]))
  have e3 := Below.trod laidOut (by kernel_rfl) (of_decide_eq_true (by kernel_rfl)) h3 hB (fun x hx => hlt x (by simp [hx]))
  have ev := Below.trodVars laidOut hB (by kernel_rfl) hV
  obtain ⟨rfl, -⟩ := trodVars_none hV
  exact ⟨_, rfl, _, _, _, [], p0 ++ ([] ++ (p2 ++ p3)), q, hW', trodAll_mk1 (shut_bool Tryz.underlying4 _), trodAll_mk4 e0 (shut_int Tryz.underlying3 hn) e2 e3, ev, hB.frame _, fun h => by cases h⟩
end Go.Proofs.YtlolcgklcnechaaGreatDoor
