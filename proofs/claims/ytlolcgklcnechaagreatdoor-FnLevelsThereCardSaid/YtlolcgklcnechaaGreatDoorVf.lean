/- laws.FnLevelsThere: for every input the law returns true and each argument reads behind the call as it did. The row, lifted. -/
import Derived.Test.YtlolcgklcnechaaGreatDoorV17
import Derived.Test.YtlolcgklcnechaaGreatDoorTie
import Derived.Test.YtlolcgklcnechaaGreatDoorCards
import Derived.ProofKit
import Derived.LaidMore
import Derived.OpenShut
import Derived.OpenVars
import Derived.Stop.Joined
import Derived.Stop.LaidErr
import Derived.MakeChecks
import Derived.SevenTiedAt
import Derived.Deep.Matrix
set_option linter.unusedVariables false
set_option linter.unusedSimpArgs false
namespace Go.Proofs.YtlolcgklcnechaaGreatDoor
open Go.ChangeShapes Go.WideShapes Go.ChangeAt Go.WideElems Go.RowKit
open Go.Proofs.YtlolcgklcnechaaGreatDoor

theorem own : ownKnob Tryz.prog.godebug = none := by kernel_rfl
theorem laidOut : laidOutB Tryz.prog = true := by kernel_rfl
theorem cellsI16 : Tryz.prog.cellsOf 68 = 1 := by kernel_rfl
theorem cellsI16s : Tryz.prog.cellsOf 65 = 1 := by kernel_rfl
theorem cellsErr : Tryz.prog.cellsOf 240 = 1 := by kernel_rfl
theorem cellsStr : Tryz.prog.cellsOf 9 = 1 := by kernel_rfl
theorem gEof : Tryz.prog.globalNamed "io.EOF" = some 4 := by kernel_rfl
theorem starErr : "*" ++ "errors.errorString" = "*errors.errorString" := by decide
set_option maxRecDepth 100000 in
theorem rowErr (u : TypeId) (h : Tryz.prog.typeName? 3 u = some "*errors.errorString") : u = 238 :=
  typeName_ptr_named (nm := "errors.errorString") (by rw [starErr]; kernel_rfl) (by kernel_rfl) (by decide) u (by rw [starErr]; exact h)

set_option maxRecDepth 100000 in
/-- io.EOF holds an error when the call begins. -/
theorem eof_of_laid {W : World} (h : laidMetH Tryz.prog Rows.fnLevelsThereRow.laid W) : ∃ ea, Eof W ea := by
  rw [MakeChecks.laidMetH_plain _ _ _ (by kernel_rfl)] at h
  have h1 := laidMet.tail (show laidMet Tryz.prog (("io.ErrShortBuffer", Rows.laid_io_ErrShortBuffer) :: ("io.EOF", Rows.laid_io_EOF) :: _) W from h)
  obtain ⟨a, s, hv, -⟩ := laid_sentinel (show laidMet Tryz.prog (("io.EOF", .iface "*errors.errorString" (.ptr (.agg [.lit (.string [69, 79, 70])]))) :: _) W from h1) gEof (by kernel_rfl : (Tryz.prog.globals[4]?).map (·.type) = some 82) Tryz.underlying82 rowErr Tryz.underlying238 Tryz.underlying240 rfl rfl Tryz.underlying9 cellsErr cellsStr
  refine ⟨a, ?_⟩
  have := World.var?_cell gEof hv 0
  unfold Eof
  simpa using this

set_option maxRecDepth 100000 in
theorem door_met (os : Os) (args : Array Value) : laidMetH Tryz.prog Rows.fnLevelsThereRow.laid ((World.doorLaid Tryz.prog 110 os).forCall (fun _ _ => 0) ⟨#[], args, []⟩).memory :=
  laidMetH_of_parts3 (fuel := 8) (laidMet_of_run' 8 (by kernel_rfl) (by kernel_rfl)) (by kernel_rfl) (by kernel_rfl)

section
variable {H : Type} {enc : TypeId × Value → H} {W : World}

/-- A slice of slices of int16 among the arguments. -/
theorem open_parts {v : Value} {d : DataW H} {ps : List MemPlace} (hs : ∃ a len cap, v = .slice a len cap) (h : DataW.Trod enc Tryz.prog W 0 (fun _ => true) true 60 v d ps) :
    ∃ l : List (List Int), PartsAt W v .i16 l ∧ l.length ≤ 9223372036854775807 ∧ (∀ x ∈ l, x.length ≤ 9223372036854775807) ∧ ∀ x ∈ l.flatten, -32768 ≤ x ∧ x ≤ 32767 := by
  obtain ⟨a0, len, cap, rfl⟩ := hs
  obtain ⟨fuel, hf⟩ := h
  rcases Go.Deep.open_int_rows Tryz.underlying60 Tryz.underlying65 Tryz.underlying68 cellsI16s cellsI16 hf with ⟨hcs, hx⟩ | ⟨a, len', cap', AA, L, C, Z, hcs, _, hl, hm, hx, hr⟩
  · simp [Value.cells] at hcs
    obtain ⟨rfl, rfl, rfl⟩ := hcs
    exact ⟨[], ⟨none, 0, rfl, Nat.le_refl _, fun i l hl => by simp at hl⟩, by simp, by simp, by simp⟩
  · simp [Value.cells] at hcs
    obtain ⟨rfl, rfl, rfl⟩ := hcs
    have hmax : maxLen = 9223372036854775807 := by rfl
    have hlen : ((List.range len).map fun r => (Z r).take (L r)).length = len := by simp
    refine ⟨(List.range len).map fun r => (Z r).take (L r), ⟨some a, cap, by rw [hlen], by rw [hlen]; exact hl, fun i l hi => ?_⟩, by rw [hlen]; omega, fun x hx => ?_, fun x hx => ?_⟩
    · have hil : i < len := by have := (List.getElem?_eq_some_iff.1 hi).1; omega
      obtain ⟨h1, h2, h3, h4, h5, h6, h7⟩ := hr i (by omega)
      rw [List.getElem?_map, List.getElem?_range hil] at hi
      simp at hi
      have hll : l.length = L i := by rw [← hi, List.length_take, h4]; omega
      refine ⟨a, _, rfl, h1, AA i, C i, by rw [hll], by rw [hll]; exact h2, fun j x hx => ?_, h6⟩
      have hj : j < L i := by have := (List.getElem?_eq_some_iff.1 hx).1; omega
      rw [← hi, List.getElem?_take, if_pos hj] at hx
      cases hA : AA i with
      | none => have := h6 hA; omega
      | some a' =>
        refine ⟨a', rfl, ?_⟩
        rw [(h7 a' hA).2 j (by omega)]
        simp [List.getD, hx]
    · rw [List.mem_map] at hx
      obtain ⟨r, hr1, rfl⟩ := hx
      have hr2 := List.mem_range.1 hr1
      obtain ⟨h1, h2, h3, h4, h5, h6, h7⟩ := hr r (by omega)
      rw [List.length_take, h4]; omega
    · rw [List.mem_flatten] at hx
      obtain ⟨l, hl', hxl⟩ := hx
      rw [List.mem_map] at hl'
      obtain ⟨r, hr1, rfl⟩ := hl'
      have hr2 := List.mem_range.1 hr1
      obtain ⟨h1, h2, h3, h4, h5, h6, h7⟩ := hr r (by omega)
      have := h5 x (List.mem_of_mem_take hxl)
      simp only [Lit.wf, Bool.and_eq_true, decide_eq_true_eq] at this
      have e1 : IntKind.i16.min = -32768 := by rfl
      have e2 : IntKind.i16.max = 32767 := by rfl
      rw [e1, e2] at this
      omega
end

set_option maxRecDepth 100000 in
theorem lifted (os : Os) (started : os.Started) (H : Type) (enc : TypeId × Value → H) :
    ReturnsInHanded {} Tryz.checked os 6 .any (fun w args => (Rows.fnLevelsThereSpec.pre enc Tryz.prog Tryz.f6 [] false w args ∧ laidMetH Tryz.prog Rows.fnLevelsThereRow.laid w) ∧ sizedMet enc Tryz.prog Tryz.f6 (OpenSpec.ofChange Rows.fnLevelsThereSpec) false w args)
      (Rows.fnLevelsThereSpec.post enc Tryz.prog Tryz.f6 false true false false) := by
  refine returnsInHanded_of_change_and (C := Tryz.checked) (X := fun w _ => laidMetH Tryz.prog Rows.fnLevelsThereRow.laid w) (fun _ _ _ hh h => h.of_heap hh) own started (by kernel_rfl) Tryz.func6
    (ChangeSpec.witness_shaped (enc := enc) (C := Tryz.checked) (os := os) (X := fun w _ => laidMetH Tryz.prog Rows.fnLevelsThereRow.laid w) false (World.doorLaid Tryz.prog 110 os) #[.bool false, .int .i64 0, .slice none 0 0] 8 rfl (World.shaped_of_RefB (by kernel_rfl) (by kernel_rfl)) (by kernel_rfl) (by kernel_rfl) (by kernel_rfl) (door_met os _)) ?_
  intro W base args ds gs before hval0 hW _ _ hL _
  have hval : ∀ (j : Nat) t v, Tryz.f6.params[j]? = some t → args[j]? = some v → Value.okWide Tryz.prog W .any base t v := hval0
  have hW' := hW
  obtain ⟨p, q, hA0, hV, rfl, hfz, hnd⟩ := hW
  have hA : DataW.TrodAll enc Tryz.prog W 0 (fun _ => true) true Tryz.f6.params.toList args.toList ds p := hA0
  rw [Tryz.params6] at hA hval
  obtain ⟨v0, v1, v2, d0, d1, d2, p0, p1, p2, rfl, rfl, rfl, h0, h1, h2⟩ := trodAll_three hA
  obtain ⟨ea, hE⟩ := eof_of_laid hL
  obtain ⟨ps, hps, hpn, hpl, hpb⟩ := open_parts (okWide_slice Tryz.underlying60 (hval 2 60 v2 rfl rfl)) h2
  obtain ⟨n, rfl, rfl, rfl, hn⟩ := open_int Tryz.underlying3 (hval 1 3 v1 rfl rfl) h1
  obtain ⟨b, rfl, rfl, rfl⟩ := open_bool Tryz.underlying4 (hval 0 4 v0 rfl rfl) h0
  have hlt : ∀ x ∈ [] ++ [] ++ p2 ++ q, x.block < W.heap.size := fun x hx => by simpa using hW'.lt x hx
  refine (fnLevelsThereC b v2 n ps ea W hps hE hpn hpl hpb).mono fun e W' ⟨he, hk⟩ => ?_
  subst he
  have hB := hk.below
  have e2 := Below.trod laidOut (by kernel_rfl) (of_decide_eq_true (by kernel_rfl)) h2 hB (fun x hx => hlt x (by simp [hx]))
  have ev := Below.trodVars laidOut hB (by kernel_rfl) hV
  obtain ⟨rfl, -⟩ := trodVars_none hV
  exact ⟨_, rfl, _, _, _, [], [] ++ ([] ++ p2), q, hW', trodAll_mk1 (shut_bool Tryz.underlying4 _), trodAll_mk3 (shut_bool Tryz.underlying4 _) (shut_int Tryz.underlying3 hn) e2, ev, hB.frame _, fun h => by cases h⟩
end Go.Proofs.YtlolcgklcnechaaGreatDoor
