/- The closed facts of the row, each by itself. -/
import Derived.Test.YtlolcgklcnechaaGreatDoorXXf
set_option linter.unusedVariables false
set_option linter.unusedSimpArgs false
namespace Go.Proofs.YtlolcgklcnechaaGreatDoor
open Go.ChangeShapes Go.WideShapes Go.ChangeAt Go.WideElems Go.RowKit
open Go.Proofs.YtlolcgklcnechaaGreatDoor
theorem fact0 : (Rows.fnDictionaryFloat32ReadRow.wf (OpenSpec.ofChange Rows.fnDictionaryFloat32ReadSpec)) = true := by kernel_rfl
theorem fact1 : (laidOutB Tryz.prog) = true := by kernel_rfl
theorem fact2 : (mapsRowed Tryz.prog) = true := by kernel_rfl
theorem fact3 : (Tryz.f4.params.all (Tryz.prog.readableRec ·)) = true := by kernel_rfl
theorem fact4 : (namedTie Tryz.prog Rows.fnDictionaryFloat32ReadRow.named Rows.fnDictionaryFloat32ReadSpec.vars) = true := by kernel_rfl
theorem fact5 : ((Rows.fnDictionaryFloat32ReadRow.stops == [])) = true := by kernel_rfl
theorem fact6 : ((Tryz.prog.stops == [])) = true := by kernel_rfl
theorem fact7 : ((Rows.fnDictionaryFloat32ReadRow.knobs == [])) = true := by kernel_rfl
theorem fact8 : ((Tryz.prog.stopKnobs == [])) = true := by kernel_rfl
theorem fact9 : ((Rows.fnDictionaryFloat32ReadRow.inPlace == Tryz.prog.inPlace 4)) = true := by kernel_rfl
theorem fact10 : ((Rows.fnDictionaryFloat32ReadRow.unfollowed == Tryz.prog.unfollowed 4)) = true := by kernel_rfl
theorem fact11 : ((Rows.fnDictionaryFloat32ReadRow.recurses == Tryz.prog.recurses 4)) = true := by kernel_rfl
theorem fact12 : ((Rows.fnDictionaryFloat32ReadRow.named == Tryz.prog.varsNamed 4)) = true := by kernel_rfl
theorem fact13 : ((Rows.fnDictionaryFloat32ReadRow.maps == (Tryz.f4.params.toList ++ Rows.fnDictionaryFloat32ReadSpec.plain.varTypes Tryz.prog).any (Tryz.prog.mapsRec ·))) = true := by kernel_rfl
theorem fact14 : ((Rows.fnDictionaryFloat32ReadRow.ifaces == (Tryz.f4.params.toList ++ Rows.fnDictionaryFloat32ReadSpec.plain.varTypes Tryz.prog).any (Tryz.prog.ifacesRec ·))) = true := by kernel_rfl
theorem fact15 : ((Rows.fnDictionaryFloat32ReadRow.mapsOut == Tryz.prog.mapsAmong Tryz.f4.resultTypes.toList)) = true := by kernel_rfl
theorem fact16 : ((Rows.fnDictionaryFloat32ReadRow.loops == (Tryz.f4.params.toList ++ Rows.fnDictionaryFloat32ReadSpec.plain.varTypes Tryz.prog).any (Tryz.prog.loopsFrom ·))) = true := by kernel_rfl
theorem fact17 : ((Rows.fnDictionaryFloat32ReadRow.wideKeys == (Tryz.f4.params.toList ++ Rows.fnDictionaryFloat32ReadSpec.plain.varTypes Tryz.prog ++ Tryz.f4.resultTypes.toList).any (Tryz.prog.wideKeysFrom ·))) = true := by kernel_rfl
theorem fact18 : (Rows.fnDictionaryFloat32ReadSpec.vars.all (Tryz.prog.varReadable ·)) = true := by kernel_rfl
theorem fact19 : (Tryz.f4.resultTypes.all (fun t => Tryz.prog.readableRec t && decide (t < Tryz.prog.types.size))) = true := by kernel_rfl
theorem fact20 : ((Rows.fnDictionaryFloat32ReadRow.ifacesOut == Tryz.f4.resultTypes.toList.any (Tryz.prog.ifacesRec ·))) = true := by kernel_rfl
theorem fact21 : ((Rows.fnDictionaryFloat32ReadRow.loopsOut == Tryz.f4.resultTypes.toList.any (Tryz.prog.loopsFrom ·))) = true := by kernel_rfl
theorem fact22 : ((Rows.fnDictionaryFloat32ReadRow.plainKeys == Tryz.prog.plainKeys)) = true := by kernel_rfl
theorem fact23 : (Rows.fnDictionaryFloat32ReadRow.shortTexts.isNone) = true := by kernel_rfl
theorem fact24 : (Tryz.prog.stopsHeard) = true := by kernel_rfl
theorem fact25 : (Tryz.prog.mayEnter) = true := by kernel_rfl
theorem fact26 : ((Rows.fnDictionaryFloat32ReadRow.lifted == Tryz.prog.liftsFinal)) = true := by kernel_rfl
theorem fact27 : ((Tryz.prog.make == some Rows.fnDictionaryFloat32ReadRow.make)) = true := by kernel_rfl
theorem fact28 : ((Rows.fnDictionaryFloat32ReadRow.kinds == (if Rows.fnDictionaryFloat32ReadRow.domain.isEmpty then [] else Tryz.f4.params.toList.map fun t => match Tryz.prog.underlying t with | some (.int k) => some k | _ => none))) = true := by kernel_rfl
theorem fact29 : ((Rows.fnDictionaryFloat32ReadRow.pinned == Rows.fnDictionaryFloat32ReadRow.pinnedBy)) = true := by kernel_rfl
theorem fact30 : ((Rows.fnDictionaryFloat32ReadRow.veiled == (Tryz.f4.params.toList ++ Rows.fnDictionaryFloat32ReadSpec.plain.varTypes Tryz.prog ++ Tryz.f4.resultTypes.toList).any (Tryz.prog.veiledRec ·))) = true := by kernel_rfl
theorem fact31 : (Rows.fnDictionaryFloat32ReadRow.veiledFits Tryz.prog Tryz.f4.params.toList (Tryz.f4.params.toList ++ Rows.fnDictionaryFloat32ReadSpec.plain.varTypes Tryz.prog ++ Tryz.f4.resultTypes.toList)) = true := by kernel_rfl
set_option maxRecDepth 100000 in
theorem closed : joinedFacts Tryz.prog 4 Tryz.f4 Rows.fnDictionaryFloat32ReadSpec Rows.fnDictionaryFloat32ReadRow = true := by
  unfold joinedFacts
  simp only [Bool.and_eq_true]
  exact ⟨⟨⟨⟨⟨⟨⟨⟨⟨⟨⟨⟨⟨⟨⟨⟨⟨⟨⟨⟨⟨⟨⟨⟨⟨⟨⟨⟨⟨⟨⟨fact0, fact1⟩, fact2⟩, fact3⟩, fact4⟩, fact5⟩, fact6⟩, fact7⟩, fact8⟩, fact9⟩, fact10⟩, fact11⟩, fact12⟩, fact13⟩, fact14⟩, fact15⟩, fact16⟩, fact17⟩, fact18⟩, fact19⟩, fact20⟩, fact21⟩, fact22⟩, fact23⟩, fact24⟩, fact25⟩, fact26⟩, fact27⟩, fact28⟩, fact29⟩, fact30⟩, fact31⟩

theorem fnDictionaryFloat32Read_holds : Rows.FnDictionaryFloat32ReadSaid :=
  OpenClaim.holds_of_wide 4 Tryz.f4 rfl rfl rfl rfl rfl rfl rfl ⟨rfl, rfl, rfl, rfl, rfl⟩ rfl rfl rfl rfl rfl (by kernel_rfl) Tryz.func4 closed
    (of_decide_eq_true (by kernel_rfl)) (by unfold Func.isWrapper; rw [if_neg (by decide +kernel)]; exact ⟨rfl, rfl⟩)
    (fun os started H enc _ => lifted os started H enc)
end Go.Proofs.YtlolcgklcnechaaGreatDoor
