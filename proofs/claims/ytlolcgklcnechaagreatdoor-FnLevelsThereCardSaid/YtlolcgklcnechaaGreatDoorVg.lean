/- The closed facts of the row, each by itself. -/
import Derived.Test.YtlolcgklcnechaaGreatDoorVf
set_option linter.unusedVariables false
set_option linter.unusedSimpArgs false
namespace Go.Proofs.YtlolcgklcnechaaGreatDoor
open Go.ChangeShapes Go.WideShapes Go.ChangeAt Go.WideElems Go.RowKit
open Go.Proofs.YtlolcgklcnechaaGreatDoor
theorem fact0 : (Rows.fnLevelsThereRow.wf (OpenSpec.ofChange Rows.fnLevelsThereSpec)) = true := by kernel_rfl
theorem fact1 : (laidOutB Tryz.prog) = true := by kernel_rfl
theorem fact2 : (mapsRowed Tryz.prog) = true := by kernel_rfl
theorem fact3 : (Tryz.f6.params.all (Tryz.prog.readableRec ·)) = true := by kernel_rfl
theorem fact4 : (namedTie Tryz.prog Rows.fnLevelsThereRow.named Rows.fnLevelsThereSpec.vars) = true := by kernel_rfl
theorem fact5 : ((Rows.fnLevelsThereRow.stops == [])) = true := by kernel_rfl
theorem fact6 : ((Tryz.prog.stops == [])) = true := by kernel_rfl
theorem fact7 : ((Rows.fnLevelsThereRow.knobs == [])) = true := by kernel_rfl
theorem fact8 : ((Tryz.prog.stopKnobs == [])) = true := by kernel_rfl
theorem fact9 : ((Rows.fnLevelsThereRow.inPlace == Tryz.prog.inPlace 6)) = true := by kernel_rfl
theorem fact10 : ((Rows.fnLevelsThereRow.unfollowed == Tryz.prog.unfollowed 6)) = true := by kernel_rfl
theorem fact11 : ((Rows.fnLevelsThereRow.recurses == Tryz.prog.recurses 6)) = true := by kernel_rfl
theorem fact12 : ((Rows.fnLevelsThereRow.named == Tryz.prog.varsNamed 6)) = true := by kernel_rfl
theorem fact13 : ((Rows.fnLevelsThereRow.maps == (Tryz.f6.params.toList ++ Rows.fnLevelsThereSpec.plain.varTypes Tryz.prog).any (Tryz.prog.mapsRec ·))) = true := by kernel_rfl
theorem fact14 : ((Rows.fnLevelsThereRow.ifaces == (Tryz.f6.params.toList ++ Rows.fnLevelsThereSpec.plain.varTypes Tryz.prog).any (Tryz.prog.ifacesRec ·))) = true := by kernel_rfl
theorem fact15 : ((Rows.fnLevelsThereRow.mapsOut == Tryz.prog.mapsAmong Tryz.f6.resultTypes.toList)) = true := by kernel_rfl
theorem fact16 : ((Rows.fnLevelsThereRow.loops == (Tryz.f6.params.toList ++ Rows.fnLevelsThereSpec.plain.varTypes Tryz.prog).any (Tryz.prog.loopsFrom ·))) = true := by kernel_rfl
theorem fact17 : ((Rows.fnLevelsThereRow.wideKeys == (Tryz.f6.params.toList ++ Rows.fnLevelsThereSpec.plain.varTypes Tryz.prog ++ Tryz.f6.resultTypes.toList).any (Tryz.prog.wideKeysFrom ·))) = true := by kernel_rfl
theorem fact18 : (Rows.fnLevelsThereSpec.vars.all (Tryz.prog.varReadable ·)) = true := by kernel_rfl
theorem fact19 : (Tryz.f6.resultTypes.all (fun t => Tryz.prog.readableRec t && decide (t < Tryz.prog.types.size))) = true := by kernel_rfl
theorem fact20 : ((Rows.fnLevelsThereRow.ifacesOut == Tryz.f6.resultTypes.toList.any (Tryz.prog.ifacesRec ·))) = true := by kernel_rfl
theorem fact21 : ((Rows.fnLevelsThereRow.loopsOut == Tryz.f6.resultTypes.toList.any (Tryz.prog.loopsFrom ·))) = true := by kernel_rfl
theorem fact22 : ((Rows.fnLevelsThereRow.plainKeys == Tryz.prog.plainKeys)) = true := by kernel_rfl
theorem fact23 : (Rows.fnLevelsThereRow.shortTexts.isNone) = true := by kernel_rfl
theorem fact24 : (Tryz.prog.stopsHeard) = true := by kernel_rfl
theorem fact25 : (Tryz.prog.mayEnter) = true := by kernel_rfl
theorem fact26 : ((Rows.fnLevelsThereRow.lifted == Tryz.prog.liftsFinal)) = true := by kernel_rfl
theorem fact27 : ((Tryz.prog.make == some Rows.fnLevelsThereRow.make)) = true := by kernel_rfl
theorem fact28 : ((Rows.fnLevelsThereRow.kinds == (if Rows.fnLevelsThereRow.domain.isEmpty then [] else Tryz.f6.params.toList.map fun t => match Tryz.prog.underlying t with | some (.int k) => some k | _ => none))) = true := by kernel_rfl
theorem fact29 : ((Rows.fnLevelsThereRow.pinned == Rows.fnLevelsThereRow.pinnedBy)) = true := by kernel_rfl
theorem fact30 : ((Rows.fnLevelsThereRow.veiled == (Tryz.f6.params.toList ++ Rows.fnLevelsThereSpec.plain.varTypes Tryz.prog ++ Tryz.f6.resultTypes.toList).any (Tryz.prog.veiledRec ·))) = true := by kernel_rfl
theorem fact31 : (Rows.fnLevelsThereRow.veiledFits Tryz.prog Tryz.f6.params.toList (Tryz.f6.params.toList ++ Rows.fnLevelsThereSpec.plain.varTypes Tryz.prog ++ Tryz.f6.resultTypes.toList)) = true := by kernel_rfl
set_option maxRecDepth 100000 in
theorem closed : joinedFacts Tryz.prog 6 Tryz.f6 Rows.fnLevelsThereSpec Rows.fnLevelsThereRow = true := by
  unfold joinedFacts
  simp only [Bool.and_eq_true]
  exact ⟨⟨⟨⟨⟨⟨⟨⟨⟨⟨⟨⟨⟨⟨⟨⟨⟨⟨⟨⟨⟨⟨⟨⟨⟨⟨⟨⟨⟨⟨⟨fact0, fact1⟩, fact2⟩, fact3⟩, fact4⟩, fact5⟩, fact6⟩, fact7⟩, fact8⟩, fact9⟩, fact10⟩, fact11⟩, fact12⟩, fact13⟩, fact14⟩, fact15⟩, fact16⟩, fact17⟩, fact18⟩, fact19⟩, fact20⟩, fact21⟩, fact22⟩, fact23⟩, fact24⟩, fact25⟩, fact26⟩, fact27⟩, fact28⟩, fact29⟩, fact30⟩, fact31⟩

theorem fnLevelsThere_holds : Rows.FnLevelsThereSaid :=
  OpenClaim.holds_of_wide 6 Tryz.f6 rfl rfl rfl rfl rfl rfl rfl ⟨rfl, rfl, rfl, rfl, rfl⟩ rfl rfl rfl rfl rfl (by kernel_rfl) Tryz.func6 closed
    (of_decide_eq_true (by kernel_rfl)) (by unfold Func.isWrapper; rw [if_neg (by decide +kernel)]; exact ⟨rfl, rfl⟩)
    (fun os started H enc _ => lifted os started H enc)
end Go.Proofs.YtlolcgklcnechaaGreatDoor
