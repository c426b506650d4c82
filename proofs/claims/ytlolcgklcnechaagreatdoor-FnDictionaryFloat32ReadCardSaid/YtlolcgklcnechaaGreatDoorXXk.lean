/- laws.FnDictionaryFloat32Read: for every input the law returns true and each argument reads behind the call as it did. The tied card. -/
import Derived.Test.YtlolcgklcnechaaGreatDoorXXg
set_option linter.unusedVariables false
set_option linter.unusedSimpArgs false
namespace Go.Proofs.YtlolcgklcnechaaGreatDoor
open Go.ChangeShapes Go.WideShapes Go.ChangeAt Go.WideElems Go.RowKit
open Go.Proofs.YtlolcgklcnechaaGreatDoor

theorem cardWf : Rows.fnDictionaryFloat32ReadRow.wfByText (OpenSpec.ofChange Rows.fnDictionaryFloat32ReadSpec) = true := by kernel_rfl
theorem cardMain : Tryz.pinned.checked.prog.mainIs = some (true, "fcbabd47377dc27478c49c0dc1f90ce0a2dbd0b2f30d6f26374616fbfb9715ac".toList) := by kernel_rfl
theorem cardLooks : true = Tryz.pinned.checked.prog.looks [] := by kernel_rfl
theorem cardGoes : false = Rows.fnDictionaryFloat32ReadRow.goesBy Tryz.pinned.checked.prog := by kernel_rfl
theorem cardFunc : Tryz.prog.funcNamed "given.example/pub-arrowroot/laws.FnDictionaryFloat32Read" = some 4 := by kernel_rfl
theorem cardStand : ([34, 3, 35, 23].all fun u => !Tryz.prog.wantsStandIn u) = true := by kernel_rfl

theorem fnDictionaryFloat32ReadCard_holds : Rows.FnDictionaryFloat32ReadCardSaid :=
  Claim7.holds_tied_plain_at .later [] [.sentinel, .sentinel, .sentinel, .sentinel] true (true, "fcbabd47377dc27478c49c0dc1f90ce0a2dbd0b2f30d6f26374616fbfb9715ac") true
    fnDictionaryFloat32Read_holds (fun _ h => by cases h) cardWf (fun _ h => by cases h) fnDictionaryFloat32Read_row_tie rfl ⟨rfl, rfl⟩ cardMain rfl
    (fun f fn hf hfn => by
      obtain rfl : f = 4 := Option.some.inj (cardFunc.symm.trans hf) |>.symm
      obtain rfl : fn = Tryz.f4 := (Option.some.inj (Tryz.func4.symm.trans hfn)).symm
      exact ⟨cardLooks, fun j t ht => by
        rw [Tryz.params4] at ht
        have hm : t ∈ [34, 3, 35, 23] := by simpa using Array.mem_of_getElem? ht
        exact (show Tryz.prog.wantsStandIn t = false by simpa using List.all_eq_true.1 cardStand t hm)⟩)
    cardGoes
#print axioms fnDictionaryFloat32ReadCard_holds
end Go.Proofs.YtlolcgklcnechaaGreatDoor
