/- laws.FnVariantThere: for every input the law returns true and each argument reads behind the call as it did. The tied card. -/
import Derived.Test.YtocgdgmfnockiaaGreatDoorXXg
set_option linter.unusedVariables false
set_option linter.unusedSimpArgs false
set_option maxRecDepth 100000
set_option maxHeartbeats 8000000
namespace Go.Proofs.YtocgdgmfnockiaaGreatDoor
open Go.ChangeShapes Go.WideShapes Go.ChangeAt Go.WideElems Go.RowKit
open Go.Proofs.YtocgdgmfnockiaaGreatDoor
theorem cardWf:Rows.fnVariantThereRow.wfByText (OpenSpec.ofChange Rows.fnVariantThereSpec)=true:=by kernel_rfl
theorem cardMain:Tryz.pinned.checked.prog.mainIs=some (true, "77cd9eda5ec53258c499b0e11951ef3293015080692c0e3a4739029e84f0cd9d".toList):=by kernel_rfl
theorem cardLooks:true=Tryz.pinned.checked.prog.looks []:=by kernel_rfl
theorem cardGoes:false=Rows.fnVariantThereRow.goesBy Tryz.pinned.checked.prog:=by kernel_rfl
theorem cardFunc:Tryz.prog.funcNamed "given.example/pub-arrowroot/laws.FnVariantThere"=some 3:=by kernel_rfl
theorem cardStand:([26,4,3].all fun u=>!Tryz.prog.wantsStandIn u)=true:=by kernel_rfl
theorem fnVariantThereCard_holds:Rows.FnVariantThereCardSaid:=
 Claim7.holds_tied_plain_at .later [] [.data,.sentinel,.pinned] true (true, "77cd9eda5ec53258c499b0e11951ef3293015080692c0e3a4739029e84f0cd9d") true
  fnVariantThere_holds (fun _ h=>by cases h) cardWf (fun _ h=>by cases h) fnVariantThere_row_tie rfl ⟨rfl,rfl⟩ cardMain rfl
  (fun f fn hf hfn=>by
   obtain rfl:f=3:=Option.some.inj (cardFunc.symm.trans hf) |>.symm;obtain rfl:fn=Tryz.f3:=(Option.some.inj (Tryz.func3.symm.trans hfn)).symm;exact⟨cardLooks,fun j t ht=>by
    rw[Tryz.params3]at ht;have hm:t ∈ [26,4,3]:=by simpa using Array.mem_of_getElem? ht
    exact(show Tryz.prog.wantsStandIn t=false by simpa using List.all_eq_true.1 cardStand t hm)⟩)
  cardGoes
#print axioms fnVariantThereCard_holds
end Go.Proofs.YtocgdgmfnockiaaGreatDoor
