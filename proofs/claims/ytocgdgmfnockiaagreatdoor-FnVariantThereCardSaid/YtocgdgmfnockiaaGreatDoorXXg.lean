/- The closed facts of the row, each by itself. -/
import Derived.Test.YtocgdgmfnockiaaGreatDoorXXf
set_option linter.unusedVariables false
set_option linter.unusedSimpArgs false
set_option maxRecDepth 100000
set_option maxHeartbeats 8000000
namespace Go.Proofs.YtocgdgmfnockiaaGreatDoor
open Go.ChangeShapes Go.WideShapes Go.ChangeAt Go.WideElems Go.RowKit
open Go.Proofs.YtocgdgmfnockiaaGreatDoor
theorem fact0:(Rows.fnVariantThereRow.wf (OpenSpec.ofChange Rows.fnVariantThereSpec))=true:=by kernel_rfl
theorem fact1:(laidOutB Tryz.prog)=true:=by kernel_rfl
theorem fact2:(mapsRowed Tryz.prog)=true:=by kernel_rfl
theorem fact3:(Tryz.f3.params.all (Tryz.prog.readableRec ·))=true:=by kernel_rfl
theorem fact4:(namedTie Tryz.prog Rows.fnVariantThereRow.named Rows.fnVariantThereSpec.vars)=true:=by kernel_rfl
theorem fact5:((Rows.fnVariantThereRow.stops==[]))=true:=by kernel_rfl
theorem fact6:((Tryz.prog.stops==[]))=true:=by kernel_rfl
theorem fact7:((Rows.fnVariantThereRow.knobs==[]))=true:=by kernel_rfl
theorem fact8:((Tryz.prog.stopKnobs==[]))=true:=by kernel_rfl
theorem fact9:((Rows.fnVariantThereRow.inPlace==Tryz.prog.inPlace 3))=true:=by kernel_rfl
theorem fact10:((Rows.fnVariantThereRow.unfollowed==Tryz.prog.unfollowed 3))=true:=by kernel_rfl
theorem fact11:((Rows.fnVariantThereRow.recurses==Tryz.prog.recurses 3))=true:=by kernel_rfl
theorem fact12:((Rows.fnVariantThereRow.named==Tryz.prog.varsNamed 3))=true:=by kernel_rfl
theorem fact13:((Rows.fnVariantThereRow.maps==(Tryz.f3.params.toList++Rows.fnVariantThereSpec.plain.varTypes Tryz.prog).any (Tryz.prog.mapsRec ·)))=true:=by kernel_rfl
theorem fact14:((Rows.fnVariantThereRow.ifaces==(Tryz.f3.params.toList++Rows.fnVariantThereSpec.plain.varTypes Tryz.prog).any (Tryz.prog.ifacesRec ·)))=true:=by kernel_rfl
theorem fact15:((Rows.fnVariantThereRow.mapsOut==Tryz.prog.mapsAmong Tryz.f3.resultTypes.toList))=true:=by kernel_rfl
theorem fact16:((Rows.fnVariantThereRow.loops==(Tryz.f3.params.toList++Rows.fnVariantThereSpec.plain.varTypes Tryz.prog).any (Tryz.prog.loopsFrom ·)))=true:=by kernel_rfl
theorem fact17:((Rows.fnVariantThereRow.wideKeys==(Tryz.f3.params.toList++Rows.fnVariantThereSpec.plain.varTypes Tryz.prog++Tryz.f3.resultTypes.toList).any (Tryz.prog.wideKeysFrom ·)))=true:=by kernel_rfl
theorem fact18:(Rows.fnVariantThereSpec.vars.all (Tryz.prog.varReadable ·))=true:=by kernel_rfl
theorem fact19:(Tryz.f3.resultTypes.all (fun t=>Tryz.prog.readableRec t&&decide (t<Tryz.prog.types.size)))=true:=by kernel_rfl
theorem fact20:((Rows.fnVariantThereRow.ifacesOut==Tryz.f3.resultTypes.toList.any (Tryz.prog.ifacesRec ·)))=true:=by kernel_rfl
theorem fact21:((Rows.fnVariantThereRow.loopsOut==Tryz.f3.resultTypes.toList.any (Tryz.prog.loopsFrom ·)))=true:=by kernel_rfl
theorem fact22:((Rows.fnVariantThereRow.plainKeys==Tryz.prog.plainKeys))=true:=by kernel_rfl
theorem fact23:(Rows.fnVariantThereRow.shortTexts.isNone)=true:=by kernel_rfl
theorem fact24:(Tryz.prog.stopsHeard)=true:=by kernel_rfl
theorem fact25:(Tryz.prog.mayEnter)=true:=by kernel_rfl
theorem fact26:((Rows.fnVariantThereRow.lifted==Tryz.prog.liftsFinal))=true:=by kernel_rfl
theorem fact27:((Tryz.prog.make==some Rows.fnVariantThereRow.make))=true:=by kernel_rfl
theorem fact28:((Rows.fnVariantThereRow.kinds==(if Rows.fnVariantThereRow.domain.isEmpty then[]else Tryz.f3.params.toList.map fun t=>match Tryz.prog.underlying t with|some (.int k)=>some k|_=>none)))=true:=by kernel_rfl
theorem fact29:((Rows.fnVariantThereRow.pinned==Rows.fnVariantThereRow.pinnedBy))=true:=by kernel_rfl
theorem fact30:((Rows.fnVariantThereRow.veiled==(Tryz.f3.params.toList++Rows.fnVariantThereSpec.plain.varTypes Tryz.prog++Tryz.f3.resultTypes.toList).any (Tryz.prog.veiledRec ·)))=true:=by kernel_rfl
theorem fact31:(Rows.fnVariantThereRow.veiledFits Tryz.prog Tryz.f3.params.toList (Tryz.f3.params.toList++Rows.fnVariantThereSpec.plain.varTypes Tryz.prog++Tryz.f3.resultTypes.toList))=true:=by kernel_rfl
theorem closed:joinedFacts Tryz.prog 3 Tryz.f3 Rows.fnVariantThereSpec Rows.fnVariantThereRow=true:=by
 unfold joinedFacts;simp only[Bool.and_eq_true];exact⟨⟨⟨⟨⟨⟨⟨⟨⟨⟨⟨⟨⟨⟨⟨⟨⟨⟨⟨⟨⟨⟨⟨⟨⟨⟨⟨⟨⟨⟨⟨fact0,fact1⟩,fact2⟩,fact3⟩,fact4⟩,fact5⟩,fact6⟩,fact7⟩,fact8⟩,fact9⟩,fact10⟩,fact11⟩,fact12⟩,fact13⟩,fact14⟩,fact15⟩,fact16⟩,fact17⟩,fact18⟩,fact19⟩,fact20⟩,fact21⟩,fact22⟩,fact23⟩,fact24⟩,fact25⟩,fact26⟩,fact27⟩,fact28⟩,fact29⟩,fact30⟩,fact31⟩
theorem fnVariantThere_holds:Rows.FnVariantThereSaid:=
 OpenClaim.holds_of_wide 3 Tryz.f3 rfl rfl rfl rfl rfl rfl rfl ⟨rfl,rfl,rfl,rfl,rfl⟩ rfl rfl rfl rfl rfl (by kernel_rfl) Tryz.func3 closed
  (of_decide_eq_true (by kernel_rfl)) (by unfold Func.isWrapper;rw[if_neg (by decide+kernel)];exact⟨rfl,rfl⟩)
  (fun os started H enc _=>lifted os started H enc)
end Go.Proofs.YtocgdgmfnockiaaGreatDoor
