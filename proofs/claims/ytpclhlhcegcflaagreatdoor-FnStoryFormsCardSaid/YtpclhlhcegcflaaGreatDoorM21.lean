/- One part of the proof: Jf7. -/
import Derived.Test.YtpclhlhcegcflaaGreatDoorRows
import Derived.JoinedOf
import Derived.ChangeFn
import Derived.Test.YtpclhlhcegcflaaGreatDoorM1
import Derived.Test.YtpclhlhcegcflaaGreatDoorM3
namespace Go.Proofs.YtpclhlhcegcflaaGreatDoor
set_option maxRecDepth 100000
set_option linter.unusedSimpArgs false
set_option linter.unusedVariables false
section
open Go
theorem j0:(Rows.fnStoryFormsRow.wf (OpenSpec.ofChange Rows.fnStoryFormsSpec))=true:=by kernel_rfl
theorem j1:(laidOutB Tryz.prog)=true:=by kernel_rfl
theorem j2:(mapsRowed Tryz.prog)=true:=by kernel_rfl
theorem j3:(Tryz.f6.params.all (Tryz.prog.readableRec ·))=true:=by kernel_rfl
theorem j4:(namedTie Tryz.prog Rows.fnStoryFormsRow.named Rows.fnStoryFormsSpec.vars)=true:=by kernel_rfl
theorem j5:((Rows.fnStoryFormsRow.stops==[]))=true:=by kernel_rfl
theorem j6:((Tryz.prog.stops==[]))=true:=by kernel_rfl
theorem j7:((Rows.fnStoryFormsRow.knobs==[]))=true:=by kernel_rfl
theorem j8:((Tryz.prog.stopKnobs==[]))=true:=by kernel_rfl
theorem j9:((Rows.fnStoryFormsRow.inPlace==Tryz.prog.inPlace 6))=true:=by kernel_rfl
theorem j10:((Rows.fnStoryFormsRow.unfollowed==Tryz.prog.unfollowed 6))=true:=by kernel_rfl
theorem j11:((Rows.fnStoryFormsRow.recurses==Tryz.prog.recurses 6))=true:=by kernel_rfl
theorem j12:((Rows.fnStoryFormsRow.named==Tryz.prog.varsNamed 6))=true:=by kernel_rfl
theorem j13:((Rows.fnStoryFormsRow.maps==(Tryz.f6.params.toList++Rows.fnStoryFormsSpec.plain.varTypes Tryz.prog).any (Tryz.prog.mapsRec ·)))=true:=by kernel_rfl
theorem j14:((Rows.fnStoryFormsRow.ifaces==(Tryz.f6.params.toList++Rows.fnStoryFormsSpec.plain.varTypes Tryz.prog).any (Tryz.prog.ifacesRec ·)))=true:=by kernel_rfl
theorem j15:((Rows.fnStoryFormsRow.mapsOut==Tryz.prog.mapsAmong Tryz.f6.resultTypes.toList))=true:=by kernel_rfl
theorem j16:((Rows.fnStoryFormsRow.loops==(Tryz.f6.params.toList++Rows.fnStoryFormsSpec.plain.varTypes Tryz.prog).any (Tryz.prog.loopsFrom ·)))=true:=by kernel_rfl
theorem j17:((Rows.fnStoryFormsRow.wideKeys==(Tryz.f6.params.toList++Rows.fnStoryFormsSpec.plain.varTypes Tryz.prog++Tryz.f6.resultTypes.toList).any (Tryz.prog.wideKeysFrom ·)))=true:=by kernel_rfl
theorem j18:(Rows.fnStoryFormsSpec.vars.all (Tryz.prog.varReadable ·))=true:=by kernel_rfl
theorem j19:(Tryz.f6.resultTypes.all (fun t=>Tryz.prog.readableRec t&&decide (t<Tryz.prog.types.size)))=true:=by kernel_rfl
theorem j20:((Rows.fnStoryFormsRow.ifacesOut==Tryz.f6.resultTypes.toList.any (Tryz.prog.ifacesRec ·)))=true:=by kernel_rfl
theorem j21:((Rows.fnStoryFormsRow.loopsOut==Tryz.f6.resultTypes.toList.any (Tryz.prog.loopsFrom ·)))=true:=by kernel_rfl
theorem j22:((Rows.fnStoryFormsRow.plainKeys==Tryz.prog.plainKeys))=true:=by kernel_rfl
theorem j23:(Rows.fnStoryFormsRow.shortTexts.isNone)=true:=by kernel_rfl
theorem j24:(Tryz.prog.stopsHeard)=true:=by kernel_rfl
theorem j25:(Tryz.prog.mayEnter)=true:=by kernel_rfl
theorem j26:((Rows.fnStoryFormsRow.lifted==Tryz.prog.liftsFinal))=true:=by kernel_rfl
theorem j27:((Tryz.prog.make==some Rows.fnStoryFormsRow.make))=true:=by kernel_rfl
theorem j28:((Rows.fnStoryFormsRow.kinds==(if Rows.fnStoryFormsRow.domain.isEmpty then [] else Tryz.f6.params.toList.map fun t=>match Tryz.prog.underlying t with | some (.int k)=>some k | _=>none)))=true:=by kernel_rfl
theorem j29:((Rows.fnStoryFormsRow.pinned==Rows.fnStoryFormsRow.pinnedBy))=true:=by kernel_rfl
theorem j30:((Rows.fnStoryFormsRow.veiled==(Tryz.f6.params.toList++Rows.fnStoryFormsSpec.plain.varTypes Tryz.prog++Tryz.f6.resultTypes.toList).any (Tryz.prog.veiledRec ·)))=true:=by kernel_rfl
theorem j31:(Rows.fnStoryFormsRow.veiledFits Tryz.prog Tryz.f6.params.toList (Tryz.f6.params.toList++Rows.fnStoryFormsSpec.plain.varTypes Tryz.prog++Tryz.f6.resultTypes.toList))=true:=by kernel_rfl
theorem c3G:joinedFacts Tryz.prog 6 Tryz.f6 Rows.fnStoryFormsSpec Rows.fnStoryFormsRow=true:=by
 unfold joinedFacts;simp only [Bool.and_eq_true];exact ⟨⟨⟨⟨⟨⟨⟨⟨⟨⟨⟨⟨⟨⟨⟨⟨⟨⟨⟨⟨⟨⟨⟨⟨⟨⟨⟨⟨⟨⟨⟨j0,j1⟩,j2⟩,j3⟩,j4⟩,j5⟩,j6⟩,j7⟩,j8⟩,j9⟩,j10⟩,j11⟩,j12⟩,j13⟩,j14⟩,j15⟩,j16⟩,j17⟩,j18⟩,j19⟩,j20⟩,j21⟩,j22⟩,j23⟩,j24⟩,j25⟩,j26⟩,j27⟩,j28⟩,j29⟩,j30⟩,j31⟩
end
end Go.Proofs.YtpclhlhcegcflaaGreatDoor
