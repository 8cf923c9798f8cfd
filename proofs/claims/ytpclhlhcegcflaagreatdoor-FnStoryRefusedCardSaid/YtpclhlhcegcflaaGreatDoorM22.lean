/- One part of the proof: Jf9. -/
import Derived.Test.YtpclhlhcegcflaaGreatDoorRows
import Derived.JoinedOf
import Derived.ChangeFn
import Derived.Test.YtpclhlhcegcflaaGreatDoorM3
namespace Go.Proofs.YtpclhlhcegcflaaGreatDoor
set_option maxRecDepth 100000
set_option linter.unusedSimpArgs false
set_option linter.unusedVariables false
section
open Go
theorem j0:(Rows.fnStoryRefusedRow.wf (OpenSpec.ofChange Rows.fnStoryRefusedSpec))=true:=by kernel_rfl
theorem j1:(laidOutB Tryz.prog)=true:=by kernel_rfl
theorem j2:(mapsRowed Tryz.prog)=true:=by kernel_rfl
theorem j3:(Tryz.f7.params.all (Tryz.prog.readableRec ·))=true:=by kernel_rfl
theorem j4:(namedTie Tryz.prog Rows.fnStoryRefusedRow.named Rows.fnStoryRefusedSpec.vars)=true:=by kernel_rfl
theorem j5:((Rows.fnStoryRefusedRow.stops==[]))=true:=by kernel_rfl
theorem j6:((Tryz.prog.stops==[]))=true:=by kernel_rfl
theorem j7:((Rows.fnStoryRefusedRow.knobs==[]))=true:=by kernel_rfl
theorem j8:((Tryz.prog.stopKnobs==[]))=true:=by kernel_rfl
theorem j9:((Rows.fnStoryRefusedRow.inPlace==Tryz.prog.inPlace 7))=true:=by kernel_rfl
theorem j10:((Rows.fnStoryRefusedRow.unfollowed==Tryz.prog.unfollowed 7))=true:=by kernel_rfl
theorem j11:((Rows.fnStoryRefusedRow.recurses==Tryz.prog.recurses 7))=true:=by kernel_rfl
theorem j12:((Rows.fnStoryRefusedRow.named==Tryz.prog.varsNamed 7))=true:=by kernel_rfl
theorem j13:((Rows.fnStoryRefusedRow.maps==(Tryz.f7.params.toList++Rows.fnStoryRefusedSpec.plain.varTypes Tryz.prog).any (Tryz.prog.mapsRec ·)))=true:=by kernel_rfl
theorem j14:((Rows.fnStoryRefusedRow.ifaces==(Tryz.f7.params.toList++Rows.fnStoryRefusedSpec.plain.varTypes Tryz.prog).any (Tryz.prog.ifacesRec ·)))=true:=by kernel_rfl
theorem j15:((Rows.fnStoryRefusedRow.mapsOut==Tryz.prog.mapsAmong Tryz.f7.resultTypes.toList))=true:=by kernel_rfl
theorem j16:((Rows.fnStoryRefusedRow.loops==(Tryz.f7.params.toList++Rows.fnStoryRefusedSpec.plain.varTypes Tryz.prog).any (Tryz.prog.loopsFrom ·)))=true:=by kernel_rfl
theorem j17:((Rows.fnStoryRefusedRow.wideKeys==(Tryz.f7.params.toList++Rows.fnStoryRefusedSpec.plain.varTypes Tryz.prog++Tryz.f7.resultTypes.toList).any (Tryz.prog.wideKeysFrom ·)))=true:=by kernel_rfl
theorem j18:(Rows.fnStoryRefusedSpec.vars.all (Tryz.prog.varReadable ·))=true:=by kernel_rfl
theorem j19:(Tryz.f7.resultTypes.all (fun t=>Tryz.prog.readableRec t&&decide (t<Tryz.prog.types.size)))=true:=by kernel_rfl
theorem j20:((Rows.fnStoryRefusedRow.ifacesOut==Tryz.f7.resultTypes.toList.any (Tryz.prog.ifacesRec ·)))=true:=by kernel_rfl
theorem j21:((Rows.fnStoryRefusedRow.loopsOut==Tryz.f7.resultTypes.toList.any (Tryz.prog.loopsFrom ·)))=true:=by kernel_rfl
theorem j22:((Rows.fnStoryRefusedRow.plainKeys==Tryz.prog.plainKeys))=true:=by kernel_rfl
theorem j23:(Rows.fnStoryRefusedRow.shortTexts.isNone)=true:=by kernel_rfl
theorem j24:(Tryz.prog.stopsHeard)=true:=by kernel_rfl
theorem j25:(Tryz.prog.mayEnter)=true:=by kernel_rfl
theorem j26:((Rows.fnStoryRefusedRow.lifted==Tryz.prog.liftsFinal))=true:=by kernel_rfl
theorem j27:((Tryz.prog.make==some Rows.fnStoryRefusedRow.make))=true:=by kernel_rfl
theorem j28:((Rows.fnStoryRefusedRow.kinds==(if Rows.fnStoryRefusedRow.domain.isEmpty then [] else Tryz.f7.params.toList.map fun t=>match Tryz.prog.underlying t with|some (.int k)=>some k|_=>none)))=true:=by kernel_rfl
theorem j29:((Rows.fnStoryRefusedRow.pinned==Rows.fnStoryRefusedRow.pinnedBy))=true:=by kernel_rfl
theorem j30:((Rows.fnStoryRefusedRow.veiled==(Tryz.f7.params.toList++Rows.fnStoryRefusedSpec.plain.varTypes Tryz.prog++Tryz.f7.resultTypes.toList).any (Tryz.prog.veiledRec ·)))=true:=by kernel_rfl
theorem j31:(Rows.fnStoryRefusedRow.veiledFits Tryz.prog Tryz.f7.params.toList (Tryz.f7.params.toList++Rows.fnStoryRefusedSpec.plain.varTypes Tryz.prog++Tryz.f7.resultTypes.toList))=true:=by kernel_rfl
theorem c4T:joinedFacts Tryz.prog 7 Tryz.f7 Rows.fnStoryRefusedSpec Rows.fnStoryRefusedRow=true:=by
 unfold joinedFacts;simp only [zP];exact ⟨⟨⟨⟨⟨⟨⟨⟨⟨⟨⟨⟨⟨⟨⟨⟨⟨⟨⟨⟨⟨⟨⟨⟨⟨⟨⟨⟨⟨⟨⟨j0,j1⟩,j2⟩,j3⟩,j4⟩,j5⟩,j6⟩,j7⟩,j8⟩,j9⟩,j10⟩,j11⟩,j12⟩,j13⟩,j14⟩,j15⟩,j16⟩,j17⟩,j18⟩,j19⟩,j20⟩,j21⟩,j22⟩,j23⟩,j24⟩,j25⟩,j26⟩,j27⟩,j28⟩,j29⟩,j30⟩,j31⟩
end
