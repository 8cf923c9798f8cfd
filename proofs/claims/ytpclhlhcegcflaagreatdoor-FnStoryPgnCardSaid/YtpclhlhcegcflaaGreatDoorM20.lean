/- One part of the proof: Jf10. -/
import Derived.Test.YtpclhlhcegcflaaGreatDoorRows
import Derived.JoinedOf
import Derived.ChangeFn
import Derived.Test.YtpclhlhcegcflaaGreatDoorM3
namespace Go.Proofs.YtpclhlhcegcflaaGreatDoor
set_option maxRecDepth 100000
set_option linter.unusedSimpArgs false
set_option linter.unusedVariables false
section
open Go
theorem j0:(Rows.fnStoryPgnRow.wf (OpenSpec.ofChange Rows.fnStoryPgnSpec))=true:=by kernel_rfl
theorem j1:(laidOutB Tryz.prog)=true:=by kernel_rfl
theorem j2:(mapsRowed Tryz.prog)=true:=by kernel_rfl
theorem j3:(Tryz.f10.params.all (Tryz.prog.readableRec ·))=true:=by kernel_rfl
theorem j4:(namedTie Tryz.prog Rows.fnStoryPgnRow.named Rows.fnStoryPgnSpec.vars)=true:=by kernel_rfl
theorem j5:((Rows.fnStoryPgnRow.stops==[]))=true:=by kernel_rfl
theorem j6:((Tryz.prog.stops==[]))=true:=by kernel_rfl
theorem j7:((Rows.fnStoryPgnRow.knobs==[]))=true:=by kernel_rfl
theorem j8:((Tryz.prog.stopKnobs==[]))=true:=by kernel_rfl
theorem j9:((Rows.fnStoryPgnRow.inPlace==Tryz.prog.inPlace 10))=true:=by kernel_rfl
theorem j10:((Rows.fnStoryPgnRow.unfollowed==Tryz.prog.unfollowed 10))=true:=by kernel_rfl
theorem j11:((Rows.fnStoryPgnRow.recurses==Tryz.prog.recurses 10))=true:=by kernel_rfl
theorem j12:((Rows.fnStoryPgnRow.named==Tryz.prog.varsNamed 10))=true:=by kernel_rfl
theorem j13:((Rows.fnStoryPgnRow.maps==(Tryz.f10.params.toList++Rows.fnStoryPgnSpec.plain.varTypes Tryz.prog).any (Tryz.prog.mapsRec ·)))=true:=by kernel_rfl
theorem j14:((Rows.fnStoryPgnRow.ifaces==(Tryz.f10.params.toList++Rows.fnStoryPgnSpec.plain.varTypes Tryz.prog).any (Tryz.prog.ifacesRec ·)))=true:=by kernel_rfl
theorem j15:((Rows.fnStoryPgnRow.mapsOut==Tryz.prog.mapsAmong Tryz.f10.resultTypes.toList))=true:=by kernel_rfl
theorem j16:((Rows.fnStoryPgnRow.loops==(Tryz.f10.params.toList++Rows.fnStoryPgnSpec.plain.varTypes Tryz.prog).any (Tryz.prog.loopsFrom ·)))=true:=by kernel_rfl
theorem j17:((Rows.fnStoryPgnRow.wideKeys==(Tryz.f10.params.toList++Rows.fnStoryPgnSpec.plain.varTypes Tryz.prog++Tryz.f10.resultTypes.toList).any (Tryz.prog.wideKeysFrom ·)))=true:=by kernel_rfl
theorem j18:(Rows.fnStoryPgnSpec.vars.all (Tryz.prog.varReadable ·))=true:=by kernel_rfl
theorem j19:(Tryz.f10.resultTypes.all (fun t=>Tryz.prog.readableRec t&&decide (t<Tryz.prog.types.size)))=true:=by kernel_rfl
theorem j20:((Rows.fnStoryPgnRow.ifacesOut==Tryz.f10.resultTypes.toList.any (Tryz.prog.ifacesRec ·)))=true:=by kernel_rfl
theorem j21:((Rows.fnStoryPgnRow.loopsOut==Tryz.f10.resultTypes.toList.any (Tryz.prog.loopsFrom ·)))=true:=by kernel_rfl
theorem j22:((Rows.fnStoryPgnRow.plainKeys==Tryz.prog.plainKeys))=true:=by kernel_rfl
theorem j23:(Rows.fnStoryPgnRow.shortTexts.isNone)=true:=by kernel_rfl
theorem j24:(Tryz.prog.stopsHeard)=true:=by kernel_rfl
theorem j25:(Tryz.prog.mayEnter)=true:=by kernel_rfl
theorem j26:((Rows.fnStoryPgnRow.lifted==Tryz.prog.liftsFinal))=true:=by kernel_rfl
theorem j27:((Tryz.prog.make==some Rows.fnStoryPgnRow.make))=true:=by kernel_rfl
theorem j28:((Rows.fnStoryPgnRow.kinds==(if Rows.fnStoryPgnRow.domain.isEmpty then [] else Tryz.f10.params.toList.map fun t=>match Tryz.prog.underlying t with|some (.int k)=>some k|_=>none)))=true:=by kernel_rfl
theorem j29:((Rows.fnStoryPgnRow.pinned==Rows.fnStoryPgnRow.pinnedBy))=true:=by kernel_rfl
theorem j30:((Rows.fnStoryPgnRow.veiled==(Tryz.f10.params.toList++Rows.fnStoryPgnSpec.plain.varTypes Tryz.prog++Tryz.f10.resultTypes.toList).any (Tryz.prog.veiledRec ·)))=true:=by kernel_rfl
theorem j31:(Rows.fnStoryPgnRow.veiledFits Tryz.prog Tryz.f10.params.toList (Tryz.f10.params.toList++Rows.fnStoryPgnSpec.plain.varTypes Tryz.prog++Tryz.f10.resultTypes.toList))=true:=by kernel_rfl
theorem c3T:joinedFacts Tryz.prog 10 Tryz.f10 Rows.fnStoryPgnSpec Rows.fnStoryPgnRow=true:=by
 unfold joinedFacts;simp only [zP];exact ⟨⟨⟨⟨⟨⟨⟨⟨⟨⟨⟨⟨⟨⟨⟨⟨⟨⟨⟨⟨⟨⟨⟨⟨⟨⟨⟨⟨⟨⟨⟨j0,j1⟩,j2⟩,j3⟩,j4⟩,j5⟩,j6⟩,j7⟩,j8⟩,j9⟩,j10⟩,j11⟩,j12⟩,j13⟩,j14⟩,j15⟩,j16⟩,j17⟩,j18⟩,j19⟩,j20⟩,j21⟩,j22⟩,j23⟩,j24⟩,j25⟩,j26⟩,j27⟩,j28⟩,j29⟩,j30⟩,j31⟩
end
