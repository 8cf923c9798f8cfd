/- One part of the proof: Jf8. -/
import Derived.Test.YtpclhlhcegcflaaGreatDoorRows
import Derived.JoinedOf
import Derived.ChangeFn
import Derived.Test.YtpclhlhcegcflaaGreatDoorM1
import Derived.Test.YtpclhlhcegcflaaGreatDoorM3
namespace Go.Proofs.YtpclhlhcegcflaaGreatDoor
set_option maxRecDepth 100000
set_option linter.unusedSimpArgs false
set_option linter.unusedVariables false
section
open Go
theorem j0:(Rows.fnStoryTextsRow.wf (OpenSpec.ofChange Rows.fnStoryTextsSpec))=true:=by kernel_rfl
theorem j1:(laidOutB Tryz.prog)=true:=by kernel_rfl
theorem j2:(mapsRowed Tryz.prog)=true:=by kernel_rfl
theorem j3:(Tryz.f8.params.all (Tryz.prog.readableRec ·))=true:=by kernel_rfl
theorem j4:(namedTie Tryz.prog Rows.fnStoryTextsRow.named Rows.fnStoryTextsSpec.vars)=true:=by kernel_rfl
theorem j5:((Rows.fnStoryTextsRow.stops==[]))=true:=by kernel_rfl
theorem j6:((Tryz.prog.stops==[]))=true:=by kernel_rfl
theorem j7:((Rows.fnStoryTextsRow.knobs==[]))=true:=by kernel_rfl
theorem j8:((Tryz.prog.stopKnobs==[]))=true:=by kernel_rfl
theorem j9:((Rows.fnStoryTextsRow.inPlace==Tryz.prog.inPlace 8))=true:=by kernel_rfl
theorem j10:((Rows.fnStoryTextsRow.unfollowed==Tryz.prog.unfollowed 8))=true:=by kernel_rfl
theorem j11:((Rows.fnStoryTextsRow.recurses==Tryz.prog.recurses 8))=true:=by kernel_rfl
theorem j12:((Rows.fnStoryTextsRow.named==Tryz.prog.varsNamed 8))=true:=by kernel_rfl
theorem j13:((Rows.fnStoryTextsRow.maps==(Tryz.f8.params.toList++Rows.fnStoryTextsSpec.plain.varTypes Tryz.prog).any (Tryz.prog.mapsRec ·)))=true:=by kernel_rfl
theorem j14:((Rows.fnStoryTextsRow.ifaces==(Tryz.f8.params.toList++Rows.fnStoryTextsSpec.plain.varTypes Tryz.prog).any (Tryz.prog.ifacesRec ·)))=true:=by kernel_rfl
theorem j15:((Rows.fnStoryTextsRow.mapsOut==Tryz.prog.mapsAmong Tryz.f8.resultTypes.toList))=true:=by kernel_rfl
theorem j16:((Rows.fnStoryTextsRow.loops==(Tryz.f8.params.toList++Rows.fnStoryTextsSpec.plain.varTypes Tryz.prog).any (Tryz.prog.loopsFrom ·)))=true:=by kernel_rfl
theorem j17:((Rows.fnStoryTextsRow.wideKeys==(Tryz.f8.params.toList++Rows.fnStoryTextsSpec.plain.varTypes Tryz.prog++Tryz.f8.resultTypes.toList).any (Tryz.prog.wideKeysFrom ·)))=true:=by kernel_rfl
theorem j18:(Rows.fnStoryTextsSpec.vars.all (Tryz.prog.varReadable ·))=true:=by kernel_rfl
theorem j19:(Tryz.f8.resultTypes.all (fun t=>Tryz.prog.readableRec t&&decide (t<Tryz.prog.types.size)))=true:=by kernel_rfl
theorem j20:((Rows.fnStoryTextsRow.ifacesOut==Tryz.f8.resultTypes.toList.any (Tryz.prog.ifacesRec ·)))=true:=by kernel_rfl
theorem j21:((Rows.fnStoryTextsRow.loopsOut==Tryz.f8.resultTypes.toList.any (Tryz.prog.loopsFrom ·)))=true:=by kernel_rfl
theorem j22:((Rows.fnStoryTextsRow.plainKeys==Tryz.prog.plainKeys))=true:=by kernel_rfl
theorem j23:(Rows.fnStoryTextsRow.shortTexts.isNone)=true:=by kernel_rfl
theorem j24:(Tryz.prog.stopsHeard)=true:=by kernel_rfl
theorem j25:(Tryz.prog.mayEnter)=true:=by kernel_rfl
theorem j26:((Rows.fnStoryTextsRow.lifted==Tryz.prog.liftsFinal))=true:=by kernel_rfl
theorem j27:((Tryz.prog.make==some Rows.fnStoryTextsRow.make))=true:=by kernel_rfl
theorem j28:((Rows.fnStoryTextsRow.kinds==(if Rows.fnStoryTextsRow.domain.isEmpty then [] else Tryz.f8.params.toList.map fun t=>match Tryz.prog.underlying t with | some (.int k)=>some k | _=>none)))=true:=by kernel_rfl
theorem j29:((Rows.fnStoryTextsRow.pinned==Rows.fnStoryTextsRow.pinnedBy))=true:=by kernel_rfl
theorem j30:((Rows.fnStoryTextsRow.veiled==(Tryz.f8.params.toList++Rows.fnStoryTextsSpec.plain.varTypes Tryz.prog++Tryz.f8.resultTypes.toList).any (Tryz.prog.veiledRec ·)))=true:=by kernel_rfl
theorem j31:(Rows.fnStoryTextsRow.veiledFits Tryz.prog Tryz.f8.params.toList (Tryz.f8.params.toList++Rows.fnStoryTextsSpec.plain.varTypes Tryz.prog++Tryz.f8.resultTypes.toList))=true:=by kernel_rfl
theorem c3G:joinedFacts Tryz.prog 8 Tryz.f8 Rows.fnStoryTextsSpec Rows.fnStoryTextsRow=true:=by
 unfold joinedFacts;simp only [zP];exact ⟨⟨⟨⟨⟨⟨⟨⟨⟨⟨⟨⟨⟨⟨⟨⟨⟨⟨⟨⟨⟨⟨⟨⟨⟨⟨⟨⟨⟨⟨⟨j0,j1⟩,j2⟩,j3⟩,j4⟩,j5⟩,j6⟩,j7⟩,j8⟩,j9⟩,j10⟩,j11⟩,j12⟩,j13⟩,j14⟩,j15⟩,j16⟩,j17⟩,j18⟩,j19⟩,j20⟩,j21⟩,j22⟩,j23⟩,j24⟩,j25⟩,j26⟩,j27⟩,j28⟩,j29⟩,j30⟩,j31⟩
end
end Go.Proofs.YtpclhlhcegcflaaGreatDoor
