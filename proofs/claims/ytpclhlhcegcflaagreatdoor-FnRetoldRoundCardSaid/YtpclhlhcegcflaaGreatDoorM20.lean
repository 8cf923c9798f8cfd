/- One part of the proof: Jf6. -/
import Derived.Test.YtpclhlhcegcflaaGreatDoorRows
import Derived.JoinedOf
import Derived.ChangeFn
import Derived.Test.YtpclhlhcegcflaaGreatDoorM1
import Derived.Test.YtpclhlhcegcflaaGreatDoorM3
namespace Go.Proofs.YtpclhlhcegcflaaGreatDoor
set_option maxRecDepth 100000
set_option linter.unusedSimpArgs false
set_option linter.unusedVariables false
section
open Go
theorem j0:(Rows.fnRetoldRoundRow.wf (OpenSpec.ofChange Rows.fnRetoldRoundSpec))=true:=by kernel_rfl
theorem j1:(laidOutB Tryz.prog)=true:=by kernel_rfl
theorem j2:(mapsRowed Tryz.prog)=true:=by kernel_rfl
theorem j3:(Tryz.f9.params.all (Tryz.prog.readableRec ·))=true:=by kernel_rfl
theorem j4:(namedTie Tryz.prog Rows.fnRetoldRoundRow.named Rows.fnRetoldRoundSpec.vars)=true:=by kernel_rfl
theorem j5:((Rows.fnRetoldRoundRow.stops==[]))=true:=by kernel_rfl
theorem j6:((Tryz.prog.stops==[]))=true:=by kernel_rfl
theorem j7:((Rows.fnRetoldRoundRow.knobs==[]))=true:=by kernel_rfl
theorem j8:((Tryz.prog.stopKnobs==[]))=true:=by kernel_rfl
theorem j9:((Rows.fnRetoldRoundRow.inPlace==Tryz.prog.inPlace 9))=true:=by kernel_rfl
theorem j10:((Rows.fnRetoldRoundRow.unfollowed==Tryz.prog.unfollowed 9))=true:=by kernel_rfl
theorem j11:((Rows.fnRetoldRoundRow.recurses==Tryz.prog.recurses 9))=true:=by kernel_rfl
theorem j12:((Rows.fnRetoldRoundRow.named==Tryz.prog.varsNamed 9))=true:=by kernel_rfl
theorem j13:((Rows.fnRetoldRoundRow.maps==(Tryz.f9.params.toList++Rows.fnRetoldRoundSpec.plain.varTypes Tryz.prog).any (Tryz.prog.mapsRec ·)))=true:=by kernel_rfl
theorem j14:((Rows.fnRetoldRoundRow.ifaces==(Tryz.f9.params.toList++Rows.fnRetoldRoundSpec.plain.varTypes Tryz.prog).any (Tryz.prog.ifacesRec ·)))=true:=by kernel_rfl
theorem j15:((Rows.fnRetoldRoundRow.mapsOut==Tryz.prog.mapsAmong Tryz.f9.resultTypes.toList))=true:=by kernel_rfl
theorem j16:((Rows.fnRetoldRoundRow.loops==(Tryz.f9.params.toList++Rows.fnRetoldRoundSpec.plain.varTypes Tryz.prog).any (Tryz.prog.loopsFrom ·)))=true:=by kernel_rfl
theorem j17:((Rows.fnRetoldRoundRow.wideKeys==(Tryz.f9.params.toList++Rows.fnRetoldRoundSpec.plain.varTypes Tryz.prog++Tryz.f9.resultTypes.toList).any (Tryz.prog.wideKeysFrom ·)))=true:=by kernel_rfl
theorem j18:(Rows.fnRetoldRoundSpec.vars.all (Tryz.prog.varReadable ·))=true:=by kernel_rfl
theorem j19:(Tryz.f9.resultTypes.all (fun t=>Tryz.prog.readableRec t&&decide (t<Tryz.prog.types.size)))=true:=by kernel_rfl
theorem j20:((Rows.fnRetoldRoundRow.ifacesOut==Tryz.f9.resultTypes.toList.any (Tryz.prog.ifacesRec ·)))=true:=by kernel_rfl
theorem j21:((Rows.fnRetoldRoundRow.loopsOut==Tryz.f9.resultTypes.toList.any (Tryz.prog.loopsFrom ·)))=true:=by kernel_rfl
theorem j22:((Rows.fnRetoldRoundRow.plainKeys==Tryz.prog.plainKeys))=true:=by kernel_rfl
theorem j23:(Rows.fnRetoldRoundRow.shortTexts.isNone)=true:=by kernel_rfl
theorem j24:(Tryz.prog.stopsHeard)=true:=by kernel_rfl
theorem j25:(Tryz.prog.mayEnter)=true:=by kernel_rfl
theorem j26:((Rows.fnRetoldRoundRow.lifted==Tryz.prog.liftsFinal))=true:=by kernel_rfl
theorem j27:((Tryz.prog.make==some Rows.fnRetoldRoundRow.make))=true:=by kernel_rfl
theorem j28:((Rows.fnRetoldRoundRow.kinds==(if Rows.fnRetoldRoundRow.domain.isEmpty then [] else Tryz.f9.params.toList.map fun t=>match Tryz.prog.underlying t with | some (.int k)=>some k | _=>none)))=true:=by kernel_rfl
theorem j29:((Rows.fnRetoldRoundRow.pinned==Rows.fnRetoldRoundRow.pinnedBy))=true:=by kernel_rfl
theorem j30:((Rows.fnRetoldRoundRow.veiled==(Tryz.f9.params.toList++Rows.fnRetoldRoundSpec.plain.varTypes Tryz.prog++Tryz.f9.resultTypes.toList).any (Tryz.prog.veiledRec ·)))=true:=by kernel_rfl
theorem j31:(Rows.fnRetoldRoundRow.veiledFits Tryz.prog Tryz.f9.params.toList (Tryz.f9.params.toList++Rows.fnRetoldRoundSpec.plain.varTypes Tryz.prog++Tryz.f9.resultTypes.toList))=true:=by kernel_rfl
theorem c1f:joinedFacts Tryz.prog 9 Tryz.f9 Rows.fnRetoldRoundSpec Rows.fnRetoldRoundRow=true:=by
 unfold joinedFacts;simp only [Bool.and_eq_true];exact ⟨⟨⟨⟨⟨⟨⟨⟨⟨⟨⟨⟨⟨⟨⟨⟨⟨⟨⟨⟨⟨⟨⟨⟨⟨⟨⟨⟨⟨⟨⟨j0,j1⟩,j2⟩,j3⟩,j4⟩,j5⟩,j6⟩,j7⟩,j8⟩,j9⟩,j10⟩,j11⟩,j12⟩,j13⟩,j14⟩,j15⟩,j16⟩,j17⟩,j18⟩,j19⟩,j20⟩,j21⟩,j22⟩,j23⟩,j24⟩,j25⟩,j26⟩,j27⟩,j28⟩,j29⟩,j30⟩,j31⟩
end
end Go.Proofs.YtpclhlhcegcflaaGreatDoor
