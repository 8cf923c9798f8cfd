/- One part of the proof: Jf4. -/
import Derived.Test.YtpclhlhcegcflaaGreatDoorRows
import Derived.JoinedOf
import Derived.ChangeFn
import Derived.Test.YtpclhlhcegcflaaGreatDoorM1
import Derived.Test.YtpclhlhcegcflaaGreatDoorM3
namespace Go.Proofs.YtpclhlhcegcflaaGreatDoor
set_option maxRecDepth 100000
set_option linter.unusedSimpArgs false
set_option linter.unusedVariables false
section
open Go
theorem j0 : (Rows.fnStoryTwoRow.wf (OpenSpec.ofChange Rows.fnStoryTwoSpec)) = true := by kernel_rfl
theorem j1 : (laidOutB Tryz.prog) = true := by kernel_rfl
theorem j2 : (mapsRowed Tryz.prog) = true := by kernel_rfl
theorem j3 : (Tryz.f4.params.all (Tryz.prog.readableRec ·)) = true := by kernel_rfl
theorem j4 : (namedTie Tryz.prog Rows.fnStoryTwoRow.named Rows.fnStoryTwoSpec.vars) = true := by kernel_rfl
theorem j5 : ((Rows.fnStoryTwoRow.stops == [])) = true := by kernel_rfl
theorem j6 : ((Tryz.prog.stops == [])) = true := by kernel_rfl
theorem j7 : ((Rows.fnStoryTwoRow.knobs == [])) = true := by kernel_rfl
theorem j8 : ((Tryz.prog.stopKnobs == [])) = true := by kernel_rfl
theorem j9 : ((Rows.fnStoryTwoRow.inPlace == Tryz.prog.inPlace 4)) = true := by kernel_rfl
theorem j10 : ((Rows.fnStoryTwoRow.unfollowed == Tryz.prog.unfollowed 4)) = true := by kernel_rfl
theorem j11 : ((Rows.fnStoryTwoRow.recurses == Tryz.prog.recurses 4)) = true := by kernel_rfl
theorem j12 : ((Rows.fnStoryTwoRow.named == Tryz.prog.varsNamed 4)) = true := by kernel_rfl
theorem j13 : ((Rows.fnStoryTwoRow.maps == (Tryz.f4.params.toList ++ Rows.fnStoryTwoSpec.plain.varTypes Tryz.prog).any (Tryz.prog.mapsRec ·))) = true := by kernel_rfl
theorem j14 : ((Rows.fnStoryTwoRow.ifaces == (Tryz.f4.params.toList ++ Rows.fnStoryTwoSpec.plain.varTypes Tryz.prog).any (Tryz.prog.ifacesRec ·))) = true := by kernel_rfl
theorem j15 : ((Rows.fnStoryTwoRow.mapsOut == Tryz.prog.mapsAmong Tryz.f4.resultTypes.toList)) = true := by kernel_rfl
theorem j16 : ((Rows.fnStoryTwoRow.loops == (Tryz.f4.params.toList ++ Rows.fnStoryTwoSpec.plain.varTypes Tryz.prog).any (Tryz.prog.loopsFrom ·))) = true := by kernel_rfl
theorem j17 : ((Rows.fnStoryTwoRow.wideKeys == (Tryz.f4.params.toList ++ Rows.fnStoryTwoSpec.plain.varTypes Tryz.prog ++ Tryz.f4.resultTypes.toList).any (Tryz.prog.wideKeysFrom ·))) = true := by kernel_rfl
theorem j18 : (Rows.fnStoryTwoSpec.vars.all (Tryz.prog.varReadable ·)) = true := by kernel_rfl
theorem j19 : (Tryz.f4.resultTypes.all (fun t => Tryz.prog.readableRec t && decide (t < Tryz.prog.types.size))) = true := by kernel_rfl
theorem j20 : ((Rows.fnStoryTwoRow.ifacesOut == Tryz.f4.resultTypes.toList.any (Tryz.prog.ifacesRec ·))) = true := by kernel_rfl
theorem j21 : ((Rows.fnStoryTwoRow.loopsOut == Tryz.f4.resultTypes.toList.any (Tryz.prog.loopsFrom ·))) = true := by kernel_rfl
theorem j22 : ((Rows.fnStoryTwoRow.plainKeys == Tryz.prog.plainKeys)) = true := by kernel_rfl
theorem j23 : (Rows.fnStoryTwoRow.shortTexts.isNone) = true := by kernel_rfl
theorem j24 : (Tryz.prog.stopsHeard) = true := by kernel_rfl
theorem j25 : (Tryz.prog.mayEnter) = true := by kernel_rfl
theorem j26 : ((Rows.fnStoryTwoRow.lifted == Tryz.prog.liftsFinal)) = true := by kernel_rfl
theorem j27 : ((Tryz.prog.make == some Rows.fnStoryTwoRow.make)) = true := by kernel_rfl
theorem j28 : ((Rows.fnStoryTwoRow.kinds == (if Rows.fnStoryTwoRow.domain.isEmpty then [] else Tryz.f4.params.toList.map fun t => match Tryz.prog.underlying t with | some (.int k) => some k | _ => none))) = true := by kernel_rfl
theorem j29 : ((Rows.fnStoryTwoRow.pinned == Rows.fnStoryTwoRow.pinnedBy)) = true := by kernel_rfl
theorem j30 : ((Rows.fnStoryTwoRow.veiled == (Tryz.f4.params.toList ++ Rows.fnStoryTwoSpec.plain.varTypes Tryz.prog ++ Tryz.f4.resultTypes.toList).any (Tryz.prog.veiledRec ·))) = true := by kernel_rfl
theorem j31 : (Rows.fnStoryTwoRow.veiledFits Tryz.prog Tryz.f4.params.toList (Tryz.f4.params.toList ++ Rows.fnStoryTwoSpec.plain.varTypes Tryz.prog ++ Tryz.f4.resultTypes.toList)) = true := by kernel_rfl
theorem c1f : joinedFacts Tryz.prog 4 Tryz.f4 Rows.fnStoryTwoSpec Rows.fnStoryTwoRow = true := by
 unfold joinedFacts
 simp only [Bool.and_eq_true]
 exact ⟨⟨⟨⟨⟨⟨⟨⟨⟨⟨⟨⟨⟨⟨⟨⟨⟨⟨⟨⟨⟨⟨⟨⟨⟨⟨⟨⟨⟨⟨⟨j0, j1⟩, j2⟩, j3⟩, j4⟩, j5⟩, j6⟩, j7⟩, j8⟩, j9⟩, j10⟩, j11⟩, j12⟩, j13⟩, j14⟩, j15⟩, j16⟩, j17⟩, j18⟩, j19⟩, j20⟩, j21⟩, j22⟩, j23⟩, j24⟩, j25⟩, j26⟩, j27⟩, j28⟩, j29⟩, j30⟩, j31⟩
end
end Go.Proofs.YtpclhlhcegcflaaGreatDoor
