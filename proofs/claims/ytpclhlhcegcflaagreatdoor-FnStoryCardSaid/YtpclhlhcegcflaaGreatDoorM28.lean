/- One part of the proof: Jf. -/
import Derived.Test.YtpclhlhcegcflaaGreatDoorRows
import Derived.JoinedOf
import Derived.ChangeFn
import Derived.Test.YtpclhlhcegcflaaGreatDoorM1
import Derived.Test.YtpclhlhcegcflaaGreatDoorM3
namespace Go.Proofs.YtpclhlhcegcflaaGreatDoor
set_option maxRecDepth 100000
set_option linter.unusedSimpArgs false
set_option linter.unusedVariables false
section
open Go
theorem j0 : (Rows.fnStoryRow.wf (OpenSpec.ofChange Rows.fnStorySpec)) = true := by kernel_rfl
theorem j1 : (laidOutB Tryz.prog) = true := by kernel_rfl
theorem j2 : (mapsRowed Tryz.prog) = true := by kernel_rfl
theorem j3 : (Tryz.f3.params.all (Tryz.prog.readableRec ·)) = true := by kernel_rfl
theorem j4 : (namedTie Tryz.prog Rows.fnStoryRow.named Rows.fnStorySpec.vars) = true := by kernel_rfl
theorem j5 : ((Rows.fnStoryRow.stops == [])) = true := by kernel_rfl
theorem j6 : ((Tryz.prog.stops == [])) = true := by kernel_rfl
theorem j7 : ((Rows.fnStoryRow.knobs == [])) = true := by kernel_rfl
theorem j8 : ((Tryz.prog.stopKnobs == [])) = true := by kernel_rfl
theorem j9 : ((Rows.fnStoryRow.inPlace == Tryz.prog.inPlace 3)) = true := by kernel_rfl
theorem j10 : ((Rows.fnStoryRow.unfollowed == Tryz.prog.unfollowed 3)) = true := by kernel_rfl
theorem j11 : ((Rows.fnStoryRow.recurses == Tryz.prog.recurses 3)) = true := by kernel_rfl
theorem j12 : ((Rows.fnStoryRow.named == Tryz.prog.varsNamed 3)) = true := by kernel_rfl
theorem j13 : ((Rows.fnStoryRow.maps == (Tryz.f3.params.toList ++ Rows.fnStorySpec.plain.varTypes Tryz.prog).any (Tryz.prog.mapsRec ·))) = true := by kernel_rfl
theorem j14 : ((Rows.fnStoryRow.ifaces == (Tryz.f3.params.toList ++ Rows.fnStorySpec.plain.varTypes Tryz.prog).any (Tryz.prog.ifacesRec ·))) = true := by kernel_rfl
theorem j15 : ((Rows.fnStoryRow.mapsOut == Tryz.prog.mapsAmong Tryz.f3.resultTypes.toList)) = true := by kernel_rfl
theorem j16 : ((Rows.fnStoryRow.loops == (Tryz.f3.params.toList ++ Rows.fnStorySpec.plain.varTypes Tryz.prog).any (Tryz.prog.loopsFrom ·))) = true := by kernel_rfl
theorem j17 : ((Rows.fnStoryRow.wideKeys == (Tryz.f3.params.toList ++ Rows.fnStorySpec.plain.varTypes Tryz.prog ++ Tryz.f3.resultTypes.toList).any (Tryz.prog.wideKeysFrom ·))) = true := by kernel_rfl
theorem j18 : (Rows.fnStorySpec.vars.all (Tryz.prog.varReadable ·)) = true := by kernel_rfl
theorem j19 : (Tryz.f3.resultTypes.all (fun t => Tryz.prog.readableRec t && decide (t < Tryz.prog.types.size))) = true := by kernel_rfl
theorem j20 : ((Rows.fnStoryRow.ifacesOut == Tryz.f3.resultTypes.toList.any (Tryz.prog.ifacesRec ·))) = true := by kernel_rfl
theorem j21 : ((Rows.fnStoryRow.loopsOut == Tryz.f3.resultTypes.toList.any (Tryz.prog.loopsFrom ·))) = true := by kernel_rfl
theorem j22 : ((Rows.fnStoryRow.plainKeys == Tryz.prog.plainKeys)) = true := by kernel_rfl
theorem j23 : (Rows.fnStoryRow.shortTexts.isNone) = true := by kernel_rfl
theorem j24 : (Tryz.prog.stopsHeard) = true := by kernel_rfl
theorem j25 : (Tryz.prog.mayEnter) = true := by kernel_rfl
theorem j26 : ((Rows.fnStoryRow.lifted == Tryz.prog.liftsFinal)) = true := by kernel_rfl
theorem j27 : ((Tryz.prog.make == some Rows.fnStoryRow.make)) = true := by kernel_rfl
theorem j28 : ((Rows.fnStoryRow.kinds == (if Rows.fnStoryRow.domain.isEmpty then [] else Tryz.f3.params.toList.map fun t => match Tryz.prog.underlying t with | some (.int k) => some k | _ => none))) = true := by kernel_rfl
theorem j29 : ((Rows.fnStoryRow.pinned == Rows.fnStoryRow.pinnedBy)) = true := by kernel_rfl
theorem j30 : ((Rows.fnStoryRow.veiled == (Tryz.f3.params.toList ++ Rows.fnStorySpec.plain.varTypes Tryz.prog ++ Tryz.f3.resultTypes.toList).any (Tryz.prog.veiledRec ·))) = true := by kernel_rfl
theorem j31 : (Rows.fnStoryRow.veiledFits Tryz.prog Tryz.f3.params.toList (Tryz.f3.params.toList ++ Rows.fnStorySpec.plain.varTypes Tryz.prog ++ Tryz.f3.resultTypes.toList)) = true := by kernel_rfl
theorem closed : joinedFacts Tryz.prog 3 Tryz.f3 Rows.fnStorySpec Rows.fnStoryRow = true := by
 unfold joinedFacts
 simp only [Bool.and_eq_true]
 exact ⟨⟨⟨⟨⟨⟨⟨⟨⟨⟨⟨⟨⟨⟨⟨⟨⟨⟨⟨⟨⟨⟨⟨⟨⟨⟨⟨⟨⟨⟨⟨j0, j1⟩, j2⟩, j3⟩, j4⟩, j5⟩, j6⟩, j7⟩, j8⟩, j9⟩, j10⟩, j11⟩, j12⟩, j13⟩, j14⟩, j15⟩, j16⟩, j17⟩, j18⟩, j19⟩, j20⟩, j21⟩, j22⟩, j23⟩, j24⟩, j25⟩, j26⟩, j27⟩, j28⟩, j29⟩, j30⟩, j31⟩
end
end Go.Proofs.YtpclhlhcegcflaaGreatDoor
