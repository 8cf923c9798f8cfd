/- One part of the proof: Cf10. -/
import Derived.Test.YtpclhlhcegcflaaGreatDoorRows
import Derived.SevenTiedAt
import Derived.Test.YtpclhlhcegcflaaGreatDoorM3
namespace Go.Proofs.YtpclhlhcegcflaaGreatDoor
set_option maxRecDepth 100000
set_option linter.unusedSimpArgs false
set_option linter.unusedVariables false
section
open Go
theorem cf1:Rows.fnStoryPgnRow.wfByText (OpenSpec.ofChange Rows.fnStoryPgnSpec)=true:=by kernel_rfl
theorem cf2:Tryz.prog.mainIs=some (true,"4882b15d2032bf7e0dbb7d66f34b5e460ef23978ae3d737b8bb73bb3f6e80227".toList):=by kernel_rfl
theorem cf3:true=Tryz.prog.looks []:=by kernel_rfl
theorem cf4:([24,4,25,60,42].all fun u=>!Tryz.prog.wantsStandIn u)=true:=by kernel_rfl
theorem cf5:false=Rows.fnStoryPgnRow.goesBy Tryz.prog:=by kernel_rfl
theorem cf6:Tryz.prog.funcNamed Rows.fnStoryPgnRow.func=some 10:=by kernel_rfl
end
