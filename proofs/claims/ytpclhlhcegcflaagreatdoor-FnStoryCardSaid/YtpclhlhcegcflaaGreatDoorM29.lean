/- One part of the proof: Hol. -/
import Derived.Test.YtpclhlhcegcflaaGreatDoorM1
import Derived.Test.YtpclhlhcegcflaaGreatDoorM3
import Derived.Test.YtpclhlhcegcflaaGreatDoorM27
import Derived.Test.YtpclhlhcegcflaaGreatDoorM28
namespace Go.Proofs.YtpclhlhcegcflaaGreatDoor
set_option maxRecDepth 100000
set_option linter.unusedSimpArgs false
set_option linter.unusedVariables false
section
open Go Go.ChangeShapes Go.WideShapes Go.ChangeAt Go.RowKit
theorem hnamed : Tryz.prog.funcNamed "pub-tabiya/laws.FnStory" = some 3 := by kernel_rfl
theorem hinst : Tryz.f3.isInstance Tryz.prog Rows.fnStoryRow.origin Rows.fnStoryRow.targs := of_decide_eq_true (by kernel_rfl)
theorem hwrap : Tryz.f3.isWrapper Tryz.prog Rows.fnStoryRow.wrapper Rows.fnStoryRow.mainSum := by
 unfold Func.isWrapper; first | (rw [if_pos (by decide +kernel)]; kernel_rfl) | (rw [if_neg (by decide +kernel)]; exact ⟨rfl, rfl⟩)
theorem holds : Rows.FnStorySaid :=
 OpenClaim.holds_of_wide 3 Tryz.f3 rfl rfl rfl rfl rfl rfl rfl ⟨rfl, rfl, rfl, rfl, rfl⟩ rfl rfl rfl rfl rfl hnamed Tryz.func3 closed hinst hwrap
  (fun os started H enc _ => lifted os started H enc)
end
end Go.Proofs.YtpclhlhcegcflaaGreatDoor
