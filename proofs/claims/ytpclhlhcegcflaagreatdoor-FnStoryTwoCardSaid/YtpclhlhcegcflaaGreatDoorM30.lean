/- One part of the proof: Hol4. -/
import Derived.Test.YtpclhlhcegcflaaGreatDoorM1
import Derived.Test.YtpclhlhcegcflaaGreatDoorM3
import Derived.Test.YtpclhlhcegcflaaGreatDoorM28
import Derived.Test.YtpclhlhcegcflaaGreatDoorM29
namespace Go.Proofs.YtpclhlhcegcflaaGreatDoor
set_option maxRecDepth 100000
set_option linter.unusedSimpArgs false
set_option linter.unusedVariables false
section
open Go Go.ChangeShapes Go.WideShapes Go.ChangeAt Go.RowKit
theorem c1g : Tryz.prog.funcNamed "pub-tabiya/laws.FnStoryTwo" = some 4 := by kernel_rfl
theorem c2w : Tryz.f4.isInstance Tryz.prog Rows.fnStoryTwoRow.origin Rows.fnStoryTwoRow.targs := of_decide_eq_true (by kernel_rfl)
theorem c2x : Tryz.f4.isWrapper Tryz.prog Rows.fnStoryTwoRow.wrapper Rows.fnStoryTwoRow.mainSum := by
 unfold Func.isWrapper; first | (rw [if_pos (by decide +kernel)]; kernel_rfl) | (rw [if_neg (by decide +kernel)]; exact ⟨rfl, rfl⟩)
theorem holds : Rows.FnStoryTwoSaid :=
 OpenClaim.holds_of_wide 4 Tryz.f4 rfl rfl rfl rfl rfl rfl rfl ⟨rfl, rfl, rfl, rfl, rfl⟩ rfl rfl rfl rfl rfl c1g Tryz.func4 c1f c2w c2x
  (fun os started H enc _ => lifted os started H enc)
end
end Go.Proofs.YtpclhlhcegcflaaGreatDoor
