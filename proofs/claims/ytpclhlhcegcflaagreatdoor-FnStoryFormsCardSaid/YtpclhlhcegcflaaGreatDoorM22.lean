/- One part of the proof: Hol7. -/
import Derived.Test.YtpclhlhcegcflaaGreatDoorM1
import Derived.Test.YtpclhlhcegcflaaGreatDoorM3
import Derived.Test.YtpclhlhcegcflaaGreatDoorM20
import Derived.Test.YtpclhlhcegcflaaGreatDoorM21
namespace Go.Proofs.YtpclhlhcegcflaaGreatDoor
set_option maxRecDepth 100000
set_option linter.unusedSimpArgs false
set_option linter.unusedVariables false
section
open Go Go.ChangeShapes Go.WideShapes Go.ChangeAt Go.RowKit
theorem c3H:Tryz.prog.funcNamed "pub-tabiya/laws.FnStoryForms" = some 6:=by kernel_rfl
theorem c5d:Tryz.f6.isInstance Tryz.prog Rows.fnStoryFormsRow.origin Rows.fnStoryFormsRow.targs:=of_decide_eq_true (by kernel_rfl)
theorem c5e:Tryz.f6.isWrapper Tryz.prog Rows.fnStoryFormsRow.wrapper Rows.fnStoryFormsRow.mainSum:=by
 unfold Func.isWrapper;first | (rw [if_pos (by decide +kernel)];kernel_rfl) | (rw [if_neg (by decide +kernel)];exact ⟨rfl,rfl⟩)
theorem holds:Rows.FnStoryFormsSaid :=
 OpenClaim.holds_of_wide 6 Tryz.f6 rfl rfl rfl rfl rfl rfl rfl ⟨rfl,rfl,rfl,rfl,rfl⟩ rfl rfl rfl rfl rfl c3H Tryz.func6 c3G c5d c5e
  (fun os started H enc _=>lifted os started H enc)
end
end Go.Proofs.YtpclhlhcegcflaaGreatDoor
