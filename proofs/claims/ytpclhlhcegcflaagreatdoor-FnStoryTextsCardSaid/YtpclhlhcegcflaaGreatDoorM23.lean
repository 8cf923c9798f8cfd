/- One part of the proof: Hol8. -/
import Derived.Test.YtpclhlhcegcflaaGreatDoorM1
import Derived.Test.YtpclhlhcegcflaaGreatDoorM3
import Derived.Test.YtpclhlhcegcflaaGreatDoorM21
import Derived.Test.YtpclhlhcegcflaaGreatDoorM22
namespace Go.Proofs.YtpclhlhcegcflaaGreatDoor
set_option maxRecDepth 100000
set_option linter.unusedSimpArgs false
set_option linter.unusedVariables false
section
open Go Go.ChangeShapes Go.WideShapes Go.ChangeAt Go.RowKit
theorem c3H:Tryz.prog.funcNamed "pub-tabiya/laws.FnStoryTexts" = some 8:=by kernel_rfl
theorem c5d:Tryz.f8.isInstance Tryz.prog Rows.fnStoryTextsRow.origin Rows.fnStoryTextsRow.targs:=yA (by kernel_rfl)
theorem c5e:Tryz.f8.isWrapper Tryz.prog Rows.fnStoryTextsRow.wrapper Rows.fnStoryTextsRow.mainSum:=by
 unfold Func.isWrapper;first | (rw [zM (by decide +kernel)];kernel_rfl) | (rw [zJ (by decide +kernel)];exact ⟨rfl,rfl⟩)
theorem holds:Rows.FnStoryTextsSaid :=
 OpenClaim.holds_of_wide 8 Tryz.f8 rfl rfl rfl rfl rfl rfl rfl ⟨rfl,rfl,rfl,rfl,rfl⟩ rfl rfl rfl rfl rfl c3H Tryz.func8 c3G c5d c5e
  (fun os started H enc _=>lifted os started H enc)
end
end Go.Proofs.YtpclhlhcegcflaaGreatDoor
