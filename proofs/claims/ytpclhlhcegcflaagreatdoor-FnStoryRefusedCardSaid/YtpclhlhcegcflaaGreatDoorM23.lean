/- One part of the proof: Hol9. -/
import Derived.Test.YtpclhlhcegcflaaGreatDoorM21
import Derived.Test.YtpclhlhcegcflaaGreatDoorM22
namespace Go.Proofs.YtpclhlhcegcflaaGreatDoor
set_option maxRecDepth 100000
set_option linter.unusedSimpArgs false
set_option linter.unusedVariables false
section
open Go Go.ChangeShapes Go.WideShapes Go.ChangeAt Go.RowKit
theorem c4U:Tryz.prog.funcNamed "pub-tabiya/laws.FnStoryRefused" = some 7:=by kernel_rfl
theorem c6v:Tryz.f7.isInstance Tryz.prog Rows.fnStoryRefusedRow.origin Rows.fnStoryRefusedRow.targs:=yF (by kernel_rfl)
theorem c6w:Tryz.f7.isWrapper Tryz.prog Rows.fnStoryRefusedRow.wrapper Rows.fnStoryRefusedRow.mainSum:=by
 unfold Func.isWrapper;first|(rw [zM (by decide +kernel)];kernel_rfl)|(rw [zJ (by decide +kernel)];exact ⟨rfl,rfl⟩)
theorem holds:Rows.FnStoryRefusedSaid :=
 OpenClaim.holds_of_wide 7 Tryz.f7 rfl rfl rfl rfl rfl rfl rfl ⟨rfl,rfl,rfl,rfl,rfl⟩ rfl rfl rfl rfl rfl c4U Tryz.func7 c4T c6v c6w
  (fun os started H enc _=>lifted os started H enc)
end
