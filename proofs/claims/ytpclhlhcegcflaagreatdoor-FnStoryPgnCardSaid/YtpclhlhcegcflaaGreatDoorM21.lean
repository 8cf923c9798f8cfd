/- One part of the proof: Hol10. -/
import Derived.Test.YtpclhlhcegcflaaGreatDoorM19
import Derived.Test.YtpclhlhcegcflaaGreatDoorM20
namespace Go.Proofs.YtpclhlhcegcflaaGreatDoor
set_option maxRecDepth 100000
set_option linter.unusedSimpArgs false
set_option linter.unusedVariables false
section
open Go Go.ChangeShapes Go.WideShapes Go.ChangeAt Go.RowKit
theorem c3U:Tryz.prog.funcNamed "pub-tabiya/laws.FnStoryPgn" = some 10:=by kernel_rfl
theorem c5m:Tryz.f10.isInstance Tryz.prog Rows.fnStoryPgnRow.origin Rows.fnStoryPgnRow.targs:=yB (by kernel_rfl)
theorem c5n:Tryz.f10.isWrapper Tryz.prog Rows.fnStoryPgnRow.wrapper Rows.fnStoryPgnRow.mainSum:=by
 unfold Func.isWrapper;first|(rw [zM (by decide +kernel)];kernel_rfl)|(rw [zJ (by decide +kernel)];exact ⟨rfl,rfl⟩)
theorem holds:Rows.FnStoryPgnSaid :=
 OpenClaim.holds_of_wide 10 Tryz.f10 rfl rfl rfl rfl rfl rfl rfl ⟨rfl,rfl,rfl,rfl,rfl⟩ rfl rfl rfl rfl rfl c3U Tryz.func10 c3T c5m c5n
  (fun os started H enc _=>lifted os started H enc)
end
