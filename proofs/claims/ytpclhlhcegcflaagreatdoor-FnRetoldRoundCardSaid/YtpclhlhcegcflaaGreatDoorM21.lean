/- One part of the proof: Hol6. -/
import Derived.Test.YtpclhlhcegcflaaGreatDoorM1
import Derived.Test.YtpclhlhcegcflaaGreatDoorM3
import Derived.Test.YtpclhlhcegcflaaGreatDoorM19
import Derived.Test.YtpclhlhcegcflaaGreatDoorM20
namespace Go.Proofs.YtpclhlhcegcflaaGreatDoor
set_option maxRecDepth 100000
set_option linter.unusedSimpArgs false
set_option linter.unusedVariables false
section
open Go Go.ChangeShapes Go.WideShapes Go.ChangeAt Go.RowKit
theorem c1g:Tryz.prog.funcNamed "pub-tabiya/laws.FnRetoldRound" = some 9:=by kernel_rfl
theorem c2w:Tryz.f9.isInstance Tryz.prog Rows.fnRetoldRoundRow.origin Rows.fnRetoldRoundRow.targs:=of_decide_eq_true (by kernel_rfl)
theorem c2x:Tryz.f9.isWrapper Tryz.prog Rows.fnRetoldRoundRow.wrapper Rows.fnRetoldRoundRow.mainSum:=by
 unfold Func.isWrapper;first | (rw [if_pos (by decide +kernel)];kernel_rfl) | (rw [if_neg (by decide +kernel)];exact ⟨rfl,rfl⟩)
theorem holds:Rows.FnRetoldRoundSaid :=
 OpenClaim.holds_of_wide 9 Tryz.f9 rfl rfl rfl rfl rfl rfl rfl ⟨rfl,rfl,rfl,rfl,rfl⟩ rfl rfl rfl rfl rfl c1g Tryz.func9 c1f c2w c2x
  (fun os started H enc _=>lifted os started H enc)
end
end Go.Proofs.YtpclhlhcegcflaaGreatDoor
