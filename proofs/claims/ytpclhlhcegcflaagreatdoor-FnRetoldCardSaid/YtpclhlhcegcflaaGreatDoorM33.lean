/- One part of the proof: Hol5. -/
import Derived.Test.YtpclhlhcegcflaaGreatDoorM1
import Derived.Test.YtpclhlhcegcflaaGreatDoorM3
import Derived.Test.YtpclhlhcegcflaaGreatDoorM31
import Derived.Test.YtpclhlhcegcflaaGreatDoorM32
namespace Go.Proofs.YtpclhlhcegcflaaGreatDoor
set_option maxRecDepth 100000
set_option linter.unusedSimpArgs false
set_option linter.unusedVariables false
section
open Go Go.ChangeShapes Go.WideShapes Go.ChangeAt Go.RowKit
theorem c1g:Tryz.prog.funcNamed "pub-tabiya/laws.FnRetold" = some 5:=by kernel_rfl
theorem c2w:Tryz.f5.isInstance Tryz.prog Rows.fnRetoldRow.origin Rows.fnRetoldRow.targs:=of_decide_eq_true (by kernel_rfl)
theorem c2x:Tryz.f5.isWrapper Tryz.prog Rows.fnRetoldRow.wrapper Rows.fnRetoldRow.mainSum:=by
 unfold Func.isWrapper;first | (rw [if_pos (by decide +kernel)];kernel_rfl) | (rw [if_neg (by decide +kernel)];exact ⟨rfl,rfl⟩)
theorem holds:Rows.FnRetoldSaid :=
 OpenClaim.holds_of_wide 5 Tryz.f5 rfl rfl rfl rfl rfl rfl rfl ⟨rfl,rfl,rfl,rfl,rfl⟩ rfl rfl rfl rfl rfl c1g Tryz.func5 c1f c2w c2x
  (fun os started H enc _=>lifted os started H enc)
end
end Go.Proofs.YtpclhlhcegcflaaGreatDoor
