/- PROVED: fnStoryPgn_card : Rows.FnStoryPgnCardSaid: called with any position, any flag, any row of moves, any row of tags and any row of comments that can be read, laws.FnStoryPgn returns true, and its arguments read behind the call as they read before. CONDITIONS: when the call begins the twenty-one package-level variables that the row lists hold what the program text lays in them (the card ties this;two of them are tables of the Go library, pinned by name). The card speaks of the pruned copy of the project. -/
import Derived.Test.YtpclhlhcegcflaaGreatDoorCards
import Derived.Test.YtpclhlhcegcflaaGreatDoorM21
import Derived.Test.YtpclhlhcegcflaaGreatDoorM22
import Derived.Test.YtpclhlhcegcflaaGreatDoorM23
namespace Go.Proofs.YtpclhlhcegcflaaGreatDoor
set_option linter.unusedSimpArgs false
set_option linter.unusedVariables false
section
open Go
theorem cf7 (f:FuncId) (fn:Func) (hf:Tryz.pinned.checked.prog.funcNamed Rows.fnStoryPgnRow.func=some f) (hfn:Tryz.pinned.checked.prog.funcs[f]?=some fn) :
  true=Tryz.pinned.checked.prog.looks []∧∀ (j:Nat) t,fn.params[j]?=some t→Tryz.pinned.checked.prog.wantsStandIn t=false:=by
 obtain rfl:f=10:=yi (cf6.symm.trans hf) |>.symm;obtain rfl:fn=Tryz.f10:=(yi (Tryz.func10.symm.trans hfn)).symm;refine ⟨cf3,fun j t ht=>?_⟩;rw [Tryz.params10] at ht;have hm:t∈[24,4,25,60,42]:=by simpa using Array.mem_of_getElem? ht
 exact (show Tryz.prog.wantsStandIn t=false by simpa using zl.1 cf4 t hm)
theorem fnStoryPgn_card:Rows.FnStoryPgnCardSaid :=
 Claim7.holds_tied_plain_at .later [] [.data,.pinned,.data,.listed,.data,.data,.sentinel,.sentinel,.data,.data,.data,.data,.data,.data,.data,.data,.data,.data,.pinned,.data,.data] true (true,"4882b15d2032bf7e0dbb7d66f34b5e460ef23978ae3d737b8bb73bb3f6e80227") true holds (fun _ h=>by cases h) cf1 (fun _ h=>by cases h) a5h rfl ⟨rfl,rfl⟩ cf2 rfl cf7 cf5
#print axioms fnStoryPgn_card
end
