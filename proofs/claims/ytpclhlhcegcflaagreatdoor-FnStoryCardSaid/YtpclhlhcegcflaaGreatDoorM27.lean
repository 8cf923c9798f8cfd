/- One part of the proof: Fin. -/
import Derived.Test.YtpclhlhcegcflaaGreatDoorRows
import Derived.Lay
import Derived.LaidMore
import Derived.OpenShut
import Derived.ProofKit
import Derived.Stop.Joined
import Derived.Test.YtpclhlhcegcflaaGreatDoorM1
import Derived.Test.YtpclhlhcegcflaaGreatDoorM3
import Derived.Test.YtpclhlhcegcflaaGreatDoorM24
import Derived.Test.YtpclhlhcegcflaaGreatDoorM26
namespace Go.Proofs.YtpclhlhcegcflaaGreatDoor
set_option maxRecDepth 100000
set_option linter.unusedSimpArgs false
set_option linter.unusedVariables false
section
open Go Go.ChangeShapes Go.WideShapes Go.ChangeAt Go.RowKit
theorem own : ownKnob Tryz.prog.godebug = none := by kernel_rfl
theorem laidOut : laidOutB Tryz.prog = true := by kernel_rfl
theorem of_laid {W : World} (hS : W.ShapedOpen Tryz.prog) (h : laidMetH Tryz.prog Rows.fnStoryRow.laid W) : Tabs W ∧ Spc W ∧ Pow W := by
 rw [MakeChecks.laidMetH_plain _ _ _ (by kernel_rfl)] at h
 exact laid_tabs hS h (List.mem_of_getElem? (i := 13) (by kernel_rfl)) (List.mem_of_getElem? (i := 14) (by kernel_rfl)) (List.mem_of_getElem? (i := 15) (by kernel_rfl)) (List.mem_of_getElem? (i := 16) (by kernel_rfl))
  (List.mem_of_getElem? (i := 11) (by kernel_rfl)) (List.mem_of_getElem? (i := 12) (by kernel_rfl)) (List.mem_of_getElem? (i := 5) (by kernel_rfl)) (List.mem_of_getElem? (i := 17) (by kernel_rfl)) (List.mem_of_getElem? (i := 19) (by kernel_rfl)) (List.mem_of_getElem? (i := 20) (by kernel_rfl))
  (List.mem_of_getElem? (i := 4) (by kernel_rfl)) (List.mem_of_getElem? (i := 0) (by kernel_rfl)) (List.mem_of_getElem? (i := 8) (by kernel_rfl))
theorem lifted (os : Os) (started : os.Started) (H : Type) (enc : TypeId × Value → H) :
  ReturnsInHanded {} Tryz.checked os 3 .any (fun w args => (Rows.fnStorySpec.pre enc Tryz.prog Tryz.f3 [] false w args ∧ laidMetH Tryz.prog Rows.fnStoryRow.laid w) ∧ sizedMet enc Tryz.prog Tryz.f3 (OpenSpec.ofChange Rows.fnStorySpec) false w args)
   (Rows.fnStorySpec.post enc Tryz.prog Tryz.f3 false true false false) := by
 refine handed_shaped (C := Tryz.checked) (X := fun w _ => laidMetH Tryz.prog Rows.fnStoryRow.laid w) (fun _ _ _ hh h => h.of_heap hh) own started (by kernel_rfl) Tryz.func3
  (ChangeSpec.witness_shaped (enc := enc) (C := Tryz.checked) (os := os) (X := fun w _ => laidMetH Tryz.prog Rows.fnStoryRow.laid w) false (World.laidAll Tryz.prog os Rows.fnStoryRow.laid) #[.agg (Array.replicate 69 (.int .i64 0)), .bool false, .slice none 0 0] 8 (World.laidAll_os _ _ _)
   (World.shaped_of_ZipB (by kernel_rfl) (by kernel_rfl)) (by kernel_rfl) (by kernel_rfl) (by kernel_rfl)
   (by rw [MakeChecks.laidMetH_plain _ _ _ (by kernel_rfl)]; exact laidMet_laidAll _ (by kernel_rfl) (by kernel_rfl))) ?_
 intro W base args ds gs before hsh hval0 hW hL
 have hval : ∀ (j : Nat) t v, Tryz.f3.params[j]? = some t → args[j]? = some v → Value.okWide Tryz.prog W .any base t v := hval0
 have hW' := hW
 obtain ⟨p, q, hA0, hV, rfl, hfz, hnd⟩ := hW
 have hA : DataW.TrodAll enc Tryz.prog W 0 (fun _ => true) true Tryz.f3.params.toList args.toList ds p := hA0
 rw [Tryz.params3] at hA hval
 obtain ⟨v0, v1, v2, d0, d1, d2, p0, p1, p2, rfl, rfl, rfl, h0, h1, h2⟩ := trodAll_three hA
 obtain ⟨rfl, rfl⟩ := trodVars_none hV
 have t4 : Tryz.prog.underlying 4 = some .bool := by kernel_rfl
 obtain ⟨u, rfl, rfl, rfl⟩ := open_bool t4 (hval 1 4 v1 rfl rfl) h1
 obtain ⟨s, rfl⟩ := open_pos (hval 0 24 v0 rfl rfl)
 obtain ⟨ms, hrow, hms⟩ := open_moves (hval 2 25 v2 rfl rfl) h2
 obtain ⟨hT, hSp, hP⟩ := of_laid hsh hL
 simp only [List.append_nil] at hW'
 have hlt : ∀ x ∈ p0 ++ [] ++ p2, x.block < W.heap.size := fun x hx => by simpa using hW'.lt x (by simpa using hx)
 refine (FnStory_c s u ms hms W hT hSp hP hrow).mono fun e W' hr => ?_
 obtain ⟨rfl, hb⟩ := hr
 have a0 := Below.trod laidOut (by kernel_rfl) (of_decide_eq_true (by kernel_rfl)) h0 hb (fun x hx => hlt x (by simp [hx]))
 have a2 := Below.trod laidOut (by kernel_rfl) (of_decide_eq_true (by kernel_rfl)) h2 hb (fun x hx => hlt x (by simp [hx]))
 have hps : p0 ++ p2 = p0 ++ ([] ++ p2) := by simp
 exact ⟨_, rfl, _, _, _, [], p0 ++ ([] ++ p2), [], hW', trodAll_mk1 (shut_bool t4 _), trodAll_mk3 a0 (shut_bool t4 _) a2, rfl, hb.frame _, fun h => by cases h⟩
end
end Go.Proofs.YtpclhlhcegcflaaGreatDoor
