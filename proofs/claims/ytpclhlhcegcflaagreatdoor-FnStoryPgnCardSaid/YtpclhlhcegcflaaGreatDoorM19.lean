/- One part of the proof: Fin10. -/
import Derived.Test.YtpclhlhcegcflaaGreatDoorRows
import Derived.Lay
import Derived.Stop.Joined
import Derived.Test.YtpclhlhcegcflaaGreatDoorM18
namespace Go.Proofs.YtpclhlhcegcflaaGreatDoor
set_option maxRecDepth 100000
set_option linter.unusedSimpArgs false
set_option linter.unusedVariables false
section
open Go Go.ChangeShapes Go.WideShapes Go.ChangeAt Go.RowKit
theorem own:ownKnob Tryz.prog.godebug=none:=by kernel_rfl
theorem a7L:laidOutB Tryz.prog=true:=by kernel_rfl
theorem c1Z {W:World} (hS:W.ShapedOpen Tryz.prog) (h:laidMetH Tryz.prog Rows.fnStoryPgnRow.laid W):D5 W∧Spc W∧Pow W:=by
 rw [MakeChecks.laidMetH_plain _ _ _ (by kernel_rfl)] at h
 exact b6H hS h (yg (i:=13) (by kernel_rfl)) (yg (i:=14) (by kernel_rfl)) (yg (i:=15) (by kernel_rfl)) (yg (i:=16) (by kernel_rfl))
  (yg (i:=11) (by kernel_rfl)) (yg (i:=12) (by kernel_rfl)) (yg (i:=5) (by kernel_rfl)) (yg (i:=17) (by kernel_rfl)) (yg (i:=19) (by kernel_rfl)) (yg (i:=20) (by kernel_rfl))
  (yg (i:=4) (by kernel_rfl)) (yg (i:=0) (by kernel_rfl)) (yg (i:=8) (by kernel_rfl))
theorem lifted (os:Os) (started:os.Started) (H:Type) (enc:TypeId×Value→H) :
  ReturnsInHanded {} Tryz.checked os 10 .any (fun w args=>(Rows.fnStoryPgnSpec.pre enc Tryz.prog Tryz.f10 [] false w args∧laidMetH Tryz.prog Rows.fnStoryPgnRow.laid w)∧sizedMet enc Tryz.prog Tryz.f10 (OpenSpec.ofChange Rows.fnStoryPgnSpec) false w args)
   (Rows.fnStoryPgnSpec.post enc Tryz.prog Tryz.f10 false true false false):=by
 refine a9s (C:=Tryz.checked) (X:=fun w _=>laidMetH Tryz.prog Rows.fnStoryPgnRow.laid w) (fun _ _ _ hh h=>h.of_heap hh) own started (by kernel_rfl) Tryz.func10
  (ChangeSpec.witness_shaped (enc:=enc) (C:=Tryz.checked) (os:=os) (X:=fun w _=>laidMetH Tryz.prog Rows.fnStoryPgnRow.laid w) false (World.laidAll Tryz.prog os Rows.fnStoryPgnRow.laid) #[.agg (Array.replicate 69 (.int .i64 0)),.bool false,.slice none 0 0,.slice none 0 0,.slice none 0 0] 8 (World.laidAll_os _ _ _)
   (World.shaped_of_ZipB (by kernel_rfl) (by kernel_rfl)) (by kernel_rfl) (by kernel_rfl) (by kernel_rfl)
   (by rw [MakeChecks.laidMetH_plain _ _ _ (by kernel_rfl)];exact laidMet_laidAll _ (by kernel_rfl) (by kernel_rfl))) ?_
 intro W base args ds gs before hsh hval0 hW hL;have hval:∀ (j:Nat) t v,Tryz.f10.params[j]?=some t→args[j]?=some v→Value.okWide Tryz.prog W .any base t v:=hval0;have hW':=hW;obtain ⟨p,q,hA0,hV,rfl,hfz,hnd⟩:=hW;have hA:DataW.TrodAll enc Tryz.prog W 0 (fun _=>true) true Tryz.f10.params.toList args.toList ds p:=hA0;clear hA0;rw [Tryz.params10] at hA hval;obtain ⟨vs,rfl,hA⟩:=(⟨args.toList,by simp,hA⟩:∃ vs:List Value,args=vs.toArray∧DataW.TrodAll enc Tryz.prog W 0 (fun _=>true) true _ vs ds p)
 obtain ⟨v0,vs,d0,ds,p0,q0,rfl,rfl,rfl,h0,hA⟩:=trodAll_cons hA;obtain ⟨v1,vs,d1,ds,p1,q1,rfl,rfl,rfl,h1,hA⟩:=trodAll_cons hA;obtain ⟨v2,vs,d2,ds,p2,q2,rfl,rfl,rfl,h2,hA⟩:=trodAll_cons hA;obtain ⟨v3,vs,d3,ds,p3,q3,rfl,rfl,rfl,h3,hA⟩:=trodAll_cons hA;obtain ⟨v4,vs,d4,ds,p4,q4,rfl,rfl,rfl,h4,hA⟩:=trodAll_cons hA;obtain ⟨rfl,rfl,rfl⟩:=trodAll_nil hA;obtain ⟨rfl,rfl⟩:=trodVars_none hV;have t4:Tryz.prog.underlying 4=some .bool:=by kernel_rfl
 obtain ⟨s0,rfl⟩:=b9p (hval 0 24 v0 rfl rfl);obtain ⟨u1,rfl,rfl,rfl⟩:=open_bool t4 (hval 1 4 v1 rfl rfl) h1;obtain ⟨ms2,hrow2,hms2⟩:=b4j (hval 2 25 v2 rfl rfl) h2;obtain ⟨gs3,hrow3⟩:=b7u (hval 3 60 v3 rfl rfl) h3;obtain ⟨ts4,hrow4⟩:=b46 (hval 4 42 v4 rfl rfl) h4;obtain ⟨hT,hSp,hP⟩:=c1Z hsh hL;have hlt:∀ x,x∈p0∨x∈p2∨x∈p3∨x∈p4→x.block<W.heap.size:=fun x hx=>hW'.lt x (by rcases hx with hx|hx|hx|hx<;>simp [hx])
 refine (b1q s0 u1 ms2 hms2 gs3 ts4 W hT hSp hP hrow2 hrow3 hrow4).mono fun e W' hr=>?_;obtain ⟨rfl,hb⟩:=hr;have a0:=Below.trod a7L (by kernel_rfl) (yB (by kernel_rfl)) h0 hb (fun x hx=>hlt x (by simp [hx]))
 have a2:=Below.trod a7L (by kernel_rfl) (yB (by kernel_rfl)) h2 hb (fun x hx=>hlt x (by simp [hx]))
 have a3:=Below.trod a7L (by kernel_rfl) (yB (by kernel_rfl)) h3 hb (fun x hx=>hlt x (by simp [hx]))
 have a4:=Below.trod a7L (by kernel_rfl) (yB (by kernel_rfl)) h4 hb (fun x hx=>hlt x (by simp [hx]))
 exact ⟨_,rfl,_,_,_,[],p0++([]++(p2++(p3++(p4)))),[],hW',trodAll_mk1 (shut_bool t4 _),(trodAll_cons_mk a0 (trodAll_cons_mk (shut_bool t4 _) (trodAll_cons_mk a2 (trodAll_cons_mk a3 (trodAll_mk1 a4))))),rfl,hb.frame _,fun h=>by cases h⟩
end
