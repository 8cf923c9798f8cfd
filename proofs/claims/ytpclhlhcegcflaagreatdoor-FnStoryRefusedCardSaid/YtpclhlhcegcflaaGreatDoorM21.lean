/- One part of the proof: Fin9. -/
import Derived.Test.YtpclhlhcegcflaaGreatDoorRows
import Derived.Lay
import Derived.Stop.Joined
import Derived.Test.YtpclhlhcegcflaaGreatDoorM20
namespace Go.Proofs.YtpclhlhcegcflaaGreatDoor
set_option maxRecDepth 100000
set_option linter.unusedSimpArgs false
set_option linter.unusedVariables false
section
open Go Go.ChangeShapes Go.WideShapes Go.ChangeAt Go.RowKit
theorem own:ownKnob Tryz.prog.godebug=none:=by kernel_rfl
theorem a65:laidOutB Tryz.prog=true:=by kernel_rfl
theorem c2V {W:World} (hS:W.ShapedOpen Tryz.prog) (h:laidMetH Tryz.prog Rows.fnStoryRefusedRow.laid W):C6 W∧Spc W∧Pow W:=by
 rw [MakeChecks.laidMetH_plain _ _ _ (by kernel_rfl)] at h
 exact b7F hS h (ym (i:=13) (by kernel_rfl)) (ym (i:=14) (by kernel_rfl)) (ym (i:=15) (by kernel_rfl)) (ym (i:=16) (by kernel_rfl))
  (ym (i:=11) (by kernel_rfl)) (ym (i:=12) (by kernel_rfl)) (ym (i:=5) (by kernel_rfl)) (ym (i:=17) (by kernel_rfl)) (ym (i:=19) (by kernel_rfl)) (ym (i:=20) (by kernel_rfl))
  (ym (i:=4) (by kernel_rfl)) (ym (i:=0) (by kernel_rfl)) (ym (i:=8) (by kernel_rfl))
theorem lifted (os:Os) (started:os.Started) (H:Type) (enc:TypeId×Value→H) :
  ReturnsInHanded {} Tryz.checked os 7 .any (fun w args=>(Rows.fnStoryRefusedSpec.pre enc Tryz.prog Tryz.f7 [] false w args∧laidMetH Tryz.prog Rows.fnStoryRefusedRow.laid w)∧sizedMet enc Tryz.prog Tryz.f7 (OpenSpec.ofChange Rows.fnStoryRefusedSpec) false w args)
   (Rows.fnStoryRefusedSpec.post enc Tryz.prog Tryz.f7 false true false false):=by
 refine a9Z (C:=Tryz.checked) (X:=fun w _=>laidMetH Tryz.prog Rows.fnStoryRefusedRow.laid w) (fun _ _ _ hh h=>h.of_heap hh) own started (by kernel_rfl) Tryz.func7
  (ChangeSpec.witness_shaped (enc:=enc) (C:=Tryz.checked) (os:=os) (X:=fun w _=>laidMetH Tryz.prog Rows.fnStoryRefusedRow.laid w) false (World.laidAll Tryz.prog os Rows.fnStoryRefusedRow.laid) #[.agg (Array.replicate 69 (.int .i64 0)),.bool false,.slice none 0 0,.int .i64 0,.int .i64 0,.int .i64 0] 8 (World.laidAll_os _ _ _)
   (World.shaped_of_ZipB (by kernel_rfl) (by kernel_rfl)) (by kernel_rfl) (by kernel_rfl) (by kernel_rfl)
   (by rw [MakeChecks.laidMetH_plain _ _ _ (by kernel_rfl)];exact laidMet_laidAll _ (by kernel_rfl) (by kernel_rfl))) ?_
 intro W base args ds gs before hsh hval0 hW hL;have hval:∀ (j:Nat) t v,Tryz.f7.params[j]?=some t→args[j]?=some v→Value.okWide Tryz.prog W .any base t v:=hval0;have hW':=hW;obtain ⟨p,q,hA0,hV,rfl,hfz,hnd⟩:=hW;have hA:DataW.TrodAll enc Tryz.prog W 0 (fun _=>true) true Tryz.f7.params.toList args.toList ds p:=hA0;clear hA0;rw [Tryz.params7] at hA hval;obtain ⟨vs,rfl,hA⟩:=(⟨args.toList,by simp,hA⟩:∃ vs:List Value,args=vs.toArray∧DataW.TrodAll enc Tryz.prog W 0 (fun _=>true) true _ vs ds p)
 obtain ⟨v0,vs,d0,ds,p0,q0,rfl,rfl,rfl,h0,hA⟩:=trodAll_cons hA;obtain ⟨v1,vs,d1,ds,p1,q1,rfl,rfl,rfl,h1,hA⟩:=trodAll_cons hA;obtain ⟨v2,vs,d2,ds,p2,q2,rfl,rfl,rfl,h2,hA⟩:=trodAll_cons hA;obtain ⟨v3,vs,d3,ds,p3,q3,rfl,rfl,rfl,h3,hA⟩:=trodAll_cons hA;obtain ⟨v4,vs,d4,ds,p4,q4,rfl,rfl,rfl,h4,hA⟩:=trodAll_cons hA;obtain ⟨v5,vs,d5,ds,p5,q5,rfl,rfl,rfl,h5,hA⟩:=trodAll_cons hA;obtain ⟨rfl,rfl,rfl⟩:=trodAll_nil hA;obtain ⟨rfl,rfl⟩:=trodVars_none hV;have t4:Tryz.prog.underlying 4=some .bool:=by kernel_rfl
 obtain ⟨s0,rfl⟩:=b9V (hval 0 24 v0 rfl rfl);obtain ⟨u1,rfl,rfl,rfl⟩:=open_bool t4 (hval 1 4 v1 rfl rfl) h1;obtain ⟨ms2,hrow2,hms2⟩:=b5d (hval 2 25 v2 rfl rfl) h2;obtain ⟨n3,rfl,r3⟩:=a9B (hval 3 3 v3 rfl rfl);obtain ⟨n4,rfl,r4⟩:=a9B (hval 4 3 v4 rfl rfl);obtain ⟨n5,rfl,r5⟩:=a9B (hval 5 3 v5 rfl rfl);obtain ⟨hT,hSp,hP⟩:=c2V hsh hL;have hlt:∀ x,x∈p0∨x∈p2∨x∈p3∨x∈p4∨x∈p5→x.block<W.heap.size:=fun x hx=>hW'.lt x (by rcases hx with hx|hx|hx|hx|hx<;>simp [hx])
 refine (a7k s0 u1 ms2 hms2 n3 n4 n5 W hT hSp hP hrow2).mono fun e W' hr=>?_;obtain ⟨rfl,hb⟩:=hr;have a0:=Below.trod a65 (by kernel_rfl) (yF (by kernel_rfl)) h0 hb (fun x hx=>hlt x (by simp [hx]))
 have a2:=Below.trod a65 (by kernel_rfl) (yF (by kernel_rfl)) h2 hb (fun x hx=>hlt x (by simp [hx]))
 have a3:=Below.trod a65 (by kernel_rfl) (yF (by kernel_rfl)) h3 hb (fun x hx=>hlt x (by simp [hx]))
 have a4:=Below.trod a65 (by kernel_rfl) (yF (by kernel_rfl)) h4 hb (fun x hx=>hlt x (by simp [hx]))
 have a5:=Below.trod a65 (by kernel_rfl) (yF (by kernel_rfl)) h5 hb (fun x hx=>hlt x (by simp [hx]))
 exact ⟨_,rfl,_,_,_,[],p0++([]++(p2++(p3++(p4++(p5))))),[],hW',trodAll_mk1 (shut_bool t4 _),(trodAll_cons_mk a0 (trodAll_cons_mk (shut_bool t4 _) (trodAll_cons_mk a2 (trodAll_cons_mk a3 (trodAll_cons_mk a4 (trodAll_mk1 a5)))))),rfl,hb.frame _,fun h=>by cases h⟩
end
