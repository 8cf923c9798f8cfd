/- One part of the proof: Pk67 Pk68 Pk69 Two Mva Pk51 Pk70. -/
import Derived.KernelRfl
import Derived.ArgAppend
import Derived.Deep.Upon
import Derived.Test.YtpclhlhcegcflaaGreatDoorM1
import Derived.Test.YtpclhlhcegcflaaGreatDoorM3
import Derived.Test.YtpclhlhcegcflaaGreatDoorM6
import Derived.Test.YtpclhlhcegcflaaGreatDoorM8
import Derived.Test.YtpclhlhcegcflaaGreatDoorM18
namespace Go.Proofs.YtpclhlhcegcflaaGreatDoor
set_option maxRecDepth 100000
set_option linter.unusedSimpArgs false
set_option linter.unusedVariables false
section
open Go Go.RowKit
open E
open Ch Bb
def moreT (p:l9) (m:Mv):List Tx:=sqT m.fr::(if apart p m=[] then [fileT m.fr,rankT m.fr] else [])
def formT (p:l9) (m:Mv) (o:Tx):List Tx:=[letter (kindOf (sq p m.fr))++o++takeT p m++sqT m.to,letter (kindOf (sq p m.fr))++o++takeT p m++sqT m.to++signT p m]
def sanForms (p:l9) (m:Mv):List Tx:=[sanT p m,body p m,body p m++[33],body p m++[43,63],body p m++[35,33,33],body p m++[101,46,112,46]]++(if kindOf (sq p m.fr)=6∨0<castleKind p m then [] else (moreT p m).flatMap (formT p m))
set_option maxHeartbeats 2000000 in
theorem b4r (p:l9) (hI:Ch.B9 p) (hN:Nm p) (m:Mv) (hm:m∈Ch.s8 p) (w:World):Calls G.P 22 #[E2 p,mvV m] w (fun r w'=>∃ v,r = .returned v∧Row 9 1 H2 w.heap.size w' v (sanForms p m)∧Cl w w'):=by
 have hmo:=a0B hI hm;have hpc:=hI.pc;have hmo':=hmo;obtain ⟨⟨a0,a1⟩,⟨b0,b1⟩,d0,d1⟩:=hmo';have hBl:=a59 p m;have q1:=fun w=>a9N p hI hN m hm w;have q2:=fun w=>a6y p hI hN m hm w;have q3:=fun w=>a1r p hpc m hmo w;have q4:=fun w=>a3a p hpc m hmo w;have q5:=fun w=>a89 p hI hN m hm w;have q6:=fun w=>a2C p hI hN m hm w;have hF:sanForms p m=[sanT p m,body p m,body p m++[33],body p m++[43,63],body p m++[35,33,33],body p m++[101,46,112,46]]++(if kindOf (sq p m.fr)=6∨0<castleKind p m then [] else (moreT p m).flatMap (formT p m)):=rfl
 rw [hF];clear hF;generalize sanT p m=ST at *;generalize body p m=B at *;refine zN Tryz.func22 ?_;refine zG ?_;generalize hW:(w.alloc (.cells (v8 p) 24)).alloc (.cells (Z0 m) 36)=W0;have hP:∀ w',Cl W0 w'→w'.heap[w.heap.size]?=some (.cells (v8 p) 24 (0,0)):=fun w' h=>hP2 (hW▸h);have hM:∀ w',Cl W0 w'→w'.heap[(w.alloc (.cells (v8 p) 24)).heap.size]?=some (.cells (Z0 m) 36 (0,0)):=fun w' h=>hM2 (hW▸h);have hE:∀ w',Cl W0 w'→Cl w w':=fun w' h=>hE2 (hW▸h);have z:=Cl.refl W0;refine zR ?_;refine b7 _ (A3 (hP _ z)) (zR ?_);refine b7 _ (Z1 (hM _ z)) (zR ?_);refine o8 (q1 _) fun w1 c1=>zR ?_;refine b7 _ (A3 (hP _ c1)) (zR ?_);refine b7 _ (Z1 (hM _ c1)) (zR ?_);refine o8 (q2 _) fun w2 c2=>?_;have c2:=c1.trans c2;refine zR ?_;refine E.A2 (z8 (x:=B) (y:=[33]) (by simp;omega)) (zR ?_)
 refine E.A2 (z8 (x:=B) (y:=[43,63]) (by simp;omega)) (zR ?_)
 refine E.A2 (z8 (x:=B) (y:=[35,33,33]) (by simp;omega)) (zR ?_)
 refine E.A2 (z8 (x:=B) (y:=[101,46,112,46]) (by simp;omega)) (zR ?_)
 refine B6 elStr [m9 ST,m9 B,.string (tx B++tx [33]),.string (tx B++tx [43,63]),.string (tx B++tx [35,33,33]),.string (tx B++tx [101,46,112,46])] (by rw [Array.toList_map];rfl) (by intro v hv;simp only [List.mem_cons,List.not_mem_nil,or_false] at hv;rcases hv with rfl | rfl | rfl | rfl | rfl | rfl<;>rfl) rfl zd zd ?_
 have e6:[m9 ST,m9 B,.string (tx B++tx [33]),.string (tx B++tx [43,63]),.string (tx B++tx [35,33,33]),.string (tx B++tx [101,46,112,46])]=[m9 ST,m9 B,m9 (B++[33]),m9 (B++[43,63]),m9 (B++[35,33,33]),m9 (B++[101,46,112,46])]:=by simp only [m9,A6]
 rw [e6];clear e6;have n3:=g7 w2 (.cells (([m9 ST,m9 B,m9 (B++[33]),m9 (B++[43,63]),m9 (B++[35,33,33]),m9 (B++[101,46,112,46])]:List Value).flatMap fun v=>v.cells.toList).toArray 9);have c3:=c2.trans (Cl.alloc w2 (.cells (([m9 ST,m9 B,m9 (B++[33]),m9 (B++[43,63]),m9 (B++[35,33,33]),m9 (B++[101,46,112,46])]:List Value).flatMap fun v=>v.cells.toList).toArray 9));have hr3:=Row.blk (enc:=H2) (l:=[ST,B,B++[33],B++[43,63],B++[35,33,33],B++[101,46,112,46]]) p9 (Nat.le_of_ble_eq_true rfl) (show W0.heap.size≤w2.heap.size from c2.size) n3;generalize hL:[ST,B,B++[33],B++[43,63],B++[35,33,33],B++[101,46,112,46]]=L at *;have hL6:L.length=6:=by rw [← hL];rfl
 generalize w2.alloc (.cells (([m9 ST,m9 B,m9 (B++[33]),m9 (B++[43,63]),m9 (B++[35,33,33]),m9 (B++[101,46,112,46])]:List Value).flatMap fun v=>v.cells.toList).toArray 9)=w3 at *;rw [hL6] at hr3;refine zR ?_;refine b7 _ (N0 (hM _ c3)) (zR ?_);refine zC ?_;refine zR ?_;refine b7 _ (O7 (hP _ c3) _ zo zo) (zR ?_);refine g8 (O9 _ _ (Pc.lo hpc _) (Pc.hi hpc _)) (zR ?_);generalize hKD:kindOf (sq p m.fr)=KD at *;apply E.d6<;>intro h
 ·refine zR ?_;(repeat (refine E.A0 h ?_;refine zR ?_))
  exact ⟨_,rfl,by rw [if_pos (.inl h),List.append_nil];exact hr3.mono (hE _ z).size,hE _ c3⟩
 have h6:=h;clear h;refine zR ?_;(repeat (refine E.p8 h6 ?_;refine zR ?_))
 refine b7 _ (A3 (hP _ c3)) (zR ?_);refine b7 _ (Z1 (hM _ c3)) (zR ?_);refine o8 (q3 _) fun w4 c4=>?_;have c4:=c3.trans c4;have hr4:=hr3.step (by exact ‹Cl w3 w4›)
 generalize castleKind p m=CK at *;refine zR ?_;(repeat (refine E.p8 h6 ?_;refine zR ?_))
 apply E.d6<;>intro h
 ·refine zR ?_;(repeat (refine E.A0 h ?_;refine zR ?_))
  exact ⟨_,rfl,by rw [if_pos (.inr h),List.append_nil];exact hr4.mono (hE _ z).size,hE _ c4⟩
 have hc:=h;clear h;rw [if_neg zo];refine zG ?_;(repeat (refine E.p8 hc ?_;refine zG ?_))
 refine Nx.mk (zG ?_);refine B0 (σ:=Unit) [8,45,46,47] 48 (fun _=>[(8,m9 (takeT p m))]) (fun _ w'=>Cl w4 w') zk ?_ (fun _ j w5 c5=>?_)
 ·refine zR ?_;refine b7 _ (A3 (hP _ c4)) (zR ?_);refine b7 _ (Z1 (hM _ c4)) (zR ?_);refine o8 (q4 _) fun w5 c5=>?_;cases ht:Ch.takes p m
  ·refine zR ?_;exact ⟨(),⟨by unfold Ch.takeT;rw [ht];rfl,trivial⟩,c5⟩
  ·refine zR ?_;exact ⟨(),⟨by unfold Ch.takeT;rw [ht];rfl,trivial⟩,c5⟩
 have hr5:=hr4.step c5;have c5:=c4.trans c5;have hl2:=a18 p m;have hl4:=V6 m.to;have hl5:=K2 KD;have hl7:=a17 p m;have hl1:=a6x p m;have hl8:=V6 m.fr;have hMO:moreT p m=sqT m.fr::(if apart p m=[] then [fileT m.fr,rankT m.fr] else []):=rfl
 have hFT:∀ o,formT p m o=[letter KD++o++takeT p m++sqT m.to,letter KD++o++takeT p m++sqT m.to++signT p m]:=fun o=>by rw [← hKD];rfl
 have q7:=fun w=>a4b m.fr a0 a1 w;have q8:=fun w=>a6q m.fr a0 a1 w;have q9:=fun w=>P3 m.fr zo zo w;have q10:=fun w=>P3 m.to zo zo w;have q11:=fun w=>a2h KD w;have hl9:(fileT m.fr).length=1:=rfl;have hl10:(rankT m.fr).length=1:=rfl;generalize formT p m=FT at *;generalize moreT p m=MO at *;generalize apart p m=AP at *;generalize takeT p m=TK at *;generalize signT p m=SG at *;generalize fileT m.fr=FL at *;generalize rankT m.fr=RK at *;generalize sqT m.fr=SF at *;generalize sqT m.to=SQ at *;generalize letter KD=LT at *;refine zR ?_;refine b7 _ (A3 (hP _ c5)) (zR ?_);refine b7 _ (Z1 (hM _ c5)) (zR ?_);refine o8 (q5 _) fun w6 c6=>?_;have hr6:=hr5.step c6;have c6:=c5.trans c6;refine zR ?_;refine b7 _ (N0 (hM _ c6)) (zR ?_);refine o8 (q9 _) fun w7 c7=>?_;have hr7:=hr6.step c7;have c7:=c6.trans c7;refine zR ?_;refine B6 elStr [m9 (SF)] (by rw [Array.toList_map];rfl) (by intro v hv;rw [List.mem_singleton.1 hv];rfl) rfl zd zd ?_
 have d8:=Cl.alloc w7 (.cells (([m9 (SF)]:List Value).flatMap fun v=>v.cells.toList).toArray 9);have hm8:=Row.blk (enc:=H2) (l:=[SF]) p9 (Nat.le_of_ble_eq_true rfl) (show W0.heap.size≤w7.heap.size from c7.size) (g7 w7 (.cells (([m9 (SF)]:List Value).flatMap fun v=>v.cells.toList).toArray 9));generalize w7.alloc (.cells (([m9 (SF)]:List Value).flatMap fun v=>v.cells.toList).toArray 9)=w8 at *;have hr8:=hr7.step d8;have c8:=c7.trans d8;refine zG ?_;have hap8:a3M (.slice (some ⟨w2.heap.size,0,none⟩) 6 6) (.slice (some ⟨w7.heap.size,0,none⟩) 1 1):=fun g hg e=>by
  have a1:w2.heap.size<w7.heap.size:=hr7.lt.2;have e1:w2.heap.size=g:=Option.some.inj hg;have e2:w7.heap.size=g:=Option.some.inj e;omega
 refine B0 (σ:=Value) [10,55,56,57,58,59,60,61,62,63,64,65] 66 (fun v=>[(10,v)]) (fun v w'=>Cl W0 w'∧Row 9 1 H2 W0.heap.size w' v MO∧Row 9 1 H2 W0.heap.size w' (.slice (some ⟨w2.heap.size,0,none⟩) 6 6) L∧a3M (.slice (some ⟨w2.heap.size,0,none⟩) 6 6) v) zk ?_ (fun vm j w9 h9=>?_)
 ·refine zR ?_;apply E.d6<;>intro h
  ·have hap:AP=[]:=by rw [Z8] at h;exact N5.1 h
   rw [if_pos hap] at hMO;clear h;have hSS:∀ w',Cl w8 w'→w'.heap[(w.alloc (.cells (v8 p) 24)).heap.size]?=some (.cells (Z0 m) 36 (0,0)):=fun w' c=>hM _ (c8.trans c);have cD:Cl w8 w8.drew:=Cl.drew (Cl.refl _);refine zR ?_;refine I5.mk3 (fun w'=>w'.heap[(w.alloc (.cells (v8 p) 24)).heap.size]?=some (.cells (Z0 m) 36 (0,0))) [0,1,2,4,5] (.cons 3 (.cons 6 (.cons 7 (.cons 8 (.cons 9 .done .nil) .nil) .nil) .nil) .nil) (hSS _ cD) zk (zR ?_);refine m7 _ (fun w hw=>N0 hw) (zR ?_);refine m7 _ (fun w hw=>N0 hw) (zE ?_);refine o8 (q7 _) fun w9 c9=>?_;have c9:=cD.trans c9;refine zR ?_;refine And.intro (hSS _ c9) (And.intro ?_ trivial);refine zR ?_;refine o8 (q8 _) fun w10 c10=>?_;have c10:=c9.trans c10;refine zR ?_;refine And.intro (hSS _ c10) (And.intro ?_ trivial);refine zR ?_;refine B6 elStr [m9 FL,m9 RK] (by rw [Array.toList_map];rfl) (by intro v hv;simp only [List.mem_cons,List.not_mem_nil,or_false] at hv;rcases hv with rfl | rfl<;>rfl) rfl zd zd ?_
   have c11:=c10.trans (Cl.alloc w10 (.cells (([m9 FL,m9 RK]:List Value).flatMap fun v=>v.cells.toList).toArray 9));have hb11:=Row.blk (enc:=H2) (l:=[FL,RK]) p9 (Nat.le_of_ble_eq_true rfl) (Nat.zero_le _) (g7 w10 (.cells (([m9 FL,m9 RK]:List Value).flatMap fun v=>v.cells.toList).toArray 9));generalize w10.alloc (.cells (([m9 FL,m9 RK]:List Value).flatMap fun v=>v.cells.toList).toArray 9)=w11 at *;refine zR ?_;refine And.intro (hSS _ c11) (And.intro ?_ trivial);refine zR ?_;refine F7 elStr rfl (hm8.step c11) rfl hb11 p9 U6 (Nat.le_of_ble_eq_true rfl) zd (c8.trans c11).size ?_;intro v' w12 hr' hg;have c12:=hg.toCl rfl (c8.trans c11);obtain ⟨hL12,hap12⟩:=(hr8.step c11).keepG hg hap8;have hb12:=(KT.grow (hm8.step c11) hg) _ _ _ zd (hSS _ c11);obtain ⟨a9,k9,rfl,_⟩:=hr'.form;refine zR ?_;refine And.intro hb12 (And.intro ?_ trivial);refine zR ?_;refine And.intro hb12 (zR ?_);exact ⟨_,⟨rfl,trivial⟩,c12,by rw [hMO];exact hr',hL12,hap12⟩
  ·have hap:AP≠[]:=fun e=>h (by rw [e];rfl)
   rw [if_neg hap] at hMO;refine zR ?_;exact ⟨_,⟨rfl,trivial⟩,c8,by rw [hMO];exact hm8,hr8,hap8⟩
 obtain ⟨c9,hm9,hr9,hap9⟩:=h9;have hMl:∀ x∈MO,x.length≤2:=by
  intro x hx;rw [hMO] at hx;rcases List.mem_cons.1 hx with e | hx
  ·rw [e];exact hl8
  ·split at hx
   ·simp only [List.mem_cons,List.not_mem_nil,or_false] at hx;rcases hx with e | e<;>rw [e]<;>omega
   ·cases hx
 have hM3:MO.length≤3:=by rw [hMO];split<;>simp
 clear hMO;obtain ⟨am,km,rfl,ham⟩:=hm9.form;refine zR ?_;refine A9 (σ:=Nat×Value×List Tx) [6,11,12,13,68] 69 (fun s=>[(68,.int .i64 s.1),(6,s.2.1)]) (fun s w'=>s.1≤MO.length∧s.2.2++(MO.drop s.1).flatMap FT=L++MO.flatMap FT∧s.2.2.length=6+2*s.1∧Cl W0 w'∧Row 9 1 H2 W0.heap.size w' (.slice am MO.length km) MO∧Row 9 1 H2 W0.heap.size w' s.2.1 s.2.2∧a3M (.slice am MO.length km) s.2.1) (fun s=>MO.length-s.1) zk
  (0,.slice (some ⟨w2.heap.size,0,none⟩) 6 6,L) ⟨zo,rfl,hL6,c9,hm9,hr9,hap9.symm⟩ ⟨rfl,rfl,trivial⟩ ?_
 clear c9 hm9 hr9 hap9;rintro ⟨i,vo,O⟩ j w10 ⟨hi,hO,hOl,c10,hm10,ho10,hap10⟩;simp only at hi hO hOl c10 hm10 ho10 hap10 ⊢;obtain ⟨ao,ko,rfl,_⟩:=ho10.form;have ni:=C0 (i:=i) zo;refine zR ?_;apply E.d6<;>intro h
 ·have hil:i<MO.length:=by omega
  clear h;obtain ⟨gm,rfl⟩:=ham zo;rw [List.drop_eq_getElem_cons hil,List.flatMap_cons] at hO;have hxl:=hMl _ (List.getElem_mem hil);have hld:o4 G.P w10 9 ⟨gm,E.U7 0 ((i:Int)).toNat 1,none⟩ (m9 MO[i]):=by
   obtain ⟨cur,h1,h2⟩:=hm10.get p9 i 0 hil zd;exact D8 h1 (by rw [E.y6,Int.toNat_natCast,Nat.zero_add];exact h2) rfl
  generalize MO[i]=X at *;rw [hFT] at hO;refine zR ?_;refine zC ?_;refine zR ?_;refine b7 _ hld (zR ?_);refine zK 11 ?_;refine zR ?_;refine D4 (m9 LT) (fun _ _ h=>h.trans) (fun w _=>q11 w) (zR ?_);refine E.A2 (z8 zo) ?_;rw [A6];refine zR ?_;refine E.A2 (z8 (by rw [List.length_append];omega)) ?_
  rw [A6];refine zR ?_;refine m7 _ (fun w hw=>a02 (hM _ (c10.trans hw))) (zR ?_);refine D4 (m9 SQ) (fun _ _ h=>h.trans) (fun w _=>q10 w) (zR ?_);refine E.A2 (z8 (by rw [List.length_append,List.length_append];omega)) ?_
  rw [A6];have hl11:(LT++X++TK++SQ).length≤10:=by rw [List.length_append,List.length_append,List.length_append];omega
  generalize LT++X++TK++SQ=Y at *;refine zR ?_;intro w11 c11;have hm11:=hm10.step c11;have ho11:=ho10.step c11;have c11:=c10.trans c11;refine zR ?_;refine b7 _ (A3 (hP _ c11)) (zR ?_);refine b7 _ (Z1 (hM _ c11)) (zR ?_);refine o8 (q6 _) fun w12 c12=>?_;have hm12:=hm11.step c12;have ho12:=ho11.step c12;have c12:=c11.trans c12;refine zR ?_;refine E.A2 (z8 zo) ?_;rw [A6];refine zR ?_;refine B6 elStr [m9 Y,m9 (Y++SG)] (by rw [Array.toList_map];rfl) (by intro v hv;simp only [List.mem_cons,List.not_mem_nil,or_false] at hv;rcases hv with rfl | rfl<;>rfl) rfl zd zd ?_
  have d13:=Cl.alloc w12 (.cells (([m9 Y,m9 (Y++SG)]:List Value).flatMap fun v=>v.cells.toList).toArray 9);have hb13:=Row.blk (enc:=H2) (l:=[Y,Y++SG]) p9 (Nat.le_of_ble_eq_true rfl) (Nat.zero_le _) (g7 w12 (.cells (([m9 Y,m9 (Y++SG)]:List Value).flatMap fun v=>v.cells.toList).toArray 9));generalize w12.alloc (.cells (([m9 Y,m9 (Y++SG)]:List Value).flatMap fun v=>v.cells.toList).toArray 9)=w13 at *;have hm13:=hm12.step d13;have ho13:=ho12.step d13;have c13:=c12.trans d13;refine zR ?_;refine F7 elStr rfl ho13 rfl hb13 p9 U6 (by show O.length+2≤100000;omega) zd c13.size ?_
  intro v' w14 hr' hg;have c14:=hg.toCl rfl c13;obtain ⟨hm14,hap14⟩:=hm13.keepG hg hap10;obtain ⟨a9,k9,rfl,_⟩:=hr'.form;refine zR ?_;exact ⟨(i+1,_,_),⟨d7 ni,rfl,trivial⟩,⟨hil,by rw [← hO];simp,by rw [List.length_append,hOl];show 6+2*i+2=6+2*(i+1);omega,c14,hm14,hr',hap14⟩,by show MO.length-(i+1)<MO.length-i;omega⟩
 ·have e:i=MO.length:=by omega
  have hOL:O=L++MO.flatMap FT:=by rw [← hO,e,List.drop_length];show O=O++[];rw [List.append_nil]
  refine zR ?_;exact ⟨_,rfl,by rw [← hOL];exact ho10.mono (hE _ z).size,hE _ c10⟩
theorem b4s (a b c:Value):c4Y 66 #[a,b,c]:=by
 intro w;refine callsD_of_wpS (P:=Tryz.prog) Tryz.func66 rfl fun c₀ cs hu=>?_;apply wpS_seq;apply wpS_region;simp [wpOpsS,go_sem,recoverD,hu,Tryz.ntmps66,Exit.thenS];refine wpS_cond (t:=false) (by simp [Act.eval,Array.replicate]) ?_
 simp only [Bool.false_eq_true,if_false];refine wpS_of_wp (wp_skip ?_);cases c₀;simp_all [bodyPostS,results,Tryz.results66]
def b9p (b:Bool):List Value:=[.bool b]
theorem b2Q (b:Bool):(b9p b).length=1:=rfl
theorem b9q (n:Bool):∀ u∈b9p n,u.oneCell'=true:=fun u hu=>by rw [List.mem_singleton.1 hu];rfl
theorem b9r:H6 50 4 1 1:=S9 zk
structure It where
 mv:Mv
 tx:Tx
 nt:Nat
def a48:l9→List It→Prop
 | p,[]=>(s8 p).length≤218
 | p,x::r=>(s8 p).length≤218∧x.mv∈s8 p∧K8 p x.mv=true∧x.nt<3∧b2N p x.mv x.nt x.tx∧a48 (made p x.mv) r
theorem a48.head {p:l9}:∀ {l:List It},a48 p l→(s8 p).length≤218
 | [],h=>h
 | _::_,h=>h.1
set_option maxHeartbeats 4000000 in
theorem b2R {p:l9} (hI:B9 p) (hh:p.half≤1000000) (hf:p.full≤1000000) (l:List It) (hl:a48 p l) (hlen:l.length≤80) (usual:Bool) (hu:usual=true→p=P9) {v1 v2 v3:Value} {b1 b2 b3:Nat} (bs:List Bool) (hbl:bs.length=l.length) (hbs:∀ b∈bs,b=false) (w:World) (hT:C9 w) (hS:Spc w) (hw:Pow w)
  (hr1:Row 9 1 H2 b1 w v1 (l.map It.tx)) (hr2:Row 3 1 b9n b2 w v2 (l.map fun x=>(x.nt:Int))) (hr3:Row 4 1 b9p b3 w v3 bs) :
  Calls G.P 23 #[m9 (if usual then [] else fenT p),v1,v2,v3] w (fun r w'=>∃ u,r = .returned (.tuple #[u,.int .i64 (l.length:Nat),.bool true])∧Row 39 81 stL w.heap.size w' u (storyOf p (!usual) (l.map It.mv))∧Cl w w'):=by
 obtain ⟨a1,k1,rfl,hal1⟩:=hr1.form;obtain ⟨a2,k2,rfl,hal2⟩:=hr2.form;obtain ⟨a3,k3,rfl,hal3⟩:=hr3.form;rw [List.length_map] at hal1 hal2 ⊢;rw [List.length_map];rw [hbl] at hal3 ⊢;have hle:=a4N hI;have hq0:=hl.head;have hbg:=fun w hT hS=>c1u hI zo zo zo usual hu w hT hS;have hst0:storyOf p (!usual) (l.map It.mv)=story [p] p (if (!usual)=true then C6 [p] p (0,star) else (0,star)) (l.map It.mv):=rfl
 generalize storyOf p (!usual) (l.map It.mv)=S at *;generalize (if usual then ([]:Tx) else fenT p)=T0 at *
 refine b2I (fc:=66) (t:=17) (t1:=8) (t2:=9) (t3:=10) (y1:=28) (y2:=3) (y3:=4) (args:=[m9 T0,.slice a1 l.length k1,.slice a2 l.length k2,.slice a3 l.length k3]) Tryz.func23 rfl (by simp [Tryz.ntmps23]) zk zk (by simp [Tryz.ntmps23]) rfl rfl rfl rfl rfl rfl zk b4s rfl (zR ?_)
 refine t7 (.slice none 0 0) zk ?_;have ca:=Cl.alloc w (.cells (Value.slice none 0 0).cells 28);have na:(w.alloc (.cells (Value.slice none 0 0).cells 28)).heap[w.heap.size]?=some (.cells #[.slice none 0 0] 28 (0,0)):=g7 w _;have sa:=A8 w (.cells (Value.slice none 0 0).cells 28);generalize w.alloc (.cells (Value.slice none 0 0).cells 28)=w1 at *;refine zR ?_;refine t7 (.int .i64 0) zk ?_;have cb:=ca.trans (Cl.alloc w1 (.cells (Value.int .i64 0).cells 3));have na:=(Cl.alloc w1 (.cells (Value.int .i64 0).cells 3)).blk na;have nb:(w1.alloc (.cells (Value.int .i64 0).cells 3)).heap[w1.heap.size]?=some (.cells #[.int .i64 0] 3 (0,0)):=g7 w1 _;have sb:=A8 w1 (.cells (Value.int .i64 0).cells 3);generalize w1.alloc (.cells (Value.int .i64 0).cells 3)=w2 at *;refine zR ?_;refine t7 (.bool false) zk ?_;have cc:=cb.trans (Cl.alloc w2 (.cells (Value.bool false).cells 4));have na:=(Cl.alloc w2 (.cells (Value.bool false).cells 4)).blk na;have nb:=(Cl.alloc w2 (.cells (Value.bool false).cells 4)).blk nb;have nc:(w2.alloc (.cells (Value.bool false).cells 4)).heap[w2.heap.size]?=some (.cells #[.bool false] 4 (0,0)):=g7 w2 _;have sc:=A8 w2 (.cells (Value.bool false).cells 4);generalize w2.alloc (.cells (Value.bool false).cells 4)=w3 at *;obtain ⟨Ra,hRa⟩:∃ R,R=w.heap.size:=⟨_,rfl⟩;obtain ⟨Rb,hRb⟩:∃ R,R=w1.heap.size:=⟨_,rfl⟩;obtain ⟨Rc,hRc⟩:∃ R,R=w2.heap.size:=⟨_,rfl⟩;have hab:Ra<Rb:=by omega
 have hbc:Rb<Rc:=by omega
 rw [← hRa] at na;rw [← hRb] at nb;rw [← hRc] at nc;rw [← hRa,← hRb,← hRc];clear ca cb sa sb sc;refine zR ?_;refine ⟨rfl,.pointer (some ⟨Ra,0,none⟩),.pointer (some ⟨Rb,0,none⟩),.pointer (some ⟨Rc,0,none⟩),by rw [Array.toList_map];rfl,?_⟩
 refine zR ?_;refine m8 (hbg w3 (hT.cl cc) (hS.cl cc)) ?_;rintro e w4 ⟨G0,rfl,⟨⟨g,z,hG,hzp,hzM,hzP,hmo⟩,c4,sG⟩⟩;refine ⟨_,rfl,?_⟩;have c04:=cc.trans c4;have s3:=cc.size;have na:=c4.blk na;have nb:=c4.blk nb;have nc:=c4.blk nc;rw [← hmo] at hst0;have hst1:([]:List Ch.a0n)++story (([]++[z]).map Q8.p) z.p ((g.meth:Int),g.out) ((l.drop 0).map It.mv)=S:=by rw [hst0,← hzp];rfl
 have hm9:g.meth≤9:=by
  have e:=congrArg Prod.fst hmo;simp only at e;cases usual with
  | true=>rw [if_neg zd] at e;simp only at e;omega
  | false =>
   rw [if_pos (by rfl)] at e
   have:=a7l (l:=[p]) (p:=p) (m0:=0) (o0:=star) (m:=g.meth) (o:=(C6 [p] p (0,star)).2) (by
    show ((g.meth:Int),(C6 [p] p (0,star)).2)=C6 [p] p (0,star);rw [e]) zo
   exact this
 have hIz:Ch.B9 z.p:=by rw [hzp];exact hI
 have hNz:Ng z.p 0:=by rw [hzp];exact ⟨zo,zo⟩
 have hlz:a48 z.p (l.drop 0):=by rw [hzp];exact hl
 clear hst0 hmo hbg hzp hle hq0 hl hh hf hu hI hS;refine zR ?_;refine I8 true (E7 rfl) (zR ?_);refine A9 (σ:=Nat×List Q8×Q8×Gm×List Ch.a0n×Value) [12,13,14,15,16,27] 28 (fun s=>[(27,.int .i64 s.1)])
  (fun s w'=>s.1≤l.length∧K9 w' G0 s.2.2.2.1 s.2.1 s.2.2.1∧s.2.1.length=s.1∧Ch.B9 s.2.2.1.p∧Ng s.2.2.1.p s.1∧a48 s.2.2.1.p (l.drop s.1)∧(∀ n∈s.2.1++[s.2.2.1],Ch.B9 n.p)∧w.heap.size≤s.2.2.1.M∧w.heap.size≤s.2.2.1.P∧s.2.2.2.1.meth≤9
  ∧s.2.2.2.2.1++story ((s.2.1++[s.2.2.1]).map Q8.p) s.2.2.1.p ((s.2.2.2.1.meth:Int),s.2.2.2.1.out) ((l.drop s.1).map It.mv)=S∧s.2.2.2.2.1.length=s.1∧Row 39 81 stL w.heap.size w' s.2.2.2.2.2 s.2.2.2.2.1
  ∧w'.heap[Ra]?=some (.cells #[s.2.2.2.2.2] 28 (0,0))∧w'.heap[Rb]?=some (.cells #[.int .i64 0] 3 (0,0))∧w'.heap[Rc]?=some (.cells #[.bool false] 4 (0,0))∧Cl w w') (fun s=>l.length-s.1) zk
  (0,[],z,g,[],.slice none 0 0) ⟨Nat.zero_le _,hG,rfl,hIz,hNz,hlz,fun n hn=>by rw [List.mem_singleton.1 hn];exact hIz,Nat.le_trans s3 hzM,Nat.le_trans s3 hzP,hm9,hst1,rfl,Row.nil _ _,na,nb,nc,c04⟩ ⟨rfl,trivial⟩ ?_
 clear hG hIz hNz hlz hzM hzP hm9 hst1 na nb nc c04 c4;rintro ⟨i,L,z,g,O,vr⟩ j w5 ⟨hi,hG,hLl,hIz,hNz,hlz,hJ,hzM,hzP,hm9,hst,hOl,hR,na,nb,nc,c5⟩;simp only at hi hG hLl hIz hNz hlz hJ hzM hzP hm9 hst hOl hR na nb nc c5 ⊢;obtain ⟨av,kv,rfl,_⟩:=hR.form;have ni:=C0 (i:=i) zo;refine zR ?_;apply E.d6<;>intro h
 ·have hil:i<l.length:=by omega
  clear h;obtain ⟨g1,rfl⟩:=hal1 zo;obtain ⟨g2,rfl⟩:=hal2 zo;obtain ⟨g3,rfl⟩:=hal3 zo;rw [List.drop_eq_getElem_cons hil] at hst hlz;have hld1:o4 G.P w5 9 ⟨g1,E.U7 0 ((i:Int)).toNat 1,none⟩ (m9 (l[i]).tx):=by
   obtain ⟨cur,h1,h2⟩:=(hr1.step c5).get p9 i 0 (by rw [List.length_map];exact hil) zd
   refine D8 h1 ?_ rfl;rw [E.y6,Int.toNat_natCast,Nat.zero_add];rw [List.getElem_map] at h2;exact h2
  have hld2:o4 G.P w5 3 ⟨g2,E.U7 0 ((i:Int)).toNat 1,none⟩ (.int .i64 (l[i]).nt):=by
   obtain ⟨cur,h1,h2⟩:=(hr2.step c5).get b2P i 0 (by rw [List.length_map];exact hil) zd
   refine D8 h1 ?_ rfl;rw [E.y6,Int.toNat_natCast,Nat.zero_add];rw [List.getElem_map] at h2;exact h2
  have hld3:o4 G.P w5 4 ⟨g3,E.U7 0 ((i:Int)).toNat 1,none⟩ (.bool false):=by
   obtain ⟨cur,h1,h2⟩:=(hr3.step c5).get b2Q i 0 zo zd;refine D8 h1 ?_ rfl;rw [E.y6,Int.toNat_natCast,Nat.zero_add];rw [hbs _ (List.getElem_mem _)] at h2;exact h2
  generalize l[i]=it at *;obtain ⟨m,T,n⟩:=it;obtain ⟨hq0,hml,hsan,hn,hsay,hlz2⟩:=hlz;simp only at hld1 hld2 hml hsan hn hsay hlz2;rw [List.map_cons,a0q,if_pos (show O8 z.p m=true from decide_eq_true hml)] at hst;have hN:=(hNz.nm zo).nums;have hle:=a4N hIz;have hle:(A5 z.p).length≤218:=by omega
  have hgp:=b82 hG.hb;rw [hG.pos] at hgp;have hI2:=Ch.B9.made hIz hml;have hle2:(A5 (made z.p m)).length≤218:=by have:=a4N hI2;have:=hlz2.head;omega
  have hN2:=hNz.made hIz m;refine zR ?_;refine zC ?_;refine zR ?_;refine b7 _ hld1 (zR ?_);refine g8 hgp (zR ?_);refine g8 (a5Y 0 zd _) (zR ?_);refine E.A0 zo (zR ?_);refine zC ?_;refine zR ?_;refine b7 _ hld2 (zR ?_);refine g8 (a5Y n hn _) (zR ?_);refine E.A0 zo (zR ?_);refine zC ?_;refine zR ?_;refine b7 _ hld3 (zR ?_);(repeat (refine E.A0 zo ?_;refine zR ?_))
  refine m8 (c3C (hT.cl c5) hG hIz hN hle hml hsan hsay hI2 hle2 hJ zo) ?_;rintro e w9 ⟨rfl,g',z',y,hsame,⟨ad,n1,k1',hkc⟩,hG9,y1,y2,y3,y4,y5,hend,f9⟩;refine ⟨_,rfl,?_⟩;have hnd:=hG.node;have hps:=hG.chn.last.2.2.hd;have hgb:=hG.hb;have s5:=c5.size;have hkS:∀ k∈[z.M,z.P,G0],w.heap.size≤k:=fun k hk=>by
   simp only [List.mem_cons,List.not_mem_nil,or_false] at hk;omega
  have c9:Cl w w9:=f9.toCl hkS c5;have off9:∀ {k:Nat} {cs:Array Value} {t:Nat} {fz:Nat×Nat},w5.heap[k]?=some (.cells cs t fz)→t≠141→t≠173→t≠131→w9.heap[k]?=some (.cells cs t fz):=fun {k cs t fz} h h1 h2 h3=>f9.blk h fun hm=>by
   simp only [List.mem_cons,List.not_mem_nil,or_false] at hm;rcases hm with e | e | e
   ·exact O1 h hnd h1 e
   ·exact O1 h hps h2 e
   ·exact O1 h hgb h3 e
  have na9:=off9 na zd zd zd;have nb9:=off9 nb zd zd zd;have nc9:=off9 nc zd zd zd;have hR9:Row 39 81 stL w.heap.size w9 (.slice av O.length kv) O:=hR.frT f9 fun k hk=>by
   simp only [List.mem_cons,List.not_mem_nil,or_false] at hk;rcases hk with e | e | e
   ·rw [e];exact ⟨_,_,_,hnd,zd⟩
   ·rw [e];exact ⟨_,_,_,hps,zd⟩
   ·rw [e];exact ⟨_,_,_,hgb,zd⟩
  have hPz:=hG9.chn.mem z' (by simp)
  rw [hsame.p,hsame.P,hkc] at hPz;have hPy:=hG9.posM;rw [y4,hG9.pos] at hPy;have hNode:=hG9.node;have hcur:=hG9.cur;have hg9:=a7l hend hm9;have hstep:=fun w' (c:Cl w9 w')=>c3A hIz hN hle (d:=y.d) (by rw [y2];exact hml) (by rw [y2];exact y3) (by rw [y2];exact hI2) (by rw [y2];exact (hN2.nm zo).nums) (by rw [y2];exact hle2) (show g'.meth<256 by omega) w' ((hT.cl c9).cl c) ((hw.cl c9).cl c) (hPz.step c) (c.blk hNode) (c.blk hG9.hb) hG9.pos (by rw [y2];exact hPy.step c)
  rw [y2] at hstep;have hmap2:((L++[z'])++[y]).map Q8.p=(L++[z]).map Q8.p++[made z.p m]:=by simp [hsame.p,y4]
  rw [y4] at hend;rw [← hend] at hst;have hst2:(O++[stepOf z.p m ((g'.meth:Int),g'.out)])++story (((L++[z'])++[y]).map Q8.p) y.p ((g'.meth:Int),g'.out) ((l.drop (i+1)).map It.mv)=S:=by rw [hmap2,y4,← hst];simp
  have hlenS:(stL (stepOf z.p m ((g'.meth:Int),g'.out))).length=81:=I7 _;have hJ9:∀ n∈(L++[z'])++[y],Ch.B9 n.p:=fun n hn=>by
   rcases List.mem_append.1 hn with hn | hn
   ·rcases List.mem_append.1 hn with hn | hn
    ·exact hJ n (List.mem_append_left _ hn)
    ·rw [List.mem_singleton.1 hn,hsame.p];exact hIz
   ·rw [List.mem_singleton.1 hn,y4];exact hI2
  have hdc:=fun w' (c:Cl w9 w')=>a9y (c.blk hG9.hb);rw [hcur] at hdc;generalize stepOf z.p m ((g'.meth:Int),g'.out)=SV at *;refine zR ?_;refine I8 true (E7 rfl) (zR ?_);have fin:∀ w10 w11 w12 v',Cl w9 w10→a7s w.heap.size w10 (.slice av O.length kv) w11 v'→Row 39 81 stL w.heap.size w11 v' (O++[SV])→Upd w11 Ra (.cells #[v'] 28 (0,0)) w12 →
    i+1≤l.length∧K9 w12 G0 g' (L++[z']) y∧(L++[z']).length=i+1∧Ch.B9 y.p∧Ng y.p (i+1)∧a48 y.p (l.drop (i+1))∧(∀ n∈(L++[z'])++[y],Ch.B9 n.p)∧w.heap.size≤y.M∧w.heap.size≤y.P∧g'.meth≤9
   ∧(O++[SV])++story (((L++[z'])++[y]).map Q8.p) y.p ((g'.meth:Int),g'.out) ((l.drop (i+1)).map It.mv)=S∧(O++[SV]).length=i+1∧Row 39 81 stL w.heap.size w12 v' (O++[SV])
   ∧w12.heap[Ra]?=some (.cells #[v'] 28 (0,0))∧w12.heap[Rb]?=some (.cells #[.int .i64 0] 3 (0,0))∧w12.heap[Rc]?=some (.cells #[.bool false] 4 (0,0))∧Cl w w12:=by
   intro w10 w11 w12 v' c10 hg hr' u12;have c010:=c9.trans c10;have kg:KT 39 w10 w11:=KT.grow (hR9.step c10) hg;have na11:=kg _ _ _ zd (c10.blk na9);have ku:KT 28 w11 w12:=KT.upd u12 na11;refine ⟨hil,ku.game (kg.game (hG9.step c10) zd zd zd zd zd) zd zd zd zd zd,by rw [List.length_append,hLl];rfl,by rw [y4];exact hI2,by rw [y4];exact hN2,by rw [y4];exact hlz2,hJ9,
    by omega,zo,hg9,hst2,by rw [List.length_append,hOl];rfl,ku.row hr' zd,u12.at_,ku _ _ _ zd (kg _ _ _ zd (c10.blk nb9)),ku _ _ _ zd (kg _ _ _ zd (c10.blk nc9)),u12.cl (hg.toCl rfl c010) zo⟩
  have cD:Cl w9 w9.drew:=Cl.drew (Cl.refl _);have hOn:O.length+1≤1000:=by omega
  clear hst hst2 hJ9 hend hmap2 hnd hps hgb off9 hPz hPy hNode hkS f9 hld1 hld2 hld3 hsay hlz2;refine I5.mk2 [1,2,4] (.cons 0 (.cons 3 (.cons 5 (.cons 6 (.cons 7 (.cons 8 .done .nil) .nil) .nil) .nil) .nil) (.cons 3 (.cons 0 (.cons 5 (.cons 6 (.cons 7 (.cons 8 .done .nil) .nil) .nil) .nil) (.cons 5 (.cons 0 (.cons 6 (.cons 7 (.cons 8 .done .nil) .nil) .nil) (.cons 6 (.cons 0 (.cons 7 (.cons 8 .done .nil) .nil) .nil) .nil)) .nil)) .nil)) zk (zR ?_);iterate 30 (all_goals (first
   | exact trivial
   | exact ⟨(i+1,L++[z'],y,g',O++[SV],.slice a9 (O++[SV]).length k9),⟨d7 ni,trivial⟩,fin _ _ _ _ c10 hg hr' u12,by show l.length-(i+1)<l.length-i;omega⟩
   | refine And.intro ?_ ?_
   | refine g8 (hdc _ cD) ?_
   | (refine o8 (hstep _ cD) fun w10 c10=>?_
      have c10:=cD.trans c10)
   | refine b7 _ (D8 (v:=.slice av O.length kv) (cD.blk na9) rfl rfl) ?_
   | refine b7 _ (D8 (v:=.slice av O.length kv) (c10.blk na9) rfl rfl) ?_
   | refine b7 _ (D8 (v:=.slice av O.length kv) ((c10.trans (Cl.alloc _ _)).blk na9) rfl rfl) ?_
   | refine B6 b5X [stV SV] (by rw [Array.toList_map];rfl) (by simp [stV,Value.cells,hlenS]) rfl zd zd ?_
   | (refine S0 b5X SV rfl (hR9.step c10) rfl rfl (by simp [stV,Value.cells]) I7 a4S zo zd (c9.trans c10).size ?_
      intro v' w11 hr' hg;have na11:=(KT.grow (hR9.step c10) hg) _ _ _ zd (c10.blk na9);obtain ⟨a9,k9,rfl,_⟩:=hr'.form)
   | refine J6 na11 [.slice a9 (O++[SV]).length k9] rfl zk rfl (by intro v hv;simp at hv;subst hv;rfl) (Nat.le_of_ble_eq_true rfl) fun w12 u12=>?_
   | refine zR ?_))
 ·have e:i=l.length:=by omega
  have hO:O=S:=by rw [← hst,e,List.drop_length];show O=O++[];rw [List.append_nil]
  have eOl:O.length=l.length:=by omega
  refine zR ?_;refine b7 _ (D8 (v:=.slice av O.length kv) na rfl rfl) (zR ?_);refine b7 _ (D8 (v:=.slice av O.length kv) na rfl rfl) (zR ?_);refine zT na [.slice av O.length kv] fun w6 u6=>?_;refine zR ?_;refine zT ((Tn.upd u6).blk nb zo) [.int .i64 O.length] fun w7 u7=>?_;refine zR ?_;refine J6 ((Tn.upd u7).blk ((Tn.upd u6).blk nc zo) zo) [.bool true] rfl zk rfl (by intro v hv;simp at hv;subst hv;rfl) (Nat.le_of_ble_eq_true rfl) fun w8 u8=>zR ?_
  have ka:w8.heap[Ra]?=some (.cells #[.slice av O.length kv] 28 (0,0)):=(Tn.upd u8).blk ((Tn.upd u7).blk u6.at_ zo) zo;have kb:w8.heap[Rb]?=some (.cells #[.int .i64 O.length] 3 (0,0)):=(Tn.upd u8).blk u7.at_ zo;have kc:w8.heap[Rc]?=some (.cells #[.bool true] 4 (0,0)):=u8.at_;have hR8:=((hR.updT u6 na zd).updT u7 ((Tn.upd u6).blk nb zo) zd).updT u8 ((Tn.upd u7).blk ((Tn.upd u6).blk nc zo) zo) zd;have c8:=u8.cl (u7.cl (u6.cl c5 zo) zo) zo;refine ⟨.inr rfl,.slice av O.length kv,.int .i64 O.length,.bool true,⟨⟨_,rfl,D8 ka rfl rfl⟩,⟨_,rfl,D8 kb rfl rfl⟩,_,rfl,D8 kc rfl rfl⟩,.slice av O.length kv,?_,?_,c8⟩
  ·rw [eOl]
  ·rw [← hO,hRa];exact hR8
theorem a4q {c:UInt8} {r:Tx} (h:H0 a9a c=true) (hr:H4 r=true):H4 (c::r)=true:=by rw [a1A,if_pos h];exact hr
theorem c1D:H4 [101,46,112,46]=true:=by rw [a1A,if_neg zd,if_pos zd];exact U3
theorem a2H {p:l9} (hI:B9 p) {m:Mv} (hm:m∈s8 p) {sg:Tx} (hs:H4 sg=true) (hl:sg.length≤900):b2N p m 0 (body p m++sg):=by
 have:=a59 p m;exact .inl ⟨zd,by rw [List.length_append];omega,_,b5s hI hm hs,.own⟩
theorem b0n {p:l9} (hI:B9 p) {m:Mv} (hm:m∈s8 p) (h6:kindOf (sq p m.fr)≠6) (hc:¬ 0<castleKind p m) {fo ro sg:Tx} (hf:fo=[]∨fo=fileT m.fr) (hr:ro=[]∨ro=rankT m.fr) (ha:apart p m=[]∨apart p m=ro∨apart p m=fo∨apart p m=fo++ro) (hs:H4 sg=true) (hl:sg.length≤900) :
  b2N p m 0 (letter (kindOf (sq p m.fr))++(fo++ro)++takeT p m++sqT m.to++sg):=by
 obtain ⟨f0,f1,t0,t1,_⟩:=A7 hI hm;rcases Ch.a7h hI hm with ⟨k,hk,h⟩ | ⟨h,hp,hk⟩ | ⟨h,hp,k1,k5,h0⟩
 ·exact absurd (show 0<castleKind p m by omega) hc
 ·exact absurd hk h6
 ·have e:letter (kindOf (sq p m.fr))++(fo++ro)++takeT p m++sqT m.to++sg=V8 (a0D p m fo ro)++sg:=by
   unfold V8 a0D;rw [sq2 t0 t1];simp
  have hl1:=K2 (kindOf (sq p m.fr));have hl2:=a18 p m;have hl3:=V6 m.to;have hl4:fo.length≤1:=by rcases hf with e | e<;>rw [e]<;>simp [fileT]
  have hl5:ro.length≤1:=by rcases hr with e | e<;>rw [e]<;>simp [rankT]
  refine .inl ⟨zd,by simp only [List.length_append];omega,?_⟩
  rw [e];exact ⟨_,b29 hI hm k1 k5 hf hr hs,.piece h h6 _ _ hf hr ha⟩
theorem b4t {p:l9} (hI:B9 p) {m:Mv} (hm:m∈s8 p) {T:Tx} (hT:T∈sanForms p m):b2N p m 0 T:=by
 have hs:=b4q p m;have hsl:=a17 p m;obtain ⟨f0,f1,t0,t1,_⟩:=A7 hI hm;unfold sanForms at hT;rcases List.mem_append.1 hT with h | h
 ·simp only [List.mem_cons,List.not_mem_nil,or_false] at h;rcases h with rfl | rfl | rfl | rfl | rfl | rfl
  ·exact a2H hI hm hs zo
  ·have:=a2H hI hm U3 zd
   rwa [List.append_nil] at this
  ·exact a2H hI hm (a4q zd U3) zd
  ·exact a2H hI hm (a4q zd (a4q zd U3)) zd
  ·exact a2H hI hm (a4q zd (a4q zd (a4q zd U3))) zd
  ·exact a2H hI hm c1D zd
 ·split at h
  ·cases h
  ·rename_i hn;have h6:kindOf (sq p m.fr)≠6:=fun e=>hn (.inl e);have hc:¬ 0<castleKind p m:=fun e=>hn (.inr e);obtain ⟨o,ho,hTo⟩:=List.mem_flatMap.1 h;have key:∃ fo ro,o=fo++ro∧(fo=[]∨fo=fileT m.fr)∧(ro=[]∨ro=rankT m.fr)∧(apart p m=[]∨apart p m=ro∨apart p m=fo∨apart p m=fo++ro):=by
    unfold moreT at ho;rcases List.mem_cons.1 ho with e | ho
    ·refine ⟨fileT m.fr,rankT m.fr,by rw [e,sq2 f0 f1],.inr rfl,.inr rfl,?_⟩
     unfold apart;rw [sq2 f0 f1];(repeat' split)<;>simp
    ·split at ho
     ·rename_i ha;simp only [List.mem_cons,List.not_mem_nil,or_false] at ho;rcases ho with e | e
      ·exact ⟨fileT m.fr,[],by rw [e,List.append_nil],.inr rfl,.inl rfl,.inl ha⟩
      ·exact ⟨[],rankT m.fr,by rw [e,List.nil_append],.inl rfl,.inr rfl,.inl ha⟩
     ·cases ho
   obtain ⟨fo,ro,rfl,hf,hr,ha⟩:=key;unfold formT at hTo;simp only [List.mem_cons,List.not_mem_nil,or_false] at hTo;rcases hTo with rfl | rfl
   ·have:=b0n hI hm h6 hc hf hr ha U3 zd
    rwa [List.append_nil] at this
   ·exact b0n hI hm h6 hc hf hr ha hs zo
theorem b9s {cs:Array Value} {k:Nat} {v:Value} (h:cs[k]?=some v):I3 cs k [v]=cs:=by
 show cs.setIfInBounds k v=cs;apply Array.ext_getElem?;intro j;rw [Array.getElem?_setIfInBounds];by_cases e:k=j
 ·subst e;rw [if_pos rfl,if_pos (Array.getElem?_eq_some_iff.1 h).1,h]
 ·rw [if_neg e]
theorem b9t (s:Ch.a0n):(stL s)[3]?=some (.int .i64 s.tags):=rfl
theorem b9u (l:List Ch.a0n) (hl:∀ s∈l,StR s) (hn:l.length≤1000) {b0 b1:Nat} {u v:Value} (w:World) (hu:Row 39 81 stL b0 w u l) (hv:Row 39 81 stL b1 w v l):Calls G.P 24 #[u,v] w (L4 (.bool true) w):=by
 obtain ⟨au,cu,rfl,hau⟩:=hu.form;obtain ⟨av,cv,rfl,hav⟩:=hv.form;obtain ⟨zs,hzs,hz81⟩:=zSt;refine zN Tryz.func24 ?_;refine zG ?_;refine zR ?_;apply E.y8<;>intro h
 ·omega
 refine zR ?_;refine A9 (σ:=Nat) [4,5,6,14] 15 (fun a=>[(14,.int .i64 a)]) (fun a w'=>a≤l.length∧Cl w w') (fun a=>l.length-a) zk 0
  ⟨zo,Cl.refl _⟩ ⟨rfl,trivial⟩ ?_
 rintro i j w2 ⟨hi,hcl⟩;refine zR ?_;apply E.d6<;>intro h
 ·have hil:i<l.length:=by omega
  clear h;obtain ⟨gu,rfl⟩:=hau zo;obtain ⟨gv,rfl⟩:=hav zo;have ni:=C0 (i:=i) zo;have hs:=hl _ (List.getElem_mem hil);have l1:∀ w',Cl w w'→o4 G.P w' 39 ⟨gu,E.U7 0 ((i:Int)).toNat 81,none⟩ (stV l[i]):=fun w' h'=>a1f (hu.step h') I7 i hil rfl (by simp [E.y6]) rfl
  have l2:∀ w',Cl w w'→o4 G.P w' 39 ⟨gv,E.U7 0 ((i:Int)).toNat 81,none⟩ (stV l[i]):=fun w' h'=>a1f (hv.step h') I7 i hil rfl (by simp [E.y6]) rfl
  have l3:∀ w',Cl w w'→o4 G.P w' 3 ⟨gv,E.U7 0 ((i:Int)).toNat 81+3,none⟩ (.int .i64 (l[i]).tags):=fun w' h'=>by
   obtain ⟨cur,h1,h2⟩:=(hv.step h').get I7 i 3 hil zd;exact D8 h1 (by rw [E.y6,Int.toNat_natCast,Nat.zero_add];exact h2) rfl
  generalize l[i]=s at *;refine zR ?_;refine zC ?_;refine zR ?_;refine b7 _ (l1 _ hcl) (zR ?_);refine t7 zs hzs ?_;have d1:=Cl.alloc w2 (.cells zs.cells 39);have n1:=g7 w2 (.cells zs.cells 39);generalize w2.alloc (.cells zs.cells 39)=w3 at *;refine zR ?_;refine J6 n1 (stL s) rfl b7Z (I7 _) (a4S _) (by rw [hz81];decide) (fun w4 u4=>?_)
  have n4:w4.heap[w2.heap.size]?=some (.cells (stL s).toArray 39 (0,0)):=by rw [u4.at_,B7 _ _ (by rw [hz81,I7])]
  have d4:Cl w2 w4:=u4.cl d1 (Nat.le_refl _);clear n1 u4 d1;have c4:=hcl.trans d4;refine zR ?_;refine zC ?_;refine zR ?_;refine b7 _ (l3 _ c4) (zR ?_);refine J6 n4 [.int .i64 s.tags] rfl zk rfl (by intro v hv;rw [List.mem_singleton.1 hv];rfl) (by rw [List.size_toArray,I7];exact Nat.le_of_ble_eq_true rfl) (fun w5 u5=>?_)
  have n5:w5.heap[w2.heap.size]?=some (.cells (stL s).toArray 39 (0,0)):=by
   have:=u5.at_;rw [b9s (by rw [List.getElem?_toArray];exact b9t s)] at this
   exact this
  have d5:Cl w2 w5:=u5.cl d4 (Nat.le_refl _);have c5:=hcl.trans d5;clear n4 u5 d4 c4;refine zR ?_;refine zK 6 ?_;refine zR ?_;refine m7 (stV s) (fun w hw=>c58 (hw.blk n5)) (zR ?_);refine zC ?_;refine zR ?_;refine m7 (stV s) (fun w hw=>l2 w (c5.trans hw)) (zR ?_);refine b8V c4U (c5K hs) rfl rfl (zR ?_);intro w6 c6;refine zR ?_;exact ⟨i+1,⟨d7 ni,trivial⟩,⟨zo,c5.trans c6⟩,zo⟩
 ·refine zR ?_;exact ⟨rfl,hcl⟩
end
section
open Go
namespace Ch
def rn (p:l9) (h f:Int):l9:={ p with half:=h,full:=f }
variable (p:l9) (h f:Int)
def Same (s t:a0n):Prop:=t.san=s.san∧t.lan=s.lan∧t.uci=s.uci∧t.tags=s.tags∧t.status=s.status∧∃ h f,t.pos=rn s.pos h f
inductive b4u:List a0n→List a0n→Prop
 | nil:b4u [] []
 | cons {s t:a0n} {l k:List a0n} (h:Same s t) (h':b4u l k):b4u (s::l) (t::k)
theorem b4u.len {l k:List a0n} (h:b4u l k):l.length=k.length:=by
 induction h with
 | nil=>rfl
 | cons _ _ ih=>simp [ih]
theorem b4u.at_ {l k:List a0n} (h:b4u l k):∀ (i:Nat) (s t:a0n),l[i]?=some s→k[i]?=some t→Same s t:=by
 induction h with
 | nil=>intro i s t ha _;simp at ha
 | cons h1 _ ih =>
  intro i s t ha hb;cases i with
  | zero =>
   simp only [List.getElem?_cons_zero,Option.some.injEq] at ha hb;subst ha hb;exact h1
  | succ i =>
   simp only [List.getElem?_cons_succ] at ha hb;exact ih i s t ha hb
attribute [local irreducible] story O8 made C6 stepOf
end Ch
end
section
open Go Go.RowKit
open E
theorem a4R.cells {w:World} {g o n c:Nat} {ms:List Mv} (h:a4R w (.slice (some ⟨g,o,none⟩) n c) ms):∀ (j:Nat) (u:Value),(ms.flatMap N1)[j]?=some u→w.cell? ⟨g,o+j,none⟩=some u:=by
 intro j u hj;have hlt:j<ms.length*3:=by
  have:=(List.getElem?_eq_some_iff.1 hj).1;rw [K5 E0] at this;exact this
 obtain ⟨a,c',e,h⟩:=h;obtain ⟨g',o',cs,t,fz,e2,hb,h2⟩:=h zo;injection e with e1 _ _;rw [e2] at e1;injection e1 with e1;injection e1 with e1 e3 _;subst e1 e3;have hi:j/3<ms.length:=by omega
 obtain ⟨h3,h4⟩:=h2 (j/3) hi;have hk:=a3t E0 ms (j/3) (j%3) hi zo;have hjj:j/3*3+j%3=j:=by omega
 rw [hjj,hj] at hk;rw [D2 hb];have h5:(cs.extract (o+j/3*3) (o+j/3*3+3))[j%3]?=(N1 ms[j/3])[j%3]?:=by
  rw [h4];simp [Z0,N1]
 rw [← hk,Array.getElem?_extract] at h5;split at h5
 ·rw [← h5];congr 1;omega
 ·cases h5
theorem Row.mvIn {e b0:Nat} {w:World} {v:Value} {l:List Mv} (h:Row e 3 N1 b0 w v l):a4R w v l:=by
 obtain ⟨a,c,rfl,ha⟩:=h.form;refine ⟨a,c,rfl,fun h0=>?_⟩;obtain ⟨g,rfl⟩:=ha h0;obtain ⟨cur,hb,_⟩:=h.getAll E0 0 h0;refine ⟨g,0,cur,e,_,rfl,hb,fun i hi=>?_⟩;obtain ⟨cur',hb',h1,h2⟩:=h.getAll E0 i hi;rw [hb] at hb';obtain rfl:=Obj.cells.inj (Option.some.inj hb') |>.1;rw [Nat.zero_add];exact ⟨h1,h2⟩
end
section
open Go Go.RowKit
open E
open Ch Bb
theorem nF {p:Prop} [Decidable p] {A B:Prop} (h:p) (h1:B):bif !decide p then A else B:=by rw [decide_eq_true h];exact h1
theorem c1E (s:a0n):((stL s).toArray).extract 9 78=v8 s.pos:=by
 unfold stL v8;apply Array.ext';simp only [Array.toList_extract,List.extract_eq_take_drop];rw [List.drop_left' (by rfl),List.take_left' (by rw [C4])]
def Way:l9→List Ch.a0n→Prop
 | p,[]=>(s8 p).length≤218
 | p,s::r=>(s8 p).length≤218∧s.mv∈s8 p∧K8 p s.mv=true∧s.pos=made p s.mv∧Way (made p s.mv) r
theorem b9v {p:l9} {m:Mv} {mo:Int×Tx} {R:List Ch.a0n} (h1:(s8 p).length≤218) (h2:m∈s8 p) (h3:K8 p m=true) (h5:Way (made p m) R):Way p (stepOf p m mo::R):=by
 have e:(stepOf p m mo).mv=m:=rfl;have e2:(stepOf p m mo).pos=made p m:=rfl;show (s8 p).length≤218∧(stepOf p m mo).mv∈s8 p∧K8 p (stepOf p m mo).mv=true∧(stepOf p m mo).pos=made p (stepOf p m mo).mv∧Way (made p (stepOf p m mo).mv) R;rw [e,e2];exact ⟨h1,h2,h3,rfl,h5⟩
theorem b6T:∀ (ms:List Mv) (l:List l9) (p:l9) (mo:Int×Tx),B9 p→quiet p ms=true→Way p (story l p mo ms):=by
 intro ms
 induction ms with
 | nil=>intro l p mo _ hq;exact a5f hq
 | cons m r ih =>
  intro l p mo hI hq;have e:=a0q l p mo m r;generalize story l p mo (m::r)=X at e ⊢;by_cases hl:O8 p m=true
  ·rw [if_pos hl] at e;have hm:m∈s8 p:=of_decide_eq_true hl;obtain ⟨h1,h2⟩:=b4m hq hl;rw [e];exact b9v (a5f hq) hm h1 (ih _ _ _ (hI.made hm) h2)
  ·rw [if_neg hl] at e;rw [e];exact a5f hq
theorem b2S:∀ (ms:List Mv) (l:List l9) (p:l9) (mo:Int×Tx),story l p mo ((story l p mo ms).map fun s=>s.mv)=story l p mo ms:=by
 intro ms
 induction ms with
 | nil=>intro l p mo;rfl
 | cons m r ih =>
  intro l p mo;have e:=a0q l p mo m r;generalize hX:story l p mo (m::r)=X at e ⊢;by_cases hl:O8 p m=true
  ·rw [if_pos hl] at e;have h3:=ih (l++[made p m]) (made p m) (C6 (l++[made p m]) (made p m) mo);have e2:=a0q l p mo m ((story (l++[made p m]) (made p m) (C6 (l++[made p m]) (made p m) mo) r).map fun s=>s.mv);rw [if_pos hl,h3] at e2;rw [e];exact e2
  ·rw [if_neg hl] at e;rw [e];rfl
theorem kOf (x:Int) {n:Nat} (h0:0<n) (h1:n≤1000):∃ k:Nat,k<n∧IntKind.i64.wrap ((IntKind.u64.wrap x).tmod (IntKind.u64.wrap (n:Int)))=(k:Int):=by
 have hx:0≤IntKind.u64.wrap x:=by
  show 0≤x%_;exact Int.emod_nonneg _ zd
 rw [a54 zo,Int.tmod_eq_emod_of_nonneg hx];have a1:=Int.emod_nonneg (IntKind.u64.wrap x) (show (n:Int)≠0 by omega)
 have a2:=Int.emod_lt_of_pos (IntKind.u64.wrap x) (show (0:Int)<n by omega)
 obtain ⟨k,hk⟩:=Int.eq_ofNat_of_zero_le a1;rw [hk] at a2 ⊢;exact ⟨k,zo,g9 zo zo⟩
theorem b1m (p:l9) (m:Mv):0<(sanForms p m).length∧(sanForms p m).length≤1000:=by
 have h:(moreT p m).length≤3:=by unfold moreT;split<;>simp
 have h2:((moreT p m).flatMap (formT p m)).length=2*(moreT p m).length:=by
  generalize moreT p m=l
  induction l with
  | nil=>rfl
  | cons a r ih=>rw [List.flatMap_cons,List.length_append,ih,List.length_cons];show 2+_=_;omega
 unfold sanForms;rw [List.length_append];split
 ·exact ⟨by simp,by simp⟩
 ·rw [h2];simp only [List.length_cons,List.length_nil];omega
theorem c3F {s:Ch.a0n} {w:World} {b u:Nat} {fz:Nat×Nat} (hb:w.heap[b]?=some (.cells (stL s).toArray u fz)):o4 G.P w 36 ⟨b,0,none⟩ (mvV s.mv) :=
 ldA (t:=36) (o:=0) (z:=3) hb rfl (by rw [List.size_toArray,I7];decide)
theorem b9w {s:Ch.a0n} {w:World} {b u:Nat} {fz:Nat×Nat} (hb:w.heap[b]?=some (.cells (stL s).toArray u fz)):o4 G.P w 24 ⟨b,9,none⟩ (E2 s.pos):=by
 have:=ldA (t:=24) (o:=9) (z:=69) hb rfl (by rw [List.size_toArray,I7];decide)
 rw [c1E] at this;exact this
set_option maxHeartbeats 4000000 in
theorem a9l (s:l9) (usual:Bool) (ms:List Mv) (hms:∀ m∈ms,MvR m) (fs:List Int) {v vf:Value} (w:World) (hT:C9 w) (hS:Spc w) (hw:Pow w) (hrow:a4R w v ms) (hfs:a5Z w vf fs):Calls G.P 6 #[E2 s,.bool usual,v,vf] w (L4 (.bool true) w):=by
 obtain ⟨al,cl,rfl,hal⟩:=hrow.form;obtain ⟨af,cf,rfl,haf⟩:=hfs.form;have hst:=fun w=>b8W s usual w;have hu:usual=true→(if usual then P9 else s)=P9:=fun h=>by rw [if_pos h]
 have hfe:=fun (hI:B9 (if usual then P9 else s)) (hN:a06 (if usual then P9 else s)) w=>c1t s usual (fun h=>b4h (p:=s) (by simpa [h] using hI) (by simpa [h] using hN)) w
 have htx:(if usual then ([]:Tx) else fenT s)=(if usual then [] else fenT (if usual then P9 else s)):=by cases usual<;>simp
 rw [htx] at hfe;generalize (if usual then P9 else s)=p at *
 have hP:=z7 p;refine zN Tryz.func6 ?_;refine zG ?_;generalize hW:w.alloc (.cells (v8 s) 24)=W0;have hP0:W0.heap[w.heap.size]?=some (.cells (v8 s) 24 (0,0)):=by rw [← hW];exact g7 _ _
 have hE:Cl w W0:=by rw [← hW];exact Cl.alloc _ _
 clear hW;refine zR ?_;apply E.d6<;>intro h
 ·refine zR ?_;(repeat (refine E.A0 h ?_;refine zR ?_))
  exact ⟨rfl,hE⟩
 have hlen:=h;clear h;refine zR ?_;(repeat (refine E.p8 hlen ?_;refine zR ?_))
 apply E.d6<;>intro h
 ·refine zR ?_;(repeat (refine E.A0 h ?_;refine zR ?_))
  exact ⟨rfl,hE⟩
 have hlf:=h;clear h;refine zR ?_;(repeat (first | (refine E.p8 hlf ?_;refine zR ?_) | (refine E.p8 hlen ?_;refine zR ?_)))
 refine b7 _ (A3 hP0) (zR ?_);refine o8 (hst _) fun w2 c2=>zR ?_;obtain ⟨zp,hzp,hz69⟩:=b01;refine t7 zp hzp ?_;have hB0:(w2.alloc (.cells zp.cells 24)).heap[w2.heap.size]?=some (.cells zp.cells 24 (0,0)):=g7 _ _;have c3:Cl w2 (w2.alloc (.cells zp.cells 24)):=Cl.alloc _ _;have hP1:=(c2.trans c3).blk hP0;have c3:=hE.trans (c2.trans c3);generalize w2.alloc (.cells zp.cells 24)=w3 at *;refine zR ?_;refine J6 hB0 (Y9 p) rfl a1J (C4 _) (one_pos _) (by rw [hz69];omega) (fun w4 u4=>?_)
 have hB1:w4.heap[w2.heap.size]?=some (.cells (v8 p) 24 (0,0)):=by rw [u4.at_,B7 _ _ (by rw [C4,hz69])];rfl
 have hs2:w.heap.size<w2.heap.size:=by have:=(c2.blk hP0);exact (Array.getElem?_eq_some_iff.1 this).1
 have hP4:w4.heap[w.heap.size]?=some (.cells (v8 s) 24 (0,0)):=(Tn.upd u4).blk hP1 zo;have c4:Cl w w4:=u4.cl c3 zo;clear hB0 u4 hP1 c3 hP0;refine zR ?_;refine b7 _ (A3 hB1) (zR ?_);refine o8 (b6G p ms hms _ (hrow.step c4)) fun w5 c5=>?_;have c5':=c4.trans c5;have hask:=@b9k p ms;generalize asked p ms=aq at *;cases aq
 ·refine zR ?_;exact ⟨rfl,c5'⟩
 obtain ⟨hI,hh,hf,hn,hq⟩:=hask rfl;have hb0:=hI.h0;have hb1:=hI.f1;have hB5:=c5.blk hB1;have hP5:=c5.blk hP4;refine zR ?_;apply E.d6<;>intro h
 ·refine zR ?_;(repeat (refine E.A0 h ?_;refine zR ?_))
  exact ⟨rfl,c5'⟩
 have hf80:=h;clear h;refine zR ?_;(repeat (refine E.p8 hf80 ?_;refine zR ?_))
 refine b7 _ (A3 hB5) (zR ?_);refine m8 (c1q p hI ⟨zo,zo⟩ (!usual) ms hms zo w5 (hrow.step c5')) ?_;rintro _ w6 ⟨vw,rfl,hW6,c6⟩;have cw:=c5'.trans c6;have hsl:(storyOf p (!usual) ms).length≤80:=by
  have:(storyOf p (!usual) ms).length≤ms.length:=b6R ms _ _ _;omega
 have hso:=b4p hI hh hf hn hms (!usual);have hfe:=hfe hI ⟨zo,zo⟩;have hway:=b6T ms [p] p (if (!usual)=true then C6 [p] p (0,star) else (0,star)) hI hq
 have hag:=b2S ms [p] p (if (!usual)=true then C6 [p] p (0,star) else (0,star))
 have eS:∀ ms,story [p] p (if (!usual)=true then C6 [p] p (0,star) else (0,star)) ms=storyOf p (!usual) ms:=fun _=>rfl
 rw [eS] at hway;simp only [eS] at hag;have him:=fun (l:List It) hl hlen {v1 v2 v3:Value} {b1 b2 b3:Nat} bs hbl hbs w hT hS hw h1 h2 h3=>b2R hI hh hf l hl hlen usual hu (v1:=v1) (v2:=v2) (v3:=v3) (b1:=b1) (b2:=b2) (b3:=b3) bs hbl hbs w hT hS hw h1 h2 h3;generalize storyOf p (!usual) ms=S at *;generalize (if usual then ([]:Tx) else fenT p)=T at *
 obtain ⟨aw,kw,rfl,haw⟩:=hW6.form;refine ⟨_,rfl,?_⟩;have hP6:=c6.blk hP5;have hB6:=c6.blk hB5;have hNp:Ng p 0:=⟨zo,zo⟩;refine zR ?_;refine A9 (σ:=Nat×l9×List It×Value×Value×Value) [11,12,13,14,15,16,17,48] 49 (fun s=>[(11,s.2.2.2.1),(12,s.2.2.2.2.1),(13,s.2.2.2.2.2),(48,.int .i64 s.1)])
  (fun x w'=>x.1≤S.length∧Ch.B9 x.2.1∧Ng x.2.1 x.1∧Way x.2.1 (S.drop x.1)∧(∀ X,a48 x.2.1 X→a48 p (x.2.2.1++X))∧x.2.2.1.map It.mv++(S.drop x.1).map (fun s=>s.mv)=S.map (fun s=>s.mv)∧x.2.2.1.length=x.1
  ∧Row 9 1 H2 w.heap.size w' x.2.2.2.1 (x.2.2.1.map It.tx)∧Row 3 1 b9n w.heap.size w' x.2.2.2.2.1 (x.2.2.1.map fun y=>(y.nt:Int))∧Row 4 1 b9p w.heap.size w' x.2.2.2.2.2 (List.replicate x.1 false)
  ∧w'.heap[w2.heap.size]?=some (.cells (v8 x.2.1) 24 (0,0))∧w'.heap[w.heap.size]?=some (.cells (v8 s) 24 (0,0))∧Row 39 81 stL w5.heap.size w' (.slice aw S.length kw) S∧Cl w w') (fun x=>S.length-x.1) zk
  (0,p,[],.slice none 0 0,.slice none 0 0,.slice none 0 0) ⟨Nat.zero_le _,hI,hNp,hway,fun X h=>h,rfl,rfl,Row.nil _ _,Row.nil _ _,Row.nil _ _,hB6,hP6,hW6,cw⟩ ⟨rfl,rfl,rfl,rfl,trivial⟩ ?_
 clear hway hB6 hP6 hW6 cw;rintro ⟨i,q,D,va,vb,vc⟩ j w7 ⟨hi,hIq,hNq,hwy,hK,hDm,hDl,hra,hrb,hrc,hB7,hP7,hW7,cw⟩;simp only at hi hIq hNq hwy hK hDm hDl hra hrb hrc hB7 hP7 hW7 cw ⊢;obtain ⟨xa,ya,rfl,_⟩:=hra.form;obtain ⟨xb,yb,rfl,_⟩:=hrb.form;obtain ⟨xc,yc,rfl,_⟩:=hrc.form;have ni:=C0 (i:=i) zo;refine zR ?_;apply E.d6<;>intro h
 ·have hil:i<S.length:=by omega
  clear h;obtain ⟨gw,rfl⟩:=haw zo;have l1:o4 G.P w7 39 ⟨gw,E.U7 0 ((i:Int)).toNat 81,none⟩ (stV S[i]):=a1f hW7 I7 i hil rfl (by simp [E.y6]) rfl
  rw [List.drop_eq_getElem_cons hil] at hwy hDm;obtain ⟨zs,hzs,hz81⟩:=zSt;generalize S[i]=t at *;obtain ⟨hq0,hml,hsan,hpos,hwy2⟩:=hwy;rw [List.map_cons] at hDm;have hF:=fun w=>b4r q hIq (hNq.nm zo) t.mv hml w;obtain ⟨hF0,hF1⟩:=b1m q t.mv;have hsay:∀ T∈sanForms q t.mv,b2N q t.mv 0 T:=fun T hT=>b4t hIq hml hT;generalize sanForms q t.mv=F at *;refine zR ?_;refine zC ?_;refine zR ?_;refine b7 _ l1 (zR ?_);refine t7 zs hzs ?_;have d1:=Cl.alloc w7 (.cells zs.cells 39);have n1:=g7 w7 (.cells zs.cells 39);generalize w7.alloc (.cells zs.cells 39)=w8 at *;refine zR ?_;refine J6 n1 (stL t) rfl b7Z (I7 _) (a4S _) (by rw [hz81];decide) (fun w9 u9=>?_)
  have n9:w9.heap[w7.heap.size]?=some (.cells (stL t).toArray 39 (0,0)):=by rw [u9.at_,B7 _ _ (by rw [hz81,I7])]
  have d9:Cl w7 w9:=u9.cl d1 (Nat.le_refl _);clear n1 u9 d1;refine zR ?_;refine b7 _ (A3 (d9.blk hB7)) (zR ?_);refine b7 _ (c3F n9) (zR ?_);refine m8 (hF w9) ?_;rintro _ w10 ⟨vF,rfl,hF10,c10⟩;obtain ⟨aF,kF,rfl,haF⟩:=hF10.form;obtain ⟨gF,rfl⟩:=haF hF0;refine ⟨_,rfl,?_⟩;have n10:=c10.blk n9;have d10:=d9.trans c10;have c10:=cw.trans d10;refine zG ?_;refine Nx.mk (zG ?_);refine B0 (σ:=Nat) [17,57,58,59,60,61,62,63,64,65,66,67,68,69,70,71,72] 73 (fun k=>[(17,.int .i64 (k:Nat))]) (fun k w'=>k<F.length∧w'=w10) zk ?_ (fun k j w11 h11=>?_)
  ·refine zR ?_;apply E.d6<;>intro h
   ·have h0:0<fs.length:=by omega
    clear h;obtain ⟨gf,of,rfl⟩:=haf h0;have him:i%fs.length<fs.length:=Nat.mod_lt _ h0;have hld:=(hfs.step c10).ld (i%fs.length) him;have htm:((i:Int)).tmod (fs.length:Int)=((i%fs.length:Nat):Int):=rfl;generalize fs[i%fs.length]=x at *;obtain ⟨k,hk,hke⟩:=kOf x hF0 hF1;refine zR ?_;refine E.p8 zo (zR ?_);rw [htm];refine zC ?_;refine zR ?_;refine b7 _ hld (zR ?_);refine E.p8 (by rw [a54 zo];omega) (zR ?_)
    exact ⟨k,⟨d7 hke,trivial⟩,hk,rfl⟩
   ·refine zR ?_;exact ⟨0,⟨rfl,trivial⟩,hF0,rfl⟩
  obtain ⟨hkF,rfl⟩:=h11;have hldF:o4 G.P w11 9 ⟨gF,E.U7 0 ((k:Int)).toNat 1,none⟩ (m9 F[k]):=by
   obtain ⟨cur,h1,h2⟩:=hF10.get p9 k 0 hkF zd;exact D8 h1 (by rw [E.y6,Int.toNat_natCast,Nat.zero_add];exact h2) rfl
  have hsk:=hsay _ (List.getElem_mem hkF);generalize F[k]=X at *;have hra:=hra.step d10;have hrb:=hrb.step d10;have hrc:=hrc.step d10;have hB10:=d10.blk hB7;have hP10:=d10.blk hP7;have hW10:=hW7.step d10;have hla:(D.map It.tx).length=i:=by rw [List.length_map,hDl]
  have hlb:(D.map fun y=>(y.nt:Int)).length=i:=by rw [List.length_map,hDl]
  have hlc:(List.replicate i false).length=i:=List.length_replicate ..;refine zR ?_;refine zC ?_;refine zR ?_;refine b7 _ hldF (zR ?_);refine B6 elStr [m9 X] (by rw [Array.toList_map];rfl) (by intro v hv;rw [List.mem_singleton.1 hv];rfl) rfl zd zd (zR ?_)
  refine S0 elStr X rfl hra rfl rfl rfl p9 U6 zo zd c10.size ?_;intro va' w12 hra' hg1;have kg1:=KT.grow hra hg1;have c12:=hg1.toCl rfl c10;have hrb:=kg1.row hrb zd;have hrc:=kg1.row hrc zd;have hB12:=kg1 _ _ _ zd hB10;have hP12:=kg1 _ _ _ zd hP10;have hW12:=kg1.row hW10 zd;have n12:=kg1 _ _ _ zd n10;obtain ⟨a9,k9,rfl,_⟩:=hra'.form;clear hra hg1 kg1 hB10 hP10 hW10 n10 hldF;refine zR ?_;refine B6 a2x [.int .i64 0] (by rw [Array.toList_map];rfl) (by intro v hv;rw [List.mem_singleton.1 hv];rfl) rfl zd zd (zR ?_)
  refine S0 a2x (0:Int) rfl hrb rfl rfl rfl b2P b9o zo zd c12.size ?_;intro vb' w13 hrb' hg1;have kg1:=KT.grow hrb hg1;have c13:=hg1.toCl rfl c12;have hra':=kg1.row hra' zd;have hrc:=kg1.row hrc zd;have hB13:=kg1 _ _ _ zd hB12;have hP13:=kg1 _ _ _ zd hP12;have hW13:=kg1.row hW12 zd;have n13:=kg1 _ _ _ zd n12;obtain ⟨b9,q9,rfl,_⟩:=hrb'.form;clear hrb hg1 kg1 hB12 hP12 hW12 n12;refine zR ?_;refine B6 b9r [.bool false] (by rw [Array.toList_map];rfl) (by intro v hv;rw [List.mem_singleton.1 hv];rfl) rfl zd zd (zR ?_)
  refine S0 b9r false rfl hrc rfl rfl rfl b2Q b9q zo zd c13.size ?_;intro vc' w14 hrc' hg1;have kg1:=KT.grow hrc hg1;have c14:=hg1.toCl rfl c13;have hra':=kg1.row hra' zd;have hrb':=kg1.row hrb' zd;have hB14:=kg1 _ _ _ zd hB13;have hP14:=kg1 _ _ _ zd hP13;have hW14:=kg1.row hW13 zd;have n14:=kg1 _ _ _ zd n13;obtain ⟨c9,r9,rfl,_⟩:=hrc'.form;clear hrc hg1 kg1 hB13 hP13 hW13 n13;refine zR ?_;refine b7 _ (b9w n14) (zR ?_);refine J6 hB14 (Y9 t.pos) rfl a1J (C4 _) (one_pos _) (by rw [z7];omega) (fun w15 u15=>?_)
  have hB15:w15.heap[w2.heap.size]?=some (.cells (v8 t.pos) 24 (0,0)):=by rw [u15.at_,B7 _ _ (by rw [C4,z7])];rfl
  have hP15:w15.heap[w.heap.size]?=some (.cells (v8 s) 24 (0,0)):=(Tn.upd u15).blk hP14 zo;have ku:KT 24 w14 w15:=KT.upd u15 hB14;have hra':=ku.row hra' zd;have hrb':=ku.row hrb' zd;have hrc':=ku.row hrc' zd;have hW15:=ku.row hW14 zd;have c15:Cl w w15:=u15.cl c14 zo;rw [hpos] at hB15;have e1:D.map It.tx++[X]=(D++[It.mk t.mv X 0]).map It.tx:=by simp
  have e2:(D.map fun y=>(y.nt:Int))++[0]=(D++[It.mk t.mv X 0]).map fun y=>(y.nt:Int):=by simp
  have e3:List.replicate i false++[false]=List.replicate (i+1) false:=by rw [List.replicate_succ']
  have hra':Row 9 1 H2 w.heap.size w15 (.slice a9 (D.map It.tx++[X]).length k9) ((D++[It.mk t.mv X 0]).map It.tx):=by rw [← e1];exact hra'
  have hrb':Row 3 1 b9n w.heap.size w15 (.slice b9 ((D.map fun y:It=>(y.nt:Int))++[0]).length q9) ((D++[It.mk t.mv X 0]).map fun y=>(y.nt:Int)):=by rw [← e2];exact hrb'
  have hrc':Row 4 1 b9p w.heap.size w15 (.slice c9 (List.replicate i false++[false]).length r9) (List.replicate (i+1) false):=by rw [← e3];exact hrc'
  refine zR ?_;refine ⟨(i+1,made q t.mv,D++[It.mk t.mv X 0],.slice a9 (D.map It.tx++[X]).length k9,.slice b9 ((D.map fun y:It=>(y.nt:Int))++[0]).length q9,.slice c9 (List.replicate i false++[false]).length r9),⟨rfl,rfl,rfl,d7 ni,trivial⟩,⟨hil,hIq.made hml,hNq.made hIq t.mv,hwy2,fun Y hY=>?_,by rw [← hDm];simp,by rw [List.length_append,hDl];rfl,hra',hrb',hrc',hB15,hP15,hW15,c15⟩,by show S.length-(i+1)<S.length-i;omega⟩
  rw [List.append_assoc];exact hK _ ⟨hq0,hml,hsan,Nat.succ_pos _,hsk,hY⟩
 ·have e:i=S.length:=by omega
  have hlD:a48 p D:=by
   have:=hK [] (by rw [e,List.drop_length] at hwy;exact hwy)
   rwa [List.append_nil] at this
  have hmD:D.map It.mv=S.map fun s=>s.mv:=by
   rw [e,List.drop_length] at hDm;rw [← hDm];simp
  have him:=fun {v1 v2 v3:Value} {b1 b2 b3:Nat} bs hbl hbs w hT hS hw h1 h2 h3=>him D hlD zo (v1:=v1) (v2:=v2) (v3:=v3) (b1:=b1) (b2:=b2) (b3:=b3) bs hbl hbs w hT hS hw h1 h2 h3;rw [hmD,hag] at him;have hlD2:D.length=S.length:=by omega
  rw [hlD2] at him;refine zR ?_;refine b7 _ (A3 hP7) (zR ?_);refine o8 (hfe _) fun w8 c8=>?_;have cw:=cw.trans c8;refine zR ?_;refine m8 (him (List.replicate i false) (by rw [List.length_replicate,e]) (fun b hb=>(List.mem_replicate.1 hb).2) w8 (hT.cl cw) (hS.cl cw) (hw.cl cw) (hra.step c8) (hrb.step c8) (hrc.step c8)) ?_
  rintro _ w9 ⟨vi,rfl,hW9,c9⟩;have cw:=cw.trans c9;refine ⟨_,rfl,?_⟩;have hW7:=hW7.step (c8.trans c9);obtain ⟨ai,ki,rfl,_⟩:=hW9.form;refine zR ?_;(repeat (refine E.A0 rfl ?_;refine zR ?_))
  refine o8 (b9u S hso zo w9 hW9 hW7) fun w10 c10=>zR ?_;(repeat (refine E.A0 rfl ?_;refine zR ?_))
  exact ⟨rfl,cw.trans c10⟩
end
end Go.Proofs.YtpclhlhcegcflaaGreatDoor
