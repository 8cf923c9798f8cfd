/- One part of the proof: Sp23 Sp24 Sp25 Sp26 Sp27 Law6 Law7 Pk6 Pk7 Pk8. -/
import Derived.Test.YtpclhlhcegcflaaGreatDoorM8
namespace Go.Proofs.YtpclhlhcegcflaaGreatDoor
open Go.Proofs.Tryz
set_option maxRecDepth 100000
set_option linter.unusedSimpArgs false
set_option linter.unusedVariables false
section
open Go Go.RowKit
open E
theorem b2a {p:l9} (hI:Ch.D0 p) {m:Mv} (hm:m∈Ch.A1 p) (h:m.promo≠0) {k:Int} (k2:2≤k) (k5:k≤5):(⟨m.fr,m.to,k⟩:Mv)∈Ch.A1 p:=by
 obtain ⟨fr,to,pr⟩:=m;simp only at h ⊢;rcases (Ch.a0m hI _).1 (xW.1 hm).1 with hp|⟨r,hr⟩
 ·have hp':Ch.H7 p ⟨fr,to,k⟩:=⟨hp.f0,hp.f1,hp.t0,hp.t1,hp.ne,hp.there,hp.own,hp.goal,hp.other,.inr ⟨k2,k5,by
   rcases hp.promo with ⟨e,_⟩|⟨_,_,e⟩
   ·exact absurd e h
   ·exact e⟩⟩
  rw [Ch.a0L hI hp'];rw [← Ch.Z5 hI hp hp' h zo];exact (Ch.a0L hI hp).1 hm
 ·exfalso;have:=yH Mv.promo hr.is;exact h this
theorem b3C {p:l9} (hI:Ch.D0 p) {m:Mv} (hm:m∈Ch.A1 p):m.promo=0∨2≤m.promo∧m.promo≤5:=by
 rcases (Ch.a0m hI _).1 (xW.1 hm).1 with hp|⟨r,hr⟩
 ·rcases hp.promo with ⟨e,_⟩|⟨e,e',_⟩
  ·exact .inl e
  ·exact .inr ⟨e,e'⟩
 ·exact .inl (yH Mv.promo hr.is)
def b2b (p:l9) (m:Mv) (k:Int):Bool:=Ch.o5 (Ch.made p ⟨m.fr,m.to,k⟩) && !Ch.o5 (Ch.made p m)
theorem b2c {p:l9} {m:Mv} (h:m.promo≤5):Ch.Y6 p m=true↔∀ k:Int,2≤k→k<m.promo→b2b p m k=false:=by
 unfold Ch.Y6 b2b;rw [zl];constructor
 ·intro hk k k2 k5;have:=hk k (by simp;omega)
  simp only [zX k5,yV,zc] at this;exact this
 ·intro hk k hk';simp only [yS,zy,yy] at hk';by_cases hl:k<m.promo
  ·have:=hk k zo hl;simp only [zX hl,yV,this,Bool.not_false]
  ·simp [hl]
theorem b6h (p:l9) (hI:Ch.D0 p) (hN:Nm p) (m:Mv) (hm:m∈Ch.A1 p) (w:World):Calls G.P 87 #[D3 p,mvV m] w (N2 (.bool (Ch.Y6 p m)) w):=by
 have hkd:=b3C hI hm;have hiff:=b2c (p:=p) (m:=m) zo;refine zN func87 ?_;refine zG ?_;generalize hW:(w.alloc (.cells (s7 p) 24)).alloc (.cells (S8 m) 36)=W0;have hP:∀ w',Cl W0 w'→w'.heap[w.heap.size]?=some (.cells (s7 p) 24 (0,0)):=fun w' h=>hP2 (hW▸h);have hM:∀ w',Cl W0 w'→w'.heap[(w.alloc (.cells (s7 p) 24)).heap.size]?=some (.cells (S8 m) 36 (0,0)):=fun w' h=>hM2 (hW▸h);have hE:∀ w',Cl W0 w'→Cl w w':=fun w' h=>hE2 (hW▸h);have z:=Cl.refl W0;refine zR ?_;refine B6 (σ:=Nat) [4,5] 6 (fun a=>[(5,.int .i64 ((a:Int)+2))]) (fun a w'=>(a:Int)≤4∧(∀ k:Int,2≤k→k<(a:Int)+2→k<m.promo→b2b p m k=false)∧Cl W0 w') (fun a=>10-a) zk 0
  ⟨zo,by intro k;omega,z⟩ ⟨rfl,trivial⟩ ?_
 rintro a j w1 ⟨ha,hno,hcl⟩;refine zR ?_;refine b7 _ (a0k (hM _ hcl)) (zR ?_);apply E.b9<;>intro h
 ·have na:IntKind.i64.wrap ((a:Int)+2+1)=((a+1:Nat):Int)+2:=by rw [g9 zo zo];omega
  have hm':=b2a hI hm zo (k:=(a:Int)+2) zo zo;have hnx:b2b p m ((a:Int)+2)=false→∀ k:Int,2≤k→k<((a+1:Nat):Int)+2→k<m.promo→b2b p m k=false:=fun h0 k k2 k3 k4=>by
   by_cases e:k=(a:Int)+2
   ·rw [e];exact h0
   ·exact hno k k2 zo k4
  refine zR ?_;refine b7 _ (A3 (hP _ hcl)) (zR ?_);refine b7 _ (N7 (hM _ hcl)) (zR ?_);refine b7 _ (a0w (hM _ hcl)) (zR ?_);refine y7 (S8 ⟨m.fr,m.to,(a:Int)+2⟩) zk (zR ?_);refine o9 (a4i p hI hN ⟨m.fr,m.to,(a:Int)+2⟩ hm' _) fun w2 c2=>zR ?_;apply E.y6<;>intro h
  ·have b1:Ch.o5 (Ch.made p ⟨m.fr,m.to,(a:Int)+2⟩)=true:=by
    cases hb:Ch.o5 (Ch.made p ⟨m.fr,m.to,(a:Int)+2⟩)
    ·exfalso;apply h;rw [(a4j _ _).2 hb];rfl
    ·rfl
   clear h;refine zR ?_;refine b7 _ (A3 (hP _ (hcl.trans c2))) (zR ?_);refine b7 _ (a0f (hM _ (hcl.trans c2))) (zR ?_);refine o9 (a4i p hI hN m hm _) fun w3 c3=>zR ?_;apply E.b9<;>intro h
   ·have b2:Ch.o5 (Ch.made p m)=false:=(a4j _ _).1 (P8.1 (by rw [h];rfl))
    refine zR ?_;refine ⟨o8 ?_,hE _ (hcl.trans (c2.trans c3))⟩;symm;cases ht:Ch.Y6 p m
    ·rfl
    ·have:=hiff.1 ht ((a:Int)+2) zo zo;unfold b2b at this;rw [b1,b2] at this;cases this
   ·have b2:Ch.o5 (Ch.made p m)=true:=by
     cases hb:Ch.o5 (Ch.made p m)
     ·exfalso;apply h;rw [(a4j _ _).2 hb];rfl
     ·rfl
    refine zR ?_;exact ⟨a+1,⟨d8 na,trivial⟩,⟨zo,hnx (by unfold b2b;rw [b2];simp),hcl.trans (c2.trans c3)⟩,zo⟩
  ·have b1:Ch.o5 (Ch.made p ⟨m.fr,m.to,(a:Int)+2⟩)=false:=(a4j _ _).1 (P8.1 (by rw [h];rfl))
   refine zR ?_;exact ⟨a+1,⟨d8 na,trivial⟩,⟨zo,hnx (by unfold b2b;rw [b1];simp),hcl.trans c2⟩,zo⟩
 ·refine zR ?_;exact ⟨o8 (hiff.2 fun k k2 k3=>hno k k2 zo k3).symm,hE _ hcl⟩
def Ng (p:l9) (k:Nat):Prop:=p.half≤1152921504606846976+(k:Int)∧p.full≤1152921504606846976+(k:Int)
theorem Ng.nm {p:l9} {k:Nat} (h:Ng p k) (hk:k≤1000000):Nm p:=⟨by have:=h.1;omega,by have:=h.2;omega⟩
theorem Ng.made {p:l9} {k:Nat} (h:Ng p k) (hI:Ch.D0 p) (m:Mv):Ng (Ch.made p m) (k+1):=by
 have:=a9O hI m;have:=a4h hI m;have:=h.1;have:=h.2;exact ⟨zo,zo⟩
theorem c0Q (p:l9) (hI:Ch.D0 p) (hN:Ng p 0) (ms:List Mv) (hms:∀ m∈ms,MvR m) (hn:ms.length≤100000) {v:Value} (w:World) (hrow:a3E w v ms) :
  Calls G.P 37 #[D3 p,v] w (N2 (.bool (Ch.quiet p ms)) w):=by
 obtain ⟨al,cl,rfl,hal⟩:=hrow.form;refine zN func37 ?_;refine zG ?_;generalize hW:w.alloc (.cells (s7 p) 24)=W0;have hP0:W0.heap[w.heap.size]?=some (.cells (s7 p) 24 (0,0)):=by rw [← hW];exact d9 _ _
 have hE:Cl w W0:=by rw [← hW];exact Cl.alloc _ _
 clear hW;refine zR ?_;refine B6 (σ:=Nat×l9) [4,5] 6 (fun a=>[(5,.int .i64 a.1)]) (fun a w'=>a.1≤ms.length∧Ch.quiet p ms=Ch.quiet a.2 (ms.drop a.1)∧Ch.D0 a.2∧Ng a.2 a.1∧w'.heap[w.heap.size]?=some (.cells (s7 a.2) 24 (0,0))∧Cl w w') (fun a=>ms.length-a.1) zk (0,p)
  ⟨by simp,rfl,hI,hN,hP0,hE⟩ ⟨rfl,trivial⟩ ?_
 rintro ⟨i,q⟩ j w1 ⟨hi,hqu,hIq,hNq,hP,hcl⟩;simp only at hi hqu hIq hNq hP ⊢;have hnm:=hNq.nm zo;have hpc:=hIq.pc;refine zR ?_;apply E.b9<;>intro h
 ·have hil:i<ms.length:=by omega
  clear h;obtain ⟨g,o,rfl⟩:=hal zo;have ni:IntKind.i64.wrap ((i:Int)+1)=((i+1:Nat):Int):=by rw [g9 zo zo];push_cast;omega
  rw [xU hil] at hqu;have hmr:=hms _ (yO hil);have hld:∀ w',Cl w w'→g8 G.P w' 36 ⟨g,E.J0 o ((i:Int)).toNat 3,none⟩ (mvV ms[i]):=fun w' h'=>(hrow.step h').ld i hil;have hqq:Ch.quiet q (ms[i]::ms.drop (i+1))=(decide ((Ch.A1 q).length≤218)&&(!Ch.N3 q ms[i]||(Ch.Y6 q ms[i]&&Ch.quiet (Ch.made q ms[i]) (ms.drop (i+1))))):=rfl
  rw [hqq] at hqu;clear hqq;generalize ms[i]=m at *;refine zR ?_;refine b7 _ (A3 hP) (zR ?_);refine o7 (a2V q hIq hnm.nums _) ?_;rintro r w2 ⟨v2,l2,rfl,hlp,hl2,c2⟩;refine ⟨_,rfl,?_⟩;obtain ⟨al2,cl2,rfl,hal2⟩:=hl2.form;have hlen:=hlp.length_eq;clear hal2 hl2;refine zR ?_;apply E.b9<;>intro h
  ·refine zR ?_;exact ⟨o8 (by rw [hqu,zV zo];rfl),hcl.trans c2⟩
  ·rw [zX (show (Ch.A1 q).length≤218 by omega),yV] at hqu
   clear h;refine zR ?_;refine zK 7 ?_;refine zR ?_;refine m7 _ (fun w hw=>A3 ((c2.trans hw).blk hP)) (zR ?_);refine zC ?_;refine zR ?_;refine m7 (mvV m) (fun w hw=>hld w (hcl.trans (c2.trans hw))) (zR ?_);refine E2 (.bool (Ch.N3 q m)) (fun _ _ h=>h.trans) (fun w _=>c4o q hIq hnm.nums m hmr w) (zR ?_);intro w3 c3;have c23:=c2.trans c3;generalize hL:Ch.N3 q m=lb at *;refine zR ?_;cases lb
   ·refine zR ?_;exact ⟨o8 (by rw [hqu];rfl),hcl.trans c23⟩
   ·have hmem:m∈Ch.A1 q:=yB hL;have hmo:=a0E hIq hmem;refine zR ?_;refine zK 7 ?_;refine zR ?_;refine m7 _ (fun w hw=>A3 ((c23.trans hw).blk hP)) (zR ?_);refine zC ?_;refine zR ?_;refine m7 (mvV m) (fun w hw=>hld w (hcl.trans (c23.trans hw))) (zR ?_);refine E2 (.bool (Ch.Y6 q m)) (fun _ _ h=>h.trans) (fun w _=>b6h q hIq hnm m hmem w) (zR ?_);intro w4 c4;have c24:=c23.trans c4;generalize hT:Ch.Y6 q m=tb at *;refine zR ?_;cases tb
    ·refine zR ?_;exact ⟨o8 (by rw [hqu];rfl),hcl.trans c24⟩
    ·refine zR ?_;refine zK 6 ?_;refine zR ?_;refine m7 _ (fun w hw=>A3 ((c24.trans hw).blk hP)) (zR ?_);refine zC ?_;refine zR ?_;refine m7 (mvV m) (fun w hw=>hld w (hcl.trans (c24.trans hw))) (zR ?_);refine E2 (D3 (Ch.made q m)) (fun _ _ h=>h.trans) (fun w _=>a6b q m hIq.pc hmo hIq.turn hIq.c0 hIq.c1 hIq.h0 hnm.nums.1 (by have:=hIq.f1;omega) hnm.nums.2 w) (zR ?_)
     intro w5 c5;have hP5:=(c24.trans c5).blk hP;refine zR ?_;refine K9 hP5 (V0 (Ch.made q m)) rfl a0I (A7 _) (one_pos _) (by rw [A0];omega) (fun w6 u6=>?_)
     have hQ:w6.heap[w.heap.size]?=some (.cells (s7 (Ch.made q m)) 24 (0,0)):=by
      rw [u6.at_,C6 _ _ (by rw [A7,A0])];rfl
     have c6:Cl w w6:=u6.cl (hcl.trans (c24.trans c5)) (yJ _);clear u6;refine zR ?_;exact ⟨(i+1,Ch.made q m),⟨d8 ni,trivial⟩,⟨by simp;omega,by rw [hqu];rfl,Ch.D0.made hIq hmem,hNq.made hIq m,hQ,c6⟩,by simp;omega⟩
 ·have hil:i=ms.length:=by omega
  subst hil;rw [List.drop_length] at hqu;refine zR ?_;refine b7 _ (A3 hP) (zR ?_);refine o7 (a2V q hIq hnm.nums _) ?_;rintro r w2 ⟨v2,l2,rfl,hlp,hl2,c2⟩;refine ⟨_,rfl,?_⟩;obtain ⟨al2,cl2,rfl,hal2⟩:=hl2.form;have hlen:=hlp.length_eq;refine zR ?_;refine ⟨o8 ?_,hcl.trans c2⟩;rw [hqu];show _=decide ((Ch.A1 q).length≤218);exact ya.2 zo
def G6 (p:l9) (d:Int):Bool:=decide (0≤Ch.I9 (Ch.o4 p.ep+d) (Ch.k9 p.ep-Ch.up p.turn))&&decide (Ch.sq p (Ch.I9 (Ch.o4 p.ep+d) (Ch.k9 p.ep-Ch.up p.turn))=6+6*p.turn)
theorem b6i (p:l9):Ch.b34 p=(G6 p (-1)||G6 p 1):=by
 unfold Ch.b34 G6;simp only [List.any_cons,List.any_nil,Bool.or_false]
theorem b3D (p:l9) (hp:Fen p) (ht:p.turn=0∨p.turn=1) (he:p.ep≤63) (w:World):Calls G.P 95 #[D3 p] w (N2 (m9 (Ch.a43 p)) w):=by
 have hpc:=hp.pc;refine zN func95 ?_;refine zG ?_;generalize hW:w.alloc (.cells (s7 p) 24)=W0;have hP:∀ w',Cl W0 w'→w'.heap[w.heap.size]?=some (.cells (s7 p) 24 (0,0)):=fun w' h=>(hW▸h:Cl (w.alloc (.cells (s7 p) 24)) w').blk (d9 _ _);have hE:∀ w',Cl W0 w'→Cl w w':=fun w' h=>(Cl.alloc _ _).trans (hW▸h);have hsz:w.heap.size≤w.heap.size:=yJ _;have z:=Cl.refl W0;refine zR ?_;refine b7 _ (a4G (hP _ z)) (zR ?_);apply E.b9<;>intro h
 ·refine zR ?_;refine b7 _ (A3 (hP _ z)) (zR ?_);refine o9 (a29 p hp _) fun w1 c1=>zR ?_;exact ⟨F1 (by unfold Ch.a43;rw [zM (.inl h)]),hE _ c1⟩
 ·have e0:0≤p.ep:=by omega
  clear h;have hf:0≤Ch.o4 p.ep∧Ch.o4 p.ep≤7∧0≤Ch.k9 p.ep∧Ch.k9 p.ep≤7:=by unfold Ch.o4 Ch.k9;omega
  have hu:Ch.up p.turn=1∨Ch.up p.turn=-1:=by unfold Ch.up;omega
  have e1:IntKind.i64.wrap (Ch.k9 p.ep-Ch.up p.turn)=Ch.k9 p.ep-Ch.up p.turn:=g9 zo zo;have hX:Ch.a43 p=if G6 p (-1)||G6 p 1 then Ch.O0 p else Ch.O0 { p with ep:=-1 }:=by
   unfold Ch.a43;rw [b6i];by_cases hb:(G6 p (-1)||G6 p 1)=true
   ·rw [zM (.inr hb),zM hb]
   ·rw [zJ (fun h=>h.elim (fun h=>by omega) (fun h=>hb h)),zJ hb]
  refine zR ?_;refine zK 8 ?_;refine zR ?_;refine m7 _ (fun w hw=>a4G (hP _ hw)) (zR ?_);refine m8 _ (fun w _=>X5 _ w e0 zo) (zR ?_);refine m7 _ (fun w hw=>E9 (hP _ hw)) (zR ?_);refine m8 _ (fun w _=>b5N _ w zo zo) (zR ?_);simp only [e1];intro w1 c1;generalize hR:Ch.k9 p.ep-Ch.up p.turn=R at *;refine zR ?_;refine B6 (σ:=Nat) [2,4,5] 6 (fun a=>[(4,.int .i64 (2*(a:Int)-1))]) (fun a w'=>a≤2∧(1≤a→G6 p (-1)=false)∧(2≤a→G6 p 1=false)∧Cl W0 w') (fun a=>3-a) zk 0
   ⟨zo,zo,zo,c1⟩ ⟨rfl,trivial⟩ ?_
  rintro a j w2 ⟨ha,hb1,hb2,hcl⟩;refine zR ?_;apply E.b9<;>intro h
  ·have ha2:a<2:=by omega
   clear h;have na:IntKind.i64.wrap (2*(a:Int)-1+2)=2*((a+1:Nat):Int)-1:=by rw [g9 zo zo];omega
   have e2:IntKind.i64.wrap (Ch.o4 p.ep+(2*(a:Int)-1))=Ch.o4 p.ep+(2*(a:Int)-1):=g9 zo zo;have hbd:G6 p (2*(a:Int)-1)=(decide (0≤Ch.I9 (Ch.o4 p.ep+(2*(a:Int)-1)) R)&&decide (Ch.sq p (Ch.I9 (Ch.o4 p.ep+(2*(a:Int)-1)) R)=6+6*p.turn)):=by unfold G6;rw [hR]
   have hnx:G6 p (2*(a:Int)-1)=false→(1≤a+1→G6 p (-1)=false)∧(2≤a+1→G6 p 1=false):=fun h=>by
    have:a=0∨a=1:=by omega
    rcases this with rfl|rfl
    ·exact ⟨fun _=>by simpa using h,zo⟩
    ·exact ⟨fun _=>hb1 zo,fun _=>by simpa using h⟩
   have hyes:G6 p (2*(a:Int)-1)=true→(G6 p (-1)||G6 p 1)=true:=fun h=>by
    have:a=0∨a=1:=by omega
    rcases this with rfl|rfl
    ·rw [show G6 p (-1)=true by simpa using h];rfl
    ·rw [show G6 p 1=true by simpa using h];simp
   have hat:Ch.I9 (Ch.o4 p.ep+(2*(a:Int)-1)) R≤63:=by unfold Ch.I9;split<;>omega
   refine zR ?_;refine b7 _ (a4G (hP _ hcl)) (zR ?_);refine l8 (a2j _ _ e0) (zR ?_);refine l8 (a2M _ _ _ (by rw [e2];omega) (by rw [e2];omega) zo zo) ?_
   rw [e2];generalize Ch.I9 (Ch.o4 p.ep+(2*(a:Int)-1)) R=A at *;refine zR ?_;refine zK 12 ?_;refine zR ?_;apply E.b9<;>intro h
   ·have hA:=h;clear h;refine zR ?_;refine zC ?_;refine zR ?_;refine m7 _ (fun w hw=>O4 (hP _ (hcl.trans hw)) _ hA zo) (zR ?_);refine m7 _ (fun w hw=>E9 (hP _ (hcl.trans hw))) (zR ?_);refine m8 _ (fun w _=>a4u 6 _ w zo zo zo zo) (zR ?_);intro w3 c3;refine zR ?_;apply E.b9<;>intro h
    ·refine zR ?_;refine b7 _ (A3 (hP _ (hcl.trans c3))) (zR ?_);refine o9 (a29 p hp _) fun w4 c4=>zR ?_;refine ⟨F1 ?_,hE _ (hcl.trans (c3.trans c4))⟩;rw [hX,zM (hyes (by rw [hbd,zX hA,zX h];rfl))]
    ·refine zR ?_;have hn:=hnx (by rw [hbd,zV h];simp)
     exact ⟨a+1,⟨d8 na,trivial⟩,⟨zo,hn.1,hn.2,hcl.trans c3⟩,zo⟩
   ·refine zR ?_;intro w3 c3;refine zR ?_;have hn:=hnx (by rw [hbd,zV h];simp)
    exact ⟨a+1,⟨d8 na,trivial⟩,⟨zo,hn.1,hn.2,hcl.trans c3⟩,zo⟩
  ·have ha2:a=2:=by omega
   subst ha2;refine zR ?_;have hb:w2.heap[w.heap.size]?=some (.cells (s7 p) 24 (0,0)):=hP _ hcl;refine K9 hb [.int .i64 (-1)] rfl R9 rfl (by simp [Value.oneCell']) (by rw [A0];decide) (fun w3 u3=>?_)
   have hQ:w3.heap[w.heap.size]?=some (.cells (s7 { p with ep:=-1 }) 24 (0,0)):=by
    rw [u3.at_,show L8 (s7 p) (bif Nat.beq 66 0 then 0 else 0+66) [.int .i64 (-1)]=s7 { p with ep:=-1 } from N8 p { p with ep:=-1 } 66 (-1) zo rfl rfl]
   have c3:Cl w w3:=u3.cl (hE _ hcl) (yJ _);clear u3;refine zR ?_;refine b7 _ (A3 hQ) (zR ?_);refine o9 (a29 { p with ep:=-1 } ⟨hpc,hp.c0,hp.c1,hp.h0,hp.h1,hp.f0,hp.f1⟩ _) fun w4 c4=>zR ?_;refine ⟨F1 ?_,c3.trans c4⟩;rw [hX,hb1 zo,hb2 zo];rfl
theorem c5F:∃ z,(G.P.info? 36).bind (·.zero)=some z∧z.cells.size=3:=a0C zk
def a58 (p:l9) (m x:Mv):Bool:=decide (x.to=m.to) && !decide (x.fr=m.fr)&&decide (Ch.sq p x.fr=Ch.sq p m.fr)
def riv (p:l9) (m:Mv) (l:List Mv):List Mv:=l.filter (a58 p m)
def a7n (p:l9) (m:Mv) (l:List Mv):List Mv:=(riv p m l).filter fun x=>decide (x.fr%8=m.fr%8)
def a7o (p:l9) (m:Mv) (l:List Mv):List Mv:=(riv p m l).filter fun x=>decide (x.fr/8=m.fr/8)
theorem b8y (p:l9) (m:Mv) (l:List Mv) (x:Mv):(riv p m (l++[x])).length=(riv p m l).length+(if a58 p m x then 1 else 0) ∧
  (a7n p m (l++[x])).length=(a7n p m l).length+(if a58 p m x&&decide (x.fr%8=m.fr%8) then 1 else 0) ∧
  (a7o p m (l++[x])).length=(a7o p m l).length+(if a58 p m x&&decide (x.fr/8=m.fr/8) then 1 else 0):=by
 unfold a7n a7o riv;cases h:a58 p m x<;>simp [List.filter_append,h];constructor<;>split<;>simp_all
theorem c0R (p:l9) (m:Mv) (l:List Mv):(riv p m l).length≤l.length∧(a7n p m l).length≤l.length∧(a7o p m l).length≤l.length:=by
 have h:=xG (a58 p m) l;exact ⟨h,zw (xG _ _) h,zw (xG _ _) h⟩
theorem b5j {α:Type} (f:α→Bool) (l:List α):l.any f = !decide ((l.filter f).length=0):=by
 induction l with
 | nil=>rfl
 | cons x r ih =>
  rw [List.any_cons,List.filter_cons];cases h:f x
  ·simpa using ih
  ·simp
theorem b8z {p:l9} {m:Mv} {l:List Mv} (h:l.Perm (Ch.A1 p)):Ch.apart p m=if (riv p m l).length=0 then [] else if (a7n p m l).length=0 then Ch.D2 m.fr else if (a7o p m l).length=0 then Ch.rankT m.fr else Ch.sqT m.fr:=by
 have hr:(riv p m l).Perm (Ch.P7 p m):=h.filter _;have e1:=hr.length_eq;have e2:(a7n p m l).length=((Ch.P7 p m).filter fun x=>decide (x.fr%8=m.fr%8)).length:=(hr.filter _).length_eq;have e3:(a7o p m l).length=((Ch.P7 p m).filter fun x=>decide (x.fr/8=m.fr/8)).length:=(hr.filter _).length_eq;unfold Ch.apart;rw [a05,b5j,b5j,e1,e2,e3];simp
theorem b3E (p:l9) (hI:Ch.D0 p) (hN:Nm p) (m:Mv) (hm:m∈Ch.A1 p) (w:World):Calls G.P 60 #[D3 p,mvV m] w (N2 (m9 (Ch.apart p m)) w):=by
 have hmo:=a0E hI hm;obtain ⟨⟨a0,a1⟩,⟨b0,b1⟩,d0,d1⟩:=hmo;refine zN func60 ?_;refine zG ?_;generalize hW:(w.alloc (.cells (s7 p) 24)).alloc (.cells (S8 m) 36)=W0;have hP:∀ w',Cl W0 w'→w'.heap[w.heap.size]?=some (.cells (s7 p) 24 (0,0)):=fun w' h=>hP2 (hW▸h);have hM:∀ w',Cl W0 w'→w'.heap[(w.alloc (.cells (s7 p) 24)).heap.size]?=some (.cells (S8 m) 36 (0,0)):=fun w' h=>hM2 (hW▸h);have hE:∀ w',Cl W0 w'→Cl w w':=fun w' h=>hE2 (hW▸h);have z:=Cl.refl W0;obtain ⟨zv,hz,hz3⟩:=c5F;refine zR ?_;refine b7 _ (A3 (hP _ z)) (zR ?_);refine o7 (a2V p hI hN.nums _) ?_;rintro r w1 ⟨v,l,rfl,hlp,hl,c1⟩;refine ⟨_,rfl,?_⟩;obtain ⟨al,cl,rfl,hal⟩:=hl.form;have hlen:=hlp.length_eq;have hll:=b6d p;have hap:=b8z (m:=m) hlp;refine zR ?_;refine B6 (σ:=Nat) [5,6,7,9,13] 14 (fun a=>[(5,.int .i64 (riv p m (l.take a)).length),(6,.int .i64 (a7n p m (l.take a)).length),(7,.int .i64 (a7o p m (l.take a)).length),(13,.int .i64 a)]) (fun a w'=>a≤l.length∧Cl w1 w') (fun a=>l.length-a) zk 0
  ⟨zo,Cl.refl _⟩ ⟨rfl,rfl,rfl,rfl,trivial⟩ ?_
 rintro i j w2 ⟨hi,hcl⟩;have hr3:=c0R p m (l.take i);rw [yb,Nat.min_eq_left hi] at hr3;refine zR ?_;apply E.b9<;>intro h
 ·have hil:i<l.length:=by omega
  clear h;obtain ⟨g,rfl⟩:=hal zo;have ni:IntKind.i64.wrap ((i:Int)+1)=((i+1:Nat):Int):=by rw [g9 zo zo];push_cast;omega
  have hx:l[i]∈Ch.A1 p:=hlp.subset (yO hil);have hsn:=b8y p m (l.take i) l[i];rw [← zx hil] at hsn;have hld:=a2Q (t:=36) (hl.step hcl) D9 i hil rfl (o:=E.J0 0 ((i:Int)).toNat 3) (by simp [E.r9]) (v:=mvV l[i]) rfl
  generalize hX:l[i]=x at *;obtain ⟨⟨x0,x1⟩,⟨y0,y1⟩,g0,g1⟩:=a0E hI hx;have t1:IntKind.i64.wrap (((riv p m (l.take i)).length:Int)+1)=(((riv p m (l.take i)).length+1:Nat):Int):=by rw [g9 zo zo];omega
  have t2:IntKind.i64.wrap (((a7n p m (l.take i)).length:Int)+1)=(((a7n p m (l.take i)).length+1:Nat):Int):=by rw [g9 zo zo];omega
  have t3:IntKind.i64.wrap (((a7o p m (l.take i)).length:Int)+1)=(((a7o p m (l.take i)).length+1:Nat):Int):=by rw [g9 zo zo];omega
  generalize (riv p m (l.take i)).length=n1 at *;generalize (a7n p m (l.take i)).length=n2 at *;generalize (a7o p m (l.take i)).length=n3 at *;generalize hk1:(riv p m (l.take (i+1))).length=k1 at hsn;generalize hk2:(a7n p m (l.take (i+1))).length=k2 at hsn;generalize hk3:(a7o p m (l.take (i+1))).length=k3 at hsn;have hno:a58 p m x=false→∃ s:Nat,(Value.int .i64 n1 = .int .i64 (riv p m (l.take (i+1))).length∧Value.int .i64 n2 = .int .i64 (a7n p m (l.take (i+1))).length∧Value.int .i64 n3 = .int .i64 (a7o p m (l.take (i+1))).length):=fun h=>by
   rw [h] at hsn;simp only [xi,yD,xh,Nat.add_zero] at hsn;exact ⟨0,by rw [hk1,hsn.1],by rw [hk2,hsn.2.1],by rw [hk3,hsn.2.2]⟩
  have hR:a58 p m x=(decide (x.to=m.to) && !decide (x.fr=m.fr)&&decide (Ch.sq p x.fr=Ch.sq p m.fr)):=rfl;have f1:x.fr.tmod 8=x.fr%8:=a2W x0;have f2:m.fr.tmod 8=m.fr%8:=a2W a0;have f3:IntKind.i64.wrap (x.fr.tdiv 8)=x.fr/8:=by rw [a54 x0,g9 zo zo]
  have f4:IntKind.i64.wrap (m.fr.tdiv 8)=m.fr/8:=by rw [a54 a0,g9 zo zo]
  refine zR ?_;refine zC ?_;refine zR ?_;refine b7 (mvV x) hld (zR ?_);refine v8 zv hz (zR ?_);refine K9 (d9 _ _) (J3 x) rfl b3o rfl (J6 _) (by rw [hz3];omega) (fun w3 u3=>?_)
  have hQ:w3.heap[w2.heap.size]?=some (.cells (S8 x) 36 (0,0)):=by
   rw [u3.at_,C6 _ _ (by rw [hz3];rfl)];rfl
  have c23:Cl w2 w3:=u3.cl (Cl.alloc _ _) (yJ _);clear u3;have c3:=c1.trans (hcl.trans c23);refine zR ?_;refine zK 25 ?_;refine zR ?_;refine m7 _ (fun w hw=>a0w (hw.blk hQ)) (zR ?_);refine m7 _ (fun w hw=>a0w (hM _ (c3.trans hw))) (zR ?_);apply E.y6<;>intro h
  ·refine zR ?_;intro w4 c4;refine zR ?_;obtain ⟨_,q1,q2,q3⟩:=hno (by rw [hR,zV h];rfl)
   exact ⟨i+1,⟨q1,q2,q3,d8 ni,trivial⟩,⟨zo,hcl.trans (c23.trans c4)⟩,zo⟩
  have h1:=h;clear h;refine zR ?_;refine m7 _ (fun w hw=>N7 (hw.blk hQ)) (zR ?_);refine m7 _ (fun w hw=>N7 (hM _ (c3.trans hw))) (zR ?_);apply E.b9<;>intro h
  ·refine zR ?_;intro w4 c4;refine zR ?_;obtain ⟨_,q1,q2,q3⟩:=hno (by rw [hR,zX h];simp)
   exact ⟨i+1,⟨q1,q2,q3,d8 ni,trivial⟩,⟨zo,hcl.trans (c23.trans c4)⟩,zo⟩
  have h2:=h;clear h;refine zR ?_;refine m7 _ (fun w hw=>N7 (hw.blk hQ)) (zR ?_);refine zC ?_;refine zR ?_;refine m7 _ (fun w hw=>O4 (hP _ (c3.trans hw)) _ x0 zo) (zR ?_);refine m7 _ (fun w hw=>N7 (hM _ (c3.trans hw))) (zR ?_);refine zC ?_;refine zR ?_;refine m7 _ (fun w hw=>O4 (hP _ (c3.trans hw)) _ a0 zo) (zR ?_);intro w4 c4;have c4':=c3.trans c4;have hQ4:=c4.blk hQ;have cc:=hcl.trans (c23.trans c4);refine zR ?_;apply E.y6<;>intro h
  ·refine zR ?_;obtain ⟨_,q1,q2,q3⟩:=hno (by rw [hR,zV h];simp)
   exact ⟨i+1,⟨q1,q2,q3,d8 ni,trivial⟩,⟨zo,cc⟩,zo⟩
  have hyes:a58 p m x=true:=by rw [hR,zX h1,zV h2,zX h];rfl
  clear h;rw [hyes] at hsn;simp only [yV,zW,xy] at hsn;obtain ⟨s1,s2,s3⟩:=hsn;refine zR ?_;refine b7 _ (N7 hQ4) (zR ?_);refine b7 _ (N7 (hM _ c4')) (zR ?_);apply E.b9<;>intro h
  ·rw [f1,f2] at h;rw [zM h] at s2;clear h;refine zR ?_;refine b7 _ (N7 hQ4) (zR ?_);refine b7 _ (N7 (hM _ c4')) (zR ?_);apply E.b9<;>intro h
   ·rw [f3,f4] at h;rw [zM h] at s3;refine zR ?_;exact ⟨i+1,⟨d8 (by rw [t1,hk1,s1]),d8 (by rw [t2,hk2,s2]),d8 (by rw [t3,hk3,s3]),d8 ni,trivial⟩,⟨zo,cc⟩,zo⟩
   ·rw [f3,f4] at h;rw [zJ h] at s3;refine zR ?_;exact ⟨i+1,⟨d8 (by rw [t1,hk1,s1]),d8 (by rw [t2,hk2,s2]),d8 (by rw [hk3,s3];rfl),d8 ni,trivial⟩,⟨zo,cc⟩,zo⟩
  ·rw [f1,f2] at h;rw [zJ h] at s2;clear h;refine zR ?_;refine b7 _ (N7 hQ4) (zR ?_);refine b7 _ (N7 (hM _ c4')) (zR ?_);apply E.b9<;>intro h
   ·rw [f3,f4] at h;rw [zM h] at s3;refine zR ?_;exact ⟨i+1,⟨d8 (by rw [t1,hk1,s1]),d8 (by rw [hk2,s2];rfl),d8 (by rw [t3,hk3,s3]),d8 ni,trivial⟩,⟨zo,cc⟩,zo⟩
   ·rw [f3,f4] at h;rw [zJ h] at s3;refine zR ?_;exact ⟨i+1,⟨d8 (by rw [t1,hk1,s1]),d8 (by rw [hk2,s2];rfl),d8 (by rw [hk3,s3];rfl),d8 ni,trivial⟩,⟨zo,cc⟩,zo⟩
 ·have hil:i=l.length:=by omega
  subst hil;rw [yZ] at *;have c2:=c1.trans hcl;refine zR ?_;apply E.b9<;>intro h
  ·refine zR ?_;exact ⟨F1 (by rw [hap,zM zo];rfl),hE _ c2⟩
  ·rw [zJ zo] at hap;clear h;refine zR ?_;apply E.b9<;>intro h
   ·refine zR ?_;refine b7 _ (N7 (hM _ c2)) (zR ?_);refine o9 (a6k _ a0 a1 _) fun w3 c3=>zR ?_;exact ⟨F1 (by rw [hap,zM zo]),hE _ (c2.trans c3)⟩
   ·rw [zJ zo] at hap;clear h;refine zR ?_;apply E.b9<;>intro h
    ·refine zR ?_;refine b7 _ (N7 (hM _ c2)) (zR ?_);refine o9 (a9L _ a0 a1 _) fun w3 c3=>zR ?_;exact ⟨F1 (by rw [hap,zM zo]),hE _ (c2.trans c3)⟩
    ·rw [zJ zo] at hap;refine zR ?_;refine b7 _ (N7 (hM _ c2)) (zR ?_);refine o9 (V8 _ zo zo _) fun w3 c3=>zR ?_;exact ⟨F1 (by rw [hap]),hE _ (c2.trans c3)⟩
theorem a9P (p:l9) (m:Mv):(Ch.apart p m).length≤2:=by
 unfold Ch.apart;repeat' split
 ·simp
 ·simp [Ch.D2]
 ·simp [Ch.rankT]
 ·exact a2Y _
theorem a6q (p:l9) (m:Mv):(Ch.Y1 p m).length≤1:=by
 unfold Ch.Y1;split<;>simp
theorem a4V (m:Mv):(Ch.Z6 m).length≤2:=by
 unfold Ch.Z6;split
 ·simp
 ·have:=Z7 m.promo;simp;omega
theorem b2d (p:l9) (m:Mv):(Ch.body p m).length≤10:=by
 have h1:=a9P p m;have h2:=a6q p m;have h3:=a4V m;have h4:=a2Y m.to;have h5:=Z7 (Ch.d6 (Ch.sq p m.fr));unfold Ch.body;repeat' split
 all_goals (simp [Ch.D2];try omega)
theorem b80 (p:l9) (m:Mv):(Ch.a28 p m).length≤11:=by
 have h1:=b2d p m;have h2:=a6p p m;unfold Ch.a28;rw [zF];omega
theorem b6j (p:l9) (hI:Ch.D0 p) (hN:Nm p) (m:Mv) (hm:m∈Ch.A1 p) (w:World):Calls G.P 55 #[D3 p,mvV m] w (N2 (m9 (Ch.body p m)) w):=by
 have hmo:=a0E hI hm;have hpc:=hI.pc;have hmo':=hmo;obtain ⟨⟨a0,a1⟩,⟨b0,b1⟩,d0,d1⟩:=hmo';refine zN func55 ?_;refine zG ?_;generalize hW:(w.alloc (.cells (s7 p) 24)).alloc (.cells (S8 m) 36)=W0;have hP:∀ w',Cl W0 w'→w'.heap[w.heap.size]?=some (.cells (s7 p) 24 (0,0)):=fun w' h=>hP2 (hW▸h);have hM:∀ w',Cl W0 w'→w'.heap[(w.alloc (.cells (s7 p) 24)).heap.size]?=some (.cells (S8 m) 36 (0,0)):=fun w' h=>hM2 (hW▸h);have hE:∀ w',Cl W0 w'→Cl w w':=fun w' h=>hE2 (hW▸h);have z:=Cl.refl W0;have hB:Ch.body p m=if Ch.t7 p m=1 then [79,45,79]
  else if Ch.t7 p m=2 then [79,45,79,45,79]
  else if Ch.d6 (Ch.sq p m.fr)=6 then (if Ch.C1 p m then Ch.D2 m.fr++[120] else [])++Ch.sqT m.to++Ch.Z6 m
  else Ch.D7 (Ch.d6 (Ch.sq p m.fr))++Ch.apart p m++Ch.Y1 p m++Ch.sqT m.to:=rfl
 refine zR ?_;refine b7 _ (A3 (hP _ z)) (zR ?_);refine b7 _ (a0f (hM _ z)) (zR ?_);refine o9 (a3a p hpc m hmo _) fun w1 c1=>?_;generalize Ch.t7 p m=ck at *;refine zR ?_;apply E.b9<;>intro h
 ·refine zR ?_;exact ⟨F1 (by rw [hB,zM h];rfl),hE _ c1⟩
 rw [zJ h] at hB;clear h;refine zR ?_;apply E.b9<;>intro h
 ·refine zR ?_;exact ⟨F1 (by rw [hB,zM h];rfl),hE _ c1⟩
 rw [zJ h] at hB;clear h;refine zR ?_;refine b7 _ (N7 (hM _ c1)) (zR ?_);refine zC ?_;refine zR ?_;refine b7 _ (O4 (hP _ c1) _ zo zo) (zR ?_);refine l8 (P3 _ _ (Pc.lo hpc _) (Pc.hi hpc _)) ?_;have hl1:=a9P p m;have hl2:=a6q p m;have hl3:=a4V m;have hl4:=a2Y m.to;have hl5:=Z7 (Ch.d6 (Ch.sq p m.fr));generalize Ch.d6 (Ch.sq p m.fr)=k at *;refine zG ?_;refine Nx.mk (zG ?_);refine C3 (σ:=Unit) [6,20,21,22] 23 (fun _=>[(6,m9 (Ch.Y1 p m))]) (fun _ w'=>Cl W0 w') zk ?_ (fun _ j w2 c2=>?_)
 ·refine zR ?_;refine b7 _ (A3 (hP _ c1)) (zR ?_);refine b7 _ (a0f (hM _ c1)) (zR ?_);refine o9 (a4U p hpc m hmo _) fun w2 c2=>?_;cases ht:Ch.C1 p m
  ·refine zR ?_;exact ⟨(),⟨by unfold Ch.Y1;rw [ht];rfl,trivial⟩,c1.trans c2⟩
  ·refine zR ?_;exact ⟨(),⟨by unfold Ch.Y1;rw [ht];rfl,trivial⟩,c1.trans c2⟩
 refine zR ?_;apply E.b9<;>intro h
 ·rw [zM h] at hB;clear h;refine Cx.mk (C3 (σ:=Unit) [6,25,26,27,28,29,30,31] 32 (fun _=>[(6,m9 (if Ch.C1 p m then Ch.D2 m.fr++[120] else []))]) (fun _ w'=>Cl W0 w') zk ?_ (fun _ j w3 c3=>?_)).go
  ·cases ht:Ch.C1 p m
   ·have:Ch.Y1 p m=[]:=by unfold Ch.Y1;rw [ht];rfl
    rw [this];refine zR ?_;exact ⟨(),⟨rfl,trivial⟩,c2⟩
   ·have:Ch.Y1 p m=[120]:=by unfold Ch.Y1;rw [ht];rfl
    rw [this];refine zR ?_;refine b7 _ (N7 (hM _ c2)) (zR ?_);refine o9 (a6k _ a0 a1 _) fun w3 c3=>zR ?_;exact ⟨(),⟨by show Value.string _=Value.string _;rw [A9];rfl,trivial⟩,c2.trans c3⟩
  have hl6:(if Ch.C1 p m=true then Ch.D2 m.fr++[120] else []).length≤2:=by split<;>simp [Ch.D2]
  generalize (if Ch.C1 p m=true then Ch.D2 m.fr++[120] else [])=T1 at *
  have q2:=fun w=>a44 m w;have q3:=fun w=>V8 m.to zo zo w;generalize Ch.Z6 m=Q2 at *;generalize Ch.sqT m.to=Q3 at *;refine zR ?_;refine zK 9 ?_;refine zR ?_;refine m7 _ (fun w hw=>a0w (hM _ (c3.trans hw))) (zR ?_);refine E2 (m9 Q3) (fun _ _ h=>h.trans) (fun w _=>q3 w) (zR ?_);refine E.A8 (A5 zo) ?_;rw [A9];refine zR ?_;refine m7 _ (fun w hw=>a0f (hM _ (c3.trans hw))) (zR ?_);refine E2 (m9 Q2) (fun _ _ h=>h.trans) (fun w _=>q2 w) (zR ?_);refine E.A8 (A5 (by rw [zF];omega)) ?_
  rw [A9];refine zR ?_;intro w4 c4;refine zR ?_;exact ⟨F1 (by rw [hB]),hE _ (c3.trans c4)⟩
 ·rw [zJ h] at hB;clear h;refine zR ?_;refine zK 13 ?_;have q1:=fun w=>a3A k w;have q2:=fun w=>b3E p hI hN m hm w;have q3:=fun w=>V8 m.to zo zo w;generalize Ch.D7 k=Q1 at *;generalize Ch.apart p m=Q2 at *;generalize Ch.sqT m.to=Q3 at *;generalize Ch.Y1 p m=Q4 at *;refine zR ?_;refine E2 (m9 Q1) (fun _ _ h=>h.trans) (fun w _=>q1 w) (zR ?_);refine m7 _ (fun w hw=>A3 (hP _ (c2.trans hw))) (zR ?_);refine m7 _ (fun w hw=>a0f (hM _ (c2.trans hw))) (zR ?_);refine E2 (m9 Q2) (fun _ _ h=>h.trans) (fun w _=>q2 w) (zR ?_);refine E.A8 (A5 zo) ?_;rw [A9];refine zR ?_;refine E.A8 (A5 (by rw [zF];omega)) ?_
  rw [A9];refine zR ?_;refine m7 _ (fun w hw=>a0w (hM _ (c2.trans hw))) (zR ?_);refine E2 (m9 Q3) (fun _ _ h=>h.trans) (fun w _=>q3 w) (zR ?_);refine E.A8 (A5 (by simp only [zF];omega)) ?_
  rw [A9];refine zR ?_;intro w4 c4;refine zR ?_;exact ⟨F1 (by rw [hB]),hE _ (c2.trans c4)⟩
theorem a9Q (p:l9) (hI:Ch.D0 p) (hN:Nm p) (m:Mv) (hm:m∈Ch.A1 p) (w:World):Calls G.P 56 #[D3 p,mvV m] w (N2 (m9 (Ch.a28 p m)) w):=by
 refine zN func56 ?_;refine zG ?_;generalize hW:(w.alloc (.cells (s7 p) 24)).alloc (.cells (S8 m) 36)=W0;have hP:∀ w',Cl W0 w'→w'.heap[w.heap.size]?=some (.cells (s7 p) 24 (0,0)):=fun w' h=>hP2 (hW▸h);have hM:∀ w',Cl W0 w'→w'.heap[(w.alloc (.cells (s7 p) 24)).heap.size]?=some (.cells (S8 m) 36 (0,0)):=fun w' h=>hM2 (hW▸h);have hE:∀ w',Cl W0 w'→Cl w w':=fun w' h=>hE2 (hW▸h);have z:=Cl.refl W0;have hB:Ch.a28 p m=Ch.body p m++Ch.a1Y p m:=rfl;have h1:=b2d p m;have h2:=a6p p m;have q1:=fun w=>b6j p hI hN m hm w;have q2:=fun w=>a4i p hI hN m hm w;rw [hB];clear hB;generalize Ch.body p m=Q1 at *;generalize Ch.a1Y p m=Q2 at *;refine zR ?_;refine zK 8 ?_;refine zR ?_;refine m7 _ (fun w hw=>A3 (hP _ hw)) (zR ?_);refine m7 _ (fun w hw=>a0f (hM _ hw)) (zR ?_);refine E2 (m9 Q1) (fun _ _ h=>h.trans) (fun w _=>q1 w) (zR ?_);refine m7 _ (fun w hw=>A3 (hP _ hw)) (zR ?_);refine m7 _ (fun w hw=>a0f (hM _ hw)) (zR ?_);refine E2 (m9 Q2) (fun _ _ h=>h.trans) (fun w _=>q2 w) (zR ?_);refine E.A8 (A5 zo) ?_;rw [A9];refine zR ?_;intro w4 c4;refine zR ?_;exact ⟨rfl,hE _ c4⟩
theorem b6k (p:l9) (hI:Ch.D0 p) (hN:Nm p) (m:Mv) (hm:m∈Ch.A1 p) (w:World):Calls G.P 94 #[D3 p,mvV m] w (N2 (m9 (Ch.b1N p m)) w):=by
 have hmo:=a0E hI hm;have hpc:=hI.pc;have hmo':=hmo;obtain ⟨⟨a0,a1⟩,⟨b0,b1⟩,d0,d1⟩:=hmo';refine zN func94 ?_;refine zG ?_;generalize hW:(w.alloc (.cells (s7 p) 24)).alloc (.cells (S8 m) 36)=W0;have hP:∀ w',Cl W0 w'→w'.heap[w.heap.size]?=some (.cells (s7 p) 24 (0,0)):=fun w' h=>hP2 (hW▸h);have hM:∀ w',Cl W0 w'→w'.heap[(w.alloc (.cells (s7 p) 24)).heap.size]?=some (.cells (S8 m) 36 (0,0)):=fun w' h=>hM2 (hW▸h);have hE:∀ w',Cl W0 w'→Cl w w':=fun w' h=>hE2 (hW▸h);have z:=Cl.refl W0;have hB:Ch.b1N p m=if 0<Ch.t7 p m then Ch.a28 p m else Ch.D7 (Ch.d6 (Ch.sq p m.fr))++Ch.sqT m.fr++Ch.Y1 p m++Ch.sqT m.to++Ch.Z6 m++Ch.a1Y p m:=rfl
 refine zR ?_;refine b7 _ (A3 (hP _ z)) (zR ?_);refine b7 _ (a0f (hM _ z)) (zR ?_);refine o9 (a3a p hpc m hmo _) fun w1 c1=>?_;generalize Ch.t7 p m=ck at *;refine zR ?_;apply E.b9<;>intro h
 ·refine zR ?_;refine b7 _ (A3 (hP _ c1)) (zR ?_);refine b7 _ (a0f (hM _ c1)) (zR ?_);refine o9 (a9Q p hI hN m hm _) fun w2 c2=>zR ?_;exact ⟨F1 (by rw [hB,zM h]),hE _ (c1.trans c2)⟩
 rw [zJ h] at hB;clear h;refine zG ?_;refine Nx.mk (zG ?_);refine C3 (σ:=Unit) [5,13,14,15] 16 (fun _=>[(5,m9 (Ch.Y1 p m))]) (fun _ w'=>Cl W0 w') zk ?_ (fun _ j w2 c2=>?_)
 ·refine zR ?_;refine b7 _ (A3 (hP _ c1)) (zR ?_);refine b7 _ (a0f (hM _ c1)) (zR ?_);refine o9 (a4U p hpc m hmo _) fun w2 c2=>?_;cases ht:Ch.C1 p m
  ·refine zR ?_;exact ⟨(),⟨by unfold Ch.Y1;rw [ht];rfl,trivial⟩,c1.trans c2⟩
  ·refine zR ?_;exact ⟨(),⟨by unfold Ch.Y1;rw [ht];rfl,trivial⟩,c1.trans c2⟩
 have hl2:=a6q p m;have hl3:=a4V m;have hl4:=a2Y m.to;have hl5:=Z7 (Ch.d6 (Ch.sq p m.fr));have hl6:=a2Y m.fr;have hl7:=a6p p m;have hkc:=fun w=>P3 (Ch.sq p m.fr) w (Pc.lo hpc _) (Pc.hi hpc _);generalize Ch.d6 (Ch.sq p m.fr)=k at *;have q1:=fun w=>a3A k w;have q2:=fun w=>V8 m.fr zo zo w;have q3:=fun w=>V8 m.to zo zo w;have q4:=fun w=>a44 m w;have q5:=fun w=>a4i p hI hN m hm w;rw [hB];clear hB;generalize Ch.D7 k=Q1 at *;generalize Ch.sqT m.fr=Q2 at *;generalize Ch.sqT m.to=Q3 at *;generalize Ch.Z6 m=Q4 at *;generalize Ch.a1Y p m=Q5 at *;generalize Ch.Y1 p m=Q6 at *;refine zR ?_;refine zK 25 ?_;refine zR ?_;refine m7 _ (fun w hw=>N7 (hM _ (c2.trans hw))) (zR ?_);refine zC ?_;refine zR ?_;refine m7 _ (fun w hw=>O4 (hP _ (c2.trans hw)) _ zo zo) (zR ?_);refine m8 (.int .i64 k) (fun w _=>hkc w) (zR ?_);refine E2 (m9 Q1) (fun _ _ h=>h.trans) (fun w _=>q1 w) (zR ?_);refine m7 _ (fun w hw=>N7 (hM _ (c2.trans hw))) (zR ?_);refine E2 (m9 Q2) (fun _ _ h=>h.trans) (fun w _=>q2 w) (zR ?_);refine E.A8 (A5 zo) ?_;rw [A9];refine zR ?_;refine E.A8 (A5 (by simp only [zF];omega)) ?_
 rw [A9];refine zR ?_;refine m7 _ (fun w hw=>a0w (hM _ (c2.trans hw))) (zR ?_);refine E2 (m9 Q3) (fun _ _ h=>h.trans) (fun w _=>q3 w) (zR ?_);refine E.A8 (A5 (by simp only [zF];omega)) ?_
 rw [A9];refine zR ?_;refine m7 _ (fun w hw=>a0f (hM _ (c2.trans hw))) (zR ?_);refine E2 (m9 Q4) (fun _ _ h=>h.trans) (fun w _=>q4 w) (zR ?_);refine E.A8 (A5 (by simp only [zF];omega)) ?_
 rw [A9];refine zR ?_;refine m7 _ (fun w hw=>A3 (hP _ (c2.trans hw))) (zR ?_);refine m7 _ (fun w hw=>a0f (hM _ (c2.trans hw))) (zR ?_);refine E2 (m9 Q5) (fun _ _ h=>h.trans) (fun w _=>q5 w) (zR ?_);refine E.A8 (A5 (by simp only [zF];omega)) ?_
 rw [A9];refine zR ?_;intro w4 c4;refine zR ?_;exact ⟨rfl,hE _ (c2.trans c4)⟩
theorem b5k (t:Tx):(decide (tx t=(⟨#[42]⟩:ByteArray)))=decide (t=Ch.star):=ya.2 (by rw [J4];exact P8)
theorem a88 (l:List l9) (q:l9) (hl:∀ p∈l,a8n p) (hq:l.getLast?=some q) (hn:l.length≤100000) (hI:Ch.D0 q) (hN:a1A q) (me:Int) (ou:Tx) {b0:Nat} {v:Value} (w:World) (hrow:Row 24 69 V0 b0 w v l) :
  Calls G.P 38 #[v,.int .i64 me,m9 ou] w (N2 (.tuple #[.int .i64 (Ch.C4 l q (me,ou)).1,m9 (Ch.C4 l q (me,ou)).2]) w):=by
 obtain ⟨al,cl,rfl,hal⟩:=hrow.form;have hpos:0<l.length:=by
  cases l with
  | nil=>cases hq
  | cons=>simp
 obtain ⟨g,rfl⟩:=hal hpos;have hlast:l[l.length-1]'zo=q:=by
  rw [List.getLast?_eq_getElem?,ym zo] at hq;exact yi hq
 have hlm:IntKind.i64.wrap ((l.length:Int)-1)=((l.length-1:Nat):Int):=by rw [g9 zo zo];omega
 obtain ⟨zv,hz,hz69⟩:=a9p;have ht:=hI.turn;refine zN func38 ?_;refine zG ?_;refine zR ?_;refine zC ?_;refine zR ?_;refine b7 (D3 q) (a2Q hrow V7 (l.length-1) zo rfl ?_ (by rw [hlast];rfl)) ?_
 ·simp [E.r9,hlm]
 refine zR ?_;refine v8 zv hz (zR ?_);refine K9 (d9 _ _) (V0 q) rfl a0I (A7 _) (one_pos _) (by rw [hz69];omega) (fun w1 u1=>?_)
 have hQ:w1.heap[w.heap.size]?=some (.cells (s7 q) 24 (0,0)):=by
  rw [u1.at_,C6 _ _ (by rw [A7,hz69])];rfl
 have hE:∀ w',Cl w1 w'→Cl w w':=fun w' h=>(u1.cl (Cl.alloc _ _) (yJ _)).trans h;clear u1;have hEn:Ch.C4 l q (me,ou)=if (Ch.A1 q).isEmpty then (if !Ch.o5 q then (4,Ch.drawT) else (1,Ch.a2m q.turn))
  else if ou≠Ch.star then (me,ou)
  else if Ch.a4v q then (9,Ch.drawT) else if 150≤q.half then (8,Ch.drawT) else if 5≤Ch.S2 l q then (6,Ch.drawT) else (me,ou):=rfl
 generalize Ch.C4 l q (me,ou)=R at *;refine zR ?_;refine b7 _ (A3 hQ) (zR ?_);refine o7 (a2V q hI hN _) ?_;rintro r w2 ⟨v2,l2,rfl,hlp,hl2,c2⟩;refine ⟨_,rfl,?_⟩;obtain ⟨al2,cl2,rfl,hal2⟩:=hl2.form;have hlen:=hlp.length_eq;have hQ2:=c2.blk hQ;refine zR ?_;apply E.b9<;>intro h
 ·have hemp:(Ch.A1 q).isEmpty=true:=by rw [a05];exact zX zo
  rw [hemp,zM rfl] at hEn;clear h;refine zR ?_;refine b7 _ (A3 hQ2) (zR ?_);refine o9 (a3Z q hI.pc _ zo zo) fun w3 c23=>?_;have c3:=c2.trans c23;have hQ3:=c23.blk hQ2;generalize Ch.o5 q=b at *;cases b
  ·refine zR ?_;exact ⟨by rw [hEn];rfl,hE _ c3⟩
  have hE0:R=(1,Ch.a2m q.turn):=hEn;refine zR ?_;refine J2.mk2 [1] (.cons 0 (.cons 2 (.cons 3 (.cons 4 (.cons 5 (.cons 6 .done .nil) .nil) (.cons 5 (.cons 4 (.cons 6 .done .nil) .nil) .nil)) (.cons 5 (.cons 3 (.cons 4 (.cons 6 .done .nil) .nil) .nil) .nil)) (.cons 5 (.cons 2 (.cons 3 (.cons 4 (.cons 6 .done .nil) .nil) .nil) .nil) .nil)) (.cons 2 (.cons 0 (.cons 3 (.cons 4 (.cons 5 (.cons 6 .done .nil) .nil) (.cons 5 (.cons 4 (.cons 6 .done .nil) .nil) .nil)) (.cons 5 (.cons 3 (.cons 4 (.cons 6 .done .nil) .nil) .nil) .nil)) (.cons 5 (.cons 0 (.cons 3 (.cons 4 (.cons 6 .done .nil) .nil) .nil) .nil) .nil)) (.cons 5 (.cons 0 (.cons 2 (.cons 3 (.cons 4 (.cons 6 .done .nil) .nil) .nil) .nil) (.cons 2 (.cons 0 (.cons 3 (.cons 4 (.cons 6 .done .nil) .nil) .nil) .nil) .nil)) .nil))) zk ?_;have cd:Cl w3 w3.drew:=Cl.drew (Cl.refl _);have hr:=L4 D1 w3.drew [[48,45,49],[49,45,48]] zd [m9 [48,45,49],m9 [49,45,48]] rfl (e:=9) (z:=1);have c5:=cd.trans (Cl.alloc w3.drew (.cells (([m9 [48,45,49],m9 [49,45,48]]:List Value).flatMap fun v=>v.cells.toList).toArray 9));have hL5:g8 G.P (w3.drew.alloc (.cells (([m9 [48,45,49],m9 [49,45,48]]:List Value).flatMap fun v=>v.cells.toList).toArray 9)) 9 ⟨w3.drew.heap.size,E.J0 0 q.turn.toNat 1,none⟩ (m9 (Ch.a2m q.turn)):=by
   rcases ht with e|e<;>rw [e]
   ·exact O5 hr D1 0 0 zd zd rfl rfl rfl
   ·exact O5 hr D1 1 0 zd zd rfl rfl rfl
  refine zR ?_;refine ⟨?_,?_,?_,trivial⟩
  ·refine zR ?_;refine G2 a2a [m9 [48,45,49],m9 [49,45,48]] (by rw [zb];rfl) (by simp [Value.cells,m9]) rfl zd zd (zR ?_)
   refine ⟨?_,?_,trivial⟩
   ·refine zR ?_;refine b7 _ (E9 (c5.blk hQ3)) (zR ?_);refine ⟨?_,?_,trivial⟩
    ·refine zR ?_;refine zC ?_;refine zR ?_;refine ⟨?_,?_,trivial⟩
     ·refine zR ?_;refine b7 (m9 (Ch.a2m q.turn)) hL5 (zE ?_);refine And.intro (zR ?_) trivial;exact ⟨by rw [hE0];rfl,hE _ (c3.trans c5)⟩
     ·refine zE ?_;refine b7 (m9 (Ch.a2m q.turn)) hL5 (zE ?_);exact ⟨by rw [hE0];rfl,hE _ (c3.trans c5)⟩
    ·refine zE ?_;refine zC ?_;refine zE ?_;refine b7 (m9 (Ch.a2m q.turn)) hL5 (zE ?_);exact ⟨by rw [hE0];rfl,hE _ (c3.trans c5)⟩
   ·refine zE ?_;refine b7 _ (E9 (c5.blk hQ3)) (zE ?_);refine zC ?_;refine zE ?_;refine b7 (m9 (Ch.a2m q.turn)) hL5 (zE ?_);exact ⟨by rw [hE0];rfl,hE _ (c3.trans c5)⟩
  ·refine zR ?_;refine b7 _ (E9 (cd.blk hQ3)) (zR ?_);refine ⟨?_,?_,trivial⟩
   ·refine zR ?_;refine G2 a2a [m9 [48,45,49],m9 [49,45,48]] (by rw [zb];rfl) (by simp [Value.cells,m9]) rfl zd zd (zR ?_)
    refine ⟨?_,?_,trivial⟩
    ·refine zR ?_;refine zC ?_;refine zR ?_;refine ⟨?_,?_,trivial⟩
     ·refine zR ?_;refine b7 (m9 (Ch.a2m q.turn)) hL5 (zE ?_);refine And.intro (zR ?_) trivial;exact ⟨by rw [hE0];rfl,hE _ (c3.trans c5)⟩
     ·refine zE ?_;refine b7 (m9 (Ch.a2m q.turn)) hL5 (zE ?_);exact ⟨by rw [hE0];rfl,hE _ (c3.trans c5)⟩
    ·refine zE ?_;refine zC ?_;refine zE ?_;refine b7 (m9 (Ch.a2m q.turn)) hL5 (zE ?_);exact ⟨by rw [hE0];rfl,hE _ (c3.trans c5)⟩
   ·refine zE ?_;refine G2 a2a [m9 [48,45,49],m9 [49,45,48]] (by rw [zb];rfl) (by simp [Value.cells,m9]) rfl zd zd (zE ?_)
    refine zC ?_;refine zE ?_;refine b7 (m9 (Ch.a2m q.turn)) hL5 (zE ?_);exact ⟨by rw [hE0];rfl,hE _ (c3.trans c5)⟩
  ·refine zR ?_;refine ⟨?_,?_,trivial⟩
   ·refine zR ?_;refine G2 a2a [m9 [48,45,49],m9 [49,45,48]] (by rw [zb];rfl) (by simp [Value.cells,m9]) rfl zd zd (zE ?_)
    refine b7 _ (E9 (c5.blk hQ3)) (zE ?_);refine zC ?_;refine zE ?_;refine b7 (m9 (Ch.a2m q.turn)) hL5 (zE ?_);exact ⟨by rw [hE0];rfl,hE _ (c3.trans c5)⟩
   ·refine zR ?_;refine b7 _ (E9 (cd.blk hQ3)) (zE ?_);refine G2 a2a [m9 [48,45,49],m9 [49,45,48]] (by rw [zb];rfl) (by simp [Value.cells,m9]) rfl zd zd (zE ?_)
    refine zC ?_;refine zE ?_;refine b7 (m9 (Ch.a2m q.turn)) hL5 (zE ?_);exact ⟨by rw [hE0];rfl,hE _ (c3.trans c5)⟩
 have hemp:(Ch.A1 q).isEmpty=false:=by rw [a05];exact zV zo
 rw [hemp,zJ zd] at hEn;clear h;refine zG ?_;refine Nx.mk (zG ?_);refine Nx.mk (zG ?_);simp only [b5k];apply E.y6<;>intro h
 ·rw [zM h] at hEn;refine zR ?_;exact ⟨by rw [hEn];rfl,hE _ c2⟩
 rw [zJ (fun hn=>hn h)] at hEn;clear h;refine zG ?_;refine C3 (σ:=Unit) [1,2,31,32,33] 34 (fun _=>[(1,.int .i64 (if 5≤Ch.S2 l q then 6 else me)),(2,m9 (if 5≤Ch.S2 l q then Ch.drawT else ou))]) (fun _ w'=>Cl w1 w') zk ?_ (fun _ j w3 c3=>?_)
 ·refine zR ?_;refine o9 (c0E l q hl hq hn _ (hrow.step (hE _ c2))) fun w3 c3=>zR ?_;apply E.b9<;>intro h
  ·have h5:5≤Ch.S2 l q:=by omega
   refine zR ?_;exact ⟨(),⟨by rw [zM h5];rfl,by rw [zM h5];rfl,trivial⟩,c2.trans c3⟩
  ·have h5:¬ 5≤Ch.S2 l q:=by omega
   refine zR ?_;exact ⟨(),⟨by rw [zJ h5];rfl,by rw [zJ h5];rfl,trivial⟩,c2.trans c3⟩
 have hQ3:=c3.blk hQ;generalize Ch.S2 l q=n at *;refine C3 (σ:=Unit) [1,2,34,35,36] 37 (fun _=>[(1,.int .i64 (if 150≤q.half then 8 else if 5≤n then 6 else me)),(2,m9 (if 150≤q.half then Ch.drawT else if 5≤n then Ch.drawT else ou))]) (fun _ w'=>Cl w1 w') zk ?_ (fun _ j w4 c4=>?_)
 ·refine zR ?_;refine b7 _ (a7Y hQ3) (zR ?_);apply E.b9<;>intro h
  ·refine zR ?_;exact ⟨(),⟨by rw [zM h];rfl,by rw [zM h];rfl,trivial⟩,c3⟩
  ·refine zR ?_;exact ⟨(),⟨by rw [zJ h];rfl,by rw [zJ h];rfl,trivial⟩,c3⟩
 have hQ4:=c4.blk hQ;refine C3 (σ:=Unit) [1,2,37,38] 39 (fun _=>[(1,.int .i64 R.1),(2,m9 R.2)]) (fun _ w'=>Cl w1 w') zk ?_ (fun _ j w5 c5=>?_)
 ·refine zR ?_;refine b7 _ (A3 hQ4) (zR ?_);refine o9 (c2V q hI.pc _) fun w5 c5=>?_;generalize Ch.a4v q=d at *;cases d
  ·have hE1:R=if 150≤q.half then (8,Ch.drawT) else if 5≤n then (6,Ch.drawT) else (me,ou):=hEn
   have r1:(if 150≤q.half then 8 else if 5≤n then 6 else me)=R.1:=by rw [hE1];split<;>(try split)<;>rfl
   have r2:(if 150≤q.half then Ch.drawT else if 5≤n then Ch.drawT else ou)=R.2:=by rw [hE1];split<;>(try split)<;>rfl
   rw [r1,r2];refine zR ?_;exact ⟨(),⟨rfl,rfl,trivial⟩,c4.trans c5⟩
  ·have hE1:R=(9,Ch.drawT):=hEn;refine zR ?_;exact ⟨(),⟨by rw [hE1];rfl,by rw [hE1];rfl,trivial⟩,c4.trans c5⟩
 refine zR ?_;exact ⟨rfl,hE _ c5⟩
theorem a89 (a b:List Value):∀ (cs:Array Value) (o:Nat),L8 cs o (a++b)=L8 (L8 cs o a) (o+a.length) b:=by
 induction a with
 | nil=>intro cs o;simp [L8]
 | cons v r ih=>intro cs o;simp only [yU,L8,ih,zh];congr 1;omega
theorem b6l:∀ (l:List Value) (cs:Array Value) (off j:Nat),(l.zipIdx j).foldl (fun cs x=>cs.setIfInBounds (off+x.2) x.1) cs=L8 cs (off+j) l:=by
 intro l
 induction l with
 | nil=>intro cs off j;rfl
 | cons v r ih=>intro cs off j;simp only [List.zipIdx_cons,List.foldl_cons,L8];rw [ih];congr 1
theorem b3F (v:Value) (cs:Array Value) (off:Nat):v.cells.zipIdx.foldl (fun cs (c,j)=>cs.setIfInBounds (off+j) c) cs=L8 cs off v.cells.toList:=by
 rw [← Array.foldl_toList,Array.toList_zipIdx];have:=b6l v.cells.toList cs off 0;simpa using this
theorem c3i (place:Nat→Option (Nat×Nat)):∀ (vs:List Value) (k off:Nat) (cs:Array Value),(∀ j (h:j<vs.length),place (k+j)=some (off+((vs.take j).map (·.cells.size)).sum,vs[j].cells.size))→off+(vs.map (·.cells.size)).sum≤cs.size →
  Instr.fill place cs ((vs.zipIdx k).map fun x=>(x.2,x.1))=some (L8 cs off (vs.flatMap fun v=>v.cells.toList)):=by
 intro vs
 induction vs with
 | nil=>intro k off cs _ _;rfl
 | cons v r ih =>
  intro k off cs hp hs;have h0:=hp 0 (by simp)
  simp only [Nat.add_zero,List.take_zero,xb,List.sum_nil,List.getElem_cons_zero] at h0;simp only [yQ,List.sum_cons] at hs;simp only [List.zipIdx_cons,yQ,Instr.fill,h0];rw [zJ (by simp;omega)]
  rw [b3F,ih (k+1) (off+v.cells.size) _ (fun j h=>?_) (by rw [a0a];omega)]
  ·rw [xZ,a89];simp
  ·have:=hp (j+1) (by simpa using h)
   rw [show k+1+j=k+(j+1) by omega,this]
   simp [xX,Nat.add_assoc]
def a59:List Nat→Nat→List (Nat×Nat)
 | [],_=>[]
 | n::r,o=>(o,n)::a59 r (o+n)
theorem b2e:∀ (l:List Nat) (o j:Nat) (h:j<l.length),(a59 l o)[j]?=some (o+(l.take j).sum,l[j]):=by
 intro l
 induction l with
 | nil=>intro o j h;simp at h
 | cons n r ih =>
  intro o j h;cases j with
  | zero=>simp [a59]
  | succ j=>simp only [a59,List.getElem?_cons_succ,ih (o+n) j (by simpa using h),xX,List.sum_cons,List.getElem_cons_succ];congr 2;omega
noncomputable def b81 (t:Nat) (sizes:List Nat):Bool :=
 match G.P.info? t,G.P.underlying t with
 | some it,some (.struct fields)=>match it.zero with
  | some z=>Nat.beq z.cells.size sizes.sum&&decide (fields.toList.mapM (fun f=>(G.P.info? f.type).map fun i=>(f.offset,i.size))=some (a59 sizes 0))
  | none=>false
 | _,_=>false
theorem b82 {t:Nat} {sizes:List Nat} (h:b81 t sizes=true) (vs:List Value) (hv:vs.map (·.cells.size)=sizes) :
  G.P.built t ((vs.zipIdx 0).map fun x=>(x.2,x.1))=some (vs.flatMap fun v=>v.cells.toList).toArray:=by
 unfold b81 at h;split at h
 ·rename_i it fields hi hu;split at h
  ·rename_i z hz;simp only [zP,zW] at h;obtain ⟨h1,h2⟩:=h;have h1:=zu h1;unfold Program.built;simp only [hi,hu,hz,h2];rw [c3i _ vs 0 0 _ (fun j hj=>?_) (by rw [hv,h1];omega)]
   ·rw [C6];rw [List.length_flatMap,h1,← hv];congr 1
   ·have:=b2e sizes 0 j (by rw [← hv];simpa using hj)
    simp only [List.getElem?_toArray,yW] at this ⊢;rw [this];subst hv;simp [List.map_take]
  ·cases h
 ·cases h
def stL (s:Ch.U3):List Value:=[.int .i64 s.mv.fr,.int .i64 s.mv.to,.int .i64 s.mv.promo,.int .i64 s.tags,m9 s.san,m9 s.lan,m9 s.uci,m9 s.fen,m9 s.xfen]++(V0 s.pos++[m9 s.outcome,.int .i64 s.method,.int .i64 s.status])
theorem a1g (s:Ch.U3):(stL s).length=81:=by simp [stL,V7]
def stV (s:Ch.U3):Value:=.agg (stL s).toArray
theorem c0S:F0 28 39 81 696:=T7 zk
theorem c0T (s:Ch.U3):G.P.built 39 (([mvV s.mv,.int .i64 s.tags,m9 s.san,m9 s.lan,m9 s.uci,m9 s.fen,m9 s.xfen,D3 s.pos,m9 s.outcome,.int .i64 s.method,.int .i64 s.status].zipIdx 0).map fun x=>(x.2,x.1))=some (stL s).toArray:=by
 rw [b82 (sizes:=[3,1,1,1,1,1,1,69,1,1,1]) zk]
 ·congr 1
 ·simp [mvV,S8,D3,A0,Value.cells,m9]
theorem c5G:(G.P.info? 39).map (·.size)=some 81:=by kernel_rfl
theorem zSt:∃ z,(G.P.info? 39).bind (·.zero)=some z∧z.cells.size=81:=a0C zk
theorem b3G (s:Ch.U3):∀ v∈stL s,v.oneCell'=true:=by
 intro v hv;simp only [stL,zr,yS,zy,yy] at hv;rcases hv with (rfl|rfl|rfl|rfl|rfl|rfl|rfl|rfl|rfl)|h|rfl|rfl|rfl
 ·rfl
 ·rfl
 ·rfl
 ·rfl
 ·rfl
 ·rfl
 ·rfl
 ·rfl
 ·rfl
 ·exact one_pos _ _ h
 ·rfl
 ·rfl
 ·rfl
def Cmp (t:Nat) (x y:Value) (b:Bool):Prop :=
 ∀ w,(binOp .eql t x y).run G.P w = .ok (.bool b) w∧(binOp .neq t x y).run G.P w = .ok (.bool (!b)) w∧∀ op a v,(eqGuard op t a (.const v) x y).run G.P w = .ok () w
section gens
variable {t:Nat} {x y:Operand} {v:Value} {b:Bool} {dst:Option Nat} {yt ty:Nat} {pos:String} {af:Array Edge} {gd:Option (Nat×Bool)} {env:C8}
theorem c0U {w:World} (hc:Cmp t (ev env x) v b):(execOp (ev env) { dst,op:=.binOp .eql t x (.const v) yt,type:=ty,pos,after:=af,guard:=gd }).run G.P w = .ok (.value (.bool b)) w:=by
 show (do pure (Next.value (← (do eqGuard .eql t x (.const v) (ev env x) v;binOp .eql t (ev env x) v))):Sem Next).run G.P w=_
 rw [yj,yj,(hc w).2.2,yp,(hc w).1];rfl
theorem c0V {w:World} (hc:Cmp t (ev env x) v b):(execOp (ev env) { dst,op:=.binOp .neq t x (.const v) yt,type:=ty,pos,after:=af,guard:=gd }).run G.P w = .ok (.value (.bool (!b))) w:=by
 show (do pure (Next.value (← (do eqGuard .neq t x (.const v) (ev env x) v;binOp .neq t (ev env x) v))):Sem Next).run G.P w=_
 rw [yj,yj,(hc w).2.2,yp,(hc w).2.1];rfl
theorem Y7 {w:World} {K:Value→World→Prop} (b:Bool) (hc:Cmp t (ev env x) v b) (h:K (.bool b) w):H4 G.P { dst,op:=.binOp .eql t x (.const v) yt,type:=ty,pos,after:=af,guard:=gd } env w K:=⟨.inl ⟨_,w,c0U hc,h⟩⟩
theorem H6 {w:World} {K:Value→World→Prop} (b:Bool) (hc:Cmp t (ev env x) v b) (h:K (.bool (!b)) w):H4 G.P { dst,op:=.binOp .neq t x (.const v) yt,type:=ty,pos,after:=af,guard:=gd } env w K:=⟨.inl ⟨_,w,c0V hc,h⟩⟩
end gens
theorem b5l {t:Nat} (h:U5 G.T t=some .pointer):∃ e,G.P.underlying t=some (.pointer e):=by
 have:=G.tab _ _ h;simp only [okD] at this;split at this
 ·rename_i e he;exact ⟨e,he⟩
 ·cases this
theorem b6m {t:Nat} (h:U5 G.T t=some .iface):∃ e,G.P.underlying t=some (.interface e):=by
 have:=G.tab _ _ h;simp only [okD] at this;split at this
 ·rename_i e he;exact ⟨e,he⟩
 ·cases this
theorem a8A {t:Nat} {x y:Value} {b:Bool} (h:∀ d w,(Op.equalIn (d+1) t x y).run G.P w = .ok b w) (h1:∀ w,(binOp .eql t x y).run G.P w=((Op.equal t x y).run G.P w).andThen fun r w=>.ok (.bool r) w) (h2:∀ w,(binOp .neq t x y).run G.P w=((Op.equal t x y).run G.P w).andThen fun r w=>.ok (.bool (!r)) w)
  (h3:∀ op a v w,(eqGuard op t a (.const v) x y).run G.P w = .ok () w):Cmp t x y b:=fun w =>
 ⟨by rw [h1,Op.equal,show Op.maxDepth=9999+1 from rfl,h];rfl,by rw [h2,Op.equal,show Op.maxDepth=9999+1 from rfl,h];rfl,fun op a v=>h3 op a v w⟩
theorem c0W {op:BinOp} {t:Nat} {a:Operand} {v:Value} {p q:Option Addr} (w:World):(eqGuard op t a (.const v) (.pointer p) (.pointer q)).run G.P w = .ok () w:=by unfold eqGuard;cases op<;>rfl
theorem c0X {op:BinOp} {t:Nat} {a:Operand} {v:Value} {p q:Option Addr} {n m c d:Nat} (w:World):(eqGuard op t a (.const v) (.slice p n c) (.slice q m d)).run G.P w = .ok () w:=by unfold eqGuard;cases op<;>rfl
theorem N6 {t:Nat} (ht:U5 G.T t=some .pointer) (p:Option Addr):Cmp t (.pointer p) (.pointer none) p.isNone:=by
 obtain ⟨e,he⟩:=b5l ht;refine a8A (fun d w=>?_) (fun w=>by simp [binOp]) (fun w=>by simp [binOp]) (fun op a v w=>c0W w)
 cases p<;>simp [Op.equalIn,run_underlying he]
theorem a6r {t el z:Nat} (ht:U5 G.T t=some (.slice el z)) (p:Option Addr) (n c:Nat):Cmp t (.slice p n c) (.slice none 0 0) p.isNone:=by
 obtain ⟨he,_⟩:=a3S (G.tab _ _ ht);refine a8A (fun d w=>?_) (fun w=>by simp [binOp]) (fun w=>by simp [binOp]) (fun op a v w=>c0X w)
 cases p<;>simp [Op.equalIn,run_underlying he]
theorem G7 {t:Nat} (ht:U5 G.T t=some .iface):Cmp t .nilIface .nilIface true:=by
 obtain ⟨e,he⟩:=b6m ht;refine a8A (fun d w=>?_) (fun w=>by simp [binOp]) (fun w=>by simp [binOp]) (fun op a v w=>by unfold eqGuard;cases op<;>simp)
 simp [Op.equalIn,run_underlying he]
structure Tn (b:Nat) (w w':World):Prop where
 os:w'.os=w.os
 tape:w'.tape=w.tape
 output:w'.output=w.output
 size:w.heap.size≤w'.heap.size
 else_:∀ k,k<w.heap.size→k≠b→w'.heap[k]?=w.heap[k]?
theorem Tn.refl (b:Nat) (w:World):Tn b w w:=⟨rfl,rfl,rfl,yJ _,fun _ _ _=>rfl⟩
theorem Tn.trans {b:Nat} {w w1 w2:World} (h:Tn b w w1) (h':Tn b w1 w2):Tn b w w2 :=
 ⟨h'.os.trans h.os,h'.tape.trans h.tape,h'.output.trans h.output,zw h.size h'.size,fun k hk hne=>(h'.else_ k (xV hk h.size) hne).trans (h.else_ k hk hne)⟩
theorem Tn.cl {b:Nat} {w w':World} (h:Cl w w'):Tn b w w':=⟨h.os,h.tape,h.output,h.size,fun k hk _=>h.block k hk⟩
theorem Tn.upd {b:Nat} {o:Obj} {w w':World} (h:Upd w b o w'):Tn b w w':=⟨h.os,h.tape,h.output,by rw [h.size];exact yJ _,fun k _ hne=>h.else_ k hne⟩
theorem Tn.blk {b:Nat} {w w':World} (h:Tn b w w') {k:Nat} {o:Obj} (hk:w.heap[k]?=some o) (hne:k≠b):w'.heap[k]?=some o:=by
 rw [h.else_ k (yh.1 hk).1 hne,hk]
theorem Tn.toCl {b:Nat} {w0 w w':World} (h:Tn b w w') (hc:Cl w0 w) (hb:w0.heap.size≤b):Cl w0 w' :=
 Below.trans hc ⟨h.os,h.tape,h.output,h.size,fun k hk=>h.else_ k (xV hk hc.size) zo⟩
theorem a06.tn {w w':World} {g n b:Nat} {f:Nat→Value} {cs:Array Value} {u:Nat} {fz:Nat×Nat} (h:a06 w g n f) (hc:Tn b w w') (hb:w.heap[b]?=some (.cells cs u fz)) (hu:a2o u=false):a06 w' g n f:=by
 obtain ⟨cs,t,fz,h1,h2,h3⟩:=h;refine ⟨cs,t,fz,hc.blk h1 (fun e=>?_),h2,h3⟩;subst e;rw [hb] at h1;injection h1 with h1;injection h1 with _ h1 _;rw [← h1,hu] at h2;cases h2
theorem a7l.tn {w w':World} {g o n b:Nat} {f:Nat→Value} {cs:Array Value} {u:Nat} {fz:Nat×Nat} (h:a7l w g o n f) (hc:Tn b w w') (hb:w.heap[b]?=some (.cells cs u fz)) (hu:a2o u=false):a7l w' g o n f:=by
 obtain ⟨cs,t,fz,h1,h2,h3⟩:=h;refine ⟨cs,t,fz,hc.blk h1 (fun e=>?_),h2,h3⟩;subst e;rw [hb] at h1;injection h1 with h1;injection h1 with _ h1 _;rw [← h1,hu] at h2;cases h2
theorem a7m.tn {w w':World} {g n b:Nat} {f:Nat→Value} {cs:Array Value} {u:Nat} {fz:Nat×Nat} (h:a7m w g n f) (hc:Tn b w w') (hb:w.heap[b]?=some (.cells cs u fz)) (hu:a2o u=false):a7m w' g n f:=by
 obtain ⟨k,o,c,h1,h2⟩:=h;exact ⟨k,o,c,h1.tn hc hb hu,h2.tn hc hb hu⟩
theorem D5.tn {w w':World} {b:Nat} {cs:Array Value} {u:Nat} {fz:Nat×Nat} (h:D5 w) (hc:Tn b w w') (hb:w.heap[b]?=some (.cells cs u fz)) (hu:a2o u=false):D5 w' :=
 ⟨h.dia.tn hc hb hu,h.anti.tn hc hb hu,h.ranks.tn hc hb hu,h.files.tn hc hb hu,h.kn.tn hc hb hu,h.kg.tn hc hb hu,h.all.tn hc hb hu,h.promo.tn hc hb hu,h.wfen.tn hc hb hu,h.bfen.tn hc hb hu,h.fen.tn hc hb hu,h.emp.imp fun _ e=>e.tn hc hb hu⟩
theorem c5H:(G.P.info? 235).map (·.size)=some 1:=by kernel_rfl
theorem c0Y:(G.P.info? 138).map (·.size)=some 1:=by kernel_rfl
theorem c2v:(G.P.info? 136).map (·.size)=some 1:=by kernel_rfl
theorem a1h (k:IntKind) (n:Int):∀ u∈[Value.int k n],u.oneCell'=true:=by intro u hu;simp at hu;subst hu;rfl
theorem a6s {w:World} {B:MB} {b u:Nat} {K:World→Prop} (hB:w.heap[b]?=some (.cells (H3 B) u (0,0))) (i:Nat) (hi:i<15) (v:Nat) (h:∀ w',Upd w b (.cells (H3 (B.set i v)) u (0,0)) w'→K w'):a0i G.P w 235 ⟨b,i,none⟩ (.int .u64 v) K :=
 K9 hB [.int .u64 v] rfl c5H rfl (a1h _ _) (by rw [a2A];omega) (fun w2 u2=>h w2 (by rw [c0G _ _ _ hi] at u2;exact u2))
theorem c3j {w:World} {B:MB} {b u:Nat} {K:World→Prop} (hB:w.heap[b]?=some (.cells (H3 B) u (0,0))) (x:Int) (h:∀ w',Upd w b (.cells (H3 { B with wk:=x }) u (0,0)) w'→K w'):a0i G.P w 138 ⟨b,15,none⟩ (.int .i8 x) K :=
 K9 hB [.int .i8 x] rfl c0Y rfl (a1h _ _) (by rw [a2A];decide) (fun w2 u2=>h w2 u2)
theorem c3k {w:World} {B:MB} {b u:Nat} {K:World→Prop} (hB:w.heap[b]?=some (.cells (H3 B) u (0,0))) (x:Int) (h:∀ w',Upd w b (.cells (H3 { B with bk:=x }) u (0,0)) w'→K w'):a0i G.P w 138 ⟨b,16,none⟩ (.int .i8 x) K :=
 K9 hB [.int .i8 x] rfl c0Y rfl (a1h _ _) (by rw [a2A];decide) (fun w2 u2=>h w2 u2)
theorem a5A (B:MB) (b:Nat) {t:Nat} (x:Int) (h0:1≤x) (h1:x≤12) (v:Nat) (w:World) (hb:w.heap[b]?=some (.cells (H3 B) t (0,0))) :
  Calls G.P 276 #[.pointer (some ⟨b,0,none⟩),.int .i8 x,.int .u64 v] w (fun r w'=>r = .returned (.tuple #[])∧Upd w b (.cells (H3 (B.set (x.toNat-1) v)) t (0,0)) w'):=by
 refine zN func276 ?_;have hx:x=1∨x=2∨x=3∨x=4∨x=5∨x=6∨x=7∨x=8∨x=9∨x=10∨x=11∨x=12:=by omega
 rcases hx with rfl|rfl|rfl|rfl|rfl|rfl|rfl|rfl|rfl|rfl|rfl|rfl;all_goals
  refine zR ?_;refine a6s hb _ zd v (fun w2 u2=>zR ?_);exact ⟨rfl,u2⟩
theorem a6U (B:MB) (b:Nat) {t:Nat} {fz:Nat×Nat} (w:World) (hB:w.heap[b]?=some (.cells (H3 B) t fz)) :
  Calls G.P 255 #[.pointer (some ⟨b,0,none⟩)] w (fun r w'=>∃ b',r = .returned (.pointer (some ⟨b',0,none⟩))∧w.heap.size≤b'∧w'.heap[b']?=some (.cells (H3 B) 237 (0,0))∧Cl w w'):=by
 refine zN func255 ?_;refine zR ?_;refine zK 68 ?_;refine zQ ?_;intro w4 c4;refine zR ?_;refine y7 (H3 B) zk (zR ?_);exact ⟨_,rfl,c4.size,d9 _ _,c4.trans (Cl.alloc _ _)⟩
structure c6f (w:World) (P b:Nat) (h:Hd) (B:MB):Prop where
 hd:∃ cv,w.heap[P]?=some (.cells (hdA b h cv) 173 (0,0))
 bd:w.heap[b]?=some (.cells (H3 B) 237 (0,0))
theorem b6n {P b t u:Nat} {h:Hd} {cv:Value} {fz fy:Nat×Nat} {B:MB} (w:World) (hP:w.heap[P]?=some (.cells (hdA b h cv) t fz)) (hB:w.heap[b]?=some (.cells (H3 B) u fy)) :
  Calls G.P 286 #[.pointer (some ⟨P,0,none⟩)] w (fun r w'=>∃ P' b',r = .returned (.pointer (some ⟨P',0,none⟩))∧w.heap.size≤P'∧w.heap.size≤b'∧b'<P' ∧
   w'.heap[P']?=some (.cells (hdA b' h (.slice none 0 0)) 173 (0,0))∧w'.heap[b']?=some (.cells (H3 B) 237 (0,0))∧Cl w w'):=by
 refine zN func286 ?_;refine zR ?_;refine J2.mk3 (Cl w) [0,1,2,3,5,6,7,8,9,10,11,12,13,14,15,16,17,18,19,20,21,22,23,24,25,26,27,28] (.cons 4 (.cons 29 (.cons 30 (.cons 31 .done .nil) .nil) .nil) .nil) (Cl.drew (Cl.refl _)) zk (zR ?_);refine m7 _ (fun w hw=>a8v (hw.blk hP)) (zR ?_);refine m7 _ (fun w hw=>a7C (hw.blk hP)) (zR ?_);refine m7 _ (fun w hw=>a8w (hw.blk hP)) (zR ?_);refine m7 _ (fun w hw=>b1V (hw.blk hP)) (zR ?_);refine m7 _ (fun w hw=>a7B (hw.blk hP)) (zR ?_);refine m7 _ (fun w hw=>b0M (hw.blk hP)) (zR ?_);refine m7 _ (fun w hw=>b37 (hw.blk hP)) (zE ?_);have cd:Cl w w.drew:=Cl.drew (Cl.refl _);refine o7 (a6U B b _ (cd.blk hB)) ?_;rintro r w1 ⟨b',rfl,hb',hB',c1⟩;refine ⟨_,rfl,?_⟩;have c1':=cd.trans c1;refine zR ?_;refine And.intro c1' (zE ?_);refine y7 (hdA b' h (.slice none 0 0)) zk (zR ?_);refine And.intro c1' (zE ?_);have c2:=c1'.trans (Cl.alloc w1 (.cells (hdA b' h (.slice none 0 0)) 173));refine And.intro c2 (zE ?_);refine And.intro c2 (zR ?_);exact ⟨_,_,rfl,c1'.size,zw cd.size hb',(yh.1 hB').1,d9 _ _,(Cl.alloc _ _).blk hB',c2⟩
theorem c4D {a b:Nat} {K:Int→Prop} (ha:a<65536) (hb:b<65536) (h:K ((a ||| b:Nat):Int)):∀ r:Int,r=a02 .or .u16 a b→K r:=by
 intro r hr;have e1:(BitVec.ofInt 16 (a:Int)).toNat=a:=by rw [BitVec.ofInt_natCast,BitVec.toNat_ofNat,xq ha]
 have e2:(BitVec.ofInt 16 (b:Int)).toNat=b:=by rw [BitVec.ofInt_natCast,BitVec.toNat_ofNat,xq hb]
 have e:a02 .or .u16 a b=((a ||| b:Nat):Int):=by
  show IntKind.u16.wrap ((BitVec.ofInt 16 (a:Int) ||| BitVec.ofInt 16 (b:Int)).toNat:Int)=_
  rw [BitVec.toNat_or,e1,e2];have:=yq (n:=16) ha hb;simp [IntKind.wrap,IntKind.bits,IntKind.signed];omega
 rw [hr,e];exact h
theorem c3l {a b:Nat} {K:Int→Prop} (ha:a<65536) (hb:b<65536) (h:K ((a &&& b:Nat):Int)):∀ r:Int,r=a02 .and .u16 a b→K r:=by
 intro r hr;have e1:(BitVec.ofInt 16 (a:Int)).toNat=a:=by rw [BitVec.ofInt_natCast,BitVec.toNat_ofNat,xq ha]
 have e2:(BitVec.ofInt 16 (b:Int)).toNat=b:=by rw [BitVec.ofInt_natCast,BitVec.toNat_ofNat,xq hb]
 have e:a02 .and .u16 a b=((a &&& b:Nat):Int):=by
  show IntKind.u16.wrap ((BitVec.ofInt 16 (a:Int) &&& BitVec.ofInt 16 (b:Int)).toNat:Int)=_;rw [BitVec.toNat_and,e1,e2];have:=yn (n:=16) a hb;simp [IntKind.wrap,IntKind.bits,IntKind.signed];omega
 rw [hr,e];exact h
theorem b5m (n k:Nat):2^k &&& n=if n.testBit k then 2^k else 0:=by
 apply Nat.eq_of_testBit_eq;intro i;rw [zq,x8];by_cases e:k=i
 ·subst e;cases h:n.testBit k<;>simp [x8]
 ·cases h:n.testBit k<;>simp [e,x8]
theorem a1H {M t k:Nat} {d:Nd} {fz:Nat×Nat} (hk:k<16) (hd:d.tags<65536) (w:World) (hM:w.heap[M]?=some (.cells (E8 d) t fz)) :
  Calls G.P 147 #[.pointer (some ⟨M,0,none⟩),.int .u16 ((2^k:Nat):Int)] w (E5 (.bool (d.tags.testBit k)) w):=by
 have hp:2^k<65536:=Nat.pow_lt_pow_right (n:=16) zd hk;have ha:=b5m d.tags k;have hpos:0<2^k:=Nat.two_pow_pos k;generalize 2^k=T at *;refine zN func147 ?_;refine zR ?_;refine b7 _ (b5a hM) (zR ?_);refine c3l hp hd (zR ?_);refine ⟨o8 ?_,rfl⟩;rw [ha];cases h:d.tags.testBit k
 ·rfl
 ·simpa using hpos
theorem Y3 {M t tag:Nat} {d:Nd} (hd:d.tags<65536) (ht:tag<65536) (w:World) (hM:w.heap[M]?=some (.cells (E8 d) t (0,0))) :
  Calls G.P 254 #[.pointer (some ⟨M,0,none⟩),.int .u16 tag] w (fun r w'=>r = .returned (.tuple #[])∧Upd w M (.cells (E8 { d with tags:=d.tags ||| tag }) t (0,0)) w'):=by
 refine zN func254 ?_;refine zR ?_;refine b7 _ (b5a hM) (zR ?_);refine c4D hd ht (zR ?_);refine K9 hM [.int .u16 ((d.tags ||| tag:Nat):Int)] rfl c2v rfl (a1h _ _) (zU rfl) (fun w2 u2=>zR ?_)
 exact ⟨rfl,u2⟩
theorem b0P {B:MB} [hO:B.Ok] {b t:Nat} {fz:Nat×Nat} (s:Nat) (hs:s<64) (w:World) (hB:w.heap[b]?=some (.cells (H3 B) t fz)) :
  Calls G.P 285 #[.pointer (some ⟨b,0,none⟩),.int .i8 s] w (E5 (.bool (!(B.f 14).testBit (63-s))) w):=by
 have c1:=fun w=>a1F (B.f 14) s hs w;refine zN func285 ?_;refine zR ?_;refine b7 _ (X0 hB _ zd) (zR ?_);refine l8 (c1 _) (zR ?_);exact ⟨rfl,rfl⟩
instance whites_ok {B:MB} [hO:B.Ok]:G9 B.whites:=by unfold MB.whites;infer_instance
instance blacks_ok {B:MB} [hO:B.Ok]:G9 B.blacks:=by unfold MB.blacks;infer_instance
instance sums_ok {B:MB} [hO:B.Ok]:B.sums.Ok:=by unfold MB.sums;infer_instance
theorem c3m {B:MB} [hO:B.Ok] {b M t:Nat} {d:Nd} {fz:Nat×Nat} (hne:M≠b) (w:World) (hB:w.heap[b]?=some (.cells (H3 B) 237 (0,0))) (hM:w.heap[M]?=some (.cells (E8 d) t fz)) :
  Calls G.P 277 #[.pointer (some ⟨b,0,none⟩),.pointer (some ⟨M,0,none⟩)] w (fun r w'=>r = .returned (.tuple #[])∧w'.heap[b]?=some (.cells (H3 (B.sums.kings d.mv.fr d.mv.to)) 237 (0,0))∧Tn b w w'):=by
 have eW:B.whites=B.f 0 ||| B.f 1 ||| B.f 2 ||| B.f 3 ||| B.f 4 ||| B.f 5:=rfl
 have eK:B.blacks=B.f 6 ||| B.f 7 ||| B.f 8 ||| B.f 9 ||| B.f 10 ||| B.f 11:=rfl
 have lW:G9 B.whites:=inferInstance;have lK:G9 B.blacks:=inferInstance;have eS:B.sums=((B.set 12 B.whites).set 13 B.blacks).set 14 (Bb.not (B.whites ||| B.blacks)):=rfl
 rw [eS];refine zN func277 ?_;refine zR ?_;refine zK 30 ?_;refine zQ ?_;intro w1 c1;have hB1:=c1.blk hB;have hM1:=c1.blk hM;refine zR ?_;refine zK 30 ?_;clear hB;have hB:=hB1;refine zQ ?_;intro w2 c2;have hB2:=c2.blk hB1;have hM2:=c2.blk hM1;have n2:Tn b w w2:=Tn.cl (c1.trans c2);clear hB hB1 hM hM1 c1 c2;rw [← eW,← eK];have eU:B.whites ||| B.blacks=B.whites ||| B.blacks:=rfl
 generalize B.whites=W at *;generalize B.blacks=K at *;have hB:=hB2;have hM:=hM2;refine zB ?_;refine a6s hB 12 zd _ (fun w3 u3=>?_);have n3:=n2.trans (Tn.upd u3);have hB:=u3.at_;have hM:=(Tn.upd u3).blk hM2 hne;refine zB ?_;refine a6s hB 13 zd _ (fun w4 u4=>?_);have n4:=n3.trans (Tn.upd u4);have hM:=(Tn.upd u4).blk hM hne;have hB:=u4.at_;refine zB ?_;refine a6s hB 14 zd _ (fun w5 u5=>?_);have n5:=n4.trans (Tn.upd u5);have hM:=(Tn.upd u5).blk hM hne;have hB:=u5.at_;generalize ((B.set 12 W).set 13 K).set 14 (Bb.not (W ||| K))=S at *
 clear u3 u4 u5 n3 n4 n2 hM2 hB2;refine zB ?_;refine Y7 false (N6 rfl _) (zR ?_);refine zK 10 ?_;refine zQ ?_;intro w6 c6;have hB:=c6.blk hB;have hM:=c6.blk hM;have n6:=n5.trans (Tn.cl c6);refine zR ?_;apply E.b9<;>intro h
 ·refine zB ?_;refine c3j hB _ (fun w7 u7=>zR ?_);refine ⟨rfl,?_,n6.trans (Tn.upd u7)⟩;rw [u7.at_];unfold MB.kings;rw [zM h]
 ·have h1:=h;clear h;refine zR ?_;refine zK 10 ?_;refine zQ ?_;intro w7 c7;have hB:=c7.blk hB;have hM:=c7.blk hM;have n7:=n6.trans (Tn.cl c7);refine zR ?_;apply E.b9<;>intro h
  ·refine zB ?_;refine c3k hB _ (fun w8 u8=>zR ?_);refine ⟨rfl,?_,n7.trans (Tn.upd u8)⟩;rw [u8.at_];unfold MB.kings;rw [zJ h1,zM h]
  ·refine zR ?_;refine ⟨rfl,?_,n7⟩;rw [hB];unfold MB.kings;rw [zJ h1,zJ h]
instance m1_ok {B:MB} [hO:B.Ok] {f t n:Nat}:(B.m1 f t n).Ok:=⟨fun i=>by
 show (if i<n then (if (B.f i).testBit (63-f) then ((B.f i &&& Bb.not (Bb.D6 t)) &&& Bb.not (Bb.D6 f)) ||| Bb.D6 t else B.f i &&& Bb.not (Bb.D6 t)) else B.f i)<_
 split
 ·split
  ·exact G9.of
  ·exact G9.of
 ·exact G9.of⟩
instance m2_ok {B:MB} [hO:B.Ok] {x y:Int} {t:Nat}:(B.m2 x y t).Ok:=by unfold MB.m2;infer_instance
instance m3_ok {B:MB} [hO:B.Ok] {c:Int} {t:Nat}:(B.m3 c t).Ok:=by unfold MB.m3;split<;>infer_instance
instance m4_ok {B:MB} [hO:B.Ok] {c:Int} {a b:Bool}:(B.m4 c a b).Ok:=by unfold MB.m4;(repeat' split)<;>infer_instance
theorem b83 {B:MB} [hO:B.Ok] {a b:Int}:(B.kings a b).Ok:=⟨fun i=>by unfold MB.kings;(repeat' split)<;>exact hO.lt i⟩
theorem c0Z (B:MB) (f t:Nat):B.m1 f t 0=B:=a6o (fun i=>by unfold MB.m1;simp) rfl rfl
theorem c4E (B:MB) (f t i:Nat):(B.m1 f t i).f i=B.f i:=by unfold MB.m1;simp
theorem c4F (B:MB) (f t i:Nat) (h:(B.f i).testBit (63-f)=false):(B.m1 f t i).set i (B.f i &&& Bb.not (Bb.D6 t))=B.m1 f t (i+1):=a6o (fun j=>by
 rw [a3h];unfold MB.m1;simp only
 by_cases e:j=i
 ·subst e;rw [zM rfl,zM zo,h];simp
 ·rw [zJ e];by_cases e2:j<i
  ·rw [zM e2,zM (show j<i+1 by omega)]
  ·rw [zJ e2,zJ (show ¬ j<i+1 by omega)]) rfl rfl
theorem c3n (B:MB) (f t i:Nat) (h:(B.f i).testBit (63-f)=true):((B.m1 f t i).set i (B.f i &&& Bb.not (Bb.D6 t))).set i (((B.f i &&& Bb.not (Bb.D6 t)) &&& Bb.not (Bb.D6 f)) ||| Bb.D6 t)=B.m1 f t (i+1):=a6o (fun j=>by
 rw [a3h,a3h];unfold MB.m1;simp only
 by_cases e:j=i
 ·subst e;rw [zM rfl,zM zo,h];simp
 ·rw [zJ e,zJ e];by_cases e2:j<i
  ·rw [zM e2,zM (show j<i+1 by omega)]
  ·rw [zJ e2,zJ (show ¬ j<i+1 by omega)]) rfl rfl
structure UpI (w0:World) (b M:Nat) (t:Nat) (fz:Nat×Nat) (d:Nd) (B:MB) (w:World):Prop where
 bd:w.heap[b]?=some (.cells (H3 B) 237 (0,0))
 nd:w.heap[M]?=some (.cells (E8 d) t fz)
 tn:Tn b w0 w
 tab:D5 w
theorem UpI.upd {w0 w w':World} {b M t:Nat} {fz:Nat×Nat} {d:Nd} {B B':MB} (h:UpI w0 b M t fz d B w) (hne:M≠b) (u:Upd w b (.cells (H3 B') 237 (0,0)) w'):UpI w0 b M t fz d B' w' :=
 ⟨u.at_,(Tn.upd u).blk h.nd hne,h.tn.trans (Tn.upd u),h.tab.tn (Tn.upd u) h.bd rfl⟩
theorem UpI.cl {w0 w w':World} {b M t:Nat} {fz:Nat×Nat} {d:Nd} {B:MB} (h:UpI w0 b M t fz d B w) (c:Cl w w'):UpI w0 b M t fz d B w' :=
 ⟨c.blk h.bd,c.blk h.nd,h.tn.trans (Tn.cl c),h.tab.cl c⟩
theorem b2f {B:MB} [hO:B.Ok] {b M t:Nat} {d:Nd} {fz:Nat×Nat} (f0:0≤d.mv.fr) (f1:d.mv.fr≤63) (t0:0≤d.mv.to) (t1:d.mv.to≤63) (hd:d.tags<65536)
  (hpr:d.mv.promo=0∨(1≤d.mv.promo∧d.mv.promo≤6∧B.at d.mv.fr.toNat≠0)) (hne:M≠b) (w:World) (hT:D5 w)
  (hB:w.heap[b]?=some (.cells (H3 B) 237 (0,0))) (hM:w.heap[M]?=some (.cells (E8 d) t fz)) :
  Calls G.P 257 #[.pointer (some ⟨b,0,none⟩),.pointer (some ⟨M,0,none⟩)] w (fun r w'=>r = .returned (.tuple #[])∧w'.heap[b]?=some (.cells (H3 (B.move d.mv d.tags)) 237 (0,0))∧Tn b w w'):=by
 have hI0:UpI w b M t fz d B w:=⟨hB,hM,Tn.refl _ _,hT⟩;obtain ⟨s,hs⟩:=ze f0;obtain ⟨g,hg⟩:=ze t0;have hs64:s<64:=by omega
 have hg64:g<64:=by omega
 have es:d.mv.fr.toNat=s:=by omega
 have eg:d.mv.to.toNat=g:=by omega
 rw [es] at hpr;have hx:=B.at_range s;have cP:=fun w (hT:D5 w) hb=>a1f B b (t:=237) (fz:=(0,0)) s hs64 w hT hb;have cC:=fun w=>a7F (B.at s) hx.1 hx.2 w;have hc2:B.at s≠0→O7 (B.at s)=1∨O7 (B.at s)=2:=fun h=>by
  unfold O7 Ch.y9;rw [zJ h];split<;>omega
 have hmv:B.move d.mv d.tags=(((if d.tags.testBit 3 then (if d.mv.promo=0 then B.m1 s g 12 else (B.m1 s g 12).m2 (B.at s) (d.mv.promo+6*(O7 (B.at s)-1)) g).m3 (O7 (B.at s)) g else (if d.mv.promo=0 then B.m1 s g 12 else (B.m1 s g 12).m2 (B.at s) (d.mv.promo+6*(O7 (B.at s)-1)) g)).m4 (O7 (B.at s)) (d.tags.testBit 0) (d.tags.testBit 1)).sums).kings d.mv.fr d.mv.to:=by
  unfold MB.move;simp only [es,eg]
 rw [hmv];clear hmv;generalize hX:B.at s=X at *;have cS:=fun w=>s8 s hs64 w;have cG:=fun w=>s8 g hg64 w;refine zN func257 ?_;refine zR ?_;refine a4Q hM ?_;rw [hs];refine zR ?_;refine l8 (cP _ hT hB) (zR ?_);refine a4Q hM ?_;rw [hs];refine zR ?_;refine l8 (cS _) (zR ?_);refine a7k hM ?_;rw [hg];refine zR ?_;refine l8 (cG _) ?_;obtain ⟨ga,oa,ca,h1,h2⟩:=hT.all;refine zR ?_;refine b7 _ (K6 h1 (i:=0) zd rfl rfl) (zR ?_);refine B6 (σ:=Nat) [8,9,31] 32 (fun i=>[(31,.int .i64 i)]) (fun i w'=>i≤12∧UpI w b M t fz d (B.m1 s g i) w'∧a7l w' ga oa 12 (fun i=>.int .i8 ((i:Int)+1))) (fun i=>12-i) zk 0 ⟨zo,by rw [c0Z];exact hI0,h2⟩ ⟨rfl,trivial⟩ ?_
 rintro i j w2 ⟨hi,hI,hta⟩;have ni:=C7 (i:=i) zo;refine zR ?_;apply E.b9<;>intro h
 ·have hi2:i<12:=by omega
  clear h;have hof:(B.m1 s g i).of ((i:Int)+1)=B.f i:=by unfold MB.of;rw [zJ zo,show (((i:Int)+1).toNat-1)=i by omega,c4E]
  have hB1:=hI.bd;have hM1:=hI.nd;have hc1:=N5 (B.m1 s g i) b ((i:Int)+1) zo zo w2 hB1;rw [hof] at hc1;have hc2:=a5A (B.m1 s g i) b ((i:Int)+1) zo zo (B.f i &&& Bb.not (Bb.D6 g)) w2 hB1;rw [show (((i:Int)+1).toNat-1)=i by omega] at hc2
  have hc3:=fun w=>a1F (B.f i) s hs64 w;refine zR ?_;refine zC ?_;refine zR ?_;refine b7 _ (a6n hta (i:=i) hi2 rfl rfl) (zR ?_);refine l8 hc1 (zR ?_);refine zS ?_;refine o7 hc2 ?_;rintro r w3 ⟨rfl,u3⟩;refine ⟨_,rfl,?_⟩;have hI3:=hI.upd hne u3;have hta3:=hta.tn (Tn.upd u3) hB1 rfl;refine zR ?_;refine a4Q hI3.nd ?_;rw [hs];refine zR ?_;refine l8 (hc3 _) ?_;cases hb:(B.f i).testBit (63-s)
  ·refine zR ?_;exact ⟨i+1,⟨d8 ni,trivial⟩,⟨zo,by rw [← c4F B s g i hb];exact hI3,hta3⟩,zo⟩
  ·have hof3:((B.m1 s g i).set i (B.f i &&& Bb.not (Bb.D6 g))).of ((i:Int)+1)=B.f i &&& Bb.not (Bb.D6 g):=by unfold MB.of;rw [zJ zo,show (((i:Int)+1).toNat-1)=i by omega,a3h,zM rfl]
   have hc4:=N5 _ b ((i:Int)+1) zo zo w3 hI3.bd;rw [hof3] at hc4;have hc5:=a5A _ b ((i:Int)+1) zo zo (((B.f i &&& Bb.not (Bb.D6 g)) &&& Bb.not (Bb.D6 s)) ||| Bb.D6 g) w3 hI3.bd
   rw [show (((i:Int)+1).toNat-1)=i by omega] at hc5
   refine zR ?_;refine l8 hc4 (zR ?_);refine zS ?_;refine o7 hc5 ?_;rintro r w4 ⟨rfl,u4⟩;refine ⟨_,rfl,?_⟩;have hI4:=hI3.upd hne u4;have hta4:=hta3.tn (Tn.upd u4) hI3.bd rfl;refine zR ?_;exact ⟨i+1,⟨d8 ni,trivial⟩,⟨zo,by rw [← c3n B s g i hb];exact hI4,hta4⟩,zo⟩
 ·have hi2:i=12:=by omega
  subst hi2;clear h hta h1 h2 hI0 hB hM hT cP cS;have hO1:(B.m1 s g 12).Ok:=inferInstance;generalize B.m1 s g 12=B1 at *;refine zG ?_;refine C3 (σ:=Unit) [10,11,12] 13 (fun _=>[]) (fun _ w'=>UpI w b M t fz d (if d.mv.promo=0 then B1 else B1.m2 X (d.mv.promo+6*(O7 X-1)) g) w') zk ?_ (fun _ j w3 hI3=>?_)
  ·refine zR ?_;refine a56 hI.nd (zR ?_);apply E.y6<;>intro h
   ·have hp:=hpr.resolve_left h;have hx0:=hp.2.2;have hcc:=hc2 hx0;rw [zJ h];have cN:=fun w hT=>K7 d.mv.promo (O7 X) hp.1 hp.2.1 hcc w hT;have y1:1≤d.mv.promo+6*(O7 X-1):=by omega
    have y2:d.mv.promo+6*(O7 X-1)≤12:=by omega
    have e2:B1.m2 X (d.mv.promo+6*(O7 X-1)) g=(B1.set (X.toNat-1) (B1.of X &&& Bb.not (Bb.D6 g))).set ((d.mv.promo+6*(O7 X-1)).toNat-1) ((B1.set (X.toNat-1) (B1.of X &&& Bb.not (Bb.D6 g))).of (d.mv.promo+6*(O7 X-1)) ||| Bb.D6 g):=rfl
    rw [e2];generalize d.mv.promo+6*(O7 X-1)=Y at *;have hM:=hI.nd;have hT:=hI.tab;refine zR ?_;refine zK 8 ?_;refine zR ?_;refine a7D hM (zR ?_);refine m8 _ (fun w hw=>cC w) (zR ?_);refine m8 _ (fun w hw=>cN w (hT.cl hw)) (zR ?_);intro w3 c3;have hI3:=hI.cl c3;refine zR ?_;refine l8 (N5 B1 b X zo zo _ hI3.bd) ?_;have l1:G9 (B1.of X):=inferInstance;generalize B1.of X=V1 at *;refine zR ?_;refine zS ?_;refine o7 (a5A B1 b X zo zo (V1 &&& Bb.not (Bb.D6 g)) _ hI3.bd) ?_;rintro r w4 ⟨rfl,u4⟩;refine ⟨_,rfl,?_⟩;have hI4:=hI3.upd hne u4;have hO4:(B1.set (X.toNat-1) (V1 &&& Bb.not (Bb.D6 g))).Ok:=inferInstance;generalize B1.set (X.toNat-1) (V1 &&& Bb.not (Bb.D6 g))=B2 at *;refine zR ?_;refine l8 (N5 B2 b Y zo zo _ hI4.bd) ?_;have l2:G9 (B2.of Y):=inferInstance;generalize B2.of Y=V2 at *;refine zR ?_;refine zS ?_;refine o7 (a5A B2 b Y zo zo (V2 ||| Bb.D6 g) _ hI4.bd) ?_
    rintro r w5 ⟨rfl,u5⟩;refine ⟨_,rfl,zR ?_⟩;exact ⟨(),trivial,hI4.upd hne u5⟩
   ·rw [zM h];refine zR ?_;exact ⟨(),trivial,hI⟩
  have hO2:(if d.mv.promo=0 then B1 else B1.m2 X (d.mv.promo+6*(O7 X-1)) g).Ok:=by split<;>infer_instance
  generalize (if d.mv.promo=0 then B1 else B1.m2 X (d.mv.promo+6*(O7 X-1)) g)=B2 at *
  clear hI hO1 hpr;have hT3:=fun k (hk:k<16) w hM=>a1H (d:=d) (M:=M) (t:=t) (fz:=fz) (k:=k) hk hd w hM;refine C3 (σ:=Unit) [] 13 (fun _=>[]) (fun _ w'=>UpI w b M t fz d (if d.tags.testBit 3 then B2.m3 (O7 X) g else B2) w') zk ?_ (fun _ j w4 hI4=>?_)
  ·refine zR ?_;refine l8 (hT3 3 zd _ hI3.nd) ?_;cases hb:d.tags.testBit 3
   ·refine zR ?_;exact ⟨(),trivial,hI3⟩
   ·rw [zM rfl];refine zR ?_;refine l8 (cC _) (zR ?_);have hB:=hI3.bd;have hM:=hI3.nd;apply E.b9<;>intro h
    ·have e3:B2.m3 (O7 X) g=B2.set 11 (Bb.not (Ch.shl (Bb.D6 g) 8) &&& B2.f 11):=by unfold MB.m3;rw [zM h]
     rw [e3];refine zR ?_;refine zK 15 ?_;refine zR ?_;refine b0O hM ?_;rw [hg];refine zR ?_;refine m8 _ (fun w hw=>cG w) (zQ ?_);intro w4 c4;have hI4:=hI3.cl c4;refine zR ?_;refine a6s hI4.bd 11 zd _ (fun w5 u5=>zR ?_);exact ⟨(),trivial,hI4.upd hne u5⟩
    ·have e3:B2.m3 (O7 X) g=B2.set 5 (Bb.not (Bb.D6 g >>> 8) &&& B2.f 5):=by unfold MB.m3;rw [zJ h]
     rw [e3];refine zR ?_;refine zK 15 ?_;refine zR ?_;refine b0O hM ?_;rw [hg];refine zR ?_;refine m8 _ (fun w hw=>cG w) (zQ ?_);intro w4 c4;have hI4:=hI3.cl c4;refine zR ?_;refine a6s hI4.bd 5 zd _ (fun w5 u5=>zR ?_);exact ⟨(),trivial,hI4.upd hne u5⟩
  have hO3:(if d.tags.testBit 3 then B2.m3 (O7 X) g else B2).Ok:=by split<;>infer_instance
  generalize (if d.tags.testBit 3 then B2.m3 (O7 X) g else B2)=B3 at *
  clear hI3 hO2;have sq7:=fun w=>s8 7 zd w;have sq5:=fun w=>s8 5 zd w;have sq0:=fun w=>s8 0 zd w;have sq3:=fun w=>s8 3 zd w;have sq63:=fun w=>s8 63 zd w;have sq61:=fun w=>s8 61 zd w;have sq56:=fun w=>s8 56 zd w;have sq59:=fun w=>s8 59 zd w;refine C3 (σ:=Unit) [] 13 (fun _=>[]) (fun _ w'=>UpI w b M t fz d (B3.m4 (O7 X) (d.tags.testBit 0) (d.tags.testBit 1)) w') zk ?_ (fun _ j w5 hI5=>?_)
  ·have hB:=hI4.bd;have hM:=hI4.nd;have h40:=hT3 0 zd _ hM;have h41:=hT3 1 zd _ hM;generalize d.tags.testBit 0=T0 at *;generalize d.tags.testBit 1=T1 at *;generalize O7 X=C at *;by_cases e1:C=1
   ·subst e1;refine zR ?_;refine l8 (cC _) (zR ?_);refine l8 h40 ?_;cases T0
    ·refine zR ?_;refine l8 (cC _) (zR ?_);refine l8 h41 ?_;cases T1
     ·refine zR ?_;refine l8 (cC _) (zR ?_);refine l8 (cC _) (zR ?_);exact ⟨(),trivial,hI4⟩
     ·rw [show B3.m4 1 false true=B3.set 2 ((B3.f 2 &&& Bb.not (Bb.D6 0)) ||| Bb.D6 3) from rfl]
      refine zR ?_;refine zK 12 ?_;refine zQ ?_;refine m8 _ (fun w hw=>sq0 w) (zQ ?_);refine m8 _ (fun w hw=>sq3 w) (zQ ?_);intro w5 c5;have hI5:=hI4.cl c5;refine zR ?_;refine a6s hI5.bd 2 zd _ (fun w6 u6=>zR ?_);exact ⟨(),trivial,hI5.upd hne u6⟩
    ·rw [show B3.m4 1 true T1=B3.set 2 ((B3.f 2 &&& Bb.not (Bb.D6 7)) ||| Bb.D6 5) from rfl]
     refine zR ?_;refine zK 12 ?_;refine zQ ?_;refine m8 _ (fun w hw=>sq7 w) (zQ ?_);refine m8 _ (fun w hw=>sq5 w) (zQ ?_);intro w5 c5;have hI5:=hI4.cl c5;refine zR ?_;refine a6s hI5.bd 2 zd _ (fun w6 u6=>zR ?_);exact ⟨(),trivial,hI5.upd hne u6⟩
   by_cases e2:C=2
   ·subst e2;refine zR ?_;refine l8 (cC _) (zR ?_);refine l8 (cC _) (zR ?_);refine l8 (cC _) (zR ?_);refine l8 h40 ?_;cases T0
    ·refine zR ?_;refine l8 (cC _) (zR ?_);refine l8 h41 ?_;cases T1
     ·refine zR ?_;exact ⟨(),trivial,hI4⟩
     ·rw [show B3.m4 2 false true=B3.set 8 ((B3.f 8 &&& Bb.not (Bb.D6 56)) ||| Bb.D6 59) from rfl]
      refine zR ?_;refine zK 12 ?_;refine zQ ?_;refine m8 _ (fun w hw=>sq56 w) (zQ ?_);refine m8 _ (fun w hw=>sq59 w) (zQ ?_);intro w5 c5;have hI5:=hI4.cl c5;refine zR ?_;refine a6s hI5.bd 8 zd _ (fun w6 u6=>zR ?_);exact ⟨(),trivial,hI5.upd hne u6⟩
    ·rw [show B3.m4 2 true T1=B3.set 8 ((B3.f 8 &&& Bb.not (Bb.D6 63)) ||| Bb.D6 61) from rfl]
     refine zR ?_;refine zK 12 ?_;refine zQ ?_;refine m8 _ (fun w hw=>sq63 w) (zQ ?_);refine m8 _ (fun w hw=>sq61 w) (zQ ?_);intro w5 c5;have hI5:=hI4.cl c5;refine zR ?_;refine a6s hI5.bd 8 zd _ (fun w6 u6=>zR ?_);exact ⟨(),trivial,hI5.upd hne u6⟩
   have e3:B3.m4 C T0 T1=B3:=by unfold MB.m4;simp [e1,e2]
   rw [e3];refine zR ?_;refine l8 (cC _) (zR ?_);refine E.p9 e1 (zR ?_);refine l8 (cC _) (zR ?_);refine E.p9 e1 (zR ?_);refine l8 (cC _) (zR ?_);refine E.p9 e2 (zR ?_);refine l8 (cC _) (zR ?_);refine E.p9 e2 (zR ?_);exact ⟨(),trivial,hI4⟩
  have hO4:(B3.m4 (O7 X) (d.tags.testBit 0) (d.tags.testBit 1)).Ok:=inferInstance;generalize B3.m4 (O7 X) (d.tags.testBit 0) (d.tags.testBit 1)=B4 at *;refine zR ?_;refine o7 (c3m (B:=B4) hne _ hI5.bd hI5.nd) ?_;rintro r w6 ⟨rfl,hB6,n6⟩;refine ⟨_,rfl,zR ?_⟩;rw [hs,hg] at hB6;exact ⟨rfl,hB6,hI5.tn.trans n6⟩
end
