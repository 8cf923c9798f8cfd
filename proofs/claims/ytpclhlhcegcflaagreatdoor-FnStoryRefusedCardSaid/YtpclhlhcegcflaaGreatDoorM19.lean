/- One part of the proof: Pk78 Pk79 Pk80 Pk62 Dfr2 Pk63 Pk50 Pk64 Pk65 Pk67 Pk68 Pk81 Pk69 Two Mva Pk51 Pk70 Pk83 Pk84 Pk71 Pk72 Pk73 Pk74 Pk75 Pk76 Pk77. -/
import Derived.ArgAppend
import Derived.Deep.Upon
import Derived.Test.YtpclhlhcegcflaaGreatDoorM18
namespace Go.Proofs.YtpclhlhcegcflaaGreatDoor
open Go.Proofs.Tryz
set_option maxRecDepth 100000
set_option linter.unusedSimpArgs false
set_option linter.unusedVariables false
section
open Go Go.RowKit
open E
open Ch Bb
theorem c4J {f:Nat→Tx} {w:World} (h:Z9 w 23 8 (fun i=>m7 (f i))):m9 G.P w 394 ⟨23,0,none⟩ (mcV ⟨f 0,f 1,f 2,f 3,f 4,f 5,f 6,f 7⟩):=by
 obtain ⟨cs,t,fz,h1,_,h3⟩:=h;have h8:8≤cs.size:=by have:=(yn.1 (h3 7 zd)).1;omega
 have:=ldA (t:=394) (o:=0) (z:=8) h1 rfl zo;have e:cs.extract 0 (0+8)=mcA ⟨f 0,f 1,f 2,f 3,f 4,f 5,f 6,f 7⟩:=by
  apply Array.ext
  ·simp [mcA];omega
  ·intro i hi1 hi2;have hi:i<8:=by simpa [mcA] using hi2
   have h4:=h3 i hi;rw [Array.getElem_extract];have h5:cs[0+i]?=some (m7 (f i)):=by rw [yZ];exact h4
   rw [(yn.1 h5).2];rcases (by omega:i=0∨i=1∨i=2∨i=3∨i=4∨i=5∨i=6∨i=7) with rfl|rfl|rfl|rfl|rfl|rfl|rfl|rfl<;>rfl
 rw [e] at this;exact this
set_option maxHeartbeats 1000000 in
theorem c2K {s:Tx} (hs:s.length≤1000) (hq:zzP s=none) (w:World) (hT:C6 w):Calls G.P 343 #[m7 s] w (fun r w'=>∃ q v,r = .returned (.tuple #[mcV q,b3p v])∧Cl w w'):=by
 have hz:=b65 s hs;have hL:=b3C hq;obtain ⟨f,hf⟩:=hT.emp;obtain ⟨z,hz1,hz8⟩:=zMc;refine b68 (G:=G) 2 394 3 func343 rfl (by simp [ntmps343]) zk rfl ?_
 refine a4R (zR ?_);refine s7 z hz1 ?_;have cA:=Cl.alloc w (.cells z.cells 394);have nA:=d8 w (.cells z.cells 394);generalize w.alloc (.cells z.cells 394)=w1 at *;refine zR ?_;refine m8 (hz w1) ?_;rintro r w2 ⟨c2,v,rfl,hr⟩;rw [hL] at hr;obtain ⟨a,k,rfl,ha⟩:=hr.form;refine ⟨_,rfl,?_⟩;have c02:=cA.trans c2;have nA:=c2.blk nA;refine zR ?_;have cD:Cl w w2.drew:=c02.trans (Cl.drew (Cl.refl _));refine H7.mk3 (fun w'=>Cl w w') [0] (.cons 1 (.cons 2 (.cons 3 .done .nil) .nil) .nil) cD zk (zR ?_);refine l9 _ (fun w' hw=>c4J (hf.cl hw)) (zE ?_);refine m8 (a9y _ w2.drew) ?_;rintro _ w3 ⟨v,rfl,c3⟩;refine ⟨_,rfl,?_⟩;have nA:=c3.blk ((Cl.drew (Cl.refl w2)).blk nA);have c3:=cD.trans c3;refine zR ?_;refine And.intro c3 (And.intro ?_ trivial);refine zR ?_;refine K2 nA (mcA ⟨f 0,f 1,f 2,f 3,f 4,f 5,f 6,f 7⟩).toList rfl c0l rfl (a9K _) (by rw [hz8];decide) fun w4 u4=>?_
 have hb:w4.heap[w.heap.size]?=some (.cells (mcA ⟨f 0,f 1,f 2,f 3,f 4,f 5,f 6,f 7⟩) 394 (0,0)):=by rw [u4.at_,a8s hz8]
 have c4:=u4.cl c3 (yO _);refine zR ?_;refine And.intro c4 (And.intro ?_ trivial);refine zR ?_;refine And.intro c4 (zR ?_);refine K8.mk ⟨mcV ⟨f 0,f 1,f 2,f 3,f 4,f 5,f 6,f 7⟩,b7U hb,?_⟩;exact ⟨_,v,rfl,c4⟩
structure Sqs (m:Mv):Prop where
 f0:0≤m.fr
 f1:m.fr≤63
 t0:0≤m.to
 t1:m.to≤63
 pr:m.promo=0
theorem c0s {p:g9} (hI:B7 p) (hN:Y6 p) {P b M:Nat} {cv:Value} {d:Nd} (hm:Sqs d.mv) (hd:d.tags<64) (w:World) (hT:C6 w) (hP:G8 w P b p cv)
  (hM:w.heap[M]?=some (.cells (F7 d) 141 (0,0))) :
  Calls G.P 203 #[.pointer (some ⟨P,0,none⟩),.pointer (some ⟨M,0,none⟩)] w (fun r w'=>∃ P',r = .returned (.pointer (some ⟨P',0,none⟩))∧Cl w w'):=by
 obtain ⟨f0,f1,t0,t1,hp0⟩:=hm;obtain ⟨fr,hfr⟩:=ze f0;have hf64:fr<64:=by omega
 have pc:=fun w hT hB=>a0a (a1s p) b (t:=237) (fz:=(0,0)) fr hf64 w hT hB;rw [U9 hI.pc hf64,← hfr] at pc;have hpr:=hI.pc d.mv.fr;have ht:=hI.turn;have ety:=fun w=>a1f (sq p d.mv.fr) hpr.1 hpr.2 w;refine zN func203 ?_;have hP0:=hP.hd;have hbs:=A7 hP.bd;have hMs:=A7 hM;have hturn:(D0 p (a1i p)).turn=p.turn+1:=rfl;refine zG ?_;refine Nx.mk (zR ?_);refine b7 _ (a43 hP0) (zG ?_);refine B0 (σ:=Int) [5] 6 (fun n=>[(5,.int .i64 n)]) (fun _ w'=>w'=w) zk ?_ (fun nf j w1 e1=>?_)
 ·refine zR ?_;refine kHt hP0 ?_;rw [hturn];refine zR ?_;apply E.d7<;>intro h
  ·refine zR ?_;exact ⟨_,⟨rfl,trivial⟩,rfl⟩
  ·refine zR ?_;exact ⟨_,⟨rfl,trivial⟩,rfl⟩
 subst e1;refine zR ?_;refine V0 false (N2 rfl _) (zR ?_);refine o7 (a1x hI f0 f1 w1 hT hP0 hP.bd hM) fun w2 c2=>?_;generalize crM (a4V p.castle) (crF p d.mv 0) (crF p d.mv 1) (crF p d.mv 2) (crF p d.mv 3)=CR;have hP2:=hP.step c2;have hM2:=c2.blk hM;have hT2:=hT.cl c2;refine zR ?_;refine zK 9 ?_;refine zR ?_;refine qHb hP2.hd (zR ?_);refine a3B hM2 (zR ?_);refine o4 _ (fun w hw=>pc w (hT2.cl hw) (hw.blk hP2.bd)) (zR ?_);intro w3 c3;have c3':=c2.trans c3;have hP3:=hP.step c3';have hM3:=c3'.blk hM;refine zR ?_;refine b7 _ (a27 hP3.hd) (zG ?_);refine B0 (σ:=Int) [8] 9 (fun n=>[(8,.int .i64 n)]) (fun _ w'=>w'=w3) zk ?_ (fun nh j w4 e4=>?_)
 ·refine zR ?_;refine g7 (ety _) (zR ?_);apply E.d7<;>intro h
  ·refine zR ?_;exact ⟨_,⟨rfl,trivial⟩,rfl⟩
  ·have htag:Calls G.P 147 #[.pointer (some ⟨M,0,none⟩),.int .u16 4] w3 (E8 (.bool (d.tags.testBit 2)) w3):=a0N (k:=2) zd zo w3 hM3;generalize d.tags.testBit 2=bt at htag;refine zR ?_;refine g7 htag ?_;cases bt
   ·refine zR ?_;exact ⟨_,⟨rfl,trivial⟩,rfl⟩
   ·refine zR ?_;exact ⟨_,⟨rfl,trivial⟩,rfl⟩
 subst e4;refine zR ?_;refine kHb hP3.hd (zR ?_);refine m8 (a3Y (a1s p) b w4 hP3.bd) ?_;rintro r w5 ⟨b',rfl,hb',hB5,c5⟩;refine ⟨_,rfl,?_⟩;have c5':=c3'.trans c5;have hM5:=c5'.blk hM;have s3:=c3'.size;refine zR ?_;refine m8 (a9h (d:=d) f0 f1 t0 t1 zo (.inl hp0) zo w5 (hT.cl c5') hB5 hM5) ?_;rintro r w6 ⟨rfl,hB6,n6⟩;refine ⟨_,rfl,?_⟩;have c6:Cl w1 w6:=n6.toCl c5' zo;have hP6:=hP.step c6;have hM6:=c6.blk hM;have hT6:=hT.cl c6;refine zR ?_;refine kHt hP6.hd ?_;rw [hturn];refine zR ?_;refine g7 (a5X (p.turn+1) zo _) (zR ?_);refine o7 (a9s hI f0 f1 t0 t1 w6 hT6 hP6.hd hP6.bd hM6) fun w7 c7=>?_;have c7':=c6.trans c7;have hM7:=c7'.blk hM;have htag:Calls G.P 147 #[.pointer (some ⟨M,0,none⟩),.int .u16 16] w7 (E8 (.bool (d.tags.testBit 4)) w7):=a0N (k:=4) zd zo w7 hM7;generalize d.tags.testBit 4=ck at htag;generalize epM p d.mv=ep;generalize 3-(p.turn+1)=tn;refine zR ?_;refine g7 htag (zR ?_);refine r7 (hdA b' ⟨CR,nh,nf,tn,ep,ck⟩ (.slice none 0 0)) zk (zR ?_);exact ⟨_,rfl,c7'.trans (Cl.alloc _ _)⟩
theorem c2L {m:Mv} (h:Sqs m):b1R m=v8 m.fr++B6 m.fr++(v8 m.to++B6 m.to):=by
 unfold b1R;rw [sq2 h.f0 h.f1,sq2 h.t0 h.t1,h.pr,zJ zd,zn]
set_option maxHeartbeats 4000000 in
theorem b3L {p:g9} (hI:B7 p) (hN:Y6 p) {P b:Nat} {cv:Value} {m:Mv} (hm:Sqs m) (w:World) (hT:C6 w) (hM:G8 w P b p cv) :
  Calls G.P 351 #[.agg #[],.pointer (some ⟨P,0,none⟩),m7 (b1R m)] w (fun r w'=>∃ M d,r = .returned (.tuple #[.pointer (some ⟨M,0,none⟩),.nilIface])∧Cl w w'∧w.heap.size≤M∧w'.heap[M]?=some (.cells (F7 d) 141 (0,0))∧d.mv=m):=by
 have hu:=c2L hm;have hm0:=hm;obtain ⟨f0,f1,t0,t1,hp⟩:=hm;obtain ⟨fr,hfr⟩:=ze f0;obtain ⟨to,hto⟩:=ze t0;obtain ⟨e0,e1,e2⟩:=a2q fr zo;obtain ⟨g0,g1,g2⟩:=a2q to zo;rw [hfr,hto,e0,g0] at hu;have cA1:=b2i fr zo;have cA2:=b2i to zo;rw [← e1,← e2] at cA1;rw [← g1,← g2] at cA2;generalize UInt8.ofNat (97+fr%8)=a0 at *;generalize UInt8.ofNat (49+fr/8)=a1 at *;generalize UInt8.ofNat (97+to%8)=a2 at *;generalize UInt8.ofNat (49+to/8)=a3 at *;have hlp:∀ k,k<w.heap.size→∀ M,w.heap.size≤M→k≠M:=fun k h M h2=>by omega
 have hturn:=hI.turn;have hT4:b1R m=[a0,a1,a2,a3]:=by rw [hu];rfl
 rw [hT4];have hsz:(tx [a0,a1,a2,a3]).size=4:=rfl;have k0:(tx [a0,a1,a2,a3]).get! (IntKind.i64.wrap (0+0)).toNat=a0:=rfl;have k1:(tx [a0,a1,a2,a3]).get! (IntKind.i64.wrap (0+1)).toNat=a1:=rfl;have q0:(tx [a0,a1,a2,a3]).get! (Int.toNat 0)=a0:=rfl;have q1:(tx [a0,a1,a2,a3]).get! (Int.toNat 1)=a1:=rfl;have q2:(tx [a0,a1,a2,a3]).get! (Int.toNat 2)=a2:=rfl;have q3:(tx [a0,a1,a2,a3]).get! (Int.toNat 3)=a3:=rfl;refine zN func351 ?_;refine zR ?_;have cb:=Cl.alloc w (.cells #[] 151);generalize w.alloc (.cells #[] 151)=w1 at *;refine a5e 2 (zR ?_);rw [k0];refine E.o9 (by rw [e1];omega) (zR ?_)
 rw [k0];refine E.o9 (by rw [e1];omega) (zR ?_)
 rw [k1];refine E.o9 (by rw [e2];omega) (zR ?_)
 rw [k1];refine E.o9 (by rw [e2];omega) (zR ?_)
 refine zK 10 ?_;refine zR ?_;rw [q0,q1,cA1];intro w2 c2;refine zR ?_;refine zK 10 ?_;refine zR ?_;rw [q2,q3,cA2];intro w3 c3;refine zR ?_;refine E.o9 zo (zR ?_);refine E.o9 zo (zR ?_);refine r7 (F7 (C3 ⟨⟨fr,to,0⟩,0⟩)) zk (zR ?_);refine s7 _ a3Z ?_;have cw3:=cb.trans (c2.trans c3);have s3:=cw3.size;have cB:=cw3.trans (Cl.alloc w3 (.cells (Value.agg (F7 (C3 ⟨⟨0,0,0⟩,0⟩))).cells 141));have nB:=d8 w3 (.cells (Value.agg (F7 (C3 ⟨⟨0,0,0⟩,0⟩))).cells 141);obtain ⟨M,hMM⟩:∃ M,M=w3.heap.size:=⟨_,rfl⟩;rw [← hMM] at nB s3 ⊢;generalize w3.alloc (.cells (Value.agg (F7 (C3 ⟨⟨0,0,0⟩,0⟩))).cells 141)=w4 at *;clear hMM;refine zR ?_;refine K2 nB (D8 ⟨⟨fr,to,0⟩,0⟩) rfl a0O rfl (F9 _) (zU rfl) fun w5 u5=>?_;have hX:w5.heap[M]?=some (.cells (F7 (C3 ⟨⟨fr,to,0⟩,0⟩)) 141 (0,0)):=by have h7:=u5.at_;rw [B5 _ _ (by rw [J2];rfl)] at h7;exact h7
 have c5:Cl w w5:=u5.cl cB s3;have neP:=hlp _ (A7 hM.hd) M s3;have neb:=hlp _ (A7 hM.bd) M s3;clear u5 nB cB cw3;refine zR ?_;have emv:(⟨fr,to,0⟩:Mv)=m:=Mv.ext' hfr.symm hto.symm hp.symm;rw [emv] at hX;refine V0 false (N2 rfl _) (zR ?_);refine m8 (a3a (h:=D0 p (a1i p)) (B:=a1s p) (d:=C3 ⟨m,0⟩) (by show p.turn+1=1∨p.turn+1=2;omega) (D1 p 0).1 (D1 p 0).2 (D1 p 1).1 (D1 p 1).2 f0 f1 t0 t1 (show (0:Nat)<64 by decide) (.inl hp) w5 ⟨c5.blk hM.hd,c5.blk hM.bd,hX,Tn.refl _ _,hT.cl c5,neP,neb⟩) ?_
 rintro r w8 ⟨rfl,h8⟩;refine ⟨_,rfl,?_⟩;have c8:Cl w w8:=h8.tn.toCl c5 s3;refine zR ?_;refine m8 (c0s hI hN (d:={ C3 ⟨m,0⟩ with tags:=a30 (a1s p) (p.turn+1) p.ep m 0 }) hm0 (c1M _ _ _ _ zd) w8 (hT.cl c8) (hM.step c8) h8.nd) ?_;rintro r w9 ⟨P',rfl,c9⟩;refine ⟨_,rfl,zR ?_⟩;refine zT (c9.blk h8.nd) [.pointer (some ⟨P',0,none⟩)] fun w10 u10=>?_;have c10:Cl w w10:=u10.cl (c8.trans c9) s3;refine zR ?_;exact ⟨M,{ C3 ⟨m,a30 (a1s p) (p.turn+1) p.ep m 0⟩ with pos:=.pointer (some ⟨P',0,none⟩) },rfl,c10,s3,u10.at_,rfl⟩
def a34 (p:g9) (n:Nat) (T:Tx):Prop:=(n<2∧T.length≤1000∧Bad p T)∨(n=2∧∃ m,T=b1R m∧Sqs m∧m∉p9 p)
def b6D (p:g9) (P:Nat) (w:World) (v e:Value) (w':World):Prop :=
 (v = .pointer none∧(∃ x,e=b3p x)∧Tn P w w')∨(∃ M d,v = .pointer (some ⟨M,0,none⟩)∧e = .nilIface∧Cl w w'∧w'.heap[M]?=some (.cells (F7 d) 141 (0,0))∧d.mv∉p9 p)
def a9L (p:g9) (P:Nat) (w:World) (r:Ending) (w':World):Prop:=∃ v e,r = .returned (.tuple #[v,e])∧b6D p P w v e w'
theorem b3M {p:g9} (hI:B7 p) (hN:Y6 p) (hle:(A5 p).length≤218) {P b:Nat} {cv:Value} {T:Tx} (hT1:T.length≤1000) (hb:Bad p T) (w:World) (hT:C6 w) (hM:G8 w P b p cv) :
  Calls G.P 341 #[.agg #[],.pointer (some ⟨P,0,none⟩),m7 T] w (a9L p P w):=by
 cases hz:zzP T with
 | some q =>
  refine (a7K hI hN hle hT1 hz w hT hM).mono ?_;rintro r w' (⟨x,_,_,h,_⟩|⟨_,⟨v,rfl⟩,n⟩)
  ·rw [c0i hI hb hz] at h;cases h
  ·exact ⟨_,_,rfl,.inl ⟨rfl,⟨v,rfl⟩,n⟩⟩
 | none =>
  obtain ⟨z,hz1,hz8⟩:=zMc;refine zN func341 ?_;refine zR ?_;have cb:=Cl.alloc w (.cells #[] 149);generalize w.alloc (.cells #[] 149)=w1 at *;refine m8 (c2K hT1 hz w1 (hT.cl cb)) ?_;rintro r w2 ⟨q,v,rfl,c2⟩;refine ⟨_,rfl,?_⟩;have cb:=cb.trans c2;have s02:=cb.size;refine zR ?_;refine s7 z hz1 ?_;have cb:=cb.trans (Cl.alloc w2 (.cells z.cells 394));have nA:=d8 w2 (.cells z.cells 394);generalize w2.alloc (.cells z.cells 394)=w3 at *;refine zR ?_;refine K2 nA (mcA q).toList rfl c0l rfl (a9K q) (by rw [hz8];decide) fun w4 u4=>?_
  have c4:Cl w w4:=u4.cl cb s02;refine zR ?_;refine G7 false (a4E rfl _ _) (zR ?_);exact ⟨_,_,rfl,.inl ⟨rfl,⟨v,rfl⟩,Tn.cl c4⟩⟩
theorem c0t {p:g9} (hI:B7 p) (hN:Y6 p) (hle:(A5 p).length≤218) {P b:Nat} {cv:Value} {T:Tx} (hT1:T.length≤1000) (hb:Bad p T) (w:World) (hT:C6 w) (hM:G8 w P b p cv) :
  Calls G.P 349 #[.agg #[],.pointer (some ⟨P,0,none⟩),m7 T] w (a9L p P w):=by
 refine zN func349 ?_;refine zR ?_;have cb:=Cl.alloc w (.cells #[] 150);generalize w.alloc (.cells #[] 150)=w1 at *;refine r7 #[] zk (zR ?_);refine m8 (b3M hI hN hle hT1 hb w1 (hT.cl cb) (hM.step cb)) ?_;rintro r w2 ⟨v,e,rfl,h⟩;refine ⟨_,rfl,?_⟩;rcases h with ⟨rfl,⟨x,rfl⟩,n2⟩|⟨M,d,rfl,rfl,c2,hX,hn⟩
 ·refine zR ?_;exact ⟨_,_,rfl,.inl ⟨rfl,⟨x,rfl⟩,(Tn.cl cb).trans n2⟩⟩
 ·refine zR ?_;exact ⟨_,_,rfl,.inr ⟨M,d,rfl,rfl,cb.trans c2,hX,hn⟩⟩
theorem b3N {p:g9} (hI:B7 p) (hN:Y6 p) (hle:(A5 p).length≤218) {P b:Nat} {cv:Value} {T:Tx} {n:Nat} (hn:a34 p n T) :
  ∃ f,a61 (ntT n) "Decode" f=true∧G.fn f=true∧∀ w,C6 w→G8 w P b p cv→Calls G.P f #[.agg #[],.pointer (some ⟨P,0,none⟩),m7 T] w (a9L p P w):=by
 rcases hn with ⟨h2,hT1,hb⟩|⟨rfl,m,rfl,hs,hm⟩
 ·rcases (by omega:n=0∨n=1) with rfl|rfl
  ·exact ⟨_,c6r,rfl,fun w hT hM=>b3M hI hN hle hT1 hb w hT hM⟩
  ·exact ⟨_,c6s,rfl,fun w hT hM=>c0t hI hN hle hT1 hb w hT hM⟩
 ·refine ⟨_,c6t,rfl,fun w hT hM=>(b3L hI hN hs w hT hM).mono ?_⟩;rintro r w' ⟨M,d,rfl,c,_,hX,e⟩;exact ⟨_,_,rfl,.inr ⟨M,d,rfl,rfl,c,hX,by rw [e];exact hm⟩⟩
theorem b5t {w:World} {G0 M:Nat} {g:Gm} {L:List O0} {z:O0} {d:Nd} (hT:C6 w) (h:J0 w G0 g L z) (hI:B7 z.p) (hle:(A5 z.p).length≤218) (hm:d.mv∉p9 z.p)
  (hM:w.heap[M]?=some (.cells (F7 d) 141 (0,0))) :
  Calls G.P 45 #[.pointer (some ⟨G0,0,none⟩),.pointer (some ⟨M,0,none⟩),.pointer none] w (fun r w'=>(∃ v,r = .returned (b3p v))∧Tn z.P w w'):=by
 have hpos:=h.pos;refine zN func45 ?_;refine zR ?_;refine V0 true (N2 rfl _) (zR ?_);refine r7 #[.bool false] zk (zR ?_);have ca:=Cl.alloc w (.cells #[.bool false] 145);generalize w.alloc (.cells #[.bool false] 145)=w1 at *;have h1:=h.step ca;refine m8 (a9z hI hle w1 (hT.cl ca) h1.hb h1.posM (ca.blk hM) (G9 h1.hb h1.posM.hd zd) (G9 (ca.blk hM) h1.posM.hd zd)) ?_;rintro e w2 (⟨hl,_⟩|⟨_,⟨v,rfl⟩,n2⟩)
 ·exact absurd hl hm
 refine ⟨_,rfl,?_⟩;rw [hpos] at n2;refine zR ?_;refine G7 false (a4E rfl _ _) (zR ?_);exact ⟨⟨v,rfl⟩,(Tn.cl ca).trans n2⟩
set_option maxHeartbeats 1000000 in
theorem b7X {w:World} {G0:Nat} {g:Gm} {L:List O0} {z:O0} {n:Nat} {T:Tx} (hT:C6 w) (h:J0 w G0 g L z) (hI:B7 z.p) (hN:Y6 z.p) (hle:(A5 z.p).length≤218) (hn:a34 z.p n T) :
  Calls G.P 52 #[.pointer (some ⟨G0,0,none⟩),m7 T,ntV n,.pointer none] w (fun r w'=>(∃ v,r = .returned (b3p v))∧Tn z.P w w'):=by
 have hpos:=h.pos;obtain ⟨f,hd,hfn,hdc⟩:=b3N (P:=g.P) (b:=z.b) (cv:=z.cv) hI hN hle hn;unfold ntV;refine zN func52 ?_;refine zG ?_;refine B0 (σ:=Value×Value) [9,10] 11 (fun s=>[(9,s.1),(10,s.2)]) (fun s w'=>b6D z.p z.P w s.1 s.2 w') zk ?_ (fun s j w3 hs3=>?_)
 ·have c2:Cl w w.drew:=Cl.drew (Cl.refl _);have h2:=h.step c2;refine zR ?_;refine H7.mk3 (fun w'=>w'.heap[G0]?=some (.cells (gmA g) 131 (0,0))) [0,1,2,3,4,5,6,7,8] (.cons 9 (.cons 10 (.cons 11 (.cons 12 (.cons 13 (.cons 14 .done .nil) .nil) (.cons 13 (.cons 12 (.cons 14 .done .nil) .nil) .nil)) (.cons 12 (.cons 11 (.cons 13 (.cons 14 .done .nil) .nil) .nil) .nil)) .nil) .nil) h2.hb zk (zR ?_);refine l9 _ (fun w' hw=>a4W hw) (zR ?_);refine b3K (zR ?_);refine b1a rfl hd (zE ?_);refine b6C #[.agg #[],.pointer (some ⟨g.P,0,none⟩),m7 T] rfl hd hfn (by rw [zb];rfl) ?_
  refine (hdc w.drew (hT.cl c2) h2.posM).mono ?_;rintro r w3 ⟨v,e,rfl,hr⟩;refine ⟨_,rfl,?_⟩;rw [hpos] at hr;rcases hr with ⟨rfl,⟨x,rfl⟩,n3⟩|⟨M,d,rfl,rfl,c3,hX,hm⟩
  ·have hb3:=n3.blk h2.hb (G9 h2.hb h2.chn.last.2.2.hd zd);iterate 20 (all_goals (first|exact trivial|refine And.intro hb3 ?_|refine And.intro ?_ ?_|refine zR ?_))
   all_goals exact ⟨(.pointer none,b3p x),⟨rfl,rfl,trivial⟩,.inl ⟨rfl,⟨x,rfl⟩,(Tn.cl c2).trans n3⟩⟩
  ·have hb3:=c3.blk h2.hb;iterate 20 (all_goals (first|exact trivial|refine And.intro hb3 ?_|refine And.intro ?_ ?_|refine zR ?_))
   all_goals exact ⟨(.pointer (some ⟨M,0,none⟩),.nilIface),⟨rfl,rfl,trivial⟩,.inr ⟨M,d,rfl,rfl,c2.trans c3,hX,hm⟩⟩
 obtain ⟨v,e⟩:=s;rcases hs3 with ⟨h1,⟨x,h2⟩,n3⟩|⟨M,d,h1,h2,c3,hX,hm⟩
 ·obtain rfl:v=_:=h1;obtain rfl:e=_:=h2;refine zR ?_;refine G7 false (a4E rfl _ _) (zR ?_);exact ⟨⟨x,rfl⟩,n3⟩
 ·obtain rfl:v=_:=h1;obtain rfl:e=_:=h2;refine zR ?_;refine G7 true (E6 rfl) (zR ?_);refine m8 (b5t (hT.cl c3) (h.step c3) hI hle hm hX) ?_;rintro r w4 ⟨⟨x,rfl⟩,n4⟩;refine ⟨_,rfl,zR ?_⟩;exact ⟨⟨x,rfl⟩,(Tn.cl c3).trans n4⟩
def b5u (k:Nat) (p:g9) (m:Mv):Tx:=if k=0 then b3X p m else if k=1 then b3A p m else b1R m
section gens
variable {dst:Option Nat} {ty:Nat} {pos:String} {af:Array Edge} {gd:Option (Nat×Bool)} {env:C9}
end gens
theorem b0f {w:World} {G0:Nat} {g:Gm} (hb:w.heap[G0]?=some (.cells (gmA g) 131 (0,0))):Calls G.P 54 #[.pointer (some ⟨G0,0,none⟩)] w (E8 (.pointer (some ⟨g.cur,0,none⟩)) w):=by
 refine zN func54 ?_;refine zR ?_;refine b7 (.pointer (some ⟨g.cur,0,none⟩)) (D9 hb rfl rfl) (zR ?_);exact ⟨rfl,rfl⟩
end
section
open Go Go.RowKit
open E
structure c7m (t1 t2 y1 y2:Nat) (e:C9) (w:World) (v:Value):Prop where
 ex:∃ v1 v2,v = .tuple #[v1,v2]∧(∃ a,e t1 = .pointer (some a)∧m9 G.P w y1 a v1)∧∃ a,e t2 = .pointer (some a)∧m9 G.P w y2 a v2
end
section
open Go Go.RowKit
open E
open Ch Bb
def c4K (n:Nat):g9→List (Mv×Tx)→Prop
 | p,[]=>(p9 p).length≤218
 | p,x::r=>(p9 p).length≤218∧x.1∈p9 p∧P3 p x.1=true∧b5s p x.1 n x.2∧c4K n (made p x.1) r
theorem c4K.head {n:Nat} {p:g9}:∀ {l:List (Mv×Tx)},c4K n p l→(p9 p).length≤218
 | [],h=>h
 | _::_,h=>h.1
theorem c0u {p:g9} {ms:List Mv} (h:c5m p ms=true):B7 p∧p.half≤1000000∧p.full≤1000000∧ms.length≤80∧quiet p ms=true:=by
 unfold c5m at h;simp only [zP,zW] at h;obtain ⟨⟨⟨⟨h1,h2⟩,h3⟩,h4⟩,h5⟩:=h;exact ⟨(a6I p).1 h1,h2,h3,h4,h5⟩
theorem b1b {l:List g9} {p:g9} {mo:Int×Tx} (h0:0≤mo.1) (h9:mo.1≤9) (hl:mo.2.length≤1000):0≤(D5 l p mo).1∧(D5 l p mo).1≤9∧(D5 l p mo).2.length≤1000:=by
 have hd:drawT.length≤1000:=by decide
 have hw:(a2W p.turn).length≤1000:=by unfold a2W;split<;>decide
 unfold D5;simp only
 repeat' split
 all_goals first
  | exact ⟨h0,h9,hl⟩
  | exact ⟨by simp only;omega,by simp only;omega,hd⟩
  | exact ⟨by simp only;omega,by simp only;omega,hw⟩
theorem b3O (m:Mv):(b1R m).length≤5:=by
 have h1:=W8 m.fr;have h2:=W8 m.to;have h3:=b0J m.promo;unfold b1R;rw [zF,zF];split
 ·omega
 ·simp only [za];omega
theorem b3P (p:g9) (m:Mv):(b3A p m).length≤11:=by
 unfold b3A;split
 ·exact a6c p m
 ·have h1:=W8 m.fr;have h2:=W8 m.to;have h3:=L7 (a0B (sq p m.fr));have h4:=a4D p m;have h5:=a1g m;have h6:=a4A p m;simp only [zF];omega
theorem c2M (p:g9) (m:Mv):0≤a8N p m∧a8N p m≤100:=by
 unfold a8N K5 a0U;repeat' split
 all_goals omega
theorem b7Y {p:g9} (hh:p.half.toNat<10000000) (hf:p.full.toNat<10000000):(b16 p).length≤1000:=by
 unfold b16;split
 ·exact a60 hh hf
 ·exact a60 (p:={ p with ep:=-1 }) hh hf
theorem c4L {p:g9} (hI:B7 p) (hh:p.half≤5000000) (hf:p.full≤5000000) {m:Mv} (hm:m∈p9 p) (hr:MvR m) {mo:Int×Tx} (h0:0≤mo.1) (h9:mo.1≤9) (hl:mo.2.length≤1000):StR (a6g p m mo):=by
 have hI2:=hI.made hm;have a1:=a45 hI m;have a2:=a47 hI m;have a3:=c2M p m;have a4:=a6c p m;have a5:=b3P p m;have a6:=b3O m;have a7:a6N (made p m):=a8q hI2 ⟨zo,zo⟩;have a8:(a7q (made p m)).length≤1000:=a60 zo zo;have a9:(b16 (made p m)).length≤1000:=b7Y zo zo;have b1:I64 (a8N p m):=⟨zo,zo⟩;have b2:I64 mo.1:=⟨zo,zo⟩;have b3:I64 (a5G (made p m)):=by
  unfold a5G;repeat' split
  all_goals exact ⟨zo,zo⟩
 unfold a6g;generalize a8N p m=x1 at *;generalize b3X p m=x2 at *;generalize b3A p m=x3 at *;generalize b1R m=x4 at *;generalize a7q (made p m)=x5 at *;generalize b16 (made p m)=x6 at *;generalize a5G (made p m)=x7 at *;generalize made p m=q at *;exact ⟨hr,b1,by simp only;omega,by simp only;omega,by simp only;omega,a8,a9,a7,hl,b2,b3⟩
theorem b3Q:∀ (ms:List Mv) (l:List g9) (p:g9) (mo:Int×Tx),B7 p→p.half+ms.length≤5000000→p.full+ms.length≤5000000→(∀ m∈ms,MvR m)→0≤mo.1→mo.1≤9→mo.2.length≤1000→∀ s∈a8m l p mo ms,StR s:=by
 intro ms
 induction ms with
 | nil=>intro l p mo _ _ _ _ _ _ _ s hs;cases hs
 | cons m r ih =>
  intro l p mo hI hh hf hms h0 h9 hl s hs;rw [V3] at hs;split at hs
  ·rename_i hm;have hm:m∈p9 p:=yF hm;have a1:=a45 hI m;have a2:=a47 hI m;have a3:=hI.h0;have a4:=hI.f1;simp only [zh] at hh hf;obtain ⟨b0,b9,bl⟩:=b1b (l:=l++[made p m]) (p:=made p m) h0 h9 hl;rcases yV.1 hs with e|hs
   ·subst e;exact c4L hI zo zo hm (hms m yc) b0 b9 bl
   ·exact ih _ _ _ (hI.made hm) zo zo (fun x hx=>hms x (ye _ hx)) b0 b9 bl s hs
  ·cases hs
theorem b1c:∀ (ms:List Mv) (l:List g9) (p:g9) (mo:Int×Tx),(a8m l p mo ms).length≤ms.length:=by
 intro ms
 induction ms with
 | nil=>intro l p mo;exact yO _
 | cons m r ih =>
  intro l p mo;rw [V3];split
  ·have:=ih (l++[made p m]) (made p m) (D5 (l++[made p m]) (made p m) mo);simp only [zh];omega
  ·simp
theorem b5v {p:g9} (hI:B7 p) (hh:p.half≤1000000) (hf:p.full≤1000000) {ms:List Mv} (hn:ms.length≤80) (hms:∀ m∈ms,MvR m) (looked:Bool):∀ s∈a5B p looked ms,StR s:=by
 have hs:star.length≤1000:=by decide
 have h0:(0:Int)≤((0:Int),star).1:=Int.le_refl 0;have h9:((0:Int),star).1≤9:=show (0:Int)≤9 by omega
 obtain ⟨b0,b9,bl⟩:=b1b (l:=[p]) (p:=p) h0 h9 hs;have e:a5B p looked ms=a8m [p] p (if looked then D5 [p] p (0,star) else (0,star)) ms:=rfl
 rw [e];split
 ·exact b3Q ms _ _ _ hI zo zo hms b0 b9 bl
 ·exact b3Q ms _ _ _ hI zo zo hms h0 h9 hs
def a62 (w:World) (v:Value) (ns:List Int):Prop:=∃ a c,v = .slice a ns.length c∧(0<ns.length→∃ g o cs t fz,a=some ⟨g,o,none⟩∧w.heap[g]?=some (.cells cs t fz)∧∀ i (h:i<ns.length),cs[o+i]?=some (.int .i64 ns[i]))
section intIn
variable {w w':World} {v:Value} {ns:List Int}
theorem a62.form (h:a62 w v ns):∃ a c,v = .slice a ns.length c∧(0<ns.length→∃ g o,a=some ⟨g,o,none⟩):=by
 obtain ⟨a,c,e,h⟩:=h;exact ⟨a,c,e,fun h0=>by obtain ⟨g,o,_,_,_,e,_⟩:=h h0;exact ⟨g,o,e⟩⟩
theorem a62.step (h:a62 w v ns) (hc:Cl w w'):a62 w' v ns:=by
 obtain ⟨a,c,e,h⟩:=h;exact ⟨a,c,e,fun h0=>by obtain ⟨g,o,cs,t,fz,e,hb,h2⟩:=h h0;exact ⟨g,o,cs,t,fz,e,hc.blk hb,h2⟩⟩
theorem a62.ld {g o n c:Nat} (h:a62 w (.slice (some ⟨g,o,none⟩) n c) ns) (i:Nat) (hi:i<ns.length):m9 G.P w 3 ⟨g,E.U0 o ((i:Int)).toNat 1,none⟩ (.int .i64 ns[i]):=by
 obtain ⟨a,c',e,h⟩:=h;obtain ⟨g',o',cs,t,fz,e2,hb,h2⟩:=h zo;injection e with e1 _ _;rw [e2] at e1;injection e1 with e1;injection e1 with e1 e3 _;subst e1 e3;exact D9 hb (by rw [E.s8,zg,wX];exact h2 i hi) rfl
end intIn
def a9M (n:Int):List Value:=[.int .i64 n]
theorem O9 (n:Int):(a9M n).length=1:=rfl
theorem a0l (n:Int):∀ u∈a9M n,u.oneCell'=true:=fun u hu=>by rw [zY.1 hu];rfl
def nOf (x:Int):Nat:=(IntKind.u64.wrap x%3).toNat
def nAt (ns:List Int) (i:Nat):Nat:=match ns[i%ns.length]? with
 | some x=>nOf x
 | none=>0
theorem c4M (x:Int):nOf x<3:=by unfold nOf;omega
theorem b5w (ns:List Int) (i:Nat):nAt ns i<3:=by
 unfold nAt;split
 ·exact c4M _
 ·decide
theorem c4N (x:Int):IntKind.i64.wrap ((IntKind.u64.wrap x).tmod 3)=(nOf x:Int):=by
 have h:0≤IntKind.u64.wrap x:=by
  show 0≤x%_;exact Int.emod_nonneg _ zd
 unfold nOf;rw [zi (Int.emod_nonneg _ zd),xy h,g8 zo zo]
def b9Z (n:Nat) (s:Ch.V9):Tx:=if n=0 then s.san else if n=1 then s.lan else s.uci
def b8f (ns:List Int):Nat→List Ch.V9→List Tx
 | _,[]=>[]
 | i,s::r=>b9Z (nAt ns i) s::b8f ns (i+1) r
def c4P (ns:List Int):Nat→List Ch.V9→List Int
 | _,[]=>[]
 | i,s::r=>(nAt ns i:Int)::c4P ns (i+1) r
set_option maxHeartbeats 2000000 in
theorem b7Z (S:List Ch.V9) (hS:S.length≤1000) (ns:List Int) (hns:ns.length≤1000) {b0:Nat} {u v:Value} (w:World) (hu:Row 39 81 stL b0 w u S) (hv:a62 w v ns) :
  Calls G.P 19 #[u,v] w (fun r w'=>∃ a b,r = .returned (.tuple #[a,b])∧Row 9 1 J5 w.heap.size w' a (b8f ns 0 S)∧Row 3 1 a9M w.heap.size w' b (c4P ns 0 S)∧Cl w w'):=by
 obtain ⟨au,cu,rfl,hau⟩:=hu.form;obtain ⟨av,cv,rfl,hav⟩:=hv.form;obtain ⟨zs,hzs,hz81⟩:=zSt;obtain ⟨A,hA⟩:∃ A,A=b8f ns 0 S:=⟨_,rfl⟩;obtain ⟨B,hB⟩:∃ A,A=c4P ns 0 S:=⟨_,rfl⟩;rw [← hA,← hB];refine zN func19 ?_;refine zR ?_;refine C1 (σ:=Nat×List Tx×List Int×Value×Value) [6,7,8,9,10,13] 14 (fun s=>[(6,s.2.2.2.1),(7,s.2.2.2.2),(13,.int .i64 s.1)])
  (fun s w'=>s.1≤S.length∧s.2.1++b8f ns s.1 (S.drop s.1)=A∧s.2.2.1++c4P ns s.1 (S.drop s.1)=B∧s.2.1.length=s.1∧s.2.2.1.length=s.1∧Row 9 1 J5 w.heap.size w' s.2.2.2.1 s.2.1∧Row 3 1 a9M w.heap.size w' s.2.2.2.2 s.2.2.1∧Cl w w') (fun a=>S.length-a.1) zk (0,[],[],.slice none 0 0,.slice none 0 0)
  ⟨zo,by rw [hA];rfl,by rw [hB];rfl,rfl,rfl,Row.nil _ _,Row.nil _ _,Cl.refl _⟩ ⟨rfl,rfl,rfl,trivial⟩ ?_
 rintro ⟨i,O,N,va,vb⟩ j w2 ⟨hi,hO,hN,hOl,hNl,hra,hrb,c2⟩;simp only at hi hO hN hOl hNl hra hrb c2 ⊢;obtain ⟨aa,ka,rfl,_⟩:=hra.form;obtain ⟨ab,kb,rfl,_⟩:=hrb.form;have ni:=C4 (i:=i) zo;refine zR ?_;apply E.d7<;>intro h
 ·have hil:i<S.length:=by omega
  clear h;obtain ⟨gu,rfl⟩:=hau zo;rw [xc hil] at hO hN;have l1:∀ w',Cl w w'→m9 G.P w' 39 ⟨gu,E.U0 0 ((i:Int)).toNat 81,none⟩ (stV S[i]):=fun w' h'=>a1b (hu.step h') J7 i hil rfl (by simp [E.s8]) rfl
  generalize S[i]=s at *;have hO:O++b9Z (nAt ns i) s::b8f ns (i+1) (S.drop (i+1))=A:=hO;have hN:N++(nAt ns i:Int)::c4P ns (i+1) (S.drop (i+1))=B:=hN;have hnl:=b5w ns i;refine zR ?_;refine zC ?_;refine zR ?_;refine b7 _ (l1 _ c2) (zR ?_);refine s7 zs hzs ?_;have d1:=Cl.alloc w2 (.cells zs.cells 39);have n1:=d8 w2 (.cells zs.cells 39);generalize w2.alloc (.cells zs.cells 39)=w3 at *;refine zR ?_;refine K2 n1 (stL s) rfl b9k (J7 _) (a5y _) (by rw [hz81];decide) (fun w4 u4=>?_)
  have n4:w4.heap[w2.heap.size]?=some (.cells (stL s).toArray 39 (0,0)):=by rw [u4.at_,B5 _ _ (by rw [hz81,J7])]
  have d4:Cl w2 w4:=u4.cl d1 (yO _);clear n1 u4 d1;have c4:=c2.trans d4;have hra:=hra.step d4;have hrb:=hrb.step d4;refine zG ?_;refine Nx.mk (zG ?_);refine B0 (σ:=Unit) [10,18,19,20,21,22,23,24,25,26,27,28,29,30] 31 (fun _=>[(10,.int .i64 (nAt ns i:Nat))]) (fun _ w'=>w'=w4) zk ?_ (fun _ j w5 h5=>?_)
  ·refine zR ?_;apply E.d7<;>intro h
   ·have h0:0<ns.length:=by omega
    obtain ⟨gv,ov,rfl⟩:=hav h0;have him:i%ns.length<ns.length:=Nat.mod_lt _ h0;have hld:=(hv.step c4).ld (i%ns.length) him;have hnA:nAt ns i=nOf ns[i%ns.length]:=by unfold nAt;rw [yu him]
    rw [hnA];clear h;refine zR ?_;refine E.o9 zo (zR ?_);have htm:((i:Int)).tmod (ns.length:Int)=((i%ns.length:Nat):Int):=rfl;rw [htm];refine zC ?_;refine zR ?_;refine b7 _ hld (zR ?_);exact ⟨(),⟨d9 (c4N _),trivial⟩,rfl⟩
   ·have h0:ns=[]:=wM zo;refine zR ?_;exact ⟨(),⟨by subst h0;rfl,trivial⟩,rfl⟩
  subst h5;generalize nAt ns i=n at *;refine zR ?_;refine b7 (m7 s.san) (D9 n4 rfl rfl) (zR ?_);refine b7 (m7 s.lan) (D9 n4 rfl rfl) (zR ?_);refine b7 (m7 s.uci) (D9 n4 rfl rfl) (zR ?_);refine A8 elStr [m7 s.san,m7 s.lan,m7 s.uci] (by rw [zb];rfl) (by intro v hv;simp at hv;rcases hv with rfl|rfl|rfl<;>rfl) rfl zd zd ?_
  have d5:=Cl.alloc w5 (.cells (([m7 s.san,m7 s.lan,m7 s.uci]:List Value).flatMap fun v=>v.cells.toList).toArray 9);have n5:(w5.alloc (.cells (([m7 s.san,m7 s.lan,m7 s.uci]:List Value).flatMap fun v=>v.cells.toList).toArray 9)).heap[w5.heap.size]?=some (.cells (([m7 s.san,m7 s.lan,m7 s.uci]:List Value).flatMap fun v=>v.cells.toList).toArray 9 (0,0)):=d8 _ _;have hcs:(([m7 s.san,m7 s.lan,m7 s.uci]:List Value).flatMap fun v=>v.cells.toList).toArray[n]?=some (m7 (b9Z n s)):=by
   rcases (by omega:n=0∨n=1∨n=2) with rfl|rfl|rfl<;>rfl
  generalize (([m7 s.san,m7 s.lan,m7 s.uci]:List Value).flatMap fun v=>v.cells.toList).toArray=cs5 at *;generalize w5.alloc (.cells cs5 9)=w6 at *;have c6:=c4.trans d5;have hra:=hra.step d5;have hrb:=hrb.step d5;generalize b9Z n s=T at *;refine zR ?_;refine zC ?_;refine zR ?_;refine b7 (m7 T) (D9 n5 (by rw [E.s8,zg,yZ,wX];exact hcs) rfl) (zR ?_)
  refine A8 elStr [m7 T] (by rw [zb];rfl) (by intro v hv;rw [zY.1 hv];rfl) rfl zd zd (zR ?_)
  refine V7 elStr T rfl hra rfl rfl rfl o8 I6 zo zd c6.size ?_;intro va' w7 hra' hg;have c7:=hg.toCl rfl c6;have kg:=KT.grow hra hg;have hrb:=kg.row hrb zd;obtain ⟨a9,k9,rfl,_⟩:=hra'.form;refine zR ?_;refine A8 O2 [.int .i64 (n:Nat)] (by rw [zb];rfl) (by intro v hv;rw [zY.1 hv];rfl) rfl zd zd (zR ?_)
  refine V7 O2 (n:Int) rfl hrb rfl rfl rfl O9 a0l zo zd c7.size ?_;intro vb' w8 hrb' hg';have c8:=hg'.toCl rfl c7;have hra':=(KT.grow hrb hg').row hra' zd;obtain ⟨b9,q9,rfl,_⟩:=hrb'.form;refine zR ?_;exact ⟨(i+1,O++[T],N++[(n:Int)],_,_),⟨rfl,rfl,d9 ni,trivial⟩,⟨hil,by rw [← hO];simp,by rw [← hN];simp,by rw [zF,hOl];rfl,by rw [zF,hNl];rfl,hra',hrb',c8⟩,by show S.length-(i+1)<S.length-i;omega⟩
 ·have e:i=S.length:=by omega
  have hOA:O=A:=by rw [← hO,e,List.drop_length];show O=O++[];rw [zn]
  have hNB:N=B:=by rw [← hN,e,List.drop_length];show N=N++[];rw [zn]
  refine zR ?_;exact ⟨_,_,rfl,by rw [← hOA];exact hra,by rw [← hNB];exact hrb,c2⟩
theorem b5x (p:g9) (m:Mv):G5 (a0Y p m)=true:=by
 unfold a0Y;split
 ·exact T9
 ·split<;>(rw [a4M,zM zd];exact T9)
theorem b8a {p:g9} (hI:B7 p) {m:Mv} (hm:m∈p9 p) {n:Nat} (hn:n<3):b5s p m n (b5u n p m):=by
 have hs:=b5x p m;have l1:=a6c p m;have l2:=b3P p m;have own:∃ q,zzP (b3X p m)=some q∧a5h p m q:=⟨_,b2e hI hm hs,.own⟩;rcases (by omega:n=0∨n=1∨n=2) with rfl|rfl|rfl
 ·exact .inl ⟨zd,by show (b3X p m).length≤1000;omega,own⟩
 ·refine .inl ⟨zd,by show (b3A p m).length≤1000;omega,?_⟩
  show ∃ q,zzP (b3A p m)=some q∧a5h p m q;obtain ⟨f0,f1,t0,t1,_⟩:=A3 hI hm;rcases Ch.a2A hI hm with ⟨k,hk,h⟩|⟨h,hp,hk⟩|⟨h,hp,k1,k5,h0⟩
  ·have e:b3A p m=b3X p m:=by unfold b3A;rw [zM zo]
   rw [e];exact own
  ·have e:b3A p m=N4 (a3g p m (v8 m.fr) (B6 m.fr))++a0Y p m:=by
    unfold b3A N4 a3g;rw [zJ zo,hk,sq2 f0 f1,sq2 t0 t1,show a2t 6=[] from rfl];simp
   rw [e];exact ⟨_,b61 hI hm (.inr rfl) (.inr rfl) hs,.pawn h hk⟩
  ·have e:b3A p m=N4 (a0R p m (v8 m.fr) (B6 m.fr))++a0Y p m:=by
    unfold b3A N4 a0R;rw [zJ zo,sq2 f0 f1,sq2 t0 t1,show a5C m=[] by unfold a5C;rw [zM h0]]
    simp
   rw [e];refine ⟨_,b36 hI hm k1 k5 (.inr rfl) (.inr rfl) hs,.piece h zo _ _ (.inr rfl) (.inr rfl) ?_⟩;unfold apart;rw [sq2 f0 f1];(repeat' split)<;>simp
 ·exact .inr ⟨rfl,rfl⟩
theorem b5y (n:Nat) (p:g9) (m:Mv) (mo:Int×Tx):b9Z n (a6g p m mo)=b5u n p m:=rfl
theorem b5z (a b c:Value):c6l 66 #[a,b,c]:=by
 intro w;refine callsD_of_wpS (P:=Tryz.prog) func66 rfl fun c₀ cs hu=>?_;apply wpS_seq;apply wpS_region;simp [wpOpsS,go_sem,recoverD,hu,ntmps66,Exit.thenS];refine wpS_cond (t:=false) (by simp [Act.eval,Array.replicate]) ?_
 simp only [yG,xv];refine wpS_of_wp (wp_skip ?_);cases c₀;simp_all [bodyPostS,results,Tryz.results66]
def a9N (b:Bool):List Value:=[.bool b]
theorem a63 (b:Bool):(a9N b).length=1:=rfl
theorem elBool:H0 50 4 1 1:=U5 zk
structure It where
 mv:Mv
 tx:Tx
 nt:Nat
def a18:g9→List It→Prop
 | p,[]=>(p9 p).length≤218
 | p,x::r=>(p9 p).length≤218∧x.mv∈p9 p∧P3 p x.mv=true∧x.nt<3∧b5s p x.mv x.nt x.tx∧a18 (made p x.mv) r
theorem a18.head {p:g9}:∀ {l:List It},a18 p l→(p9 p).length≤218
 | [],h=>h
 | _::_,h=>h.1
def b9a:g9→List It→g9
 | p,[]=>p
 | p,x::r=>b9a (made p x.mv) r
set_option maxHeartbeats 4000000 in
theorem a64 {p:g9} (hI:B7 p) (hh:p.half≤1000000) (hf:p.full≤1000000) (l:List It) (X:List (Tx×Nat)) (hl:a18 p l) (hX:∀ T n R,X=(T,n)::R→n<3∧a34 (b9a p l) n T) (hlen:l.length≤80) (hXl:X.length≤100) (usual:Bool) (hu:usual=true→p=H1) {v1 v2 v3:Value} {b1 b2 b3:Nat} (bs:List Bool) (hbl:bs.length=l.length+X.length) (hbs:∀ b∈bs,b=false) (w:World) (hT:C6 w) (hS:Spc w) (hw:Pow w)
  (hr1:Row 9 1 J5 b1 w v1 (l.map It.tx++X.map fun x=>x.1)) (hr2:Row 3 1 a9M b2 w v2 ((l.map fun x=>(x.nt:Int))++X.map fun x=>(x.2:Int))) (hr3:Row 4 1 a9N b3 w v3 bs) :
  Calls G.P 23 #[m7 (if usual then [] else a7q p),v1,v2,v3] w (fun r w'=>∃ u,r = .returned (.tuple #[u,.int .i64 (l.length:Nat),.bool true])∧Row 39 81 stL w.heap.size w' u (a5B p (!usual) (l.map It.mv))∧Cl w w'):=by
 obtain ⟨a1,k1,rfl,hal1⟩:=hr1.form;obtain ⟨a2,k2,rfl,hal2⟩:=hr2.form;obtain ⟨a3,k3,rfl,hal3⟩:=hr3.form;rw [zF,yi,yi] at hal1 hal2 ⊢;rw [zF,yi,yi];rw [hbl] at hal3 ⊢;have hl1:(l.map It.tx++X.map fun x=>x.1).length=l.length+X.length:=by simp
 have hl2:((l.map fun x=>(x.nt:Int))++X.map fun x=>(x.2:Int)).length=l.length+X.length:=by simp
 have ge1:∀ i (h:i<l.length) h2,(l.map It.tx++X.map fun x=>x.1)[i]'h2=(l[i]).tx:=fun i h h2=>by rw [List.getElem_append_left (by simpa using h),List.getElem_map]
 have ge2:∀ i (h:i<l.length) h2,((l.map fun x=>(x.nt:Int))++X.map fun x=>(x.2:Int))[i]'h2=((l[i]).nt:Int):=fun i h h2=>by rw [List.getElem_append_left (by simpa using h),List.getElem_map]
 have gx1:∀ T n R,X=(T,n)::R→∀ h2,(l.map It.tx++X.map fun x=>x.1)[l.length]'h2=T:=fun T n R e h2=>by subst e;rw [wZ (by simp)];simp
 have gx2:∀ T n R,X=(T,n)::R→∀ h2,((l.map fun x=>(x.nt:Int))++X.map fun x=>(x.2:Int))[l.length]'h2=(n:Int):=fun T n R e h2=>by subst e;rw [wZ (by simp)];simp
 generalize (l.map It.tx++X.map fun x=>x.1)=L1 at *;generalize ((l.map fun x=>(x.nt:Int))++X.map fun x=>(x.2:Int))=L2 at *;obtain ⟨N,hN0⟩:∃ N,N=l.length+X.length:=⟨_,rfl⟩;rw [← hN0] at hal1 hal2 hal3 hl1 hl2 hbl ⊢;have hle:=a3w hI;have hq0:=hl.head;have hbg:=fun w hT hS=>c2C hI zo zo zo usual hu w hT hS;have hst0:a5B p (!usual) (l.map It.mv)=a8m [p] p (if (!usual)=true then D5 [p] p (0,star) else (0,star)) (l.map It.mv):=rfl
 generalize a5B p (!usual) (l.map It.mv)=S at *;generalize (if usual then ([]:Tx) else a7q p)=T0 at *
 refine b3G (fc:=66) (t:=17) (t1:=8) (t2:=9) (t3:=10) (y1:=28) (y2:=3) (y3:=4) (args:=[m7 T0,.slice a1 N k1,.slice a2 N k2,.slice a3 N k3]) func23 rfl (by simp [ntmps23]) zk zk (by simp [ntmps23]) rfl rfl rfl rfl rfl rfl zk b5z rfl (zR ?_)
 refine s7 (.slice none 0 0) zk ?_;have ca:=Cl.alloc w (.cells (Value.slice none 0 0).cells 28);have na:(w.alloc (.cells (Value.slice none 0 0).cells 28)).heap[w.heap.size]?=some (.cells #[.slice none 0 0] 28 (0,0)):=d8 w _;have sa:=C0 w (.cells (Value.slice none 0 0).cells 28);generalize w.alloc (.cells (Value.slice none 0 0).cells 28)=w1 at *;refine zR ?_;refine s7 (.int .i64 0) zk ?_;have cb:=ca.trans (Cl.alloc w1 (.cells (Value.int .i64 0).cells 3));have na:=(Cl.alloc w1 (.cells (Value.int .i64 0).cells 3)).blk na;have nb:(w1.alloc (.cells (Value.int .i64 0).cells 3)).heap[w1.heap.size]?=some (.cells #[.int .i64 0] 3 (0,0)):=d8 w1 _;have sb:=C0 w1 (.cells (Value.int .i64 0).cells 3);generalize w1.alloc (.cells (Value.int .i64 0).cells 3)=w2 at *;refine zR ?_;refine s7 (.bool false) zk ?_;have cc:=cb.trans (Cl.alloc w2 (.cells (Value.bool false).cells 4));have na:=(Cl.alloc w2 (.cells (Value.bool false).cells 4)).blk na;have nb:=(Cl.alloc w2 (.cells (Value.bool false).cells 4)).blk nb;have nc:(w2.alloc (.cells (Value.bool false).cells 4)).heap[w2.heap.size]?=some (.cells #[.bool false] 4 (0,0)):=d8 w2 _;have sc:=C0 w2 (.cells (Value.bool false).cells 4);generalize w2.alloc (.cells (Value.bool false).cells 4)=w3 at *;obtain ⟨Ra,hRa⟩:∃ R,R=w.heap.size:=⟨_,rfl⟩;obtain ⟨Rb,hRb⟩:∃ R,R=w1.heap.size:=⟨_,rfl⟩;obtain ⟨Rc,hRc⟩:∃ R,R=w2.heap.size:=⟨_,rfl⟩;have hab:Ra<Rb:=by omega
 have hbc:Rb<Rc:=by omega
 rw [← hRa] at na;rw [← hRb] at nb;rw [← hRc] at nc;rw [← hRa,← hRb,← hRc];clear ca cb sa sb sc;refine zR ?_;refine ⟨rfl,.pointer (some ⟨Ra,0,none⟩),.pointer (some ⟨Rb,0,none⟩),.pointer (some ⟨Rc,0,none⟩),by rw [zb];rfl,?_⟩
 refine zR ?_;refine m8 (hbg w3 (hT.cl cc) (hS.cl cc)) ?_;rintro e w4 ⟨G0,rfl,⟨⟨g,z,hG,hzp,hzM,hzP,hmo⟩,c4,sG⟩⟩;refine ⟨_,rfl,?_⟩;have c04:=cc.trans c4;have s3:=cc.size;have na:=c4.blk na;have nb:=c4.blk nb;have nc:=c4.blk nc;rw [← hmo] at hst0;have hst1:([]:List Ch.V9)++a8m (([]++[z]).map O0.p) z.p ((g.meth:Int),g.out) ((l.drop 0).map It.mv)=S:=by rw [hst0,← hzp];rfl
 have hm9:g.meth≤9:=by
  have e:=yM Prod.fst hmo;simp only at e;cases usual with
  | true=>rw [zJ zd] at e;simp only at e;omega
  | false =>
   rw [zM (by rfl)] at e
   have:=a7J (l:=[p]) (p:=p) (m0:=0) (o0:=star) (m:=g.meth) (o:=(D5 [p] p (0,star)).2) (by
    show ((g.meth:Int),(D5 [p] p (0,star)).2)=D5 [p] p (0,star);rw [e]) zo
   exact this
 have hIz:Ch.B7 z.p:=by rw [hzp];exact hI
 have hNz:Ng z.p 0:=by rw [hzp];exact ⟨zo,zo⟩
 have hlz:a18 z.p (l.drop 0):=by rw [hzp];exact hl
 have hEz:b9a z.p (l.drop 0)=b9a p l:=by rw [hzp];rfl
 generalize b9a p l=EP at *;clear hst0 hmo hbg hzp hle hq0 hl hh hf hu hI hS;refine zR ?_;refine G7 true (E6 rfl) (zR ?_);refine C1 (σ:=Nat×List O0×O0×Gm×List Ch.V9×Value) [12,13,14,15,16,27] 28 (fun s=>[(27,.int .i64 s.1)])
  (fun s w'=>s.1≤l.length∧J0 w' G0 s.2.2.2.1 s.2.1 s.2.2.1∧s.2.1.length=s.1∧Ch.B7 s.2.2.1.p∧Ng s.2.2.1.p s.1∧a18 s.2.2.1.p (l.drop s.1)∧b9a s.2.2.1.p (l.drop s.1)=EP∧(∀ n∈s.2.1++[s.2.2.1],Ch.B7 n.p)∧w.heap.size≤s.2.2.1.M∧w.heap.size≤s.2.2.1.P∧s.2.2.2.1.meth≤9
  ∧s.2.2.2.2.1++a8m ((s.2.1++[s.2.2.1]).map O0.p) s.2.2.1.p ((s.2.2.2.1.meth:Int),s.2.2.2.1.out) ((l.drop s.1).map It.mv)=S∧s.2.2.2.2.1.length=s.1∧Row 39 81 stL w.heap.size w' s.2.2.2.2.2 s.2.2.2.2.1
  ∧w'.heap[Ra]?=some (.cells #[s.2.2.2.2.2] 28 (0,0))∧w'.heap[Rb]?=some (.cells #[.int .i64 0] 3 (0,0))∧w'.heap[Rc]?=some (.cells #[.bool false] 4 (0,0))∧Cl w w') (fun s=>l.length-s.1) zk
  (0,[],z,g,[],.slice none 0 0) ⟨xJ _,hG,rfl,hIz,hNz,hlz,hEz,fun n hn=>by rw [zY.1 hn];exact hIz,zw s3 hzM,zw s3 hzP,hm9,hst1,rfl,Row.nil _ _,na,nb,nc,c04⟩ ⟨rfl,trivial⟩ ?_
 clear hG hIz hNz hlz hEz hzM hzP hm9 hst1 na nb nc c04 c4;rintro ⟨i,L,z,g,O,vr⟩ j w5 ⟨hi,hG,hLl,hIz,hNz,hlz,hEz,hJ,hzM,hzP,hm9,hst,hOl,hR,na,nb,nc,c5⟩;simp only at hi hG hLl hIz hNz hlz hEz hJ hzM hzP hm9 hst hOl hR na nb nc c5 ⊢;obtain ⟨av,kv,rfl,_⟩:=hR.form;have ni:=C4 (i:=i) zo;refine zR ?_;apply E.d7<;>intro h
 ·by_cases hil:i<l.length;rotate_left
  ·have e:i=l.length:=by omega
   subst e;cases hXc:X with
   | nil=>rw [hXc] at hN0;simp at hN0;omega
   | cons x R =>
   obtain ⟨T,n⟩:=x;obtain ⟨hn,href⟩:=hX T n R hXc;have gx1:=gx1 T n R hXc;have gx2:=gx2 T n R hXc;rw [List.drop_length] at hEz hst;rw [← show z.p=EP from hEz] at href;obtain ⟨g1,rfl⟩:=hal1 zo;obtain ⟨g2,rfl⟩:=hal2 zo;obtain ⟨g3,rfl⟩:=hal3 zo;have hld1:m9 G.P w5 9 ⟨g1,E.U0 0 ((l.length:Int)).toNat 1,none⟩ (m7 T):=by
    obtain ⟨cur,h1,h2⟩:=(hr1.step c5).get o8 l.length 0 zo zd;refine D9 h1 ?_ rfl;rw [E.s8,zg,yZ];rw [gx1] at h2;exact h2
   have hld2:m9 G.P w5 3 ⟨g2,E.U0 0 ((l.length:Int)).toNat 1,none⟩ (.int .i64 n):=by
    obtain ⟨cur,h1,h2⟩:=(hr2.step c5).get O9 l.length 0 zo zd;refine D9 h1 ?_ rfl;rw [E.s8,zg,yZ];rw [gx2] at h2;exact h2
   have hld3:m9 G.P w5 4 ⟨g3,E.U0 0 ((l.length:Int)).toNat 1,none⟩ (.bool false):=by
    obtain ⟨cur,h1,h2⟩:=(hr3.step c5).get a63 l.length 0 zo zd;refine D9 h1 ?_ rfl;rw [E.s8,zg,yZ];rw [hbs _ (yQ _)] at h2;exact h2
   have hN:=(hNz.nm zo).nums;have hle:=a3w hIz;have hq0:=hlz.head;have hle:(A5 z.p).length≤218:=by omega
   have hgp:=b4P hG.hb;rw [hG.pos] at hgp;refine zR ?_;refine zC ?_;refine zR ?_;refine b7 _ hld1 (zR ?_);refine g7 hgp (zR ?_);refine g7 (a1I 0 zd _) (zR ?_);refine E.A0 zo (zR ?_);refine zC ?_;refine zR ?_;refine b7 _ hld2 (zR ?_);refine g7 (a1I n hn _) (zR ?_);refine E.A0 zo (zR ?_);refine zC ?_;refine zR ?_;refine b7 _ hld3 (zR ?_);(repeat (refine E.A0 zo ?_;refine zR ?_))
   refine m8 (b7X (hT.cl c5) hG hIz hN hle href) ?_;rintro e w9 ⟨⟨x,rfl⟩,n9⟩;refine ⟨_,rfl,?_⟩;have hps:=hG.chn.last.2.2.hd;have off9:∀ {k:Nat} {cs:Array Value} {t:Nat} {fz:Nat×Nat},w5.heap[k]?=some (.cells cs t fz)→t≠173→w9.heap[k]?=some (.cells cs t fz):=fun h h2=>n9.blk h (G9 h hps h2);have na:=off9 na zd;have nb:=off9 nb zd;have nc:=off9 nc zd;have hR:Row 39 81 stL w.heap.size w9 (.slice av O.length kv) O:=hR.frT (Fr.tn (S:=[z.P]) n9 (.inl (by simp))) fun k hk=>by
    rw [zY.1 hk];exact ⟨_,_,_,hps,zd⟩
   have c5:=n9.toCl c5 hzP;have hO:O=S:=by rw [← hst];show O=O++[];rw [zn]
   have eOl:O.length=l.length:=by omega
   clear off9 n9 hps hgp hld1 hld2 hld3;refine zR ?_;refine G7 false (a4E rfl _ _) (zR ?_);refine b7 _ (D9 (v:=.slice av O.length kv) na rfl rfl) (zR ?_);refine b7 _ (D9 (v:=.slice av O.length kv) na rfl rfl) (zR ?_);refine zT na [.slice av O.length kv] fun w6 u6=>?_;refine zR ?_;refine zT ((Tn.upd u6).blk nb zo) [.int .i64 O.length] fun w7 u7=>?_;refine zR ?_;refine K2 ((Tn.upd u7).blk ((Tn.upd u6).blk nc zo) zo) [.bool true] rfl zk rfl (by intro v hv;simp at hv;subst hv;rfl) (zU rfl) fun w8 u8=>zR ?_
   have ka:w8.heap[Ra]?=some (.cells #[.slice av O.length kv] 28 (0,0)):=(Tn.upd u8).blk ((Tn.upd u7).blk u6.at_ zo) zo;have kb:w8.heap[Rb]?=some (.cells #[.int .i64 O.length] 3 (0,0)):=(Tn.upd u8).blk u7.at_ zo;have kc:w8.heap[Rc]?=some (.cells #[.bool true] 4 (0,0)):=u8.at_;have hR8:=((hR.updT u6 na zd).updT u7 ((Tn.upd u6).blk nb zo) zd).updT u8 ((Tn.upd u7).blk ((Tn.upd u6).blk nc zo) zo) zd;have c8:=u8.cl (u7.cl (u6.cl c5 zo) zo) zo;refine ⟨.inr rfl,.slice av O.length kv,.int .i64 O.length,.bool true,⟨⟨_,rfl,D9 ka rfl rfl⟩,⟨_,rfl,D9 kb rfl rfl⟩,_,rfl,D9 kc rfl rfl⟩,.slice av O.length kv,?_,?_,c8⟩
   ·rw [eOl]
   ·rw [← hO,hRa];exact hR8
  clear h;obtain ⟨g1,rfl⟩:=hal1 zo;obtain ⟨g2,rfl⟩:=hal2 zo;obtain ⟨g3,rfl⟩:=hal3 zo;rw [xc hil] at hst hlz hEz;have hld1:m9 G.P w5 9 ⟨g1,E.U0 0 ((i:Int)).toNat 1,none⟩ (m7 (l[i]).tx):=by
   obtain ⟨cur,h1,h2⟩:=(hr1.step c5).get o8 i 0 zo zd;refine D9 h1 ?_ rfl;rw [E.s8,zg,yZ];rw [ge1 i hil] at h2;exact h2
  have hld2:m9 G.P w5 3 ⟨g2,E.U0 0 ((i:Int)).toNat 1,none⟩ (.int .i64 (l[i]).nt):=by
   obtain ⟨cur,h1,h2⟩:=(hr2.step c5).get O9 i 0 zo zd;refine D9 h1 ?_ rfl;rw [E.s8,zg,yZ];rw [ge2 i hil] at h2;exact h2
  have hld3:m9 G.P w5 4 ⟨g3,E.U0 0 ((i:Int)).toNat 1,none⟩ (.bool false):=by
   obtain ⟨cur,h1,h2⟩:=(hr3.step c5).get a63 i 0 zo zd;refine D9 h1 ?_ rfl;rw [E.s8,zg,yZ];rw [hbs _ (yQ _)] at h2;exact h2
  generalize l[i]=it at *;obtain ⟨m,T,n⟩:=it;obtain ⟨hq0,hml,hsan,hn,hsay,hlz2⟩:=hlz;simp only at hld1 hld2 hml hsan hn hsay hlz2;rw [yU,V3,zM (show a66 z.p m=true from zX hml)] at hst;have hN:=(hNz.nm zo).nums;have hle:=a3w hIz;have hle:(A5 z.p).length≤218:=by omega
  have hgp:=b4P hG.hb;rw [hG.pos] at hgp;have hI2:=Ch.B7.made hIz hml;have hle2:(A5 (made z.p m)).length≤218:=by have:=a3w hI2;have:=hlz2.head;omega
  have hN2:=hNz.made hIz m;refine zR ?_;refine zC ?_;refine zR ?_;refine b7 _ hld1 (zR ?_);refine g7 hgp (zR ?_);refine g7 (a1I 0 zd _) (zR ?_);refine E.A0 zo (zR ?_);refine zC ?_;refine zR ?_;refine b7 _ hld2 (zR ?_);refine g7 (a1I n hn _) (zR ?_);refine E.A0 zo (zR ?_);refine zC ?_;refine zR ?_;refine b7 _ hld3 (zR ?_);(repeat (refine E.A0 zo ?_;refine zR ?_))
  refine m8 (c4I (hT.cl c5) hG hIz hN hle hml hsan hsay hI2 hle2 hJ zo) ?_;rintro e w9 ⟨rfl,g',z',y,hsame,⟨ad,n1,k1',hkc⟩,hG9,y1,y2,y3,y4,y5,hend,f9⟩;refine ⟨_,rfl,?_⟩;have hnd:=hG.node;have hps:=hG.chn.last.2.2.hd;have hgb:=hG.hb;have s5:=c5.size;have hkS:∀ k∈[z.M,z.P,G0],w.heap.size≤k:=fun k hk=>by
   simp only [yV,zy,xH] at hk;omega
  have c9:Cl w w9:=f9.toCl hkS c5;have off9:∀ {k:Nat} {cs:Array Value} {t:Nat} {fz:Nat×Nat},w5.heap[k]?=some (.cells cs t fz)→t≠141→t≠173→t≠131→w9.heap[k]?=some (.cells cs t fz):=fun {k cs t fz} h h1 h2 h3=>f9.blk h fun hm=>by
   simp only [yV,zy,xH] at hm;rcases hm with e|e|e
   ·exact G9 h hnd h1 e
   ·exact G9 h hps h2 e
   ·exact G9 h hgb h3 e
  have na9:=off9 na zd zd zd;have nb9:=off9 nb zd zd zd;have nc9:=off9 nc zd zd zd;have hR9:Row 39 81 stL w.heap.size w9 (.slice av O.length kv) O:=hR.frT f9 fun k hk=>by
   simp only [yV,zy,xH] at hk;rcases hk with e|e|e
   ·rw [e];exact ⟨_,_,_,hnd,zd⟩
   ·rw [e];exact ⟨_,_,_,hps,zd⟩
   ·rw [e];exact ⟨_,_,_,hgb,zd⟩
  have hPz:=hG9.chn.mem z' (by simp)
  rw [hsame.p,hsame.P,hkc] at hPz;have hPy:=hG9.posM;rw [y4,hG9.pos] at hPy;have hNode:=hG9.node;have hcur:=hG9.cur;have hg9:=a7J hend hm9;have hstep:=fun w' (c:Cl w9 w')=>c4H hIz hN hle (d:=y.d) (by rw [y2];exact hml) (by rw [y2];exact y3) (by rw [y2];exact hI2) (by rw [y2];exact (hN2.nm zo).nums) (by rw [y2];exact hle2) (show g'.meth<256 by omega) w' ((hT.cl c9).cl c) ((hw.cl c9).cl c) (hPz.step c) (c.blk hNode) (c.blk hG9.hb) hG9.pos (by rw [y2];exact hPy.step c)
  rw [y2] at hstep;have hmap2:((L++[z'])++[y]).map O0.p=(L++[z]).map O0.p++[made z.p m]:=by simp [hsame.p,y4]
  rw [y4] at hend;rw [← hend] at hst;have hst2:(O++[a6g z.p m ((g'.meth:Int),g'.out)])++a8m (((L++[z'])++[y]).map O0.p) y.p ((g'.meth:Int),g'.out) ((l.drop (i+1)).map It.mv)=S:=by rw [hmap2,y4,← hst];simp
  have hlenS:(stL (a6g z.p m ((g'.meth:Int),g'.out))).length=81:=J7 _;have hJ9:∀ n∈(L++[z'])++[y],Ch.B7 n.p:=fun n hn=>by
   rcases zr.1 hn with hn|hn
   ·rcases zr.1 hn with hn|hn
    ·exact hJ n (yS _ hn)
    ·rw [zY.1 hn,hsame.p];exact hIz
   ·rw [zY.1 hn,y4];exact hI2
  have hdc:=fun w' (c:Cl w9 w')=>b0f (c.blk hG9.hb);rw [hcur] at hdc;generalize a6g z.p m ((g'.meth:Int),g'.out)=SV at *;refine zR ?_;refine G7 true (E6 rfl) (zR ?_);have fin:∀ w10 w11 w12 v',Cl w9 w10→a5O w.heap.size w10 (.slice av O.length kv) w11 v'→Row 39 81 stL w.heap.size w11 v' (O++[SV])→Upd w11 Ra (.cells #[v'] 28 (0,0)) w12 →
    i+1≤l.length∧J0 w12 G0 g' (L++[z']) y∧(L++[z']).length=i+1∧Ch.B7 y.p∧Ng y.p (i+1)∧a18 y.p (l.drop (i+1))∧b9a y.p (l.drop (i+1))=EP∧(∀ n∈(L++[z'])++[y],Ch.B7 n.p)∧w.heap.size≤y.M∧w.heap.size≤y.P∧g'.meth≤9
   ∧(O++[SV])++a8m (((L++[z'])++[y]).map O0.p) y.p ((g'.meth:Int),g'.out) ((l.drop (i+1)).map It.mv)=S∧(O++[SV]).length=i+1∧Row 39 81 stL w.heap.size w12 v' (O++[SV])
   ∧w12.heap[Ra]?=some (.cells #[v'] 28 (0,0))∧w12.heap[Rb]?=some (.cells #[.int .i64 0] 3 (0,0))∧w12.heap[Rc]?=some (.cells #[.bool false] 4 (0,0))∧Cl w w12:=by
   intro w10 w11 w12 v' c10 hg hr' u12;have c010:=c9.trans c10;have kg:KT 39 w10 w11:=KT.grow (hR9.step c10) hg;have na11:=kg _ _ _ zd (c10.blk na9);have ku:KT 28 w11 w12:=KT.upd u12 na11;refine ⟨hil,ku.game (kg.game (hG9.step c10) zd zd zd zd zd) zd zd zd zd zd,by rw [zF,hLl];rfl,by rw [y4];exact hI2,by rw [y4];exact hN2,by rw [y4];exact hlz2,by rw [y4];exact hEz,hJ9,
    by omega,zo,hg9,hst2,by rw [zF,hOl];rfl,ku.row hr' zd,u12.at_,ku _ _ _ zd (kg _ _ _ zd (c10.blk nb9)),ku _ _ _ zd (kg _ _ _ zd (c10.blk nc9)),u12.cl (hg.toCl rfl c010) zo⟩
  have cD:Cl w9 w9.drew:=Cl.drew (Cl.refl _);have hOn:O.length+1≤1000:=by omega
  clear hst hst2 hJ9 hend hmap2 hnd hps hgb off9 hPz hPy hNode hkS f9 hld1 hld2 hld3 hsay hlz2;refine H7.mk2 [1,2,4] (.cons 0 (.cons 3 (.cons 5 (.cons 6 (.cons 7 (.cons 8 .done .nil) .nil) .nil) .nil) .nil) (.cons 3 (.cons 0 (.cons 5 (.cons 6 (.cons 7 (.cons 8 .done .nil) .nil) .nil) .nil) (.cons 5 (.cons 0 (.cons 6 (.cons 7 (.cons 8 .done .nil) .nil) .nil) (.cons 6 (.cons 0 (.cons 7 (.cons 8 .done .nil) .nil) .nil) .nil)) .nil)) .nil)) zk (zR ?_);iterate 30 (all_goals (first
   | exact trivial
   | exact ⟨(i+1,L++[z'],y,g',O++[SV],.slice a9 (O++[SV]).length k9),⟨d9 ni,trivial⟩,fin _ _ _ _ c10 hg hr' u12,by show l.length-(i+1)<l.length-i;omega⟩
   | refine And.intro ?_ ?_
   | refine g7 (hdc _ cD) ?_
   | (refine o7 (hstep _ cD) fun w10 c10=>?_
      have c10:=cD.trans c10)
   | refine b7 _ (D9 (v:=.slice av O.length kv) (cD.blk na9) rfl rfl) ?_
   | refine b7 _ (D9 (v:=.slice av O.length kv) (c10.blk na9) rfl rfl) ?_
   | refine b7 _ (D9 (v:=.slice av O.length kv) ((c10.trans (Cl.alloc _ _)).blk na9) rfl rfl) ?_
   | refine A8 b4B [stV SV] (by rw [zb];rfl) (by simp [stV,Value.cells,hlenS]) rfl zd zd ?_
   | (refine V7 b4B SV rfl (hR9.step c10) rfl rfl (by simp [stV,Value.cells]) J7 a5y zo zd (c9.trans c10).size ?_
      intro v' w11 hr' hg;have na11:=(KT.grow (hR9.step c10) hg) _ _ _ zd (c10.blk na9);obtain ⟨a9,k9,rfl,_⟩:=hr'.form)
   | refine K2 na11 [.slice a9 (O++[SV]).length k9] rfl zk rfl (by intro v hv;simp at hv;subst hv;rfl) (zU rfl) fun w12 u12=>?_
   | refine zR ?_))
 ·have e:i=l.length:=by omega
  have hO:O=S:=by rw [← hst,e,List.drop_length];show O=O++[];rw [zn]
  have eOl:O.length=l.length:=by omega
  refine zR ?_;refine b7 _ (D9 (v:=.slice av O.length kv) na rfl rfl) (zR ?_);refine b7 _ (D9 (v:=.slice av O.length kv) na rfl rfl) (zR ?_);refine zT na [.slice av O.length kv] fun w6 u6=>?_;refine zR ?_;refine zT ((Tn.upd u6).blk nb zo) [.int .i64 O.length] fun w7 u7=>?_;refine zR ?_;refine K2 ((Tn.upd u7).blk ((Tn.upd u6).blk nc zo) zo) [.bool true] rfl zk rfl (by intro v hv;simp at hv;subst hv;rfl) (zU rfl) fun w8 u8=>zR ?_
  have ka:w8.heap[Ra]?=some (.cells #[.slice av O.length kv] 28 (0,0)):=(Tn.upd u8).blk ((Tn.upd u7).blk u6.at_ zo) zo;have kb:w8.heap[Rb]?=some (.cells #[.int .i64 O.length] 3 (0,0)):=(Tn.upd u8).blk u7.at_ zo;have kc:w8.heap[Rc]?=some (.cells #[.bool true] 4 (0,0)):=u8.at_;have hR8:=((hR.updT u6 na zd).updT u7 ((Tn.upd u6).blk nb zo) zd).updT u8 ((Tn.upd u7).blk ((Tn.upd u6).blk nc zo) zo) zd;have c8:=u8.cl (u7.cl (u6.cl c5 zo) zo) zo;refine ⟨.inr rfl,.slice av O.length kv,.int .i64 O.length,.bool true,⟨⟨_,rfl,D9 ka rfl rfl⟩,⟨_,rfl,D9 kb rfl rfl⟩,_,rfl,D9 kc rfl rfl⟩,.slice av O.length kv,?_,?_,c8⟩
  ·rw [eOl]
  ·rw [← hO,hRa];exact hR8
theorem c0v {cs:Array Value} {k:Nat} {v:Value} (h:cs[k]?=some v):J3 cs k [v]=cs:=by
 show cs.setIfInBounds k v=cs;apply wH;intro j;rw [Array.getElem?_setIfInBounds];by_cases e:k=j
 ·subst e;rw [zM rfl,zM (yn.1 h).1,h]
 ·rw [zJ e]
theorem c0w (s:Ch.V9):(stL s)[3]?=some (.int .i64 s.tags):=rfl
theorem c0x (l:List Ch.V9) (hl:∀ s∈l,StR s) (hn:l.length≤1000) {b0 b1:Nat} {u v:Value} (w:World) (hu:Row 39 81 stL b0 w u l) (hv:Row 39 81 stL b1 w v l):Calls G.P 24 #[u,v] w (N0 (.bool true) w):=by
 obtain ⟨au,cu,rfl,hau⟩:=hu.form;obtain ⟨av,cv,rfl,hav⟩:=hv.form;obtain ⟨zs,hzs,hz81⟩:=zSt;refine zN func24 ?_;refine zG ?_;refine zR ?_;apply E.y8<;>intro h
 ·omega
 refine zR ?_;refine C1 (σ:=Nat) [4,5,6,14] 15 (fun a=>[(14,.int .i64 a)]) (fun a w'=>a≤l.length∧Cl w w') (fun a=>l.length-a) zk 0
  ⟨zo,Cl.refl _⟩ ⟨rfl,trivial⟩ ?_
 rintro i j w2 ⟨hi,hcl⟩;refine zR ?_;apply E.d7<;>intro h
 ·have hil:i<l.length:=by omega
  clear h;obtain ⟨gu,rfl⟩:=hau zo;obtain ⟨gv,rfl⟩:=hav zo;have ni:=C4 (i:=i) zo;have hs:=hl _ (yQ hil);have l1:∀ w',Cl w w'→m9 G.P w' 39 ⟨gu,E.U0 0 ((i:Int)).toNat 81,none⟩ (stV l[i]):=fun w' h'=>a1b (hu.step h') J7 i hil rfl (by simp [E.s8]) rfl
  have l2:∀ w',Cl w w'→m9 G.P w' 39 ⟨gv,E.U0 0 ((i:Int)).toNat 81,none⟩ (stV l[i]):=fun w' h'=>a1b (hv.step h') J7 i hil rfl (by simp [E.s8]) rfl
  have l3:∀ w',Cl w w'→m9 G.P w' 3 ⟨gv,E.U0 0 ((i:Int)).toNat 81+3,none⟩ (.int .i64 (l[i]).tags):=fun w' h'=>by
   obtain ⟨cur,h1,h2⟩:=(hv.step h').get J7 i 3 hil zd;exact D9 h1 (by rw [E.s8,zg,yZ];exact h2) rfl
  generalize l[i]=s at *;refine zR ?_;refine zC ?_;refine zR ?_;refine b7 _ (l1 _ hcl) (zR ?_);refine s7 zs hzs ?_;have d1:=Cl.alloc w2 (.cells zs.cells 39);have n1:=d8 w2 (.cells zs.cells 39);generalize w2.alloc (.cells zs.cells 39)=w3 at *;refine zR ?_;refine K2 n1 (stL s) rfl b9k (J7 _) (a5y _) (by rw [hz81];decide) (fun w4 u4=>?_)
  have n4:w4.heap[w2.heap.size]?=some (.cells (stL s).toArray 39 (0,0)):=by rw [u4.at_,B5 _ _ (by rw [hz81,J7])]
  have d4:Cl w2 w4:=u4.cl d1 (yO _);clear n1 u4 d1;have c4:=hcl.trans d4;refine zR ?_;refine zC ?_;refine zR ?_;refine b7 _ (l3 _ c4) (zR ?_);refine K2 n4 [.int .i64 s.tags] rfl zk rfl (by intro v hv;rw [zY.1 hv];rfl) (by rw [List.size_toArray,J7];exact zU rfl) (fun w5 u5=>?_)
  have n5:w5.heap[w2.heap.size]?=some (.cells (stL s).toArray 39 (0,0)):=by
   have:=u5.at_;rw [c0v (by rw [List.getElem?_toArray];exact c0w s)] at this
   exact this
  have d5:Cl w2 w5:=u5.cl d4 (yO _);have c5:=hcl.trans d5;clear n4 u5 d4 c4;refine zR ?_;refine zK 6 ?_;refine zR ?_;refine l9 (stV s) (fun w hw=>c6Q (hw.blk n5)) (zR ?_);refine zC ?_;refine zR ?_;refine l9 (stV s) (fun w hw=>l2 w (c5.trans hw)) (zR ?_);refine c0f c6f (c7c hs) rfl rfl (zR ?_);intro w6 c6;refine zR ?_;exact ⟨i+1,⟨d9 ni,trivial⟩,⟨zo,c5.trans c6⟩,zo⟩
 ·refine zR ?_;exact ⟨rfl,hcl⟩
end
section
open Go
namespace Ch
def rn (p:g9) (h f:Int):g9:={ p with half:=h,full:=f }
variable (p:g9) (h f:Int)
def Same (s t:V9):Prop:=t.san=s.san∧t.lan=s.lan∧t.uci=s.uci∧t.tags=s.tags∧t.status=s.status∧∃ h f,t.pos=rn s.pos h f
inductive b50:List V9→List V9→Prop
 | nil:b50 [] []
 | cons {s t:V9} {l k:List V9} (h:Same s t) (h':b50 l k):b50 (s::l) (t::k)
theorem b50.len {l k:List V9} (h:b50 l k):l.length=k.length:=by
 induction h with
 | nil=>rfl
 | cons _ _ ih=>simp [ih]
theorem b50.at_ {l k:List V9} (h:b50 l k):∀ (i:Nat) (s t:V9),l[i]?=some s→k[i]?=some t→Same s t:=by
 induction h with
 | nil=>intro i s t ha _;simp at ha
 | cons h1 _ ih =>
  intro i s t ha hb;cases i with
  | zero =>
   simp only [List.getElem?_cons_zero,wP] at ha hb;subst ha hb;exact h1
  | succ i =>
   simp only [List.getElem?_cons_succ] at ha hb;exact ih i s t ha hb
attribute [local irreducible] a8m a66 made D5 a6g
end Ch
end
section
open Go Go.RowKit
open E
theorem a5x.cells {w:World} {g o n c:Nat} {ms:List Mv} (h:a5x w (.slice (some ⟨g,o,none⟩) n c) ms):∀ (j:Nat) (u:Value),(ms.flatMap N3)[j]?=some u→w.cell? ⟨g,o+j,none⟩=some u:=by
 intro j u hj;have hlt:j<ms.length*3:=by
  have:=(xZ.1 hj).1;rw [H8 E5] at this;exact this
 obtain ⟨a,c',e,h⟩:=h;obtain ⟨g',o',cs,t,fz,e2,hb,h2⟩:=h zo;injection e with e1 _ _;rw [e2] at e1;injection e1 with e1;injection e1 with e1 e3 _;subst e1 e3;have hi:j/3<ms.length:=by omega
 obtain ⟨h3,h4⟩:=h2 (j/3) hi;have hk:=a3J E5 ms (j/3) (j%3) hi zo;have hjj:j/3*3+j%3=j:=by omega
 rw [hjj,hj] at hk;rw [D2 hb];have h5:(cs.extract (o+j/3*3) (o+j/3*3+3))[j%3]?=(N3 ms[j/3])[j%3]?:=by
  rw [h4];simp [Z3,N3]
 rw [← hk,Array.getElem?_extract] at h5;split at h5
 ·rw [← h5];congr 1;omega
 ·cases h5
theorem Row.mvIn {e b0:Nat} {w:World} {v:Value} {l:List Mv} (h:Row e 3 N3 b0 w v l):a5x w v l:=by
 obtain ⟨a,c,rfl,ha⟩:=h.form;refine ⟨a,c,rfl,fun h0=>?_⟩;obtain ⟨g,rfl⟩:=ha h0;obtain ⟨cur,hb,_⟩:=h.getAll E5 0 h0;refine ⟨g,0,cur,e,_,rfl,hb,fun i hi=>?_⟩;obtain ⟨cur',hb',h1,h2⟩:=h.getAll E5 i hi;rw [hb] at hb';obtain rfl:=xP (yp hb') |>.1;rw [yZ];exact ⟨h1,h2⟩
end
section
open Go Go.RowKit
open E
open Ch Bb
theorem nF {p:Prop} [Decidable p] {A B:Prop} (h:p) (h1:B):bif !decide p then A else B:=by rw [zX h];exact h1
theorem c2N (s:V9):((stL s).toArray).extract 9 78=t8 s.pos:=by
 unfold stL t8;apply Array.ext';simp only [Array.toList_extract,List.extract_eq_take_drop];rw [List.drop_left' (by rfl),List.take_left' (by rw [C8])]
theorem c2O {w:World} {b0 g n c i o:Nat} {l:List V9} (h:Row 39 81 stL b0 w (.slice (some ⟨g,0,none⟩) n c) l) (hi:i<l.length) (ho:o=i*81+9):m9 G.P w 24 ⟨g,o,none⟩ (F5 l[i].pos):=by
 subst ho;obtain ⟨cur,h1,h2,h3⟩:=h.getAll J7 i hi;have:=ldA (t:=24) (o:=i*81+9) (z:=69) h1 rfl zo;have e:cur.extract (i*81+9) (i*81+9+69)=t8 l[i].pos:=by
  rw [← c2N,← h3,Array.extract_extract];congr 1<;>omega
 rw [e] at this;exact this
theorem kOf (x:Int) {n:Nat} (h0:0<n) (h1:n≤1000):∃ k:Nat,k<n∧IntKind.i64.wrap ((IntKind.u64.wrap x).tmod (IntKind.u64.wrap (n:Int)))=(k:Int):=by
 have hx:0≤IntKind.u64.wrap x:=by
  show 0≤x%_;exact Int.emod_nonneg _ zd
 rw [a3y zo,xy hx];have a1:=Int.emod_nonneg (IntKind.u64.wrap x) (show (n:Int)≠0 by omega)
 have a2:=Int.emod_lt_of_pos (IntKind.u64.wrap x) (show (0:Int)<n by omega)
 obtain ⟨k,hk⟩:=ze a1;rw [hk] at a2 ⊢;exact ⟨k,zo,g8 zo zo⟩
theorem c4O {p:g9} {T:Tx} {n:Nat} (hn:n<2) (hT:T.length≤1000) (h:Bad p T):n<3∧a34 p n T:=⟨zo,.inl ⟨hn,hT,h⟩⟩
theorem c2P (x:Int) {n:Nat} (h0:0<n) (h1:n≤1000):∃ k:Nat,k<n∧IntKind.i64.wrap ((IntKind.u64.wrap x).tmod (n:Int))=(k:Int):=by
 obtain ⟨k,hk,e⟩:=kOf x h0 h1;rw [a3y zo] at e;exact ⟨k,hk,e⟩
set_option maxHeartbeats 4000000 in
theorem c2Q (p:g9) (hI:Ch.B7 p) (hN:Nm p) (hq:(p9 p).length≤218) (which how:Int) (w:World) :
  Calls G.P 25 #[F5 p,.int .i64 which,.int .i64 how] w (fun r w'=>∃ T n b,r = .returned (.tuple #[m7 T,.int .i64 (n:Nat),.bool b])∧(b=true→n<3∧a34 p n T)∧Cl w w'):=by
 have hNu:=hN.nums;have hlg:=fun w=>a22 p hI hNu w;obtain ⟨kw,hkw,ew⟩:=c2P which (n:=7) zd zd;have ew:IntKind.i64.wrap ((IntKind.u64.wrap which).tmod 7)=(kw:Int):=ew;obtain ⟨k2,hk2,e2⟩:=c2P which (n:=2) zd zd;have e2:IntKind.i64.wrap ((IntKind.u64.wrap which).tmod 2)=(k2:Int):=e2;obtain ⟨k6,hk6,e6⟩:=c2P which (n:=64) zd zd;have e6:IntKind.i64.wrap ((IntKind.u64.wrap which).tmod 64)=(k6:Int):=e6;obtain ⟨kh,hkh,eh⟩:=c2P how (n:=9) zd zd;have eh:IntKind.i64.wrap ((IntKind.u64.wrap how).tmod 9)=(kh:Int):=eh;refine zN func25 ?_;refine zG ?_;generalize hW:w.alloc (.cells (t8 p) 24)=W0;have hP0:W0.heap[w.heap.size]?=some (.cells (t8 p) 24 (0,0)):=by rw [← hW];exact d8 _ _
 have hE:Cl w W0:=by rw [← hW];exact Cl.alloc _ _
 clear hW;refine zR ?_;refine b7 _ (A4 hP0) (zR ?_);refine m8 (hlg W0) ?_;rintro r w1 ⟨vl,l',rfl,hperm,hL,c1⟩;obtain ⟨al,cl,rfl,hal⟩:=hL.form;refine ⟨_,rfl,?_⟩;have hlen:=hperm.length_eq;have c01:=hE.trans c1;refine zR ?_;apply E.d7<;>intro h
 ·have hnil:p9 p=[]:=List.length_eq_zero_iff.1 zo;refine zR ?_;refine ⟨[101,52],0,true,rfl,fun _=>c4O zd zd (fun q _ x hx=>by rw [hnil] at hx;cases hx),c01⟩
 have h0:0<l'.length:=by omega
 clear h;obtain ⟨k,hk,ek⟩:=kOf which h0 zo;obtain ⟨g,rfl⟩:=hal h0;have hml:l'[k]∈p9 p:=hperm.mem_iff.1 (yQ hk);have hld:=fun {o:Nat} (ho:o=k*3)=>a1b (t:=36) hL E5 k hk rfl (o:=o) ho (v:=mvV l'[k]) rfl;generalize l'[k]=m at *;obtain ⟨zm,hzm,hzm3⟩:=c5M;have hmo:=a0n hI hml;have hpc:=hI.pc;have hP1:=c1.blk hP0;refine zR ?_;refine E.o9 (by rw [a3y zo];omega) (zR ?_)
 rw [ek];refine zC ?_;refine zR ?_;refine b7 _ (hld (by simp [E.s8])) (zR ?_)
 refine s7 zm hzm ?_;have c2:=c01.trans (Cl.alloc w1 (.cells zm.cells 36));have n2:=d8 w1 (.cells zm.cells 36);have hP2:=(Cl.alloc w1 (.cells zm.cells 36)).blk hP1;have sP:=A7 hP1;have s1:=c01.size;generalize w1.alloc (.cells zm.cells 36)=w2 at *;refine zR ?_;refine K2 n2 (N3 m) rfl b4g rfl (N6 _) (by rw [hzm3];decide) (fun w3 u3=>?_)
 have hM:w3.heap[w1.heap.size]?=some (.cells (Z3 m) 36 (0,0)):=by rw [u3.at_,B5 _ _ (by rw [hzm3];rfl)];rfl
 have hP3:=(Tn.upd u3).blk hP2 zo;have c3:Cl w w3:=u3.cl c2 s1;obtain ⟨M,hMM⟩:∃ M,M=w1.heap.size:=⟨_,rfl⟩;rw [← hMM] at hM s1 sP ⊢;clear u3 n2 c2 hP2 hld hMM;refine zR ?_;rw [eh];refine zR ?_;apply E.d7<;>intro h
 ·have h7:kh<7:=by omega
  clear h;refine zR ?_;refine b7 _ (A4 hP3) (zR ?_);refine b7 _ (V5 hM) (zR ?_);refine o7 (b5p p hI hN m hml kh zo zo w3) fun w4 c4=>?_;have hw:=b7Q hI hml kh;have hwl:=b5n p m kh;generalize b66 p m kh=WT at *;refine zR ?_;exact ⟨WT,0,_,rfl,fun _=>c4O zd zo hw,c3.trans c4⟩
 have h7:¬ kh<7:=by omega
 clear h;refine zR ?_;(repeat (refine E.o9 zo ?_;refine zR ?_))
 apply E.d7<;>intro h
 ·clear h;refine zR ?_;refine A8 elStr [m7 (a9U 0),m7 (a9U 1),m7 (a9U 2),m7 (a9U 3),m7 (a9U 4),m7 (a9U 5),m7 (a9U 6)] (by rw [zb];rfl) (by intro v hv;simp only [yV,zy,xH] at hv;rcases hv with rfl|rfl|rfl|rfl|rfl|rfl|rfl<;>rfl) rfl zd zd ?_
  have n4:=d8 w3 (.cells (([m7 (a9U 0),m7 (a9U 1),m7 (a9U 2),m7 (a9U 3),m7 (a9U 4),m7 (a9U 5),m7 (a9U 6)]:List Value).flatMap fun v=>v.cells.toList).toArray 9);have c4:=c3.trans (Cl.alloc w3 (.cells (([m7 (a9U 0),m7 (a9U 1),m7 (a9U 2),m7 (a9U 3),m7 (a9U 4),m7 (a9U 5),m7 (a9U 6)]:List Value).flatMap fun v=>v.cells.toList).toArray 9));generalize w3.alloc (.cells (([m7 (a9U 0),m7 (a9U 1),m7 (a9U 2),m7 (a9U 3),m7 (a9U 4),m7 (a9U 5),m7 (a9U 6)]:List Value).flatMap fun v=>v.cells.toList).toArray 9)=w4 at *;have hld:m9 G.P w4 9 ⟨w3.heap.size,E.U0 0 ((kw:Int)).toNat 1,none⟩ (m7 (a9U kw)):=by
   refine D9 n4 ?_ rfl;rw [E.s8];rcases (by omega:kw=0∨kw=1∨kw=2∨kw=3∨kw=4∨kw=5∨kw=6) with rfl|rfl|rfl|rfl|rfl|rfl|rfl<;>rfl
  have hol:(a9U kw).length≤7:=by unfold a9U;(repeat' split)<;>decide
  have hbo:=c2F hI kw;generalize a9U kw=OT at *;refine zR ?_;rw [ew];refine zC ?_;refine zR ?_;refine b7 _ hld (zR ?_);rw [e2];exact ⟨OT,k2,true,rfl,fun _=>c4O hk2 zo hbo,c4⟩
 clear h;refine zR ?_;(repeat (refine E.o9 zo ?_;refine zR ?_))
 rw [e6];refine zT hM [.int .i64 k6] fun w4 u4=>?_;have hM4:w4.heap[M]?=some (.cells (Z3 ⟨m.fr,k6,m.promo⟩) 36 (0,0)):=u4.at_;have hP4:=(Tn.upd u4).blk hP3 zo;have c4:Cl w w4:=u4.cl c3 s1;refine zR ?_;refine zT hM4 [.int .i64 0] fun w5 u5=>?_;have hM5:w5.heap[M]?=some (.cells (Z3 ⟨m.fr,k6,0⟩) 36 (0,0)):=u5.at_;have hP5:=(Tn.upd u5).blk hP4 zo;have c5:Cl w w5:=u5.cl c4 s1;clear u4 hM4 hP4 c4 u5 hM hP3;obtain ⟨⟨a0,a1⟩,⟨b0,b1⟩,d0,d1⟩:=hmo;have hmx:∀ kd:Int,0≤kd→kd≤6→b1s ⟨m.fr,k6,kd⟩:=fun kd h1 h2=>⟨⟨a0,a1⟩,⟨by show (0:Int)≤k6;omega,by show (k6:Int)≤63;omega⟩,h1,h2⟩
 have hm0:=hmx 0 zd zd;have hq1:=fun w=>c1r p hI hNu ⟨m.fr,k6,0⟩ (b4w hm0) w;have hsq:Sqs ⟨m.fr,k6,0⟩:=⟨a0,a1,by show (0:Int)≤k6;omega,by show (k6:Int)≤63;omega,rfl⟩
 have hfin:a66 p ⟨m.fr,k6,0⟩=false→(⟨m.fr,k6,0⟩:Mv)∉p9 p:=fun h=>of_decide_eq_false h;have hut:=b02 ⟨m.fr,k6,0⟩ hm0;have t0':=hsq.t0;have t1':=hsq.t1;obtain ⟨is0,his0⟩:∃ b,a66 p ⟨m.fr,k6,0⟩=b:=⟨_,rfl⟩;rw [his0] at hfin hq1;have hP5':=fun w' (c:Cl w5 w')=>c.blk hP5;refine zG ?_;refine B0 (σ:=Bool) [12] 14 (fun b=>[(12,.bool b)]) (fun b w'=>(is0=true→b=true)∧Cl w5 w') zk ?_ (fun b j w6 h6=>?_)
 ·refine zR ?_;refine b7 _ (A4 hP5) (zR ?_);refine b7 _ (V5 hM5) (zR ?_);refine o7 (hq1 w5) fun w6 c6=>?_;cases is0
  ·refine zR ?_;refine b7 _ (a0v (c6.blk hM5)) (zR ?_);refine zC ?_;refine zR ?_;refine b7 _ (P5 (hP5' _ c6) _ zo zo) (zR ?_);refine g7 (O5 _ _ (Pc.lo hpc _) (Pc.hi hpc _)) (zR ?_);exact ⟨_,⟨rfl,trivial⟩,fun h=>(by cases h),c6⟩
  ·refine zR ?_;exact ⟨true,⟨rfl,trivial⟩,fun _=>rfl,c6⟩
 obtain ⟨hb,c6⟩:=h6;refine zR ?_;refine C1 (σ:=Nat×Bool) [12,13] 14 (fun x=>[(12,.bool x.2),(13,.int .i64 x.1)]) (fun x w'=>2≤x.1∧x.1≤6∧(is0=true→x.2=true)∧Cl w5 w') (fun x=>6-x.1) zk (2,b) ⟨yO 2,zU rfl,hb,c6⟩ ⟨rfl,rfl,trivial⟩ ?_;clear hb c6;rintro ⟨kd,b⟩ j w7 ⟨k2',k6',hb,c7⟩;simp only at k2' k6' hb c7 ⊢;have nk:=C4 (i:=kd) zo;refine zR ?_;apply E.d7<;>intro h
 ·have hk5:kd<6:=by omega
  clear h;cases b
  ·have hn0:is0=false:=by cases is0;rfl;exact absurd (hb rfl) zd
   have hq2:=fun w=>c1r p hI hNu ⟨m.fr,k6,kd⟩ (b4w (hmx kd zo zo)) w;generalize a66 p ⟨m.fr,k6,kd⟩=bx at *;refine zR ?_;refine b7 _ (A4 (hP5' _ c7)) (zR ?_);refine b7 _ (O1 (c7.blk hM5)) (zR ?_);refine b7 _ (a0v (c7.blk hM5)) (zR ?_);refine r7 (Z3 ⟨m.fr,k6,kd⟩) zk (zR ?_);refine o7 (hq2 w7) fun w8 c8=>zR ?_;exact ⟨(kd+1,bx),⟨rfl,d9 nk,trivial⟩,⟨zo,zo,fun h=>(by rw [hn0] at h;cases h),c7.trans c8⟩,by show 6-(kd+1)<6-kd;omega⟩
  ·refine zR ?_;exact ⟨(kd+1,true),⟨rfl,d9 nk,trivial⟩,⟨zo,zo,fun _=>rfl,c7⟩,by show 6-(kd+1)<6-kd;omega⟩
 ·clear h;have hul:=b3O ⟨m.fr,k6,0⟩;have href:b=false→a34 p 2 (b1R ⟨m.fr,k6,0⟩):=fun h=>.inr ⟨rfl,_,rfl,hsq,hfin (by cases is0;rfl;rw [hb rfl] at h;cases h)⟩
  generalize b1R ⟨m.fr,k6,0⟩=UT at *;refine zR ?_;refine b7 _ (V5 (c7.blk hM5)) (zR ?_);refine o7 (hut w7) fun w8 c8=>zR ?_;exact ⟨UT,2,!b,rfl,fun h=>⟨zd,href (by cases b;rfl;cases h)⟩,c5.trans (c7.trans c8)⟩
end
section
open Go Go.RowKit
open E
def Src {α:Type} (enc:α→List Value) (w:World) (v:Value) (l:List α):Prop:=∃ a c,v = .slice a l.length c∧(0<l.length→∃ g o,a=some ⟨g,o,none⟩∧∀ (j:Nat) (u:Value),(l.flatMap enc)[j]?=some u→w.cell? ⟨g,o+j,none⟩=some u)
section src
variable {α:Type} {e z b0:Nat} {enc:α→List Value} {w w':World} {a:Option Addr} {n c:Nat} {l:List α}
theorem Src.step {v:Value} (h:Src enc w v l) (hc:Cl w w'):Src enc w' v l:=by
 obtain ⟨a,c,e1,h⟩:=h;refine ⟨a,c,e1,fun h0=>?_⟩;obtain ⟨g,o,e2,h3⟩:=h h0;refine ⟨g,o,e2,fun j u hu=>?_⟩;have h4:=h3 j u hu;unfold World.cell? at h4 ⊢;cases hb:w.heap[g]? with
 | none=>simp only [hb] at h4;cases h4
 | some ob=>simp only [hc.blk hb];simpa only [hb] using h4
theorem b8b (henc:∀ x,(enc x).length=z) (l:List α) {k j:Nat} {u:Value} (h:((l.take k).flatMap enc)[j]?=some u):(l.flatMap enc)[j]?=some u:=by
 have e:l.flatMap enc=(l.take k).flatMap enc++(l.drop k).flatMap enc:=by rw [← wU,x8]
 rw [e,List.getElem?_append_left (xZ.1 h).1,h]
theorem b8c (henc:∀ x,(enc x).length=z) (l:List α) {k j:Nat} (hk:k≤l.length) {u:Value} (h:((l.drop k).flatMap enc)[j]?=some u):(l.flatMap enc)[k*z+j]?=some u:=by
 have e:l.flatMap enc=(l.take k).flatMap enc++(l.drop k).flatMap enc:=by rw [← wU,x8]
 have e2:((l.take k).flatMap enc).length=k*z:=by rw [H8 henc,yh,Nat.min_eq_left hk]
 rw [e,List.getElem?_append_right (by rw [e2];omega),e2,Nat.add_sub_cancel_left,h]
theorem Row.cells (h:Row e z enc b0 w (.slice a n c) l) (henc:∀ x,(enc x).length=z) (h0:0<l.length):n=l.length∧l.length≤c∧∃ g,a=some ⟨g,0,none⟩∧∀ (j:Nat) (u:Value),(l.flatMap enc)[j]?=some u→w.cell? ⟨g,j,none⟩=some u:=by
 rcases h.2 with ⟨_,h2⟩|⟨g,cap,cur,e1,_,e3,e4,_,_,e7⟩
 ·omega
 ·injection e1 with e1 e8 e9;subst e8 e9;refine ⟨rfl,e4,g,e1,fun j u hu=>?_⟩;have hj:j<l.length*z:=by
   have:=(xZ.1 hu).1
   rwa [H8 henc] at this
  rw [D2 e3,← xM];rw [← e7,xq,zM hj] at hu;exact hu
theorem Row.srcT (h:Row e z enc b0 w (.slice a n c) l) (henc:∀ x,(enc x).length=z) (k:Nat) (hk:k≤l.length):Src enc w (.slice (if c=0 then a else a.map (·.add (0*z))) k c) (l.take k):=by
 refine ⟨_,_,by rw [yh,Nat.min_eq_left hk],fun h0=>?_⟩
 rw [yh] at h0;obtain ⟨rfl,h1,g,rfl,h2⟩:=h.cells henc zo;refine ⟨g,0,by rw [zJ zo,wg,H6];simp,fun j u hu=>?_⟩
 rw [yZ];exact h2 j u (b8b henc l hu)
theorem Row.srcD (h:Row e z enc b0 w (.slice a n c) l) (henc:∀ x,(enc x).length=z) (k:Nat) (hk:k≤l.length) (hn:n=l.length):Src enc w (.slice (if c=k then a else a.map (·.add (k*z))) (n-k) (c-k)) (l.drop k):=by
 refine ⟨_,_,by rw [yj,hn],fun h0=>?_⟩
 rw [yj] at h0;obtain ⟨_,h1,g,rfl,h2⟩:=h.cells henc zo;refine ⟨g,k*z,by rw [zJ zo,wg,H6,yZ],fun j u hu=>?_⟩
 exact h2 _ u (b8c henc l hk hu)
end src
section gens
variable {α:Type} {t e z b:Nat} {enc:α→List Value} {dst:Option Nat} {ty:Nat} {pos:String} {af:Array Edge} {gd:Option (Nat×Bool)} {env:C9}
theorem a9O (E1:H0 t e z b) {C:World→Prop} {K:Value→Prop} {x hi:Operand} {a:Option Addr} {n c h:Nat} (hx:ev env x = .slice a n c) (hh:ev env hi = .int .i64 h) (h2:h≤c) (hk:K (.slice (if c=0 then a else a.map (·.add (0*z))) h c)) :
  a68 G.P C { dst,op:=.slice t x none (some hi) none,type:=ty,pos,after:=af,guard:=gd } env K:=by
 obtain ⟨i,zv,hi2,hzv,hsz,hby,hzs⟩:=E1.info;have he:G.P.elem t=e:=by unfold Program.elem;rw [E1.ty]
 refine ⟨_,fun w _=>?_,hk⟩;show (do pure (Next.value (← Instr.sliceAt t (ev env x) none (some (ev env hi)) none)):Sem Next).run G.P w=_
 have e2:=run_sliceAt_slice (P:=G.P) (w:=w) t (.slice a n c) none (some (.int .i64 h)) none (by rw [he];exact E1.ty)
 rw [hx,hh,yq,e2,run_slice_h (P:=G.P) w t a n c (by rw [he];exact E1.ty) .i64 h zo zo,he]
 simp [sizeOf,typeInfo,hi2,sliced,hsz]
theorem b3R (E1:H0 t e z b) {C:World→Prop} {K:Value→Prop} {x lo:Operand} {a:Option Addr} {n c h:Nat} (hx:ev env x = .slice a n c) (hh:ev env lo = .int .i64 h) (h2:h≤n) (hk:K (.slice (if c=h then a else a.map (·.add (h*z))) (n-h) (c-h))) :
  a68 G.P C { dst,op:=.slice t x (some lo) none none,type:=ty,pos,after:=af,guard:=gd } env K:=by
 obtain ⟨i,zv,hi2,hzv,hsz,hby,hzs⟩:=E1.info;have he:G.P.elem t=e:=by unfold Program.elem;rw [E1.ty]
 refine ⟨_,fun w _=>?_,hk⟩;show (do pure (Next.value (← Instr.sliceAt t (ev env x) (some (ev env lo)) none none)):Sem Next).run G.P w=_
 have e2:=run_sliceAt_slice (P:=G.P) (w:=w) t (.slice a n c) (some (.int .i64 h)) none none (by rw [he];exact E1.ty)
 rw [hx,hh,yq,e2,run_slice_l (P:=G.P) w t a n c (by rw [he];exact E1.ty) .i64 h zo zo,he]
 simp [sizeOf,typeInfo,hi2,sliced,hsz]
theorem J9 (E1:H0 t e z b) {b0:Nat} {v vx:Value} {l news:List α} {s x:Operand} {w:World} {K:Value→World→Prop}
  (hs:ev env s=v) (hrow:Row e z enc b0 w v l) (hx:ev env x=vx) (hB:Src enc w vx news) (henc:∀ x,(enc x).length=z)
  (hone:∀ x,∀ u∈enc x,u.oneCell'=true) (hlen:l.length+news.length≤100000) (hbz:b≤1000) (hb0:b0≤w.heap.size)
  (h:∀ v' w',Row e z enc b0 w' v' (l++news)→a5O b0 w v w' v'→K v' w') :
  L6 G.P { dst,op:=.call { callee:=.builtin .append,args:=#[s,x],argTypes:=#[t,t] },type:=ty,pos,after:=af,guard:=gd } env w K:=by
 obtain ⟨i,zv,hi,hzv,hsz,hby,hzs⟩:=E1.info;obtain ⟨a,c,rfl,ha⟩:=hB;by_cases h0:0<news.length
 ·obtain ⟨g,o,rfl,hc⟩:=ha h0;obtain ⟨v',w',h1,h2,h3,_,h5⟩:=run_append_own_at (P:=G.P) w b0 t ty e i zv z b E1.ty hi hzv hsz hby hzs E1.pos v l.length (l.flatMap enc) hrow ⟨g,o,none⟩ news.length c (news.flatMap enc)
   (H8 henc news) (fun j u' hu=>by rw [H6];exact hc j u' hu)
   (fun u hu=>by obtain ⟨x,_,hx⟩:=xV.1 hu;exact hone x u hx)
   (by unfold maxLen;omega) (by
    have:(l.length+news.length)*b≤100000*1000:=Nat.mul_le_mul hlen hbz;omega) hb0
  refine ⟨.inl ⟨v',w',?_,h v' w' ⟨by simpa using h2.1,by simpa using h2.2⟩ ⟨fun w0 hw0 hc=>?_,fun k o hk hne=>?_,?_⟩⟩⟩
  ·simp only [execOp,resolve,invoke,builtin,yq,xi,yx,xW,yU,xn,hs,hx,h1]
  ·subst hw0;refine Below.grown hc h3 hb0 fun k hk=>?_;rcases hrow.2 with ⟨e1,_⟩|⟨g,cap,cur,e1,e2,_⟩
   ·rw [e1] at hk;cases hk
   ·rw [e1] at hk;injection hk with hk;subst hk;exact e2
  ·rw [h3.block k (yn.1 hk).1 (fun e=>hne e.symm)];exact hk
  ·rcases h5 with h5|h5
   ·exact .inl h5
   ·exact .inr ⟨_,h5,yO _⟩
 ·have hnn:=wM (Nat.eq_zero_of_not_pos h0);subst hnn;obtain ⟨a1,c1,rfl,_⟩:=hrow.form;have hle:l.length≤c1:=by
   rcases hrow.2 with ⟨e1,e2⟩|⟨g,cap,cur,e1,_,_,e4,_⟩
   ·injection e1 with _ _ e3;omega
   ·injection e1 with _ _ e3;omega
  refine ⟨.inl ⟨_,w,?_,h _ w (by rw [zn];exact hrow) ⟨fun _ _ hc=>hc,fun _ _ hk _=>hk,.inl rfl⟩⟩⟩
  have hr:(Builtin.append_ #[t,t] ty #[.slice a1 l.length c1,.slice a 0 c]).run G.P w = .ok (.slice a1 l.length c1) w:=by
   cases a1<;>cases a<;>simp [Builtin.append_,Go.run_underlying E1.ty,sizeOf,typeInfo,hi,Builtin.lenOf,Builtin.firstCells,loadCells,loadCellsFrom,hle,storeCells]
  simp only [execOp,resolve,invoke,builtin,yq,xi,yx,xW,yU,xn,hs,hx];simp only [za] at hx ⊢;rw [hr];rfl
end gens
theorem a4Q {α:Type} {enc:α→List Value} {w:World} {g u:Nat} {fz:Nat×Nat} {cs:Array Value} {x:α} (hb:w.heap[g]?=some (.cells cs u fz)) (hc:cs.toList=enc x):Src enc w (.slice (some ⟨g,0,none⟩) 1 1) [x]:=by
 refine ⟨_,_,rfl,fun _=>⟨g,0,rfl,fun j v hv=>?_⟩⟩;rw [yZ,D2 hb,← xM,hc];simpa using hv
theorem a8u {α:Type} {e z:Nat} {enc:α→List Value} (w:World):Row e z enc w.heap.size (w.alloc (.cells #[] e)) (.slice (some ⟨w.heap.size,0,none⟩) 0 0) []:=World.ownsRow_made w #[] 0 (yO _) (xJ _) (by simp)
end
section
open Go Go.RowKit
open E
open Ch Bb
structure Wb (b B:Nat) (w w':World):Prop where
 os:w'.os=w.os
 tape:w'.tape=w.tape
 output:w'.output=w.output
 size:B≤w'.heap.size
 low:∀ k,k<B→k≠b→w'.heap[k]?=w.heap[k]?
 typ:∀ (k:Nat) (cs:Array Value) (t:Nat) (fz:Nat×Nat),t≠5→t≠160→w.heap[k]?=some (.cells cs t fz)→w'.heap[k]?=some (.cells cs t fz)
section
variable {b B:Nat} {w w' w2:World} {l:Tx}
theorem Wb.refl (b:Nat) (h:B≤w.heap.size):Wb b B w w:=⟨rfl,rfl,rfl,h,fun _ _ _=>rfl,fun _ _ _ _ _ _ h=>h⟩
theorem Wb.trans (h:Wb b B w w') (h2:Wb b B w' w2):Wb b B w w2:=⟨h2.os.trans h.os,h2.tape.trans h.tape,h2.output.trans h.output,h2.size,fun k hk hn=>(h2.low k hk hn).trans (h.low k hk hn),fun k cs t fz h1 h3 hk=>h2.typ k cs t fz h1 h3 (h.typ k cs t fz h1 h3 hk)⟩
theorem Wb.upd {o:Obj} {cs:Array Value} {fz:Nat×Nat} (u:Upd w b o w') (hb:w.heap[b]?=some (.cells cs 160 fz)) (hB:B≤w.heap.size):Wb b B w w' :=
 ⟨u.os,u.tape,u.output,by rw [u.size];exact hB,fun k _ hn=>u.else_ k hn,fun k c t f h1 h2 hk=>(Tn.upd u).blk hk (G9 hk hb h2)⟩
theorem Wb.grown {b0:Nat} {v:Value} (h:w.grownBy w' v.ownBlock) (hr:Row 5 1 a01 B w v l) (hB:B≤w.heap.size):Wb b B w w':=by
 refine ⟨h.os,h.tape,h.output,zw hB h.size,fun k hk hn=>h.block k zo (fun e=>?_),fun k cs t fz h1 h2 hk=>?_⟩
 ·have:=(Row.own hr e.symm).1;omega
 ·rw [h.block k (A7 hk) (fun e=>?_)];exact hk;rcases hr.2 with ⟨e1,_⟩|⟨g,cap,cur,e1,_,e3,_⟩
  ·rw [e1] at e;cases e
  ·rw [e1] at e;have e4:k=g:=yp e;exact G9 hk e3 h1 e4
theorem Wb.cl (h:Cl w w') (hB:B≤w.heap.size):Wb b B w w':=⟨h.os,h.tape,h.output,zw hB h.size,fun k hk _=>h.block k zo,fun k cs t fz _ _ hk=>h.blk hk⟩
theorem Wb.grow {v v':Value} (h:a5O B w v w' v') (hr:Row 5 1 a01 B w v l) (hB:B≤w.heap.size):Wb b B w w':=by
 have n:=Nb.of (b:=B) h.cl hB;refine ⟨n.os,n.tape,n.output,n.size,fun k hk _=>n.else_ k hk zo,fun k cs t fz h1 h2 hk=>h.keep k _ hk fun e=>?_⟩;rcases hr.2 with ⟨e1,_⟩|⟨g,cap,cur,e1,_,e3,_⟩
 ·rw [e1] at e;cases e
 ·rw [e1] at e;have e4:g=k:=yp e;exact G9 hk e3 h1 e4.symm
structure Bq (b B:Nat) (w:World) (l:Tx):Prop where
 is:∃ p v,(p = .pointer none∨p = .pointer (some ⟨b,0,none⟩))∧w.heap[b]?=some (.cells #[p,v] 160 (0,0))∧Row 5 1 a01 B w v l
 lt:b<B
 le:B≤w.heap.size
theorem Bq.step (h:Bq b B w l) (c:Cl w w'):Bq b B w' l:=by
 obtain ⟨p,v,hp,hk,hr⟩:=h.is;exact ⟨⟨p,v,hp,c.blk hk,hr.step c⟩,h.lt,zw h.le c.size⟩
theorem Bq.tn {P:Nat} {cs:Array Value} {fz:Nat×Nat} (h:Bq b B w l) (n:Tn P w w') (hP:w.heap[P]?=some (.cells cs 173 fz)):Bq b B w' l:=by
 obtain ⟨p,v,hp,hk,hr⟩:=h.is;exact ⟨⟨p,v,hp,n.blk hk (G9 hk hP zd),hr.tnT n hP zd⟩,h.lt,zw h.le n.size⟩
theorem Bq.fresh (hk:w.heap[b]?=some (.cells #[.pointer none,.slice none 0 0] 160 (0,0))):Bq b w.heap.size w []:=⟨⟨_,_,.inl rfl,hk,Row.nil _ _⟩,A7 hk,yO _⟩
end
section
variable {dst:Option Nat} {ty:Nat} {pos:String} {af:Array Edge} {gd:Option (Nat×Bool)} {env:C9} {w:World} {K:Value→World→Prop}
end
section
variable {b B:Nat} {w:World} {l:Tx}
end
structure Sf (P b:Nat) (p:g9) (cv:Value) (w w':World) (cv':Value):Prop where
 pos:G8 w' P b p cv'
 tn:Tn P w w'
 own:∀ k,cv'.ownBlock=some k→cv.ownBlock=some k∨w.heap.size≤k
section
variable {P b:Nat} {p:g9} {cv cv':Value} {w w' w2:World}
theorem Sf.of (h:G8 w P b p cv) (c:Cl w w'):Sf P b p cv w w' cv:=⟨h.step c,Tn.cl c,fun k hk=>.inl hk⟩
theorem Sf.cl (h:Sf P b p cv w w' cv') (c:Cl w' w2):Sf P b p cv w w2 cv':=⟨h.pos.step c,h.tn.trans (Tn.cl c),h.own⟩
theorem Sf.pre (c:Cl w2 w) (h:Sf P b p cv w w' cv'):Sf P b p cv w2 w' cv':=⟨h.pos,(Tn.cl c).trans h.tn,fun k hk=>(h.own k hk).imp id (zw c.size)⟩
theorem Sf.wb {k B:Nat} (h:Sf P b p cv w w' cv') (u:Wb k B w' w2) (hk:w.heap.size≤k) (hB:w.heap.size≤B):Sf P b p cv w w2 cv':=by
 refine ⟨⟨u.typ _ _ _ _ zd zd h.pos.hd,u.typ _ _ _ _ zd zd h.pos.bd,?_⟩,⟨u.os.trans h.tn.os,u.tape.trans h.tn.tape,u.output.trans h.tn.output,zw hB u.size,fun j hj hn=>(u.low j zo zo).trans (h.tn.else_ j hj hn)⟩,h.own⟩;rcases h.pos.ca with e|hr
 ·exact .inl e
 ·refine .inr ⟨hr.1,?_⟩;rcases hr.2 with e|⟨g,cap,cur,e1,e2,e3,e4⟩
  ·exact .inl e
  ·exact .inr ⟨g,cap,cur,e1,e2,u.typ _ _ _ _ zd zd e3,e4⟩
theorem Sf.nd (h:Sf P b p cv w w' cv') (hM:G8 w P b p cv) {k:Nat} {cs:Array Value} {t:Nat} {fz:Nat×Nat} (hk:w.heap[k]?=some (.cells cs t fz)) (ht:t≠173):w'.heap[k]?=some (.cells cs t fz):=h.tn.blk hk (G9 hk hM.hd ht)
end
structure Bz (P b M:Nat) (p:g9) (cv:Value) (d:Nd) (w:World) (k B:Nat) (cv':Value) (l:Tx) (w':World):Prop where
 sf:Sf P b p cv w w' cv'
 nd:w'.heap[M]?=some (.cells (F7 d) 141 (0,0))
 bq:Bq k B w' l
 hk:w.heap.size≤k
 hB:w.heap.size≤B
section
variable {P b M k B:Nat} {p:g9} {cv cv':Value} {d:Nd} {w w' w2:World} {l:Tx}
theorem Bz.step (h:Bz P b M p cv d w k B cv' l w') (c:Cl w' w2):Bz P b M p cv d w k B cv' l w2:=⟨h.sf.cl c,c.blk h.nd,h.bq.step c,h.hk,h.hB⟩
end
theorem Chn.tnA {w w':World} {P:Nat} {A:Array Value} (ht:Tn P w w') (hz:w.heap[P]?=some (.cells A 173 (0,0))):∀ {R:List O0},Chn w R→(∀ n∈R,n.P≠P)→Chn w' R
 | [],_,_=>trivial
 | n::R,⟨h1,h2,h3,h4,h5⟩,hd=>by
  refine ⟨ht.blk h1 (G9 h1 hz zd),h2,?_,⟨ht.blk h4.hd (hd n (yc ..)),ht.blk h4.bd (G9 h4.bd hz zd),h4.ca.elim .inl fun h=>.inr (h.tnT ht hz zd)⟩,Chn.tnA ht hz h5 fun x hx=>hd x (ye _ hx)⟩;cases R with
  | nil=>exact h3
  | cons m r=>exact Row.tnT (show Row 85 1 O8 0 w n.d.kids [m.M] from h3) ht hz zd
theorem Chn.mid {w w':World} {z:O0} {cv':Value} {A:Array Value} (ht:Tn z.P w w') (hz:w.heap[z.P]?=some (.cells A 173 (0,0))) (hp:G8 w' z.P z.b z.p cv') {R:List O0} (hR:∀ n∈R,n.P≠z.P) :
  ∀ {L:List O0},Chn w (L++z::R)→(∀ n∈L,n.P≠z.P)→Chn w' (L++{ z with cv:=cv' }::R)
 | [],⟨h1,h2,h3,h4,h5⟩,_=>by
  refine ⟨ht.blk h1 (G9 h1 hz zd),h2,?_,hp,Chn.tnA ht hz h5 hR⟩;cases R with
  | nil=>exact h3
  | cons m r=>exact Row.tnT (show Row 85 1 O8 0 w z.d.kids [m.M] from h3) ht hz zd
 | n::L,⟨h1,h2,h3,h4,h5⟩,hd=>by
  refine ⟨ht.blk h1 (G9 h1 hz zd),h2,?_,⟨ht.blk h4.hd (hd n (yc ..)),ht.blk h4.bd (G9 h4.bd hz zd),h4.ca.elim .inl fun h=>.inr (h.tnT ht hz zd)⟩,Chn.mid ht hz hp hR h5 fun x hx=>hd x (ye _ hx)⟩;cases L with
  | nil=>exact Row.tnT (show Row 85 1 O8 0 w n.d.kids [z.M] from h3) ht hz zd
  | cons m r=>exact Row.tnT (show Row 85 1 O8 0 w n.d.kids [m.M] from h3) ht hz zd
theorem J0.mid {w w':World} {G0:Nat} {g:Gm} {L:List O0} {z y:O0} {cv':Value} (h:J0 w G0 g (L++[z]) y) (ht:Tn z.P w w') (hp:G8 w' z.P z.b z.p cv') (ho:∀ k,cv'.ownBlock=some k→z.cv.ownBlock=some k∨w.heap.size≤k) (hL:∀ n∈L,n.P≠z.P):J0 w' G0 g (L++[{ z with cv:=cv' }]) y:=by
 have hch:Chn w (L++z::[y]):=by have:=h.chn;rwa [yJ] at this
 have hz:w.heap[z.P]?=some (.cells _ 173 (0,0)):=(h.chn.mem z (by simp)).hd
 have hy:∀ n∈[y],n.P≠z.P:=fun n hn=>by rw [zY.1 hn];exact fun e=>h.dis z (by simp) e.symm
 have hyl:=A7 h.node;refine ⟨ht.blk h.hb (G9 h.hb hz zd),h.cur,h.pos,?_,?_,h.kids,fun n hn=>?_,h.zcv,fun n hn=>?_,h.mo⟩
 ·obtain ⟨n,l,e,hr⟩:=h.root;cases L with
  | nil =>
   simp only [yP,yX,xB] at e;exact ⟨_,_,rfl,by rw [hr,← e.1]⟩
  | cons m r =>
   simp only [yX,xB] at e;exact ⟨_,_,rfl,by rw [hr,← e.1]⟩
 ·rw [yJ];exact Chn.mid ht hz hp hy hch hL
 ·rcases zr.1 hn with hn|hn
  ·exact h.off n (yS _ hn)
  ·have o:=h.off z (by simp)
   rw [zY.1 hn];refine ⟨o.M,o.P,o.b,fun k hk e=>?_,o.kids⟩;rcases ho k e with e|e
   ·exact o.cv k hk e
   ·rw [zY.1 hk] at e;omega
 ·rcases zr.1 hn with hn|hn
  ·exact h.dis n (yS _ hn)
  ·rw [zY.1 hn];exact h.dis z (by simp)
def a5A (w:World) (v:Value) (ns:List Bool):Prop:=∃ a c,v = .slice a ns.length c∧(0<ns.length→∃ g o cs t fz,a=some ⟨g,o,none⟩∧w.heap[g]?=some (.cells cs t fz)∧∀ i (h:i<ns.length),cs[o+i]?=some (.bool ns[i]))
section
variable {w w':World} {v:Value} {ns:List Bool}
theorem a5A.form (h:a5A w v ns):∃ a c,v = .slice a ns.length c∧(0<ns.length→∃ g o,a=some ⟨g,o,none⟩):=by
 obtain ⟨a,c,e,h⟩:=h;exact ⟨a,c,e,fun h0=>by obtain ⟨g,o,_,_,_,e,_⟩:=h h0;exact ⟨g,o,e⟩⟩
theorem a5A.step (h:a5A w v ns) (hc:Cl w w'):a5A w' v ns:=by
 obtain ⟨a,c,e,h⟩:=h;exact ⟨a,c,e,fun h0=>by obtain ⟨g,o,cs,t,fz,e,hb,h2⟩:=h h0;exact ⟨g,o,cs,t,fz,e,hc.blk hb,h2⟩⟩
theorem a5A.ld {g o n c:Nat} (h:a5A w (.slice (some ⟨g,o,none⟩) n c) ns) (i:Nat) (hi:i<ns.length):m9 G.P w 4 ⟨g,E.U0 o ((i:Int)).toNat 1,none⟩ (.bool ns[i]):=by
 obtain ⟨a,c',e,h⟩:=h;obtain ⟨g',o',cs,t,fz,e2,hb,h2⟩:=h zo;injection e with e1 _ _;rw [e2] at e1;injection e1 with e1;injection e1 with e1 e3 _;subst e1 e3;exact D9 hb (by rw [E.s8,zg,wX];exact h2 i hi) rfl
end
def b5Z (ns:List Int):Nat→List Ch.V9→List It
 | _,[]=>[]
 | i,s::r=>⟨s.mv,b9Z (nAt ns i) s,nAt ns i⟩::b5Z ns (i+1) r
theorem b51 (ns:List Int):∀ (S:List Ch.V9) (i:Nat),(b5Z ns i S).map It.tx=b8f ns i S
 | [],_=>rfl
 | s::r,i=>yM (b9Z (nAt ns i) s::·) (b51 ns r (i+1))
theorem b52 (ns:List Int):∀ (S:List Ch.V9) (i:Nat),((b5Z ns i S).map fun x=>(x.nt:Int))=c4P ns i S
 | [],_=>rfl
 | s::r,i=>yM ((nAt ns i:Int)::·) (b52 ns r (i+1))
theorem c0y (ns:List Int):∀ (S:List Ch.V9) (i:Nat),(b5Z ns i S).map It.mv=S.map fun s=>s.mv
 | [],_=>rfl
 | s::r,i=>yM (s.mv::·) (c0y ns r (i+1))
theorem a8v (ns:List Int):∀ (S:List Ch.V9) (i:Nat),(b5Z ns i S).length=S.length
 | [],_=>rfl
 | s::r,i=>yM (· + 1) (a8v ns r (i+1))
theorem c0z {ns:List Int} {i:Nat} {p:g9} {m:Mv} {mo:Int×Tx} {R:List Ch.V9} (h1:(p9 p).length≤218) (h2:m∈p9 p) (h3:P3 p m=true) (h4:b5s p m (nAt ns i) (b5u (nAt ns i) p m)) (h5:a18 (made p m) (b5Z ns (i+1) R)):a18 p (b5Z ns i (a6g p m mo::R)):=by
 have e:(a6g p m mo).mv=m:=rfl;show (p9 p).length≤218∧(a6g p m mo).mv∈p9 p∧P3 p (a6g p m mo).mv=true∧nAt ns i<3∧b5s p (a6g p m mo).mv (nAt ns i) (b9Z (nAt ns i) (a6g p m mo))∧a18 (made p (a6g p m mo).mv) (b5Z ns (i+1) R);rw [e,b5y];exact ⟨h1,h2,h3,b5w ns i,h4,h5⟩
theorem b8d {ns:List Int}:∀ (ms:List Mv) (i:Nat) (l:List g9) (p:g9) (mo:Int×Tx),B7 p→quiet p ms=true→a18 p (b5Z ns i (a8m l p mo ms)):=by
 intro ms
 induction ms with
 | nil=>intro i l p mo _ hq;exact a59 hq
 | cons m r ih =>
  intro i l p mo hI hq;have e:=V3 l p mo m r;generalize a8m l p mo (m::r)=X at e ⊢;by_cases hl:a66 p m=true
  ·rw [zM hl] at e;have hm:m∈p9 p:=yF hl;obtain ⟨h1,h2⟩:=b5q hq hl;rw [e];exact c0z (a59 hq) hm h1 (b8a hI hm (b5w ns i)) (ih _ _ _ _ (hI.made hm) h2)
  ·rw [zJ hl] at e;rw [e];exact a59 hq
end
