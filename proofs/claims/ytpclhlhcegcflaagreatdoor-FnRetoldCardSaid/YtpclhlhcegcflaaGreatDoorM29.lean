/- One part of the proof: Pk58 Pk59 Pk60 Pk61 Pk62 Dfr2 Pk63 Pk50. -/
import Derived.ChangeKeysEq
import Derived.Test.YtpclhlhcegcflaaGreatDoorM1
import Derived.Test.YtpclhlhcegcflaaGreatDoorM3
import Derived.Test.YtpclhlhcegcflaaGreatDoorM22
import Derived.Test.YtpclhlhcegcflaaGreatDoorM27
import Derived.Test.YtpclhlhcegcflaaGreatDoorM28
namespace Go.Proofs.YtpclhlhcegcflaaGreatDoor
set_option maxRecDepth 100000
set_option linter.unusedSimpArgs false
set_option linter.unusedVariables false
section
open Go Go.RowKit
open E
open Ch Bb
def c2Z (P b:Nat) (p:A3) (cv:Value) (m:Mv) (w:World) (r:Ending) (w':World):Prop :=
 ∃ cv' M d,r = .returned (.tuple #[.pointer (some ⟨M,0,none⟩),.nilIface])∧H0 w' P b p cv'∧Tn P w w'∧w.heap.size≤M∧w'.heap[M]?=some (.cells (F0 d) 141 (0,0))
 ∧d.mv=m∧(d.tags:Int)=a6V p m∧d.kids = .slice none 0 0∧∀ k,cv'.ownBlock=some k→(cv.ownBlock=some k∨w.heap.size≤k)∧k≠M
theorem c21 {p:A3} (hI:B7 p) (hN:a1z p) (hle:(z8 p).length≤218) {P b:Nat} {cv:Value} {T:Tx} (hT1:T.length≤1000) {q:X1} (hq:zzP T=some q) {m:Mv} (hm:m∈y8 p) (hs:a0v p m=true) (hn:b7x p m q) (w:World) (hT:C1 w) (hM:H0 w P b p cv) :
  Calls G.P 341 #[.agg #[],.pointer (some ⟨P,0,none⟩),s8 T] w (c2Z P b p cv m w):=by
 obtain ⟨x,hx,hd,hxm⟩:=c4a hI hm hn;have hr:=L4 hI hm;have htx:=((a0I hI).1 x hx).2;rw [hxm] at htx;refine (c3M hI hN hle hT1 hq hd w hT hM).mono ?_;rintro r w' ⟨cv',M,h1,h2,h3,h4,h5,h6,h7⟩;exact ⟨cv',M,D3 x,h1,h2,h3,h5,h6,hxm,by show (x.tags:Int)=_;rw [htx];exact b0S (by have:=hr.2.2.2.2;omega) hs,rfl,h7⟩
theorem c3N {p:A3} (hI:B7 p) (hN:a1z p) (hle:(z8 p).length≤218) {P b:Nat} {cv:Value} {T:Tx} (hT1:T.length≤1000) {q:X1} (hq:zzP T=some q) {m:Mv} (hm:m∈y8 p) (hs:a0v p m=true) (hn:b7x p m q) (w:World) (hT:C1 w) (hM:H0 w P b p cv) :
  Calls G.P 349 #[.agg #[],.pointer (some ⟨P,0,none⟩),s8 T] w (c2Z P b p cv m w):=by
 refine zN Tryz.func349 ?_;refine zR ?_;have cb:=Cl.alloc w (.cells #[] 150);generalize w.alloc (.cells #[] 150)=w1 at *;refine s9 #[] zk (zR ?_);refine o8 (c21 hI hN hle hT1 hq hm hs hn w1 (hT.cl cb) (hM.step cb)) ?_;rintro r w2 ⟨cv',M,d,rfl,h2,h3,h5,h6,h7,h8,h9,h10⟩;refine ⟨_,rfl,?_⟩;refine zR ?_;exact ⟨cv',M,d,rfl,h2,(Tn.cl cb).trans h3,Nat.le_trans cb.size h5,h6,h7,h8,h9,fun k hk=>⟨(h10 k hk).1.imp id (Nat.le_trans cb.size),(h10 k hk).2⟩⟩
theorem c5D {p:A3} (hI:B7 p) {m:Mv} (hm:m∈y8 p):(b2q (mbOf p) (p.turn+1) p.ep m 0:Int)=a6V p m:=by
 rcases (P6 hI m).1 hm with ⟨hp,_⟩ | ⟨r,hr,ha⟩
 ·rw [b2t hI hp rfl rfl rfl,Nat.zero_or];exact b6h hI hp ((a03 hI hp).1 hm)
 ·obtain ⟨r4,rt,rb,hc⟩:=I5 hI hr;have hrm:=hr.is;have h1:=b0I hI hc;have f:=L4 hI hm;have e0:b2q (mbOf p) (p.turn+1) p.ep m 0=b2q (mbOf p) (p.turn+1) p.ep m (if (if A0 (r:Int)<homeK r then (-1:Int) else 1)=1 then 1 else 2):=by
   have hw:(if A0 (r:Int)<homeK r then (-1:Int) else 1)=1∨(if A0 (r:Int)<homeK r then (-1:Int) else 1)=-1:=by split<;>simp
   have hmv:=hc.mv;have hk:=hc.k;have ht:=hI.turn;have hto:=hc.to;have hking:=hc.king;generalize (if A0 (r:Int)<homeK r then (-1:Int) else 1)=w at *
   have hcap:capTag p m=0:=by
    have hto':sq p m.to=0:=by rw [hmv];exact hto
    have hk6:kindOf (sq p m.fr)≠6:=by rw [hmv];simp only [hking,Y6 hI];decide
    unfold capTag;rw [if_neg (fun e=>e hto'),if_neg (fun e=>hk6 e.2)]
   have hcas:Q8 p m=if w=1 then 1 else 2:=by
    unfold Q8;rw [hmv];simp only [hking];rcases ht with e | e<;>rcases hw with e2 | e2<;>rw [e] at hk ⊢ <;> subst e2<;>rw [hk]<;>decide
   unfold b2q;simp only [b3D hI f.1 f.2.1 f.2.2.1 f.2.2.2.1,b3E hI f.1 f.2.1,hcap,hcas,Nat.or_zero,Nat.or_self,Nat.zero_or]
  rw [e0,h1];obtain ⟨x,hx,hxm⟩:=(a7g hI).2 m r hr hm;have hxt:=((a7g hI).1 x hx).2;rw [hxm] at hxt;have h0:m.promo=0:=by rw [hrm];rfl
  have e1:U5 p m=a6V p m:=by unfold U5 a6V a1s;rw [if_pos h0]
  rw [← e1,← hxt];rw [hrm] at hxm;subst hrm;clear h1 e0 hxt e1 h0 f hc rb rt ha hm;unfold a09 at hx;rcases List.mem_append.1 hx with hx | hx
  ·split at hx
   ·rw [List.mem_singleton.1 hx] at hxm ⊢;have hrr:=hr.right;clear hr hx;rcases hI.turn with ht | ht<;>rw [ht] at hxm hrr ⊢ <;> rcases hrr with rfl | rfl<;>first | rfl | (simp only at hxm;exact absurd hxm zd)
   ·cases hx
  ·split at hx
   ·rw [List.mem_singleton.1 hx] at hxm ⊢;have hrr:=hr.right;clear hr hx;rcases hI.turn with ht | ht<;>rw [ht] at hxm hrr ⊢ <;> rcases hrr with rfl | rfl<;>first | rfl | (simp only at hxm;exact absurd hxm zd)
   ·cases hx
def c4e:List (Nat×Value):=[(110,.int .i8 5),(98,.int .i8 4),(114,.int .i8 3),(113,.int .i8 2)]
def c4v (cs:Array Value):Bool:=Nat.beq cs.size 256&&(match cs[110]?,cs[98]?,cs[114]?,cs[113]? with | some (Value.int .i8 5),some (Value.int .i8 4),some (Value.int .i8 3),some (Value.int .i8 2)=>true | _,_,_,_=>false)&&cs.toList.all (fun v=>v.oneCell')
theorem c5e:∃ cs,G.P.built 402 c4e=some cs∧cs.size=256∧cs[110]?=some (Value.int .i8 5)∧cs[98]?=some (Value.int .i8 4)∧cs[114]?=some (Value.int .i8 3)∧cs[113]?=some (Value.int .i8 2)∧∀ v∈cs.toList,v.oneCell'=true:=by
 have h:(match G.P.built 402 c4e with
  | some cs=>c4v cs
  | none=>false)=true:=by kernel_rfl
 cases e:G.P.built 402 c4e with
 | none=>rw [e] at h;cases h
 | some cs =>
  rw [e] at h;simp only [c4v,Bool.and_eq_true] at h;obtain ⟨⟨h1,h2⟩,h3⟩:=h;split at h2
  ·rename_i a1 a2 a3 a4;exact ⟨cs,rfl,Nat.eq_of_beq_eq_true h1,a1,a2,a3,a4,fun v hv=>List.all_eq_true.1 h3 v hv⟩
  ·cases h2
theorem c6s:(G.P.info? 402).map (·.size)=some 256:=by kernel_rfl
theorem c65:∃ z,(G.P.info? 402).bind (·.zero)=some z∧z.cells.size=256:=a0H zk
theorem c5f {k:Int} (h:2≤k∧k≤5):∃ c:UInt8,a3J k=[c]:=by
 rcases (by omega:k=2∨k=3∨k=4∨k=5) with rfl | rfl | rfl | rfl<;>exact ⟨_,rfl⟩
theorem c5g {p:A3} (hI:B7 p) {m:Mv} (hm:m∈y8 p):b4g m=A7 m.fr++F7 m.fr++(A7 m.to++F7 m.to)++(if m.promo=0 then [] else a3J m.promo):=by
 obtain ⟨f0,f1,t0,t1,hp⟩:=L4 hI hm;unfold b4g;rw [sq2 f0 f1,sq2 t0 t1];by_cases e:m.promo=0
 ·rw [if_pos e,if_neg zo]
 ·rw [if_neg e,if_pos zo]
theorem c5h:∀ n:Nat,n<64→IntKind.i8.wrap (IntKind.u8.wrap (IntKind.u8.wrap (((97+n%8:Nat):Int)-97)+IntKind.u8.wrap (IntKind.u8.wrap (((49+n/8:Nat):Int)-49)*8)))=(n:Int):=by decide +kernel
set_option maxHeartbeats 4000000 in
theorem c3O {p:A3} (hI:B7 p) (hN:a1z p) {P b:Nat} {cv:Value} {m:Mv} (hm:m∈y8 p) (w:World) (hT:C1 w) (hM:H0 w P b p cv) :
  Calls G.P 351 #[.agg #[],.pointer (some ⟨P,0,none⟩),s8 (b4g m)] w (c2Z P b p cv m w):=by
 obtain ⟨f0,f1,t0,t1,hpm⟩:=L4 hI hm;have htag:=c5D hI hm;obtain ⟨fr,hfr⟩:=Int.eq_ofNat_of_zero_le f0;obtain ⟨to,hto⟩:=Int.eq_ofNat_of_zero_le t0;obtain ⟨e0,e1,e2⟩:=b2F fr zo;obtain ⟨g0,g1,g2⟩:=b2F to zo;have hu:=c5g hI hm;rw [hfr,hto,e0,g0] at hu;have cA1:=c5h fr zo;have cA2:=c5h to zo;rw [← e1,← e2] at cA1;rw [← g1,← g2] at cA2;generalize UInt8.ofNat (97+fr%8)=a0 at *;generalize UInt8.ofNat (49+fr/8)=a1 at *;generalize UInt8.ofNat (97+to%8)=a2 at *;generalize UInt8.ofNat (49+to/8)=a3 at *;have hlp:∀ k,k<w.heap.size→∀ M,w.heap.size≤M→k≠M:=fun k h M h2=>by omega
 have hown:∀ M,w.heap.size≤M→∀ k,cv.ownBlock=some k→k≠M:=fun M h k hk=>by
  rcases hM.ca with e | hr
  ·rw [e] at hk;cases hk
  ·have:=(hr.own hk).2;omega
 have hpn:(D3 ⟨m,0⟩).mv.promo=0∨(1≤(D3 ⟨m,0⟩).mv.promo∧(D3 ⟨m,0⟩).mv.promo≤6∧(mbOf p).at (D3 ⟨m,0⟩).mv.fr.toNat≠0):=by
  show m.promo=0∨(1≤m.promo∧m.promo≤6∧(mbOf p).at m.fr.toNat≠0);rcases hpm with e | ⟨e1,e2,e3⟩
  ·exact .inl e
  ·refine .inr ⟨zo,zo,?_⟩;rw [T8 hI.pc zo,Int.toNat_of_nonneg f0];intro e;rw [e] at e3;exact absurd e3 zd
 have hturn:=hI.turn;by_cases hp:m.promo=0
 ·have hT4:b4g m=[a0,a1,a2,a3]:=by rw [hu,if_pos hp];rfl
  rw [hT4];have hsz:(tx [a0,a1,a2,a3]).size=4:=rfl;have k0:(tx [a0,a1,a2,a3]).get! (IntKind.i64.wrap (0+0)).toNat=a0:=rfl;have k1:(tx [a0,a1,a2,a3]).get! (IntKind.i64.wrap (0+1)).toNat=a1:=rfl;have q0:(tx [a0,a1,a2,a3]).get! (Int.toNat 0)=a0:=rfl;have q1:(tx [a0,a1,a2,a3]).get! (Int.toNat 1)=a1:=rfl;have q2:(tx [a0,a1,a2,a3]).get! (Int.toNat 2)=a2:=rfl;have q3:(tx [a0,a1,a2,a3]).get! (Int.toNat 3)=a3:=rfl;refine zN Tryz.func351 ?_;refine zR ?_;have cb:=Cl.alloc w (.cells #[] 151);generalize w.alloc (.cells #[] 151)=w1 at *;refine a7n 2 (zR ?_);rw [k0];refine E.o7 (by rw [e1];omega) (zR ?_)
  rw [k0];refine E.o7 (by rw [e1];omega) (zR ?_)
  rw [k1];refine E.o7 (by rw [e2];omega) (zR ?_)
  rw [k1];refine E.o7 (by rw [e2];omega) (zR ?_)
  refine zK 10 ?_;refine zR ?_;rw [q0,q1,cA1];intro w2 c2;refine zR ?_;refine zK 10 ?_;refine zR ?_;rw [q2,q3,cA2];intro w3 c3;refine zR ?_;refine E.o7 zo (zR ?_);refine E.o7 zo (zR ?_);refine s9 (F0 (D3 ⟨⟨fr,to,0⟩,0⟩)) zk (zR ?_);refine t7 _ a6b ?_;have cw3:=cb.trans (c2.trans c3);have s3:=cw3.size;have cB:=cw3.trans (Cl.alloc w3 (.cells (Value.agg (F0 (D3 ⟨⟨0,0,0⟩,0⟩))).cells 141));have nB:=q8 w3 (.cells (Value.agg (F0 (D3 ⟨⟨0,0,0⟩,0⟩))).cells 141);obtain ⟨M,hMM⟩:∃ M,M=w3.heap.size:=⟨_,rfl⟩;rw [← hMM] at nB s3 ⊢;generalize w3.alloc (.cells (Value.agg (F0 (D3 ⟨⟨0,0,0⟩,0⟩))).cells 141)=w4 at *;clear hMM;refine zR ?_;refine J6 nB (C6 ⟨⟨fr,to,0⟩,0⟩) rfl a1x rfl (X3 _) (Nat.le_of_ble_eq_true rfl) fun w5 u5=>?_;have hX:w5.heap[M]?=some (.cells (F0 (D3 ⟨⟨fr,to,0⟩,0⟩)) 141 (0,0)):=by have h7:=u5.at_;rw [C5 _ _ (by rw [I7];rfl)] at h7;exact h7
  have c5:Cl w w5:=u5.cl cB s3;have hXl5:=N2 hX;have neP:=hlp _ (N2 hM.hd) M s3;have neb:=hlp _ (N2 hM.bd) M s3;have hown:=hown M s3;clear u5 nB cB cw3;refine zR ?_;have emv:(⟨fr,to,0⟩:Mv)=m:=Mv.ext' hfr.symm hto.symm hp.symm;rw [emv] at hX;refine W3 false (N1 rfl _) (zR ?_);refine o8 (a89 (h:=A8 p (inCheck p)) (B:=mbOf p) (d:=D3 ⟨m,0⟩) (by show p.turn+1=1∨p.turn+1=2;omega) (U1 p 0).1 (U1 p 0).2 (U1 p 1).1 (U1 p 1).2 f0 f1 t0 t1 (show (0:Nat)<64 by decide) hpn w5 ⟨c5.blk hM.hd,c5.blk hM.bd,hX,Tn.refl _ _,hT.cl c5,neP,neb⟩) ?_
  rintro r w8 ⟨rfl,h8⟩;refine ⟨_,rfl,?_⟩;have c8:Cl w w8:=h8.tn.toCl c5 s3;refine zR ?_;refine o8 (b0W hI hN (d:={ D3 ⟨m,0⟩ with tags:=b2q (mbOf p) (p.turn+1) p.ep m 0 }) hm htag w8 (hT.cl c8) (hM.step c8) h8.nd) ?_;rintro r w9 ⟨P',b',rfl,s1',s2',hH,hB,c9⟩;refine ⟨_,rfl,?_⟩;refine zR ?_;refine zT (c9.blk h8.nd) [.pointer (some ⟨P',0,none⟩)] fun w10 u10=>?_;have c10:Cl w w10:=u10.cl (c8.trans c9) s3;refine zR ?_;exact ⟨cv,M,{ D3 ⟨m,b2q (mbOf p) (p.turn+1) p.ep m 0⟩ with pos:=.pointer (some ⟨P',0,none⟩) },rfl,hM.step c10,Tn.cl c10,s3,u10.at_,rfl,htag,rfl,fun k hk=>⟨.inl hk,hown k hk⟩⟩
 ·obtain ⟨c,hc⟩:=c5f (k:=m.promo) zo;have hT5:b4g m=[a0,a1,a2,a3,c]:=by rw [hu,if_neg hp,hc];rfl
  rw [hT5];obtain ⟨cs,hcs,hc256,k5,k4,k3,k2,hone⟩:=c5e;obtain ⟨zp,hzp,hzp256⟩:=c65;have hcp:cs[c.toNat]?=some (.int .i8 m.promo):=by
   rcases (by omega:m.promo=2∨m.promo=3∨m.promo=4∨m.promo=5) with e | e | e | e<;>rw [e] at hc ⊢ <;> (rw [← (List.cons.inj hc).1];assumption)
  have q4:(tx [a0,a1,a2,a3,c]).get! (Int.toNat 4)=c:=rfl;have hsz:(tx [a0,a1,a2,a3,c]).size=5:=rfl;have k0:(tx [a0,a1,a2,a3,c]).get! (IntKind.i64.wrap (0+0)).toNat=a0:=rfl;have k1:(tx [a0,a1,a2,a3,c]).get! (IntKind.i64.wrap (0+1)).toNat=a1:=rfl;have q0:(tx [a0,a1,a2,a3,c]).get! (Int.toNat 0)=a0:=rfl;have q1:(tx [a0,a1,a2,a3,c]).get! (Int.toNat 1)=a1:=rfl;have q2:(tx [a0,a1,a2,a3,c]).get! (Int.toNat 2)=a2:=rfl;have q3:(tx [a0,a1,a2,a3,c]).get! (Int.toNat 3)=a3:=rfl;refine zN Tryz.func351 ?_;refine zR ?_;have cb:=Cl.alloc w (.cells #[] 151);generalize w.alloc (.cells #[] 151)=w1 at *;refine a7n 2 (zR ?_);rw [k0];refine E.o7 (by rw [e1];omega) (zR ?_)
  rw [k0];refine E.o7 (by rw [e1];omega) (zR ?_)
  rw [k1];refine E.o7 (by rw [e2];omega) (zR ?_)
  rw [k1];refine E.o7 (by rw [e2];omega) (zR ?_)
  refine zK 10 ?_;refine zR ?_;rw [q0,q1,cA1];intro w2 c2;refine zR ?_;refine zK 10 ?_;refine zR ?_;rw [q2,q3,cA2];intro w3 c3;refine zR ?_;refine E.o7 zo (zR ?_);refine E.o7 zo (zR ?_);refine s9 (F0 (D3 ⟨⟨fr,to,0⟩,0⟩)) zk (zR ?_);refine t7 _ a6b ?_;have cw3:=cb.trans (c2.trans c3);have s3:=cw3.size;have cB:=cw3.trans (Cl.alloc w3 (.cells (Value.agg (F0 (D3 ⟨⟨0,0,0⟩,0⟩))).cells 141));have nB:=q8 w3 (.cells (Value.agg (F0 (D3 ⟨⟨0,0,0⟩,0⟩))).cells 141);obtain ⟨M,hMM⟩:∃ M,M=w3.heap.size:=⟨_,rfl⟩;rw [← hMM] at nB s3 ⊢;generalize w3.alloc (.cells (Value.agg (F0 (D3 ⟨⟨0,0,0⟩,0⟩))).cells 141)=w4 at *;clear hMM;refine zR ?_;refine J6 nB (C6 ⟨⟨fr,to,0⟩,0⟩) rfl a1x rfl (X3 _) (Nat.le_of_ble_eq_true rfl) fun w5 u5=>?_;have hX:w5.heap[M]?=some (.cells (F0 (D3 ⟨⟨fr,to,0⟩,0⟩)) 141 (0,0)):=by have h7:=u5.at_;rw [C5 _ _ (by rw [I7];rfl)] at h7;exact h7
  have c5:Cl w w5:=u5.cl cB s3;have hXl5:=N2 hX;have neP:=hlp _ (N2 hM.hd) M s3;have neb:=hlp _ (N2 hM.bd) M s3;have hown:=hown M s3;clear u5 nB cB cw3;refine zR ?_;refine s9 cs hcs (zR ?_);refine t7 zp hzp ?_;have c6:=c5.trans (Cl.alloc w5 (.cells zp.cells 402));have n6:=q8 w5 (.cells zp.cells 402);have hX:=(Cl.alloc w5 (.cells zp.cells 402)).blk hX;have s6:=c5.size;have sX:=N2 hX;have hXl:M<w5.heap.size:=hXl5;generalize w5.alloc (.cells zp.cells 402)=w6 at *;refine zR ?_;refine J6 n6 cs.toList rfl c6s (by simpa using hc256) hone (by simp [hzp256,hc256]) fun w7 u7=>?_
  have hcsb:w7.heap[w5.heap.size]?=some (.cells cs 402 (0,0)):=by rw [u7.at_,C5 _ _ (by rw [Array.length_toList,hc256,hzp256])]
  have hX:=(Tn.upd u7).blk hX zo;have c7:=u7.cl c6 s6;refine zR ?_;rw [q4];refine E.y6 (P2.2 ⟨zo,by have:=c.toNat_lt;omega⟩) (zR ?_)
  refine d7 (.int .i8 m.promo) (W1 hcsb (by rw [E.z6,Int.toNat_natCast,Nat.zero_add,Nat.mul_one];exact hcp) rfl) (zR ?_)
  refine E.o7 hp (zR ?_);refine b0N hX _ fun w7b u7b=>?_;have hX:w7b.heap[M]?=some (.cells (F0 (D3 ⟨⟨fr,to,m.promo⟩,0⟩)) 141 (0,0)):=u7b.at_;have c7b:=u7b.cl c7 s3;refine zR ?_;have emv:(⟨fr,to,m.promo⟩:Mv)=m:=Mv.ext' hfr.symm hto.symm rfl;rw [emv] at hX;refine W3 false (N1 rfl _) (zR ?_);refine o8 (a89 (h:=A8 p (inCheck p)) (B:=mbOf p) (d:=D3 ⟨m,0⟩) (by show p.turn+1=1∨p.turn+1=2;omega) (U1 p 0).1 (U1 p 0).2 (U1 p 1).1 (U1 p 1).2 f0 f1 t0 t1 (show (0:Nat)<64 by decide) hpn w7b ⟨c7b.blk hM.hd,c7b.blk hM.bd,hX,Tn.refl _ _,hT.cl c7b,neP,neb⟩) ?_
  rintro r w8 ⟨rfl,h8⟩;refine ⟨_,rfl,?_⟩;have c8:Cl w w8:=h8.tn.toCl c7b s3;refine zR ?_;refine o8 (b0W hI hN (d:={ D3 ⟨m,0⟩ with tags:=b2q (mbOf p) (p.turn+1) p.ep m 0 }) hm htag w8 (hT.cl c8) (hM.step c8) h8.nd) ?_;rintro r w9 ⟨P',b',rfl,s1',s2',hH,hB,c9⟩;refine ⟨_,rfl,?_⟩;refine zR ?_;refine zT (c9.blk h8.nd) [.pointer (some ⟨P',0,none⟩)] fun w10 u10=>?_;have c10:Cl w w10:=u10.cl (c8.trans c9) s3;refine zR ?_;exact ⟨cv,M,{ D3 ⟨m,b2q (mbOf p) (p.turn+1) p.ep m 0⟩ with pos:=.pointer (some ⟨P',0,none⟩) },rfl,hM.step c10,Tn.cl c10,s3,u10.at_,rfl,htag,rfl,fun k hk=>⟨.inl hk,hown k hk⟩⟩
noncomputable def b3l (t:Nat) (nm:String) (f:Nat):Bool:=match G.P.info? t,G.P.underlying t with
 | some i,some (.struct _)=>(match i.methods.find? (·.name==nm) with
  | some m=>m.path.isEmpty&&(match m.func with
   | some (g,b)=>Nat.beq g f && !b
   | none=>false)
  | none=>false)
 | _,_=>false
theorem c3n {t f:Nat} {nm:String} (h:b3l t nm f=true) (k:Nat) (v:Value) (w:World):(method (k+1) t v nm).run G.P w = .ok (f,v) w∧(nilAhead (k+1) t v nm).run G.P w = .ok (some false) w:=by
 unfold b3l at h;split at h
 ·rename_i i fs hi hu;split at h
  ·rename_i m hm;rw [Bool.and_eq_true] at h;obtain ⟨hp,h⟩:=h;split at h
   ·rename_i g b hf;rw [Bool.and_eq_true] at h;obtain ⟨hg,hb⟩:=h;have hg:=Nat.eq_of_beq_eq_true hg;have hb:b=false:=by cases b<;>simp_all
    subst hg hb;have hp:m.path=#[]:=by simpa using hp
    constructor
    ·simp [method,run_typeInfo w hi,hm,hp,hf,follow,receiverAt,Place.get,run_underlying hu]
    ·simp [nilAhead,run_typeInfo w hi,hm,hp,hf,followBlind,run_underlying hu]
   ·cases h
  ·cases h
 ·cases h
section gens
variable {dst:Option Nat} {ty:Nat} {pos:String} {af:Array Edge} {gd:Option (Nat×Bool)} {env:C0}
theorem c37 {w:World} {K:Value→World→Prop} {t:Nat} {x:Operand} {fs:Array Field} (ht:G.P.underlying t=some (.struct fs)) (h:K (.iface t (ev env x)) w):L5 G.P { dst,op:=.makeInterface t x,type:=ty,pos,after:=af,guard:=gd } env w K:=by
 refine ⟨.inl ⟨.iface t (ev env x),w,?_,h⟩⟩;simp [execOp,Instr.makeInterface,run_underlying ht]
theorem c5i {C:World→Prop} {K:Value→Prop} {nm:String} {x:Operand} (h:K (.func (.method nm) #[ev env x] #[])):b3X G.P C { dst,op:=.makeFunc (.method nm) #[x] #[],type:=ty,pos,after:=af,guard:=gd } env K:=by
 refine ⟨_,fun w _=>?_,h⟩;simp [execOp,Instr.makeFunc]
theorem c4D {C:World→Prop} {K:Value→Prop} {nm:String} {x:Operand} {t f:Nat} {v:Value} (hx:ev env x = .func (.method nm) #[.iface t v] #[]) (hd:b3l t nm f=true) (h:K (.func (.method nm) #[.iface t v] #[])):b3X G.P C { dst,op:=.nilCheck x,type:=ty,pos,after:=af,guard:=gd } env K:=by
 refine ⟨_,fun w _=>?_,h⟩;have h2:=fun k=>(c3n hd k v w).2;obtain ⟨k,hk⟩:∃ k,G.P.types.size+Made.depth=k+1:=⟨G.P.types.size+Made.depth-1,by unfold Made.depth;omega⟩
 simp [execOp,hx,hk,h2]
theorem c4w {w:World} {K:Value→World→Prop} {nm:String} {x:Operand} {args:Array Operand} {argTypes:Array Nat} {t f:Nat} {v:Value} (vs:Array Value) (hx:ev env x = .iface t v) (hd:b3l t nm f=true) (hfn:G.fn f=true) (ha:v::(args.map (ev env)).toList=vs.toList)
  (h:Calls G.P f vs w (fun r w'=>∃ v,r = .returned v∧K v w')):L5 G.P { dst,op:=.call { callee:=.invoke x nm,args,argTypes },type:=ty,pos,after:=af,guard:=gd } env w K:=by
 obtain ⟨x',h1,h2,h3⟩:=G.enters f hfn;have h4:=fun k=>(c3n hd k v w).1;obtain ⟨k,hk⟩:∃ k,G.P.types.size+Made.depth=k+1:=⟨G.P.types.size+Made.depth-1,by unfold Made.depth;omega⟩
 have ha:#[v]++args.map (ev env)=vs:=Array.toList_inj.1 (by simpa using ha)
 subst ha;refine ⟨.inr (.inr ⟨f,_,?_,h⟩)⟩;have e0:(#[Value.iface t v]++args.map (ev env))[0]?=some (.iface t v):=by
  rw [Array.getElem?_append_left (show 0<1 by decide)];rfl
 have e1:(#[Value.iface t v]++args.map (ev env)).extract 1 (#[Value.iface t v]++args.map (ev env)).size=args.map (ev env):=by
  apply Array.ext';simp;exact List.take_of_length_le (by simp)
 obtain ⟨c,hb⟩:=Option.isSome_iff_exists.1 h2;have e2:(callMethod (.iface t v) nm (args.map (ev env))).run G.P w = .ok (.enter f (#[v]++args.map (ev env))) w:=by
  simp [callMethod,hk,h4,callFunc,h1,h3,hb]
 simp only [execOp,resolve,invoke,Sem.run_bind,Sem.run_pure,Result.andThen_ok,hx,e0,e1,e2]
end gens
def ntT (n:Nat):Nat:=if n=0 then 149 else if n=1 then 150 else 151
def ntV (n:Nat):Value:=.iface (ntT n) (.agg #[])
theorem c67:∃ fs,G.P.underlying 149=some (.struct fs):=by
 have h:(match G.P.underlying 149 with | some (.struct _)=>true | _=>false)=true:=by kernel_rfl
 split at h
 ·rename_i a e;exact ⟨a,e⟩
 ·cases h
theorem c68:∃ fs,G.P.underlying 150=some (.struct fs):=by
 have h:(match G.P.underlying 150 with | some (.struct _)=>true | _=>false)=true:=by kernel_rfl
 split at h
 ·rename_i a e;exact ⟨a,e⟩
 ·cases h
theorem c6A:∃ fs,G.P.underlying 151=some (.struct fs):=by
 have h:(match G.P.underlying 151 with | some (.struct _)=>true | _=>false)=true:=by kernel_rfl
 split at h
 ·rename_i a e;exact ⟨a,e⟩
 ·cases h
theorem c09 (n:Nat) (hn:n<3) (w:World):Calls G.P 53 #[.int .i64 n] w (D5 (ntV n) w):=by
 obtain ⟨f0,u0⟩:=c67;obtain ⟨f1,u1⟩:=c68;obtain ⟨f2,u2⟩:=c6A;rcases (by omega:n=0∨n=1∨n=2) with rfl | rfl | rfl
 ·refine zN Tryz.func53 ?_;refine zR ?_;refine s9 #[] zk (zR ?_);refine c37 u0 (zR ?_);exact ⟨rfl,rfl⟩
 ·refine zN Tryz.func53 ?_;refine zR ?_;refine s9 #[] zk (zR ?_);refine c37 u1 (zR ?_);exact ⟨rfl,rfl⟩
 ·refine zN Tryz.func53 ?_;refine zR ?_;refine s9 #[] zk (zR ?_);refine c37 u2 (zR ?_);exact ⟨rfl,rfl⟩
theorem c6B:b3l 149 "Decode" 341=true:=by kernel_rfl
theorem c6C:b3l 150 "Decode" 349=true:=by kernel_rfl
theorem c6D:b3l 151 "Decode" 351=true:=by kernel_rfl
theorem c6E:b3l 149 "Encode" 104=true:=by kernel_rfl
theorem c6F:b3l 150 "Encode" 105=true:=by kernel_rfl
theorem c6G:b3l 151 "Encode" 106=true:=by kernel_rfl
def c5j (p:A3) (m:Mv) (n:Nat) (T:Tx):Prop:=(n<2∧T.length≤1000∧∃ q,zzP T=some q∧b7x p m q)∨(n=2∧T=b4g m)
theorem c5k {p:A3} (hI:B7 p) (hN:a1z p) (hle:(z8 p).length≤218) {P b:Nat} {cv:Value} {T:Tx} {n:Nat} {m:Mv} (hm:m∈y8 p) (hs:a0v p m=true) (hn:c5j p m n T) :
  ∃ f,b3l (ntT n) "Decode" f=true∧G.fn f=true∧∀ w,C1 w→H0 w P b p cv→Calls G.P f #[.agg #[],.pointer (some ⟨P,0,none⟩),s8 T] w (c2Z P b p cv m w):=by
 rcases hn with ⟨h2,hT1,q,hq,hqn⟩ | ⟨rfl,rfl⟩
 ·rcases (by omega:n=0∨n=1) with rfl | rfl
  ·exact ⟨_,c6B,rfl,fun w hT hM=>c21 hI hN hle hT1 hq hm hs hqn w hT hM⟩
  ·exact ⟨_,c6C,rfl,fun w hT hM=>c3N hI hN hle hT1 hq hm hs hqn w hT hM⟩
 ·exact ⟨_,c6D,rfl,fun w hT hM=>c3O hI hN hm w hT hM⟩
theorem Fr.drop1 {M:Nat} {S:List Nat} {w w':World} (h:Fr (M::S) w w') (hM:w.heap.size≤M):Fr S w w' :=
 ⟨h.os,h.tape,h.output,h.size,fun k hk hn=>h.else_ k hk (fun hm=>by
  rcases List.mem_cons.1 hm with e | e
  ·omega
  ·exact hn e)⟩
set_option maxHeartbeats 1000000 in
theorem c5V {w:World} {G0:Nat} {g:Gm} {L:List O4} {z:O4} {n:Nat} {T:Tx} {m:Mv} (hT:C1 w) (h:K3 w G0 g L z) (hI:B7 z.p) (hN:a1z z.p) (hle:(z8 z.p).length≤218) (hm:m∈y8 z.p) (hs:a0v z.p m=true) (hn:c5j z.p m n T)
  (hI':B7 (made z.p m)) (hle':(z8 (made z.p m)).length≤218) (hJ:∀ n∈L++[z],B7 n.p) (hlen:L.length+2≤100000) :
  Calls G.P 52 #[.pointer (some ⟨G0,0,none⟩),s8 T,ntV n,.pointer none] w (fun r w'=>r = .returned .nilIface∧∃ g' z' y,z'.Same z∧(∃ ad n c,z'.cv = .slice (some ad) n c)∧K3 w' G0 g' (L++[z']) y∧w.heap.size≤y.M∧y.d.mv=m∧(y.d.tags:Int)=a6V z.p m
  ∧y.p=made z.p m∧w.heap.size≤y.P∧((g'.meth:Int),g'.out)=X4 ((L++[z]).map O4.p++[y.p]) y.p ((g.meth:Int),g.out)∧Fr [z.M,z.P,G0] w w'):=by
 have hpos:=h.pos;obtain ⟨f,hd,hfn,hdc⟩:=c5k (P:=g.P) (b:=z.b) (cv:=z.cv) hI hN hle hm hs hn;unfold ntV;refine zN Tryz.func52 ?_;refine zG ?_;refine A4 (σ:=Nat×Value×Nd) [9,10] 11 (fun s=>[(9,.pointer (some ⟨s.1,0,none⟩)),(10,.nilIface)]) (fun s w'=>H0 w' z.P z.b z.p s.2.1∧Tn z.P w w'∧w.heap.size≤s.1∧w'.heap[s.1]?=some (.cells (F0 s.2.2) 141 (0,0))∧s.2.2.mv=m∧(s.2.2.tags:Int)=a6V z.p m∧s.2.2.kids = .slice none 0 0∧∀ k,s.2.1.ownBlock=some k→(z.cv.ownBlock=some k∨w.heap.size≤k)∧k≠s.1) zk ?_ (fun s j w3 hs3=>?_)
 ·have c2:Cl w w.drew:=Cl.drew (Cl.refl _);have h2:=h.step c2;refine zR ?_;refine I8.mk3 (fun w'=>w'.heap[G0]?=some (.cells (gmA g) 131 (0,0))) [0,1,2,3,4,5,6,7,8] (.cons 9 (.cons 10 (.cons 11 (.cons 12 (.cons 13 (.cons 14 .done .nil) .nil) (.cons 13 (.cons 12 (.cons 14 .done .nil) .nil) .nil)) (.cons 12 (.cons 11 (.cons 13 (.cons 14 .done .nil) .nil) .nil) .nil)) .nil) .nil) h2.hb zk (zR ?_);refine g9 _ (fun w' hw=>a4T hw) (zR ?_);refine c5i (zR ?_);refine c4D rfl hd (zE ?_);refine c4w #[.agg #[],.pointer (some ⟨g.P,0,none⟩),s8 T] rfl hd hfn (by rw [Array.toList_map];rfl) ?_
  refine (hdc w.drew (hT.cl c2) h2.posM).mono ?_;rintro r w3 ⟨cv',M,d,rfl,hM3,n3,sM,hX,hmv,htg,hk,hown⟩;refine ⟨_,rfl,?_⟩;rw [hpos] at hM3 n3;have hb3:=n3.blk h2.hb (J4 h2.hb h2.chn.last.2.2.hd zd);iterate 20 (all_goals (first | exact trivial | refine And.intro hb3 ?_ | refine And.intro ?_ ?_ | refine zR ?_))
  all_goals exact ⟨(M,cv',d),⟨rfl,rfl,trivial⟩,hM3,(Tn.cl c2).trans n3,Nat.le_trans c2.size sM,hX,hmv,htg,hk,fun k hk=>⟨(hown k hk).1.imp id (Nat.le_trans c2.size),(hown k hk).2⟩⟩
 obtain ⟨M,cv',d⟩:=s;obtain ⟨hM3,n3,sM,hX,hmv,htg,hk,hown⟩:=hs3;simp only at hM3 n3 sM hX hmv htg hk hown;have h2:=h;have h3:=h2.recv n3 hM3 (fun k hk=>(hown k hk).1);have hlt:=h2.chn.lt;have hMl:∀ n∈L++[z],n.off [M]:=fun n hn=>(hlt n hn).off (fun k hk=>by rw [List.mem_singleton.1 hk];exact sM)
 have hoff:∀ n∈L++[{ z with cv:=cv' }],n.off [M]:=fun n hn=>by
  rcases List.mem_append.1 hn with hn | hn
  ·exact hMl n (List.mem_append_left _ hn)
  ·have o:=hMl z (by simp)
   rw [List.mem_singleton.1 hn];exact ⟨o.M,o.P,o.b,fun k hk e=>(hown k e).2 (List.mem_singleton.1 hk),o.kids⟩
 have hJ2:∀ n∈L++[{ z with cv:=cv' }],Ch.B7 n.p:=fun n hn=>by
  rcases List.mem_append.1 hn with hn | hn
  ·exact hJ n (List.mem_append_left _ hn)
  ·rw [List.mem_singleton.1 hn];exact hI
 have hT3:C1 w3:=hT.fr (Fr.tn (S:=[z.P]) n3 (.inl (by simp))) fun k hk cs t fz hh=>by
  rw [List.mem_singleton.1 hk] at hh;rw [← (Obj.cells.inj (Option.some.inj (h2.chn.last.2.2.hd.symm.trans hh))).2.1];decide
 have hGM:=b8T (d:=d) hT3 h3 hI hN hle (by rw [hmv];exact hm) (by rw [hmv];exact htg) hk hX hoff (by rw [hmv];exact hI') (by rw [hmv];exact hle') hJ2 hlen
 refine zR ?_;refine I1 true (F8 rfl) (zR ?_);refine o8 hGM ?_;rintro e w4 ⟨rfl,g',z',y,⟨hsame.M,hsame.P,hsame.b,hsame.p⟩,hkc,hG4,y1,y2,y3,y4,y5,hend,f4⟩;refine ⟨_,rfl,?_⟩;refine zR ?_;have s3:=n3.size;have hmap:(L++[{ z with cv:=cv' }]).map O4.p=(L++[z]).map O4.p:=by simp
 rw [hmap] at hend;refine ⟨rfl,g',z',y,⟨hsame.M,hsame.P,hsame.b,hsame.p⟩,hkc,hG4,by rw [y1];omega,y2.trans hmv,by rw [y3];exact htg,by rw [y4,hmv],zo,hend,?_⟩
 have f4:Fr [M,z.M,z.P,G0] w3 w4:=f4;have f3:Fr [M,z.M,z.P,G0] w w3:=Fr.tn n3 (.inl (by simp))
 exact (f3.trans f4).drop1 zo
def ntText (k:Nat) (p:A3) (m:Mv):Tx:=if k=0 then b33 p m else if k=1 then b1C p m else b4g m
theorem c5l {p:A3} (hI:B7 p) (hN:a1z p) (hle:(z8 p).length≤218) {d:Nd} {P b M:Nat} {ad:Addr} {n0 c0:Nat} (hm:d.mv∈y8 p) (htg:(d.tags:Int)=a6V p d.mv) {k:Nat} (hk:k<3) :
  ∃ f,b3l (ntT k) "Encode" f=true∧G.fn f=true∧∀ w,C1 w→H0 w P b p (.slice (some ad) n0 c0)→w.heap[M]?=some (.cells (F0 d) 141 (0,0))→Calls G.P f #[.agg #[],.pointer (some ⟨P,0,none⟩),.pointer (some ⟨M,0,none⟩)] w (K4 (s8 (ntText k p d.mv)) w):=by
 obtain ⟨f0,f1,t0,t1,hpm⟩:=L4 hI hm;have q3:=fun w' hT hP hM=>b0X (P:=P) (b:=b) (M:=M) (ad:=ad) (n0:=n0) (c0:=c0) hI hN hle hm id htg w' hT hP hM;have q4:=fun w' hT hP hM=>b1b (P:=P) (b:=b) (M:=M) (ad:=ad) (n0:=n0) (c0:=c0) hI hN hle hm id htg w' hT hP hM;rw [b88 hI hm htg] at q3;rw [b89 hI hm htg] at q4;rcases (by omega:k=0∨k=1∨k=2) with rfl | rfl | rfl
 ·exact ⟨_,c6E,rfl,q3⟩
 ·exact ⟨_,c6F,rfl,q4⟩
 ·exact ⟨_,c6G,rfl,fun w hT hP hM=>b1a (P:=P) f0 f1 t0 t1 ⟨zo,zo⟩ w hM _ rfl⟩
section gens
variable {dst:Option Nat} {ty:Nat} {pos:String} {af:Array Edge} {gd:Option (Nat×Bool)} {env:C0}
theorem c5E {w:World} {K:Value→World→Prop} {nm:String} {x:Operand} (h:K (.func (.method nm) #[ev env x] #[]) w):L5 G.P { dst,op:=.makeFunc (.method nm) #[x] #[],type:=ty,pos,after:=af,guard:=gd } env w K:=by
 refine ⟨.inl ⟨_,w,?_,h⟩⟩;simp [execOp,Instr.makeFunc]
theorem c5m {w:World} {K:Value→World→Prop} {nm:String} {x:Operand} {t f:Nat} {v:Value} (hx:ev env x = .func (.method nm) #[.iface t v] #[]) (hd:b3l t nm f=true) (h:K (.func (.method nm) #[.iface t v] #[]) w):L5 G.P { dst,op:=.nilCheck x,type:=ty,pos,after:=af,guard:=gd } env w K:=by
 refine ⟨.inl ⟨_,w,?_,h⟩⟩;have h2:=fun k=>(c3n hd k v w).2;obtain ⟨k,hk⟩:∃ k,G.P.types.size+Made.depth=k+1:=⟨G.P.types.size+Made.depth-1,by unfold Made.depth;omega⟩
 simp [execOp,hx,hk,h2]
end gens
theorem c3s {w:World} {G0:Nat} {g:Gm} (hb:w.heap[G0]?=some (.cells (gmA g) 131 (0,0))):Calls G.P 54 #[.pointer (some ⟨G0,0,none⟩)] w (D5 (.pointer (some ⟨g.cur,0,none⟩)) w):=by
 refine zN Tryz.func54 ?_;refine zR ?_;refine d7 (.pointer (some ⟨g.cur,0,none⟩)) (W1 hb rfl rfl) (zR ?_);exact ⟨rfl,rfl⟩
theorem c3P (a b:Value):c2v 51 #[a,b]:=by
 intro w;refine callsD_of_wpS (P:=Tryz.prog) Tryz.func51 rfl fun c₀ cs hu=>?_;apply wpS_seq;apply wpS_region;simp [wpOpsS,go_sem,recoverD,hu,Tryz.ntmps51,Exit.thenS];refine wpS_cond (t:=false) (by simp [Act.eval,Array.replicate]) ?_
 simp only [Bool.false_eq_true,if_false];refine wpS_of_wp (wp_skip ?_);cases c₀;simp_all [bodyPostS,results,Tryz.results51]
end
section
open Go Go.RowKit
open E
theorem c5W {f:Nat} {fn:Func} {A B:Code} {i:Nat} {mk df:Oper} {args:List Value} {w:World} {R:Ending→World→Prop} {fc t:Nat} {caps:Array Operand} (RES:C0→World→Value→Prop)
  (hf:G.P.funcs[f]?=some fn) (hb:fn.body=some (.seq A (.seq (.region i #[mk,df] false) B))) (hn:args.length≤fn.ntmps) (hkA:P7 fn.ntmps A=true) (hkB:P7 fn.ntmps B=true) (ht:t<fn.ntmps)
  (hmg:mk.guard=none) (hmo:mk.op = .makeFunc (.func fc) #[] caps) (hmd:mk.dst=some t) (hdg:df.guard=none) (hdo:df.op = .defer { callee:=.value (.tmp t),args:=#[],argTypes:=#[] }) (hdd:df.dst=none)
  (hfc:G.fn fc=true) (hres:∀ (a:Act) w v,RES (s7 a) w v→(results fn a.tmps).run G.P w = .ok v w)
  (h:vc G A (a8o args) w (fun x e w1=>x = .normal∧∃ cs:Array Value,(caps.map (ev e)).toList=cs.toList∧c2v fc cs∧vc G B (upd e t (.func (.func fc) #[] cs)) w1 (fun x e w2=>(x = .normal∨x = .ret)∧∃ v,RES e w2 v∧R (.returned v) w2))) :
  Calls G.P f args.toArray w R:=by
 refine calls_of_wp_defers hf hb ?_;have hsz:(args.toArray++Array.replicate (fn.ntmps-args.toArray.size) undef).size=fn.ntmps:=by simp;omega
 have henv:s7 { tmps:=args.toArray++Array.replicate (fn.ntmps-args.toArray.size) undef,defers:=[] }=a8o args:=by
  funext t;unfold s7 a8o;rw [b3f];simp only [Array.getD_eq_getD_getElem?,List.getD_eq_getElem?_getD];by_cases ht:t<args.length
  ·rw [Array.getElem?_append_left (by simpa using ht)];simp
  ·rw [Array.getElem?_append_right (by simpa using ht)]
   rw [List.getElem?_eq_none zo];simp only [Option.getD_none];cases hx:(Array.replicate (fn.ntmps-args.toArray.size) undef)[t-args.toArray.size]? with
   | none=>rfl
   | some v =>
    have:=Array.getElem?_eq_some_iff.1 hx;obtain ⟨h1,h2⟩:=this;simp at h2;simp [h2]
 refine wp_seq ?_;refine a6R (G:=G) (N:=fn.ntmps) (ds:=[]) A _ _ ?_ hkA _ w hsz rfl (by rw [henv];exact h)
 rintro x a w1 hs hd ⟨rfl,cs,hcap,hid,hB⟩;show Code.wp G.P (.seq (.region i #[mk,df] false) B) _ a w1;refine wp_seq (wp_region_list ?_);have hcap:caps.map (ev (s7 a))=cs:=Array.toList_inj.1 hcap;obtain ⟨fnc,c1,c2,c3⟩:=G.enters fc hfc;have hmx:(execOp a.eval mk).run G.P w1 = .ok (.value (.func (.func fc) #[] (caps.map (ev (s7 a))))) w1:=by
  obtain ⟨d,o,ty,ps,af,g⟩:=mk;simp only at hmo hmg hmd;subst hmo;rw [S0];simp [execOp,Instr.makeFunc]
 obtain ⟨a1,ha1⟩:∃ a1:Act,a1=a.put (some t) (.func (.func fc) #[] (caps.map (ev (s7 a)))):=⟨_,rfl⟩;have hs1:a1.tmps.size=fn.ntmps:=by rw [ha1,a1e,hs]
 have hd1:a1.defers=[]:=by rw [ha1,W5,hd]
 have he1:s7 a1=upd (s7 a) t (.func (.func fc) #[] (caps.map (ev (s7 a)))):=by rw [ha1];exact a8i _ (by rw [hs];exact ht)
 have hdx:(execOp a1.eval df).run G.P w1 = .ok (.defer { target:=.fn (.func fc) (caps.map (ev (s7 a))),args:=#[] }) w1:=by
  obtain ⟨d,o,ty,ps,af,g⟩:=df;simp only at hdo hdg hdd;subst hdo;rw [S0,he1];simp [execOp,resolve,ev,b5y,Deferred.ofValue]
 have hw1:Region.wanted mk (yielded #[mk,df] a.tmps)=true:=by unfold Region.wanted;rw [hmg]
 have hw2:Region.wanted df (yielded #[mk,df] a1.tmps)=true:=by unfold Region.wanted;rw [hdg]
 show wpList G.P #[mk,df] _ [mk,df] a w1;unfold wpList;rw [if_pos hw1];refine .inl ?_;unfold Oper.wp;rw [hmx,Oper.upon_value,hmd,← ha1];unfold wpList;rw [if_pos hw2];refine .inl ?_;unfold Oper.wp;rw [hdx,Oper.upon_defer,hdd];unfold wpList;have hs2:({ a1 with defers:={ target:=.fn (.func fc) (caps.map (ev (s7 a))),args:=#[] }::a1.defers }:Act).put none undef={ a1 with defers:=[{ target:=.fn (.func fc) (caps.map (ev (s7 a))),args:=#[] }] }:=by rw [hd1];rfl
 rw [hs2];show Code.wp G.P B _ _ w1;refine a6R (G:=G) (N:=fn.ntmps) (ds:=[{ target:=.fn (.func fc) (caps.map (ev (s7 a))),args:=#[] }]) B _ _ ?_ hkB _ w1 hs1 rfl (by
  have:s7 { a1 with defers:=[{ target:=.fn (.func fc) (caps.map (ev (s7 a))),args:=#[] }] }=s7 a1:=rfl;rw [this,he1,hcap];exact hB)
 rintro x a' w2 hs' hd' ⟨hx,v,h3,hR⟩;have hL:Leaves G.P fn a'.tmps R a'.defers .returning w2:=by
  rw [hd'];refine leaves_cons (f:=fc) (args:=#[]++caps.map (ev (s7 a))) (by simp) ?_ ?_
  ·simp [invoke,callFunc,c1,c3];cases hbd:fnc.body with
   | none=>rw [hbd] at c2;cases c2
   | some c=>simp
  ·rw [Array.empty_append];rw [hcap];refine (hid w2).mono ?_;rintro e u' w3 ⟨rfl,rfl,rfl⟩;exact ⟨_,hres _ _ _ h3,hR⟩
 rcases hx with rfl | rfl
 ·exact hL
 ·exact hL
structure c6t (t1 t2 y1 y2:Nat) (e:C0) (w:World) (v:Value):Prop where
 ex:∃ v1 v2,v = .tuple #[v1,v2]∧(∃ a,e t1 = .pointer (some a)∧l8 G.P w y1 a v1)∧∃ a,e t2 = .pointer (some a)∧l8 G.P w y2 a v2
theorem c3t {fn:Func} {t1 t2 y1 y2:Nat} (hr:fn.results=#[.cell t1 y1,.cell t2 y2]) (a:Act) (w:World) (v:Value) (h:c6t t1 t2 y1 y2 (s7 a) w v):(results fn a.tmps).run G.P w = .ok v w:=by
 obtain ⟨v1,v2,rfl,⟨a1,e1,l1⟩,a2,e2,l2⟩:=h.ex;have e1:a.tmps[t1]?.getD undef = .pointer (some a1):=by rw [← Array.getD_eq_getD_getElem?];exact e1
 have e2:a.tmps[t2]?.getD undef = .pointer (some a2):=by rw [← Array.getD_eq_getD_getElem?];exact e2
 simp [results,hr,e1,e2,asAddr,a5D l1,a5D l2]
end
section
open Go Go.RowKit
open E
open Ch Bb
def c3u (n:Nat):A3→List (Mv×Tx)→Prop
 | p,[]=>(y8 p).length≤218
 | p,x::r=>(y8 p).length≤218∧x.1∈y8 p∧a0v p x.1=true∧c5j p x.1 n x.2∧c3u n (made p x.1) r
theorem c3u.head {n:Nat} {p:A3}:∀ {l:List (Mv×Tx)},c3u n p l→(y8 p).length≤218
 | [],h=>h
 | _::_,h=>h.1
def b1E (k:Nat):A3→List Mv→List Tx
 | _,[]=>[]
 | p,m::r=>ntText k p m::b1E k (made p m) r
set_option maxHeartbeats 4000000 in
theorem c38 {p:A3} (hI:B7 p) (hh:p.half≤1000000) (hf:p.full≤1000000) {n k:Nat} (hn:n<3) (hk:k<3) (l:List (Mv×Tx)) (hl:c3u n p l) (hlen:l.length≤80) (usual:Bool) (hu:usual=true→p=a22) {v:Value} {b0:Nat} (w:World) (hT:C1 w) (hS:Spc w) (hrow:Row 9 1 a4E b0 w v (l.map Prod.snd)) :
  Calls G.P 20 #[s8 (if usual then [] else fenT p),v,.int .i64 n,.int .i64 k] w (fun r w'=>∃ u,r = .returned (.tuple #[u,.bool true])∧Row 9 1 a4E w.heap.size w' u (b1E k p (l.map Prod.fst))∧Cl w w'):=by
 obtain ⟨al,cl,rfl,hal⟩:=hrow.form;rw [List.length_map] at hal ⊢;have hle:=a4a hI;have hq0:=hl.head;have hbg:=fun w hT hS=>b9f hI zo zo zo usual hu w hT hS;obtain ⟨S,hst0⟩:∃ S,S=b1E k p (l.map Prod.fst):=⟨_,rfl⟩;rw [← hst0];generalize (if usual then ([]:Tx) else fenT p)=T0 at *
 refine c5W (fc:=51) (t:=15) (args:=[s8 T0,.slice al l.length cl,.int .i64 n,.int .i64 k]) (c6t 8 9 42 4) Tryz.func20 rfl (by simp [Tryz.ntmps20]) zk zk (by simp [Tryz.ntmps20]) rfl rfl rfl rfl rfl rfl zk (fun a w v h=>c3t rfl a w v h) (zR ?_)
 refine t7 (.slice none 0 0) zk ?_;have ca:=Cl.alloc w (.cells (Value.slice none 0 0).cells 42);have na:(w.alloc (.cells (Value.slice none 0 0).cells 42)).heap[w.heap.size]?=some (.cells #[.slice none 0 0] 42 (0,0)):=q8 w _;have sa:=y9 w (.cells (Value.slice none 0 0).cells 42);generalize w.alloc (.cells (Value.slice none 0 0).cells 42)=w1 at *;refine zR ?_;refine t7 (.bool false) zk ?_;have cb:=ca.trans (Cl.alloc w1 (.cells (Value.bool false).cells 4));have na:=(Cl.alloc w1 (.cells (Value.bool false).cells 4)).blk na;have nb:(w1.alloc (.cells (Value.bool false).cells 4)).heap[w1.heap.size]?=some (.cells #[.bool false] 4 (0,0)):=q8 w1 _;have sb:=y9 w1 (.cells (Value.bool false).cells 4);generalize w1.alloc (.cells (Value.bool false).cells 4)=w2 at *;obtain ⟨Ra,hRa⟩:∃ R,R=w.heap.size:=⟨_,rfl⟩;obtain ⟨Rb,hRb⟩:∃ R,R=w1.heap.size:=⟨_,rfl⟩;have hab:Ra<Rb:=by omega
 rw [← hRa] at na;rw [← hRb] at nb;rw [← hRa,← hRb];clear ca sa sb;refine zR ?_;refine ⟨rfl,#[.pointer (some ⟨Ra,0,none⟩),.pointer (some ⟨Rb,0,none⟩)],by rw [Array.toList_map];rfl,c3P _ _,?_⟩
 refine zR ?_;refine o8 (hbg w2 (hT.cl cb) (hS.cl cb)) ?_;rintro e w4 ⟨G0,rfl,⟨⟨g,z,hG,hzp,hzM,hzP,hmo⟩,c4,sG⟩⟩;refine ⟨_,rfl,?_⟩;have c04:=cb.trans c4;have s3:=cb.size;have na:=c4.blk na;have nb:=c4.blk nb;have hst1:([]:List Tx)++b1E k z.p ((l.drop 0).map Prod.fst)=S:=by rw [hst0,hzp];rfl
 have hIz:Ch.B7 z.p:=by rw [hzp];exact hI
 have hNz:Ng z.p 0:=by rw [hzp];exact ⟨zo,zo⟩
 have hlz:c3u n z.p (l.drop 0):=by rw [hzp];exact hl
 clear hst0 hmo hbg hzp hle hq0 hl hh hf hu hI hS;refine zR ?_;refine I1 true (F8 rfl) (zR ?_);refine A9 (σ:=Nat×List O4×O4×Gm×List Tx×Value) [13,14,25] 26 (fun s=>[(25,.int .i64 s.1)])
  (fun s w'=>s.1≤l.length∧K3 w' G0 s.2.2.2.1 s.2.1 s.2.2.1∧s.2.1.length=s.1∧Ch.B7 s.2.2.1.p∧Ng s.2.2.1.p s.1∧c3u n s.2.2.1.p (l.drop s.1)∧(∀ n∈s.2.1++[s.2.2.1],Ch.B7 n.p)∧w.heap.size≤s.2.2.1.M∧w.heap.size≤s.2.2.1.P
  ∧s.2.2.2.2.1++b1E k s.2.2.1.p ((l.drop s.1).map Prod.fst)=S∧s.2.2.2.2.1.length=s.1∧Row 9 1 a4E w.heap.size w' s.2.2.2.2.2 s.2.2.2.2.1
  ∧w'.heap[Ra]?=some (.cells #[s.2.2.2.2.2] 42 (0,0))∧w'.heap[Rb]?=some (.cells #[.bool false] 4 (0,0))∧Cl w w') (fun s=>l.length-s.1) zk
  (0,[],z,g,[],.slice none 0 0) ⟨Nat.zero_le _,hG,rfl,hIz,hNz,hlz,fun n hn=>by rw [List.mem_singleton.1 hn];exact hIz,Nat.le_trans s3 hzM,Nat.le_trans s3 hzP,hst1,rfl,Row.nil _ _,na,nb,c04⟩ ⟨rfl,trivial⟩ ?_
 clear hG hIz hNz hlz hzM hzP hst1 na nb c04 c4;rintro ⟨i,L,z,g,O,vr⟩ j w5 ⟨hi,hG,hLl,hIz,hNz,hlz,hJ,hzM,hzP,hst,hOl,hR,na,nb,c5⟩;simp only at hi hG hLl hIz hNz hlz hJ hzM hzP hst hOl hR na nb c5 ⊢;obtain ⟨av,kv,rfl,_⟩:=hR.form;have ni:=C2 (i:=i) zo;refine zR ?_;apply E.b7<;>intro h
 ·have hil:i<l.length:=by omega
  clear h;obtain ⟨gm,rfl⟩:=hal zo;rw [List.drop_eq_getElem_cons hil] at hst hlz;have hld:∀ w',Cl w w'→l8 G.P w' 9 ⟨gm,E.W6 0 ((i:Int)).toNat 1,none⟩ (s8 (l[i]).2):=fun w' c=>by
   obtain ⟨cur,h1,h2⟩:=(hrow.step c).get B5 i 0 (by rw [List.length_map];exact hil) zd
   refine W1 h1 ?_ rfl;rw [E.z6,Int.toNat_natCast,Nat.zero_add];rw [List.getElem_map] at h2;exact h2
  generalize l[i]=mt at *;obtain ⟨m,T⟩:=mt;obtain ⟨hq0,hml,hsan,hsay,hlz2⟩:=hlz;have hst:O++ntText k z.p m::b1E k (made z.p m) ((l.drop (i+1)).map Prod.fst)=S:=hst;simp only at hld hml hsan hsay hlz2;have hN:=(hNz.nm zo).nums;have hle:=a4a hIz;have hle:(z8 z.p).length≤218:=by omega
  have hgp:=b6R hG.hb;rw [hG.pos] at hgp;have hI2:=Ch.B7.made hIz hml;have hle2:(z8 (made z.p m)).length≤218:=by have:=a4a hI2;have:=hlz2.head;omega
  have hN2:=hNz.made hIz m;refine zR ?_;refine zC ?_;refine zR ?_;refine d7 _ (hld _ c5) (zR ?_);refine d9 hgp (zR ?_);refine d9 (c09 n hn _) (zR ?_);refine o8 (c5V (hT.cl c5) hG hIz hN hle hml hsan hsay hI2 hle2 hJ zo) ?_;rintro e w9 ⟨rfl,g',z',y,hsame,⟨ad,n1,k1,hkc⟩,hG9,y1,y2,y3,y4,y5,hend,f9⟩;refine ⟨_,rfl,?_⟩;have hnd:=hG.node;have hps:=hG.chn.last.2.2.hd;have hgb:=hG.hb;have s5:=c5.size;have hkS:∀ k∈[z.M,z.P,G0],w.heap.size≤k:=fun k hk=>by
   simp only [List.mem_cons,List.not_mem_nil,or_false] at hk;omega
  have c9:Cl w w9:=f9.toCl hkS c5;have off9:∀ {k:Nat} {cs:Array Value} {t:Nat} {fz:Nat×Nat},w5.heap[k]?=some (.cells cs t fz)→t≠141→t≠173→t≠131→w9.heap[k]?=some (.cells cs t fz):=fun {k cs t fz} h h1 h2 h3=>f9.blk h fun hm=>by
   simp only [List.mem_cons,List.not_mem_nil,or_false] at hm;rcases hm with e | e | e
   ·exact J4 h hnd h1 e
   ·exact J4 h hps h2 e
   ·exact J4 h hgb h3 e
  have na9:=off9 na zd zd zd;have nb9:=off9 nb zd zd zd;have hR9:Row 9 1 a4E w.heap.size w9 (.slice av O.length kv) O:=hR.frT f9 fun k hk=>by
   simp only [List.mem_cons,List.not_mem_nil,or_false] at hk;rcases hk with e | e | e
   ·rw [e];exact ⟨_,_,_,hnd,zd⟩
   ·rw [e];exact ⟨_,_,_,hps,zd⟩
   ·rw [e];exact ⟨_,_,_,hgb,zd⟩
  have hPz:=hG9.chn.mem z' (by simp)
  rw [hsame.p,hsame.P,hkc] at hPz;have hNode:=hG9.node;have hcur:=hG9.cur;obtain ⟨f,hd,hfn,hec⟩:=c5l (P:=z.P) (b:=z'.b) (M:=y.M) (ad:=ad) (n0:=n1) (c0:=k1) hIz hN hle (d:=y.d) (by rw [y2];exact hml) (by rw [y2];exact y3) hk
  rw [y2] at hec;have hJ9:∀ n∈(L++[z'])++[y],Ch.B7 n.p:=fun n hn=>by
   rcases List.mem_append.1 hn with hn | hn
   ·rcases List.mem_append.1 hn with hn | hn
    ·exact hJ n (List.mem_append_left _ hn)
    ·rw [List.mem_singleton.1 hn,hsame.p];exact hIz
   ·rw [List.mem_singleton.1 hn,y4];exact hI2
  have hst2:(O++[ntText k z.p m])++b1E k y.p ((l.drop (i+1)).map Prod.fst)=S:=by rw [y4,← hst];simp
  have hnt:=fun w=>c09 k hk w;unfold ntV at hnt;have hdc:=c3s ((Cl.drew (Cl.refl w9)).blk hG9.hb);have hec:=hec w9.drew (hT.cl (c9.trans (Cl.drew (Cl.refl w9)))) (hPz.step (Cl.drew (Cl.refl w9))) ((Cl.drew (Cl.refl w9)).blk hNode);generalize ntText k z.p m=TV at *;refine zR ?_;refine I1 true (F8 rfl) (zR ?_);have fin:∀ w10 w11 w12 v',Cl w9 w10→a8b w.heap.size w10 (.slice av O.length kv) w11 v'→Row 9 1 a4E w.heap.size w11 v' (O++[TV])→Upd w11 Ra (.cells #[v'] 42 (0,0)) w12 →
    i+1≤l.length∧K3 w12 G0 g' (L++[z']) y∧(L++[z']).length=i+1∧Ch.B7 y.p∧Ng y.p (i+1)∧c3u n y.p (l.drop (i+1))∧(∀ n∈(L++[z'])++[y],Ch.B7 n.p)∧w.heap.size≤y.M∧w.heap.size≤y.P
   ∧(O++[TV])++b1E k y.p ((l.drop (i+1)).map Prod.fst)=S∧(O++[TV]).length=i+1∧Row 9 1 a4E w.heap.size w12 v' (O++[TV])
   ∧w12.heap[Ra]?=some (.cells #[v'] 42 (0,0))∧w12.heap[Rb]?=some (.cells #[.bool false] 4 (0,0))∧Cl w w12:=by
   intro w10 w11 w12 v' c10 hg hr' u12;have c010:=c9.trans c10;have kg:KT 9 w10 w11:=KT.grow (hR9.step c10) hg;have na11:=kg _ _ _ zd (c10.blk na9);have ku:KT 42 w11 w12:=KT.upd u12 na11;refine ⟨hil,ku.game (kg.game (hG9.step c10) zd zd zd zd zd) zd zd zd zd zd,by rw [List.length_append,hLl];rfl,by rw [y4];exact hI2,by rw [y4];exact hN2,by rw [y4];exact hlz2,hJ9,
    by omega,zo,hst2,by rw [List.length_append,hOl];rfl,ku.row hr' zd,u12.at_,ku _ _ _ zd (kg _ _ _ zd (c10.blk nb9)),u12.cl (hg.toCl rfl c010) zo⟩
  have cD:Cl w9 w9.drew:=Cl.drew (Cl.refl _);have hOn:O.length+1≤1000:=by omega
  rw [hcur] at hdc;clear hst hst2 hJ9 hend hPz hNode hkS f9 hnd hps hgb off9 hsay hlz2 hld;refine I8.mk2 [1,3,4] (.cons 0 (.cons 2 (.cons 5 (.cons 6 (.cons 7 (.cons 8 (.cons 9 (.cons 10 (.cons 11 (.cons 12 .done .nil) .nil) .nil) .nil) .nil) .nil) .nil) (.cons 6 (.cons 5 (.cons 7 (.cons 8 (.cons 9 (.cons 10 (.cons 11 (.cons 12 .done .nil) .nil) .nil) .nil) .nil) .nil) (.cons 7 (.cons 5 (.cons 8 (.cons 9 (.cons 10 (.cons 11 (.cons 12 .done .nil) .nil) .nil) .nil) .nil) (.cons 8 (.cons 5 (.cons 9 (.cons 10 (.cons 11 (.cons 12 .done .nil) .nil) .nil) .nil) .nil) .nil)) .nil)) .nil)) .nil) (.cons 2 (.cons 0 (.cons 5 (.cons 6 (.cons 7 (.cons 8 (.cons 9 (.cons 10 (.cons 11 (.cons 12 .done .nil) .nil) .nil) .nil) .nil) .nil) .nil) (.cons 6 (.cons 5 (.cons 7 (.cons 8 (.cons 9 (.cons 10 (.cons 11 (.cons 12 .done .nil) .nil) .nil) .nil) .nil) .nil) (.cons 7 (.cons 5 (.cons 8 (.cons 9 (.cons 10 (.cons 11 (.cons 12 .done .nil) .nil) .nil) .nil) .nil) (.cons 8 (.cons 5 (.cons 9 (.cons 10 (.cons 11 (.cons 12 .done .nil) .nil) .nil) .nil) .nil) .nil)) .nil)) .nil)) (.cons 5 (.cons 0 (.cons 6 (.cons 7 (.cons 8 (.cons 9 (.cons 10 (.cons 11 (.cons 12 .done .nil) .nil) .nil) .nil) .nil) .nil) .nil) (.cons 6 (.cons 0 (.cons 7 (.cons 8 (.cons 9 (.cons 10 (.cons 11 (.cons 12 .done .nil) .nil) .nil) .nil) .nil) .nil) (.cons 7 (.cons 0 (.cons 8 (.cons 9 (.cons 10 (.cons 11 (.cons 12 .done .nil) .nil) .nil) .nil) .nil) (.cons 8 (.cons 0 (.cons 9 (.cons 10 (.cons 11 (.cons 12 .done .nil) .nil) .nil) .nil) (.cons 9 (.cons 0 (.cons 10 (.cons 11 (.cons 12 .done .nil) .nil) .nil) (.cons 10 (.cons 0 (.cons 11 (.cons 12 .done .nil) .nil) .nil) .nil)) .nil)) .nil)) .nil)) .nil)) (.cons 6 (.cons 0 (.cons 5 (.cons 7 (.cons 8 (.cons 9 (.cons 10 (.cons 11 (.cons 12 .done .nil) .nil) .nil) .nil) .nil) .nil) (.cons 7 (.cons 5 (.cons 8 (.cons 9 (.cons 10 (.cons 11 (.cons 12 .done .nil) .nil) .nil) .nil) .nil) (.cons 8 (.cons 5 (.cons 9 (.cons 10 (.cons 11 (.cons 12 .done .nil) .nil) .nil) .nil) .nil) .nil)) .nil)) (.cons 5 (.cons 0 (.cons 7 (.cons 8 (.cons 9 (.cons 10 (.cons 11 (.cons 12 .done .nil) .nil) .nil) .nil) .nil) .nil) (.cons 7 (.cons 0 (.cons 8 (.cons 9 (.cons 10 (.cons 11 (.cons 12 .done .nil) .nil) .nil) .nil) .nil) (.cons 8 (.cons 0 (.cons 9 (.cons 10 (.cons 11 (.cons 12 .done .nil) .nil) .nil) .nil) (.cons 9 (.cons 0 (.cons 10 (.cons 11 (.cons 12 .done .nil) .nil) .nil) (.cons 10 (.cons 0 (.cons 11 (.cons 12 .done .nil) .nil) .nil) .nil)) .nil)) .nil)) .nil)) (.cons 7 (.cons 0 (.cons 5 (.cons 8 (.cons 9 (.cons 10 (.cons 11 (.cons 12 .done .nil) .nil) .nil) .nil) .nil) (.cons 8 (.cons 5 (.cons 9 (.cons 10 (.cons 11 (.cons 12 .done .nil) .nil) .nil) .nil) .nil) .nil)) (.cons 5 (.cons 0 (.cons 8 (.cons 9 (.cons 10 (.cons 11 (.cons 12 .done .nil) .nil) .nil) .nil) .nil) (.cons 8 (.cons 0 (.cons 9 (.cons 10 (.cons 11 (.cons 12 .done .nil) .nil) .nil) .nil) (.cons 9 (.cons 0 (.cons 10 (.cons 11 (.cons 12 .done .nil) .nil) .nil) (.cons 10 (.cons 0 (.cons 11 (.cons 12 .done .nil) .nil) .nil) .nil)) .nil)) .nil)) (.cons 8 (.cons 0 (.cons 5 (.cons 9 (.cons 10 (.cons 11 (.cons 12 .done .nil) .nil) .nil) .nil) .nil) (.cons 5 (.cons 0 (.cons 9 (.cons 10 (.cons 11 (.cons 12 .done .nil) .nil) .nil) .nil) (.cons 9 (.cons 0 (.cons 10 (.cons 11 (.cons 12 .done .nil) .nil) .nil) (.cons 10 (.cons 0 (.cons 11 (.cons 12 .done .nil) .nil) .nil) .nil)) .nil)) .nil)) .nil))) .nil))) .nil))) .nil)) zk (zR ?_);iterate 60 (all_goals (first
   | exact trivial
   | refine And.intro ?_ ?_
   | refine d7 _ (W1 (v:=.slice av O.length kv) (cD.blk na9) rfl rfl) ?_
   | refine d9 (hnt _) ?_
   | refine d9 hdc ?_
   | refine c5E ?_
   | refine c5m rfl hd ?_
   | (refine c4w #[.agg #[],.pointer (some ⟨z.P,0,none⟩),.pointer (some ⟨y.M,0,none⟩)] rfl hd hfn (by rw [Array.toList_map];rfl) ?_
      refine hec.mono ?_;rintro r w10 ⟨rfl,c10⟩;have c10:=cD.trans c10;refine ⟨_,rfl,?_⟩)
   | refine E6 elStr [s8 TV] (by rw [Array.toList_map];rfl) (by intro v hv;rw [List.mem_singleton.1 hv];rfl) rfl zd zd ?_
   | refine d7 _ (W1 (v:=.slice av O.length kv) (c10.blk na9) rfl rfl) ?_
   | refine d7 _ (W1 (v:=.slice av O.length kv) ((c10.trans (Cl.alloc _ _)).blk na9) rfl rfl) ?_
   | (refine P3 elStr TV rfl (hR9.step c10) rfl rfl rfl B5 (by intro x u hu;rw [List.mem_singleton.1 hu];rfl) zo zd (c9.trans c10).size ?_
      intro v' w11 hr' hg;have na11:=(KT.grow (hR9.step c10) hg) _ _ _ zd (c10.blk na9);obtain ⟨a9,k9,rfl,_⟩:=hr'.form)
   | refine J6 na11 [.slice a9 (O++[TV]).length k9] rfl zk rfl (by intro v hv;simp at hv;subst hv;rfl) (Nat.le_of_ble_eq_true rfl) fun w12 u12=>?_
   | exact ⟨(i+1,L++[z'],y,g',O++[TV],.slice a9 (O++[TV]).length k9),⟨m7 ni,trivial⟩,fin _ _ _ _ c10 hg hr' u12,by show l.length-(i+1)<l.length-i;omega⟩
   | refine zR ?_))
 ·have e:i=l.length:=by omega
  have hO:O=S:=by rw [← hst,e,List.drop_length];show O=O++[];rw [List.append_nil]
  refine zR ?_;refine d7 _ (W1 (v:=.slice av O.length kv) na rfl rfl) (zR ?_);refine zT na [.slice av O.length kv] fun w6 u6=>?_;refine zR ?_;refine zT ((Tn.upd u6).blk nb zo) [.bool true] fun w7 u7=>?_;refine zR ?_;have ka:w7.heap[Ra]?=some (.cells #[.slice av O.length kv] 42 (0,0)):=(Tn.upd u7).blk u6.at_ zo;have kb:w7.heap[Rb]?=some (.cells #[.bool true] 4 (0,0)):=u7.at_;have hR7:=(hR.updT u6 na zd).updT u7 ((Tn.upd u6).blk nb zo) zd;have c7:=u7.cl (u6.cl c5 zo) zo;refine ⟨.inr rfl,_,⟨.slice av O.length kv,.bool true,rfl,⟨_,rfl,W1 ka rfl rfl⟩,_,rfl,W1 kb rfl rfl⟩,.slice av O.length kv,?_,?_,c7⟩
  ·rfl
  ·rw [← hO,hRa];exact hR7
theorem b10 {p:A3} {ms:List Mv} (h:asked p ms=true):B7 p∧p.half≤1000000∧p.full≤1000000∧ms.length≤80∧quiet p ms=true:=by
 unfold asked at h;simp only [Bool.and_eq_true,decide_eq_true_eq] at h;obtain ⟨⟨⟨⟨h1,h2⟩,h3⟩,h4⟩,h5⟩:=h;exact ⟨(a5p p).1 h1,h2,h3,h4,h5⟩
theorem b7o (p:A3) (m:Mv):(b1C p m).length≤11:=by
 unfold b1C;split
 ·exact b0C p m
 ·have h1:=a0a m.fr;have h2:=a0a m.to;have h3:=L7 (kindOf (sq p m.fr));have h4:=a30 p m;have h5:=a2w m;have h6:=a3y p m;simp only [List.length_append];omega
theorem a5E:∀ (ms:List Mv) (l:List A3) (p:A3) (mo:Int×Tx),(story l p mo ms).length≤ms.length:=by
 intro ms
 induction ms with
 | nil=>intro l p mo;exact Nat.le_refl _
 | cons m r ih =>
  intro l p mo;rw [a2z];split
  ·have:=ih (l++[made p m]) (made p m) (X4 (l++[made p m]) (made p m) mo);simp only [List.length_cons];omega
  ·simp
end
end Go.Proofs.YtpclhlhcegcflaaGreatDoor
