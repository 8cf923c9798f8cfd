/- One part of the proof: Clo Cas Clo2 Sp13 Law5 Sp14 Mac Mac2 Txt Sp15. -/
import Derived.DeepKeys
import Derived.Laws.StructEq
import Derived.Test.YtpclhlhcegcflaaGreatDoorM1
import Derived.Test.YtpclhlhcegcflaaGreatDoorM3
import Derived.Test.YtpclhlhcegcflaaGreatDoorM5
namespace Go.Proofs.YtpclhlhcegcflaaGreatDoor
set_option maxRecDepth 100000
set_option linter.unusedSimpArgs false
set_option linter.unusedVariables false
section
namespace Ch
open Bb
theorem W8 {p:l9} (hI:B9 p) {i:Int} (h:sq p i≠0) (ho:A1 (sq p i)=p.turn):1≤kindOf (sq p i)∧kindOf (sq p i)≤6∧sq p i=kindOf (sq p i)+6*p.turn:=by
 have:=a9B (hI.pc i).1 (hI.pc i).2 h;rw [ho] at this;exact this
theorem b4C {p:l9} (hI:B9 p) {fr to:Int} (f0:0≤fr) (f1:fr≤63) (hx:sq p fr≠0) (ho:A1 (sq p fr)=p.turn) (h:to∈Z7 p fr):sq p to≠1+6*(1-p.turn):=by
 intro hk;have hK:=hI.king (1-p.turn) (by have:=hI.turn;omega)
 have hq:=hI.quiet;obtain ⟨t0,t1⟩:=a2d h;have e:to=kingAt p (1-p.turn):=hK.2.2.2 to t0 t1 hk;have hh:hits p fr to=true:=by
  rcases P8 hI f0 f1 hx ho h with ⟨_,h2⟩ | ⟨_,h2,_⟩ | ⟨_,_,_,h2,_⟩
  ·exact h2
  ·exfalso;rw [hk] at h2;have:=hI.turn;omega
  ·exact h2
 have:B5 p to p.turn=true:=by
  refine a3U (i:=fr.toNat) zo ?_;unfold a3f;rw [zi f0];simp [hx,ho,hh]
 rw [e,hq] at this;cases this
def a1Q (p:l9) (m:Mv):Int:=if m.promo≠0 then m.promo+6*p.turn else sq p m.fr
theorem a05 {p:l9} (hI:B9 p) {m:Mv} (h:G6 p m):W7 p m=false:=by
 unfold W7;by_cases hk:kindOf (sq p m.fr)=1
 ·have hh:hits p m.fr m.to=true:=by
   rcases P8 hI h.f0 h.f1 h.there h.own h.goal with ⟨_,h2⟩ | ⟨h2,_⟩ | ⟨h2,_⟩
   ·exact h2
   ·rw [hk] at h2;omega
   ·rw [hk] at h2;omega
  obtain ⟨a,ha⟩:=ze h.f0;obtain ⟨b,hb⟩:=ze h.t0;rw [ha,hb] at hh;rw [a6i,← ha,hk] at hh;simp only [P1,if_true,zP,zW] at hh;obtain ⟨_,_,h3,h4⟩:=hh;have l1:∀ x:Int,x*x≤1→-1≤x∧x≤1:=by
   intro x hx;constructor
   ·refine yf fun hn=>?_;have:2*2≤(-x)*(-x):=Int.mul_le_mul zo zo zo zo;rw [Int.neg_mul_neg] at this;omega
   ·refine yf fun hn=>?_;have:2*2≤x*x:=Int.mul_le_mul zo zo zo zo;omega
  have h5:=l1 _ h3;have h6:=l1 _ h4;simp only [dF,dR,o7,l8] at h5 h6;have:¬ (m.to=m.fr+2)∧¬ (m.to=m.fr-2):=by omega
  simp [this.1,this.2]
 ·simp [hk]
theorem a0T {p:l9} (hI:B9 p) {m:Mv} (h:G6 p m) (hz:sq p m.to=0) (ht:takes p m=true) :
  m.to=p.ep∧0≤J5 (o7 m.to) (l8 m.fr)∧sq p (J5 (o7 m.to) (l8 m.fr))=6+6*(1-p.turn)∧(l8 m.fr=3∨l8 m.fr=4)∧kindOf (sq p m.fr)=6∧J5 (o7 m.to) (l8 m.fr)=m.to-8*up p.turn:=by
 unfold takes at ht;simp only [hz,decide_true,Bool.not_true,Bool.false_or,zP,zc,zW,zZ] at ht;have h0:=h.f0;have h1:=h.f1;have h2:=h.t0;have h3:=h.t1;rcases P8 hI h.f0 h.f1 h.there h.own h.goal with ⟨g,_⟩ | ⟨_,_,g,_⟩ | ⟨gk,gf,gr,_,ge⟩
 ·exact absurd ht.1 g
 ·exact absurd g.symm ht.2
 ·have e:=ge hz;obtain ⟨_,_,hp⟩:=L7 hI.pass;obtain ⟨p1,p2,p3,p4⟩:=hp zo;rw [← e] at p1 p3;have hr:l8 m.to-(1-2*p.turn)=l8 m.fr:=by unfold up at gr;omega
  rw [hr] at p3;have hturn:=hI.turn;have hin:0≤o7 m.to∧o7 m.to≤7∧0≤l8 m.fr∧l8 m.fr≤7:=by simp only [o7,l8] at *;omega
  have hat:=a4v hin.1 hin.2.1 hin.2.2.1 hin.2.2.2;refine ⟨e,by rw [hat];omega,p3,zo,gk,?_⟩
  rw [hat];simp only [up,o7,l8] at *;omega
theorem V5 {p:l9} (hI:B9 p) {m:Mv} (h:G6 p m) {j:Int} (j0:0≤j) :
  sq (made p m) j=if j=m.to then a1Q p m else if j=m.fr then 0 else if takes p m=true∧j=G5 p m then 0 else sq p j:=by
 have e:sq (made p m) j=sq (a1I p m) j:=by
  show sq (O3 p m) j=_;unfold O3;rw [a05 hI h];rfl
 rw [e];have f0:=h.f0;have f1:=h.f1;have t0:=h.t0;have t1:=h.t1;have s2:sq (a3w p m) j=if j=m.to then sq p m.fr else if j=m.fr then 0 else sq (a3v p m) j:=by
  unfold a3w;rw [a2L _ _ _ _ h.t0 zo j0,a2L _ _ _ _ h.f0 zo j0];by_cases a:m.to=j
  ·rw [zM a,zM a.symm]
  ·rw [zJ a,zJ (show ¬ j=m.to from fun e=>a e.symm)];by_cases b:m.fr=j
   ·rw [zM b,zM b.symm]
   ·rw [zJ b,zJ (show ¬ j=m.fr from fun e=>b e.symm)]
 have s3:sq (a1I p m) j=if j=m.to then a1Q p m else sq (a3w p m) j:=by
  unfold a1I a1Q;by_cases hp:m.promo≠0
  ·rw [zM hp,zM hp,a2L _ _ _ _ h.t0 zo j0];by_cases a:m.to=j
   ·rw [zM a,zM a.symm]
   ·rw [zJ a,zJ (show ¬ j=m.to from fun e=>a e.symm)]
  ·rw [zJ hp,zJ hp];by_cases a:j=m.to
   ·rw [zM a,s2,zM a]
   ·rw [zJ a]
 rw [s3];by_cases a:j=m.to
 ·rw [zM a,zM a]
 rw [zJ a,zJ a,s2,zJ a];by_cases b:j=m.fr
 ·rw [zM b,zM b]
 rw [zJ b,zJ b];unfold a3v;cases ht:takes p m
 ·simp
 ·simp only [if_true,true_and];have hr:0≤G5 p m∧G5 p m<64:=by
   unfold G5;split
   ·omega
   ·rename_i hz;have:=a0T hI h zo ht;exact ⟨this.2.1,by have:=(at_range (o7 m.to) (l8 m.fr)).2;omega⟩
  rw [a2L _ _ _ _ hr.1 hr.2 j0];by_cases c:G5 p m=j
  ·rw [zM c,zM c.symm]
  ·rw [zJ c,zJ (fun e=>c e.symm)]
theorem a2e {p:l9} (hI:B9 p) {m:Mv} (h:G6 p m) (ht:takes p m=true):G5 p m=m.to∧sq p m.to≠0∨(sq p (G5 p m)=6+6*(1-p.turn)∧0≤G5 p m∧G5 p m≤63∧(l8 (G5 p m)=3∨l8 (G5 p m)=4)):=by
 unfold G5;split
 ·rename_i hz;exact .inl ⟨rfl,hz⟩
 ·rename_i hz;obtain ⟨_,h2,h3,h4,_,_⟩:=a0T hI h zo ht;have g:=Y1 _ _ h2;refine .inr ⟨h3,h2,(at_range _ _).2,?_⟩;rw [g.2.2.2.2];simp only [l8,o7] at *;omega
theorem a1R {p:l9} (hI:B9 p) {m:Mv} (h:G6 p m):(a1Q p m=1+6*p.turn↔sq p m.fr=1+6*p.turn)∧a1Q p m≠1+6*(1-p.turn)∧1+6*p.turn≤a1Q p m∧a1Q p m≤6+6*p.turn:=by
 obtain ⟨k1,k6,kx⟩:=W8 hI h.there h.own;have ht:=hI.turn;unfold a1Q;rcases h.promo with ⟨h1,_⟩ | ⟨h1,h2,h3,_⟩
 ·rw [zJ zo];refine ⟨Iff.rfl,?_,zo,zo⟩;rw [kx];omega
 ·rw [zM zo];refine ⟨?_,zo,zo,zo⟩;rw [kx,h3];omega
theorem a1S {p:l9} (hI:B9 p) {m:Mv} (h:G6 p m):U9 (made p m) p.turn (if m.fr=kingAt p p.turn then m.to else kingAt p p.turn):=by
 have ht:=hI.turn;have hK:=hI.king p.turn ht;obtain ⟨nk1,nk2,nk3,nk4⟩:=a1R hI h;have f0:=h.f0;have f1:=h.f1;have t0:=h.t0;have t1:=h.t1;have hto:sq p m.to≠1+6*p.turn:=by
  rcases h.other with e | e
  ·rw [e];omega
  ·intro e2;apply e;rw [e2];exact S3 zd zd ht
 have htk:∀ j,takes p m=true→j=G5 p m→j≠m.to→sq p j≠1+6*p.turn:=by
  intro j h1 h2 h3;rcases a2e hI h h1 with ⟨e,_⟩ | ⟨e,_⟩
  ·exact absurd (h2.trans e) h3
  ·rw [h2,e];omega
 by_cases hf:m.fr=kingAt p p.turn
 ·rw [zM hf];refine ⟨t0,t1,?_,fun j j0 j1 hj=>?_⟩
  ·rw [V5 hI h t0,zM rfl,nk1,hf];exact hK.2.2.1
  ·rw [V5 hI h j0] at hj;by_cases a:j=m.to
   ·exact a
   rw [zJ a] at hj;by_cases b:j=m.fr
   ·rw [zM b] at hj;omega
   rw [zJ b] at hj;split at hj
   ·omega
   ·have:=hK.2.2.2 j j0 j1 hj;omega
 ·rw [zJ hf];have hnk:sq p m.fr≠1+6*p.turn:=fun e=>hf (hK.2.2.2 _ f0 f1 e);refine ⟨hK.1,hK.2.1,?_,fun j j0 j1 hj=>?_⟩
  ·rw [V5 hI h hK.1,zJ (fun e=>hto (by rw [← e];exact hK.2.2.1)),zJ (fun e=>hf e.symm)]
   split
   ·rename_i hh;exact absurd hK.2.2.1 (htk _ hh.1 hh.2 (fun e=>hto (by rw [← e];exact hK.2.2.1)))
   ·exact hK.2.2.1
  ·rw [V5 hI h j0] at hj;by_cases a:j=m.to
   ·rw [zM a] at hj;exact absurd (nk1.1 hj) hnk
   rw [zJ a] at hj;by_cases b:j=m.fr
   ·rw [zM b] at hj;omega
   rw [zJ b] at hj;split at hj
   ·omega
   ·exact hK.2.2.2 j j0 j1 hj
theorem a4K {p:l9} (hI:B9 p) {m:Mv} (h:G6 p m):U9 (made p m) (1-p.turn) (kingAt p (1-p.turn)):=by
 have ht:=hI.turn;have hK:=hI.king (1-p.turn) zo;obtain ⟨nk1,nk2,nk3,nk4⟩:=a1R hI h;have f0:=h.f0;have f1:=h.f1;have t0:=h.t0;have t1:=h.t1;have hto:=b4C hI h.f0 h.f1 h.there h.own h.goal;have hfr:sq p m.fr≠1+6*(1-p.turn):=by
  intro e;have:=h.own;rw [e,S3 zd zd zo] at this;omega
 refine ⟨hK.1,hK.2.1,?_,fun j j0 j1 hj=>?_⟩
 ·rw [V5 hI h hK.1,zJ (fun e=>hto (by rw [← e];exact hK.2.2.1)),zJ (fun e=>hfr (by rw [← e];exact hK.2.2.1))]
  split
  ·rename_i hh;exfalso;rcases a2e hI h hh.1 with ⟨e,_⟩ | ⟨e,_⟩
   ·apply hto;rw [← e,← hh.2];exact hK.2.2.1
   ·rw [← hh.2,hK.2.2.1] at e;omega
  ·exact hK.2.2.1
 ·rw [V5 hI h j0] at hj;by_cases a:j=m.to
  ·rw [zM a] at hj;exact absurd hj nk2
  rw [zJ a] at hj;by_cases b:j=m.fr
  ·rw [zM b] at hj;omega
  rw [zJ b] at hj;split at hj
  ·omega
  ·exact hK.2.2.2 j j0 j1 hj
end Ch
namespace Ch
open Bb
structure a1g (p:l9) (m:Mv) (K w R:Int):Prop where
 k:K=4+56*p.turn
 way:(w=1∧R=K+3)∨(w=-1∧R=K-4∧sq p (K-3)=0)
 mv:m=⟨K,K+2*w,0⟩
 king:sq p K=1+6*p.turn
 rook:sq p R=3+6*p.turn
 mid:sq p (K+w)=0
 to:sq p (K+2*w)=0
 a0:B5 p K (1-p.turn)=false
 a1:B5 p (K+w) (1-p.turn)=false
theorem I1 {p:l9} (hI:B9 p) {r:Nat} {m:Mv} (h:a1P p r m):r<4∧(r:Int)/2=p.turn∧U8 p.castle r=true∧a1g p m (homeK r) (if A4 r<homeK r then -1 else 1) (A4 r):=by
 have ht:=hI.turn;have hr:r<4∧(r:Int)/2=p.turn:=by
  rcases h.right with e | e<;>rcases ht with t | t<;>rw [t] at e ⊢ <;> subst e<;>decide
 have hm:=h.may;unfold a1z a2M at hm;rw [hI.rights] at hm;simp only [zP,zc] at hm;obtain ⟨⟨hb,h0⟩,h1,hf⟩:=hm;obtain ⟨s1,s2⟩:=hI.right r hr.1 hb;rw [hr.2] at s1 s2;refine ⟨hr.1,hr.2,hb,?_⟩;rw [a2y] at hf;have hm:=h.is;unfold s9 at hm;have hrr:r=0∨r=1∨r=2∨r=3:=by omega
 rcases hrr with rfl | rfl | rfl | rfl
 ·have t:p.turn=0:=by rw [← hr.2];decide
  have m1:=hf 0 zd;have m2:=hf 1 zd;exact ⟨by rw [t];decide,.inl ⟨zd,zd⟩,hm,s1,s2,m1,m2,h0,h1⟩
 ·have t:p.turn=0:=by rw [← hr.2];decide
  have m1:=hf 0 zd;have m2:=hf 1 zd;have m3:=hf 2 zd;exact ⟨by rw [t];decide,.inr ⟨zd,zd,m3⟩,hm,s1,s2,m1,m2,h0,h1⟩
 ·have t:p.turn=1:=by rw [← hr.2];decide
  have m1:=hf 0 zd;have m2:=hf 1 zd;exact ⟨by rw [t];decide,.inl ⟨zd,zd⟩,hm,s1,s2,m1,m2,h0,h1⟩
 ·have t:p.turn=1:=by rw [← hr.2];decide
  have m1:=hf 0 zd;have m2:=hf 1 zd;have m3:=hf 2 zd;exact ⟨by rw [t];decide,.inr ⟨zd,zd,m3⟩,hm,s1,s2,m1,m2,h0,h1⟩
theorem S4 {p:l9} (hI:B9 p):kindOf (1+6*p.turn)=1:=O6 zd zd hI.turn
theorem a6l {p:l9} (hI:B9 p) {m:Mv} {K w R:Int} (h:a1g p m K w R):W7 p m=true:=by
 unfold W7;rw [h.mv];simp only [h.king,S4 hI];rcases h.way with ⟨e,_⟩ | ⟨e,_⟩<;>rw [e]
 ·simp
 ·have:K+2 * -1=K-2:=by omega
  rw [this];simp
theorem a2S {p:l9} (hI:B9 p) {m:Mv} {K w R:Int} (h:a1g p m K w R):takes p m=false:=by
 unfold takes;rw [h.mv];simp only [h.king,S4 hI,h.to];simp
theorem L8 {p:l9} (hI:B9 p) {m:Mv} {K w R:Int} (h:a1g p m K w R) {j:Int} (j0:0≤j) :
  sq (made p m) j=if j=K+w then 3+6*p.turn else if j=R then 0 else if j=K+2*w then 1+6*p.turn else if j=K then 0 else sq p j:=by
 have ht:=hI.turn;have hk:=h.k;have hw:(w=1∧R=K+3)∨(w=-1∧R=K-4):=by rcases h.way with h | h;exact .inl h;exact .inr ⟨h.1,h.2.1⟩
 show sq (O3 p m) j=_;unfold O3;rw [a6l hI h,zM rfl];have e3:a1I p m=put (put p K 0) (K+2*w) (1+6*p.turn):=by
  unfold a1I a3w a3v;rw [a2S hI h,h.mv];simp only [ne_eq,not_true_eq_false,if_false,h.king];rfl
 have ec:(if m.to<m.fr then J5 0 (l8 m.fr) else J5 7 (l8 m.fr))=R:=by
  rw [h.mv];show (if K+2*w<K then J5 0 (l8 K) else J5 7 (l8 K))=R
  have hk4:K=4∨K=60:=by omega
  clear hk;rcases hk4 with rfl | rfl<;>rcases hw with ⟨rfl,rfl⟩ | ⟨rfl,rfl⟩<;>decide
 have em:(m.fr+m.to)/2=K+w:=by rw [h.mv];show (K+(K+2*w))/2=K+w;omega
 rw [e3,ec,em];have r1:0≤R∧R<64∧0≤K∧K<64∧0≤K+w∧K+w<64∧0≤K+2*w∧K+2*w<64:=by omega
 rw [a2L _ _ _ _ r1.2.2.2.2.1 r1.2.2.2.2.2.1 j0,a2L _ _ _ _ r1.1 r1.2.1 j0,a2L _ _ _ _ r1.2.2.2.2.2.2.1 r1.2.2.2.2.2.2.2 j0,a2L _ _ _ _ r1.2.2.1 r1.2.2.2.1 j0];simp only [@eq_comm _ j]
theorem a0l {p:l9} (hI:B9 p) {m:Mv} {K w R:Int} (h:a1g p m K w R):U9 (made p m) p.turn m.to∧m.fr=kingAt p p.turn:=by
 have ht:=hI.turn;have hk:=h.k;have hw:(w=1∧R=K+3)∨(w=-1∧R=K-4):=by rcases h.way with h | h;exact .inl h;exact .inr ⟨h.1,h.2.1⟩
 have hK:=hI.king p.turn ht;have e:K=kingAt p p.turn:=hK.2.2.2 K zo zo h.king;have hm:=h.mv;refine ⟨?_,by rw [hm];exact e⟩
 rw [hm];simp only
 refine ⟨zo,zo,?_,fun j j0 j1 hj=>?_⟩
 ·rw [← hm,L8 hI h zo,zJ zo,zJ zo,zM rfl]
 ·rw [← hm,L8 hI h j0] at hj;split at hj
  ·omega
  split at hj
  ·omega
  split at hj
  ·assumption
  split at hj
  ·omega
  ·have:=hK.2.2.2 j j0 j1 hj;omega
theorem a2T {p:l9} (hI:B9 p) {m:Mv} {K w R:Int} (h:a1g p m K w R):U9 (made p m) (1-p.turn) (kingAt p (1-p.turn)):=by
 have ht:=hI.turn;have hk:=h.k;have hw:(w=1∧R=K+3)∨(w=-1∧R=K-4):=by rcases h.way with h | h;exact .inl h;exact .inr ⟨h.1,h.2.1⟩
 have hK:=hI.king (1-p.turn) zo;have n1:∀ x,sq p x≠1+6*(1-p.turn)→kingAt p (1-p.turn)≠x:=by
  intro x hx e;apply hx;rw [← e];exact hK.2.2.1
 have e1:=n1 (K+w) (by rw [h.mid];omega)
 have e2:=n1 R (by rw [h.rook];omega)
 have e3:=n1 (K+2*w) (by rw [h.to];omega)
 have e4:=n1 K (by rw [h.king];omega)
 refine ⟨hK.1,hK.2.1,?_,fun j j0 j1 hj=>?_⟩
 ·rw [L8 hI h hK.1,zJ e1,zJ e2,zJ e3,zJ e4];exact hK.2.2.1
 ·rw [L8 hI h j0] at hj;split at hj
  ·omega
  split at hj
  ·omega
  split at hj
  ·omega
  split at hj
  ·omega
  ·exact hK.2.2.2 j j0 j1 hj
theorem a12 {p:l9} (hI:B9 p) {m:Mv} {K w R:Int} (h:a1g p m K w R) (i:Int):0≤sq (made p m) i∧sq (made p m) i≤12:=by
 refine b3t (fun i _=>?_) i;rw [L8 hI h zo];have ht:=hI.turn;repeat' split
 all_goals first | omega | exact hI.pc _
theorem c0c {K w R:Int} {s b:Nat} (hKK:K=4∨K=60) (hR:(w=1∧R=K+3)∨(w=-1∧R=K-4)) (hb:(b:Int)=K+2*w) (hrow:s/8≠b/8):(s:Int)≠K+w∧(s:Int)≠R∧(s:Int)≠K+2*w∧(s:Int)≠K:=by omega
theorem b7G {k s b:Nat} (e0:¬ k=0) (k4:k<4) (hsb:H8 k b s=true) (hne:s≠b):s/8≠b/8:=by
 have hkk:k=1∨k=2∨k=3:=by omega
 rcases hkk with rfl | rfl | rfl<;>simp only [H8,Nat.beq_eq] at hsb<;>omega
theorem c0d {K w R:Int} {i b:Nat} (hKK:K=4∨K=60) (hR:(w=1∧R=K+3)∨(w=-1∧R=K-4)) (hb:(b:Int)=K+2*w) (hrow:i/8=b/8) (hne:(i:Int)≠K+w∧(i:Int)≠R∧(i:Int)≠K+2*w∧(i:Int)≠K) (hq:w=-1→(i:Int)≠K-3) :
  ((K+w).toNat<64∧i/8=(K+w).toNat/8∧(i<(K+w).toNat∧(K+w).toNat<b∨b<(K+w).toNat∧(K+w).toNat<i))∧(K.toNat<64∧i/8=K.toNat/8∧(i<K.toNat∧K.toNat<b∨b<K.toNat∧K.toNat<i)):=by omega
theorem b1E {p:l9} (hI:B9 p) {m:Mv} {K w R:Int} (h:a1g p m K w R) {b:Nat} (hb:m.to=b) (hb64:b<64) {i:Nat} (hi:i<64) (hne:(i:Int)≠K+w∧(i:Int)≠R∧(i:Int)≠K+2*w∧(i:Int)≠K) (hq:w=-1→(i:Int)≠K-3) (hl:dF i b=0∨dR i b=0∨dF i b=dR i b∨dF i b=-dR i b) :
  free (made p m) i (wy i b) (ds i b)=free p i (wy i b) (ds i b):=by
 have hbK:(b:Int)=K+2*w:=by rw [← hb,h.mv]
 have hKK:K=4∨K=60:=by have:=h.k;have:=hI.turn;omega
 have hR:(w=1∧R=K+3)∨(w=-1∧R=K-4):=by rcases h.way with h | h;exact .inl h;exact .inr ⟨h.1,h.2.1⟩
 have hib:i≠b:=by rintro rfl;exact hne.2.2.1 hbK
 have hline:∃ k,k<4∧H8 k i b=true:=by
  rcases hl with hh | hh | hh | hh
  ·exact ⟨1,zd,(b3n i b).2 hh⟩
  ·exact ⟨0,zd,(b3m i b).2 hh⟩
  ·exact ⟨2,zd,(b3o i b).2 hh⟩
  ·exact ⟨3,zd,(b3p i b).2 hh⟩
 obtain ⟨k,k4,hlp⟩:=hline;rw [Bool.eq_iff_iff,a10 _ k4 hi hb64 hlp hib,a10 _ k4 hi hb64 hlp hib];by_cases e0:k=0
 ·subst e0;have l0:∀ s:Nat,H8 0 i s=true↔i/8=s/8:=fun s=>by simp [H8]
  have hrow:i/8=b/8:=(l0 b).1 hlp;obtain ⟨⟨a1,a2,a3⟩,⟨a4,a5,a6⟩⟩:=c0d hKK hR hbK hrow hne hq;have ht:=hI.turn;constructor
  ·intro hh;exfalso;have hs:=hh (K+w).toNat a1 ((l0 _).2 a2) a3;rw [L8 hI h (Int.natCast_nonneg _),zM zo] at hs;omega
  ·intro hh;exfalso;have hs:=hh K.toNat a4 ((l0 _).2 a5) a6;rw [zi zo,h.king] at hs;omega
 ·have hoff:∀ s:Nat,s<64→H8 k i s=true→(i<s∧s<b∨b<s∧s<i)→sq (made p m) s=sq p s:=by
   intro s hs hl2 hbt;have hsb:H8 k b s=true:=by rw [← a30 hlp];exact hl2
   obtain ⟨q1,q2,q3,q4⟩:=c0c hKK hR hbK (b7G e0 k4 hsb zo);rw [L8 hI h (Int.natCast_nonneg s),zJ q1,zJ q2,zJ q3,zJ q4]
  constructor
  ·intro hh s hs h1 h2;rw [← hoff s hs h1 h2];exact hh s hs h1 h2
  ·intro hh s hs h1 h2;rw [hoff s hs h1 h2];exact hh s hs h1 h2
theorem a2U {p:l9} (hI:B9 p) {m:Mv} {K w R:Int} (h:a1g p m K w R):B5 (made p m) m.to (1-p.turn)=B5 p m.to (1-p.turn):=by
 have ht:=hI.turn;have hk:=h.k;have hw:(w=1∧R=K+3)∨(w=-1∧R=K-4∧sq p (K-3)=0):=h.way;have hto:m.to=K+2*w:=by rw [h.mv]
 obtain ⟨b,hb⟩:=ze (show 0≤m.to by omega)
 have hb64:b<64:=by omega
 have same:∀ (k:Int) (i:Nat),1≤k→k≤6→(sq (made p m) i=k+6*(1-p.turn)↔sq p i=k+6*(1-p.turn))∧(sq p i=k+6*(1-p.turn)→(i:Int)≠K+w∧(i:Int)≠R∧(i:Int)≠K+2*w∧(i:Int)≠K):=by
  intro k i k1 k6;have hne:sq p i=k+6*(1-p.turn)→(i:Int)≠K+w∧(i:Int)≠R∧(i:Int)≠K+2*w∧(i:Int)≠K:=by
   intro e;refine ⟨?_,?_,?_,?_⟩<;>intro e2<;>rw [e2] at e
   ·rw [h.mid] at e;omega
   ·rw [h.rook] at e;omega
   ·rw [h.to] at e;omega
   ·rw [h.king] at e;omega
  refine ⟨⟨fun e=>?_,fun e=>?_⟩,hne⟩
  ·rw [L8 hI h zo] at e;split at e
   ·omega
   split at e
   ·omega
   split at e
   ·omega
   split at e
   ·omega
   ·exact e
  ·obtain ⟨n1,n2,n3,n4⟩:=hne e;rw [L8 hI h zo,zJ n1,zJ n2,zJ n3,zJ n4];exact e
 have hfree:=fun i hi hne hq hl=>b1E hI h (i:=i) hb hb64 hi hne hq hl;have hitSame:∀ (k:Int) (i:Nat),1≤k→k≤6→i<64→sq p i=k+6*(1-p.turn)→P1 (made p m) k (1-p.turn) i b=P1 p k (1-p.turn) i b:=by
  intro k i k1 k6 hi hx;have hne:=(same k i k1 k6).2 hx;unfold P1;by_cases a1:k=1
  ·rw [zM a1,zM a1]
  rw [zJ a1,zJ a1];by_cases a5:k=5
  ·rw [zM a5,zM a5]
  rw [zJ a5,zJ a5];by_cases a6:k=6
  ·rw [zM a6,zM a6]
  rw [zJ a6,zJ a6];by_cases hl:dF i b=0∨dR i b=0∨dF i b=dR i b∨dF i b=-dR i b
  ·rw [hfree i hi hne (by
    intro e e2;rcases hw with ⟨e3,_⟩ | ⟨_,_,e3⟩
    ·omega
    ·rw [← e2,hx] at e3;omega) hl]
  ·rw [zV (fun h=>hl (.inl h)),zV (fun h=>hl (.inr (.inl h))),zV (fun h=>hl (.inr (.inr (.inl h)))),zV (fun h=>hl (.inr (.inr (.inr h))))];simp
 rw [hb,Bool.eq_iff_iff];rw [T6 (made p m) (a12 hI h) zo,T6 p hI.pc zo];constructor
 ·rintro ⟨k,k1,k6,i,hi,hx,hh⟩;have hx':=(same k i k1 k6).1.1 hx;exact ⟨k,k1,k6,i,hi,hx',by rw [← hitSame k i k1 k6 hi hx'];exact hh⟩
 ·rintro ⟨k,k1,k6,i,hi,hx,hh⟩;exact ⟨k,k1,k6,i,hi,(same k i k1 k6).1.2 hx,by rw [hitSame k i k1 k6 hi hx];exact hh⟩
end Ch
namespace Ch
open Bb
theorem L9 {p:l9} (hI:B9 p) (m:Mv):m∈s8 p↔(G6 p m∧B5 (made p m) (kingAt (made p m) p.turn) (1-p.turn)=false)∨(∃ r,a1P p r m∧B5 p m.to (1-p.turn)=false):=by
 unfold s8;rw [List.mem_filter,a04 hI];have hK:=hI.king p.turn hI.turn;constructor
 ·rintro ⟨h | ⟨r,h⟩,hs⟩
  ·left;refine ⟨h,?_⟩;rw [(a1S hI h).at];unfold a5r at hs;simp only [zj,zW,zc] at hs;rcases hs with hs | hs
   ·have:=h.t0;have:=hK.1;split at hs<;>omega
   ·exact hs
  ·right;refine ⟨r,h,?_⟩;obtain ⟨_,_,_,hc⟩:=I1 hI h;rw [← a2U hI hc];unfold a5r at hs;simp only [zj,zW,zc] at hs;rw [zM (a0l hI hc).2] at hs;rcases hs with hs | hs
   ·have:=(a0l hI hc).1.1;omega
   ·exact hs
 ·rintro (⟨h,hs⟩ | ⟨r,h,hs⟩)
  ·refine ⟨.inl h,?_⟩;rw [(a1S hI h).at] at hs;unfold a5r;simp only [zj,zW,zc];exact .inr hs
  ·refine ⟨.inr ⟨r,h⟩,?_⟩;obtain ⟨_,_,_,hc⟩:=I1 hI h;rw [← a2U hI hc] at hs;unfold a5r;simp only [zj,zW,zc];rw [zM (a0l hI hc).2];exact .inr hs
theorem a13:∀ n:Nat,n<4→(0≤homeK n∧homeK n≤63∧(l8 (homeK n)=0∨l8 (homeK n)=7))∧(0≤A4 n∧A4 n≤63∧(l8 (A4 n)=0∨l8 (A4 n)=7)):=by decide
theorem c0e {p:l9} (hI:B9 p) {m:Mv} (h:G6 p m) (hk:kindOf (sq p m.fr)=6):l8 m.to≠7*p.turn:=by
 have ht:=hI.turn;have hr:=hI.pawn m.fr h.f0 h.f1 hk;have f0:=h.f0;have f1:=h.f1;have hb:0≤l8 m.fr∧l8 m.fr≤7:=by simp only [l8];omega
 rcases P8 hI h.f0 h.f1 h.there h.own h.goal with ⟨g,_⟩ | ⟨_,_,_,g⟩ | ⟨_,_,g,_⟩
 ·exact absurd hk g
 ·unfold up at g;omega
 ·unfold up at g;omega
theorem a2V {p:l9} (hI:B9 p) {m:Mv} (h:G6 p m) (i:Int):0≤sq (made p m) i∧sq (made p m) i≤12:=by
 refine b3t (fun i _=>?_) i;obtain ⟨_,_,n1,n2⟩:=a1R hI h;have ht:=hI.turn;rw [V5 hI h zo];repeat' split
 ·omega
 ·omega
 ·omega
 ·exact hI.pc _
theorem b4D {p:l9} (hI:B9 p) {m:Mv} (h:G6 p m) (h2:H7 p m=true) :
  kindOf (sq p m.fr)=6∧m.to=m.fr+16*up p.turn∧l8 m.fr=1+5*p.turn∧sq p m.to=0∧sq p (m.fr+8*up p.turn)=0:=by
 unfold H7 at h2;simp only [zP,zj,zW] at h2;have ht:=hI.turn;have f0:=h.f0;have f1:=h.f1;rcases P8 hI h.f0 h.f1 h.there h.own h.goal with ⟨g,_⟩ | ⟨_,g0,gf,g⟩ | ⟨_,gf,g,_⟩
 ·exact absurd h2.1 g
 ·rcases g with g | ⟨g,g2,g3⟩
  ·exfalso;simp only [o7,l8,up] at *;omega
  ·have e:J5 (o7 m.fr) (l8 m.fr+up p.turn)=m.fr+8*up p.turn:=by
    rw [a4v]<;>simp only [o7,l8,up] at * <;> omega
   rw [e] at g3;refine ⟨h2.1,?_,g2,g0,g3⟩;simp only [o7,l8,up] at *;omega
 ·exfalso;simp only [o7,l8,up] at *;omega
theorem a6Q {p:l9} (h:p.ep=-1):O2 p=true:=by
 unfold O2;rw [zM zo,h];rfl
theorem a32 {p:l9} (hI:B9 p) {m:Mv} {K w R:Int} (h:a1g p m K w R):H7 p m=false:=by
 unfold H7;rw [h.mv];simp only [h.king,S4 hI];simp
theorem b1F {p:l9} (hI:B9 p) {m:Mv} (h:G6 p m):O2 (made p m)=true:=by
 cases h2:H7 p m
 ·exact a6Q (by show (if H7 p m then _ else (-1:Int))=-1;rw [h2];rfl)
 ·obtain ⟨hk,hto,hr,hz,hmid⟩:=b4D hI h h2;have ht:=hI.turn;have f0:=h.f0;have f1:=h.f1;have t0:=h.t0;have t1:=h.t1;have hep:(made p m).ep=m.fr+8*up p.turn:=by
   show (if H7 p m then (m.fr+m.to)/2 else (-1:Int))=_
   rw [h2,hto,zM rfl];omega
  have htu:(made p m).turn=1-p.turn:=rfl;unfold O2;rw [hep,htu];have hep1:¬ (m.fr+8*up p.turn<0∨63<m.fr+8*up p.turn):=by simp only [l8,up] at *;omega
  rw [zJ hep1];have hf:o7 (m.fr+8*up p.turn)=o7 m.fr:=by simp only [o7,up] at *;omega
  have hrr:l8 (m.fr+8*up p.turn)=l8 m.fr+up p.turn:=by simp only [l8,up] at *;omega
  have hpawn:sq p m.fr=6+6*p.turn:=by have:=W8 hI h.there h.own;rw [hk] at this;exact this.2.2
  have hnp:a1Q p m=6+6*p.turn:=by
   unfold a1Q;rcases h.promo with ⟨e,_⟩ | ⟨_,_,_,e⟩
   ·rw [zJ zo];exact hpawn
   ·exfalso;rw [hto] at e;simp only [l8,up] at *;omega
  have hnt:takes p m=false:=by
   unfold takes;rw [hz,hk];have:o7 m.fr=o7 m.to:=by rw [hto];simp only [o7,up] at *;omega
   simp [this]
  have hsq:∀ j:Int,0≤j→sq (made p m) j=if j=m.to then 6+6*p.turn else if j=m.fr then 0 else sq p j:=by
   intro j j0;rw [V5 hI h j0,hnp,hnt];simp
  have e1:J5 (o7 m.fr) (l8 m.fr+up p.turn-(1-2*(1-p.turn)))=m.to:=by
   rw [a4v]<;>simp only [o7,l8,up] at * <;> omega
  have e2:J5 (o7 m.fr) (l8 m.fr+up p.turn+(1-2*(1-p.turn)))=m.fr:=by
   rw [a4v]<;>simp only [o7,l8,up] at * <;> omega
  simp only [hf,hrr,e1,e2];rw [zJ]
  ·rw [hsq _ t0,hsq _ f0,zM rfl,zJ h.ne,zM rfl];simp only [zP,zW];exact ⟨zo,trivial⟩
  ·rintro (e | e)
   ·apply e;simp only [l8,up] at *;omega
   ·apply e;rw [hsq _ (by simp only [l8,up] at *;omega),zJ (by simp only [l8,up] at *;omega),zJ (by simp only [l8,up] at *;omega)];exact hmid
theorem B9.made {p:l9} (hI:B9 p) {m:Mv} (hm:m∈s8 p):B9 (made p m):=by
 have ht:=hI.turn;have htu:(Ch.made p m).turn=1-p.turn:=rfl;obtain ⟨l0,l1,lb⟩:=b79 hI.c0 hI.c1 m;have hh0:0≤(Ch.made p m).half:=by
  show 0≤(if takes p m||decide (kindOf (sq p m.fr)=6) then 0 else p.half+1)
  have:=hI.h0;split<;>omega
 have hf1:1≤(Ch.made p m).full:=by show 1≤p.full+p.turn;have:=hI.f1;omega
 rcases (L9 hI m).1 hm with ⟨h,hq⟩ | ⟨r,hr,hq⟩
 ·have ko:=a1S hI h;have kn:=a4K hI h;refine ⟨a2V hI h,?_,by rw [htu];omega,l0,l1,hh0,hf1,?_,?_,b1F hI h,?_⟩
  ·intro i i0 i1 hk;rw [V5 hI h i0] at hk;split at hk
   ·rename_i e;rw [e];unfold a1Q at hk;have hrt:0≤l8 m.to∧l8 m.to≤7:=by have:=h.t0;have:=h.t1;simp only [l8];omega
    rcases h.promo with ⟨e1,e2⟩ | ⟨e1,e2,_,_⟩
    ·rw [zJ zo] at hk;have:=c0e hI h hk;have e3:l8 m.to≠7-7*p.turn:=fun e3=>e2 ⟨hk,e3⟩;omega
    ·rw [zM zo,O6 zo zo ht] at hk;omega
   ·split at hk
    ·exact absurd hk zd
    ·split at hk
     ·exact absurd hk zd
     ·exact hI.pawn i i0 i1 hk
  ·intro c hc;have:c=p.turn∨c=1-p.turn:=by omega
   rcases this with rfl | rfl
   ·rw [ko.at];exact ko
   ·rw [kn.at];exact kn
  ·intro n hn hb;have hb':U8 (left p.castle m) n=true:=hb;rw [lb n hn] at hb';simp only [zP,zc] at hb';obtain ⟨b1,b2⟩:=hb';unfold a2c at b2;simp only [zy,zZ] at b2;obtain ⟨⟨⟨q1,q2⟩,q3⟩,q4⟩:=b2;obtain ⟨⟨k0,k1,k2⟩,⟨r0,r1,r2⟩⟩:=a13 n hn;obtain ⟨s1,s2⟩:=hI.right n hn b1;have hnt:∀ x,(l8 x=0∨l8 x=7)→x≠m.to→¬ (takes p m=true∧x=G5 p m):=by
    rintro x hx hne ⟨e1,e2⟩;rcases a2e hI h e1 with ⟨e3,_⟩ | ⟨_,_,_,e3⟩
    ·exact hne (e2.trans e3)
    ·rw [← e2] at e3;omega
   rw [V5 hI h k0,V5 hI h r0,zJ (fun e=>q3 e.symm),zJ (fun e=>q1 e.symm),zJ (hnt _ k2 (fun e=>q3 e.symm)),zJ (fun e=>q4 e.symm),zJ (fun e=>q2 e.symm),zJ (hnt _ r2 (fun e=>q4 e.symm))];exact ⟨s1,s2⟩
  ·rw [htu,show (1-(1-p.turn))=p.turn by omega];exact hq
 ·obtain ⟨r4,rt,rb,hc⟩:=I1 hI hr;have ko:=(a0l hI hc).1;have kn:=a2T hI hc;have hk:=hc.k;have hw:(if A4 r<homeK r then (-1:Int) else 1)=1∧A4 r=homeK r+3∨(if A4 r<homeK r then (-1:Int) else 1)=-1∧A4 r=homeK r-4:=by rcases hc.way with h | h;exact .inl h;exact .inr ⟨h.1,h.2.1⟩
  refine ⟨a12 hI hc,?_,by rw [htu];omega,l0,l1,hh0,hf1,?_,?_,a6Q (by show (if H7 p m then _ else (-1:Int))=-1;rw [a32 hI hc];rfl),?_⟩
  ·intro i i0 i1 hk2;have hs:=L8 hI hc i0;generalize (if A4 ↑r<homeK ↑r then (-1:Int) else 1)=w at hs
   rw [hs] at hk2;split at hk2
   ·rw [O6 zd zd ht] at hk2;omega
   split at hk2
   ·exact absurd hk2 zd
   split at hk2
   ·rw [O6 zd zd ht] at hk2;omega
   split at hk2
   ·exact absurd hk2 zd
   ·exact hI.pawn i i0 i1 hk2
  ·intro c hc2;have:c=p.turn∨c=1-p.turn:=by omega
   rcases this with rfl | rfl
   ·rw [ko.at];exact ko
   ·rw [kn.at];exact kn
  ·intro n hn hb;have hb':U8 (left p.castle m) n=true:=hb;rw [lb n hn] at hb';simp only [zP,zc] at hb';obtain ⟨b1,b2⟩:=hb';unfold a2c at b2;simp only [zy,zZ] at b2;obtain ⟨⟨⟨q1,q2⟩,q3⟩,q4⟩:=b2;obtain ⟨⟨k0,k1,k2⟩,⟨r0,r1,r2⟩⟩:=a13 n hn;obtain ⟨s1,s2⟩:=hI.right n hn b1;have hfr:m.fr=homeK r:=by rw [hc.mv]
   rw [hfr] at q1;have far:∀ x,(x=homeK n∨x=A4 n)→x≠homeK r+(if A4 r<homeK r then -1 else 1)∧x≠A4 r∧x≠homeK r+2*(if A4 r<homeK r then -1 else 1)∧x≠homeK r:=by
    have hall:∀ n r:Nat,n<4→r<4→homeK r≠homeK n→∀ x∈[homeK n,A4 n],x≠homeK r+(if A4 r<homeK r then -1 else 1)∧x≠A4 r∧x≠homeK r+2*(if A4 r<homeK r then -1 else 1)∧x≠homeK r:=by
     intro n r hn hr;have e1:n=0∨n=1∨n=2∨n=3:=by omega
     have e2:r=0∨r=1∨r=2∨r=3:=by omega
     rcases e1 with rfl | rfl | rfl | rfl<;>rcases e2 with rfl | rfl | rfl | rfl<;>decide
    intro x hx;exact hall n r hn r4 q1 x (by simp;exact hx)
   obtain ⟨a1,a2,a3,a4⟩:=far _ (.inl rfl);obtain ⟨c1,c2,c3,c4⟩:=far _ (.inr rfl);rw [L8 hI hc k0,L8 hI hc r0,zJ a1,zJ a2,zJ a3,zJ a4,zJ c1,zJ c2,zJ c3,zJ c4];exact ⟨s1,s2⟩
  ·rw [htu,show (1-(1-p.turn))=p.turn by omega,ko.at,a2U hI hc];exact hq
end Ch
end
section
open Go Go.RowKit
open E
def a06 (p:l9):Prop:=p.half<4611686018427387904∧p.full<4611686018427387904
theorem a6m {p:l9} (hI:Ch.B9 p) {m:Mv} (h:m∈Ch.a2N p):b13 m:=by
 rcases (Ch.a04 hI m).1 h with h | ⟨r,hr⟩
 ·refine ⟨⟨h.f0,h.f1⟩,⟨h.t0,h.t1⟩,?_⟩;rcases h.promo with ⟨e,_⟩ | ⟨e1,e2,_⟩<;>omega
 ·obtain ⟨r4,_,_,hc⟩:=Ch.I1 hI hr;obtain ⟨⟨k0,k1,_⟩,_⟩:=Ch.a13 r r4;have hk:=hc.k;have ht:=hI.turn;have hw:(if Ch.A4 r<Ch.homeK r then (-1:Int) else 1)=1∨(if Ch.A4 r<Ch.homeK r then (-1:Int) else 1)=-1:=by split<;>simp
  rw [hc.mv];generalize (if Ch.A4 r<Ch.homeK r then (-1:Int) else 1)=w at hw
  exact ⟨⟨k0,k1⟩,⟨by simp only;omega,by simp only;omega⟩,by simp only;omega,by simp only;omega⟩
theorem a4L (p:l9):(Ch.a2N p).length≤14338:=by
 unfold Ch.a2N;have h1:=a41 p 64;have hcas:(Ch.a1n p).length≤2:=by
  unfold Ch.a1n Ch.U5;rw [zF];split<;>split<;>simp
 rw [zF];omega
theorem b7H {p:l9} (hI:Ch.B9 p) {m:Mv} (h:m∈Ch.a2N p):Pc (Ch.made p m):=by
 rcases (Ch.a04 hI m).1 h with h | ⟨r,hr⟩
 ·exact Ch.a2V hI h
 ·obtain ⟨_,_,_,hc⟩:=Ch.I1 hI hr;exact Ch.a12 hI hc
theorem a2W (p:l9) (hI:Ch.B9 p) (hN:a06 p) (w:World) :
  Calls G.P 68 #[E2 p] w (fun r w'=>∃ v l',r = .returned v∧l'.Perm (Ch.s8 p)∧Row 36 3 N1 w.heap.size w' v l'∧Cl w w'):=by
 have ht:=hI.turn;have hp:Pc p:=hI.pc;obtain ⟨n1,n2⟩:=hN;refine zN Tryz.func68 ?_;refine zG ?_;refine zR ?_;generalize hW:w.alloc (.cells (v8 p) 24)=W0;have hP:∀ w',Cl W0 w'→w'.heap[w.heap.size]?=some (.cells (v8 p) 24 (0,0)):=fun w' h=>(hW▸h:Cl (w.alloc (.cells (v8 p) 24)) w').blk (g7 _ _);have hE:∀ w',Cl W0 w'→Cl w w':=fun w' h=>(Cl.alloc _ _).trans (hW▸h);have q1:IntKind.i64.wrap (1-p.turn)=1-p.turn:=g9 zo zo;refine zR ?_;refine d9 _ (A3 (hP _ (Cl.refl _))) (zR ?_);refine m8 (b7F p hI _) ?_;rintro r w1 ⟨v,l,rfl,hlp,hl,c1⟩;refine ⟨_,rfl,?_⟩;obtain ⟨al,cl,rfl,hal⟩:=hl.form;have hll:l.length≤14338:=by rw [hlp.length_eq];exact a4L p
 refine zR ?_;refine d9 _ (A3 (hP _ c1)) (zR ?_);refine d9 _ (G7 (hP _ c1)) (zR ?_);refine o8 (a8h p p.turn _ zo zo) fun w2 c2=>?_;have hl2:=hl.step c2;have hcl2:=c1.trans c2;have hK:=hI.king p.turn ht;generalize hKK:Ch.kingAt p p.turn=K at *;have hK0:=hK.1;have hK1:=hK.2.1;refine zR ?_;refine A9 (σ:=Nat×Value) [3,6,7] 8 (fun a=>[(3,a.2),(6,.int .i64 a.1)]) (fun a w'=>a.1≤l.length∧Row 36 3 N1 w2.heap.size w' a.2 ((l.take a.1).filter (Ch.a5r p))∧Cl w2 w') (fun a=>l.length-a.1) zk (0,.slice none 0 0)
  ⟨zo,Row.nil _ _,Cl.refl _⟩ ⟨rfl,rfl,trivial⟩ ?_
 rintro ⟨i,v⟩ j w3 ⟨hi,hrow,hcl⟩;simp only at hi hrow;obtain ⟨a3,c3,rfl,_⟩:=hrow.form;have hlen:((l.take i).filter (Ch.a5r p)).length≤14338:=by
  have:=List.length_filter_le (Ch.a5r p) (l.take i);rw [yc] at this;omega
 refine zR ?_;apply E.d6<;>intro h
 ·have hil:i<l.length:=by simp only at h;omega
  clear h;obtain ⟨g,rfl⟩:=hal zo;have hst:=a6I (Ch.a5r p) l i hil;generalize hx:l[i]=m at hst;have hmp:m∈Ch.a2N p:=hlp.subset (hx▸yM hil);have hok:=a6m hI hmp;have hok':=hok;obtain ⟨⟨a0,a1⟩,⟨b0,b1⟩,⟨d0,d1⟩⟩:=hok';have ni:IntKind.i64.wrap ((i:Int)+1)=((i+1:Nat):Int):=by rw [g9 zo zo];push_cast;omega
  have hl3:∀ w',Cl w3 w'→Row 36 3 N1 W0.heap.size w' (.slice (some ⟨g,0,none⟩) l.length cl) l:=fun w' h=>hl2.step (hcl.trans h);have hP3:∀ w',Cl w3 w'→w'.heap[w.heap.size]?=some (.cells (v8 p) 24 (0,0)):=fun w' h=>hP w' (hcl2.trans (hcl.trans h));generalize hat:(if m.fr=K then m.to else K)=at_
  have hat0:0≤at_∧at_≤63:=by rw [← hat];split<;>omega
  refine zG ?_;refine Nx.mk (zG ?_);refine B0 (σ:=Unit) [7] 8 (fun _=>[(7,.int .i64 at_)]) (fun _ w'=>w'=w3) zk ?_ (fun _ j w4 e4=>?_)
  ·refine zR ?_;refine zC ?_;refine zR ?_;refine d9 (.int .i64 m.fr) (N9 (hl3 _ (Cl.refl _)) E0 i 0 hil zd (by rw [hx];rfl) ?_ rfl) ?_
   ·simp [E.y6]
   refine zR ?_;apply E.d6<;>intro h
   ·rw [zM h] at hat;refine zR ?_;refine zC ?_;refine zR ?_;refine d9 (.int .i64 m.to) (N9 (hl3 _ (Cl.refl _)) E0 i 1 hil zd (by rw [hx];rfl) ?_ rfl) ?_
    ·simp [E.y6];rfl
    refine zR ?_;exact ⟨(),⟨d7 hat,trivial⟩,rfl⟩
   ·rw [zJ h] at hat;refine zR ?_;exact ⟨(),⟨d7 hat,trivial⟩,rfl⟩
  subst e4;have hsafe:Ch.a5r p m=(decide (at_<0) || !Ch.B5 (Ch.made p m) at_ (1-p.turn)):=by
   unfold Ch.a5r;rw [hKK,hat]
  have hmp':=b7H hI hmp;refine Nx.mk ?_;refine (B0 (σ:=Unit) [33,34,35,36,37,38,39,40,41,42,43,44,45,46,47,48] 49 (fun _=>[(48,.bool (Ch.a5r p m))]) (fun _ w'=>Cl w4 w') zk ?_ (fun _ j w5 c5=>?_)).go
  ·refine zR ?_;refine zK 16 ?_;refine zR ?_;apply E.d6<;>intro h
   ·omega
   refine zR ?_;refine m7 _ (fun w hw=>A3 (hP3 _ hw)) (zR ?_);refine zC ?_;refine zR ?_;refine m7 (mvV m) (fun w hw=>a1f (hl3 _ hw) E0 i hil rfl ?_ (by rw [hx];rfl)) ?_
   ·simp [E.y6]
   refine zR ?_;refine D4 _ (fun _ _ h=>h.trans) (fun w _=>a6g p m hp hok ht hI.c0 hI.c1 hI.h0 n1 (by have:=hI.f1;omega) n2 w) (zR ?_)
   refine m7 _ (fun w hw=>G7 (hP3 _ hw)) (zR ?_);simp only [q1];refine D4 _ (fun _ _ h=>h.trans) (fun w _=>a1L (Ch.made p m) hmp' at_ (1-p.turn) w hat0.1 hat0.2) (zR ?_)
   intro w5 c5;exact ⟨(),⟨yG Value.bool (by rw [hsafe,zV zo];rfl),trivial⟩,c5⟩
  have hrow5:=hrow.step c5;have hcl5:=hcl.trans c5;cases hsf:Ch.a5r p m
  ·rw [hsf] at hst;simp only [yB,if_false,zm] at hst;refine zR ?_;exact ⟨(i+1,_),⟨rfl,d7 ni,trivial⟩,⟨by simp only;omega,by simp only [hst];exact hrow5,hcl5⟩,by simp only;omega⟩
  ·rw [hsf] at hst;simp only [if_true] at hst;refine zR ?_;refine zC ?_;refine zR ?_;refine d9 (mvV m) (a1f (hl3 _ c5) E0 i hil rfl ?_ (by rw [hx];rfl)) ?_
   ·simp [E.y6]
   refine zR ?_;refine B6 a8g [mvV m] (by rw [zb];rfl) (by simp [mvV,Z0,Value.cells]) rfl zd zd (zR ?_)
   refine S0 (enc:=N1) a8g m rfl hrow5 rfl rfl rfl E0 O5 zo zd hcl5.size (fun v' w7 hr hc=>?_);obtain ⟨a7,cc7,rfl,_⟩:=hr.form;refine zR ?_;exact ⟨(i+1,_),⟨rfl,d7 ni,trivial⟩,⟨by simp only;omega,by simp only [hst];exact hr,hc.cl w2 rfl hcl5⟩,by simp only;omega⟩
 ·have hil:i=l.length:=by simp only at h;omega
  subst hil;refine zR ?_;refine ⟨_,l.filter (Ch.a5r p),rfl,hlp.filter _,?_,hE _ (hcl2.trans hcl)⟩;simp only [yY] at hrow ⊢;exact hrow.mono (by have:=(hE _ hcl2).size;omega)
def a8r (f:TypeId→Option (List (Option IntKind))) (P:Program):List Field→Nat→Option (List (Option IntKind))
 | [],_=>some []
 | x::r,o=>match f x.type,a8r f P r (o+P.cellsOf x.type) with
  | some l,some m=>if x.offset=o∧l.length=P.cellsOf x.type then some (l++m) else none
  | _,_=>none
def a4M (P:Program):Nat→TypeId→Option (List (Option IntKind))
 | 0,_=>none
 | d+1,t=>match P.underlying t with
  | some (.int q)=>some [some q]
  | some .string=>some [none]
  | some (.array n e)=>match a4M P d e with
   | some l=>if l.length=P.cellsOf e∧n*l.length=P.cellsOf t then some (List.replicate n l).flatten else none
   | none=>none
  | some (.struct fs)=>match a8r (a4M P d) P fs.toList 0 with
   | some l=>if l.length=P.cellsOf t∧fs.all (·.name != "_")=true then some l else none
   | none=>none
  | _=>none
def a25:Value→Lit
 | .int q n=>.int q n
 | .string s=>.string s.data.toList
 | _=>.bool false
def okV:Option IntKind→Value→Bool
 | some q,.int q' n=>decide (q'=q)&&(Lit.int q n).wf
 | none,.string s=>decide (s.size≤maxLen)
 | _,_=>false
def okL:List (Option IntKind)→List Value→Bool
 | [],[]=>true
 | k::ks,c::cs=>okV k c&&okL ks cs
 | _,_=>false
theorem a7C:∀ {ks:List (Option IntKind)} {cs:List Value},okL ks cs=true→cs.length=ks.length:=by
 intro ks
 induction ks with
 | nil=>intro cs h;cases cs with
  | nil=>rfl
  | cons=>simp [okL] at h
 | cons k ks ih=>intro cs h;cases cs with
  | nil=>simp [okL] at h
  | cons c cs=>simp only [okL,zP] at h;simp [ih h.2]
theorem b4E:∀ {a b:List (Option IntKind)} {cs:List Value},okL (a++b) cs=true→okL a (cs.take a.length)=true∧okL b (cs.drop a.length)=true:=by
 intro a
 induction a with
 | nil=>intro b cs h;exact ⟨by simp [okL],by simpa using h⟩
 | cons k a ih =>
  intro b cs h;cases cs with
  | nil=>simp [okL] at h
  | cons c cs =>
   simp only [yS,okL,zP] at h;have:=ih h.2;exact ⟨by simp only [zh,List.take_succ_cons,okL,zP];exact ⟨h.1,this.1⟩,by simpa using this.2⟩
theorem c2B (P:Program) (d e:Nat) (l:List (Option IntKind)) (hd:∀ cs,okL l cs=true→P.keyLits d e cs=some (cs.map a25)):∀ (n s:Nat) (cs:List Value),okL (List.replicate n l).flatten (cs.drop (s*l.length))=true →
  ((List.range' s n).mapM fun i=>P.keyLits d e ((cs.drop (i*l.length)).take l.length)).map List.flatten=some ((cs.drop (s*l.length)).map a25):=by
 intro n
 induction n with
 | zero =>
  intro s cs h;have:=a7C h;simp only [List.replicate_zero,List.flatten_nil,za] at this;rw [List.eq_nil_of_length_eq_zero this];rfl
 | succ n ih =>
  intro s cs h;rw [List.replicate_succ,List.flatten_cons] at h;obtain ⟨h1,h2⟩:=b4E h;rw [List.drop_drop,show s*l.length+l.length=(s+1)*l.length by rw [Nat.succ_mul]] at h2
  have h3:=ih (s+1) cs h2;rw [List.range'_succ,List.mapM_cons,hd _ h1];simp only [Option.pure_def,Option.bind_eq_bind,Option.bind_some];cases hm:(List.range' (s+1) n).mapM (fun i=>P.keyLits d e ((cs.drop (i*l.length)).take l.length)) with
  | none=>rw [hm] at h3;cases h3
  | some x =>
   rw [hm] at h3;simp only [Option.map_some,Option.some.injEq] at h3;simp only [Option.bind_some,Option.map_some,List.flatten_cons,h3,Option.some.injEq];rw [← List.map_append];congr 1;rw [show (s+1)*l.length=s*l.length+l.length by rw [Nat.succ_mul],← List.drop_drop,List.take_append_drop]
theorem c5u (P:Program) (d:Nat) (hd:∀ t ks,a4M P d t=some ks→∀ cs,okL ks cs=true→P.keyLits d t cs=some (cs.map a25)):∀ (fs:List Field) (o:Nat) (ks:List (Option IntKind)) (cs:List Value),a8r (a4M P d) P fs o=some ks→okL ks (cs.drop o)=true →
  (fs.mapM fun f=>P.keyLits d f.type ((cs.drop f.offset).take (P.cellsOf f.type))).map List.flatten=some ((cs.drop o).map a25):=by
 intro fs
 induction fs with
 | nil =>
  intro o ks cs h hk;simp only [a8r,Option.some.injEq] at h;subst h;have:=a7C hk;rw [List.eq_nil_of_length_eq_zero this];rfl
 | cons f r ih =>
  intro o ks cs h hk;simp only [a8r] at h;split at h
  ·rename_i l m h1 h2;split at h
   ·rename_i hc;cases h;obtain ⟨k1,k2⟩:=b4E hk;rw [List.drop_drop,hc.2] at k2;have h3:=ih _ _ _ h2 k2;rw [hc.2] at k1;rw [List.mapM_cons,hc.1,hd _ _ h1 _ k1];simp only [Option.pure_def,Option.bind_eq_bind,Option.bind_some];cases hm:r.mapM (fun f=>P.keyLits d f.type ((cs.drop f.offset).take (P.cellsOf f.type))) with
    | none=>rw [hm] at h3;cases h3
    | some x =>
     rw [hm] at h3;simp only [Option.map_some,Option.some.injEq] at h3;simp only [Option.bind_some,Option.map_some,List.flatten_cons,h3,Option.some.injEq];rw [← List.map_append];congr 1;rw [← List.drop_drop,List.take_append_drop]
   ·cases h
  ·cases h
theorem a9E (P:Program):∀ (d t:Nat) (ks:List (Option IntKind)),a4M P d t=some ks→∀ cs,okL ks cs=true→P.keyLits d t cs=some (cs.map a25):=by
 intro d
 induction d with
 | zero=>intro t ks h;cases h
 | succ d ih =>
  intro t ks h cs hk;simp only [a4M] at h;cases hu:P.underlying t with
  | none=>rw [hu] at h;cases h
  | some td =>
   rw [hu] at h;cases td with
   | int q =>
    simp only [Option.some.injEq] at h;subst h;cases cs with
    | nil=>simp [okL] at hk
    | cons c r=>cases r with
     | cons=>simp [okL] at hk
     | nil =>
      simp only [okL,Bool.and_true] at hk;cases c<;>simp [okV] at hk;obtain ⟨rfl,hw⟩:=hk;simp [Program.keyLits,hu,hw,a25]
   | string =>
    simp only [Option.some.injEq] at h;subst h;cases cs with
    | nil=>simp [okL] at hk
    | cons c r=>cases r with
     | cons=>simp [okL] at hk
     | nil =>
      simp only [okL,Bool.and_true] at hk;cases c<;>simp [okV] at hk;simp [Program.keyLits,hu,hk,a25]
   | array n e =>
    simp only at h;split at h
    ·rename_i l hl;split at h
     ·rename_i hc;cases h;have hlen:=a7C hk;have:=c2B P d e l (ih e l hl) n 0 cs (by simpa using hk)
      simp only [Nat.zero_mul,List.drop_zero] at this;rw [← List.range_eq_range'] at this;have hcl:cs.length=P.cellsOf t:=by rw [hlen,← hc.2];simp
      rw [hc.1] at this;simp only [Program.keyLits,hu];rw [zM hcl];exact this
     ·cases h
    ·cases h
   | struct fs =>
    simp only at h;split at h
    ·rename_i l hl;split at h
     ·rename_i hc;cases h;have hlen:=a7C hk;have:=c5u P d ih fs.toList 0 ks cs hl (by simpa using hk)
      simp only [List.drop_zero] at this;have hcl:cs.length=P.cellsOf t∧(fs.all fun x=>x.name != "_")=true:=⟨by rw [hlen];exact hc.1,hc.2⟩
      simp only [Program.keyLits,hu];rw [zM hcl];exact this
     ·cases h
    ·cases h
   | _=>simp at h
theorem b07 {t m D:Nat} {ks:List (Option IntKind)} (hk:G.P.keyTypeAt m t=true) (hm:m≤10000) (hg:G.P.eqGuardType G.P.depth t=false) (hf:a4M G.P D t=some ks) {xs ys:Array Value}
  (fx:(Value.agg xs).formed G.P t=true) (fy:(Value.agg ys).formed G.P t=true) (hx:okL ks xs.toList=true) (hy:okL ks ys.toList=true) (b:Bool) (hb:b=true↔xs.toList.map a25=ys.toList.map a25) (w:World) :
  (Op.equalIn 10000 t (.agg xs) (.agg ys)).run G.P w = .ok b w:=by
 obtain ⟨r,hr,hiff⟩:=run_equalIn_deep (P:=G.P) (10000-m) m t hk w D D (.agg xs) (.agg ys) _ _ fx fy (a9E G.P D t ks hf _ hx) (a9E G.P D t ks hf _ hy);rw [show 10000-m+m=10000 by omega] at hr
 have hrb:r=b:=by rw [Bool.eq_iff_iff,hiff,hb];exact Iff.rfl
 rw [hr,hrb]
theorem b7I {C:World→Prop} {t:Nat} {xs ys:Array Value} {b:Bool} (hg:G.P.eqGuardType G.P.depth t=false) (hr:∀ w,(Op.equalIn 10000 t (.agg xs) (.agg ys)).run G.P w = .ok b w) {x y:Operand} {dst:Option Nat} {yt ty:Nat} {pos:String} {af:Array Edge} {gd:Option (Nat×Bool)} {env:C8} {K:Value→Prop} (hx:ev env x = .agg xs) (hy:ev env y = .agg ys)
  (h:K (.bool b)):a9r G.P C { dst,op:=.binOp .eql t x y yt,type:=ty,pos,after:=af,guard:=gd } env K:=by
 refine ⟨_,fun w _=>?_,h⟩;show (do pure (Next.value (← (do eqGuard .eql _ x y (ev env x) (ev env y);binOp .eql _ (ev env x) (ev env y)))):Sem Next).run G.P w=_
 have e1:(eqGuard .eql t x y (.agg xs) (.agg ys)).run G.P w = .ok () w:=by simp [eqGuard,hg]
 rw [hx,hy,Sem.run_bind,Sem.run_bind,e1,Result.andThen_ok,run_eql_struct,hr];rfl
theorem c0f {t:Nat} {xs ys:Array Value} {b:Bool} (hg:G.P.eqGuardType G.P.depth t=false) (hr:∀ w,(Op.equalIn 10000 t (.agg xs) (.agg ys)).run G.P w = .ok b w) {x y:Operand} {dst:Option Nat} {yt ty:Nat} {pos:String} {af:Array Edge} {gd:Option (Nat×Bool)} {env:C8} {w:World} {K:Value→World→Prop} (hx:ev env x = .agg xs) (hy:ev env y = .agg ys)
  (h:K (.bool b) w):L5 G.P { dst,op:=.binOp .eql t x y yt,type:=ty,pos,after:=af,guard:=gd } env w K:=by
 refine ⟨.inl ⟨_,w,?_,h⟩⟩;show (do pure (Next.value (← (do eqGuard .eql _ x y (ev env x) (ev env y);binOp .eql _ (ev env x) (ev env y)))):Sem Next).run G.P w=_
 have e1:(eqGuard .eql t x y (.agg xs) (.agg ys)).run G.P w = .ok () w:=by simp [eqGuard,hg]
 rw [hx,hy,Sem.run_bind,Sem.run_bind,e1,Result.andThen_ok,run_eql_struct,hr];rfl
def I64 (n:Int):Prop:=-9223372036854775808≤n∧n≤9223372036854775807
theorem b7J {n:Int} (h:I64 n):(Lit.int .i64 n).wf=true:=by
 have:=h.1;have:=h.2;have e1:IntKind.i64.min=-9223372036854775808:=by decide
 have e2:IntKind.i64.max=9223372036854775807:=by decide
 simp [Lit.wf,e1,e2];omega
def MvR (m:Mv):Prop:=I64 m.fr∧I64 m.to∧I64 m.promo
theorem c4c:G.P.eqGuardType G.P.depth 36=false:=by kernel_rfl
theorem c5v {a b:Mv} (ha:MvR a) (hb:MvR b) (w:World):(Op.equalIn 10000 36 (.agg (Z0 a)) (.agg (Z0 b))).run G.P w = .ok (decide (a=b)) w:=by
 have ok:∀ m:Mv,MvR m→okL [some .i64,some .i64,some .i64] (Z0 m).toList=true:=fun m h=>by
  show (okV (some .i64) (.int .i64 m.fr)&&(okV (some .i64) (.int .i64 m.to)&&(okV (some .i64) (.int .i64 m.promo)&&true)))=true;simp [okV,b7J h.1,b7J h.2.1,b7J h.2.2]
 refine b07 (m:=2) (D:=2) (ks:=[some .i64,some .i64,some .i64]) zk zd c4c zk zk zk (ok a ha) (ok b hb) _ ?_ w;rw [zW];cases a;cases b;simp [Z0,a25]
theorem c2C {m:Mv} (h:b13 m):MvR m:=by
 obtain ⟨⟨a,b⟩,⟨c,d⟩,e,f⟩:=h;exact ⟨⟨zo,zo⟩,⟨zo,zo⟩,⟨zo,zo⟩⟩
theorem c4d (p:l9) (hI:Ch.B9 p) (hN:a06 p) (m:Mv) (hm:MvR m) (w:World) :
  Calls G.P 26 #[E2 p,mvV m] w (L4 (.bool (Ch.O8 p m)) w):=by
 refine zN Tryz.func26 ?_;refine zG ?_;generalize hW:(w.alloc (.cells (v8 p) 24)).alloc (.cells (Z0 m) 36)=W0;have hP:∀ w',Cl W0 w'→w'.heap[w.heap.size]?=some (.cells (v8 p) 24 (0,0)):=fun w' h=>hP2 (hW▸h);have hM:∀ w',Cl W0 w'→w'.heap[(w.alloc (.cells (v8 p) 24)).heap.size]?=some (.cells (Z0 m) 36 (0,0)):=fun w' h=>hM2 (hW▸h);have hE:∀ w',Cl W0 w'→Cl w w':=fun w' h=>hE2 (hW▸h);refine zR ?_;refine d9 _ (A3 (hP _ (Cl.refl _))) (zR ?_);refine m8 (a2W p hI hN _) ?_;rintro r w1 ⟨v,l,rfl,hlp,hl,c1⟩;refine ⟨_,rfl,?_⟩;obtain ⟨al,cl,rfl,hal⟩:=hl.form;have hll:l.length≤14338:=by
  rw [hlp.length_eq];exact zu (List.length_filter_le _ _) (a4L p)
 have hans:Ch.O8 p m=decide (m∈l):=by unfold Ch.O8;exact yZ.2 (hlp.mem_iff).symm
 refine zR ?_;refine A9 (σ:=Nat) [4,6] 7 (fun a=>[(6,.int .i64 a)]) (fun a w'=>a≤l.length∧(∀ x∈l.take a,x≠m)∧Cl w1 w') (fun a=>l.length-a) zk 0
  ⟨zo,by simp,Cl.refl _⟩ ⟨rfl,trivial⟩ ?_
 rintro i j w2 ⟨hi,hno,hcl⟩;refine zR ?_;apply E.d6<;>intro h
 ·have hil:i<l.length:=by omega
  clear h;obtain ⟨g,rfl⟩:=hal zo;have ni:IntKind.i64.wrap ((i:Int)+1)=((i+1:Nat):Int):=by rw [g9 zo zo];push_cast;omega
  refine zR ?_;refine zK 6 ?_;refine zR ?_;refine zC ?_;refine zR ?_;refine m7 (mvV l[i]) (fun w hw=>a1f (hl.step (hcl.trans hw)) E0 i hil rfl ?_ rfl) ?_
  ·simp [E.y6]
  refine zR ?_;refine m7 (mvV m) (fun w hw=>Z1 (hM _ (c1.trans (hcl.trans hw)))) (zR ?_);refine b7I c4c (c5v (c2C (a6m hI ((List.mem_filter.1 (hlp.subset (yM hil))).1))) hm) rfl rfl (zR ?_);intro w3 c3;refine zR ?_;apply E.d6<;>intro h
  ·refine zR ?_;refine ⟨o9 (by rw [hans,zX (h▸yM hil)]),hE _ (c1.trans (hcl.trans c3))⟩
  ·refine zR ?_;refine ⟨i+1,⟨d7 ni,trivial⟩,⟨zo,?_,hcl.trans c3⟩,zo⟩;intro x hx;rw [zw hil,zq,zY] at hx;rcases hx with hx | rfl
   ·exact hno x hx
   ·exact h
 ·have hil:i=l.length:=by omega
  subst hil;rw [yY] at hno;refine zR ?_;refine ⟨o9 (by rw [hans,zV (fun h=>hno m h rfl)]),hE _ (c1.trans hcl)⟩
end
section
structure PM where
 mv:Mv
 tags:Nat
namespace Ch
open Bb
theorem b3v {p q:l9} (h:∀ i:Int,sq p i=0↔sq q i=0) (w:Int):∀ (n:Nat) (i:Int),free p i w n=free q i w n:=by
 intro n
 induction n with
 | zero=>intro i;rfl
 | succ n ih =>
  intro i;simp only [free,ih];congr 1;rw [Bool.eq_iff_iff,beq_iff_eq,beq_iff_eq];exact h _
theorem b5N {p q:l9} (hp:∀ i:Int,0≤sq p i∧sq p i≤12) (hq:∀ i:Int,0≤sq q i∧sq q i≤12) {c:Int} (hc:c=0∨c=1) (hz:∀ i:Int,sq p i=0↔sq q i=0)
  (hs:∀ (i:Int) (k:Int),1≤k→k≤6→(sq p i=k+6*c↔sq q i=k+6*c)) {s:Int} (s0:0≤s):B5 p s c=B5 q s c:=by
 obtain ⟨a,rfl⟩:=ze s0;rw [Bool.eq_iff_iff,T6 p hp hc,T6 q hq hc];have hk:∀ k i,P1 p k c i a=P1 q k c i a:=by
  intro k i;unfold P1;rw [b3v hz]
 simp only [hk];constructor
 ·rintro ⟨k,k1,k6,i,hi,hx,hh⟩;exact ⟨k,k1,k6,i,hi,(hs i k k1 k6).1 hx,hh⟩
 ·rintro ⟨k,k1,k6,i,hi,hx,hh⟩;exact ⟨k,k1,k6,i,hi,(hs i k k1 k6).2 hx,hh⟩
def J3 (p:l9) (m:Mv):Bool:=!B5 (made p m) (kingAt (made p m) p.turn) (1-p.turn)
def capTag (p:l9) (m:Mv):Nat:=if sq p m.to≠0 then 4 else if m.to=p.ep∧kindOf (sq p m.fr)=6 then 8 else 0
def S5 (p:l9) (m:Mv):Nat :=
 if (sq p m.fr=1∧m.fr=4)∨(sq p m.fr=7∧m.fr=60) then (if m.to=2∨m.to=58 then 2 else if m.to=6∨m.to=62 then 1 else 0) else 0
def tg (p:l9) (m:Mv):Nat:=((capTag p m ||| S5 p m) ||| (if J3 p m then 0 else 32)) ||| (if inCheck (made p m) then 16 else 0)
def S6 (p:l9) (fr to:Int):List Int→Nat→List PM
 | [],_=>[]
 | k::ks,t=>(if (t ||| tg p ⟨fr,to,k⟩).testBit 5 then [] else [⟨⟨fr,to,k⟩,t ||| tg p ⟨fr,to,k⟩⟩])++S6 p fr to ks (t ||| tg p ⟨fr,to,k⟩)
def a27 (p:l9) (fr to:Int):List PM :=
 if kindOf (sq p fr)=6∧l8 to=7-7*p.turn then S6 p fr to [2,3,4,5] 0
 else if (tg p ⟨fr,to,0⟩).testBit 5 then [] else [⟨⟨fr,to,0⟩,tg p ⟨fr,to,0⟩⟩]
def Y3 (p:l9) (k:Int) (fr:Nat):List PM:=if sq p fr=k+6*p.turn then (List.range 64).flatMap fun to=>if (goB p k fr).testBit (63-to) then a27 p fr to else [] else []
def A5 (p:l9):List PM:=[1,2,3,4,5,6].flatMap fun k=>(List.range 64).flatMap fun fr=>Y3 p k fr
def T7 (p:l9) (r:Nat):Bool :=
 let K:=homeK r;let w:Int:=if A4 r<homeK r then -1 else 1
 U8 p.castle r&&decide (sq p (K+w)=0)&&decide (sq p (K+2*w)=0)&&(decide (w=1)||decide (sq p (K-3)=0)) && !B5 p (K+w) (1-p.turn) && !B5 p (K+2*w) (1-p.turn) && !inCheck p
def a0N (p:l9):List PM :=
 (if T7 p (2*p.turn).toNat then [⟨s9 (2*p.turn).toNat,1 ||| tg p (s9 (2*p.turn).toNat)⟩] else []) ++
 (if T7 p ((2*p.turn).toNat+1) then [⟨s9 ((2*p.turn).toNat+1:Nat),2 ||| tg p (s9 ((2*p.turn).toNat+1:Nat))⟩] else [])
def O0 (p:l9):List PM:=A5 p++a0N p
def U2 (p:l9) (m:Mv):Bool :=
 if m.promo=0 then inCheck (made p m) else [2,3,4,5].any fun k=>decide (k≤m.promo)&&inCheck (made p ⟨m.fr,m.to,k⟩)
def castleKind (p:l9) (m:Mv):Int:=if kindOf (sq p m.fr)≠1 then 0 else if m.to-m.fr=2 then 1 else if m.to-m.fr=-2 then 2 else 0
def J4 (p:l9) (m:Mv):Int:=castleKind p m+(if sq p m.to≠0 then 4 else if takes p m then 8 else 0)
def T8 (p:l9) (m:Mv):Int:=J4 p m+(if U2 p m then 16 else 0)
def told (p:l9) (m:Mv):Int:=J4 p m+(if inCheck (made p m) then 16 else 0)
theorem b4F (p:l9) (m:Mv):(tg p m).testBit 5 = !J3 p m:=by
 unfold tg capTag S5;simp only [yD];have a:(if sq p m.to≠0 then 4 else if m.to=p.ep∧kindOf (sq p m.fr)=6 then 8 else 0:Nat).testBit 5=false:=by (repeat' split)<;>decide
 have b:(if (sq p m.fr=1∧m.fr=4)∨(sq p m.fr=7∧m.fr=60) then (if m.to=2∨m.to=58 then 2 else if m.to=6∨m.to=62 then 1 else 0) else 0:Nat).testBit 5=false:=by (repeat' split)<;>decide
 have c:(if inCheck (made p m) then 16 else 0:Nat).testBit 5=false:=by split<;>decide
 rw [a,b,c];cases J3 p m<;>decide
theorem a0m {p:l9} (hI:B9 p) {fr to k k':Int} (h:G6 p ⟨fr,to,k⟩) (h':G6 p ⟨fr,to,k'⟩) (hk:k≠0) (hk':k'≠0):J3 p ⟨fr,to,k⟩=J3 p ⟨fr,to,k'⟩:=by
 have ht:=hI.turn;unfold J3;rw [(a1S hI h).at,(a1S hI h').at];have pr:=h.promo;have pr':=h'.promo;simp only at pr pr';have e:∀ i:Int,0≤i→i≤63→(sq (made p ⟨fr,to,k⟩) i=0↔sq (made p ⟨fr,to,k'⟩) i=0)∧∀ x,1≤x→x≤6→(sq (made p ⟨fr,to,k⟩) i=x+6*(1-p.turn)↔sq (made p ⟨fr,to,k'⟩) i=x+6*(1-p.turn)):=by
  intro i i0 i1;rw [V5 hI h i0,V5 hI h' i0];have hn:=(a1R hI h).2.2;have hn':=(a1R hI h').2.2;simp only
  by_cases a:i=to
  ·rw [zM a,zM a];refine ⟨zo,fun x x1 x6=>?_⟩;constructor<;>intro e<;>exfalso<;>omega
  ·rw [zJ a,zJ a];exact ⟨Iff.rfl,fun _ _ _=>Iff.rfl⟩
 have e':∀ i:Int,(sq (made p ⟨fr,to,k⟩) i=0↔sq (made p ⟨fr,to,k'⟩) i=0)∧∀ x,1≤x→x≤6→(sq (made p ⟨fr,to,k⟩) i=x+6*(1-p.turn)↔sq (made p ⟨fr,to,k'⟩) i=x+6*(1-p.turn)):=by
  intro i;by_cases h0:i<0
  ·have q:∀ q:l9,sq q i=sq q 0:=fun q=>by unfold sq;rw [show i.toNat=0 by omega];rfl
   rw [q,q];exact e 0 zo zo
  by_cases h1:63<i
  ·have q:∀ q:l9,sq q i=0:=fun q=>by unfold sq;rw [List.getD_eq_getElem?_getD,List.getElem?_eq_none (by rw [q.len];omega)];rfl
   rw [q,q];exact ⟨Iff.rfl,fun _ _ _=>Iff.rfl⟩
  ·exact e i zo zo
 have hat:0≤(if fr=kingAt p p.turn then to else kingAt p p.turn):=by
  have:=(hI.king p.turn ht).1;have:=h.t0;split<;>assumption
 simp only
 rw [b5N (a2V hI h) (a2V hI h') zo (fun i=>(e' i).1) (fun i x=>(e' i).2 x) hat]
theorem a0u {p:l9} (hI:B9 p) {m:Mv} (h:G6 p m):m∈s8 p↔J3 p m=true:=by
 rw [L9 hI];unfold J3;rw [zc];constructor
 ·rintro (⟨_,h2⟩ | ⟨r,hr,_⟩)
  ·exact h2
  ·exfalso;obtain ⟨_,_,_,hc⟩:=I1 hI hr;have:=a05 hI h;rw [a6l hI hc] at this;cases this
 ·intro h2;exact .inl ⟨h,h2⟩
theorem a6n {p:l9} (hI:B9 p) {k:Int} (k1:1≤k) (k6:k≤6) {fr to:Nat} (hf:fr<64) (ht:to<64) (hs:sq p fr=k+6*p.turn) (pr:Int)
  (hpr:(pr=0∧¬ (k=6∧l8 to=7-7*p.turn))∨(2≤pr∧pr≤5∧k=6∧l8 to=7-7*p.turn)) :
  G6 p ⟨fr,to,pr⟩↔(goB p k fr).testBit (63-to)=true:=by
 rw [b49 hI.pc hI.turn hI.pass hf ht k1 k6 hs];have hk:kindOf (sq p fr)=k:=by rw [hs];exact O6 k1 k6 hI.turn
 have hsd:A1 (sq p fr)=p.turn:=by rw [hs];exact S3 k1 k6 hI.turn
 have hnz:sq p fr≠0:=by rw [hs];have:=hI.turn;omega
 constructor
 ·intro h;refine ⟨h.goal,fun e=>?_⟩;rcases h.other with h2 | h2
  ·exact e.1 h2
  ·exact h2 e.2
 ·rintro ⟨h1,h2⟩;have ho:sq p to=0∨A1 (sq p to)≠p.turn:=by
   by_cases e:sq p to=0
   ·exact .inl e
   ·exact .inr fun e2=>h2 ⟨e,e2⟩
  refine ⟨Int.natCast_nonneg _,by simp only;omega,Int.natCast_nonneg _,by simp only;omega,?_,hnz,hsd,h1,ho,by rw [hk];exact hpr⟩
  intro e;simp only at e;rw [← e] at ho;rcases ho with h3 | h3
  ·exact hnz h3
  ·exact h3 hsd
theorem a3Z {p:l9} (hI:B9 p) {m:Mv} (h:G6 p m):(capTag p m:Int)=if sq p m.to≠0 then 4 else if takes p m then 8 else 0:=by
 unfold capTag;by_cases h0:sq p m.to≠0
 ·rw [zM h0,zM h0];rfl
 rw [zJ h0,zJ h0];have hz:sq p m.to=0:=by omega
 have f0:=h.f0;have f1:=h.f1;have t0:=h.t0;have t1:=h.t1;have htn:=hI.turn;by_cases he:m.to=p.ep∧kindOf (sq p m.fr)=6
 ·rw [zM he];have:takes p m=true:=by
   unfold takes;simp only [hz,decide_true,Bool.not_true,Bool.false_or,zP,zW,zc,zZ];refine ⟨he.2,?_⟩;intro hfile;obtain ⟨_,_,hp⟩:=L7 hI.pass;obtain ⟨p1,p2,p3,p4⟩:=hp zo;rw [← he.1] at p1 p3;rcases P8 hI h.f0 h.f1 h.there h.own h.goal with ⟨g,_⟩ | ⟨_,_,gf,g⟩ | ⟨_,gf,_,_⟩
   ·exact absurd he.2 g
   ·rcases g with g | ⟨g,g2,_⟩
    ·have e:J5 (o7 m.to) (l8 m.to-(1-2*p.turn))=m.fr:=by
      rw [a4v]<;>simp only [o7,l8,up] at * <;> omega
     rw [e] at p3;have:=W8 hI h.there h.own;rw [he.2] at this;omega
    ·simp only [o7,l8,up] at *;omega
   ·omega
  rw [this];rfl
 ·rw [zJ he];cases ht:takes p m
  ·rfl
  ·exfalso;have:=a0T hI h hz ht;exact he ⟨this.1,this.2.2.2.2.1⟩
theorem K7 {p:l9} (hI:B9 p) {m:Mv} (h:G6 p m):S5 p m=0∧castleKind p m=0:=by
 have hn:=a05 hI h;unfold W7 at hn;have hck:castleKind p m=0:=by
  unfold castleKind;by_cases hk:kindOf (sq p m.fr)=1
  ·rw [hk] at hn;simp only [decide_true,yU,zy,zZ] at hn;rw [zJ (by simp [hk]),zJ zo,zJ zo]
  ·rw [zM hk]
 refine ⟨?_,hck⟩;unfold S5;split
 ·rename_i hh;have hk:kindOf (sq p m.fr)=1:=by rcases hh with ⟨e,_⟩ | ⟨e,_⟩<;>rw [e]<;>decide
  rw [hk] at hn;simp only [decide_true,yU,zy,zZ] at hn;have hb:hits p m.fr m.to=true:=by
   rcases P8 hI h.f0 h.f1 h.there h.own h.goal with ⟨_,h2⟩ | ⟨h2,_⟩ | ⟨h2,_⟩
   ·exact h2
   ·rw [hk] at h2;omega
   ·rw [hk] at h2;omega
  obtain ⟨a,ha⟩:=ze h.f0;obtain ⟨b,hb'⟩:=ze h.t0;rw [ha,hb',a6i,← ha,hk] at hb;simp only [P1,if_true,zP,zW] at hb;have hfin:∀ a∈[4,60],∀ b∈[2,58,6,62],dF a b*dF a b≤1→dR a b*dR a b≤1→False:=by decide
  have hnot:∀ b0∈[2,58,6,62],b≠b0:=by
   rintro b0 hb0 rfl;have ha':a=4∨a=60:=by omega
   exact hfin a (by rcases ha' with rfl | rfl<;>decide) b hb0 hb.2.2.1 hb.2.2.2
  have n1:=hnot 2 zd;have n2:=hnot 58 zd;have n3:=hnot 6 zd;have n4:=hnot 62 zd;rw [zJ zo,zJ zo]
 ·rfl
theorem a9G (a b c:Nat) (ha:a=0∨a=4∨a=8) (hb:b=0∨b=1∨b=2) (hc:c=0∨c=16):((a ||| b) ||| 0) ||| c=a+b+c:=by
 rcases ha with rfl | rfl | rfl<;>rcases hb with rfl | rfl | rfl<;>rcases hc with rfl | rfl<;>decide
theorem Y4 (p:l9) (m:Mv):capTag p m=0∨capTag p m=4∨capTag p m=8:=by unfold capTag;(repeat' split)<;>simp
theorem a5y (p:l9) (m:Mv):S5 p m=0∨S5 p m=1∨S5 p m=2:=by unfold S5;(repeat' split)<;>simp
theorem b1G {p:l9} (hI:B9 p) {m:Mv} (h:G6 p m) (hs:J3 p m=true):(tg p m:Int)=told p m:=by
 have h16:(if inCheck (made p m) then 16 else 0:Nat)=0∨(if inCheck (made p m) then 16 else 0:Nat)=16:=by split<;>simp
 have:tg p m=capTag p m+S5 p m+(if inCheck (made p m) then 16 else 0):=by
  unfold tg;rw [hs,zM rfl];exact a9G _ _ _ (Y4 p m) (a5y p m) h16
 rw [this,(K7 hI h).1];unfold told J4;rw [(K7 hI h).2,← a3Z hI h];split<;>omega
theorem b7K (a:Nat) (h:a=0∨a=4∨a=8) (b c:Bool):(a+(if b then 16 else 0)) ||| (a+(if c then 16 else 0))=a+(if b||c then 16 else 0):=by
 rcases h with rfl | rfl | rfl<;>cases b<;>cases c<;>decide
theorem b5O {p:l9} (hI:B9 p) {fr to:Int} (h:∀ k,2≤k→k≤5→G6 p ⟨fr,to,k⟩) :
  ∃ t2 t3 t4 t5:Nat,(S6 p fr to [2,3,4,5] 0=if J3 p ⟨fr,to,2⟩ then [⟨⟨fr,to,2⟩,t2⟩,⟨⟨fr,to,3⟩,t3⟩,⟨⟨fr,to,4⟩,t4⟩,⟨⟨fr,to,5⟩,t5⟩] else []) ∧
   (J3 p ⟨fr,to,2⟩=true→(t2:Int)=T8 p ⟨fr,to,2⟩∧(t3:Int)=T8 p ⟨fr,to,3⟩∧(t4:Int)=T8 p ⟨fr,to,4⟩∧(t5:Int)=T8 p ⟨fr,to,5⟩):=by
 have s3:J3 p ⟨fr,to,3⟩=J3 p ⟨fr,to,2⟩:=a0m hI (h 3 zd zd) (h 2 zd zd) zd zd;have s4:J3 p ⟨fr,to,4⟩=J3 p ⟨fr,to,2⟩:=a0m hI (h 4 zd zd) (h 2 zd zd) zd zd;have s5:J3 p ⟨fr,to,5⟩=J3 p ⟨fr,to,2⟩:=a0m hI (h 5 zd zd) (h 2 zd zd) zd zd;refine ⟨0 ||| tg p ⟨fr,to,2⟩,0 ||| tg p ⟨fr,to,2⟩ ||| tg p ⟨fr,to,3⟩,0 ||| tg p ⟨fr,to,2⟩ ||| tg p ⟨fr,to,3⟩ ||| tg p ⟨fr,to,4⟩,0 ||| tg p ⟨fr,to,2⟩ ||| tg p ⟨fr,to,3⟩ ||| tg p ⟨fr,to,4⟩ ||| tg p ⟨fr,to,5⟩,?_,?_⟩
 ·simp only [S6,yD,b4F,s3,s4,s5,Nat.zero_testBit,Bool.false_or,Bool.or_self];cases J3 p ⟨fr,to,2⟩<;>rfl
 ·intro hs;have e:∀ k,2≤k→k≤5→J3 p ⟨fr,to,k⟩=true→tg p ⟨fr,to,k⟩=capTag p ⟨fr,to,2⟩+(if inCheck (made p ⟨fr,to,k⟩) then 16 else 0):=by
   intro k k2 k5 hs;have h16:(if inCheck (made p ⟨fr,to,k⟩) then 16 else 0:Nat)=0∨(if inCheck (made p ⟨fr,to,k⟩) then 16 else 0:Nat)=16:=by split<;>simp
   have e1:tg p ⟨fr,to,k⟩=capTag p ⟨fr,to,k⟩+S5 p ⟨fr,to,k⟩+(if inCheck (made p ⟨fr,to,k⟩) then 16 else 0):=by
    unfold tg;rw [hs,zM rfl];exact a9G _ _ _ (Y4 p _) (a5y p _) h16
   rw [e1,(K7 hI (h k k2 k5)).1];rfl
  rw [e 2 zd zd hs,e 3 zd zd (by rw [s3];exact hs),e 4 zd zd (by rw [s4];exact hs),e 5 zd zd (by rw [s5];exact hs),Nat.zero_or,
   b7K _ (Y4 p _),b7K _ (Y4 p _),b7K _ (Y4 p _)]
  have hb:∀ k,J4 p ⟨fr,to,k⟩=capTag p ⟨fr,to,2⟩:=by
   intro k;rw [a3Z hI (h 2 zd zd)];show castleKind p ⟨fr,to,2⟩+_=_;rw [(K7 hI (h 2 zd zd)).2,Int.zero_add];rfl
  have hc:∀ (a:Nat) (b:Bool),((a+(if b then 16 else 0):Nat):Int)=(a:Int)+(if b then 16 else 0):=by intro a b;cases b<;>simp
  unfold T8;simp only [hb,hc];refine ⟨?_,?_,?_,?_⟩<;>congr 1<;>simp [U2,or_assoc]
theorem a14 {p:l9} (hI:B9 p) {k:Int} (k1:1≤k) (k6:k≤6) {fr to:Nat} (hf:fr<64) (ht:to<64) (hs:sq p fr=k+6*p.turn) (hb:(goB p k fr).testBit (63-to)=true) :
  (∀ x∈a27 p fr to,x.mv∈s8 p∧G6 p x.mv∧x.mv.fr=fr∧x.mv.to=to∧(x.tags:Int)=T8 p x.mv)∧(∀ m:Mv,m.fr=fr→m.to=to→G6 p m→m∈s8 p→∃ x∈a27 p fr to,x.mv=m)∧((a27 p fr to).map PM.mv).Nodup:=by
 have hk:kindOf (sq p fr)=k:=by rw [hs];exact O6 k1 k6 hI.turn
 unfold a27;rw [hk];by_cases hpr:k=6∧l8 to=7-7*p.turn
 ·rw [zM hpr];have hP:∀ k',2≤k'→k'≤5→G6 p ⟨fr,to,k'⟩:=fun k' h2 h5=>(a6n hI k1 k6 hf ht hs k' (.inr ⟨h2,h5,hpr⟩)).2 hb;obtain ⟨t2,t3,t4,t5,e,hT⟩:=b5O hI hP;rw [e];have s3:J3 p ⟨fr,to,3⟩=J3 p ⟨fr,to,2⟩:=a0m hI (hP 3 zd zd) (hP 2 zd zd) zd zd;have s4:J3 p ⟨fr,to,4⟩=J3 p ⟨fr,to,2⟩:=a0m hI (hP 4 zd zd) (hP 2 zd zd) zd zd;have s5:J3 p ⟨fr,to,5⟩=J3 p ⟨fr,to,2⟩:=a0m hI (hP 5 zd zd) (hP 2 zd zd) zd zd;have hL:∀ k',2≤k'→k'≤5→((⟨fr,to,k'⟩:Mv)∈s8 p↔J3 p ⟨fr,to,k'⟩=true):=fun k' h2 h5=>a0u hI (hP k' h2 h5);cases hsf:J3 p ⟨fr,to,2⟩
  ·refine ⟨by simp,?_,by simp⟩
   rintro ⟨a,b,c⟩ ha hb' hpl hm;simp only at ha hb';subst ha;subst hb';exfalso;have hc:2≤c∧c≤5:=by
    rcases hpl.promo with ⟨_,h2⟩ | ⟨h2,h3,_⟩
    ·exfalso;apply h2;simp only [hk];exact hpr
    ·exact ⟨h2,h3⟩
   have:=(hL c hc.1 hc.2).1 hm;have hcc:c=2∨c=3∨c=4∨c=5:=by omega
   rcases hcc with rfl | rfl | rfl | rfl
   ·rw [hsf] at this;cases this
   ·rw [s3,hsf] at this;cases this
   ·rw [s4,hsf] at this;cases this
   ·rw [s5,hsf] at this;cases this
  ·obtain ⟨e2,e3,e4,e5⟩:=hT hsf;rw [zM rfl];refine ⟨?_,?_,?_⟩
   ·intro x hx;simp only [yQ,zx,or_false] at hx;rcases hx with rfl | rfl | rfl | rfl
    ·exact ⟨(hL 2 zd zd).2 hsf,hP 2 zd zd,rfl,rfl,e2⟩
    ·exact ⟨(hL 3 zd zd).2 (by rw [s3];exact hsf),hP 3 zd zd,rfl,rfl,e3⟩
    ·exact ⟨(hL 4 zd zd).2 (by rw [s4];exact hsf),hP 4 zd zd,rfl,rfl,e4⟩
    ·exact ⟨(hL 5 zd zd).2 (by rw [s5];exact hsf),hP 5 zd zd,rfl,rfl,e5⟩
   ·rintro ⟨a,b,c⟩ ha hb' hpl _;simp only at ha hb';subst ha;subst hb';have hc:2≤c∧c≤5:=by
     rcases hpl.promo with ⟨_,h2⟩ | ⟨h2,h3,_⟩
     ·exfalso;apply h2;simp only [hk];exact hpr
     ·exact ⟨h2,h3⟩
    have hcc:c=2∨c=3∨c=4∨c=5:=by omega
    rcases hcc with rfl | rfl | rfl | rfl<;>simp
   ·simp
 ·rw [zJ hpr];have hP:G6 p ⟨fr,to,0⟩:=(a6n hI k1 k6 hf ht hs 0 (.inl ⟨rfl,hpr⟩)).2 hb;rw [b4F];cases hsf:J3 p ⟨fr,to,0⟩
  ·simp only [Bool.not_false,if_true];refine ⟨by simp,?_,by simp⟩
   rintro ⟨a,b,c⟩ ha hb' hpl hm;simp only at ha hb';subst ha;subst hb';exfalso;have hc:c=0:=by
    rcases hpl.promo with ⟨h2,_⟩ | ⟨_,_,h2,h3⟩
    ·exact h2
    ·exfalso;apply hpr;simp only [hk] at h2;exact ⟨h2,h3⟩
   subst hc;have:=(a0u hI hP).1 hm;rw [hsf] at this;cases this
  ·simp only [Bool.not_true,yB,if_false];refine ⟨?_,?_,by simp⟩
   ·intro x hx;rw [zY] at hx;subst hx;refine ⟨(a0u hI hP).2 hsf,hP,rfl,rfl,?_⟩;rw [b1G hI hP hsf];unfold told T8 U2;rfl
   ·rintro ⟨a,b,c⟩ ha hb' hpl _;simp only at ha hb';subst ha;subst hb';have hc:c=0:=by
     rcases hpl.promo with ⟨h2,_⟩ | ⟨_,_,h2,h3⟩
     ·exact h2
     ·exfalso;apply hpr;simp only [hk] at h2;exact ⟨h2,h3⟩
    subst hc;simp
end Ch
namespace Ch
open Bb
theorem a7D {p:l9} (hI:B9 p) {r:Nat} (hr:r=(2*p.turn).toNat∨r=(2*p.turn).toNat+1) :
  T7 p r=true↔a1z p r=true∧B5 p (s9 r).to (1-p.turn)=false:=by
 have ht:=hI.turn;have hr4:r<4∧(r:Int)/2=p.turn:=by
  rcases hr with e | e<;>rcases ht with t | t<;>rw [t] at e ⊢ <;> subst e<;>decide
 unfold T7 a1z a2M;rw [hI.rights];simp only [zP,zj,zc,zW];rw [a2y];have hto:(s9 r).to=homeK r+2*(if A4 r<homeK r then -1 else 1):=rfl
 rw [hto];have hchk:U8 p.castle r=true→(inCheck p=B5 p (homeK r) (1-p.turn)):=by
  intro hb;obtain ⟨s1,_⟩:=hI.right r hr4.1 hb;obtain ⟨⟨k0,k1,_⟩,_⟩:=a13 r hr4.1;rw [hr4.2] at s1;have hK:=hI.king p.turn ht;have e:=hK.2.2.2 _ k0 k1 s1;unfold inCheck checked;rw [← e,zX k0];rfl
 have hrr:r=0∨r=1∨r=2∨r=3:=by omega
 rcases hrr with rfl | rfl | rfl | rfl;all_goals
  first
  | (have hw:(if A4 ((0:Nat):Int)<homeK ((0:Nat):Int) then (-1:Int) else 1)=1:=by decide
     have hd:a6e (A4 ((0:Nat):Int)-homeK ((0:Nat):Int)) 0=2:=by decide
     rw [hw,hd];constructor
     ·rintro ⟨⟨⟨⟨⟨⟨h1,h2⟩,h3⟩,_⟩,h5⟩,h6⟩,h7⟩;rw [hchk h1] at h7;exact ⟨⟨⟨h1,h7⟩,h5,fun j hj=>by
        have:j=0∨j=1:=by omega
        rcases this with rfl | rfl
        ·exact h2
        ·exact h3⟩,h6⟩
     ·rintro ⟨⟨⟨h1,h7⟩,h5,hf⟩,h6⟩;rw [hchk h1];exact ⟨⟨⟨⟨⟨⟨h1,hf 0 zd⟩,hf 1 zd⟩,.inl rfl⟩,h5⟩,h6⟩,h7⟩)
  | (have hw:(if A4 ((2:Nat):Int)<homeK ((2:Nat):Int) then (-1:Int) else 1)=1:=by decide
     have hd:a6e (A4 ((2:Nat):Int)-homeK ((2:Nat):Int)) 0=2:=by decide
     rw [hw,hd];constructor
     ·rintro ⟨⟨⟨⟨⟨⟨h1,h2⟩,h3⟩,_⟩,h5⟩,h6⟩,h7⟩;rw [hchk h1] at h7;exact ⟨⟨⟨h1,h7⟩,h5,fun j hj=>by
        have:j=0∨j=1:=by omega
        rcases this with rfl | rfl
        ·exact h2
        ·exact h3⟩,h6⟩
     ·rintro ⟨⟨⟨h1,h7⟩,h5,hf⟩,h6⟩;rw [hchk h1];exact ⟨⟨⟨⟨⟨⟨h1,hf 0 zd⟩,hf 1 zd⟩,.inl rfl⟩,h5⟩,h6⟩,h7⟩)
  | (have hw:(if A4 ((1:Nat):Int)<homeK ((1:Nat):Int) then (-1:Int) else 1)=-1:=by decide
     have hd:a6e (A4 ((1:Nat):Int)-homeK ((1:Nat):Int)) 0=3:=by decide
     rw [hw,hd];constructor
     ·rintro ⟨⟨⟨⟨⟨⟨h1,h2⟩,h3⟩,h4⟩,h5⟩,h6⟩,h7⟩;rw [hchk h1] at h7;exact ⟨⟨⟨h1,h7⟩,h5,fun j hj=>by
        have:j=0∨j=1∨j=2:=by omega
        rcases this with rfl | rfl | rfl
        ·exact h2
        ·exact h3
        ·rcases h4 with h4 | h4
         ·exact absurd h4 zd
         ·exact h4⟩,h6⟩
     ·rintro ⟨⟨⟨h1,h7⟩,h5,hf⟩,h6⟩;rw [hchk h1];exact ⟨⟨⟨⟨⟨⟨h1,hf 0 zd⟩,hf 1 zd⟩,.inr (hf 2 zd)⟩,h5⟩,h6⟩,h7⟩)
  | (have hw:(if A4 ((3:Nat):Int)<homeK ((3:Nat):Int) then (-1:Int) else 1)=-1:=by decide
     have hd:a6e (A4 ((3:Nat):Int)-homeK ((3:Nat):Int)) 0=3:=by decide
     rw [hw,hd];constructor
     ·rintro ⟨⟨⟨⟨⟨⟨h1,h2⟩,h3⟩,h4⟩,h5⟩,h6⟩,h7⟩;rw [hchk h1] at h7;exact ⟨⟨⟨h1,h7⟩,h5,fun j hj=>by
        have:j=0∨j=1∨j=2:=by omega
        rcases this with rfl | rfl | rfl
        ·exact h2
        ·exact h3
        ·rcases h4 with h4 | h4
         ·exact absurd h4 zd
         ·exact h4⟩,h6⟩
     ·rintro ⟨⟨⟨h1,h7⟩,h5,hf⟩,h6⟩;rw [hchk h1];exact ⟨⟨⟨⟨⟨⟨h1,hf 0 zd⟩,hf 1 zd⟩,.inr (hf 2 zd)⟩,h5⟩,h6⟩,h7⟩)
theorem a9H {p:l9} (hI:B9 p) {r:Nat} (h:a1P p r (s9 r)) (ha:B5 p (s9 r).to (1-p.turn)=false) :
  (((if r%2=0 then 1 else 2) ||| tg p (s9 r):Nat):Int)=T8 p (s9 r):=by
 obtain ⟨r4,rt,rb,hc⟩:=I1 hI h;have hto0:sq p (s9 r).to=0:=by rw [hc.mv];exact hc.to
 have hking:sq p (s9 r).fr=1+6*p.turn:=by rw [hc.mv];exact hc.king
 have hs:J3 p (s9 r)=true:=by
  unfold J3;rw [(a0l hI hc).1.at,a2U hI hc,ha];rfl
 have hcap:capTag p (s9 r)=0:=by
  unfold capTag;rw [zJ (by simp [hto0]),zJ]
  rw [hking,S4 hI];omega
 have htb:J4 p (s9 r)=castleKind p (s9 r):=by
  unfold J4;rw [zJ (by simp [hto0]),a2S hI hc];simp
 have hk1:¬ kindOf (sq p (s9 r).fr)≠1:=by rw [hking,S4 hI];simp
 have hchk:U2 p (s9 r)=inCheck (made p (s9 r)):=by
  unfold U2;rw [zM (by rw [hc.mv])]
 unfold T8 tg;rw [htb,hchk,hs,hcap,zM rfl];unfold castleKind S5;rw [zJ hk1];have hrr:r=0∨r=1∨r=2∨r=3:=by omega
 have htn:=hI.turn;rcases hrr with rfl | rfl | rfl | rfl
 ·have t:p.turn=0:=by rw [← rt];decide
  rw [hking,t];cases inCheck (made p (s9 0))<;>decide
 ·have t:p.turn=0:=by rw [← rt];decide
  rw [hking,t];cases inCheck (made p (s9 1))<;>decide
 ·have t:p.turn=1:=by rw [← rt];decide
  rw [hking,t];cases inCheck (made p (s9 2))<;>decide
 ·have t:p.turn=1:=by rw [← rt];decide
  rw [hking,t];cases inCheck (made p (s9 3))<;>decide
theorem a2X {p:l9} (hI:B9 p):(∀ x∈a0N p,x.mv∈s8 p∧(x.tags:Int)=T8 p x.mv)∧(∀ m r,a1P p r m→m∈s8 p→∃ x∈a0N p,x.mv=m):=by
 have hmod:(2*p.turn).toNat%2=0∧((2*p.turn).toNat+1)%2=1:=by
  have:=hI.turn;omega
 constructor
 ·intro x hx;unfold a0N at hx;rw [zq] at hx;rcases hx with hx | hx
  ·split at hx
   ·rename_i hm;obtain ⟨h1,h2⟩:=(a7D hI (.inl rfl)).1 hm;rw [zY] at hx;subst hx;have hc:a1P p (2*p.turn).toNat (s9 (2*p.turn).toNat):=⟨.inl rfl,h1,rfl⟩;refine ⟨(L9 hI _).2 (.inr ⟨_,hc,h2⟩),?_⟩;have:=a9H hI hc h2;rw [zM hmod.1] at this;exact this
   ·cases hx
  ·split at hx
   ·rename_i hm;obtain ⟨h1,h2⟩:=(a7D hI (.inr rfl)).1 hm;rw [zY] at hx;subst hx;have hc:a1P p ((2*p.turn).toNat+1) (s9 ((2*p.turn).toNat+1:Nat)):=⟨.inr rfl,h1,rfl⟩;refine ⟨(L9 hI _).2 (.inr ⟨_,hc,h2⟩),?_⟩;have:=a9H hI hc h2;rw [zJ zo] at this;exact this
   ·cases hx
 ·intro m r hc hm;have ha:B5 p m.to (1-p.turn)=false:=by
   rcases (L9 hI m).1 hm with ⟨h,_⟩ | ⟨_,_,h⟩
   ·exfalso;obtain ⟨_,_,_,hcc⟩:=I1 hI hc;have:=a05 hI h;rw [a6l hI hcc] at this;cases this
   ·exact h
  have e:=hc.is;have hmay:T7 p r=true:=(a7D hI hc.right).2 ⟨hc.may,by rw [← e];exact ha⟩
  unfold a0N;rcases hc.right with rfl | rfl
  ·exact ⟨_,zq.2 (.inl (by rw [zM hmay];exact zY.2 rfl)),e.symm⟩
  ·exact ⟨_,zq.2 (.inr (by rw [zM hmay];exact zY.2 rfl)),e.symm⟩
theorem a33 {p:l9} {k:Int} {fr:Nat} {x:PM}:x∈Y3 p k fr↔sq p fr=k+6*p.turn∧∃ to,to<64∧(goB p k fr).testBit (63-to)=true∧x∈a27 p fr to:=by
 unfold Y3;split
 ·rename_i h;simp only [List.mem_flatMap,List.mem_range];constructor
  ·rintro ⟨to,h1,h2⟩;split at h2
   ·exact ⟨h,to,h1,by assumption,h2⟩
   ·cases h2
  ·rintro ⟨_,to,h1,h2,h3⟩;exact ⟨to,h1,by rw [zM h2];exact h3⟩
 ·rename_i h;simp only [zx,false_iff];rintro ⟨h1,_⟩;exact h h1
theorem a1o {p:l9} (hI:B9 p):(∀ x∈O0 p,x.mv∈s8 p∧(x.tags:Int)=T8 p x.mv)∧(∀ m∈s8 p,∃ x∈O0 p,x.mv=m):=by
 have hstd:∀ x,x∈A5 p↔∃ k:Int,1≤k∧k≤6∧∃ fr,fr<64∧x∈Y3 p k fr:=by
  intro x;unfold A5;simp only [List.mem_flatMap,List.mem_range];constructor
  ·rintro ⟨k,h1,h2⟩;simp only [yQ,zx,or_false] at h1;exact ⟨k,zo,zo,h2⟩
  ·rintro ⟨k,h1,h2,h3⟩;exact ⟨k,by simp only [yQ,zx,or_false];omega,h3⟩
 constructor
 ·intro x hx;unfold O0 at hx;rcases zq.1 hx with hx | hx
  ·obtain ⟨k,k1,k6,fr,hf,h⟩:=(hstd x).1 hx;obtain ⟨hs,to,ht,hb,h⟩:=a33.1 h;have:=(a14 hI k1 k6 hf ht hs hb).1 x h;exact ⟨this.1,this.2.2.2.2⟩
  ·exact (a2X hI).1 x hx
 ·intro m hm;unfold O0;rcases (L9 hI m).1 hm with ⟨h,_⟩ | ⟨r,hc,_⟩
  ·have hown:=W8 hI h.there h.own;have f0:=h.f0;have t0:=h.t0;obtain ⟨fr,hfr⟩:=ze h.f0;obtain ⟨to,hto⟩:=ze h.t0;have hf:fr<64:=by have:=h.f1;omega
   have ht:to<64:=by have:=h.t1;omega
   rw [hfr] at hown;have e:m=⟨fr,to,m.promo⟩:=by rw [← hfr,← hto]
   have hpr:=h.promo;rw [hfr,hto] at hpr;have hb:(goB p (kindOf (sq p fr)) fr).testBit (63-to)=true:=(a6n hI hown.1 hown.2.1 hf ht hown.2.2 m.promo hpr).1 (by rw [← e];exact h)
   obtain ⟨x,hx,hxm⟩:=(a14 hI hown.1 hown.2.1 hf ht hown.2.2 hb).2.1 m hfr hto h hm;exact ⟨x,zq.2 (.inl ((hstd x).2 ⟨_,hown.1,hown.2.1,fr,hf,a33.2 ⟨hown.2.2,to,ht,hb,hx⟩⟩)),hxm⟩
  ·obtain ⟨x,hx,hxm⟩:=(a2X hI).2 m r hc hm;exact ⟨x,zq.2 (.inr hx),hxm⟩
theorem b5P {α:Type} [DecidableEq α]:∀ (a b:List α),a.Nodup→(∀ x∈a,x∈b)→a.length≤b.length:=by
 intro a
 induction a with
 | nil=>intro b _ _;simp
 | cons x r ih =>
  intro b hn hs;rw [List.nodup_cons] at hn;have hx:=hs x (by simp)
  have:=ih (b.erase x) hn.2 (fun y hy=>by
   have hne:y≠x:=by rintro rfl;exact hn.1 hy
   exact (List.mem_erase_of_ne hne).2 (hs y (by simp [hy])))
  rw [List.length_erase_of_mem hx] at this;have hpos:0<b.length:=List.length_pos_of_mem hx;simp only [zh];omega
theorem a2q {α β:Type} (f:α→List β):∀ (l:List α),l.Nodup→(∀ a∈l,(f a).Nodup)→(∀ a∈l,∀ b∈l,a≠b→∀ x,x∈f a→x∈f b→False)→(l.flatMap f).Nodup:=by
 intro l
 induction l with
 | nil=>intros;simp
 | cons a r ih =>
  intro hn h1 h2;rw [List.nodup_cons] at hn;rw [List.flatMap_cons,List.nodup_append];refine ⟨h1 a (by simp),ih hn.2 (fun b hb=>h1 b (by simp [hb])) (fun b hb c hc=>h2 b (by simp [hb]) c (by simp [hc])),?_⟩
  intro x hx y hy e;subst e;obtain ⟨b,hb,hxb⟩:=List.mem_flatMap.1 hy;exact h2 a (by simp) b (by simp [hb]) (by rintro rfl;exact hn.1 hb) x hx hxb
theorem b08 {p:l9} (hI:B9 p):((A5 p).map PM.mv).Nodup:=by
 unfold A5;rw [List.map_flatMap];have hmem:∀ {k:Int} {fr:Nat} {m:Mv},1≤k→k≤6→fr<64→m∈(Y3 p k fr).map PM.mv→m.fr=fr∧sq p fr=k+6*p.turn:=by
  intro k fr m k1 k6 hf h;obtain ⟨x,hx,rfl⟩:=List.mem_map.1 h;obtain ⟨hs,to,ht,hb,hx⟩:=a33.1 hx;exact ⟨((a14 hI k1 k6 hf ht hs hb).1 x hx).2.2.1,hs⟩
 refine a2q _ _ zd ?_ ?_
 ·intro k hk;have hkr:1≤k∧k≤6:=by simp only [yQ,zx,or_false] at hk;omega
  rw [List.map_flatMap];refine a2q _ _ List.nodup_range ?_ ?_
  ·intro fr hfr;have hf:=List.mem_range.1 hfr;unfold Y3;split
   ·rename_i hs;rw [List.map_flatMap];refine a2q _ _ List.nodup_range ?_ ?_
    ·intro to hto;split
     ·rename_i hb;exact (a14 hI hkr.1 hkr.2 hf (List.mem_range.1 hto) hs hb).2.2
     ·simp
    ·intro a ha b hb hne m h1 h2;split at h1
     ·rename_i hb1;split at h2
      ·rename_i hb2;obtain ⟨x,hx,rfl⟩:=List.mem_map.1 h1;obtain ⟨y,hy,hxy⟩:=List.mem_map.1 h2;have e1:=((a14 hI hkr.1 hkr.2 hf (List.mem_range.1 ha) hs hb1).1 x hx).2.2.2.1;have e2:=((a14 hI hkr.1 hkr.2 hf (List.mem_range.1 hb) hs hb2).1 y hy).2.2.2.1;rw [hxy,e1] at e2;exact hne zo
      ·simp at h2
     ·simp at h1
   ·simp
  ·intro a ha b hb hne m h1 h2;have e1:=(hmem hkr.1 hkr.2 (List.mem_range.1 ha) h1).1;have e2:=(hmem hkr.1 hkr.2 (List.mem_range.1 hb) h2).1;rw [e1] at e2;exact hne zo
 ·intro a ha b hb hne m h1 h2;have har:1≤a∧a≤6:=by simp only [yQ,zx,or_false] at ha;omega
  have hbr:1≤b∧b≤6:=by simp only [yQ,zx,or_false] at hb;omega
  rw [List.map_flatMap] at h1 h2;obtain ⟨f1,hf1,h1⟩:=List.mem_flatMap.1 h1;obtain ⟨f2,hf2,h2⟩:=List.mem_flatMap.1 h2;obtain ⟨e1,s1⟩:=hmem har.1 har.2 (List.mem_range.1 hf1) h1;obtain ⟨e2,s2⟩:=hmem hbr.1 hbr.2 (List.mem_range.1 hf2) h2;have:f1=f2:=by omega
  subst this;omega
theorem a4N {p:l9} (hI:B9 p):(A5 p).length≤(s8 p).length:=by
 have:=b5P ((A5 p).map PM.mv) (s8 p) (b08 hI) (fun m hm=>by
  obtain ⟨x,hx,rfl⟩:=List.mem_map.1 hm;exact ((a1o hI).1 x (zq.2 (.inl hx))).1)
 rwa [ye] at this
def W9 (p:l9) (ck:Bool) (r:Nat):Bool:=T7 p r && !ck
def a3k (p:l9) (ck:Bool):List PM:=if ck then [] else a0N p
def a34 (p:l9) (ck:Bool):List PM:=A5 p++a3k p ck
theorem c0g (p:l9):a3k p (inCheck p)=a0N p:=by
 unfold a3k;by_cases h:inCheck p=true
 ·rw [zM h];unfold a0N T7;simp [h]
 ·rw [zJ h]
theorem a7E (p:l9):a34 p (inCheck p)=O0 p:=by unfold a34 O0;rw [c0g]
theorem b1H (p:l9) (ck:Bool):(a3k p ck).length≤2:=by unfold a3k a0N;(repeat' split)<;>simp
theorem a9I {p:l9} (hI:B9 p):(O0 p).isEmpty=(s8 p).isEmpty:=by
 obtain ⟨m1,m2⟩:=a1o hI;cases e:(s8 p).isEmpty
 ·cases e2:(O0 p).isEmpty
  ·rfl
  ·rw [List.isEmpty_iff] at e2;cases e3:s8 p with
   | nil=>rw [e3] at e;cases e
   | cons m r =>
    obtain ⟨x,hx,_⟩:=m2 m (by rw [e3];exact yW)
    rw [e2] at hx;cases hx
 ·rw [List.isEmpty_iff] at e;cases e2:O0 p with
  | nil=>rfl
  | cons x r =>
   have:=(m1 x (by rw [e2];exact yW)).1
   rw [e] at this;cases this
end Ch
abbrev Tx:=List UInt8
namespace Ch
def r9 (s:Int):Tx:=[UInt8.ofNat (97+(s%8).toNat)]
def a0K (s:Int):Tx:=[UInt8.ofNat (49+(s/8).toNat)]
def V4 (s:Int):Tx:=if s<0∨s>63 then [] else r9 s++a0K s
def a0H (k:Int):Tx:=if k=1 then [75] else if k=2 then [81] else if k=3 then [82] else if k=4 then [66] else if k=5 then [78] else []
def a3g (k:Int):Tx:=if k=1 then [107] else if k=2 then [113] else if k=3 then [114] else if k=4 then [98] else if k=5 then [110] else if k=6 then [112] else []
def F8 (m:Mv):Tx:=if m.promo=0 then [] else 61::a0H m.promo
def a2s (p:l9) (m:Mv):Tx:=if !inCheck (made p m) then [] else if (s8 (made p m)).isEmpty then [35] else [43]
def G9 (p:l9) (m:Mv):List Mv:=(s8 p).filter fun x=>decide (x.to=m.to) && !decide (x.fr=m.fr)&&decide (sq p x.fr=sq p m.fr)
def apart (p:l9) (m:Mv):Tx :=
 if (G9 p m).isEmpty then []
 else if !(G9 p m).any fun x=>decide (x.fr%8=m.fr%8) then r9 m.fr
 else if !(G9 p m).any fun x=>decide (x.fr/8=m.fr/8) then a0K m.fr
 else V4 m.fr
def a1e (p:l9) (m:Mv):Tx:=if takes p m then [120] else []
def body (p:l9) (m:Mv):Tx :=
 if castleKind p m=1 then [79,45,79]
 else if castleKind p m=2 then [79,45,79,45,79]
 else if kindOf (sq p m.fr)=6 then (if takes p m then r9 m.fr++[120] else [])++V4 m.to++F8 m
 else a0H (kindOf (sq p m.fr))++apart p m++a1e p m++V4 m.to
def sanT (p:l9) (m:Mv):Tx:=body p m++a2s p m
def lanT (p:l9) (m:Mv):Tx:=if 0<castleKind p m then sanT p m else a0H (kindOf (sq p m.fr))++V4 m.fr++a1e p m++V4 m.to++F8 m++a2s p m
def uciT (m:Mv):Tx:=V4 m.fr++V4 m.to++(if 0<m.promo∧m.promo<7 then a3g m.promo else [])
def dec (n:Nat):Tx:=if h:n<10 then [UInt8.ofNat (48+n)] else dec (n/10)++[UInt8.ofNat (48+n%10)]
 termination_by n
 decreasing_by omega
def pcT (x:Int):Tx:=if x=1 then [75] else if x=2 then [81] else if x=3 then [82] else if x=4 then [66] else if x=5 then [78] else if x=6 then [80] else
 if x=7 then [107] else if x=8 then [113] else if x=9 then [114] else if x=10 then [98] else if x=11 then [110] else if x=12 then [112] else []
def Z4 (e:Nat):Tx:=if e=0 then [] else dec e
def a0F (g:Nat→Int):Nat→Nat→Nat→Tx
 | 0,_,e=>Z4 e
 | n+1,f,e=>if g f<1∨g f>12 then a0F g n (f+1) (e+1) else Z4 e++pcT (g f)++a0F g n (f+1) 0
def boardT (p:l9):Nat→Tx
 | 0=>[]
 | r+1=>a0F (fun f=>sq p (8*(r:Int)+f)) 8 0 0++(if r=0 then [] else [47])++boardT p r
def castT (c:Int):Tx:=let t:Tx:=(if U8 c 0 then [75] else [])++(if U8 c 1 then [81] else [])++(if U8 c 2 then [107] else [])++(if U8 c 3 then [113] else [])
 if t.isEmpty then [45] else t
def epT (e:Int):Tx:=if 0≤e∧e<64 then r9 e++a0K e else [45]
def turnT (t:Int):Tx:=if t=1 then [98] else [119]
def fenT (p:l9):Tx:=boardT p 8++[32]++turnT p.turn++[32]++castT p.castle++[32]++epT p.ep++[32]++dec p.half.toNat++[32]++dec p.full.toNat
def a6o (p:l9):Bool :=
 let r:=l8 p.ep-up p.turn
 [(-1:Int),1].any fun d=>decide (0≤J5 (o7 p.ep+d) r)&&decide (sq p (J5 (o7 p.ep+d) r)=6+6*p.turn)
def xfenT (p:l9):Tx:=if p.ep<0∨a6o p=true then fenT p else fenT { p with ep:=-1 }
def a1l (p q:l9):Bool:=decide (p.board=q.board)&&decide (p.turn=q.turn)&&decide (p.castle=q.castle)&&decide (p.ep=q.ep)
def times (l:List l9) (p:l9):Nat:=(l.filter fun q=>a1l q p).length
def a4s (p:l9):Bool :=
 if anyN (fun i=>decide (kindOf (sq p i)=2)||decide (kindOf (sq p i)=3)||decide (kindOf (sq p i)=6)) 64 then false
 else
  let kn:=cntN (fun i=>decide (kindOf (sq p i)=5)) 64;let b0:=cntN (fun i=>decide (kindOf (sq p i)=4)&&decide ((o7 i+l8 i)%2=0)) 64;let b1:=cntN (fun i=>decide (kindOf (sq p i)=4)&&decide ((o7 i+l8 i)%2=1)) 64
  if 0<kn then decide (kn=1)&&decide (b0+b1=0) else decide (b0=0)||decide (b1=0)
def star:Tx:=[42]
def drawT:Tx:=[49,47,50,45,49,47,50]
def a28 (turn:Int):Tx:=if turn=0 then [48,45,49] else [49,45,48]
def C6 (l:List l9) (p:l9) (mo:Int×Tx):Int×Tx :=
 if (s8 p).isEmpty then (if !inCheck p then (4,drawT) else (1,a28 p.turn))
 else if mo.2≠star then mo
 else
  let a:=if 5≤times l p then (6,drawT) else mo
  let b:=if 150≤p.half then (8,drawT) else a
  if a4s p then (9,drawT) else b
def statusOf (p:l9):Int:=if !(s8 p).isEmpty then 0 else if inCheck p then 1 else 4
structure a0n where
 mv:Mv
 tags:Int
 san:Tx
 lan:Tx
 uci:Tx
 fen:Tx
 xfen:Tx
 pos:l9
 outcome:Tx
 method:Int
 status:Int
def stepOf (p:l9) (m:Mv) (mo:Int×Tx):a0n :=
 { mv:=m,tags:=told p m,san:=sanT p m,lan:=lanT p m,uci:=uciT m,fen:=fenT (made p m),xfen:=xfenT (made p m),pos:=made p m,outcome:=mo.2,method:=mo.1,status:=statusOf (made p m) }
def story (l:List l9) (p:l9) (mo:Int×Tx):List Mv→List a0n
 | []=>[]
 | m::r=>if O8 p m then
   let q:=made p m;let mo':=C6 (l++[q]) q mo
   stepOf p m mo'::story (l++[q]) q mo' r
  else []
def storyOf (p:l9) (looked:Bool) (ms:List Mv):List a0n:=story [p] p (if looked then C6 [p] p (0,star) else (0,star)) ms
def K8 (p:l9) (m:Mv):Bool:=[2,3,4,5].all fun k=>!(decide (k<m.promo)&&inCheck (made p ⟨m.fr,m.to,k⟩) && !inCheck (made p m))
def quiet (p:l9):List Mv→Bool
 | []=>decide ((s8 p).length≤218)
 | m::r=>decide ((s8 p).length≤218)&&(!O8 p m||(K8 p m&&quiet (made p m) r))
end Ch
end
section
open Go Go.RowKit
open E
def status (p:l9):Int:=if !(Ch.s8 p).isEmpty then 0 else if Ch.inCheck p then 1 else 2
theorem a0O {α:Type} (l:List α):l.isEmpty=decide (l.length=0):=by cases l<;>simp
theorem b5Q (p:l9):(Ch.s8 p).length≤14338:=zu (List.length_filter_le _ _) (a4L p)
theorem b7L (p:l9) (hI:Ch.B9 p) (hN:a06 p) (w:World):Calls G.P 132 #[E2 p] w (L4 (.int .i64 (status p)) w):=by
 have ht:=hI.turn;refine zN Tryz.func132 ?_;refine zG ?_;refine zR ?_;generalize hW:w.alloc (.cells (v8 p) 24)=W0;have hP:∀ w',Cl W0 w'→w'.heap[w.heap.size]?=some (.cells (v8 p) 24 (0,0)):=fun w' h=>(hW▸h:Cl (w.alloc (.cells (v8 p) 24)) w').blk (g7 _ _);have hE:∀ w',Cl W0 w'→Cl w w':=fun w' h=>(Cl.alloc _ _).trans (hW▸h);refine zR ?_;refine d9 _ (A3 (hP _ (Cl.refl _))) (zR ?_);refine m8 (a2W p hI hN _) ?_;rintro r w1 ⟨v,l,rfl,hlp,hl,c1⟩;refine ⟨_,rfl,?_⟩;obtain ⟨al,cl,rfl,hal⟩:=hl.form;have hlen:=hlp.length_eq;refine zR ?_;apply E.d6<;>intro h
 ·refine zR ?_;exact ⟨by unfold status;rw [a0O,zV zo];rfl,hE _ c1⟩
 ·have he:(Ch.s8 p).isEmpty=true:=by rw [a0O];exact zX zo
  refine zR ?_;refine d9 _ (A3 (hP _ c1)) (zR ?_);refine o8 (a3V p hI.pc _ zo zo) fun w2 c2=>?_;cases hc:Ch.inCheck p
  ·refine zR ?_;exact ⟨by unfold status;rw [he,hc];rfl,hE _ (c1.trans c2)⟩
  ·refine zR ?_;exact ⟨by unfold status;rw [he,hc];rfl,hE _ (c1.trans c2)⟩
theorem b3w (p:l9) (hI:Ch.B9 p) (hN:a06 p) (w:World):Calls G.P 96 #[E2 p] w (L4 (.int .i64 (Ch.statusOf p)) w):=by
 refine zN Tryz.func96 ?_;refine zG ?_;refine zR ?_;generalize hW:w.alloc (.cells (v8 p) 24)=W0;have hP:∀ w',Cl W0 w'→w'.heap[w.heap.size]?=some (.cells (v8 p) 24 (0,0)):=fun w' h=>(hW▸h:Cl (w.alloc (.cells (v8 p) 24)) w').blk (g7 _ _);have hE:∀ w',Cl W0 w'→Cl w w':=fun w' h=>(Cl.alloc _ _).trans (hW▸h);refine zR ?_;refine zL a2x [.int .i64 0,.int .i64 1,.int .i64 4] ?_;have hr:=C1 N4 W0 [0,1,4] zd [.int .i64 0,.int .i64 1,.int .i64 4] rfl (e:=3) (z:=1);have c1:=Cl.alloc W0 (.cells (([.int .i64 0,.int .i64 1,.int .i64 4]:List Value).flatMap fun v=>v.cells.toList).toArray 3);generalize W0.alloc (.cells (([.int .i64 0,.int .i64 1,.int .i64 4]:List Value).flatMap fun v=>v.cells.toList).toArray 3)=w1 at *;refine zR ?_;refine d9 _ (A3 (hP _ c1)) (zR ?_);refine o8 (b7L p hI hN _) fun w2 c2=>?_;have hs:status p=0∧Ch.statusOf p=0∨status p=1∧Ch.statusOf p=1∨status p=2∧Ch.statusOf p=4:=by
  unfold status Ch.statusOf;split<;>(try split)<;>simp
 have hr2:=hr.step c2;have L0:o4 G.P w2 3 ⟨W0.heap.size,0,none⟩ (.int .i64 0):=N9 hr2 N4 0 0 zd zd rfl rfl rfl;have L1:o4 G.P w2 3 ⟨W0.heap.size,1,none⟩ (.int .i64 1):=N9 hr2 N4 1 0 zd zd rfl rfl rfl;have L2:o4 G.P w2 3 ⟨W0.heap.size,2,none⟩ (.int .i64 4):=N9 hr2 N4 2 0 zd zd rfl rfl rfl;have hc2:=hE _ (c1.trans c2);clear hr hr2;have hL:o4 G.P w2 3 ⟨W0.heap.size,(status p).toNat,none⟩ (.int .i64 (Ch.statusOf p)):=by
  rcases hs with ⟨e1,e2⟩ | ⟨e1,e2⟩ | ⟨e1,e2⟩<;>rw [e1,e2]
  ·exact L0
  ·exact L1
  ·exact L2
 have hb:0≤status p∧status p<3:=by omega
 generalize status p=st at *;refine zR ?_;refine E.A2 (E5.2 ⟨hb.1,hb.2⟩) (zR ?_);refine d9 (.int .i64 (Ch.statusOf p)) ?_ ?_
 ·simpa [E.y6] using hL
 refine zR ?_;exact ⟨rfl,hc2⟩
end
end Go.Proofs.YtpclhlhcegcflaaGreatDoor
