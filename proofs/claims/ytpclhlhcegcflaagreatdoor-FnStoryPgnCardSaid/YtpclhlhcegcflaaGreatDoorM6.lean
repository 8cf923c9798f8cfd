/- One part of the proof: Clo Cas Clo2 Sp13 Law5 Sp14 Mac Mac2 Txt Sp15. -/
import Derived.DeepKeys
import Derived.Laws.StructEq
import Derived.Test.YtpclhlhcegcflaaGreatDoorM5
namespace Go.Proofs.YtpclhlhcegcflaaGreatDoor
set_option maxRecDepth 100000
set_option linter.unusedSimpArgs false
set_option linter.unusedVariables false
section
namespace Ch
open Bb
theorem a32 {p:l9} (hI:D0 p) {i:Int} (h:sq p i≠0) (ho:y9 (sq p i)=p.turn):1≤d6 (sq p i)∧d6 (sq p i)≤6∧sq p i=d6 (sq p i)+6*p.turn:=by
 have:=a99 (hI.pc i).1 (hI.pc i).2 h;rw [ho] at this;exact this
theorem b4O {p:l9} (hI:D0 p) {fr to:Int} (f0:0≤fr) (f1:fr≤63) (hx:sq p fr≠0) (ho:y9 (sq p fr)=p.turn) (h:to∈Y0 p fr):sq p to≠1+6*(1-p.turn):=by
 intro hk;have hK:=hI.king (1-p.turn) (by have:=hI.turn;omega)
 have hq:=hI.quiet;obtain ⟨t0,t1⟩:=a1V h;have e:to=z8 p (1-p.turn):=hK.2.2.2 to t0 t1 hk;have hh:a3q p fr to=true:=by
  rcases V5 hI f0 f1 hx ho h with ⟨_,h2⟩|⟨_,h2,_⟩|⟨_,_,_,h2,_⟩
  ·exact h2
  ·exfalso;rw [hk] at h2;have:=hI.turn;omega
  ·exact h2
 have:B7 p to p.turn=true:=by
  refine a3X (i:=fr.toNat) zo ?_;unfold a3f;rw [zi f0];simp [hx,ho,hh]
 rw [e,hq] at this;cases this
def a17 (p:l9) (m:Mv):Int:=if m.promo≠0 then m.promo+6*p.turn else sq p m.fr
theorem a0n {p:l9} (hI:D0 p) {m:Mv} (h:H7 p m):V4 p m=false:=by
 unfold V4;by_cases hk:d6 (sq p m.fr)=1
 ·have hh:a3q p m.fr m.to=true:=by
   rcases V5 hI h.f0 h.f1 h.there h.own h.goal with ⟨_,h2⟩|⟨h2,_⟩|⟨h2,_⟩
   ·exact h2
   ·rw [hk] at h2;omega
   ·rw [hk] at h2;omega
  obtain ⟨a,ha⟩:=ze h.f0;obtain ⟨b,hb⟩:=ze h.t0;rw [ha,hb] at hh;rw [a6e,← ha,hk] at hh;simp only [N4,xy,zP,zW] at hh;obtain ⟨_,_,h3,h4⟩:=hh;have l1:∀ x:Int,x*x≤1→-1≤x∧x≤1:=by
   intro x hx;constructor
   ·refine yf fun hn=>?_;have:2*2≤(-x)*(-x):=Int.mul_le_mul zo zo zo zo;rw [Int.neg_mul_neg] at this;omega
   ·refine yf fun hn=>?_;have:2*2≤x*x:=Int.mul_le_mul zo zo zo zo;omega
  have h5:=l1 _ h3;have h6:=l1 _ h4;simp only [dF,dR,o4,k9] at h5 h6;have:¬ (m.to=m.fr+2)∧¬ (m.to=m.fr-2):=by omega
  simp [this.1,this.2]
 ·simp [hk]
theorem a0D {p:l9} (hI:D0 p) {m:Mv} (h:H7 p m) (hz:sq p m.to=0) (ht:C1 p m=true) :
  m.to=p.ep∧0≤I9 (o4 m.to) (k9 m.fr)∧sq p (I9 (o4 m.to) (k9 m.fr))=6+6*(1-p.turn)∧(k9 m.fr=3∨k9 m.fr=4)∧d6 (sq p m.fr)=6∧I9 (o4 m.to) (k9 m.fr)=m.to-8*up p.turn:=by
 unfold C1 at ht;simp only [hz,decide_true,xw,xc,zP,zc,zW,zZ] at ht;have h0:=h.f0;have h1:=h.f1;have h2:=h.t0;have h3:=h.t1;rcases V5 hI h.f0 h.f1 h.there h.own h.goal with ⟨g,_⟩|⟨_,_,g,_⟩|⟨gk,gf,gr,_,ge⟩
 ·exact absurd ht.1 g
 ·exact absurd g.symm ht.2
 ·have e:=ge hz;obtain ⟨_,_,hp⟩:=S5 hI.pass;obtain ⟨p1,p2,p3,p4⟩:=hp zo;rw [← e] at p1 p3;have hr:k9 m.to-(1-2*p.turn)=k9 m.fr:=by unfold up at gr;omega
  rw [hr] at p3;have hturn:=hI.turn;have hin:0≤o4 m.to∧o4 m.to≤7∧0≤k9 m.fr∧k9 m.fr≤7:=by simp only [o4,k9] at *;omega
  have hat:=a6K hin.1 hin.2.1 hin.2.2.1 hin.2.2.2;refine ⟨e,by rw [hat];omega,p3,zo,gk,?_⟩
  rw [hat];simp only [up,o4,k9] at *;omega
theorem U0 {p:l9} (hI:D0 p) {m:Mv} (h:H7 p m) {j:Int} (j0:0≤j) :
  sq (made p m) j=if j=m.to then a17 p m else if j=m.fr then 0 else if C1 p m=true∧j=F3 p m then 0 else sq p j:=by
 have e:sq (made p m) j=sq (a10 p m) j:=by
  show sq (L7 p m) j=_;unfold L7;rw [a0n hI h];rfl
 rw [e];have f0:=h.f0;have f1:=h.f1;have t0:=h.t0;have t1:=h.t1;have s2:sq (a3w p m) j=if j=m.to then sq p m.fr else if j=m.fr then 0 else sq (a3v p m) j:=by
  unfold a3w;rw [a2J _ _ _ _ h.t0 zo j0,a2J _ _ _ _ h.f0 zo j0];by_cases a:m.to=j
  ·rw [zM a,zM a.symm]
  ·rw [zJ a,zJ (show ¬ j=m.to from fun e=>a e.symm)];by_cases b:m.fr=j
   ·rw [zM b,zM b.symm]
   ·rw [zJ b,zJ (show ¬ j=m.fr from fun e=>b e.symm)]
 have s3:sq (a10 p m) j=if j=m.to then a17 p m else sq (a3w p m) j:=by
  unfold a10 a17;by_cases hp:m.promo≠0
  ·rw [zM hp,zM hp,a2J _ _ _ _ h.t0 zo j0];by_cases a:m.to=j
   ·rw [zM a,zM a.symm]
   ·rw [zJ a,zJ (show ¬ j=m.to from fun e=>a e.symm)]
  ·rw [zJ hp,zJ hp];by_cases a:j=m.to
   ·rw [zM a,s2,zM a]
   ·rw [zJ a]
 rw [s3];by_cases a:j=m.to
 ·rw [zM a,zM a]
 rw [zJ a,zJ a,s2,zJ a];by_cases b:j=m.fr
 ·rw [zM b,zM b]
 rw [zJ b,zJ b];unfold a3v;cases ht:C1 p m
 ·simp
 ·simp only [xy,true_and];have hr:0≤F3 p m∧F3 p m<64:=by
   unfold F3;split
   ·omega
   ·rename_i hz;have:=a0D hI h zo ht;exact ⟨this.2.1,by have:=(at_range (o4 m.to) (k9 m.fr)).2;omega⟩
  rw [a2J _ _ _ _ hr.1 hr.2 j0];by_cases c:F3 p m=j
  ·rw [zM c,zM c.symm]
  ·rw [zJ c,zJ (fun e=>c e.symm)]
theorem a1W {p:l9} (hI:D0 p) {m:Mv} (h:H7 p m) (ht:C1 p m=true):F3 p m=m.to∧sq p m.to≠0∨(sq p (F3 p m)=6+6*(1-p.turn)∧0≤F3 p m∧F3 p m≤63∧(k9 (F3 p m)=3∨k9 (F3 p m)=4)):=by
 unfold F3;split
 ·rename_i hz;exact .inl ⟨rfl,hz⟩
 ·rename_i hz;obtain ⟨_,h2,h3,h4,_,_⟩:=a0D hI h zo ht;have g:=W4 _ _ h2;refine .inr ⟨h3,h2,(at_range _ _).2,?_⟩;rw [g.2.2.2.2];simp only [k9,o4] at *;omega
theorem a18 {p:l9} (hI:D0 p) {m:Mv} (h:H7 p m):(a17 p m=1+6*p.turn↔sq p m.fr=1+6*p.turn)∧a17 p m≠1+6*(1-p.turn)∧1+6*p.turn≤a17 p m∧a17 p m≤6+6*p.turn:=by
 obtain ⟨k1,k6,kx⟩:=a32 hI h.there h.own;have ht:=hI.turn;unfold a17;rcases h.promo with ⟨h1,_⟩|⟨h1,h2,h3,_⟩
 ·rw [zJ zo];refine ⟨Iff.rfl,?_,zo,zo⟩;rw [kx];omega
 ·rw [zM zo];refine ⟨?_,zo,zo,zo⟩;rw [kx,h3];omega
theorem a19 {p:l9} (hI:D0 p) {m:Mv} (h:H7 p m):S9 (made p m) p.turn (if m.fr=z8 p p.turn then m.to else z8 p p.turn):=by
 have ht:=hI.turn;have hK:=hI.king p.turn ht;obtain ⟨nk1,nk2,nk3,nk4⟩:=a18 hI h;have f0:=h.f0;have f1:=h.f1;have t0:=h.t0;have t1:=h.t1;have hto:sq p m.to≠1+6*p.turn:=by
  rcases h.other with e|e
  ·rw [e];omega
  ·intro e2;apply e;rw [e2];exact P5 zd zd ht
 have htk:∀ j,C1 p m=true→j=F3 p m→j≠m.to→sq p j≠1+6*p.turn:=by
  intro j h1 h2 h3;rcases a1W hI h h1 with ⟨e,_⟩|⟨e,_⟩
  ·exact absurd (h2.trans e) h3
  ·rw [h2,e];omega
 by_cases hf:m.fr=z8 p p.turn
 ·rw [zM hf];refine ⟨t0,t1,?_,fun j j0 j1 hj=>?_⟩
  ·rw [U0 hI h t0,zM rfl,nk1,hf];exact hK.2.2.1
  ·rw [U0 hI h j0] at hj;by_cases a:j=m.to
   ·exact a
   rw [zJ a] at hj;by_cases b:j=m.fr
   ·rw [zM b] at hj;omega
   rw [zJ b] at hj;split at hj
   ·omega
   ·have:=hK.2.2.2 j j0 j1 hj;omega
 ·rw [zJ hf];have hnk:sq p m.fr≠1+6*p.turn:=fun e=>hf (hK.2.2.2 _ f0 f1 e);refine ⟨hK.1,hK.2.1,?_,fun j j0 j1 hj=>?_⟩
  ·rw [U0 hI h hK.1,zJ (fun e=>hto (by rw [← e];exact hK.2.2.1)),zJ (fun e=>hf e.symm)]
   split
   ·rename_i hh;exact absurd hK.2.2.1 (htk _ hh.1 hh.2 (fun e=>hto (by rw [← e];exact hK.2.2.1)))
   ·exact hK.2.2.1
  ·rw [U0 hI h j0] at hj;by_cases a:j=m.to
   ·rw [zM a] at hj;exact absurd (nk1.1 hj) hnk
   rw [zJ a] at hj;by_cases b:j=m.fr
   ·rw [zM b] at hj;omega
   rw [zJ b] at hj;split at hj
   ·omega
   ·exact hK.2.2.2 j j0 j1 hj
theorem a4M {p:l9} (hI:D0 p) {m:Mv} (h:H7 p m):S9 (made p m) (1-p.turn) (z8 p (1-p.turn)):=by
 have ht:=hI.turn;have hK:=hI.king (1-p.turn) zo;obtain ⟨nk1,nk2,nk3,nk4⟩:=a18 hI h;have f0:=h.f0;have f1:=h.f1;have t0:=h.t0;have t1:=h.t1;have hto:=b4O hI h.f0 h.f1 h.there h.own h.goal;have hfr:sq p m.fr≠1+6*(1-p.turn):=by
  intro e;have:=h.own;rw [e,P5 zd zd zo] at this;omega
 refine ⟨hK.1,hK.2.1,?_,fun j j0 j1 hj=>?_⟩
 ·rw [U0 hI h hK.1,zJ (fun e=>hto (by rw [← e];exact hK.2.2.1)),zJ (fun e=>hfr (by rw [← e];exact hK.2.2.1))]
  split
  ·rename_i hh;exfalso;rcases a1W hI h hh.1 with ⟨e,_⟩|⟨e,_⟩
   ·apply hto;rw [← e,← hh.2];exact hK.2.2.1
   ·rw [← hh.2,hK.2.2.1] at e;omega
  ·exact hK.2.2.1
 ·rw [U0 hI h j0] at hj;by_cases a:j=m.to
  ·rw [zM a] at hj;exact absurd hj nk2
  rw [zJ a] at hj;by_cases b:j=m.fr
  ·rw [zM b] at hj;omega
  rw [zJ b] at hj;split at hj
  ·omega
  ·exact hK.2.2.2 j j0 j1 hj
end Ch
namespace Ch
open Bb
structure a0U (p:l9) (m:Mv) (K w R:Int):Prop where
 k:K=4+56*p.turn
 way:(w=1∧R=K+3)∨(w=-1∧R=K-4∧sq p (K-3)=0)
 mv:m=⟨K,K+2*w,0⟩
 king:sq p K=1+6*p.turn
 rook:sq p R=3+6*p.turn
 mid:sq p (K+w)=0
 to:sq p (K+2*w)=0
 a0:B7 p K (1-p.turn)=false
 a1:B7 p (K+w) (1-p.turn)=false
theorem J7 {p:l9} (hI:D0 p) {r:Nat} {m:Mv} (h:a16 p r m):r<4∧(r:Int)/2=p.turn∧U2 p.castle r=true∧a0U p m (A2 r) (if C0 r<A2 r then -1 else 1) (C0 r):=by
 have ht:=hI.turn;have hr:r<4∧(r:Int)/2=p.turn:=by
  rcases h.right with e|e<;>rcases ht with t|t<;>rw [t] at e ⊢ <;> subst e<;>decide
 have hm:=h.may;unfold a1p a2K at hm;rw [hI.rights] at hm;simp only [zP,zc] at hm;obtain ⟨⟨hb,h0⟩,h1,hf⟩:=hm;obtain ⟨s1,s2⟩:=hI.right r hr.1 hb;rw [hr.2] at s1 s2;refine ⟨hr.1,hr.2,hb,?_⟩;rw [a2x] at hf;have hm:=h.is;unfold p8 at hm;have hrr:r=0∨r=1∨r=2∨r=3:=by omega
 rcases hrr with rfl|rfl|rfl|rfl
 ·have t:p.turn=0:=by rw [← hr.2];decide
  have m1:=hf 0 zd;have m2:=hf 1 zd;exact ⟨by rw [t];decide,.inl ⟨zd,zd⟩,hm,s1,s2,m1,m2,h0,h1⟩
 ·have t:p.turn=0:=by rw [← hr.2];decide
  have m1:=hf 0 zd;have m2:=hf 1 zd;have m3:=hf 2 zd;exact ⟨by rw [t];decide,.inr ⟨zd,zd,m3⟩,hm,s1,s2,m1,m2,h0,h1⟩
 ·have t:p.turn=1:=by rw [← hr.2];decide
  have m1:=hf 0 zd;have m2:=hf 1 zd;exact ⟨by rw [t];decide,.inl ⟨zd,zd⟩,hm,s1,s2,m1,m2,h0,h1⟩
 ·have t:p.turn=1:=by rw [← hr.2];decide
  have m1:=hf 0 zd;have m2:=hf 1 zd;have m3:=hf 2 zd;exact ⟨by rw [t];decide,.inr ⟨zd,zd,m3⟩,hm,s1,s2,m1,m2,h0,h1⟩
theorem a0d {p:l9} (hI:D0 p):d6 (1+6*p.turn)=1:=L9 zd zd hI.turn
theorem a6h {p:l9} (hI:D0 p) {m:Mv} {K w R:Int} (h:a0U p m K w R):V4 p m=true:=by
 unfold V4;rw [h.mv];simp only [h.king,a0d hI];rcases h.way with ⟨e,_⟩|⟨e,_⟩<;>rw [e]
 ·simp
 ·have:K+2 * -1=K-2:=by omega
  rw [this];simp
theorem a2R {p:l9} (hI:D0 p) {m:Mv} {K w R:Int} (h:a0U p m K w R):C1 p m=false:=by
 unfold C1;rw [h.mv];simp only [h.king,a0d hI,h.to];simp
theorem J8 {p:l9} (hI:D0 p) {m:Mv} {K w R:Int} (h:a0U p m K w R) {j:Int} (j0:0≤j) :
  sq (made p m) j=if j=K+w then 3+6*p.turn else if j=R then 0 else if j=K+2*w then 1+6*p.turn else if j=K then 0 else sq p j:=by
 have ht:=hI.turn;have hk:=h.k;have hw:(w=1∧R=K+3)∨(w=-1∧R=K-4):=by rcases h.way with h|h;exact .inl h;exact .inr ⟨h.1,h.2.1⟩
 show sq (L7 p m) j=_;unfold L7;rw [a6h hI h,zM rfl];have e3:a10 p m=put (put p K 0) (K+2*w) (1+6*p.turn):=by
  unfold a10 a3w a3v;rw [a2R hI h,h.mv];simp only [ne_eq,not_true_eq_false,xh,h.king];rfl
 have ec:(if m.to<m.fr then I9 0 (k9 m.fr) else I9 7 (k9 m.fr))=R:=by
  rw [h.mv];show (if K+2*w<K then I9 0 (k9 K) else I9 7 (k9 K))=R
  have hk4:K=4∨K=60:=by omega
  clear hk;rcases hk4 with rfl|rfl<;>rcases hw with ⟨rfl,rfl⟩|⟨rfl,rfl⟩<;>decide
 have em:(m.fr+m.to)/2=K+w:=by rw [h.mv];show (K+(K+2*w))/2=K+w;omega
 rw [e3,ec,em];have r1:0≤R∧R<64∧0≤K∧K<64∧0≤K+w∧K+w<64∧0≤K+2*w∧K+2*w<64:=by omega
 rw [a2J _ _ _ _ r1.2.2.2.2.1 r1.2.2.2.2.2.1 j0,a2J _ _ _ _ r1.1 r1.2.1 j0,a2J _ _ _ _ r1.2.2.2.2.2.2.1 r1.2.2.2.2.2.2.2 j0,a2J _ _ _ _ r1.2.2.1 r1.2.2.2.1 j0];simp only [@eq_comm _ j]
theorem Z4 {p:l9} (hI:D0 p) {m:Mv} {K w R:Int} (h:a0U p m K w R):S9 (made p m) p.turn m.to∧m.fr=z8 p p.turn:=by
 have ht:=hI.turn;have hk:=h.k;have hw:(w=1∧R=K+3)∨(w=-1∧R=K-4):=by rcases h.way with h|h;exact .inl h;exact .inr ⟨h.1,h.2.1⟩
 have hK:=hI.king p.turn ht;have e:K=z8 p p.turn:=hK.2.2.2 K zo zo h.king;have hm:=h.mv;refine ⟨?_,by rw [hm];exact e⟩
 rw [hm];simp only
 refine ⟨zo,zo,?_,fun j j0 j1 hj=>?_⟩
 ·rw [← hm,J8 hI h zo,zJ zo,zJ zo,zM rfl]
 ·rw [← hm,J8 hI h j0] at hj;split at hj
  ·omega
  split at hj
  ·omega
  split at hj
  ·assumption
  split at hj
  ·omega
  ·have:=hK.2.2.2 j j0 j1 hj;omega
theorem a2S {p:l9} (hI:D0 p) {m:Mv} {K w R:Int} (h:a0U p m K w R):S9 (made p m) (1-p.turn) (z8 p (1-p.turn)):=by
 have ht:=hI.turn;have hk:=h.k;have hw:(w=1∧R=K+3)∨(w=-1∧R=K-4):=by rcases h.way with h|h;exact .inl h;exact .inr ⟨h.1,h.2.1⟩
 have hK:=hI.king (1-p.turn) zo;have n1:∀ x,sq p x≠1+6*(1-p.turn)→z8 p (1-p.turn)≠x:=by
  intro x hx e;apply hx;rw [← e];exact hK.2.2.1
 have e1:=n1 (K+w) (by rw [h.mid];omega)
 have e2:=n1 R (by rw [h.rook];omega)
 have e3:=n1 (K+2*w) (by rw [h.to];omega)
 have e4:=n1 K (by rw [h.king];omega)
 refine ⟨hK.1,hK.2.1,?_,fun j j0 j1 hj=>?_⟩
 ·rw [J8 hI h hK.1,zJ e1,zJ e2,zJ e3,zJ e4];exact hK.2.2.1
 ·rw [J8 hI h j0] at hj;split at hj
  ·omega
  split at hj
  ·omega
  split at hj
  ·omega
  split at hj
  ·omega
  ·exact hK.2.2.2 j j0 j1 hj
theorem a1s {p:l9} (hI:D0 p) {m:Mv} {K w R:Int} (h:a0U p m K w R) (i:Int):0≤sq (made p m) i∧sq (made p m) i≤12:=by
 refine b32 (fun i _=>?_) i;rw [J8 hI h zo];have ht:=hI.turn;repeat' split
 all_goals first|omega|exact hI.pc _
theorem c01 {K w R:Int} {s b:Nat} (hKK:K=4∨K=60) (hR:(w=1∧R=K+3)∨(w=-1∧R=K-4)) (hb:(b:Int)=K+2*w) (hrow:s/8≠b/8):(s:Int)≠K+w∧(s:Int)≠R∧(s:Int)≠K+2*w∧(s:Int)≠K:=by omega
theorem b8g {k s b:Nat} (e0:¬ k=0) (k4:k<4) (hsb:G5 k b s=true) (hne:s≠b):s/8≠b/8:=by
 have hkk:k=1∨k=2∨k=3:=by omega
 rcases hkk with rfl|rfl|rfl<;>simp only [G5,Nat.beq_eq] at hsb<;>omega
theorem c08 {K w R:Int} {i b:Nat} (hKK:K=4∨K=60) (hR:(w=1∧R=K+3)∨(w=-1∧R=K-4)) (hb:(b:Int)=K+2*w) (hrow:i/8=b/8) (hne:(i:Int)≠K+w∧(i:Int)≠R∧(i:Int)≠K+2*w∧(i:Int)≠K) (hq:w=-1→(i:Int)≠K-3) :
  ((K+w).toNat<64∧i/8=(K+w).toNat/8∧(i<(K+w).toNat∧(K+w).toNat<b∨b<(K+w).toNat∧(K+w).toNat<i))∧(K.toNat<64∧i/8=K.toNat/8∧(i<K.toNat∧K.toNat<b∨b<K.toNat∧K.toNat<i)):=by omega
theorem b1I {p:l9} (hI:D0 p) {m:Mv} {K w R:Int} (h:a0U p m K w R) {b:Nat} (hb:m.to=b) (hb64:b<64) {i:Nat} (hi:i<64) (hne:(i:Int)≠K+w∧(i:Int)≠R∧(i:Int)≠K+2*w∧(i:Int)≠K) (hq:w=-1→(i:Int)≠K-3) (hl:dF i b=0∨dR i b=0∨dF i b=dR i b∨dF i b=-dR i b) :
  free (made p m) i (wy i b) (ds i b)=free p i (wy i b) (ds i b):=by
 have hbK:(b:Int)=K+2*w:=by rw [← hb,h.mv]
 have hKK:K=4∨K=60:=by have:=h.k;have:=hI.turn;omega
 have hR:(w=1∧R=K+3)∨(w=-1∧R=K-4):=by rcases h.way with h|h;exact .inl h;exact .inr ⟨h.1,h.2.1⟩
 have hib:i≠b:=by rintro rfl;exact hne.2.2.1 hbK
 have hline:∃ k,k<4∧G5 k i b=true:=by
  rcases hl with hh|hh|hh|hh
  ·exact ⟨1,zd,(b3w i b).2 hh⟩
  ·exact ⟨0,zd,(b3v i b).2 hh⟩
  ·exact ⟨2,zd,(b3x i b).2 hh⟩
  ·exact ⟨3,zd,(b3y i b).2 hh⟩
 obtain ⟨k,k4,hlp⟩:=hline;rw [yv,a1q _ k4 hi hb64 hlp hib,a1q _ k4 hi hb64 hlp hib];by_cases e0:k=0
 ·subst e0;have l0:∀ s:Nat,G5 0 i s=true↔i/8=s/8:=fun s=>by simp [G5]
  have hrow:i/8=b/8:=(l0 b).1 hlp;obtain ⟨⟨a1,a2,a3⟩,⟨a4,a5,a6⟩⟩:=c08 hKK hR hbK hrow hne hq;have ht:=hI.turn;constructor
  ·intro hh;exfalso;have hs:=hh (K+w).toNat a1 ((l0 _).2 a2) a3;rw [J8 hI h (Int.natCast_nonneg _),zM zo] at hs;omega
  ·intro hh;exfalso;have hs:=hh K.toNat a4 ((l0 _).2 a5) a6;rw [zi zo,h.king] at hs;omega
 ·have hoff:∀ s:Nat,s<64→G5 k i s=true→(i<s∧s<b∨b<s∧s<i)→sq (made p m) s=sq p s:=by
   intro s hs hl2 hbt;have hsb:G5 k b s=true:=by rw [← a30 hlp];exact hl2
   obtain ⟨q1,q2,q3,q4⟩:=c01 hKK hR hbK (b8g e0 k4 hsb zo);rw [J8 hI h (Int.natCast_nonneg s),zJ q1,zJ q2,zJ q3,zJ q4]
  constructor
  ·intro hh s hs h1 h2;rw [← hoff s hs h1 h2];exact hh s hs h1 h2
  ·intro hh s hs h1 h2;rw [hoff s hs h1 h2];exact hh s hs h1 h2
theorem a2T {p:l9} (hI:D0 p) {m:Mv} {K w R:Int} (h:a0U p m K w R):B7 (made p m) m.to (1-p.turn)=B7 p m.to (1-p.turn):=by
 have ht:=hI.turn;have hk:=h.k;have hw:(w=1∧R=K+3)∨(w=-1∧R=K-4∧sq p (K-3)=0):=h.way;have hto:m.to=K+2*w:=by rw [h.mv]
 obtain ⟨b,hb⟩:=ze (show 0≤m.to by omega)
 have hb64:b<64:=by omega
 have same:∀ (k:Int) (i:Nat),1≤k→k≤6→(sq (made p m) i=k+6*(1-p.turn)↔sq p i=k+6*(1-p.turn))∧(sq p i=k+6*(1-p.turn)→(i:Int)≠K+w∧(i:Int)≠R∧(i:Int)≠K+2*w∧(i:Int)≠K):=by
  intro k i k1 k6;have hne:sq p i=k+6*(1-p.turn)→(i:Int)≠K+w∧(i:Int)≠R∧(i:Int)≠K+2*w∧(i:Int)≠K:=by
   intro e;refine ⟨?_,?_,?_,?_⟩<;>intro e2<;>rw [e2] at e
   ·rw [h.mid] at e;omega
   ·rw [h.rook] at e;omega
   ·rw [h.to] at e;omega
   ·rw [h.king] at e;omega
  refine ⟨⟨fun e=>?_,fun e=>?_⟩,hne⟩
  ·rw [J8 hI h zo] at e;split at e
   ·omega
   split at e
   ·omega
   split at e
   ·omega
   split at e
   ·omega
   ·exact e
  ·obtain ⟨n1,n2,n3,n4⟩:=hne e;rw [J8 hI h zo,zJ n1,zJ n2,zJ n3,zJ n4];exact e
 have hfree:=fun i hi hne hq hl=>b1I hI h (i:=i) hb hb64 hi hne hq hl;have hitSame:∀ (k:Int) (i:Nat),1≤k→k≤6→i<64→sq p i=k+6*(1-p.turn)→N4 (made p m) k (1-p.turn) i b=N4 p k (1-p.turn) i b:=by
  intro k i k1 k6 hi hx;have hne:=(same k i k1 k6).2 hx;unfold N4;by_cases a1:k=1
  ·rw [zM a1,zM a1]
  rw [zJ a1,zJ a1];by_cases a5:k=5
  ·rw [zM a5,zM a5]
  rw [zJ a5,zJ a5];by_cases a6:k=6
  ·rw [zM a6,zM a6]
  rw [zJ a6,zJ a6];by_cases hl:dF i b=0∨dR i b=0∨dF i b=dR i b∨dF i b=-dR i b
  ·rw [hfree i hi hne (by
    intro e e2;rcases hw with ⟨e3,_⟩|⟨_,_,e3⟩
    ·omega
    ·rw [← e2,hx] at e3;omega) hl]
  ·rw [zV (fun h=>hl (.inl h)),zV (fun h=>hl (.inr (.inl h))),zV (fun h=>hl (.inr (.inr (.inl h)))),zV (fun h=>hl (.inr (.inr (.inr h))))];simp
 rw [hb,yv];rw [Q0 (made p m) (a1s hI h) zo,Q0 p hI.pc zo];constructor
 ·rintro ⟨k,k1,k6,i,hi,hx,hh⟩;have hx':=(same k i k1 k6).1.1 hx;exact ⟨k,k1,k6,i,hi,hx',by rw [← hitSame k i k1 k6 hi hx'];exact hh⟩
 ·rintro ⟨k,k1,k6,i,hi,hx,hh⟩;exact ⟨k,k1,k6,i,hi,(same k i k1 k6).1.2 hx,by rw [hitSame k i k1 k6 hi hx];exact hh⟩
end Ch
namespace Ch
open Bb
theorem S6 {p:l9} (hI:D0 p) (m:Mv):m∈A1 p↔(H7 p m∧B7 (made p m) (z8 (made p m) p.turn) (1-p.turn)=false)∨(∃ r,a16 p r m∧B7 p m.to (1-p.turn)=false):=by
 unfold A1;rw [xW,a0m hI];have hK:=hI.king p.turn hI.turn;constructor
 ·rintro ⟨h|⟨r,h⟩,hs⟩
  ·left;refine ⟨h,?_⟩;rw [(a19 hI h).at];unfold a5s at hs;simp only [zj,zW,zc] at hs;rcases hs with hs|hs
   ·have:=h.t0;have:=hK.1;split at hs<;>omega
   ·exact hs
  ·right;refine ⟨r,h,?_⟩;obtain ⟨_,_,_,hc⟩:=J7 hI h;rw [← a2T hI hc];unfold a5s at hs;simp only [zj,zW,zc] at hs;rw [zM (Z4 hI hc).2] at hs;rcases hs with hs|hs
   ·have:=(Z4 hI hc).1.1;omega
   ·exact hs
 ·rintro (⟨h,hs⟩|⟨r,h,hs⟩)
  ·refine ⟨.inl h,?_⟩;rw [(a19 hI h).at] at hs;unfold a5s;simp only [zj,zW,zc];exact .inr hs
  ·refine ⟨.inr ⟨r,h⟩,?_⟩;obtain ⟨_,_,_,hc⟩:=J7 hI h;rw [← a2T hI hc] at hs;unfold a5s;simp only [zj,zW,zc];rw [zM (Z4 hI hc).2];exact .inr hs
theorem a1t:∀ n:Nat,n<4→(0≤A2 n∧A2 n≤63∧(k9 (A2 n)=0∨k9 (A2 n)=7))∧(0≤C0 n∧C0 n≤63∧(k9 (C0 n)=0∨k9 (C0 n)=7)):=by decide
theorem c09 {p:l9} (hI:D0 p) {m:Mv} (h:H7 p m) (hk:d6 (sq p m.fr)=6):k9 m.to≠7*p.turn:=by
 have ht:=hI.turn;have hr:=hI.pawn m.fr h.f0 h.f1 hk;have f0:=h.f0;have f1:=h.f1;have hb:0≤k9 m.fr∧k9 m.fr≤7:=by simp only [k9];omega
 rcases V5 hI h.f0 h.f1 h.there h.own h.goal with ⟨g,_⟩|⟨_,_,_,g⟩|⟨_,_,g,_⟩
 ·exact absurd hk g
 ·unfold up at g;omega
 ·unfold up at g;omega
theorem a2U {p:l9} (hI:D0 p) {m:Mv} (h:H7 p m) (i:Int):0≤sq (made p m) i∧sq (made p m) i≤12:=by
 refine b32 (fun i _=>?_) i;obtain ⟨_,_,n1,n2⟩:=a18 hI h;have ht:=hI.turn;rw [U0 hI h zo];repeat' split
 ·omega
 ·omega
 ·omega
 ·exact hI.pc _
theorem b4P {p:l9} (hI:D0 p) {m:Mv} (h:H7 p m) (h2:G3 p m=true) :
  d6 (sq p m.fr)=6∧m.to=m.fr+16*up p.turn∧k9 m.fr=1+5*p.turn∧sq p m.to=0∧sq p (m.fr+8*up p.turn)=0:=by
 unfold G3 at h2;simp only [zP,zj,zW] at h2;have ht:=hI.turn;have f0:=h.f0;have f1:=h.f1;rcases V5 hI h.f0 h.f1 h.there h.own h.goal with ⟨g,_⟩|⟨_,g0,gf,g⟩|⟨_,gf,g,_⟩
 ·exact absurd h2.1 g
 ·rcases g with g|⟨g,g2,g3⟩
  ·exfalso;simp only [o4,k9,up] at *;omega
  ·have e:I9 (o4 m.fr) (k9 m.fr+up p.turn)=m.fr+8*up p.turn:=by
    rw [a6K]<;>simp only [o4,k9,up] at * <;> omega
   rw [e] at g3;refine ⟨h2.1,?_,g2,g0,g3⟩;simp only [o4,k9,up] at *;omega
 ·exfalso;simp only [o4,k9,up] at *;omega
theorem a6Q {p:l9} (h:p.ep=-1):L6 p=true:=by
 unfold L6;rw [zM zo,h];rfl
theorem a33 {p:l9} (hI:D0 p) {m:Mv} {K w R:Int} (h:a0U p m K w R):G3 p m=false:=by
 unfold G3;rw [h.mv];simp only [h.king,a0d hI];simp
theorem b1J {p:l9} (hI:D0 p) {m:Mv} (h:H7 p m):L6 (made p m)=true:=by
 cases h2:G3 p m
 ·exact a6Q (by show (if G3 p m then _ else (-1:Int))=-1;rw [h2];rfl)
 ·obtain ⟨hk,hto,hr,hz,hmid⟩:=b4P hI h h2;have ht:=hI.turn;have f0:=h.f0;have f1:=h.f1;have t0:=h.t0;have t1:=h.t1;have hep:(made p m).ep=m.fr+8*up p.turn:=by
   show (if G3 p m then (m.fr+m.to)/2 else (-1:Int))=_
   rw [h2,hto,zM rfl];omega
  have htu:(made p m).turn=1-p.turn:=rfl;unfold L6;rw [hep,htu];have hep1:¬ (m.fr+8*up p.turn<0∨63<m.fr+8*up p.turn):=by simp only [k9,up] at *;omega
  rw [zJ hep1];have hf:o4 (m.fr+8*up p.turn)=o4 m.fr:=by simp only [o4,up] at *;omega
  have hrr:k9 (m.fr+8*up p.turn)=k9 m.fr+up p.turn:=by simp only [k9,up] at *;omega
  have hpawn:sq p m.fr=6+6*p.turn:=by have:=a32 hI h.there h.own;rw [hk] at this;exact this.2.2
  have hnp:a17 p m=6+6*p.turn:=by
   unfold a17;rcases h.promo with ⟨e,_⟩|⟨_,_,_,e⟩
   ·rw [zJ zo];exact hpawn
   ·exfalso;rw [hto] at e;simp only [k9,up] at *;omega
  have hnt:C1 p m=false:=by
   unfold C1;rw [hz,hk];have:o4 m.fr=o4 m.to:=by rw [hto];simp only [o4,up] at *;omega
   simp [this]
  have hsq:∀ j:Int,0≤j→sq (made p m) j=if j=m.to then 6+6*p.turn else if j=m.fr then 0 else sq p j:=by
   intro j j0;rw [U0 hI h j0,hnp,hnt];simp
  have e1:I9 (o4 m.fr) (k9 m.fr+up p.turn-(1-2*(1-p.turn)))=m.to:=by
   rw [a6K]<;>simp only [o4,k9,up] at * <;> omega
  have e2:I9 (o4 m.fr) (k9 m.fr+up p.turn+(1-2*(1-p.turn)))=m.fr:=by
   rw [a6K]<;>simp only [o4,k9,up] at * <;> omega
  simp only [hf,hrr,e1,e2];rw [zJ]
  ·rw [hsq _ t0,hsq _ f0,zM rfl,zJ h.ne,zM rfl];simp only [zP,zW];exact ⟨zo,trivial⟩
  ·rintro (e|e)
   ·apply e;simp only [k9,up] at *;omega
   ·apply e;rw [hsq _ (by simp only [k9,up] at *;omega),zJ (by simp only [k9,up] at *;omega),zJ (by simp only [k9,up] at *;omega)];exact hmid
theorem D0.made {p:l9} (hI:D0 p) {m:Mv} (hm:m∈A1 p):D0 (made p m):=by
 have ht:=hI.turn;have htu:(Ch.made p m).turn=1-p.turn:=rfl;obtain ⟨l0,l1,lb⟩:=b7Z hI.c0 hI.c1 m;have hh0:0≤(Ch.made p m).half:=by
  show 0≤(if C1 p m||decide (d6 (sq p m.fr)=6) then 0 else p.half+1)
  have:=hI.h0;split<;>omega
 have hf1:1≤(Ch.made p m).full:=by show 1≤p.full+p.turn;have:=hI.f1;omega
 rcases (S6 hI m).1 hm with ⟨h,hq⟩|⟨r,hr,hq⟩
 ·have ko:=a19 hI h;have kn:=a4M hI h;refine ⟨a2U hI h,?_,by rw [htu];omega,l0,l1,hh0,hf1,?_,?_,b1J hI h,?_⟩
  ·intro i i0 i1 hk;rw [U0 hI h i0] at hk;split at hk
   ·rename_i e;rw [e];unfold a17 at hk;have hrt:0≤k9 m.to∧k9 m.to≤7:=by have:=h.t0;have:=h.t1;simp only [k9];omega
    rcases h.promo with ⟨e1,e2⟩|⟨e1,e2,_,_⟩
    ·rw [zJ zo] at hk;have:=c09 hI h hk;have e3:k9 m.to≠7-7*p.turn:=fun e3=>e2 ⟨hk,e3⟩;omega
    ·rw [zM zo,L9 zo zo ht] at hk;omega
   ·split at hk
    ·exact absurd hk zd
    ·split at hk
     ·exact absurd hk zd
     ·exact hI.pawn i i0 i1 hk
  ·intro c hc;have:c=p.turn∨c=1-p.turn:=by omega
   rcases this with rfl|rfl
   ·rw [ko.at];exact ko
   ·rw [kn.at];exact kn
  ·intro n hn hb;have hb':U2 (left p.castle m) n=true:=hb;rw [lb n hn] at hb';simp only [zP,zc] at hb';obtain ⟨b1,b2⟩:=hb';unfold a1U at b2;simp only [yA,zZ] at b2;obtain ⟨⟨⟨q1,q2⟩,q3⟩,q4⟩:=b2;obtain ⟨⟨k0,k1,k2⟩,⟨r0,r1,r2⟩⟩:=a1t n hn;obtain ⟨s1,s2⟩:=hI.right n hn b1;have hnt:∀ x,(k9 x=0∨k9 x=7)→x≠m.to→¬ (C1 p m=true∧x=F3 p m):=by
    rintro x hx hne ⟨e1,e2⟩;rcases a1W hI h e1 with ⟨e3,_⟩|⟨_,_,_,e3⟩
    ·exact hne (e2.trans e3)
    ·rw [← e2] at e3;omega
   rw [U0 hI h k0,U0 hI h r0,zJ (fun e=>q3 e.symm),zJ (fun e=>q1 e.symm),zJ (hnt _ k2 (fun e=>q3 e.symm)),zJ (fun e=>q4 e.symm),zJ (fun e=>q2 e.symm),zJ (hnt _ r2 (fun e=>q4 e.symm))];exact ⟨s1,s2⟩
  ·rw [htu,show (1-(1-p.turn))=p.turn by omega];exact hq
 ·obtain ⟨r4,rt,rb,hc⟩:=J7 hI hr;have ko:=(Z4 hI hc).1;have kn:=a2S hI hc;have hk:=hc.k;have hw:(if C0 r<A2 r then (-1:Int) else 1)=1∧C0 r=A2 r+3∨(if C0 r<A2 r then (-1:Int) else 1)=-1∧C0 r=A2 r-4:=by rcases hc.way with h|h;exact .inl h;exact .inr ⟨h.1,h.2.1⟩
  refine ⟨a1s hI hc,?_,by rw [htu];omega,l0,l1,hh0,hf1,?_,?_,a6Q (by show (if G3 p m then _ else (-1:Int))=-1;rw [a33 hI hc];rfl),?_⟩
  ·intro i i0 i1 hk2;have hs:=J8 hI hc i0;generalize (if C0 ↑r<A2 ↑r then (-1:Int) else 1)=w at hs
   rw [hs] at hk2;split at hk2
   ·rw [L9 zd zd ht] at hk2;omega
   split at hk2
   ·exact absurd hk2 zd
   split at hk2
   ·rw [L9 zd zd ht] at hk2;omega
   split at hk2
   ·exact absurd hk2 zd
   ·exact hI.pawn i i0 i1 hk2
  ·intro c hc2;have:c=p.turn∨c=1-p.turn:=by omega
   rcases this with rfl|rfl
   ·rw [ko.at];exact ko
   ·rw [kn.at];exact kn
  ·intro n hn hb;have hb':U2 (left p.castle m) n=true:=hb;rw [lb n hn] at hb';simp only [zP,zc] at hb';obtain ⟨b1,b2⟩:=hb';unfold a1U at b2;simp only [yA,zZ] at b2;obtain ⟨⟨⟨q1,q2⟩,q3⟩,q4⟩:=b2;obtain ⟨⟨k0,k1,k2⟩,⟨r0,r1,r2⟩⟩:=a1t n hn;obtain ⟨s1,s2⟩:=hI.right n hn b1;have hfr:m.fr=A2 r:=by rw [hc.mv]
   rw [hfr] at q1;have far:∀ x,(x=A2 n∨x=C0 n)→x≠A2 r+(if C0 r<A2 r then -1 else 1)∧x≠C0 r∧x≠A2 r+2*(if C0 r<A2 r then -1 else 1)∧x≠A2 r:=by
    have hall:∀ n r:Nat,n<4→r<4→A2 r≠A2 n→∀ x∈[A2 n,C0 n],x≠A2 r+(if C0 r<A2 r then -1 else 1)∧x≠C0 r∧x≠A2 r+2*(if C0 r<A2 r then -1 else 1)∧x≠A2 r:=by
     intro n r hn hr;have e1:n=0∨n=1∨n=2∨n=3:=by omega
     have e2:r=0∨r=1∨r=2∨r=3:=by omega
     rcases e1 with rfl|rfl|rfl|rfl<;>rcases e2 with rfl|rfl|rfl|rfl<;>decide
    intro x hx;exact hall n r hn r4 q1 x (by simp;exact hx)
   obtain ⟨a1,a2,a3,a4⟩:=far _ (.inl rfl);obtain ⟨c1,c2,c3,c4⟩:=far _ (.inr rfl);rw [J8 hI hc k0,J8 hI hc r0,zJ a1,zJ a2,zJ a3,zJ a4,zJ c1,zJ c2,zJ c3,zJ c4];exact ⟨s1,s2⟩
  ·rw [htu,show (1-(1-p.turn))=p.turn by omega,ko.at,a2T hI hc];exact hq
end Ch
end
section
open Go Go.RowKit
open E
def a1A (p:l9):Prop:=p.half<4611686018427387904∧p.full<4611686018427387904
theorem a6i {p:l9} (hI:Ch.D0 p) {m:Mv} (h:m∈Ch.a2L p):b17 m:=by
 rcases (Ch.a0m hI m).1 h with h|⟨r,hr⟩
 ·refine ⟨⟨h.f0,h.f1⟩,⟨h.t0,h.t1⟩,?_⟩;rcases h.promo with ⟨e,_⟩|⟨e1,e2,_⟩<;>omega
 ·obtain ⟨r4,_,_,hc⟩:=Ch.J7 hI hr;obtain ⟨⟨k0,k1,_⟩,_⟩:=Ch.a1t r r4;have hk:=hc.k;have ht:=hI.turn;have hw:(if Ch.C0 r<Ch.A2 r then (-1:Int) else 1)=1∨(if Ch.C0 r<Ch.A2 r then (-1:Int) else 1)=-1:=by split<;>simp
  rw [hc.mv];generalize (if Ch.C0 r<Ch.A2 r then (-1:Int) else 1)=w at hw
  exact ⟨⟨k0,k1⟩,⟨by simp only;omega,by simp only;omega⟩,by simp only;omega,by simp only;omega⟩
theorem a4N (p:l9):(Ch.a2L p).length≤14338:=by
 unfold Ch.a2L;have h1:=a42 p 64;have hcas:(Ch.a1c p).length≤2:=by
  unfold Ch.a1c Ch.S4;rw [zF];split<;>split<;>simp
 rw [zF];omega
theorem b8h {p:l9} (hI:Ch.D0 p) {m:Mv} (h:m∈Ch.a2L p):Pc (Ch.made p m):=by
 rcases (Ch.a0m hI m).1 h with h|⟨r,hr⟩
 ·exact Ch.a2U hI h
 ·obtain ⟨_,_,_,hc⟩:=Ch.J7 hI hr;exact Ch.a1s hI hc
theorem a2V (p:l9) (hI:Ch.D0 p) (hN:a1A p) (w:World) :
  Calls G.P 68 #[D3 p] w (fun r w'=>∃ v l',r = .returned v∧l'.Perm (Ch.A1 p)∧Row 36 3 J3 w.heap.size w' v l'∧Cl w w'):=by
 have ht:=hI.turn;have hp:Pc p:=hI.pc;obtain ⟨n1,n2⟩:=hN;refine zN Tryz.func68 ?_;refine zG ?_;refine zR ?_;generalize hW:w.alloc (.cells (s7 p) 24)=W0;have hP:∀ w',Cl W0 w'→w'.heap[w.heap.size]?=some (.cells (s7 p) 24 (0,0)):=fun w' h=>(hW▸h:Cl (w.alloc (.cells (s7 p) 24)) w').blk (d9 _ _);have hE:∀ w',Cl W0 w'→Cl w w':=fun w' h=>(Cl.alloc _ _).trans (hW▸h);have q1:IntKind.i64.wrap (1-p.turn)=1-p.turn:=g9 zo zo;refine zR ?_;refine b7 _ (A3 (hP _ (Cl.refl _))) (zR ?_);refine o7 (b8f p hI _) ?_;rintro r w1 ⟨v,l,rfl,hlp,hl,c1⟩;refine ⟨_,rfl,?_⟩;obtain ⟨al,cl,rfl,hal⟩:=hl.form;have hll:l.length≤14338:=by rw [hlp.length_eq];exact a4N p
 refine zR ?_;refine b7 _ (A3 (hP _ c1)) (zR ?_);refine b7 _ (E9 (hP _ c1)) (zR ?_);refine o9 (a8a p p.turn _ zo zo) fun w2 c2=>?_;have hl2:=hl.step c2;have hcl2:=c1.trans c2;have hK:=hI.king p.turn ht;generalize hKK:Ch.z8 p p.turn=K at *;have hK0:=hK.1;have hK1:=hK.2.1;refine zR ?_;refine B6 (σ:=Nat×Value) [3,6,7] 8 (fun a=>[(3,a.2),(6,.int .i64 a.1)]) (fun a w'=>a.1≤l.length∧Row 36 3 J3 w2.heap.size w' a.2 ((l.take a.1).filter (Ch.a5s p))∧Cl w2 w') (fun a=>l.length-a.1) zk (0,.slice none 0 0)
  ⟨zo,Row.nil _ _,Cl.refl _⟩ ⟨rfl,rfl,trivial⟩ ?_
 rintro ⟨i,v⟩ j w3 ⟨hi,hrow,hcl⟩;simp only at hi hrow;obtain ⟨a3,c3,rfl,_⟩:=hrow.form;have hlen:((l.take i).filter (Ch.a5s p)).length≤14338:=by
  have:=xG (Ch.a5s p) (l.take i);rw [yb] at this;omega
 refine zR ?_;apply E.b9<;>intro h
 ·have hil:i<l.length:=by simp only at h;omega
  clear h;obtain ⟨g,rfl⟩:=hal zo;have hst:=a6H (Ch.a5s p) l i hil;generalize hx:l[i]=m at hst;have hmp:m∈Ch.a2L p:=hlp.subset (hx▸yO hil);have hok:=a6i hI hmp;have hok':=hok;obtain ⟨⟨a0,a1⟩,⟨b0,b1⟩,⟨d0,d1⟩⟩:=hok';have ni:IntKind.i64.wrap ((i:Int)+1)=((i+1:Nat):Int):=by rw [g9 zo zo];push_cast;omega
  have hl3:∀ w',Cl w3 w'→Row 36 3 J3 W0.heap.size w' (.slice (some ⟨g,0,none⟩) l.length cl) l:=fun w' h=>hl2.step (hcl.trans h);have hP3:∀ w',Cl w3 w'→w'.heap[w.heap.size]?=some (.cells (s7 p) 24 (0,0)):=fun w' h=>hP w' (hcl2.trans (hcl.trans h));generalize hat:(if m.fr=K then m.to else K)=at_
  have hat0:0≤at_∧at_≤63:=by rw [← hat];split<;>omega
  refine zG ?_;refine Nx.mk (zG ?_);refine C3 (σ:=Unit) [7] 8 (fun _=>[(7,.int .i64 at_)]) (fun _ w'=>w'=w3) zk ?_ (fun _ j w4 e4=>?_)
  ·refine zR ?_;refine zC ?_;refine zR ?_;refine b7 (.int .i64 m.fr) (O5 (hl3 _ (Cl.refl _)) D9 i 0 hil zd (by rw [hx];rfl) ?_ rfl) ?_
   ·simp [E.r9]
   refine zR ?_;apply E.b9<;>intro h
   ·rw [zM h] at hat;refine zR ?_;refine zC ?_;refine zR ?_;refine b7 (.int .i64 m.to) (O5 (hl3 _ (Cl.refl _)) D9 i 1 hil zd (by rw [hx];rfl) ?_ rfl) ?_
    ·simp [E.r9];rfl
    refine zR ?_;exact ⟨(),⟨d8 hat,trivial⟩,rfl⟩
   ·rw [zJ h] at hat;refine zR ?_;exact ⟨(),⟨d8 hat,trivial⟩,rfl⟩
  subst e4;have hsafe:Ch.a5s p m=(decide (at_<0) || !Ch.B7 (Ch.made p m) at_ (1-p.turn)):=by
   unfold Ch.a5s;rw [hKK,hat]
  have hmp':=b8h hI hmp;refine Nx.mk ?_;refine (C3 (σ:=Unit) [33,34,35,36,37,38,39,40,41,42,43,44,45,46,47,48] 49 (fun _=>[(48,.bool (Ch.a5s p m))]) (fun _ w'=>Cl w4 w') zk ?_ (fun _ j w5 c5=>?_)).go
  ·refine zR ?_;refine zK 16 ?_;refine zR ?_;apply E.b9<;>intro h
   ·omega
   refine zR ?_;refine m7 _ (fun w hw=>A3 (hP3 _ hw)) (zR ?_);refine zC ?_;refine zR ?_;refine m7 (mvV m) (fun w hw=>a2Q (hl3 _ hw) D9 i hil rfl ?_ (by rw [hx];rfl)) ?_
   ·simp [E.r9]
   refine zR ?_;refine E2 _ (fun _ _ h=>h.trans) (fun w _=>a6b p m hp hok ht hI.c0 hI.c1 hI.h0 n1 (by have:=hI.f1;omega) n2 w) (zR ?_)
   refine m7 _ (fun w hw=>E9 (hP3 _ hw)) (zR ?_);simp only [q1];refine E2 _ (fun _ _ h=>h.trans) (fun w _=>a12 (Ch.made p m) hmp' at_ (1-p.turn) w hat0.1 hat0.2) (zR ?_)
   intro w5 c5;exact ⟨(),⟨yH Value.bool (by rw [hsafe,zV zo];rfl),trivial⟩,c5⟩
  have hrow5:=hrow.step c5;have hcl5:=hcl.trans c5;cases hsf:Ch.a5s p m
  ·rw [hsf] at hst;simp only [yD,xh,zn] at hst;refine zR ?_;exact ⟨(i+1,_),⟨rfl,d8 ni,trivial⟩,⟨by simp only;omega,by simp only [hst];exact hrow5,hcl5⟩,by simp only;omega⟩
  ·rw [hsf] at hst;simp only [xy] at hst;refine zR ?_;refine zC ?_;refine zR ?_;refine b7 (mvV m) (a2Q (hl3 _ c5) D9 i hil rfl ?_ (by rw [hx];rfl)) ?_
   ·simp [E.r9]
   refine zR ?_;refine G2 a7Z [mvV m] (by rw [zb];rfl) (by simp [mvV,S8,Value.cells]) rfl zd zd (zR ?_)
   refine a0l (enc:=J3) a7Z m rfl hrow5 rfl rfl rfl D9 J6 zo zd hcl5.size (fun v' w7 hr hc=>?_);obtain ⟨a7,cc7,rfl,_⟩:=hr.form;refine zR ?_;exact ⟨(i+1,_),⟨rfl,d8 ni,trivial⟩,⟨by simp only;omega,by simp only [hst];exact hr,hc.cl w2 rfl hcl5⟩,by simp only;omega⟩
 ·have hil:i=l.length:=by simp only at h;omega
  subst hil;refine zR ?_;refine ⟨_,l.filter (Ch.a5s p),rfl,hlp.filter _,?_,hE _ (hcl2.trans hcl)⟩;simp only [yZ] at hrow ⊢;exact hrow.mono (by have:=(hE _ hcl2).size;omega)
def a8j (f:TypeId→Option (List (Option IntKind))) (P:Program):List Field→Nat→Option (List (Option IntKind))
 | [],_=>some []
 | x::r,o=>match f x.type,a8j f P r (o+P.cellsOf x.type) with
  | some l,some m=>if x.offset=o∧l.length=P.cellsOf x.type then some (l++m) else none
  | _,_=>none
def a4O (P:Program):Nat→TypeId→Option (List (Option IntKind))
 | 0,_=>none
 | d+1,t=>match P.underlying t with
  | some (.int q)=>some [some q]
  | some .string=>some [none]
  | some (.array n e)=>match a4O P d e with
   | some l=>if l.length=P.cellsOf e∧n*l.length=P.cellsOf t then some (List.replicate n l).flatten else none
   | none=>none
  | some (.struct fs)=>match a8j (a4O P d) P fs.toList 0 with
   | some l=>if l.length=P.cellsOf t∧fs.all (·.name != "_")=true then some l else none
   | none=>none
  | _=>none
def a26:Value→Lit
 | .int q n=>.int q n
 | .string s=>.string s.data.toList
 | _=>.bool false
def okV:Option IntKind→Value→Bool
 | some q,.int q' n=>decide (q'=q)&&(Lit.int q n).wf
 | none,.string s=>decide (s.size≤maxLen)
 | _,_=>false
def okL:List (Option IntKind)→List Value→Bool
 | [],[]=>true
 | k::ks,c::cs=>okV k c&&okL ks cs
 | _,_=>false
theorem a78:∀ {ks:List (Option IntKind)} {cs:List Value},okL ks cs=true→cs.length=ks.length:=by
 intro ks
 induction ks with
 | nil=>intro cs h;cases cs with
  | nil=>rfl
  | cons=>simp [okL] at h
 | cons k ks ih=>intro cs h;cases cs with
  | nil=>simp [okL] at h
  | cons c cs=>simp only [okL,zP] at h;simp [ih h.2]
theorem b4Q:∀ {a b:List (Option IntKind)} {cs:List Value},okL (a++b) cs=true→okL a (cs.take a.length)=true∧okL b (cs.drop a.length)=true:=by
 intro a
 induction a with
 | nil=>intro b cs h;exact ⟨by simp [okL],by simpa using h⟩
 | cons k a ih =>
  intro b cs h;cases cs with
  | nil=>simp [okL] at h
  | cons c cs =>
   simp only [yU,okL,zP] at h;have:=ih h.2;exact ⟨by simp only [zh,xX,okL,zP];exact ⟨h.1,this.1⟩,by simpa using this.2⟩
theorem c2T (P:Program) (d e:Nat) (l:List (Option IntKind)) (hd:∀ cs,okL l cs=true→P.keyLits d e cs=some (cs.map a26)):∀ (n s:Nat) (cs:List Value),okL (List.replicate n l).flatten (cs.drop (s*l.length))=true →
  ((List.range' s n).mapM fun i=>P.keyLits d e ((cs.drop (i*l.length)).take l.length)).map List.flatten=some ((cs.drop (s*l.length)).map a26):=by
 intro n
 induction n with
 | zero =>
  intro s cs h;have:=a78 h;simp only [List.replicate_zero,List.flatten_nil,za] at this;rw [xx this];rfl
 | succ n ih =>
  intro s cs h;rw [List.replicate_succ,List.flatten_cons] at h;obtain ⟨h1,h2⟩:=b4Q h;rw [List.drop_drop,show s*l.length+l.length=(s+1)*l.length by rw [wA]] at h2
  have h3:=ih (s+1) cs h2;rw [List.range'_succ,List.mapM_cons,hd _ h1];simp only [Option.pure_def,Option.bind_eq_bind,xp];cases hm:(List.range' (s+1) n).mapM (fun i=>P.keyLits d e ((cs.drop (i*l.length)).take l.length)) with
  | none=>rw [hm] at h3;cases h3
  | some x =>
   rw [hm] at h3;simp only [wM,x7] at h3;simp only [xp,wM,List.flatten_cons,h3,x7];rw [← List.map_append];congr 1;rw [show (s+1)*l.length=s*l.length+l.length by rw [wA],← List.drop_drop,xm]
theorem c53 (P:Program) (d:Nat) (hd:∀ t ks,a4O P d t=some ks→∀ cs,okL ks cs=true→P.keyLits d t cs=some (cs.map a26)):∀ (fs:List Field) (o:Nat) (ks:List (Option IntKind)) (cs:List Value),a8j (a4O P d) P fs o=some ks→okL ks (cs.drop o)=true →
  (fs.mapM fun f=>P.keyLits d f.type ((cs.drop f.offset).take (P.cellsOf f.type))).map List.flatten=some ((cs.drop o).map a26):=by
 intro fs
 induction fs with
 | nil =>
  intro o ks cs h hk;simp only [a8j,x7] at h;subst h;have:=a78 hk;rw [xx this];rfl
 | cons f r ih =>
  intro o ks cs h hk;simp only [a8j] at h;split at h
  ·rename_i l m h1 h2;split at h
   ·rename_i hc;cases h;obtain ⟨k1,k2⟩:=b4Q hk;rw [List.drop_drop,hc.2] at k2;have h3:=ih _ _ _ h2 k2;rw [hc.2] at k1;rw [List.mapM_cons,hc.1,hd _ _ h1 _ k1];simp only [Option.pure_def,Option.bind_eq_bind,xp];cases hm:r.mapM (fun f=>P.keyLits d f.type ((cs.drop f.offset).take (P.cellsOf f.type))) with
    | none=>rw [hm] at h3;cases h3
    | some x =>
     rw [hm] at h3;simp only [wM,x7] at h3;simp only [xp,wM,List.flatten_cons,h3,x7];rw [← List.map_append];congr 1;rw [← List.drop_drop,xm]
   ·cases h
  ·cases h
theorem a9C (P:Program):∀ (d t:Nat) (ks:List (Option IntKind)),a4O P d t=some ks→∀ cs,okL ks cs=true→P.keyLits d t cs=some (cs.map a26):=by
 intro d
 induction d with
 | zero=>intro t ks h;cases h
 | succ d ih =>
  intro t ks h cs hk;simp only [a4O] at h;cases hu:P.underlying t with
  | none=>rw [hu] at h;cases h
  | some td =>
   rw [hu] at h;cases td with
   | int q =>
    simp only [x7] at h;subst h;cases cs with
    | nil=>simp [okL] at hk
    | cons c r=>cases r with
     | cons=>simp [okL] at hk
     | nil =>
      simp only [okL,Bool.and_true] at hk;cases c<;>simp [okV] at hk;obtain ⟨rfl,hw⟩:=hk;simp [Program.keyLits,hu,hw,a26]
   | string =>
    simp only [x7] at h;subst h;cases cs with
    | nil=>simp [okL] at hk
    | cons c r=>cases r with
     | cons=>simp [okL] at hk
     | nil =>
      simp only [okL,Bool.and_true] at hk;cases c<;>simp [okV] at hk;simp [Program.keyLits,hu,hk,a26]
   | array n e =>
    simp only at h;split at h
    ·rename_i l hl;split at h
     ·rename_i hc;cases h;have hlen:=a78 hk;have:=c2T P d e l (ih e l hl) n 0 cs (by simpa using hk)
      simp only [Nat.zero_mul,List.drop_zero] at this;rw [← List.range_eq_range'] at this;have hcl:cs.length=P.cellsOf t:=by rw [hlen,← hc.2];simp
      rw [hc.1] at this;simp only [Program.keyLits,hu];rw [zM hcl];exact this
     ·cases h
    ·cases h
   | struct fs =>
    simp only at h;split at h
    ·rename_i l hl;split at h
     ·rename_i hc;cases h;have hlen:=a78 hk;have:=c53 P d ih fs.toList 0 ks cs hl (by simpa using hk)
      simp only [List.drop_zero] at this;have hcl:cs.length=P.cellsOf t∧(fs.all fun x=>x.name != "_")=true:=⟨by rw [hlen];exact hc.1,hc.2⟩
      simp only [Program.keyLits,hu];rw [zM hcl];exact this
     ·cases h
    ·cases h
   | _=>simp at h
theorem b4R {t m D:Nat} {ks:List (Option IntKind)} (hk:G.P.keyTypeAt m t=true) (hm:m≤10000) (hg:G.P.eqGuardType G.P.depth t=false) (hf:a4O G.P D t=some ks) {xs ys:Array Value}
  (fx:(Value.agg xs).formed G.P t=true) (fy:(Value.agg ys).formed G.P t=true) (hx:okL ks xs.toList=true) (hy:okL ks ys.toList=true) (b:Bool) (hb:b=true↔xs.toList.map a26=ys.toList.map a26) (w:World) :
  (Op.equalIn 10000 t (.agg xs) (.agg ys)).run G.P w = .ok b w:=by
 obtain ⟨r,hr,hiff⟩:=run_equalIn_deep (P:=G.P) (10000-m) m t hk w D D (.agg xs) (.agg ys) _ _ fx fy (a9C G.P D t ks hf _ hx) (a9C G.P D t ks hf _ hy);rw [show 10000-m+m=10000 by omega] at hr
 have hrb:r=b:=by rw [yv,hiff,hb];exact Iff.rfl
 rw [hr,hrb]
theorem b1K {C:World→Prop} {t:Nat} {xs ys:Array Value} {b:Bool} (hg:G.P.eqGuardType G.P.depth t=false) (hr:∀ w,(Op.equalIn 10000 t (.agg xs) (.agg ys)).run G.P w = .ok b w) {x y:Operand} {dst:Option Nat} {yt ty:Nat} {pos:String} {af:Array Edge} {gd:Option (Nat×Bool)} {env:C8} {K:Value→Prop} (hx:ev env x = .agg xs) (hy:ev env y = .agg ys)
  (h:K (.bool b)):b1x G.P C { dst,op:=.binOp .eql t x y yt,type:=ty,pos,after:=af,guard:=gd } env K:=by
 refine ⟨_,fun w _=>?_,h⟩;show (do pure (Next.value (← (do eqGuard .eql _ x y (ev env x) (ev env y);binOp .eql _ (ev env x) (ev env y)))):Sem Next).run G.P w=_
 have e1:(eqGuard .eql t x y (.agg xs) (.agg ys)).run G.P w = .ok () w:=by simp [eqGuard,hg]
 rw [hx,hy,yj,yj,e1,yp,run_eql_struct,hr];rfl
theorem c0A {t:Nat} {xs ys:Array Value} {b:Bool} (hg:G.P.eqGuardType G.P.depth t=false) (hr:∀ w,(Op.equalIn 10000 t (.agg xs) (.agg ys)).run G.P w = .ok b w) {x y:Operand} {dst:Option Nat} {yt ty:Nat} {pos:String} {af:Array Edge} {gd:Option (Nat×Bool)} {env:C8} {w:World} {K:Value→World→Prop} (hx:ev env x = .agg xs) (hy:ev env y = .agg ys)
  (h:K (.bool b) w):H4 G.P { dst,op:=.binOp .eql t x y yt,type:=ty,pos,after:=af,guard:=gd } env w K:=by
 refine ⟨.inl ⟨_,w,?_,h⟩⟩;show (do pure (Next.value (← (do eqGuard .eql _ x y (ev env x) (ev env y);binOp .eql _ (ev env x) (ev env y)))):Sem Next).run G.P w=_
 have e1:(eqGuard .eql t x y (.agg xs) (.agg ys)).run G.P w = .ok () w:=by simp [eqGuard,hg]
 rw [hx,hy,yj,yj,e1,yp,run_eql_struct,hr];rfl
def I64 (n:Int):Prop:=-9223372036854775808≤n∧n≤9223372036854775807
theorem c0B {n:Int} (h:I64 n):(Lit.int .i64 n).wf=true:=by
 have:=h.1;have:=h.2;have e1:IntKind.i64.min=-9223372036854775808:=by decide
 have e2:IntKind.i64.max=9223372036854775807:=by decide
 simp [Lit.wf,e1,e2];omega
def MvR (m:Mv):Prop:=I64 m.fr∧I64 m.to∧I64 m.promo
theorem c2U:G.P.eqGuardType G.P.depth 36=false:=by kernel_rfl
theorem c4n {a b:Mv} (ha:MvR a) (hb:MvR b) (w:World):(Op.equalIn 10000 36 (.agg (S8 a)) (.agg (S8 b))).run G.P w = .ok (decide (a=b)) w:=by
 have ok:∀ m:Mv,MvR m→okL [some .i64,some .i64,some .i64] (S8 m).toList=true:=fun m h=>by
  show (okV (some .i64) (.int .i64 m.fr)&&(okV (some .i64) (.int .i64 m.to)&&(okV (some .i64) (.int .i64 m.promo)&&true)))=true;simp [okV,c0B h.1,c0B h.2.1,c0B h.2.2]
 refine b4R (m:=2) (D:=2) (ks:=[some .i64,some .i64,some .i64]) zk zd c2U zk zk zk (ok a ha) (ok b hb) _ ?_ w;rw [zW];cases a;cases b;simp [S8,a26]
theorem b8i {m:Mv} (h:b17 m):MvR m:=by
 obtain ⟨⟨a,b⟩,⟨c,d⟩,e,f⟩:=h;exact ⟨⟨zo,zo⟩,⟨zo,zo⟩,⟨zo,zo⟩⟩
theorem c4o (p:l9) (hI:Ch.D0 p) (hN:a1A p) (m:Mv) (hm:MvR m) (w:World) :
  Calls G.P 26 #[D3 p,mvV m] w (N2 (.bool (Ch.N3 p m)) w):=by
 refine zN Tryz.func26 ?_;refine zG ?_;generalize hW:(w.alloc (.cells (s7 p) 24)).alloc (.cells (S8 m) 36)=W0;have hP:∀ w',Cl W0 w'→w'.heap[w.heap.size]?=some (.cells (s7 p) 24 (0,0)):=fun w' h=>hP2 (hW▸h);have hM:∀ w',Cl W0 w'→w'.heap[(w.alloc (.cells (s7 p) 24)).heap.size]?=some (.cells (S8 m) 36 (0,0)):=fun w' h=>hM2 (hW▸h);have hE:∀ w',Cl W0 w'→Cl w w':=fun w' h=>hE2 (hW▸h);refine zR ?_;refine b7 _ (A3 (hP _ (Cl.refl _))) (zR ?_);refine o7 (a2V p hI hN _) ?_;rintro r w1 ⟨v,l,rfl,hlp,hl,c1⟩;refine ⟨_,rfl,?_⟩;obtain ⟨al,cl,rfl,hal⟩:=hl.form;have hll:l.length≤14338:=by
  rw [hlp.length_eq];exact zw (xG _ _) (a4N p)
 have hans:Ch.N3 p m=decide (m∈l):=by unfold Ch.N3;exact ya.2 (hlp.mem_iff).symm
 refine zR ?_;refine B6 (σ:=Nat) [4,6] 7 (fun a=>[(6,.int .i64 a)]) (fun a w'=>a≤l.length∧(∀ x∈l.take a,x≠m)∧Cl w1 w') (fun a=>l.length-a) zk 0
  ⟨zo,by simp,Cl.refl _⟩ ⟨rfl,trivial⟩ ?_
 rintro i j w2 ⟨hi,hno,hcl⟩;refine zR ?_;apply E.b9<;>intro h
 ·have hil:i<l.length:=by omega
  clear h;obtain ⟨g,rfl⟩:=hal zo;have ni:IntKind.i64.wrap ((i:Int)+1)=((i+1:Nat):Int):=by rw [g9 zo zo];push_cast;omega
  refine zR ?_;refine zK 6 ?_;refine zR ?_;refine zC ?_;refine zR ?_;refine m7 (mvV l[i]) (fun w hw=>a2Q (hl.step (hcl.trans hw)) D9 i hil rfl ?_ rfl) ?_
  ·simp [E.r9]
  refine zR ?_;refine m7 (mvV m) (fun w hw=>a0f (hM _ (c1.trans (hcl.trans hw)))) (zR ?_);refine b1K c2U (c4n (b8i (a6i hI ((xW.1 (hlp.subset (yO hil))).1))) hm) rfl rfl (zR ?_);intro w3 c3;refine zR ?_;apply E.b9<;>intro h
  ·refine zR ?_;refine ⟨o8 (by rw [hans,zX (h▸yO hil)]),hE _ (c1.trans (hcl.trans c3))⟩
  ·refine zR ?_;refine ⟨i+1,⟨d8 ni,trivial⟩,⟨zo,?_,hcl.trans c3⟩,zo⟩;intro x hx;rw [zx hil,zr,zY] at hx;rcases hx with hx|rfl
   ·exact hno x hx
   ·exact h
 ·have hil:i=l.length:=by omega
  subst hil;rw [yZ] at hno;refine zR ?_;refine ⟨o8 (by rw [hans,zV (fun h=>hno m h rfl)]),hE _ (c1.trans hcl)⟩
end
section
structure PM where
 mv:Mv
 tags:Nat
namespace Ch
open Bb
theorem b33 {p q:l9} (h:∀ i:Int,sq p i=0↔sq q i=0) (w:Int):∀ (n:Nat) (i:Int),free p i w n=free q i w n:=by
 intro n
 induction n with
 | zero=>intro i;rfl
 | succ n ih =>
  intro i;simp only [free,ih];congr 1;rw [yv,beq_iff_eq,beq_iff_eq];exact h _
theorem b6a {p q:l9} (hp:∀ i:Int,0≤sq p i∧sq p i≤12) (hq:∀ i:Int,0≤sq q i∧sq q i≤12) {c:Int} (hc:c=0∨c=1) (hz:∀ i:Int,sq p i=0↔sq q i=0)
  (hs:∀ (i:Int) (k:Int),1≤k→k≤6→(sq p i=k+6*c↔sq q i=k+6*c)) {s:Int} (s0:0≤s):B7 p s c=B7 q s c:=by
 obtain ⟨a,rfl⟩:=ze s0;rw [yv,Q0 p hp hc,Q0 q hq hc];have hk:∀ k i,N4 p k c i a=N4 q k c i a:=by
  intro k i;unfold N4;rw [b33 hz]
 simp only [hk];constructor
 ·rintro ⟨k,k1,k6,i,hi,hx,hh⟩;exact ⟨k,k1,k6,i,hi,(hs i k k1 k6).1 hx,hh⟩
 ·rintro ⟨k,k1,k6,i,hi,hx,hh⟩;exact ⟨k,k1,k6,i,hi,(hs i k k1 k6).2 hx,hh⟩
def H8 (p:l9) (m:Mv):Bool:=!B7 (made p m) (z8 (made p m) p.turn) (1-p.turn)
def capTag (p:l9) (m:Mv):Nat:=if sq p m.to≠0 then 4 else if m.to=p.ep∧d6 (sq p m.fr)=6 then 8 else 0
def T6 (p:l9) (m:Mv):Nat :=
 if (sq p m.fr=1∧m.fr=4)∨(sq p m.fr=7∧m.fr=60) then (if m.to=2∨m.to=58 then 2 else if m.to=6∨m.to=62 then 1 else 0) else 0
def tg (p:l9) (m:Mv):Nat:=((capTag p m ||| T6 p m) ||| (if H8 p m then 0 else 32)) ||| (if o5 (made p m) then 16 else 0)
def P6 (p:l9) (fr to:Int):List Int→Nat→List PM
 | [],_=>[]
 | k::ks,t=>(if (t ||| tg p ⟨fr,to,k⟩).testBit 5 then [] else [⟨⟨fr,to,k⟩,t ||| tg p ⟨fr,to,k⟩⟩])++P6 p fr to ks (t ||| tg p ⟨fr,to,k⟩)
def a27 (p:l9) (fr to:Int):List PM :=
 if d6 (sq p fr)=6∧k9 to=7-7*p.turn then P6 p fr to [2,3,4,5] 0
 else if (tg p ⟨fr,to,0⟩).testBit 5 then [] else [⟨⟨fr,to,0⟩,tg p ⟨fr,to,0⟩⟩]
def W6 (p:l9) (k:Int) (fr:Nat):List PM:=if sq p fr=k+6*p.turn then (List.range 64).flatMap fun to=>if (goB p k fr).testBit (63-to) then a27 p fr to else [] else []
def B5 (p:l9):List PM:=[1,2,3,4,5,6].flatMap fun k=>(List.range 64).flatMap fun fr=>W6 p k fr
def Q8 (p:l9) (r:Nat):Bool :=
 let K:=A2 r;let w:Int:=if C0 r<A2 r then -1 else 1
 U2 p.castle r&&decide (sq p (K+w)=0)&&decide (sq p (K+2*w)=0)&&(decide (w=1)||decide (sq p (K-3)=0)) && !B7 p (K+w) (1-p.turn) && !B7 p (K+2*w) (1-p.turn) && !o5 p
def a0V (p:l9):List PM :=
 (if Q8 p (2*p.turn).toNat then [⟨p8 (2*p.turn).toNat,1 ||| tg p (p8 (2*p.turn).toNat)⟩] else []) ++
 (if Q8 p ((2*p.turn).toNat+1) then [⟨p8 ((2*p.turn).toNat+1:Nat),2 ||| tg p (p8 ((2*p.turn).toNat+1:Nat))⟩] else [])
def N9 (p:l9):List PM:=B5 p++a0V p
def a1B (p:l9) (m:Mv):Bool :=
 if m.promo=0 then o5 (made p m) else [2,3,4,5].any fun k=>decide (k≤m.promo)&&o5 (made p ⟨m.fr,m.to,k⟩)
def t7 (p:l9) (m:Mv):Int:=if d6 (sq p m.fr)≠1 then 0 else if m.to-m.fr=2 then 1 else if m.to-m.fr=-2 then 2 else 0
def K5 (p:l9) (m:Mv):Int:=t7 p m+(if sq p m.to≠0 then 4 else if C1 p m then 8 else 0)
def W7 (p:l9) (m:Mv):Int:=K5 p m+(if a1B p m then 16 else 0)
def a0W (p:l9) (m:Mv):Int:=K5 p m+(if o5 (made p m) then 16 else 0)
theorem b4S (p:l9) (m:Mv):(tg p m).testBit 5 = !H8 p m:=by
 unfold tg capTag T6;simp only [yF];have a:(if sq p m.to≠0 then 4 else if m.to=p.ep∧d6 (sq p m.fr)=6 then 8 else 0:Nat).testBit 5=false:=by (repeat' split)<;>decide
 have b:(if (sq p m.fr=1∧m.fr=4)∨(sq p m.fr=7∧m.fr=60) then (if m.to=2∨m.to=58 then 2 else if m.to=6∨m.to=62 then 1 else 0) else 0:Nat).testBit 5=false:=by (repeat' split)<;>decide
 have c:(if o5 (made p m) then 16 else 0:Nat).testBit 5=false:=by split<;>decide
 rw [a,b,c];cases H8 p m<;>decide
theorem Z5 {p:l9} (hI:D0 p) {fr to k k':Int} (h:H7 p ⟨fr,to,k⟩) (h':H7 p ⟨fr,to,k'⟩) (hk:k≠0) (hk':k'≠0):H8 p ⟨fr,to,k⟩=H8 p ⟨fr,to,k'⟩:=by
 have ht:=hI.turn;unfold H8;rw [(a19 hI h).at,(a19 hI h').at];have pr:=h.promo;have pr':=h'.promo;simp only at pr pr';have e:∀ i:Int,0≤i→i≤63→(sq (made p ⟨fr,to,k⟩) i=0↔sq (made p ⟨fr,to,k'⟩) i=0)∧∀ x,1≤x→x≤6→(sq (made p ⟨fr,to,k⟩) i=x+6*(1-p.turn)↔sq (made p ⟨fr,to,k'⟩) i=x+6*(1-p.turn)):=by
  intro i i0 i1;rw [U0 hI h i0,U0 hI h' i0];have hn:=(a18 hI h).2.2;have hn':=(a18 hI h').2.2;simp only
  by_cases a:i=to
  ·rw [zM a,zM a];refine ⟨zo,fun x x1 x6=>?_⟩;constructor<;>intro e<;>exfalso<;>omega
  ·rw [zJ a,zJ a];exact ⟨Iff.rfl,fun _ _ _=>Iff.rfl⟩
 have e':∀ i:Int,(sq (made p ⟨fr,to,k⟩) i=0↔sq (made p ⟨fr,to,k'⟩) i=0)∧∀ x,1≤x→x≤6→(sq (made p ⟨fr,to,k⟩) i=x+6*(1-p.turn)↔sq (made p ⟨fr,to,k'⟩) i=x+6*(1-p.turn)):=by
  intro i;by_cases h0:i<0
  ·have q:∀ q:l9,sq q i=sq q 0:=fun q=>by unfold sq;rw [show i.toNat=0 by omega];rfl
   rw [q,q];exact e 0 zo zo
  by_cases h1:63<i
  ·have q:∀ q:l9,sq q i=0:=fun q=>by unfold sq;rw [yr,xH (by rw [q.len];omega)];rfl
   rw [q,q];exact ⟨Iff.rfl,fun _ _ _=>Iff.rfl⟩
  ·exact e i zo zo
 have hat:0≤(if fr=z8 p p.turn then to else z8 p p.turn):=by
  have:=(hI.king p.turn ht).1;have:=h.t0;split<;>assumption
 simp only
 rw [b6a (a2U hI h) (a2U hI h') zo (fun i=>(e' i).1) (fun i x=>(e' i).2 x) hat]
theorem a0L {p:l9} (hI:D0 p) {m:Mv} (h:H7 p m):m∈A1 p↔H8 p m=true:=by
 rw [S6 hI];unfold H8;rw [zc];constructor
 ·rintro (⟨_,h2⟩|⟨r,hr,_⟩)
  ·exact h2
  ·exfalso;obtain ⟨_,_,_,hc⟩:=J7 hI hr;have:=a0n hI h;rw [a6h hI hc] at this;cases this
 ·intro h2;exact .inl ⟨h,h2⟩
theorem a6j {p:l9} (hI:D0 p) {k:Int} (k1:1≤k) (k6:k≤6) {fr to:Nat} (hf:fr<64) (ht:to<64) (hs:sq p fr=k+6*p.turn) (pr:Int)
  (hpr:(pr=0∧¬ (k=6∧k9 to=7-7*p.turn))∨(2≤pr∧pr≤5∧k=6∧k9 to=7-7*p.turn)) :
  H7 p ⟨fr,to,pr⟩↔(goB p k fr).testBit (63-to)=true:=by
 rw [b4L hI.pc hI.turn hI.pass hf ht k1 k6 hs];have hk:d6 (sq p fr)=k:=by rw [hs];exact L9 k1 k6 hI.turn
 have hsd:y9 (sq p fr)=p.turn:=by rw [hs];exact P5 k1 k6 hI.turn
 have hnz:sq p fr≠0:=by rw [hs];have:=hI.turn;omega
 constructor
 ·intro h;refine ⟨h.goal,fun e=>?_⟩;rcases h.other with h2|h2
  ·exact e.1 h2
  ·exact h2 e.2
 ·rintro ⟨h1,h2⟩;have ho:sq p to=0∨y9 (sq p to)≠p.turn:=by
   by_cases e:sq p to=0
   ·exact .inl e
   ·exact .inr fun e2=>h2 ⟨e,e2⟩
  refine ⟨Int.natCast_nonneg _,by simp only;omega,Int.natCast_nonneg _,by simp only;omega,?_,hnz,hsd,h1,ho,by rw [hk];exact hpr⟩
  intro e;simp only at e;rw [← e] at ho;rcases ho with h3|h3
  ·exact hnz h3
  ·exact h3 hsd
theorem a4d {p:l9} (hI:D0 p) {m:Mv} (h:H7 p m):(capTag p m:Int)=if sq p m.to≠0 then 4 else if C1 p m then 8 else 0:=by
 unfold capTag;by_cases h0:sq p m.to≠0
 ·rw [zM h0,zM h0];rfl
 rw [zJ h0,zJ h0];have hz:sq p m.to=0:=by omega
 have f0:=h.f0;have f1:=h.f1;have t0:=h.t0;have t1:=h.t1;have htn:=hI.turn;by_cases he:m.to=p.ep∧d6 (sq p m.fr)=6
 ·rw [zM he];have:C1 p m=true:=by
   unfold C1;simp only [hz,decide_true,xw,xc,zP,zW,zc,zZ];refine ⟨he.2,?_⟩;intro hfile;obtain ⟨_,_,hp⟩:=S5 hI.pass;obtain ⟨p1,p2,p3,p4⟩:=hp zo;rw [← he.1] at p1 p3;rcases V5 hI h.f0 h.f1 h.there h.own h.goal with ⟨g,_⟩|⟨_,_,gf,g⟩|⟨_,gf,_,_⟩
   ·exact absurd he.2 g
   ·rcases g with g|⟨g,g2,_⟩
    ·have e:I9 (o4 m.to) (k9 m.to-(1-2*p.turn))=m.fr:=by
      rw [a6K]<;>simp only [o4,k9,up] at * <;> omega
     rw [e] at p3;have:=a32 hI h.there h.own;rw [he.2] at this;omega
    ·simp only [o4,k9,up] at *;omega
   ·omega
  rw [this];rfl
 ·rw [zJ he];cases ht:C1 p m
  ·rfl
  ·exfalso;have:=a0D hI h hz ht;exact he ⟨this.1,this.2.2.2.2.1⟩
theorem Q9 {p:l9} (hI:D0 p) {m:Mv} (h:H7 p m):T6 p m=0∧t7 p m=0:=by
 have hn:=a0n hI h;unfold V4 at hn;have hck:t7 p m=0:=by
  unfold t7;by_cases hk:d6 (sq p m.fr)=1
  ·rw [hk] at hn;simp only [decide_true,yV,yA,zZ] at hn;rw [zJ (by simp [hk]),zJ zo,zJ zo]
  ·rw [zM hk]
 refine ⟨?_,hck⟩;unfold T6;split
 ·rename_i hh;have hk:d6 (sq p m.fr)=1:=by rcases hh with ⟨e,_⟩|⟨e,_⟩<;>rw [e]<;>decide
  rw [hk] at hn;simp only [decide_true,yV,yA,zZ] at hn;have hb:a3q p m.fr m.to=true:=by
   rcases V5 hI h.f0 h.f1 h.there h.own h.goal with ⟨_,h2⟩|⟨h2,_⟩|⟨h2,_⟩
   ·exact h2
   ·rw [hk] at h2;omega
   ·rw [hk] at h2;omega
  obtain ⟨a,ha⟩:=ze h.f0;obtain ⟨b,hb'⟩:=ze h.t0;rw [ha,hb',a6e,← ha,hk] at hb;simp only [N4,xy,zP,zW] at hb;have hfin:∀ a∈[4,60],∀ b∈[2,58,6,62],dF a b*dF a b≤1→dR a b*dR a b≤1→False:=by decide
  have hnot:∀ b0∈[2,58,6,62],b≠b0:=by
   rintro b0 hb0 rfl;have ha':a=4∨a=60:=by omega
   exact hfin a (by rcases ha' with rfl|rfl<;>decide) b hb0 hb.2.2.1 hb.2.2.2
  have n1:=hnot 2 zd;have n2:=hnot 58 zd;have n3:=hnot 6 zd;have n4:=hnot 62 zd;rw [zJ zo,zJ zo]
 ·rfl
theorem a9D (a b c:Nat) (ha:a=0∨a=4∨a=8) (hb:b=0∨b=1∨b=2) (hc:c=0∨c=16):((a ||| b) ||| 0) ||| c=a+b+c:=by
 rcases ha with rfl|rfl|rfl<;>rcases hb with rfl|rfl|rfl<;>rcases hc with rfl|rfl<;>decide
theorem W8 (p:l9) (m:Mv):capTag p m=0∨capTag p m=4∨capTag p m=8:=by unfold capTag;(repeat' split)<;>simp
theorem a5z (p:l9) (m:Mv):T6 p m=0∨T6 p m=1∨T6 p m=2:=by unfold T6;(repeat' split)<;>simp
theorem b8j {p:l9} (hI:D0 p) {m:Mv} (h:H7 p m) (hs:H8 p m=true):(tg p m:Int)=a0W p m:=by
 have h16:(if o5 (made p m) then 16 else 0:Nat)=0∨(if o5 (made p m) then 16 else 0:Nat)=16:=by split<;>simp
 have:tg p m=capTag p m+T6 p m+(if o5 (made p m) then 16 else 0):=by
  unfold tg;rw [hs,zM rfl];exact a9D _ _ _ (W8 p m) (a5z p m) h16
 rw [this,(Q9 hI h).1];unfold a0W K5;rw [(Q9 hI h).2,← a4d hI h];split<;>omega
theorem b8k (a:Nat) (h:a=0∨a=4∨a=8) (b c:Bool):(a+(if b then 16 else 0)) ||| (a+(if c then 16 else 0))=a+(if b||c then 16 else 0):=by
 rcases h with rfl|rfl|rfl<;>cases b<;>cases c<;>decide
theorem b6b {p:l9} (hI:D0 p) {fr to:Int} (h:∀ k,2≤k→k≤5→H7 p ⟨fr,to,k⟩) :
  ∃ t2 t3 t4 t5:Nat,(P6 p fr to [2,3,4,5] 0=if H8 p ⟨fr,to,2⟩ then [⟨⟨fr,to,2⟩,t2⟩,⟨⟨fr,to,3⟩,t3⟩,⟨⟨fr,to,4⟩,t4⟩,⟨⟨fr,to,5⟩,t5⟩] else []) ∧
   (H8 p ⟨fr,to,2⟩=true→(t2:Int)=W7 p ⟨fr,to,2⟩∧(t3:Int)=W7 p ⟨fr,to,3⟩∧(t4:Int)=W7 p ⟨fr,to,4⟩∧(t5:Int)=W7 p ⟨fr,to,5⟩):=by
 have s3:H8 p ⟨fr,to,3⟩=H8 p ⟨fr,to,2⟩:=Z5 hI (h 3 zd zd) (h 2 zd zd) zd zd;have s4:H8 p ⟨fr,to,4⟩=H8 p ⟨fr,to,2⟩:=Z5 hI (h 4 zd zd) (h 2 zd zd) zd zd;have s5:H8 p ⟨fr,to,5⟩=H8 p ⟨fr,to,2⟩:=Z5 hI (h 5 zd zd) (h 2 zd zd) zd zd;refine ⟨0 ||| tg p ⟨fr,to,2⟩,0 ||| tg p ⟨fr,to,2⟩ ||| tg p ⟨fr,to,3⟩,0 ||| tg p ⟨fr,to,2⟩ ||| tg p ⟨fr,to,3⟩ ||| tg p ⟨fr,to,4⟩,0 ||| tg p ⟨fr,to,2⟩ ||| tg p ⟨fr,to,3⟩ ||| tg p ⟨fr,to,4⟩ ||| tg p ⟨fr,to,5⟩,?_,?_⟩
 ·simp only [P6,yF,b4S,s3,s4,s5,Nat.zero_testBit,xc,Bool.or_self];cases H8 p ⟨fr,to,2⟩<;>rfl
 ·intro hs;have e:∀ k,2≤k→k≤5→H8 p ⟨fr,to,k⟩=true→tg p ⟨fr,to,k⟩=capTag p ⟨fr,to,2⟩+(if o5 (made p ⟨fr,to,k⟩) then 16 else 0):=by
   intro k k2 k5 hs;have h16:(if o5 (made p ⟨fr,to,k⟩) then 16 else 0:Nat)=0∨(if o5 (made p ⟨fr,to,k⟩) then 16 else 0:Nat)=16:=by split<;>simp
   have e1:tg p ⟨fr,to,k⟩=capTag p ⟨fr,to,k⟩+T6 p ⟨fr,to,k⟩+(if o5 (made p ⟨fr,to,k⟩) then 16 else 0):=by
    unfold tg;rw [hs,zM rfl];exact a9D _ _ _ (W8 p _) (a5z p _) h16
   rw [e1,(Q9 hI (h k k2 k5)).1];rfl
  rw [e 2 zd zd hs,e 3 zd zd (by rw [s3];exact hs),e 4 zd zd (by rw [s4];exact hs),e 5 zd zd (by rw [s5];exact hs),Nat.zero_or,
   b8k _ (W8 p _),b8k _ (W8 p _),b8k _ (W8 p _)]
  have hb:∀ k,K5 p ⟨fr,to,k⟩=capTag p ⟨fr,to,2⟩:=by
   intro k;rw [a4d hI (h 2 zd zd)];show t7 p ⟨fr,to,2⟩+_=_;rw [(Q9 hI (h 2 zd zd)).2,Int.zero_add];rfl
  have hc:∀ (a:Nat) (b:Bool),((a+(if b then 16 else 0):Nat):Int)=(a:Int)+(if b then 16 else 0):=by intro a b;cases b<;>simp
  unfold W7;simp only [hb,hc];refine ⟨?_,?_,?_,?_⟩<;>congr 1<;>simp [a1B,or_assoc]
theorem a1u {p:l9} (hI:D0 p) {k:Int} (k1:1≤k) (k6:k≤6) {fr to:Nat} (hf:fr<64) (ht:to<64) (hs:sq p fr=k+6*p.turn) (hb:(goB p k fr).testBit (63-to)=true) :
  (∀ x∈a27 p fr to,x.mv∈A1 p∧H7 p x.mv∧x.mv.fr=fr∧x.mv.to=to∧(x.tags:Int)=W7 p x.mv)∧(∀ m:Mv,m.fr=fr→m.to=to→H7 p m→m∈A1 p→∃ x∈a27 p fr to,x.mv=m)∧((a27 p fr to).map PM.mv).Nodup:=by
 have hk:d6 (sq p fr)=k:=by rw [hs];exact L9 k1 k6 hI.turn
 unfold a27;rw [hk];by_cases hpr:k=6∧k9 to=7-7*p.turn
 ·rw [zM hpr];have hP:∀ k',2≤k'→k'≤5→H7 p ⟨fr,to,k'⟩:=fun k' h2 h5=>(a6j hI k1 k6 hf ht hs k' (.inr ⟨h2,h5,hpr⟩)).2 hb;obtain ⟨t2,t3,t4,t5,e,hT⟩:=b6b hI hP;rw [e];have s3:H8 p ⟨fr,to,3⟩=H8 p ⟨fr,to,2⟩:=Z5 hI (hP 3 zd zd) (hP 2 zd zd) zd zd;have s4:H8 p ⟨fr,to,4⟩=H8 p ⟨fr,to,2⟩:=Z5 hI (hP 4 zd zd) (hP 2 zd zd) zd zd;have s5:H8 p ⟨fr,to,5⟩=H8 p ⟨fr,to,2⟩:=Z5 hI (hP 5 zd zd) (hP 2 zd zd) zd zd;have hL:∀ k',2≤k'→k'≤5→((⟨fr,to,k'⟩:Mv)∈A1 p↔H8 p ⟨fr,to,k'⟩=true):=fun k' h2 h5=>a0L hI (hP k' h2 h5);cases hsf:H8 p ⟨fr,to,2⟩
  ·refine ⟨by simp,?_,by simp⟩
   rintro ⟨a,b,c⟩ ha hb' hpl hm;simp only at ha hb';subst ha;subst hb';exfalso;have hc:2≤c∧c≤5:=by
    rcases hpl.promo with ⟨_,h2⟩|⟨h2,h3,_⟩
    ·exfalso;apply h2;simp only [hk];exact hpr
    ·exact ⟨h2,h3⟩
   have:=(hL c hc.1 hc.2).1 hm;have hcc:c=2∨c=3∨c=4∨c=5:=by omega
   rcases hcc with rfl|rfl|rfl|rfl
   ·rw [hsf] at this;cases this
   ·rw [s3,hsf] at this;cases this
   ·rw [s4,hsf] at this;cases this
   ·rw [s5,hsf] at this;cases this
  ·obtain ⟨e2,e3,e4,e5⟩:=hT hsf;rw [zM rfl];refine ⟨?_,?_,?_⟩
   ·intro x hx;simp only [yS,zy,yy] at hx;rcases hx with rfl|rfl|rfl|rfl
    ·exact ⟨(hL 2 zd zd).2 hsf,hP 2 zd zd,rfl,rfl,e2⟩
    ·exact ⟨(hL 3 zd zd).2 (by rw [s3];exact hsf),hP 3 zd zd,rfl,rfl,e3⟩
    ·exact ⟨(hL 4 zd zd).2 (by rw [s4];exact hsf),hP 4 zd zd,rfl,rfl,e4⟩
    ·exact ⟨(hL 5 zd zd).2 (by rw [s5];exact hsf),hP 5 zd zd,rfl,rfl,e5⟩
   ·rintro ⟨a,b,c⟩ ha hb' hpl _;simp only at ha hb';subst ha;subst hb';have hc:2≤c∧c≤5:=by
     rcases hpl.promo with ⟨_,h2⟩|⟨h2,h3,_⟩
     ·exfalso;apply h2;simp only [hk];exact hpr
     ·exact ⟨h2,h3⟩
    have hcc:c=2∨c=3∨c=4∨c=5:=by omega
    rcases hcc with rfl|rfl|rfl|rfl<;>simp
   ·simp
 ·rw [zJ hpr];have hP:H7 p ⟨fr,to,0⟩:=(a6j hI k1 k6 hf ht hs 0 (.inl ⟨rfl,hpr⟩)).2 hb;rw [b4S];cases hsf:H8 p ⟨fr,to,0⟩
  ·simp only [Bool.not_false,xy];refine ⟨by simp,?_,by simp⟩
   rintro ⟨a,b,c⟩ ha hb' hpl hm;simp only at ha hb';subst ha;subst hb';exfalso;have hc:c=0:=by
    rcases hpl.promo with ⟨h2,_⟩|⟨_,_,h2,h3⟩
    ·exact h2
    ·exfalso;apply hpr;simp only [hk] at h2;exact ⟨h2,h3⟩
   subst hc;have:=(a0L hI hP).1 hm;rw [hsf] at this;cases this
  ·simp only [xw,yD,xh];refine ⟨?_,?_,by simp⟩
   ·intro x hx;rw [zY] at hx;subst hx;refine ⟨(a0L hI hP).2 hsf,hP,rfl,rfl,?_⟩;rw [b8j hI hP hsf];unfold a0W W7 a1B;rfl
   ·rintro ⟨a,b,c⟩ ha hb' hpl _;simp only at ha hb';subst ha;subst hb';have hc:c=0:=by
     rcases hpl.promo with ⟨h2,_⟩|⟨_,_,h2,h3⟩
     ·exact h2
     ·exfalso;apply hpr;simp only [hk] at h2;exact ⟨h2,h3⟩
    subst hc;simp
end Ch
namespace Ch
open Bb
theorem a79 {p:l9} (hI:D0 p) {r:Nat} (hr:r=(2*p.turn).toNat∨r=(2*p.turn).toNat+1) :
  Q8 p r=true↔a1p p r=true∧B7 p (p8 r).to (1-p.turn)=false:=by
 have ht:=hI.turn;have hr4:r<4∧(r:Int)/2=p.turn:=by
  rcases hr with e|e<;>rcases ht with t|t<;>rw [t] at e ⊢ <;> subst e<;>decide
 unfold Q8 a1p a2K;rw [hI.rights];simp only [zP,zj,zc,zW];rw [a2x];have hto:(p8 r).to=A2 r+2*(if C0 r<A2 r then -1 else 1):=rfl
 rw [hto];have hchk:U2 p.castle r=true→(o5 p=B7 p (A2 r) (1-p.turn)):=by
  intro hb;obtain ⟨s1,_⟩:=hI.right r hr4.1 hb;obtain ⟨⟨k0,k1,_⟩,_⟩:=a1t r hr4.1;rw [hr4.2] at s1;have hK:=hI.king p.turn ht;have e:=hK.2.2.2 _ k0 k1 s1;unfold o5 checked;rw [← e,zX k0];rfl
 have hrr:r=0∨r=1∨r=2∨r=3:=by omega
 rcases hrr with rfl|rfl|rfl|rfl;all_goals
  first
  | (have hw:(if C0 ((0:Nat):Int)<A2 ((0:Nat):Int) then (-1:Int) else 1)=1:=by decide
     have hd:a5Y (C0 ((0:Nat):Int)-A2 ((0:Nat):Int)) 0=2:=by decide
     rw [hw,hd];constructor
     ·rintro ⟨⟨⟨⟨⟨⟨h1,h2⟩,h3⟩,_⟩,h5⟩,h6⟩,h7⟩;rw [hchk h1] at h7;exact ⟨⟨⟨h1,h7⟩,h5,fun j hj=>by
        have:j=0∨j=1:=by omega
        rcases this with rfl|rfl
        ·exact h2
        ·exact h3⟩,h6⟩
     ·rintro ⟨⟨⟨h1,h7⟩,h5,hf⟩,h6⟩;rw [hchk h1];exact ⟨⟨⟨⟨⟨⟨h1,hf 0 zd⟩,hf 1 zd⟩,.inl rfl⟩,h5⟩,h6⟩,h7⟩)
  | (have hw:(if C0 ((2:Nat):Int)<A2 ((2:Nat):Int) then (-1:Int) else 1)=1:=by decide
     have hd:a5Y (C0 ((2:Nat):Int)-A2 ((2:Nat):Int)) 0=2:=by decide
     rw [hw,hd];constructor
     ·rintro ⟨⟨⟨⟨⟨⟨h1,h2⟩,h3⟩,_⟩,h5⟩,h6⟩,h7⟩;rw [hchk h1] at h7;exact ⟨⟨⟨h1,h7⟩,h5,fun j hj=>by
        have:j=0∨j=1:=by omega
        rcases this with rfl|rfl
        ·exact h2
        ·exact h3⟩,h6⟩
     ·rintro ⟨⟨⟨h1,h7⟩,h5,hf⟩,h6⟩;rw [hchk h1];exact ⟨⟨⟨⟨⟨⟨h1,hf 0 zd⟩,hf 1 zd⟩,.inl rfl⟩,h5⟩,h6⟩,h7⟩)
  | (have hw:(if C0 ((1:Nat):Int)<A2 ((1:Nat):Int) then (-1:Int) else 1)=-1:=by decide
     have hd:a5Y (C0 ((1:Nat):Int)-A2 ((1:Nat):Int)) 0=3:=by decide
     rw [hw,hd];constructor
     ·rintro ⟨⟨⟨⟨⟨⟨h1,h2⟩,h3⟩,h4⟩,h5⟩,h6⟩,h7⟩;rw [hchk h1] at h7;exact ⟨⟨⟨h1,h7⟩,h5,fun j hj=>by
        have:j=0∨j=1∨j=2:=by omega
        rcases this with rfl|rfl|rfl
        ·exact h2
        ·exact h3
        ·rcases h4 with h4|h4
         ·exact absurd h4 zd
         ·exact h4⟩,h6⟩
     ·rintro ⟨⟨⟨h1,h7⟩,h5,hf⟩,h6⟩;rw [hchk h1];exact ⟨⟨⟨⟨⟨⟨h1,hf 0 zd⟩,hf 1 zd⟩,.inr (hf 2 zd)⟩,h5⟩,h6⟩,h7⟩)
  | (have hw:(if C0 ((3:Nat):Int)<A2 ((3:Nat):Int) then (-1:Int) else 1)=-1:=by decide
     have hd:a5Y (C0 ((3:Nat):Int)-A2 ((3:Nat):Int)) 0=3:=by decide
     rw [hw,hd];constructor
     ·rintro ⟨⟨⟨⟨⟨⟨h1,h2⟩,h3⟩,h4⟩,h5⟩,h6⟩,h7⟩;rw [hchk h1] at h7;exact ⟨⟨⟨h1,h7⟩,h5,fun j hj=>by
        have:j=0∨j=1∨j=2:=by omega
        rcases this with rfl|rfl|rfl
        ·exact h2
        ·exact h3
        ·rcases h4 with h4|h4
         ·exact absurd h4 zd
         ·exact h4⟩,h6⟩
     ·rintro ⟨⟨⟨h1,h7⟩,h5,hf⟩,h6⟩;rw [hchk h1];exact ⟨⟨⟨⟨⟨⟨h1,hf 0 zd⟩,hf 1 zd⟩,.inr (hf 2 zd)⟩,h5⟩,h6⟩,h7⟩)
theorem a9E {p:l9} (hI:D0 p) {r:Nat} (h:a16 p r (p8 r)) (ha:B7 p (p8 r).to (1-p.turn)=false) :
  (((if r%2=0 then 1 else 2) ||| tg p (p8 r):Nat):Int)=W7 p (p8 r):=by
 obtain ⟨r4,rt,rb,hc⟩:=J7 hI h;have hto0:sq p (p8 r).to=0:=by rw [hc.mv];exact hc.to
 have hking:sq p (p8 r).fr=1+6*p.turn:=by rw [hc.mv];exact hc.king
 have hs:H8 p (p8 r)=true:=by
  unfold H8;rw [(Z4 hI hc).1.at,a2T hI hc,ha];rfl
 have hcap:capTag p (p8 r)=0:=by
  unfold capTag;rw [zJ (by simp [hto0]),zJ]
  rw [hking,a0d hI];omega
 have htb:K5 p (p8 r)=t7 p (p8 r):=by
  unfold K5;rw [zJ (by simp [hto0]),a2R hI hc];simp
 have hk1:¬ d6 (sq p (p8 r).fr)≠1:=by rw [hking,a0d hI];simp
 have hchk:a1B p (p8 r)=o5 (made p (p8 r)):=by
  unfold a1B;rw [zM (by rw [hc.mv])]
 unfold W7 tg;rw [htb,hchk,hs,hcap,zM rfl];unfold t7 T6;rw [zJ hk1];have hrr:r=0∨r=1∨r=2∨r=3:=by omega
 have htn:=hI.turn;rcases hrr with rfl|rfl|rfl|rfl
 ·have t:p.turn=0:=by rw [← rt];decide
  rw [hking,t];cases o5 (made p (p8 0))<;>decide
 ·have t:p.turn=0:=by rw [← rt];decide
  rw [hking,t];cases o5 (made p (p8 1))<;>decide
 ·have t:p.turn=1:=by rw [← rt];decide
  rw [hking,t];cases o5 (made p (p8 2))<;>decide
 ·have t:p.turn=1:=by rw [← rt];decide
  rw [hking,t];cases o5 (made p (p8 3))<;>decide
theorem a8k {p:l9} (hI:D0 p):(∀ x∈a0V p,x.mv∈A1 p∧(x.tags:Int)=W7 p x.mv)∧(∀ m r,a16 p r m→m∈A1 p→∃ x∈a0V p,x.mv=m):=by
 have hmod:(2*p.turn).toNat%2=0∧((2*p.turn).toNat+1)%2=1:=by
  have:=hI.turn;omega
 constructor
 ·intro x hx;unfold a0V at hx;rw [zr] at hx;rcases hx with hx|hx
  ·split at hx
   ·rename_i hm;obtain ⟨h1,h2⟩:=(a79 hI (.inl rfl)).1 hm;rw [zY] at hx;subst hx;have hc:a16 p (2*p.turn).toNat (p8 (2*p.turn).toNat):=⟨.inl rfl,h1,rfl⟩;refine ⟨(S6 hI _).2 (.inr ⟨_,hc,h2⟩),?_⟩;have:=a9E hI hc h2;rw [zM hmod.1] at this;exact this
   ·cases hx
  ·split at hx
   ·rename_i hm;obtain ⟨h1,h2⟩:=(a79 hI (.inr rfl)).1 hm;rw [zY] at hx;subst hx;have hc:a16 p ((2*p.turn).toNat+1) (p8 ((2*p.turn).toNat+1:Nat)):=⟨.inr rfl,h1,rfl⟩;refine ⟨(S6 hI _).2 (.inr ⟨_,hc,h2⟩),?_⟩;have:=a9E hI hc h2;rw [zJ zo] at this;exact this
   ·cases hx
 ·intro m r hc hm;have ha:B7 p m.to (1-p.turn)=false:=by
   rcases (S6 hI m).1 hm with ⟨h,_⟩|⟨_,_,h⟩
   ·exfalso;obtain ⟨_,_,_,hcc⟩:=J7 hI hc;have:=a0n hI h;rw [a6h hI hcc] at this;cases this
   ·exact h
  have e:=hc.is;have hmay:Q8 p r=true:=(a79 hI hc.right).2 ⟨hc.may,by rw [← e];exact ha⟩
  unfold a0V;rcases hc.right with rfl|rfl
  ·exact ⟨_,zr.2 (.inl (by rw [zM hmay];exact zY.2 rfl)),e.symm⟩
  ·exact ⟨_,zr.2 (.inr (by rw [zM hmay];exact zY.2 rfl)),e.symm⟩
theorem a34 {p:l9} {k:Int} {fr:Nat} {x:PM}:x∈W6 p k fr↔sq p fr=k+6*p.turn∧∃ to,to<64∧(goB p k fr).testBit (63-to)=true∧x∈a27 p fr to:=by
 unfold W6;split
 ·rename_i h;simp only [xM,yl];constructor
  ·rintro ⟨to,h1,h2⟩;split at h2
   ·exact ⟨h,to,h1,by assumption,h2⟩
   ·cases h2
  ·rintro ⟨_,to,h1,h2,h3⟩;exact ⟨to,h1,by rw [zM h2];exact h3⟩
 ·rename_i h;simp only [zy,false_iff];rintro ⟨h1,_⟩;exact h h1
theorem a1X {p:l9} (hI:D0 p):(∀ x∈N9 p,x.mv∈A1 p∧(x.tags:Int)=W7 p x.mv)∧(∀ m∈A1 p,∃ x∈N9 p,x.mv=m):=by
 have hstd:∀ x,x∈B5 p↔∃ k:Int,1≤k∧k≤6∧∃ fr,fr<64∧x∈W6 p k fr:=by
  intro x;unfold B5;simp only [xM,yl];constructor
  ·rintro ⟨k,h1,h2⟩;simp only [yS,zy,yy] at h1;exact ⟨k,zo,zo,h2⟩
  ·rintro ⟨k,h1,h2,h3⟩;exact ⟨k,by simp only [yS,zy,yy];omega,h3⟩
 constructor
 ·intro x hx;unfold N9 at hx;rcases zr.1 hx with hx|hx
  ·obtain ⟨k,k1,k6,fr,hf,h⟩:=(hstd x).1 hx;obtain ⟨hs,to,ht,hb,h⟩:=a34.1 h;have:=(a1u hI k1 k6 hf ht hs hb).1 x h;exact ⟨this.1,this.2.2.2.2⟩
  ·exact (a8k hI).1 x hx
 ·intro m hm;unfold N9;rcases (S6 hI m).1 hm with ⟨h,_⟩|⟨r,hc,_⟩
  ·have hown:=a32 hI h.there h.own;have f0:=h.f0;have t0:=h.t0;obtain ⟨fr,hfr⟩:=ze h.f0;obtain ⟨to,hto⟩:=ze h.t0;have hf:fr<64:=by have:=h.f1;omega
   have ht:to<64:=by have:=h.t1;omega
   rw [hfr] at hown;have e:m=⟨fr,to,m.promo⟩:=by rw [← hfr,← hto]
   have hpr:=h.promo;rw [hfr,hto] at hpr;have hb:(goB p (d6 (sq p fr)) fr).testBit (63-to)=true:=(a6j hI hown.1 hown.2.1 hf ht hown.2.2 m.promo hpr).1 (by rw [← e];exact h)
   obtain ⟨x,hx,hxm⟩:=(a1u hI hown.1 hown.2.1 hf ht hown.2.2 hb).2.1 m hfr hto h hm;exact ⟨x,zr.2 (.inl ((hstd x).2 ⟨_,hown.1,hown.2.1,fr,hf,a34.2 ⟨hown.2.2,to,ht,hb,hx⟩⟩)),hxm⟩
  ·obtain ⟨x,hx,hxm⟩:=(a8k hI).2 m r hc hm;exact ⟨x,zr.2 (.inr hx),hxm⟩
theorem b6c {α:Type} [DecidableEq α]:∀ (a b:List α),a.Nodup→(∀ x∈a,x∈b)→a.length≤b.length:=by
 intro a
 induction a with
 | nil=>intro b _ _;simp
 | cons x r ih =>
  intro b hn hs;rw [List.nodup_cons] at hn;have hx:=hs x (by simp)
  have:=ih (b.erase x) hn.2 (fun y hy=>by
   have hne:y≠x:=by rintro rfl;exact hn.1 hy
   exact (List.mem_erase_of_ne hne).2 (hs y (by simp [hy])))
  rw [List.length_erase_of_mem hx] at this;have hpos:0<b.length:=List.length_pos_of_mem hx;simp only [zh];omega
theorem a2l {α β:Type} (f:α→List β):∀ (l:List α),l.Nodup→(∀ a∈l,(f a).Nodup)→(∀ a∈l,∀ b∈l,a≠b→∀ x,x∈f a→x∈f b→False)→(l.flatMap f).Nodup:=by
 intro l
 induction l with
 | nil=>intros;simp
 | cons a r ih =>
  intro hn h1 h2;rw [List.nodup_cons] at hn;rw [xZ,List.nodup_append];refine ⟨h1 a (by simp),ih hn.2 (fun b hb=>h1 b (by simp [hb])) (fun b hb c hc=>h2 b (by simp [hb]) c (by simp [hc])),?_⟩
  intro x hx y hy e;subst e;obtain ⟨b,hb,hxb⟩:=xM.1 hy;exact h2 a (by simp) b (by simp [hb]) (by rintro rfl;exact hn.1 hb) x hx hxb
theorem b0E {p:l9} (hI:D0 p):((B5 p).map PM.mv).Nodup:=by
 unfold B5;rw [List.map_flatMap];have hmem:∀ {k:Int} {fr:Nat} {m:Mv},1≤k→k≤6→fr<64→m∈(W6 p k fr).map PM.mv→m.fr=fr∧sq p fr=k+6*p.turn:=by
  intro k fr m k1 k6 hf h;obtain ⟨x,hx,rfl⟩:=xJ.1 h;obtain ⟨hs,to,ht,hb,hx⟩:=a34.1 hx;exact ⟨((a1u hI k1 k6 hf ht hs hb).1 x hx).2.2.1,hs⟩
 refine a2l _ _ zd ?_ ?_
 ·intro k hk;have hkr:1≤k∧k≤6:=by simp only [yS,zy,yy] at hk;omega
  rw [List.map_flatMap];refine a2l _ _ List.nodup_range ?_ ?_
  ·intro fr hfr;have hf:=yl.1 hfr;unfold W6;split
   ·rename_i hs;rw [List.map_flatMap];refine a2l _ _ List.nodup_range ?_ ?_
    ·intro to hto;split
     ·rename_i hb;exact (a1u hI hkr.1 hkr.2 hf (yl.1 hto) hs hb).2.2
     ·simp
    ·intro a ha b hb hne m h1 h2;split at h1
     ·rename_i hb1;split at h2
      ·rename_i hb2;obtain ⟨x,hx,rfl⟩:=xJ.1 h1;obtain ⟨y,hy,hxy⟩:=xJ.1 h2;have e1:=((a1u hI hkr.1 hkr.2 hf (yl.1 ha) hs hb1).1 x hx).2.2.2.1;have e2:=((a1u hI hkr.1 hkr.2 hf (yl.1 hb) hs hb2).1 y hy).2.2.2.1;rw [hxy,e1] at e2;exact hne zo
      ·simp at h2
     ·simp at h1
   ·simp
  ·intro a ha b hb hne m h1 h2;have e1:=(hmem hkr.1 hkr.2 (yl.1 ha) h1).1;have e2:=(hmem hkr.1 hkr.2 (yl.1 hb) h2).1;rw [e1] at e2;exact hne zo
 ·intro a ha b hb hne m h1 h2;have har:1≤a∧a≤6:=by simp only [yS,zy,yy] at ha;omega
  have hbr:1≤b∧b≤6:=by simp only [yS,zy,yy] at hb;omega
  rw [List.map_flatMap] at h1 h2;obtain ⟨f1,hf1,h1⟩:=xM.1 h1;obtain ⟨f2,hf2,h2⟩:=xM.1 h2;obtain ⟨e1,s1⟩:=hmem har.1 har.2 (yl.1 hf1) h1;obtain ⟨e2,s2⟩:=hmem hbr.1 hbr.2 (yl.1 hf2) h2;have:f1=f2:=by omega
  subst this;omega
theorem a4P {p:l9} (hI:D0 p):(B5 p).length≤(A1 p).length:=by
 have:=b6c ((B5 p).map PM.mv) (A1 p) (b0E hI) (fun m hm=>by
  obtain ⟨x,hx,rfl⟩:=xJ.1 hm;exact ((a1X hI).1 x (zr.2 (.inl hx))).1)
 rwa [yc] at this
def V6 (p:l9) (ck:Bool) (r:Nat):Bool:=Q8 p r && !ck
def a3i (p:l9) (ck:Bool):List PM:=if ck then [] else a0V p
def a35 (p:l9) (ck:Bool):List PM:=B5 p++a3i p ck
theorem c0C (p:l9):a3i p (o5 p)=a0V p:=by
 unfold a3i;by_cases h:o5 p=true
 ·rw [zM h];unfold a0V Q8;simp [h]
 ·rw [zJ h]
theorem a7A (p:l9):a35 p (o5 p)=N9 p:=by unfold a35 N9;rw [c0C]
theorem b1M (p:l9) (ck:Bool):(a3i p ck).length≤2:=by unfold a3i a0V;(repeat' split)<;>simp
theorem a9F {p:l9} (hI:D0 p):(N9 p).isEmpty=(A1 p).isEmpty:=by
 obtain ⟨m1,m2⟩:=a1X hI;cases e:(A1 p).isEmpty
 ·cases e2:(N9 p).isEmpty
  ·rfl
  ·rw [List.isEmpty_iff] at e2;cases e3:A1 p with
   | nil=>rw [e3] at e;cases e
   | cons m r =>
    obtain ⟨x,hx,_⟩:=m2 m (by rw [e3];exact yX)
    rw [e2] at hx;cases hx
 ·rw [List.isEmpty_iff] at e;cases e2:N9 p with
  | nil=>rfl
  | cons x r =>
   have:=(m1 x (by rw [e2];exact yX)).1
   rw [e] at this;cases this
end Ch
abbrev Tx:=List UInt8
namespace Ch
def D2 (s:Int):Tx:=[UInt8.ofNat (97+(s%8).toNat)]
def rankT (s:Int):Tx:=[UInt8.ofNat (49+(s/8).toNat)]
def sqT (s:Int):Tx:=if s<0∨s>63 then [] else D2 s++rankT s
def D7 (k:Int):Tx:=if k=1 then [75] else if k=2 then [81] else if k=3 then [82] else if k=4 then [66] else if k=5 then [78] else []
def a9G (k:Int):Tx:=if k=1 then [107] else if k=2 then [113] else if k=3 then [114] else if k=4 then [98] else if k=5 then [110] else if k=6 then [112] else []
def Z6 (m:Mv):Tx:=if m.promo=0 then [] else 61::D7 m.promo
def a1Y (p:l9) (m:Mv):Tx:=if !o5 (made p m) then [] else if (A1 (made p m)).isEmpty then [35] else [43]
def P7 (p:l9) (m:Mv):List Mv:=(A1 p).filter fun x=>decide (x.to=m.to) && !decide (x.fr=m.fr)&&decide (sq p x.fr=sq p m.fr)
def apart (p:l9) (m:Mv):Tx :=
 if (P7 p m).isEmpty then []
 else if !(P7 p m).any fun x=>decide (x.fr%8=m.fr%8) then D2 m.fr
 else if !(P7 p m).any fun x=>decide (x.fr/8=m.fr/8) then rankT m.fr
 else sqT m.fr
def Y1 (p:l9) (m:Mv):Tx:=if C1 p m then [120] else []
def body (p:l9) (m:Mv):Tx :=
 if t7 p m=1 then [79,45,79]
 else if t7 p m=2 then [79,45,79,45,79]
 else if d6 (sq p m.fr)=6 then (if C1 p m then D2 m.fr++[120] else [])++sqT m.to++Z6 m
 else D7 (d6 (sq p m.fr))++apart p m++Y1 p m++sqT m.to
def a28 (p:l9) (m:Mv):Tx:=body p m++a1Y p m
def b1N (p:l9) (m:Mv):Tx:=if 0<t7 p m then a28 p m else D7 (d6 (sq p m.fr))++sqT m.fr++Y1 p m++sqT m.to++Z6 m++a1Y p m
def b0F (m:Mv):Tx:=sqT m.fr++sqT m.to++(if 0<m.promo∧m.promo<7 then a9G m.promo else [])
def X8 (n:Nat):Tx:=if h:n<10 then [UInt8.ofNat (48+n)] else X8 (n/10)++[UInt8.ofNat (48+n%10)]
 termination_by n
 decreasing_by omega
def pcT (x:Int):Tx:=if x=1 then [75] else if x=2 then [81] else if x=3 then [82] else if x=4 then [66] else if x=5 then [78] else if x=6 then [80] else
 if x=7 then [107] else if x=8 then [113] else if x=9 then [114] else if x=10 then [98] else if x=11 then [110] else if x=12 then [112] else []
def X6 (e:Nat):Tx:=if e=0 then [] else X8 e
def a0x (g:Nat→Int):Nat→Nat→Nat→Tx
 | 0,_,e=>X6 e
 | n+1,f,e=>if g f<1∨g f>12 then a0x g n (f+1) (e+1) else X6 e++pcT (g f)++a0x g n (f+1) 0
def A6 (p:l9):Nat→Tx
 | 0=>[]
 | r+1=>a0x (fun f=>sq p (8*(r:Int)+f)) 8 0 0++(if r=0 then [] else [47])++A6 p r
def B9 (c:Int):Tx:=let t:Tx:=(if U2 c 0 then [75] else [])++(if U2 c 1 then [81] else [])++(if U2 c 2 then [107] else [])++(if U2 c 3 then [113] else [])
 if t.isEmpty then [45] else t
def epT (e:Int):Tx:=if 0≤e∧e<64 then D2 e++rankT e else [45]
def Y2 (t:Int):Tx:=if t=1 then [98] else [119]
def O0 (p:l9):Tx:=A6 p 8++[32]++Y2 p.turn++[32]++B9 p.castle++[32]++epT p.ep++[32]++X8 p.half.toNat++[32]++X8 p.full.toNat
def b34 (p:l9):Bool :=
 let r:=k9 p.ep-up p.turn
 [(-1:Int),1].any fun d=>decide (0≤I9 (o4 p.ep+d) r)&&decide (sq p (I9 (o4 p.ep+d) r)=6+6*p.turn)
def a43 (p:l9):Tx:=if p.ep<0∨b34 p=true then O0 p else O0 { p with ep:=-1 }
def a1a (p q:l9):Bool:=decide (p.board=q.board)&&decide (p.turn=q.turn)&&decide (p.castle=q.castle)&&decide (p.ep=q.ep)
def S2 (l:List l9) (p:l9):Nat:=(l.filter fun q=>a1a q p).length
def a4v (p:l9):Bool :=
 if a04 (fun i=>decide (d6 (sq p i)=2)||decide (d6 (sq p i)=3)||decide (d6 (sq p i)=6)) 64 then false
 else
  let kn:=H1 (fun i=>decide (d6 (sq p i)=5)) 64;let b0:=H1 (fun i=>decide (d6 (sq p i)=4)&&decide ((o4 i+k9 i)%2=0)) 64;let b1:=H1 (fun i=>decide (d6 (sq p i)=4)&&decide ((o4 i+k9 i)%2=1)) 64
  if 0<kn then decide (kn=1)&&decide (b0+b1=0) else decide (b0=0)||decide (b1=0)
def star:Tx:=[42]
def drawT:Tx:=[49,47,50,45,49,47,50]
def a2m (turn:Int):Tx:=if turn=0 then [48,45,49] else [49,45,48]
def C4 (l:List l9) (p:l9) (mo:Int×Tx):Int×Tx :=
 if (A1 p).isEmpty then (if !o5 p then (4,drawT) else (1,a2m p.turn))
 else if mo.2≠star then mo
 else
  let a:=if 5≤S2 l p then (6,drawT) else mo
  let b:=if 150≤p.half then (8,drawT) else a
  if a4v p then (9,drawT) else b
def H9 (p:l9):Int:=if !(A1 p).isEmpty then 0 else if o5 p then 1 else 4
structure U3 where
 mv:Mv
 tags:Int
 san:Tx
 lan:Tx
 uci:Tx
 fen:Tx
 xfen:Tx
 pos:l9
 outcome:Tx
 method:Int
 status:Int
def X7 (p:l9) (m:Mv) (mo:Int×Tx):U3 :=
 { mv:=m,tags:=a0W p m,san:=a28 p m,lan:=b1N p m,uci:=b0F m,fen:=O0 (made p m),xfen:=a43 (made p m),pos:=made p m,outcome:=mo.2,method:=mo.1,status:=H9 (made p m) }
def a1C (l:List l9) (p:l9) (mo:Int×Tx):List Mv→List U3
 | []=>[]
 | m::r=>if N3 p m then
   let q:=made p m;let mo':=C4 (l++[q]) q mo
   X7 p m mo'::a1C (l++[q]) q mo' r
  else []
def W9 (p:l9) (looked:Bool) (ms:List Mv):List U3:=a1C [p] p (if looked then C4 [p] p (0,star) else (0,star)) ms
def Y6 (p:l9) (m:Mv):Bool:=[2,3,4,5].all fun k=>!(decide (k<m.promo)&&o5 (made p ⟨m.fr,m.to,k⟩) && !o5 (made p m))
def quiet (p:l9):List Mv→Bool
 | []=>decide ((A1 p).length≤218)
 | m::r=>decide ((A1 p).length≤218)&&(!N3 p m||(Y6 p m&&quiet (made p m) r))
end Ch
end
section
open Go Go.RowKit
open E
def status (p:l9):Int:=if !(Ch.A1 p).isEmpty then 0 else if Ch.o5 p then 1 else 2
theorem a05 {α:Type} (l:List α):l.isEmpty=decide (l.length=0):=by cases l<;>simp
theorem b6d (p:l9):(Ch.A1 p).length≤14338:=zw (xG _ _) (a4N p)
theorem b8l (p:l9) (hI:Ch.D0 p) (hN:a1A p) (w:World):Calls G.P 132 #[D3 p] w (N2 (.int .i64 (status p)) w):=by
 have ht:=hI.turn;refine zN Tryz.func132 ?_;refine zG ?_;refine zR ?_;generalize hW:w.alloc (.cells (s7 p) 24)=W0;have hP:∀ w',Cl W0 w'→w'.heap[w.heap.size]?=some (.cells (s7 p) 24 (0,0)):=fun w' h=>(hW▸h:Cl (w.alloc (.cells (s7 p) 24)) w').blk (d9 _ _);have hE:∀ w',Cl W0 w'→Cl w w':=fun w' h=>(Cl.alloc _ _).trans (hW▸h);refine zR ?_;refine b7 _ (A3 (hP _ (Cl.refl _))) (zR ?_);refine o7 (a2V p hI hN _) ?_;rintro r w1 ⟨v,l,rfl,hlp,hl,c1⟩;refine ⟨_,rfl,?_⟩;obtain ⟨al,cl,rfl,hal⟩:=hl.form;have hlen:=hlp.length_eq;refine zR ?_;apply E.b9<;>intro h
 ·refine zR ?_;exact ⟨by unfold status;rw [a05,zV zo];rfl,hE _ c1⟩
 ·have he:(Ch.A1 p).isEmpty=true:=by rw [a05];exact zX zo
  refine zR ?_;refine b7 _ (A3 (hP _ c1)) (zR ?_);refine o9 (a3Z p hI.pc _ zo zo) fun w2 c2=>?_;cases hc:Ch.o5 p
  ·refine zR ?_;exact ⟨by unfold status;rw [he,hc];rfl,hE _ (c1.trans c2)⟩
  ·refine zR ?_;exact ⟨by unfold status;rw [he,hc];rfl,hE _ (c1.trans c2)⟩
theorem b35 (p:l9) (hI:Ch.D0 p) (hN:a1A p) (w:World):Calls G.P 96 #[D3 p] w (N2 (.int .i64 (Ch.H9 p)) w):=by
 refine zN Tryz.func96 ?_;refine zG ?_;refine zR ?_;generalize hW:w.alloc (.cells (s7 p) 24)=W0;have hP:∀ w',Cl W0 w'→w'.heap[w.heap.size]?=some (.cells (s7 p) 24 (0,0)):=fun w' h=>(hW▸h:Cl (w.alloc (.cells (s7 p) 24)) w').blk (d9 _ _);have hE:∀ w',Cl W0 w'→Cl w w':=fun w' h=>(Cl.alloc _ _).trans (hW▸h);refine zR ?_;refine zL a3s [.int .i64 0,.int .i64 1,.int .i64 4] ?_;have hr:=L4 K3 W0 [0,1,4] zd [.int .i64 0,.int .i64 1,.int .i64 4] rfl (e:=3) (z:=1);have c1:=Cl.alloc W0 (.cells (([.int .i64 0,.int .i64 1,.int .i64 4]:List Value).flatMap fun v=>v.cells.toList).toArray 3);generalize W0.alloc (.cells (([.int .i64 0,.int .i64 1,.int .i64 4]:List Value).flatMap fun v=>v.cells.toList).toArray 3)=w1 at *;refine zR ?_;refine b7 _ (A3 (hP _ c1)) (zR ?_);refine o9 (b8l p hI hN _) fun w2 c2=>?_;have hs:status p=0∧Ch.H9 p=0∨status p=1∧Ch.H9 p=1∨status p=2∧Ch.H9 p=4:=by
  unfold status Ch.H9;split<;>(try split)<;>simp
 have hr2:=hr.step c2;have L0:g8 G.P w2 3 ⟨W0.heap.size,0,none⟩ (.int .i64 0):=O5 hr2 K3 0 0 zd zd rfl rfl rfl;have L1:g8 G.P w2 3 ⟨W0.heap.size,1,none⟩ (.int .i64 1):=O5 hr2 K3 1 0 zd zd rfl rfl rfl;have L2:g8 G.P w2 3 ⟨W0.heap.size,2,none⟩ (.int .i64 4):=O5 hr2 K3 2 0 zd zd rfl rfl rfl;have hc2:=hE _ (c1.trans c2);clear hr hr2;have hL:g8 G.P w2 3 ⟨W0.heap.size,(status p).toNat,none⟩ (.int .i64 (Ch.H9 p)):=by
  rcases hs with ⟨e1,e2⟩|⟨e1,e2⟩|⟨e1,e2⟩<;>rw [e1,e2]
  ·exact L0
  ·exact L1
  ·exact L2
 have hb:0≤status p∧status p<3:=by omega
 generalize status p=st at *;refine zR ?_;refine E.A8 (F2.2 ⟨hb.1,hb.2⟩) (zR ?_);refine b7 (.int .i64 (Ch.H9 p)) ?_ ?_
 ·simpa [E.r9] using hL
 refine zR ?_;exact ⟨rfl,hc2⟩
end
