/- One part of the proof: San2 Pk52 Pk45 Sp28. -/
import Derived.Test.YtpclhlhcegcflaaGreatDoorM1
import Derived.Test.YtpclhlhcegcflaaGreatDoorM3
import Derived.Test.YtpclhlhcegcflaaGreatDoorM14
import Derived.Test.YtpclhlhcegcflaaGreatDoorM24
namespace Go.Proofs.YtpclhlhcegcflaaGreatDoor
set_option maxRecDepth 100000
set_option linter.unusedSimpArgs false
set_option linter.unusedVariables false
section
namespace Ch
def apF (p:A3) (m:Mv):Tx:=if (Q9 p m).isEmpty then [] else if !(Q9 p m).any (fun x=>decide (x.fr%8=m.fr%8)) then A7 m.fr else if !(Q9 p m).any (fun x=>decide (x.fr/8=m.fr/8)) then [] else A7 m.fr
def apR (p:A3) (m:Mv):Tx:=if (Q9 p m).isEmpty then [] else if !(Q9 p m).any (fun x=>decide (x.fr%8=m.fr%8)) then [] else F7 m.fr
theorem c3h {p:A3} {m:Mv} (f0:0≤m.fr) (f1:m.fr≤63):apart p m=apF p m++apR p m:=by
 have hs:Y7 m.fr=A7 m.fr++F7 m.fr:=by unfold Y7;rw [if_neg zo]
 unfold apart apF apR;rw [hs];(repeat' split)<;>simp_all
def b1Z (p:A3) (m:Mv) (fo ro:Tx):X1:=⟨[],fo,ro,S9 p m,A7 m.to,F7 m.to,Z9 m,[]⟩
def a6v (p:A3) (m:Mv) (fo ro:Tx):X1:=⟨A1 (kindOf (sq p m.fr)),fo,ro,S9 p m,A7 m.to,F7 m.to,[],[]⟩
def a4r (p:A3) (m:Mv):X1 :=
 if castleKind p m=1 then b9D ooS
 else if castleKind p m=2 then b9D oooS
 else if kindOf (sq p m.fr)=6 then b1Z p m (if takes p m then A7 m.fr else []) []
 else a6v p m (apF p m) (apR p m)
inductive c6k (p:A3) (m:Mv):Prop
 | castle (k:Int) (hk:k=1∨k=2) (h:castleKind p m=k)
 | pawn (h:castleKind p m=0) (hp:H8 p m) (hk:kindOf (sq p m.fr)=6)
 | piece (h:castleKind p m=0) (hp:H8 p m) (k1:1≤kindOf (sq p m.fr)) (k5:kindOf (sq p m.fr)≤5) (h0:m.promo=0)
theorem c2m {p:A3} (hI:B7 p) {m:Mv} (hm:m∈y8 p):c6k p m:=by
 rcases (P6 hI m).1 hm with ⟨hp,_⟩ | ⟨r,hr,_⟩
 ·have hc:=(O7 hI hp).2;obtain ⟨k1,k6,_⟩:=a2R hI hp.there hp.own;by_cases hk:kindOf (sq p m.fr)=6
  ·exact .pawn hc hp hk
  ·refine .piece hc hp k1 zo ?_;rcases hp.promo with e | e
   ·exact e.1
   ·exact absurd e.2.2.1 hk
 ·obtain ⟨r4,rt,rb,hc⟩:=I5 hI hr;have hmv:=hc.mv;have hw:(if A0 (r:Int)<homeK r then (-1:Int) else 1)=1∨(if A0 (r:Int)<homeK r then (-1:Int) else 1)=-1:=by split<;>simp
  generalize (if A0 (r:Int)<homeK r then (-1:Int) else 1)=w at *
  have hking:=hc.king;refine .castle (if w=1 then 1 else 2) (by split<;>simp) ?_
  unfold castleKind;rw [hmv];simp only [hking,Y6 hI];rcases hw with rfl | rfl
  ·rw [if_neg zd,if_pos zo,if_pos rfl]
  ·rw [if_neg zd,if_neg zo,if_pos zo,if_neg zd]
theorem b38 {k:Int} (k1:1≤k) (k5:k≤5):∃ c,A1 k=[c]∧X5 X6 c=true∧X5 a4q c=false∧c≠120∧c≠79:=by
 rcases (by omega:k=1∨k=2∨k=3∨k=4∨k=5) with rfl | rfl | rfl | rfl | rfl<;>exact ⟨_,rfl,zd,zd,zd,zd⟩
theorem c3i {a b:Int} (a1:1≤a) (a5:a≤5) (b1:1≤b) (b5:b≤5) (h:A1 a=A1 b):a=b:=by
 rcases (by omega:a=1∨a=2∨a=3∨a=4∨a=5) with rfl | rfl | rfl | rfl | rfl<;>rcases (by omega:b=1∨b=2∨b=3∨b=4∨b=5) with rfl | rfl | rfl | rfl | rfl<;>first | rfl | exact absurd h zd
theorem c5R {p:A3} (hI:B7 p) {m:Mv} (hm:m∈y8 p):Z9 m=[]∨∃ c,Z9 m=[61,c]∧X5 c3X c=true:=by
 obtain ⟨_,_,_,_,hp⟩:=L4 hI hm;unfold Z9;rcases hp with e | ⟨e1,e2,_⟩
 ·exact .inl (if_pos e)
 ·right;rw [if_neg zo];rcases (by omega:m.promo=2∨m.promo=3∨m.promo=4∨m.promo=5) with e | e | e | e<;>rw [e]<;>exact ⟨_,rfl,zd⟩
theorem c43 {a b:Mv} (ha:a.promo=0∨2≤a.promo∧a.promo≤5) (hb:b.promo=0∨2≤b.promo∧b.promo≤5) (h:Z9 a=Z9 b):a.promo=b.promo:=by
 unfold Z9 at h;rcases ha with e | ⟨e1,e2⟩<;>rcases hb with g | ⟨g1,g2⟩
 ·rw [e,g]
 ·rw [if_pos e,if_neg zo] at h;cases h
 ·rw [if_pos g,if_neg zo] at h;cases h
 ·rw [if_neg zo,if_neg zo] at h;exact c3i zo e2 zo g2 (List.cons.inj h).2
theorem c4m (p:A3) (m:Mv):S9 p m=[]∨S9 p m=[120]:=by unfold S9;split<;>simp
theorem sq2 {i:Int} (h0:0≤i) (h1:i≤63):Y7 i=A7 i++F7 i:=by unfold Y7;rw [if_neg zo]
theorem b5v {p:A3} (hI:B7 p) {m:Mv} (hm:m∈y8 p):a5d (a4r p m)=body p m:=by
 obtain ⟨f0,f1,t0,t1,_⟩:=L4 hI hm;unfold a4r body;rw [sq2 t0 t1];split
 ·rfl
 ·split
  ·rfl
  ·split
   ·unfold a5d b1Z S9;cases takes p m<;>simp
   ·unfold a5d a6v;rw [c3h f0 f1];simp
theorem c5K (p:A3) (m:Mv):apF p m=[]∨apF p m=A7 m.fr:=by unfold apF;(repeat' split)<;>simp
theorem c5L (p:A3) (m:Mv):apR p m=[]∨apR p m=F7 m.fr:=by unfold apR;(repeat' split)<;>simp
theorem c4n {o:Tx} {s:Int} (h:o=[]∨o=A7 s):o=[]∨∃ c,o=[c]∧b3J c:=h.imp id fun e=>by rw [e];exact b5u s
theorem c4o {o:Tx} {s:Int} (h0:0≤s) (h1:s≤63) (h:o=[]∨o=F7 s):o=[]∨∃ c,o=[c]∧c3Y c:=h.imp id fun e=>by rw [e];exact c19 h0 h1
theorem c3G {p:A3} (hI:B7 p) {m:Mv} (hm:m∈y8 p) (k1:1≤kindOf (sq p m.fr)) (k5:kindOf (sq p m.fr)≤5) {fo ro sg:Tx} (hf:fo=[]∨fo=A7 m.fr) (hr:ro=[]∨ro=F7 m.fr) (hs:a1K sg=true) :
  zzP (a5d (a6v p m fo ro)++sg)=some (a6v p m fo ro):=by
 obtain ⟨f0,f1,t0,t1,_⟩:=L4 hI hm;obtain ⟨c,hc,h1,_⟩:=b38 k1 k5;obtain ⟨f,ef,h2⟩:=b5u m.to;obtain ⟨r,er,h3⟩:=c19 t0 t1;have:=c4l (o1:=A1 (kindOf (sq p m.fr))) (o2:=fo) (o3:=ro) (x:=S9 p m) (pr:=[]) (sg:=sg) (.inr ⟨c,hc,h1⟩) (c4n hf) (c4o f0 f1 hr) (c4m p m) h2 h3 (.inl rfl) hs;unfold a5d a6v;rw [ef,er];simpa using this
theorem c4p {p:A3} (hI:B7 p) {m:Mv} (hm:m∈y8 p) {fo ro sg:Tx} (hf:fo=[]∨fo=A7 m.fr) (hr:ro=[]∨ro=F7 m.fr) (hs:a1K sg=true) :
  zzP (a5d (b1Z p m fo ro)++sg)=some (b1Z p m fo ro):=by
 obtain ⟨f0,f1,t0,t1,_⟩:=L4 hI hm;obtain ⟨f,ef,h2⟩:=b5u m.to;obtain ⟨r,er,h3⟩:=c19 t0 t1;have:=c4l (o1:=[]) (o2:=fo) (o3:=ro) (x:=S9 p m) (pr:=Z9 m) (sg:=sg) (.inl rfl) (c4n hf) (c4o f0 f1 hr) (c4m p m) h2 h3 (c5R hI hm) hs;unfold a5d b1Z;rw [ef,er];simpa using this
theorem c3x {o sg:Tx} (ho:o=ooS∨o=oooS) (hs:a1K sg=true):zzP (o++sg)=some (b9D o):=by
 have hf:b5t (o++sg)=none:=by
  rcases ho with rfl | rfl<;>rfl
 unfold zzP;rw [hf];rcases ho with rfl | rfl
 ·have h5:¬ ((ooS++sg).take 5=oooS∧a1K ((ooS++sg).drop 5)=true):=by
   rintro ⟨h,_⟩;have hm:=(c5J hs).m;cases sg with
   | nil=>cases h
   | cons c r =>
    have e:(ooS++c::r).take 5=[79,45,79,c]++r.take 1:=by rw [show ooS++c::r=79::45::79::c::r from rfl];simp
    rw [e] at h;have:c=45:=by
     have:=(List.cons.inj (List.cons.inj (List.cons.inj (List.cons.inj h).2).2).2).1;exact this
    subst this;rw [c3F] at hm;exact absurd hm zd
  rw [if_neg h5,if_pos ⟨rfl,hs⟩]
 ·rw [if_pos ⟨rfl,hs⟩]
theorem c4q {p:A3} (hI:B7 p) {m:Mv} (hm:m∈y8 p) {sg:Tx} (hs:a1K sg=true):zzP (body p m++sg)=some (a4r p m):=by
 rw [← b5v hI hm];rcases c2m hI hm with ⟨k,hk,h⟩ | ⟨h,hp,hk⟩ | ⟨h,hp,k1,k5,_⟩
 ·unfold a4r;rw [h];rcases hk with rfl | rfl
  ·exact c3x (.inl rfl) hs
  ·exact c3x (.inr rfl) hs
 ·unfold a4r;rw [h,if_neg zd,if_neg zd,if_pos hk];exact c4p hI hm (by split<;>simp) (.inl rfl) hs
 ·unfold a4r;rw [h,if_neg zd,if_neg zd,if_neg zo];exact c3G hI hm k1 k5 (c5K p m) (c5L p m) hs
theorem b3J.nx {c:UInt8} (h:b3J c):c≠120:=fun e=>by subst e;exact absurd h.x zd
theorem b3J.ne {c:UInt8} (h:b3J c):c≠61:=fun e=>by subst e;exact absurd h.e zd
theorem c3Y.nx {c:UInt8} (h:c3Y c):c≠120:=fun e=>by subst e;exact absurd h.x zd
theorem c1h {p:A3} {m:Mv} (h:castleKind p m=0) (hk:kindOf (sq p m.fr)=6) (t0:0≤m.to) (t1:m.to≤63):body p m=(if takes p m then A7 m.fr++[120] else [])++(A7 m.to++F7 m.to)++Z9 m:=by
 unfold body;rw [h,if_neg zd,if_neg zd,if_pos hk,sq2 t0 t1]
theorem b7S {p:A3} {m:Mv} (h:castleKind p m=0) (hk:kindOf (sq p m.fr)≠6) (f0:0≤m.fr) (f1:m.fr≤63) (t0:0≤m.to) (t1:m.to≤63):body p m=A1 (kindOf (sq p m.fr))++(apF p m++apR p m)++S9 p m++(A7 m.to++F7 m.to):=by
 unfold body;rw [h,if_neg zd,if_neg zd,if_neg hk,sq2 t0 t1,c3h f0 f1]
theorem c2z {p:A3} {m:Mv} {k:Int} (hk:k=1∨k=2) (h:castleKind p m=k):body p m=if k=1 then ooS else oooS:=by
 unfold body;rw [h];rcases hk with rfl | rfl<;>rfl
theorem c32 {p:A3} (hI:B7 p) {m:Mv} (hm:m∈y8 p):∃ c r,body p m=c::r∧(c=79∧castleKind p m≠0∨b3J c∧castleKind p m=0∧kindOf (sq p m.fr)=6∨X5 X6 c=true∧c≠79∧castleKind p m=0∧kindOf (sq p m.fr)≠6):=by
 obtain ⟨f0,f1,t0,t1,_⟩:=L4 hI hm;rcases c2m hI hm with ⟨k,hk,h⟩ | ⟨h,hp,hk⟩ | ⟨h,hp,k1,k5,_⟩
 ·rw [c2z hk h];refine ⟨79,if k=1 then [45,79] else [45,79,45,79],by split<;>rfl,.inl ⟨rfl,zo⟩⟩
 ·rw [c1h h hk t0 t1];obtain ⟨c,ec,h1⟩:=b5u m.fr;obtain ⟨d,ed,h2⟩:=b5u m.to;rw [ec,ed];split
  ·exact ⟨c,_,rfl,.inr (.inl ⟨h1,h,hk⟩)⟩
  ·exact ⟨d,_,rfl,.inr (.inl ⟨h2,h,hk⟩)⟩
 ·rw [b7S h zo f0 f1 t0 t1];obtain ⟨c,ec,h1,_,_,h4⟩:=b38 k1 k5;rw [ec];exact ⟨c,_,rfl,.inr (.inr ⟨h1,h4,h,zo⟩)⟩
theorem c3H {c:UInt8} (h:X5 X6 c=true) (h2:b3J c):False:=by rw [h2.l] at h;cases h
theorem c3j {p:A3} {x m:Mv}:x∈Q9 p m↔x∈y8 p∧x.to=m.to∧x.fr≠m.fr∧sq p x.fr=sq p m.fr:=by
 unfold Q9;rw [List.mem_filter];simp only [Bool.and_eq_true,Bool.not_eq_true',decide_eq_true_eq,decide_eq_false_iff_not];exact ⟨fun ⟨a,⟨b,c⟩,d⟩=>⟨a,b,c,d⟩,fun ⟨a,b,c,d⟩=>⟨a,⟨b,c⟩,d⟩⟩
theorem c4T {p:A3} {x m:Mv} (hm:m∈Q9 p x) (x0:0≤x.fr) (x1:x.fr≤63) (m0:0≤m.fr) (m1:m.fr≤63) {fo ro:Tx} (hf:fo=[]∨fo=A7 m.fr) (hr:ro=[]∨ro=F7 m.fr):apF p x++apR p x≠fo++ro:=by
 obtain ⟨_,_,hne,_⟩:=c3j.1 hm;have he:(Q9 p x).isEmpty=false:=by
  cases e:Q9 p x with
  | nil=>rw [e] at hm;cases hm
  | cons a b=>rfl
 obtain ⟨c1,e1,f1⟩:=b5u x.fr;obtain ⟨c2,e2,f2⟩:=c19 x0 x1;obtain ⟨d1,g1,k1⟩:=b5u m.fr;obtain ⟨d2,g2,k2⟩:=c19 m0 m1;have n1:c1≠d2:=fun e=>by subst e;exact absurd (f1.f.symm.trans k2.f) zd
 have n2:c2≠d1:=fun e=>by subst e;exact absurd (f2.f.symm.trans k1.f) zd
 have n3:c1=d1→x.fr%8=m.fr%8:=fun e=>c0n (by rw [e1,g1,e])
 have n4:c2=d2→x.fr/8=m.fr/8:=fun e=>c3g x0 x1 m0 m1 (by rw [e2,g2,e])
 unfold apF apR;simp only [he,Bool.false_eq_true,if_false];by_cases ha:(Q9 p x).any (fun y=>decide (y.fr%8=x.fr%8))=true
 ·simp only [ha,Bool.not_true,Bool.false_eq_true,if_false];by_cases hb:(Q9 p x).any (fun y=>decide (y.fr/8=x.fr/8))=true
  ·simp only [hb,Bool.not_true,Bool.false_eq_true,if_false];rw [e1,e2];rcases hf with rfl | rfl<;>rcases hr with rfl | rfl<;>(try simp only [g1,g2])<;>intro h
   ·cases h
   ·exact absurd h (by simp)
   ·exact absurd h (by simp)
   ·simp only [List.cons_append,List.nil_append,List.cons.injEq,and_true] at h;have:=n3 h.1;have:=n4 h.2;omega
  ·rw [Bool.not_eq_true] at hb;simp only [hb,Bool.not_false,if_true];rw [e2];have hb2:∀ y∈Q9 p x,¬ y.fr/8=x.fr/8:=fun y hy e=>by
    have:(Q9 p x).any (fun y=>decide (y.fr/8=x.fr/8))=true:=List.any_eq_true.2 ⟨y,hy,decide_eq_true e⟩;rw [hb] at this;cases this
   have:=hb2 m hm;rcases hf with rfl | rfl<;>rcases hr with rfl | rfl<;>(try simp only [g1,g2])<;>intro h
   ·cases h
   ·simp only [List.nil_append,List.cons.injEq,and_true] at h;have:=n4 h;omega
   ·simp only [List.append_nil,List.nil_append,List.cons.injEq,and_true] at h;exact n2 h
   ·exact absurd h (by simp)
 ·rw [Bool.not_eq_true] at ha;simp only [ha,Bool.not_false,if_true];rw [e1];have ha2:∀ y∈Q9 p x,¬ y.fr%8=x.fr%8:=fun y hy e=>by
   have:(Q9 p x).any (fun y=>decide (y.fr%8=x.fr%8))=true:=List.any_eq_true.2 ⟨y,hy,decide_eq_true e⟩;rw [ha] at this;cases this
  have:=ha2 m hm;rcases hf with rfl | rfl<;>rcases hr with rfl | rfl<;>(try simp only [g1,g2])<;>intro h
  ·cases h
  ·simp only [List.append_nil,List.nil_append,List.cons.injEq,and_true] at h;exact n1 h
  ·simp only [List.append_nil,List.cons.injEq,and_true] at h;have:=n3 h;omega
  ·exact absurd h (by simp)
theorem Mv.ext' {a b:Mv} (h1:a.fr=b.fr) (h2:a.to=b.to) (h3:a.promo=b.promo):a=b:=by cases a;cases b;simp_all
theorem c44 {p:A3} (hI:B7 p) {m x:Mv} (hm:m∈y8 p) (hx:x∈y8 p) (hc:castleKind p m=0) (hp:H8 p m) (k1:1≤kindOf (sq p m.fr)) (k5:kindOf (sq p m.fr)≤5) (h0:m.promo=0) {fo ro:Tx} (hf:fo=[]∨fo=A7 m.fr) (hr:ro=[]∨ro=F7 m.fr)
  (h:A1 (kindOf (sq p m.fr))++(fo++ro)++S9 p m++(A7 m.to++F7 m.to)=body p x):x=m:=by
 obtain ⟨f0,f1,t0,t1,_⟩:=L4 hI hm;obtain ⟨g0,g1,s0,s1,_⟩:=L4 hI hx;obtain ⟨c,ec,l1,_,_,l4⟩:=b38 k1 k5;obtain ⟨d,r,ed,hd⟩:=c32 hI hx;have hcd:c=d:=by rw [ed,ec] at h;exact (List.cons.inj h).1
 subst hcd;rcases hd with ⟨e,_⟩ | ⟨e,_⟩ | ⟨_,_,hcx,hk6⟩
 ·exact absurd e l4
 ·exact (c3H l1 e).elim
 rcases c2m hI hx with ⟨k,hk,hh⟩ | ⟨_,_,hk⟩ | ⟨_,hq,q1,q5,q0⟩
 ·omega
 ·exact absurd hk hk6
 rw [b7S hcx hk6 g0 g1 s0 s1] at h;obtain ⟨h2,h3⟩:=List.append_inj' h (by simp [A7,F7])
 obtain ⟨h4,h5⟩:=List.append_inj h3 (by simp [A7])
 have hto:x.to=m.to:=by
  have e1:=c0n h4;have e2:=c3g t0 t1 s0 s1 h5;omega
 have htk:S9 p m=S9 p x:=by
  unfold S9;rw [show takes p m=takes p x by unfold takes;rw [decide_eq_false (show ¬ kindOf (sq p m.fr)=6 by omega),decide_eq_false hk6,hto];rfl]
 rw [htk] at h2;have h2:=List.append_cancel_right h2;obtain ⟨e,ee,_⟩:=b38 q1 q5;obtain ⟨h6,h7⟩:=List.append_inj h2 (by rw [ec,ee];rfl)
 have hkk:=c3i k1 k5 q1 q5 h6;refine Classical.byContradiction fun hne=>?_;have hfr:m.fr≠x.fr:=fun e=>hne (Mv.ext' e.symm hto (by rw [h0,q0]))
 have o1:=(a2R hI hp.there hp.own).2.2;have o2:=(a2R hI hq.there hq.own).2.2;exact c4T (c3j.2 ⟨hm,hto.symm,hfr,zo⟩) g0 g1 f0 f1 hf hr h7.symm
theorem c3I {p:A3} (hI:B7 p) {m x:Mv} (hm:H8 p m) (hx:H8 p x) (km:kindOf (sq p m.fr)=6) (kx:kindOf (sq p x.fr)=6) (ht:takes p x=takes p m) (hf:takes p m=true→x.fr%8=m.fr%8) (hto:x.to=m.to) (hpr:x.promo=m.promo):x=m:=by
 have hT:=hI.turn;obtain ⟨_,_,o1⟩:=a2R hI hm.there hm.own;obtain ⟨_,_,o2⟩:=a2R hI hx.there hx.own;have f0:=hm.f0;have f1:=hm.f1;have g0:=hx.f0;have g1:=hx.f1;have t0:=hm.t0;have t1:=hm.t1;have c1:=S7 hI hm.f0 hm.f1 hm.there hm.own hm.goal;have c2:=S7 hI hx.f0 hx.f1 hx.there hx.own hx.goal;rw [hto] at c2;have tm:∀ y:Mv,kindOf (sq p y.fr)=6→takes p y=(!decide (sq p y.to=0) || !decide (l9 y.fr=l9 y.to)):=fun y hy=>by unfold takes;rw [decide_eq_true hy,Bool.true_and]
 have u1:=tm m km;have u2:=tm x kx;rw [hto] at u2;have hu:up p.turn=1∨up p.turn=-1:=by unfold up;omega
 refine Mv.ext' ?_ hto hpr;rcases c1 with ⟨e,_⟩ | ⟨_,z1,fl1,rk1⟩ | ⟨_,fl1,rk1,_,_⟩
 ·exact absurd km e
 ·have tk:takes p m=false:=by rw [u1,decide_eq_true z1,decide_eq_true fl1.symm];rfl
  rcases c2 with ⟨e,_⟩ | ⟨_,_,fl2,rk2⟩ | ⟨_,fl2,rk2,_,_⟩
  ·exact absurd kx e
  ·unfold l9 g8 at *;rcases rk1 with rk1 | ⟨rk1,rr1,z3⟩<;>rcases rk2 with rk2 | ⟨rk2,rr2,z4⟩
   ·omega
   ·exfalso;rw [a5N zo zo zo zo] at z4;have:8*(x.fr/8+up p.turn)+x.fr%8=m.fr:=by omega
    rw [this] at z4;rw [z4] at km;exact absurd km zd
   ·exfalso;rw [a5N zo zo zo zo] at z3;have:8*(m.fr/8+up p.turn)+m.fr%8=x.fr:=by omega
    rw [this] at z3;rw [z3] at kx;exact absurd kx zd
   ·omega
  ·exfalso;rw [tk,u2,decide_eq_false (show ¬ l9 x.fr=l9 m.to by omega)] at ht
   simp at ht
 ·have tk:takes p m=true:=by rw [u1,decide_eq_false (show ¬ l9 m.fr=l9 m.to by omega)];simp
  have e:=hf tk;rcases c2 with ⟨e,_⟩ | ⟨_,z2,fl2,rk2⟩ | ⟨_,fl2,rk2,_,_⟩
  ·exact absurd kx e
  ·exfalso;rw [tk,u2,decide_eq_true z2,decide_eq_true fl2.symm] at ht;simp at ht
  ·unfold g8 at *;omega
theorem b5x {p:A3} (hI:B7 p) {m x:Mv} (hm:m∈y8 p) (hx:x∈y8 p) (hp:H8 p m) (hk:kindOf (sq p m.fr)=6) {z:Tx}
  (hz:z=(if takes p m then A7 m.fr++[120] else [])++(A7 m.to++F7 m.to)++Z9 m∨z=A7 m.fr++F7 m.fr++S9 p m++(A7 m.to++F7 m.to)++Z9 m∨z=S9 p m++(A7 m.to++F7 m.to)++Z9 m) (h:z=body p x):x=m:=by
 obtain ⟨f0,f1,t0,t1,hpm⟩:=L4 hI hm;obtain ⟨g0,g1,s0,s1,hpx⟩:=L4 hI hx;obtain ⟨c1,e1,F1⟩:=b5u m.fr;obtain ⟨c2,e2,F2⟩:=c19 f0 f1;obtain ⟨c3,e3,F3⟩:=b5u m.to;obtain ⟨c4,e4,F4⟩:=c19 t0 t1;obtain ⟨d1,E1,G1⟩:=b5u x.fr;obtain ⟨d3,E3,G3⟩:=b5u x.to;obtain ⟨d4,E4,G4⟩:=c19 s0 s1;have hh:∃ c r,z=c::r∧(b3J c∨c=120):=by
  rw [e1,e2,e3,e4] at hz;rcases hz with rfl | rfl | rfl
  ·split
   ·exact ⟨_,_,rfl,.inl F1⟩
   ·exact ⟨_,_,rfl,.inl F3⟩
  ·exact ⟨_,_,rfl,.inl F1⟩
  ·rcases c4m p m with e | e<;>rw [e]
   ·exact ⟨_,_,rfl,.inl F3⟩
   ·exact ⟨_,_,rfl,.inr rfl⟩
 obtain ⟨c,r,ez,hc⟩:=hh;obtain ⟨d,r',ed,hd⟩:=c32 hI hx;have hcd:c=d:=by rw [ez,ed] at h;exact (List.cons.inj h).1
 subst hcd;have h79:c≠79:=by
  rcases hc with hc | rfl
  ·intro e;subst e;exact absurd hc.f zd
  ·decide
 have hlt:X5 X6 c≠true:=by
  rcases hc with hc | rfl
  ·intro e;exact c3H e hc
  ·decide
 rcases hd with ⟨e,_⟩ | ⟨hfc,hcx,hkx⟩ | ⟨e,_⟩
 ·exact absurd e h79
 rotate_left
 ·exact absurd e hlt
 have hq:H8 p x:=by
  rcases c2m hI hx with ⟨k,hk,hh⟩ | ⟨_,hq,_⟩ | ⟨_,hq,_⟩
  ·omega
  ·exact hq
  ·exact hq
 have hpi:=fun (e:Z9 x=Z9 m)=>c43 (a:=x) (b:=m) (hpx.imp id fun q=>⟨q.1,q.2.1⟩) (hpm.imp id fun q=>⟨q.1,q.2.1⟩) e;have hti:d3=c3→d4=c4→x.to=m.to:=fun a b=>by
  have q1:=c0n (a:=x.to) (b:=m.to) (by rw [E3,e3,a])
  have q2:=c3g s0 s1 t0 t1 (by rw [E4,e4,b])
  omega
 have hfi:d1=c1→x.fr%8=m.fr%8:=fun a=>c0n (by rw [E1,e1,a])
 rw [c1h hcx hkx s0 s1,E1,E3,E4] at h;rw [e1,e2,e3,e4] at hz;have hpn:∀ y:Mv,y.promo=0∨2≤y.promo∧y.promo≤5∧kindOf (sq p y.fr)=6→Z9 y=[]∨∃ c,Z9 y=[61,c]:=fun y hy=>by
  unfold Z9;rcases hy with e | ⟨e1,e2,_⟩
  ·exact .inl (if_pos e)
  ·right;obtain ⟨c,ec,_⟩:=b38 (k:=y.promo) zo e2;rw [if_neg zo,ec];exact ⟨_,rfl⟩
 have main:(if takes p m then [c1]++[120] else [])++([c3]++[c4])++Z9 m=(if takes p x then [d1]++[120] else [])++([d3]++[d4])++Z9 x→x=m:=by
  intro h;by_cases tm:takes p m=true<;>by_cases tx:takes p x=true
  ·rw [if_pos tm,if_pos tx] at h;simp only [List.cons_append,List.nil_append,List.cons.injEq,true_and] at h;exact c3I hI hp hq hk hkx (tx.trans tm.symm) (fun _=>hfi h.1.symm) (hti h.2.1.symm h.2.2.1.symm) (hpi h.2.2.2.symm)
  ·rw [if_pos tm,if_neg tx] at h;simp only [List.cons_append,List.nil_append,List.cons.injEq] at h;exact absurd h.2.1.symm G4.nx
  ·rw [if_neg tm,if_pos tx] at h;simp only [List.cons_append,List.nil_append,List.cons.injEq] at h;exact absurd h.2.1 F4.nx
  ·rw [if_neg tm,if_neg tx] at h;simp only [List.cons_append,List.nil_append,List.cons.injEq] at h;exact c3I hI hp hq hk hkx (by rw [Bool.not_eq_true] at tm tx;rw [tm,tx]) (fun e=>absurd e tm) (hti h.1.symm h.2.1.symm) (hpi h.2.2.symm)
 rcases hz with hz | hz | hz
 ·exact main (hz.symm.trans h)
 ·exfalso;rw [hz] at h;by_cases tx:takes p x=true
  ·rw [if_pos tx] at h;simp only [List.cons_append,List.nil_append,List.cons.injEq] at h;exact F2.nx h.2.1
  ·rw [if_neg tx] at h;simp only [List.cons_append,List.nil_append,List.cons.injEq] at h;have h3:=h.2.2;rcases hpn x hpx with e | ⟨c,e⟩<;>rw [e] at h3<;>rcases c4m p m with g | g<;>rw [g] at h3
   ·cases h3
   ·cases h3
   ·exact F3.ne (List.cons.inj h3).1
   ·exact absurd (List.cons.inj h3).1 zd
 ·rw [hz] at h;by_cases tm:takes p m=true
  ·exfalso;rw [show S9 p m=[120] by unfold S9;rw [if_pos tm]] at h
   by_cases tx:takes p x=true
   ·rw [if_pos tx] at h;exact G1.nx (List.cons.inj h).1.symm
   ·rw [if_neg tx] at h;exact G3.nx (List.cons.inj h).1.symm
  ·apply main;rw [show S9 p m=[] by unfold S9;rw [if_neg tm]] at h
   rw [if_neg tm];exact h
theorem c3Z {p:A3} (hI:B7 p) {m x:Mv} (hm:m∈y8 p) (hx:x∈y8 p) {k:Int} (hk:k=1∨k=2) (h:castleKind p m=k) (h2:castleKind p x=k):x=m:=by
 have get:∀ y∈y8 p,castleKind p y=k→y=⟨4+56*p.turn,4+56*p.turn+(if k=1 then 2 else -2),0⟩:=by
  intro y hy hyk;rcases (P6 hI y).1 hy with ⟨hp,_⟩ | ⟨r,hr,_⟩
  ·have:=(O7 hI hp).2;omega
  ·obtain ⟨r4,rt,rb,hc⟩:=I5 hI hr;have hmv:=hc.mv;have hK:=hc.k;have hw:(if A0 (r:Int)<homeK r then (-1:Int) else 1)=1∨(if A0 (r:Int)<homeK r then (-1:Int) else 1)=-1:=by split<;>simp
   generalize (if A0 (r:Int)<homeK r then (-1:Int) else 1)=w at *
   have hking:=hc.king;unfold castleKind at hyk;rw [hmv] at hyk ⊢;simp only [hking,Y6 hI] at hyk;rw [← hK];rcases hw with rfl | rfl
   ·rw [if_neg zd,if_pos zo] at hyk;subst hyk;rfl
   ·rw [if_neg zd,if_neg zo,if_pos zo] at hyk;subst hyk;rfl
 rw [get m hm h,get x hx h2]
theorem c3J {p:A3} (hI:B7 p) {m x:Mv} (hm:m∈y8 p) (hx:x∈y8 p) {k:Int} (hk:k=1∨k=2) (h:castleKind p m=k) (hb:(if k=1 then ooS else oooS)=body p x):x=m:=by
 obtain ⟨c,r,ec,hc⟩:=c32 hI hx;have h79:c=79:=by
  rw [ec] at hb;rcases hk with rfl | rfl<;>exact (List.cons.inj hb).1.symm
 subst h79;rcases hc with ⟨_,hcx⟩ | ⟨e,_⟩ | ⟨_,e,_⟩
 ·rcases c2m hI hx with ⟨k',hk',hh⟩ | ⟨hh,_⟩ | ⟨hh,_⟩
  ·rw [c2z hk' hh] at hb;have:k'=k:=by
    rcases hk with rfl | rfl<;>rcases hk' with rfl | rfl<;>first | rfl | exact absurd hb zd
   subst this;exact c3Z hI hm hx hk' h hh
  ·exact absurd hh hcx
  ·exact absurd hh hcx
 ·exact absurd e.f zd
 ·exact absurd rfl e
inductive b7x (p:A3) (m:Mv):X1→Prop
 | own:b7x p m (a4r p m)
 | pawn (h:castleKind p m=0) (hk:kindOf (sq p m.fr)=6):b7x p m (b1Z p m (A7 m.fr) (F7 m.fr))
 | piece (h:castleKind p m=0) (hk:kindOf (sq p m.fr)≠6) (fo ro:Tx) (hf:fo=[]∨fo=A7 m.fr) (hr:ro=[]∨ro=F7 m.fr) (ha:apart p m=[]∨apart p m=ro∨apart p m=fo∨apart p m=fo++ro):b7x p m (a6v p m fo ro)
theorem c4U (o:Tx):a9R (b9D o)=[]:=rfl
theorem c3k {p:A3} (hI:B7 p) {m x:Mv} (hm:m∈y8 p) (hx:x∈y8 p) {q:X1} (hq:b7x p m q):fits q (body p x)↔x=m:=by
 obtain ⟨f0,f1,t0,t1,hpm⟩:=L4 hI hm;have pieceL:∀ fo ro:Tx,castleKind p m=0→H8 p m→1≤kindOf (sq p m.fr)→kindOf (sq p m.fr)≤5→m.promo=0→(fo=[]∨fo=A7 m.fr)→(ro=[]∨ro=F7 m.fr)→fits (a6v p m fo ro) (body p x)→x=m:=by
  intro fo ro hc hp k1 k5 h0 hf hr h;have one:=fun {a b:Tx} ha hb e=>c44 hI hm hx hc hp k1 k5 h0 (fo:=a) (ro:=b) ha hb e;obtain ⟨c,ec,_⟩:=b38 k1 k5;have hne:A1 (kindOf (sq p m.fr))≠[]:=by rw [ec];simp
  unfold fits a9R at h;rw [if_pos (show (a6v p m fo ro).pc≠[] from hne)] at h;unfold a5d a6v at h;simp only [List.append_nil,List.mem_cons,List.not_mem_nil,or_false] at h;rcases h with h | h | h | h
  ·exact one hf hr (by rw [← h];simp)
  ·exact one (a:=[]) (b:=[]) (.inl rfl) (.inl rfl) (by rw [h];simp)
  ·exact one (a:=[]) (b:=ro) (.inl rfl) hr (by rw [h];simp)
  ·exact one (a:=fo) (b:=[]) hf (.inl rfl) (by rw [h];simp)
 have plain_of:castleKind p m=0→H8 p m:=fun h=>by
  rcases c2m hI hm with ⟨k,hk,hh⟩ | ⟨_,hq,_⟩ | ⟨_,hq,_⟩
  ·omega
  ·exact hq
  ·exact hq
 cases hq with
 | own =>
  constructor
  ·intro h;rcases c2m hI hm with ⟨k,hk,hc⟩ | ⟨hc,hp,hk⟩ | ⟨hc,hp,k1,k5,h0⟩
   ·have e:a4r p m=b9D (if k=1 then ooS else oooS):=by unfold a4r;rw [hc];rcases hk with rfl | rfl<;>rfl
    rw [e] at h;unfold fits at h;rw [c4U] at h;rcases h with h | h
    ·exact c3J hI hm hx hk hc (by rw [← h];unfold a5d b9D;simp)
    ·cases h
   ·have e:a4r p m=b1Z p m (if takes p m then A7 m.fr else []) []:=by unfold a4r;rw [hc,if_neg zd,if_neg zd,if_pos hk]
    rw [e] at h;have he:¬ (b1Z p m (if takes p m then A7 m.fr else []) []).pc≠[]:=fun e=>e rfl
    unfold fits a9R at h;rw [if_neg he] at h;clear he e;unfold a5d b1Z S9 at h;refine b5x hI hm hx hp hk (z:=body p x) (.inl ?_) rfl;cases tm:takes p m
    ·rw [tm] at h;simp at h;rw [← h];simp
    ·rw [tm] at h;simp at h;rcases h with h | h
     ·rw [← h];simp
     ·rw [h];simp
   ·have e:a4r p m=a6v p m (apF p m) (apR p m):=by unfold a4r;rw [hc,if_neg zd,if_neg zd,if_neg zo]
    rw [e] at h;exact pieceL _ _ hc hp k1 k5 h0 (c5K p m) (c5L p m) h
  ·rintro rfl;exact .inl (b5v hI hm)
 | pawn hc hk =>
  have hp:=plain_of hc;unfold fits a9R;rw [if_neg (fun e=>e rfl)];have n1:A7 m.fr≠[]:=by simp [A7]
  have n2:F7 m.fr≠[]:=by simp [F7]
  constructor
  ·intro h;unfold a5d b1Z at h;rw [if_pos (show A7 m.fr≠[]∧F7 m.fr≠[] from ⟨n1,n2⟩)] at h;simp only [List.append_nil,List.nil_append,List.mem_append,List.mem_singleton] at h;rcases h with h | h | h
   ·exact b5x hI hm hx hp hk (z:=body p x) (.inr (.inl (by rw [← h];simp))) rfl
   ·by_cases tm:takes p m=true
    ·have e:S9 p m=[120]:=by unfold S9;rw [if_pos tm]
     rw [e,if_pos (by simp)] at h
     refine b5x hI hm hx hp hk (z:=body p x) (.inl ?_) rfl;rw [if_pos tm,List.mem_singleton.1 h];simp
    ·have e:S9 p m=[]:=by unfold S9;rw [if_neg tm]
     simp [e] at h
   ·exact b5x hI hm hx hp hk (z:=body p x) (.inr (.inr (by rw [h];simp))) rfl
  ·rintro rfl;right;rw [c1h hc hk t0 t1];unfold b1Z S9;cases tm:takes p x
   ·simp [n1,n2]
   ·simp [n1]
 | piece hc hk fo ro hf hr ha =>
  have hp:=plain_of hc;obtain ⟨k1,k6,_⟩:=a2R hI hp.there hp.own;have h0:m.promo=0:=by
   rcases hpm with e | ⟨_,_,e⟩
   ·exact e
   ·exact absurd e hk
  refine ⟨pieceL _ _ hc hp k1 zo h0 hf hr,?_⟩;rintro rfl;obtain ⟨c,ec,_⟩:=b38 k1 zo;have hne:A1 (kindOf (sq p x.fr))≠[]:=by rw [ec];simp
  rw [b7S hc hk f0 f1 t0 t1,← c3h f0 f1];unfold fits a9R;rw [if_pos (show (a6v p x fo ro).pc≠[] from hne)];unfold a5d a6v;rcases ha with e | e | e | e<;>rw [e]<;>simp
def c20 (q:X1) (t:Tx):Bool:=decide (fits q t)
theorem b3h {q:X1} {t:Tx}:c20 q t=true↔fits q t:=decide_eq_true_iff
def c45 (p:A3) (q:X1):Option PM:=(N0 p).find? fun x=>c20 q (body p x.mv)
theorem c4a {p:A3} (hI:B7 p) {m:Mv} (hm:m∈y8 p) {q:X1} (hq:b7x p m q):∃ x∈N0 p,c45 p q=some x∧x.mv=m:=by
 obtain ⟨h1,h2⟩:=a0I hI;obtain ⟨y,hy,ey⟩:=h2 m hm;unfold c45;cases e:(N0 p).find? fun x=>c20 q (body p x.mv) with
 | none =>
  have:=List.find?_eq_none.1 e y hy;rw [ey] at this;exact absurd (b3h.2 ((c3k hI hm hm hq).2 rfl)) this
 | some x =>
  have hx:=List.mem_of_find?_eq_some e;have hd:=List.find?_some e;exact ⟨x,hx,rfl,(c3k hI hm (h1 x hx).1 hq).1 (b3h.1 hd)⟩
end Ch
end
section
open Go Go.RowKit
open E
open Ch Bb
theorem c4V {s:Tx} {i:Nat} (h:i<s.length) (set:Tx):inS s i set=X5 set s[i]:=by
 unfold inS;rw [List.getElem?_eq_getElem h]
theorem c4r {s:Tx} {i:Nat} (h:s.length≤i) (set:Tx):inS s i set=false:=by
 unfold inS;rw [List.getElem?_eq_none h]
theorem c08 {s set:Tx} {i:Nat} (h:inS s i set=true):oneN s i set=1:=by unfold oneN;rw [if_pos h]
theorem c1i {s set:Tx} {i:Nat} (h:inS s i set=false):oneN s i set=0:=by unfold oneN;rw [h];rfl
theorem c5M {a b:UInt8} (h:¬ ((a.toNat:Nat):Int)=(b.toNat:Nat)):a≠b:=fun e=>h (by rw [e])
theorem c5N {a b:UInt8} (h:((a.toNat:Nat):Int)=(b.toNat:Nat)):a=b:=UInt8.toNat_inj.1 zo
theorem c6l {s set:Tx} {i b t:Nat} {fz:Nat×Nat} (hi:i≤100000) (hs:s.length≤100000) (hset:set.length≤1000) (w:World) (hb:w.heap[b]?=some (.cells #[s8 s] t fz)) :
  Calls G.P 347 #[.int .i64 i,s8 set,.pointer (some ⟨b,0,none⟩)] w (K4 (.int .i64 (oneN s i set:Nat)) w):=by
 have hsz:(tx s).size=s.length:=C9 _;have hset2:(tx set).size=set.length:=C9 _;refine zN Tryz.func347 ?_;refine zR ?_;refine d7 _ (W1 hb rfl rfl) (zR ?_);rw [hsz];apply E.b7<;>intro h
 ·have hlt:i<s.length:=by omega
  have hx:=b6Z hlt;clear h;refine zR ?_;refine A9 (σ:=Nat) [5,6] 7 (fun j=>[(6,.int .i64 j)]) (fun j w'=>j≤set.length∧(∀ k,k<j→set[k]?≠some s[i])∧Cl w w') (fun j=>set.length-j) zk 0 ⟨zo,fun k hk=>by omega,Cl.refl w⟩ ⟨rfl,trivial⟩ ?_
  rintro j jj w2 ⟨hj,hno,c2⟩;have nj:=C2 (i:=j) zo;refine zR ?_;rw [hset2];apply E.b7<;>intro h
  ·have hj2:j<set.length:=by omega
   have hy:=b6Z hj2;clear h;refine zR ?_;refine zK 7 ?_;refine zR ?_;refine g9 _ (fun w' hw=>W1 ((c2.trans hw).blk hb) rfl rfl) ?_;refine E.y6 (P2.2 ⟨zo,by rw [hsz];omega⟩) (zR ?_)
   refine E.y6 (P2.2 ⟨zo,by rw [hset2];omega⟩) (zR ?_)
   intro w3 c3;rw [hx,hy];refine zR ?_;apply E.b7<;>intro h
   ·have e:=c5N h;refine zR ?_;refine ⟨C3 ?_,c2.trans c3⟩;rw [c08];rfl;rw [c4V hlt,e];exact b5s.2 (List.getElem_mem hj2)
   ·have e:=c5M h;refine zR ?_;refine ⟨j+1,⟨m7 nj,trivial⟩,⟨zo,fun k hk=>?_,c2.trans c3⟩,zo⟩;by_cases e2:k<j
    ·exact hno k e2
    ·have:k=j:=by omega
     subst this;rw [List.getElem?_eq_getElem hj2];intro e3;injection e3 with e3;exact e e3.symm
  ·refine zR ?_;refine ⟨C3 ?_,c2⟩;rw [c1i];rfl;rw [c4V hlt];rw [Bool.eq_false_iff];intro hc;obtain ⟨k,hk⟩:=List.mem_iff_getElem?.1 (b5s.1 hc);exact hno k (by have:=(List.getElem?_eq_some_iff.1 hk).1;omega) hk
 ·refine zR ?_;exact ⟨C3 (by rw [c1i (c4r zo _)];rfl),Cl.refl _⟩
theorem b5z (c:UInt8) (r:Tx):a1K (c::r)=if X5 c3v c then a1K r else if (c::r).take 4=epS then a1K (r.drop 3) else false:=by rw [a1K]
theorem c5O {c:UInt8}:X5 c3v c=true↔c=43∨c=35∨c=33∨c=63:=by rw [b5s];simp [c3v]
theorem c3l {s:Tx} {i:Nat} (hi:i≤s.length) (hs:s.length≤100000) (w:World):Calls G.P 348 #[s8 s,.int .i64 i] w (D5 (.bool (a1K (s.drop i))) w):=by
 have hsz:(tx s).size=s.length:=C9 _;refine zN Tryz.func348 ?_;refine zR ?_;refine A9 (σ:=Nat) [1,4] 5 (fun j=>[(1,.int .i64 j)]) (fun j w'=>j≤s.length∧a1K (s.drop j)=a1K (s.drop i)∧w'=w) (fun j=>s.length-j) zk i ⟨hi,rfl,rfl⟩ ⟨rfl,trivial⟩ ?_;rintro j jj w2 ⟨hj,ht,rfl⟩;have nj:=C2 (i:=j) zo;refine zR ?_;rw [hsz];apply E.b7<;>intro h
 ·have hlt:j<s.length:=by omega
  have hx:=b6Z hlt;clear h;have hd:s.drop j=s[j]::s.drop (j+1):=List.drop_eq_getElem_cons hlt;rw [hd,b5z] at ht;have n4:IntKind.i64.wrap ((j:Int)+4)=((j+4:Nat):Int):=by rw [g7 zo zo];push_cast;omega
  have yes:(s[j]=43∨s[j]=35∨s[j]=33∨s[j]=63)→a1K (s.drop (j+1))=a1K (s.drop i):=fun h=>by rw [← ht,if_pos (c5O.2 h)]
  refine zR ?_;refine E.y6 (P2.2 ⟨zo,by rw [hsz];omega⟩) ?_
  have lit:∀ n:UInt8,(((tx s).get! (j:Int).toNat).toNat:Int)=(n.toNat:Nat)→s[j]=n:=fun n h=>by rw [hx] at h;exact c5N h
  have nlit:∀ n:UInt8,¬ (((tx s).get! (j:Int).toNat).toNat:Int)=(n.toNat:Nat)→s[j]≠n:=fun n h=>by rw [hx] at h;exact c5M h
  have gd:inB (j:Int) (tx s).size=true:=P2.2 ⟨zo,by rw [hsz];omega⟩
  refine zR ?_;apply E.b7<;>intro h
  ·have h1:=lit 43 h;refine zR ?_;exact ⟨j+1,⟨m7 nj,trivial⟩,⟨zo,yes (.inl h1),rfl⟩,zo⟩
  have h1:=nlit 43 h;clear h;refine zR ?_;refine E.y6 gd (zR ?_);apply E.b7<;>intro h
  ·have h2:=lit 35 h;refine zR ?_;exact ⟨j+1,⟨m7 nj,trivial⟩,⟨zo,yes (.inr (.inl h2)),rfl⟩,zo⟩
  have h2:=nlit 35 h;clear h;refine zR ?_;refine E.y6 gd (zR ?_);apply E.b7<;>intro h
  ·have h3:=lit 33 h;refine zR ?_;exact ⟨j+1,⟨m7 nj,trivial⟩,⟨zo,yes (.inr (.inr (.inl h3))),rfl⟩,zo⟩
  have h3:=nlit 33 h;clear h;refine zR ?_;refine E.y6 gd (zR ?_);apply E.b7<;>intro h
  ·have h4:=lit 63 h;refine zR ?_;exact ⟨j+1,⟨m7 nj,trivial⟩,⟨zo,yes (.inr (.inr (.inr h4))),rfl⟩,zo⟩
  have h4:=nlit 63 h;clear h;rw [if_neg (fun e=>by rcases c5O.1 e with e | e | e | e<;>contradiction)] at ht
  refine zR ?_;rw [hsz,n4];apply E.b7<;>intro h
  ·have h5:j+4≤s.length:=by omega
   clear h;refine zR ?_;rw [n4];refine a0J ((s.drop j).take 4) rfl rfl rfl rfl zo zo zo ?_ ?_
   ·rw [show ((j+4:Nat):Int).toNat-(j:Int).toNat=4 by omega,Int.toNat_natCast]
   refine zR ?_;apply E.b7<;>intro h
   ·have e:(s.drop j).take 4=epS:=a0p.1 h;rw [← hd,if_pos e] at ht;refine zR ?_;exact ⟨j+4,⟨m7 n4,trivial⟩,⟨h5,by rw [← ht,List.drop_drop],rfl⟩,zo⟩
   ·have e:¬ (s.drop j).take 4=epS:=fun e=>h (by rw [e];rfl)
    rw [← hd,if_neg e] at ht;refine zR ?_;exact ⟨m8 ht,rfl⟩
  ·have e:¬ (s.drop j).take 4=epS:=fun e=>by
    have:=congrArg List.length e;rw [List.length_take,List.length_drop] at this;have e2:epS.length=4:=rfl;omega
   rw [← hd,if_neg e] at ht;refine zR ?_;exact ⟨m8 ht,rfl⟩
 ·have e:j=s.length:=by omega
  rw [e,List.drop_length,b1F] at ht;refine zR ?_;exact ⟨m8 ht,rfl⟩
set_option maxHeartbeats 1000000 in
theorem b5d (s0:Tx) (hs:s0.length≤1000) (w:World):Calls G.P 190 #[s8 s0,s8 [32]] w (fun r w'=>∃ v,r = .returned v∧Row 9 1 a4E w.heap.size w' v (a1M 32 [] s0)∧Cl w w'):=by
 have h1:(tx [32]).size=1:=C9 _;refine zN Tryz.func190 ?_;refine zR ?_;refine A9 (σ:=List Tx×Value×Tx) [0,4,5,8] 9 (fun s=>[(0,s8 s.2.2),(5,s.2.1)]) (fun s w'=>Cl w w'∧Row 9 1 a4E w.heap.size w' s.2.1 s.1∧s.1++a1M 32 [] s.2.2=a1M 32 [] s0∧s.1.length+s.2.2.length≤1000) (fun s=>s.2.2.length) zk
  ([],.slice none 0 0,s0) ⟨Cl.refl _,Row.nil _ _,rfl,by simpa using hs⟩ ⟨rfl,rfl,trivial⟩ ?_
 rintro ⟨l,v,s⟩ j w1 ⟨c1,hr,he,hl⟩;simp only at c1 hr he hl ⊢;obtain ⟨a,c,rfl,_⟩:=hr.form;refine zR ?_;refine d9 (a56 32 s zo _) (zR ?_);by_cases hm:(32:UInt8)∈s
 ·have hix:ixZ 32 s=(s.idxOf 32:Int):=if_pos hm;obtain ⟨e1,e2,e3⟩:=a5A hm;rw [b8U hm] at he;rw [hix];refine zR ?_;refine b0P (l:=s) (s.take (s.idxOf 32)) rfl rfl rfl zo zo (by rw [Int.toNat_natCast]) (zR ?_)
  refine E6 elStr [s8 (s.take (s.idxOf 32))] (by rw [Array.toList_map];rfl) (by simp [Value.cells,s8]) rfl zd zd ?_
  have cb:=Cl.alloc w1 (.cells (([s8 (s.take (s.idxOf 32))]:List Value).flatMap fun v=>v.cells.toList).toArray 9);have hbx:Row 9 1 a4E w1.heap.size (w1.alloc (.cells (([s8 (s.take (s.idxOf 32))]:List Value).flatMap fun v=>v.cells.toList).toArray 9)) (.slice (some ⟨w1.heap.size,0,none⟩) 1 1) [s.take (s.idxOf 32)]:=H9 B5 w1 [s.take (s.idxOf 32)] (Nat.le_of_ble_eq_true rfl) _ rfl;generalize w1.alloc (.cells (([s8 (s.take (s.idxOf 32))]:List Value).flatMap fun v=>v.cells.toList).toArray 9)=w2 at *;refine zR ?_;refine J2 elStr (l:=l) (news:=[s.take (s.idxOf 32)]) rfl (hr.step cb) rfl hbx B5 a8S (by simp only [List.length_cons,List.length_nil];omega) zd (c1.trans cb).size fun v' w3 hr' hg=>?_
  have c3:Cl w w3:=hg.toCl rfl (c1.trans cb);obtain ⟨a9,c9,rfl,_⟩:=hr'.form;refine zR ?_;rw [h1];have en:IntKind.i64.wrap ((s.idxOf 32:Int)+((1:Nat):Int))=((s.idxOf 32+1:Nat):Int):=by rw [g7 zo zo];push_cast;rfl
  rw [en];refine a79 (l:=s) (s.drop (s.idxOf 32+1)) rfl rfl rfl zo zo (by rw [Int.toNat_natCast]) (zR ?_)
  exact ⟨(l++[s.take (s.idxOf 32)],_,s.drop (s.idxOf 32+1)),⟨rfl,rfl,trivial⟩,⟨c3,hr',by simpa using he,by simp;omega⟩,by simp;omega⟩
 ·have hix:ixZ 32 s=-1:=if_neg hm;rw [a35 hm,List.nil_append] at he;rw [hix];refine zR ?_;refine E6 elStr [s8 s] (by rw [Array.toList_map];rfl) (by simp [Value.cells,s8]) rfl zd zd ?_
  have cb:=Cl.alloc w1 (.cells (([s8 s]:List Value).flatMap fun v=>v.cells.toList).toArray 9);have hbx:Row 9 1 a4E w1.heap.size (w1.alloc (.cells (([s8 s]:List Value).flatMap fun v=>v.cells.toList).toArray 9)) (.slice (some ⟨w1.heap.size,0,none⟩) 1 1) [s]:=H9 B5 w1 [s] (Nat.le_of_ble_eq_true rfl) _ rfl;generalize w1.alloc (.cells (([s8 s]:List Value).flatMap fun v=>v.cells.toList).toArray 9)=w2 at *;refine zR ?_;refine J2 elStr (l:=l) (news:=[s]) rfl (hr.step cb) rfl hbx B5 a8S (by simp only [List.length_cons,List.length_nil];omega) zd (c1.trans cb).size fun v' w3 hr' hg=>?_
  have c3:Cl w w3:=hg.toCl rfl (c1.trans cb);obtain ⟨a9,c9,rfl,_⟩:=hr'.form;refine zR ?_;exact ⟨_,rfl,by rw [← he];exact hr',c3⟩
theorem a5a {p:A3} (hh:p.half.toNat<10000000) (hf:p.full.toNat<10000000):(fenT p).length≤1000:=by
 have h1:=Y0 p 8;have h2:=a3s p.turn;have h3:=a0Y p.castle;have h4:=a68 p.ep;have h5:=a2t 7 p.half.toNat zd zo;have h6:=a2t 7 p.full.toNat zd zo;unfold fenT;simp only [List.length_append,List.length_cons,List.length_nil];omega
set_option maxHeartbeats 1000000 in
theorem b1u {p:A3} (hI:B7 p) (hh:p.half<10000000) (hf:p.full<10000000) (w:World) (hT:C1 w) (hS:Spc w) :
  Calls G.P 134 #[s8 (fenT p)] w (fun r w'=>Cl w w'∧∃ P b,r = .returned (.tuple #[.pointer (some ⟨P,0,none⟩),.nilIface])∧w.heap.size≤P∧w.heap.size≤b
  ∧w'.heap[P]?=some (.cells (hdA b (A8 p false) (.slice none 0 0)) 173 (0,0))∧w'.heap[b]?=some (.cells (mbA (mbOf p)) 237 (0,0))):=by
 have hh0:=hI.h0;have hf1:=hI.f1;have hlen:=a5a (p:=p) zo zo;have hparts:=b4P p;have hep:=c2p hI.pass;have ht:=hI.turn;have hA1:=fun w=>b7g p.half.toNat zo w;have hA2:=fun w=>b7g p.full.toNat zo w;rw [Int.toNat_of_nonneg hh0] at hA1;rw [Int.toNat_of_nonneg (by omega:0≤p.full)] at hA2
 have hTr:=b4Z hI.pc zo w hS;generalize fenT p=T at *;refine zN Tryz.func134 ?_;refine zR ?_;refine m9 hTr fun w1 c1=>zR ?_;refine o8 (b5d T hlen w1) ?_;rintro e w2 ⟨v,rfl,hr,c2⟩;refine ⟨_,rfl,?_⟩;rw [hparts] at hr;obtain ⟨a,c,rfl,ha⟩:=hr.form;obtain ⟨g,rfl⟩:=ha (by simp)
 have c02:=c1.trans c2;have hld:=fun (i:Nat) (hi:i<6) (w':World) (hc:Cl w2 w') {v:Value} (hv:(a4E ([boardT p 8,a5Z p.turn,castT p.castle,epT p.ep,dec p.half.toNat,dec p.full.toNat][i]'(by simpa using hi)))[0]?=some v)=>J8 (t:=9) (hr.step hc) B5 i 0 (by simpa using hi) zd hv (show i=i*1+0 by omega) rfl
 have hl0:=fun w' hc=>hld 0 zd w' hc (v:=s8 (boardT p 8)) rfl;have hl1:=fun w' hc=>hld 1 zd w' hc (v:=s8 (a5Z p.turn)) rfl;have hl2:=fun w' hc=>hld 2 zd w' hc (v:=s8 (castT p.castle)) rfl;have hl3:=fun w' hc=>hld 3 zd w' hc (v:=s8 (epT p.ep)) rfl;have hl4:=fun w' hc=>hld 4 zd w' hc (v:=s8 (dec p.half.toNat)) rfl;have hl5:=fun w' hc=>hld 5 zd w' hc (v:=s8 (dec p.full.toNat)) rfl;clear hld hr hparts ha;refine zR ?_;refine d7 _ (hl0 _ (Cl.refl _)) (zR ?_);refine o8 (b2I hI w2 (hT.cl c02)) ?_;rintro e w3 ⟨c3,b,rfl,sb,hB⟩;refine ⟨_,rfl,?_⟩;refine zR ?_;refine I1 true (F8 rfl) (zR ?_);refine d7 _ (hl1 _ c3) (zR ?_);refine d9 (b4Q p.turn ht _) (zR ?_);refine E.o7 zo (zR ?_);refine d7 _ (hl2 _ c3) (zR ?_);refine m9 (a9O p.castle hI.c0 hI.c1 w3) fun w4 c4=>?_;have c24:=c3.trans c4;refine zR ?_;refine I1 true (F8 rfl) (zR ?_);refine d7 _ (hl3 _ c24) (zR ?_);refine m9 (b7e p.ep (by rcases hep with h | h;exact .inl h;exact .inr ⟨h.1,h.2.1,zo⟩) _) fun w4 c4'=>?_
 have c24:=c24.trans c4';have c4:=c4.trans c4';refine zR ?_;refine I1 true (F8 rfl) (zR ?_);refine d7 _ (hl4 _ c24) (zR ?_);refine m9 (hA1 w4) fun w5 c5=>?_;have c25:=c24.trans c5;refine zR ?_;refine I1 true (F8 rfl) (zR ?_);refine E.o7 zo (zR ?_);repeat (refine E.o7 (show ¬ p.half<0 by omega) ?_;refine zR ?_)
 refine d7 _ (hl5 _ c25) (zR ?_);refine m9 (hA2 w5) fun w6 c6=>?_;have c26:=c25.trans c6;refine zR ?_;refine I1 true (F8 rfl) (zR ?_);refine E.o7 zo (zR ?_);repeat (refine E.o7 (show ¬ p.full<1 by omega) ?_;refine zR ?_)
 refine s9 (hdA b (A8 p false) (.slice none 0 0)) zk (zR ?_);have cF:=Cl.alloc w6 (.cells (hdA b (A8 p false) (.slice none 0 0)) 173);have s06:=(c02.trans c26).size;exact ⟨(c02.trans c26).trans cF,_,b,rfl,s06,by have:=c02.size;omega,q8 _ _,cF.blk (c6.blk (c5.blk (c4.blk hB)))⟩
end
section
open Go Go.RowKit
open E
theorem a9P {p:A3} (hI:Ch.B7 p) (hN:a1z p):Fen p:=⟨hI.pc,hI.c0,hI.c1,hI.h0,by have:=hN.1;omega,by have:=hI.f1;omega,by have:=hN.2;omega⟩
theorem b9d {p:A3} (hI:Ch.B7 p) {m:Mv} (hm:m∈Ch.y8 p):(Ch.made p m).ep≤63:=by
 have hmo:=a0x hI hm;obtain ⟨⟨a0,a1⟩,⟨b0,b1⟩,d0,d1⟩:=hmo;show (if Ch.a0i p m then (m.fr+m.to)/2 else -1)≤63
 split<;>omega
theorem b7m (p:A3) (hI:Ch.B7 p) (hN:Nm p) (m:Mv) (hm:m∈Ch.y8 p) (me:Int) (ou:Tx) (w:World):Calls G.P 40 #[C4 p,G5 m,.int .i64 me,s8 ou] w (K4 (stV (Ch.a7Y p m (me,ou))) w):=by
 have hmo:=a0x hI hm;have hI2:=Ch.B7.made hI hm;have hN2:=hN.made hI m;have hep:=b9d hI hm;have hbt:=b3B ⟨m,Ch.a6V p m,Ch.b33 p m,Ch.b1C p m,Ch.b4g m,Ch.fenT (Ch.made p m),Ch.b7w (Ch.made p m),Ch.made p m,ou,me,Ch.a2b (Ch.made p m)⟩;have hun:Ch.a7Y p m (me,ou)=⟨m,Ch.a6V p m,Ch.b33 p m,Ch.b1C p m,Ch.b4g m,Ch.fenT (Ch.made p m),Ch.b7w (Ch.made p m),Ch.made p m,ou,me,Ch.a2b (Ch.made p m)⟩:=by unfold Ch.a7Y;rfl
 have hst:stV (Ch.a7Y p m (me,ou)) = .agg (stL ⟨m,Ch.a6V p m,Ch.b33 p m,Ch.b1C p m,Ch.b4g m,Ch.fenT (Ch.made p m),Ch.b7w (Ch.made p m),Ch.made p m,ou,me,Ch.a2b (Ch.made p m)⟩).toArray:=by rw [hun];rfl
 have hone:=a4g (Ch.a7Y p m (me,ou));have hlen:=U8 (Ch.a7Y p m (me,ou));refine zN Tryz.func40 ?_;refine zG ?_;generalize hW:(w.alloc (.cells (o9 p) 24)).alloc (.cells (K2 m) 36)=W0;have hP:∀ w',Cl W0 w'→w'.heap[w.heap.size]?=some (.cells (o9 p) 24 (0,0)):=fun w' h=>hP2 (hW▸h);have hM:∀ w',Cl W0 w'→w'.heap[(w.alloc (.cells (o9 p) 24)).heap.size]?=some (.cells (K2 m) 36 (0,0)):=fun w' h=>hM2 (hW▸h);have hE:∀ w',Cl W0 w'→Cl w w':=fun w' h=>hE2 (hW▸h);have z:=Cl.refl W0;obtain ⟨zs,hzs,hz81⟩:=zSt;obtain ⟨zp,hzp,hz69⟩:=b1P;refine t7 zs hzs ?_;have hB:∀ w',Cl (W0.alloc (.cells zs.cells 39)) w'→w'.heap[W0.heap.size]?=some (.cells zs.cells 39 (0,0)):=fun w' h=>h.blk (q8 _ _);have c1:Cl W0 (W0.alloc (.cells zs.cells 39)):=Cl.alloc _ _;generalize W0.alloc (.cells zs.cells 39)=w1 at *;refine zR ?_;refine d7 _ (y7 (hP _ c1)) (zR ?_);refine d7 _ (P9 (hM _ c1)) (zR ?_);refine m9 (a5l p m hI.pc hmo hI.turn hI.c0 hI.c1 hI.h0 hN.nums.1 (by have:=hI.f1;omega) hN.nums.2 _) fun w2 c2=>zR ?_
 refine t7 zp hzp (zR ?_);refine J6 (q8 _ _) (X0 (Ch.made p m)) rfl a13 (B6 _) (one_pos _) (by rw [hz69];omega) (fun w3 u3=>?_)
 have hQ:w3.heap[w2.heap.size]?=some (.cells (o9 (Ch.made p m)) 24 (0,0)):=by
  rw [u3.at_,C5 _ _ (by rw [B6,hz69])];rfl
 have c13:Cl w1 w3:=u3.cl (c2.trans (Cl.alloc _ _)) c2.size;have c3:Cl W0 w3:=c1.trans c13;clear u3;have hB3:=hB _ c13;have q1:=fun w=>c0r p hI hN m hm w;have q2:=fun w=>a88 p hI hN m hm w;have q3:=fun w=>b45 p hI hN m hm w;have q4:=fun w=>b40 m hmo w;have q5:=fun w=>a0Z _ (a9P hI2 hN2) w;have q6:=fun w=>b2n _ (a9P hI2 hN2) hI2.turn hep w;have q7:=fun w=>b2d _ hI2 hN2 w;have hbig:W0.heap.size<w2.heap.size:=by
  have:=(Array.getElem?_eq_some_iff.1 (hB _ c2)).1;exact this
 rw [hun] at hone hlen;simp only at hbt;clear hun;generalize stL ⟨m,Ch.a6V p m,Ch.b33 p m,Ch.b1C p m,Ch.b4g m,Ch.fenT (Ch.made p m),Ch.b7w (Ch.made p m),Ch.made p m,ou,me,Ch.a2b (Ch.made p m)⟩=S at *;generalize Ch.made p m=q at *;generalize Ch.a6V p m=Q1 at *;generalize Ch.b33 p m=Q2 at *;generalize Ch.b1C p m=Q3 at *;generalize Ch.b4g m=Q4 at *;generalize Ch.fenT q=Q5 at *;generalize Ch.b7w q=Q6 at *;generalize Ch.a2b q=Q7 at *;refine zR ?_;refine zK 22 ?_;refine zR ?_;refine g9 _ (fun w hw=>P9 (hM _ (c3.trans hw))) (zR ?_);refine g9 _ (fun w hw=>y7 (hP _ (c3.trans hw))) (zR ?_);refine g9 _ (fun w hw=>P9 (hM _ (c3.trans hw))) (zR ?_);refine C7 (.int .i64 Q1) (fun _ _ h=>h.trans) (fun w _=>q1 w) (zR ?_);refine g9 _ (fun w hw=>y7 (hP _ (c3.trans hw))) (zR ?_);refine g9 _ (fun w hw=>P9 (hM _ (c3.trans hw))) (zR ?_);refine C7 (s8 Q2) (fun _ _ h=>h.trans) (fun w _=>q2 w) (zR ?_);refine g9 _ (fun w hw=>y7 (hP _ (c3.trans hw))) (zR ?_);refine g9 _ (fun w hw=>P9 (hM _ (c3.trans hw))) (zR ?_);refine C7 (s8 Q3) (fun _ _ h=>h.trans) (fun w _=>q3 w) (zR ?_);refine g9 _ (fun w hw=>P9 (hM _ (c3.trans hw))) (zR ?_);refine C7 (s8 Q4) (fun _ _ h=>h.trans) (fun w _=>q4 w) (zR ?_);refine g9 _ (fun w hw=>y7 (hw.blk hQ)) (zR ?_);refine C7 (s8 Q5) (fun _ _ h=>h.trans) (fun w _=>q5 w) (zR ?_);refine g9 _ (fun w hw=>y7 (hw.blk hQ)) (zR ?_);refine C7 (s8 Q6) (fun _ _ h=>h.trans) (fun w _=>q6 w) (zR ?_);refine g9 _ (fun w hw=>y7 (hw.blk hQ)) (zR ?_);refine g9 _ (fun w hw=>y7 (hw.blk hQ)) (zR ?_);refine C7 (.int .i64 Q7) (fun _ _ h=>h.trans) (fun w _=>q7 w) (zR ?_);refine b1Q S.toArray hbt (zR ?_);intro w4 c4;refine zR ?_;refine J6 (c4.blk hB3) S rfl c1T hlen hone (by rw [hz81];omega) (fun w5 u5=>?_)
 have hR:w5.heap[W0.heap.size]?=some (.cells S.toArray 39 (0,0)):=by
  rw [u5.at_,C5 _ _ (by rw [hlen,hz81])]
 have c5:Cl w w5:=u5.cl (hE _ (c3.trans c4)) (hE _ z).size;refine zR ?_;refine d7 (.agg S.toArray) ?_ ?_
 ·have:=ldA (t:=39) (o:=0) (z:=81) hR rfl (by simp [hlen])
  rw [show S.toArray.extract 0 (0+81)=S.toArray by
   have:S.toArray.size=81:=by simp [hlen]
   rw [← this];simp] at this
  exact this
 refine zR ?_;exact ⟨by rw [hst],c5⟩
end
end Go.Proofs.YtpclhlhcegcflaaGreatDoor
