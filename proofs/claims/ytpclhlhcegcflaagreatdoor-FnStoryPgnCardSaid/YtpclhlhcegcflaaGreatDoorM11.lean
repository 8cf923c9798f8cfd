/- One part of the proof: Pk14. -/
import Derived.Test.YtpclhlhcegcflaaGreatDoorM10
namespace Go.Proofs.YtpclhlhcegcflaaGreatDoor
set_option maxRecDepth 100000
set_option linter.unusedSimpArgs false
set_option linter.unusedVariables false
section
open Go Go.RowKit
open E
open Ch Bb
theorem z2:∃ z,(G.P.info? 294).bind (·.zero)=some z∧z.cells.size=22:=a0C zk
structure CsI (w0:World) (P b A:Nat) (h:Hd) (cv:Value) (B:MB) (Z:Array Value) (l:List PM) (w:World):Prop where
 hd:w.heap[P]?=some (.cells (hdA b h cv) 173 (0,0))
 bd:w.heap[b]?=some (.cells (H3 B) 237 (0,0))
 arr:w.heap[A]?=some (.cells (L8 Z 0 (l.flatMap D4)) 294 (0,0))
 cl:Cl w0 w
 tab0:D5 w0
 hP:P<w0.heap.size
 hb:b<w0.heap.size
 hA:w0.heap.size≤A
section csi
variable {w0 w w':World} {P b M A:Nat} {h:Hd} {cv:Value} {B:MB} {Z:Array Value} {x:PM} {l:List PM}
theorem CsI.tab (hI:CsI w0 P b A h cv B Z l w):D5 w:=hI.tab0.cl hI.cl
theorem CsI.lt (hI:CsI w0 P b A h cv B Z l w):P<w.heap.size∧b<w.heap.size∧A<w.heap.size :=
 ⟨(yh.1 hI.hd).1,(yh.1 hI.bd).1,(yh.1 hI.arr).1⟩
theorem CsI.step (hI:CsI w0 P b A h cv B Z l w) (c:Cl w w'):CsI w0 P b A h cv B Z l w' :=
 ⟨c.blk hI.hd,c.blk hI.bd,c.blk hI.arr,hI.cl.trans c,hI.tab0,hI.hP,hI.hb,hI.hA⟩
theorem CsI.far (hI:CsI w0 P b A h cv B Z l w) (n:Tn M w w') (h1:P≠M) (h2:b≠M) (h3:A≠M) (h4:w0.heap.size≤M):CsI w0 P b A h cv B Z l w' :=
 ⟨n.blk hI.hd h1,n.blk hI.bd h2,n.blk hI.arr h3,n.toCl hI.cl h4,hI.tab0,hI.hP,hI.hb,hI.hA⟩
theorem CsI.push (hI:CsI w0 P b A h cv B Z l w) (u:Upd w A (.cells (L8 (L8 Z 0 (l.flatMap D4)) (l.length*11) (D4 x)) 294 (0,0)) w'):CsI w0 P b A h cv B Z (l++[x]) w':=by
 have h1:=hI.hP;have h2:=hI.hb;have h4:=hI.hA;have n:=Tn.upd u;have hz:L8 Z 0 ((l++[x]).flatMap D4)=L8 (L8 Z 0 (l.flatMap D4)) (l.length*11) (D4 x):=by
  rw [x9,a89,a3b,yW];simp
 exact ⟨n.blk hI.hd zo,n.blk hI.bd zo,by rw [hz];exact u.at_,n.toCl hI.cl h4,hI.tab0,h1,h2,h4⟩
theorem b0R {o:Nat} {K:World→Prop} (hS:CsI w0 P b A h cv B Z l w) (hz:Z.size=22) (hl:l.length<2) (ho:o=l.length*11)
  (hk:∀ w',CsI w0 P b A h cv B Z (l++[x]) w'→K w'):a0i G.P w 141 ⟨A,o,none⟩ (.agg (E8 (E0 x))) K:=by
 subst ho;exact K9 hS.arr (D4 x) rfl a1I rfl (F8 x) (by rw [a0a,hz];omega) fun w' u=>hk w' (hS.push u)
end csi
theorem c3s (p:l9) {a b:Nat} (ha:a<64) (hb:b<64):(Bb.not (T9 p) &&& (D6 a ||| D6 b)=0)↔(sq p a=0∧sq p b=0):=by
 rw [Nat.and_or_distrib_left,Nat.or_eq_zero_iff,a3c,a3c,E7 _ ha,E7 _ hb,a0c p ha,a0c p hb];simp
theorem c4J (p:l9) {a b c:Nat} (ha:a<64) (hb:b<64) (hc:c<64):(Bb.not (T9 p) &&& (D6 a ||| D6 b ||| D6 c)=0)↔(sq p a=0∧sq p b=0∧sq p c=0):=by
 rw [Nat.and_or_distrib_left,Nat.or_eq_zero_iff,c3s p ha hb,a3c,E7 _ hc,a0c p hc];simp [and_assoc]
def a8D (p:l9) (ck:Bool) (r a b:Nat):Bool:=U2 p.castle r&&(decide (Bb.not (T9 p) &&& (D6 a ||| D6 b)=0)&&(!([a,b]:List Nat).any ((A4 p).att (p.turn+1)) && !ck))
def a8E (p:l9) (ck:Bool) (r a b c:Nat):Bool:=U2 p.castle r&&(decide (Bb.not (T9 p) &&& (D6 a ||| D6 b ||| D6 c)=0)&&(!([b,c]:List Nat).any ((A4 p).att (p.turn+1)) && !ck))
theorem c4K {p:l9} (hI:D0 p) (ht:p.turn=0):Q8 p 0=a8D p (o5 p) 0 5 6:=by
 unfold Q8 a8D;rw [yv];have e:=fun {a:Nat} (h:a<64)=>a81 hI.pc (c:=p.turn) (.inl ht) h;simp only [List.any_cons,List.any_nil,e (show 5<64 by decide),e (show 6<64 by decide),c3s p (show 5<64 by decide) (show 6<64 by decide)]
 rw [show A2 ((0:Nat):Int)=4 from rfl,show C0 ((0:Nat):Int)=7 from rfl];simp [and_assoc,and_left_comm]
theorem c4L {p:l9} (hI:D0 p) (ht:p.turn=0):Q8 p 1=a8E p (o5 p) 1 1 2 3:=by
 unfold Q8 a8E;rw [yv];have e:=fun {a:Nat} (h:a<64)=>a81 hI.pc (c:=p.turn) (.inl ht) h;simp only [List.any_cons,List.any_nil,e (show 2<64 by decide),e (show 3<64 by decide),c4J p (show 1<64 by decide) (show 2<64 by decide) (show 3<64 by decide)]
 rw [show A2 ((1:Nat):Int)=4 from rfl,show C0 ((1:Nat):Int)=0 from rfl];simp;constructor
 ·rintro ⟨⟨⟨⟨⟨⟨h1,h2⟩,h3⟩,h4⟩,h5⟩,h6⟩,h7⟩;exact ⟨h1,⟨h4,h3,h2⟩,⟨h6,h5⟩,h7⟩
 ·rintro ⟨h1,⟨h4,h3,h2⟩,⟨h6,h5⟩,h7⟩;exact ⟨⟨⟨⟨⟨⟨h1,h2⟩,h3⟩,h4⟩,h5⟩,h6⟩,h7⟩
theorem c4M {p:l9} (hI:D0 p) (ht:p.turn=1):Q8 p 2=a8D p (o5 p) 2 61 62:=by
 unfold Q8 a8D;rw [yv];have e:=fun {a:Nat} (h:a<64)=>a81 hI.pc (c:=p.turn) (.inr ht) h;simp only [List.any_cons,List.any_nil,e (show 61<64 by decide),e (show 62<64 by decide),c3s p (show 61<64 by decide) (show 62<64 by decide)]
 rw [show A2 ((2:Nat):Int)=60 from rfl,show C0 ((2:Nat):Int)=63 from rfl];simp [and_assoc,and_left_comm]
theorem c4N {p:l9} (hI:D0 p) (ht:p.turn=1):Q8 p 3=a8E p (o5 p) 3 57 58 59:=by
 unfold Q8 a8E;rw [yv];have e:=fun {a:Nat} (h:a<64)=>a81 hI.pc (c:=p.turn) (.inr ht) h;simp only [List.any_cons,List.any_nil,e (show 58<64 by decide),e (show 59<64 by decide),c4J p (show 57<64 by decide) (show 58<64 by decide) (show 59<64 by decide)]
 rw [show A2 ((3:Nat):Int)=60 from rfl,show C0 ((3:Nat):Int)=56 from rfl];simp;constructor
 ·rintro ⟨⟨⟨⟨⟨⟨h1,h2⟩,h3⟩,h4⟩,h5⟩,h6⟩,h7⟩;exact ⟨h1,⟨h4,h3,h2⟩,⟨h6,h5⟩,h7⟩
 ·rintro ⟨h1,⟨h4,h3,h2⟩,⟨h6,h5⟩,h7⟩;exact ⟨⟨⟨⟨⟨⟨h1,h2⟩,h3⟩,h4⟩,h5⟩,h6⟩,h7⟩
def a47 (p:l9) (r:Nat):PM:=⟨p8 r,(if r%2=0 then 1 else 2) ||| tg p (p8 r)⟩
def b3M (p:l9) (r t:Nat):PM:=⟨p8 r,t ||| tg p (p8 r)⟩
theorem a2c {p:l9} (hI:D0 p) {r:Nat} (hr:r=(2*p.turn).toNat∨r=(2*p.turn).toNat+1) (hm:Q8 p r=true)
  {w:World} {P b M:Nat} {c:Bool} {cv:Value} (hA:AtI w P b M (E6 p c) cv (A4 p) (E0 ⟨p8 r,if r%2=0 then 1 else 2⟩) w) :
  Calls G.P 253 #[.pointer (some ⟨M,0,none⟩),.pointer (some ⟨P,0,none⟩)] w (fun r' w'=>r' = .returned (.tuple #[])∧AtI w P b M (E6 p c) cv (A4 p) (E0 (a47 p r)) w'):=by
 have ht:=hI.turn;have k0:=hI.king 0 (.inl rfl);have k1:=hI.king 1 (.inr rfl);have e0:(A4 p).wk=z8 p 0:=rfl;have e1:(A4 p).bk=z8 p 1:=rfl;obtain ⟨r4,rt,rb,hc⟩:=J7 hI (r:=r) (m:=p8 r) ⟨hr,((a79 hI hr).1 hm).1,rfl⟩;have hrange:0≤(p8 r).fr∧(p8 r).fr≤63∧0≤(p8 r).to∧(p8 r).to≤63:=by
  have:∀ r:Nat,r<4→0≤(p8 r).fr∧(p8 r).fr≤63∧0≤(p8 r).to∧(p8 r).to≤63:=by decide
  exact this r r4
 have hw:(if C0 (r:Int)<A2 r then (-1:Int) else 1)=1↔r%2=0:=by
  have:∀ r:Nat,r<4→((if C0 (r:Int)<A2 r then (-1:Int) else 1)=1↔r%2=0):=by decide
  exact this r r4
 refine (a9R (d:=E0 ⟨p8 r,if r%2=0 then 1 else 2⟩) (h:=E6 p c) (by show p.turn+1=1∨p.turn+1=2;omega) (by rw [e0];have:=k0.1;omega) (by rw [e0];exact k0.2.1) (by rw [e1];have:=k1.1;omega) (by rw [e1];exact k1.2.1) hrange.1 hrange.2.1 hrange.2.2.1 hrange.2.2.2 (by show (if r%2=0 then 1 else 2)<64;split<;>decide) (.inl rfl) w hA).mono ?_
 rintro r' w' ⟨h1,h2⟩;refine ⟨h1,?_⟩;have:=b2i hI hc;rw [show (if (if C0 (r:Int)<A2 r then (-1:Int) else 1)=1 then 1 else 2:Nat)=if r%2=0 then 1 else 2 by simp only [hw]] at this
 have e:(E0 (a47 p r))={ E0 ⟨p8 r,if r%2=0 then 1 else 2⟩ with tags:=b3H (A4 p) (p.turn+1) p.ep (p8 r) (if r%2=0 then 1 else 2) }:=by rw [this];rfl
 rw [e];exact h2
theorem b8F {p:l9} {ck:Bool} (hck:o5 p=true→ck=true) {r a b:Nat} (h:Q8 p r=a8D p (o5 p) r a b):V6 p ck r=a8D p ck r a b:=by
 unfold V6;rw [h];cases ck
 ·cases e:o5 p
  ·rw [Bool.not_false,Bool.and_true]
  ·exact absurd (hck e) zd
 ·unfold a8D;simp
theorem b8G {p:l9} {ck:Bool} (hck:o5 p=true→ck=true) {r a b c:Nat} (h:Q8 p r=a8E p (o5 p) r a b c):V6 p ck r=a8E p ck r a b c:=by
 unfold V6;rw [h];cases ck
 ·cases e:o5 p
  ·rw [Bool.not_false,Bool.and_true]
  ·exact absurd (hck e) zd
 ·unfold a8E;simp
theorem a5C {p:l9} {ck:Bool} {r:Nat} (h:V6 p ck r=true):Q8 p r=true:=by
 unfold V6 at h;rw [zP] at h;exact h.1
theorem b2q (p:l9) (ck:Bool):a3i p ck=(if V6 p ck (2*p.turn).toNat then [b3M p (2*p.turn).toNat 1] else [])++(if V6 p ck ((2*p.turn).toNat+1) then [b3M p ((2*p.turn).toNat+1) 2] else []):=by
 unfold a3i V6;cases ck
 ·simp [a0V,b3M]
 ·simp
theorem b8H {p:l9} {ck:Bool} (ht:p.turn=0):a3i p ck=(if V6 p ck 0 then [a47 p 0] else [])++(if V6 p ck 1 then [a47 p 1] else []):=by
 rw [b2q,ht];rfl
theorem b8I {p:l9} {ck:Bool} (ht:p.turn=1):a3i p ck=(if V6 p ck 2 then [a47 p 2] else [])++(if V6 p ck 3 then [a47 p 3] else []):=by
 rw [b2q,ht];rfl
theorem c1h (w:World) (x y:Nat):a06 (w.alloc (.cells (([Value.int .i8 x,.int .i8 y]:List Value).flatMap fun v=>v.cells.toList).toArray 138)) w.heap.size 2 (fun i=>.int .i8 (([x,y]:List Nat).getD i 0:Nat)) :=
 ⟨_,138,(0,0),d9 _ _,rfl,fun i hi=>by
  rcases (by omega:i=0∨i=1) with rfl|rfl<;>simp [Value.cells]⟩
theorem a6v {a:Nat} (h:a=0):(a:Int)=0:=by rw [h];rfl
theorem b5q {a:Nat} (h:a≠0):¬ (a:Int)=0:=by omega
theorem zD {A B:Prop} (h:B) (e:B→A:=by (intro h;refine zR ?_;(repeat ((first|refine And.intro ?_ trivial|(with_reducible refine And.intro (cA.trans cC) ?_)|(with_reducible refine And.intro cS ?_)|(with_reducible refine And.intro cA ?_)|refine zI ?_|refine l8 (s8 _ zd _) ?_|refine E.z6 (a6v hoc) ?_|refine a8z hSC.hd ?_);refine zR ?_));exact h)):A:=e h
def zt0:E.Alt:=(.cons 17 (.cons 18 (.cons 19 (.cons 20 (.cons 21 (.cons 22 (.cons 23 (.cons 24 (.cons 25 (.cons 26 (.cons 27 (.cons 28 (.cons 29 (.cons 30 (.cons 31 (.cons 32 (.cons 33 (.cons 34 (.cons 35 (.cons 36 (.cons 37 .done .nil) .nil) .nil) .nil) .nil) .nil) .nil) .nil) .nil) .nil) .nil) (.cons 27 (.cons 26 (.cons 28 (.cons 29 (.cons 30 (.cons 31 (.cons 32 (.cons 33 (.cons 34 (.cons 35 (.cons 36 (.cons 37 .done .nil) .nil) .nil) .nil) .nil) .nil) .nil) .nil) .nil) .nil) .nil) .nil)) .nil) .nil) .nil) .nil) .nil) .nil) (.cons 20 (.cons 19 (.cons 21 (.cons 22 (.cons 23 (.cons 24 (.cons 25 (.cons 26 (.cons 27 (.cons 28 (.cons 29 (.cons 30 (.cons 31 (.cons 32 (.cons 33 (.cons 34 (.cons 35 (.cons 36 (.cons 37 .done .nil) .nil) .nil) .nil) .nil) .nil) .nil) .nil) .nil) .nil) .nil) (.cons 27 (.cons 26 (.cons 28 (.cons 29 (.cons 30 (.cons 31 (.cons 32 (.cons 33 (.cons 34 (.cons 35 (.cons 36 (.cons 37 .done .nil) .nil) .nil) .nil) .nil) .nil) .nil) .nil) .nil) .nil) .nil) .nil)) .nil) .nil) .nil) .nil) .nil) .nil) .nil)) .nil) .nil)
def zt1:E.Alt:=(.cons 17 (.cons 18 (.cons 19 (.cons 20 (.cons 21 (.cons 22 (.cons 23 (.cons 24 (.cons 25 (.cons 26 (.cons 27 (.cons 28 (.cons 29 (.cons 30 (.cons 31 (.cons 32 (.cons 33 (.cons 34 (.cons 35 .done .nil) .nil) .nil) .nil) .nil) .nil) .nil) .nil) .nil) .nil) .nil) (.cons 25 (.cons 24 (.cons 26 (.cons 27 (.cons 28 (.cons 29 (.cons 30 (.cons 31 (.cons 32 (.cons 33 (.cons 34 (.cons 35 .done .nil) .nil) .nil) .nil) .nil) .nil) .nil) .nil) .nil) .nil) .nil) .nil)) .nil) .nil) .nil) .nil) .nil) .nil) .nil)
set_option maxHeartbeats 2000000 in
theorem b8J {p:l9} (hI:D0 p) {ck:Bool} (hck:o5 p=true→ck=true) {P b:Nat} {cv:Value} (w:World) (hT:D5 w)
  (hP:w.heap[P]?=some (.cells (hdA b (E6 p ck) cv) 173 (0,0))) (hB:w.heap[b]?=some (.cells (H3 (A4 p)) 237 (0,0))) :
  Calls G.P 200 #[.pointer (some ⟨P,0,none⟩)] w (fun r w'=>Cl w w'∧∃ g,r = .returned (.slice (some ⟨g,0,none⟩) (a3i p ck).length 2)∧w.heap.size≤g∧∀ j v,((a3i p ck).flatMap D4)[j]?=some v→w'.cell? ⟨g,j,none⟩=some v):=by
 have hPs:P<w.heap.size:=(yh.1 hP).1;have hbs:b<w.heap.size:=(yh.1 hB).1;have ht:=hI.turn;have tc:∀ w':World,w'.heap[P]?=some (.cells (hdA b (E6 p ck) cv) 173 (0,0))→Calls G.P 121 #[.pointer (some ⟨P,0,none⟩)] w' (E5 (.int .i8 (p.turn+1)) w'):=fun w' h=>a4S w' h;obtain ⟨z,hz,hzs⟩:=z2;have cc:=fun sd hsd w=>b2p p.castle hI.c0 hI.c1 p.turn ht sd hsd w;refine zN Tryz.func200 ?_;refine zR ?_;refine v8 z hz ?_;have hS:CsI w P b w.heap.size (E6 p ck) cv (A4 p) z.cells [] (w.alloc (.cells z.cells 294)) :=
  ⟨(Cl.alloc _ _).blk hP,(Cl.alloc _ _).blk hB,d9 _ _,Cl.alloc _ _,hT,hPs,hbs,yJ _⟩
 generalize w.alloc (.cells z.cells 294)=w1 at *;clear hP hB;obtain ⟨kr,hkr⟩:∃ x,U2 p.castle (2*p.turn+(1-1)).toNat=x:=⟨_,rfl⟩;obtain ⟨kq,hkq⟩:∃ x,U2 p.castle (2*p.turn+(2-1)).toNat=x:=⟨_,rfl⟩;have c1:=fun w=>cc 1 (.inl rfl) w;have c2:=fun w=>cc 2 (.inr rfl) w;rw [hkr] at c1;rw [hkq] at c2;refine zR ?_;refine zK 8 ?_;refine zR ?_;refine c2m hS.hd (zR ?_);refine m8 _ (fun w hw=>tc w (hw.blk hS.hd)) (zR ?_);refine E2 _ (fun _ _ h=>h.trans) (fun w hw=>c1 w) (zR ?_);intro w2 cl2;have hS2:=hS.step cl2;clear hS cl2;refine zR ?_;refine zK 8 ?_;refine zR ?_;refine c2m hS2.hd (zR ?_);refine m8 _ (fun w hw=>tc w (hw.blk hS2.hd)) (zR ?_);refine E2 _ (fun _ _ h=>h.trans) (fun w hw=>c2 w) (zG ?_);intro w3 cl3;have hS3:=hS2.step cl3;clear hS2 cl3 c1 c2 cc;refine zG ?_;have heq0:([]:List PM)=[]:=rfl;obtain ⟨cb,hcb⟩:∃ x,(decide (p.turn=0)&&V6 p ck 0)=x:=⟨_,rfl⟩;have hlen:p.turn=0→(([]:List PM)).length<2:=fun e=>by rw [heq0];simp [e]
 have heq0:([]:List PM)=[]:=rfl;obtain ⟨cb,hcb⟩:∃ x,(decide (p.turn=0)&&V6 p ck 0)=x:=⟨_,rfl⟩;have hlen:p.turn=0→(([]:List PM)).length<2:=fun e=>by rw [heq0];simp [e]
 have heq0:([]:List PM)=[]:=rfl;obtain ⟨cb,hcb⟩:∃ x,(decide (p.turn=0)&&V6 p ck 0)=x:=⟨_,rfl⟩;have hlen:p.turn=0→(([]:List PM)).length<2:=fun e=>by rw [heq0];simp [e]
 refine C3 (σ:=List PM) [4,7] 25 (fun l=>[(4,.int .i64 l.length)]) (fun l w'=>l=([]:List PM)++(if p.turn=0∧V6 p ck 0=true then [a47 p 0] else [])∧CsI w P b w.heap.size (E6 p ck) cv (A4 p) z.cells l w') zk ?_ (fun l0 j w4_0 hS4=>?_)
 ·refine Nx.go ?_;refine C3 (σ:=Unit) [25,26,27,28,29,30,31,32,33,34,35,36,37,38,39,40,41,42,43,44,45,46,47,48,49,50,51,52,53,54,55,56,57,58,59,60] 61 (fun _=>[(60,.bool cb)]) (fun _ w'=>CsI w P b w.heap.size (E6 p ck) cv (A4 p) z.cells ([]:List PM) w') zk ?_ (fun _ j wS hS5=>?_)
  ·have hP:=hS3.hd;have hB:=hS3.bd;refine zR ?_;by_cases htc:p.turn=0;rotate_left
   ·refine zK 36 ?_;refine zQ ?_;refine E.p9 (by show ¬ p.turn+1=1;omega) (zQ ?_)
    intro w' c';refine zR ?_;exact ⟨(),⟨t8 (yx (by rw [zV htc];rfl) hcb),trivial⟩,hS3.step c'⟩
   ·have hmay:V6 p ck 0=a8D p ck 0 5 6:=b8F hck (c4K hI htc);have hk:U2 p.castle 0=kr:=by rw [← hkr,htc];rfl
    unfold a8D at hmay;rw [hk] at hmay;have hd1:decide (p.turn=0)=true:=zX htc;cases hkk:kr
    ·rw [hkk] at hmay;subst hkk;refine zK 36 ?_;refine zQ ?_;refine E.z6 (by show p.turn+1=1;omega) (zQ ?_)
     intro w' c';refine zR ?_;exact ⟨(),⟨t8 (yx (by rw [hd1,hmay];rfl) hcb),trivial⟩,hS3.step c'⟩
    ·rw [hkk] at hmay;subst hkk;by_cases hoc:Bb.not (T9 p) &&& (D6 5 ||| D6 6)=0
     rotate_left
     ·rw [zV hoc] at hmay;refine zK 36 ?_;refine zQ ?_;refine E.z6 (by show p.turn+1=1;omega) (zQ ?_)
      refine m8 _ (fun w hw=>s8 5 zd w) (zQ ?_);refine m8 _ (fun w hw=>s8 6 zd w) (zQ ?_);refine E.p9 (b5q hoc) (zQ ?_);intro w' c';refine zR ?_;exact ⟨(),⟨t8 (yx (by rw [hd1,hmay];rfl) hcb),trivial⟩,hS3.step c'⟩
     ·rw [zX hoc,yV,yV] at hmay;have hat:=fun w hT hP hB g cap hS=>a1G (P:=P) (b:=b) (t:=173) (u:=237) (fz:=(0,0)) (fy:=(0,0)) (cv:=cv) (B:=A4 p) (h:=E6 p ck) (by show p.turn+1=1∨p.turn+1=2;omega) [5,6] zd zd g cap w hT hP hB hS
      have e0:(E6 p ck).turn=p.turn+1:=rfl;rw [e0] at hat;obtain ⟨AT,hA0⟩:∃ AT,([5,6]:List Nat).any ((A4 p).att (p.turn+1))=AT:=⟨_,rfl⟩;rw [hA0] at hmay;have cS:Cl w3 w3.drew:=Cl.drew (Cl.refl _);simp only [hA0] at hat;have cA:Cl w3 (w3.drew.alloc (.cells (([Value.int .i8 5,.int .i8 6]:List Value).flatMap fun v=>v.cells.toList).toArray 138)):=cS.trans (Cl.alloc _ _);have hSA:=hS3.step cA;have hbx:=c1h w3.drew 5 6;cases AT
      ·refine J2.mk3 (Cl w3) [0,1,2,3,4,5,6,7,8,9,10,11,12,13,14,15,16] zt1 (Cl.drew (Cl.refl _)) zk (zQ ?_);refine E.z6 (by show p.turn+1=1;omega) (zQ ?_)
       refine zD ?_;refine ⟨?_,?_,trivial⟩
       ·refine zD ?_;refine zL a0M [.int .i8 5,.int .i8 6] ?_;refine zD ?_;refine o9 (hat _ hSA.tab hSA.hd hSA.bd _ _ hbx) fun wC cC=>?_;have hSC:=hSA.step cC;refine zD ?_;exact ⟨(),⟨t8 (yx (by rw [hd1,hmay];rfl) hcb),trivial⟩,hS3.step (cA.trans cC)⟩
       ·refine zR ?_;try (refine E.z6 (a6v hoc) ?_;refine zR ?_)
        refine zL a0M [.int .i8 5,.int .i8 6] ?_;refine zD ?_;refine o9 (hat _ hSA.tab hSA.hd hSA.bd _ _ hbx) fun wC cC=>?_;have hSC:=hSA.step cC;refine zD ?_;exact ⟨(),⟨t8 (yx (by rw [hd1,hmay];rfl) hcb),trivial⟩,hS3.step (cA.trans cC)⟩
      ·refine J2.mk3 (Cl w3) [0,1,2,3,4,5,6,7,8,9,10,11,12,13,14,15,16] zt1 (Cl.drew (Cl.refl _)) zk (zQ ?_);refine E.z6 (by show p.turn+1=1;omega) (zQ ?_)
       refine zD ?_;refine ⟨?_,?_,trivial⟩
       ·refine zD ?_;refine zL a0M [.int .i8 5,.int .i8 6] ?_;refine zD ?_;refine o9 (hat _ hSA.tab hSA.hd hSA.bd _ _ hbx) fun wC cC=>?_;have hSC:=hSA.step cC;refine zD ?_;exact ⟨(),⟨t8 (yx (by rw [hd1,hmay];rfl) hcb),trivial⟩,hS3.step (cA.trans cC)⟩
       ·refine zR ?_;try (refine E.z6 (a6v hoc) ?_;refine zR ?_)
        refine zL a0M [.int .i8 5,.int .i8 6] ?_;refine zD ?_;refine o9 (hat _ hSA.tab hSA.hd hSA.bd _ _ hbx) fun wC cC=>?_;have hSC:=hSA.step cC;refine zD ?_;exact ⟨(),⟨t8 (yx (by rw [hd1,hmay];rfl) hcb),trivial⟩,hS3.step (cA.trans cC)⟩
  ·cases cb
   ·have hno:¬ (p.turn=0∧V6 p ck 0=true):=fun e=>by rw [e.2,zX e.1] at hcb;exact absurd hcb zd
    refine zR ?_;exact ⟨_,⟨rfl,trivial⟩,by rw [zJ hno,zn],hS5⟩
   ·have hyes:p.turn=0∧V6 p ck 0=true:=by
     rw [zP,zW] at hcb;exact hcb
    have hlen:=hlen hyes.1;have hr:0=(2*p.turn).toNat∨0=(2*p.turn).toNat+1:=by rw [hyes.1];decide
    refine zR ?_;refine y7 (E8 (E0 ⟨p8 (0:Nat),0⟩)) zk (zR ?_);refine v8 _ a6X ?_;have cA:=Cl.alloc wS (.cells (Value.agg (E8 (E0 ⟨⟨0,0,0⟩,0⟩))).cells 141);have nA:=d9 wS (.cells (Value.agg (E8 (E0 ⟨⟨0,0,0⟩,0⟩))).cells 141);have sA:=B0 wS (.cells (Value.agg (E8 (E0 ⟨⟨0,0,0⟩,0⟩))).cells 141);have lt5:=hS5.lt;have ge5:=hS5.cl.size;have hS6:=hS5.step cA;generalize wS.alloc (.cells (Value.agg (E8 (E0 ⟨⟨0,0,0⟩,0⟩))).cells 141)=w6 at *;refine zR ?_;refine K9 nA (D4 ⟨p8 (0:Nat),0⟩) rfl a1I rfl (F8 _) (zU rfl) fun w7 u7=>?_;have hS7:=hS6.far (Tn.upd u7) zo zo zo ge5;have n7:w7.heap[wS.heap.size]?=some (.cells (E8 (E0 ⟨p8 (0:Nat),0⟩)) 141 (0,0)):=u7.at_;refine zR ?_;refine o7 (Y3 (d:=E0 ⟨p8 (0:Nat),0⟩) (tag:=1) zd zd _ n7) ?_;rintro r w8 ⟨rfl,u8⟩;refine ⟨_,rfl,?_⟩;have hS8:=hS7.far (Tn.upd u8) zo zo zo ge5;refine zR ?_;refine o7 (a2c hI (r:=0) hr (a5C hyes.2) ⟨hS8.hd,hS8.bd,u8.at_,Tn.refl _ _,hS8.tab,zo,zo⟩) ?_;rintro r w9 ⟨rfl,h9⟩;refine ⟨_,rfl,?_⟩;have hS9:=hS8.far h9.tn zo zo zo ge5;have nl:=C7 (i:=([]:List PM).length) zo;refine zR ?_;refine b7 _ (b6s h9.nd) (zR ?_);refine b0R hS9 hzs hlen rfl fun w10 hS10=>zR ?_;exact ⟨_,⟨rfl,trivial⟩,by rw [zM hyes],hS10⟩
 obtain ⟨heq1,hS4⟩:=hS4;rw [heq0] at heq1;clear hcb cb hlen;have hS4_0:=hS4;clear hS4 hS3;obtain ⟨cb,hcb⟩:∃ x,(decide (p.turn=0)&&V6 p ck 1)=x:=⟨_,rfl⟩;have hlen:p.turn=0→(l0).length<2:=fun e=>by rw [heq1];simp [e];(try split)<;>simp
 refine C3 (σ:=List PM) [4,8] 25 (fun l=>[(4,.int .i64 l.length)]) (fun l w'=>l=l0++(if p.turn=0∧V6 p ck 1=true then [a47 p 1] else [])∧CsI w P b w.heap.size (E6 p ck) cv (A4 p) z.cells l w') zk ?_ (fun l1 j w4_1 hS4=>?_)
 ·refine Nx.go ?_;refine C3 (σ:=Unit) [70,71,72,73,74,75,76,77,78,79,80,81,82,83,84,85,86,87,88,89,90,91,92,93,94,95,96,97,98,99,100,101,102,103,104,105,106,107] 108 (fun _=>[(107,.bool cb)]) (fun _ w'=>CsI w P b w.heap.size (E6 p ck) cv (A4 p) z.cells l0 w') zk ?_ (fun _ j wS hS5=>?_)
  ·have hP:=hS4_0.hd;have hB:=hS4_0.bd;refine zR ?_;by_cases htc:p.turn=0;rotate_left
   ·refine zK 38 ?_;refine zQ ?_;refine E.p9 (by show ¬ p.turn+1=1;omega) (zQ ?_)
    intro w' c';refine zR ?_;exact ⟨(),⟨t8 (yx (by rw [zV htc];rfl) hcb),trivial⟩,hS4_0.step c'⟩
   ·have hmay:V6 p ck 1=a8E p ck 1 1 2 3:=b8G hck (c4L hI htc);have hk:U2 p.castle 1=kq:=by rw [← hkq,htc];rfl
    unfold a8E at hmay;rw [hk] at hmay;have hd1:decide (p.turn=0)=true:=zX htc;cases hkk:kq
    ·rw [hkk] at hmay;subst hkk;refine zK 38 ?_;refine zQ ?_;refine E.z6 (by show p.turn+1=1;omega) (zQ ?_)
     intro w' c';refine zR ?_;exact ⟨(),⟨t8 (yx (by rw [hd1,hmay];rfl) hcb),trivial⟩,hS4_0.step c'⟩
    ·rw [hkk] at hmay;subst hkk;by_cases hoc:Bb.not (T9 p) &&& (D6 1 ||| D6 2 ||| D6 3)=0
     rotate_left
     ·rw [zV hoc] at hmay;refine zK 38 ?_;refine zQ ?_;refine E.z6 (by show p.turn+1=1;omega) (zQ ?_)
      refine m8 _ (fun w hw=>s8 1 zd w) (zQ ?_);refine m8 _ (fun w hw=>s8 2 zd w) (zQ ?_);refine m8 _ (fun w hw=>s8 3 zd w) (zQ ?_);refine E.p9 (b5q hoc) (zQ ?_);intro w' c';refine zR ?_;exact ⟨(),⟨t8 (yx (by rw [hd1,hmay];rfl) hcb),trivial⟩,hS4_0.step c'⟩
     ·rw [zX hoc,yV,yV] at hmay;have hat:=fun w hT hP hB g cap hS=>a1G (P:=P) (b:=b) (t:=173) (u:=237) (fz:=(0,0)) (fy:=(0,0)) (cv:=cv) (B:=A4 p) (h:=E6 p ck) (by show p.turn+1=1∨p.turn+1=2;omega) [2,3] zd zd g cap w hT hP hB hS
      have e0:(E6 p ck).turn=p.turn+1:=rfl;rw [e0] at hat;obtain ⟨AT,hA0⟩:∃ AT,([2,3]:List Nat).any ((A4 p).att (p.turn+1))=AT:=⟨_,rfl⟩;rw [hA0] at hmay;have cS:Cl w4_0 w4_0.drew:=Cl.drew (Cl.refl _);simp only [hA0] at hat;have cA:Cl w4_0 (w4_0.drew.alloc (.cells (([Value.int .i8 2,.int .i8 3]:List Value).flatMap fun v=>v.cells.toList).toArray 138)):=cS.trans (Cl.alloc _ _);have hSA:=hS4_0.step cA;have hbx:=c1h w4_0.drew 2 3;cases AT
      ·refine J2.mk3 (Cl w4_0) [0,1,2,3,4,5,6,7,8,9,10,11,12,13,14,15,16] zt0 (Cl.drew (Cl.refl _)) zk (zQ ?_);refine E.z6 (by show p.turn+1=1;omega) (zQ ?_)
       refine zD ?_;refine ⟨?_,?_,trivial⟩
       ·refine zD ?_;refine ⟨?_,?_,trivial⟩
        ·refine zD ?_;refine zL a0M [.int .i8 2,.int .i8 3] ?_;refine zD ?_;refine o9 (hat _ hSA.tab hSA.hd hSA.bd _ _ hbx) fun wC cC=>?_;have hSC:=hSA.step cC;refine zD ?_;exact ⟨(),⟨t8 (yx (by rw [hd1,hmay];rfl) hcb),trivial⟩,hS4_0.step (cA.trans cC)⟩
        ·refine zR ?_;try (refine E.z6 (a6v hoc) ?_;refine zR ?_)
         refine zL a0M [.int .i8 2,.int .i8 3] ?_;refine zD ?_;refine o9 (hat _ hSA.tab hSA.hd hSA.bd _ _ hbx) fun wC cC=>?_;have hSC:=hSA.step cC;refine zD ?_;exact ⟨(),⟨t8 (yx (by rw [hd1,hmay];rfl) hcb),trivial⟩,hS4_0.step (cA.trans cC)⟩
       ·refine zD ?_;refine ⟨?_,?_,trivial⟩
        ·refine zD ?_;refine zL a0M [.int .i8 2,.int .i8 3] ?_;refine zD ?_;refine o9 (hat _ hSA.tab hSA.hd hSA.bd _ _ hbx) fun wC cC=>?_;have hSC:=hSA.step cC;refine zD ?_;exact ⟨(),⟨t8 (yx (by rw [hd1,hmay];rfl) hcb),trivial⟩,hS4_0.step (cA.trans cC)⟩
        ·refine zR ?_;try (refine E.z6 (a6v hoc) ?_;refine zR ?_)
         refine zL a0M [.int .i8 2,.int .i8 3] ?_;refine zD ?_;refine o9 (hat _ hSA.tab hSA.hd hSA.bd _ _ hbx) fun wC cC=>?_;have hSC:=hSA.step cC;refine zD ?_;exact ⟨(),⟨t8 (yx (by rw [hd1,hmay];rfl) hcb),trivial⟩,hS4_0.step (cA.trans cC)⟩
      ·refine J2.mk3 (Cl w4_0) [0,1,2,3,4,5,6,7,8,9,10,11,12,13,14,15,16] zt0 (Cl.drew (Cl.refl _)) zk (zQ ?_);refine E.z6 (by show p.turn+1=1;omega) (zQ ?_)
       refine zD ?_;refine ⟨?_,?_,trivial⟩
       ·refine zD ?_;refine ⟨?_,?_,trivial⟩
        ·refine zD ?_;refine zL a0M [.int .i8 2,.int .i8 3] ?_;refine zD ?_;refine o9 (hat _ hSA.tab hSA.hd hSA.bd _ _ hbx) fun wC cC=>?_;have hSC:=hSA.step cC;refine zD ?_;exact ⟨(),⟨t8 (yx (by rw [hd1,hmay];rfl) hcb),trivial⟩,hS4_0.step (cA.trans cC)⟩
        ·refine zR ?_;try (refine E.z6 (a6v hoc) ?_;refine zR ?_)
         refine zL a0M [.int .i8 2,.int .i8 3] ?_;refine zD ?_;refine o9 (hat _ hSA.tab hSA.hd hSA.bd _ _ hbx) fun wC cC=>?_;have hSC:=hSA.step cC;refine zD ?_;exact ⟨(),⟨t8 (yx (by rw [hd1,hmay];rfl) hcb),trivial⟩,hS4_0.step (cA.trans cC)⟩
       ·refine zD ?_;refine ⟨?_,?_,trivial⟩
        ·refine zD ?_;refine zL a0M [.int .i8 2,.int .i8 3] ?_;refine zD ?_;refine o9 (hat _ hSA.tab hSA.hd hSA.bd _ _ hbx) fun wC cC=>?_;have hSC:=hSA.step cC;refine zD ?_;exact ⟨(),⟨t8 (yx (by rw [hd1,hmay];rfl) hcb),trivial⟩,hS4_0.step (cA.trans cC)⟩
        ·refine zR ?_;try (refine E.z6 (a6v hoc) ?_;refine zR ?_)
         refine zL a0M [.int .i8 2,.int .i8 3] ?_;refine zD ?_;refine o9 (hat _ hSA.tab hSA.hd hSA.bd _ _ hbx) fun wC cC=>?_;have hSC:=hSA.step cC;refine zD ?_;exact ⟨(),⟨t8 (yx (by rw [hd1,hmay];rfl) hcb),trivial⟩,hS4_0.step (cA.trans cC)⟩
  ·cases cb
   ·have hno:¬ (p.turn=0∧V6 p ck 1=true):=fun e=>by rw [e.2,zX e.1] at hcb;exact absurd hcb zd
    refine zR ?_;exact ⟨_,⟨rfl,trivial⟩,by rw [zJ hno,zn],hS5⟩
   ·have hyes:p.turn=0∧V6 p ck 1=true:=by
     rw [zP,zW] at hcb;exact hcb
    have hlen:=hlen hyes.1;have hr:1=(2*p.turn).toNat∨1=(2*p.turn).toNat+1:=by rw [hyes.1];decide
    refine zR ?_;refine y7 (E8 (E0 ⟨p8 (1:Nat),0⟩)) zk (zR ?_);refine v8 _ a6X ?_;have cA:=Cl.alloc wS (.cells (Value.agg (E8 (E0 ⟨⟨0,0,0⟩,0⟩))).cells 141);have nA:=d9 wS (.cells (Value.agg (E8 (E0 ⟨⟨0,0,0⟩,0⟩))).cells 141);have sA:=B0 wS (.cells (Value.agg (E8 (E0 ⟨⟨0,0,0⟩,0⟩))).cells 141);have lt5:=hS5.lt;have ge5:=hS5.cl.size;have hS6:=hS5.step cA;generalize wS.alloc (.cells (Value.agg (E8 (E0 ⟨⟨0,0,0⟩,0⟩))).cells 141)=w6 at *;refine zR ?_;refine K9 nA (D4 ⟨p8 (1:Nat),0⟩) rfl a1I rfl (F8 _) (zU rfl) fun w7 u7=>?_;have hS7:=hS6.far (Tn.upd u7) zo zo zo ge5;have n7:w7.heap[wS.heap.size]?=some (.cells (E8 (E0 ⟨p8 (1:Nat),0⟩)) 141 (0,0)):=u7.at_;refine zR ?_;refine o7 (Y3 (d:=E0 ⟨p8 (1:Nat),0⟩) (tag:=2) zd zd _ n7) ?_;rintro r w8 ⟨rfl,u8⟩;refine ⟨_,rfl,?_⟩;have hS8:=hS7.far (Tn.upd u8) zo zo zo ge5;refine zR ?_;refine o7 (a2c hI (r:=1) hr (a5C hyes.2) ⟨hS8.hd,hS8.bd,u8.at_,Tn.refl _ _,hS8.tab,zo,zo⟩) ?_;rintro r w9 ⟨rfl,h9⟩;refine ⟨_,rfl,?_⟩;have hS9:=hS8.far h9.tn zo zo zo ge5;have nl:=C7 (i:=l0.length) zo;refine zR ?_;refine b7 _ (b6s h9.nd) (zR ?_);refine zC ?_;refine zR ?_;refine b0R hS9 hzs hlen (a0F _ _) fun w10 hS10=>zR ?_;exact ⟨_,⟨d8 (nl.trans (by rw [zF];rfl)),trivial⟩,by rw [zM hyes],hS10⟩
 obtain ⟨heq2,hS4⟩:=hS4;rw [heq1] at heq2;clear hcb cb hlen;have hS4_1:=hS4;clear hS4 hS4_0;obtain ⟨cb,hcb⟩:∃ x,(decide (p.turn=1)&&V6 p ck 2)=x:=⟨_,rfl⟩;have hlen:p.turn=1→(l1).length<2:=fun e=>by rw [heq2];simp [e]
 refine C3 (σ:=List PM) [4,9] 25 (fun l=>[(4,.int .i64 l.length)]) (fun l w'=>l=l1++(if p.turn=1∧V6 p ck 2=true then [a47 p 2] else [])∧CsI w P b w.heap.size (E6 p ck) cv (A4 p) z.cells l w') zk ?_ (fun l2 j w4_2 hS4=>?_)
 ·refine Nx.go ?_;refine C3 (σ:=Unit) [117,118,119,120,121,122,123,124,125,126,127,128,129,130,131,132,133,134,135,136,137,138,139,140,141,142,143,144,145,146,147,148,149,150,151,152] 153 (fun _=>[(152,.bool cb)]) (fun _ w'=>CsI w P b w.heap.size (E6 p ck) cv (A4 p) z.cells l1 w') zk ?_ (fun _ j wS hS5=>?_)
  ·have hP:=hS4_1.hd;have hB:=hS4_1.bd;refine zR ?_;by_cases htc:p.turn=1;rotate_left
   ·refine zK 36 ?_;refine zQ ?_;refine E.p9 (by show ¬ p.turn+1=2;omega) (zQ ?_)
    intro w' c';refine zR ?_;exact ⟨(),⟨t8 (yx (by rw [zV htc];rfl) hcb),trivial⟩,hS4_1.step c'⟩
   ·have hmay:V6 p ck 2=a8D p ck 2 61 62:=b8F hck (c4M hI htc);have hk:U2 p.castle 2=kr:=by rw [← hkr,htc];rfl
    unfold a8D at hmay;rw [hk] at hmay;have hd1:decide (p.turn=1)=true:=zX htc;cases hkk:kr
    ·rw [hkk] at hmay;subst hkk;refine zK 36 ?_;refine zQ ?_;refine E.z6 (by show p.turn+1=2;omega) (zQ ?_)
     intro w' c';refine zR ?_;exact ⟨(),⟨t8 (yx (by rw [hd1,hmay];rfl) hcb),trivial⟩,hS4_1.step c'⟩
    ·rw [hkk] at hmay;subst hkk;by_cases hoc:Bb.not (T9 p) &&& (D6 61 ||| D6 62)=0
     rotate_left
     ·rw [zV hoc] at hmay;refine zK 36 ?_;refine zQ ?_;refine E.z6 (by show p.turn+1=2;omega) (zQ ?_)
      refine m8 _ (fun w hw=>s8 61 zd w) (zQ ?_);refine m8 _ (fun w hw=>s8 62 zd w) (zQ ?_);refine E.p9 (b5q hoc) (zQ ?_);intro w' c';refine zR ?_;exact ⟨(),⟨t8 (yx (by rw [hd1,hmay];rfl) hcb),trivial⟩,hS4_1.step c'⟩
     ·rw [zX hoc,yV,yV] at hmay;have hat:=fun w hT hP hB g cap hS=>a1G (P:=P) (b:=b) (t:=173) (u:=237) (fz:=(0,0)) (fy:=(0,0)) (cv:=cv) (B:=A4 p) (h:=E6 p ck) (by show p.turn+1=1∨p.turn+1=2;omega) [61,62] zd zd g cap w hT hP hB hS
      have e0:(E6 p ck).turn=p.turn+1:=rfl;rw [e0] at hat;obtain ⟨AT,hA0⟩:∃ AT,([61,62]:List Nat).any ((A4 p).att (p.turn+1))=AT:=⟨_,rfl⟩;rw [hA0] at hmay;have cS:Cl w4_1 w4_1.drew:=Cl.drew (Cl.refl _);simp only [hA0] at hat;have cA:Cl w4_1 (w4_1.drew.alloc (.cells (([Value.int .i8 61,.int .i8 62]:List Value).flatMap fun v=>v.cells.toList).toArray 138)):=cS.trans (Cl.alloc _ _);have hSA:=hS4_1.step cA;have hbx:=c1h w4_1.drew 61 62;cases AT
      ·refine J2.mk3 (Cl w4_1) [0,1,2,3,4,5,6,7,8,9,10,11,12,13,14,15,16] zt1 (Cl.drew (Cl.refl _)) zk (zQ ?_);refine E.z6 (by show p.turn+1=2;omega) (zQ ?_)
       refine zD ?_;refine ⟨?_,?_,trivial⟩
       ·refine zD ?_;refine zL a0M [.int .i8 61,.int .i8 62] ?_;refine zD ?_;refine o9 (hat _ hSA.tab hSA.hd hSA.bd _ _ hbx) fun wC cC=>?_;have hSC:=hSA.step cC;refine zD ?_;exact ⟨(),⟨t8 (yx (by rw [hd1,hmay];rfl) hcb),trivial⟩,hS4_1.step (cA.trans cC)⟩
       ·refine zR ?_;try (refine E.z6 (a6v hoc) ?_;refine zR ?_)
        refine zL a0M [.int .i8 61,.int .i8 62] ?_;refine zD ?_;refine o9 (hat _ hSA.tab hSA.hd hSA.bd _ _ hbx) fun wC cC=>?_;have hSC:=hSA.step cC;refine zD ?_;exact ⟨(),⟨t8 (yx (by rw [hd1,hmay];rfl) hcb),trivial⟩,hS4_1.step (cA.trans cC)⟩
      ·refine J2.mk3 (Cl w4_1) [0,1,2,3,4,5,6,7,8,9,10,11,12,13,14,15,16] zt1 (Cl.drew (Cl.refl _)) zk (zQ ?_);refine E.z6 (by show p.turn+1=2;omega) (zQ ?_)
       refine zD ?_;refine ⟨?_,?_,trivial⟩
       ·refine zD ?_;refine zL a0M [.int .i8 61,.int .i8 62] ?_;refine zD ?_;refine o9 (hat _ hSA.tab hSA.hd hSA.bd _ _ hbx) fun wC cC=>?_;have hSC:=hSA.step cC;refine zD ?_;exact ⟨(),⟨t8 (yx (by rw [hd1,hmay];rfl) hcb),trivial⟩,hS4_1.step (cA.trans cC)⟩
       ·refine zR ?_;try (refine E.z6 (a6v hoc) ?_;refine zR ?_)
        refine zL a0M [.int .i8 61,.int .i8 62] ?_;refine zD ?_;refine o9 (hat _ hSA.tab hSA.hd hSA.bd _ _ hbx) fun wC cC=>?_;have hSC:=hSA.step cC;refine zD ?_;exact ⟨(),⟨t8 (yx (by rw [hd1,hmay];rfl) hcb),trivial⟩,hS4_1.step (cA.trans cC)⟩
  ·cases cb
   ·have hno:¬ (p.turn=1∧V6 p ck 2=true):=fun e=>by rw [e.2,zX e.1] at hcb;exact absurd hcb zd
    refine zR ?_;exact ⟨_,⟨rfl,trivial⟩,by rw [zJ hno,zn],hS5⟩
   ·have hyes:p.turn=1∧V6 p ck 2=true:=by
     rw [zP,zW] at hcb;exact hcb
    have hlen:=hlen hyes.1;have hr:2=(2*p.turn).toNat∨2=(2*p.turn).toNat+1:=by rw [hyes.1];decide
    refine zR ?_;refine y7 (E8 (E0 ⟨p8 (2:Nat),0⟩)) zk (zR ?_);refine v8 _ a6X ?_;have cA:=Cl.alloc wS (.cells (Value.agg (E8 (E0 ⟨⟨0,0,0⟩,0⟩))).cells 141);have nA:=d9 wS (.cells (Value.agg (E8 (E0 ⟨⟨0,0,0⟩,0⟩))).cells 141);have sA:=B0 wS (.cells (Value.agg (E8 (E0 ⟨⟨0,0,0⟩,0⟩))).cells 141);have lt5:=hS5.lt;have ge5:=hS5.cl.size;have hS6:=hS5.step cA;generalize wS.alloc (.cells (Value.agg (E8 (E0 ⟨⟨0,0,0⟩,0⟩))).cells 141)=w6 at *;refine zR ?_;refine K9 nA (D4 ⟨p8 (2:Nat),0⟩) rfl a1I rfl (F8 _) (zU rfl) fun w7 u7=>?_;have hS7:=hS6.far (Tn.upd u7) zo zo zo ge5;have n7:w7.heap[wS.heap.size]?=some (.cells (E8 (E0 ⟨p8 (2:Nat),0⟩)) 141 (0,0)):=u7.at_;refine zR ?_;refine o7 (Y3 (d:=E0 ⟨p8 (2:Nat),0⟩) (tag:=1) zd zd _ n7) ?_;rintro r w8 ⟨rfl,u8⟩;refine ⟨_,rfl,?_⟩;have hS8:=hS7.far (Tn.upd u8) zo zo zo ge5;refine zR ?_;refine o7 (a2c hI (r:=2) hr (a5C hyes.2) ⟨hS8.hd,hS8.bd,u8.at_,Tn.refl _ _,hS8.tab,zo,zo⟩) ?_;rintro r w9 ⟨rfl,h9⟩;refine ⟨_,rfl,?_⟩;have hS9:=hS8.far h9.tn zo zo zo ge5;have nl:=C7 (i:=l1.length) zo;refine zR ?_;refine b7 _ (b6s h9.nd) (zR ?_);refine zC ?_;refine zR ?_;refine b0R hS9 hzs hlen (a0F _ _) fun w10 hS10=>zR ?_;exact ⟨_,⟨d8 (nl.trans (by rw [zF];rfl)),trivial⟩,by rw [zM hyes],hS10⟩
 obtain ⟨heq3,hS4⟩:=hS4;rw [heq2] at heq3;clear hcb cb hlen;have hS4_2:=hS4;clear hS4 hS4_1;obtain ⟨cb,hcb⟩:∃ x,(decide (p.turn=1)&&V6 p ck 3)=x:=⟨_,rfl⟩;have hlen:p.turn=1→(l2).length<2:=fun e=>by rw [heq3];simp [e];(try split)<;>simp
 refine C3 (σ:=List PM) [4,10] 25 (fun l=>[(4,.int .i64 l.length)]) (fun l w'=>l=l2++(if p.turn=1∧V6 p ck 3=true then [a47 p 3] else [])∧CsI w P b w.heap.size (E6 p ck) cv (A4 p) z.cells l w') zk ?_ (fun l3 j w4_3 hS4=>?_)
 ·refine Nx.go ?_;refine C3 (σ:=Unit) [162,163,164,165,166,167,168,169,170,171,172,173,174,175,176,177,178,179,180,181,182,183,184,185,186,187,188,189,190,191,192,193,194,195,196,197,198,199] 200 (fun _=>[(199,.bool cb)]) (fun _ w'=>CsI w P b w.heap.size (E6 p ck) cv (A4 p) z.cells l2 w') zk ?_ (fun _ j wS hS5=>?_)
  ·have hP:=hS4_2.hd;have hB:=hS4_2.bd;refine zR ?_;by_cases htc:p.turn=1;rotate_left
   ·refine zK 38 ?_;refine zQ ?_;refine E.p9 (by show ¬ p.turn+1=2;omega) (zQ ?_)
    intro w' c';refine zR ?_;exact ⟨(),⟨t8 (yx (by rw [zV htc];rfl) hcb),trivial⟩,hS4_2.step c'⟩
   ·have hmay:V6 p ck 3=a8E p ck 3 57 58 59:=b8G hck (c4N hI htc);have hk:U2 p.castle 3=kq:=by rw [← hkq,htc];rfl
    unfold a8E at hmay;rw [hk] at hmay;have hd1:decide (p.turn=1)=true:=zX htc;cases hkk:kq
    ·rw [hkk] at hmay;subst hkk;refine zK 38 ?_;refine zQ ?_;refine E.z6 (by show p.turn+1=2;omega) (zQ ?_)
     intro w' c';refine zR ?_;exact ⟨(),⟨t8 (yx (by rw [hd1,hmay];rfl) hcb),trivial⟩,hS4_2.step c'⟩
    ·rw [hkk] at hmay;subst hkk;by_cases hoc:Bb.not (T9 p) &&& (D6 57 ||| D6 58 ||| D6 59)=0
     rotate_left
     ·rw [zV hoc] at hmay;refine zK 38 ?_;refine zQ ?_;refine E.z6 (by show p.turn+1=2;omega) (zQ ?_)
      refine m8 _ (fun w hw=>s8 57 zd w) (zQ ?_);refine m8 _ (fun w hw=>s8 58 zd w) (zQ ?_);refine m8 _ (fun w hw=>s8 59 zd w) (zQ ?_);refine E.p9 (b5q hoc) (zQ ?_);intro w' c';refine zR ?_;exact ⟨(),⟨t8 (yx (by rw [hd1,hmay];rfl) hcb),trivial⟩,hS4_2.step c'⟩
     ·rw [zX hoc,yV,yV] at hmay;have hat:=fun w hT hP hB g cap hS=>a1G (P:=P) (b:=b) (t:=173) (u:=237) (fz:=(0,0)) (fy:=(0,0)) (cv:=cv) (B:=A4 p) (h:=E6 p ck) (by show p.turn+1=1∨p.turn+1=2;omega) [58,59] zd zd g cap w hT hP hB hS
      have e0:(E6 p ck).turn=p.turn+1:=rfl;rw [e0] at hat;obtain ⟨AT,hA0⟩:∃ AT,([58,59]:List Nat).any ((A4 p).att (p.turn+1))=AT:=⟨_,rfl⟩;rw [hA0] at hmay;have cS:Cl w4_2 w4_2.drew:=Cl.drew (Cl.refl _);simp only [hA0] at hat;have cA:Cl w4_2 (w4_2.drew.alloc (.cells (([Value.int .i8 58,.int .i8 59]:List Value).flatMap fun v=>v.cells.toList).toArray 138)):=cS.trans (Cl.alloc _ _);have hSA:=hS4_2.step cA;have hbx:=c1h w4_2.drew 58 59;cases AT
      ·refine J2.mk3 (Cl w4_2) [0,1,2,3,4,5,6,7,8,9,10,11,12,13,14,15,16] zt0 (Cl.drew (Cl.refl _)) zk (zQ ?_);refine E.z6 (by show p.turn+1=2;omega) (zQ ?_)
       refine zD ?_;refine ⟨?_,?_,trivial⟩
       ·refine zD ?_;refine ⟨?_,?_,trivial⟩
        ·refine zD ?_;refine zL a0M [.int .i8 58,.int .i8 59] ?_;refine zD ?_;refine o9 (hat _ hSA.tab hSA.hd hSA.bd _ _ hbx) fun wC cC=>?_;have hSC:=hSA.step cC;refine zD ?_;exact ⟨(),⟨t8 (yx (by rw [hd1,hmay];rfl) hcb),trivial⟩,hS4_2.step (cA.trans cC)⟩
        ·refine zR ?_;try (refine E.z6 (a6v hoc) ?_;refine zR ?_)
         refine zL a0M [.int .i8 58,.int .i8 59] ?_;refine zD ?_;refine o9 (hat _ hSA.tab hSA.hd hSA.bd _ _ hbx) fun wC cC=>?_;have hSC:=hSA.step cC;refine zD ?_;exact ⟨(),⟨t8 (yx (by rw [hd1,hmay];rfl) hcb),trivial⟩,hS4_2.step (cA.trans cC)⟩
       ·refine zD ?_;refine ⟨?_,?_,trivial⟩
        ·refine zD ?_;refine zL a0M [.int .i8 58,.int .i8 59] ?_;refine zD ?_;refine o9 (hat _ hSA.tab hSA.hd hSA.bd _ _ hbx) fun wC cC=>?_;have hSC:=hSA.step cC;refine zD ?_;exact ⟨(),⟨t8 (yx (by rw [hd1,hmay];rfl) hcb),trivial⟩,hS4_2.step (cA.trans cC)⟩
        ·refine zR ?_;try (refine E.z6 (a6v hoc) ?_;refine zR ?_)
         refine zL a0M [.int .i8 58,.int .i8 59] ?_;refine zD ?_;refine o9 (hat _ hSA.tab hSA.hd hSA.bd _ _ hbx) fun wC cC=>?_;have hSC:=hSA.step cC;refine zD ?_;exact ⟨(),⟨t8 (yx (by rw [hd1,hmay];rfl) hcb),trivial⟩,hS4_2.step (cA.trans cC)⟩
      ·refine J2.mk3 (Cl w4_2) [0,1,2,3,4,5,6,7,8,9,10,11,12,13,14,15,16] zt0 (Cl.drew (Cl.refl _)) zk (zQ ?_);refine E.z6 (by show p.turn+1=2;omega) (zQ ?_)
       refine zD ?_;refine ⟨?_,?_,trivial⟩
       ·refine zD ?_;refine ⟨?_,?_,trivial⟩
        ·refine zD ?_;refine zL a0M [.int .i8 58,.int .i8 59] ?_;refine zD ?_;refine o9 (hat _ hSA.tab hSA.hd hSA.bd _ _ hbx) fun wC cC=>?_;have hSC:=hSA.step cC;refine zD ?_;exact ⟨(),⟨t8 (yx (by rw [hd1,hmay];rfl) hcb),trivial⟩,hS4_2.step (cA.trans cC)⟩
        ·refine zR ?_;try (refine E.z6 (a6v hoc) ?_;refine zR ?_)
         refine zL a0M [.int .i8 58,.int .i8 59] ?_;refine zD ?_;refine o9 (hat _ hSA.tab hSA.hd hSA.bd _ _ hbx) fun wC cC=>?_;have hSC:=hSA.step cC;refine zD ?_;exact ⟨(),⟨t8 (yx (by rw [hd1,hmay];rfl) hcb),trivial⟩,hS4_2.step (cA.trans cC)⟩
       ·refine zD ?_;refine ⟨?_,?_,trivial⟩
        ·refine zD ?_;refine zL a0M [.int .i8 58,.int .i8 59] ?_;refine zD ?_;refine o9 (hat _ hSA.tab hSA.hd hSA.bd _ _ hbx) fun wC cC=>?_;have hSC:=hSA.step cC;refine zD ?_;exact ⟨(),⟨t8 (yx (by rw [hd1,hmay];rfl) hcb),trivial⟩,hS4_2.step (cA.trans cC)⟩
        ·refine zR ?_;try (refine E.z6 (a6v hoc) ?_;refine zR ?_)
         refine zL a0M [.int .i8 58,.int .i8 59] ?_;refine zD ?_;refine o9 (hat _ hSA.tab hSA.hd hSA.bd _ _ hbx) fun wC cC=>?_;have hSC:=hSA.step cC;refine zD ?_;exact ⟨(),⟨t8 (yx (by rw [hd1,hmay];rfl) hcb),trivial⟩,hS4_2.step (cA.trans cC)⟩
  ·cases cb
   ·have hno:¬ (p.turn=1∧V6 p ck 3=true):=fun e=>by rw [e.2,zX e.1] at hcb;exact absurd hcb zd
    refine zR ?_;exact ⟨_,⟨rfl,trivial⟩,by rw [zJ hno,zn],hS5⟩
   ·have hyes:p.turn=1∧V6 p ck 3=true:=by
     rw [zP,zW] at hcb;exact hcb
    have hlen:=hlen hyes.1;have hr:3=(2*p.turn).toNat∨3=(2*p.turn).toNat+1:=by rw [hyes.1];decide
    refine zR ?_;refine y7 (E8 (E0 ⟨p8 (3:Nat),0⟩)) zk (zR ?_);refine v8 _ a6X ?_;have cA:=Cl.alloc wS (.cells (Value.agg (E8 (E0 ⟨⟨0,0,0⟩,0⟩))).cells 141);have nA:=d9 wS (.cells (Value.agg (E8 (E0 ⟨⟨0,0,0⟩,0⟩))).cells 141);have sA:=B0 wS (.cells (Value.agg (E8 (E0 ⟨⟨0,0,0⟩,0⟩))).cells 141);have lt5:=hS5.lt;have ge5:=hS5.cl.size;have hS6:=hS5.step cA;generalize wS.alloc (.cells (Value.agg (E8 (E0 ⟨⟨0,0,0⟩,0⟩))).cells 141)=w6 at *;refine zR ?_;refine K9 nA (D4 ⟨p8 (3:Nat),0⟩) rfl a1I rfl (F8 _) (zU rfl) fun w7 u7=>?_;have hS7:=hS6.far (Tn.upd u7) zo zo zo ge5;have n7:w7.heap[wS.heap.size]?=some (.cells (E8 (E0 ⟨p8 (3:Nat),0⟩)) 141 (0,0)):=u7.at_;refine zR ?_;refine o7 (Y3 (d:=E0 ⟨p8 (3:Nat),0⟩) (tag:=2) zd zd _ n7) ?_;rintro r w8 ⟨rfl,u8⟩;refine ⟨_,rfl,?_⟩;have hS8:=hS7.far (Tn.upd u8) zo zo zo ge5;refine zR ?_;refine o7 (a2c hI (r:=3) hr (a5C hyes.2) ⟨hS8.hd,hS8.bd,u8.at_,Tn.refl _ _,hS8.tab,zo,zo⟩) ?_;rintro r w9 ⟨rfl,h9⟩;refine ⟨_,rfl,?_⟩;have hS9:=hS8.far h9.tn zo zo zo ge5;have nl:=C7 (i:=l2.length) zo;refine zR ?_;refine b7 _ (b6s h9.nd) (zR ?_);refine zC ?_;refine zR ?_;refine b0R hS9 hzs hlen (a0F _ _) fun w10 hS10=>zR ?_;exact ⟨_,⟨d8 (nl.trans (by rw [zF];rfl)),trivial⟩,by rw [zM hyes],hS10⟩
 obtain ⟨heq4,hS4⟩:=hS4;rw [heq3] at heq4;clear hcb cb hlen;have hS4_3:=hS4;refine zR ?_;have hl3:l3=a3i p ck:=by
  rcases ht with h|h
  ·rw [heq4,b8H h];simp [h]
  ·rw [heq4,b8I h];simp [h]
 subst hl3;have hlen3:=b1M p ck;refine b2k (n:=2) (el:=141) (z:=11) (a3i p ck).length rfl rfl rfl hlen3 (zR ?_);refine ⟨hS4.cl,_,rfl,yJ _,fun jj v hv=>?_⟩;have fl:=a3b (a3i p ck);rw [C9 hS4.arr,S0 _ _ _ _ (by rw [fl,hzs];omega),zM ⟨xA _,by rw [yW];exact (xS.1 hv).1⟩];exact hv
end
