/- One part of the proof: Pk14. -/
import Derived.Test.YtpclhlhcegcflaaGreatDoorM1
import Derived.Test.YtpclhlhcegcflaaGreatDoorM3
import Derived.Test.YtpclhlhcegcflaaGreatDoorM9
namespace Go.Proofs.YtpclhlhcegcflaaGreatDoor
set_option maxRecDepth 100000
set_option linter.unusedSimpArgs false
set_option linter.unusedVariables false
section
open Go Go.RowKit
open E
open Ch Bb
theorem z2:∃ z,(G.P.info? 294).bind (·.zero)=some z∧z.cells.size=22:=a0H zk
structure CsI (w0:World) (P b A:Nat) (h:Hd) (cv:Value) (B:MB) (Z:Array Value) (l:List PM) (w:World):Prop where
 hd:w.heap[P]?=some (.cells (hdA b h cv) 173 (0,0))
 bd:w.heap[b]?=some (.cells (mbA B) 237 (0,0))
 arr:w.heap[A]?=some (.cells (a4M Z 0 (l.flatMap C6)) 294 (0,0))
 cl:Cl w0 w
 tab0:C1 w0
 hP:P<w0.heap.size
 hb:b<w0.heap.size
 hA:w0.heap.size≤A
section csi
variable {w0 w w':World} {P b M A:Nat} {h:Hd} {cv:Value} {B:MB} {Z:Array Value} {x:PM} {l:List PM}
theorem CsI.tab (hI:CsI w0 P b A h cv B Z l w):C1 w:=hI.tab0.cl hI.cl
theorem CsI.lt (hI:CsI w0 P b A h cv B Z l w):P<w.heap.size∧b<w.heap.size∧A<w.heap.size :=
 ⟨(Array.getElem?_eq_some_iff.1 hI.hd).1,(Array.getElem?_eq_some_iff.1 hI.bd).1,(Array.getElem?_eq_some_iff.1 hI.arr).1⟩
theorem CsI.step (hI:CsI w0 P b A h cv B Z l w) (c:Cl w w'):CsI w0 P b A h cv B Z l w' :=
 ⟨c.blk hI.hd,c.blk hI.bd,c.blk hI.arr,hI.cl.trans c,hI.tab0,hI.hP,hI.hb,hI.hA⟩
theorem CsI.far (hI:CsI w0 P b A h cv B Z l w) (n:Tn M w w') (h1:P≠M) (h2:b≠M) (h3:A≠M) (h4:w0.heap.size≤M):CsI w0 P b A h cv B Z l w' :=
 ⟨n.blk hI.hd h1,n.blk hI.bd h2,n.blk hI.arr h3,n.toCl hI.cl h4,hI.tab0,hI.hP,hI.hb,hI.hA⟩
theorem CsI.push (hI:CsI w0 P b A h cv B Z l w) (u:Upd w A (.cells (a4M (a4M Z 0 (l.flatMap C6)) (l.length*11) (C6 x)) 294 (0,0)) w'):CsI w0 P b A h cv B Z (l++[x]) w':=by
 have h1:=hI.hP;have h2:=hI.hb;have h4:=hI.hA;have n:=Tn.upd u;have hz:a4M Z 0 ((l++[x]).flatMap C6)=a4M (a4M Z 0 (l.flatMap C6)) (l.length*11) (C6 x):=by
  rw [List.flatMap_append,a4J,a2x,Nat.zero_add];simp
 exact ⟨n.blk hI.hd zo,n.blk hI.bd zo,by rw [hz];exact u.at_,n.toCl hI.cl h4,hI.tab0,h1,h2,h4⟩
theorem a92 {o:Nat} {K:World→Prop} (hS:CsI w0 P b A h cv B Z l w) (hz:Z.size=22) (hl:l.length<2) (ho:o=l.length*11)
  (hk:∀ w',CsI w0 P b A h cv B Z (l++[x]) w'→K w'):Z1 G.P w 141 ⟨A,o,none⟩ (.agg (F0 (D3 x))) K:=by
 subst ho;exact J6 hS.arr (C6 x) rfl a1x rfl (L0 x) (by rw [D6,hz];omega) fun w' u=>hk w' (hS.push u)
end csi
theorem c0A (p:A3) {a b:Nat} (ha:a<64) (hb:b<64):(Bb.not (R7 p) &&& (D0 a ||| D0 b)=0)↔(sq p a=0∧sq p b=0):=by
 rw [Nat.and_or_distrib_left,Nat.or_eq_zero_iff,a2y,a2y,E0 _ ha,E0 _ hb,Y5 p ha,Y5 p hb];simp
theorem c2a (p:A3) {a b c:Nat} (ha:a<64) (hb:b<64) (hc:c<64):(Bb.not (R7 p) &&& (D0 a ||| D0 b ||| D0 c)=0)↔(sq p a=0∧sq p b=0∧sq p c=0):=by
 rw [Nat.and_or_distrib_left,Nat.or_eq_zero_iff,c0A p ha hb,a2y,E0 _ hc,Y5 p hc];simp [and_assoc]
def a73 (p:A3) (ck:Bool) (r a b:Nat):Bool:=P8 p.castle r&&(decide (Bb.not (R7 p) &&& (D0 a ||| D0 b)=0)&&(!([a,b]:List Nat).any ((mbOf p).att (p.turn+1)) && !ck))
def a74 (p:A3) (ck:Bool) (r a b c:Nat):Bool:=P8 p.castle r&&(decide (Bb.not (R7 p) &&& (D0 a ||| D0 b ||| D0 c)=0)&&(!([b,c]:List Nat).any ((mbOf p).att (p.turn+1)) && !ck))
theorem c2b {p:A3} (hI:B7 p) (ht:p.turn=0):O6 p 0=a73 p (inCheck p) 0 5 6:=by
 unfold O6 a73;rw [Bool.eq_iff_iff];have e:=fun {a:Nat} (h:a<64)=>a7t hI.pc (c:=p.turn) (.inl ht) h;simp only [List.any_cons,List.any_nil,e (show 5<64 by decide),e (show 6<64 by decide),c0A p (show 5<64 by decide) (show 6<64 by decide)]
 rw [show homeK ((0:Nat):Int)=4 from rfl,show A0 ((0:Nat):Int)=7 from rfl];simp [and_assoc,and_left_comm]
theorem c2c {p:A3} (hI:B7 p) (ht:p.turn=0):O6 p 1=a74 p (inCheck p) 1 1 2 3:=by
 unfold O6 a74;rw [Bool.eq_iff_iff];have e:=fun {a:Nat} (h:a<64)=>a7t hI.pc (c:=p.turn) (.inl ht) h;simp only [List.any_cons,List.any_nil,e (show 2<64 by decide),e (show 3<64 by decide),c2a p (show 1<64 by decide) (show 2<64 by decide) (show 3<64 by decide)]
 rw [show homeK ((1:Nat):Int)=4 from rfl,show A0 ((1:Nat):Int)=0 from rfl];simp;constructor
 ·rintro ⟨⟨⟨⟨⟨⟨h1,h2⟩,h3⟩,h4⟩,h5⟩,h6⟩,h7⟩;exact ⟨h1,⟨h4,h3,h2⟩,⟨h6,h5⟩,h7⟩
 ·rintro ⟨h1,⟨h4,h3,h2⟩,⟨h6,h5⟩,h7⟩;exact ⟨⟨⟨⟨⟨⟨h1,h2⟩,h3⟩,h4⟩,h5⟩,h6⟩,h7⟩
theorem c2d {p:A3} (hI:B7 p) (ht:p.turn=1):O6 p 2=a73 p (inCheck p) 2 61 62:=by
 unfold O6 a73;rw [Bool.eq_iff_iff];have e:=fun {a:Nat} (h:a<64)=>a7t hI.pc (c:=p.turn) (.inr ht) h;simp only [List.any_cons,List.any_nil,e (show 61<64 by decide),e (show 62<64 by decide),c0A p (show 61<64 by decide) (show 62<64 by decide)]
 rw [show homeK ((2:Nat):Int)=60 from rfl,show A0 ((2:Nat):Int)=63 from rfl];simp [and_assoc,and_left_comm]
theorem c2e {p:A3} (hI:B7 p) (ht:p.turn=1):O6 p 3=a74 p (inCheck p) 3 57 58 59:=by
 unfold O6 a74;rw [Bool.eq_iff_iff];have e:=fun {a:Nat} (h:a<64)=>a7t hI.pc (c:=p.turn) (.inr ht) h;simp only [List.any_cons,List.any_nil,e (show 58<64 by decide),e (show 59<64 by decide),c2a p (show 57<64 by decide) (show 58<64 by decide) (show 59<64 by decide)]
 rw [show homeK ((3:Nat):Int)=60 from rfl,show A0 ((3:Nat):Int)=56 from rfl];simp;constructor
 ·rintro ⟨⟨⟨⟨⟨⟨h1,h2⟩,h3⟩,h4⟩,h5⟩,h6⟩,h7⟩;exact ⟨h1,⟨h4,h3,h2⟩,⟨h6,h5⟩,h7⟩
 ·rintro ⟨h1,⟨h4,h3,h2⟩,⟨h6,h5⟩,h7⟩;exact ⟨⟨⟨⟨⟨⟨h1,h2⟩,h3⟩,h4⟩,h5⟩,h6⟩,h7⟩
def a3L (p:A3) (r:Nat):PM:=⟨o4 r,(if r%2=0 then 1 else 2) ||| tg p (o4 r)⟩
def b2v (p:A3) (r t:Nat):PM:=⟨o4 r,t ||| tg p (o4 r)⟩
theorem a1B {p:A3} (hI:B7 p) {r:Nat} (hr:r=(2*p.turn).toNat∨r=(2*p.turn).toNat+1) (hm:O6 p r=true)
  {w:World} {P b M:Nat} {c:Bool} {cv:Value} (hA:AtI w P b M (A8 p c) cv (mbOf p) (D3 ⟨o4 r,if r%2=0 then 1 else 2⟩) w) :
  Calls G.P 253 #[.pointer (some ⟨M,0,none⟩),.pointer (some ⟨P,0,none⟩)] w (fun r' w'=>r' = .returned (.tuple #[])∧AtI w P b M (A8 p c) cv (mbOf p) (D3 (a3L p r)) w'):=by
 have ht:=hI.turn;have k0:=hI.king 0 (.inl rfl);have k1:=hI.king 1 (.inr rfl);have e0:(mbOf p).wk=kingAt p 0:=rfl;have e1:(mbOf p).bk=kingAt p 1:=rfl;obtain ⟨r4,rt,rb,hc⟩:=I5 hI (r:=r) (m:=o4 r) ⟨hr,((a66 hI hr).1 hm).1,rfl⟩;have hrange:0≤(o4 r).fr∧(o4 r).fr≤63∧0≤(o4 r).to∧(o4 r).to≤63:=by
  have:∀ r:Nat,r<4→0≤(o4 r).fr∧(o4 r).fr≤63∧0≤(o4 r).to∧(o4 r).to≤63:=by decide
  exact this r r4
 have hw:(if A0 (r:Int)<homeK r then (-1:Int) else 1)=1↔r%2=0:=by
  have:∀ r:Nat,r<4→((if A0 (r:Int)<homeK r then (-1:Int) else 1)=1↔r%2=0):=by decide
  exact this r r4
 refine (a89 (d:=D3 ⟨o4 r,if r%2=0 then 1 else 2⟩) (h:=A8 p c) (by show p.turn+1=1∨p.turn+1=2;omega) (by rw [e0];have:=k0.1;omega) (by rw [e0];exact k0.2.1) (by rw [e1];have:=k1.1;omega) (by rw [e1];exact k1.2.1) hrange.1 hrange.2.1 hrange.2.2.1 hrange.2.2.2 (by show (if r%2=0 then 1 else 2)<64;split<;>decide) (.inl rfl) w hA).mono ?_
 rintro r' w' ⟨h1,h2⟩;refine ⟨h1,?_⟩;have:=b0I hI hc;rw [show (if (if A0 (r:Int)<homeK r then (-1:Int) else 1)=1 then 1 else 2:Nat)=if r%2=0 then 1 else 2 by simp only [hw]] at this
 have e:(D3 (a3L p r))={ D3 ⟨o4 r,if r%2=0 then 1 else 2⟩ with tags:=b2q (mbOf p) (p.turn+1) p.ep (o4 r) (if r%2=0 then 1 else 2) }:=by rw [this];rfl
 rw [e];exact h2
theorem b6B {p:A3} {ck:Bool} (hck:inCheck p=true→ck=true) {r a b:Nat} (h:O6 p r=a73 p (inCheck p) r a b):S8 p ck r=a73 p ck r a b:=by
 unfold S8;rw [h];cases ck
 ·cases e:inCheck p
  ·rw [Bool.not_false,Bool.and_true]
  ·exact absurd (hck e) zd
 ·unfold a73;simp
theorem b6C {p:A3} {ck:Bool} (hck:inCheck p=true→ck=true) {r a b c:Nat} (h:O6 p r=a74 p (inCheck p) r a b c):S8 p ck r=a74 p ck r a b c:=by
 unfold S8;rw [h];cases ck
 ·cases e:inCheck p
  ·rw [Bool.not_false,Bool.and_true]
  ·exact absurd (hck e) zd
 ·unfold a74;simp
theorem a4N {p:A3} {ck:Bool} {r:Nat} (h:S8 p ck r=true):O6 p r=true:=by
 unfold S8 at h;rw [Bool.and_eq_true] at h;exact h.1
theorem b0O (p:A3) (ck:Bool):a2A p ck=(if S8 p ck (2*p.turn).toNat then [b2v p (2*p.turn).toNat 1] else [])++(if S8 p ck ((2*p.turn).toNat+1) then [b2v p ((2*p.turn).toNat+1) 2] else []):=by
 unfold a2A S8;cases ck
 ·simp [a09,b2v]
 ·simp
theorem b6D {p:A3} {ck:Bool} (ht:p.turn=0):a2A p ck=(if S8 p ck 0 then [a3L p 0] else [])++(if S8 p ck 1 then [a3L p 1] else []):=by
 rw [b0O,ht];rfl
theorem b6E {p:A3} {ck:Bool} (ht:p.turn=1):a2A p ck=(if S8 p ck 2 then [a3L p 2] else [])++(if S8 p ck 3 then [a3L p 3] else []):=by
 rw [b0O,ht];rfl
theorem b86 (w:World) (x y:Nat):Y2 (w.alloc (.cells (([Value.int .i8 x,.int .i8 y]:List Value).flatMap fun v=>v.cells.toList).toArray 138)) w.heap.size 2 (fun i=>.int .i8 (([x,y]:List Nat).getD i 0:Nat)) :=
 ⟨_,138,(0,0),d8 _ _,rfl,fun i hi=>by
  rcases (by omega:i=0∨i=1) with rfl | rfl<;>simp [Value.cells]⟩
theorem a57 {a:Nat} (h:a=0):(a:Int)=0:=by rw [h];rfl
theorem b3G {a:Nat} (h:a≠0):¬ (a:Int)=0:=by omega
theorem zD {A B:Prop} (h:B) (e:B→A:=by (intro h;refine zR ?_;(repeat ((first | refine And.intro ?_ trivial | (with_reducible refine And.intro (cA.trans cC) ?_) | (with_reducible refine And.intro cS ?_) | (with_reducible refine And.intro cA ?_) | refine zI ?_ | refine d9 (p8 _ zd _) ?_ | refine E.D4 (a57 hoc) ?_ | refine a7r hSC.hd ?_);refine zR ?_));exact h)):A:=e h
def zt0:E.Alt:=(.cons 17 (.cons 18 (.cons 19 (.cons 20 (.cons 21 (.cons 22 (.cons 23 (.cons 24 (.cons 25 (.cons 26 (.cons 27 (.cons 28 (.cons 29 (.cons 30 (.cons 31 (.cons 32 (.cons 33 (.cons 34 (.cons 35 (.cons 36 (.cons 37 .done .nil) .nil) .nil) .nil) .nil) .nil) .nil) .nil) .nil) .nil) .nil) (.cons 27 (.cons 26 (.cons 28 (.cons 29 (.cons 30 (.cons 31 (.cons 32 (.cons 33 (.cons 34 (.cons 35 (.cons 36 (.cons 37 .done .nil) .nil) .nil) .nil) .nil) .nil) .nil) .nil) .nil) .nil) .nil) .nil)) .nil) .nil) .nil) .nil) .nil) .nil) (.cons 20 (.cons 19 (.cons 21 (.cons 22 (.cons 23 (.cons 24 (.cons 25 (.cons 26 (.cons 27 (.cons 28 (.cons 29 (.cons 30 (.cons 31 (.cons 32 (.cons 33 (.cons 34 (.cons 35 (.cons 36 (.cons 37 .done .nil) .nil) .nil) .nil) .nil) .nil) .nil) .nil) .nil) .nil) .nil) (.cons 27 (.cons 26 (.cons 28 (.cons 29 (.cons 30 (.cons 31 (.cons 32 (.cons 33 (.cons 34 (.cons 35 (.cons 36 (.cons 37 .done .nil) .nil) .nil) .nil) .nil) .nil) .nil) .nil) .nil) .nil) .nil) .nil)) .nil) .nil) .nil) .nil) .nil) .nil) .nil)) .nil) .nil)
def zt1:E.Alt:=(.cons 17 (.cons 18 (.cons 19 (.cons 20 (.cons 21 (.cons 22 (.cons 23 (.cons 24 (.cons 25 (.cons 26 (.cons 27 (.cons 28 (.cons 29 (.cons 30 (.cons 31 (.cons 32 (.cons 33 (.cons 34 (.cons 35 .done .nil) .nil) .nil) .nil) .nil) .nil) .nil) .nil) .nil) .nil) .nil) (.cons 25 (.cons 24 (.cons 26 (.cons 27 (.cons 28 (.cons 29 (.cons 30 (.cons 31 (.cons 32 (.cons 33 (.cons 34 (.cons 35 .done .nil) .nil) .nil) .nil) .nil) .nil) .nil) .nil) .nil) .nil) .nil) .nil)) .nil) .nil) .nil) .nil) .nil) .nil) .nil)
set_option maxHeartbeats 2000000 in
theorem b6F {p:A3} (hI:B7 p) {ck:Bool} (hck:inCheck p=true→ck=true) {P b:Nat} {cv:Value} (w:World) (hT:C1 w)
  (hP:w.heap[P]?=some (.cells (hdA b (A8 p ck) cv) 173 (0,0))) (hB:w.heap[b]?=some (.cells (mbA (mbOf p)) 237 (0,0))) :
  Calls G.P 200 #[.pointer (some ⟨P,0,none⟩)] w (fun r w'=>Cl w w'∧∃ g,r = .returned (.slice (some ⟨g,0,none⟩) (a2A p ck).length 2)∧w.heap.size≤g∧∀ j v,((a2A p ck).flatMap C6)[j]?=some v→w'.cell? ⟨g,j,none⟩=some v):=by
 have hPs:P<w.heap.size:=(Array.getElem?_eq_some_iff.1 hP).1;have hbs:b<w.heap.size:=(Array.getElem?_eq_some_iff.1 hB).1;have ht:=hI.turn;have tc:∀ w':World,w'.heap[P]?=some (.cells (hdA b (A8 p ck) cv) 173 (0,0))→Calls G.P 121 #[.pointer (some ⟨P,0,none⟩)] w' (D5 (.int .i8 (p.turn+1)) w'):=fun w' h=>a4d w' h;obtain ⟨z,hz,hzs⟩:=z2;have cc:=fun sd hsd w=>a6c p.castle hI.c0 hI.c1 p.turn ht sd hsd w;refine zN Tryz.func200 ?_;refine zR ?_;refine t7 z hz ?_;have hS:CsI w P b w.heap.size (A8 p ck) cv (mbOf p) z.cells [] (w.alloc (.cells z.cells 294)) :=
  ⟨(Cl.alloc _ _).blk hP,(Cl.alloc _ _).blk hB,d8 _ _,Cl.alloc _ _,hT,hPs,hbs,Nat.le_refl _⟩
 generalize w.alloc (.cells z.cells 294)=w1 at *;clear hP hB;obtain ⟨kr,hkr⟩:∃ x,P8 p.castle (2*p.turn+(1-1)).toNat=x:=⟨_,rfl⟩;obtain ⟨kq,hkq⟩:∃ x,P8 p.castle (2*p.turn+(2-1)).toNat=x:=⟨_,rfl⟩;have c1:=fun w=>cc 1 (.inl rfl) w;have c2:=fun w=>cc 2 (.inr rfl) w;rw [hkr] at c1;rw [hkq] at c2;refine zR ?_;refine zK 8 ?_;refine zR ?_;refine b9y hS.hd (zR ?_);refine A5 _ (fun w hw=>tc w (hw.blk hS.hd)) (zR ?_);refine C7 _ (fun _ _ h=>h.trans) (fun w hw=>c1 w) (zR ?_);intro w2 cl2;have hS2:=hS.step cl2;clear hS cl2;refine zR ?_;refine zK 8 ?_;refine zR ?_;refine b9y hS2.hd (zR ?_);refine A5 _ (fun w hw=>tc w (hw.blk hS2.hd)) (zR ?_);refine C7 _ (fun _ _ h=>h.trans) (fun w hw=>c2 w) (zG ?_);intro w3 cl3;have hS3:=hS2.step cl3;clear hS2 cl3 c1 c2 cc;refine zG ?_;have heq0:([]:List PM)=[]:=rfl;obtain ⟨cb,hcb⟩:∃ x,(decide (p.turn=0)&&S8 p ck 0)=x:=⟨_,rfl⟩;have hlen:p.turn=0→(([]:List PM)).length<2:=fun e=>by rw [heq0];simp [e]
 have heq0:([]:List PM)=[]:=rfl;obtain ⟨cb,hcb⟩:∃ x,(decide (p.turn=0)&&S8 p ck 0)=x:=⟨_,rfl⟩;have hlen:p.turn=0→(([]:List PM)).length<2:=fun e=>by rw [heq0];simp [e]
 have heq0:([]:List PM)=[]:=rfl;obtain ⟨cb,hcb⟩:∃ x,(decide (p.turn=0)&&S8 p ck 0)=x:=⟨_,rfl⟩;have hlen:p.turn=0→(([]:List PM)).length<2:=fun e=>by rw [heq0];simp [e]
 refine A4 (σ:=List PM) [4,7] 25 (fun l=>[(4,.int .i64 l.length)]) (fun l w'=>l=([]:List PM)++(if p.turn=0∧S8 p ck 0=true then [a3L p 0] else [])∧CsI w P b w.heap.size (A8 p ck) cv (mbOf p) z.cells l w') zk ?_ (fun l0 j w4_0 hS4=>?_)
 ·refine Nx.go ?_;refine A4 (σ:=Unit) [25,26,27,28,29,30,31,32,33,34,35,36,37,38,39,40,41,42,43,44,45,46,47,48,49,50,51,52,53,54,55,56,57,58,59,60] 61 (fun _=>[(60,.bool cb)]) (fun _ w'=>CsI w P b w.heap.size (A8 p ck) cv (mbOf p) z.cells ([]:List PM) w') zk ?_ (fun _ j wS hS5=>?_)
  ·have hP:=hS3.hd;have hB:=hS3.bd;refine zR ?_;by_cases htc:p.turn=0;rotate_left
   ·refine zK 36 ?_;refine zQ ?_;refine E.o7 (by show ¬ p.turn+1=1;omega) (zQ ?_)
    intro w' c';refine zR ?_;exact ⟨(),⟨p9 (Eq.trans (by rw [decide_eq_false htc];rfl) hcb),trivial⟩,hS3.step c'⟩
   ·have hmay:S8 p ck 0=a73 p ck 0 5 6:=b6B hck (c2b hI htc);have hk:P8 p.castle 0=kr:=by rw [← hkr,htc];rfl
    unfold a73 at hmay;rw [hk] at hmay;have hd1:decide (p.turn=0)=true:=decide_eq_true htc;cases hkk:kr
    ·rw [hkk] at hmay;subst hkk;refine zK 36 ?_;refine zQ ?_;refine E.D4 (by show p.turn+1=1;omega) (zQ ?_)
     intro w' c';refine zR ?_;exact ⟨(),⟨p9 (Eq.trans (by rw [hd1,hmay];rfl) hcb),trivial⟩,hS3.step c'⟩
    ·rw [hkk] at hmay;subst hkk;by_cases hoc:Bb.not (R7 p) &&& (D0 5 ||| D0 6)=0
     rotate_left
     ·rw [decide_eq_false hoc] at hmay;refine zK 36 ?_;refine zQ ?_;refine E.D4 (by show p.turn+1=1;omega) (zQ ?_)
      refine A5 _ (fun w hw=>p8 5 zd w) (zQ ?_);refine A5 _ (fun w hw=>p8 6 zd w) (zQ ?_);refine E.o7 (b3G hoc) (zQ ?_);intro w' c';refine zR ?_;exact ⟨(),⟨p9 (Eq.trans (by rw [hd1,hmay];rfl) hcb),trivial⟩,hS3.step c'⟩
     ·rw [decide_eq_true hoc,Bool.true_and,Bool.true_and] at hmay;have hat:=fun w hT hP hB g cap hS=>a1v (P:=P) (b:=b) (t:=173) (u:=237) (fz:=(0,0)) (fy:=(0,0)) (cv:=cv) (B:=mbOf p) (h:=A8 p ck) (by show p.turn+1=1∨p.turn+1=2;omega) [5,6] zd zd g cap w hT hP hB hS
      have e0:(A8 p ck).turn=p.turn+1:=rfl;rw [e0] at hat;obtain ⟨AT,hA0⟩:∃ AT,([5,6]:List Nat).any ((mbOf p).att (p.turn+1))=AT:=⟨_,rfl⟩;rw [hA0] at hmay;have cS:Cl w3 w3.drew:=Cl.drew (Cl.refl _);simp only [hA0] at hat;have cA:Cl w3 (w3.drew.alloc (.cells (([Value.int .i8 5,.int .i8 6]:List Value).flatMap fun v=>v.cells.toList).toArray 138)):=cS.trans (Cl.alloc _ _);have hSA:=hS3.step cA;have hbx:=b86 w3.drew 5 6;cases AT
      ·refine I8.mk3 (Cl w3) [0,1,2,3,4,5,6,7,8,9,10,11,12,13,14,15,16] zt1 (Cl.drew (Cl.refl _)) zk (zQ ?_);refine E.D4 (by show p.turn+1=1;omega) (zQ ?_)
       refine zD ?_;refine ⟨?_,?_,trivial⟩
       ·refine zD ?_;refine zL a05 [.int .i8 5,.int .i8 6] ?_;refine zD ?_;refine m9 (hat _ hSA.tab hSA.hd hSA.bd _ _ hbx) fun wC cC=>?_;have hSC:=hSA.step cC;refine zD ?_;exact ⟨(),⟨p9 (Eq.trans (by rw [hd1,hmay];rfl) hcb),trivial⟩,hS3.step (cA.trans cC)⟩
       ·refine zR ?_;try (refine E.D4 (a57 hoc) ?_;refine zR ?_)
        refine zL a05 [.int .i8 5,.int .i8 6] ?_;refine zD ?_;refine m9 (hat _ hSA.tab hSA.hd hSA.bd _ _ hbx) fun wC cC=>?_;have hSC:=hSA.step cC;refine zD ?_;exact ⟨(),⟨p9 (Eq.trans (by rw [hd1,hmay];rfl) hcb),trivial⟩,hS3.step (cA.trans cC)⟩
      ·refine I8.mk3 (Cl w3) [0,1,2,3,4,5,6,7,8,9,10,11,12,13,14,15,16] zt1 (Cl.drew (Cl.refl _)) zk (zQ ?_);refine E.D4 (by show p.turn+1=1;omega) (zQ ?_)
       refine zD ?_;refine ⟨?_,?_,trivial⟩
       ·refine zD ?_;refine zL a05 [.int .i8 5,.int .i8 6] ?_;refine zD ?_;refine m9 (hat _ hSA.tab hSA.hd hSA.bd _ _ hbx) fun wC cC=>?_;have hSC:=hSA.step cC;refine zD ?_;exact ⟨(),⟨p9 (Eq.trans (by rw [hd1,hmay];rfl) hcb),trivial⟩,hS3.step (cA.trans cC)⟩
       ·refine zR ?_;try (refine E.D4 (a57 hoc) ?_;refine zR ?_)
        refine zL a05 [.int .i8 5,.int .i8 6] ?_;refine zD ?_;refine m9 (hat _ hSA.tab hSA.hd hSA.bd _ _ hbx) fun wC cC=>?_;have hSC:=hSA.step cC;refine zD ?_;exact ⟨(),⟨p9 (Eq.trans (by rw [hd1,hmay];rfl) hcb),trivial⟩,hS3.step (cA.trans cC)⟩
  ·cases cb
   ·have hno:¬ (p.turn=0∧S8 p ck 0=true):=fun e=>by rw [e.2,decide_eq_true e.1] at hcb;exact absurd hcb zd
    refine zR ?_;exact ⟨_,⟨rfl,trivial⟩,by rw [if_neg hno,List.append_nil],hS5⟩
   ·have hyes:p.turn=0∧S8 p ck 0=true:=by
     rw [Bool.and_eq_true,decide_eq_true_eq] at hcb;exact hcb
    have hlen:=hlen hyes.1;have hr:0=(2*p.turn).toNat∨0=(2*p.turn).toNat+1:=by rw [hyes.1];decide
    refine zR ?_;refine s9 (F0 (D3 ⟨o4 (0:Nat),0⟩)) zk (zR ?_);refine t7 _ a6b ?_;have cA:=Cl.alloc wS (.cells (Value.agg (F0 (D3 ⟨⟨0,0,0⟩,0⟩))).cells 141);have nA:=d8 wS (.cells (Value.agg (F0 (D3 ⟨⟨0,0,0⟩,0⟩))).cells 141);have sA:=y9 wS (.cells (Value.agg (F0 (D3 ⟨⟨0,0,0⟩,0⟩))).cells 141);have lt5:=hS5.lt;have ge5:=hS5.cl.size;have hS6:=hS5.step cA;generalize wS.alloc (.cells (Value.agg (F0 (D3 ⟨⟨0,0,0⟩,0⟩))).cells 141)=w6 at *;refine zR ?_;refine J6 nA (C6 ⟨o4 (0:Nat),0⟩) rfl a1x rfl (L0 _) (Nat.le_of_ble_eq_true rfl) fun w7 u7=>?_;have hS7:=hS6.far (Tn.upd u7) zo zo zo ge5;have n7:w7.heap[wS.heap.size]?=some (.cells (F0 (D3 ⟨o4 (0:Nat),0⟩)) 141 (0,0)):=u7.at_;refine zR ?_;refine o8 (V9 (d:=D3 ⟨o4 (0:Nat),0⟩) (tag:=1) zd zd _ n7) ?_;rintro r w8 ⟨rfl,u8⟩;refine ⟨_,rfl,?_⟩;have hS8:=hS7.far (Tn.upd u8) zo zo zo ge5;refine zR ?_;refine o8 (a1B hI (r:=0) hr (a4N hyes.2) ⟨hS8.hd,hS8.bd,u8.at_,Tn.refl _ _,hS8.tab,zo,zo⟩) ?_;rintro r w9 ⟨rfl,h9⟩;refine ⟨_,rfl,?_⟩;have hS9:=hS8.far h9.tn zo zo zo ge5;have nl:=C2 (i:=([]:List PM).length) zo;refine zR ?_;refine d6 _ (b4D h9.nd) (zR ?_);refine a92 hS9 hzs hlen rfl fun w10 hS10=>zR ?_;exact ⟨_,⟨rfl,trivial⟩,by rw [if_pos hyes],hS10⟩
 obtain ⟨heq1,hS4⟩:=hS4;rw [heq0] at heq1;clear hcb cb hlen;have hS4_0:=hS4;clear hS4 hS3;obtain ⟨cb,hcb⟩:∃ x,(decide (p.turn=0)&&S8 p ck 1)=x:=⟨_,rfl⟩;have hlen:p.turn=0→(l0).length<2:=fun e=>by rw [heq1];simp [e];(try split)<;>simp
 refine A4 (σ:=List PM) [4,8] 25 (fun l=>[(4,.int .i64 l.length)]) (fun l w'=>l=l0++(if p.turn=0∧S8 p ck 1=true then [a3L p 1] else [])∧CsI w P b w.heap.size (A8 p ck) cv (mbOf p) z.cells l w') zk ?_ (fun l1 j w4_1 hS4=>?_)
 ·refine Nx.go ?_;refine A4 (σ:=Unit) [70,71,72,73,74,75,76,77,78,79,80,81,82,83,84,85,86,87,88,89,90,91,92,93,94,95,96,97,98,99,100,101,102,103,104,105,106,107] 108 (fun _=>[(107,.bool cb)]) (fun _ w'=>CsI w P b w.heap.size (A8 p ck) cv (mbOf p) z.cells l0 w') zk ?_ (fun _ j wS hS5=>?_)
  ·have hP:=hS4_0.hd;have hB:=hS4_0.bd;refine zR ?_;by_cases htc:p.turn=0;rotate_left
   ·refine zK 38 ?_;refine zQ ?_;refine E.o7 (by show ¬ p.turn+1=1;omega) (zQ ?_)
    intro w' c';refine zR ?_;exact ⟨(),⟨p9 (Eq.trans (by rw [decide_eq_false htc];rfl) hcb),trivial⟩,hS4_0.step c'⟩
   ·have hmay:S8 p ck 1=a74 p ck 1 1 2 3:=b6C hck (c2c hI htc);have hk:P8 p.castle 1=kq:=by rw [← hkq,htc];rfl
    unfold a74 at hmay;rw [hk] at hmay;have hd1:decide (p.turn=0)=true:=decide_eq_true htc;cases hkk:kq
    ·rw [hkk] at hmay;subst hkk;refine zK 38 ?_;refine zQ ?_;refine E.D4 (by show p.turn+1=1;omega) (zQ ?_)
     intro w' c';refine zR ?_;exact ⟨(),⟨p9 (Eq.trans (by rw [hd1,hmay];rfl) hcb),trivial⟩,hS4_0.step c'⟩
    ·rw [hkk] at hmay;subst hkk;by_cases hoc:Bb.not (R7 p) &&& (D0 1 ||| D0 2 ||| D0 3)=0
     rotate_left
     ·rw [decide_eq_false hoc] at hmay;refine zK 38 ?_;refine zQ ?_;refine E.D4 (by show p.turn+1=1;omega) (zQ ?_)
      refine A5 _ (fun w hw=>p8 1 zd w) (zQ ?_);refine A5 _ (fun w hw=>p8 2 zd w) (zQ ?_);refine A5 _ (fun w hw=>p8 3 zd w) (zQ ?_);refine E.o7 (b3G hoc) (zQ ?_);intro w' c';refine zR ?_;exact ⟨(),⟨p9 (Eq.trans (by rw [hd1,hmay];rfl) hcb),trivial⟩,hS4_0.step c'⟩
     ·rw [decide_eq_true hoc,Bool.true_and,Bool.true_and] at hmay;have hat:=fun w hT hP hB g cap hS=>a1v (P:=P) (b:=b) (t:=173) (u:=237) (fz:=(0,0)) (fy:=(0,0)) (cv:=cv) (B:=mbOf p) (h:=A8 p ck) (by show p.turn+1=1∨p.turn+1=2;omega) [2,3] zd zd g cap w hT hP hB hS
      have e0:(A8 p ck).turn=p.turn+1:=rfl;rw [e0] at hat;obtain ⟨AT,hA0⟩:∃ AT,([2,3]:List Nat).any ((mbOf p).att (p.turn+1))=AT:=⟨_,rfl⟩;rw [hA0] at hmay;have cS:Cl w4_0 w4_0.drew:=Cl.drew (Cl.refl _);simp only [hA0] at hat;have cA:Cl w4_0 (w4_0.drew.alloc (.cells (([Value.int .i8 2,.int .i8 3]:List Value).flatMap fun v=>v.cells.toList).toArray 138)):=cS.trans (Cl.alloc _ _);have hSA:=hS4_0.step cA;have hbx:=b86 w4_0.drew 2 3;cases AT
      ·refine I8.mk3 (Cl w4_0) [0,1,2,3,4,5,6,7,8,9,10,11,12,13,14,15,16] zt0 (Cl.drew (Cl.refl _)) zk (zQ ?_);refine E.D4 (by show p.turn+1=1;omega) (zQ ?_)
       refine zD ?_;refine ⟨?_,?_,trivial⟩
       ·refine zD ?_;refine ⟨?_,?_,trivial⟩
        ·refine zD ?_;refine zL a05 [.int .i8 2,.int .i8 3] ?_;refine zD ?_;refine m9 (hat _ hSA.tab hSA.hd hSA.bd _ _ hbx) fun wC cC=>?_;have hSC:=hSA.step cC;refine zD ?_;exact ⟨(),⟨p9 (Eq.trans (by rw [hd1,hmay];rfl) hcb),trivial⟩,hS4_0.step (cA.trans cC)⟩
        ·refine zR ?_;try (refine E.D4 (a57 hoc) ?_;refine zR ?_)
         refine zL a05 [.int .i8 2,.int .i8 3] ?_;refine zD ?_;refine m9 (hat _ hSA.tab hSA.hd hSA.bd _ _ hbx) fun wC cC=>?_;have hSC:=hSA.step cC;refine zD ?_;exact ⟨(),⟨p9 (Eq.trans (by rw [hd1,hmay];rfl) hcb),trivial⟩,hS4_0.step (cA.trans cC)⟩
       ·refine zD ?_;refine ⟨?_,?_,trivial⟩
        ·refine zD ?_;refine zL a05 [.int .i8 2,.int .i8 3] ?_;refine zD ?_;refine m9 (hat _ hSA.tab hSA.hd hSA.bd _ _ hbx) fun wC cC=>?_;have hSC:=hSA.step cC;refine zD ?_;exact ⟨(),⟨p9 (Eq.trans (by rw [hd1,hmay];rfl) hcb),trivial⟩,hS4_0.step (cA.trans cC)⟩
        ·refine zR ?_;try (refine E.D4 (a57 hoc) ?_;refine zR ?_)
         refine zL a05 [.int .i8 2,.int .i8 3] ?_;refine zD ?_;refine m9 (hat _ hSA.tab hSA.hd hSA.bd _ _ hbx) fun wC cC=>?_;have hSC:=hSA.step cC;refine zD ?_;exact ⟨(),⟨p9 (Eq.trans (by rw [hd1,hmay];rfl) hcb),trivial⟩,hS4_0.step (cA.trans cC)⟩
      ·refine I8.mk3 (Cl w4_0) [0,1,2,3,4,5,6,7,8,9,10,11,12,13,14,15,16] zt0 (Cl.drew (Cl.refl _)) zk (zQ ?_);refine E.D4 (by show p.turn+1=1;omega) (zQ ?_)
       refine zD ?_;refine ⟨?_,?_,trivial⟩
       ·refine zD ?_;refine ⟨?_,?_,trivial⟩
        ·refine zD ?_;refine zL a05 [.int .i8 2,.int .i8 3] ?_;refine zD ?_;refine m9 (hat _ hSA.tab hSA.hd hSA.bd _ _ hbx) fun wC cC=>?_;have hSC:=hSA.step cC;refine zD ?_;exact ⟨(),⟨p9 (Eq.trans (by rw [hd1,hmay];rfl) hcb),trivial⟩,hS4_0.step (cA.trans cC)⟩
        ·refine zR ?_;try (refine E.D4 (a57 hoc) ?_;refine zR ?_)
         refine zL a05 [.int .i8 2,.int .i8 3] ?_;refine zD ?_;refine m9 (hat _ hSA.tab hSA.hd hSA.bd _ _ hbx) fun wC cC=>?_;have hSC:=hSA.step cC;refine zD ?_;exact ⟨(),⟨p9 (Eq.trans (by rw [hd1,hmay];rfl) hcb),trivial⟩,hS4_0.step (cA.trans cC)⟩
       ·refine zD ?_;refine ⟨?_,?_,trivial⟩
        ·refine zD ?_;refine zL a05 [.int .i8 2,.int .i8 3] ?_;refine zD ?_;refine m9 (hat _ hSA.tab hSA.hd hSA.bd _ _ hbx) fun wC cC=>?_;have hSC:=hSA.step cC;refine zD ?_;exact ⟨(),⟨p9 (Eq.trans (by rw [hd1,hmay];rfl) hcb),trivial⟩,hS4_0.step (cA.trans cC)⟩
        ·refine zR ?_;try (refine E.D4 (a57 hoc) ?_;refine zR ?_)
         refine zL a05 [.int .i8 2,.int .i8 3] ?_;refine zD ?_;refine m9 (hat _ hSA.tab hSA.hd hSA.bd _ _ hbx) fun wC cC=>?_;have hSC:=hSA.step cC;refine zD ?_;exact ⟨(),⟨p9 (Eq.trans (by rw [hd1,hmay];rfl) hcb),trivial⟩,hS4_0.step (cA.trans cC)⟩
  ·cases cb
   ·have hno:¬ (p.turn=0∧S8 p ck 1=true):=fun e=>by rw [e.2,decide_eq_true e.1] at hcb;exact absurd hcb zd
    refine zR ?_;exact ⟨_,⟨rfl,trivial⟩,by rw [if_neg hno,List.append_nil],hS5⟩
   ·have hyes:p.turn=0∧S8 p ck 1=true:=by
     rw [Bool.and_eq_true,decide_eq_true_eq] at hcb;exact hcb
    have hlen:=hlen hyes.1;have hr:1=(2*p.turn).toNat∨1=(2*p.turn).toNat+1:=by rw [hyes.1];decide
    refine zR ?_;refine s9 (F0 (D3 ⟨o4 (1:Nat),0⟩)) zk (zR ?_);refine t7 _ a6b ?_;have cA:=Cl.alloc wS (.cells (Value.agg (F0 (D3 ⟨⟨0,0,0⟩,0⟩))).cells 141);have nA:=d8 wS (.cells (Value.agg (F0 (D3 ⟨⟨0,0,0⟩,0⟩))).cells 141);have sA:=y9 wS (.cells (Value.agg (F0 (D3 ⟨⟨0,0,0⟩,0⟩))).cells 141);have lt5:=hS5.lt;have ge5:=hS5.cl.size;have hS6:=hS5.step cA;generalize wS.alloc (.cells (Value.agg (F0 (D3 ⟨⟨0,0,0⟩,0⟩))).cells 141)=w6 at *;refine zR ?_;refine J6 nA (C6 ⟨o4 (1:Nat),0⟩) rfl a1x rfl (L0 _) (Nat.le_of_ble_eq_true rfl) fun w7 u7=>?_;have hS7:=hS6.far (Tn.upd u7) zo zo zo ge5;have n7:w7.heap[wS.heap.size]?=some (.cells (F0 (D3 ⟨o4 (1:Nat),0⟩)) 141 (0,0)):=u7.at_;refine zR ?_;refine o8 (V9 (d:=D3 ⟨o4 (1:Nat),0⟩) (tag:=2) zd zd _ n7) ?_;rintro r w8 ⟨rfl,u8⟩;refine ⟨_,rfl,?_⟩;have hS8:=hS7.far (Tn.upd u8) zo zo zo ge5;refine zR ?_;refine o8 (a1B hI (r:=1) hr (a4N hyes.2) ⟨hS8.hd,hS8.bd,u8.at_,Tn.refl _ _,hS8.tab,zo,zo⟩) ?_;rintro r w9 ⟨rfl,h9⟩;refine ⟨_,rfl,?_⟩;have hS9:=hS8.far h9.tn zo zo zo ge5;have nl:=C2 (i:=l0.length) zo;refine zR ?_;refine d6 _ (b4D h9.nd) (zR ?_);refine zC ?_;refine zR ?_;refine a92 hS9 hzs hlen (a0y _ _) fun w10 hS10=>zR ?_;exact ⟨_,⟨m7 (nl.trans (by rw [List.length_append];rfl)),trivial⟩,by rw [if_pos hyes],hS10⟩
 obtain ⟨heq2,hS4⟩:=hS4;rw [heq1] at heq2;clear hcb cb hlen;have hS4_1:=hS4;clear hS4 hS4_0;obtain ⟨cb,hcb⟩:∃ x,(decide (p.turn=1)&&S8 p ck 2)=x:=⟨_,rfl⟩;have hlen:p.turn=1→(l1).length<2:=fun e=>by rw [heq2];simp [e]
 refine A4 (σ:=List PM) [4,9] 25 (fun l=>[(4,.int .i64 l.length)]) (fun l w'=>l=l1++(if p.turn=1∧S8 p ck 2=true then [a3L p 2] else [])∧CsI w P b w.heap.size (A8 p ck) cv (mbOf p) z.cells l w') zk ?_ (fun l2 j w4_2 hS4=>?_)
 ·refine Nx.go ?_;refine A4 (σ:=Unit) [117,118,119,120,121,122,123,124,125,126,127,128,129,130,131,132,133,134,135,136,137,138,139,140,141,142,143,144,145,146,147,148,149,150,151,152] 153 (fun _=>[(152,.bool cb)]) (fun _ w'=>CsI w P b w.heap.size (A8 p ck) cv (mbOf p) z.cells l1 w') zk ?_ (fun _ j wS hS5=>?_)
  ·have hP:=hS4_1.hd;have hB:=hS4_1.bd;refine zR ?_;by_cases htc:p.turn=1;rotate_left
   ·refine zK 36 ?_;refine zQ ?_;refine E.o7 (by show ¬ p.turn+1=2;omega) (zQ ?_)
    intro w' c';refine zR ?_;exact ⟨(),⟨p9 (Eq.trans (by rw [decide_eq_false htc];rfl) hcb),trivial⟩,hS4_1.step c'⟩
   ·have hmay:S8 p ck 2=a73 p ck 2 61 62:=b6B hck (c2d hI htc);have hk:P8 p.castle 2=kr:=by rw [← hkr,htc];rfl
    unfold a73 at hmay;rw [hk] at hmay;have hd1:decide (p.turn=1)=true:=decide_eq_true htc;cases hkk:kr
    ·rw [hkk] at hmay;subst hkk;refine zK 36 ?_;refine zQ ?_;refine E.D4 (by show p.turn+1=2;omega) (zQ ?_)
     intro w' c';refine zR ?_;exact ⟨(),⟨p9 (Eq.trans (by rw [hd1,hmay];rfl) hcb),trivial⟩,hS4_1.step c'⟩
    ·rw [hkk] at hmay;subst hkk;by_cases hoc:Bb.not (R7 p) &&& (D0 61 ||| D0 62)=0
     rotate_left
     ·rw [decide_eq_false hoc] at hmay;refine zK 36 ?_;refine zQ ?_;refine E.D4 (by show p.turn+1=2;omega) (zQ ?_)
      refine A5 _ (fun w hw=>p8 61 zd w) (zQ ?_);refine A5 _ (fun w hw=>p8 62 zd w) (zQ ?_);refine E.o7 (b3G hoc) (zQ ?_);intro w' c';refine zR ?_;exact ⟨(),⟨p9 (Eq.trans (by rw [hd1,hmay];rfl) hcb),trivial⟩,hS4_1.step c'⟩
     ·rw [decide_eq_true hoc,Bool.true_and,Bool.true_and] at hmay;have hat:=fun w hT hP hB g cap hS=>a1v (P:=P) (b:=b) (t:=173) (u:=237) (fz:=(0,0)) (fy:=(0,0)) (cv:=cv) (B:=mbOf p) (h:=A8 p ck) (by show p.turn+1=1∨p.turn+1=2;omega) [61,62] zd zd g cap w hT hP hB hS
      have e0:(A8 p ck).turn=p.turn+1:=rfl;rw [e0] at hat;obtain ⟨AT,hA0⟩:∃ AT,([61,62]:List Nat).any ((mbOf p).att (p.turn+1))=AT:=⟨_,rfl⟩;rw [hA0] at hmay;have cS:Cl w4_1 w4_1.drew:=Cl.drew (Cl.refl _);simp only [hA0] at hat;have cA:Cl w4_1 (w4_1.drew.alloc (.cells (([Value.int .i8 61,.int .i8 62]:List Value).flatMap fun v=>v.cells.toList).toArray 138)):=cS.trans (Cl.alloc _ _);have hSA:=hS4_1.step cA;have hbx:=b86 w4_1.drew 61 62;cases AT
      ·refine I8.mk3 (Cl w4_1) [0,1,2,3,4,5,6,7,8,9,10,11,12,13,14,15,16] zt1 (Cl.drew (Cl.refl _)) zk (zQ ?_);refine E.D4 (by show p.turn+1=2;omega) (zQ ?_)
       refine zD ?_;refine ⟨?_,?_,trivial⟩
       ·refine zD ?_;refine zL a05 [.int .i8 61,.int .i8 62] ?_;refine zD ?_;refine m9 (hat _ hSA.tab hSA.hd hSA.bd _ _ hbx) fun wC cC=>?_;have hSC:=hSA.step cC;refine zD ?_;exact ⟨(),⟨p9 (Eq.trans (by rw [hd1,hmay];rfl) hcb),trivial⟩,hS4_1.step (cA.trans cC)⟩
       ·refine zR ?_;try (refine E.D4 (a57 hoc) ?_;refine zR ?_)
        refine zL a05 [.int .i8 61,.int .i8 62] ?_;refine zD ?_;refine m9 (hat _ hSA.tab hSA.hd hSA.bd _ _ hbx) fun wC cC=>?_;have hSC:=hSA.step cC;refine zD ?_;exact ⟨(),⟨p9 (Eq.trans (by rw [hd1,hmay];rfl) hcb),trivial⟩,hS4_1.step (cA.trans cC)⟩
      ·refine I8.mk3 (Cl w4_1) [0,1,2,3,4,5,6,7,8,9,10,11,12,13,14,15,16] zt1 (Cl.drew (Cl.refl _)) zk (zQ ?_);refine E.D4 (by show p.turn+1=2;omega) (zQ ?_)
       refine zD ?_;refine ⟨?_,?_,trivial⟩
       ·refine zD ?_;refine zL a05 [.int .i8 61,.int .i8 62] ?_;refine zD ?_;refine m9 (hat _ hSA.tab hSA.hd hSA.bd _ _ hbx) fun wC cC=>?_;have hSC:=hSA.step cC;refine zD ?_;exact ⟨(),⟨p9 (Eq.trans (by rw [hd1,hmay];rfl) hcb),trivial⟩,hS4_1.step (cA.trans cC)⟩
       ·refine zR ?_;try (refine E.D4 (a57 hoc) ?_;refine zR ?_)
        refine zL a05 [.int .i8 61,.int .i8 62] ?_;refine zD ?_;refine m9 (hat _ hSA.tab hSA.hd hSA.bd _ _ hbx) fun wC cC=>?_;have hSC:=hSA.step cC;refine zD ?_;exact ⟨(),⟨p9 (Eq.trans (by rw [hd1,hmay];rfl) hcb),trivial⟩,hS4_1.step (cA.trans cC)⟩
  ·cases cb
   ·have hno:¬ (p.turn=1∧S8 p ck 2=true):=fun e=>by rw [e.2,decide_eq_true e.1] at hcb;exact absurd hcb zd
    refine zR ?_;exact ⟨_,⟨rfl,trivial⟩,by rw [if_neg hno,List.append_nil],hS5⟩
   ·have hyes:p.turn=1∧S8 p ck 2=true:=by
     rw [Bool.and_eq_true,decide_eq_true_eq] at hcb;exact hcb
    have hlen:=hlen hyes.1;have hr:2=(2*p.turn).toNat∨2=(2*p.turn).toNat+1:=by rw [hyes.1];decide
    refine zR ?_;refine s9 (F0 (D3 ⟨o4 (2:Nat),0⟩)) zk (zR ?_);refine t7 _ a6b ?_;have cA:=Cl.alloc wS (.cells (Value.agg (F0 (D3 ⟨⟨0,0,0⟩,0⟩))).cells 141);have nA:=d8 wS (.cells (Value.agg (F0 (D3 ⟨⟨0,0,0⟩,0⟩))).cells 141);have sA:=y9 wS (.cells (Value.agg (F0 (D3 ⟨⟨0,0,0⟩,0⟩))).cells 141);have lt5:=hS5.lt;have ge5:=hS5.cl.size;have hS6:=hS5.step cA;generalize wS.alloc (.cells (Value.agg (F0 (D3 ⟨⟨0,0,0⟩,0⟩))).cells 141)=w6 at *;refine zR ?_;refine J6 nA (C6 ⟨o4 (2:Nat),0⟩) rfl a1x rfl (L0 _) (Nat.le_of_ble_eq_true rfl) fun w7 u7=>?_;have hS7:=hS6.far (Tn.upd u7) zo zo zo ge5;have n7:w7.heap[wS.heap.size]?=some (.cells (F0 (D3 ⟨o4 (2:Nat),0⟩)) 141 (0,0)):=u7.at_;refine zR ?_;refine o8 (V9 (d:=D3 ⟨o4 (2:Nat),0⟩) (tag:=1) zd zd _ n7) ?_;rintro r w8 ⟨rfl,u8⟩;refine ⟨_,rfl,?_⟩;have hS8:=hS7.far (Tn.upd u8) zo zo zo ge5;refine zR ?_;refine o8 (a1B hI (r:=2) hr (a4N hyes.2) ⟨hS8.hd,hS8.bd,u8.at_,Tn.refl _ _,hS8.tab,zo,zo⟩) ?_;rintro r w9 ⟨rfl,h9⟩;refine ⟨_,rfl,?_⟩;have hS9:=hS8.far h9.tn zo zo zo ge5;have nl:=C2 (i:=l1.length) zo;refine zR ?_;refine d6 _ (b4D h9.nd) (zR ?_);refine zC ?_;refine zR ?_;refine a92 hS9 hzs hlen (a0y _ _) fun w10 hS10=>zR ?_;exact ⟨_,⟨m7 (nl.trans (by rw [List.length_append];rfl)),trivial⟩,by rw [if_pos hyes],hS10⟩
 obtain ⟨heq3,hS4⟩:=hS4;rw [heq2] at heq3;clear hcb cb hlen;have hS4_2:=hS4;clear hS4 hS4_1;obtain ⟨cb,hcb⟩:∃ x,(decide (p.turn=1)&&S8 p ck 3)=x:=⟨_,rfl⟩;have hlen:p.turn=1→(l2).length<2:=fun e=>by rw [heq3];simp [e];(try split)<;>simp
 refine A4 (σ:=List PM) [4,10] 25 (fun l=>[(4,.int .i64 l.length)]) (fun l w'=>l=l2++(if p.turn=1∧S8 p ck 3=true then [a3L p 3] else [])∧CsI w P b w.heap.size (A8 p ck) cv (mbOf p) z.cells l w') zk ?_ (fun l3 j w4_3 hS4=>?_)
 ·refine Nx.go ?_;refine A4 (σ:=Unit) [162,163,164,165,166,167,168,169,170,171,172,173,174,175,176,177,178,179,180,181,182,183,184,185,186,187,188,189,190,191,192,193,194,195,196,197,198,199] 200 (fun _=>[(199,.bool cb)]) (fun _ w'=>CsI w P b w.heap.size (A8 p ck) cv (mbOf p) z.cells l2 w') zk ?_ (fun _ j wS hS5=>?_)
  ·have hP:=hS4_2.hd;have hB:=hS4_2.bd;refine zR ?_;by_cases htc:p.turn=1;rotate_left
   ·refine zK 38 ?_;refine zQ ?_;refine E.o7 (by show ¬ p.turn+1=2;omega) (zQ ?_)
    intro w' c';refine zR ?_;exact ⟨(),⟨p9 (Eq.trans (by rw [decide_eq_false htc];rfl) hcb),trivial⟩,hS4_2.step c'⟩
   ·have hmay:S8 p ck 3=a74 p ck 3 57 58 59:=b6C hck (c2e hI htc);have hk:P8 p.castle 3=kq:=by rw [← hkq,htc];rfl
    unfold a74 at hmay;rw [hk] at hmay;have hd1:decide (p.turn=1)=true:=decide_eq_true htc;cases hkk:kq
    ·rw [hkk] at hmay;subst hkk;refine zK 38 ?_;refine zQ ?_;refine E.D4 (by show p.turn+1=2;omega) (zQ ?_)
     intro w' c';refine zR ?_;exact ⟨(),⟨p9 (Eq.trans (by rw [hd1,hmay];rfl) hcb),trivial⟩,hS4_2.step c'⟩
    ·rw [hkk] at hmay;subst hkk;by_cases hoc:Bb.not (R7 p) &&& (D0 57 ||| D0 58 ||| D0 59)=0
     rotate_left
     ·rw [decide_eq_false hoc] at hmay;refine zK 38 ?_;refine zQ ?_;refine E.D4 (by show p.turn+1=2;omega) (zQ ?_)
      refine A5 _ (fun w hw=>p8 57 zd w) (zQ ?_);refine A5 _ (fun w hw=>p8 58 zd w) (zQ ?_);refine A5 _ (fun w hw=>p8 59 zd w) (zQ ?_);refine E.o7 (b3G hoc) (zQ ?_);intro w' c';refine zR ?_;exact ⟨(),⟨p9 (Eq.trans (by rw [hd1,hmay];rfl) hcb),trivial⟩,hS4_2.step c'⟩
     ·rw [decide_eq_true hoc,Bool.true_and,Bool.true_and] at hmay;have hat:=fun w hT hP hB g cap hS=>a1v (P:=P) (b:=b) (t:=173) (u:=237) (fz:=(0,0)) (fy:=(0,0)) (cv:=cv) (B:=mbOf p) (h:=A8 p ck) (by show p.turn+1=1∨p.turn+1=2;omega) [58,59] zd zd g cap w hT hP hB hS
      have e0:(A8 p ck).turn=p.turn+1:=rfl;rw [e0] at hat;obtain ⟨AT,hA0⟩:∃ AT,([58,59]:List Nat).any ((mbOf p).att (p.turn+1))=AT:=⟨_,rfl⟩;rw [hA0] at hmay;have cS:Cl w4_2 w4_2.drew:=Cl.drew (Cl.refl _);simp only [hA0] at hat;have cA:Cl w4_2 (w4_2.drew.alloc (.cells (([Value.int .i8 58,.int .i8 59]:List Value).flatMap fun v=>v.cells.toList).toArray 138)):=cS.trans (Cl.alloc _ _);have hSA:=hS4_2.step cA;have hbx:=b86 w4_2.drew 58 59;cases AT
      ·refine I8.mk3 (Cl w4_2) [0,1,2,3,4,5,6,7,8,9,10,11,12,13,14,15,16] zt0 (Cl.drew (Cl.refl _)) zk (zQ ?_);refine E.D4 (by show p.turn+1=2;omega) (zQ ?_)
       refine zD ?_;refine ⟨?_,?_,trivial⟩
       ·refine zD ?_;refine ⟨?_,?_,trivial⟩
        ·refine zD ?_;refine zL a05 [.int .i8 58,.int .i8 59] ?_;refine zD ?_;refine m9 (hat _ hSA.tab hSA.hd hSA.bd _ _ hbx) fun wC cC=>?_;have hSC:=hSA.step cC;refine zD ?_;exact ⟨(),⟨p9 (Eq.trans (by rw [hd1,hmay];rfl) hcb),trivial⟩,hS4_2.step (cA.trans cC)⟩
        ·refine zR ?_;try (refine E.D4 (a57 hoc) ?_;refine zR ?_)
         refine zL a05 [.int .i8 58,.int .i8 59] ?_;refine zD ?_;refine m9 (hat _ hSA.tab hSA.hd hSA.bd _ _ hbx) fun wC cC=>?_;have hSC:=hSA.step cC;refine zD ?_;exact ⟨(),⟨p9 (Eq.trans (by rw [hd1,hmay];rfl) hcb),trivial⟩,hS4_2.step (cA.trans cC)⟩
       ·refine zD ?_;refine ⟨?_,?_,trivial⟩
        ·refine zD ?_;refine zL a05 [.int .i8 58,.int .i8 59] ?_;refine zD ?_;refine m9 (hat _ hSA.tab hSA.hd hSA.bd _ _ hbx) fun wC cC=>?_;have hSC:=hSA.step cC;refine zD ?_;exact ⟨(),⟨p9 (Eq.trans (by rw [hd1,hmay];rfl) hcb),trivial⟩,hS4_2.step (cA.trans cC)⟩
        ·refine zR ?_;try (refine E.D4 (a57 hoc) ?_;refine zR ?_)
         refine zL a05 [.int .i8 58,.int .i8 59] ?_;refine zD ?_;refine m9 (hat _ hSA.tab hSA.hd hSA.bd _ _ hbx) fun wC cC=>?_;have hSC:=hSA.step cC;refine zD ?_;exact ⟨(),⟨p9 (Eq.trans (by rw [hd1,hmay];rfl) hcb),trivial⟩,hS4_2.step (cA.trans cC)⟩
      ·refine I8.mk3 (Cl w4_2) [0,1,2,3,4,5,6,7,8,9,10,11,12,13,14,15,16] zt0 (Cl.drew (Cl.refl _)) zk (zQ ?_);refine E.D4 (by show p.turn+1=2;omega) (zQ ?_)
       refine zD ?_;refine ⟨?_,?_,trivial⟩
       ·refine zD ?_;refine ⟨?_,?_,trivial⟩
        ·refine zD ?_;refine zL a05 [.int .i8 58,.int .i8 59] ?_;refine zD ?_;refine m9 (hat _ hSA.tab hSA.hd hSA.bd _ _ hbx) fun wC cC=>?_;have hSC:=hSA.step cC;refine zD ?_;exact ⟨(),⟨p9 (Eq.trans (by rw [hd1,hmay];rfl) hcb),trivial⟩,hS4_2.step (cA.trans cC)⟩
        ·refine zR ?_;try (refine E.D4 (a57 hoc) ?_;refine zR ?_)
         refine zL a05 [.int .i8 58,.int .i8 59] ?_;refine zD ?_;refine m9 (hat _ hSA.tab hSA.hd hSA.bd _ _ hbx) fun wC cC=>?_;have hSC:=hSA.step cC;refine zD ?_;exact ⟨(),⟨p9 (Eq.trans (by rw [hd1,hmay];rfl) hcb),trivial⟩,hS4_2.step (cA.trans cC)⟩
       ·refine zD ?_;refine ⟨?_,?_,trivial⟩
        ·refine zD ?_;refine zL a05 [.int .i8 58,.int .i8 59] ?_;refine zD ?_;refine m9 (hat _ hSA.tab hSA.hd hSA.bd _ _ hbx) fun wC cC=>?_;have hSC:=hSA.step cC;refine zD ?_;exact ⟨(),⟨p9 (Eq.trans (by rw [hd1,hmay];rfl) hcb),trivial⟩,hS4_2.step (cA.trans cC)⟩
        ·refine zR ?_;try (refine E.D4 (a57 hoc) ?_;refine zR ?_)
         refine zL a05 [.int .i8 58,.int .i8 59] ?_;refine zD ?_;refine m9 (hat _ hSA.tab hSA.hd hSA.bd _ _ hbx) fun wC cC=>?_;have hSC:=hSA.step cC;refine zD ?_;exact ⟨(),⟨p9 (Eq.trans (by rw [hd1,hmay];rfl) hcb),trivial⟩,hS4_2.step (cA.trans cC)⟩
  ·cases cb
   ·have hno:¬ (p.turn=1∧S8 p ck 3=true):=fun e=>by rw [e.2,decide_eq_true e.1] at hcb;exact absurd hcb zd
    refine zR ?_;exact ⟨_,⟨rfl,trivial⟩,by rw [if_neg hno,List.append_nil],hS5⟩
   ·have hyes:p.turn=1∧S8 p ck 3=true:=by
     rw [Bool.and_eq_true,decide_eq_true_eq] at hcb;exact hcb
    have hlen:=hlen hyes.1;have hr:3=(2*p.turn).toNat∨3=(2*p.turn).toNat+1:=by rw [hyes.1];decide
    refine zR ?_;refine s9 (F0 (D3 ⟨o4 (3:Nat),0⟩)) zk (zR ?_);refine t7 _ a6b ?_;have cA:=Cl.alloc wS (.cells (Value.agg (F0 (D3 ⟨⟨0,0,0⟩,0⟩))).cells 141);have nA:=d8 wS (.cells (Value.agg (F0 (D3 ⟨⟨0,0,0⟩,0⟩))).cells 141);have sA:=y9 wS (.cells (Value.agg (F0 (D3 ⟨⟨0,0,0⟩,0⟩))).cells 141);have lt5:=hS5.lt;have ge5:=hS5.cl.size;have hS6:=hS5.step cA;generalize wS.alloc (.cells (Value.agg (F0 (D3 ⟨⟨0,0,0⟩,0⟩))).cells 141)=w6 at *;refine zR ?_;refine J6 nA (C6 ⟨o4 (3:Nat),0⟩) rfl a1x rfl (L0 _) (Nat.le_of_ble_eq_true rfl) fun w7 u7=>?_;have hS7:=hS6.far (Tn.upd u7) zo zo zo ge5;have n7:w7.heap[wS.heap.size]?=some (.cells (F0 (D3 ⟨o4 (3:Nat),0⟩)) 141 (0,0)):=u7.at_;refine zR ?_;refine o8 (V9 (d:=D3 ⟨o4 (3:Nat),0⟩) (tag:=2) zd zd _ n7) ?_;rintro r w8 ⟨rfl,u8⟩;refine ⟨_,rfl,?_⟩;have hS8:=hS7.far (Tn.upd u8) zo zo zo ge5;refine zR ?_;refine o8 (a1B hI (r:=3) hr (a4N hyes.2) ⟨hS8.hd,hS8.bd,u8.at_,Tn.refl _ _,hS8.tab,zo,zo⟩) ?_;rintro r w9 ⟨rfl,h9⟩;refine ⟨_,rfl,?_⟩;have hS9:=hS8.far h9.tn zo zo zo ge5;have nl:=C2 (i:=l2.length) zo;refine zR ?_;refine d6 _ (b4D h9.nd) (zR ?_);refine zC ?_;refine zR ?_;refine a92 hS9 hzs hlen (a0y _ _) fun w10 hS10=>zR ?_;exact ⟨_,⟨m7 (nl.trans (by rw [List.length_append];rfl)),trivial⟩,by rw [if_pos hyes],hS10⟩
 obtain ⟨heq4,hS4⟩:=hS4;rw [heq3] at heq4;clear hcb cb hlen;have hS4_3:=hS4;refine zR ?_;have hl3:l3=a2A p ck:=by
  rcases ht with h | h
  ·rw [heq4,b6D h];simp [h]
  ·rw [heq4,b6E h];simp [h]
 subst hl3;have hlen3:=b0v p ck;refine b0K (n:=2) (el:=141) (z:=11) (a2A p ck).length rfl rfl rfl hlen3 (zR ?_);refine ⟨hS4.cl,_,rfl,Nat.le_refl _,fun jj v hv=>?_⟩;have fl:=a2x (a2A p ck);rw [C8 hS4.arr,J0 _ _ _ _ (by rw [fl,hzs];omega),if_pos ⟨Nat.zero_le _,by rw [Nat.zero_add];exact (List.getElem?_eq_some_iff.1 hv).1⟩];exact hv
end
end Go.Proofs.YtpclhlhcegcflaaGreatDoor
