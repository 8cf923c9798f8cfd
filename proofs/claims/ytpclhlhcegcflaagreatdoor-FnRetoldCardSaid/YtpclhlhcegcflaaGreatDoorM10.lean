/- One part of the proof: Txt Sp15 Sp16 Sp17 Sp18 Sp19 Sp20 Sp21. -/
import Derived.Laws.Strings2
import Derived.Laws.Small
import Derived.Laws.IdiomStrings
import Derived.Test.YtpclhlhcegcflaaGreatDoorM1
import Derived.Test.YtpclhlhcegcflaaGreatDoorM3
import Derived.Test.YtpclhlhcegcflaaGreatDoorM9
namespace Go.Proofs.YtpclhlhcegcflaaGreatDoor
set_option maxRecDepth 100000
set_option linter.unusedSimpArgs false
set_option linter.unusedVariables false
section
abbrev Tx:=List UInt8
namespace Ch
def A7 (s:Int):Tx:=[UInt8.ofNat (97+(s%8).toNat)]
def F7 (s:Int):Tx:=[UInt8.ofNat (49+(s/8).toNat)]
def Y7 (s:Int):Tx:=if s<0∨s>63 then [] else A7 s++F7 s
def A1 (k:Int):Tx:=if k=1 then [75] else if k=2 then [81] else if k=3 then [82] else if k=4 then [66] else if k=5 then [78] else []
def a3J (k:Int):Tx:=if k=1 then [107] else if k=2 then [113] else if k=3 then [114] else if k=4 then [98] else if k=5 then [110] else if k=6 then [112] else []
def Z9 (m:Mv):Tx:=if m.promo=0 then [] else 61::A1 m.promo
def a04 (p:A3) (m:Mv):Tx:=if !inCheck (made p m) then [] else if (y8 (made p m)).isEmpty then [35] else [43]
def Q9 (p:A3) (m:Mv):List Mv:=(y8 p).filter fun x=>decide (x.to=m.to) && !decide (x.fr=m.fr)&&decide (sq p x.fr=sq p m.fr)
def apart (p:A3) (m:Mv):Tx :=
 if (Q9 p m).isEmpty then []
 else if !(Q9 p m).any fun x=>decide (x.fr%8=m.fr%8) then A7 m.fr
 else if !(Q9 p m).any fun x=>decide (x.fr/8=m.fr/8) then F7 m.fr
 else Y7 m.fr
def S9 (p:A3) (m:Mv):Tx:=if takes p m then [120] else []
def body (p:A3) (m:Mv):Tx :=
 if castleKind p m=1 then [79,45,79]
 else if castleKind p m=2 then [79,45,79,45,79]
 else if kindOf (sq p m.fr)=6 then (if takes p m then A7 m.fr++[120] else [])++Y7 m.to++Z9 m
 else A1 (kindOf (sq p m.fr))++apart p m++S9 p m++Y7 m.to
def b33 (p:A3) (m:Mv):Tx:=body p m++a04 p m
def b1C (p:A3) (m:Mv):Tx:=if 0<castleKind p m then b33 p m else A1 (kindOf (sq p m.fr))++Y7 m.fr++S9 p m++Y7 m.to++Z9 m++a04 p m
def b4g (m:Mv):Tx:=Y7 m.fr++Y7 m.to++(if 0<m.promo∧m.promo<7 then a3J m.promo else [])
def dec (n:Nat):Tx:=if h:n<10 then [UInt8.ofNat (48+n)] else dec (n/10)++[UInt8.ofNat (48+n%10)]
 termination_by n
 decreasing_by omega
def pcT (x:Int):Tx:=if x=1 then [75] else if x=2 then [81] else if x=3 then [82] else if x=4 then [66] else if x=5 then [78] else if x=6 then [80] else
 if x=7 then [107] else if x=8 then [113] else if x=9 then [114] else if x=10 then [98] else if x=11 then [110] else if x=12 then [112] else []
def V6 (e:Nat):Tx:=if e=0 then [] else dec e
def a0h (g:Nat→Int):Nat→Nat→Nat→Tx
 | 0,_,e=>V6 e
 | n+1,f,e=>if g f<1∨g f>12 then a0h g n (f+1) (e+1) else V6 e++pcT (g f)++a0h g n (f+1) 0
def boardT (p:A3):Nat→Tx
 | 0=>[]
 | r+1=>a0h (fun f=>sq p (8*(r:Int)+f)) 8 0 0++(if r=0 then [] else [47])++boardT p r
def castT (c:Int):Tx:=let t:Tx:=(if P8 c 0 then [75] else [])++(if P8 c 1 then [81] else [])++(if P8 c 2 then [107] else [])++(if P8 c 3 then [113] else [])
 if t.isEmpty then [45] else t
def epT (e:Int):Tx:=if 0≤e∧e<64 then A7 e++F7 e else [45]
def a5Z (t:Int):Tx:=if t=1 then [98] else [119]
def fenT (p:A3):Tx:=boardT p 8++[32]++a5Z p.turn++[32]++castT p.castle++[32]++epT p.ep++[32]++dec p.half.toNat++[32]++dec p.full.toNat
def a5t (p:A3):Bool :=
 let r:=g8 p.ep-up p.turn
 [(-1:Int),1].any fun d=>decide (0≤H2 (l9 p.ep+d) r)&&decide (sq p (H2 (l9 p.ep+d) r)=6+6*p.turn)
def b7w (p:A3):Tx:=if p.ep<0∨a5t p=true then fenT p else fenT { p with ep:=-1 }
def Y8 (p q:A3):Bool:=decide (p.board=q.board)&&decide (p.turn=q.turn)&&decide (p.castle=q.castle)&&decide (p.ep=q.ep)
def times (l:List A3) (p:A3):Nat:=(l.filter fun q=>Y8 q p).length
def a3B (p:A3):Bool :=
 if anyN (fun i=>decide (kindOf (sq p i)=2)||decide (kindOf (sq p i)=3)||decide (kindOf (sq p i)=6)) 64 then false
 else
  let kn:=cntN (fun i=>decide (kindOf (sq p i)=5)) 64;let b0:=cntN (fun i=>decide (kindOf (sq p i)=4)&&decide ((l9 i+g8 i)%2=0)) 64;let b1:=cntN (fun i=>decide (kindOf (sq p i)=4)&&decide ((l9 i+g8 i)%2=1)) 64
  if 0<kn then decide (kn=1)&&decide (b0+b1=0) else decide (b0=0)||decide (b1=0)
def a5e:Tx:=[42]
def X2:Tx:=[49,47,50,45,49,47,50]
def a1X (turn:Int):Tx:=if turn=0 then [48,45,49] else [49,45,48]
def X4 (l:List A3) (p:A3) (mo:Int×Tx):Int×Tx :=
 if (y8 p).isEmpty then (if !inCheck p then (4,X2) else (1,a1X p.turn))
 else if mo.2≠a5e then mo
 else
  let a:=if 5≤times l p then (6,X2) else mo
  let b:=if 150≤p.half then (8,X2) else a
  if a3B p then (9,X2) else b
def a2b (p:A3):Int:=if !(y8 p).isEmpty then 0 else if inCheck p then 1 else 4
structure a0A where
 mv:Mv
 tags:Int
 san:Tx
 lan:Tx
 uci:Tx
 fen:Tx
 xfen:Tx
 pos:A3
 outcome:Tx
 method:Int
 status:Int
def a7Y (p:A3) (m:Mv) (mo:Int×Tx):a0A :=
 { mv:=m,tags:=a6V p m,san:=b33 p m,lan:=b1C p m,uci:=b4g m,fen:=fenT (made p m),xfen:=b7w (made p m),pos:=made p m,outcome:=mo.2,method:=mo.1,status:=a2b (made p m) }
def story (l:List A3) (p:A3) (mo:Int×Tx):List Mv→List a0A
 | []=>[]
 | m::r=>if G6 p m then
   let q:=made p m;let mo':=X4 (l++[q]) q mo
   a7Y p m mo'::story (l++[q]) q mo' r
  else []
def storyOf (p:A3) (looked:Bool) (ms:List Mv):List a0A:=story [p] p (if looked then X4 [p] p (0,a5e) else (0,a5e)) ms
def a0v (p:A3) (m:Mv):Bool:=[2,3,4,5].all fun k=>!(decide (k<m.promo)&&inCheck (made p ⟨m.fr,m.to,k⟩) && !inCheck (made p m))
def quiet (p:A3):List Mv→Bool
 | []=>decide ((y8 p).length≤218)
 | m::r=>decide ((y8 p).length≤218)&&(!G6 p m||(a0v p m&&quiet (made p m) r))
end Ch
end
section
open Go Go.RowKit
open E
def status (p:A3):Int:=if !(Ch.y8 p).isEmpty then 0 else if Ch.inCheck p then 1 else 2
theorem a0o {α:Type} (l:List α):l.isEmpty=decide (l.length=0):=by cases l<;>simp
theorem b4z (p:A3):(Ch.y8 p).length≤14338:=Nat.le_trans (List.length_filter_le _ _) (a3Y p)
theorem b6j (p:A3) (hI:Ch.B7 p) (hN:a1z p) (w:World):Calls G.P 132 #[C4 p] w (K4 (.int .i64 (status p)) w):=by
 have ht:=hI.turn;refine zN Tryz.func132 ?_;refine zG ?_;refine zR ?_;generalize hW:w.alloc (.cells (o9 p) 24)=W0;have hP:∀ w',Cl W0 w'→w'.heap[w.heap.size]?=some (.cells (o9 p) 24 (0,0)):=fun w' h=>(hW▸h:Cl (w.alloc (.cells (o9 p) 24)) w').blk (q8 _ _);have hE:∀ w',Cl W0 w'→Cl w w':=fun w' h=>(Cl.alloc _ _).trans (hW▸h);refine zR ?_;refine d7 _ (y7 (hP _ (Cl.refl _))) (zR ?_);refine o8 (a2s p hI hN _) ?_;rintro r w1 ⟨v,l,rfl,hlp,hl,c1⟩;refine ⟨_,rfl,?_⟩;obtain ⟨al,cl,rfl,hal⟩:=hl.form;have hlen:=hlp.length_eq;refine zR ?_;apply E.b7<;>intro h
 ·refine zR ?_;exact ⟨by unfold status;rw [a0o,decide_eq_false zo];rfl,hE _ c1⟩
 ·have he:(Ch.y8 p).isEmpty=true:=by rw [a0o];exact decide_eq_true zo
  refine zR ?_;refine d7 _ (y7 (hP _ c1)) (zR ?_);refine m9 (a3n p hI.pc _ zo zo) fun w2 c2=>?_;cases hc:Ch.inCheck p
  ·refine zR ?_;exact ⟨by unfold status;rw [he,hc];rfl,hE _ (c1.trans c2)⟩
  ·refine zR ?_;exact ⟨by unfold status;rw [he,hc];rfl,hE _ (c1.trans c2)⟩
theorem b2d (p:A3) (hI:Ch.B7 p) (hN:a1z p) (w:World):Calls G.P 96 #[C4 p] w (K4 (.int .i64 (Ch.a2b p)) w):=by
 refine zN Tryz.func96 ?_;refine zG ?_;refine zR ?_;generalize hW:w.alloc (.cells (o9 p) 24)=W0;have hP:∀ w',Cl W0 w'→w'.heap[w.heap.size]?=some (.cells (o9 p) 24 (0,0)):=fun w' h=>(hW▸h:Cl (w.alloc (.cells (o9 p) 24)) w').blk (q8 _ _);have hE:∀ w',Cl W0 w'→Cl w w':=fun w' h=>(Cl.alloc _ _).trans (hW▸h);refine zR ?_;refine zL a2I [.int .i64 0,.int .i64 1,.int .i64 4] ?_;have hr:=H9 J1 W0 [0,1,4] zd [.int .i64 0,.int .i64 1,.int .i64 4] rfl (e:=3) (z:=1);have c1:=Cl.alloc W0 (.cells (([.int .i64 0,.int .i64 1,.int .i64 4]:List Value).flatMap fun v=>v.cells.toList).toArray 3);generalize W0.alloc (.cells (([.int .i64 0,.int .i64 1,.int .i64 4]:List Value).flatMap fun v=>v.cells.toList).toArray 3)=w1 at *;refine zR ?_;refine d7 _ (y7 (hP _ c1)) (zR ?_);refine m9 (b6j p hI hN _) fun w2 c2=>?_;have hs:status p=0∧Ch.a2b p=0∨status p=1∧Ch.a2b p=1∨status p=2∧Ch.a2b p=4:=by
  unfold status Ch.a2b;split<;>(try split)<;>simp
 have hr2:=hr.step c2;have L0:l8 G.P w2 3 ⟨W0.heap.size,0,none⟩ (.int .i64 0):=J8 hr2 J1 0 0 zd zd rfl rfl rfl;have L1:l8 G.P w2 3 ⟨W0.heap.size,1,none⟩ (.int .i64 1):=J8 hr2 J1 1 0 zd zd rfl rfl rfl;have L2:l8 G.P w2 3 ⟨W0.heap.size,2,none⟩ (.int .i64 4):=J8 hr2 J1 2 0 zd zd rfl rfl rfl;have hc2:=hE _ (c1.trans c2);clear hr hr2;have hL:l8 G.P w2 3 ⟨W0.heap.size,(status p).toNat,none⟩ (.int .i64 (Ch.a2b p)):=by
  rcases hs with ⟨e1,e2⟩ | ⟨e1,e2⟩ | ⟨e1,e2⟩<;>rw [e1,e2]
  ·exact L0
  ·exact L1
  ·exact L2
 have hb:0≤status p∧status p<3:=by omega
 generalize status p=st at *;refine zR ?_;refine E.y6 (P2.2 ⟨hb.1,hb.2⟩) (zR ?_);refine d7 (.int .i64 (Ch.a2b p)) ?_ ?_
 ·simpa [E.z6] using hL
 refine zR ?_;exact ⟨rfl,hc2⟩
def a7h (p:A3) (i:Nat):Bool:=decide (Ch.kindOf (Ch.sq p i)=2)||decide (Ch.kindOf (Ch.sq p i)=3)||decide (Ch.kindOf (Ch.sq p i)=6)
def knTo (p:A3) (n:Nat):Nat:=Ch.cntN (fun i=>decide (Ch.kindOf (Ch.sq p i)=5)) n
def bsTo (p:A3) (c:Int) (n:Nat):Nat:=Ch.cntN (fun i=>decide (Ch.kindOf (Ch.sq p i)=4)&&decide ((Ch.l9 i+Ch.g8 i)%2=c)) n
theorem b3u (p:A3):Ch.a3B p=if Ch.anyN (a7h p) 64 then false else if 0<knTo p 64 then decide (knTo p 64=1)&&decide (bsTo p 0 64+bsTo p 1 64=0) else decide (bsTo p 0 64=0)||decide (bsTo p 1 64=0):=rfl
theorem c1z:(G.P.info? 180).bind (·.zero)=some (.agg #[.int .i64 0,.int .i64 0]):=by kernel_rfl
theorem c0c (p:A3) (hp:Pc p) (w:World):Calls G.P 90 #[C4 p] w (K4 (.bool (Ch.a3B p)) w):=by
 refine zN Tryz.func90 ?_;refine zG ?_;refine zR ?_;generalize hW:w.alloc (.cells (o9 p) 24)=W0;have hP:∀ w',Cl W0 w'→w'.heap[w.heap.size]?=some (.cells (o9 p) 24 (0,0)):=fun w' h=>(hW▸h:Cl (w.alloc (.cells (o9 p) 24)) w').blk (q8 _ _);have hE:∀ w',Cl W0 w'→Cl w w':=fun w' h=>(Cl.alloc _ _).trans (hW▸h);refine zR ?_;refine t7 _ c1z ?_;have hb0:(W0.alloc (.cells #[.int .i64 0,.int .i64 0] 180)).heap[W0.heap.size]?=some (.cells #[.int .i64 0,.int .i64 0] 180 (0,0)):=q8 _ _;have c1:=Cl.alloc W0 (.cells #[.int .i64 0,.int .i64 0] 180);simp only [Value.cells];generalize W0.alloc (.cells #[.int .i64 0,.int .i64 0] 180)=w1 at *;refine zR ?_;refine A9 (σ:=Nat) [2,3,5] 6 (fun a=>[(3,.int .i64 (knTo p a)),(5,.int .i64 a)]) (fun a w'=>a≤64∧Ch.anyN (a7h p) a=false∧w'.heap[W0.heap.size]?=some (.cells #[.int .i64 (bsTo p 0 a),.int .i64 (bsTo p 1 a)] 180 (0,0))∧Cl W0 w') (fun a=>64-a) zk 0
  ⟨zo,rfl,hb0,c1⟩ ⟨rfl,rfl,trivial⟩ ?_
 rintro i j w2 ⟨hi,hno,hblk,hcl⟩;have hkn:knTo p i≤64:=Nat.le_trans (Ch.a9g _ _) hi;have hbs:∀ c,bsTo p c i≤64:=fun c=>Nat.le_trans (Ch.a9g _ _) hi;refine zR ?_;apply E.b7<;>intro h
 ·have hi64:i<64:=by omega
  clear h;have ni:IntKind.i64.wrap ((i:Int)+1)=((i+1:Nat):Int):=by rw [g7 zo zo];push_cast;omega
  have a1:Ch.anyN (a7h p) (i+1)=(Ch.anyN (a7h p) i||(decide (Ch.kindOf (Ch.sq p i)=2)||decide (Ch.kindOf (Ch.sq p i)=3)||decide (Ch.kindOf (Ch.sq p i)=6))):=rfl
  have a2:knTo p (i+1)=knTo p i+(if decide (Ch.kindOf (Ch.sq p i)=5)=true then 1 else 0):=rfl
  have a3:∀ c,bsTo p c (i+1)=bsTo p c i+(if (decide (Ch.kindOf (Ch.sq p i)=4)&&decide ((Ch.l9 i+Ch.g8 i)%2=c))=true then 1 else 0):=fun c=>rfl
  have hbig:a7h p i=true→Ch.a3B p=false:=fun h=>by
   rw [b3u,if_pos (Ch.a3m (i:=i) hi64 h)]
  unfold a7h at hbig;refine zR ?_;refine zC ?_;refine zR ?_;refine d7 _ (L9 (hP _ hcl) _ zo zo) (zR ?_);refine d9 (N9 _ _ (Pc.lo hp _) (Pc.hi hp _)) ?_;generalize Ch.kindOf (Ch.sq p i)=k at *;have fin:(k=2∨k=3∨k=6)→Ch.a3B p=false:=fun h=>hbig (by rcases h with rfl | rfl | rfl<;>rfl)
  refine zR ?_;apply E.b7<;>intro h
  ·subst h;refine zR ?_;exact ⟨m8 (fin (.inl rfl)).symm,hE _ hcl⟩
  have k2:=h;clear h;refine zR ?_;apply E.b7<;>intro h
  ·subst h;refine zR ?_;exact ⟨m8 (fin (.inr (.inl rfl))).symm,hE _ hcl⟩
  have k3:=h;clear h;refine zR ?_;apply E.b7<;>intro h
  ·subst h;refine zR ?_;exact ⟨m8 (fin (.inr (.inr rfl))).symm,hE _ hcl⟩
  have k6:=h;clear h;have hno':(Ch.anyN (a7h p) i||(decide (k=2)||decide (k=3)||decide (k=6)))=false:=by rw [hno];simp [k2,k3,k6]
  refine zR ?_;apply E.b7<;>intro h
  ·subst h;refine zR ?_;refine ⟨i+1,⟨m7 ?_,m7 ni,trivial⟩,⟨zo,by rw [a1];exact hno',?_,hcl⟩,zo⟩
   ·rw [g7 zo zo,a2];simp
   ·rw [a3,a3];simpa using hblk
  have k5:=h;clear h;have hkn1:knTo p (i+1)=knTo p i:=by rw [a2];simp [k5]
  refine zR ?_;apply E.b7<;>intro h
  ·subst h;have fr:0≤Ch.l9 i∧Ch.l9 i≤7∧0≤Ch.g8 i∧Ch.g8 i≤7:=by unfold Ch.l9 Ch.g8;omega
   have m1:IntKind.i64.wrap (Ch.l9 i+Ch.g8 i)=Ch.l9 i+Ch.g8 i:=g7 zo zo;have m2:Int.tmod (Ch.l9 i+Ch.g8 i) 2=(Ch.l9 i+Ch.g8 i)%2:=Int.tmod_eq_emod_of_nonneg zo;refine zR ?_;refine d9 (a1G _ _ zo) (zR ?_);refine d9 (V5 _ _ zo zo) (zR ?_);simp only [m1,m2];generalize hC:(Ch.l9 i+Ch.g8 i)%2=c at *;have hc01:c=0∨c=1:=by omega
   have hld:l8 G.P w2 3 ⟨W0.heap.size,c.toNat,none⟩ (.int .i64 (bsTo p c i)):=by
    rcases hc01 with rfl | rfl
    ·exact W1 hblk rfl rfl
    ·exact W1 hblk rfl rfl
   refine zC ?_;refine zR ?_;refine d7 (.int .i64 (bsTo p c i)) ?_ ?_
   ·simpa [E.z6] using hld
   refine zR ?_;refine zC ?_;refine zR ?_;have hb1:=hbs c;refine J6 hblk [.int .i64 (IntKind.i64.wrap ((bsTo p c i:Int)+1))] rfl N8 rfl (by simp [Value.oneCell']) (by simp [E.z6];omega) (fun w3 u3=>zR ?_)
   refine ⟨i+1,⟨m7 (by rw [hkn1]),m7 ni,trivial⟩,⟨zo,by rw [a1];exact hno',?_,u3.cl hcl (Nat.le_refl _)⟩,zo⟩
   rw [u3.at_,E.z6,a3,a3,g7 zo zo];rcases hc01 with rfl | rfl<;>simp [a4M]
  ·have k4:=h;clear h;refine zR ?_;refine ⟨i+1,⟨m7 (by rw [hkn1]),m7 ni,trivial⟩,⟨zo,by rw [a1];exact hno',?_,hcl⟩,zo⟩
   rw [a3,a3];simpa [k4] using hblk
 ·have hi64:i=64:=by omega
  subst hi64;have hd:Ch.a3B p=if 0<knTo p 64 then decide (knTo p 64=1)&&decide (bsTo p 0 64+bsTo p 1 64=0) else decide (bsTo p 0 64=0)||decide (bsTo p 1 64=0):=by
   rw [b3u,hno];rfl
  have L0:l8 G.P w2 3 ⟨W0.heap.size,0,none⟩ (.int .i64 (bsTo p 0 64)):=W1 hblk rfl rfl;have L1:l8 G.P w2 3 ⟨W0.heap.size,1,none⟩ (.int .i64 (bsTo p 1 64)):=W1 hblk rfl rfl;have hb0:=hbs 0;have hb1:=hbs 1;generalize bsTo p 0 64=b0 at *;generalize bsTo p 1 64=b1 at *;generalize knTo p 64=kn at *;refine zR ?_;apply E.b7<;>intro h
  ·rw [if_pos zo] at hd;refine zR ?_;apply E.b7<;>intro h
   ·refine zR ?_;refine d7 _ L0 (zR ?_);refine d7 _ L1 (zR ?_);refine ⟨m8 ?_,hE _ hcl⟩;rw [hd,g7 zo zo];rw [decide_eq_true (show kn=1 by omega)]
    simp only [Bool.true_and];exact decide_eq_decide.2 zo
   ·refine zR ?_;refine ⟨m8 ?_,hE _ hcl⟩;rw [hd,decide_eq_false (show ¬ kn=1 by omega)];rfl
  ·rw [if_neg zo] at hd;refine zR ?_;refine d7 _ L0 (zR ?_);apply E.b7<;>intro h
   ·refine zR ?_;refine ⟨m8 ?_,hE _ hcl⟩;rw [hd,decide_eq_true (show b0=0 by omega)];rfl
   ·refine zR ?_;refine d7 _ L1 (zR ?_);refine ⟨m8 ?_,hE _ hcl⟩;rw [hd,decide_eq_false (show ¬ b0=0 by omega)]
    simp only [Bool.false_or];exact decide_eq_decide.2 zo
structure a4b (p:A3):Prop where
 sq:∀ x∈p.board,I64 x
 turn:I64 p.turn
 castle:I64 p.castle
 ep:I64 p.ep
 half:I64 p.half
 full:I64 p.full
def bdA (p:A3):Array Value:=(o9 p).extract 0 64
theorem a4C (p:A3):(bdA p).toList=p.board.map (Value.int .i64):=by
 simp only [bdA,o9,X0,Array.toList_extract,List.extract_eq_take_drop];rw [List.drop_zero,List.take_left' (by simp [p.len])]
theorem c0d (l:List Int) (h:∀ x∈l,I64 x):okL (List.replicate l.length (some .i64)) (l.map (Value.int .i64))=true:=by
 induction l with
 | nil=>rfl
 | cons x r ih =>
  simp only [List.length_cons,List.replicate_succ,List.map_cons,okL,Bool.and_eq_true];exact ⟨by simp [okV,b6f (h x (List.mem_cons_self))],ih fun y hy=>h y (List.mem_cons_of_mem _ hy)⟩
theorem c1A:G.P.eqGuardType G.P.depth 22=false:=by kernel_rfl
theorem a81 (p:A3):(Value.agg (bdA p)).formed G.P 22=true:=by
 have h:(bdA p).size=64:=by simp [bdA,r7]
 have:(G.P.info? 22).map (·.size)=some 64:=by kernel_rfl
 have hu:G.P.underlying 22=some (.array 64 3):=by kernel_rfl
 unfold Value.formed;simp [h,Program.cellsOf,this,hu]
theorem c2F {p q:A3} (hp:a4b p) (hq:a4b q) (w:World):(Op.equalIn 10000 22 (.agg (bdA p)) (.agg (bdA q))).run G.P w = .ok (decide (p.board=q.board)) w:=by
 refine a9q (m:=2) (D:=2) (ks:=List.replicate 64 (some .i64)) zk zd c1A zk (a81 p) (a81 q) ?_ ?_ _ ?_ w
 ·rw [a4C];have:=c0d p.board hp.sq;rwa [p.len] at this
 ·rw [a4C];have:=c0d q.board hq.sq;rwa [q.len] at this
 ·rw [decide_eq_true_eq,a4C,a4C,List.map_map,List.map_map];constructor
  ·intro h;rw [h]
  ·intro h;have:∀ (a b:List Int),a.map (a1V∘Value.int .i64)=b.map (a1V∘Value.int .i64)→a=b:=by
    intro a
    induction a with
    | nil=>intro b h;cases b with
     | nil=>rfl
     | cons=>cases h
    | cons x r ih=>intro b h;cases b with
     | nil=>cases h
     | cons y s =>
      simp only [List.map_cons,Function.comp,a1V,List.cons.injEq,Lit.int.injEq,true_and] at h;rw [h.1,ih s h.2]
   exact this _ _ h
theorem c0e {p:A3} {w:World} {b u:Nat} {fz:Nat×Nat} (hb:w.heap[b]?=some (.cells (o9 p) u fz)):l8 G.P w 22 ⟨b,0,none⟩ (.agg (bdA p)) :=
 ldA (t:=22) (o:=0) (z:=64) hb rfl (by rw [r7];decide)
theorem b3v (p q:A3) (hp:a4b p) (hq:a4b q) (w:World):Calls G.P 17 #[C4 p,C4 q] w (K4 (.bool (Ch.Y8 p q)) w):=by
 refine zN Tryz.func17 ?_;refine zG ?_;generalize hW:(w.alloc (.cells (o9 p) 24)).alloc (.cells (o9 q) 24)=W0;have hP:∀ w',Cl W0 w'→w'.heap[w.heap.size]?=some (.cells (o9 p) 24 (0,0)):=fun w' h=>(((Cl.alloc _ _).trans (hW▸h:Cl ((w.alloc (.cells (o9 p) 24)).alloc (.cells (o9 q) 24)) w')).blk (q8 _ _));have hQ:∀ w',Cl W0 w'→w'.heap[(w.alloc (.cells (o9 p) 24)).heap.size]?=some (.cells (o9 q) 24 (0,0)):=fun w' h=>(hW▸h:Cl ((w.alloc (.cells (o9 p) 24)).alloc (.cells (o9 q) 24)) w').blk (q8 _ _);have hE:∀ w',Cl W0 w'→Cl w w':=fun w' h=>hE2 (hW▸h);have z:=Cl.refl W0;refine zR ?_;refine d7 _ (c0e (hP _ z)) (zR ?_);refine d7 _ (c0e (hQ _ z)) (zR ?_);refine b8c c1A (c2F hp hq) rfl rfl ?_;have ha:Ch.Y8 p q=(decide (p.board=q.board)&&decide (p.turn=q.turn)&&decide (p.castle=q.castle)&&decide (p.ep=q.ep)):=rfl;generalize decide (p.board=q.board)=e1 at *;cases e1
 ·refine zR ?_;exact ⟨m8 (by rw [ha];rfl),hE _ z⟩
 refine zR ?_;refine d7 _ (E5 (hP _ z)) (zR ?_);refine d7 _ (E5 (hQ _ z)) ?_;generalize ht:decide (p.turn=q.turn)=e2 at *;refine zR ?_;simp only [ht];cases e2
 ·refine zR ?_;exact ⟨m8 (by rw [ha];rfl),hE _ z⟩
 refine zR ?_;refine d7 _ (a1f (hP _ z)) (zR ?_);refine d7 _ (a1f (hQ _ z)) (zR ?_);generalize decide (p.castle=q.castle)=e3 at *;cases e3
 ·refine zR ?_;exact ⟨m8 (by rw [ha];rfl),hE _ z⟩
 refine zR ?_;refine d7 _ (a3R (hP _ z)) (zR ?_);refine d7 _ (a3R (hQ _ z)) (zR ?_);exact ⟨m8 (by rw [ha];simp),hE _ z⟩
theorem b0x:G2 73 24 69 552:=R0 zk
theorem T6 (p:A3):(X0 p).length=69:=by simp [X0,p.len]
theorem b8e (l:List A3) (q:A3) (hl:∀ p∈l,a4b p) (hq:l.getLast?=some q) (hn:l.length≤100000) {b0:Nat} {v:Value} (w:World) (hrow:Row 24 69 X0 b0 w v l):Calls G.P 89 #[v] w (K4 (.int .i64 (Ch.times l q)) w):=by
 obtain ⟨al,cl,rfl,hal⟩:=hrow.form;have hpos:0<l.length:=by
  cases l with
  | nil=>cases hq
  | cons=>simp
 obtain ⟨g,rfl⟩:=hal hpos;have hlast:l[l.length-1]'zo=q:=by
  rw [List.getLast?_eq_getElem?,List.getElem?_eq_getElem zo] at hq;exact Option.some.inj hq
 refine zN Tryz.func89 ?_;refine zG ?_;refine zR ?_;refine A9 (σ:=Nat) [3,4] 5 (fun a=>[(3,.int .i64 (Ch.times (l.take a) q)),(4,.int .i64 a)]) (fun a w'=>a≤l.length∧Cl w w') (fun a=>l.length-a) zk 0
  ⟨zo,Cl.refl _⟩ ⟨rfl,rfl,trivial⟩ ?_
 rintro i j w2 ⟨hi,hcl⟩;refine zR ?_;apply E.b7<;>intro h
 ·have hil:i<l.length:=by omega
  clear h;have ni:IntKind.i64.wrap ((i:Int)+1)=((i+1:Nat):Int):=by rw [g7 zo zo];push_cast;omega
  have hcnt:Ch.times (l.take i) q≤i:=by
   unfold Ch.times;exact Nat.le_trans (List.length_filter_le _ _) (by rw [List.length_take];omega)
  have hnx:Ch.times (l.take (i+1)) q=Ch.times (l.take i) q+(if Ch.Y8 l[i] q=true then 1 else 0):=by
   unfold Ch.times;rw [List.take_succ_eq_append_getElem hil,List.filter_append,List.length_append];by_cases h:Ch.Y8 l[i] q=true<;>simp [h]
  have hlm:IntKind.i64.wrap ((l.length:Int)-1)=((l.length-1:Nat):Int):=by rw [g7 zo zo];omega
  refine zR ?_;refine zK 11 ?_;refine zR ?_;refine zC ?_;refine zR ?_;refine g9 (C4 l[i]) (fun w hw=>a2n (hrow.step (hcl.trans hw)) T6 i hil rfl ?_ rfl) ?_
  ·simp [E.z6]
  refine zR ?_;refine zC ?_;refine zR ?_;refine g9 (C4 q) (fun w hw=>a2n (hrow.step (hcl.trans hw)) T6 (l.length-1) zo rfl ?_ (by rw [hlast];rfl)) ?_
  ·simp [E.z6,hlm]
  refine zR ?_;have hA:∀ w,Calls G.P 17 #[C4 l[i],C4 q] w (K4 (.bool (Ch.Y8 l[i] q)) w):=fun w=>b3v l[i] q (hl _ (List.getElem_mem hil)) (hl _ (List.mem_of_getLast? hq)) w;show b3c G.P (Cl w2) 17 #[C4 l[i],C4 q] _;refine C7 _ (fun _ _ h=>h.trans) (fun w _=>hA w) (zR ?_);intro w3 c3;generalize hA:Ch.Y8 l[i] q=al at *;refine zR ?_;cases al
  ·refine zR ?_;exact ⟨i+1,⟨m7 (by rw [hnx];simp),m7 ni,trivial⟩,⟨zo,hcl.trans c3⟩,zo⟩
  ·refine zR ?_;exact ⟨i+1,⟨m7 (by rw [hnx,g7 zo zo];simp),m7 ni,trivial⟩,⟨zo,hcl.trans c3⟩,zo⟩
 ·have hil:i=l.length:=by omega
  subst hil;refine zR ?_;exact ⟨C3 (by rw [List.take_length]),hcl⟩
def tx (l:Tx):ByteArray:=⟨l.toArray⟩
def s8 (l:Tx):Value:=.string (tx l)
theorem C9 (l:Tx):(tx l).size=l.length:=by simp [tx,ByteArray.size]
theorem A2 (a b:Tx):tx a++tx b=tx (a++b):=by
 apply ByteArray.ext;simp [tx]
theorem a0p {a b:Tx}:tx a=tx b↔a=b:=by
 constructor
 ·intro h;have:=congrArg (fun x:ByteArray=>x.data.toList) h;simpa [tx] using this
 ·intro h;rw [h]
theorem a0E (a:Array UInt8):(⟨a⟩:ByteArray)=tx a.toList:=rfl
theorem a18 {x y:ByteArray} (h:x.size+y.size≤9223372036854775807):E.b2Y x y=true:=decide_eq_true h
theorem v8 {x y:Tx} (h:x.length+y.length≤9223372036854775807):E.b2Y (tx x) (tx y)=true:=decide_eq_true (by rw [C9,C9];exact h)
theorem b0y:G.P.underlying 9=some .string:=by kernel_rfl
theorem b3w {w:World} {l r:Tx} {s:ByteArray} {k k':IntKind} {a b:Int} (hs:s=tx l) (h0:0≤a) (h1:a≤b) (h2:b≤l.length) (hr:(l.drop a.toNat).take (b.toNat-a.toNat)=r) :
  (Instr.slice 9 (.string s) (some (.int k a)) (some (.int k' b)) none).run G.P w = .ok (s8 r) w:=by
 subst hs;rw [run_slice_string (P:=G.P) w 9 _ _ _ _ _ b0y h0 h1 (by rw [C9];exact h2),tx,ByteArray.extract_mk,hr];rfl
theorem a0J {l:Tx} {s:ByteArray} {k k':IntKind} {a b:Int} {x lo hi:Operand} {dst:Option Nat} {ty:Nat} {pos:String} {af:Array Edge} {gd:Option (Nat×Bool)} {env:C0} {w:World} {K:Value→World→Prop}
  (r':Tx) (hx:ev env x = .string s) (hlo:ev env lo = .int k a) (hhi:ev env hi = .int k' b) (hs:s=tx l) (h0:0≤a) (h1:a≤b) (h2:b≤l.length) (hr:(l.drop a.toNat).take (b.toNat-a.toNat)=r') (h:K (s8 r') w) :
  L5 G.P { dst,op:=.slice 9 x (some lo) (some hi) none,type:=ty,pos,after:=af,guard:=gd } env w K:=by
 refine ⟨.inl ⟨_,w,?_,h⟩⟩;show (do pure (Next.value (← Instr.slice 9 (ev env x) (some (ev env lo)) (some (ev env hi)) none)):Sem Next).run G.P w=_
 rw [hx,hlo,hhi,Sem.run_bind,b3w hs h0 h1 h2 hr];rfl
theorem a7i {C:World→Prop} {l:Tx} {s:ByteArray} {k k':IntKind} {a b:Int} {x lo hi:Operand} {dst:Option Nat} {ty:Nat} {pos:String} {af:Array Edge} {gd:Option (Nat×Bool)} {env:C0} {K:Value→Prop}
  (r':Tx) (hx:ev env x = .string s) (hlo:ev env lo = .int k a) (hhi:ev env hi = .int k' b) (hs:s=tx l) (h0:0≤a) (h1:a≤b) (h2:b≤l.length) (hr:(l.drop a.toNat).take (b.toNat-a.toNat)=r') (h:K (s8 r')) :
  b3X G.P C { dst,op:=.slice 9 x (some lo) (some hi) none,type:=ty,pos,after:=af,guard:=gd } env K:=by
 refine ⟨_,fun w _=>?_,h⟩;show (do pure (Next.value (← Instr.slice 9 (ev env x) (some (ev env lo)) (some (ev env hi)) none)):Sem Next).run G.P w=_
 rw [hx,hlo,hhi,Sem.run_bind,b3w hs h0 h1 h2 hr];rfl
theorem D9 {x:ByteArray} {l:Tx} (h:x=tx l):Ending.returned (.string x) = .returned (s8 l):=by rw [h];rfl
theorem c1B:∀ i<8,(([97,98,99,100,101,102,103,104]:Tx).drop i).take 1=[UInt8.ofNat (97+i)]:=by decide
theorem c1C:∀ i<8,(([49,50,51,52,53,54,55,56]:Tx).drop i).take 1=[UInt8.ofNat (49+i)]:=by decide
theorem c1D:∀ i<10,(([48,49,50,51,52,53,54,55,56,57]:Tx).drop i).take 1=[UInt8.ofNat (48+i)]:=by decide
theorem a19 {n m:Int} (h:0≤n):n.tmod m=n%m:=Int.tmod_eq_emod_of_nonneg h
theorem a4D {n m:Int} (h:0≤n):n.tdiv m=n/m:=Int.tdiv_eq_ediv_of_nonneg h
theorem b0z (n:Int) (h0:0≤n) (h1:n≤63) (w:World):Calls G.P 47 #[.int .i64 n] w (K4 (s8 (Ch.A7 n++Ch.F7 n)) w):=by
 refine zN Tryz.func47 ?_;refine zG ?_;refine zR ?_;refine zK 14 ?_;have e1:n.tmod 8=n%8:=a19 h0;have e2:n.tdiv 8=n/8:=a4D h0;have e3:IntKind.i64.wrap (n%8+1)=n%8+1:=g7 zo zo;have e4:IntKind.i64.wrap (n/8)=n/8:=g7 zo zo;have e5:IntKind.i64.wrap (n/8+1)=n/8+1:=g7 zo zo;refine zR ?_;refine a7i (Ch.A7 n) rfl rfl rfl (a0E _) ?_ ?_ ?_ ?_ ?_
 ·rw [e1];omega
 ·rw [e1,e3];omega
 ·rw [e1,e3];simp;omega
 ·rw [e1,e3,show (n%8+1).toNat-(n%8).toNat=1 by omega];exact c1B _ zo
 refine zR ?_;refine a7i (Ch.F7 n) rfl rfl rfl (a0E _) ?_ ?_ ?_ ?_ ?_
 ·rw [e2,e4];omega
 ·rw [e2,e4,e5];omega
 ·rw [e2,e4,e5];simp;omega
 ·rw [e2,e4,e5,show (n/8+1).toNat-(n/8).toNat=1 by omega];exact c1C _ zo
 refine zR ?_;intro w1 c1;refine zR ?_;exact ⟨D9 (A2 _ _),c1⟩
theorem a2t:∀ (k n:Nat),0<k→n<10^k→(Ch.dec n).length≤k:=by
 intro k
 induction k with
 | zero=>intro n h;omega
 | succ k ih =>
  intro n _ h;rw [Ch.dec];split
  ·simp
  ·rename_i h10;have hk:0<k:=by
    rcases Nat.eq_zero_or_pos k with h0 | h0
    ·subst h0;simp at h;omega
    ·exact h0
   have:=ih (n/10) hk (by rw [Nat.pow_succ] at h;omega)
   simp;exact this
theorem a0q {n:Nat} (h:n<9223372036854775808):(Ch.dec n).length≤19:=a2t 19 n zd zo
theorem a0K:∀ (n:Nat) (w:World),n<9223372036854775808→Calls G.P 50 #[.int .i64 n] w (K4 (s8 (Ch.dec n)) w):=by
 intro n
 induction n using Nat.strongRecOn with
 | _ n ih =>
 intro w hn;refine zN Tryz.func50 ?_;refine zG ?_;refine zR ?_;apply E.b7<;>intro h
 ·have e1:IntKind.i64.wrap ((n:Int)+1)=n+1:=g7 zo zo;refine zR ?_;refine a0J (Ch.dec n) rfl rfl rfl (a0E _) ?_ ?_ ?_ ?_ ?_
  ·omega
  ·rw [e1];omega
  ·rw [e1];simp;omega
  ·rw [e1,show ((n:Int)+1).toNat-(n:Int).toNat=1 by omega,Ch.dec,dif_pos zo];exact c1D _ zo
  refine zR ?_;exact ⟨rfl,Cl.refl _⟩
 ·have e1:(n:Int).tmod 10=((n%10:Nat):Int):=by rw [a19 zo];omega
  have e2:IntKind.i64.wrap ((n:Int).tdiv 10)=((n/10:Nat):Int):=by rw [a4D zo,g7 zo zo];omega
  have e3:IntKind.i64.wrap (((n%10:Nat):Int)+1)=((n%10+1:Nat):Int):=by rw [g7 zo zo];omega
  refine zR ?_;refine zK 11 ?_;refine zR ?_;refine C7 (s8 (Ch.dec (n/10))) (fun _ _ h=>h.trans) (fun w _=>?_) ?_
  ·have:=ih (n/10) zo w zo;rw [← e2] at this;exact this
  refine zR ?_;refine a7i [UInt8.ofNat (48+n%10)] rfl rfl rfl (a0E _) ?_ ?_ ?_ ?_ ?_
  ·rw [e1];omega
  ·rw [e1,e3];omega
  ·rw [e1,e3];simp;omega
  ·rw [e1,e3,show ((n%10+1:Nat):Int).toNat-((n%10:Nat):Int).toNat=1 by omega];exact c1D _ zo
  refine zR ?_;have hl:=a0q (n:=n/10) zo;refine E.y6 (v8 (by simp;omega)) (zR ?_)
  intro w1 c1;refine zR ?_;refine ⟨D9 ?_,c1⟩;rw [A2,Ch.dec.eq_def n,dif_neg zo]
theorem c0f (p:A3) (i:Nat) (h:i<64):(bdA p)[i]?=some (.int .i64 (Ch.sq p i)):=by
 have:=Z4 p i h;simp only [bdA,Array.getElem?_extract];rw [if_pos (by rw [r7];omega),Nat.zero_add,this]
theorem c2G {p:A3} {w:World} {b t i:Nat} {fz:Nat×Nat} (hb:w.heap[b]?=some (.cells (bdA p) t fz)) (m:Int) (h0:0≤m) (h1:m<64) (hi:i=m.toNat) :
  l8 G.P w 3 ⟨b,i,none⟩ (.int .i64 (Ch.sq p m)):=by
 subst hi;refine W1 hb ?_ rfl;rw [c0f p _ zo,Int.toNat_of_nonneg h0]
theorem b00 {e:Nat} (h:e≤100):(Ch.V6 e).length≤3:=by
 unfold Ch.V6;split
 ·simp
 ·exact a2t 3 e zd zo
theorem a9s (x:Int):(Ch.pcT x).length≤1:=by
                               unfold Ch.pcT;iterate 12 (split;· simp)
                               simp
theorem b01 (g:Nat→Int):∀ (n f e:Nat),e+n≤100→(Ch.a0h g n f e).length≤4*n+3:=by
 intro n
 induction n with
 | zero=>intro f e h;exact b00 zo
 | succ n ih =>
  intro f e h;rw [Ch.a0h];split
  ·have:=ih (f+1) (e+1) zo;omega
  ·have:=ih (f+1) 0 zo;have:=b00 (e:=e) zo;have:=a9s (g f);simp;omega
theorem Y0 (p:A3):∀ r,(Ch.boardT p r).length≤36*r:=by
 intro r
 induction r with
 | zero=>simp [Ch.boardT]
 | succ r ih =>
  rw [Ch.boardT];have:=b01 (fun f=>Ch.sq p (8*(r:Int)+f)) 8 0 0 zo;simp only [List.length_append];split<;>simp<;>omega
theorem c1E:∀ i<12,(([75,81,82,66,78,80,107,113,114,98,110,112]:Tx).drop i).take 1=Ch.pcT ((i:Int)+1):=by decide
theorem b2e (p:A3) (hp:Pc p) (w:World):Calls G.P 48 #[.agg (bdA p)] w (K4 (s8 (Ch.boardT p 8)) w):=by
 refine zN Tryz.func48 ?_;refine zG ?_;generalize hW:w.alloc (.cells (bdA p) 22)=W0;have hP:∀ w',Cl W0 w'→w'.heap[w.heap.size]?=some (.cells (bdA p) 22 (0,0)):=fun w' h=>(hW▸h:Cl (w.alloc (.cells (bdA p) 22)) w').blk (q8 _ _);have hE:∀ w',Cl W0 w'→Cl w w':=fun w' h=>(Cl.alloc _ _).trans (hW▸h);have hT:=Y0 p 8;refine zR ?_;refine A9 (σ:=Nat×Tx) [3,4,5,6,7] 8 (fun a=>[(3,s8 a.2),(4,.int .i64 ((a.1:Int)-1))]) (fun a w'=>a.1≤8∧a.2++Ch.boardT p a.1=Ch.boardT p 8∧Cl W0 w') (fun a=>a.1) zk (8,[])
  ⟨by simp,rfl,Cl.refl _⟩ ⟨rfl,rfl,trivial⟩ ?_
 rintro ⟨r,X⟩ j w1 ⟨hr,hX,hcl⟩;simp only at hr hX ⊢;refine zR ?_;apply E.b7<;>intro h
 ·obtain ⟨r',rfl⟩:∃ r',r=r'+1:=⟨r-1,zo⟩;clear h;rw [show (((r'+1:Nat):Int)-1)=(r':Int) by omega]
  have nr:IntKind.i64.wrap ((r':Int)-1)=(r':Int)-1:=g7 zo zo;have n8:IntKind.i64.wrap (8*(r':Int))=8*(r':Int):=g7 zo zo;have hb1:Ch.boardT p (r'+1)=Ch.a0h (fun f=>Ch.sq p (8*(r':Int)+f)) 8 0 0++(if r'=0 then [] else [47])++Ch.boardT p r':=rfl
  generalize hg:(fun f:Nat=>Ch.sq p (8*(r':Int)+f))=g at *;have hXl:X.length+(Ch.a0h g 8 0 0).length≤288:=by
   have:=congrArg List.length hX;rw [hb1] at this;simp only [List.length_append] at this;omega
  refine zR ?_;refine A9 (σ:=Nat×Nat×Tx) [3,5,6,7] 8 (fun a=>[(3,s8 (X++a.2.2)),(5,.int .i64 a.2.1),(6,.int .i64 a.1)]) (fun a w'=>a.1≤8∧a.2.1≤a.1∧a.2.2++Ch.a0h g (8-a.1) a.1 a.2.1=Ch.a0h g 8 0 0∧Cl W0 w') (fun a=>8-a.1) zk (0,0,[])
   ⟨by simp,by simp,rfl,hcl⟩ ⟨by simp only [List.append_nil];rfl,rfl,rfl,trivial⟩ ?_
  rintro ⟨f,e,Y⟩ j2 w2 ⟨hf,he,hY,hcl2⟩;simp only at hf he hY ⊢;have hYl:X.length+Y.length≤288:=by
   have:=congrArg List.length hY;simp only [List.length_append] at this;omega
  refine zR ?_;apply E.b7<;>intro h
  ·have hf8:f<8:=by omega
   clear h;have nf:IntKind.i64.wrap ((f:Int)+1)=((f+1:Nat):Int):=by rw [g7 zo zo];omega
   have ne:IntKind.i64.wrap ((e:Int)+1)=((e+1:Nat):Int):=by rw [g7 zo zo];omega
   have ns:IntKind.i64.wrap (8*(r':Int)+f)=8*(r':Int)+f:=g7 zo zo;have hrow:Ch.a0h g (8-f) f e=if g f<1∨g f>12 then Ch.a0h g (8-(f+1)) (f+1) (e+1) else Ch.V6 e++Ch.pcT (g f)++Ch.a0h g (8-(f+1)) (f+1) 0:=by
    rw [show 8-f=(8-(f+1))+1 by omega];rfl
   refine zR ?_;simp only [n8,ns];refine zC ?_;refine zR ?_;refine d7 (.int .i64 (g f)) ?_ ?_
   ·rw [← hg];exact c2G (hP _ hcl2) _ zo zo (by simp [E.z6])
   have hgb:0≤g f∧g f≤12:=by rw [← hg];exact hp _
   generalize hk:g f=k at *;refine zR ?_;apply E.b7<;>intro h
   ·refine zR ?_;refine ⟨(f+1,e+1,Y),⟨rfl,m7 ne,m7 nf,trivial⟩,⟨by simp;omega,by simp;omega,?_,hcl2⟩,by simp;omega⟩
    simp only
    rw [hrow,if_pos (.inl h)] at hY;exact hY
   ·have h1:=h;clear h;refine zR ?_;apply E.b7<;>intro h
    ·omega
    ·rw [hrow,if_neg zo] at hY;have nk:IntKind.i64.wrap (k-1)=k-1:=g7 zo zo;clear h;refine zR ?_;apply E.b7<;>intro h
     ·have hce:Ch.V6 e=Ch.dec e:=by unfold Ch.V6;rw [if_neg zo]
      have hdl:=a2t 2 e zd zo;refine zR ?_;refine m9 (a0K e _ zo) fun w3 c3=>zR ?_;refine E.y6 (v8 (by rw [List.length_append];omega)) ?_
      rw [A2];refine zR ?_;simp only [nk];refine a0J (Ch.pcT k) rfl rfl rfl (a0E _) zo zo (by simp;omega) ?_ ?_
      ·rw [show k.toNat-(k-1).toNat=1 by omega,c1E _ zo];congr 1;omega
      refine zR ?_;have hpl:=a9s k;refine E.y6 (v8 (by simp only [List.length_append];omega)) ?_
      rw [A2];refine zR ?_;refine ⟨(f+1,0,Y++Ch.dec e++Ch.pcT k),⟨?_,rfl,m7 nf,trivial⟩,⟨by simp;omega,by simp,?_,hcl2.trans c3⟩,by simp;omega⟩
      ·show Value.string _=Value.string _;simp only [List.append_assoc]
      ·simp only;rw [← hY,hce];simp only [List.append_assoc]
     ·have he0:e=0:=by omega
      subst he0;refine zR ?_;simp only [nk];refine a0J (Ch.pcT k) rfl rfl rfl (a0E _) zo zo (by simp;omega) ?_ ?_
      ·rw [show k.toNat-(k-1).toNat=1 by omega,c1E _ zo];congr 1;omega
      refine zR ?_;have hpl:=a9s k;refine E.y6 (v8 (by simp only [List.length_append];omega)) ?_
      rw [A2];refine zR ?_;refine ⟨(f+1,0,Y++Ch.pcT k),⟨?_,rfl,m7 nf,trivial⟩,⟨by simp;omega,by simp,?_,hcl2⟩,by simp;omega⟩
      ·show Value.string _=Value.string _;simp only [List.append_assoc]
      ·simp only;rw [← hY];simp [Ch.V6,List.append_assoc]
  ·have hf8:f=8:=by omega
   subst hf8;clear h;have hend:Y++Ch.V6 e=Ch.a0h g 8 0 0:=hY;have hout:∀ T:Tx,X++Y++Ch.V6 e++(if r'=0 then [] else [47])=T→T++Ch.boardT p r'=Ch.boardT p 8:=by
    intro T hT;rw [← hT,← hX,hb1,← hend];simp only [List.append_assoc]
   refine zR ?_;apply E.b7<;>intro h
   ·have hce:Ch.V6 e=Ch.dec e:=by unfold Ch.V6;rw [if_neg zo]
    have hdl:=a2t 2 e zd zo;rw [hce] at hout;refine zR ?_;refine m9 (a0K e _ zo) fun w3 c3=>zR ?_;refine E.y6 (v8 (by rw [List.length_append];omega)) ?_
    rw [A2];refine zR ?_;apply E.b7<;>intro h
    ·refine zR ?_;refine E.y6 (a18 (by simp only [C9,List.length_append];simp [ByteArray.size];omega)) ?_
     rw [a0E,A2];refine zR ?_;refine ⟨(r',X++Y++Ch.dec e++[47]),⟨rfl,m7 nr,trivial⟩,⟨by simp;omega,?_,hcl2.trans c3⟩,by simp⟩
     simp only
     exact hout _ (by rw [if_neg zo])
    ·refine zR ?_;refine ⟨(r',X++Y++Ch.dec e),⟨rfl,m7 nr,trivial⟩,⟨by simp;omega,?_,hcl2.trans c3⟩,by simp⟩
     simp only
     exact hout _ (by rw [if_pos zo,List.append_nil])
   ·have hce:Ch.V6 e=[]:=by unfold Ch.V6;rw [if_pos zo]
    rw [hce] at hout;refine zR ?_;apply E.b7<;>intro h
    ·refine zR ?_;refine E.y6 (a18 (by simp only [C9,List.length_append];simp [ByteArray.size];omega)) ?_
     rw [a0E,A2];refine zR ?_;refine ⟨(r',X++Y++[47]),⟨rfl,m7 nr,trivial⟩,⟨by simp;omega,?_,hcl2⟩,by simp⟩
     simp only
     exact hout _ (by rw [if_neg zo,List.append_nil])
    ·refine zR ?_;refine ⟨(r',X++Y),⟨rfl,m7 nr,trivial⟩,⟨by simp;omega,?_,hcl2⟩,by simp⟩
     simp only
     exact hout _ (by rw [if_pos zo,List.append_nil,List.append_nil])
 ·have hr0:r=0:=by omega
  subst hr0;refine zR ?_;refine ⟨D9 ?_,hE _ hcl⟩;rw [a0p,← hX];simp [Ch.boardT]
def a2V (n:Nat):Tx:=if n=0 then [75] else if n=1 then [81] else if n=2 then [107] else [113]
def a0B (c:Int):Nat→Tx
 | 0=>[]
 | n+1=>a0B c n++(if Ch.P8 c n=true then a2V n else [])
theorem a7j (c:Int):∀ n,(a0B c n).length≤n:=by
 intro n
 induction n with
 | zero=>simp [a0B]
 | succ n ih =>
  rw [a0B,List.length_append];have:(if Ch.P8 c n=true then a2V n else []).length≤1:=by
   split
   ·unfold a2V;repeat' split
    all_goals simp
   ·simp
  omega
theorem a7k (c:Int):Ch.castT c=if a0B c 4=[] then [45] else a0B c 4:=by
 unfold Ch.castT;simp only [a0B,a2V,List.nil_append];cases Ch.P8 c 0<;>cases Ch.P8 c 1<;>cases Ch.P8 c 2<;>cases Ch.P8 c 3<;>rfl
theorem c2H:∀ i<4,(([75,81,107,113]:Tx).drop i).take 1=a2V i:=by decide
theorem b02 (c:Int) (h0:0≤c) (h1:c≤15) (w:World):Calls G.P 49 #[.int .i64 c] w (D5 (s8 (Ch.castT c)) w):=by
 refine zN Tryz.func49 ?_;refine zG ?_;refine zR ?_;refine A9 (σ:=Nat) [3,4] 5 (fun a=>[(3,s8 (a0B c a)),(4,.int .i64 a)]) (fun a w'=>a≤4∧w'=w) (fun a=>4-a) zk 0
  ⟨zo,rfl⟩ ⟨rfl,rfl,trivial⟩ ?_
 rintro n j w2 ⟨hn,hw⟩;subst hw;have hl:=a7j c n;refine zR ?_;apply E.b7<;>intro h
 ·have hn4:n<4:=by omega
  clear h;have nn:IntKind.i64.wrap ((n:Int)+1)=((n+1:Nat):Int):=by rw [g7 zo zo];omega
  refine zR ?_;intro r2 hr2;have hbi:=a9j h0 h1 hn4;refine zR ?_;intro r3 hr3;rw [← hr2,← hr3] at hbi;clear hr2 hr3;refine zR ?_;apply E.b7<;>intro h
  ·have hb:=hbi.1 h;refine zR ?_;refine a0J (a2V n) rfl rfl rfl (a0E _) zo (by rw [nn];omega) (by rw [nn];simp only [Array.length_toList];show ((n+1:Nat):Int)≤4;omega) ?_ ?_
   ·rw [nn,show ((n+1:Nat):Int).toNat-(n:Int).toNat=1 by omega];exact c2H _ zo
   refine zR ?_;have hr:(a2V n).length≤1:=by
    unfold a2V;repeat' split
    all_goals simp
   refine E.y6 (v8 zo) ?_;rw [A2];refine zR ?_;exact ⟨n+1,⟨by rw [a0B,if_pos hb];rfl,m7 nn,trivial⟩,⟨zo,rfl⟩,zo⟩
  ·have hb:Ch.P8 c n=false:=by
    cases hh:Ch.P8 c n
    ·rfl
    ·exact absurd (hbi.2 hh) h
   refine zR ?_;exact ⟨n+1,⟨by rw [a0B,hb];simp only [List.append_nil,Bool.false_eq_true,if_false];rfl,m7 nn,trivial⟩,⟨zo,rfl⟩,zo⟩
 ·have hn4:n=4:=by omega
  subst hn4;clear h;refine zR ?_;apply E.b7<;>intro h
  ·have he:a0B c 4=[]:=by rw [a0E] at h;exact a0p.1 h
   refine zR ?_;exact ⟨D9 (by rw [a7k,if_pos he];rfl),rfl⟩
  ·have he:a0B c 4≠[]:=fun e=>h (by rw [a0E,e])
   refine zR ?_;exact ⟨D9 (by rw [a7k,if_neg he]),rfl⟩
theorem Y1 (l a:Tx):tx a++(⟨l.toArray⟩:ByteArray)=tx (a++l):=A2 a l
theorem a0Y (c:Int):(Ch.castT c).length≤4:=by
 rw [a7k];split
 ·simp
 ·exact a7j c 4
theorem a68 (e:Int):(Ch.epT e).length≤2:=by
 unfold Ch.epT;split
 ·simp [Ch.A7,Ch.F7]
 ·simp
theorem a3s (e:Int):(Ch.a5Z e).length=1:=by unfold Ch.a5Z;split<;>rfl
theorem a82 {C:World→Prop} {n:Int} (h0:0≤n) {k k':IntKind} {x y:Operand} {ts:Array Nat} {dst:Option Nat} {ty:Nat} {pos:String} {af:Array Edge} {gd:Option (Nat×Bool)} {env:C0} {K:Value→Prop}
  (hx:ev env x = .int k n) (hy:ev env y = .int k' 0) (h:K (.int k n)) :
  b3X G.P C { dst,op:=.call { callee:=.builtin .max,args:=#[x,y],argTypes:=ts },type:=ty,pos,after:=af,guard:=gd } env K:=by
 refine ⟨_,fun w _=>?_,h⟩;simp only [execOp,resolve,invoke,builtin,Sem.run_bind,Sem.run_pure,Result.andThen_ok,List.map_toArray,List.map_cons,List.map_nil,hx,hy];rw [run_max_int2,if_neg zo];rfl
structure Fen (p:A3):Prop where
 pc:Pc p
 c0:0≤p.castle
 c1:p.castle≤15
 h0:0≤p.half
 h1:p.half<9223372036854775808
 f0:0≤p.full
 f1:p.full<9223372036854775808
theorem a0Z (p:A3) (hp:Fen p) (w:World):Calls G.P 18 #[C4 p] w (K4 (s8 (Ch.fenT p)) w):=by
 refine zN Tryz.func18 ?_;refine zG ?_;generalize hW:w.alloc (.cells (o9 p) 24)=W0;have hP:∀ w',Cl W0 w'→w'.heap[w.heap.size]?=some (.cells (o9 p) 24 (0,0)):=fun w' h=>(hW▸h:Cl (w.alloc (.cells (o9 p) 24)) w').blk (q8 _ _);have hE:∀ w',Cl W0 w'→Cl w w':=fun w' h=>(Cl.alloc _ _).trans (hW▸h);obtain ⟨hpc,c0,c1,hh0,hh1,hf0,hf1⟩:=hp;have hbl:=Y0 p 8;have hcl:=a0Y p.castle;have hel:=a68 p.ep;have htl:=a3s p.turn;have hhl:=a0q (n:=p.half.toNat) zo;have hfl:=a0q (n:=p.full.toNat) zo;have hsq:∀ w,0≤p.ep→p.ep<64→Calls G.P 47 #[.int .i64 p.ep] w (K4 (s8 (Ch.epT p.ep)) w):=fun w h h'=>by
  have:=b0z p.ep h zo w;unfold Ch.epT;rw [if_pos ⟨h,h'⟩];exact this
 have hT:Ch.fenT p=Ch.boardT p 8++[32]++Ch.a5Z p.turn++[32]++Ch.castT p.castle++[32]++Ch.epT p.ep++[32]++Ch.dec p.half.toNat++[32]++Ch.dec p.full.toNat:=rfl;rw [hT];clear hT;refine Nx.mk (zG ?_);refine A4 (σ:=Unit) [3,5,6,7] 8 (fun _=>[(3,s8 (Ch.a5Z p.turn))]) (fun _ w'=>w'=W0) zk ?_ (fun _ j w3 h=>?_)
 ·refine zR ?_;refine d7 _ (E5 (hP _ (Cl.refl _))) (zR ?_);apply E.b7<;>intro h
  ·refine zR ?_;exact ⟨(),⟨by unfold Ch.a5Z;rw [if_pos h];rfl,trivial⟩,rfl⟩
  ·refine zR ?_;exact ⟨(),⟨by unfold Ch.a5Z;rw [if_neg h];rfl,trivial⟩,rfl⟩
 subst h;refine A4 (σ:=Unit) [4,8,9,10,11,12,13,14,15,16,17,18] 19 (fun _=>[(4,s8 (Ch.epT p.ep))]) (fun _ w'=>Cl w3 w') zk ?_ (fun _ j w4 c4=>?_)
 ·refine zR ?_;refine d7 _ (a3R (hP _ (Cl.refl _))) (zR ?_);apply E.b7<;>intro h
  ·have e0:=h;clear h;refine zR ?_;refine d7 _ (a3R (hP _ (Cl.refl _))) (zR ?_);apply E.b7<;>intro h
   ·refine zR ?_;refine d7 _ (a3R (hP _ (Cl.refl _))) (zR ?_);refine m9 (hsq _ e0 h) fun w4 c4=>zR ?_;exact ⟨(),⟨rfl,trivial⟩,c4⟩
   ·refine zR ?_;exact ⟨(),⟨by unfold Ch.epT;rw [if_neg zo];rfl,trivial⟩,Cl.refl _⟩
  ·refine zR ?_;exact ⟨(),⟨by unfold Ch.epT;rw [if_neg zo];rfl,trivial⟩,Cl.refl _⟩
 generalize hb:Ch.boardT p 8=B at *;generalize Ch.a5Z p.turn=T1 at *;generalize hc:Ch.castT p.castle=T2 at *;generalize Ch.epT p.ep=T3 at *;refine zR ?_;refine zK 27 ?_;refine zR ?_;refine g9 (.agg (bdA p)) (fun w hw=>c0e (hP _ (c4.trans hw))) (zR ?_);refine C7 (s8 B) (fun _ _ h=>h.trans) (fun w _=>?_) ?_
 ·rw [← hb];exact b2e p hpc w
 refine zR ?_;refine E.y6 (a18 (by simp only [C9];simp [ByteArray.size];omega)) ?_
 rw [Y1 [32]];refine zR ?_;refine E.y6 (v8 (by simp only [List.length_append];simp;omega)) ?_
 rw [A2];refine zR ?_;refine E.y6 (a18 (by simp only [C9];simp [ByteArray.size];omega)) ?_
 rw [Y1 [32]];refine zR ?_;refine g9 _ (fun w hw=>a1f (hP _ (c4.trans hw))) (zR ?_);refine A5 (s8 T2) (fun w _=>?_) ?_
 ·rw [← hc];exact b02 p.castle c0 c1 w
 refine zR ?_;refine E.y6 (v8 (by simp only [List.length_append];simp;omega)) ?_
 rw [A2];refine zR ?_;refine E.y6 (a18 (by simp only [C9];simp [ByteArray.size];omega)) ?_
 rw [Y1 [32]];refine zR ?_;refine E.y6 (v8 (by simp only [List.length_append];simp;omega)) ?_
 rw [A2];refine zR ?_;refine E.y6 (a18 (by simp only [C9];simp [ByteArray.size];omega)) ?_
 rw [Y1 [32]];refine zR ?_;refine g9 _ (fun w hw=>a6U (hP _ (c4.trans hw))) (zR ?_);refine a82 hh0 rfl rfl (zR ?_);refine C7 (s8 (Ch.dec p.half.toNat)) (fun _ _ h=>h.trans) (fun w _=>?_) ?_
 ·have:=a0K p.half.toNat w zo;rw [Int.toNat_of_nonneg hh0] at this;exact this
 refine zR ?_;generalize Ch.dec p.half.toNat=T4 at *;refine E.y6 (v8 (by simp only [List.length_append];simp;omega)) ?_
 rw [A2];refine zR ?_;refine E.y6 (a18 (by simp only [C9];simp [ByteArray.size];omega)) ?_
 rw [Y1 [32]];refine zR ?_;refine g9 _ (fun w hw=>a9i (hP _ (c4.trans hw))) (zR ?_);refine a82 hf0 rfl rfl (zR ?_);refine C7 (s8 (Ch.dec p.full.toNat)) (fun _ _ h=>h.trans) (fun w _=>?_) ?_
 ·have:=a0K p.full.toNat w zo;rw [Int.toNat_of_nonneg hf0] at this;exact this
 refine zR ?_;generalize Ch.dec p.full.toNat=T5 at *;refine E.y6 (v8 (by simp only [List.length_append];simp;omega)) ?_
 rw [A2];refine zR ?_;intro w5 c5;refine zR ?_;exact ⟨rfl,hE _ (c4.trans c5)⟩
theorem O3:G2 157 5 1 1:=R0 zk
theorem elStr:G2 42 9 1 16:=R0 zk
def a4E (t:Tx):List Value:=[s8 t]
theorem B5 (t:Tx):(a4E t).length=1:=rfl
theorem b9w:G.P.underlying 5=some (.int .u8):=by kernel_rfl
theorem b2f:G.P.underlying 157=some (.slice 5):=by kernel_rfl
theorem a7l (l:Tx) {b:Nat} {n c:Nat} {cs:Array Value} {u:Nat} {fz:Nat×Nat} {x:Operand} {dst:Option Nat} {ty:Nat} {pos:String} {af:Array Edge} {gd:Option (Nat×Bool)} {env:C0} {w:World} {K:Value→World→Prop}
  (hx:ev env x = .slice (some ⟨b,0,none⟩) n c) (hn:n=l.length) (hb:w.heap[b]?=some (.cells cs u fz)) (hc:∀ j (hj:j<l.length),cs[j]?=some (.int .u8 (l[j].toNat:Int)))
  (h:K (s8 l) w):L5 G.P { dst,op:=.convert 157 9 x,type:=ty,pos,after:=af,guard:=gd } env w K:=by
 subst hn;refine ⟨.inl ⟨_,w,?_,h⟩⟩;show (do pure (Next.value (← convert _ _ (ev env x))):Sem Next).run G.P w=_
 rw [hx,Sem.run_bind,run_convert_bytes_back (P:=G.P) w 157 9 5 ⟨b,0,none⟩ c l b2f b9w b0y (fun j hj=>by rw [G8,Nat.zero_add,C8 hb];exact hc j hj)]
 rfl
theorem a5u (n:Int) (h0:0≤n) (h1:n≤63) (w:World):Calls G.P 62 #[.int .i64 n] w (K4 (s8 (Ch.A7 n)) w):=by
 refine zN Tryz.func62 ?_;refine zG ?_;refine zR ?_;refine E6 O3 [.int .u8 (97+n%8)] ?_ (by simp [Value.cells]) rfl zd zd ?_
 ·rw [Array.toList_map];have e1:IntKind.u8.wrap (IntKind.i64.wrap (97+n.tmod 8))=97+n%8:=by
   rw [a19 h0,g7 zo zo];simp [IntKind.wrap,IntKind.bits,IntKind.signed];omega
  rw [← e1];rfl
 refine zR ?_;refine a7l (Ch.A7 n) rfl rfl (q8 _ _) ?_ ?_
 ·intro j hj;have:j=0:=by simp [Ch.A7] at hj;omega
  subst this;simp [Value.cells,Ch.A7];omega
 refine zR ?_;exact ⟨rfl,Cl.alloc _ _⟩
theorem a83 (n:Int) (h0:0≤n) (h1:n≤63) (w:World):Calls G.P 63 #[.int .i64 n] w (K4 (s8 (Ch.F7 n)) w):=by
 refine zN Tryz.func63 ?_;refine zG ?_;refine zR ?_;refine E6 O3 [.int .u8 (49+n/8)] ?_ (by simp [Value.cells]) rfl zd zd ?_
 ·rw [Array.toList_map];have e1:IntKind.u8.wrap (IntKind.i64.wrap (49+IntKind.i64.wrap (n.tdiv 8)))=49+n/8:=by
   rw [a4D h0,g7 (n:=n/8) zo zo,g7 zo zo];simp [IntKind.wrap,IntKind.bits,IntKind.signed];omega
  rw [← e1];rfl
 refine zR ?_;refine a7l (Ch.F7 n) rfl rfl (q8 _ _) ?_ ?_
 ·intro j hj;have:j=0:=by simp [Ch.F7] at hj;omega
  subst this;simp [Value.cells,Ch.F7];omega
 refine zR ?_;exact ⟨rfl,Cl.alloc _ _⟩
theorem T7 (n:Int) (h0:-1000≤n) (h1:n≤1000) (w:World):Calls G.P 61 #[.int .i64 n] w (K4 (s8 (Ch.Y7 n)) w):=by
 refine zN Tryz.func61 ?_;refine zG ?_;refine zR ?_;apply E.b7<;>intro h
 ·refine zR ?_;exact ⟨D9 (by unfold Ch.Y7;rw [if_pos (.inl h)];rfl),Cl.refl _⟩
 ·have a:=h;clear h;refine zR ?_;apply E.b7<;>intro h
  ·refine zR ?_;exact ⟨D9 (by unfold Ch.Y7;rw [if_pos (.inr h)];rfl),Cl.refl _⟩
  ·refine zR ?_;refine m9 (a5u n zo zo _) fun w1 c1=>zR ?_;refine m9 (a83 n zo zo _) fun w2 c2=>zR ?_;exact ⟨D9 (by unfold Ch.Y7;rw [if_neg zo];exact A2 _ _),c1.trans c2⟩
theorem a0a (n:Int):(Ch.Y7 n).length≤2:=by
 unfold Ch.Y7;split
 ·simp
 ·simp [Ch.A7,Ch.F7]
theorem L7 (n:Int):(Ch.A1 n).length≤1:=by
 unfold Ch.A1;iterate 5 (split;· simp)
 simp
theorem a7m {k:Int} (h:k<0∨6<k):Ch.A1 k=[]:=by
 unfold Ch.A1;rw [if_neg zo,if_neg zo,if_neg zo,if_neg zo,if_neg zo]
theorem a2W (k:Int) (w:World):Calls G.P 64 #[.int .i64 k] w (K4 (s8 (Ch.A1 k)) w):=by
 refine zN Tryz.func64 ?_;refine zG ?_;refine zR ?_;refine E6 elStr [s8 [],s8 [75],s8 [81],s8 [82],s8 [66],s8 [78],s8 []] (by rw [Array.toList_map];rfl) (by simp [Value.cells,s8]) rfl zd zd ?_
 have hr:=H9 B5 w [[],[75],[81],[82],[66],[78],[]] zd [s8 [],s8 [75],s8 [81],s8 [82],s8 [66],s8 [78],s8 []] rfl (e:=9) (z:=1);have c1:=Cl.alloc w (.cells (([s8 [],s8 [75],s8 [81],s8 [82],s8 [66],s8 [78],s8 []]:List Value).flatMap fun v=>v.cells.toList).toArray 9);generalize w.alloc (.cells (([s8 [],s8 [75],s8 [81],s8 [82],s8 [66],s8 [78],s8 []]:List Value).flatMap fun v=>v.cells.toList).toArray 9)=w1 at *;refine zR ?_;apply E.b7<;>intro h
 ·refine zR ?_;exact ⟨D9 (by rw [a7m zo];rfl),c1⟩
 ·have a:=h;clear h;refine zR ?_;apply E.b7<;>intro h
  ·refine zR ?_;exact ⟨D9 (by rw [a7m zo];rfl),c1⟩
  ·have hL:l8 G.P w1 9 ⟨w.heap.size,k.toNat,none⟩ (s8 (Ch.A1 k)):=by
    have hk:k=0∨k=1∨k=2∨k=3∨k=4∨k=5∨k=6:=by omega
    rcases hk with rfl | rfl | rfl | rfl | rfl | rfl | rfl
    ·exact J8 hr B5 0 0 zd zd rfl rfl rfl
    ·exact J8 hr B5 1 0 zd zd rfl rfl rfl
    ·exact J8 hr B5 2 0 zd zd rfl rfl rfl
    ·exact J8 hr B5 3 0 zd zd rfl rfl rfl
    ·exact J8 hr B5 4 0 zd zd rfl rfl rfl
    ·exact J8 hr B5 5 0 zd zd rfl rfl rfl
    ·exact J8 hr B5 6 0 zd zd rfl rfl rfl
   refine zR ?_;refine zC ?_;refine zR ?_;refine d7 (s8 (Ch.A1 k)) ?_ ?_
   ·simpa [E.z6] using hL
   refine zR ?_;exact ⟨rfl,c1⟩
theorem a3K (m:Mv) (w:World):Calls G.P 113 #[G5 m] w (K4 (s8 (Ch.Z9 m)) w):=by
 refine zN Tryz.func113 ?_;refine zG ?_;generalize hW:w.alloc (.cells (K2 m) 36)=W0;have hM:∀ w',Cl W0 w'→w'.heap[w.heap.size]?=some (.cells (K2 m) 36 (0,0)):=fun w' h=>(hW▸h:Cl (w.alloc (.cells (K2 m) 36)) w').blk (q8 _ _);have hE:∀ w',Cl W0 w'→Cl w w':=fun w' h=>(Cl.alloc _ _).trans (hW▸h);refine zR ?_;refine d7 _ (Z5 (hM _ (Cl.refl _))) (zR ?_);apply E.b7<;>intro h
 ·refine zR ?_;exact ⟨D9 (by unfold Ch.Z9;rw [if_pos h];rfl),hE _ (Cl.refl _)⟩
 ·refine zR ?_;refine d7 _ (Z5 (hM _ (Cl.refl _))) (zR ?_);refine m9 (a2W m.promo _) fun w1 c1=>?_;have:=L7 m.promo;refine zR ?_;refine E.y6 (a18 (by simp only [C9];simp [ByteArray.size];omega)) (zR ?_)
  exact ⟨D9 (by unfold Ch.Z9;rw [if_neg h];exact A2 [61] _),hE _ c1⟩
theorem b40 (m:Mv) (hm:b0h m) (w:World):Calls G.P 70 #[G5 m] w (K4 (s8 (Ch.b4g m)) w):=by
 obtain ⟨⟨a0,a1⟩,⟨b0,b1⟩,d0,d1⟩:=hm;refine zN Tryz.func70 ?_;refine zG ?_;generalize hW:w.alloc (.cells (K2 m) 36)=W0;have hM:∀ w',Cl W0 w'→w'.heap[w.heap.size]?=some (.cells (K2 m) 36 (0,0)):=fun w' h=>(hW▸h:Cl (w.alloc (.cells (K2 m) 36)) w').blk (q8 _ _);have hE:∀ w',Cl W0 w'→Cl w w':=fun w' h=>(Cl.alloc _ _).trans (hW▸h);refine zR ?_;refine E6 elStr [s8 [],s8 [107],s8 [113],s8 [114],s8 [98],s8 [110],s8 [112]] (by rw [Array.toList_map];rfl) (by simp [Value.cells,s8]) rfl zd zd ?_
 have hr:=H9 B5 W0 [[],[107],[113],[114],[98],[110],[112]] zd [s8 [],s8 [107],s8 [113],s8 [114],s8 [98],s8 [110],s8 [112]] rfl (e:=9) (z:=1);have c1:=Cl.alloc W0 (.cells (([s8 [],s8 [107],s8 [113],s8 [114],s8 [98],s8 [110],s8 [112]]:List Value).flatMap fun v=>v.cells.toList).toArray 9);generalize W0.alloc (.cells (([s8 [],s8 [107],s8 [113],s8 [114],s8 [98],s8 [110],s8 [112]]:List Value).flatMap fun v=>v.cells.toList).toArray 9)=w1 at *;refine zR ?_;refine zK 8 ?_;refine zR ?_;refine g9 _ (fun w hw=>L6 (hM _ (c1.trans hw))) (zR ?_);refine C7 (s8 (Ch.Y7 m.fr)) (fun _ _ h=>h.trans) (fun w _=>T7 m.fr zo zo w) (zR ?_);refine g9 _ (fun w hw=>a0g (hM _ (c1.trans hw))) (zR ?_);refine C7 (s8 (Ch.Y7 m.to)) (fun _ _ h=>h.trans) (fun w _=>T7 m.to zo zo w) ?_;have l1:=a0a m.fr;have l2:=a0a m.to;refine zR ?_;refine E.y6 (v8 zo) ?_;rw [A2];refine zR ?_;intro w2 c2;have c12:=c1.trans c2;have hT:Ch.b4g m=Ch.Y7 m.fr++Ch.Y7 m.to++(if 0<m.promo∧m.promo<7 then Ch.a3J m.promo else []):=rfl
 generalize Ch.Y7 m.fr=A at *;generalize Ch.Y7 m.to=B at *;refine zR ?_;refine d7 _ (Z5 (hM _ c12)) (zR ?_);apply E.b7<;>intro h
 ·have p0:=h;clear h;refine zR ?_;refine d7 _ (Z5 (hM _ c12)) (zR ?_);apply E.b7<;>intro h
  ·have p7:m.promo<7:=h;clear h;rw [if_pos ⟨p0,p7⟩] at hT;have hL:l8 G.P w2 9 ⟨W0.heap.size,m.promo.toNat,none⟩ (s8 (Ch.a3J m.promo)):=by
    have hk:m.promo=1∨m.promo=2∨m.promo=3∨m.promo=4∨m.promo=5∨m.promo=6:=by omega
    have hr:=hr.step c2;rcases hk with e | e | e | e | e | e<;>rw [e]
    ·exact J8 hr B5 1 0 zd zd rfl rfl rfl
    ·exact J8 hr B5 2 0 zd zd rfl rfl rfl
    ·exact J8 hr B5 3 0 zd zd rfl rfl rfl
    ·exact J8 hr B5 4 0 zd zd rfl rfl rfl
    ·exact J8 hr B5 5 0 zd zd rfl rfl rfl
    ·exact J8 hr B5 6 0 zd zd rfl rfl rfl
   have hsl:(Ch.a3J m.promo).length≤1:=by
    unfold Ch.a3J;iterate 6 (split;· simp)
    simp
   refine zR ?_;refine d7 _ (Z5 (hM _ c12)) (zR ?_);refine zC ?_;refine zR ?_;refine d7 (s8 (Ch.a3J m.promo)) ?_ ?_
   ·simpa [E.z6] using hL
   refine zR ?_;refine E.y6 (v8 (by simp only [List.length_append];omega)) ?_
   rw [A2];refine zR ?_;exact ⟨D9 (by rw [hT]),hE _ c12⟩
  ·rw [if_neg (by have:¬ m.promo<7:=h;omega),List.append_nil] at hT
   refine zR ?_;exact ⟨D9 (by rw [hT]),hE _ c12⟩
 ·rw [if_neg zo,List.append_nil] at hT;refine zR ?_;exact ⟨D9 (by rw [hT]),hE _ c12⟩
end
end Go.Proofs.YtpclhlhcegcflaaGreatDoor
