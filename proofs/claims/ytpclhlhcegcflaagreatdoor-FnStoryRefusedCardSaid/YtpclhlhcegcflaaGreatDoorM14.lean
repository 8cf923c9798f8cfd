/- One part of the proof: Pk31 Err Pk32 Pk33 Pk34 Pk35 Pk36 Law10 Pk37 Pk38. -/
import Derived.Maps.RangeRun
import Derived.MapKept
import Derived.Test.YtpclhlhcegcflaaGreatDoorM13
namespace Go.Proofs.YtpclhlhcegcflaaGreatDoor
open Go.Proofs.Tryz
set_option maxRecDepth 100000
set_option linter.unusedSimpArgs false
set_option linter.unusedVariables false
section
open Go Go.RowKit
open E
open Ch Bb
structure O0 where
 M:Nat
 d:Nd
 P:Nat
 b:Nat
 p:g9
 cv:Value
def a56 (w:World) (k:Value):List O0→Prop
 | []=>k = .slice none 0 0
 | m::_=>Row 85 1 O8 0 w k [m.M]
def Chn (w:World):List O0→Prop
 | []=>True
 | n::l=>w.heap[n.M]?=some (.cells (F7 n.d) 141 (0,0))∧n.d.pos = .pointer (some ⟨n.P,0,none⟩)∧a56 w n.d.kids l∧G8 w n.P n.b n.p n.cv∧Chn w l
theorem a56.step {w w':World} {k:Value} {l:List O0} (h:a56 w k l) (c:Cl w w'):a56 w' k l:=by
 cases l with
 | nil=>exact h
 | cons m l=>exact Row.step h c
theorem Chn.step {w w':World}:∀ {l:List O0},Chn w l→Cl w w'→Chn w' l
 | [],_,_=>trivial
 | n::l,⟨h1,h2,h3,h4,h5⟩,c=>⟨c.blk h1,h2,h3.step c,h4.step c,Chn.step h5 c⟩
theorem c41:H0 285 83 1 8:=U5 zk
set_option maxHeartbeats 1000000 in
theorem b3n {G0 t:Nat} {g:Gm} {fz:Nat×Nat} {n:O0} {l:List O0} (hl:(n::l).length≤100000) (w:World) (hb:w.heap[G0]?=some (.cells (gmA g) t fz)) (hr:g.root=n.M) (hc:Chn w (n::l)) :
  Calls G.P 248 #[.pointer (some ⟨G0,0,none⟩)] w (fun r w'=>∃ v,r = .returned v∧Row 83 1 O8 w.heap.size w' v ((n::l).map O0.P)∧Cl w w'):=by
 refine zN func248 ?_;refine zR ?_;refine b0K c41 0 rfl rfl zd zd fun cs hcs=>?_;have ca:=Cl.alloc w (.cells cs 83);have hr0:Row 83 1 O8 w.heap.size (w.alloc (.cells cs 83)) (.slice (some ⟨w.heap.size,0,none⟩) 0 0) ([]:List Nat):=Row.zero (yO _) (d8 _ _) hcs zd;generalize w.alloc (.cells cs 83)=w1 at *;refine zR ?_;refine b7 _ (b6q (ca.blk hb)) ?_;rw [hr];refine zR ?_;refine C1 (σ:=List Nat×Value×O0×List O0) [3,4] 5 (fun s=>[(3,s.2.1),(4,.pointer (some ⟨s.2.2.1.M,0,none⟩))]) (fun s w'=>Cl w w'∧Row 83 1 O8 w.heap.size w' s.2.1 s.1∧Chn w (s.2.2.1::s.2.2.2)∧s.1++(s.2.2.1::s.2.2.2).map O0.P=(n::l).map O0.P) (fun s=>s.2.2.2.length) zk
  ([],_,n,l) ⟨ca,hr0,hc,rfl⟩ ⟨rfl,rfl,trivial⟩ ?_
 rintro ⟨dn,v,m,k⟩ j w2 ⟨c2,hrw,hch,he⟩;simp only at c2 hrw hch he ⊢;obtain ⟨a,kk,rfl,_⟩:=hrw.form;obtain ⟨hm,hp,hk,hP,hrest⟩:=hch;have hm0:=hm;have hm:=c2.blk hm0;have hlen:=yM List.length he;simp only [zF,yi,zh] at hlen hl;have hlp:∀ w',Cl w2 w'→m9 G.P w' 83 ⟨m.M,1,none⟩ (.pointer (some ⟨m.P,0,none⟩)):=fun w' c=>by
  have:m9 G.P w' 83 ⟨m.M,1,none⟩ m.d.pos:=c3Y (c.blk hm)
  rwa [hp] at this
 have hlk:∀ w',Cl w2 w'→m9 G.P w' 134 ⟨m.M,5,none⟩ m.d.kids:=fun w' c=>D9 (c.blk hm) rfl rfl;refine zR ?_;refine G7 false (N2 rfl _) (zR ?_);refine b7 _ (hlp _ (Cl.refl _)) (zR ?_);refine G7 false (N2 rfl _) (zR ?_);refine b7 _ (hlp _ (Cl.refl _)) (zR ?_);refine zL c41 [.pointer (some ⟨m.P,0,none⟩)] ?_;have cb:=Cl.alloc w2 (.cells (([.pointer (some ⟨m.P,0,none⟩)]:List Value).flatMap fun v=>v.cells.toList).toArray 83);have hbx:Row 83 1 O8 w2.heap.size (w2.alloc (.cells (([.pointer (some ⟨m.P,0,none⟩)]:List Value).flatMap fun v=>v.cells.toList).toArray 83)) (.slice (some ⟨w2.heap.size,0,none⟩) 1 1) [m.P]:=C7 Y9 w2 [m.P] (by exact zU rfl) [.pointer (some ⟨m.P,0,none⟩)] rfl
 generalize w2.alloc (.cells (([.pointer (some ⟨m.P,0,none⟩)]:List Value).flatMap fun v=>v.cells.toList).toArray 83)=w3 at *;refine zR ?_;refine I5 c41 (l:=dn) (news:=[m.P]) rfl (hrw.step cb) rfl hbx Y9 a55 (by simp only [zh,za];omega) zd (c2.trans cb).size fun v' w4 hr' hg=>?_
 have c04:Cl w w4:=hg.toCl rfl (c2.trans cb);have hlk4:m9 G.P w4 134 ⟨m.M,5,none⟩ m.d.kids:=D9 (c04.blk hm0) rfl rfl;obtain ⟨a9,c9,rfl,_⟩:=hr'.form;refine zR ?_;refine b7 _ hlk4 ?_;cases k with
 | nil =>
  have e0:m.d.kids = .slice none 0 0:=hk;rw [e0];refine zR ?_;exact ⟨_,rfl,by rw [← he];exact hr',c04⟩
 | cons m2 k =>
  have hk2:Row 85 1 O8 0 w m.d.kids [m2.M]:=hk;obtain ⟨ak,ck,ek,hak⟩:=hk2.form;obtain ⟨gk,rfl⟩:=hak Nat.zero_lt_one;rw [ek] at hk2 hlk4 ⊢;have hk4:=hk2.step c04;refine zR ?_;refine b7 _ hlk4 (zR ?_);refine b7 _ (P6 hk4 Y9 0 0 Nat.zero_lt_one zd rfl rfl rfl) (zR ?_);exact ⟨(dn++[m.P],_,m2,k),⟨rfl,rfl,trivial⟩,⟨c04,hr',hrest,by rw [← he];simp⟩,by simp⟩
theorem Chn.get {w:World}:∀ {l:List O0},Chn w l→∀ (i:Nat) (hi:i<l.length),G8 w l[i].P l[i].b l[i].p l[i].cv
 | n::l,⟨_,_,_,h4,h5⟩,0,_=>h4
 | n::l,⟨_,_,_,h4,h5⟩,i+1,hi=>Chn.get h5 i (Nat.lt_of_succ_lt_succ hi)
theorem b4Q (p q:g9):a17 p q=a17 q p:=by
 unfold a17;have e:∀ {α:Type} [DecidableEq α] (a b:α),decide (a=b)=decide (b=a):=fun a b=>by
  by_cases h:a=b
  ·subst h;rfl
  ·rw [zV h,zV (wY h)]
 rw [e p.board,e p.turn,e p.castle,e p.ep]
theorem b4R (l:List g9) (q p:g9):a9P (l++[q]) p=a9P l p+(if a17 p q then 1 else 0):=by
 unfold a9P;rw [List.filter_append,zF,List.filter_cons,b4Q q p];cases a17 p q<;>rfl
theorem b3o (l:List g9) (p:g9):a9P l p≤l.length:=xQ _ _
theorem b9G {p:g9} (hI:B7 p) {G0 b t:Nat} {g:Gm} {fz:Nat×Nat} {cv:Value} {n:O0} {l:List O0} (hl:(n::l).length≤100000) (hJ:∀ x∈n::l,B7 x.p) (w:World) (hT:C6 w) (hb:w.heap[G0]?=some (.cells (gmA g) t fz)) (hr:g.root=n.M)
  (hc:Chn w (n::l)) (hP:G8 w g.P b p cv) :
  Calls G.P 197 #[.pointer (some ⟨G0,0,none⟩)] w (N0 (.int .i64 (a9P ((n::l).map O0.p) p)) w):=by
 refine zN func197 ?_;refine zR ?_;refine m8 (b3n hl w hb hr hc) ?_;rintro e w1 ⟨v,rfl,hrw,c1⟩;refine ⟨_,rfl,?_⟩;obtain ⟨a,k,rfl,ha⟩:=hrw.form;generalize hxs:n::l=xs at *;have hlm:(xs.map O0.P).length=xs.length:=yi _;rw [hlm] at hrw ha ⊢;refine zR ?_;refine C1 (σ:=Nat) [3,5,9] 10 (fun i=>[(3,.int .i64 (a9P ((xs.take i).map O0.p) p)),(9,.int .i64 i)]) (fun i w'=>i≤xs.length∧Cl w1 w') (fun i=>xs.length-i) zk 0 ⟨xJ _,Cl.refl _⟩ ⟨rfl,rfl,trivial⟩ ?_;rintro i j w2 ⟨hi,c2⟩;have ni:=C4 (i:=i) zo;have c02:=c1.trans c2;have htl:=b3o ((xs.take i).map O0.p) p;rw [yi,yh] at htl;have nt:=C4 (i:=a9P ((xs.take i).map O0.p) p) zo;refine zR ?_;apply E.d7<;>intro h
 ·have hi2:i<xs.length:=by omega
  clear h;obtain ⟨gk,rfl⟩:=ha zo;have htk:xs.take (i+1)=xs.take i++[xs[i]]:=zx hi2;have hts:a9P ((xs.take (i+1)).map O0.p) p=a9P ((xs.take i).map O0.p) p+(if a17 p xs[i].p then 1 else 0):=by rw [htk,List.map_append];exact b4R _ _ _
  have hx:=hc.get i hi2;have hxJ:=hJ _ (yQ hi2);have hld:=fun {o:Nat} (ho:o=i*1+0)=>P6 (t:=83) (v:=.pointer (some ⟨xs[i].P,0,none⟩)) (hrw.step c2) Y9 i 0 (by rw [hlm];exact hi2) zd (by rw [List.getElem_map];rfl) ho rfl
  generalize xs[i]=x at *;refine zR ?_;refine zC ?_;refine zR ?_;refine b7 _ (hld (a1o _ _)) (zR ?_);refine V0 false (N2 rfl _) (zR ?_);refine b7 _ (a4W (c02.blk hb)) (zR ?_);refine o7 (a9v hI hxJ w2 (hT.cl c02) (c02.blk hP.hd) (c02.blk hP.bd) (c02.blk hx.hd) (c02.blk hx.bd)) fun w3 c3=>zR ?_;cases hal:a17 p x.p with
  | true =>
   rw [hal] at hts;refine zR ?_;refine ⟨i+1,⟨?_,d9 ni,trivial⟩,⟨zo,c2.trans c3⟩,zo⟩;rw [hts];exact d9 nt
  | false =>
   rw [hal] at hts;refine zR ?_;refine ⟨i+1,⟨?_,d9 ni,trivial⟩,⟨zo,c2.trans c3⟩,zo⟩;rw [hts];rfl
 ·have e:i=xs.length:=by omega
  subst e;rw [yf];refine zR ?_;exact ⟨rfl,c02⟩
def b3p (v:Value):Value:=.iface 231 v
theorem c6Z:∃ e,G.P.underlying 231=some (.pointer e):=b6i rfl
section gens
variable {dst:Option Nat} {ty:Nat} {pos:String} {af:Array Edge} {gd:Option (Nat×Bool)} {env:C9}
theorem c2j {w:World} {K:Value→World→Prop} {t e:Nat} {x:Operand} (ht:G.P.underlying t=some (.pointer e)) (h:K (.iface t (ev env x)) w):L6 G.P { dst,op:=.makeInterface t x,type:=ty,pos,after:=af,guard:=gd } env w K:=by
 refine ⟨.inl ⟨.iface t (ev env x),w,?_,h⟩⟩;simp [execOp,Instr.makeInterface,run_underlying ht]
end gens
theorem a9y (s:ByteArray) (w:World):Calls G.P 135 #[.string s] w (fun r w'=>∃ v,r = .returned (b3p v)∧Cl w w'):=by
 obtain ⟨e,he⟩:=c6Z;refine zN func135 ?_;refine zR ?_;refine r7 #[.string s] zk (zR ?_);refine c2j he (zR ?_);exact ⟨_,rfl,Cl.alloc _ _⟩
set_option maxHeartbeats 1000000 in
theorem a9z {p:g9} (hI:B7 p) (hle:(A5 p).length≤218) {G0 t M b:Nat} {g:Gm} {fz:Nat×Nat} {cv:Value} {d:Nd} (w:World) (hT:C6 w) (hb:w.heap[G0]?=some (.cells (gmA g) t fz)) (hP:G8 w g.P b p cv)
  (hM:w.heap[M]?=some (.cells (F7 d) 141 (0,0))) (hGP:G0≠g.P) (hMP:M≠g.P) :
  Calls G.P 101 #[.pointer (some ⟨G0,0,none⟩),.pointer (some ⟨M,0,none⟩)] w (fun r w'=>(d.mv∈p9 p∧r = .returned .nilIface∧∃ cv',G8 w' g.P b p cv'∧Tn g.P w w'∧Row 141 11 D8 0 w' cv' (P7 p)∧∀ k,cv'.ownBlock=some k→cv.ownBlock=some k∨w.heap.size≤k)
  ∨(d.mv∉p9 p∧(∃ v,r = .returned (b3p v))∧Tn g.P w w')):=by
 obtain ⟨mm1,mm2⟩:=a1l hI;have hlen:=a6i hI hle;refine zN func101 ?_;refine zR ?_;refine V0 false (N2 rfl _) (zR ?_);refine b7 _ (a4W hb) (zR ?_);refine V0 false (N2 rfl _) (zR ?_);refine b7 _ (a4W hb) (zR ?_);refine m8 (a6j hI hle w hT hP) ?_;rintro r w2 ⟨v,cv',rfl,hr,hP2,n2,hr0,hown⟩;obtain ⟨av,kv,rfl,hav⟩:=hr.form;refine ⟨_,rfl,?_⟩;have hM2:=n2.blk hM hMP;refine zR ?_;refine C1 (σ:=Nat) [4,7,24] 25 (fun i=>[(4,.nilIface),(24,.int .i64 i)]) (fun i w'=>i≤(P7 p).length∧Cl w2 w'∧∀ x∈(P7 p).take i,x.mv≠d.mv) (fun i=>(P7 p).length-i) zk 0 ⟨xJ _,Cl.refl _,fun x hx=>by simp at hx⟩ ⟨rfl,rfl,trivial⟩ ?_
 rintro i j w3 ⟨hi,c3,hno⟩;have ni:=C4 (i:=i) zo;refine zR ?_;apply E.d7<;>intro h
 ·have hi2:i<(P7 p).length:=by omega
  clear h;obtain ⟨ga,rfl⟩:=hav zo;have hld:=fun {o:Nat} (ho:o=i*11)=>b1G (hr.step c3) i hi2 ho;have hxm:=yQ hi2;have htk:(P7 p).take (i+1)=(P7 p).take i++[(P7 p)[i]]:=zx hi2;generalize (P7 p)[i]=x at *;refine zR ?_;refine zC ?_;refine zR ?_;refine b7 _ (hld (a1o _ _)) (zR ?_);refine s7 _ a3Z ?_;have cB:=Cl.alloc w3 (.cells (Value.agg (F7 (C3 ⟨⟨0,0,0⟩,0⟩))).cells 141);have nB:=d8 w3 (.cells (Value.agg (F7 (C3 ⟨⟨0,0,0⟩,0⟩))).cells 141);generalize w3.alloc (.cells (Value.agg (F7 (C3 ⟨⟨0,0,0⟩,0⟩))).cells 141)=w4 at *;refine zR ?_;refine K2 nB (D8 x) rfl a0O rfl (F9 x) (zU rfl) fun w5 u5=>?_;have hX:w5.heap[w3.heap.size]?=some (.cells (F7 (C3 x)) 141 (0,0)):=by have h7:=u5.at_;rw [B5 _ _ (by rw [J2];rfl)] at h7;exact h7
  have c5:Cl w3 w5:=(Tn.upd u5).toCl cB (yO _);have c25:=c3.trans c5;have hD:=c25.blk hM2;have hxe:∀ w6,Cl w5 w6→x.mv≠d.mv→i+1≤(P7 p).length∧Cl w2 w6∧∀ y∈(P7 p).take (i+1),y.mv≠d.mv:=fun w6 c6 hne=>⟨hi2,c25.trans c6,fun y hy=>by
   rw [htk] at hy;rcases zr.1 hy with hy|hy
   ·exact hno y hy
   ·rw [zY] at hy;rw [hy];exact hne⟩
  refine zR ?_;refine zK 25 ?_;refine zR ?_;refine a3B hX (zR ?_);refine a3B hD (zR ?_);apply E.d7<;>intro h
  ·have h1:x.mv.fr=d.mv.fr:=h;clear h;refine zR ?_;repeat (refine E.A0 h1 ?_;refine zR ?_)
   refine b15 hX (zR ?_);repeat (refine E.A0 h1 ?_;refine zR ?_)
   refine b15 hD (zR ?_);repeat (refine E.A0 h1 ?_;refine zR ?_)
   apply E.d7<;>intro h
   ·have h2:x.mv.to=d.mv.to:=h;clear h;refine zR ?_;repeat (refine E.A0 h2 ?_;refine zR ?_)
    refine a8l hX (zR ?_);repeat (refine E.A0 h2 ?_;refine zR ?_)
    refine a8l hD (zR ?_);repeat (refine E.A0 h2 ?_;refine zR ?_)
    intro w6 c6;refine zR ?_;repeat (refine E.A0 h2 ?_;refine zR ?_)
    apply E.d7<;>intro h
    ·have h3:x.mv.promo=d.mv.promo:=h;have hx:x.mv=d.mv:=by rw [show x.mv=⟨x.mv.fr,x.mv.to,x.mv.promo⟩ from rfl,h1,h2,h3]
     refine zR ?_;have c26:=c25.trans c6;exact .inl ⟨hx▸(mm1 x hxm).1,rfl,cv',hP2.step c26,n2.trans (Tn.cl c26),hr0.step c26,hown⟩
    ·refine zR ?_;exact ⟨i+1,⟨rfl,d9 ni,trivial⟩,hxe _ c6 (fun e=>h (by rw [← e];rfl)),zo⟩
   ·have h2:¬ x.mv.to=d.mv.to:=h;clear h;refine zR ?_;repeat (refine E.o9 h2 ?_;refine zR ?_)
    intro w6 c6;refine zR ?_;repeat (refine E.o9 h2 ?_;refine zR ?_)
    exact ⟨i+1,⟨rfl,d9 ni,trivial⟩,hxe _ c6 (fun e=>h2 (by rw [← e])),zo⟩
  ·have h1:¬ x.mv.fr=d.mv.fr:=h;clear h;refine zR ?_;repeat (refine E.o9 h1 ?_;refine zR ?_)
   intro w6 c6;refine zR ?_;repeat (refine E.o9 h1 ?_;refine zR ?_)
   exact ⟨i+1,⟨rfl,d9 ni,trivial⟩,hxe _ c6 (fun e=>h1 (by rw [← e])),zo⟩
 ·have e:i=(P7 p).length:=by omega
  subst e;rw [yf] at hno;have hd:d.mv∉p9 p:=fun hm=>by
   obtain ⟨x,hx,e⟩:=mm2 _ hm;exact absurd e (hno x hx)
  refine zR ?_;refine m8 (a9y _ w3) ?_;rintro _ w8 ⟨v,rfl,c8⟩;refine ⟨_,rfl,zR ?_⟩;exact .inr ⟨hd,⟨_,rfl⟩,n2.trans (Tn.cl (c3.trans c8))⟩
def c42 (p:g9) (b:Nat):Prop:=∀ w',C6 w'→w'.heap[b]?=some (.cells (J4 (a1s p)) 237 (0,0)) →
 Calls G.P 198 #[.pointer (some ⟨b,0,none⟩)] w' (N0 (.bool (!a4T p)) w')
set_option maxHeartbeats 1000000 in
theorem b0L {p:g9} (hI:B7 p) (hle:(A5 p).length≤218) {G0 b:Nat} {g:Gm} {cv:Value} {n:O0} {l:List O0} (hsuf:c42 p b) (hl:(n::l).length≤100000) (hJ:∀ x∈n::l,B7 x.p) (w:World) (hT:C6 w) (hb:w.heap[G0]?=some (.cells (gmA g) 131 (0,0))) (hr:g.root=n.M)
  (hc:Chn w (n::l)) (hP:G8 w g.P b p cv) (hGP:g.P≠G0) (hGb:b≠G0) (hmo:g.out=star→g.meth=0) :
  Calls G.P 138 #[.pointer (some ⟨G0,0,none⟩)] w (fun r w'=>r = .returned (.tuple #[])∧∃ (m':Nat) (o':Tx),((m':Int),o')=D5 ((n::l).map O0.p) p ((g.meth:Int),g.out)
  ∧w'.heap[G0]?=some (.cells (gmA { g with out:=o',meth:=m' }) 131 (0,0))∧Fr [G0] w w'):=by
 have hS:=b0C hI w hT hP;have hstat:a5G p=if !(p9 p).isEmpty then 0 else if a1i p then 1 else 4:=rfl
 have hend:D5 ((n::l).map O0.p) p ((g.meth:Int),g.out)=if (p9 p).isEmpty then (if !a1i p then (4,drawT) else (1,a2W p.turn))
   else if g.out≠star then ((g.meth:Int),g.out)
   else
    let a:=if 5≤a9P ((n::l).map O0.p) p then (6,drawT) else ((g.meth:Int),g.out)
    let b:=if 150≤p.half then (8,drawT) else a
    if a4T p then (9,drawT) else b:=rfl
 have hnr:=fun w hT hb hc hP=>b9G hI hl hJ (g:=g) (G0:=G0) (t:=131) (fz:=(0,0)) (b:=b) (cv:=cv) w hT hb hr hc hP;rw [hend];clear hend;have hfix:∀ k∈[G0],∀ cs t fz,w.heap[k]?=some (.cells cs t fz)→a2I t=false:=fun k hk cs t fz h=>by
  have e:=zY.1 hk;rw [e] at h;have h2:=xP (yp (hb.symm.trans h));rw [← h2.2.1];decide
 have hTf:∀ {w'},Fr [G0] w w'→C6 w':=fun c=>hT.fr c hfix;have hPf:∀ {w'},Fr [G0] w w'→w'.heap[g.P]?=some (.cells (hdA b (D0 p (a1i p)) cv) 173 (0,0)):=fun c=>c.blk hP.hd (fun e=>hGP (zY.1 e));have hBf:∀ {w'},Fr [G0] w w'→w'.heap[b]?=some (.cells (J4 (a1s p)) 237 (0,0)):=fun c=>c.blk hP.bd (fun e=>hGb (zY.1 e));have htm:=b3o ((n::l).map O0.p) p;rw [yi] at htm;have htm:=zw htm hl;generalize a9P ((n::l).map O0.p) p=tm at *;refine zN func138 ?_;refine zR ?_;refine b7 _ (a4W hb) (zR ?_);rw [hstat] at hS;clear hstat;generalize (p9 p).isEmpty=em at *;have hPc:=hP.hd;generalize a1i p=ck at *;cases em with
 | true =>
  rw [zM rfl];cases ck with
  | false =>
   refine o7 hS fun w1 c1=>zR ?_;refine zT (c1.blk hb) [.int .u8 4] fun w2 u2=>?_;refine zR ?_;refine K2 u2.at_ [m7 drawT] rfl zk rfl (by intro v hv;simp at hv;subst hv;rfl) (zU rfl) fun w3 u3=>zR ?_
   refine b7 _ (a9w (g:={ g with out:=drawT,meth:=4 }) u3.at_) (zR ?_);exact ⟨rfl,4,drawT,rfl,u3.at_,((Fr.cl c1).trans (Fr.upd u2 (by simp))).trans (Fr.upd u3 (by simp))⟩
  | true =>
   refine o7 hS fun w1 c1=>zR ?_;refine zT (c1.blk hb) [.int .u8 1] fun w2 u2=>?_;refine zR ?_;refine K2 u2.at_ [m7 [49,45,48]] rfl zk rfl (by intro v hv;simp at hv;subst hv;rfl) (zU rfl) fun w3 u3=>zR ?_
   have c3:=((Fr.cl c1).trans (Fr.upd u2 (by simp))).trans (Fr.upd (S:=[G0]) u3 (by simp))
   refine b7 _ (a4W (g:={ g with out:=[49,45,48],meth:=1 }) u3.at_) (zR ?_);refine g7 (a5v w3 (hPf c3)) (zR ?_);apply E.d7<;>intro h
   ·have h0:p.turn=0:=by have h2:p.turn+1=1:=h;omega
    clear h;refine zR ?_;refine K2 u3.at_ [m7 [48,45,49]] rfl zk rfl (by intro v hv;simp at hv;subst hv;rfl) (zU rfl) fun w4 u4=>zR ?_
    refine b7 _ (a9w (g:={ g with out:=[48,45,49],meth:=1 }) u4.at_) (zR ?_);exact ⟨rfl,1,[48,45,49],by unfold a2W;rw [zM h0];rfl,u4.at_,c3.trans (Fr.upd u4 (by simp))⟩
   ·have h0:¬ p.turn=0:=fun e=>h (by show p.turn+1=1;omega)
    clear h;refine zR ?_;refine b7 _ (a9w (g:={ g with out:=[49,45,48],meth:=1 }) u3.at_) (zR ?_);exact ⟨rfl,1,[49,45,48],by unfold a2W;rw [zJ h0];rfl,u3.at_,c3⟩
 | false =>
  rw [zJ Bool.false_ne_true];refine o7 hS fun w1 c1=>zR ?_;refine b7 _ (a9w (c1.blk hb)) (zR ?_);apply E.y8<;>intro h
  ·have h0:g.out≠star:=fun e=>h (by rw [e];rfl)
   rw [zM h0];refine zR ?_;exact ⟨rfl,g.meth,g.out,rfl,c1.blk hb,Fr.cl c1⟩
  ·have h0:g.out=star:=yF ((b6g g.out).symm.trans (zX h));rw [zJ (show ¬ (g.out≠star) from fun e=>e h0)];have hm0:=hmo h0;clear h;refine zR ?_;refine b7 _ (a54 (c1.blk hb)) (zR ?_);refine o7 (hnr w1 (hT.cl c1) (c1.blk hb) (hc.step c1) (hP.step c1)) fun w2 c2=>?_;have c02:=Fr.cl (S:=[G0]) (c1.trans c2);have hb2:=(c1.trans c2).blk hb;refine zR ?_;apply E.d7<;>intro h
   ·have h5:5≤tm:=by have h2:(5:Int)≤(tm:Int):=h;omega
    clear h;refine zR ?_;refine zT hb2 [m7 drawT] fun w3 u3=>?_;refine zR ?_;refine K2 u3.at_ [.int .u8 6] rfl zk rfl (by intro v hv;simp at hv;subst hv;rfl) (zU rfl) fun w4 u4=>zR ?_
    have c04:=(c02.trans (Fr.upd (S:=[G0]) u3 (by simp))).trans (Fr.upd u4 (by simp))
    refine b7 _ (a54 (g:={ g with out:=drawT,meth:=6 }) u4.at_) (zR ?_);refine b7 _ (a4W (g:={ g with out:=drawT,meth:=6 }) u4.at_) (zR ?_);refine b7 _ (a27 (hPf c04)) (zR ?_);apply E.d7<;>intro h
    ·have h150:150≤p.half:=h;clear h;refine zR ?_;repeat (refine E.A0 h150 ?_;refine zR ?_)
     refine b7 _ (b1O (g:={ g with out:=drawT,meth:=6 }) u4.at_) (zR ?_);repeat (refine E.A0 h150 ?_;refine zR ?_)
     refine K2 u4.at_ [m7 drawT] rfl zk rfl (by intro v hv;simp at hv;subst hv;rfl) (zU rfl) fun w5 u5=>zR ?_
     refine K2 u5.at_ [.int .u8 8] rfl zk rfl (by intro v hv;simp at hv;subst hv;rfl) (zU rfl) fun w6 u6=>zR ?_
     have c06:=((c04).trans (Fr.upd (S:=[G0]) u5 (by simp))).trans (Fr.upd u6 (by simp))
     refine b7 _ (a54 (g:={ g with out:=drawT,meth:=8 }) u6.at_) (zR ?_);refine b7 _ (a4W (g:={ g with out:=drawT,meth:=8 }) u6.at_) (zR ?_);refine b7 _ (a8U (hPf c06)) (zR ?_);refine o7 (hsuf w6 (hTf c06) (hBf c06)) fun w7 c7=>?_;have hb7:=c7.blk u6.at_;have c07:=(c06).trans (Fr.cl c7);cases hd:a4T p with
     | true =>
      refine zR ?_;refine zT hb7 [m7 drawT] fun w8 u8=>?_;refine zR ?_;refine K2 u8.at_ [.int .u8 9] rfl zk rfl (by intro v hv;simp at hv;subst hv;rfl) (zU rfl) fun w9 u9=>zR ?_
      exact ⟨rfl,9,drawT,by simp only [zM h5];simp only [zM h150];rfl,u9.at_,(c07.trans (Fr.upd u8 (by simp))).trans (Fr.upd u9 (by simp))⟩
     | false =>
      refine zR ?_;exact ⟨rfl,8,drawT,by simp only [zM h5];simp only [zM h150];rfl,hb7,c07⟩
    ·have h150:¬ 150≤p.half:=h;clear h;refine zR ?_;repeat (refine E.o9 h150 ?_;refine zR ?_)
     refine b7 _ (a54 (g:={ g with out:=drawT,meth:=6 }) u4.at_) (zR ?_);refine b7 _ (a4W (g:={ g with out:=drawT,meth:=6 }) u4.at_) (zR ?_);refine b7 _ (a8U (hPf c04)) (zR ?_);refine o7 (hsuf w4 (hTf c04) (hBf c04)) fun w7 c7=>?_;have hb7:=c7.blk u4.at_;have c07:=(c04).trans (Fr.cl c7);cases hd:a4T p with
     | true =>
      refine zR ?_;refine zT hb7 [m7 drawT] fun w8 u8=>?_;refine zR ?_;refine K2 u8.at_ [.int .u8 9] rfl zk rfl (by intro v hv;simp at hv;subst hv;rfl) (zU rfl) fun w9 u9=>zR ?_
      exact ⟨rfl,9,drawT,by simp only [zM h5];simp only [zJ h150];rfl,u9.at_,(c07.trans (Fr.upd u8 (by simp))).trans (Fr.upd u9 (by simp))⟩
     | false =>
      refine zR ?_;exact ⟨rfl,6,drawT,by simp only [zM h5];simp only [zJ h150];rfl,hb7,c07⟩
   ·have h5:¬ 5≤tm:=fun e=>h (by show (5:Int)≤(tm:Int);omega)
    clear h;refine zR ?_;refine b7 _ (a54 (g:=g) hb2) (zR ?_);refine b7 _ (a4W (g:=g) hb2) (zR ?_);refine b7 _ (a27 (hPf c02)) (zR ?_);apply E.d7<;>intro h
    ·have h150:150≤p.half:=h;clear h;refine zR ?_;repeat (refine E.A0 h150 ?_;refine zR ?_)
     refine b7 _ (b1O (g:=g) hb2) (zR ?_);repeat (refine E.A0 h150 ?_;refine zR ?_)
     apply E.y8<;>intro h;rotate_left
     ·exact absurd (show ((g.meth:Nat):Int)=1 from h) zo
     refine zR ?_;refine zT hb2 [m7 drawT] fun w5 u5=>?_;refine zR ?_;refine K2 u5.at_ [.int .u8 8] rfl zk rfl (by intro v hv;simp at hv;subst hv;rfl) (zU rfl) fun w6 u6=>zR ?_
     have c06:=((c02).trans (Fr.upd (S:=[G0]) u5 (by simp))).trans (Fr.upd u6 (by simp))
     refine b7 _ (a54 (g:={ g with out:=drawT,meth:=8 }) u6.at_) (zR ?_);refine b7 _ (a4W (g:={ g with out:=drawT,meth:=8 }) u6.at_) (zR ?_);refine b7 _ (a8U (hPf c06)) (zR ?_);refine o7 (hsuf w6 (hTf c06) (hBf c06)) fun w7 c7=>?_;have hb7:=c7.blk u6.at_;have c07:=(c06).trans (Fr.cl c7);cases hd:a4T p with
     | true =>
      refine zR ?_;refine zT hb7 [m7 drawT] fun w8 u8=>?_;refine zR ?_;refine K2 u8.at_ [.int .u8 9] rfl zk rfl (by intro v hv;simp at hv;subst hv;rfl) (zU rfl) fun w9 u9=>zR ?_
      exact ⟨rfl,9,drawT,by simp only [zJ h5];simp only [zM h150];rfl,u9.at_,(c07.trans (Fr.upd u8 (by simp))).trans (Fr.upd u9 (by simp))⟩
     | false =>
      refine zR ?_;exact ⟨rfl,8,drawT,by simp only [zJ h5];simp only [zM h150];rfl,hb7,c07⟩
    ·have h150:¬ 150≤p.half:=h;clear h;refine zR ?_;repeat (refine E.o9 h150 ?_;refine zR ?_)
     refine b7 _ (a54 (g:=g) hb2) (zR ?_);refine b7 _ (a4W (g:=g) hb2) (zR ?_);refine b7 _ (a8U (hPf c02)) (zR ?_);refine o7 (hsuf w2 (hTf c02) (hBf c02)) fun w7 c7=>?_;have hb7:=c7.blk hb2;have c07:=(c02).trans (Fr.cl c7);cases hd:a4T p with
     | true =>
      refine zR ?_;refine zT hb7 [m7 drawT] fun w8 u8=>?_;refine zR ?_;refine K2 u8.at_ [.int .u8 9] rfl zk rfl (by intro v hv;simp at hv;subst hv;rfl) (zU rfl) fun w9 u9=>zR ?_
      exact ⟨rfl,9,drawT,by simp only [zJ h5];simp only [zJ h150];rfl,u9.at_,(c07.trans (Fr.upd u8 (by simp))).trans (Fr.upd u9 (by simp))⟩
     | false =>
      refine zR ?_;exact ⟨rfl,g.meth,g.out,by simp only [zJ h5];simp only [zJ h150];rfl,hb7,c07⟩
def Kp (X:List Nat) (w w':World):Prop:=∀ (k:Nat) (cs:Array Value) (t:Nat),k∉X→t≠131→w.heap[k]?=some (.cells cs t (0,0))→w'.heap[k]?=some (.cells cs t (0,0))
theorem Kp.row {α:Type} {enc:α→List Value} {e z b0:Nat} {X:List Nat} {w w':World} {v:Value} {l:List α} (hk:Kp X w w') (h:Row e z enc b0 w v l) (he:e≠131) (hv:∀ k∈X,v.ownBlock≠some k):Row e z enc b0 w' v l:=by
 refine ⟨h.1,?_⟩;rcases h.2 with h2|⟨g,cap,cur,h1,h2,h3,h4⟩
 ·exact .inl h2
 ·refine .inr ⟨g,cap,cur,h1,h2,hk _ _ _ (fun hm=>hv g hm (by rw [h1];rfl)) he h3,h4⟩
structure O0.off (X:List Nat) (n:O0):Prop where
 M:n.M∉X
 P:n.P∉X
 b:n.b∉X
 cv:∀ k∈X,n.cv.ownBlock≠some k
 kids:∀ k∈X,n.d.kids.ownBlock≠some k
theorem G8.kp {X:List Nat} {w w':World} {P b:Nat} {p:g9} {cv:Value} (hk:Kp X w w') (h:G8 w P b p cv) (hP:P∉X) (hb:b∉X) (hv:∀ k∈X,cv.ownBlock≠some k):G8 w' P b p cv :=
 ⟨hk _ _ _ hP zd h.hd,hk _ _ _ hb zd h.bd,h.ca.elim .inl fun h=>.inr (hk.row h zd hv)⟩
theorem a56.kp {X:List Nat} {w w':World} {k:Value} {l:List O0} (hk:Kp X w w') (h:a56 w k l) (hv:∀ j∈X,k.ownBlock≠some j):a56 w' k l:=by
 cases l with
 | nil=>exact h
 | cons m l=>exact hk.row h zd hv
theorem Chn.kp {X:List Nat} {w w':World} (hk:Kp X w w'):∀ {l:List O0},Chn w l→(∀ n∈l,n.off X)→Chn w' l
 | [],_,_=>trivial
 | n::l,⟨h1,h2,h3,h4,h5⟩,ho=>by
  have o:=ho n (yc ..);exact ⟨hk _ _ _ o.M zd h1,h2,h3.kp hk o.kids,h4.kp hk o.P o.b o.cv,Chn.kp hk h5 fun x hx=>ho x (ye _ hx)⟩
theorem Chn.snoc {w w':World} {z y:O0} {kv:Value}:∀ {l:List O0},Kp [z.M,y.M] w w'→Chn w (l++[z])→(∀ n∈l,n.off [z.M,y.M])→z.P∉[z.M,y.M]→z.b∉[z.M,y.M]→(∀ k∈[z.M,y.M],z.cv.ownBlock≠some k)
 →w'.heap[z.M]?=some (.cells (F7 { z.d with kids:=kv }) 141 (0,0))→Row 85 1 O8 0 w' kv [y.M]→Chn w' [y]→Chn w' (l++[{ z with d:={ z.d with kids:=kv } },y])
 | [],hk,⟨h1,h2,h3,h4,_⟩,_,hP,hb,hv,hz,hr,hy=>⟨hz,h2,hr,h4.kp hk hP hb hv,hy⟩
 | n::l,hk,⟨h1,h2,h3,h4,h5⟩,ho,hP,hb,hv,hz,hr,hy=>by
  have o:=ho n (yc ..);refine ⟨hk _ _ _ o.M zd h1,h2,?_,h4.kp hk o.P o.b o.cv,Chn.snoc hk h5 (fun x hx=>ho x (ye _ hx)) hP hb hv hz hr hy⟩;cases l with
  | nil=>exact hk.row h3 zd o.kids
  | cons m l=>exact hk.row h3 zd o.kids
theorem Kp.fr {X S:List Nat} {w w':World} (h:Fr S w w') (hS:∀ k∈S,k∈X∨∃ cs fz,w.heap[k]?=some (.cells cs 131 fz)):Kp X w w':=by
 intro k cs t hk ht hb;refine h.blk hb fun hm=>?_;rcases hS k hm with e|⟨cs',fz,e⟩
 ·exact hk e
 ·exact ht (xP (yp (hb.symm.trans e))).2.1
theorem Kp.trans {X:List Nat} {w w1 w2:World} (h:Kp X w w1) (h':Kp X w1 w2):Kp X w w2:=fun k cs t hk ht hb=>h' k cs t hk ht (h k cs t hk ht hb)
structure b6r (w:World) (G0 M:Nat) (g:Gm) (dc d:Nd) (q:g9) (P' b':Nat) (kv:Value) (w':World):Prop where
 P:w.heap.size≤P'
 b:w.heap.size≤b'
 pos:G8 w' P' b' q (.slice none 0 0)
 row:Row 85 1 O8 w.heap.size w' kv [M]
 cur:w'.heap[g.cur]?=some (.cells (F7 { dc with kids:=kv }) 141 (0,0))
 new:w'.heap[M]?=some (.cells (F7 { d with par:=.pointer (some ⟨g.cur,0,none⟩),pos:=.pointer (some ⟨P',0,none⟩) }) 141 (0,0))
 game:w'.heap[G0]?=some (.cells (gmA { g with P:=P',cur:=M }) 131 (0,0))
 fr:Fr [M,g.cur,G0] w w'
theorem b9H {p:g9} (hI:B7 p) (hN:Y6 p) {G0 M b O to:Nat} {fo:Nat×Nat} {g:Gm} {cv:Value} {dc d:Nd} (hm:d.mv∈p9 p) (htg:(d.tags:Int)=a8N p d.mv) (w:World) (hT:C6 w) (hP:G8 w g.P b p cv)
  (hb:w.heap[G0]?=some (.cells (gmA g) 131 (0,0))) (hc:w.heap[g.cur]?=some (.cells (F7 dc) 141 (0,0))) (hk:dc.kids = .slice none 0 0) (hM:w.heap[M]?=some (.cells (F7 d) 141 (0,0)))
  (hO:w.heap[O]?=some (.cells #[.bool false] to fo)) (hcM:g.cur≠M) (hPM:g.P≠M) (hPc:g.P≠g.cur) (hbM:b≠M) (hbc:b≠g.cur) (hvM:∀ k∈[M,g.cur],cv.ownBlock≠some k) (hOM:O≠M) {R:Nat→Nat→Value→World→World→Prop}
  (hev:∀ P' b' kv w3,b6r w G0 M g dc d (made p d.mv) P' b' kv w3→Calls G.P 138 #[.pointer (some ⟨G0,0,none⟩)] w3 (fun r w'=>r = .returned (.tuple #[])∧R P' b' kv w3 w')) :
  Calls G.P 102 #[.pointer (some ⟨G0,0,none⟩),.pointer (some ⟨M,0,none⟩),.pointer (some ⟨O,0,none⟩)] w (fun r w'=>r = .returned .nilIface∧∃ P' b' kv w3,b6r w G0 M g dc d (made p d.mv) P' b' kv w3∧R P' b' kv w3 w'):=by
 have hGM:G0≠M:=fun e=>by rw [e] at hb;have:=(xP (yp (hb.symm.trans hM))).2.1;revert this;decide
 have hGc:G0≠g.cur:=fun e=>by rw [e] at hb;have:=(xP (yp (hb.symm.trans hc))).2.1;revert this;decide
 refine zN func102 ?_;refine zR ?_;refine V0 false (N2 rfl _) (zR ?_);refine g7 (b9D _ ⟨_,rfl⟩ hb hc hk) (zR ?_);refine b7 _ (D9 (v:=.bool false) hO rfl rfl) (zR ?_);refine m8 (c2i hGc hGM hcM hb hc hk hM) ?_;rintro e w1 ⟨rfl,kv,hr1,hc1,hM1,f1⟩;refine ⟨_,rfl,?_⟩;have k1:Kp [M,g.cur] w w1:=Kp.fr f1 fun k hk=>.inl hk;have hP1:G8 w1 g.P b p cv:=hP.kp k1 (by simp [hPM,hPc]) (by simp [hbM,hbc]) hvM
 have hb1:=f1.blk hb (by simp [hGM,hGc])
 have hT1:C6 w1:=hT.fr f1 fun k hk cs t fz h=>by
  rcases yV.1 hk with e|e
  ·rw [e] at h;rw [← (xP (yp (hM.symm.trans h))).2.1];decide
  ·rw [zY.1 e] at h;rw [← (xP (yp (hc.symm.trans h))).2.1];decide
 refine zR ?_;refine m8 (b9F (d:={ d with par:=.pointer (some ⟨g.cur,0,none⟩) }) hI hN hm htg w1 hT1 hP1 hM1 hGM hb1) ?_;rintro e w2 ⟨rfl,P',b',s1,s2,hP2,hb2,hM2,f2⟩;refine ⟨_,rfl,zR ?_⟩;refine zT hb2 [.pointer (some ⟨M,0,none⟩)] fun w3 u3=>?_;refine zR ?_;have f3:Fr [M,g.cur,G0] w w3:=((f1.mono (by simp)).trans (f2.mono (by simp))).trans (Fr.upd u3 (by simp))
 have hcw2:=f2.blk hc1 (by simp [wY hGc,hcM])
 have sz:=f1.size;have hGs:G0<w.heap.size:=(yn.1 hb).1;have hMs:M<w.heap.size:=(yn.1 hM).1;have k3:Kp [M] w1 w3:=Kp.fr (f2.trans (Fr.upd u3 (by simp))) fun k hk=>by
  rcases yV.1 hk with e|e
  ·exact .inr ⟨_,_,by rw [e];exact hb1⟩
  ·exact .inl e
 have hown:∀ k∈[M],kv.ownBlock≠some k:=fun k hk e=>by
  rw [zY.1 hk] at e;rcases hr1.2 with ⟨h1,_⟩|⟨ga,cap,cur,h1,h2,_⟩
  ·rw [h1] at e;cases e
  ·rw [h1] at e;injection e with e;have e2:ga=M:=e;omega
 have mv:b6r w G0 M g dc d (made p d.mv) P' b' kv w3:=⟨zo,zo,⟨(Tn.upd u3).blk hP2.hd zo,(Tn.upd u3).blk hP2.bd zo,.inl rfl⟩,k3.row hr1 zd hown,(Tn.upd u3).blk hcw2 (wY hGc),(Tn.upd u3).blk hM2 (wY hGM),u3.at_,f3⟩;refine m8 (hev _ _ _ _ mv) ?_;rintro e w4 ⟨rfl,hR⟩;refine ⟨_,rfl,zR ?_⟩;exact ⟨rfl,_,_,_,_,mv,hR⟩
theorem b0M {l:List g9} {p:g9} {m0 m:Nat} {o0 o:Tx} (h:((m:Int),o)=D5 l p ((m0:Int),o0)) (h0:o0=star→m0=0):o=star→m=0:=by
 intro e;subst e;have hsd:star≠drawT:=by decide
 have key:∀ {a:Int},((m:Int),star)=(a,drawT)→False:=fun h=>hsd (yM Prod.snd h);have same:((m:Int),star)=((m0:Int),o0)→m=0:=fun h=>by
  have h1:=yM Prod.fst h;have h2:=h0 (yM Prod.snd h).symm;simp only at h1;omega
 unfold D5 at h;simp only at h;split at h
 ·split at h
  ·exact (key h).elim
  ·have:=yM Prod.snd h;unfold a2W at this;simp only at this;split at this<;>exact absurd this zd
 ·split at h
  ·exact same h
  ·split at h
   ·exact (key h).elim
   ·split at h
    ·exact (key h).elim
    ·split at h
     ·exact (key h).elim
     ·exact same h
theorem A7 {w:World} {k:Nat} {o:Obj} (h:w.heap[k]?=some o):k<w.heap.size:=(yn.1 h).1
theorem G9 {w:World} {j k:Nat} {c1 c2:Array Value} {t1 t2:Nat} {f1 f2:Nat×Nat} (h1:w.heap[j]?=some (.cells c1 t1 f1)) (h2:w.heap[k]?=some (.cells c2 t2 f2)) (ht:t1≠t2):j≠k:=fun e=>by
 rw [e] at h1;exact ht (xP (yp (h1.symm.trans h2))).2.1
structure O0.lt (B:Nat) (n:O0):Prop where
 M:n.M<B
 P:n.P<B
 b:n.b<B
 cv:∀ k,n.cv.ownBlock=some k→k<B
 kids:∀ k,n.d.kids.ownBlock=some k→k<B
theorem O0.lt.off {B:Nat} {n:O0} {X:List Nat} (h:n.lt B) (hX:∀ k∈X,B≤k):n.off X :=
 ⟨fun hm=>by have:=hX _ hm;have:=h.M;omega,fun hm=>by have:=hX _ hm;have:=h.P;omega,fun hm=>by have:=hX _ hm;have:=h.b;omega,
  fun k hk e=>by have:=hX _ hk;have:=h.cv _ e;omega,fun k hk e=>by have:=hX _ hk;have:=h.kids _ e;omega⟩
theorem O0.off.two {n:O0} {a b:Nat} (h:n.off [a]) (h':n.off [b]):n.off [a,b]:=by
 have e:∀ {p:Nat→Prop},(∀ k∈[a],p k)→(∀ k∈[b],p k)→∀ k∈[a,b],p k:=fun h1 h2 k hk=>by
  rcases yV.1 hk with e|hk
  ·exact h1 k (by rw [e];exact zY.2 rfl)
  ·exact h2 k hk
 have e2:∀ {x:Nat},x∉[a]→x∉[b]→x∉[a,b]:=fun h1 h2 hm=>by
  rcases yV.1 hm with e|hm
  ·exact h1 (by rw [e];exact zY.2 rfl)
  ·exact h2 hm
 exact ⟨e2 h.M h'.M,e2 h.P h'.P,e2 h.b h'.b,e h.cv h'.cv,e h.kids h'.kids⟩
theorem O0.off_nil (n:O0):n.off []:=⟨by simp,by simp,by simp,by simp,by simp⟩
theorem G8.cvlt {w:World} {P b k:Nat} {p:g9} {cv:Value} (h:G8 w P b p cv) (hk:cv.ownBlock=some k):k<w.heap.size:=by
 rcases h.ca with e|hr
 ·rw [e] at hk;cases hk
 ·exact (hr.own hk).2
theorem Chn.lt {w:World}:∀ {l:List O0},Chn w l→∀ n∈l,n.lt w.heap.size
 | [],_,_,h=>by cases h
 | n::l,⟨h1,h2,h3,h4,h5⟩,x,hx=>by
  rcases yV.1 hx with e|hx
  ·subst e;refine ⟨A7 h1,A7 h4.hd,A7 h4.bd,fun k hk=>h4.cvlt hk,fun k hk=>?_⟩;cases l with
   | nil =>
    have h3:x.d.kids = .slice none 0 0:=h3;rw [h3] at hk;cases hk
   | cons m r=>exact (Row.own (show Row 85 1 O8 0 w x.d.kids [m.M] from h3) hk).2
  ·exact Chn.lt h5 x hx
theorem Chn.last {w:World} {z:O0}:∀ {L:List O0},Chn w (L++[z])→w.heap[z.M]?=some (.cells (F7 z.d) 141 (0,0))∧z.d.pos = .pointer (some ⟨z.P,0,none⟩)∧G8 w z.P z.b z.p z.cv
 | [],⟨h1,h2,_,h4,_⟩=>⟨h1,h2,h4⟩
 | _::L,⟨_,_,_,_,h5⟩=>Chn.last h5
theorem Row.tnT {α:Type} {enc:α→List Value} {e z b0 b t:Nat} {w w':World} {v:Value} {l:List α} {cs:Array Value} {fz:Nat×Nat} (h:Row e z enc b0 w v l) (ht:Tn b w w') (hb:w.heap[b]?=some (.cells cs t fz)) (hne:e≠t):Row e z enc b0 w' v l:=by
 refine ⟨h.1,?_⟩;rcases h.2 with h2|⟨g,cap,cur,h1,h2,h3,h4⟩
 ·exact .inl h2
 ·exact .inr ⟨g,cap,cur,h1,h2,ht.blk h3 (G9 h3 hb hne),h4⟩
theorem Chn.recv {w w':World} {z:O0} {cv':Value} {A:Array Value} (ht:Tn z.P w w') (hz:w.heap[z.P]?=some (.cells A 173 (0,0))) (hp:G8 w' z.P z.b z.p cv') :
  ∀ {L:List O0},Chn w (L++[z])→(∀ n∈L,n.P≠z.P)→Chn w' (L++[{ z with cv:=cv' }])
 | [],⟨h1,h2,h3,h4,_⟩,_=>⟨ht.blk h1 (G9 h1 hz zd),h2,h3,hp,trivial⟩
 | n::L,⟨h1,h2,h3,h4,h5⟩,hd=>by
  refine ⟨ht.blk h1 (G9 h1 hz zd),h2,?_,⟨ht.blk h4.hd (hd n (yc ..)),ht.blk h4.bd (G9 h4.bd hz zd),h4.ca.elim .inl fun h=>.inr (h.tnT ht hz zd)⟩,Chn.recv ht hz hp h5 fun x hx=>hd x (ye _ hx)⟩;cases L with
  | nil=>exact Row.tnT (show Row 85 1 O8 0 w n.d.kids [z.M] from h3) ht hz zd
  | cons m r=>exact Row.tnT (show Row 85 1 O8 0 w n.d.kids [m.M] from h3) ht hz zd
structure J0 (w:World) (G0:Nat) (g:Gm) (L:List O0) (z:O0):Prop where
 hb:w.heap[G0]?=some (.cells (gmA g) 131 (0,0))
 cur:g.cur=z.M
 pos:g.P=z.P
 root:∃ n l,L++[z]=n::l∧g.root=n.M
 chn:Chn w (L++[z])
 kids:z.d.kids = .slice none 0 0
 off:∀ n∈L,n.off [z.M]
 zcv:z.cv.ownBlock≠some z.M
 dis:∀ n∈L,n.P≠z.P
 mo:g.out=star→g.meth=0
section gameAt
variable {w w':World} {G0:Nat} {g:Gm} {L:List O0} {z:O0}
theorem J0.posM (h:J0 w G0 g L z):G8 w g.P z.b z.p z.cv:=by rw [h.pos];exact h.chn.last.2.2
theorem J0.node (h:J0 w G0 g L z):w.heap[z.M]?=some (.cells (F7 z.d) 141 (0,0)):=h.chn.last.1
theorem J0.step (h:J0 w G0 g L z) (c:Cl w w'):J0 w' G0 g L z:=⟨c.blk h.hb,h.cur,h.pos,h.root,h.chn.step c,h.kids,h.off,h.zcv,h.dis,h.mo⟩
theorem J0.recv (h:J0 w G0 g L z) {cv':Value} (ht:Tn z.P w w') (hp:G8 w' z.P z.b z.p cv') (ho:∀ k,cv'.ownBlock=some k→z.cv.ownBlock=some k∨w.heap.size≤k):J0 w' G0 g L { z with cv:=cv' }:=by
 have hz:=h.chn.last.2.2.hd;refine ⟨ht.blk h.hb (G9 h.hb hz zd),h.cur,h.pos,?_,Chn.recv ht hz hp h.chn h.dis,h.kids,h.off,fun e=>?_,h.dis,h.mo⟩
 ·obtain ⟨n,l,e,hr⟩:=h.root;cases L with
  | nil =>
   simp only [yP,xB] at e;exact ⟨_,_,rfl,by rw [hr,← e.1]⟩
  | cons m r =>
   simp only [yX,xB] at e;exact ⟨_,_,rfl,by rw [hr,← e.1]⟩
 ·rcases ho _ e with e|e
  ·exact h.zcv e
  ·have:=A7 h.node;exact absurd (show w.heap.size≤z.M from e) zo
end gameAt
def O0.led (z:O0) (kv:Value):O0:={ z with d:={ z.d with kids:=kv } }
theorem b4S {w:World} {G0 M O to:Nat} {fo:Nat×Nat} {g:Gm} {L:List O0} {z:O0} {d:Nd} (hT:C6 w) (h:J0 w G0 g L z) (hI:B7 z.p) (hN:Y6 z.p) (hm:d.mv∈p9 z.p) (htg:(d.tags:Int)=a8N z.p d.mv) (hk:d.kids = .slice none 0 0)
  (hM:w.heap[M]?=some (.cells (F7 d) 141 (0,0))) (hoff:∀ n∈L++[z],n.off [M]) (hO:w.heap[O]?=some (.cells #[.bool false] to fo)) (hOM:O≠M) (hI':B7 (made z.p d.mv)) (hle':(A5 (made z.p d.mv)).length≤218)
  (hsuf:∀ b,c42 (made z.p d.mv) b) (hJ:∀ n∈L++[z],B7 n.p) (hlen:L.length+2≤100000) :
  Calls G.P 102 #[.pointer (some ⟨G0,0,none⟩),.pointer (some ⟨M,0,none⟩),.pointer (some ⟨O,0,none⟩)] w (fun r w'=>r = .returned .nilIface∧∃ g' kv y,J0 w' G0 g' (L++[z.led kv]) y∧y.M=M∧y.d.mv=d.mv∧y.d.tags=d.tags
  ∧y.p=made z.p d.mv∧w.heap.size≤y.P∧y.cv = .slice none 0 0∧((g'.meth:Int),g'.out)=D5 ((L++[z]).map O0.p++[y.p]) y.p ((g.meth:Int),g.out)∧Fr [M,z.M,G0] w w'):=by
 have hz:z.off [M]:=hoff z (by simp)
 have hcur:=h.cur;have hpos:=h.pos;have hnode:w.heap[g.cur]?=some (.cells (F7 z.d) 141 (0,0)):=by rw [hcur];exact h.node
 have hP:=h.posM;have hcM:g.cur≠M:=fun e=>hz.M (by rw [← hcur,e];exact zY.2 rfl)
 have hzc:z.cv.ownBlock≠some g.cur:=by rw [hcur];exact h.zcv
 have hMl:=A7 hM;have hGl:=A7 h.hb;have hev:∀ P' b' kv w3,b6r w G0 M g z.d d (made z.p d.mv) P' b' kv w3→Calls G.P 138 #[.pointer (some ⟨G0,0,none⟩)] w3 (fun r w'=>r = .returned (.tuple #[]) ∧
   ∃ g' y,J0 w' G0 g' (L++[z.led kv]) y∧y.M=M∧y.d.mv=d.mv∧y.d.tags=d.tags∧y.p=made z.p d.mv∧w.heap.size≤y.P∧y.cv = .slice none 0 0∧((g'.meth:Int),g'.out)=D5 ((L++[z]).map O0.p++[y.p]) y.p ((g.meth:Int),g.out)∧Fr [M,z.M,G0] w w'):=by
  intro P' b' kv w3 mv;have sP:=mv.P;have sb:=mv.b;obtain ⟨y,hy⟩:∃ y:O0,y=⟨M,{ d with par:=.pointer (some ⟨g.cur,0,none⟩),pos:=.pointer (some ⟨P',0,none⟩) },P',b',made z.p d.mv,.slice none 0 0⟩:=⟨_,rfl⟩;have hyM:y.M=M:=by rw [hy]
  have hyP:y.P=P':=by rw [hy]
  have hyp:y.p=made z.p d.mv:=by rw [hy]
  have hykid:y.d.kids = .slice none 0 0:=by rw [hy];exact hk
  have hnew:Chn w3 [y]:=by rw [hy];exact ⟨mv.new,rfl,hk,mv.pos,trivial⟩
  have k3:Kp [z.M,y.M] w w3:=Kp.fr mv.fr fun k hk=>by
   rw [hyM,← hcur];simp only [yV,zy,xH] at hk ⊢;rcases hk with e|e|e
   ·exact .inl (.inr e)
   ·exact .inl (.inl e)
   ·exact .inr ⟨_,_,by rw [e];exact h.hb⟩
  have hoffL:∀ n∈L,n.off [z.M,y.M]:=fun n hn=>(h.off n hn).two (by rw [hyM];exact hoff n (yS _ hn))
  have hne2:∀ {a:Nat},a≠z.M→a∉[M]→a∉[z.M,y.M]:=fun h1 h2 hm=>by
   rw [hyM] at hm;rcases yV.1 hm with e|e
   ·exact h1 e
   ·exact h2 e
  have hPm:=h.chn.last.2.2;have hch:Chn w3 (L++[z.led kv,y]):=Chn.snoc k3 h.chn hoffL (hne2 (G9 hPm.hd h.node zd) hz.P) (hne2 (G9 hPm.bd h.node zd) hz.b)
   (fun k hk=>by
    rw [hyM] at hk;rcases yV.1 hk with e|e
    ·rw [e];exact h.zcv
    ·exact hz.cv k e)
   (by rw [← hcur];exact mv.cur) (by rw [hyM];exact mv.row.mono (xJ _)) hnew
  have hroot:∃ n l,L++[z.led kv,y]=n::l∧g.root=n.M:=by
   obtain ⟨n,l,e,hr⟩:=h.root;cases L with
   | nil =>
    simp only [yP,xB] at e;exact ⟨_,_,rfl,by rw [hr,← e.1];rfl⟩
   | cons m r =>
    simp only [yX,xB] at e;exact ⟨_,_,rfl,by rw [hr,← e.1]⟩
  obtain ⟨n,l,enl,hrt⟩:=hroot;have hpos':(L++[z.led kv,y]).map O0.p=(L++[z]).map O0.p++[y.p]:=by simp [O0.led]
  have hT3:C6 w3:=hT.fr mv.fr fun k hk cs t fz hh=>by
   simp only [yV,zy,xH] at hk;rcases hk with e|e|e
   ·rw [e] at hh;rw [← (xP (yp (hM.symm.trans hh))).2.1];decide
   ·rw [e] at hh;rw [← (xP (yp (hnode.symm.trans hh))).2.1];decide
   ·rw [e] at hh;rw [← (xP (yp (h.hb.symm.trans hh))).2.1];decide
  have hlen':(n::l).length≤100000:=by rw [← enl];simp;omega
  have hJ':∀ x∈n::l,B7 x.p:=fun x hx=>by
   rw [← enl] at hx;rcases zr.1 hx with hx|hx
   ·exact hJ x (yS _ hx)
   ·simp only [yV,zy,xH] at hx;rcases hx with e|e
    ·rw [e];exact hJ z (by simp)
    ·rw [e,hyp];exact hI'
  have hch2:=hch;rw [enl] at hch;have H:=b0L (p:=made z.p d.mv) (g:={ g with P:=P',cur:=M }) (G0:=G0) (b:=b') (cv:=.slice none 0 0) hI' hle' (hsuf b') hlen' hJ' w3 hT3 mv.game hrt hch mv.pos (by show P'≠G0;omega) zo h.mo
  refine H.mono fun r w' hr=>?_;obtain ⟨hr,m',o',hend,hgb,hfr⟩:=hr;rw [← enl,hpos',hyp] at hend;have kG:Kp [] w3 w':=Kp.fr hfr fun k hk=>by rw [zY.1 hk];exact .inr ⟨_,_,mv.game⟩
  have hlt:=h.chn.lt;refine ⟨hr,{ g with P:=P',cur:=M,out:=o',meth:=m' },y,⟨hgb,hyM.symm,hyP.symm,?_,?_,hykid,?_,?_,?_,?_⟩,hyM,by rw [hy],by rw [hy],hyp,by rw [hyP];exact sP,by rw [hy],by rw [hyp];exact hend,?_⟩
  ·exact ⟨n,l,by rw [yJ];exact enl,hrt⟩
  ·rw [yJ];exact Chn.kp kG hch2 fun n _=>n.off_nil
  ·intro x hx;rw [hyM];rcases zr.1 hx with hx|hx
   ·exact hoff x (yS _ hx)
   ·rw [zY.1 hx];refine ⟨hz.M,hz.P,hz.b,hz.cv,fun k hk e=>?_⟩;have:=(mv.row.own e).1;rw [zY.1 hk] at this;omega
  ·rw [hy];intro e;cases e
  ·intro x hx;rw [hyP];rcases zr.1 hx with hx|hx
   ·have:=(hlt x (yS _ hx)).P;omega
   ·rw [zY.1 hx];have:z.P<w.heap.size:=(hlt z (by simp)).P
    show z.P≠P';omega
  ·exact b0M hend h.mo
  ·rw [← hcur];exact mv.fr.trans (hfr.mono (by simp))
 refine Go.Calls.mono (b9H hI hN hm htg w hT hP h.hb hnode h.kids hM hO hcM ?_ ?_ ?_ ?_ ?_ hOM hev) ?_
 ·intro e;exact hz.P (by rw [← hpos,e];exact zY.2 rfl)
 ·exact G9 hP.hd hnode zd
 ·intro e;exact hz.b (by rw [e];exact zY.2 rfl)
 ·exact G9 hP.bd hnode zd
 ·intro k hk;rcases yV.1 hk with e|e
  ·rw [e];exact hz.cv M (zY.2 rfl)
  ·rw [zY.1 e];exact hzc
 ·rintro r w' ⟨hr,P',b',kv,w3,mv,g',y,hh⟩;exact ⟨hr,g',kv,y,hh⟩
end
section
open Go Go.RowKit
open E
structure En where
 k:Int
 v:Int
 n:Nat
def enE (qk qe:IntKind) (x:En):MapEntry:=⟨.int qk x.k,.int qe x.v,x.n⟩
def mpO (qk qe:IntKind) (l:List En) (c:Nat):Obj:=.map (l.map (enE qk qe)).toArray c
structure a2p (t k e:Nat) (qk qe:IntKind):Prop where
 ty:G.P.underlying t=some (.map k e)
 kt:G.P.underlying k=some (.int qk)
 zt:(G.P.info? e).bind (·.zero)=some (.int qe 0)
noncomputable def c5P (t k e:Nat) (qk qe:IntKind):Bool :=
 (match G.P.underlying t with|some (.map k' e')=>Nat.beq k' k&&Nat.beq e' e|_=>false)&&(match G.P.underlying k with|some (.int q)=>decide (q=qk)|_=>false)&&(match (G.P.info? e).bind (·.zero) with|some (.int q 0)=>decide (q=qe)|_=>false)
theorem a90 {t k e:Nat} {qk qe:IntKind} (h:c5P t k e qk qe=true):a2p t k e qk qe:=by
 simp only [c5P,zP] at h;obtain ⟨⟨h1,h2⟩,h3⟩:=h;refine ⟨?_,?_,?_⟩
 ·split at h1
  ·rename_i k' e' he;simp only [zP] at h1;rw [he,zu h1.1,zu h1.2]
  ·cases h1
 ·split at h2
  ·rename_i q he;rw [he,yF h2]
  ·cases h2
 ·split at h3
  ·rename_i q he;rw [he,yF h3]
  ·cases h3
def a2K (key:Int):List En→Nat→Option (Nat×Int)
 | [],_=>none
 | x::r,i=>if key=x.k then some (i,x.v) else a2K key r (i+1)
def a7P (l:List En) (key:Int):Option Int:=(a2K key l 0).map (·.2)
def b1P (key v:Int):List En→List En
 | []=>[]
 | x::r=>if key=x.k then ⟨key,v,x.n⟩::r else x::b1P key v r
def a6q (key:Int):List En→List En
 | []=>[]
 | x::r=>if key=x.k then r else x::a6q key r
def a91 (l:List En) (key v:Int) (c:Nat):List En:=if (a7P l key).isSome then b1P key v l else l++[⟨key,v,c⟩]
def b4T (l:List En) (key:Int) (c:Nat):Nat:=if (a7P l key).isSome then c else c+1
theorem a4d (key:Int):∀ (l:List En) (i:Nat),a2K key l i=(a2K key l 0).map fun y=>(i+y.1,y.2)
 | [],_=>rfl
 | x::r,i=>by
  by_cases h:key=x.k
  ·simp [a2K,h]
  ·simp only [a2K,zJ h];rw [a4d key r (i+1),a4d key r (0+1),Option.map_map];congr 1;funext y;simp only [Function.comp];rw [show i+(0+1+y.1)=i+1+y.1 by omega]
theorem a6r (key:Int):a7P [] key=none:=rfl
theorem a0c (x:En) (r:List En) (key:Int):a7P (x::r) key=if key=x.k then some x.v else a7P r key:=by
 unfold a7P;by_cases h:key=x.k
 ·simp [a2K,h]
 ·simp only [a2K,zJ h];rw [a4d key r (0+1),Option.map_map];rfl
theorem b3q (key k v:Int) (c:Nat):∀ l:List En,a7P (l++[⟨k,v,c⟩]) key=(a7P l key).or (if key=k then some v else none)
 | []=>by rw [yP,a0c,a6r];rfl
 | x::r=>by
  rw [yX,a0c,a0c];split
  ·rfl
  ·exact b3q key k v c r
theorem b3r (key v k:Int):∀ l:List En,(a7P l key).isSome=true→a7P (b1P key v l) k=if k=key then some v else a7P l k
 | [],h=>by cases h
 | x::r,h=>by
  rw [a0c] at h;rw [b1P];by_cases hx:key=x.k
  ·rw [zM hx,a0c,a0c];by_cases hk:k=key
   ·rw [zM hk,zM hk]
   ·rw [zJ hk,zJ hk,zJ (by rw [← hx];exact hk)]
  ·rw [zJ hx] at h ⊢;rw [a0c,a0c,b3r key v k r h];by_cases hk:k=key
   ·subst hk;rw [zJ hx,zM rfl,zM rfl]
   ·simp only [zJ hk]
theorem a92 (l:List En) (key v:Int) (c:Nat) (k:Int):a7P (a91 l key v c) k=if k=key then some v else a7P l k:=by
 unfold a91;split
 ·rename_i h;exact b3r key v k l h
 ·rename_i h;rw [b3q];by_cases hk:k=key
  ·have:a7P l key=none:=by cases e:a7P l key with|none=>rfl|some _=>rw [e] at h;exact absurd rfl h
   subst hk;rw [this,zM rfl];rfl
  ·rw [zJ hk,zJ hk];cases a7P l k<;>rfl
theorem b0N {key:Int}:∀ {l:List En},(∀ x∈l,x.k≠key)→a7P l key=none
 | [],_=>rfl
 | x::r,h=>by rw [a0c,zJ (fun e=>h x (yc ..) e.symm)];exact b0N fun y hy=>h y (ye _ hy)
theorem b3s {l:List En} {key v:Int} {c:Nat} (h:a7P l key=none):a91 l key v c=l++[⟨key,v,c⟩]∧b4T l key c=c+1:=by
 unfold a91 b4T;rw [h];exact ⟨rfl,rfl⟩
theorem a1F (qk qe:IntKind) (key:Int):∀ (l:List En) (i:Nat),Instr.findNow (.int qk) (.int qk key) (l.map (enE qk qe)) i=some ((a2K key l i).map fun y=>(y.1,Value.int qe y.2))
 | [],_=>rfl
 | x::r,i=>by
  by_cases h:key=x.k
  ·simp [Instr.findNow,Instr.sameNow,enE,a2K,h]
  ·have hb:(key==x.k)=false:=by simp [h]
   simp only [yU,Instr.findNow,Instr.sameNow,enE,wO,hb,a2K,zJ h];exact a1F qk qe key r (i+1)
theorem a93 {qk qe:IntKind} {key:Int}:∀ {l:List En} {i:Nat} {u:Int},a2K key l 0=some (i,u)→(l.map (enE qk qe))[i]?.map (·.key)=some (.int qk key) ∧
   (∀ v:Int,(l.map (enE qk qe)).modify i (fun e=>{ e with key:=.int qk key,val:=.int qe v })=(b1P key v l).map (enE qk qe))∧(l.map (enE qk qe)).eraseIdx i=(a6q key l).map (enE qk qe)
 | [],_,_,h=>by cases h
 | x::r,i,u,h=>by
  by_cases hk:key=x.k
  ·simp only [a2K,zM hk] at h;injection h with h;injection h with h1 h2;subst h1;refine ⟨by simp [enE,hk],fun v=>?_,?_⟩
   ·simp [b1P,hk,enE]
   ·simp [a6q,hk]
  ·simp only [a2K,zJ hk] at h;rw [a4d] at h;cases hl:a2K key r 0 with
   | none=>rw [hl] at h;cases h
   | some y =>
    obtain ⟨j,u'⟩:=y;rw [hl] at h;injection h with h;injection h with h1 h2;obtain ⟨a1,a2,a3⟩:=a93 (qk:=qk) (qe:=qe) hl;have h1:i=j+1:=by omega
    subst h1;refine ⟨by simpa using a1,fun v=>?_,?_⟩
    ·rw [yU,List.modify_succ_cons,a2 v,b1P,zJ hk,yU]
    ·rw [yU,List.eraseIdx_cons_succ,a3,a6q,zJ hk,yU]
theorem a8o {w:World} {b:Nat} {o0:Obj} (hb:w.heap[b]?=some o0) (o:Obj):Upd w b o { w with heap:=w.heap.setIfInBounds b o } :=
 ⟨rfl,rfl,rfl,by simp,(MapKept.heap_set hb).1,(MapKept.heap_set hb).2⟩
section runs
variable {t k e:Nat} {qk qe:IntKind} {w:World} {l:List En} {c b:Nat} {key:Int}
theorem b1Q (M:a2p t k e qk qe) (em:Bool):(Instr.checkKey em 10000 k (.int qk key)).run G.P w = .ok () w :=
 MapKept.run_checkKey (n:=9999) M.kt (by simp [MapKept.IsKey]) em
theorem b3t (M:a2p t k e qk qe) (ok:Bool) (hb:w.heap[b]?=some (mpO qk qe l c)) :
  (Instr.lookup t (.map (some b)) (.int qk key) ok).run G.P w = .ok (if ok then .tuple #[.int qe ((a7P l key).getD 0),.bool (a7P l key).isSome] else .int qe ((a7P l key).getD 0)) w:=by
 have h1:=b1Q (w:=w) (key:=key) M;have h2:=MapKept.run_findKey (w:=w) M.kt (a1F qk qe key l 0);have h3:(zeroValue e).run G.P w = .ok (.int qe 0) w:=by
  have hz:=M.zt;cases hi:G.P.info? e with
  | none=>rw [hi] at hz;cases hz
  | some i=>rw [hi] at hz;unfold zeroValue typeInfo;simp at hz;simp [hi,hz]
 unfold Instr.lookup a7P;cases hl:a2K key l 0 with
 | none =>
  rw [hl] at h2;simp [run_underlying M.ty,MapKept.run_getObj_map hb,h1,h2,h3]
 | some y =>
  rw [hl] at h2;simp [run_underlying M.ty,MapKept.run_getObj_map hb,h1,h2]
theorem c2k (M:a2p t k e qk qe) (v:Int) (hb:w.heap[b]?=some (mpO qk qe l c)) :
  ∃ w',(Instr.mapUpdate t (.map (some b)) (.int qk key) (.int qe v)).run G.P w = .ok () w'∧Upd w b (mpO qk qe (a91 l key v c) (b4T l key c)) w':=by
 have h1:=b1Q (w:=w) (key:=key) M;have h2:=MapKept.run_findKey (w:=w) M.kt (a1F qk qe key l 0);refine ⟨_,?_,a8o hb _⟩;unfold Instr.mapUpdate a91 b4T a7P;cases hl:a2K key l 0 with
 | none =>
  rw [hl] at h2;simp [run_underlying M.ty,MapKept.run_getObj_map hb,h1,h2,MapKept.run_setObj_map _ hb,mpO,enE]
 | some y =>
  obtain ⟨i,u⟩:=y;rw [hl] at h2;obtain ⟨a1,a2,_⟩:=a93 (qk:=qk) (qe:=qe) hl;have hs:(Instr.keyThatStays (.int qk key) (.int qk key)).run G.P w = .ok (.int qk key) w:=by
   unfold Instr.keyThatStays;rw [show Instr.sameBits 10000 (.int qk key) (.int qk key)=true by simp [Instr.sameBits]]
   rfl
  have a2:=a2 v;have hb:w.heap[b]?=some (.map (l.map (enE qk qe)).toArray c):=hb;have hgoal:mpO qk qe (b1P key v l) c = .map ((b1P key v l).map (enE qk qe)).toArray c:=rfl;rw [← a2] at hgoal;generalize l.map (enE qk qe)=E at *;have hk:(Option.map (fun x=>x.key) E[i]?).getD (.int qk key) = .int qk key:=by rw [a1];rfl
  simp [run_underlying M.ty,MapKept.run_getObj_map hb,h1,h2,hk,hs,MapKept.run_setObj_map _ hb,hgoal]
theorem c2l (M:a2p t k e qk qe) (ty:Nat) (hb:w.heap[b]?=some (mpO qk qe l c)) :
  ∃ w',(Builtin.delete_ #[t,k] ty #[.map (some b),.int qk key]).run G.P w = .ok (.tuple #[]) w'∧Upd w b (mpO qk qe (a6q key l) c) w':=by
 have h1:=b1Q (w:=w) (key:=key) M;have h2:=MapKept.run_findKey (w:=w) M.kt (a1F qk qe key l 0);refine ⟨_,?_,a8o hb _⟩;unfold Builtin.delete_;cases hl:a2K key l 0 with
 | none =>
  have hd:∀ l:List En,a2K key l 0=none→a6q key l=l:=by
   intro l
   induction l with
   | nil=>intro _;rfl
   | cons x r ih =>
    intro h;by_cases hk:key=x.k
    ·simp [a2K,hk] at h
    ·simp only [a2K,zJ hk] at h;rw [a4d,Option.map_eq_none_iff] at h;rw [a6q,zJ hk,ih h]
  rw [hl] at h2;simp [run_underlying M.ty,MapKept.run_getObj_map hb,h1,h2,MapKept.run_setObj_map _ hb,mpO,hd l hl]
 | some y =>
  obtain ⟨i,u⟩:=y;rw [hl] at h2;obtain ⟨_,_,a3⟩:=a93 (qk:=qk) (qe:=qe) hl;have hb:w.heap[b]?=some (.map (l.map (enE qk qe)).toArray c):=hb;have hgoal:mpO qk qe (a6q key l) c = .map ((a6q key l).map (enE qk qe)).toArray c:=rfl;rw [← a3] at hgoal;generalize l.map (enE qk qe)=E at *;simp [run_underlying M.ty,MapKept.run_getObj_map hb,h1,h2,MapKept.run_setObj_map _ hb,hgoal]
end runs
structure Itr (qk qe:IntKind) (w:World) (b r:Nat) (l:List En) (c:Nat) (rem:List En):Prop where
 hb:w.heap[b]?=some (mpO qk qe l c)
 hr:∃ seen s c0,w.heap[r]?=some (.mapIter (some b) s seen c0)∧rem=l.filter (fun x=>!seen.contains x.n)∧(∀ x∈l,x.n<s)∧s≤c0∧s≤c
 nd:(l.map (·.n)).Nodup
structure Ent (qk qe:IntKind) (w:World) (b r:Nat) (l:List En) (c:Nat) (x:En):Prop where
 hb:w.heap[b]?=some (mpO qk qe l c)
 hr:∃ (seen:Array Nat) (s:Nat),w.heap[r]?=some (.mapIter (some b) s (seen.push x.n) c)
 nd:(l.map (·.n)).Nodup
 mem:x∈l
theorem Itr.kp {qk qe:IntKind} {w w':World} {b r c:Nat} {l rem:List En} (h:Itr qk qe w b r l c rem) (h1:∀ o,w.heap[b]?=some o→w'.heap[b]?=some o) (h2:∀ o,w.heap[r]?=some o→w'.heap[r]?=some o):Itr qk qe w' b r l c rem:=by
 obtain ⟨hb,⟨seen,s,c0,hr,h3⟩,nd⟩:=h;exact ⟨h1 _ hb,⟨seen,s,c0,h2 _ hr,h3⟩,nd⟩
theorem Ent.kp {qk qe:IntKind} {w w':World} {b r c:Nat} {l:List En} {x:En} (h:Ent qk qe w b r l c x) (h1:∀ o,w.heap[b]?=some o→w'.heap[b]?=some o) (h2:∀ o,w.heap[r]?=some o→w'.heap[r]?=some o):Ent qk qe w' b r l c x:=by
 obtain ⟨hb,⟨seen,s,hr⟩,nd,hm⟩:=h;exact ⟨h1 _ hb,⟨seen,s,h2 _ hr⟩,nd,hm⟩
theorem Itr.step {qk qe:IntKind} {w w':World} {b r c:Nat} {l rem:List En} (h:Itr qk qe w b r l c rem) (hc:Cl w w'):Itr qk qe w' b r l c rem:=h.kp (fun _ h=>hc.blk h) (fun _ h=>hc.blk h)
theorem b1S {P:Nat→Bool} {l:List En} (hn:(l.map (·.n)).Nodup) {x:En} (hx:x∈l.filter fun y=>P y.n) :
  ∃ r1 r2,l.filter (fun y=>P y.n)=r1++x::r2∧l.filter (fun y=>P y.n && !(y.n==x.n))=r1++r2:=by
 obtain ⟨r1,r2,h⟩:=List.append_of_mem hx;refine ⟨r1,r2,h,?_⟩;have hn2:((l.filter fun y=>P y.n).map (·.n)).Nodup:=(List.Sublist.map _ List.filter_sublist).nodup hn;have e:l.filter (fun y=>P y.n && !(y.n==x.n))=(l.filter fun y=>P y.n).filter fun y=>!(y.n==x.n):=by
  rw [List.filter_filter];congr 1;funext y;exact Bool.and_comm _ _
 rw [e,h];rw [h,List.map_append,yU,List.nodup_append] at hn2;obtain ⟨a1,a2,a3⟩:=hn2;rw [List.nodup_cons] at a2;rw [List.filter_append,List.filter_cons];have k1:r1.filter (fun y=>!(y.n==x.n))=r1:=List.filter_eq_self.2 fun y hy=>by
  have:=a3 y.n (xU.2 ⟨y,hy,rfl⟩) x.n (yc ..);simp [this]
 have k2:r2.filter (fun y=>!(y.n==x.n))=r2:=List.filter_eq_self.2 fun y hy=>by
  have:y.n≠x.n:=fun e=>a2.1 (by rw [← e];exact xU.2 ⟨y,hy,rfl⟩)
  simp [this]
 rw [k1,k2];simp
section gens
variable {t k e:Nat} {qk qe:IntKind} {w:World} {l:List En} {c b:Nat} {dst:Option Nat} {ty:Nat} {pos:String} {af:Array Edge} {gd:Option (Nat×Bool)} {env:C9} {K:Value→World→Prop}
theorem a4G {t:Nat} (h:K (.map (some w.heap.size)) (w.alloc (.map #[] 0))):L6 G.P { dst,op:=.makeMap t none,type:=ty,pos,after:=af,guard:=gd } env w K:=by
 refine ⟨.inl ⟨_,_,?_,h⟩⟩;show (do pure (Next.value (← Instr.makeMap t none)):Sem Next).run G.P w=_
 simp [Instr.makeMap]
theorem a94 (M:a2p t k e qk qe) {x:Operand} {q:IntKind} {n:Int} (hx:ev env x = .int q n) (h:K (.map (some w.heap.size)) (w.alloc (.map #[] 0))):L6 G.P { dst,op:=.makeMap t (some x),type:=ty,pos,after:=af,guard:=gd } env w K:=by
 refine ⟨.inl ⟨_,_,?_,h⟩⟩;show (do pure (Next.value (← Instr.makeMap t (some (ev env x)))):Sem Next).run G.P w=_
 rw [hx];simp [Instr.makeMap,run_underlying M.ty,asInt,asIntOf]
theorem c2m (M:a2p t k e qk qe) {m x:Operand} {key:Int} (hm:ev env m = .map (some b)) (hx:ev env x = .int qk key) (hb:w.heap[b]?=some (mpO qk qe l c)) (h:K (.tuple #[.int qe ((a7P l key).getD 0),.bool (a7P l key).isSome]) w) :
  L6 G.P { dst,op:=.lookup t m x true,type:=ty,pos,after:=af,guard:=gd } env w K:=by
 refine ⟨.inl ⟨_,_,?_,h⟩⟩;show (do pure (Next.value (← Instr.lookup t (ev env m) (ev env x) true)):Sem Next).run G.P w=_
 rw [hm,hx,yq,b3t M true hb];rfl
theorem b6s (M:a2p t k e qk qe) {m x:Operand} {key:Int} (hm:ev env m = .map (some b)) (hx:ev env x = .int qk key) (hb:w.heap[b]?=some (mpO qk qe l c)) (h:K (.int qe ((a7P l key).getD 0)) w) :
  L6 G.P { dst,op:=.lookup t m x false,type:=ty,pos,after:=af,guard:=gd } env w K:=by
 refine ⟨.inl ⟨_,_,?_,h⟩⟩;show (do pure (Next.value (← Instr.lookup t (ev env m) (ev env x) false)):Sem Next).run G.P w=_
 rw [hm,hx,yq,b3t M false hb];rfl
theorem W9 (M:a2p t k e qk qe) {m x:Operand} {key:Int} (v:Int) (hm:ev env m = .map (some b)) (hx:ev env x = .int qk key) (hb:w.heap[b]?=some (mpO qk qe l c)) (hv:(a7P l key).getD 0=v) (h:K (.int qe v) w) :
  L6 G.P { dst,op:=.lookup t m x false,type:=ty,pos,after:=af,guard:=gd } env w K:=by subst hv;exact b6s M hm hx hb h
theorem a6s (M:a2p t k e qk qe) {m x y:Operand} {key v:Int} (hm:ev env m = .map (some b)) (hx:ev env x = .int qk key) (hy:ev env y = .int qe v) (hb:w.heap[b]?=some (mpO qk qe l c))
  (h:∀ w',Upd w b (mpO qk qe (a91 l key v c) (b4T l key c)) w'→K undef w'):L6 G.P { dst,op:=.mapUpdate t m x y,type:=ty,pos,after:=af,guard:=gd } env w K:=by
 obtain ⟨w',h1,h2⟩:=c2k M (key:=key) v hb;refine ⟨.inr (.inl ⟨_,?_,h w' h2⟩)⟩;show (do Instr.mapUpdate t (ev env m) (ev env x) (ev env y);pure Next.skip:Sem Next).run G.P w=_
 rw [hm,hx,hy,yq,h1];rfl
theorem b6t (M:a2p t k e qk qe) {m x:Operand} {key:Int} (hm:ev env m = .map (some b)) (hx:ev env x = .int qk key) (hb:w.heap[b]?=some (mpO qk qe l c))
  (h:∀ w',Upd w b (mpO qk qe (a6q key l) c) w'→K (.tuple #[]) w'):L6 G.P { dst,op:=.call { callee:=.builtin .delete,args:=#[m,x],argTypes:=#[t,k] },type:=ty,pos,after:=af,guard:=gd } env w K:=by
 obtain ⟨w',h1,h2⟩:=c2l M (key:=key) ty hb;refine ⟨.inl ⟨_,w',?_,h w' h2⟩⟩;simp only [execOp,resolve,invoke,builtin,yq,xi,yx,xW,yU,xn,hm,hx,h1]
theorem a3b (M:a2p t k e qk qe) {m:Operand} (hm:ev env m = .map (some b)) (hb:w.heap[b]?=some (mpO qk qe l c)) (hn:(l.map (·.n)).Nodup) (hc:∀ x∈l,x.n<c)
  (h:∀ w',Cl w w'→w'.heap.size=w.heap.size+1→Itr qk qe w' b w.heap.size l c l→K (.pointer (some ⟨w.heap.size,0,none⟩)) w'):L6 G.P { dst,op:=.range t m,type:=ty,pos,after:=af,guard:=gd } env w K:=by
 have h1:=run_range_map (P:=G.P) w t k e b _ _ M.ty hb;refine ⟨.inl ⟨_,_,?_,h _ (Cl.alloc w _) (C0 _ _) ⟨(Cl.alloc w _).blk hb,⟨#[],c,c,d8 _ _,(List.filter_eq_self.2 (fun x _=>by simp)).symm,hc,yO _,yO _⟩,hn⟩⟩⟩
 show (do pure (Next.value (← Instr.range t (ev env m))):Sem Next).run G.P w=_
 rw [hm,yq,h1];rfl
theorem a4e {it:Operand} {r:Nat} {rem:List En} (hit:ev env it = .pointer (some ⟨r,0,none⟩)) (hI:Itr qk qe w b r l c rem)
  (h0:rem=[]→K (.tuple #[.bool false]) w)
  (h1:∀ r1 x r2 w',rem=r1++x::r2→Tn r w w'→Itr qk qe w' b r l c (r1++r2)→Ent qk qe w' b r l c x→K (.tuple #[.bool true,.int qk x.k,.int qe x.v]) w') :
  L6 G.P { dst,op:=.next it false,type:=ty,pos,after:=af,guard:=gd } env w K:=by
 obtain ⟨hb,⟨seen,s,c0,hr,hrem,hold,hs,hsc⟩,nd⟩:=hI;have hmem:∀ x∈(l.map (enE qk qe)).toArray.toList,x.born<s:=fun x hx=>by
  obtain ⟨y,hy,rfl⟩:=xU.1 (by simpa using hx)
  exact hold y hy
 have hleft:(leftOf (l.map (enE qk qe)).toArray seen).toList=rem.map (enE qk qe):=by
  rw [hrem];simp only [leftOf,List.filter_toArray,List.filter_map];rfl
 have hne:r≠b:=fun e=>by rw [e,hb] at hr;cases hr
 rcases run_next_at (P:=G.P) w ty r b s c0 seen _ c hr hb hmem hs with ⟨hz,hrun⟩|⟨y,hy,w1,hw1,hrun⟩
 ·have:rem=[]:=by
   have:=yM List.length hleft;rw [Array.length_toList,hz,yi] at this;exact List.length_eq_zero_iff.1 this.symm
  refine ⟨.inl ⟨_,_,?_,h0 this⟩⟩;show (do pure (Next.value (← Instr.next (ev env it) false ty)):Sem Next).run G.P w=_
  rw [hit,yq,hrun];rfl
 ·rw [hleft] at hy;obtain ⟨x,hx,rfl⟩:=xU.1 hy;have hx2:=hx;rw [hrem] at hx2;obtain ⟨r1,r2,e1,e2⟩:=b1S (P:=fun n=>!seen.contains n) nd hx2;have hr1:w1.heap[r]?=some (.mapIter (some b) s seen c0):=by rcases hw1 with rfl|rfl<;>exact hr
  have hb1:w1.heap[b]?=some (mpO qk qe l c):=by rcases hw1 with rfl|rfl<;>exact hb
  have u:=a8o hr1 (.mapIter (some b) s (seen.push x.n) c);have tn:Tn r w (ChangeMaps.setBlock w1 r (.mapIter (some b) s (seen.push x.n) c)):=by
   have t1:Tn r w w1:=by
    rcases hw1 with rfl|rfl
    ·exact Tn.refl _ _
    ·exact Tn.cl (Cl.drew (Cl.refl _))
   exact t1.trans (Tn.upd u)
  refine ⟨.inl ⟨_,_,?_,h1 r1 x r2 _ (hrem.trans e1) tn ⟨(Tn.upd u).blk hb1 (wY hne),⟨seen.push x.n,s,c,u.at_,?_,hold,hsc,hsc⟩,nd⟩ ⟨(Tn.upd u).blk hb1 (wY hne),⟨seen,s,u.at_⟩,nd,(xg.1 hx2).1⟩⟩⟩
  ·show (do pure (Next.value (← Instr.next (ev env it) false ty)):Sem Next).run G.P w=_
   rw [hit,yq,hrun];rfl
  ·rw [← e2];congr 1;funext y;by_cases h:y.n=x.n<;>simp [Array.contains_push,h]
theorem a3c {it:Operand} {r:Nat} {x:En} (hit:ev env it = .pointer (some ⟨r,0,none⟩)) (hE:Ent qk qe w b r l c x) (h:K (.tuple #[.int qk x.k,.int qe x.v]) w) :
  L6 G.P { dst,op:=.entry it,type:=ty,pos,after:=af,guard:=gd } env w K:=by
 obtain ⟨hb,⟨seen,s,hr⟩,nd,hm⟩:=hE;have h1:=run_entry_at (P:=G.P) w r b s seen _ c (enE qk qe x) hr hb (by simpa using xU.2 ⟨x,hm,rfl⟩) (by
  have e:((l.map (enE qk qe)).toArray.toList.map (·.born))=l.map (·.n):=by simp [enE,Function.comp_def]
  rw [e];exact nd)
 refine ⟨.inl ⟨_,_,?_,h⟩⟩;show (do pure (Next.value (← Instr.entry (ev env it))):Sem Next).run G.P w=_
 rw [hit,yq,h1];rfl
end gens
end
section
open Go Go.RowKit
open E
open Ch Bb
theorem mSP:a2p 271 138 194 .i8 .i8:=a90 zk
theorem mPI:a2p 287 139 3 .i8 .i64:=a90 zk
def enG (g:Nat→Int) (c0:Nat):Nat→List En
 | 0=>[]
 | n+1=>if g n=0 then enG g c0 n else enG g c0 n++[⟨n,g n,c0+(enG g c0 n).length⟩]
theorem a4H (g:Nat→Int) (c0:Nat):∀ n,∀ x∈enG g c0 n,∃ i:Nat,i<n∧x.k=(i:Int)∧x.v=g i∧g i≠0
 | 0,x,h=>by cases h
 | n+1,x,h=>by
  rw [enG] at h;split at h
  ·obtain ⟨i,hi,h2⟩:=a4H g c0 n x h;exact ⟨i,zo,h2⟩
  ·rename_i h0;rcases zr.1 h with h|h
   ·obtain ⟨i,hi,h2⟩:=a4H g c0 n x h;exact ⟨i,zo,h2⟩
   ·rw [zY.1 h];exact ⟨n,zo,rfl,rfl,h0⟩
theorem b6u (g:Nat→Int) (c0:Nat):∀ n i:Nat,i<n→g i≠0→∃ x∈enG g c0 n,x.k=(i:Int)
 | n+1,i,hi,h0=>by
  rw [enG];by_cases e:i=n
  ·subst e;rw [zJ h0];exact ⟨_,List.mem_append_right _ (zY.2 rfl),rfl⟩
  ·obtain ⟨x,hx,h2⟩:=b6u g c0 n i zo h0;split
   ·exact ⟨x,hx,h2⟩
   ·exact ⟨x,yS _ hx,h2⟩
theorem b6v (g:Nat→Int) (c0 n:Nat):a7P (enG g c0 n) (n:Int)=none:=b0N fun x hx=>by
 obtain ⟨i,hi,e,_⟩:=a4H g c0 n x hx;rw [e];omega
theorem a4I (g:Nat→Int) (c0:Nat):∀ n,(enG g c0 n).map (·.n)=List.range' c0 (enG g c0 n).length
 | 0=>rfl
 | n+1=>by
  rw [enG];split
  ·exact a4I g c0 n
  ·rw [List.map_append,a4I g c0 n,zF,List.length_singleton,List.range'_concat];simp
theorem b4U (g:Nat→Int) (c0 n:Nat):((enG g c0 n).map (·.n)).Nodup:=by rw [a4I];exact List.nodup_range'
theorem b4V (g:Nat→Int) (c0 n:Nat):∀ x∈enG g c0 n,x.n<c0+(enG g c0 n).length:=fun x hx=>by
 have:x.n∈(enG g c0 n).map (·.n):=xU.2 ⟨x,hx,rfl⟩;rw [a4I,List.mem_range'_1] at this;exact this.2
theorem a95 (g:Nat→Int) (c0:Nat):∀ n,((enG g c0 n).map (·.k)).Nodup
 | 0=>List.nodup_nil
 | n+1=>by
  rw [enG];split
  ·exact a95 g c0 n
  ·rw [List.map_append,List.nodup_append];refine ⟨a95 g c0 n,by simp,fun a ha b hb=>?_⟩
   obtain ⟨x,hx,rfl⟩:=xU.1 ha;obtain ⟨i,hi,e,_⟩:=a4H g c0 n x hx;simp only [yU,xn,zY] at hb;rw [e,hb];omega
theorem a7b (g:Nat→Int) (c0:Nat) (P:Int→Int→Bool):∀ n,(enG g c0 n).countP (fun x=>P x.k x.v)=a67 (fun i=>!decide (g i=0)&&P i (g i)) n
 | 0=>rfl
 | n+1=>by
  rw [enG,a67];by_cases h0:g n=0
  ·rw [zM h0,a7b g c0 P n];simp [h0]
  ·rw [zJ h0,xu,a7b g c0 P n];simp [h0,List.countP_cons]
theorem b3u (g:Nat→Int) (c0 n:Nat):∀ k,(∀ i,n≤i→i<n+k→g i=0)→enG g c0 (n+k)=enG g c0 n
 | 0,_=>rfl
 | k+1,h=>by
  rw [← Nat.add_assoc,enG,zM (h (n+k) zo zo)];exact b3u g c0 n k fun i h1 h2=>h i h1 zo
def sqE (p:g9) (n:Nat):List En:=enG (fun i=>sq p i) 0 n
theorem c2n (p:g9) (n:Nat):∀ x∈sqE p n,∃ i:Nat,i<n∧x.k=(i:Int)∧x.v=sq p i∧sq p i≠0:=a4H _ _ n
theorem c2o (p:g9) (n:Nat):a7P (sqE p n) (n:Int)=none:=b6v _ _ n
theorem c43 (p:g9) (n:Nat):((sqE p n).map (·.n)).Nodup:=b4U _ _ n
theorem c44 (p:g9) (n:Nat):∀ x∈sqE p n,x.n<(sqE p n).length:=fun x hx=>by have:=b4V _ 0 n x hx;rwa [yZ] at this
theorem a3d (p:g9) (P:Int→Int→Bool) (n:Nat):(sqE p n).countP (fun x=>P x.k x.v)=a67 (fun i=>!decide (sq p i=0)&&P i (sq p i)) n:=a7b _ 0 P n
theorem b3v (p:g9) (n:Nat):sqE p (n+1)=if sq p n=0 then sqE p n else sqE p n++[⟨n,sq p n,(sqE p n).length⟩]:=by
 unfold sqE;rw [enG,yZ]
theorem b1T (f:Nat→Bool):∀ n,a67 f n≤n
 | 0=>yO _
 | n+1=>by rw [a67];have:=b1T f n;split<;>omega
theorem c2p (i:Nat) (hi:i<64) (w:World):Calls G.P 251 #[.int .i8 i] w (E8 (.int .i8 (if (o5 i+l8 i)%2=0 then 2 else 1)) w):=by
 have e1:IntKind.i8.wrap ((i:Int).tdiv 8)=((i/8:Nat):Int):=by rw [show ((i:Int).tdiv 8)=((i/8:Nat):Int) from rfl];exact a0d zo zo
 refine zN func251 ?_;refine zR ?_;rw [e1];apply E.d7<;>intro h
 ·have h:(((i/8:Nat):Int).tmod 2)=((i:Int).tmod 2):=h;have h2:(i/8)%2=i%2:=by
   have e2:(((i/8:Nat):Int).tmod 2)=((i/8%2:Nat):Int):=rfl;have e3:((i:Int).tmod 2)=((i%2:Nat):Int):=rfl;rw [e2,e3] at h;omega
  rw [zM (by unfold o5 l8;omega)]
  refine zR ?_;exact ⟨rfl,rfl⟩
 ·have h:¬ (((i/8:Nat):Int).tmod 2)=((i:Int).tmod 2):=h;have h2:¬ (i/8)%2=i%2:=by
   have e2:(((i/8:Nat):Int).tmod 2)=((i/8%2:Nat):Int):=rfl;have e3:((i:Int).tmod 2)=((i%2:Nat):Int):=rfl;rw [e2,e3] at h;omega
  rw [zJ (by unfold o5 l8;omega)]
  refine zR ?_;exact ⟨rfl,rfl⟩
theorem b3w {p:g9} (hp:∀ i:Int,0≤sq p i∧sq p i≤12) {b t:Nat} {fz:Nat×Nat} (w:World) (hT:C6 w) (hb:w.heap[b]?=some (.cells (J4 (a1s p)) t fz)) :
  Calls G.P 250 #[.pointer (some ⟨b,0,none⟩)] w (fun r w'=>Cl w w'∧∃ m,r = .returned (.map (some m))∧w.heap.size≤m∧w'.heap[m]?=some (mpO .i8 .i8 (sqE p 64) (sqE p 64).length)):=by
 refine zN func250 ?_;refine zR ?_;refine a4G ?_;have ca:=Cl.alloc w (.map #[] 0);have na:(w.alloc (.map #[] 0)).heap[w.heap.size]?=some (mpO .i8 .i8 (sqE p 0) (sqE p 0).length):=d8 w (.map #[] 0);generalize w.alloc (.map #[] 0)=w1 at *;refine zR ?_;refine C1 (σ:=Nat) [4,5,7] 8 (fun i=>[(7,.int .i64 i)]) (fun i w'=>i≤64∧Cl w w'∧w'.heap[w.heap.size]?=some (mpO .i8 .i8 (sqE p i) (sqE p i).length)) (fun i=>64-i) zk 0 ⟨zo,ca,na⟩ ⟨rfl,trivial⟩ ?_;rintro i j w2 ⟨hi,c2,hm⟩;have ni:=C4 (i:=i) zo;refine zR ?_;apply E.d7<;>intro h
 ·have hi2:i<64:=by omega
  clear h;have ei:IntKind.i8.wrap (i:Int)=(i:Int):=a0d zo zo;have hpi:=U9 hp hi2;refine zR ?_;rw [ei];refine g7 (a0a (a1s p) b i hi2 w2 (hT.cl c2) (c2.blk hb)) ?_;rw [hpi];refine zR ?_;apply E.y8<;>intro h
  ·have h0:¬ sq p i=0:=h;refine zR ?_;rw [ei];refine a6s mSP rfl rfl rfl hm fun w3 u3=>zR ?_;refine ⟨i+1,⟨d9 ni,trivial⟩,⟨zo,u3.cl c2 (yO _),?_⟩,zo⟩;obtain ⟨e1,e2⟩:=b3s (v:=sq p i) (c:=(sqE p i).length) (c2o p i);rw [u3.at_,e1,e2,b3v,zJ h0,zF];rfl
  ·have h0:sq p i=0:=h;refine zR ?_;refine ⟨i+1,⟨d9 ni,trivial⟩,⟨zo,c2,?_⟩,zo⟩;rw [hm,b3v,zM h0]
 ·have e:i=64:=by omega
  subst e;refine zR ?_;exact ⟨c2,_,rfl,yO _,hm⟩
theorem c45 {p:g9} (hp:∀ i:Int,0≤sq p i∧sq p i≤12):(0:Int)<(((a1s p).f 1 ||| (a1s p).f 2 ||| (a1s p).f 5 ||| (a1s p).f 7 ||| (a1s p).f 8 ||| (a1s p).f 11:Nat):Int)
  ↔ b30 (fun i=>decide (a0B (sq p i)=2)||decide (a0B (sq p i)=3)||decide (a0B (sq p i)=6)) 64=true:=by
 have e:(a1s p).f 1 ||| (a1s p).f 2 ||| (a1s p).f 5 ||| (a1s p).f 7 ||| (a1s p).f 8 ||| (a1s p).f 11=bb (fun s=>decide (a0B (sq p s)=2)||decide (a0B (sq p s)=3)||decide (a0B (sq p s)=6)):=by
  rw [a0M p 1 zd,a0M p 2 zd,a0M p 5 zd,a0M p 7 zd,a0M p 8 zd,a0M p 11 zd];unfold bbf;rw [a15,a15,a15,a15,a15];refine a1t fun s _=>?_;have h:=hp s;show (decide (sq p s=2)||decide (sq p s=3)||decide (sq p s=6)||decide (sq p s=8)||decide (sq p s=9)||decide (sq p s=12))=_
  generalize sq p s=x at *;rcases (by omega:x=0∨x=1∨x=2∨x=3∨x=4∨x=5∨x=6∨x=7∨x=8∨x=9∨x=10∨x=11∨x=12) with rfl|rfl|rfl|rfl|rfl|rfl|rfl|rfl|rfl|rfl|rfl|rfl|rfl<;>rfl
 rw [e];constructor
 ·intro h;cases ha:b30 (fun i=>decide (a0B (sq p i)=2)||decide (a0B (sq p i)=3)||decide (a0B (sq p i)=6)) 64 with
  | true=>rfl
  | false =>
   have:bb (fun s=>decide (a0B (sq p s)=2)||decide (a0B (sq p s)=3)||decide (a0B (sq p s)=6))=0:=(a8c _).2 fun s hs=>by
    cases hx:(decide (a0B (sq p s)=2)||decide (a0B (sq p s)=3)||decide (a0B (sq p s)=6)) with
    | false=>rfl
    | true=>rw [a4s hs hx] at ha;cases ha
   rw [this] at h;exact absurd h zd
 ·intro h;obtain ⟨s,hs,hx⟩:=(a3I _ _).1 h;rcases Nat.eq_zero_or_pos (bb (fun s=>decide (a0B (sq p s)=2)||decide (a0B (sq p s)=3)||decide (a0B (sq p s)=6))) with e0|e0
  ·have:=(a8c _).1 e0 s hs;rw [hx] at this;cases this
  ·omega
theorem b6w {p:g9} (hI:B7 p) {c:Int} (hc:c=0∨c=1) {i:Nat} (hi:i<12) (hx:(i:Int)+1=1+6*c):¬ (((a1s p).f i:Nat):Int)=0:=by
 intro e;have e:(a1s p).f i=0:=by omega
 rw [a0M p i hi] at e;unfold bbf at e;obtain ⟨k0,k1,e2,_⟩:=hI.king c hc;have:decide (sq p ((a2J p c).toNat:Int)=(i:Int)+1)=false:=(a8c _).1 e (a2J p c).toNat zo;rw [zi k0,hx,zX e2] at this;cases this
set_option maxHeartbeats 1000000 in
theorem b9I {p:g9} (hI:B7 p) (b:Nat):c42 p b:=by
 intro w hT hb;rw [← b96];have hp:=hI.pc;have hbig:=c45 hp;have hk0:=b6w hI (.inl rfl) (i:=0) zd rfl;have hk6:=b6w hI (.inr rfl) (i:=6) zd rfl;have hSM:=fun w (hT:C6 w) hb=>b3w hp (b:=b) (t:=237) (fz:=(0,0)) w hT hb;have hS:c7n p=if b30 (fun i=>decide (a0B (sq p i)=2)||decide (a0B (sq p i)=3)||decide (a0B (sq p i)=6)) 64 then true
  else
   let n:=a67 (fun i=>decide (a0B (sq p i)=5)) 64;let b:=a67 (fun i=>decide (a0B (sq p i)=4)) 64;let b0:=a67 (fun i=>decide (a0B (sq p i)=4)&&decide ((o5 i+l8 i)%2=0)) 64;let b1:=a67 (fun i=>decide (a0B (sq p i)=4)&&decide ((o5 i+l8 i)%2=1)) 64
   if b=0∧n=0 then false else if b=1∧n=0 then false else if b=0∧n=1 then false
   else if n=0 then (if b1=0∨b0=0 then false else true) else true:=rfl
 have hzero:∀ t:Int,t≠0→∀ P:Int→Bool,a67 (fun i=>!decide (sq p i=0)&&(decide (a0B (sq p i)=t)&&P i)) 64=a67 (fun i=>decide (a0B (sq p i)=t)&&P i) 64:=fun t ht P=>b0G 64 fun i _=>by
  by_cases h:sq p i=0
  ·rw [h];rw [zV (show ¬ a0B 0=t from fun e=>ht e.symm)];rfl
  ·simp [h]
 have h5:((sqE p 64).countP fun x=>decide (a0B x.v=5))=a67 (fun i=>decide (a0B (sq p i)=5)) 64:=by
  have:=hzero 5 zd (fun _=>true);simp only [Bool.and_true] at this;rw [← this];exact a3d p (fun _ v=>decide (a0B v=5)) 64
 have h4:((sqE p 64).countP fun x=>decide (a0B x.v=4))=a67 (fun i=>decide (a0B (sq p i)=4)) 64:=by
  have:=hzero 4 zd (fun _=>true);simp only [Bool.and_true] at this;rw [← this];exact a3d p (fun _ v=>decide (a0B v=4)) 64
 have h40:((sqE p 64).countP fun x=>decide (a0B x.v=4)&&decide ((o5 x.k+l8 x.k)%2=0))=a67 (fun i=>decide (a0B (sq p i)=4)&&decide ((o5 i+l8 i)%2=0)) 64:=by
  rw [← hzero 4 zd (fun i=>decide ((o5 i+l8 i)%2=0))];exact a3d p (fun k v=>decide (a0B v=4)&&decide ((o5 k+l8 k)%2=0)) 64
 have h41:((sqE p 64).countP fun x=>decide (a0B x.v=4)&&decide ((o5 x.k+l8 x.k)%2=1))=a67 (fun i=>decide (a0B (sq p i)=4)&&decide ((o5 i+l8 i)%2=1)) 64:=by
  rw [← hzero 4 zd (fun i=>decide ((o5 i+l8 i)%2=1))];exact a3d p (fun k v=>decide (a0B v=4)&&decide ((o5 k+l8 k)%2=1)) 64
 have l5:=b1T (fun i=>decide (a0B (sq p i)=5)) 64;have l4:=b1T (fun i=>decide (a0B (sq p i)=4)) 64;have hnd:=c43 p 64;have hlt:=c44 p 64;have hmem:∀ x∈sqE p 64,∃ i:Nat,i<64∧x.k=(i:Int)∧0≤x.v∧x.v≤12:=fun x hx=>by
  obtain ⟨i,hi,e1,e2,_⟩:=c2n p 64 x hx;exact ⟨i,hi,e1,by rw [e2];exact (hp i).1,by rw [e2];exact (hp i).2⟩
 have hlen:(sqE p 64).length≤64:=by
  have:=a3d p (fun _ _=>true) 64;simp only [List.countP_true] at this;rw [this];exact b1T _ 64
 rw [← h5,← h4,← h40,← h41] at hS;clear h5 h4 h40 h41 l5 l4 hzero;have hok:(a1s p).Ok:=inferInstance;generalize (sqE p 64)=l at *;generalize a1s p=B at *;generalize b30 (fun i=>decide (a0B (sq p i)=2)||decide (a0B (sq p i)=3)||decide (a0B (sq p i)=6)) 64=A at *
 generalize c7n p=V at *;have hB:=hb;refine zN func198 ?_;refine zR ?_;refine zK 30 ?_;refine zQ ?_;intro w1 c1;refine zR ?_;apply E.d7<;>intro h
 ·have hA:=hbig.1 h;rw [zM hA] at hS;refine zR ?_;exact ⟨p8 hS.symm,c1⟩
 have hA:¬ A=true:=fun e=>h (hbig.2 e);rw [zJ hA] at hS;simp only at hS;clear h hbig hA;have hB:=c1.blk hb;refine zB ?_;refine E.o9 hk0 (zB ?_);refine E.o9 hk6 (zR ?_);repeat (refine E.o9 hk0 ?_;refine zR ?_)
 repeat (refine E.o9 hk6 ?_;refine zR ?_)
 refine a4G ?_;have c2:=c1.trans (Cl.alloc w1 (.map #[] 0));have nC:(w1.alloc (.map #[] 0)).heap[w1.heap.size]?=some (mpO .i8 .i64 [] 0):=d8 w1 (.map #[] 0);have s1:=c1.size;have s2:=C0 w1 (.map #[] 0);obtain ⟨C,hC⟩:∃ C,C=w1.heap.size:=⟨_,rfl⟩;rw [← hC] at nC ⊢;generalize w1.alloc (.map #[] 0)=w2 at *;refine zR ?_;refine m8 (hSM w2 (hT.cl c2) (c2.blk hb)) ?_;rintro e w3 ⟨c3,m,rfl,sm,hm⟩;refine ⟨_,rfl,?_⟩;have nC3:=c3.blk nC;have c03:=c2.trans c3;have hml:=A7 hm;refine zR ?_;refine a3b mSP rfl hm hnd hlt fun w4 c4 s4 hI4=>?_;have nC4:=c4.blk nC3;have c04:=c03.trans c4;have hCm:C≠m:=by omega
 have hCr:C≠w3.heap.size:=by omega
 have hmr:m≠w3.heap.size:=by omega
 have h0r:w.heap.size≤w3.heap.size:=c03.size;have h0C:w.heap.size≤C:=by omega
 generalize w3.heap.size=r at *;refine zR ?_;refine C1 (σ:=List En×List En×Nat) [6] 58 (fun _=>[]) (fun s w'=>Cl w w'∧Itr .i8 .i8 w' m r l l.length s.1∧w'.heap[C]?=some (mpO .i8 .i64 s.2.1 s.2.2)∧(∀ x∈s.1,x∈l)∧(∀ t:Int,0≤(a7P s.2.1 t).getD 0)∧∀ t:Int,(a7P s.2.1 t).getD 0+(s.1.countP fun x=>decide (a0B x.v=t):Nat)=(l.countP fun x=>decide (a0B x.v=t):Nat)) (fun s=>s.1.length) zk
  (l,[],0) ⟨c04,hI4,nC4,fun x hx=>hx,fun t=>by rw [a6r];simp,fun t=>by rw [a6r];simp⟩ trivial ?_
 rintro ⟨rem,cm,cc⟩ j w5 ⟨c5,hI5,nC5,hsub,hnn,hcnt⟩;simp only at c5 hI5 nC5 hsub hnn hcnt ⊢;refine zR ?_;refine a4e rfl hI5 (fun e=>?_) (fun r1 x r2 w6 e n6 hI6 hE=>?_);rotate_left
 ·subst e;have hxl:x∈l:=hsub x (by simp)
  obtain ⟨i,hi,ek,v0,v1⟩:=hmem x hxl;have hx:=hcnt (a0B x.v);have hb1:(l.countP fun y=>decide (a0B y.v=a0B x.v))≤l.length:=List.countP_le_length;have hb2:1≤((r1++x::r2).countP fun y=>decide (a0B y.v=a0B x.v)):=by
   rw [xu,List.countP_cons];simp;omega
  have hz:=hnn (a0B x.v);have hcb:IntKind.i64.wrap ((a7P cm (a0B x.v)).getD 0+1)=(a7P cm (a0B x.v)).getD 0+1:=g8 zo zo;have c6:=n6.toCl c5 h0r;have nC6:=n6.blk nC5 hCr;refine zR ?_;refine a3c rfl hE (zR ?_);refine g7 (a1f x.v v0 v1 _) (zR ?_);refine b6s mPI rfl rfl nC6 (zR ?_);rw [hcb];refine a6s mPI rfl rfl rfl nC6 fun w7 u7=>zR ?_;refine ⟨(r1++r2,a91 cm (a0B x.v) ((a7P cm (a0B x.v)).getD 0+1) cc,b4T cm (a0B x.v) cc),trivial,⟨u7.cl c6 h0C,hI6.kp (fun o h=>(Tn.upd u7).blk h (wY hCm)) (fun o h=>(Tn.upd u7).blk h (wY hCr)),u7.at_,fun y hy=>hsub y ?_,fun t=>?_,fun t=>?_⟩,by simp⟩
  ·rcases zr.1 hy with hy|hy
   ·exact yS _ hy
   ·exact List.mem_append_right _ (ye _ hy)
  ·show 0≤(a7P (a91 cm (a0B x.v) ((a7P cm (a0B x.v)).getD 0+1) cc) t).getD 0;rw [a92];split
   ·simp only [Option.getD_some];omega
   ·exact hnn t
  ·have ht:=hcnt t;show (a7P (a91 cm (a0B x.v) ((a7P cm (a0B x.v)).getD 0+1) cc) t).getD 0+((r1++r2).countP fun x=>decide (a0B x.v=t):Nat)=_;rw [a92];simp only [xu,List.countP_cons] at ht ⊢;by_cases e:t=a0B x.v
   ·subst e;rw [zM rfl];simp only [decide_true,wO] at ht;simp only [Option.getD_some];omega
   ·rw [zJ e];have e':decide (a0B x.v=t)=false:=zV (wY e);simp only [e',yG,xv] at ht;omega
 ·subst e;have h4:=hcnt 4;have h5:=hcnt 5;simp only [List.countP_nil,Int.natCast_zero,Int.add_zero] at h4 h5;have hm5:=hI5.hb;clear hI5 hsub hnn hcnt hSM hk0 hk6 hB;generalize (l.countP fun x=>decide (a0B x.v=5))=nn at *;generalize (l.countP fun x=>decide (a0B x.v=4))=nb at *;refine zR ?_;by_cases y0:(nn:Int)=0
  ·have hn:nn=0:=by omega
   by_cases z0:(nb:Int)=0
   ·have hS:V=false:=by rw [hS,zM ⟨zo,hn⟩]
    (repeat (first|(refine W9 mPI _ rfl rfl nC5 h4 ?_;refine zR ?_)|(refine W9 mPI _ rfl rfl nC5 h5 ?_;refine zR ?_)|(refine E.A0 z0 ?_;refine zR ?_)|(refine E.A0 y0 ?_;refine zR ?_)))
    exact ⟨p8 hS.symm,c5⟩
   ·rw [zJ zo] at hS;by_cases z1:(nb:Int)=1
    ·have hS:V=false:=by rw [hS,zM ⟨zo,hn⟩]
     (repeat (first|(refine W9 mPI _ rfl rfl nC5 h4 ?_;refine zR ?_)|(refine W9 mPI _ rfl rfl nC5 h5 ?_;refine zR ?_)|(refine E.o9 z0 ?_;refine zR ?_)|(refine E.A0 z1 ?_;refine zR ?_)|(refine E.A0 y0 ?_;refine zR ?_)))
     exact ⟨p8 hS.symm,c5⟩
    ·rw [zJ zo,zJ zo,zM hn] at hS;(repeat (first|(refine W9 mPI _ rfl rfl nC5 h4 ?_;refine zR ?_)|(refine W9 mPI _ rfl rfl nC5 h5 ?_;refine zR ?_)|(refine E.o9 z0 ?_;refine zR ?_)|(refine E.o9 z1 ?_;refine zR ?_)|(refine E.A0 y0 ?_;refine zR ?_)))
     clear nC5 h4 h5 y0 z0 z1 hn;have w1l:(l.countP fun x=>decide (a0B x.v=4)&&decide ((o5 x.k+l8 x.k)%2=1))≤l.length:=List.countP_le_length;have w0l:(l.countP fun x=>decide (a0B x.v=4)&&decide ((o5 x.k+l8 x.k)%2=0))≤l.length:=List.countP_le_length;refine a3b mSP rfl hm5 hnd hlt fun w6 c6 s6 hI6=>?_;have c06:=c5.trans c6;have h0r2:w.heap.size≤w5.heap.size:=c5.size;generalize w5.heap.size=r' at *;refine zR ?_;refine C1 (σ:=List En×Nat×Nat) [7,8,9,10] 96 (fun s=>[(7,.int .i64 s.2.1),(8,.int .i64 s.2.2)]) (fun s w'=>Cl w w'∧Itr .i8 .i8 w' m r' l l.length s.1∧(∀ x∈s.1,x∈l)∧s.2.1+(s.1.countP fun x=>decide (a0B x.v=4)&&decide ((o5 x.k+l8 x.k)%2=1))=(l.countP fun x=>decide (a0B x.v=4)&&decide ((o5 x.k+l8 x.k)%2=1))∧s.2.2+(s.1.countP fun x=>decide (a0B x.v=4)&&decide ((o5 x.k+l8 x.k)%2=0))=(l.countP fun x=>decide (a0B x.v=4)&&decide ((o5 x.k+l8 x.k)%2=0))) (fun s=>s.1.length) zk
      (l,0,0) ⟨c06,hI6,fun x hx=>hx,yZ _,yZ _⟩ ⟨rfl,rfl,trivial⟩ ?_
     rintro ⟨rem,a1,a0⟩ j w7 ⟨c7,hI7,hsub,e1,e0⟩;simp only at c7 hI7 hsub e1 e0 ⊢;refine zR ?_;refine a4e rfl hI7 (fun e=>?_) (fun r1 x r2 w8 e n8 hI8 hE=>?_);rotate_left
     ·subst e;have hxl:x∈l:=hsub x (by simp)
      obtain ⟨i,hi,ek,v0,v1⟩:=hmem x hxl;have hcol:=fun w=>c2p i hi w;rw [← ek] at hcol;have c8:=n8.toCl c7 h0r2;have hsub2:∀ y∈r1++r2,y∈l:=fun y hy=>hsub y (by
       rcases zr.1 hy with hy|hy
       ·exact yS _ hy
       ·exact List.mem_append_right _ (ye _ hy))
      simp only [xu,List.countP_cons] at e1 e0;have ty:=a1f x.v v0 v1;refine zR ?_;refine a3c rfl hE (zR ?_);refine g7 (ty _) (zR ?_);apply E.d7<;>intro h
      ·have hk:decide (a0B x.v=4)=true:=zX h;clear h;rw [hk] at e1 e0;simp only [yY] at e1 e0;refine zR ?_;refine g7 (hcol _) ?_;by_cases hpar:(o5 x.k+l8 x.k)%2=0
       ·rw [zM hpar];have hp1:¬ (o5 x.k+l8 x.k)%2=1:=by omega
        rw [zV hp1] at e1;rw [zX hpar] at e0;simp only [yG,xv,wO] at e1 e0;have n0:=C4 (i:=a0) zo;refine zR ?_;(repeat (first|(refine E.A0 rfl ?_;refine zR ?_)|(refine E.o9 zd ?_;refine zR ?_)))
        exact ⟨(r1++r2,a1,a0+1),⟨rfl,d9 n0,trivial⟩,⟨c8,hI8,hsub2,by rw [xu];show a1+_=_;omega,by rw [xu];show a0+1+_=_;omega⟩,by simp⟩
       ·rw [zJ hpar];have hp1:(o5 x.k+l8 x.k)%2=1:=by omega
        rw [zX hp1] at e1;rw [zV hpar] at e0;simp only [yG,xv,wO] at e1 e0;have n1:=C4 (i:=a1) zo;refine zR ?_;(repeat (first|(refine E.A0 rfl ?_;refine zR ?_)|(refine E.o9 zd ?_;refine zR ?_)))
        exact ⟨(r1++r2,a1+1,a0),⟨d9 n1,rfl,trivial⟩,⟨c8,hI8,hsub2,by rw [xu];show a1+1+_=_;omega,by rw [xu];show a0+_=_;omega⟩,by simp⟩
      ·have hk:decide (a0B x.v=4)=false:=zV h;clear h;rw [hk] at e1 e0;simp only [xw,yG,xv] at e1 e0;refine zR ?_;exact ⟨(r1++r2,a1,a0),⟨rfl,rfl,trivial⟩,⟨c8,hI8,hsub2,by rw [xu];show a1+_=_;omega,by rw [xu];show a0+_=_;omega⟩,by simp⟩
     ·subst e;simp only [List.countP_nil,Nat.add_zero] at e1 e0;rw [← e1,← e0] at hS;clear e1 e0 w1l w0l;refine zR ?_;by_cases q1:(a1:Int)=0
      ·rw [zM (.inl zo)] at hS;(repeat (refine E.A0 q1 ?_;refine zR ?_))
       exact ⟨p8 hS.symm,c7⟩
      ·by_cases q0:(a0:Int)=0
       ·rw [zM (.inr zo)] at hS;(repeat (first|(refine E.o9 q1 ?_;refine zR ?_)|(refine E.A0 q0 ?_;refine zR ?_)))
        exact ⟨p8 hS.symm,c7⟩
       ·rw [zJ zo] at hS;(repeat (first|(refine E.o9 q1 ?_;refine zR ?_)|(refine E.o9 q0 ?_;refine zR ?_)))
        exact ⟨p8 hS.symm,c7⟩
  ·have hn:¬ nn=0:=by omega
   rw [zJ (fun h=>hn h.2),zJ (fun h=>hn h.2)] at hS;by_cases z0:(nb:Int)=0
   ·by_cases y1:(nn:Int)=1
    ·have hS:V=false:=by rw [hS,zM ⟨zo,zo⟩]
     have z1:¬ (nb:Int)=1:=by omega
     (repeat (first|(refine W9 mPI _ rfl rfl nC5 h4 ?_;refine zR ?_)|(refine W9 mPI _ rfl rfl nC5 h5 ?_;refine zR ?_)|(refine E.A0 z0 ?_;refine zR ?_)|(refine E.o9 z1 ?_;refine zR ?_)|(refine E.o9 y0 ?_;refine zR ?_)|(refine E.A0 y1 ?_;refine zR ?_)))
     exact ⟨p8 hS.symm,c5⟩
    ·have hS:V=true:=by rw [hS,zJ zo,zJ hn]
     have z1:¬ (nb:Int)=1:=by omega
     (repeat (first|(refine W9 mPI _ rfl rfl nC5 h4 ?_;refine zR ?_)|(refine W9 mPI _ rfl rfl nC5 h5 ?_;refine zR ?_)|(refine E.A0 z0 ?_;refine zR ?_)|(refine E.o9 z1 ?_;refine zR ?_)|(refine E.o9 y0 ?_;refine zR ?_)|(refine E.o9 y1 ?_;refine zR ?_)))
     exact ⟨p8 hS.symm,c5⟩
   ·have hS:V=true:=by rw [hS,zJ zo,zJ hn]
    by_cases z1:(nb:Int)=1
    ·(repeat (first|(refine W9 mPI _ rfl rfl nC5 h4 ?_;refine zR ?_)|(refine W9 mPI _ rfl rfl nC5 h5 ?_;refine zR ?_)|(refine E.o9 z0 ?_;refine zR ?_)|(refine E.A0 z1 ?_;refine zR ?_)|(refine E.o9 y0 ?_;refine zR ?_)))
     exact ⟨p8 hS.symm,c5⟩
    ·(repeat (first|(refine W9 mPI _ rfl rfl nC5 h4 ?_;refine zR ?_)|(refine W9 mPI _ rfl rfl nC5 h5 ?_;refine zR ?_)|(refine E.o9 z0 ?_;refine zR ?_)|(refine E.o9 z1 ?_;refine zR ?_)|(refine E.o9 y0 ?_;refine zR ?_)))
     exact ⟨p8 hS.symm,c5⟩
structure O0.Same (z' z:O0):Prop where
 M:z'.M=z.M
 P:z'.P=z.P
 b:z'.b=z.b
 p:z'.p=z.p
theorem c2q {w:World} {G0 M:Nat} {g:Gm} {L:List O0} {z:O0} {d:Nd} (hT:C6 w) (h:J0 w G0 g L z) (hI:B7 z.p) (hN:Y6 z.p) (hle:(A5 z.p).length≤218) (hm:d.mv∈p9 z.p) (htg:(d.tags:Int)=a8N z.p d.mv) (hk:d.kids = .slice none 0 0)
  (hM:w.heap[M]?=some (.cells (F7 d) 141 (0,0))) (hoff:∀ n∈L++[z],n.off [M]) (hI':B7 (made z.p d.mv)) (hle':(A5 (made z.p d.mv)).length≤218)
  (hJ:∀ n∈L++[z],B7 n.p) (hlen:L.length+2≤100000) :
  Calls G.P 45 #[.pointer (some ⟨G0,0,none⟩),.pointer (some ⟨M,0,none⟩),.pointer none] w (fun r w'=>r = .returned .nilIface∧∃ g' z' y,z'.Same z∧(∃ ad n c,z'.cv = .slice (some ad) n c)∧J0 w' G0 g' (L++[z']) y∧y.M=M∧y.d.mv=d.mv∧y.d.tags=d.tags
  ∧y.p=made z.p d.mv∧w.heap.size≤y.P∧((g'.meth:Int),g'.out)=D5 ((L++[z]).map O0.p++[y.p]) y.p ((g.meth:Int),g.out)∧Fr [M,z.M,z.P,G0] w w'):=by
 have hMl:=A7 hM;refine zN func45 ?_;refine zR ?_;refine V0 true (N2 rfl _) (zR ?_);refine r7 #[.bool false] zk (zR ?_);have ca:=Cl.alloc w (.cells #[.bool false] 145);have na:=d8 w (.cells #[.bool false] 145);generalize w.alloc (.cells #[.bool false] 145)=w1 at *;have h1:=h.step ca;have hz:z.off [M]:=hoff z (by simp)
 refine m8 (a9z hI hle w1 (hT.cl ca) h1.hb h1.posM (ca.blk hM) (G9 h1.hb h1.posM.hd zd) (G9 (ca.blk hM) h1.posM.hd zd)) ?_;rintro e w2 (⟨_,rfl,cv',hP2,n2,hr2,hown⟩|⟨hn,_⟩);rotate_left
 ·exact absurd hm hn
 refine ⟨_,rfl,?_⟩;have hpos:=h.pos;have hkept:∃ ad n c,cv' = .slice (some ad) n c:=by
  obtain ⟨a,n,c,rfl⟩:=hP2.form;obtain ⟨x,hx,_⟩:=(a1l hI).2 d.mv hm;obtain ⟨ad,rfl⟩:=hP2.kept hr2 (fun e=>by rw [e] at hx;cases hx)
  exact ⟨ad,n,c,rfl⟩
 rw [hpos] at n2 hP2;have h2:=h1.recv n2 hP2 hown;have s1:=ca.size;have hM2:=n2.blk (ca.blk hM) (G9 (ca.blk hM) h1.chn.last.2.2.hd zd);have hO2:=n2.blk na (G9 na h1.chn.last.2.2.hd zd);have hoff2:∀ n∈L++[{ z with cv:=cv' }],n.off [M]:=fun n hn=>by
  rcases zr.1 hn with hn|hn
  ·exact hoff n (yS _ hn)
  ·rw [zY.1 hn];refine ⟨hz.M,hz.P,hz.b,fun k hk e=>?_,hz.kids⟩;rcases hown _ e with e|e
   ·exact hz.cv k hk e
   ·rw [zY.1 hk] at e;omega
 have hJ2:∀ n∈L++[{ z with cv:=cv' }],Ch.B7 n.p:=fun n hn=>by
  rcases zr.1 hn with hn|hn
  ·exact hJ n (yS _ hn)
  ·rw [zY.1 hn];exact hI
 have hT2:C6 w2:=(hT.cl ca).fr (Fr.tn (S:=[z.P]) n2 (.inl (by simp))) fun k hk cs t fz hh=>by
  rw [zY.1 hk] at hh;rw [← (xP (yp (h1.chn.last.2.2.hd.symm.trans hh))).2.1];decide
 refine zR ?_;refine G7 true (E6 rfl) (zR ?_);refine m8 (b4S (d:=d) hT2 h2 hI hN hm htg hk hM2 hoff2 hO2 zo hI' hle' (fun b=>b9I hI' b) hJ2 hlen) ?_;rintro e w3 ⟨rfl,g',kv,y,hg,e1,e2,e3,e4,e6,_,e5,f3⟩;refine ⟨_,rfl,zR ?_⟩;refine ⟨rfl,g',O0.led { z with cv:=cv' } kv,y,⟨rfl,rfl,rfl,rfl⟩,hkept,hg,e1,e2,e3,e4,by have:=n2.size;omega,?_,?_⟩
 ·rw [e5];simp
 ·exact ((Fr.cl ca).trans (Fr.tn n2 (.inl (by simp)))).trans (f3.mono (by intro k hk;simp only [yV,zy,xH] at hk ⊢;rcases hk with e|e|e<;>simp [e]))
end
