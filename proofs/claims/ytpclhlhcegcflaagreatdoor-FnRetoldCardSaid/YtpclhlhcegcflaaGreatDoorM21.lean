/- One part of the proof: Pk31 Pk32 Pk33 Pk34 Pk35 Pk36. -/
import Derived.Test.YtpclhlhcegcflaaGreatDoorM1
import Derived.Test.YtpclhlhcegcflaaGreatDoorM3
import Derived.Test.YtpclhlhcegcflaaGreatDoorM20
namespace Go.Proofs.YtpclhlhcegcflaaGreatDoor
set_option maxRecDepth 100000
set_option linter.unusedSimpArgs false
set_option linter.unusedVariables false
section
open Go Go.RowKit
open E
open Ch Bb
structure O4 where
 M:Nat
 d:Nd
 P:Nat
 b:Nat
 p:A3
 cv:Value
def a4m (w:World) (k:Value):List O4→Prop
 | []=>k = .slice none 0 0
 | m::_=>Row 85 1 O8 0 w k [m.M]
def Chn (w:World):List O4→Prop
 | []=>True
 | n::l=>w.heap[n.M]?=some (.cells (F0 n.d) 141 (0,0))∧n.d.pos = .pointer (some ⟨n.P,0,none⟩)∧a4m w n.d.kids l∧H0 w n.P n.b n.p n.cv∧Chn w l
theorem a4m.step {w w':World} {k:Value} {l:List O4} (h:a4m w k l) (c:Cl w w'):a4m w' k l:=by
 cases l with
 | nil=>exact h
 | cons m l=>exact Row.step h c
theorem Chn.step {w w':World}:∀ {l:List O4},Chn w l→Cl w w'→Chn w' l
 | [],_,_=>trivial
 | n::l,⟨h1,h2,h3,h4,h5⟩,c=>⟨c.blk h1,h2,h3.step c,h4.step c,Chn.step h5 c⟩
theorem c0P:G2 285 83 1 8:=R0 zk
set_option maxHeartbeats 1000000 in
theorem b1g {G0 t:Nat} {g:Gm} {fz:Nat×Nat} {n:O4} {l:List O4} (hl:(n::l).length≤100000) (w:World) (hb:w.heap[G0]?=some (.cells (gmA g) t fz)) (hr:g.root=n.M) (hc:Chn w (n::l)) :
  Calls G.P 248 #[.pointer (some ⟨G0,0,none⟩)] w (fun r w'=>∃ v,r = .returned v∧Row 83 1 O8 w.heap.size w' v ((n::l).map O4.P)∧Cl w w'):=by
 refine zN Tryz.func248 ?_;refine zR ?_;refine a8M c0P 0 rfl rfl zd zd fun cs hcs=>?_;have ca:=Cl.alloc w (.cells cs 83);have hr0:Row 83 1 O8 w.heap.size (w.alloc (.cells cs 83)) (.slice (some ⟨w.heap.size,0,none⟩) 0 0) ([]:List Nat):=Row.zero (Nat.le_refl _) (q8 _ _) hcs zd;generalize w.alloc (.cells cs 83)=w1 at *;refine zR ?_;refine d7 _ (b3K (ca.blk hb)) ?_;rw [hr];refine zR ?_;refine A9 (σ:=List Nat×Value×O4×List O4) [3,4] 5 (fun s=>[(3,s.2.1),(4,.pointer (some ⟨s.2.2.1.M,0,none⟩))]) (fun s w'=>Cl w w'∧Row 83 1 O8 w.heap.size w' s.2.1 s.1∧Chn w (s.2.2.1::s.2.2.2)∧s.1++(s.2.2.1::s.2.2.2).map O4.P=(n::l).map O4.P) (fun s=>s.2.2.2.length) zk
  ([],_,n,l) ⟨ca,hr0,hc,rfl⟩ ⟨rfl,rfl,trivial⟩ ?_
 rintro ⟨dn,v,m,k⟩ j w2 ⟨c2,hrw,hch,he⟩;simp only at c2 hrw hch he ⊢;obtain ⟨a,kk,rfl,_⟩:=hrw.form;obtain ⟨hm,hp,hk,hP,hrest⟩:=hch;have hm0:=hm;have hm:=c2.blk hm0;have hlen:=congrArg List.length he;simp only [List.length_append,List.length_map,List.length_cons] at hlen hl;have hlp:∀ w',Cl w2 w'→l8 G.P w' 83 ⟨m.M,1,none⟩ (.pointer (some ⟨m.P,0,none⟩)):=fun w' c=>by
  have:l8 G.P w' 83 ⟨m.M,1,none⟩ m.d.pos:=c0m (c.blk hm)
  rwa [hp] at this
 have hlk:∀ w',Cl w2 w'→l8 G.P w' 134 ⟨m.M,5,none⟩ m.d.kids:=fun w' c=>W1 (c.blk hm) rfl rfl;refine zR ?_;refine I1 false (N1 rfl _) (zR ?_);refine d7 _ (hlp _ (Cl.refl _)) (zR ?_);refine I1 false (N1 rfl _) (zR ?_);refine d7 _ (hlp _ (Cl.refl _)) (zR ?_);refine zL c0P [.pointer (some ⟨m.P,0,none⟩)] ?_;have cb:=Cl.alloc w2 (.cells (([.pointer (some ⟨m.P,0,none⟩)]:List Value).flatMap fun v=>v.cells.toList).toArray 83);have hbx:Row 83 1 O8 w2.heap.size (w2.alloc (.cells (([.pointer (some ⟨m.P,0,none⟩)]:List Value).flatMap fun v=>v.cells.toList).toArray 83)) (.slice (some ⟨w2.heap.size,0,none⟩) 1 1) [m.P]:=H9 T9 w2 [m.P] (by exact Nat.le_of_ble_eq_true rfl) [.pointer (some ⟨m.P,0,none⟩)] rfl
 generalize w2.alloc (.cells (([.pointer (some ⟨m.P,0,none⟩)]:List Value).flatMap fun v=>v.cells.toList).toArray 83)=w3 at *;refine zR ?_;refine J2 c0P (l:=dn) (news:=[m.P]) rfl (hrw.step cb) rfl hbx T9 a4l (by simp only [List.length_cons,List.length_nil];omega) zd (c2.trans cb).size fun v' w4 hr' hg=>?_
 have c04:Cl w w4:=hg.toCl rfl (c2.trans cb);have hlk4:l8 G.P w4 134 ⟨m.M,5,none⟩ m.d.kids:=W1 (c04.blk hm0) rfl rfl;obtain ⟨a9,c9,rfl,_⟩:=hr'.form;refine zR ?_;refine d7 _ hlk4 ?_;cases k with
 | nil =>
  have e0:m.d.kids = .slice none 0 0:=hk;rw [e0];refine zR ?_;exact ⟨_,rfl,by rw [← he];exact hr',c04⟩
 | cons m2 k =>
  have hk2:Row 85 1 O8 0 w m.d.kids [m2.M]:=hk;obtain ⟨ak,ck,ek,hak⟩:=hk2.form;obtain ⟨gk,rfl⟩:=hak Nat.zero_lt_one;rw [ek] at hk2 hlk4 ⊢;have hk4:=hk2.step c04;refine zR ?_;refine d7 _ hlk4 (zR ?_);refine d7 _ (J8 hk4 T9 0 0 Nat.zero_lt_one zd rfl rfl rfl) (zR ?_);exact ⟨(dn++[m.P],_,m2,k),⟨rfl,rfl,trivial⟩,⟨c04,hr',hrest,by rw [← he];simp⟩,by simp⟩
theorem Chn.get {w:World}:∀ {l:List O4},Chn w l→∀ (i:Nat) (hi:i<l.length),H0 w l[i].P l[i].b l[i].p l[i].cv
 | n::l,⟨_,_,_,h4,h5⟩,0,_=>h4
 | n::l,⟨_,_,_,h4,h5⟩,i+1,hi=>Chn.get h5 i (Nat.lt_of_succ_lt_succ hi)
theorem b26 (p q:A3):Y8 p q=Y8 q p:=by
 unfold Y8;have e:∀ {α:Type} [DecidableEq α] (a b:α),decide (a=b)=decide (b=a):=fun a b=>by
  by_cases h:a=b
  ·subst h;rfl
  ·rw [decide_eq_false h,decide_eq_false (Ne.symm h)]
 rw [e p.board,e p.turn,e p.castle,e p.ep]
theorem b27 (l:List A3) (q p:A3):times (l++[q]) p=times l p+(if Y8 p q then 1 else 0):=by
 unfold times;rw [List.filter_append,List.length_append,List.filter_cons,b26 q p];cases Y8 p q<;>rfl
theorem b1h (l:List A3) (p:A3):times l p≤l.length:=List.length_filter_le _ _
theorem b6V {p:A3} (hI:B7 p) {G0 b t:Nat} {g:Gm} {fz:Nat×Nat} {cv:Value} {n:O4} {l:List O4} (hl:(n::l).length≤100000) (hJ:∀ x∈n::l,B7 x.p) (w:World) (hT:C1 w) (hb:w.heap[G0]?=some (.cells (gmA g) t fz)) (hr:g.root=n.M)
  (hc:Chn w (n::l)) (hP:H0 w g.P b p cv) :
  Calls G.P 197 #[.pointer (some ⟨G0,0,none⟩)] w (K4 (.int .i64 (times ((n::l).map O4.p) p)) w):=by
 refine zN Tryz.func197 ?_;refine zR ?_;refine o8 (b1g hl w hb hr hc) ?_;rintro e w1 ⟨v,rfl,hrw,c1⟩;refine ⟨_,rfl,?_⟩;obtain ⟨a,k,rfl,ha⟩:=hrw.form;generalize hxs:n::l=xs at *;have hlm:(xs.map O4.P).length=xs.length:=List.length_map _;rw [hlm] at hrw ha ⊢;refine zR ?_;refine A9 (σ:=Nat) [3,5,9] 10 (fun i=>[(3,.int .i64 (times ((xs.take i).map O4.p) p)),(9,.int .i64 i)]) (fun i w'=>i≤xs.length∧Cl w1 w') (fun i=>xs.length-i) zk 0 ⟨Nat.zero_le _,Cl.refl _⟩ ⟨rfl,rfl,trivial⟩ ?_;rintro i j w2 ⟨hi,c2⟩;have ni:=C2 (i:=i) zo;have c02:=c1.trans c2;have htl:=b1h ((xs.take i).map O4.p) p;rw [List.length_map,List.length_take] at htl;have nt:=C2 (i:=times ((xs.take i).map O4.p) p) zo;refine zR ?_;apply E.b7<;>intro h
 ·have hi2:i<xs.length:=by omega
  clear h;obtain ⟨gk,rfl⟩:=ha zo;have htk:xs.take (i+1)=xs.take i++[xs[i]]:=List.take_succ_eq_append_getElem hi2;have hts:times ((xs.take (i+1)).map O4.p) p=times ((xs.take i).map O4.p) p+(if Y8 p xs[i].p then 1 else 0):=by rw [htk,List.map_append];exact b27 _ _ _
  have hx:=hc.get i hi2;have hxJ:=hJ _ (List.getElem_mem hi2);have hld:=fun {o:Nat} (ho:o=i*1+0)=>J8 (t:=83) (v:=.pointer (some ⟨xs[i].P,0,none⟩)) (hrw.step c2) T9 i 0 (by rw [hlm];exact hi2) zd (by rw [List.getElem_map];rfl) ho rfl
  generalize xs[i]=x at *;refine zR ?_;refine zC ?_;refine zR ?_;refine d7 _ (hld (a0y _ _)) (zR ?_);refine W3 false (N1 rfl _) (zR ?_);refine d7 _ (a4T (c02.blk hb)) (zR ?_);refine m9 (a7C hI hxJ w2 (hT.cl c02) (c02.blk hP.hd) (c02.blk hP.bd) (c02.blk hx.hd) (c02.blk hx.bd)) fun w3 c3=>zR ?_;cases hal:Y8 p x.p with
  | true =>
   rw [hal] at hts;refine zR ?_;refine ⟨i+1,⟨?_,m7 ni,trivial⟩,⟨zo,c2.trans c3⟩,zo⟩;rw [hts];exact m7 nt
  | false =>
   rw [hal] at hts;refine zR ?_;refine ⟨i+1,⟨?_,m7 ni,trivial⟩,⟨zo,c2.trans c3⟩,zo⟩;rw [hts];rfl
 ·have e:i=xs.length:=by omega
  subst e;rw [List.take_length];refine zR ?_;exact ⟨rfl,c02⟩
set_option maxHeartbeats 1000000 in
theorem b28 {p:A3} (hI:B7 p) (hle:(z8 p).length≤218) {G0 t M b:Nat} {g:Gm} {fz:Nat×Nat} {cv:Value} {d:Nd} (hm:d.mv∈y8 p) (w:World) (hT:C1 w) (hb:w.heap[G0]?=some (.cells (gmA g) t fz)) (hP:H0 w g.P b p cv)
  (hM:w.heap[M]?=some (.cells (F0 d) 141 (0,0))) (hGP:G0≠g.P) (hMP:M≠g.P) :
  Calls G.P 101 #[.pointer (some ⟨G0,0,none⟩),.pointer (some ⟨M,0,none⟩)] w (fun r w'=>r = .returned .nilIface∧∃ cv',H0 w' g.P b p cv'∧Tn g.P w w'∧Row 141 11 C6 0 w' cv' (N0 p)∧∀ k,cv'.ownBlock=some k→cv.ownBlock=some k∨w.heap.size≤k):=by
 obtain ⟨mm1,mm2⟩:=a0I hI;have hlen:=a4O hI hle;refine zN Tryz.func101 ?_;refine zR ?_;refine W3 false (N1 rfl _) (zR ?_);refine d7 _ (a4T hb) (zR ?_);refine W3 false (N1 rfl _) (zR ?_);refine d7 _ (a4T hb) (zR ?_);refine o8 (a4P hI hle w hT hP) ?_;rintro r w2 ⟨v,cv',rfl,hr,hP2,n2,hr0,hown⟩;obtain ⟨av,kv,rfl,hav⟩:=hr.form;refine ⟨_,rfl,?_⟩;have hM2:=n2.blk hM hMP;refine zR ?_;refine A9 (σ:=Nat) [4,7,24] 25 (fun i=>[(4,.nilIface),(24,.int .i64 i)]) (fun i w'=>i≤(N0 p).length∧Cl w2 w'∧∀ x∈(N0 p).take i,x.mv≠d.mv) (fun i=>(N0 p).length-i) zk 0 ⟨Nat.zero_le _,Cl.refl _,fun x hx=>by simp at hx⟩ ⟨rfl,rfl,trivial⟩ ?_
 rintro i j w3 ⟨hi,c3,hno⟩;have ni:=C2 (i:=i) zo;refine zR ?_;apply E.b7<;>intro h
 ·have hi2:i<(N0 p).length:=by omega
  clear h;obtain ⟨ga,rfl⟩:=hav zo;have hld:=fun {o:Nat} (ho:o=i*11)=>a97 (hr.step c3) i hi2 ho;have hxm:=List.getElem_mem hi2;have htk:(N0 p).take (i+1)=(N0 p).take i++[(N0 p)[i]]:=List.take_succ_eq_append_getElem hi2;generalize (N0 p)[i]=x at *;refine zR ?_;refine zC ?_;refine zR ?_;refine d7 _ (hld (a0y _ _)) (zR ?_);refine t7 _ a6b ?_;have cB:=Cl.alloc w3 (.cells (Value.agg (F0 (D3 ⟨⟨0,0,0⟩,0⟩))).cells 141);have nB:=q8 w3 (.cells (Value.agg (F0 (D3 ⟨⟨0,0,0⟩,0⟩))).cells 141);generalize w3.alloc (.cells (Value.agg (F0 (D3 ⟨⟨0,0,0⟩,0⟩))).cells 141)=w4 at *;refine zR ?_;refine J6 nB (C6 x) rfl a1x rfl (X3 x) (Nat.le_of_ble_eq_true rfl) fun w5 u5=>?_;have hX:w5.heap[w3.heap.size]?=some (.cells (F0 (D3 x)) 141 (0,0)):=by have h7:=u5.at_;rw [C5 _ _ (by rw [I7];rfl)] at h7;exact h7
  have c5:Cl w3 w5:=(Tn.upd u5).toCl cB (Nat.le_refl _);have c25:=c3.trans c5;have hD:=c25.blk hM2;have hxe:∀ w6,Cl w5 w6→x.mv≠d.mv→i+1≤(N0 p).length∧Cl w2 w6∧∀ y∈(N0 p).take (i+1),y.mv≠d.mv:=fun w6 c6 hne=>⟨hi2,c25.trans c6,fun y hy=>by
   rw [htk] at hy;rcases List.mem_append.1 hy with hy | hy
   ·exact hno y hy
   ·rw [List.mem_singleton] at hy;rw [hy];exact hne⟩
  refine zR ?_;refine zK 25 ?_;refine zR ?_;refine a2Y hX (zR ?_);refine a2Y hD (zR ?_);apply E.b7<;>intro h
  ·have h1:x.mv.fr=d.mv.fr:=h;clear h;refine zR ?_;repeat (refine E.D4 h1 ?_;refine zR ?_)
   refine a9x hX (zR ?_);repeat (refine E.D4 h1 ?_;refine zR ?_)
   refine a9x hD (zR ?_);repeat (refine E.D4 h1 ?_;refine zR ?_)
   apply E.b7<;>intro h
   ·have h2:x.mv.to=d.mv.to:=h;clear h;refine zR ?_;repeat (refine E.D4 h2 ?_;refine zR ?_)
    refine a6A hX (zR ?_);repeat (refine E.D4 h2 ?_;refine zR ?_)
    refine a6A hD (zR ?_);repeat (refine E.D4 h2 ?_;refine zR ?_)
    intro w6 c6;refine zR ?_;repeat (refine E.D4 h2 ?_;refine zR ?_)
    apply E.b7<;>intro h
    ·refine zR ?_;have c26:=c25.trans c6;exact ⟨rfl,cv',hP2.step c26,n2.trans (Tn.cl c26),hr0.step c26,hown⟩
    ·refine zR ?_;exact ⟨i+1,⟨rfl,m7 ni,trivial⟩,hxe _ c6 (fun e=>h (by rw [← e];rfl)),zo⟩
   ·have h2:¬ x.mv.to=d.mv.to:=h;clear h;refine zR ?_;repeat (refine E.o7 h2 ?_;refine zR ?_)
    intro w6 c6;refine zR ?_;repeat (refine E.o7 h2 ?_;refine zR ?_)
    exact ⟨i+1,⟨rfl,m7 ni,trivial⟩,hxe _ c6 (fun e=>h2 (by rw [← e])),zo⟩
  ·have h1:¬ x.mv.fr=d.mv.fr:=h;clear h;refine zR ?_;repeat (refine E.o7 h1 ?_;refine zR ?_)
   intro w6 c6;refine zR ?_;repeat (refine E.o7 h1 ?_;refine zR ?_)
   exact ⟨i+1,⟨rfl,m7 ni,trivial⟩,hxe _ c6 (fun e=>h1 (by rw [← e])),zo⟩
 ·have e:i=(N0 p).length:=by omega
  subst e;rw [List.take_length] at hno;obtain ⟨x,hx,e⟩:=mm2 _ hm;exact absurd e (hno x hx)
def c0Q (p:A3) (b:Nat):Prop:=∀ w',C1 w'→w'.heap[b]?=some (.cells (mbA (mbOf p)) 237 (0,0)) →
 Calls G.P 198 #[.pointer (some ⟨b,0,none⟩)] w' (K4 (.bool (!a3B p)) w')
set_option maxHeartbeats 1000000 in
theorem a8N {p:A3} (hI:B7 p) (hle:(z8 p).length≤218) {G0 b:Nat} {g:Gm} {cv:Value} {n:O4} {l:List O4} (hsuf:c0Q p b) (hl:(n::l).length≤100000) (hJ:∀ x∈n::l,B7 x.p) (w:World) (hT:C1 w) (hb:w.heap[G0]?=some (.cells (gmA g) 131 (0,0))) (hr:g.root=n.M)
  (hc:Chn w (n::l)) (hP:H0 w g.P b p cv) (hGP:g.P≠G0) (hGb:b≠G0) (hmo:g.out=a5e→g.meth=0) :
  Calls G.P 138 #[.pointer (some ⟨G0,0,none⟩)] w (fun r w'=>r = .returned (.tuple #[])∧∃ (m':Nat) (o':Tx),((m':Int),o')=X4 ((n::l).map O4.p) p ((g.meth:Int),g.out)
  ∧w'.heap[G0]?=some (.cells (gmA { g with out:=o',meth:=m' }) 131 (0,0))∧Fr [G0] w w'):=by
 have hS:=a8E hI w hT hP;have hstat:a2b p=if !(y8 p).isEmpty then 0 else if inCheck p then 1 else 4:=rfl
 have hend:X4 ((n::l).map O4.p) p ((g.meth:Int),g.out)=if (y8 p).isEmpty then (if !inCheck p then (4,X2) else (1,a1X p.turn))
   else if g.out≠a5e then ((g.meth:Int),g.out)
   else
    let a:=if 5≤times ((n::l).map O4.p) p then (6,X2) else ((g.meth:Int),g.out)
    let b:=if 150≤p.half then (8,X2) else a
    if a3B p then (9,X2) else b:=rfl
 have hnr:=fun w hT hb hc hP=>b6V hI hl hJ (g:=g) (G0:=G0) (t:=131) (fz:=(0,0)) (b:=b) (cv:=cv) w hT hb hr hc hP;rw [hend];clear hend;have hfix:∀ k∈[G0],∀ cs t fz,w.heap[k]?=some (.cells cs t fz)→a1J t=false:=fun k hk cs t fz h=>by
  have e:=List.mem_singleton.1 hk;rw [e] at h;have h2:=Obj.cells.inj (Option.some.inj (hb.symm.trans h));rw [← h2.2.1];decide
 have hTf:∀ {w'},Fr [G0] w w'→C1 w':=fun c=>hT.fr c hfix;have hPf:∀ {w'},Fr [G0] w w'→w'.heap[g.P]?=some (.cells (hdA b (A8 p (inCheck p)) cv) 173 (0,0)):=fun c=>c.blk hP.hd (fun e=>hGP (List.mem_singleton.1 e));have hBf:∀ {w'},Fr [G0] w w'→w'.heap[b]?=some (.cells (mbA (mbOf p)) 237 (0,0)):=fun c=>c.blk hP.bd (fun e=>hGb (List.mem_singleton.1 e));have htm:=b1h ((n::l).map O4.p) p;rw [List.length_map] at htm;have htm:=Nat.le_trans htm hl;generalize times ((n::l).map O4.p) p=tm at *;refine zN Tryz.func138 ?_;refine zR ?_;refine d7 _ (a4T hb) (zR ?_);rw [hstat] at hS;clear hstat;generalize (y8 p).isEmpty=em at *;have hPc:=hP.hd;generalize inCheck p=ck at *;cases em with
 | true =>
  rw [if_pos rfl];cases ck with
  | false =>
   refine m9 hS fun w1 c1=>zR ?_;refine zT (c1.blk hb) [.int .u8 4] fun w2 u2=>?_;refine zR ?_;refine J6 u2.at_ [s8 X2] rfl zk rfl (by intro v hv;simp at hv;subst hv;rfl) (Nat.le_of_ble_eq_true rfl) fun w3 u3=>zR ?_
   refine d7 _ (a7D (g:={ g with out:=X2,meth:=4 }) u3.at_) (zR ?_);exact ⟨rfl,4,X2,rfl,u3.at_,((Fr.cl c1).trans (Fr.upd u2 (by simp))).trans (Fr.upd u3 (by simp))⟩
  | true =>
   refine m9 hS fun w1 c1=>zR ?_;refine zT (c1.blk hb) [.int .u8 1] fun w2 u2=>?_;refine zR ?_;refine J6 u2.at_ [s8 [49,45,48]] rfl zk rfl (by intro v hv;simp at hv;subst hv;rfl) (Nat.le_of_ble_eq_true rfl) fun w3 u3=>zR ?_
   have c3:=((Fr.cl c1).trans (Fr.upd u2 (by simp))).trans (Fr.upd (S:=[G0]) u3 (by simp))
   refine d7 _ (a4T (g:={ g with out:=[49,45,48],meth:=1 }) u3.at_) (zR ?_);refine d9 (a4d w3 (hPf c3)) (zR ?_);apply E.b7<;>intro h
   ·have h0:p.turn=0:=by have h2:p.turn+1=1:=h;omega
    clear h;refine zR ?_;refine J6 u3.at_ [s8 [48,45,49]] rfl zk rfl (by intro v hv;simp at hv;subst hv;rfl) (Nat.le_of_ble_eq_true rfl) fun w4 u4=>zR ?_
    refine d7 _ (a7D (g:={ g with out:=[48,45,49],meth:=1 }) u4.at_) (zR ?_);exact ⟨rfl,1,[48,45,49],by unfold a1X;rw [if_pos h0];rfl,u4.at_,c3.trans (Fr.upd u4 (by simp))⟩
   ·have h0:¬ p.turn=0:=fun e=>h (by show p.turn+1=1;omega)
    clear h;refine zR ?_;refine d7 _ (a7D (g:={ g with out:=[49,45,48],meth:=1 }) u3.at_) (zR ?_);exact ⟨rfl,1,[49,45,48],by unfold a1X;rw [if_neg h0];rfl,u3.at_,c3⟩
 | false =>
  rw [if_neg Bool.false_ne_true];refine m9 hS fun w1 c1=>zR ?_;refine d7 _ (a7D (c1.blk hb)) (zR ?_);apply E.r9<;>intro h
  ·have h0:g.out≠a5e:=fun e=>h (by rw [e];rfl)
   rw [if_pos h0];refine zR ?_;exact ⟨rfl,g.meth,g.out,rfl,c1.blk hb,Fr.cl c1⟩
  ·have h0:g.out=a5e:=of_decide_eq_true ((b3A g.out).symm.trans (decide_eq_true h));rw [if_neg (show ¬ (g.out≠a5e) from fun e=>e h0)];have hm0:=hmo h0;clear h;refine zR ?_;refine d7 _ (a4k (c1.blk hb)) (zR ?_);refine m9 (hnr w1 (hT.cl c1) (c1.blk hb) (hc.step c1) (hP.step c1)) fun w2 c2=>?_;have c02:=Fr.cl (S:=[G0]) (c1.trans c2);have hb2:=(c1.trans c2).blk hb;refine zR ?_;apply E.b7<;>intro h
   ·have h5:5≤tm:=by have h2:(5:Int)≤(tm:Int):=h;omega
    clear h;refine zR ?_;refine zT hb2 [s8 X2] fun w3 u3=>?_;refine zR ?_;refine J6 u3.at_ [.int .u8 6] rfl zk rfl (by intro v hv;simp at hv;subst hv;rfl) (Nat.le_of_ble_eq_true rfl) fun w4 u4=>zR ?_
    have c04:=(c02.trans (Fr.upd (S:=[G0]) u3 (by simp))).trans (Fr.upd u4 (by simp))
    refine d7 _ (a4k (g:={ g with out:=X2,meth:=6 }) u4.at_) (zR ?_);refine d7 _ (a4T (g:={ g with out:=X2,meth:=6 }) u4.at_) (zR ?_);refine d7 _ (a2u (hPf c04)) (zR ?_);apply E.b7<;>intro h
    ·have h150:150≤p.half:=h;clear h;refine zR ?_;repeat (refine E.D4 h150 ?_;refine zR ?_)
     refine d7 _ (a9F (g:={ g with out:=X2,meth:=6 }) u4.at_) (zR ?_);repeat (refine E.D4 h150 ?_;refine zR ?_)
     refine J6 u4.at_ [s8 X2] rfl zk rfl (by intro v hv;simp at hv;subst hv;rfl) (Nat.le_of_ble_eq_true rfl) fun w5 u5=>zR ?_
     refine J6 u5.at_ [.int .u8 8] rfl zk rfl (by intro v hv;simp at hv;subst hv;rfl) (Nat.le_of_ble_eq_true rfl) fun w6 u6=>zR ?_
     have c06:=((c04).trans (Fr.upd (S:=[G0]) u5 (by simp))).trans (Fr.upd u6 (by simp))
     refine d7 _ (a4k (g:={ g with out:=X2,meth:=8 }) u6.at_) (zR ?_);refine d7 _ (a4T (g:={ g with out:=X2,meth:=8 }) u6.at_) (zR ?_);refine d7 _ (a7o (hPf c06)) (zR ?_);refine m9 (hsuf w6 (hTf c06) (hBf c06)) fun w7 c7=>?_;have hb7:=c7.blk u6.at_;have c07:=(c06).trans (Fr.cl c7);cases hd:a3B p with
     | true =>
      refine zR ?_;refine zT hb7 [s8 X2] fun w8 u8=>?_;refine zR ?_;refine J6 u8.at_ [.int .u8 9] rfl zk rfl (by intro v hv;simp at hv;subst hv;rfl) (Nat.le_of_ble_eq_true rfl) fun w9 u9=>zR ?_
      exact ⟨rfl,9,X2,by simp only [if_pos h5];simp only [if_pos h150];rfl,u9.at_,(c07.trans (Fr.upd u8 (by simp))).trans (Fr.upd u9 (by simp))⟩
     | false =>
      refine zR ?_;exact ⟨rfl,8,X2,by simp only [if_pos h5];simp only [if_pos h150];rfl,hb7,c07⟩
    ·have h150:¬ 150≤p.half:=h;clear h;refine zR ?_;repeat (refine E.o7 h150 ?_;refine zR ?_)
     refine d7 _ (a4k (g:={ g with out:=X2,meth:=6 }) u4.at_) (zR ?_);refine d7 _ (a4T (g:={ g with out:=X2,meth:=6 }) u4.at_) (zR ?_);refine d7 _ (a7o (hPf c04)) (zR ?_);refine m9 (hsuf w4 (hTf c04) (hBf c04)) fun w7 c7=>?_;have hb7:=c7.blk u4.at_;have c07:=(c04).trans (Fr.cl c7);cases hd:a3B p with
     | true =>
      refine zR ?_;refine zT hb7 [s8 X2] fun w8 u8=>?_;refine zR ?_;refine J6 u8.at_ [.int .u8 9] rfl zk rfl (by intro v hv;simp at hv;subst hv;rfl) (Nat.le_of_ble_eq_true rfl) fun w9 u9=>zR ?_
      exact ⟨rfl,9,X2,by simp only [if_pos h5];simp only [if_neg h150];rfl,u9.at_,(c07.trans (Fr.upd u8 (by simp))).trans (Fr.upd u9 (by simp))⟩
     | false =>
      refine zR ?_;exact ⟨rfl,6,X2,by simp only [if_pos h5];simp only [if_neg h150];rfl,hb7,c07⟩
   ·have h5:¬ 5≤tm:=fun e=>h (by show (5:Int)≤(tm:Int);omega)
    clear h;refine zR ?_;refine d7 _ (a4k (g:=g) hb2) (zR ?_);refine d7 _ (a4T (g:=g) hb2) (zR ?_);refine d7 _ (a2u (hPf c02)) (zR ?_);apply E.b7<;>intro h
    ·have h150:150≤p.half:=h;clear h;refine zR ?_;repeat (refine E.D4 h150 ?_;refine zR ?_)
     refine d7 _ (a9F (g:=g) hb2) (zR ?_);repeat (refine E.D4 h150 ?_;refine zR ?_)
     apply E.r9<;>intro h;rotate_left
     ·exact absurd (show ((g.meth:Nat):Int)=1 from h) zo
     refine zR ?_;refine zT hb2 [s8 X2] fun w5 u5=>?_;refine zR ?_;refine J6 u5.at_ [.int .u8 8] rfl zk rfl (by intro v hv;simp at hv;subst hv;rfl) (Nat.le_of_ble_eq_true rfl) fun w6 u6=>zR ?_
     have c06:=((c02).trans (Fr.upd (S:=[G0]) u5 (by simp))).trans (Fr.upd u6 (by simp))
     refine d7 _ (a4k (g:={ g with out:=X2,meth:=8 }) u6.at_) (zR ?_);refine d7 _ (a4T (g:={ g with out:=X2,meth:=8 }) u6.at_) (zR ?_);refine d7 _ (a7o (hPf c06)) (zR ?_);refine m9 (hsuf w6 (hTf c06) (hBf c06)) fun w7 c7=>?_;have hb7:=c7.blk u6.at_;have c07:=(c06).trans (Fr.cl c7);cases hd:a3B p with
     | true =>
      refine zR ?_;refine zT hb7 [s8 X2] fun w8 u8=>?_;refine zR ?_;refine J6 u8.at_ [.int .u8 9] rfl zk rfl (by intro v hv;simp at hv;subst hv;rfl) (Nat.le_of_ble_eq_true rfl) fun w9 u9=>zR ?_
      exact ⟨rfl,9,X2,by simp only [if_neg h5];simp only [if_pos h150];rfl,u9.at_,(c07.trans (Fr.upd u8 (by simp))).trans (Fr.upd u9 (by simp))⟩
     | false =>
      refine zR ?_;exact ⟨rfl,8,X2,by simp only [if_neg h5];simp only [if_pos h150];rfl,hb7,c07⟩
    ·have h150:¬ 150≤p.half:=h;clear h;refine zR ?_;repeat (refine E.o7 h150 ?_;refine zR ?_)
     refine d7 _ (a4k (g:=g) hb2) (zR ?_);refine d7 _ (a4T (g:=g) hb2) (zR ?_);refine d7 _ (a7o (hPf c02)) (zR ?_);refine m9 (hsuf w2 (hTf c02) (hBf c02)) fun w7 c7=>?_;have hb7:=c7.blk hb2;have c07:=(c02).trans (Fr.cl c7);cases hd:a3B p with
     | true =>
      refine zR ?_;refine zT hb7 [s8 X2] fun w8 u8=>?_;refine zR ?_;refine J6 u8.at_ [.int .u8 9] rfl zk rfl (by intro v hv;simp at hv;subst hv;rfl) (Nat.le_of_ble_eq_true rfl) fun w9 u9=>zR ?_
      exact ⟨rfl,9,X2,by simp only [if_neg h5];simp only [if_neg h150];rfl,u9.at_,(c07.trans (Fr.upd u8 (by simp))).trans (Fr.upd u9 (by simp))⟩
     | false =>
      refine zR ?_;exact ⟨rfl,g.meth,g.out,by simp only [if_neg h5];simp only [if_neg h150];rfl,hb7,c07⟩
def Kp (X:List Nat) (w w':World):Prop:=∀ (k:Nat) (cs:Array Value) (t:Nat),k∉X→t≠131→w.heap[k]?=some (.cells cs t (0,0))→w'.heap[k]?=some (.cells cs t (0,0))
theorem Kp.row {α:Type} {enc:α→List Value} {e z b0:Nat} {X:List Nat} {w w':World} {v:Value} {l:List α} (hk:Kp X w w') (h:Row e z enc b0 w v l) (he:e≠131) (hv:∀ k∈X,v.ownBlock≠some k):Row e z enc b0 w' v l:=by
 refine ⟨h.1,?_⟩;rcases h.2 with h2 | ⟨g,cap,cur,h1,h2,h3,h4⟩
 ·exact .inl h2
 ·refine .inr ⟨g,cap,cur,h1,h2,hk _ _ _ (fun hm=>hv g hm (by rw [h1];rfl)) he h3,h4⟩
structure O4.off (X:List Nat) (n:O4):Prop where
 M:n.M∉X
 P:n.P∉X
 b:n.b∉X
 cv:∀ k∈X,n.cv.ownBlock≠some k
 kids:∀ k∈X,n.d.kids.ownBlock≠some k
theorem H0.kp {X:List Nat} {w w':World} {P b:Nat} {p:A3} {cv:Value} (hk:Kp X w w') (h:H0 w P b p cv) (hP:P∉X) (hb:b∉X) (hv:∀ k∈X,cv.ownBlock≠some k):H0 w' P b p cv :=
 ⟨hk _ _ _ hP zd h.hd,hk _ _ _ hb zd h.bd,h.ca.elim .inl fun h=>.inr (hk.row h zd hv)⟩
theorem a4m.kp {X:List Nat} {w w':World} {k:Value} {l:List O4} (hk:Kp X w w') (h:a4m w k l) (hv:∀ j∈X,k.ownBlock≠some j):a4m w' k l:=by
 cases l with
 | nil=>exact h
 | cons m l=>exact hk.row h zd hv
theorem Chn.kp {X:List Nat} {w w':World} (hk:Kp X w w'):∀ {l:List O4},Chn w l→(∀ n∈l,n.off X)→Chn w' l
 | [],_,_=>trivial
 | n::l,⟨h1,h2,h3,h4,h5⟩,ho=>by
  have o:=ho n (List.mem_cons_self ..);exact ⟨hk _ _ _ o.M zd h1,h2,h3.kp hk o.kids,h4.kp hk o.P o.b o.cv,Chn.kp hk h5 fun x hx=>ho x (List.mem_cons_of_mem _ hx)⟩
theorem Chn.snoc {w w':World} {z y:O4} {kv:Value}:∀ {l:List O4},Kp [z.M,y.M] w w'→Chn w (l++[z])→(∀ n∈l,n.off [z.M,y.M])→z.P∉[z.M,y.M]→z.b∉[z.M,y.M]→(∀ k∈[z.M,y.M],z.cv.ownBlock≠some k)
 →w'.heap[z.M]?=some (.cells (F0 { z.d with kids:=kv }) 141 (0,0))→Row 85 1 O8 0 w' kv [y.M]→Chn w' [y]→Chn w' (l++[{ z with d:={ z.d with kids:=kv } },y])
 | [],hk,⟨h1,h2,h3,h4,_⟩,_,hP,hb,hv,hz,hr,hy=>⟨hz,h2,hr,h4.kp hk hP hb hv,hy⟩
 | n::l,hk,⟨h1,h2,h3,h4,h5⟩,ho,hP,hb,hv,hz,hr,hy=>by
  have o:=ho n (List.mem_cons_self ..);refine ⟨hk _ _ _ o.M zd h1,h2,?_,h4.kp hk o.P o.b o.cv,Chn.snoc hk h5 (fun x hx=>ho x (List.mem_cons_of_mem _ hx)) hP hb hv hz hr hy⟩;cases l with
  | nil=>exact hk.row h3 zd o.kids
  | cons m l=>exact hk.row h3 zd o.kids
theorem Kp.fr {X S:List Nat} {w w':World} (h:Fr S w w') (hS:∀ k∈S,k∈X∨∃ cs fz,w.heap[k]?=some (.cells cs 131 fz)):Kp X w w':=by
 intro k cs t hk ht hb;refine h.blk hb fun hm=>?_;rcases hS k hm with e | ⟨cs',fz,e⟩
 ·exact hk e
 ·exact ht (Obj.cells.inj (Option.some.inj (hb.symm.trans e))).2.1
theorem Kp.trans {X:List Nat} {w w1 w2:World} (h:Kp X w w1) (h':Kp X w1 w2):Kp X w w2:=fun k cs t hk ht hb=>h' k cs t hk ht (h k cs t hk ht hb)
structure b3L (w:World) (G0 M:Nat) (g:Gm) (dc d:Nd) (q:A3) (P' b':Nat) (kv:Value) (w':World):Prop where
 P:w.heap.size≤P'
 b:w.heap.size≤b'
 pos:H0 w' P' b' q (.slice none 0 0)
 row:Row 85 1 O8 w.heap.size w' kv [M]
 cur:w'.heap[g.cur]?=some (.cells (F0 { dc with kids:=kv }) 141 (0,0))
 new:w'.heap[M]?=some (.cells (F0 { d with par:=.pointer (some ⟨g.cur,0,none⟩),pos:=.pointer (some ⟨P',0,none⟩) }) 141 (0,0))
 game:w'.heap[G0]?=some (.cells (gmA { g with P:=P',cur:=M }) 131 (0,0))
 fr:Fr [M,g.cur,G0] w w'
theorem b6W {p:A3} (hI:B7 p) (hN:a1z p) {G0 M b O to:Nat} {fo:Nat×Nat} {g:Gm} {cv:Value} {dc d:Nd} (hm:d.mv∈y8 p) (htg:(d.tags:Int)=a6V p d.mv) (w:World) (hT:C1 w) (hP:H0 w g.P b p cv)
  (hb:w.heap[G0]?=some (.cells (gmA g) 131 (0,0))) (hc:w.heap[g.cur]?=some (.cells (F0 dc) 141 (0,0))) (hk:dc.kids = .slice none 0 0) (hM:w.heap[M]?=some (.cells (F0 d) 141 (0,0)))
  (hO:w.heap[O]?=some (.cells #[.bool false] to fo)) (hcM:g.cur≠M) (hPM:g.P≠M) (hPc:g.P≠g.cur) (hbM:b≠M) (hbc:b≠g.cur) (hvM:∀ k∈[M,g.cur],cv.ownBlock≠some k) (hOM:O≠M) {R:Nat→Nat→Value→World→World→Prop}
  (hev:∀ P' b' kv w3,b3L w G0 M g dc d (made p d.mv) P' b' kv w3→Calls G.P 138 #[.pointer (some ⟨G0,0,none⟩)] w3 (fun r w'=>r = .returned (.tuple #[])∧R P' b' kv w3 w')) :
  Calls G.P 102 #[.pointer (some ⟨G0,0,none⟩),.pointer (some ⟨M,0,none⟩),.pointer (some ⟨O,0,none⟩)] w (fun r w'=>r = .returned .nilIface∧∃ P' b' kv w3,b3L w G0 M g dc d (made p d.mv) P' b' kv w3∧R P' b' kv w3 w'):=by
 have hGM:G0≠M:=fun e=>by rw [e] at hb;have:=(Obj.cells.inj (Option.some.inj (hb.symm.trans hM))).2.1;revert this;decide
 have hGc:G0≠g.cur:=fun e=>by rw [e] at hb;have:=(Obj.cells.inj (Option.some.inj (hb.symm.trans hc))).2.1;revert this;decide
 refine zN Tryz.func102 ?_;refine zR ?_;refine W3 false (N1 rfl _) (zR ?_);refine d9 (b6S _ ⟨_,rfl⟩ hb hc hk) (zR ?_);refine d7 _ (W1 (v:=.bool false) hO rfl rfl) (zR ?_);refine o8 (b8M hGc hGM hcM hb hc hk hM) ?_;rintro e w1 ⟨rfl,kv,hr1,hc1,hM1,f1⟩;refine ⟨_,rfl,?_⟩;have k1:Kp [M,g.cur] w w1:=Kp.fr f1 fun k hk=>.inl hk;have hP1:H0 w1 g.P b p cv:=hP.kp k1 (by simp [hPM,hPc]) (by simp [hbM,hbc]) hvM
 have hb1:=f1.blk hb (by simp [hGM,hGc])
 have hT1:C1 w1:=hT.fr f1 fun k hk cs t fz h=>by
  rcases List.mem_cons.1 hk with e | e
  ·rw [e] at h;rw [← (Obj.cells.inj (Option.some.inj (hM.symm.trans h))).2.1];decide
  ·rw [List.mem_singleton.1 e] at h;rw [← (Obj.cells.inj (Option.some.inj (hc.symm.trans h))).2.1];decide
 refine zR ?_;refine o8 (b6U (d:={ d with par:=.pointer (some ⟨g.cur,0,none⟩) }) hI hN hm htg w1 hT1 hP1 hM1 hGM hb1) ?_;rintro e w2 ⟨rfl,P',b',s1,s2,hP2,hb2,hM2,f2⟩;refine ⟨_,rfl,?_⟩;refine zR ?_;refine zT hb2 [.pointer (some ⟨M,0,none⟩)] fun w3 u3=>?_;refine zR ?_;have f3:Fr [M,g.cur,G0] w w3:=((f1.mono (by simp)).trans (f2.mono (by simp))).trans (Fr.upd u3 (by simp))
 have hcw2:=f2.blk hc1 (by simp [Ne.symm hGc,hcM])
 have sz:=f1.size;have hGs:G0<w.heap.size:=(Array.getElem?_eq_some_iff.1 hb).1;have hMs:M<w.heap.size:=(Array.getElem?_eq_some_iff.1 hM).1;have k3:Kp [M] w1 w3:=Kp.fr (f2.trans (Fr.upd u3 (by simp))) fun k hk=>by
  rcases List.mem_cons.1 hk with e | e
  ·exact .inr ⟨_,_,by rw [e];exact hb1⟩
  ·exact .inl e
 have hown:∀ k∈[M],kv.ownBlock≠some k:=fun k hk e=>by
  rw [List.mem_singleton.1 hk] at e;rcases hr1.2 with ⟨h1,_⟩ | ⟨ga,cap,cur,h1,h2,_⟩
  ·rw [h1] at e;cases e
  ·rw [h1] at e;injection e with e;have e2:ga=M:=e;omega
 have mv:b3L w G0 M g dc d (made p d.mv) P' b' kv w3:=⟨zo,zo,⟨(Tn.upd u3).blk hP2.hd zo,(Tn.upd u3).blk hP2.bd zo,.inl rfl⟩,k3.row hr1 zd hown,(Tn.upd u3).blk hcw2 (Ne.symm hGc),(Tn.upd u3).blk hM2 (Ne.symm hGM),u3.at_,f3⟩;refine o8 (hev _ _ _ _ mv) ?_;rintro e w4 ⟨rfl,hR⟩;refine ⟨_,rfl,?_⟩;refine zR ?_;exact ⟨rfl,_,_,_,_,mv,hR⟩
theorem a8O {l:List A3} {p:A3} {m0 m:Nat} {o0 o:Tx} (h:((m:Int),o)=X4 l p ((m0:Int),o0)) (h0:o0=a5e→m0=0):o=a5e→m=0:=by
 intro e;subst e;have hsd:a5e≠X2:=by decide
 have key:∀ {a:Int},((m:Int),a5e)=(a,X2)→False:=fun h=>hsd (congrArg Prod.snd h);have same:((m:Int),a5e)=((m0:Int),o0)→m=0:=fun h=>by
  have h1:=congrArg Prod.fst h;have h2:=h0 (congrArg Prod.snd h).symm;simp only at h1;omega
 unfold X4 at h;simp only at h;split at h
 ·split at h
  ·exact (key h).elim
  ·have:=congrArg Prod.snd h;unfold a1X at this;simp only at this;split at this<;>exact absurd this zd
 ·split at h
  ·exact same h
  ·split at h
   ·exact (key h).elim
   ·split at h
    ·exact (key h).elim
    ·split at h
     ·exact (key h).elim
     ·exact same h
theorem N2 {w:World} {k:Nat} {o:Obj} (h:w.heap[k]?=some o):k<w.heap.size:=(Array.getElem?_eq_some_iff.1 h).1
theorem J4 {w:World} {j k:Nat} {c1 c2:Array Value} {t1 t2:Nat} {f1 f2:Nat×Nat} (h1:w.heap[j]?=some (.cells c1 t1 f1)) (h2:w.heap[k]?=some (.cells c2 t2 f2)) (ht:t1≠t2):j≠k:=fun e=>by
 rw [e] at h1;exact ht (Obj.cells.inj (Option.some.inj (h1.symm.trans h2))).2.1
structure O4.lt (B:Nat) (n:O4):Prop where
 M:n.M<B
 P:n.P<B
 b:n.b<B
 cv:∀ k,n.cv.ownBlock=some k→k<B
 kids:∀ k,n.d.kids.ownBlock=some k→k<B
theorem O4.lt.off {B:Nat} {n:O4} {X:List Nat} (h:n.lt B) (hX:∀ k∈X,B≤k):n.off X :=
 ⟨fun hm=>by have:=hX _ hm;have:=h.M;omega,fun hm=>by have:=hX _ hm;have:=h.P;omega,fun hm=>by have:=hX _ hm;have:=h.b;omega,
  fun k hk e=>by have:=hX _ hk;have:=h.cv _ e;omega,fun k hk e=>by have:=hX _ hk;have:=h.kids _ e;omega⟩
theorem O4.off.two {n:O4} {a b:Nat} (h:n.off [a]) (h':n.off [b]):n.off [a,b]:=by
 have e:∀ {p:Nat→Prop},(∀ k∈[a],p k)→(∀ k∈[b],p k)→∀ k∈[a,b],p k:=fun h1 h2 k hk=>by
  rcases List.mem_cons.1 hk with e | hk
  ·exact h1 k (by rw [e];exact List.mem_singleton.2 rfl)
  ·exact h2 k hk
 have e2:∀ {x:Nat},x∉[a]→x∉[b]→x∉[a,b]:=fun h1 h2 hm=>by
  rcases List.mem_cons.1 hm with e | hm
  ·exact h1 (by rw [e];exact List.mem_singleton.2 rfl)
  ·exact h2 hm
 exact ⟨e2 h.M h'.M,e2 h.P h'.P,e2 h.b h'.b,e h.cv h'.cv,e h.kids h'.kids⟩
theorem O4.off_nil (n:O4):n.off []:=⟨by simp,by simp,by simp,by simp,by simp⟩
theorem H0.cvlt {w:World} {P b k:Nat} {p:A3} {cv:Value} (h:H0 w P b p cv) (hk:cv.ownBlock=some k):k<w.heap.size:=by
 rcases h.ca with e | hr
 ·rw [e] at hk;cases hk
 ·exact (hr.own hk).2
theorem Chn.lt {w:World}:∀ {l:List O4},Chn w l→∀ n∈l,n.lt w.heap.size
 | [],_,_,h=>by cases h
 | n::l,⟨h1,h2,h3,h4,h5⟩,x,hx=>by
  rcases List.mem_cons.1 hx with e | hx
  ·subst e;refine ⟨N2 h1,N2 h4.hd,N2 h4.bd,fun k hk=>h4.cvlt hk,fun k hk=>?_⟩;cases l with
   | nil =>
    have h3:x.d.kids = .slice none 0 0:=h3;rw [h3] at hk;cases hk
   | cons m r=>exact (Row.own (show Row 85 1 O8 0 w x.d.kids [m.M] from h3) hk).2
  ·exact Chn.lt h5 x hx
theorem Chn.last {w:World} {z:O4}:∀ {L:List O4},Chn w (L++[z])→w.heap[z.M]?=some (.cells (F0 z.d) 141 (0,0))∧z.d.pos = .pointer (some ⟨z.P,0,none⟩)∧H0 w z.P z.b z.p z.cv
 | [],⟨h1,h2,_,h4,_⟩=>⟨h1,h2,h4⟩
 | _::L,⟨_,_,_,_,h5⟩=>Chn.last h5
theorem Row.tnT {α:Type} {enc:α→List Value} {e z b0 b t:Nat} {w w':World} {v:Value} {l:List α} {cs:Array Value} {fz:Nat×Nat} (h:Row e z enc b0 w v l) (ht:Tn b w w') (hb:w.heap[b]?=some (.cells cs t fz)) (hne:e≠t):Row e z enc b0 w' v l:=by
 refine ⟨h.1,?_⟩;rcases h.2 with h2 | ⟨g,cap,cur,h1,h2,h3,h4⟩
 ·exact .inl h2
 ·exact .inr ⟨g,cap,cur,h1,h2,ht.blk h3 (J4 h3 hb hne),h4⟩
theorem Chn.recv {w w':World} {z:O4} {cv':Value} {A:Array Value} (ht:Tn z.P w w') (hz:w.heap[z.P]?=some (.cells A 173 (0,0))) (hp:H0 w' z.P z.b z.p cv') :
  ∀ {L:List O4},Chn w (L++[z])→(∀ n∈L,n.P≠z.P)→Chn w' (L++[{ z with cv:=cv' }])
 | [],⟨h1,h2,h3,h4,_⟩,_=>⟨ht.blk h1 (J4 h1 hz zd),h2,h3,hp,trivial⟩
 | n::L,⟨h1,h2,h3,h4,h5⟩,hd=>by
  refine ⟨ht.blk h1 (J4 h1 hz zd),h2,?_,⟨ht.blk h4.hd (hd n (List.mem_cons_self ..)),ht.blk h4.bd (J4 h4.bd hz zd),h4.ca.elim .inl fun h=>.inr (h.tnT ht hz zd)⟩,Chn.recv ht hz hp h5 fun x hx=>hd x (List.mem_cons_of_mem _ hx)⟩;cases L with
  | nil=>exact Row.tnT (show Row 85 1 O8 0 w n.d.kids [z.M] from h3) ht hz zd
  | cons m r=>exact Row.tnT (show Row 85 1 O8 0 w n.d.kids [m.M] from h3) ht hz zd
structure K3 (w:World) (G0:Nat) (g:Gm) (L:List O4) (z:O4):Prop where
 hb:w.heap[G0]?=some (.cells (gmA g) 131 (0,0))
 cur:g.cur=z.M
 pos:g.P=z.P
 root:∃ n l,L++[z]=n::l∧g.root=n.M
 chn:Chn w (L++[z])
 kids:z.d.kids = .slice none 0 0
 off:∀ n∈L,n.off [z.M]
 zcv:z.cv.ownBlock≠some z.M
 dis:∀ n∈L,n.P≠z.P
 mo:g.out=a5e→g.meth=0
section gameAt
variable {w w':World} {G0:Nat} {g:Gm} {L:List O4} {z:O4}
theorem K3.posM (h:K3 w G0 g L z):H0 w g.P z.b z.p z.cv:=by rw [h.pos];exact h.chn.last.2.2
theorem K3.node (h:K3 w G0 g L z):w.heap[z.M]?=some (.cells (F0 z.d) 141 (0,0)):=h.chn.last.1
theorem K3.step (h:K3 w G0 g L z) (c:Cl w w'):K3 w' G0 g L z:=⟨c.blk h.hb,h.cur,h.pos,h.root,h.chn.step c,h.kids,h.off,h.zcv,h.dis,h.mo⟩
theorem K3.recv (h:K3 w G0 g L z) {cv':Value} (ht:Tn z.P w w') (hp:H0 w' z.P z.b z.p cv') (ho:∀ k,cv'.ownBlock=some k→z.cv.ownBlock=some k∨w.heap.size≤k):K3 w' G0 g L { z with cv:=cv' }:=by
 have hz:=h.chn.last.2.2.hd;refine ⟨ht.blk h.hb (J4 h.hb hz zd),h.cur,h.pos,?_,Chn.recv ht hz hp h.chn h.dis,h.kids,h.off,fun e=>?_,h.dis,h.mo⟩
 ·obtain ⟨n,l,e,hr⟩:=h.root;cases L with
  | nil =>
   simp only [List.nil_append,List.cons.injEq] at e;exact ⟨_,_,rfl,by rw [hr,← e.1]⟩
  | cons m r =>
   simp only [List.cons_append,List.cons.injEq] at e;exact ⟨_,_,rfl,by rw [hr,← e.1]⟩
 ·rcases ho _ e with e | e
  ·exact h.zcv e
  ·have:=N2 h.node;exact absurd (show w.heap.size≤z.M from e) zo
end gameAt
def O4.led (z:O4) (kv:Value):O4:={ z with d:={ z.d with kids:=kv } }
theorem b29 {w:World} {G0 M O to:Nat} {fo:Nat×Nat} {g:Gm} {L:List O4} {z:O4} {d:Nd} (hT:C1 w) (h:K3 w G0 g L z) (hI:B7 z.p) (hN:a1z z.p) (hm:d.mv∈y8 z.p) (htg:(d.tags:Int)=a6V z.p d.mv) (hk:d.kids = .slice none 0 0)
  (hM:w.heap[M]?=some (.cells (F0 d) 141 (0,0))) (hoff:∀ n∈L++[z],n.off [M]) (hO:w.heap[O]?=some (.cells #[.bool false] to fo)) (hOM:O≠M) (hI':B7 (made z.p d.mv)) (hle':(z8 (made z.p d.mv)).length≤218)
  (hsuf:∀ b,c0Q (made z.p d.mv) b) (hJ:∀ n∈L++[z],B7 n.p) (hlen:L.length+2≤100000) :
  Calls G.P 102 #[.pointer (some ⟨G0,0,none⟩),.pointer (some ⟨M,0,none⟩),.pointer (some ⟨O,0,none⟩)] w (fun r w'=>r = .returned .nilIface∧∃ g' kv y,K3 w' G0 g' (L++[z.led kv]) y∧y.M=M∧y.d.mv=d.mv∧y.d.tags=d.tags
  ∧y.p=made z.p d.mv∧w.heap.size≤y.P∧y.cv = .slice none 0 0∧((g'.meth:Int),g'.out)=X4 ((L++[z]).map O4.p++[y.p]) y.p ((g.meth:Int),g.out)∧Fr [M,z.M,G0] w w'):=by
 have hz:z.off [M]:=hoff z (by simp)
 have hcur:=h.cur;have hpos:=h.pos;have hnode:w.heap[g.cur]?=some (.cells (F0 z.d) 141 (0,0)):=by rw [hcur];exact h.node
 have hP:=h.posM;have hcM:g.cur≠M:=fun e=>hz.M (by rw [← hcur,e];exact List.mem_singleton.2 rfl)
 have hzc:z.cv.ownBlock≠some g.cur:=by rw [hcur];exact h.zcv
 have hMl:=N2 hM;have hGl:=N2 h.hb;have hev:∀ P' b' kv w3,b3L w G0 M g z.d d (made z.p d.mv) P' b' kv w3→Calls G.P 138 #[.pointer (some ⟨G0,0,none⟩)] w3 (fun r w'=>r = .returned (.tuple #[]) ∧
   ∃ g' y,K3 w' G0 g' (L++[z.led kv]) y∧y.M=M∧y.d.mv=d.mv∧y.d.tags=d.tags∧y.p=made z.p d.mv∧w.heap.size≤y.P∧y.cv = .slice none 0 0∧((g'.meth:Int),g'.out)=X4 ((L++[z]).map O4.p++[y.p]) y.p ((g.meth:Int),g.out)∧Fr [M,z.M,G0] w w'):=by
  intro P' b' kv w3 mv;have sP:=mv.P;have sb:=mv.b;obtain ⟨y,hy⟩:∃ y:O4,y=⟨M,{ d with par:=.pointer (some ⟨g.cur,0,none⟩),pos:=.pointer (some ⟨P',0,none⟩) },P',b',made z.p d.mv,.slice none 0 0⟩:=⟨_,rfl⟩;have hyM:y.M=M:=by rw [hy]
  have hyP:y.P=P':=by rw [hy]
  have hyp:y.p=made z.p d.mv:=by rw [hy]
  have hykid:y.d.kids = .slice none 0 0:=by rw [hy];exact hk
  have hnew:Chn w3 [y]:=by rw [hy];exact ⟨mv.new,rfl,hk,mv.pos,trivial⟩
  have k3:Kp [z.M,y.M] w w3:=Kp.fr mv.fr fun k hk=>by
   rw [hyM,← hcur];simp only [List.mem_cons,List.not_mem_nil,or_false] at hk ⊢;rcases hk with e | e | e
   ·exact .inl (.inr e)
   ·exact .inl (.inl e)
   ·exact .inr ⟨_,_,by rw [e];exact h.hb⟩
  have hoffL:∀ n∈L,n.off [z.M,y.M]:=fun n hn=>(h.off n hn).two (by rw [hyM];exact hoff n (List.mem_append_left _ hn))
  have hne2:∀ {a:Nat},a≠z.M→a∉[M]→a∉[z.M,y.M]:=fun h1 h2 hm=>by
   rw [hyM] at hm;rcases List.mem_cons.1 hm with e | e
   ·exact h1 e
   ·exact h2 e
  have hPm:=h.chn.last.2.2;have hch:Chn w3 (L++[z.led kv,y]):=Chn.snoc k3 h.chn hoffL (hne2 (J4 hPm.hd h.node zd) hz.P) (hne2 (J4 hPm.bd h.node zd) hz.b)
   (fun k hk=>by
    rw [hyM] at hk;rcases List.mem_cons.1 hk with e | e
    ·rw [e];exact h.zcv
    ·exact hz.cv k e)
   (by rw [← hcur];exact mv.cur) (by rw [hyM];exact mv.row.mono (Nat.zero_le _)) hnew
  have hroot:∃ n l,L++[z.led kv,y]=n::l∧g.root=n.M:=by
   obtain ⟨n,l,e,hr⟩:=h.root;cases L with
   | nil =>
    simp only [List.nil_append,List.cons.injEq] at e;exact ⟨_,_,rfl,by rw [hr,← e.1];rfl⟩
   | cons m r =>
    simp only [List.cons_append,List.cons.injEq] at e;exact ⟨_,_,rfl,by rw [hr,← e.1]⟩
  obtain ⟨n,l,enl,hrt⟩:=hroot;have hpos':(L++[z.led kv,y]).map O4.p=(L++[z]).map O4.p++[y.p]:=by simp [O4.led]
  have hT3:C1 w3:=hT.fr mv.fr fun k hk cs t fz hh=>by
   simp only [List.mem_cons,List.not_mem_nil,or_false] at hk;rcases hk with e | e | e
   ·rw [e] at hh;rw [← (Obj.cells.inj (Option.some.inj (hM.symm.trans hh))).2.1];decide
   ·rw [e] at hh;rw [← (Obj.cells.inj (Option.some.inj (hnode.symm.trans hh))).2.1];decide
   ·rw [e] at hh;rw [← (Obj.cells.inj (Option.some.inj (h.hb.symm.trans hh))).2.1];decide
  have hlen':(n::l).length≤100000:=by rw [← enl];simp;omega
  have hJ':∀ x∈n::l,B7 x.p:=fun x hx=>by
   rw [← enl] at hx;rcases List.mem_append.1 hx with hx | hx
   ·exact hJ x (List.mem_append_left _ hx)
   ·simp only [List.mem_cons,List.not_mem_nil,or_false] at hx;rcases hx with e | e
    ·rw [e];exact hJ z (by simp)
    ·rw [e,hyp];exact hI'
  have hch2:=hch;rw [enl] at hch;have H:=a8N (p:=made z.p d.mv) (g:={ g with P:=P',cur:=M }) (G0:=G0) (b:=b') (cv:=.slice none 0 0) hI' hle' (hsuf b') hlen' hJ' w3 hT3 mv.game hrt hch mv.pos (by show P'≠G0;omega) zo h.mo
  refine H.mono fun r w' hr=>?_;obtain ⟨hr,m',o',hend,hgb,hfr⟩:=hr;rw [← enl,hpos',hyp] at hend;have kG:Kp [] w3 w':=Kp.fr hfr fun k hk=>by rw [List.mem_singleton.1 hk];exact .inr ⟨_,_,mv.game⟩
  have hlt:=h.chn.lt;refine ⟨hr,{ g with P:=P',cur:=M,out:=o',meth:=m' },y,⟨hgb,hyM.symm,hyP.symm,?_,?_,hykid,?_,?_,?_,?_⟩,hyM,by rw [hy],by rw [hy],hyp,by rw [hyP];exact sP,by rw [hy],by rw [hyp];exact hend,?_⟩
  ·exact ⟨n,l,by rw [List.append_assoc];exact enl,hrt⟩
  ·rw [List.append_assoc];exact Chn.kp kG hch2 fun n _=>n.off_nil
  ·intro x hx;rw [hyM];rcases List.mem_append.1 hx with hx | hx
   ·exact hoff x (List.mem_append_left _ hx)
   ·rw [List.mem_singleton.1 hx];refine ⟨hz.M,hz.P,hz.b,hz.cv,fun k hk e=>?_⟩;have:=(mv.row.own e).1;rw [List.mem_singleton.1 hk] at this;omega
  ·rw [hy];intro e;cases e
  ·intro x hx;rw [hyP];rcases List.mem_append.1 hx with hx | hx
   ·have:=(hlt x (List.mem_append_left _ hx)).P;omega
   ·rw [List.mem_singleton.1 hx];have:z.P<w.heap.size:=(hlt z (by simp)).P
    show z.P≠P';omega
  ·exact a8O hend h.mo
  ·rw [← hcur];exact mv.fr.trans (hfr.mono (by simp))
 refine Go.Calls.mono (b6W hI hN hm htg w hT hP h.hb hnode h.kids hM hO hcM ?_ ?_ ?_ ?_ ?_ hOM hev) ?_
 ·intro e;exact hz.P (by rw [← hpos,e];exact List.mem_singleton.2 rfl)
 ·exact J4 hP.hd hnode zd
 ·intro e;exact hz.b (by rw [e];exact List.mem_singleton.2 rfl)
 ·exact J4 hP.bd hnode zd
 ·intro k hk;rcases List.mem_cons.1 hk with e | e
  ·rw [e];exact hz.cv M (List.mem_singleton.2 rfl)
  ·rw [List.mem_singleton.1 e];exact hzc
 ·rintro r w' ⟨hr,P',b',kv,w3,mv,g',y,hh⟩;exact ⟨hr,g',kv,y,hh⟩
end
end Go.Proofs.YtpclhlhcegcflaaGreatDoor
