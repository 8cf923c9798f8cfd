/- One part of the proof: Sp29 Sp30 Sp31 Pk46 Pk47. -/
import Derived.Test.YtpclhlhcegcflaaGreatDoorM1
import Derived.Test.YtpclhlhcegcflaaGreatDoorM3
import Derived.Test.YtpclhlhcegcflaaGreatDoorM25
namespace Go.Proofs.YtpclhlhcegcflaaGreatDoor
set_option maxRecDepth 100000
set_option linter.unusedSimpArgs false
set_option linter.unusedVariables false
section
open Go Go.RowKit
open E
def a6j (u v:Value):Prop:=∀ g,u.ownBlock=some g→v.ownBlock≠some g
theorem b5e (v:Value):a6j (.slice none 0 0) v:=fun g h=>by cases h
theorem a6j.symm {u v:Value} (h:a6j u v):a6j v u:=fun g h1 h2=>h g h2 h1
theorem Row.keepG {α:Type} {e z b0 b1:Nat} {enc:α→List Value} {w w':World} {u v v':Value} {l:List α} (h:Row e z enc b1 w u l) (hg:a8b b0 w v w' v') (hne:a6j u v):Row e z enc b1 w' u l∧a6j u v':=by
 rcases h.2 with ⟨e1,e2⟩ | ⟨g,cap,cur,e1,e2,e3,e4⟩
 ·subst e1;exact ⟨⟨h.1,.inl ⟨rfl,e2⟩⟩,fun g hg=>by cases hg⟩
 ·subst e1;have hn:=hne g rfl;refine ⟨⟨h.1,.inr ⟨g,cap,cur,rfl,e2,hg.keep _ _ e3 hn,e4⟩⟩,fun g' hg'=>?_⟩;injection hg' with hg';subst hg';exact hg.ne (Array.getElem?_eq_some_iff.1 e3).1 hn
theorem a6G {p:A3} (hI:Ch.B7 p) (hN:a1z p):a4b p:=by
 have he:=Ch.I4 hI.pass;have ht:=hI.turn;have:=hI.c0;have:=hI.c1;have:=hI.h0;have:=hI.f1;have:=hN.1;have:=hN.2;refine ⟨fun x hx=>?_,⟨zo,zo⟩,⟨zo,zo⟩,⟨zo,zo⟩,⟨zo,zo⟩,⟨zo,zo⟩⟩;obtain ⟨i,hi,rfl⟩:=List.mem_iff_getElem.1 hx;have:Ch.sq p (i:Int)=p.board[i]:=by
  unfold Ch.sq;rw [Int.toNat_natCast,List.getD_eq_getElem?_getD,List.getElem?_eq_getElem hi];rfl
 have h2:=hI.pc (i:Int);rw [this] at h2;exact ⟨zo,zo⟩
theorem a2z (l:List A3) (p:A3) (mo:Int×Tx) (m:Mv) (r:List Mv):Ch.story l p mo (m::r)=if Ch.G6 p m then
   Ch.a7Y p m (Ch.X4 (l++[Ch.made p m]) (Ch.made p m) mo)::Ch.story (l++[Ch.made p m]) (Ch.made p m) (Ch.X4 (l++[Ch.made p m]) (Ch.made p m) mo) r else []:=rfl
theorem b3V (p:A3) (hI:Ch.B7 p) (hN:Ng p 0) (looked:Bool) (ms:List Mv) (hms:∀ m∈ms,MvR m) (hn:ms.length≤90000) {v:Value} (w:World) (hrow:a2a w v ms) :
  Calls G.P 13 #[C4 p,.bool looked,v] w (fun r w'=>∃ v,r = .returned v∧Row 39 81 stL w.heap.size w' v (Ch.storyOf p looked ms)∧Cl w w'):=by
 obtain ⟨al,cl,rfl,hal⟩:=hrow.form;obtain ⟨zp,hzp,hz69⟩:=b1P;refine zN Tryz.func13 ?_;refine zG ?_;generalize hW:w.alloc (.cells (o9 p) 24)=W0;have hP0:W0.heap[w.heap.size]?=some (.cells (o9 p) 24 (0,0)):=by rw [← hW];exact q8 _ _
 have hE:Cl w W0:=by rw [← hW];exact Cl.alloc _ _
 clear hW;refine zR ?_;refine d7 _ (y7 hP0) (zR ?_);refine E6 b0x [C4 p] (by rw [Array.toList_map];rfl) (by simp [C4,Value.cells,r7]) rfl zd zd ?_
 have hr:=(H9 T6 W0 [p] (by simp) [C4 p] (by simp [C4,Value.cells,o9]) (e:=24) (z:=69)).mono hE.size
 have c1:=hE.trans (Cl.alloc W0 (.cells (([C4 p]:List Value).flatMap fun v=>v.cells.toList).toArray 24));generalize W0.alloc (.cells (([C4 p]:List Value).flatMap fun v=>v.cells.toList).toArray 24)=w1 at *;generalize W0.heap.size=B1 at *;have hmo0:Ch.storyOf p looked ms=Ch.story [p] p (if looked then Ch.X4 [p] p (0,Ch.a5e) else (0,Ch.a5e)) ms:=rfl
 have hnm0:=(hN.nm zo).nums;refine zG ?_;refine Nx.mk (zG ?_);refine A4 (σ:=Unit) [9,10,15,16,17,18,19,20,21,22] 23 (fun _=>[(9,.int .i64 (if looked then Ch.X4 [p] p (0,Ch.a5e) else (0,Ch.a5e)).1),(10,s8 (if looked then Ch.X4 [p] p (0,Ch.a5e) else (0,Ch.a5e)).2)]) (fun _ w'=>Cl w1 w') zk ?_ (fun _ j w2 c2=>?_)
 ·cases looked
  ·refine zR ?_;exact ⟨(),⟨rfl,rfl,trivial⟩,Cl.refl _⟩
  ·have hEnd:=b0D [p] p (fun x hx=>by rw [List.mem_singleton.1 hx];exact a6G hI hnm0) rfl (by simp) hI hnm0 0 Ch.a5e w1 hr
   generalize Ch.X4 [p] p (0,Ch.a5e)=R at *;refine zR ?_;refine m9 hEnd fun w2 c2=>zR ?_;exact ⟨(),⟨rfl,rfl,trivial⟩,c2⟩
 generalize (if looked then Ch.X4 [p] p (0,Ch.a5e) else (0,Ch.a5e))=mo0 at *
 have hr2:=hr.step c2;refine zR ?_;refine A9 (σ:=Nat×List Ch.a0A×List A3×A3×(Int×Tx)×Value×Value) [6,7,8,9,10,11,12] 13 (fun a=>[(7,a.2.2.2.2.2.1),(8,a.2.2.2.2.2.2),(9,.int .i64 a.2.2.2.2.1.1),(10,s8 a.2.2.2.2.1.2),(11,.int .i64 a.1)])
  (fun a w'=>a.1≤ms.length∧Ch.storyOf p looked ms=a.2.1++Ch.story a.2.2.1 a.2.2.2.1 a.2.2.2.2.1 (ms.drop a.1)∧a.2.1.length=a.1∧a.2.2.1.length=a.1+1∧a.2.2.1.getLast?=some a.2.2.2.1∧(∀ q∈a.2.2.1,a4b q)∧Ch.B7 a.2.2.2.1∧Ng a.2.2.2.1 a.1 ∧
   Row 39 81 stL w.heap.size w' a.2.2.2.2.2.1 a.2.1∧Row 24 69 X0 w.heap.size w' a.2.2.2.2.2.2 a.2.2.1∧a6j a.2.2.2.2.2.1 a.2.2.2.2.2.2∧Cl w w') (fun a=>ms.length-a.1) zk (0,[],[p],p,mo0,.slice none 0 0,.slice (some ⟨B1,0,none⟩) 1 1)
  ⟨by simp,by rw [hmo0];rfl,rfl,rfl,rfl,fun x hx=>by rw [List.mem_singleton.1 hx];exact a6G hI hnm0,hI,hN,Row.nil _ _,hr2,b5e _,c1.trans c2⟩ ⟨rfl,rfl,rfl,rfl,rfl,trivial⟩ ?_
 rintro ⟨i,O,L,q,⟨me,ou⟩,vo,vl⟩ j3 w3 ⟨hi,hst,hOl,hLl,hLq,hLr,hIq,hNq,hro,hrl,hap,hcl⟩;simp only at hi hst hOl hLl hLq hLr hIq hNq hro hrl hap ⊢;clear hr2 hr hP0 c1 c2 hmo0 hE;have hnm:=hNq.nm zo;obtain ⟨ao,co,rfl,hao⟩:=hro.form;obtain ⟨al2,cl2,rfl,hal2⟩:=hrl.form;obtain ⟨gl,rfl⟩:=hal2 zo;refine zR ?_;apply E.b7<;>intro h
 ·have hil:i<ms.length:=by omega
  clear h;obtain ⟨g,o,rfl⟩:=hal zo;have ni:IntKind.i64.wrap ((i:Int)+1)=((i+1:Nat):Int):=by rw [g7 zo zo];push_cast;omega
  rw [List.drop_eq_getElem_cons hil] at hst;rw [a2z] at hst;have hmr:=hms _ (List.getElem_mem hil);have hld:∀ w',Cl w w'→l8 G.P w' 36 ⟨g,E.W6 o ((i:Int)).toNat 3,none⟩ (G5 ms[i]):=fun w' h'=>(hrow.step h').ld i hil;generalize ms[i]=m at *;have hlast:L[L.length-1]'zo=q:=by
   rw [List.getLast?_eq_getElem?,List.getElem?_eq_getElem zo] at hLq;exact Option.some.inj hLq
  have hlm:IntKind.i64.wrap ((L.length:Int)-1)=((L.length-1:Nat):Int):=by rw [g7 zo zo];omega
  refine zR ?_;refine zC ?_;refine zR ?_;refine d7 (C4 q) (a2n hrl T6 (L.length-1) zo rfl ?_ (by rw [hlast];rfl)) ?_
  ·simp [E.z6,hlm]
  refine zR ?_;refine t7 zp hzp (zR ?_);refine J6 (q8 _ _) (X0 q) rfl a13 (B6 _) (one_pos _) (by rw [hz69];omega) (fun w4 u4=>?_)
  have hQ:w4.heap[w3.heap.size]?=some (.cells (o9 q) 24 (0,0)):=by
   rw [u4.at_,C5 _ _ (by rw [B6,hz69])];rfl
  have c34:Cl w3 w4:=u4.cl (Cl.alloc _ _) (Nat.le_refl _);clear u4;have hLegal:∀ w,Calls G.P 26 #[C4 q,G5 m] w (K4 (.bool (Ch.G6 q m)) w):=fun w=>c1y q hIq hnm.nums m hmr w;refine zR ?_;refine zK 7 ?_;refine zR ?_;refine g9 _ (fun w hw=>y7 (hw.blk hQ)) (zR ?_);refine zC ?_;refine zR ?_;refine g9 (G5 m) (fun w hw=>hld w (hcl.trans (c34.trans hw))) (zR ?_);refine C7 (.bool (Ch.G6 q m)) (fun _ _ h=>h.trans) (fun w _=>hLegal w) (zR ?_);intro w5 c5;have c35:=c34.trans c5;have hQ5:=c5.blk hQ;have hro5:=hro.step c35;have hrl5:=hrl.step c35;have hcl5:=hcl.trans c35;generalize hlb:Ch.G6 q m=lb at *;refine zR ?_;cases lb
  ·refine zR ?_;refine ⟨_,rfl,?_,hcl5⟩;rw [hst];simp only [Bool.false_eq_true,if_false,List.append_nil];exact hro5
  ·have hmem:m∈Ch.y8 q:=of_decide_eq_true hlb;have hmo:=a0x hIq hmem;have hI2:=Ch.B7.made hIq hmem;have hN2:=hNq.made hIq m;have hMade:∀ w,Calls G.P 39 #[C4 q,G5 m] w (K4 (C4 (Ch.made q m)) w):=fun w=>a5l q m hIq.pc hmo hIq.turn hIq.c0 hIq.c1 hIq.h0 hnm.nums.1 (by have:=hIq.f1;omega) hnm.nums.2 w
   have hStep:=fun me ou w=>b7m q hIq hnm m hmem me ou w;have hrR:a4b (Ch.made q m):=a6G hI2 (hN2.nm zo).nums;simp only [if_true] at hst;have hL2:∀ x∈L++[Ch.made q m],a4b x:=fun x hx=>by
    rcases List.mem_append.1 hx with hx | hx
    ·exact hLr x hx
    ·rw [List.mem_singleton.1 hx];exact hrR
   have hL2n:(L++[Ch.made q m]).length=i+2:=by rw [List.length_append,hLl];rfl
   have hL2q:(L++[Ch.made q m]).getLast?=some (Ch.made q m):=by simp
   generalize Ch.made q m=q2 at *;refine zG ?_;refine A4 (σ:=Value) [8,43,44,45,46,47,48,49,50,51] 52 (fun v=>[(8,v)]) (fun v w'=>Row 24 69 X0 w.heap.size w' v (L++[q2])∧Row 39 81 stL w.heap.size w' (.slice ao O.length co) O∧a6j (.slice ao O.length co) v∧w'.heap[w3.heap.size]?=some (.cells (o9 q) 24 (0,0))∧Cl w w') zk ?_ (fun v7 j7 w7 hh7=>?_)
   ·refine zR ?_;refine I8.mk2 [0,2,3,4] (.cons 1 (.cons 5 (.cons 6 (.cons 7 (.cons 8 (.cons 9 .done .nil) .nil) .nil) .nil) .nil) (.cons 5 (.cons 1 (.cons 6 (.cons 7 (.cons 8 (.cons 9 .done .nil) .nil) .nil) .nil) .nil) .nil)) zk (zR ?_);refine zC ?_;refine zR ?_;have cd:Cl w5 w5.drew:=Cl.drew (Cl.refl _);refine And.intro ?_ (And.intro ?_ trivial)
    ·refine zR ?_;refine d7 _ (y7 (cd.blk hQ5)) (zE ?_);refine d7 (G5 m) (hld _ (hcl5.trans cd)) (zE ?_);refine m9 (hMade _) fun w6 c6=>?_;have hro6:=hro5.step (cd.trans c6);have hrl6:=hrl5.step (cd.trans c6);have hcl6:=hcl5.trans (cd.trans c6);have hQ6:=(cd.trans c6).blk hQ5;refine zE ?_;refine E6 b0x [C4 q2] (by rw [Array.toList_map];rfl) (by simp [C4,Value.cells,r7]) rfl zd zd (zE ?_)
     refine P3 b0x q2 rfl hrl6 rfl rfl (by simp [C4,Value.cells,o9]) T6 one_pos zo zd hcl6.size ?_
     intro v7 w7 hrl7 hg7;have hcl7:=hg7.cl w rfl hcl6;obtain ⟨hro7,hap7⟩:=hro6.keepG hg7 hap;have hQ7:w7.heap[w3.heap.size]?=some (.cells (o9 q) 24 (0,0)):=hg7.keep _ _ hQ6 (by
      intro e;injection e with e;have h1:=(hrl.lt).2;have:gl=w3.heap.size:=e;omega)
     obtain ⟨al7,cl7,rfl,hal7⟩:=hrl7.form;refine zE ?_;exact ⟨_,⟨rfl,trivial⟩,hrl7,hro7,hap7,hQ7,hcl7⟩
    ·refine zR ?_;refine d7 (G5 m) (hld _ (hcl5.trans cd)) (zE ?_);refine d7 _ (y7 (cd.blk hQ5)) (zE ?_);refine m9 (hMade _) fun w6 c6=>?_;have hro6:=hro5.step (cd.trans c6);have hrl6:=hrl5.step (cd.trans c6);have hcl6:=hcl5.trans (cd.trans c6);have hQ6:=(cd.trans c6).blk hQ5;refine zE ?_;refine E6 b0x [C4 q2] (by rw [Array.toList_map];rfl) (by simp [C4,Value.cells,r7]) rfl zd zd (zE ?_)
     refine P3 b0x q2 rfl hrl6 rfl rfl (by simp [C4,Value.cells,o9]) T6 one_pos zo zd hcl6.size ?_
     intro v7 w7 hrl7 hg7;have hcl7:=hg7.cl w rfl hcl6;obtain ⟨hro7,hap7⟩:=hro6.keepG hg7 hap;have hQ7:w7.heap[w3.heap.size]?=some (.cells (o9 q) 24 (0,0)):=hg7.keep _ _ hQ6 (by
      intro e;injection e with e;have h1:=(hrl.lt).2;have:gl=w3.heap.size:=e;omega)
     obtain ⟨al7,cl7,rfl,hal7⟩:=hrl7.form;refine zE ?_;exact ⟨_,⟨rfl,trivial⟩,hrl7,hro7,hap7,hQ7,hcl7⟩
   obtain ⟨hrl7,hro7,hap7,hQ7,hcl7⟩:=hh7;obtain ⟨al7,cl7,rfl,hal7⟩:=hrl7.form;obtain ⟨gl7,rfl⟩:=hal7 zo;have hEnd:=b0D (L++[q2]) q2 hL2 hL2q zo hI2 (hN2.nm zo).nums me ou w7 hrl7;generalize Ch.X4 (L++[q2]) q2 (me,ou)=R at *;obtain ⟨me2,ou2⟩:=R;refine zR ?_;refine m9 hEnd fun w8 c8=>?_;have hro8:=hro7.step c8;have hrl8:=hrl7.step c8;have hcl8:=hcl7.trans c8;have hQ8:=c8.blk hQ7;have hStep:=fun w=>hStep me2 ou2 w;generalize hSS:Ch.a7Y q m (me2,ou2)=S at *;refine zR ?_;refine I8.mk2 [0,2,3,4,6,7] (.cons 1 (.cons 5 (.cons 8 (.cons 9 (.cons 10 (.cons 11 .done .nil) .nil) .nil) .nil) .nil) (.cons 5 (.cons 1 (.cons 8 (.cons 9 (.cons 10 (.cons 11 .done .nil) .nil) .nil) .nil) .nil) .nil)) zk (zR ?_);refine zC ?_;refine zR ?_;have cd:Cl w8 w8.drew:=Cl.drew (Cl.refl _);refine And.intro ?_ (And.intro ?_ trivial)
   ·refine zR ?_;refine d7 _ (y7 (cd.blk hQ8)) (zE ?_);refine d7 (G5 m) (hld _ (hcl8.trans cd)) (zE ?_);refine m9 (hStep _) fun w9 c9=>?_;have hro9:=hro8.step (cd.trans c9);have hrl9:=hrl8.step (cd.trans c9);have hcl9:=hcl8.trans (cd.trans c9);refine zE ?_;refine E6 a8d [stV S] (by rw [Array.toList_map];rfl) (by simp [stV,Value.cells,U8]) rfl zd zd (zE ?_)
    refine P3 a8d S rfl hro9 rfl rfl (by simp [stV,Value.cells]) U8 a4g zo zd hcl9.size ?_
    intro v10 w10 hro10 hg10;have hcl10:=hg10.cl w rfl hcl9;obtain ⟨hrl10,hap10⟩:=hrl9.keepG hg10 hap7.symm;obtain ⟨ao10,co10,rfl,hao10⟩:=hro10.form;refine zE ?_;exact ⟨(i+1,O++[S],L++[q2],q2,(me2,ou2),_,_),⟨rfl,rfl,rfl,rfl,m7 ni,trivial⟩,
     ⟨by simp;omega,by rw [hst];simp,by simp [hOl],by simp [hLl],hL2q,hL2,hI2,hN2,hro10,hrl10,hap10.symm,hcl10⟩,by simp;omega⟩
   ·refine zR ?_;refine d7 (G5 m) (hld _ (hcl8.trans cd)) (zE ?_);refine d7 _ (y7 (cd.blk hQ8)) (zE ?_);refine m9 (hStep _) fun w9 c9=>?_;have hro9:=hro8.step (cd.trans c9);have hrl9:=hrl8.step (cd.trans c9);have hcl9:=hcl8.trans (cd.trans c9);refine zE ?_;refine E6 a8d [stV S] (by rw [Array.toList_map];rfl) (by simp [stV,Value.cells,U8]) rfl zd zd (zE ?_)
    refine P3 a8d S rfl hro9 rfl rfl (by simp [stV,Value.cells]) U8 a4g zo zd hcl9.size ?_
    intro v10 w10 hro10 hg10;have hcl10:=hg10.cl w rfl hcl9;obtain ⟨hrl10,hap10⟩:=hrl9.keepG hg10 hap7.symm;obtain ⟨ao10,co10,rfl,hao10⟩:=hro10.form;refine zE ?_;exact ⟨(i+1,O++[S],L++[q2],q2,(me2,ou2),_,_),⟨rfl,rfl,rfl,rfl,m7 ni,trivial⟩,
     ⟨by simp;omega,by rw [hst];simp,by simp [hOl],by simp [hLl],hL2q,hL2,hI2,hN2,hro10,hrl10,hap10.symm,hcl10⟩,by simp;omega⟩
 ·have hil:i=ms.length:=by omega
  subst hil;rw [List.drop_length] at hst;refine zR ?_;refine ⟨_,rfl,?_,hcl⟩;rw [hst];show Row _ _ _ _ _ _ (O++[]);rw [List.append_nil];exact hro
def firstL:List Int:=[3,5,4,2,1,4,5,3]
def c2t (i:Nat):Int:=firstL.getD i 0
def sqS (f i:Nat):Int:=if i%8<f then (if i/8=0 then c2t (i%8) else if i/8=1 then 6 else if i/8=6 then 12 else if i/8=7 then c2t (i%8)+6 else 0) else 0
def b9e (f:Nat):A3:=⟨(List.range 64).map (sqS f),by simp,0,15,-1,0,1⟩
def a22:A3:=b9e 8
theorem c46:∀ f<8,(Ch.put (Ch.put (Ch.put (Ch.put (b9e f) f (c2t f)) (8+f) 6) (48+f) 12) (56+f) (c2t f+6)).board=(b9e (f+1)).board:=by decide
theorem c53 {p q:A3} (h:p.board=q.board) (h1:p.turn=q.turn) (h2:p.castle=q.castle) (h3:p.ep=q.ep) (h4:p.half=q.half) (h5:p.full=q.full):p=q:=by
 cases p;cases q;simp_all
theorem c4b (f:Nat) (h:f<8):Ch.put (Ch.put (Ch.put (Ch.put (b9e f) f (c2t f)) (8+f) 6) (48+f) 12) (56+f) (c2t f+6)=b9e (f+1) :=
 c53 (c46 f h) rfl rfl rfl rfl rfl
theorem c5S:∀ f<8,0≤c2t f∧c2t f≤6:=by decide
def b8r:Array Value:=(firstL.map (Value.int .i64)).toArray
theorem c4s {w:World} {b u:Nat} {fz:Nat×Nat} (hb:w.heap[b]?=some (.cells b8r u fz)) (i:Nat) (h:i<8) {o:Nat} (ho:o=i):l8 G.P w 3 ⟨b,o,none⟩ (.int .i64 (c2t i)):=by
 rw [ho];refine W1 hb ?_ rfl;have:i=0∨i=1∨i=2∨i=3∨i=4∨i=5∨i=6∨i=7:=by omega
 rcases this with rfl | rfl | rfl | rfl | rfl | rfl | rfl | rfl<;>rfl
theorem c64:∃ z,(G.P.info? 111).bind (·.zero)=some z∧z.cells.size=8:=a0H zk
theorem c6m:(G.P.info? 111).map (·.size)=some 8:=by kernel_rfl
theorem c1j (f r:Int) (h0:0≤f) (h1:f≤7) (h2:0≤r) (h3:r≤7):Ch.H2 f r=8*r+f:=by unfold Ch.H2;rw [if_neg zo]
theorem c54 (w:World):Calls G.P 35 #[] w (K4 (C4 a22) w):=by
 obtain ⟨zp,hzp,hz69⟩:=b1P;obtain ⟨zf,hzf,hz8⟩:=c64;refine zN Tryz.func35 ?_;refine zG ?_;refine t7 zp hzp ?_;have hB0:(w.alloc (.cells zp.cells 24)).heap[w.heap.size]?=some (.cells zp.cells 24 (0,0)):=q8 _ _;have c1:Cl w (w.alloc (.cells zp.cells 24)):=Cl.alloc _ _;generalize w.alloc (.cells zp.cells 24)=w1 at *;refine zR ?_;refine s9 (o9 (b9e 0)) zk (zR ?_);refine t7 zp hzp (zR ?_);refine J6 (q8 _ _) (X0 (b9e 0)) rfl a13 (B6 _) (one_pos _) (by rw [hz69];omega) (fun w2 u2=>?_)
 have hQ2:w2.heap[w1.heap.size]?=some (.cells (o9 (b9e 0)) 24 (0,0)):=by
  rw [u2.at_,C5 _ _ (by rw [B6,hz69])];rfl
 have c2:Cl w1 w2:=u2.cl (Cl.alloc _ _) (Nat.le_refl _);clear u2;have hB2:=c2.blk hB0;refine zR ?_;refine s9 b8r zk (zR ?_);refine t7 zf hzf (zR ?_);refine J6 (q8 _ _) (firstL.map (Value.int .i64)) rfl c6m rfl zd (by rw [hz8];decide) (fun w3 u3=>?_)
 have hF3:w3.heap[w2.heap.size]?=some (.cells b8r 111 (0,0)):=by
  rw [u3.at_,C5 _ _ (by rw [hz8];rfl)];rfl
 have c3:Cl w2 w3:=u3.cl (Cl.alloc _ _) (Nat.le_refl _);clear u3;have hQ3:=c3.blk hQ2;have hb1:w.heap.size<w1.heap.size:=(Array.getElem?_eq_some_iff.1 hB0).1;have hb2:w1.heap.size<w2.heap.size:=(Array.getElem?_eq_some_iff.1 hQ2).1;have hB3:=c3.blk hB2;have c13:=c1.trans (c2.trans c3);refine zR ?_;refine A9 (σ:=Nat) [3] 4 (fun a=>[(3,.int .i64 a)]) (fun a w'=>a≤8∧w'.heap[w1.heap.size]?=some (.cells (o9 (b9e a)) 24 (0,0))∧w'.heap[w2.heap.size]?=some (.cells b8r 111 (0,0))∧w'.heap[w.heap.size]?=some (.cells zp.cells 24 (0,0))∧Cl w w') (fun a=>8-a) zk 0
  ⟨zo,hQ3,hF3,hB3,c13⟩ ⟨rfl,trivial⟩ ?_
 clear hQ3 hF3 hB3 c13 hQ2 hB2 hB0;rintro f j w4 ⟨hf,hQ,hF,hB,hcl⟩;refine zR ?_;apply E.b7<;>intro h
 ·have hf8:f<8:=by omega
  clear h;have nf:IntKind.i64.wrap ((f:Int)+1)=((f+1:Nat):Int):=by rw [g7 zo zo];push_cast;omega
  have hfb:=c5S f hf8;have hss:=c4b f hf8;refine zG ?_;refine Nx.mk ?_;refine E.a9f ?_;refine E.b0e ?_;refine (A4 (σ:=Unit) [10,11,12,13,14,15,16,17] 18 (fun _=>[]) (fun _ w'=>w'.heap[w1.heap.size]?=some (.cells (o9 (Ch.put (b9e f) f (c2t f))) 24 (0,0))∧w'.heap[w2.heap.size]?=some (.cells b8r 111 (0,0))∧w'.heap[w.heap.size]?=some (.cells zp.cells 24 (0,0))∧Cl w w') zk ?_ (fun _ j5 w5 h5=>?_)).go
  ·refine zR ?_;refine I8.mk2 [0,2,3,6] (.cons 1 (.cons 4 (.cons 5 (.cons 7 (.cons 8 .done .nil) .nil) .nil) .nil) (.cons 4 (.cons 1 (.cons 5 (.cons 7 (.cons 8 .done .nil) .nil) .nil) .nil) .nil)) zk (zR ?_);refine zC ?_;refine zR ?_;have cd:Cl w4 w4.drew:=Cl.drew (Cl.refl _);refine And.intro ?_ (And.intro ?_ trivial)
   ·refine zR ?_;refine d9 (a5k f 0 _ zo zo zo zo) ?_;rw [c1j f 0 zo zo zo zo];refine zE ?_;refine d7 _ (c4s (cd.blk hF) f hf8 (by simp [E.z6])) (zE ?_)
    refine d9 (a8a (c2t f) 0 _ zo zo zo zo) (zE ?_);refine zC ?_;refine zE ?_;refine J6 (cd.blk hQ) [.int .i64 (c2t f+6*0)] rfl N8 rfl (by simp [Value.oneCell']) (by rw [r7,E.z6];show 0+_*1+1≤69;omega) (fun w9 u9=>zR ?_)
    refine ⟨(),trivial,?_,by rw [u9.else_ _ zo];exact cd.blk hF,by rw [u9.else_ _ zo];exact cd.blk hB,u9.cl (hcl.trans cd) zo⟩
    rw [u9.at_,E.z6,show (bif Nat.beq 0 0 then 0 else 0+0:Nat)=0 from rfl]
    simp only [Nat.zero_add,Nat.mul_one];rw [a14 _ _ _ zo zo];rw [show 8*(0:Int)+(f:Int)=(f:Int) by omega,show c2t f+6*(0:Int)=c2t f by omega]
   ·refine zR ?_;refine d7 _ (c4s (cd.blk hF) f hf8 (by simp [E.z6])) (zE ?_)
    refine d9 (a5k f 0 _ zo zo zo zo) ?_;rw [c1j f 0 zo zo zo zo];refine zE ?_;refine d9 (a8a (c2t f) 0 _ zo zo zo zo) (zE ?_);refine zC ?_;refine zE ?_;refine J6 (cd.blk hQ) [.int .i64 (c2t f+6*0)] rfl N8 rfl (by simp [Value.oneCell']) (by rw [r7,E.z6];show 0+_*1+1≤69;omega) (fun w9 u9=>zR ?_)
    refine ⟨(),trivial,?_,by rw [u9.else_ _ zo];exact cd.blk hF,by rw [u9.else_ _ zo];exact cd.blk hB,u9.cl (hcl.trans cd) zo⟩
    rw [u9.at_,E.z6,show (bif Nat.beq 0 0 then 0 else 0+0:Nat)=0 from rfl]
    simp only [Nat.zero_add,Nat.mul_one];rw [a14 _ _ _ zo zo];rw [show 8*(0:Int)+(f:Int)=(f:Int) by omega,show c2t f+6*(0:Int)=c2t f by omega]
  clear hQ hF hB hcl;obtain ⟨hQ,hF,hB,hcl⟩:=h5;refine A4 (σ:=Unit) [18,19,20,21,22] 23 (fun _=>[]) (fun _ w'=>w'.heap[w1.heap.size]?=some (.cells (o9 (Ch.put (Ch.put (b9e f) f (c2t f)) (8+f) 6)) 24 (0,0))∧w'.heap[w2.heap.size]?=some (.cells b8r 111 (0,0))∧w'.heap[w.heap.size]?=some (.cells zp.cells 24 (0,0))∧Cl w w') zk ?_ (fun _ j6 w6 h6=>?_)
  ·skip
   refine zR ?_;refine d9 (a5k f 1 _ zo zo zo zo) ?_;rw [c1j f 1 zo zo zo zo];refine zR ?_;refine d9 (a8a 6 0 _ zo zo zo zo) (zR ?_);refine zC ?_;refine zR ?_;refine J6 hQ [.int .i64 (6+6*0)] rfl N8 rfl (by simp [Value.oneCell']) (by rw [r7,E.z6];show 0+_*1+1≤69;omega) (fun w9 u9=>zR ?_)
   refine ⟨(),trivial,?_,by rw [u9.else_ _ zo];exact hF,by rw [u9.else_ _ zo];exact hB,u9.cl hcl zo⟩
   rw [u9.at_,E.z6,show (bif Nat.beq 0 0 then 0 else 0+0:Nat)=0 from rfl]
   simp only [Nat.zero_add,Nat.mul_one];rw [a14 _ _ _ zo zo];rw [show 8*(1:Int)+(f:Int)=8+(f:Int) by omega,show (6:Int)+6*0=6 by omega]
  clear hQ hF hB hcl;obtain ⟨hQ,hF,hB,hcl⟩:=h6;refine A4 (σ:=Unit) [23,24,25,26,27] 28 (fun _=>[]) (fun _ w'=>w'.heap[w1.heap.size]?=some (.cells (o9 (Ch.put (Ch.put (Ch.put (b9e f) f (c2t f)) (8+f) 6) (48+f) 12)) 24 (0,0))∧w'.heap[w2.heap.size]?=some (.cells b8r 111 (0,0))∧w'.heap[w.heap.size]?=some (.cells zp.cells 24 (0,0))∧Cl w w') zk ?_ (fun _ j7 w7 h7=>?_)
  ·skip
   refine zR ?_;refine d9 (a5k f 6 _ zo zo zo zo) ?_;rw [c1j f 6 zo zo zo zo];refine zR ?_;refine d9 (a8a 6 1 _ zo zo zo zo) (zR ?_);refine zC ?_;refine zR ?_;refine J6 hQ [.int .i64 (6+6*1)] rfl N8 rfl (by simp [Value.oneCell']) (by rw [r7,E.z6];show 0+_*1+1≤69;omega) (fun w9 u9=>zR ?_)
   refine ⟨(),trivial,?_,by rw [u9.else_ _ zo];exact hF,by rw [u9.else_ _ zo];exact hB,u9.cl hcl zo⟩
   rw [u9.at_,E.z6,show (bif Nat.beq 0 0 then 0 else 0+0:Nat)=0 from rfl]
   simp only [Nat.zero_add,Nat.mul_one];rw [a14 _ _ _ zo zo];rw [show 8*(6:Int)+(f:Int)=48+(f:Int) by omega,show (6:Int)+6*1=12 by omega]
  clear hQ hF hB hcl;obtain ⟨hQ,hF,hB,hcl⟩:=h7;refine zR ?_;refine I8.mk2 [0,2,3,6] (.cons 1 (.cons 4 (.cons 5 (.cons 7 (.cons 8 .done .nil) .nil) .nil) .nil) (.cons 4 (.cons 1 (.cons 5 (.cons 7 (.cons 8 .done .nil) .nil) .nil) .nil) .nil)) zk (zR ?_);refine zC ?_;refine zR ?_;have cd:Cl w7 w7.drew:=Cl.drew (Cl.refl _);refine And.intro ?_ (And.intro ?_ trivial)
  ·refine zR ?_;refine d9 (a5k f 7 _ zo zo zo zo) ?_;rw [c1j f 7 zo zo zo zo];refine zE ?_;refine d7 _ (c4s (cd.blk hF) f hf8 (by simp [E.z6])) (zE ?_)
   refine d9 (a8a (c2t f) 1 _ zo zo zo zo) (zE ?_);refine zC ?_;refine zE ?_;refine J6 (cd.blk hQ) [.int .i64 (c2t f+6*1)] rfl N8 rfl (by simp [Value.oneCell']) (by rw [r7,E.z6];show 0+_*1+1≤69;omega) (fun w9 u9=>zR ?_)
   refine ⟨f+1,⟨m7 nf,trivial⟩,⟨zo,?_,by rw [u9.else_ _ zo];exact cd.blk hF,by rw [u9.else_ _ zo];exact cd.blk hB,u9.cl (hcl.trans cd) zo⟩,zo⟩
   rw [u9.at_,E.z6,show (bif Nat.beq 0 0 then 0 else 0+0:Nat)=0 from rfl]
   simp only [Nat.zero_add,Nat.mul_one];rw [a14 _ _ _ zo zo];rw [show 8*(7:Int)+(f:Int)=56+(f:Int) by omega,show c2t f+6*(1:Int)=c2t f+6 by omega,hss]
  ·refine zR ?_;refine d7 _ (c4s (cd.blk hF) f hf8 (by simp [E.z6])) (zE ?_)
   refine d9 (a5k f 7 _ zo zo zo zo) ?_;rw [c1j f 7 zo zo zo zo];refine zE ?_;refine d9 (a8a (c2t f) 1 _ zo zo zo zo) (zE ?_);refine zC ?_;refine zE ?_;refine J6 (cd.blk hQ) [.int .i64 (c2t f+6*1)] rfl N8 rfl (by simp [Value.oneCell']) (by rw [r7,E.z6];show 0+_*1+1≤69;omega) (fun w9 u9=>zR ?_)
   refine ⟨f+1,⟨m7 nf,trivial⟩,⟨zo,?_,by rw [u9.else_ _ zo];exact cd.blk hF,by rw [u9.else_ _ zo];exact cd.blk hB,u9.cl (hcl.trans cd) zo⟩,zo⟩
   rw [u9.at_,E.z6,show (bif Nat.beq 0 0 then 0 else 0+0:Nat)=0 from rfl]
   simp only [Nat.zero_add,Nat.mul_one];rw [a14 _ _ _ zo zo];rw [show 8*(7:Int)+(f:Int)=56+(f:Int) by omega,show c2t f+6*(1:Int)=c2t f+6 by omega,hss]
 ·have hf8:f=8:=by omega
  subst hf8;refine zR ?_;refine d7 _ (y7 hQ) (zR ?_);refine J6 hB (X0 a22) rfl a13 (B6 _) (one_pos _) (by rw [hz69];omega) (fun w9 u9=>?_)
  have hR:w9.heap[w.heap.size]?=some (.cells (o9 a22) 24 (0,0)):=by
   rw [u9.at_,C5 _ _ (by rw [B6,hz69])];rfl
  refine zR ?_;refine d7 _ (y7 hR) (zR ?_);exact ⟨rfl,u9.cl hcl (Nat.le_refl _)⟩
structure StR (s:Ch.a0A):Prop where
 mv:MvR s.mv
 tags:I64 s.tags
 san:s.san.length≤1000
 lan:s.lan.length≤1000
 uci:s.uci.length≤1000
 fen:s.fen.length≤1000
 xfen:s.xfen.length≤1000
 pos:a4b s.pos
 outcome:s.outcome.length≤1000
 method:I64 s.method
 status:I64 s.status
theorem c4W (p:A3) (usual:Bool) (w:World):Calls G.P 11 #[C4 p,.bool usual] w (K4 (C4 (if usual then a22 else p)) w):=by
 obtain ⟨zp,hzp,hz69⟩:=b1P;refine zN Tryz.func11 ?_;refine zG ?_;generalize hW:w.alloc (.cells (o9 p) 24)=W0;have hP0:W0.heap[w.heap.size]?=some (.cells (o9 p) 24 (0,0)):=by rw [← hW];exact q8 _ _
 have hE:Cl w W0:=by rw [← hW];exact Cl.alloc _ _
 clear hW;refine t7 zp hzp ?_;have hB0:(W0.alloc (.cells zp.cells 24)).heap[W0.heap.size]?=some (.cells zp.cells 24 (0,0)):=q8 _ _;have c1:Cl W0 (W0.alloc (.cells zp.cells 24)):=Cl.alloc _ _;have hP1:=c1.blk hP0;generalize W0.alloc (.cells zp.cells 24)=w1 at *;cases usual
 ·refine zR ?_;refine d7 _ (y7 hP1) (zR ?_);refine J6 hB0 (X0 p) rfl a13 (B6 _) (one_pos _) (by rw [hz69];omega) (fun w2 u2=>zR ?_)
  refine d7 _ (y7 (p:=p) (by rw [u2.at_,C5 _ _ (by rw [B6,hz69])];rfl)) (zR ?_)
  exact ⟨rfl,u2.cl (hE.trans c1) hE.size⟩
 ·refine zR ?_;refine m9 (c54 _) fun w2 c2=>zR ?_;refine J6 (c2.blk hB0) (X0 a22) rfl a13 (B6 _) (one_pos _) (by rw [hz69];omega) (fun w3 u3=>zR ?_)
  refine d7 _ (y7 (p:=a22) (by rw [u3.at_,C5 _ _ (by rw [B6,hz69])];rfl)) (zR ?_)
  exact ⟨rfl,u3.cl (hE.trans (c1.trans c2)) hE.size⟩
theorem c55 (p:A3) (usual:Bool) (hp:usual=false→Fen p) (w:World):Calls G.P 15 #[C4 p,.bool usual] w (K4 (s8 (if usual then [] else Ch.fenT p)) w):=by
 refine zN Tryz.func15 ?_;refine zG ?_;generalize hW:w.alloc (.cells (o9 p) 24)=W0;have hP0:W0.heap[w.heap.size]?=some (.cells (o9 p) 24 (0,0)):=by rw [← hW];exact q8 _ _
 have hE:Cl w W0:=by rw [← hW];exact Cl.alloc _ _
 clear hW;cases usual
 ·refine zR ?_;refine d7 _ (y7 hP0) (zR ?_);refine m9 (a0Z p (hp rfl) _) fun w2 c2=>zR ?_;exact ⟨rfl,hE.trans c2⟩
 ·refine zR ?_;exact ⟨rfl,hE⟩
def asked (p:A3) (ms:List Mv):Bool:=Ch.valid p&&decide (p.half≤1000000)&&decide (p.full≤1000000)&&decide (ms.length≤80)&&Ch.quiet p ms
theorem a8V (p:A3) (ms:List Mv) (hms:∀ m∈ms,MvR m) {v:Value} (w:World) (hrow:a2a w v ms):Calls G.P 12 #[C4 p,v] w (K4 (.bool (asked p ms)) w):=by
 obtain ⟨al,cl,rfl,hal⟩:=hrow.form;refine zN Tryz.func12 ?_;refine zG ?_;generalize hW:w.alloc (.cells (o9 p) 24)=W0;have hP0:W0.heap[w.heap.size]?=some (.cells (o9 p) 24 (0,0)):=by rw [← hW];exact q8 _ _
 have hE:Cl w W0:=by rw [← hW];exact Cl.alloc _ _
 clear hW;have hA:asked p ms=(Ch.valid p&&decide (p.half≤1000000)&&decide (p.full≤1000000)&&decide (ms.length≤80)&&Ch.quiet p ms):=rfl;have hiff:=Ch.a5p p;refine zR ?_;refine d7 _ (y7 hP0) (zR ?_);refine m9 (b7M p _) fun w2 c2=>?_;have hP2:=c2.blk hP0;generalize Ch.valid p=b at *;cases b
 ·refine zR ?_;exact ⟨m8 (by rw [hA];rfl),hE.trans c2⟩
 have hI:=hiff.1 rfl;refine zR ?_;refine d7 _ (a6U hP2) (zR ?_);apply E.b7<;>intro h
 ·have h1:=h;clear h;refine zR ?_;refine d7 _ (a9i hP2) (zR ?_);apply E.b7<;>intro h
  ·have h2:=h;clear h;refine zR ?_;apply E.b7<;>intro h
   ·have h3:ms.length≤80:=by omega
    clear h;refine zR ?_;refine d7 _ (y7 hP2) (zR ?_);refine m9 (b8p p hI ⟨zo,zo⟩ ms hms zo _ (hrow.step (hE.trans c2))) fun w3 c3=>?_;generalize Ch.quiet p ms=qb at *;refine zR ?_;exact ⟨m8 (by rw [hA,decide_eq_true h1,decide_eq_true h2,decide_eq_true h3];simp),hE.trans (c2.trans c3)⟩
   ·refine zR ?_;exact ⟨m8 (by rw [hA,decide_eq_false (show ¬ ms.length≤80 by omega)];simp),hE.trans c2⟩
  ·refine zR ?_;exact ⟨m8 (by rw [hA,decide_eq_false h];simp),hE.trans c2⟩
 ·refine zR ?_;exact ⟨m8 (by rw [hA,decide_eq_false h];simp),hE.trans c2⟩
end
section
open Go Go.RowKit
open E
open Ch Bb
section gens
variable {w:World} {dst:Option Nat} {ty:Nat} {pos:String} {af:Array Edge} {gd:Option (Nat×Bool)} {env:C0} {K:Value→World→Prop}
theorem b5f {fo:Operand} {args:Array Operand} {argTypes:Array Nat} {f:Nat} {cap:Array Value} (vs:Array Value) (hf:ev env fo = .func (.func f) #[] cap) (hfn:G.fn f=true) (ha:(args.map (ev env)).toList++cap.toList=vs.toList)
  (h:Calls G.P f vs w (fun r w'=>∃ v,r = .returned v∧K v w')):L5 G.P { dst,op:=.call { callee:=.value fo,args,argTypes },type:=ty,pos,after:=af,guard:=gd } env w K:=by
 obtain ⟨x,h1,h2,h3⟩:=G.enters f hfn;have ha:args.map (ev env)++cap=vs:=Array.toList_inj.1 (by rw [Array.toList_append];exact ha)
 subst ha;refine ⟨.inr (.inr ⟨f,(args.map (ev env))++cap,?_,h⟩)⟩;simp [execOp,resolve,hf,Deferred.ofValue,invoke,callFunc,h1,h3];cases hb:x.body with
 | none=>rw [hb] at h2;cases h2
 | some c=>simp
theorem b2N {f:Nat} {cs:Array Operand} (caps:Array Value) (hc:(cs.map (ev env)).toList=caps.toList) (h:K (.func (.func f) #[] caps) w):L5 G.P { dst,op:=.makeFunc (.func f) #[] cs,type:=ty,pos,after:=af,guard:=gd } env w K:=by
 have hc:=Array.toList_inj.1 hc;subst hc;exact ⟨.inl ⟨.func (.func f) #[] (cs.map (ev env)),w,by simp [execOp,Instr.makeFunc],h⟩⟩
end gens
theorem b5g:B7 a22:=(a5p a22).1 (by decide +kernel)
theorem b5h:inCheck a22=false:=by decide +kernel
theorem b5i:fenT a22=[114,110,98,113,107,98,110,114,47,112,112,112,112,112,112,112,112,47,56,47,56,47,56,47,56,47,80,80,80,80,80,80,80,80,47,82,78,66,81,75,66,78,82,32,119,32,75,81,107,113,32,45,32,48,32,49]:=by decide +kernel
theorem a7P (w:World) (hT:C1 w) (hS:Spc w):Calls G.P 133 #[] w (fun r w'=>Cl w w'∧∃ P b,r = .returned (.pointer (some ⟨P,0,none⟩))∧w.heap.size≤P∧w.heap.size≤b∧H0 w' P b a22 (.slice none 0 0)):=by
 have hd:=b1u b5g zd zd w hT hS;rw [b5i] at hd;refine zN Tryz.func133 ?_;refine zR ?_;refine o8 hd ?_;rintro e w1 ⟨c1,P,b,rfl,sP,sb,hP,hB⟩;refine ⟨_,rfl,?_⟩;refine zR ?_;exact ⟨c1,P,b,rfl,sP,sb,by rw [b5h];exact hP,hB,.inl rfl⟩
def Y3 (P:Nat):Nd:={ D3 ⟨⟨0,0,0⟩,0⟩ with pos:=.pointer (some ⟨P,0,none⟩) }
def J7 (P R tb:Nat):Gm:=⟨P,a5e,.map (some tb),R,R,.slice none 0 0,0⟩
set_option maxHeartbeats 1000000 in
theorem c1a {p:A3} (hI:B7 p) (hle:(z8 p).length≤218) {G0 M P b c P0 tb:Nat} (w:World) (hT:C1 w) (hb:w.heap[G0]?=some (.cells (gmA (J7 P0 M tb)) 131 (0,0))) (hM:w.heap[M]?=some (.cells (F0 (Y3 P0)) 141 (0,0)))
  (hP:w.heap[P]?=some (.cells (hdA b (A8 p false) (.slice none 0 0)) 173 (0,0))) (hB:w.heap[b]?=some (.cells (mbA (mbOf p)) 237 (0,0))) (hc:w.heap[c]?=some (.cells #[.pointer (some ⟨P,0,none⟩)] 83 (0,0))) :
  Calls G.P 136 #[.pointer (some ⟨G0,0,none⟩),.pointer (some ⟨c,0,none⟩)] w (fun r w'=>r = .returned (.tuple #[])∧∃ g' z,K3 w' G0 g' [] z∧z.p=p∧z.M=M∧z.P=P∧((g'.meth:Int),g'.out)=X4 [p] p (0,a5e)∧Fr [P,G0,M] w w'):=by
 have hGP:=J4 hb hP zd;have hMP:=J4 hM hP zd;have hbP:=J4 hB hP zd;have hcP:=J4 hc hP zd;have hcG:=J4 hc hb zd;have hcM:=J4 hc hM zd;have hGM:=J4 hb hM zd;have hbG:=J4 hB hb zd;have hbM:=J4 hB hM zd;have hic:=fun (w':World) (h:Cl w w')=>a5W (h:=A8 p false) (B:=mbOf p) (by have:=hI.turn;show p.turn+1=1∨p.turn+1=2;omega) (U1 p 0).1 (U1 p 0).2 (U1 p 1).1 (U1 p 1).2 w' (hT.cl h) (h.blk hP) (h.blk hB)
 have hic2:(mbOf p).chk (A8 p false).turn=inCheck p:=b60 hI;rw [hic2] at hic;refine zN Tryz.func136 ?_;refine zR ?_;refine zK 5 ?_;refine zR ?_;refine g9 _ (fun w' hw=>W1 (v:=.pointer (some ⟨P,0,none⟩)) (hw.blk hc) rfl rfl) (zR ?_);refine g9 _ (fun w' hw=>W1 (v:=.pointer (some ⟨P,0,none⟩)) (hw.blk hc) rfl rfl) (zR ?_);refine C7 _ (fun _ _ h=>h.trans) (fun w' hw=>hic w' hw) (zR ?_);intro w1 c1;refine zR ?_;refine zT (c1.blk hP) [.bool (inCheck p)] fun w2 u2=>?_;have hP2:w2.heap[P]?=some (.cells (hdA b (A8 p (inCheck p)) (.slice none 0 0)) 173 (0,0)):=u2.at_;have f2:Fr [P,G0,M] w w2:=(Fr.cl c1).trans (Fr.upd u2 (by simp))
 have hb2:=(Tn.upd u2).blk (c1.blk hb) hGP;have hc2:=(Tn.upd u2).blk (c1.blk hc) hcP;have hM2:=(Tn.upd u2).blk (c1.blk hM) hMP;have hB2:=(Tn.upd u2).blk (c1.blk hB) hbP;refine zR ?_;refine d7 _ (W1 (v:=.pointer (some ⟨P,0,none⟩)) hc2 rfl rfl) (zR ?_);refine zT hb2 [.pointer (some ⟨P,0,none⟩)] fun w3 u3=>?_;have hb3:w3.heap[G0]?=some (.cells (gmA (J7 P M tb)) 131 (0,0)):=u3.at_;have f3:=f2.trans (Fr.upd u3 (by simp))
 have hP3:=(Tn.upd u3).blk hP2 (Ne.symm hGP);have hc3:=(Tn.upd u3).blk hc2 hcG;have hM3:=(Tn.upd u3).blk hM2 (Ne.symm hGM);have hB3:=(Tn.upd u3).blk hB2 hbG;refine zR ?_;refine zK 7 ?_;refine zR ?_;refine g9 _ (fun w' hw=>b3K (hw.blk hb3)) (zR ?_);refine g9 _ (fun w' hw=>W1 (v:=.pointer (some ⟨P,0,none⟩)) (hw.blk hc3) rfl rfl) (zR ?_);intro w4 c4;refine zR ?_;refine zT (c4.blk hM3) [.pointer (some ⟨P,0,none⟩)] fun w5 u5=>?_;have hM5:w5.heap[M]?=some (.cells (F0 (Y3 P)) 141 (0,0)):=u5.at_;have f5:=(f3.trans (Fr.cl c4)).trans (Fr.upd (b:=M) u5 (by simp))
 have hb5:=(Tn.upd u5).blk (c4.blk hb3) hGM;have hP5:=(Tn.upd u5).blk (c4.blk hP3) (Ne.symm hMP);have hB5:=(Tn.upd u5).blk (c4.blk hB3) hbM;have hPM:H0 w5 P b p (.slice none 0 0):=⟨hP5,hB5,.inl rfl⟩;have hT5:C1 w5:=hT.fr f5 fun k hk cs t fz hh=>by
  simp only [List.mem_cons,List.not_mem_nil,or_false] at hk;rcases hk with e | e | e
  ·rw [e] at hh;rw [← (Obj.cells.inj (Option.some.inj (hP.symm.trans hh))).2.1];decide
  ·rw [e] at hh;rw [← (Obj.cells.inj (Option.some.inj (hb.symm.trans hh))).2.1];decide
  ·rw [e] at hh;rw [← (Obj.cells.inj (Option.some.inj (hM.symm.trans hh))).2.1];decide
 obtain ⟨z,hz⟩:∃ z:O4,z=⟨M,Y3 P,P,b,p,.slice none 0 0⟩:=⟨_,rfl⟩;have hch:Chn w5 [z]:=by rw [hz];exact ⟨hM5,rfl,rfl,hPM,trivial⟩
 have hev:=a8N (g:=J7 P M tb) (n:=z) (l:=[]) hI hle (b6X hI b) (by simp) (by intro x hx;rw [List.mem_singleton.1 hx,hz];exact hI) w5 hT5 hb5 (by rw [hz];rfl) hch hPM (Ne.symm hGP) hbG (fun _=>rfl)
 refine zR ?_;refine o8 hev ?_;rintro e w6 ⟨rfl,m',o',hend,hgb,hfr⟩;refine ⟨_,rfl,?_⟩;refine zR ?_;have hend:((m':Int),o')=X4 [p] p (((0:Nat):Int),a5e):=by rw [hz] at hend;exact hend
 have kG:Kp [] w5 w6:=Kp.fr hfr fun k hk=>by rw [List.mem_singleton.1 hk];exact .inr ⟨_,_,hb5⟩
 refine ⟨rfl,{ J7 P M tb with out:=o',meth:=m' },z,⟨hgb,by rw [hz];rfl,by rw [hz];rfl,⟨z,[],rfl,by rw [hz];rfl⟩,Chn.kp kG hch fun n _=>n.off_nil,(by rw [hz];rfl),fun n hn=>(by cases hn),(by rw [hz];intro e;cases e),fun n hn=>(by cases hn),a8O hend fun _=>rfl⟩,by rw [hz],by rw [hz],by rw [hz],hend,f5.trans (hfr.mono (by simp))⟩
theorem uFn:∃ a b c,G.P.underlying 122=some (.func a b c):=by
 have h:(match G.P.underlying 122 with | some (.func ..)=>true | _=>false)=true:=by kernel_rfl
 split at h
 ·rename_i a b c e;exact ⟨a,b,c,e⟩
 ·cases h
theorem c3a {w:World} {b i:Nat} {v:Value} {cs:Array Value} {u:Nat} {fz:Nat×Nat} (hb:w.heap[b]?=some (.cells cs u fz)) (hi:cs[i]?=some v):l8 G.P w 122 ⟨b,i,none⟩ v:=by
 obtain ⟨e1,e2,e3,he⟩:=uFn;have ha:(isAgg 122).run G.P w = .ok false w:=by unfold isAgg;simp [run_underlying he]
 unfold l8 Instr.loadAt loadVar;simp [Instr.sureAddr,ha,C8 hb,hi]
theorem c1b (f:Fn) (a c:Array Value):Cmp 122 (.func f a c) .nilFunc false:=by
 obtain ⟨e1,e2,e3,he⟩:=uFn;refine a9z (fun d w=>?_) (fun w=>by simp [binOp]) (fun w=>by simp [binOp]) (fun op a v w=>by unfold eqGuard;cases op<;>rfl)
 simp [Op.equalIn,run_underlying he]
theorem c3b:G2 181 122 1 8:=R0 zk
structure b9F (w w':World) (G0:Nat) (p:A3) (looked:Bool):Prop where
 ex:∃ g z,K3 w' G0 g [] z∧z.p=p∧w.heap.size≤z.M∧w.heap.size≤z.P∧((g.meth:Int),g.out)=(if looked then X4 [p] p (0,a5e) else (0,a5e))
 cl:Cl w w'
 new:w.heap.size≤G0
set_option maxHeartbeats 1000000 in
theorem b2O (w:World) (hT:C1 w) (hS:Spc w):Calls G.P 97 #[.slice none 0 0] w (fun r w'=>∃ G0,r = .returned (.pointer (some ⟨G0,0,none⟩))∧b9F w w' G0 a22 false):=by
 refine zN Tryz.func97 ?_;refine zR ?_;refine o8 (a7P w hT hS) ?_;rintro e w1 ⟨c1,P,b,rfl,sP,sb,hPM⟩;refine ⟨_,rfl,?_⟩;refine zR ?_;refine s9 (F0 (Y3 P)) zk (zR ?_);have c2:=c1.trans (Cl.alloc w1 (.cells (F0 (Y3 P)) 141));have hPM2:=hPM.step (Cl.alloc w1 (.cells (F0 (Y3 P)) 141));have nR:=q8 w1 (.cells (F0 (Y3 P)) 141);have s2:=y9 w1 (.cells (F0 (Y3 P)) 141);have s1:=c1.size;obtain ⟨R,hR⟩:∃ R,R=w1.heap.size:=⟨_,rfl⟩;rw [← hR] at nR ⊢;generalize w1.alloc (.cells (F0 (Y3 P)) 141)=w2 at *;refine a32 ?_;have c3:=c2.trans (Cl.alloc w2 (.map #[] 0));have hPM3:=hPM2.step (Cl.alloc w2 (.map #[] 0));have nR3:=(Cl.alloc w2 (.map #[] 0)).blk nR;have s3:=y9 w2 (.map #[] 0);generalize w2.alloc (.map #[] 0)=w3 at *;refine zR ?_;refine s9 (gmA (J7 P R w2.heap.size)) zk (zR ?_);have c4:=c3.trans (Cl.alloc w3 (.cells (gmA (J7 P R w2.heap.size)) 131));have hPM4:=hPM3.step (Cl.alloc w3 (.cells (gmA (J7 P R w2.heap.size)) 131));have nR4:=(Cl.alloc w3 (.cells (gmA (J7 P R w2.heap.size)) 131)).blk nR3;have nG:=q8 w3 (.cells (gmA (J7 P R w2.heap.size)) 131);have s4:=y9 w3 (.cells (gmA (J7 P R w2.heap.size)) 131);generalize w3.alloc (.cells (gmA (J7 P R w2.heap.size)) 131)=w4 at *;refine a7n 1 (zR ?_);refine ⟨_,rfl,⟨J7 P R w2.heap.size,⟨R,Y3 P,P,b,a22,.slice none 0 0⟩,⟨nG,rfl,rfl,⟨_,[],rfl,rfl⟩,⟨nR4,rfl,rfl,hPM4,trivial⟩,rfl,fun n hn=>(by cases hn),fun e=>(by cases e),fun n hn=>(by cases hn),fun _=>rfl⟩,rfl,(show w.heap.size≤R by omega),sP,rfl⟩,c4,zo⟩
set_option maxHeartbeats 1000000 in
theorem b2P {p:A3} (hI:B7 p) (hle:(z8 p).length≤218) {P b c O k:Nat} (w:World) (hT:C1 w) (hS:Spc w)
  (hP:w.heap[P]?=some (.cells (hdA b (A8 p false) (.slice none 0 0)) 173 (0,0))) (hB:w.heap[b]?=some (.cells (mbA (mbOf p)) 237 (0,0))) (hc:w.heap[c]?=some (.cells #[.pointer (some ⟨P,0,none⟩)] 83 (0,0)))
  (hO:w.heap[O]?=some (.cells #[.func (.func 136) #[] #[.pointer (some ⟨c,0,none⟩)]] 122 (0,0))) :
  Calls G.P 97 #[.slice (some ⟨O,0,none⟩) 1 k] w (fun r w'=>∃ G0 g z,r = .returned (.pointer (some ⟨G0,0,none⟩))∧w.heap.size≤G0∧K3 w' G0 g [] z∧z.p=p∧w.heap.size≤z.M∧z.P=P∧((g.meth:Int),g.out)=X4 [p] p (0,a5e)∧Tn P w w'):=by
 refine zN Tryz.func97 ?_;refine zR ?_;refine o8 (a7P w hT hS) ?_;rintro e w1 ⟨c1,P0,b0,rfl,sP,sb,hPM⟩;refine ⟨_,rfl,?_⟩;refine zR ?_;refine s9 (F0 (Y3 P0)) zk (zR ?_);have c2:=c1.trans (Cl.alloc w1 (.cells (F0 (Y3 P0)) 141));have nR:=q8 w1 (.cells (F0 (Y3 P0)) 141);have s2:=y9 w1 (.cells (F0 (Y3 P0)) 141);have s1:=c1.size;obtain ⟨R,hR⟩:∃ R,R=w1.heap.size:=⟨_,rfl⟩;rw [← hR] at nR ⊢;generalize w1.alloc (.cells (F0 (Y3 P0)) 141)=w2 at *;refine a32 ?_;have c3:=c2.trans (Cl.alloc w2 (.map #[] 0));have nR3:=(Cl.alloc w2 (.map #[] 0)).blk nR;have s3:=y9 w2 (.map #[] 0);generalize w2.alloc (.map #[] 0)=w3 at *;refine zR ?_;refine s9 (gmA (J7 P0 R w2.heap.size)) zk (zR ?_);have c4:=c3.trans (Cl.alloc w3 (.cells (gmA (J7 P0 R w2.heap.size)) 131));have nR4:=(Cl.alloc w3 (.cells (gmA (J7 P0 R w2.heap.size)) 131)).blk nR3;have nG:=q8 w3 (.cells (gmA (J7 P0 R w2.heap.size)) 131);have s4:=y9 w3 (.cells (gmA (J7 P0 R w2.heap.size)) 131);obtain ⟨G0,hG0⟩:∃ G0,G0=w3.heap.size:=⟨_,rfl⟩;rw [← hG0] at nG ⊢;generalize w3.alloc (.cells (gmA (J7 P0 R w2.heap.size)) 131)=w4 at *;refine a7n 2 (zR ?_);refine d7 _ (c3a (v:=.func (.func 136) #[] #[.pointer (some ⟨c,0,none⟩)]) (c4.blk hO) rfl) (zR ?_);refine I1 false (c1b _ _ _) (zR ?_);refine b5f #[.pointer (some ⟨G0,0,none⟩),.pointer (some ⟨c,0,none⟩)] rfl rfl (by rw [Array.toList_map];rfl) ?_
 refine (c1a hI hle w4 (hT.cl c4) nG nR4 (c4.blk hP) (c4.blk hB) (c4.blk hc)).mono ?_;rintro e w5 ⟨rfl,g',z,hg,hz,hzM,hzP,hend,f5⟩;refine ⟨_,rfl,?_⟩;refine zR ?_;have hPl:=N2 hP;refine ⟨G0,g',z,rfl,zo,hg,hz,by rw [hzM];omega,hzP,hend,⟨f5.os.trans c4.os,f5.tape.trans c4.tape,f5.output.trans c4.output,Nat.le_trans c4.size f5.size,fun k hk hne=>?_⟩⟩
 rw [f5.else_ k zo (by simp only [List.mem_cons,List.not_mem_nil,or_false];omega)]
 exact c4.block k hk
set_option maxHeartbeats 1000000 in
theorem b9f {p:A3} (hI:B7 p) (hle:(z8 p).length≤218) (hh:p.half<10000000) (hf:p.full<10000000) (usual:Bool) (hu:usual=true→p=a22) (w:World) (hT:C1 w) (hS:Spc w) :
  Calls G.P 42 #[s8 (if usual then [] else fenT p)] w (fun r w'=>∃ G0,r = .returned (.tuple #[.pointer (some ⟨G0,0,none⟩),.nilIface])∧b9F w w' G0 p (!usual)):=by
 cases usual with
 | true =>
  have:=hu rfl;subst this;rw [if_pos rfl];refine zN Tryz.func42 ?_;refine zR ?_;first | (refine E.D4 rfl ?_;refine zR ?_) | skip
  refine o8 (b2O w hT hS) ?_;rintro e w1 ⟨G0,rfl,h⟩;refine ⟨_,rfl,?_⟩;refine zR ?_;exact ⟨G0,rfl,h⟩
 | false =>
  rw [if_neg zd];have hne:¬ tx (fenT p)=tx []:=fun h=>by
   have:=a0p.1 h;unfold fenT at this;simp at this
  have hd:=fun w hT hS=>b1u hI hh hf w hT hS;generalize fenT p=T at *;have hFEN:∀ w,C1 w→Spc w→Calls G.P 98 #[s8 T] w (fun r w'=>Cl w w'∧∃ P b c,r = .returned (.tuple #[.func (.func 136) #[] #[.pointer (some ⟨c,0,none⟩)],.nilIface])∧w.heap.size≤P∧w'.heap[P]?=some (.cells (hdA b (A8 p false) (.slice none 0 0)) 173 (0,0))
   ∧w'.heap[b]?=some (.cells (mbA (mbOf p)) 237 (0,0))∧w'.heap[c]?=some (.cells #[.pointer (some ⟨P,0,none⟩)] 83 (0,0))):=by
   intro w hT hS;refine zN Tryz.func98 ?_;refine zR ?_;refine o8 (hd w hT hS) ?_;rintro e w1 ⟨c1,P,b,rfl,sP,sb,hP,hB⟩;refine ⟨_,rfl,?_⟩;refine zR ?_;refine t7 (.pointer none) zk ?_;have c2:=Cl.alloc w1 (.cells (Value.pointer none).cells 83);have n2:=q8 w1 (.cells (Value.pointer none).cells 83);have s1:=c1.size;generalize w1.alloc (.cells (Value.pointer none).cells 83)=w2 at *;refine zR ?_;refine zT n2 [.pointer (some ⟨P,0,none⟩)] fun w3 u3=>?_;have n3:w3.heap[w1.heap.size]?=some (.cells #[.pointer (some ⟨P,0,none⟩)] 83 (0,0)):=u3.at_;refine zR ?_;refine I1 true (F8 rfl) (zR ?_);refine d7 _ (W1 (v:=.pointer (some ⟨P,0,none⟩)) n3 rfl rfl) (zR ?_);refine W3 false (N1 rfl _) (zR ?_);refine b2N #[.pointer (some ⟨w1.heap.size,0,none⟩)] (by rw [Array.toList_map];rfl) (zR ?_)
   have hP2:=c2.blk hP;have hB2:=c2.blk hB;exact ⟨u3.cl (c1.trans c2) s1,P,b,_,rfl,sP,(Tn.upd u3).blk hP2 (by have:=N2 hP;omega),(Tn.upd u3).blk hB2 (by have:=N2 hB;omega),n3⟩
  refine zN Tryz.func42 ?_;refine zR ?_;refine E.o7 hne (zR ?_);refine o8 (hFEN w hT hS) ?_;rintro e w1 ⟨c1,P,b,c,rfl,sP,hP,hB,hc⟩;refine ⟨_,rfl,?_⟩;refine zR ?_;refine I1 true (F8 rfl) (zR ?_);refine E6 c3b [.func (.func 136) #[] #[.pointer (some ⟨c,0,none⟩)]] (by rw [Array.toList_map];rfl) (by simp [Value.cells]) rfl zd zd ?_
  have c2:=Cl.alloc w1 (.cells (([.func (.func 136) #[] #[.pointer (some ⟨c,0,none⟩)]]:List Value).flatMap fun v=>v.cells.toList).toArray 122);have n2:(w1.alloc (.cells (([.func (.func 136) #[] #[.pointer (some ⟨c,0,none⟩)]]:List Value).flatMap fun v=>v.cells.toList).toArray 122)).heap[w1.heap.size]?=some (.cells #[.func (.func 136) #[] #[.pointer (some ⟨c,0,none⟩)]] 122 (0,0)):=q8 w1 _;generalize w1.alloc (.cells (([.func (.func 136) #[] #[.pointer (some ⟨c,0,none⟩)]]:List Value).flatMap fun v=>v.cells.toList).toArray 122)=w2 at *;have c02:=c1.trans c2;refine zR ?_;refine o8 (b2P hI hle w2 (hT.cl c02) (hS.cl c02) (c2.blk hP) (c2.blk hB) (c2.blk hc) n2) ?_;rintro e w3 ⟨G0,g,z,rfl,sG,hg,hz,hzM,hzP,hend,n3⟩;refine ⟨_,rfl,?_⟩;refine zR ?_;refine ⟨G0,rfl,⟨?_,n3.toCl c02 sP,Nat.le_trans c02.size sG⟩⟩;refine ⟨g,z,hg,hz,Nat.le_trans c02.size hzM,by rw [hzP];exact sP,?_⟩
  rw [if_pos (show (!false)=true from rfl)];exact hend
end
end Go.Proofs.YtpclhlhcegcflaaGreatDoor
