/- One part of the proof: Pk55 Pk56 Pk57 Pk58 Pk59 Pk60 Pk61 Pk62 Dfr2. -/
import Derived.ChangeKeysEq
import Derived.Test.YtpclhlhcegcflaaGreatDoorM1
import Derived.Test.YtpclhlhcegcflaaGreatDoorM3
import Derived.Test.YtpclhlhcegcflaaGreatDoorM12
import Derived.Test.YtpclhlhcegcflaaGreatDoorM13
import Derived.Test.YtpclhlhcegcflaaGreatDoorM16
namespace Go.Proofs.YtpclhlhcegcflaaGreatDoor
set_option maxRecDepth 100000
set_option linter.unusedSimpArgs false
set_option linter.unusedVariables false
section
open Go Go.RowKit
open E
open Ch Bb
def mcA (q:p7):Array Value:=#[s8 q.pc,s8 q.fo,s8 q.ro,s8 q.ca,s8 q.fi,s8 q.ra,s8 q.pr,s8 q.cs]
def mcV (q:p7):Value:=.agg (mcA q)
theorem c5U:(G.P.info? 394).map (·.size)=some 8:=by kernel_rfl
theorem zMc:∃ z,(G.P.info? 394).bind (·.zero)=some z∧z.cells.size=8:=a0H zk
structure PL (q:p7):Prop where
 l:q.pc.length≤1000∧q.fo.length≤1000∧q.ro.length≤1000∧q.ca.length≤1000∧q.fi.length≤1000∧q.ra.length≤1000∧q.pr.length≤1000∧q.cs.length≤1000
 ne:a5d q≠[]
 fi:q.fo≠[]→q.fi≠[]
theorem c59 (s:Tx) (i j:Nat):(a5L s i j).length≤s.length:=by unfold a5L;rw [List.length_take,List.length_drop];omega
theorem b1A {f:Nat→Option p7} {q:p7}:∀ n,a9I f n=some q→∃ k,k<n∧f k=some q
 | 0,h=>by cases h
 | n+1,h=>by
  rw [b0w] at h;cases e:f n with
  | none =>
   rw [e,c4X] at h;obtain ⟨k,hk,h2⟩:=b1A n h;exact ⟨k,zo,h2⟩
  | some x =>
   rw [e,c3L] at h;exact ⟨n,zo,by rw [e,h]⟩
theorem c5P {s:Tx} {q:p7} (hs:s.length≤1000) (h:zzP s=some q):PL q:=by
 unfold zzP at h;cases e:b5t s with
 | some x =>
  rw [e] at h;injection h with h;subst h;obtain ⟨a,_,ha⟩:=b1A _ e;obtain ⟨b,_,hb⟩:=b1A _ ha;obtain ⟨c,_,hc⟩:=b1A _ hb;obtain ⟨d,_,hd⟩:=b1A _ hc;unfold c41 at hd;split at hd
  ·rename_i hg;rw [Bool.and_eq_true] at hg;obtain ⟨k,_,hk⟩:=b1A _ hd;unfold c40 at hk;split at hk
   ·injection hk with hk;subst hk;have hl:=c4c hg.1;have hfi:(c4z s a b c d k).fi≠[]:=by
     show a5L s (a+b+c+d) (a+b+c+d+1)≠[];unfold a5L;rw [List.drop_eq_getElem_cons hl,show a+b+c+d+1-(a+b+c+d)=1 by omega]
     simpa using hl
    have hc:∀ i j,(a5L s i j).length≤1000:=fun i j=>Nat.le_trans (c59 s i j) hs;refine ⟨⟨hc _ _,hc _ _,hc _ _,hc _ _,hc _ _,hc _ _,hc _ _,by show 0≤1000;omega⟩,fun e=>hfi ?_,fun _=>hfi⟩
    unfold a5d at e;simp only [List.append_eq_nil_iff] at e;exact e.1.1.1.2
   ·cases hk
  ·cases hd
 | none =>
  rw [e] at h;simp only at h;split at h
  ·injection h with h;subst h;exact ⟨zd,zd,fun e=>absurd rfl e⟩
  ·split at h
   ·injection h with h;subst h;exact ⟨zd,zd,fun e=>absurd rfl e⟩
   ·cases h
theorem Bw.done {b:Nat} {w0 wr w w':World} {l:Tx} (h:Bw b wr w l) (h4:Below wr.heap.size w w') (c:Cl w0 wr) (hb:w0.heap.size≤b):Cl w0 w' :=
 ⟨h4.os.trans (h.nb.os.trans c.os),h4.tape.trans (h.nb.tape.trans c.tape),h4.output.trans (h.nb.output.trans c.output),Nat.le_trans c.size (Nat.le_trans h.nb.size h4.size),fun k hk =>
  (h4.block k (Nat.lt_of_lt_of_le hk c.size)).trans ((h.nb.else_ k (Nat.lt_of_lt_of_le hk c.size) (Nat.ne_of_lt (Nat.lt_of_lt_of_le hk hb))).trans (c.block k hk))⟩
set_option maxHeartbeats 1000000 in
theorem c33 {q:p7} (hq:PL q) (w:World):Calls G.P 344 #[mcV q] w (K4 (s8 (a5d q)) w):=by
 obtain ⟨l0,l1,l2,l3,l4,l5,l6,l7⟩:=hq.l;refine zN Tryz.func344 ?_;refine zG ?_;obtain ⟨W0,hW0⟩:∃ W0,W0=w.alloc (.cells (mcA q) 394):=⟨_,rfl⟩;have c0:Cl w W0:=by rw [hW0];exact Cl.alloc _ _
 have hx0:W0.heap[w.heap.size]?=some (.cells (mcA q) 394 (0,0)):=by rw [hW0];exact d8 _ _
 rw [← hW0];clear hW0;refine zR ?_;refine t7 _ b6l ?_;have c1:=Cl.alloc W0 (.cells (Value.agg #[.pointer none,.slice none 0 0]).cells 160);have nA:=d8 W0 (.cells (Value.agg #[.pointer none,.slice none 0 0]).cells 160);generalize W0.alloc (.cells (Value.agg #[.pointer none,.slice none 0 0]).cells 160)=w1 at *;have hxl0:=N2 hx0;refine zR ?_;refine o8 (b7v nA) ?_;rintro r w2 ⟨rfl,u2⟩;refine ⟨_,rfl,?_⟩;have h:=Bw.fresh u2.at_;have hxn:w.heap.size≠W0.heap.size:=Nat.ne_of_lt hxl0;have hx:=(Tn.upd u2).blk (c1.blk hx0) hxn;have hxl:=N2 hx;have cw:Cl w w2:=u2.cl (c0.trans c1) c0.size;refine zR ?_;refine d6 (s8 q.pc) (W1 (h.nb.blk hx hxl hxn) rfl rfl) (zR ?_);refine o8 (A6 q.pc h (by simp only [List.length_append,List.length_nil];omega)) ?_
 rintro r w3 ⟨rfl,h⟩;refine ⟨_,rfl,?_⟩;refine zR ?_;refine d6 (s8 q.fo) (W1 (h.nb.blk hx hxl hxn) rfl rfl) (zR ?_);refine o8 (A6 q.fo h (by simp only [List.length_append,List.length_nil];omega)) ?_
 rintro r w3 ⟨rfl,h⟩;refine ⟨_,rfl,?_⟩;refine zR ?_;refine d6 (s8 q.ro) (W1 (h.nb.blk hx hxl hxn) rfl rfl) (zR ?_);refine o8 (A6 q.ro h (by simp only [List.length_append,List.length_nil];omega)) ?_
 rintro r w3 ⟨rfl,h⟩;refine ⟨_,rfl,?_⟩;refine zR ?_;refine d6 (s8 q.ca) (W1 (h.nb.blk hx hxl hxn) rfl rfl) (zR ?_);refine o8 (A6 q.ca h (by simp only [List.length_append,List.length_nil];omega)) ?_
 rintro r w3 ⟨rfl,h⟩;refine ⟨_,rfl,?_⟩;refine zR ?_;refine d6 (s8 q.fi) (W1 (h.nb.blk hx hxl hxn) rfl rfl) (zR ?_);refine o8 (A6 q.fi h (by simp only [List.length_append,List.length_nil];omega)) ?_
 rintro r w3 ⟨rfl,h⟩;refine ⟨_,rfl,?_⟩;refine zR ?_;refine d6 (s8 q.ra) (W1 (h.nb.blk hx hxl hxn) rfl rfl) (zR ?_);refine o8 (A6 q.ra h (by simp only [List.length_append,List.length_nil];omega)) ?_
 rintro r w3 ⟨rfl,h⟩;refine ⟨_,rfl,?_⟩;refine zR ?_;refine d6 (s8 q.pr) (W1 (h.nb.blk hx hxl hxn) rfl rfl) (zR ?_);refine o8 (A6 q.pr h (by simp only [List.length_append,List.length_nil];omega)) ?_
 rintro r w3 ⟨rfl,h⟩;refine ⟨_,rfl,?_⟩;refine zR ?_;refine d6 (s8 q.cs) (W1 (h.nb.blk hx hxl hxn) rfl rfl) (zR ?_);refine o8 (A6 q.cs h (by simp only [List.length_append,List.length_nil];omega)) ?_
 rintro r w3 ⟨rfl,h⟩;refine ⟨_,rfl,?_⟩;have h:Bw W0.heap.size w2 w3 (a5d q):=by simpa [a5d] using h
 refine zR ?_;refine o8 (a5U h hq.ne (by unfold a5d;simp only [List.length_append];omega)) ?_
 rintro r w4 ⟨rfl,b4⟩;refine ⟨_,rfl,?_⟩;refine zR ?_;exact ⟨rfl,h.done b4 cw c0.size⟩
structure b4U (w:World) (bx bo bs:Nat) (q:p7) (wc:World) (vo:Value) (L:List Tx):Prop where
 hx:wc.heap[bx]?=some (.cells (mcA q) 394 (0,0))
 ho:wc.heap[bo]?=some (.cells #[vo] 42 (0,0))
 hk:∃ p v,wc.heap[bs]?=some (.cells #[p,v] 160 (0,0))
 hr:Row 9 1 a4E w.heap.size wc vo L
 cl:Cl w wc
 n1:w.heap.size≤bo
 n2:w.heap.size≤bs
 n3:bx≠bo
 n4:bx≠bs
 n5:bo≠bs
section opti
variable {w wc w2 w3 w4:World} {bx bo bs:Nat} {q:p7} {vo v':Value} {L L':List Tx}
theorem b4U.step (I:b4U w bx bo bs q wc vo L) (c:Cl wc w2):b4U w bx bo bs q w2 vo L:=by
 obtain ⟨p,v,hk⟩:=I.hk;exact ⟨c.blk I.hx,c.blk I.ho,⟨p,v,c.blk hk⟩,I.hr.step c,I.cl.trans c,I.n1,I.n2,I.n3,I.n4,I.n5⟩
theorem b4U.upd (I:b4U w bx bo bs q wc vo L) {p v p2 v2:Value} (hk:wc.heap[bs]?=some (.cells #[p,v] 160 (0,0))) (u:Upd wc bs (.cells #[p2,v2] 160 (0,0)) w2):b4U w bx bo bs q w2 vo L :=
 ⟨(Tn.upd u).blk I.hx I.n4,(Tn.upd u).blk I.ho I.n5,⟨p2,v2,u.at_⟩,I.hr.updT u hk zd,u.cl I.cl I.n2,I.n1,I.n2,I.n3,I.n4,I.n5⟩
theorem b4U.str (I:b4U w bx bo bs q w2 vo L) {T:Tx} (h:Bw bs w2 w3 T) (b4:Below w2.heap.size w3 w4):b4U w bx bo bs q w4 vo L:=by
 have n:Nb bs w2.heap.size w2 w4:=h.nb.trans ⟨b4.os,b4.tape,b4.output,Nat.le_trans h.nb.size b4.size,fun k hk _=>b4.block k hk⟩;obtain ⟨p,v,hk0⟩:=I.hk;obtain ⟨p3,v3,_,hk3,_⟩:=h.is;refine ⟨n.blk I.hx (N2 I.hx) I.n4,n.blk I.ho (N2 I.ho) I.n5,⟨p3,v3,(b4.block bs h.lt).trans hk3⟩,⟨I.hr.1,?_⟩,h.done b4 I.cl I.n2,I.n1,I.n2,I.n3,I.n4,I.n5⟩;rcases I.hr.2 with h2 | ⟨g,cap,cur,h1,h2,hb,h4⟩
 ·exact .inl h2
 ·exact .inr ⟨g,cap,cur,h1,h2,n.blk hb (N2 hb) (J4 hb hk0 zd),h4⟩
theorem b4U.gro (I:b4U w bx bo bs q wc vo L) (hg:a8b w.heap.size wc vo w2 v'):w2.heap[bo]?=some (.cells #[vo] 42 (0,0)):=KT.grow I.hr hg _ _ _ zd I.ho
theorem b4U.push (I:b4U w bx bo bs q wc vo L) (hg:a8b w.heap.size wc vo w2 v') (hr:Row 9 1 a4E w.heap.size w2 v' L') (u:Upd w2 bo (.cells #[v'] 42 (0,0)) w3):b4U w bx bo bs q w3 v' L':=by
 obtain ⟨p,v,hk⟩:=I.hk;have k:=KT.grow I.hr hg;exact ⟨(Tn.upd u).blk (k _ _ _ zd I.hx) I.n3,u.at_,⟨p,v,(Tn.upd u).blk (k _ _ _ zd hk) (Ne.symm I.n5)⟩,hr.updT u (I.gro hg) zd,u.cl (hg.toCl rfl I.cl) I.n1,I.n1,I.n2,I.n3,I.n4,I.n5⟩
end opti
theorem c6p:G.P.underlying 42=some (.slice 9):=by kernel_rfl
theorem c5A {w:World} {dst:Option Nat} {ty:Nat} {pos:String} {af:Array Edge} {gd:Option (Nat×Bool)} {env:C0} {K:Value→World→Prop} {x hi:Operand} (hx:ev env x = .slice none 0 0) (hh:ev env hi = .int .i64 0) (h:K (.slice none 0 0) w) :
  L5 G.P { dst,op:=.slice 42 x none (some hi) none,type:=ty,pos,after:=af,guard:=gd } env w K:=by
 obtain ⟨i,zv,hi2,hzv,hsz,hby,hzs⟩:=elStr.info;refine ⟨.inl ⟨.slice none 0 0,w,?_,h⟩⟩;show (do pure (Next.value (← Instr.slice 42 (ev env x) none (some (ev env hi)) none)):Sem Next).run G.P w=_
 rw [hx,hh];simp [Instr.slice,Instr.sliceBounds,Instr.sliceBound,asIntOf,Go.run_underlying c6p,sizeOf,typeInfo,hi2]
set_option maxHeartbeats 4000000 in
theorem c4A {q:p7} (hq:PL q) (w:World):Calls G.P 345 #[mcV q] w (fun r w'=>Cl w w'∧∃ v,r = .returned v∧Row 9 1 a4E w.heap.size w' v (a9R q)):=by
 obtain ⟨l0,l1,l2,l3,l4,l5,l6,l7⟩:=hq.l;refine zN Tryz.func345 ?_;refine zG ?_;obtain ⟨W0,hW0⟩:∃ W0,W0=w.alloc (.cells (mcA q) 394):=⟨_,rfl⟩;have c0:Cl w W0:=by rw [hW0];exact Cl.alloc _ _
 have hx0:W0.heap[w.heap.size]?=some (.cells (mcA q) 394 (0,0)):=by rw [hW0];exact d8 _ _
 rw [← hW0];clear hW0;refine zR ?_;refine t7 (.slice none 0 0) zk ?_;have c1:=Cl.alloc W0 (.cells (Value.slice none 0 0).cells 42);have ho1:(W0.alloc (.cells (Value.slice none 0 0).cells 42)).heap[W0.heap.size]?=some (.cells #[.slice none 0 0] 42 (0,0)):=d8 _ _;have s1:=y9 W0 (.cells (Value.slice none 0 0).cells 42);generalize W0.alloc (.cells (Value.slice none 0 0).cells 42)=w1 at *;have hxl0:=N2 hx0;obtain ⟨bx,hbx⟩:∃ b,b=w.heap.size:=⟨_,rfl⟩;obtain ⟨bo,hbo⟩:∃ b,b=W0.heap.size:=⟨_,rfl⟩;rw [← hbx] at hx0 hxl0;rw [show (⟨w.heap.size,0,none⟩:Addr)=⟨bx,0,none⟩ by rw [hbx]]
 rw [← hbo] at ho1 hxl0 s1 ⊢;have hx1:=c1.blk hx0;refine zR ?_;refine d6 _ (W1 ho1 rfl rfl) (zR ?_);refine c5A rfl rfl (zR ?_);refine zT ho1 [.slice none 0 0] fun w2 u2=>?_;have ho2:w2.heap[bo]?=some (.cells #[.slice none 0 0] 42 (0,0)):=u2.at_;have hx2:=(Tn.upd u2).blk hx1 zo;have c2:Cl w w2:=u2.cl (c0.trans c1) zo;clear u2 c1 ho1 hx1 hx0;refine zR ?_;refine t7 _ b6l ?_;have c3:=c2.trans (Cl.alloc w2 (.cells (Value.agg #[.pointer none,.slice none 0 0]).cells 160));have nA:=d8 w2 (.cells (Value.agg #[.pointer none,.slice none 0 0]).cells 160);have hx3:=(Cl.alloc w2 (.cells (Value.agg #[.pointer none,.slice none 0 0]).cells 160)).blk hx2;have ho3:=(Cl.alloc w2 (.cells (Value.agg #[.pointer none,.slice none 0 0]).cells 160)).blk ho2;have sb:=N2 ho2;obtain ⟨bs,hbs⟩:∃ b,b=w2.heap.size:=⟨_,rfl⟩;rw [← hbs] at nA sb ⊢;generalize w2.alloc (.cells (Value.agg #[.pointer none,.slice none 0 0]).cells 160)=w3 at *;clear hx2 ho2 c2;have I:b4U w bx bo bs q w3 (.slice none 0 0) []:=⟨hx3,ho3,⟨_,_,nA⟩,Row.nil _ _,c3,zo,zo,zo,zo,zo⟩;clear nA hx3 ho3 c3;refine zR ?_;refine d6 (s8 q.pc) (W1 I.hx rfl rfl) (zR ?_);apply E.r9<;>intro h
 ·have hpc:q.pc≠[]:=fun e=>h (by rw [e];rfl)
  have eo:a9R q=[]++[q.pc++q.ca++q.fi++q.ra++q.pr++q.cs]++[q.pc++q.ro++q.ca++q.fi++q.ra++q.pr++q.cs]++[q.pc++q.fo++q.ca++q.fi++q.ra++q.pr++q.cs]:=by unfold a9R;rw [if_pos hpc];rfl
  rw [eo];clear eo h;obtain ⟨pk,vk,hk⟩:=I.hk;refine zR ?_;refine o8 (b7v hk) ?_;rintro r w2 ⟨rfl,u2⟩;refine ⟨_,rfl,?_⟩;have h:=Bw.fresh u2.at_;have I:=I.upd hk u2;have hx:=I.hx;have hxl:=N2 hx;have hxn:=I.n4;refine zR ?_;refine d6 (s8 q.pc) (W1 (h.nb.blk hx hxl hxn) rfl rfl) (zR ?_);refine o8 (A6 q.pc h (by simp only [List.length_append,List.length_nil];omega)) ?_
  rintro r w3 ⟨rfl,h⟩;refine ⟨_,rfl,?_⟩;refine zR ?_;refine d6 (s8 q.ca) (W1 (h.nb.blk hx hxl hxn) rfl rfl) (zR ?_);refine o8 (A6 q.ca h (by simp only [List.length_append,List.length_nil];omega)) ?_
  rintro r w3 ⟨rfl,h⟩;refine ⟨_,rfl,?_⟩;refine zR ?_;refine d6 (s8 q.fi) (W1 (h.nb.blk hx hxl hxn) rfl rfl) (zR ?_);refine o8 (A6 q.fi h (by simp only [List.length_append,List.length_nil];omega)) ?_
  rintro r w3 ⟨rfl,h⟩;refine ⟨_,rfl,?_⟩;refine zR ?_;refine d6 (s8 q.ra) (W1 (h.nb.blk hx hxl hxn) rfl rfl) (zR ?_);refine o8 (A6 q.ra h (by simp only [List.length_append,List.length_nil];omega)) ?_
  rintro r w3 ⟨rfl,h⟩;refine ⟨_,rfl,?_⟩;refine zR ?_;refine d6 (s8 q.pr) (W1 (h.nb.blk hx hxl hxn) rfl rfl) (zR ?_);refine o8 (A6 q.pr h (by simp only [List.length_append,List.length_nil];omega)) ?_
  rintro r w3 ⟨rfl,h⟩;refine ⟨_,rfl,?_⟩;refine zR ?_;refine d6 (s8 q.cs) (W1 (h.nb.blk hx hxl hxn) rfl rfl) (zR ?_);refine o8 (A6 q.cs h (by simp only [List.length_append,List.length_nil];omega)) ?_
  rintro r w3 ⟨rfl,h⟩;refine ⟨_,rfl,?_⟩;have h:Bw bs w2 w3 (q.pc++q.ca++q.fi++q.ra++q.pr++q.cs):=by simpa using h
  generalize hTA:q.pc++q.ca++q.fi++q.ra++q.pr++q.cs=TA at *;have hneA:TA≠[]:=by rw [← hTA];simp [hpc]
  have hleA:TA.length≤1000000:=by rw [← hTA];simp only [List.length_append];omega
  refine zG ?_;refine A4 (σ:=Value) [] 5 (fun _=>[]) (fun v w'=>(∃ a c,v = .slice a (([]:List Tx)++[TA]).length c)∧b4U w bx bo bs q w' v (([]:List Tx)++[TA])) zk ?_ (fun v j w7 I=>?_)
  ·refine zR ?_;refine I8.mk2 [0,1,2,4] (.cons 3 (.cons 5 (.cons 6 (.cons 7 (.cons 8 (.cons 9 .done .nil) .nil) .nil) .nil) .nil) (.cons 5 (.cons 3 (.cons 6 (.cons 7 (.cons 8 (.cons 9 .done .nil) .nil) .nil) .nil) (.cons 6 (.cons 3 (.cons 7 (.cons 8 (.cons 9 .done .nil) .nil) .nil) .nil) .nil)) .nil)) zk (zR ?_);have I2:=I;have I:=I.str (h.step (Cl.drew (Cl.refl _))) (Below.refl _ _);have h:=h.step (Cl.drew (Cl.refl _));refine And.intro ?aA (And.intro ?bA trivial)
   case' aA =>
    refine zR ?_;refine d6 _ (W1 I.ho rfl rfl) (zE ?_);refine o8 (a5U h hneA hleA) ?_;rintro r w4 ⟨rfl,b4⟩;refine ⟨_,rfl,?_⟩;have I:=I2.str h b4;refine zE ?_;refine E6 elStr [s8 TA] (by rw [Array.toList_map];rfl) (by simp [Value.cells,s8]) rfl zd zd ?_
    have hb5:Row 9 1 a4E w4.heap.size (w4.alloc (.cells (([s8 TA]:List Value).flatMap fun v=>v.cells.toList).toArray 9)) (.slice (some ⟨w4.heap.size,0,none⟩) 1 1) [TA]:=H9 B5 w4 [TA] (Nat.le_of_ble_eq_true rfl) _ rfl;have I:=I.step (Cl.alloc w4 (.cells (([s8 TA]:List Value).flatMap fun v=>v.cells.toList).toArray 9));generalize w4.alloc (.cells (([s8 TA]:List Value).flatMap fun v=>v.cells.toList).toArray 9)=w5 at *
   case' bA =>
    refine zR ?_;refine o8 (a5U h hneA hleA) ?_;rintro r w4 ⟨rfl,b4⟩;refine ⟨_,rfl,?_⟩;have I:=I2.str h b4;refine zR ?_;refine And.intro ?cA (And.intro ?dA trivial)
   case' cA =>
    refine zR ?_;refine d6 _ (W1 I.ho rfl rfl) (zE ?_);refine E6 elStr [s8 TA] (by rw [Array.toList_map];rfl) (by simp [Value.cells,s8]) rfl zd zd ?_
    have hb5:Row 9 1 a4E w4.heap.size (w4.alloc (.cells (([s8 TA]:List Value).flatMap fun v=>v.cells.toList).toArray 9)) (.slice (some ⟨w4.heap.size,0,none⟩) 1 1) [TA]:=H9 B5 w4 [TA] (Nat.le_of_ble_eq_true rfl) _ rfl;have I:=I.step (Cl.alloc w4 (.cells (([s8 TA]:List Value).flatMap fun v=>v.cells.toList).toArray 9));generalize w4.alloc (.cells (([s8 TA]:List Value).flatMap fun v=>v.cells.toList).toArray 9)=w5 at *
   case' dA =>
    refine zR ?_;refine E6 elStr [s8 TA] (by rw [Array.toList_map];rfl) (by simp [Value.cells,s8]) rfl zd zd ?_
    have hb5:Row 9 1 a4E w4.heap.size (w4.alloc (.cells (([s8 TA]:List Value).flatMap fun v=>v.cells.toList).toArray 9)) (.slice (some ⟨w4.heap.size,0,none⟩) 1 1) [TA]:=H9 B5 w4 [TA] (Nat.le_of_ble_eq_true rfl) _ rfl;have I:=I.step (Cl.alloc w4 (.cells (([s8 TA]:List Value).flatMap fun v=>v.cells.toList).toArray 9));generalize w4.alloc (.cells (([s8 TA]:List Value).flatMap fun v=>v.cells.toList).toArray 9)=w5 at *;refine zE ?_;refine d6 _ (W1 I.ho rfl rfl) ?_
   all_goals
    refine zE ?_;refine J2 elStr (v:=.slice none 0 0) (l:=([]:List Tx)) (news:=[TA]) rfl I.hr rfl hb5 B5 a8S (by simp<;>omega) zd I.cl.size fun v6 w6 hr6 hg=>?_
    obtain ⟨aA,cA,rfl,_⟩:=hr6.form;refine zE ?_;refine And.intro (zR ?_) trivial;refine J6 (I.gro hg) [.slice aA (([]:List Tx)++[TA]).length cA] rfl zk rfl (by intro v hv;simp at hv;subst hv;rfl) (Nat.le_of_ble_eq_true rfl) fun w7 u7=>zR ?_
    exact ⟨.slice aA (([]:List Tx)++[TA]).length cA,trivial,⟨_,_,rfl⟩,I.push hg hr6 u7⟩
  obtain ⟨⟨aA,cA,rfl⟩,I⟩:=I;clear h hx hxl u2 hk hTA hneA hleA;obtain ⟨pk,vk,hk⟩:=I.hk;refine zR ?_;refine o8 (b7v hk) ?_;rintro r w2 ⟨rfl,u2⟩;refine ⟨_,rfl,?_⟩;have h:=Bw.fresh u2.at_;have I:=I.upd hk u2;have hx:=I.hx;have hxl:=N2 hx;have hxn:=I.n4;refine zR ?_;refine d6 (s8 q.pc) (W1 (h.nb.blk hx hxl hxn) rfl rfl) (zR ?_);refine o8 (A6 q.pc h (by simp only [List.length_append,List.length_nil];omega)) ?_
  rintro r w3 ⟨rfl,h⟩;refine ⟨_,rfl,?_⟩;refine zR ?_;refine d6 (s8 q.ro) (W1 (h.nb.blk hx hxl hxn) rfl rfl) (zR ?_);refine o8 (A6 q.ro h (by simp only [List.length_append,List.length_nil];omega)) ?_
  rintro r w3 ⟨rfl,h⟩;refine ⟨_,rfl,?_⟩;refine zR ?_;refine d6 (s8 q.ca) (W1 (h.nb.blk hx hxl hxn) rfl rfl) (zR ?_);refine o8 (A6 q.ca h (by simp only [List.length_append,List.length_nil];omega)) ?_
  rintro r w3 ⟨rfl,h⟩;refine ⟨_,rfl,?_⟩;refine zR ?_;refine d6 (s8 q.fi) (W1 (h.nb.blk hx hxl hxn) rfl rfl) (zR ?_);refine o8 (A6 q.fi h (by simp only [List.length_append,List.length_nil];omega)) ?_
  rintro r w3 ⟨rfl,h⟩;refine ⟨_,rfl,?_⟩;refine zR ?_;refine d6 (s8 q.ra) (W1 (h.nb.blk hx hxl hxn) rfl rfl) (zR ?_);refine o8 (A6 q.ra h (by simp only [List.length_append,List.length_nil];omega)) ?_
  rintro r w3 ⟨rfl,h⟩;refine ⟨_,rfl,?_⟩;refine zR ?_;refine d6 (s8 q.pr) (W1 (h.nb.blk hx hxl hxn) rfl rfl) (zR ?_);refine o8 (A6 q.pr h (by simp only [List.length_append,List.length_nil];omega)) ?_
  rintro r w3 ⟨rfl,h⟩;refine ⟨_,rfl,?_⟩;refine zR ?_;refine d6 (s8 q.cs) (W1 (h.nb.blk hx hxl hxn) rfl rfl) (zR ?_);refine o8 (A6 q.cs h (by simp only [List.length_append,List.length_nil];omega)) ?_
  rintro r w3 ⟨rfl,h⟩;refine ⟨_,rfl,?_⟩;have h:Bw bs w2 w3 (q.pc++q.ro++q.ca++q.fi++q.ra++q.pr++q.cs):=by simpa using h
  generalize hTB:q.pc++q.ro++q.ca++q.fi++q.ra++q.pr++q.cs=TB at *;have hneB:TB≠[]:=by rw [← hTB];simp [hpc]
  have hleB:TB.length≤1000000:=by rw [← hTB];simp only [List.length_append];omega
  refine zG ?_;refine A4 (σ:=Value) [] 5 (fun _=>[]) (fun v w'=>(∃ a c,v = .slice a (([]++[TA])++[TB]).length c)∧b4U w bx bo bs q w' v (([]++[TA])++[TB])) zk ?_ (fun v j w7 I=>?_)
  ·refine zR ?_;refine I8.mk2 [0,1,2,4] (.cons 3 (.cons 5 (.cons 6 (.cons 7 (.cons 8 (.cons 9 .done .nil) .nil) .nil) .nil) .nil) (.cons 5 (.cons 3 (.cons 6 (.cons 7 (.cons 8 (.cons 9 .done .nil) .nil) .nil) .nil) (.cons 6 (.cons 3 (.cons 7 (.cons 8 (.cons 9 .done .nil) .nil) .nil) .nil) .nil)) .nil)) zk (zR ?_);have I2:=I;have I:=I.str (h.step (Cl.drew (Cl.refl _))) (Below.refl _ _);have h:=h.step (Cl.drew (Cl.refl _));refine And.intro ?aB (And.intro ?bB trivial)
   case' aB =>
    refine zR ?_;refine d6 _ (W1 I.ho rfl rfl) (zE ?_);refine o8 (a5U h hneB hleB) ?_;rintro r w4 ⟨rfl,b4⟩;refine ⟨_,rfl,?_⟩;have I:=I2.str h b4;refine zE ?_;refine E6 elStr [s8 TB] (by rw [Array.toList_map];rfl) (by simp [Value.cells,s8]) rfl zd zd ?_
    have hb5:Row 9 1 a4E w4.heap.size (w4.alloc (.cells (([s8 TB]:List Value).flatMap fun v=>v.cells.toList).toArray 9)) (.slice (some ⟨w4.heap.size,0,none⟩) 1 1) [TB]:=H9 B5 w4 [TB] (Nat.le_of_ble_eq_true rfl) _ rfl;have I:=I.step (Cl.alloc w4 (.cells (([s8 TB]:List Value).flatMap fun v=>v.cells.toList).toArray 9));generalize w4.alloc (.cells (([s8 TB]:List Value).flatMap fun v=>v.cells.toList).toArray 9)=w5 at *
   case' bB =>
    refine zR ?_;refine o8 (a5U h hneB hleB) ?_;rintro r w4 ⟨rfl,b4⟩;refine ⟨_,rfl,?_⟩;have I:=I2.str h b4;refine zR ?_;refine And.intro ?cB (And.intro ?dB trivial)
   case' cB =>
    refine zR ?_;refine d6 _ (W1 I.ho rfl rfl) (zE ?_);refine E6 elStr [s8 TB] (by rw [Array.toList_map];rfl) (by simp [Value.cells,s8]) rfl zd zd ?_
    have hb5:Row 9 1 a4E w4.heap.size (w4.alloc (.cells (([s8 TB]:List Value).flatMap fun v=>v.cells.toList).toArray 9)) (.slice (some ⟨w4.heap.size,0,none⟩) 1 1) [TB]:=H9 B5 w4 [TB] (Nat.le_of_ble_eq_true rfl) _ rfl;have I:=I.step (Cl.alloc w4 (.cells (([s8 TB]:List Value).flatMap fun v=>v.cells.toList).toArray 9));generalize w4.alloc (.cells (([s8 TB]:List Value).flatMap fun v=>v.cells.toList).toArray 9)=w5 at *
   case' dB =>
    refine zR ?_;refine E6 elStr [s8 TB] (by rw [Array.toList_map];rfl) (by simp [Value.cells,s8]) rfl zd zd ?_
    have hb5:Row 9 1 a4E w4.heap.size (w4.alloc (.cells (([s8 TB]:List Value).flatMap fun v=>v.cells.toList).toArray 9)) (.slice (some ⟨w4.heap.size,0,none⟩) 1 1) [TB]:=H9 B5 w4 [TB] (Nat.le_of_ble_eq_true rfl) _ rfl;have I:=I.step (Cl.alloc w4 (.cells (([s8 TB]:List Value).flatMap fun v=>v.cells.toList).toArray 9));generalize w4.alloc (.cells (([s8 TB]:List Value).flatMap fun v=>v.cells.toList).toArray 9)=w5 at *;refine zE ?_;refine d6 _ (W1 I.ho rfl rfl) ?_
   all_goals
    refine zE ?_;refine J2 elStr (v:=.slice aA ([]++[TA]).length cA) (l:=([]++[TA])) (news:=[TB]) rfl I.hr rfl hb5 B5 a8S (by simp<;>omega) zd I.cl.size fun v6 w6 hr6 hg=>?_
    obtain ⟨aB,cB,rfl,_⟩:=hr6.form;refine zE ?_;refine And.intro (zR ?_) trivial;refine J6 (I.gro hg) [.slice aB (([]++[TA])++[TB]).length cB] rfl zk rfl (by intro v hv;simp at hv;subst hv;rfl) (Nat.le_of_ble_eq_true rfl) fun w7 u7=>zR ?_
    exact ⟨.slice aB (([]++[TA])++[TB]).length cB,trivial,⟨_,_,rfl⟩,I.push hg hr6 u7⟩
  obtain ⟨⟨aB,cB,rfl⟩,I⟩:=I;clear h hx hxl u2 hk hTB hneB hleB;obtain ⟨pk,vk,hk⟩:=I.hk;refine zR ?_;refine o8 (b7v hk) ?_;rintro r w2 ⟨rfl,u2⟩;refine ⟨_,rfl,?_⟩;have h:=Bw.fresh u2.at_;have I:=I.upd hk u2;have hx:=I.hx;have hxl:=N2 hx;have hxn:=I.n4;refine zR ?_;refine d6 (s8 q.pc) (W1 (h.nb.blk hx hxl hxn) rfl rfl) (zR ?_);refine o8 (A6 q.pc h (by simp only [List.length_append,List.length_nil];omega)) ?_
  rintro r w3 ⟨rfl,h⟩;refine ⟨_,rfl,?_⟩;refine zR ?_;refine d6 (s8 q.fo) (W1 (h.nb.blk hx hxl hxn) rfl rfl) (zR ?_);refine o8 (A6 q.fo h (by simp only [List.length_append,List.length_nil];omega)) ?_
  rintro r w3 ⟨rfl,h⟩;refine ⟨_,rfl,?_⟩;refine zR ?_;refine d6 (s8 q.ca) (W1 (h.nb.blk hx hxl hxn) rfl rfl) (zR ?_);refine o8 (A6 q.ca h (by simp only [List.length_append,List.length_nil];omega)) ?_
  rintro r w3 ⟨rfl,h⟩;refine ⟨_,rfl,?_⟩;refine zR ?_;refine d6 (s8 q.fi) (W1 (h.nb.blk hx hxl hxn) rfl rfl) (zR ?_);refine o8 (A6 q.fi h (by simp only [List.length_append,List.length_nil];omega)) ?_
  rintro r w3 ⟨rfl,h⟩;refine ⟨_,rfl,?_⟩;refine zR ?_;refine d6 (s8 q.ra) (W1 (h.nb.blk hx hxl hxn) rfl rfl) (zR ?_);refine o8 (A6 q.ra h (by simp only [List.length_append,List.length_nil];omega)) ?_
  rintro r w3 ⟨rfl,h⟩;refine ⟨_,rfl,?_⟩;refine zR ?_;refine d6 (s8 q.pr) (W1 (h.nb.blk hx hxl hxn) rfl rfl) (zR ?_);refine o8 (A6 q.pr h (by simp only [List.length_append,List.length_nil];omega)) ?_
  rintro r w3 ⟨rfl,h⟩;refine ⟨_,rfl,?_⟩;refine zR ?_;refine d6 (s8 q.cs) (W1 (h.nb.blk hx hxl hxn) rfl rfl) (zR ?_);refine o8 (A6 q.cs h (by simp only [List.length_append,List.length_nil];omega)) ?_
  rintro r w3 ⟨rfl,h⟩;refine ⟨_,rfl,?_⟩;have h:Bw bs w2 w3 (q.pc++q.fo++q.ca++q.fi++q.ra++q.pr++q.cs):=by simpa using h
  generalize hTC:q.pc++q.fo++q.ca++q.fi++q.ra++q.pr++q.cs=TC at *;have hneC:TC≠[]:=by rw [← hTC];simp [hpc]
  have hleC:TC.length≤1000000:=by rw [← hTC];simp only [List.length_append];omega
  refine zR ?_;refine I8.mk2 [0,1,2,4] (.cons 3 (.cons 5 (.cons 6 (.cons 7 (.cons 8 (.cons 9 .done .nil) .nil) .nil) .nil) .nil) (.cons 5 (.cons 3 (.cons 6 (.cons 7 (.cons 8 (.cons 9 .done .nil) .nil) .nil) .nil) (.cons 6 (.cons 3 (.cons 7 (.cons 8 (.cons 9 .done .nil) .nil) .nil) .nil) .nil)) .nil)) zk (zR ?_);have I2:=I;have I:=I.str (h.step (Cl.drew (Cl.refl _))) (Below.refl _ _);have h:=h.step (Cl.drew (Cl.refl _));refine And.intro ?aC (And.intro ?bC trivial)
  case' aC =>
   refine zR ?_;refine d6 _ (W1 I.ho rfl rfl) (zE ?_);refine o8 (a5U h hneC hleC) ?_;rintro r w4 ⟨rfl,b4⟩;refine ⟨_,rfl,?_⟩;have I:=I2.str h b4;refine zE ?_;refine E6 elStr [s8 TC] (by rw [Array.toList_map];rfl) (by simp [Value.cells,s8]) rfl zd zd ?_
   have hb5:Row 9 1 a4E w4.heap.size (w4.alloc (.cells (([s8 TC]:List Value).flatMap fun v=>v.cells.toList).toArray 9)) (.slice (some ⟨w4.heap.size,0,none⟩) 1 1) [TC]:=H9 B5 w4 [TC] (Nat.le_of_ble_eq_true rfl) _ rfl;have I:=I.step (Cl.alloc w4 (.cells (([s8 TC]:List Value).flatMap fun v=>v.cells.toList).toArray 9));generalize w4.alloc (.cells (([s8 TC]:List Value).flatMap fun v=>v.cells.toList).toArray 9)=w5 at *
  case' bC =>
   refine zR ?_;refine o8 (a5U h hneC hleC) ?_;rintro r w4 ⟨rfl,b4⟩;refine ⟨_,rfl,?_⟩;have I:=I2.str h b4;refine zR ?_;refine And.intro ?cC (And.intro ?dC trivial)
  case' cC =>
   refine zR ?_;refine d6 _ (W1 I.ho rfl rfl) (zE ?_);refine E6 elStr [s8 TC] (by rw [Array.toList_map];rfl) (by simp [Value.cells,s8]) rfl zd zd ?_
   have hb5:Row 9 1 a4E w4.heap.size (w4.alloc (.cells (([s8 TC]:List Value).flatMap fun v=>v.cells.toList).toArray 9)) (.slice (some ⟨w4.heap.size,0,none⟩) 1 1) [TC]:=H9 B5 w4 [TC] (Nat.le_of_ble_eq_true rfl) _ rfl;have I:=I.step (Cl.alloc w4 (.cells (([s8 TC]:List Value).flatMap fun v=>v.cells.toList).toArray 9));generalize w4.alloc (.cells (([s8 TC]:List Value).flatMap fun v=>v.cells.toList).toArray 9)=w5 at *
  case' dC =>
   refine zR ?_;refine E6 elStr [s8 TC] (by rw [Array.toList_map];rfl) (by simp [Value.cells,s8]) rfl zd zd ?_
   have hb5:Row 9 1 a4E w4.heap.size (w4.alloc (.cells (([s8 TC]:List Value).flatMap fun v=>v.cells.toList).toArray 9)) (.slice (some ⟨w4.heap.size,0,none⟩) 1 1) [TC]:=H9 B5 w4 [TC] (Nat.le_of_ble_eq_true rfl) _ rfl;have I:=I.step (Cl.alloc w4 (.cells (([s8 TC]:List Value).flatMap fun v=>v.cells.toList).toArray 9));generalize w4.alloc (.cells (([s8 TC]:List Value).flatMap fun v=>v.cells.toList).toArray 9)=w5 at *;refine zE ?_;refine d6 _ (W1 I.ho rfl rfl) ?_
  all_goals
   refine zE ?_;refine J2 elStr (v:=.slice aB ([]++[TA]++[TB]).length cB) (l:=([]++[TA]++[TB])) (news:=[TC]) rfl I.hr rfl hb5 B5 a8S (by simp<;>omega) zd I.cl.size fun v6 w6 hr6 hg=>?_
   obtain ⟨aC,cC,rfl,_⟩:=hr6.form;refine zE ?_;refine And.intro (zR ?_) trivial;refine J6 (I.gro hg) [.slice aC (([]++[TA]++[TB])++[TC]).length cC] rfl zk rfl (by intro v hv;simp at hv;subst hv;rfl) (Nat.le_of_ble_eq_true rfl) fun w7 u7=>zR ?_
   have I:=I.push hg hr6 u7;refine d6 _ (W1 I.ho rfl rfl) (zR ?_);exact ⟨I.cl,_,rfl,I.hr⟩
 ·have hpc:q.pc=[]:=by rw [a0E] at h;exact a0p.1 h
  obtain ⟨L1,hL1⟩:∃ L1:List Tx,L1=if q.ca≠[] then [q.fo++q.ca++q.fi++q.ra++q.pr] else []:=⟨_,rfl⟩
  have eo:a9R q=L1++(if q.fo≠[]∧q.ro≠[] then [q.ca++q.fi++q.ra++q.pr] else []):=by unfold a9R;rw [if_neg (fun e=>e hpc),hL1]
  rw [eo];clear eo h;refine Cx.mk ?_;refine Nx.go ?_;refine A4 (σ:=Value) [] 5 (fun _=>[]) (fun v w'=>(∃ a c,v = .slice a L1.length c)∧b4U w bx bo bs q w' v L1) zk ?_ (fun v j w8 I=>?_)
  ·refine zR ?_;refine d6 (s8 q.ca) (W1 I.hx rfl rfl) (zR ?_);apply E.r9<;>intro h
   ·have hca:q.ca≠[]:=fun e=>h (by rw [e];rfl)
    rw [if_pos hca] at hL1;subst hL1;clear h;obtain ⟨pk,vk,hk⟩:=I.hk;refine zR ?_;refine o8 (b7v hk) ?_;rintro r w2 ⟨rfl,u2⟩;refine ⟨_,rfl,?_⟩;have h:=Bw.fresh u2.at_;have I:=I.upd hk u2;have hx:=I.hx;have hxl:=N2 hx;have hxn:=I.n4;refine zR ?_;refine d6 (s8 q.fo) (W1 (h.nb.blk hx hxl hxn) rfl rfl) (zR ?_);refine o8 (A6 q.fo h (by simp only [List.length_append,List.length_nil];omega)) ?_
    rintro r w3 ⟨rfl,h⟩;refine ⟨_,rfl,?_⟩;refine zR ?_;refine d6 (s8 q.ca) (W1 (h.nb.blk hx hxl hxn) rfl rfl) (zR ?_);refine o8 (A6 q.ca h (by simp only [List.length_append,List.length_nil];omega)) ?_
    rintro r w3 ⟨rfl,h⟩;refine ⟨_,rfl,?_⟩;refine zR ?_;refine d6 (s8 q.fi) (W1 (h.nb.blk hx hxl hxn) rfl rfl) (zR ?_);refine o8 (A6 q.fi h (by simp only [List.length_append,List.length_nil];omega)) ?_
    rintro r w3 ⟨rfl,h⟩;refine ⟨_,rfl,?_⟩;refine zR ?_;refine d6 (s8 q.ra) (W1 (h.nb.blk hx hxl hxn) rfl rfl) (zR ?_);refine o8 (A6 q.ra h (by simp only [List.length_append,List.length_nil];omega)) ?_
    rintro r w3 ⟨rfl,h⟩;refine ⟨_,rfl,?_⟩;refine zR ?_;refine d6 (s8 q.pr) (W1 (h.nb.blk hx hxl hxn) rfl rfl) (zR ?_);refine o8 (A6 q.pr h (by simp only [List.length_append,List.length_nil];omega)) ?_
    rintro r w3 ⟨rfl,h⟩;refine ⟨_,rfl,?_⟩;have h:Bw bs w2 w3 (q.fo++q.ca++q.fi++q.ra++q.pr):=by simpa using h
    generalize hTD:q.fo++q.ca++q.fi++q.ra++q.pr=TD at *;have hneD:TD≠[]:=by rw [← hTD];simp [hca]
    have hleD:TD.length≤1000000:=by rw [← hTD];simp only [List.length_append];omega
    refine zR ?_;refine I8.mk2 [0,1,2,4] (.cons 3 (.cons 5 (.cons 6 (.cons 7 (.cons 8 (.cons 9 .done .nil) .nil) .nil) .nil) .nil) (.cons 5 (.cons 3 (.cons 6 (.cons 7 (.cons 8 (.cons 9 .done .nil) .nil) .nil) .nil) (.cons 6 (.cons 3 (.cons 7 (.cons 8 (.cons 9 .done .nil) .nil) .nil) .nil) .nil)) .nil)) zk (zR ?_);have I2:=I;have I:=I.str (h.step (Cl.drew (Cl.refl _))) (Below.refl _ _);have h:=h.step (Cl.drew (Cl.refl _));refine And.intro ?aD (And.intro ?bD trivial)
    case' aD =>
     refine zR ?_;refine d6 _ (W1 I.ho rfl rfl) (zE ?_);refine o8 (a5U h hneD hleD) ?_;rintro r w4 ⟨rfl,b4⟩;refine ⟨_,rfl,?_⟩;have I:=I2.str h b4;refine zE ?_;refine E6 elStr [s8 TD] (by rw [Array.toList_map];rfl) (by simp [Value.cells,s8]) rfl zd zd ?_
     have hb5:Row 9 1 a4E w4.heap.size (w4.alloc (.cells (([s8 TD]:List Value).flatMap fun v=>v.cells.toList).toArray 9)) (.slice (some ⟨w4.heap.size,0,none⟩) 1 1) [TD]:=H9 B5 w4 [TD] (Nat.le_of_ble_eq_true rfl) _ rfl;have I:=I.step (Cl.alloc w4 (.cells (([s8 TD]:List Value).flatMap fun v=>v.cells.toList).toArray 9));generalize w4.alloc (.cells (([s8 TD]:List Value).flatMap fun v=>v.cells.toList).toArray 9)=w5 at *
    case' bD =>
     refine zR ?_;refine o8 (a5U h hneD hleD) ?_;rintro r w4 ⟨rfl,b4⟩;refine ⟨_,rfl,?_⟩;have I:=I2.str h b4;refine zR ?_;refine And.intro ?cD (And.intro ?dD trivial)
    case' cD =>
     refine zR ?_;refine d6 _ (W1 I.ho rfl rfl) (zE ?_);refine E6 elStr [s8 TD] (by rw [Array.toList_map];rfl) (by simp [Value.cells,s8]) rfl zd zd ?_
     have hb5:Row 9 1 a4E w4.heap.size (w4.alloc (.cells (([s8 TD]:List Value).flatMap fun v=>v.cells.toList).toArray 9)) (.slice (some ⟨w4.heap.size,0,none⟩) 1 1) [TD]:=H9 B5 w4 [TD] (Nat.le_of_ble_eq_true rfl) _ rfl;have I:=I.step (Cl.alloc w4 (.cells (([s8 TD]:List Value).flatMap fun v=>v.cells.toList).toArray 9));generalize w4.alloc (.cells (([s8 TD]:List Value).flatMap fun v=>v.cells.toList).toArray 9)=w5 at *
    case' dD =>
     refine zR ?_;refine E6 elStr [s8 TD] (by rw [Array.toList_map];rfl) (by simp [Value.cells,s8]) rfl zd zd ?_
     have hb5:Row 9 1 a4E w4.heap.size (w4.alloc (.cells (([s8 TD]:List Value).flatMap fun v=>v.cells.toList).toArray 9)) (.slice (some ⟨w4.heap.size,0,none⟩) 1 1) [TD]:=H9 B5 w4 [TD] (Nat.le_of_ble_eq_true rfl) _ rfl;have I:=I.step (Cl.alloc w4 (.cells (([s8 TD]:List Value).flatMap fun v=>v.cells.toList).toArray 9));generalize w4.alloc (.cells (([s8 TD]:List Value).flatMap fun v=>v.cells.toList).toArray 9)=w5 at *;refine zE ?_;refine d6 _ (W1 I.ho rfl rfl) ?_
    all_goals
     refine zE ?_;refine J2 elStr (v:=.slice none 0 0) (l:=([]:List Tx)) (news:=[TD]) rfl I.hr rfl hb5 B5 a8S (by simp<;>omega) zd I.cl.size fun v6 w6 hr6 hg=>?_
     obtain ⟨aD,cD,rfl,_⟩:=hr6.form;refine zE ?_;refine And.intro (zR ?_) trivial;refine J6 (I.gro hg) [.slice aD (([]:List Tx)++[TD]).length cD] rfl zk rfl (by intro v hv;simp at hv;subst hv;rfl) (Nat.le_of_ble_eq_true rfl) fun w7 u7=>zR ?_
     exact ⟨.slice aD ([]++[TD]).length cD,trivial,⟨aD,cD,rfl⟩,I.push hg hr6 u7⟩
   ·have hca:q.ca=[]:=by rw [a0E] at h;exact a0p.1 h
    rw [if_neg (fun e=>e hca)] at hL1;subst hL1;refine zR ?_;exact ⟨.slice none 0 0,trivial,⟨_,_,rfl⟩,I⟩
  obtain ⟨⟨aE,cE,rfl⟩,I⟩:=I;have hl1:L1.length≤1:=by rw [hL1];split<;>simp
  clear hL1;refine zR ?_;refine d6 (s8 q.fo) (W1 I.hx rfl rfl) (zR ?_);apply E.r9<;>intro h
  ·have hfo:q.fo≠[]:=fun e=>h (by rw [e];rfl)
   have hfi:=hq.fi hfo;clear h;refine zR ?_;refine d6 (s8 q.ro) (W1 I.hx rfl rfl) (zR ?_);apply E.r9<;>intro h
   ·have hro:q.ro≠[]:=fun e=>h (by rw [e];rfl)
    clear h;rw [if_pos ⟨hfo,hro⟩];obtain ⟨pk,vk,hk⟩:=I.hk;refine zR ?_;refine o8 (b7v hk) ?_;rintro r w2 ⟨rfl,u2⟩;refine ⟨_,rfl,?_⟩;have h:=Bw.fresh u2.at_;have I:=I.upd hk u2;have hx:=I.hx;have hxl:=N2 hx;have hxn:=I.n4;refine zR ?_;refine d6 (s8 q.ca) (W1 (h.nb.blk hx hxl hxn) rfl rfl) (zR ?_);refine o8 (A6 q.ca h (by simp only [List.length_append,List.length_nil];omega)) ?_
    rintro r w3 ⟨rfl,h⟩;refine ⟨_,rfl,?_⟩;refine zR ?_;refine d6 (s8 q.fi) (W1 (h.nb.blk hx hxl hxn) rfl rfl) (zR ?_);refine o8 (A6 q.fi h (by simp only [List.length_append,List.length_nil];omega)) ?_
    rintro r w3 ⟨rfl,h⟩;refine ⟨_,rfl,?_⟩;refine zR ?_;refine d6 (s8 q.ra) (W1 (h.nb.blk hx hxl hxn) rfl rfl) (zR ?_);refine o8 (A6 q.ra h (by simp only [List.length_append,List.length_nil];omega)) ?_
    rintro r w3 ⟨rfl,h⟩;refine ⟨_,rfl,?_⟩;refine zR ?_;refine d6 (s8 q.pr) (W1 (h.nb.blk hx hxl hxn) rfl rfl) (zR ?_);refine o8 (A6 q.pr h (by simp only [List.length_append,List.length_nil];omega)) ?_
    rintro r w3 ⟨rfl,h⟩;refine ⟨_,rfl,?_⟩;have h:Bw bs w2 w3 (q.ca++q.fi++q.ra++q.pr):=by simpa using h
    generalize hTF:q.ca++q.fi++q.ra++q.pr=TF at *;have hneF:TF≠[]:=by rw [← hTF];simp [hfi]
    have hleF:TF.length≤1000000:=by rw [← hTF];simp only [List.length_append];omega
    refine zR ?_;refine I8.mk2 [0,1,2,4] (.cons 3 (.cons 5 (.cons 6 (.cons 7 (.cons 8 (.cons 9 .done .nil) .nil) .nil) .nil) .nil) (.cons 5 (.cons 3 (.cons 6 (.cons 7 (.cons 8 (.cons 9 .done .nil) .nil) .nil) .nil) (.cons 6 (.cons 3 (.cons 7 (.cons 8 (.cons 9 .done .nil) .nil) .nil) .nil) .nil)) .nil)) zk (zR ?_);have I2:=I;have I:=I.str (h.step (Cl.drew (Cl.refl _))) (Below.refl _ _);have h:=h.step (Cl.drew (Cl.refl _));refine And.intro ?aF (And.intro ?bF trivial)
    case' aF =>
     refine zR ?_;refine d6 _ (W1 I.ho rfl rfl) (zE ?_);refine o8 (a5U h hneF hleF) ?_;rintro r w4 ⟨rfl,b4⟩;refine ⟨_,rfl,?_⟩;have I:=I2.str h b4;refine zE ?_;refine E6 elStr [s8 TF] (by rw [Array.toList_map];rfl) (by simp [Value.cells,s8]) rfl zd zd ?_
     have hb5:Row 9 1 a4E w4.heap.size (w4.alloc (.cells (([s8 TF]:List Value).flatMap fun v=>v.cells.toList).toArray 9)) (.slice (some ⟨w4.heap.size,0,none⟩) 1 1) [TF]:=H9 B5 w4 [TF] (Nat.le_of_ble_eq_true rfl) _ rfl;have I:=I.step (Cl.alloc w4 (.cells (([s8 TF]:List Value).flatMap fun v=>v.cells.toList).toArray 9));generalize w4.alloc (.cells (([s8 TF]:List Value).flatMap fun v=>v.cells.toList).toArray 9)=w5 at *
    case' bF =>
     refine zR ?_;refine o8 (a5U h hneF hleF) ?_;rintro r w4 ⟨rfl,b4⟩;refine ⟨_,rfl,?_⟩;have I:=I2.str h b4;refine zR ?_;refine And.intro ?cF (And.intro ?dF trivial)
    case' cF =>
     refine zR ?_;refine d6 _ (W1 I.ho rfl rfl) (zE ?_);refine E6 elStr [s8 TF] (by rw [Array.toList_map];rfl) (by simp [Value.cells,s8]) rfl zd zd ?_
     have hb5:Row 9 1 a4E w4.heap.size (w4.alloc (.cells (([s8 TF]:List Value).flatMap fun v=>v.cells.toList).toArray 9)) (.slice (some ⟨w4.heap.size,0,none⟩) 1 1) [TF]:=H9 B5 w4 [TF] (Nat.le_of_ble_eq_true rfl) _ rfl;have I:=I.step (Cl.alloc w4 (.cells (([s8 TF]:List Value).flatMap fun v=>v.cells.toList).toArray 9));generalize w4.alloc (.cells (([s8 TF]:List Value).flatMap fun v=>v.cells.toList).toArray 9)=w5 at *
    case' dF =>
     refine zR ?_;refine E6 elStr [s8 TF] (by rw [Array.toList_map];rfl) (by simp [Value.cells,s8]) rfl zd zd ?_
     have hb5:Row 9 1 a4E w4.heap.size (w4.alloc (.cells (([s8 TF]:List Value).flatMap fun v=>v.cells.toList).toArray 9)) (.slice (some ⟨w4.heap.size,0,none⟩) 1 1) [TF]:=H9 B5 w4 [TF] (Nat.le_of_ble_eq_true rfl) _ rfl;have I:=I.step (Cl.alloc w4 (.cells (([s8 TF]:List Value).flatMap fun v=>v.cells.toList).toArray 9));generalize w4.alloc (.cells (([s8 TF]:List Value).flatMap fun v=>v.cells.toList).toArray 9)=w5 at *;refine zE ?_;refine d6 _ (W1 I.ho rfl rfl) ?_
    all_goals
     refine zE ?_;refine J2 elStr (v:=.slice aE L1.length cE) (l:=L1) (news:=[TF]) rfl I.hr rfl hb5 B5 a8S (by simp<;>omega) zd I.cl.size fun v6 w6 hr6 hg=>?_
     obtain ⟨aF,cF,rfl,_⟩:=hr6.form;refine zE ?_;refine And.intro (zR ?_) trivial;refine J6 (I.gro hg) [.slice aF (L1++[TF]).length cF] rfl zk rfl (by intro v hv;simp at hv;subst hv;rfl) (Nat.le_of_ble_eq_true rfl) fun w7 u7=>zR ?_
     have I:=I.push hg hr6 u7;refine d6 _ (W1 I.ho rfl rfl) (zR ?_);exact ⟨I.cl,_,rfl,I.hr⟩
   ·have hro:q.ro=[]:=by rw [a0E] at h;exact a0p.1 h
    rw [if_neg (fun e=>e.2 hro),List.append_nil];refine zR ?_;refine d6 _ (W1 I.ho rfl rfl) (zR ?_);exact ⟨I.cl,_,rfl,I.hr⟩
  ·have hfo:q.fo=[]:=by rw [a0E] at h;exact a0p.1 h
   rw [if_neg (fun e=>e.1 hfo),List.append_nil];refine zR ?_;refine d6 _ (W1 I.ho rfl rfl) (zR ?_);exact ⟨I.cl,_,rfl,I.hr⟩
def c6q (P:Program) (t ty u:Nat) (R:Ending→World→Prop):Exit→C0→World→Prop
 | .normal,e,w=>(match e t with
  | .pointer (some a)=>K6 P w ty a (fun v=>R (.returned (.tuple #[v,e u])) w)
  | _=>False)
 | .ret,e,w=>(match e t with
  | .pointer (some a)=>K6 P w ty a (fun v=>R (.returned (.tuple #[v,e u])) w)
  | _=>False)
 | _,_,_=>False
theorem c5B {G:Prg} {f:Nat} {fn:Func} {c:Code} {args:List Value} {w:World} {R:Ending→World→Prop} (t ty u:Nat)
  (hf:G.P.funcs[f]?=some fn) (hb:fn.body=some c) (hn:args.length≤fn.ntmps) (hk:P7 fn.ntmps c=true) (he:fn.results=#[.cell t ty,.tmp u])
  (h:W G fn.ntmps c (a8o args) w (c6q G.P t ty u R)):Calls G.P f args.toArray w R:=by
 refine calls_of_wp hf hb ?_;have hsz:(args.toArray++Array.replicate (fn.ntmps-args.toArray.size) undef).size=fn.ntmps:=by simp;omega
 refine wp_mono (h hk { tmps:=args.toArray++Array.replicate (fn.ntmps-args.toArray.size) undef,defers:=[] } ?_ hsz rfl) ?_
 ·funext t;unfold s7 a8o;rw [b3f];simp only [Array.getD_eq_getD_getElem?,List.getD_eq_getElem?_getD];by_cases ht:t<args.length
  ·rw [Array.getElem?_append_left (by simpa using ht)];simp
  ·rw [Array.getElem?_append_right (by simpa using ht)]
   rw [List.getElem?_eq_none zo];simp only [Option.getD_none];cases hx:(Array.replicate (fn.ntmps-args.toArray.size) undef)[t-args.toArray.size]? with
   | none=>rfl
   | some v =>
    obtain ⟨h1,h2⟩:=Array.getElem?_eq_some_iff.1 hx;simp at h2;simp [h2]
 ·rintro x a w' ⟨hs,hd,hq⟩;have key:(match s7 a t with | .pointer (some ad)=>K6 G.P w' ty ad (fun v=>R (.returned (.tuple #[v,s7 a u])) w') | _=>False)→∃ v,(results fn a.tmps).run G.P w' = .ok v w'∧R (.returned v) w':=by
   intro hr;split at hr
   ·rename_i ad had;obtain ⟨v,h1,h2⟩:=hr.ex;refine ⟨_,?_,h2⟩;have had':a.tmps[t]?.getD undef = .pointer (some ad):=by rw [← Array.getD_eq_getD_getElem?];exact had
    unfold l8 Instr.loadAt at h1;simp [Instr.sureAddr] at h1;simp [results,he,had',asAddr,h1,s7,Array.getD_eq_getD_getElem?]
   ·exact hr.elim
  cases x<;>first
   | exact ⟨hd,key hq⟩
   | exact hq.elim
theorem c36 {z:Value} (hz:z.cells.size=8) (q:p7):a4M z.cells 0 (mcA q).toList=mcA q:=by
 rw [C5 _ _ (by rw [hz];rfl)]
theorem c4d (q:p7):∀ v∈(mcA q).toList,v.oneCell'=true:=by
 intro v hv;simp only [mcA,List.mem_cons,List.not_mem_nil,or_false] at hv;rcases hv with rfl | rfl | rfl | rfl | rfl | rfl | rfl | rfl<;>rfl
theorem c5b {w:World} {b:Nat} {u:Nat} {fz:Nat×Nat} {q:p7} (hb:w.heap[b]?=some (.cells (mcA q) u fz)):l8 G.P w 394 ⟨b,0,none⟩ (mcV q):=by
 have:=ldA (t:=394) (o:=0) (z:=8) hb rfl (by simp [mcA])
 rw [show (mcA q).extract 0 (0+8)=mcA q by simp [mcA]] at this
 exact this
set_option maxHeartbeats 1000000 in
theorem c4u {s:Tx} (hs:s.length≤1000) {q:p7} (hq:zzP s=some q) (w:World):Calls G.P 343 #[s8 s] w (K4 (.tuple #[mcV q,.nilIface]) w):=by
 have hz:=c57 s hs;have hL:=c3m hq;obtain ⟨z,hz1,hz8⟩:=zMc;refine c5B (G:=G) 2 394 3 Tryz.func343 rfl (by simp [Tryz.ntmps343]) zk rfl ?_
 refine a4x (zR ?_);refine t7 z hz1 ?_;have cA:=Cl.alloc w (.cells z.cells 394);have nA:=d8 w (.cells z.cells 394);generalize w.alloc (.cells z.cells 394)=w1 at *;refine zR ?_;refine o8 (hz w1) ?_;rintro r w2 ⟨c2,v,rfl,hr⟩;rw [hL] at hr;obtain ⟨a,k,rfl,ha⟩:=hr.form;obtain ⟨g,rfl⟩:=ha (show 0<10 by decide)
 refine ⟨_,rfl,?_⟩;have ld:∀ (i:Nat) (hi:i<10) w',Cl w2 w'→l8 G.P w' 9 ⟨g,i,none⟩ (s8 (a9y s q)[i]):=fun i hi w' c=>J8 (hr.step c) B5 i 0 hi zd rfl zo rfl;refine zR ?_;refine zK 25 ?_;refine zR ?_;refine g9 (s8 q.pc) (fun w' hw=>ld 1 zd w' hw) (zR ?_);refine g9 (s8 q.fo) (fun w' hw=>ld 2 zd w' hw) (zR ?_);refine g9 (s8 q.ro) (fun w' hw=>ld 3 zd w' hw) (zR ?_);refine g9 (s8 q.ca) (fun w' hw=>ld 4 zd w' hw) (zR ?_);refine g9 (s8 q.fi) (fun w' hw=>ld 5 zd w' hw) (zR ?_);refine g9 (s8 q.ra) (fun w' hw=>ld 6 zd w' hw) (zR ?_);refine g9 (s8 q.pr) (fun w' hw=>ld 7 zd w' hw) (zR ?_);refine g9 (s8 q.cs) (fun w' hw=>ld 8 zd w' hw) (zR ?_);refine b1Q (mcA q) zk (zR ?_);intro w3 c3;refine zR ?_;refine J6 (c3.blk (c2.blk nA)) (mcA q).toList rfl c5U rfl (c4d q) (by rw [hz8];decide) fun w4 u4=>?_
 have hb:w4.heap[w.heap.size]?=some (.cells (mcA q) 394 (0,0)):=by rw [u4.at_,c36 hz8]
 refine zR ?_;refine K6.mk ⟨mcV q,c5b hb,?_⟩;exact ⟨rfl,u4.cl (cA.trans (c2.trans c3)) (Nat.le_refl _)⟩
theorem c4B {p:A3} {m:Mv} (hp:m.promo=0∨2≤m.promo∧m.promo≤5) (h:inCheck (made p m)=true):a1s p m=true:=by
 unfold a1s;split
 ·exact h
 ·obtain ⟨f,t,k⟩:=m;rename_i h0;simp only at hp h0 ⊢;rw [List.any_eq_true];refine ⟨k,?_,?_⟩
  ·rcases (by omega:k=2∨k=3∨k=4∨k=5) with rfl | rfl | rfl | rfl<;>decide
  rw [decide_eq_true (Int.le_refl k),h];rfl
theorem c4C (p:A3) (m:Mv) (t:Nat):a1K (signM p m t)=true:=by
 unfold signM;have h1:a1K [35]=true:=by rw [b5z,if_pos zd];exact b1F
 have h2:a1K [43]=true:=by rw [b5z,if_pos zd];exact b1F
 split
 ·split
  ·exact h1
  ·exact h2
 ·exact b1F
theorem c6r (p:A3) (m:Mv) (t:Nat):(body p m++signM p m t).length≤900:=by
 have:=b0C p m;unfold sanT at this;rw [List.length_append] at this ⊢;have:=a8K p m t;omega
theorem c5c (q:p7):(a9R q).length≤3:=by
 unfold a9R;split
 ·simp
 ·split<;>split<;>simp
theorem c5d {q:p7} {t:Tx} (h1:a5d q≠t) (h2:∀ o∈a9R q,o≠t):c20 q t=false:=by
 rw [Bool.eq_false_iff];intro h;rcases b3h.1 h with h | h
 ·exact h1 h
 ·exact h2 _ h rfl
theorem c5C {p:A3} {q:p7} {i:Nat} (hi:i<(N0 p).length) (hno:∀ y∈(N0 p).take i,c20 q (body p y.mv)=false) (h:c20 q (body p ((N0 p)[i]).mv)=true):c45 p q=some (N0 p)[i]:=by
 unfold c45;rw [List.find?_eq_some_iff_append];refine ⟨h,(N0 p).take i,(N0 p).drop (i+1),?_,fun y hy=>by rw [hno y hy];rfl⟩
 rw [← List.drop_eq_getElem_cons hi,List.take_append_drop]
set_option maxHeartbeats 4000000 in
theorem c3M {p:A3} (hI:B7 p) (hN:a1z p) (hle:(z8 p).length≤218) {P b:Nat} {cv:Value} {T:Tx} (hT1:T.length≤1000) {q:p7} (hq:zzP T=some q) {x:PM} (hx:c45 p q=some x) (w:World) (hT:C1 w) (hM:H0 w P b p cv) :
  Calls G.P 341 #[.agg #[],.pointer (some ⟨P,0,none⟩),s8 T] w (fun r w'=>∃ cv' M,r = .returned (.tuple #[.pointer (some ⟨M,0,none⟩),.nilIface])∧H0 w' P b p cv'∧Tn P w w'∧Row 141 11 C6 0 w' cv' (N0 p)∧w.heap.size≤M∧w'.heap[M]?=some (.cells (F0 (D3 x)) 141 (0,0))
  ∧∀ k,cv'.ownBlock=some k→(cv.ownBlock=some k∨w.heap.size≤k)∧k≠M):=by
 obtain ⟨mm1,mm2⟩:=a0I hI;have hlen:=a4O hI hle;have hPL:=c5P hT1 hq;obtain ⟨z,hz1,hz8⟩:=zMc;refine zN Tryz.func341 ?_;refine zR ?_;have cb:=Cl.alloc w (.cells #[] 149);generalize w.alloc (.cells #[] 149)=w1 at *;have hPw:P<w.heap.size:=N2 hM.hd;refine m9 (c4u hT1 hq w1) fun w2 c2=>?_;have cb:=cb.trans c2;have s02:=cb.size;refine zR ?_;refine t7 z hz1 ?_;have cb:=cb.trans (Cl.alloc w2 (.cells z.cells 394));have nA:=d8 w2 (.cells z.cells 394);generalize w2.alloc (.cells z.cells 394)=w3 at *;have s2:=c2.size;refine zR ?_;refine J6 nA (mcA q).toList rfl c5U rfl (c4d q) (by rw [hz8];decide) fun w4 u4=>?_
 have hQ:w4.heap[w2.heap.size]?=some (.cells (mcA q) 394 (0,0)):=by rw [u4.at_,c36 hz8]
 have c04:Cl w w4:=u4.cl cb s02;clear u4 nA cb;refine zR ?_;refine I1 true (F8 rfl) (zR ?_);refine d6 (mcV q) (c5b hQ) (zR ?_);refine m9 (c33 hPL w4) fun w5 c5=>?_;have c05:=c04.trans c5;have hQ5:=c5.blk hQ;obtain ⟨bq,hbq⟩:∃ b,b=w2.heap.size:=⟨_,rfl⟩;rw [← hbq] at hQ5 ⊢;clear hQ c2 hbq;refine zR ?_;refine o8 (a4P hI hle w5 (hT.cl c05) (hM.step c05)) ?_;rintro r w6 ⟨v,cv',rfl,hr,hM6,n6,hr0,hown⟩;obtain ⟨av,kv,rfl,hav⟩:=hr.form;have hown2:∀ k,cv'.ownBlock=some k→(cv.ownBlock=some k∨w.heap.size≤k)∧k<w6.heap.size:=fun k h=>⟨(hown k h).imp id (Nat.le_trans c05.size),(hr0.own h).2⟩;clear hown;refine ⟨_,rfl,?_⟩;have hQ6:=n6.blk hQ5 (J4 hQ5 (hM.step c05).hd zd);have ntw:=(Tn.cl (b:=P) c05).trans n6;have hT6:C1 w6:=(hT.cl c05).fr (Fr.tn (S:=[P]) n6 (.inl (by simp))) fun k hk cs t fz hh=>by
  rw [List.mem_singleton.1 hk] at hh;rw [← (Obj.cells.inj (Option.some.inj ((hM.step c05).hd.symm.trans hh))).2.1];decide
 refine zR ?_;refine A9 (σ:=Nat) [6,7,12,13,14,15,17,31] 32 (fun i=>[(31,.int .i64 i)]) (fun i w'=>i≤(N0 p).length∧Cl w6 w'∧∀ y∈(N0 p).take i,c20 q (body p y.mv)=false) (fun i=>(N0 p).length-i) zk 0 ⟨Nat.zero_le _,Cl.refl _,fun y hy=>by simp at hy⟩ ⟨rfl,trivial⟩ ?_
 rintro i j w7 ⟨hi,c7,hno⟩;have ni:=C2 (i:=i) zo;refine zR ?_;apply E.b7<;>intro h
 ·have hi2:i<(N0 p).length:=by omega
  clear h;obtain ⟨g,rfl⟩:=hav zo;have hld:=fun {o:Nat} (ho:o=i*11)=>a97 (hr.step c7) i hi2 ho;have hxm:=List.getElem_mem hi2;have htk:(N0 p).take (i+1)=(N0 p).take i++[(N0 p)[i]]:=List.take_succ_eq_append_getElem hi2;have hfit:=c5C (q:=q) hi2 hno;obtain ⟨ad,hcv⟩:∃ ad,∃ n c,cv' = .slice (some ad) n c:=by
   obtain ⟨a,n,c,rfl⟩:=hM6.form;obtain ⟨ad,rfl⟩:=hM6.kept hr0 (fun e=>by rw [e] at hi2;simp at hi2)
   exact ⟨ad,n,c,rfl⟩
  obtain ⟨n0,k0,rfl⟩:=hcv;generalize (N0 p)[i]=y at *;have hyl:=(mm1 y hxm).1;have hyt:=(mm1 y hxm).2;have hyr:=L4 hI hyl;have hsan:=b4F hI hyl (t:=y.tags) (ck:=a1s p y.mv) hyt;have hzy:=c4q hI hyl (c4C p y.mv y.tags);have hly:=c6r p y.mv y.tags;have hPy:=c5P zo hzy;have hcy:=b5v hI hyl;refine zR ?_;refine zC ?_;refine zR ?_;refine d6 _ (hld (a0y _ _)) (zR ?_);refine t7 _ a6b ?_;have cB:=Cl.alloc w7 (.cells (Value.agg (F0 (D3 ⟨⟨0,0,0⟩,0⟩))).cells 141);have nB:=d8 w7 (.cells (Value.agg (F0 (D3 ⟨⟨0,0,0⟩,0⟩))).cells 141);generalize w7.alloc (.cells (Value.agg (F0 (D3 ⟨⟨0,0,0⟩,0⟩))).cells 141)=w8 at *;refine zR ?_;refine J6 nB (C6 y) rfl a1x rfl (L0 y) (Nat.le_of_ble_eq_true rfl) fun w9 u9=>?_;have hX:w9.heap[w7.heap.size]?=some (.cells (F0 (D3 y)) 141 (0,0)):=by have h7:=u9.at_;rw [C5 _ _ (by rw [I7];rfl)] at h7;exact h7
  have c9:Cl w7 w9:=(Tn.upd u9).toCl cB (Nat.le_refl _);have c69:=c7.trans c9;have sM:w.heap.size≤w7.heap.size∧w6.heap.size≤w7.heap.size:=⟨Nat.le_trans ntw.size c7.size,c7.size⟩;obtain ⟨M,hMM⟩:∃ M,M=w7.heap.size:=⟨_,rfl⟩;rw [← hMM] at hX sM ⊢;clear u9 nB cB hld hMM;refine zR ?_;refine s9 #[] zk (zR ?_);refine m9 (b0X (d:=D3 y) hI hN hle hyl (ck:=a1s p y.mv) (fun h=>c4B (by have:=hyr.2.2.2.2;show y.mv.promo=0∨2≤y.mv.promo∧y.mv.promo≤5;omega) h) hyt w9 (hT6.cl c69) (hM6.step c69) hX) fun w10 c10=>?_
  have e10:b6J p (D3 y).mv (D3 y).tags=body p y.mv++signM p y.mv y.tags:=hsan;rw [e10];clear e10 hsan;have c610:=c69.trans c10;have hX:=c10.blk hX;refine zR ?_;refine m9 (c4u zo hzy w10) fun w11 c11=>?_;have c611:=c610.trans c11;have hX:=c11.blk hX;refine zR ?_;refine t7 z hz1 ?_;have cC:=Cl.alloc w11 (.cells z.cells 394);have nC:=d8 w11 (.cells z.cells 394);generalize w11.alloc (.cells z.cells 394)=w12 at *;refine zR ?_;refine J6 nC (mcA (a4r p y.mv)).toList rfl c5U rfl (c4d _) (by rw [hz8];decide) fun w13 u13=>?_
  have hY:w13.heap[w11.heap.size]?=some (.cells (mcA (a4r p y.mv)) 394 (0,0)):=by rw [u13.at_,c36 hz8]
  have c13:Cl w11 w13:=(Tn.upd u13).toCl cC (Nat.le_refl _);have c613:=c611.trans c13;have hX:=c13.blk hX;obtain ⟨by_,hby⟩:∃ b,b=w11.heap.size:=⟨_,rfl⟩;rw [← hby] at hY ⊢;clear u13 nC cC hby c13;have fin:∀ w',Cl w13 w'→c20 q (body p y.mv)=true→∃ cv' M',Ending.returned (.tuple #[.pointer (some ⟨M,0,none⟩),.nilIface]) = .returned (.tuple #[.pointer (some ⟨M',0,none⟩),.nilIface])∧H0 w' P b p cv'∧Tn P w w'∧Row 141 11 C6 0 w' cv' (N0 p)∧w.heap.size≤M'∧w'.heap[M']?=some (.cells (F0 (D3 x)) 141 (0,0))
  ∧∀ k,cv'.ownBlock=some k→(cv.ownBlock=some k∨w.heap.size≤k)∧k≠M':=fun w' c hf=>by
   have e:=hfit hf;rw [hx] at e;have e:=Option.some.inj e;have c6:=c613.trans c;refine ⟨_,M,rfl,hM6.step c6,ntw.trans (Tn.cl c6),hr0.step c6,sM.1,by rw [e];exact c.blk hX,fun k hk=>⟨(hown2 k hk).1,?_⟩⟩
   have:=(hown2 k hk).2;omega
  clear hfit;refine zR ?_;refine I1 true (F8 rfl) (zR ?_);refine d6 (mcV (a4r p y.mv)) (c5b hY) (zR ?_);refine m9 (c33 hPy w13) fun w14 c14=>?_;rw [hcy];refine zR ?_;apply E.b7<;>intro h
  ·have e:a5d q=body p y.mv:=a0p.1 h;refine zR ?_;exact fin w14 c14 (b3h.2 (.inl e))
  have hne:a5d q≠body p y.mv:=fun e=>h (by rw [e])
  clear h;refine zR ?_;refine d6 (mcV q) (c5b ((c613.trans c14).blk hQ6)) (zR ?_);refine o8 (c4A hPL w14) ?_;rintro r w15 ⟨c15,vo,rfl,hO⟩;obtain ⟨ao,ko,rfl,hao⟩:=hO.form;refine ⟨_,rfl,?_⟩;have hol:=c5c q;have c1315:=c14.trans c15;refine zR ?_;refine A9 (σ:=Nat) [6,7,17,52] 53 (fun i=>[(52,.int .i64 i)]) (fun i w'=>i≤(a9R q).length∧Cl w15 w'∧∀ o∈(a9R q).take i,o≠body p y.mv) (fun i=>(a9R q).length-i) zk 0 ⟨Nat.zero_le _,Cl.refl _,fun o ho=>by simp at ho⟩ ⟨rfl,trivial⟩ ?_
  rintro k jk w16 ⟨hk,c16,hnk⟩;have nk:=C2 (i:=k) zo;refine zR ?_;apply E.b7<;>intro h
  ·have hk2:k<(a9R q).length:=by omega
   clear h;obtain ⟨go,rfl⟩:=hao zo;have htk2:(a9R q).take (k+1)=(a9R q).take k++[(a9R q)[k]]:=List.take_succ_eq_append_getElem hk2;have hlo:l8 G.P w16 9 ⟨go,E.W6 0 ((k:Int)).toNat 1,none⟩ (s8 (a9R q)[k]):=J8 (hO.step c16) B5 k 0 hk2 zd rfl (by simp [E.z6]) rfl
   have hom:=List.getElem_mem hk2;generalize (a9R q)[k]=o at *;refine zR ?_;refine zC ?_;refine zR ?_;refine d6 _ hlo (zR ?_);refine d6 (mcV (a4r p y.mv)) (c5b ((c1315.trans c16).blk hY)) (zR ?_);refine m9 (c33 hPy w16) fun w17 c17=>?_;rw [hcy];refine zR ?_;apply E.b7<;>intro h
   ·have e:o=body p y.mv:=a0p.1 h;refine zR ?_;exact fin w17 (c1315.trans (c16.trans c17)) (b3h.2 (.inr (by rw [← e];exact hom)))
   ·have hno2:o≠body p y.mv:=fun e=>h (by rw [e])
    refine zR ?_;refine ⟨k+1,⟨m7 nk,trivial⟩,⟨zo,c16.trans c17,fun o' ho'=>?_⟩,zo⟩;rw [htk2] at ho';rcases List.mem_append.1 ho' with ho' | ho'
    ·exact hnk o' ho'
    ·rw [List.mem_singleton.1 ho'];exact hno2
  ·have e:k=(a9R q).length:=by omega
   subst e;rw [List.take_length] at hnk;have hf:=c5d hne hnk;refine zR ?_;refine ⟨i+1,⟨m7 ni,trivial⟩,⟨zo,c613.trans (c1315.trans c16),fun y' hy'=>?_⟩,zo⟩;rw [htk] at hy';rcases List.mem_append.1 hy' with hy' | hy'
   ·exact hno y' hy'
   ·rw [List.mem_singleton.1 hy'];exact hf
 ·have e:i=(N0 p).length:=by omega
  subst e;rw [List.take_length] at hno;exfalso;unfold c45 at hx;have h1:=List.mem_of_find?_eq_some hx;have h2:=List.find?_some hx;rw [hno x h1] at h2;cases h2
def c2Z (P b:Nat) (p:A3) (cv:Value) (m:Mv) (w:World) (r:Ending) (w':World):Prop :=
 ∃ cv' M d,r = .returned (.tuple #[.pointer (some ⟨M,0,none⟩),.nilIface])∧H0 w' P b p cv'∧Tn P w w'∧w.heap.size≤M∧w'.heap[M]?=some (.cells (F0 d) 141 (0,0))
 ∧d.mv=m∧(d.tags:Int)=told p m∧d.kids = .slice none 0 0∧∀ k,cv'.ownBlock=some k→(cv.ownBlock=some k∨w.heap.size≤k)∧k≠M
theorem c21 {p:A3} (hI:B7 p) (hN:a1z p) (hle:(z8 p).length≤218) {P b:Nat} {cv:Value} {T:Tx} (hT1:T.length≤1000) {q:p7} (hq:zzP T=some q) {m:Mv} (hm:m∈y8 p) (hs:a0v p m=true) (hn:b7x p m q) (w:World) (hT:C1 w) (hM:H0 w P b p cv) :
  Calls G.P 341 #[.agg #[],.pointer (some ⟨P,0,none⟩),s8 T] w (c2Z P b p cv m w):=by
 obtain ⟨x,hx,hd,hxm⟩:=c4a hI hm hn;have hr:=L4 hI hm;have htx:=((a0I hI).1 x hx).2;rw [hxm] at htx;refine (c3M hI hN hle hT1 hq hd w hT hM).mono ?_;rintro r w' ⟨cv',M,h1,h2,h3,h4,h5,h6,h7⟩;exact ⟨cv',M,D3 x,h1,h2,h3,h5,h6,hxm,by show (x.tags:Int)=_;rw [htx];exact b0S (by have:=hr.2.2.2.2;omega) hs,rfl,h7⟩
theorem c3N {p:A3} (hI:B7 p) (hN:a1z p) (hle:(z8 p).length≤218) {P b:Nat} {cv:Value} {T:Tx} (hT1:T.length≤1000) {q:p7} (hq:zzP T=some q) {m:Mv} (hm:m∈y8 p) (hs:a0v p m=true) (hn:b7x p m q) (w:World) (hT:C1 w) (hM:H0 w P b p cv) :
  Calls G.P 349 #[.agg #[],.pointer (some ⟨P,0,none⟩),s8 T] w (c2Z P b p cv m w):=by
 refine zN Tryz.func349 ?_;refine zR ?_;have cb:=Cl.alloc w (.cells #[] 150);generalize w.alloc (.cells #[] 150)=w1 at *;refine s9 #[] zk (zR ?_);refine o8 (c21 hI hN hle hT1 hq hm hs hn w1 (hT.cl cb) (hM.step cb)) ?_;rintro r w2 ⟨cv',M,d,rfl,h2,h3,h5,h6,h7,h8,h9,h10⟩;refine ⟨_,rfl,?_⟩;refine zR ?_;exact ⟨cv',M,d,rfl,h2,(Tn.cl cb).trans h3,Nat.le_trans cb.size h5,h6,h7,h8,h9,fun k hk=>⟨(h10 k hk).1.imp id (Nat.le_trans cb.size),(h10 k hk).2⟩⟩
theorem c5D {p:A3} (hI:B7 p) {m:Mv} (hm:m∈y8 p):(b2q (mbOf p) (p.turn+1) p.ep m 0:Int)=told p m:=by
 rcases (P6 hI m).1 hm with ⟨hp,_⟩ | ⟨r,hr,ha⟩
 ·rw [b2t hI hp rfl rfl rfl,Nat.zero_or];exact b6h hI hp ((a03 hI hp).1 hm)
 ·obtain ⟨r4,rt,rb,hc⟩:=I5 hI hr;have hrm:=hr.is;have h1:=b0I hI hc;have f:=L4 hI hm;have e0:b2q (mbOf p) (p.turn+1) p.ep m 0=b2q (mbOf p) (p.turn+1) p.ep m (if (if A0 (r:Int)<homeK r then (-1:Int) else 1)=1 then 1 else 2):=by
   have hw:(if A0 (r:Int)<homeK r then (-1:Int) else 1)=1∨(if A0 (r:Int)<homeK r then (-1:Int) else 1)=-1:=by split<;>simp
   have hmv:=hc.mv;have hk:=hc.k;have ht:=hI.turn;have hto:=hc.to;have hking:=hc.king;generalize (if A0 (r:Int)<homeK r then (-1:Int) else 1)=w at *
   have hcap:capTag p m=0:=by
    have hto':sq p m.to=0:=by rw [hmv];exact hto
    have hk6:kindOf (sq p m.fr)≠6:=by rw [hmv];simp only [hking,Y6 hI];decide
    unfold capTag;rw [if_neg (fun e=>e hto'),if_neg (fun e=>hk6 e.2)]
   have hcas:Q8 p m=if w=1 then 1 else 2:=by
    unfold Q8;rw [hmv];simp only [hking];rcases ht with e | e<;>rcases hw with e2 | e2<;>rw [e] at hk ⊢ <;> subst e2<;>rw [hk]<;>decide
   unfold b2q;simp only [b3D hI f.1 f.2.1 f.2.2.1 f.2.2.2.1,b3E hI f.1 f.2.1,hcap,hcas,Nat.or_zero,Nat.or_self,Nat.zero_or]
  rw [e0,h1];obtain ⟨x,hx,hxm⟩:=(a7g hI).2 m r hr hm;have hxt:=((a7g hI).1 x hx).2;rw [hxm] at hxt;have h0:m.promo=0:=by rw [hrm];rfl
  have e1:U5 p m=told p m:=by unfold U5 told a1s;rw [if_pos h0]
  rw [← e1,← hxt];rw [hrm] at hxm;subst hrm;clear h1 e0 hxt e1 h0 f hc rb rt ha hm;unfold a09 at hx;rcases List.mem_append.1 hx with hx | hx
  ·split at hx
   ·rw [List.mem_singleton.1 hx] at hxm ⊢;have hrr:=hr.right;clear hr hx;rcases hI.turn with ht | ht<;>rw [ht] at hxm hrr ⊢ <;> rcases hrr with rfl | rfl<;>first | rfl | (simp only at hxm;exact absurd hxm zd)
   ·cases hx
  ·split at hx
   ·rw [List.mem_singleton.1 hx] at hxm ⊢;have hrr:=hr.right;clear hr hx;rcases hI.turn with ht | ht<;>rw [ht] at hxm hrr ⊢ <;> rcases hrr with rfl | rfl<;>first | rfl | (simp only at hxm;exact absurd hxm zd)
   ·cases hx
def c4e:List (Nat×Value):=[(110,.int .i8 5),(98,.int .i8 4),(114,.int .i8 3),(113,.int .i8 2)]
def c4v (cs:Array Value):Bool:=Nat.beq cs.size 256&&(match cs[110]?,cs[98]?,cs[114]?,cs[113]? with | some (Value.int .i8 5),some (Value.int .i8 4),some (Value.int .i8 3),some (Value.int .i8 2)=>true | _,_,_,_=>false)&&cs.toList.all (fun v=>v.oneCell')
theorem c5e:∃ cs,G.P.built 402 c4e=some cs∧cs.size=256∧cs[110]?=some (Value.int .i8 5)∧cs[98]?=some (Value.int .i8 4)∧cs[114]?=some (Value.int .i8 3)∧cs[113]?=some (Value.int .i8 2)∧∀ v∈cs.toList,v.oneCell'=true:=by
 have h:(match G.P.built 402 c4e with
  | some cs=>c4v cs
  | none=>false)=true:=by kernel_rfl
 cases e:G.P.built 402 c4e with
 | none=>rw [e] at h;cases h
 | some cs =>
  rw [e] at h;simp only [c4v,Bool.and_eq_true] at h;obtain ⟨⟨h1,h2⟩,h3⟩:=h;split at h2
  ·rename_i a1 a2 a3 a4;exact ⟨cs,rfl,Nat.eq_of_beq_eq_true h1,a1,a2,a3,a4,fun v hv=>List.all_eq_true.1 h3 v hv⟩
  ·cases h2
theorem c6s:(G.P.info? 402).map (·.size)=some 256:=by kernel_rfl
theorem c65:∃ z,(G.P.info? 402).bind (·.zero)=some z∧z.cells.size=256:=a0H zk
theorem c5f {k:Int} (h:2≤k∧k≤5):∃ c:UInt8,a3J k=[c]:=by
 rcases (by omega:k=2∨k=3∨k=4∨k=5) with rfl | rfl | rfl | rfl<;>exact ⟨_,rfl⟩
theorem c5g {p:A3} (hI:B7 p) {m:Mv} (hm:m∈y8 p):uciT m=A7 m.fr++F7 m.fr++(A7 m.to++F7 m.to)++(if m.promo=0 then [] else a3J m.promo):=by
 obtain ⟨f0,f1,t0,t1,hp⟩:=L4 hI hm;unfold uciT;rw [sq2 f0 f1,sq2 t0 t1];by_cases e:m.promo=0
 ·rw [if_pos e,if_neg zo]
 ·rw [if_neg e,if_pos zo]
theorem c5h:∀ n:Nat,n<64→IntKind.i8.wrap (IntKind.u8.wrap (IntKind.u8.wrap (((97+n%8:Nat):Int)-97)+IntKind.u8.wrap (IntKind.u8.wrap (((49+n/8:Nat):Int)-49)*8)))=(n:Int):=by decide +kernel
set_option maxHeartbeats 4000000 in
theorem c3O {p:A3} (hI:B7 p) (hN:a1z p) {P b:Nat} {cv:Value} {m:Mv} (hm:m∈y8 p) (w:World) (hT:C1 w) (hM:H0 w P b p cv) :
  Calls G.P 351 #[.agg #[],.pointer (some ⟨P,0,none⟩),s8 (uciT m)] w (c2Z P b p cv m w):=by
 obtain ⟨f0,f1,t0,t1,hpm⟩:=L4 hI hm;have htag:=c5D hI hm;obtain ⟨fr,hfr⟩:=Int.eq_ofNat_of_zero_le f0;obtain ⟨to,hto⟩:=Int.eq_ofNat_of_zero_le t0;obtain ⟨e0,e1,e2⟩:=b2F fr zo;obtain ⟨g0,g1,g2⟩:=b2F to zo;have hu:=c5g hI hm;rw [hfr,hto,e0,g0] at hu;have cA1:=c5h fr zo;have cA2:=c5h to zo;rw [← e1,← e2] at cA1;rw [← g1,← g2] at cA2;generalize UInt8.ofNat (97+fr%8)=a0 at *;generalize UInt8.ofNat (49+fr/8)=a1 at *;generalize UInt8.ofNat (97+to%8)=a2 at *;generalize UInt8.ofNat (49+to/8)=a3 at *;have hlp:∀ k,k<w.heap.size→∀ M,w.heap.size≤M→k≠M:=fun k h M h2=>by omega
 have hown:∀ M,w.heap.size≤M→∀ k,cv.ownBlock=some k→k≠M:=fun M h k hk=>by
  rcases hM.ca with e | hr
  ·rw [e] at hk;cases hk
  ·have:=(hr.own hk).2;omega
 have hpn:(D3 ⟨m,0⟩).mv.promo=0∨(1≤(D3 ⟨m,0⟩).mv.promo∧(D3 ⟨m,0⟩).mv.promo≤6∧(mbOf p).at (D3 ⟨m,0⟩).mv.fr.toNat≠0):=by
  show m.promo=0∨(1≤m.promo∧m.promo≤6∧(mbOf p).at m.fr.toNat≠0);rcases hpm with e | ⟨e1,e2,e3⟩
  ·exact .inl e
  ·refine .inr ⟨zo,zo,?_⟩;rw [T8 hI.pc zo,Int.toNat_of_nonneg f0];intro e;rw [e] at e3;exact absurd e3 zd
 have hturn:=hI.turn;by_cases hp:m.promo=0
 ·have hT4:uciT m=[a0,a1,a2,a3]:=by rw [hu,if_pos hp];rfl
  rw [hT4];have hsz:(tx [a0,a1,a2,a3]).size=4:=rfl;have k0:(tx [a0,a1,a2,a3]).get! (IntKind.i64.wrap (0+0)).toNat=a0:=rfl;have k1:(tx [a0,a1,a2,a3]).get! (IntKind.i64.wrap (0+1)).toNat=a1:=rfl;have q0:(tx [a0,a1,a2,a3]).get! (Int.toNat 0)=a0:=rfl;have q1:(tx [a0,a1,a2,a3]).get! (Int.toNat 1)=a1:=rfl;have q2:(tx [a0,a1,a2,a3]).get! (Int.toNat 2)=a2:=rfl;have q3:(tx [a0,a1,a2,a3]).get! (Int.toNat 3)=a3:=rfl;refine zN Tryz.func351 ?_;refine zR ?_;have cb:=Cl.alloc w (.cells #[] 151);generalize w.alloc (.cells #[] 151)=w1 at *;refine a7n 2 (zR ?_);rw [k0];refine E.o7 (by rw [e1];omega) (zR ?_)
  rw [k0];refine E.o7 (by rw [e1];omega) (zR ?_)
  rw [k1];refine E.o7 (by rw [e2];omega) (zR ?_)
  rw [k1];refine E.o7 (by rw [e2];omega) (zR ?_)
  refine zK 10 ?_;refine zR ?_;rw [q0,q1,cA1];intro w2 c2;refine zR ?_;refine zK 10 ?_;refine zR ?_;rw [q2,q3,cA2];intro w3 c3;refine zR ?_;refine E.o7 zo (zR ?_);refine E.o7 zo (zR ?_);refine s9 (F0 (D3 ⟨⟨fr,to,0⟩,0⟩)) zk (zR ?_);refine t7 _ a6b ?_;have cw3:=cb.trans (c2.trans c3);have s3:=cw3.size;have cB:=cw3.trans (Cl.alloc w3 (.cells (Value.agg (F0 (D3 ⟨⟨0,0,0⟩,0⟩))).cells 141));have nB:=d8 w3 (.cells (Value.agg (F0 (D3 ⟨⟨0,0,0⟩,0⟩))).cells 141);obtain ⟨M,hMM⟩:∃ M,M=w3.heap.size:=⟨_,rfl⟩;rw [← hMM] at nB s3 ⊢;generalize w3.alloc (.cells (Value.agg (F0 (D3 ⟨⟨0,0,0⟩,0⟩))).cells 141)=w4 at *;clear hMM;refine zR ?_;refine J6 nB (C6 ⟨⟨fr,to,0⟩,0⟩) rfl a1x rfl (L0 _) (Nat.le_of_ble_eq_true rfl) fun w5 u5=>?_;have hX:w5.heap[M]?=some (.cells (F0 (D3 ⟨⟨fr,to,0⟩,0⟩)) 141 (0,0)):=by have h7:=u5.at_;rw [C5 _ _ (by rw [I7];rfl)] at h7;exact h7
  have c5:Cl w w5:=u5.cl cB s3;have hXl5:=N2 hX;have neP:=hlp _ (N2 hM.hd) M s3;have neb:=hlp _ (N2 hM.bd) M s3;have hown:=hown M s3;clear u5 nB cB cw3;refine zR ?_;have emv:(⟨fr,to,0⟩:Mv)=m:=Mv.ext' hfr.symm hto.symm hp.symm;rw [emv] at hX;refine W3 false (N1 rfl _) (zR ?_);refine o8 (a89 (h:=A8 p (inCheck p)) (B:=mbOf p) (d:=D3 ⟨m,0⟩) (by show p.turn+1=1∨p.turn+1=2;omega) (U1 p 0).1 (U1 p 0).2 (U1 p 1).1 (U1 p 1).2 f0 f1 t0 t1 (show (0:Nat)<64 by decide) hpn w5 ⟨c5.blk hM.hd,c5.blk hM.bd,hX,Tn.refl _ _,hT.cl c5,neP,neb⟩) ?_
  rintro r w8 ⟨rfl,h8⟩;refine ⟨_,rfl,?_⟩;have c8:Cl w w8:=h8.tn.toCl c5 s3;refine zR ?_;refine o8 (b0W hI hN (d:={ D3 ⟨m,0⟩ with tags:=b2q (mbOf p) (p.turn+1) p.ep m 0 }) hm htag w8 (hT.cl c8) (hM.step c8) h8.nd) ?_;rintro r w9 ⟨P',b',rfl,s1',s2',hH,hB,c9⟩;refine ⟨_,rfl,?_⟩;refine zR ?_;refine zT (c9.blk h8.nd) [.pointer (some ⟨P',0,none⟩)] fun w10 u10=>?_;have c10:Cl w w10:=u10.cl (c8.trans c9) s3;refine zR ?_;exact ⟨cv,M,{ D3 ⟨m,b2q (mbOf p) (p.turn+1) p.ep m 0⟩ with pos:=.pointer (some ⟨P',0,none⟩) },rfl,hM.step c10,Tn.cl c10,s3,u10.at_,rfl,htag,rfl,fun k hk=>⟨.inl hk,hown k hk⟩⟩
 ·obtain ⟨c,hc⟩:=c5f (k:=m.promo) zo;have hT5:uciT m=[a0,a1,a2,a3,c]:=by rw [hu,if_neg hp,hc];rfl
  rw [hT5];obtain ⟨cs,hcs,hc256,k5,k4,k3,k2,hone⟩:=c5e;obtain ⟨zp,hzp,hzp256⟩:=c65;have hcp:cs[c.toNat]?=some (.int .i8 m.promo):=by
   rcases (by omega:m.promo=2∨m.promo=3∨m.promo=4∨m.promo=5) with e | e | e | e<;>rw [e] at hc ⊢ <;> (rw [← (List.cons.inj hc).1];assumption)
  have q4:(tx [a0,a1,a2,a3,c]).get! (Int.toNat 4)=c:=rfl;have hsz:(tx [a0,a1,a2,a3,c]).size=5:=rfl;have k0:(tx [a0,a1,a2,a3,c]).get! (IntKind.i64.wrap (0+0)).toNat=a0:=rfl;have k1:(tx [a0,a1,a2,a3,c]).get! (IntKind.i64.wrap (0+1)).toNat=a1:=rfl;have q0:(tx [a0,a1,a2,a3,c]).get! (Int.toNat 0)=a0:=rfl;have q1:(tx [a0,a1,a2,a3,c]).get! (Int.toNat 1)=a1:=rfl;have q2:(tx [a0,a1,a2,a3,c]).get! (Int.toNat 2)=a2:=rfl;have q3:(tx [a0,a1,a2,a3,c]).get! (Int.toNat 3)=a3:=rfl;refine zN Tryz.func351 ?_;refine zR ?_;have cb:=Cl.alloc w (.cells #[] 151);generalize w.alloc (.cells #[] 151)=w1 at *;refine a7n 2 (zR ?_);rw [k0];refine E.o7 (by rw [e1];omega) (zR ?_)
  rw [k0];refine E.o7 (by rw [e1];omega) (zR ?_)
  rw [k1];refine E.o7 (by rw [e2];omega) (zR ?_)
  rw [k1];refine E.o7 (by rw [e2];omega) (zR ?_)
  refine zK 10 ?_;refine zR ?_;rw [q0,q1,cA1];intro w2 c2;refine zR ?_;refine zK 10 ?_;refine zR ?_;rw [q2,q3,cA2];intro w3 c3;refine zR ?_;refine E.o7 zo (zR ?_);refine E.o7 zo (zR ?_);refine s9 (F0 (D3 ⟨⟨fr,to,0⟩,0⟩)) zk (zR ?_);refine t7 _ a6b ?_;have cw3:=cb.trans (c2.trans c3);have s3:=cw3.size;have cB:=cw3.trans (Cl.alloc w3 (.cells (Value.agg (F0 (D3 ⟨⟨0,0,0⟩,0⟩))).cells 141));have nB:=d8 w3 (.cells (Value.agg (F0 (D3 ⟨⟨0,0,0⟩,0⟩))).cells 141);obtain ⟨M,hMM⟩:∃ M,M=w3.heap.size:=⟨_,rfl⟩;rw [← hMM] at nB s3 ⊢;generalize w3.alloc (.cells (Value.agg (F0 (D3 ⟨⟨0,0,0⟩,0⟩))).cells 141)=w4 at *;clear hMM;refine zR ?_;refine J6 nB (C6 ⟨⟨fr,to,0⟩,0⟩) rfl a1x rfl (L0 _) (Nat.le_of_ble_eq_true rfl) fun w5 u5=>?_;have hX:w5.heap[M]?=some (.cells (F0 (D3 ⟨⟨fr,to,0⟩,0⟩)) 141 (0,0)):=by have h7:=u5.at_;rw [C5 _ _ (by rw [I7];rfl)] at h7;exact h7
  have c5:Cl w w5:=u5.cl cB s3;have hXl5:=N2 hX;have neP:=hlp _ (N2 hM.hd) M s3;have neb:=hlp _ (N2 hM.bd) M s3;have hown:=hown M s3;clear u5 nB cB cw3;refine zR ?_;refine s9 cs hcs (zR ?_);refine t7 zp hzp ?_;have c6:=c5.trans (Cl.alloc w5 (.cells zp.cells 402));have n6:=d8 w5 (.cells zp.cells 402);have hX:=(Cl.alloc w5 (.cells zp.cells 402)).blk hX;have s6:=c5.size;have sX:=N2 hX;have hXl:M<w5.heap.size:=hXl5;generalize w5.alloc (.cells zp.cells 402)=w6 at *;refine zR ?_;refine J6 n6 cs.toList rfl c6s (by simpa using hc256) hone (by simp [hzp256,hc256]) fun w7 u7=>?_
  have hcsb:w7.heap[w5.heap.size]?=some (.cells cs 402 (0,0)):=by rw [u7.at_,C5 _ _ (by rw [Array.length_toList,hc256,hzp256])]
  have hX:=(Tn.upd u7).blk hX zo;have c7:=u7.cl c6 s6;refine zR ?_;rw [q4];refine E.y6 (W4.2 ⟨zo,by have:=c.toNat_lt;omega⟩) (zR ?_)
  refine d6 (.int .i8 m.promo) (W1 hcsb (by rw [E.z6,Int.toNat_natCast,Nat.zero_add,Nat.mul_one];exact hcp) rfl) (zR ?_)
  refine E.o7 hp (zR ?_);refine b0N hX _ fun w7b u7b=>?_;have hX:w7b.heap[M]?=some (.cells (F0 (D3 ⟨⟨fr,to,m.promo⟩,0⟩)) 141 (0,0)):=u7b.at_;have c7b:=u7b.cl c7 s3;refine zR ?_;have emv:(⟨fr,to,m.promo⟩:Mv)=m:=Mv.ext' hfr.symm hto.symm rfl;rw [emv] at hX;refine W3 false (N1 rfl _) (zR ?_);refine o8 (a89 (h:=A8 p (inCheck p)) (B:=mbOf p) (d:=D3 ⟨m,0⟩) (by show p.turn+1=1∨p.turn+1=2;omega) (U1 p 0).1 (U1 p 0).2 (U1 p 1).1 (U1 p 1).2 f0 f1 t0 t1 (show (0:Nat)<64 by decide) hpn w7b ⟨c7b.blk hM.hd,c7b.blk hM.bd,hX,Tn.refl _ _,hT.cl c7b,neP,neb⟩) ?_
  rintro r w8 ⟨rfl,h8⟩;refine ⟨_,rfl,?_⟩;have c8:Cl w w8:=h8.tn.toCl c7b s3;refine zR ?_;refine o8 (b0W hI hN (d:={ D3 ⟨m,0⟩ with tags:=b2q (mbOf p) (p.turn+1) p.ep m 0 }) hm htag w8 (hT.cl c8) (hM.step c8) h8.nd) ?_;rintro r w9 ⟨P',b',rfl,s1',s2',hH,hB,c9⟩;refine ⟨_,rfl,?_⟩;refine zR ?_;refine zT (c9.blk h8.nd) [.pointer (some ⟨P',0,none⟩)] fun w10 u10=>?_;have c10:Cl w w10:=u10.cl (c8.trans c9) s3;refine zR ?_;exact ⟨cv,M,{ D3 ⟨m,b2q (mbOf p) (p.turn+1) p.ep m 0⟩ with pos:=.pointer (some ⟨P',0,none⟩) },rfl,hM.step c10,Tn.cl c10,s3,u10.at_,rfl,htag,rfl,fun k hk=>⟨.inl hk,hown k hk⟩⟩
noncomputable def b3l (t:Nat) (nm:String) (f:Nat):Bool:=match G.P.info? t,G.P.underlying t with
 | some i,some (.struct _)=>(match i.methods.find? (·.name==nm) with
  | some m=>m.path.isEmpty&&(match m.func with
   | some (g,b)=>Nat.beq g f && !b
   | none=>false)
  | none=>false)
 | _,_=>false
theorem c3n {t f:Nat} {nm:String} (h:b3l t nm f=true) (k:Nat) (v:Value) (w:World):(method (k+1) t v nm).run G.P w = .ok (f,v) w∧(nilAhead (k+1) t v nm).run G.P w = .ok (some false) w:=by
 unfold b3l at h;split at h
 ·rename_i i fs hi hu;split at h
  ·rename_i m hm;rw [Bool.and_eq_true] at h;obtain ⟨hp,h⟩:=h;split at h
   ·rename_i g b hf;rw [Bool.and_eq_true] at h;obtain ⟨hg,hb⟩:=h;have hg:=Nat.eq_of_beq_eq_true hg;have hb:b=false:=by cases b<;>simp_all
    subst hg hb;have hp:m.path=#[]:=by simpa using hp
    constructor
    ·simp [method,run_typeInfo w hi,hm,hp,hf,follow,receiverAt,Place.get,run_underlying hu]
    ·simp [nilAhead,run_typeInfo w hi,hm,hp,hf,followBlind,run_underlying hu]
   ·cases h
  ·cases h
 ·cases h
section gens
variable {dst:Option Nat} {ty:Nat} {pos:String} {af:Array Edge} {gd:Option (Nat×Bool)} {env:C0}
theorem c37 {w:World} {K:Value→World→Prop} {t:Nat} {x:Operand} {fs:Array Field} (ht:G.P.underlying t=some (.struct fs)) (h:K (.iface t (ev env x)) w):L5 G.P { dst,op:=.makeInterface t x,type:=ty,pos,after:=af,guard:=gd } env w K:=by
 refine ⟨.inl ⟨.iface t (ev env x),w,?_,h⟩⟩;simp [execOp,Instr.makeInterface,run_underlying ht]
theorem c5i {C:World→Prop} {K:Value→Prop} {nm:String} {x:Operand} (h:K (.func (.method nm) #[ev env x] #[])):b3X G.P C { dst,op:=.makeFunc (.method nm) #[x] #[],type:=ty,pos,after:=af,guard:=gd } env K:=by
 refine ⟨_,fun w _=>?_,h⟩;simp [execOp,Instr.makeFunc]
theorem c4D {C:World→Prop} {K:Value→Prop} {nm:String} {x:Operand} {t f:Nat} {v:Value} (hx:ev env x = .func (.method nm) #[.iface t v] #[]) (hd:b3l t nm f=true) (h:K (.func (.method nm) #[.iface t v] #[])):b3X G.P C { dst,op:=.nilCheck x,type:=ty,pos,after:=af,guard:=gd } env K:=by
 refine ⟨_,fun w _=>?_,h⟩;have h2:=fun k=>(c3n hd k v w).2;obtain ⟨k,hk⟩:∃ k,G.P.types.size+Made.depth=k+1:=⟨G.P.types.size+Made.depth-1,by unfold Made.depth;omega⟩
 simp [execOp,hx,hk,h2]
theorem c4w {w:World} {K:Value→World→Prop} {nm:String} {x:Operand} {args:Array Operand} {argTypes:Array Nat} {t f:Nat} {v:Value} (vs:Array Value) (hx:ev env x = .iface t v) (hd:b3l t nm f=true) (hfn:G.fn f=true) (ha:v::(args.map (ev env)).toList=vs.toList)
  (h:Calls G.P f vs w (fun r w'=>∃ v,r = .returned v∧K v w')):L5 G.P { dst,op:=.call { callee:=.invoke x nm,args,argTypes },type:=ty,pos,after:=af,guard:=gd } env w K:=by
 obtain ⟨x',h1,h2,h3⟩:=G.enters f hfn;have h4:=fun k=>(c3n hd k v w).1;obtain ⟨k,hk⟩:∃ k,G.P.types.size+Made.depth=k+1:=⟨G.P.types.size+Made.depth-1,by unfold Made.depth;omega⟩
 have ha:#[v]++args.map (ev env)=vs:=Array.toList_inj.1 (by simpa using ha)
 subst ha;refine ⟨.inr (.inr ⟨f,_,?_,h⟩)⟩;have e0:(#[Value.iface t v]++args.map (ev env))[0]?=some (.iface t v):=by
  rw [Array.getElem?_append_left (show 0<1 by decide)];rfl
 have e1:(#[Value.iface t v]++args.map (ev env)).extract 1 (#[Value.iface t v]++args.map (ev env)).size=args.map (ev env):=by
  apply Array.ext';simp;exact List.take_of_length_le (by simp)
 obtain ⟨c,hb⟩:=Option.isSome_iff_exists.1 h2;have e2:(callMethod (.iface t v) nm (args.map (ev env))).run G.P w = .ok (.enter f (#[v]++args.map (ev env))) w:=by
  simp [callMethod,hk,h4,callFunc,h1,h3,hb]
 simp only [execOp,resolve,invoke,Sem.run_bind,Sem.run_pure,Result.andThen_ok,hx,e0,e1,e2]
end gens
def ntT (n:Nat):Nat:=if n=0 then 149 else if n=1 then 150 else 151
def ntV (n:Nat):Value:=.iface (ntT n) (.agg #[])
theorem c67:∃ fs,G.P.underlying 149=some (.struct fs):=by
 have h:(match G.P.underlying 149 with | some (.struct _)=>true | _=>false)=true:=by kernel_rfl
 split at h
 ·rename_i a e;exact ⟨a,e⟩
 ·cases h
theorem c68:∃ fs,G.P.underlying 150=some (.struct fs):=by
 have h:(match G.P.underlying 150 with | some (.struct _)=>true | _=>false)=true:=by kernel_rfl
 split at h
 ·rename_i a e;exact ⟨a,e⟩
 ·cases h
theorem c6A:∃ fs,G.P.underlying 151=some (.struct fs):=by
 have h:(match G.P.underlying 151 with | some (.struct _)=>true | _=>false)=true:=by kernel_rfl
 split at h
 ·rename_i a e;exact ⟨a,e⟩
 ·cases h
theorem a7e (n:Nat) (hn:n<3) (w:World):Calls G.P 53 #[.int .i64 n] w (D5 (ntV n) w):=by
 obtain ⟨f0,u0⟩:=c67;obtain ⟨f1,u1⟩:=c68;obtain ⟨f2,u2⟩:=c6A;rcases (by omega:n=0∨n=1∨n=2) with rfl | rfl | rfl
 ·refine zN Tryz.func53 ?_;refine zR ?_;refine s9 #[] zk (zR ?_);refine c37 u0 (zR ?_);exact ⟨rfl,rfl⟩
 ·refine zN Tryz.func53 ?_;refine zR ?_;refine s9 #[] zk (zR ?_);refine c37 u1 (zR ?_);exact ⟨rfl,rfl⟩
 ·refine zN Tryz.func53 ?_;refine zR ?_;refine s9 #[] zk (zR ?_);refine c37 u2 (zR ?_);exact ⟨rfl,rfl⟩
theorem c6B:b3l 149 "Decode" 341=true:=by kernel_rfl
theorem c6C:b3l 150 "Decode" 349=true:=by kernel_rfl
theorem c6D:b3l 151 "Decode" 351=true:=by kernel_rfl
theorem c6E:b3l 149 "Encode" 104=true:=by kernel_rfl
theorem c6F:b3l 150 "Encode" 105=true:=by kernel_rfl
theorem c6G:b3l 151 "Encode" 106=true:=by kernel_rfl
def c5j (p:A3) (m:Mv) (n:Nat) (T:Tx):Prop:=(n<2∧T.length≤1000∧∃ q,zzP T=some q∧b7x p m q)∨(n=2∧T=uciT m)
theorem c5k {p:A3} (hI:B7 p) (hN:a1z p) (hle:(z8 p).length≤218) {P b:Nat} {cv:Value} {T:Tx} {n:Nat} {m:Mv} (hm:m∈y8 p) (hs:a0v p m=true) (hn:c5j p m n T) :
  ∃ f,b3l (ntT n) "Decode" f=true∧G.fn f=true∧∀ w,C1 w→H0 w P b p cv→Calls G.P f #[.agg #[],.pointer (some ⟨P,0,none⟩),s8 T] w (c2Z P b p cv m w):=by
 rcases hn with ⟨h2,hT1,q,hq,hqn⟩ | ⟨rfl,rfl⟩
 ·rcases (by omega:n=0∨n=1) with rfl | rfl
  ·exact ⟨_,c6B,rfl,fun w hT hM=>c21 hI hN hle hT1 hq hm hs hqn w hT hM⟩
  ·exact ⟨_,c6C,rfl,fun w hT hM=>c3N hI hN hle hT1 hq hm hs hqn w hT hM⟩
 ·exact ⟨_,c6D,rfl,fun w hT hM=>c3O hI hN hm w hT hM⟩
theorem Fr.drop1 {M:Nat} {S:List Nat} {w w':World} (h:Fr (M::S) w w') (hM:w.heap.size≤M):Fr S w w' :=
 ⟨h.os,h.tape,h.output,h.size,fun k hk hn=>h.else_ k hk (fun hm=>by
  rcases List.mem_cons.1 hm with e | e
  ·omega
  ·exact hn e)⟩
set_option maxHeartbeats 1000000 in
theorem c5V {w:World} {G0:Nat} {g:Gm} {L:List O4} {z:O4} {n:Nat} {T:Tx} {m:Mv} (hT:C1 w) (h:K3 w G0 g L z) (hI:B7 z.p) (hN:a1z z.p) (hle:(z8 z.p).length≤218) (hm:m∈y8 z.p) (hs:a0v z.p m=true) (hn:c5j z.p m n T)
  (hI':B7 (made z.p m)) (hle':(z8 (made z.p m)).length≤218) (hJ:∀ n∈L++[z],B7 n.p) (hlen:L.length+2≤100000) :
  Calls G.P 52 #[.pointer (some ⟨G0,0,none⟩),s8 T,ntV n,.pointer none] w (fun r w'=>r = .returned .nilIface∧∃ g' z' y,z'.Same z∧(∃ ad n c,z'.cv = .slice (some ad) n c)∧K3 w' G0 g' (L++[z']) y∧w.heap.size≤y.M∧y.d.mv=m∧(y.d.tags:Int)=told z.p m
  ∧y.p=made z.p m∧w.heap.size≤y.P∧((g'.meth:Int),g'.out)=a0k ((L++[z]).map O4.p++[y.p]) y.p ((g.meth:Int),g.out)∧Fr [z.M,z.P,G0] w w'):=by
 have hpos:=h.pos;obtain ⟨f,hd,hfn,hdc⟩:=c5k (P:=g.P) (b:=z.b) (cv:=z.cv) hI hN hle hm hs hn;unfold ntV;refine zN Tryz.func52 ?_;refine zG ?_;refine A4 (σ:=Nat×Value×Nd) [9,10] 11 (fun s=>[(9,.pointer (some ⟨s.1,0,none⟩)),(10,.nilIface)]) (fun s w'=>H0 w' z.P z.b z.p s.2.1∧Tn z.P w w'∧w.heap.size≤s.1∧w'.heap[s.1]?=some (.cells (F0 s.2.2) 141 (0,0))∧s.2.2.mv=m∧(s.2.2.tags:Int)=told z.p m∧s.2.2.kids = .slice none 0 0∧∀ k,s.2.1.ownBlock=some k→(z.cv.ownBlock=some k∨w.heap.size≤k)∧k≠s.1) zk ?_ (fun s j w3 hs3=>?_)
 ·have c2:Cl w w.drew:=Cl.drew (Cl.refl _);have h2:=h.step c2;refine zR ?_;refine I8.mk3 (fun w'=>w'.heap[G0]?=some (.cells (gmA g) 131 (0,0))) [0,1,2,3,4,5,6,7,8] (.cons 9 (.cons 10 (.cons 11 (.cons 12 (.cons 13 (.cons 14 .done .nil) .nil) (.cons 13 (.cons 12 (.cons 14 .done .nil) .nil) .nil)) (.cons 12 (.cons 11 (.cons 13 (.cons 14 .done .nil) .nil) .nil) .nil)) .nil) .nil) h2.hb zk (zR ?_);refine g9 _ (fun w' hw=>a4T hw) (zR ?_);refine c5i (zR ?_);refine c4D rfl hd (zE ?_);refine c4w #[.agg #[],.pointer (some ⟨g.P,0,none⟩),s8 T] rfl hd hfn (by rw [Array.toList_map];rfl) ?_
  refine (hdc w.drew (hT.cl c2) h2.posM).mono ?_;rintro r w3 ⟨cv',M,d,rfl,hM3,n3,sM,hX,hmv,htg,hk,hown⟩;refine ⟨_,rfl,?_⟩;rw [hpos] at hM3 n3;have hb3:=n3.blk h2.hb (J4 h2.hb h2.chn.last.2.2.hd zd);iterate 20 (all_goals (first | exact trivial | refine And.intro hb3 ?_ | refine And.intro ?_ ?_ | refine zR ?_))
  all_goals exact ⟨(M,cv',d),⟨rfl,rfl,trivial⟩,hM3,(Tn.cl c2).trans n3,Nat.le_trans c2.size sM,hX,hmv,htg,hk,fun k hk=>⟨(hown k hk).1.imp id (Nat.le_trans c2.size),(hown k hk).2⟩⟩
 obtain ⟨M,cv',d⟩:=s;obtain ⟨hM3,n3,sM,hX,hmv,htg,hk,hown⟩:=hs3;simp only at hM3 n3 sM hX hmv htg hk hown;have h2:=h;have h3:=h2.recv n3 hM3 (fun k hk=>(hown k hk).1);have hlt:=h2.chn.lt;have hMl:∀ n∈L++[z],n.off [M]:=fun n hn=>(hlt n hn).off (fun k hk=>by rw [List.mem_singleton.1 hk];exact sM)
 have hoff:∀ n∈L++[{ z with cv:=cv' }],n.off [M]:=fun n hn=>by
  rcases List.mem_append.1 hn with hn | hn
  ·exact hMl n (List.mem_append_left _ hn)
  ·have o:=hMl z (by simp)
   rw [List.mem_singleton.1 hn];exact ⟨o.M,o.P,o.b,fun k hk e=>(hown k e).2 (List.mem_singleton.1 hk),o.kids⟩
 have hJ2:∀ n∈L++[{ z with cv:=cv' }],Ch.B7 n.p:=fun n hn=>by
  rcases List.mem_append.1 hn with hn | hn
  ·exact hJ n (List.mem_append_left _ hn)
  ·rw [List.mem_singleton.1 hn];exact hI
 have hT3:C1 w3:=hT.fr (Fr.tn (S:=[z.P]) n3 (.inl (by simp))) fun k hk cs t fz hh=>by
  rw [List.mem_singleton.1 hk] at hh;rw [← (Obj.cells.inj (Option.some.inj (h2.chn.last.2.2.hd.symm.trans hh))).2.1];decide
 have hGM:=b8T (d:=d) hT3 h3 hI hN hle (by rw [hmv];exact hm) (by rw [hmv];exact htg) hk hX hoff (by rw [hmv];exact hI') (by rw [hmv];exact hle') hJ2 hlen
 refine zR ?_;refine I1 true (F8 rfl) (zR ?_);refine o8 hGM ?_;rintro e w4 ⟨rfl,g',z',y,⟨hsame.M,hsame.P,hsame.b,hsame.p⟩,hkc,hG4,y1,y2,y3,y4,y5,hend,f4⟩;refine ⟨_,rfl,?_⟩;refine zR ?_;have s3:=n3.size;have hmap:(L++[{ z with cv:=cv' }]).map O4.p=(L++[z]).map O4.p:=by simp
 rw [hmap] at hend;refine ⟨rfl,g',z',y,⟨hsame.M,hsame.P,hsame.b,hsame.p⟩,hkc,hG4,by rw [y1];omega,y2.trans hmv,by rw [y3];exact htg,by rw [y4,hmv],zo,hend,?_⟩
 have f4:Fr [M,z.M,z.P,G0] w3 w4:=f4;have f3:Fr [M,z.M,z.P,G0] w w3:=Fr.tn n3 (.inl (by simp))
 exact (f3.trans f4).drop1 zo
def ntText (k:Nat) (p:A3) (m:Mv):Tx:=if k=0 then sanT p m else if k=1 then lanT p m else uciT m
theorem c5l {p:A3} (hI:B7 p) (hN:a1z p) (hle:(z8 p).length≤218) {d:Nd} {P b M:Nat} {ad:Addr} {n0 c0:Nat} (hm:d.mv∈y8 p) (htg:(d.tags:Int)=told p d.mv) {k:Nat} (hk:k<3) :
  ∃ f,b3l (ntT k) "Encode" f=true∧G.fn f=true∧∀ w,C1 w→H0 w P b p (.slice (some ad) n0 c0)→w.heap[M]?=some (.cells (F0 d) 141 (0,0))→Calls G.P f #[.agg #[],.pointer (some ⟨P,0,none⟩),.pointer (some ⟨M,0,none⟩)] w (K4 (s8 (ntText k p d.mv)) w):=by
 obtain ⟨f0,f1,t0,t1,hpm⟩:=L4 hI hm;have q3:=fun w' hT hP hM=>b0X (P:=P) (b:=b) (M:=M) (ad:=ad) (n0:=n0) (c0:=c0) hI hN hle hm id htg w' hT hP hM;have q4:=fun w' hT hP hM=>b1b (P:=P) (b:=b) (M:=M) (ad:=ad) (n0:=n0) (c0:=c0) hI hN hle hm id htg w' hT hP hM;rw [b88 hI hm htg] at q3;rw [b89 hI hm htg] at q4;rcases (by omega:k=0∨k=1∨k=2) with rfl | rfl | rfl
 ·exact ⟨_,c6E,rfl,q3⟩
 ·exact ⟨_,c6F,rfl,q4⟩
 ·exact ⟨_,c6G,rfl,fun w hT hP hM=>b1a (P:=P) f0 f1 t0 t1 ⟨zo,zo⟩ w hM _ rfl⟩
section gens
variable {dst:Option Nat} {ty:Nat} {pos:String} {af:Array Edge} {gd:Option (Nat×Bool)} {env:C0}
theorem c5E {w:World} {K:Value→World→Prop} {nm:String} {x:Operand} (h:K (.func (.method nm) #[ev env x] #[]) w):L5 G.P { dst,op:=.makeFunc (.method nm) #[x] #[],type:=ty,pos,after:=af,guard:=gd } env w K:=by
 refine ⟨.inl ⟨_,w,?_,h⟩⟩;simp [execOp,Instr.makeFunc]
theorem c5m {w:World} {K:Value→World→Prop} {nm:String} {x:Operand} {t f:Nat} {v:Value} (hx:ev env x = .func (.method nm) #[.iface t v] #[]) (hd:b3l t nm f=true) (h:K (.func (.method nm) #[.iface t v] #[]) w):L5 G.P { dst,op:=.nilCheck x,type:=ty,pos,after:=af,guard:=gd } env w K:=by
 refine ⟨.inl ⟨_,w,?_,h⟩⟩;have h2:=fun k=>(c3n hd k v w).2;obtain ⟨k,hk⟩:∃ k,G.P.types.size+Made.depth=k+1:=⟨G.P.types.size+Made.depth-1,by unfold Made.depth;omega⟩
 simp [execOp,hx,hk,h2]
end gens
theorem c3s {w:World} {G0:Nat} {g:Gm} (hb:w.heap[G0]?=some (.cells (gmA g) 131 (0,0))):Calls G.P 54 #[.pointer (some ⟨G0,0,none⟩)] w (D5 (.pointer (some ⟨g.cur,0,none⟩)) w):=by
 refine zN Tryz.func54 ?_;refine zR ?_;refine d6 (.pointer (some ⟨g.cur,0,none⟩)) (W1 hb rfl rfl) (zR ?_);exact ⟨rfl,rfl⟩
theorem c3P (a b:Value):c2v 51 #[a,b]:=by
 intro w;refine callsD_of_wpS (P:=Tryz.prog) Tryz.func51 rfl fun c₀ cs hu=>?_;apply wpS_seq;apply wpS_region;simp [wpOpsS,go_sem,recoverD,hu,Tryz.ntmps51,Exit.thenS];refine wpS_cond (t:=false) (by simp [Act.eval,Array.replicate]) ?_
 simp only [Bool.false_eq_true,if_false];refine wpS_of_wp (wp_skip ?_);cases c₀;simp_all [bodyPostS,results,Tryz.results51]
end
section
open Go Go.RowKit
open E
theorem c5W {f:Nat} {fn:Func} {A B:Code} {i:Nat} {mk df:Oper} {args:List Value} {w:World} {R:Ending→World→Prop} {fc t:Nat} {caps:Array Operand} (RES:C0→World→Value→Prop)
  (hf:G.P.funcs[f]?=some fn) (hb:fn.body=some (.seq A (.seq (.region i #[mk,df] false) B))) (hn:args.length≤fn.ntmps) (hkA:P7 fn.ntmps A=true) (hkB:P7 fn.ntmps B=true) (ht:t<fn.ntmps)
  (hmg:mk.guard=none) (hmo:mk.op = .makeFunc (.func fc) #[] caps) (hmd:mk.dst=some t) (hdg:df.guard=none) (hdo:df.op = .defer { callee:=.value (.tmp t),args:=#[],argTypes:=#[] }) (hdd:df.dst=none)
  (hfc:G.fn fc=true) (hres:∀ (a:Act) w v,RES (s7 a) w v→(results fn a.tmps).run G.P w = .ok v w)
  (h:vc G A (a8o args) w (fun x e w1=>x = .normal∧∃ cs:Array Value,(caps.map (ev e)).toList=cs.toList∧c2v fc cs∧vc G B (upd e t (.func (.func fc) #[] cs)) w1 (fun x e w2=>(x = .normal∨x = .ret)∧∃ v,RES e w2 v∧R (.returned v) w2))) :
  Calls G.P f args.toArray w R:=by
 refine calls_of_wp_defers hf hb ?_;have hsz:(args.toArray++Array.replicate (fn.ntmps-args.toArray.size) undef).size=fn.ntmps:=by simp;omega
 have henv:s7 { tmps:=args.toArray++Array.replicate (fn.ntmps-args.toArray.size) undef,defers:=[] }=a8o args:=by
  funext t;unfold s7 a8o;rw [b3f];simp only [Array.getD_eq_getD_getElem?,List.getD_eq_getElem?_getD];by_cases ht:t<args.length
  ·rw [Array.getElem?_append_left (by simpa using ht)];simp
  ·rw [Array.getElem?_append_right (by simpa using ht)]
   rw [List.getElem?_eq_none zo];simp only [Option.getD_none];cases hx:(Array.replicate (fn.ntmps-args.toArray.size) undef)[t-args.toArray.size]? with
   | none=>rfl
   | some v =>
    have:=Array.getElem?_eq_some_iff.1 hx;obtain ⟨h1,h2⟩:=this;simp at h2;simp [h2]
 refine wp_seq ?_;refine a6R (G:=G) (N:=fn.ntmps) (ds:=[]) A _ _ ?_ hkA _ w hsz rfl (by rw [henv];exact h)
 rintro x a w1 hs hd ⟨rfl,cs,hcap,hid,hB⟩;show Code.wp G.P (.seq (.region i #[mk,df] false) B) _ a w1;refine wp_seq (wp_region_list ?_);have hcap:caps.map (ev (s7 a))=cs:=Array.toList_inj.1 hcap;obtain ⟨fnc,c1,c2,c3⟩:=G.enters fc hfc;have hmx:(execOp a.eval mk).run G.P w1 = .ok (.value (.func (.func fc) #[] (caps.map (ev (s7 a))))) w1:=by
  obtain ⟨d,o,ty,ps,af,g⟩:=mk;simp only at hmo hmg hmd;subst hmo;rw [S0];simp [execOp,Instr.makeFunc]
 obtain ⟨a1,ha1⟩:∃ a1:Act,a1=a.put (some t) (.func (.func fc) #[] (caps.map (ev (s7 a)))):=⟨_,rfl⟩;have hs1:a1.tmps.size=fn.ntmps:=by rw [ha1,a1e,hs]
 have hd1:a1.defers=[]:=by rw [ha1,W5,hd]
 have he1:s7 a1=upd (s7 a) t (.func (.func fc) #[] (caps.map (ev (s7 a)))):=by rw [ha1];exact a8i _ (by rw [hs];exact ht)
 have hdx:(execOp a1.eval df).run G.P w1 = .ok (.defer { target:=.fn (.func fc) (caps.map (ev (s7 a))),args:=#[] }) w1:=by
  obtain ⟨d,o,ty,ps,af,g⟩:=df;simp only at hdo hdg hdd;subst hdo;rw [S0,he1];simp [execOp,resolve,ev,b5y,Deferred.ofValue]
 have hw1:Region.wanted mk (yielded #[mk,df] a.tmps)=true:=by unfold Region.wanted;rw [hmg]
 have hw2:Region.wanted df (yielded #[mk,df] a1.tmps)=true:=by unfold Region.wanted;rw [hdg]
 show wpList G.P #[mk,df] _ [mk,df] a w1;unfold wpList;rw [if_pos hw1];refine .inl ?_;unfold Oper.wp;rw [hmx,Oper.upon_value,hmd,← ha1];unfold wpList;rw [if_pos hw2];refine .inl ?_;unfold Oper.wp;rw [hdx,Oper.upon_defer,hdd];unfold wpList;have hs2:({ a1 with defers:={ target:=.fn (.func fc) (caps.map (ev (s7 a))),args:=#[] }::a1.defers }:Act).put none undef={ a1 with defers:=[{ target:=.fn (.func fc) (caps.map (ev (s7 a))),args:=#[] }] }:=by rw [hd1];rfl
 rw [hs2];show Code.wp G.P B _ _ w1;refine a6R (G:=G) (N:=fn.ntmps) (ds:=[{ target:=.fn (.func fc) (caps.map (ev (s7 a))),args:=#[] }]) B _ _ ?_ hkB _ w1 hs1 rfl (by
  have:s7 { a1 with defers:=[{ target:=.fn (.func fc) (caps.map (ev (s7 a))),args:=#[] }] }=s7 a1:=rfl;rw [this,he1,hcap];exact hB)
 rintro x a' w2 hs' hd' ⟨hx,v,h3,hR⟩;have hL:Leaves G.P fn a'.tmps R a'.defers .returning w2:=by
  rw [hd'];refine leaves_cons (f:=fc) (args:=#[]++caps.map (ev (s7 a))) (by simp) ?_ ?_
  ·simp [invoke,callFunc,c1,c3];cases hbd:fnc.body with
   | none=>rw [hbd] at c2;cases c2
   | some c=>simp
  ·rw [Array.empty_append];rw [hcap];refine (hid w2).mono ?_;rintro e u' w3 ⟨rfl,rfl,rfl⟩;exact ⟨_,hres _ _ _ h3,hR⟩
 rcases hx with rfl | rfl
 ·exact hL
 ·exact hL
structure c6t (t1 t2 y1 y2:Nat) (e:C0) (w:World) (v:Value):Prop where
 ex:∃ v1 v2,v = .tuple #[v1,v2]∧(∃ a,e t1 = .pointer (some a)∧l8 G.P w y1 a v1)∧∃ a,e t2 = .pointer (some a)∧l8 G.P w y2 a v2
theorem c3t {fn:Func} {t1 t2 y1 y2:Nat} (hr:fn.results=#[.cell t1 y1,.cell t2 y2]) (a:Act) (w:World) (v:Value) (h:c6t t1 t2 y1 y2 (s7 a) w v):(results fn a.tmps).run G.P w = .ok v w:=by
 obtain ⟨v1,v2,rfl,⟨a1,e1,l1⟩,a2,e2,l2⟩:=h.ex;have e1:a.tmps[t1]?.getD undef = .pointer (some a1):=by rw [← Array.getD_eq_getD_getElem?];exact e1
 have e2:a.tmps[t2]?.getD undef = .pointer (some a2):=by rw [← Array.getD_eq_getD_getElem?];exact e2
 simp [results,hr,e1,e2,asAddr,a5D l1,a5D l2]
end
end Go.Proofs.YtpclhlhcegcflaaGreatDoor
