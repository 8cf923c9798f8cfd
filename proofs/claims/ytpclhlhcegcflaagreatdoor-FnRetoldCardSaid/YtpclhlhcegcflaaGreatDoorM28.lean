/- One part of the proof: Pk55 Pk56 Pk57. -/
import Derived.Test.YtpclhlhcegcflaaGreatDoorM1
import Derived.Test.YtpclhlhcegcflaaGreatDoorM3
import Derived.Test.YtpclhlhcegcflaaGreatDoorM20
import Derived.Test.YtpclhlhcegcflaaGreatDoorM27
namespace Go.Proofs.YtpclhlhcegcflaaGreatDoor
set_option maxRecDepth 100000
set_option linter.unusedSimpArgs false
set_option linter.unusedVariables false
section
open Go Go.RowKit
open E
open Ch Bb
def mcA (q:X1):Array Value:=#[s8 q.pc,s8 q.fo,s8 q.ro,s8 q.ca,s8 q.fi,s8 q.ra,s8 q.pr,s8 q.cs]
def mcV (q:X1):Value:=.agg (mcA q)
theorem c5U:(G.P.info? 394).map (·.size)=some 8:=by kernel_rfl
theorem zMc:∃ z,(G.P.info? 394).bind (·.zero)=some z∧z.cells.size=8:=a0H zk
structure PL (q:X1):Prop where
 l:q.pc.length≤1000∧q.fo.length≤1000∧q.ro.length≤1000∧q.ca.length≤1000∧q.fi.length≤1000∧q.ra.length≤1000∧q.pr.length≤1000∧q.cs.length≤1000
 ne:a5d q≠[]
 fi:q.fo≠[]→q.fi≠[]
theorem c59 (s:Tx) (i j:Nat):(a5L s i j).length≤s.length:=by unfold a5L;rw [List.length_take,List.length_drop];omega
theorem b1A {f:Nat→Option X1} {q:X1}:∀ n,a9I f n=some q→∃ k,k<n∧f k=some q
 | 0,h=>by cases h
 | n+1,h=>by
  rw [b0w] at h;cases e:f n with
  | none =>
   rw [e,c4X] at h;obtain ⟨k,hk,h2⟩:=b1A n h;exact ⟨k,zo,h2⟩
  | some x =>
   rw [e,c3L] at h;exact ⟨n,zo,by rw [e,h]⟩
theorem c5P {s:Tx} {q:X1} (hs:s.length≤1000) (h:zzP s=some q):PL q:=by
 unfold zzP at h;cases e:b5t s with
 | some x =>
  rw [e] at h;injection h with h;subst h;obtain ⟨a,_,ha⟩:=b1A _ e;obtain ⟨b,_,hb⟩:=b1A _ ha;obtain ⟨c,_,hc⟩:=b1A _ hb;obtain ⟨d,_,hd⟩:=b1A _ hc;unfold c41 at hd;split at hd
  ·rename_i hg;rw [Bool.and_eq_true] at hg;obtain ⟨k,_,hk⟩:=b1A _ hd;unfold c40 at hk;split at hk
   ·injection hk with hk;subst hk;have hl:=c4c hg.1;have hfi:(c4z s a b c d k).fi≠[]:=by
     show a5L s (a+b+c+d) (a+b+c+d+1)≠[];unfold a5L;rw [List.drop_eq_getElem_cons hl,show a+b+c+d+1-(a+b+c+d)=1 by omega]
     simpa using hl
    have hc:∀ i j,(a5L s i j).length≤1000:=fun i j=>Nat.le_trans (c59 s i j) hs;refine ⟨⟨hc _ _,hc _ _,hc _ _,hc _ _,hc _ _,hc _ _,hc _ _,by show 0≤1000;omega⟩,fun e=>hfi ?_,fun _=>hfi⟩
    unfold a5d at e;simp only [List.append_eq_nil_iff] at e;exact e.1.1.1.2
   ·cases hk
  ·cases hd
 | none =>
  rw [e] at h;simp only at h;split at h
  ·injection h with h;subst h;exact ⟨zd,zd,fun e=>absurd rfl e⟩
  ·split at h
   ·injection h with h;subst h;exact ⟨zd,zd,fun e=>absurd rfl e⟩
   ·cases h
theorem Bw.done {b:Nat} {w0 wr w w':World} {l:Tx} (h:Bw b wr w l) (h4:Below wr.heap.size w w') (c:Cl w0 wr) (hb:w0.heap.size≤b):Cl w0 w' :=
 ⟨h4.os.trans (h.nb.os.trans c.os),h4.tape.trans (h.nb.tape.trans c.tape),h4.output.trans (h.nb.output.trans c.output),Nat.le_trans c.size (Nat.le_trans h.nb.size h4.size),fun k hk =>
  (h4.block k (Nat.lt_of_lt_of_le hk c.size)).trans ((h.nb.else_ k (Nat.lt_of_lt_of_le hk c.size) (Nat.ne_of_lt (Nat.lt_of_lt_of_le hk hb))).trans (c.block k hk))⟩
set_option maxHeartbeats 1000000 in
theorem c33 {q:X1} (hq:PL q) (w:World):Calls G.P 344 #[mcV q] w (K4 (s8 (a5d q)) w):=by
 obtain ⟨l0,l1,l2,l3,l4,l5,l6,l7⟩:=hq.l;refine zN Tryz.func344 ?_;refine zG ?_;obtain ⟨W0,hW0⟩:∃ W0,W0=w.alloc (.cells (mcA q) 394):=⟨_,rfl⟩;have c0:Cl w W0:=by rw [hW0];exact Cl.alloc _ _
 have hx0:W0.heap[w.heap.size]?=some (.cells (mcA q) 394 (0,0)):=by rw [hW0];exact q8 _ _
 rw [← hW0];clear hW0;refine zR ?_;refine t7 _ b6l ?_;have c1:=Cl.alloc W0 (.cells (Value.agg #[.pointer none,.slice none 0 0]).cells 160);have nA:=q8 W0 (.cells (Value.agg #[.pointer none,.slice none 0 0]).cells 160);generalize W0.alloc (.cells (Value.agg #[.pointer none,.slice none 0 0]).cells 160)=w1 at *;have hxl0:=N2 hx0;refine zR ?_;refine o8 (b7v nA) ?_;rintro r w2 ⟨rfl,u2⟩;refine ⟨_,rfl,?_⟩;have h:=Bw.fresh u2.at_;have hxn:w.heap.size≠W0.heap.size:=Nat.ne_of_lt hxl0;have hx:=(Tn.upd u2).blk (c1.blk hx0) hxn;have hxl:=N2 hx;have cw:Cl w w2:=u2.cl (c0.trans c1) c0.size;refine zR ?_;refine d7 (s8 q.pc) (W1 (h.nb.blk hx hxl hxn) rfl rfl) (zR ?_);refine o8 (A6 q.pc h (by simp only [List.length_append,List.length_nil];omega)) ?_
 rintro r w3 ⟨rfl,h⟩;refine ⟨_,rfl,?_⟩;refine zR ?_;refine d7 (s8 q.fo) (W1 (h.nb.blk hx hxl hxn) rfl rfl) (zR ?_);refine o8 (A6 q.fo h (by simp only [List.length_append,List.length_nil];omega)) ?_
 rintro r w3 ⟨rfl,h⟩;refine ⟨_,rfl,?_⟩;refine zR ?_;refine d7 (s8 q.ro) (W1 (h.nb.blk hx hxl hxn) rfl rfl) (zR ?_);refine o8 (A6 q.ro h (by simp only [List.length_append,List.length_nil];omega)) ?_
 rintro r w3 ⟨rfl,h⟩;refine ⟨_,rfl,?_⟩;refine zR ?_;refine d7 (s8 q.ca) (W1 (h.nb.blk hx hxl hxn) rfl rfl) (zR ?_);refine o8 (A6 q.ca h (by simp only [List.length_append,List.length_nil];omega)) ?_
 rintro r w3 ⟨rfl,h⟩;refine ⟨_,rfl,?_⟩;refine zR ?_;refine d7 (s8 q.fi) (W1 (h.nb.blk hx hxl hxn) rfl rfl) (zR ?_);refine o8 (A6 q.fi h (by simp only [List.length_append,List.length_nil];omega)) ?_
 rintro r w3 ⟨rfl,h⟩;refine ⟨_,rfl,?_⟩;refine zR ?_;refine d7 (s8 q.ra) (W1 (h.nb.blk hx hxl hxn) rfl rfl) (zR ?_);refine o8 (A6 q.ra h (by simp only [List.length_append,List.length_nil];omega)) ?_
 rintro r w3 ⟨rfl,h⟩;refine ⟨_,rfl,?_⟩;refine zR ?_;refine d7 (s8 q.pr) (W1 (h.nb.blk hx hxl hxn) rfl rfl) (zR ?_);refine o8 (A6 q.pr h (by simp only [List.length_append,List.length_nil];omega)) ?_
 rintro r w3 ⟨rfl,h⟩;refine ⟨_,rfl,?_⟩;refine zR ?_;refine d7 (s8 q.cs) (W1 (h.nb.blk hx hxl hxn) rfl rfl) (zR ?_);refine o8 (A6 q.cs h (by simp only [List.length_append,List.length_nil];omega)) ?_
 rintro r w3 ⟨rfl,h⟩;refine ⟨_,rfl,?_⟩;have h:Bw W0.heap.size w2 w3 (a5d q):=by simpa [a5d] using h
 refine zR ?_;refine o8 (a5U h hq.ne (by unfold a5d;simp only [List.length_append];omega)) ?_
 rintro r w4 ⟨rfl,b4⟩;refine ⟨_,rfl,?_⟩;refine zR ?_;exact ⟨rfl,h.done b4 cw c0.size⟩
structure b4U (w:World) (bx bo bs:Nat) (q:X1) (wc:World) (vo:Value) (L:List Tx):Prop where
 hx:wc.heap[bx]?=some (.cells (mcA q) 394 (0,0))
 ho:wc.heap[bo]?=some (.cells #[vo] 42 (0,0))
 hk:∃ p v,wc.heap[bs]?=some (.cells #[p,v] 160 (0,0))
 hr:Row 9 1 a4E w.heap.size wc vo L
 cl:Cl w wc
 n1:w.heap.size≤bo
 n2:w.heap.size≤bs
 n3:bx≠bo
 n4:bx≠bs
 n5:bo≠bs
section opti
variable {w wc w2 w3 w4:World} {bx bo bs:Nat} {q:X1} {vo v':Value} {L L':List Tx}
theorem b4U.step (I:b4U w bx bo bs q wc vo L) (c:Cl wc w2):b4U w bx bo bs q w2 vo L:=by
 obtain ⟨p,v,hk⟩:=I.hk;exact ⟨c.blk I.hx,c.blk I.ho,⟨p,v,c.blk hk⟩,I.hr.step c,I.cl.trans c,I.n1,I.n2,I.n3,I.n4,I.n5⟩
theorem b4U.upd (I:b4U w bx bo bs q wc vo L) {p v p2 v2:Value} (hk:wc.heap[bs]?=some (.cells #[p,v] 160 (0,0))) (u:Upd wc bs (.cells #[p2,v2] 160 (0,0)) w2):b4U w bx bo bs q w2 vo L :=
 ⟨(Tn.upd u).blk I.hx I.n4,(Tn.upd u).blk I.ho I.n5,⟨p2,v2,u.at_⟩,I.hr.updT u hk zd,u.cl I.cl I.n2,I.n1,I.n2,I.n3,I.n4,I.n5⟩
theorem b4U.str (I:b4U w bx bo bs q w2 vo L) {T:Tx} (h:Bw bs w2 w3 T) (b4:Below w2.heap.size w3 w4):b4U w bx bo bs q w4 vo L:=by
 have n:Nb bs w2.heap.size w2 w4:=h.nb.trans ⟨b4.os,b4.tape,b4.output,Nat.le_trans h.nb.size b4.size,fun k hk _=>b4.block k hk⟩;obtain ⟨p,v,hk0⟩:=I.hk;obtain ⟨p3,v3,_,hk3,_⟩:=h.is;refine ⟨n.blk I.hx (N2 I.hx) I.n4,n.blk I.ho (N2 I.ho) I.n5,⟨p3,v3,(b4.block bs h.lt).trans hk3⟩,⟨I.hr.1,?_⟩,h.done b4 I.cl I.n2,I.n1,I.n2,I.n3,I.n4,I.n5⟩;rcases I.hr.2 with h2 | ⟨g,cap,cur,h1,h2,hb,h4⟩
 ·exact .inl h2
 ·exact .inr ⟨g,cap,cur,h1,h2,n.blk hb (N2 hb) (J4 hb hk0 zd),h4⟩
theorem b4U.gro (I:b4U w bx bo bs q wc vo L) (hg:a8b w.heap.size wc vo w2 v'):w2.heap[bo]?=some (.cells #[vo] 42 (0,0)):=KT.grow I.hr hg _ _ _ zd I.ho
theorem b4U.push (I:b4U w bx bo bs q wc vo L) (hg:a8b w.heap.size wc vo w2 v') (hr:Row 9 1 a4E w.heap.size w2 v' L') (u:Upd w2 bo (.cells #[v'] 42 (0,0)) w3):b4U w bx bo bs q w3 v' L':=by
 obtain ⟨p,v,hk⟩:=I.hk;have k:=KT.grow I.hr hg;exact ⟨(Tn.upd u).blk (k _ _ _ zd I.hx) I.n3,u.at_,⟨p,v,(Tn.upd u).blk (k _ _ _ zd hk) (Ne.symm I.n5)⟩,hr.updT u (I.gro hg) zd,u.cl (hg.toCl rfl I.cl) I.n1,I.n1,I.n2,I.n3,I.n4,I.n5⟩
end opti
theorem c6p:G.P.underlying 42=some (.slice 9):=by kernel_rfl
theorem c5A {w:World} {dst:Option Nat} {ty:Nat} {pos:String} {af:Array Edge} {gd:Option (Nat×Bool)} {env:C0} {K:Value→World→Prop} {x hi:Operand} (hx:ev env x = .slice none 0 0) (hh:ev env hi = .int .i64 0) (h:K (.slice none 0 0) w) :
  L5 G.P { dst,op:=.slice 42 x none (some hi) none,type:=ty,pos,after:=af,guard:=gd } env w K:=by
 obtain ⟨i,zv,hi2,hzv,hsz,hby,hzs⟩:=elStr.info;refine ⟨.inl ⟨.slice none 0 0,w,?_,h⟩⟩;show (do pure (Next.value (← Instr.slice 42 (ev env x) none (some (ev env hi)) none)):Sem Next).run G.P w=_
 rw [hx,hh];simp [Instr.slice,Instr.sliceBounds,Instr.sliceBound,asIntOf,Go.run_underlying c6p,sizeOf,typeInfo,hi2]
set_option maxHeartbeats 4000000 in
theorem c4A {q:X1} (hq:PL q) (w:World):Calls G.P 345 #[mcV q] w (fun r w'=>Cl w w'∧∃ v,r = .returned v∧Row 9 1 a4E w.heap.size w' v (a9R q)):=by
 obtain ⟨l0,l1,l2,l3,l4,l5,l6,l7⟩:=hq.l;refine zN Tryz.func345 ?_;refine zG ?_;obtain ⟨W0,hW0⟩:∃ W0,W0=w.alloc (.cells (mcA q) 394):=⟨_,rfl⟩;have c0:Cl w W0:=by rw [hW0];exact Cl.alloc _ _
 have hx0:W0.heap[w.heap.size]?=some (.cells (mcA q) 394 (0,0)):=by rw [hW0];exact q8 _ _
 rw [← hW0];clear hW0;refine zR ?_;refine t7 (.slice none 0 0) zk ?_;have c1:=Cl.alloc W0 (.cells (Value.slice none 0 0).cells 42);have ho1:(W0.alloc (.cells (Value.slice none 0 0).cells 42)).heap[W0.heap.size]?=some (.cells #[.slice none 0 0] 42 (0,0)):=q8 _ _;have s1:=y9 W0 (.cells (Value.slice none 0 0).cells 42);generalize W0.alloc (.cells (Value.slice none 0 0).cells 42)=w1 at *;have hxl0:=N2 hx0;obtain ⟨bx,hbx⟩:∃ b,b=w.heap.size:=⟨_,rfl⟩;obtain ⟨bo,hbo⟩:∃ b,b=W0.heap.size:=⟨_,rfl⟩;rw [← hbx] at hx0 hxl0;rw [show (⟨w.heap.size,0,none⟩:Addr)=⟨bx,0,none⟩ by rw [hbx]]
 rw [← hbo] at ho1 hxl0 s1 ⊢;have hx1:=c1.blk hx0;refine zR ?_;refine d7 _ (W1 ho1 rfl rfl) (zR ?_);refine c5A rfl rfl (zR ?_);refine zT ho1 [.slice none 0 0] fun w2 u2=>?_;have ho2:w2.heap[bo]?=some (.cells #[.slice none 0 0] 42 (0,0)):=u2.at_;have hx2:=(Tn.upd u2).blk hx1 zo;have c2:Cl w w2:=u2.cl (c0.trans c1) zo;clear u2 c1 ho1 hx1 hx0;refine zR ?_;refine t7 _ b6l ?_;have c3:=c2.trans (Cl.alloc w2 (.cells (Value.agg #[.pointer none,.slice none 0 0]).cells 160));have nA:=q8 w2 (.cells (Value.agg #[.pointer none,.slice none 0 0]).cells 160);have hx3:=(Cl.alloc w2 (.cells (Value.agg #[.pointer none,.slice none 0 0]).cells 160)).blk hx2;have ho3:=(Cl.alloc w2 (.cells (Value.agg #[.pointer none,.slice none 0 0]).cells 160)).blk ho2;have sb:=N2 ho2;obtain ⟨bs,hbs⟩:∃ b,b=w2.heap.size:=⟨_,rfl⟩;rw [← hbs] at nA sb ⊢;generalize w2.alloc (.cells (Value.agg #[.pointer none,.slice none 0 0]).cells 160)=w3 at *;clear hx2 ho2 c2;have I:b4U w bx bo bs q w3 (.slice none 0 0) []:=⟨hx3,ho3,⟨_,_,nA⟩,Row.nil _ _,c3,zo,zo,zo,zo,zo⟩;clear nA hx3 ho3 c3;refine zR ?_;refine d7 (s8 q.pc) (W1 I.hx rfl rfl) (zR ?_);apply E.r9<;>intro h
 ·have hpc:q.pc≠[]:=fun e=>h (by rw [e];rfl)
  have eo:a9R q=[]++[q.pc++q.ca++q.fi++q.ra++q.pr++q.cs]++[q.pc++q.ro++q.ca++q.fi++q.ra++q.pr++q.cs]++[q.pc++q.fo++q.ca++q.fi++q.ra++q.pr++q.cs]:=by unfold a9R;rw [if_pos hpc];rfl
  rw [eo];clear eo h;obtain ⟨pk,vk,hk⟩:=I.hk;refine zR ?_;refine o8 (b7v hk) ?_;rintro r w2 ⟨rfl,u2⟩;refine ⟨_,rfl,?_⟩;have h:=Bw.fresh u2.at_;have I:=I.upd hk u2;have hx:=I.hx;have hxl:=N2 hx;have hxn:=I.n4;refine zR ?_;refine d7 (s8 q.pc) (W1 (h.nb.blk hx hxl hxn) rfl rfl) (zR ?_);refine o8 (A6 q.pc h (by simp only [List.length_append,List.length_nil];omega)) ?_
  rintro r w3 ⟨rfl,h⟩;refine ⟨_,rfl,?_⟩;refine zR ?_;refine d7 (s8 q.ca) (W1 (h.nb.blk hx hxl hxn) rfl rfl) (zR ?_);refine o8 (A6 q.ca h (by simp only [List.length_append,List.length_nil];omega)) ?_
  rintro r w3 ⟨rfl,h⟩;refine ⟨_,rfl,?_⟩;refine zR ?_;refine d7 (s8 q.fi) (W1 (h.nb.blk hx hxl hxn) rfl rfl) (zR ?_);refine o8 (A6 q.fi h (by simp only [List.length_append,List.length_nil];omega)) ?_
  rintro r w3 ⟨rfl,h⟩;refine ⟨_,rfl,?_⟩;refine zR ?_;refine d7 (s8 q.ra) (W1 (h.nb.blk hx hxl hxn) rfl rfl) (zR ?_);refine o8 (A6 q.ra h (by simp only [List.length_append,List.length_nil];omega)) ?_
  rintro r w3 ⟨rfl,h⟩;refine ⟨_,rfl,?_⟩;refine zR ?_;refine d7 (s8 q.pr) (W1 (h.nb.blk hx hxl hxn) rfl rfl) (zR ?_);refine o8 (A6 q.pr h (by simp only [List.length_append,List.length_nil];omega)) ?_
  rintro r w3 ⟨rfl,h⟩;refine ⟨_,rfl,?_⟩;refine zR ?_;refine d7 (s8 q.cs) (W1 (h.nb.blk hx hxl hxn) rfl rfl) (zR ?_);refine o8 (A6 q.cs h (by simp only [List.length_append,List.length_nil];omega)) ?_
  rintro r w3 ⟨rfl,h⟩;refine ⟨_,rfl,?_⟩;have h:Bw bs w2 w3 (q.pc++q.ca++q.fi++q.ra++q.pr++q.cs):=by simpa using h
  generalize hTA:q.pc++q.ca++q.fi++q.ra++q.pr++q.cs=TA at *;have hneA:TA≠[]:=by rw [← hTA];simp [hpc]
  have hleA:TA.length≤1000000:=by rw [← hTA];simp only [List.length_append];omega
  refine zG ?_;refine A4 (σ:=Value) [] 5 (fun _=>[]) (fun v w'=>(∃ a c,v = .slice a (([]:List Tx)++[TA]).length c)∧b4U w bx bo bs q w' v (([]:List Tx)++[TA])) zk ?_ (fun v j w7 I=>?_)
  ·refine zR ?_;refine I8.mk2 [0,1,2,4] (.cons 3 (.cons 5 (.cons 6 (.cons 7 (.cons 8 (.cons 9 .done .nil) .nil) .nil) .nil) .nil) (.cons 5 (.cons 3 (.cons 6 (.cons 7 (.cons 8 (.cons 9 .done .nil) .nil) .nil) .nil) (.cons 6 (.cons 3 (.cons 7 (.cons 8 (.cons 9 .done .nil) .nil) .nil) .nil) .nil)) .nil)) zk (zR ?_);have I2:=I;have I:=I.str (h.step (Cl.drew (Cl.refl _))) (Below.refl _ _);have h:=h.step (Cl.drew (Cl.refl _));refine And.intro ?aA (And.intro ?bA trivial)
   case' aA =>
    refine zR ?_;refine d7 _ (W1 I.ho rfl rfl) (zE ?_);refine o8 (a5U h hneA hleA) ?_;rintro r w4 ⟨rfl,b4⟩;refine ⟨_,rfl,?_⟩;have I:=I2.str h b4;refine zE ?_;refine E6 elStr [s8 TA] (by rw [Array.toList_map];rfl) (by simp [Value.cells,s8]) rfl zd zd ?_
    have hb5:Row 9 1 a4E w4.heap.size (w4.alloc (.cells (([s8 TA]:List Value).flatMap fun v=>v.cells.toList).toArray 9)) (.slice (some ⟨w4.heap.size,0,none⟩) 1 1) [TA]:=H9 B5 w4 [TA] (Nat.le_of_ble_eq_true rfl) _ rfl;have I:=I.step (Cl.alloc w4 (.cells (([s8 TA]:List Value).flatMap fun v=>v.cells.toList).toArray 9));generalize w4.alloc (.cells (([s8 TA]:List Value).flatMap fun v=>v.cells.toList).toArray 9)=w5 at *
   case' bA =>
    refine zR ?_;refine o8 (a5U h hneA hleA) ?_;rintro r w4 ⟨rfl,b4⟩;refine ⟨_,rfl,?_⟩;have I:=I2.str h b4;refine zR ?_;refine And.intro ?cA (And.intro ?dA trivial)
   case' cA =>
    refine zR ?_;refine d7 _ (W1 I.ho rfl rfl) (zE ?_);refine E6 elStr [s8 TA] (by rw [Array.toList_map];rfl) (by simp [Value.cells,s8]) rfl zd zd ?_
    have hb5:Row 9 1 a4E w4.heap.size (w4.alloc (.cells (([s8 TA]:List Value).flatMap fun v=>v.cells.toList).toArray 9)) (.slice (some ⟨w4.heap.size,0,none⟩) 1 1) [TA]:=H9 B5 w4 [TA] (Nat.le_of_ble_eq_true rfl) _ rfl;have I:=I.step (Cl.alloc w4 (.cells (([s8 TA]:List Value).flatMap fun v=>v.cells.toList).toArray 9));generalize w4.alloc (.cells (([s8 TA]:List Value).flatMap fun v=>v.cells.toList).toArray 9)=w5 at *
   case' dA =>
    refine zR ?_;refine E6 elStr [s8 TA] (by rw [Array.toList_map];rfl) (by simp [Value.cells,s8]) rfl zd zd ?_
    have hb5:Row 9 1 a4E w4.heap.size (w4.alloc (.cells (([s8 TA]:List Value).flatMap fun v=>v.cells.toList).toArray 9)) (.slice (some ⟨w4.heap.size,0,none⟩) 1 1) [TA]:=H9 B5 w4 [TA] (Nat.le_of_ble_eq_true rfl) _ rfl;have I:=I.step (Cl.alloc w4 (.cells (([s8 TA]:List Value).flatMap fun v=>v.cells.toList).toArray 9));generalize w4.alloc (.cells (([s8 TA]:List Value).flatMap fun v=>v.cells.toList).toArray 9)=w5 at *;refine zE ?_;refine d7 _ (W1 I.ho rfl rfl) ?_
   all_goals
    refine zE ?_;refine J2 elStr (v:=.slice none 0 0) (l:=([]:List Tx)) (news:=[TA]) rfl I.hr rfl hb5 B5 a8S (by simp<;>omega) zd I.cl.size fun v6 w6 hr6 hg=>?_
    obtain ⟨aA,cA,rfl,_⟩:=hr6.form;refine zE ?_;refine And.intro (zR ?_) trivial;refine J6 (I.gro hg) [.slice aA (([]:List Tx)++[TA]).length cA] rfl zk rfl (by intro v hv;simp at hv;subst hv;rfl) (Nat.le_of_ble_eq_true rfl) fun w7 u7=>zR ?_
    exact ⟨.slice aA (([]:List Tx)++[TA]).length cA,trivial,⟨_,_,rfl⟩,I.push hg hr6 u7⟩
  obtain ⟨⟨aA,cA,rfl⟩,I⟩:=I;clear h hx hxl u2 hk hTA hneA hleA;obtain ⟨pk,vk,hk⟩:=I.hk;refine zR ?_;refine o8 (b7v hk) ?_;rintro r w2 ⟨rfl,u2⟩;refine ⟨_,rfl,?_⟩;have h:=Bw.fresh u2.at_;have I:=I.upd hk u2;have hx:=I.hx;have hxl:=N2 hx;have hxn:=I.n4;refine zR ?_;refine d7 (s8 q.pc) (W1 (h.nb.blk hx hxl hxn) rfl rfl) (zR ?_);refine o8 (A6 q.pc h (by simp only [List.length_append,List.length_nil];omega)) ?_
  rintro r w3 ⟨rfl,h⟩;refine ⟨_,rfl,?_⟩;refine zR ?_;refine d7 (s8 q.ro) (W1 (h.nb.blk hx hxl hxn) rfl rfl) (zR ?_);refine o8 (A6 q.ro h (by simp only [List.length_append,List.length_nil];omega)) ?_
  rintro r w3 ⟨rfl,h⟩;refine ⟨_,rfl,?_⟩;refine zR ?_;refine d7 (s8 q.ca) (W1 (h.nb.blk hx hxl hxn) rfl rfl) (zR ?_);refine o8 (A6 q.ca h (by simp only [List.length_append,List.length_nil];omega)) ?_
  rintro r w3 ⟨rfl,h⟩;refine ⟨_,rfl,?_⟩;refine zR ?_;refine d7 (s8 q.fi) (W1 (h.nb.blk hx hxl hxn) rfl rfl) (zR ?_);refine o8 (A6 q.fi h (by simp only [List.length_append,List.length_nil];omega)) ?_
  rintro r w3 ⟨rfl,h⟩;refine ⟨_,rfl,?_⟩;refine zR ?_;refine d7 (s8 q.ra) (W1 (h.nb.blk hx hxl hxn) rfl rfl) (zR ?_);refine o8 (A6 q.ra h (by simp only [List.length_append,List.length_nil];omega)) ?_
  rintro r w3 ⟨rfl,h⟩;refine ⟨_,rfl,?_⟩;refine zR ?_;refine d7 (s8 q.pr) (W1 (h.nb.blk hx hxl hxn) rfl rfl) (zR ?_);refine o8 (A6 q.pr h (by simp only [List.length_append,List.length_nil];omega)) ?_
  rintro r w3 ⟨rfl,h⟩;refine ⟨_,rfl,?_⟩;refine zR ?_;refine d7 (s8 q.cs) (W1 (h.nb.blk hx hxl hxn) rfl rfl) (zR ?_);refine o8 (A6 q.cs h (by simp only [List.length_append,List.length_nil];omega)) ?_
  rintro r w3 ⟨rfl,h⟩;refine ⟨_,rfl,?_⟩;have h:Bw bs w2 w3 (q.pc++q.ro++q.ca++q.fi++q.ra++q.pr++q.cs):=by simpa using h
  generalize hTB:q.pc++q.ro++q.ca++q.fi++q.ra++q.pr++q.cs=TB at *;have hneB:TB≠[]:=by rw [← hTB];simp [hpc]
  have hleB:TB.length≤1000000:=by rw [← hTB];simp only [List.length_append];omega
  refine zG ?_;refine A4 (σ:=Value) [] 5 (fun _=>[]) (fun v w'=>(∃ a c,v = .slice a (([]++[TA])++[TB]).length c)∧b4U w bx bo bs q w' v (([]++[TA])++[TB])) zk ?_ (fun v j w7 I=>?_)
  ·refine zR ?_;refine I8.mk2 [0,1,2,4] (.cons 3 (.cons 5 (.cons 6 (.cons 7 (.cons 8 (.cons 9 .done .nil) .nil) .nil) .nil) .nil) (.cons 5 (.cons 3 (.cons 6 (.cons 7 (.cons 8 (.cons 9 .done .nil) .nil) .nil) .nil) (.cons 6 (.cons 3 (.cons 7 (.cons 8 (.cons 9 .done .nil) .nil) .nil) .nil) .nil)) .nil)) zk (zR ?_);have I2:=I;have I:=I.str (h.step (Cl.drew (Cl.refl _))) (Below.refl _ _);have h:=h.step (Cl.drew (Cl.refl _));refine And.intro ?aB (And.intro ?bB trivial)
   case' aB =>
    refine zR ?_;refine d7 _ (W1 I.ho rfl rfl) (zE ?_);refine o8 (a5U h hneB hleB) ?_;rintro r w4 ⟨rfl,b4⟩;refine ⟨_,rfl,?_⟩;have I:=I2.str h b4;refine zE ?_;refine E6 elStr [s8 TB] (by rw [Array.toList_map];rfl) (by simp [Value.cells,s8]) rfl zd zd ?_
    have hb5:Row 9 1 a4E w4.heap.size (w4.alloc (.cells (([s8 TB]:List Value).flatMap fun v=>v.cells.toList).toArray 9)) (.slice (some ⟨w4.heap.size,0,none⟩) 1 1) [TB]:=H9 B5 w4 [TB] (Nat.le_of_ble_eq_true rfl) _ rfl;have I:=I.step (Cl.alloc w4 (.cells (([s8 TB]:List Value).flatMap fun v=>v.cells.toList).toArray 9));generalize w4.alloc (.cells (([s8 TB]:List Value).flatMap fun v=>v.cells.toList).toArray 9)=w5 at *
   case' bB =>
    refine zR ?_;refine o8 (a5U h hneB hleB) ?_;rintro r w4 ⟨rfl,b4⟩;refine ⟨_,rfl,?_⟩;have I:=I2.str h b4;refine zR ?_;refine And.intro ?cB (And.intro ?dB trivial)
   case' cB =>
    refine zR ?_;refine d7 _ (W1 I.ho rfl rfl) (zE ?_);refine E6 elStr [s8 TB] (by rw [Array.toList_map];rfl) (by simp [Value.cells,s8]) rfl zd zd ?_
    have hb5:Row 9 1 a4E w4.heap.size (w4.alloc (.cells (([s8 TB]:List Value).flatMap fun v=>v.cells.toList).toArray 9)) (.slice (some ⟨w4.heap.size,0,none⟩) 1 1) [TB]:=H9 B5 w4 [TB] (Nat.le_of_ble_eq_true rfl) _ rfl;have I:=I.step (Cl.alloc w4 (.cells (([s8 TB]:List Value).flatMap fun v=>v.cells.toList).toArray 9));generalize w4.alloc (.cells (([s8 TB]:List Value).flatMap fun v=>v.cells.toList).toArray 9)=w5 at *
   case' dB =>
    refine zR ?_;refine E6 elStr [s8 TB] (by rw [Array.toList_map];rfl) (by simp [Value.cells,s8]) rfl zd zd ?_
    have hb5:Row 9 1 a4E w4.heap.size (w4.alloc (.cells (([s8 TB]:List Value).flatMap fun v=>v.cells.toList).toArray 9)) (.slice (some ⟨w4.heap.size,0,none⟩) 1 1) [TB]:=H9 B5 w4 [TB] (Nat.le_of_ble_eq_true rfl) _ rfl;have I:=I.step (Cl.alloc w4 (.cells (([s8 TB]:List Value).flatMap fun v=>v.cells.toList).toArray 9));generalize w4.alloc (.cells (([s8 TB]:List Value).flatMap fun v=>v.cells.toList).toArray 9)=w5 at *;refine zE ?_;refine d7 _ (W1 I.ho rfl rfl) ?_
   all_goals
    refine zE ?_;refine J2 elStr (v:=.slice aA ([]++[TA]).length cA) (l:=([]++[TA])) (news:=[TB]) rfl I.hr rfl hb5 B5 a8S (by simp<;>omega) zd I.cl.size fun v6 w6 hr6 hg=>?_
    obtain ⟨aB,cB,rfl,_⟩:=hr6.form;refine zE ?_;refine And.intro (zR ?_) trivial;refine J6 (I.gro hg) [.slice aB (([]++[TA])++[TB]).length cB] rfl zk rfl (by intro v hv;simp at hv;subst hv;rfl) (Nat.le_of_ble_eq_true rfl) fun w7 u7=>zR ?_
    exact ⟨.slice aB (([]++[TA])++[TB]).length cB,trivial,⟨_,_,rfl⟩,I.push hg hr6 u7⟩
  obtain ⟨⟨aB,cB,rfl⟩,I⟩:=I;clear h hx hxl u2 hk hTB hneB hleB;obtain ⟨pk,vk,hk⟩:=I.hk;refine zR ?_;refine o8 (b7v hk) ?_;rintro r w2 ⟨rfl,u2⟩;refine ⟨_,rfl,?_⟩;have h:=Bw.fresh u2.at_;have I:=I.upd hk u2;have hx:=I.hx;have hxl:=N2 hx;have hxn:=I.n4;refine zR ?_;refine d7 (s8 q.pc) (W1 (h.nb.blk hx hxl hxn) rfl rfl) (zR ?_);refine o8 (A6 q.pc h (by simp only [List.length_append,List.length_nil];omega)) ?_
  rintro r w3 ⟨rfl,h⟩;refine ⟨_,rfl,?_⟩;refine zR ?_;refine d7 (s8 q.fo) (W1 (h.nb.blk hx hxl hxn) rfl rfl) (zR ?_);refine o8 (A6 q.fo h (by simp only [List.length_append,List.length_nil];omega)) ?_
  rintro r w3 ⟨rfl,h⟩;refine ⟨_,rfl,?_⟩;refine zR ?_;refine d7 (s8 q.ca) (W1 (h.nb.blk hx hxl hxn) rfl rfl) (zR ?_);refine o8 (A6 q.ca h (by simp only [List.length_append,List.length_nil];omega)) ?_
  rintro r w3 ⟨rfl,h⟩;refine ⟨_,rfl,?_⟩;refine zR ?_;refine d7 (s8 q.fi) (W1 (h.nb.blk hx hxl hxn) rfl rfl) (zR ?_);refine o8 (A6 q.fi h (by simp only [List.length_append,List.length_nil];omega)) ?_
  rintro r w3 ⟨rfl,h⟩;refine ⟨_,rfl,?_⟩;refine zR ?_;refine d7 (s8 q.ra) (W1 (h.nb.blk hx hxl hxn) rfl rfl) (zR ?_);refine o8 (A6 q.ra h (by simp only [List.length_append,List.length_nil];omega)) ?_
  rintro r w3 ⟨rfl,h⟩;refine ⟨_,rfl,?_⟩;refine zR ?_;refine d7 (s8 q.pr) (W1 (h.nb.blk hx hxl hxn) rfl rfl) (zR ?_);refine o8 (A6 q.pr h (by simp only [List.length_append,List.length_nil];omega)) ?_
  rintro r w3 ⟨rfl,h⟩;refine ⟨_,rfl,?_⟩;refine zR ?_;refine d7 (s8 q.cs) (W1 (h.nb.blk hx hxl hxn) rfl rfl) (zR ?_);refine o8 (A6 q.cs h (by simp only [List.length_append,List.length_nil];omega)) ?_
  rintro r w3 ⟨rfl,h⟩;refine ⟨_,rfl,?_⟩;have h:Bw bs w2 w3 (q.pc++q.fo++q.ca++q.fi++q.ra++q.pr++q.cs):=by simpa using h
  generalize hTC:q.pc++q.fo++q.ca++q.fi++q.ra++q.pr++q.cs=TC at *;have hneC:TC≠[]:=by rw [← hTC];simp [hpc]
  have hleC:TC.length≤1000000:=by rw [← hTC];simp only [List.length_append];omega
  refine zR ?_;refine I8.mk2 [0,1,2,4] (.cons 3 (.cons 5 (.cons 6 (.cons 7 (.cons 8 (.cons 9 .done .nil) .nil) .nil) .nil) .nil) (.cons 5 (.cons 3 (.cons 6 (.cons 7 (.cons 8 (.cons 9 .done .nil) .nil) .nil) .nil) (.cons 6 (.cons 3 (.cons 7 (.cons 8 (.cons 9 .done .nil) .nil) .nil) .nil) .nil)) .nil)) zk (zR ?_);have I2:=I;have I:=I.str (h.step (Cl.drew (Cl.refl _))) (Below.refl _ _);have h:=h.step (Cl.drew (Cl.refl _));refine And.intro ?aC (And.intro ?bC trivial)
  case' aC =>
   refine zR ?_;refine d7 _ (W1 I.ho rfl rfl) (zE ?_);refine o8 (a5U h hneC hleC) ?_;rintro r w4 ⟨rfl,b4⟩;refine ⟨_,rfl,?_⟩;have I:=I2.str h b4;refine zE ?_;refine E6 elStr [s8 TC] (by rw [Array.toList_map];rfl) (by simp [Value.cells,s8]) rfl zd zd ?_
   have hb5:Row 9 1 a4E w4.heap.size (w4.alloc (.cells (([s8 TC]:List Value).flatMap fun v=>v.cells.toList).toArray 9)) (.slice (some ⟨w4.heap.size,0,none⟩) 1 1) [TC]:=H9 B5 w4 [TC] (Nat.le_of_ble_eq_true rfl) _ rfl;have I:=I.step (Cl.alloc w4 (.cells (([s8 TC]:List Value).flatMap fun v=>v.cells.toList).toArray 9));generalize w4.alloc (.cells (([s8 TC]:List Value).flatMap fun v=>v.cells.toList).toArray 9)=w5 at *
  case' bC =>
   refine zR ?_;refine o8 (a5U h hneC hleC) ?_;rintro r w4 ⟨rfl,b4⟩;refine ⟨_,rfl,?_⟩;have I:=I2.str h b4;refine zR ?_;refine And.intro ?cC (And.intro ?dC trivial)
  case' cC =>
   refine zR ?_;refine d7 _ (W1 I.ho rfl rfl) (zE ?_);refine E6 elStr [s8 TC] (by rw [Array.toList_map];rfl) (by simp [Value.cells,s8]) rfl zd zd ?_
   have hb5:Row 9 1 a4E w4.heap.size (w4.alloc (.cells (([s8 TC]:List Value).flatMap fun v=>v.cells.toList).toArray 9)) (.slice (some ⟨w4.heap.size,0,none⟩) 1 1) [TC]:=H9 B5 w4 [TC] (Nat.le_of_ble_eq_true rfl) _ rfl;have I:=I.step (Cl.alloc w4 (.cells (([s8 TC]:List Value).flatMap fun v=>v.cells.toList).toArray 9));generalize w4.alloc (.cells (([s8 TC]:List Value).flatMap fun v=>v.cells.toList).toArray 9)=w5 at *
  case' dC =>
   refine zR ?_;refine E6 elStr [s8 TC] (by rw [Array.toList_map];rfl) (by simp [Value.cells,s8]) rfl zd zd ?_
   have hb5:Row 9 1 a4E w4.heap.size (w4.alloc (.cells (([s8 TC]:List Value).flatMap fun v=>v.cells.toList).toArray 9)) (.slice (some ⟨w4.heap.size,0,none⟩) 1 1) [TC]:=H9 B5 w4 [TC] (Nat.le_of_ble_eq_true rfl) _ rfl;have I:=I.step (Cl.alloc w4 (.cells (([s8 TC]:List Value).flatMap fun v=>v.cells.toList).toArray 9));generalize w4.alloc (.cells (([s8 TC]:List Value).flatMap fun v=>v.cells.toList).toArray 9)=w5 at *;refine zE ?_;refine d7 _ (W1 I.ho rfl rfl) ?_
  all_goals
   refine zE ?_;refine J2 elStr (v:=.slice aB ([]++[TA]++[TB]).length cB) (l:=([]++[TA]++[TB])) (news:=[TC]) rfl I.hr rfl hb5 B5 a8S (by simp<;>omega) zd I.cl.size fun v6 w6 hr6 hg=>?_
   obtain ⟨aC,cC,rfl,_⟩:=hr6.form;refine zE ?_;refine And.intro (zR ?_) trivial;refine J6 (I.gro hg) [.slice aC (([]++[TA]++[TB])++[TC]).length cC] rfl zk rfl (by intro v hv;simp at hv;subst hv;rfl) (Nat.le_of_ble_eq_true rfl) fun w7 u7=>zR ?_
   have I:=I.push hg hr6 u7;refine d7 _ (W1 I.ho rfl rfl) (zR ?_);exact ⟨I.cl,_,rfl,I.hr⟩
 ·have hpc:q.pc=[]:=by rw [a0E] at h;exact a0p.1 h
  obtain ⟨L1,hL1⟩:∃ L1:List Tx,L1=if q.ca≠[] then [q.fo++q.ca++q.fi++q.ra++q.pr] else []:=⟨_,rfl⟩
  have eo:a9R q=L1++(if q.fo≠[]∧q.ro≠[] then [q.ca++q.fi++q.ra++q.pr] else []):=by unfold a9R;rw [if_neg (fun e=>e hpc),hL1]
  rw [eo];clear eo h;refine Cx.mk ?_;refine Nx.go ?_;refine A4 (σ:=Value) [] 5 (fun _=>[]) (fun v w'=>(∃ a c,v = .slice a L1.length c)∧b4U w bx bo bs q w' v L1) zk ?_ (fun v j w8 I=>?_)
  ·refine zR ?_;refine d7 (s8 q.ca) (W1 I.hx rfl rfl) (zR ?_);apply E.r9<;>intro h
   ·have hca:q.ca≠[]:=fun e=>h (by rw [e];rfl)
    rw [if_pos hca] at hL1;subst hL1;clear h;obtain ⟨pk,vk,hk⟩:=I.hk;refine zR ?_;refine o8 (b7v hk) ?_;rintro r w2 ⟨rfl,u2⟩;refine ⟨_,rfl,?_⟩;have h:=Bw.fresh u2.at_;have I:=I.upd hk u2;have hx:=I.hx;have hxl:=N2 hx;have hxn:=I.n4;refine zR ?_;refine d7 (s8 q.fo) (W1 (h.nb.blk hx hxl hxn) rfl rfl) (zR ?_);refine o8 (A6 q.fo h (by simp only [List.length_append,List.length_nil];omega)) ?_
    rintro r w3 ⟨rfl,h⟩;refine ⟨_,rfl,?_⟩;refine zR ?_;refine d7 (s8 q.ca) (W1 (h.nb.blk hx hxl hxn) rfl rfl) (zR ?_);refine o8 (A6 q.ca h (by simp only [List.length_append,List.length_nil];omega)) ?_
    rintro r w3 ⟨rfl,h⟩;refine ⟨_,rfl,?_⟩;refine zR ?_;refine d7 (s8 q.fi) (W1 (h.nb.blk hx hxl hxn) rfl rfl) (zR ?_);refine o8 (A6 q.fi h (by simp only [List.length_append,List.length_nil];omega)) ?_
    rintro r w3 ⟨rfl,h⟩;refine ⟨_,rfl,?_⟩;refine zR ?_;refine d7 (s8 q.ra) (W1 (h.nb.blk hx hxl hxn) rfl rfl) (zR ?_);refine o8 (A6 q.ra h (by simp only [List.length_append,List.length_nil];omega)) ?_
    rintro r w3 ⟨rfl,h⟩;refine ⟨_,rfl,?_⟩;refine zR ?_;refine d7 (s8 q.pr) (W1 (h.nb.blk hx hxl hxn) rfl rfl) (zR ?_);refine o8 (A6 q.pr h (by simp only [List.length_append,List.length_nil];omega)) ?_
    rintro r w3 ⟨rfl,h⟩;refine ⟨_,rfl,?_⟩;have h:Bw bs w2 w3 (q.fo++q.ca++q.fi++q.ra++q.pr):=by simpa using h
    generalize hTD:q.fo++q.ca++q.fi++q.ra++q.pr=TD at *;have hneD:TD≠[]:=by rw [← hTD];simp [hca]
    have hleD:TD.length≤1000000:=by rw [← hTD];simp only [List.length_append];omega
    refine zR ?_;refine I8.mk2 [0,1,2,4] (.cons 3 (.cons 5 (.cons 6 (.cons 7 (.cons 8 (.cons 9 .done .nil) .nil) .nil) .nil) .nil) (.cons 5 (.cons 3 (.cons 6 (.cons 7 (.cons 8 (.cons 9 .done .nil) .nil) .nil) .nil) (.cons 6 (.cons 3 (.cons 7 (.cons 8 (.cons 9 .done .nil) .nil) .nil) .nil) .nil)) .nil)) zk (zR ?_);have I2:=I;have I:=I.str (h.step (Cl.drew (Cl.refl _))) (Below.refl _ _);have h:=h.step (Cl.drew (Cl.refl _));refine And.intro ?aD (And.intro ?bD trivial)
    case' aD =>
     refine zR ?_;refine d7 _ (W1 I.ho rfl rfl) (zE ?_);refine o8 (a5U h hneD hleD) ?_;rintro r w4 ⟨rfl,b4⟩;refine ⟨_,rfl,?_⟩;have I:=I2.str h b4;refine zE ?_;refine E6 elStr [s8 TD] (by rw [Array.toList_map];rfl) (by simp [Value.cells,s8]) rfl zd zd ?_
     have hb5:Row 9 1 a4E w4.heap.size (w4.alloc (.cells (([s8 TD]:List Value).flatMap fun v=>v.cells.toList).toArray 9)) (.slice (some ⟨w4.heap.size,0,none⟩) 1 1) [TD]:=H9 B5 w4 [TD] (Nat.le_of_ble_eq_true rfl) _ rfl;have I:=I.step (Cl.alloc w4 (.cells (([s8 TD]:List Value).flatMap fun v=>v.cells.toList).toArray 9));generalize w4.alloc (.cells (([s8 TD]:List Value).flatMap fun v=>v.cells.toList).toArray 9)=w5 at *
    case' bD =>
     refine zR ?_;refine o8 (a5U h hneD hleD) ?_;rintro r w4 ⟨rfl,b4⟩;refine ⟨_,rfl,?_⟩;have I:=I2.str h b4;refine zR ?_;refine And.intro ?cD (And.intro ?dD trivial)
    case' cD =>
     refine zR ?_;refine d7 _ (W1 I.ho rfl rfl) (zE ?_);refine E6 elStr [s8 TD] (by rw [Array.toList_map];rfl) (by simp [Value.cells,s8]) rfl zd zd ?_
     have hb5:Row 9 1 a4E w4.heap.size (w4.alloc (.cells (([s8 TD]:List Value).flatMap fun v=>v.cells.toList).toArray 9)) (.slice (some ⟨w4.heap.size,0,none⟩) 1 1) [TD]:=H9 B5 w4 [TD] (Nat.le_of_ble_eq_true rfl) _ rfl;have I:=I.step (Cl.alloc w4 (.cells (([s8 TD]:List Value).flatMap fun v=>v.cells.toList).toArray 9));generalize w4.alloc (.cells (([s8 TD]:List Value).flatMap fun v=>v.cells.toList).toArray 9)=w5 at *
    case' dD =>
     refine zR ?_;refine E6 elStr [s8 TD] (by rw [Array.toList_map];rfl) (by simp [Value.cells,s8]) rfl zd zd ?_
     have hb5:Row 9 1 a4E w4.heap.size (w4.alloc (.cells (([s8 TD]:List Value).flatMap fun v=>v.cells.toList).toArray 9)) (.slice (some ⟨w4.heap.size,0,none⟩) 1 1) [TD]:=H9 B5 w4 [TD] (Nat.le_of_ble_eq_true rfl) _ rfl;have I:=I.step (Cl.alloc w4 (.cells (([s8 TD]:List Value).flatMap fun v=>v.cells.toList).toArray 9));generalize w4.alloc (.cells (([s8 TD]:List Value).flatMap fun v=>v.cells.toList).toArray 9)=w5 at *;refine zE ?_;refine d7 _ (W1 I.ho rfl rfl) ?_
    all_goals
     refine zE ?_;refine J2 elStr (v:=.slice none 0 0) (l:=([]:List Tx)) (news:=[TD]) rfl I.hr rfl hb5 B5 a8S (by simp<;>omega) zd I.cl.size fun v6 w6 hr6 hg=>?_
     obtain ⟨aD,cD,rfl,_⟩:=hr6.form;refine zE ?_;refine And.intro (zR ?_) trivial;refine J6 (I.gro hg) [.slice aD (([]:List Tx)++[TD]).length cD] rfl zk rfl (by intro v hv;simp at hv;subst hv;rfl) (Nat.le_of_ble_eq_true rfl) fun w7 u7=>zR ?_
     exact ⟨.slice aD ([]++[TD]).length cD,trivial,⟨aD,cD,rfl⟩,I.push hg hr6 u7⟩
   ·have hca:q.ca=[]:=by rw [a0E] at h;exact a0p.1 h
    rw [if_neg (fun e=>e hca)] at hL1;subst hL1;refine zR ?_;exact ⟨.slice none 0 0,trivial,⟨_,_,rfl⟩,I⟩
  obtain ⟨⟨aE,cE,rfl⟩,I⟩:=I;have hl1:L1.length≤1:=by rw [hL1];split<;>simp
  clear hL1;refine zR ?_;refine d7 (s8 q.fo) (W1 I.hx rfl rfl) (zR ?_);apply E.r9<;>intro h
  ·have hfo:q.fo≠[]:=fun e=>h (by rw [e];rfl)
   have hfi:=hq.fi hfo;clear h;refine zR ?_;refine d7 (s8 q.ro) (W1 I.hx rfl rfl) (zR ?_);apply E.r9<;>intro h
   ·have hro:q.ro≠[]:=fun e=>h (by rw [e];rfl)
    clear h;rw [if_pos ⟨hfo,hro⟩];obtain ⟨pk,vk,hk⟩:=I.hk;refine zR ?_;refine o8 (b7v hk) ?_;rintro r w2 ⟨rfl,u2⟩;refine ⟨_,rfl,?_⟩;have h:=Bw.fresh u2.at_;have I:=I.upd hk u2;have hx:=I.hx;have hxl:=N2 hx;have hxn:=I.n4;refine zR ?_;refine d7 (s8 q.ca) (W1 (h.nb.blk hx hxl hxn) rfl rfl) (zR ?_);refine o8 (A6 q.ca h (by simp only [List.length_append,List.length_nil];omega)) ?_
    rintro r w3 ⟨rfl,h⟩;refine ⟨_,rfl,?_⟩;refine zR ?_;refine d7 (s8 q.fi) (W1 (h.nb.blk hx hxl hxn) rfl rfl) (zR ?_);refine o8 (A6 q.fi h (by simp only [List.length_append,List.length_nil];omega)) ?_
    rintro r w3 ⟨rfl,h⟩;refine ⟨_,rfl,?_⟩;refine zR ?_;refine d7 (s8 q.ra) (W1 (h.nb.blk hx hxl hxn) rfl rfl) (zR ?_);refine o8 (A6 q.ra h (by simp only [List.length_append,List.length_nil];omega)) ?_
    rintro r w3 ⟨rfl,h⟩;refine ⟨_,rfl,?_⟩;refine zR ?_;refine d7 (s8 q.pr) (W1 (h.nb.blk hx hxl hxn) rfl rfl) (zR ?_);refine o8 (A6 q.pr h (by simp only [List.length_append,List.length_nil];omega)) ?_
    rintro r w3 ⟨rfl,h⟩;refine ⟨_,rfl,?_⟩;have h:Bw bs w2 w3 (q.ca++q.fi++q.ra++q.pr):=by simpa using h
    generalize hTF:q.ca++q.fi++q.ra++q.pr=TF at *;have hneF:TF≠[]:=by rw [← hTF];simp [hfi]
    have hleF:TF.length≤1000000:=by rw [← hTF];simp only [List.length_append];omega
    refine zR ?_;refine I8.mk2 [0,1,2,4] (.cons 3 (.cons 5 (.cons 6 (.cons 7 (.cons 8 (.cons 9 .done .nil) .nil) .nil) .nil) .nil) (.cons 5 (.cons 3 (.cons 6 (.cons 7 (.cons 8 (.cons 9 .done .nil) .nil) .nil) .nil) (.cons 6 (.cons 3 (.cons 7 (.cons 8 (.cons 9 .done .nil) .nil) .nil) .nil) .nil)) .nil)) zk (zR ?_);have I2:=I;have I:=I.str (h.step (Cl.drew (Cl.refl _))) (Below.refl _ _);have h:=h.step (Cl.drew (Cl.refl _));refine And.intro ?aF (And.intro ?bF trivial)
    case' aF =>
     refine zR ?_;refine d7 _ (W1 I.ho rfl rfl) (zE ?_);refine o8 (a5U h hneF hleF) ?_;rintro r w4 ⟨rfl,b4⟩;refine ⟨_,rfl,?_⟩;have I:=I2.str h b4;refine zE ?_;refine E6 elStr [s8 TF] (by rw [Array.toList_map];rfl) (by simp [Value.cells,s8]) rfl zd zd ?_
     have hb5:Row 9 1 a4E w4.heap.size (w4.alloc (.cells (([s8 TF]:List Value).flatMap fun v=>v.cells.toList).toArray 9)) (.slice (some ⟨w4.heap.size,0,none⟩) 1 1) [TF]:=H9 B5 w4 [TF] (Nat.le_of_ble_eq_true rfl) _ rfl;have I:=I.step (Cl.alloc w4 (.cells (([s8 TF]:List Value).flatMap fun v=>v.cells.toList).toArray 9));generalize w4.alloc (.cells (([s8 TF]:List Value).flatMap fun v=>v.cells.toList).toArray 9)=w5 at *
    case' bF =>
     refine zR ?_;refine o8 (a5U h hneF hleF) ?_;rintro r w4 ⟨rfl,b4⟩;refine ⟨_,rfl,?_⟩;have I:=I2.str h b4;refine zR ?_;refine And.intro ?cF (And.intro ?dF trivial)
    case' cF =>
     refine zR ?_;refine d7 _ (W1 I.ho rfl rfl) (zE ?_);refine E6 elStr [s8 TF] (by rw [Array.toList_map];rfl) (by simp [Value.cells,s8]) rfl zd zd ?_
     have hb5:Row 9 1 a4E w4.heap.size (w4.alloc (.cells (([s8 TF]:List Value).flatMap fun v=>v.cells.toList).toArray 9)) (.slice (some ⟨w4.heap.size,0,none⟩) 1 1) [TF]:=H9 B5 w4 [TF] (Nat.le_of_ble_eq_true rfl) _ rfl;have I:=I.step (Cl.alloc w4 (.cells (([s8 TF]:List Value).flatMap fun v=>v.cells.toList).toArray 9));generalize w4.alloc (.cells (([s8 TF]:List Value).flatMap fun v=>v.cells.toList).toArray 9)=w5 at *
    case' dF =>
     refine zR ?_;refine E6 elStr [s8 TF] (by rw [Array.toList_map];rfl) (by simp [Value.cells,s8]) rfl zd zd ?_
     have hb5:Row 9 1 a4E w4.heap.size (w4.alloc (.cells (([s8 TF]:List Value).flatMap fun v=>v.cells.toList).toArray 9)) (.slice (some ⟨w4.heap.size,0,none⟩) 1 1) [TF]:=H9 B5 w4 [TF] (Nat.le_of_ble_eq_true rfl) _ rfl;have I:=I.step (Cl.alloc w4 (.cells (([s8 TF]:List Value).flatMap fun v=>v.cells.toList).toArray 9));generalize w4.alloc (.cells (([s8 TF]:List Value).flatMap fun v=>v.cells.toList).toArray 9)=w5 at *;refine zE ?_;refine d7 _ (W1 I.ho rfl rfl) ?_
    all_goals
     refine zE ?_;refine J2 elStr (v:=.slice aE L1.length cE) (l:=L1) (news:=[TF]) rfl I.hr rfl hb5 B5 a8S (by simp<;>omega) zd I.cl.size fun v6 w6 hr6 hg=>?_
     obtain ⟨aF,cF,rfl,_⟩:=hr6.form;refine zE ?_;refine And.intro (zR ?_) trivial;refine J6 (I.gro hg) [.slice aF (L1++[TF]).length cF] rfl zk rfl (by intro v hv;simp at hv;subst hv;rfl) (Nat.le_of_ble_eq_true rfl) fun w7 u7=>zR ?_
     have I:=I.push hg hr6 u7;refine d7 _ (W1 I.ho rfl rfl) (zR ?_);exact ⟨I.cl,_,rfl,I.hr⟩
   ·have hro:q.ro=[]:=by rw [a0E] at h;exact a0p.1 h
    rw [if_neg (fun e=>e.2 hro),List.append_nil];refine zR ?_;refine d7 _ (W1 I.ho rfl rfl) (zR ?_);exact ⟨I.cl,_,rfl,I.hr⟩
  ·have hfo:q.fo=[]:=by rw [a0E] at h;exact a0p.1 h
   rw [if_neg (fun e=>e.1 hfo),List.append_nil];refine zR ?_;refine d7 _ (W1 I.ho rfl rfl) (zR ?_);exact ⟨I.cl,_,rfl,I.hr⟩
def c6q (P:Program) (t ty u:Nat) (R:Ending→World→Prop):Exit→C0→World→Prop
 | .normal,e,w=>(match e t with
  | .pointer (some a)=>K6 P w ty a (fun v=>R (.returned (.tuple #[v,e u])) w)
  | _=>False)
 | .ret,e,w=>(match e t with
  | .pointer (some a)=>K6 P w ty a (fun v=>R (.returned (.tuple #[v,e u])) w)
  | _=>False)
 | _,_,_=>False
theorem c5B {G:Prg} {f:Nat} {fn:Func} {c:Code} {args:List Value} {w:World} {R:Ending→World→Prop} (t ty u:Nat)
  (hf:G.P.funcs[f]?=some fn) (hb:fn.body=some c) (hn:args.length≤fn.ntmps) (hk:P7 fn.ntmps c=true) (he:fn.results=#[.cell t ty,.tmp u])
  (h:W G fn.ntmps c (a8o args) w (c6q G.P t ty u R)):Calls G.P f args.toArray w R:=by
 refine calls_of_wp hf hb ?_;have hsz:(args.toArray++Array.replicate (fn.ntmps-args.toArray.size) undef).size=fn.ntmps:=by simp;omega
 refine wp_mono (h hk { tmps:=args.toArray++Array.replicate (fn.ntmps-args.toArray.size) undef,defers:=[] } ?_ hsz rfl) ?_
 ·funext t;unfold s7 a8o;rw [b3f];simp only [Array.getD_eq_getD_getElem?,List.getD_eq_getElem?_getD];by_cases ht:t<args.length
  ·rw [Array.getElem?_append_left (by simpa using ht)];simp
  ·rw [Array.getElem?_append_right (by simpa using ht)]
   rw [List.getElem?_eq_none zo];simp only [Option.getD_none];cases hx:(Array.replicate (fn.ntmps-args.toArray.size) undef)[t-args.toArray.size]? with
   | none=>rfl
   | some v =>
    obtain ⟨h1,h2⟩:=Array.getElem?_eq_some_iff.1 hx;simp at h2;simp [h2]
 ·rintro x a w' ⟨hs,hd,hq⟩;have key:(match s7 a t with | .pointer (some ad)=>K6 G.P w' ty ad (fun v=>R (.returned (.tuple #[v,s7 a u])) w') | _=>False)→∃ v,(results fn a.tmps).run G.P w' = .ok v w'∧R (.returned v) w':=by
   intro hr;split at hr
   ·rename_i ad had;obtain ⟨v,h1,h2⟩:=hr.ex;refine ⟨_,?_,h2⟩;have had':a.tmps[t]?.getD undef = .pointer (some ad):=by rw [← Array.getD_eq_getD_getElem?];exact had
    unfold l8 Instr.loadAt at h1;simp [Instr.sureAddr] at h1;simp [results,he,had',asAddr,h1,s7,Array.getD_eq_getD_getElem?]
   ·exact hr.elim
  cases x<;>first
   | exact ⟨hd,key hq⟩
   | exact hq.elim
theorem c36 {z:Value} (hz:z.cells.size=8) (q:X1):a4M z.cells 0 (mcA q).toList=mcA q:=by
 rw [C5 _ _ (by rw [hz];rfl)]
theorem c4d (q:X1):∀ v∈(mcA q).toList,v.oneCell'=true:=by
 intro v hv;simp only [mcA,List.mem_cons,List.not_mem_nil,or_false] at hv;rcases hv with rfl | rfl | rfl | rfl | rfl | rfl | rfl | rfl<;>rfl
theorem c5b {w:World} {b:Nat} {u:Nat} {fz:Nat×Nat} {q:X1} (hb:w.heap[b]?=some (.cells (mcA q) u fz)):l8 G.P w 394 ⟨b,0,none⟩ (mcV q):=by
 have:=ldA (t:=394) (o:=0) (z:=8) hb rfl (by simp [mcA])
 rw [show (mcA q).extract 0 (0+8)=mcA q by simp [mcA]] at this
 exact this
set_option maxHeartbeats 1000000 in
theorem c4u {s:Tx} (hs:s.length≤1000) {q:X1} (hq:zzP s=some q) (w:World):Calls G.P 343 #[s8 s] w (K4 (.tuple #[mcV q,.nilIface]) w):=by
 have hz:=c57 s hs;have hL:=c3m hq;obtain ⟨z,hz1,hz8⟩:=zMc;refine c5B (G:=G) 2 394 3 Tryz.func343 rfl (by simp [Tryz.ntmps343]) zk rfl ?_
 refine a4x (zR ?_);refine t7 z hz1 ?_;have cA:=Cl.alloc w (.cells z.cells 394);have nA:=q8 w (.cells z.cells 394);generalize w.alloc (.cells z.cells 394)=w1 at *;refine zR ?_;refine o8 (hz w1) ?_;rintro r w2 ⟨c2,v,rfl,hr⟩;rw [hL] at hr;obtain ⟨a,k,rfl,ha⟩:=hr.form;obtain ⟨g,rfl⟩:=ha (show 0<10 by decide)
 refine ⟨_,rfl,?_⟩;have ld:∀ (i:Nat) (hi:i<10) w',Cl w2 w'→l8 G.P w' 9 ⟨g,i,none⟩ (s8 (a9y s q)[i]):=fun i hi w' c=>J8 (hr.step c) B5 i 0 hi zd rfl zo rfl;refine zR ?_;refine zK 25 ?_;refine zR ?_;refine g9 (s8 q.pc) (fun w' hw=>ld 1 zd w' hw) (zR ?_);refine g9 (s8 q.fo) (fun w' hw=>ld 2 zd w' hw) (zR ?_);refine g9 (s8 q.ro) (fun w' hw=>ld 3 zd w' hw) (zR ?_);refine g9 (s8 q.ca) (fun w' hw=>ld 4 zd w' hw) (zR ?_);refine g9 (s8 q.fi) (fun w' hw=>ld 5 zd w' hw) (zR ?_);refine g9 (s8 q.ra) (fun w' hw=>ld 6 zd w' hw) (zR ?_);refine g9 (s8 q.pr) (fun w' hw=>ld 7 zd w' hw) (zR ?_);refine g9 (s8 q.cs) (fun w' hw=>ld 8 zd w' hw) (zR ?_);refine b1Q (mcA q) zk (zR ?_);intro w3 c3;refine zR ?_;refine J6 (c3.blk (c2.blk nA)) (mcA q).toList rfl c5U rfl (c4d q) (by rw [hz8];decide) fun w4 u4=>?_
 have hb:w4.heap[w.heap.size]?=some (.cells (mcA q) 394 (0,0)):=by rw [u4.at_,c36 hz8]
 refine zR ?_;refine K6.mk ⟨mcV q,c5b hb,?_⟩;exact ⟨rfl,u4.cl (cA.trans (c2.trans c3)) (Nat.le_refl _)⟩
theorem c4B {p:A3} {m:Mv} (hp:m.promo=0∨2≤m.promo∧m.promo≤5) (h:inCheck (made p m)=true):a1s p m=true:=by
 unfold a1s;split
 ·exact h
 ·obtain ⟨f,t,k⟩:=m;rename_i h0;simp only at hp h0 ⊢;rw [List.any_eq_true];refine ⟨k,?_,?_⟩
  ·rcases (by omega:k=2∨k=3∨k=4∨k=5) with rfl | rfl | rfl | rfl<;>decide
  rw [decide_eq_true (Int.le_refl k),h];rfl
theorem c4C (p:A3) (m:Mv) (t:Nat):a1K (signM p m t)=true:=by
 unfold signM;have h1:a1K [35]=true:=by rw [b5z,if_pos zd];exact b1F
 have h2:a1K [43]=true:=by rw [b5z,if_pos zd];exact b1F
 split
 ·split
  ·exact h1
  ·exact h2
 ·exact b1F
theorem c6r (p:A3) (m:Mv) (t:Nat):(body p m++signM p m t).length≤900:=by
 have:=b0C p m;unfold b33 at this;rw [List.length_append] at this ⊢;have:=a8K p m t;omega
theorem c5c (q:X1):(a9R q).length≤3:=by
 unfold a9R;split
 ·simp
 ·split<;>split<;>simp
theorem c5d {q:X1} {t:Tx} (h1:a5d q≠t) (h2:∀ o∈a9R q,o≠t):c20 q t=false:=by
 rw [Bool.eq_false_iff];intro h;rcases b3h.1 h with h | h
 ·exact h1 h
 ·exact h2 _ h rfl
theorem c5C {p:A3} {q:X1} {i:Nat} (hi:i<(N0 p).length) (hno:∀ y∈(N0 p).take i,c20 q (body p y.mv)=false) (h:c20 q (body p ((N0 p)[i]).mv)=true):c45 p q=some (N0 p)[i]:=by
 unfold c45;rw [List.find?_eq_some_iff_append];refine ⟨h,(N0 p).take i,(N0 p).drop (i+1),?_,fun y hy=>by rw [hno y hy];rfl⟩
 rw [← List.drop_eq_getElem_cons hi,List.take_append_drop]
set_option maxHeartbeats 4000000 in
theorem c3M {p:A3} (hI:B7 p) (hN:a1z p) (hle:(z8 p).length≤218) {P b:Nat} {cv:Value} {T:Tx} (hT1:T.length≤1000) {q:X1} (hq:zzP T=some q) {x:PM} (hx:c45 p q=some x) (w:World) (hT:C1 w) (hM:H0 w P b p cv) :
  Calls G.P 341 #[.agg #[],.pointer (some ⟨P,0,none⟩),s8 T] w (fun r w'=>∃ cv' M,r = .returned (.tuple #[.pointer (some ⟨M,0,none⟩),.nilIface])∧H0 w' P b p cv'∧Tn P w w'∧Row 141 11 C6 0 w' cv' (N0 p)∧w.heap.size≤M∧w'.heap[M]?=some (.cells (F0 (D3 x)) 141 (0,0))
  ∧∀ k,cv'.ownBlock=some k→(cv.ownBlock=some k∨w.heap.size≤k)∧k≠M):=by
 obtain ⟨mm1,mm2⟩:=a0I hI;have hlen:=a4O hI hle;have hPL:=c5P hT1 hq;obtain ⟨z,hz1,hz8⟩:=zMc;refine zN Tryz.func341 ?_;refine zR ?_;have cb:=Cl.alloc w (.cells #[] 149);generalize w.alloc (.cells #[] 149)=w1 at *;have hPw:P<w.heap.size:=N2 hM.hd;refine m9 (c4u hT1 hq w1) fun w2 c2=>?_;have cb:=cb.trans c2;have s02:=cb.size;refine zR ?_;refine t7 z hz1 ?_;have cb:=cb.trans (Cl.alloc w2 (.cells z.cells 394));have nA:=q8 w2 (.cells z.cells 394);generalize w2.alloc (.cells z.cells 394)=w3 at *;have s2:=c2.size;refine zR ?_;refine J6 nA (mcA q).toList rfl c5U rfl (c4d q) (by rw [hz8];decide) fun w4 u4=>?_
 have hQ:w4.heap[w2.heap.size]?=some (.cells (mcA q) 394 (0,0)):=by rw [u4.at_,c36 hz8]
 have c04:Cl w w4:=u4.cl cb s02;clear u4 nA cb;refine zR ?_;refine I1 true (F8 rfl) (zR ?_);refine d7 (mcV q) (c5b hQ) (zR ?_);refine m9 (c33 hPL w4) fun w5 c5=>?_;have c05:=c04.trans c5;have hQ5:=c5.blk hQ;obtain ⟨bq,hbq⟩:∃ b,b=w2.heap.size:=⟨_,rfl⟩;rw [← hbq] at hQ5 ⊢;clear hQ c2 hbq;refine zR ?_;refine o8 (a4P hI hle w5 (hT.cl c05) (hM.step c05)) ?_;rintro r w6 ⟨v,cv',rfl,hr,hM6,n6,hr0,hown⟩;obtain ⟨av,kv,rfl,hav⟩:=hr.form;have hown2:∀ k,cv'.ownBlock=some k→(cv.ownBlock=some k∨w.heap.size≤k)∧k<w6.heap.size:=fun k h=>⟨(hown k h).imp id (Nat.le_trans c05.size),(hr0.own h).2⟩;clear hown;refine ⟨_,rfl,?_⟩;have hQ6:=n6.blk hQ5 (J4 hQ5 (hM.step c05).hd zd);have ntw:=(Tn.cl (b:=P) c05).trans n6;have hT6:C1 w6:=(hT.cl c05).fr (Fr.tn (S:=[P]) n6 (.inl (by simp))) fun k hk cs t fz hh=>by
  rw [List.mem_singleton.1 hk] at hh;rw [← (Obj.cells.inj (Option.some.inj ((hM.step c05).hd.symm.trans hh))).2.1];decide
 refine zR ?_;refine A9 (σ:=Nat) [6,7,12,13,14,15,17,31] 32 (fun i=>[(31,.int .i64 i)]) (fun i w'=>i≤(N0 p).length∧Cl w6 w'∧∀ y∈(N0 p).take i,c20 q (body p y.mv)=false) (fun i=>(N0 p).length-i) zk 0 ⟨Nat.zero_le _,Cl.refl _,fun y hy=>by simp at hy⟩ ⟨rfl,trivial⟩ ?_
 rintro i j w7 ⟨hi,c7,hno⟩;have ni:=C2 (i:=i) zo;refine zR ?_;apply E.b7<;>intro h
 ·have hi2:i<(N0 p).length:=by omega
  clear h;obtain ⟨g,rfl⟩:=hav zo;have hld:=fun {o:Nat} (ho:o=i*11)=>a97 (hr.step c7) i hi2 ho;have hxm:=List.getElem_mem hi2;have htk:(N0 p).take (i+1)=(N0 p).take i++[(N0 p)[i]]:=List.take_succ_eq_append_getElem hi2;have hfit:=c5C (q:=q) hi2 hno;obtain ⟨ad,hcv⟩:∃ ad,∃ n c,cv' = .slice (some ad) n c:=by
   obtain ⟨a,n,c,rfl⟩:=hM6.form;obtain ⟨ad,rfl⟩:=hM6.kept hr0 (fun e=>by rw [e] at hi2;simp at hi2)
   exact ⟨ad,n,c,rfl⟩
  obtain ⟨n0,k0,rfl⟩:=hcv;generalize (N0 p)[i]=y at *;have hyl:=(mm1 y hxm).1;have hyt:=(mm1 y hxm).2;have hyr:=L4 hI hyl;have hsan:=b4F hI hyl (t:=y.tags) (ck:=a1s p y.mv) hyt;have hzy:=c4q hI hyl (c4C p y.mv y.tags);have hly:=c6r p y.mv y.tags;have hPy:=c5P zo hzy;have hcy:=b5v hI hyl;refine zR ?_;refine zC ?_;refine zR ?_;refine d7 _ (hld (a0y _ _)) (zR ?_);refine t7 _ a6b ?_;have cB:=Cl.alloc w7 (.cells (Value.agg (F0 (D3 ⟨⟨0,0,0⟩,0⟩))).cells 141);have nB:=q8 w7 (.cells (Value.agg (F0 (D3 ⟨⟨0,0,0⟩,0⟩))).cells 141);generalize w7.alloc (.cells (Value.agg (F0 (D3 ⟨⟨0,0,0⟩,0⟩))).cells 141)=w8 at *;refine zR ?_;refine J6 nB (C6 y) rfl a1x rfl (X3 y) (Nat.le_of_ble_eq_true rfl) fun w9 u9=>?_;have hX:w9.heap[w7.heap.size]?=some (.cells (F0 (D3 y)) 141 (0,0)):=by have h7:=u9.at_;rw [C5 _ _ (by rw [I7];rfl)] at h7;exact h7
  have c9:Cl w7 w9:=(Tn.upd u9).toCl cB (Nat.le_refl _);have c69:=c7.trans c9;have sM:w.heap.size≤w7.heap.size∧w6.heap.size≤w7.heap.size:=⟨Nat.le_trans ntw.size c7.size,c7.size⟩;obtain ⟨M,hMM⟩:∃ M,M=w7.heap.size:=⟨_,rfl⟩;rw [← hMM] at hX sM ⊢;clear u9 nB cB hld hMM;refine zR ?_;refine s9 #[] zk (zR ?_);refine m9 (b0X (d:=D3 y) hI hN hle hyl (ck:=a1s p y.mv) (fun h=>c4B (by have:=hyr.2.2.2.2;show y.mv.promo=0∨2≤y.mv.promo∧y.mv.promo≤5;omega) h) hyt w9 (hT6.cl c69) (hM6.step c69) hX) fun w10 c10=>?_
  have e10:b6J p (D3 y).mv (D3 y).tags=body p y.mv++signM p y.mv y.tags:=hsan;rw [e10];clear e10 hsan;have c610:=c69.trans c10;have hX:=c10.blk hX;refine zR ?_;refine m9 (c4u zo hzy w10) fun w11 c11=>?_;have c611:=c610.trans c11;have hX:=c11.blk hX;refine zR ?_;refine t7 z hz1 ?_;have cC:=Cl.alloc w11 (.cells z.cells 394);have nC:=q8 w11 (.cells z.cells 394);generalize w11.alloc (.cells z.cells 394)=w12 at *;refine zR ?_;refine J6 nC (mcA (a4r p y.mv)).toList rfl c5U rfl (c4d _) (by rw [hz8];decide) fun w13 u13=>?_
  have hY:w13.heap[w11.heap.size]?=some (.cells (mcA (a4r p y.mv)) 394 (0,0)):=by rw [u13.at_,c36 hz8]
  have c13:Cl w11 w13:=(Tn.upd u13).toCl cC (Nat.le_refl _);have c613:=c611.trans c13;have hX:=c13.blk hX;obtain ⟨by_,hby⟩:∃ b,b=w11.heap.size:=⟨_,rfl⟩;rw [← hby] at hY ⊢;clear u13 nC cC hby c13;have fin:∀ w',Cl w13 w'→c20 q (body p y.mv)=true→∃ cv' M',Ending.returned (.tuple #[.pointer (some ⟨M,0,none⟩),.nilIface]) = .returned (.tuple #[.pointer (some ⟨M',0,none⟩),.nilIface])∧H0 w' P b p cv'∧Tn P w w'∧Row 141 11 C6 0 w' cv' (N0 p)∧w.heap.size≤M'∧w'.heap[M']?=some (.cells (F0 (D3 x)) 141 (0,0))
  ∧∀ k,cv'.ownBlock=some k→(cv.ownBlock=some k∨w.heap.size≤k)∧k≠M':=fun w' c hf=>by
   have e:=hfit hf;rw [hx] at e;have e:=Option.some.inj e;have c6:=c613.trans c;refine ⟨_,M,rfl,hM6.step c6,ntw.trans (Tn.cl c6),hr0.step c6,sM.1,by rw [e];exact c.blk hX,fun k hk=>⟨(hown2 k hk).1,?_⟩⟩
   have:=(hown2 k hk).2;omega
  clear hfit;refine zR ?_;refine I1 true (F8 rfl) (zR ?_);refine d7 (mcV (a4r p y.mv)) (c5b hY) (zR ?_);refine m9 (c33 hPy w13) fun w14 c14=>?_;rw [hcy];refine zR ?_;apply E.b7<;>intro h
  ·have e:a5d q=body p y.mv:=a0p.1 h;refine zR ?_;exact fin w14 c14 (b3h.2 (.inl e))
  have hne:a5d q≠body p y.mv:=fun e=>h (by rw [e])
  clear h;refine zR ?_;refine d7 (mcV q) (c5b ((c613.trans c14).blk hQ6)) (zR ?_);refine o8 (c4A hPL w14) ?_;rintro r w15 ⟨c15,vo,rfl,hO⟩;obtain ⟨ao,ko,rfl,hao⟩:=hO.form;refine ⟨_,rfl,?_⟩;have hol:=c5c q;have c1315:=c14.trans c15;refine zR ?_;refine A9 (σ:=Nat) [6,7,17,52] 53 (fun i=>[(52,.int .i64 i)]) (fun i w'=>i≤(a9R q).length∧Cl w15 w'∧∀ o∈(a9R q).take i,o≠body p y.mv) (fun i=>(a9R q).length-i) zk 0 ⟨Nat.zero_le _,Cl.refl _,fun o ho=>by simp at ho⟩ ⟨rfl,trivial⟩ ?_
  rintro k jk w16 ⟨hk,c16,hnk⟩;have nk:=C2 (i:=k) zo;refine zR ?_;apply E.b7<;>intro h
  ·have hk2:k<(a9R q).length:=by omega
   clear h;obtain ⟨go,rfl⟩:=hao zo;have htk2:(a9R q).take (k+1)=(a9R q).take k++[(a9R q)[k]]:=List.take_succ_eq_append_getElem hk2;have hlo:l8 G.P w16 9 ⟨go,E.W6 0 ((k:Int)).toNat 1,none⟩ (s8 (a9R q)[k]):=J8 (hO.step c16) B5 k 0 hk2 zd rfl (by simp [E.z6]) rfl
   have hom:=List.getElem_mem hk2;generalize (a9R q)[k]=o at *;refine zR ?_;refine zC ?_;refine zR ?_;refine d7 _ hlo (zR ?_);refine d7 (mcV (a4r p y.mv)) (c5b ((c1315.trans c16).blk hY)) (zR ?_);refine m9 (c33 hPy w16) fun w17 c17=>?_;rw [hcy];refine zR ?_;apply E.b7<;>intro h
   ·have e:o=body p y.mv:=a0p.1 h;refine zR ?_;exact fin w17 (c1315.trans (c16.trans c17)) (b3h.2 (.inr (by rw [← e];exact hom)))
   ·have hno2:o≠body p y.mv:=fun e=>h (by rw [e])
    refine zR ?_;refine ⟨k+1,⟨m7 nk,trivial⟩,⟨zo,c16.trans c17,fun o' ho'=>?_⟩,zo⟩;rw [htk2] at ho';rcases List.mem_append.1 ho' with ho' | ho'
    ·exact hnk o' ho'
    ·rw [List.mem_singleton.1 ho'];exact hno2
  ·have e:k=(a9R q).length:=by omega
   subst e;rw [List.take_length] at hnk;have hf:=c5d hne hnk;refine zR ?_;refine ⟨i+1,⟨m7 ni,trivial⟩,⟨zo,c613.trans (c1315.trans c16),fun y' hy'=>?_⟩,zo⟩;rw [htk] at hy';rcases List.mem_append.1 hy' with hy' | hy'
   ·exact hno y' hy'
   ·rw [List.mem_singleton.1 hy'];exact hf
 ·have e:i=(N0 p).length:=by omega
  subst e;rw [List.take_length] at hno;exfalso;unfold c45 at hx;have h1:=List.mem_of_find?_eq_some hx;have h2:=List.find?_some hx;rw [hno x h1] at h2;cases h2
end
end Go.Proofs.YtpclhlhcegcflaaGreatDoor
