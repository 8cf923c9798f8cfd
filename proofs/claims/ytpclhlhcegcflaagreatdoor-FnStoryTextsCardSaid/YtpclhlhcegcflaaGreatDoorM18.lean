/- One part of the proof: Pk55 Pk56 Pk57 Pk58 Pk59 Pk60 Pk61 Pk62 Dfr2 Pk63 Pk50. -/
import Derived.ChangeKeysEq
import Derived.Test.YtpclhlhcegcflaaGreatDoorM1
import Derived.Test.YtpclhlhcegcflaaGreatDoorM3
import Derived.Test.YtpclhlhcegcflaaGreatDoorM14
import Derived.Test.YtpclhlhcegcflaaGreatDoorM17
namespace Go.Proofs.YtpclhlhcegcflaaGreatDoor
set_option maxRecDepth 100000
set_option linter.unusedSimpArgs false
set_option linter.unusedVariables false
section
open Go Go.RowKit
open E
open Ch Bb
def mcA (q:D5):Array Value:=#[m9 q.pc,m9 q.fo,m9 q.ro,m9 q.ca,m9 q.fi,m9 q.ra,m9 q.pr,m9 q.cs]
def mcV (q:D5):Value:=.agg (mcA q)
theorem c3B:(G.P.info? 394).map (·.size)=some 8:=by kernel_rfl
theorem zMc:∃ z,(G.P.info? 394).bind (·.zero)=some z∧z.cells.size=8:=a0a zk
structure PL (q:D5):Prop where
 l:q.pc.length≤1000∧q.fo.length≤1000∧q.ro.length≤1000∧q.ca.length≤1000∧q.fi.length≤1000∧q.ra.length≤1000∧q.pr.length≤1000∧q.cs.length≤1000
 ne:V8 q≠[]
 fi:q.fo≠[]→q.fi≠[]
theorem c1y (s:Tx) (i j:Nat):(X8 s i j).length≤s.length:=by unfold X8;rw [yc,List.length_drop];omega
theorem a1C {f:Nat→Option D5} {q:D5}:∀ n,a1v f n=some q→∃ k,k<n∧f k=some q
 | 0,h=>by cases h
 | n+1,h=>by
  rw [a1B] at h;cases e:f n with
  | none =>
   rw [e,b8X] at h;obtain ⟨k,hk,h2⟩:=a1C n h;exact ⟨k,zo,h2⟩
  | some x =>
   rw [e,b2G] at h;exact ⟨n,zo,by rw [e,h]⟩
theorem c2n {s:Tx} {q:D5} (hs:s.length≤1000) (h:zzP s=some q):PL q:=by
 unfold zzP at h;cases e:a3I s with
 | some x =>
  rw [e] at h;injection h with h;subst h;obtain ⟨a,_,ha⟩:=a1C _ e;obtain ⟨b,_,hb⟩:=a1C _ ha;obtain ⟨c,_,hc⟩:=a1C _ hb;obtain ⟨d,_,hd⟩:=a1C _ hc;unfold b68 at hd;split at hd
  ·rename_i hg;rw [zP] at hg;obtain ⟨k,_,hk⟩:=a1C _ hd;unfold b67 at hk;split at hk
   ·injection hk with hk;subst hk;have hl:=b4l hg.1;have hfi:(b66 s a b c d k).fi≠[]:=by
     show X8 s (a+b+c+d) (a+b+c+d+1)≠[];unfold X8;rw [List.drop_eq_getElem_cons hl,show a+b+c+d+1-(a+b+c+d)=1 by omega]
     simpa using hl
    have hc:∀ i j,(X8 s i j).length≤1000:=fun i j=>zu (c1y s i j) hs;refine ⟨⟨hc _ _,hc _ _,hc _ _,hc _ _,hc _ _,hc _ _,hc _ _,by show 0≤1000;omega⟩,fun e=>hfi ?_,fun _=>hfi⟩
    unfold V8 at e;simp only [List.append_eq_nil_iff] at e;exact e.1.1.1.2
   ·cases hk
  ·cases hd
 | none =>
  rw [e] at h;simp only at h;split at h
  ·injection h with h;subst h;exact ⟨zd,zd,fun e=>absurd rfl e⟩
  ·split at h
   ·injection h with h;subst h;exact ⟨zd,zd,fun e=>absurd rfl e⟩
   ·cases h
theorem Bw.done {b:Nat} {w0 wr w w':World} {l:Tx} (h:Bw b wr w l) (h4:Below wr.heap.size w w') (c:Cl w0 wr) (hb:w0.heap.size≤b):Cl w0 w' :=
 ⟨h4.os.trans (h.nb.os.trans c.os),h4.tape.trans (h.nb.tape.trans c.tape),h4.output.trans (h.nb.output.trans c.output),zu c.size (zu h.nb.size h4.size),fun k hk =>
  (h4.block k (Nat.lt_of_lt_of_le hk c.size)).trans ((h.nb.else_ k (Nat.lt_of_lt_of_le hk c.size) (Nat.ne_of_lt (Nat.lt_of_lt_of_le hk hb))).trans (c.block k hk))⟩
set_option maxHeartbeats 1000000 in
theorem b1j {q:D5} (hq:PL q) (w:World):Calls G.P 344 #[mcV q] w (L4 (m9 (V8 q)) w):=by
 obtain ⟨l0,l1,l2,l3,l4,l5,l6,l7⟩:=hq.l;refine zN Tryz.func344 ?_;refine zG ?_;obtain ⟨W0,hW0⟩:∃ W0,W0=w.alloc (.cells (mcA q) 394):=⟨_,rfl⟩;have c0:Cl w W0:=by rw [hW0];exact Cl.alloc _ _
 have hx0:W0.heap[w.heap.size]?=some (.cells (mcA q) 394 (0,0)):=by rw [hW0];exact g7 _ _
 rw [← hW0];clear hW0;refine zR ?_;refine t7 _ b30 ?_;have c1:=Cl.alloc W0 (.cells (Value.agg #[.pointer none,.slice none 0 0]).cells 160);have nA:=g7 W0 (.cells (Value.agg #[.pointer none,.slice none 0 0]).cells 160);generalize W0.alloc (.cells (Value.agg #[.pointer none,.slice none 0 0]).cells 160)=w1 at *;have hxl0:=C5 hx0;refine zR ?_;refine m8 (a4p nA) ?_;rintro r w2 ⟨rfl,u2⟩;refine ⟨_,rfl,?_⟩;have h:=Bw.fresh u2.at_;have hxn:w.heap.size≠W0.heap.size:=Nat.ne_of_lt hxl0;have hx:=(Tn.upd u2).blk (c1.blk hx0) hxn;have hxl:=C5 hx;have cw:Cl w w2:=u2.cl (c0.trans c1) c0.size;refine zR ?_;refine d9 (m9 q.pc) (D8 (h.nb.blk hx hxl hxn) rfl rfl) (zR ?_);refine m8 (r7 q.pc h (by simp only [zF,za];omega)) ?_
 rintro r w3 ⟨rfl,h⟩;refine ⟨_,rfl,?_⟩;refine zR ?_;refine d9 (m9 q.fo) (D8 (h.nb.blk hx hxl hxn) rfl rfl) (zR ?_);refine m8 (r7 q.fo h (by simp only [zF,za];omega)) ?_
 rintro r w3 ⟨rfl,h⟩;refine ⟨_,rfl,?_⟩;refine zR ?_;refine d9 (m9 q.ro) (D8 (h.nb.blk hx hxl hxn) rfl rfl) (zR ?_);refine m8 (r7 q.ro h (by simp only [zF,za];omega)) ?_
 rintro r w3 ⟨rfl,h⟩;refine ⟨_,rfl,?_⟩;refine zR ?_;refine d9 (m9 q.ca) (D8 (h.nb.blk hx hxl hxn) rfl rfl) (zR ?_);refine m8 (r7 q.ca h (by simp only [zF,za];omega)) ?_
 rintro r w3 ⟨rfl,h⟩;refine ⟨_,rfl,?_⟩;refine zR ?_;refine d9 (m9 q.fi) (D8 (h.nb.blk hx hxl hxn) rfl rfl) (zR ?_);refine m8 (r7 q.fi h (by simp only [zF,za];omega)) ?_
 rintro r w3 ⟨rfl,h⟩;refine ⟨_,rfl,?_⟩;refine zR ?_;refine d9 (m9 q.ra) (D8 (h.nb.blk hx hxl hxn) rfl rfl) (zR ?_);refine m8 (r7 q.ra h (by simp only [zF,za];omega)) ?_
 rintro r w3 ⟨rfl,h⟩;refine ⟨_,rfl,?_⟩;refine zR ?_;refine d9 (m9 q.pr) (D8 (h.nb.blk hx hxl hxn) rfl rfl) (zR ?_);refine m8 (r7 q.pr h (by simp only [zF,za];omega)) ?_
 rintro r w3 ⟨rfl,h⟩;refine ⟨_,rfl,?_⟩;refine zR ?_;refine d9 (m9 q.cs) (D8 (h.nb.blk hx hxl hxn) rfl rfl) (zR ?_);refine m8 (r7 q.cs h (by simp only [zF,za];omega)) ?_
 rintro r w3 ⟨rfl,h⟩;refine ⟨_,rfl,?_⟩;have h:Bw W0.heap.size w2 w3 (V8 q):=by simpa [V8] using h
 refine zR ?_;refine m8 (X9 h hq.ne (by unfold V8;simp only [zF];omega)) ?_
 rintro r w4 ⟨rfl,b4⟩;refine ⟨_,rfl,?_⟩;refine zR ?_;exact ⟨rfl,h.done b4 cw c0.size⟩
structure a3m (w:World) (bx bo bs:Nat) (q:D5) (wc:World) (vo:Value) (L:List Tx):Prop where
 hx:wc.heap[bx]?=some (.cells (mcA q) 394 (0,0))
 ho:wc.heap[bo]?=some (.cells #[vo] 42 (0,0))
 hk:∃ p v,wc.heap[bs]?=some (.cells #[p,v] 160 (0,0))
 hr:Row 9 1 H2 w.heap.size wc vo L
 cl:Cl w wc
 n1:w.heap.size≤bo
 n2:w.heap.size≤bs
 n3:bx≠bo
 n4:bx≠bs
 n5:bo≠bs
section opti
variable {w wc w2 w3 w4:World} {bx bo bs:Nat} {q:D5} {vo v':Value} {L L':List Tx}
theorem a3m.step (I:a3m w bx bo bs q wc vo L) (c:Cl wc w2):a3m w bx bo bs q w2 vo L:=by
 obtain ⟨p,v,hk⟩:=I.hk;exact ⟨c.blk I.hx,c.blk I.ho,⟨p,v,c.blk hk⟩,I.hr.step c,I.cl.trans c,I.n1,I.n2,I.n3,I.n4,I.n5⟩
theorem a3m.upd (I:a3m w bx bo bs q wc vo L) {p v p2 v2:Value} (hk:wc.heap[bs]?=some (.cells #[p,v] 160 (0,0))) (u:Upd wc bs (.cells #[p2,v2] 160 (0,0)) w2):a3m w bx bo bs q w2 vo L :=
 ⟨(Tn.upd u).blk I.hx I.n4,(Tn.upd u).blk I.ho I.n5,⟨p2,v2,u.at_⟩,I.hr.updT u hk zd,u.cl I.cl I.n2,I.n1,I.n2,I.n3,I.n4,I.n5⟩
theorem a3m.str (I:a3m w bx bo bs q w2 vo L) {T:Tx} (h:Bw bs w2 w3 T) (b4:Below w2.heap.size w3 w4):a3m w bx bo bs q w4 vo L:=by
 have n:Nb bs w2.heap.size w2 w4:=h.nb.trans ⟨b4.os,b4.tape,b4.output,zu h.nb.size b4.size,fun k hk _=>b4.block k hk⟩;obtain ⟨p,v,hk0⟩:=I.hk;obtain ⟨p3,v3,_,hk3,_⟩:=h.is;refine ⟨n.blk I.hx (C5 I.hx) I.n4,n.blk I.ho (C5 I.ho) I.n5,⟨p3,v3,(b4.block bs h.lt).trans hk3⟩,⟨I.hr.1,?_⟩,h.done b4 I.cl I.n2,I.n1,I.n2,I.n3,I.n4,I.n5⟩;rcases I.hr.2 with h2 | ⟨g,cap,cur,h1,h2,hb,h4⟩
 ·exact .inl h2
 ·exact .inr ⟨g,cap,cur,h1,h2,n.blk hb (C5 hb) (O1 hb hk0 zd),h4⟩
theorem a3m.gro (I:a3m w bx bo bs q wc vo L) (hg:a7s w.heap.size wc vo w2 v'):w2.heap[bo]?=some (.cells #[vo] 42 (0,0)):=KT.grow I.hr hg _ _ _ zd I.ho
theorem a3m.push (I:a3m w bx bo bs q wc vo L) (hg:a7s w.heap.size wc vo w2 v') (hr:Row 9 1 H2 w.heap.size w2 v' L') (u:Upd w2 bo (.cells #[v'] 42 (0,0)) w3):a3m w bx bo bs q w3 v' L':=by
 obtain ⟨p,v,hk⟩:=I.hk;have k:=KT.grow I.hr hg;exact ⟨(Tn.upd u).blk (k _ _ _ zd I.hx) I.n3,u.at_,⟨p,v,(Tn.upd u).blk (k _ _ _ zd hk) (Ne.symm I.n5)⟩,hr.updT u (I.gro hg) zd,u.cl (hg.toCl rfl I.cl) I.n1,I.n1,I.n2,I.n3,I.n4,I.n5⟩
end opti
theorem c4Z:G.P.underlying 42=some (.slice 9):=by kernel_rfl
theorem c1z {w:World} {dst:Option Nat} {ty:Nat} {pos:String} {af:Array Edge} {gd:Option (Nat×Bool)} {env:C8} {K:Value→World→Prop} {x hi:Operand} (hx:ev env x = .slice none 0 0) (hh:ev env hi = .int .i64 0) (h:K (.slice none 0 0) w) :
  L5 G.P { dst,op:=.slice 42 x none (some hi) none,type:=ty,pos,after:=af,guard:=gd } env w K:=by
 obtain ⟨i,zv,hi2,hzv,hsz,hby,hzs⟩:=elStr.info;refine ⟨.inl ⟨.slice none 0 0,w,?_,h⟩⟩;show (do pure (Next.value (← Instr.slice 42 (ev env x) none (some (ev env hi)) none)):Sem Next).run G.P w=_
 rw [hx,hh];simp [Instr.slice,Instr.sliceBounds,Instr.sliceBound,asIntOf,Go.run_underlying c4Z,sizeOf,typeInfo,hi2]
set_option maxHeartbeats 4000000 in
theorem b6M {q:D5} (hq:PL q) (w:World):Calls G.P 345 #[mcV q] w (fun r w'=>Cl w w'∧∃ v,r = .returned v∧Row 9 1 H2 w.heap.size w' v (a1w q)):=by
 obtain ⟨l0,l1,l2,l3,l4,l5,l6,l7⟩:=hq.l;refine zN Tryz.func345 ?_;refine zG ?_;obtain ⟨W0,hW0⟩:∃ W0,W0=w.alloc (.cells (mcA q) 394):=⟨_,rfl⟩;have c0:Cl w W0:=by rw [hW0];exact Cl.alloc _ _
 have hx0:W0.heap[w.heap.size]?=some (.cells (mcA q) 394 (0,0)):=by rw [hW0];exact g7 _ _
 rw [← hW0];clear hW0;refine zR ?_;refine t7 (.slice none 0 0) zk ?_;have c1:=Cl.alloc W0 (.cells (Value.slice none 0 0).cells 42);have ho1:(W0.alloc (.cells (Value.slice none 0 0).cells 42)).heap[W0.heap.size]?=some (.cells #[.slice none 0 0] 42 (0,0)):=g7 _ _;have s1:=A8 W0 (.cells (Value.slice none 0 0).cells 42);generalize W0.alloc (.cells (Value.slice none 0 0).cells 42)=w1 at *;have hxl0:=C5 hx0;obtain ⟨bx,hbx⟩:∃ b,b=w.heap.size:=⟨_,rfl⟩;obtain ⟨bo,hbo⟩:∃ b,b=W0.heap.size:=⟨_,rfl⟩;rw [← hbx] at hx0 hxl0;rw [show (⟨w.heap.size,0,none⟩:Addr)=⟨bx,0,none⟩ by rw [hbx]]
 rw [← hbo] at ho1 hxl0 s1 ⊢;have hx1:=c1.blk hx0;refine zR ?_;refine d9 _ (D8 ho1 rfl rfl) (zR ?_);refine c1z rfl rfl (zR ?_);refine zT ho1 [.slice none 0 0] fun w2 u2=>?_;have ho2:w2.heap[bo]?=some (.cells #[.slice none 0 0] 42 (0,0)):=u2.at_;have hx2:=(Tn.upd u2).blk hx1 zo;have c2:Cl w w2:=u2.cl (c0.trans c1) zo;clear u2 c1 ho1 hx1 hx0;refine zR ?_;refine t7 _ b30 ?_;have c3:=c2.trans (Cl.alloc w2 (.cells (Value.agg #[.pointer none,.slice none 0 0]).cells 160));have nA:=g7 w2 (.cells (Value.agg #[.pointer none,.slice none 0 0]).cells 160);have hx3:=(Cl.alloc w2 (.cells (Value.agg #[.pointer none,.slice none 0 0]).cells 160)).blk hx2;have ho3:=(Cl.alloc w2 (.cells (Value.agg #[.pointer none,.slice none 0 0]).cells 160)).blk ho2;have sb:=C5 ho2;obtain ⟨bs,hbs⟩:∃ b,b=w2.heap.size:=⟨_,rfl⟩;rw [← hbs] at nA sb ⊢;generalize w2.alloc (.cells (Value.agg #[.pointer none,.slice none 0 0]).cells 160)=w3 at *;clear hx2 ho2 c2;have I:a3m w bx bo bs q w3 (.slice none 0 0) []:=⟨hx3,ho3,⟨_,_,nA⟩,Row.nil _ _,c3,zo,zo,zo,zo,zo⟩;clear nA hx3 ho3 c3;refine zR ?_;refine d9 (m9 q.pc) (D8 I.hx rfl rfl) (zR ?_);apply E.y8<;>intro h
 ·have hpc:q.pc≠[]:=fun e=>h (by rw [e];rfl)
  have eo:a1w q=[]++[q.pc++q.ca++q.fi++q.ra++q.pr++q.cs]++[q.pc++q.ro++q.ca++q.fi++q.ra++q.pr++q.cs]++[q.pc++q.fo++q.ca++q.fi++q.ra++q.pr++q.cs]:=by unfold a1w;rw [zM hpc];rfl
  rw [eo];clear eo h;obtain ⟨pk,vk,hk⟩:=I.hk;refine zR ?_;refine m8 (a4p hk) ?_;rintro r w2 ⟨rfl,u2⟩;refine ⟨_,rfl,?_⟩;have h:=Bw.fresh u2.at_;have I:=I.upd hk u2;have hx:=I.hx;have hxl:=C5 hx;have hxn:=I.n4;refine zR ?_;refine d9 (m9 q.pc) (D8 (h.nb.blk hx hxl hxn) rfl rfl) (zR ?_);refine m8 (r7 q.pc h (by simp only [zF,za];omega)) ?_
  rintro r w3 ⟨rfl,h⟩;refine ⟨_,rfl,?_⟩;refine zR ?_;refine d9 (m9 q.ca) (D8 (h.nb.blk hx hxl hxn) rfl rfl) (zR ?_);refine m8 (r7 q.ca h (by simp only [zF,za];omega)) ?_
  rintro r w3 ⟨rfl,h⟩;refine ⟨_,rfl,?_⟩;refine zR ?_;refine d9 (m9 q.fi) (D8 (h.nb.blk hx hxl hxn) rfl rfl) (zR ?_);refine m8 (r7 q.fi h (by simp only [zF,za];omega)) ?_
  rintro r w3 ⟨rfl,h⟩;refine ⟨_,rfl,?_⟩;refine zR ?_;refine d9 (m9 q.ra) (D8 (h.nb.blk hx hxl hxn) rfl rfl) (zR ?_);refine m8 (r7 q.ra h (by simp only [zF,za];omega)) ?_
  rintro r w3 ⟨rfl,h⟩;refine ⟨_,rfl,?_⟩;refine zR ?_;refine d9 (m9 q.pr) (D8 (h.nb.blk hx hxl hxn) rfl rfl) (zR ?_);refine m8 (r7 q.pr h (by simp only [zF,za];omega)) ?_
  rintro r w3 ⟨rfl,h⟩;refine ⟨_,rfl,?_⟩;refine zR ?_;refine d9 (m9 q.cs) (D8 (h.nb.blk hx hxl hxn) rfl rfl) (zR ?_);refine m8 (r7 q.cs h (by simp only [zF,za];omega)) ?_
  rintro r w3 ⟨rfl,h⟩;refine ⟨_,rfl,?_⟩;have h:Bw bs w2 w3 (q.pc++q.ca++q.fi++q.ra++q.pr++q.cs):=by simpa using h
  generalize hTA:q.pc++q.ca++q.fi++q.ra++q.pr++q.cs=TA at *;have hneA:TA≠[]:=by rw [← hTA];simp [hpc]
  have hleA:TA.length≤1000000:=by rw [← hTA];simp only [zF];omega
  refine zG ?_;refine B0 (σ:=Value) [] 5 (fun _=>[]) (fun v w'=>(∃ a c,v = .slice a (([]:List Tx)++[TA]).length c)∧a3m w bx bo bs q w' v (([]:List Tx)++[TA])) zk ?_ (fun v j w7 I=>?_)
  ·refine zR ?_;refine I5.mk2 [0,1,2,4] (.cons 3 (.cons 5 (.cons 6 (.cons 7 (.cons 8 (.cons 9 .done .nil) .nil) .nil) .nil) .nil) (.cons 5 (.cons 3 (.cons 6 (.cons 7 (.cons 8 (.cons 9 .done .nil) .nil) .nil) .nil) (.cons 6 (.cons 3 (.cons 7 (.cons 8 (.cons 9 .done .nil) .nil) .nil) .nil) .nil)) .nil)) zk (zR ?_);have I2:=I;have I:=I.str (h.step (Cl.drew (Cl.refl _))) (Below.refl _ _);have h:=h.step (Cl.drew (Cl.refl _));refine And.intro ?aA (And.intro ?bA trivial)
   case' aA =>
    refine zR ?_;refine d9 _ (D8 I.ho rfl rfl) (zE ?_);refine m8 (X9 h hneA hleA) ?_;rintro r w4 ⟨rfl,b4⟩;refine ⟨_,rfl,?_⟩;have I:=I2.str h b4;refine zE ?_;refine B6 elStr [m9 TA] (by rw [zb];rfl) (by simp [Value.cells,m9]) rfl zd zd ?_
    have hb5:Row 9 1 H2 w4.heap.size (w4.alloc (.cells (([m9 TA]:List Value).flatMap fun v=>v.cells.toList).toArray 9)) (.slice (some ⟨w4.heap.size,0,none⟩) 1 1) [TA]:=C1 p9 w4 [TA] (zU rfl) _ rfl;have I:=I.step (Cl.alloc w4 (.cells (([m9 TA]:List Value).flatMap fun v=>v.cells.toList).toArray 9));generalize w4.alloc (.cells (([m9 TA]:List Value).flatMap fun v=>v.cells.toList).toArray 9)=w5 at *
   case' bA =>
    refine zR ?_;refine m8 (X9 h hneA hleA) ?_;rintro r w4 ⟨rfl,b4⟩;refine ⟨_,rfl,?_⟩;have I:=I2.str h b4;refine zR ?_;refine And.intro ?cA (And.intro ?dA trivial)
   case' cA =>
    refine zR ?_;refine d9 _ (D8 I.ho rfl rfl) (zE ?_);refine B6 elStr [m9 TA] (by rw [zb];rfl) (by simp [Value.cells,m9]) rfl zd zd ?_
    have hb5:Row 9 1 H2 w4.heap.size (w4.alloc (.cells (([m9 TA]:List Value).flatMap fun v=>v.cells.toList).toArray 9)) (.slice (some ⟨w4.heap.size,0,none⟩) 1 1) [TA]:=C1 p9 w4 [TA] (zU rfl) _ rfl;have I:=I.step (Cl.alloc w4 (.cells (([m9 TA]:List Value).flatMap fun v=>v.cells.toList).toArray 9));generalize w4.alloc (.cells (([m9 TA]:List Value).flatMap fun v=>v.cells.toList).toArray 9)=w5 at *
   case' dA =>
    refine zR ?_;refine B6 elStr [m9 TA] (by rw [zb];rfl) (by simp [Value.cells,m9]) rfl zd zd ?_
    have hb5:Row 9 1 H2 w4.heap.size (w4.alloc (.cells (([m9 TA]:List Value).flatMap fun v=>v.cells.toList).toArray 9)) (.slice (some ⟨w4.heap.size,0,none⟩) 1 1) [TA]:=C1 p9 w4 [TA] (zU rfl) _ rfl;have I:=I.step (Cl.alloc w4 (.cells (([m9 TA]:List Value).flatMap fun v=>v.cells.toList).toArray 9));generalize w4.alloc (.cells (([m9 TA]:List Value).flatMap fun v=>v.cells.toList).toArray 9)=w5 at *;refine zE ?_;refine d9 _ (D8 I.ho rfl rfl) ?_
   all_goals
    refine zE ?_;refine F7 elStr (v:=.slice none 0 0) (l:=([]:List Tx)) (news:=[TA]) rfl I.hr rfl hb5 p9 U6 (by simp<;>omega) zd I.cl.size fun v6 w6 hr6 hg=>?_
    obtain ⟨aA,cA,rfl,_⟩:=hr6.form;refine zE ?_;refine And.intro (zR ?_) trivial;refine J6 (I.gro hg) [.slice aA (([]:List Tx)++[TA]).length cA] rfl zk rfl (by intro v hv;simp at hv;subst hv;rfl) (zU rfl) fun w7 u7=>zR ?_
    exact ⟨.slice aA (([]:List Tx)++[TA]).length cA,trivial,⟨_,_,rfl⟩,I.push hg hr6 u7⟩
  obtain ⟨⟨aA,cA,rfl⟩,I⟩:=I;clear h hx hxl u2 hk hTA hneA hleA;obtain ⟨pk,vk,hk⟩:=I.hk;refine zR ?_;refine m8 (a4p hk) ?_;rintro r w2 ⟨rfl,u2⟩;refine ⟨_,rfl,?_⟩;have h:=Bw.fresh u2.at_;have I:=I.upd hk u2;have hx:=I.hx;have hxl:=C5 hx;have hxn:=I.n4;refine zR ?_;refine d9 (m9 q.pc) (D8 (h.nb.blk hx hxl hxn) rfl rfl) (zR ?_);refine m8 (r7 q.pc h (by simp only [zF,za];omega)) ?_
  rintro r w3 ⟨rfl,h⟩;refine ⟨_,rfl,?_⟩;refine zR ?_;refine d9 (m9 q.ro) (D8 (h.nb.blk hx hxl hxn) rfl rfl) (zR ?_);refine m8 (r7 q.ro h (by simp only [zF,za];omega)) ?_
  rintro r w3 ⟨rfl,h⟩;refine ⟨_,rfl,?_⟩;refine zR ?_;refine d9 (m9 q.ca) (D8 (h.nb.blk hx hxl hxn) rfl rfl) (zR ?_);refine m8 (r7 q.ca h (by simp only [zF,za];omega)) ?_
  rintro r w3 ⟨rfl,h⟩;refine ⟨_,rfl,?_⟩;refine zR ?_;refine d9 (m9 q.fi) (D8 (h.nb.blk hx hxl hxn) rfl rfl) (zR ?_);refine m8 (r7 q.fi h (by simp only [zF,za];omega)) ?_
  rintro r w3 ⟨rfl,h⟩;refine ⟨_,rfl,?_⟩;refine zR ?_;refine d9 (m9 q.ra) (D8 (h.nb.blk hx hxl hxn) rfl rfl) (zR ?_);refine m8 (r7 q.ra h (by simp only [zF,za];omega)) ?_
  rintro r w3 ⟨rfl,h⟩;refine ⟨_,rfl,?_⟩;refine zR ?_;refine d9 (m9 q.pr) (D8 (h.nb.blk hx hxl hxn) rfl rfl) (zR ?_);refine m8 (r7 q.pr h (by simp only [zF,za];omega)) ?_
  rintro r w3 ⟨rfl,h⟩;refine ⟨_,rfl,?_⟩;refine zR ?_;refine d9 (m9 q.cs) (D8 (h.nb.blk hx hxl hxn) rfl rfl) (zR ?_);refine m8 (r7 q.cs h (by simp only [zF,za];omega)) ?_
  rintro r w3 ⟨rfl,h⟩;refine ⟨_,rfl,?_⟩;have h:Bw bs w2 w3 (q.pc++q.ro++q.ca++q.fi++q.ra++q.pr++q.cs):=by simpa using h
  generalize hTB:q.pc++q.ro++q.ca++q.fi++q.ra++q.pr++q.cs=TB at *;have hneB:TB≠[]:=by rw [← hTB];simp [hpc]
  have hleB:TB.length≤1000000:=by rw [← hTB];simp only [zF];omega
  refine zG ?_;refine B0 (σ:=Value) [] 5 (fun _=>[]) (fun v w'=>(∃ a c,v = .slice a (([]++[TA])++[TB]).length c)∧a3m w bx bo bs q w' v (([]++[TA])++[TB])) zk ?_ (fun v j w7 I=>?_)
  ·refine zR ?_;refine I5.mk2 [0,1,2,4] (.cons 3 (.cons 5 (.cons 6 (.cons 7 (.cons 8 (.cons 9 .done .nil) .nil) .nil) .nil) .nil) (.cons 5 (.cons 3 (.cons 6 (.cons 7 (.cons 8 (.cons 9 .done .nil) .nil) .nil) .nil) (.cons 6 (.cons 3 (.cons 7 (.cons 8 (.cons 9 .done .nil) .nil) .nil) .nil) .nil)) .nil)) zk (zR ?_);have I2:=I;have I:=I.str (h.step (Cl.drew (Cl.refl _))) (Below.refl _ _);have h:=h.step (Cl.drew (Cl.refl _));refine And.intro ?aB (And.intro ?bB trivial)
   case' aB =>
    refine zR ?_;refine d9 _ (D8 I.ho rfl rfl) (zE ?_);refine m8 (X9 h hneB hleB) ?_;rintro r w4 ⟨rfl,b4⟩;refine ⟨_,rfl,?_⟩;have I:=I2.str h b4;refine zE ?_;refine B6 elStr [m9 TB] (by rw [zb];rfl) (by simp [Value.cells,m9]) rfl zd zd ?_
    have hb5:Row 9 1 H2 w4.heap.size (w4.alloc (.cells (([m9 TB]:List Value).flatMap fun v=>v.cells.toList).toArray 9)) (.slice (some ⟨w4.heap.size,0,none⟩) 1 1) [TB]:=C1 p9 w4 [TB] (zU rfl) _ rfl;have I:=I.step (Cl.alloc w4 (.cells (([m9 TB]:List Value).flatMap fun v=>v.cells.toList).toArray 9));generalize w4.alloc (.cells (([m9 TB]:List Value).flatMap fun v=>v.cells.toList).toArray 9)=w5 at *
   case' bB =>
    refine zR ?_;refine m8 (X9 h hneB hleB) ?_;rintro r w4 ⟨rfl,b4⟩;refine ⟨_,rfl,?_⟩;have I:=I2.str h b4;refine zR ?_;refine And.intro ?cB (And.intro ?dB trivial)
   case' cB =>
    refine zR ?_;refine d9 _ (D8 I.ho rfl rfl) (zE ?_);refine B6 elStr [m9 TB] (by rw [zb];rfl) (by simp [Value.cells,m9]) rfl zd zd ?_
    have hb5:Row 9 1 H2 w4.heap.size (w4.alloc (.cells (([m9 TB]:List Value).flatMap fun v=>v.cells.toList).toArray 9)) (.slice (some ⟨w4.heap.size,0,none⟩) 1 1) [TB]:=C1 p9 w4 [TB] (zU rfl) _ rfl;have I:=I.step (Cl.alloc w4 (.cells (([m9 TB]:List Value).flatMap fun v=>v.cells.toList).toArray 9));generalize w4.alloc (.cells (([m9 TB]:List Value).flatMap fun v=>v.cells.toList).toArray 9)=w5 at *
   case' dB =>
    refine zR ?_;refine B6 elStr [m9 TB] (by rw [zb];rfl) (by simp [Value.cells,m9]) rfl zd zd ?_
    have hb5:Row 9 1 H2 w4.heap.size (w4.alloc (.cells (([m9 TB]:List Value).flatMap fun v=>v.cells.toList).toArray 9)) (.slice (some ⟨w4.heap.size,0,none⟩) 1 1) [TB]:=C1 p9 w4 [TB] (zU rfl) _ rfl;have I:=I.step (Cl.alloc w4 (.cells (([m9 TB]:List Value).flatMap fun v=>v.cells.toList).toArray 9));generalize w4.alloc (.cells (([m9 TB]:List Value).flatMap fun v=>v.cells.toList).toArray 9)=w5 at *;refine zE ?_;refine d9 _ (D8 I.ho rfl rfl) ?_
   all_goals
    refine zE ?_;refine F7 elStr (v:=.slice aA ([]++[TA]).length cA) (l:=([]++[TA])) (news:=[TB]) rfl I.hr rfl hb5 p9 U6 (by simp<;>omega) zd I.cl.size fun v6 w6 hr6 hg=>?_
    obtain ⟨aB,cB,rfl,_⟩:=hr6.form;refine zE ?_;refine And.intro (zR ?_) trivial;refine J6 (I.gro hg) [.slice aB (([]++[TA])++[TB]).length cB] rfl zk rfl (by intro v hv;simp at hv;subst hv;rfl) (zU rfl) fun w7 u7=>zR ?_
    exact ⟨.slice aB (([]++[TA])++[TB]).length cB,trivial,⟨_,_,rfl⟩,I.push hg hr6 u7⟩
  obtain ⟨⟨aB,cB,rfl⟩,I⟩:=I;clear h hx hxl u2 hk hTB hneB hleB;obtain ⟨pk,vk,hk⟩:=I.hk;refine zR ?_;refine m8 (a4p hk) ?_;rintro r w2 ⟨rfl,u2⟩;refine ⟨_,rfl,?_⟩;have h:=Bw.fresh u2.at_;have I:=I.upd hk u2;have hx:=I.hx;have hxl:=C5 hx;have hxn:=I.n4;refine zR ?_;refine d9 (m9 q.pc) (D8 (h.nb.blk hx hxl hxn) rfl rfl) (zR ?_);refine m8 (r7 q.pc h (by simp only [zF,za];omega)) ?_
  rintro r w3 ⟨rfl,h⟩;refine ⟨_,rfl,?_⟩;refine zR ?_;refine d9 (m9 q.fo) (D8 (h.nb.blk hx hxl hxn) rfl rfl) (zR ?_);refine m8 (r7 q.fo h (by simp only [zF,za];omega)) ?_
  rintro r w3 ⟨rfl,h⟩;refine ⟨_,rfl,?_⟩;refine zR ?_;refine d9 (m9 q.ca) (D8 (h.nb.blk hx hxl hxn) rfl rfl) (zR ?_);refine m8 (r7 q.ca h (by simp only [zF,za];omega)) ?_
  rintro r w3 ⟨rfl,h⟩;refine ⟨_,rfl,?_⟩;refine zR ?_;refine d9 (m9 q.fi) (D8 (h.nb.blk hx hxl hxn) rfl rfl) (zR ?_);refine m8 (r7 q.fi h (by simp only [zF,za];omega)) ?_
  rintro r w3 ⟨rfl,h⟩;refine ⟨_,rfl,?_⟩;refine zR ?_;refine d9 (m9 q.ra) (D8 (h.nb.blk hx hxl hxn) rfl rfl) (zR ?_);refine m8 (r7 q.ra h (by simp only [zF,za];omega)) ?_
  rintro r w3 ⟨rfl,h⟩;refine ⟨_,rfl,?_⟩;refine zR ?_;refine d9 (m9 q.pr) (D8 (h.nb.blk hx hxl hxn) rfl rfl) (zR ?_);refine m8 (r7 q.pr h (by simp only [zF,za];omega)) ?_
  rintro r w3 ⟨rfl,h⟩;refine ⟨_,rfl,?_⟩;refine zR ?_;refine d9 (m9 q.cs) (D8 (h.nb.blk hx hxl hxn) rfl rfl) (zR ?_);refine m8 (r7 q.cs h (by simp only [zF,za];omega)) ?_
  rintro r w3 ⟨rfl,h⟩;refine ⟨_,rfl,?_⟩;have h:Bw bs w2 w3 (q.pc++q.fo++q.ca++q.fi++q.ra++q.pr++q.cs):=by simpa using h
  generalize hTC:q.pc++q.fo++q.ca++q.fi++q.ra++q.pr++q.cs=TC at *;have hneC:TC≠[]:=by rw [← hTC];simp [hpc]
  have hleC:TC.length≤1000000:=by rw [← hTC];simp only [zF];omega
  refine zR ?_;refine I5.mk2 [0,1,2,4] (.cons 3 (.cons 5 (.cons 6 (.cons 7 (.cons 8 (.cons 9 .done .nil) .nil) .nil) .nil) .nil) (.cons 5 (.cons 3 (.cons 6 (.cons 7 (.cons 8 (.cons 9 .done .nil) .nil) .nil) .nil) (.cons 6 (.cons 3 (.cons 7 (.cons 8 (.cons 9 .done .nil) .nil) .nil) .nil) .nil)) .nil)) zk (zR ?_);have I2:=I;have I:=I.str (h.step (Cl.drew (Cl.refl _))) (Below.refl _ _);have h:=h.step (Cl.drew (Cl.refl _));refine And.intro ?aC (And.intro ?bC trivial)
  case' aC =>
   refine zR ?_;refine d9 _ (D8 I.ho rfl rfl) (zE ?_);refine m8 (X9 h hneC hleC) ?_;rintro r w4 ⟨rfl,b4⟩;refine ⟨_,rfl,?_⟩;have I:=I2.str h b4;refine zE ?_;refine B6 elStr [m9 TC] (by rw [zb];rfl) (by simp [Value.cells,m9]) rfl zd zd ?_
   have hb5:Row 9 1 H2 w4.heap.size (w4.alloc (.cells (([m9 TC]:List Value).flatMap fun v=>v.cells.toList).toArray 9)) (.slice (some ⟨w4.heap.size,0,none⟩) 1 1) [TC]:=C1 p9 w4 [TC] (zU rfl) _ rfl;have I:=I.step (Cl.alloc w4 (.cells (([m9 TC]:List Value).flatMap fun v=>v.cells.toList).toArray 9));generalize w4.alloc (.cells (([m9 TC]:List Value).flatMap fun v=>v.cells.toList).toArray 9)=w5 at *
  case' bC =>
   refine zR ?_;refine m8 (X9 h hneC hleC) ?_;rintro r w4 ⟨rfl,b4⟩;refine ⟨_,rfl,?_⟩;have I:=I2.str h b4;refine zR ?_;refine And.intro ?cC (And.intro ?dC trivial)
  case' cC =>
   refine zR ?_;refine d9 _ (D8 I.ho rfl rfl) (zE ?_);refine B6 elStr [m9 TC] (by rw [zb];rfl) (by simp [Value.cells,m9]) rfl zd zd ?_
   have hb5:Row 9 1 H2 w4.heap.size (w4.alloc (.cells (([m9 TC]:List Value).flatMap fun v=>v.cells.toList).toArray 9)) (.slice (some ⟨w4.heap.size,0,none⟩) 1 1) [TC]:=C1 p9 w4 [TC] (zU rfl) _ rfl;have I:=I.step (Cl.alloc w4 (.cells (([m9 TC]:List Value).flatMap fun v=>v.cells.toList).toArray 9));generalize w4.alloc (.cells (([m9 TC]:List Value).flatMap fun v=>v.cells.toList).toArray 9)=w5 at *
  case' dC =>
   refine zR ?_;refine B6 elStr [m9 TC] (by rw [zb];rfl) (by simp [Value.cells,m9]) rfl zd zd ?_
   have hb5:Row 9 1 H2 w4.heap.size (w4.alloc (.cells (([m9 TC]:List Value).flatMap fun v=>v.cells.toList).toArray 9)) (.slice (some ⟨w4.heap.size,0,none⟩) 1 1) [TC]:=C1 p9 w4 [TC] (zU rfl) _ rfl;have I:=I.step (Cl.alloc w4 (.cells (([m9 TC]:List Value).flatMap fun v=>v.cells.toList).toArray 9));generalize w4.alloc (.cells (([m9 TC]:List Value).flatMap fun v=>v.cells.toList).toArray 9)=w5 at *;refine zE ?_;refine d9 _ (D8 I.ho rfl rfl) ?_
  all_goals
   refine zE ?_;refine F7 elStr (v:=.slice aB ([]++[TA]++[TB]).length cB) (l:=([]++[TA]++[TB])) (news:=[TC]) rfl I.hr rfl hb5 p9 U6 (by simp<;>omega) zd I.cl.size fun v6 w6 hr6 hg=>?_
   obtain ⟨aC,cC,rfl,_⟩:=hr6.form;refine zE ?_;refine And.intro (zR ?_) trivial;refine J6 (I.gro hg) [.slice aC (([]++[TA]++[TB])++[TC]).length cC] rfl zk rfl (by intro v hv;simp at hv;subst hv;rfl) (zU rfl) fun w7 u7=>zR ?_
   have I:=I.push hg hr6 u7;refine d9 _ (D8 I.ho rfl rfl) (zR ?_);exact ⟨I.cl,_,rfl,I.hr⟩
 ·have hpc:q.pc=[]:=by rw [Z8] at h;exact N5.1 h
  obtain ⟨L1,hL1⟩:∃ L1:List Tx,L1=if q.ca≠[] then [q.fo++q.ca++q.fi++q.ra++q.pr] else []:=⟨_,rfl⟩
  have eo:a1w q=L1++(if q.fo≠[]∧q.ro≠[] then [q.ca++q.fi++q.ra++q.pr] else []):=by unfold a1w;rw [zJ (fun e=>e hpc),hL1]
  rw [eo];clear eo h;refine Cx.mk ?_;refine Nx.go ?_;refine B0 (σ:=Value) [] 5 (fun _=>[]) (fun v w'=>(∃ a c,v = .slice a L1.length c)∧a3m w bx bo bs q w' v L1) zk ?_ (fun v j w8 I=>?_)
  ·refine zR ?_;refine d9 (m9 q.ca) (D8 I.hx rfl rfl) (zR ?_);apply E.y8<;>intro h
   ·have hca:q.ca≠[]:=fun e=>h (by rw [e];rfl)
    rw [zM hca] at hL1;subst hL1;clear h;obtain ⟨pk,vk,hk⟩:=I.hk;refine zR ?_;refine m8 (a4p hk) ?_;rintro r w2 ⟨rfl,u2⟩;refine ⟨_,rfl,?_⟩;have h:=Bw.fresh u2.at_;have I:=I.upd hk u2;have hx:=I.hx;have hxl:=C5 hx;have hxn:=I.n4;refine zR ?_;refine d9 (m9 q.fo) (D8 (h.nb.blk hx hxl hxn) rfl rfl) (zR ?_);refine m8 (r7 q.fo h (by simp only [zF,za];omega)) ?_
    rintro r w3 ⟨rfl,h⟩;refine ⟨_,rfl,?_⟩;refine zR ?_;refine d9 (m9 q.ca) (D8 (h.nb.blk hx hxl hxn) rfl rfl) (zR ?_);refine m8 (r7 q.ca h (by simp only [zF,za];omega)) ?_
    rintro r w3 ⟨rfl,h⟩;refine ⟨_,rfl,?_⟩;refine zR ?_;refine d9 (m9 q.fi) (D8 (h.nb.blk hx hxl hxn) rfl rfl) (zR ?_);refine m8 (r7 q.fi h (by simp only [zF,za];omega)) ?_
    rintro r w3 ⟨rfl,h⟩;refine ⟨_,rfl,?_⟩;refine zR ?_;refine d9 (m9 q.ra) (D8 (h.nb.blk hx hxl hxn) rfl rfl) (zR ?_);refine m8 (r7 q.ra h (by simp only [zF,za];omega)) ?_
    rintro r w3 ⟨rfl,h⟩;refine ⟨_,rfl,?_⟩;refine zR ?_;refine d9 (m9 q.pr) (D8 (h.nb.blk hx hxl hxn) rfl rfl) (zR ?_);refine m8 (r7 q.pr h (by simp only [zF,za];omega)) ?_
    rintro r w3 ⟨rfl,h⟩;refine ⟨_,rfl,?_⟩;have h:Bw bs w2 w3 (q.fo++q.ca++q.fi++q.ra++q.pr):=by simpa using h
    generalize hTD:q.fo++q.ca++q.fi++q.ra++q.pr=TD at *;have hneD:TD≠[]:=by rw [← hTD];simp [hca]
    have hleD:TD.length≤1000000:=by rw [← hTD];simp only [zF];omega
    refine zR ?_;refine I5.mk2 [0,1,2,4] (.cons 3 (.cons 5 (.cons 6 (.cons 7 (.cons 8 (.cons 9 .done .nil) .nil) .nil) .nil) .nil) (.cons 5 (.cons 3 (.cons 6 (.cons 7 (.cons 8 (.cons 9 .done .nil) .nil) .nil) .nil) (.cons 6 (.cons 3 (.cons 7 (.cons 8 (.cons 9 .done .nil) .nil) .nil) .nil) .nil)) .nil)) zk (zR ?_);have I2:=I;have I:=I.str (h.step (Cl.drew (Cl.refl _))) (Below.refl _ _);have h:=h.step (Cl.drew (Cl.refl _));refine And.intro ?aD (And.intro ?bD trivial)
    case' aD =>
     refine zR ?_;refine d9 _ (D8 I.ho rfl rfl) (zE ?_);refine m8 (X9 h hneD hleD) ?_;rintro r w4 ⟨rfl,b4⟩;refine ⟨_,rfl,?_⟩;have I:=I2.str h b4;refine zE ?_;refine B6 elStr [m9 TD] (by rw [zb];rfl) (by simp [Value.cells,m9]) rfl zd zd ?_
     have hb5:Row 9 1 H2 w4.heap.size (w4.alloc (.cells (([m9 TD]:List Value).flatMap fun v=>v.cells.toList).toArray 9)) (.slice (some ⟨w4.heap.size,0,none⟩) 1 1) [TD]:=C1 p9 w4 [TD] (zU rfl) _ rfl;have I:=I.step (Cl.alloc w4 (.cells (([m9 TD]:List Value).flatMap fun v=>v.cells.toList).toArray 9));generalize w4.alloc (.cells (([m9 TD]:List Value).flatMap fun v=>v.cells.toList).toArray 9)=w5 at *
    case' bD =>
     refine zR ?_;refine m8 (X9 h hneD hleD) ?_;rintro r w4 ⟨rfl,b4⟩;refine ⟨_,rfl,?_⟩;have I:=I2.str h b4;refine zR ?_;refine And.intro ?cD (And.intro ?dD trivial)
    case' cD =>
     refine zR ?_;refine d9 _ (D8 I.ho rfl rfl) (zE ?_);refine B6 elStr [m9 TD] (by rw [zb];rfl) (by simp [Value.cells,m9]) rfl zd zd ?_
     have hb5:Row 9 1 H2 w4.heap.size (w4.alloc (.cells (([m9 TD]:List Value).flatMap fun v=>v.cells.toList).toArray 9)) (.slice (some ⟨w4.heap.size,0,none⟩) 1 1) [TD]:=C1 p9 w4 [TD] (zU rfl) _ rfl;have I:=I.step (Cl.alloc w4 (.cells (([m9 TD]:List Value).flatMap fun v=>v.cells.toList).toArray 9));generalize w4.alloc (.cells (([m9 TD]:List Value).flatMap fun v=>v.cells.toList).toArray 9)=w5 at *
    case' dD =>
     refine zR ?_;refine B6 elStr [m9 TD] (by rw [zb];rfl) (by simp [Value.cells,m9]) rfl zd zd ?_
     have hb5:Row 9 1 H2 w4.heap.size (w4.alloc (.cells (([m9 TD]:List Value).flatMap fun v=>v.cells.toList).toArray 9)) (.slice (some ⟨w4.heap.size,0,none⟩) 1 1) [TD]:=C1 p9 w4 [TD] (zU rfl) _ rfl;have I:=I.step (Cl.alloc w4 (.cells (([m9 TD]:List Value).flatMap fun v=>v.cells.toList).toArray 9));generalize w4.alloc (.cells (([m9 TD]:List Value).flatMap fun v=>v.cells.toList).toArray 9)=w5 at *;refine zE ?_;refine d9 _ (D8 I.ho rfl rfl) ?_
    all_goals
     refine zE ?_;refine F7 elStr (v:=.slice none 0 0) (l:=([]:List Tx)) (news:=[TD]) rfl I.hr rfl hb5 p9 U6 (by simp<;>omega) zd I.cl.size fun v6 w6 hr6 hg=>?_
     obtain ⟨aD,cD,rfl,_⟩:=hr6.form;refine zE ?_;refine And.intro (zR ?_) trivial;refine J6 (I.gro hg) [.slice aD (([]:List Tx)++[TD]).length cD] rfl zk rfl (by intro v hv;simp at hv;subst hv;rfl) (zU rfl) fun w7 u7=>zR ?_
     exact ⟨.slice aD ([]++[TD]).length cD,trivial,⟨aD,cD,rfl⟩,I.push hg hr6 u7⟩
   ·have hca:q.ca=[]:=by rw [Z8] at h;exact N5.1 h
    rw [zJ (fun e=>e hca)] at hL1;subst hL1;refine zR ?_;exact ⟨.slice none 0 0,trivial,⟨_,_,rfl⟩,I⟩
  obtain ⟨⟨aE,cE,rfl⟩,I⟩:=I;have hl1:L1.length≤1:=by rw [hL1];split<;>simp
  clear hL1;refine zR ?_;refine d9 (m9 q.fo) (D8 I.hx rfl rfl) (zR ?_);apply E.y8<;>intro h
  ·have hfo:q.fo≠[]:=fun e=>h (by rw [e];rfl)
   have hfi:=hq.fi hfo;clear h;refine zR ?_;refine d9 (m9 q.ro) (D8 I.hx rfl rfl) (zR ?_);apply E.y8<;>intro h
   ·have hro:q.ro≠[]:=fun e=>h (by rw [e];rfl)
    clear h;rw [zM ⟨hfo,hro⟩];obtain ⟨pk,vk,hk⟩:=I.hk;refine zR ?_;refine m8 (a4p hk) ?_;rintro r w2 ⟨rfl,u2⟩;refine ⟨_,rfl,?_⟩;have h:=Bw.fresh u2.at_;have I:=I.upd hk u2;have hx:=I.hx;have hxl:=C5 hx;have hxn:=I.n4;refine zR ?_;refine d9 (m9 q.ca) (D8 (h.nb.blk hx hxl hxn) rfl rfl) (zR ?_);refine m8 (r7 q.ca h (by simp only [zF,za];omega)) ?_
    rintro r w3 ⟨rfl,h⟩;refine ⟨_,rfl,?_⟩;refine zR ?_;refine d9 (m9 q.fi) (D8 (h.nb.blk hx hxl hxn) rfl rfl) (zR ?_);refine m8 (r7 q.fi h (by simp only [zF,za];omega)) ?_
    rintro r w3 ⟨rfl,h⟩;refine ⟨_,rfl,?_⟩;refine zR ?_;refine d9 (m9 q.ra) (D8 (h.nb.blk hx hxl hxn) rfl rfl) (zR ?_);refine m8 (r7 q.ra h (by simp only [zF,za];omega)) ?_
    rintro r w3 ⟨rfl,h⟩;refine ⟨_,rfl,?_⟩;refine zR ?_;refine d9 (m9 q.pr) (D8 (h.nb.blk hx hxl hxn) rfl rfl) (zR ?_);refine m8 (r7 q.pr h (by simp only [zF,za];omega)) ?_
    rintro r w3 ⟨rfl,h⟩;refine ⟨_,rfl,?_⟩;have h:Bw bs w2 w3 (q.ca++q.fi++q.ra++q.pr):=by simpa using h
    generalize hTF:q.ca++q.fi++q.ra++q.pr=TF at *;have hneF:TF≠[]:=by rw [← hTF];simp [hfi]
    have hleF:TF.length≤1000000:=by rw [← hTF];simp only [zF];omega
    refine zR ?_;refine I5.mk2 [0,1,2,4] (.cons 3 (.cons 5 (.cons 6 (.cons 7 (.cons 8 (.cons 9 .done .nil) .nil) .nil) .nil) .nil) (.cons 5 (.cons 3 (.cons 6 (.cons 7 (.cons 8 (.cons 9 .done .nil) .nil) .nil) .nil) (.cons 6 (.cons 3 (.cons 7 (.cons 8 (.cons 9 .done .nil) .nil) .nil) .nil) .nil)) .nil)) zk (zR ?_);have I2:=I;have I:=I.str (h.step (Cl.drew (Cl.refl _))) (Below.refl _ _);have h:=h.step (Cl.drew (Cl.refl _));refine And.intro ?aF (And.intro ?bF trivial)
    case' aF =>
     refine zR ?_;refine d9 _ (D8 I.ho rfl rfl) (zE ?_);refine m8 (X9 h hneF hleF) ?_;rintro r w4 ⟨rfl,b4⟩;refine ⟨_,rfl,?_⟩;have I:=I2.str h b4;refine zE ?_;refine B6 elStr [m9 TF] (by rw [zb];rfl) (by simp [Value.cells,m9]) rfl zd zd ?_
     have hb5:Row 9 1 H2 w4.heap.size (w4.alloc (.cells (([m9 TF]:List Value).flatMap fun v=>v.cells.toList).toArray 9)) (.slice (some ⟨w4.heap.size,0,none⟩) 1 1) [TF]:=C1 p9 w4 [TF] (zU rfl) _ rfl;have I:=I.step (Cl.alloc w4 (.cells (([m9 TF]:List Value).flatMap fun v=>v.cells.toList).toArray 9));generalize w4.alloc (.cells (([m9 TF]:List Value).flatMap fun v=>v.cells.toList).toArray 9)=w5 at *
    case' bF =>
     refine zR ?_;refine m8 (X9 h hneF hleF) ?_;rintro r w4 ⟨rfl,b4⟩;refine ⟨_,rfl,?_⟩;have I:=I2.str h b4;refine zR ?_;refine And.intro ?cF (And.intro ?dF trivial)
    case' cF =>
     refine zR ?_;refine d9 _ (D8 I.ho rfl rfl) (zE ?_);refine B6 elStr [m9 TF] (by rw [zb];rfl) (by simp [Value.cells,m9]) rfl zd zd ?_
     have hb5:Row 9 1 H2 w4.heap.size (w4.alloc (.cells (([m9 TF]:List Value).flatMap fun v=>v.cells.toList).toArray 9)) (.slice (some ⟨w4.heap.size,0,none⟩) 1 1) [TF]:=C1 p9 w4 [TF] (zU rfl) _ rfl;have I:=I.step (Cl.alloc w4 (.cells (([m9 TF]:List Value).flatMap fun v=>v.cells.toList).toArray 9));generalize w4.alloc (.cells (([m9 TF]:List Value).flatMap fun v=>v.cells.toList).toArray 9)=w5 at *
    case' dF =>
     refine zR ?_;refine B6 elStr [m9 TF] (by rw [zb];rfl) (by simp [Value.cells,m9]) rfl zd zd ?_
     have hb5:Row 9 1 H2 w4.heap.size (w4.alloc (.cells (([m9 TF]:List Value).flatMap fun v=>v.cells.toList).toArray 9)) (.slice (some ⟨w4.heap.size,0,none⟩) 1 1) [TF]:=C1 p9 w4 [TF] (zU rfl) _ rfl;have I:=I.step (Cl.alloc w4 (.cells (([m9 TF]:List Value).flatMap fun v=>v.cells.toList).toArray 9));generalize w4.alloc (.cells (([m9 TF]:List Value).flatMap fun v=>v.cells.toList).toArray 9)=w5 at *;refine zE ?_;refine d9 _ (D8 I.ho rfl rfl) ?_
    all_goals
     refine zE ?_;refine F7 elStr (v:=.slice aE L1.length cE) (l:=L1) (news:=[TF]) rfl I.hr rfl hb5 p9 U6 (by simp<;>omega) zd I.cl.size fun v6 w6 hr6 hg=>?_
     obtain ⟨aF,cF,rfl,_⟩:=hr6.form;refine zE ?_;refine And.intro (zR ?_) trivial;refine J6 (I.gro hg) [.slice aF (L1++[TF]).length cF] rfl zk rfl (by intro v hv;simp at hv;subst hv;rfl) (zU rfl) fun w7 u7=>zR ?_
     have I:=I.push hg hr6 u7;refine d9 _ (D8 I.ho rfl rfl) (zR ?_);exact ⟨I.cl,_,rfl,I.hr⟩
   ·have hro:q.ro=[]:=by rw [Z8] at h;exact N5.1 h
    rw [zJ (fun e=>e.2 hro),zm];refine zR ?_;refine d9 _ (D8 I.ho rfl rfl) (zR ?_);exact ⟨I.cl,_,rfl,I.hr⟩
  ·have hfo:q.fo=[]:=by rw [Z8] at h;exact N5.1 h
   rw [zJ (fun e=>e.1 hfo),zm];refine zR ?_;refine d9 _ (D8 I.ho rfl rfl) (zR ?_);exact ⟨I.cl,_,rfl,I.hr⟩
def c5a (P:Program) (t ty u:Nat) (R:Ending→World→Prop):Exit→C8→World→Prop
 | .normal,e,w=>(match e t with
  | .pointer (some a)=>K3 P w ty a (fun v=>R (.returned (.tuple #[v,e u])) w)
  | _=>False)
 | .ret,e,w=>(match e t with
  | .pointer (some a)=>K3 P w ty a (fun v=>R (.returned (.tuple #[v,e u])) w)
  | _=>False)
 | _,_,_=>False
theorem c18 {G:Prg} {f:Nat} {fn:Func} {c:Code} {args:List Value} {w:World} {R:Ending→World→Prop} (t ty u:Nat)
  (hf:G.P.funcs[f]?=some fn) (hb:fn.body=some c) (hn:args.length≤fn.ntmps) (hk:S8 fn.ntmps c=true) (he:fn.results=#[.cell t ty,.tmp u])
  (h:W G fn.ntmps c (a6G args) w (c5a G.P t ty u R)):Calls G.P f args.toArray w R:=by
 refine calls_of_wp hf hb ?_;have hsz:(args.toArray++Array.replicate (fn.ntmps-args.toArray.size) undef).size=fn.ntmps:=by simp;omega
 refine wp_mono (h hk { tmps:=args.toArray++Array.replicate (fn.ntmps-args.toArray.size) undef,defers:=[] } ?_ hsz rfl) ?_
 ·funext t;unfold y9 a6G;rw [b0v];simp only [Array.getD_eq_getD_getElem?,List.getD_eq_getElem?_getD];by_cases ht:t<args.length
  ·rw [Array.getElem?_append_left (by simpa using ht)];simp
  ·rw [Array.getElem?_append_right (by simpa using ht)]
   rw [List.getElem?_eq_none zo];simp only [Option.getD_none];cases hx:(Array.replicate (fn.ntmps-args.toArray.size) undef)[t-args.toArray.size]? with
   | none=>rfl
   | some v =>
    obtain ⟨h1,h2⟩:=Array.getElem?_eq_some_iff.1 hx;simp at h2;simp [h2]
 ·rintro x a w' ⟨hs,hd,hq⟩;have key:(match y9 a t with | .pointer (some ad)=>K3 G.P w' ty ad (fun v=>R (.returned (.tuple #[v,y9 a u])) w') | _=>False)→∃ v,(results fn a.tmps).run G.P w' = .ok v w'∧R (.returned v) w':=by
   intro hr;split at hr
   ·rename_i ad had;obtain ⟨v,h1,h2⟩:=hr.ex;refine ⟨_,?_,h2⟩;have had':a.tmps[t]?.getD undef = .pointer (some ad):=by rw [← Array.getD_eq_getD_getElem?];exact had
    unfold o4 Instr.loadAt at h1;simp [Instr.sureAddr] at h1;simp [results,he,had',asAddr,h1,y9,Array.getD_eq_getD_getElem?]
   ·exact hr.elim
  cases x<;>first
   | exact ⟨hd,key hq⟩
   | exact hq.elim
theorem b1k {z:Value} (hz:z.cells.size=8) (q:D5):I3 z.cells 0 (mcA q).toList=mcA q:=by
 rw [B7 _ _ (by rw [hz];rfl)]
theorem b4n (q:D5):∀ v∈(mcA q).toList,v.oneCell'=true:=by
 intro v hv;simp only [mcA,yQ,zx,or_false] at hv;rcases hv with rfl | rfl | rfl | rfl | rfl | rfl | rfl | rfl<;>rfl
theorem b9b {w:World} {b:Nat} {u:Nat} {fz:Nat×Nat} {q:D5} (hb:w.heap[b]?=some (.cells (mcA q) u fz)):o4 G.P w 394 ⟨b,0,none⟩ (mcV q):=by
 have:=ldA (t:=394) (o:=0) (z:=8) hb rfl (by simp [mcA])
 rw [show (mcA q).extract 0 (0+8)=mcA q by simp [mcA]] at this
 exact this
set_option maxHeartbeats 1000000 in
theorem b5w {s:Tx} (hs:s.length≤1000) {q:D5} (hq:zzP s=some q) (w:World):Calls G.P 343 #[m9 s] w (L4 (.tuple #[mcV q,.nilIface]) w):=by
 have hz:=c1w s hs;have hL:=a9k hq;obtain ⟨z,hz1,hz8⟩:=zMc;refine c18 (G:=G) 2 394 3 Tryz.func343 rfl (by simp [Tryz.ntmps343]) zk rfl ?_
 refine a4C (zR ?_);refine t7 z hz1 ?_;have cA:=Cl.alloc w (.cells z.cells 394);have nA:=g7 w (.cells z.cells 394);generalize w.alloc (.cells z.cells 394)=w1 at *;refine zR ?_;refine m8 (hz w1) ?_;rintro r w2 ⟨c2,v,rfl,hr⟩;rw [hL] at hr;obtain ⟨a,k,rfl,ha⟩:=hr.form;obtain ⟨g,rfl⟩:=ha (show 0<10 by decide)
 refine ⟨_,rfl,?_⟩;have ld:∀ (i:Nat) (hi:i<10) w',Cl w2 w'→o4 G.P w' 9 ⟨g,i,none⟩ (m9 (a1j s q)[i]):=fun i hi w' c=>N9 (hr.step c) p9 i 0 hi zd rfl zo rfl;refine zR ?_;refine zK 25 ?_;refine zR ?_;refine m7 (m9 q.pc) (fun w' hw=>ld 1 zd w' hw) (zR ?_);refine m7 (m9 q.fo) (fun w' hw=>ld 2 zd w' hw) (zR ?_);refine m7 (m9 q.ro) (fun w' hw=>ld 3 zd w' hw) (zR ?_);refine m7 (m9 q.ca) (fun w' hw=>ld 4 zd w' hw) (zR ?_);refine m7 (m9 q.fi) (fun w' hw=>ld 5 zd w' hw) (zR ?_);refine m7 (m9 q.ra) (fun w' hw=>ld 6 zd w' hw) (zR ?_);refine m7 (m9 q.pr) (fun w' hw=>ld 7 zd w' hw) (zR ?_);refine m7 (m9 q.cs) (fun w' hw=>ld 8 zd w' hw) (zR ?_);refine a8i (mcA q) zk (zR ?_);intro w3 c3;refine zR ?_;refine J6 (c3.blk (c2.blk nA)) (mcA q).toList rfl c3B rfl (b4n q) (by rw [hz8];decide) fun w4 u4=>?_
 have hb:w4.heap[w.heap.size]?=some (.cells (mcA q) 394 (0,0)):=by rw [u4.at_,b1k hz8]
 refine zR ?_;refine K3.mk ⟨mcV q,b9b hb,?_⟩;exact ⟨rfl,u4.cl (cA.trans (c2.trans c3)) (yH _)⟩
theorem b6N {p:l9} {m:Mv} (hp:m.promo=0∨2≤m.promo∧m.promo≤5) (h:inCheck (made p m)=true):U2 p m=true:=by
 unfold U2;split
 ·exact h
 ·obtain ⟨f,t,k⟩:=m;rename_i h0;simp only at hp h0 ⊢;rw [List.any_eq_true];refine ⟨k,?_,?_⟩
  ·rcases (by omega:k=2∨k=3∨k=4∨k=5) with rfl | rfl | rfl | rfl<;>decide
  rw [zX (Int.le_refl k),h];rfl
theorem b6O (p:l9) (m:Mv) (t:Nat):H4 (signM p m t)=true:=by
 unfold signM;have h1:H4 [35]=true:=by rw [a1A,zM zd];exact U3
 have h2:H4 [43]=true:=by rw [a1A,zM zd];exact U3
 split
 ·split
  ·exact h1
  ·exact h2
 ·exact U3
theorem c5b (p:l9) (m:Mv) (t:Nat):(body p m++signM p m t).length≤900:=by
 have:=a8A p m;unfold sanT at this;rw [zF] at this ⊢;have:=a65 p m t;omega
theorem b9c (q:D5):(a1w q).length≤3:=by
 unfold a1w;split
 ·simp
 ·split<;>split<;>simp
theorem b9d {q:D5} {t:Tx} (h1:V8 q≠t) (h2:∀ o∈a1w q,o≠t):a7k q t=false:=by
 rw [Bool.eq_false_iff];intro h;rcases a2G.1 h with h | h
 ·exact h1 h
 ·exact h2 _ h rfl
theorem c19 {p:l9} {q:D5} {i:Nat} (hi:i<(O0 p).length) (hno:∀ y∈(O0 p).take i,a7k q (body p y.mv)=false) (h:a7k q (body p ((O0 p)[i]).mv)=true):b2D p q=some (O0 p)[i]:=by
 unfold b2D;rw [List.find?_eq_some_iff_append];refine ⟨h,(O0 p).take i,(O0 p).drop (i+1),?_,fun y hy=>by rw [hno y hy];rfl⟩
 rw [← List.drop_eq_getElem_cons hi,List.take_append_drop]
def b5x (p:l9) (q:D5) (P b:Nat) (cv:Value) (w:World) (r:Ending) (w':World):Prop :=
 (∃ x cv' M,b2D p q=some x∧r = .returned (.tuple #[.pointer (some ⟨M,0,none⟩),.nilIface])∧H9 w' P b p cv'∧Tn P w w'∧Row 141 11 D3 0 w' cv' (O0 p)∧w.heap.size≤M∧w'.heap[M]?=some (.cells (F6 (C2 x)) 141 (0,0))
  ∧∀ k,cv'.ownBlock=some k→(cv.ownBlock=some k∨w.heap.size≤k)∧k≠M)
∨(b2D p q=none∧(∃ v,r = .returned (.tuple #[.pointer none,c3s v]))∧Tn P w w')
set_option maxHeartbeats 4000000 in
theorem b2J {p:l9} (hI:B9 p) (hN:a06 p) (hle:(A5 p).length≤218) {P b:Nat} {cv:Value} {T:Tx} (hT1:T.length≤1000) {q:D5} (hq:zzP T=some q) (w:World) (hT:C9 w) (hM:H9 w P b p cv) :
  Calls G.P 341 #[.agg #[],.pointer (some ⟨P,0,none⟩),m9 T] w (b5x p q P b cv w):=by
 obtain ⟨mm1,mm2⟩:=a1o hI;have hlen:=a5F hI hle;have hPL:=c2n hT1 hq;obtain ⟨z,hz1,hz8⟩:=zMc;refine zN Tryz.func341 ?_;refine zR ?_;have cb:=Cl.alloc w (.cells #[] 149);generalize w.alloc (.cells #[] 149)=w1 at *;have hPw:P<w.heap.size:=C5 hM.hd;refine o8 (b5w hT1 hq w1) fun w2 c2=>?_;have cb:=cb.trans c2;have s02:=cb.size;refine zR ?_;refine t7 z hz1 ?_;have cb:=cb.trans (Cl.alloc w2 (.cells z.cells 394));have nA:=g7 w2 (.cells z.cells 394);generalize w2.alloc (.cells z.cells 394)=w3 at *;have s2:=c2.size;refine zR ?_;refine J6 nA (mcA q).toList rfl c3B rfl (b4n q) (by rw [hz8];decide) fun w4 u4=>?_
 have hQ:w4.heap[w2.heap.size]?=some (.cells (mcA q) 394 (0,0)):=by rw [u4.at_,b1k hz8]
 have c04:Cl w w4:=u4.cl cb s02;clear u4 nA cb;refine zR ?_;refine I8 true (E7 rfl) (zR ?_);refine d9 (mcV q) (b9b hQ) (zR ?_);refine o8 (b1j hPL w4) fun w5 c5=>?_;have c05:=c04.trans c5;have hQ5:=c5.blk hQ;obtain ⟨bq,hbq⟩:∃ b,b=w2.heap.size:=⟨_,rfl⟩;rw [← hbq] at hQ5 ⊢;clear hQ c2 hbq;refine zR ?_;refine m8 (a5G hI hle w5 (hT.cl c05) (hM.step c05)) ?_;rintro r w6 ⟨v,cv',rfl,hr,hM6,n6,hr0,hown⟩;obtain ⟨av,kv,rfl,hav⟩:=hr.form;have hown2:∀ k,cv'.ownBlock=some k→(cv.ownBlock=some k∨w.heap.size≤k)∧k<w6.heap.size:=fun k h=>⟨(hown k h).imp id (zu c05.size),(hr0.own h).2⟩;clear hown;refine ⟨_,rfl,?_⟩;have hQ6:=n6.blk hQ5 (O1 hQ5 (hM.step c05).hd zd);have ntw:=(Tn.cl (b:=P) c05).trans n6;have hT6:C9 w6:=(hT.cl c05).fr (Fr.tn (S:=[P]) n6 (.inl (by simp))) fun k hk cs t fz hh=>by
  rw [zY.1 hk] at hh;rw [← (Obj.cells.inj (Option.some.inj ((hM.step c05).hd.symm.trans hh))).2.1];decide
 refine zR ?_;refine A9 (σ:=Nat) [6,7,12,13,14,15,17,31] 32 (fun i=>[(31,.int .i64 i)]) (fun i w'=>i≤(O0 p).length∧Cl w6 w'∧∀ y∈(O0 p).take i,a7k q (body p y.mv)=false) (fun i=>(O0 p).length-i) zk 0 ⟨Nat.zero_le _,Cl.refl _,fun y hy=>by simp at hy⟩ ⟨rfl,trivial⟩ ?_
 rintro i j w7 ⟨hi,c7,hno⟩;have ni:=C0 (i:=i) zo;refine zR ?_;apply E.d6<;>intro h
 ·have hi2:i<(O0 p).length:=by omega
  clear h;obtain ⟨g,rfl⟩:=hav zo;have hld:=fun {o:Nat} (ho:o=i*11)=>b0Q (hr.step c7) i hi2 ho;have hxm:=yM hi2;have htk:(O0 p).take (i+1)=(O0 p).take i++[(O0 p)[i]]:=zw hi2;have hfit:=c19 (q:=q) hi2 hno;obtain ⟨ad,hcv⟩:∃ ad,∃ n c,cv' = .slice (some ad) n c:=by
   obtain ⟨a,n,c,rfl⟩:=hM6.form;obtain ⟨ad,rfl⟩:=hM6.kept hr0 (fun e=>by rw [e] at hi2;simp at hi2)
   exact ⟨ad,n,c,rfl⟩
  obtain ⟨n0,k0,rfl⟩:=hcv;generalize (O0 p)[i]=y at *;have hyl:=(mm1 y hxm).1;have hyt:=(mm1 y hxm).2;have hyr:=A7 hI hyl;have hsan:=a9V hI hyl (t:=y.tags) (ck:=U2 p y.mv) hyt;have hzy:=b5s hI hyl (b6O p y.mv y.tags);have hly:=c5b p y.mv y.tags;have hPy:=c2n zo hzy;have hcy:=a3L hI hyl;refine zR ?_;refine zC ?_;refine zR ?_;refine d9 _ (hld (a0W _ _)) (zR ?_);refine t7 _ a43 ?_;have cB:=Cl.alloc w7 (.cells (Value.agg (F6 (C2 ⟨⟨0,0,0⟩,0⟩))).cells 141);have nB:=g7 w7 (.cells (Value.agg (F6 (C2 ⟨⟨0,0,0⟩,0⟩))).cells 141);generalize w7.alloc (.cells (Value.agg (F6 (C2 ⟨⟨0,0,0⟩,0⟩))).cells 141)=w8 at *;refine zR ?_;refine J6 nB (D3 y) rfl a0Q rfl (F5 y) (zU rfl) fun w9 u9=>?_;have hX:w9.heap[w7.heap.size]?=some (.cells (F6 (C2 y)) 141 (0,0)):=by have h7:=u9.at_;rw [B7 _ _ (by rw [J1];rfl)] at h7;exact h7
  have c9:Cl w7 w9:=(Tn.upd u9).toCl cB (yH _);have c69:=c7.trans c9;have sM:w.heap.size≤w7.heap.size∧w6.heap.size≤w7.heap.size:=⟨zu ntw.size c7.size,c7.size⟩;obtain ⟨M,hMM⟩:∃ M,M=w7.heap.size:=⟨_,rfl⟩;rw [← hMM] at hX sM ⊢;clear u9 nB cB hld hMM;refine zR ?_;refine s7 #[] zk (zR ?_);refine o8 (a7a (d:=C2 y) hI hN hle hyl (ck:=U2 p y.mv) (fun h=>b6N (by have:=hyr.2.2.2.2;show y.mv.promo=0∨2≤y.mv.promo∧y.mv.promo≤5;omega) h) hyt w9 (hT6.cl c69) (hM6.step c69) hX) fun w10 c10=>?_
  have e10:b6g p (C2 y).mv (C2 y).tags=body p y.mv++signM p y.mv y.tags:=hsan;rw [e10];clear e10 hsan;have c610:=c69.trans c10;have hX:=c10.blk hX;refine zR ?_;refine o8 (b5w zo hzy w10) fun w11 c11=>?_;have c611:=c610.trans c11;have hX:=c11.blk hX;refine zR ?_;refine t7 z hz1 ?_;have cC:=Cl.alloc w11 (.cells z.cells 394);have nC:=g7 w11 (.cells z.cells 394);generalize w11.alloc (.cells z.cells 394)=w12 at *;refine zR ?_;refine J6 nC (mcA (P6 p y.mv)).toList rfl c3B rfl (b4n _) (by rw [hz8];decide) fun w13 u13=>?_
  have hY:w13.heap[w11.heap.size]?=some (.cells (mcA (P6 p y.mv)) 394 (0,0)):=by rw [u13.at_,b1k hz8]
  have c13:Cl w11 w13:=(Tn.upd u13).toCl cC (yH _);have c613:=c611.trans c13;have hX:=c13.blk hX;obtain ⟨by_,hby⟩:∃ b,b=w11.heap.size:=⟨_,rfl⟩;rw [← hby] at hY ⊢;clear u13 nC cC hby c13;have fin:∀ w',Cl w13 w'→a7k q (body p y.mv)=true→b5x p q P b cv w (.returned (.tuple #[.pointer (some ⟨M,0,none⟩),.nilIface])) w':=fun w' c hf=>by
   have c6:=c613.trans c;refine .inl ⟨y,_,M,hfit hf,rfl,hM6.step c6,ntw.trans (Tn.cl c6),hr0.step c6,sM.1,c.blk hX,fun k hk=>⟨(hown2 k hk).1,?_⟩⟩;have:=(hown2 k hk).2;omega
  clear hfit;refine zR ?_;refine I8 true (E7 rfl) (zR ?_);refine d9 (mcV (P6 p y.mv)) (b9b hY) (zR ?_);refine o8 (b1j hPy w13) fun w14 c14=>?_;rw [hcy];refine zR ?_;apply E.d6<;>intro h
  ·have e:V8 q=body p y.mv:=N5.1 h;refine zR ?_;exact fin w14 c14 (a2G.2 (.inl e))
  have hne:V8 q≠body p y.mv:=fun e=>h (by rw [e])
  clear h;refine zR ?_;refine d9 (mcV q) (b9b ((c613.trans c14).blk hQ6)) (zR ?_);refine m8 (b6M hPL w14) ?_;rintro r w15 ⟨c15,vo,rfl,hO⟩;obtain ⟨ao,ko,rfl,hao⟩:=hO.form;refine ⟨_,rfl,?_⟩;have hol:=b9c q;have c1315:=c14.trans c15;refine zR ?_;refine A9 (σ:=Nat) [6,7,17,52] 53 (fun i=>[(52,.int .i64 i)]) (fun i w'=>i≤(a1w q).length∧Cl w15 w'∧∀ o∈(a1w q).take i,o≠body p y.mv) (fun i=>(a1w q).length-i) zk 0 ⟨Nat.zero_le _,Cl.refl _,fun o ho=>by simp at ho⟩ ⟨rfl,trivial⟩ ?_
  rintro k jk w16 ⟨hk,c16,hnk⟩;have nk:=C0 (i:=k) zo;refine zR ?_;apply E.d6<;>intro h
  ·have hk2:k<(a1w q).length:=by omega
   clear h;obtain ⟨go,rfl⟩:=hao zo;have htk2:(a1w q).take (k+1)=(a1w q).take k++[(a1w q)[k]]:=zw hk2;have hlo:o4 G.P w16 9 ⟨go,E.U7 0 ((k:Int)).toNat 1,none⟩ (m9 (a1w q)[k]):=N9 (hO.step c16) p9 k 0 hk2 zd rfl (by simp [E.y6]) rfl
   have hom:=yM hk2;generalize (a1w q)[k]=o at *;refine zR ?_;refine zC ?_;refine zR ?_;refine d9 _ hlo (zR ?_);refine d9 (mcV (P6 p y.mv)) (b9b ((c1315.trans c16).blk hY)) (zR ?_);refine o8 (b1j hPy w16) fun w17 c17=>?_;rw [hcy];refine zR ?_;apply E.d6<;>intro h
   ·have e:o=body p y.mv:=N5.1 h;refine zR ?_;exact fin w17 (c1315.trans (c16.trans c17)) (a2G.2 (.inr (by rw [← e];exact hom)))
   ·have hno2:o≠body p y.mv:=fun e=>h (by rw [e])
    refine zR ?_;refine ⟨k+1,⟨d7 nk,trivial⟩,⟨zo,c16.trans c17,fun o' ho'=>?_⟩,zo⟩;rw [htk2] at ho';rcases zq.1 ho' with ho' | ho'
    ·exact hnk o' ho'
    ·rw [zY.1 ho'];exact hno2
  ·have e:k=(a1w q).length:=by omega
   subst e;rw [yY] at hnk;have hf:=b9d hne hnk;refine zR ?_;refine ⟨i+1,⟨d7 ni,trivial⟩,⟨zo,c613.trans (c1315.trans c16),fun y' hy'=>?_⟩,zo⟩;rw [htk] at hy';rcases zq.1 hy' with hy' | hy'
   ·exact hno y' hy'
   ·rw [zY.1 hy'];exact hf
 ·have e:i=(O0 p).length:=by omega
  subst e;rw [yY] at hno;have hd:b2D p q=none:=by
   unfold b2D;rw [List.find?_eq_none];intro x hx h;rw [hno x hx] at h;cases h
  refine zR ?_;refine m8 (b2v _ w7) ?_;rintro _ w8 ⟨v,rfl,c8⟩;refine ⟨_,rfl,?_⟩;refine zR ?_;exact .inr ⟨hd,⟨_,rfl⟩,ntw.trans (Tn.cl (c7.trans c8))⟩
def a7P (P b:Nat) (p:l9) (cv:Value) (m:Mv) (w:World) (r:Ending) (w':World):Prop :=
 ∃ cv' M d,r = .returned (.tuple #[.pointer (some ⟨M,0,none⟩),.nilIface])∧H9 w' P b p cv'∧Tn P w w'∧w.heap.size≤M∧w'.heap[M]?=some (.cells (F6 d) 141 (0,0))
 ∧d.mv=m∧(d.tags:Int)=told p m∧d.kids = .slice none 0 0∧∀ k,cv'.ownBlock=some k→(cv.ownBlock=some k∨w.heap.size≤k)∧k≠M
theorem a7m {p:l9} (hI:B9 p) (hN:a06 p) (hle:(A5 p).length≤218) {P b:Nat} {cv:Value} {T:Tx} (hT1:T.length≤1000) {q:D5} (hq:zzP T=some q) {m:Mv} (hm:m∈s8 p) (hs:K8 p m=true) (hn:a7j p m q) (w:World) (hT:C9 w) (hM:H9 w P b p cv) :
  Calls G.P 341 #[.agg #[],.pointer (some ⟨P,0,none⟩),m9 T] w (a7P P b p cv m w):=by
 obtain ⟨x,hx,hd,hxm⟩:=b4g hI hm hn;have hr:=A7 hI hm;have htx:=((a1o hI).1 x hx).2;rw [hxm] at htx;refine (b2J hI hN hle hT1 hq w hT hM).mono ?_;rintro r w' h;rcases h with ⟨x',cv',M,h0,h1,h2,h3,h4,h5,h6,h7⟩ | ⟨h0,_⟩;rotate_left
 ·rw [hd] at h0;cases h0
 obtain rfl:x=x':=Option.some.inj (hd.symm.trans h0);exact ⟨cv',M,C2 x,h1,h2,h3,h5,h6,hxm,by show (x.tags:Int)=_;rw [htx];exact b2i (by have:=hr.2.2.2.2;omega) hs,rfl,h7⟩
theorem b2K {p:l9} (hI:B9 p) (hN:a06 p) (hle:(A5 p).length≤218) {P b:Nat} {cv:Value} {T:Tx} (hT1:T.length≤1000) {q:D5} (hq:zzP T=some q) {m:Mv} (hm:m∈s8 p) (hs:K8 p m=true) (hn:a7j p m q) (w:World) (hT:C9 w) (hM:H9 w P b p cv) :
  Calls G.P 349 #[.agg #[],.pointer (some ⟨P,0,none⟩),m9 T] w (a7P P b p cv m w):=by
 refine zN Tryz.func349 ?_;refine zR ?_;have cb:=Cl.alloc w (.cells #[] 150);generalize w.alloc (.cells #[] 150)=w1 at *;refine s7 #[] zk (zR ?_);refine m8 (a7m hI hN hle hT1 hq hm hs hn w1 (hT.cl cb) (hM.step cb)) ?_;rintro r w2 ⟨cv',M,d,rfl,h2,h3,h5,h6,h7,h8,h9,h10⟩;refine ⟨_,rfl,?_⟩;refine zR ?_;exact ⟨cv',M,d,rfl,h2,(Tn.cl cb).trans h3,zu cb.size h5,h6,h7,h8,h9,fun k hk=>⟨(h10 k hk).1.imp id (zu cb.size),(h10 k hk).2⟩⟩
theorem c1A {p:l9} (hI:B9 p) {m:Mv} (hm:m∈s8 p):(a4T (mbOf p) (p.turn+1) p.ep m 0:Int)=told p m:=by
 rcases (L9 hI m).1 hm with ⟨hp,_⟩ | ⟨r,hr,ha⟩
 ·rw [a8B hI hp rfl rfl rfl,Nat.zero_or];exact b1G hI hp ((a0u hI hp).1 hm)
 ·obtain ⟨r4,rt,rb,hc⟩:=I1 hI hr;have hrm:=hr.is;have h1:=a6W hI hc;have f:=A7 hI hm;have e0:a4T (mbOf p) (p.turn+1) p.ep m 0=a4T (mbOf p) (p.turn+1) p.ep m (if (if A4 (r:Int)<homeK r then (-1:Int) else 1)=1 then 1 else 2):=by
   have hw:(if A4 (r:Int)<homeK r then (-1:Int) else 1)=1∨(if A4 (r:Int)<homeK r then (-1:Int) else 1)=-1:=by split<;>simp
   have hmv:=hc.mv;have hk:=hc.k;have ht:=hI.turn;have hto:=hc.to;have hking:=hc.king;generalize (if A4 (r:Int)<homeK r then (-1:Int) else 1)=w at *
   have hcap:capTag p m=0:=by
    have hto':sq p m.to=0:=by rw [hmv];exact hto
    have hk6:kindOf (sq p m.fr)≠6:=by rw [hmv];simp only [hking,S4 hI];decide
    unfold capTag;rw [zJ (fun e=>e hto'),zJ (fun e=>hk6 e.2)]
   have hcas:S5 p m=if w=1 then 1 else 2:=by
    unfold S5;rw [hmv];simp only [hking];rcases ht with e | e<;>rcases hw with e2 | e2<;>rw [e] at hk ⊢ <;> subst e2<;>rw [hk]<;>decide
   unfold a4T;simp only [b0I hI f.1 f.2.1 f.2.2.1 f.2.2.2.1,b0J hI f.1 f.2.1,hcap,hcas,Nat.or_zero,Nat.or_self,Nat.zero_or]
  rw [e0,h1];obtain ⟨x,hx,hxm⟩:=(a2X hI).2 m r hr hm;have hxt:=((a2X hI).1 x hx).2;rw [hxm] at hxt;have h0:m.promo=0:=by rw [hrm];rfl
  have e1:T8 p m=told p m:=by unfold T8 told U2;rw [zM h0]
  rw [← e1,← hxt];rw [hrm] at hxm;subst hrm;clear h1 e0 hxt e1 h0 f hc rb rt ha hm;unfold a0N at hx;rcases zq.1 hx with hx | hx
  ·split at hx
   ·rw [zY.1 hx] at hxm ⊢;have hrr:=hr.right;clear hr hx;rcases hI.turn with ht | ht<;>rw [ht] at hxm hrr ⊢ <;> rcases hrr with rfl | rfl<;>first | rfl | (simp only at hxm;exact absurd hxm zd)
   ·cases hx
  ·split at hx
   ·rw [zY.1 hx] at hxm ⊢;have hrr:=hr.right;clear hr hx;rcases hI.turn with ht | ht<;>rw [ht] at hxm hrr ⊢ <;> rcases hrr with rfl | rfl<;>first | rfl | (simp only at hxm;exact absurd hxm zd)
   ·cases hx
def b4o:List (Nat×Value):=[(110,.int .i8 5),(98,.int .i8 4),(114,.int .i8 3),(113,.int .i8 2)]
def b5y (cs:Array Value):Bool:=Nat.beq cs.size 256&&(match cs[110]?,cs[98]?,cs[114]?,cs[113]? with | some (Value.int .i8 5),some (Value.int .i8 4),some (Value.int .i8 3),some (Value.int .i8 2)=>true | _,_,_,_=>false)&&cs.toList.all (fun v=>v.oneCell')
theorem b9e:∃ cs,G.P.built 402 b4o=some cs∧cs.size=256∧cs[110]?=some (Value.int .i8 5)∧cs[98]?=some (Value.int .i8 4)∧cs[114]?=some (Value.int .i8 3)∧cs[113]?=some (Value.int .i8 2)∧∀ v∈cs.toList,v.oneCell'=true:=by
 have h:(match G.P.built 402 b4o with
  | some cs=>b5y cs
  | none=>false)=true:=by kernel_rfl
 cases e:G.P.built 402 b4o with
 | none=>rw [e] at h;cases h
 | some cs =>
  rw [e] at h;simp only [b5y,zP] at h;obtain ⟨⟨h1,h2⟩,h3⟩:=h;split at h2
  ·rename_i a1 a2 a3 a4;exact ⟨cs,rfl,zr h1,a1,a2,a3,a4,fun v hv=>zl.1 h3 v hv⟩
  ·cases h2
theorem c5c:(G.P.info? 402).map (·.size)=some 256:=by kernel_rfl
theorem c5N:∃ z,(G.P.info? 402).bind (·.zero)=some z∧z.cells.size=256:=a0a zk
theorem b9f {k:Int} (h:2≤k∧k≤5):∃ c:UInt8,a3g k=[c]:=by
 rcases (by omega:k=2∨k=3∨k=4∨k=5) with rfl | rfl | rfl | rfl<;>exact ⟨_,rfl⟩
theorem b9g {p:l9} (hI:B9 p) {m:Mv} (hm:m∈s8 p):uciT m=r9 m.fr++a0K m.fr++(r9 m.to++a0K m.to)++(if m.promo=0 then [] else a3g m.promo):=by
 obtain ⟨f0,f1,t0,t1,hp⟩:=A7 hI hm;unfold uciT;rw [sq2 f0 f1,sq2 t0 t1];by_cases e:m.promo=0
 ·rw [zM e,zJ zo]
 ·rw [zJ e,zM zo]
theorem b9h:∀ n:Nat,n<64→IntKind.i8.wrap (IntKind.u8.wrap (IntKind.u8.wrap (((97+n%8:Nat):Int)-97)+IntKind.u8.wrap (IntKind.u8.wrap (((49+n/8:Nat):Int)-49)*8)))=(n:Int):=by decide +kernel
set_option maxHeartbeats 4000000 in
theorem b2L {p:l9} (hI:B9 p) (hN:a06 p) {P b:Nat} {cv:Value} {m:Mv} (hm:m∈s8 p) (w:World) (hT:C9 w) (hM:H9 w P b p cv) :
  Calls G.P 351 #[.agg #[],.pointer (some ⟨P,0,none⟩),m9 (uciT m)] w (a7P P b p cv m w):=by
 obtain ⟨f0,f1,t0,t1,hpm⟩:=A7 hI hm;have htag:=c1A hI hm;obtain ⟨fr,hfr⟩:=ze f0;obtain ⟨to,hto⟩:=ze t0;obtain ⟨e0,e1,e2⟩:=a5b fr zo;obtain ⟨g0,g1,g2⟩:=a5b to zo;have hu:=b9g hI hm;rw [hfr,hto,e0,g0] at hu;have cA1:=b9h fr zo;have cA2:=b9h to zo;rw [← e1,← e2] at cA1;rw [← g1,← g2] at cA2;generalize UInt8.ofNat (97+fr%8)=a0 at *;generalize UInt8.ofNat (49+fr/8)=a1 at *;generalize UInt8.ofNat (97+to%8)=a2 at *;generalize UInt8.ofNat (49+to/8)=a3 at *;have hlp:∀ k,k<w.heap.size→∀ M,w.heap.size≤M→k≠M:=fun k h M h2=>by omega
 have hown:∀ M,w.heap.size≤M→∀ k,cv.ownBlock=some k→k≠M:=fun M h k hk=>by
  rcases hM.ca with e | hr
  ·rw [e] at hk;cases hk
  ·have:=(hr.own hk).2;omega
 have hpn:(C2 ⟨m,0⟩).mv.promo=0∨(1≤(C2 ⟨m,0⟩).mv.promo∧(C2 ⟨m,0⟩).mv.promo≤6∧(mbOf p).at (C2 ⟨m,0⟩).mv.fr.toNat≠0):=by
  show m.promo=0∨(1≤m.promo∧m.promo≤6∧(mbOf p).at m.fr.toNat≠0);rcases hpm with e | ⟨e1,e2,e3⟩
  ·exact .inl e
  ·refine .inr ⟨zo,zo,?_⟩;rw [V0 hI.pc zo,zi f0];intro e;rw [e] at e3;exact absurd e3 zd
 have hturn:=hI.turn;by_cases hp:m.promo=0
 ·have hT4:uciT m=[a0,a1,a2,a3]:=by rw [hu,zM hp];rfl
  rw [hT4];have hsz:(tx [a0,a1,a2,a3]).size=4:=rfl;have k0:(tx [a0,a1,a2,a3]).get! (IntKind.i64.wrap (0+0)).toNat=a0:=rfl;have k1:(tx [a0,a1,a2,a3]).get! (IntKind.i64.wrap (0+1)).toNat=a1:=rfl;have q0:(tx [a0,a1,a2,a3]).get! (Int.toNat 0)=a0:=rfl;have q1:(tx [a0,a1,a2,a3]).get! (Int.toNat 1)=a1:=rfl;have q2:(tx [a0,a1,a2,a3]).get! (Int.toNat 2)=a2:=rfl;have q3:(tx [a0,a1,a2,a3]).get! (Int.toNat 3)=a3:=rfl;refine zN Tryz.func351 ?_;refine zR ?_;have cb:=Cl.alloc w (.cells #[] 151);generalize w.alloc (.cells #[] 151)=w1 at *;refine a52 2 (zR ?_);rw [k0];refine E.p8 (by rw [e1];omega) (zR ?_)
  rw [k0];refine E.p8 (by rw [e1];omega) (zR ?_)
  rw [k1];refine E.p8 (by rw [e2];omega) (zR ?_)
  rw [k1];refine E.p8 (by rw [e2];omega) (zR ?_)
  refine zK 10 ?_;refine zR ?_;rw [q0,q1,cA1];intro w2 c2;refine zR ?_;refine zK 10 ?_;refine zR ?_;rw [q2,q3,cA2];intro w3 c3;refine zR ?_;refine E.p8 zo (zR ?_);refine E.p8 zo (zR ?_);refine s7 (F6 (C2 ⟨⟨fr,to,0⟩,0⟩)) zk (zR ?_);refine t7 _ a43 ?_;have cw3:=cb.trans (c2.trans c3);have s3:=cw3.size;have cB:=cw3.trans (Cl.alloc w3 (.cells (Value.agg (F6 (C2 ⟨⟨0,0,0⟩,0⟩))).cells 141));have nB:=g7 w3 (.cells (Value.agg (F6 (C2 ⟨⟨0,0,0⟩,0⟩))).cells 141);obtain ⟨M,hMM⟩:∃ M,M=w3.heap.size:=⟨_,rfl⟩;rw [← hMM] at nB s3 ⊢;generalize w3.alloc (.cells (Value.agg (F6 (C2 ⟨⟨0,0,0⟩,0⟩))).cells 141)=w4 at *;clear hMM;refine zR ?_;refine J6 nB (D3 ⟨⟨fr,to,0⟩,0⟩) rfl a0Q rfl (F5 _) (zU rfl) fun w5 u5=>?_;have hX:w5.heap[M]?=some (.cells (F6 (C2 ⟨⟨fr,to,0⟩,0⟩)) 141 (0,0)):=by have h7:=u5.at_;rw [B7 _ _ (by rw [J1];rfl)] at h7;exact h7
  have c5:Cl w w5:=u5.cl cB s3;have hXl5:=C5 hX;have neP:=hlp _ (C5 hM.hd) M s3;have neb:=hlp _ (C5 hM.bd) M s3;have hown:=hown M s3;clear u5 nB cB cw3;refine zR ?_;have emv:(⟨fr,to,0⟩:Mv)=m:=Mv.ext' hfr.symm hto.symm hp.symm;rw [emv] at hX;refine a0c false (Q9 rfl _) (zR ?_);refine m8 (a4h (h:=C7 p (inCheck p)) (B:=mbOf p) (d:=C2 ⟨m,0⟩) (by show p.turn+1=1∨p.turn+1=2;omega) (E6 p 0).1 (E6 p 0).2 (E6 p 1).1 (E6 p 1).2 f0 f1 t0 t1 (show (0:Nat)<64 by decide) hpn w5 ⟨c5.blk hM.hd,c5.blk hM.bd,hX,Tn.refl _ _,hT.cl c5,neP,neb⟩) ?_
  rintro r w8 ⟨rfl,h8⟩;refine ⟨_,rfl,?_⟩;have c8:Cl w w8:=h8.tn.toCl c5 s3;refine zR ?_;refine m8 (a5J hI hN (d:={ C2 ⟨m,0⟩ with tags:=a4T (mbOf p) (p.turn+1) p.ep m 0 }) hm htag w8 (hT.cl c8) (hM.step c8) h8.nd) ?_;rintro r w9 ⟨P',b',rfl,s1',s2',hH,hB,c9⟩;refine ⟨_,rfl,?_⟩;refine zR ?_;refine zT (c9.blk h8.nd) [.pointer (some ⟨P',0,none⟩)] fun w10 u10=>?_;have c10:Cl w w10:=u10.cl (c8.trans c9) s3;refine zR ?_;exact ⟨cv,M,{ C2 ⟨m,a4T (mbOf p) (p.turn+1) p.ep m 0⟩ with pos:=.pointer (some ⟨P',0,none⟩) },rfl,hM.step c10,Tn.cl c10,s3,u10.at_,rfl,htag,rfl,fun k hk=>⟨.inl hk,hown k hk⟩⟩
 ·obtain ⟨c,hc⟩:=b9f (k:=m.promo) zo;have hT5:uciT m=[a0,a1,a2,a3,c]:=by rw [hu,zJ hp,hc];rfl
  rw [hT5];obtain ⟨cs,hcs,hc256,k5,k4,k3,k2,hone⟩:=b9e;obtain ⟨zp,hzp,hzp256⟩:=c5N;have hcp:cs[c.toNat]?=some (.int .i8 m.promo):=by
   rcases (by omega:m.promo=2∨m.promo=3∨m.promo=4∨m.promo=5) with e | e | e | e<;>rw [e] at hc ⊢ <;> (rw [← (List.cons.inj hc).1];assumption)
  have q4:(tx [a0,a1,a2,a3,c]).get! (Int.toNat 4)=c:=rfl;have hsz:(tx [a0,a1,a2,a3,c]).size=5:=rfl;have k0:(tx [a0,a1,a2,a3,c]).get! (IntKind.i64.wrap (0+0)).toNat=a0:=rfl;have k1:(tx [a0,a1,a2,a3,c]).get! (IntKind.i64.wrap (0+1)).toNat=a1:=rfl;have q0:(tx [a0,a1,a2,a3,c]).get! (Int.toNat 0)=a0:=rfl;have q1:(tx [a0,a1,a2,a3,c]).get! (Int.toNat 1)=a1:=rfl;have q2:(tx [a0,a1,a2,a3,c]).get! (Int.toNat 2)=a2:=rfl;have q3:(tx [a0,a1,a2,a3,c]).get! (Int.toNat 3)=a3:=rfl;refine zN Tryz.func351 ?_;refine zR ?_;have cb:=Cl.alloc w (.cells #[] 151);generalize w.alloc (.cells #[] 151)=w1 at *;refine a52 2 (zR ?_);rw [k0];refine E.p8 (by rw [e1];omega) (zR ?_)
  rw [k0];refine E.p8 (by rw [e1];omega) (zR ?_)
  rw [k1];refine E.p8 (by rw [e2];omega) (zR ?_)
  rw [k1];refine E.p8 (by rw [e2];omega) (zR ?_)
  refine zK 10 ?_;refine zR ?_;rw [q0,q1,cA1];intro w2 c2;refine zR ?_;refine zK 10 ?_;refine zR ?_;rw [q2,q3,cA2];intro w3 c3;refine zR ?_;refine E.p8 zo (zR ?_);refine E.p8 zo (zR ?_);refine s7 (F6 (C2 ⟨⟨fr,to,0⟩,0⟩)) zk (zR ?_);refine t7 _ a43 ?_;have cw3:=cb.trans (c2.trans c3);have s3:=cw3.size;have cB:=cw3.trans (Cl.alloc w3 (.cells (Value.agg (F6 (C2 ⟨⟨0,0,0⟩,0⟩))).cells 141));have nB:=g7 w3 (.cells (Value.agg (F6 (C2 ⟨⟨0,0,0⟩,0⟩))).cells 141);obtain ⟨M,hMM⟩:∃ M,M=w3.heap.size:=⟨_,rfl⟩;rw [← hMM] at nB s3 ⊢;generalize w3.alloc (.cells (Value.agg (F6 (C2 ⟨⟨0,0,0⟩,0⟩))).cells 141)=w4 at *;clear hMM;refine zR ?_;refine J6 nB (D3 ⟨⟨fr,to,0⟩,0⟩) rfl a0Q rfl (F5 _) (zU rfl) fun w5 u5=>?_;have hX:w5.heap[M]?=some (.cells (F6 (C2 ⟨⟨fr,to,0⟩,0⟩)) 141 (0,0)):=by have h7:=u5.at_;rw [B7 _ _ (by rw [J1];rfl)] at h7;exact h7
  have c5:Cl w w5:=u5.cl cB s3;have hXl5:=C5 hX;have neP:=hlp _ (C5 hM.hd) M s3;have neb:=hlp _ (C5 hM.bd) M s3;have hown:=hown M s3;clear u5 nB cB cw3;refine zR ?_;refine s7 cs hcs (zR ?_);refine t7 zp hzp ?_;have c6:=c5.trans (Cl.alloc w5 (.cells zp.cells 402));have n6:=g7 w5 (.cells zp.cells 402);have hX:=(Cl.alloc w5 (.cells zp.cells 402)).blk hX;have s6:=c5.size;have sX:=C5 hX;have hXl:M<w5.heap.size:=hXl5;generalize w5.alloc (.cells zp.cells 402)=w6 at *;refine zR ?_;refine J6 n6 cs.toList rfl c5c (by simpa using hc256) hone (by simp [hzp256,hc256]) fun w7 u7=>?_
  have hcsb:w7.heap[w5.heap.size]?=some (.cells cs 402 (0,0)):=by rw [u7.at_,B7 _ _ (by rw [Array.length_toList,hc256,hzp256])]
  have hX:=(Tn.upd u7).blk hX zo;have c7:=u7.cl c6 s6;refine zR ?_;rw [q4];refine E.A2 (E5.2 ⟨zo,by have:=c.toNat_lt;omega⟩) (zR ?_)
  refine d9 (.int .i8 m.promo) (D8 hcsb (by rw [E.y6,zg,yV,Nat.mul_one];exact hcp) rfl) (zR ?_)
  refine E.p8 hp (zR ?_);refine a8D hX _ fun w7b u7b=>?_;have hX:w7b.heap[M]?=some (.cells (F6 (C2 ⟨⟨fr,to,m.promo⟩,0⟩)) 141 (0,0)):=u7b.at_;have c7b:=u7b.cl c7 s3;refine zR ?_;have emv:(⟨fr,to,m.promo⟩:Mv)=m:=Mv.ext' hfr.symm hto.symm rfl;rw [emv] at hX;refine a0c false (Q9 rfl _) (zR ?_);refine m8 (a4h (h:=C7 p (inCheck p)) (B:=mbOf p) (d:=C2 ⟨m,0⟩) (by show p.turn+1=1∨p.turn+1=2;omega) (E6 p 0).1 (E6 p 0).2 (E6 p 1).1 (E6 p 1).2 f0 f1 t0 t1 (show (0:Nat)<64 by decide) hpn w7b ⟨c7b.blk hM.hd,c7b.blk hM.bd,hX,Tn.refl _ _,hT.cl c7b,neP,neb⟩) ?_
  rintro r w8 ⟨rfl,h8⟩;refine ⟨_,rfl,?_⟩;have c8:Cl w w8:=h8.tn.toCl c7b s3;refine zR ?_;refine m8 (a5J hI hN (d:={ C2 ⟨m,0⟩ with tags:=a4T (mbOf p) (p.turn+1) p.ep m 0 }) hm htag w8 (hT.cl c8) (hM.step c8) h8.nd) ?_;rintro r w9 ⟨P',b',rfl,s1',s2',hH,hB,c9⟩;refine ⟨_,rfl,?_⟩;refine zR ?_;refine zT (c9.blk h8.nd) [.pointer (some ⟨P',0,none⟩)] fun w10 u10=>?_;have c10:Cl w w10:=u10.cl (c8.trans c9) s3;refine zR ?_;exact ⟨cv,M,{ C2 ⟨m,a4T (mbOf p) (p.turn+1) p.ep m 0⟩ with pos:=.pointer (some ⟨P',0,none⟩) },rfl,hM.step c10,Tn.cl c10,s3,u10.at_,rfl,htag,rfl,fun k hk=>⟨.inl hk,hown k hk⟩⟩
noncomputable def a7n (t:Nat) (nm:String) (f:Nat):Bool:=match G.P.info? t,G.P.underlying t with
 | some i,some (.struct _)=>(match i.methods.find? (·.name==nm) with
  | some m=>m.path.isEmpty&&(match m.func with
   | some (g,b)=>Nat.beq g f && !b
   | none=>false)
  | none=>false)
 | _,_=>false
theorem b2M {t f:Nat} {nm:String} (h:a7n t nm f=true) (k:Nat) (v:Value) (w:World):(method (k+1) t v nm).run G.P w = .ok (f,v) w∧(nilAhead (k+1) t v nm).run G.P w = .ok (some false) w:=by
 unfold a7n at h;split at h
 ·rename_i i fs hi hu;split at h
  ·rename_i m hm;rw [zP] at h;obtain ⟨hp,h⟩:=h;split at h
   ·rename_i g b hf;rw [zP] at h;obtain ⟨hg,hb⟩:=h;have hg:=zr hg;have hb:b=false:=by cases b<;>simp_all
    subst hg hb;have hp:m.path=#[]:=by simpa using hp
    constructor
    ·simp [method,run_typeInfo w hi,hm,hp,hf,follow,receiverAt,Place.get,run_underlying hu]
    ·simp [nilAhead,run_typeInfo w hi,hm,hp,hf,followBlind,run_underlying hu]
   ·cases h
  ·cases h
 ·cases h
section gens
variable {dst:Option Nat} {ty:Nat} {pos:String} {af:Array Edge} {gd:Option (Nat×Bool)} {env:C8}
theorem b1l {w:World} {K:Value→World→Prop} {t:Nat} {x:Operand} {fs:Array Field} (ht:G.P.underlying t=some (.struct fs)) (h:K (.iface t (ev env x)) w):L5 G.P { dst,op:=.makeInterface t x,type:=ty,pos,after:=af,guard:=gd } env w K:=by
 refine ⟨.inl ⟨.iface t (ev env x),w,?_,h⟩⟩;simp [execOp,Instr.makeInterface,run_underlying ht]
theorem b9i {C:World→Prop} {K:Value→Prop} {nm:String} {x:Operand} (h:K (.func (.method nm) #[ev env x] #[])):a9r G.P C { dst,op:=.makeFunc (.method nm) #[x] #[],type:=ty,pos,after:=af,guard:=gd } env K:=by
 refine ⟨_,fun w _=>?_,h⟩;simp [execOp,Instr.makeFunc]
theorem b6P {C:World→Prop} {K:Value→Prop} {nm:String} {x:Operand} {t f:Nat} {v:Value} (hx:ev env x = .func (.method nm) #[.iface t v] #[]) (hd:a7n t nm f=true) (h:K (.func (.method nm) #[.iface t v] #[])):a9r G.P C { dst,op:=.nilCheck x,type:=ty,pos,after:=af,guard:=gd } env K:=by
 refine ⟨_,fun w _=>?_,h⟩;have h2:=fun k=>(b2M hd k v w).2;obtain ⟨k,hk⟩:∃ k,G.P.types.size+Made.depth=k+1:=⟨G.P.types.size+Made.depth-1,by unfold Made.depth;omega⟩
 simp [execOp,hx,hk,h2]
theorem c1B {w:World} {K:Value→World→Prop} {nm:String} {x:Operand} {args:Array Operand} {argTypes:Array Nat} {t f:Nat} {v:Value} (vs:Array Value) (hx:ev env x = .iface t v) (hd:a7n t nm f=true) (hfn:G.fn f=true) (ha:v::(args.map (ev env)).toList=vs.toList)
  (h:Calls G.P f vs w (fun r w'=>∃ v,r = .returned v∧K v w')):L5 G.P { dst,op:=.call { callee:=.invoke x nm,args,argTypes },type:=ty,pos,after:=af,guard:=gd } env w K:=by
 obtain ⟨x',h1,h2,h3⟩:=G.enters f hfn;have h4:=fun k=>(b2M hd k v w).1;obtain ⟨k,hk⟩:∃ k,G.P.types.size+Made.depth=k+1:=⟨G.P.types.size+Made.depth-1,by unfold Made.depth;omega⟩
 have ha:#[v]++args.map (ev env)=vs:=Array.toList_inj.1 (by simpa using ha)
 subst ha;refine ⟨.inr (.inr ⟨f,_,?_,h⟩)⟩;have e0:(#[Value.iface t v]++args.map (ev env))[0]?=some (.iface t v):=by
  rw [Array.getElem?_append_left (show 0<1 by decide)];rfl
 have e1:(#[Value.iface t v]++args.map (ev env)).extract 1 (#[Value.iface t v]++args.map (ev env)).size=args.map (ev env):=by
  apply Array.ext';simp;exact List.take_of_length_le (by simp)
 obtain ⟨c,hb⟩:=Option.isSome_iff_exists.1 h2;have e2:(callMethod (.iface t v) nm (args.map (ev env))).run G.P w = .ok (.enter f (#[v]++args.map (ev env))) w:=by
  simp [callMethod,hk,h4,callFunc,h1,h3,hb]
 simp only [execOp,resolve,invoke,Sem.run_bind,Sem.run_pure,Result.andThen_ok,hx,e0,e1,e2]
end gens
def ntT (n:Nat):Nat:=if n=0 then 149 else if n=1 then 150 else 151
def ntV (n:Nat):Value:=.iface (ntT n) (.agg #[])
theorem c5P:∃ fs,G.P.underlying 149=some (.struct fs):=by
 have h:(match G.P.underlying 149 with | some (.struct _)=>true | _=>false)=true:=by kernel_rfl
 split at h
 ·rename_i a e;exact ⟨a,e⟩
 ·cases h
theorem c5Q:∃ fs,G.P.underlying 150=some (.struct fs):=by
 have h:(match G.P.underlying 150 with | some (.struct _)=>true | _=>false)=true:=by kernel_rfl
 split at h
 ·rename_i a e;exact ⟨a,e⟩
 ·cases h
theorem c5R:∃ fs,G.P.underlying 151=some (.struct fs):=by
 have h:(match G.P.underlying 151 with | some (.struct _)=>true | _=>false)=true:=by kernel_rfl
 split at h
 ·rename_i a e;exact ⟨a,e⟩
 ·cases h
theorem a5Y (n:Nat) (hn:n<3) (w:World):Calls G.P 53 #[.int .i64 n] w (D9 (ntV n) w):=by
 obtain ⟨f0,u0⟩:=c5P;obtain ⟨f1,u1⟩:=c5Q;obtain ⟨f2,u2⟩:=c5R;rcases (by omega:n=0∨n=1∨n=2) with rfl | rfl | rfl
 ·refine zN Tryz.func53 ?_;refine zR ?_;refine s7 #[] zk (zR ?_);refine b1l u0 (zR ?_);exact ⟨rfl,rfl⟩
 ·refine zN Tryz.func53 ?_;refine zR ?_;refine s7 #[] zk (zR ?_);refine b1l u1 (zR ?_);exact ⟨rfl,rfl⟩
 ·refine zN Tryz.func53 ?_;refine zR ?_;refine s7 #[] zk (zR ?_);refine b1l u2 (zR ?_);exact ⟨rfl,rfl⟩
theorem c5S:a7n 149 "Decode" 341=true:=by kernel_rfl
theorem c5T:a7n 150 "Decode" 349=true:=by kernel_rfl
theorem c5U:a7n 151 "Decode" 351=true:=by kernel_rfl
def b2N (p:l9) (m:Mv) (n:Nat) (T:Tx):Prop:=(n<2∧T.length≤1000∧∃ q,zzP T=some q∧a7j p m q)∨(n=2∧T=uciT m)
theorem b9j {p:l9} (hI:B9 p) (hN:a06 p) (hle:(A5 p).length≤218) {P b:Nat} {cv:Value} {T:Tx} {n:Nat} {m:Mv} (hm:m∈s8 p) (hs:K8 p m=true) (hn:b2N p m n T) :
  ∃ f,a7n (ntT n) "Decode" f=true∧G.fn f=true∧∀ w,C9 w→H9 w P b p cv→Calls G.P f #[.agg #[],.pointer (some ⟨P,0,none⟩),m9 T] w (a7P P b p cv m w):=by
 rcases hn with ⟨h2,hT1,q,hq,hqn⟩ | ⟨rfl,rfl⟩
 ·rcases (by omega:n=0∨n=1) with rfl | rfl
  ·exact ⟨_,c5S,rfl,fun w hT hM=>a7m hI hN hle hT1 hq hm hs hqn w hT hM⟩
  ·exact ⟨_,c5T,rfl,fun w hT hM=>b2K hI hN hle hT1 hq hm hs hqn w hT hM⟩
 ·exact ⟨_,c5U,rfl,fun w hT hM=>b2L hI hN hm w hT hM⟩
theorem Fr.drop1 {M:Nat} {S:List Nat} {w w':World} (h:Fr (M::S) w w') (hM:w.heap.size≤M):Fr S w w' :=
 ⟨h.os,h.tape,h.output,h.size,fun k hk hn=>h.else_ k hk (fun hm=>by
  rcases yQ.1 hm with e | e
  ·omega
  ·exact hn e)⟩
set_option maxHeartbeats 1000000 in
theorem c3C {w:World} {G0:Nat} {g:Gm} {L:List Q8} {z:Q8} {n:Nat} {T:Tx} {m:Mv} (hT:C9 w) (h:K9 w G0 g L z) (hI:B9 z.p) (hN:a06 z.p) (hle:(A5 z.p).length≤218) (hm:m∈s8 z.p) (hs:K8 z.p m=true) (hn:b2N z.p m n T)
  (hI':B9 (made z.p m)) (hle':(A5 (made z.p m)).length≤218) (hJ:∀ n∈L++[z],B9 n.p) (hlen:L.length+2≤100000) :
  Calls G.P 52 #[.pointer (some ⟨G0,0,none⟩),m9 T,ntV n,.pointer none] w (fun r w'=>r = .returned .nilIface∧∃ g' z' y,z'.Same z∧(∃ ad n c,z'.cv = .slice (some ad) n c)∧K9 w' G0 g' (L++[z']) y∧w.heap.size≤y.M∧y.d.mv=m∧(y.d.tags:Int)=told z.p m
  ∧y.p=made z.p m∧w.heap.size≤y.P∧((g'.meth:Int),g'.out)=C6 ((L++[z]).map Q8.p++[y.p]) y.p ((g.meth:Int),g.out)∧Fr [z.M,z.P,G0] w w'):=by
 have hpos:=h.pos;obtain ⟨f,hd,hfn,hdc⟩:=b9j (P:=g.P) (b:=z.b) (cv:=z.cv) hI hN hle hm hs hn;unfold ntV;refine zN Tryz.func52 ?_;refine zG ?_;refine B0 (σ:=Nat×Value×Nd) [9,10] 11 (fun s=>[(9,.pointer (some ⟨s.1,0,none⟩)),(10,.nilIface)]) (fun s w'=>H9 w' z.P z.b z.p s.2.1∧Tn z.P w w'∧w.heap.size≤s.1∧w'.heap[s.1]?=some (.cells (F6 s.2.2) 141 (0,0))∧s.2.2.mv=m∧(s.2.2.tags:Int)=told z.p m∧s.2.2.kids = .slice none 0 0∧∀ k,s.2.1.ownBlock=some k→(z.cv.ownBlock=some k∨w.heap.size≤k)∧k≠s.1) zk ?_ (fun s j w3 hs3=>?_)
 ·have c2:Cl w w.drew:=Cl.drew (Cl.refl _);have h2:=h.step c2;refine zR ?_;refine I5.mk3 (fun w'=>w'.heap[G0]?=some (.cells (gmA g) 131 (0,0))) [0,1,2,3,4,5,6,7,8] (.cons 9 (.cons 10 (.cons 11 (.cons 12 (.cons 13 (.cons 14 .done .nil) .nil) (.cons 13 (.cons 12 (.cons 14 .done .nil) .nil) .nil)) (.cons 12 (.cons 11 (.cons 13 (.cons 14 .done .nil) .nil) .nil) .nil)) .nil) .nil) h2.hb zk (zR ?_);refine m7 _ (fun w' hw=>a4X hw) (zR ?_);refine b9i (zR ?_);refine b6P rfl hd (zE ?_);refine c1B #[.agg #[],.pointer (some ⟨g.P,0,none⟩),m9 T] rfl hd hfn (by rw [zb];rfl) ?_
  refine (hdc w.drew (hT.cl c2) h2.posM).mono ?_;rintro r w3 ⟨cv',M,d,rfl,hM3,n3,sM,hX,hmv,htg,hk,hown⟩;refine ⟨_,rfl,?_⟩;rw [hpos] at hM3 n3;have hb3:=n3.blk h2.hb (O1 h2.hb h2.chn.last.2.2.hd zd);iterate 20 (all_goals (first | exact trivial | refine And.intro hb3 ?_ | refine And.intro ?_ ?_ | refine zR ?_))
  all_goals exact ⟨(M,cv',d),⟨rfl,rfl,trivial⟩,hM3,(Tn.cl c2).trans n3,zu c2.size sM,hX,hmv,htg,hk,fun k hk=>⟨(hown k hk).1.imp id (zu c2.size),(hown k hk).2⟩⟩
 obtain ⟨M,cv',d⟩:=s;obtain ⟨hM3,n3,sM,hX,hmv,htg,hk,hown⟩:=hs3;simp only at hM3 n3 sM hX hmv htg hk hown;have h2:=h;have h3:=h2.recv n3 hM3 (fun k hk=>(hown k hk).1);have hlt:=h2.chn.lt;have hMl:∀ n∈L++[z],n.off [M]:=fun n hn=>(hlt n hn).off (fun k hk=>by rw [zY.1 hk];exact sM)
 have hoff:∀ n∈L++[{ z with cv:=cv' }],n.off [M]:=fun n hn=>by
  rcases zq.1 hn with hn | hn
  ·exact hMl n (yO _ hn)
  ·have o:=hMl z (by simp)
   rw [zY.1 hn];exact ⟨o.M,o.P,o.b,fun k hk e=>(hown k e).2 (zY.1 hk),o.kids⟩
 have hJ2:∀ n∈L++[{ z with cv:=cv' }],Ch.B9 n.p:=fun n hn=>by
  rcases zq.1 hn with hn | hn
  ·exact hJ n (yO _ hn)
  ·rw [zY.1 hn];exact hI
 have hT3:C9 w3:=hT.fr (Fr.tn (S:=[z.P]) n3 (.inl (by simp))) fun k hk cs t fz hh=>by
  rw [zY.1 hk] at hh;rw [← (Obj.cells.inj (Option.some.inj (h2.chn.last.2.2.hd.symm.trans hh))).2.1];decide
 have hGM:=c1f (d:=d) hT3 h3 hI hN hle (by rw [hmv];exact hm) (by rw [hmv];exact htg) hk hX hoff (by rw [hmv];exact hI') (by rw [hmv];exact hle') hJ2 hlen
 refine zR ?_;refine I8 true (E7 rfl) (zR ?_);refine m8 hGM ?_;rintro e w4 ⟨rfl,g',z',y,⟨hsame.M,hsame.P,hsame.b,hsame.p⟩,hkc,hG4,y1,y2,y3,y4,y5,hend,f4⟩;refine ⟨_,rfl,?_⟩;refine zR ?_;have s3:=n3.size;have hmap:(L++[{ z with cv:=cv' }]).map Q8.p=(L++[z]).map Q8.p:=by simp
 rw [hmap] at hend;refine ⟨rfl,g',z',y,⟨hsame.M,hsame.P,hsame.b,hsame.p⟩,hkc,hG4,by rw [y1];omega,y2.trans hmv,by rw [y3];exact htg,by rw [y4,hmv],zo,hend,?_⟩
 have f4:Fr [M,z.M,z.P,G0] w3 w4:=f4;have f3:Fr [M,z.M,z.P,G0] w w3:=Fr.tn n3 (.inl (by simp))
 exact (f3.trans f4).drop1 zo
def b9z (k:Nat) (p:l9) (m:Mv):Tx:=if k=0 then sanT p m else if k=1 then lanT p m else uciT m
section gens
variable {dst:Option Nat} {ty:Nat} {pos:String} {af:Array Edge} {gd:Option (Nat×Bool)} {env:C8}
end gens
theorem a9y {w:World} {G0:Nat} {g:Gm} (hb:w.heap[G0]?=some (.cells (gmA g) 131 (0,0))):Calls G.P 54 #[.pointer (some ⟨G0,0,none⟩)] w (D9 (.pointer (some ⟨g.cur,0,none⟩)) w):=by
 refine zN Tryz.func54 ?_;refine zR ?_;refine d9 (.pointer (some ⟨g.cur,0,none⟩)) (D8 hb rfl rfl) (zR ?_);exact ⟨rfl,rfl⟩
end
section
open Go Go.RowKit
open E
structure c5W (t1 t2 y1 y2:Nat) (e:C8) (w:World) (v:Value):Prop where
 ex:∃ v1 v2,v = .tuple #[v1,v2]∧(∃ a,e t1 = .pointer (some a)∧o4 G.P w y1 a v1)∧∃ a,e t2 = .pointer (some a)∧o4 G.P w y2 a v2
end
section
open Go Go.RowKit
open E
open Ch Bb
def c3D (n:Nat):l9→List (Mv×Tx)→Prop
 | p,[]=>(s8 p).length≤218
 | p,x::r=>(s8 p).length≤218∧x.1∈s8 p∧K8 p x.1=true∧b2N p x.1 n x.2∧c3D n (made p x.1) r
theorem c3D.head {n:Nat} {p:l9}:∀ {l:List (Mv×Tx)},c3D n p l→(s8 p).length≤218
 | [],h=>h
 | _::_,h=>h.1
theorem b9k {p:l9} {ms:List Mv} (h:asked p ms=true):B9 p∧p.half≤1000000∧p.full≤1000000∧ms.length≤80∧quiet p ms=true:=by
 unfold asked at h;simp only [zP,zW] at h;obtain ⟨⟨⟨⟨h1,h2⟩,h3⟩,h4⟩,h5⟩:=h;exact ⟨(a6k p).1 h1,h2,h3,h4,h5⟩
theorem b0m {l:List l9} {p:l9} {mo:Int×Tx} (h0:0≤mo.1) (h9:mo.1≤9) (hl:mo.2.length≤1000):0≤(C6 l p mo).1∧(C6 l p mo).1≤9∧(C6 l p mo).2.length≤1000:=by
 have hd:drawT.length≤1000:=by decide
 have hw:(a28 p.turn).length≤1000:=by unfold a28;split<;>decide
 unfold C6;simp only
 repeat' split
 all_goals first
  | exact ⟨h0,h9,hl⟩
  | exact ⟨by simp only;omega,by simp only;omega,hd⟩
  | exact ⟨by simp only;omega,by simp only;omega,hw⟩
theorem b9l (m:Mv):(uciT m).length≤5:=by
 have h1:=V6 m.fr;have h2:=V6 m.to;have h3:=a9Z m.promo;unfold uciT;rw [zF,zF];split
 ·omega
 ·simp only [za];omega
theorem b9m (p:l9) (m:Mv):(lanT p m).length≤11:=by
 unfold lanT;split
 ·exact a8A p m
 ·have h1:=V6 m.fr;have h2:=V6 m.to;have h3:=K2 (kindOf (sq p m.fr));have h4:=a18 p m;have h5:=a3b m;have h6:=a17 p m;simp only [zF];omega
theorem c1C (p:l9) (m:Mv):0≤told p m∧told p m≤100:=by
 unfold told J4 castleKind;repeat' split
 all_goals omega
theorem b6Q {p:l9} (hh:p.half.toNat<10000000) (hf:p.full.toNat<10000000):(xfenT p).length≤1000:=by
 unfold xfenT;split
 ·exact a5X hh hf
 ·exact a5X (p:={ p with ep:=-1 }) hh hf
theorem c3E {p:l9} (hI:B9 p) (hh:p.half≤5000000) (hf:p.full≤5000000) {m:Mv} (hm:m∈s8 p) (hr:MvR m) {mo:Int×Tx} (h0:0≤mo.1) (h9:mo.1≤9) (hl:mo.2.length≤1000):StR (stepOf p m mo):=by
 have hI2:=hI.made hm;have a1:=a4e hI m;have a2:=a4f hI m;have a3:=c1C p m;have a4:=a8A p m;have a5:=b9m p m;have a6:=b9l m;have a7:a6p (made p m):=a7N hI2 ⟨zo,zo⟩;have a8:(fenT (made p m)).length≤1000:=a5X zo zo;have a9:(xfenT (made p m)).length≤1000:=b6Q zo zo;have b1:I64 (told p m):=⟨zo,zo⟩;have b2:I64 mo.1:=⟨zo,zo⟩;have b3:I64 (statusOf (made p m)):=by
  unfold statusOf;repeat' split
  all_goals exact ⟨zo,zo⟩
 unfold stepOf;generalize told p m=x1 at *;generalize sanT p m=x2 at *;generalize lanT p m=x3 at *;generalize uciT m=x4 at *;generalize fenT (made p m)=x5 at *;generalize xfenT (made p m)=x6 at *;generalize statusOf (made p m)=x7 at *;generalize made p m=q at *;exact ⟨hr,b1,by simp only;omega,by simp only;omega,by simp only;omega,a8,a9,a7,hl,b2,b3⟩
theorem b2O:∀ (ms:List Mv) (l:List l9) (p:l9) (mo:Int×Tx),B9 p→p.half+ms.length≤5000000→p.full+ms.length≤5000000→(∀ m∈ms,MvR m)→0≤mo.1→mo.1≤9→mo.2.length≤1000→∀ s∈story l p mo ms,StR s:=by
 intro ms
 induction ms with
 | nil=>intro l p mo _ _ _ _ _ _ _ s hs;cases hs
 | cons m r ih =>
  intro l p mo hI hh hf hms h0 h9 hl s hs;rw [a0q] at hs;split at hs
  ·rename_i hm;have hm:m∈s8 p:=yA hm;have a1:=a4e hI m;have a2:=a4f hI m;have a3:=hI.h0;have a4:=hI.f1;simp only [zh] at hh hf;obtain ⟨b0,b9,bl⟩:=b0m (l:=l++[made p m]) (p:=made p m) h0 h9 hl;rcases yQ.1 hs with e | hs
   ·subst e;exact c3E hI zo zo hm (hms m yW) b0 b9 bl
   ·exact ih _ _ _ (hI.made hm) zo zo (fun x hx=>hms x (yX _ hx)) b0 b9 bl s hs
  ·cases hs
theorem b6R:∀ (ms:List Mv) (l:List l9) (p:l9) (mo:Int×Tx),(story l p mo ms).length≤ms.length:=by
 intro ms
 induction ms with
 | nil=>intro l p mo;exact yH _
 | cons m r ih =>
  intro l p mo;rw [a0q];split
  ·have:=ih (l++[made p m]) (made p m) (C6 (l++[made p m]) (made p m) mo);simp only [zh];omega
  ·simp
theorem b4p {p:l9} (hI:B9 p) (hh:p.half≤1000000) (hf:p.full≤1000000) {ms:List Mv} (hn:ms.length≤80) (hms:∀ m∈ms,MvR m) (looked:Bool):∀ s∈storyOf p looked ms,StR s:=by
 have hs:star.length≤1000:=by decide
 have h0:(0:Int)≤((0:Int),star).1:=Int.le_refl 0;have h9:((0:Int),star).1≤9:=show (0:Int)≤9 by omega
 obtain ⟨b0,b9,bl⟩:=b0m (l:=[p]) (p:=p) h0 h9 hs;have e:storyOf p looked ms=story [p] p (if looked then C6 [p] p (0,star) else (0,star)) ms:=rfl
 rw [e];split
 ·exact b2O ms _ _ _ hI zo zo hms b0 b9 bl
 ·exact b2O ms _ _ _ hI zo zo hms h0 h9 hs
end
end Go.Proofs.YtpclhlhcegcflaaGreatDoor
