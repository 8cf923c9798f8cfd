/- One part of the proof: Dfr Pk49 Pk55 Pk56 Pk57 Pk58 Pk59 Pk60 Pk61. -/
import Derived.Defers
import Derived.Recover
import Derived.ChangeKeysEq
import Derived.Test.YtpclhlhcegcflaaGreatDoorM17
namespace Go.Proofs.YtpclhlhcegcflaaGreatDoor
open Go.Proofs.Tryz
set_option maxRecDepth 100000
set_option linter.unusedSimpArgs false
set_option linter.unusedVariables false
section
open Go Go.RowKit
open E
structure c6k (w:World) (e:C9) (t1 t2 t3:Nat) (y1 y2 y3:Nat) (v1 v2 v3:Value):Prop where
 a:∃ a,e t1 = .pointer (some a)∧m9 G.P w y1 a v1
 b:∃ a,e t2 = .pointer (some a)∧m9 G.P w y2 a v2
 c:∃ a,e t3 = .pointer (some a)∧m9 G.P w y3 a v3
theorem a7j {w:World} {t:Nat} {a:Addr} {v:Value} (h:m9 G.P w t a v):(loadVar t a).run G.P w = .ok v w:=by
 unfold m9 Instr.loadAt at h;simp [Instr.sureAddr] at h;exact h
theorem b0e {fn:Func} {t1 t2 t3 y1 y2 y3:Nat} (hr:fn.results=#[.cell t1 y1,.cell t2 y2,.cell t3 y3]) {a:Act} {w:World} {v1 v2 v3:Value} (h:c6k w (z6 a) t1 t2 t3 y1 y2 y3 v1 v2 v3) :
  (results fn a.tmps).run G.P w = .ok (.tuple #[v1,v2,v3]) w:=by
 obtain ⟨⟨a1,e1,l1⟩,⟨a2,e2,l2⟩,a3,e3,l3⟩:=h;have e1:a.tmps[t1]?.getD undef = .pointer (some a1):=by rw [← xF];exact e1
 have e2:a.tmps[t2]?.getD undef = .pointer (some a2):=by rw [← xF];exact e2
 have e3:a.tmps[t3]?.getD undef = .pointer (some a3):=by rw [← xF];exact e3
 simp [results,hr,e1,e2,e3,asAddr,a7j l1,a7j l2,a7j l3]
def c6l (f:Nat) (cap:Array Value):Prop:=∀ w,CallsD G.P f cap .returning w fun e u' w'=>e = .returned (.tuple #[])∧u' = .returning∧w'=w
theorem b3G {f:Nat} {fn:Func} {A B:Code} {i:Nat} {mk df:Oper} {args:List Value} {w:World} {R:Ending→World→Prop} {fc t t1 t2 t3 y1 y2 y3:Nat} {caps:Array Operand}
  (hf:G.P.funcs[f]?=some fn) (hb:fn.body=some (.seq A (.seq (.region i #[mk,df] false) B))) (hn:args.length≤fn.ntmps) (hkA:U3 fn.ntmps A=true) (hkB:U3 fn.ntmps B=true) (ht:t<fn.ntmps)
  (hmg:mk.guard=none) (hmo:mk.op = .makeFunc (.func fc) #[] caps) (hmd:mk.dst=some t) (hdg:df.guard=none) (hdo:df.op = .defer { callee:=.value (.tmp t),args:=#[],argTypes:=#[] }) (hdd:df.dst=none)
  (hfc:G.fn fc=true) (hid:∀ a b c,c6l fc #[a,b,c]) (hr:fn.results=#[.cell t1 y1,.cell t2 y2,.cell t3 y3])
  (h:vc G A (a7n args) w (fun x e w1=>x = .normal∧∃ a b c:Value,(caps.map (ev e)).toList=[a,b,c]∧vc G B (upd e t (.func (.func fc) #[] #[a,b,c])) w1 (fun x e w2=>(x = .normal∨x = .ret)∧∃ v1 v2 v3,c6k w2 e t1 t2 t3 y1 y2 y3 v1 v2 v3∧R (.returned (.tuple #[v1,v2,v3])) w2))) :
  Calls G.P f args.toArray w R:=by
 refine calls_of_wp_defers hf hb ?_;have hsz:(args.toArray++Array.replicate (fn.ntmps-args.toArray.size) undef).size=fn.ntmps:=by simp;omega
 have henv:z6 { tmps:=args.toArray++Array.replicate (fn.ntmps-args.toArray.size) undef,defers:=[] }=a7n args:=by
  funext t;unfold z6 a7n;rw [b1m];simp only [xF,xA];by_cases ht:t<args.length
  ·rw [Array.getElem?_append_left (by simpa using ht)];simp
  ·rw [Array.getElem?_append_right (by simpa using ht)]
   rw [xS zo];simp only [Option.getD_none];cases hx:(Array.replicate (fn.ntmps-args.toArray.size) undef)[t-args.toArray.size]? with
   | none=>rfl
   | some v =>
    have:=yn.1 hx;obtain ⟨h1,h2⟩:=this;simp at h2;simp [h2]
 refine wp_seq ?_;refine a86 (G:=G) (N:=fn.ntmps) (ds:=[]) A _ _ ?_ hkA _ w hsz rfl (by rw [henv];exact h)
 rintro x a w1 hs hd ⟨rfl,q1,q2,q3,hcap,hB⟩;show Code.wp G.P (.seq (.region i #[mk,df] false) B) _ a w1;refine wp_seq (wp_region_list ?_);have hcap:caps.map (ev (z6 a))=#[q1,q2,q3]:=xX.1 hcap;obtain ⟨fnc,c1,c2,c3⟩:=G.enters fc hfc;have hmx:(execOp a.eval mk).run G.P w1 = .ok (.value (.func (.func fc) #[] (caps.map (ev (z6 a))))) w1:=by
  obtain ⟨d,o,ty,ps,af,g⟩:=mk;simp only at hmo hmg hmd;subst hmo;rw [X8];simp [execOp,Instr.makeFunc]
 obtain ⟨a1,ha1⟩:∃ a1:Act,a1=a.put (some t) (.func (.func fc) #[] (caps.map (ev (z6 a)))):=⟨_,rfl⟩;have hs1:a1.tmps.size=fn.ntmps:=by rw [ha1,a1Z,hs]
 have hd1:a1.defers=[]:=by rw [ha1,a0r,hd]
 have he1:z6 a1=upd (z6 a) t (.func (.func fc) #[] (caps.map (ev (z6 a)))):=by rw [ha1];exact b0h _ (by rw [hs];exact ht)
 have hdx:(execOp a1.eval df).run G.P w1 = .ok (.defer { target:=.fn (.func fc) (caps.map (ev (z6 a))),args:=#[] }) w1:=by
  obtain ⟨d,o,ty,ps,af,g⟩:=df;simp only at hdo hdg hdd;subst hdo;rw [X8,he1];simp [execOp,resolve,ev,b8l,Deferred.ofValue]
 have hw1:Region.wanted mk (yielded #[mk,df] a.tmps)=true:=by unfold Region.wanted;rw [hmg]
 have hw2:Region.wanted df (yielded #[mk,df] a1.tmps)=true:=by unfold Region.wanted;rw [hdg]
 show wpList G.P #[mk,df] _ [mk,df] a w1;unfold wpList;rw [zM hw1];refine .inl ?_;unfold Oper.wp;rw [hmx,Oper.upon_value,hmd,← ha1];unfold wpList;rw [zM hw2];refine .inl ?_;unfold Oper.wp;rw [hdx,Oper.upon_defer,hdd];unfold wpList;have hs2:({ a1 with defers:={ target:=.fn (.func fc) (caps.map (ev (z6 a))),args:=#[] }::a1.defers }:Act).put none undef={ a1 with defers:=[{ target:=.fn (.func fc) (caps.map (ev (z6 a))),args:=#[] }] }:=by rw [hd1];rfl
 rw [hs2];show Code.wp G.P B _ _ w1;refine a86 (G:=G) (N:=fn.ntmps) (ds:=[{ target:=.fn (.func fc) (caps.map (ev (z6 a))),args:=#[] }]) B _ _ ?_ hkB _ w1 hs1 rfl (by
  have:z6 { a1 with defers:=[{ target:=.fn (.func fc) (caps.map (ev (z6 a))),args:=#[] }] }=z6 a1:=rfl;rw [this,he1,hcap];exact hB)
 rintro x a' w2 hs' hd' ⟨hx,v1,v2,v3,h3,hR⟩;have hL:Leaves G.P fn a'.tmps R a'.defers .returning w2:=by
  rw [hd'];refine leaves_cons (f:=fc) (args:=#[]++caps.map (ev (z6 a))) (by simp) ?_ ?_
  ·simp [invoke,callFunc,c1,c3];cases hbd:fnc.body with
   | none=>rw [hbd] at c2;cases c2
   | some c=>simp
  ·rw [Array.empty_append];rw [hcap];refine (hid _ _ _ w2).mono ?_;rintro e u' w3 ⟨rfl,rfl,rfl⟩;exact ⟨_,b0e hr h3,hR⟩
 rcases hx with rfl|rfl
 ·exact hL
 ·exact hL
end
section
open Go Go.RowKit
open E
open Ch Bb
theorem Row.frT {α:Type} {enc:α→List Value} {e z b0:Nat} {S:List Nat} {w w':World} {v:Value} {l:List α} (h:Row e z enc b0 w v l) (hf:Fr S w w') (hS:∀ k∈S,∃ cs t fz,w.heap[k]?=some (.cells cs t fz)∧e≠t):Row e z enc b0 w' v l:=by
 refine ⟨h.1,?_⟩;rcases h.2 with h2|⟨g,cap,cur,h1,h2,h3,h4⟩
 ·exact .inl h2
 ·refine .inr ⟨g,cap,cur,h1,h2,hf.blk h3 fun hm=>?_,h4⟩;obtain ⟨cs,t,fz,hb,hne⟩:=hS g hm;exact G9 h3 hb hne rfl
theorem Fr.toCl {S:List Nat} {w0 w w':World} (h:Fr S w w') (hS:∀ k∈S,w0.heap.size≤k) (c:Cl w0 w):Cl w0 w' :=
 ⟨h.os.trans c.os,h.tape.trans c.tape,h.output.trans c.output,zw c.size h.size,fun k hk=>(h.else_ k (xe hk c.size) (fun hm=>by have:=hS k hm;omega)).trans (c.block k hk)⟩
def KT (T:Nat) (w w':World):Prop:=∀ (k:Nat) (cs:Array Value) (t:Nat),t≠T→w.heap[k]?=some (.cells cs t (0,0))→w'.heap[k]?=some (.cells cs t (0,0))
section kt
variable {T:Nat} {w w':World} (hk:KT T w w')
include hk
theorem KT.row {α:Type} {enc:α→List Value} {e z b0:Nat} {v:Value} {l:List α} (h:Row e z enc b0 w v l) (he:e≠T):Row e z enc b0 w' v l:=by
 refine ⟨h.1,?_⟩;rcases h.2 with h2|⟨g,cap,cur,h1,h2,h3,h4⟩
 ·exact .inl h2
 ·exact .inr ⟨g,cap,cur,h1,h2,hk _ _ _ he h3,h4⟩
theorem KT.posM {P b:Nat} {p:g9} {cv:Value} (h:G8 w P b p cv) (h1:173≠T) (h2:237≠T) (h3:141≠T):G8 w' P b p cv :=
 ⟨hk _ _ _ h1 h.hd,hk _ _ _ h2 h.bd,h.ca.elim .inl fun h=>.inr (hk.row h h3)⟩
theorem KT.chn (h1:173≠T) (h2:237≠T) (h3:141≠T) (h4:85≠T):∀ {l:List O0},Chn w l→Chn w' l
 | [],_=>trivial
 | n::l,⟨a1,a2,a3,a4,a5⟩=>by
  refine ⟨hk _ _ _ h3 a1,a2,?_,hk.posM a4 h1 h2 h3,KT.chn h1 h2 h3 h4 a5⟩;cases l with
  | nil=>exact a3
  | cons m r=>exact hk.row (show Row 85 1 O8 0 w n.d.kids [m.M] from a3) h4
theorem KT.game {G0:Nat} {g:Gm} {L:List O0} {z:O0} (h:J0 w G0 g L z) (h0:131≠T) (h1:173≠T) (h2:237≠T) (h3:141≠T) (h4:85≠T):J0 w' G0 g L z :=
 ⟨hk _ _ _ h0 h.hb,h.cur,h.pos,h.root,hk.chn h1 h2 h3 h4 h.chn,h.kids,h.off,h.zcv,h.dis,h.mo⟩
end kt
theorem KT.upd {T b:Nat} {o:Obj} {w w':World} {cs:Array Value} {fz:Nat×Nat} (u:Upd w b o w') (hb:w.heap[b]?=some (.cells cs T fz)):KT T w w':=fun k c t ht h=>(Tn.upd u).blk h (G9 h hb ht)
theorem KT.grow {α:Type} {enc:α→List Value} {e z b0 b1:Nat} {w w':World} {v v':Value} {l:List α} (hr:Row e z enc b1 w v l) (hg:a5O b0 w v w' v'):KT e w w':=fun k c t ht h=>by
 refine hg.keep _ _ h fun hv=>?_;rcases hr.2 with ⟨h1,_⟩|⟨g,cap,cur,h1,h2,h3,h4⟩
 ·rw [h1] at hv;cases hv
 ·rw [h1] at hv;injection hv with hv;subst hv;exact ht (xP (yp (h.symm.trans h3))).2.1
theorem a59 {p:g9} {ms:List Mv} (h:quiet p ms=true):(p9 p).length≤218:=by
 cases ms with
 | nil=>exact yF h
 | cons m r =>
  unfold quiet at h;simp only [zP] at h;exact yF h.1
theorem b5q {p:g9} {m:Mv} {r:List Mv} (h:quiet p (m::r)=true) (hl:a66 p m=true):P3 p m=true∧quiet (made p m) r=true:=by
 unfold quiet at h;rw [hl] at h;simp only [zP,wJ,xp] at h;exact h.2
theorem a7J {l:List g9} {p:g9} {m0 m:Nat} {o0 o:Tx} (h:((m:Int),o)=D5 l p ((m0:Int),o0)) (h0:m0≤9):m≤9:=by
 have e:=yM Prod.fst h;have:0≤(D5 l p ((m0:Int),o0)).1∧(D5 l p ((m0:Int),o0)).1≤9:=by
  unfold D5;simp only
  repeat' split
  all_goals exact ⟨by simp only;omega,by simp only;omega⟩
 simp only at e;omega
theorem Chn.mem {w:World}:∀ {l:List O0},Chn w l→∀ n∈l,G8 w n.P n.b n.p n.cv
 | [],_,_,h=>by cases h
 | n::l,⟨_,_,_,h4,h5⟩,x,hx=>by
  rcases yV.1 hx with e|hx
  ·rw [e];exact h4
  ·exact Chn.mem h5 x hx
def mcA (q:E0):Array Value:=#[m7 q.pc,m7 q.fo,m7 q.ro,m7 q.ca,m7 q.fi,m7 q.ra,m7 q.pr,m7 q.cs]
def mcV (q:E0):Value:=.agg (mcA q)
theorem c0l:(G.P.info? 394).map (·.size)=some 8:=by kernel_rfl
theorem zMc:∃ z,(G.P.info? 394).bind (·.zero)=some z∧z.cells.size=8:=a0m zk
structure PL (q:E0):Prop where
 l:q.pc.length≤1000∧q.fo.length≤1000∧q.ro.length≤1000∧q.ca.length≤1000∧q.fi.length≤1000∧q.ra.length≤1000∧q.pr.length≤1000∧q.cs.length≤1000
 ne:N4 q≠[]
 fi:q.fo≠[]→q.fi≠[]
theorem c2G (s:Tx) (i j:Nat):(X7 s i j).length≤s.length:=by unfold X7;rw [yh,yj];omega
theorem a1W {f:Nat→Option E0} {q:E0}:∀ n,a0V f n=some q→∃ k,k<n∧f k=some q
 | 0,h=>by cases h
 | n+1,h=>by
  rw [a1V] at h;cases e:f n with
  | none =>
   rw [e,c0h] at h;obtain ⟨k,hk,h2⟩:=a1W n h;exact ⟨k,zo,h2⟩
  | some x =>
   rw [e,b3B] at h;exact ⟨n,zo,by rw [e,h]⟩
theorem c31 {s:Tx} {q:E0} (hs:s.length≤1000) (h:zzP s=some q):PL q:=by
 unfold zzP at h;cases e:a0Q s with
 | some x =>
  rw [e] at h;injection h with h;subst h;obtain ⟨a,_,ha⟩:=a1W _ e;obtain ⟨b,_,hb⟩:=a1W _ ha;obtain ⟨c,_,hc⟩:=a1W _ hb;obtain ⟨d,_,hd⟩:=a1W _ hc;unfold b0a at hd;split at hd
  ·rename_i hg;rw [zP] at hg;obtain ⟨k,_,hk⟩:=a1W _ hd;unfold b1Y at hk;split at hk
   ·injection hk with hk;subst hk;have hl:=b5l hg.1;have hfi:(b5e s a b c d k).fi≠[]:=by
     show X7 s (a+b+c+d) (a+b+c+d+1)≠[];unfold X7;rw [xc hl,show a+b+c+d+1-(a+b+c+d)=1 by omega]
     simpa using hl
    have hc:∀ i j,(X7 s i j).length≤1000:=fun i j=>zw (c2G s i j) hs;refine ⟨⟨hc _ _,hc _ _,hc _ _,hc _ _,hc _ _,hc _ _,hc _ _,by show 0≤1000;omega⟩,fun e=>hfi ?_,fun _=>hfi⟩
    unfold N4 at e;simp only [List.append_eq_nil_iff] at e;exact e.1.1.1.2
   ·cases hk
  ·cases hd
 | none =>
  rw [e] at h;simp only at h;split at h
  ·injection h with h;subst h;exact ⟨zd,zd,fun e=>absurd rfl e⟩
  ·split at h
   ·injection h with h;subst h;exact ⟨zd,zd,fun e=>absurd rfl e⟩
   ·cases h
theorem Bw.done {b:Nat} {w0 wr w w':World} {l:Tx} (h:Bw b wr w l) (h4:Below wr.heap.size w w') (c:Cl w0 wr) (hb:w0.heap.size≤b):Cl w0 w' :=
 ⟨h4.os.trans (h.nb.os.trans c.os),h4.tape.trans (h.nb.tape.trans c.tape),h4.output.trans (h.nb.output.trans c.output),zw c.size (zw h.nb.size h4.size),fun k hk =>
  (h4.block k (xe hk c.size)).trans ((h.nb.else_ k (xe hk c.size) (Nat.ne_of_lt (xe hk hb))).trans (c.block k hk))⟩
set_option maxHeartbeats 1000000 in
theorem b2h {q:E0} (hq:PL q) (w:World):Calls G.P 344 #[mcV q] w (N0 (m7 (N4 q)) w):=by
 obtain ⟨l0,l1,l2,l3,l4,l5,l6,l7⟩:=hq.l;refine zN func344 ?_;refine zG ?_;obtain ⟨W0,hW0⟩:∃ W0,W0=w.alloc (.cells (mcA q) 394):=⟨_,rfl⟩;have c0:Cl w W0:=by rw [hW0];exact Cl.alloc _ _
 have hx0:W0.heap[w.heap.size]?=some (.cells (mcA q) 394 (0,0)):=by rw [hW0];exact d8 _ _
 rw [← hW0];clear hW0;refine zR ?_;refine s7 _ b42 ?_;have c1:=Cl.alloc W0 (.cells (Value.agg #[.pointer none,.slice none 0 0]).cells 160);have nA:=d8 W0 (.cells (Value.agg #[.pointer none,.slice none 0 0]).cells 160);generalize W0.alloc (.cells (Value.agg #[.pointer none,.slice none 0 0]).cells 160)=w1 at *;have hxl0:=A7 hx0;refine zR ?_;refine m8 (a4P nA) ?_;rintro r w2 ⟨rfl,u2⟩;refine ⟨_,rfl,?_⟩;have h:=Bw.fresh u2.at_;have hxn:w.heap.size≠W0.heap.size:=Nat.ne_of_lt hxl0;have hx:=(Tn.upd u2).blk (c1.blk hx0) hxn;have hxl:=A7 hx;have cw:Cl w w2:=u2.cl (c0.trans c1) c0.size;refine zR ?_;refine b7 (m7 q.pc) (D9 (h.nb.blk hx hxl hxn) rfl rfl) (zR ?_);refine m8 (r9 q.pc h (by simp only [zF,za];omega)) ?_
 rintro r w3 ⟨rfl,h⟩;refine ⟨_,rfl,zR ?_⟩;refine b7 (m7 q.fo) (D9 (h.nb.blk hx hxl hxn) rfl rfl) (zR ?_);refine m8 (r9 q.fo h (by simp only [zF,za];omega)) ?_
 rintro r w3 ⟨rfl,h⟩;refine ⟨_,rfl,zR ?_⟩;refine b7 (m7 q.ro) (D9 (h.nb.blk hx hxl hxn) rfl rfl) (zR ?_);refine m8 (r9 q.ro h (by simp only [zF,za];omega)) ?_
 rintro r w3 ⟨rfl,h⟩;refine ⟨_,rfl,zR ?_⟩;refine b7 (m7 q.ca) (D9 (h.nb.blk hx hxl hxn) rfl rfl) (zR ?_);refine m8 (r9 q.ca h (by simp only [zF,za];omega)) ?_
 rintro r w3 ⟨rfl,h⟩;refine ⟨_,rfl,zR ?_⟩;refine b7 (m7 q.fi) (D9 (h.nb.blk hx hxl hxn) rfl rfl) (zR ?_);refine m8 (r9 q.fi h (by simp only [zF,za];omega)) ?_
 rintro r w3 ⟨rfl,h⟩;refine ⟨_,rfl,zR ?_⟩;refine b7 (m7 q.ra) (D9 (h.nb.blk hx hxl hxn) rfl rfl) (zR ?_);refine m8 (r9 q.ra h (by simp only [zF,za];omega)) ?_
 rintro r w3 ⟨rfl,h⟩;refine ⟨_,rfl,zR ?_⟩;refine b7 (m7 q.pr) (D9 (h.nb.blk hx hxl hxn) rfl rfl) (zR ?_);refine m8 (r9 q.pr h (by simp only [zF,za];omega)) ?_
 rintro r w3 ⟨rfl,h⟩;refine ⟨_,rfl,zR ?_⟩;refine b7 (m7 q.cs) (D9 (h.nb.blk hx hxl hxn) rfl rfl) (zR ?_);refine m8 (r9 q.cs h (by simp only [zF,za];omega)) ?_
 rintro r w3 ⟨rfl,h⟩;refine ⟨_,rfl,?_⟩;have h:Bw W0.heap.size w2 w3 (N4 q):=by simpa [N4] using h
 refine zR ?_;refine m8 (Z0 h hq.ne (by unfold N4;simp only [zF];omega)) ?_
 rintro r w4 ⟨rfl,b4⟩;refine ⟨_,rfl,zR ?_⟩;exact ⟨rfl,h.done b4 cw c0.size⟩
structure a3D (w:World) (bx bo bs:Nat) (q:E0) (wc:World) (vo:Value) (L:List Tx):Prop where
 hx:wc.heap[bx]?=some (.cells (mcA q) 394 (0,0))
 ho:wc.heap[bo]?=some (.cells #[vo] 42 (0,0))
 hk:∃ p v,wc.heap[bs]?=some (.cells #[p,v] 160 (0,0))
 hr:Row 9 1 J5 w.heap.size wc vo L
 cl:Cl w wc
 n1:w.heap.size≤bo
 n2:w.heap.size≤bs
 n3:bx≠bo
 n4:bx≠bs
 n5:bo≠bs
section opti
variable {w wc w2 w3 w4:World} {bx bo bs:Nat} {q:E0} {vo v':Value} {L L':List Tx}
theorem a3D.step (I:a3D w bx bo bs q wc vo L) (c:Cl wc w2):a3D w bx bo bs q w2 vo L:=by
 obtain ⟨p,v,hk⟩:=I.hk;exact ⟨c.blk I.hx,c.blk I.ho,⟨p,v,c.blk hk⟩,I.hr.step c,I.cl.trans c,I.n1,I.n2,I.n3,I.n4,I.n5⟩
theorem a3D.upd (I:a3D w bx bo bs q wc vo L) {p v p2 v2:Value} (hk:wc.heap[bs]?=some (.cells #[p,v] 160 (0,0))) (u:Upd wc bs (.cells #[p2,v2] 160 (0,0)) w2):a3D w bx bo bs q w2 vo L :=
 ⟨(Tn.upd u).blk I.hx I.n4,(Tn.upd u).blk I.ho I.n5,⟨p2,v2,u.at_⟩,I.hr.updT u hk zd,u.cl I.cl I.n2,I.n1,I.n2,I.n3,I.n4,I.n5⟩
theorem a3D.str (I:a3D w bx bo bs q w2 vo L) {T:Tx} (h:Bw bs w2 w3 T) (b4:Below w2.heap.size w3 w4):a3D w bx bo bs q w4 vo L:=by
 have n:Nb bs w2.heap.size w2 w4:=h.nb.trans ⟨b4.os,b4.tape,b4.output,zw h.nb.size b4.size,fun k hk _=>b4.block k hk⟩;obtain ⟨p,v,hk0⟩:=I.hk;obtain ⟨p3,v3,_,hk3,_⟩:=h.is;refine ⟨n.blk I.hx (A7 I.hx) I.n4,n.blk I.ho (A7 I.ho) I.n5,⟨p3,v3,(b4.block bs h.lt).trans hk3⟩,⟨I.hr.1,?_⟩,h.done b4 I.cl I.n2,I.n1,I.n2,I.n3,I.n4,I.n5⟩;rcases I.hr.2 with h2|⟨g,cap,cur,h1,h2,hb,h4⟩
 ·exact .inl h2
 ·exact .inr ⟨g,cap,cur,h1,h2,n.blk hb (A7 hb) (G9 hb hk0 zd),h4⟩
theorem a3D.gro (I:a3D w bx bo bs q wc vo L) (hg:a5O w.heap.size wc vo w2 v'):w2.heap[bo]?=some (.cells #[vo] 42 (0,0)):=KT.grow I.hr hg _ _ _ zd I.ho
theorem a3D.push (I:a3D w bx bo bs q wc vo L) (hg:a5O w.heap.size wc vo w2 v') (hr:Row 9 1 J5 w.heap.size w2 v' L') (u:Upd w2 bo (.cells #[v'] 42 (0,0)) w3):a3D w bx bo bs q w3 v' L':=by
 obtain ⟨p,v,hk⟩:=I.hk;have k:=KT.grow I.hr hg;exact ⟨(Tn.upd u).blk (k _ _ _ zd I.hx) I.n3,u.at_,⟨p,v,(Tn.upd u).blk (k _ _ _ zd hk) (wY I.n5)⟩,hr.updT u (I.gro hg) zd,u.cl (hg.toCl rfl I.cl) I.n1,I.n1,I.n2,I.n3,I.n4,I.n5⟩
end opti
theorem c6m:G.P.underlying 42=some (.slice 9):=by kernel_rfl
theorem c2H {w:World} {dst:Option Nat} {ty:Nat} {pos:String} {af:Array Edge} {gd:Option (Nat×Bool)} {env:C9} {K:Value→World→Prop} {x hi:Operand} (hx:ev env x = .slice none 0 0) (hh:ev env hi = .int .i64 0) (h:K (.slice none 0 0) w) :
  L6 G.P { dst,op:=.slice 42 x none (some hi) none,type:=ty,pos,after:=af,guard:=gd } env w K:=by
 obtain ⟨i,zv,hi2,hzv,hsz,hby,hzs⟩:=elStr.info;refine ⟨.inl ⟨.slice none 0 0,w,?_,h⟩⟩;show (do pure (Next.value (← Instr.slice 42 (ev env x) none (some (ev env hi)) none)):Sem Next).run G.P w=_
 rw [hx,hh];simp [Instr.slice,Instr.sliceBounds,Instr.sliceBound,asIntOf,Go.run_underlying c6m,sizeOf,typeInfo,hi2]
set_option maxHeartbeats 4000000 in
theorem b7T {q:E0} (hq:PL q) (w:World):Calls G.P 345 #[mcV q] w (fun r w'=>Cl w w'∧∃ v,r = .returned v∧Row 9 1 J5 w.heap.size w' v (a0C q)):=by
 obtain ⟨l0,l1,l2,l3,l4,l5,l6,l7⟩:=hq.l;refine zN func345 ?_;refine zG ?_;obtain ⟨W0,hW0⟩:∃ W0,W0=w.alloc (.cells (mcA q) 394):=⟨_,rfl⟩;have c0:Cl w W0:=by rw [hW0];exact Cl.alloc _ _
 have hx0:W0.heap[w.heap.size]?=some (.cells (mcA q) 394 (0,0)):=by rw [hW0];exact d8 _ _
 rw [← hW0];clear hW0;refine zR ?_;refine s7 (.slice none 0 0) zk ?_;have c1:=Cl.alloc W0 (.cells (Value.slice none 0 0).cells 42);have ho1:(W0.alloc (.cells (Value.slice none 0 0).cells 42)).heap[W0.heap.size]?=some (.cells #[.slice none 0 0] 42 (0,0)):=d8 _ _;have s1:=C0 W0 (.cells (Value.slice none 0 0).cells 42);generalize W0.alloc (.cells (Value.slice none 0 0).cells 42)=w1 at *;have hxl0:=A7 hx0;obtain ⟨bx,hbx⟩:∃ b,b=w.heap.size:=⟨_,rfl⟩;obtain ⟨bo,hbo⟩:∃ b,b=W0.heap.size:=⟨_,rfl⟩;rw [← hbx] at hx0 hxl0;rw [show (⟨w.heap.size,0,none⟩:Addr)=⟨bx,0,none⟩ by rw [hbx]]
 rw [← hbo] at ho1 hxl0 s1 ⊢;have hx1:=c1.blk hx0;refine zR ?_;refine b7 _ (D9 ho1 rfl rfl) (zR ?_);refine c2H rfl rfl (zR ?_);refine zT ho1 [.slice none 0 0] fun w2 u2=>?_;have ho2:w2.heap[bo]?=some (.cells #[.slice none 0 0] 42 (0,0)):=u2.at_;have hx2:=(Tn.upd u2).blk hx1 zo;have c2:Cl w w2:=u2.cl (c0.trans c1) zo;clear u2 c1 ho1 hx1 hx0;refine zR ?_;refine s7 _ b42 ?_;have c3:=c2.trans (Cl.alloc w2 (.cells (Value.agg #[.pointer none,.slice none 0 0]).cells 160));have nA:=d8 w2 (.cells (Value.agg #[.pointer none,.slice none 0 0]).cells 160);have hx3:=(Cl.alloc w2 (.cells (Value.agg #[.pointer none,.slice none 0 0]).cells 160)).blk hx2;have ho3:=(Cl.alloc w2 (.cells (Value.agg #[.pointer none,.slice none 0 0]).cells 160)).blk ho2;have sb:=A7 ho2;obtain ⟨bs,hbs⟩:∃ b,b=w2.heap.size:=⟨_,rfl⟩;rw [← hbs] at nA sb ⊢;generalize w2.alloc (.cells (Value.agg #[.pointer none,.slice none 0 0]).cells 160)=w3 at *;clear hx2 ho2 c2;have I:a3D w bx bo bs q w3 (.slice none 0 0) []:=⟨hx3,ho3,⟨_,_,nA⟩,Row.nil _ _,c3,zo,zo,zo,zo,zo⟩;clear nA hx3 ho3 c3;refine zR ?_;refine b7 (m7 q.pc) (D9 I.hx rfl rfl) (zR ?_);apply E.y8<;>intro h
 ·have hpc:q.pc≠[]:=fun e=>h (by rw [e];rfl)
  have eo:a0C q=[]++[q.pc++q.ca++q.fi++q.ra++q.pr++q.cs]++[q.pc++q.ro++q.ca++q.fi++q.ra++q.pr++q.cs]++[q.pc++q.fo++q.ca++q.fi++q.ra++q.pr++q.cs]:=by unfold a0C;rw [zM hpc];rfl
  rw [eo];clear eo h;obtain ⟨pk,vk,hk⟩:=I.hk;refine zR ?_;refine m8 (a4P hk) ?_;rintro r w2 ⟨rfl,u2⟩;refine ⟨_,rfl,?_⟩;have h:=Bw.fresh u2.at_;have I:=I.upd hk u2;have hx:=I.hx;have hxl:=A7 hx;have hxn:=I.n4;refine zR ?_;refine b7 (m7 q.pc) (D9 (h.nb.blk hx hxl hxn) rfl rfl) (zR ?_);refine m8 (r9 q.pc h (by simp only [zF,za];omega)) ?_
  rintro r w3 ⟨rfl,h⟩;refine ⟨_,rfl,zR ?_⟩;refine b7 (m7 q.ca) (D9 (h.nb.blk hx hxl hxn) rfl rfl) (zR ?_);refine m8 (r9 q.ca h (by simp only [zF,za];omega)) ?_
  rintro r w3 ⟨rfl,h⟩;refine ⟨_,rfl,zR ?_⟩;refine b7 (m7 q.fi) (D9 (h.nb.blk hx hxl hxn) rfl rfl) (zR ?_);refine m8 (r9 q.fi h (by simp only [zF,za];omega)) ?_
  rintro r w3 ⟨rfl,h⟩;refine ⟨_,rfl,zR ?_⟩;refine b7 (m7 q.ra) (D9 (h.nb.blk hx hxl hxn) rfl rfl) (zR ?_);refine m8 (r9 q.ra h (by simp only [zF,za];omega)) ?_
  rintro r w3 ⟨rfl,h⟩;refine ⟨_,rfl,zR ?_⟩;refine b7 (m7 q.pr) (D9 (h.nb.blk hx hxl hxn) rfl rfl) (zR ?_);refine m8 (r9 q.pr h (by simp only [zF,za];omega)) ?_
  rintro r w3 ⟨rfl,h⟩;refine ⟨_,rfl,zR ?_⟩;refine b7 (m7 q.cs) (D9 (h.nb.blk hx hxl hxn) rfl rfl) (zR ?_);refine m8 (r9 q.cs h (by simp only [zF,za];omega)) ?_
  rintro r w3 ⟨rfl,h⟩;refine ⟨_,rfl,?_⟩;have h:Bw bs w2 w3 (q.pc++q.ca++q.fi++q.ra++q.pr++q.cs):=by simpa using h
  generalize hTA:q.pc++q.ca++q.fi++q.ra++q.pr++q.cs=TA at *;have hneA:TA≠[]:=by rw [← hTA];simp [hpc]
  have hleA:TA.length≤1000000:=by rw [← hTA];simp only [zF];omega
  refine zG ?_;refine B0 (σ:=Value) [] 5 (fun _=>[]) (fun v w'=>(∃ a c,v = .slice a (([]:List Tx)++[TA]).length c)∧a3D w bx bo bs q w' v (([]:List Tx)++[TA])) zk ?_ (fun v j w7 I=>?_)
  ·refine zR ?_;refine H7.mk2 [0,1,2,4] (.cons 3 (.cons 5 (.cons 6 (.cons 7 (.cons 8 (.cons 9 .done .nil) .nil) .nil) .nil) .nil) (.cons 5 (.cons 3 (.cons 6 (.cons 7 (.cons 8 (.cons 9 .done .nil) .nil) .nil) .nil) (.cons 6 (.cons 3 (.cons 7 (.cons 8 (.cons 9 .done .nil) .nil) .nil) .nil) .nil)) .nil)) zk (zR ?_);have I2:=I;have I:=I.str (h.step (Cl.drew (Cl.refl _))) (Below.refl _ _);have h:=h.step (Cl.drew (Cl.refl _));refine And.intro ?aA (And.intro ?bA trivial)
   case' aA =>
    refine zR ?_;refine b7 _ (D9 I.ho rfl rfl) (zE ?_);refine m8 (Z0 h hneA hleA) ?_;rintro r w4 ⟨rfl,b4⟩;refine ⟨_,rfl,?_⟩;have I:=I2.str h b4;refine zE ?_;refine A8 elStr [m7 TA] (by rw [zb];rfl) (by simp [Value.cells,m7]) rfl zd zd ?_
    have hb5:Row 9 1 J5 w4.heap.size (w4.alloc (.cells (([m7 TA]:List Value).flatMap fun v=>v.cells.toList).toArray 9)) (.slice (some ⟨w4.heap.size,0,none⟩) 1 1) [TA]:=C7 o8 w4 [TA] (zU rfl) _ rfl;have I:=I.step (Cl.alloc w4 (.cells (([m7 TA]:List Value).flatMap fun v=>v.cells.toList).toArray 9));generalize w4.alloc (.cells (([m7 TA]:List Value).flatMap fun v=>v.cells.toList).toArray 9)=w5 at *
   case' bA =>
    refine zR ?_;refine m8 (Z0 h hneA hleA) ?_;rintro r w4 ⟨rfl,b4⟩;refine ⟨_,rfl,?_⟩;have I:=I2.str h b4;refine zR ?_;refine And.intro ?cA (And.intro ?dA trivial)
   case' cA =>
    refine zR ?_;refine b7 _ (D9 I.ho rfl rfl) (zE ?_);refine A8 elStr [m7 TA] (by rw [zb];rfl) (by simp [Value.cells,m7]) rfl zd zd ?_
    have hb5:Row 9 1 J5 w4.heap.size (w4.alloc (.cells (([m7 TA]:List Value).flatMap fun v=>v.cells.toList).toArray 9)) (.slice (some ⟨w4.heap.size,0,none⟩) 1 1) [TA]:=C7 o8 w4 [TA] (zU rfl) _ rfl;have I:=I.step (Cl.alloc w4 (.cells (([m7 TA]:List Value).flatMap fun v=>v.cells.toList).toArray 9));generalize w4.alloc (.cells (([m7 TA]:List Value).flatMap fun v=>v.cells.toList).toArray 9)=w5 at *
   case' dA =>
    refine zR ?_;refine A8 elStr [m7 TA] (by rw [zb];rfl) (by simp [Value.cells,m7]) rfl zd zd ?_
    have hb5:Row 9 1 J5 w4.heap.size (w4.alloc (.cells (([m7 TA]:List Value).flatMap fun v=>v.cells.toList).toArray 9)) (.slice (some ⟨w4.heap.size,0,none⟩) 1 1) [TA]:=C7 o8 w4 [TA] (zU rfl) _ rfl;have I:=I.step (Cl.alloc w4 (.cells (([m7 TA]:List Value).flatMap fun v=>v.cells.toList).toArray 9));generalize w4.alloc (.cells (([m7 TA]:List Value).flatMap fun v=>v.cells.toList).toArray 9)=w5 at *;refine zE ?_;refine b7 _ (D9 I.ho rfl rfl) ?_
   all_goals
    refine zE ?_;refine I5 elStr (v:=.slice none 0 0) (l:=([]:List Tx)) (news:=[TA]) rfl I.hr rfl hb5 o8 I6 (by simp<;>omega) zd I.cl.size fun v6 w6 hr6 hg=>?_
    obtain ⟨aA,cA,rfl,_⟩:=hr6.form;refine zE ?_;refine And.intro (zR ?_) trivial;refine K2 (I.gro hg) [.slice aA (([]:List Tx)++[TA]).length cA] rfl zk rfl (by intro v hv;simp at hv;subst hv;rfl) (zU rfl) fun w7 u7=>zR ?_
    exact ⟨.slice aA (([]:List Tx)++[TA]).length cA,trivial,⟨_,_,rfl⟩,I.push hg hr6 u7⟩
  obtain ⟨⟨aA,cA,rfl⟩,I⟩:=I;clear h hx hxl u2 hk hTA hneA hleA;obtain ⟨pk,vk,hk⟩:=I.hk;refine zR ?_;refine m8 (a4P hk) ?_;rintro r w2 ⟨rfl,u2⟩;refine ⟨_,rfl,?_⟩;have h:=Bw.fresh u2.at_;have I:=I.upd hk u2;have hx:=I.hx;have hxl:=A7 hx;have hxn:=I.n4;refine zR ?_;refine b7 (m7 q.pc) (D9 (h.nb.blk hx hxl hxn) rfl rfl) (zR ?_);refine m8 (r9 q.pc h (by simp only [zF,za];omega)) ?_
  rintro r w3 ⟨rfl,h⟩;refine ⟨_,rfl,zR ?_⟩;refine b7 (m7 q.ro) (D9 (h.nb.blk hx hxl hxn) rfl rfl) (zR ?_);refine m8 (r9 q.ro h (by simp only [zF,za];omega)) ?_
  rintro r w3 ⟨rfl,h⟩;refine ⟨_,rfl,zR ?_⟩;refine b7 (m7 q.ca) (D9 (h.nb.blk hx hxl hxn) rfl rfl) (zR ?_);refine m8 (r9 q.ca h (by simp only [zF,za];omega)) ?_
  rintro r w3 ⟨rfl,h⟩;refine ⟨_,rfl,zR ?_⟩;refine b7 (m7 q.fi) (D9 (h.nb.blk hx hxl hxn) rfl rfl) (zR ?_);refine m8 (r9 q.fi h (by simp only [zF,za];omega)) ?_
  rintro r w3 ⟨rfl,h⟩;refine ⟨_,rfl,zR ?_⟩;refine b7 (m7 q.ra) (D9 (h.nb.blk hx hxl hxn) rfl rfl) (zR ?_);refine m8 (r9 q.ra h (by simp only [zF,za];omega)) ?_
  rintro r w3 ⟨rfl,h⟩;refine ⟨_,rfl,zR ?_⟩;refine b7 (m7 q.pr) (D9 (h.nb.blk hx hxl hxn) rfl rfl) (zR ?_);refine m8 (r9 q.pr h (by simp only [zF,za];omega)) ?_
  rintro r w3 ⟨rfl,h⟩;refine ⟨_,rfl,zR ?_⟩;refine b7 (m7 q.cs) (D9 (h.nb.blk hx hxl hxn) rfl rfl) (zR ?_);refine m8 (r9 q.cs h (by simp only [zF,za];omega)) ?_
  rintro r w3 ⟨rfl,h⟩;refine ⟨_,rfl,?_⟩;have h:Bw bs w2 w3 (q.pc++q.ro++q.ca++q.fi++q.ra++q.pr++q.cs):=by simpa using h
  generalize hTB:q.pc++q.ro++q.ca++q.fi++q.ra++q.pr++q.cs=TB at *;have hneB:TB≠[]:=by rw [← hTB];simp [hpc]
  have hleB:TB.length≤1000000:=by rw [← hTB];simp only [zF];omega
  refine zG ?_;refine B0 (σ:=Value) [] 5 (fun _=>[]) (fun v w'=>(∃ a c,v = .slice a (([]++[TA])++[TB]).length c)∧a3D w bx bo bs q w' v (([]++[TA])++[TB])) zk ?_ (fun v j w7 I=>?_)
  ·refine zR ?_;refine H7.mk2 [0,1,2,4] (.cons 3 (.cons 5 (.cons 6 (.cons 7 (.cons 8 (.cons 9 .done .nil) .nil) .nil) .nil) .nil) (.cons 5 (.cons 3 (.cons 6 (.cons 7 (.cons 8 (.cons 9 .done .nil) .nil) .nil) .nil) (.cons 6 (.cons 3 (.cons 7 (.cons 8 (.cons 9 .done .nil) .nil) .nil) .nil) .nil)) .nil)) zk (zR ?_);have I2:=I;have I:=I.str (h.step (Cl.drew (Cl.refl _))) (Below.refl _ _);have h:=h.step (Cl.drew (Cl.refl _));refine And.intro ?aB (And.intro ?bB trivial)
   case' aB =>
    refine zR ?_;refine b7 _ (D9 I.ho rfl rfl) (zE ?_);refine m8 (Z0 h hneB hleB) ?_;rintro r w4 ⟨rfl,b4⟩;refine ⟨_,rfl,?_⟩;have I:=I2.str h b4;refine zE ?_;refine A8 elStr [m7 TB] (by rw [zb];rfl) (by simp [Value.cells,m7]) rfl zd zd ?_
    have hb5:Row 9 1 J5 w4.heap.size (w4.alloc (.cells (([m7 TB]:List Value).flatMap fun v=>v.cells.toList).toArray 9)) (.slice (some ⟨w4.heap.size,0,none⟩) 1 1) [TB]:=C7 o8 w4 [TB] (zU rfl) _ rfl;have I:=I.step (Cl.alloc w4 (.cells (([m7 TB]:List Value).flatMap fun v=>v.cells.toList).toArray 9));generalize w4.alloc (.cells (([m7 TB]:List Value).flatMap fun v=>v.cells.toList).toArray 9)=w5 at *
   case' bB =>
    refine zR ?_;refine m8 (Z0 h hneB hleB) ?_;rintro r w4 ⟨rfl,b4⟩;refine ⟨_,rfl,?_⟩;have I:=I2.str h b4;refine zR ?_;refine And.intro ?cB (And.intro ?dB trivial)
   case' cB =>
    refine zR ?_;refine b7 _ (D9 I.ho rfl rfl) (zE ?_);refine A8 elStr [m7 TB] (by rw [zb];rfl) (by simp [Value.cells,m7]) rfl zd zd ?_
    have hb5:Row 9 1 J5 w4.heap.size (w4.alloc (.cells (([m7 TB]:List Value).flatMap fun v=>v.cells.toList).toArray 9)) (.slice (some ⟨w4.heap.size,0,none⟩) 1 1) [TB]:=C7 o8 w4 [TB] (zU rfl) _ rfl;have I:=I.step (Cl.alloc w4 (.cells (([m7 TB]:List Value).flatMap fun v=>v.cells.toList).toArray 9));generalize w4.alloc (.cells (([m7 TB]:List Value).flatMap fun v=>v.cells.toList).toArray 9)=w5 at *
   case' dB =>
    refine zR ?_;refine A8 elStr [m7 TB] (by rw [zb];rfl) (by simp [Value.cells,m7]) rfl zd zd ?_
    have hb5:Row 9 1 J5 w4.heap.size (w4.alloc (.cells (([m7 TB]:List Value).flatMap fun v=>v.cells.toList).toArray 9)) (.slice (some ⟨w4.heap.size,0,none⟩) 1 1) [TB]:=C7 o8 w4 [TB] (zU rfl) _ rfl;have I:=I.step (Cl.alloc w4 (.cells (([m7 TB]:List Value).flatMap fun v=>v.cells.toList).toArray 9));generalize w4.alloc (.cells (([m7 TB]:List Value).flatMap fun v=>v.cells.toList).toArray 9)=w5 at *;refine zE ?_;refine b7 _ (D9 I.ho rfl rfl) ?_
   all_goals
    refine zE ?_;refine I5 elStr (v:=.slice aA ([]++[TA]).length cA) (l:=([]++[TA])) (news:=[TB]) rfl I.hr rfl hb5 o8 I6 (by simp<;>omega) zd I.cl.size fun v6 w6 hr6 hg=>?_
    obtain ⟨aB,cB,rfl,_⟩:=hr6.form;refine zE ?_;refine And.intro (zR ?_) trivial;refine K2 (I.gro hg) [.slice aB (([]++[TA])++[TB]).length cB] rfl zk rfl (by intro v hv;simp at hv;subst hv;rfl) (zU rfl) fun w7 u7=>zR ?_
    exact ⟨.slice aB (([]++[TA])++[TB]).length cB,trivial,⟨_,_,rfl⟩,I.push hg hr6 u7⟩
  obtain ⟨⟨aB,cB,rfl⟩,I⟩:=I;clear h hx hxl u2 hk hTB hneB hleB;obtain ⟨pk,vk,hk⟩:=I.hk;refine zR ?_;refine m8 (a4P hk) ?_;rintro r w2 ⟨rfl,u2⟩;refine ⟨_,rfl,?_⟩;have h:=Bw.fresh u2.at_;have I:=I.upd hk u2;have hx:=I.hx;have hxl:=A7 hx;have hxn:=I.n4;refine zR ?_;refine b7 (m7 q.pc) (D9 (h.nb.blk hx hxl hxn) rfl rfl) (zR ?_);refine m8 (r9 q.pc h (by simp only [zF,za];omega)) ?_
  rintro r w3 ⟨rfl,h⟩;refine ⟨_,rfl,zR ?_⟩;refine b7 (m7 q.fo) (D9 (h.nb.blk hx hxl hxn) rfl rfl) (zR ?_);refine m8 (r9 q.fo h (by simp only [zF,za];omega)) ?_
  rintro r w3 ⟨rfl,h⟩;refine ⟨_,rfl,zR ?_⟩;refine b7 (m7 q.ca) (D9 (h.nb.blk hx hxl hxn) rfl rfl) (zR ?_);refine m8 (r9 q.ca h (by simp only [zF,za];omega)) ?_
  rintro r w3 ⟨rfl,h⟩;refine ⟨_,rfl,zR ?_⟩;refine b7 (m7 q.fi) (D9 (h.nb.blk hx hxl hxn) rfl rfl) (zR ?_);refine m8 (r9 q.fi h (by simp only [zF,za];omega)) ?_
  rintro r w3 ⟨rfl,h⟩;refine ⟨_,rfl,zR ?_⟩;refine b7 (m7 q.ra) (D9 (h.nb.blk hx hxl hxn) rfl rfl) (zR ?_);refine m8 (r9 q.ra h (by simp only [zF,za];omega)) ?_
  rintro r w3 ⟨rfl,h⟩;refine ⟨_,rfl,zR ?_⟩;refine b7 (m7 q.pr) (D9 (h.nb.blk hx hxl hxn) rfl rfl) (zR ?_);refine m8 (r9 q.pr h (by simp only [zF,za];omega)) ?_
  rintro r w3 ⟨rfl,h⟩;refine ⟨_,rfl,zR ?_⟩;refine b7 (m7 q.cs) (D9 (h.nb.blk hx hxl hxn) rfl rfl) (zR ?_);refine m8 (r9 q.cs h (by simp only [zF,za];omega)) ?_
  rintro r w3 ⟨rfl,h⟩;refine ⟨_,rfl,?_⟩;have h:Bw bs w2 w3 (q.pc++q.fo++q.ca++q.fi++q.ra++q.pr++q.cs):=by simpa using h
  generalize hTC:q.pc++q.fo++q.ca++q.fi++q.ra++q.pr++q.cs=TC at *;have hneC:TC≠[]:=by rw [← hTC];simp [hpc]
  have hleC:TC.length≤1000000:=by rw [← hTC];simp only [zF];omega
  refine zR ?_;refine H7.mk2 [0,1,2,4] (.cons 3 (.cons 5 (.cons 6 (.cons 7 (.cons 8 (.cons 9 .done .nil) .nil) .nil) .nil) .nil) (.cons 5 (.cons 3 (.cons 6 (.cons 7 (.cons 8 (.cons 9 .done .nil) .nil) .nil) .nil) (.cons 6 (.cons 3 (.cons 7 (.cons 8 (.cons 9 .done .nil) .nil) .nil) .nil) .nil)) .nil)) zk (zR ?_);have I2:=I;have I:=I.str (h.step (Cl.drew (Cl.refl _))) (Below.refl _ _);have h:=h.step (Cl.drew (Cl.refl _));refine And.intro ?aC (And.intro ?bC trivial)
  case' aC =>
   refine zR ?_;refine b7 _ (D9 I.ho rfl rfl) (zE ?_);refine m8 (Z0 h hneC hleC) ?_;rintro r w4 ⟨rfl,b4⟩;refine ⟨_,rfl,?_⟩;have I:=I2.str h b4;refine zE ?_;refine A8 elStr [m7 TC] (by rw [zb];rfl) (by simp [Value.cells,m7]) rfl zd zd ?_
   have hb5:Row 9 1 J5 w4.heap.size (w4.alloc (.cells (([m7 TC]:List Value).flatMap fun v=>v.cells.toList).toArray 9)) (.slice (some ⟨w4.heap.size,0,none⟩) 1 1) [TC]:=C7 o8 w4 [TC] (zU rfl) _ rfl;have I:=I.step (Cl.alloc w4 (.cells (([m7 TC]:List Value).flatMap fun v=>v.cells.toList).toArray 9));generalize w4.alloc (.cells (([m7 TC]:List Value).flatMap fun v=>v.cells.toList).toArray 9)=w5 at *
  case' bC =>
   refine zR ?_;refine m8 (Z0 h hneC hleC) ?_;rintro r w4 ⟨rfl,b4⟩;refine ⟨_,rfl,?_⟩;have I:=I2.str h b4;refine zR ?_;refine And.intro ?cC (And.intro ?dC trivial)
  case' cC =>
   refine zR ?_;refine b7 _ (D9 I.ho rfl rfl) (zE ?_);refine A8 elStr [m7 TC] (by rw [zb];rfl) (by simp [Value.cells,m7]) rfl zd zd ?_
   have hb5:Row 9 1 J5 w4.heap.size (w4.alloc (.cells (([m7 TC]:List Value).flatMap fun v=>v.cells.toList).toArray 9)) (.slice (some ⟨w4.heap.size,0,none⟩) 1 1) [TC]:=C7 o8 w4 [TC] (zU rfl) _ rfl;have I:=I.step (Cl.alloc w4 (.cells (([m7 TC]:List Value).flatMap fun v=>v.cells.toList).toArray 9));generalize w4.alloc (.cells (([m7 TC]:List Value).flatMap fun v=>v.cells.toList).toArray 9)=w5 at *
  case' dC =>
   refine zR ?_;refine A8 elStr [m7 TC] (by rw [zb];rfl) (by simp [Value.cells,m7]) rfl zd zd ?_
   have hb5:Row 9 1 J5 w4.heap.size (w4.alloc (.cells (([m7 TC]:List Value).flatMap fun v=>v.cells.toList).toArray 9)) (.slice (some ⟨w4.heap.size,0,none⟩) 1 1) [TC]:=C7 o8 w4 [TC] (zU rfl) _ rfl;have I:=I.step (Cl.alloc w4 (.cells (([m7 TC]:List Value).flatMap fun v=>v.cells.toList).toArray 9));generalize w4.alloc (.cells (([m7 TC]:List Value).flatMap fun v=>v.cells.toList).toArray 9)=w5 at *;refine zE ?_;refine b7 _ (D9 I.ho rfl rfl) ?_
  all_goals
   refine zE ?_;refine I5 elStr (v:=.slice aB ([]++[TA]++[TB]).length cB) (l:=([]++[TA]++[TB])) (news:=[TC]) rfl I.hr rfl hb5 o8 I6 (by simp<;>omega) zd I.cl.size fun v6 w6 hr6 hg=>?_
   obtain ⟨aC,cC,rfl,_⟩:=hr6.form;refine zE ?_;refine And.intro (zR ?_) trivial;refine K2 (I.gro hg) [.slice aC (([]++[TA]++[TB])++[TC]).length cC] rfl zk rfl (by intro v hv;simp at hv;subst hv;rfl) (zU rfl) fun w7 u7=>zR ?_
   have I:=I.push hg hr6 u7;refine b7 _ (D9 I.ho rfl rfl) (zR ?_);exact ⟨I.cl,_,rfl,I.hr⟩
 ·have hpc:q.pc=[]:=by rw [a06] at h;exact Q0.1 h
  obtain ⟨L1,hL1⟩:∃ L1:List Tx,L1=if q.ca≠[] then [q.fo++q.ca++q.fi++q.ra++q.pr] else []:=⟨_,rfl⟩
  have eo:a0C q=L1++(if q.fo≠[]∧q.ro≠[] then [q.ca++q.fi++q.ra++q.pr] else []):=by unfold a0C;rw [zJ (fun e=>e hpc),hL1]
  rw [eo];clear eo h;refine Cx.mk ?_;refine Nx.go ?_;refine B0 (σ:=Value) [] 5 (fun _=>[]) (fun v w'=>(∃ a c,v = .slice a L1.length c)∧a3D w bx bo bs q w' v L1) zk ?_ (fun v j w8 I=>?_)
  ·refine zR ?_;refine b7 (m7 q.ca) (D9 I.hx rfl rfl) (zR ?_);apply E.y8<;>intro h
   ·have hca:q.ca≠[]:=fun e=>h (by rw [e];rfl)
    rw [zM hca] at hL1;subst hL1;clear h;obtain ⟨pk,vk,hk⟩:=I.hk;refine zR ?_;refine m8 (a4P hk) ?_;rintro r w2 ⟨rfl,u2⟩;refine ⟨_,rfl,?_⟩;have h:=Bw.fresh u2.at_;have I:=I.upd hk u2;have hx:=I.hx;have hxl:=A7 hx;have hxn:=I.n4;refine zR ?_;refine b7 (m7 q.fo) (D9 (h.nb.blk hx hxl hxn) rfl rfl) (zR ?_);refine m8 (r9 q.fo h (by simp only [zF,za];omega)) ?_
    rintro r w3 ⟨rfl,h⟩;refine ⟨_,rfl,zR ?_⟩;refine b7 (m7 q.ca) (D9 (h.nb.blk hx hxl hxn) rfl rfl) (zR ?_);refine m8 (r9 q.ca h (by simp only [zF,za];omega)) ?_
    rintro r w3 ⟨rfl,h⟩;refine ⟨_,rfl,zR ?_⟩;refine b7 (m7 q.fi) (D9 (h.nb.blk hx hxl hxn) rfl rfl) (zR ?_);refine m8 (r9 q.fi h (by simp only [zF,za];omega)) ?_
    rintro r w3 ⟨rfl,h⟩;refine ⟨_,rfl,zR ?_⟩;refine b7 (m7 q.ra) (D9 (h.nb.blk hx hxl hxn) rfl rfl) (zR ?_);refine m8 (r9 q.ra h (by simp only [zF,za];omega)) ?_
    rintro r w3 ⟨rfl,h⟩;refine ⟨_,rfl,zR ?_⟩;refine b7 (m7 q.pr) (D9 (h.nb.blk hx hxl hxn) rfl rfl) (zR ?_);refine m8 (r9 q.pr h (by simp only [zF,za];omega)) ?_
    rintro r w3 ⟨rfl,h⟩;refine ⟨_,rfl,?_⟩;have h:Bw bs w2 w3 (q.fo++q.ca++q.fi++q.ra++q.pr):=by simpa using h
    generalize hTD:q.fo++q.ca++q.fi++q.ra++q.pr=TD at *;have hneD:TD≠[]:=by rw [← hTD];simp [hca]
    have hleD:TD.length≤1000000:=by rw [← hTD];simp only [zF];omega
    refine zR ?_;refine H7.mk2 [0,1,2,4] (.cons 3 (.cons 5 (.cons 6 (.cons 7 (.cons 8 (.cons 9 .done .nil) .nil) .nil) .nil) .nil) (.cons 5 (.cons 3 (.cons 6 (.cons 7 (.cons 8 (.cons 9 .done .nil) .nil) .nil) .nil) (.cons 6 (.cons 3 (.cons 7 (.cons 8 (.cons 9 .done .nil) .nil) .nil) .nil) .nil)) .nil)) zk (zR ?_);have I2:=I;have I:=I.str (h.step (Cl.drew (Cl.refl _))) (Below.refl _ _);have h:=h.step (Cl.drew (Cl.refl _));refine And.intro ?aD (And.intro ?bD trivial)
    case' aD =>
     refine zR ?_;refine b7 _ (D9 I.ho rfl rfl) (zE ?_);refine m8 (Z0 h hneD hleD) ?_;rintro r w4 ⟨rfl,b4⟩;refine ⟨_,rfl,?_⟩;have I:=I2.str h b4;refine zE ?_;refine A8 elStr [m7 TD] (by rw [zb];rfl) (by simp [Value.cells,m7]) rfl zd zd ?_
     have hb5:Row 9 1 J5 w4.heap.size (w4.alloc (.cells (([m7 TD]:List Value).flatMap fun v=>v.cells.toList).toArray 9)) (.slice (some ⟨w4.heap.size,0,none⟩) 1 1) [TD]:=C7 o8 w4 [TD] (zU rfl) _ rfl;have I:=I.step (Cl.alloc w4 (.cells (([m7 TD]:List Value).flatMap fun v=>v.cells.toList).toArray 9));generalize w4.alloc (.cells (([m7 TD]:List Value).flatMap fun v=>v.cells.toList).toArray 9)=w5 at *
    case' bD =>
     refine zR ?_;refine m8 (Z0 h hneD hleD) ?_;rintro r w4 ⟨rfl,b4⟩;refine ⟨_,rfl,?_⟩;have I:=I2.str h b4;refine zR ?_;refine And.intro ?cD (And.intro ?dD trivial)
    case' cD =>
     refine zR ?_;refine b7 _ (D9 I.ho rfl rfl) (zE ?_);refine A8 elStr [m7 TD] (by rw [zb];rfl) (by simp [Value.cells,m7]) rfl zd zd ?_
     have hb5:Row 9 1 J5 w4.heap.size (w4.alloc (.cells (([m7 TD]:List Value).flatMap fun v=>v.cells.toList).toArray 9)) (.slice (some ⟨w4.heap.size,0,none⟩) 1 1) [TD]:=C7 o8 w4 [TD] (zU rfl) _ rfl;have I:=I.step (Cl.alloc w4 (.cells (([m7 TD]:List Value).flatMap fun v=>v.cells.toList).toArray 9));generalize w4.alloc (.cells (([m7 TD]:List Value).flatMap fun v=>v.cells.toList).toArray 9)=w5 at *
    case' dD =>
     refine zR ?_;refine A8 elStr [m7 TD] (by rw [zb];rfl) (by simp [Value.cells,m7]) rfl zd zd ?_
     have hb5:Row 9 1 J5 w4.heap.size (w4.alloc (.cells (([m7 TD]:List Value).flatMap fun v=>v.cells.toList).toArray 9)) (.slice (some ⟨w4.heap.size,0,none⟩) 1 1) [TD]:=C7 o8 w4 [TD] (zU rfl) _ rfl;have I:=I.step (Cl.alloc w4 (.cells (([m7 TD]:List Value).flatMap fun v=>v.cells.toList).toArray 9));generalize w4.alloc (.cells (([m7 TD]:List Value).flatMap fun v=>v.cells.toList).toArray 9)=w5 at *;refine zE ?_;refine b7 _ (D9 I.ho rfl rfl) ?_
    all_goals
     refine zE ?_;refine I5 elStr (v:=.slice none 0 0) (l:=([]:List Tx)) (news:=[TD]) rfl I.hr rfl hb5 o8 I6 (by simp<;>omega) zd I.cl.size fun v6 w6 hr6 hg=>?_
     obtain ⟨aD,cD,rfl,_⟩:=hr6.form;refine zE ?_;refine And.intro (zR ?_) trivial;refine K2 (I.gro hg) [.slice aD (([]:List Tx)++[TD]).length cD] rfl zk rfl (by intro v hv;simp at hv;subst hv;rfl) (zU rfl) fun w7 u7=>zR ?_
     exact ⟨.slice aD ([]++[TD]).length cD,trivial,⟨aD,cD,rfl⟩,I.push hg hr6 u7⟩
   ·have hca:q.ca=[]:=by rw [a06] at h;exact Q0.1 h
    rw [zJ (fun e=>e hca)] at hL1;subst hL1;refine zR ?_;exact ⟨.slice none 0 0,trivial,⟨_,_,rfl⟩,I⟩
  obtain ⟨⟨aE,cE,rfl⟩,I⟩:=I;have hl1:L1.length≤1:=by rw [hL1];split<;>simp
  clear hL1;refine zR ?_;refine b7 (m7 q.fo) (D9 I.hx rfl rfl) (zR ?_);apply E.y8<;>intro h
  ·have hfo:q.fo≠[]:=fun e=>h (by rw [e];rfl)
   have hfi:=hq.fi hfo;clear h;refine zR ?_;refine b7 (m7 q.ro) (D9 I.hx rfl rfl) (zR ?_);apply E.y8<;>intro h
   ·have hro:q.ro≠[]:=fun e=>h (by rw [e];rfl)
    clear h;rw [zM ⟨hfo,hro⟩];obtain ⟨pk,vk,hk⟩:=I.hk;refine zR ?_;refine m8 (a4P hk) ?_;rintro r w2 ⟨rfl,u2⟩;refine ⟨_,rfl,?_⟩;have h:=Bw.fresh u2.at_;have I:=I.upd hk u2;have hx:=I.hx;have hxl:=A7 hx;have hxn:=I.n4;refine zR ?_;refine b7 (m7 q.ca) (D9 (h.nb.blk hx hxl hxn) rfl rfl) (zR ?_);refine m8 (r9 q.ca h (by simp only [zF,za];omega)) ?_
    rintro r w3 ⟨rfl,h⟩;refine ⟨_,rfl,zR ?_⟩;refine b7 (m7 q.fi) (D9 (h.nb.blk hx hxl hxn) rfl rfl) (zR ?_);refine m8 (r9 q.fi h (by simp only [zF,za];omega)) ?_
    rintro r w3 ⟨rfl,h⟩;refine ⟨_,rfl,zR ?_⟩;refine b7 (m7 q.ra) (D9 (h.nb.blk hx hxl hxn) rfl rfl) (zR ?_);refine m8 (r9 q.ra h (by simp only [zF,za];omega)) ?_
    rintro r w3 ⟨rfl,h⟩;refine ⟨_,rfl,zR ?_⟩;refine b7 (m7 q.pr) (D9 (h.nb.blk hx hxl hxn) rfl rfl) (zR ?_);refine m8 (r9 q.pr h (by simp only [zF,za];omega)) ?_
    rintro r w3 ⟨rfl,h⟩;refine ⟨_,rfl,?_⟩;have h:Bw bs w2 w3 (q.ca++q.fi++q.ra++q.pr):=by simpa using h
    generalize hTF:q.ca++q.fi++q.ra++q.pr=TF at *;have hneF:TF≠[]:=by rw [← hTF];simp [hfi]
    have hleF:TF.length≤1000000:=by rw [← hTF];simp only [zF];omega
    refine zR ?_;refine H7.mk2 [0,1,2,4] (.cons 3 (.cons 5 (.cons 6 (.cons 7 (.cons 8 (.cons 9 .done .nil) .nil) .nil) .nil) .nil) (.cons 5 (.cons 3 (.cons 6 (.cons 7 (.cons 8 (.cons 9 .done .nil) .nil) .nil) .nil) (.cons 6 (.cons 3 (.cons 7 (.cons 8 (.cons 9 .done .nil) .nil) .nil) .nil) .nil)) .nil)) zk (zR ?_);have I2:=I;have I:=I.str (h.step (Cl.drew (Cl.refl _))) (Below.refl _ _);have h:=h.step (Cl.drew (Cl.refl _));refine And.intro ?aF (And.intro ?bF trivial)
    case' aF =>
     refine zR ?_;refine b7 _ (D9 I.ho rfl rfl) (zE ?_);refine m8 (Z0 h hneF hleF) ?_;rintro r w4 ⟨rfl,b4⟩;refine ⟨_,rfl,?_⟩;have I:=I2.str h b4;refine zE ?_;refine A8 elStr [m7 TF] (by rw [zb];rfl) (by simp [Value.cells,m7]) rfl zd zd ?_
     have hb5:Row 9 1 J5 w4.heap.size (w4.alloc (.cells (([m7 TF]:List Value).flatMap fun v=>v.cells.toList).toArray 9)) (.slice (some ⟨w4.heap.size,0,none⟩) 1 1) [TF]:=C7 o8 w4 [TF] (zU rfl) _ rfl;have I:=I.step (Cl.alloc w4 (.cells (([m7 TF]:List Value).flatMap fun v=>v.cells.toList).toArray 9));generalize w4.alloc (.cells (([m7 TF]:List Value).flatMap fun v=>v.cells.toList).toArray 9)=w5 at *
    case' bF =>
     refine zR ?_;refine m8 (Z0 h hneF hleF) ?_;rintro r w4 ⟨rfl,b4⟩;refine ⟨_,rfl,?_⟩;have I:=I2.str h b4;refine zR ?_;refine And.intro ?cF (And.intro ?dF trivial)
    case' cF =>
     refine zR ?_;refine b7 _ (D9 I.ho rfl rfl) (zE ?_);refine A8 elStr [m7 TF] (by rw [zb];rfl) (by simp [Value.cells,m7]) rfl zd zd ?_
     have hb5:Row 9 1 J5 w4.heap.size (w4.alloc (.cells (([m7 TF]:List Value).flatMap fun v=>v.cells.toList).toArray 9)) (.slice (some ⟨w4.heap.size,0,none⟩) 1 1) [TF]:=C7 o8 w4 [TF] (zU rfl) _ rfl;have I:=I.step (Cl.alloc w4 (.cells (([m7 TF]:List Value).flatMap fun v=>v.cells.toList).toArray 9));generalize w4.alloc (.cells (([m7 TF]:List Value).flatMap fun v=>v.cells.toList).toArray 9)=w5 at *
    case' dF =>
     refine zR ?_;refine A8 elStr [m7 TF] (by rw [zb];rfl) (by simp [Value.cells,m7]) rfl zd zd ?_
     have hb5:Row 9 1 J5 w4.heap.size (w4.alloc (.cells (([m7 TF]:List Value).flatMap fun v=>v.cells.toList).toArray 9)) (.slice (some ⟨w4.heap.size,0,none⟩) 1 1) [TF]:=C7 o8 w4 [TF] (zU rfl) _ rfl;have I:=I.step (Cl.alloc w4 (.cells (([m7 TF]:List Value).flatMap fun v=>v.cells.toList).toArray 9));generalize w4.alloc (.cells (([m7 TF]:List Value).flatMap fun v=>v.cells.toList).toArray 9)=w5 at *;refine zE ?_;refine b7 _ (D9 I.ho rfl rfl) ?_
    all_goals
     refine zE ?_;refine I5 elStr (v:=.slice aE L1.length cE) (l:=L1) (news:=[TF]) rfl I.hr rfl hb5 o8 I6 (by simp<;>omega) zd I.cl.size fun v6 w6 hr6 hg=>?_
     obtain ⟨aF,cF,rfl,_⟩:=hr6.form;refine zE ?_;refine And.intro (zR ?_) trivial;refine K2 (I.gro hg) [.slice aF (L1++[TF]).length cF] rfl zk rfl (by intro v hv;simp at hv;subst hv;rfl) (zU rfl) fun w7 u7=>zR ?_
     have I:=I.push hg hr6 u7;refine b7 _ (D9 I.ho rfl rfl) (zR ?_);exact ⟨I.cl,_,rfl,I.hr⟩
   ·have hro:q.ro=[]:=by rw [a06] at h;exact Q0.1 h
    rw [zJ (fun e=>e.2 hro),zn];refine zR ?_;refine b7 _ (D9 I.ho rfl rfl) (zR ?_);exact ⟨I.cl,_,rfl,I.hr⟩
  ·have hfo:q.fo=[]:=by rw [a06] at h;exact Q0.1 h
   rw [zJ (fun e=>e.1 hfo),zn];refine zR ?_;refine b7 _ (D9 I.ho rfl rfl) (zR ?_);exact ⟨I.cl,_,rfl,I.hr⟩
def c6n (P:Program) (t ty u:Nat) (R:Ending→World→Prop):Exit→C9→World→Prop
 | .normal,e,w=>(match e t with
  | .pointer (some a)=>K8 P w ty a (fun v=>R (.returned (.tuple #[v,e u])) w)
  | _=>False)
 | .ret,e,w=>(match e t with
  | .pointer (some a)=>K8 P w ty a (fun v=>R (.returned (.tuple #[v,e u])) w)
  | _=>False)
 | _,_,_=>False
theorem b68 {G:Prg} {f:Nat} {fn:Func} {c:Code} {args:List Value} {w:World} {R:Ending→World→Prop} (t ty u:Nat)
  (hf:G.P.funcs[f]?=some fn) (hb:fn.body=some c) (hn:args.length≤fn.ntmps) (hk:U3 fn.ntmps c=true) (he:fn.results=#[.cell t ty,.tmp u])
  (h:W G fn.ntmps c (a7n args) w (c6n G.P t ty u R)):Calls G.P f args.toArray w R:=by
 refine calls_of_wp hf hb ?_;have hsz:(args.toArray++Array.replicate (fn.ntmps-args.toArray.size) undef).size=fn.ntmps:=by simp;omega
 refine wp_mono (h hk { tmps:=args.toArray++Array.replicate (fn.ntmps-args.toArray.size) undef,defers:=[] } ?_ hsz rfl) ?_
 ·funext t;unfold z6 a7n;rw [b1m];simp only [xF,xA];by_cases ht:t<args.length
  ·rw [Array.getElem?_append_left (by simpa using ht)];simp
  ·rw [Array.getElem?_append_right (by simpa using ht)]
   rw [xS zo];simp only [Option.getD_none];cases hx:(Array.replicate (fn.ntmps-args.toArray.size) undef)[t-args.toArray.size]? with
   | none=>rfl
   | some v =>
    obtain ⟨h1,h2⟩:=yn.1 hx;simp at h2;simp [h2]
 ·rintro x a w' ⟨hs,hd,hq⟩;have key:(match z6 a t with | .pointer (some ad)=>K8 G.P w' ty ad (fun v=>R (.returned (.tuple #[v,z6 a u])) w')|_=>False)→∃ v,(results fn a.tmps).run G.P w' = .ok v w'∧R (.returned v) w':=by
   intro hr;split at hr
   ·rename_i ad had;obtain ⟨v,h1,h2⟩:=hr.ex;refine ⟨_,?_,h2⟩;have had':a.tmps[t]?.getD undef = .pointer (some ad):=by rw [← xF];exact had
    unfold m9 Instr.loadAt at h1;simp [Instr.sureAddr] at h1;simp [results,he,had',asAddr,h1,z6,xF]
   ·exact hr.elim
  cases x<;>first
   | exact ⟨hd,key hq⟩
   | exact hq.elim
theorem a8s {z:Value} (hz:z.cells.size=8) (q:E0):J3 z.cells 0 (mcA q).toList=mcA q:=by
 rw [B5 _ _ (by rw [hz];rfl)]
theorem a9K (q:E0):∀ v∈(mcA q).toList,v.oneCell'=true:=by
 intro v hv;simp only [mcA,yV,zy,xH] at hv;rcases hv with rfl|rfl|rfl|rfl|rfl|rfl|rfl|rfl<;>rfl
theorem b7U {w:World} {b:Nat} {u:Nat} {fz:Nat×Nat} {q:E0} (hb:w.heap[b]?=some (.cells (mcA q) u fz)):m9 G.P w 394 ⟨b,0,none⟩ (mcV q):=by
 have:=ldA (t:=394) (o:=0) (z:=8) hb rfl (by simp [mcA])
 rw [show (mcA q).extract 0 (0+8)=mcA q by simp [mcA]] at this
 exact this
set_option maxHeartbeats 1000000 in
theorem b69 {s:Tx} (hs:s.length≤1000) {q:E0} (hq:zzP s=some q) (w:World):Calls G.P 343 #[m7 s] w (N0 (.tuple #[mcV q,.nilIface]) w):=by
 have hz:=b65 s hs;have hL:=a9I hq;obtain ⟨z,hz1,hz8⟩:=zMc;refine b68 (G:=G) 2 394 3 func343 rfl (by simp [ntmps343]) zk rfl ?_
 refine a4R (zR ?_);refine s7 z hz1 ?_;have cA:=Cl.alloc w (.cells z.cells 394);have nA:=d8 w (.cells z.cells 394);generalize w.alloc (.cells z.cells 394)=w1 at *;refine zR ?_;refine m8 (hz w1) ?_;rintro r w2 ⟨c2,v,rfl,hr⟩;rw [hL] at hr;obtain ⟨a,k,rfl,ha⟩:=hr.form;obtain ⟨g,rfl⟩:=ha (show 0<10 by decide)
 refine ⟨_,rfl,?_⟩;have ld:∀ (i:Nat) (hi:i<10) w',Cl w2 w'→m9 G.P w' 9 ⟨g,i,none⟩ (m7 (a13 s q)[i]):=fun i hi w' c=>P6 (hr.step c) o8 i 0 hi zd rfl zo rfl;refine zR ?_;refine zK 25 ?_;refine zR ?_;refine l9 (m7 q.pc) (fun w' hw=>ld 1 zd w' hw) (zR ?_);refine l9 (m7 q.fo) (fun w' hw=>ld 2 zd w' hw) (zR ?_);refine l9 (m7 q.ro) (fun w' hw=>ld 3 zd w' hw) (zR ?_);refine l9 (m7 q.ca) (fun w' hw=>ld 4 zd w' hw) (zR ?_);refine l9 (m7 q.fi) (fun w' hw=>ld 5 zd w' hw) (zR ?_);refine l9 (m7 q.ra) (fun w' hw=>ld 6 zd w' hw) (zR ?_);refine l9 (m7 q.pr) (fun w' hw=>ld 7 zd w' hw) (zR ?_);refine l9 (m7 q.cs) (fun w' hw=>ld 8 zd w' hw) (zR ?_);refine a8F (mcA q) zk (zR ?_);intro w3 c3;refine zR ?_;refine K2 (c3.blk (c2.blk nA)) (mcA q).toList rfl c0l rfl (a9K q) (by rw [hz8];decide) fun w4 u4=>?_
 have hb:w4.heap[w.heap.size]?=some (.cells (mcA q) 394 (0,0)):=by rw [u4.at_,a8s hz8]
 refine zR ?_;refine K8.mk ⟨mcV q,b7U hb,?_⟩;exact ⟨rfl,u4.cl (cA.trans (c2.trans c3)) (yO _)⟩
theorem b7V {p:g9} {m:Mv} (hp:m.promo=0∨2≤m.promo∧m.promo≤5) (h:a1i (made p m)=true):V8 p m=true:=by
 unfold V8;split
 ·exact h
 ·obtain ⟨f,t,k⟩:=m;rename_i h0;simp only at hp h0 ⊢;rw [xO];refine ⟨k,?_,?_⟩
  ·rcases (by omega:k=2∨k=3∨k=4∨k=5) with rfl|rfl|rfl|rfl<;>decide
  rw [zX (Int.le_refl k),h];rfl
theorem b7W (p:g9) (m:Mv) (t:Nat):G5 (a9Q p m t)=true:=by
 unfold a9Q;have h1:G5 [35]=true:=by rw [a4M,zM zd];exact T9
 have h2:G5 [43]=true:=by rw [a4M,zM zd];exact T9
 split
 ·split
  ·exact h1
  ·exact h2
 ·exact T9
theorem c6o (p:g9) (m:Mv) (t:Nat):(body p m++a9Q p m t).length≤900:=by
 have:=a6c p m;unfold b3X at this;rw [zF] at this ⊢;have:=a7a p m t;omega
theorem c0m (q:E0):(a0C q).length≤3:=by
 unfold a0C;split
 ·simp
 ·split<;>split<;>simp
theorem c0n {q:E0} {t:Tx} (h1:N4 q≠t) (h2:∀ o∈a0C q,o≠t):a7H q t=false:=by
 rw [Bool.eq_false_iff];intro h;rcases a1U.1 h with h|h
 ·exact h1 h
 ·exact h2 _ h rfl
theorem c2I {p:g9} {q:E0} {i:Nat} (hi:i<(P7 p).length) (hno:∀ y∈(P7 p).take i,a7H q (body p y.mv)=false) (h:a7H q (body p ((P7 p)[i]).mv)=true):b0d p q=some (P7 p)[i]:=by
 unfold b0d;rw [List.find?_eq_some_iff_append];refine ⟨h,(P7 p).take i,(P7 p).drop (i+1),?_,fun y hy=>by rw [hno y hy];rfl⟩
 rw [← xc hi,x8]
def b6A (p:g9) (q:E0) (P b:Nat) (cv:Value) (w:World) (r:Ending) (w':World):Prop :=
 (∃ x cv' M,b0d p q=some x∧r = .returned (.tuple #[.pointer (some ⟨M,0,none⟩),.nilIface])∧G8 w' P b p cv'∧Tn P w w'∧Row 141 11 D8 0 w' cv' (P7 p)∧w.heap.size≤M∧w'.heap[M]?=some (.cells (F7 (C3 x)) 141 (0,0))
  ∧∀ k,cv'.ownBlock=some k→(cv.ownBlock=some k∨w.heap.size≤k)∧k≠M)
∨(b0d p q=none∧(∃ v,r = .returned (.tuple #[.pointer none,b3p v]))∧Tn P w w')
set_option maxHeartbeats 4000000 in
theorem a7K {p:g9} (hI:B7 p) (hN:Y6 p) (hle:(A5 p).length≤218) {P b:Nat} {cv:Value} {T:Tx} (hT1:T.length≤1000) {q:E0} (hq:zzP T=some q) (w:World) (hT:C6 w) (hM:G8 w P b p cv) :
  Calls G.P 341 #[.agg #[],.pointer (some ⟨P,0,none⟩),m7 T] w (b6A p q P b cv w):=by
 obtain ⟨mm1,mm2⟩:=a1l hI;have hlen:=a6i hI hle;have hPL:=c31 hT1 hq;obtain ⟨z,hz1,hz8⟩:=zMc;refine zN func341 ?_;refine zR ?_;have cb:=Cl.alloc w (.cells #[] 149);generalize w.alloc (.cells #[] 149)=w1 at *;have hPw:P<w.heap.size:=A7 hM.hd;refine o7 (b69 hT1 hq w1) fun w2 c2=>?_;have cb:=cb.trans c2;have s02:=cb.size;refine zR ?_;refine s7 z hz1 ?_;have cb:=cb.trans (Cl.alloc w2 (.cells z.cells 394));have nA:=d8 w2 (.cells z.cells 394);generalize w2.alloc (.cells z.cells 394)=w3 at *;have s2:=c2.size;refine zR ?_;refine K2 nA (mcA q).toList rfl c0l rfl (a9K q) (by rw [hz8];decide) fun w4 u4=>?_
 have hQ:w4.heap[w2.heap.size]?=some (.cells (mcA q) 394 (0,0)):=by rw [u4.at_,a8s hz8]
 have c04:Cl w w4:=u4.cl cb s02;clear u4 nA cb;refine zR ?_;refine G7 true (E6 rfl) (zR ?_);refine b7 (mcV q) (b7U hQ) (zR ?_);refine o7 (b2h hPL w4) fun w5 c5=>?_;have c05:=c04.trans c5;have hQ5:=c5.blk hQ;obtain ⟨bq,hbq⟩:∃ b,b=w2.heap.size:=⟨_,rfl⟩;rw [← hbq] at hQ5 ⊢;clear hQ c2 hbq;refine zR ?_;refine m8 (a6j hI hle w5 (hT.cl c05) (hM.step c05)) ?_;rintro r w6 ⟨v,cv',rfl,hr,hM6,n6,hr0,hown⟩;obtain ⟨av,kv,rfl,hav⟩:=hr.form;have hown2:∀ k,cv'.ownBlock=some k→(cv.ownBlock=some k∨w.heap.size≤k)∧k<w6.heap.size:=fun k h=>⟨(hown k h).imp id (zw c05.size),(hr0.own h).2⟩;clear hown;refine ⟨_,rfl,?_⟩;have hQ6:=n6.blk hQ5 (G9 hQ5 (hM.step c05).hd zd);have ntw:=(Tn.cl (b:=P) c05).trans n6;have hT6:C6 w6:=(hT.cl c05).fr (Fr.tn (S:=[P]) n6 (.inl (by simp))) fun k hk cs t fz hh=>by
  rw [zY.1 hk] at hh;rw [← (xP (yp ((hM.step c05).hd.symm.trans hh))).2.1];decide
 refine zR ?_;refine C1 (σ:=Nat) [6,7,12,13,14,15,17,31] 32 (fun i=>[(31,.int .i64 i)]) (fun i w'=>i≤(P7 p).length∧Cl w6 w'∧∀ y∈(P7 p).take i,a7H q (body p y.mv)=false) (fun i=>(P7 p).length-i) zk 0 ⟨xJ _,Cl.refl _,fun y hy=>by simp at hy⟩ ⟨rfl,trivial⟩ ?_
 rintro i j w7 ⟨hi,c7,hno⟩;have ni:=C4 (i:=i) zo;refine zR ?_;apply E.d7<;>intro h
 ·have hi2:i<(P7 p).length:=by omega
  clear h;obtain ⟨g,rfl⟩:=hav zo;have hld:=fun {o:Nat} (ho:o=i*11)=>b1G (hr.step c7) i hi2 ho;have hxm:=yQ hi2;have htk:(P7 p).take (i+1)=(P7 p).take i++[(P7 p)[i]]:=zx hi2;have hfit:=c2I (q:=q) hi2 hno;obtain ⟨ad,hcv⟩:∃ ad,∃ n c,cv' = .slice (some ad) n c:=by
   obtain ⟨a,n,c,rfl⟩:=hM6.form;obtain ⟨ad,rfl⟩:=hM6.kept hr0 (fun e=>by rw [e] at hi2;simp at hi2)
   exact ⟨ad,n,c,rfl⟩
  obtain ⟨n0,k0,rfl⟩:=hcv;generalize (P7 p)[i]=y at *;have hyl:=(mm1 y hxm).1;have hyt:=(mm1 y hxm).2;have hyr:=A3 hI hyl;have hsan:=b0F hI hyl (t:=y.tags) (ck:=V8 p y.mv) hyt;have hzy:=b2e hI hyl (b7W p y.mv y.tags);have hly:=c6o p y.mv y.tags;have hPy:=c31 zo hzy;have hcy:=a4i hI hyl;refine zR ?_;refine zC ?_;refine zR ?_;refine b7 _ (hld (a1o _ _)) (zR ?_);refine s7 _ a3Z ?_;have cB:=Cl.alloc w7 (.cells (Value.agg (F7 (C3 ⟨⟨0,0,0⟩,0⟩))).cells 141);have nB:=d8 w7 (.cells (Value.agg (F7 (C3 ⟨⟨0,0,0⟩,0⟩))).cells 141);generalize w7.alloc (.cells (Value.agg (F7 (C3 ⟨⟨0,0,0⟩,0⟩))).cells 141)=w8 at *;refine zR ?_;refine K2 nB (D8 y) rfl a0O rfl (F9 y) (zU rfl) fun w9 u9=>?_;have hX:w9.heap[w7.heap.size]?=some (.cells (F7 (C3 y)) 141 (0,0)):=by have h7:=u9.at_;rw [B5 _ _ (by rw [J2];rfl)] at h7;exact h7
  have c9:Cl w7 w9:=(Tn.upd u9).toCl cB (yO _);have c69:=c7.trans c9;have sM:w.heap.size≤w7.heap.size∧w6.heap.size≤w7.heap.size:=⟨zw ntw.size c7.size,c7.size⟩;obtain ⟨M,hMM⟩:∃ M,M=w7.heap.size:=⟨_,rfl⟩;rw [← hMM] at hX sM ⊢;clear u9 nB cB hld hMM;refine zR ?_;refine r7 #[] zk (zR ?_);refine o7 (a7A (d:=C3 y) hI hN hle hyl (ck:=V8 p y.mv) (fun h=>b7V (by have:=hyr.2.2.2.2;show y.mv.promo=0∨2≤y.mv.promo∧y.mv.promo≤5;omega) h) hyt w9 (hT6.cl c69) (hM6.step c69) hX) fun w10 c10=>?_
  have e10:b7s p (C3 y).mv (C3 y).tags=body p y.mv++a9Q p y.mv y.tags:=hsan;rw [e10];clear e10 hsan;have c610:=c69.trans c10;have hX:=c10.blk hX;refine zR ?_;refine o7 (b69 zo hzy w10) fun w11 c11=>?_;have c611:=c610.trans c11;have hX:=c11.blk hX;refine zR ?_;refine s7 z hz1 ?_;have cC:=Cl.alloc w11 (.cells z.cells 394);have nC:=d8 w11 (.cells z.cells 394);generalize w11.alloc (.cells z.cells 394)=w12 at *;refine zR ?_;refine K2 nC (mcA (R8 p y.mv)).toList rfl c0l rfl (a9K _) (by rw [hz8];decide) fun w13 u13=>?_
  have hY:w13.heap[w11.heap.size]?=some (.cells (mcA (R8 p y.mv)) 394 (0,0)):=by rw [u13.at_,a8s hz8]
  have c13:Cl w11 w13:=(Tn.upd u13).toCl cC (yO _);have c613:=c611.trans c13;have hX:=c13.blk hX;obtain ⟨by_,hby⟩:∃ b,b=w11.heap.size:=⟨_,rfl⟩;rw [← hby] at hY ⊢;clear u13 nC cC hby c13;have fin:∀ w',Cl w13 w'→a7H q (body p y.mv)=true→b6A p q P b cv w (.returned (.tuple #[.pointer (some ⟨M,0,none⟩),.nilIface])) w':=fun w' c hf=>by
   have c6:=c613.trans c;refine .inl ⟨y,_,M,hfit hf,rfl,hM6.step c6,ntw.trans (Tn.cl c6),hr0.step c6,sM.1,c.blk hX,fun k hk=>⟨(hown2 k hk).1,?_⟩⟩;have:=(hown2 k hk).2;omega
  clear hfit;refine zR ?_;refine G7 true (E6 rfl) (zR ?_);refine b7 (mcV (R8 p y.mv)) (b7U hY) (zR ?_);refine o7 (b2h hPy w13) fun w14 c14=>?_;rw [hcy];refine zR ?_;apply E.d7<;>intro h
  ·have e:N4 q=body p y.mv:=Q0.1 h;refine zR ?_;exact fin w14 c14 (a1U.2 (.inl e))
  have hne:N4 q≠body p y.mv:=fun e=>h (by rw [e])
  clear h;refine zR ?_;refine b7 (mcV q) (b7U ((c613.trans c14).blk hQ6)) (zR ?_);refine m8 (b7T hPL w14) ?_;rintro r w15 ⟨c15,vo,rfl,hO⟩;obtain ⟨ao,ko,rfl,hao⟩:=hO.form;refine ⟨_,rfl,?_⟩;have hol:=c0m q;have c1315:=c14.trans c15;refine zR ?_;refine C1 (σ:=Nat) [6,7,17,52] 53 (fun i=>[(52,.int .i64 i)]) (fun i w'=>i≤(a0C q).length∧Cl w15 w'∧∀ o∈(a0C q).take i,o≠body p y.mv) (fun i=>(a0C q).length-i) zk 0 ⟨xJ _,Cl.refl _,fun o ho=>by simp at ho⟩ ⟨rfl,trivial⟩ ?_
  rintro k jk w16 ⟨hk,c16,hnk⟩;have nk:=C4 (i:=k) zo;refine zR ?_;apply E.d7<;>intro h
  ·have hk2:k<(a0C q).length:=by omega
   clear h;obtain ⟨go,rfl⟩:=hao zo;have htk2:(a0C q).take (k+1)=(a0C q).take k++[(a0C q)[k]]:=zx hk2;have hlo:m9 G.P w16 9 ⟨go,E.U0 0 ((k:Int)).toNat 1,none⟩ (m7 (a0C q)[k]):=P6 (hO.step c16) o8 k 0 hk2 zd rfl (by simp [E.s8]) rfl
   have hom:=yQ hk2;generalize (a0C q)[k]=o at *;refine zR ?_;refine zC ?_;refine zR ?_;refine b7 _ hlo (zR ?_);refine b7 (mcV (R8 p y.mv)) (b7U ((c1315.trans c16).blk hY)) (zR ?_);refine o7 (b2h hPy w16) fun w17 c17=>?_;rw [hcy];refine zR ?_;apply E.d7<;>intro h
   ·have e:o=body p y.mv:=Q0.1 h;refine zR ?_;exact fin w17 (c1315.trans (c16.trans c17)) (a1U.2 (.inr (by rw [← e];exact hom)))
   ·have hno2:o≠body p y.mv:=fun e=>h (by rw [e])
    refine zR ?_;refine ⟨k+1,⟨d9 nk,trivial⟩,⟨zo,c16.trans c17,fun o' ho'=>?_⟩,zo⟩;rw [htk2] at ho';rcases zr.1 ho' with ho'|ho'
    ·exact hnk o' ho'
    ·rw [zY.1 ho'];exact hno2
  ·have e:k=(a0C q).length:=by omega
   subst e;rw [yf] at hnk;have hf:=c0n hne hnk;refine zR ?_;refine ⟨i+1,⟨d9 ni,trivial⟩,⟨zo,c613.trans (c1315.trans c16),fun y' hy'=>?_⟩,zo⟩;rw [htk] at hy';rcases zr.1 hy' with hy'|hy'
   ·exact hno y' hy'
   ·rw [zY.1 hy'];exact hf
 ·have e:i=(P7 p).length:=by omega
  subst e;rw [yf] at hno;have hd:b0d p q=none:=by
   unfold b0d;rw [List.find?_eq_none];intro x hx h;rw [hno x hx] at h;cases h
  refine zR ?_;refine m8 (a9y _ w7) ?_;rintro _ w8 ⟨v,rfl,c8⟩;refine ⟨_,rfl,zR ?_⟩;exact .inr ⟨hd,⟨_,rfl⟩,ntw.trans (Tn.cl (c7.trans c8))⟩
def a8t (P b:Nat) (p:g9) (cv:Value) (m:Mv) (w:World) (r:Ending) (w':World):Prop :=
 ∃ cv' M d,r = .returned (.tuple #[.pointer (some ⟨M,0,none⟩),.nilIface])∧G8 w' P b p cv'∧Tn P w w'∧w.heap.size≤M∧w'.heap[M]?=some (.cells (F7 d) 141 (0,0))
 ∧d.mv=m∧(d.tags:Int)=a8N p m∧d.kids = .slice none 0 0∧∀ k,cv'.ownBlock=some k→(cv.ownBlock=some k∨w.heap.size≤k)∧k≠M
theorem a7L {p:g9} (hI:B7 p) (hN:Y6 p) (hle:(A5 p).length≤218) {P b:Nat} {cv:Value} {T:Tx} (hT1:T.length≤1000) {q:E0} (hq:zzP T=some q) {m:Mv} (hm:m∈p9 p) (hs:P3 p m=true) (hn:a5h p m q) (w:World) (hT:C6 w) (hM:G8 w P b p cv) :
  Calls G.P 341 #[.agg #[],.pointer (some ⟨P,0,none⟩),m7 T] w (a8t P b p cv m w):=by
 obtain ⟨x,hx,hd,hxm⟩:=b5g hI hm hn;have hr:=A3 hI hm;have htx:=((a1l hI).1 x hx).2;rw [hxm] at htx;refine (a7K hI hN hle hT1 hq w hT hM).mono ?_;rintro r w' h;rcases h with ⟨x',cv',M,h0,h1,h2,h3,h4,h5,h6,h7⟩|⟨h0,_⟩;rotate_left
 ·rw [hd] at h0;cases h0
 obtain rfl:x=x':=yp (hd.symm.trans h0);exact ⟨cv',M,C3 x,h1,h2,h3,h5,h6,hxm,by show (x.tags:Int)=_;rw [htx];exact b3c (by have:=hr.2.2.2.2;omega) hs,rfl,h7⟩
theorem b3H {p:g9} (hI:B7 p) (hN:Y6 p) (hle:(A5 p).length≤218) {P b:Nat} {cv:Value} {T:Tx} (hT1:T.length≤1000) {q:E0} (hq:zzP T=some q) {m:Mv} (hm:m∈p9 p) (hs:P3 p m=true) (hn:a5h p m q) (w:World) (hT:C6 w) (hM:G8 w P b p cv) :
  Calls G.P 349 #[.agg #[],.pointer (some ⟨P,0,none⟩),m7 T] w (a8t P b p cv m w):=by
 refine zN func349 ?_;refine zR ?_;have cb:=Cl.alloc w (.cells #[] 150);generalize w.alloc (.cells #[] 150)=w1 at *;refine r7 #[] zk (zR ?_);refine m8 (a7L hI hN hle hT1 hq hm hs hn w1 (hT.cl cb) (hM.step cb)) ?_;rintro r w2 ⟨cv',M,d,rfl,h2,h3,h5,h6,h7,h8,h9,h10⟩;refine ⟨_,rfl,zR ?_⟩;exact ⟨cv',M,d,rfl,h2,(Tn.cl cb).trans h3,zw cb.size h5,h6,h7,h8,h9,fun k hk=>⟨(h10 k hk).1.imp id (zw cb.size),(h10 k hk).2⟩⟩
theorem c2J {p:g9} (hI:B7 p) {m:Mv} (hm:m∈p9 p):(a30 (a1s p) (p.turn+1) p.ep m 0:Int)=a8N p m:=by
 rcases (N9 hI m).1 hm with ⟨hp,_⟩|⟨r,hr,ha⟩
 ·rw [a9j hI hp rfl rfl rfl,Nat.zero_or];exact b2B hI hp ((a05 hI hp).1 hm)
 ·obtain ⟨r4,rt,rb,hc⟩:=J1 hI hr;have hrm:=hr.is;have h1:=a74 hI hc;have f:=A3 hI hm;have e0:a30 (a1s p) (p.turn+1) p.ep m 0=a30 (a1s p) (p.turn+1) p.ep m (if (if A9 (r:Int)<a2s r then (-1:Int) else 1)=1 then 1 else 2):=by
   have hw:(if A9 (r:Int)<a2s r then (-1:Int) else 1)=1∨(if A9 (r:Int)<a2s r then (-1:Int) else 1)=-1:=by split<;>simp
   have hmv:=hc.mv;have hk:=hc.k;have ht:=hI.turn;have hto:=hc.to;have hking:=hc.king;generalize (if A9 (r:Int)<a2s r then (-1:Int) else 1)=w at *
   have hcap:capTag p m=0:=by
    have hto':sq p m.to=0:=by rw [hmv];exact hto
    have hk6:a0B (sq p m.fr)≠6:=by rw [hmv];simp only [hking,S9 hI];decide
    unfold capTag;rw [zJ (fun e=>e hto'),zJ (fun e=>hk6 e.2)]
   have hcas:T6 p m=if w=1 then 1 else 2:=by
    unfold T6;rw [hmv];simp only [hking];rcases ht with e|e<;>rcases hw with e2|e2<;>rw [e] at hk ⊢ <;> subst e2<;>rw [hk]<;>decide
   unfold a30;simp only [b18 hI f.1 f.2.1 f.2.2.1 f.2.2.2.1,b19 hI f.1 f.2.1,hcap,hcas,Nat.or_zero,Nat.or_self,Nat.zero_or]
  rw [e0,h1];obtain ⟨x,hx,hxm⟩:=(a3v hI).2 m r hr hm;have hxt:=((a3v hI).1 x hx).2;rw [hxm] at hxt;have h0:m.promo=0:=by rw [hrm];rfl
  have e1:U8 p m=a8N p m:=by unfold U8 a8N V8;rw [zM h0]
  rw [← e1,← hxt];rw [hrm] at hxm;subst hrm;clear h1 e0 hxt e1 h0 f hc rb rt ha hm;unfold a1c at hx;rcases zr.1 hx with hx|hx
  ·split at hx
   ·rw [zY.1 hx] at hxm ⊢;have hrr:=hr.right;clear hr hx;rcases hI.turn with ht|ht<;>rw [ht] at hxm hrr ⊢ <;> rcases hrr with rfl|rfl<;>first|rfl|(simp only at hxm;exact absurd hxm zd)
   ·cases hx
  ·split at hx
   ·rw [zY.1 hx] at hxm ⊢;have hrr:=hr.right;clear hr hx;rcases hI.turn with ht|ht<;>rw [ht] at hxm hrr ⊢ <;> rcases hrr with rfl|rfl<;>first|rfl|(simp only at hxm;exact absurd hxm zd)
   ·cases hx
def b5r:List (Nat×Value):=[(110,.int .i8 5),(98,.int .i8 4),(114,.int .i8 3),(113,.int .i8 2)]
def b6B (cs:Array Value):Bool:=Nat.beq cs.size 256&&(match cs[110]?,cs[98]?,cs[114]?,cs[113]? with|some (Value.int .i8 5),some (Value.int .i8 4),some (Value.int .i8 3),some (Value.int .i8 2)=>true|_,_,_,_=>false)&&cs.toList.all (fun v=>v.oneCell')
theorem c0o:∃ cs,G.P.built 402 b5r=some cs∧cs.size=256∧cs[110]?=some (Value.int .i8 5)∧cs[98]?=some (Value.int .i8 4)∧cs[114]?=some (Value.int .i8 3)∧cs[113]?=some (Value.int .i8 2)∧∀ v∈cs.toList,v.oneCell'=true:=by
 have h:(match G.P.built 402 b5r with
  | some cs=>b6B cs
  | none=>false)=true:=by kernel_rfl
 cases e:G.P.built 402 b5r with
 | none=>rw [e] at h;cases h
 | some cs =>
  rw [e] at h;simp only [b6B,zP] at h;obtain ⟨⟨h1,h2⟩,h3⟩:=h;split at h2
  ·rename_i a1 a2 a3 a4;exact ⟨cs,rfl,zu h1,a1,a2,a3,a4,fun v hv=>zl.1 h3 v hv⟩
  ·cases h2
theorem c6p:(G.P.info? 402).map (·.size)=some 256:=by kernel_rfl
theorem c7f:∃ z,(G.P.info? 402).bind (·.zero)=some z∧z.cells.size=256:=a0m zk
theorem c0p {k:Int} (h:2≤k∧k≤5):∃ c:UInt8,a16 k=[c]:=by
 rcases (by omega:k=2∨k=3∨k=4∨k=5) with rfl|rfl|rfl|rfl<;>exact ⟨_,rfl⟩
theorem c0q {p:g9} (hI:B7 p) {m:Mv} (hm:m∈p9 p):b1R m=v8 m.fr++B6 m.fr++(v8 m.to++B6 m.to)++(if m.promo=0 then [] else a16 m.promo):=by
 obtain ⟨f0,f1,t0,t1,hp⟩:=A3 hI hm;unfold b1R;rw [sq2 f0 f1,sq2 t0 t1];by_cases e:m.promo=0
 ·rw [zM e,zJ zo]
 ·rw [zJ e,zM zo]
theorem b2i:∀ n:Nat,n<64→IntKind.i8.wrap (IntKind.u8.wrap (IntKind.u8.wrap (((97+n%8:Nat):Int)-97)+IntKind.u8.wrap (IntKind.u8.wrap (((49+n/8:Nat):Int)-49)*8)))=(n:Int):=by decide +kernel
set_option maxHeartbeats 4000000 in
theorem b3I {p:g9} (hI:B7 p) (hN:Y6 p) {P b:Nat} {cv:Value} {m:Mv} (hm:m∈p9 p) (w:World) (hT:C6 w) (hM:G8 w P b p cv) :
  Calls G.P 351 #[.agg #[],.pointer (some ⟨P,0,none⟩),m7 (b1R m)] w (a8t P b p cv m w):=by
 obtain ⟨f0,f1,t0,t1,hpm⟩:=A3 hI hm;have htag:=c2J hI hm;obtain ⟨fr,hfr⟩:=ze f0;obtain ⟨to,hto⟩:=ze t0;obtain ⟨e0,e1,e2⟩:=a2q fr zo;obtain ⟨g0,g1,g2⟩:=a2q to zo;have hu:=c0q hI hm;rw [hfr,hto,e0,g0] at hu;have cA1:=b2i fr zo;have cA2:=b2i to zo;rw [← e1,← e2] at cA1;rw [← g1,← g2] at cA2;generalize UInt8.ofNat (97+fr%8)=a0 at *;generalize UInt8.ofNat (49+fr/8)=a1 at *;generalize UInt8.ofNat (97+to%8)=a2 at *;generalize UInt8.ofNat (49+to/8)=a3 at *;have hlp:∀ k,k<w.heap.size→∀ M,w.heap.size≤M→k≠M:=fun k h M h2=>by omega
 have hown:∀ M,w.heap.size≤M→∀ k,cv.ownBlock=some k→k≠M:=fun M h k hk=>by
  rcases hM.ca with e|hr
  ·rw [e] at hk;cases hk
  ·have:=(hr.own hk).2;omega
 have hpn:(C3 ⟨m,0⟩).mv.promo=0∨(1≤(C3 ⟨m,0⟩).mv.promo∧(C3 ⟨m,0⟩).mv.promo≤6∧(a1s p).at (C3 ⟨m,0⟩).mv.fr.toNat≠0):=by
  show m.promo=0∨(1≤m.promo∧m.promo≤6∧(a1s p).at m.fr.toNat≠0);rcases hpm with e|⟨e1,e2,e3⟩
  ·exact .inl e
  ·refine .inr ⟨zo,zo,?_⟩;rw [U9 hI.pc zo,zi f0];intro e;rw [e] at e3;exact absurd e3 zd
 have hturn:=hI.turn;by_cases hp:m.promo=0
 ·have hT4:b1R m=[a0,a1,a2,a3]:=by rw [hu,zM hp];rfl
  rw [hT4];have hsz:(tx [a0,a1,a2,a3]).size=4:=rfl;have k0:(tx [a0,a1,a2,a3]).get! (IntKind.i64.wrap (0+0)).toNat=a0:=rfl;have k1:(tx [a0,a1,a2,a3]).get! (IntKind.i64.wrap (0+1)).toNat=a1:=rfl;have q0:(tx [a0,a1,a2,a3]).get! (Int.toNat 0)=a0:=rfl;have q1:(tx [a0,a1,a2,a3]).get! (Int.toNat 1)=a1:=rfl;have q2:(tx [a0,a1,a2,a3]).get! (Int.toNat 2)=a2:=rfl;have q3:(tx [a0,a1,a2,a3]).get! (Int.toNat 3)=a3:=rfl;refine zN func351 ?_;refine zR ?_;have cb:=Cl.alloc w (.cells #[] 151);generalize w.alloc (.cells #[] 151)=w1 at *;refine a5e 2 (zR ?_);rw [k0];refine E.o9 (by rw [e1];omega) (zR ?_)
  rw [k0];refine E.o9 (by rw [e1];omega) (zR ?_)
  rw [k1];refine E.o9 (by rw [e2];omega) (zR ?_)
  rw [k1];refine E.o9 (by rw [e2];omega) (zR ?_)
  refine zK 10 ?_;refine zR ?_;rw [q0,q1,cA1];intro w2 c2;refine zR ?_;refine zK 10 ?_;refine zR ?_;rw [q2,q3,cA2];intro w3 c3;refine zR ?_;refine E.o9 zo (zR ?_);refine E.o9 zo (zR ?_);refine r7 (F7 (C3 ⟨⟨fr,to,0⟩,0⟩)) zk (zR ?_);refine s7 _ a3Z ?_;have cw3:=cb.trans (c2.trans c3);have s3:=cw3.size;have cB:=cw3.trans (Cl.alloc w3 (.cells (Value.agg (F7 (C3 ⟨⟨0,0,0⟩,0⟩))).cells 141));have nB:=d8 w3 (.cells (Value.agg (F7 (C3 ⟨⟨0,0,0⟩,0⟩))).cells 141);obtain ⟨M,hMM⟩:∃ M,M=w3.heap.size:=⟨_,rfl⟩;rw [← hMM] at nB s3 ⊢;generalize w3.alloc (.cells (Value.agg (F7 (C3 ⟨⟨0,0,0⟩,0⟩))).cells 141)=w4 at *;clear hMM;refine zR ?_;refine K2 nB (D8 ⟨⟨fr,to,0⟩,0⟩) rfl a0O rfl (F9 _) (zU rfl) fun w5 u5=>?_;have hX:w5.heap[M]?=some (.cells (F7 (C3 ⟨⟨fr,to,0⟩,0⟩)) 141 (0,0)):=by have h7:=u5.at_;rw [B5 _ _ (by rw [J2];rfl)] at h7;exact h7
  have c5:Cl w w5:=u5.cl cB s3;have hXl5:=A7 hX;have neP:=hlp _ (A7 hM.hd) M s3;have neb:=hlp _ (A7 hM.bd) M s3;have hown:=hown M s3;clear u5 nB cB cw3;refine zR ?_;have emv:(⟨fr,to,0⟩:Mv)=m:=Mv.ext' hfr.symm hto.symm hp.symm;rw [emv] at hX;refine V0 false (N2 rfl _) (zR ?_);refine m8 (a3a (h:=D0 p (a1i p)) (B:=a1s p) (d:=C3 ⟨m,0⟩) (by show p.turn+1=1∨p.turn+1=2;omega) (D1 p 0).1 (D1 p 0).2 (D1 p 1).1 (D1 p 1).2 f0 f1 t0 t1 (show (0:Nat)<64 by decide) hpn w5 ⟨c5.blk hM.hd,c5.blk hM.bd,hX,Tn.refl _ _,hT.cl c5,neP,neb⟩) ?_
  rintro r w8 ⟨rfl,h8⟩;refine ⟨_,rfl,?_⟩;have c8:Cl w w8:=h8.tn.toCl c5 s3;refine zR ?_;refine m8 (a6m hI hN (d:={ C3 ⟨m,0⟩ with tags:=a30 (a1s p) (p.turn+1) p.ep m 0 }) hm htag w8 (hT.cl c8) (hM.step c8) h8.nd) ?_;rintro r w9 ⟨P',b',rfl,s1',s2',hH,hB,c9⟩;refine ⟨_,rfl,zR ?_⟩;refine zT (c9.blk h8.nd) [.pointer (some ⟨P',0,none⟩)] fun w10 u10=>?_;have c10:Cl w w10:=u10.cl (c8.trans c9) s3;refine zR ?_;exact ⟨cv,M,{ C3 ⟨m,a30 (a1s p) (p.turn+1) p.ep m 0⟩ with pos:=.pointer (some ⟨P',0,none⟩) },rfl,hM.step c10,Tn.cl c10,s3,u10.at_,rfl,htag,rfl,fun k hk=>⟨.inl hk,hown k hk⟩⟩
 ·obtain ⟨c,hc⟩:=c0p (k:=m.promo) zo;have hT5:b1R m=[a0,a1,a2,a3,c]:=by rw [hu,zJ hp,hc];rfl
  rw [hT5];obtain ⟨cs,hcs,hc256,k5,k4,k3,k2,hone⟩:=c0o;obtain ⟨zp,hzp,hzp256⟩:=c7f;have hcp:cs[c.toNat]?=some (.int .i8 m.promo):=by
   rcases (by omega:m.promo=2∨m.promo=3∨m.promo=4∨m.promo=5) with e|e|e|e<;>rw [e] at hc ⊢ <;> (rw [← (yv hc).1];assumption)
  have q4:(tx [a0,a1,a2,a3,c]).get! (Int.toNat 4)=c:=rfl;have hsz:(tx [a0,a1,a2,a3,c]).size=5:=rfl;have k0:(tx [a0,a1,a2,a3,c]).get! (IntKind.i64.wrap (0+0)).toNat=a0:=rfl;have k1:(tx [a0,a1,a2,a3,c]).get! (IntKind.i64.wrap (0+1)).toNat=a1:=rfl;have q0:(tx [a0,a1,a2,a3,c]).get! (Int.toNat 0)=a0:=rfl;have q1:(tx [a0,a1,a2,a3,c]).get! (Int.toNat 1)=a1:=rfl;have q2:(tx [a0,a1,a2,a3,c]).get! (Int.toNat 2)=a2:=rfl;have q3:(tx [a0,a1,a2,a3,c]).get! (Int.toNat 3)=a3:=rfl;refine zN func351 ?_;refine zR ?_;have cb:=Cl.alloc w (.cells #[] 151);generalize w.alloc (.cells #[] 151)=w1 at *;refine a5e 2 (zR ?_);rw [k0];refine E.o9 (by rw [e1];omega) (zR ?_)
  rw [k0];refine E.o9 (by rw [e1];omega) (zR ?_)
  rw [k1];refine E.o9 (by rw [e2];omega) (zR ?_)
  rw [k1];refine E.o9 (by rw [e2];omega) (zR ?_)
  refine zK 10 ?_;refine zR ?_;rw [q0,q1,cA1];intro w2 c2;refine zR ?_;refine zK 10 ?_;refine zR ?_;rw [q2,q3,cA2];intro w3 c3;refine zR ?_;refine E.o9 zo (zR ?_);refine E.o9 zo (zR ?_);refine r7 (F7 (C3 ⟨⟨fr,to,0⟩,0⟩)) zk (zR ?_);refine s7 _ a3Z ?_;have cw3:=cb.trans (c2.trans c3);have s3:=cw3.size;have cB:=cw3.trans (Cl.alloc w3 (.cells (Value.agg (F7 (C3 ⟨⟨0,0,0⟩,0⟩))).cells 141));have nB:=d8 w3 (.cells (Value.agg (F7 (C3 ⟨⟨0,0,0⟩,0⟩))).cells 141);obtain ⟨M,hMM⟩:∃ M,M=w3.heap.size:=⟨_,rfl⟩;rw [← hMM] at nB s3 ⊢;generalize w3.alloc (.cells (Value.agg (F7 (C3 ⟨⟨0,0,0⟩,0⟩))).cells 141)=w4 at *;clear hMM;refine zR ?_;refine K2 nB (D8 ⟨⟨fr,to,0⟩,0⟩) rfl a0O rfl (F9 _) (zU rfl) fun w5 u5=>?_;have hX:w5.heap[M]?=some (.cells (F7 (C3 ⟨⟨fr,to,0⟩,0⟩)) 141 (0,0)):=by have h7:=u5.at_;rw [B5 _ _ (by rw [J2];rfl)] at h7;exact h7
  have c5:Cl w w5:=u5.cl cB s3;have hXl5:=A7 hX;have neP:=hlp _ (A7 hM.hd) M s3;have neb:=hlp _ (A7 hM.bd) M s3;have hown:=hown M s3;clear u5 nB cB cw3;refine zR ?_;refine r7 cs hcs (zR ?_);refine s7 zp hzp ?_;have c6:=c5.trans (Cl.alloc w5 (.cells zp.cells 402));have n6:=d8 w5 (.cells zp.cells 402);have hX:=(Cl.alloc w5 (.cells zp.cells 402)).blk hX;have s6:=c5.size;have sX:=A7 hX;have hXl:M<w5.heap.size:=hXl5;generalize w5.alloc (.cells zp.cells 402)=w6 at *;refine zR ?_;refine K2 n6 cs.toList rfl c6p (by simpa using hc256) hone (by simp [hzp256,hc256]) fun w7 u7=>?_
  have hcsb:w7.heap[w5.heap.size]?=some (.cells cs 402 (0,0)):=by rw [u7.at_,B5 _ _ (by rw [Array.length_toList,hc256,hzp256])]
  have hX:=(Tn.upd u7).blk hX zo;have c7:=u7.cl c6 s6;refine zR ?_;rw [q4];refine E.A1 (F6.2 ⟨zo,by have:=c.toNat_lt;omega⟩) (zR ?_)
  refine b7 (.int .i8 m.promo) (D9 hcsb (by rw [E.s8,zg,yZ,wX];exact hcp) rfl) (zR ?_)
  refine E.o9 hp (zR ?_);refine a9l hX _ fun w7b u7b=>?_;have hX:w7b.heap[M]?=some (.cells (F7 (C3 ⟨⟨fr,to,m.promo⟩,0⟩)) 141 (0,0)):=u7b.at_;have c7b:=u7b.cl c7 s3;refine zR ?_;have emv:(⟨fr,to,m.promo⟩:Mv)=m:=Mv.ext' hfr.symm hto.symm rfl;rw [emv] at hX;refine V0 false (N2 rfl _) (zR ?_);refine m8 (a3a (h:=D0 p (a1i p)) (B:=a1s p) (d:=C3 ⟨m,0⟩) (by show p.turn+1=1∨p.turn+1=2;omega) (D1 p 0).1 (D1 p 0).2 (D1 p 1).1 (D1 p 1).2 f0 f1 t0 t1 (show (0:Nat)<64 by decide) hpn w7b ⟨c7b.blk hM.hd,c7b.blk hM.bd,hX,Tn.refl _ _,hT.cl c7b,neP,neb⟩) ?_
  rintro r w8 ⟨rfl,h8⟩;refine ⟨_,rfl,?_⟩;have c8:Cl w w8:=h8.tn.toCl c7b s3;refine zR ?_;refine m8 (a6m hI hN (d:={ C3 ⟨m,0⟩ with tags:=a30 (a1s p) (p.turn+1) p.ep m 0 }) hm htag w8 (hT.cl c8) (hM.step c8) h8.nd) ?_;rintro r w9 ⟨P',b',rfl,s1',s2',hH,hB,c9⟩;refine ⟨_,rfl,zR ?_⟩;refine zT (c9.blk h8.nd) [.pointer (some ⟨P',0,none⟩)] fun w10 u10=>?_;have c10:Cl w w10:=u10.cl (c8.trans c9) s3;refine zR ?_;exact ⟨cv,M,{ C3 ⟨m,a30 (a1s p) (p.turn+1) p.ep m 0⟩ with pos:=.pointer (some ⟨P',0,none⟩) },rfl,hM.step c10,Tn.cl c10,s3,u10.at_,rfl,htag,rfl,fun k hk=>⟨.inl hk,hown k hk⟩⟩
noncomputable def a61 (t:Nat) (nm:String) (f:Nat):Bool:=match G.P.info? t,G.P.underlying t with
 | some i,some (.struct _)=>(match i.methods.find? (·.name==nm) with
  | some m=>m.path.isEmpty&&(match m.func with
   | some (g,b)=>Nat.beq g f && !b
   | none=>false)
  | none=>false)
 | _,_=>false
theorem b3J {t f:Nat} {nm:String} (h:a61 t nm f=true) (k:Nat) (v:Value) (w:World):(method (k+1) t v nm).run G.P w = .ok (f,v) w∧(nilAhead (k+1) t v nm).run G.P w = .ok (some false) w:=by
 unfold a61 at h;split at h
 ·rename_i i fs hi hu;split at h
  ·rename_i m hm;rw [zP] at h;obtain ⟨hp,h⟩:=h;split at h
   ·rename_i g b hf;rw [zP] at h;obtain ⟨hg,hb⟩:=h;have hg:=zu hg;have hb:b=false:=by cases b<;>simp_all
    subst hg hb;have hp:m.path=#[]:=by simpa using hp
    constructor
    ·simp [method,run_typeInfo w hi,hm,hp,hf,follow,receiverAt,Place.get,run_underlying hu]
    ·simp [nilAhead,run_typeInfo w hi,hm,hp,hf,followBlind,run_underlying hu]
   ·cases h
  ·cases h
 ·cases h
section gens
variable {dst:Option Nat} {ty:Nat} {pos:String} {af:Array Edge} {gd:Option (Nat×Bool)} {env:C9}
theorem b2j {w:World} {K:Value→World→Prop} {t:Nat} {x:Operand} {fs:Array Field} (ht:G.P.underlying t=some (.struct fs)) (h:K (.iface t (ev env x)) w):L6 G.P { dst,op:=.makeInterface t x,type:=ty,pos,after:=af,guard:=gd } env w K:=by
 refine ⟨.inl ⟨.iface t (ev env x),w,?_,h⟩⟩;simp [execOp,Instr.makeInterface,run_underlying ht]
theorem b3K {C:World→Prop} {K:Value→Prop} {nm:String} {x:Operand} (h:K (.func (.method nm) #[ev env x] #[])):a68 G.P C { dst,op:=.makeFunc (.method nm) #[x] #[],type:=ty,pos,after:=af,guard:=gd } env K:=by
 refine ⟨_,fun w _=>?_,h⟩;simp [execOp,Instr.makeFunc]
theorem b1a {C:World→Prop} {K:Value→Prop} {nm:String} {x:Operand} {t f:Nat} {v:Value} (hx:ev env x = .func (.method nm) #[.iface t v] #[]) (hd:a61 t nm f=true) (h:K (.func (.method nm) #[.iface t v] #[])):a68 G.P C { dst,op:=.nilCheck x,type:=ty,pos,after:=af,guard:=gd } env K:=by
 refine ⟨_,fun w _=>?_,h⟩;have h2:=fun k=>(b3J hd k v w).2;obtain ⟨k,hk⟩:∃ k,G.P.types.size+Made.depth=k+1:=⟨G.P.types.size+Made.depth-1,by unfold Made.depth;omega⟩
 simp [execOp,hx,hk,h2]
theorem b6C {w:World} {K:Value→World→Prop} {nm:String} {x:Operand} {args:Array Operand} {argTypes:Array Nat} {t f:Nat} {v:Value} (vs:Array Value) (hx:ev env x = .iface t v) (hd:a61 t nm f=true) (hfn:G.fn f=true) (ha:v::(args.map (ev env)).toList=vs.toList)
  (h:Calls G.P f vs w (fun r w'=>∃ v,r = .returned v∧K v w')):L6 G.P { dst,op:=.call { callee:=.invoke x nm,args,argTypes },type:=ty,pos,after:=af,guard:=gd } env w K:=by
 obtain ⟨x',h1,h2,h3⟩:=G.enters f hfn;have h4:=fun k=>(b3J hd k v w).1;obtain ⟨k,hk⟩:∃ k,G.P.types.size+Made.depth=k+1:=⟨G.P.types.size+Made.depth-1,by unfold Made.depth;omega⟩
 have ha:#[v]++args.map (ev env)=vs:=xX.1 (by simpa using ha)
 subst ha;refine ⟨.inr (.inr ⟨f,_,?_,h⟩)⟩;have e0:(#[Value.iface t v]++args.map (ev env))[0]?=some (.iface t v):=by
  rw [Array.getElem?_append_left (show 0<1 by decide)];rfl
 have e1:(#[Value.iface t v]++args.map (ev env)).extract 1 (#[Value.iface t v]++args.map (ev env)).size=args.map (ev env):=by
  apply Array.ext';simp;exact wW (by simp)
 obtain ⟨c,hb⟩:=Option.isSome_iff_exists.1 h2;have e2:(callMethod (.iface t v) nm (args.map (ev env))).run G.P w = .ok (.enter f (#[v]++args.map (ev env))) w:=by
  simp [callMethod,hk,h4,callFunc,h1,h3,hb]
 simp only [execOp,resolve,invoke,yq,xi,yx,hx,e0,e1,e2]
end gens
def ntT (n:Nat):Nat:=if n=0 then 149 else if n=1 then 150 else 151
def ntV (n:Nat):Value:=.iface (ntT n) (.agg #[])
theorem c7h:∃ fs,G.P.underlying 149=some (.struct fs):=by
 have h:(match G.P.underlying 149 with|some (.struct _)=>true|_=>false)=true:=by kernel_rfl
 split at h
 ·rename_i a e;exact ⟨a,e⟩
 ·cases h
theorem c7i:∃ fs,G.P.underlying 150=some (.struct fs):=by
 have h:(match G.P.underlying 150 with|some (.struct _)=>true|_=>false)=true:=by kernel_rfl
 split at h
 ·rename_i a e;exact ⟨a,e⟩
 ·cases h
theorem c7j:∃ fs,G.P.underlying 151=some (.struct fs):=by
 have h:(match G.P.underlying 151 with|some (.struct _)=>true|_=>false)=true:=by kernel_rfl
 split at h
 ·rename_i a e;exact ⟨a,e⟩
 ·cases h
theorem a1I (n:Nat) (hn:n<3) (w:World):Calls G.P 53 #[.int .i64 n] w (E8 (ntV n) w):=by
 obtain ⟨f0,u0⟩:=c7h;obtain ⟨f1,u1⟩:=c7i;obtain ⟨f2,u2⟩:=c7j;rcases (by omega:n=0∨n=1∨n=2) with rfl|rfl|rfl
 ·refine zN func53 ?_;refine zR ?_;refine r7 #[] zk (zR ?_);refine b2j u0 (zR ?_);exact ⟨rfl,rfl⟩
 ·refine zN func53 ?_;refine zR ?_;refine r7 #[] zk (zR ?_);refine b2j u1 (zR ?_);exact ⟨rfl,rfl⟩
 ·refine zN func53 ?_;refine zR ?_;refine r7 #[] zk (zR ?_);refine b2j u2 (zR ?_);exact ⟨rfl,rfl⟩
theorem c6r:a61 149 "Decode" 341=true:=by kernel_rfl
theorem c6s:a61 150 "Decode" 349=true:=by kernel_rfl
theorem c6t:a61 151 "Decode" 351=true:=by kernel_rfl
def b5s (p:g9) (m:Mv) (n:Nat) (T:Tx):Prop:=(n<2∧T.length≤1000∧∃ q,zzP T=some q∧a5h p m q)∨(n=2∧T=b1R m)
theorem c0r {p:g9} (hI:B7 p) (hN:Y6 p) (hle:(A5 p).length≤218) {P b:Nat} {cv:Value} {T:Tx} {n:Nat} {m:Mv} (hm:m∈p9 p) (hs:P3 p m=true) (hn:b5s p m n T) :
  ∃ f,a61 (ntT n) "Decode" f=true∧G.fn f=true∧∀ w,C6 w→G8 w P b p cv→Calls G.P f #[.agg #[],.pointer (some ⟨P,0,none⟩),m7 T] w (a8t P b p cv m w):=by
 rcases hn with ⟨h2,hT1,q,hq,hqn⟩|⟨rfl,rfl⟩
 ·rcases (by omega:n=0∨n=1) with rfl|rfl
  ·exact ⟨_,c6r,rfl,fun w hT hM=>a7L hI hN hle hT1 hq hm hs hqn w hT hM⟩
  ·exact ⟨_,c6s,rfl,fun w hT hM=>b3H hI hN hle hT1 hq hm hs hqn w hT hM⟩
 ·exact ⟨_,c6t,rfl,fun w hT hM=>b3I hI hN hm w hT hM⟩
theorem Fr.drop1 {M:Nat} {S:List Nat} {w w':World} (h:Fr (M::S) w w') (hM:w.heap.size≤M):Fr S w w' :=
 ⟨h.os,h.tape,h.output,h.size,fun k hk hn=>h.else_ k hk (fun hm=>by
  rcases yV.1 hm with e|e
  ·omega
  ·exact hn e)⟩
set_option maxHeartbeats 1000000 in
theorem c4I {w:World} {G0:Nat} {g:Gm} {L:List O0} {z:O0} {n:Nat} {T:Tx} {m:Mv} (hT:C6 w) (h:J0 w G0 g L z) (hI:B7 z.p) (hN:Y6 z.p) (hle:(A5 z.p).length≤218) (hm:m∈p9 z.p) (hs:P3 z.p m=true) (hn:b5s z.p m n T)
  (hI':B7 (made z.p m)) (hle':(A5 (made z.p m)).length≤218) (hJ:∀ n∈L++[z],B7 n.p) (hlen:L.length+2≤100000) :
  Calls G.P 52 #[.pointer (some ⟨G0,0,none⟩),m7 T,ntV n,.pointer none] w (fun r w'=>r = .returned .nilIface∧∃ g' z' y,z'.Same z∧(∃ ad n c,z'.cv = .slice (some ad) n c)∧J0 w' G0 g' (L++[z']) y∧w.heap.size≤y.M∧y.d.mv=m∧(y.d.tags:Int)=a8N z.p m
  ∧y.p=made z.p m∧w.heap.size≤y.P∧((g'.meth:Int),g'.out)=D5 ((L++[z]).map O0.p++[y.p]) y.p ((g.meth:Int),g.out)∧Fr [z.M,z.P,G0] w w'):=by
 have hpos:=h.pos;obtain ⟨f,hd,hfn,hdc⟩:=c0r (P:=g.P) (b:=z.b) (cv:=z.cv) hI hN hle hm hs hn;unfold ntV;refine zN func52 ?_;refine zG ?_;refine B0 (σ:=Nat×Value×Nd) [9,10] 11 (fun s=>[(9,.pointer (some ⟨s.1,0,none⟩)),(10,.nilIface)]) (fun s w'=>G8 w' z.P z.b z.p s.2.1∧Tn z.P w w'∧w.heap.size≤s.1∧w'.heap[s.1]?=some (.cells (F7 s.2.2) 141 (0,0))∧s.2.2.mv=m∧(s.2.2.tags:Int)=a8N z.p m∧s.2.2.kids = .slice none 0 0∧∀ k,s.2.1.ownBlock=some k→(z.cv.ownBlock=some k∨w.heap.size≤k)∧k≠s.1) zk ?_ (fun s j w3 hs3=>?_)
 ·have c2:Cl w w.drew:=Cl.drew (Cl.refl _);have h2:=h.step c2;refine zR ?_;refine H7.mk3 (fun w'=>w'.heap[G0]?=some (.cells (gmA g) 131 (0,0))) [0,1,2,3,4,5,6,7,8] (.cons 9 (.cons 10 (.cons 11 (.cons 12 (.cons 13 (.cons 14 .done .nil) .nil) (.cons 13 (.cons 12 (.cons 14 .done .nil) .nil) .nil)) (.cons 12 (.cons 11 (.cons 13 (.cons 14 .done .nil) .nil) .nil) .nil)) .nil) .nil) h2.hb zk (zR ?_);refine l9 _ (fun w' hw=>a4W hw) (zR ?_);refine b3K (zR ?_);refine b1a rfl hd (zE ?_);refine b6C #[.agg #[],.pointer (some ⟨g.P,0,none⟩),m7 T] rfl hd hfn (by rw [zb];rfl) ?_
  refine (hdc w.drew (hT.cl c2) h2.posM).mono ?_;rintro r w3 ⟨cv',M,d,rfl,hM3,n3,sM,hX,hmv,htg,hk,hown⟩;refine ⟨_,rfl,?_⟩;rw [hpos] at hM3 n3;have hb3:=n3.blk h2.hb (G9 h2.hb h2.chn.last.2.2.hd zd);iterate 20 (all_goals (first|exact trivial|refine And.intro hb3 ?_|refine And.intro ?_ ?_|refine zR ?_))
  all_goals exact ⟨(M,cv',d),⟨rfl,rfl,trivial⟩,hM3,(Tn.cl c2).trans n3,zw c2.size sM,hX,hmv,htg,hk,fun k hk=>⟨(hown k hk).1.imp id (zw c2.size),(hown k hk).2⟩⟩
 obtain ⟨M,cv',d⟩:=s;obtain ⟨hM3,n3,sM,hX,hmv,htg,hk,hown⟩:=hs3;simp only at hM3 n3 sM hX hmv htg hk hown;have h2:=h;have h3:=h2.recv n3 hM3 (fun k hk=>(hown k hk).1);have hlt:=h2.chn.lt;have hMl:∀ n∈L++[z],n.off [M]:=fun n hn=>(hlt n hn).off (fun k hk=>by rw [zY.1 hk];exact sM)
 have hoff:∀ n∈L++[{ z with cv:=cv' }],n.off [M]:=fun n hn=>by
  rcases zr.1 hn with hn|hn
  ·exact hMl n (yS _ hn)
  ·have o:=hMl z (by simp)
   rw [zY.1 hn];exact ⟨o.M,o.P,o.b,fun k hk e=>(hown k e).2 (zY.1 hk),o.kids⟩
 have hJ2:∀ n∈L++[{ z with cv:=cv' }],Ch.B7 n.p:=fun n hn=>by
  rcases zr.1 hn with hn|hn
  ·exact hJ n (yS _ hn)
  ·rw [zY.1 hn];exact hI
 have hT3:C6 w3:=hT.fr (Fr.tn (S:=[z.P]) n3 (.inl (by simp))) fun k hk cs t fz hh=>by
  rw [zY.1 hk] at hh;rw [← (xP (yp (h2.chn.last.2.2.hd.symm.trans hh))).2.1];decide
 have hGM:=c2q (d:=d) hT3 h3 hI hN hle (by rw [hmv];exact hm) (by rw [hmv];exact htg) hk hX hoff (by rw [hmv];exact hI') (by rw [hmv];exact hle') hJ2 hlen
 refine zR ?_;refine G7 true (E6 rfl) (zR ?_);refine m8 hGM ?_;rintro e w4 ⟨rfl,g',z',y,⟨hsame.M,hsame.P,hsame.b,hsame.p⟩,hkc,hG4,y1,y2,y3,y4,y5,hend,f4⟩;refine ⟨_,rfl,zR ?_⟩;have s3:=n3.size;have hmap:(L++[{ z with cv:=cv' }]).map O0.p=(L++[z]).map O0.p:=by simp
 rw [hmap] at hend;refine ⟨rfl,g',z',y,⟨hsame.M,hsame.P,hsame.b,hsame.p⟩,hkc,hG4,by rw [y1];omega,y2.trans hmv,by rw [y3];exact htg,by rw [y4,hmv],zo,hend,?_⟩
 have f4:Fr [M,z.M,z.P,G0] w3 w4:=f4;have f3:Fr [M,z.M,z.P,G0] w w3:=Fr.tn n3 (.inl (by simp))
 exact (f3.trans f4).drop1 zo
end
