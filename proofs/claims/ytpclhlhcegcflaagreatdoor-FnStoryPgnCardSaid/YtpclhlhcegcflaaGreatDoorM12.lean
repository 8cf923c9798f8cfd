/- One part of the proof: Pk15 Law9 TxM Fac Pk16 Pk17 Pk18 Pk19. -/
import Derived.Laws.BytesArg
import Derived.Lib.AppendStr
import Derived.Test.YtpclhlhcegcflaaGreatDoorM11
namespace Go.Proofs.YtpclhlhcegcflaaGreatDoor
open Go.Proofs.Tryz
set_option maxRecDepth 100000
set_option linter.unusedSimpArgs false
set_option linter.unusedVariables false
section
open Go Go.RowKit
open E
open Ch Bb
theorem a6c.toCl {b0:Nat} {w0 w w':World} {v v':Value} (h:a6c b0 w v w' v') (hb:w0.heap.size=b0) (hc:Cl w0 w):Cl w0 w':=h.cl w0 hb hc
theorem a5D {p:l9} (hI:D0 p) (hle:(B5 p).length≤218):(N9 p).length≤220:=by
 unfold N9;rw [zF];have:(a0V p).length≤2:=by unfold a0V;split<;>split<;>simp
 omega
theorem a7q {P:Program} (w:World) (t ty e:TypeId) (i:TypeInfo) (ht:P.underlying t=some (.slice e)) (hi:P.info? e=some i) (b a:Addr) (sLen sCap c:Nat) (h:sLen≤sCap) :
  (Builtin.append_ #[t,t] ty #[.slice (some b) sLen sCap,.slice (some a) 0 c]).run P w = .ok (.slice (some b) sLen sCap) w:=by
 have hf:=run_firstCells_some (P:=P) w i.size 0 a 0 c [] (by simp) (by simp)
 simp [Builtin.append_,run_underlying ht,sizeOf,typeInfo,hi,Builtin.lenOf,h,hf,storeCells]
theorem b8K {α:Type} {t e z b:Nat} (E1:F0 t e z b) {enc:α→List Value} {l news:List α} {dst:Option Nat} {s x:Operand} {ty:Nat} {pos:String} {af:Array Edge} {gd:Option (Nat×Bool)} {env:C8} {w:World} {K:Value→World→Prop}
  {g0 g c:Nat} (hs:ev env s = .slice (some ⟨g0,0,none⟩) l.length l.length) (hA:∀ (j:Nat) (u:Value),(l.flatMap enc)[j]?=some u→w.cell? ⟨g0,j,none⟩=some u)
  (hx:ev env x = .slice (some ⟨g,0,none⟩) news.length c) (hB:∀ (j:Nat) (u:Value),(news.flatMap enc)[j]?=some u→w.cell? ⟨g,j,none⟩=some u) (henc:∀ x,(enc x).length=z)
  (hlen:l.length+news.length≤1000) (hbz:b≤1000)
  (h:∀ a c w',Cl w w'→K (.slice (some a) (l.length+news.length) c) w') :
  H4 G.P { dst,op:=.call { callee:=.builtin .append,args:=#[s,x],argTypes:=#[t,t] },type:=ty,pos,after:=af,guard:=gd } env w K:=by
 obtain ⟨i,zv,hi,hzv,hsz,hby,hzs⟩:=E1.info;by_cases hn:news.length=0
 ·have h1:=a7q (P:=G.P) w t ty e i E1.ty hi ⟨g0,0,none⟩ ⟨g,0,none⟩ l.length l.length c (yJ _);refine ⟨.inl ⟨_,w,?_,by have:=h ⟨g0,0,none⟩ l.length w (Cl.refl _);rw [hn,Nat.add_zero] at this;exact this⟩⟩
  simp only [execOp,resolve,invoke,builtin,yj,xY,yp,xO,yQ,xb,hs,hx,hn,h1]
 ·have hcap:Builtin.nextslicecap (l.length+news.length) l.length≤4*(l.length+news.length)+64:=by
   have:=nextslicecap_le (need:=l.length+news.length) (old:=l.length) zo;omega
  have h1:=run_append_grow (P:=G.P) w t ty e i zv E1.ty hi hzv ⟨g0,0,none⟩ l.length l.length (l.flatMap enc) (by rw [G4 henc,hsz]) (fun j v hv=>by rw [E3,yW];exact hA j v hv) ⟨g,0,none⟩ news.length c (news.flatMap enc) (by rw [G4 henc,hsz]) (fun j v hv=>by rw [E3,yW];exact hB j v hv)
   zo zo (by
    have:Builtin.nextslicecap (l.length+news.length) l.length*i.bytes≤5000*1000:=Nat.mul_le_mul zo zo;omega)
  have hc:=(Cl.drew (Cl.refl w)).trans (Cl.alloc w.drew (.cells ((l.flatMap enc).toArray++(news.flatMap enc).toArray++Builtin.zeroCells zv.cells (grownCap w (l.length+news.length) l.length e-(l.length+news.length))) e));generalize w.drew.alloc (.cells ((l.flatMap enc).toArray++(news.flatMap enc).toArray++Builtin.zeroCells zv.cells (grownCap w (l.length+news.length) l.length e-(l.length+news.length))) e)=w2 at *;refine ⟨.inl ⟨.slice (some ⟨w.heap.size,0,none⟩) (l.length+news.length) (grownCap w (l.length+news.length) l.length e),w2,?_,h _ _ _ hc⟩⟩;simp only [execOp,resolve,invoke,builtin,yj,xY,yp,xO,yQ,xb,hs,hx,h1]
theorem a6Y {p:l9} (hI:D0 p) {ck:Bool} (hck:o5 p=true→ck=true) (first:Bool) (hle:first=false→(B5 p).length≤218) {P b:Nat} {cv:Value} (w:World) (hT:D5 w)
  (hP:w.heap[P]?=some (.cells (hdA b (E6 p ck) cv) 173 (0,0))) (hB:w.heap[b]?=some (.cells (H3 (A4 p)) 237 (0,0))) :
  Calls G.P 139 #[.agg #[],.pointer (some ⟨P,0,none⟩),.bool first] w (fun r w'=>Cl w w'∧∃ v,r = .returned v∧if first=true then ∃ a n c,v = .slice a n c∧(0<n↔a35 p ck≠[]) else Row 141 11 D4 w.heap.size w' v (a35 p ck)):=by
 refine zN func139 ?_;refine zR ?_;have hPs:P<w.heap.size:=(yh.1 hP).1;have hbx:=Cl.alloc w (.cells #[] 186);generalize w.alloc (.cells #[] 186)=w0 at *;have hst:=b3L hI first hle w0 (hT.cl hbx) (hbx.blk hP) (hbx.blk hB)
 refine o7 hst ?_;rintro r w1 ⟨c1,v,rfl,hv⟩;have c1':=hbx.trans c1;obtain ⟨av,nv,kv,rfl⟩:∃ a n c,v = .slice a n c:=by
  cases first
  ·rw [zJ zd] at hv;obtain ⟨a,c,e,_⟩:=hv.form;exact ⟨_,_,_,e⟩
  ·rw [zM rfl] at hv;rcases hv with ⟨_,hv⟩|⟨_,g,y,u,e,_⟩
   ·obtain ⟨a,c,e,_⟩:=hv.form;exact ⟨_,_,_,e⟩
   ·exact ⟨_,_,_,e⟩
 refine ⟨_,rfl,zR ?_⟩;refine o7 (b8J hI hck w1 (hT.cl c1') (c1'.blk hP) (c1'.blk hB)) ?_;rintro r w2 ⟨c2,g,rfl,hg,hgc⟩;have c2':=c1'.trans c2;have hm2:=b1M p ck;have hmac:a35 p ck=B5 p++a3i p ck:=rfl;refine ⟨_,rfl,zR ?_⟩;have s0:w0.heap.size≤w2.heap.size:=(c1.trans c2).size;cases first
 ·have hle:=hle rfl;rw [zJ zd] at hv;refine a5u b2n (v:=.slice av nv kv) (l:=B5 p) (news:=a3i p ck) rfl (hv.step c2) rfl hgc J9 F8 zo zd s0 fun v' w' hr hgr=>?_;obtain ⟨a9,c9,rfl,_⟩:=hr.form;refine zR ?_;refine ⟨hgr.toCl rfl ((Cl.refl _).trans (c1.trans c2)) |> hbx.trans,_,rfl,?_⟩;rw [zJ zd,hmac];exact hr.mono hbx.size
 ·rw [zM rfl] at hv;rcases hv with ⟨h0,hv⟩|⟨h0,g1,y,u,e1,hy⟩
  ·refine a5u b2n (v:=.slice av nv kv) (l:=[]) (news:=a3i p ck) rfl (hv.step c2) rfl hgc J9 F8 (by simp;omega) zd s0 fun v' w' hr hgr=>?_
   obtain ⟨a9,c9,rfl,_⟩:=hr.form;refine zR ?_;refine ⟨hgr.toCl rfl ((Cl.refl _).trans (c1.trans c2)) |> hbx.trans,_,rfl,?_⟩;rw [zM rfl,hmac,h0];exact ⟨_,_,_,rfl,List.length_pos_iff⟩
  ·injection e1 with e1 e2 e3;subst e1 e2 e3;refine b8K b2n (l:=[y]) (news:=a3i p ck) rfl (fun j x hx=>?_) rfl hgc J9 (by simp;omega) zd fun a c w' c3=>?_
   ·rw [C9 (c2.blk hy)];simp only [xZ,List.flatMap_nil,zn] at hx;rw [← hx];simp [E8,D4]
   refine zR ?_;refine ⟨c2'.trans c3,_,rfl,?_⟩;rw [zM rfl,hmac];exact ⟨_,_,_,rfl,fun _ e=>h0 (List.append_eq_nil_iff.1 e).1,fun _=>Nat.add_pos_left Nat.one_pos _⟩
structure I0 (w:World) (P b:Nat) (p:l9) (cv:Value):Prop where
 hd:w.heap[P]?=some (.cells (hdA b (E6 p (o5 p)) cv) 173 (0,0))
 bd:w.heap[b]?=some (.cells (H3 (A4 p)) 237 (0,0))
 ca:cv = .slice none 0 0∨Row 141 11 D4 0 w cv (N9 p)
theorem I0.step {w w':World} {P b:Nat} {p:l9} {cv:Value} (h:I0 w P b p cv) (c:Cl w w'):I0 w' P b p cv :=
 ⟨c.blk h.hd,c.blk h.bd,h.ca.elim .inl fun h=>.inr (h.step c)⟩
theorem I0.form {w:World} {P b:Nat} {p:l9} {cv:Value} (h:I0 w P b p cv):∃ a n c,cv = .slice a n c:=by
 rcases h.ca with e|e
 ·exact ⟨_,_,_,e⟩
 ·obtain ⟨a,c,e,_⟩:=e.form;exact ⟨_,_,_,e⟩
theorem I0.keep {w w':World} {P b:Nat} {p:l9} {cv:Value} (h:I0 w P b p cv) (hk:∀ (k:Nat) (cs:Array Value) (t:Nat),t≠131→w.heap[k]?=some (.cells cs t (0,0))→w'.heap[k]?=some (.cells cs t (0,0))):I0 w' P b p cv:=by
 refine ⟨hk _ _ _ zd h.hd,hk _ _ _ zd h.bd,h.ca.elim .inl fun h=>.inr ?_⟩;refine ⟨h.1,?_⟩;rcases h.2 with h2|⟨g,cap,cur,h1,h2,h3,h4⟩
 ·exact .inl h2
 ·exact .inr ⟨g,cap,cur,h1,h2,hk _ _ _ zd h3,h4⟩
theorem c4O {w:World} {P b u:Nat} {h:Hd} {cv:Value} {K:World→Prop} (hP:w.heap[P]?=some (.cells (hdA b h cv) u (0,0))) (a:Option Addr) (n c:Nat) (hk:∀ w',Upd w P (.cells (hdA b h (.slice a n c)) u (0,0)) w'→K w'):a0i G.P w 132 ⟨P,2,none⟩ (.slice a n c) K :=
 zT hP [.slice a n c] (fun w2 u2=>hk w2 u2)
theorem I0.turn {w w':World} {P b:Nat} {p:l9} {cv cv':Value} (h:I0 w P b p cv) (u:Upd w P (.cells (hdA b (E6 p (o5 p)) cv') 173 (0,0)) w') (hne:b≠P) {b0:Nat} (hr:Row 141 11 D4 b0 w cv' (N9 p)):I0 w' P b p cv':=by
 refine ⟨u.at_,(Tn.upd u).blk h.bd hne,.inr ?_⟩;have hr:=hr.mono (xA b0);refine ⟨hr.1,?_⟩;rcases hr.2 with h2|⟨g,cap,cur,h1,h2,h3,h4⟩
 ·exact .inl h2
 ·refine .inr ⟨g,cap,cur,h1,h2,(Tn.upd u).blk h3 (fun e=>?_),h4⟩;subst e;rw [h.hd] at h3;injection h3 with h3;injection h3 with _ h3 _;exact absurd h3 zd
theorem I0.ne {w:World} {P b:Nat} {p:l9} {cv:Value} (h:I0 w P b p cv):b≠P:=by
 intro e;have:=h.bd;rw [e,h.hd] at this;injection this with this;injection this with _ this _;exact absurd this zd
theorem Row.own {α:Type} {enc:α→List Value} {e z b0 k:Nat} {w:World} {v:Value} {l:List α} (h:Row e z enc b0 w v l) (hk:v.ownBlock=some k):b0≤k∧k<w.heap.size:=by
 rcases h.2 with ⟨e1,_⟩|⟨g,cap,cur,e1,e2,e3,_⟩
 ·rw [e1] at hk;cases hk
 ·rw [e1] at hk;injection hk with hk;subst hk;exact ⟨e2,(yh.1 e3).1⟩
theorem a5E {p:l9} (hI:D0 p) (hle:(B5 p).length≤218) {P b:Nat} {cv:Value} (w:World) (hT:D5 w) (hM:I0 w P b p cv) :
  Calls G.P 99 #[.pointer (some ⟨P,0,none⟩)] w (fun r w'=>∃ v cv',r = .returned v∧Row 141 11 D4 w.heap.size w' v (N9 p)∧I0 w' P b p cv'∧Tn P w w'∧Row 141 11 D4 0 w' cv' (N9 p)∧∀ k,cv'.ownBlock=some k→cv.ownBlock=some k∨w.heap.size≤k):=by
 have hl:=a5D hI hle;obtain ⟨a0,n0,c0,rfl⟩:=hM.form;have hP:=hM.hd;have hPs:P<w.heap.size:=(yh.1 hP).1;refine zN func99 ?_;refine zR ?_;refine b7 _ (a8x hP) (zR ?_);refine H6 _ (a6r rfl a0 n0 c0) ?_;cases a0 with
 | some ad =>
  refine zR ?_;refine b7 _ (a8x hP) (zR ?_);have hr:Row 141 11 D4 0 w (.slice (some ad) n0 c0) (N9 p):=hM.ca.elim (fun e=>by cases e) id
  refine K4 b2n (l:=[]) (news:=N9 p) rfl (Row.nil w w.heap.size) rfl hr J9 F8 (by simp;omega) zd (yJ _) fun v' w' hr' hg=>?_
  rw [yM] at hr';obtain ⟨a9,c9,rfl,_⟩:=hr'.form;have hc:Cl w w':=hg.toCl rfl (Cl.refl _);refine zR ?_;exact ⟨_,_,rfl,hr',hM.step hc,Tn.cl hc,hr.step hc,fun k h=>.inl h⟩
 | none =>
  refine zR ?_;refine y7 #[] zk (zR ?_);refine o7 (a6Y hI id false (fun _=>hle) w hT hP hM.bd) ?_;rintro r w1 ⟨c1,v,rfl,hv⟩;rw [zJ zd,a7A] at hv;obtain ⟨a,c,rfl,_⟩:=hv.form;refine ⟨_,rfl,?_⟩;have hM1:=hM.step c1;refine zR ?_;refine c4O hM1.hd a _ c fun w2 u2=>?_;have hM2:=hM1.turn u2 hM.ne hv;have n2:Tn P w w2:=(Tn.cl c1).trans (Tn.upd u2);refine zR ?_;refine b7 _ (a8x hM2.hd) (zR ?_);have hr:Row 141 11 D4 0 w2 (.slice a (N9 p).length c) (N9 p):=hM2.ca.elim (fun e=>by
   injection e with e1 e2 e3;subst e1 e3;have:N9 p=[]:=List.length_eq_zero_iff.1 e2;rw [this];exact Row.nil _ _) id
  refine K4 b2n (l:=[]) (news:=N9 p) rfl (Row.nil w2 w2.heap.size) rfl hr J9 F8 (by simp;omega) zd (yJ _) fun v' w' hr' hg=>?_
  rw [yM] at hr';obtain ⟨a9,c9,rfl,_⟩:=hr'.form;have hc:Cl w2 w':=hg.toCl rfl (Cl.refl _);refine zR ?_;exact ⟨_,_,rfl,hr'.mono n2.size,hM2.step hc,n2.trans (Tn.cl hc),hr.step hc,fun k h=>.inr (hv.own h).1⟩
def a9U (p:l9) (ck:Bool):Int:=if !(a35 p ck).isEmpty then 0 else if ck then 1 else 4
theorem b8L {p:l9} (hI:D0 p):a9U p (o5 p)=H9 p:=by unfold a9U H9;rw [a7A,a9F hI]
theorem a8F {p:l9} (hI:D0 p) {ck:Bool} (hck:o5 p=true→ck=true) {P b:Nat} {cv:Value} (w:World) (hT:D5 w) (hP:w.heap[P]?=some (.cells (hdA b (E6 p ck) cv) 173 (0,0))) (hB:w.heap[b]?=some (.cells (H3 (A4 p)) 237 (0,0)))
  (hcv:cv = .slice none 0 0∨(ck=o5 p∧Row 141 11 D4 0 w cv (N9 p))) :
  Calls G.P 176 #[.agg #[],.pointer (some ⟨P,0,none⟩)] w (N2 (.int .u8 (a9U p ck)) w):=by
 obtain ⟨a0,n0,c0,rfl⟩:∃ a n c,cv = .slice a n c:=by
  rcases hcv with e|⟨_,e⟩
  ·exact ⟨_,_,_,e⟩
  ·obtain ⟨a,c,e,_⟩:=e.form;exact ⟨_,_,_,e⟩
 have hb:∀ n:Nat,(0<n↔a35 p ck≠[])→decide ((n:Int)>0) = !(a35 p ck).isEmpty:=by
  intro n h;cases e:(a35 p ck).isEmpty
  ·exact zX (by have:=h.2 (fun e2=>by rw [e2] at e;cases e);omega)
  ·exact zV (fun h2=>(h.1 zo) (List.isEmpty_iff.1 e))
 have hst:a9U p ck=if !(a35 p ck).isEmpty then 0 else if ck then 1 else 4:=rfl
 refine zN func176 ?_;refine zG ?_;have cb:=Cl.alloc w (.cells #[] 186);have hP:=cb.blk hP;have hB:=cb.blk hB;have hT:=hT.cl cb;have hcv:(.slice a0 n0 c0:Value) = .slice none 0 0∨(ck=o5 p∧Row 141 11 D4 0 (w.alloc (.cells #[] 186)) (.slice a0 n0 c0) (N9 p)):=hcv.elim .inl fun h=>.inr ⟨h.1,h.2.step cb⟩;generalize w.alloc (.cells #[] 186)=w0 at *;refine Nx.mk (zG ?_);refine C3 (σ:=Unit) [5] 6 (fun _=>[(5,.bool (!(a35 p ck).isEmpty))]) (fun _ w'=>Cl w0 w') zk ?_ (fun _ j w1 c1=>?_)
 ·refine zR ?_;refine b7 _ (a8x hP) (zR ?_);refine H6 _ (a6r rfl a0 n0 c0) ?_;cases a0 with
  | some ad =>
   obtain ⟨e0,hr⟩:=hcv.elim (fun e=>by cases e) id
   obtain ⟨a,c,e,_⟩:=hr.form;injection e with e1 e2 e3;subst e2;have hmc:a35 p ck=N9 p:=by rw [e0,a7A]
   refine zR ?_;refine b7 _ (a8x hP) (zR ?_);exact ⟨(),⟨t8 (hb _ (by rw [hmc];exact List.length_pos_iff)),trivial⟩,Cl.refl _⟩
  | none =>
   refine zR ?_;refine y7 #[] zk (zR ?_);refine o7 (a6Y hI hck true (fun e=>by cases e) w0 hT hP hB) ?_
   rintro r w1 ⟨c1,v,rfl,hv⟩;rw [zM rfl] at hv;obtain ⟨a,n,c,rfl,hn⟩:=hv;refine ⟨_,rfl,zR ?_⟩;exact ⟨(),⟨t8 (hb n hn),trivial⟩,c1⟩
 have hP:=c1.blk hP;generalize (a35 p ck).isEmpty=LE at *;have cc:=cb.trans c1;refine zR ?_;refine a8z hP ?_;cases LE<;>cases ck
 ·refine zR ?_;refine a8z hP (zR ?_);exact ⟨C2 hst.symm,cc⟩
 ·refine zR ?_;refine a8z hP (zR ?_);exact ⟨C2 hst.symm,cc⟩
 ·refine zR ?_;exact ⟨C2 hst.symm,cc⟩
 ·refine zR ?_;refine a8z hP (zR ?_);exact ⟨C2 hst.symm,cc⟩
theorem a9V {p:l9} (hI:D0 p) {ck:Bool} (hck:o5 p=true→ck=true) {P b:Nat} {cv:Value} (w:World) (hT:D5 w) (hP:w.heap[P]?=some (.cells (hdA b (E6 p ck) cv) 173 (0,0))) (hB:w.heap[b]?=some (.cells (H3 (A4 p)) 237 (0,0)))
  (hcv:cv = .slice none 0 0∨(ck=o5 p∧Row 141 11 D4 0 w cv (N9 p))) :
  Calls G.P 112 #[.pointer (some ⟨P,0,none⟩)] w (N2 (.int .u8 (a9U p ck)) w):=by
 refine zN func112 ?_;refine zR ?_;refine y7 #[] zk (zR ?_);refine o9 (a8F hI hck w hT hP hB hcv) fun w1 c1=>zR ?_;exact ⟨rfl,c1⟩
theorem b6u {p:l9} (hI:D0 p) {P b:Nat} {cv:Value} (w:World) (hT:D5 w) (hM:I0 w P b p cv) :
  Calls G.P 112 #[.pointer (some ⟨P,0,none⟩)] w (N2 (.int .u8 (H9 p)) w):=by
 rw [← b8L hI];exact a9V hI id w hT hM.hd hM.bd (hM.ca.elim .inl fun h=>.inr ⟨rfl,h⟩)
end
section
open Go Go.RowKit
open E
def a0h (c:UInt8):List Value:=[.int .u8 (c.toNat:Int)]
theorem a3F (c:UInt8):(a0h c).length=1:=rfl
theorem a5F (c:UInt8):∀ v∈a0h c,v.oneCell'=true:=by intro v hv;simp [a0h] at hv;subst hv;rfl
theorem b5r (l:Tx):l.flatMap a0h=Lib.byteCells l:=by
 induction l with
 | nil=>rfl
 | cons c r ih=>rw [xZ,ih];rfl
theorem infoByte:∃ i,G.P.info? 5=some i∧i.zero=some (.int .u8 0)∧i.size=1∧i.bytes=1:=by
 have h:(G.P.info? 5).map (fun i=>(i.zero,i.size,i.bytes))=some (some (.int .u8 0),1,1):=by kernel_rfl
 cases e:G.P.info? 5 with
 | none=>rw [e] at h;cases h
 | some i =>
  rw [e] at h;injection h with h;injection h with h1 h2;injection h2 with h2 h3;exact ⟨i,rfl,h1,h2,h3⟩
section
variable {dst:Option Nat} {ty:Nat} {pos:String} {af:Array Edge} {gd:Option (Nat×Bool)} {env:C8} {w:World} {K:Value→World→Prop}
theorem a8G {b0:Nat} {v:Value} {l s:Tx} {x y:Operand} (hs:ev env x=v) (hrow:Row 5 1 a0h b0 w v l) (hx:ev env y = .string (tx s)) (hlen:l.length+s.length≤1000000) (hb0:b0≤w.heap.size)
  (h:∀ v' w',Row 5 1 a0h b0 w' v' (l++s)→(∀ w0,w0.heap.size=b0→Cl w0 w→Cl w0 w')→K v' w') :
  H4 G.P { dst,op:=.call { callee:=.builtin .append,args:=#[x,y],argTypes:=#[157,9] },type:=ty,pos,after:=af,guard:=gd } env w K:=by
 obtain ⟨i,hi,hz,hsz,hby⟩:=infoByte;obtain ⟨v',w',h1,h2,h3,_⟩:=Lib.run_append_own_string (P:=G.P) w b0 157 9 ty 5 i b0I b0G hi hz hsz hby v l.length (l.flatMap a0h) hrow (tx s) (by rw [C5];unfold maxLen;omega) (by rw [C5];omega) hb0
 have e:l.flatMap a0h++Lib.strCells (tx s)=(l++s).flatMap a0h:=by rw [x9,b5r s];rfl
 rw [e,C5] at h2;refine ⟨.inl ⟨v',w',?_,h v' w' ?_ (fun w0 hw0 hc=>?_)⟩⟩
 ·simp only [execOp,resolve,invoke,builtin,yj,xY,yp,xO,yQ,xb,hs,hx,h1]
 ·unfold Row;rw [zF];exact h2
 ·subst hw0;refine Below.grown hc h3 hb0 fun k hk=>?_;rcases hrow.2 with ⟨e1,_⟩|⟨g,cap,cur,e1,e2,_⟩
  ·rw [e1] at hk;cases hk
  ·rw [e1] at hk;injection hk with hk;subst hk;exact e2
theorem a9W (l:Tx) {b0:Nat} {v:Value} {x:Operand} (hx:ev env x=v) (hr:Row 5 1 a0h b0 w v l) (h:K (m9 l) w) :
  H4 G.P { dst,op:=.convert 157 9 x,type:=ty,pos,after:=af,guard:=gd } env w K:=by
 obtain ⟨a,c,rfl,ha⟩:=hr.form;cases a with
 | none =>
  have hl:l=[]:=by
   cases l with
   | nil=>rfl
   | cons y r=>obtain ⟨g,e⟩:=ha (by simp);cases e
  subst hl;refine ⟨.inl ⟨_,w,?_,h⟩⟩;show (do pure (Next.value (← convert _ _ (ev env x))):Sem Next).run G.P w=_
  rw [hx,yj,run_convert_bytes_nil (P:=G.P) w 157 5 b0I c2k _ _ _ b0G];rfl
 | some ad =>
  rcases hr.2 with ⟨e1,_⟩|⟨g,cap,cur,e1,e2,e3,e4,e5,e6,e7⟩
  ·cases e1
  ·injection e1 with e1 e8 e9;injection e1 with e1;subst e1;refine (a8s l hx rfl e3 (fun j hj=>?_) h);rw [wB] at e7;have e10:(cur.toList.take l.length)[j]?=(l.flatMap a0h)[j]?:=by rw [e7]
   rw [xe,zM hj,xB,b5r] at e10;rw [e10,Lib.byteCells,List.getElem?_map,ym hj];rfl
theorem b2r {l:Tx} {s:ByteArray} {k:IntKind} {b:Int} {x hi:Operand} (r:Tx) (hx:ev env x = .string s) (hh:ev env hi = .int k b) (hs:s=tx l) (h0:0≤b) (h2:b≤l.length) (hr:l.take b.toNat=r) (h:K (m9 r) w) :
  H4 G.P { dst,op:=.slice 9 x none (some hi) none,type:=ty,pos,after:=af,guard:=gd } env w K:=by
 subst hs;refine ⟨.inl ⟨_,w,?_,h⟩⟩;show (do pure (Next.value (← Instr.slice 9 (ev env x) none (some (ev env hi)) none)):Sem Next).run G.P w=_
 rw [hx,hh,yj,run_slice_string_h (P:=G.P) w 9 _ b0G _ _ h0 (by rw [C5];exact h2),tx,ByteArray.extract_mk]
 rw [← hr,List.drop_zero,Nat.sub_zero];rfl
theorem a8H {l:Tx} {s:ByteArray} {k:IntKind} {a:Int} {x lo:Operand} (r:Tx) (hx:ev env x = .string s) (hh:ev env lo = .int k a) (hs:s=tx l) (h0:0≤a) (h2:a≤l.length) (hr:l.drop a.toNat=r) (h:K (m9 r) w) :
  H4 G.P { dst,op:=.slice 9 x (some lo) none none,type:=ty,pos,after:=af,guard:=gd } env w K:=by
 subst hs;refine ⟨.inl ⟨_,w,?_,h⟩⟩;show (do pure (Next.value (← Instr.slice 9 (ev env x) (some (ev env lo)) none none)):Sem Next).run G.P w=_
 rw [hx,hh,yj,run_slice_string_l (P:=G.P) w 9 _ b0G _ _ h0 (by rw [C5];exact h2),tx,ByteArray.extract_mk]
 rw [← hr,show (⟨l.toArray⟩:ByteArray).size=l.length from C5 l,List.take_of_length_le (by simp)];rfl
end
end
section
namespace Ch
def a1J (p:l9) (l:List PM) (m:Mv):List PM:=l.filter fun x=>!decide (x.mv.fr=m.fr)&&decide (x.mv.to=m.to)&&decide (sq p m.fr=sq p x.mv.fr)
def s1M (p:l9) (l:List PM) (m:Mv):Tx :=
 if d6 (sq p m.fr)=6 then []
 else
  let req:=!(a1J p l m).isEmpty;let rankReq:=(a1J p l m).any fun x=>decide (x.mv.fr%8=m.fr%8);let fileReq:=(a1J p l m).any fun x=>decide (x.mv.fr/8=m.fr/8)
  (if fileReq||(!rankReq&&req) then D2 m.fr else [])++(if rankReq then rankT m.fr else [])
theorem a6w {p:l9} (hI:D0 p) (m:Mv) (f:Int→Bool):((a1J p (N9 p) m).any fun x=>f x.mv.fr)=((P7 p m).any fun x=>f x.fr):=by
 obtain ⟨h1,h2⟩:=a1X hI;rw [yv,xD,xD];unfold a1J P7;constructor
 ·rintro ⟨x,hx,hf⟩;obtain ⟨ha,hb⟩:=xW.1 hx;simp only [zP,zc,zW,zZ] at hb;refine ⟨x.mv,xW.2 ⟨(h1 x ha).1,?_⟩,hf⟩;simp only [zP,zc,zW,zZ];exact ⟨⟨hb.1.2,hb.1.1⟩,hb.2.symm⟩
 ·rintro ⟨y,hy,hf⟩;obtain ⟨ha,hb⟩:=xW.1 hy;simp only [zP,zc,zW,zZ] at hb;obtain ⟨x,hx,e⟩:=h2 y ha;refine ⟨x,xW.2 ⟨hx,?_⟩,by rw [e];exact hf⟩
  rw [e];simp only [zP,zc,zW,zZ];exact ⟨⟨hb.1.2,hb.1.1⟩,hb.2.symm⟩
theorem b2s {α:Type} (l:List α):l.isEmpty = !(l.any fun _=>true):=by cases l<;>rfl
theorem c3t {p:l9} (hI:D0 p) (m:Mv) (f0:0≤m.fr) (f1:m.fr≤63) (hk:d6 (sq p m.fr)≠6):s1M p (N9 p) m=apart p m:=by
 unfold s1M apart;rw [zJ hk];have e1:=a6w hI m (fun f=>decide (f%8=m.fr%8));have e2:=a6w hI m (fun f=>decide (f/8=m.fr/8));have e3:=a6w hI m (fun _=>true);simp only [b2s,e1,e2,e3];have i1:((P7 p m).any fun x=>decide (x.fr%8=m.fr%8))=true→((P7 p m).any fun _=>true)=true:=by
  intro h;obtain ⟨x,hx,_⟩:=xD.1 h;exact xD.2 ⟨x,hx,rfl⟩
 have i2:((P7 p m).any fun x=>decide (x.fr/8=m.fr/8))=true→((P7 p m).any fun _=>true)=true:=by
  intro h;obtain ⟨x,hx,_⟩:=xD.1 h;exact xD.2 ⟨x,hx,rfl⟩
 have hs:sqT m.fr=D2 m.fr++rankT m.fr:=by unfold sqT;rw [zJ zo]
 generalize ((P7 p m).any fun x=>decide (x.fr%8=m.fr%8))=a at *;generalize ((P7 p m).any fun x=>decide (x.fr/8=m.fr/8))=b at *;generalize ((P7 p m).any fun _=>true)=c at *;cases a<;>cases b<;>cases c<;>simp at * <;> simp [hs]
def a2d (p:l9) (m:Mv) (t:Nat):Tx:=if t.testBit 4 then (if (a35 (made p m) true).isEmpty then [35] else [43]) else []
def b8M (p:l9) (m:Mv) (t:Nat):Tx :=
 if t.testBit 0 then [79,45,79]++a2d p m t
 else if t.testBit 1 then [79,45,79,45,79]++a2d p m t
 else D7 (d6 (sq p m.fr))++s1M p (N9 p) m++(if t.testBit 2||t.testBit 3 then (if d6 (sq p m.fr)=6 then D2 m.fr else [])++[120] else [])++sqT m.to++(if m.promo=0 then [] else [61]++D7 m.promo)++a2d p m t
theorem a07 (p:l9) (m:Mv):t7 p m=0∨t7 p m=1∨t7 p m=2:=by
 unfold t7;(repeat' split)<;>simp
theorem a2C {p:l9} {m:Mv} {t:Nat} {ck:Bool} (h:(t:Int)=K5 p m+(if ck then 16 else 0)):t.testBit 0=decide (t7 p m=1)∧t.testBit 1=decide (t7 p m=2)∧(t.testBit 2||t.testBit 3)=C1 p m∧t.testBit 4=ck:=by
 have hx:(if sq p m.to≠0 then (4:Int) else if C1 p m then 8 else 0)=0∧C1 p m=false∨(if sq p m.to≠0 then (4:Int) else if C1 p m then 8 else 0)=4∧C1 p m=true∨(if sq p m.to≠0 then (4:Int) else if C1 p m then 8 else 0)=8∧C1 p m=true:=by
  by_cases h0:sq p m.to≠0
  ·right;left;rw [zM h0];refine ⟨rfl,?_⟩;unfold C1;simp [h0]
  ·rw [zJ h0];cases C1 p m
   ·left;exact ⟨rfl,rfl⟩
   ·right;right;exact ⟨rfl,rfl⟩
 unfold K5 at h;rcases a07 p m with hc|hc|hc<;>rw [hc] at h ⊢ <;> rcases hx with ⟨e,e2⟩|⟨e,e2⟩|⟨e,e2⟩<;>rw [e] at h<;>rw [e2]<;>cases ck
 ·rw [show t=0+0+0 by simp at h;omega];decide
 ·rw [show t=0+0+16 by simp at h;omega];decide
 ·rw [show t=0+4+0 by simp at h;omega];decide
 ·rw [show t=0+4+16 by simp at h;omega];decide
 ·rw [show t=0+8+0 by simp at h;omega];decide
 ·rw [show t=0+8+16 by simp at h;omega];decide
 ·rw [show t=1+0+0 by simp at h;omega];decide
 ·rw [show t=1+0+16 by simp at h;omega];decide
 ·rw [show t=1+4+0 by simp at h;omega];decide
 ·rw [show t=1+4+16 by simp at h;omega];decide
 ·rw [show t=1+8+0 by simp at h;omega];decide
 ·rw [show t=1+8+16 by simp at h;omega];decide
 ·rw [show t=2+0+0 by simp at h;omega];decide
 ·rw [show t=2+0+16 by simp at h;omega];decide
 ·rw [show t=2+4+0 by simp at h;omega];decide
 ·rw [show t=2+4+16 by simp at h;omega];decide
 ·rw [show t=2+8+0 by simp at h;omega];decide
 ·rw [show t=2+8+16 by simp at h;omega];decide
theorem V9 {p:l9} (hI:D0 p) {m:Mv} (h:m∈A1 p):0≤m.fr∧m.fr≤63∧0≤m.to∧m.to≤63∧(m.promo=0∨2≤m.promo∧m.promo≤5∧d6 (sq p m.fr)=6):=by
 rcases (S6 hI m).1 h with ⟨h,_⟩|⟨r,hr,_⟩
 ·refine ⟨h.f0,h.f1,h.t0,h.t1,?_⟩;rcases h.promo with ⟨e,_⟩|⟨e1,e2,e3,_⟩
  ·exact .inl e
  ·exact .inr ⟨e1,e2,e3⟩
 ·obtain ⟨r4,_,_,hc⟩:=J7 hI hr;obtain ⟨⟨k0,k1,_⟩,_⟩:=a1t r r4;have hk:=hc.k;have ht:=hI.turn;have hw:(if C0 r<A2 r then (-1:Int) else 1)=1∨(if C0 r<A2 r then (-1:Int) else 1)=-1:=by split<;>simp
  rw [hc.mv];simp only
  generalize (if C0 r<A2 r then (-1:Int) else 1)=w at hw
  exact ⟨k0,k1,zo,zo,.inl trivial⟩
theorem b6v (m:Mv):(if m.promo=0 then ([]:Tx) else [61]++D7 m.promo)=Z6 m:=by unfold Z6;split<;>rfl
theorem b8N {p:l9} (hI:D0 p) {m:Mv} (hm:m∈A1 p) {t:Nat} (h:(t:Int)=a0W p m):a2d p m t=a1Y p m:=by
 unfold a2d a1Y;rw [(a2C h).2.2.2];cases e:o5 (made p m)
 ·rfl
 ·rw [← a9F (hI.made hm),← a7A,e];rfl
theorem b6w {p:l9} (hI:D0 p) {m:Mv} (hm:m∈A1 p) {t:Nat} {ck:Bool} (h:(t:Int)=K5 p m+(if ck then 16 else 0)):b8M p m t=body p m++a2d p m t:=by
 obtain ⟨b0,b1,b2,b3⟩:=a2C h;obtain ⟨f0,f1,t0,t1,hp⟩:=V9 hI hm;unfold b8M body;rw [b0,b1,b2];rcases a07 p m with hc|hc|hc
 ·rw [hc,b6v];have d1:decide ((0:Int)=1)=false:=rfl;have d2:decide ((0:Int)=2)=false:=rfl;rw [d1,d2,zJ (show ¬ (0:Int)=1 by decide),zJ (show ¬ (0:Int)=2 by decide),zJ Bool.false_ne_true,zJ Bool.false_ne_true]
  by_cases hk:d6 (sq p m.fr)=6
  ·rw [zM hk,zM hk,hk];unfold s1M;rw [zM hk];cases C1 p m<;>simp [D7]
  ·rw [zJ hk,zJ hk,c3t hI m f0 f1 hk];have hp0:m.promo=0:=by
    rcases hp with e|⟨_,_,e⟩
    ·exact e
    ·exact absurd e hk
   unfold Y1 Z6;rw [zM hp0];cases C1 p m<;>simp
 ·rw [hc];simp
 ·rw [hc];simp
theorem c1i {p:l9} (hI:D0 p) {m:Mv} (hm:m∈A1 p) {t:Nat} (h:(t:Int)=a0W p m):b8M p m t=a28 p m:=by
 rw [b6w hI hm h,b8N hI hm h];rfl
end Ch
namespace Ch
def b5s (p:l9):Bool :=
 if a04 (fun i=>decide (d6 (sq p i)=2)||decide (d6 (sq p i)=3)||decide (d6 (sq p i)=6)) 64 then true
 else
  let n:=H1 (fun i=>decide (d6 (sq p i)=5)) 64;let b:=H1 (fun i=>decide (d6 (sq p i)=4)) 64;let b0:=H1 (fun i=>decide (d6 (sq p i)=4)&&decide ((o4 i+k9 i)%2=0)) 64;let b1:=H1 (fun i=>decide (d6 (sq p i)=4)&&decide ((o4 i+k9 i)%2=1)) 64
  if b=0∧n=0 then false else if b=1∧n=0 then false else if b=0∧n=1 then false
  else if n=0 then (if b1=0∨b0=0 then false else true) else true
theorem b6x (f g:Nat→Bool) (n:Nat):H1 f n=H1 (fun i=>f i&&g i) n+H1 (fun i=>f i && !g i) n:=by
 induction n with
 | zero=>rfl
 | succ n ih =>
  simp only [H1,ih];by_cases hf:f n=true<;>by_cases hg:g n=true<;>simp [hf,hg]<;>omega
theorem a9X {f g:Nat→Bool} (n:Nat) (h:∀ i,i<n→f i=g i):H1 f n=H1 g n:=by
 induction n with
 | zero=>rfl
 | succ n ih=>simp only [H1];rw [ih (fun i hi=>h i zo),h n zo]
theorem b8O (p:l9):b5s p = !a4v p:=by
 unfold b5s a4v;split
 ·rfl
 ·have hs:=b6x (fun i=>decide (d6 (sq p i)=4)) (fun i=>decide ((o4 i+k9 i)%2=0)) 64;have hb:H1 (fun i=>decide (d6 (sq p i)=4) && !decide ((o4 i+k9 i)%2=0)) 64=H1 (fun i=>decide (d6 (sq p i)=4)&&decide ((o4 i+k9 i)%2=1)) 64:=by
   apply a9X;intro i _;congr 1;by_cases h:(o4 i+k9 i)%2=0
   ·simp [h]
   ·have:(o4 i+k9 i)%2=1:=by omega
    simp [this]
  rw [hb] at hs;generalize H1 (fun i=>decide (d6 (sq p i)=5)) 64=n at *;generalize H1 (fun i=>decide (d6 (sq p i)=4)) 64=b at *;generalize H1 (fun i=>decide (d6 (sq p i)=4)&&decide ((o4 i+k9 i)%2=0)) 64=b0 at *;generalize H1 (fun i=>decide (d6 (sq p i)=4)&&decide ((o4 i+k9 i)%2=1)) 64=b1 at *;simp only
  by_cases h1:b=0∧n=0
  ·rw [zM h1,zJ zo];simp;omega
  rw [zJ h1];by_cases h2:b=1∧n=0
  ·rw [zM h2,zJ zo];simp;omega
  rw [zJ h2];by_cases h3:b=0∧n=1
  ·rw [zM h3,zM zo];simp;omega
  rw [zJ h3];by_cases h4:n=0
  ·rw [zM h4,zJ (show ¬ 0<n by omega)]
   by_cases h5:b1=0∨b0=0
   ·rw [zM h5];simp;omega
   ·rw [zJ h5];simp;omega
  ·rw [zJ h4,zM zo];simp;omega
theorem b2t {p:l9} {m:Mv} (hp:m.promo=0∨2≤m.promo∧m.promo≤5) (h:Y6 p m=true):W7 p m=a0W p m:=by
 unfold W7 a0W;congr 1;have:a1B p m=o5 (made p m):=by
  unfold a1B;rcases hp with e|⟨e1,e2⟩
  ·rw [zM e]
  ·rw [zJ zo,yv,xD];constructor
   ·rintro ⟨k,hk,hc⟩;simp only [zP,zW] at hc;by_cases e:k=m.promo
    ·subst e;exact hc.2
    ·have:=zl.1 h k hk;simp only [zc,xn,Bool.not_eq_false',zZ] at this;rcases this with (h1|h1)|h1
     ·omega
     ·rw [h1] at hc;cases hc.2
     ·exact h1
   ·intro hc;refine ⟨m.promo,?_,?_⟩
    ·have:m.promo=2∨m.promo=3∨m.promo=4∨m.promo=5:=by omega
     rcases this with e|e|e|e<;>rw [e]<;>decide
    ·simp only [zP,zW];exact ⟨zo,hc⟩
 rw [this]
def epM (p:l9) (m:Mv):Int :=
 if d6 (sq p m.fr)≠6 then -1
 else if p.turn=0∧k9 m.fr=1∧k9 m.to=3 then m.to-8
 else if p.turn=1∧k9 m.fr=6∧k9 m.to=4 then m.to+8
 else -1
theorem c3u {p:l9} (hI:D0 p) {m:Mv} (hm:m∈A1 p):epM p m=(made p m).ep:=by
 show _=if G3 p m then (m.fr+m.to)/2 else -1
 have ht:=hI.turn;rcases (S6 hI m).1 hm with ⟨h,_⟩|⟨r,hr,_⟩
 ·unfold epM;have f0:=h.f0;have f1:=h.f1;cases h2:G3 p m
  ·simp only [yD,xh];by_cases hk:d6 (sq p m.fr)=6
   ·rw [zJ (by simp [hk])]
    unfold G3 at h2;rw [hk] at h2;simp only [decide_true,yV,yA,zZ] at h2;rcases V5 hI h.f0 h.f1 h.there h.own h.goal with ⟨g,_⟩|⟨_,_,gf,g⟩|⟨_,gf,g,_⟩
    ·exact absurd hk g
    ·rw [zJ,zJ]<;>(simp only [o4,k9,up] at *;omega)
    ·rw [zJ,zJ]<;>(simp only [o4,k9,up] at *;omega)
   ·rw [zM hk]
  ·obtain ⟨hk,hto,hrk,_,_⟩:=b4P hI h h2;rw [zJ (by simp [hk]),zM rfl]
   rcases ht with t|t
   ·have hfr:k9 m.fr=1:=by rw [hrk,t];decide
    have hto':m.to=m.fr+16:=by rw [hto,t];unfold up;omega
    rw [zM ⟨t,hfr,by simp only [k9] at *;omega⟩];omega
   ·have hfr:k9 m.fr=6:=by rw [hrk,t];decide
    have hto':m.to=m.fr-16:=by rw [hto,t];unfold up;omega
    rw [zJ zo,zM ⟨t,hfr,by simp only [k9] at *;omega⟩];omega
 ·obtain ⟨_,_,_,hc⟩:=J7 hI hr;rw [a33 hI hc];unfold epM;rw [zM]
  ·rfl
  ·rw [hc.mv];simp only [hc.king,a0d hI];decide
def G8 (t:Tx) (b:UInt8):Tx:=t.filter fun x=>x != b
def c3v (t:Tx):Tx:=if t.isEmpty then [45] else t
def crM (t:Tx) (f0 f1 f2 f3:Bool):Tx :=
 let t:=if f0 then G8 t 75 else t
 let t:=if f1 then G8 t 81 else t
 let t:=if f2 then G8 t 107 else t
 let t:=if f3 then G8 t 113 else t
 c3v t
theorem c1j {c:Int} (h0:0≤c) (h1:c≤15) (f0 f1 f2 f3:Bool):crM (B9 c) f0 f1 f2 f3=B9 (c00 c f0 f1 f2 f3):=by
 rcases b0C h0 h1 with rfl|rfl|rfl|rfl|rfl|rfl|rfl|rfl|rfl|rfl|rfl|rfl|rfl|rfl|rfl|rfl<;>revert f0 f1 f2 f3<;>decide
theorem b3N (c:Int) {a0 a1 a2 a3 b0 b1 b2 b3:Bool} (h0:U2 c 0=true→a0=b0) (h1:U2 c 1=true→a1=b1) (h2:U2 c 2=true→a2=b2) (h3:U2 c 3=true→a3=b3) :
  a6f c a0 a1 a2 a3=a6f c b0 b1 b2 b3:=by
 have q:∀ (a b x:Bool),(x=true→a=b)→(x&&a)=(x&&b):=by intro a b x h;cases x<;>simp at *;exact h
 unfold a6f;rw [q _ _ _ h0,q _ _ _ h1,q _ _ _ h2,q _ _ _ h3]
def crF (p:l9) (m:Mv) (n:Nat):Bool :=
 if n=0 then decide (sq p m.fr=1)||decide (m.fr=7)||decide (m.to=7)
 else if n=1 then decide (sq p m.fr=1)||decide (m.fr=0)||decide (m.to=0)
 else if n=2 then decide (sq p m.fr=7)||decide (m.fr=63)||decide (m.to=63)
 else decide (sq p m.fr=7)||decide (m.fr=56)||decide (m.to=56)
theorem b2u {p:l9} (hI:D0 p) {m:Mv} (hm:m∈A1 p) (c:Int) (hc:c=0∨c=1):sq p m.to≠1+6*c:=by
 have ht:=hI.turn;rcases (S6 hI m).1 hm with ⟨h,_⟩|⟨r,hr,_⟩
 ·by_cases e:c=p.turn
  ·subst e;rcases h.other with e|e
   ·rw [e];omega
   ·intro e2;apply e;rw [e2];exact P5 zd zd ht
  ·have:c=1-p.turn:=by omega
   subst this;exact b4O hI h.f0 h.f1 h.there h.own h.goal
 ·obtain ⟨_,_,_,hcc⟩:=J7 hI hr;rw [hcc.mv];simp only;rw [hcc.to];omega
theorem b0S {p:l9} (hI:D0 p) {m:Mv} (hm:m∈A1 p) (n:Nat) (hn:n<4) (hb:U2 p.castle n=true):crF p m n=a1U m n:=by
 obtain ⟨s1,s2⟩:=hI.right n hn hb;obtain ⟨f0,f1,_,_,_⟩:=V9 hI hm;have hside:(n:Int)/2=0∨(n:Int)/2=1:=by omega
 have hK:=hI.king _ hside;obtain ⟨⟨k0,k1,_⟩,_⟩:=a1t n hn;have e1:sq p m.fr=1+6*((n:Int)/2)↔m.fr=A2 n:=by
  constructor
  ·intro h;rw [hK.2.2.2 _ f0 f1 h,hK.2.2.2 _ k0 k1 s1]
  ·intro h;rw [h];exact s1
 have e2:¬ m.to=A2 n:=by intro h;exact b2u hI hm _ hside (by rw [h];exact s1)
 unfold a1U crF;rw [zV e2,Bool.or_false];have hnn:n=0∨n=1∨n=2∨n=3:=by omega
 rcases hnn with rfl|rfl|rfl|rfl
 ·rw [zM rfl,show decide (sq p m.fr=1)=decide (m.fr=A2 ((0:Nat):Int)) from ya.2 e1];rfl
 ·rw [zJ zd,zM rfl,show decide (sq p m.fr=1)=decide (m.fr=A2 ((1:Nat):Int)) from ya.2 e1];rfl
 ·rw [zJ zd,zJ zd,zM rfl,show decide (sq p m.fr=7)=decide (m.fr=A2 ((2:Nat):Int)) from ya.2 e1];rfl
 ·rw [zJ zd,zJ zd,zJ zd,show decide (sq p m.fr=7)=decide (m.fr=A2 ((3:Nat):Int)) from ya.2 e1];rfl
theorem c3w {p:l9} (hI:D0 p) {m:Mv} (hm:m∈A1 p):crM (B9 p.castle) (crF p m 0) (crF p m 1) (crF p m 2) (crF p m 3)=B9 (made p m).castle:=by
 rw [c1j hI.c0 hI.c1];show _=B9 (left p.castle m);rw [b1H,b0D hI.c0 hI.c1,b0D hI.c0 hI.c1];congr 1;exact b3N _ (fun h=>by rw [b0S hI hm 0 zd h];rfl) (fun h=>by rw [b0S hI hm 1 zd h];rfl) (fun h=>by rw [b0S hI hm 2 zd h];rfl) (fun h=>by rw [b0S hI hm 3 zd h];rfl)
def b8P (c:UInt8):List Int :=
 if 49≤c∧c≤56 then List.replicate (c.toNat-48) 0 else if c=75 then [1] else if c=81 then [2] else if c=82 then [3] else if c=66 then [4] else if c=78 then [5] else if c=80 then [6]
 else if c=107 then [7] else if c=113 then [8] else if c=114 then [9] else if c=98 then [10] else if c=110 then [11] else if c=112 then [12] else []
def H2 (t:Tx):List Int:=t.flatMap b8P
theorem a0N (a b:Tx):H2 (a++b)=H2 a++H2 b:=x9
theorem b2v {e:Nat} (h:e≤8):H2 (X6 e)=List.replicate e 0:=by
 have:e=0∨e=1∨e=2∨e=3∨e=4∨e=5∨e=6∨e=7∨e=8:=by omega
 rcases this with rfl|rfl|rfl|rfl|rfl|rfl|rfl|rfl|rfl<;>(unfold X6;first|rfl|(rw [zJ zd];unfold X8;rw [dif_pos zd];rfl))
theorem c1k {x:Int} (h0:1≤x) (h1:x≤12):H2 (pcT x)=[x]:=by
 have:x=1∨x=2∨x=3∨x=4∨x=5∨x=6∨x=7∨x=8∨x=9∨x=10∨x=11∨x=12:=by omega
 rcases this with rfl|rfl|rfl|rfl|rfl|rfl|rfl|rfl|rfl|rfl|rfl|rfl<;>rfl
def a4Y (g:Nat→Int):Nat→Nat→List Int
 | 0,_=>[]
 | n+1,f=>g f::a4Y g n (f+1)
theorem b2w (g:Nat→Int) (hg:∀ f,0≤g f∧g f≤12):∀ (n f e:Nat),e+n≤8→H2 (a0x g n f e)=List.replicate e 0++a4Y g n f:=by
 intro n
 induction n with
 | zero=>intro f e h;simp only [a0x,a4Y,zn];exact b2v zo
 | succ n ih =>
  intro f e h;simp only [a0x,a4Y];have hgf:=hg f;by_cases h0:g f<1∨g f>12
  ·rw [zM h0,ih (f+1) (e+1) zo];have:g f=0:=by omega
   rw [this,List.replicate_succ',yG];rfl
  ·rw [zJ h0,a0N,a0N,b2v zo,c1k zo zo,ih (f+1) 0 zo];simp
def a3G (p:l9):Nat→List Int
 | 0=>[]
 | r+1=>a4Y (fun f=>sq p (8*(r:Int)+f)) 8 0++a3G p r
theorem a8I {p:l9} (hp:∀ i:Int,0≤sq p i∧sq p i≤12):∀ r,H2 (A6 p r)=a3G p r:=by
 intro r
 induction r with
 | zero=>rfl
 | succ r ih =>
  simp only [A6,a3G,a0N,ih];rw [b2w _ (fun f=>hp _) 8 0 0 zo];have:H2 (if r=0 then [] else [47])=[]:=by split<;>rfl
  rw [this];simp
theorem b3O {p q:l9}:∀ r,a3G p r=a3G q r→∀ k f:Nat,k<r→f<8→sq p (8*(k:Int)+f)=sq q (8*(k:Int)+f):=by
 intro r
 induction r with
 | zero=>intro _ k f h;omega
 | succ r ih =>
  intro h k f hk hf;simp only [a3G] at h;have hl:∀ g n s,(a4Y g n s).length=n:=by
   intro g n;induction n with
   | zero=>intro s;rfl
   | succ n ih=>intro s;simp [a4Y,ih]
  obtain ⟨h1,h2⟩:=List.append_inj h (by rw [hl,hl])
  by_cases e:k=r
  ·subst e;simp only [a4Y,yu,and_true] at h1;obtain ⟨a0,a1,a2,a3,a4,a5,a6,a7⟩:=h1;have:f=0∨f=1∨f=2∨f=3∨f=4∨f=5∨f=6∨f=7:=by omega
   rcases this with rfl|rfl|rfl|rfl|rfl|rfl|rfl|rfl<;>assumption
  ·exact ih h2 k f zo hf
theorem b3P {p q:l9} (hp:∀ i:Int,0≤sq p i∧sq p i≤12) (hq:∀ i:Int,0≤sq q i∧sq q i≤12):A6 p 8=A6 q 8↔p.board=q.board:=by
 constructor
 ·intro h;have h2:a3G p 8=a3G q 8:=by rw [← a8I hp,← a8I hq,h]
  apply List.ext_getElem (by rw [p.len,q.len])
  intro i hi1 hi2;have hi:i<64:=by rw [← p.len];exact hi1
  have:=b3O 8 h2 (i/8) (i%8) zo zo;have e:(8*((i/8:Nat):Int)+((i%8:Nat):Int))=(i:Int):=by omega
  rw [e] at this;unfold sq at this;simp only [zg,yr] at this;rw [ym hi1,ym hi2] at this;exact this
 ·intro h;have hs:∀ i,sq p i=sq q i:=by intro i;unfold sq;rw [h]
  have:∀ r,A6 p r=A6 q r:=by
   intro r;induction r with
   | zero=>rfl
   | succ r ih=>simp only [A6,ih,hs]
  exact this 8
end Ch
end
section
open Go Go.RowKit
open E
open Ch Bb
theorem b8Q {c:UInt8} {s:Tx}:ixZ c s<0↔c∉s:=by
 unfold ixZ;by_cases h:c∈s
 ·rw [zM h];constructor
  ·intro h2;omega
  ·intro h2;exact absurd h h2
 ·rw [zJ h];exact ⟨fun _=>h,fun _=>by decide⟩
theorem b8R {c:UInt8} {s:Tx} (h:c∉s):G8 s c=s:=by
 unfold G8;rw [List.filter_eq_self];intro x hx;simp only [bne_iff_ne,ne_eq];intro e;subst e;exact h hx
theorem b8S {c:UInt8}:∀ {s:Tx},c∈s→G8 s c=s.take (s.idxOf c)++G8 (s.drop (s.idxOf c+1)) c∧s.idxOf c<s.length:=by
 intro s
 induction s with
 | nil=>intro h;cases h
 | cons x r ih =>
  intro h;by_cases e:x=c
  ·subst e;simp [G8]
  ·have h2:c∈r:=by
    rcases yS.1 h with h|h
    ·exact absurd h.symm e
    ·exact h
   obtain ⟨h3,h4⟩:=ih h2;have e1:(x::r).idxOf c=r.idxOf c+1:=by
    rw [List.idxOf_cons,show (x==c)=false by simpa using e];rfl
   rw [e1];refine ⟨?_,by simp;omega⟩
   rw [xX,List.drop_succ_cons,yU,← h3];simp [G8,e]
theorem D8 (c:UInt8) (s:Tx) (hs:s.length≤1000) (w:World):Calls G.P 287 #[m9 s,m9 [c],m9 []] w (N2 (m9 (G8 s c)) w):=by
 have h1:(tx [c]).size=1:=C5 _;refine zN func287 ?_;refine zR ?_;refine B6 (σ:=Tx×Tx×Value) [0,6,7,10] 11 (fun t=>[(0,m9 t.1),(7,t.2.2)]) (fun t w'=>t.1.length+t.2.1.length≤1000∧G8 s c=t.2.1++G8 t.1 c∧Cl w w'∧Row 5 1 a0h w.heap.size w' t.2.2 t.2.1) (fun t=>t.1.length) zk (s,[],.slice none 0 0) ⟨by simpa using hs,rfl,Cl.refl _,Row.nil _ _⟩ ⟨rfl,rfl,trivial⟩ ?_
 rintro ⟨r,l,v⟩ j w2 ⟨hl,hst,c2,hr⟩;simp only at hl hst hr ⊢;obtain ⟨a,k,rfl,_⟩:=hr.form;refine zR ?_;refine l8 (a6u c r zo w2) (zR ?_);apply E.b9<;>intro h
 ·refine zR ?_;refine a8G rfl hr rfl zo c2.size fun v' w' hr' hc'=>?_;obtain ⟨a9,c9,rfl,_⟩:=hr'.form;refine zR ?_;refine a9W _ rfl hr' (zR ?_);exact ⟨by rw [hst,b8R (b8Q.1 h)];rfl,hc' w rfl c2⟩
 ·have hm:c∈r:=yf fun h2=>h (b8Q.2 h2);obtain ⟨hsp,hlt⟩:=b8S hm;have ei:ixZ c r=(r.idxOf c:Int):=by unfold ixZ;rw [zM hm]
  have ni:=C7 (i:=r.idxOf c) zo;refine zR ?_;refine b2r (r.take (r.idxOf c)) rfl rfl rfl (by rw [ei];omega) (by rw [ei];omega) (by rw [ei];rfl) (zR ?_)
  refine a8G rfl hr rfl (by rw [yb];omega) c2.size fun v' w' hr' hc'=>?_
  obtain ⟨a9,c9,rfl,_⟩:=hr'.form;have c3:=hc' w rfl c2;refine zR ?_;refine a8G (s:=[]) rfl hr' rfl (by rw [zF,yb];simp;omega) c3.size fun v2 w3 hr2 hc2=>?_
  rw [zn] at hr2;obtain ⟨a8,c8,rfl,_⟩:=hr2.form;have c4:=hc2 w rfl c3;refine zR ?_;rw [h1,ei,show ((1:Nat):Int)=1 from rfl,ni];refine a8H (r.drop (r.idxOf c+1)) rfl rfl rfl zo zo rfl (zR ?_);refine ⟨(r.drop (r.idxOf c+1),l++r.take (r.idxOf c),_),⟨rfl,rfl,trivial⟩,⟨?_,?_,c4,hr2⟩,?_⟩
  ·show (r.drop (r.idxOf c+1)).length+(l++r.take (r.idxOf c)).length≤1000;rw [ye,zF,yb];omega
  ·show G8 s c=(l++r.take (r.idxOf c))++G8 (r.drop (r.idxOf c+1)) c;rw [hst,hsp,yG]
  ·show (r.drop (r.idxOf c+1)).length<r.length;rw [ye];omega
theorem a4k (t:Tx) (c:UInt8):(G8 t c).length≤t.length:=xG _ _
theorem a3H {p:l9} (hI:D0 p) {P b M:Nat} {cv:Value} {c:Bool} {d:Nd} (f0:0≤d.mv.fr) (f1:d.mv.fr≤63) (w:World) (hT:D5 w)
  (hP:w.heap[P]?=some (.cells (hdA b (E6 p c) cv) 173 (0,0))) (hB:w.heap[b]?=some (.cells (H3 (A4 p)) 237 (0,0))) (hM:w.heap[M]?=some (.cells (E8 d) 141 (0,0))) :
  Calls G.P 256 #[.pointer (some ⟨P,0,none⟩),.pointer (some ⟨M,0,none⟩)] w (N2 (m9 (crM (B9 p.castle) (crF p d.mv 0) (crF p d.mv 1) (crF p d.mv 2) (crF p d.mv 3))) w):=by
 have hM0:=hM;obtain ⟨fr,hfr⟩:=ze f0;have hf64:fr<64:=by omega
 have hlen0:(B9 p.castle).length≤4:=a4f _;have hcr:crM (B9 p.castle) (crF p d.mv 0) (crF p d.mv 1) (crF p d.mv 2) (crF p d.mv 3)=c3v (if crF p d.mv 3 then G8 (if crF p d.mv 2 then G8 (if crF p d.mv 1 then G8 (if crF p d.mv 0 then G8 (B9 p.castle) 75 else B9 p.castle) 81 else (if crF p d.mv 0 then G8 (B9 p.castle) 75 else B9 p.castle)) 107 else (if crF p d.mv 1 then G8 (if crF p d.mv 0 then G8 (B9 p.castle) 75 else B9 p.castle) 81 else (if crF p d.mv 0 then G8 (B9 p.castle) 75 else B9 p.castle))) 113 else (if crF p d.mv 2 then G8 (if crF p d.mv 1 then G8 (if crF p d.mv 0 then G8 (B9 p.castle) 75 else B9 p.castle) 81 else (if crF p d.mv 0 then G8 (B9 p.castle) 75 else B9 p.castle)) 107 else (if crF p d.mv 1 then G8 (if crF p d.mv 0 then G8 (B9 p.castle) 75 else B9 p.castle) 81 else (if crF p d.mv 0 then G8 (B9 p.castle) 75 else B9 p.castle)))):=rfl
 rw [hcr];clear hcr;have pc:=fun w hT hB=>a1f (A4 p) b (t:=237) (fz:=(0,0)) fr hf64 w hT hB;rw [a0t hI.pc hf64] at pc;obtain ⟨T,hTT⟩:∃ T,B9 p.castle=T:=⟨_,rfl⟩;rw [hTT] at hlen0 ⊢;refine zN func256 ?_;refine zR ?_;refine b7 _ (a8w hP) ?_;have hcas:(E6 p c).cas=T:=hTT;rw [hcas];refine zR ?_;refine zK 9 ?_;refine zR ?_;refine qHb hP (zR ?_);refine a3C hM ?_;rw [hfr];refine zR ?_;refine m8 _ (fun w hw=>pc w (hT.cl hw) (hw.blk hB)) (zG ?_);intro wS cw;refine zG ?_;rw [← hfr];refine C3 (σ:=Unit) [5] 7 (fun _=>[(5,m9 (if crF p d.mv 0 then G8 T 75 else T))]) (fun _ w'=>Cl w w') zk ?_ (fun _ j w0 c0=>?_)
 ·have hM:=cw.blk hM0;have hc:crF p d.mv 0=(decide (sq p d.mv.fr=1)||decide (d.mv.fr=7)||decide (d.mv.to=7)):=rfl
  have hl:=hlen0;refine zR ?_;apply E.b9<;>intro h
  ·have hy:crF p d.mv 0=true:=by rw [hc,zX h];rfl
   refine zR ?_;refine o9 (D8 75 T zo _) fun w9 c9=>zR ?_;exact ⟨(),⟨by rw [hy];rfl,trivial⟩,cw.trans c9⟩
  ·have h1:=h;clear h;refine zR ?_;refine a4Q hM (zR ?_);apply E.b9<;>intro h
   ·have hy:crF p d.mv 0=true:=by rw [hc,zX h,Bool.or_true];rfl
    refine zR ?_;try (refine E.z6 h ?_;refine zR ?_)
    refine o9 (D8 75 T zo _) fun w9 c9=>zR ?_;exact ⟨(),⟨by rw [hy];rfl,trivial⟩,cw.trans c9⟩
   ·have h2:=h;clear h;refine zR ?_;refine a7k hM (zR ?_);apply E.b9<;>intro h
    ·have hy:crF p d.mv 0=true:=by rw [hc,zX h,Bool.or_true]
     refine zR ?_;refine o9 (D8 75 T zo _) fun w9 c9=>zR ?_;exact ⟨(),⟨by rw [hy];rfl,trivial⟩,cw.trans c9⟩
    ·have hy:crF p d.mv 0=false:=by rw [hc,zV h1,zV h2,zV h];rfl
     refine zR ?_;exact ⟨(),⟨by rw [hy];rfl,trivial⟩,cw⟩
 obtain ⟨T0,hT0⟩:∃ T',(if crF p d.mv 0 then G8 T 75 else T)=T':=⟨_,rfl⟩
 have hlen1:T0.length≤4:=by rw [← hT0];split;exact zw (a4k _ _) hlen0;exact hlen0
 rw [hT0];refine C3 (σ:=Unit) [5] 7 (fun _=>[(5,m9 (if crF p d.mv 1 then G8 T0 81 else T0))]) (fun _ w'=>Cl w w') zk ?_ (fun _ j w1 c1=>?_)
 ·have hM:=c0.blk hM0;have hc:crF p d.mv 1=(decide (sq p d.mv.fr=1)||decide (d.mv.fr=0)||decide (d.mv.to=0)):=rfl
  have hl:=hlen1;refine zR ?_;apply E.b9<;>intro h
  ·have hy:crF p d.mv 1=true:=by rw [hc,zX h];rfl
   refine zR ?_;refine o9 (D8 81 T0 zo _) fun w9 c9=>zR ?_;exact ⟨(),⟨by rw [hy];rfl,trivial⟩,c0.trans c9⟩
  ·have h1:=h;clear h;refine zR ?_;refine a4Q hM (zR ?_);apply E.b9<;>intro h
   ·have hy:crF p d.mv 1=true:=by rw [hc,zX h,Bool.or_true];rfl
    refine zR ?_;try (refine E.z6 h ?_;refine zR ?_)
    refine o9 (D8 81 T0 zo _) fun w9 c9=>zR ?_;exact ⟨(),⟨by rw [hy];rfl,trivial⟩,c0.trans c9⟩
   ·have h2:=h;clear h;refine zR ?_;refine a7k hM (zR ?_);apply E.b9<;>intro h
    ·have hy:crF p d.mv 1=true:=by rw [hc,zX h,Bool.or_true]
     refine zR ?_;refine o9 (D8 81 T0 zo _) fun w9 c9=>zR ?_;exact ⟨(),⟨by rw [hy];rfl,trivial⟩,c0.trans c9⟩
    ·have hy:crF p d.mv 1=false:=by rw [hc,zV h1,zV h2,zV h];rfl
     refine zR ?_;exact ⟨(),⟨by rw [hy];rfl,trivial⟩,c0⟩
 obtain ⟨T1,hT1⟩:∃ T',(if crF p d.mv 1 then G8 T0 81 else T0)=T':=⟨_,rfl⟩
 have hlen2:T1.length≤4:=by rw [← hT1];split;exact zw (a4k _ _) hlen1;exact hlen1
 rw [hT1];refine C3 (σ:=Unit) [5] 7 (fun _=>[(5,m9 (if crF p d.mv 2 then G8 T1 107 else T1))]) (fun _ w'=>Cl w w') zk ?_ (fun _ j w2 c2=>?_)
 ·have hM:=c1.blk hM0;have hc:crF p d.mv 2=(decide (sq p d.mv.fr=7)||decide (d.mv.fr=63)||decide (d.mv.to=63)):=rfl
  have hl:=hlen2;refine zR ?_;apply E.b9<;>intro h
  ·have hy:crF p d.mv 2=true:=by rw [hc,zX h];rfl
   refine zR ?_;refine o9 (D8 107 T1 zo _) fun w9 c9=>zR ?_;exact ⟨(),⟨by rw [hy];rfl,trivial⟩,c1.trans c9⟩
  ·have h1:=h;clear h;refine zR ?_;refine a4Q hM (zR ?_);apply E.b9<;>intro h
   ·have hy:crF p d.mv 2=true:=by rw [hc,zX h,Bool.or_true];rfl
    refine zR ?_;try (refine E.z6 h ?_;refine zR ?_)
    refine o9 (D8 107 T1 zo _) fun w9 c9=>zR ?_;exact ⟨(),⟨by rw [hy];rfl,trivial⟩,c1.trans c9⟩
   ·have h2:=h;clear h;refine zR ?_;refine a7k hM (zR ?_);apply E.b9<;>intro h
    ·have hy:crF p d.mv 2=true:=by rw [hc,zX h,Bool.or_true]
     refine zR ?_;refine o9 (D8 107 T1 zo _) fun w9 c9=>zR ?_;exact ⟨(),⟨by rw [hy];rfl,trivial⟩,c1.trans c9⟩
    ·have hy:crF p d.mv 2=false:=by rw [hc,zV h1,zV h2,zV h];rfl
     refine zR ?_;exact ⟨(),⟨by rw [hy];rfl,trivial⟩,c1⟩
 obtain ⟨T2,hT2⟩:∃ T',(if crF p d.mv 2 then G8 T1 107 else T1)=T':=⟨_,rfl⟩
 have hlen3:T2.length≤4:=by rw [← hT2];split;exact zw (a4k _ _) hlen2;exact hlen2
 rw [hT2];refine C3 (σ:=Unit) [5] 7 (fun _=>[(5,m9 (if crF p d.mv 3 then G8 T2 113 else T2))]) (fun _ w'=>Cl w w') zk ?_ (fun _ j w3 c3=>?_)
 ·have hM:=c2.blk hM0;have hc:crF p d.mv 3=(decide (sq p d.mv.fr=7)||decide (d.mv.fr=56)||decide (d.mv.to=56)):=rfl
  have hl:=hlen3;refine zR ?_;apply E.b9<;>intro h
  ·have hy:crF p d.mv 3=true:=by rw [hc,zX h];rfl
   refine zR ?_;refine o9 (D8 113 T2 zo _) fun w9 c9=>zR ?_;exact ⟨(),⟨by rw [hy];rfl,trivial⟩,c2.trans c9⟩
  ·have h1:=h;clear h;refine zR ?_;refine a4Q hM (zR ?_);apply E.b9<;>intro h
   ·have hy:crF p d.mv 3=true:=by rw [hc,zX h,Bool.or_true];rfl
    refine zR ?_;try (refine E.z6 h ?_;refine zR ?_)
    refine o9 (D8 113 T2 zo _) fun w9 c9=>zR ?_;exact ⟨(),⟨by rw [hy];rfl,trivial⟩,c2.trans c9⟩
   ·have h2:=h;clear h;refine zR ?_;refine a7k hM (zR ?_);apply E.b9<;>intro h
    ·have hy:crF p d.mv 3=true:=by rw [hc,zX h,Bool.or_true]
     refine zR ?_;refine o9 (D8 113 T2 zo _) fun w9 c9=>zR ?_;exact ⟨(),⟨by rw [hy];rfl,trivial⟩,c2.trans c9⟩
    ·have hy:crF p d.mv 3=false:=by rw [hc,zV h1,zV h2,zV h];rfl
     refine zR ?_;exact ⟨(),⟨by rw [hy];rfl,trivial⟩,c2⟩
 obtain ⟨T3,hT3⟩:∃ T',(if crF p d.mv 3 then G8 T2 113 else T2)=T':=⟨_,rfl⟩
 have hlen4:T3.length≤4:=by rw [← hT3];split;exact zw (a4k _ _) hlen3;exact hlen3
 rw [hT3];refine zR ?_;unfold c3v;cases e:T3 with
 | nil =>
  refine zR ?_;exact ⟨rfl,c3⟩
 | cons x r =>
  refine zR ?_;exact ⟨rfl,c3⟩
theorem rk1:∀ s:Nat,s<64→(D6 s &&& 71776119061217280=0↔¬ (s/8=1)):=by decide
theorem rk3:∀ s:Nat,s<64→(D6 s &&& 1095216660480=0↔¬ (s/8=3)):=by decide
theorem rk6:∀ s:Nat,s<64→(D6 s &&& 65280=0↔¬ (s/8=6)):=by decide
theorem rk4:∀ s:Nat,s<64→(D6 s &&& 4278190080=0↔¬ (s/8=4)):=by decide
theorem b3Q {p:l9} (hI:D0 p) {P b M:Nat} {cv:Value} {c:Bool} {d:Nd} (f0:0≤d.mv.fr) (f1:d.mv.fr≤63) (t0:0≤d.mv.to) (t1:d.mv.to≤63) (w:World) (hT:D5 w)
  (hP:w.heap[P]?=some (.cells (hdA b (E6 p c) cv) 173 (0,0))) (hB:w.heap[b]?=some (.cells (H3 (A4 p)) 237 (0,0))) (hM:w.heap[M]?=some (.cells (E8 d) 141 (0,0))) :
  Calls G.P 258 #[.pointer (some ⟨P,0,none⟩),.pointer (some ⟨M,0,none⟩)] w (N2 (.int .i8 (epM p d.mv)) w):=by
 have hP0:=hP;have hM0:=hM;obtain ⟨fr,hfr⟩:=ze f0;obtain ⟨to,hto⟩:=ze t0;have hf64:fr<64:=by omega
 have ht64:to<64:=by omega
 have pc:=fun w hT hB=>a1f (A4 p) b (t:=237) (fz:=(0,0)) fr hf64 w hT hB;rw [a0t hI.pc hf64] at pc;have hpr:=hI.pc fr;have ht:=hI.turn;have ety:=fun w=>a2n (sq p fr) hpr.1 hpr.2 w;have bf:=fun w=>s8 fr hf64 w;have bt:=fun w=>s8 to ht64 w;have hep:epM p d.mv=if d6 (sq p fr)≠6 then -1 else if p.turn=0∧fr/8=1∧to/8=3 then (to:Int)-8 else if p.turn=1∧fr/8=6∧to/8=4 then (to:Int)+8 else -1:=by
  unfold epM;rw [hfr,hto];have r1:(k9 (fr:Int)=1)↔fr/8=1:=by unfold k9;omega
  have r3:(k9 (to:Int)=3)↔to/8=3:=by unfold k9;omega
  have r6:(k9 (fr:Int)=6)↔fr/8=6:=by unfold k9;omega
  have r4:(k9 (to:Int)=4)↔to/8=4:=by unfold k9;omega
  simp only [r1,r3,r6,r4]
 rw [hep];clear hep;refine zN func258 ?_;refine zR ?_;refine zK 9 ?_;refine zR ?_;refine qHb hP (zR ?_);refine a3C hM ?_;rw [hfr];refine zR ?_;refine m8 _ (fun w hw=>pc w (hT.cl hw) (hw.blk hB)) (zR ?_);intro w1 c1;have hP:=c1.blk hP0;have hM:=c1.blk hM0;have a1:=rk1 fr hf64;have a3:=rk3 to ht64;have a6:=rk6 fr hf64;have a4:=rk4 to ht64;refine zR ?_;refine l8 (ety _) (zR ?_);apply E.y6<;>intro h
 ·rw [zM h];refine zR ?_;exact ⟨rfl,c1⟩
 rw [zJ (fun e=>e h)];clear h;have hturn:(E6 p c).turn=p.turn+1:=rfl;refine zR ?_;refine kHt hP ?_;rw [hturn];refine zR ?_;apply E.b9<;>intro h
 ·have h0:p.turn=0:=by omega
  clear h;refine zR ?_;refine a4Q hM ?_;rw [hfr];refine zR ?_;refine l8 (bf _) (zB ?_);apply E.y6<;>intro h
  ·have q1:fr/8=1:=yf fun e=>nz h (a1.2 e);clear h;refine zR ?_;refine a7k hM ?_;rw [hto];refine zR ?_;refine l8 (bt _) (zB ?_);apply E.y6<;>intro h
   ·have q2:to/8=3:=yf fun e=>nz h (a3.2 e);clear h;refine zR ?_;refine a7k hM ?_;rw [hto];refine zR ?_;exact ⟨C2 (by rw [zM ⟨h0,q1,q2⟩];exact a0q zo zo),c1⟩
   ·have q2:¬ to/8=3:=a3.1 (n0 h);clear h;refine zR ?_;refine kHt hP ?_;rw [hturn];refine zR ?_;refine E.p9 zo (zR ?_);exact ⟨C2 (by rw [zJ zo,zJ zo]),c1⟩
  ·have q1:¬ fr/8=1:=a1.1 (n0 h);clear h;refine zR ?_;refine kHt hP ?_;rw [hturn];refine zR ?_;refine E.p9 zo (zR ?_);exact ⟨C2 (by rw [zJ zo,zJ zo]),c1⟩
 ·have h0:p.turn=1:=by omega
  clear h;refine zR ?_;refine kHt hP ?_;rw [hturn];refine zR ?_;refine E.z6 zo (zR ?_);refine a4Q hM ?_;rw [hfr];refine zR ?_;refine l8 (bf _) (zB ?_);apply E.y6<;>intro h
  ·have q1:fr/8=6:=yf fun e=>nz h (a6.2 e);clear h;refine zR ?_;refine a7k hM ?_;rw [hto];refine zR ?_;refine l8 (bt _) (zB ?_);apply E.y6<;>intro h
   ·have q2:to/8=4:=yf fun e=>nz h (a4.2 e);clear h;refine zR ?_;refine a7k hM ?_;rw [hto];refine zR ?_;exact ⟨C2 (by rw [zJ zo,zM ⟨h0,q1,q2⟩];exact a0q zo zo),c1⟩
   ·have q2:¬ to/8=4:=a4.1 (n0 h);clear h;refine zR ?_;exact ⟨C2 (by rw [zJ zo,zJ zo]),c1⟩
  ·have q1:¬ fr/8=6:=a6.1 (n0 h);clear h;refine zR ?_;exact ⟨C2 (by rw [zJ zo,zJ zo]),c1⟩
theorem a3d {p:l9} {m:Mv} {t:Nat} {ck:Bool} (h:(t:Int)=K5 p m+(if ck then 16 else 0)):t.testBit 2=decide (sq p m.to≠0)∧t.testBit 3=(decide (sq p m.to=0)&&C1 p m)∧t<64:=by
 unfold K5 at h;have e:=yH Int.toNat h;rw [zg] at e;clear h;subst e;generalize C1 p m=tk at *;have hk:=a07 p m;generalize t7 p m=c at *;by_cases h0:sq p m.to=0
 ·have e1:decide (sq p m.to≠0)=false:=zV (fun e=>e h0);rw [e1,zX h0,zJ (fun e=>e h0)];cases tk<;>cases ck<;>rcases hk with rfl|rfl|rfl<;>decide
 ·have e1:decide (sq p m.to≠0)=true:=zX h0;rw [e1,zV h0,zM h0];cases ck<;>rcases hk with rfl|rfl|rfl<;>cases tk<;>decide
theorem b6y {p:l9} (hI:D0 p) {m:Mv} (hm:m∈A1 p) {t:Nat} {ck:Bool} (h:(t:Int)=K5 p m+(if ck then 16 else 0)):(A4 p).move m t=A4 (made p m):=by
 obtain ⟨b0,b1,_,_⟩:=a2C h;obtain ⟨_,b3,_⟩:=a3d h;rcases (S6 hI m).1 hm with ⟨hp,_⟩|⟨r,hr,_⟩
 ·have hck:=(Q9 hI hp).2;refine a87 hI hp ?_ (by rw [b0,hck];rfl) (by rw [b1,hck];rfl)
  rw [b3];have:=a4d hI hp;by_cases h0:sq p m.to=0
  ·rw [zJ (fun e=>e h0)] at this;rw [zX h0,yV];cases e:C1 p m
   ·rw [e] at this;exact (zV (by simp at this;omega)).symm
   ·rw [e] at this;exact (zX (by simp at this;omega)).symm
  ·rw [zM h0] at this;rw [zV h0,xi];exact (zV zo).symm
 ·obtain ⟨r4,rt,rb,hc⟩:=J7 hI hr;have hto:=hc.to;have hmv:=hc.mv;have htk:=a2R hI hc;have hw:(if C0 (r:Int)<A2 r then (-1:Int) else 1)=1∨(if C0 (r:Int)<A2 r then (-1:Int) else 1)=-1:=by split<;>simp
  generalize (if C0 (r:Int)<A2 r then (-1:Int) else 1)=w at *
  generalize A2 (r:Int)=K at *;have hking:=hc.king;have ek:t7 p m=if w=1 then 1 else 2:=by
   unfold Ch.t7;rw [hmv];simp only [hking,a0d hI];rcases hw with rfl|rfl
   ·rw [zJ zd,zM zo,zM rfl]
   ·rw [zJ zd,zJ zo,zM zo,zJ zd]
  refine a6T hI hc (by rw [b3,htk,Bool.and_false]) ?_ ?_
  ·rw [b0,ek];rcases hw with rfl|rfl<;>decide
  ·rw [b1,ek];rcases hw with rfl|rfl<;>decide
theorem b0T {p:l9} {m:Mv} (h:d6 (sq p m.fr)≠6):C1 p m=decide (sq p m.to≠0):=by
 unfold C1;rw [zV h,xi,Bool.or_false];by_cases e:sq p m.to=0<;>simp [e]
theorem b2x {p:l9} (hI:D0 p) (hN:a1A p) {P b M:Nat} {cv:Value} {d:Nd} (hm:d.mv∈A1 p) {ck:Bool} (htg:(d.tags:Int)=K5 p d.mv+(if ck then 16 else 0)) (w:World) (hT:D5 w) (hP:I0 w P b p cv)
  (hM:w.heap[M]?=some (.cells (E8 d) 141 (0,0))) :
  Calls G.P 203 #[.pointer (some ⟨P,0,none⟩),.pointer (some ⟨M,0,none⟩)] w (fun r w'=>∃ P' b',r = .returned (.pointer (some ⟨P',0,none⟩))∧w.heap.size≤P'∧w.heap.size≤b'∧w'.heap[P']?=some (.cells (hdA b' (E6 (made p d.mv) ck) (.slice none 0 0)) 173 (0,0))∧w'.heap[b']?=some (.cells (H3 (A4 (made p d.mv))) 237 (0,0))∧Cl w w'):=by
 obtain ⟨f0,f1,t0,t1,hpm⟩:=V9 hI hm;obtain ⟨_,_,_,hb4⟩:=a2C htg;obtain ⟨hb2,_,h64⟩:=a3d htg;have hub:=b6y hI hm htg;have hcr:=c3w hI hm;have hep:=c3u hI hm;obtain ⟨fr,hfr⟩:=ze f0;have hf64:fr<64:=by omega
 have pc:=fun w hT hB=>a1f (A4 p) b (t:=237) (fz:=(0,0)) fr hf64 w hT hB;rw [a0t hI.pc hf64,← hfr] at pc;have hpr:=hI.pc d.mv.fr;have ht:=hI.turn;have ety:=fun w=>a2n (sq p d.mv.fr) hpr.1 hpr.2 w;have hcap:=b0T (p:=p) (m:=d.mv);refine zN func203 ?_;have hP0:=hP.hd;have hPs:P<w.heap.size:=(yh.1 hP0).1;have hbs:b<w.heap.size:=(yh.1 hP.bd).1;have hMs:M<w.heap.size:=(yh.1 hM).1;have hfull:(made p d.mv).full=p.full+p.turn:=rfl;have hhalf:(made p d.mv).half=if C1 p d.mv||decide (d6 (sq p d.mv.fr)=6) then 0 else p.half+1:=rfl
 have hturn:(E6 p (o5 p)).turn=p.turn+1:=rfl;have n1:=hN.1;have n2:=hN.2;have h0:=hI.h0;have hf1:=hI.f1;refine zG ?_;refine Nx.mk (zR ?_);refine b7 _ (b0M hP0) ?_;have ef:(E6 p (o5 p)).full=p.full:=rfl;rw [ef];refine zG ?_;refine C3 (σ:=Unit) [5] 6 (fun _=>[(5,.int .i64 (made p d.mv).full)]) (fun _ w'=>w'=w) zk ?_ (fun _ j w1 e1=>?_)
 ·refine zR ?_;refine kHt hP0 ?_;rw [hturn];refine zR ?_;apply E.b9<;>intro h
  ·refine zR ?_;exact ⟨(),⟨d8 (by rw [g9 zo zo,hfull];omega),trivial⟩,rfl⟩
  ·refine zR ?_;exact ⟨(),⟨d8 (by rw [hfull];omega),trivial⟩,rfl⟩
 subst e1;refine zR ?_;refine Y7 false (N6 rfl _) (zR ?_);refine o9 (a3H hI f0 f1 w1 hT hP0 hP.bd hM) fun w2 c2=>?_;rw [hcr];have hP2:=hP.step c2;have hM2:=c2.blk hM;have hT2:=hT.cl c2;refine zR ?_;refine zK 9 ?_;refine zR ?_;refine qHb hP2.hd (zR ?_);refine a3C hM2 (zR ?_);refine m8 _ (fun w hw=>pc w (hT2.cl hw) (hw.blk hP2.bd)) (zR ?_);intro w3 c3;have c3':=c2.trans c3;have hP3:=hP.step c3';have hM3:=c3'.blk hM;refine zR ?_;refine b7 _ (a7B hP3.hd) ?_;have eh:(E6 p (o5 p)).half=p.half:=rfl;rw [eh];refine zG ?_;refine C3 (σ:=Unit) [8] 9 (fun _=>[(8,.int .i64 (made p d.mv).half)]) (fun _ w'=>w'=w3) zk ?_ (fun _ j w4 e4=>?_)
 ·refine zR ?_;refine l8 (ety _) (zR ?_);apply E.b9<;>intro h
  ·refine zR ?_;exact ⟨(),⟨d8 (by rw [hhalf,zX h,Bool.or_true];rfl),trivial⟩,rfl⟩
  ·have htag:Calls G.P 147 #[.pointer (some ⟨M,0,none⟩),.int .u16 4] w3 (E5 (.bool (d.tags.testBit 2)) w3):=a1H (k:=2) zd zo w3 hM3;rw [hb2,← hcap h] at htag;have hk:=zV h;refine zR ?_;refine l8 htag ?_;cases htk:C1 p d.mv
   ·refine zR ?_;exact ⟨(),⟨d8 (by rw [hhalf,htk,hk,g9 zo zo];rfl),trivial⟩,rfl⟩
   ·refine zR ?_;exact ⟨(),⟨d8 (by rw [hhalf,htk];rfl),trivial⟩,rfl⟩
 subst e4;refine zR ?_;refine kHb hP3.hd (zR ?_);refine o7 (a6U (A4 p) b w4 hP3.bd) ?_;rintro r w5 ⟨b',rfl,hb',hB5,c5⟩;refine ⟨_,rfl,?_⟩;have c5':=c3'.trans c5;have hP5:=hP.step c5';have hM5:=c5'.blk hM;have s3:=c3'.size;have s5:=c5'.size;refine zR ?_;refine o7 (b2f (d:=d) f0 f1 t0 t1 zo (by rw [hfr,zg,a0t hI.pc hf64,← hfr];rcases hpm with e|⟨e1,e2,e3⟩;exact .inl e;exact .inr ⟨zo,zo,fun e=>by rw [e] at e3;exact absurd e3 zd⟩) zo w5 (hT.cl c5') hB5 hM5) ?_
 rintro r w6 ⟨rfl,hB6,n6⟩;refine ⟨_,rfl,?_⟩;rw [hub] at hB6;have c6:Cl w1 w6:=n6.toCl c5' zo;have hP6:=hP.step c6;have hM6:=c6.blk hM;have hT6:=hT.cl c6;refine zR ?_;refine kHt hP6.hd ?_;rw [hturn];refine zR ?_;refine l8 (a7E (p.turn+1) zo _) (zR ?_);refine o9 (b3Q hI f0 f1 t0 t1 w6 hT6 hP6.hd hP6.bd hM6) fun w7 c7=>?_;rw [hep];have c7':=c6.trans c7;have hM7:=c7'.blk hM;have htag:Calls G.P 147 #[.pointer (some ⟨M,0,none⟩),.int .u16 16] w7 (E5 (.bool (d.tags.testBit 4)) w7):=a1H (k:=4) zd zo w7 hM7;rw [hb4] at htag;refine zR ?_;refine l8 htag (zR ?_);have e3:3-(p.turn+1)=(made p d.mv).turn+1:=by show 3-(p.turn+1)=(1-p.turn)+1;omega
 rw [e3];refine y7 (hdA b' (E6 (made p d.mv) ck) (.slice none 0 0)) zk (zR ?_);exact ⟨_,_,rfl,c7'.size,zo,d9 _ _,(Cl.alloc _ _).blk (c7.blk hB6),c7'.trans (Cl.alloc _ _)⟩
theorem in8 {n:Int} (h0:0≤n) (h1:n≤7):n=0∨n=1∨n=2∨n=3∨n=4∨n=5∨n=6∨n=7:=by omega
theorem b3R (f:Int) (h0:0≤f) (h1:f≤7) (w:World):Calls G.P 156 #[.int .i8 f] w (E5 (m9 [UInt8.ofNat (97+f.toNat)]) w):=by
 refine zN func156 ?_;have e1:IntKind.i8.wrap (f+1)=f+1:=a0q zo zo;refine zR ?_;rw [e1];refine a1d [UInt8.ofNat (97+f.toNat)] rfl rfl rfl (J4 _) h0 zo (by simp;omega) ?_ ?_
 ·rw [show (f+1).toNat-f.toNat=1 by omega];exact c4s _ zo
 refine zR ?_;exact ⟨rfl,rfl⟩
theorem c3x (f:Int) (h0:0≤f) (h1:f≤7) (w:World):Calls G.P 210 #[.int .i8 f] w (E5 (m9 [UInt8.ofNat (49+f.toNat)]) w):=by
 refine zN func210 ?_;have e1:IntKind.i8.wrap (f+1)=f+1:=a0q zo zo;refine zR ?_;rw [e1];refine a1d [UInt8.ofNat (49+f.toNat)] rfl rfl rfl (J4 _) h0 zo (by simp;omega) ?_ ?_
 ·rw [show (f+1).toNat-f.toNat=1 by omega];exact c4t _ zo
 refine zR ?_;exact ⟨rfl,rfl⟩
theorem a9Y (s:Int):(D2 s).length=1:=rfl
theorem c1l (s:Int) (h0:0≤s) (h1:s≤63) (w:World):Calls G.P 157 #[.int .i8 s] w (E5 (m9 (D2 s++rankT s)) w):=by
 refine zN func157 ?_;refine zR ?_;refine l8 (a2Z s h0 h1 _) (zR ?_);refine l8 (b3R (s%8) zo zo _) (zR ?_);refine l8 (a1e s h0 h1 _) (zR ?_);refine l8 (c3x (s/8) zo zo _) (zR ?_);exact ⟨by rw [A9];rfl,rfl⟩
theorem c1m (f:Int) (h0:0≤f) (h1:f≤7) (w:World):Calls G.P 208 #[.int .i8 f] w (E5 (.int .u8 ((UInt8.ofNat (97+f.toNat)).toNat:Int)) w):=by
 refine zN func208 ?_;rcases in8 h0 h1 with rfl|rfl|rfl|rfl|rfl|rfl|rfl|rfl<;>(refine zR ?_)<;>exact ⟨rfl,rfl⟩
theorem c1n (f:Int) (h0:0≤f) (h1:f≤7) (w:World):Calls G.P 209 #[.int .i8 f] w (E5 (.int .u8 ((UInt8.ofNat (49+f.toNat)).toNat:Int)) w):=by
 refine zN func209 ?_;rcases in8 h0 h1 with rfl|rfl|rfl|rfl|rfl|rfl|rfl|rfl<;>(refine zR ?_)<;>exact ⟨rfl,rfl⟩
theorem kinds {k:Int} (h0:0≤k) (h1:k≤6):k=0∨k=1∨k=2∨k=3∨k=4∨k=5∨k=6:=by omega
theorem b2y (k:Int) (h0:0≤k) (h1:k≤6) (w:World):Calls G.P 151 #[.int .i8 k] w (E5 (m9 (D7 k)) w):=by
 refine zN func151 ?_;rcases kinds h0 h1 with rfl|rfl|rfl|rfl|rfl|rfl|rfl<;>(refine zR ?_)<;>exact ⟨rfl,rfl⟩
theorem b6z (x:Int) (h0:1≤x) (h1:x≤12) (c:UInt8) (hc:pcT x=[c]) (w:World) (hT:D5 w):Calls G.P 212 #[.int .i8 x] w (E5 (.int .u8 (c.toNat:Int)) w):=by
 have ct:=fun w=>a2n x zo h1 w;have cc:=fun w=>a7F x zo h1 w;refine zN func212 ?_;have tw:=hT.wfen;have tb:=hT.bfen;rcases (by omega:x=1∨x=2∨x=3∨x=4∨x=5∨x=6∨x=7∨x=8∨x=9∨x=10∨x=11∨x=12) with rfl|rfl|rfl|rfl|rfl|rfl|rfl|rfl|rfl|rfl|rfl|rfl
 ·have e:([75]:Tx)=[c]:=hc;injection e with e;subst e;refine zR ?_;refine l8 (ct _) (zR ?_);refine l8 (cc _) (zR ?_);refine b7 _ (K6 tw (i:=1) zd rfl rfl) (zR ?_);exact ⟨rfl,rfl⟩
 ·have e:([81]:Tx)=[c]:=hc;injection e with e;subst e;refine zR ?_;refine l8 (ct _) (zR ?_);refine l8 (cc _) (zR ?_);refine b7 _ (K6 tw (i:=2) zd rfl rfl) (zR ?_);exact ⟨rfl,rfl⟩
 ·have e:([82]:Tx)=[c]:=hc;injection e with e;subst e;refine zR ?_;refine l8 (ct _) (zR ?_);refine l8 (cc _) (zR ?_);refine b7 _ (K6 tw (i:=3) zd rfl rfl) (zR ?_);exact ⟨rfl,rfl⟩
 ·have e:([66]:Tx)=[c]:=hc;injection e with e;subst e;refine zR ?_;refine l8 (ct _) (zR ?_);refine l8 (cc _) (zR ?_);refine b7 _ (K6 tw (i:=4) zd rfl rfl) (zR ?_);exact ⟨rfl,rfl⟩
 ·have e:([78]:Tx)=[c]:=hc;injection e with e;subst e;refine zR ?_;refine l8 (ct _) (zR ?_);refine l8 (cc _) (zR ?_);refine b7 _ (K6 tw (i:=5) zd rfl rfl) (zR ?_);exact ⟨rfl,rfl⟩
 ·have e:([80]:Tx)=[c]:=hc;injection e with e;subst e;refine zR ?_;refine l8 (ct _) (zR ?_);refine l8 (cc _) (zR ?_);refine b7 _ (K6 tw (i:=6) zd rfl rfl) (zR ?_);exact ⟨rfl,rfl⟩
 ·have e:([107]:Tx)=[c]:=hc;injection e with e;subst e;refine zR ?_;refine l8 (ct _) (zR ?_);refine l8 (cc _) (zR ?_);refine b7 _ (K6 tb (i:=1) zd rfl rfl) (zR ?_);exact ⟨rfl,rfl⟩
 ·have e:([113]:Tx)=[c]:=hc;injection e with e;subst e;refine zR ?_;refine l8 (ct _) (zR ?_);refine l8 (cc _) (zR ?_);refine b7 _ (K6 tb (i:=2) zd rfl rfl) (zR ?_);exact ⟨rfl,rfl⟩
 ·have e:([114]:Tx)=[c]:=hc;injection e with e;subst e;refine zR ?_;refine l8 (ct _) (zR ?_);refine l8 (cc _) (zR ?_);refine b7 _ (K6 tb (i:=3) zd rfl rfl) (zR ?_);exact ⟨rfl,rfl⟩
 ·have e:([98]:Tx)=[c]:=hc;injection e with e;subst e;refine zR ?_;refine l8 (ct _) (zR ?_);refine l8 (cc _) (zR ?_);refine b7 _ (K6 tb (i:=4) zd rfl rfl) (zR ?_);exact ⟨rfl,rfl⟩
 ·have e:([110]:Tx)=[c]:=hc;injection e with e;subst e;refine zR ?_;refine l8 (ct _) (zR ?_);refine l8 (cc _) (zR ?_);refine b7 _ (K6 tb (i:=5) zd rfl rfl) (zR ?_);exact ⟨rfl,rfl⟩
 ·have e:([112]:Tx)=[c]:=hc;injection e with e;subst e;refine zR ?_;refine l8 (ct _) (zR ?_);refine l8 (cc _) (zR ?_);refine b7 _ (K6 tb (i:=6) zd rfl rfl) (zR ?_);exact ⟨rfl,rfl⟩
theorem a8J {p:l9} (hI:D0 p) (hN:a1A p) {d:Nd} {P b M:Nat} {cv:Value} (hm:d.mv∈A1 p) {ck:Bool} (hck:o5 (made p d.mv)=true→ck=true) (htg:(d.tags:Int)=K5 p d.mv+(if ck then 16 else 0)) (w:World) (hT:D5 w) (hP:I0 w P b p cv)
  (hM:w.heap[M]?=some (.cells (E8 d) 141 (0,0))) :
  Calls G.P 146 #[.pointer (some ⟨P,0,none⟩),.pointer (some ⟨M,0,none⟩)] w (N2 (m9 (a2d p d.mv d.tags)) w):=by
 obtain ⟨_,_,_,hb4⟩:=a2C htg;obtain ⟨_,_,h64⟩:=a3d htg;have htag:Calls G.P 147 #[.pointer (some ⟨M,0,none⟩),.int .u16 16] w (E5 (.bool (d.tags.testBit 4)) w):=a1H (k:=4) zd zo w hM;have hs:a2d p d.mv d.tags=if d.tags.testBit 4 then (if (a35 (made p d.mv) true).isEmpty then [35] else [43]) else []:=rfl
 rw [hs];rw [hb4] at htag ⊢;refine zN func146 ?_;refine zR ?_;refine l8 htag ?_;cases ck
 ·refine zR ?_;exact ⟨rfl,Cl.refl _⟩
 ·refine zR ?_;refine o7 (b2x hI hN hm htg w hT hP hM) ?_;rintro r w1 ⟨P',b',rfl,hP',hb',hH1,hB1,c1⟩;refine ⟨_,rfl,zR ?_⟩;refine o9 (a9V (hI.made hm) hck w1 (hT.cl c1) hH1 hB1 (.inl rfl)) fun w2 c2=>?_;have hst:a9U (made p d.mv) true=if !(a35 (made p d.mv) true).isEmpty then 0 else 1:=rfl
  rw [hst];cases (a35 (made p d.mv) true).isEmpty
  ·refine zR ?_;exact ⟨rfl,c1.trans c2⟩
  ·refine zR ?_;exact ⟨rfl,c1.trans c2⟩
theorem b0U {p:l9} (hI:D0 p) (hle:(B5 p).length≤218) {P b:Nat} {ad:Addr} {n0 c0:Nat} (w:World) (hT:D5 w) (hM:I0 w P b p (.slice (some ad) n0 c0)) :
  Calls G.P 99 #[.pointer (some ⟨P,0,none⟩)] w (fun r w'=>∃ v,r = .returned v∧Row 141 11 D4 w.heap.size w' v (N9 p)∧Cl w w'):=by
 have hl:=a5D hI hle;have hP:=hM.hd;refine zN func99 ?_;refine zR ?_;refine b7 _ (a8x hP) (zR ?_);refine H6 _ (a6r rfl (some ad) n0 c0) (zR ?_);refine b7 _ (a8x hP) (zR ?_);have hr:Row 141 11 D4 0 w (.slice (some ad) n0 c0) (N9 p):=hM.ca.elim (fun e=>by cases e) id
 refine K4 b2n (l:=[]) (news:=N9 p) rfl (Row.nil w w.heap.size) rfl hr J9 F8 (by simp;omega) zd (yJ _) fun v' w' hr' hg=>?_
 rw [yM] at hr';obtain ⟨a9,c9,rfl,_⟩:=hr'.form;have hc:Cl w w':=hg.toCl rfl (Cl.refl _);refine zR ?_;exact ⟨_,rfl,hr',hc⟩
theorem b5t {w:World} {b:Nat} (hk:w.heap[b]?=some (.cells #[.pointer none,.slice none 0 0] 160 (0,0))) :
  Calls G.P 148 #[.pointer (some ⟨b,0,none⟩)] w (fun r w'=>r = .returned (.tuple #[])∧Upd w b (.cells #[.pointer none,.slice none 0 0] 160 (0,0)) w'):=by
 refine zN func148 ?_;refine zR ?_;refine zT hk [.pointer none] fun w2 u2=>?_;refine zR ?_;refine K9 u2.at_ [.slice none 0 0] rfl zk rfl (by intro v hv;simp at hv;subst hv;rfl) (zU rfl) fun w3 u3=>zR ?_
 exact ⟨rfl,u2.trans u3⟩
theorem Bld.fresh {w0 w:World} {b:Nat} (hc:Cl w0 w) (hb:w0.heap.size≤b) (hk:w.heap[b]?=some (.cells #[.pointer none,.slice none 0 0] 160 (0,0))):Bld w0 b [] w :=
 ⟨.inl ⟨hb,.slice none 0 0,hk,⟨rfl,.inl ⟨rfl,rfl⟩⟩,by simp [Value.ownBlock]⟩,hc⟩
theorem b0V {w:World} {b0 g n c:Nat} {l:List PM} (hr:Row 141 11 D4 b0 w (.slice (some ⟨g,0,none⟩) n c) l) (i:Nat) (hi:i<l.length) {o:Nat} (ho:o=i*11):g8 G.P w 141 ⟨g,o,none⟩ (.agg (E8 (E0 l[i]))):=by
 subst ho;obtain ⟨cur,h1,h2,h3⟩:=hr.getAll J9 i hi;have:=ldA (t:=141) (o:=i*11) (z:=11) h1 rfl h2;rw [h3] at this;exact this
theorem b60 (p:l9) (l:List PM) (m:Mv) {i:Nat} (hi:i<l.length):a1J p (l.take (i+1)) m=a1J p (l.take i) m++(if !decide (l[i].mv.fr=m.fr)&&decide (l[i].mv.to=m.to)&&decide (sq p m.fr=sq p l[i].mv.fr) then [l[i]] else []):=by
 unfold a1J;rw [zx hi,List.filter_append];congr 1;rw [List.filter_cons];rfl
set_option maxHeartbeats 2000000 in
theorem b8T {p:l9} (hI:D0 p) (hle:(B5 p).length≤218) {P b M t:Nat} {fz:Nat×Nat} {ad:Addr} {n0 c0:Nat} {d:Nd} (f0:0≤d.mv.fr) (f1:d.mv.fr≤63) (w:World) (hT:D5 w) (hM:I0 w P b p (.slice (some ad) n0 c0))
  (hD:w.heap[M]?=some (.cells (E8 d) t fz)) :
  Calls G.P 153 #[.pointer (some ⟨P,0,none⟩),.pointer (some ⟨M,0,none⟩)] w (N2 (m9 (s1M p (N9 p) d.mv)) w):=by
 obtain ⟨fr,hfr⟩:=ze f0;have hf64:fr<64:=by omega
 have pcs:=fun (s:Nat) (hs:s<64) w hT hB=>a1f (A4 p) b (t:=237) (fz:=(0,0)) s hs w hT hB;have pc:=pcs fr hf64;rw [a0t hI.pc hf64,← hfr] at pc;have hpr:=hI.pc d.mv.fr;have ety:=fun w=>a2n (sq p d.mv.fr) hpr.1 hpr.2 w;have hs1:s1M p (N9 p) d.mv=if d6 (sq p d.mv.fr)=6 then [] else (if ((a1J p (N9 p) d.mv).any fun x=>decide (x.mv.fr/8=d.mv.fr/8))||(!((a1J p (N9 p) d.mv).any fun x=>decide (x.mv.fr%8=d.mv.fr%8)) && !(a1J p (N9 p) d.mv).isEmpty) then D2 d.mv.fr else [])++(if ((a1J p (N9 p) d.mv).any fun x=>decide (x.mv.fr%8=d.mv.fr%8)) then rankT d.mv.fr else []):=rfl
 rw [hs1];clear hs1;obtain ⟨mm1,_⟩:=a1X hI;refine zN func153 ?_;refine zR ?_;refine zK 9 ?_;refine zR ?_;refine qHb hM.hd (zR ?_);refine a3C hD (zR ?_);refine m8 _ (fun w hw=>pc w (hT.cl hw) (hw.blk hM.bd)) (zR ?_);intro w1 c1;refine zR ?_;refine l8 (ety _) (zR ?_);apply E.b9<;>intro h
 ·rw [zM h];refine zR ?_;exact ⟨rfl,c1⟩
 rw [zJ h];clear h;refine zR ?_;refine v8 _ b8o ?_;have cA:=Cl.alloc w1 (.cells (Value.agg #[.pointer none,.slice none 0 0]).cells 160);have nA:=d9 w1 (.cells (Value.agg #[.pointer none,.slice none 0 0]).cells 160);have sA:=B0 w1 (.cells (Value.agg #[.pointer none,.slice none 0 0]).cells 160);generalize w1.alloc (.cells (Value.agg #[.pointer none,.slice none 0 0]).cells 160)=w2 at *;refine zR ?_;refine o7 (b5t nA) ?_;rintro r w3 ⟨rfl,u3⟩;refine ⟨_,rfl,?_⟩;have c3:Cl w w3:=c1.trans ((Tn.upd u3).toCl cA (yJ _));have c13:Cl w1 w3:=(Tn.upd u3).toCl cA (yJ _);refine zR ?_;refine o7 (b0U hI hle w3 (hT.cl c3) (hM.step c3)) ?_;rintro r w4 ⟨v,rfl,hr,c4⟩;have hb4:=c4.blk u3.at_;have c14:=c13.trans c4;obtain ⟨av,cv,rfl,hav⟩:=hr.form;refine ⟨_,rfl,?_⟩;have hlen:=a5D hI hle;refine zR ?_;refine B6 (σ:=Nat) [6,7,8,11,30] 31 (fun i=>[(6,.bool (!(a1J p ((N9 p).take i) d.mv).isEmpty)),(7,.bool ((a1J p ((N9 p).take i) d.mv).any fun x=>decide (x.mv.fr/8=d.mv.fr/8))),(8,.bool ((a1J p ((N9 p).take i) d.mv).any fun x=>decide (x.mv.fr%8=d.mv.fr%8))),(30,.int .i64 i)])
  (fun i w'=>i≤(N9 p).length∧Cl w4 w') (fun i=>(N9 p).length-i) zk 0 ⟨xA _,Cl.refl _⟩ ⟨rfl,rfl,rfl,rfl,trivial⟩ ?_
 rintro i j w5 ⟨hi,c5⟩;have ni:=C7 (i:=i) zo;refine zR ?_;apply E.b9<;>intro h
 ·have hi2:i<(N9 p).length:=by omega
  clear h;refine zG ?_;refine C3 (σ:=Unit) [6,7,8,11] 31 (fun _=>[(6,.bool (!(a1J p ((N9 p).take (i+1)) d.mv).isEmpty)),(7,.bool ((a1J p ((N9 p).take (i+1)) d.mv).any fun x=>decide (x.mv.fr/8=d.mv.fr/8))),(8,.bool ((a1J p ((N9 p).take (i+1)) d.mv).any fun x=>decide (x.mv.fr%8=d.mv.fr%8)))])
   (fun _ w'=>Cl w4 w') zk ?_ (fun _ j w8 c8=>?_)
  ·obtain ⟨g,rfl⟩:=hav zo;have hsn:=b60 p (N9 p) d.mv hi2;have hld:=fun {o:Nat} (ho:o=i*11)=>b0V (hr.step c5) i hi2 ho;have hxl:=(mm1 (N9 p)[i] (yO hi2)).1;generalize (N9 p)[i]=x at *;have hxr:=V9 hI hxl;obtain ⟨xf,hxf⟩:=ze hxr.1;have hxf64:xf<64:=by omega
   have pcx:=pcs xf hxf64;rw [a0t hI.pc hxf64,← hxf] at pcx;refine zR ?_;refine zC ?_;refine zR ?_;refine b7 _ (hld (a0F _ _)) (zR ?_);refine v8 _ a6X ?_;have cB:=Cl.alloc w5 (.cells (Value.agg (E8 (E0 ⟨⟨0,0,0⟩,0⟩))).cells 141);have nB:=d9 w5 (.cells (Value.agg (E8 (E0 ⟨⟨0,0,0⟩,0⟩))).cells 141);generalize w5.alloc (.cells (Value.agg (E8 (E0 ⟨⟨0,0,0⟩,0⟩))).cells 141)=w6 at *;refine zR ?_;refine K9 nB (D4 x) rfl a1I rfl (F8 x) (zU rfl) fun w7 u7=>?_;have hX:w7.heap[w5.heap.size]?=some (.cells (E8 (E0 x)) 141 (0,0)):=by have h7:=u7.at_;rw [C6 _ _ (by rw [J9];rfl)] at h7;exact h7
   have c7:Cl w5 w7:=(Tn.upd u7).toCl cB (yJ _);have c17:=c14.trans (c5.trans c7);have cw7:=c1.trans c17;have hM7:=hM.step cw7;have hD7:=cw7.blk hD;have c47:=c5.trans c7;generalize a1J p ((N9 p).take (i+1)) d.mv=A' at *;generalize a1J p ((N9 p).take i) d.mv=A at *;refine zR ?_;refine zK 27 ?_;refine zR ?_;refine a3C hX (zR ?_);refine a3C hD7 (zR ?_);apply E.y6<;>intro h
   ·have h1:¬ x.mv.fr=d.mv.fr:=h;clear h;refine zR ?_;refine b0O hX (zR ?_);refine b0O hD7 (zR ?_);apply E.b9<;>intro h
    ·have h2:x.mv.to=d.mv.to:=h;clear h;refine zR ?_;refine qHb hM7.hd (zR ?_);refine a3C hX (zR ?_);refine m8 _ (fun w hw=>pcx w ((hT.cl cw7).cl hw) (hw.blk hM7.bd)) (zR ?_);intro w8 c8;refine zG ?_;refine zR ?_;apply E.b9<;>intro h
     ·have hyes:A'=A++[x]:=by rw [hsn,zV h1,zX h2,zX h];rfl
      clear h;refine zR ?_;refine zK 9 ?_;refine zR ?_;refine a3C (c8.blk hX) (zR ?_);refine m8 _ (fun w hw=>a2Z x.mv.fr hxr.1 hxr.2.1 w) (zR ?_);refine a3C (c8.blk hD7) (zR ?_);refine m8 _ (fun w hw=>a2Z d.mv.fr f0 f1 w) (zR ?_);intro w9 c9;have c79:=c8.trans c9;refine zR ?_;apply E.b9<;>intro h
      ·have hf:=h;clear h;refine zR ?_;refine zK 9 ?_;refine zR ?_;refine a3C (c79.blk hX) (zR ?_);refine m8 _ (fun w hw=>a1e x.mv.fr hxr.1 hxr.2.1 w) (zR ?_);refine a3C (c79.blk hD7) (zR ?_);refine m8 _ (fun w hw=>a1e d.mv.fr f0 f1 w) (zR ?_);intro w10 c10;have c410:=(c47.trans c79).trans c10;refine zR ?_;apply E.b9<;>intro h
       ·refine zR ?_;exact ⟨(),⟨t8 (by rw [hyes];simp),t8 (by rw [hyes];simp [h]),t8 (by rw [hyes];simp [hf]),trivial⟩,c410⟩
       ·refine zR ?_;exact ⟨(),⟨t8 (by rw [hyes];simp),t8 (by rw [hyes];simp [h]),t8 (by rw [hyes];simp [hf]),trivial⟩,c410⟩
      ·have hf:=h;clear h;refine zR ?_;refine zK 9 ?_;refine zR ?_;refine a3C (c79.blk hX) (zR ?_);refine m8 _ (fun w hw=>a1e x.mv.fr hxr.1 hxr.2.1 w) (zR ?_);refine a3C (c79.blk hD7) (zR ?_);refine m8 _ (fun w hw=>a1e d.mv.fr f0 f1 w) (zR ?_);intro w10 c10;have c410:=(c47.trans c79).trans c10;refine zR ?_;apply E.b9<;>intro h
       ·refine zR ?_;exact ⟨(),⟨t8 (by rw [hyes];simp),t8 (by rw [hyes];simp [h]),t8 (by rw [hyes];simp [hf]),trivial⟩,c410⟩
       ·refine zR ?_;exact ⟨(),⟨t8 (by rw [hyes];simp),t8 (by rw [hyes];simp [h]),t8 (by rw [hyes];simp [hf]),trivial⟩,c410⟩
     ·have hno:A'=A:=by rw [hsn,zV h,Bool.and_false];simp
      refine zR ?_;exact ⟨(),⟨t8 (by rw [hno]),t8 (by rw [hno]),t8 (by rw [hno]),trivial⟩,c47.trans c8⟩
    ·have hno:A'=A:=by rw [hsn,show decide (x.mv.to=d.mv.to)=false from zV h,Bool.and_false,xi];simp
     refine zR ?_;repeat (refine E.p9 h ?_;refine zR ?_)
     intro w8 c8;refine zR ?_;exact ⟨(),⟨t8 (by rw [hno]),t8 (by rw [hno]),t8 (by rw [hno]),trivial⟩,c47.trans c8⟩
   ·have hno:A'=A:=by rw [hsn,show decide (x.mv.fr=d.mv.fr)=true from zX h];simp
    refine zR ?_;intro w8 c8;refine zR ?_;exact ⟨(),⟨t8 (by rw [hno]),t8 (by rw [hno]),t8 (by rw [hno]),trivial⟩,c47.trans c8⟩
  ·refine zR ?_;exact ⟨i+1,⟨rfl,rfl,rfl,d8 ni,trivial⟩,⟨zo,c8⟩,zo⟩
 ·have e:i=(N9 p).length:=by omega
  subst e;rw [yZ];have c15:=c14.trans c5;have hbl:Bld w1 w1.heap.size [] w5:=Bld.fresh c15 (yJ _) (c5.blk hb4);have hD5:=(c1.trans c15).blk hD;generalize ((a1J p (N9 p) d.mv).any fun x=>decide (x.mv.fr/8=d.mv.fr/8))=FQ at *;generalize ((a1J p (N9 p) d.mv).any fun x=>decide (x.mv.fr%8=d.mv.fr%8))=RQ at *;generalize (a1J p (N9 p) d.mv).isEmpty=RE at *;refine zG ?_;refine C3 (σ:=Unit) [] 31 (fun _=>[]) (fun _ w'=>Bld w1 w1.heap.size (if (FQ||(!RQ && !RE))=true then D2 d.mv.fr else []) w') zk ?_ (fun _ j w6 h6=>?_)
  ·cases FQ<;>cases RQ<;>cases RE<;>(refine zR ?_)<;>first
    | exact ⟨(),trivial,hbl⟩
    | (refine a4Q hD5 ?_
       refine zR ?_;refine l8 (a2Z d.mv.fr f0 f1 _) (zR ?_);refine l8 (c1m (d.mv.fr%8) zo zo _) (zR ?_);refine o7 (a2b (UInt8.ofNat (97+(d.mv.fr%8).toNat)) hbl zd) ?_;rintro r w6 ⟨rfl,h6⟩;refine ⟨_,rfl,zR ?_⟩;exact ⟨(),trivial,h6⟩)
  have hD6:=(c1.trans h6.cl).blk hD;have hl6:(if (FQ||(!RQ && !RE))=true then D2 d.mv.fr else []).length<1000000:=by split<;>simp [D2]
  generalize (if (FQ||(!RQ && !RE))=true then D2 d.mv.fr else [])=L at *
  cases RQ
  ·refine zR ?_;refine o7 (a3B h6) ?_;rintro r w7 ⟨rfl,c7⟩;refine ⟨_,rfl,zR ?_⟩;exact ⟨by simp;rfl,c1.trans c7⟩
  ·refine zR ?_;refine a4Q hD6 (zR ?_);refine l8 (a1e d.mv.fr f0 f1 _) (zR ?_);refine l8 (c1n (d.mv.fr/8) zo zo _) (zR ?_);refine o7 (a2b (UInt8.ofNat (49+(d.mv.fr/8).toNat)) h6 hl6) ?_;rintro r w7 ⟨rfl,h7⟩;refine ⟨_,rfl,zR ?_⟩;refine o7 (a3B h7) ?_;rintro r w8 ⟨rfl,c8⟩;refine ⟨_,rfl,zR ?_⟩;exact ⟨rfl,c1.trans c8⟩
end
