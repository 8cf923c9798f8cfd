/- One part of the proof: Pk15 Law9 TxM Fac Pk16 Pk17 Pk18 Pk19. -/
import Derived.Laws.BytesArg
import Derived.Lib.AppendStr
import Derived.Test.YtpclhlhcegcflaaGreatDoorM11
namespace Go.Proofs.YtpclhlhcegcflaaGreatDoor
open Go.Proofs.Tryz
set_option maxRecDepth 100000
set_option linter.unusedSimpArgs false
set_option linter.unusedVariables false
section
open Go Go.RowKit
open E
open Ch Bb
theorem a5O.toCl {b0:Nat} {w0 w w':World} {v v':Value} (h:a5O b0 w v w' v') (hb:w0.heap.size=b0) (hc:Cl w0 w):Cl w0 w':=h.cl w0 hb hc
theorem a6i {p:g9} (hI:B7 p) (hle:(A5 p).length≤218):(P7 p).length≤220:=by
 unfold P7;rw [zF];have:(a1c p).length≤2:=by unfold a1c;split<;>split<;>simp
 omega
theorem a7U {P:Program} (w:World) (t ty e:TypeId) (i:TypeInfo) (ht:P.underlying t=some (.slice e)) (hi:P.info? e=some i) (b a:Addr) (sLen sCap c:Nat) (h:sLen≤sCap) :
  (Builtin.append_ #[t,t] ty #[.slice (some b) sLen sCap,.slice (some a) 0 c]).run P w = .ok (.slice (some b) sLen sCap) w:=by
 have hf:=run_firstCells_some (P:=P) w i.size 0 a 0 c [] (by simp) (by simp)
 simp [Builtin.append_,run_underlying ht,sizeOf,typeInfo,hi,Builtin.lenOf,h,hf,storeCells]
theorem b93 {α:Type} {t e z b:Nat} (E1:H0 t e z b) {enc:α→List Value} {l news:List α} {dst:Option Nat} {s x:Operand} {ty:Nat} {pos:String} {af:Array Edge} {gd:Option (Nat×Bool)} {env:C9} {w:World} {K:Value→World→Prop}
  {g0 g c:Nat} (hs:ev env s = .slice (some ⟨g0,0,none⟩) l.length l.length) (hA:∀ (j:Nat) (u:Value),(l.flatMap enc)[j]?=some u→w.cell? ⟨g0,j,none⟩=some u)
  (hx:ev env x = .slice (some ⟨g,0,none⟩) news.length c) (hB:∀ (j:Nat) (u:Value),(news.flatMap enc)[j]?=some u→w.cell? ⟨g,j,none⟩=some u) (henc:∀ x,(enc x).length=z)
  (hlen:l.length+news.length≤1000) (hbz:b≤1000)
  (h:∀ a c w',Cl w w'→K (.slice (some a) (l.length+news.length) c) w') :
  L6 G.P { dst,op:=.call { callee:=.builtin .append,args:=#[s,x],argTypes:=#[t,t] },type:=ty,pos,after:=af,guard:=gd } env w K:=by
 obtain ⟨i,zv,hi,hzv,hsz,hby,hzs⟩:=E1.info;by_cases hn:news.length=0
 ·have h1:=a7U (P:=G.P) w t ty e i E1.ty hi ⟨g0,0,none⟩ ⟨g,0,none⟩ l.length l.length c (yO _);refine ⟨.inl ⟨_,w,?_,by have:=h ⟨g0,0,none⟩ l.length w (Cl.refl _);rw [hn,Nat.add_zero] at this;exact this⟩⟩
  simp only [execOp,resolve,invoke,builtin,yq,xi,yx,xW,yU,xn,hs,hx,hn,h1]
 ·have hcap:Builtin.nextslicecap (l.length+news.length) l.length≤4*(l.length+news.length)+64:=by
   have:=nextslicecap_le (need:=l.length+news.length) (old:=l.length) zo;omega
  have h1:=run_append_grow (P:=G.P) w t ty e i zv E1.ty hi hzv ⟨g0,0,none⟩ l.length l.length (l.flatMap enc) (by rw [H8 henc,hsz]) (fun j v hv=>by rw [H6,yZ];exact hA j v hv) ⟨g,0,none⟩ news.length c (news.flatMap enc) (by rw [H8 henc,hsz]) (fun j v hv=>by rw [H6,yZ];exact hB j v hv)
   zo zo (by
    have:Builtin.nextslicecap (l.length+news.length) l.length*i.bytes≤5000*1000:=Nat.mul_le_mul zo zo;omega)
  have hc:=(Cl.drew (Cl.refl w)).trans (Cl.alloc w.drew (.cells ((l.flatMap enc).toArray++(news.flatMap enc).toArray++Builtin.zeroCells zv.cells (grownCap w (l.length+news.length) l.length e-(l.length+news.length))) e));generalize w.drew.alloc (.cells ((l.flatMap enc).toArray++(news.flatMap enc).toArray++Builtin.zeroCells zv.cells (grownCap w (l.length+news.length) l.length e-(l.length+news.length))) e)=w2 at *;refine ⟨.inl ⟨.slice (some ⟨w.heap.size,0,none⟩) (l.length+news.length) (grownCap w (l.length+news.length) l.length e),w2,?_,h _ _ _ hc⟩⟩;simp only [execOp,resolve,invoke,builtin,yq,xi,yx,xW,yU,xn,hs,hx,h1]
theorem a79 {p:g9} (hI:B7 p) {ck:Bool} (hck:a1i p=true→ck=true) (first:Bool) (hle:first=false→(A5 p).length≤218) {P b:Nat} {cv:Value} (w:World) (hT:C6 w)
  (hP:w.heap[P]?=some (.cells (hdA b (D0 p ck) cv) 173 (0,0))) (hB:w.heap[b]?=some (.cells (J4 (a1s p)) 237 (0,0))) :
  Calls G.P 139 #[.agg #[],.pointer (some ⟨P,0,none⟩),.bool first] w (fun r w'=>Cl w w'∧∃ v,r = .returned v∧if first=true then ∃ a n c,v = .slice a n c∧(0<n↔a3U p ck≠[]) else Row 141 11 D8 w.heap.size w' v (a3U p ck)):=by
 refine zN func139 ?_;refine zR ?_;have hPs:P<w.heap.size:=(yn.1 hP).1;have hbx:=Cl.alloc w (.cells #[] 186);generalize w.alloc (.cells #[] 186)=w0 at *;have hst:=b4D hI first hle w0 (hT.cl hbx) (hbx.blk hP) (hbx.blk hB)
 refine m8 hst ?_;rintro r w1 ⟨c1,v,rfl,hv⟩;have c1':=hbx.trans c1;obtain ⟨av,nv,kv,rfl⟩:∃ a n c,v = .slice a n c:=by
  cases first
  ·rw [zJ zd] at hv;obtain ⟨a,c,e,_⟩:=hv.form;exact ⟨_,_,_,e⟩
  ·rw [zM rfl] at hv;rcases hv with ⟨_,hv⟩|⟨_,g,y,u,e,_⟩
   ·obtain ⟨a,c,e,_⟩:=hv.form;exact ⟨_,_,_,e⟩
   ·exact ⟨_,_,_,e⟩
 refine ⟨_,rfl,zR ?_⟩;refine m8 (b92 hI hck w1 (hT.cl c1') (c1'.blk hP) (c1'.blk hB)) ?_;rintro r w2 ⟨c2,g,rfl,hg,hgc⟩;have c2':=c1'.trans c2;have hm2:=b2C p ck;have hmac:a3U p ck=A5 p++a3A p ck:=rfl;refine ⟨_,rfl,zR ?_⟩;have s0:w0.heap.size≤w2.heap.size:=(c1.trans c2).size;cases first
 ·have hle:=hle rfl;rw [zJ zd] at hv;refine a5P b2Y (v:=.slice av nv kv) (l:=A5 p) (news:=a3A p ck) rfl (hv.step c2) rfl hgc J2 F9 zo zd s0 fun v' w' hr hgr=>?_;obtain ⟨a9,c9,rfl,_⟩:=hr.form;refine zR ?_;refine ⟨hgr.toCl rfl ((Cl.refl _).trans (c1.trans c2)) |> hbx.trans,_,rfl,?_⟩;rw [zJ zd,hmac];exact hr.mono hbx.size
 ·rw [zM rfl] at hv;rcases hv with ⟨h0,hv⟩|⟨h0,g1,y,u,e1,hy⟩
  ·refine a5P b2Y (v:=.slice av nv kv) (l:=[]) (news:=a3A p ck) rfl (hv.step c2) rfl hgc J2 F9 (by simp;omega) zd s0 fun v' w' hr hgr=>?_
   obtain ⟨a9,c9,rfl,_⟩:=hr.form;refine zR ?_;refine ⟨hgr.toCl rfl ((Cl.refl _).trans (c1.trans c2)) |> hbx.trans,_,rfl,?_⟩;rw [zM rfl,hmac,h0];exact ⟨_,_,_,rfl,List.length_pos_iff⟩
  ·injection e1 with e1 e2 e3;subst e1 e2 e3;refine b93 b2Y (l:=[y]) (news:=a3A p ck) rfl (fun j x hx=>?_) rfl hgc J2 (by simp;omega) zd fun a c w' c3=>?_
   ·rw [D2 (c2.blk hy)];simp only [xj,List.flatMap_nil,zn] at hx;rw [← hx];simp [F7,D8]
   refine zR ?_;refine ⟨c2'.trans c3,_,rfl,?_⟩;rw [zM rfl,hmac];exact ⟨_,_,_,rfl,fun _ e=>h0 (List.append_eq_nil_iff.1 e).1,fun _=>Nat.add_pos_left Nat.one_pos _⟩
structure G8 (w:World) (P b:Nat) (p:g9) (cv:Value):Prop where
 hd:w.heap[P]?=some (.cells (hdA b (D0 p (a1i p)) cv) 173 (0,0))
 bd:w.heap[b]?=some (.cells (J4 (a1s p)) 237 (0,0))
 ca:cv = .slice none 0 0∨Row 141 11 D8 0 w cv (P7 p)
theorem G8.step {w w':World} {P b:Nat} {p:g9} {cv:Value} (h:G8 w P b p cv) (c:Cl w w'):G8 w' P b p cv :=
 ⟨c.blk h.hd,c.blk h.bd,h.ca.elim .inl fun h=>.inr (h.step c)⟩
theorem G8.form {w:World} {P b:Nat} {p:g9} {cv:Value} (h:G8 w P b p cv):∃ a n c,cv = .slice a n c:=by
 rcases h.ca with e|e
 ·exact ⟨_,_,_,e⟩
 ·obtain ⟨a,c,e,_⟩:=e.form;exact ⟨_,_,_,e⟩
theorem G8.keep {w w':World} {P b:Nat} {p:g9} {cv:Value} (h:G8 w P b p cv) (hk:∀ (k:Nat) (cs:Array Value) (t:Nat),t≠131→w.heap[k]?=some (.cells cs t (0,0))→w'.heap[k]?=some (.cells cs t (0,0))):G8 w' P b p cv:=by
 refine ⟨hk _ _ _ zd h.hd,hk _ _ _ zd h.bd,h.ca.elim .inl fun h=>.inr ?_⟩;refine ⟨h.1,?_⟩;rcases h.2 with h2|⟨g,cap,cur,h1,h2,h3,h4⟩
 ·exact .inl h2
 ·exact .inr ⟨g,cap,cur,h1,h2,hk _ _ _ zd h3,h4⟩
theorem c5K {w:World} {P b u:Nat} {h:Hd} {cv:Value} {K:World→Prop} (hP:w.heap[P]?=some (.cells (hdA b h cv) u (0,0))) (a:Option Addr) (n c:Nat) (hk:∀ w',Upd w P (.cells (hdA b h (.slice a n c)) u (0,0)) w'→K w'):a0D G.P w 132 ⟨P,2,none⟩ (.slice a n c) K :=
 zT hP [.slice a n c] (fun w2 u2=>hk w2 u2)
theorem G8.turn {w w':World} {P b:Nat} {p:g9} {cv cv':Value} (h:G8 w P b p cv) (u:Upd w P (.cells (hdA b (D0 p (a1i p)) cv') 173 (0,0)) w') (hne:b≠P) {b0:Nat} (hr:Row 141 11 D8 b0 w cv' (P7 p)):G8 w' P b p cv':=by
 refine ⟨u.at_,(Tn.upd u).blk h.bd hne,.inr ?_⟩;have hr:=hr.mono (xJ b0);refine ⟨hr.1,?_⟩;rcases hr.2 with h2|⟨g,cap,cur,h1,h2,h3,h4⟩
 ·exact .inl h2
 ·refine .inr ⟨g,cap,cur,h1,h2,(Tn.upd u).blk h3 (fun e=>?_),h4⟩;subst e;rw [h.hd] at h3;injection h3 with h3;injection h3 with _ h3 _;exact absurd h3 zd
theorem G8.ne {w:World} {P b:Nat} {p:g9} {cv:Value} (h:G8 w P b p cv):b≠P:=by
 intro e;have:=h.bd;rw [e,h.hd] at this;injection this with this;injection this with _ this _;exact absurd this zd
theorem Row.own {α:Type} {enc:α→List Value} {e z b0 k:Nat} {w:World} {v:Value} {l:List α} (h:Row e z enc b0 w v l) (hk:v.ownBlock=some k):b0≤k∧k<w.heap.size:=by
 rcases h.2 with ⟨e1,_⟩|⟨g,cap,cur,e1,e2,e3,_⟩
 ·rw [e1] at hk;cases hk
 ·rw [e1] at hk;injection hk with hk;subst hk;exact ⟨e2,(yn.1 e3).1⟩
theorem a6j {p:g9} (hI:B7 p) (hle:(A5 p).length≤218) {P b:Nat} {cv:Value} (w:World) (hT:C6 w) (hM:G8 w P b p cv) :
  Calls G.P 99 #[.pointer (some ⟨P,0,none⟩)] w (fun r w'=>∃ v cv',r = .returned v∧Row 141 11 D8 w.heap.size w' v (P7 p)∧G8 w' P b p cv'∧Tn P w w'∧Row 141 11 D8 0 w' cv' (P7 p)∧∀ k,cv'.ownBlock=some k→cv.ownBlock=some k∨w.heap.size≤k):=by
 have hl:=a6i hI hle;obtain ⟨a0,n0,c0,rfl⟩:=hM.form;have hP:=hM.hd;have hPs:P<w.heap.size:=(yn.1 hP).1;refine zN func99 ?_;refine zR ?_;refine b7 _ (a8V hP) (zR ?_);refine G7 _ (a6U rfl a0 n0 c0) ?_;cases a0 with
 | some ad =>
  refine zR ?_;refine b7 _ (a8V hP) (zR ?_);have hr:Row 141 11 D8 0 w (.slice (some ad) n0 c0) (P7 p):=hM.ca.elim (fun e=>by cases e) id
  refine I5 b2Y (l:=[]) (news:=P7 p) rfl (Row.nil w w.heap.size) rfl hr J2 F9 (by simp;omega) zd (yO _) fun v' w' hr' hg=>?_
  rw [yP] at hr';obtain ⟨a9,c9,rfl,_⟩:=hr'.form;have hc:Cl w w':=hg.toCl rfl (Cl.refl _);refine zR ?_;exact ⟨_,_,rfl,hr',hM.step hc,Tn.cl hc,hr.step hc,fun k h=>.inl h⟩
 | none =>
  refine zR ?_;refine r7 #[] zk (zR ?_);refine m8 (a79 hI id false (fun _=>hle) w hT hP hM.bd) ?_;rintro r w1 ⟨c1,v,rfl,hv⟩;rw [zJ zd,a8i] at hv;obtain ⟨a,c,rfl,_⟩:=hv.form;refine ⟨_,rfl,?_⟩;have hM1:=hM.step c1;refine zR ?_;refine c5K hM1.hd a _ c fun w2 u2=>?_;have hM2:=hM1.turn u2 hM.ne hv;have n2:Tn P w w2:=(Tn.cl c1).trans (Tn.upd u2);refine zR ?_;refine b7 _ (a8V hM2.hd) (zR ?_);have hr:Row 141 11 D8 0 w2 (.slice a (P7 p).length c) (P7 p):=hM2.ca.elim (fun e=>by
   injection e with e1 e2 e3;subst e1 e3;have:P7 p=[]:=List.length_eq_zero_iff.1 e2;rw [this];exact Row.nil _ _) id
  refine I5 b2Y (l:=[]) (news:=P7 p) rfl (Row.nil w2 w2.heap.size) rfl hr J2 F9 (by simp;omega) zd (yO _) fun v' w' hr' hg=>?_
  rw [yP] at hr';obtain ⟨a9,c9,rfl,_⟩:=hr'.form;have hc:Cl w2 w':=hg.toCl rfl (Cl.refl _);refine zR ?_;exact ⟨_,_,rfl,hr'.mono n2.size,hM2.step hc,n2.trans (Tn.cl hc),hr.step hc,fun k h=>.inr (hv.own h).1⟩
def b0A (p:g9) (ck:Bool):Int:=if !(a3U p ck).isEmpty then 0 else if ck then 1 else 4
theorem b94 {p:g9} (hI:B7 p):b0A p (a1i p)=a5G p:=by unfold b0A a5G;rw [a8i,b0y hI]
theorem a9p {p:g9} (hI:B7 p) {ck:Bool} (hck:a1i p=true→ck=true) {P b:Nat} {cv:Value} (w:World) (hT:C6 w) (hP:w.heap[P]?=some (.cells (hdA b (D0 p ck) cv) 173 (0,0))) (hB:w.heap[b]?=some (.cells (J4 (a1s p)) 237 (0,0)))
  (hcv:cv = .slice none 0 0∨(ck=a1i p∧Row 141 11 D8 0 w cv (P7 p))) :
  Calls G.P 176 #[.agg #[],.pointer (some ⟨P,0,none⟩)] w (N0 (.int .u8 (b0A p ck)) w):=by
 obtain ⟨a0,n0,c0,rfl⟩:∃ a n c,cv = .slice a n c:=by
  rcases hcv with e|⟨_,e⟩
  ·exact ⟨_,_,_,e⟩
  ·obtain ⟨a,c,e,_⟩:=e.form;exact ⟨_,_,_,e⟩
 have hb:∀ n:Nat,(0<n↔a3U p ck≠[])→decide ((n:Int)>0) = !(a3U p ck).isEmpty:=by
  intro n h;cases e:(a3U p ck).isEmpty
  ·exact zX (by have:=h.2 (fun e2=>by rw [e2] at e;cases e);omega)
  ·exact zV (fun h2=>(h.1 zo) (List.isEmpty_iff.1 e))
 have hst:b0A p ck=if !(a3U p ck).isEmpty then 0 else if ck then 1 else 4:=rfl
 refine zN func176 ?_;refine zG ?_;have cb:=Cl.alloc w (.cells #[] 186);have hP:=cb.blk hP;have hB:=cb.blk hB;have hT:=hT.cl cb;have hcv:(.slice a0 n0 c0:Value) = .slice none 0 0∨(ck=a1i p∧Row 141 11 D8 0 (w.alloc (.cells #[] 186)) (.slice a0 n0 c0) (P7 p)):=hcv.elim .inl fun h=>.inr ⟨h.1,h.2.step cb⟩;generalize w.alloc (.cells #[] 186)=w0 at *;refine Nx.mk (zG ?_);refine B0 (σ:=Unit) [5] 6 (fun _=>[(5,.bool (!(a3U p ck).isEmpty))]) (fun _ w'=>Cl w0 w') zk ?_ (fun _ j w1 c1=>?_)
 ·refine zR ?_;refine b7 _ (a8V hP) (zR ?_);refine G7 _ (a6U rfl a0 n0 c0) ?_;cases a0 with
  | some ad =>
   obtain ⟨e0,hr⟩:=hcv.elim (fun e=>by cases e) id
   obtain ⟨a,c,e,_⟩:=hr.form;injection e with e1 e2 e3;subst e2;have hmc:a3U p ck=P7 p:=by rw [e0,a8i]
   refine zR ?_;refine b7 _ (a8V hP) (zR ?_);exact ⟨(),⟨z7 (hb _ (by rw [hmc];exact List.length_pos_iff)),trivial⟩,Cl.refl _⟩
  | none =>
   refine zR ?_;refine r7 #[] zk (zR ?_);refine m8 (a79 hI hck true (fun e=>by cases e) w0 hT hP hB) ?_
   rintro r w1 ⟨c1,v,rfl,hv⟩;rw [zM rfl] at hv;obtain ⟨a,n,c,rfl,hn⟩:=hv;refine ⟨_,rfl,zR ?_⟩;exact ⟨(),⟨z7 (hb n hn),trivial⟩,c1⟩
 have hP:=c1.blk hP;generalize (a3U p ck).isEmpty=LE at *;have cc:=cb.trans c1;refine zR ?_;refine a8X hP ?_;cases LE<;>cases ck
 ·refine zR ?_;refine a8X hP (zR ?_);exact ⟨D4 hst.symm,cc⟩
 ·refine zR ?_;refine a8X hP (zR ?_);exact ⟨D4 hst.symm,cc⟩
 ·refine zR ?_;exact ⟨D4 hst.symm,cc⟩
 ·refine zR ?_;refine a8X hP (zR ?_);exact ⟨D4 hst.symm,cc⟩
theorem b0B {p:g9} (hI:B7 p) {ck:Bool} (hck:a1i p=true→ck=true) {P b:Nat} {cv:Value} (w:World) (hT:C6 w) (hP:w.heap[P]?=some (.cells (hdA b (D0 p ck) cv) 173 (0,0))) (hB:w.heap[b]?=some (.cells (J4 (a1s p)) 237 (0,0)))
  (hcv:cv = .slice none 0 0∨(ck=a1i p∧Row 141 11 D8 0 w cv (P7 p))) :
  Calls G.P 112 #[.pointer (some ⟨P,0,none⟩)] w (N0 (.int .u8 (b0A p ck)) w):=by
 refine zN func112 ?_;refine zR ?_;refine r7 #[] zk (zR ?_);refine o7 (a9p hI hck w hT hP hB hcv) fun w1 c1=>zR ?_;exact ⟨rfl,c1⟩
theorem b0C {p:g9} (hI:B7 p) {P b:Nat} {cv:Value} (w:World) (hT:C6 w) (hM:G8 w P b p cv) :
  Calls G.P 112 #[.pointer (some ⟨P,0,none⟩)] w (N0 (.int .u8 (a5G p)) w):=by
 rw [← b94 hI];exact b0B hI id w hT hM.hd hM.bd (hM.ca.elim .inl fun h=>.inr ⟨rfl,h⟩)
end
section
open Go Go.RowKit
open E
def a01 (c:UInt8):List Value:=[.int .u8 (c.toNat:Int)]
theorem R7 (c:UInt8):(a01 c).length=1:=rfl
theorem a4a (c:UInt8):∀ v∈a01 c,v.oneCell'=true:=by intro v hv;simp [a01] at hv;subst hv;rfl
theorem b95 (l:Tx):l.flatMap a01=Lib.byteCells l:=by
 induction l with
 | nil=>rfl
 | cons c r ih=>rw [xj,ih];rfl
theorem infoByte:∃ i,G.P.info? 5=some i∧i.zero=some (.int .u8 0)∧i.size=1∧i.bytes=1:=by
 have h:(G.P.info? 5).map (fun i=>(i.zero,i.size,i.bytes))=some (some (.int .u8 0),1,1):=by kernel_rfl
 cases e:G.P.info? 5 with
 | none=>rw [e] at h;cases h
 | some i =>
  rw [e] at h;injection h with h;injection h with h1 h2;injection h2 with h2 h3;exact ⟨i,rfl,h1,h2,h3⟩
section
variable {dst:Option Nat} {ty:Nat} {pos:String} {af:Array Edge} {gd:Option (Nat×Bool)} {env:C9} {w:World} {K:Value→World→Prop}
theorem a6k {b0:Nat} {v:Value} {l s:Tx} {x y:Operand} (hs:ev env x=v) (hrow:Row 5 1 a01 b0 w v l) (hx:ev env y = .string (tx s)) (hlen:l.length+s.length≤1000000) (hb0:b0≤w.heap.size)
  (h:∀ v' w',Row 5 1 a01 b0 w' v' (l++s)→(∀ w0,w0.heap.size=b0→Cl w0 w→Cl w0 w')→K v' w') :
  L6 G.P { dst,op:=.call { callee:=.builtin .append,args:=#[x,y],argTypes:=#[157,9] },type:=ty,pos,after:=af,guard:=gd } env w K:=by
 obtain ⟨i,hi,hz,hsz,hby⟩:=infoByte;obtain ⟨v',w',h1,h2,h3,_⟩:=Lib.run_append_own_string (P:=G.P) w b0 157 9 ty 5 i b40 a9X hi hz hsz hby v l.length (l.flatMap a01) hrow (tx s) (by rw [C5];unfold maxLen;omega) (by rw [C5];omega) hb0
 have e:l.flatMap a01++Lib.strCells (tx s)=(l++s).flatMap a01:=by rw [wU,b95 s];rfl
 rw [e,C5] at h2;refine ⟨.inl ⟨v',w',?_,h v' w' ?_ (fun w0 hw0 hc=>?_)⟩⟩
 ·simp only [execOp,resolve,invoke,builtin,yq,xi,yx,xW,yU,xn,hs,hx,h1]
 ·unfold Row;rw [zF];exact h2
 ·subst hw0;refine Below.grown hc h3 hb0 fun k hk=>?_;rcases hrow.2 with ⟨e1,_⟩|⟨g,cap,cur,e1,e2,_⟩
  ·rw [e1] at hk;cases hk
  ·rw [e1] at hk;injection hk with hk;subst hk;exact e2
theorem b0D (l:Tx) {b0:Nat} {v:Value} {x:Operand} (hx:ev env x=v) (hr:Row 5 1 a01 b0 w v l) (h:K (m7 l) w) :
  L6 G.P { dst,op:=.convert 157 9 x,type:=ty,pos,after:=af,guard:=gd } env w K:=by
 obtain ⟨a,c,rfl,ha⟩:=hr.form;cases a with
 | none =>
  have hl:l=[]:=by
   cases l with
   | nil=>rfl
   | cons y r=>obtain ⟨g,e⟩:=ha (by simp);cases e
  subst hl;refine ⟨.inl ⟨_,w,?_,h⟩⟩;show (do pure (Next.value (← convert _ _ (ev env x))):Sem Next).run G.P w=_
  rw [hx,yq,run_convert_bytes_nil (P:=G.P) w 157 5 b40 c3f _ _ _ a9X];rfl
 | some ad =>
  rcases hr.2 with ⟨e1,_⟩|⟨g,cap,cur,e1,e2,e3,e4,e5,e6,e7⟩
  ·cases e1
  ·injection e1 with e1 e8 e9;injection e1 with e1;subst e1;refine (a8S l hx rfl e3 (fun j hj=>?_) h);rw [wX] at e7;have e10:(cur.toList.take l.length)[j]?=(l.flatMap a01)[j]?:=by rw [e7]
   rw [xq,zM hj,xM,b95] at e10;rw [e10,Lib.byteCells,List.getElem?_map,yu hj];rfl
theorem a6l {l:Tx} {s:ByteArray} {k:IntKind} {b:Int} {x hi:Operand} (r:Tx) (hx:ev env x = .string s) (hh:ev env hi = .int k b) (hs:s=tx l) (h0:0≤b) (h2:b≤l.length) (hr:l.take b.toNat=r) (h:K (m7 r) w) :
  L6 G.P { dst,op:=.slice 9 x none (some hi) none,type:=ty,pos,after:=af,guard:=gd } env w K:=by
 subst hs;refine ⟨.inl ⟨_,w,?_,h⟩⟩;show (do pure (Next.value (← Instr.slice 9 (ev env x) none (some (ev env hi)) none)):Sem Next).run G.P w=_
 rw [hx,hh,yq,run_slice_string_h (P:=G.P) w 9 _ a9X _ _ h0 (by rw [C5];exact h2),tx,ByteArray.extract_mk]
 rw [← hr,List.drop_zero,Nat.sub_zero];rfl
theorem a9q {l:Tx} {s:ByteArray} {k:IntKind} {a:Int} {x lo:Operand} (r:Tx) (hx:ev env x = .string s) (hh:ev env lo = .int k a) (hs:s=tx l) (h0:0≤a) (h2:a≤l.length) (hr:l.drop a.toNat=r) (h:K (m7 r) w) :
  L6 G.P { dst,op:=.slice 9 x (some lo) none none,type:=ty,pos,after:=af,guard:=gd } env w K:=by
 subst hs;refine ⟨.inl ⟨_,w,?_,h⟩⟩;show (do pure (Next.value (← Instr.slice 9 (ev env x) (some (ev env lo)) none none)):Sem Next).run G.P w=_
 rw [hx,hh,yq,run_slice_string_l (P:=G.P) w 9 _ a9X _ _ h0 (by rw [C5];exact h2),tx,ByteArray.extract_mk]
 rw [← hr,show (⟨l.toArray⟩:ByteArray).size=l.length from C5 l,wW (by simp)];rfl
end
end
section
namespace Ch
def b3Y (p:g9) (l:List PM) (m:Mv):List PM:=l.filter fun x=>!decide (x.mv.fr=m.fr)&&decide (x.mv.to=m.to)&&decide (sq p m.fr=sq p x.mv.fr)
def s1M (p:g9) (l:List PM) (m:Mv):Tx :=
 if a0B (sq p m.fr)=6 then []
 else
  let req:=!(b3Y p l m).isEmpty;let rankReq:=(b3Y p l m).any fun x=>decide (x.mv.fr%8=m.fr%8);let fileReq:=(b3Y p l m).any fun x=>decide (x.mv.fr/8=m.fr/8)
  (if fileReq||(!rankReq&&req) then v8 m.fr else [])++(if rankReq then B6 m.fr else [])
theorem a6Z {p:g9} (hI:B7 p) (m:Mv) (f:Int→Bool):((b3Y p (P7 p) m).any fun x=>f x.mv.fr)=((I3 p m).any fun x=>f x.fr):=by
 obtain ⟨h1,h2⟩:=a1l hI;rw [xD,xO,xO];unfold b3Y I3;constructor
 ·rintro ⟨x,hx,hf⟩;obtain ⟨ha,hb⟩:=xg.1 hx;simp only [zP,zc,zW,zZ] at hb;refine ⟨x.mv,xg.2 ⟨(h1 x ha).1,?_⟩,hf⟩;simp only [zP,zc,zW,zZ];exact ⟨⟨hb.1.2,hb.1.1⟩,hb.2.symm⟩
 ·rintro ⟨y,hy,hf⟩;obtain ⟨ha,hb⟩:=xg.1 hy;simp only [zP,zc,zW,zZ] at hb;obtain ⟨x,hx,e⟩:=h2 y ha;refine ⟨x,xg.2 ⟨hx,?_⟩,by rw [e];exact hf⟩
  rw [e];simp only [zP,zc,zW,zZ];exact ⟨⟨hb.1.2,hb.1.1⟩,hb.2.symm⟩
theorem b3a {α:Type} (l:List α):l.isEmpty = !(l.any fun _=>true):=by cases l<;>rfl
theorem c4o {p:g9} (hI:B7 p) (m:Mv) (f0:0≤m.fr) (f1:m.fr≤63) (hk:a0B (sq p m.fr)≠6):s1M p (P7 p) m=apart p m:=by
 unfold s1M apart;rw [zJ hk];have e1:=a6Z hI m (fun f=>decide (f%8=m.fr%8));have e2:=a6Z hI m (fun f=>decide (f/8=m.fr/8));have e3:=a6Z hI m (fun _=>true);simp only [b3a,e1,e2,e3];have i1:((I3 p m).any fun x=>decide (x.fr%8=m.fr%8))=true→((I3 p m).any fun _=>true)=true:=by
  intro h;obtain ⟨x,hx,_⟩:=xO.1 h;exact xO.2 ⟨x,hx,rfl⟩
 have i2:((I3 p m).any fun x=>decide (x.fr/8=m.fr/8))=true→((I3 p m).any fun _=>true)=true:=by
  intro h;obtain ⟨x,hx,_⟩:=xO.1 h;exact xO.2 ⟨x,hx,rfl⟩
 have hs:sqT m.fr=v8 m.fr++B6 m.fr:=by unfold sqT;rw [zJ zo]
 generalize ((I3 p m).any fun x=>decide (x.fr%8=m.fr%8))=a at *;generalize ((I3 p m).any fun x=>decide (x.fr/8=m.fr/8))=b at *;generalize ((I3 p m).any fun _=>true)=c at *;cases a<;>cases b<;>cases c<;>simp at * <;> simp [hs]
def a9Q (p:g9) (m:Mv) (t:Nat):Tx:=if t.testBit 4 then (if (a3U (made p m) true).isEmpty then [35] else [43]) else []
def b7s (p:g9) (m:Mv) (t:Nat):Tx :=
 if t.testBit 0 then [79,45,79]++a9Q p m t
 else if t.testBit 1 then [79,45,79,45,79]++a9Q p m t
 else a2t (a0B (sq p m.fr))++s1M p (P7 p) m++(if t.testBit 2||t.testBit 3 then (if a0B (sq p m.fr)=6 then v8 m.fr else [])++[120] else [])++sqT m.to++(if m.promo=0 then [] else [61]++a2t m.promo)++a9Q p m t
def c1T (p:g9) (m:Mv) (t:Nat):Tx :=
 if t.testBit 0 then [79,45,79]++a9Q p m t
 else if t.testBit 1 then [79,45,79,45,79]++a9Q p m t
 else a2t (a0B (sq p m.fr))++sqT m.fr++(if t.testBit 2||t.testBit 3 then [120] else [])++sqT m.to++(if m.promo=0 then [] else [61]++a2t m.promo)++a9Q p m t
theorem a0b (p:g9) (m:Mv):a0U p m=0∨a0U p m=1∨a0U p m=2:=by
 unfold a0U;(repeat' split)<;>simp
theorem a1T {p:g9} {m:Mv} {t:Nat} {ck:Bool} (h:(t:Int)=K5 p m+(if ck then 16 else 0)):t.testBit 0=decide (a0U p m=1)∧t.testBit 1=decide (a0U p m=2)∧(t.testBit 2||t.testBit 3)=a1r p m∧t.testBit 4=ck:=by
 have hx:(if sq p m.to≠0 then (4:Int) else if a1r p m then 8 else 0)=0∧a1r p m=false∨(if sq p m.to≠0 then (4:Int) else if a1r p m then 8 else 0)=4∧a1r p m=true∨(if sq p m.to≠0 then (4:Int) else if a1r p m then 8 else 0)=8∧a1r p m=true:=by
  by_cases h0:sq p m.to≠0
  ·right;left;rw [zM h0];refine ⟨rfl,?_⟩;unfold a1r;simp [h0]
  ·rw [zJ h0];cases a1r p m
   ·left;exact ⟨rfl,rfl⟩
   ·right;right;exact ⟨rfl,rfl⟩
 unfold K5 at h;rcases a0b p m with hc|hc|hc<;>rw [hc] at h ⊢ <;> rcases hx with ⟨e,e2⟩|⟨e,e2⟩|⟨e,e2⟩<;>rw [e] at h<;>rw [e2]<;>cases ck
 ·rw [show t=0+0+0 by simp at h;omega];decide
 ·rw [show t=0+0+16 by simp at h;omega];decide
 ·rw [show t=0+4+0 by simp at h;omega];decide
 ·rw [show t=0+4+16 by simp at h;omega];decide
 ·rw [show t=0+8+0 by simp at h;omega];decide
 ·rw [show t=0+8+16 by simp at h;omega];decide
 ·rw [show t=1+0+0 by simp at h;omega];decide
 ·rw [show t=1+0+16 by simp at h;omega];decide
 ·rw [show t=1+4+0 by simp at h;omega];decide
 ·rw [show t=1+4+16 by simp at h;omega];decide
 ·rw [show t=1+8+0 by simp at h;omega];decide
 ·rw [show t=1+8+16 by simp at h;omega];decide
 ·rw [show t=2+0+0 by simp at h;omega];decide
 ·rw [show t=2+0+16 by simp at h;omega];decide
 ·rw [show t=2+4+0 by simp at h;omega];decide
 ·rw [show t=2+4+16 by simp at h;omega];decide
 ·rw [show t=2+8+0 by simp at h;omega];decide
 ·rw [show t=2+8+16 by simp at h;omega];decide
theorem A3 {p:g9} (hI:B7 p) {m:Mv} (h:m∈p9 p):0≤m.fr∧m.fr≤63∧0≤m.to∧m.to≤63∧(m.promo=0∨2≤m.promo∧m.promo≤5∧a0B (sq p m.fr)=6):=by
 rcases (N9 hI m).1 h with ⟨h,_⟩|⟨r,hr,_⟩
 ·refine ⟨h.f0,h.f1,h.t0,h.t1,?_⟩;rcases h.promo with ⟨e,_⟩|⟨e1,e2,e3,_⟩
  ·exact .inl e
  ·exact .inr ⟨e1,e2,e3⟩
 ·obtain ⟨r4,_,_,hc⟩:=J1 hI hr;obtain ⟨⟨k0,k1,_⟩,_⟩:=a1P r r4;have hk:=hc.k;have ht:=hI.turn;have hw:(if A9 r<a2s r then (-1:Int) else 1)=1∨(if A9 r<a2s r then (-1:Int) else 1)=-1:=by split<;>simp
  rw [hc.mv];simp only
  generalize (if A9 r<a2s r then (-1:Int) else 1)=w at hw
  exact ⟨k0,k1,zo,zo,.inl trivial⟩
theorem b0E (m:Mv):(if m.promo=0 then ([]:Tx) else [61]++a2t m.promo)=a5C m:=by unfold a5C;split<;>rfl
theorem b3b {p:g9} (hI:B7 p) {m:Mv} (hm:m∈p9 p) {t:Nat} (h:(t:Int)=a8N p m):a9Q p m t=a0Y p m:=by
 unfold a9Q a0Y;rw [(a1T h).2.2.2];cases e:a1i (made p m)
 ·rfl
 ·rw [← b0y (hI.made hm),← a8i,e];rfl
theorem b0F {p:g9} (hI:B7 p) {m:Mv} (hm:m∈p9 p) {t:Nat} {ck:Bool} (h:(t:Int)=K5 p m+(if ck then 16 else 0)):b7s p m t=body p m++a9Q p m t:=by
 obtain ⟨b0,b1,b2,b3⟩:=a1T h;obtain ⟨f0,f1,t0,t1,hp⟩:=A3 hI hm;unfold b7s body;rw [b0,b1,b2];rcases a0b p m with hc|hc|hc
 ·rw [hc,b0E];have d1:decide ((0:Int)=1)=false:=rfl;have d2:decide ((0:Int)=2)=false:=rfl;rw [d1,d2,zJ (show ¬ (0:Int)=1 by decide),zJ (show ¬ (0:Int)=2 by decide),zJ Bool.false_ne_true,zJ Bool.false_ne_true]
  by_cases hk:a0B (sq p m.fr)=6
  ·rw [zM hk,zM hk,hk];unfold s1M;rw [zM hk];cases a1r p m<;>simp [a2t]
  ·rw [zJ hk,zJ hk,c4o hI m f0 f1 hk];have hp0:m.promo=0:=by
    rcases hp with e|⟨_,_,e⟩
    ·exact e
    ·exact absurd e hk
   unfold E7 a5C;rw [zM hp0];cases a1r p m<;>simp
 ·rw [hc];simp
 ·rw [hc];simp
theorem c1U {p:g9} (hI:B7 p) {m:Mv} (hm:m∈p9 p) {t:Nat} (h:(t:Int)=a8N p m):b7s p m t=b3X p m:=by
 rw [b0F hI hm h,b3b hI hm h];rfl
theorem c1V {p:g9} (hI:B7 p) {m:Mv} (hm:m∈p9 p) {t:Nat} (h:(t:Int)=a8N p m):c1T p m t=b3A p m:=by
 obtain ⟨b0,b1,b2,b3⟩:=a1T h;unfold c1T b3A b3X body;rw [b0,b1,b2,b3b hI hm h,b0E];rcases a0b p m with hc|hc|hc
 ·rw [hc];simp [E7]
 ·rw [hc];simp
 ·rw [hc];simp
end Ch
namespace Ch
def c7n (p:g9):Bool :=
 if b30 (fun i=>decide (a0B (sq p i)=2)||decide (a0B (sq p i)=3)||decide (a0B (sq p i)=6)) 64 then true
 else
  let n:=a67 (fun i=>decide (a0B (sq p i)=5)) 64;let b:=a67 (fun i=>decide (a0B (sq p i)=4)) 64;let b0:=a67 (fun i=>decide (a0B (sq p i)=4)&&decide ((o5 i+l8 i)%2=0)) 64;let b1:=a67 (fun i=>decide (a0B (sq p i)=4)&&decide ((o5 i+l8 i)%2=1)) 64
  if b=0∧n=0 then false else if b=1∧n=0 then false else if b=0∧n=1 then false
  else if n=0 then (if b1=0∨b0=0 then false else true) else true
theorem b7t (f g:Nat→Bool) (n:Nat):a67 f n=a67 (fun i=>f i&&g i) n+a67 (fun i=>f i && !g i) n:=by
 induction n with
 | zero=>rfl
 | succ n ih =>
  simp only [a67,ih];by_cases hf:f n=true<;>by_cases hg:g n=true<;>simp [hf,hg]<;>omega
theorem b0G {f g:Nat→Bool} (n:Nat) (h:∀ i,i<n→f i=g i):a67 f n=a67 g n:=by
 induction n with
 | zero=>rfl
 | succ n ih=>simp only [a67];rw [ih (fun i hi=>h i zo),h n zo]
theorem b96 (p:g9):c7n p = !a4T p:=by
 unfold c7n a4T;split
 ·rfl
 ·have hs:=b7t (fun i=>decide (a0B (sq p i)=4)) (fun i=>decide ((o5 i+l8 i)%2=0)) 64;have hb:a67 (fun i=>decide (a0B (sq p i)=4) && !decide ((o5 i+l8 i)%2=0)) 64=a67 (fun i=>decide (a0B (sq p i)=4)&&decide ((o5 i+l8 i)%2=1)) 64:=by
   apply b0G;intro i _;congr 1;by_cases h:(o5 i+l8 i)%2=0
   ·simp [h]
   ·have:(o5 i+l8 i)%2=1:=by omega
    simp [this]
  rw [hb] at hs;generalize a67 (fun i=>decide (a0B (sq p i)=5)) 64=n at *;generalize a67 (fun i=>decide (a0B (sq p i)=4)) 64=b at *;generalize a67 (fun i=>decide (a0B (sq p i)=4)&&decide ((o5 i+l8 i)%2=0)) 64=b0 at *;generalize a67 (fun i=>decide (a0B (sq p i)=4)&&decide ((o5 i+l8 i)%2=1)) 64=b1 at *;simp only
  by_cases h1:b=0∧n=0
  ·rw [zM h1,zJ zo];simp;omega
  rw [zJ h1];by_cases h2:b=1∧n=0
  ·rw [zM h2,zJ zo];simp;omega
  rw [zJ h2];by_cases h3:b=0∧n=1
  ·rw [zM h3,zM zo];simp;omega
  rw [zJ h3];by_cases h4:n=0
  ·rw [zM h4,zJ (show ¬ 0<n by omega)]
   by_cases h5:b1=0∨b0=0
   ·rw [zM h5];simp;omega
   ·rw [zJ h5];simp;omega
  ·rw [zJ h4,zM zo];simp;omega
theorem b3c {p:g9} {m:Mv} (hp:m.promo=0∨2≤m.promo∧m.promo≤5) (h:P3 p m=true):U8 p m=a8N p m:=by
 unfold U8 a8N;congr 1;have:V8 p m=a1i (made p m):=by
  unfold V8;rcases hp with e|⟨e1,e2⟩
  ·rw [zM e]
  ·rw [zJ zo,xD,xO];constructor
   ·rintro ⟨k,hk,hc⟩;simp only [zP,zW] at hc;by_cases e:k=m.promo
    ·subst e;exact hc.2
    ·have:=zl.1 h k hk;simp only [zc,x9,Bool.not_eq_false',zZ] at this;rcases this with (h1|h1)|h1
     ·omega
     ·rw [h1] at hc;cases hc.2
     ·exact h1
   ·intro hc;refine ⟨m.promo,?_,?_⟩
    ·have:m.promo=2∨m.promo=3∨m.promo=4∨m.promo=5:=by omega
     rcases this with e|e|e|e<;>rw [e]<;>decide
    ·simp only [zP,zW];exact ⟨zo,hc⟩
 rw [this]
def epM (p:g9) (m:Mv):Int :=
 if a0B (sq p m.fr)≠6 then -1
 else if p.turn=0∧l8 m.fr=1∧l8 m.to=3 then m.to-8
 else if p.turn=1∧l8 m.fr=6∧l8 m.to=4 then m.to+8
 else -1
theorem c4p {p:g9} (hI:B7 p) {m:Mv} (hm:m∈p9 p):epM p m=(made p m).ep:=by
 show _=if I7 p m then (m.fr+m.to)/2 else -1
 have ht:=hI.turn;rcases (N9 hI m).1 hm with ⟨h,_⟩|⟨r,hr,_⟩
 ·unfold epM;have f0:=h.f0;have f1:=h.f1;cases h2:I7 p m
  ·simp only [yG,xv];by_cases hk:a0B (sq p m.fr)=6
   ·rw [zJ (by simp [hk])]
    unfold I7 at h2;rw [hk] at h2;simp only [decide_true,yY,yD,zZ] at h2;rcases S0 hI h.f0 h.f1 h.there h.own h.goal with ⟨g,_⟩|⟨_,_,gf,g⟩|⟨_,gf,g,_⟩
    ·exact absurd hk g
    ·rw [zJ,zJ]<;>(simp only [o5,l8,up] at *;omega)
    ·rw [zJ,zJ]<;>(simp only [o5,l8,up] at *;omega)
   ·rw [zM hk]
  ·obtain ⟨hk,hto,hrk,_,_⟩:=b5N hI h h2;rw [zJ (by simp [hk]),zM rfl]
   rcases ht with t|t
   ·have hfr:l8 m.fr=1:=by rw [hrk,t];decide
    have hto':m.to=m.fr+16:=by rw [hto,t];unfold up;omega
    rw [zM ⟨t,hfr,by simp only [l8] at *;omega⟩];omega
   ·have hfr:l8 m.fr=6:=by rw [hrk,t];decide
    have hto':m.to=m.fr-16:=by rw [hto,t];unfold up;omega
    rw [zJ zo,zM ⟨t,hfr,by simp only [l8] at *;omega⟩];omega
 ·obtain ⟨_,_,_,hc⟩:=J1 hI hr;rw [a3S hI hc];unfold epM;rw [zM]
  ·rfl
  ·rw [hc.mv];simp only [hc.king,S9 hI];decide
def I9 (t:Tx) (b:UInt8):Tx:=t.filter fun x=>x != b
def c4q (t:Tx):Tx:=if t.isEmpty then [45] else t
def crM (t:Tx) (f0 f1 f2 f3:Bool):Tx :=
 let t:=if f0 then I9 t 75 else t
 let t:=if f1 then I9 t 81 else t
 let t:=if f2 then I9 t 107 else t
 let t:=if f3 then I9 t 113 else t
 c4q t
theorem c1W {c:Int} (h0:0≤c) (h1:c≤15) (f0 f1 f2 f3:Bool):crM (a4V c) f0 f1 f2 f3=a4V (c1m c f0 f1 f2 f3):=by
 rcases b1x h0 h1 with rfl|rfl|rfl|rfl|rfl|rfl|rfl|rfl|rfl|rfl|rfl|rfl|rfl|rfl|rfl|rfl<;>revert f0 f1 f2 f3<;>decide
theorem b4F (c:Int) {a0 a1 a2 a3 b0 b1 b2 b3:Bool} (h0:W3 c 0=true→a0=b0) (h1:W3 c 1=true→a1=b1) (h2:W3 c 2=true→a2=b2) (h3:W3 c 3=true→a3=b3) :
  a6H c a0 a1 a2 a3=a6H c b0 b1 b2 b3:=by
 have q:∀ (a b x:Bool),(x=true→a=b)→(x&&a)=(x&&b):=by intro a b x h;cases x<;>simp at *;exact h
 unfold a6H;rw [q _ _ _ h0,q _ _ _ h1,q _ _ _ h2,q _ _ _ h3]
def crF (p:g9) (m:Mv) (n:Nat):Bool :=
 if n=0 then decide (sq p m.fr=1)||decide (m.fr=7)||decide (m.to=7)
 else if n=1 then decide (sq p m.fr=1)||decide (m.fr=0)||decide (m.to=0)
 else if n=2 then decide (sq p m.fr=7)||decide (m.fr=63)||decide (m.to=63)
 else decide (sq p m.fr=7)||decide (m.fr=56)||decide (m.to=56)
theorem b3d {p:g9} (hI:B7 p) {m:Mv} (hm:m∈p9 p) (c:Int) (hc:c=0∨c=1):sq p m.to≠1+6*c:=by
 have ht:=hI.turn;rcases (N9 hI m).1 hm with ⟨h,_⟩|⟨r,hr,_⟩
 ·by_cases e:c=p.turn
  ·subst e;rcases h.other with e|e
   ·rw [e];omega
   ·intro e2;apply e;rw [e2];exact S8 zd zd ht
  ·have:c=1-p.turn:=by omega
   subst this;exact b5M hI h.f0 h.f1 h.there h.own h.goal
 ·obtain ⟨_,_,_,hcc⟩:=J1 hI hr;rw [hcc.mv];simp only;rw [hcc.to];omega
theorem b1C {p:g9} (hI:B7 p) {m:Mv} (hm:m∈p9 p) (n:Nat) (hn:n<4) (hb:W3 p.castle n=true):crF p m n=a2x m n:=by
 obtain ⟨s1,s2⟩:=hI.right n hn hb;obtain ⟨f0,f1,_,_,_⟩:=A3 hI hm;have hside:(n:Int)/2=0∨(n:Int)/2=1:=by omega
 have hK:=hI.king _ hside;obtain ⟨⟨k0,k1,_⟩,_⟩:=a1P n hn;have e1:sq p m.fr=1+6*((n:Int)/2)↔m.fr=a2s n:=by
  constructor
  ·intro h;rw [hK.2.2.2 _ f0 f1 h,hK.2.2.2 _ k0 k1 s1]
  ·intro h;rw [h];exact s1
 have e2:¬ m.to=a2s n:=by intro h;exact b3d hI hm _ hside (by rw [h];exact s1)
 unfold a2x crF;rw [zV e2,Bool.or_false];have hnn:n=0∨n=1∨n=2∨n=3:=by omega
 rcases hnn with rfl|rfl|rfl|rfl
 ·rw [zM rfl,show decide (sq p m.fr=1)=decide (m.fr=a2s ((0:Nat):Int)) from yg.2 e1];rfl
 ·rw [zJ zd,zM rfl,show decide (sq p m.fr=1)=decide (m.fr=a2s ((1:Nat):Int)) from yg.2 e1];rfl
 ·rw [zJ zd,zJ zd,zM rfl,show decide (sq p m.fr=7)=decide (m.fr=a2s ((2:Nat):Int)) from yg.2 e1];rfl
 ·rw [zJ zd,zJ zd,zJ zd,show decide (sq p m.fr=7)=decide (m.fr=a2s ((3:Nat):Int)) from yg.2 e1];rfl
theorem c4r {p:g9} (hI:B7 p) {m:Mv} (hm:m∈p9 p):crM (a4V p.castle) (crF p m 0) (crF p m 1) (crF p m 2) (crF p m 3)=a4V (made p m).castle:=by
 rw [c1W hI.c0 hI.c1];show _=a4V (left p.castle m);rw [b28,b1y hI.c0 hI.c1,b1y hI.c0 hI.c1];congr 1;exact b4F _ (fun h=>by rw [b1C hI hm 0 zd h];rfl) (fun h=>by rw [b1C hI hm 1 zd h];rfl) (fun h=>by rw [b1C hI hm 2 zd h];rfl) (fun h=>by rw [b1C hI hm 3 zd h];rfl)
def b97 (c:UInt8):List Int :=
 if 49≤c∧c≤56 then List.replicate (c.toNat-48) 0 else if c=75 then [1] else if c=81 then [2] else if c=82 then [3] else if c=66 then [4] else if c=78 then [5] else if c=80 then [6]
 else if c=107 then [7] else if c=113 then [8] else if c=114 then [9] else if c=98 then [10] else if c=110 then [11] else if c=112 then [12] else []
def J8 (t:Tx):List Int:=t.flatMap b97
theorem a1w (a b:Tx):J8 (a++b)=J8 a++J8 b:=wU
theorem b3e {e:Nat} (h:e≤8):J8 (a0g e)=List.replicate e 0:=by
 have:e=0∨e=1∨e=2∨e=3∨e=4∨e=5∨e=6∨e=7∨e=8:=by omega
 rcases this with rfl|rfl|rfl|rfl|rfl|rfl|rfl|rfl|rfl<;>(unfold a0g;first|rfl|(rw [zJ zd];unfold dec;rw [dif_pos zd];rfl))
theorem c1X {x:Int} (h0:1≤x) (h1:x≤12):J8 (pcT x)=[x]:=by
 have:x=1∨x=2∨x=3∨x=4∨x=5∨x=6∨x=7∨x=8∨x=9∨x=10∨x=11∨x=12:=by omega
 rcases this with rfl|rfl|rfl|rfl|rfl|rfl|rfl|rfl|rfl|rfl|rfl|rfl<;>rfl
def a52 (g:Nat→Int):Nat→Nat→List Int
 | 0,_=>[]
 | n+1,f=>g f::a52 g n (f+1)
theorem b3f (g:Nat→Int) (hg:∀ f,0≤g f∧g f≤12):∀ (n f e:Nat),e+n≤8→J8 (a0T g n f e)=List.replicate e 0++a52 g n f:=by
 intro n
 induction n with
 | zero=>intro f e h;simp only [a0T,a52,zn];exact b3e zo
 | succ n ih =>
  intro f e h;simp only [a0T,a52];have hgf:=hg f;by_cases h0:g f<1∨g f>12
  ·rw [zM h0,ih (f+1) (e+1) zo];have:g f=0:=by omega
   rw [this,List.replicate_succ',yJ];rfl
  ·rw [zJ h0,a1w,a1w,b3e zo,c1X zo zo,ih (f+1) 0 zo];simp
def a4b (p:g9):Nat→List Int
 | 0=>[]
 | r+1=>a52 (fun f=>sq p (8*(r:Int)+f)) 8 0++a4b p r
theorem a9r {p:g9} (hp:∀ i:Int,0≤sq p i∧sq p i≤12):∀ r,J8 (a2U p r)=a4b p r:=by
 intro r
 induction r with
 | zero=>rfl
 | succ r ih =>
  simp only [a2U,a4b,a1w,ih];rw [b3f _ (fun f=>hp _) 8 0 0 zo];have:J8 (if r=0 then [] else [47])=[]:=by split<;>rfl
  rw [this];simp
theorem b4G {p q:g9}:∀ r,a4b p r=a4b q r→∀ k f:Nat,k<r→f<8→sq p (8*(k:Int)+f)=sq q (8*(k:Int)+f):=by
 intro r
 induction r with
 | zero=>intro _ k f h;omega
 | succ r ih =>
  intro h k f hk hf;simp only [a4b] at h;have hl:∀ g n s,(a52 g n s).length=n:=by
   intro g n;induction n with
   | zero=>intro s;rfl
   | succ n ih=>intro s;simp [a52,ih]
  obtain ⟨h1,h2⟩:=List.append_inj h (by rw [hl,hl])
  by_cases e:k=r
  ·subst e;simp only [a52,xB,and_true] at h1;obtain ⟨a0,a1,a2,a3,a4,a5,a6,a7⟩:=h1;have:f=0∨f=1∨f=2∨f=3∨f=4∨f=5∨f=6∨f=7:=by omega
   rcases this with rfl|rfl|rfl|rfl|rfl|rfl|rfl|rfl<;>assumption
  ·exact ih h2 k f zo hf
theorem b4H {p q:g9} (hp:∀ i:Int,0≤sq p i∧sq p i≤12) (hq:∀ i:Int,0≤sq q i∧sq q i≤12):a2U p 8=a2U q 8↔p.board=q.board:=by
 constructor
 ·intro h;have h2:a4b p 8=a4b q 8:=by rw [← a9r hp,← a9r hq,h]
  apply List.ext_getElem (by rw [p.len,q.len])
  intro i hi1 hi2;have hi:i<64:=by rw [← p.len];exact hi1
  have:=b4G 8 h2 (i/8) (i%8) zo zo;have e:(8*((i/8:Nat):Int)+((i%8:Nat):Int))=(i:Int):=by omega
  rw [e] at this;unfold sq at this;simp only [zg,xA] at this;rw [yu hi1,yu hi2] at this;exact this
 ·intro h;have hs:∀ i,sq p i=sq q i:=by intro i;unfold sq;rw [h]
  have:∀ r,a2U p r=a2U q r:=by
   intro r;induction r with
   | zero=>rfl
   | succ r ih=>simp only [a2U,ih,hs]
  exact this 8
end Ch
end
section
open Go Go.RowKit
open E
open Ch Bb
theorem b98 {c:UInt8} {s:Tx}:ixZ c s<0↔c∉s:=by
 unfold ixZ;by_cases h:c∈s
 ·rw [zM h];constructor
  ·intro h2;omega
  ·intro h2;exact absurd h h2
 ·rw [zJ h];exact ⟨fun _=>h,fun _=>by decide⟩
theorem b99 {c:UInt8} {s:Tx} (h:c∉s):I9 s c=s:=by
 unfold I9;rw [List.filter_eq_self];intro x hx;simp only [bne_iff_ne,ne_eq];intro e;subst e;exact h hx
theorem b9A {c:UInt8}:∀ {s:Tx},c∈s→I9 s c=s.take (s.idxOf c)++I9 (s.drop (s.idxOf c+1)) c∧s.idxOf c<s.length:=by
 intro s
 induction s with
 | nil=>intro h;cases h
 | cons x r ih =>
  intro h;by_cases e:x=c
  ·subst e;simp [I9]
  ·have h2:c∈r:=by
    rcases yV.1 h with h|h
    ·exact absurd h.symm e
    ·exact h
   obtain ⟨h3,h4⟩:=ih h2;have e1:(x::r).idxOf c=r.idxOf c+1:=by
    rw [List.idxOf_cons,show (x==c)=false by simpa using e];rfl
   rw [e1];refine ⟨?_,by simp;omega⟩
   rw [xh,List.drop_succ_cons,yX,← h3];simp [I9,e]
theorem F0 (c:UInt8) (s:Tx) (hs:s.length≤1000) (w:World):Calls G.P 287 #[m7 s,m7 [c],m7 []] w (N0 (m7 (I9 s c)) w):=by
 have h1:(tx [c]).size=1:=C5 _;refine zN func287 ?_;refine zR ?_;refine C1 (σ:=Tx×Tx×Value) [0,6,7,10] 11 (fun t=>[(0,m7 t.1),(7,t.2.2)]) (fun t w'=>t.1.length+t.2.1.length≤1000∧I9 s c=t.2.1++I9 t.1 c∧Cl w w'∧Row 5 1 a01 w.heap.size w' t.2.2 t.2.1) (fun t=>t.1.length) zk (s,[],.slice none 0 0) ⟨by simpa using hs,rfl,Cl.refl _,Row.nil _ _⟩ ⟨rfl,rfl,trivial⟩ ?_
 rintro ⟨r,l,v⟩ j w2 ⟨hl,hst,c2,hr⟩;simp only at hl hst hr ⊢;obtain ⟨a,k,rfl,_⟩:=hr.form;refine zR ?_;refine g7 (a6X c r zo w2) (zR ?_);apply E.d7<;>intro h
 ·refine zR ?_;refine a6k rfl hr rfl zo c2.size fun v' w' hr' hc'=>?_;obtain ⟨a9,c9,rfl,_⟩:=hr'.form;refine zR ?_;refine b0D _ rfl hr' (zR ?_);exact ⟨by rw [hst,b99 (b98.1 h)];rfl,hc' w rfl c2⟩
 ·have hm:c∈r:=yl fun h2=>h (b98.2 h2);obtain ⟨hsp,hlt⟩:=b9A hm;have ei:ixZ c r=(r.idxOf c:Int):=by unfold ixZ;rw [zM hm]
  have ni:=C4 (i:=r.idxOf c) zo;refine zR ?_;refine a6l (r.take (r.idxOf c)) rfl rfl rfl (by rw [ei];omega) (by rw [ei];omega) (by rw [ei];rfl) (zR ?_)
  refine a6k rfl hr rfl (by rw [yh];omega) c2.size fun v' w' hr' hc'=>?_
  obtain ⟨a9,c9,rfl,_⟩:=hr'.form;have c3:=hc' w rfl c2;refine zR ?_;refine a6k (s:=[]) rfl hr' rfl (by rw [zF,yh];simp;omega) c3.size fun v2 w3 hr2 hc2=>?_
  rw [zn] at hr2;obtain ⟨a8,c8,rfl,_⟩:=hr2.form;have c4:=hc2 w rfl c3;refine zR ?_;rw [h1,ei,show ((1:Nat):Int)=1 from rfl,ni];refine a9q (r.drop (r.idxOf c+1)) rfl rfl rfl zo zo rfl (zR ?_);refine ⟨(r.drop (r.idxOf c+1),l++r.take (r.idxOf c),_),⟨rfl,rfl,trivial⟩,⟨?_,?_,c4,hr2⟩,?_⟩
  ·show (r.drop (r.idxOf c+1)).length+(l++r.take (r.idxOf c)).length≤1000;rw [yj,zF,yh];omega
  ·show I9 s c=(l++r.take (r.idxOf c))++I9 (r.drop (r.idxOf c+1)) c;rw [hst,hsp,yJ]
  ·show (r.drop (r.idxOf c+1)).length<r.length;rw [yj];omega
theorem a4F (t:Tx) (c:UInt8):(I9 t c).length≤t.length:=xQ _ _
theorem a1x {p:g9} (hI:B7 p) {P b M:Nat} {cv:Value} {c:Bool} {d:Nd} (f0:0≤d.mv.fr) (f1:d.mv.fr≤63) (w:World) (hT:C6 w)
  (hP:w.heap[P]?=some (.cells (hdA b (D0 p c) cv) 173 (0,0))) (hB:w.heap[b]?=some (.cells (J4 (a1s p)) 237 (0,0))) (hM:w.heap[M]?=some (.cells (F7 d) 141 (0,0))) :
  Calls G.P 256 #[.pointer (some ⟨P,0,none⟩),.pointer (some ⟨M,0,none⟩)] w (N0 (m7 (crM (a4V p.castle) (crF p d.mv 0) (crF p d.mv 1) (crF p d.mv 2) (crF p d.mv 3))) w):=by
 have hM0:=hM;obtain ⟨fr,hfr⟩:=ze f0;have hf64:fr<64:=by omega
 have hlen0:(a4V p.castle).length≤4:=a1R _;have hcr:crM (a4V p.castle) (crF p d.mv 0) (crF p d.mv 1) (crF p d.mv 2) (crF p d.mv 3)=c4q (if crF p d.mv 3 then I9 (if crF p d.mv 2 then I9 (if crF p d.mv 1 then I9 (if crF p d.mv 0 then I9 (a4V p.castle) 75 else a4V p.castle) 81 else (if crF p d.mv 0 then I9 (a4V p.castle) 75 else a4V p.castle)) 107 else (if crF p d.mv 1 then I9 (if crF p d.mv 0 then I9 (a4V p.castle) 75 else a4V p.castle) 81 else (if crF p d.mv 0 then I9 (a4V p.castle) 75 else a4V p.castle))) 113 else (if crF p d.mv 2 then I9 (if crF p d.mv 1 then I9 (if crF p d.mv 0 then I9 (a4V p.castle) 75 else a4V p.castle) 81 else (if crF p d.mv 0 then I9 (a4V p.castle) 75 else a4V p.castle)) 107 else (if crF p d.mv 1 then I9 (if crF p d.mv 0 then I9 (a4V p.castle) 75 else a4V p.castle) 81 else (if crF p d.mv 0 then I9 (a4V p.castle) 75 else a4V p.castle)))):=rfl
 rw [hcr];clear hcr;have pc:=fun w hT hB=>a0a (a1s p) b (t:=237) (fz:=(0,0)) fr hf64 w hT hB;rw [U9 hI.pc hf64] at pc;obtain ⟨T,hTT⟩:∃ T,a4V p.castle=T:=⟨_,rfl⟩;rw [hTT] at hlen0 ⊢;refine zN func256 ?_;refine zR ?_;refine b7 _ (a3W hP) ?_;have hcas:(D0 p c).cas=T:=hTT;rw [hcas];refine zR ?_;refine zK 9 ?_;refine zR ?_;refine qHb hP (zR ?_);refine a3B hM ?_;rw [hfr];refine zR ?_;refine o4 _ (fun w hw=>pc w (hT.cl hw) (hw.blk hB)) (zG ?_);intro wS cw;refine zG ?_;rw [← hfr];refine B0 (σ:=Unit) [5] 7 (fun _=>[(5,m7 (if crF p d.mv 0 then I9 T 75 else T))]) (fun _ w'=>Cl w w') zk ?_ (fun _ j w0 c0=>?_)
 ·have hM:=cw.blk hM0;have hc:crF p d.mv 0=(decide (sq p d.mv.fr=1)||decide (d.mv.fr=7)||decide (d.mv.to=7)):=rfl
  have hl:=hlen0;refine zR ?_;apply E.d7<;>intro h
  ·have hy:crF p d.mv 0=true:=by rw [hc,zX h];rfl
   refine zR ?_;refine o7 (F0 75 T zo _) fun w9 c9=>zR ?_;exact ⟨(),⟨by rw [hy];rfl,trivial⟩,cw.trans c9⟩
  ·have h1:=h;clear h;refine zR ?_;refine a4U hM (zR ?_);apply E.d7<;>intro h
   ·have hy:crF p d.mv 0=true:=by rw [hc,zX h,Bool.or_true];rfl
    refine zR ?_;try (refine E.A0 h ?_;refine zR ?_)
    refine o7 (F0 75 T zo _) fun w9 c9=>zR ?_;exact ⟨(),⟨by rw [hy];rfl,trivial⟩,cw.trans c9⟩
   ·have h2:=h;clear h;refine zR ?_;refine a6Q hM (zR ?_);apply E.d7<;>intro h
    ·have hy:crF p d.mv 0=true:=by rw [hc,zX h,Bool.or_true]
     refine zR ?_;refine o7 (F0 75 T zo _) fun w9 c9=>zR ?_;exact ⟨(),⟨by rw [hy];rfl,trivial⟩,cw.trans c9⟩
    ·have hy:crF p d.mv 0=false:=by rw [hc,zV h1,zV h2,zV h];rfl
     refine zR ?_;exact ⟨(),⟨by rw [hy];rfl,trivial⟩,cw⟩
 obtain ⟨T0,hT0⟩:∃ T',(if crF p d.mv 0 then I9 T 75 else T)=T':=⟨_,rfl⟩
 have hlen1:T0.length≤4:=by rw [← hT0];split;exact zw (a4F _ _) hlen0;exact hlen0
 rw [hT0];refine B0 (σ:=Unit) [5] 7 (fun _=>[(5,m7 (if crF p d.mv 1 then I9 T0 81 else T0))]) (fun _ w'=>Cl w w') zk ?_ (fun _ j w1 c1=>?_)
 ·have hM:=c0.blk hM0;have hc:crF p d.mv 1=(decide (sq p d.mv.fr=1)||decide (d.mv.fr=0)||decide (d.mv.to=0)):=rfl
  have hl:=hlen1;refine zR ?_;apply E.d7<;>intro h
  ·have hy:crF p d.mv 1=true:=by rw [hc,zX h];rfl
   refine zR ?_;refine o7 (F0 81 T0 zo _) fun w9 c9=>zR ?_;exact ⟨(),⟨by rw [hy];rfl,trivial⟩,c0.trans c9⟩
  ·have h1:=h;clear h;refine zR ?_;refine a4U hM (zR ?_);apply E.d7<;>intro h
   ·have hy:crF p d.mv 1=true:=by rw [hc,zX h,Bool.or_true];rfl
    refine zR ?_;try (refine E.A0 h ?_;refine zR ?_)
    refine o7 (F0 81 T0 zo _) fun w9 c9=>zR ?_;exact ⟨(),⟨by rw [hy];rfl,trivial⟩,c0.trans c9⟩
   ·have h2:=h;clear h;refine zR ?_;refine a6Q hM (zR ?_);apply E.d7<;>intro h
    ·have hy:crF p d.mv 1=true:=by rw [hc,zX h,Bool.or_true]
     refine zR ?_;refine o7 (F0 81 T0 zo _) fun w9 c9=>zR ?_;exact ⟨(),⟨by rw [hy];rfl,trivial⟩,c0.trans c9⟩
    ·have hy:crF p d.mv 1=false:=by rw [hc,zV h1,zV h2,zV h];rfl
     refine zR ?_;exact ⟨(),⟨by rw [hy];rfl,trivial⟩,c0⟩
 obtain ⟨T1,hT1⟩:∃ T',(if crF p d.mv 1 then I9 T0 81 else T0)=T':=⟨_,rfl⟩
 have hlen2:T1.length≤4:=by rw [← hT1];split;exact zw (a4F _ _) hlen1;exact hlen1
 rw [hT1];refine B0 (σ:=Unit) [5] 7 (fun _=>[(5,m7 (if crF p d.mv 2 then I9 T1 107 else T1))]) (fun _ w'=>Cl w w') zk ?_ (fun _ j w2 c2=>?_)
 ·have hM:=c1.blk hM0;have hc:crF p d.mv 2=(decide (sq p d.mv.fr=7)||decide (d.mv.fr=63)||decide (d.mv.to=63)):=rfl
  have hl:=hlen2;refine zR ?_;apply E.d7<;>intro h
  ·have hy:crF p d.mv 2=true:=by rw [hc,zX h];rfl
   refine zR ?_;refine o7 (F0 107 T1 zo _) fun w9 c9=>zR ?_;exact ⟨(),⟨by rw [hy];rfl,trivial⟩,c1.trans c9⟩
  ·have h1:=h;clear h;refine zR ?_;refine a4U hM (zR ?_);apply E.d7<;>intro h
   ·have hy:crF p d.mv 2=true:=by rw [hc,zX h,Bool.or_true];rfl
    refine zR ?_;try (refine E.A0 h ?_;refine zR ?_)
    refine o7 (F0 107 T1 zo _) fun w9 c9=>zR ?_;exact ⟨(),⟨by rw [hy];rfl,trivial⟩,c1.trans c9⟩
   ·have h2:=h;clear h;refine zR ?_;refine a6Q hM (zR ?_);apply E.d7<;>intro h
    ·have hy:crF p d.mv 2=true:=by rw [hc,zX h,Bool.or_true]
     refine zR ?_;refine o7 (F0 107 T1 zo _) fun w9 c9=>zR ?_;exact ⟨(),⟨by rw [hy];rfl,trivial⟩,c1.trans c9⟩
    ·have hy:crF p d.mv 2=false:=by rw [hc,zV h1,zV h2,zV h];rfl
     refine zR ?_;exact ⟨(),⟨by rw [hy];rfl,trivial⟩,c1⟩
 obtain ⟨T2,hT2⟩:∃ T',(if crF p d.mv 2 then I9 T1 107 else T1)=T':=⟨_,rfl⟩
 have hlen3:T2.length≤4:=by rw [← hT2];split;exact zw (a4F _ _) hlen2;exact hlen2
 rw [hT2];refine B0 (σ:=Unit) [5] 7 (fun _=>[(5,m7 (if crF p d.mv 3 then I9 T2 113 else T2))]) (fun _ w'=>Cl w w') zk ?_ (fun _ j w3 c3=>?_)
 ·have hM:=c2.blk hM0;have hc:crF p d.mv 3=(decide (sq p d.mv.fr=7)||decide (d.mv.fr=56)||decide (d.mv.to=56)):=rfl
  have hl:=hlen3;refine zR ?_;apply E.d7<;>intro h
  ·have hy:crF p d.mv 3=true:=by rw [hc,zX h];rfl
   refine zR ?_;refine o7 (F0 113 T2 zo _) fun w9 c9=>zR ?_;exact ⟨(),⟨by rw [hy];rfl,trivial⟩,c2.trans c9⟩
  ·have h1:=h;clear h;refine zR ?_;refine a4U hM (zR ?_);apply E.d7<;>intro h
   ·have hy:crF p d.mv 3=true:=by rw [hc,zX h,Bool.or_true];rfl
    refine zR ?_;try (refine E.A0 h ?_;refine zR ?_)
    refine o7 (F0 113 T2 zo _) fun w9 c9=>zR ?_;exact ⟨(),⟨by rw [hy];rfl,trivial⟩,c2.trans c9⟩
   ·have h2:=h;clear h;refine zR ?_;refine a6Q hM (zR ?_);apply E.d7<;>intro h
    ·have hy:crF p d.mv 3=true:=by rw [hc,zX h,Bool.or_true]
     refine zR ?_;refine o7 (F0 113 T2 zo _) fun w9 c9=>zR ?_;exact ⟨(),⟨by rw [hy];rfl,trivial⟩,c2.trans c9⟩
    ·have hy:crF p d.mv 3=false:=by rw [hc,zV h1,zV h2,zV h];rfl
     refine zR ?_;exact ⟨(),⟨by rw [hy];rfl,trivial⟩,c2⟩
 obtain ⟨T3,hT3⟩:∃ T',(if crF p d.mv 3 then I9 T2 113 else T2)=T':=⟨_,rfl⟩
 have hlen4:T3.length≤4:=by rw [← hT3];split;exact zw (a4F _ _) hlen3;exact hlen3
 rw [hT3];refine zR ?_;unfold c4q;cases e:T3 with
 | nil =>
  refine zR ?_;exact ⟨rfl,c3⟩
 | cons x r =>
  refine zR ?_;exact ⟨rfl,c3⟩
theorem rk1:∀ s:Nat,s<64→(E9 s &&& 71776119061217280=0↔¬ (s/8=1)):=by decide
theorem rk3:∀ s:Nat,s<64→(E9 s &&& 1095216660480=0↔¬ (s/8=3)):=by decide
theorem rk6:∀ s:Nat,s<64→(E9 s &&& 65280=0↔¬ (s/8=6)):=by decide
theorem rk4:∀ s:Nat,s<64→(E9 s &&& 4278190080=0↔¬ (s/8=4)):=by decide
theorem a9s {p:g9} (hI:B7 p) {P b M:Nat} {cv:Value} {c:Bool} {d:Nd} (f0:0≤d.mv.fr) (f1:d.mv.fr≤63) (t0:0≤d.mv.to) (t1:d.mv.to≤63) (w:World) (hT:C6 w)
  (hP:w.heap[P]?=some (.cells (hdA b (D0 p c) cv) 173 (0,0))) (hB:w.heap[b]?=some (.cells (J4 (a1s p)) 237 (0,0))) (hM:w.heap[M]?=some (.cells (F7 d) 141 (0,0))) :
  Calls G.P 258 #[.pointer (some ⟨P,0,none⟩),.pointer (some ⟨M,0,none⟩)] w (N0 (.int .i8 (epM p d.mv)) w):=by
 have hP0:=hP;have hM0:=hM;obtain ⟨fr,hfr⟩:=ze f0;obtain ⟨to,hto⟩:=ze t0;have hf64:fr<64:=by omega
 have ht64:to<64:=by omega
 have pc:=fun w hT hB=>a0a (a1s p) b (t:=237) (fz:=(0,0)) fr hf64 w hT hB;rw [U9 hI.pc hf64] at pc;have hpr:=hI.pc fr;have ht:=hI.turn;have ety:=fun w=>a1f (sq p fr) hpr.1 hpr.2 w;have bf:=fun w=>y7 fr hf64 w;have bt:=fun w=>y7 to ht64 w;have hep:epM p d.mv=if a0B (sq p fr)≠6 then -1 else if p.turn=0∧fr/8=1∧to/8=3 then (to:Int)-8 else if p.turn=1∧fr/8=6∧to/8=4 then (to:Int)+8 else -1:=by
  unfold epM;rw [hfr,hto];have r1:(l8 (fr:Int)=1)↔fr/8=1:=by unfold l8;omega
  have r3:(l8 (to:Int)=3)↔to/8=3:=by unfold l8;omega
  have r6:(l8 (fr:Int)=6)↔fr/8=6:=by unfold l8;omega
  have r4:(l8 (to:Int)=4)↔to/8=4:=by unfold l8;omega
  simp only [r1,r3,r6,r4]
 rw [hep];clear hep;refine zN func258 ?_;refine zR ?_;refine zK 9 ?_;refine zR ?_;refine qHb hP (zR ?_);refine a3B hM ?_;rw [hfr];refine zR ?_;refine o4 _ (fun w hw=>pc w (hT.cl hw) (hw.blk hB)) (zR ?_);intro w1 c1;have hP:=c1.blk hP0;have hM:=c1.blk hM0;have a1:=rk1 fr hf64;have a3:=rk3 to ht64;have a6:=rk6 fr hf64;have a4:=rk4 to ht64;refine zR ?_;refine g7 (ety _) (zR ?_);apply E.y8<;>intro h
 ·rw [zM h];refine zR ?_;exact ⟨rfl,c1⟩
 rw [zJ (fun e=>e h)];clear h;have hturn:(D0 p c).turn=p.turn+1:=rfl;refine zR ?_;refine kHt hP ?_;rw [hturn];refine zR ?_;apply E.d7<;>intro h
 ·have h0:p.turn=0:=by omega
  clear h;refine zR ?_;refine a4U hM ?_;rw [hfr];refine zR ?_;refine g7 (bf _) (zB ?_);apply E.y8<;>intro h
  ·have q1:fr/8=1:=yl fun e=>nz h (a1.2 e);clear h;refine zR ?_;refine a6Q hM ?_;rw [hto];refine zR ?_;refine g7 (bt _) (zB ?_);apply E.y8<;>intro h
   ·have q2:to/8=3:=yl fun e=>nz h (a3.2 e);clear h;refine zR ?_;refine a6Q hM ?_;rw [hto];refine zR ?_;exact ⟨D4 (by rw [zM ⟨h0,q1,q2⟩];exact a0d zo zo),c1⟩
   ·have q2:¬ to/8=3:=a3.1 (n0 h);clear h;refine zR ?_;refine kHt hP ?_;rw [hturn];refine zR ?_;refine E.o9 zo (zR ?_);exact ⟨D4 (by rw [zJ zo,zJ zo]),c1⟩
  ·have q1:¬ fr/8=1:=a1.1 (n0 h);clear h;refine zR ?_;refine kHt hP ?_;rw [hturn];refine zR ?_;refine E.o9 zo (zR ?_);exact ⟨D4 (by rw [zJ zo,zJ zo]),c1⟩
 ·have h0:p.turn=1:=by omega
  clear h;refine zR ?_;refine kHt hP ?_;rw [hturn];refine zR ?_;refine E.A0 zo (zR ?_);refine a4U hM ?_;rw [hfr];refine zR ?_;refine g7 (bf _) (zB ?_);apply E.y8<;>intro h
  ·have q1:fr/8=6:=yl fun e=>nz h (a6.2 e);clear h;refine zR ?_;refine a6Q hM ?_;rw [hto];refine zR ?_;refine g7 (bt _) (zB ?_);apply E.y8<;>intro h
   ·have q2:to/8=4:=yl fun e=>nz h (a4.2 e);clear h;refine zR ?_;refine a6Q hM ?_;rw [hto];refine zR ?_;exact ⟨D4 (by rw [zJ zo,zM ⟨h0,q1,q2⟩];exact a0d zo zo),c1⟩
   ·have q2:¬ to/8=4:=a4.1 (n0 h);clear h;refine zR ?_;exact ⟨D4 (by rw [zJ zo,zJ zo]),c1⟩
  ·have q1:¬ fr/8=6:=a6.1 (n0 h);clear h;refine zR ?_;exact ⟨D4 (by rw [zJ zo,zJ zo]),c1⟩
theorem a1h {p:g9} {m:Mv} {t:Nat} {ck:Bool} (h:(t:Int)=K5 p m+(if ck then 16 else 0)):t.testBit 2=decide (sq p m.to≠0)∧t.testBit 3=(decide (sq p m.to=0)&&a1r p m)∧t<64:=by
 unfold K5 at h;have e:=yM Int.toNat h;rw [zg] at e;clear h;subst e;generalize a1r p m=tk at *;have hk:=a0b p m;generalize a0U p m=c at *;by_cases h0:sq p m.to=0
 ·have e1:decide (sq p m.to≠0)=false:=zV (fun e=>e h0);rw [e1,zX h0,zJ (fun e=>e h0)];cases tk<;>cases ck<;>rcases hk with rfl|rfl|rfl<;>decide
 ·have e1:decide (sq p m.to≠0)=true:=zX h0;rw [e1,zV h0,zM h0];cases ck<;>rcases hk with rfl|rfl|rfl<;>cases tk<;>decide
theorem b7u {p:g9} (hI:B7 p) {m:Mv} (hm:m∈p9 p) {t:Nat} {ck:Bool} (h:(t:Int)=K5 p m+(if ck then 16 else 0)):(a1s p).move m t=a1s (made p m):=by
 obtain ⟨b0,b1,_,_⟩:=a1T h;obtain ⟨_,b3,_⟩:=a1h h;rcases (N9 hI m).1 hm with ⟨hp,_⟩|⟨r,hr,_⟩
 ·have hck:=(N1 hI hp).2;refine a9e hI hp ?_ (by rw [b0,hck];rfl) (by rw [b1,hck];rfl)
  rw [b3];have:=a4y hI hp;by_cases h0:sq p m.to=0
  ·rw [zJ (fun e=>e h0)] at this;rw [zX h0,yY];cases e:a1r p m
   ·rw [e] at this;exact (zV (by simp at this;omega)).symm
   ·rw [e] at this;exact (zX (by simp at this;omega)).symm
  ·rw [zM h0] at this;rw [zV h0,xw];exact (zV zo).symm
 ·obtain ⟨r4,rt,rb,hc⟩:=J1 hI hr;have hto:=hc.to;have hmv:=hc.mv;have htk:=a3r hI hc;have hw:(if A9 (r:Int)<a2s r then (-1:Int) else 1)=1∨(if A9 (r:Int)<a2s r then (-1:Int) else 1)=-1:=by split<;>simp
  generalize (if A9 (r:Int)<a2s r then (-1:Int) else 1)=w at *
  generalize a2s (r:Int)=K at *;have hking:=hc.king;have ek:a0U p m=if w=1 then 1 else 2:=by
   unfold a0U;rw [hmv];simp only [hking,S9 hI];rcases hw with rfl|rfl
   ·rw [zJ zd,zM zo,zM rfl]
   ·rw [zJ zd,zJ zo,zM zo,zJ zd]
  refine a71 hI hc (by rw [b3,htk,Bool.and_false]) ?_ ?_
  ·rw [b0,ek];rcases hw with rfl|rfl<;>decide
  ·rw [b1,ek];rcases hw with rfl|rfl<;>decide
theorem b1D {p:g9} {m:Mv} (h:a0B (sq p m.fr)≠6):a1r p m=decide (sq p m.to≠0):=by
 unfold a1r;rw [zV h,xw,Bool.or_false];by_cases e:sq p m.to=0<;>simp [e]
theorem a6m {p:g9} (hI:B7 p) (hN:Y6 p) {P b M:Nat} {cv:Value} {d:Nd} (hm:d.mv∈p9 p) {ck:Bool} (htg:(d.tags:Int)=K5 p d.mv+(if ck then 16 else 0)) (w:World) (hT:C6 w) (hP:G8 w P b p cv)
  (hM:w.heap[M]?=some (.cells (F7 d) 141 (0,0))) :
  Calls G.P 203 #[.pointer (some ⟨P,0,none⟩),.pointer (some ⟨M,0,none⟩)] w (fun r w'=>∃ P' b',r = .returned (.pointer (some ⟨P',0,none⟩))∧w.heap.size≤P'∧w.heap.size≤b'∧w'.heap[P']?=some (.cells (hdA b' (D0 (made p d.mv) ck) (.slice none 0 0)) 173 (0,0))∧w'.heap[b']?=some (.cells (J4 (a1s (made p d.mv))) 237 (0,0))∧Cl w w'):=by
 obtain ⟨f0,f1,t0,t1,hpm⟩:=A3 hI hm;obtain ⟨_,_,_,hb4⟩:=a1T htg;obtain ⟨hb2,_,h64⟩:=a1h htg;have hub:=b7u hI hm htg;have hcr:=c4r hI hm;have hep:=c4p hI hm;obtain ⟨fr,hfr⟩:=ze f0;have hf64:fr<64:=by omega
 have pc:=fun w hT hB=>a0a (a1s p) b (t:=237) (fz:=(0,0)) fr hf64 w hT hB;rw [U9 hI.pc hf64,← hfr] at pc;have hpr:=hI.pc d.mv.fr;have ht:=hI.turn;have ety:=fun w=>a1f (sq p d.mv.fr) hpr.1 hpr.2 w;have hcap:=b1D (p:=p) (m:=d.mv);refine zN func203 ?_;have hP0:=hP.hd;have hPs:P<w.heap.size:=(yn.1 hP0).1;have hbs:b<w.heap.size:=(yn.1 hP.bd).1;have hMs:M<w.heap.size:=(yn.1 hM).1;have hfull:(made p d.mv).full=p.full+p.turn:=rfl;have hhalf:(made p d.mv).half=if a1r p d.mv||decide (a0B (sq p d.mv.fr)=6) then 0 else p.half+1:=rfl
 have hturn:(D0 p (a1i p)).turn=p.turn+1:=rfl;have n1:=hN.1;have n2:=hN.2;have h0:=hI.h0;have hf1:=hI.f1;refine zG ?_;refine Nx.mk (zR ?_);refine b7 _ (a43 hP0) ?_;have ef:(D0 p (a1i p)).full=p.full:=rfl;rw [ef];refine zG ?_;refine B0 (σ:=Unit) [5] 6 (fun _=>[(5,.int .i64 (made p d.mv).full)]) (fun _ w'=>w'=w) zk ?_ (fun _ j w1 e1=>?_)
 ·refine zR ?_;refine kHt hP0 ?_;rw [hturn];refine zR ?_;apply E.d7<;>intro h
  ·refine zR ?_;exact ⟨(),⟨d9 (by rw [g8 zo zo,hfull];omega),trivial⟩,rfl⟩
  ·refine zR ?_;exact ⟨(),⟨d9 (by rw [hfull];omega),trivial⟩,rfl⟩
 subst e1;refine zR ?_;refine V0 false (N2 rfl _) (zR ?_);refine o7 (a1x hI f0 f1 w1 hT hP0 hP.bd hM) fun w2 c2=>?_;rw [hcr];have hP2:=hP.step c2;have hM2:=c2.blk hM;have hT2:=hT.cl c2;refine zR ?_;refine zK 9 ?_;refine zR ?_;refine qHb hP2.hd (zR ?_);refine a3B hM2 (zR ?_);refine o4 _ (fun w hw=>pc w (hT2.cl hw) (hw.blk hP2.bd)) (zR ?_);intro w3 c3;have c3':=c2.trans c3;have hP3:=hP.step c3';have hM3:=c3'.blk hM;refine zR ?_;refine b7 _ (a27 hP3.hd) ?_;have eh:(D0 p (a1i p)).half=p.half:=rfl;rw [eh];refine zG ?_;refine B0 (σ:=Unit) [8] 9 (fun _=>[(8,.int .i64 (made p d.mv).half)]) (fun _ w'=>w'=w3) zk ?_ (fun _ j w4 e4=>?_)
 ·refine zR ?_;refine g7 (ety _) (zR ?_);apply E.d7<;>intro h
  ·refine zR ?_;exact ⟨(),⟨d9 (by rw [hhalf,zX h,Bool.or_true];rfl),trivial⟩,rfl⟩
  ·have htag:Calls G.P 147 #[.pointer (some ⟨M,0,none⟩),.int .u16 4] w3 (E8 (.bool (d.tags.testBit 2)) w3):=a0N (k:=2) zd zo w3 hM3;rw [hb2,← hcap h] at htag;have hk:=zV h;refine zR ?_;refine g7 htag ?_;cases htk:a1r p d.mv
   ·refine zR ?_;exact ⟨(),⟨d9 (by rw [hhalf,htk,hk,g8 zo zo];rfl),trivial⟩,rfl⟩
   ·refine zR ?_;exact ⟨(),⟨d9 (by rw [hhalf,htk];rfl),trivial⟩,rfl⟩
 subst e4;refine zR ?_;refine kHb hP3.hd (zR ?_);refine m8 (a3Y (a1s p) b w4 hP3.bd) ?_;rintro r w5 ⟨b',rfl,hb',hB5,c5⟩;refine ⟨_,rfl,?_⟩;have c5':=c3'.trans c5;have hP5:=hP.step c5';have hM5:=c5'.blk hM;have s3:=c3'.size;have s5:=c5'.size;refine zR ?_;refine m8 (a9h (d:=d) f0 f1 t0 t1 zo (by rw [hfr,zg,U9 hI.pc hf64,← hfr];rcases hpm with e|⟨e1,e2,e3⟩;exact .inl e;exact .inr ⟨zo,zo,fun e=>by rw [e] at e3;exact absurd e3 zd⟩) zo w5 (hT.cl c5') hB5 hM5) ?_
 rintro r w6 ⟨rfl,hB6,n6⟩;refine ⟨_,rfl,?_⟩;rw [hub] at hB6;have c6:Cl w1 w6:=n6.toCl c5' zo;have hP6:=hP.step c6;have hM6:=c6.blk hM;have hT6:=hT.cl c6;refine zR ?_;refine kHt hP6.hd ?_;rw [hturn];refine zR ?_;refine g7 (a5X (p.turn+1) zo _) (zR ?_);refine o7 (a9s hI f0 f1 t0 t1 w6 hT6 hP6.hd hP6.bd hM6) fun w7 c7=>?_;rw [hep];have c7':=c6.trans c7;have hM7:=c7'.blk hM;have htag:Calls G.P 147 #[.pointer (some ⟨M,0,none⟩),.int .u16 16] w7 (E8 (.bool (d.tags.testBit 4)) w7):=a0N (k:=4) zd zo w7 hM7;rw [hb4] at htag;refine zR ?_;refine g7 htag (zR ?_);have e3:3-(p.turn+1)=(made p d.mv).turn+1:=by show 3-(p.turn+1)=(1-p.turn)+1;omega
 rw [e3];refine r7 (hdA b' (D0 (made p d.mv) ck) (.slice none 0 0)) zk (zR ?_);exact ⟨_,_,rfl,c7'.size,zo,d8 _ _,(Cl.alloc _ _).blk (c7.blk hB6),c7'.trans (Cl.alloc _ _)⟩
theorem in8 {n:Int} (h0:0≤n) (h1:n≤7):n=0∨n=1∨n=2∨n=3∨n=4∨n=5∨n=6∨n=7:=by omega
theorem b4I (f:Int) (h0:0≤f) (h1:f≤7) (w:World):Calls G.P 156 #[.int .i8 f] w (E8 (m7 [UInt8.ofNat (97+f.toNat)]) w):=by
 refine zN func156 ?_;have e1:IntKind.i8.wrap (f+1)=f+1:=a0d zo zo;refine zR ?_;rw [e1];refine a1m [UInt8.ofNat (97+f.toNat)] rfl rfl rfl (a06 _) h0 zo (by simp;omega) ?_ ?_
 ·rw [show (f+1).toNat-f.toNat=1 by omega];exact c5q _ zo
 refine zR ?_;exact ⟨rfl,rfl⟩
theorem c4s (f:Int) (h0:0≤f) (h1:f≤7) (w:World):Calls G.P 210 #[.int .i8 f] w (E8 (m7 [UInt8.ofNat (49+f.toNat)]) w):=by
 refine zN func210 ?_;have e1:IntKind.i8.wrap (f+1)=f+1:=a0d zo zo;refine zR ?_;rw [e1];refine a1m [UInt8.ofNat (49+f.toNat)] rfl rfl rfl (a06 _) h0 zo (by simp;omega) ?_ ?_
 ·rw [show (f+1).toNat-f.toNat=1 by omega];exact c5r _ zo
 refine zR ?_;exact ⟨rfl,rfl⟩
theorem b0H (s:Int):(v8 s).length=1:=rfl
theorem a6n (s:Int) (h0:0≤s) (h1:s≤63) (w:World):Calls G.P 157 #[.int .i8 s] w (E8 (m7 (v8 s++B6 s)) w):=by
 refine zN func157 ?_;refine zR ?_;refine g7 (a1C s h0 h1 _) (zR ?_);refine g7 (b4I (s%8) zo zo _) (zR ?_);refine g7 (a1n s h0 h1 _) (zR ?_);refine g7 (c4s (s/8) zo zo _) (zR ?_);exact ⟨by rw [A6];rfl,rfl⟩
theorem b6o (f:Int) (h0:0≤f) (h1:f≤7) (w:World):Calls G.P 208 #[.int .i8 f] w (E8 (.int .u8 ((UInt8.ofNat (97+f.toNat)).toNat:Int)) w):=by
 refine zN func208 ?_;rcases in8 h0 h1 with rfl|rfl|rfl|rfl|rfl|rfl|rfl|rfl<;>(refine zR ?_)<;>exact ⟨rfl,rfl⟩
theorem b6p (f:Int) (h0:0≤f) (h1:f≤7) (w:World):Calls G.P 209 #[.int .i8 f] w (E8 (.int .u8 ((UInt8.ofNat (49+f.toNat)).toNat:Int)) w):=by
 refine zN func209 ?_;rcases in8 h0 h1 with rfl|rfl|rfl|rfl|rfl|rfl|rfl|rfl<;>(refine zR ?_)<;>exact ⟨rfl,rfl⟩
theorem kinds {k:Int} (h0:0≤k) (h1:k≤6):k=0∨k=1∨k=2∨k=3∨k=4∨k=5∨k=6:=by omega
theorem a6o (k:Int) (h0:0≤k) (h1:k≤6) (w:World):Calls G.P 151 #[.int .i8 k] w (E8 (m7 (a2t k)) w):=by
 refine zN func151 ?_;rcases kinds h0 h1 with rfl|rfl|rfl|rfl|rfl|rfl|rfl<;>(refine zR ?_)<;>exact ⟨rfl,rfl⟩
theorem a9t (k:Int) (h:k=0∨(2≤k∧k≤5)) (w:World):Calls G.P 158 #[.int .i8 k] w (E8 (m7 (if k=0 then [] else [61]++a2t k)) w):=by
 have hl:=fun w=>a6o k zo zo w;refine zN func158 ?_;refine zR ?_;refine g7 (hl _) ?_;have hk:k=0∨k=2∨k=3∨k=4∨k=5:=by omega
 rcases hk with rfl|rfl|rfl|rfl|rfl<;>(refine zR ?_)<;>exact ⟨rfl,rfl⟩
theorem b0I (s:Int) (h0:0≤s) (h1:s≤63) (w:World):Calls G.P 161 #[.int .i8 s] w (fun r w'=>∃ v,r = .returned v∧Row 5 1 a01 w.heap.size w' v (v8 s++B6 s)∧Cl w w'):=by
 refine zN func161 ?_;refine zR ?_;refine g7 (a1C s h0 h1 _) (zR ?_);refine g7 (b6o (s%8) zo zo _) (zR ?_);refine g7 (a1n s h0 h1 _) (zR ?_);refine g7 (b6p (s/8) zo zo _) (zR ?_);refine zL T8 [.int .u8 ((UInt8.ofNat (97+(s%8).toNat)).toNat:Int),.int .u8 ((UInt8.ofNat (49+(s/8).toNat)).toNat:Int)] ?_;have hr:=C7 R7 w (v8 s++B6 s) (by simp [v8,B6]) [.int .u8 ((UInt8.ofNat (97+(s%8).toNat)).toNat:Int),.int .u8 ((UInt8.ofNat (49+(s/8).toNat)).toNat:Int)] rfl (e:=5) (z:=1)
 refine zR ?_;exact ⟨_,rfl,hr,Cl.alloc _ _⟩
theorem b7v (k:Int) (h0:0≤k) (h1:k≤6) (w:World):Calls G.P 162 #[.int .i8 k] w (fun r w'=>∃ v,r = .returned v∧Row 5 1 a01 w.heap.size w' v (a16 k)∧Cl w w'):=by
 refine zN func162 ?_;rcases kinds h0 h1 with rfl|rfl|rfl|rfl|rfl|rfl|rfl
 ·refine zR ?_;refine a4x T8 (zR ?_);exact ⟨_,rfl,Row.blk (l:=[]) R7 zd (yO _) (d8 _ _),Cl.alloc _ _⟩
 ·refine zR ?_;refine zL T8 [.int .u8 107] ?_;have hr:=C7 R7 w [107] zd [.int .u8 107] rfl (e:=5) (z:=1);refine zR ?_;exact ⟨_,rfl,hr,Cl.alloc _ _⟩
 ·refine zR ?_;refine zL T8 [.int .u8 113] ?_;have hr:=C7 R7 w [113] zd [.int .u8 113] rfl (e:=5) (z:=1);refine zR ?_;exact ⟨_,rfl,hr,Cl.alloc _ _⟩
 ·refine zR ?_;refine zL T8 [.int .u8 114] ?_;have hr:=C7 R7 w [114] zd [.int .u8 114] rfl (e:=5) (z:=1);refine zR ?_;exact ⟨_,rfl,hr,Cl.alloc _ _⟩
 ·refine zR ?_;refine zL T8 [.int .u8 98] ?_;have hr:=C7 R7 w [98] zd [.int .u8 98] rfl (e:=5) (z:=1);refine zR ?_;exact ⟨_,rfl,hr,Cl.alloc _ _⟩
 ·refine zR ?_;refine zL T8 [.int .u8 110] ?_;have hr:=C7 R7 w [110] zd [.int .u8 110] rfl (e:=5) (z:=1);refine zR ?_;exact ⟨_,rfl,hr,Cl.alloc _ _⟩
 ·refine zR ?_;refine zL T8 [.int .u8 112] ?_;have hr:=C7 R7 w [112] zd [.int .u8 112] rfl (e:=5) (z:=1);refine zR ?_;exact ⟨_,rfl,hr,Cl.alloc _ _⟩
theorem b7w (x:Int) (h0:1≤x) (h1:x≤12) (c:UInt8) (hc:pcT x=[c]) (w:World) (hT:C6 w):Calls G.P 212 #[.int .i8 x] w (E8 (.int .u8 (c.toNat:Int)) w):=by
 have ct:=fun w=>a1f x zo h1 w;have cc:=fun w=>a5Y x zo h1 w;refine zN func212 ?_;have tw:=hT.wfen;have tb:=hT.bfen;rcases (by omega:x=1∨x=2∨x=3∨x=4∨x=5∨x=6∨x=7∨x=8∨x=9∨x=10∨x=11∨x=12) with rfl|rfl|rfl|rfl|rfl|rfl|rfl|rfl|rfl|rfl|rfl|rfl
 ·have e:([75]:Tx)=[c]:=hc;injection e with e;subst e;refine zR ?_;refine g7 (ct _) (zR ?_);refine g7 (cc _) (zR ?_);refine b7 _ (L9 tw (i:=1) zd rfl rfl) (zR ?_);exact ⟨rfl,rfl⟩
 ·have e:([81]:Tx)=[c]:=hc;injection e with e;subst e;refine zR ?_;refine g7 (ct _) (zR ?_);refine g7 (cc _) (zR ?_);refine b7 _ (L9 tw (i:=2) zd rfl rfl) (zR ?_);exact ⟨rfl,rfl⟩
 ·have e:([82]:Tx)=[c]:=hc;injection e with e;subst e;refine zR ?_;refine g7 (ct _) (zR ?_);refine g7 (cc _) (zR ?_);refine b7 _ (L9 tw (i:=3) zd rfl rfl) (zR ?_);exact ⟨rfl,rfl⟩
 ·have e:([66]:Tx)=[c]:=hc;injection e with e;subst e;refine zR ?_;refine g7 (ct _) (zR ?_);refine g7 (cc _) (zR ?_);refine b7 _ (L9 tw (i:=4) zd rfl rfl) (zR ?_);exact ⟨rfl,rfl⟩
 ·have e:([78]:Tx)=[c]:=hc;injection e with e;subst e;refine zR ?_;refine g7 (ct _) (zR ?_);refine g7 (cc _) (zR ?_);refine b7 _ (L9 tw (i:=5) zd rfl rfl) (zR ?_);exact ⟨rfl,rfl⟩
 ·have e:([80]:Tx)=[c]:=hc;injection e with e;subst e;refine zR ?_;refine g7 (ct _) (zR ?_);refine g7 (cc _) (zR ?_);refine b7 _ (L9 tw (i:=6) zd rfl rfl) (zR ?_);exact ⟨rfl,rfl⟩
 ·have e:([107]:Tx)=[c]:=hc;injection e with e;subst e;refine zR ?_;refine g7 (ct _) (zR ?_);refine g7 (cc _) (zR ?_);refine b7 _ (L9 tb (i:=1) zd rfl rfl) (zR ?_);exact ⟨rfl,rfl⟩
 ·have e:([113]:Tx)=[c]:=hc;injection e with e;subst e;refine zR ?_;refine g7 (ct _) (zR ?_);refine g7 (cc _) (zR ?_);refine b7 _ (L9 tb (i:=2) zd rfl rfl) (zR ?_);exact ⟨rfl,rfl⟩
 ·have e:([114]:Tx)=[c]:=hc;injection e with e;subst e;refine zR ?_;refine g7 (ct _) (zR ?_);refine g7 (cc _) (zR ?_);refine b7 _ (L9 tb (i:=3) zd rfl rfl) (zR ?_);exact ⟨rfl,rfl⟩
 ·have e:([98]:Tx)=[c]:=hc;injection e with e;subst e;refine zR ?_;refine g7 (ct _) (zR ?_);refine g7 (cc _) (zR ?_);refine b7 _ (L9 tb (i:=4) zd rfl rfl) (zR ?_);exact ⟨rfl,rfl⟩
 ·have e:([110]:Tx)=[c]:=hc;injection e with e;subst e;refine zR ?_;refine g7 (ct _) (zR ?_);refine g7 (cc _) (zR ?_);refine b7 _ (L9 tb (i:=5) zd rfl rfl) (zR ?_);exact ⟨rfl,rfl⟩
 ·have e:([112]:Tx)=[c]:=hc;injection e with e;subst e;refine zR ?_;refine g7 (ct _) (zR ?_);refine g7 (cc _) (zR ?_);refine b7 _ (L9 tb (i:=6) zd rfl rfl) (zR ?_);exact ⟨rfl,rfl⟩
theorem a4c {p:g9} (hI:B7 p) (hN:Y6 p) {d:Nd} {P b M:Nat} {cv:Value} (hm:d.mv∈p9 p) {ck:Bool} (hck:a1i (made p d.mv)=true→ck=true) (htg:(d.tags:Int)=K5 p d.mv+(if ck then 16 else 0)) (w:World) (hT:C6 w) (hP:G8 w P b p cv)
  (hM:w.heap[M]?=some (.cells (F7 d) 141 (0,0))) :
  Calls G.P 146 #[.pointer (some ⟨P,0,none⟩),.pointer (some ⟨M,0,none⟩)] w (N0 (m7 (a9Q p d.mv d.tags)) w):=by
 obtain ⟨_,_,_,hb4⟩:=a1T htg;obtain ⟨_,_,h64⟩:=a1h htg;have htag:Calls G.P 147 #[.pointer (some ⟨M,0,none⟩),.int .u16 16] w (E8 (.bool (d.tags.testBit 4)) w):=a0N (k:=4) zd zo w hM;have hs:a9Q p d.mv d.tags=if d.tags.testBit 4 then (if (a3U (made p d.mv) true).isEmpty then [35] else [43]) else []:=rfl
 rw [hs];rw [hb4] at htag ⊢;refine zN func146 ?_;refine zR ?_;refine g7 htag ?_;cases ck
 ·refine zR ?_;exact ⟨rfl,Cl.refl _⟩
 ·refine zR ?_;refine m8 (a6m hI hN hm htg w hT hP hM) ?_;rintro r w1 ⟨P',b',rfl,hP',hb',hH1,hB1,c1⟩;refine ⟨_,rfl,zR ?_⟩;refine o7 (b0B (hI.made hm) hck w1 (hT.cl c1) hH1 hB1 (.inl rfl)) fun w2 c2=>?_;have hst:b0A (made p d.mv) true=if !(a3U (made p d.mv) true).isEmpty then 0 else 1:=rfl
  rw [hst];cases (a3U (made p d.mv) true).isEmpty
  ·refine zR ?_;exact ⟨rfl,c1.trans c2⟩
  ·refine zR ?_;exact ⟨rfl,c1.trans c2⟩
theorem b1E {p:g9} (hI:B7 p) (hle:(A5 p).length≤218) {P b:Nat} {ad:Addr} {n0 c0:Nat} (w:World) (hT:C6 w) (hM:G8 w P b p (.slice (some ad) n0 c0)) :
  Calls G.P 99 #[.pointer (some ⟨P,0,none⟩)] w (fun r w'=>∃ v,r = .returned v∧Row 141 11 D8 w.heap.size w' v (P7 p)∧Cl w w'):=by
 have hl:=a6i hI hle;have hP:=hM.hd;refine zN func99 ?_;refine zR ?_;refine b7 _ (a8V hP) (zR ?_);refine G7 _ (a6U rfl (some ad) n0 c0) (zR ?_);refine b7 _ (a8V hP) (zR ?_);have hr:Row 141 11 D8 0 w (.slice (some ad) n0 c0) (P7 p):=hM.ca.elim (fun e=>by cases e) id
 refine I5 b2Y (l:=[]) (news:=P7 p) rfl (Row.nil w w.heap.size) rfl hr J2 F9 (by simp;omega) zd (yO _) fun v' w' hr' hg=>?_
 rw [yP] at hr';obtain ⟨a9,c9,rfl,_⟩:=hr'.form;have hc:Cl w w':=hg.toCl rfl (Cl.refl _);refine zR ?_;exact ⟨_,rfl,hr',hc⟩
theorem b1F {w:World} {b:Nat} (hk:w.heap[b]?=some (.cells #[.pointer none,.slice none 0 0] 160 (0,0))) :
  Calls G.P 148 #[.pointer (some ⟨b,0,none⟩)] w (fun r w'=>r = .returned (.tuple #[])∧Upd w b (.cells #[.pointer none,.slice none 0 0] 160 (0,0)) w'):=by
 refine zN func148 ?_;refine zR ?_;refine zT hk [.pointer none] fun w2 u2=>?_;refine zR ?_;refine K2 u2.at_ [.slice none 0 0] rfl zk rfl (by intro v hv;simp at hv;subst hv;rfl) (zU rfl) fun w3 u3=>zR ?_
 exact ⟨rfl,u2.trans u3⟩
theorem Bld.fresh {w0 w:World} {b:Nat} (hc:Cl w0 w) (hb:w0.heap.size≤b) (hk:w.heap[b]?=some (.cells #[.pointer none,.slice none 0 0] 160 (0,0))):Bld w0 b [] w :=
 ⟨.inl ⟨hb,.slice none 0 0,hk,⟨rfl,.inl ⟨rfl,rfl⟩⟩,by simp [Value.ownBlock]⟩,hc⟩
theorem b1G {w:World} {b0 g n c:Nat} {l:List PM} (hr:Row 141 11 D8 b0 w (.slice (some ⟨g,0,none⟩) n c) l) (i:Nat) (hi:i<l.length) {o:Nat} (ho:o=i*11):m9 G.P w 141 ⟨g,o,none⟩ (.agg (F7 (C3 l[i]))):=by
 subst ho;obtain ⟨cur,h1,h2,h3⟩:=hr.getAll J2 i hi;have:=ldA (t:=141) (o:=i*11) (z:=11) h1 rfl h2;rw [h3] at this;exact this
theorem b7x (p:g9) (l:List PM) (m:Mv) {i:Nat} (hi:i<l.length):b3Y p (l.take (i+1)) m=b3Y p (l.take i) m++(if !decide (l[i].mv.fr=m.fr)&&decide (l[i].mv.to=m.to)&&decide (sq p m.fr=sq p l[i].mv.fr) then [l[i]] else []):=by
 unfold b3Y;rw [zx hi,List.filter_append];congr 1;rw [List.filter_cons];rfl
set_option maxHeartbeats 2000000 in
theorem b9B {p:g9} (hI:B7 p) (hle:(A5 p).length≤218) {P b M t:Nat} {fz:Nat×Nat} {ad:Addr} {n0 c0:Nat} {d:Nd} (f0:0≤d.mv.fr) (f1:d.mv.fr≤63) (w:World) (hT:C6 w) (hM:G8 w P b p (.slice (some ad) n0 c0))
  (hD:w.heap[M]?=some (.cells (F7 d) t fz)) :
  Calls G.P 153 #[.pointer (some ⟨P,0,none⟩),.pointer (some ⟨M,0,none⟩)] w (N0 (m7 (s1M p (P7 p) d.mv)) w):=by
 obtain ⟨fr,hfr⟩:=ze f0;have hf64:fr<64:=by omega
 have pcs:=fun (s:Nat) (hs:s<64) w hT hB=>a0a (a1s p) b (t:=237) (fz:=(0,0)) s hs w hT hB;have pc:=pcs fr hf64;rw [U9 hI.pc hf64,← hfr] at pc;have hpr:=hI.pc d.mv.fr;have ety:=fun w=>a1f (sq p d.mv.fr) hpr.1 hpr.2 w;have hs1:s1M p (P7 p) d.mv=if a0B (sq p d.mv.fr)=6 then [] else (if ((b3Y p (P7 p) d.mv).any fun x=>decide (x.mv.fr/8=d.mv.fr/8))||(!((b3Y p (P7 p) d.mv).any fun x=>decide (x.mv.fr%8=d.mv.fr%8)) && !(b3Y p (P7 p) d.mv).isEmpty) then v8 d.mv.fr else [])++(if ((b3Y p (P7 p) d.mv).any fun x=>decide (x.mv.fr%8=d.mv.fr%8)) then B6 d.mv.fr else []):=rfl
 rw [hs1];clear hs1;obtain ⟨mm1,_⟩:=a1l hI;refine zN func153 ?_;refine zR ?_;refine zK 9 ?_;refine zR ?_;refine qHb hM.hd (zR ?_);refine a3B hD (zR ?_);refine o4 _ (fun w hw=>pc w (hT.cl hw) (hw.blk hM.bd)) (zR ?_);intro w1 c1;refine zR ?_;refine g7 (ety _) (zR ?_);apply E.d7<;>intro h
 ·rw [zM h];refine zR ?_;exact ⟨rfl,c1⟩
 rw [zJ h];clear h;refine zR ?_;refine s7 _ b42 ?_;have cA:=Cl.alloc w1 (.cells (Value.agg #[.pointer none,.slice none 0 0]).cells 160);have nA:=d8 w1 (.cells (Value.agg #[.pointer none,.slice none 0 0]).cells 160);have sA:=C0 w1 (.cells (Value.agg #[.pointer none,.slice none 0 0]).cells 160);generalize w1.alloc (.cells (Value.agg #[.pointer none,.slice none 0 0]).cells 160)=w2 at *;refine zR ?_;refine m8 (b1F nA) ?_;rintro r w3 ⟨rfl,u3⟩;refine ⟨_,rfl,?_⟩;have c3:Cl w w3:=c1.trans ((Tn.upd u3).toCl cA (yO _));have c13:Cl w1 w3:=(Tn.upd u3).toCl cA (yO _);refine zR ?_;refine m8 (b1E hI hle w3 (hT.cl c3) (hM.step c3)) ?_;rintro r w4 ⟨v,rfl,hr,c4⟩;have hb4:=c4.blk u3.at_;have c14:=c13.trans c4;obtain ⟨av,cv,rfl,hav⟩:=hr.form;refine ⟨_,rfl,?_⟩;have hlen:=a6i hI hle;refine zR ?_;refine C1 (σ:=Nat) [6,7,8,11,30] 31 (fun i=>[(6,.bool (!(b3Y p ((P7 p).take i) d.mv).isEmpty)),(7,.bool ((b3Y p ((P7 p).take i) d.mv).any fun x=>decide (x.mv.fr/8=d.mv.fr/8))),(8,.bool ((b3Y p ((P7 p).take i) d.mv).any fun x=>decide (x.mv.fr%8=d.mv.fr%8))),(30,.int .i64 i)])
  (fun i w'=>i≤(P7 p).length∧Cl w4 w') (fun i=>(P7 p).length-i) zk 0 ⟨xJ _,Cl.refl _⟩ ⟨rfl,rfl,rfl,rfl,trivial⟩ ?_
 rintro i j w5 ⟨hi,c5⟩;have ni:=C4 (i:=i) zo;refine zR ?_;apply E.d7<;>intro h
 ·have hi2:i<(P7 p).length:=by omega
  clear h;refine zG ?_;refine B0 (σ:=Unit) [6,7,8,11] 31 (fun _=>[(6,.bool (!(b3Y p ((P7 p).take (i+1)) d.mv).isEmpty)),(7,.bool ((b3Y p ((P7 p).take (i+1)) d.mv).any fun x=>decide (x.mv.fr/8=d.mv.fr/8))),(8,.bool ((b3Y p ((P7 p).take (i+1)) d.mv).any fun x=>decide (x.mv.fr%8=d.mv.fr%8)))])
   (fun _ w'=>Cl w4 w') zk ?_ (fun _ j w8 c8=>?_)
  ·obtain ⟨g,rfl⟩:=hav zo;have hsn:=b7x p (P7 p) d.mv hi2;have hld:=fun {o:Nat} (ho:o=i*11)=>b1G (hr.step c5) i hi2 ho;have hxl:=(mm1 (P7 p)[i] (yQ hi2)).1;generalize (P7 p)[i]=x at *;have hxr:=A3 hI hxl;obtain ⟨xf,hxf⟩:=ze hxr.1;have hxf64:xf<64:=by omega
   have pcx:=pcs xf hxf64;rw [U9 hI.pc hxf64,← hxf] at pcx;refine zR ?_;refine zC ?_;refine zR ?_;refine b7 _ (hld (a1o _ _)) (zR ?_);refine s7 _ a3Z ?_;have cB:=Cl.alloc w5 (.cells (Value.agg (F7 (C3 ⟨⟨0,0,0⟩,0⟩))).cells 141);have nB:=d8 w5 (.cells (Value.agg (F7 (C3 ⟨⟨0,0,0⟩,0⟩))).cells 141);generalize w5.alloc (.cells (Value.agg (F7 (C3 ⟨⟨0,0,0⟩,0⟩))).cells 141)=w6 at *;refine zR ?_;refine K2 nB (D8 x) rfl a0O rfl (F9 x) (zU rfl) fun w7 u7=>?_;have hX:w7.heap[w5.heap.size]?=some (.cells (F7 (C3 x)) 141 (0,0)):=by have h7:=u7.at_;rw [B5 _ _ (by rw [J2];rfl)] at h7;exact h7
   have c7:Cl w5 w7:=(Tn.upd u7).toCl cB (yO _);have c17:=c14.trans (c5.trans c7);have cw7:=c1.trans c17;have hM7:=hM.step cw7;have hD7:=cw7.blk hD;have c47:=c5.trans c7;generalize b3Y p ((P7 p).take (i+1)) d.mv=A' at *;generalize b3Y p ((P7 p).take i) d.mv=A at *;refine zR ?_;refine zK 27 ?_;refine zR ?_;refine a3B hX (zR ?_);refine a3B hD7 (zR ?_);apply E.y8<;>intro h
   ·have h1:¬ x.mv.fr=d.mv.fr:=h;clear h;refine zR ?_;refine b15 hX (zR ?_);refine b15 hD7 (zR ?_);apply E.d7<;>intro h
    ·have h2:x.mv.to=d.mv.to:=h;clear h;refine zR ?_;refine qHb hM7.hd (zR ?_);refine a3B hX (zR ?_);refine o4 _ (fun w hw=>pcx w ((hT.cl cw7).cl hw) (hw.blk hM7.bd)) (zR ?_);intro w8 c8;refine zG ?_;refine zR ?_;apply E.d7<;>intro h
     ·have hyes:A'=A++[x]:=by rw [hsn,zV h1,zX h2,zX h];rfl
      clear h;refine zR ?_;refine zK 9 ?_;refine zR ?_;refine a3B (c8.blk hX) (zR ?_);refine o4 _ (fun w hw=>a1C x.mv.fr hxr.1 hxr.2.1 w) (zR ?_);refine a3B (c8.blk hD7) (zR ?_);refine o4 _ (fun w hw=>a1C d.mv.fr f0 f1 w) (zR ?_);intro w9 c9;have c79:=c8.trans c9;refine zR ?_;apply E.d7<;>intro h
      ·have hf:=h;clear h;refine zR ?_;refine zK 9 ?_;refine zR ?_;refine a3B (c79.blk hX) (zR ?_);refine o4 _ (fun w hw=>a1n x.mv.fr hxr.1 hxr.2.1 w) (zR ?_);refine a3B (c79.blk hD7) (zR ?_);refine o4 _ (fun w hw=>a1n d.mv.fr f0 f1 w) (zR ?_);intro w10 c10;have c410:=(c47.trans c79).trans c10;refine zR ?_;apply E.d7<;>intro h
       ·refine zR ?_;exact ⟨(),⟨z7 (by rw [hyes];simp),z7 (by rw [hyes];simp [h]),z7 (by rw [hyes];simp [hf]),trivial⟩,c410⟩
       ·refine zR ?_;exact ⟨(),⟨z7 (by rw [hyes];simp),z7 (by rw [hyes];simp [h]),z7 (by rw [hyes];simp [hf]),trivial⟩,c410⟩
      ·have hf:=h;clear h;refine zR ?_;refine zK 9 ?_;refine zR ?_;refine a3B (c79.blk hX) (zR ?_);refine o4 _ (fun w hw=>a1n x.mv.fr hxr.1 hxr.2.1 w) (zR ?_);refine a3B (c79.blk hD7) (zR ?_);refine o4 _ (fun w hw=>a1n d.mv.fr f0 f1 w) (zR ?_);intro w10 c10;have c410:=(c47.trans c79).trans c10;refine zR ?_;apply E.d7<;>intro h
       ·refine zR ?_;exact ⟨(),⟨z7 (by rw [hyes];simp),z7 (by rw [hyes];simp [h]),z7 (by rw [hyes];simp [hf]),trivial⟩,c410⟩
       ·refine zR ?_;exact ⟨(),⟨z7 (by rw [hyes];simp),z7 (by rw [hyes];simp [h]),z7 (by rw [hyes];simp [hf]),trivial⟩,c410⟩
     ·have hno:A'=A:=by rw [hsn,zV h,Bool.and_false];simp
      refine zR ?_;exact ⟨(),⟨z7 (by rw [hno]),z7 (by rw [hno]),z7 (by rw [hno]),trivial⟩,c47.trans c8⟩
    ·have hno:A'=A:=by rw [hsn,show decide (x.mv.to=d.mv.to)=false from zV h,Bool.and_false,xw];simp
     refine zR ?_;repeat (refine E.o9 h ?_;refine zR ?_)
     intro w8 c8;refine zR ?_;exact ⟨(),⟨z7 (by rw [hno]),z7 (by rw [hno]),z7 (by rw [hno]),trivial⟩,c47.trans c8⟩
   ·have hno:A'=A:=by rw [hsn,show decide (x.mv.fr=d.mv.fr)=true from zX h];simp
    refine zR ?_;intro w8 c8;refine zR ?_;exact ⟨(),⟨z7 (by rw [hno]),z7 (by rw [hno]),z7 (by rw [hno]),trivial⟩,c47.trans c8⟩
  ·refine zR ?_;exact ⟨i+1,⟨rfl,rfl,rfl,d9 ni,trivial⟩,⟨zo,c8⟩,zo⟩
 ·have e:i=(P7 p).length:=by omega
  subst e;rw [yf];have c15:=c14.trans c5;have hbl:Bld w1 w1.heap.size [] w5:=Bld.fresh c15 (yO _) (c5.blk hb4);have hD5:=(c1.trans c15).blk hD;generalize ((b3Y p (P7 p) d.mv).any fun x=>decide (x.mv.fr/8=d.mv.fr/8))=FQ at *;generalize ((b3Y p (P7 p) d.mv).any fun x=>decide (x.mv.fr%8=d.mv.fr%8))=RQ at *;generalize (b3Y p (P7 p) d.mv).isEmpty=RE at *;refine zG ?_;refine B0 (σ:=Unit) [] 31 (fun _=>[]) (fun _ w'=>Bld w1 w1.heap.size (if (FQ||(!RQ && !RE))=true then v8 d.mv.fr else []) w') zk ?_ (fun _ j w6 h6=>?_)
  ·cases FQ<;>cases RQ<;>cases RE<;>(refine zR ?_)<;>first
    | exact ⟨(),trivial,hbl⟩
    | (refine a4U hD5 ?_
       refine zR ?_;refine g7 (a1C d.mv.fr f0 f1 _) (zR ?_);refine g7 (b6o (d.mv.fr%8) zo zo _) (zR ?_);refine m8 (a26 (UInt8.ofNat (97+(d.mv.fr%8).toNat)) hbl zd) ?_;rintro r w6 ⟨rfl,h6⟩;refine ⟨_,rfl,zR ?_⟩;exact ⟨(),trivial,h6⟩)
  have hD6:=(c1.trans h6.cl).blk hD;have hl6:(if (FQ||(!RQ && !RE))=true then v8 d.mv.fr else []).length<1000000:=by split<;>simp [v8]
  generalize (if (FQ||(!RQ && !RE))=true then v8 d.mv.fr else [])=L at *
  cases RQ
  ·refine zR ?_;refine m8 (a2m h6) ?_;rintro r w7 ⟨rfl,c7⟩;refine ⟨_,rfl,zR ?_⟩;exact ⟨by simp;rfl,c1.trans c7⟩
  ·refine zR ?_;refine a4U hD6 (zR ?_);refine g7 (a1n d.mv.fr f0 f1 _) (zR ?_);refine g7 (b6p (d.mv.fr/8) zo zo _) (zR ?_);refine m8 (a26 (UInt8.ofNat (49+(d.mv.fr/8).toNat)) h6 hl6) ?_;rintro r w7 ⟨rfl,h7⟩;refine ⟨_,rfl,zR ?_⟩;refine m8 (a2m h7) ?_;rintro r w8 ⟨rfl,c8⟩;refine ⟨_,rfl,zR ?_⟩;exact ⟨rfl,c1.trans c8⟩
end
