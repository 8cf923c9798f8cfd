/- One part of the proof: Pk42 Law11 Pk43 Shl2 Pk44 Lid Arg Opn Law12 Tgs. -/
import Derived.Laws.RangeString
import Derived.Shelf.Strings.TrimSpace
import Derived.Shelf.Strconv.Atoi
import Derived.Lib.LaidU8
import Derived.LaidMore
import Derived.OpenShut
import Derived.Handed
import Derived.Deep.Slices
import Derived.ProofKit
import Derived.Test.YtpclhlhcegcflaaGreatDoorM14
namespace Go.Proofs.YtpclhlhcegcflaaGreatDoor
set_option maxRecDepth 100000
set_option linter.unusedSimpArgs false
set_option linter.unusedVariables false
section
open Go Go.RowKit
open E
open Ch Bb
def fmF (p:l9) (i:Nat) (k:Int):Option Int:=if 8*(8-(i:Int))≤k∧k<64 then nzO (sq p k) else none
def fmR (p:l9) (i:Nat) (rem:List En) (k:Int):Option Int :=
 if 8*(8-(i:Int))≤k∧k<64 then nzO (sq p k) else if 8*(7-(i:Int))≤k∧k<8*(8-(i:Int))∧(rem.all fun x=>!decide (x.k=k-8*(7-(i:Int))))=true then nzO (sq p k) else none
theorem b6B (p:l9) (i:Nat) (hi:i<8) (c0:Nat) (k:Int):fmF p i k=fmR p i (enG (fun f=>sq p (8*((7-i:Nat):Int)+f)) c0 8) k:=by
 unfold fmF fmR;by_cases h1:8*(8-(i:Int))≤k∧k<64
 ·rw [zM h1,zM h1]
 ·rw [zJ h1,zJ h1];by_cases h2:8*(7-(i:Int))≤k∧k<8*(8-(i:Int))∧((enG (fun f=>sq p (8*((7-i:Nat):Int)+f)) c0 8).all fun x=>!decide (x.k=k-8*(7-(i:Int))))=true
  ·rw [zM h2];obtain ⟨a,b,h3⟩:=h2;by_cases h0:sq p k=0
   ·rw [h0];rfl
   ·have e:8*((7-i:Nat):Int)+((k-8*(7-(i:Int))).toNat:Int)=k:=by omega
    obtain ⟨x,hx,hk⟩:=b5y (fun f=>sq p (8*((7-i:Nat):Int)+f)) c0 8 (k-8*(7-(i:Int))).toNat zo (by show sq p _≠0;rw [e];exact h0)
    have:=zl.1 h3 x hx;rw [zX (show x.k=k-8*(7-(i:Int)) by omega)] at this;cases this
  ·rw [zJ h2]
theorem c1F (p:l9) (i:Nat) (hi:i<8) (k:Int):fmR p i [] k=fmF p (i+1) k:=by
 unfold fmF fmR;by_cases h1:8*(8-(i:Int))≤k∧k<64
 ·rw [zM h1,zM ⟨zo,h1.2⟩]
 ·rw [zJ h1];by_cases h2:8*(7-(i:Int))≤k∧k<8*(8-(i:Int))
  ·rw [zM ⟨h2.1,h2.2,rfl⟩,zM ⟨zo,zo⟩]
  ·rw [zJ (fun h=>h2 ⟨h.1,h.2.1⟩),zJ zo]
theorem b9g {p:l9} {i:Nat} (hi:i<8) {r1 r2:List En} {x:En} (hk:((r1++x::r2).map (·.k)).Nodup) {f:Nat} (hf:f<8) (ex:x.k=(f:Int)) (ev:x.v=sq p (8*((7-i:Nat):Int)+f)) (h0:x.v≠0) (k:Int) :
  (if k=((8*(7-i)+f:Nat):Int) then some x.v else fmR p i (r1++x::r2) k)=fmR p i (r1++r2) k:=by
 by_cases e:k=((8*(7-i)+f:Nat):Int)
 ·rw [zM e];unfold fmR;rw [zJ zo,zM]
  ·have e2:8*((7-i:Nat):Int)+f=k:=by omega
   rw [e2] at ev;unfold nzO;rw [zJ (by rw [← ev];exact h0),ev]
  ·refine ⟨zo,zo,zl.2 fun y hy=>?_⟩;rw [List.map_append,yQ,List.nodup_append] at hk;obtain ⟨_,k2,k3⟩:=hk;rw [List.nodup_cons] at k2;have hne:y.k≠x.k:=by
    rcases zr.1 hy with hy|hy
    ·exact k3 y.k (xJ.2 ⟨y,hy,rfl⟩) x.k (yX ..)
    ·exact fun e=>k2.1 (by rw [← e];exact xJ.2 ⟨y,hy,rfl⟩)
   rw [zV (show ¬ y.k=k-8*(7-(i:Int)) by omega)];rfl
 ·rw [zJ e];unfold fmR;have:((r1++x::r2).all fun x=>!decide (x.k=k-8*(7-(i:Int))))=((r1++r2).all fun x=>!decide (x.k=k-8*(7-(i:Int)))):=by
   rw [List.all_append,List.all_append,List.all_cons,zV (show ¬ x.k=k-8*(7-(i:Int)) by omega)];rfl
  rw [this]
theorem c4V:∃ z,(G.P.info? 273).bind (·.zero)=some z∧z.cells.size=8:=a0C zk
def a62 (w:World) (A:Nat) (rs:List Tx):Prop:=∃ cs,w.heap[A]?=some (.cells cs 273 (0,0))∧cs.size=8∧∀ k (h:k<rs.length),cs[k]?=some (m9 rs[k])
theorem a62.put {w w':World} {A:Nat} {rs:List Tx} {t:Tx} {cs:Array Value} (hs:cs.size=8) (hr:∀ k (h:k<rs.length),cs[k]?=some (m9 rs[k])) (hl:rs.length<8) (u:Upd w A (.cells (L8 cs rs.length [m9 t]) 273 (0,0)) w'):a62 w' A (rs++[t]):=by
 refine ⟨_,u.at_,by rw [a0a,hs],fun k h=>?_⟩
 rw [zF,List.length_singleton] at h;rw [S0 _ _ _ _ (by rw [hs];exact hl)]
 simp only [List.length_singleton];by_cases e:k=rs.length
 ·subst e;rw [zM zo,wH (yJ _)];simp
 ·rw [zJ zo,List.getElem_append_left zo];exact hr k zo
set_option maxHeartbeats 2000000 in
theorem b4f {p:l9} (hI:D0 p) (w:World) (hT:D5 w) :
  Calls G.P 191 #[m9 (A6 p 8)] w (fun r w'=>Cl w w'∧∃ b,r = .returned (.tuple #[.pointer (some ⟨b,0,none⟩),.nilIface])∧w.heap.size≤b∧w'.heap[b]?=some (.cells (H3 (A4 p)) 237 (0,0))):=by
 have hsz:(tx (A6 p 8)).size=(A6 p 8).length:=C5 _;have hsp:=a8S p 7;have hlen:=a1D p 8;have hrl:=b0d p 8;generalize hT8:A6 p 8=T at *;refine zN Tryz.func191 ?_;refine zR ?_;refine a8Q mSP rfl ?_;have ca:=Cl.alloc w (.map #[] 0);have na:(w.alloc (.map #[] 0)).heap[w.heap.size]?=some (mpO .i8 .i8 [] 0):=d9 w (.map #[] 0);have sa:=B0 w (.map #[] 0);generalize w.alloc (.map #[] 0)=w1 at *;refine zR ?_;refine a8Q mFP rfl ?_;have cb:=ca.trans (Cl.alloc w1 (.map #[] 0));have nM:=(Cl.alloc w1 (.map #[] 0)).blk na;have nF:(w1.alloc (.map #[] 0)).heap[w1.heap.size]?=some (mpO .i8 .i8 [] 0):=d9 w1 (.map #[] 0);have sb:=B0 w1 (.map #[] 0);generalize w1.alloc (.map #[] 0)=w2 at *;refine zR ?_;obtain ⟨z,hz,hzs⟩:=c4V;refine v8 z hz ?_;have cc:=cb.trans (Cl.alloc w2 (.cells z.cells 273));have nM:=(Cl.alloc w2 (.cells z.cells 273)).blk nM;have nF:=(Cl.alloc w2 (.cells z.cells 273)).blk nF;have nA:=d9 w2 (.cells z.cells 273);have sc:=B0 w2 (.cells z.cells 273);generalize w2.alloc (.cells z.cells 273)=w3 at *;obtain ⟨M,hM⟩:∃ M,M=w.heap.size:=⟨_,rfl⟩;obtain ⟨F,hF⟩:∃ F,F=w1.heap.size:=⟨_,rfl⟩;obtain ⟨A,hA⟩:∃ A,A=w2.heap.size:=⟨_,rfl⟩;rw [← hM] at nM ⊢;rw [← hF] at nF ⊢;rw [← hA] at nA ⊢;have o1:M<F:=by omega
 have o2:F<A:=by omega
 refine zR ?_;refine o7 (b67 (l:=[]) List.nodup_nil (fun x hx=>by cases hx) List.nodup_nil w3 nM) ?_
 rintro e w4 ⟨rfl,nM4,n4⟩;refine ⟨_,rfl,?_⟩;have c4:=n4.toCl cc zo;have nF4:=n4.blk nF zo;have nA4:=n4.blk nA zo;refine zR ?_;refine o7 (b0g (l:=[]) List.nodup_nil (fun x hx=>by cases hx) List.nodup_nil w4 nF4) ?_
 rintro e w5 ⟨rfl,nF5,n5⟩;refine ⟨_,rfl,?_⟩;have c5:=n5.toCl c4 zo;have nM5:=n5.blk nM4 zo;have nA5:=n5.blk nA4 zo;clear c4 nF4 nA4 n4 nM4 cc nM nF nA n5;have hch:∀ {pre r:Tx} {c:UInt8},T=pre++c::r→(tx T).get! ((pre.length:Nat):Int).toNat=c:=fun {pre r c} e=>by
  have hi:pre.length<T.length:=by rw [e];simp
  rw [b9d hi];have:T[pre.length]?=some c:=by rw [e];simp
  rw [ym hi] at this;injection this
 have hA0:a62 w5 A []:=⟨z.cells,nA5,hzs,fun k h=>absurd h (Nat.not_lt_zero _)⟩;clear nA5;have hlen:T.length≤1000:=by omega
 refine zR ?_;rw [hsz];refine B6 (σ:=Tx×List Tx×Tx×Tx) [2,3,7,8,9,23] 24 (fun s=>[(7,.int .i64 (s.2.1.length:Nat)),(8,.int .i64 (s.1.length:Nat)),(23,.int .i64 ((s.1.length+s.2.2.1.length:Nat):Int))])
  (fun s w'=>Cl w w'∧T=s.1++s.2.2.1++s.2.2.2∧s.2.1++a2s 47 s.2.2.1 s.2.2.2=a5K p 8∧a62 w' A s.2.1∧w'.heap[M]?=some (mpO .i8 .i8 [] 0)∧w'.heap[F]?=some (mpO .i8 .i8 [] 0)) (fun s=>s.2.2.2.length) zk
  ([],[],[],T) ⟨c5,rfl,by rw [yM];exact hsp,hA0,nM5,nF5⟩ ⟨rfl,rfl,rfl,trivial⟩ ?_
 clear nM5 nF5 hA0 c5;rintro ⟨pre,rs,cur,rest⟩ j w6 ⟨c6,eT,hrs,⟨cs,hAc,hcs,hcr⟩,nM6,nF6⟩;simp only at c6 eT hrs hcs hcr nM6 nF6 ⊢;have eTl:=yH List.length eT;simp only [zF] at eTl;cases rest with
 | cons ch rest =>
  simp only [zh] at eTl;have ni:=C7 (i:=pre.length+cur.length) zo;have hg:=hch (pre:=pre++cur) (r:=rest) (c:=ch) eT;rw [zF] at hg;rw [a2s] at hrs;refine zR ?_;refine E.z6 zo (zR ?_);rw [hsz];refine zC ?_;refine zR ?_;rw [hg];apply E.b9<;>intro h
  ·have e47:ch=47:=by
    have h:(ch.toNat:Int)=47:=h;have h2:ch.toNat=(47:UInt8).toNat:=by show ch.toNat=47;omega
    exact UInt8.toNat_inj.1 h2
   clear h;rw [zM e47] at hrs;have hl8:=yH List.length hrs;rw [hrl,zF,zh] at hl8;have hpos:=b2C (c:=47) (s:=rest) (cur:=[]);have nr:=C7 (i:=rs.length) zo;have hoff:J0 0 ((rs.length:Nat):Int).toNat 1=rs.length:=by rw [r9,zg];omega
   refine zR ?_;refine E.p9 zo (zR ?_);refine a1d (l:=T) cur rfl rfl rfl rfl zo zo zo ?_ ?_
   ·rw [eT,zg,zg,yG,List.drop_left,show pre.length+cur.length-pre.length=cur.length by omega,List.take_left]
   refine zR ?_;refine zC ?_;refine zR ?_;refine K9 hAc [m9 cur] rfl zk rfl (by intro v hv;simp at hv;subst hv;rfl) (by rw [hcs,hoff];show rs.length+1≤8;omega) fun w7 u7=>?_
   rw [hoff] at u7;refine zR ?_;have e1:(pre++cur++[47]).length=pre.length+cur.length+1:=by rw [zF,zF];rfl
   refine ⟨(pre++cur++[47],rs++[cur],[],rest),⟨?_,?_,?_,trivial⟩,⟨u7.cl c6 zo,by rw [eT,e47];simp,by rw [← hrs];simp,a62.put hcs hcr zo u7,(Tn.upd u7).blk nM6 zo,(Tn.upd u7).blk nF6 zo⟩,by simp⟩
   ·exact d8 (by rw [nr,zF];rfl)
   ·exact d8 (by rw [ni,e1])
   ·exact d8 (by rw [ni,e1];rfl)
  ·have n47:¬ ch=47:=fun e=>h (by rw [e];rfl)
   clear h;rw [zJ n47] at hrs;refine zR ?_;refine ⟨(pre,rs,cur++[ch],rest),⟨rfl,rfl,?_,trivial⟩,⟨c6,by rw [eT];simp,hrs,⟨cs,hAc,hcs,hcr⟩,nM6,nF6⟩,by simp⟩
   exact d8 (by rw [ni,zF];rfl)
 | nil =>
  have hrs:rs++[cur]=a5K p 8:=hrs;have hl8:=yH List.length hrs;rw [hrl,zF,List.length_singleton] at hl8;have hr7:rs.length=7:=by omega
  have hcur:cur=a3M p 0:=by
   have h7:=a61 p 8 7 zo;rw [← hrs,List.getElem?_append_right zo,hr7] at h7;simpa using h7
  have hne:cur≠[]:=fun e=>by
   have:=b1e hI.pc 0;rw [← hcur,e] at this;cases this
  have hcl:=List.length_pos_iff.2 hne;simp only [za] at eTl;have hoff:J0 0 ((rs.length:Nat):Int).toNat 1=rs.length:=by rw [r9,zg];omega
  refine zR ?_;refine E.p9 zo (zR ?_);rw [hsz];refine E.z6 zo (zR ?_);refine E.p9 zo (zR ?_);refine a8H (l:=T) cur rfl rfl rfl zo zo (by rw [eT,zg,zn,List.drop_left]) (zR ?_)
  refine zC ?_;refine zR ?_;refine K9 hAc [m9 cur] rfl zk rfl (by intro v hv;simp at hv;subst hv;rfl) (by rw [hcs,hoff];show rs.length+1≤8;omega) fun w7 u7=>?_
  rw [hoff] at u7;have c7:=u7.cl c6 zo;have hR:=a62.put hcs hcr zo u7;rw [hrs] at hR;obtain ⟨cs8,hA8,hs8,hr8⟩:=hR;have nM7:=(Tn.upd u7).blk nM6 zo;have nF7:=(Tn.upd u7).blk nF6 zo;have nr:=C7 (i:=rs.length) zo;clear u7 hcr hAc nM6 nF6 c6;refine zR ?_;rw [nr];refine E.y6 (fun h=>absurd (show ((rs.length+1:Nat):Int)=8 by omega) h) (fun _=>?_)
  clear nr hrs hcur hne hcl hr7 hl8 eT eTl hsp hch hsz hlen hoff;refine zR ?_;refine B6 (σ:=Nat) [2,3,10,11,12,13,14,61] 62 (fun i=>[(61,.int .i64 i)]) (fun i w'=>i≤8∧Cl w w'∧w'.heap[A]?=some (.cells cs8 273 (0,0))
  ∧(∃ l c,w'.heap[F]?=some (mpO .i8 .i8 l c)∧(l.map (·.n)).Nodup∧(∀ x∈l,x.n<c)∧(l.map (·.k)).Nodup)∧∃ l c,w'.heap[M]?=some (mpO .i8 .i8 l c)∧∀ k,O1 l k=fmF p i k) (fun i=>8-i) zk
   0 ⟨zo,c7,hA8,⟨[],0,nF7,List.nodup_nil,fun x hx=>(by cases hx),List.nodup_nil⟩,[],0,nM7,fun k=>?_⟩ ⟨rfl,trivial⟩ ?_
  ·rw [a5H];unfold fmF;rw [zJ zo]
  clear nM7 nF7 hA8 c7;rintro i j2 w8 ⟨hi,c8,hA8,⟨lF,cF,hF8,f1,f2,f3⟩,lM,cM,hM8,hgM⟩;have ni:=C7 (i:=i) zo;refine zR ?_;apply E.b9<;>intro h
  ·have hi2:i<8:=by omega
   clear h;have e7:IntKind.i8.wrap (IntKind.i64.wrap (7-(i:Int)))=((7-i:Nat):Int):=by rw [g9 zo zo,a0q zo zo];omega
   have hoff:J0 0 ((i:Nat):Int).toNat 1=i:=by rw [r9,zg];omega
   have hrow:cs8[i]?=some (m9 (a3M p (7-i))):=by
    have h1:=hr8 i (by rw [hrl];exact hi2)
    rw [h1];have h2:=a61 p 8 i hi2;rw [ym (by rw [hrl];exact hi2)] at h2
    injection h2 with h2;rw [h2]
   refine zR ?_;rw [e7];refine o7 (b0g f1 f2 f3 w8 hF8) ?_;rintro e w9 ⟨rfl,hF9,n9⟩;refine ⟨_,rfl,?_⟩;have c9:=n9.toCl c8 zo;have hA9:=n9.blk hA8 zo;have hM9:=n9.blk hM8 zo;refine zR ?_;refine zC ?_;refine zR ?_;refine b7 _ (L5 (v:=m9 (a3M p (7-i))) hA9 (by rw [hoff];exact hrow) rfl) (zR ?_)
   refine o7 (b4d (g:=fun f=>sq p (8*((7-i:Nat):Int)+f)) (b1e hI.pc (7-i)) (fun c hc=>b9c _ 8 0 0 zo c hc) ?_ w9 (hT.cl c9) hF9) ?_
   ·have:=b1R (fun f=>sq p (8*((7-i:Nat):Int)+f)) 8 0 0 zo;show (a0x _ 8 0 0).length≤100;omega
   rintro e w10 ⟨rfl,hF10,n10⟩;refine ⟨_,rfl,?_⟩;have c10:=n10.toCl c9 zo;have hA10:=n10.blk hA9 zo;have hM10:=n10.blk hM9 zo;refine zR ?_;refine H6 true (G7 rfl) (zR ?_);refine a2D mFP rfl hF10 (b3Y _ _ 8) (b3Z _ _ 8) fun w11 c11 s11 hI11=>?_;have hA11:=c11.blk hA10;have hM11:=c11.blk hM10;have c011:=c10.trans c11;have hMr:M≠w10.heap.size:=by have:=F4 hM10;omega
   have hFr:F≠w10.heap.size:=by have:=F4 hF10;omega
   have hAr:A≠w10.heap.size:=by have:=F4 hA10;omega
   have h0r:w.heap.size≤w10.heap.size:=c10.size;have hkeys:=a8R (fun f=>sq p (8*((7-i:Nat):Int)+f)) cF 8;have hmem:=a4p (fun f=>sq p (8*((7-i:Nat):Int)+f)) cF 8;have hgM2:∀ k,O1 lM k=fmR p i (enG (fun f=>sq p (8*((7-i:Nat):Int)+f)) cF 8) k:=fun k=>by rw [hgM k];exact b6B p i hi2 cF k
   have hfin:=b3Y (fun f=>sq p (8*((7-i:Nat):Int)+f)) cF 8;have hfin2:=b3Z (fun f=>sq p (8*((7-i:Nat):Int)+f)) cF 8;generalize enG (fun f=>sq p (8*((7-i:Nat):Int)+f)) cF 8=LF at *;generalize cF+LF.length=CF at *;generalize w10.heap.size=R at *;clear hgM hF10 hF9 hF8 hA10 hA9 hA8 hM10 hM9 hM8 n10 n9 c10 c9 c8;refine zR ?_;refine B6 (σ:=List En) [13,14] 79 (fun _=>[]) (fun rem w'=>Cl w w'∧w'.heap[A]?=some (.cells cs8 273 (0,0))∧Itr .i8 .i8 w' F R LF CF rem∧(rem.map (·.k)).Nodup∧(∀ x∈rem,x∈LF)∧∃ l c,w'.heap[M]?=some (mpO .i8 .i8 l c)∧∀ k,O1 l k=fmR p i rem k) (fun rem=>rem.length) zk
    LF ⟨c011,hA11,hI11,hkeys,fun x hx=>hx,lM,cM,hM11,hgM2⟩ trivial ?_
   clear c011 hA11 hI11 hM11 hgM2 c11;rintro rem j3 w12 ⟨c12,hA12,hI12,hk12,hs12,l12,cc12,hM12,hg12⟩;refine zR ?_;refine a3L rfl hI12 (fun e=>?_) (fun r1 x r2 w13 e n13 hI13 hE=>?_)
   ·subst e;refine zR ?_;exact ⟨i+1,⟨d8 ni,trivial⟩,⟨zo,c12,hA12,⟨LF,CF,hI12.hb,hfin,hfin2,hkeys⟩,l12,cc12,hM12,fun k=>by rw [hg12 k];exact c1F p i hi2 k⟩,zo⟩
   ·subst e;obtain ⟨f,hf,ek,ev,h0⟩:=hmem x (hs12 x (by simp))
    have c13:=n13.toCl c12 h0r;have hA13:=n13.blk hA12 hAr;have hM13:=n13.blk hM12 hMr;have hns:=fun w=>b0W f (7-i) hf zo w;rw [← ek] at hns;have hst:=b9g hi2 hk12 hf ek ev (by rw [ev];exact h0)
    refine zR ?_;refine a2E rfl hE (zR ?_);refine l8 (hns _) (zR ?_);refine a5I mSP rfl rfl rfl hM13 fun w14 u14=>zR ?_;refine ⟨r1++r2,trivial,⟨u14.cl c13 zo,(Tn.upd u14).blk hA13 zo,hI13.kp (fun o h=>(Tn.upd u14).blk h zo) (fun o h=>(Tn.upd u14).blk h (wG hMr)),a2e _ hk12,fun y hy=>hs12 y ?_,_,_,u14.at_,fun k=>?_⟩,by simp⟩
    ·rcases zr.1 hy with hy|hy
     ·exact yP _ hy
     ·exact List.mem_append_right _ (yY _ hy)
    ·rw [a8O,hg12 k];exact hst k
  ·have e:i=8:=by omega
   subst e;refine zR ?_;refine o7 (b4e hI (l:=lM) (c:=cM) (fun s hs=>?_) w8 (hT.cl c8) hM8) ?_
   ·rw [hgM];unfold fmF;rw [zM zo]
   rintro e w9 ⟨c9,b,rfl,sb,hB⟩;refine ⟨_,rfl,zR ?_⟩;exact ⟨c8.trans c9,b,rfl,by have:=c8.size;omega,hB⟩
end
section
open Go Go.RowKit
open E
section gens
variable {w:World} {dst:Option Nat} {ty:Nat} {pos:String} {af:Array Edge} {gd:Option (Nat×Bool)} {env:C8} {K:Value→World→Prop}
theorem b4g {x:Operand} {s:ByteArray} (hx:ev env x = .string s) (h:K (.pointer (some ⟨w.heap.size,0,none⟩)) (w.alloc (.stringIter s 0))):H4 G.P { dst,op:=.range 9 x,type:=ty,pos,after:=af,guard:=gd } env w K:=by
 refine ⟨.inl ⟨_,_,?_,h⟩⟩;show (do pure (Next.value (← Instr.range 9 (ev env x))):Sem Next).run G.P w=_
 rw [hx,yj,run_range_string (P:=G.P) w _ s b0G];rfl
theorem b6C {it:Operand} {r i:Nat} {s:Tx} (hit:ev env it = .pointer (some ⟨r,0,none⟩)) (hr:w.heap[r]?=some (.stringIter (tx s) i)) (ha:∀ c∈s,c.toNat<128)
  (h0:s.length≤i→K (.tuple #[.bool false]) w)
  (h1:∀ (hi:i<s.length) w',Upd w r (.stringIter (tx s) (i+1)) w'→K (.tuple #[.bool true,.int .i64 i,.int .i32 (s[i].toNat:Nat)]) w') :
  H4 G.P { dst,op:=.next it true,type:=ty,pos,after:=af,guard:=gd } env w K:=by
 by_cases hi:i<s.length
 ·have hi2:i<(tx s).size:=by rw [C5];exact hi
  have hg:(tx s)[i]'hi2=s[i]:=rfl;have hd:=decode_ascii (tx s) i hi2 (by rw [hg];exact ha _ (yO hi))
  rw [hg] at hd;refine ⟨.inl ⟨_,{ w with heap:=w.heap.setIfInBounds r (.stringIter (tx s) (i+1)) },?_,h1 hi _ (a4n hr _)⟩⟩;show (do pure (Next.value (← Instr.next (ev env it) true ty)):Sem Next).run G.P w=_
  rw [hit];simp [Instr.next,getObj,setObj,Sem.run,hr,hi2,hd,goInt];rfl
 ·have hi2:¬ i<(tx s).size:=by rw [C5];exact hi
  refine ⟨.inl ⟨_,w,?_,h0 zo⟩⟩;show (do pure (Next.value (← Instr.next (ev env it) true ty)):Sem Next).run G.P w=_
  rw [hit];simp [Instr.next,getObj,Sem.run,hr,hi2]
theorem b9h {x:Operand} {sx:Nat} (c:UInt8) (hu:G.P.underlying sx=some (.int .i32)) (hc:c.toNat<128) (hx:ev env x = .int .i32 (c.toNat:Nat)) (h:K (m9 [c]) w):H4 G.P { dst,op:=.convert sx 9 x,type:=ty,pos,after:=af,guard:=gd } env w K:=by
 refine ⟨.inl ⟨_,w,?_,h⟩⟩;show (do pure (Next.value (← convert sx 9 (ev env x))):Sem Next).run G.P w=_
 have e:Utf8.encode (c.toNat:Int)=tx [c]:=by
  have hv:Utf8.valid (c.toNat:Int)=true:=by unfold Utf8.valid;simp;omega
  unfold Utf8.encode;simp only [hv,xy,zg,zM hc];simp [tx]
 rw [hx];unfold convert;simp [run_underlying hu,run_underlying b0G,Conv.intToString,e,m9]
end gens
end
section
open Go Go.RowKit
open E
open Ch Bb
theorem b1f:∀ n:Nat,n<16→(B9 (n:Int)).all (fun c=>c==75||c==81||c==107||c==113||c==45)=true∧(B9 (n:Int)).length≤4∧(B9 (n:Int)).count 75≤1∧(B9 (n:Int)).count 81≤1∧(B9 (n:Int)).count 107≤1∧(B9 (n:Int)).count 113≤1∧(B9 (n:Int)).count 45≤1:=by decide
def rightsL:List Tx:=[[75],[81],[107],[113],[45]]
theorem c4W:G.P.underlying 21=some (.int .i32):=by kernel_rfl
theorem b1g (cr:Int) (h0:0≤cr) (h1:cr≤15) (w:World) :
  Calls G.P 193 #[m9 (B9 cr)] w (N2 (.tuple #[m9 (B9 cr),.nilIface]) w):=by
 have hl:=b1f cr.toNat zo;rw [zi h0] at hl;generalize B9 cr=s at *;obtain ⟨ha,hlen,k1,k2,k3,k4,k5⟩:=hl;have hL:∀ i (hi:i<rightsL.length),∃ c,rightsL[i]=[c]∧s.count c≤1:=by
  intro i hi;rcases (by have:rightsL.length=5:=rfl;omega:i=0∨i=1∨i=2∨i=3∨i=4) with rfl|rfl|rfl|rfl|rfl
  ·exact ⟨75,rfl,k1⟩
  ·exact ⟨81,rfl,k2⟩
  ·exact ⟨107,rfl,k3⟩
  ·exact ⟨113,rfl,k4⟩
  ·exact ⟨45,rfl,k5⟩
 have hc:∀ i (hi:i<s.length),s[i]=75∨s[i]=81∨s[i]=107∨s[i]=113∨s[i]=45:=fun i hi=>by
  have:=zl.1 ha _ (yO hi);simpa [or_assoc] using this
 have hasc:∀ c∈s,c.toNat<128:=fun c hc'=>by
  have:=zl.1 ha _ hc';simp only [zj,beq_iff_eq] at this;rcases this with (((e|e)|e)|e)|e<;>(rw [e];decide)
 refine zN Tryz.func193 ?_;refine zR ?_;refine G2 a2a [m9 [75],m9 [81],m9 [107],m9 [113],m9 [45]] (by rw [zb];rfl) (by simp [Value.cells,m9]) rfl zd zd ?_
 have ca:=Cl.alloc w (.cells (([m9 [75],m9 [81],m9 [107],m9 [113],m9 [45]]:List Value).flatMap fun v=>v.cells.toList).toArray 9);have hr:Row 9 1 a38 w.heap.size (w.alloc (.cells (([m9 [75],m9 [81],m9 [107],m9 [113],m9 [45]]:List Value).flatMap fun v=>v.cells.toList).toArray 9)) (.slice (some ⟨w.heap.size,0,none⟩) 5 5) rightsL:=L4 D1 w rightsL zd _ rfl;generalize w.alloc (.cells (([m9 [75],m9 [81],m9 [107],m9 [113],m9 [45]]:List Value).flatMap fun v=>v.cells.toList).toArray 9)=w1 at *;have hl5:rightsL.length=5:=rfl;generalize rightsL=RL at *;refine zR ?_;refine B6 (σ:=Nat) [2,3,5,11] 12 (fun i=>[(11,.int .i64 i)]) (fun i w'=>i≤5∧w'=w1) (fun i=>5-i) zk 0 ⟨zo,rfl⟩ ⟨rfl,trivial⟩ ?_;rintro i j w2 ⟨hi,rfl⟩;have ni:=C7 (i:=i) zo;refine zR ?_;apply E.b9<;>intro h
 ·have hi2:i<RL.length:=by omega
  clear h;obtain ⟨c,ec,hcc⟩:=hL i hi2;have hz:=b66 c s zo;have hld:=fun {o:Nat} (ho:o=i*1+0)=>O5 (t:=9) (v:=m9 [c]) hr D1 i 0 hi2 zd (by rw [ec];rfl) ho rfl
  refine zR ?_;refine zC ?_;refine zR ?_;refine b7 _ (hld (a0F _ _)) (zR ?_);refine l8 (hz _) (zR ?_);refine E.p9 zo (zR ?_);exact ⟨i+1,⟨d8 ni,trivial⟩,⟨zo,rfl⟩,zo⟩
 ·clear h;refine zR ?_;refine b4g rfl ?_;have cb:=ca.trans (Cl.alloc w2 (.stringIter (tx s) 0));have nb:=d9 w2 (.stringIter (tx s) 0);have hws:w.heap.size≤w2.heap.size:=ca.size;generalize w2.alloc (.stringIter (tx s) 0)=w3 at *;refine zR ?_;refine B6 (σ:=Nat) [2,3,7,8] 23 (fun i=>[]) (fun i w'=>i≤s.length∧Cl w w'∧w'.heap[w2.heap.size]?=some (.stringIter (tx s) i)) (fun i=>s.length-i) zk 0 ⟨xA _,cb,nb⟩ trivial ?_;rintro i j w4 ⟨hi,c4,hit⟩;refine zR ?_;refine b6C rfl hit hasc (fun h=>?_) (fun hi2 w5 u5=>?_)
  ·refine zR ?_;exact ⟨rfl,c4⟩
  ·have c5:=u5.cl c4 hws;have hx:=hc i hi2;have hx8:=hasc _ (yO hi2);have fin:∀ w',w'=w5→i+1≤s.length∧Cl w w'∧w'.heap[w2.heap.size]?=some (.stringIter (tx s) (i+1)):=fun w' e=>by rw [e];exact ⟨hi2,c5,u5.at_⟩
   generalize s[i]=c at *;refine zR ?_;refine b9h c c4W hx8 rfl (zR ?_);apply E.b9<;>intro h
   ·refine zR ?_;(repeat (refine E.z6 h ?_;refine zR ?_))
    exact ⟨i+1,trivial,fin _ rfl,zo⟩
   have q1:=h;clear h;refine zR ?_;apply E.b9<;>intro h
   ·refine zR ?_;(repeat (refine E.z6 h ?_;refine zR ?_))
    exact ⟨i+1,trivial,fin _ rfl,zo⟩
   have q2:=h;clear h;refine zR ?_;apply E.b9<;>intro h
   ·refine zR ?_;(repeat (refine E.z6 h ?_;refine zR ?_))
    exact ⟨i+1,trivial,fin _ rfl,zo⟩
   have q3:=h;clear h;refine zR ?_;apply E.b9<;>intro h
   ·refine zR ?_;(repeat (refine E.z6 h ?_;refine zR ?_))
    exact ⟨i+1,trivial,fin _ rfl,zo⟩
   have q4:=h;clear h;refine zR ?_;apply E.b9<;>intro h
   ·refine zR ?_;(repeat (refine E.z6 h ?_;refine zR ?_))
    exact ⟨i+1,trivial,fin _ rfl,zo⟩
   have q5:=h;clear h;exfalso;rcases hx with rfl|rfl|rfl|rfl|rfl
   ·exact q1 rfl
   ·exact q2 rfl
   ·exact q3 rfl
   ·exact q4 rfl
   ·exact q5 rfl
theorem c4X {p:l9} (h:L6 p=true):p.ep=-1∨(0≤p.ep∧p.ep≤63∧p.ep/8=5-3*p.turn):=by
 unfold L6 at h;split at h
 ·exact .inl (yB h)
 ·rename_i h1;simp only at h;split at h
  ·cases h
  ·rename_i h2;refine .inr ⟨zo,zo,?_⟩;have:k9 p.ep=5-3*p.turn:=yf fun e=>h2 (.inl e);exact this
theorem b9i (e:Int) (he:e=-1∨(0≤e∧e≤63∧(e/8=2∨e/8=5))) (w:World) :
  Calls G.P 194 #[m9 (epT e)] w (N2 (.tuple #[.int .i8 e,.nilIface]) w):=by
 rcases he with rfl|⟨h0,h1,h2⟩
 ·rw [show epT (-1)=[45] from rfl];refine zN Tryz.func194 ?_;refine zR ?_;first|(refine E.z6 rfl ?_;refine zR ?_)|skip
  exact ⟨rfl,Cl.refl _⟩
 ·have e1:epT e=D2 e++rankT e:=by unfold epT;rw [zM ⟨h0,zo⟩]
  have hs:=fun w=>a9r e.toNat zo w;rw [zi h0,← e1] at hs;have hne:¬ tx (epT e)=tx [45]:=fun h=>by
   have:=yH List.length (P8.1 h);rw [e1] at this;simp [D2,rankT] at this
  have hr:=fun w=>a1e e h0 h1 w;generalize epT e=T at *;refine zN Tryz.func194 ?_;refine zR ?_;refine E.p9 hne (zR ?_);refine o9 (hs _) fun w1 c1=>zR ?_;refine E.p9 zo (zR ?_);repeat (refine E.p9 (show ¬ e=-1 by omega) ?_;refine zR ?_)
  refine l8 (hr _) ?_;rcases h2 with h2|h2
  ·rw [h2];refine zR ?_;repeat (refine E.p9 (show ¬ e=-1 by omega) ?_;refine zR ?_)
   exact ⟨rfl,c1⟩
  ·rw [h2];refine zR ?_;repeat (refine E.p9 (show ¬ e=-1 by omega) ?_;refine zR ?_)
   refine l8 (hr _) ?_;rw [h2];refine zR ?_;repeat (refine E.p9 (show ¬ e=-1 by omega) ?_;refine zR ?_)
   exact ⟨rfl,c1⟩
end
section
open Go.Shelf
def Tryz.lays163_ren:Go.Shelf.Ren:=⟨fun|163=>189|237=>231|199=>232|238=>233|272=>272|261=>273|273=>274|197=>275|315=>297|311=>298|312=>299|271=>300|260=>301|120=>311|n=>n,fun|9=>9|37=>157|3=>3|0=>0|5=>5|4=>4|40=>268|119=>269|21=>21|51=>262|141=>312|105=>314|196=>341|193=>338|198=>343|49=>135|194=>339|201=>346|226=>361|46=>52|227=>362|139=>366|138=>365|n=>n,fun|0=>1|6=>7|3=>18|4=>19|n=>n⟩
theorem Tryz.lays163:Go.Proofs.Lays.n163 Tryz.prog Tryz.lays163_ren:={
 mixed:=by kernel_rfl
 f120:=Tryz.func311.trans (yH some zk)
 f163:=Tryz.func189.trans (yH some zk)
 f197:=Tryz.func275.trans (yH some zk)
 f199:=Tryz.func232.trans (yH some zk)
 f237:=Tryz.func231.trans (yH some zk)
 f238:=Tryz.func233.trans (yH some zk)
 f260:=Tryz.func301.trans (yH some zk)
 f261:=Tryz.func273.trans (yH some zk)
 f271:=Tryz.func300.trans (yH some zk)
 f272:=Tryz.func272.trans (yH some zk)
 f273:=Tryz.func274.trans (yH some zk)
 f311:=Tryz.func298.trans (yH some zk)
 f312:=Tryz.func299.trans (yH some zk)
 f315:=Tryz.func297.trans (yH some zk)
 t0:=Tryz.underlying0
 a0:=Tryz.isAgg0
 z0:=Tryz.sizeOf0
 v0:=Tryz.zeroValue0
 t3:=Tryz.underlying3
 a3:=Tryz.isAgg3
 z3:=Tryz.sizeOf3
 v3:=Tryz.zeroValue3
 t4:=Tryz.underlying4
 a4:=Tryz.isAgg4
 z4:=Tryz.sizeOf4
 v4:=Tryz.zeroValue4
 t5:=Tryz.underlying5
 a5:=Tryz.isAgg5
 z5:=Tryz.sizeOf5
 v5:=Tryz.zeroValue5
 t9:=Tryz.underlying9
 a9:=Tryz.isAgg9
 z9:=Tryz.sizeOf9
 v9:=Tryz.zeroValue9
 t21:=Tryz.underlying21
 a21:=Tryz.isAgg21
 z21:=Tryz.sizeOf21
 v21:=Tryz.zeroValue21
 t37:=Tryz.underlying157
 a37:=Tryz.isAgg157
 z37:=Tryz.sizeOf157
 v37:=Tryz.zeroValue157
 t40:=Tryz.underlying268
 a40:=Tryz.isAgg268
 z40:=Tryz.sizeOf268
 v40:=Tryz.zeroValue268
 t46:=Tryz.underlying52
 a46:=Tryz.isAgg52
 z46:=Tryz.sizeOf52
 v46:=Tryz.zeroValue52
 t49:=Tryz.underlying135
 a49:=Tryz.isAgg135
 z49:=Tryz.sizeOf135
 v49:=Tryz.zeroValue135
 t51:=Tryz.underlying262
 a51:=Tryz.isAgg262
 z51:=Tryz.sizeOf262
 v51:=Tryz.zeroValue262
 t105:=Tryz.underlying314
 a105:=Tryz.isAgg314
 z105:=Tryz.sizeOf314
 v105:=Tryz.zeroValue314
 t119:=Tryz.underlying269
 a119:=Tryz.isAgg269
 z119:=Tryz.sizeOf269
 t138:=Tryz.underlying365
 a138:=Tryz.isAgg365
 z138:=Tryz.sizeOf365
 v138:=Tryz.zeroValue365
 t139:=Tryz.underlying366
 a139:=Tryz.isAgg366
 z139:=Tryz.sizeOf366
 v139:=Tryz.zeroValue366
 t141:=Tryz.underlying312
 a141:=Tryz.isAgg312
 z141:=Tryz.sizeOf312
 v141:=Tryz.zeroValue312
 t193:=Tryz.underlying338
 a193:=Tryz.isAgg338
 z193:=Tryz.sizeOf338
 v193:=Tryz.zeroValue338
 t194:=Tryz.underlying339
 a194:=Tryz.isAgg339
 z194:=Tryz.sizeOf339
 v194:=Tryz.zeroValue339
 t196:=Tryz.underlying341
 a196:=Tryz.isAgg341
 z196:=Tryz.sizeOf341
 v196:=Tryz.zeroValue341
 t198:=Tryz.underlying343
 a198:=Tryz.isAgg343
 z198:=Tryz.sizeOf343
 v198:=Tryz.zeroValue343
 t201:=Tryz.underlying346
 a201:=Tryz.isAgg346
 z201:=Tryz.sizeOf346
 v201:=Tryz.zeroValue346
 t226:=Tryz.underlying361
 a226:=Tryz.isAgg361
 z226:=Tryz.sizeOf361
 v226:=Tryz.zeroValue361
 t227:=Tryz.underlying362
 a227:=Tryz.isAgg362
 z227:=Tryz.sizeOf362
 v227:=Tryz.zeroValue362
 g0:=by kernel_rfl
 g3:=by kernel_rfl
 g4:=by kernel_rfl
 g6:=by kernel_rfl }
theorem Tryz.Space_Extra_163:Space.Extra Tryz.prog Tryz.lays163_ren:={
 gNamed:=by kernel_rfl }
open Go.RowKit in
theorem Tryz.strings_TrimSpace (s:ByteArray) (w:World) (hs:s.size≤9223372036854775807) (hascii:∀ (j:Nat) b,s.data.toList[j]?=some b→b.toNat<128) (htab:Lib.TabIs Tryz.prog w "strings.asciiSpace" .u8 Lib.asciiSpaceTab) :
  Calls Tryz.prog 189 #[.string s] w fun e w'=>e = .returned (.string ⟨(Lib.trimSpace s.data.toList).toArray⟩)∧w'=Lib.bytesWorld w 5 s:=Any.strings_TrimSpace Tryz.lays163 Tryz.Space_Extra_163 s w hs hascii htab
def Tryz.lays172_ren:Go.Shelf.Ren:=⟨fun|172=>195|244=>241|245=>242|247=>278|279=>279|280=>280|281=>281|282=>282|287=>302|316=>303|171=>169|205=>135|321=>312|322=>313|243=>213|246=>261|283=>288|284=>289|285=>290|286=>291|129=>228|317=>305|318=>306|319=>307|320=>308|337=>315|338=>316|n=>n,fun|9=>9|3=>3|75=>80|76=>166|4=>4|5=>5|167=>319|37=>157|0=>0|85=>320|2=>2|168=>322|53=>234|175=>348|46=>52|210=>351|127=>221|145=>233|143=>231|21=>21|171=>329|173=>331|212=>354|51=>262|20=>20|213=>355|232=>373|233=>374|80=>109|n=>n,fun|15=>14|16=>15|17=>16|18=>20|19=>21|n=>n⟩
theorem Tryz.lays172:Go.Proofs.Lays.n172 Tryz.prog Tryz.lays172_ren:={
 mixed:=by kernel_rfl
 f129:=Tryz.func228.trans (yH some zk)
 f171:=Tryz.func169.trans (yH some zk)
 f172:=Tryz.func195.trans (yH some zk)
 f205:=Tryz.func135.trans (yH some zk)
 f243:=Tryz.func213.trans (yH some zk)
 f244:=Tryz.func241.trans (yH some zk)
 f245:=Tryz.func242.trans (yH some zk)
 f246:=Tryz.func261.trans (yH some zk)
 f247:=Tryz.func278.trans (yH some zk)
 f279:=Tryz.func279.trans (yH some zk)
 f280:=Tryz.func280.trans (yH some zk)
 f281:=Tryz.func281.trans (yH some zk)
 f282:=Tryz.func282.trans (yH some zk)
 f283:=Tryz.func288.trans (yH some zk)
 f284:=Tryz.func289.trans (yH some zk)
 f285:=Tryz.func290.trans (yH some zk)
 f286:=Tryz.func291.trans (yH some zk)
 f287:=Tryz.func302.trans (yH some zk)
 f316:=Tryz.func303.trans (yH some zk)
 f317:=Tryz.func305.trans (yH some zk)
 f318:=Tryz.func306.trans (yH some zk)
 f319:=Tryz.func307.trans (yH some zk)
 f320:=Tryz.func308.trans (yH some zk)
 f321:=Tryz.func312.trans (yH some zk)
 f322:=Tryz.func313.trans (yH some zk)
 f337:=Tryz.func315.trans (yH some zk)
 f338:=Tryz.func316.trans (yH some zk)
 t0:=Tryz.underlying0
 a0:=Tryz.isAgg0
 z0:=Tryz.sizeOf0
 v0:=Tryz.zeroValue0
 t2:=Tryz.underlying2
 a2:=Tryz.isAgg2
 z2:=Tryz.sizeOf2
 v2:=Tryz.zeroValue2
 t3:=Tryz.underlying3
 a3:=Tryz.isAgg3
 z3:=Tryz.sizeOf3
 v3:=Tryz.zeroValue3
 t4:=Tryz.underlying4
 a4:=Tryz.isAgg4
 z4:=Tryz.sizeOf4
 v4:=Tryz.zeroValue4
 t5:=Tryz.underlying5
 a5:=Tryz.isAgg5
 z5:=Tryz.sizeOf5
 v5:=Tryz.zeroValue5
 t9:=Tryz.underlying9
 a9:=Tryz.isAgg9
 z9:=Tryz.sizeOf9
 v9:=Tryz.zeroValue9
 t20:=Tryz.underlying20
 a20:=Tryz.isAgg20
 z20:=Tryz.sizeOf20
 v20:=Tryz.zeroValue20
 t21:=Tryz.underlying21
 a21:=Tryz.isAgg21
 z21:=Tryz.sizeOf21
 v21:=Tryz.zeroValue21
 t37:=Tryz.underlying157
 a37:=Tryz.isAgg157
 z37:=Tryz.sizeOf157
 v37:=Tryz.zeroValue157
 t46:=Tryz.underlying52
 a46:=Tryz.isAgg52
 z46:=Tryz.sizeOf52
 v46:=Tryz.zeroValue52
 t51:=Tryz.underlying262
 a51:=Tryz.isAgg262
 z51:=Tryz.sizeOf262
 v51:=Tryz.zeroValue262
 t53:=Tryz.underlying234
 a53:=Tryz.isAgg234
 z53:=Tryz.sizeOf234
 v53:=Tryz.zeroValue234
 t75:=Tryz.underlying80
 a75:=Tryz.isAgg80
 z75:=Tryz.sizeOf80
 v75:=Tryz.zeroValue80
 t76:=Tryz.underlying166
 a76:=Tryz.isAgg166
 z76:=Tryz.sizeOf166
 v76:=Tryz.zeroValue166
 t85:=Tryz.underlying320
 a85:=Tryz.isAgg320
 z85:=Tryz.sizeOf320
 v85:=Tryz.zeroValue320
 t127:=Tryz.underlying221
 a127:=Tryz.isAgg221
 z127:=Tryz.sizeOf221
 v127:=Tryz.zeroValue221
 t143:=Tryz.underlying231
 a143:=Tryz.isAgg231
 z143:=Tryz.sizeOf231
 v143:=Tryz.zeroValue231
 t145:=Tryz.underlying233
 a145:=Tryz.isAgg233
 z145:=Tryz.sizeOf233
 v145:=Tryz.zeroValue233
 t167:=Tryz.underlying319
 a167:=Tryz.isAgg319
 z167:=Tryz.sizeOf319
 v167:=Tryz.zeroValue319
 t168:=Tryz.underlying322
 a168:=Tryz.isAgg322
 z168:=Tryz.sizeOf322
 v168:=Tryz.zeroValue322
 t171:=Tryz.underlying329
 a171:=Tryz.isAgg329
 z171:=Tryz.sizeOf329
 v171:=Tryz.zeroValue329
 t173:=Tryz.underlying331
 a173:=Tryz.isAgg331
 z173:=Tryz.sizeOf331
 v173:=Tryz.zeroValue331
 t175:=Tryz.underlying348
 a175:=Tryz.isAgg348
 z175:=Tryz.sizeOf348
 v175:=Tryz.zeroValue348
 t210:=Tryz.underlying351
 a210:=Tryz.isAgg351
 z210:=Tryz.sizeOf351
 v210:=Tryz.zeroValue351
 t212:=Tryz.underlying354
 a212:=Tryz.isAgg354
 z212:=Tryz.sizeOf354
 v212:=Tryz.zeroValue354
 t213:=Tryz.underlying355
 a213:=Tryz.isAgg355
 z213:=Tryz.sizeOf355
 t232:=Tryz.underlying373
 a232:=Tryz.isAgg373
 z232:=Tryz.sizeOf373
 v232:=Tryz.zeroValue373
 t233:=Tryz.underlying374
 a233:=Tryz.isAgg374
 z233:=Tryz.sizeOf374
 v233:=Tryz.zeroValue374
 g15:=by kernel_rfl
 g16:=by kernel_rfl
 g17:=by kernel_rfl
 g18:=by kernel_rfl
 g19:=by kernel_rfl }
open Go.RowKit in
theorem Tryz.strconv_Atoi (s:ByteArray) (n:Int) (hl:s.size≤18) (h:Lib.atoi s.data.toList=some n) (w:World) :
  Calls Tryz.prog 195 #[.string s] w fun e w'=>e = .returned (.tuple #[.int .i64 n,.nilIface])∧∃ t,w'=Lib.bytesWorld w 5 t:=Any.strconv_Atoi Tryz.lays172 s n hl h w
end
section
open Go Go.RowKit
open E
open Ch Bb
theorem Cl.bytes (w:World) (e:Nat) (s:ByteArray):Cl w (Lib.bytesWorld w e s):=⟨rfl,rfl,rfl,by rw [Lib.bytesWorld_size];omega,fun k hk=>Lib.bytesWorld_at_old w e s k hk⟩
def Spc (w:World):Prop:=Lib.TabIs G.P w "strings.asciiSpace" .u8 Lib.asciiSpaceTab
theorem Spc.cl {w w':World} (h:Spc w) (c:Cl w w'):Spc w':=by
 unfold Spc Lib.TabIs World.var? at *;cases hg:G.P.globalNamed "strings.asciiSpace" with
 | none=>rw [hg] at h;cases h
 | some g =>
  rw [hg] at h;simp only [xp] at h ⊢;cases hb:w.heap[g]? with
  | none=>rw [hb] at h;cases h
  | some o =>
   rw [c.blk hb];rw [hb] at h;exact h
theorem a6Z:∀ (a:Tx) (acc:Nat) (b:Tx),Lib.decFrom acc (a++b)=(Lib.decFrom acc a).bind fun x=>Lib.decFrom x b
 | [],_,_=>rfl
 | x::r,acc,b=>by
  rw [yU,Lib.decFrom,Lib.decFrom];cases Lib.digitVal x with
  | none=>rfl
  | some d=>exact a6Z r _ b
theorem a7a:∀ k,k<10→Lib.digitVal (UInt8.ofNat (48+k))=some k:=by decide
theorem a7b (n:Nat):Lib.decFrom 0 (X8 n)=some n:=by
 induction n using Nat.strongRecOn with
 | _ n ih =>
  unfold X8;by_cases h:n<10
  ·rw [dif_pos h,Lib.decFrom,a7a n h];simp [Lib.decFrom]
  ·rw [dif_neg h,a6Z,ih (n/10) zo,xp,Lib.decFrom,a7a (n%10) zo];simp only [Lib.decFrom];congr 1;omega
theorem b2F (n:Nat):∃ b r,X8 n=b::r:=by
 cases h:X8 n with
 | nil=>have:=a7b n;unfold X8 at h;split at h<;>simp at h
 | cons b r=>exact ⟨b,r,rfl⟩
theorem b9j (n:Nat):Lib.atoi (X8 n)=some (n:Int):=by
 obtain ⟨b,r,e⟩:=b2F n;obtain ⟨k,hk,hb⟩:=a7J n b (by rw [e];exact yX)
 have h1:∀ k,k<10→(UInt8.ofNat (48+k)==45)=false∧(UInt8.ofNat (48+k)==43)=false:=by decide
 have hn:Lib.decNat (X8 n)=some n:=by unfold Lib.decNat;rw [zJ (by rw [e];simp)];exact a7b n
 rw [e] at hn ⊢;unfold Lib.atoi;rw [hb] at hn ⊢;simp only [(h1 k hk).1,(h1 k hk).2,hn];rfl
theorem b9k (n:Nat) (hn:n<10000000) (w:World):Calls G.P 195 #[m9 (X8 n)] w (N2 (.tuple #[.int .i64 n,.nilIface]) w):=by
 have hl:=a2X 7 n zd zo;refine (Tryz.strconv_Atoi (tx (X8 n)) n (by rw [C5];omega) (by show Lib.atoi ((X8 n).toArray.toList)=_;exact b9j n) w).mono ?_
 rintro r w' ⟨h1,t,h2⟩;exact ⟨h1,by rw [h2];exact Cl.bytes w _ t⟩
theorem b9l {c:UInt8} (h:b4a c):Lib.isSp c=false:=by
 have h49:49≤c.toNat:=by
  rcases h with h|⟨x,h0,h1,h⟩
  ·exact h.1
  ·rcases (by omega:x=1∨x=2∨x=3∨x=4∨x=5∨x=6∨x=7∨x=8∨x=9∨x=10∨x=11∨x=12) with rfl|rfl|rfl|rfl|rfl|rfl|rfl|rfl|rfl|rfl|rfl|rfl<;>(injection h with h _;subst h;decide)
 unfold Lib.isSp;have:∀ k:UInt8,k.toNat<49→(c==k)=false:=fun k hk=>by
  rw [beq_eq_false_iff_ne];intro e;rw [e] at h49;omega
 rw [this 9 zd,this 10 zd,this 11 zd,this 12 zd,this 13 zd,this 32 zd];rfl
theorem c1G {a:UInt8} {r l:Tx} {b:UInt8} (h:a::r=l++[b]) (ha:Lib.isSp a=false) (hb:Lib.isSp b=false):Lib.trimSpace (a::r)=a::r:=by
 unfold Lib.trimSpace;rw [List.dropWhile_cons,zJ (by rw [ha];decide),h,List.reverse_append,List.reverse_singleton,List.singleton_append,List.dropWhile_cons,zJ (by rw [hb];decide)]
 simp
theorem c3C (p:l9) (hp:∀ i:Int,0≤sq p i∧sq p i≤12) (r:Nat):∃ c t,a3M p r=c::t:=by
 cases h:a3M p r with
 | nil=>have:=b1e hp r;rw [h] at this;cases this
 | cons c t=>exact ⟨c,t,rfl⟩
theorem b9m {p:l9} (hp:∀ i:Int,0≤sq p i∧sq p i≤12):Lib.trimSpace (O0 p)=O0 p:=by
 obtain ⟨c,t,e⟩:=c3C p hp 7;have hc:b4a c:=b9c (fun f=>sq p (8*((7:Nat):Int)+f)) 8 0 0 zo c (by show c∈a3M p 7;rw [e];exact yX)
 have e1:O0 p=c::(t++[47]++A6 p 7++[32]++Y2 p.turn++[32]++B9 p.castle++[32]++epT p.ep++[32]++X8 p.half.toNat++[32]++X8 p.full.toNat):=by
  have:A6 p 8=a3M p 7++[47]++A6 p 7:=rfl;unfold O0;rw [this,e];simp
 obtain ⟨x,r,e2⟩:=b2F p.full.toNat;have hne:X8 p.full.toNat≠[]:=by rw [e2];simp
 have hl:=List.dropLast_concat_getLast hne;obtain ⟨k,hk,hk2⟩:=a7J p.full.toNat _ (List.getLast_mem hne);have h3:∀ k,k<10→Lib.isSp (UInt8.ofNat (48+k))=false:=by decide
 have e4:O0 p=(A6 p 8++[32]++Y2 p.turn++[32]++B9 p.castle++[32]++epT p.ep++[32]++X8 p.half.toNat++[32]++(X8 p.full.toNat).dropLast)++[(X8 p.full.toNat).getLast hne]:=by
  rw [yG _ (X8 p.full.toNat).dropLast,hl];rfl
 rw [e1];exact c1G (e1.symm.trans e4) (b9l hc) (by rw [hk2];exact h3 k hk)
theorem b6D {p:l9} (hp:∀ i:Int,0≤sq p i∧sq p i≤12):∀ c∈O0 p,c.toNat<128:=by
 have hdec:∀ n,∀ c∈X8 n,c.toNat<128:=fun n c hc=>by
  obtain ⟨k,hk,rfl⟩:=a7J n c hc;have:∀ k,k<10→(UInt8.ofNat (48+k)).toNat<128:=by decide
  exact this k hk
 have hrow:∀ c,b4a c→c.toNat<128:=fun c h=>by
  rcases a8V h with h|h
  ·omega
  ·exact h.2.1
 have hboard:∀ r,∀ c∈A6 p r,c.toNat<128:=by
  intro r
  induction r with
  | zero=>intro c hc;cases hc
  | succ r ih =>
   intro c hc;rw [A6] at hc;rcases zr.1 hc with hc|hc
   ·rcases zr.1 hc with hc|hc
    ·exact hrow c (b9c _ 8 0 0 zo c hc)
    ·split at hc
     ·cases hc
     ·rw [zY.1 hc];decide
   ·exact ih c hc
 have h32:∀ c∈([32]:Tx),c.toNat<128:=by decide
 have hturn:∀ c∈Y2 p.turn,c.toNat<128:=by unfold Y2;split<;>decide
 have hcast:∀ c∈B9 p.castle,c.toNat<128:=by
  have:∀ a b c d:Bool,∀ x∈(let t:Tx:=(if a then [75] else [])++(if b then [81] else [])++(if c then [107] else [])++(if d then [113] else []);if t.isEmpty then [45] else t),x.toNat<128:=by decide
  exact this _ _ _ _
 have hep:∀ c∈epT p.ep,c.toNat<128:=by
  unfold epT;split
  ·rename_i h;have:∀ k,k<64→∀ c∈D2 ((k:Nat):Int)++rankT ((k:Nat):Int),c.toNat<128:=by decide
   have h2:=this p.ep.toNat zo
   rwa [zi h.1] at h2
  ·decide
 intro c hc;unfold O0 at hc;simp only [zr] at hc;rcases hc with (((((((((h|h)|h)|h)|h)|h)|h)|h)|h)|h)|h
 ·exact hboard _ c h
 ·exact h32 c h
 ·exact hturn c h
 ·exact h32 c h
 ·exact hcast c h
 ·exact h32 c h
 ·exact hep c h
 ·exact h32 c h
 ·exact hdec _ c h
 ·exact h32 c h
 ·exact hdec _ c h
theorem b6E {p:l9} (hp:∀ i:Int,0≤sq p i∧sq p i≤12) (hl:(O0 p).length≤100000) (w:World) (hs:Spc w):Calls G.P 189 #[m9 (O0 p)] w (N2 (m9 (O0 p)) w):=by
 refine (Tryz.strings_TrimSpace (tx (O0 p)) w (by rw [C5];omega) (fun j b hb=>?_) hs).mono ?_
 ·have hb:(O0 p)[j]?=some b:=hb;exact b6D hp b (yg hb)
 ·rintro r w' ⟨h1,h2⟩;refine ⟨?_,by rw [h2];exact Cl.bytes w _ _⟩
  rw [h1];show Ending.returned (.string ⟨(Lib.trimSpace (O0 p)).toArray⟩)=_;rw [b9m hp];rfl
def b53 (P:Program):Nat→Nat→Bool
 | 0,_=>true
 | d+1,e=>match P.underlying e with
  | some (.struct fs)=>fs.all fun f=>b53 P d f.type
  | some (.array _ _)=>false
  | _=>true
theorem b6F {P:Program} {fits:TypeId→Bool}:∀ (d e n off:Nat),b53 P d e=true→2≤n→rowAt P fits d e 1 off n=false:=by
 intro d
 induction d with
 | zero=>intro e n off _ _;rfl
 | succ d ih =>
  intro e n off h hn;unfold b53 at h;unfold rowAt;simp only
  split
  ·rfl
  rw [yA];constructor
  ·rw [zV (show ¬ off/P.cellsOf e+n≤1 by generalize off/P.cellsOf e=q;omega)];simp
  ·rw [xn];right;split at h
   ·rename_i fs hu;simp only [hu];rw [xn];right;rw [Array.any_eq_false];intro i hi hc;rw [Array.all_eq_true] at h;have:=ih fs[i].type n (off%P.cellsOf e-fs[i].offset) (h i hi) hn;rw [this] at hc;simp at hc
   ·cases h
   ·rename_i h1 h2;split
    ·rename_i fs hu;exact absurd hu (h1 fs)
    ·rename_i m e' hu;exact absurd hu (h2 m e')
    ·rfl
def a7c (P:Program) (fits:TypeId→Bool):Nat→Nat→Bool
 | 0,_=>true
 | d+1,e=>!fits e&&match P.underlying e with
  | some (.struct fs)=>fs.all fun f=>b53 P d f.type
  | some (.array _ _)=>false
  | _=>true
theorem b6G {P:Program} {fits:TypeId→Bool} (d e n c off:Nat) (h:a7c P fits d e=true) (hn:2≤n):rowAt P fits d e c off n=false:=by
 cases d with
 | zero=>rfl
 | succ d =>
  unfold a7c at h;rw [zP] at h;obtain ⟨h0,h⟩:=h;have h0:fits e=false:=by simpa using h0
  unfold rowAt;simp only
  split
  ·rfl
  rw [yA];constructor
  ·rw [h0];simp
  ·rw [xn];right;split at h
   ·rename_i fs hu;simp only [hu];rw [xn];right;rw [Array.any_eq_false];intro i hi hc;rw [Array.all_eq_true] at h;have:=b6F (fits:=fits) d fs[i].type n (off%P.cellsOf e-fs[i].offset) (h i hi) hn;rw [this] at hc;simp at hc
   ·cases h
   ·rename_i h1 h2;split
    ·rename_i fs hu;exact absurd hu (h1 fs)
    ·rename_i m e' hu;exact absurd hu (h2 m e')
    ·rfl
theorem b4i {P:Program} (D e u n c off:Nat) (h:a7c P (fun t=>sameLayout P P.depth t u) P.depth e=true) (hu:∀ m u',P.underlying u≠some (.array m u')) (hn:2≤n):liesAt P D e c off u n=false:=by
 cases D with
 | zero=>rfl
 | succ D =>
  unfold liesAt;rw [b6G _ _ _ _ _ h hn,xc];split
  ·rename_i m u' he;exact absurd he (hu m u')
  ·rfl
theorem b9n {W:World} (hS:W.ShapedOpen G.P) {g ty:Nat} (hlt:g<G.P.globals.size) (h0:(((begin G.P (fun _ _=>0) default).world.heap[g]?).bind Obj.row?).map (·.2)=some ty) :
  ∃ cs,W.heap[g]?=some (.cells cs ty (0,0))∧(G.P.buildable ty=true→Row.ok G.P W .any 0 ty cs):=by
 cases h1:((begin G.P (fun _ _=>0) default).world.heap[g]?).bind Obj.row? with
 | none=>rw [h1] at h0;cases h0
 | some x =>
  obtain ⟨zero,t⟩:=x;rw [h1] at h0;obtain rfl:t=ty:=yi h0;obtain ⟨cs,h2,_,h3⟩:=hS.1 g zero t hlt h1;exact ⟨cs,h2,h3⟩
theorem b9o {W:World} {name:String} {g ty:Nat} {cs cs':Array Value} (hg:G.P.globalNamed name=some g) (hb:W.heap[g]?=some (.cells cs ty (0,0))) (hv:W.var? G.P name=some cs'):cs'=cs:=by
 unfold World.var? at hv;rw [hg] at hv;simp only [xp,hb] at hv;exact (yi hv).symm
theorem a1k {W:World} (hS:W.ShapedOpen G.P) {name:String} {g t n e ty:Nat} {k:IntKind} {z:Nat→Int} (hg:G.P.globalNamed name=some g) (hlt:g<G.P.globals.size) (h0:(((begin G.P (fun _ _=>0) default).world.heap[g]?).bind Obj.row?).map (·.2)=some ty)
  (hf:a2o ty=true) (hty:(G.P.globals[g]?).map (·.type)=some t) (ht:G.P.underlying t=some (.array n e)) (he:G.P.underlying e=some (.int k)) (hce:G.P.cellsOf e=1) (hct:G.P.cellsOf t=n)
  (hr:Lib.VarReads G.P W name (Lib.tabData k ((List.range n).map z))):a06 W g n (fun i=>.int k (z i)):=by
 obtain ⟨g',t',cs',fuel,p,hg',ht',hv,hd⟩:=hr;obtain rfl:=yi (hg.symm.trans hg');obtain rfl:=yi (hty.symm.trans ht');obtain ⟨cs,hb,_⟩:=b9n hS hlt h0;have e1:=Lib.cells_of_tab ht he hce hct hd;rw [b9o hg hb hv] at e1;refine ⟨cs,ty,_,hb,hf,fun i hi=>?_⟩;have e2:cs.toList[i]?=some (Value.int k (z i)):=by
  rw [e1];simp [List.getElem?_map,List.getElem?_range hi]
 simpa using e2
theorem b2G {W:World} {name:String} {g t n e:Nat} {k:IntKind} {zs:List Int} (hg:G.P.globalNamed name=some g) (hty:(G.P.globals[g]?).map (·.type)=some t) (ht:G.P.underlying t=some (.array n e)) (he:G.P.underlying e=some (.int k)) (hce:G.P.cellsOf e=1) (hct:G.P.cellsOf t=n)
  (hr:Lib.VarReads G.P W name (Lib.tabData k zs)):Lib.TabIs G.P W name k zs:=by
 obtain ⟨g',t',cs',fuel,p,hg',ht',hv,hd⟩:=hr;obtain rfl:=yi (hg.symm.trans hg');obtain rfl:=yi (hty.symm.trans ht');unfold Lib.TabIs;rw [hv,← Lib.cells_of_tab ht he hce hct hd]
theorem b54 {W:World} (hS:W.ShapedOpen G.P) {name:String} {g t n e ty:Nat} {k:IntKind} {z:Nat→Int} (hg:G.P.globalNamed name=some g) (hlt:g<G.P.globals.size) (h0:(((begin G.P (fun _ _=>0) default).world.heap[g]?).bind Obj.row?).map (·.2)=some ty)
  (hf:a2o ty=true) (hbu:G.P.buildable ty=true) (hct:G.P.cellTypes G.P.depth ty=some [t]) (hty:(G.P.globals[g]?).map (·.type)=some t) (ht:G.P.underlying t=some (.slice e)) (he:G.P.underlying e=some (.int k)) (hce:G.P.cellsOf e=1)
  (hn:2≤n) (hno:∀ row,a2o row=false→a7c G.P (fun t=>sameLayout G.P G.P.depth t e) G.P.depth row=true)
  (hr:Lib.VarReads G.P W name (.slice ((List.range n).map fun i=>.lit (.int k (z i))) [])):a7m W g n (fun i=>.int k (z i)):=by
 obtain ⟨g',t',cs',fuel,p,hg',ht',hv,hd⟩:=hr;obtain rfl:=yi (hg.symm.trans hg');obtain rfl:=yi (hty.symm.trans ht');obtain ⟨cs,hb,hok⟩:=b9n hS hlt h0;rw [b9o hg hb hv] at hd;obtain ⟨a,cap,e1,hcap,hcells⟩:=open_row ht hce hd;have hl:((List.range n).map fun i=>(DataW.lit (.int k (z i)):DataW Unit)).length=n:=by simp
 rw [hl] at e1 hcap;have e2:cs=#[.slice (some a) n cap]:=by rw [← xP];exact e1
 subst e2;obtain ⟨ts,hts,_,hall⟩:=hok hbu;obtain rfl:=yi (hct.symm.trans hts);obtain ⟨u,hu,hc⟩:=hall 0 _ rfl;obtain rfl:t=u:=yi hu;unfold Cell.ok at hc;rw [ht] at hc;obtain ⟨_,_,_,hsp,row,cells,hsh,hlie⟩:=hc;obtain ⟨b,o,sp⟩:=a;have hsp:sp=none:=hsp;subst hsp;unfold World.shape? at hsh;have hcell0:=hcells;cases hbb:W.heap[b]? with
 | none=>simp only [hbb] at hsh;cases hsh
 | some ob =>
  cases ob with
  | cells cs2 el fz =>
   simp only [hbb] at hsh;obtain ⟨rfl,rfl⟩:=Prod.mk.inj (yi hsh);refine ⟨b,o,cap,⟨_,_,_,hb,hf,fun i hi=>?_⟩,cs2,el,fz,hbb,?_,fun i hi=>?_⟩
   ·obtain rfl:i=0:=by omega
    rfl
   ·cases hfx:a2o el with
    | true=>rfl
    | false =>
     have hu:∀ m u',G.P.underlying e≠some (.array m u'):=fun m u' h=>by rw [he] at h;cases h
     rw [b4i _ _ _ _ _ _ (hno el hfx) hu zo] at hlie;cases hlie
   ·obtain ⟨v,m,q,hv1,hv2⟩:=hcells i (.lit (.int k (z i))) (by simp [List.getElem?_map,List.getElem?_range hi])
    obtain ⟨z',h3,h4,_⟩:=DataW.trod_int he hv2;injection h3 with h3;injection h4 with h4;injection h4 with h4;injection h4 with _ h4;rw [E3] at hv1;unfold World.cell? at hv1;simp only [hbb] at hv1;rw [h3,← h4] at hv1;simpa using hv1
  | _=>simp only [hbb] at hsh;cases hsh
theorem c4Y (P:Nat→Prop) (h0:P 173) (h1:P 237) (h2:P 141) (h3:P 131):∀ row,a2o row=false→P row:=by
 intro row h;unfold a2o at h;have h:(Nat.beq row 173||Nat.beq row 237||Nat.beq row 141||Nat.beq row 131)=true:=by
  revert h;generalize (Nat.beq row 173||Nat.beq row 237||Nat.beq row 141||Nat.beq row 131)=q
  cases q<;>decide
 simp only [zj] at h;rcases h with ((h|h)|h)|h
 ·obtain rfl:=zu h;exact h0
 ·obtain rfl:=zu h;exact h1
 ·obtain rfl:=zu h;exact h2
 ·obtain rfl:=zu h;exact h3
theorem c4Z:∀ row,a2o row=false→a7c G.P (fun t=>sameLayout G.P G.P.depth t 194) G.P.depth row=true :=
 c4Y (fun row=>a7c G.P (fun t=>sameLayout G.P G.P.depth t 194) G.P.depth row=true) zk zk zk zk
theorem c5a:∀ row,a2o row=false→a7c G.P (fun t=>sameLayout G.P G.P.depth t 139) G.P.depth row=true :=
 c4Y (fun row=>a7c G.P (fun t=>sameLayout G.P G.P.depth t 139) G.P.depth row=true) zk zk zk zk
theorem c3D {W:World} (hS:W.ShapedOpen G.P):∃ f:Nat→Tx,a06 W 23 8 (fun i=>m9 (f i)):=by
 have h0:(match ((begin G.P (fun _ _=>0) default).world.heap[23]?).bind Obj.row? with|some x=>Nat.beq x.1.size 8&&Nat.beq x.2 394|none=>false)=true:=by kernel_rfl
 have hbu:G.P.buildable 394=true:=by kernel_rfl
 have hct:G.P.cellTypes G.P.depth 394=some (List.replicate 8 9):=by kernel_rfl
 have hus:G.P.underlying 9=some .string:=by kernel_rfl
 cases h1:((begin G.P (fun _ _=>0) default).world.heap[23]?).bind Obj.row? with
 | none=>rw [h1] at h0;cases h0
 | some x =>
  obtain ⟨zero,t⟩:=x;rw [h1] at h0;simp only [zP] at h0;obtain ⟨cs,h2,h3,hok⟩:=hS.1 _ zero t (zU zk) h1;have e1:=zu h0.1;obtain rfl:=zu h0.2;obtain ⟨ts,hts,_,hall⟩:=hok hbu;obtain rfl:=yi (hct.symm.trans hts);have key:∀ i,i<8→∃ T:Tx,cs[i]?=some (m9 T):=by
   intro i hi;have hi2:i<cs.size:=by omega
   obtain ⟨u,hu,hc⟩:=hall i cs[i] (wJ hi2);rw [List.length_replicate,xq hi,List.getElem?_replicate,zM hi] at hu;obtain rfl:=yi hu;unfold Cell.ok at hc;rw [hus] at hc;cases hv:cs[i] with
   | string s =>
    refine ⟨s.data.toList,?_⟩;rw [wJ hi2,hv];rfl
   | _=>rw [hv] at hc;exact hc.elim
  refine ⟨fun i=>if h:i<8 then (key i h).choose else [],cs,_,(0,0),h2,rfl,fun i hi=>?_⟩
  simp only [dif_pos hi];exact (key i hi).choose_spec
theorem b6H {W:World} (hS:W.ShapedOpen G.P) {l:List (String×DataW Unit)} (h:laidMet G.P l W)
  (dia:("pub-tabiya/pub/chess.bbDiagonals",Lib.tabData .u64 ((List.range 64).map fun i=>((Bb.mask 2 i:Nat):Int)))∈l)
  (anti:("pub-tabiya/pub/chess.bbAntiDiagonals",Lib.tabData .u64 ((List.range 64).map fun i=>((Bb.mask 3 i:Nat):Int)))∈l)
  (ranks:("pub-tabiya/pub/chess.bbRanks",Lib.tabData .u64 ((List.range 8).map fun i=>((Bb.mask 0 (8*i):Nat):Int)))∈l)
  (files:("pub-tabiya/pub/chess.bbFiles",Lib.tabData .u64 ((List.range 8).map fun i=>((Bb.mask 1 i:Nat):Int)))∈l)
  (kn:("pub-tabiya/pub/chess.bbKnightMoves",Lib.tabData .u64 ((List.range 64).map fun i=>((Ch.kn i:Nat):Int)))∈l)
  (kg:("pub-tabiya/pub/chess.bbKingMoves",Lib.tabData .u64 ((List.range 64).map fun i=>((Ch.kg i:Nat):Int)))∈l)
  (all:("pub-tabiya/pub/chess.allPieces",.slice ((List.range 12).map fun (i:Nat)=>.lit (.int .i8 ((i:Int)+1))) [])∈l)
  (promo:("pub-tabiya/pub/chess.promoPieceTypes",.slice ((List.range 4).map fun (i:Nat)=>.lit (.int .i8 ((i:Int)+2))) [])∈l)
  (wfen:("pub-tabiya/pub/chess.whitePiecesToFEN",Lib.tabData .u8 ((List.range 7).map fun i=>((wfenL.getD i 0:Nat):Int)))∈l)
  (bfen:("pub-tabiya/pub/chess.blackPiecesToFEN",Lib.tabData .u8 ((List.range 7).map fun i=>((bfenL.getD i 0:Nat):Int)))∈l)
  (fen:("pub-tabiya/pub/chess.fenCharToPiece",Lib.tabData .i8 ((List.range 128).map fun i=>(a3g i)))∈l)
  (spc:("strings.asciiSpace",Lib.tabData .u8 Lib.asciiSpaceTab)∈l) (pow:("internal/strconv.uint64pow10",Lib.tabData .u64 Lib.pow10Tab)∈l):D5 W∧Spc W∧Pow W:=by
 refine ⟨⟨?_,?_,?_,?_,?_,?_,?_,?_,?_,?_,?_,c3D hS⟩,?_,?_⟩
 ·exact a1k hS (ty:=282) (t:=282) (e:=235) zk (zU zk) zk rfl zk zk zk zk zk (Lib.laidMet.reads h dia)
 ·exact a1k hS (ty:=282) (t:=282) (e:=235) zk (zU zk) zk rfl zk zk zk zk zk (Lib.laidMet.reads h anti)
 ·exact a1k hS (ty:=326) (t:=326) (e:=235) zk (zU zk) zk rfl zk zk zk zk zk (Lib.laidMet.reads h ranks)
 ·exact a1k hS (ty:=326) (t:=326) (e:=235) zk (zU zk) zk rfl zk zk zk zk zk (Lib.laidMet.reads h files)
 ·exact a1k hS (ty:=282) (t:=282) (e:=235) zk (zU zk) zk rfl zk zk zk zk zk (Lib.laidMet.reads h kn)
 ·exact a1k hS (ty:=282) (t:=282) (e:=235) zk (zU zk) zk rfl zk zk zk zk zk (Lib.laidMet.reads h kg)
 ·exact b54 hS (ty:=243) (t:=243) (e:=194) zk (zU zk) zk rfl zk zk zk zk zk zk zd c4Z (Lib.laidMet.reads h all)
 ·exact b54 hS (ty:=291) (t:=291) (e:=139) zk (zU zk) zk rfl zk zk zk zk zk zk zd c5a (Lib.laidMet.reads h promo)
 ·exact a1k hS (ty:=300) (t:=300) (e:=5) zk (zU zk) zk rfl zk zk zk zk zk (Lib.laidMet.reads h wfen)
 ·exact a1k hS (ty:=300) (t:=300) (e:=5) zk (zU zk) zk rfl zk zk zk zk zk (Lib.laidMet.reads h bfen)
 ·exact a1k hS (ty:=316) (t:=316) (e:=194) zk (zU zk) zk rfl zk zk zk zk zk (Lib.laidMet.reads h fen)
 ·exact b2G (g:=1) (t:=269) (n:=256) (e:=5) zk zk zk zk zk zk (Lib.laidMet.reads h spc)
 ·exact b2G (g:=16) (t:=354) (n:=20) (e:=234) zk zk zk zk zk zk (Lib.laidMet.reads h pow)
theorem a9s {H:Type} {enc:TypeId×Value→H} {a:Assume} {C:Checked} {os:Os} {f:FuncId} {fn:Func} {s:ChangeSpec} {conds:List PathCond} {apart fresh handsOn again:Bool} {X:World→Array Value→Prop}
  (hX:∀ (w w':World) (args:Array Value),w.heap=w'.heap→X w args→X w' args)
  (own:ownKnob C.prog.godebug=none) (started:os.Started) (noInit:C.prog.inits.idxOf? f=none) (hfn:C.prog.funcs[f]?=some fn)
  (witness:∃ (w:World) (tape:Tape) (i:Input),w.os=os∧(w.forCall tape i).Shaped C.prog∧i.vars=[]∧Input.okWide C.prog (w.forCall tape i) .any w.heap.size f i ∧
   ((s.pre enc C.prog fn conds apart (w.forCall tape i).memory i.args∧X (w.forCall tape i).memory i.args)∧sizedMet enc C.prog fn (OpenSpec.ofChange s) apart (w.forCall tape i).memory i.args)∧a.holds C.prog (lone (Frame.enter C.prog f i.args .normal) [] (w.forCall tape i)))
  (contract:∀ (W:World) (base:Nat) (args:Array Value) (ds gs:List (DataW H)) (before:List MemPlace),W.ShapedOpen C.prog →
   (∀ (j:Nat) t v,fn.params[j]?=some t→args[j]?=some v→Value.okWide C.prog W .any base t v) →
   DataW.Whole enc C.prog fn.params.toList s.vars apart W args.toList ds gs before→X W args →
   Calls C.prog f args W fun e W'=>∃ v,e = .returned v∧s.post enc C.prog fn apart fresh handsOn again W args v W') :
  ReturnsInHanded a C os f .any (fun w args=>(s.pre enc C.prog fn conds apart w args∧X w args)∧sizedMet enc C.prog fn (OpenSpec.ofChange s) apart w args) (s.post enc C.prog fn apart fresh handsOn again):=by
 refine returnsInHanded_of_calls own started noInit witness ?_;intro w tape i _ hsh _ hok hpre _;obtain ⟨_,_,_,fn',hfn',_,_,_,_,hval⟩:=hok;have e:fn'=fn:=yi (hfn'.symm.trans hfn);subst e;obtain ⟨⟨⟨ds,gs,before,hw,_⟩,hx⟩,_⟩:=hpre;have hw':=DataW.Whole.of_heap (w':=w.forCall tape i) (by rfl) hw
 refine (contract (w.forCall tape i) w.heap.size i.args ds gs before hsh hval hw' (hX _ _ _ (by rfl) hx)).mono fun e W' ⟨v,he,hp⟩=>?_
 subst he;exact ChangeSpec.post_blind hp
end
section
open Go Go.RowKit Go.Deep Go.ChangeShapes Go.WideShapes
open E
theorem b6I {W:World} {r:Reach} {b t:Nat} {k:IntKind} {v:Value} (ht:G.P.underlying t=some (.int k)) (h:Cell.okWide G.P W r b t v):∃ n,v = .int k n∧k.has n:=by
 unfold Cell.okWide Cell.ok at h;cases v<;>simp [ht] at h;rename_i k' n;obtain ⟨rfl,h⟩:=h;exact ⟨n,rfl,h⟩
theorem c1H {l:List Value} {k:IntKind}:(∀ (i:Nat) (v:Value),l[i]?=some v→∃ n,v=Value.int k n)→∃ zs:List Int,l=zs.map (Value.int k):=by
 induction l with
 | nil=>intro _;exact ⟨[],rfl⟩
 | cons v r ih =>
  intro h;obtain ⟨n,rfl⟩:=h 0 v rfl;obtain ⟨zs,rfl⟩:=ih (fun i v hv=>h (i+1) v (by simpa using hv))
  exact ⟨n::zs,rfl⟩
theorem c1I {zs:List Int} (h:zs.length=69):∃ s:l9,(zs.map (Value.int .i64)).toArray=s7 s:=by
 refine ⟨{ board:=zs.take 64,len:=by simp [h],turn:=zs.getD 64 0,castle:=zs.getD 65 0,ep:=zs.getD 66 0,half:=zs.getD 67 0,full:=zs.getD 68 0 },?_⟩
 unfold s7 V0;congr 1;have:zs=zs.take 64++[zs.getD 64 0,zs.getD 65 0,zs.getD 66 0,zs.getD 67 0,zs.getD 68 0]:=by
  apply List.ext_getElem
  ·simp [h]
  ·intro i h1 h2;by_cases hi:i<64
   ·rw [List.getElem_append_left (by simp [h];exact hi)]
    simp
   ·rw [wH (by simp [h];omega)]
    have hh:(zs.take 64).length=64:=by simp [h]
    simp only [hh];have:i=64∨i=65∨i=66∨i=67∨i=68:=by omega
    rcases this with rfl|rfl|rfl|rfl|rfl<;>simp [yr,h1]
 conv=>lhs;rw [this]
 rw [List.map_append];rfl
theorem b9p {W:World} {r:Reach} {b:Nat} {v:Value} (h:Value.okWide G.P W r b 24 v):∃ s:l9,v=D3 s:=by
 obtain ⟨f,hu,_⟩:=a1z (G.tab 24 _ (show U5 G.T 24=some (.struct 69 _) from rfl));unfold Value.okWide at h;rw [hu] at h;obtain ⟨cs,rfl,hs,ts,hts,_,hall⟩:=h;have e1:G.P.cellTypes G.P.depth 24=some (List.replicate 69 3):=by kernel_rfl
 obtain rfl:=yi (e1.symm.trans hts);have e2:G.P.cellsOf 24=69:=by kernel_rfl
 have e3:G.P.underlying 3=some (.int .i64):=by kernel_rfl
 rw [e2] at hs;obtain ⟨zs,hz⟩:=c1H (l:=cs.toList) (k:=.i64) (fun i v hv=>by
  obtain ⟨u,hu,hc⟩:=hall i v (by simpa using hv)
  rw [List.getElem?_replicate] at hu;split at hu
  ·obtain rfl:=yi hu;obtain ⟨n,h1,_⟩:=b6I e3 hc;exact ⟨n,h1⟩
  ·cases hu)
 obtain ⟨s,hs2⟩:=c1I (zs:=zs) (by have:=yH List.length hz;simpa [hs] using this.symm)
 refine ⟨s,?_⟩;unfold D3;rw [← hs2,← hz]
theorem c3E {n:Int} (h:(Lit.int .i64 n).wf=true):I64 n:=by
 have e1:IntKind.i64.min=-9223372036854775808:=by decide
 have e2:IntKind.i64.max=9223372036854775807:=by decide
 simp [Lit.wf,e1,e2] at h;exact ⟨zo,zo⟩
theorem b4j {H:Type} {enc:TypeId×Value→H} {W:World} {b base:Nat} {sp:Nat→Bool} {hd:Bool} {v:Value} {d:DataW H} {ps:List MemPlace} (h:Value.okWide G.P W .any b 25 v) (hr:DataW.Trod enc G.P W base sp hd 25 v d ps) :
  ∃ ms:List Mv,a3E W v ms∧∀ m∈ms,MvR m:=by
 have e1:G.P.underlying 25=some (.slice 36):=by kernel_rfl
 have e2:G.P.cellsOf 36=3:=by kernel_rfl
 have e3:G.P.underlying 3=some (.int .i64):=by kernel_rfl
 have e4:G.P.cellsOf 3=1:=by kernel_rfl
 obtain ⟨f,hu,_,hf,_⟩:=a1z (G.tab 36 _ (show U5 G.T 36=some (.struct 3 _) from rfl));have hf2:f.toList.map (fun x=>(x.type,x.offset))=[(3,0),(3,1),(3,2)]:=hf;have hfs:f.size=3:=by have:=yH List.length hf2;simpa using this
 have hfi:∀ i (hi:i<3),f[i].type=3∧f[i].offset=i:=fun i hi=>by
  have:=yH (fun l=>l[i]?) hf2;simp only [List.getElem?_map] at this;rw [ym (by simp [hfs];exact hi)] at this
  simp only [wM,Array.getElem_toList] at this;have h3:i=0∨i=1∨i=2:=by omega
  rcases h3 with rfl|rfl|rfl<;>simpa using this
 obtain ⟨fuel,hr⟩:=hr;unfold Value.okWide at h;rw [e1] at h;have hv:∃ oa len cap,v = .slice oa len cap:=by
  unfold Cell.okWide Cell.ok at h;cases v<;>simp [e1] at h;exact ⟨_,_,_,rfl⟩
 obtain ⟨oa,len,cap,rfl⟩:=hv;rcases open_slice e1 hr with ⟨h1,_⟩|⟨a,len',cap',m,n,D,Pl,h1,_,hl,hm,hmm,_,hx⟩
 ·obtain ⟨rfl,rfl,rfl⟩:oa=none∧len=0∧cap=0:=by simpa [Value.cells] using h1
  exact ⟨[],⟨none,0,rfl,fun h=>absurd h zd⟩,fun m hm=>by cases hm⟩
 ·obtain ⟨rfl,rfl,rfl⟩:oa=some a∧len=len'∧cap=cap':=by simpa [Value.cells] using h1
  unfold Cell.okWide Cell.ok at h;rw [e1] at h;obtain ⟨_,_,_,hsp,row,cells,hsh,_⟩:=h;obtain ⟨g,o,spo⟩:=a;obtain rfl:spo=none:=hsp;unfold World.shape? at hsh;cases hbb:W.heap[g]? with
  | none=>simp only [hbb] at hsh;cases hsh
  | some ob =>
   cases ob with
   | cells cs2 el fz =>
    have hlm:len≤m:=by rw [hmm];split<;>omega
    have key:∀ i,i<len→∃ mv:Mv,MvR mv∧o+i*3+3≤cs2.size∧cs2.extract (o+i*3) (o+i*3+3)=S8 mv:=by
     intro i hi;obtain ⟨cs',hc1,hc2⟩:=hx i zo;obtain ⟨_,hlen,hcell⟩:=World.cells?_some hc1;rw [e2] at hlen hcell;obtain ⟨xs,n',_,_,_,hxl,hall⟩:=DataW.trod_struct hu hc2;have hz:∀ j,j<3→∃ z,cs2[o+i*3+j]?=some (Value.int .i64 z)∧I64 z:=by
      intro j hj;obtain ⟨t1,t2⟩:=hfi j hj;have h2:=hall j f[j] (by simp [hfs,hj])
      rw [t1,t2,e4,ym zo] at h2;obtain ⟨z,h3,_,h4⟩:=DataW.trod_int e3 h2;have h5:cs'[j]?=some (Value.int .i64 z):=by
       have:=yH (·[0]?) h3;simpa [xe,List.getElem?_drop] using this
      have h6:=hcell j hj;rw [h5,E3,E3] at h6;unfold World.cell? at h6;simp only [hbb] at h6;exact ⟨z,by simpa using h6,c3E h4⟩
     obtain ⟨z0,p0,r0⟩:=hz 0 zd;obtain ⟨z1,p1,r1⟩:=hz 1 zd;obtain ⟨z2,p2,r2⟩:=hz 2 zd;have hsz:=(yh.1 p2).1;refine ⟨⟨z0,z1,z2⟩,⟨r0,r1,r2⟩,zo,?_⟩;apply Array.ext
     ·simp [S8];omega
     ·intro j h1 h2;have h3:j=0∨j=1∨j=2:=by simp [S8] at h2;omega
      rw [Array.getElem_extract];rcases h3 with rfl|rfl|rfl
      ·exact (yh.1 p0).2
      ·exact (yh.1 p1).2
      ·exact (yh.1 p2).2
    have:Inhabited Mv:=⟨⟨0,0,0⟩⟩;obtain ⟨F,hF⟩:=choose_lt key;refine ⟨(List.range len).map F,⟨some ⟨g,o,none⟩,cap,by simp,fun _=>⟨g,o,cs2,el,fz,rfl,hbb,fun i hi=>?_⟩⟩,fun mv hmv=>?_⟩
    ·have hi2:i<len:=by simpa using hi
     obtain ⟨_,h7,h8⟩:=hF i hi2;exact ⟨h7,by simpa using h8⟩
    ·obtain ⟨i,hi,rfl⟩:=xJ.1 hmv;exact (hF i (yl.1 hi)).1
   | _=>simp only [hbb] at hsh;cases hsh
end
section
open Go Go.RowKit
open E
structure EnT where
 k:Tx
 v:Tx
 n:Nat
def a3e (x:EnT):MapEntry:=⟨m9 x.k,m9 x.v,x.n⟩
def a1M (l:List EnT) (c:Nat):Obj:=.map (l.map (a3e)).toArray c
structure a5b (t k e:Nat):Prop where
 ty:G.P.underlying t=some (.map k e)
 kt:G.P.underlying k=some .string
 zt:(G.P.info? e).bind (·.zero)=some (m9 [])
def a0P (key:Tx):List EnT→Nat→Option (Nat×Tx)
 | [],_=>none
 | x::r,i=>if key=x.k then some (i,x.v) else a0P key r (i+1)
def O6 (l:List EnT) (key:Tx):Option Tx:=(a0P key l 0).map (·.2)
def a1N (key v:Tx):List EnT→List EnT
 | []=>[]
 | x::r=>if key=x.k then ⟨key,v,x.n⟩::r else x::a1N key v r
def a1O (l:List EnT) (key v:Tx) (c:Nat):List EnT:=if (O6 l key).isSome then a1N key v l else l++[⟨key,v,c⟩]
def a4A (l:List EnT) (key:Tx) (c:Nat):Nat:=if (O6 l key).isSome then c else c+1
theorem a4s (key:Tx):∀ (l:List EnT) (i:Nat),a0P key l i=(a0P key l 0).map fun y=>(i+y.1,y.2)
 | [],_=>rfl
 | x::r,i=>by
  by_cases h:key=x.k
  ·simp [a0P,h]
  ·simp only [a0P,zJ h];rw [a4s key r (i+1),a4s key r (0+1),Option.map_map];congr 1;funext y;simp only [Function.comp];rw [show i+(0+1+y.1)=i+1+y.1 by omega]
theorem b0h (key:Tx):O6 [] key=none:=rfl
theorem R7 (x:EnT) (r:List EnT) (key:Tx):O6 (x::r) key=if key=x.k then some x.v else O6 r key:=by
 unfold O6;by_cases h:key=x.k
 ·simp [a0P,h]
 ·simp only [a0P,zJ h];rw [a4s key r (0+1),Option.map_map];rfl
theorem b0i (key k v:Tx) (c:Nat):∀ l:List EnT,O6 (l++[⟨k,v,c⟩]) key=(O6 l key).or (if key=k then some v else none)
 | []=>by rw [yM,R7,b0h];rfl
 | x::r=>by
  rw [yU,R7,R7];split
  ·rfl
  ·exact b0i key k v c r
theorem b0j (key v k:Tx):∀ l:List EnT,(O6 l key).isSome=true→O6 (a1N key v l) k=if k=key then some v else O6 l k
 | [],h=>by cases h
 | x::r,h=>by
  rw [R7] at h;rw [a1N];by_cases hx:key=x.k
  ·rw [zM hx,R7,R7];by_cases hk:k=key
   ·rw [zM hk,zM hk]
   ·rw [zJ hk,zJ hk,zJ (by rw [← hx];exact hk)]
  ·rw [zJ hx] at h ⊢;rw [R7,R7,b0j key v k r h];by_cases hk:k=key
   ·subst hk;rw [zJ hx,zM rfl,zM rfl]
   ·simp only [zJ hk]
theorem b6J (l:List EnT) (key v:Tx) (c:Nat) (k:Tx):O6 (a1O l key v c) k=if k=key then some v else O6 l k:=by
 unfold a1O;split
 ·rename_i h;exact b0j key v k l h
 ·rename_i h;rw [b0i];by_cases hk:k=key
  ·have:O6 l key=none:=by cases e:O6 l key with|none=>rfl|some _=>rw [e] at h;exact absurd rfl h
   subst hk;rw [this,zM rfl];rfl
  ·rw [zJ hk,zJ hk];cases O6 l k<;>rfl
theorem b6K {l:List EnT} {key v:Tx} {c:Nat} (h:O6 l key=none):a1O l key v c=l++[⟨key,v,c⟩]∧a4A l key c=c+1:=by
 unfold a1O a4A;rw [h];exact ⟨rfl,rfl⟩
theorem b9q (a b:Tx):(tx a==tx b)=decide (a=b):=by
 show ((tx a).data==(tx b).data)=_;by_cases h:a=b
 ·subst h;rw [zX rfl];exact beq_self_eq_true _
 ·rw [zV h];exact beq_eq_false_iff_ne.2 fun e=>h (P8.1 (ByteArray.ext e))
theorem b9r (a b:Tx):Instr.sameNow .string (m9 a) (m9 b)=some (decide (a=b)):=by
 show some (tx a==tx b)=_;rw [b9q]
theorem a2t (key:Tx):∀ (l:List EnT) (i:Nat),Instr.findNow .string (m9 key) (l.map (a3e)) i=some ((a0P key l i).map fun y=>(y.1,m9 y.2))
 | [],_=>rfl
 | x::r,i=>by
  rw [yQ,Instr.findNow,show (a3e x).key=m9 x.k from rfl,b9r];by_cases h:key=x.k
  ·rw [zX h,a0P,zM h];rfl
  ·rw [zV h,a0P,zJ h];exact a2t key r (i+1)
theorem b0k {key:Tx}:∀ {l:List EnT} {i:Nat} {u:Tx},a0P key l 0=some (i,u)→(l.map (a3e))[i]?.map (·.key)=some (m9 key) ∧
   (∀ v:Tx,(l.map (a3e)).modify i (fun e=>{ e with key:=m9 key,val:=m9 v })=(a1N key v l).map (a3e))
 | [],_,_,h=>by cases h
 | x::r,i,u,h=>by
  by_cases hk:key=x.k
  ·simp only [a0P,zM hk] at h;injection h with h;injection h with h1 h2;subst h1;refine ⟨by simp [a3e,hk],fun v=>?_⟩
   simp [a1N,hk,a3e]
  ·simp only [a0P,zJ hk] at h;rw [a4s] at h;cases hl:a0P key r 0 with
   | none=>rw [hl] at h;cases h
   | some y =>
    obtain ⟨j,u'⟩:=y;rw [hl] at h;injection h with h;injection h with h1 h2;obtain ⟨a1,a2⟩:=b0k hl;have h1:i=j+1:=by omega
    subst h1;refine ⟨by simpa using a1,fun v=>?_⟩
    rw [yQ,List.modify_succ_cons,a2 v,a1N,zJ hk,yQ]
section runs
variable {t k e:Nat} {w:World} {l:List EnT} {c b:Nat} {key:Tx}
theorem b2H (M:a5b t k e) (em:Bool):(Instr.checkKey em 10000 k (m9 key)).run G.P w = .ok () w :=
 MapKept.run_checkKey (n:=9999) M.kt (by exact True.intro) em
theorem b6L (M:a5b t k e) (ok:Bool) (hb:w.heap[b]?=some (a1M l c)) :
  (Instr.lookup t (.map (some b)) (m9 key) ok).run G.P w = .ok (if ok then .tuple #[m9 ((O6 l key).getD []),.bool (O6 l key).isSome] else m9 ((O6 l key).getD [])) w:=by
 have h1:=b2H (w:=w) (key:=key) M;have h2:=MapKept.run_findKey (w:=w) M.kt (a2t key l 0);have h3:(zeroValue e).run G.P w = .ok (m9 []) w:=by
  have hz:=M.zt;cases hi:G.P.info? e with
  | none=>rw [hi] at hz;cases hz
  | some i=>rw [hi] at hz;unfold zeroValue typeInfo;simp at hz;simp [hi,hz]
 unfold Instr.lookup O6;cases hl:a0P key l 0 with
 | none =>
  rw [hl] at h2;simp [run_underlying M.ty,MapKept.run_getObj_map hb,h1,h2,h3]
 | some y =>
  rw [hl] at h2;simp [run_underlying M.ty,MapKept.run_getObj_map hb,h1,h2]
theorem b9s (M:a5b t k e) (v:Tx) (hb:w.heap[b]?=some (a1M l c)) :
  ∃ w',(Instr.mapUpdate t (.map (some b)) (m9 key) (m9 v)).run G.P w = .ok () w'∧Upd w b (a1M (a1O l key v c) (a4A l key c)) w':=by
 have h1:=b2H (w:=w) (key:=key) M;have h2:=MapKept.run_findKey (w:=w) M.kt (a2t key l 0);refine ⟨_,?_,a4n hb _⟩;unfold Instr.mapUpdate a1O a4A O6;cases hl:a0P key l 0 with
 | none =>
  rw [hl] at h2;simp [run_underlying M.ty,MapKept.run_getObj_map hb,h1,h2,MapKept.run_setObj_map _ hb,a1M,a3e]
 | some y =>
  obtain ⟨i,u⟩:=y;rw [hl] at h2;obtain ⟨a1,a2⟩:=b0k hl;have hs:(Instr.keyThatStays (m9 key) (m9 key)).run G.P w = .ok (m9 key) w:=by
   unfold Instr.keyThatStays;rw [show Instr.sameBits 10000 (m9 key) (m9 key)=true from ((b9q key key).trans (zX rfl))];rfl
  have a2:=a2 v;have hb:w.heap[b]?=some (.map (l.map (a3e)).toArray c):=hb;have hgoal:a1M (a1N key v l) c = .map ((a1N key v l).map (a3e)).toArray c:=rfl;rw [← a2] at hgoal;generalize l.map (a3e)=E at *;have hk:(Option.map (fun x=>x.key) E[i]?).getD (m9 key)=m9 key:=by rw [a1];rfl
  simp [run_underlying M.ty,MapKept.run_getObj_map hb,h1,h2,hk,hs,MapKept.run_setObj_map _ hb,hgoal]
end runs
structure a9t (w:World) (b r:Nat) (l:List EnT) (c:Nat) (rem:List EnT):Prop where
 hb:w.heap[b]?=some (a1M l c)
 hr:∃ seen s c0,w.heap[r]?=some (.mapIter (some b) s seen c0)∧rem=l.filter (fun x=>!seen.contains x.n)∧(∀ x∈l,x.n<s)∧s≤c0∧s≤c
 nd:(l.map (·.n)).Nodup
structure b9t (w:World) (b r:Nat) (l:List EnT) (c:Nat) (x:EnT):Prop where
 hb:w.heap[b]?=some (a1M l c)
 hr:∃ (seen:Array Nat) (s:Nat),w.heap[r]?=some (.mapIter (some b) s (seen.push x.n) c)
 nd:(l.map (·.n)).Nodup
 mem:x∈l
theorem a9t.kp {w w':World} {b r c:Nat} {l rem:List EnT} (h:a9t w b r l c rem) (h1:∀ o,w.heap[b]?=some o→w'.heap[b]?=some o) (h2:∀ o,w.heap[r]?=some o→w'.heap[r]?=some o):a9t w' b r l c rem:=by
 obtain ⟨hb,⟨seen,s,c0,hr,h3⟩,nd⟩:=h;exact ⟨h1 _ hb,⟨seen,s,c0,h2 _ hr,h3⟩,nd⟩
theorem b9t.kp {w w':World} {b r c:Nat} {l:List EnT} {x:EnT} (h:b9t w b r l c x) (h1:∀ o,w.heap[b]?=some o→w'.heap[b]?=some o) (h2:∀ o,w.heap[r]?=some o→w'.heap[r]?=some o):b9t w' b r l c x:=by
 obtain ⟨hb,⟨seen,s,hr⟩,nd,hm⟩:=h;exact ⟨h1 _ hb,⟨seen,s,h2 _ hr⟩,nd,hm⟩
theorem a9t.step {w w':World} {b r c:Nat} {l rem:List EnT} (h:a9t w b r l c rem) (hc:Cl w w'):a9t w' b r l c rem:=h.kp (fun _ h=>hc.blk h) (fun _ h=>hc.blk h)
theorem a9u {P:Nat→Bool} {l:List EnT} (hn:(l.map (·.n)).Nodup) {x:EnT} (hx:x∈l.filter fun y=>P y.n) :
  ∃ r1 r2,l.filter (fun y=>P y.n)=r1++x::r2∧l.filter (fun y=>P y.n && !(y.n==x.n))=r1++r2:=by
 obtain ⟨r1,r2,h⟩:=List.append_of_mem hx;refine ⟨r1,r2,h,?_⟩;have hn2:((l.filter fun y=>P y.n).map (·.n)).Nodup:=(List.Sublist.map _ List.filter_sublist).nodup hn;have e:l.filter (fun y=>P y.n && !(y.n==x.n))=(l.filter fun y=>P y.n).filter fun y=>!(y.n==x.n):=by
  rw [List.filter_filter];congr 1;funext y;exact Bool.and_comm _ _
 rw [e,h];rw [h,List.map_append,yQ,List.nodup_append] at hn2;obtain ⟨a1,a2,a3⟩:=hn2;rw [List.nodup_cons] at a2;rw [List.filter_append,List.filter_cons];have k1:r1.filter (fun y=>!(y.n==x.n))=r1:=List.filter_eq_self.2 fun y hy=>by
  have:=a3 y.n (xJ.2 ⟨y,hy,rfl⟩) x.n (yX ..);simp [this]
 have k2:r2.filter (fun y=>!(y.n==x.n))=r2:=List.filter_eq_self.2 fun y hy=>by
  have:y.n≠x.n:=fun e=>a2.1 (by rw [← e];exact xJ.2 ⟨y,hy,rfl⟩)
  simp [this]
 rw [k1,k2];simp
section gens
variable {t k e:Nat} {w:World} {l:List EnT} {c b:Nat} {dst:Option Nat} {ty:Nat} {pos:String} {af:Array Edge} {gd:Option (Nat×Bool)} {env:C8} {K:Value→World→Prop}
theorem b9u (M:a5b t k e) {m x:Operand} {key:Tx} (hm:ev env m = .map (some b)) (hx:ev env x=m9 key) (hb:w.heap[b]?=some (a1M l c)) (h:K (.tuple #[m9 ((O6 l key).getD []),.bool (O6 l key).isSome]) w) :
  H4 G.P { dst,op:=.lookup t m x true,type:=ty,pos,after:=af,guard:=gd } env w K:=by
 refine ⟨.inl ⟨_,_,?_,h⟩⟩;show (do pure (Next.value (← Instr.lookup t (ev env m) (ev env x) true)):Sem Next).run G.P w=_
 rw [hm,hx,yj,b6L M true hb];rfl
theorem b2I (M:a5b t k e) {m x y:Operand} {key v:Tx} (hm:ev env m = .map (some b)) (hx:ev env x=m9 key) (hy:ev env y=m9 v) (hb:w.heap[b]?=some (a1M l c))
  (h:∀ w',Upd w b (a1M (a1O l key v c) (a4A l key c)) w'→K undef w'):H4 G.P { dst,op:=.mapUpdate t m x y,type:=ty,pos,after:=af,guard:=gd } env w K:=by
 obtain ⟨w',h1,h2⟩:=b9s M (key:=key) v hb;refine ⟨.inr (.inl ⟨_,?_,h w' h2⟩)⟩;show (do Instr.mapUpdate t (ev env m) (ev env x) (ev env y);pure Next.skip:Sem Next).run G.P w=_
 rw [hm,hx,hy,yj,h1];rfl
theorem b4k (M:a5b t k e) {m:Operand} (hm:ev env m = .map (some b)) (hb:w.heap[b]?=some (a1M l c)) (hn:(l.map (·.n)).Nodup) (hc:∀ x∈l,x.n<c)
  (h:∀ w',Cl w w'→w'.heap.size=w.heap.size+1→a9t w' b w.heap.size l c l→K (.pointer (some ⟨w.heap.size,0,none⟩)) w'):H4 G.P { dst,op:=.range t m,type:=ty,pos,after:=af,guard:=gd } env w K:=by
 have h1:=run_range_map (P:=G.P) w t k e b _ _ M.ty hb;refine ⟨.inl ⟨_,_,?_,h _ (Cl.alloc w _) (B0 _ _) ⟨(Cl.alloc w _).blk hb,⟨#[],c,c,d9 _ _,(List.filter_eq_self.2 (fun x _=>by simp)).symm,hc,yJ _,yJ _⟩,hn⟩⟩⟩
 show (do pure (Next.value (← Instr.range t (ev env m))):Sem Next).run G.P w=_
 rw [hm,yj,h1];rfl
theorem b6M {it:Operand} {r:Nat} {rem:List EnT} (hit:ev env it = .pointer (some ⟨r,0,none⟩)) (hI:a9t w b r l c rem)
  (h0:rem=[]→K (.tuple #[.bool false]) w)
  (h1:∀ r1 x r2 w',rem=r1++x::r2→Tn r w w'→a9t w' b r l c (r1++r2)→b9t w' b r l c x→K (.tuple #[.bool true,m9 x.k,m9 x.v]) w') :
  H4 G.P { dst,op:=.next it false,type:=ty,pos,after:=af,guard:=gd } env w K:=by
 obtain ⟨hb,⟨seen,s,c0,hr,hrem,hold,hs,hsc⟩,nd⟩:=hI;have hmem:∀ x∈(l.map (a3e)).toArray.toList,x.born<s:=fun x hx=>by
  obtain ⟨y,hy,rfl⟩:=xJ.1 (by simpa using hx)
  exact hold y hy
 have hleft:(leftOf (l.map (a3e)).toArray seen).toList=rem.map (a3e):=by
  rw [hrem];simp only [leftOf,List.filter_toArray,List.filter_map];rfl
 have hne:r≠b:=fun e=>by rw [e,hb] at hr;cases hr
 rcases run_next_at (P:=G.P) w ty r b s c0 seen _ c hr hb hmem hs with ⟨hz,hrun⟩|⟨y,hy,w1,hw1,hrun⟩
 ·have:rem=[]:=by
   have:=yH List.length hleft;rw [Array.length_toList,hz,yc] at this;exact List.length_eq_zero_iff.1 this.symm
  refine ⟨.inl ⟨_,_,?_,h0 this⟩⟩;show (do pure (Next.value (← Instr.next (ev env it) false ty)):Sem Next).run G.P w=_
  rw [hit,yj,hrun];rfl
 ·rw [hleft] at hy;obtain ⟨x,hx,rfl⟩:=xJ.1 hy;have hx2:=hx;rw [hrem] at hx2;obtain ⟨r1,r2,e1,e2⟩:=a9u (P:=fun n=>!seen.contains n) nd hx2;have hr1:w1.heap[r]?=some (.mapIter (some b) s seen c0):=by rcases hw1 with rfl|rfl<;>exact hr
  have hb1:w1.heap[b]?=some (a1M l c):=by rcases hw1 with rfl|rfl<;>exact hb
  have u:=a4n hr1 (.mapIter (some b) s (seen.push x.n) c);have tn:Tn r w (ChangeMaps.setBlock w1 r (.mapIter (some b) s (seen.push x.n) c)):=by
   have t1:Tn r w w1:=by
    rcases hw1 with rfl|rfl
    ·exact Tn.refl _ _
    ·exact Tn.cl (Cl.drew (Cl.refl _))
   exact t1.trans (Tn.upd u)
  refine ⟨.inl ⟨_,_,?_,h1 r1 x r2 _ (hrem.trans e1) tn ⟨(Tn.upd u).blk hb1 (wG hne),⟨seen.push x.n,s,c,u.at_,?_,hold,hsc,hsc⟩,nd⟩ ⟨(Tn.upd u).blk hb1 (wG hne),⟨seen,s,u.at_⟩,nd,(xW.1 hx2).1⟩⟩⟩
  ·show (do pure (Next.value (← Instr.next (ev env it) false ty)):Sem Next).run G.P w=_
   rw [hit,yj,hrun];rfl
  ·rw [← e2];congr 1;funext y;by_cases h:y.n=x.n<;>simp [Array.contains_push,h]
theorem b4l {it:Operand} {r:Nat} {x:EnT} (hit:ev env it = .pointer (some ⟨r,0,none⟩)) (hE:b9t w b r l c x) (h:K (.tuple #[m9 x.k,m9 x.v]) w) :
  H4 G.P { dst,op:=.entry it,type:=ty,pos,after:=af,guard:=gd } env w K:=by
 obtain ⟨hb,⟨seen,s,hr⟩,nd,hm⟩:=hE;have h1:=run_entry_at (P:=G.P) w r b s seen _ c (a3e x) hr hb (by simpa using xJ.2 ⟨x,hm,rfl⟩) (by
  have e:((l.map (a3e)).toArray.toList.map (·.born))=l.map (·.n):=by simp [a3e,Function.comp_def]
  rw [e];exact nd)
 refine ⟨.inl ⟨_,_,?_,h⟩⟩;show (do pure (Next.value (← Instr.entry (ev env it))):Sem Next).run G.P w=_
 rw [hit,yj,h1];rfl
end gens
theorem b0l:∀ x:Tx,Op.bytesLess x x=false
 | []=>rfl
 | a::x=>by
  rw [Op.bytesLess,b0l x];simp [UInt8.lt_irrefl]
theorem b55 (a b:UInt8) (x y:Tx):Op.bytesLess (a::x) (b::y)=true↔a<b∨(a=b∧Op.bytesLess x y=true):=by
 rw [Op.bytesLess];simp
theorem b2J:∀ x y z:Tx,Op.bytesLess x y=true→Op.bytesLess y z=true→Op.bytesLess x z=true
 | [],[],_,h,_=>by cases h
 | [],_::_,[],_,h=>by cases h
 | [],_::_,_::_,_,_=>rfl
 | _::_,[],_,h,_=>by cases h
 | _::_,_::_,[],_,h=>by cases h
 | a::x,b::y,c::z,h,h'=>by
  rw [b55] at h h' ⊢;rcases h with h|⟨h,h2⟩
  ·rcases h' with h'|⟨h',_⟩
   ·exact .inl (UInt8.lt_trans h h')
   ·subst h';exact .inl h
  ·subst h;rcases h' with h'|⟨h',h3⟩
   ·exact .inl h'
   ·exact .inr ⟨h',b2J x y z h2 h3⟩
theorem b4m:∀ x y:Tx,Op.bytesLess x y=false→Op.bytesLess y x=false→x=y
 | [],[],_,_=>rfl
 | [],_::_,h,_=>by cases h
 | _::_,[],_,h=>by cases h
 | a::x,b::y,h,h'=>by
  have h1:¬ (Op.bytesLess (a::x) (b::y)=true):=by rw [h];exact Bool.false_ne_true
  have h2:¬ (Op.bytesLess (b::y) (a::x)=true):=by rw [h'];exact Bool.false_ne_true
  rw [b55] at h1 h2;have e:a=b:=by
   rcases UInt8.lt_or_lt_of_ne (a:=a) (b:=b) |> fun f=>Classical.em (a=b) with e|e
   ·exact e
   ·rcases UInt8.lt_or_lt_of_ne e with e|e
    ·exact absurd (.inl e) h1
    ·exact absurd (.inl e) h2
  subst e;rw [b4m x y (by cases hh:Op.bytesLess x y;rfl;exact absurd (.inr ⟨rfl,hh⟩) h1) (by cases hh:Op.bytesLess y x;rfl;exact absurd (.inr ⟨rfl,hh⟩) h2)]
def sevenT:List Tx:=[[69,118,101,110,116],[83,105,116,101],[68,97,116,101],[82,111,117,110,100],[87,104,105,116,101],[66,108,97,99,107],[82,101,115,117,108,116]]
def rankT (k:Tx):Nat:=sevenT.findIdx fun x=>decide (x=k)
def G1 (a b:Tx):Bool:=decide (rankT a<rankT b)||(decide (rankT a=rankT b)&&Op.bytesLess a b)
theorem a08 (a b:Tx):G1 a b=true↔rankT a<rankT b∨(rankT a=rankT b∧Op.bytesLess a b=true):=by simp [G1]
theorem a1l (a:Tx):G1 a a=false:=by
 cases h:G1 a a
 ·rfl
 ·rw [a08,b0l] at h;rcases h with h|⟨_,h⟩
  ·omega
  ·cases h
theorem a2f {a b c:Tx} (h:G1 a b=true) (h':G1 b c=true):G1 a c=true:=by
 rw [a08] at h h' ⊢;rcases h with h|⟨h,h2⟩
 ·rcases h' with h'|⟨h',_⟩
  ·exact .inl zo
  ·exact .inl zo
 ·rcases h' with h'|⟨h',h3⟩
  ·exact .inl zo
  ·exact .inr ⟨zo,b2J _ _ _ h2 h3⟩
theorem a63 {a b:Tx} (h:G1 a b=false) (h':G1 b a=false):a=b:=by
 have h1:¬ (G1 a b=true):=by rw [h];exact Bool.false_ne_true
 have h2:¬ (G1 b a=true):=by rw [h'];exact Bool.false_ne_true
 rw [a08] at h1 h2;have e:rankT a=rankT b:=by
  rcases Nat.lt_trichotomy (rankT a) (rankT b) with e|e|e
  ·exact absurd (.inl e) h1
  ·exact e
  ·exact absurd (.inl e) h2
 exact b4m a b (by cases hh:Op.bytesLess a b;rfl;exact absurd (.inr ⟨e,hh⟩) h1) (by cases hh:Op.bytesLess b a;rfl;exact absurd (.inr ⟨e.symm,hh⟩) h2)
theorem a5c {a b:Tx} (h:G1 a b=true):G1 b a=false:=by
 cases h':G1 b a
 ·rfl
 ·have:=a2f h h';rw [a1l] at this;cases this
structure Tg where
 k:Tx
 v:Tx
theorem Tg.ext' {a b:Tg} (h:a.k=b.k) (h2:a.v=b.v):a=b:=by cases a;cases b;simp only at h h2;rw [h,h2]
def X2:List Tg→Tx→Option Tx
 | [],_=>none
 | x::r,k=>(X2 r k).or (if k=x.k then some x.v else none)
structure a64 (f:Tx→Option Tx) (l:List Tg):Prop where
 so:l.Pairwise fun a b=>G1 a.k b.k=true
 me:∀ x:Tg,x∈l↔f x.k=some x.v
theorem a64.eq {f:Tx→Option Tx}:∀ {l l':List Tg},l.Pairwise (fun a b=>G1 a.k b.k=true)→l'.Pairwise (fun a b=>G1 a.k b.k=true)→(∀ x,x∈l↔x∈l')→l=l'
 | [],[],_,_,_=>rfl
 | [],b::_,_,_,h=>by have:=(h b).2 (yX ..);cases this
 | a::_,[],_,_,h=>by have:=(h a).1 (yX ..);cases this
 | a::s,b::t,h1,h2,h=>by
  rw [List.pairwise_cons] at h1 h2;have e:a=b:=by
   rcases yS.1 ((h a).1 (yX ..)) with e|e
   ·exact e
   ·rcases yS.1 ((h b).2 (yX ..)) with e'|e'
    ·exact e'.symm
    ·have x1:=h2.1 a e;have x2:=h1.1 b e';rw [a5c x1] at x2;cases x2
  subst e;have nin:∀ {l:List Tg},(∀ y∈l,G1 a.k y.k=true)→a∉l:=fun h hm=>by have:=h a hm;rw [a1l] at this;cases this
  rw [a64.eq (f:=f) h1.2 h2.2 fun x=>⟨fun hx=>?_,fun hx=>?_⟩]
  ·rcases yS.1 ((h x).1 (yY _ hx)) with e|e
   ·exact absurd (e▸hx) (nin h1.1)
   ·exact e
  ·rcases yS.1 ((h x).2 (yY _ hx)) with e|e
   ·exact absurd (e▸hx) (nin h2.1)
   ·exact e
theorem a64.uniq {f:Tx→Option Tx} {l l':List Tg} (h:a64 f l) (h':a64 f l'):l=l':=a64.eq (f:=f) h.so h'.so fun x=>(h.me x).trans (h'.me x).symm
def a3O (k:Tx):List Tg→Nat→Nat→Nat
 | [],_,a=>a
 | y::r,i,a=>a3O k r (i+1) (if G1 y.k k=true then i+1 else a)
def Y4 (x:Tg) (l:List Tg):List Tg:=l.map fun y=>if y.k=x.k then ⟨y.k,x.v⟩ else y
def a5M (x:Tg) (l:List Tg):Bool:=l.any fun y=>decide (y.k=x.k)
def a0G (out:List Tg) (x:Tg):List Tg:=if a5M x out=true then Y4 x out else out.take (a3O x.k out 0 0)++x::out.drop (a3O x.k out 0 0)
def I7 (l:List Tg):List Tg:=l.foldl a0G []
theorem b0m (k:Tx):∀ (l:List Tg) (i a:Nat),(∀ y∈l,G1 y.k k=false)→a3O k l i a=a
 | [],_,_,_=>rfl
 | y::r,i,a,h=>by
  rw [a3O,zJ (by rw [h y (yX ..)];exact Bool.false_ne_true)]
  exact b0m k r _ _ fun z hz=>h z (yY _ hz)
theorem a7d (k:Tx):∀ (l:List Tg) (i:Nat),l.Pairwise (fun a b=>G1 a.k b.k=true)→(∀ y∈l,y.k≠k) →
  ∃ s t,l=s++t∧a3O k l i i=i+s.length∧(∀ y∈s,G1 y.k k=true)∧∀ y∈t,G1 k y.k=true
 | [],i,_,_=>⟨[],[],rfl,rfl,by simp,by simp⟩
 | y::r,i,h,hk=>by
  rw [List.pairwise_cons] at h;by_cases hy:G1 y.k k=true
  ·obtain ⟨s,t,e,h1,h2,h3⟩:=a7d k r (i+1) h.2 fun z hz=>hk z (yY _ hz);refine ⟨y::s,t,by rw [e];rfl,?_,fun z hz=>?_,h3⟩
   ·rw [a3O,zM hy,h1,zh];omega
   ·rcases yS.1 hz with e|hz
    ·rw [e];exact hy
    ·exact h2 z hz
  ·have hy2:G1 k y.k=true:=by
    cases h5:G1 k y.k
    ·exact absurd (a63 (by simpa using hy) h5) (hk y (yX ..))
    ·rfl
   have hall:∀ z∈y::r,G1 k z.k=true:=fun z hz=>by
    rcases yS.1 hz with e|hz
    ·rw [e];exact hy2
    ·exact a2f hy2 (h.1 z hz)
   refine ⟨[],y::r,rfl,?_,by simp,hall⟩
   rw [b0m k (y::r) i i fun z hz=>a5c (hall z hz)];rfl
theorem b4n {f:Tx→Option Tx} {out:List Tg} (h:a64 f out) (x:Tg):a64 (fun k=>if k=x.k then some x.v else f k) (a0G out x):=by
 unfold a0G;by_cases hk:a5M x out=true
 ·rw [zM hk];unfold a5M at hk;rw [xD] at hk;obtain ⟨z,hz,hzk⟩:=hk;have hzk:=yB hzk;refine ⟨?_,fun y=>?_⟩
  ·unfold Y4;rw [List.pairwise_map];refine h.so.imp fun {a b} hab=>?_;have e:∀ y:Tg,(if y.k=x.k then (⟨y.k,x.v⟩:Tg) else y).k=y.k:=fun y=>by split<;>rfl
   rw [e,e];exact hab
  ·unfold Y4;rw [xJ];constructor
   ·rintro ⟨w,hw,rfl⟩;by_cases e:w.k=x.k
    ·rw [zM e];simp only;rw [zM e]
    ·rw [zJ e,zJ e];exact (h.me w).1 hw
   ·intro hy;by_cases e:y.k=x.k
    ·rw [zM e] at hy;refine ⟨z,hz,?_⟩;rw [zM hzk];exact Tg.ext' (hzk.trans e.symm) (yi hy)
    ·rw [zJ e] at hy;exact ⟨y,(h.me y).2 hy,by rw [zJ e]⟩
 ·rw [zJ hk];have hn:∀ y∈out,y.k≠x.k:=fun y hy e=>hk (by unfold a5M;rw [xD];exact ⟨y,hy,zX e⟩)
  obtain ⟨s,t,e,h1,h2,h3⟩:=a7d x.k out 0 h.so hn;rw [h1,yW];have hso:=h.so;have hme:=h.me;subst e;rw [List.take_left' rfl,List.drop_left' rfl];rw [List.pairwise_append] at hso;refine ⟨?_,fun y=>?_⟩
  ·rw [List.pairwise_append];refine ⟨hso.1,?_,fun a ha b hb=>?_⟩
   ·rw [List.pairwise_cons];exact ⟨h3,hso.2.1⟩
   ·rcases yS.1 hb with e|hb
    ·rw [e];exact h2 a ha
    ·exact hso.2.2 a ha b hb
  ·by_cases e:y.k=x.k
   ·rw [zM e];constructor
    ·intro hy;rcases zr.1 hy with hy|hy
     ·exact absurd e (hn y (yP _ hy))
     ·rcases yS.1 hy with hy|hy
      ·rw [hy]
      ·exact absurd e (hn y (List.mem_append_right _ hy))
    ·intro hy;rw [Tg.ext' e (yi hy).symm];simp
   ·rw [zJ e,← hme y];simp only [zr,yS];constructor
    ·rintro (h|rfl|h)
     ·exact .inl h
     ·exact absurd rfl e
     ·exact .inr h
    ·rintro (h|h)
     ·exact .inl h
     ·exact .inr (.inr h)
theorem b2K:∀ (l:List Tg) {f:Tx→Option Tx} {out:List Tg},a64 f out→a64 (fun k=>(X2 l k).or (f k)) (l.foldl a0G out)
 | [],f,out,h=>by
  have e:(fun k=>(X2 [] k).or (f k))=f:=by funext k;rfl
  rw [e];exact h
 | x::r,f,out,h=>by
  have:=b2K r (b4n h x);rw [List.foldl_cons];have e:(fun k=>(X2 (x::r) k).or (f k))=fun k=>(X2 r k).or (if k=x.k then some x.v else f k):=by
   funext k;rw [X2];cases X2 r k with
   | some _=>rfl
   | none=>by_cases e:k=x.k<;>simp [e]
  rw [e];exact this
theorem b0n (l:List Tg):a64 (X2 l) (I7 l):=by
 have:=b2K l (f:=fun _=>none) (out:=[]) ⟨List.Pairwise.nil,fun x=>by simp⟩
 have e:(fun k=>(X2 l k).or none)=X2 l:=by funext k;cases X2 l k<;>rfl
 rw [e] at this;exact this
structure b6N (f:Tx→Option Tx) (E:List EnT) (c:Nat):Prop where
 st:∀ x∈E,x.n<c
 nd:(E.map (·.n)).Nodup
 kn:(E.map (·.k)).Nodup
 ge:∀ k,O6 E k=f k
theorem a65 {k v:Tx}:∀ {l:List EnT},(l.map (·.k)).Nodup→(O6 l k=some v↔∃ x∈l,x.k=k∧x.v=v)
 | [],_=>by simp [b0h]
 | y::r,h=>by
  rw [yQ,List.nodup_cons] at h;rw [R7];by_cases e:k=y.k
  ·rw [zM e];constructor
   ·intro hv;exact ⟨y,yX ..,e.symm,yi hv⟩
   ·rintro ⟨x,hx,hk,hv⟩;rcases yS.1 hx with e2|hx
    ·rw [← hv,e2]
    ·exact absurd (xJ.2 ⟨x,hx,hk.trans e⟩) h.1
  ·rw [zJ e,a65 h.2];constructor
   ·rintro ⟨x,hx,h2⟩;exact ⟨x,yY _ hx,h2⟩
   ·rintro ⟨x,hx,hk,hv⟩;rcases yS.1 hx with e2|hx
    ·exact absurd (by rw [← hk,e2]) e
    ·exact ⟨x,hx,hk,hv⟩
theorem b1h (key v:Tx):∀ l:List EnT,(a1N key v l).map (·.n)=l.map (·.n)
 | []=>rfl
 | x::r=>by rw [a1N];split<;>simp [b1h key v r]
theorem b1i (key v:Tx):∀ l:List EnT,(a1N key v l).map (·.k)=l.map (·.k)
 | []=>rfl
 | x::r=>by
  rw [a1N];split
  ·rename_i h;simp [h]
  ·simp [b1i key v r]
theorem b6N.put {f:Tx→Option Tx} {E:List EnT} {c:Nat} (h:b6N f E c) (x:Tg):b6N (fun k=>if k=x.k then some x.v else f k) (a1O E x.k x.v c) (a4A E x.k c):=by
 have hg:∀ k,O6 (a1O E x.k x.v c) k=if k=x.k then some x.v else f k:=fun k=>by rw [b6J,h.ge k]
 cases hv:O6 E x.k with
 | none =>
  obtain ⟨e1,e2⟩:=b6K (v:=x.v) (c:=c) hv;refine ⟨?_,?_,?_,hg⟩
  ·rw [e1,e2];intro y hy;rcases zr.1 hy with hy|hy
   ·have:=h.st y hy;omega
   ·rw [zY.1 hy];exact Nat.lt_succ_self _
  ·rw [e1,List.map_append,List.nodup_append];refine ⟨h.nd,by simp,fun a ha b hb=>?_⟩
   obtain ⟨y,hy,rfl⟩:=xJ.1 ha;have:=h.st y hy;simp at hb;omega
  ·rw [e1,List.map_append,List.nodup_append];refine ⟨h.kn,by simp,fun a ha b hb=>?_⟩
   obtain ⟨y,hy,rfl⟩:=xJ.1 ha;simp at hb;subst hb;intro e;have:=(a65 (k:=x.k) (v:=y.v) h.kn).2 ⟨y,hy,e,rfl⟩;rw [hv] at this;cases this
 | some u =>
  have e1:a1O E x.k x.v c=a1N x.k x.v E:=by unfold a1O;rw [hv];rfl
  have e2:a4A E x.k c=c:=by unfold a4A;rw [hv];rfl
  refine ⟨?_,by rw [e1,b1h];exact h.nd,by rw [e1,b1i];exact h.kn,hg⟩
  rw [e1,e2];intro y hy;have:y.n∈(a1N x.k x.v E).map (·.n):=xJ.2 ⟨y,hy,rfl⟩;rw [b1h] at this;obtain ⟨z,hz,e⟩:=xJ.1 this;rw [← e];exact h.st z hz
theorem b9v (E:List EnT) (k v:Tx) (c:Nat):(a1O E k v c).length≤E.length+1:=by
 unfold a1O;split
 ·have:=yH List.length (b1i k v E);rw [yc,yc] at this;omega
 ·simp
theorem b6O {f:Tx→Option Tx} {E:List EnT} {c:Nat} (h:b6N f E c) {l:List Tg} (hp:l.Perm (E.map fun x=>⟨x.k,x.v⟩)) (hs:l.Pairwise fun a b=>G1 b.k a.k=false):a64 f l:=by
 have hk:(l.map (·.k)).Nodup:=by
  have:(l.map (·.k)).Perm (E.map (·.k)):=by
   have:=hp.map (·.k);rw [List.map_map] at this;exact this
  exact this.nodup_iff.2 h.kn
 refine ⟨?_,fun x=>?_⟩
 ·have hn:l.Pairwise fun a b=>a.k≠b.k:=List.pairwise_map.1 hk;refine (hs.and hn).imp fun {a b} hab=>?_;cases e:G1 a.k b.k
  ·exact absurd (a63 e hab.1) hab.2
  ·rfl
 ·rw [hp.mem_iff,← h.ge x.k,a65 h.kn,xJ];constructor
  ·rintro ⟨y,hy,rfl⟩;exact ⟨y,hy,rfl,rfl⟩
  ·rintro ⟨y,hy,e1,e2⟩;exact ⟨y,hy,Tg.ext' e1 e2⟩
def X3 (l:List Tg):Tx:=l.flatMap fun x=>[91]++x.k++[32,34]++x.v++[34,93,10]
end
