/- One part of the proof: Pk64 Opn2 Pk71 Pk72 Pk73 Pk74 Pk75 Pk65 Pk67 Pk68 Pk76 Pk69 Two Mva Pk51 Pk70. -/
import Derived.KernelRfl
import Derived.ArgAppend
import Derived.Deep.Upon
import Derived.Test.YtpclhlhcegcflaaGreatDoorM1
import Derived.Test.YtpclhlhcegcflaaGreatDoorM3
import Derived.Test.YtpclhlhcegcflaaGreatDoorM6
import Derived.Test.YtpclhlhcegcflaaGreatDoorM8
import Derived.Test.YtpclhlhcegcflaaGreatDoorM14
import Derived.Test.YtpclhlhcegcflaaGreatDoorM16
import Derived.Test.YtpclhlhcegcflaaGreatDoorM17
import Derived.Test.YtpclhlhcegcflaaGreatDoorM18
namespace Go.Proofs.YtpclhlhcegcflaaGreatDoor
set_option maxRecDepth 100000
set_option linter.unusedSimpArgs false
set_option linter.unusedVariables false
section
open Go Go.RowKit
open E
open Ch Bb
def a5Z (w:World) (v:Value) (ns:List Int):Prop:=∃ a c,v = .slice a ns.length c∧(0<ns.length→∃ g o cs t fz,a=some ⟨g,o,none⟩∧w.heap[g]?=some (.cells cs t fz)∧∀ i (h:i<ns.length),cs[o+i]?=some (.int .i64 ns[i]))
section intIn
variable {w w':World} {v:Value} {ns:List Int}
theorem a5Z.form (h:a5Z w v ns):∃ a c,v = .slice a ns.length c∧(0<ns.length→∃ g o,a=some ⟨g,o,none⟩):=by
 obtain ⟨a,c,e,h⟩:=h;exact ⟨a,c,e,fun h0=>by obtain ⟨g,o,_,_,_,e,_⟩:=h h0;exact ⟨g,o,e⟩⟩
theorem a5Z.step (h:a5Z w v ns) (hc:Cl w w'):a5Z w' v ns:=by
 obtain ⟨a,c,e,h⟩:=h;exact ⟨a,c,e,fun h0=>by obtain ⟨g,o,cs,t,fz,e,hb,h2⟩:=h h0;exact ⟨g,o,cs,t,fz,e,hc.blk hb,h2⟩⟩
theorem a5Z.ld {g o n c:Nat} (h:a5Z w (.slice (some ⟨g,o,none⟩) n c) ns) (i:Nat) (hi:i<ns.length):o4 G.P w 3 ⟨g,E.U7 o ((i:Int)).toNat 1,none⟩ (.int .i64 ns[i]):=by
 obtain ⟨a,c',e,h⟩:=h;obtain ⟨g',o',cs,t,fz,e2,hb,h2⟩:=h zo;injection e with e1 _ _;rw [e2] at e1;injection e1 with e1;injection e1 with e1 e3 _;subst e1 e3;exact D8 hb (by rw [E.y6,zg,Nat.mul_one];exact h2 i hi) rfl
end intIn
def b9n (n:Int):List Value:=[.int .i64 n]
theorem b2P (n:Int):(b9n n).length=1:=rfl
theorem b9o (n:Int):∀ u∈b9n n,u.oneCell'=true:=fun u hu=>by rw [zY.1 hu];rfl
def nOf (x:Int):Nat:=(IntKind.u64.wrap x%3).toNat
def nAt (ns:List Int) (i:Nat):Nat:=match ns[i%ns.length]? with
 | some x=>nOf x
 | none=>0
theorem c6o (x:Int):nOf x<3:=by unfold nOf;omega
theorem b90 (ns:List Int) (i:Nat):nAt ns i<3:=by
 unfold nAt;split
 ·exact c6o _
 ·decide
theorem c6p (x:Int):IntKind.i64.wrap ((IntKind.u64.wrap x).tmod 3)=(nOf x:Int):=by
 have h:0≤IntKind.u64.wrap x:=by
  show 0≤x%_;exact Int.emod_nonneg _ zd
 unfold nOf;rw [zi (Int.emod_nonneg _ zd),Int.tmod_eq_emod_of_nonneg h,g9 zo zo]
def stTxt (n:Nat) (s:Ch.a0n):Tx:=if n=0 then s.san else if n=1 then s.lan else s.uci
def txsOf (ns:List Int):Nat→List Ch.a0n→List Tx
 | _,[]=>[]
 | i,s::r=>stTxt (nAt ns i) s::txsOf ns (i+1) r
def nsOf (ns:List Int):Nat→List Ch.a0n→List Int
 | _,[]=>[]
 | i,s::r=>(nAt ns i:Int)::nsOf ns (i+1) r
set_option maxHeartbeats 2000000 in
theorem c2g (S:List Ch.a0n) (hS:S.length≤1000) (ns:List Int) (hns:ns.length≤1000) {b0:Nat} {u v:Value} (w:World) (hu:Row 39 81 stL b0 w u S) (hv:a5Z w v ns) :
  Calls G.P 19 #[u,v] w (fun r w'=>∃ a b,r = .returned (.tuple #[a,b])∧Row 9 1 H2 w.heap.size w' a (txsOf ns 0 S)∧Row 3 1 b9n w.heap.size w' b (nsOf ns 0 S)∧Cl w w'):=by
 obtain ⟨au,cu,rfl,hau⟩:=hu.form;obtain ⟨av,cv,rfl,hav⟩:=hv.form;obtain ⟨zs,hzs,hz81⟩:=zSt;obtain ⟨A,hA⟩:∃ A,A=txsOf ns 0 S:=⟨_,rfl⟩;obtain ⟨B,hB⟩:∃ A,A=nsOf ns 0 S:=⟨_,rfl⟩;rw [← hA,← hB];refine zN Tryz.func19 ?_;refine zR ?_;refine A9 (σ:=Nat×List Tx×List Int×Value×Value) [6,7,8,9,10,13] 14 (fun s=>[(6,s.2.2.2.1),(7,s.2.2.2.2),(13,.int .i64 s.1)])
  (fun s w'=>s.1≤S.length∧s.2.1++txsOf ns s.1 (S.drop s.1)=A∧s.2.2.1++nsOf ns s.1 (S.drop s.1)=B∧s.2.1.length=s.1∧s.2.2.1.length=s.1∧Row 9 1 H2 w.heap.size w' s.2.2.2.1 s.2.1∧Row 3 1 b9n w.heap.size w' s.2.2.2.2 s.2.2.1∧Cl w w') (fun a=>S.length-a.1) zk (0,[],[],.slice none 0 0,.slice none 0 0)
  ⟨zo,by rw [hA];rfl,by rw [hB];rfl,rfl,rfl,Row.nil _ _,Row.nil _ _,Cl.refl _⟩ ⟨rfl,rfl,rfl,trivial⟩ ?_
 rintro ⟨i,O,N,va,vb⟩ j w2 ⟨hi,hO,hN,hOl,hNl,hra,hrb,c2⟩;simp only at hi hO hN hOl hNl hra hrb c2 ⊢;obtain ⟨aa,ka,rfl,_⟩:=hra.form;obtain ⟨ab,kb,rfl,_⟩:=hrb.form;have ni:=C0 (i:=i) zo;refine zR ?_;apply E.d6<;>intro h
 ·have hil:i<S.length:=by omega
  clear h;obtain ⟨gu,rfl⟩:=hau zo;rw [List.drop_eq_getElem_cons hil] at hO hN;have l1:∀ w',Cl w w'→o4 G.P w' 39 ⟨gu,E.U7 0 ((i:Int)).toNat 81,none⟩ (stV S[i]):=fun w' h'=>a1f (hu.step h') I7 i hil rfl (by simp [E.y6]) rfl
  generalize S[i]=s at *;have hO:O++stTxt (nAt ns i) s::txsOf ns (i+1) (S.drop (i+1))=A:=hO;have hN:N++(nAt ns i:Int)::nsOf ns (i+1) (S.drop (i+1))=B:=hN;have hnl:=b90 ns i;refine zR ?_;refine zC ?_;refine zR ?_;refine d9 _ (l1 _ c2) (zR ?_);refine t7 zs hzs ?_;have d1:=Cl.alloc w2 (.cells zs.cells 39);have n1:=g7 w2 (.cells zs.cells 39);generalize w2.alloc (.cells zs.cells 39)=w3 at *;refine zR ?_;refine J6 n1 (stL s) rfl b7Z (I7 _) (a4S _) (by rw [hz81];decide) (fun w4 u4=>?_)
  have n4:w4.heap[w2.heap.size]?=some (.cells (stL s).toArray 39 (0,0)):=by rw [u4.at_,B7 _ _ (by rw [hz81,I7])]
  have d4:Cl w2 w4:=u4.cl d1 (yH _);clear n1 u4 d1;have c4:=c2.trans d4;have hra:=hra.step d4;have hrb:=hrb.step d4;refine zG ?_;refine Nx.mk (zG ?_);refine B0 (σ:=Unit) [10,18,19,20,21,22,23,24,25,26,27,28,29,30] 31 (fun _=>[(10,.int .i64 (nAt ns i:Nat))]) (fun _ w'=>w'=w4) zk ?_ (fun _ j w5 h5=>?_)
  ·refine zR ?_;apply E.d6<;>intro h
   ·have h0:0<ns.length:=by omega
    obtain ⟨gv,ov,rfl⟩:=hav h0;have him:i%ns.length<ns.length:=Nat.mod_lt _ h0;have hld:=(hv.step c4).ld (i%ns.length) him;have hnA:nAt ns i=nOf ns[i%ns.length]:=by unfold nAt;rw [List.getElem?_eq_getElem him]
    rw [hnA];clear h;refine zR ?_;refine E.p8 zo (zR ?_);have htm:((i:Int)).tmod (ns.length:Int)=((i%ns.length:Nat):Int):=rfl;rw [htm];refine zC ?_;refine zR ?_;refine d9 _ hld (zR ?_);exact ⟨(),⟨d7 (c6p _),trivial⟩,rfl⟩
   ·have h0:ns=[]:=List.eq_nil_of_length_eq_zero zo;refine zR ?_;exact ⟨(),⟨by subst h0;rfl,trivial⟩,rfl⟩
  subst h5;generalize nAt ns i=n at *;refine zR ?_;refine d9 (m9 s.san) (D8 n4 rfl rfl) (zR ?_);refine d9 (m9 s.lan) (D8 n4 rfl rfl) (zR ?_);refine d9 (m9 s.uci) (D8 n4 rfl rfl) (zR ?_);refine B6 elStr [m9 s.san,m9 s.lan,m9 s.uci] (by rw [zb];rfl) (by intro v hv;simp at hv;rcases hv with rfl | rfl | rfl<;>rfl) rfl zd zd ?_
  have d5:=Cl.alloc w5 (.cells (([m9 s.san,m9 s.lan,m9 s.uci]:List Value).flatMap fun v=>v.cells.toList).toArray 9);have n5:(w5.alloc (.cells (([m9 s.san,m9 s.lan,m9 s.uci]:List Value).flatMap fun v=>v.cells.toList).toArray 9)).heap[w5.heap.size]?=some (.cells (([m9 s.san,m9 s.lan,m9 s.uci]:List Value).flatMap fun v=>v.cells.toList).toArray 9 (0,0)):=g7 _ _;have hcs:(([m9 s.san,m9 s.lan,m9 s.uci]:List Value).flatMap fun v=>v.cells.toList).toArray[n]?=some (m9 (stTxt n s)):=by
   rcases (by omega:n=0∨n=1∨n=2) with rfl | rfl | rfl<;>rfl
  generalize (([m9 s.san,m9 s.lan,m9 s.uci]:List Value).flatMap fun v=>v.cells.toList).toArray=cs5 at *;generalize w5.alloc (.cells cs5 9)=w6 at *;have c6:=c4.trans d5;have hra:=hra.step d5;have hrb:=hrb.step d5;generalize stTxt n s=T at *;refine zR ?_;refine zC ?_;refine zR ?_;refine d9 (m9 T) (D8 n5 (by rw [E.y6,zg,yV,Nat.mul_one];exact hcs) rfl) (zR ?_)
  refine B6 elStr [m9 T] (by rw [zb];rfl) (by intro v hv;rw [zY.1 hv];rfl) rfl zd zd (zR ?_)
  refine S0 elStr T rfl hra rfl rfl rfl p9 U6 zo zd c6.size ?_;intro va' w7 hra' hg;have c7:=hg.toCl rfl c6;have kg:=KT.grow hra hg;have hrb:=kg.row hrb zd;obtain ⟨a9,k9,rfl,_⟩:=hra'.form;refine zR ?_;refine B6 a2x [.int .i64 (n:Nat)] (by rw [zb];rfl) (by intro v hv;rw [zY.1 hv];rfl) rfl zd zd (zR ?_)
  refine S0 a2x (n:Int) rfl hrb rfl rfl rfl b2P b9o zo zd c7.size ?_;intro vb' w8 hrb' hg';have c8:=hg'.toCl rfl c7;have hra':=(KT.grow hrb hg').row hra' zd;obtain ⟨b9,q9,rfl,_⟩:=hrb'.form;refine zR ?_;exact ⟨(i+1,O++[T],N++[(n:Int)],_,_),⟨rfl,rfl,d7 ni,trivial⟩,⟨hil,by rw [← hO];simp,by rw [← hN];simp,by rw [zF,hOl];rfl,by rw [zF,hNl];rfl,hra',hrb',c8⟩,by show S.length-(i+1)<S.length-i;omega⟩
 ·have e:i=S.length:=by omega
  have hOA:O=A:=by rw [← hO,e,List.drop_length];show O=O++[];rw [zm]
  have hNB:N=B:=by rw [← hN,e,List.drop_length];show N=N++[];rw [zm]
  refine zR ?_;exact ⟨_,_,rfl,by rw [← hOA];exact hra,by rw [← hNB];exact hrb,c2⟩
end
section
open Go Go.RowKit Go.Deep Go.ChangeShapes Go.WideShapes
open E
theorem b6S {H:Type} {enc:TypeId×Value→H} {W:World} {b base:Nat} {sp:Nat→Bool} {hd:Bool} {v:Value} {d:DataW H} {ps:List MemPlace} (h:Value.okWide G.P W .any b 43 v) (hr:DataW.Trod enc G.P W base sp hd 43 v d ps) :
  ∃ ns:List Int,a5Z W v ns:=by
 have e1:G.P.underlying 43=some (.slice 3):=by kernel_rfl
 have e3:G.P.underlying 3=some (.int .i64):=by kernel_rfl
 have e4:G.P.cellsOf 3=1:=by kernel_rfl
 obtain ⟨fuel,hr⟩:=hr;unfold Value.okWide at h;rw [e1] at h;have hv:∃ oa len cap,v = .slice oa len cap:=by
  unfold Cell.okWide Cell.ok at h;cases v<;>simp [e1] at h;exact ⟨_,_,_,rfl⟩
 obtain ⟨oa,len,cap,rfl⟩:=hv;rcases open_slice e1 hr with ⟨h1,_⟩ | ⟨a,len',cap',m,n,D,Pl,h1,_,hl,hm,hmm,_,hx⟩
 ·obtain ⟨rfl,rfl,rfl⟩:oa=none∧len=0∧cap=0:=by simpa [Value.cells] using h1
  exact ⟨[],none,0,rfl,fun h=>absurd h zd⟩
 ·obtain ⟨rfl,rfl,rfl⟩:oa=some a∧len=len'∧cap=cap':=by simpa [Value.cells] using h1
  unfold Cell.okWide Cell.ok at h;rw [e1] at h;obtain ⟨_,_,_,hsp,row,cells,hsh,_⟩:=h;obtain ⟨g,o,spo⟩:=a;obtain rfl:spo=none:=hsp;unfold World.shape? at hsh;cases hbb:W.heap[g]? with
  | none=>simp only [hbb] at hsh;cases hsh
  | some ob =>
   cases ob with
   | cells cs2 el fz =>
    have hlm:len≤m:=by rw [hmm];split<;>omega
    have key:∀ i,i<len→∃ z:Int,cs2[o+i]?=some (Value.int .i64 z):=by
     intro i hi;obtain ⟨cs',hc1,hc2⟩:=hx i zo;obtain ⟨_,hlen,hcell⟩:=World.cells?_some hc1;rw [e4] at hlen hcell;obtain ⟨z,h3,_,h4⟩:=DataW.trod_int e3 hc2;have h5:cs'[0]?=some (Value.int .i64 z):=by rw [h3];rfl
     have h6:=hcell 0 zd;rw [h5,H5,H5] at h6;unfold World.cell? at h6;simp only [hbb] at h6;exact ⟨z,by simpa using h6⟩
    have:Inhabited Int:=⟨0⟩;obtain ⟨F,hF⟩:=choose_lt key;refine ⟨(List.range len).map F,some ⟨g,o,none⟩,cap,by simp,fun _=>⟨g,o,cs2,el,fz,rfl,hbb,fun i hi=>?_⟩⟩
    have hi2:i<len:=by simpa using hi
    simpa using hF i hi2
   | _=>simp only [hbb] at hsh;cases hsh
end
section
open Go Go.RowKit
open E
open Ch Bb
structure Wb (b B:Nat) (w w':World):Prop where
 os:w'.os=w.os
 tape:w'.tape=w.tape
 output:w'.output=w.output
 size:B≤w'.heap.size
 low:∀ k,k<B→k≠b→w'.heap[k]?=w.heap[k]?
 typ:∀ (k:Nat) (cs:Array Value) (t:Nat) (fz:Nat×Nat),t≠5→t≠160→w.heap[k]?=some (.cells cs t fz)→w'.heap[k]?=some (.cells cs t fz)
section
variable {b B:Nat} {w w' w2:World} {l:Tx}
theorem Wb.refl (b:Nat) (h:B≤w.heap.size):Wb b B w w:=⟨rfl,rfl,rfl,h,fun _ _ _=>rfl,fun _ _ _ _ _ _ h=>h⟩
theorem Wb.trans (h:Wb b B w w') (h2:Wb b B w' w2):Wb b B w w2:=⟨h2.os.trans h.os,h2.tape.trans h.tape,h2.output.trans h.output,h2.size,fun k hk hn=>(h2.low k hk hn).trans (h.low k hk hn),fun k cs t fz h1 h3 hk=>h2.typ k cs t fz h1 h3 (h.typ k cs t fz h1 h3 hk)⟩
theorem Wb.upd {o:Obj} {cs:Array Value} {fz:Nat×Nat} (u:Upd w b o w') (hb:w.heap[b]?=some (.cells cs 160 fz)) (hB:B≤w.heap.size):Wb b B w w' :=
 ⟨u.os,u.tape,u.output,by rw [u.size];exact hB,fun k _ hn=>u.else_ k hn,fun k c t f h1 h2 hk=>(Tn.upd u).blk hk (O1 hk hb h2)⟩
theorem Wb.grown {b0:Nat} {v:Value} (h:w.grownBy w' v.ownBlock) (hr:Row 5 1 a0G B w v l) (hB:B≤w.heap.size):Wb b B w w':=by
 refine ⟨h.os,h.tape,h.output,zu hB h.size,fun k hk hn=>h.block k zo (fun e=>?_),fun k cs t fz h1 h2 hk=>?_⟩
 ·have:=(Row.own hr e.symm).1;omega
 ·rw [h.block k (C5 hk) (fun e=>?_)];exact hk;rcases hr.2 with ⟨e1,_⟩ | ⟨g,cap,cur,e1,_,e3,_⟩
  ·rw [e1] at e;cases e
  ·rw [e1] at e;have e4:k=g:=Option.some.inj e;exact O1 hk e3 h1 e4
theorem Wb.cl (h:Cl w w') (hB:B≤w.heap.size):Wb b B w w':=⟨h.os,h.tape,h.output,zu hB h.size,fun k hk _=>h.block k zo,fun k cs t fz _ _ hk=>h.blk hk⟩
theorem Wb.grow {v v':Value} (h:a7s B w v w' v') (hr:Row 5 1 a0G B w v l) (hB:B≤w.heap.size):Wb b B w w':=by
 have n:=Nb.of (b:=B) h.cl hB;refine ⟨n.os,n.tape,n.output,n.size,fun k hk _=>n.else_ k hk zo,fun k cs t fz h1 h2 hk=>h.keep k _ hk fun e=>?_⟩;rcases hr.2 with ⟨e1,_⟩ | ⟨g,cap,cur,e1,_,e3,_⟩
 ·rw [e1] at e;cases e
 ·rw [e1] at e;have e4:g=k:=Option.some.inj e;exact O1 hk e3 h1 e4.symm
structure Bq (b B:Nat) (w:World) (l:Tx):Prop where
 is:∃ p v,(p = .pointer none∨p = .pointer (some ⟨b,0,none⟩))∧w.heap[b]?=some (.cells #[p,v] 160 (0,0))∧Row 5 1 a0G B w v l
 lt:b<B
 le:B≤w.heap.size
theorem Bq.step (h:Bq b B w l) (c:Cl w w'):Bq b B w' l:=by
 obtain ⟨p,v,hp,hk,hr⟩:=h.is;exact ⟨⟨p,v,hp,c.blk hk,hr.step c⟩,h.lt,zu h.le c.size⟩
theorem Bq.tn {P:Nat} {cs:Array Value} {fz:Nat×Nat} (h:Bq b B w l) (n:Tn P w w') (hP:w.heap[P]?=some (.cells cs 173 fz)):Bq b B w' l:=by
 obtain ⟨p,v,hp,hk,hr⟩:=h.is;exact ⟨⟨p,v,hp,n.blk hk (O1 hk hP zd),hr.tnT n hP zd⟩,h.lt,zu h.le n.size⟩
theorem Bq.fresh (hk:w.heap[b]?=some (.cells #[.pointer none,.slice none 0 0] 160 (0,0))):Bq b w.heap.size w []:=⟨⟨_,_,.inl rfl,hk,Row.nil _ _⟩,C5 hk,yH _⟩
end
section
variable {dst:Option Nat} {ty:Nat} {pos:String} {af:Array Edge} {gd:Option (Nat×Bool)} {env:C8} {w:World} {K:Value→World→Prop}
theorem c5h {b0:Nat} {v:Value} {l s:Tx} {x y:Operand} (hs:ev env x=v) (hrow:Row 5 1 a0G b0 w v l) (hx:ev env y = .string (tx s)) (hlen:l.length+s.length≤1000000) (hb0:b0≤w.heap.size)
  (h:∀ v' w',Row 5 1 a0G b0 w' v' (l++s)→w.grownBy w' v.ownBlock→K v' w') :
  L5 G.P { dst,op:=.call { callee:=.builtin .append,args:=#[x,y],argTypes:=#[157,9] },type:=ty,pos,after:=af,guard:=gd } env w K:=by
 obtain ⟨i,hi,hz,hsz,hby⟩:=infoByte;obtain ⟨v',w',h1,h2,h3,_⟩:=Lib.run_append_own_string (P:=G.P) w b0 157 9 ty 5 i b3y b09 hi hz hsz hby v l.length (l.flatMap a0G) hrow (tx s) (by rw [C3];unfold maxLen;omega) (by rw [C3];omega) hb0
 have e:l.flatMap a0G++Lib.strCells (tx s)=(l++s).flatMap a0G:=by rw [List.flatMap_append,b8u s];rfl
 rw [e,C3] at h2;refine ⟨.inl ⟨v',w',?_,h v' w' ?_ h3⟩⟩
 ·simp only [execOp,resolve,invoke,builtin,Sem.run_bind,Sem.run_pure,Result.andThen_ok,List.map_toArray,yP,List.map_nil,hs,hx,h1]
 ·unfold Row;rw [zF];exact h2
theorem c5i {C:World→Prop} {K:Value→Prop} {x:Operand} {ts:Array Nat} {n c:Nat} (hx:ev env x = .slice none n c) (h:K (.pointer none)) :
  a9r G.P C { dst,op:=.call { callee:=.builtin .unsafeSliceData,args:=#[x],argTypes:=ts },type:=ty,pos,after:=af,guard:=gd } env K:=by
 refine ⟨_,fun w _=>?_,h⟩;simp only [execOp,resolve,invoke,builtin,Sem.run_bind,Sem.run_pure,Result.andThen_ok,List.map_toArray,yP,List.map_nil,hx,Lib.run_unsafeSliceData_nil]
theorem c6q {x y:Operand} (hx:ev env x = .pointer none) (hy:ev env y = .int .i64 0) (h:K (.string .empty) w) :
  L5 G.P { dst,op:=.call { callee:=.builtin .unsafeString,args:=#[x,y],argTypes:=#[221,3] },type:=ty,pos,after:=af,guard:=gd } env w K:=by
 refine ⟨.inl ⟨_,_,?_,h⟩⟩;simp only [execOp,resolve,invoke,builtin,Sem.run_bind,Sem.run_pure,Result.andThen_ok,List.map_toArray,yP,List.map_nil,hx,hy,Lib.run_unsafeString_none]
end
section
variable {b B:Nat} {w:World} {l:Tx}
theorem b3r (s:Tx) (h:Bq b B w l) (hl:l.length+s.length≤1000000) :
  Calls G.P 118 #[.pointer (some ⟨b,0,none⟩),m9 s] w (fun r w'=>r = .returned (.tuple #[.int .i64 s.length,.nilIface])∧Bq b B w' (l++s)∧Wb b B w w'):=by
 obtain ⟨p,v,hp,hk,hr⟩:=h.is;have hs:(tx s).size=s.length:=C3 _;have hB:=h.le;refine zN Tryz.func118 ?_;refine zR ?_;refine m8 (a7b hp hk) ?_;rintro r w1 ⟨rfl,u1⟩;refine ⟨_,rfl,?_⟩;have hv:=hr.updT u1 hk zd;obtain ⟨av,cv,rfl,hav⟩:=hv.form;have hB1:B≤w1.heap.size:=by rw [u1.size];exact hB
 refine zR ?_;refine d9 _ (D8 u1.at_ rfl rfl) (zR ?_);refine c5h rfl hv rfl hl hB1 fun v' w2 hr2 hc2=>?_;have n2:Wb b B w1 w2:=Wb.grown (b0:=B) hc2 hv hB1;obtain ⟨a9,c9,rfl,_⟩:=hr2.form;have hk2:w2.heap[b]?=some (.cells #[.pointer (some ⟨b,0,none⟩),.slice av l.length cv] 160 (0,0)):=by
  rw [hc2.block b (C5 u1.at_) (fun e=>by have:=(Row.own hv e.symm).1;have:=h.lt;omega)];exact u1.at_
 refine zR ?_;refine zT hk2 [.slice a9 (l++s).length c9] fun w3 u3=>?_;refine zR ?_;rw [hs];exact ⟨rfl,⟨⟨_,_,.inr rfl,u3.at_,hr2.updT u3 hk2 zd⟩,h.lt,by rw [u3.size];exact n2.size⟩,((Wb.upd u1 hk hB).trans n2).trans (Wb.upd u3 hk2 n2.size)⟩
theorem b0F (s:UInt8) (h:Bq b B w l) (hl:l.length+1≤100000) :
  Calls G.P 207 #[.pointer (some ⟨b,0,none⟩),.int .u8 (s.toNat:Int)] w (fun r w'=>r = .returned .nilIface∧Bq b B w' (l++[s])∧Wb b B w w'):=by
 obtain ⟨p,v,hp,hk,hr⟩:=h.is;have hB:=h.le;refine zN Tryz.func207 ?_;refine zR ?_;refine m8 (a7b hp hk) ?_;rintro r w1 ⟨rfl,u1⟩;refine ⟨_,rfl,?_⟩;have hv:=hr.updT u1 hk zd;obtain ⟨av,cv,rfl,hav⟩:=hv.form;have hB1:B≤w1.heap.size:=by rw [u1.size];exact hB
 refine zR ?_;refine d9 _ (D8 u1.at_ rfl rfl) (zR ?_);refine B6 S7 [.int .u8 (s.toNat:Int)] (by rw [zb];rfl) (by intro v hv;rw [zY.1 hv];rfl) rfl zd zd (zR ?_)
 refine S0 S7 s rfl hv rfl rfl rfl P5 a3A hl zd hB1 fun v' w2 hr2 hc2=>?_;have n2:Wb b B w1 w2:=Wb.grow hc2 hv hB1;obtain ⟨a9,c9,rfl,_⟩:=hr2.form;have hk2:w2.heap[b]?=some (.cells #[.pointer (some ⟨b,0,none⟩),.slice av l.length cv] 160 (0,0)):=hc2.keep b _ u1.at_ (fun e=>by have:=(Row.own hv e).1;have:=h.lt;omega)
 refine zR ?_;refine J6 hk2 [.slice a9 (l++[s]).length c9] rfl zk rfl (by intro v hv;simp at hv;subst hv;rfl) (zU rfl) fun w3 u3=>zR ?_
 exact ⟨rfl,⟨⟨_,_,.inr rfl,u3.at_,hr2.updT u3 hk2 zd⟩,h.lt,by rw [u3.size];exact n2.size⟩,((Wb.upd u1 hk hB).trans n2).trans (Wb.upd u3 hk2 n2.size)⟩
theorem c6l (h:Bq b B w l):Calls G.P 154 #[.pointer (some ⟨b,0,none⟩)] w (D9 (.int .i64 l.length) w):=by
 obtain ⟨p,v,hp,hk,hr⟩:=h.is;obtain ⟨av,cv,rfl,hav⟩:=hr.form;refine zN Tryz.func154 ?_;refine zR ?_;refine d9 _ (D8 hk rfl rfl) (zR ?_);exact ⟨rfl,rfl⟩
theorem c5j (hk:w.heap[b]?=some (.cells #[.pointer none,.slice none 0 0] 160 (0,0))):Calls G.P 124 #[.pointer (some ⟨b,0,none⟩)] w (L4 (m9 []) w):=by
 refine zN Tryz.func124 ?_;refine zR ?_;refine zK 10 ?_;refine zR ?_;refine m7 _ (fun w' hw=>D8 (hw.blk hk) rfl rfl) (zR ?_);refine c5i rfl (zR ?_);refine m7 _ (fun w' hw=>D8 (hw.blk hk) rfl rfl) (zR ?_);intro w2 c2;refine zR ?_;refine c6q rfl rfl (zR ?_);exact ⟨rfl,c2⟩
theorem b2W (h:Bq b B w l) (hl:l≠[]) (h6:l.length≤1000000):Calls G.P 124 #[.pointer (some ⟨b,0,none⟩)] w (fun r w'=>r = .returned (m9 l)∧Wb b B w w'):=by
 obtain ⟨p,v,hp,hk,hr⟩:=h.is;have hpos:0<l.length:=List.length_pos_iff.2 hl;obtain ⟨g,cap,cur,rfl,hg,hcap,hgb,hlc,hcc⟩:∃ g cap cur,v = .slice (some ⟨g,0,none⟩) l.length cap∧B≤g∧l.length≤cap∧w.heap[g]?=some (.cells cur 5 (0,0))∧l.length≤cur.size∧∀ (j:Nat) (x:UInt8),l[j]?=some x→cur[j]?=some (Value.int .u8 x.toNat):=by
  have hown:=a8L.1 hr;rcases hr.2 with ⟨_,e⟩ | ⟨g,cap,cur,e,hg,hb,hle,_,hsz,_⟩
  ·omega
  ·subst e;refine ⟨g,cap,cur,rfl,hg,hle,hb,zo,fun j x hx=>?_⟩;have:=hown.cells (g:=g) rfl j (.int .u8 x.toNat) (by simp [Lib.byteCells,hx])
   rw [H5,yV,D2 hb] at this;exact this
 refine zN Tryz.func124 ?_;refine zR ?_;refine zK 10 ?_;refine zR ?_;refine m7 _ (fun w' hw=>D8 (hw.blk hk) rfl rfl) (zR ?_);refine b8Z rfl zo (zR ?_);refine m7 _ (fun w' hw=>D8 (hw.blk hk) rfl rfl) (zR ?_);intro w2 c2;refine zR ?_;refine c39 rfl rfl hl h6 (c2.blk hgb) hlc hcc (zR ?_);have n1:Wb b B w w2:=Wb.cl c2 h.le;refine ⟨rfl,n1.trans ?_⟩;have hg2:=c2.blk hgb;have hs2:B≤w2.heap.size:=n1.size;unfold World.freeze;split
 ·exact Wb.refl b hs2
 ·refine ⟨rfl,rfl,rfl,by simpa using hs2,fun k hk hn=>?_,fun k cs t fz h1 h2 hk=>?_⟩
  ·simp only [Array.getElem?_modify];rw [zJ zo]
  ·have hne:g≠k:=(O1 hk hg2 h1).symm;simp only [Array.getElem?_modify];rw [zJ hne];exact hk
end
structure Sf (P b:Nat) (p:l9) (cv:Value) (w w':World) (cv':Value):Prop where
 pos:H9 w' P b p cv'
 tn:Tn P w w'
 own:∀ k,cv'.ownBlock=some k→cv.ownBlock=some k∨w.heap.size≤k
section
variable {P b:Nat} {p:l9} {cv cv':Value} {w w' w2:World}
theorem Sf.of (h:H9 w P b p cv) (c:Cl w w'):Sf P b p cv w w' cv:=⟨h.step c,Tn.cl c,fun k hk=>.inl hk⟩
theorem Sf.cl (h:Sf P b p cv w w' cv') (c:Cl w' w2):Sf P b p cv w w2 cv':=⟨h.pos.step c,h.tn.trans (Tn.cl c),h.own⟩
theorem Sf.pre (c:Cl w2 w) (h:Sf P b p cv w w' cv'):Sf P b p cv w2 w' cv':=⟨h.pos,(Tn.cl c).trans h.tn,fun k hk=>(h.own k hk).imp id (zu c.size)⟩
theorem Sf.wb {k B:Nat} (h:Sf P b p cv w w' cv') (u:Wb k B w' w2) (hk:w.heap.size≤k) (hB:w.heap.size≤B):Sf P b p cv w w2 cv':=by
 refine ⟨⟨u.typ _ _ _ _ zd zd h.pos.hd,u.typ _ _ _ _ zd zd h.pos.bd,?_⟩,⟨u.os.trans h.tn.os,u.tape.trans h.tn.tape,u.output.trans h.tn.output,zu hB u.size,fun j hj hn=>(u.low j zo zo).trans (h.tn.else_ j hj hn)⟩,h.own⟩;rcases h.pos.ca with e | hr
 ·exact .inl e
 ·refine .inr ⟨hr.1,?_⟩;rcases hr.2 with e | ⟨g,cap,cur,e1,e2,e3,e4⟩
  ·exact .inl e
  ·exact .inr ⟨g,cap,cur,e1,e2,u.typ _ _ _ _ zd zd e3,e4⟩
theorem Sf.tabs (h:Sf P b p cv w w' cv') (hT:C9 w) (hM:H9 w P b p cv):C9 w':=hT.fr (Fr.tn (S:=[P]) h.tn (.inl (by simp))) fun k hk cs t fz hh=>by
 rw [zY.1 hk] at hh;rw [← (Obj.cells.inj (Option.some.inj (hM.hd.symm.trans hh))).2.1];decide
theorem Sf.nd (h:Sf P b p cv w w' cv') (hM:H9 w P b p cv) {k:Nat} {cs:Array Value} {t:Nat} {fz:Nat×Nat} (hk:w.heap[k]?=some (.cells cs t fz)) (ht:t≠173):w'.heap[k]?=some (.cells cs t fz):=h.tn.blk hk (O1 hk hM.hd ht)
end
set_option maxHeartbeats 2000000 in
theorem c5k {p:l9} (hI:B9 p) (hle:(A5 p).length≤218) {P b M t:Nat} {fz:Nat×Nat} {cv:Value} {d:Nd} (f0:0≤d.mv.fr) (f1:d.mv.fr≤63) (w:World) (hT:C9 w) (hM:H9 w P b p cv)
  (hD:w.heap[M]?=some (.cells (F6 d) t fz)) (hnt:t≠173) (hnu:t≠5) (hnb:t≠160) :
  Calls G.P 153 #[.pointer (some ⟨P,0,none⟩),.pointer (some ⟨M,0,none⟩)] w (fun r w'=>r = .returned (m9 (s1M p (O0 p) d.mv))∧∃ cv',Sf P b p cv w w' cv'):=by
 obtain ⟨fr,hfr⟩:=ze f0;have hf64:fr<64:=by omega
 have pcs:=fun (s:Nat) (hs:s<64) w hT hB=>a0b (mbOf p) b (t:=237) (fz:=(0,0)) s hs w hT hB;have pc:=pcs fr hf64;rw [V0 hI.pc hf64,← hfr] at pc;have hpr:=hI.pc d.mv.fr;have ety:=fun w=>a1i (sq p d.mv.fr) hpr.1 hpr.2 w;have hs1:s1M p (O0 p) d.mv=if kindOf (sq p d.mv.fr)=6 then [] else (if ((rivM p (O0 p) d.mv).any fun x=>decide (x.mv.fr/8=d.mv.fr/8))||(!((rivM p (O0 p) d.mv).any fun x=>decide (x.mv.fr%8=d.mv.fr%8)) && !(rivM p (O0 p) d.mv).isEmpty) then r9 d.mv.fr else [])++(if ((rivM p (O0 p) d.mv).any fun x=>decide (x.mv.fr%8=d.mv.fr%8)) then a0K d.mv.fr else []):=rfl
 rw [hs1];clear hs1;obtain ⟨mm1,_⟩:=a1o hI;refine zN Tryz.func153 ?_;refine zR ?_;refine zK 9 ?_;refine zR ?_;refine qHb hM.hd (zR ?_);refine a38 hD (zR ?_);refine o5 _ (fun w hw=>pc w (hT.cl hw) (hw.blk hM.bd)) (zR ?_);intro w1 c1;refine zR ?_;refine g8 (ety _) (zR ?_);apply E.d6<;>intro h
 ·rw [zM h];refine zR ?_;exact ⟨rfl,cv,Sf.of hM c1⟩
 rw [zJ h];clear h;refine zR ?_;refine t7 _ b30 ?_;have cA:=Cl.alloc w1 (.cells (Value.agg #[.pointer none,.slice none 0 0]).cells 160);have nA:=g7 w1 (.cells (Value.agg #[.pointer none,.slice none 0 0]).cells 160);have sA:=A8 w1 (.cells (Value.agg #[.pointer none,.slice none 0 0]).cells 160);generalize w1.alloc (.cells (Value.agg #[.pointer none,.slice none 0 0]).cells 160)=w2 at *;refine zR ?_;refine m8 (b0P nA) ?_;rintro r w3 ⟨rfl,u3⟩;refine ⟨_,rfl,?_⟩;have c3:Cl w w3:=c1.trans ((Tn.upd u3).toCl cA (yH _));have c13:Cl w1 w3:=(Tn.upd u3).toCl cA (yH _);refine zR ?_;refine m8 (a5G hI hle w3 (hT.cl c3) (hM.step c3)) ?_;rintro r w4 ⟨v,cv',rfl,hr,hM4,n4,hrc,hown⟩;have hb4:=n4.blk u3.at_ (O1 u3.at_ (hM.step c3).hd zd);have hS4:Sf P b p cv w w4 cv':=Sf.pre c3 ⟨hM4,n4,hown⟩;have hT4:=hS4.tabs hT hM;have hD4:=hS4.nd hM hD hnt;obtain ⟨av,ck,rfl,hav⟩:=hr.form;refine ⟨_,rfl,?_⟩;have hlen:=a5F hI hle;refine zR ?_;refine A9 (σ:=Nat) [6,7,8,11,30] 31 (fun i=>[(6,.bool (!(rivM p ((O0 p).take i) d.mv).isEmpty)),(7,.bool ((rivM p ((O0 p).take i) d.mv).any fun x=>decide (x.mv.fr/8=d.mv.fr/8))),(8,.bool ((rivM p ((O0 p).take i) d.mv).any fun x=>decide (x.mv.fr%8=d.mv.fr%8))),(30,.int .i64 i)])
  (fun i w'=>i≤(O0 p).length∧Cl w4 w') (fun i=>(O0 p).length-i) zk 0 ⟨Nat.zero_le _,Cl.refl _⟩ ⟨rfl,rfl,rfl,rfl,trivial⟩ ?_
 rintro i j w5 ⟨hi,c5⟩;have ni:=C0 (i:=i) zo;refine zR ?_;apply E.d6<;>intro h
 ·have hi2:i<(O0 p).length:=by omega
  clear h;refine zG ?_;refine B0 (σ:=Unit) [6,7,8,11] 31 (fun _=>[(6,.bool (!(rivM p ((O0 p).take (i+1)) d.mv).isEmpty)),(7,.bool ((rivM p ((O0 p).take (i+1)) d.mv).any fun x=>decide (x.mv.fr/8=d.mv.fr/8))),(8,.bool ((rivM p ((O0 p).take (i+1)) d.mv).any fun x=>decide (x.mv.fr%8=d.mv.fr%8)))])
   (fun _ w'=>Cl w4 w') zk ?_ (fun _ j w8 c8=>?_)
  ·obtain ⟨g,rfl⟩:=hav zo;have hsn:=b6l p (O0 p) d.mv hi2;have hld:=fun {o:Nat} (ho:o=i*11)=>b0Q (hr.step c5) i hi2 ho;have hxl:=(mm1 (O0 p)[i] (yM hi2)).1;generalize (O0 p)[i]=x at *;have hxr:=A7 hI hxl;obtain ⟨xf,hxf⟩:=ze hxr.1;have hxf64:xf<64:=by omega
   have pcx:=pcs xf hxf64;rw [V0 hI.pc hxf64,← hxf] at pcx;refine zR ?_;refine zC ?_;refine zR ?_;refine d9 _ (hld (a0W _ _)) (zR ?_);refine t7 _ a43 ?_;have cB:=Cl.alloc w5 (.cells (Value.agg (F6 (C2 ⟨⟨0,0,0⟩,0⟩))).cells 141);have nB:=g7 w5 (.cells (Value.agg (F6 (C2 ⟨⟨0,0,0⟩,0⟩))).cells 141);generalize w5.alloc (.cells (Value.agg (F6 (C2 ⟨⟨0,0,0⟩,0⟩))).cells 141)=w6 at *;refine zR ?_;refine J6 nB (D3 x) rfl a0Q rfl (F5 x) (zU rfl) fun w7 u7=>?_;have hX:w7.heap[w5.heap.size]?=some (.cells (F6 (C2 x)) 141 (0,0)):=by have h7:=u7.at_;rw [B7 _ _ (by rw [J1];rfl)] at h7;exact h7
   have c7:Cl w5 w7:=(Tn.upd u7).toCl cB (yH _);have c47:=c5.trans c7;have hM7:=hM4.step c47;have hD7:=c47.blk hD4;generalize rivM p ((O0 p).take (i+1)) d.mv=A' at *;generalize rivM p ((O0 p).take i) d.mv=A at *;refine zR ?_;refine zK 27 ?_;refine zR ?_;refine a38 hX (zR ?_);refine a38 hD7 (zR ?_);apply E.y8<;>intro h
   ·have h1:¬ x.mv.fr=d.mv.fr:=h;clear h;refine zR ?_;refine b0E hX (zR ?_);refine b0E hD7 (zR ?_);apply E.d6<;>intro h
    ·have h2:x.mv.to=d.mv.to:=h;clear h;refine zR ?_;refine qHb hM7.hd (zR ?_);refine a38 hX (zR ?_);refine o5 _ (fun w hw=>pcx w ((hT4.cl c47).cl hw) (hw.blk hM7.bd)) (zR ?_);intro w8 c8;refine zG ?_;refine zR ?_;apply E.d6<;>intro h
     ·have hyes:A'=A++[x]:=by rw [hsn,zV h1,zX h2,zX h];rfl
      clear h;refine zR ?_;refine zK 9 ?_;refine zR ?_;refine a38 (c8.blk hX) (zR ?_);refine o5 _ (fun w hw=>a1q x.mv.fr hxr.1 hxr.2.1 w) (zR ?_);refine a38 (c8.blk hD7) (zR ?_);refine o5 _ (fun w hw=>a1q d.mv.fr f0 f1 w) (zR ?_);intro w9 c9;have c79:=c8.trans c9;refine zR ?_;apply E.d6<;>intro h
      ·have hf:=h;clear h;refine zR ?_;refine zK 9 ?_;refine zR ?_;refine a38 (c79.blk hX) (zR ?_);refine o5 _ (fun w hw=>a0V x.mv.fr hxr.1 hxr.2.1 w) (zR ?_);refine a38 (c79.blk hD7) (zR ?_);refine o5 _ (fun w hw=>a0V d.mv.fr f0 f1 w) (zR ?_);intro w10 c10;have c410:=(c47.trans c79).trans c10;refine zR ?_;apply E.d6<;>intro h
       ·refine zR ?_;exact ⟨(),⟨z6 (by rw [hyes];simp),z6 (by rw [hyes];simp [h]),z6 (by rw [hyes];simp [hf]),trivial⟩,c410⟩
       ·refine zR ?_;exact ⟨(),⟨z6 (by rw [hyes];simp),z6 (by rw [hyes];simp [h]),z6 (by rw [hyes];simp [hf]),trivial⟩,c410⟩
      ·have hf:=h;clear h;refine zR ?_;refine zK 9 ?_;refine zR ?_;refine a38 (c79.blk hX) (zR ?_);refine o5 _ (fun w hw=>a0V x.mv.fr hxr.1 hxr.2.1 w) (zR ?_);refine a38 (c79.blk hD7) (zR ?_);refine o5 _ (fun w hw=>a0V d.mv.fr f0 f1 w) (zR ?_);intro w10 c10;have c410:=(c47.trans c79).trans c10;refine zR ?_;apply E.d6<;>intro h
       ·refine zR ?_;exact ⟨(),⟨z6 (by rw [hyes];simp),z6 (by rw [hyes];simp [h]),z6 (by rw [hyes];simp [hf]),trivial⟩,c410⟩
       ·refine zR ?_;exact ⟨(),⟨z6 (by rw [hyes];simp),z6 (by rw [hyes];simp [h]),z6 (by rw [hyes];simp [hf]),trivial⟩,c410⟩
     ·have hno:A'=A:=by rw [hsn,zV h,Bool.and_false];simp
      refine zR ?_;exact ⟨(),⟨z6 (by rw [hno]),z6 (by rw [hno]),z6 (by rw [hno]),trivial⟩,c47.trans c8⟩
    ·have hno:A'=A:=by rw [hsn,show decide (x.mv.to=d.mv.to)=false from zV h,Bool.and_false,Bool.false_and];simp
     refine zR ?_;repeat (refine E.p8 h ?_;refine zR ?_)
     intro w8 c8;refine zR ?_;exact ⟨(),⟨z6 (by rw [hno]),z6 (by rw [hno]),z6 (by rw [hno]),trivial⟩,c47.trans c8⟩
   ·have hno:A'=A:=by rw [hsn,show decide (x.mv.fr=d.mv.fr)=true from zX h];simp
    refine zR ?_;intro w8 c8;refine zR ?_;exact ⟨(),⟨z6 (by rw [hno]),z6 (by rw [hno]),z6 (by rw [hno]),trivial⟩,c47.trans c8⟩
  ·refine zR ?_;exact ⟨i+1,⟨rfl,rfl,rfl,d7 ni,trivial⟩,⟨zo,c8⟩,zo⟩
 ·have e:i=(O0 p).length:=by omega
  subst e;rw [yY];have hfr:=c5.blk hb4;have hbq:=Bq.fresh hfr;have hS5:=hS4.cl c5;have hD5:=c5.blk hD4;have hw1:w.heap.size≤w1.heap.size:=c1.size;have hw5:w.heap.size≤w5.heap.size:=hS5.tn.size;generalize ((rivM p (O0 p) d.mv).any fun x=>decide (x.mv.fr/8=d.mv.fr/8))=FQ at *;generalize ((rivM p (O0 p) d.mv).any fun x=>decide (x.mv.fr%8=d.mv.fr%8))=RQ at *;generalize (rivM p (O0 p) d.mv).isEmpty=RE at *;refine zG ?_;refine B0 (σ:=Unit) [] 31 (fun _=>[]) (fun _ w'=>Sf P b p cv w w' cv'∧w'.heap[M]?=some (.cells (F6 d) t fz)∧Bq w1.heap.size w5.heap.size w' (if (FQ||(!RQ && !RE))=true then r9 d.mv.fr else [])∧((if (FQ||(!RQ && !RE))=true then r9 d.mv.fr else [])=[]→w'.heap[w1.heap.size]?=some (.cells #[.pointer none,.slice none 0 0] 160 (0,0)))) zk ?_ (fun _ j w6 h6=>?_)
  ·cases FQ<;>cases RQ<;>cases RE<;>(refine zR ?_)<;>first
    | exact ⟨(),trivial,hS5,hD5,hbq,fun _=>hfr⟩
    | (refine a4t hD5 ?_
       refine zR ?_;refine g8 (a1q d.mv.fr f0 f1 _) (zR ?_);refine g8 (b5b (d.mv.fr%8) zo zo _) (zR ?_);refine m8 (b0F (UInt8.ofNat (97+(d.mv.fr%8).toNat)) hbq zd) ?_;rintro r w6 ⟨rfl,h6,b6⟩;refine ⟨_,rfl,?_⟩;refine zR ?_;exact ⟨(),trivial,hS5.wb b6 hw1 hw5,b6.typ _ _ _ _ hnu hnb hD5,h6,fun e=>by cases e⟩)
  obtain ⟨hS6,hD6,hq6,hf6⟩:=h6;have hl6:(if (FQ||(!RQ && !RE))=true then r9 d.mv.fr else []).length+1≤1000:=by split<;>simp [r9]
  generalize (if (FQ||(!RQ && !RE))=true then r9 d.mv.fr else [])=L at *
  cases RQ
  ·refine zR ?_;by_cases hL:L=[]
   ·refine o8 (c5j (hf6 hL)) fun w7 c7=>zR ?_;exact ⟨by rw [hL];simp;rfl,cv',hS6.cl c7⟩
   ·refine m8 (b2W hq6 hL zo) ?_;rintro r w7 ⟨rfl,b7⟩;refine ⟨_,rfl,?_⟩;refine zR ?_;exact ⟨by simp;rfl,cv',hS6.wb b7 hw1 hw5⟩
  ·refine zR ?_;refine a4t hD6 (zR ?_);refine g8 (a0V d.mv.fr f0 f1 _) (zR ?_);refine g8 (b5c (d.mv.fr/8) zo zo _) (zR ?_);refine m8 (b0F (UInt8.ofNat (49+(d.mv.fr/8).toNat)) hq6 zo) ?_;rintro r w7 ⟨rfl,h7,b7⟩;refine ⟨_,rfl,?_⟩;refine zR ?_;refine m8 (b2W h7 (by simp) (by rw [zF];simp;omega)) ?_
   rintro r w8 ⟨rfl,b8⟩;refine ⟨_,rfl,?_⟩;refine zR ?_;exact ⟨rfl,cv',(hS6.wb b7 hw1 hw5).wb b8 hw1 hw5⟩
structure Bz (P b M:Nat) (p:l9) (cv:Value) (d:Nd) (w:World) (k B:Nat) (cv':Value) (l:Tx) (w':World):Prop where
 sf:Sf P b p cv w w' cv'
 nd:w'.heap[M]?=some (.cells (F6 d) 141 (0,0))
 bq:Bq k B w' l
 hk:w.heap.size≤k
 hB:w.heap.size≤B
section
variable {P b M k B:Nat} {p:l9} {cv cv':Value} {d:Nd} {w w' w2:World} {l:Tx}
theorem Bz.step (h:Bz P b M p cv d w k B cv' l w') (c:Cl w' w2):Bz P b M p cv d w k B cv' l w2:=⟨h.sf.cl c,c.blk h.nd,h.bq.step c,h.hk,h.hB⟩
theorem a0Y (s:Tx) (h:Bz P b M p cv d w k B cv' l w') (hl:l.length<1000) (hs:s.length<1000) :
  Calls G.P 118 #[.pointer (some ⟨k,0,none⟩),m9 s] w' (fun r w2=>r = .returned (.tuple #[.int .i64 s.length,.nilIface])∧Bz P b M p cv d w k B cv' (l++s) w2) :=
 (b3r s h.bq zo).mono fun _ _ hr=>⟨hr.1,h.sf.wb hr.2.2 h.hk h.hB,hr.2.2.typ _ _ _ _ zd zd h.nd,hr.2.1,h.hk,h.hB⟩
end
set_option maxHeartbeats 2000000 in
theorem b6W {p:l9} (hI:B9 p) (hN:a06 p) (hle:(A5 p).length≤218) {d:Nd} {P b M:Nat} {cv:Value} (hm:d.mv∈s8 p) {ck:Bool} (hck:inCheck (made p d.mv)=true→ck=true) (htg:(d.tags:Int)=J4 p d.mv+(if ck then 16 else 0)) (w:World) (hT:C9 w) (hP:H9 w P b p cv)
  (hM:w.heap[M]?=some (.cells (F6 d) 141 (0,0))) :
  Calls G.P 104 #[.agg #[],.pointer (some ⟨P,0,none⟩),.pointer (some ⟨M,0,none⟩)] w (fun r w'=>r = .returned (m9 (b6g p d.mv d.tags))∧∃ cv',Sf P b p cv w w' cv'):=by
 obtain ⟨_,_,h64⟩:=a0R htg;obtain ⟨f0,f1,t0,t1,hpm⟩:=A7 hI hm;obtain ⟨fr,hfr⟩:=ze f0;have hf64:fr<64:=by omega
 have pc:=fun w hT hB=>a0b (mbOf p) b (t:=237) (fz:=(0,0)) fr hf64 w hT hB;rw [V0 hI.pc hf64,← hfr] at pc;have hpr:=hI.pc d.mv.fr;have ety:=fun w=>a1i (sq p d.mv.fr) hpr.1 hpr.2 w;have hchk:=fun (cv:Value) (w:World) hT hP hM=>a3D hI hN (P:=P) (b:=b) (M:=M) (cv:=cv) (d:=d) hm hck htg w hT hP hM;have hfs:=fun (w:World) hT hP hM=>c5k hI hle (P:=P) (b:=b) (M:=M) (t:=141) (fz:=(0,0)) (cv:=cv) (d:=d) f0 f1 w hT hP hM zd zd zd;have htoT:V4 d.mv.to=r9 d.mv.to++a0K d.mv.to:=by unfold V4;rw [zJ zo]
 have hk0:0≤kindOf (sq p d.mv.fr)∧kindOf (sq p d.mv.fr)≤6:=by unfold kindOf;split<;>omega
 have hs6:kindOf (sq p d.mv.fr)=6→s1M p (O0 p) d.mv=[]:=fun h=>by unfold s1M;rw [zM h]
 have hsan:b6g p d.mv d.tags=if d.tags.testBit 0 then [79,45,79]++signM p d.mv d.tags else if d.tags.testBit 1 then [79,45,79,45,79]++signM p d.mv d.tags
  else a0H (kindOf (sq p d.mv.fr))++s1M p (O0 p) d.mv++(if d.tags.testBit 2||d.tags.testBit 3 then (if kindOf (sq p d.mv.fr)=6 then r9 d.mv.fr else [])++[120] else [])++V4 d.mv.to++(if d.mv.promo=0 then [] else [61]++a0H d.mv.promo)++signM p d.mv d.tags:=rfl
 rw [hsan];clear hsan;have gl:=a65 p d.mv d.tags;have sl:=c0O p (O0 p) d.mv;have ll:(a0H (kindOf (sq p d.mv.fr))).length≤1:=K2 _;have pl:(a0H d.mv.promo).length≤1:=K2 _;have el:=fun w=>a5L (kindOf (sq p d.mv.fr)) hk0.1 hk0.2 w;have ep:=fun w=>a5L d.mv.promo zo zo w;generalize signM p d.mv d.tags=SG at *;generalize s1M p (O0 p) d.mv=S1 at *;generalize kindOf (sq p d.mv.fr)=KD at *;refine zN Tryz.func104 ?_;refine zR ?_;have cb:=Cl.alloc w (.cells #[] 149);generalize w.alloc (.cells #[] 149)=wb at *;refine o8 (hchk cv wb (hT.cl cb) (hP.step cb) (cb.blk hM)) fun w1 c1=>?_;have cw1:=cb.trans c1;have hM1:=cw1.blk hM;refine zR ?_;refine g8 (a0v hM1 h64 0 zd _ rfl) ?_;cases hb0:d.tags.testBit 0;rotate_left
 ·refine zR ?_;refine E.A2 (z8 (x:=[79,45,79]) (y:=SG) (by simp;omega)) (zR ?_)
  exact ⟨F0 (A6 [79,45,79] SG),cv,Sf.of hP cw1⟩
 refine zR ?_;refine g8 (a0v hM1 h64 1 zd _ rfl) ?_;cases hb1:d.tags.testBit 1;rotate_left
 ·refine zR ?_;refine E.A2 (z8 (x:=[79,45,79,45,79]) (y:=SG) (by simp;omega)) (zR ?_)
  exact ⟨F0 (A6 [79,45,79,45,79] SG),cv,Sf.of hP cw1⟩
 refine zR ?_;refine t7 _ b30 ?_;have cA:=Cl.alloc w1 (.cells (Value.agg #[.pointer none,.slice none 0 0]).cells 160);have nA:=g7 w1 (.cells (Value.agg #[.pointer none,.slice none 0 0]).cells 160);generalize w1.alloc (.cells (Value.agg #[.pointer none,.slice none 0 0]).cells 160)=w2 at *;refine zR ?_;refine m8 (b0P nA) ?_;rintro r w3 ⟨rfl,u3⟩;refine ⟨_,rfl,?_⟩;have cw3:=cw1.trans ((Tn.upd u3).toCl cA (yH _));have hb3:Bz P b M p cv d w w1.heap.size w3.heap.size cv [] w3:=⟨Sf.of hP cw3,cw3.blk hM,Bq.fresh u3.at_,cw1.size,cw3.size⟩;refine zR ?_;refine g8 (b0S (hP.step cw3).hd) (zR ?_);refine g8 (c0N (cw3.blk hM)) (zR ?_);refine g8 (pc _ (hT.cl cw3) (hP.step cw3).bd) (zG ?_);refine B0 (σ:=Unit) [10] 12 (fun _=>[]) (fun _ w'=>Bz P b M p cv d w w1.heap.size w3.heap.size cv (a0H KD) w') zk ?_ (fun _ j w4 h4=>?_)
 ·refine zR ?_;refine g8 (ety _) (zR ?_);refine g8 (el _) ?_;rcases kinds hk0.1 hk0.2 with rfl | rfl | rfl | rfl | rfl | rfl | rfl<;>(refine zR ?_)<;>first
   | exact ⟨(),trivial,hb3⟩
   | (refine m8 (a0Y (a0H _) hb3 zd (by rw [a0H];decide)) ?_
      rintro r w4 ⟨rfl,h4⟩;refine ⟨_,rfl,?_⟩;refine zR ?_;exact ⟨(),trivial,h4⟩)
 refine B0 (σ:=Value) [11] 12 (fun _=>[]) (fun cv' w'=>Bz P b M p cv d w w1.heap.size w3.heap.size cv' (a0H KD++S1) w') zk ?_ (fun cv' j w5 h5=>?_)
 ·refine zR ?_;refine m8 (hfs _ (h4.sf.tabs hT hP) h4.sf.pos h4.nd) ?_;rintro r w5 ⟨rfl,cv',f5⟩;refine ⟨_,rfl,?_⟩;have h5:Bz P b M p cv d w w1.heap.size w3.heap.size cv' (a0H KD) w5:=⟨⟨f5.pos,h4.sf.tn.trans f5.tn,fun k hk=>by
   rcases f5.own k hk with e | e
   ·exact h4.sf.own k e
   ·exact .inr (zu h4.sf.tn.size e)⟩,f5.nd h4.sf.pos h4.nd zd,h4.bq.tn f5.tn h4.sf.pos.hd,h4.hk,h4.hB⟩
  refine zR ?_;apply E.y8<;>intro h
  ·refine zR ?_;refine m8 (a0Y S1 h5 zo zo) ?_;rintro r w6 ⟨rfl,h6⟩;refine ⟨_,rfl,?_⟩;refine zR ?_;exact ⟨cv',trivial,h6⟩
  ·have e:S1=[]:=by rw [Z8] at h;exact N5.1 h
   refine zR ?_;exact ⟨cv',trivial,by rw [e,zm];exact h5⟩
 have hM5:=h5.nd;have hl5:(a0H KD++S1).length≤3:=by rw [zF];omega
 refine B0 (σ:=Unit) [] 12 (fun _=>[]) (fun _ w'=>Bz P b M p cv d w w1.heap.size w3.heap.size cv' ((a0H KD++S1)++(if d.tags.testBit 2||d.tags.testBit 3 then (if KD=6 then r9 d.mv.fr else [])++[120] else [])) w') zk ?_ (fun _ j w6 h6=>?_)
 ·have tg2:=a0v hM5 h64 2 zd 4 rfl;have tg3:=a0v hM5 h64 3 zd 8 rfl;cases hb2:d.tags.testBit 2
  ·rw [hb2] at tg2;refine zR ?_;refine g8 tg2 (zR ?_);cases hb3':d.tags.testBit 3
   ·rw [hb3'] at tg3;refine g8 tg3 (zR ?_);exact ⟨(),trivial,by simpa using h5⟩
   ·rw [hb3'] at tg3;refine g8 tg3 (zR ?_);refine g8 (ety _) ?_;by_cases hk:KD=6
    ·subst hk;have e:a0H 6++S1=[]:=by rw [hs6 rfl];rfl
     rw [e] at h5 ⊢;refine zR ?_;refine g8 (c6l h5.bq) (zR ?_);refine a4t hM5 (zR ?_);refine g8 (a1q d.mv.fr f0 f1 _) (zR ?_);refine g8 (b3H (d.mv.fr%8) zo zo _) (zR ?_);refine m8 (a0Y (r9 d.mv.fr) h5 zd (by rw [a9X];decide)) ?_
     rintro r w6 ⟨rfl,h6⟩;refine ⟨_,rfl,?_⟩;refine zR ?_;refine m8 (a0Y [120] h6 (by simp [r9]) zd) ?_
     rintro r w7 ⟨rfl,h7⟩;refine ⟨_,rfl,?_⟩;refine zR ?_;exact ⟨(),trivial,h7⟩
    ·refine zR ?_;refine E.p8 hk (zR ?_);repeat (refine E.p8 hk ?_;refine zR ?_)
     refine m8 (a0Y [120] h5 zo zd) ?_;rintro r w7 ⟨rfl,h7⟩;refine ⟨_,rfl,?_⟩;refine zR ?_;exact ⟨(),trivial,by rw [zJ hk];exact h7⟩
  ·rw [hb2] at tg2;refine zR ?_;refine g8 tg2 (zR ?_);refine g8 (ety _) ?_;by_cases hk:KD=6
   ·subst hk;have e:a0H 6++S1=[]:=by rw [hs6 rfl];rfl
    rw [e] at h5 ⊢;refine zR ?_;refine g8 (c6l h5.bq) (zR ?_);refine a4t hM5 (zR ?_);refine g8 (a1q d.mv.fr f0 f1 _) (zR ?_);refine g8 (b3H (d.mv.fr%8) zo zo _) (zR ?_);refine m8 (a0Y (r9 d.mv.fr) h5 zd (by rw [a9X];decide)) ?_
    rintro r w6 ⟨rfl,h6⟩;refine ⟨_,rfl,?_⟩;refine zR ?_;refine m8 (a0Y [120] h6 (by simp [r9]) zd) ?_
    rintro r w7 ⟨rfl,h7⟩;refine ⟨_,rfl,?_⟩;refine zR ?_;exact ⟨(),trivial,h7⟩
   ·refine zR ?_;refine E.p8 hk (zR ?_);repeat (refine E.p8 hk ?_;refine zR ?_)
    refine m8 (a0Y [120] h5 zo zd) ?_;rintro r w7 ⟨rfl,h7⟩;refine ⟨_,rfl,?_⟩;refine zR ?_;exact ⟨(),trivial,by rw [zJ hk];exact h7⟩
 have hM6:=h6.nd;have hl6:((a0H KD++S1)++(if d.tags.testBit 2||d.tags.testBit 3 then (if KD=6 then r9 d.mv.fr else [])++[120] else [])).length≤5:=by
  rw [zF];have:(if d.tags.testBit 2||d.tags.testBit 3 then (if KD=6 then r9 d.mv.fr else [])++[120] else []).length≤2:=by (repeat' split)<;>simp [r9]
  omega
 generalize (a0H KD++S1)++(if d.tags.testBit 2||d.tags.testBit 3 then (if KD=6 then r9 d.mv.fr else [])++[120] else [])=L at *
 refine zR ?_;refine a6t hM6 (zR ?_);refine g8 (a5K d.mv.to t0 t1 _) (zR ?_);refine m8 (a0Y (r9 d.mv.to++a0K d.mv.to) h6 zo (by simp [r9,a0K])) ?_
 rintro r w7 ⟨rfl,h7⟩;rw [← htoT] at h7;refine ⟨_,rfl,?_⟩;have hl7:(L++V4 d.mv.to).length≤7:=by rw [zF,htoT];simp [r9,a0K];omega
 have hM7:=h7.nd;refine zG ?_;refine B0 (σ:=Unit) [] 12 (fun _=>[]) (fun _ w'=>Bz P b M p cv d w w1.heap.size w3.heap.size cv' (L++V4 d.mv.to++(if d.mv.promo=0 then [] else [61]++a0H d.mv.promo)) w') zk ?_ (fun _ j w8 h8=>?_)
 ·refine zR ?_;refine a4d hM7 (zR ?_);apply E.y8<;>intro h
  ·refine zR ?_;refine m8 (a0Y [61] h7 zo zd) ?_;rintro r w8 ⟨rfl,h8⟩;refine ⟨_,rfl,?_⟩;have hM8:=h8.nd;refine zR ?_;refine a4d hM8 (zR ?_);refine g8 (ep _) (zR ?_);refine m8 (a0Y (a0H d.mv.promo) h8 (by rw [zF,List.length_singleton];omega) zo) ?_
   rintro r w9 ⟨rfl,h9⟩;refine ⟨_,rfl,?_⟩;refine zR ?_;exact ⟨(),trivial,by rw [zJ h,← yF];exact h9⟩
  ·refine zR ?_;exact ⟨(),trivial,by rw [zM h,zm];exact h7⟩
 have hl8:(L++V4 d.mv.to++(if d.mv.promo=0 then [] else [61]++a0H d.mv.promo)).length≤9:=by
  rw [zF];have:(if d.mv.promo=0 then [] else [61]++a0H d.mv.promo).length≤2:=by split<;>simp;omega
  omega
 refine zR ?_;refine o8 (hchk cv' _ (h8.sf.tabs hT hP) h8.sf.pos h8.nd) fun w9 c9=>zR ?_;refine m8 (a0Y SG (h8.step c9) zo zo) ?_;rintro r w10 ⟨rfl,h10⟩;refine ⟨_,rfl,?_⟩;refine zR ?_;refine m8 (b2W h10.bq (by rw [htoT];simp [r9]) (by rw [zF];omega)) ?_
 rintro r w11 ⟨rfl,b11⟩;refine ⟨_,rfl,?_⟩;refine zR ?_;exact ⟨rfl,cv',h10.sf.wb b11 h10.hk h10.hB⟩
set_option maxHeartbeats 2000000 in
theorem c6r {p:l9} (hI:B9 p) (hN:a06 p) (hle:(A5 p).length≤218) {P b P2 b2 M G0:Nat} {d:Nd} {g:Gm} {cv cv2:Value} (hm:d.mv∈s8 p) (htg:(d.tags:Int)=told p d.mv) (hI2:B9 (made p d.mv)) (hN2:a06 (made p d.mv)) (hle2:(A5 (made p d.mv)).length≤218)
  (hgm:g.meth<256) (W0 w:World) (hT0:C9 W0) (hw0:Pow W0) (c0:Cl W0 w) (hP0:W0.heap.size≤P) (hP:H9 w P b p cv) (hM:w.heap[M]?=some (.cells (F6 d) 141 (0,0))) (hb:w.heap[G0]?=some (.cells (gmA g) 131 (0,0))) (hgP:g.P=P2) (hP2:H9 w P2 b2 (made p d.mv) cv2) (hPP:P2≠P) :
  Calls G.P 46 #[.pointer (some ⟨P,0,none⟩),.pointer (some ⟨M,0,none⟩),.pointer (some ⟨G0,0,none⟩)] w (fun r w'=>r = .returned (stV (stepOf p d.mv ((g.meth:Int),g.out)))∧∃ cv',Sf P b p cv w w' cv'):=by
 obtain ⟨f0,f1,t0,t1,hpm⟩:=A7 hI hm;obtain ⟨_,_,h64⟩:=a0R htg;have hbt:=b4W ⟨d.mv,told p d.mv,sanT p d.mv,lanT p d.mv,uciT d.mv,fenT (made p d.mv),xfenT (made p d.mv),made p d.mv,g.out,(g.meth:Int),statusOf (made p d.mv)⟩;have hun:stepOf p d.mv ((g.meth:Int),g.out)=⟨d.mv,told p d.mv,sanT p d.mv,lanT p d.mv,uciT d.mv,fenT (made p d.mv),xfenT (made p d.mv),made p d.mv,g.out,(g.meth:Int),statusOf (made p d.mv)⟩:=by unfold stepOf;rfl
 have hst:stV (stepOf p d.mv ((g.meth:Int),g.out)) = .agg (stL ⟨d.mv,told p d.mv,sanT p d.mv,lanT p d.mv,uciT d.mv,fenT (made p d.mv),xfenT (made p d.mv),made p d.mv,g.out,(g.meth:Int),statusOf (made p d.mv)⟩).toArray:=by rw [hun];rfl
 have hone:=a4S (stepOf p d.mv ((g.meth:Int),g.out));have hlen:=I7 (stepOf p d.mv ((g.meth:Int),g.out));rw [hun] at hone hlen;rw [hst];clear hst hun;have etag:IntKind.i64.wrap (d.tags:Int)=told p d.mv:=by rw [← htg];exact g9 zo zo
 have emeth:IntKind.i64.wrap (g.meth:Int)=(g.meth:Int):=g9 zo zo;have estat:=b2H (made p d.mv);have q1:=fun w' (c:Cl w w')=>b2q (c.blk hM) zo zo zo zo zo zo;have q2:=fun w' (c:Cl w w')=>b3I (c.blk hM);have q3:=fun w' (c:Cl w w')=>b6W hI hN hle hm id htg w' ((hT0.cl c0).cl c) (hP.step c) (c.blk hM);have q4:=fun (w':World) (cv:Value) hT hP hM=>b2n (P:=P) (b:=b) (M:=M) (cv:=cv) hI hN hle hm id htg w' hT hP hM;rw [c0J hI hm htg] at q3;rw [c0K hI hm htg] at q4;have q5:=fun (w':World) hM=>b2m (P:=P) (M:=M) (t:=141) (fz:=(0,0)) f0 f1 t0 t1 ⟨zo,zo⟩ w' hM _ rfl;have q6:=fun (w':World) (hb:w'.heap[G0]?=some (.cells (gmA g) 131 (0,0))) hT hw (hP2:H9 w' P2 b2 (made p d.mv) cv2)=>c3q hb hI2 hN2 hT hw (by rw [hgP];exact hP2.hd) hP2.bd
 have q7:=fun (w':World) hT hw (hP2:H9 w' P2 b2 (made p d.mv) cv2)=>b0W hI2 hN2 w' hT hw hP2.hd hP2.bd;have q8:=fun (w':World) hT (hP2:H9 w' P2 b2 (made p d.mv) cv2)=>c0U hI2 w' hT hP2.hd hP2.bd;have q9:=fun (w':World) hT (hP2:H9 w' P2 b2 (made p d.mv) cv2)=>a9S hI2 w' hT hP2;obtain ⟨zs,hzs,hz81⟩:=zSt;generalize stL ⟨d.mv,told p d.mv,sanT p d.mv,lanT p d.mv,uciT d.mv,fenT (made p d.mv),xfenT (made p d.mv),made p d.mv,g.out,(g.meth:Int),statusOf (made p d.mv)⟩=S at *;generalize made p d.mv=q at *;generalize told p d.mv=Q1 at *;generalize sanT p d.mv=Q2 at *;generalize lanT p d.mv=Q3 at *;generalize uciT d.mv=Q4 at *;generalize fenT q=Q5 at *;generalize xfenT q=Q6 at *;generalize statusOf q=Q7 at *;refine zN Tryz.func46 ?_;refine zR ?_;refine t7 zs hzs ?_;have c1:=Cl.alloc w (.cells zs.cells 39);have nB:=g7 w (.cells zs.cells 39);generalize w.alloc (.cells zs.cells 39)=w1 at *;refine zR ?_;refine g8 (b82 (c1.blk hb)) ?_;rw [hgP];refine zR ?_;refine o8 (q1 w1 c1) fun w2 c2=>?_;have c02:=c1.trans c2;have nB:=c2.blk nB;refine zR ?_;refine g8 (q2 w2 c02) (zR ?_);rw [etag];refine s7 #[] zk (zR ?_);refine m8 (q3 w2 c02) ?_;rintro _ w3 ⟨rfl,cv',f3⟩;refine ⟨_,rfl,?_⟩;have hPc:=hP.step c02;have nB:=f3.nd hPc nB zd;have hM3:=f3.nd hPc (c02.blk hM) zd;have hb3:=f3.nd hPc (c02.blk hb) zd;have h2c:=hP2.step c02;have hP23:H9 w3 P2 b2 _ cv2:=⟨f3.tn.blk h2c.hd hPP,f3.nd hPc h2c.bd zd,h2c.ca.elim .inl fun h=>.inr (h.tnT f3.tn hPc.hd zd)⟩;have d3:=f3.tn.toCl (c0.trans c02) hP0;have f03:=Sf.pre c02 f3;clear hPc h2c;refine zR ?_;refine s7 #[] zk (zR ?_);refine o8 (q4 w3 cv' (hT0.cl d3) f3.pos hM3) fun w4 c4=>?_;have c04:=c4;have nB:=c4.blk nB;refine zR ?_;refine s7 #[] zk (zR ?_);refine o8 (q5 w4 (c04.blk hM3)) fun w5 c5=>?_;have c05:=c04.trans c5;have nB:=c5.blk nB;refine zR ?_;refine o8 (q6 w5 (c05.blk hb3) (hT0.cl (d3.trans c05)) (hw0.cl (d3.trans c05)) (hP23.step c05)) fun w6 c6=>?_;have c06:=c05.trans c6;have nB:=c6.blk nB;refine zR ?_;refine o8 (q7 w6 (hT0.cl (d3.trans c06)) (hw0.cl (d3.trans c06)) (hP23.step c06)) fun w7 c7=>?_;have c07:=c06.trans c7;have nB:=c7.blk nB;refine zR ?_;refine o8 (q8 w7 (hT0.cl (d3.trans c07)) (hP23.step c07)) fun w8 c8=>?_;have c08:=c07.trans c8;have nB:=c8.blk nB;refine zR ?_;refine g8 (c3p (c08.blk hb3)) (zR ?_);refine g8 (c0V (c08.blk hb3)) (zR ?_);rw [emeth];refine o8 (q9 w8 (hT0.cl (d3.trans c08)) (hP23.step c08)) fun w9 c9=>?_;have c09:=c08.trans c9;have nB:=c9.blk nB;refine zR ?_;rw [estat];refine s7 S.toArray hbt (zR ?_);refine J6 nB S rfl b7Z hlen hone (by rw [hz81];omega) (fun w10 u10=>?_)
 have hR:w10.heap[w.heap.size]?=some (.cells S.toArray 39 (0,0)):=by
  rw [u10.at_,B7 _ _ (by rw [hlen,hz81])]
 refine zR ?_;refine d9 (.agg S.toArray) ?_ ?_
 ·have:=ldA (t:=39) (o:=0) (z:=81) hR rfl (by simp [hlen])
  rw [show S.toArray.extract 0 (0+81)=S.toArray by
   have:S.toArray.size=81:=by simp [hlen]
   rw [← this];simp] at this
  exact this
 refine zR ?_;have fin:Sf P b p cv w w10 cv':=by
  have f9:=f03.cl c09;have n10:=Tn.upd u10;refine ⟨⟨n10.blk f9.pos.hd (O1 f9.pos.hd nB zd),n10.blk f9.pos.bd (O1 f9.pos.bd nB zd),f9.pos.ca.elim .inl fun h=>.inr (h.tnT n10 nB zd)⟩,⟨n10.os.trans f9.tn.os,n10.tape.trans f9.tn.tape,n10.output.trans f9.tn.output,zu f9.tn.size n10.size,fun k hk hn=>(n10.else_ k (Nat.lt_of_lt_of_le hk f9.tn.size) zo).trans (f9.tn.else_ k hk hn)⟩,f9.own⟩
 exact ⟨rfl,cv',fin⟩
theorem Chn.tnA {w w':World} {P:Nat} {A:Array Value} (ht:Tn P w w') (hz:w.heap[P]?=some (.cells A 173 (0,0))):∀ {R:List Q8},Chn w R→(∀ n∈R,n.P≠P)→Chn w' R
 | [],_,_=>trivial
 | n::R,⟨h1,h2,h3,h4,h5⟩,hd=>by
  refine ⟨ht.blk h1 (O1 h1 hz zd),h2,?_,⟨ht.blk h4.hd (hd n (yW ..)),ht.blk h4.bd (O1 h4.bd hz zd),h4.ca.elim .inl fun h=>.inr (h.tnT ht hz zd)⟩,Chn.tnA ht hz h5 fun x hx=>hd x (yX _ hx)⟩;cases R with
  | nil=>exact h3
  | cons m r=>exact Row.tnT (show Row 85 1 T9 0 w n.d.kids [m.M] from h3) ht hz zd
theorem Chn.mid {w w':World} {z:Q8} {cv':Value} {A:Array Value} (ht:Tn z.P w w') (hz:w.heap[z.P]?=some (.cells A 173 (0,0))) (hp:H9 w' z.P z.b z.p cv') {R:List Q8} (hR:∀ n∈R,n.P≠z.P) :
  ∀ {L:List Q8},Chn w (L++z::R)→(∀ n∈L,n.P≠z.P)→Chn w' (L++{ z with cv:=cv' }::R)
 | [],⟨h1,h2,h3,h4,h5⟩,_=>by
  refine ⟨ht.blk h1 (O1 h1 hz zd),h2,?_,hp,Chn.tnA ht hz h5 hR⟩;cases R with
  | nil=>exact h3
  | cons m r=>exact Row.tnT (show Row 85 1 T9 0 w z.d.kids [m.M] from h3) ht hz zd
 | n::L,⟨h1,h2,h3,h4,h5⟩,hd=>by
  refine ⟨ht.blk h1 (O1 h1 hz zd),h2,?_,⟨ht.blk h4.hd (hd n (yW ..)),ht.blk h4.bd (O1 h4.bd hz zd),h4.ca.elim .inl fun h=>.inr (h.tnT ht hz zd)⟩,Chn.mid ht hz hp hR h5 fun x hx=>hd x (yX _ hx)⟩;cases L with
  | nil=>exact Row.tnT (show Row 85 1 T9 0 w n.d.kids [z.M] from h3) ht hz zd
  | cons m r=>exact Row.tnT (show Row 85 1 T9 0 w n.d.kids [m.M] from h3) ht hz zd
theorem K9.mid {w w':World} {G0:Nat} {g:Gm} {L:List Q8} {z y:Q8} {cv':Value} (h:K9 w G0 g (L++[z]) y) (ht:Tn z.P w w') (hp:H9 w' z.P z.b z.p cv') (ho:∀ k,cv'.ownBlock=some k→z.cv.ownBlock=some k∨w.heap.size≤k) (hL:∀ n∈L,n.P≠z.P):K9 w' G0 g (L++[{ z with cv:=cv' }]) y:=by
 have hch:Chn w (L++z::[y]):=by have:=h.chn;rwa [yF] at this
 have hz:w.heap[z.P]?=some (.cells _ 173 (0,0)):=(h.chn.mem z (by simp)).hd
 have hy:∀ n∈[y],n.P≠z.P:=fun n hn=>by rw [zY.1 hn];exact fun e=>h.dis z (by simp) e.symm
 have hyl:=C5 h.node;refine ⟨ht.blk h.hb (O1 h.hb hz zd),h.cur,h.pos,?_,?_,h.kids,fun n hn=>?_,h.zcv,fun n hn=>?_,h.mo⟩
 ·obtain ⟨n,l,e,hr⟩:=h.root;cases L with
  | nil =>
   simp only [yJ,yS,List.cons.injEq] at e;exact ⟨_,_,rfl,by rw [hr,← e.1]⟩
  | cons m r =>
   simp only [yS,List.cons.injEq] at e;exact ⟨_,_,rfl,by rw [hr,← e.1]⟩
 ·rw [yF];exact Chn.mid ht hz hp hy hch hL
 ·rcases zq.1 hn with hn | hn
  ·exact h.off n (yO _ hn)
  ·have o:=h.off z (by simp)
   rw [zY.1 hn];refine ⟨o.M,o.P,o.b,fun k hk e=>?_,o.kids⟩;rcases ho k e with e | e
   ·exact o.cv k hk e
   ·rw [zY.1 hk] at e;omega
 ·rcases zq.1 hn with hn | hn
  ·exact h.dis n (yO _ hn)
  ·rw [zY.1 hn];exact h.dis z (by simp)
theorem c6f {w:World} {G0 M:Nat} {g:Gm} {L:List Q8} {z:Q8} {d:Nd} (hT:C9 w) (h:K9 w G0 g L z) (hI:B9 z.p) (hN:a06 z.p) (hle:(A5 z.p).length≤218) (hm:d.mv∈s8 z.p) (htg:(d.tags:Int)=told z.p d.mv) (hk:d.kids = .slice none 0 0)
  (hM:w.heap[M]?=some (.cells (F6 d) 141 (0,0))) (hoff:∀ n∈L++[z],n.off [M]) (hI':B9 (made z.p d.mv)) (hle':(A5 (made z.p d.mv)).length≤218)
  (hJ:∀ n∈L++[z],B9 n.p) (hlen:L.length+2≤100000) :
  Calls G.P 114 #[.pointer (some ⟨G0,0,none⟩),.pointer (some ⟨M,0,none⟩),.pointer none] w (fun r w'=>r = .returned .nilIface∧∃ g' z' y,z'.Same z∧K9 w' G0 g' (L++[z']) y∧y.M=M∧y.d.mv=d.mv∧y.d.tags=d.tags
  ∧y.p=made z.p d.mv∧w.heap.size≤y.P∧((g'.meth:Int),g'.out)=C6 ((L++[z]).map Q8.p++[y.p]) y.p ((g.meth:Int),g.out)∧Fr [M,z.M,G0] w w'):=by
 have hMl:=C5 hM;refine zN Tryz.func114 ?_;refine zR ?_;refine a0c true (Q9 rfl _) (zR ?_);refine s7 #[.bool false] zk (zR ?_);have ca:=Cl.alloc w (.cells #[.bool false] 145);have na:=g7 w (.cells #[.bool false] 145);generalize w.alloc (.cells #[.bool false] 145)=w1 at *;have h1:=h.step ca;refine zR ?_;refine m8 (b3Q (d:=d) (hT.cl ca) h1 hI hN hm htg hk (ca.blk hM) hoff na zo hI' hle' (fun b=>b88 hI' b) hJ hlen) ?_;rintro e w3 ⟨rfl,g',kv,y,hg,e1,e2,e3,e4,e6,_,e5,f3⟩;refine ⟨_,rfl,?_⟩;refine zR ?_;refine ⟨rfl,g',Q8.led z kv,y,⟨rfl,rfl,rfl,rfl⟩,hg,e1,e2,e3,e4,by have:=ca.size;omega,e5,(Fr.cl ca).trans f3⟩
set_option maxHeartbeats 1000000 in
theorem c6g {w:World} {G0:Nat} {g:Gm} {L:List Q8} {z:Q8} {n:Nat} {T:Tx} {m:Mv} (hT:C9 w) (h:K9 w G0 g L z) (hI:B9 z.p) (hN:a06 z.p) (hle:(A5 z.p).length≤218) (hm:m∈s8 z.p) (hs:K8 z.p m=true) (hn:b2N z.p m n T)
  (hI':B9 (made z.p m)) (hle':(A5 (made z.p m)).length≤218) (hJ:∀ n∈L++[z],B9 n.p) (hlen:L.length+2≤100000) :
  Calls G.P 67 #[.pointer (some ⟨G0,0,none⟩),m9 T,ntV n,.pointer none] w (fun r w'=>r = .returned .nilIface∧∃ g' z' y,z'.Same z∧K9 w' G0 g' (L++[z']) y∧w.heap.size≤y.M∧y.d.mv=m∧(y.d.tags:Int)=told z.p m
  ∧y.p=made z.p m∧w.heap.size≤y.P∧((g'.meth:Int),g'.out)=C6 ((L++[z]).map Q8.p++[y.p]) y.p ((g.meth:Int),g.out)∧Fr [z.M,z.P,G0] w w'):=by
 have hpos:=h.pos;obtain ⟨f,hd,hfn,hdc⟩:=b9j (P:=g.P) (b:=z.b) (cv:=z.cv) hI hN hle hm hs hn;unfold ntV;refine zN Tryz.func67 ?_;refine zG ?_;refine B0 (σ:=Nat×Value×Nd) [9,10] 11 (fun s=>[(9,.pointer (some ⟨s.1,0,none⟩)),(10,.nilIface)]) (fun s w'=>H9 w' z.P z.b z.p s.2.1∧Tn z.P w w'∧w.heap.size≤s.1∧w'.heap[s.1]?=some (.cells (F6 s.2.2) 141 (0,0))∧s.2.2.mv=m∧(s.2.2.tags:Int)=told z.p m∧s.2.2.kids = .slice none 0 0∧∀ k,s.2.1.ownBlock=some k→(z.cv.ownBlock=some k∨w.heap.size≤k)∧k≠s.1) zk ?_ (fun s j w3 hs3=>?_)
 ·have c2:Cl w w.drew:=Cl.drew (Cl.refl _);have h2:=h.step c2;refine zR ?_;refine I5.mk3 (fun w'=>w'.heap[G0]?=some (.cells (gmA g) 131 (0,0))) [0,1,2,3,4,5,6,7,8] (.cons 9 (.cons 10 (.cons 11 (.cons 12 (.cons 13 (.cons 14 .done .nil) .nil) (.cons 13 (.cons 12 (.cons 14 .done .nil) .nil) .nil)) (.cons 12 (.cons 11 (.cons 13 (.cons 14 .done .nil) .nil) .nil) .nil)) .nil) .nil) h2.hb zk (zR ?_);refine m7 _ (fun w' hw=>a4X hw) (zR ?_);refine b9i (zR ?_);refine b6P rfl hd (zE ?_);refine c1B #[.agg #[],.pointer (some ⟨g.P,0,none⟩),m9 T] rfl hd hfn (by rw [zb];rfl) ?_
  refine (hdc w.drew (hT.cl c2) h2.posM).mono ?_;rintro r w3 ⟨cv',M,d,rfl,hM3,n3,sM,hX,hmv,htg,hk,hown⟩;refine ⟨_,rfl,?_⟩;rw [hpos] at hM3 n3;have hb3:=n3.blk h2.hb (O1 h2.hb h2.chn.last.2.2.hd zd);iterate 20 (all_goals (first | exact trivial | refine And.intro hb3 ?_ | refine And.intro ?_ ?_ | refine zR ?_))
  all_goals exact ⟨(M,cv',d),⟨rfl,rfl,trivial⟩,hM3,(Tn.cl c2).trans n3,zu c2.size sM,hX,hmv,htg,hk,fun k hk=>⟨(hown k hk).1.imp id (zu c2.size),(hown k hk).2⟩⟩
 obtain ⟨M,cv',d⟩:=s;obtain ⟨hM3,n3,sM,hX,hmv,htg,hk,hown⟩:=hs3;simp only at hM3 n3 sM hX hmv htg hk hown;have h2:=h;have h3:=h2.recv n3 hM3 (fun k hk=>(hown k hk).1);have hlt:=h2.chn.lt;have hMl:∀ n∈L++[z],n.off [M]:=fun n hn=>(hlt n hn).off (fun k hk=>by rw [zY.1 hk];exact sM)
 have hoff:∀ n∈L++[{ z with cv:=cv' }],n.off [M]:=fun n hn=>by
  rcases zq.1 hn with hn | hn
  ·exact hMl n (yO _ hn)
  ·have o:=hMl z (by simp)
   rw [zY.1 hn];exact ⟨o.M,o.P,o.b,fun k hk e=>(hown k e).2 (zY.1 hk),o.kids⟩
 have hJ2:∀ n∈L++[{ z with cv:=cv' }],Ch.B9 n.p:=fun n hn=>by
  rcases zq.1 hn with hn | hn
  ·exact hJ n (yO _ hn)
  ·rw [zY.1 hn];exact hI
 have hT3:C9 w3:=hT.fr (Fr.tn (S:=[z.P]) n3 (.inl (by simp))) fun k hk cs t fz hh=>by
  rw [zY.1 hk] at hh;rw [← (Obj.cells.inj (Option.some.inj (h2.chn.last.2.2.hd.symm.trans hh))).2.1];decide
 have hGM:=c6f (d:=d) hT3 h3 hI hN hle (by rw [hmv];exact hm) (by rw [hmv];exact htg) hk hX hoff (by rw [hmv];exact hI') (by rw [hmv];exact hle') hJ2 hlen
 refine zR ?_;refine I8 true (E7 rfl) (zR ?_);refine m8 hGM ?_;rintro e w4 ⟨rfl,g',z',y,⟨hsame.M,hsame.P,hsame.b,hsame.p⟩,hG4,y1,y2,y3,y4,y5,hend,f4⟩;refine ⟨_,rfl,?_⟩;refine zR ?_;have s3:=n3.size;have hmap:(L++[{ z with cv:=cv' }]).map Q8.p=(L++[z]).map Q8.p:=by simp
 rw [hmap] at hend;refine ⟨rfl,g',z',y,⟨hsame.M,hsame.P,hsame.b,hsame.p⟩,hG4,by rw [y1];omega,y2.trans hmv,by rw [y3];exact htg,by rw [y4,hmv],zo,hend,?_⟩
 have f4:Fr [M,z.M,z.P,G0] w3 w4:=Fr.mono f4 (by intro k hk;simp only [yQ,zx,or_false] at hk ⊢;rcases hk with e | e | e<;>simp [e])
 have f3:Fr [M,z.M,z.P,G0] w w3:=Fr.tn n3 (.inl (by simp))
 exact (f3.trans f4).drop1 zo
theorem c6h {w:World} {G0:Nat} {g:Gm} {L:List Q8} {z:Q8} {n:Nat} {T:Tx} {m:Mv} (bl:Bool) (hT:C9 w) (h:K9 w G0 g L z) (hI:B9 z.p) (hN:a06 z.p) (hle:(A5 z.p).length≤218) (hm:m∈s8 z.p) (hs:K8 z.p m=true) (hn:b2N z.p m n T)
  (hI':B9 (made z.p m)) (hle':(A5 (made z.p m)).length≤218) (hJ:∀ n∈L++[z],B9 n.p) (hlen:L.length+2≤100000) :
  Calls G.P (cond bl 67 52) #[.pointer (some ⟨G0,0,none⟩),m9 T,ntV n,.pointer none] w (fun r w'=>r = .returned .nilIface∧∃ g' z' y,z'.Same z∧K9 w' G0 g' (L++[z']) y∧w.heap.size≤y.M∧y.d.mv=m∧(y.d.tags:Int)=told z.p m
  ∧y.p=made z.p m∧w.heap.size≤y.P∧((g'.meth:Int),g'.out)=C6 ((L++[z]).map Q8.p++[y.p]) y.p ((g.meth:Int),g.out)∧Fr [z.M,z.P,G0] w w'):=by
 cases bl with
 | true=>exact c6g hT h hI hN hle hm hs hn hI' hle' hJ hlen
 | false =>
  refine (c3C hT h hI hN hle hm hs hn hI' hle' hJ hlen).mono ?_;rintro r w' ⟨e,g',z',y,a1,_,a2⟩;exact ⟨e,g',z',y,a1,a2⟩
theorem b4q (p:l9) (m:Mv):H4 (a2s p m)=true:=by
 unfold a2s;split
 ·exact U3
 ·split<;>(rw [a1A,zM zd];exact U3)
theorem c2O {p:l9} (hI:B9 p) {m:Mv} (hm:m∈s8 p) {n:Nat} (hn:n<3):b2N p m n (b9z n p m):=by
 have hs:=b4q p m;have l1:=a8A p m;have l2:=b9m p m;have own:∃ q,zzP (sanT p m)=some q∧a7j p m q:=⟨_,b5s hI hm hs,.own⟩;rcases (by omega:n=0∨n=1∨n=2) with rfl | rfl | rfl
 ·exact .inl ⟨zd,by show (sanT p m).length≤1000;omega,own⟩
 ·refine .inl ⟨zd,by show (lanT p m).length≤1000;omega,?_⟩
  show ∃ q,zzP (lanT p m)=some q∧a7j p m q;obtain ⟨f0,f1,t0,t1,_⟩:=A7 hI hm;rcases Ch.a7h hI hm with ⟨k,hk,h⟩ | ⟨h,hp,hk⟩ | ⟨h,hp,k1,k5,h0⟩
  ·have e:lanT p m=sanT p m:=by unfold lanT;rw [zM zo]
   rw [e];exact own
  ·have e:lanT p m=V8 (a3K p m (r9 m.fr) (a0K m.fr))++a2s p m:=by
    unfold lanT V8 a3K;rw [zJ zo,hk,sq2 f0 f1,sq2 t0 t1,show a0H 6=[] from rfl];simp
   rw [e];exact ⟨_,c1o hI hm (.inr rfl) (.inr rfl) hs,.pawn h hk⟩
  ·have e:lanT p m=V8 (a0D p m (r9 m.fr) (a0K m.fr))++a2s p m:=by
    unfold lanT V8 a0D;rw [zJ zo,sq2 f0 f1,sq2 t0 t1,show F8 m=[] by unfold F8;rw [zM h0]]
    simp
   rw [e];refine ⟨_,b29 hI hm k1 k5 (.inr rfl) (.inr rfl) hs,.piece h zo _ _ (.inr rfl) (.inr rfl) ?_⟩;unfold apart;rw [sq2 f0 f1];(repeat' split)<;>simp
 ·exact .inr ⟨rfl,rfl⟩
theorem b91 (n:Nat) (p:l9) (m:Mv) (mo:Int×Tx):stTxt n (stepOf p m mo)=b9z n p m:=rfl
theorem b4s (a b c:Value):c4Y 66 #[a,b,c]:=by
 intro w;refine callsD_of_wpS (P:=Tryz.prog) Tryz.func66 rfl fun c₀ cs hu=>?_;apply wpS_seq;apply wpS_region;simp [wpOpsS,go_sem,recoverD,hu,Tryz.ntmps66,Exit.thenS];refine wpS_cond (t:=false) (by simp [Act.eval,Array.replicate]) ?_
 simp only [yB,if_false];refine wpS_of_wp (wp_skip ?_);cases c₀;simp_all [bodyPostS,results,Tryz.results66]
def b9p (b:Bool):List Value:=[.bool b]
theorem b2Q (b:Bool):(b9p b).length=1:=rfl
theorem b9r:H6 50 4 1 1:=S9 zk
structure It where
 mv:Mv
 tx:Tx
 nt:Nat
def a48:l9→List It→Prop
 | p,[]=>(s8 p).length≤218
 | p,x::r=>(s8 p).length≤218∧x.mv∈s8 p∧K8 p x.mv=true∧x.nt<3∧b2N p x.mv x.nt x.tx∧a48 (made p x.mv) r
theorem a48.head {p:l9}:∀ {l:List It},a48 p l→(s8 p).length≤218
 | [],h=>h
 | _::_,h=>h.1
set_option maxHeartbeats 4000000 in
theorem b4T {p:l9} (hI:B9 p) (hh:p.half≤1000000) (hf:p.full≤1000000) (l:List It) (hl:a48 p l) (hlen:l.length≤80) (usual:Bool) (hu:usual=true→p=P9) {v1 v2 v3:Value} {b1 b2 b3:Nat} (bs:List Bool) (hbl:bs.length=l.length) (w:World) (hT:C9 w) (hS:Spc w) (hw:Pow w)
  (hr1:Row 9 1 H2 b1 w v1 (l.map It.tx)) (hr2:Row 3 1 b9n b2 w v2 (l.map fun x=>(x.nt:Int))) (hr3:Row 4 1 b9p b3 w v3 bs) :
  Calls G.P 23 #[m9 (if usual then [] else fenT p),v1,v2,v3] w (fun r w'=>∃ u,r = .returned (.tuple #[u,.int .i64 (l.length:Nat),.bool true])∧Row 39 81 stL w.heap.size w' u (storyOf p (!usual) (l.map It.mv))∧Cl w w'):=by
 obtain ⟨a1,k1,rfl,hal1⟩:=hr1.form;obtain ⟨a2,k2,rfl,hal2⟩:=hr2.form;obtain ⟨a3,k3,rfl,hal3⟩:=hr3.form;rw [ye] at hal1 hal2 ⊢;rw [ye];rw [hbl] at hal3 ⊢;have hle:=a4N hI;have hq0:=hl.head;have hbg:=fun w hT hS=>c1u hI zo zo zo usual hu w hT hS;have hst0:storyOf p (!usual) (l.map It.mv)=story [p] p (if (!usual)=true then C6 [p] p (0,star) else (0,star)) (l.map It.mv):=rfl
 generalize storyOf p (!usual) (l.map It.mv)=S at *;generalize (if usual then ([]:Tx) else fenT p)=T0 at *
 refine b2I (fc:=66) (t:=17) (t1:=8) (t2:=9) (t3:=10) (y1:=28) (y2:=3) (y3:=4) (args:=[m9 T0,.slice a1 l.length k1,.slice a2 l.length k2,.slice a3 l.length k3]) Tryz.func23 rfl (by simp [Tryz.ntmps23]) zk zk (by simp [Tryz.ntmps23]) rfl rfl rfl rfl rfl rfl zk b4s rfl (zR ?_)
 refine t7 (.slice none 0 0) zk ?_;have ca:=Cl.alloc w (.cells (Value.slice none 0 0).cells 28);have na:(w.alloc (.cells (Value.slice none 0 0).cells 28)).heap[w.heap.size]?=some (.cells #[.slice none 0 0] 28 (0,0)):=g7 w _;have sa:=A8 w (.cells (Value.slice none 0 0).cells 28);generalize w.alloc (.cells (Value.slice none 0 0).cells 28)=w1 at *;refine zR ?_;refine t7 (.int .i64 0) zk ?_;have cb:=ca.trans (Cl.alloc w1 (.cells (Value.int .i64 0).cells 3));have na:=(Cl.alloc w1 (.cells (Value.int .i64 0).cells 3)).blk na;have nb:(w1.alloc (.cells (Value.int .i64 0).cells 3)).heap[w1.heap.size]?=some (.cells #[.int .i64 0] 3 (0,0)):=g7 w1 _;have sb:=A8 w1 (.cells (Value.int .i64 0).cells 3);generalize w1.alloc (.cells (Value.int .i64 0).cells 3)=w2 at *;refine zR ?_;refine t7 (.bool false) zk ?_;have cc:=cb.trans (Cl.alloc w2 (.cells (Value.bool false).cells 4));have na:=(Cl.alloc w2 (.cells (Value.bool false).cells 4)).blk na;have nb:=(Cl.alloc w2 (.cells (Value.bool false).cells 4)).blk nb;have nc:(w2.alloc (.cells (Value.bool false).cells 4)).heap[w2.heap.size]?=some (.cells #[.bool false] 4 (0,0)):=g7 w2 _;have sc:=A8 w2 (.cells (Value.bool false).cells 4);generalize w2.alloc (.cells (Value.bool false).cells 4)=w3 at *;obtain ⟨Ra,hRa⟩:∃ R,R=w.heap.size:=⟨_,rfl⟩;obtain ⟨Rb,hRb⟩:∃ R,R=w1.heap.size:=⟨_,rfl⟩;obtain ⟨Rc,hRc⟩:∃ R,R=w2.heap.size:=⟨_,rfl⟩;have hab:Ra<Rb:=by omega
 have hbc:Rb<Rc:=by omega
 rw [← hRa] at na;rw [← hRb] at nb;rw [← hRc] at nc;rw [← hRa,← hRb,← hRc];clear ca cb sa sb sc;refine zR ?_;refine ⟨rfl,.pointer (some ⟨Ra,0,none⟩),.pointer (some ⟨Rb,0,none⟩),.pointer (some ⟨Rc,0,none⟩),by rw [zb];rfl,?_⟩
 refine zR ?_;refine m8 (hbg w3 (hT.cl cc) (hS.cl cc)) ?_;rintro e w4 ⟨G0,rfl,⟨⟨g,z,hG,hzp,hzM,hzP,hmo⟩,c4,sG⟩⟩;refine ⟨_,rfl,?_⟩;have c04:=cc.trans c4;have s3:=cc.size;have na:=c4.blk na;have nb:=c4.blk nb;have nc:=c4.blk nc;rw [← hmo] at hst0;have hst1:([]:List Ch.a0n)++story (([]++[z]).map Q8.p) z.p ((g.meth:Int),g.out) ((l.drop 0).map It.mv)=S:=by rw [hst0,← hzp];rfl
 have hm9:g.meth≤9:=by
  have e:=yG Prod.fst hmo;simp only at e;cases usual with
  | true=>rw [zJ zd] at e;simp only at e;omega
  | false =>
   rw [zM (by rfl)] at e
   have:=a7l (l:=[p]) (p:=p) (m0:=0) (o0:=star) (m:=g.meth) (o:=(C6 [p] p (0,star)).2) (by
    show ((g.meth:Int),(C6 [p] p (0,star)).2)=C6 [p] p (0,star);rw [e]) zo
   exact this
 have hIz:Ch.B9 z.p:=by rw [hzp];exact hI
 have hNz:Ng z.p 0:=by rw [hzp];exact ⟨zo,zo⟩
 have hlz:a48 z.p (l.drop 0):=by rw [hzp];exact hl
 clear hst0 hmo hbg hzp hle hq0 hl hh hf hu hI hS;refine zR ?_;refine I8 true (E7 rfl) (zR ?_);refine A9 (σ:=Nat×List Q8×Q8×Gm×List Ch.a0n×Value) [12,13,14,15,16,27] 28 (fun s=>[(27,.int .i64 s.1)])
  (fun s w'=>s.1≤l.length∧K9 w' G0 s.2.2.2.1 s.2.1 s.2.2.1∧s.2.1.length=s.1∧Ch.B9 s.2.2.1.p∧Ng s.2.2.1.p s.1∧a48 s.2.2.1.p (l.drop s.1)∧(∀ n∈s.2.1++[s.2.2.1],Ch.B9 n.p)∧w.heap.size≤s.2.2.1.M∧w.heap.size≤s.2.2.1.P∧s.2.2.2.1.meth≤9
  ∧s.2.2.2.2.1++story ((s.2.1++[s.2.2.1]).map Q8.p) s.2.2.1.p ((s.2.2.2.1.meth:Int),s.2.2.2.1.out) ((l.drop s.1).map It.mv)=S∧s.2.2.2.2.1.length=s.1∧Row 39 81 stL w.heap.size w' s.2.2.2.2.2 s.2.2.2.2.1
  ∧w'.heap[Ra]?=some (.cells #[s.2.2.2.2.2] 28 (0,0))∧w'.heap[Rb]?=some (.cells #[.int .i64 0] 3 (0,0))∧w'.heap[Rc]?=some (.cells #[.bool false] 4 (0,0))∧Cl w w') (fun s=>l.length-s.1) zk
  (0,[],z,g,[],.slice none 0 0) ⟨Nat.zero_le _,hG,rfl,hIz,hNz,hlz,fun n hn=>by rw [zY.1 hn];exact hIz,zu s3 hzM,zu s3 hzP,hm9,hst1,rfl,Row.nil _ _,na,nb,nc,c04⟩ ⟨rfl,trivial⟩ ?_
 clear hG hIz hNz hlz hzM hzP hm9 hst1 na nb nc c04 c4;rintro ⟨i,L,z,g,O,vr⟩ j w5 ⟨hi,hG,hLl,hIz,hNz,hlz,hJ,hzM,hzP,hm9,hst,hOl,hR,na,nb,nc,c5⟩;simp only at hi hG hLl hIz hNz hlz hJ hzM hzP hm9 hst hOl hR na nb nc c5 ⊢;obtain ⟨av,kv,rfl,_⟩:=hR.form;have ni:=C0 (i:=i) zo;refine zR ?_;apply E.d6<;>intro h
 ·have hil:i<l.length:=by omega
  clear h;obtain ⟨g1,rfl⟩:=hal1 zo;obtain ⟨g2,rfl⟩:=hal2 zo;obtain ⟨g3,rfl⟩:=hal3 zo;rw [List.drop_eq_getElem_cons hil] at hst hlz;have hld1:o4 G.P w5 9 ⟨g1,E.U7 0 ((i:Int)).toNat 1,none⟩ (m9 (l[i]).tx):=by
   obtain ⟨cur,h1,h2⟩:=(hr1.step c5).get p9 i 0 (by rw [ye];exact hil) zd
   refine D8 h1 ?_ rfl;rw [E.y6,zg,yV];rw [List.getElem_map] at h2;exact h2
  have hld2:o4 G.P w5 3 ⟨g2,E.U7 0 ((i:Int)).toNat 1,none⟩ (.int .i64 (l[i]).nt):=by
   obtain ⟨cur,h1,h2⟩:=(hr2.step c5).get b2P i 0 (by rw [ye];exact hil) zd
   refine D8 h1 ?_ rfl;rw [E.y6,zg,yV];rw [List.getElem_map] at h2;exact h2
  have hld3:o4 G.P w5 4 ⟨g3,E.U7 0 ((i:Int)).toNat 1,none⟩ (.bool bs[i]):=by
   obtain ⟨cur,h1,h2⟩:=(hr3.step c5).get b2Q i 0 zo zd;refine D8 h1 ?_ rfl;rw [E.y6,zg,yV];exact h2
  generalize bs[i]=bl at *;generalize l[i]=it at *;obtain ⟨m,T,n⟩:=it;obtain ⟨hq0,hml,hsan,hn,hsay,hlz2⟩:=hlz;simp only at hld1 hld2 hml hsan hn hsay hlz2;rw [yP,a0q,zM (show O8 z.p m=true from zX hml)] at hst;have hN:=(hNz.nm zo).nums;have hle:=a4N hIz;have hle:(A5 z.p).length≤218:=by omega
  have hgp:=b82 hG.hb;rw [hG.pos] at hgp;have hI2:=Ch.B9.made hIz hml;have hle2:(A5 (made z.p m)).length≤218:=by have:=a4N hI2;have:=hlz2.head;omega
  have hN2:=hNz.made hIz m;refine zR ?_;refine zC ?_;refine zR ?_;refine d9 _ hld1 (zR ?_);refine g8 hgp (zR ?_);refine g8 (a5Y 0 zd _) (zR ?_);refine E.A0 zo (zR ?_);refine zC ?_;refine zR ?_;refine d9 _ hld2 (zR ?_);refine g8 (a5Y n hn _) ?_;have hpa:=c6h bl (hT.cl c5) hG hIz hN hle hml hsan hsay hI2 hle2 hJ zo;refine zG ?_;refine B0 (σ:=Gm×Q8×Q8) [12,44,45,46,47,48,49,50,51,52,53,54,55,56,57,58,59,60,61] 62 (fun _=>[(12,.nilIface)]) (fun s w'=>s.2.1.Same z∧K9 w' G0 s.1 (L++[s.2.1]) s.2.2∧w5.heap.size≤s.2.2.M∧s.2.2.d.mv=m∧(s.2.2.d.tags:Int)=told z.p m
  ∧s.2.2.p=made z.p m∧w5.heap.size≤s.2.2.P∧((s.1.meth:Int),s.1.out)=C6 ((L++[z]).map Q8.p++[s.2.2.p]) s.2.2.p ((g.meth:Int),g.out)∧Fr [z.M,z.P,G0] w5 w') zk ?_ (fun s j w9 h9=>?_)
  ·refine zR ?_;refine E.A0 zo (zR ?_);refine zC ?_;refine zR ?_;refine d9 _ hld3 ?_;cases bl;all_goals
    refine zR ?_;(repeat (refine E.A0 zo ?_;refine zR ?_))
    refine m8 hpa ?_;rintro e w9 ⟨rfl,g',z',y,h9⟩;refine ⟨_,rfl,?_⟩;refine zR ?_;exact ⟨(g',z',y),⟨rfl,trivial⟩,h9⟩
  obtain ⟨g',z',y⟩:=s;obtain ⟨hsame,hG9,y1,y2,y3,y4,y5,hend,f9⟩:=h9;simp only at hsame hG9 y1 y2 y3 y4 y5 hend f9;clear hpa;have hnd:=hG.node;have hps:=hG.chn.last.2.2.hd;have hgb:=hG.hb;have s5:=c5.size;have hkS:∀ k∈[z.M,z.P,G0],w.heap.size≤k:=fun k hk=>by
   simp only [yQ,zx,or_false] at hk;omega
  have c9:Cl w w9:=f9.toCl hkS c5;have off9:∀ {k:Nat} {cs:Array Value} {t:Nat} {fz:Nat×Nat},w5.heap[k]?=some (.cells cs t fz)→t≠141→t≠173→t≠131→w9.heap[k]?=some (.cells cs t fz):=fun {k cs t fz} h h1 h2 h3=>f9.blk h fun hm=>by
   simp only [yQ,zx,or_false] at hm;rcases hm with e | e | e
   ·exact O1 h hnd h1 e
   ·exact O1 h hps h2 e
   ·exact O1 h hgb h3 e
  have na9:=off9 na zd zd zd;have nb9:=off9 nb zd zd zd;have nc9:=off9 nc zd zd zd;have hR9:Row 39 81 stL w.heap.size w9 (.slice av O.length kv) O:=hR.frT f9 fun k hk=>by
   simp only [yQ,zx,or_false] at hk;rcases hk with e | e | e
   ·rw [e];exact ⟨_,_,_,hnd,zd⟩
   ·rw [e];exact ⟨_,_,_,hps,zd⟩
   ·rw [e];exact ⟨_,_,_,hgb,zd⟩
  have hPz:=hG9.chn.mem z' (by simp)
  rw [hsame.p,hsame.P] at hPz;have hPy:=hG9.posM;rw [y4,hG9.pos] at hPy;have hNode:=hG9.node;have hcur:=hG9.cur;have hg9:=a7l hend hm9;have hPP:y.P≠z.P:=fun e=>hG9.dis z' (by simp) (by rw [hsame.P,e])
  have hstep:=fun w' (c:Cl w9 w')=>c6r hIz hN hle (d:=y.d) (by rw [y2];exact hml) (by rw [y2];exact y3) (by rw [y2];exact hI2) (by rw [y2];exact (hN2.nm zo).nums) (by rw [y2];exact hle2) (show g'.meth<256 by omega) w w' hT hw (c9.trans c) hzP (hPz.step c) (c.blk hNode) (c.blk hG9.hb) hG9.pos (by rw [y2];exact hPy.step c) hPP
  rw [y2] at hstep;have hmap2:((L++[z'])++[y]).map Q8.p=(L++[z]).map Q8.p++[made z.p m]:=by simp [hsame.p,y4]
  rw [y4] at hend;rw [← hend] at hst;have hst2:(O++[stepOf z.p m ((g'.meth:Int),g'.out)])++story (((L++[z'])++[y]).map Q8.p) y.p ((g'.meth:Int),g'.out) ((l.drop (i+1)).map It.mv)=S:=by rw [hmap2,y4,← hst];simp
  have hlenS:(stL (stepOf z.p m ((g'.meth:Int),g'.out))).length=81:=I7 _;have hdc:=fun w' (c:Cl w9 w')=>a9y (c.blk hG9.hb);rw [hcur] at hdc;generalize stepOf z.p m ((g'.meth:Int),g'.out)=SV at *;refine zR ?_;refine I8 true (E7 rfl) (zR ?_);have cD:Cl w9 w9.drew:=Cl.drew (Cl.refl _);have hPzD:=hPz.step cD;have naD:=cD.blk na9;have nbD:=cD.blk nb9;have ncD:=cD.blk nc9;have hRD:=hR9.step cD;have hGD:=hG9.step cD;have cwD:=c9.trans cD;have hdisL:=hG.dis;have fin:∀ w10 w11 w12 v' cv',Sf z.P z'.b z.p z'.cv w9.drew w10 cv'→a7s w.heap.size w10 (.slice av O.length kv) w11 v'→Row 39 81 stL w.heap.size w11 v' (O++[SV])→Upd w11 Ra (.cells #[v'] 28 (0,0)) w12 →
    i+1≤l.length∧K9 w12 G0 g' (L++[{ z' with cv:=cv' }]) y∧(L++[{ z' with cv:=cv' }]).length=i+1∧Ch.B9 y.p∧Ng y.p (i+1)∧a48 y.p (l.drop (i+1))∧(∀ n∈(L++[{ z' with cv:=cv' }])++[y],Ch.B9 n.p)∧w.heap.size≤y.M∧w.heap.size≤y.P∧g'.meth≤9
   ∧(O++[SV])++story (((L++[{ z' with cv:=cv' }])++[y]).map Q8.p) y.p ((g'.meth:Int),g'.out) ((l.drop (i+1)).map It.mv)=S∧(O++[SV]).length=i+1∧Row 39 81 stL w.heap.size w12 v' (O++[SV])
   ∧w12.heap[Ra]?=some (.cells #[v'] 28 (0,0))∧w12.heap[Rb]?=some (.cells #[.int .i64 0] 3 (0,0))∧w12.heap[Rc]?=some (.cells #[.bool false] 4 (0,0))∧Cl w w12:=by
   intro w10 w11 w12 v' cv' f10 hg hr' u12;have d10:=f10.tn.toCl cwD hzP;have hR10:=hRD.tnT f10.tn hPzD.hd zd;have hG10:K9 w10 G0 g' (L++[{ z' with cv:=cv' }]) y:=K9.mid hGD (by rw [hsame.P];exact f10.tn) (by rw [hsame.P,hsame.p];exact f10.pos) f10.own (by rw [hsame.P];exact hdisL)
   have kg:KT 39 w10 w11:=KT.grow hR10 hg;have na11:=kg _ _ _ zd (f10.nd hPzD naD zd);have ku:KT 28 w11 w12:=KT.upd u12 na11;have hmm:((L++[{ z' with cv:=cv' }])++[y]).map Q8.p=((L++[z'])++[y]).map Q8.p:=by simp
   refine ⟨hil,ku.game (kg.game hG10 zd zd zd zd zd) zd zd zd zd zd,by rw [zF,hLl];rfl,by rw [y4];exact hI2,by rw [y4];exact hN2,by rw [y4];exact hlz2,fun n hn=>?_,
    by omega,zo,hg9,by rw [hmm];exact hst2,by rw [zF,hOl];rfl,ku.row hr' zd,u12.at_,ku _ _ _ zd (kg _ _ _ zd (f10.nd hPzD nbD zd)),ku _ _ _ zd (kg _ _ _ zd (f10.nd hPzD ncD zd)),u12.cl (hg.toCl rfl d10) zo⟩
   rcases zq.1 hn with hn | hn
   ·rcases zq.1 hn with hn | hn
    ·exact hJ n (yO _ hn)
    ·rw [zY.1 hn];show Ch.B9 z'.p;rw [hsame.p];exact hIz
   ·rw [zY.1 hn,y4];exact hI2
  have hOn:O.length+1≤1000:=by omega
  clear hst hst2 hend hmap2 hnd hps hgb off9 hPz hPy hNode hkS f9 hld1 hld2 hld3 hsay hlz2;refine I5.mk2 [1,2,4] (.cons 0 (.cons 3 (.cons 5 (.cons 6 (.cons 7 (.cons 8 .done .nil) .nil) .nil) .nil) .nil) (.cons 3 (.cons 0 (.cons 5 (.cons 6 (.cons 7 (.cons 8 .done .nil) .nil) .nil) .nil) (.cons 5 (.cons 0 (.cons 6 (.cons 7 (.cons 8 .done .nil) .nil) .nil) (.cons 6 (.cons 0 (.cons 7 (.cons 8 .done .nil) .nil) .nil) .nil)) .nil)) .nil)) zk (zR ?_);iterate 30 (all_goals (first
   | exact trivial
   | exact ⟨(i+1,L++[{ z' with cv:=cx }],y,g',O++[SV],.slice a9 (O++[SV]).length k9),⟨d7 ni,trivial⟩,fin _ _ _ _ _ f10 hg hr' u12,by show l.length-(i+1)<l.length-i;omega⟩
   | refine And.intro ?_ ?_
   | refine g8 (hdc _ cD) ?_
   | (refine m8 (hstep _ cD) ?_
      rintro _ w10 ⟨rfl,cx,f10⟩;refine ⟨_,rfl,?_⟩;have hR10:=hRD.tnT f10.tn hPzD.hd zd;have d10:=f10.tn.toCl cwD hzP;have na10:=f10.nd hPzD naD zd)
   | refine d9 _ (D8 (v:=.slice av O.length kv) naD rfl rfl) ?_
   | refine d9 _ (D8 (v:=.slice av O.length kv) na10 rfl rfl) ?_
   | refine d9 _ (D8 (v:=.slice av O.length kv) ((Cl.alloc _ _).blk na10) rfl rfl) ?_
   | refine B6 b5X [stV SV] (by rw [zb];rfl) (by simp [stV,Value.cells,hlenS]) rfl zd zd ?_
   | (refine S0 b5X SV rfl hR10 rfl rfl (by simp [stV,Value.cells]) I7 a4S zo zd d10.size ?_
      intro v' w11 hr' hg;have na11:=(KT.grow hR10 hg) _ _ _ zd na10;obtain ⟨a9,k9,rfl,_⟩:=hr'.form)
   | refine J6 na11 [.slice a9 (O++[SV]).length k9] rfl zk rfl (by intro v hv;simp at hv;subst hv;rfl) (zU rfl) fun w12 u12=>?_
   | refine zR ?_))
 ·have e:i=l.length:=by omega
  have hO:O=S:=by rw [← hst,e,List.drop_length];show O=O++[];rw [zm]
  have eOl:O.length=l.length:=by omega
  refine zR ?_;refine d9 _ (D8 (v:=.slice av O.length kv) na rfl rfl) (zR ?_);refine d9 _ (D8 (v:=.slice av O.length kv) na rfl rfl) (zR ?_);refine zT na [.slice av O.length kv] fun w6 u6=>?_;refine zR ?_;refine zT ((Tn.upd u6).blk nb zo) [.int .i64 O.length] fun w7 u7=>?_;refine zR ?_;refine J6 ((Tn.upd u7).blk ((Tn.upd u6).blk nc zo) zo) [.bool true] rfl zk rfl (by intro v hv;simp at hv;subst hv;rfl) (zU rfl) fun w8 u8=>zR ?_
  have ka:w8.heap[Ra]?=some (.cells #[.slice av O.length kv] 28 (0,0)):=(Tn.upd u8).blk ((Tn.upd u7).blk u6.at_ zo) zo;have kb:w8.heap[Rb]?=some (.cells #[.int .i64 O.length] 3 (0,0)):=(Tn.upd u8).blk u7.at_ zo;have kc:w8.heap[Rc]?=some (.cells #[.bool true] 4 (0,0)):=u8.at_;have hR8:=((hR.updT u6 na zd).updT u7 ((Tn.upd u6).blk nb zo) zd).updT u8 ((Tn.upd u7).blk ((Tn.upd u6).blk nc zo) zo) zd;have c8:=u8.cl (u7.cl (u6.cl c5 zo) zo) zo;refine ⟨.inr rfl,.slice av O.length kv,.int .i64 O.length,.bool true,⟨⟨_,rfl,D8 ka rfl rfl⟩,⟨_,rfl,D8 kb rfl rfl⟩,_,rfl,D8 kc rfl rfl⟩,.slice av O.length kv,?_,?_,c8⟩
  ·rw [eOl]
  ·rw [← hO,hRa];exact hR8
theorem b9s {cs:Array Value} {k:Nat} {v:Value} (h:cs[k]?=some v):I3 cs k [v]=cs:=by
 show cs.setIfInBounds k v=cs;apply Array.ext_getElem?;intro j;rw [Array.getElem?_setIfInBounds];by_cases e:k=j
 ·subst e;rw [zM rfl,zM (Array.getElem?_eq_some_iff.1 h).1,h]
 ·rw [zJ e]
theorem b9t (s:Ch.a0n):(stL s)[3]?=some (.int .i64 s.tags):=rfl
theorem b9u (l:List Ch.a0n) (hl:∀ s∈l,StR s) (hn:l.length≤1000) {b0 b1:Nat} {u v:Value} (w:World) (hu:Row 39 81 stL b0 w u l) (hv:Row 39 81 stL b1 w v l):Calls G.P 24 #[u,v] w (L4 (.bool true) w):=by
 obtain ⟨au,cu,rfl,hau⟩:=hu.form;obtain ⟨av,cv,rfl,hav⟩:=hv.form;obtain ⟨zs,hzs,hz81⟩:=zSt;refine zN Tryz.func24 ?_;refine zG ?_;refine zR ?_;apply E.y8<;>intro h
 ·omega
 refine zR ?_;refine A9 (σ:=Nat) [4,5,6,14] 15 (fun a=>[(14,.int .i64 a)]) (fun a w'=>a≤l.length∧Cl w w') (fun a=>l.length-a) zk 0
  ⟨zo,Cl.refl _⟩ ⟨rfl,trivial⟩ ?_
 rintro i j w2 ⟨hi,hcl⟩;refine zR ?_;apply E.d6<;>intro h
 ·have hil:i<l.length:=by omega
  clear h;obtain ⟨gu,rfl⟩:=hau zo;obtain ⟨gv,rfl⟩:=hav zo;have ni:=C0 (i:=i) zo;have hs:=hl _ (yM hil);have l1:∀ w',Cl w w'→o4 G.P w' 39 ⟨gu,E.U7 0 ((i:Int)).toNat 81,none⟩ (stV l[i]):=fun w' h'=>a1f (hu.step h') I7 i hil rfl (by simp [E.y6]) rfl
  have l2:∀ w',Cl w w'→o4 G.P w' 39 ⟨gv,E.U7 0 ((i:Int)).toNat 81,none⟩ (stV l[i]):=fun w' h'=>a1f (hv.step h') I7 i hil rfl (by simp [E.y6]) rfl
  have l3:∀ w',Cl w w'→o4 G.P w' 3 ⟨gv,E.U7 0 ((i:Int)).toNat 81+3,none⟩ (.int .i64 (l[i]).tags):=fun w' h'=>by
   obtain ⟨cur,h1,h2⟩:=(hv.step h').get I7 i 3 hil zd;exact D8 h1 (by rw [E.y6,zg,yV];exact h2) rfl
  generalize l[i]=s at *;refine zR ?_;refine zC ?_;refine zR ?_;refine d9 _ (l1 _ hcl) (zR ?_);refine t7 zs hzs ?_;have d1:=Cl.alloc w2 (.cells zs.cells 39);have n1:=g7 w2 (.cells zs.cells 39);generalize w2.alloc (.cells zs.cells 39)=w3 at *;refine zR ?_;refine J6 n1 (stL s) rfl b7Z (I7 _) (a4S _) (by rw [hz81];decide) (fun w4 u4=>?_)
  have n4:w4.heap[w2.heap.size]?=some (.cells (stL s).toArray 39 (0,0)):=by rw [u4.at_,B7 _ _ (by rw [hz81,I7])]
  have d4:Cl w2 w4:=u4.cl d1 (yH _);clear n1 u4 d1;have c4:=hcl.trans d4;refine zR ?_;refine zC ?_;refine zR ?_;refine d9 _ (l3 _ c4) (zR ?_);refine J6 n4 [.int .i64 s.tags] rfl zk rfl (by intro v hv;rw [zY.1 hv];rfl) (by rw [List.size_toArray,I7];exact zU rfl) (fun w5 u5=>?_)
  have n5:w5.heap[w2.heap.size]?=some (.cells (stL s).toArray 39 (0,0)):=by
   have:=u5.at_;rw [b9s (by rw [List.getElem?_toArray];exact b9t s)] at this
   exact this
  have d5:Cl w2 w5:=u5.cl d4 (yH _);have c5:=hcl.trans d5;clear n4 u5 d4 c4;refine zR ?_;refine zK 6 ?_;refine zR ?_;refine m7 (stV s) (fun w hw=>c58 (hw.blk n5)) (zR ?_);refine zC ?_;refine zR ?_;refine m7 (stV s) (fun w hw=>l2 w (c5.trans hw)) (zR ?_);refine b8V c4U (c5K hs) rfl rfl (zR ?_);intro w6 c6;refine zR ?_;exact ⟨i+1,⟨d7 ni,trivial⟩,⟨zo,c5.trans c6⟩,zo⟩
 ·refine zR ?_;exact ⟨rfl,hcl⟩
end
section
open Go
namespace Ch
def rn (p:l9) (h f:Int):l9:={ p with half:=h,full:=f }
variable (p:l9) (h f:Int)
def Same (s t:a0n):Prop:=t.san=s.san∧t.lan=s.lan∧t.uci=s.uci∧t.tags=s.tags∧t.status=s.status∧∃ h f,t.pos=rn s.pos h f
inductive b4u:List a0n→List a0n→Prop
 | nil:b4u [] []
 | cons {s t:a0n} {l k:List a0n} (h:Same s t) (h':b4u l k):b4u (s::l) (t::k)
theorem b4u.len {l k:List a0n} (h:b4u l k):l.length=k.length:=by
 induction h with
 | nil=>rfl
 | cons _ _ ih=>simp [ih]
theorem b4u.at_ {l k:List a0n} (h:b4u l k):∀ (i:Nat) (s t:a0n),l[i]?=some s→k[i]?=some t→Same s t:=by
 induction h with
 | nil=>intro i s t ha _;simp at ha
 | cons h1 _ ih =>
  intro i s t ha hb;cases i with
  | zero =>
   simp only [List.getElem?_cons_zero,Option.some.injEq] at ha hb;subst ha hb;exact h1
  | succ i =>
   simp only [List.getElem?_cons_succ] at ha hb;exact ih i s t ha hb
attribute [local irreducible] story O8 made C6 stepOf
end Ch
end
section
open Go Go.RowKit
open E
theorem a4R.cells {w:World} {g o n c:Nat} {ms:List Mv} (h:a4R w (.slice (some ⟨g,o,none⟩) n c) ms):∀ (j:Nat) (u:Value),(ms.flatMap N1)[j]?=some u→w.cell? ⟨g,o+j,none⟩=some u:=by
 intro j u hj;have hlt:j<ms.length*3:=by
  have:=(List.getElem?_eq_some_iff.1 hj).1;rw [K5 E0] at this;exact this
 obtain ⟨a,c',e,h⟩:=h;obtain ⟨g',o',cs,t,fz,e2,hb,h2⟩:=h zo;injection e with e1 _ _;rw [e2] at e1;injection e1 with e1;injection e1 with e1 e3 _;subst e1 e3;have hi:j/3<ms.length:=by omega
 obtain ⟨h3,h4⟩:=h2 (j/3) hi;have hk:=a3t E0 ms (j/3) (j%3) hi zo;have hjj:j/3*3+j%3=j:=by omega
 rw [hjj,hj] at hk;rw [D2 hb];have h5:(cs.extract (o+j/3*3) (o+j/3*3+3))[j%3]?=(N1 ms[j/3])[j%3]?:=by
  rw [h4];simp [Z0,N1]
 rw [← hk,Array.getElem?_extract] at h5;split at h5
 ·rw [← h5];congr 1;omega
 ·cases h5
theorem Row.mvIn {e b0:Nat} {w:World} {v:Value} {l:List Mv} (h:Row e 3 N1 b0 w v l):a4R w v l:=by
 obtain ⟨a,c,rfl,ha⟩:=h.form;refine ⟨a,c,rfl,fun h0=>?_⟩;obtain ⟨g,rfl⟩:=ha h0;obtain ⟨cur,hb,_⟩:=h.getAll E0 0 h0;refine ⟨g,0,cur,e,_,rfl,hb,fun i hi=>?_⟩;obtain ⟨cur',hb',h1,h2⟩:=h.getAll E0 i hi;rw [hb] at hb';obtain rfl:=Obj.cells.inj (Option.some.inj hb') |>.1;rw [yV];exact ⟨h1,h2⟩
end
section
open Go Go.RowKit
open E
open Ch Bb
theorem nF {p:Prop} [Decidable p] {A B:Prop} (h:p) (h1:B):bif !decide p then A else B:=by rw [zX h];exact h1
theorem b2S:∀ (ms:List Mv) (l:List l9) (p:l9) (mo:Int×Tx),story l p mo ((story l p mo ms).map fun s=>s.mv)=story l p mo ms:=by
 intro ms
 induction ms with
 | nil=>intro l p mo;rfl
 | cons m r ih =>
  intro l p mo;have e:=a0q l p mo m r;generalize hX:story l p mo (m::r)=X at e ⊢;by_cases hl:O8 p m=true
  ·rw [zM hl] at e;have h3:=ih (l++[made p m]) (made p m) (C6 (l++[made p m]) (made p m) mo);have e2:=a0q l p mo m ((story (l++[made p m]) (made p m) (C6 (l++[made p m]) (made p m) mo) r).map fun s=>s.mv);rw [zM hl,h3] at e2;rw [e];exact e2
  ·rw [zJ hl] at e;rw [e];rfl
end
end Go.Proofs.YtpclhlhcegcflaaGreatDoor
