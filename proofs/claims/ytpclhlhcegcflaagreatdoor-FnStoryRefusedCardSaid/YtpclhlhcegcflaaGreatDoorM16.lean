/- One part of the proof: Arg Opn San San2 Pk52 Pk45 Sp28 Sp29 Sp30. -/
import Derived.Deep.Slices
import Derived.ProofKit
import Derived.Test.YtpclhlhcegcflaaGreatDoorM15
namespace Go.Proofs.YtpclhlhcegcflaaGreatDoor
open Go.Proofs.Tryz
set_option maxRecDepth 100000
set_option linter.unusedSimpArgs false
set_option linter.unusedVariables false
section
open Go Go.RowKit Go.Deep Go.ChangeShapes Go.WideShapes
open E
theorem b0R {W:World} {r:Reach} {b t:Nat} {k:IntKind} {v:Value} (ht:G.P.underlying t=some (.int k)) (h:Cell.okWide G.P W r b t v):∃ n,v = .int k n∧k.has n:=by
 unfold Cell.okWide Cell.ok at h;cases v<;>simp [ht] at h;rename_i k' n;obtain ⟨rfl,h⟩:=h;exact ⟨n,rfl,h⟩
theorem c2x {l:List Value} {k:IntKind}:(∀ (i:Nat) (v:Value),l[i]?=some v→∃ n,v=Value.int k n)→∃ zs:List Int,l=zs.map (Value.int k):=by
 induction l with
 | nil=>intro _;exact ⟨[],rfl⟩
 | cons v r ih =>
  intro h;obtain ⟨n,rfl⟩:=h 0 v rfl;obtain ⟨zs,rfl⟩:=ih (fun i v hv=>h (i+1) v (by simpa using hv))
  exact ⟨n::zs,rfl⟩
theorem c2y {n:Int} (h:IntKind.i64.has n):I64 n:=by
 have e1:IntKind.i64.min=-9223372036854775808:=by decide
 have e2:IntKind.i64.max=9223372036854775807:=by decide
 obtain ⟨h1,h2⟩:=h;rw [e1] at h1;rw [e2] at h2;exact ⟨h1,h2⟩
theorem c2z {zs:List Int} (h:zs.length=69):∃ s:g9,(zs.map (Value.int .i64)).toArray=t8 s:=by
 refine ⟨{ board:=zs.take 64,len:=by simp [h],turn:=zs.getD 64 0,castle:=zs.getD 65 0,ep:=zs.getD 66 0,half:=zs.getD 67 0,full:=zs.getD 68 0 },?_⟩
 unfold t8 Z2;congr 1;have:zs=zs.take 64++[zs.getD 64 0,zs.getD 65 0,zs.getD 66 0,zs.getD 67 0,zs.getD 68 0]:=by
  apply List.ext_getElem
  ·simp [h]
  ·intro i h1 h2;by_cases hi:i<64
   ·rw [List.getElem_append_left (by simp [h];exact hi)]
    simp
   ·rw [wZ (by simp [h];omega)]
    have hh:(zs.take 64).length=64:=by simp [h]
    simp only [hh];have:i=64∨i=65∨i=66∨i=67∨i=68:=by omega
    rcases this with rfl|rfl|rfl|rfl|rfl<;>simp [xA,h1]
 conv=>lhs;rw [this]
 rw [List.map_append];rfl
theorem b9V {W:World} {r:Reach} {b:Nat} {v:Value} (h:Value.okWide G.P W r b 24 v):∃ s:g9,v=F5 s:=by
 obtain ⟨f,hu,_⟩:=a2a (G.tab 24 _ (show X0 G.T 24=some (.struct 69 _) from rfl));unfold Value.okWide at h;rw [hu] at h;obtain ⟨cs,rfl,hs,ts,hts,_,hall⟩:=h;have e1:G.P.cellTypes G.P.depth 24=some (List.replicate 69 3):=by kernel_rfl
 obtain rfl:=yp (e1.symm.trans hts);have e2:G.P.cellsOf 24=69:=by kernel_rfl
 have e3:G.P.underlying 3=some (.int .i64):=by kernel_rfl
 rw [e2] at hs;obtain ⟨zs,hz⟩:=c2x (l:=cs.toList) (k:=.i64) (fun i v hv=>by
  obtain ⟨u,hu,hc⟩:=hall i v (by simpa using hv)
  rw [List.getElem?_replicate] at hu;split at hu
  ·obtain rfl:=yp hu;obtain ⟨n,h1,_⟩:=b0R e3 hc;exact ⟨n,h1⟩
  ·cases hu)
 obtain ⟨s,hs2⟩:=c2z (zs:=zs) (by have:=yM List.length hz;simpa [hs] using this.symm)
 refine ⟨s,?_⟩;unfold F5;rw [← hs2,← hz]
theorem c4C {n:Int} (h:(Lit.int .i64 n).wf=true):I64 n:=by
 have e1:IntKind.i64.min=-9223372036854775808:=by decide
 have e2:IntKind.i64.max=9223372036854775807:=by decide
 simp [Lit.wf,e1,e2] at h;exact ⟨zo,zo⟩
theorem b5d {H:Type} {enc:TypeId×Value→H} {W:World} {b base:Nat} {sp:Nat→Bool} {hd:Bool} {v:Value} {d:DataW H} {ps:List MemPlace} (h:Value.okWide G.P W .any b 25 v) (hr:DataW.Trod enc G.P W base sp hd 25 v d ps) :
  ∃ ms:List Mv,a5x W v ms∧∀ m∈ms,MvR m:=by
 have e1:G.P.underlying 25=some (.slice 36):=by kernel_rfl
 have e2:G.P.cellsOf 36=3:=by kernel_rfl
 have e3:G.P.underlying 3=some (.int .i64):=by kernel_rfl
 have e4:G.P.cellsOf 3=1:=by kernel_rfl
 obtain ⟨f,hu,_,hf,_⟩:=a2a (G.tab 36 _ (show X0 G.T 36=some (.struct 3 _) from rfl));have hf2:f.toList.map (fun x=>(x.type,x.offset))=[(3,0),(3,1),(3,2)]:=hf;have hfs:f.size=3:=by have:=yM List.length hf2;simpa using this
 have hfi:∀ i (hi:i<3),f[i].type=3∧f[i].offset=i:=fun i hi=>by
  have:=yM (fun l=>l[i]?) hf2;simp only [List.getElem?_map] at this;rw [yu (by simp [hfs];exact hi)] at this
  simp only [wg,Array.getElem_toList] at this;have h3:i=0∨i=1∨i=2:=by omega
  rcases h3 with rfl|rfl|rfl<;>simpa using this
 obtain ⟨fuel,hr⟩:=hr;unfold Value.okWide at h;rw [e1] at h;have hv:∃ oa len cap,v = .slice oa len cap:=by
  unfold Cell.okWide Cell.ok at h;cases v<;>simp [e1] at h;exact ⟨_,_,_,rfl⟩
 obtain ⟨oa,len,cap,rfl⟩:=hv;rcases open_slice e1 hr with ⟨h1,_⟩|⟨a,len',cap',m,n,D,Pl,h1,_,hl,hm,hmm,_,hx⟩
 ·obtain ⟨rfl,rfl,rfl⟩:oa=none∧len=0∧cap=0:=by simpa [Value.cells] using h1
  exact ⟨[],⟨none,0,rfl,fun h=>absurd h zd⟩,fun m hm=>by cases hm⟩
 ·obtain ⟨rfl,rfl,rfl⟩:oa=some a∧len=len'∧cap=cap':=by simpa [Value.cells] using h1
  unfold Cell.okWide Cell.ok at h;rw [e1] at h;obtain ⟨_,_,_,hsp,row,cells,hsh,_⟩:=h;obtain ⟨g,o,spo⟩:=a;obtain rfl:spo=none:=hsp;unfold World.shape? at hsh;cases hbb:W.heap[g]? with
  | none=>simp only [hbb] at hsh;cases hsh
  | some ob =>
   cases ob with
   | cells cs2 el fz =>
    have hlm:len≤m:=by rw [hmm];split<;>omega
    have key:∀ i,i<len→∃ mv:Mv,MvR mv∧o+i*3+3≤cs2.size∧cs2.extract (o+i*3) (o+i*3+3)=Z3 mv:=by
     intro i hi;obtain ⟨cs',hc1,hc2⟩:=hx i zo;obtain ⟨_,hlen,hcell⟩:=World.cells?_some hc1;rw [e2] at hlen hcell;obtain ⟨xs,n',_,_,_,hxl,hall⟩:=DataW.trod_struct hu hc2;have hz:∀ j,j<3→∃ z,cs2[o+i*3+j]?=some (Value.int .i64 z)∧I64 z:=by
      intro j hj;obtain ⟨t1,t2⟩:=hfi j hj;have h2:=hall j f[j] (by simp [hfs,hj])
      rw [t1,t2,e4,yu zo] at h2;obtain ⟨z,h3,_,h4⟩:=DataW.trod_int e3 h2;have h5:cs'[j]?=some (Value.int .i64 z):=by
       have:=yM (·[0]?) h3;simpa [xq,List.getElem?_drop] using this
      have h6:=hcell j hj;rw [h5,H6,H6] at h6;unfold World.cell? at h6;simp only [hbb] at h6;exact ⟨z,by simpa using h6,c4C h4⟩
     obtain ⟨z0,p0,r0⟩:=hz 0 zd;obtain ⟨z1,p1,r1⟩:=hz 1 zd;obtain ⟨z2,p2,r2⟩:=hz 2 zd;have hsz:=(yn.1 p2).1;refine ⟨⟨z0,z1,z2⟩,⟨r0,r1,r2⟩,zo,?_⟩;apply Array.ext
     ·simp [Z3];omega
     ·intro j h1 h2;have h3:j=0∨j=1∨j=2:=by simp [Z3] at h2;omega
      rw [Array.getElem_extract];rcases h3 with rfl|rfl|rfl
      ·exact (yn.1 p0).2
      ·exact (yn.1 p1).2
      ·exact (yn.1 p2).2
    have:Inhabited Mv:=⟨⟨0,0,0⟩⟩;obtain ⟨F,hF⟩:=choose_lt key;refine ⟨(List.range len).map F,⟨some ⟨g,o,none⟩,cap,by simp,fun _=>⟨g,o,cs2,el,fz,rfl,hbb,fun i hi=>?_⟩⟩,fun mv hmv=>?_⟩
    ·have hi2:i<len:=by simpa using hi
     obtain ⟨_,h7,h8⟩:=hF i hi2;exact ⟨h7,by simpa using h8⟩
    ·obtain ⟨i,hi,rfl⟩:=xU.1 hmv;exact (hF i (yr.1 hi)).1
   | _=>simp only [hbb] at hsh;cases hsh
theorem a9B {W:World} {r:Reach} {b:Nat} {v:Value} (h:Value.okWide G.P W r b 3 v):∃ n,v = .int .i64 n∧I64 n:=by
 have e3:G.P.underlying 3=some (.int .i64):=by kernel_rfl
 unfold Value.okWide at h;rw [e3] at h;obtain ⟨n,h1,h2⟩:=b0R e3 h;exact ⟨n,h1,c2y h2⟩
end
section
namespace Ch
def E2 (s:Tx) (c:UInt8):Bool:=s.contains c
theorem a3e {s:Tx} {c:UInt8}:E2 s c=true↔c∈s:=List.contains_iff_mem
def inS (t:Tx) (i:Nat) (s:Tx):Bool:=match t[i]? with
 | some c=>E2 s c
 | none=>false
def oneN (t:Tx) (i:Nat) (s:Tx):Nat:=if inS t i s then 1 else 0
def G2:Tx:=[82,78,66,81,75,80]
def K6:Tx:=[97,98,99,100,101,102,103,104]
def H4:Tx:=[48,49,50,51,52,53,54,55,56,57]
def a7G:Tx:=[43,35,33,63]
def epS:Tx:=[101,46,112,46]
def a7W:Tx:=[81,82,66,78]
def ooS:Tx:=[79,45,79]
def oooS:Tx:=[79,45,79,45,79]
def G5:Tx→Bool
 | []=>true
 | c::r=>if E2 a7G c then G5 r else if (c::r).take 4=epS then G5 (r.drop 3) else false
 termination_by t=>t.length
 decreasing_by all_goals (simp only [zh,yj];omega)
structure E0 where
 pc:Tx
 fo:Tx
 ro:Tx
 ca:Tx
 fi:Tx
 ra:Tx
 pr:Tx
 cs:Tx
def a0V {α:Type} (f:Nat→Option α):Nat→Option α
 | 0=>none
 | n+1=>match f n with
  | some x=>some x
  | none=>a0V f n
def X7 (t:Tx) (i j:Nat):Tx:=(t.drop i).take (j-i)
def b5e (t:Tx) (a b c d k:Nat):E0 :=
 ⟨X7 t 0 a,X7 t a (a+b),X7 t (a+b) (a+b+c),X7 t (a+b+c) (a+b+c+d),X7 t (a+b+c+d) (a+b+c+d+1),X7 t (a+b+c+d+1) (a+b+c+d+2),X7 t (a+b+c+d+2) (a+b+c+d+2+2*k),[]⟩
def b1Y (t:Tx) (a b c d k:Nat):Option E0:=if G5 (t.drop (a+b+c+d+2+2*k)) then some (b5e t a b c d k) else none
def a6w (t:Tx) (at_:Nat):Bool:=inS t (at_+2) [61]&&inS t (at_+3) a7W
def b0a (t:Tx) (a b c d:Nat):Option E0 :=
 if inS t (a+b+c+d) K6&&inS t (a+b+c+d+1) H4 then a0V (b1Y t a b c d) (if a6w t (a+b+c+d) then 2 else 1) else none
def b1Z (t:Tx) (a b c:Nat):Option E0:=a0V (b0a t a b c) (oneN t (a+b+c) [120]+1)
def b2a (t:Tx) (a b:Nat):Option E0:=a0V (b1Z t a b) (oneN t (a+b) H4+1)
def b2b (t:Tx) (a:Nat):Option E0:=a0V (b2a t a) (oneN t a K6+1)
def a0Q (t:Tx):Option E0:=a0V (b2b t) (oneN t 0 G2+1)
def a6x (o:Tx):E0:=⟨[],[],[],[],[],[],[],o⟩
def zzP (t:Tx):Option E0:=match a0Q t with
 | some q=>some q
 | none=>if t.take 5=oooS∧G5 (t.drop 5)=true then some (a6x oooS) else if t.take 3=ooS∧G5 (t.drop 3)=true then some (a6x ooS) else none
def N4 (q:E0):Tx:=q.pc++q.fo++q.ro++q.ca++q.fi++q.ra++q.pr++q.cs
def a0C (q:E0):List Tx :=
 if q.pc≠[] then [q.pc++q.ca++q.fi++q.ra++q.pr++q.cs,q.pc++q.ro++q.ca++q.fi++q.ra++q.pr++q.cs,q.pc++q.fo++q.ca++q.fi++q.ra++q.pr++q.cs]
 else (if q.ca≠[] then [q.fo++q.ca++q.fi++q.ra++q.pr] else [])++(if q.fo≠[]∧q.ro≠[] then [q.ca++q.fi++q.ra++q.pr] else [])
def fits (q:E0) (t:Tx):Prop:=N4 q=t∨t∈a0C q
instance (q:E0) (t:Tx):Decidable (fits q t):=by unfold fits;infer_instance
structure a1z (c:UInt8):Prop where
 l:E2 G2 c=false
 f:E2 K6 c=true
 d:E2 H4 c=false
 x:E2 [120] c=false
 e:E2 [61] c=false
 m:E2 [45] c=false
structure b0b (c:UInt8):Prop where
 l:E2 G2 c=false
 f:E2 K6 c=false
 d:E2 H4 c=true
 x:E2 [120] c=false
 e:E2 [61] c=false
 m:E2 [45] c=false
theorem b0S:∀ k:Nat,k<8→a1z (UInt8.ofNat (97+k)):=by
 intro k hk;rcases (by omega:k=0∨k=1∨k=2∨k=3∨k=4∨k=5∨k=6∨k=7) with rfl|rfl|rfl|rfl|rfl|rfl|rfl|rfl<;>exact ⟨zd,zd,zd,zd,zd,zd⟩
theorem b9W:∀ k:Nat,k<8→b0b (UInt8.ofNat (49+k)):=by
 intro k hk;rcases (by omega:k=0∨k=1∨k=2∨k=3∨k=4∨k=5∨k=6∨k=7) with rfl|rfl|rfl|rfl|rfl|rfl|rfl|rfl<;>exact ⟨zd,zd,zd,zd,zd,zd⟩
theorem U2 (s:Int):∃ c,v8 s=[c]∧a1z c:=⟨_,rfl,b0S _ zo⟩
theorem a10 {s:Int} (h0:0≤s) (h1:s≤63):∃ c,B6 s=[c]∧b0b c:=⟨_,rfl,b9W _ zo⟩
theorem a7f {a b:Nat} (ha:a<256) (hb:b<256) (h:UInt8.ofNat a=UInt8.ofNat b):a=b:=by
 have:=yM UInt8.toNat h;rw [UInt8.toNat_ofNat_of_lt' ha,UInt8.toNat_ofNat_of_lt' hb] at this;exact this
theorem a3f {a b:Int} (h:v8 a=v8 b):a%8=b%8:=by
 have:=a7f zo zo (yv h).1;omega
theorem a4g {a b:Int} (a0:0≤a) (a1:a≤63) (b0:0≤b) (b1:b≤63) (h:B6 a=B6 b):a/8=b/8:=by
 have:=a7f zo zo (yv h).1;omega
@[simp] theorem b33 (c:UInt8) (t s:Tx):inS (c::t) 0 s=E2 s c:=rfl
@[simp] theorem c5X (c:UInt8) (t s:Tx) (i:Nat):inS (c::t) (i+1) s=inS t i s:=rfl
@[simp] theorem c64 (s:Tx) (i:Nat):inS [] i s=false:=rfl
theorem T9:G5 []=true:=by rw [G5]
structure c5Y (t:Tx):Prop where
 x:inS t 0 [120]=false
 e:inS t 0 [61]=false
 m:inS t 0 [45]=false
 d:inS t 0 H4=false
 fd:(inS t 0 K6&&inS t 1 H4)=false
 l:inS t 0 G2=false
theorem b9X:∀ c∈a7G,E2 [120] c=false∧E2 [61] c=false∧E2 [45] c=false∧E2 H4 c=false∧E2 K6 c=false∧E2 G2 c=false:=by decide
theorem c3w {t:Tx} (h:G5 t=true):c5Y t:=by
 cases t with
 | nil=>exact ⟨rfl,rfl,rfl,rfl,rfl,rfl⟩
 | cons c r =>
  rw [G5] at h;by_cases hs:E2 a7G c=true
  ·obtain ⟨a1,a2,a3,a4,a5,a6⟩:=b9X c (a3e.1 hs);exact ⟨a1,a2,a3,a4,by rw [b33,a5];rfl,a6⟩
  ·rw [zJ hs] at h;by_cases h4:(c::r).take 4=epS
   ·rw [xh] at h4;obtain ⟨e1,e2⟩:=yv h4;subst e1;refine ⟨rfl,rfl,rfl,rfl,?_,rfl⟩;cases r with
    | nil=>cases e2
    | cons c2 r2 =>
     rw [xh] at e2;have:=(yv e2).1;subst this;rfl
   ·rw [zJ h4] at h;cases h
theorem a33 {o1 o2 o3 x pr sg:Tx} {f r:UInt8} (h1:o1=[]∨∃ c,o1=[c]∧E2 G2 c=true) (h2:o2=[]∨∃ c,o2=[c]∧a1z c) (h3:o3=[]∨∃ c,o3=[c]∧b0b c) (hx:x=[]∨x=[120]) (hf:a1z f) (hr:b0b r) (hp:pr=[]∨∃ c,pr=[61,c]∧E2 a7W c=true) (hs:G5 sg=true) :
  zzP (o1++o2++o3++x++[f]++[r]++pr++sg)=some ⟨o1,o2,o3,x,[f],[r],pr,[]⟩:=by
 obtain ⟨x1,x2,x3,x4,x5,x6⟩:=c3w hs;have hff:=hf.f;have hfl:=hf.l;have hfd:=hf.d;have hfx:=hf.x;have hfe:=hf.e;have hrf:=hr.f;have hrl:=hr.l;have hrd:=hr.d;have hrx:=hr.x;have hre:=hr.e;have k1:E2 K6 120=false:=by decide
 have k2:E2 H4 120=false:=by decide
 have k3:E2 G2 120=false:=by decide
 have k4:E2 K6 61=false:=by decide
 have k5:E2 H4 61=false:=by decide
 have k7:E2 [120] 120=true:=by decide
 have k8:E2 [61] 61=true:=by decide
 have k9:E2 [120] 61=false:=by decide
 have k10:E2 [61] 120=false:=by decide
 have k6:∀ c,E2 G2 c=true→E2 K6 c=false∧E2 H4 c=false∧E2 [120] c=false:=by
  intro c hc;have:∀ c∈G2,E2 K6 c=false∧E2 H4 c=false∧E2 [120] c=false:=by decide
  exact this c (a3e.1 hc)
 have hz:∀ q,a0Q (o1++o2++o3++x++[f]++[r]++pr++sg)=some q→zzP (o1++o2++o3++x++[f]++[r]++pr++sg)=some q:=fun q h=>by unfold zzP;rw [h]
 apply hz;clear hz;have h1':o1=[]∨∃ c,o1=[c]∧E2 G2 c=true∧E2 K6 c=false∧E2 H4 c=false∧E2 [120] c=false:=h1.imp id fun ⟨c,e,h⟩=>⟨c,e,h,k6 c h⟩;have h2':o2=[]∨∃ c,o2=[c]∧E2 K6 c=true∧E2 G2 c=false∧E2 H4 c=false∧E2 [120] c=false:=h2.imp id fun ⟨c,e,h⟩=>⟨c,e,h.f,h.l,h.d,h.x⟩;have h3':o3=[]∨∃ c,o3=[c]∧E2 K6 c=false∧E2 G2 c=false∧E2 H4 c=true∧E2 [120] c=false:=h3.imp id fun ⟨c,e,h⟩=>⟨c,e,h.f,h.l,h.d,h.x⟩;clear h1 h2 h3 hf hr;rcases h1' with rfl|⟨c1,rfl,y1,y2,y3,y4⟩<;>rcases h2' with rfl|⟨c2,rfl,z1,z2,z3,z4⟩<;>rcases h3' with rfl|⟨c3,rfl,v1,v2,v3,v4⟩<;>rcases hx with rfl|rfl<;>rcases hp with rfl|⟨c4,rfl,hc4⟩<;>simp [a0Q,b2b,b2a,b1Z,b0a,b1Y,a0V,oneN,a6w,b5e,X7, *]
end Ch
namespace Ch
def apF (p:g9) (m:Mv):Tx:=if (I3 p m).isEmpty then [] else if !(I3 p m).any (fun x=>decide (x.fr%8=m.fr%8)) then v8 m.fr else if !(I3 p m).any (fun x=>decide (x.fr/8=m.fr/8)) then [] else v8 m.fr
def apR (p:g9) (m:Mv):Tx:=if (I3 p m).isEmpty then [] else if !(I3 p m).any (fun x=>decide (x.fr%8=m.fr%8)) then [] else B6 m.fr
theorem a4h {p:g9} {m:Mv} (f0:0≤m.fr) (f1:m.fr≤63):apart p m=apF p m++apR p m:=by
 have hs:sqT m.fr=v8 m.fr++B6 m.fr:=by unfold sqT;rw [zJ zo]
 unfold apart apF apR;rw [hs];(repeat' split)<;>simp_all
def a3g (p:g9) (m:Mv) (fo ro:Tx):E0:=⟨[],fo,ro,E7 p m,v8 m.to,B6 m.to,a5C m,[]⟩
def a0R (p:g9) (m:Mv) (fo ro:Tx):E0:=⟨a2t (a0B (sq p m.fr)),fo,ro,E7 p m,v8 m.to,B6 m.to,[],[]⟩
def R8 (p:g9) (m:Mv):E0 :=
 if a0U p m=1 then a6x ooS
 else if a0U p m=2 then a6x oooS
 else if a0B (sq p m.fr)=6 then a3g p m (if a1r p m then v8 m.fr else []) []
 else a0R p m (apF p m) (apR p m)
inductive c5Z (p:g9) (m:Mv):Prop
 | castle (k:Int) (hk:k=1∨k=2) (h:a0U p m=k)
 | pawn (h:a0U p m=0) (hp:H3 p m) (hk:a0B (sq p m.fr)=6)
 | piece (h:a0U p m=0) (hp:H3 p m) (k1:1≤a0B (sq p m.fr)) (k5:a0B (sq p m.fr)≤5) (h0:m.promo=0)
theorem a2A {p:g9} (hI:B7 p) {m:Mv} (hm:m∈p9 p):c5Z p m:=by
 rcases (N9 hI m).1 hm with ⟨hp,_⟩|⟨r,hr,_⟩
 ·have hc:=(N1 hI hp).2;obtain ⟨k1,k6,_⟩:=Y5 hI hp.there hp.own;by_cases hk:a0B (sq p m.fr)=6
  ·exact .pawn hc hp hk
  ·refine .piece hc hp k1 zo ?_;rcases hp.promo with e|e
   ·exact e.1
   ·exact absurd e.2.2.1 hk
 ·obtain ⟨r4,rt,rb,hc⟩:=J1 hI hr;have hmv:=hc.mv;have hw:(if A9 (r:Int)<a2s r then (-1:Int) else 1)=1∨(if A9 (r:Int)<a2s r then (-1:Int) else 1)=-1:=by split<;>simp
  generalize (if A9 (r:Int)<a2s r then (-1:Int) else 1)=w at *
  have hking:=hc.king;refine .castle (if w=1 then 1 else 2) (by split<;>simp) ?_
  unfold a0U;rw [hmv];simp only [hking,S9 hI];rcases hw with rfl|rfl
  ·rw [zJ zd,zM zo,zM rfl]
  ·rw [zJ zd,zJ zo,zM zo,zJ zd]
theorem a1q {k:Int} (k1:1≤k) (k5:k≤5):∃ c,a2t k=[c]∧E2 G2 c=true∧E2 K6 c=false∧c≠120∧c≠79:=by
 rcases (by omega:k=1∨k=2∨k=3∨k=4∨k=5) with rfl|rfl|rfl|rfl|rfl<;>exact ⟨_,rfl,zd,zd,zd,zd⟩
theorem a9C {a b:Int} (a1:1≤a) (a5:a≤5) (b1:1≤b) (b5:b≤5) (h:a2t a=a2t b):a=b:=by
 rcases (by omega:a=1∨a=2∨a=3∨a=4∨a=5) with rfl|rfl|rfl|rfl|rfl<;>rcases (by omega:b=1∨b=2∨b=3∨b=4∨b=5) with rfl|rfl|rfl|rfl|rfl<;>first|rfl|exact absurd h zd
theorem c0a {p:g9} (hI:B7 p) {m:Mv} (hm:m∈p9 p):a5C m=[]∨∃ c,a5C m=[61,c]∧E2 a7W c=true:=by
 obtain ⟨_,_,_,_,hp⟩:=A3 hI hm;unfold a5C;rcases hp with e|⟨e1,e2,_⟩
 ·exact .inl (zM e)
 ·right;rw [zJ zo];rcases (by omega:m.promo=2∨m.promo=3∨m.promo=4∨m.promo=5) with e|e|e|e<;>rw [e]<;>exact ⟨_,rfl,zd⟩
theorem b7G {a b:Mv} (ha:a.promo=0∨2≤a.promo∧a.promo≤5) (hb:b.promo=0∨2≤b.promo∧b.promo≤5) (h:a5C a=a5C b):a.promo=b.promo:=by
 unfold a5C at h;rcases ha with e|⟨e1,e2⟩<;>rcases hb with g|⟨g1,g2⟩
 ·rw [e,g]
 ·rw [zM e,zJ zo] at h;cases h
 ·rw [zM g,zJ zo] at h;cases h
 ·rw [zJ zo,zJ zo] at h;exact a9C zo e2 zo g2 (yv h).2
theorem b0T (p:g9) (m:Mv):E7 p m=[]∨E7 p m=[120]:=by unfold E7;split<;>simp
theorem sq2 {i:Int} (h0:0≤i) (h1:i≤63):sqT i=v8 i++B6 i:=by unfold sqT;rw [zJ zo]
theorem a4i {p:g9} (hI:B7 p) {m:Mv} (hm:m∈p9 p):N4 (R8 p m)=body p m:=by
 obtain ⟨f0,f1,t0,t1,_⟩:=A3 hI hm;unfold R8 body;rw [sq2 t0 t1];split
 ·rfl
 ·split
  ·rfl
  ·split
   ·unfold N4 a3g E7;cases a1r p m<;>simp
   ·unfold N4 a0R;rw [a4h f0 f1];simp
theorem b34 (p:g9) (m:Mv):apF p m=[]∨apF p m=v8 m.fr:=by unfold apF;(repeat' split)<;>simp
theorem b35 (p:g9) (m:Mv):apR p m=[]∨apR p m=B6 m.fr:=by unfold apR;(repeat' split)<;>simp
theorem b2c {o:Tx} {s:Int} (h:o=[]∨o=v8 s):o=[]∨∃ c,o=[c]∧a1z c:=h.imp id fun e=>by rw [e];exact U2 s
theorem b2d {o:Tx} {s:Int} (h0:0≤s) (h1:s≤63) (h:o=[]∨o=B6 s):o=[]∨∃ c,o=[c]∧b0b c:=h.imp id fun e=>by rw [e];exact a10 h0 h1
theorem b36 {p:g9} (hI:B7 p) {m:Mv} (hm:m∈p9 p) (k1:1≤a0B (sq p m.fr)) (k5:a0B (sq p m.fr)≤5) {fo ro sg:Tx} (hf:fo=[]∨fo=v8 m.fr) (hr:ro=[]∨ro=B6 m.fr) (hs:G5 sg=true) :
  zzP (N4 (a0R p m fo ro)++sg)=some (a0R p m fo ro):=by
 obtain ⟨f0,f1,t0,t1,_⟩:=A3 hI hm;obtain ⟨c,hc,h1,_⟩:=a1q k1 k5;obtain ⟨f,ef,h2⟩:=U2 m.to;obtain ⟨r,er,h3⟩:=a10 t0 t1;have:=a33 (o1:=a2t (a0B (sq p m.fr))) (o2:=fo) (o3:=ro) (x:=E7 p m) (pr:=[]) (sg:=sg) (.inr ⟨c,hc,h1⟩) (b2c hf) (b2d f0 f1 hr) (b0T p m) h2 h3 (.inl rfl) hs;unfold N4 a0R;rw [ef,er];simpa using this
theorem b61 {p:g9} (hI:B7 p) {m:Mv} (hm:m∈p9 p) {fo ro sg:Tx} (hf:fo=[]∨fo=v8 m.fr) (hr:ro=[]∨ro=B6 m.fr) (hs:G5 sg=true) :
  zzP (N4 (a3g p m fo ro)++sg)=some (a3g p m fo ro):=by
 obtain ⟨f0,f1,t0,t1,_⟩:=A3 hI hm;obtain ⟨f,ef,h2⟩:=U2 m.to;obtain ⟨r,er,h3⟩:=a10 t0 t1;have:=a33 (o1:=[]) (o2:=fo) (o3:=ro) (x:=E7 p m) (pr:=a5C m) (sg:=sg) (.inl rfl) (b2c hf) (b2d f0 f1 hr) (b0T p m) h2 h3 (c0a hI hm) hs;unfold N4 a3g;rw [ef,er];simpa using this
theorem b0U {o sg:Tx} (ho:o=ooS∨o=oooS) (hs:G5 sg=true):zzP (o++sg)=some (a6x o):=by
 have hf:a0Q (o++sg)=none:=by
  rcases ho with rfl|rfl<;>rfl
 unfold zzP;rw [hf];rcases ho with rfl|rfl
 ·have h5:¬ ((ooS++sg).take 5=oooS∧G5 ((ooS++sg).drop 5)=true):=by
   rintro ⟨h,_⟩;have hm:=(c3w hs).m;cases sg with
   | nil=>cases h
   | cons c r =>
    have e:(ooS++c::r).take 5=[79,45,79,c]++r.take 1:=by rw [show ooS++c::r=79::45::79::c::r from rfl];simp
    rw [e] at h;have:c=45:=by
     have:=(yv (yv (yv (yv h).2).2).2).1;exact this
    subst this;rw [b33] at hm;exact absurd hm zd
  rw [zJ h5,zM ⟨rfl,hs⟩]
 ·rw [zM ⟨rfl,hs⟩]
theorem b2e {p:g9} (hI:B7 p) {m:Mv} (hm:m∈p9 p) {sg:Tx} (hs:G5 sg=true):zzP (body p m++sg)=some (R8 p m):=by
 rw [← a4i hI hm];rcases a2A hI hm with ⟨k,hk,h⟩|⟨h,hp,hk⟩|⟨h,hp,k1,k5,_⟩
 ·unfold R8;rw [h];rcases hk with rfl|rfl
  ·exact b0U (.inl rfl) hs
  ·exact b0U (.inr rfl) hs
 ·unfold R8;rw [h,zJ zd,zJ zd,zM hk];exact b61 hI hm (by split<;>simp) (.inl rfl) hs
 ·unfold R8;rw [h,zJ zd,zJ zd,zJ zo];exact b36 hI hm k1 k5 (b34 p m) (b35 p m) hs
theorem a1z.nx {c:UInt8} (h:a1z c):c≠120:=fun e=>by subst e;exact absurd h.x zd
theorem a1z.ne {c:UInt8} (h:a1z c):c≠61:=fun e=>by subst e;exact absurd h.e zd
theorem b0b.nx {c:UInt8} (h:b0b c):c≠120:=fun e=>by subst e;exact absurd h.x zd
theorem a08 {p:g9} {m:Mv} (h:a0U p m=0) (hk:a0B (sq p m.fr)=6) (t0:0≤m.to) (t1:m.to≤63):body p m=(if a1r p m then v8 m.fr++[120] else [])++(v8 m.to++B6 m.to)++a5C m:=by
 unfold body;rw [h,zJ zd,zJ zd,zM hk,sq2 t0 t1]
theorem a2r {p:g9} {m:Mv} (h:a0U p m=0) (hk:a0B (sq p m.fr)≠6) (f0:0≤m.fr) (f1:m.fr≤63) (t0:0≤m.to) (t1:m.to≤63):body p m=a2t (a0B (sq p m.fr))++(apF p m++apR p m)++E7 p m++(v8 m.to++B6 m.to):=by
 unfold body;rw [h,zJ zd,zJ zd,zJ hk,sq2 t0 t1,a4h f0 f1]
theorem a4j {p:g9} {m:Mv} {k:Int} (hk:k=1∨k=2) (h:a0U p m=k):body p m=if k=1 then ooS else oooS:=by
 unfold body;rw [h];rcases hk with rfl|rfl<;>rfl
theorem a4K {p:g9} (hI:B7 p) {m:Mv} (hm:m∈p9 p):∃ c r,body p m=c::r∧(c=79∧a0U p m≠0∨a1z c∧a0U p m=0∧a0B (sq p m.fr)=6∨E2 G2 c=true∧c≠79∧a0U p m=0∧a0B (sq p m.fr)≠6):=by
 obtain ⟨f0,f1,t0,t1,_⟩:=A3 hI hm;rcases a2A hI hm with ⟨k,hk,h⟩|⟨h,hp,hk⟩|⟨h,hp,k1,k5,_⟩
 ·rw [a4j hk h];refine ⟨79,if k=1 then [45,79] else [45,79,45,79],by split<;>rfl,.inl ⟨rfl,zo⟩⟩
 ·rw [a08 h hk t0 t1];obtain ⟨c,ec,h1⟩:=U2 m.fr;obtain ⟨d,ed,h2⟩:=U2 m.to;rw [ec,ed];split
  ·exact ⟨c,_,rfl,.inr (.inl ⟨h1,h,hk⟩)⟩
  ·exact ⟨d,_,rfl,.inr (.inl ⟨h2,h,hk⟩)⟩
 ·rw [a2r h zo f0 f1 t0 t1];obtain ⟨c,ec,h1,_,_,h4⟩:=a1q k1 k5;rw [ec];exact ⟨c,_,rfl,.inr (.inr ⟨h1,h4,h,zo⟩)⟩
theorem a6y {c:UInt8} (h:E2 G2 c=true) (h2:a1z c):False:=by rw [h2.l] at h;cases h
theorem a9D {p:g9} {x m:Mv}:x∈I3 p m↔x∈p9 p∧x.to=m.to∧x.fr≠m.fr∧sq p x.fr=sq p m.fr:=by
 unfold I3;rw [xg];simp only [zP,zc,zW,zZ];exact ⟨fun ⟨a,⟨b,c⟩,d⟩=>⟨a,b,c,d⟩,fun ⟨a,b,c,d⟩=>⟨a,⟨b,c⟩,d⟩⟩
theorem c0b {p:g9} {x m:Mv} (hm:m∈I3 p x) (x0:0≤x.fr) (x1:x.fr≤63) (m0:0≤m.fr) (m1:m.fr≤63) {fo ro:Tx} (hf:fo=[]∨fo=v8 m.fr) (hr:ro=[]∨ro=B6 m.fr):apF p x++apR p x≠fo++ro:=by
 obtain ⟨_,_,hne,_⟩:=a9D.1 hm;have he:(I3 p x).isEmpty=false:=by
  cases e:I3 p x with
  | nil=>rw [e] at hm;cases hm
  | cons a b=>rfl
 obtain ⟨c1,e1,f1⟩:=U2 x.fr;obtain ⟨c2,e2,f2⟩:=a10 x0 x1;obtain ⟨d1,g1,k1⟩:=U2 m.fr;obtain ⟨d2,g2,k2⟩:=a10 m0 m1;have n1:c1≠d2:=fun e=>by subst e;exact absurd (f1.f.symm.trans k2.f) zd
 have n2:c2≠d1:=fun e=>by subst e;exact absurd (f2.f.symm.trans k1.f) zd
 have n3:c1=d1→x.fr%8=m.fr%8:=fun e=>a3f (by rw [e1,g1,e])
 have n4:c2=d2→x.fr/8=m.fr/8:=fun e=>a4g x0 x1 m0 m1 (by rw [e2,g2,e])
 unfold apF apR;simp only [he,yG,xv];by_cases ha:(I3 p x).any (fun y=>decide (y.fr%8=x.fr%8))=true
 ·simp only [ha,wJ,yG,xv];by_cases hb:(I3 p x).any (fun y=>decide (y.fr/8=x.fr/8))=true
  ·simp only [hb,wJ,yG,xv];rw [e1,e2];rcases hf with rfl|rfl<;>rcases hr with rfl|rfl<;>(try simp only [g1,g2])<;>intro h
   ·cases h
   ·exact absurd h (by simp)
   ·exact absurd h (by simp)
   ·simp only [yX,yP,xB,and_true] at h;have:=n3 h.1;have:=n4 h.2;omega
  ·rw [Bool.not_eq_true] at hb;simp only [hb,Bool.not_false,wO];rw [e2];have hb2:∀ y∈I3 p x,¬ y.fr/8=x.fr/8:=fun y hy e=>by
    have:(I3 p x).any (fun y=>decide (y.fr/8=x.fr/8))=true:=xO.2 ⟨y,hy,zX e⟩;rw [hb] at this;cases this
   have:=hb2 m hm;rcases hf with rfl|rfl<;>rcases hr with rfl|rfl<;>(try simp only [g1,g2])<;>intro h
   ·cases h
   ·simp only [yP,xB,and_true] at h;have:=n4 h;omega
   ·simp only [zn,yP,xB,and_true] at h;exact n2 h
   ·exact absurd h (by simp)
 ·rw [Bool.not_eq_true] at ha;simp only [ha,Bool.not_false,wO];rw [e1];have ha2:∀ y∈I3 p x,¬ y.fr%8=x.fr%8:=fun y hy e=>by
   have:(I3 p x).any (fun y=>decide (y.fr%8=x.fr%8))=true:=xO.2 ⟨y,hy,zX e⟩;rw [ha] at this;cases this
  have:=ha2 m hm;rcases hf with rfl|rfl<;>rcases hr with rfl|rfl<;>(try simp only [g1,g2])<;>intro h
  ·cases h
  ·simp only [zn,yP,xB,and_true] at h;exact n1 h
  ·simp only [zn,xB,and_true] at h;have:=n3 h;omega
  ·exact absurd h (by simp)
theorem Mv.ext' {a b:Mv} (h1:a.fr=b.fr) (h2:a.to=b.to) (h3:a.promo=b.promo):a=b:=by cases a;cases b;simp_all
theorem b7H {p:g9} (hI:B7 p) {m x:Mv} (hm:m∈p9 p) (hx:x∈p9 p) (hc:a0U p m=0) (hp:H3 p m) (k1:1≤a0B (sq p m.fr)) (k5:a0B (sq p m.fr)≤5) (h0:m.promo=0) {fo ro:Tx} (hf:fo=[]∨fo=v8 m.fr) (hr:ro=[]∨ro=B6 m.fr)
  (h:a2t (a0B (sq p m.fr))++(fo++ro)++E7 p m++(v8 m.to++B6 m.to)=body p x):x=m:=by
 obtain ⟨f0,f1,t0,t1,_⟩:=A3 hI hm;obtain ⟨g0,g1,s0,s1,_⟩:=A3 hI hx;obtain ⟨c,ec,l1,_,_,l4⟩:=a1q k1 k5;obtain ⟨d,r,ed,hd⟩:=a4K hI hx;have hcd:c=d:=by rw [ed,ec] at h;exact (yv h).1
 subst hcd;rcases hd with ⟨e,_⟩|⟨e,_⟩|⟨_,_,hcx,hk6⟩
 ·exact absurd e l4
 ·exact (a6y l1 e).elim
 rcases a2A hI hx with ⟨k,hk,hh⟩|⟨_,_,hk⟩|⟨_,hq,q1,q5,q0⟩
 ·omega
 ·exact absurd hk hk6
 rw [a2r hcx hk6 g0 g1 s0 s1] at h;obtain ⟨h2,h3⟩:=List.append_inj' h (by simp [v8,B6])
 obtain ⟨h4,h5⟩:=List.append_inj h3 (by simp [v8])
 have hto:x.to=m.to:=by
  have e1:=a3f h4;have e2:=a4g t0 t1 s0 s1 h5;omega
 have htk:E7 p m=E7 p x:=by
  unfold E7;rw [show a1r p m=a1r p x by unfold a1r;rw [zV (show ¬ a0B (sq p m.fr)=6 by omega),zV hk6,hto];rfl]
 rw [htk] at h2;have h2:=List.append_cancel_right h2;obtain ⟨e,ee,_⟩:=a1q q1 q5;obtain ⟨h6,h7⟩:=List.append_inj h2 (by rw [ec,ee];rfl)
 have hkk:=a9C k1 k5 q1 q5 h6;refine yl fun hne=>?_;have hfr:m.fr≠x.fr:=fun e=>hne (Mv.ext' e.symm hto (by rw [h0,q0]))
 have o1:=(Y5 hI hp.there hp.own).2.2;have o2:=(Y5 hI hq.there hq.own).2.2;exact c0b (a9D.2 ⟨hm,hto.symm,hfr,zo⟩) g0 g1 f0 f1 hf hr h7.symm
theorem b37 {p:g9} (hI:B7 p) {m x:Mv} (hm:H3 p m) (hx:H3 p x) (km:a0B (sq p m.fr)=6) (kx:a0B (sq p x.fr)=6) (ht:a1r p x=a1r p m) (hf:a1r p m=true→x.fr%8=m.fr%8) (hto:x.to=m.to) (hpr:x.promo=m.promo):x=m:=by
 have hT:=hI.turn;obtain ⟨_,_,o1⟩:=Y5 hI hm.there hm.own;obtain ⟨_,_,o2⟩:=Y5 hI hx.there hx.own;have f0:=hm.f0;have f1:=hm.f1;have g0:=hx.f0;have g1:=hx.f1;have t0:=hm.t0;have t1:=hm.t1;have c1:=S0 hI hm.f0 hm.f1 hm.there hm.own hm.goal;have c2:=S0 hI hx.f0 hx.f1 hx.there hx.own hx.goal;rw [hto] at c2;have tm:∀ y:Mv,a0B (sq p y.fr)=6→a1r p y=(!decide (sq p y.to=0) || !decide (o5 y.fr=o5 y.to)):=fun y hy=>by unfold a1r;rw [zX hy,yY]
 have u1:=tm m km;have u2:=tm x kx;rw [hto] at u2;have hu:up p.turn=1∨up p.turn=-1:=by unfold up;omega
 refine Mv.ext' ?_ hto hpr;rcases c1 with ⟨e,_⟩|⟨_,z1,fl1,rk1⟩|⟨_,fl1,rk1,_,_⟩
 ·exact absurd km e
 ·have tk:a1r p m=false:=by rw [u1,zX z1,zX fl1.symm];rfl
  rcases c2 with ⟨e,_⟩|⟨_,_,fl2,rk2⟩|⟨_,fl2,rk2,_,_⟩
  ·exact absurd kx e
  ·unfold o5 l8 at *;rcases rk1 with rk1|⟨rk1,rr1,z3⟩<;>rcases rk2 with rk2|⟨rk2,rr2,z4⟩
   ·omega
   ·exfalso;rw [a4Y zo zo zo zo] at z4;have:8*(x.fr/8+up p.turn)+x.fr%8=m.fr:=by omega
    rw [this] at z4;rw [z4] at km;exact absurd km zd
   ·exfalso;rw [a4Y zo zo zo zo] at z3;have:8*(m.fr/8+up p.turn)+m.fr%8=x.fr:=by omega
    rw [this] at z3;rw [z3] at kx;exact absurd kx zd
   ·omega
  ·exfalso;rw [tk,u2,zV (show ¬ o5 x.fr=o5 m.to by omega)] at ht
   simp at ht
 ·have tk:a1r p m=true:=by rw [u1,zV (show ¬ o5 m.fr=o5 m.to by omega)];simp
  have e:=hf tk;rcases c2 with ⟨e,_⟩|⟨_,z2,fl2,rk2⟩|⟨_,fl2,rk2,_,_⟩
  ·exact absurd kx e
  ·exfalso;rw [tk,u2,zX z2,zX fl2.symm] at ht;simp at ht
  ·unfold l8 at *;omega
theorem a4L {p:g9} (hI:B7 p) {m x:Mv} (hm:m∈p9 p) (hx:x∈p9 p) (hp:H3 p m) (hk:a0B (sq p m.fr)=6) {z:Tx}
  (hz:z=(if a1r p m then v8 m.fr++[120] else [])++(v8 m.to++B6 m.to)++a5C m∨z=v8 m.fr++B6 m.fr++E7 p m++(v8 m.to++B6 m.to)++a5C m∨z=E7 p m++(v8 m.to++B6 m.to)++a5C m) (h:z=body p x):x=m:=by
 obtain ⟨f0,f1,t0,t1,hpm⟩:=A3 hI hm;obtain ⟨g0,g1,s0,s1,hpx⟩:=A3 hI hx;obtain ⟨c1,e1,F1⟩:=U2 m.fr;obtain ⟨c2,e2,F2⟩:=a10 f0 f1;obtain ⟨c3,e3,F3⟩:=U2 m.to;obtain ⟨c4,e4,F4⟩:=a10 t0 t1;obtain ⟨d1,E1,G1⟩:=U2 x.fr;obtain ⟨d3,E3,G3⟩:=U2 x.to;obtain ⟨d4,E4,G4⟩:=a10 s0 s1;have hh:∃ c r,z=c::r∧(a1z c∨c=120):=by
  rw [e1,e2,e3,e4] at hz;rcases hz with rfl|rfl|rfl
  ·split
   ·exact ⟨_,_,rfl,.inl F1⟩
   ·exact ⟨_,_,rfl,.inl F3⟩
  ·exact ⟨_,_,rfl,.inl F1⟩
  ·rcases b0T p m with e|e<;>rw [e]
   ·exact ⟨_,_,rfl,.inl F3⟩
   ·exact ⟨_,_,rfl,.inr rfl⟩
 obtain ⟨c,r,ez,hc⟩:=hh;obtain ⟨d,r',ed,hd⟩:=a4K hI hx;have hcd:c=d:=by rw [ez,ed] at h;exact (yv h).1
 subst hcd;have h79:c≠79:=by
  rcases hc with hc|rfl
  ·intro e;subst e;exact absurd hc.f zd
  ·decide
 have hlt:E2 G2 c≠true:=by
  rcases hc with hc|rfl
  ·intro e;exact a6y e hc
  ·decide
 rcases hd with ⟨e,_⟩|⟨hfc,hcx,hkx⟩|⟨e,_⟩
 ·exact absurd e h79
 rotate_left
 ·exact absurd e hlt
 have hq:H3 p x:=by
  rcases a2A hI hx with ⟨k,hk,hh⟩|⟨_,hq,_⟩|⟨_,hq,_⟩
  ·omega
  ·exact hq
  ·exact hq
 have hpi:=fun (e:a5C x=a5C m)=>b7G (a:=x) (b:=m) (hpx.imp id fun q=>⟨q.1,q.2.1⟩) (hpm.imp id fun q=>⟨q.1,q.2.1⟩) e;have hti:d3=c3→d4=c4→x.to=m.to:=fun a b=>by
  have q1:=a3f (a:=x.to) (b:=m.to) (by rw [E3,e3,a])
  have q2:=a4g s0 s1 t0 t1 (by rw [E4,e4,b])
  omega
 have hfi:d1=c1→x.fr%8=m.fr%8:=fun a=>a3f (by rw [E1,e1,a])
 rw [a08 hcx hkx s0 s1,E1,E3,E4] at h;rw [e1,e2,e3,e4] at hz;have hpn:∀ y:Mv,y.promo=0∨2≤y.promo∧y.promo≤5∧a0B (sq p y.fr)=6→a5C y=[]∨∃ c,a5C y=[61,c]:=fun y hy=>by
  unfold a5C;rcases hy with e|⟨e1,e2,_⟩
  ·exact .inl (zM e)
  ·right;obtain ⟨c,ec,_⟩:=a1q (k:=y.promo) zo e2;rw [zJ zo,ec];exact ⟨_,rfl⟩
 have main:(if a1r p m then [c1]++[120] else [])++([c3]++[c4])++a5C m=(if a1r p x then [d1]++[120] else [])++([d3]++[d4])++a5C x→x=m:=by
  intro h;by_cases tm:a1r p m=true<;>by_cases tx:a1r p x=true
  ·rw [zM tm,zM tx] at h;simp only [yX,yP,xB,true_and] at h;exact b37 hI hp hq hk hkx (tx.trans tm.symm) (fun _=>hfi h.1.symm) (hti h.2.1.symm h.2.2.1.symm) (hpi h.2.2.2.symm)
  ·rw [zM tm,zJ tx] at h;simp only [yX,yP,xB] at h;exact absurd h.2.1.symm G4.nx
  ·rw [zJ tm,zM tx] at h;simp only [yX,yP,xB] at h;exact absurd h.2.1 F4.nx
  ·rw [zJ tm,zJ tx] at h;simp only [yX,yP,xB] at h;exact b37 hI hp hq hk hkx (by rw [Bool.not_eq_true] at tm tx;rw [tm,tx]) (fun e=>absurd e tm) (hti h.1.symm h.2.1.symm) (hpi h.2.2.symm)
 rcases hz with hz|hz|hz
 ·exact main (hz.symm.trans h)
 ·exfalso;rw [hz] at h;by_cases tx:a1r p x=true
  ·rw [zM tx] at h;simp only [yX,yP,xB] at h;exact F2.nx h.2.1
  ·rw [zJ tx] at h;simp only [yX,yP,xB] at h;have h3:=h.2.2;rcases hpn x hpx with e|⟨c,e⟩<;>rw [e] at h3<;>rcases b0T p m with g|g<;>rw [g] at h3
   ·cases h3
   ·cases h3
   ·exact F3.ne (yv h3).1
   ·exact absurd (yv h3).1 zd
 ·rw [hz] at h;by_cases tm:a1r p m=true
  ·exfalso;rw [show E7 p m=[120] by unfold E7;rw [zM tm]] at h
   by_cases tx:a1r p x=true
   ·rw [zM tx] at h;exact G1.nx (yv h).1.symm
   ·rw [zJ tx] at h;exact G3.nx (yv h).1.symm
  ·apply main;rw [show E7 p m=[] by unfold E7;rw [zJ tm]] at h
   rw [zJ tm];exact h
theorem b5f {p:g9} (hI:B7 p) {m x:Mv} (hm:m∈p9 p) (hx:x∈p9 p) {k:Int} (hk:k=1∨k=2) (h:a0U p m=k) (h2:a0U p x=k):x=m:=by
 have get:∀ y∈p9 p,a0U p y=k→y=⟨4+56*p.turn,4+56*p.turn+(if k=1 then 2 else -2),0⟩:=by
  intro y hy hyk;rcases (N9 hI y).1 hy with ⟨hp,_⟩|⟨r,hr,_⟩
  ·have:=(N1 hI hp).2;omega
  ·obtain ⟨r4,rt,rb,hc⟩:=J1 hI hr;have hmv:=hc.mv;have hK:=hc.k;have hw:(if A9 (r:Int)<a2s r then (-1:Int) else 1)=1∨(if A9 (r:Int)<a2s r then (-1:Int) else 1)=-1:=by split<;>simp
   generalize (if A9 (r:Int)<a2s r then (-1:Int) else 1)=w at *
   have hking:=hc.king;unfold a0U at hyk;rw [hmv] at hyk ⊢;simp only [hking,S9 hI] at hyk;rw [← hK];rcases hw with rfl|rfl
   ·rw [zJ zd,zM zo] at hyk;subst hyk;rfl
   ·rw [zJ zd,zJ zo,zM zo] at hyk;subst hyk;rfl
 rw [get m hm h,get x hx h2]
theorem b38 {p:g9} (hI:B7 p) {m x:Mv} (hm:m∈p9 p) (hx:x∈p9 p) {k:Int} (hk:k=1∨k=2) (h:a0U p m=k) (hb:(if k=1 then ooS else oooS)=body p x):x=m:=by
 obtain ⟨c,r,ec,hc⟩:=a4K hI hx;have h79:c=79:=by
  rw [ec] at hb;rcases hk with rfl|rfl<;>exact (yv hb).1.symm
 subst h79;rcases hc with ⟨_,hcx⟩|⟨e,_⟩|⟨_,e,_⟩
 ·rcases a2A hI hx with ⟨k',hk',hh⟩|⟨hh,_⟩|⟨hh,_⟩
  ·rw [a4j hk' hh] at hb;have:k'=k:=by
    rcases hk with rfl|rfl<;>rcases hk' with rfl|rfl<;>first|rfl|exact absurd hb zd
   subst this;exact b5f hI hm hx hk' h hh
  ·exact absurd hh hcx
  ·exact absurd hh hcx
 ·exact absurd e.f zd
 ·exact absurd rfl e
inductive a5h (p:g9) (m:Mv):E0→Prop
 | own:a5h p m (R8 p m)
 | pawn (h:a0U p m=0) (hk:a0B (sq p m.fr)=6):a5h p m (a3g p m (v8 m.fr) (B6 m.fr))
 | piece (h:a0U p m=0) (hk:a0B (sq p m.fr)≠6) (fo ro:Tx) (hf:fo=[]∨fo=v8 m.fr) (hr:ro=[]∨ro=B6 m.fr) (ha:apart p m=[]∨apart p m=ro∨apart p m=fo∨apart p m=fo++ro):a5h p m (a0R p m fo ro)
theorem c0c (o:Tx):a0C (a6x o)=[]:=rfl
theorem a9E {p:g9} (hI:B7 p) {m x:Mv} (hm:m∈p9 p) (hx:x∈p9 p) {q:E0} (hq:a5h p m q):fits q (body p x)↔x=m:=by
 obtain ⟨f0,f1,t0,t1,hpm⟩:=A3 hI hm;have pieceL:∀ fo ro:Tx,a0U p m=0→H3 p m→1≤a0B (sq p m.fr)→a0B (sq p m.fr)≤5→m.promo=0→(fo=[]∨fo=v8 m.fr)→(ro=[]∨ro=B6 m.fr)→fits (a0R p m fo ro) (body p x)→x=m:=by
  intro fo ro hc hp k1 k5 h0 hf hr h;have one:=fun {a b:Tx} ha hb e=>b7H hI hm hx hc hp k1 k5 h0 (fo:=a) (ro:=b) ha hb e;obtain ⟨c,ec,_⟩:=a1q k1 k5;have hne:a2t (a0B (sq p m.fr))≠[]:=by rw [ec];simp
  unfold fits a0C at h;rw [zM (show (a0R p m fo ro).pc≠[] from hne)] at h;unfold N4 a0R at h;simp only [zn,yV,zy,xH] at h;rcases h with h|h|h|h
  ·exact one hf hr (by rw [← h];simp)
  ·exact one (a:=[]) (b:=[]) (.inl rfl) (.inl rfl) (by rw [h];simp)
  ·exact one (a:=[]) (b:=ro) (.inl rfl) hr (by rw [h];simp)
  ·exact one (a:=fo) (b:=[]) hf (.inl rfl) (by rw [h];simp)
 have plain_of:a0U p m=0→H3 p m:=fun h=>by
  rcases a2A hI hm with ⟨k,hk,hh⟩|⟨_,hq,_⟩|⟨_,hq,_⟩
  ·omega
  ·exact hq
  ·exact hq
 cases hq with
 | own =>
  constructor
  ·intro h;rcases a2A hI hm with ⟨k,hk,hc⟩|⟨hc,hp,hk⟩|⟨hc,hp,k1,k5,h0⟩
   ·have e:R8 p m=a6x (if k=1 then ooS else oooS):=by unfold R8;rw [hc];rcases hk with rfl|rfl<;>rfl
    rw [e] at h;unfold fits at h;rw [c0c] at h;rcases h with h|h
    ·exact b38 hI hm hx hk hc (by rw [← h];unfold N4 a6x;simp)
    ·cases h
   ·have e:R8 p m=a3g p m (if a1r p m then v8 m.fr else []) []:=by unfold R8;rw [hc,zJ zd,zJ zd,zM hk]
    rw [e] at h;have he:¬ (a3g p m (if a1r p m then v8 m.fr else []) []).pc≠[]:=fun e=>e rfl
    unfold fits a0C at h;rw [zJ he] at h;clear he e;unfold N4 a3g E7 at h;refine a4L hI hm hx hp hk (z:=body p x) (.inl ?_) rfl;cases tm:a1r p m
    ·rw [tm] at h;simp at h;rw [← h];simp
    ·rw [tm] at h;simp at h;rcases h with h|h
     ·rw [← h];simp
     ·rw [h];simp
   ·have e:R8 p m=a0R p m (apF p m) (apR p m):=by unfold R8;rw [hc,zJ zd,zJ zd,zJ zo]
    rw [e] at h;exact pieceL _ _ hc hp k1 k5 h0 (b34 p m) (b35 p m) h
  ·rintro rfl;exact .inl (a4i hI hm)
 | pawn hc hk =>
  have hp:=plain_of hc;unfold fits a0C;rw [zJ (fun e=>e rfl)];have n1:v8 m.fr≠[]:=by simp [v8]
  have n2:B6 m.fr≠[]:=by simp [B6]
  constructor
  ·intro h;unfold N4 a3g at h;rw [zM (show v8 m.fr≠[]∧B6 m.fr≠[] from ⟨n1,n2⟩)] at h;simp only [zn,yP,zr,zY] at h;rcases h with h|h|h
   ·exact a4L hI hm hx hp hk (z:=body p x) (.inr (.inl (by rw [← h];simp))) rfl
   ·by_cases tm:a1r p m=true
    ·have e:E7 p m=[120]:=by unfold E7;rw [zM tm]
     rw [e,zM (by simp)] at h
     refine a4L hI hm hx hp hk (z:=body p x) (.inl ?_) rfl;rw [zM tm,zY.1 h];simp
    ·have e:E7 p m=[]:=by unfold E7;rw [zJ tm]
     simp [e] at h
   ·exact a4L hI hm hx hp hk (z:=body p x) (.inr (.inr (by rw [h];simp))) rfl
  ·rintro rfl;right;rw [a08 hc hk t0 t1];unfold a3g E7;cases tm:a1r p x
   ·simp [n1,n2]
   ·simp [n1]
 | piece hc hk fo ro hf hr ha =>
  have hp:=plain_of hc;obtain ⟨k1,k6,_⟩:=Y5 hI hp.there hp.own;have h0:m.promo=0:=by
   rcases hpm with e|⟨_,_,e⟩
   ·exact e
   ·exact absurd e hk
  refine ⟨pieceL _ _ hc hp k1 zo h0 hf hr,?_⟩;rintro rfl;obtain ⟨c,ec,_⟩:=a1q k1 zo;have hne:a2t (a0B (sq p x.fr))≠[]:=by rw [ec];simp
  rw [a2r hc hk f0 f1 t0 t1,← a4h f0 f1];unfold fits a0C;rw [zM (show (a0R p x fo ro).pc≠[] from hne)];unfold N4 a0R;rcases ha with e|e|e|e<;>rw [e]<;>simp
def a7H (q:E0) (t:Tx):Bool:=decide (fits q t)
theorem a1U {q:E0} {t:Tx}:a7H q t=true↔fits q t:=decide_eq_true_iff
def b0d (p:g9) (q:E0):Option PM:=(P7 p).find? fun x=>a7H q (body p x.mv)
theorem b5g {p:g9} (hI:B7 p) {m:Mv} (hm:m∈p9 p) {q:E0} (hq:a5h p m q):∃ x∈P7 p,b0d p q=some x∧x.mv=m:=by
 obtain ⟨h1,h2⟩:=a1l hI;obtain ⟨y,hy,ey⟩:=h2 m hm;unfold b0d;cases e:(P7 p).find? fun x=>a7H q (body p x.mv) with
 | none =>
  have:=List.find?_eq_none.1 e y hy;rw [ey] at this;exact absurd (a1U.2 ((a9E hI hm hm hq).2 rfl)) this
 | some x =>
  have hx:=List.mem_of_find?_eq_some e;have hd:=List.find?_some e;exact ⟨x,hx,rfl,(a9E hI hm (h1 x hx).1 hq).1 (a1U.1 hd)⟩
end Ch
end
section
open Go Go.RowKit
open E
open Ch Bb
theorem c0d {s:Tx} {i:Nat} (h:i<s.length) (set:Tx):inS s i set=E2 set s[i]:=by
 unfold inS;rw [yu h]
theorem b62 {s:Tx} {i:Nat} (h:s.length≤i) (set:Tx):inS s i set=false:=by
 unfold inS;rw [xS h]
theorem a6z {s set:Tx} {i:Nat} (h:inS s i set=true):oneN s i set=1:=by unfold oneN;rw [zM h]
theorem a7g {s set:Tx} {i:Nat} (h:inS s i set=false):oneN s i set=0:=by unfold oneN;rw [h];rfl
theorem c3x {a b:UInt8} (h:¬ ((a.toNat:Nat):Int)=(b.toNat:Nat)):a≠b:=fun e=>h (by rw [e])
theorem c3y {a b:UInt8} (h:((a.toNat:Nat):Int)=(b.toNat:Nat)):a=b:=UInt8.toNat_inj.1 zo
theorem c6a {s set:Tx} {i b t:Nat} {fz:Nat×Nat} (hi:i≤100000) (hs:s.length≤100000) (hset:set.length≤1000) (w:World) (hb:w.heap[b]?=some (.cells #[m7 s] t fz)) :
  Calls G.P 347 #[.int .i64 i,m7 set,.pointer (some ⟨b,0,none⟩)] w (N0 (.int .i64 (oneN s i set:Nat)) w):=by
 have hsz:(tx s).size=s.length:=C5 _;have hset2:(tx set).size=set.length:=C5 _;refine zN func347 ?_;refine zR ?_;refine b7 _ (D9 hb rfl rfl) (zR ?_);rw [hsz];apply E.d7<;>intro h
 ·have hlt:i<s.length:=by omega
  have hx:=a98 hlt;clear h;refine zR ?_;refine C1 (σ:=Nat) [5,6] 7 (fun j=>[(6,.int .i64 j)]) (fun j w'=>j≤set.length∧(∀ k,k<j→set[k]?≠some s[i])∧Cl w w') (fun j=>set.length-j) zk 0 ⟨zo,fun k hk=>by omega,Cl.refl w⟩ ⟨rfl,trivial⟩ ?_
  rintro j jj w2 ⟨hj,hno,c2⟩;have nj:=C4 (i:=j) zo;refine zR ?_;rw [hset2];apply E.d7<;>intro h
  ·have hj2:j<set.length:=by omega
   have hy:=a98 hj2;clear h;refine zR ?_;refine zK 7 ?_;refine zR ?_;refine l9 _ (fun w' hw=>D9 ((c2.trans hw).blk hb) rfl rfl) ?_;refine E.A1 (F6.2 ⟨zo,by rw [hsz];omega⟩) (zR ?_)
   refine E.A1 (F6.2 ⟨zo,by rw [hset2];omega⟩) (zR ?_)
   intro w3 c3;rw [hx,hy];refine zR ?_;apply E.d7<;>intro h
   ·have e:=c3y h;refine zR ?_;refine ⟨D4 ?_,c2.trans c3⟩;rw [a6z];rfl;rw [c0d hlt,e];exact a3e.2 (yQ hj2)
   ·have e:=c3x h;refine zR ?_;refine ⟨j+1,⟨d9 nj,trivial⟩,⟨zo,fun k hk=>?_,c2.trans c3⟩,zo⟩;by_cases e2:k<j
    ·exact hno k e2
    ·have:k=j:=by omega
     subst this;rw [yu hj2];intro e3;injection e3 with e3;exact e e3.symm
  ·refine zR ?_;refine ⟨D4 ?_,c2⟩;rw [a7g];rfl;rw [c0d hlt];rw [Bool.eq_false_iff];intro hc;obtain ⟨k,hk⟩:=List.mem_iff_getElem?.1 (a3e.1 hc);exact hno k (by have:=(xZ.1 hk).1;omega) hk
 ·refine zR ?_;exact ⟨D4 (by rw [a7g (b62 zo _)];rfl),Cl.refl _⟩
theorem a4M (c:UInt8) (r:Tx):G5 (c::r)=if E2 a7G c then G5 r else if (c::r).take 4=epS then G5 (r.drop 3) else false:=by rw [G5]
theorem c3z {c:UInt8}:E2 a7G c=true↔c=43∨c=35∨c=33∨c=63:=by rw [a3e];simp [a7G]
theorem a9F {s:Tx} {i:Nat} (hi:i≤s.length) (hs:s.length≤100000) (w:World):Calls G.P 348 #[m7 s,.int .i64 i] w (E8 (.bool (G5 (s.drop i))) w):=by
 have hsz:(tx s).size=s.length:=C5 _;refine zN func348 ?_;refine zR ?_;refine C1 (σ:=Nat) [1,4] 5 (fun j=>[(1,.int .i64 j)]) (fun j w'=>j≤s.length∧G5 (s.drop j)=G5 (s.drop i)∧w'=w) (fun j=>s.length-j) zk i ⟨hi,rfl,rfl⟩ ⟨rfl,trivial⟩ ?_;rintro j jj w2 ⟨hj,ht,rfl⟩;have nj:=C4 (i:=j) zo;refine zR ?_;rw [hsz];apply E.d7<;>intro h
 ·have hlt:j<s.length:=by omega
  have hx:=a98 hlt;clear h;have hd:s.drop j=s[j]::s.drop (j+1):=xc hlt;rw [hd,a4M] at ht;have n4:IntKind.i64.wrap ((j:Int)+4)=((j+4:Nat):Int):=by rw [g8 zo zo];push_cast;omega
  have yes:(s[j]=43∨s[j]=35∨s[j]=33∨s[j]=63)→G5 (s.drop (j+1))=G5 (s.drop i):=fun h=>by rw [← ht,zM (c3z.2 h)]
  refine zR ?_;refine E.A1 (F6.2 ⟨zo,by rw [hsz];omega⟩) ?_
  have lit:∀ n:UInt8,(((tx s).get! (j:Int).toNat).toNat:Int)=(n.toNat:Nat)→s[j]=n:=fun n h=>by rw [hx] at h;exact c3y h
  have nlit:∀ n:UInt8,¬ (((tx s).get! (j:Int).toNat).toNat:Int)=(n.toNat:Nat)→s[j]≠n:=fun n h=>by rw [hx] at h;exact c3x h
  have gd:inB (j:Int) (tx s).size=true:=F6.2 ⟨zo,by rw [hsz];omega⟩
  refine zR ?_;apply E.d7<;>intro h
  ·have h1:=lit 43 h;refine zR ?_;exact ⟨j+1,⟨d9 nj,trivial⟩,⟨zo,yes (.inl h1),rfl⟩,zo⟩
  have h1:=nlit 43 h;clear h;refine zR ?_;refine E.A1 gd (zR ?_);apply E.d7<;>intro h
  ·have h2:=lit 35 h;refine zR ?_;exact ⟨j+1,⟨d9 nj,trivial⟩,⟨zo,yes (.inr (.inl h2)),rfl⟩,zo⟩
  have h2:=nlit 35 h;clear h;refine zR ?_;refine E.A1 gd (zR ?_);apply E.d7<;>intro h
  ·have h3:=lit 33 h;refine zR ?_;exact ⟨j+1,⟨d9 nj,trivial⟩,⟨zo,yes (.inr (.inr (.inl h3))),rfl⟩,zo⟩
  have h3:=nlit 33 h;clear h;refine zR ?_;refine E.A1 gd (zR ?_);apply E.d7<;>intro h
  ·have h4:=lit 63 h;refine zR ?_;exact ⟨j+1,⟨d9 nj,trivial⟩,⟨zo,yes (.inr (.inr (.inr h4))),rfl⟩,zo⟩
  have h4:=nlit 63 h;clear h;rw [zJ (fun e=>by rcases c3z.1 e with e|e|e|e<;>contradiction)] at ht
  refine zR ?_;rw [hsz,n4];apply E.d7<;>intro h
  ·have h5:j+4≤s.length:=by omega
   clear h;refine zR ?_;rw [n4];refine a1m ((s.drop j).take 4) rfl rfl rfl rfl zo zo zo ?_ ?_
   ·rw [show ((j+4:Nat):Int).toNat-(j:Int).toNat=4 by omega,zg]
   refine zR ?_;apply E.d7<;>intro h
   ·have e:(s.drop j).take 4=epS:=Q0.1 h;rw [← hd,zM e] at ht;refine zR ?_;exact ⟨j+4,⟨d9 n4,trivial⟩,⟨h5,by rw [← ht,List.drop_drop],rfl⟩,zo⟩
   ·have e:¬ (s.drop j).take 4=epS:=fun e=>h (by rw [e];rfl)
    rw [← hd,zJ e] at ht;refine zR ?_;exact ⟨p8 ht,rfl⟩
  ·have e:¬ (s.drop j).take 4=epS:=fun e=>by
    have:=yM List.length e;rw [yh,yj] at this;have e2:epS.length=4:=rfl;omega
   rw [← hd,zJ e] at ht;refine zR ?_;exact ⟨p8 ht,rfl⟩
 ·have e:j=s.length:=by omega
  rw [e,List.drop_length,T9] at ht;refine zR ?_;exact ⟨p8 ht,rfl⟩
set_option maxHeartbeats 1000000 in
theorem b7I (s0:Tx) (hs:s0.length≤1000) (w:World):Calls G.P 190 #[m7 s0,m7 [32]] w (fun r w'=>∃ v,r = .returned v∧Row 9 1 J5 w.heap.size w' v (a2L 32 [] s0)∧Cl w w'):=by
 have h1:(tx [32]).size=1:=C5 _;refine zN func190 ?_;refine zR ?_;refine C1 (σ:=List Tx×Value×Tx) [0,4,5,8] 9 (fun s=>[(0,m7 s.2.2),(5,s.2.1)]) (fun s w'=>Cl w w'∧Row 9 1 J5 w.heap.size w' s.2.1 s.1∧s.1++a2L 32 [] s.2.2=a2L 32 [] s0∧s.1.length+s.2.2.length≤1000) (fun s=>s.2.2.length) zk
  ([],.slice none 0 0,s0) ⟨Cl.refl _,Row.nil _ _,rfl,by simpa using hs⟩ ⟨rfl,rfl,trivial⟩ ?_
 rintro ⟨l,v,s⟩ j w1 ⟨c1,hr,he,hl⟩;simp only at c1 hr he hl ⊢;obtain ⟨a,c,rfl,_⟩:=hr.form;refine zR ?_;refine g7 (a6X 32 s zo _) (zR ?_);by_cases hm:(32:UInt8)∈s
 ·have hix:ixZ 32 s=(s.idxOf 32:Int):=zM hm;obtain ⟨e1,e2,e3⟩:=a7c hm;rw [c2r hm] at he;rw [hix];refine zR ?_;refine a6l (l:=s) (s.take (s.idxOf 32)) rfl rfl rfl zo zo (by rw [zg]) (zR ?_)
  refine A8 elStr [m7 (s.take (s.idxOf 32))] (by rw [zb];rfl) (by simp [Value.cells,m7]) rfl zd zd ?_
  have cb:=Cl.alloc w1 (.cells (([m7 (s.take (s.idxOf 32))]:List Value).flatMap fun v=>v.cells.toList).toArray 9);have hbx:Row 9 1 J5 w1.heap.size (w1.alloc (.cells (([m7 (s.take (s.idxOf 32))]:List Value).flatMap fun v=>v.cells.toList).toArray 9)) (.slice (some ⟨w1.heap.size,0,none⟩) 1 1) [s.take (s.idxOf 32)]:=C7 o8 w1 [s.take (s.idxOf 32)] (zU rfl) _ rfl;generalize w1.alloc (.cells (([m7 (s.take (s.idxOf 32))]:List Value).flatMap fun v=>v.cells.toList).toArray 9)=w2 at *;refine zR ?_;refine I5 elStr (l:=l) (news:=[s.take (s.idxOf 32)]) rfl (hr.step cb) rfl hbx o8 I6 (by simp only [zh,za];omega) zd (c1.trans cb).size fun v' w3 hr' hg=>?_
  have c3:Cl w w3:=hg.toCl rfl (c1.trans cb);obtain ⟨a9,c9,rfl,_⟩:=hr'.form;refine zR ?_;rw [h1];have en:IntKind.i64.wrap ((s.idxOf 32:Int)+((1:Nat):Int))=((s.idxOf 32+1:Nat):Int):=by rw [g8 zo zo];push_cast;rfl
  rw [en];refine a9q (l:=s) (s.drop (s.idxOf 32+1)) rfl rfl rfl zo zo (by rw [zg]) (zR ?_)
  exact ⟨(l++[s.take (s.idxOf 32)],_,s.drop (s.idxOf 32+1)),⟨rfl,rfl,trivial⟩,⟨c3,hr',by simpa using he,by simp;omega⟩,by simp;omega⟩
 ·have hix:ixZ 32 s=-1:=zJ hm;rw [a4J hm,yP] at he;rw [hix];refine zR ?_;refine A8 elStr [m7 s] (by rw [zb];rfl) (by simp [Value.cells,m7]) rfl zd zd ?_
  have cb:=Cl.alloc w1 (.cells (([m7 s]:List Value).flatMap fun v=>v.cells.toList).toArray 9);have hbx:Row 9 1 J5 w1.heap.size (w1.alloc (.cells (([m7 s]:List Value).flatMap fun v=>v.cells.toList).toArray 9)) (.slice (some ⟨w1.heap.size,0,none⟩) 1 1) [s]:=C7 o8 w1 [s] (zU rfl) _ rfl;generalize w1.alloc (.cells (([m7 s]:List Value).flatMap fun v=>v.cells.toList).toArray 9)=w2 at *;refine zR ?_;refine I5 elStr (l:=l) (news:=[s]) rfl (hr.step cb) rfl hbx o8 I6 (by simp only [zh,za];omega) zd (c1.trans cb).size fun v' w3 hr' hg=>?_
  have c3:Cl w w3:=hg.toCl rfl (c1.trans cb);obtain ⟨a9,c9,rfl,_⟩:=hr'.form;refine zR ?_;exact ⟨_,rfl,by rw [← he];exact hr',c3⟩
theorem a60 {p:g9} (hh:p.half.toNat<10000000) (hf:p.full.toNat<10000000):(a7q p).length≤1000:=by
 have h1:=a0z p 8;have h2:=a4z p.turn;have h3:=a1R p.castle;have h4:=a8j p.ep;have h5:=a3x 7 p.half.toNat zd zo;have h6:=a3x 7 p.full.toNat zd zo;unfold a7q;simp only [zF,zh,za];omega
set_option maxHeartbeats 1000000 in
theorem b39 {p:g9} (hI:B7 p) (hh:p.half<10000000) (hf:p.full<10000000) (w:World) (hT:C6 w) (hS:Spc w) :
  Calls G.P 134 #[m7 (a7q p)] w (fun r w'=>Cl w w'∧∃ P b,r = .returned (.tuple #[.pointer (some ⟨P,0,none⟩),.nilIface])∧w.heap.size≤P∧w.heap.size≤b
  ∧w'.heap[P]?=some (.cells (hdA b (D0 p false) (.slice none 0 0)) 173 (0,0))∧w'.heap[b]?=some (.cells (J4 (a1s p)) 237 (0,0))):=by
 have hh0:=hI.h0;have hf1:=hI.f1;have hlen:=a60 (p:=p) zo zo;have hparts:=b72 p;have hep:=c5T hI.pass;have ht:=hI.turn;have hA1:=fun w=>b9Q p.half.toNat zo w;have hA2:=fun w=>b9Q p.full.toNat zo w;rw [zi hh0] at hA1;rw [zi (by omega:0≤p.full)] at hA2
 have hTr:=b7C hI.pc zo w hS;generalize a7q p=T at *;refine zN func134 ?_;refine zR ?_;refine o7 hTr fun w1 c1=>zR ?_;refine m8 (b7I T hlen w1) ?_;rintro e w2 ⟨v,rfl,hr,c2⟩;refine ⟨_,rfl,?_⟩;rw [hparts] at hr;obtain ⟨a,c,rfl,ha⟩:=hr.form;obtain ⟨g,rfl⟩:=ha (by simp)
 have c02:=c1.trans c2;have hld:=fun (i:Nat) (hi:i<6) (w':World) (hc:Cl w2 w') {v:Value} (hv:(J5 ([a2U p 8,a8n p.turn,a4V p.castle,epT p.ep,dec p.half.toNat,dec p.full.toNat][i]'(by simpa using hi)))[0]?=some v)=>P6 (t:=9) (hr.step hc) o8 i 0 (by simpa using hi) zd hv (show i=i*1+0 by omega) rfl
 have hl0:=fun w' hc=>hld 0 zd w' hc (v:=m7 (a2U p 8)) rfl;have hl1:=fun w' hc=>hld 1 zd w' hc (v:=m7 (a8n p.turn)) rfl;have hl2:=fun w' hc=>hld 2 zd w' hc (v:=m7 (a4V p.castle)) rfl;have hl3:=fun w' hc=>hld 3 zd w' hc (v:=m7 (epT p.ep)) rfl;have hl4:=fun w' hc=>hld 4 zd w' hc (v:=m7 (dec p.half.toNat)) rfl;have hl5:=fun w' hc=>hld 5 zd w' hc (v:=m7 (dec p.full.toNat)) rfl;clear hld hr hparts ha;refine zR ?_;refine b7 _ (hl0 _ (Cl.refl _)) (zR ?_);refine m8 (b5a hI w2 (hT.cl c02)) ?_;rintro e w3 ⟨c3,b,rfl,sb,hB⟩;refine ⟨_,rfl,zR ?_⟩;refine G7 true (E6 rfl) (zR ?_);refine b7 _ (hl1 _ c3) (zR ?_);refine g7 (b73 p.turn ht _) (zR ?_);refine E.o9 zo (zR ?_);refine b7 _ (hl2 _ c3) (zR ?_);refine o7 (b1X p.castle hI.c0 hI.c1 w3) fun w4 c4=>?_;have c24:=c3.trans c4;refine zR ?_;refine G7 true (E6 rfl) (zR ?_);refine b7 _ (hl3 _ c24) (zR ?_);refine o7 (b9O p.ep (by rcases hep with h|h;exact .inl h;exact .inr ⟨h.1,h.2.1,zo⟩) _) fun w4 c4'=>?_
 have c24:=c24.trans c4';have c4:=c4.trans c4';refine zR ?_;refine G7 true (E6 rfl) (zR ?_);refine b7 _ (hl4 _ c24) (zR ?_);refine o7 (hA1 w4) fun w5 c5=>?_;have c25:=c24.trans c5;refine zR ?_;refine G7 true (E6 rfl) (zR ?_);refine E.o9 zo (zR ?_);repeat (refine E.o9 (show ¬ p.half<0 by omega) ?_;refine zR ?_)
 refine b7 _ (hl5 _ c25) (zR ?_);refine o7 (hA2 w5) fun w6 c6=>?_;have c26:=c25.trans c6;refine zR ?_;refine G7 true (E6 rfl) (zR ?_);refine E.o9 zo (zR ?_);repeat (refine E.o9 (show ¬ p.full<1 by omega) ?_;refine zR ?_)
 refine r7 (hdA b (D0 p false) (.slice none 0 0)) zk (zR ?_);have cF:=Cl.alloc w6 (.cells (hdA b (D0 p false) (.slice none 0 0)) 173);have s06:=(c02.trans c26).size;exact ⟨(c02.trans c26).trans cF,_,b,rfl,s06,by have:=c02.size;omega,d8 _ _,cF.blk (c6.blk (c5.blk (c4.blk hB)))⟩
end
section
open Go Go.RowKit
open E
theorem b5h {p:g9} (hI:Ch.B7 p) (hN:Y6 p):Fen p:=⟨hI.pc,hI.c0,hI.c1,hI.h0,by have:=hN.1;omega,by have:=hI.f1;omega,by have:=hN.2;omega⟩
theorem c27 {p:g9} (hI:Ch.B7 p) {m:Mv} (hm:m∈Ch.p9 p):(Ch.made p m).ep≤63:=by
 have hmo:=a0n hI hm;obtain ⟨⟨a0,a1⟩,⟨b0,b1⟩,d0,d1⟩:=hmo;show (if Ch.I7 p m then (m.fr+m.to)/2 else -1)≤63
 split<;>omega
theorem c0e (p:g9) (hI:Ch.B7 p) (hN:Nm p) (m:Mv) (hm:m∈Ch.p9 p) (me:Int) (ou:Tx) (w:World):Calls G.P 40 #[F5 p,mvV m,.int .i64 me,m7 ou] w (N0 (stV (Ch.a6g p m (me,ou))) w):=by
 have hmo:=a0n hI hm;have hI2:=Ch.B7.made hI hm;have hN2:=hN.made hI m;have hep:=c27 hI hm;have hbt:=b6h ⟨m,Ch.a8N p m,Ch.b3X p m,Ch.b3A p m,Ch.b1R m,Ch.a7q (Ch.made p m),Ch.b16 (Ch.made p m),Ch.made p m,ou,me,Ch.a5G (Ch.made p m)⟩;have hun:Ch.a6g p m (me,ou)=⟨m,Ch.a8N p m,Ch.b3X p m,Ch.b3A p m,Ch.b1R m,Ch.a7q (Ch.made p m),Ch.b16 (Ch.made p m),Ch.made p m,ou,me,Ch.a5G (Ch.made p m)⟩:=by unfold Ch.a6g;rfl
 have hst:stV (Ch.a6g p m (me,ou)) = .agg (stL ⟨m,Ch.a8N p m,Ch.b3X p m,Ch.b3A p m,Ch.b1R m,Ch.a7q (Ch.made p m),Ch.b16 (Ch.made p m),Ch.made p m,ou,me,Ch.a5G (Ch.made p m)⟩).toArray:=by rw [hun];rfl
 have hone:=a5y (Ch.a6g p m (me,ou));have hlen:=J7 (Ch.a6g p m (me,ou));refine zN func40 ?_;refine zG ?_;generalize hW:(w.alloc (.cells (t8 p) 24)).alloc (.cells (Z3 m) 36)=W0;have hP:∀ w',Cl W0 w'→w'.heap[w.heap.size]?=some (.cells (t8 p) 24 (0,0)):=fun w' h=>hP2 (hW▸h);have hM:∀ w',Cl W0 w'→w'.heap[(w.alloc (.cells (t8 p) 24)).heap.size]?=some (.cells (Z3 m) 36 (0,0)):=fun w' h=>hM2 (hW▸h);have hE:∀ w',Cl W0 w'→Cl w w':=fun w' h=>hE2 (hW▸h);have z:=Cl.refl W0;obtain ⟨zs,hzs,hz81⟩:=zSt;obtain ⟨zp,hzp,hz69⟩:=b1t;refine s7 zs hzs ?_;have hB:∀ w',Cl (W0.alloc (.cells zs.cells 39)) w'→w'.heap[W0.heap.size]?=some (.cells zs.cells 39 (0,0)):=fun w' h=>h.blk (d8 _ _);have c1:Cl W0 (W0.alloc (.cells zs.cells 39)):=Cl.alloc _ _;generalize W0.alloc (.cells zs.cells 39)=w1 at *;refine zR ?_;refine b7 _ (A4 (hP _ c1)) (zR ?_);refine b7 _ (V5 (hM _ c1)) (zR ?_);refine o7 (a6E p m hI.pc hmo hI.turn hI.c0 hI.c1 hI.h0 hN.nums.1 (by have:=hI.f1;omega) hN.nums.2 _) fun w2 c2=>zR ?_
 refine s7 zp hzp (zR ?_);refine K2 (d8 _ _) (Z2 (Ch.made p m)) rfl a14 (C8 _) (one_pos _) (by rw [hz69];omega) (fun w3 u3=>?_)
 have hQ:w3.heap[w2.heap.size]?=some (.cells (t8 (Ch.made p m)) 24 (0,0)):=by
  rw [u3.at_,B5 _ _ (by rw [C8,hz69])];rfl
 have c13:Cl w1 w3:=u3.cl (c2.trans (Cl.alloc _ _)) c2.size;have c3:Cl W0 w3:=c1.trans c13;clear u3;have hB3:=hB _ c13;have q1:=fun w=>c4c p hI hN m hm w;have q2:=fun w=>b06 p hI hN m hm w;have q3:=fun w=>b7j p hI hN m hm w;have q4:=fun w=>b02 m hmo w;have q5:=fun w=>a2X _ (b5h hI2 hN2) w;have q6:=fun w=>b49 _ (b5h hI2 hN2) hI2.turn hep w;have q7:=fun w=>b4y _ hI2 hN2 w;have hbig:W0.heap.size<w2.heap.size:=by
  have:=(yn.1 (hB _ c2)).1;exact this
 rw [hun] at hone hlen;simp only at hbt;clear hun;generalize stL ⟨m,Ch.a8N p m,Ch.b3X p m,Ch.b3A p m,Ch.b1R m,Ch.a7q (Ch.made p m),Ch.b16 (Ch.made p m),Ch.made p m,ou,me,Ch.a5G (Ch.made p m)⟩=S at *;generalize Ch.made p m=q at *;generalize Ch.a8N p m=Q1 at *;generalize Ch.b3X p m=Q2 at *;generalize Ch.b3A p m=Q3 at *;generalize Ch.b1R m=Q4 at *;generalize Ch.a7q q=Q5 at *;generalize Ch.b16 q=Q6 at *;generalize Ch.a5G q=Q7 at *;refine zR ?_;refine zK 22 ?_;refine zR ?_;refine l9 _ (fun w hw=>V5 (hM _ (c3.trans hw))) (zR ?_);refine l9 _ (fun w hw=>A4 (hP _ (c3.trans hw))) (zR ?_);refine l9 _ (fun w hw=>V5 (hM _ (c3.trans hw))) (zR ?_);refine D6 (.int .i64 Q1) (fun _ _ h=>h.trans) (fun w _=>q1 w) (zR ?_);refine l9 _ (fun w hw=>A4 (hP _ (c3.trans hw))) (zR ?_);refine l9 _ (fun w hw=>V5 (hM _ (c3.trans hw))) (zR ?_);refine D6 (m7 Q2) (fun _ _ h=>h.trans) (fun w _=>q2 w) (zR ?_);refine l9 _ (fun w hw=>A4 (hP _ (c3.trans hw))) (zR ?_);refine l9 _ (fun w hw=>V5 (hM _ (c3.trans hw))) (zR ?_);refine D6 (m7 Q3) (fun _ _ h=>h.trans) (fun w _=>q3 w) (zR ?_);refine l9 _ (fun w hw=>V5 (hM _ (c3.trans hw))) (zR ?_);refine D6 (m7 Q4) (fun _ _ h=>h.trans) (fun w _=>q4 w) (zR ?_);refine l9 _ (fun w hw=>A4 (hw.blk hQ)) (zR ?_);refine D6 (m7 Q5) (fun _ _ h=>h.trans) (fun w _=>q5 w) (zR ?_);refine l9 _ (fun w hw=>A4 (hw.blk hQ)) (zR ?_);refine D6 (m7 Q6) (fun _ _ h=>h.trans) (fun w _=>q6 w) (zR ?_);refine l9 _ (fun w hw=>A4 (hw.blk hQ)) (zR ?_);refine l9 _ (fun w hw=>A4 (hw.blk hQ)) (zR ?_);refine D6 (.int .i64 Q7) (fun _ _ h=>h.trans) (fun w _=>q7 w) (zR ?_);refine a8F S.toArray hbt (zR ?_);intro w4 c4;refine zR ?_;refine K2 (c4.blk hB3) S rfl b9k hlen hone (by rw [hz81];omega) (fun w5 u5=>?_)
 have hR:w5.heap[W0.heap.size]?=some (.cells S.toArray 39 (0,0)):=by
  rw [u5.at_,B5 _ _ (by rw [hlen,hz81])]
 have c5:Cl w w5:=u5.cl (hE _ (c3.trans c4)) (hE _ z).size;refine zR ?_;refine b7 (.agg S.toArray) ?_ ?_
 ·have:=ldA (t:=39) (o:=0) (z:=81) hR rfl (by simp [hlen])
  rw [show S.toArray.extract 0 (0+81)=S.toArray by
   have:S.toArray.size=81:=by simp [hlen]
   rw [← this];simp] at this
  exact this
 refine zR ?_;exact ⟨by rw [hst],c5⟩
def a7I (u v:Value):Prop:=∀ g,u.ownBlock=some g→v.ownBlock≠some g
theorem b7J (v:Value):a7I (.slice none 0 0) v:=fun g h=>by cases h
theorem a7I.symm {u v:Value} (h:a7I u v):a7I v u:=fun g h1 h2=>h g h2 h1
theorem Row.keepG {α:Type} {e z b0 b1:Nat} {enc:α→List Value} {w w':World} {u v v':Value} {l:List α} (h:Row e z enc b1 w u l) (hg:a5O b0 w v w' v') (hne:a7I u v):Row e z enc b1 w' u l∧a7I u v':=by
 rcases h.2 with ⟨e1,e2⟩|⟨g,cap,cur,e1,e2,e3,e4⟩
 ·subst e1;exact ⟨⟨h.1,.inl ⟨rfl,e2⟩⟩,fun g hg=>by cases hg⟩
 ·subst e1;have hn:=hne g rfl;refine ⟨⟨h.1,.inr ⟨g,cap,cur,rfl,e2,hg.keep _ _ e3 hn,e4⟩⟩,fun g' hg'=>?_⟩;injection hg' with hg';subst hg';exact hg.ne (yn.1 e3).1 hn
theorem a8q {p:g9} (hI:Ch.B7 p) (hN:Y6 p):a6N p:=by
 have he:=Ch.N7 hI.pass;have ht:=hI.turn;have:=hI.c0;have:=hI.c1;have:=hI.h0;have:=hI.f1;have:=hN.1;have:=hN.2;refine ⟨fun x hx=>?_,⟨zo,zo⟩,⟨zo,zo⟩,⟨zo,zo⟩,⟨zo,zo⟩,⟨zo,zo⟩⟩;obtain ⟨i,hi,rfl⟩:=List.mem_iff_getElem.1 hx;have:Ch.sq p (i:Int)=p.board[i]:=by
  unfold Ch.sq;rw [zg,xA,yu hi];rfl
 have h2:=hI.pc (i:Int);rw [this] at h2;exact ⟨zo,zo⟩
theorem V3 (l:List g9) (p:g9) (mo:Int×Tx) (m:Mv) (r:List Mv):Ch.a8m l p mo (m::r)=if Ch.a66 p m then
   Ch.a6g p m (Ch.D5 (l++[Ch.made p m]) (Ch.made p m) mo)::Ch.a8m (l++[Ch.made p m]) (Ch.made p m) (Ch.D5 (l++[Ch.made p m]) (Ch.made p m) mo) r else []:=rfl
theorem c28 (p:g9) (hI:Ch.B7 p) (hN:Ng p 0) (looked:Bool) (ms:List Mv) (hms:∀ m∈ms,MvR m) (hn:ms.length≤90000) {v:Value} (w:World) (hrow:a5x w v ms) :
  Calls G.P 13 #[F5 p,.bool looked,v] w (fun r w'=>∃ v,r = .returned v∧Row 39 81 stL w.heap.size w' v (Ch.a5B p looked ms)∧Cl w w'):=by
 obtain ⟨al,cl,rfl,hal⟩:=hrow.form;obtain ⟨zp,hzp,hz69⟩:=b1t;refine zN func13 ?_;refine zG ?_;generalize hW:w.alloc (.cells (t8 p) 24)=W0;have hP0:W0.heap[w.heap.size]?=some (.cells (t8 p) 24 (0,0)):=by rw [← hW];exact d8 _ _
 have hE:Cl w W0:=by rw [← hW];exact Cl.alloc _ _
 clear hW;refine zR ?_;refine b7 _ (A4 hP0) (zR ?_);refine A8 b2E [F5 p] (by rw [zb];rfl) (by simp [F5,Value.cells,z8]) rfl zd zd ?_
 have hr:=(C7 Y8 W0 [p] (by simp) [F5 p] (by simp [F5,Value.cells,t8]) (e:=24) (z:=69)).mono hE.size
 have c1:=hE.trans (Cl.alloc W0 (.cells (([F5 p]:List Value).flatMap fun v=>v.cells.toList).toArray 24));generalize W0.alloc (.cells (([F5 p]:List Value).flatMap fun v=>v.cells.toList).toArray 24)=w1 at *;generalize W0.heap.size=B1 at *;have hmo0:Ch.a5B p looked ms=Ch.a8m [p] p (if looked then Ch.D5 [p] p (0,Ch.star) else (0,Ch.star)) ms:=rfl
 have hnm0:=(hN.nm zo).nums;refine zG ?_;refine Nx.mk (zG ?_);refine B0 (σ:=Unit) [9,10,15,16,17,18,19,20,21,22] 23 (fun _=>[(9,.int .i64 (if looked then Ch.D5 [p] p (0,Ch.star) else (0,Ch.star)).1),(10,m7 (if looked then Ch.D5 [p] p (0,Ch.star) else (0,Ch.star)).2)]) (fun _ w'=>Cl w1 w') zk ?_ (fun _ j w2 c2=>?_)
 ·cases looked
  ·refine zR ?_;exact ⟨(),⟨rfl,rfl,trivial⟩,Cl.refl _⟩
  ·have hEnd:=b2R [p] p (fun x hx=>by rw [zY.1 hx];exact a8q hI hnm0) rfl (by simp) hI hnm0 0 Ch.star w1 hr
   generalize Ch.D5 [p] p (0,Ch.star)=R at *;refine zR ?_;refine o7 hEnd fun w2 c2=>zR ?_;exact ⟨(),⟨rfl,rfl,trivial⟩,c2⟩
 generalize (if looked then Ch.D5 [p] p (0,Ch.star) else (0,Ch.star))=mo0 at *
 have hr2:=hr.step c2;refine zR ?_;refine C1 (σ:=Nat×List Ch.V9×List g9×g9×(Int×Tx)×Value×Value) [6,7,8,9,10,11,12] 13 (fun a=>[(7,a.2.2.2.2.2.1),(8,a.2.2.2.2.2.2),(9,.int .i64 a.2.2.2.2.1.1),(10,m7 a.2.2.2.2.1.2),(11,.int .i64 a.1)])
  (fun a w'=>a.1≤ms.length∧Ch.a5B p looked ms=a.2.1++Ch.a8m a.2.2.1 a.2.2.2.1 a.2.2.2.2.1 (ms.drop a.1)∧a.2.1.length=a.1∧a.2.2.1.length=a.1+1∧a.2.2.1.getLast?=some a.2.2.2.1∧(∀ q∈a.2.2.1,a6N q)∧Ch.B7 a.2.2.2.1∧Ng a.2.2.2.1 a.1 ∧
   Row 39 81 stL w.heap.size w' a.2.2.2.2.2.1 a.2.1∧Row 24 69 Z2 w.heap.size w' a.2.2.2.2.2.2 a.2.2.1∧a7I a.2.2.2.2.2.1 a.2.2.2.2.2.2∧Cl w w') (fun a=>ms.length-a.1) zk (0,[],[p],p,mo0,.slice none 0 0,.slice (some ⟨B1,0,none⟩) 1 1)
  ⟨by simp,by rw [hmo0];rfl,rfl,rfl,rfl,fun x hx=>by rw [zY.1 hx];exact a8q hI hnm0,hI,hN,Row.nil _ _,hr2,b7J _,c1.trans c2⟩ ⟨rfl,rfl,rfl,rfl,rfl,trivial⟩ ?_
 rintro ⟨i,O,L,q,⟨me,ou⟩,vo,vl⟩ j3 w3 ⟨hi,hst,hOl,hLl,hLq,hLr,hIq,hNq,hro,hrl,hap,hcl⟩;simp only at hi hst hOl hLl hLq hLr hIq hNq hro hrl hap ⊢;clear hr2 hr hP0 c1 c2 hmo0 hE;have hnm:=hNq.nm zo;obtain ⟨ao,co,rfl,hao⟩:=hro.form;obtain ⟨al2,cl2,rfl,hal2⟩:=hrl.form;obtain ⟨gl,rfl⟩:=hal2 zo;refine zR ?_;apply E.d7<;>intro h
 ·have hil:i<ms.length:=by omega
  clear h;obtain ⟨g,o,rfl⟩:=hal zo;have ni:IntKind.i64.wrap ((i:Int)+1)=((i+1:Nat):Int):=by rw [g8 zo zo];push_cast;omega
  rw [xc hil] at hst;rw [V3] at hst;have hmr:=hms _ (yQ hil);have hld:∀ w',Cl w w'→m9 G.P w' 36 ⟨g,E.U0 o ((i:Int)).toNat 3,none⟩ (mvV ms[i]):=fun w' h'=>(hrow.step h').ld i hil;generalize ms[i]=m at *;have hlast:L[L.length-1]'zo=q:=by
   rw [List.getLast?_eq_getElem?,yu zo] at hLq;exact yp hLq
  have hlm:IntKind.i64.wrap ((L.length:Int)-1)=((L.length-1:Nat):Int):=by rw [g8 zo zo];omega
  refine zR ?_;refine zC ?_;refine zR ?_;refine b7 (F5 q) (a1b hrl Y8 (L.length-1) zo rfl ?_ (by rw [hlast];rfl)) ?_
  ·simp [E.s8,hlm]
  refine zR ?_;refine s7 zp hzp (zR ?_);refine K2 (d8 _ _) (Z2 q) rfl a14 (C8 _) (one_pos _) (by rw [hz69];omega) (fun w4 u4=>?_)
  have hQ:w4.heap[w3.heap.size]?=some (.cells (t8 q) 24 (0,0)):=by
   rw [u4.at_,B5 _ _ (by rw [C8,hz69])];rfl
  have c34:Cl w3 w4:=u4.cl (Cl.alloc _ _) (yO _);clear u4;have hLegal:∀ w,Calls G.P 26 #[F5 q,mvV m] w (N0 (.bool (Ch.a66 q m)) w):=fun w=>c1r q hIq hnm.nums m hmr w;refine zR ?_;refine zK 7 ?_;refine zR ?_;refine l9 _ (fun w hw=>A4 (hw.blk hQ)) (zR ?_);refine zC ?_;refine zR ?_;refine l9 (mvV m) (fun w hw=>hld w (hcl.trans (c34.trans hw))) (zR ?_);refine D6 (.bool (Ch.a66 q m)) (fun _ _ h=>h.trans) (fun w _=>hLegal w) (zR ?_);intro w5 c5;have c35:=c34.trans c5;have hQ5:=c5.blk hQ;have hro5:=hro.step c35;have hrl5:=hrl.step c35;have hcl5:=hcl.trans c35;generalize hlb:Ch.a66 q m=lb at *;refine zR ?_;cases lb
  ·refine zR ?_;refine ⟨_,rfl,?_,hcl5⟩;rw [hst];simp only [yG,xv,zn];exact hro5
  ·have hmem:m∈Ch.p9 q:=yF hlb;have hmo:=a0n hIq hmem;have hI2:=Ch.B7.made hIq hmem;have hN2:=hNq.made hIq m;have hMade:∀ w,Calls G.P 39 #[F5 q,mvV m] w (N0 (F5 (Ch.made q m)) w):=fun w=>a6E q m hIq.pc hmo hIq.turn hIq.c0 hIq.c1 hIq.h0 hnm.nums.1 (by have:=hIq.f1;omega) hnm.nums.2 w
   have hStep:=fun me ou w=>c0e q hIq hnm m hmem me ou w;have hrR:a6N (Ch.made q m):=a8q hI2 (hN2.nm zo).nums;simp only [wO] at hst;have hL2:∀ x∈L++[Ch.made q m],a6N x:=fun x hx=>by
    rcases zr.1 hx with hx|hx
    ·exact hLr x hx
    ·rw [zY.1 hx];exact hrR
   have hL2n:(L++[Ch.made q m]).length=i+2:=by rw [zF,hLl];rfl
   have hL2q:(L++[Ch.made q m]).getLast?=some (Ch.made q m):=by simp
   generalize Ch.made q m=q2 at *;refine zG ?_;refine B0 (σ:=Value) [8,43,44,45,46,47,48,49,50,51] 52 (fun v=>[(8,v)]) (fun v w'=>Row 24 69 Z2 w.heap.size w' v (L++[q2])∧Row 39 81 stL w.heap.size w' (.slice ao O.length co) O∧a7I (.slice ao O.length co) v∧w'.heap[w3.heap.size]?=some (.cells (t8 q) 24 (0,0))∧Cl w w') zk ?_ (fun v7 j7 w7 hh7=>?_)
   ·refine zR ?_;refine H7.mk2 [0,2,3,4] (.cons 1 (.cons 5 (.cons 6 (.cons 7 (.cons 8 (.cons 9 .done .nil) .nil) .nil) .nil) .nil) (.cons 5 (.cons 1 (.cons 6 (.cons 7 (.cons 8 (.cons 9 .done .nil) .nil) .nil) .nil) .nil) .nil)) zk (zR ?_);refine zC ?_;refine zR ?_;have cd:Cl w5 w5.drew:=Cl.drew (Cl.refl _);refine And.intro ?_ (And.intro ?_ trivial)
    ·refine zR ?_;refine b7 _ (A4 (cd.blk hQ5)) (zE ?_);refine b7 (mvV m) (hld _ (hcl5.trans cd)) (zE ?_);refine o7 (hMade _) fun w6 c6=>?_;have hro6:=hro5.step (cd.trans c6);have hrl6:=hrl5.step (cd.trans c6);have hcl6:=hcl5.trans (cd.trans c6);have hQ6:=(cd.trans c6).blk hQ5;refine zE ?_;refine A8 b2E [F5 q2] (by rw [zb];rfl) (by simp [F5,Value.cells,z8]) rfl zd zd (zE ?_)
     refine V7 b2E q2 rfl hrl6 rfl rfl (by simp [F5,Value.cells,t8]) Y8 one_pos zo zd hcl6.size ?_
     intro v7 w7 hrl7 hg7;have hcl7:=hg7.cl w rfl hcl6;obtain ⟨hro7,hap7⟩:=hro6.keepG hg7 hap;have hQ7:w7.heap[w3.heap.size]?=some (.cells (t8 q) 24 (0,0)):=hg7.keep _ _ hQ6 (by
      intro e;injection e with e;have h1:=(hrl.lt).2;have:gl=w3.heap.size:=e;omega)
     obtain ⟨al7,cl7,rfl,hal7⟩:=hrl7.form;refine zE ?_;exact ⟨_,⟨rfl,trivial⟩,hrl7,hro7,hap7,hQ7,hcl7⟩
    ·refine zR ?_;refine b7 (mvV m) (hld _ (hcl5.trans cd)) (zE ?_);refine b7 _ (A4 (cd.blk hQ5)) (zE ?_);refine o7 (hMade _) fun w6 c6=>?_;have hro6:=hro5.step (cd.trans c6);have hrl6:=hrl5.step (cd.trans c6);have hcl6:=hcl5.trans (cd.trans c6);have hQ6:=(cd.trans c6).blk hQ5;refine zE ?_;refine A8 b2E [F5 q2] (by rw [zb];rfl) (by simp [F5,Value.cells,z8]) rfl zd zd (zE ?_)
     refine V7 b2E q2 rfl hrl6 rfl rfl (by simp [F5,Value.cells,t8]) Y8 one_pos zo zd hcl6.size ?_
     intro v7 w7 hrl7 hg7;have hcl7:=hg7.cl w rfl hcl6;obtain ⟨hro7,hap7⟩:=hro6.keepG hg7 hap;have hQ7:w7.heap[w3.heap.size]?=some (.cells (t8 q) 24 (0,0)):=hg7.keep _ _ hQ6 (by
      intro e;injection e with e;have h1:=(hrl.lt).2;have:gl=w3.heap.size:=e;omega)
     obtain ⟨al7,cl7,rfl,hal7⟩:=hrl7.form;refine zE ?_;exact ⟨_,⟨rfl,trivial⟩,hrl7,hro7,hap7,hQ7,hcl7⟩
   obtain ⟨hrl7,hro7,hap7,hQ7,hcl7⟩:=hh7;obtain ⟨al7,cl7,rfl,hal7⟩:=hrl7.form;obtain ⟨gl7,rfl⟩:=hal7 zo;have hEnd:=b2R (L++[q2]) q2 hL2 hL2q zo hI2 (hN2.nm zo).nums me ou w7 hrl7;generalize Ch.D5 (L++[q2]) q2 (me,ou)=R at *;obtain ⟨me2,ou2⟩:=R;refine zR ?_;refine o7 hEnd fun w8 c8=>?_;have hro8:=hro7.step c8;have hrl8:=hrl7.step c8;have hcl8:=hcl7.trans c8;have hQ8:=c8.blk hQ7;have hStep:=fun w=>hStep me2 ou2 w;generalize hSS:Ch.a6g q m (me2,ou2)=S at *;refine zR ?_;refine H7.mk2 [0,2,3,4,6,7] (.cons 1 (.cons 5 (.cons 8 (.cons 9 (.cons 10 (.cons 11 .done .nil) .nil) .nil) .nil) .nil) (.cons 5 (.cons 1 (.cons 8 (.cons 9 (.cons 10 (.cons 11 .done .nil) .nil) .nil) .nil) .nil) .nil)) zk (zR ?_);refine zC ?_;refine zR ?_;have cd:Cl w8 w8.drew:=Cl.drew (Cl.refl _);refine And.intro ?_ (And.intro ?_ trivial)
   ·refine zR ?_;refine b7 _ (A4 (cd.blk hQ8)) (zE ?_);refine b7 (mvV m) (hld _ (hcl8.trans cd)) (zE ?_);refine o7 (hStep _) fun w9 c9=>?_;have hro9:=hro8.step (cd.trans c9);have hrl9:=hrl8.step (cd.trans c9);have hcl9:=hcl8.trans (cd.trans c9);refine zE ?_;refine A8 b4B [stV S] (by rw [zb];rfl) (by simp [stV,Value.cells,J7]) rfl zd zd (zE ?_)
    refine V7 b4B S rfl hro9 rfl rfl (by simp [stV,Value.cells]) J7 a5y zo zd hcl9.size ?_
    intro v10 w10 hro10 hg10;have hcl10:=hg10.cl w rfl hcl9;obtain ⟨hrl10,hap10⟩:=hrl9.keepG hg10 hap7.symm;obtain ⟨ao10,co10,rfl,hao10⟩:=hro10.form;refine zE ?_;exact ⟨(i+1,O++[S],L++[q2],q2,(me2,ou2),_,_),⟨rfl,rfl,rfl,rfl,d9 ni,trivial⟩,
     ⟨by simp;omega,by rw [hst];simp,by simp [hOl],by simp [hLl],hL2q,hL2,hI2,hN2,hro10,hrl10,hap10.symm,hcl10⟩,by simp;omega⟩
   ·refine zR ?_;refine b7 (mvV m) (hld _ (hcl8.trans cd)) (zE ?_);refine b7 _ (A4 (cd.blk hQ8)) (zE ?_);refine o7 (hStep _) fun w9 c9=>?_;have hro9:=hro8.step (cd.trans c9);have hrl9:=hrl8.step (cd.trans c9);have hcl9:=hcl8.trans (cd.trans c9);refine zE ?_;refine A8 b4B [stV S] (by rw [zb];rfl) (by simp [stV,Value.cells,J7]) rfl zd zd (zE ?_)
    refine V7 b4B S rfl hro9 rfl rfl (by simp [stV,Value.cells]) J7 a5y zo zd hcl9.size ?_
    intro v10 w10 hro10 hg10;have hcl10:=hg10.cl w rfl hcl9;obtain ⟨hrl10,hap10⟩:=hrl9.keepG hg10 hap7.symm;obtain ⟨ao10,co10,rfl,hao10⟩:=hro10.form;refine zE ?_;exact ⟨(i+1,O++[S],L++[q2],q2,(me2,ou2),_,_),⟨rfl,rfl,rfl,rfl,d9 ni,trivial⟩,
     ⟨by simp;omega,by rw [hst];simp,by simp [hOl],by simp [hLl],hL2q,hL2,hI2,hN2,hro10,hrl10,hap10.symm,hcl10⟩,by simp;omega⟩
 ·have hil:i=ms.length:=by omega
  subst hil;rw [List.drop_length] at hst;refine zR ?_;refine ⟨_,rfl,?_,hcl⟩;rw [hst];show Row _ _ _ _ _ _ (O++[]);rw [zn];exact hro
def firstL:List Int:=[3,5,4,2,1,4,5,3]
def a0W (i:Nat):Int:=firstL.getD i 0
def sqS (f i:Nat):Int:=if i%8<f then (if i/8=0 then a0W (i%8) else if i/8=1 then 6 else if i/8=6 then 12 else if i/8=7 then a0W (i%8)+6 else 0) else 0
def a0q (f:Nat):g9:=⟨(List.range 64).map (sqS f),by simp,0,15,-1,0,1⟩
def H1:g9:=a0q 8
theorem b7K:∀ f<8,(Ch.put (Ch.put (Ch.put (Ch.put (a0q f) f (a0W f)) (8+f) 6) (48+f) 12) (56+f) (a0W f+6)).board=(a0q (f+1)).board:=by decide
theorem c29 {p q:g9} (h:p.board=q.board) (h1:p.turn=q.turn) (h2:p.castle=q.castle) (h3:p.ep=q.ep) (h4:p.half=q.half) (h5:p.full=q.full):p=q:=by
 cases p;cases q;simp_all
theorem b5i (f:Nat) (h:f<8):Ch.put (Ch.put (Ch.put (Ch.put (a0q f) f (a0W f)) (8+f) 6) (48+f) 12) (56+f) (a0W f+6)=a0q (f+1) :=
 c29 (b7K f h) rfl rfl rfl rfl rfl
theorem c4D:∀ f<8,0≤a0W f∧a0W f≤6:=by decide
def a57:Array Value:=(firstL.map (Value.int .i64)).toArray
theorem b63 {w:World} {b u:Nat} {fz:Nat×Nat} (hb:w.heap[b]?=some (.cells a57 u fz)) (i:Nat) (h:i<8) {o:Nat} (ho:o=i):m9 G.P w 3 ⟨b,o,none⟩ (.int .i64 (a0W i)):=by
 rw [ho];refine D9 hb ?_ rfl;have:i=0∨i=1∨i=2∨i=3∨i=4∨i=5∨i=6∨i=7:=by omega
 rcases this with rfl|rfl|rfl|rfl|rfl|rfl|rfl|rfl<;>rfl
theorem c7a:∃ z,(G.P.info? 111).bind (·.zero)=some z∧z.cells.size=8:=a0m zk
theorem c6b:(G.P.info? 111).map (·.size)=some 8:=by kernel_rfl
theorem a7h (f r:Int) (h0:0≤f) (h1:f≤7) (h2:0≤r) (h3:r≤7):Ch.K7 f r=8*r+f:=by unfold Ch.K7;rw [zJ zo]
theorem c2A (w:World):Calls G.P 35 #[] w (N0 (F5 H1) w):=by
 obtain ⟨zp,hzp,hz69⟩:=b1t;obtain ⟨zf,hzf,hz8⟩:=c7a;refine zN func35 ?_;refine zG ?_;refine s7 zp hzp ?_;have hB0:(w.alloc (.cells zp.cells 24)).heap[w.heap.size]?=some (.cells zp.cells 24 (0,0)):=d8 _ _;have c1:Cl w (w.alloc (.cells zp.cells 24)):=Cl.alloc _ _;generalize w.alloc (.cells zp.cells 24)=w1 at *;refine zR ?_;refine r7 (t8 (a0q 0)) zk (zR ?_);refine s7 zp hzp (zR ?_);refine K2 (d8 _ _) (Z2 (a0q 0)) rfl a14 (C8 _) (one_pos _) (by rw [hz69];omega) (fun w2 u2=>?_)
 have hQ2:w2.heap[w1.heap.size]?=some (.cells (t8 (a0q 0)) 24 (0,0)):=by
  rw [u2.at_,B5 _ _ (by rw [C8,hz69])];rfl
 have c2:Cl w1 w2:=u2.cl (Cl.alloc _ _) (yO _);clear u2;have hB2:=c2.blk hB0;refine zR ?_;refine r7 a57 zk (zR ?_);refine s7 zf hzf (zR ?_);refine K2 (d8 _ _) (firstL.map (Value.int .i64)) rfl c6b rfl zd (by rw [hz8];decide) (fun w3 u3=>?_)
 have hF3:w3.heap[w2.heap.size]?=some (.cells a57 111 (0,0)):=by
  rw [u3.at_,B5 _ _ (by rw [hz8];rfl)];rfl
 have c3:Cl w2 w3:=u3.cl (Cl.alloc _ _) (yO _);clear u3;have hQ3:=c3.blk hQ2;have hb1:w.heap.size<w1.heap.size:=(yn.1 hB0).1;have hb2:w1.heap.size<w2.heap.size:=(yn.1 hQ2).1;have hB3:=c3.blk hB2;have c13:=c1.trans (c2.trans c3);refine zR ?_;refine C1 (σ:=Nat) [3] 4 (fun a=>[(3,.int .i64 a)]) (fun a w'=>a≤8∧w'.heap[w1.heap.size]?=some (.cells (t8 (a0q a)) 24 (0,0))∧w'.heap[w2.heap.size]?=some (.cells a57 111 (0,0))∧w'.heap[w.heap.size]?=some (.cells zp.cells 24 (0,0))∧Cl w w') (fun a=>8-a) zk 0
  ⟨zo,hQ3,hF3,hB3,c13⟩ ⟨rfl,trivial⟩ ?_
 clear hQ3 hF3 hB3 c13 hQ2 hB2 hB0;rintro f j w4 ⟨hf,hQ,hF,hB,hcl⟩;refine zR ?_;apply E.d7<;>intro h
 ·have hf8:f<8:=by omega
  clear h;have nf:IntKind.i64.wrap ((f:Int)+1)=((f+1:Nat):Int):=by rw [g8 zo zo];push_cast;omega
  have hfb:=c4D f hf8;have hss:=b5i f hf8;refine zG ?_;refine Nx.mk ?_;refine E.a89 ?_;refine E.a8A ?_;refine (B0 (σ:=Unit) [10,11,12,13,14,15,16,17] 18 (fun _=>[]) (fun _ w'=>w'.heap[w1.heap.size]?=some (.cells (t8 (Ch.put (a0q f) f (a0W f))) 24 (0,0))∧w'.heap[w2.heap.size]?=some (.cells a57 111 (0,0))∧w'.heap[w.heap.size]?=some (.cells zp.cells 24 (0,0))∧Cl w w') zk ?_ (fun _ j5 w5 h5=>?_)).go
  ·refine zR ?_;refine H7.mk2 [0,2,3,6] (.cons 1 (.cons 4 (.cons 5 (.cons 7 (.cons 8 .done .nil) .nil) .nil) .nil) (.cons 4 (.cons 1 (.cons 5 (.cons 7 (.cons 8 .done .nil) .nil) .nil) .nil) .nil)) zk (zR ?_);refine zC ?_;refine zR ?_;have cd:Cl w4 w4.drew:=Cl.drew (Cl.refl _);refine And.intro ?_ (And.intro ?_ trivial)
   ·refine zR ?_;refine g7 (a3n f 0 _ zo zo zo zo) ?_;rw [a7h f 0 zo zo zo zo];refine zE ?_;refine b7 _ (b63 (cd.blk hF) f hf8 (by simp [E.s8])) (zE ?_)
    refine g7 (a4S (a0W f) 0 _ zo zo zo zo) (zE ?_);refine zC ?_;refine zE ?_;refine K2 (cd.blk hQ) [.int .i64 (a0W f+6*0)] rfl V6 rfl (by simp [Value.oneCell']) (by rw [z8,E.s8];show 0+_*1+1≤69;omega) (fun w9 u9=>zR ?_)
    refine ⟨(),trivial,?_,by rw [u9.else_ _ zo];exact cd.blk hF,by rw [u9.else_ _ zo];exact cd.blk hB,u9.cl (hcl.trans cd) zo⟩
    rw [u9.at_,E.s8,show (bif Nat.beq 0 0 then 0 else 0+0:Nat)=0 from rfl]
    simp only [yZ,wX];rw [W5 _ _ _ zo zo];rw [show 8*(0:Int)+(f:Int)=(f:Int) by omega,show a0W f+6*(0:Int)=a0W f by omega]
   ·refine zR ?_;refine b7 _ (b63 (cd.blk hF) f hf8 (by simp [E.s8])) (zE ?_)
    refine g7 (a3n f 0 _ zo zo zo zo) ?_;rw [a7h f 0 zo zo zo zo];refine zE ?_;refine g7 (a4S (a0W f) 0 _ zo zo zo zo) (zE ?_);refine zC ?_;refine zE ?_;refine K2 (cd.blk hQ) [.int .i64 (a0W f+6*0)] rfl V6 rfl (by simp [Value.oneCell']) (by rw [z8,E.s8];show 0+_*1+1≤69;omega) (fun w9 u9=>zR ?_)
    refine ⟨(),trivial,?_,by rw [u9.else_ _ zo];exact cd.blk hF,by rw [u9.else_ _ zo];exact cd.blk hB,u9.cl (hcl.trans cd) zo⟩
    rw [u9.at_,E.s8,show (bif Nat.beq 0 0 then 0 else 0+0:Nat)=0 from rfl]
    simp only [yZ,wX];rw [W5 _ _ _ zo zo];rw [show 8*(0:Int)+(f:Int)=(f:Int) by omega,show a0W f+6*(0:Int)=a0W f by omega]
  clear hQ hF hB hcl;obtain ⟨hQ,hF,hB,hcl⟩:=h5;refine B0 (σ:=Unit) [18,19,20,21,22] 23 (fun _=>[]) (fun _ w'=>w'.heap[w1.heap.size]?=some (.cells (t8 (Ch.put (Ch.put (a0q f) f (a0W f)) (8+f) 6)) 24 (0,0))∧w'.heap[w2.heap.size]?=some (.cells a57 111 (0,0))∧w'.heap[w.heap.size]?=some (.cells zp.cells 24 (0,0))∧Cl w w') zk ?_ (fun _ j6 w6 h6=>?_)
  ·skip
   refine zR ?_;refine g7 (a3n f 1 _ zo zo zo zo) ?_;rw [a7h f 1 zo zo zo zo];refine zR ?_;refine g7 (a4S 6 0 _ zo zo zo zo) (zR ?_);refine zC ?_;refine zR ?_;refine K2 hQ [.int .i64 (6+6*0)] rfl V6 rfl (by simp [Value.oneCell']) (by rw [z8,E.s8];show 0+_*1+1≤69;omega) (fun w9 u9=>zR ?_)
   refine ⟨(),trivial,?_,by rw [u9.else_ _ zo];exact hF,by rw [u9.else_ _ zo];exact hB,u9.cl hcl zo⟩
   rw [u9.at_,E.s8,show (bif Nat.beq 0 0 then 0 else 0+0:Nat)=0 from rfl]
   simp only [yZ,wX];rw [W5 _ _ _ zo zo];rw [show 8*(1:Int)+(f:Int)=8+(f:Int) by omega,show (6:Int)+6*0=6 by omega]
  clear hQ hF hB hcl;obtain ⟨hQ,hF,hB,hcl⟩:=h6;refine B0 (σ:=Unit) [23,24,25,26,27] 28 (fun _=>[]) (fun _ w'=>w'.heap[w1.heap.size]?=some (.cells (t8 (Ch.put (Ch.put (Ch.put (a0q f) f (a0W f)) (8+f) 6) (48+f) 12)) 24 (0,0))∧w'.heap[w2.heap.size]?=some (.cells a57 111 (0,0))∧w'.heap[w.heap.size]?=some (.cells zp.cells 24 (0,0))∧Cl w w') zk ?_ (fun _ j7 w7 h7=>?_)
  ·skip
   refine zR ?_;refine g7 (a3n f 6 _ zo zo zo zo) ?_;rw [a7h f 6 zo zo zo zo];refine zR ?_;refine g7 (a4S 6 1 _ zo zo zo zo) (zR ?_);refine zC ?_;refine zR ?_;refine K2 hQ [.int .i64 (6+6*1)] rfl V6 rfl (by simp [Value.oneCell']) (by rw [z8,E.s8];show 0+_*1+1≤69;omega) (fun w9 u9=>zR ?_)
   refine ⟨(),trivial,?_,by rw [u9.else_ _ zo];exact hF,by rw [u9.else_ _ zo];exact hB,u9.cl hcl zo⟩
   rw [u9.at_,E.s8,show (bif Nat.beq 0 0 then 0 else 0+0:Nat)=0 from rfl]
   simp only [yZ,wX];rw [W5 _ _ _ zo zo];rw [show 8*(6:Int)+(f:Int)=48+(f:Int) by omega,show (6:Int)+6*1=12 by omega]
  clear hQ hF hB hcl;obtain ⟨hQ,hF,hB,hcl⟩:=h7;refine zR ?_;refine H7.mk2 [0,2,3,6] (.cons 1 (.cons 4 (.cons 5 (.cons 7 (.cons 8 .done .nil) .nil) .nil) .nil) (.cons 4 (.cons 1 (.cons 5 (.cons 7 (.cons 8 .done .nil) .nil) .nil) .nil) .nil)) zk (zR ?_);refine zC ?_;refine zR ?_;have cd:Cl w7 w7.drew:=Cl.drew (Cl.refl _);refine And.intro ?_ (And.intro ?_ trivial)
  ·refine zR ?_;refine g7 (a3n f 7 _ zo zo zo zo) ?_;rw [a7h f 7 zo zo zo zo];refine zE ?_;refine b7 _ (b63 (cd.blk hF) f hf8 (by simp [E.s8])) (zE ?_)
   refine g7 (a4S (a0W f) 1 _ zo zo zo zo) (zE ?_);refine zC ?_;refine zE ?_;refine K2 (cd.blk hQ) [.int .i64 (a0W f+6*1)] rfl V6 rfl (by simp [Value.oneCell']) (by rw [z8,E.s8];show 0+_*1+1≤69;omega) (fun w9 u9=>zR ?_)
   refine ⟨f+1,⟨d9 nf,trivial⟩,⟨zo,?_,by rw [u9.else_ _ zo];exact cd.blk hF,by rw [u9.else_ _ zo];exact cd.blk hB,u9.cl (hcl.trans cd) zo⟩,zo⟩
   rw [u9.at_,E.s8,show (bif Nat.beq 0 0 then 0 else 0+0:Nat)=0 from rfl]
   simp only [yZ,wX];rw [W5 _ _ _ zo zo];rw [show 8*(7:Int)+(f:Int)=56+(f:Int) by omega,show a0W f+6*(1:Int)=a0W f+6 by omega,hss]
  ·refine zR ?_;refine b7 _ (b63 (cd.blk hF) f hf8 (by simp [E.s8])) (zE ?_)
   refine g7 (a3n f 7 _ zo zo zo zo) ?_;rw [a7h f 7 zo zo zo zo];refine zE ?_;refine g7 (a4S (a0W f) 1 _ zo zo zo zo) (zE ?_);refine zC ?_;refine zE ?_;refine K2 (cd.blk hQ) [.int .i64 (a0W f+6*1)] rfl V6 rfl (by simp [Value.oneCell']) (by rw [z8,E.s8];show 0+_*1+1≤69;omega) (fun w9 u9=>zR ?_)
   refine ⟨f+1,⟨d9 nf,trivial⟩,⟨zo,?_,by rw [u9.else_ _ zo];exact cd.blk hF,by rw [u9.else_ _ zo];exact cd.blk hB,u9.cl (hcl.trans cd) zo⟩,zo⟩
   rw [u9.at_,E.s8,show (bif Nat.beq 0 0 then 0 else 0+0:Nat)=0 from rfl]
   simp only [yZ,wX];rw [W5 _ _ _ zo zo];rw [show 8*(7:Int)+(f:Int)=56+(f:Int) by omega,show a0W f+6*(1:Int)=a0W f+6 by omega,hss]
 ·have hf8:f=8:=by omega
  subst hf8;refine zR ?_;refine b7 _ (A4 hQ) (zR ?_);refine K2 hB (Z2 H1) rfl a14 (C8 _) (one_pos _) (by rw [hz69];omega) (fun w9 u9=>?_)
  have hR:w9.heap[w.heap.size]?=some (.cells (t8 H1) 24 (0,0)):=by
   rw [u9.at_,B5 _ _ (by rw [C8,hz69])];rfl
  refine zR ?_;refine b7 _ (A4 hR) (zR ?_);exact ⟨rfl,u9.cl hcl (yO _)⟩
end
