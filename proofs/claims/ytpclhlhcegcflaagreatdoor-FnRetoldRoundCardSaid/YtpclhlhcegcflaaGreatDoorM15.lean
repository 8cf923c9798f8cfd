/- One part of the proof: Arg Opn San San2 Pk52 Pk45 Sp28 Sp29 Sp30 Sp31 Pk46 Pk47. -/
import Derived.Deep.Slices
import Derived.ProofKit
import Derived.Test.YtpclhlhcegcflaaGreatDoorM1
import Derived.Test.YtpclhlhcegcflaaGreatDoorM3
import Derived.Test.YtpclhlhcegcflaaGreatDoorM6
import Derived.Test.YtpclhlhcegcflaaGreatDoorM8
import Derived.Test.YtpclhlhcegcflaaGreatDoorM11
import Derived.Test.YtpclhlhcegcflaaGreatDoorM14
namespace Go.Proofs.YtpclhlhcegcflaaGreatDoor
set_option maxRecDepth 100000
set_option linter.unusedSimpArgs false
set_option linter.unusedVariables false
section
open Go Go.RowKit Go.Deep Go.ChangeShapes Go.WideShapes
open E
theorem a8U {W:World} {r:Reach} {b t:Nat} {k:IntKind} {v:Value} (ht:G.P.underlying t=some (.int k)) (h:Cell.okWide G.P W r b t v):∃ n,v = .int k n∧k.has n:=by
 unfold Cell.okWide Cell.ok at h;cases v<;>simp [ht] at h;rename_i k' n;obtain ⟨rfl,h⟩:=h;exact ⟨n,rfl,h⟩
theorem b9a {l:List Value} {k:IntKind}:(∀ (i:Nat) (v:Value),l[i]?=some v→∃ n,v=Value.int k n)→∃ zs:List Int,l=zs.map (Value.int k):=by
 induction l with
 | nil=>intro _;exact ⟨[],rfl⟩
 | cons v r ih =>
  intro h;obtain ⟨n,rfl⟩:=h 0 v rfl;obtain ⟨zs,rfl⟩:=ih (fun i v hv=>h (i+1) v (by simpa using hv))
  exact ⟨n::zs,rfl⟩
theorem b9b {n:Int} (h:IntKind.i64.has n):I64 n:=by
 have e1:IntKind.i64.min=-9223372036854775808:=by decide
 have e2:IntKind.i64.max=9223372036854775807:=by decide
 obtain ⟨h1,h2⟩:=h;rw [e1] at h1;rw [e2] at h2;exact ⟨h1,h2⟩
theorem b9c {zs:List Int} (h:zs.length=69):∃ s:A3,(zs.map (Value.int .i64)).toArray=o9 s:=by
 refine ⟨{ board:=zs.take 64,len:=by simp [h],turn:=zs.getD 64 0,castle:=zs.getD 65 0,ep:=zs.getD 66 0,half:=zs.getD 67 0,full:=zs.getD 68 0 },?_⟩
 unfold o9 X0;congr 1;have:zs=zs.take 64++[zs.getD 64 0,zs.getD 65 0,zs.getD 66 0,zs.getD 67 0,zs.getD 68 0]:=by
  apply List.ext_getElem
  ·simp [h]
  ·intro i h1 h2;by_cases hi:i<64
   ·rw [List.getElem_append_left (by simp [h];exact hi)]
    simp
   ·rw [List.getElem_append_right (by simp [h];omega)]
    have hh:(zs.take 64).length=64:=by simp [h]
    simp only [hh];have:i=64∨i=65∨i=66∨i=67∨i=68:=by omega
    rcases this with rfl | rfl | rfl | rfl | rfl<;>simp [List.getD_eq_getElem?_getD,h1]
 conv=>lhs;rw [this]
 rw [List.map_append];rfl
theorem b7l {W:World} {r:Reach} {b:Nat} {v:Value} (h:Value.okWide G.P W r b 24 v):∃ s:A3,v=C4 s:=by
 obtain ⟨f,hu,_⟩:=a0m (G.tab 24 _ (show P1 G.T 24=some (.struct 69 _) from rfl));unfold Value.okWide at h;rw [hu] at h;obtain ⟨cs,rfl,hs,ts,hts,_,hall⟩:=h;have e1:G.P.cellTypes G.P.depth 24=some (List.replicate 69 3):=by kernel_rfl
 obtain rfl:=Option.some.inj (e1.symm.trans hts);have e2:G.P.cellsOf 24=69:=by kernel_rfl
 have e3:G.P.underlying 3=some (.int .i64):=by kernel_rfl
 rw [e2] at hs;obtain ⟨zs,hz⟩:=b9a (l:=cs.toList) (k:=.i64) (fun i v hv=>by
  obtain ⟨u,hu,hc⟩:=hall i v (by simpa using hv)
  rw [List.getElem?_replicate] at hu;split at hu
  ·obtain rfl:=Option.some.inj hu;obtain ⟨n,h1,_⟩:=a8U e3 hc;exact ⟨n,h1⟩
  ·cases hu)
 obtain ⟨s,hs2⟩:=b9c (zs:=zs) (by have:=congrArg List.length hz;simpa [hs] using this.symm)
 refine ⟨s,?_⟩;unfold C4;rw [← hs2,← hz]
theorem c0Y {n:Int} (h:(Lit.int .i64 n).wf=true):I64 n:=by
 have e1:IntKind.i64.min=-9223372036854775808:=by decide
 have e2:IntKind.i64.max=9223372036854775807:=by decide
 simp [Lit.wf,e1,e2] at h;exact ⟨zo,zo⟩
theorem b2L {H:Type} {enc:TypeId×Value→H} {W:World} {b base:Nat} {sp:Nat→Bool} {hd:Bool} {v:Value} {d:DataW H} {ps:List MemPlace} (h:Value.okWide G.P W .any b 25 v) (hr:DataW.Trod enc G.P W base sp hd 25 v d ps) :
  ∃ ms:List Mv,a2a W v ms∧∀ m∈ms,MvR m:=by
 have e1:G.P.underlying 25=some (.slice 36):=by kernel_rfl
 have e2:G.P.cellsOf 36=3:=by kernel_rfl
 have e3:G.P.underlying 3=some (.int .i64):=by kernel_rfl
 have e4:G.P.cellsOf 3=1:=by kernel_rfl
 obtain ⟨f,hu,_,hf,_⟩:=a0m (G.tab 36 _ (show P1 G.T 36=some (.struct 3 _) from rfl));have hf2:f.toList.map (fun x=>(x.type,x.offset))=[(3,0),(3,1),(3,2)]:=hf;have hfs:f.size=3:=by have:=congrArg List.length hf2;simpa using this
 have hfi:∀ i (hi:i<3),f[i].type=3∧f[i].offset=i:=fun i hi=>by
  have:=congrArg (fun l=>l[i]?) hf2;simp only [List.getElem?_map] at this;rw [List.getElem?_eq_getElem (by simp [hfs];exact hi)] at this
  simp only [Option.map_some,Array.getElem_toList] at this;have h3:i=0∨i=1∨i=2:=by omega
  rcases h3 with rfl | rfl | rfl<;>simpa using this
 obtain ⟨fuel,hr⟩:=hr;unfold Value.okWide at h;rw [e1] at h;have hv:∃ oa len cap,v = .slice oa len cap:=by
  unfold Cell.okWide Cell.ok at h;cases v<;>simp [e1] at h;exact ⟨_,_,_,rfl⟩
 obtain ⟨oa,len,cap,rfl⟩:=hv;rcases open_slice e1 hr with ⟨h1,_⟩ | ⟨a,len',cap',m,n,D,Pl,h1,_,hl,hm,hmm,_,hx⟩
 ·obtain ⟨rfl,rfl,rfl⟩:oa=none∧len=0∧cap=0:=by simpa [Value.cells] using h1
  exact ⟨[],⟨none,0,rfl,fun h=>absurd h zd⟩,fun m hm=>by cases hm⟩
 ·obtain ⟨rfl,rfl,rfl⟩:oa=some a∧len=len'∧cap=cap':=by simpa [Value.cells] using h1
  unfold Cell.okWide Cell.ok at h;rw [e1] at h;obtain ⟨_,_,_,hsp,row,cells,hsh,_⟩:=h;obtain ⟨g,o,spo⟩:=a;obtain rfl:spo=none:=hsp;unfold World.shape? at hsh;cases hbb:W.heap[g]? with
  | none=>simp only [hbb] at hsh;cases hsh
  | some ob =>
   cases ob with
   | cells cs2 el fz =>
    have hlm:len≤m:=by rw [hmm];split<;>omega
    have key:∀ i,i<len→∃ mv:Mv,MvR mv∧o+i*3+3≤cs2.size∧cs2.extract (o+i*3) (o+i*3+3)=K2 mv:=by
     intro i hi;obtain ⟨cs',hc1,hc2⟩:=hx i zo;obtain ⟨_,hlen,hcell⟩:=World.cells?_some hc1;rw [e2] at hlen hcell;obtain ⟨xs,n',_,_,_,hxl,hall⟩:=DataW.trod_struct hu hc2;have hz:∀ j,j<3→∃ z,cs2[o+i*3+j]?=some (Value.int .i64 z)∧I64 z:=by
      intro j hj;obtain ⟨t1,t2⟩:=hfi j hj;have h2:=hall j f[j] (by simp [hfs,hj])
      rw [t1,t2,e4,List.getElem?_eq_getElem zo] at h2;obtain ⟨z,h3,_,h4⟩:=DataW.trod_int e3 h2;have h5:cs'[j]?=some (Value.int .i64 z):=by
       have:=congrArg (·[0]?) h3;simpa [List.getElem?_take,List.getElem?_drop] using this
      have h6:=hcell j hj;rw [h5,G8,G8] at h6;unfold World.cell? at h6;simp only [hbb] at h6;exact ⟨z,by simpa using h6,c0Y h4⟩
     obtain ⟨z0,p0,r0⟩:=hz 0 zd;obtain ⟨z1,p1,r1⟩:=hz 1 zd;obtain ⟨z2,p2,r2⟩:=hz 2 zd;have hsz:=(Array.getElem?_eq_some_iff.1 p2).1;refine ⟨⟨z0,z1,z2⟩,⟨r0,r1,r2⟩,zo,?_⟩;apply Array.ext
     ·simp [K2];omega
     ·intro j h1 h2;have h3:j=0∨j=1∨j=2:=by simp [K2] at h2;omega
      rw [Array.getElem_extract];rcases h3 with rfl | rfl | rfl
      ·exact (Array.getElem?_eq_some_iff.1 p0).2
      ·exact (Array.getElem?_eq_some_iff.1 p1).2
      ·exact (Array.getElem?_eq_some_iff.1 p2).2
    have:Inhabited Mv:=⟨⟨0,0,0⟩⟩;obtain ⟨F,hF⟩:=choose_lt key;refine ⟨(List.range len).map F,⟨some ⟨g,o,none⟩,cap,by simp,fun _=>⟨g,o,cs2,el,fz,rfl,hbb,fun i hi=>?_⟩⟩,fun mv hmv=>?_⟩
    ·have hi2:i<len:=by simpa using hi
     obtain ⟨_,h7,h8⟩:=hF i hi2;exact ⟨h7,by simpa using h8⟩
    ·obtain ⟨i,hi,rfl⟩:=List.mem_map.1 hmv;exact (hF i (List.mem_range.1 hi)).1
   | _=>simp only [hbb] at hsh;cases hsh
theorem c3E {W:World} {r:Reach} {b:Nat} {v:Value} (h:Value.okWide G.P W r b 3 v):∃ n,v = .int .i64 n∧I64 n:=by
 have e3:G.P.underlying 3=some (.int .i64):=by kernel_rfl
 unfold Value.okWide at h;rw [e3] at h;obtain ⟨n,h1,h2⟩:=a8U e3 h;exact ⟨n,h1,b9b h2⟩
end
section
namespace Ch
def a1C (s:Tx) (c:UInt8):Bool:=s.contains c
theorem b5s {s:Tx} {c:UInt8}:a1C s c=true↔c∈s:=List.contains_iff_mem
def inS (t:Tx) (i:Nat) (s:Tx):Bool:=match t[i]? with
 | some c=>a1C s c
 | none=>false
def oneN (t:Tx) (i:Nat) (s:Tx):Nat:=if inS t i s then 1 else 0
def a23:Tx:=[82,78,66,81,75,80]
def a4q:Tx:=[97,98,99,100,101,102,103,104]
def a00:Tx:=[48,49,50,51,52,53,54,55,56,57]
def c3v:Tx:=[43,35,33,63]
def epS:Tx:=[101,46,112,46]
def c3X:Tx:=[81,82,66,78]
def ooS:Tx:=[79,45,79]
def oooS:Tx:=[79,45,79,45,79]
def a1K:Tx→Bool
 | []=>true
 | c::r=>if a1C c3v c then a1K r else if (c::r).take 4=epS then a1K (r.drop 3) else false
 termination_by t=>t.length
 decreasing_by all_goals (simp only [List.length_cons,List.length_drop];omega)
structure p7 where
 pc:Tx
 fo:Tx
 ro:Tx
 ca:Tx
 fi:Tx
 ra:Tx
 pr:Tx
 cs:Tx
def a9I {α:Type} (f:Nat→Option α):Nat→Option α
 | 0=>none
 | n+1=>match f n with
  | some x=>some x
  | none=>a9I f n
def a5L (t:Tx) (i j:Nat):Tx:=(t.drop i).take (j-i)
def c4z (t:Tx) (a b c d k:Nat):p7 :=
 ⟨a5L t 0 a,a5L t a (a+b),a5L t (a+b) (a+b+c),a5L t (a+b+c) (a+b+c+d),a5L t (a+b+c+d) (a+b+c+d+1),a5L t (a+b+c+d+1) (a+b+c+d+2),a5L t (a+b+c+d+2) (a+b+c+d+2+2*k),[]⟩
def c40 (t:Tx) (a b c d k:Nat):Option p7:=if a1K (t.drop (a+b+c+d+2+2*k)) then some (c4z t a b c d k) else none
def c3f (t:Tx) (at_:Nat):Bool:=inS t (at_+2) [61]&&inS t (at_+3) c3X
def c41 (t:Tx) (a b c d:Nat):Option p7 :=
 if inS t (a+b+c+d) a4q&&inS t (a+b+c+d+1) a00 then a9I (c40 t a b c d) (if c3f t (a+b+c+d) then 2 else 1) else none
def c4O (t:Tx) (a b c:Nat):Option p7:=a9I (c41 t a b c) (oneN t (a+b+c) [120]+1)
def c4P (t:Tx) (a b:Nat):Option p7:=a9I (c4O t a b) (oneN t (a+b) a00+1)
def c4Q (t:Tx) (a:Nat):Option p7:=a9I (c4P t a) (oneN t a a4q+1)
def b5t (t:Tx):Option p7:=a9I (c4Q t) (oneN t 0 a23+1)
def b9D (o:Tx):p7:=⟨[],[],[],[],[],[],[],o⟩
def zzP (t:Tx):Option p7:=match b5t t with
 | some q=>some q
 | none=>if t.take 5=oooS∧a1K (t.drop 5)=true then some (b9D oooS) else if t.take 3=ooS∧a1K (t.drop 3)=true then some (b9D ooS) else none
def a5d (q:p7):Tx:=q.pc++q.fo++q.ro++q.ca++q.fi++q.ra++q.pr++q.cs
def a9R (q:p7):List Tx :=
 if q.pc≠[] then [q.pc++q.ca++q.fi++q.ra++q.pr++q.cs,q.pc++q.ro++q.ca++q.fi++q.ra++q.pr++q.cs,q.pc++q.fo++q.ca++q.fi++q.ra++q.pr++q.cs]
 else (if q.ca≠[] then [q.fo++q.ca++q.fi++q.ra++q.pr] else [])++(if q.fo≠[]∧q.ro≠[] then [q.ca++q.fi++q.ra++q.pr] else [])
def fits (q:p7) (t:Tx):Prop:=a5d q=t∨t∈a9R q
instance (q:p7) (t:Tx):Decidable (fits q t):=by unfold fits;infer_instance
structure b3J (c:UInt8):Prop where
 l:a1C a23 c=false
 f:a1C a4q c=true
 d:a1C a00 c=false
 x:a1C [120] c=false
 e:a1C [61] c=false
 m:a1C [45] c=false
structure c3Y (c:UInt8):Prop where
 l:a1C a23 c=false
 f:a1C a4q c=false
 d:a1C a00 c=true
 x:a1C [120] c=false
 e:a1C [61] c=false
 m:a1C [45] c=false
theorem c42:∀ k:Nat,k<8→b3J (UInt8.ofNat (97+k)):=by
 intro k hk;rcases (by omega:k=0∨k=1∨k=2∨k=3∨k=4∨k=5∨k=6∨k=7) with rfl | rfl | rfl | rfl | rfl | rfl | rfl | rfl<;>exact ⟨zd,zd,zd,zd,zd,zd⟩
theorem c4R:∀ k:Nat,k<8→c3Y (UInt8.ofNat (49+k)):=by
 intro k hk;rcases (by omega:k=0∨k=1∨k=2∨k=3∨k=4∨k=5∨k=6∨k=7) with rfl | rfl | rfl | rfl | rfl | rfl | rfl | rfl<;>exact ⟨zd,zd,zd,zd,zd,zd⟩
theorem b5u (s:Int):∃ c,A7 s=[c]∧b3J c:=⟨_,rfl,c42 _ zo⟩
theorem c19 {s:Int} (h0:0≤s) (h1:s≤63):∃ c,F7 s=[c]∧c3Y c:=⟨_,rfl,c4R _ zo⟩
theorem c3w {a b:Nat} (ha:a<256) (hb:b<256) (h:UInt8.ofNat a=UInt8.ofNat b):a=b:=by
 have:=congrArg UInt8.toNat h;rw [UInt8.toNat_ofNat_of_lt' ha,UInt8.toNat_ofNat_of_lt' hb] at this;exact this
theorem c0n {a b:Int} (h:A7 a=A7 b):a%8=b%8:=by
 have:=c3w zo zo (List.cons.inj h).1;omega
theorem c3g {a b:Int} (a0:0≤a) (a1:a≤63) (b0:0≤b) (b1:b≤63) (h:F7 a=F7 b):a/8=b/8:=by
 have:=c3w zo zo (List.cons.inj h).1;omega
@[simp] theorem c3F (c:UInt8) (t s:Tx):inS (c::t) 0 s=a1C s c:=rfl
@[simp] theorem c6i (c:UInt8) (t s:Tx) (i:Nat):inS (c::t) (i+1) s=inS t i s:=rfl
@[simp] theorem c60 (s:Tx) (i:Nat):inS [] i s=false:=rfl
theorem b1F:a1K []=true:=by rw [a1K]
structure c6j (t:Tx):Prop where
 x:inS t 0 [120]=false
 e:inS t 0 [61]=false
 m:inS t 0 [45]=false
 d:inS t 0 a00=false
 fd:(inS t 0 a4q&&inS t 1 a00)=false
 l:inS t 0 a23=false
theorem c4S:∀ c∈c3v,a1C [120] c=false∧a1C [61] c=false∧a1C [45] c=false∧a1C a00 c=false∧a1C a4q c=false∧a1C a23 c=false:=by decide
theorem c5J {t:Tx} (h:a1K t=true):c6j t:=by
 cases t with
 | nil=>exact ⟨rfl,rfl,rfl,rfl,rfl,rfl⟩
 | cons c r =>
  rw [a1K] at h;by_cases hs:a1C c3v c=true
  ·obtain ⟨a1,a2,a3,a4,a5,a6⟩:=c4S c (b5s.1 hs);exact ⟨a1,a2,a3,a4,by rw [c3F,a5];rfl,a6⟩
  ·rw [if_neg hs] at h;by_cases h4:(c::r).take 4=epS
   ·rw [List.take_succ_cons] at h4;obtain ⟨e1,e2⟩:=List.cons.inj h4;subst e1;refine ⟨rfl,rfl,rfl,rfl,?_,rfl⟩;cases r with
    | nil=>cases e2
    | cons c2 r2 =>
     rw [List.take_succ_cons] at e2;have:=(List.cons.inj e2).1;subst this;rfl
   ·rw [if_neg h4] at h;cases h
theorem c4l {o1 o2 o3 x pr sg:Tx} {f r:UInt8} (h1:o1=[]∨∃ c,o1=[c]∧a1C a23 c=true) (h2:o2=[]∨∃ c,o2=[c]∧b3J c) (h3:o3=[]∨∃ c,o3=[c]∧c3Y c) (hx:x=[]∨x=[120]) (hf:b3J f) (hr:c3Y r) (hp:pr=[]∨∃ c,pr=[61,c]∧a1C c3X c=true) (hs:a1K sg=true) :
  zzP (o1++o2++o3++x++[f]++[r]++pr++sg)=some ⟨o1,o2,o3,x,[f],[r],pr,[]⟩:=by
 obtain ⟨x1,x2,x3,x4,x5,x6⟩:=c5J hs;have hff:=hf.f;have hfl:=hf.l;have hfd:=hf.d;have hfx:=hf.x;have hfe:=hf.e;have hrf:=hr.f;have hrl:=hr.l;have hrd:=hr.d;have hrx:=hr.x;have hre:=hr.e;have k1:a1C a4q 120=false:=by decide
 have k2:a1C a00 120=false:=by decide
 have k3:a1C a23 120=false:=by decide
 have k4:a1C a4q 61=false:=by decide
 have k5:a1C a00 61=false:=by decide
 have k7:a1C [120] 120=true:=by decide
 have k8:a1C [61] 61=true:=by decide
 have k9:a1C [120] 61=false:=by decide
 have k10:a1C [61] 120=false:=by decide
 have k6:∀ c,a1C a23 c=true→a1C a4q c=false∧a1C a00 c=false∧a1C [120] c=false:=by
  intro c hc;have:∀ c∈a23,a1C a4q c=false∧a1C a00 c=false∧a1C [120] c=false:=by decide
  exact this c (b5s.1 hc)
 have hz:∀ q,b5t (o1++o2++o3++x++[f]++[r]++pr++sg)=some q→zzP (o1++o2++o3++x++[f]++[r]++pr++sg)=some q:=fun q h=>by unfold zzP;rw [h]
 apply hz;clear hz;have h1':o1=[]∨∃ c,o1=[c]∧a1C a23 c=true∧a1C a4q c=false∧a1C a00 c=false∧a1C [120] c=false:=h1.imp id fun ⟨c,e,h⟩=>⟨c,e,h,k6 c h⟩;have h2':o2=[]∨∃ c,o2=[c]∧a1C a4q c=true∧a1C a23 c=false∧a1C a00 c=false∧a1C [120] c=false:=h2.imp id fun ⟨c,e,h⟩=>⟨c,e,h.f,h.l,h.d,h.x⟩;have h3':o3=[]∨∃ c,o3=[c]∧a1C a4q c=false∧a1C a23 c=false∧a1C a00 c=true∧a1C [120] c=false:=h3.imp id fun ⟨c,e,h⟩=>⟨c,e,h.f,h.l,h.d,h.x⟩;clear h1 h2 h3 hf hr;rcases h1' with rfl | ⟨c1,rfl,y1,y2,y3,y4⟩<;>rcases h2' with rfl | ⟨c2,rfl,z1,z2,z3,z4⟩<;>rcases h3' with rfl | ⟨c3,rfl,v1,v2,v3,v4⟩<;>rcases hx with rfl | rfl<;>rcases hp with rfl | ⟨c4,rfl,hc4⟩<;>simp [b5t,c4Q,c4P,c4O,c41,c40,a9I,oneN,c3f,c4z,a5L, *]
end Ch
namespace Ch
def apF (p:A3) (m:Mv):Tx:=if (Q9 p m).isEmpty then [] else if !(Q9 p m).any (fun x=>decide (x.fr%8=m.fr%8)) then A7 m.fr else if !(Q9 p m).any (fun x=>decide (x.fr/8=m.fr/8)) then [] else A7 m.fr
def apR (p:A3) (m:Mv):Tx:=if (Q9 p m).isEmpty then [] else if !(Q9 p m).any (fun x=>decide (x.fr%8=m.fr%8)) then [] else F7 m.fr
theorem c3h {p:A3} {m:Mv} (f0:0≤m.fr) (f1:m.fr≤63):apart p m=apF p m++apR p m:=by
 have hs:Y7 m.fr=A7 m.fr++F7 m.fr:=by unfold Y7;rw [if_neg zo]
 unfold apart apF apR;rw [hs];(repeat' split)<;>simp_all
def b1Z (p:A3) (m:Mv) (fo ro:Tx):p7:=⟨[],fo,ro,S9 p m,A7 m.to,F7 m.to,Z9 m,[]⟩
def a6v (p:A3) (m:Mv) (fo ro:Tx):p7:=⟨A1 (kindOf (sq p m.fr)),fo,ro,S9 p m,A7 m.to,F7 m.to,[],[]⟩
def a4r (p:A3) (m:Mv):p7 :=
 if castleKind p m=1 then b9D ooS
 else if castleKind p m=2 then b9D oooS
 else if kindOf (sq p m.fr)=6 then b1Z p m (if takes p m then A7 m.fr else []) []
 else a6v p m (apF p m) (apR p m)
inductive c6k (p:A3) (m:Mv):Prop
 | castle (k:Int) (hk:k=1∨k=2) (h:castleKind p m=k)
 | pawn (h:castleKind p m=0) (hp:H8 p m) (hk:kindOf (sq p m.fr)=6)
 | piece (h:castleKind p m=0) (hp:H8 p m) (k1:1≤kindOf (sq p m.fr)) (k5:kindOf (sq p m.fr)≤5) (h0:m.promo=0)
theorem c2m {p:A3} (hI:B7 p) {m:Mv} (hm:m∈y8 p):c6k p m:=by
 rcases (P6 hI m).1 hm with ⟨hp,_⟩ | ⟨r,hr,_⟩
 ·have hc:=(O7 hI hp).2;obtain ⟨k1,k6,_⟩:=a2R hI hp.there hp.own;by_cases hk:kindOf (sq p m.fr)=6
  ·exact .pawn hc hp hk
  ·refine .piece hc hp k1 zo ?_;rcases hp.promo with e | e
   ·exact e.1
   ·exact absurd e.2.2.1 hk
 ·obtain ⟨r4,rt,rb,hc⟩:=I5 hI hr;have hmv:=hc.mv;have hw:(if A0 (r:Int)<homeK r then (-1:Int) else 1)=1∨(if A0 (r:Int)<homeK r then (-1:Int) else 1)=-1:=by split<;>simp
  generalize (if A0 (r:Int)<homeK r then (-1:Int) else 1)=w at *
  have hking:=hc.king;refine .castle (if w=1 then 1 else 2) (by split<;>simp) ?_
  unfold castleKind;rw [hmv];simp only [hking,Y6 hI];rcases hw with rfl | rfl
  ·rw [if_neg zd,if_pos zo,if_pos rfl]
  ·rw [if_neg zd,if_neg zo,if_pos zo,if_neg zd]
theorem b38 {k:Int} (k1:1≤k) (k5:k≤5):∃ c,A1 k=[c]∧a1C a23 c=true∧a1C a4q c=false∧c≠120∧c≠79:=by
 rcases (by omega:k=1∨k=2∨k=3∨k=4∨k=5) with rfl | rfl | rfl | rfl | rfl<;>exact ⟨_,rfl,zd,zd,zd,zd⟩
theorem c3i {a b:Int} (a1:1≤a) (a5:a≤5) (b1:1≤b) (b5:b≤5) (h:A1 a=A1 b):a=b:=by
 rcases (by omega:a=1∨a=2∨a=3∨a=4∨a=5) with rfl | rfl | rfl | rfl | rfl<;>rcases (by omega:b=1∨b=2∨b=3∨b=4∨b=5) with rfl | rfl | rfl | rfl | rfl<;>first | rfl | exact absurd h zd
theorem c5R {p:A3} (hI:B7 p) {m:Mv} (hm:m∈y8 p):Z9 m=[]∨∃ c,Z9 m=[61,c]∧a1C c3X c=true:=by
 obtain ⟨_,_,_,_,hp⟩:=L4 hI hm;unfold Z9;rcases hp with e | ⟨e1,e2,_⟩
 ·exact .inl (if_pos e)
 ·right;rw [if_neg zo];rcases (by omega:m.promo=2∨m.promo=3∨m.promo=4∨m.promo=5) with e | e | e | e<;>rw [e]<;>exact ⟨_,rfl,zd⟩
theorem c43 {a b:Mv} (ha:a.promo=0∨2≤a.promo∧a.promo≤5) (hb:b.promo=0∨2≤b.promo∧b.promo≤5) (h:Z9 a=Z9 b):a.promo=b.promo:=by
 unfold Z9 at h;rcases ha with e | ⟨e1,e2⟩<;>rcases hb with g | ⟨g1,g2⟩
 ·rw [e,g]
 ·rw [if_pos e,if_neg zo] at h;cases h
 ·rw [if_pos g,if_neg zo] at h;cases h
 ·rw [if_neg zo,if_neg zo] at h;exact c3i zo e2 zo g2 (List.cons.inj h).2
theorem c4m (p:A3) (m:Mv):S9 p m=[]∨S9 p m=[120]:=by unfold S9;split<;>simp
theorem sq2 {i:Int} (h0:0≤i) (h1:i≤63):Y7 i=A7 i++F7 i:=by unfold Y7;rw [if_neg zo]
theorem b5v {p:A3} (hI:B7 p) {m:Mv} (hm:m∈y8 p):a5d (a4r p m)=body p m:=by
 obtain ⟨f0,f1,t0,t1,_⟩:=L4 hI hm;unfold a4r body;rw [sq2 t0 t1];split
 ·rfl
 ·split
  ·rfl
  ·split
   ·unfold a5d b1Z S9;cases takes p m<;>simp
   ·unfold a5d a6v;rw [c3h f0 f1];simp
theorem c5K (p:A3) (m:Mv):apF p m=[]∨apF p m=A7 m.fr:=by unfold apF;(repeat' split)<;>simp
theorem c5L (p:A3) (m:Mv):apR p m=[]∨apR p m=F7 m.fr:=by unfold apR;(repeat' split)<;>simp
theorem c4n {o:Tx} {s:Int} (h:o=[]∨o=A7 s):o=[]∨∃ c,o=[c]∧b3J c:=h.imp id fun e=>by rw [e];exact b5u s
theorem c4o {o:Tx} {s:Int} (h0:0≤s) (h1:s≤63) (h:o=[]∨o=F7 s):o=[]∨∃ c,o=[c]∧c3Y c:=h.imp id fun e=>by rw [e];exact c19 h0 h1
theorem c3G {p:A3} (hI:B7 p) {m:Mv} (hm:m∈y8 p) (k1:1≤kindOf (sq p m.fr)) (k5:kindOf (sq p m.fr)≤5) {fo ro sg:Tx} (hf:fo=[]∨fo=A7 m.fr) (hr:ro=[]∨ro=F7 m.fr) (hs:a1K sg=true) :
  zzP (a5d (a6v p m fo ro)++sg)=some (a6v p m fo ro):=by
 obtain ⟨f0,f1,t0,t1,_⟩:=L4 hI hm;obtain ⟨c,hc,h1,_⟩:=b38 k1 k5;obtain ⟨f,ef,h2⟩:=b5u m.to;obtain ⟨r,er,h3⟩:=c19 t0 t1;have:=c4l (o1:=A1 (kindOf (sq p m.fr))) (o2:=fo) (o3:=ro) (x:=S9 p m) (pr:=[]) (sg:=sg) (.inr ⟨c,hc,h1⟩) (c4n hf) (c4o f0 f1 hr) (c4m p m) h2 h3 (.inl rfl) hs;unfold a5d a6v;rw [ef,er];simpa using this
theorem c4p {p:A3} (hI:B7 p) {m:Mv} (hm:m∈y8 p) {fo ro sg:Tx} (hf:fo=[]∨fo=A7 m.fr) (hr:ro=[]∨ro=F7 m.fr) (hs:a1K sg=true) :
  zzP (a5d (b1Z p m fo ro)++sg)=some (b1Z p m fo ro):=by
 obtain ⟨f0,f1,t0,t1,_⟩:=L4 hI hm;obtain ⟨f,ef,h2⟩:=b5u m.to;obtain ⟨r,er,h3⟩:=c19 t0 t1;have:=c4l (o1:=[]) (o2:=fo) (o3:=ro) (x:=S9 p m) (pr:=Z9 m) (sg:=sg) (.inl rfl) (c4n hf) (c4o f0 f1 hr) (c4m p m) h2 h3 (c5R hI hm) hs;unfold a5d b1Z;rw [ef,er];simpa using this
theorem c3x {o sg:Tx} (ho:o=ooS∨o=oooS) (hs:a1K sg=true):zzP (o++sg)=some (b9D o):=by
 have hf:b5t (o++sg)=none:=by
  rcases ho with rfl | rfl<;>rfl
 unfold zzP;rw [hf];rcases ho with rfl | rfl
 ·have h5:¬ ((ooS++sg).take 5=oooS∧a1K ((ooS++sg).drop 5)=true):=by
   rintro ⟨h,_⟩;have hm:=(c5J hs).m;cases sg with
   | nil=>cases h
   | cons c r =>
    have e:(ooS++c::r).take 5=[79,45,79,c]++r.take 1:=by rw [show ooS++c::r=79::45::79::c::r from rfl];simp
    rw [e] at h;have:c=45:=by
     have:=(List.cons.inj (List.cons.inj (List.cons.inj (List.cons.inj h).2).2).2).1;exact this
    subst this;rw [c3F] at hm;exact absurd hm zd
  rw [if_neg h5,if_pos ⟨rfl,hs⟩]
 ·rw [if_pos ⟨rfl,hs⟩]
theorem c4q {p:A3} (hI:B7 p) {m:Mv} (hm:m∈y8 p) {sg:Tx} (hs:a1K sg=true):zzP (body p m++sg)=some (a4r p m):=by
 rw [← b5v hI hm];rcases c2m hI hm with ⟨k,hk,h⟩ | ⟨h,hp,hk⟩ | ⟨h,hp,k1,k5,_⟩
 ·unfold a4r;rw [h];rcases hk with rfl | rfl
  ·exact c3x (.inl rfl) hs
  ·exact c3x (.inr rfl) hs
 ·unfold a4r;rw [h,if_neg zd,if_neg zd,if_pos hk];exact c4p hI hm (by split<;>simp) (.inl rfl) hs
 ·unfold a4r;rw [h,if_neg zd,if_neg zd,if_neg zo];exact c3G hI hm k1 k5 (c5K p m) (c5L p m) hs
theorem b3J.nx {c:UInt8} (h:b3J c):c≠120:=fun e=>by subst e;exact absurd h.x zd
theorem b3J.ne {c:UInt8} (h:b3J c):c≠61:=fun e=>by subst e;exact absurd h.e zd
theorem c3Y.nx {c:UInt8} (h:c3Y c):c≠120:=fun e=>by subst e;exact absurd h.x zd
theorem c1h {p:A3} {m:Mv} (h:castleKind p m=0) (hk:kindOf (sq p m.fr)=6) (t0:0≤m.to) (t1:m.to≤63):body p m=(if takes p m then A7 m.fr++[120] else [])++(A7 m.to++F7 m.to)++Z9 m:=by
 unfold body;rw [h,if_neg zd,if_neg zd,if_pos hk,sq2 t0 t1]
theorem b7S {p:A3} {m:Mv} (h:castleKind p m=0) (hk:kindOf (sq p m.fr)≠6) (f0:0≤m.fr) (f1:m.fr≤63) (t0:0≤m.to) (t1:m.to≤63):body p m=A1 (kindOf (sq p m.fr))++(apF p m++apR p m)++S9 p m++(A7 m.to++F7 m.to):=by
 unfold body;rw [h,if_neg zd,if_neg zd,if_neg hk,sq2 t0 t1,c3h f0 f1]
theorem c2z {p:A3} {m:Mv} {k:Int} (hk:k=1∨k=2) (h:castleKind p m=k):body p m=if k=1 then ooS else oooS:=by
 unfold body;rw [h];rcases hk with rfl | rfl<;>rfl
theorem c32 {p:A3} (hI:B7 p) {m:Mv} (hm:m∈y8 p):∃ c r,body p m=c::r∧(c=79∧castleKind p m≠0∨b3J c∧castleKind p m=0∧kindOf (sq p m.fr)=6∨a1C a23 c=true∧c≠79∧castleKind p m=0∧kindOf (sq p m.fr)≠6):=by
 obtain ⟨f0,f1,t0,t1,_⟩:=L4 hI hm;rcases c2m hI hm with ⟨k,hk,h⟩ | ⟨h,hp,hk⟩ | ⟨h,hp,k1,k5,_⟩
 ·rw [c2z hk h];refine ⟨79,if k=1 then [45,79] else [45,79,45,79],by split<;>rfl,.inl ⟨rfl,zo⟩⟩
 ·rw [c1h h hk t0 t1];obtain ⟨c,ec,h1⟩:=b5u m.fr;obtain ⟨d,ed,h2⟩:=b5u m.to;rw [ec,ed];split
  ·exact ⟨c,_,rfl,.inr (.inl ⟨h1,h,hk⟩)⟩
  ·exact ⟨d,_,rfl,.inr (.inl ⟨h2,h,hk⟩)⟩
 ·rw [b7S h zo f0 f1 t0 t1];obtain ⟨c,ec,h1,_,_,h4⟩:=b38 k1 k5;rw [ec];exact ⟨c,_,rfl,.inr (.inr ⟨h1,h4,h,zo⟩)⟩
theorem c3H {c:UInt8} (h:a1C a23 c=true) (h2:b3J c):False:=by rw [h2.l] at h;cases h
theorem c3j {p:A3} {x m:Mv}:x∈Q9 p m↔x∈y8 p∧x.to=m.to∧x.fr≠m.fr∧sq p x.fr=sq p m.fr:=by
 unfold Q9;rw [List.mem_filter];simp only [Bool.and_eq_true,Bool.not_eq_true',decide_eq_true_eq,decide_eq_false_iff_not];exact ⟨fun ⟨a,⟨b,c⟩,d⟩=>⟨a,b,c,d⟩,fun ⟨a,b,c,d⟩=>⟨a,⟨b,c⟩,d⟩⟩
theorem c4T {p:A3} {x m:Mv} (hm:m∈Q9 p x) (x0:0≤x.fr) (x1:x.fr≤63) (m0:0≤m.fr) (m1:m.fr≤63) {fo ro:Tx} (hf:fo=[]∨fo=A7 m.fr) (hr:ro=[]∨ro=F7 m.fr):apF p x++apR p x≠fo++ro:=by
 obtain ⟨_,_,hne,_⟩:=c3j.1 hm;have he:(Q9 p x).isEmpty=false:=by
  cases e:Q9 p x with
  | nil=>rw [e] at hm;cases hm
  | cons a b=>rfl
 obtain ⟨c1,e1,f1⟩:=b5u x.fr;obtain ⟨c2,e2,f2⟩:=c19 x0 x1;obtain ⟨d1,g1,k1⟩:=b5u m.fr;obtain ⟨d2,g2,k2⟩:=c19 m0 m1;have n1:c1≠d2:=fun e=>by subst e;exact absurd (f1.f.symm.trans k2.f) zd
 have n2:c2≠d1:=fun e=>by subst e;exact absurd (f2.f.symm.trans k1.f) zd
 have n3:c1=d1→x.fr%8=m.fr%8:=fun e=>c0n (by rw [e1,g1,e])
 have n4:c2=d2→x.fr/8=m.fr/8:=fun e=>c3g x0 x1 m0 m1 (by rw [e2,g2,e])
 unfold apF apR;simp only [he,Bool.false_eq_true,if_false];by_cases ha:(Q9 p x).any (fun y=>decide (y.fr%8=x.fr%8))=true
 ·simp only [ha,Bool.not_true,Bool.false_eq_true,if_false];by_cases hb:(Q9 p x).any (fun y=>decide (y.fr/8=x.fr/8))=true
  ·simp only [hb,Bool.not_true,Bool.false_eq_true,if_false];rw [e1,e2];rcases hf with rfl | rfl<;>rcases hr with rfl | rfl<;>(try simp only [g1,g2])<;>intro h
   ·cases h
   ·exact absurd h (by simp)
   ·exact absurd h (by simp)
   ·simp only [List.cons_append,List.nil_append,List.cons.injEq,and_true] at h;have:=n3 h.1;have:=n4 h.2;omega
  ·rw [Bool.not_eq_true] at hb;simp only [hb,Bool.not_false,if_true];rw [e2];have hb2:∀ y∈Q9 p x,¬ y.fr/8=x.fr/8:=fun y hy e=>by
    have:(Q9 p x).any (fun y=>decide (y.fr/8=x.fr/8))=true:=List.any_eq_true.2 ⟨y,hy,decide_eq_true e⟩;rw [hb] at this;cases this
   have:=hb2 m hm;rcases hf with rfl | rfl<;>rcases hr with rfl | rfl<;>(try simp only [g1,g2])<;>intro h
   ·cases h
   ·simp only [List.nil_append,List.cons.injEq,and_true] at h;have:=n4 h;omega
   ·simp only [List.append_nil,List.nil_append,List.cons.injEq,and_true] at h;exact n2 h
   ·exact absurd h (by simp)
 ·rw [Bool.not_eq_true] at ha;simp only [ha,Bool.not_false,if_true];rw [e1];have ha2:∀ y∈Q9 p x,¬ y.fr%8=x.fr%8:=fun y hy e=>by
   have:(Q9 p x).any (fun y=>decide (y.fr%8=x.fr%8))=true:=List.any_eq_true.2 ⟨y,hy,decide_eq_true e⟩;rw [ha] at this;cases this
  have:=ha2 m hm;rcases hf with rfl | rfl<;>rcases hr with rfl | rfl<;>(try simp only [g1,g2])<;>intro h
  ·cases h
  ·simp only [List.append_nil,List.nil_append,List.cons.injEq,and_true] at h;exact n1 h
  ·simp only [List.append_nil,List.cons.injEq,and_true] at h;have:=n3 h;omega
  ·exact absurd h (by simp)
theorem Mv.ext' {a b:Mv} (h1:a.fr=b.fr) (h2:a.to=b.to) (h3:a.promo=b.promo):a=b:=by cases a;cases b;simp_all
theorem c44 {p:A3} (hI:B7 p) {m x:Mv} (hm:m∈y8 p) (hx:x∈y8 p) (hc:castleKind p m=0) (hp:H8 p m) (k1:1≤kindOf (sq p m.fr)) (k5:kindOf (sq p m.fr)≤5) (h0:m.promo=0) {fo ro:Tx} (hf:fo=[]∨fo=A7 m.fr) (hr:ro=[]∨ro=F7 m.fr)
  (h:A1 (kindOf (sq p m.fr))++(fo++ro)++S9 p m++(A7 m.to++F7 m.to)=body p x):x=m:=by
 obtain ⟨f0,f1,t0,t1,_⟩:=L4 hI hm;obtain ⟨g0,g1,s0,s1,_⟩:=L4 hI hx;obtain ⟨c,ec,l1,_,_,l4⟩:=b38 k1 k5;obtain ⟨d,r,ed,hd⟩:=c32 hI hx;have hcd:c=d:=by rw [ed,ec] at h;exact (List.cons.inj h).1
 subst hcd;rcases hd with ⟨e,_⟩ | ⟨e,_⟩ | ⟨_,_,hcx,hk6⟩
 ·exact absurd e l4
 ·exact (c3H l1 e).elim
 rcases c2m hI hx with ⟨k,hk,hh⟩ | ⟨_,_,hk⟩ | ⟨_,hq,q1,q5,q0⟩
 ·omega
 ·exact absurd hk hk6
 rw [b7S hcx hk6 g0 g1 s0 s1] at h;obtain ⟨h2,h3⟩:=List.append_inj' h (by simp [A7,F7])
 obtain ⟨h4,h5⟩:=List.append_inj h3 (by simp [A7])
 have hto:x.to=m.to:=by
  have e1:=c0n h4;have e2:=c3g t0 t1 s0 s1 h5;omega
 have htk:S9 p m=S9 p x:=by
  unfold S9;rw [show takes p m=takes p x by unfold takes;rw [decide_eq_false (show ¬ kindOf (sq p m.fr)=6 by omega),decide_eq_false hk6,hto];rfl]
 rw [htk] at h2;have h2:=List.append_cancel_right h2;obtain ⟨e,ee,_⟩:=b38 q1 q5;obtain ⟨h6,h7⟩:=List.append_inj h2 (by rw [ec,ee];rfl)
 have hkk:=c3i k1 k5 q1 q5 h6;refine Classical.byContradiction fun hne=>?_;have hfr:m.fr≠x.fr:=fun e=>hne (Mv.ext' e.symm hto (by rw [h0,q0]))
 have o1:=(a2R hI hp.there hp.own).2.2;have o2:=(a2R hI hq.there hq.own).2.2;exact c4T (c3j.2 ⟨hm,hto.symm,hfr,zo⟩) g0 g1 f0 f1 hf hr h7.symm
theorem c3I {p:A3} (hI:B7 p) {m x:Mv} (hm:H8 p m) (hx:H8 p x) (km:kindOf (sq p m.fr)=6) (kx:kindOf (sq p x.fr)=6) (ht:takes p x=takes p m) (hf:takes p m=true→x.fr%8=m.fr%8) (hto:x.to=m.to) (hpr:x.promo=m.promo):x=m:=by
 have hT:=hI.turn;obtain ⟨_,_,o1⟩:=a2R hI hm.there hm.own;obtain ⟨_,_,o2⟩:=a2R hI hx.there hx.own;have f0:=hm.f0;have f1:=hm.f1;have g0:=hx.f0;have g1:=hx.f1;have t0:=hm.t0;have t1:=hm.t1;have c1:=S7 hI hm.f0 hm.f1 hm.there hm.own hm.goal;have c2:=S7 hI hx.f0 hx.f1 hx.there hx.own hx.goal;rw [hto] at c2;have tm:∀ y:Mv,kindOf (sq p y.fr)=6→takes p y=(!decide (sq p y.to=0) || !decide (l9 y.fr=l9 y.to)):=fun y hy=>by unfold takes;rw [decide_eq_true hy,Bool.true_and]
 have u1:=tm m km;have u2:=tm x kx;rw [hto] at u2;have hu:up p.turn=1∨up p.turn=-1:=by unfold up;omega
 refine Mv.ext' ?_ hto hpr;rcases c1 with ⟨e,_⟩ | ⟨_,z1,fl1,rk1⟩ | ⟨_,fl1,rk1,_,_⟩
 ·exact absurd km e
 ·have tk:takes p m=false:=by rw [u1,decide_eq_true z1,decide_eq_true fl1.symm];rfl
  rcases c2 with ⟨e,_⟩ | ⟨_,_,fl2,rk2⟩ | ⟨_,fl2,rk2,_,_⟩
  ·exact absurd kx e
  ·unfold l9 g8 at *;rcases rk1 with rk1 | ⟨rk1,rr1,z3⟩<;>rcases rk2 with rk2 | ⟨rk2,rr2,z4⟩
   ·omega
   ·exfalso;rw [a5N zo zo zo zo] at z4;have:8*(x.fr/8+up p.turn)+x.fr%8=m.fr:=by omega
    rw [this] at z4;rw [z4] at km;exact absurd km zd
   ·exfalso;rw [a5N zo zo zo zo] at z3;have:8*(m.fr/8+up p.turn)+m.fr%8=x.fr:=by omega
    rw [this] at z3;rw [z3] at kx;exact absurd kx zd
   ·omega
  ·exfalso;rw [tk,u2,decide_eq_false (show ¬ l9 x.fr=l9 m.to by omega)] at ht
   simp at ht
 ·have tk:takes p m=true:=by rw [u1,decide_eq_false (show ¬ l9 m.fr=l9 m.to by omega)];simp
  have e:=hf tk;rcases c2 with ⟨e,_⟩ | ⟨_,z2,fl2,rk2⟩ | ⟨_,fl2,rk2,_,_⟩
  ·exact absurd kx e
  ·exfalso;rw [tk,u2,decide_eq_true z2,decide_eq_true fl2.symm] at ht;simp at ht
  ·unfold g8 at *;omega
theorem b5x {p:A3} (hI:B7 p) {m x:Mv} (hm:m∈y8 p) (hx:x∈y8 p) (hp:H8 p m) (hk:kindOf (sq p m.fr)=6) {z:Tx}
  (hz:z=(if takes p m then A7 m.fr++[120] else [])++(A7 m.to++F7 m.to)++Z9 m∨z=A7 m.fr++F7 m.fr++S9 p m++(A7 m.to++F7 m.to)++Z9 m∨z=S9 p m++(A7 m.to++F7 m.to)++Z9 m) (h:z=body p x):x=m:=by
 obtain ⟨f0,f1,t0,t1,hpm⟩:=L4 hI hm;obtain ⟨g0,g1,s0,s1,hpx⟩:=L4 hI hx;obtain ⟨c1,e1,F1⟩:=b5u m.fr;obtain ⟨c2,e2,F2⟩:=c19 f0 f1;obtain ⟨c3,e3,F3⟩:=b5u m.to;obtain ⟨c4,e4,F4⟩:=c19 t0 t1;obtain ⟨d1,E1,G1⟩:=b5u x.fr;obtain ⟨d3,E3,G3⟩:=b5u x.to;obtain ⟨d4,E4,G4⟩:=c19 s0 s1;have hh:∃ c r,z=c::r∧(b3J c∨c=120):=by
  rw [e1,e2,e3,e4] at hz;rcases hz with rfl | rfl | rfl
  ·split
   ·exact ⟨_,_,rfl,.inl F1⟩
   ·exact ⟨_,_,rfl,.inl F3⟩
  ·exact ⟨_,_,rfl,.inl F1⟩
  ·rcases c4m p m with e | e<;>rw [e]
   ·exact ⟨_,_,rfl,.inl F3⟩
   ·exact ⟨_,_,rfl,.inr rfl⟩
 obtain ⟨c,r,ez,hc⟩:=hh;obtain ⟨d,r',ed,hd⟩:=c32 hI hx;have hcd:c=d:=by rw [ez,ed] at h;exact (List.cons.inj h).1
 subst hcd;have h79:c≠79:=by
  rcases hc with hc | rfl
  ·intro e;subst e;exact absurd hc.f zd
  ·decide
 have hlt:a1C a23 c≠true:=by
  rcases hc with hc | rfl
  ·intro e;exact c3H e hc
  ·decide
 rcases hd with ⟨e,_⟩ | ⟨hfc,hcx,hkx⟩ | ⟨e,_⟩
 ·exact absurd e h79
 rotate_left
 ·exact absurd e hlt
 have hq:H8 p x:=by
  rcases c2m hI hx with ⟨k,hk,hh⟩ | ⟨_,hq,_⟩ | ⟨_,hq,_⟩
  ·omega
  ·exact hq
  ·exact hq
 have hpi:=fun (e:Z9 x=Z9 m)=>c43 (a:=x) (b:=m) (hpx.imp id fun q=>⟨q.1,q.2.1⟩) (hpm.imp id fun q=>⟨q.1,q.2.1⟩) e;have hti:d3=c3→d4=c4→x.to=m.to:=fun a b=>by
  have q1:=c0n (a:=x.to) (b:=m.to) (by rw [E3,e3,a])
  have q2:=c3g s0 s1 t0 t1 (by rw [E4,e4,b])
  omega
 have hfi:d1=c1→x.fr%8=m.fr%8:=fun a=>c0n (by rw [E1,e1,a])
 rw [c1h hcx hkx s0 s1,E1,E3,E4] at h;rw [e1,e2,e3,e4] at hz;have hpn:∀ y:Mv,y.promo=0∨2≤y.promo∧y.promo≤5∧kindOf (sq p y.fr)=6→Z9 y=[]∨∃ c,Z9 y=[61,c]:=fun y hy=>by
  unfold Z9;rcases hy with e | ⟨e1,e2,_⟩
  ·exact .inl (if_pos e)
  ·right;obtain ⟨c,ec,_⟩:=b38 (k:=y.promo) zo e2;rw [if_neg zo,ec];exact ⟨_,rfl⟩
 have main:(if takes p m then [c1]++[120] else [])++([c3]++[c4])++Z9 m=(if takes p x then [d1]++[120] else [])++([d3]++[d4])++Z9 x→x=m:=by
  intro h;by_cases tm:takes p m=true<;>by_cases tx:takes p x=true
  ·rw [if_pos tm,if_pos tx] at h;simp only [List.cons_append,List.nil_append,List.cons.injEq,true_and] at h;exact c3I hI hp hq hk hkx (tx.trans tm.symm) (fun _=>hfi h.1.symm) (hti h.2.1.symm h.2.2.1.symm) (hpi h.2.2.2.symm)
  ·rw [if_pos tm,if_neg tx] at h;simp only [List.cons_append,List.nil_append,List.cons.injEq] at h;exact absurd h.2.1.symm G4.nx
  ·rw [if_neg tm,if_pos tx] at h;simp only [List.cons_append,List.nil_append,List.cons.injEq] at h;exact absurd h.2.1 F4.nx
  ·rw [if_neg tm,if_neg tx] at h;simp only [List.cons_append,List.nil_append,List.cons.injEq] at h;exact c3I hI hp hq hk hkx (by rw [Bool.not_eq_true] at tm tx;rw [tm,tx]) (fun e=>absurd e tm) (hti h.1.symm h.2.1.symm) (hpi h.2.2.symm)
 rcases hz with hz | hz | hz
 ·exact main (hz.symm.trans h)
 ·exfalso;rw [hz] at h;by_cases tx:takes p x=true
  ·rw [if_pos tx] at h;simp only [List.cons_append,List.nil_append,List.cons.injEq] at h;exact F2.nx h.2.1
  ·rw [if_neg tx] at h;simp only [List.cons_append,List.nil_append,List.cons.injEq] at h;have h3:=h.2.2;rcases hpn x hpx with e | ⟨c,e⟩<;>rw [e] at h3<;>rcases c4m p m with g | g<;>rw [g] at h3
   ·cases h3
   ·cases h3
   ·exact F3.ne (List.cons.inj h3).1
   ·exact absurd (List.cons.inj h3).1 zd
 ·rw [hz] at h;by_cases tm:takes p m=true
  ·exfalso;rw [show S9 p m=[120] by unfold S9;rw [if_pos tm]] at h
   by_cases tx:takes p x=true
   ·rw [if_pos tx] at h;exact G1.nx (List.cons.inj h).1.symm
   ·rw [if_neg tx] at h;exact G3.nx (List.cons.inj h).1.symm
  ·apply main;rw [show S9 p m=[] by unfold S9;rw [if_neg tm]] at h
   rw [if_neg tm];exact h
theorem c3Z {p:A3} (hI:B7 p) {m x:Mv} (hm:m∈y8 p) (hx:x∈y8 p) {k:Int} (hk:k=1∨k=2) (h:castleKind p m=k) (h2:castleKind p x=k):x=m:=by
 have get:∀ y∈y8 p,castleKind p y=k→y=⟨4+56*p.turn,4+56*p.turn+(if k=1 then 2 else -2),0⟩:=by
  intro y hy hyk;rcases (P6 hI y).1 hy with ⟨hp,_⟩ | ⟨r,hr,_⟩
  ·have:=(O7 hI hp).2;omega
  ·obtain ⟨r4,rt,rb,hc⟩:=I5 hI hr;have hmv:=hc.mv;have hK:=hc.k;have hw:(if A0 (r:Int)<homeK r then (-1:Int) else 1)=1∨(if A0 (r:Int)<homeK r then (-1:Int) else 1)=-1:=by split<;>simp
   generalize (if A0 (r:Int)<homeK r then (-1:Int) else 1)=w at *
   have hking:=hc.king;unfold castleKind at hyk;rw [hmv] at hyk ⊢;simp only [hking,Y6 hI] at hyk;rw [← hK];rcases hw with rfl | rfl
   ·rw [if_neg zd,if_pos zo] at hyk;subst hyk;rfl
   ·rw [if_neg zd,if_neg zo,if_pos zo] at hyk;subst hyk;rfl
 rw [get m hm h,get x hx h2]
theorem c3J {p:A3} (hI:B7 p) {m x:Mv} (hm:m∈y8 p) (hx:x∈y8 p) {k:Int} (hk:k=1∨k=2) (h:castleKind p m=k) (hb:(if k=1 then ooS else oooS)=body p x):x=m:=by
 obtain ⟨c,r,ec,hc⟩:=c32 hI hx;have h79:c=79:=by
  rw [ec] at hb;rcases hk with rfl | rfl<;>exact (List.cons.inj hb).1.symm
 subst h79;rcases hc with ⟨_,hcx⟩ | ⟨e,_⟩ | ⟨_,e,_⟩
 ·rcases c2m hI hx with ⟨k',hk',hh⟩ | ⟨hh,_⟩ | ⟨hh,_⟩
  ·rw [c2z hk' hh] at hb;have:k'=k:=by
    rcases hk with rfl | rfl<;>rcases hk' with rfl | rfl<;>first | rfl | exact absurd hb zd
   subst this;exact c3Z hI hm hx hk' h hh
  ·exact absurd hh hcx
  ·exact absurd hh hcx
 ·exact absurd e.f zd
 ·exact absurd rfl e
inductive b7x (p:A3) (m:Mv):p7→Prop
 | own:b7x p m (a4r p m)
 | pawn (h:castleKind p m=0) (hk:kindOf (sq p m.fr)=6):b7x p m (b1Z p m (A7 m.fr) (F7 m.fr))
 | piece (h:castleKind p m=0) (hk:kindOf (sq p m.fr)≠6) (fo ro:Tx) (hf:fo=[]∨fo=A7 m.fr) (hr:ro=[]∨ro=F7 m.fr) (ha:apart p m=[]∨apart p m=ro∨apart p m=fo∨apart p m=fo++ro):b7x p m (a6v p m fo ro)
theorem c4U (o:Tx):a9R (b9D o)=[]:=rfl
theorem c3k {p:A3} (hI:B7 p) {m x:Mv} (hm:m∈y8 p) (hx:x∈y8 p) {q:p7} (hq:b7x p m q):fits q (body p x)↔x=m:=by
 obtain ⟨f0,f1,t0,t1,hpm⟩:=L4 hI hm;have pieceL:∀ fo ro:Tx,castleKind p m=0→H8 p m→1≤kindOf (sq p m.fr)→kindOf (sq p m.fr)≤5→m.promo=0→(fo=[]∨fo=A7 m.fr)→(ro=[]∨ro=F7 m.fr)→fits (a6v p m fo ro) (body p x)→x=m:=by
  intro fo ro hc hp k1 k5 h0 hf hr h;have one:=fun {a b:Tx} ha hb e=>c44 hI hm hx hc hp k1 k5 h0 (fo:=a) (ro:=b) ha hb e;obtain ⟨c,ec,_⟩:=b38 k1 k5;have hne:A1 (kindOf (sq p m.fr))≠[]:=by rw [ec];simp
  unfold fits a9R at h;rw [if_pos (show (a6v p m fo ro).pc≠[] from hne)] at h;unfold a5d a6v at h;simp only [List.append_nil,List.mem_cons,List.not_mem_nil,or_false] at h;rcases h with h | h | h | h
  ·exact one hf hr (by rw [← h];simp)
  ·exact one (a:=[]) (b:=[]) (.inl rfl) (.inl rfl) (by rw [h];simp)
  ·exact one (a:=[]) (b:=ro) (.inl rfl) hr (by rw [h];simp)
  ·exact one (a:=fo) (b:=[]) hf (.inl rfl) (by rw [h];simp)
 have plain_of:castleKind p m=0→H8 p m:=fun h=>by
  rcases c2m hI hm with ⟨k,hk,hh⟩ | ⟨_,hq,_⟩ | ⟨_,hq,_⟩
  ·omega
  ·exact hq
  ·exact hq
 cases hq with
 | own =>
  constructor
  ·intro h;rcases c2m hI hm with ⟨k,hk,hc⟩ | ⟨hc,hp,hk⟩ | ⟨hc,hp,k1,k5,h0⟩
   ·have e:a4r p m=b9D (if k=1 then ooS else oooS):=by unfold a4r;rw [hc];rcases hk with rfl | rfl<;>rfl
    rw [e] at h;unfold fits at h;rw [c4U] at h;rcases h with h | h
    ·exact c3J hI hm hx hk hc (by rw [← h];unfold a5d b9D;simp)
    ·cases h
   ·have e:a4r p m=b1Z p m (if takes p m then A7 m.fr else []) []:=by unfold a4r;rw [hc,if_neg zd,if_neg zd,if_pos hk]
    rw [e] at h;have he:¬ (b1Z p m (if takes p m then A7 m.fr else []) []).pc≠[]:=fun e=>e rfl
    unfold fits a9R at h;rw [if_neg he] at h;clear he e;unfold a5d b1Z S9 at h;refine b5x hI hm hx hp hk (z:=body p x) (.inl ?_) rfl;cases tm:takes p m
    ·rw [tm] at h;simp at h;rw [← h];simp
    ·rw [tm] at h;simp at h;rcases h with h | h
     ·rw [← h];simp
     ·rw [h];simp
   ·have e:a4r p m=a6v p m (apF p m) (apR p m):=by unfold a4r;rw [hc,if_neg zd,if_neg zd,if_neg zo]
    rw [e] at h;exact pieceL _ _ hc hp k1 k5 h0 (c5K p m) (c5L p m) h
  ·rintro rfl;exact .inl (b5v hI hm)
 | pawn hc hk =>
  have hp:=plain_of hc;unfold fits a9R;rw [if_neg (fun e=>e rfl)];have n1:A7 m.fr≠[]:=by simp [A7]
  have n2:F7 m.fr≠[]:=by simp [F7]
  constructor
  ·intro h;unfold a5d b1Z at h;rw [if_pos (show A7 m.fr≠[]∧F7 m.fr≠[] from ⟨n1,n2⟩)] at h;simp only [List.append_nil,List.nil_append,List.mem_append,List.mem_singleton] at h;rcases h with h | h | h
   ·exact b5x hI hm hx hp hk (z:=body p x) (.inr (.inl (by rw [← h];simp))) rfl
   ·by_cases tm:takes p m=true
    ·have e:S9 p m=[120]:=by unfold S9;rw [if_pos tm]
     rw [e,if_pos (by simp)] at h
     refine b5x hI hm hx hp hk (z:=body p x) (.inl ?_) rfl;rw [if_pos tm,List.mem_singleton.1 h];simp
    ·have e:S9 p m=[]:=by unfold S9;rw [if_neg tm]
     simp [e] at h
   ·exact b5x hI hm hx hp hk (z:=body p x) (.inr (.inr (by rw [h];simp))) rfl
  ·rintro rfl;right;rw [c1h hc hk t0 t1];unfold b1Z S9;cases tm:takes p x
   ·simp [n1,n2]
   ·simp [n1]
 | piece hc hk fo ro hf hr ha =>
  have hp:=plain_of hc;obtain ⟨k1,k6,_⟩:=a2R hI hp.there hp.own;have h0:m.promo=0:=by
   rcases hpm with e | ⟨_,_,e⟩
   ·exact e
   ·exact absurd e hk
  refine ⟨pieceL _ _ hc hp k1 zo h0 hf hr,?_⟩;rintro rfl;obtain ⟨c,ec,_⟩:=b38 k1 zo;have hne:A1 (kindOf (sq p x.fr))≠[]:=by rw [ec];simp
  rw [b7S hc hk f0 f1 t0 t1,← c3h f0 f1];unfold fits a9R;rw [if_pos (show (a6v p x fo ro).pc≠[] from hne)];unfold a5d a6v;rcases ha with e | e | e | e<;>rw [e]<;>simp
def c20 (q:p7) (t:Tx):Bool:=decide (fits q t)
theorem b3h {q:p7} {t:Tx}:c20 q t=true↔fits q t:=decide_eq_true_iff
def c45 (p:A3) (q:p7):Option PM:=(N0 p).find? fun x=>c20 q (body p x.mv)
theorem c4a {p:A3} (hI:B7 p) {m:Mv} (hm:m∈y8 p) {q:p7} (hq:b7x p m q):∃ x∈N0 p,c45 p q=some x∧x.mv=m:=by
 obtain ⟨h1,h2⟩:=a0I hI;obtain ⟨y,hy,ey⟩:=h2 m hm;unfold c45;cases e:(N0 p).find? fun x=>c20 q (body p x.mv) with
 | none =>
  have:=List.find?_eq_none.1 e y hy;rw [ey] at this;exact absurd (b3h.2 ((c3k hI hm hm hq).2 rfl)) this
 | some x =>
  have hx:=List.mem_of_find?_eq_some e;have hd:=List.find?_some e;exact ⟨x,hx,rfl,(c3k hI hm (h1 x hx).1 hq).1 (b3h.1 hd)⟩
end Ch
end
section
open Go Go.RowKit
open E
open Ch Bb
theorem c4V {s:Tx} {i:Nat} (h:i<s.length) (set:Tx):inS s i set=a1C set s[i]:=by
 unfold inS;rw [List.getElem?_eq_getElem h]
theorem c4r {s:Tx} {i:Nat} (h:s.length≤i) (set:Tx):inS s i set=false:=by
 unfold inS;rw [List.getElem?_eq_none h]
theorem a6H {s set:Tx} {i:Nat} (h:inS s i set=true):oneN s i set=1:=by unfold oneN;rw [if_pos h]
theorem c1i {s set:Tx} {i:Nat} (h:inS s i set=false):oneN s i set=0:=by unfold oneN;rw [h];rfl
theorem c5M {a b:UInt8} (h:¬ ((a.toNat:Nat):Int)=(b.toNat:Nat)):a≠b:=fun e=>h (by rw [e])
theorem c5N {a b:UInt8} (h:((a.toNat:Nat):Int)=(b.toNat:Nat)):a=b:=UInt8.toNat_inj.1 zo
theorem c6l {s set:Tx} {i b t:Nat} {fz:Nat×Nat} (hi:i≤100000) (hs:s.length≤100000) (hset:set.length≤1000) (w:World) (hb:w.heap[b]?=some (.cells #[s8 s] t fz)) :
  Calls G.P 347 #[.int .i64 i,s8 set,.pointer (some ⟨b,0,none⟩)] w (K4 (.int .i64 (oneN s i set:Nat)) w):=by
 have hsz:(tx s).size=s.length:=C9 _;have hset2:(tx set).size=set.length:=C9 _;refine zN Tryz.func347 ?_;refine zR ?_;refine d6 _ (W1 hb rfl rfl) (zR ?_);rw [hsz];apply E.b7<;>intro h
 ·have hlt:i<s.length:=by omega
  have hx:=b6Z hlt;clear h;refine zR ?_;refine A9 (σ:=Nat) [5,6] 7 (fun j=>[(6,.int .i64 j)]) (fun j w'=>j≤set.length∧(∀ k,k<j→set[k]?≠some s[i])∧Cl w w') (fun j=>set.length-j) zk 0 ⟨zo,fun k hk=>by omega,Cl.refl w⟩ ⟨rfl,trivial⟩ ?_
  rintro j jj w2 ⟨hj,hno,c2⟩;have nj:=C2 (i:=j) zo;refine zR ?_;rw [hset2];apply E.b7<;>intro h
  ·have hj2:j<set.length:=by omega
   have hy:=b6Z hj2;clear h;refine zR ?_;refine zK 7 ?_;refine zR ?_;refine g9 _ (fun w' hw=>W1 ((c2.trans hw).blk hb) rfl rfl) ?_;refine E.y6 (W4.2 ⟨zo,by rw [hsz];omega⟩) (zR ?_)
   refine E.y6 (W4.2 ⟨zo,by rw [hset2];omega⟩) (zR ?_)
   intro w3 c3;rw [hx,hy];refine zR ?_;apply E.b7<;>intro h
   ·have e:=c5N h;refine zR ?_;refine ⟨C3 ?_,c2.trans c3⟩;rw [a6H];rfl;rw [c4V hlt,e];exact b5s.2 (List.getElem_mem hj2)
   ·have e:=c5M h;refine zR ?_;refine ⟨j+1,⟨m7 nj,trivial⟩,⟨zo,fun k hk=>?_,c2.trans c3⟩,zo⟩;by_cases e2:k<j
    ·exact hno k e2
    ·have:k=j:=by omega
     subst this;rw [List.getElem?_eq_getElem hj2];intro e3;injection e3 with e3;exact e e3.symm
  ·refine zR ?_;refine ⟨C3 ?_,c2⟩;rw [c1i];rfl;rw [c4V hlt];rw [Bool.eq_false_iff];intro hc;obtain ⟨k,hk⟩:=List.mem_iff_getElem?.1 (b5s.1 hc);exact hno k (by have:=(List.getElem?_eq_some_iff.1 hk).1;omega) hk
 ·refine zR ?_;exact ⟨C3 (by rw [c1i (c4r zo _)];rfl),Cl.refl _⟩
theorem b5z (c:UInt8) (r:Tx):a1K (c::r)=if a1C c3v c then a1K r else if (c::r).take 4=epS then a1K (r.drop 3) else false:=by rw [a1K]
theorem c5O {c:UInt8}:a1C c3v c=true↔c=43∨c=35∨c=33∨c=63:=by rw [b5s];simp [c3v]
theorem c3l {s:Tx} {i:Nat} (hi:i≤s.length) (hs:s.length≤100000) (w:World):Calls G.P 348 #[s8 s,.int .i64 i] w (D5 (.bool (a1K (s.drop i))) w):=by
 have hsz:(tx s).size=s.length:=C9 _;refine zN Tryz.func348 ?_;refine zR ?_;refine A9 (σ:=Nat) [1,4] 5 (fun j=>[(1,.int .i64 j)]) (fun j w'=>j≤s.length∧a1K (s.drop j)=a1K (s.drop i)∧w'=w) (fun j=>s.length-j) zk i ⟨hi,rfl,rfl⟩ ⟨rfl,trivial⟩ ?_;rintro j jj w2 ⟨hj,ht,rfl⟩;have nj:=C2 (i:=j) zo;refine zR ?_;rw [hsz];apply E.b7<;>intro h
 ·have hlt:j<s.length:=by omega
  have hx:=b6Z hlt;clear h;have hd:s.drop j=s[j]::s.drop (j+1):=List.drop_eq_getElem_cons hlt;rw [hd,b5z] at ht;have n4:IntKind.i64.wrap ((j:Int)+4)=((j+4:Nat):Int):=by rw [g7 zo zo];push_cast;omega
  have yes:(s[j]=43∨s[j]=35∨s[j]=33∨s[j]=63)→a1K (s.drop (j+1))=a1K (s.drop i):=fun h=>by rw [← ht,if_pos (c5O.2 h)]
  refine zR ?_;refine E.y6 (W4.2 ⟨zo,by rw [hsz];omega⟩) ?_
  have lit:∀ n:UInt8,(((tx s).get! (j:Int).toNat).toNat:Int)=(n.toNat:Nat)→s[j]=n:=fun n h=>by rw [hx] at h;exact c5N h
  have nlit:∀ n:UInt8,¬ (((tx s).get! (j:Int).toNat).toNat:Int)=(n.toNat:Nat)→s[j]≠n:=fun n h=>by rw [hx] at h;exact c5M h
  have gd:inB (j:Int) (tx s).size=true:=W4.2 ⟨zo,by rw [hsz];omega⟩
  refine zR ?_;apply E.b7<;>intro h
  ·have h1:=lit 43 h;refine zR ?_;exact ⟨j+1,⟨m7 nj,trivial⟩,⟨zo,yes (.inl h1),rfl⟩,zo⟩
  have h1:=nlit 43 h;clear h;refine zR ?_;refine E.y6 gd (zR ?_);apply E.b7<;>intro h
  ·have h2:=lit 35 h;refine zR ?_;exact ⟨j+1,⟨m7 nj,trivial⟩,⟨zo,yes (.inr (.inl h2)),rfl⟩,zo⟩
  have h2:=nlit 35 h;clear h;refine zR ?_;refine E.y6 gd (zR ?_);apply E.b7<;>intro h
  ·have h3:=lit 33 h;refine zR ?_;exact ⟨j+1,⟨m7 nj,trivial⟩,⟨zo,yes (.inr (.inr (.inl h3))),rfl⟩,zo⟩
  have h3:=nlit 33 h;clear h;refine zR ?_;refine E.y6 gd (zR ?_);apply E.b7<;>intro h
  ·have h4:=lit 63 h;refine zR ?_;exact ⟨j+1,⟨m7 nj,trivial⟩,⟨zo,yes (.inr (.inr (.inr h4))),rfl⟩,zo⟩
  have h4:=nlit 63 h;clear h;rw [if_neg (fun e=>by rcases c5O.1 e with e | e | e | e<;>contradiction)] at ht
  refine zR ?_;rw [hsz,n4];apply E.b7<;>intro h
  ·have h5:j+4≤s.length:=by omega
   clear h;refine zR ?_;rw [n4];refine a0J ((s.drop j).take 4) rfl rfl rfl rfl zo zo zo ?_ ?_
   ·rw [show ((j+4:Nat):Int).toNat-(j:Int).toNat=4 by omega,Int.toNat_natCast]
   refine zR ?_;apply E.b7<;>intro h
   ·have e:(s.drop j).take 4=epS:=a0p.1 h;rw [← hd,if_pos e] at ht;refine zR ?_;exact ⟨j+4,⟨m7 n4,trivial⟩,⟨h5,by rw [← ht,List.drop_drop],rfl⟩,zo⟩
   ·have e:¬ (s.drop j).take 4=epS:=fun e=>h (by rw [e];rfl)
    rw [← hd,if_neg e] at ht;refine zR ?_;exact ⟨m8 ht,rfl⟩
  ·have e:¬ (s.drop j).take 4=epS:=fun e=>by
    have:=congrArg List.length e;rw [List.length_take,List.length_drop] at this;have e2:epS.length=4:=rfl;omega
   rw [← hd,if_neg e] at ht;refine zR ?_;exact ⟨m8 ht,rfl⟩
 ·have e:j=s.length:=by omega
  rw [e,List.drop_length,b1F] at ht;refine zR ?_;exact ⟨m8 ht,rfl⟩
set_option maxHeartbeats 1000000 in
theorem b5d (s0:Tx) (hs:s0.length≤1000) (w:World):Calls G.P 190 #[s8 s0,s8 [32]] w (fun r w'=>∃ v,r = .returned v∧Row 9 1 a4E w.heap.size w' v (a1M 32 [] s0)∧Cl w w'):=by
 have h1:(tx [32]).size=1:=C9 _;refine zN Tryz.func190 ?_;refine zR ?_;refine A9 (σ:=List Tx×Value×Tx) [0,4,5,8] 9 (fun s=>[(0,s8 s.2.2),(5,s.2.1)]) (fun s w'=>Cl w w'∧Row 9 1 a4E w.heap.size w' s.2.1 s.1∧s.1++a1M 32 [] s.2.2=a1M 32 [] s0∧s.1.length+s.2.2.length≤1000) (fun s=>s.2.2.length) zk
  ([],.slice none 0 0,s0) ⟨Cl.refl _,Row.nil _ _,rfl,by simpa using hs⟩ ⟨rfl,rfl,trivial⟩ ?_
 rintro ⟨l,v,s⟩ j w1 ⟨c1,hr,he,hl⟩;simp only at c1 hr he hl ⊢;obtain ⟨a,c,rfl,_⟩:=hr.form;refine zR ?_;refine d9 (a56 32 s zo _) (zR ?_);by_cases hm:(32:UInt8)∈s
 ·have hix:ixZ 32 s=(s.idxOf 32:Int):=if_pos hm;obtain ⟨e1,e2,e3⟩:=a5A hm;rw [b8U hm] at he;rw [hix];refine zR ?_;refine b0P (l:=s) (s.take (s.idxOf 32)) rfl rfl rfl zo zo (by rw [Int.toNat_natCast]) (zR ?_)
  refine E6 elStr [s8 (s.take (s.idxOf 32))] (by rw [Array.toList_map];rfl) (by simp [Value.cells,s8]) rfl zd zd ?_
  have cb:=Cl.alloc w1 (.cells (([s8 (s.take (s.idxOf 32))]:List Value).flatMap fun v=>v.cells.toList).toArray 9);have hbx:Row 9 1 a4E w1.heap.size (w1.alloc (.cells (([s8 (s.take (s.idxOf 32))]:List Value).flatMap fun v=>v.cells.toList).toArray 9)) (.slice (some ⟨w1.heap.size,0,none⟩) 1 1) [s.take (s.idxOf 32)]:=H9 B5 w1 [s.take (s.idxOf 32)] (Nat.le_of_ble_eq_true rfl) _ rfl;generalize w1.alloc (.cells (([s8 (s.take (s.idxOf 32))]:List Value).flatMap fun v=>v.cells.toList).toArray 9)=w2 at *;refine zR ?_;refine J2 elStr (l:=l) (news:=[s.take (s.idxOf 32)]) rfl (hr.step cb) rfl hbx B5 a8S (by simp only [List.length_cons,List.length_nil];omega) zd (c1.trans cb).size fun v' w3 hr' hg=>?_
  have c3:Cl w w3:=hg.toCl rfl (c1.trans cb);obtain ⟨a9,c9,rfl,_⟩:=hr'.form;refine zR ?_;rw [h1];have en:IntKind.i64.wrap ((s.idxOf 32:Int)+((1:Nat):Int))=((s.idxOf 32+1:Nat):Int):=by rw [g7 zo zo];push_cast;rfl
  rw [en];refine a79 (l:=s) (s.drop (s.idxOf 32+1)) rfl rfl rfl zo zo (by rw [Int.toNat_natCast]) (zR ?_)
  exact ⟨(l++[s.take (s.idxOf 32)],_,s.drop (s.idxOf 32+1)),⟨rfl,rfl,trivial⟩,⟨c3,hr',by simpa using he,by simp;omega⟩,by simp;omega⟩
 ·have hix:ixZ 32 s=-1:=if_neg hm;rw [a35 hm,List.nil_append] at he;rw [hix];refine zR ?_;refine E6 elStr [s8 s] (by rw [Array.toList_map];rfl) (by simp [Value.cells,s8]) rfl zd zd ?_
  have cb:=Cl.alloc w1 (.cells (([s8 s]:List Value).flatMap fun v=>v.cells.toList).toArray 9);have hbx:Row 9 1 a4E w1.heap.size (w1.alloc (.cells (([s8 s]:List Value).flatMap fun v=>v.cells.toList).toArray 9)) (.slice (some ⟨w1.heap.size,0,none⟩) 1 1) [s]:=H9 B5 w1 [s] (Nat.le_of_ble_eq_true rfl) _ rfl;generalize w1.alloc (.cells (([s8 s]:List Value).flatMap fun v=>v.cells.toList).toArray 9)=w2 at *;refine zR ?_;refine J2 elStr (l:=l) (news:=[s]) rfl (hr.step cb) rfl hbx B5 a8S (by simp only [List.length_cons,List.length_nil];omega) zd (c1.trans cb).size fun v' w3 hr' hg=>?_
  have c3:Cl w w3:=hg.toCl rfl (c1.trans cb);obtain ⟨a9,c9,rfl,_⟩:=hr'.form;refine zR ?_;exact ⟨_,rfl,by rw [← he];exact hr',c3⟩
theorem a5a {p:A3} (hh:p.half.toNat<10000000) (hf:p.full.toNat<10000000):(fenT p).length≤1000:=by
 have h1:=Y0 p 8;have h2:=a3s p.turn;have h3:=a0Y p.castle;have h4:=a68 p.ep;have h5:=a2t 7 p.half.toNat zd zo;have h6:=a2t 7 p.full.toNat zd zo;unfold fenT;simp only [List.length_append,List.length_cons,List.length_nil];omega
set_option maxHeartbeats 1000000 in
theorem b1u {p:A3} (hI:B7 p) (hh:p.half<10000000) (hf:p.full<10000000) (w:World) (hT:C1 w) (hS:Spc w) :
  Calls G.P 134 #[s8 (fenT p)] w (fun r w'=>Cl w w'∧∃ P b,r = .returned (.tuple #[.pointer (some ⟨P,0,none⟩),.nilIface])∧w.heap.size≤P∧w.heap.size≤b
  ∧w'.heap[P]?=some (.cells (hdA b (A8 p false) (.slice none 0 0)) 173 (0,0))∧w'.heap[b]?=some (.cells (mbA (mbOf p)) 237 (0,0))):=by
 have hh0:=hI.h0;have hf1:=hI.f1;have hlen:=a5a (p:=p) zo zo;have hparts:=b4P p;have hep:=c2p hI.pass;have ht:=hI.turn;have hA1:=fun w=>b7g p.half.toNat zo w;have hA2:=fun w=>b7g p.full.toNat zo w;rw [Int.toNat_of_nonneg hh0] at hA1;rw [Int.toNat_of_nonneg (by omega:0≤p.full)] at hA2
 have hTr:=b4Z hI.pc zo w hS;generalize fenT p=T at *;refine zN Tryz.func134 ?_;refine zR ?_;refine m9 hTr fun w1 c1=>zR ?_;refine o8 (b5d T hlen w1) ?_;rintro e w2 ⟨v,rfl,hr,c2⟩;refine ⟨_,rfl,?_⟩;rw [hparts] at hr;obtain ⟨a,c,rfl,ha⟩:=hr.form;obtain ⟨g,rfl⟩:=ha (by simp)
 have c02:=c1.trans c2;have hld:=fun (i:Nat) (hi:i<6) (w':World) (hc:Cl w2 w') {v:Value} (hv:(a4E ([boardT p 8,turnT p.turn,castT p.castle,epT p.ep,dec p.half.toNat,dec p.full.toNat][i]'(by simpa using hi)))[0]?=some v)=>J8 (t:=9) (hr.step hc) B5 i 0 (by simpa using hi) zd hv (show i=i*1+0 by omega) rfl
 have hl0:=fun w' hc=>hld 0 zd w' hc (v:=s8 (boardT p 8)) rfl;have hl1:=fun w' hc=>hld 1 zd w' hc (v:=s8 (turnT p.turn)) rfl;have hl2:=fun w' hc=>hld 2 zd w' hc (v:=s8 (castT p.castle)) rfl;have hl3:=fun w' hc=>hld 3 zd w' hc (v:=s8 (epT p.ep)) rfl;have hl4:=fun w' hc=>hld 4 zd w' hc (v:=s8 (dec p.half.toNat)) rfl;have hl5:=fun w' hc=>hld 5 zd w' hc (v:=s8 (dec p.full.toNat)) rfl;clear hld hr hparts ha;refine zR ?_;refine d6 _ (hl0 _ (Cl.refl _)) (zR ?_);refine o8 (b2I hI w2 (hT.cl c02)) ?_;rintro e w3 ⟨c3,b,rfl,sb,hB⟩;refine ⟨_,rfl,?_⟩;refine zR ?_;refine I1 true (F8 rfl) (zR ?_);refine d6 _ (hl1 _ c3) (zR ?_);refine d9 (b4Q p.turn ht _) (zR ?_);refine E.o7 zo (zR ?_);refine d6 _ (hl2 _ c3) (zR ?_);refine m9 (a9O p.castle hI.c0 hI.c1 w3) fun w4 c4=>?_;have c24:=c3.trans c4;refine zR ?_;refine I1 true (F8 rfl) (zR ?_);refine d6 _ (hl3 _ c24) (zR ?_);refine m9 (b7e p.ep (by rcases hep with h | h;exact .inl h;exact .inr ⟨h.1,h.2.1,zo⟩) _) fun w4 c4'=>?_
 have c24:=c24.trans c4';have c4:=c4.trans c4';refine zR ?_;refine I1 true (F8 rfl) (zR ?_);refine d6 _ (hl4 _ c24) (zR ?_);refine m9 (hA1 w4) fun w5 c5=>?_;have c25:=c24.trans c5;refine zR ?_;refine I1 true (F8 rfl) (zR ?_);refine E.o7 zo (zR ?_);repeat (refine E.o7 (show ¬ p.half<0 by omega) ?_;refine zR ?_)
 refine d6 _ (hl5 _ c25) (zR ?_);refine m9 (hA2 w5) fun w6 c6=>?_;have c26:=c25.trans c6;refine zR ?_;refine I1 true (F8 rfl) (zR ?_);refine E.o7 zo (zR ?_);repeat (refine E.o7 (show ¬ p.full<1 by omega) ?_;refine zR ?_)
 refine s9 (hdA b (A8 p false) (.slice none 0 0)) zk (zR ?_);have cF:=Cl.alloc w6 (.cells (hdA b (A8 p false) (.slice none 0 0)) 173);have s06:=(c02.trans c26).size;exact ⟨(c02.trans c26).trans cF,_,b,rfl,s06,by have:=c02.size;omega,d8 _ _,cF.blk (c6.blk (c5.blk (c4.blk hB)))⟩
end
section
open Go Go.RowKit
open E
theorem a9P {p:A3} (hI:Ch.B7 p) (hN:a1z p):Fen p:=⟨hI.pc,hI.c0,hI.c1,hI.h0,by have:=hN.1;omega,by have:=hI.f1;omega,by have:=hN.2;omega⟩
def a6j (u v:Value):Prop:=∀ g,u.ownBlock=some g→v.ownBlock≠some g
theorem a6j.symm {u v:Value} (h:a6j u v):a6j v u:=fun g h1 h2=>h g h2 h1
theorem a2z (l:List A3) (p:A3) (mo:Int×Tx) (m:Mv) (r:List Mv):Ch.story l p mo (m::r)=if Ch.isLegal p m then
   Ch.stepOf p m (Ch.a0k (l++[Ch.made p m]) (Ch.made p m) mo)::Ch.story (l++[Ch.made p m]) (Ch.made p m) (Ch.a0k (l++[Ch.made p m]) (Ch.made p m) mo) r else []:=rfl
def firstL:List Int:=[3,5,4,2,1,4,5,3]
def c2t (i:Nat):Int:=firstL.getD i 0
def sqS (f i:Nat):Int:=if i%8<f then (if i/8=0 then c2t (i%8) else if i/8=1 then 6 else if i/8=6 then 12 else if i/8=7 then c2t (i%8)+6 else 0) else 0
def b9e (f:Nat):A3:=⟨(List.range 64).map (sqS f),by simp,0,15,-1,0,1⟩
def a22:A3:=b9e 8
theorem c46:∀ f<8,(Ch.put (Ch.put (Ch.put (Ch.put (b9e f) f (c2t f)) (8+f) 6) (48+f) 12) (56+f) (c2t f+6)).board=(b9e (f+1)).board:=by decide
theorem c53 {p q:A3} (h:p.board=q.board) (h1:p.turn=q.turn) (h2:p.castle=q.castle) (h3:p.ep=q.ep) (h4:p.half=q.half) (h5:p.full=q.full):p=q:=by
 cases p;cases q;simp_all
theorem c4b (f:Nat) (h:f<8):Ch.put (Ch.put (Ch.put (Ch.put (b9e f) f (c2t f)) (8+f) 6) (48+f) 12) (56+f) (c2t f+6)=b9e (f+1) :=
 c53 (c46 f h) rfl rfl rfl rfl rfl
theorem c5S:∀ f<8,0≤c2t f∧c2t f≤6:=by decide
def b8r:Array Value:=(firstL.map (Value.int .i64)).toArray
theorem c4s {w:World} {b u:Nat} {fz:Nat×Nat} (hb:w.heap[b]?=some (.cells b8r u fz)) (i:Nat) (h:i<8) {o:Nat} (ho:o=i):l8 G.P w 3 ⟨b,o,none⟩ (.int .i64 (c2t i)):=by
 rw [ho];refine W1 hb ?_ rfl;have:i=0∨i=1∨i=2∨i=3∨i=4∨i=5∨i=6∨i=7:=by omega
 rcases this with rfl | rfl | rfl | rfl | rfl | rfl | rfl | rfl<;>rfl
theorem c64:∃ z,(G.P.info? 111).bind (·.zero)=some z∧z.cells.size=8:=a0H zk
theorem c6m:(G.P.info? 111).map (·.size)=some 8:=by kernel_rfl
theorem c1j (f r:Int) (h0:0≤f) (h1:f≤7) (h2:0≤r) (h3:r≤7):Ch.H2 f r=8*r+f:=by unfold Ch.H2;rw [if_neg zo]
theorem c54 (w:World):Calls G.P 35 #[] w (K4 (C4 a22) w):=by
 obtain ⟨zp,hzp,hz69⟩:=b1P;obtain ⟨zf,hzf,hz8⟩:=c64;refine zN Tryz.func35 ?_;refine zG ?_;refine t7 zp hzp ?_;have hB0:(w.alloc (.cells zp.cells 24)).heap[w.heap.size]?=some (.cells zp.cells 24 (0,0)):=d8 _ _;have c1:Cl w (w.alloc (.cells zp.cells 24)):=Cl.alloc _ _;generalize w.alloc (.cells zp.cells 24)=w1 at *;refine zR ?_;refine s9 (o9 (b9e 0)) zk (zR ?_);refine t7 zp hzp (zR ?_);refine J6 (d8 _ _) (X0 (b9e 0)) rfl a13 (B6 _) (one_pos _) (by rw [hz69];omega) (fun w2 u2=>?_)
 have hQ2:w2.heap[w1.heap.size]?=some (.cells (o9 (b9e 0)) 24 (0,0)):=by
  rw [u2.at_,C5 _ _ (by rw [B6,hz69])];rfl
 have c2:Cl w1 w2:=u2.cl (Cl.alloc _ _) (Nat.le_refl _);clear u2;have hB2:=c2.blk hB0;refine zR ?_;refine s9 b8r zk (zR ?_);refine t7 zf hzf (zR ?_);refine J6 (d8 _ _) (firstL.map (Value.int .i64)) rfl c6m rfl zd (by rw [hz8];decide) (fun w3 u3=>?_)
 have hF3:w3.heap[w2.heap.size]?=some (.cells b8r 111 (0,0)):=by
  rw [u3.at_,C5 _ _ (by rw [hz8];rfl)];rfl
 have c3:Cl w2 w3:=u3.cl (Cl.alloc _ _) (Nat.le_refl _);clear u3;have hQ3:=c3.blk hQ2;have hb1:w.heap.size<w1.heap.size:=(Array.getElem?_eq_some_iff.1 hB0).1;have hb2:w1.heap.size<w2.heap.size:=(Array.getElem?_eq_some_iff.1 hQ2).1;have hB3:=c3.blk hB2;have c13:=c1.trans (c2.trans c3);refine zR ?_;refine A9 (σ:=Nat) [3] 4 (fun a=>[(3,.int .i64 a)]) (fun a w'=>a≤8∧w'.heap[w1.heap.size]?=some (.cells (o9 (b9e a)) 24 (0,0))∧w'.heap[w2.heap.size]?=some (.cells b8r 111 (0,0))∧w'.heap[w.heap.size]?=some (.cells zp.cells 24 (0,0))∧Cl w w') (fun a=>8-a) zk 0
  ⟨zo,hQ3,hF3,hB3,c13⟩ ⟨rfl,trivial⟩ ?_
 clear hQ3 hF3 hB3 c13 hQ2 hB2 hB0;rintro f j w4 ⟨hf,hQ,hF,hB,hcl⟩;refine zR ?_;apply E.b7<;>intro h
 ·have hf8:f<8:=by omega
  clear h;have nf:IntKind.i64.wrap ((f:Int)+1)=((f+1:Nat):Int):=by rw [g7 zo zo];push_cast;omega
  have hfb:=c5S f hf8;have hss:=c4b f hf8;refine zG ?_;refine Nx.mk ?_;refine E.a9f ?_;refine E.b0e ?_;refine (A4 (σ:=Unit) [10,11,12,13,14,15,16,17] 18 (fun _=>[]) (fun _ w'=>w'.heap[w1.heap.size]?=some (.cells (o9 (Ch.put (b9e f) f (c2t f))) 24 (0,0))∧w'.heap[w2.heap.size]?=some (.cells b8r 111 (0,0))∧w'.heap[w.heap.size]?=some (.cells zp.cells 24 (0,0))∧Cl w w') zk ?_ (fun _ j5 w5 h5=>?_)).go
  ·refine zR ?_;refine I8.mk2 [0,2,3,6] (.cons 1 (.cons 4 (.cons 5 (.cons 7 (.cons 8 .done .nil) .nil) .nil) .nil) (.cons 4 (.cons 1 (.cons 5 (.cons 7 (.cons 8 .done .nil) .nil) .nil) .nil) .nil)) zk (zR ?_);refine zC ?_;refine zR ?_;have cd:Cl w4 w4.drew:=Cl.drew (Cl.refl _);refine And.intro ?_ (And.intro ?_ trivial)
   ·refine zR ?_;refine d9 (a5k f 0 _ zo zo zo zo) ?_;rw [c1j f 0 zo zo zo zo];refine zE ?_;refine d6 _ (c4s (cd.blk hF) f hf8 (by simp [E.z6])) (zE ?_)
    refine d9 (a8a (c2t f) 0 _ zo zo zo zo) (zE ?_);refine zC ?_;refine zE ?_;refine J6 (cd.blk hQ) [.int .i64 (c2t f+6*0)] rfl N8 rfl (by simp [Value.oneCell']) (by rw [r7,E.z6];show 0+_*1+1≤69;omega) (fun w9 u9=>zR ?_)
    refine ⟨(),trivial,?_,by rw [u9.else_ _ zo];exact cd.blk hF,by rw [u9.else_ _ zo];exact cd.blk hB,u9.cl (hcl.trans cd) zo⟩
    rw [u9.at_,E.z6,show (bif Nat.beq 0 0 then 0 else 0+0:Nat)=0 from rfl]
    simp only [Nat.zero_add,Nat.mul_one];rw [a14 _ _ _ zo zo];rw [show 8*(0:Int)+(f:Int)=(f:Int) by omega,show c2t f+6*(0:Int)=c2t f by omega]
   ·refine zR ?_;refine d6 _ (c4s (cd.blk hF) f hf8 (by simp [E.z6])) (zE ?_)
    refine d9 (a5k f 0 _ zo zo zo zo) ?_;rw [c1j f 0 zo zo zo zo];refine zE ?_;refine d9 (a8a (c2t f) 0 _ zo zo zo zo) (zE ?_);refine zC ?_;refine zE ?_;refine J6 (cd.blk hQ) [.int .i64 (c2t f+6*0)] rfl N8 rfl (by simp [Value.oneCell']) (by rw [r7,E.z6];show 0+_*1+1≤69;omega) (fun w9 u9=>zR ?_)
    refine ⟨(),trivial,?_,by rw [u9.else_ _ zo];exact cd.blk hF,by rw [u9.else_ _ zo];exact cd.blk hB,u9.cl (hcl.trans cd) zo⟩
    rw [u9.at_,E.z6,show (bif Nat.beq 0 0 then 0 else 0+0:Nat)=0 from rfl]
    simp only [Nat.zero_add,Nat.mul_one];rw [a14 _ _ _ zo zo];rw [show 8*(0:Int)+(f:Int)=(f:Int) by omega,show c2t f+6*(0:Int)=c2t f by omega]
  clear hQ hF hB hcl;obtain ⟨hQ,hF,hB,hcl⟩:=h5;refine A4 (σ:=Unit) [18,19,20,21,22] 23 (fun _=>[]) (fun _ w'=>w'.heap[w1.heap.size]?=some (.cells (o9 (Ch.put (Ch.put (b9e f) f (c2t f)) (8+f) 6)) 24 (0,0))∧w'.heap[w2.heap.size]?=some (.cells b8r 111 (0,0))∧w'.heap[w.heap.size]?=some (.cells zp.cells 24 (0,0))∧Cl w w') zk ?_ (fun _ j6 w6 h6=>?_)
  ·skip
   refine zR ?_;refine d9 (a5k f 1 _ zo zo zo zo) ?_;rw [c1j f 1 zo zo zo zo];refine zR ?_;refine d9 (a8a 6 0 _ zo zo zo zo) (zR ?_);refine zC ?_;refine zR ?_;refine J6 hQ [.int .i64 (6+6*0)] rfl N8 rfl (by simp [Value.oneCell']) (by rw [r7,E.z6];show 0+_*1+1≤69;omega) (fun w9 u9=>zR ?_)
   refine ⟨(),trivial,?_,by rw [u9.else_ _ zo];exact hF,by rw [u9.else_ _ zo];exact hB,u9.cl hcl zo⟩
   rw [u9.at_,E.z6,show (bif Nat.beq 0 0 then 0 else 0+0:Nat)=0 from rfl]
   simp only [Nat.zero_add,Nat.mul_one];rw [a14 _ _ _ zo zo];rw [show 8*(1:Int)+(f:Int)=8+(f:Int) by omega,show (6:Int)+6*0=6 by omega]
  clear hQ hF hB hcl;obtain ⟨hQ,hF,hB,hcl⟩:=h6;refine A4 (σ:=Unit) [23,24,25,26,27] 28 (fun _=>[]) (fun _ w'=>w'.heap[w1.heap.size]?=some (.cells (o9 (Ch.put (Ch.put (Ch.put (b9e f) f (c2t f)) (8+f) 6) (48+f) 12)) 24 (0,0))∧w'.heap[w2.heap.size]?=some (.cells b8r 111 (0,0))∧w'.heap[w.heap.size]?=some (.cells zp.cells 24 (0,0))∧Cl w w') zk ?_ (fun _ j7 w7 h7=>?_)
  ·skip
   refine zR ?_;refine d9 (a5k f 6 _ zo zo zo zo) ?_;rw [c1j f 6 zo zo zo zo];refine zR ?_;refine d9 (a8a 6 1 _ zo zo zo zo) (zR ?_);refine zC ?_;refine zR ?_;refine J6 hQ [.int .i64 (6+6*1)] rfl N8 rfl (by simp [Value.oneCell']) (by rw [r7,E.z6];show 0+_*1+1≤69;omega) (fun w9 u9=>zR ?_)
   refine ⟨(),trivial,?_,by rw [u9.else_ _ zo];exact hF,by rw [u9.else_ _ zo];exact hB,u9.cl hcl zo⟩
   rw [u9.at_,E.z6,show (bif Nat.beq 0 0 then 0 else 0+0:Nat)=0 from rfl]
   simp only [Nat.zero_add,Nat.mul_one];rw [a14 _ _ _ zo zo];rw [show 8*(6:Int)+(f:Int)=48+(f:Int) by omega,show (6:Int)+6*1=12 by omega]
  clear hQ hF hB hcl;obtain ⟨hQ,hF,hB,hcl⟩:=h7;refine zR ?_;refine I8.mk2 [0,2,3,6] (.cons 1 (.cons 4 (.cons 5 (.cons 7 (.cons 8 .done .nil) .nil) .nil) .nil) (.cons 4 (.cons 1 (.cons 5 (.cons 7 (.cons 8 .done .nil) .nil) .nil) .nil) .nil)) zk (zR ?_);refine zC ?_;refine zR ?_;have cd:Cl w7 w7.drew:=Cl.drew (Cl.refl _);refine And.intro ?_ (And.intro ?_ trivial)
  ·refine zR ?_;refine d9 (a5k f 7 _ zo zo zo zo) ?_;rw [c1j f 7 zo zo zo zo];refine zE ?_;refine d6 _ (c4s (cd.blk hF) f hf8 (by simp [E.z6])) (zE ?_)
   refine d9 (a8a (c2t f) 1 _ zo zo zo zo) (zE ?_);refine zC ?_;refine zE ?_;refine J6 (cd.blk hQ) [.int .i64 (c2t f+6*1)] rfl N8 rfl (by simp [Value.oneCell']) (by rw [r7,E.z6];show 0+_*1+1≤69;omega) (fun w9 u9=>zR ?_)
   refine ⟨f+1,⟨m7 nf,trivial⟩,⟨zo,?_,by rw [u9.else_ _ zo];exact cd.blk hF,by rw [u9.else_ _ zo];exact cd.blk hB,u9.cl (hcl.trans cd) zo⟩,zo⟩
   rw [u9.at_,E.z6,show (bif Nat.beq 0 0 then 0 else 0+0:Nat)=0 from rfl]
   simp only [Nat.zero_add,Nat.mul_one];rw [a14 _ _ _ zo zo];rw [show 8*(7:Int)+(f:Int)=56+(f:Int) by omega,show c2t f+6*(1:Int)=c2t f+6 by omega,hss]
  ·refine zR ?_;refine d6 _ (c4s (cd.blk hF) f hf8 (by simp [E.z6])) (zE ?_)
   refine d9 (a5k f 7 _ zo zo zo zo) ?_;rw [c1j f 7 zo zo zo zo];refine zE ?_;refine d9 (a8a (c2t f) 1 _ zo zo zo zo) (zE ?_);refine zC ?_;refine zE ?_;refine J6 (cd.blk hQ) [.int .i64 (c2t f+6*1)] rfl N8 rfl (by simp [Value.oneCell']) (by rw [r7,E.z6];show 0+_*1+1≤69;omega) (fun w9 u9=>zR ?_)
   refine ⟨f+1,⟨m7 nf,trivial⟩,⟨zo,?_,by rw [u9.else_ _ zo];exact cd.blk hF,by rw [u9.else_ _ zo];exact cd.blk hB,u9.cl (hcl.trans cd) zo⟩,zo⟩
   rw [u9.at_,E.z6,show (bif Nat.beq 0 0 then 0 else 0+0:Nat)=0 from rfl]
   simp only [Nat.zero_add,Nat.mul_one];rw [a14 _ _ _ zo zo];rw [show 8*(7:Int)+(f:Int)=56+(f:Int) by omega,show c2t f+6*(1:Int)=c2t f+6 by omega,hss]
 ·have hf8:f=8:=by omega
  subst hf8;refine zR ?_;refine d6 _ (y7 hQ) (zR ?_);refine J6 hB (X0 a22) rfl a13 (B6 _) (one_pos _) (by rw [hz69];omega) (fun w9 u9=>?_)
  have hR:w9.heap[w.heap.size]?=some (.cells (o9 a22) 24 (0,0)):=by
   rw [u9.at_,C5 _ _ (by rw [B6,hz69])];rfl
  refine zR ?_;refine d6 _ (y7 hR) (zR ?_);exact ⟨rfl,u9.cl hcl (Nat.le_refl _)⟩
structure StR (s:Ch.a0A):Prop where
 mv:MvR s.mv
 tags:I64 s.tags
 san:s.san.length≤1000
 lan:s.lan.length≤1000
 uci:s.uci.length≤1000
 fen:s.fen.length≤1000
 xfen:s.xfen.length≤1000
 pos:a4b s.pos
 outcome:s.outcome.length≤1000
 method:I64 s.method
 status:I64 s.status
theorem c4W (p:A3) (usual:Bool) (w:World):Calls G.P 11 #[C4 p,.bool usual] w (K4 (C4 (if usual then a22 else p)) w):=by
 obtain ⟨zp,hzp,hz69⟩:=b1P;refine zN Tryz.func11 ?_;refine zG ?_;generalize hW:w.alloc (.cells (o9 p) 24)=W0;have hP0:W0.heap[w.heap.size]?=some (.cells (o9 p) 24 (0,0)):=by rw [← hW];exact d8 _ _
 have hE:Cl w W0:=by rw [← hW];exact Cl.alloc _ _
 clear hW;refine t7 zp hzp ?_;have hB0:(W0.alloc (.cells zp.cells 24)).heap[W0.heap.size]?=some (.cells zp.cells 24 (0,0)):=d8 _ _;have c1:Cl W0 (W0.alloc (.cells zp.cells 24)):=Cl.alloc _ _;have hP1:=c1.blk hP0;generalize W0.alloc (.cells zp.cells 24)=w1 at *;cases usual
 ·refine zR ?_;refine d6 _ (y7 hP1) (zR ?_);refine J6 hB0 (X0 p) rfl a13 (B6 _) (one_pos _) (by rw [hz69];omega) (fun w2 u2=>zR ?_)
  refine d6 _ (y7 (p:=p) (by rw [u2.at_,C5 _ _ (by rw [B6,hz69])];rfl)) (zR ?_)
  exact ⟨rfl,u2.cl (hE.trans c1) hE.size⟩
 ·refine zR ?_;refine m9 (c54 _) fun w2 c2=>zR ?_;refine J6 (c2.blk hB0) (X0 a22) rfl a13 (B6 _) (one_pos _) (by rw [hz69];omega) (fun w3 u3=>zR ?_)
  refine d6 _ (y7 (p:=a22) (by rw [u3.at_,C5 _ _ (by rw [B6,hz69])];rfl)) (zR ?_)
  exact ⟨rfl,u3.cl (hE.trans (c1.trans c2)) hE.size⟩
theorem c55 (p:A3) (usual:Bool) (hp:usual=false→Fen p) (w:World):Calls G.P 15 #[C4 p,.bool usual] w (K4 (s8 (if usual then [] else Ch.fenT p)) w):=by
 refine zN Tryz.func15 ?_;refine zG ?_;generalize hW:w.alloc (.cells (o9 p) 24)=W0;have hP0:W0.heap[w.heap.size]?=some (.cells (o9 p) 24 (0,0)):=by rw [← hW];exact d8 _ _
 have hE:Cl w W0:=by rw [← hW];exact Cl.alloc _ _
 clear hW;cases usual
 ·refine zR ?_;refine d6 _ (y7 hP0) (zR ?_);refine m9 (a0Z p (hp rfl) _) fun w2 c2=>zR ?_;exact ⟨rfl,hE.trans c2⟩
 ·refine zR ?_;exact ⟨rfl,hE⟩
def asked (p:A3) (ms:List Mv):Bool:=Ch.valid p&&decide (p.half≤1000000)&&decide (p.full≤1000000)&&decide (ms.length≤80)&&Ch.quiet p ms
theorem a8V (p:A3) (ms:List Mv) (hms:∀ m∈ms,MvR m) {v:Value} (w:World) (hrow:a2a w v ms):Calls G.P 12 #[C4 p,v] w (K4 (.bool (asked p ms)) w):=by
 obtain ⟨al,cl,rfl,hal⟩:=hrow.form;refine zN Tryz.func12 ?_;refine zG ?_;generalize hW:w.alloc (.cells (o9 p) 24)=W0;have hP0:W0.heap[w.heap.size]?=some (.cells (o9 p) 24 (0,0)):=by rw [← hW];exact d8 _ _
 have hE:Cl w W0:=by rw [← hW];exact Cl.alloc _ _
 clear hW;have hA:asked p ms=(Ch.valid p&&decide (p.half≤1000000)&&decide (p.full≤1000000)&&decide (ms.length≤80)&&Ch.quiet p ms):=rfl;have hiff:=Ch.a5p p;refine zR ?_;refine d6 _ (y7 hP0) (zR ?_);refine m9 (b7M p _) fun w2 c2=>?_;have hP2:=c2.blk hP0;generalize Ch.valid p=b at *;cases b
 ·refine zR ?_;exact ⟨m8 (by rw [hA];rfl),hE.trans c2⟩
 have hI:=hiff.1 rfl;refine zR ?_;refine d6 _ (a6U hP2) (zR ?_);apply E.b7<;>intro h
 ·have h1:=h;clear h;refine zR ?_;refine d6 _ (a9i hP2) (zR ?_);apply E.b7<;>intro h
  ·have h2:=h;clear h;refine zR ?_;apply E.b7<;>intro h
   ·have h3:ms.length≤80:=by omega
    clear h;refine zR ?_;refine d6 _ (y7 hP2) (zR ?_);refine m9 (b8p p hI ⟨zo,zo⟩ ms hms zo _ (hrow.step (hE.trans c2))) fun w3 c3=>?_;generalize Ch.quiet p ms=qb at *;refine zR ?_;exact ⟨m8 (by rw [hA,decide_eq_true h1,decide_eq_true h2,decide_eq_true h3];simp),hE.trans (c2.trans c3)⟩
   ·refine zR ?_;exact ⟨m8 (by rw [hA,decide_eq_false (show ¬ ms.length≤80 by omega)];simp),hE.trans c2⟩
  ·refine zR ?_;exact ⟨m8 (by rw [hA,decide_eq_false h];simp),hE.trans c2⟩
 ·refine zR ?_;exact ⟨m8 (by rw [hA,decide_eq_false h];simp),hE.trans c2⟩
end
section
open Go Go.RowKit
open E
open Ch Bb
section gens
variable {w:World} {dst:Option Nat} {ty:Nat} {pos:String} {af:Array Edge} {gd:Option (Nat×Bool)} {env:C0} {K:Value→World→Prop}
theorem b5f {fo:Operand} {args:Array Operand} {argTypes:Array Nat} {f:Nat} {cap:Array Value} (vs:Array Value) (hf:ev env fo = .func (.func f) #[] cap) (hfn:G.fn f=true) (ha:(args.map (ev env)).toList++cap.toList=vs.toList)
  (h:Calls G.P f vs w (fun r w'=>∃ v,r = .returned v∧K v w')):L5 G.P { dst,op:=.call { callee:=.value fo,args,argTypes },type:=ty,pos,after:=af,guard:=gd } env w K:=by
 obtain ⟨x,h1,h2,h3⟩:=G.enters f hfn;have ha:args.map (ev env)++cap=vs:=Array.toList_inj.1 (by rw [Array.toList_append];exact ha)
 subst ha;refine ⟨.inr (.inr ⟨f,(args.map (ev env))++cap,?_,h⟩)⟩;simp [execOp,resolve,hf,Deferred.ofValue,invoke,callFunc,h1,h3];cases hb:x.body with
 | none=>rw [hb] at h2;cases h2
 | some c=>simp
theorem b2N {f:Nat} {cs:Array Operand} (caps:Array Value) (hc:(cs.map (ev env)).toList=caps.toList) (h:K (.func (.func f) #[] caps) w):L5 G.P { dst,op:=.makeFunc (.func f) #[] cs,type:=ty,pos,after:=af,guard:=gd } env w K:=by
 have hc:=Array.toList_inj.1 hc;subst hc;exact ⟨.inl ⟨.func (.func f) #[] (cs.map (ev env)),w,by simp [execOp,Instr.makeFunc],h⟩⟩
end gens
theorem b5g:B7 a22:=(a5p a22).1 (by decide +kernel)
theorem b5h:inCheck a22=false:=by decide +kernel
theorem b5i:fenT a22=[114,110,98,113,107,98,110,114,47,112,112,112,112,112,112,112,112,47,56,47,56,47,56,47,56,47,80,80,80,80,80,80,80,80,47,82,78,66,81,75,66,78,82,32,119,32,75,81,107,113,32,45,32,48,32,49]:=by decide +kernel
theorem a7P (w:World) (hT:C1 w) (hS:Spc w):Calls G.P 133 #[] w (fun r w'=>Cl w w'∧∃ P b,r = .returned (.pointer (some ⟨P,0,none⟩))∧w.heap.size≤P∧w.heap.size≤b∧H0 w' P b a22 (.slice none 0 0)):=by
 have hd:=b1u b5g zd zd w hT hS;rw [b5i] at hd;refine zN Tryz.func133 ?_;refine zR ?_;refine o8 hd ?_;rintro e w1 ⟨c1,P,b,rfl,sP,sb,hP,hB⟩;refine ⟨_,rfl,?_⟩;refine zR ?_;exact ⟨c1,P,b,rfl,sP,sb,by rw [b5h];exact hP,hB,.inl rfl⟩
def Y3 (P:Nat):Nd:={ D3 ⟨⟨0,0,0⟩,0⟩ with pos:=.pointer (some ⟨P,0,none⟩) }
def J7 (P R tb:Nat):Gm:=⟨P,a5e,.map (some tb),R,R,.slice none 0 0,0⟩
set_option maxHeartbeats 1000000 in
theorem c1a {p:A3} (hI:B7 p) (hle:(z8 p).length≤218) {G0 M P b c P0 tb:Nat} (w:World) (hT:C1 w) (hb:w.heap[G0]?=some (.cells (gmA (J7 P0 M tb)) 131 (0,0))) (hM:w.heap[M]?=some (.cells (F0 (Y3 P0)) 141 (0,0)))
  (hP:w.heap[P]?=some (.cells (hdA b (A8 p false) (.slice none 0 0)) 173 (0,0))) (hB:w.heap[b]?=some (.cells (mbA (mbOf p)) 237 (0,0))) (hc:w.heap[c]?=some (.cells #[.pointer (some ⟨P,0,none⟩)] 83 (0,0))) :
  Calls G.P 136 #[.pointer (some ⟨G0,0,none⟩),.pointer (some ⟨c,0,none⟩)] w (fun r w'=>r = .returned (.tuple #[])∧∃ g' z,K3 w' G0 g' [] z∧z.p=p∧z.M=M∧z.P=P∧((g'.meth:Int),g'.out)=a0k [p] p (0,a5e)∧Fr [P,G0,M] w w'):=by
 have hGP:=J4 hb hP zd;have hMP:=J4 hM hP zd;have hbP:=J4 hB hP zd;have hcP:=J4 hc hP zd;have hcG:=J4 hc hb zd;have hcM:=J4 hc hM zd;have hGM:=J4 hb hM zd;have hbG:=J4 hB hb zd;have hbM:=J4 hB hM zd;have hic:=fun (w':World) (h:Cl w w')=>a5W (h:=A8 p false) (B:=mbOf p) (by have:=hI.turn;show p.turn+1=1∨p.turn+1=2;omega) (U1 p 0).1 (U1 p 0).2 (U1 p 1).1 (U1 p 1).2 w' (hT.cl h) (h.blk hP) (h.blk hB)
 have hic2:(mbOf p).chk (A8 p false).turn=inCheck p:=b60 hI;rw [hic2] at hic;refine zN Tryz.func136 ?_;refine zR ?_;refine zK 5 ?_;refine zR ?_;refine g9 _ (fun w' hw=>W1 (v:=.pointer (some ⟨P,0,none⟩)) (hw.blk hc) rfl rfl) (zR ?_);refine g9 _ (fun w' hw=>W1 (v:=.pointer (some ⟨P,0,none⟩)) (hw.blk hc) rfl rfl) (zR ?_);refine C7 _ (fun _ _ h=>h.trans) (fun w' hw=>hic w' hw) (zR ?_);intro w1 c1;refine zR ?_;refine zT (c1.blk hP) [.bool (inCheck p)] fun w2 u2=>?_;have hP2:w2.heap[P]?=some (.cells (hdA b (A8 p (inCheck p)) (.slice none 0 0)) 173 (0,0)):=u2.at_;have f2:Fr [P,G0,M] w w2:=(Fr.cl c1).trans (Fr.upd u2 (by simp))
 have hb2:=(Tn.upd u2).blk (c1.blk hb) hGP;have hc2:=(Tn.upd u2).blk (c1.blk hc) hcP;have hM2:=(Tn.upd u2).blk (c1.blk hM) hMP;have hB2:=(Tn.upd u2).blk (c1.blk hB) hbP;refine zR ?_;refine d6 _ (W1 (v:=.pointer (some ⟨P,0,none⟩)) hc2 rfl rfl) (zR ?_);refine zT hb2 [.pointer (some ⟨P,0,none⟩)] fun w3 u3=>?_;have hb3:w3.heap[G0]?=some (.cells (gmA (J7 P M tb)) 131 (0,0)):=u3.at_;have f3:=f2.trans (Fr.upd u3 (by simp))
 have hP3:=(Tn.upd u3).blk hP2 (Ne.symm hGP);have hc3:=(Tn.upd u3).blk hc2 hcG;have hM3:=(Tn.upd u3).blk hM2 (Ne.symm hGM);have hB3:=(Tn.upd u3).blk hB2 hbG;refine zR ?_;refine zK 7 ?_;refine zR ?_;refine g9 _ (fun w' hw=>b3K (hw.blk hb3)) (zR ?_);refine g9 _ (fun w' hw=>W1 (v:=.pointer (some ⟨P,0,none⟩)) (hw.blk hc3) rfl rfl) (zR ?_);intro w4 c4;refine zR ?_;refine zT (c4.blk hM3) [.pointer (some ⟨P,0,none⟩)] fun w5 u5=>?_;have hM5:w5.heap[M]?=some (.cells (F0 (Y3 P)) 141 (0,0)):=u5.at_;have f5:=(f3.trans (Fr.cl c4)).trans (Fr.upd (b:=M) u5 (by simp))
 have hb5:=(Tn.upd u5).blk (c4.blk hb3) hGM;have hP5:=(Tn.upd u5).blk (c4.blk hP3) (Ne.symm hMP);have hB5:=(Tn.upd u5).blk (c4.blk hB3) hbM;have hPM:H0 w5 P b p (.slice none 0 0):=⟨hP5,hB5,.inl rfl⟩;have hT5:C1 w5:=hT.fr f5 fun k hk cs t fz hh=>by
  simp only [List.mem_cons,List.not_mem_nil,or_false] at hk;rcases hk with e | e | e
  ·rw [e] at hh;rw [← (Obj.cells.inj (Option.some.inj (hP.symm.trans hh))).2.1];decide
  ·rw [e] at hh;rw [← (Obj.cells.inj (Option.some.inj (hb.symm.trans hh))).2.1];decide
  ·rw [e] at hh;rw [← (Obj.cells.inj (Option.some.inj (hM.symm.trans hh))).2.1];decide
 obtain ⟨z,hz⟩:∃ z:O4,z=⟨M,Y3 P,P,b,p,.slice none 0 0⟩:=⟨_,rfl⟩;have hch:Chn w5 [z]:=by rw [hz];exact ⟨hM5,rfl,rfl,hPM,trivial⟩
 have hev:=a8N (g:=J7 P M tb) (n:=z) (l:=[]) hI hle (b6X hI b) (by simp) (by intro x hx;rw [List.mem_singleton.1 hx,hz];exact hI) w5 hT5 hb5 (by rw [hz];rfl) hch hPM (Ne.symm hGP) hbG (fun _=>rfl)
 refine zR ?_;refine o8 hev ?_;rintro e w6 ⟨rfl,m',o',hend,hgb,hfr⟩;refine ⟨_,rfl,?_⟩;refine zR ?_;have hend:((m':Int),o')=a0k [p] p (((0:Nat):Int),a5e):=by rw [hz] at hend;exact hend
 have kG:Kp [] w5 w6:=Kp.fr hfr fun k hk=>by rw [List.mem_singleton.1 hk];exact .inr ⟨_,_,hb5⟩
 refine ⟨rfl,{ J7 P M tb with out:=o',meth:=m' },z,⟨hgb,by rw [hz];rfl,by rw [hz];rfl,⟨z,[],rfl,by rw [hz];rfl⟩,Chn.kp kG hch fun n _=>n.off_nil,(by rw [hz];rfl),fun n hn=>(by cases hn),(by rw [hz];intro e;cases e),fun n hn=>(by cases hn),a8O hend fun _=>rfl⟩,by rw [hz],by rw [hz],by rw [hz],hend,f5.trans (hfr.mono (by simp))⟩
theorem uFn:∃ a b c,G.P.underlying 122=some (.func a b c):=by
 have h:(match G.P.underlying 122 with | some (.func ..)=>true | _=>false)=true:=by kernel_rfl
 split at h
 ·rename_i a b c e;exact ⟨a,b,c,e⟩
 ·cases h
theorem c3a {w:World} {b i:Nat} {v:Value} {cs:Array Value} {u:Nat} {fz:Nat×Nat} (hb:w.heap[b]?=some (.cells cs u fz)) (hi:cs[i]?=some v):l8 G.P w 122 ⟨b,i,none⟩ v:=by
 obtain ⟨e1,e2,e3,he⟩:=uFn;have ha:(isAgg 122).run G.P w = .ok false w:=by unfold isAgg;simp [run_underlying he]
 unfold l8 Instr.loadAt loadVar;simp [Instr.sureAddr,ha,C8 hb,hi]
theorem c1b (f:Fn) (a c:Array Value):Cmp 122 (.func f a c) .nilFunc false:=by
 obtain ⟨e1,e2,e3,he⟩:=uFn;refine a9z (fun d w=>?_) (fun w=>by simp [binOp]) (fun w=>by simp [binOp]) (fun op a v w=>by unfold eqGuard;cases op<;>rfl)
 simp [Op.equalIn,run_underlying he]
theorem c3b:G2 181 122 1 8:=R0 zk
structure b9F (w w':World) (G0:Nat) (p:A3) (looked:Bool):Prop where
 ex:∃ g z,K3 w' G0 g [] z∧z.p=p∧w.heap.size≤z.M∧w.heap.size≤z.P∧((g.meth:Int),g.out)=(if looked then a0k [p] p (0,a5e) else (0,a5e))
 cl:Cl w w'
 new:w.heap.size≤G0
set_option maxHeartbeats 1000000 in
theorem b2O (w:World) (hT:C1 w) (hS:Spc w):Calls G.P 97 #[.slice none 0 0] w (fun r w'=>∃ G0,r = .returned (.pointer (some ⟨G0,0,none⟩))∧b9F w w' G0 a22 false):=by
 refine zN Tryz.func97 ?_;refine zR ?_;refine o8 (a7P w hT hS) ?_;rintro e w1 ⟨c1,P,b,rfl,sP,sb,hPM⟩;refine ⟨_,rfl,?_⟩;refine zR ?_;refine s9 (F0 (Y3 P)) zk (zR ?_);have c2:=c1.trans (Cl.alloc w1 (.cells (F0 (Y3 P)) 141));have hPM2:=hPM.step (Cl.alloc w1 (.cells (F0 (Y3 P)) 141));have nR:=d8 w1 (.cells (F0 (Y3 P)) 141);have s2:=y9 w1 (.cells (F0 (Y3 P)) 141);have s1:=c1.size;obtain ⟨R,hR⟩:∃ R,R=w1.heap.size:=⟨_,rfl⟩;rw [← hR] at nR ⊢;generalize w1.alloc (.cells (F0 (Y3 P)) 141)=w2 at *;refine a32 ?_;have c3:=c2.trans (Cl.alloc w2 (.map #[] 0));have hPM3:=hPM2.step (Cl.alloc w2 (.map #[] 0));have nR3:=(Cl.alloc w2 (.map #[] 0)).blk nR;have s3:=y9 w2 (.map #[] 0);generalize w2.alloc (.map #[] 0)=w3 at *;refine zR ?_;refine s9 (gmA (J7 P R w2.heap.size)) zk (zR ?_);have c4:=c3.trans (Cl.alloc w3 (.cells (gmA (J7 P R w2.heap.size)) 131));have hPM4:=hPM3.step (Cl.alloc w3 (.cells (gmA (J7 P R w2.heap.size)) 131));have nR4:=(Cl.alloc w3 (.cells (gmA (J7 P R w2.heap.size)) 131)).blk nR3;have nG:=d8 w3 (.cells (gmA (J7 P R w2.heap.size)) 131);have s4:=y9 w3 (.cells (gmA (J7 P R w2.heap.size)) 131);generalize w3.alloc (.cells (gmA (J7 P R w2.heap.size)) 131)=w4 at *;refine a7n 1 (zR ?_);refine ⟨_,rfl,⟨J7 P R w2.heap.size,⟨R,Y3 P,P,b,a22,.slice none 0 0⟩,⟨nG,rfl,rfl,⟨_,[],rfl,rfl⟩,⟨nR4,rfl,rfl,hPM4,trivial⟩,rfl,fun n hn=>(by cases hn),fun e=>(by cases e),fun n hn=>(by cases hn),fun _=>rfl⟩,rfl,(show w.heap.size≤R by omega),sP,rfl⟩,c4,zo⟩
set_option maxHeartbeats 1000000 in
theorem b2P {p:A3} (hI:B7 p) (hle:(z8 p).length≤218) {P b c O k:Nat} (w:World) (hT:C1 w) (hS:Spc w)
  (hP:w.heap[P]?=some (.cells (hdA b (A8 p false) (.slice none 0 0)) 173 (0,0))) (hB:w.heap[b]?=some (.cells (mbA (mbOf p)) 237 (0,0))) (hc:w.heap[c]?=some (.cells #[.pointer (some ⟨P,0,none⟩)] 83 (0,0)))
  (hO:w.heap[O]?=some (.cells #[.func (.func 136) #[] #[.pointer (some ⟨c,0,none⟩)]] 122 (0,0))) :
  Calls G.P 97 #[.slice (some ⟨O,0,none⟩) 1 k] w (fun r w'=>∃ G0 g z,r = .returned (.pointer (some ⟨G0,0,none⟩))∧w.heap.size≤G0∧K3 w' G0 g [] z∧z.p=p∧w.heap.size≤z.M∧z.P=P∧((g.meth:Int),g.out)=a0k [p] p (0,a5e)∧Tn P w w'):=by
 refine zN Tryz.func97 ?_;refine zR ?_;refine o8 (a7P w hT hS) ?_;rintro e w1 ⟨c1,P0,b0,rfl,sP,sb,hPM⟩;refine ⟨_,rfl,?_⟩;refine zR ?_;refine s9 (F0 (Y3 P0)) zk (zR ?_);have c2:=c1.trans (Cl.alloc w1 (.cells (F0 (Y3 P0)) 141));have nR:=d8 w1 (.cells (F0 (Y3 P0)) 141);have s2:=y9 w1 (.cells (F0 (Y3 P0)) 141);have s1:=c1.size;obtain ⟨R,hR⟩:∃ R,R=w1.heap.size:=⟨_,rfl⟩;rw [← hR] at nR ⊢;generalize w1.alloc (.cells (F0 (Y3 P0)) 141)=w2 at *;refine a32 ?_;have c3:=c2.trans (Cl.alloc w2 (.map #[] 0));have nR3:=(Cl.alloc w2 (.map #[] 0)).blk nR;have s3:=y9 w2 (.map #[] 0);generalize w2.alloc (.map #[] 0)=w3 at *;refine zR ?_;refine s9 (gmA (J7 P0 R w2.heap.size)) zk (zR ?_);have c4:=c3.trans (Cl.alloc w3 (.cells (gmA (J7 P0 R w2.heap.size)) 131));have nR4:=(Cl.alloc w3 (.cells (gmA (J7 P0 R w2.heap.size)) 131)).blk nR3;have nG:=d8 w3 (.cells (gmA (J7 P0 R w2.heap.size)) 131);have s4:=y9 w3 (.cells (gmA (J7 P0 R w2.heap.size)) 131);obtain ⟨G0,hG0⟩:∃ G0,G0=w3.heap.size:=⟨_,rfl⟩;rw [← hG0] at nG ⊢;generalize w3.alloc (.cells (gmA (J7 P0 R w2.heap.size)) 131)=w4 at *;refine a7n 2 (zR ?_);refine d6 _ (c3a (v:=.func (.func 136) #[] #[.pointer (some ⟨c,0,none⟩)]) (c4.blk hO) rfl) (zR ?_);refine I1 false (c1b _ _ _) (zR ?_);refine b5f #[.pointer (some ⟨G0,0,none⟩),.pointer (some ⟨c,0,none⟩)] rfl rfl (by rw [Array.toList_map];rfl) ?_
 refine (c1a hI hle w4 (hT.cl c4) nG nR4 (c4.blk hP) (c4.blk hB) (c4.blk hc)).mono ?_;rintro e w5 ⟨rfl,g',z,hg,hz,hzM,hzP,hend,f5⟩;refine ⟨_,rfl,?_⟩;refine zR ?_;have hPl:=N2 hP;refine ⟨G0,g',z,rfl,zo,hg,hz,by rw [hzM];omega,hzP,hend,⟨f5.os.trans c4.os,f5.tape.trans c4.tape,f5.output.trans c4.output,Nat.le_trans c4.size f5.size,fun k hk hne=>?_⟩⟩
 rw [f5.else_ k zo (by simp only [List.mem_cons,List.not_mem_nil,or_false];omega)]
 exact c4.block k hk
set_option maxHeartbeats 1000000 in
theorem b9f {p:A3} (hI:B7 p) (hle:(z8 p).length≤218) (hh:p.half<10000000) (hf:p.full<10000000) (usual:Bool) (hu:usual=true→p=a22) (w:World) (hT:C1 w) (hS:Spc w) :
  Calls G.P 42 #[s8 (if usual then [] else fenT p)] w (fun r w'=>∃ G0,r = .returned (.tuple #[.pointer (some ⟨G0,0,none⟩),.nilIface])∧b9F w w' G0 p (!usual)):=by
 cases usual with
 | true =>
  have:=hu rfl;subst this;rw [if_pos rfl];refine zN Tryz.func42 ?_;refine zR ?_;first | (refine E.D4 rfl ?_;refine zR ?_) | skip
  refine o8 (b2O w hT hS) ?_;rintro e w1 ⟨G0,rfl,h⟩;refine ⟨_,rfl,?_⟩;refine zR ?_;exact ⟨G0,rfl,h⟩
 | false =>
  rw [if_neg zd];have hne:¬ tx (fenT p)=tx []:=fun h=>by
   have:=a0p.1 h;unfold fenT at this;simp at this
  have hd:=fun w hT hS=>b1u hI hh hf w hT hS;generalize fenT p=T at *;have hFEN:∀ w,C1 w→Spc w→Calls G.P 98 #[s8 T] w (fun r w'=>Cl w w'∧∃ P b c,r = .returned (.tuple #[.func (.func 136) #[] #[.pointer (some ⟨c,0,none⟩)],.nilIface])∧w.heap.size≤P∧w'.heap[P]?=some (.cells (hdA b (A8 p false) (.slice none 0 0)) 173 (0,0))
   ∧w'.heap[b]?=some (.cells (mbA (mbOf p)) 237 (0,0))∧w'.heap[c]?=some (.cells #[.pointer (some ⟨P,0,none⟩)] 83 (0,0))):=by
   intro w hT hS;refine zN Tryz.func98 ?_;refine zR ?_;refine o8 (hd w hT hS) ?_;rintro e w1 ⟨c1,P,b,rfl,sP,sb,hP,hB⟩;refine ⟨_,rfl,?_⟩;refine zR ?_;refine t7 (.pointer none) zk ?_;have c2:=Cl.alloc w1 (.cells (Value.pointer none).cells 83);have n2:=d8 w1 (.cells (Value.pointer none).cells 83);have s1:=c1.size;generalize w1.alloc (.cells (Value.pointer none).cells 83)=w2 at *;refine zR ?_;refine zT n2 [.pointer (some ⟨P,0,none⟩)] fun w3 u3=>?_;have n3:w3.heap[w1.heap.size]?=some (.cells #[.pointer (some ⟨P,0,none⟩)] 83 (0,0)):=u3.at_;refine zR ?_;refine I1 true (F8 rfl) (zR ?_);refine d6 _ (W1 (v:=.pointer (some ⟨P,0,none⟩)) n3 rfl rfl) (zR ?_);refine W3 false (N1 rfl _) (zR ?_);refine b2N #[.pointer (some ⟨w1.heap.size,0,none⟩)] (by rw [Array.toList_map];rfl) (zR ?_)
   have hP2:=c2.blk hP;have hB2:=c2.blk hB;exact ⟨u3.cl (c1.trans c2) s1,P,b,_,rfl,sP,(Tn.upd u3).blk hP2 (by have:=N2 hP;omega),(Tn.upd u3).blk hB2 (by have:=N2 hB;omega),n3⟩
  refine zN Tryz.func42 ?_;refine zR ?_;refine E.o7 hne (zR ?_);refine o8 (hFEN w hT hS) ?_;rintro e w1 ⟨c1,P,b,c,rfl,sP,hP,hB,hc⟩;refine ⟨_,rfl,?_⟩;refine zR ?_;refine I1 true (F8 rfl) (zR ?_);refine E6 c3b [.func (.func 136) #[] #[.pointer (some ⟨c,0,none⟩)]] (by rw [Array.toList_map];rfl) (by simp [Value.cells]) rfl zd zd ?_
  have c2:=Cl.alloc w1 (.cells (([.func (.func 136) #[] #[.pointer (some ⟨c,0,none⟩)]]:List Value).flatMap fun v=>v.cells.toList).toArray 122);have n2:(w1.alloc (.cells (([.func (.func 136) #[] #[.pointer (some ⟨c,0,none⟩)]]:List Value).flatMap fun v=>v.cells.toList).toArray 122)).heap[w1.heap.size]?=some (.cells #[.func (.func 136) #[] #[.pointer (some ⟨c,0,none⟩)]] 122 (0,0)):=d8 w1 _;generalize w1.alloc (.cells (([.func (.func 136) #[] #[.pointer (some ⟨c,0,none⟩)]]:List Value).flatMap fun v=>v.cells.toList).toArray 122)=w2 at *;have c02:=c1.trans c2;refine zR ?_;refine o8 (b2P hI hle w2 (hT.cl c02) (hS.cl c02) (c2.blk hP) (c2.blk hB) (c2.blk hc) n2) ?_;rintro e w3 ⟨G0,g,z,rfl,sG,hg,hz,hzM,hzP,hend,n3⟩;refine ⟨_,rfl,?_⟩;refine zR ?_;refine ⟨G0,rfl,⟨?_,n3.toCl c02 sP,Nat.le_trans c02.size sG⟩⟩;refine ⟨g,z,hg,hz,Nat.le_trans c02.size hzM,by rw [hzP];exact sP,?_⟩
  rw [if_pos (show (!false)=true from rfl)];exact hend
end
end Go.Proofs.YtpclhlhcegcflaaGreatDoor
