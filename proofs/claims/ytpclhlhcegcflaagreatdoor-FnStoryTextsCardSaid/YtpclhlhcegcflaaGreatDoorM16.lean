/- One part of the proof: Arg Opn San San2 Pk52 Pk45 Sp28 Sp29 Sp30. -/
import Derived.Deep.Slices
import Derived.ProofKit
import Derived.Test.YtpclhlhcegcflaaGreatDoorM1
import Derived.Test.YtpclhlhcegcflaaGreatDoorM3
import Derived.Test.YtpclhlhcegcflaaGreatDoorM6
import Derived.Test.YtpclhlhcegcflaaGreatDoorM8
import Derived.Test.YtpclhlhcegcflaaGreatDoorM9
import Derived.Test.YtpclhlhcegcflaaGreatDoorM12
import Derived.Test.YtpclhlhcegcflaaGreatDoorM15
namespace Go.Proofs.YtpclhlhcegcflaaGreatDoor
set_option maxRecDepth 100000
set_option linter.unusedSimpArgs false
set_option linter.unusedVariables false
section
open Go Go.RowKit Go.Deep Go.ChangeShapes Go.WideShapes
open E
theorem b65 {W:World} {r:Reach} {b t:Nat} {k:IntKind} {v:Value} (ht:G.P.underlying t=some (.int k)) (h:Cell.okWide G.P W r b t v):∃ n,v = .int k n∧k.has n:=by
 unfold Cell.okWide Cell.ok at h;cases v<;>simp [ht] at h;rename_i k' n;obtain ⟨rfl,h⟩:=h;exact ⟨n,rfl,h⟩
theorem c1m {l:List Value} {k:IntKind}:(∀ (i:Nat) (v:Value),l[i]?=some v→∃ n,v=Value.int k n)→∃ zs:List Int,l=zs.map (Value.int k):=by
 induction l with
 | nil=>intro _;exact ⟨[],rfl⟩
 | cons v r ih =>
  intro h;obtain ⟨n,rfl⟩:=h 0 v rfl;obtain ⟨zs,rfl⟩:=ih (fun i v hv=>h (i+1) v (by simpa using hv))
  exact ⟨n::zs,rfl⟩
theorem c1n {zs:List Int} (h:zs.length=69):∃ s:l9,(zs.map (Value.int .i64)).toArray=v8 s:=by
 refine ⟨{ board:=zs.take 64,len:=by simp [h],turn:=zs.getD 64 0,castle:=zs.getD 65 0,ep:=zs.getD 66 0,half:=zs.getD 67 0,full:=zs.getD 68 0 },?_⟩
 unfold v8 Y9;congr 1;have:zs=zs.take 64++[zs.getD 64 0,zs.getD 65 0,zs.getD 66 0,zs.getD 67 0,zs.getD 68 0]:=by
  apply List.ext_getElem
  ·simp [h]
  ·intro i h1 h2;by_cases hi:i<64
   ·rw [List.getElem_append_left (by simp [h];exact hi)]
    simp
   ·rw [List.getElem_append_right (by simp [h];omega)]
    have hh:(zs.take 64).length=64:=by simp [h]
    simp only [hh];have:i=64∨i=65∨i=66∨i=67∨i=68:=by omega
    rcases this with rfl | rfl | rfl | rfl | rfl<;>simp [List.getD_eq_getElem?_getD,h1]
 conv=>lhs;rw [this]
 rw [List.map_append];rfl
theorem b8L {W:World} {r:Reach} {b:Nat} {v:Value} (h:Value.okWide G.P W r b 24 v):∃ s:l9,v=E2 s:=by
 obtain ⟨f,hu,_⟩:=a1G (G.tab 24 _ (show W1 G.T 24=some (.struct 69 _) from rfl));unfold Value.okWide at h;rw [hu] at h;obtain ⟨cs,rfl,hs,ts,hts,_,hall⟩:=h;have e1:G.P.cellTypes G.P.depth 24=some (List.replicate 69 3):=by kernel_rfl
 obtain rfl:=Option.some.inj (e1.symm.trans hts);have e2:G.P.cellsOf 24=69:=by kernel_rfl
 have e3:G.P.underlying 3=some (.int .i64):=by kernel_rfl
 rw [e2] at hs;obtain ⟨zs,hz⟩:=c1m (l:=cs.toList) (k:=.i64) (fun i v hv=>by
  obtain ⟨u,hu,hc⟩:=hall i v (by simpa using hv)
  rw [List.getElem?_replicate] at hu;split at hu
  ·obtain rfl:=Option.some.inj hu;obtain ⟨n,h1,_⟩:=b65 e3 hc;exact ⟨n,h1⟩
  ·cases hu)
 obtain ⟨s,hs2⟩:=c1n (zs:=zs) (by have:=yG List.length hz;simpa [hs] using this.symm)
 refine ⟨s,?_⟩;unfold E2;rw [← hs2,← hz]
theorem c32 {n:Int} (h:(Lit.int .i64 n).wf=true):I64 n:=by
 have e1:IntKind.i64.min=-9223372036854775808:=by decide
 have e2:IntKind.i64.max=9223372036854775807:=by decide
 simp [Lit.wf,e1,e2] at h;exact ⟨zo,zo⟩
theorem b4c {H:Type} {enc:TypeId×Value→H} {W:World} {b base:Nat} {sp:Nat→Bool} {hd:Bool} {v:Value} {d:DataW H} {ps:List MemPlace} (h:Value.okWide G.P W .any b 25 v) (hr:DataW.Trod enc G.P W base sp hd 25 v d ps) :
  ∃ ms:List Mv,a4R W v ms∧∀ m∈ms,MvR m:=by
 have e1:G.P.underlying 25=some (.slice 36):=by kernel_rfl
 have e2:G.P.cellsOf 36=3:=by kernel_rfl
 have e3:G.P.underlying 3=some (.int .i64):=by kernel_rfl
 have e4:G.P.cellsOf 3=1:=by kernel_rfl
 obtain ⟨f,hu,_,hf,_⟩:=a1G (G.tab 36 _ (show W1 G.T 36=some (.struct 3 _) from rfl));have hf2:f.toList.map (fun x=>(x.type,x.offset))=[(3,0),(3,1),(3,2)]:=hf;have hfs:f.size=3:=by have:=yG List.length hf2;simpa using this
 have hfi:∀ i (hi:i<3),f[i].type=3∧f[i].offset=i:=fun i hi=>by
  have:=yG (fun l=>l[i]?) hf2;simp only [List.getElem?_map] at this;rw [List.getElem?_eq_getElem (by simp [hfs];exact hi)] at this
  simp only [Option.map_some,Array.getElem_toList] at this;have h3:i=0∨i=1∨i=2:=by omega
  rcases h3 with rfl | rfl | rfl<;>simpa using this
 obtain ⟨fuel,hr⟩:=hr;unfold Value.okWide at h;rw [e1] at h;have hv:∃ oa len cap,v = .slice oa len cap:=by
  unfold Cell.okWide Cell.ok at h;cases v<;>simp [e1] at h;exact ⟨_,_,_,rfl⟩
 obtain ⟨oa,len,cap,rfl⟩:=hv;rcases open_slice e1 hr with ⟨h1,_⟩ | ⟨a,len',cap',m,n,D,Pl,h1,_,hl,hm,hmm,_,hx⟩
 ·obtain ⟨rfl,rfl,rfl⟩:oa=none∧len=0∧cap=0:=by simpa [Value.cells] using h1
  exact ⟨[],⟨none,0,rfl,fun h=>absurd h zd⟩,fun m hm=>by cases hm⟩
 ·obtain ⟨rfl,rfl,rfl⟩:oa=some a∧len=len'∧cap=cap':=by simpa [Value.cells] using h1
  unfold Cell.okWide Cell.ok at h;rw [e1] at h;obtain ⟨_,_,_,hsp,row,cells,hsh,_⟩:=h;obtain ⟨g,o,spo⟩:=a;obtain rfl:spo=none:=hsp;unfold World.shape? at hsh;cases hbb:W.heap[g]? with
  | none=>simp only [hbb] at hsh;cases hsh
  | some ob =>
   cases ob with
   | cells cs2 el fz =>
    have hlm:len≤m:=by rw [hmm];split<;>omega
    have key:∀ i,i<len→∃ mv:Mv,MvR mv∧o+i*3+3≤cs2.size∧cs2.extract (o+i*3) (o+i*3+3)=Z0 mv:=by
     intro i hi;obtain ⟨cs',hc1,hc2⟩:=hx i zo;obtain ⟨_,hlen,hcell⟩:=World.cells?_some hc1;rw [e2] at hlen hcell;obtain ⟨xs,n',_,_,_,hxl,hall⟩:=DataW.trod_struct hu hc2;have hz:∀ j,j<3→∃ z,cs2[o+i*3+j]?=some (Value.int .i64 z)∧I64 z:=by
      intro j hj;obtain ⟨t1,t2⟩:=hfi j hj;have h2:=hall j f[j] (by simp [hfs,hj])
      rw [t1,t2,e4,List.getElem?_eq_getElem zo] at h2;obtain ⟨z,h3,_,h4⟩:=DataW.trod_int e3 h2;have h5:cs'[j]?=some (Value.int .i64 z):=by
       have:=yG (·[0]?) h3;simpa [List.getElem?_take,List.getElem?_drop] using this
      have h6:=hcell j hj;rw [h5,H5,H5] at h6;unfold World.cell? at h6;simp only [hbb] at h6;exact ⟨z,by simpa using h6,c32 h4⟩
     obtain ⟨z0,p0,r0⟩:=hz 0 zd;obtain ⟨z1,p1,r1⟩:=hz 1 zd;obtain ⟨z2,p2,r2⟩:=hz 2 zd;have hsz:=(Array.getElem?_eq_some_iff.1 p2).1;refine ⟨⟨z0,z1,z2⟩,⟨r0,r1,r2⟩,zo,?_⟩;apply Array.ext
     ·simp [Z0];omega
     ·intro j h1 h2;have h3:j=0∨j=1∨j=2:=by simp [Z0] at h2;omega
      rw [Array.getElem_extract];rcases h3 with rfl | rfl | rfl
      ·exact (Array.getElem?_eq_some_iff.1 p0).2
      ·exact (Array.getElem?_eq_some_iff.1 p1).2
      ·exact (Array.getElem?_eq_some_iff.1 p2).2
    have:Inhabited Mv:=⟨⟨0,0,0⟩⟩;obtain ⟨F,hF⟩:=choose_lt key;refine ⟨(List.range len).map F,⟨some ⟨g,o,none⟩,cap,by simp,fun _=>⟨g,o,cs2,el,fz,rfl,hbb,fun i hi=>?_⟩⟩,fun mv hmv=>?_⟩
    ·have hi2:i<len:=by simpa using hi
     obtain ⟨_,h7,h8⟩:=hF i hi2;exact ⟨h7,by simpa using h8⟩
    ·obtain ⟨i,hi,rfl⟩:=List.mem_map.1 hmv;exact (hF i (List.mem_range.1 hi)).1
   | _=>simp only [hbb] at hsh;cases hsh
end
section
namespace Ch
def H0 (s:Tx) (c:UInt8):Bool:=s.contains c
theorem a3H {s:Tx} {c:UInt8}:H0 s c=true↔c∈s:=List.contains_iff_mem
def inS (t:Tx) (i:Nat) (s:Tx):Bool:=match t[i]? with
 | some c=>H0 s c
 | none=>false
def oneN (t:Tx) (i:Nat) (s:Tx):Nat:=if inS t i s then 1 else 0
def H3:Tx:=[82,78,66,81,75,80]
def O4:Tx:=[97,98,99,100,101,102,103,104]
def I9:Tx:=[48,49,50,51,52,53,54,55,56,57]
def a9a:Tx:=[43,35,33,63]
def epS:Tx:=[101,46,112,46]
def b4d:Tx:=[81,82,66,78]
def ooS:Tx:=[79,45,79]
def oooS:Tx:=[79,45,79,45,79]
def H4:Tx→Bool
 | []=>true
 | c::r=>if H0 a9a c then H4 r else if (c::r).take 4=epS then H4 (r.drop 3) else false
 termination_by t=>t.length
 decreasing_by all_goals (simp only [zh,List.length_drop];omega)
structure D5 where
 pc:Tx
 fo:Tx
 ro:Tx
 ca:Tx
 fi:Tx
 ra:Tx
 pr:Tx
 cs:Tx
def a1v {α:Type} (f:Nat→Option α):Nat→Option α
 | 0=>none
 | n+1=>match f n with
  | some x=>some x
  | none=>a1v f n
def X8 (t:Tx) (i j:Nat):Tx:=(t.drop i).take (j-i)
def b66 (t:Tx) (a b c d k:Nat):D5 :=
 ⟨X8 t 0 a,X8 t a (a+b),X8 t (a+b) (a+b+c),X8 t (a+b+c) (a+b+c+d),X8 t (a+b+c+d) (a+b+c+d+1),X8 t (a+b+c+d+1) (a+b+c+d+2),X8 t (a+b+c+d+2) (a+b+c+d+2+2*k),[]⟩
def b67 (t:Tx) (a b c d k:Nat):Option D5:=if H4 (t.drop (a+b+c+d+2+2*k)) then some (b66 t a b c d k) else none
def a9b (t:Tx) (at_:Nat):Bool:=inS t (at_+2) [61]&&inS t (at_+3) b4d
def b68 (t:Tx) (a b c d:Nat):Option D5 :=
 if inS t (a+b+c+d) O4&&inS t (a+b+c+d+1) I9 then a1v (b67 t a b c d) (if a9b t (a+b+c+d) then 2 else 1) else none
def b8M (t:Tx) (a b c:Nat):Option D5:=a1v (b68 t a b c) (oneN t (a+b+c) [120]+1)
def b8N (t:Tx) (a b:Nat):Option D5:=a1v (b8M t a b) (oneN t (a+b) I9+1)
def b8O (t:Tx) (a:Nat):Option D5:=a1v (b8N t a) (oneN t a O4+1)
def a3I (t:Tx):Option D5:=a1v (b8O t) (oneN t 0 H3+1)
def a5T (o:Tx):D5:=⟨[],[],[],[],[],[],[],o⟩
def zzP (t:Tx):Option D5:=match a3I t with
 | some q=>some q
 | none=>if t.take 5=oooS∧H4 (t.drop 5)=true then some (a5T oooS) else if t.take 3=ooS∧H4 (t.drop 3)=true then some (a5T ooS) else none
def V8 (q:D5):Tx:=q.pc++q.fo++q.ro++q.ca++q.fi++q.ra++q.pr++q.cs
def a1w (q:D5):List Tx :=
 if q.pc≠[] then [q.pc++q.ca++q.fi++q.ra++q.pr++q.cs,q.pc++q.ro++q.ca++q.fi++q.ra++q.pr++q.cs,q.pc++q.fo++q.ca++q.fi++q.ra++q.pr++q.cs]
 else (if q.ca≠[] then [q.fo++q.ca++q.fi++q.ra++q.pr] else [])++(if q.fo≠[]∧q.ro≠[] then [q.ca++q.fi++q.ra++q.pr] else [])
def fits (q:D5) (t:Tx):Prop:=V8 q=t∨t∈a1w q
instance (q:D5) (t:Tx):Decidable (fits q t):=by unfold fits;infer_instance
structure a3j (c:UInt8):Prop where
 l:H0 H3 c=false
 f:H0 O4 c=true
 d:H0 I9 c=false
 x:H0 [120] c=false
 e:H0 [61] c=false
 m:H0 [45] c=false
structure b4e (c:UInt8):Prop where
 l:H0 H3 c=false
 f:H0 O4 c=false
 d:H0 I9 c=true
 x:H0 [120] c=false
 e:H0 [61] c=false
 m:H0 [45] c=false
theorem b69:∀ k:Nat,k<8→a3j (UInt8.ofNat (97+k)):=by
 intro k hk;rcases (by omega:k=0∨k=1∨k=2∨k=3∨k=4∨k=5∨k=6∨k=7) with rfl | rfl | rfl | rfl | rfl | rfl | rfl | rfl<;>exact ⟨zd,zd,zd,zd,zd,zd⟩
theorem b8P:∀ k:Nat,k<8→b4e (UInt8.ofNat (49+k)):=by
 intro k hk;rcases (by omega:k=0∨k=1∨k=2∨k=3∨k=4∨k=5∨k=6∨k=7) with rfl | rfl | rfl | rfl | rfl | rfl | rfl | rfl<;>exact ⟨zd,zd,zd,zd,zd,zd⟩
theorem a3J (s:Int):∃ c,r9 s=[c]∧a3j c:=⟨_,rfl,b69 _ zo⟩
theorem a7g {s:Int} (h0:0≤s) (h1:s≤63):∃ c,a0K s=[c]∧b4e c:=⟨_,rfl,b8P _ zo⟩
theorem b0h {a b:Nat} (ha:a<256) (hb:b<256) (h:UInt8.ofNat a=UInt8.ofNat b):a=b:=by
 have:=yG UInt8.toNat h;rw [UInt8.toNat_ofNat_of_lt' ha,UInt8.toNat_ofNat_of_lt' hb] at this;exact this
theorem a5V {a b:Int} (h:r9 a=r9 b):a%8=b%8:=by
 have:=b0h zo zo (List.cons.inj h).1;omega
theorem a9c {a b:Int} (a0:0≤a) (a1:a≤63) (b0:0≤b) (b1:b≤63) (h:a0K a=a0K b):a/8=b/8:=by
 have:=b0h zo zo (List.cons.inj h).1;omega
@[simp] theorem b28 (c:UInt8) (t s:Tx):inS (c::t) 0 s=H0 s c:=rfl
@[simp] theorem c4M (c:UInt8) (t s:Tx) (i:Nat):inS (c::t) (i+1) s=inS t i s:=rfl
@[simp] theorem c5n (s:Tx) (i:Nat):inS [] i s=false:=rfl
theorem U3:H4 []=true:=by rw [H4]
structure c4N (t:Tx):Prop where
 x:inS t 0 [120]=false
 e:inS t 0 [61]=false
 m:inS t 0 [45]=false
 d:inS t 0 I9=false
 fd:(inS t 0 O4&&inS t 1 I9)=false
 l:inS t 0 H3=false
theorem b8Q:∀ c∈a9a,H0 [120] c=false∧H0 [61] c=false∧H0 [45] c=false∧H0 I9 c=false∧H0 O4 c=false∧H0 H3 c=false:=by decide
theorem c2f {t:Tx} (h:H4 t=true):c4N t:=by
 cases t with
 | nil=>exact ⟨rfl,rfl,rfl,rfl,rfl,rfl⟩
 | cons c r =>
  rw [H4] at h;by_cases hs:H0 a9a c=true
  ·obtain ⟨a1,a2,a3,a4,a5,a6⟩:=b8Q c (a3H.1 hs);exact ⟨a1,a2,a3,a4,by rw [b28,a5];rfl,a6⟩
  ·rw [zJ hs] at h;by_cases h4:(c::r).take 4=epS
   ·rw [List.take_succ_cons] at h4;obtain ⟨e1,e2⟩:=List.cons.inj h4;subst e1;refine ⟨rfl,rfl,rfl,rfl,?_,rfl⟩;cases r with
    | nil=>cases e2
    | cons c2 r2 =>
     rw [List.take_succ_cons] at e2;have:=(List.cons.inj e2).1;subst this;rfl
   ·rw [zJ h4] at h;cases h
theorem b5o {o1 o2 o3 x pr sg:Tx} {f r:UInt8} (h1:o1=[]∨∃ c,o1=[c]∧H0 H3 c=true) (h2:o2=[]∨∃ c,o2=[c]∧a3j c) (h3:o3=[]∨∃ c,o3=[c]∧b4e c) (hx:x=[]∨x=[120]) (hf:a3j f) (hr:b4e r) (hp:pr=[]∨∃ c,pr=[61,c]∧H0 b4d c=true) (hs:H4 sg=true) :
  zzP (o1++o2++o3++x++[f]++[r]++pr++sg)=some ⟨o1,o2,o3,x,[f],[r],pr,[]⟩:=by
 obtain ⟨x1,x2,x3,x4,x5,x6⟩:=c2f hs;have hff:=hf.f;have hfl:=hf.l;have hfd:=hf.d;have hfx:=hf.x;have hfe:=hf.e;have hrf:=hr.f;have hrl:=hr.l;have hrd:=hr.d;have hrx:=hr.x;have hre:=hr.e;have k1:H0 O4 120=false:=by decide
 have k2:H0 I9 120=false:=by decide
 have k3:H0 H3 120=false:=by decide
 have k4:H0 O4 61=false:=by decide
 have k5:H0 I9 61=false:=by decide
 have k7:H0 [120] 120=true:=by decide
 have k8:H0 [61] 61=true:=by decide
 have k9:H0 [120] 61=false:=by decide
 have k10:H0 [61] 120=false:=by decide
 have k6:∀ c,H0 H3 c=true→H0 O4 c=false∧H0 I9 c=false∧H0 [120] c=false:=by
  intro c hc;have:∀ c∈H3,H0 O4 c=false∧H0 I9 c=false∧H0 [120] c=false:=by decide
  exact this c (a3H.1 hc)
 have hz:∀ q,a3I (o1++o2++o3++x++[f]++[r]++pr++sg)=some q→zzP (o1++o2++o3++x++[f]++[r]++pr++sg)=some q:=fun q h=>by unfold zzP;rw [h]
 apply hz;clear hz;have h1':o1=[]∨∃ c,o1=[c]∧H0 H3 c=true∧H0 O4 c=false∧H0 I9 c=false∧H0 [120] c=false:=h1.imp id fun ⟨c,e,h⟩=>⟨c,e,h,k6 c h⟩;have h2':o2=[]∨∃ c,o2=[c]∧H0 O4 c=true∧H0 H3 c=false∧H0 I9 c=false∧H0 [120] c=false:=h2.imp id fun ⟨c,e,h⟩=>⟨c,e,h.f,h.l,h.d,h.x⟩;have h3':o3=[]∨∃ c,o3=[c]∧H0 O4 c=false∧H0 H3 c=false∧H0 I9 c=true∧H0 [120] c=false:=h3.imp id fun ⟨c,e,h⟩=>⟨c,e,h.f,h.l,h.d,h.x⟩;clear h1 h2 h3 hf hr;rcases h1' with rfl | ⟨c1,rfl,y1,y2,y3,y4⟩<;>rcases h2' with rfl | ⟨c2,rfl,z1,z2,z3,z4⟩<;>rcases h3' with rfl | ⟨c3,rfl,v1,v2,v3,v4⟩<;>rcases hx with rfl | rfl<;>rcases hp with rfl | ⟨c4,rfl,hc4⟩<;>simp [a3I,b8O,b8N,b8M,b68,b67,a1v,oneN,a9b,b66,X8, *]
end Ch
namespace Ch
def apF (p:l9) (m:Mv):Tx:=if (G9 p m).isEmpty then [] else if !(G9 p m).any (fun x=>decide (x.fr%8=m.fr%8)) then r9 m.fr else if !(G9 p m).any (fun x=>decide (x.fr/8=m.fr/8)) then [] else r9 m.fr
def apR (p:l9) (m:Mv):Tx:=if (G9 p m).isEmpty then [] else if !(G9 p m).any (fun x=>decide (x.fr%8=m.fr%8)) then [] else a0K m.fr
theorem a9d {p:l9} {m:Mv} (f0:0≤m.fr) (f1:m.fr≤63):apart p m=apF p m++apR p m:=by
 have hs:V4 m.fr=r9 m.fr++a0K m.fr:=by unfold V4;rw [zJ zo]
 unfold apart apF apR;rw [hs];(repeat' split)<;>simp_all
def a3K (p:l9) (m:Mv) (fo ro:Tx):D5:=⟨[],fo,ro,a1e p m,r9 m.to,a0K m.to,F8 m,[]⟩
def a0D (p:l9) (m:Mv) (fo ro:Tx):D5:=⟨a0H (kindOf (sq p m.fr)),fo,ro,a1e p m,r9 m.to,a0K m.to,[],[]⟩
def P6 (p:l9) (m:Mv):D5 :=
 if castleKind p m=1 then a5T ooS
 else if castleKind p m=2 then a5T oooS
 else if kindOf (sq p m.fr)=6 then a3K p m (if takes p m then r9 m.fr else []) []
 else a0D p m (apF p m) (apR p m)
inductive c4O (p:l9) (m:Mv):Prop
 | castle (k:Int) (hk:k=1∨k=2) (h:castleKind p m=k)
 | pawn (h:castleKind p m=0) (hp:G6 p m) (hk:kindOf (sq p m.fr)=6)
 | piece (h:castleKind p m=0) (hp:G6 p m) (k1:1≤kindOf (sq p m.fr)) (k5:kindOf (sq p m.fr)≤5) (h0:m.promo=0)
theorem a7h {p:l9} (hI:B9 p) {m:Mv} (hm:m∈s8 p):c4O p m:=by
 rcases (L9 hI m).1 hm with ⟨hp,_⟩ | ⟨r,hr,_⟩
 ·have hc:=(K7 hI hp).2;obtain ⟨k1,k6,_⟩:=W8 hI hp.there hp.own;by_cases hk:kindOf (sq p m.fr)=6
  ·exact .pawn hc hp hk
  ·refine .piece hc hp k1 zo ?_;rcases hp.promo with e | e
   ·exact e.1
   ·exact absurd e.2.2.1 hk
 ·obtain ⟨r4,rt,rb,hc⟩:=I1 hI hr;have hmv:=hc.mv;have hw:(if A4 (r:Int)<homeK r then (-1:Int) else 1)=1∨(if A4 (r:Int)<homeK r then (-1:Int) else 1)=-1:=by split<;>simp
  generalize (if A4 (r:Int)<homeK r then (-1:Int) else 1)=w at *
  have hking:=hc.king;refine .castle (if w=1 then 1 else 2) (by split<;>simp) ?_
  unfold castleKind;rw [hmv];simp only [hking,S4 hI];rcases hw with rfl | rfl
  ·rw [zJ zd,zM zo,zM rfl]
  ·rw [zJ zd,zJ zo,zM zo,zJ zd]
theorem a3e {k:Int} (k1:1≤k) (k5:k≤5):∃ c,a0H k=[c]∧H0 H3 c=true∧H0 O4 c=false∧c≠120∧c≠79:=by
 rcases (by omega:k=1∨k=2∨k=3∨k=4∨k=5) with rfl | rfl | rfl | rfl | rfl<;>exact ⟨_,rfl,zd,zd,zd,zd⟩
theorem a9e {a b:Int} (a1:1≤a) (a5:a≤5) (b1:1≤b) (b5:b≤5) (h:a0H a=a0H b):a=b:=by
 rcases (by omega:a=1∨a=2∨a=3∨a=4∨a=5) with rfl | rfl | rfl | rfl | rfl<;>rcases (by omega:b=1∨b=2∨b=3∨b=4∨b=5) with rfl | rfl | rfl | rfl | rfl<;>first | rfl | exact absurd h zd
theorem c33 {p:l9} (hI:B9 p) {m:Mv} (hm:m∈s8 p):F8 m=[]∨∃ c,F8 m=[61,c]∧H0 b4d c=true:=by
 obtain ⟨_,_,_,_,hp⟩:=A7 hI hm;unfold F8;rcases hp with e | ⟨e1,e2,_⟩
 ·exact .inl (zM e)
 ·right;rw [zJ zo];rcases (by omega:m.promo=2∨m.promo=3∨m.promo=4∨m.promo=5) with e | e | e | e<;>rw [e]<;>exact ⟨_,rfl,zd⟩
theorem b6A {a b:Mv} (ha:a.promo=0∨2≤a.promo∧a.promo≤5) (hb:b.promo=0∨2≤b.promo∧b.promo≤5) (h:F8 a=F8 b):a.promo=b.promo:=by
 unfold F8 at h;rcases ha with e | ⟨e1,e2⟩<;>rcases hb with g | ⟨g1,g2⟩
 ·rw [e,g]
 ·rw [zM e,zJ zo] at h;cases h
 ·rw [zM g,zJ zo] at h;cases h
 ·rw [zJ zo,zJ zo] at h;exact a9e zo e2 zo g2 (List.cons.inj h).2
theorem b5p (p:l9) (m:Mv):a1e p m=[]∨a1e p m=[120]:=by unfold a1e;split<;>simp
theorem sq2 {i:Int} (h0:0≤i) (h1:i≤63):V4 i=r9 i++a0K i:=by unfold V4;rw [zJ zo]
theorem a3L {p:l9} (hI:B9 p) {m:Mv} (hm:m∈s8 p):V8 (P6 p m)=body p m:=by
 obtain ⟨f0,f1,t0,t1,_⟩:=A7 hI hm;unfold P6 body;rw [sq2 t0 t1];split
 ·rfl
 ·split
  ·rfl
  ·split
   ·unfold V8 a3K a1e;cases takes p m<;>simp
   ·unfold V8 a0D;rw [a9d f0 f1];simp
theorem c2h (p:l9) (m:Mv):apF p m=[]∨apF p m=r9 m.fr:=by unfold apF;(repeat' split)<;>simp
theorem c2i (p:l9) (m:Mv):apR p m=[]∨apR p m=a0K m.fr:=by unfold apR;(repeat' split)<;>simp
theorem b5q {o:Tx} {s:Int} (h:o=[]∨o=r9 s):o=[]∨∃ c,o=[c]∧a3j c:=h.imp id fun e=>by rw [e];exact a3J s
theorem b5r {o:Tx} {s:Int} (h0:0≤s) (h1:s≤63) (h:o=[]∨o=a0K s):o=[]∨∃ c,o=[c]∧b4e c:=h.imp id fun e=>by rw [e];exact a7g h0 h1
theorem b29 {p:l9} (hI:B9 p) {m:Mv} (hm:m∈s8 p) (k1:1≤kindOf (sq p m.fr)) (k5:kindOf (sq p m.fr)≤5) {fo ro sg:Tx} (hf:fo=[]∨fo=r9 m.fr) (hr:ro=[]∨ro=a0K m.fr) (hs:H4 sg=true) :
  zzP (V8 (a0D p m fo ro)++sg)=some (a0D p m fo ro):=by
 obtain ⟨f0,f1,t0,t1,_⟩:=A7 hI hm;obtain ⟨c,hc,h1,_⟩:=a3e k1 k5;obtain ⟨f,ef,h2⟩:=a3J m.to;obtain ⟨r,er,h3⟩:=a7g t0 t1;have:=b5o (o1:=a0H (kindOf (sq p m.fr))) (o2:=fo) (o3:=ro) (x:=a1e p m) (pr:=[]) (sg:=sg) (.inr ⟨c,hc,h1⟩) (b5q hf) (b5r f0 f1 hr) (b5p p m) h2 h3 (.inl rfl) hs;unfold V8 a0D;rw [ef,er];simpa using this
theorem c1o {p:l9} (hI:B9 p) {m:Mv} (hm:m∈s8 p) {fo ro sg:Tx} (hf:fo=[]∨fo=r9 m.fr) (hr:ro=[]∨ro=a0K m.fr) (hs:H4 sg=true) :
  zzP (V8 (a3K p m fo ro)++sg)=some (a3K p m fo ro):=by
 obtain ⟨f0,f1,t0,t1,_⟩:=A7 hI hm;obtain ⟨f,ef,h2⟩:=a3J m.to;obtain ⟨r,er,h3⟩:=a7g t0 t1;have:=b5o (o1:=[]) (o2:=fo) (o3:=ro) (x:=a1e p m) (pr:=F8 m) (sg:=sg) (.inl rfl) (b5q hf) (b5r f0 f1 hr) (b5p p m) h2 h3 (c33 hI hm) hs;unfold V8 a3K;rw [ef,er];simpa using this
theorem b0i {o sg:Tx} (ho:o=ooS∨o=oooS) (hs:H4 sg=true):zzP (o++sg)=some (a5T o):=by
 have hf:a3I (o++sg)=none:=by
  rcases ho with rfl | rfl<;>rfl
 unfold zzP;rw [hf];rcases ho with rfl | rfl
 ·have h5:¬ ((ooS++sg).take 5=oooS∧H4 ((ooS++sg).drop 5)=true):=by
   rintro ⟨h,_⟩;have hm:=(c2f hs).m;cases sg with
   | nil=>cases h
   | cons c r =>
    have e:(ooS++c::r).take 5=[79,45,79,c]++r.take 1:=by rw [show ooS++c::r=79::45::79::c::r from rfl];simp
    rw [e] at h;have:c=45:=by
     have:=(List.cons.inj (List.cons.inj (List.cons.inj (List.cons.inj h).2).2).2).1;exact this
    subst this;rw [b28] at hm;exact absurd hm zd
  rw [zJ h5,zM ⟨rfl,hs⟩]
 ·rw [zM ⟨rfl,hs⟩]
theorem b5s {p:l9} (hI:B9 p) {m:Mv} (hm:m∈s8 p) {sg:Tx} (hs:H4 sg=true):zzP (body p m++sg)=some (P6 p m):=by
 rw [← a3L hI hm];rcases a7h hI hm with ⟨k,hk,h⟩ | ⟨h,hp,hk⟩ | ⟨h,hp,k1,k5,_⟩
 ·unfold P6;rw [h];rcases hk with rfl | rfl
  ·exact b0i (.inl rfl) hs
  ·exact b0i (.inr rfl) hs
 ·unfold P6;rw [h,zJ zd,zJ zd,zM hk];exact c1o hI hm (by split<;>simp) (.inl rfl) hs
 ·unfold P6;rw [h,zJ zd,zJ zd,zJ zo];exact b29 hI hm k1 k5 (c2h p m) (c2i p m) hs
theorem a3j.nx {c:UInt8} (h:a3j c):c≠120:=fun e=>by subst e;exact absurd h.x zd
theorem a3j.ne {c:UInt8} (h:a3j c):c≠61:=fun e=>by subst e;exact absurd h.e zd
theorem b4e.nx {c:UInt8} (h:b4e c):c≠120:=fun e=>by subst e;exact absurd h.x zd
theorem a6A {p:l9} {m:Mv} (h:castleKind p m=0) (hk:kindOf (sq p m.fr)=6) (t0:0≤m.to) (t1:m.to≤63):body p m=(if takes p m then r9 m.fr++[120] else [])++(r9 m.to++a0K m.to)++F8 m:=by
 unfold body;rw [h,zJ zd,zJ zd,zM hk,sq2 t0 t1]
theorem a5c {p:l9} {m:Mv} (h:castleKind p m=0) (hk:kindOf (sq p m.fr)≠6) (f0:0≤m.fr) (f1:m.fr≤63) (t0:0≤m.to) (t1:m.to≤63):body p m=a0H (kindOf (sq p m.fr))++(apF p m++apR p m)++a1e p m++(r9 m.to++a0K m.to):=by
 unfold body;rw [h,zJ zd,zJ zd,zJ hk,sq2 t0 t1,a9d f0 f1]
theorem a7i {p:l9} {m:Mv} {k:Int} (hk:k=1∨k=2) (h:castleKind p m=k):body p m=if k=1 then ooS else oooS:=by
 unfold body;rw [h];rcases hk with rfl | rfl<;>rfl
theorem b1i {p:l9} (hI:B9 p) {m:Mv} (hm:m∈s8 p):∃ c r,body p m=c::r∧(c=79∧castleKind p m≠0∨a3j c∧castleKind p m=0∧kindOf (sq p m.fr)=6∨H0 H3 c=true∧c≠79∧castleKind p m=0∧kindOf (sq p m.fr)≠6):=by
 obtain ⟨f0,f1,t0,t1,_⟩:=A7 hI hm;rcases a7h hI hm with ⟨k,hk,h⟩ | ⟨h,hp,hk⟩ | ⟨h,hp,k1,k5,_⟩
 ·rw [a7i hk h];refine ⟨79,if k=1 then [45,79] else [45,79,45,79],by split<;>rfl,.inl ⟨rfl,zo⟩⟩
 ·rw [a6A h hk t0 t1];obtain ⟨c,ec,h1⟩:=a3J m.fr;obtain ⟨d,ed,h2⟩:=a3J m.to;rw [ec,ed];split
  ·exact ⟨c,_,rfl,.inr (.inl ⟨h1,h,hk⟩)⟩
  ·exact ⟨d,_,rfl,.inr (.inl ⟨h2,h,hk⟩)⟩
 ·rw [a5c h zo f0 f1 t0 t1];obtain ⟨c,ec,h1,_,_,h4⟩:=a3e k1 k5;rw [ec];exact ⟨c,_,rfl,.inr (.inr ⟨h1,h4,h,zo⟩)⟩
theorem b2A {c:UInt8} (h:H0 H3 c=true) (h2:a3j c):False:=by rw [h2.l] at h;cases h
theorem a9f {p:l9} {x m:Mv}:x∈G9 p m↔x∈s8 p∧x.to=m.to∧x.fr≠m.fr∧sq p x.fr=sq p m.fr:=by
 unfold G9;rw [List.mem_filter];simp only [zP,zc,zW,zZ];exact ⟨fun ⟨a,⟨b,c⟩,d⟩=>⟨a,b,c,d⟩,fun ⟨a,b,c,d⟩=>⟨a,⟨b,c⟩,d⟩⟩
theorem b8R {p:l9} {x m:Mv} (hm:m∈G9 p x) (x0:0≤x.fr) (x1:x.fr≤63) (m0:0≤m.fr) (m1:m.fr≤63) {fo ro:Tx} (hf:fo=[]∨fo=r9 m.fr) (hr:ro=[]∨ro=a0K m.fr):apF p x++apR p x≠fo++ro:=by
 obtain ⟨_,_,hne,_⟩:=a9f.1 hm;have he:(G9 p x).isEmpty=false:=by
  cases e:G9 p x with
  | nil=>rw [e] at hm;cases hm
  | cons a b=>rfl
 obtain ⟨c1,e1,f1⟩:=a3J x.fr;obtain ⟨c2,e2,f2⟩:=a7g x0 x1;obtain ⟨d1,g1,k1⟩:=a3J m.fr;obtain ⟨d2,g2,k2⟩:=a7g m0 m1;have n1:c1≠d2:=fun e=>by subst e;exact absurd (f1.f.symm.trans k2.f) zd
 have n2:c2≠d1:=fun e=>by subst e;exact absurd (f2.f.symm.trans k1.f) zd
 have n3:c1=d1→x.fr%8=m.fr%8:=fun e=>a5V (by rw [e1,g1,e])
 have n4:c2=d2→x.fr/8=m.fr/8:=fun e=>a9c x0 x1 m0 m1 (by rw [e2,g2,e])
 unfold apF apR;simp only [he,yB,if_false];by_cases ha:(G9 p x).any (fun y=>decide (y.fr%8=x.fr%8))=true
 ·simp only [ha,Bool.not_true,yB,if_false];by_cases hb:(G9 p x).any (fun y=>decide (y.fr/8=x.fr/8))=true
  ·simp only [hb,Bool.not_true,yB,if_false];rw [e1,e2];rcases hf with rfl | rfl<;>rcases hr with rfl | rfl<;>(try simp only [g1,g2])<;>intro h
   ·cases h
   ·exact absurd h (by simp)
   ·exact absurd h (by simp)
   ·simp only [yS,yJ,List.cons.injEq,and_true] at h;have:=n3 h.1;have:=n4 h.2;omega
  ·rw [Bool.not_eq_true] at hb;simp only [hb,Bool.not_false,if_true];rw [e2];have hb2:∀ y∈G9 p x,¬ y.fr/8=x.fr/8:=fun y hy e=>by
    have:(G9 p x).any (fun y=>decide (y.fr/8=x.fr/8))=true:=List.any_eq_true.2 ⟨y,hy,zX e⟩;rw [hb] at this;cases this
   have:=hb2 m hm;rcases hf with rfl | rfl<;>rcases hr with rfl | rfl<;>(try simp only [g1,g2])<;>intro h
   ·cases h
   ·simp only [yJ,List.cons.injEq,and_true] at h;have:=n4 h;omega
   ·simp only [zm,yJ,List.cons.injEq,and_true] at h;exact n2 h
   ·exact absurd h (by simp)
 ·rw [Bool.not_eq_true] at ha;simp only [ha,Bool.not_false,if_true];rw [e1];have ha2:∀ y∈G9 p x,¬ y.fr%8=x.fr%8:=fun y hy e=>by
   have:(G9 p x).any (fun y=>decide (y.fr%8=x.fr%8))=true:=List.any_eq_true.2 ⟨y,hy,zX e⟩;rw [ha] at this;cases this
  have:=ha2 m hm;rcases hf with rfl | rfl<;>rcases hr with rfl | rfl<;>(try simp only [g1,g2])<;>intro h
  ·cases h
  ·simp only [zm,yJ,List.cons.injEq,and_true] at h;exact n1 h
  ·simp only [zm,List.cons.injEq,and_true] at h;have:=n3 h;omega
  ·exact absurd h (by simp)
theorem Mv.ext' {a b:Mv} (h1:a.fr=b.fr) (h2:a.to=b.to) (h3:a.promo=b.promo):a=b:=by cases a;cases b;simp_all
theorem b6B {p:l9} (hI:B9 p) {m x:Mv} (hm:m∈s8 p) (hx:x∈s8 p) (hc:castleKind p m=0) (hp:G6 p m) (k1:1≤kindOf (sq p m.fr)) (k5:kindOf (sq p m.fr)≤5) (h0:m.promo=0) {fo ro:Tx} (hf:fo=[]∨fo=r9 m.fr) (hr:ro=[]∨ro=a0K m.fr)
  (h:a0H (kindOf (sq p m.fr))++(fo++ro)++a1e p m++(r9 m.to++a0K m.to)=body p x):x=m:=by
 obtain ⟨f0,f1,t0,t1,_⟩:=A7 hI hm;obtain ⟨g0,g1,s0,s1,_⟩:=A7 hI hx;obtain ⟨c,ec,l1,_,_,l4⟩:=a3e k1 k5;obtain ⟨d,r,ed,hd⟩:=b1i hI hx;have hcd:c=d:=by rw [ed,ec] at h;exact (List.cons.inj h).1
 subst hcd;rcases hd with ⟨e,_⟩ | ⟨e,_⟩ | ⟨_,_,hcx,hk6⟩
 ·exact absurd e l4
 ·exact (b2A l1 e).elim
 rcases a7h hI hx with ⟨k,hk,hh⟩ | ⟨_,_,hk⟩ | ⟨_,hq,q1,q5,q0⟩
 ·omega
 ·exact absurd hk hk6
 rw [a5c hcx hk6 g0 g1 s0 s1] at h;obtain ⟨h2,h3⟩:=List.append_inj' h (by simp [r9,a0K])
 obtain ⟨h4,h5⟩:=List.append_inj h3 (by simp [r9])
 have hto:x.to=m.to:=by
  have e1:=a5V h4;have e2:=a9c t0 t1 s0 s1 h5;omega
 have htk:a1e p m=a1e p x:=by
  unfold a1e;rw [show takes p m=takes p x by unfold takes;rw [zV (show ¬ kindOf (sq p m.fr)=6 by omega),zV hk6,hto];rfl]
 rw [htk] at h2;have h2:=List.append_cancel_right h2;obtain ⟨e,ee,_⟩:=a3e q1 q5;obtain ⟨h6,h7⟩:=List.append_inj h2 (by rw [ec,ee];rfl)
 have hkk:=a9e k1 k5 q1 q5 h6;refine yf fun hne=>?_;have hfr:m.fr≠x.fr:=fun e=>hne (Mv.ext' e.symm hto (by rw [h0,q0]))
 have o1:=(W8 hI hp.there hp.own).2.2;have o2:=(W8 hI hq.there hq.own).2.2;exact b8R (a9f.2 ⟨hm,hto.symm,hfr,zo⟩) g0 g1 f0 f1 hf hr h7.symm
theorem b2B {p:l9} (hI:B9 p) {m x:Mv} (hm:G6 p m) (hx:G6 p x) (km:kindOf (sq p m.fr)=6) (kx:kindOf (sq p x.fr)=6) (ht:takes p x=takes p m) (hf:takes p m=true→x.fr%8=m.fr%8) (hto:x.to=m.to) (hpr:x.promo=m.promo):x=m:=by
 have hT:=hI.turn;obtain ⟨_,_,o1⟩:=W8 hI hm.there hm.own;obtain ⟨_,_,o2⟩:=W8 hI hx.there hx.own;have f0:=hm.f0;have f1:=hm.f1;have g0:=hx.f0;have g1:=hx.f1;have t0:=hm.t0;have t1:=hm.t1;have c1:=P8 hI hm.f0 hm.f1 hm.there hm.own hm.goal;have c2:=P8 hI hx.f0 hx.f1 hx.there hx.own hx.goal;rw [hto] at c2;have tm:∀ y:Mv,kindOf (sq p y.fr)=6→takes p y=(!decide (sq p y.to=0) || !decide (o7 y.fr=o7 y.to)):=fun y hy=>by unfold takes;rw [zX hy,yU]
 have u1:=tm m km;have u2:=tm x kx;rw [hto] at u2;have hu:up p.turn=1∨up p.turn=-1:=by unfold up;omega
 refine Mv.ext' ?_ hto hpr;rcases c1 with ⟨e,_⟩ | ⟨_,z1,fl1,rk1⟩ | ⟨_,fl1,rk1,_,_⟩
 ·exact absurd km e
 ·have tk:takes p m=false:=by rw [u1,zX z1,zX fl1.symm];rfl
  rcases c2 with ⟨e,_⟩ | ⟨_,_,fl2,rk2⟩ | ⟨_,fl2,rk2,_,_⟩
  ·exact absurd kx e
  ·unfold o7 l8 at *;rcases rk1 with rk1 | ⟨rk1,rr1,z3⟩<;>rcases rk2 with rk2 | ⟨rk2,rr2,z4⟩
   ·omega
   ·exfalso;rw [a4v zo zo zo zo] at z4;have:8*(x.fr/8+up p.turn)+x.fr%8=m.fr:=by omega
    rw [this] at z4;rw [z4] at km;exact absurd km zd
   ·exfalso;rw [a4v zo zo zo zo] at z3;have:8*(m.fr/8+up p.turn)+m.fr%8=x.fr:=by omega
    rw [this] at z3;rw [z3] at kx;exact absurd kx zd
   ·omega
  ·exfalso;rw [tk,u2,zV (show ¬ o7 x.fr=o7 m.to by omega)] at ht
   simp at ht
 ·have tk:takes p m=true:=by rw [u1,zV (show ¬ o7 m.fr=o7 m.to by omega)];simp
  have e:=hf tk;rcases c2 with ⟨e,_⟩ | ⟨_,z2,fl2,rk2⟩ | ⟨_,fl2,rk2,_,_⟩
  ·exact absurd kx e
  ·exfalso;rw [tk,u2,zX z2,zX fl2.symm] at ht;simp at ht
  ·unfold l8 at *;omega
theorem a4n {p:l9} (hI:B9 p) {m x:Mv} (hm:m∈s8 p) (hx:x∈s8 p) (hp:G6 p m) (hk:kindOf (sq p m.fr)=6) {z:Tx}
  (hz:z=(if takes p m then r9 m.fr++[120] else [])++(r9 m.to++a0K m.to)++F8 m∨z=r9 m.fr++a0K m.fr++a1e p m++(r9 m.to++a0K m.to)++F8 m∨z=a1e p m++(r9 m.to++a0K m.to)++F8 m) (h:z=body p x):x=m:=by
 obtain ⟨f0,f1,t0,t1,hpm⟩:=A7 hI hm;obtain ⟨g0,g1,s0,s1,hpx⟩:=A7 hI hx;obtain ⟨c1,e1,F1⟩:=a3J m.fr;obtain ⟨c2,e2,F2⟩:=a7g f0 f1;obtain ⟨c3,e3,F3⟩:=a3J m.to;obtain ⟨c4,e4,F4⟩:=a7g t0 t1;obtain ⟨d1,E1,G1⟩:=a3J x.fr;obtain ⟨d3,E3,G3⟩:=a3J x.to;obtain ⟨d4,E4,G4⟩:=a7g s0 s1;have hh:∃ c r,z=c::r∧(a3j c∨c=120):=by
  rw [e1,e2,e3,e4] at hz;rcases hz with rfl | rfl | rfl
  ·split
   ·exact ⟨_,_,rfl,.inl F1⟩
   ·exact ⟨_,_,rfl,.inl F3⟩
  ·exact ⟨_,_,rfl,.inl F1⟩
  ·rcases b5p p m with e | e<;>rw [e]
   ·exact ⟨_,_,rfl,.inl F3⟩
   ·exact ⟨_,_,rfl,.inr rfl⟩
 obtain ⟨c,r,ez,hc⟩:=hh;obtain ⟨d,r',ed,hd⟩:=b1i hI hx;have hcd:c=d:=by rw [ez,ed] at h;exact (List.cons.inj h).1
 subst hcd;have h79:c≠79:=by
  rcases hc with hc | rfl
  ·intro e;subst e;exact absurd hc.f zd
  ·decide
 have hlt:H0 H3 c≠true:=by
  rcases hc with hc | rfl
  ·intro e;exact b2A e hc
  ·decide
 rcases hd with ⟨e,_⟩ | ⟨hfc,hcx,hkx⟩ | ⟨e,_⟩
 ·exact absurd e h79
 rotate_left
 ·exact absurd e hlt
 have hq:G6 p x:=by
  rcases a7h hI hx with ⟨k,hk,hh⟩ | ⟨_,hq,_⟩ | ⟨_,hq,_⟩
  ·omega
  ·exact hq
  ·exact hq
 have hpi:=fun (e:F8 x=F8 m)=>b6A (a:=x) (b:=m) (hpx.imp id fun q=>⟨q.1,q.2.1⟩) (hpm.imp id fun q=>⟨q.1,q.2.1⟩) e;have hti:d3=c3→d4=c4→x.to=m.to:=fun a b=>by
  have q1:=a5V (a:=x.to) (b:=m.to) (by rw [E3,e3,a])
  have q2:=a9c s0 s1 t0 t1 (by rw [E4,e4,b])
  omega
 have hfi:d1=c1→x.fr%8=m.fr%8:=fun a=>a5V (by rw [E1,e1,a])
 rw [a6A hcx hkx s0 s1,E1,E3,E4] at h;rw [e1,e2,e3,e4] at hz;have hpn:∀ y:Mv,y.promo=0∨2≤y.promo∧y.promo≤5∧kindOf (sq p y.fr)=6→F8 y=[]∨∃ c,F8 y=[61,c]:=fun y hy=>by
  unfold F8;rcases hy with e | ⟨e1,e2,_⟩
  ·exact .inl (zM e)
  ·right;obtain ⟨c,ec,_⟩:=a3e (k:=y.promo) zo e2;rw [zJ zo,ec];exact ⟨_,rfl⟩
 have main:(if takes p m then [c1]++[120] else [])++([c3]++[c4])++F8 m=(if takes p x then [d1]++[120] else [])++([d3]++[d4])++F8 x→x=m:=by
  intro h;by_cases tm:takes p m=true<;>by_cases tx:takes p x=true
  ·rw [zM tm,zM tx] at h;simp only [yS,yJ,List.cons.injEq,true_and] at h;exact b2B hI hp hq hk hkx (tx.trans tm.symm) (fun _=>hfi h.1.symm) (hti h.2.1.symm h.2.2.1.symm) (hpi h.2.2.2.symm)
  ·rw [zM tm,zJ tx] at h;simp only [yS,yJ,List.cons.injEq] at h;exact absurd h.2.1.symm G4.nx
  ·rw [zJ tm,zM tx] at h;simp only [yS,yJ,List.cons.injEq] at h;exact absurd h.2.1 F4.nx
  ·rw [zJ tm,zJ tx] at h;simp only [yS,yJ,List.cons.injEq] at h;exact b2B hI hp hq hk hkx (by rw [Bool.not_eq_true] at tm tx;rw [tm,tx]) (fun e=>absurd e tm) (hti h.1.symm h.2.1.symm) (hpi h.2.2.symm)
 rcases hz with hz | hz | hz
 ·exact main (hz.symm.trans h)
 ·exfalso;rw [hz] at h;by_cases tx:takes p x=true
  ·rw [zM tx] at h;simp only [yS,yJ,List.cons.injEq] at h;exact F2.nx h.2.1
  ·rw [zJ tx] at h;simp only [yS,yJ,List.cons.injEq] at h;have h3:=h.2.2;rcases hpn x hpx with e | ⟨c,e⟩<;>rw [e] at h3<;>rcases b5p p m with g | g<;>rw [g] at h3
   ·cases h3
   ·cases h3
   ·exact F3.ne (List.cons.inj h3).1
   ·exact absurd (List.cons.inj h3).1 zd
 ·rw [hz] at h;by_cases tm:takes p m=true
  ·exfalso;rw [show a1e p m=[120] by unfold a1e;rw [zM tm]] at h
   by_cases tx:takes p x=true
   ·rw [zM tx] at h;exact G1.nx (List.cons.inj h).1.symm
   ·rw [zJ tx] at h;exact G3.nx (List.cons.inj h).1.symm
  ·apply main;rw [show a1e p m=[] by unfold a1e;rw [zJ tm]] at h
   rw [zJ tm];exact h
theorem b4f {p:l9} (hI:B9 p) {m x:Mv} (hm:m∈s8 p) (hx:x∈s8 p) {k:Int} (hk:k=1∨k=2) (h:castleKind p m=k) (h2:castleKind p x=k):x=m:=by
 have get:∀ y∈s8 p,castleKind p y=k→y=⟨4+56*p.turn,4+56*p.turn+(if k=1 then 2 else -2),0⟩:=by
  intro y hy hyk;rcases (L9 hI y).1 hy with ⟨hp,_⟩ | ⟨r,hr,_⟩
  ·have:=(K7 hI hp).2;omega
  ·obtain ⟨r4,rt,rb,hc⟩:=I1 hI hr;have hmv:=hc.mv;have hK:=hc.k;have hw:(if A4 (r:Int)<homeK r then (-1:Int) else 1)=1∨(if A4 (r:Int)<homeK r then (-1:Int) else 1)=-1:=by split<;>simp
   generalize (if A4 (r:Int)<homeK r then (-1:Int) else 1)=w at *
   have hking:=hc.king;unfold castleKind at hyk;rw [hmv] at hyk ⊢;simp only [hking,S4 hI] at hyk;rw [← hK];rcases hw with rfl | rfl
   ·rw [zJ zd,zM zo] at hyk;subst hyk;rfl
   ·rw [zJ zd,zJ zo,zM zo] at hyk;subst hyk;rfl
 rw [get m hm h,get x hx h2]
theorem b2C {p:l9} (hI:B9 p) {m x:Mv} (hm:m∈s8 p) (hx:x∈s8 p) {k:Int} (hk:k=1∨k=2) (h:castleKind p m=k) (hb:(if k=1 then ooS else oooS)=body p x):x=m:=by
 obtain ⟨c,r,ec,hc⟩:=b1i hI hx;have h79:c=79:=by
  rw [ec] at hb;rcases hk with rfl | rfl<;>exact (List.cons.inj hb).1.symm
 subst h79;rcases hc with ⟨_,hcx⟩ | ⟨e,_⟩ | ⟨_,e,_⟩
 ·rcases a7h hI hx with ⟨k',hk',hh⟩ | ⟨hh,_⟩ | ⟨hh,_⟩
  ·rw [a7i hk' hh] at hb;have:k'=k:=by
    rcases hk with rfl | rfl<;>rcases hk' with rfl | rfl<;>first | rfl | exact absurd hb zd
   subst this;exact b4f hI hm hx hk' h hh
  ·exact absurd hh hcx
  ·exact absurd hh hcx
 ·exact absurd e.f zd
 ·exact absurd rfl e
inductive a7j (p:l9) (m:Mv):D5→Prop
 | own:a7j p m (P6 p m)
 | pawn (h:castleKind p m=0) (hk:kindOf (sq p m.fr)=6):a7j p m (a3K p m (r9 m.fr) (a0K m.fr))
 | piece (h:castleKind p m=0) (hk:kindOf (sq p m.fr)≠6) (fo ro:Tx) (hf:fo=[]∨fo=r9 m.fr) (hr:ro=[]∨ro=a0K m.fr) (ha:apart p m=[]∨apart p m=ro∨apart p m=fo∨apart p m=fo++ro):a7j p m (a0D p m fo ro)
theorem b8S (o:Tx):a1w (a5T o)=[]:=rfl
theorem a9g {p:l9} (hI:B9 p) {m x:Mv} (hm:m∈s8 p) (hx:x∈s8 p) {q:D5} (hq:a7j p m q):fits q (body p x)↔x=m:=by
 obtain ⟨f0,f1,t0,t1,hpm⟩:=A7 hI hm;have pieceL:∀ fo ro:Tx,castleKind p m=0→G6 p m→1≤kindOf (sq p m.fr)→kindOf (sq p m.fr)≤5→m.promo=0→(fo=[]∨fo=r9 m.fr)→(ro=[]∨ro=a0K m.fr)→fits (a0D p m fo ro) (body p x)→x=m:=by
  intro fo ro hc hp k1 k5 h0 hf hr h;have one:=fun {a b:Tx} ha hb e=>b6B hI hm hx hc hp k1 k5 h0 (fo:=a) (ro:=b) ha hb e;obtain ⟨c,ec,_⟩:=a3e k1 k5;have hne:a0H (kindOf (sq p m.fr))≠[]:=by rw [ec];simp
  unfold fits a1w at h;rw [zM (show (a0D p m fo ro).pc≠[] from hne)] at h;unfold V8 a0D at h;simp only [zm,yQ,zx,or_false] at h;rcases h with h | h | h | h
  ·exact one hf hr (by rw [← h];simp)
  ·exact one (a:=[]) (b:=[]) (.inl rfl) (.inl rfl) (by rw [h];simp)
  ·exact one (a:=[]) (b:=ro) (.inl rfl) hr (by rw [h];simp)
  ·exact one (a:=fo) (b:=[]) hf (.inl rfl) (by rw [h];simp)
 have plain_of:castleKind p m=0→G6 p m:=fun h=>by
  rcases a7h hI hm with ⟨k,hk,hh⟩ | ⟨_,hq,_⟩ | ⟨_,hq,_⟩
  ·omega
  ·exact hq
  ·exact hq
 cases hq with
 | own =>
  constructor
  ·intro h;rcases a7h hI hm with ⟨k,hk,hc⟩ | ⟨hc,hp,hk⟩ | ⟨hc,hp,k1,k5,h0⟩
   ·have e:P6 p m=a5T (if k=1 then ooS else oooS):=by unfold P6;rw [hc];rcases hk with rfl | rfl<;>rfl
    rw [e] at h;unfold fits at h;rw [b8S] at h;rcases h with h | h
    ·exact b2C hI hm hx hk hc (by rw [← h];unfold V8 a5T;simp)
    ·cases h
   ·have e:P6 p m=a3K p m (if takes p m then r9 m.fr else []) []:=by unfold P6;rw [hc,zJ zd,zJ zd,zM hk]
    rw [e] at h;have he:¬ (a3K p m (if takes p m then r9 m.fr else []) []).pc≠[]:=fun e=>e rfl
    unfold fits a1w at h;rw [zJ he] at h;clear he e;unfold V8 a3K a1e at h;refine a4n hI hm hx hp hk (z:=body p x) (.inl ?_) rfl;cases tm:takes p m
    ·rw [tm] at h;simp at h;rw [← h];simp
    ·rw [tm] at h;simp at h;rcases h with h | h
     ·rw [← h];simp
     ·rw [h];simp
   ·have e:P6 p m=a0D p m (apF p m) (apR p m):=by unfold P6;rw [hc,zJ zd,zJ zd,zJ zo]
    rw [e] at h;exact pieceL _ _ hc hp k1 k5 h0 (c2h p m) (c2i p m) h
  ·rintro rfl;exact .inl (a3L hI hm)
 | pawn hc hk =>
  have hp:=plain_of hc;unfold fits a1w;rw [zJ (fun e=>e rfl)];have n1:r9 m.fr≠[]:=by simp [r9]
  have n2:a0K m.fr≠[]:=by simp [a0K]
  constructor
  ·intro h;unfold V8 a3K at h;rw [zM (show r9 m.fr≠[]∧a0K m.fr≠[] from ⟨n1,n2⟩)] at h;simp only [zm,yJ,zq,zY] at h;rcases h with h | h | h
   ·exact a4n hI hm hx hp hk (z:=body p x) (.inr (.inl (by rw [← h];simp))) rfl
   ·by_cases tm:takes p m=true
    ·have e:a1e p m=[120]:=by unfold a1e;rw [zM tm]
     rw [e,zM (by simp)] at h
     refine a4n hI hm hx hp hk (z:=body p x) (.inl ?_) rfl;rw [zM tm,zY.1 h];simp
    ·have e:a1e p m=[]:=by unfold a1e;rw [zJ tm]
     simp [e] at h
   ·exact a4n hI hm hx hp hk (z:=body p x) (.inr (.inr (by rw [h];simp))) rfl
  ·rintro rfl;right;rw [a6A hc hk t0 t1];unfold a3K a1e;cases tm:takes p x
   ·simp [n1,n2]
   ·simp [n1]
 | piece hc hk fo ro hf hr ha =>
  have hp:=plain_of hc;obtain ⟨k1,k6,_⟩:=W8 hI hp.there hp.own;have h0:m.promo=0:=by
   rcases hpm with e | ⟨_,_,e⟩
   ·exact e
   ·exact absurd e hk
  refine ⟨pieceL _ _ hc hp k1 zo h0 hf hr,?_⟩;rintro rfl;obtain ⟨c,ec,_⟩:=a3e k1 zo;have hne:a0H (kindOf (sq p x.fr))≠[]:=by rw [ec];simp
  rw [a5c hc hk f0 f1 t0 t1,← a9d f0 f1];unfold fits a1w;rw [zM (show (a0D p x fo ro).pc≠[] from hne)];unfold V8 a0D;rcases ha with e | e | e | e<;>rw [e]<;>simp
def a7k (q:D5) (t:Tx):Bool:=decide (fits q t)
theorem a2G {q:D5} {t:Tx}:a7k q t=true↔fits q t:=decide_eq_true_iff
def b2D (p:l9) (q:D5):Option PM:=(O0 p).find? fun x=>a7k q (body p x.mv)
theorem b4g {p:l9} (hI:B9 p) {m:Mv} (hm:m∈s8 p) {q:D5} (hq:a7j p m q):∃ x∈O0 p,b2D p q=some x∧x.mv=m:=by
 obtain ⟨h1,h2⟩:=a1o hI;obtain ⟨y,hy,ey⟩:=h2 m hm;unfold b2D;cases e:(O0 p).find? fun x=>a7k q (body p x.mv) with
 | none =>
  have:=List.find?_eq_none.1 e y hy;rw [ey] at this;exact absurd (a2G.2 ((a9g hI hm hm hq).2 rfl)) this
 | some x =>
  have hx:=List.mem_of_find?_eq_some e;have hd:=List.find?_some e;exact ⟨x,hx,rfl,(a9g hI hm (h1 x hx).1 hq).1 (a2G.1 hd)⟩
end Ch
end
section
open Go Go.RowKit
open E
open Ch Bb
theorem b8T {s:Tx} {i:Nat} (h:i<s.length) (set:Tx):inS s i set=H0 set s[i]:=by
 unfold inS;rw [List.getElem?_eq_getElem h]
theorem b5t {s:Tx} {i:Nat} (h:s.length≤i) (set:Tx):inS s i set=false:=by
 unfold inS;rw [List.getElem?_eq_none h]
theorem a5W {s set:Tx} {i:Nat} (h:inS s i set=true):oneN s i set=1:=by unfold oneN;rw [zM h]
theorem a6B {s set:Tx} {i:Nat} (h:inS s i set=false):oneN s i set=0:=by unfold oneN;rw [h];rfl
theorem c2j {a b:UInt8} (h:¬ ((a.toNat:Nat):Int)=(b.toNat:Nat)):a≠b:=fun e=>h (by rw [e])
theorem c2k {a b:UInt8} (h:((a.toNat:Nat):Int)=(b.toNat:Nat)):a=b:=UInt8.toNat_inj.1 zo
theorem c4P {s set:Tx} {i b t:Nat} {fz:Nat×Nat} (hi:i≤100000) (hs:s.length≤100000) (hset:set.length≤1000) (w:World) (hb:w.heap[b]?=some (.cells #[m9 s] t fz)) :
  Calls G.P 347 #[.int .i64 i,m9 set,.pointer (some ⟨b,0,none⟩)] w (L4 (.int .i64 (oneN s i set:Nat)) w):=by
 have hsz:(tx s).size=s.length:=C3 _;have hset2:(tx set).size=set.length:=C3 _;refine zN Tryz.func347 ?_;refine zR ?_;refine d9 _ (D8 hb rfl rfl) (zR ?_);rw [hsz];apply E.d6<;>intro h
 ·have hlt:i<s.length:=by omega
  have hx:=a8X hlt;clear h;refine zR ?_;refine A9 (σ:=Nat) [5,6] 7 (fun j=>[(6,.int .i64 j)]) (fun j w'=>j≤set.length∧(∀ k,k<j→set[k]?≠some s[i])∧Cl w w') (fun j=>set.length-j) zk 0 ⟨zo,fun k hk=>by omega,Cl.refl w⟩ ⟨rfl,trivial⟩ ?_
  rintro j jj w2 ⟨hj,hno,c2⟩;have nj:=C0 (i:=j) zo;refine zR ?_;rw [hset2];apply E.d6<;>intro h
  ·have hj2:j<set.length:=by omega
   have hy:=a8X hj2;clear h;refine zR ?_;refine zK 7 ?_;refine zR ?_;refine m7 _ (fun w' hw=>D8 ((c2.trans hw).blk hb) rfl rfl) ?_;refine E.A2 (E5.2 ⟨zo,by rw [hsz];omega⟩) (zR ?_)
   refine E.A2 (E5.2 ⟨zo,by rw [hset2];omega⟩) (zR ?_)
   intro w3 c3;rw [hx,hy];refine zR ?_;apply E.d6<;>intro h
   ·have e:=c2k h;refine zR ?_;refine ⟨D0 ?_,c2.trans c3⟩;rw [a5W];rfl;rw [b8T hlt,e];exact a3H.2 (yM hj2)
   ·have e:=c2j h;refine zR ?_;refine ⟨j+1,⟨d7 nj,trivial⟩,⟨zo,fun k hk=>?_,c2.trans c3⟩,zo⟩;by_cases e2:k<j
    ·exact hno k e2
    ·have:k=j:=by omega
     subst this;rw [List.getElem?_eq_getElem hj2];intro e3;injection e3 with e3;exact e e3.symm
  ·refine zR ?_;refine ⟨D0 ?_,c2⟩;rw [a6B];rfl;rw [b8T hlt];rw [Bool.eq_false_iff];intro hc;obtain ⟨k,hk⟩:=List.mem_iff_getElem?.1 (a3H.1 hc);exact hno k (by have:=(List.getElem?_eq_some_iff.1 hk).1;omega) hk
 ·refine zR ?_;exact ⟨D0 (by rw [a6B (b5t zo _)];rfl),Cl.refl _⟩
theorem a1A (c:UInt8) (r:Tx):H4 (c::r)=if H0 a9a c then H4 r else if (c::r).take 4=epS then H4 (r.drop 3) else false:=by rw [H4]
theorem c2l {c:UInt8}:H0 a9a c=true↔c=43∨c=35∨c=33∨c=63:=by rw [a3H];simp [a9a]
theorem a9h {s:Tx} {i:Nat} (hi:i≤s.length) (hs:s.length≤100000) (w:World):Calls G.P 348 #[m9 s,.int .i64 i] w (D9 (.bool (H4 (s.drop i))) w):=by
 have hsz:(tx s).size=s.length:=C3 _;refine zN Tryz.func348 ?_;refine zR ?_;refine A9 (σ:=Nat) [1,4] 5 (fun j=>[(1,.int .i64 j)]) (fun j w'=>j≤s.length∧H4 (s.drop j)=H4 (s.drop i)∧w'=w) (fun j=>s.length-j) zk i ⟨hi,rfl,rfl⟩ ⟨rfl,trivial⟩ ?_;rintro j jj w2 ⟨hj,ht,rfl⟩;have nj:=C0 (i:=j) zo;refine zR ?_;rw [hsz];apply E.d6<;>intro h
 ·have hlt:j<s.length:=by omega
  have hx:=a8X hlt;clear h;have hd:s.drop j=s[j]::s.drop (j+1):=List.drop_eq_getElem_cons hlt;rw [hd,a1A] at ht;have n4:IntKind.i64.wrap ((j:Int)+4)=((j+4:Nat):Int):=by rw [g9 zo zo];push_cast;omega
  have yes:(s[j]=43∨s[j]=35∨s[j]=33∨s[j]=63)→H4 (s.drop (j+1))=H4 (s.drop i):=fun h=>by rw [← ht,zM (c2l.2 h)]
  refine zR ?_;refine E.A2 (E5.2 ⟨zo,by rw [hsz];omega⟩) ?_
  have lit:∀ n:UInt8,(((tx s).get! (j:Int).toNat).toNat:Int)=(n.toNat:Nat)→s[j]=n:=fun n h=>by rw [hx] at h;exact c2k h
  have nlit:∀ n:UInt8,¬ (((tx s).get! (j:Int).toNat).toNat:Int)=(n.toNat:Nat)→s[j]≠n:=fun n h=>by rw [hx] at h;exact c2j h
  have gd:inB (j:Int) (tx s).size=true:=E5.2 ⟨zo,by rw [hsz];omega⟩
  refine zR ?_;apply E.d6<;>intro h
  ·have h1:=lit 43 h;refine zR ?_;exact ⟨j+1,⟨d7 nj,trivial⟩,⟨zo,yes (.inl h1),rfl⟩,zo⟩
  have h1:=nlit 43 h;clear h;refine zR ?_;refine E.A2 gd (zR ?_);apply E.d6<;>intro h
  ·have h2:=lit 35 h;refine zR ?_;exact ⟨j+1,⟨d7 nj,trivial⟩,⟨zo,yes (.inr (.inl h2)),rfl⟩,zo⟩
  have h2:=nlit 35 h;clear h;refine zR ?_;refine E.A2 gd (zR ?_);apply E.d6<;>intro h
  ·have h3:=lit 33 h;refine zR ?_;exact ⟨j+1,⟨d7 nj,trivial⟩,⟨zo,yes (.inr (.inr (.inl h3))),rfl⟩,zo⟩
  have h3:=nlit 33 h;clear h;refine zR ?_;refine E.A2 gd (zR ?_);apply E.d6<;>intro h
  ·have h4:=lit 63 h;refine zR ?_;exact ⟨j+1,⟨d7 nj,trivial⟩,⟨zo,yes (.inr (.inr (.inr h4))),rfl⟩,zo⟩
  have h4:=nlit 63 h;clear h;rw [zJ (fun e=>by rcases c2l.1 e with e | e | e | e<;>contradiction)] at ht
  refine zR ?_;rw [hsz,n4];apply E.d6<;>intro h
  ·have h5:j+4≤s.length:=by omega
   clear h;refine zR ?_;rw [n4];refine a0U ((s.drop j).take 4) rfl rfl rfl rfl zo zo zo ?_ ?_
   ·rw [show ((j+4:Nat):Int).toNat-(j:Int).toNat=4 by omega,zg]
   refine zR ?_;apply E.d6<;>intro h
   ·have e:(s.drop j).take 4=epS:=N5.1 h;rw [← hd,zM e] at ht;refine zR ?_;exact ⟨j+4,⟨d7 n4,trivial⟩,⟨h5,by rw [← ht,List.drop_drop],rfl⟩,zo⟩
   ·have e:¬ (s.drop j).take 4=epS:=fun e=>h (by rw [e];rfl)
    rw [← hd,zJ e] at ht;refine zR ?_;exact ⟨o9 ht,rfl⟩
  ·have e:¬ (s.drop j).take 4=epS:=fun e=>by
    have:=yG List.length e;rw [yc,List.length_drop] at this;have e2:epS.length=4:=rfl;omega
   rw [← hd,zJ e] at ht;refine zR ?_;exact ⟨o9 ht,rfl⟩
 ·have e:j=s.length:=by omega
  rw [e,List.drop_length,U3] at ht;refine zR ?_;exact ⟨o9 ht,rfl⟩
set_option maxHeartbeats 1000000 in
theorem b6C (s0:Tx) (hs:s0.length≤1000) (w:World):Calls G.P 190 #[m9 s0,m9 [32]] w (fun r w'=>∃ v,r = .returned v∧Row 9 1 H2 w.heap.size w' v (a2u 32 [] s0)∧Cl w w'):=by
 have h1:(tx [32]).size=1:=C3 _;refine zN Tryz.func190 ?_;refine zR ?_;refine A9 (σ:=List Tx×Value×Tx) [0,4,5,8] 9 (fun s=>[(0,m9 s.2.2),(5,s.2.1)]) (fun s w'=>Cl w w'∧Row 9 1 H2 w.heap.size w' s.2.1 s.1∧s.1++a2u 32 [] s.2.2=a2u 32 [] s0∧s.1.length+s.2.2.length≤1000) (fun s=>s.2.2.length) zk
  ([],.slice none 0 0,s0) ⟨Cl.refl _,Row.nil _ _,rfl,by simpa using hs⟩ ⟨rfl,rfl,trivial⟩ ?_
 rintro ⟨l,v,s⟩ j w1 ⟨c1,hr,he,hl⟩;simp only at c1 hr he hl ⊢;obtain ⟨a,c,rfl,_⟩:=hr.form;refine zR ?_;refine g8 (a62 32 s zo _) (zR ?_);by_cases hm:(32:UInt8)∈s
 ·have hix:ixZ 32 s=(s.idxOf 32:Int):=zM hm;obtain ⟨e1,e2,e3⟩:=a67 hm;rw [c1g hm] at he;rw [hix];refine zR ?_;refine a5I (l:=s) (s.take (s.idxOf 32)) rfl rfl rfl zo zo (by rw [zg]) (zR ?_)
  refine B6 elStr [m9 (s.take (s.idxOf 32))] (by rw [zb];rfl) (by simp [Value.cells,m9]) rfl zd zd ?_
  have cb:=Cl.alloc w1 (.cells (([m9 (s.take (s.idxOf 32))]:List Value).flatMap fun v=>v.cells.toList).toArray 9);have hbx:Row 9 1 H2 w1.heap.size (w1.alloc (.cells (([m9 (s.take (s.idxOf 32))]:List Value).flatMap fun v=>v.cells.toList).toArray 9)) (.slice (some ⟨w1.heap.size,0,none⟩) 1 1) [s.take (s.idxOf 32)]:=C1 p9 w1 [s.take (s.idxOf 32)] (zU rfl) _ rfl;generalize w1.alloc (.cells (([m9 (s.take (s.idxOf 32))]:List Value).flatMap fun v=>v.cells.toList).toArray 9)=w2 at *;refine zR ?_;refine F7 elStr (l:=l) (news:=[s.take (s.idxOf 32)]) rfl (hr.step cb) rfl hbx p9 U6 (by simp only [zh,za];omega) zd (c1.trans cb).size fun v' w3 hr' hg=>?_
  have c3:Cl w w3:=hg.toCl rfl (c1.trans cb);obtain ⟨a9,c9,rfl,_⟩:=hr'.form;refine zR ?_;rw [h1];have en:IntKind.i64.wrap ((s.idxOf 32:Int)+((1:Nat):Int))=((s.idxOf 32+1:Nat):Int):=by rw [g9 zo zo];push_cast;rfl
  rw [en];refine a8I (l:=s) (s.drop (s.idxOf 32+1)) rfl rfl rfl zo zo (by rw [zg]) (zR ?_)
  exact ⟨(l++[s.take (s.idxOf 32)],_,s.drop (s.idxOf 32+1)),⟨rfl,rfl,trivial⟩,⟨c3,hr',by simpa using he,by simp;omega⟩,by simp;omega⟩
 ·have hix:ixZ 32 s=-1:=zJ hm;rw [a4m hm,yJ] at he;rw [hix];refine zR ?_;refine B6 elStr [m9 s] (by rw [zb];rfl) (by simp [Value.cells,m9]) rfl zd zd ?_
  have cb:=Cl.alloc w1 (.cells (([m9 s]:List Value).flatMap fun v=>v.cells.toList).toArray 9);have hbx:Row 9 1 H2 w1.heap.size (w1.alloc (.cells (([m9 s]:List Value).flatMap fun v=>v.cells.toList).toArray 9)) (.slice (some ⟨w1.heap.size,0,none⟩) 1 1) [s]:=C1 p9 w1 [s] (zU rfl) _ rfl;generalize w1.alloc (.cells (([m9 s]:List Value).flatMap fun v=>v.cells.toList).toArray 9)=w2 at *;refine zR ?_;refine F7 elStr (l:=l) (news:=[s]) rfl (hr.step cb) rfl hbx p9 U6 (by simp only [zh,za];omega) zd (c1.trans cb).size fun v' w3 hr' hg=>?_
  have c3:Cl w w3:=hg.toCl rfl (c1.trans cb);obtain ⟨a9,c9,rfl,_⟩:=hr'.form;refine zR ?_;exact ⟨_,rfl,by rw [← he];exact hr',c3⟩
theorem a5X {p:l9} (hh:p.half.toNat<10000000) (hf:p.full.toNat<10000000):(fenT p).length≤1000:=by
 have h1:=a0o p 8;have h2:=a4a p.turn;have h3:=a15 p.castle;have h4:=a7F p.ep;have h5:=a2Y 7 p.half.toNat zd zo;have h6:=a2Y 7 p.full.toNat zd zo;unfold fenT;simp only [zF,zh,za];omega
set_option maxHeartbeats 1000000 in
theorem b2E {p:l9} (hI:B9 p) (hh:p.half<10000000) (hf:p.full<10000000) (w:World) (hT:C9 w) (hS:Spc w) :
  Calls G.P 134 #[m9 (fenT p)] w (fun r w'=>Cl w w'∧∃ P b,r = .returned (.tuple #[.pointer (some ⟨P,0,none⟩),.nilIface])∧w.heap.size≤P∧w.heap.size≤b
  ∧w'.heap[P]?=some (.cells (hdA b (C7 p false) (.slice none 0 0)) 173 (0,0))∧w'.heap[b]?=some (.cells (I4 (mbOf p)) 237 (0,0))):=by
 have hh0:=hI.h0;have hf1:=hI.f1;have hlen:=a5X (p:=p) zo zo;have hparts:=b6r p;have hep:=c4I hI.pass;have ht:=hI.turn;have hA1:=fun w=>b8G p.half.toNat zo w;have hA2:=fun w=>b8G p.full.toNat zo w;rw [zi hh0] at hA1;rw [zi (by omega:0≤p.full)] at hA2
 have hTr:=b61 hI.pc zo w hS;generalize fenT p=T at *;refine zN Tryz.func134 ?_;refine zR ?_;refine o8 hTr fun w1 c1=>zR ?_;refine m8 (b6C T hlen w1) ?_;rintro e w2 ⟨v,rfl,hr,c2⟩;refine ⟨_,rfl,?_⟩;rw [hparts] at hr;obtain ⟨a,c,rfl,ha⟩:=hr.form;obtain ⟨g,rfl⟩:=ha (by simp)
 have c02:=c1.trans c2;have hld:=fun (i:Nat) (hi:i<6) (w':World) (hc:Cl w2 w') {v:Value} (hv:(H2 ([boardT p 8,turnT p.turn,castT p.castle,epT p.ep,dec p.half.toNat,dec p.full.toNat][i]'(by simpa using hi)))[0]?=some v)=>N9 (t:=9) (hr.step hc) p9 i 0 (by simpa using hi) zd hv (show i=i*1+0 by omega) rfl
 have hl0:=fun w' hc=>hld 0 zd w' hc (v:=m9 (boardT p 8)) rfl;have hl1:=fun w' hc=>hld 1 zd w' hc (v:=m9 (turnT p.turn)) rfl;have hl2:=fun w' hc=>hld 2 zd w' hc (v:=m9 (castT p.castle)) rfl;have hl3:=fun w' hc=>hld 3 zd w' hc (v:=m9 (epT p.ep)) rfl;have hl4:=fun w' hc=>hld 4 zd w' hc (v:=m9 (dec p.half.toNat)) rfl;have hl5:=fun w' hc=>hld 5 zd w' hc (v:=m9 (dec p.full.toNat)) rfl;clear hld hr hparts ha;refine zR ?_;refine d9 _ (hl0 _ (Cl.refl _)) (zR ?_);refine m8 (b3Y hI w2 (hT.cl c02)) ?_;rintro e w3 ⟨c3,b,rfl,sb,hB⟩;refine ⟨_,rfl,?_⟩;refine zR ?_;refine I8 true (E7 rfl) (zR ?_);refine d9 _ (hl1 _ c3) (zR ?_);refine g8 (b6s p.turn ht _) (zR ?_);refine E.p8 zo (zR ?_);refine d9 _ (hl2 _ c3) (zR ?_);refine o8 (b1h p.castle hI.c0 hI.c1 w3) fun w4 c4=>?_;have c24:=c3.trans c4;refine zR ?_;refine I8 true (E7 rfl) (zR ?_);refine d9 _ (hl3 _ c24) (zR ?_);refine o8 (b8E p.ep (by rcases hep with h | h;exact .inl h;exact .inr ⟨h.1,h.2.1,zo⟩) _) fun w4 c4'=>?_
 have c24:=c24.trans c4';have c4:=c4.trans c4';refine zR ?_;refine I8 true (E7 rfl) (zR ?_);refine d9 _ (hl4 _ c24) (zR ?_);refine o8 (hA1 w4) fun w5 c5=>?_;have c25:=c24.trans c5;refine zR ?_;refine I8 true (E7 rfl) (zR ?_);refine E.p8 zo (zR ?_);repeat (refine E.p8 (show ¬ p.half<0 by omega) ?_;refine zR ?_)
 refine d9 _ (hl5 _ c25) (zR ?_);refine o8 (hA2 w5) fun w6 c6=>?_;have c26:=c25.trans c6;refine zR ?_;refine I8 true (E7 rfl) (zR ?_);refine E.p8 zo (zR ?_);repeat (refine E.p8 (show ¬ p.full<1 by omega) ?_;refine zR ?_)
 refine s7 (hdA b (C7 p false) (.slice none 0 0)) zk (zR ?_);have cF:=Cl.alloc w6 (.cells (hdA b (C7 p false) (.slice none 0 0)) 173);have s06:=(c02.trans c26).size;exact ⟨(c02.trans c26).trans cF,_,b,rfl,s06,by have:=c02.size;omega,g7 _ _,cF.blk (c6.blk (c5.blk (c4.blk hB)))⟩
end
section
open Go Go.RowKit
open E
theorem b4h {p:l9} (hI:Ch.B9 p) (hN:a06 p):Fen p:=⟨hI.pc,hI.c0,hI.c1,hI.h0,by have:=hN.1;omega,by have:=hI.f1;omega,by have:=hN.2;omega⟩
theorem c1p {p:l9} (hI:Ch.B9 p) {m:Mv} (hm:m∈Ch.s8 p):(Ch.made p m).ep≤63:=by
 have hmo:=a0B hI hm;obtain ⟨⟨a0,a1⟩,⟨b0,b1⟩,d0,d1⟩:=hmo;show (if Ch.H7 p m then (m.fr+m.to)/2 else -1)≤63
 split<;>omega
theorem b8U (p:l9) (hI:Ch.B9 p) (hN:Nm p) (m:Mv) (hm:m∈Ch.s8 p) (me:Int) (ou:Tx) (w:World):Calls G.P 40 #[E2 p,mvV m,.int .i64 me,m9 ou] w (L4 (stV (Ch.stepOf p m (me,ou))) w):=by
 have hmo:=a0B hI hm;have hI2:=Ch.B9.made hI hm;have hN2:=hN.made hI m;have hep:=c1p hI hm;have hbt:=b4W ⟨m,Ch.told p m,Ch.sanT p m,Ch.lanT p m,Ch.uciT m,Ch.fenT (Ch.made p m),Ch.xfenT (Ch.made p m),Ch.made p m,ou,me,Ch.statusOf (Ch.made p m)⟩;have hun:Ch.stepOf p m (me,ou)=⟨m,Ch.told p m,Ch.sanT p m,Ch.lanT p m,Ch.uciT m,Ch.fenT (Ch.made p m),Ch.xfenT (Ch.made p m),Ch.made p m,ou,me,Ch.statusOf (Ch.made p m)⟩:=by unfold Ch.stepOf;rfl
 have hst:stV (Ch.stepOf p m (me,ou)) = .agg (stL ⟨m,Ch.told p m,Ch.sanT p m,Ch.lanT p m,Ch.uciT m,Ch.fenT (Ch.made p m),Ch.xfenT (Ch.made p m),Ch.made p m,ou,me,Ch.statusOf (Ch.made p m)⟩).toArray:=by rw [hun];rfl
 have hone:=a4S (Ch.stepOf p m (me,ou));have hlen:=I7 (Ch.stepOf p m (me,ou));refine zN Tryz.func40 ?_;refine zG ?_;generalize hW:(w.alloc (.cells (v8 p) 24)).alloc (.cells (Z0 m) 36)=W0;have hP:∀ w',Cl W0 w'→w'.heap[w.heap.size]?=some (.cells (v8 p) 24 (0,0)):=fun w' h=>hP2 (hW▸h);have hM:∀ w',Cl W0 w'→w'.heap[(w.alloc (.cells (v8 p) 24)).heap.size]?=some (.cells (Z0 m) 36 (0,0)):=fun w' h=>hM2 (hW▸h);have hE:∀ w',Cl W0 w'→Cl w w':=fun w' h=>hE2 (hW▸h);have z:=Cl.refl W0;obtain ⟨zs,hzs,hz81⟩:=zSt;obtain ⟨zp,hzp,hz69⟩:=b01;refine t7 zs hzs ?_;have hB:∀ w',Cl (W0.alloc (.cells zs.cells 39)) w'→w'.heap[W0.heap.size]?=some (.cells zs.cells 39 (0,0)):=fun w' h=>h.blk (g7 _ _);have c1:Cl W0 (W0.alloc (.cells zs.cells 39)):=Cl.alloc _ _;generalize W0.alloc (.cells zs.cells 39)=w1 at *;refine zR ?_;refine d9 _ (A3 (hP _ c1)) (zR ?_);refine d9 _ (Z1 (hM _ c1)) (zR ?_);refine o8 (a6g p m hI.pc hmo hI.turn hI.c0 hI.c1 hI.h0 hN.nums.1 (by have:=hI.f1;omega) hN.nums.2 _) fun w2 c2=>zR ?_
 refine t7 zp hzp (zR ?_);refine J6 (g7 _ _) (Y9 (Ch.made p m)) rfl a1J (C4 _) (one_pos _) (by rw [hz69];omega) (fun w3 u3=>?_)
 have hQ:w3.heap[w2.heap.size]?=some (.cells (v8 (Ch.made p m)) 24 (0,0)):=by
  rw [u3.at_,B7 _ _ (by rw [C4,hz69])];rfl
 have c13:Cl w1 w3:=u3.cl (c2.trans (Cl.alloc _ _)) c2.size;have c3:Cl W0 w3:=c1.trans c13;clear u3;have hB3:=hB _ c13;have q1:=fun w=>c2S p hI hN m hm w;have q2:=fun w=>a6y p hI hN m hm w;have q3:=fun w=>b5V p hI hN m hm w;have q4:=fun w=>b5R m hmo w;have q5:=fun w=>a29 _ (b4h hI2 hN2) w;have q6:=fun w=>b37 _ (b4h hI2 hN2) hI2.turn hep w;have q7:=fun w=>b3w _ hI2 hN2 w;have hbig:W0.heap.size<w2.heap.size:=by
  have:=(Array.getElem?_eq_some_iff.1 (hB _ c2)).1;exact this
 rw [hun] at hone hlen;simp only at hbt;clear hun;generalize stL ⟨m,Ch.told p m,Ch.sanT p m,Ch.lanT p m,Ch.uciT m,Ch.fenT (Ch.made p m),Ch.xfenT (Ch.made p m),Ch.made p m,ou,me,Ch.statusOf (Ch.made p m)⟩=S at *;generalize Ch.made p m=q at *;generalize Ch.told p m=Q1 at *;generalize Ch.sanT p m=Q2 at *;generalize Ch.lanT p m=Q3 at *;generalize Ch.uciT m=Q4 at *;generalize Ch.fenT q=Q5 at *;generalize Ch.xfenT q=Q6 at *;generalize Ch.statusOf q=Q7 at *;refine zR ?_;refine zK 22 ?_;refine zR ?_;refine m7 _ (fun w hw=>Z1 (hM _ (c3.trans hw))) (zR ?_);refine m7 _ (fun w hw=>A3 (hP _ (c3.trans hw))) (zR ?_);refine m7 _ (fun w hw=>Z1 (hM _ (c3.trans hw))) (zR ?_);refine D4 (.int .i64 Q1) (fun _ _ h=>h.trans) (fun w _=>q1 w) (zR ?_);refine m7 _ (fun w hw=>A3 (hP _ (c3.trans hw))) (zR ?_);refine m7 _ (fun w hw=>Z1 (hM _ (c3.trans hw))) (zR ?_);refine D4 (m9 Q2) (fun _ _ h=>h.trans) (fun w _=>q2 w) (zR ?_);refine m7 _ (fun w hw=>A3 (hP _ (c3.trans hw))) (zR ?_);refine m7 _ (fun w hw=>Z1 (hM _ (c3.trans hw))) (zR ?_);refine D4 (m9 Q3) (fun _ _ h=>h.trans) (fun w _=>q3 w) (zR ?_);refine m7 _ (fun w hw=>Z1 (hM _ (c3.trans hw))) (zR ?_);refine D4 (m9 Q4) (fun _ _ h=>h.trans) (fun w _=>q4 w) (zR ?_);refine m7 _ (fun w hw=>A3 (hw.blk hQ)) (zR ?_);refine D4 (m9 Q5) (fun _ _ h=>h.trans) (fun w _=>q5 w) (zR ?_);refine m7 _ (fun w hw=>A3 (hw.blk hQ)) (zR ?_);refine D4 (m9 Q6) (fun _ _ h=>h.trans) (fun w _=>q6 w) (zR ?_);refine m7 _ (fun w hw=>A3 (hw.blk hQ)) (zR ?_);refine m7 _ (fun w hw=>A3 (hw.blk hQ)) (zR ?_);refine D4 (.int .i64 Q7) (fun _ _ h=>h.trans) (fun w _=>q7 w) (zR ?_);refine a8i S.toArray hbt (zR ?_);intro w4 c4;refine zR ?_;refine J6 (c4.blk hB3) S rfl b7Z hlen hone (by rw [hz81];omega) (fun w5 u5=>?_)
 have hR:w5.heap[W0.heap.size]?=some (.cells S.toArray 39 (0,0)):=by
  rw [u5.at_,B7 _ _ (by rw [hlen,hz81])]
 have c5:Cl w w5:=u5.cl (hE _ (c3.trans c4)) (hE _ z).size;refine zR ?_;refine d9 (.agg S.toArray) ?_ ?_
 ·have:=ldA (t:=39) (o:=0) (z:=81) hR rfl (by simp [hlen])
  rw [show S.toArray.extract 0 (0+81)=S.toArray by
   have:S.toArray.size=81:=by simp [hlen]
   rw [← this];simp] at this
  exact this
 refine zR ?_;exact ⟨by rw [hst],c5⟩
def a3M (u v:Value):Prop:=∀ g,u.ownBlock=some g→v.ownBlock≠some g
theorem b6D (v:Value):a3M (.slice none 0 0) v:=fun g h=>by cases h
theorem a3M.symm {u v:Value} (h:a3M u v):a3M v u:=fun g h1 h2=>h g h2 h1
theorem Row.keepG {α:Type} {e z b0 b1:Nat} {enc:α→List Value} {w w':World} {u v v':Value} {l:List α} (h:Row e z enc b1 w u l) (hg:a7s b0 w v w' v') (hne:a3M u v):Row e z enc b1 w' u l∧a3M u v':=by
 rcases h.2 with ⟨e1,e2⟩ | ⟨g,cap,cur,e1,e2,e3,e4⟩
 ·subst e1;exact ⟨⟨h.1,.inl ⟨rfl,e2⟩⟩,fun g hg=>by cases hg⟩
 ·subst e1;have hn:=hne g rfl;refine ⟨⟨h.1,.inr ⟨g,cap,cur,rfl,e2,hg.keep _ _ e3 hn,e4⟩⟩,fun g' hg'=>?_⟩;injection hg' with hg';subst hg';exact hg.ne (Array.getElem?_eq_some_iff.1 e3).1 hn
theorem a7N {p:l9} (hI:Ch.B9 p) (hN:a06 p):a6p p:=by
 have he:=Ch.L7 hI.pass;have ht:=hI.turn;have:=hI.c0;have:=hI.c1;have:=hI.h0;have:=hI.f1;have:=hN.1;have:=hN.2;refine ⟨fun x hx=>?_,⟨zo,zo⟩,⟨zo,zo⟩,⟨zo,zo⟩,⟨zo,zo⟩,⟨zo,zo⟩⟩;obtain ⟨i,hi,rfl⟩:=List.mem_iff_getElem.1 hx;have:Ch.sq p (i:Int)=p.board[i]:=by
  unfold Ch.sq;rw [zg,List.getD_eq_getElem?_getD,List.getElem?_eq_getElem hi];rfl
 have h2:=hI.pc (i:Int);rw [this] at h2;exact ⟨zo,zo⟩
theorem a0q (l:List l9) (p:l9) (mo:Int×Tx) (m:Mv) (r:List Mv):Ch.story l p mo (m::r)=if Ch.O8 p m then
   Ch.stepOf p m (Ch.C6 (l++[Ch.made p m]) (Ch.made p m) mo)::Ch.story (l++[Ch.made p m]) (Ch.made p m) (Ch.C6 (l++[Ch.made p m]) (Ch.made p m) mo) r else []:=rfl
theorem c1q (p:l9) (hI:Ch.B9 p) (hN:Ng p 0) (looked:Bool) (ms:List Mv) (hms:∀ m∈ms,MvR m) (hn:ms.length≤90000) {v:Value} (w:World) (hrow:a4R w v ms) :
  Calls G.P 13 #[E2 p,.bool looked,v] w (fun r w'=>∃ v,r = .returned v∧Row 39 81 stL w.heap.size w' v (Ch.storyOf p looked ms)∧Cl w w'):=by
 obtain ⟨al,cl,rfl,hal⟩:=hrow.form;obtain ⟨zp,hzp,hz69⟩:=b01;refine zN Tryz.func13 ?_;refine zG ?_;generalize hW:w.alloc (.cells (v8 p) 24)=W0;have hP0:W0.heap[w.heap.size]?=some (.cells (v8 p) 24 (0,0)):=by rw [← hW];exact g7 _ _
 have hE:Cl w W0:=by rw [← hW];exact Cl.alloc _ _
 clear hW;refine zR ?_;refine d9 _ (A3 hP0) (zR ?_);refine B6 b1J [E2 p] (by rw [zb];rfl) (by simp [E2,Value.cells,z7]) rfl zd zd ?_
 have hr:=(C1 X0 W0 [p] (by simp) [E2 p] (by simp [E2,Value.cells,v8]) (e:=24) (z:=69)).mono hE.size
 have c1:=hE.trans (Cl.alloc W0 (.cells (([E2 p]:List Value).flatMap fun v=>v.cells.toList).toArray 24));generalize W0.alloc (.cells (([E2 p]:List Value).flatMap fun v=>v.cells.toList).toArray 24)=w1 at *;generalize W0.heap.size=B1 at *;have hmo0:Ch.storyOf p looked ms=Ch.story [p] p (if looked then Ch.C6 [p] p (0,Ch.star) else (0,Ch.star)) ms:=rfl
 have hnm0:=(hN.nm zo).nums;refine zG ?_;refine Nx.mk (zG ?_);refine B0 (σ:=Unit) [9,10,15,16,17,18,19,20,21,22] 23 (fun _=>[(9,.int .i64 (if looked then Ch.C6 [p] p (0,Ch.star) else (0,Ch.star)).1),(10,m9 (if looked then Ch.C6 [p] p (0,Ch.star) else (0,Ch.star)).2)]) (fun _ w'=>Cl w1 w') zk ?_ (fun _ j w2 c2=>?_)
 ·cases looked
  ·refine zR ?_;exact ⟨(),⟨rfl,rfl,trivial⟩,Cl.refl _⟩
  ·have hEnd:=b1W [p] p (fun x hx=>by rw [zY.1 hx];exact a7N hI hnm0) rfl (by simp) hI hnm0 0 Ch.star w1 hr
   generalize Ch.C6 [p] p (0,Ch.star)=R at *;refine zR ?_;refine o8 hEnd fun w2 c2=>zR ?_;exact ⟨(),⟨rfl,rfl,trivial⟩,c2⟩
 generalize (if looked then Ch.C6 [p] p (0,Ch.star) else (0,Ch.star))=mo0 at *
 have hr2:=hr.step c2;refine zR ?_;refine A9 (σ:=Nat×List Ch.a0n×List l9×l9×(Int×Tx)×Value×Value) [6,7,8,9,10,11,12] 13 (fun a=>[(7,a.2.2.2.2.2.1),(8,a.2.2.2.2.2.2),(9,.int .i64 a.2.2.2.2.1.1),(10,m9 a.2.2.2.2.1.2),(11,.int .i64 a.1)])
  (fun a w'=>a.1≤ms.length∧Ch.storyOf p looked ms=a.2.1++Ch.story a.2.2.1 a.2.2.2.1 a.2.2.2.2.1 (ms.drop a.1)∧a.2.1.length=a.1∧a.2.2.1.length=a.1+1∧a.2.2.1.getLast?=some a.2.2.2.1∧(∀ q∈a.2.2.1,a6p q)∧Ch.B9 a.2.2.2.1∧Ng a.2.2.2.1 a.1 ∧
   Row 39 81 stL w.heap.size w' a.2.2.2.2.2.1 a.2.1∧Row 24 69 Y9 w.heap.size w' a.2.2.2.2.2.2 a.2.2.1∧a3M a.2.2.2.2.2.1 a.2.2.2.2.2.2∧Cl w w') (fun a=>ms.length-a.1) zk (0,[],[p],p,mo0,.slice none 0 0,.slice (some ⟨B1,0,none⟩) 1 1)
  ⟨by simp,by rw [hmo0];rfl,rfl,rfl,rfl,fun x hx=>by rw [zY.1 hx];exact a7N hI hnm0,hI,hN,Row.nil _ _,hr2,b6D _,c1.trans c2⟩ ⟨rfl,rfl,rfl,rfl,rfl,trivial⟩ ?_
 rintro ⟨i,O,L,q,⟨me,ou⟩,vo,vl⟩ j3 w3 ⟨hi,hst,hOl,hLl,hLq,hLr,hIq,hNq,hro,hrl,hap,hcl⟩;simp only at hi hst hOl hLl hLq hLr hIq hNq hro hrl hap ⊢;clear hr2 hr hP0 c1 c2 hmo0 hE;have hnm:=hNq.nm zo;obtain ⟨ao,co,rfl,hao⟩:=hro.form;obtain ⟨al2,cl2,rfl,hal2⟩:=hrl.form;obtain ⟨gl,rfl⟩:=hal2 zo;refine zR ?_;apply E.d6<;>intro h
 ·have hil:i<ms.length:=by omega
  clear h;obtain ⟨g,o,rfl⟩:=hal zo;have ni:IntKind.i64.wrap ((i:Int)+1)=((i+1:Nat):Int):=by rw [g9 zo zo];push_cast;omega
  rw [List.drop_eq_getElem_cons hil] at hst;rw [a0q] at hst;have hmr:=hms _ (yM hil);have hld:∀ w',Cl w w'→o4 G.P w' 36 ⟨g,E.U7 o ((i:Int)).toNat 3,none⟩ (mvV ms[i]):=fun w' h'=>(hrow.step h').ld i hil;generalize ms[i]=m at *;have hlast:L[L.length-1]'zo=q:=by
   rw [List.getLast?_eq_getElem?,List.getElem?_eq_getElem zo] at hLq;exact Option.some.inj hLq
  have hlm:IntKind.i64.wrap ((L.length:Int)-1)=((L.length-1:Nat):Int):=by rw [g9 zo zo];omega
  refine zR ?_;refine zC ?_;refine zR ?_;refine d9 (E2 q) (a1f hrl X0 (L.length-1) zo rfl ?_ (by rw [hlast];rfl)) ?_
  ·simp [E.y6,hlm]
  refine zR ?_;refine t7 zp hzp (zR ?_);refine J6 (g7 _ _) (Y9 q) rfl a1J (C4 _) (one_pos _) (by rw [hz69];omega) (fun w4 u4=>?_)
  have hQ:w4.heap[w3.heap.size]?=some (.cells (v8 q) 24 (0,0)):=by
   rw [u4.at_,B7 _ _ (by rw [C4,hz69])];rfl
  have c34:Cl w3 w4:=u4.cl (Cl.alloc _ _) (yH _);clear u4;have hLegal:∀ w,Calls G.P 26 #[E2 q,mvV m] w (L4 (.bool (Ch.O8 q m)) w):=fun w=>c4d q hIq hnm.nums m hmr w;refine zR ?_;refine zK 7 ?_;refine zR ?_;refine m7 _ (fun w hw=>A3 (hw.blk hQ)) (zR ?_);refine zC ?_;refine zR ?_;refine m7 (mvV m) (fun w hw=>hld w (hcl.trans (c34.trans hw))) (zR ?_);refine D4 (.bool (Ch.O8 q m)) (fun _ _ h=>h.trans) (fun w _=>hLegal w) (zR ?_);intro w5 c5;have c35:=c34.trans c5;have hQ5:=c5.blk hQ;have hro5:=hro.step c35;have hrl5:=hrl.step c35;have hcl5:=hcl.trans c35;generalize hlb:Ch.O8 q m=lb at *;refine zR ?_;cases lb
  ·refine zR ?_;refine ⟨_,rfl,?_,hcl5⟩;rw [hst];simp only [yB,if_false,zm];exact hro5
  ·have hmem:m∈Ch.s8 q:=yA hlb;have hmo:=a0B hIq hmem;have hI2:=Ch.B9.made hIq hmem;have hN2:=hNq.made hIq m;have hMade:∀ w,Calls G.P 39 #[E2 q,mvV m] w (L4 (E2 (Ch.made q m)) w):=fun w=>a6g q m hIq.pc hmo hIq.turn hIq.c0 hIq.c1 hIq.h0 hnm.nums.1 (by have:=hIq.f1;omega) hnm.nums.2 w
   have hStep:=fun me ou w=>b8U q hIq hnm m hmem me ou w;have hrR:a6p (Ch.made q m):=a7N hI2 (hN2.nm zo).nums;simp only [if_true] at hst;have hL2:∀ x∈L++[Ch.made q m],a6p x:=fun x hx=>by
    rcases zq.1 hx with hx | hx
    ·exact hLr x hx
    ·rw [zY.1 hx];exact hrR
   have hL2n:(L++[Ch.made q m]).length=i+2:=by rw [zF,hLl];rfl
   have hL2q:(L++[Ch.made q m]).getLast?=some (Ch.made q m):=by simp
   generalize Ch.made q m=q2 at *;refine zG ?_;refine B0 (σ:=Value) [8,43,44,45,46,47,48,49,50,51] 52 (fun v=>[(8,v)]) (fun v w'=>Row 24 69 Y9 w.heap.size w' v (L++[q2])∧Row 39 81 stL w.heap.size w' (.slice ao O.length co) O∧a3M (.slice ao O.length co) v∧w'.heap[w3.heap.size]?=some (.cells (v8 q) 24 (0,0))∧Cl w w') zk ?_ (fun v7 j7 w7 hh7=>?_)
   ·refine zR ?_;refine I5.mk2 [0,2,3,4] (.cons 1 (.cons 5 (.cons 6 (.cons 7 (.cons 8 (.cons 9 .done .nil) .nil) .nil) .nil) .nil) (.cons 5 (.cons 1 (.cons 6 (.cons 7 (.cons 8 (.cons 9 .done .nil) .nil) .nil) .nil) .nil) .nil)) zk (zR ?_);refine zC ?_;refine zR ?_;have cd:Cl w5 w5.drew:=Cl.drew (Cl.refl _);refine And.intro ?_ (And.intro ?_ trivial)
    ·refine zR ?_;refine d9 _ (A3 (cd.blk hQ5)) (zE ?_);refine d9 (mvV m) (hld _ (hcl5.trans cd)) (zE ?_);refine o8 (hMade _) fun w6 c6=>?_;have hro6:=hro5.step (cd.trans c6);have hrl6:=hrl5.step (cd.trans c6);have hcl6:=hcl5.trans (cd.trans c6);have hQ6:=(cd.trans c6).blk hQ5;refine zE ?_;refine B6 b1J [E2 q2] (by rw [zb];rfl) (by simp [E2,Value.cells,z7]) rfl zd zd (zE ?_)
     refine S0 b1J q2 rfl hrl6 rfl rfl (by simp [E2,Value.cells,v8]) X0 one_pos zo zd hcl6.size ?_
     intro v7 w7 hrl7 hg7;have hcl7:=hg7.cl w rfl hcl6;obtain ⟨hro7,hap7⟩:=hro6.keepG hg7 hap;have hQ7:w7.heap[w3.heap.size]?=some (.cells (v8 q) 24 (0,0)):=hg7.keep _ _ hQ6 (by
      intro e;injection e with e;have h1:=(hrl.lt).2;have:gl=w3.heap.size:=e;omega)
     obtain ⟨al7,cl7,rfl,hal7⟩:=hrl7.form;refine zE ?_;exact ⟨_,⟨rfl,trivial⟩,hrl7,hro7,hap7,hQ7,hcl7⟩
    ·refine zR ?_;refine d9 (mvV m) (hld _ (hcl5.trans cd)) (zE ?_);refine d9 _ (A3 (cd.blk hQ5)) (zE ?_);refine o8 (hMade _) fun w6 c6=>?_;have hro6:=hro5.step (cd.trans c6);have hrl6:=hrl5.step (cd.trans c6);have hcl6:=hcl5.trans (cd.trans c6);have hQ6:=(cd.trans c6).blk hQ5;refine zE ?_;refine B6 b1J [E2 q2] (by rw [zb];rfl) (by simp [E2,Value.cells,z7]) rfl zd zd (zE ?_)
     refine S0 b1J q2 rfl hrl6 rfl rfl (by simp [E2,Value.cells,v8]) X0 one_pos zo zd hcl6.size ?_
     intro v7 w7 hrl7 hg7;have hcl7:=hg7.cl w rfl hcl6;obtain ⟨hro7,hap7⟩:=hro6.keepG hg7 hap;have hQ7:w7.heap[w3.heap.size]?=some (.cells (v8 q) 24 (0,0)):=hg7.keep _ _ hQ6 (by
      intro e;injection e with e;have h1:=(hrl.lt).2;have:gl=w3.heap.size:=e;omega)
     obtain ⟨al7,cl7,rfl,hal7⟩:=hrl7.form;refine zE ?_;exact ⟨_,⟨rfl,trivial⟩,hrl7,hro7,hap7,hQ7,hcl7⟩
   obtain ⟨hrl7,hro7,hap7,hQ7,hcl7⟩:=hh7;obtain ⟨al7,cl7,rfl,hal7⟩:=hrl7.form;obtain ⟨gl7,rfl⟩:=hal7 zo;have hEnd:=b1W (L++[q2]) q2 hL2 hL2q zo hI2 (hN2.nm zo).nums me ou w7 hrl7;generalize Ch.C6 (L++[q2]) q2 (me,ou)=R at *;obtain ⟨me2,ou2⟩:=R;refine zR ?_;refine o8 hEnd fun w8 c8=>?_;have hro8:=hro7.step c8;have hrl8:=hrl7.step c8;have hcl8:=hcl7.trans c8;have hQ8:=c8.blk hQ7;have hStep:=fun w=>hStep me2 ou2 w;generalize hSS:Ch.stepOf q m (me2,ou2)=S at *;refine zR ?_;refine I5.mk2 [0,2,3,4,6,7] (.cons 1 (.cons 5 (.cons 8 (.cons 9 (.cons 10 (.cons 11 .done .nil) .nil) .nil) .nil) .nil) (.cons 5 (.cons 1 (.cons 8 (.cons 9 (.cons 10 (.cons 11 .done .nil) .nil) .nil) .nil) .nil) .nil)) zk (zR ?_);refine zC ?_;refine zR ?_;have cd:Cl w8 w8.drew:=Cl.drew (Cl.refl _);refine And.intro ?_ (And.intro ?_ trivial)
   ·refine zR ?_;refine d9 _ (A3 (cd.blk hQ8)) (zE ?_);refine d9 (mvV m) (hld _ (hcl8.trans cd)) (zE ?_);refine o8 (hStep _) fun w9 c9=>?_;have hro9:=hro8.step (cd.trans c9);have hrl9:=hrl8.step (cd.trans c9);have hcl9:=hcl8.trans (cd.trans c9);refine zE ?_;refine B6 b5X [stV S] (by rw [zb];rfl) (by simp [stV,Value.cells,I7]) rfl zd zd (zE ?_)
    refine S0 b5X S rfl hro9 rfl rfl (by simp [stV,Value.cells]) I7 a4S zo zd hcl9.size ?_
    intro v10 w10 hro10 hg10;have hcl10:=hg10.cl w rfl hcl9;obtain ⟨hrl10,hap10⟩:=hrl9.keepG hg10 hap7.symm;obtain ⟨ao10,co10,rfl,hao10⟩:=hro10.form;refine zE ?_;exact ⟨(i+1,O++[S],L++[q2],q2,(me2,ou2),_,_),⟨rfl,rfl,rfl,rfl,d7 ni,trivial⟩,
     ⟨by simp;omega,by rw [hst];simp,by simp [hOl],by simp [hLl],hL2q,hL2,hI2,hN2,hro10,hrl10,hap10.symm,hcl10⟩,by simp;omega⟩
   ·refine zR ?_;refine d9 (mvV m) (hld _ (hcl8.trans cd)) (zE ?_);refine d9 _ (A3 (cd.blk hQ8)) (zE ?_);refine o8 (hStep _) fun w9 c9=>?_;have hro9:=hro8.step (cd.trans c9);have hrl9:=hrl8.step (cd.trans c9);have hcl9:=hcl8.trans (cd.trans c9);refine zE ?_;refine B6 b5X [stV S] (by rw [zb];rfl) (by simp [stV,Value.cells,I7]) rfl zd zd (zE ?_)
    refine S0 b5X S rfl hro9 rfl rfl (by simp [stV,Value.cells]) I7 a4S zo zd hcl9.size ?_
    intro v10 w10 hro10 hg10;have hcl10:=hg10.cl w rfl hcl9;obtain ⟨hrl10,hap10⟩:=hrl9.keepG hg10 hap7.symm;obtain ⟨ao10,co10,rfl,hao10⟩:=hro10.form;refine zE ?_;exact ⟨(i+1,O++[S],L++[q2],q2,(me2,ou2),_,_),⟨rfl,rfl,rfl,rfl,d7 ni,trivial⟩,
     ⟨by simp;omega,by rw [hst];simp,by simp [hOl],by simp [hLl],hL2q,hL2,hI2,hN2,hro10,hrl10,hap10.symm,hcl10⟩,by simp;omega⟩
 ·have hil:i=ms.length:=by omega
  subst hil;rw [List.drop_length] at hst;refine zR ?_;refine ⟨_,rfl,?_,hcl⟩;rw [hst];show Row _ _ _ _ _ _ (O++[]);rw [zm];exact hro
def firstL:List Int:=[3,5,4,2,1,4,5,3]
def a0I (i:Nat):Int:=firstL.getD i 0
def sqS (f i:Nat):Int:=if i%8<f then (if i/8=0 then a0I (i%8) else if i/8=1 then 6 else if i/8=6 then 12 else if i/8=7 then a0I (i%8)+6 else 0) else 0
def a0f (f:Nat):l9:=⟨(List.range 64).map (sqS f),by simp,0,15,-1,0,1⟩
def P9:l9:=a0f 8
theorem b6E:∀ f<8,(Ch.put (Ch.put (Ch.put (Ch.put (a0f f) f (a0I f)) (8+f) 6) (48+f) 12) (56+f) (a0I f+6)).board=(a0f (f+1)).board:=by decide
theorem c1r {p q:l9} (h:p.board=q.board) (h1:p.turn=q.turn) (h2:p.castle=q.castle) (h3:p.ep=q.ep) (h4:p.half=q.half) (h5:p.full=q.full):p=q:=by
 cases p;cases q;simp_all
theorem b4i (f:Nat) (h:f<8):Ch.put (Ch.put (Ch.put (Ch.put (a0f f) f (a0I f)) (8+f) 6) (48+f) 12) (56+f) (a0I f+6)=a0f (f+1) :=
 c1r (b6E f h) rfl rfl rfl rfl rfl
theorem c36:∀ f<8,0≤a0I f∧a0I f≤6:=by decide
def a5d:Array Value:=(firstL.map (Value.int .i64)).toArray
theorem b5u {w:World} {b u:Nat} {fz:Nat×Nat} (hb:w.heap[b]?=some (.cells a5d u fz)) (i:Nat) (h:i<8) {o:Nat} (ho:o=i):o4 G.P w 3 ⟨b,o,none⟩ (.int .i64 (a0I i)):=by
 rw [ho];refine D8 hb ?_ rfl;have:i=0∨i=1∨i=2∨i=3∨i=4∨i=5∨i=6∨i=7:=by omega
 rcases this with rfl | rfl | rfl | rfl | rfl | rfl | rfl | rfl<;>rfl
theorem c5J:∃ z,(G.P.info? 111).bind (·.zero)=some z∧z.cells.size=8:=a0a zk
theorem c4Q:(G.P.info? 111).map (·.size)=some 8:=by kernel_rfl
theorem a6C (f r:Int) (h0:0≤f) (h1:f≤7) (h2:0≤r) (h3:r≤7):Ch.J5 f r=8*r+f:=by unfold Ch.J5;rw [zJ zo]
theorem c1s (w:World):Calls G.P 35 #[] w (L4 (E2 P9) w):=by
 obtain ⟨zp,hzp,hz69⟩:=b01;obtain ⟨zf,hzf,hz8⟩:=c5J;refine zN Tryz.func35 ?_;refine zG ?_;refine t7 zp hzp ?_;have hB0:(w.alloc (.cells zp.cells 24)).heap[w.heap.size]?=some (.cells zp.cells 24 (0,0)):=g7 _ _;have c1:Cl w (w.alloc (.cells zp.cells 24)):=Cl.alloc _ _;generalize w.alloc (.cells zp.cells 24)=w1 at *;refine zR ?_;refine s7 (v8 (a0f 0)) zk (zR ?_);refine t7 zp hzp (zR ?_);refine J6 (g7 _ _) (Y9 (a0f 0)) rfl a1J (C4 _) (one_pos _) (by rw [hz69];omega) (fun w2 u2=>?_)
 have hQ2:w2.heap[w1.heap.size]?=some (.cells (v8 (a0f 0)) 24 (0,0)):=by
  rw [u2.at_,B7 _ _ (by rw [C4,hz69])];rfl
 have c2:Cl w1 w2:=u2.cl (Cl.alloc _ _) (yH _);clear u2;have hB2:=c2.blk hB0;refine zR ?_;refine s7 a5d zk (zR ?_);refine t7 zf hzf (zR ?_);refine J6 (g7 _ _) (firstL.map (Value.int .i64)) rfl c4Q rfl zd (by rw [hz8];decide) (fun w3 u3=>?_)
 have hF3:w3.heap[w2.heap.size]?=some (.cells a5d 111 (0,0)):=by
  rw [u3.at_,B7 _ _ (by rw [hz8];rfl)];rfl
 have c3:Cl w2 w3:=u3.cl (Cl.alloc _ _) (yH _);clear u3;have hQ3:=c3.blk hQ2;have hb1:w.heap.size<w1.heap.size:=(Array.getElem?_eq_some_iff.1 hB0).1;have hb2:w1.heap.size<w2.heap.size:=(Array.getElem?_eq_some_iff.1 hQ2).1;have hB3:=c3.blk hB2;have c13:=c1.trans (c2.trans c3);refine zR ?_;refine A9 (σ:=Nat) [3] 4 (fun a=>[(3,.int .i64 a)]) (fun a w'=>a≤8∧w'.heap[w1.heap.size]?=some (.cells (v8 (a0f a)) 24 (0,0))∧w'.heap[w2.heap.size]?=some (.cells a5d 111 (0,0))∧w'.heap[w.heap.size]?=some (.cells zp.cells 24 (0,0))∧Cl w w') (fun a=>8-a) zk 0
  ⟨zo,hQ3,hF3,hB3,c13⟩ ⟨rfl,trivial⟩ ?_
 clear hQ3 hF3 hB3 c13 hQ2 hB2 hB0;rintro f j w4 ⟨hf,hQ,hF,hB,hcl⟩;refine zR ?_;apply E.d6<;>intro h
 ·have hf8:f<8:=by omega
  clear h;have nf:IntKind.i64.wrap ((f:Int)+1)=((f+1:Nat):Int):=by rw [g9 zo zo];push_cast;omega
  have hfb:=c36 f hf8;have hss:=b4i f hf8;refine zG ?_;refine Nx.mk ?_;refine E.a8c ?_;refine E.a8d ?_;refine (B0 (σ:=Unit) [10,11,12,13,14,15,16,17] 18 (fun _=>[]) (fun _ w'=>w'.heap[w1.heap.size]?=some (.cells (v8 (Ch.put (a0f f) f (a0I f))) 24 (0,0))∧w'.heap[w2.heap.size]?=some (.cells a5d 111 (0,0))∧w'.heap[w.heap.size]?=some (.cells zp.cells 24 (0,0))∧Cl w w') zk ?_ (fun _ j5 w5 h5=>?_)).go
  ·refine zR ?_;refine I5.mk2 [0,2,3,6] (.cons 1 (.cons 4 (.cons 5 (.cons 7 (.cons 8 .done .nil) .nil) .nil) .nil) (.cons 4 (.cons 1 (.cons 5 (.cons 7 (.cons 8 .done .nil) .nil) .nil) .nil) .nil)) zk (zR ?_);refine zC ?_;refine zR ?_;have cd:Cl w4 w4.drew:=Cl.drew (Cl.refl _);refine And.intro ?_ (And.intro ?_ trivial)
   ·refine zR ?_;refine g8 (a2O f 0 _ zo zo zo zo) ?_;rw [a6C f 0 zo zo zo zo];refine zE ?_;refine d9 _ (b5u (cd.blk hF) f hf8 (by simp [E.y6])) (zE ?_)
    refine g8 (a4r (a0I f) 0 _ zo zo zo zo) (zE ?_);refine zC ?_;refine zE ?_;refine J6 (cd.blk hQ) [.int .i64 (a0I f+6*0)] rfl U1 rfl (by simp [Value.oneCell']) (by rw [z7,E.y6];show 0+_*1+1≤69;omega) (fun w9 u9=>zR ?_)
    refine ⟨(),trivial,?_,by rw [u9.else_ _ zo];exact cd.blk hF,by rw [u9.else_ _ zo];exact cd.blk hB,u9.cl (hcl.trans cd) zo⟩
    rw [u9.at_,E.y6,show (bif Nat.beq 0 0 then 0 else 0+0:Nat)=0 from rfl]
    simp only [yV,Nat.mul_one];rw [V3 _ _ _ zo zo];rw [show 8*(0:Int)+(f:Int)=(f:Int) by omega,show a0I f+6*(0:Int)=a0I f by omega]
   ·refine zR ?_;refine d9 _ (b5u (cd.blk hF) f hf8 (by simp [E.y6])) (zE ?_)
    refine g8 (a2O f 0 _ zo zo zo zo) ?_;rw [a6C f 0 zo zo zo zo];refine zE ?_;refine g8 (a4r (a0I f) 0 _ zo zo zo zo) (zE ?_);refine zC ?_;refine zE ?_;refine J6 (cd.blk hQ) [.int .i64 (a0I f+6*0)] rfl U1 rfl (by simp [Value.oneCell']) (by rw [z7,E.y6];show 0+_*1+1≤69;omega) (fun w9 u9=>zR ?_)
    refine ⟨(),trivial,?_,by rw [u9.else_ _ zo];exact cd.blk hF,by rw [u9.else_ _ zo];exact cd.blk hB,u9.cl (hcl.trans cd) zo⟩
    rw [u9.at_,E.y6,show (bif Nat.beq 0 0 then 0 else 0+0:Nat)=0 from rfl]
    simp only [yV,Nat.mul_one];rw [V3 _ _ _ zo zo];rw [show 8*(0:Int)+(f:Int)=(f:Int) by omega,show a0I f+6*(0:Int)=a0I f by omega]
  clear hQ hF hB hcl;obtain ⟨hQ,hF,hB,hcl⟩:=h5;refine B0 (σ:=Unit) [18,19,20,21,22] 23 (fun _=>[]) (fun _ w'=>w'.heap[w1.heap.size]?=some (.cells (v8 (Ch.put (Ch.put (a0f f) f (a0I f)) (8+f) 6)) 24 (0,0))∧w'.heap[w2.heap.size]?=some (.cells a5d 111 (0,0))∧w'.heap[w.heap.size]?=some (.cells zp.cells 24 (0,0))∧Cl w w') zk ?_ (fun _ j6 w6 h6=>?_)
  ·skip
   refine zR ?_;refine g8 (a2O f 1 _ zo zo zo zo) ?_;rw [a6C f 1 zo zo zo zo];refine zR ?_;refine g8 (a4r 6 0 _ zo zo zo zo) (zR ?_);refine zC ?_;refine zR ?_;refine J6 hQ [.int .i64 (6+6*0)] rfl U1 rfl (by simp [Value.oneCell']) (by rw [z7,E.y6];show 0+_*1+1≤69;omega) (fun w9 u9=>zR ?_)
   refine ⟨(),trivial,?_,by rw [u9.else_ _ zo];exact hF,by rw [u9.else_ _ zo];exact hB,u9.cl hcl zo⟩
   rw [u9.at_,E.y6,show (bif Nat.beq 0 0 then 0 else 0+0:Nat)=0 from rfl]
   simp only [yV,Nat.mul_one];rw [V3 _ _ _ zo zo];rw [show 8*(1:Int)+(f:Int)=8+(f:Int) by omega,show (6:Int)+6*0=6 by omega]
  clear hQ hF hB hcl;obtain ⟨hQ,hF,hB,hcl⟩:=h6;refine B0 (σ:=Unit) [23,24,25,26,27] 28 (fun _=>[]) (fun _ w'=>w'.heap[w1.heap.size]?=some (.cells (v8 (Ch.put (Ch.put (Ch.put (a0f f) f (a0I f)) (8+f) 6) (48+f) 12)) 24 (0,0))∧w'.heap[w2.heap.size]?=some (.cells a5d 111 (0,0))∧w'.heap[w.heap.size]?=some (.cells zp.cells 24 (0,0))∧Cl w w') zk ?_ (fun _ j7 w7 h7=>?_)
  ·skip
   refine zR ?_;refine g8 (a2O f 6 _ zo zo zo zo) ?_;rw [a6C f 6 zo zo zo zo];refine zR ?_;refine g8 (a4r 6 1 _ zo zo zo zo) (zR ?_);refine zC ?_;refine zR ?_;refine J6 hQ [.int .i64 (6+6*1)] rfl U1 rfl (by simp [Value.oneCell']) (by rw [z7,E.y6];show 0+_*1+1≤69;omega) (fun w9 u9=>zR ?_)
   refine ⟨(),trivial,?_,by rw [u9.else_ _ zo];exact hF,by rw [u9.else_ _ zo];exact hB,u9.cl hcl zo⟩
   rw [u9.at_,E.y6,show (bif Nat.beq 0 0 then 0 else 0+0:Nat)=0 from rfl]
   simp only [yV,Nat.mul_one];rw [V3 _ _ _ zo zo];rw [show 8*(6:Int)+(f:Int)=48+(f:Int) by omega,show (6:Int)+6*1=12 by omega]
  clear hQ hF hB hcl;obtain ⟨hQ,hF,hB,hcl⟩:=h7;refine zR ?_;refine I5.mk2 [0,2,3,6] (.cons 1 (.cons 4 (.cons 5 (.cons 7 (.cons 8 .done .nil) .nil) .nil) .nil) (.cons 4 (.cons 1 (.cons 5 (.cons 7 (.cons 8 .done .nil) .nil) .nil) .nil) .nil)) zk (zR ?_);refine zC ?_;refine zR ?_;have cd:Cl w7 w7.drew:=Cl.drew (Cl.refl _);refine And.intro ?_ (And.intro ?_ trivial)
  ·refine zR ?_;refine g8 (a2O f 7 _ zo zo zo zo) ?_;rw [a6C f 7 zo zo zo zo];refine zE ?_;refine d9 _ (b5u (cd.blk hF) f hf8 (by simp [E.y6])) (zE ?_)
   refine g8 (a4r (a0I f) 1 _ zo zo zo zo) (zE ?_);refine zC ?_;refine zE ?_;refine J6 (cd.blk hQ) [.int .i64 (a0I f+6*1)] rfl U1 rfl (by simp [Value.oneCell']) (by rw [z7,E.y6];show 0+_*1+1≤69;omega) (fun w9 u9=>zR ?_)
   refine ⟨f+1,⟨d7 nf,trivial⟩,⟨zo,?_,by rw [u9.else_ _ zo];exact cd.blk hF,by rw [u9.else_ _ zo];exact cd.blk hB,u9.cl (hcl.trans cd) zo⟩,zo⟩
   rw [u9.at_,E.y6,show (bif Nat.beq 0 0 then 0 else 0+0:Nat)=0 from rfl]
   simp only [yV,Nat.mul_one];rw [V3 _ _ _ zo zo];rw [show 8*(7:Int)+(f:Int)=56+(f:Int) by omega,show a0I f+6*(1:Int)=a0I f+6 by omega,hss]
  ·refine zR ?_;refine d9 _ (b5u (cd.blk hF) f hf8 (by simp [E.y6])) (zE ?_)
   refine g8 (a2O f 7 _ zo zo zo zo) ?_;rw [a6C f 7 zo zo zo zo];refine zE ?_;refine g8 (a4r (a0I f) 1 _ zo zo zo zo) (zE ?_);refine zC ?_;refine zE ?_;refine J6 (cd.blk hQ) [.int .i64 (a0I f+6*1)] rfl U1 rfl (by simp [Value.oneCell']) (by rw [z7,E.y6];show 0+_*1+1≤69;omega) (fun w9 u9=>zR ?_)
   refine ⟨f+1,⟨d7 nf,trivial⟩,⟨zo,?_,by rw [u9.else_ _ zo];exact cd.blk hF,by rw [u9.else_ _ zo];exact cd.blk hB,u9.cl (hcl.trans cd) zo⟩,zo⟩
   rw [u9.at_,E.y6,show (bif Nat.beq 0 0 then 0 else 0+0:Nat)=0 from rfl]
   simp only [yV,Nat.mul_one];rw [V3 _ _ _ zo zo];rw [show 8*(7:Int)+(f:Int)=56+(f:Int) by omega,show a0I f+6*(1:Int)=a0I f+6 by omega,hss]
 ·have hf8:f=8:=by omega
  subst hf8;refine zR ?_;refine d9 _ (A3 hQ) (zR ?_);refine J6 hB (Y9 P9) rfl a1J (C4 _) (one_pos _) (by rw [hz69];omega) (fun w9 u9=>?_)
  have hR:w9.heap[w.heap.size]?=some (.cells (v8 P9) 24 (0,0)):=by
   rw [u9.at_,B7 _ _ (by rw [C4,hz69])];rfl
  refine zR ?_;refine d9 _ (A3 hR) (zR ?_);exact ⟨rfl,u9.cl hcl (yH _)⟩
end
end Go.Proofs.YtpclhlhcegcflaaGreatDoor
