/- One part of the proof: Srt Pgn1 Pgn2 Pk45 Sp28 Sp29 Sp30 Sp31 Pk46 Pk47 Pk48 Dfr Pk49 Pgn3 San San2 Pk52 Pk53. -/
import Derived.Shelf.SlSortCmp.SmallK
import Derived.Shelf.Small.Bits
import Derived.Defers
import Derived.Recover
import Derived.Test.YtpclhlhcegcflaaGreatDoorM15
namespace Go.Proofs.YtpclhlhcegcflaaGreatDoor
set_option maxRecDepth 100000
set_option linter.unusedSimpArgs false
set_option linter.unusedVariables false
section
open Go.Shelf
def Tryz.sortKV_ren:Go.Shelf.Ren:=⟨fun|6=>116|15=>182|14=>181|28=>227|29=>228|20=>219|21=>220|22=>221|23=>222|24=>223|25=>224|26=>225|27=>226|46=>267|47=>268|48=>269|49=>270|50=>271|57=>296|n=>n,fun|22=>161|24=>163|25=>165|3=>3|39=>52|0=>0|53=>262|55=>234|4=>4|46=>256|45=>255|50=>118|5=>5|9=>9|66=>305|70=>309|76=>336|77=>177|n=>n,fun|n=>n⟩
theorem Tryz.sortKV:Go.Proofs.SlLaysF0.n6 Tryz.prog Tryz.sortKV_ren:={
 mixed:=by kernel_rfl
 f6:=⟨Tryz.f116.name,zd,Tryz.func116.trans (yH some zk)⟩
 f14:=⟨Tryz.f181.name,zd,Tryz.func181.trans (yH some zk)⟩
 f15:=Tryz.func182.trans (yH some zk)
 f20:=⟨Tryz.f219.name,zd,Tryz.func219.trans (yH some zk)⟩
 f21:=⟨Tryz.f220.name,zd,Tryz.func220.trans (yH some zk)⟩
 f22:=⟨Tryz.f221.name,zd,Tryz.func221.trans (yH some zk)⟩
 f23:=⟨Tryz.f222.name,zd,Tryz.func222.trans (yH some zk)⟩
 f24:=⟨Tryz.f223.name,zd,Tryz.func223.trans (yH some zk)⟩
 f25:=⟨Tryz.f224.name,zd,Tryz.func224.trans (yH some zk)⟩
 f26:=⟨Tryz.f225.name,zd,Tryz.func225.trans (yH some zk)⟩
 f27:=⟨Tryz.f226.name,zd,Tryz.func226.trans (yH some zk)⟩
 f28:=Tryz.func227.trans (yH some zk)
 f29:=Tryz.func228.trans (yH some zk)
 f46:=⟨Tryz.f267.name,zd,Tryz.func267.trans (yH some zk)⟩
 f47:=Tryz.func268.trans (yH some zk)
 f48:=Tryz.func269.trans (yH some zk)
 f49:=⟨Tryz.f270.name,zd,Tryz.func270.trans (yH some zk)⟩
 f50:=⟨Tryz.f271.name,zd,Tryz.func271.trans (yH some zk)⟩
 f57:=⟨Tryz.f296.name,zd,Tryz.func296.trans (yH some zk)⟩
 t0:=Tryz.underlying0
 a0:=Tryz.isAgg0
 z0:=Tryz.sizeOf0
 v0:=Tryz.zeroValue0
 t3:=Tryz.underlying3
 a3:=Tryz.isAgg3
 z3:=Tryz.sizeOf3
 v3:=Tryz.zeroValue3
 t4:=Tryz.underlying4
 a4:=Tryz.isAgg4
 z4:=Tryz.sizeOf4
 v4:=Tryz.zeroValue4
 t5:=Tryz.underlying5
 a5:=Tryz.isAgg5
 z5:=Tryz.sizeOf5
 v5:=Tryz.zeroValue5
 t9:=Tryz.underlying9
 a9:=Tryz.isAgg9
 z9:=Tryz.sizeOf9
 v9:=Tryz.zeroValue9
 t22:=Tryz.underlying161
 a22:=Tryz.isAgg161
 z22:=Tryz.sizeOf161
 v22:=Tryz.zeroValue161
 t25:=Tryz.underlying165
 a25:=Tryz.isAgg165
 z25:=Tryz.sizeOf165
 v25:=Tryz.zeroValue165
 t39:=Tryz.underlying52
 a39:=Tryz.isAgg52
 z39:=Tryz.sizeOf52
 v39:=Tryz.zeroValue52
 t45:=Tryz.underlying255
 a45:=Tryz.isAgg255
 z45:=Tryz.sizeOf255
 v45:=Tryz.zeroValue255
 t46:=Tryz.underlying256
 a46:=Tryz.isAgg256
 z46:=Tryz.sizeOf256
 v46:=Tryz.zeroValue256
 t50:=Tryz.underlying118
 a50:=Tryz.isAgg118
 z50:=Tryz.sizeOf118
 v50:=Tryz.zeroValue118
 t53:=Tryz.underlying262
 a53:=Tryz.isAgg262
 z53:=Tryz.sizeOf262
 v53:=Tryz.zeroValue262
 t55:=Tryz.underlying234
 a55:=Tryz.isAgg234
 z55:=Tryz.sizeOf234
 v55:=Tryz.zeroValue234
 t66:=Tryz.underlying305
 a66:=Tryz.isAgg305
 z66:=Tryz.sizeOf305
 v66:=Tryz.zeroValue305
 t70:=Tryz.underlying309
 a70:=Tryz.isAgg309
 z70:=Tryz.sizeOf309
 v70:=Tryz.zeroValue309
 t76:=Tryz.underlying336
 a76:=Tryz.isAgg336
 z76:=Tryz.sizeOf336
 v76:=Tryz.zeroValue336
 t77:=Tryz.underlying177
 a77:=Tryz.isAgg177
 z77:=Tryz.sizeOf177
 v77:=Tryz.zeroValue177 }
def Tryz.bitsLen2_ren:Go.Shelf.Ren:=⟨fun|125=>182|128=>227|129=>228|n=>n,fun|46=>52|3=>3|51=>262|53=>234|4=>4|5=>5|9=>9|n=>n,fun|n=>n⟩
theorem Tryz.bitsLen2:Go.Proofs.Lays.n125 Tryz.prog Tryz.bitsLen2_ren:={
 mixed:=by kernel_rfl
 f125:=Tryz.func182.trans (yH some zk)
 f128:=Tryz.func227.trans (yH some zk)
 f129:=Tryz.func228.trans (yH some zk)
 t3:=Tryz.underlying3
 a3:=Tryz.isAgg3
 z3:=Tryz.sizeOf3
 v3:=Tryz.zeroValue3
 t4:=Tryz.underlying4
 a4:=Tryz.isAgg4
 z4:=Tryz.sizeOf4
 v4:=Tryz.zeroValue4
 t5:=Tryz.underlying5
 a5:=Tryz.isAgg5
 z5:=Tryz.sizeOf5
 v5:=Tryz.zeroValue5
 t9:=Tryz.underlying9
 a9:=Tryz.isAgg9
 z9:=Tryz.sizeOf9
 v9:=Tryz.zeroValue9
 t46:=Tryz.underlying52
 a46:=Tryz.isAgg52
 z46:=Tryz.sizeOf52
 v46:=Tryz.zeroValue52
 t51:=Tryz.underlying262
 a51:=Tryz.isAgg262
 z51:=Tryz.sizeOf262
 v51:=Tryz.zeroValue262
 t53:=Tryz.underlying234
 a53:=Tryz.isAgg234
 z53:=Tryz.sizeOf234
 v53:=Tryz.zeroValue234 }
end
section
open Go Go.RowKit
open E
def sevV:List Value:=[m9 [69,118,101,110,116],m9 [83,105,116,101],m9 [68,97,116,101],m9 [82,111,117,110,100],m9 [87,104,105,116,101],m9 [66,108,97,99,107],m9 [82,101,115,117,108,116]]
def c1J:Array Value:=(sevV.flatMap fun v=>v.cells.toList).toArray
theorem b0o:∀ v∈sevV,v.cells.size=1:=by
 intro v hv;simp only [sevV,yS,zy,yy] at hv;rcases hv with rfl|rfl|rfl|rfl|rfl|rfl|rfl<;>rfl
theorem c3F {j:Nat} (h:j<7):c1J[j]?=some (m9 (sevenT[j]'h)):=by
 rcases (by omega:j=0∨j=1∨j=2∨j=3∨j=4∨j=5∨j=6) with rfl|rfl|rfl|rfl|rfl|rfl|rfl<;>rfl
theorem b1j {k:Tx} {i:Nat} (h:i<7) (hi:sevenT[i]'h=k) (hb:∀ j (hj:j<7),j<i→sevenT[j]'hj≠k):rankT k=i:=by
 unfold rankT;rw [List.findIdx_eq (show i<sevenT.length from h)];exact ⟨zX hi,fun j hj=>zV (hb j zo hj)⟩
theorem a67 {k:Tx} (hb:∀ j (hj:j<7),sevenT[j]'hj≠k):rankT k=7:=by
 unfold rankT;refine List.findIdx_eq_length.2 fun x hx=>?_;obtain ⟨j,hj,rfl⟩:=List.getElem_of_mem hx;exact zV (hb j hj)
theorem b56 {k:Tx} {i:Nat} (h:i<7) (hb:∀ j (hj:j<7),j≤i→sevenT[j]'hj≠k):i<rankT k:=by
 refine Nat.lt_of_not_le fun hle=>?_;have hl:rankT k<sevenT.length:=xu hle h;have:=List.findIdx_getElem (p:=fun x=>decide (x=k)) (w:=hl);exact hb _ hl hle (yB this)
theorem c21 {w:World} {g:Nat} {t:Nat} {fz:Nat×Nat} (hb:w.heap[g]?=some (.cells c1J t fz)) {i:Nat} (h:i<7):g8 G.P w 9 ⟨g,E.J0 0 ((i:Int)).toNat 1,none⟩ (m9 (sevenT[i]'h)):=by
 refine L5 hb ?_ rfl;rw [E.r9,zg,yW,wB];exact c3F h
theorem a8W (k:Tx) (w:World):Calls G.P 125 #[m9 k] w (N2 (.int .i64 (rankT k:Nat)) w):=by
 refine zN Tryz.func125 ?_;refine zR ?_;refine G2 a2a sevV (by rw [zb];rfl) b0o rfl zd zd ?_
 have ca:Cl w (w.alloc (.cells (sevV.flatMap fun v=>v.cells.toList).toArray 9)):=Cl.alloc w _;have na:(w.alloc (.cells (sevV.flatMap fun v=>v.cells.toList).toArray 9)).heap[w.heap.size]?=some (.cells c1J 9 (0,0)):=d9 w _;generalize w.alloc (.cells (sevV.flatMap fun v=>v.cells.toList).toArray 9)=w1 at *;refine zR ?_;refine B6 (σ:=Nat) [2,4] 5 (fun i=>[(4,.int .i64 i)]) (fun i w'=>w'=w1∧i≤7∧∀ j (hj:j<7),j<i→sevenT[j]'hj≠k) (fun i=>7-i) zk 0 ⟨rfl,zo,fun _ _ h=>absurd h (Nat.not_lt_zero _)⟩ ⟨rfl,trivial⟩ ?_;rintro i j w' ⟨rfl,hi,hb⟩;refine zR ?_;apply E.b9<;>intro h
 ·have q:=h;clear h;refine zR ?_;have hi7:i<7:=by omega
  refine zC ?_;refine zR ?_;refine b7 _ (c21 na hi7) ?_;generalize he:sevenT[i]'hi7=T;refine zR ?_;apply E.b9<;>intro h
  ·have q2:=P8.1 h;clear h;refine zR ?_;exact ⟨C2 (by rw [b1j hi7 (he.trans q2) hb]),ca⟩
  ·have q2:T≠k:=fun e=>h (by rw [e])
   clear h;refine zR ?_;refine ⟨i+1,⟨d8 (C7 zo),trivial⟩,⟨rfl,zo,fun j hj h2=>?_⟩,zo⟩;by_cases e:j<i
   ·exact hb j hj e
   ·have:j=i:=by omega
    subst this;rw [he];exact q2
 ·have q:=h;clear h;refine zR ?_;exact ⟨C2 (by rw [a67 fun j hj=>hb j hj zo]),ca⟩
def Gr (w w':World):Prop:=∃ q os',w'=Go.Sort.grow (w.drewN q) os'
theorem Gr.alloc {w w':World} (h:Gr w w') (o:Obj):Gr w (w'.alloc o):=by
 obtain ⟨q,os',rfl⟩:=h;exact ⟨q,os'++#[o],by rw [Go.Sort.alloc_eq_grow,Go.Sort.grow_grow]⟩
theorem Gr.refl (w:World):Gr w w:=⟨0,#[],by rw [Go.Sort.grow_empty];rfl⟩
def b1k (x y:Tg):Int:=if x.k=y.k then 0 else if G1 x.k y.k=true then -1 else 1
def F5 (x:Tg):List Value:=[m9 x.k,m9 x.v]
theorem b9w {a b:Tx} {u v:Tx} (hne:a≠b) (h:G1 a b=true):b1k ⟨a,u⟩ ⟨b,v⟩=-1:=by unfold b1k;simp only;rw [zJ hne,zM h]
theorem b9x {a b:Tx} {u v:Tx} (hne:a≠b) (h:G1 b a=true):b1k ⟨a,u⟩ ⟨b,v⟩=1:=by unfold b1k;simp only;rw [zJ hne,zJ (by rw [a5c h];exact Bool.false_ne_true)]
theorem b6P (a u b v:Tx) (w:World):Calls G.P 117 #[.agg #[m9 a,m9 u],.agg #[m9 b,m9 v]] w (fun r w'=>r = .returned (.int .i64 (b1k ⟨a,u⟩ ⟨b,v⟩))∧Gr w w'):=by
 refine zN Tryz.func117 ?_;refine zR ?_;have ga:Gr w ((w.alloc (.cells #[m9 a,m9 u] 163)).alloc (.cells #[m9 b,m9 v] 163)):=((Gr.refl w).alloc _).alloc _;have na:((w.alloc (.cells #[m9 a,m9 u] 163)).alloc (.cells #[m9 b,m9 v] 163)).heap[w.heap.size]?=some (.cells #[m9 a,m9 u] 163 (0,0)):=(Cl.alloc _ _).blk (d9 _ _);have nb:((w.alloc (.cells #[m9 a,m9 u] 163)).alloc (.cells #[m9 b,m9 v] 163)).heap[(w.alloc (.cells #[m9 a,m9 u] 163)).heap.size]?=some (.cells #[m9 b,m9 v] 163 (0,0)):=d9 _ _;generalize (w.alloc (.cells #[m9 a,m9 u] 163)).alloc (.cells #[m9 b,m9 v] 163)=w1 at *;generalize (w.alloc (.cells #[m9 a,m9 u] 163)).heap.size=kb at *;generalize w.heap.size=ka at *;refine b7 _ (L5 na rfl rfl) (zR ?_);refine b7 _ (L5 nb rfl rfl) (zR ?_);apply E.b9<;>intro h
 ·have q:=P8.1 h;clear h;refine zR ?_;exact ⟨C2 (by unfold b1k;simp only;rw [zM q]),ga⟩
 have hne:a≠b:=fun e=>h (by rw [e])
 clear h;refine zR ?_;refine G2 a2a sevV (by rw [zb];rfl) b0o rfl zd zd ?_
 have gb:Gr w (w1.alloc (.cells (sevV.flatMap fun v=>v.cells.toList).toArray 9)):=ga.alloc _;have ns:(w1.alloc (.cells (sevV.flatMap fun v=>v.cells.toList).toArray 9)).heap[w1.heap.size]?=some (.cells c1J 9 (0,0)):=d9 w1 _;have na:=(Cl.alloc w1 (.cells (sevV.flatMap fun v=>v.cells.toList).toArray 9)).blk na;have nb:=(Cl.alloc w1 (.cells (sevV.flatMap fun v=>v.cells.toList).toArray 9)).blk nb;generalize w1.alloc (.cells (sevV.flatMap fun v=>v.cells.toList).toArray 9)=w2 at *;generalize w1.heap.size=ks at *;refine zR ?_;refine B6 (σ:=Nat) [4,6,14] 15 (fun i=>[(14,.int .i64 i)]) (fun i w'=>w'=w2∧i≤7∧∀ j (hj:j<7),j<i→sevenT[j]'hj≠a∧sevenT[j]'hj≠b) (fun i=>7-i) zk 0 ⟨rfl,zo,fun _ _ h=>absurd h (Nat.not_lt_zero _)⟩ ⟨rfl,trivial⟩ ?_;rintro i j w' ⟨rfl,hi,hb⟩;refine zR ?_;apply E.b9<;>intro h
 ·have q:=h;clear h;have hi7:i<7:=by omega
  refine zR ?_;refine zC ?_;refine zR ?_;refine b7 _ (c21 ns hi7) ?_;generalize he:sevenT[i]'hi7=T;refine zR ?_;refine b7 _ (L5 na rfl rfl) (zR ?_);apply E.b9<;>intro h
  ·have q2:=P8.1 h;clear h;refine zR ?_;have ra:rankT a=i:=b1j hi7 (he.trans q2.symm) fun j hj h2=>(hb j hj h2).1;have rb:i<rankT b:=b56 hi7 fun j hj h2 e=>by
    by_cases h3:j<i
    ·exact (hb j hj h3).2 e
    ·have:j=i:=by omega
     subst this;exact hne (by rw [q2,← he,e])
   exact ⟨C2 (b9w hne ((a08 a b).2 (.inl zo))).symm,gb⟩
  have q2:T≠a:=fun e=>h (by rw [e])
  clear h;refine zR ?_;refine b7 _ (L5 nb rfl rfl) (zR ?_);apply E.b9<;>intro h
  ·have q3:=P8.1 h;clear h;refine zR ?_;have rb:rankT b=i:=b1j hi7 (he.trans q3.symm) fun j hj h2=>(hb j hj h2).2;have ra:i<rankT a:=b56 hi7 fun j hj h2 e=>by
    by_cases h3:j<i
    ·exact (hb j hj h3).1 e
    ·have:j=i:=by omega
     subst this;exact hne (by rw [q3,← he,e])
   exact ⟨C2 (b9x hne ((a08 b a).2 (.inl zo))).symm,gb⟩
  have q3:T≠b:=fun e=>h (by rw [e])
  clear h;refine zR ?_;refine ⟨i+1,⟨d8 (C7 zo),trivial⟩,⟨rfl,zo,fun j hj h2=>?_⟩,zo⟩;by_cases e:j<i
  ·exact hb j hj e
  ·have:j=i:=by omega
   subst this;rw [he];exact ⟨q2,q3⟩
 have q:=h;clear h;have ra:rankT a=7:=a67 fun j hj=>(hb j hj zo).1;have rb:rankT b=7:=a67 fun j hj=>(hb j hj zo).2;have hlt:∀ x y:Tx,Op.bytesLess (tx x).toList (tx y).toList=Op.bytesLess x y:=fun x y=>by rw [ByteArray.toList_eq,ByteArray.toList_eq];rfl
 refine zR ?_;refine b7 _ (L5 na rfl rfl) (zR ?_);refine b7 _ (L5 nb rfl rfl) (zR ?_);rw [hlt];cases hab:Op.bytesLess a b
 ·refine zR ?_;refine b7 _ (L5 nb rfl rfl) (zR ?_);refine b7 _ (L5 na rfl rfl) (zR ?_);rw [hlt];cases hba:Op.bytesLess b a
  ·exact absurd (b4m a b hab hba) hne
  ·refine zR ?_;exact ⟨C2 (b9x hne ((a08 b a).2 (.inr ⟨zo,hba⟩))).symm,gb⟩
 ·refine zR ?_;exact ⟨C2 (b9w hne ((a08 a b).2 (.inr ⟨zo,hab⟩))).symm,gb⟩
instance:Inhabited Tg:=⟨⟨[],[]⟩⟩
theorem a68:∀ (l:List Tg) (t:Nat),(l.flatMap F5)[t]?=if h:t/2<l.length then (F5 l[t/2])[t%2]? else none
 | [],t=>by simp
 | x::r,0=>rfl
 | x::r,1=>rfl
 | x::r,t+2=>by
  have e1:(t+2)/2=t/2+1:=by omega
  have e2:(t+2)%2=t%2:=by omega
  rw [xZ];show (m9 x.k::m9 x.v::r.flatMap F5)[t+2]?=_;rw [List.getElem?_cons_succ,List.getElem?_cons_succ,a68 r t];simp only [e1,e2,zh,Nat.add_lt_add_iff_right,List.getElem_cons_succ]
theorem O2:∀ l:List Tg,(l.flatMap F5).length=l.length*2
 | []=>rfl
 | x::r=>by rw [xZ,zF,O2 r,zh];show 2+_=_;omega
theorem b2L (l:List Tg):Sort.flatK F5 2 l.toArray=(l.flatMap F5).toArray:=by
 apply xv;intro t;by_cases h:t<l.length*2
 ·have h2:t/2<l.length:=by omega
  have e:=Sort.get_flatK F5 2 l.toArray t (by simpa using h)
  rw [show (l.flatMap F5).toArray[t]?=(l.flatMap F5)[t]? from List.getElem?_toArray ..,a68,dif_pos h2];have hs:t<(Sort.flatK F5 2 l.toArray).size:=by simpa using h
  rw [wJ hs];rw [getElem!_pos _ t hs,getElem!_pos _ (t/2) (by simpa using h2)] at e
  rw [e];rcases (by omega:t%2=0∨t%2=1) with e3|e3<;>rw [e3]<;>rfl
 ·rw [xj (by simp;omega),xj (by rw [List.size_toArray,O2];omega)]
theorem c22:(Go.Proofs.ltOf b1k:Tg→Tg→Bool)=fun x y=>G1 x.k y.k:=by
 funext x y;unfold Go.Proofs.ltOf b1k;by_cases h:x.k=y.k
 ·rw [zM h,h,a1l];rfl
 ·rw [zJ h];cases G1 x.k y.k<;>rfl
theorem b9y:Sort.SWO (fun x y:Tg=>G1 x.k y.k) where
 irrefl x:=a1l x.k
 trans x y z h h':=a2f h h'
 ntrans x y z h h':=by
  cases e:G1 x.k z.k
  ·rfl
  ·cases e2:G1 y.k x.k
   ·have:=a63 h e2;rw [this] at e;rw [e] at h';cases h'
   ·rw [a2f e2 e] at h';cases h'
theorem c3G {l:List Tg} (h12:l.length≤12) {g cap:Nat} (w:World) (hb:w.heap[g]?=some (.cells (l.flatMap F5).toArray 163 (0,0))) :
  Calls G.P 116 #[.slice (some ⟨g,0,none⟩) l.length cap,.func (.func 117) #[] #[]] w (fun r w'=>r = .returned (.tuple #[])∧∃ l':List Tg,l'.Perm l∧(l'.Pairwise fun a b=>G1 b.k a.k=false)∧w'.heap[g]?=some (.cells (l'.flatMap F5).toArray 163 (0,0))∧Tn g w w'):=by
 have hg:g<w.heap.size:=(yh.1 hb).1;have eg:∀ args w,(callFunc 117 args).run Tryz.prog w = .ok (.enter 117 args) w:=enters_of Tryz.func117 zk rfl;have hH:Sort.HoldsK F5 2 w g 0 l.toArray:=by
  intro j hj;rw [b2L] at hj ⊢;constructor
  ·rw [C9 hb,yW,getElem!_pos _ j hj,wJ hj];rfl
  ·simp [World.frozen?,hb]
 have hcon:=AnyQ.slices_SortFunc_small_sorted Tryz.sortKV 2 Tryz.isAgg163 Tryz.sizeOf163 F5 (fun _=>rfl) (fun x v hv=>by simp [F5] at hv;rcases hv with rfl|rfl<;>rfl) b1k 117 #[] (by rw [c22];exact b9y) g 0 cap l.toArray w eg
  (fun m os dk _ x y=>b6P x.k x.v y.k y.v _) hH hg (by simpa using h12) (fun n W h=>(Any.bits_Len Tryz.bitsLen2 n W zo zo).mono fun _ _ ⟨he,hw⟩=>⟨⟨_,he⟩,hw⟩)
 refine Go.Calls.mono hcon ?_;rintro r w' ⟨hr,d',n,os,hp,hs,rfl⟩;rw [c22] at hs;have hsz:d'.size=l.length:=by have:=hp.1;simpa using this
 have e1:(d'.extract 0 l.toArray.size).toList=d'.toList:=by rw [List.size_toArray,← hsz,Array.extract_size]
 have e2:(l.toArray.extract 0 l.toArray.size).toList=l:=by rw [Array.extract_size]
 have hperm:d'.toList.Perm l:=by
  have:=hp.2.2;rw [e1,e2] at this;exact this
 have hF:Sort.flatK F5 2 d'=(d'.toList.flatMap F5).toArray:=by rw [← b2L,Array.toArray_toList]
 refine ⟨hr,d'.toList,hperm,?_,?_,?_⟩
 ·rw [List.pairwise_iff_getElem];intro i j hi hj hij;rw [Array.length_toList] at hi hj;have:=hs i j (xA _) hij (by rw [List.size_toArray];omega)
  rw [getElem!_pos d' i hi,getElem!_pos d' j hj] at this;simpa using this
 ·unfold Go.Proofs.sortWorldK Sort.putRowK Sort.putRow Sort.mapBlock Sort.grow Sort.ahead;simp only
  rw [Array.getElem?_append_left (by simpa using hg),Array.getElem?_modify,zM rfl,hb,hF]
  simp only [wM,Sort.onCells];congr 2;apply xv;intro k;unfold Sort.putCells;rw [Array.getElem?_mapIdx];by_cases hk:k<(d'.toList.flatMap F5).toArray.size
  ·have hk2:k<(l.flatMap F5).toArray.size:=by
    simp only [List.size_toArray,O2,Array.length_toList] at hk ⊢;omega
   rw [wJ hk2,wJ hk,wM,zM ⟨xA _,zo⟩,Nat.sub_zero,getElem!_pos _ k hk];rfl
  ·have hk2:¬ k<(l.flatMap F5).toArray.size:=by
    simp only [List.size_toArray,O2,Array.length_toList] at hk ⊢;omega
   rw [xj zo,xj zo];rfl
 ·refine ⟨rfl,rfl,rfl,?_,fun k hk hne=>?_⟩
  ·unfold Go.Proofs.sortWorldK Sort.putRowK Sort.putRow Sort.mapBlock Sort.grow Sort.ahead;simp
  ·unfold Go.Proofs.sortWorldK Sort.putRowK Sort.putRow Sort.mapBlock Sort.grow Sort.ahead;simp only
   rw [Array.getElem?_append_left (by simpa using hk),Array.getElem?_modify,zJ (wG hne)]
end
section
open Go Go.RowKit
open E
open Ch Bb
set_option maxHeartbeats 1000000 in
theorem b6Q (s0:Tx) (hs:s0.length≤1000) (w:World):Calls G.P 190 #[m9 s0,m9 [32]] w (fun r w'=>∃ v,r = .returned v∧Row 9 1 a38 w.heap.size w' v (a2s 32 [] s0)∧Cl w w'):=by
 have h1:(tx [32]).size=1:=C5 _;refine zN Tryz.func190 ?_;refine zR ?_;refine B6 (σ:=List Tx×Value×Tx) [0,4,5,8] 9 (fun s=>[(0,m9 s.2.2),(5,s.2.1)]) (fun s w'=>Cl w w'∧Row 9 1 a38 w.heap.size w' s.2.1 s.1∧s.1++a2s 32 [] s.2.2=a2s 32 [] s0∧s.1.length+s.2.2.length≤1000) (fun s=>s.2.2.length) zk
  ([],.slice none 0 0,s0) ⟨Cl.refl _,Row.nil _ _,rfl,by simpa using hs⟩ ⟨rfl,rfl,trivial⟩ ?_
 rintro ⟨l,v,s⟩ j w1 ⟨c1,hr,he,hl⟩;simp only at c1 hr he hl ⊢;obtain ⟨a,c,rfl,_⟩:=hr.form;refine zR ?_;refine l8 (a6u 32 s zo _) (zR ?_);by_cases hm:(32:UInt8)∈s
 ·have hix:ixZ 32 s=(s.idxOf 32:Int):=zM hm;obtain ⟨e1,e2,e3⟩:=a60 hm;rw [c1B hm] at he;rw [hix];refine zR ?_;refine b2r (l:=s) (s.take (s.idxOf 32)) rfl rfl rfl zo zo (by rw [zg]) (zR ?_)
  refine G2 a2a [m9 (s.take (s.idxOf 32))] (by rw [zb];rfl) (by simp [Value.cells,m9]) rfl zd zd ?_
  have cb:=Cl.alloc w1 (.cells (([m9 (s.take (s.idxOf 32))]:List Value).flatMap fun v=>v.cells.toList).toArray 9);have hbx:Row 9 1 a38 w1.heap.size (w1.alloc (.cells (([m9 (s.take (s.idxOf 32))]:List Value).flatMap fun v=>v.cells.toList).toArray 9)) (.slice (some ⟨w1.heap.size,0,none⟩) 1 1) [s.take (s.idxOf 32)]:=L4 D1 w1 [s.take (s.idxOf 32)] (zU rfl) _ rfl;generalize w1.alloc (.cells (([m9 (s.take (s.idxOf 32))]:List Value).flatMap fun v=>v.cells.toList).toArray 9)=w2 at *;refine zR ?_;refine K4 a2a (l:=l) (news:=[s.take (s.idxOf 32)]) rfl (hr.step cb) rfl hbx D1 b0f (by simp only [zh,za];omega) zd (c1.trans cb).size fun v' w3 hr' hg=>?_
  have c3:Cl w w3:=hg.toCl rfl (c1.trans cb);obtain ⟨a9,c9,rfl,_⟩:=hr'.form;refine zR ?_;rw [h1];have en:IntKind.i64.wrap ((s.idxOf 32:Int)+((1:Nat):Int))=((s.idxOf 32+1:Nat):Int):=by rw [g9 zo zo];push_cast;rfl
  rw [en];refine a8H (l:=s) (s.drop (s.idxOf 32+1)) rfl rfl rfl zo zo (by rw [zg]) (zR ?_)
  exact ⟨(l++[s.take (s.idxOf 32)],_,s.drop (s.idxOf 32+1)),⟨rfl,rfl,trivial⟩,⟨c3,hr',by simpa using he,by simp;omega⟩,by simp;omega⟩
 ·have hix:ixZ 32 s=-1:=zJ hm;rw [a4r hm,yM] at he;rw [hix];refine zR ?_;refine G2 a2a [m9 s] (by rw [zb];rfl) (by simp [Value.cells,m9]) rfl zd zd ?_
  have cb:=Cl.alloc w1 (.cells (([m9 s]:List Value).flatMap fun v=>v.cells.toList).toArray 9);have hbx:Row 9 1 a38 w1.heap.size (w1.alloc (.cells (([m9 s]:List Value).flatMap fun v=>v.cells.toList).toArray 9)) (.slice (some ⟨w1.heap.size,0,none⟩) 1 1) [s]:=L4 D1 w1 [s] (zU rfl) _ rfl;generalize w1.alloc (.cells (([m9 s]:List Value).flatMap fun v=>v.cells.toList).toArray 9)=w2 at *;refine zR ?_;refine K4 a2a (l:=l) (news:=[s]) rfl (hr.step cb) rfl hbx D1 b0f (by simp only [zh,za];omega) zd (c1.trans cb).size fun v' w3 hr' hg=>?_
  have c3:Cl w w3:=hg.toCl rfl (c1.trans cb);obtain ⟨a9,c9,rfl,_⟩:=hr'.form;refine zR ?_;exact ⟨_,rfl,by rw [← he];exact hr',c3⟩
theorem b9z {p:l9} (hh:p.half.toNat<10000000) (hf:p.full.toNat<10000000):(O0 p).length≤1000:=by
 have h1:=a1D p 8;have h2:=a9J p.turn;have h3:=a4f p.castle;have h4:=b4V p.ep;have h5:=a2X 7 p.half.toNat zd zo;have h6:=a2X 7 p.full.toNat zd zo;unfold O0;simp only [zF,zh,za];omega
set_option maxHeartbeats 1000000 in
theorem b2M {p:l9} (hI:D0 p) (hh:p.half<10000000) (hf:p.full<10000000) (w:World) (hT:D5 w) (hS:Spc w) :
  Calls G.P 134 #[m9 (O0 p)] w (fun r w'=>Cl w w'∧∃ P b,r = .returned (.tuple #[.pointer (some ⟨P,0,none⟩),.nilIface])∧w.heap.size≤P∧w.heap.size≤b
  ∧w'.heap[P]?=some (.cells (hdA b (E6 p false) (.slice none 0 0)) 173 (0,0))∧w'.heap[b]?=some (.cells (H3 (A4 p)) 237 (0,0))):=by
 have hh0:=hI.h0;have hf1:=hI.f1;have hlen:=b9z (p:=p) zo zo;have hparts:=b64 p;have hep:=c4X hI.pass;have ht:=hI.turn;have hA1:=fun w=>b9k p.half.toNat zo w;have hA2:=fun w=>b9k p.full.toNat zo w;rw [zi hh0] at hA1;rw [zi (by omega:0≤p.full)] at hA2
 have hTr:=b6E hI.pc zo w hS;generalize O0 p=T at *;refine zN Tryz.func134 ?_;refine zR ?_;refine o9 hTr fun w1 c1=>zR ?_;refine o7 (b6Q T hlen w1) ?_;rintro e w2 ⟨v,rfl,hr,c2⟩;refine ⟨_,rfl,?_⟩;rw [hparts] at hr;obtain ⟨a,c,rfl,ha⟩:=hr.form;obtain ⟨g,rfl⟩:=ha (by simp)
 have c02:=c1.trans c2;have hld:=fun (i:Nat) (hi:i<6) (w':World) (hc:Cl w2 w') {v:Value} (hv:(a38 ([A6 p 8,Y2 p.turn,B9 p.castle,epT p.ep,X8 p.half.toNat,X8 p.full.toNat][i]'(by simpa using hi)))[0]?=some v)=>O5 (t:=9) (hr.step hc) D1 i 0 (by simpa using hi) zd hv (show i=i*1+0 by omega) rfl
 have hl0:=fun w' hc=>hld 0 zd w' hc (v:=m9 (A6 p 8)) rfl;have hl1:=fun w' hc=>hld 1 zd w' hc (v:=m9 (Y2 p.turn)) rfl;have hl2:=fun w' hc=>hld 2 zd w' hc (v:=m9 (B9 p.castle)) rfl;have hl3:=fun w' hc=>hld 3 zd w' hc (v:=m9 (epT p.ep)) rfl;have hl4:=fun w' hc=>hld 4 zd w' hc (v:=m9 (X8 p.half.toNat)) rfl;have hl5:=fun w' hc=>hld 5 zd w' hc (v:=m9 (X8 p.full.toNat)) rfl;clear hld hr hparts ha;refine zR ?_;refine b7 _ (hl0 _ (Cl.refl _)) (zR ?_);refine o7 (b4f hI w2 (hT.cl c02)) ?_;rintro e w3 ⟨c3,b,rfl,sb,hB⟩;refine ⟨_,rfl,zR ?_⟩;refine H6 true (G7 rfl) (zR ?_);refine b7 _ (hl1 _ c3) (zR ?_);refine l8 (b65 p.turn ht _) (zR ?_);refine E.p9 zo (zR ?_);refine b7 _ (hl2 _ c3) (zR ?_);refine o9 (b1g p.castle hI.c0 hI.c1 w3) fun w4 c4=>?_;have c24:=c3.trans c4;refine zR ?_;refine H6 true (G7 rfl) (zR ?_);refine b7 _ (hl3 _ c24) (zR ?_);refine o9 (b9i p.ep (by rcases hep with h|h;exact .inl h;exact .inr ⟨h.1,h.2.1,zo⟩) _) fun w4 c4'=>?_
 have c24:=c24.trans c4';have c4:=c4.trans c4';refine zR ?_;refine H6 true (G7 rfl) (zR ?_);refine b7 _ (hl4 _ c24) (zR ?_);refine o9 (hA1 w4) fun w5 c5=>?_;have c25:=c24.trans c5;refine zR ?_;refine H6 true (G7 rfl) (zR ?_);refine E.p9 zo (zR ?_);repeat (refine E.p9 (show ¬ p.half<0 by omega) ?_;refine zR ?_)
 refine b7 _ (hl5 _ c25) (zR ?_);refine o9 (hA2 w5) fun w6 c6=>?_;have c26:=c25.trans c6;refine zR ?_;refine H6 true (G7 rfl) (zR ?_);refine E.p9 zo (zR ?_);repeat (refine E.p9 (show ¬ p.full<1 by omega) ?_;refine zR ?_)
 refine y7 (hdA b (E6 p false) (.slice none 0 0)) zk (zR ?_);have cF:=Cl.alloc w6 (.cells (hdA b (E6 p false) (.slice none 0 0)) 173);have s06:=(c02.trans c26).size;exact ⟨(c02.trans c26).trans cF,_,b,rfl,s06,by have:=c02.size;omega,d9 _ _,cF.blk (c6.blk (c5.blk (c4.blk hB)))⟩
end
section
open Go Go.RowKit
open E
theorem b4o {p:l9} (hI:Ch.D0 p) (hN:a1A p):Fen p:=⟨hI.pc,hI.c0,hI.c1,hI.h0,by have:=hN.1;omega,by have:=hI.f1;omega,by have:=hN.2;omega⟩
theorem c1K {p:l9} (hI:Ch.D0 p) {m:Mv} (hm:m∈Ch.A1 p):(Ch.made p m).ep≤63:=by
 have hmo:=a0E hI hm;obtain ⟨⟨a0,a1⟩,⟨b0,b1⟩,d0,d1⟩:=hmo;show (if Ch.G3 p m then (m.fr+m.to)/2 else -1)≤63
 split<;>omega
theorem b90 (p:l9) (hI:Ch.D0 p) (hN:Nm p) (m:Mv) (hm:m∈Ch.A1 p) (me:Int) (ou:Tx) (w:World):Calls G.P 40 #[D3 p,mvV m,.int .i64 me,m9 ou] w (N2 (stV (Ch.X7 p m (me,ou))) w):=by
 have hmo:=a0E hI hm;have hI2:=Ch.D0.made hI hm;have hN2:=hN.made hI m;have hep:=c1K hI hm;have hbt:=c0T ⟨m,Ch.a0W p m,Ch.a28 p m,Ch.b1N p m,Ch.b0F m,Ch.O0 (Ch.made p m),Ch.a43 (Ch.made p m),Ch.made p m,ou,me,Ch.H9 (Ch.made p m)⟩;have hun:Ch.X7 p m (me,ou)=⟨m,Ch.a0W p m,Ch.a28 p m,Ch.b1N p m,Ch.b0F m,Ch.O0 (Ch.made p m),Ch.a43 (Ch.made p m),Ch.made p m,ou,me,Ch.H9 (Ch.made p m)⟩:=by unfold Ch.X7;rfl
 have hst:stV (Ch.X7 p m (me,ou)) = .agg (stL ⟨m,Ch.a0W p m,Ch.a28 p m,Ch.b1N p m,Ch.b0F m,Ch.O0 (Ch.made p m),Ch.a43 (Ch.made p m),Ch.made p m,ou,me,Ch.H9 (Ch.made p m)⟩).toArray:=by rw [hun];rfl
 have hone:=b3G (Ch.X7 p m (me,ou));have hlen:=a1g (Ch.X7 p m (me,ou));refine zN Tryz.func40 ?_;refine zG ?_;generalize hW:(w.alloc (.cells (s7 p) 24)).alloc (.cells (S8 m) 36)=W0;have hP:∀ w',Cl W0 w'→w'.heap[w.heap.size]?=some (.cells (s7 p) 24 (0,0)):=fun w' h=>hP2 (hW▸h);have hM:∀ w',Cl W0 w'→w'.heap[(w.alloc (.cells (s7 p) 24)).heap.size]?=some (.cells (S8 m) 36 (0,0)):=fun w' h=>hM2 (hW▸h);have hE:∀ w',Cl W0 w'→Cl w w':=fun w' h=>hE2 (hW▸h);have z:=Cl.refl W0;obtain ⟨zs,hzs,hz81⟩:=zSt;obtain ⟨zp,hzp,hz69⟩:=a9p;refine v8 zs hzs ?_;have hB:∀ w',Cl (W0.alloc (.cells zs.cells 39)) w'→w'.heap[W0.heap.size]?=some (.cells zs.cells 39 (0,0)):=fun w' h=>h.blk (d9 _ _);have c1:Cl W0 (W0.alloc (.cells zs.cells 39)):=Cl.alloc _ _;generalize W0.alloc (.cells zs.cells 39)=w1 at *;refine zR ?_;refine b7 _ (A3 (hP _ c1)) (zR ?_);refine b7 _ (a0f (hM _ c1)) (zR ?_);refine o9 (a6b p m hI.pc hmo hI.turn hI.c0 hI.c1 hI.h0 hN.nums.1 (by have:=hI.f1;omega) hN.nums.2 _) fun w2 c2=>zR ?_
 refine v8 zp hzp (zR ?_);refine K9 (d9 _ _) (V0 (Ch.made p m)) rfl a0I (A7 _) (one_pos _) (by rw [hz69];omega) (fun w3 u3=>?_)
 have hQ:w3.heap[w2.heap.size]?=some (.cells (s7 (Ch.made p m)) 24 (0,0)):=by
  rw [u3.at_,C6 _ _ (by rw [A7,hz69])];rfl
 have c13:Cl w1 w3:=u3.cl (c2.trans (Cl.alloc _ _)) c2.size;have c3:Cl W0 w3:=c1.trans c13;clear u3;have hB3:=hB _ c13;have q1:=fun w=>c3h p hI hN m hm w;have q2:=fun w=>a9Q p hI hN m hm w;have q3:=fun w=>b6k p hI hN m hm w;have q4:=fun w=>b6e m hmo w;have q5:=fun w=>a29 _ (b4o hI2 hN2) w;have q6:=fun w=>b3D _ (b4o hI2 hN2) hI2.turn hep w;have q7:=fun w=>b35 _ hI2 hN2 w;have hbig:W0.heap.size<w2.heap.size:=by
  have:=(yh.1 (hB _ c2)).1;exact this
 rw [hun] at hone hlen;simp only at hbt;clear hun;generalize stL ⟨m,Ch.a0W p m,Ch.a28 p m,Ch.b1N p m,Ch.b0F m,Ch.O0 (Ch.made p m),Ch.a43 (Ch.made p m),Ch.made p m,ou,me,Ch.H9 (Ch.made p m)⟩=S at *;generalize Ch.made p m=q at *;generalize Ch.a0W p m=Q1 at *;generalize Ch.a28 p m=Q2 at *;generalize Ch.b1N p m=Q3 at *;generalize Ch.b0F m=Q4 at *;generalize Ch.O0 q=Q5 at *;generalize Ch.a43 q=Q6 at *;generalize Ch.H9 q=Q7 at *;refine zR ?_;refine zK 22 ?_;refine zR ?_;refine m7 _ (fun w hw=>a0f (hM _ (c3.trans hw))) (zR ?_);refine m7 _ (fun w hw=>A3 (hP _ (c3.trans hw))) (zR ?_);refine m7 _ (fun w hw=>a0f (hM _ (c3.trans hw))) (zR ?_);refine E2 (.int .i64 Q1) (fun _ _ h=>h.trans) (fun w _=>q1 w) (zR ?_);refine m7 _ (fun w hw=>A3 (hP _ (c3.trans hw))) (zR ?_);refine m7 _ (fun w hw=>a0f (hM _ (c3.trans hw))) (zR ?_);refine E2 (m9 Q2) (fun _ _ h=>h.trans) (fun w _=>q2 w) (zR ?_);refine m7 _ (fun w hw=>A3 (hP _ (c3.trans hw))) (zR ?_);refine m7 _ (fun w hw=>a0f (hM _ (c3.trans hw))) (zR ?_);refine E2 (m9 Q3) (fun _ _ h=>h.trans) (fun w _=>q3 w) (zR ?_);refine m7 _ (fun w hw=>a0f (hM _ (c3.trans hw))) (zR ?_);refine E2 (m9 Q4) (fun _ _ h=>h.trans) (fun w _=>q4 w) (zR ?_);refine m7 _ (fun w hw=>A3 (hw.blk hQ)) (zR ?_);refine E2 (m9 Q5) (fun _ _ h=>h.trans) (fun w _=>q5 w) (zR ?_);refine m7 _ (fun w hw=>A3 (hw.blk hQ)) (zR ?_);refine E2 (m9 Q6) (fun _ _ h=>h.trans) (fun w _=>q6 w) (zR ?_);refine m7 _ (fun w hw=>A3 (hw.blk hQ)) (zR ?_);refine m7 _ (fun w hw=>A3 (hw.blk hQ)) (zR ?_);refine E2 (.int .i64 Q7) (fun _ _ h=>h.trans) (fun w _=>q7 w) (zR ?_);refine b3r S.toArray hbt (zR ?_);intro w4 c4;refine zR ?_;refine K9 (c4.blk hB3) S rfl c5G hlen hone (by rw [hz81];omega) (fun w5 u5=>?_)
 have hR:w5.heap[W0.heap.size]?=some (.cells S.toArray 39 (0,0)):=by
  rw [u5.at_,C6 _ _ (by rw [hlen,hz81])]
 have c5:Cl w w5:=u5.cl (hE _ (c3.trans c4)) (hE _ z).size;refine zR ?_;refine b7 (.agg S.toArray) ?_ ?_
 ·have:=ldA (t:=39) (o:=0) (z:=81) hR rfl (by simp [hlen])
  rw [show S.toArray.extract 0 (0+81)=S.toArray by
   have:S.toArray.size=81:=by simp [hlen]
   rw [← this];simp] at this
  exact this
 refine zR ?_;exact ⟨by rw [hst],c5⟩
def a5N (u v:Value):Prop:=∀ g,u.ownBlock=some g→v.ownBlock≠some g
theorem b6R (v:Value):a5N (.slice none 0 0) v:=fun g h=>by cases h
theorem a5N.symm {u v:Value} (h:a5N u v):a5N v u:=fun g h1 h2=>h g h2 h1
theorem Row.keepG {α:Type} {e z b0 b1:Nat} {enc:α→List Value} {w w':World} {u v v':Value} {l:List α} (h:Row e z enc b1 w u l) (hg:a6c b0 w v w' v') (hne:a5N u v):Row e z enc b1 w' u l∧a5N u v':=by
 rcases h.2 with ⟨e1,e2⟩|⟨g,cap,cur,e1,e2,e3,e4⟩
 ·subst e1;exact ⟨⟨h.1,.inl ⟨rfl,e2⟩⟩,fun g hg=>by cases hg⟩
 ·subst e1;have hn:=hne g rfl;refine ⟨⟨h.1,.inr ⟨g,cap,cur,rfl,e2,hg.keep _ _ e3 hn,e4⟩⟩,fun g' hg'=>?_⟩;injection hg' with hg';subst hg';exact hg.ne (yh.1 e3).1 hn
theorem a7K {p:l9} (hI:Ch.D0 p) (hN:a1A p):a8n p:=by
 have he:=Ch.S5 hI.pass;have ht:=hI.turn;have:=hI.c0;have:=hI.c1;have:=hI.h0;have:=hI.f1;have:=hN.1;have:=hN.2;refine ⟨fun x hx=>?_,⟨zo,zo⟩,⟨zo,zo⟩,⟨zo,zo⟩,⟨zo,zo⟩,⟨zo,zo⟩⟩;obtain ⟨i,hi,rfl⟩:=List.mem_iff_getElem.1 hx;have:Ch.sq p (i:Int)=p.board[i]:=by
  unfold Ch.sq;rw [zg,yr,ym hi];rfl
 have h2:=hI.pc (i:Int);rw [this] at h2;exact ⟨zo,zo⟩
theorem a09 (l:List l9) (p:l9) (mo:Int×Tx) (m:Mv) (r:List Mv):Ch.a1C l p mo (m::r)=if Ch.N3 p m then
   Ch.X7 p m (Ch.C4 (l++[Ch.made p m]) (Ch.made p m) mo)::Ch.a1C (l++[Ch.made p m]) (Ch.made p m) (Ch.C4 (l++[Ch.made p m]) (Ch.made p m) mo) r else []:=rfl
theorem c1L (p:l9) (hI:Ch.D0 p) (hN:Ng p 0) (looked:Bool) (ms:List Mv) (hms:∀ m∈ms,MvR m) (hn:ms.length≤90000) {v:Value} (w:World) (hrow:a3E w v ms) :
  Calls G.P 13 #[D3 p,.bool looked,v] w (fun r w'=>∃ v,r = .returned v∧Row 39 81 stL w.heap.size w' v (Ch.W9 p looked ms)∧Cl w w'):=by
 obtain ⟨al,cl,rfl,hal⟩:=hrow.form;obtain ⟨zp,hzp,hz69⟩:=a9p;refine zN Tryz.func13 ?_;refine zG ?_;generalize hW:w.alloc (.cells (s7 p) 24)=W0;have hP0:W0.heap[w.heap.size]?=some (.cells (s7 p) 24 (0,0)):=by rw [← hW];exact d9 _ _
 have hE:Cl w W0:=by rw [← hW];exact Cl.alloc _ _
 clear hW;refine zR ?_;refine b7 _ (A3 hP0) (zR ?_);refine G2 a9I [D3 p] (by rw [zb];rfl) (by simp [D3,Value.cells,A0]) rfl zd zd ?_
 have hr:=(L4 V7 W0 [p] (by simp) [D3 p] (by simp [D3,Value.cells,s7]) (e:=24) (z:=69)).mono hE.size
 have c1:=hE.trans (Cl.alloc W0 (.cells (([D3 p]:List Value).flatMap fun v=>v.cells.toList).toArray 24));generalize W0.alloc (.cells (([D3 p]:List Value).flatMap fun v=>v.cells.toList).toArray 24)=w1 at *;generalize W0.heap.size=B1 at *;have hmo0:Ch.W9 p looked ms=Ch.a1C [p] p (if looked then Ch.C4 [p] p (0,Ch.star) else (0,Ch.star)) ms:=rfl
 have hnm0:=(hN.nm zo).nums;refine zG ?_;refine Nx.mk (zG ?_);refine C3 (σ:=Unit) [9,10,15,16,17,18,19,20,21,22] 23 (fun _=>[(9,.int .i64 (if looked then Ch.C4 [p] p (0,Ch.star) else (0,Ch.star)).1),(10,m9 (if looked then Ch.C4 [p] p (0,Ch.star) else (0,Ch.star)).2)]) (fun _ w'=>Cl w1 w') zk ?_ (fun _ j w2 c2=>?_)
 ·cases looked
  ·refine zR ?_;exact ⟨(),⟨rfl,rfl,trivial⟩,Cl.refl _⟩
  ·have hEnd:=a88 [p] p (fun x hx=>by rw [zY.1 hx];exact a7K hI hnm0) rfl (by simp) hI hnm0 0 Ch.star w1 hr
   generalize Ch.C4 [p] p (0,Ch.star)=R at *;refine zR ?_;refine o9 hEnd fun w2 c2=>zR ?_;exact ⟨(),⟨rfl,rfl,trivial⟩,c2⟩
 generalize (if looked then Ch.C4 [p] p (0,Ch.star) else (0,Ch.star))=mo0 at *
 have hr2:=hr.step c2;refine zR ?_;refine B6 (σ:=Nat×List Ch.U3×List l9×l9×(Int×Tx)×Value×Value) [6,7,8,9,10,11,12] 13 (fun a=>[(7,a.2.2.2.2.2.1),(8,a.2.2.2.2.2.2),(9,.int .i64 a.2.2.2.2.1.1),(10,m9 a.2.2.2.2.1.2),(11,.int .i64 a.1)])
  (fun a w'=>a.1≤ms.length∧Ch.W9 p looked ms=a.2.1++Ch.a1C a.2.2.1 a.2.2.2.1 a.2.2.2.2.1 (ms.drop a.1)∧a.2.1.length=a.1∧a.2.2.1.length=a.1+1∧a.2.2.1.getLast?=some a.2.2.2.1∧(∀ q∈a.2.2.1,a8n q)∧Ch.D0 a.2.2.2.1∧Ng a.2.2.2.1 a.1 ∧
   Row 39 81 stL w.heap.size w' a.2.2.2.2.2.1 a.2.1∧Row 24 69 V0 w.heap.size w' a.2.2.2.2.2.2 a.2.2.1∧a5N a.2.2.2.2.2.1 a.2.2.2.2.2.2∧Cl w w') (fun a=>ms.length-a.1) zk (0,[],[p],p,mo0,.slice none 0 0,.slice (some ⟨B1,0,none⟩) 1 1)
  ⟨by simp,by rw [hmo0];rfl,rfl,rfl,rfl,fun x hx=>by rw [zY.1 hx];exact a7K hI hnm0,hI,hN,Row.nil _ _,hr2,b6R _,c1.trans c2⟩ ⟨rfl,rfl,rfl,rfl,rfl,trivial⟩ ?_
 rintro ⟨i,O,L,q,⟨me,ou⟩,vo,vl⟩ j3 w3 ⟨hi,hst,hOl,hLl,hLq,hLr,hIq,hNq,hro,hrl,hap,hcl⟩;simp only at hi hst hOl hLl hLq hLr hIq hNq hro hrl hap ⊢;clear hr2 hr hP0 c1 c2 hmo0 hE;have hnm:=hNq.nm zo;obtain ⟨ao,co,rfl,hao⟩:=hro.form;obtain ⟨al2,cl2,rfl,hal2⟩:=hrl.form;obtain ⟨gl,rfl⟩:=hal2 zo;refine zR ?_;apply E.b9<;>intro h
 ·have hil:i<ms.length:=by omega
  clear h;obtain ⟨g,o,rfl⟩:=hal zo;have ni:IntKind.i64.wrap ((i:Int)+1)=((i+1:Nat):Int):=by rw [g9 zo zo];push_cast;omega
  rw [xU hil] at hst;rw [a09] at hst;have hmr:=hms _ (yO hil);have hld:∀ w',Cl w w'→g8 G.P w' 36 ⟨g,E.J0 o ((i:Int)).toNat 3,none⟩ (mvV ms[i]):=fun w' h'=>(hrow.step h').ld i hil;generalize ms[i]=m at *;have hlast:L[L.length-1]'zo=q:=by
   rw [List.getLast?_eq_getElem?,ym zo] at hLq;exact yi hLq
  have hlm:IntKind.i64.wrap ((L.length:Int)-1)=((L.length-1:Nat):Int):=by rw [g9 zo zo];omega
  refine zR ?_;refine zC ?_;refine zR ?_;refine b7 (D3 q) (a2Q hrl V7 (L.length-1) zo rfl ?_ (by rw [hlast];rfl)) ?_
  ·simp [E.r9,hlm]
  refine zR ?_;refine v8 zp hzp (zR ?_);refine K9 (d9 _ _) (V0 q) rfl a0I (A7 _) (one_pos _) (by rw [hz69];omega) (fun w4 u4=>?_)
  have hQ:w4.heap[w3.heap.size]?=some (.cells (s7 q) 24 (0,0)):=by
   rw [u4.at_,C6 _ _ (by rw [A7,hz69])];rfl
  have c34:Cl w3 w4:=u4.cl (Cl.alloc _ _) (yJ _);clear u4;have hLegal:∀ w,Calls G.P 26 #[D3 q,mvV m] w (N2 (.bool (Ch.N3 q m)) w):=fun w=>c4o q hIq hnm.nums m hmr w;refine zR ?_;refine zK 7 ?_;refine zR ?_;refine m7 _ (fun w hw=>A3 (hw.blk hQ)) (zR ?_);refine zC ?_;refine zR ?_;refine m7 (mvV m) (fun w hw=>hld w (hcl.trans (c34.trans hw))) (zR ?_);refine E2 (.bool (Ch.N3 q m)) (fun _ _ h=>h.trans) (fun w _=>hLegal w) (zR ?_);intro w5 c5;have c35:=c34.trans c5;have hQ5:=c5.blk hQ;have hro5:=hro.step c35;have hrl5:=hrl.step c35;have hcl5:=hcl.trans c35;generalize hlb:Ch.N3 q m=lb at *;refine zR ?_;cases lb
  ·refine zR ?_;refine ⟨_,rfl,?_,hcl5⟩;rw [hst];simp only [yD,xh,zn];exact hro5
  ·have hmem:m∈Ch.A1 q:=yB hlb;have hmo:=a0E hIq hmem;have hI2:=Ch.D0.made hIq hmem;have hN2:=hNq.made hIq m;have hMade:∀ w,Calls G.P 39 #[D3 q,mvV m] w (N2 (D3 (Ch.made q m)) w):=fun w=>a6b q m hIq.pc hmo hIq.turn hIq.c0 hIq.c1 hIq.h0 hnm.nums.1 (by have:=hIq.f1;omega) hnm.nums.2 w
   have hStep:=fun me ou w=>b90 q hIq hnm m hmem me ou w;have hrR:a8n (Ch.made q m):=a7K hI2 (hN2.nm zo).nums;simp only [xy] at hst;have hL2:∀ x∈L++[Ch.made q m],a8n x:=fun x hx=>by
    rcases zr.1 hx with hx|hx
    ·exact hLr x hx
    ·rw [zY.1 hx];exact hrR
   have hL2n:(L++[Ch.made q m]).length=i+2:=by rw [zF,hLl];rfl
   have hL2q:(L++[Ch.made q m]).getLast?=some (Ch.made q m):=by simp
   generalize Ch.made q m=q2 at *;refine zG ?_;refine C3 (σ:=Value) [8,43,44,45,46,47,48,49,50,51] 52 (fun v=>[(8,v)]) (fun v w'=>Row 24 69 V0 w.heap.size w' v (L++[q2])∧Row 39 81 stL w.heap.size w' (.slice ao O.length co) O∧a5N (.slice ao O.length co) v∧w'.heap[w3.heap.size]?=some (.cells (s7 q) 24 (0,0))∧Cl w w') zk ?_ (fun v7 j7 w7 hh7=>?_)
   ·refine zR ?_;refine J2.mk2 [0,2,3,4] (.cons 1 (.cons 5 (.cons 6 (.cons 7 (.cons 8 (.cons 9 .done .nil) .nil) .nil) .nil) .nil) (.cons 5 (.cons 1 (.cons 6 (.cons 7 (.cons 8 (.cons 9 .done .nil) .nil) .nil) .nil) .nil) .nil)) zk (zR ?_);refine zC ?_;refine zR ?_;have cd:Cl w5 w5.drew:=Cl.drew (Cl.refl _);refine And.intro ?_ (And.intro ?_ trivial)
    ·refine zR ?_;refine b7 _ (A3 (cd.blk hQ5)) (zE ?_);refine b7 (mvV m) (hld _ (hcl5.trans cd)) (zE ?_);refine o9 (hMade _) fun w6 c6=>?_;have hro6:=hro5.step (cd.trans c6);have hrl6:=hrl5.step (cd.trans c6);have hcl6:=hcl5.trans (cd.trans c6);have hQ6:=(cd.trans c6).blk hQ5;refine zE ?_;refine G2 a9I [D3 q2] (by rw [zb];rfl) (by simp [D3,Value.cells,A0]) rfl zd zd (zE ?_)
     refine a0l a9I q2 rfl hrl6 rfl rfl (by simp [D3,Value.cells,s7]) V7 one_pos zo zd hcl6.size ?_
     intro v7 w7 hrl7 hg7;have hcl7:=hg7.cl w rfl hcl6;obtain ⟨hro7,hap7⟩:=hro6.keepG hg7 hap;have hQ7:w7.heap[w3.heap.size]?=some (.cells (s7 q) 24 (0,0)):=hg7.keep _ _ hQ6 (by
      intro e;injection e with e;have h1:=(hrl.lt).2;have:gl=w3.heap.size:=e;omega)
     obtain ⟨al7,cl7,rfl,hal7⟩:=hrl7.form;refine zE ?_;exact ⟨_,⟨rfl,trivial⟩,hrl7,hro7,hap7,hQ7,hcl7⟩
    ·refine zR ?_;refine b7 (mvV m) (hld _ (hcl5.trans cd)) (zE ?_);refine b7 _ (A3 (cd.blk hQ5)) (zE ?_);refine o9 (hMade _) fun w6 c6=>?_;have hro6:=hro5.step (cd.trans c6);have hrl6:=hrl5.step (cd.trans c6);have hcl6:=hcl5.trans (cd.trans c6);have hQ6:=(cd.trans c6).blk hQ5;refine zE ?_;refine G2 a9I [D3 q2] (by rw [zb];rfl) (by simp [D3,Value.cells,A0]) rfl zd zd (zE ?_)
     refine a0l a9I q2 rfl hrl6 rfl rfl (by simp [D3,Value.cells,s7]) V7 one_pos zo zd hcl6.size ?_
     intro v7 w7 hrl7 hg7;have hcl7:=hg7.cl w rfl hcl6;obtain ⟨hro7,hap7⟩:=hro6.keepG hg7 hap;have hQ7:w7.heap[w3.heap.size]?=some (.cells (s7 q) 24 (0,0)):=hg7.keep _ _ hQ6 (by
      intro e;injection e with e;have h1:=(hrl.lt).2;have:gl=w3.heap.size:=e;omega)
     obtain ⟨al7,cl7,rfl,hal7⟩:=hrl7.form;refine zE ?_;exact ⟨_,⟨rfl,trivial⟩,hrl7,hro7,hap7,hQ7,hcl7⟩
   obtain ⟨hrl7,hro7,hap7,hQ7,hcl7⟩:=hh7;obtain ⟨al7,cl7,rfl,hal7⟩:=hrl7.form;obtain ⟨gl7,rfl⟩:=hal7 zo;have hEnd:=a88 (L++[q2]) q2 hL2 hL2q zo hI2 (hN2.nm zo).nums me ou w7 hrl7;generalize Ch.C4 (L++[q2]) q2 (me,ou)=R at *;obtain ⟨me2,ou2⟩:=R;refine zR ?_;refine o9 hEnd fun w8 c8=>?_;have hro8:=hro7.step c8;have hrl8:=hrl7.step c8;have hcl8:=hcl7.trans c8;have hQ8:=c8.blk hQ7;have hStep:=fun w=>hStep me2 ou2 w;generalize hSS:Ch.X7 q m (me2,ou2)=S at *;refine zR ?_;refine J2.mk2 [0,2,3,4,6,7] (.cons 1 (.cons 5 (.cons 8 (.cons 9 (.cons 10 (.cons 11 .done .nil) .nil) .nil) .nil) .nil) (.cons 5 (.cons 1 (.cons 8 (.cons 9 (.cons 10 (.cons 11 .done .nil) .nil) .nil) .nil) .nil) .nil)) zk (zR ?_);refine zC ?_;refine zR ?_;have cd:Cl w8 w8.drew:=Cl.drew (Cl.refl _);refine And.intro ?_ (And.intro ?_ trivial)
   ·refine zR ?_;refine b7 _ (A3 (cd.blk hQ8)) (zE ?_);refine b7 (mvV m) (hld _ (hcl8.trans cd)) (zE ?_);refine o9 (hStep _) fun w9 c9=>?_;have hro9:=hro8.step (cd.trans c9);have hrl9:=hrl8.step (cd.trans c9);have hcl9:=hcl8.trans (cd.trans c9);refine zE ?_;refine G2 c0S [stV S] (by rw [zb];rfl) (by simp [stV,Value.cells,a1g]) rfl zd zd (zE ?_)
    refine a0l c0S S rfl hro9 rfl rfl (by simp [stV,Value.cells]) a1g b3G zo zd hcl9.size ?_
    intro v10 w10 hro10 hg10;have hcl10:=hg10.cl w rfl hcl9;obtain ⟨hrl10,hap10⟩:=hrl9.keepG hg10 hap7.symm;obtain ⟨ao10,co10,rfl,hao10⟩:=hro10.form;refine zE ?_;exact ⟨(i+1,O++[S],L++[q2],q2,(me2,ou2),_,_),⟨rfl,rfl,rfl,rfl,d8 ni,trivial⟩,
     ⟨by simp;omega,by rw [hst];simp,by simp [hOl],by simp [hLl],hL2q,hL2,hI2,hN2,hro10,hrl10,hap10.symm,hcl10⟩,by simp;omega⟩
   ·refine zR ?_;refine b7 (mvV m) (hld _ (hcl8.trans cd)) (zE ?_);refine b7 _ (A3 (cd.blk hQ8)) (zE ?_);refine o9 (hStep _) fun w9 c9=>?_;have hro9:=hro8.step (cd.trans c9);have hrl9:=hrl8.step (cd.trans c9);have hcl9:=hcl8.trans (cd.trans c9);refine zE ?_;refine G2 c0S [stV S] (by rw [zb];rfl) (by simp [stV,Value.cells,a1g]) rfl zd zd (zE ?_)
    refine a0l c0S S rfl hro9 rfl rfl (by simp [stV,Value.cells]) a1g b3G zo zd hcl9.size ?_
    intro v10 w10 hro10 hg10;have hcl10:=hg10.cl w rfl hcl9;obtain ⟨hrl10,hap10⟩:=hrl9.keepG hg10 hap7.symm;obtain ⟨ao10,co10,rfl,hao10⟩:=hro10.form;refine zE ?_;exact ⟨(i+1,O++[S],L++[q2],q2,(me2,ou2),_,_),⟨rfl,rfl,rfl,rfl,d8 ni,trivial⟩,
     ⟨by simp;omega,by rw [hst];simp,by simp [hOl],by simp [hLl],hL2q,hL2,hI2,hN2,hro10,hrl10,hap10.symm,hcl10⟩,by simp;omega⟩
 ·have hil:i=ms.length:=by omega
  subst hil;rw [List.drop_length] at hst;refine zR ?_;refine ⟨_,rfl,?_,hcl⟩;rw [hst];show Row _ _ _ _ _ _ (O++[]);rw [zn];exact hro
def firstL:List Int:=[3,5,4,2,1,4,5,3]
def a0z (i:Nat):Int:=firstL.getD i 0
def sqS (f i:Nat):Int:=if i%8<f then (if i/8=0 then a0z (i%8) else if i/8=1 then 6 else if i/8=6 then 12 else if i/8=7 then a0z (i%8)+6 else 0) else 0
def Y8 (f:Nat):l9:=⟨(List.range 64).map (sqS f),by simp,0,15,-1,0,1⟩
def I2:l9:=Y8 8
theorem b6S:∀ f<8,(Ch.put (Ch.put (Ch.put (Ch.put (Y8 f) f (a0z f)) (8+f) 6) (48+f) 12) (56+f) (a0z f+6)).board=(Y8 (f+1)).board:=by decide
theorem c1M {p q:l9} (h:p.board=q.board) (h1:p.turn=q.turn) (h2:p.castle=q.castle) (h3:p.ep=q.ep) (h4:p.half=q.half) (h5:p.full=q.full):p=q:=by
 cases p;cases q;simp_all
theorem b4p (f:Nat) (h:f<8):Ch.put (Ch.put (Ch.put (Ch.put (Y8 f) f (a0z f)) (8+f) 6) (48+f) 12) (56+f) (a0z f+6)=Y8 (f+1) :=
 c1M (b6S f h) rfl rfl rfl rfl rfl
theorem c3H:∀ f<8,0≤a0z f∧a0z f≤6:=by decide
def a5d:Array Value:=(firstL.map (Value.int .i64)).toArray
theorem b57 {w:World} {b u:Nat} {fz:Nat×Nat} (hb:w.heap[b]?=some (.cells a5d u fz)) (i:Nat) (h:i<8) {o:Nat} (ho:o=i):g8 G.P w 3 ⟨b,o,none⟩ (.int .i64 (a0z i)):=by
 rw [ho];refine L5 hb ?_ rfl;have:i=0∨i=1∨i=2∨i=3∨i=4∨i=5∨i=6∨i=7:=by omega
 rcases this with rfl|rfl|rfl|rfl|rfl|rfl|rfl|rfl<;>rfl
theorem c5N:∃ z,(G.P.info? 111).bind (·.zero)=some z∧z.cells.size=8:=a0C zk
theorem c5b:(G.P.info? 111).map (·.size)=some 8:=by kernel_rfl
theorem a69 (f r:Int) (h0:0≤f) (h1:f≤7) (h2:0≤r) (h3:r≤7):Ch.I9 f r=8*r+f:=by unfold Ch.I9;rw [zJ zo]
theorem c1N (w:World):Calls G.P 35 #[] w (N2 (D3 I2) w):=by
 obtain ⟨zp,hzp,hz69⟩:=a9p;obtain ⟨zf,hzf,hz8⟩:=c5N;refine zN Tryz.func35 ?_;refine zG ?_;refine v8 zp hzp ?_;have hB0:(w.alloc (.cells zp.cells 24)).heap[w.heap.size]?=some (.cells zp.cells 24 (0,0)):=d9 _ _;have c1:Cl w (w.alloc (.cells zp.cells 24)):=Cl.alloc _ _;generalize w.alloc (.cells zp.cells 24)=w1 at *;refine zR ?_;refine y7 (s7 (Y8 0)) zk (zR ?_);refine v8 zp hzp (zR ?_);refine K9 (d9 _ _) (V0 (Y8 0)) rfl a0I (A7 _) (one_pos _) (by rw [hz69];omega) (fun w2 u2=>?_)
 have hQ2:w2.heap[w1.heap.size]?=some (.cells (s7 (Y8 0)) 24 (0,0)):=by
  rw [u2.at_,C6 _ _ (by rw [A7,hz69])];rfl
 have c2:Cl w1 w2:=u2.cl (Cl.alloc _ _) (yJ _);clear u2;have hB2:=c2.blk hB0;refine zR ?_;refine y7 a5d zk (zR ?_);refine v8 zf hzf (zR ?_);refine K9 (d9 _ _) (firstL.map (Value.int .i64)) rfl c5b rfl zd (by rw [hz8];decide) (fun w3 u3=>?_)
 have hF3:w3.heap[w2.heap.size]?=some (.cells a5d 111 (0,0)):=by
  rw [u3.at_,C6 _ _ (by rw [hz8];rfl)];rfl
 have c3:Cl w2 w3:=u3.cl (Cl.alloc _ _) (yJ _);clear u3;have hQ3:=c3.blk hQ2;have hb1:w.heap.size<w1.heap.size:=(yh.1 hB0).1;have hb2:w1.heap.size<w2.heap.size:=(yh.1 hQ2).1;have hB3:=c3.blk hB2;have c13:=c1.trans (c2.trans c3);refine zR ?_;refine B6 (σ:=Nat) [3] 4 (fun a=>[(3,.int .i64 a)]) (fun a w'=>a≤8∧w'.heap[w1.heap.size]?=some (.cells (s7 (Y8 a)) 24 (0,0))∧w'.heap[w2.heap.size]?=some (.cells a5d 111 (0,0))∧w'.heap[w.heap.size]?=some (.cells zp.cells 24 (0,0))∧Cl w w') (fun a=>8-a) zk 0
  ⟨zo,hQ3,hF3,hB3,c13⟩ ⟨rfl,trivial⟩ ?_
 clear hQ3 hF3 hB3 c13 hQ2 hB2 hB0;rintro f j w4 ⟨hf,hQ,hF,hB,hcl⟩;refine zR ?_;apply E.b9<;>intro h
 ·have hf8:f<8:=by omega
  clear h;have nf:IntKind.i64.wrap ((f:Int)+1)=((f+1:Nat):Int):=by rw [g9 zo zo];push_cast;omega
  have hfb:=c3H f hf8;have hss:=b4p f hf8;refine zG ?_;refine Nx.mk ?_;refine E.a4F ?_;refine E.a3p ?_;refine (C3 (σ:=Unit) [10,11,12,13,14,15,16,17] 18 (fun _=>[]) (fun _ w'=>w'.heap[w1.heap.size]?=some (.cells (s7 (Ch.put (Y8 f) f (a0z f))) 24 (0,0))∧w'.heap[w2.heap.size]?=some (.cells a5d 111 (0,0))∧w'.heap[w.heap.size]?=some (.cells zp.cells 24 (0,0))∧Cl w w') zk ?_ (fun _ j5 w5 h5=>?_)).go
  ·refine zR ?_;refine J2.mk2 [0,2,3,6] (.cons 1 (.cons 4 (.cons 5 (.cons 7 (.cons 8 .done .nil) .nil) .nil) .nil) (.cons 4 (.cons 1 (.cons 5 (.cons 7 (.cons 8 .done .nil) .nil) .nil) .nil) .nil)) zk (zR ?_);refine zC ?_;refine zR ?_;have cd:Cl w4 w4.drew:=Cl.drew (Cl.refl _);refine And.intro ?_ (And.intro ?_ trivial)
   ·refine zR ?_;refine l8 (a2M f 0 _ zo zo zo zo) ?_;rw [a69 f 0 zo zo zo zo];refine zE ?_;refine b7 _ (b57 (cd.blk hF) f hf8 (by simp [E.r9])) (zE ?_)
    refine l8 (a4u (a0z f) 0 _ zo zo zo zo) (zE ?_);refine zC ?_;refine zE ?_;refine K9 (cd.blk hQ) [.int .i64 (a0z f+6*0)] rfl R9 rfl (by simp [Value.oneCell']) (by rw [A0,E.r9];show 0+_*1+1≤69;omega) (fun w9 u9=>zR ?_)
    refine ⟨(),trivial,?_,by rw [u9.else_ _ zo];exact cd.blk hF,by rw [u9.else_ _ zo];exact cd.blk hB,u9.cl (hcl.trans cd) zo⟩
    rw [u9.at_,E.r9,show (bif Nat.beq 0 0 then 0 else 0+0:Nat)=0 from rfl]
    simp only [yW,wB];rw [T8 _ _ _ zo zo];rw [show 8*(0:Int)+(f:Int)=(f:Int) by omega,show a0z f+6*(0:Int)=a0z f by omega]
   ·refine zR ?_;refine b7 _ (b57 (cd.blk hF) f hf8 (by simp [E.r9])) (zE ?_)
    refine l8 (a2M f 0 _ zo zo zo zo) ?_;rw [a69 f 0 zo zo zo zo];refine zE ?_;refine l8 (a4u (a0z f) 0 _ zo zo zo zo) (zE ?_);refine zC ?_;refine zE ?_;refine K9 (cd.blk hQ) [.int .i64 (a0z f+6*0)] rfl R9 rfl (by simp [Value.oneCell']) (by rw [A0,E.r9];show 0+_*1+1≤69;omega) (fun w9 u9=>zR ?_)
    refine ⟨(),trivial,?_,by rw [u9.else_ _ zo];exact cd.blk hF,by rw [u9.else_ _ zo];exact cd.blk hB,u9.cl (hcl.trans cd) zo⟩
    rw [u9.at_,E.r9,show (bif Nat.beq 0 0 then 0 else 0+0:Nat)=0 from rfl]
    simp only [yW,wB];rw [T8 _ _ _ zo zo];rw [show 8*(0:Int)+(f:Int)=(f:Int) by omega,show a0z f+6*(0:Int)=a0z f by omega]
  clear hQ hF hB hcl;obtain ⟨hQ,hF,hB,hcl⟩:=h5;refine C3 (σ:=Unit) [18,19,20,21,22] 23 (fun _=>[]) (fun _ w'=>w'.heap[w1.heap.size]?=some (.cells (s7 (Ch.put (Ch.put (Y8 f) f (a0z f)) (8+f) 6)) 24 (0,0))∧w'.heap[w2.heap.size]?=some (.cells a5d 111 (0,0))∧w'.heap[w.heap.size]?=some (.cells zp.cells 24 (0,0))∧Cl w w') zk ?_ (fun _ j6 w6 h6=>?_)
  ·skip
   refine zR ?_;refine l8 (a2M f 1 _ zo zo zo zo) ?_;rw [a69 f 1 zo zo zo zo];refine zR ?_;refine l8 (a4u 6 0 _ zo zo zo zo) (zR ?_);refine zC ?_;refine zR ?_;refine K9 hQ [.int .i64 (6+6*0)] rfl R9 rfl (by simp [Value.oneCell']) (by rw [A0,E.r9];show 0+_*1+1≤69;omega) (fun w9 u9=>zR ?_)
   refine ⟨(),trivial,?_,by rw [u9.else_ _ zo];exact hF,by rw [u9.else_ _ zo];exact hB,u9.cl hcl zo⟩
   rw [u9.at_,E.r9,show (bif Nat.beq 0 0 then 0 else 0+0:Nat)=0 from rfl]
   simp only [yW,wB];rw [T8 _ _ _ zo zo];rw [show 8*(1:Int)+(f:Int)=8+(f:Int) by omega,show (6:Int)+6*0=6 by omega]
  clear hQ hF hB hcl;obtain ⟨hQ,hF,hB,hcl⟩:=h6;refine C3 (σ:=Unit) [23,24,25,26,27] 28 (fun _=>[]) (fun _ w'=>w'.heap[w1.heap.size]?=some (.cells (s7 (Ch.put (Ch.put (Ch.put (Y8 f) f (a0z f)) (8+f) 6) (48+f) 12)) 24 (0,0))∧w'.heap[w2.heap.size]?=some (.cells a5d 111 (0,0))∧w'.heap[w.heap.size]?=some (.cells zp.cells 24 (0,0))∧Cl w w') zk ?_ (fun _ j7 w7 h7=>?_)
  ·skip
   refine zR ?_;refine l8 (a2M f 6 _ zo zo zo zo) ?_;rw [a69 f 6 zo zo zo zo];refine zR ?_;refine l8 (a4u 6 1 _ zo zo zo zo) (zR ?_);refine zC ?_;refine zR ?_;refine K9 hQ [.int .i64 (6+6*1)] rfl R9 rfl (by simp [Value.oneCell']) (by rw [A0,E.r9];show 0+_*1+1≤69;omega) (fun w9 u9=>zR ?_)
   refine ⟨(),trivial,?_,by rw [u9.else_ _ zo];exact hF,by rw [u9.else_ _ zo];exact hB,u9.cl hcl zo⟩
   rw [u9.at_,E.r9,show (bif Nat.beq 0 0 then 0 else 0+0:Nat)=0 from rfl]
   simp only [yW,wB];rw [T8 _ _ _ zo zo];rw [show 8*(6:Int)+(f:Int)=48+(f:Int) by omega,show (6:Int)+6*1=12 by omega]
  clear hQ hF hB hcl;obtain ⟨hQ,hF,hB,hcl⟩:=h7;refine zR ?_;refine J2.mk2 [0,2,3,6] (.cons 1 (.cons 4 (.cons 5 (.cons 7 (.cons 8 .done .nil) .nil) .nil) .nil) (.cons 4 (.cons 1 (.cons 5 (.cons 7 (.cons 8 .done .nil) .nil) .nil) .nil) .nil)) zk (zR ?_);refine zC ?_;refine zR ?_;have cd:Cl w7 w7.drew:=Cl.drew (Cl.refl _);refine And.intro ?_ (And.intro ?_ trivial)
  ·refine zR ?_;refine l8 (a2M f 7 _ zo zo zo zo) ?_;rw [a69 f 7 zo zo zo zo];refine zE ?_;refine b7 _ (b57 (cd.blk hF) f hf8 (by simp [E.r9])) (zE ?_)
   refine l8 (a4u (a0z f) 1 _ zo zo zo zo) (zE ?_);refine zC ?_;refine zE ?_;refine K9 (cd.blk hQ) [.int .i64 (a0z f+6*1)] rfl R9 rfl (by simp [Value.oneCell']) (by rw [A0,E.r9];show 0+_*1+1≤69;omega) (fun w9 u9=>zR ?_)
   refine ⟨f+1,⟨d8 nf,trivial⟩,⟨zo,?_,by rw [u9.else_ _ zo];exact cd.blk hF,by rw [u9.else_ _ zo];exact cd.blk hB,u9.cl (hcl.trans cd) zo⟩,zo⟩
   rw [u9.at_,E.r9,show (bif Nat.beq 0 0 then 0 else 0+0:Nat)=0 from rfl]
   simp only [yW,wB];rw [T8 _ _ _ zo zo];rw [show 8*(7:Int)+(f:Int)=56+(f:Int) by omega,show a0z f+6*(1:Int)=a0z f+6 by omega,hss]
  ·refine zR ?_;refine b7 _ (b57 (cd.blk hF) f hf8 (by simp [E.r9])) (zE ?_)
   refine l8 (a2M f 7 _ zo zo zo zo) ?_;rw [a69 f 7 zo zo zo zo];refine zE ?_;refine l8 (a4u (a0z f) 1 _ zo zo zo zo) (zE ?_);refine zC ?_;refine zE ?_;refine K9 (cd.blk hQ) [.int .i64 (a0z f+6*1)] rfl R9 rfl (by simp [Value.oneCell']) (by rw [A0,E.r9];show 0+_*1+1≤69;omega) (fun w9 u9=>zR ?_)
   refine ⟨f+1,⟨d8 nf,trivial⟩,⟨zo,?_,by rw [u9.else_ _ zo];exact cd.blk hF,by rw [u9.else_ _ zo];exact cd.blk hB,u9.cl (hcl.trans cd) zo⟩,zo⟩
   rw [u9.at_,E.r9,show (bif Nat.beq 0 0 then 0 else 0+0:Nat)=0 from rfl]
   simp only [yW,wB];rw [T8 _ _ _ zo zo];rw [show 8*(7:Int)+(f:Int)=56+(f:Int) by omega,show a0z f+6*(1:Int)=a0z f+6 by omega,hss]
 ·have hf8:f=8:=by omega
  subst hf8;refine zR ?_;refine b7 _ (A3 hQ) (zR ?_);refine K9 hB (V0 I2) rfl a0I (A7 _) (one_pos _) (by rw [hz69];omega) (fun w9 u9=>?_)
  have hR:w9.heap[w.heap.size]?=some (.cells (s7 I2) 24 (0,0)):=by
   rw [u9.at_,C6 _ _ (by rw [A7,hz69])];rfl
  refine zR ?_;refine b7 _ (A3 hR) (zR ?_);exact ⟨rfl,u9.cl hcl (yJ _)⟩
structure StR (s:Ch.U3):Prop where
 mv:MvR s.mv
 tags:I64 s.tags
 san:s.san.length≤1000
 lan:s.lan.length≤1000
 uci:s.uci.length≤1000
 fen:s.fen.length≤1000
 xfen:s.xfen.length≤1000
 pos:a8n s.pos
 outcome:s.outcome.length≤1000
 method:I64 s.method
 status:I64 s.status
theorem b91 (p:l9) (usual:Bool) (w:World):Calls G.P 11 #[D3 p,.bool usual] w (N2 (D3 (if usual then I2 else p)) w):=by
 obtain ⟨zp,hzp,hz69⟩:=a9p;refine zN Tryz.func11 ?_;refine zG ?_;generalize hW:w.alloc (.cells (s7 p) 24)=W0;have hP0:W0.heap[w.heap.size]?=some (.cells (s7 p) 24 (0,0)):=by rw [← hW];exact d9 _ _
 have hE:Cl w W0:=by rw [← hW];exact Cl.alloc _ _
 clear hW;refine v8 zp hzp ?_;have hB0:(W0.alloc (.cells zp.cells 24)).heap[W0.heap.size]?=some (.cells zp.cells 24 (0,0)):=d9 _ _;have c1:Cl W0 (W0.alloc (.cells zp.cells 24)):=Cl.alloc _ _;have hP1:=c1.blk hP0;generalize W0.alloc (.cells zp.cells 24)=w1 at *;cases usual
 ·refine zR ?_;refine b7 _ (A3 hP1) (zR ?_);refine K9 hB0 (V0 p) rfl a0I (A7 _) (one_pos _) (by rw [hz69];omega) (fun w2 u2=>zR ?_)
  refine b7 _ (A3 (p:=p) (by rw [u2.at_,C6 _ _ (by rw [A7,hz69])];rfl)) (zR ?_)
  exact ⟨rfl,u2.cl (hE.trans c1) hE.size⟩
 ·refine zR ?_;refine o9 (c1N _) fun w2 c2=>zR ?_;refine K9 (c2.blk hB0) (V0 I2) rfl a0I (A7 _) (one_pos _) (by rw [hz69];omega) (fun w3 u3=>zR ?_)
  refine b7 _ (A3 (p:=I2) (by rw [u3.at_,C6 _ _ (by rw [A7,hz69])];rfl)) (zR ?_)
  exact ⟨rfl,u3.cl (hE.trans (c1.trans c2)) hE.size⟩
theorem c1O (p:l9) (usual:Bool) (hp:usual=false→Fen p) (w:World):Calls G.P 15 #[D3 p,.bool usual] w (N2 (m9 (if usual then [] else Ch.O0 p)) w):=by
 refine zN Tryz.func15 ?_;refine zG ?_;generalize hW:w.alloc (.cells (s7 p) 24)=W0;have hP0:W0.heap[w.heap.size]?=some (.cells (s7 p) 24 (0,0)):=by rw [← hW];exact d9 _ _
 have hE:Cl w W0:=by rw [← hW];exact Cl.alloc _ _
 clear hW;cases usual
 ·refine zR ?_;refine b7 _ (A3 hP0) (zR ?_);refine o9 (a29 p (hp rfl) _) fun w2 c2=>zR ?_;exact ⟨rfl,hE.trans c2⟩
 ·refine zR ?_;exact ⟨rfl,hE⟩
def b0p (p:l9) (ms:List Mv):Bool:=Ch.valid p&&decide (p.half≤1000000)&&decide (p.full≤1000000)&&decide (ms.length≤80)&&Ch.quiet p ms
theorem b6T (p:l9) (ms:List Mv) (hms:∀ m∈ms,MvR m) {v:Value} (w:World) (hrow:a3E w v ms):Calls G.P 12 #[D3 p,v] w (N2 (.bool (b0p p ms)) w):=by
 obtain ⟨al,cl,rfl,hal⟩:=hrow.form;refine zN Tryz.func12 ?_;refine zG ?_;generalize hW:w.alloc (.cells (s7 p) 24)=W0;have hP0:W0.heap[w.heap.size]?=some (.cells (s7 p) 24 (0,0)):=by rw [← hW];exact d9 _ _
 have hE:Cl w W0:=by rw [← hW];exact Cl.alloc _ _
 clear hW;have hA:b0p p ms=(Ch.valid p&&decide (p.half≤1000000)&&decide (p.full≤1000000)&&decide (ms.length≤80)&&Ch.quiet p ms):=rfl;have hiff:=Ch.a6g p;refine zR ?_;refine b7 _ (A3 hP0) (zR ?_);refine o9 (c0o p _) fun w2 c2=>?_;have hP2:=c2.blk hP0;generalize Ch.valid p=b at *;cases b
 ·refine zR ?_;exact ⟨o8 (by rw [hA];rfl),hE.trans c2⟩
 have hI:=hiff.1 rfl;refine zR ?_;refine b7 _ (a7Y hP2) (zR ?_);apply E.b9<;>intro h
 ·have h1:=h;clear h;refine zR ?_;refine b7 _ (a5Z hP2) (zR ?_);apply E.b9<;>intro h
  ·have h2:=h;clear h;refine zR ?_;apply E.b9<;>intro h
   ·have h3:ms.length≤80:=by omega
    clear h;refine zR ?_;refine b7 _ (A3 hP2) (zR ?_);refine o9 (c0Q p hI ⟨zo,zo⟩ ms hms zo _ (hrow.step (hE.trans c2))) fun w3 c3=>?_;generalize Ch.quiet p ms=qb at *;refine zR ?_;exact ⟨o8 (by rw [hA,zX h1,zX h2,zX h3];simp),hE.trans (c2.trans c3)⟩
   ·refine zR ?_;exact ⟨o8 (by rw [hA,zV (show ¬ ms.length≤80 by omega)];simp),hE.trans c2⟩
  ·refine zR ?_;exact ⟨o8 (by rw [hA,zV h];simp),hE.trans c2⟩
 ·refine zR ?_;exact ⟨o8 (by rw [hA,zV h];simp),hE.trans c2⟩
end
section
open Go Go.RowKit
open E
open Ch Bb
section gens
variable {w:World} {dst:Option Nat} {ty:Nat} {pos:String} {af:Array Edge} {gd:Option (Nat×Bool)} {env:C8} {K:Value→World→Prop}
theorem b6U {fo:Operand} {args:Array Operand} {argTypes:Array Nat} {f:Nat} {cap:Array Value} (vs:Array Value) (hf:ev env fo = .func (.func f) #[] cap) (hfn:G.fn f=true) (ha:(args.map (ev env)).toList++cap.toList=vs.toList)
  (h:Calls G.P f vs w (fun r w'=>∃ v,r = .returned v∧K v w')):H4 G.P { dst,op:=.call { callee:=.value fo,args,argTypes },type:=ty,pos,after:=af,guard:=gd } env w K:=by
 obtain ⟨x,h1,h2,h3⟩:=G.enters f hfn;have ha:args.map (ev env)++cap=vs:=xP.1 (by rw [Array.toList_append];exact ha)
 subst ha;refine ⟨.inr (.inr ⟨f,(args.map (ev env))++cap,?_,h⟩)⟩;simp [execOp,resolve,hf,Deferred.ofValue,invoke,callFunc,h1,h3];cases hb:x.body with
 | none=>rw [hb] at h2;cases h2
 | some c=>simp
theorem b4q {f:Nat} {cs:Array Operand} (caps:Array Value) (hc:(cs.map (ev env)).toList=caps.toList) (h:K (.func (.func f) #[] caps) w):H4 G.P { dst,op:=.makeFunc (.func f) #[] cs,type:=ty,pos,after:=af,guard:=gd } env w K:=by
 have hc:=xP.1 hc;subst hc;exact ⟨.inl ⟨.func (.func f) #[] (cs.map (ev env)),w,by simp [execOp,Instr.makeFunc],h⟩⟩
end gens
theorem b6V:D0 I2:=(a6g I2).1 (by decide +kernel)
theorem b6W:o5 I2=false:=by decide +kernel
theorem b6X:O0 I2=[114,110,98,113,107,98,110,114,47,112,112,112,112,112,112,112,112,47,56,47,56,47,56,47,56,47,80,80,80,80,80,80,80,80,47,82,78,66,81,75,66,78,82,32,119,32,75,81,107,113,32,45,32,48,32,49]:=by decide +kernel
theorem a8X (w:World) (hT:D5 w) (hS:Spc w):Calls G.P 133 #[] w (fun r w'=>Cl w w'∧∃ P b,r = .returned (.pointer (some ⟨P,0,none⟩))∧w.heap.size≤P∧w.heap.size≤b∧I0 w' P b I2 (.slice none 0 0)):=by
 have hd:=b2M b6V zd zd w hT hS;rw [b6X] at hd;refine zN Tryz.func133 ?_;refine zR ?_;refine o7 hd ?_;rintro e w1 ⟨c1,P,b,rfl,sP,sb,hP,hB⟩;refine ⟨_,rfl,zR ?_⟩;exact ⟨c1,P,b,rfl,sP,sb,by rw [b6W];exact hP,hB,.inl rfl⟩
def Z8 (P:Nat):Nd:={ E0 ⟨⟨0,0,0⟩,0⟩ with pos:=.pointer (some ⟨P,0,none⟩) }
def I6 (P R tb:Nat):Gm:=⟨P,star,.map (some tb),R,R,.slice none 0 0,0⟩
set_option maxHeartbeats 1000000 in
theorem c3I {p:l9} (hI:D0 p) (hle:(B5 p).length≤218) {G0 M P b c P0 tb:Nat} (w:World) (hT:D5 w) (hb:w.heap[G0]?=some (.cells (gmA (I6 P0 M tb)) 131 (0,0))) (hM:w.heap[M]?=some (.cells (E8 (Z8 P0)) 141 (0,0)))
  (hP:w.heap[P]?=some (.cells (hdA b (E6 p false) (.slice none 0 0)) 173 (0,0))) (hB:w.heap[b]?=some (.cells (H3 (A4 p)) 237 (0,0))) (hc:w.heap[c]?=some (.cells #[.pointer (some ⟨P,0,none⟩)] 83 (0,0))) :
  Calls G.P 136 #[.pointer (some ⟨G0,0,none⟩),.pointer (some ⟨c,0,none⟩)] w (fun r w'=>r = .returned (.tuple #[])∧∃ g' z,I1 w' G0 g' [] z∧z.p=p∧z.M=M∧z.P=P∧((g'.meth:Int),g'.out)=C4 [p] p (0,star)∧Fr [P,G0,M] w w'∧g'.tags = .map (some tb)∧z.d.com=[]):=by
 have hGP:=F9 hb hP zd;have hMP:=F9 hM hP zd;have hbP:=F9 hB hP zd;have hcP:=F9 hc hP zd;have hcG:=F9 hc hb zd;have hcM:=F9 hc hM zd;have hGM:=F9 hb hM zd;have hbG:=F9 hB hb zd;have hbM:=F9 hB hM zd;have hic:=fun (w':World) (h:Cl w w')=>a6S (h:=E6 p false) (B:=A4 p) (by have:=hI.turn;show p.turn+1=1∨p.turn+1=2;omega) (W2 p 0).1 (W2 p 0).2 (W2 p 1).1 (W2 p 1).2 w' (hT.cl h) (h.blk hP) (h.blk hB)
 have hic2:(A4 p).chk (E6 p false).turn=o5 p:=b85 hI;rw [hic2] at hic;refine zN Tryz.func136 ?_;refine zR ?_;refine zK 5 ?_;refine zR ?_;refine m7 _ (fun w' hw=>L5 (v:=.pointer (some ⟨P,0,none⟩)) (hw.blk hc) rfl rfl) (zR ?_);refine m7 _ (fun w' hw=>L5 (v:=.pointer (some ⟨P,0,none⟩)) (hw.blk hc) rfl rfl) (zR ?_);refine E2 _ (fun _ _ h=>h.trans) (fun w' hw=>hic w' hw) (zR ?_);intro w1 c1;refine zR ?_;refine zT (c1.blk hP) [.bool (o5 p)] fun w2 u2=>?_;have hP2:w2.heap[P]?=some (.cells (hdA b (E6 p (o5 p)) (.slice none 0 0)) 173 (0,0)):=u2.at_;have f2:Fr [P,G0,M] w w2:=(Fr.cl c1).trans (Fr.upd u2 (by simp))
 have hb2:=(Tn.upd u2).blk (c1.blk hb) hGP;have hc2:=(Tn.upd u2).blk (c1.blk hc) hcP;have hM2:=(Tn.upd u2).blk (c1.blk hM) hMP;have hB2:=(Tn.upd u2).blk (c1.blk hB) hbP;refine zR ?_;refine b7 _ (L5 (v:=.pointer (some ⟨P,0,none⟩)) hc2 rfl rfl) (zR ?_);refine zT hb2 [.pointer (some ⟨P,0,none⟩)] fun w3 u3=>?_;have hb3:w3.heap[G0]?=some (.cells (gmA (I6 P M tb)) 131 (0,0)):=u3.at_;have f3:=f2.trans (Fr.upd u3 (by simp))
 have hP3:=(Tn.upd u3).blk hP2 (wG hGP);have hc3:=(Tn.upd u3).blk hc2 hcG;have hM3:=(Tn.upd u3).blk hM2 (wG hGM);have hB3:=(Tn.upd u3).blk hB2 hbG;refine zR ?_;refine zK 7 ?_;refine zR ?_;refine m7 _ (fun w' hw=>b0X (hw.blk hb3)) (zR ?_);refine m7 _ (fun w' hw=>L5 (v:=.pointer (some ⟨P,0,none⟩)) (hw.blk hc3) rfl rfl) (zR ?_);intro w4 c4;refine zR ?_;refine zT (c4.blk hM3) [.pointer (some ⟨P,0,none⟩)] fun w5 u5=>?_;have hM5:w5.heap[M]?=some (.cells (E8 (Z8 P)) 141 (0,0)):=u5.at_;have f5:=(f3.trans (Fr.cl c4)).trans (Fr.upd (b:=M) u5 (by simp))
 have hb5:=(Tn.upd u5).blk (c4.blk hb3) hGM;have hP5:=(Tn.upd u5).blk (c4.blk hP3) (wG hMP);have hB5:=(Tn.upd u5).blk (c4.blk hB3) hbM;have hPM:I0 w5 P b p (.slice none 0 0):=⟨hP5,hB5,.inl rfl⟩;have hT5:D5 w5:=hT.fr f5 fun k hk cs t fz hh=>by
  simp only [yS,zy,yy] at hk;rcases hk with e|e|e
  ·rw [e] at hh;rw [← (xF (yi (hP.symm.trans hh))).2.1];decide
  ·rw [e] at hh;rw [← (xF (yi (hb.symm.trans hh))).2.1];decide
  ·rw [e] at hh;rw [← (xF (yi (hM.symm.trans hh))).2.1];decide
 obtain ⟨z,hz⟩:∃ z:H0,z=⟨M,Z8 P,P,b,p,.slice none 0 0⟩:=⟨_,rfl⟩;have hch:Chn w5 [z]:=by rw [hz];exact ⟨hM5,rfl,rfl,hPM,trivial⟩
 have hev:=b0a (g:=I6 P M tb) (n:=z) (l:=[]) hI hle (b9b hI b) (by simp) (by intro x hx;rw [zY.1 hx,hz];exact hI) w5 hT5 hb5 (by rw [hz];rfl) hch hPM (wG hGP) hbG (fun _=>rfl)
 refine zR ?_;refine o7 hev ?_;rintro e w6 ⟨rfl,m',o',hend,hgb,hfr⟩;refine ⟨_,rfl,zR ?_⟩;have hend:((m':Int),o')=C4 [p] p (((0:Nat):Int),star):=by rw [hz] at hend;exact hend
 have kG:Kp [] w5 w6:=Kp.fr hfr fun k hk=>by rw [zY.1 hk];exact .inr ⟨_,_,hb5⟩
 refine ⟨rfl,{ I6 P M tb with out:=o',meth:=m' },z,⟨hgb,by rw [hz];rfl,by rw [hz];rfl,⟨z,[],rfl,by rw [hz];rfl⟩,Chn.kp kG hch fun n _=>n.off_nil,(by rw [hz];rfl),fun n hn=>(by cases hn),(by rw [hz];intro e;cases e),fun n hn=>(by cases hn),b0b hend fun _=>rfl⟩,by rw [hz],by rw [hz],by rw [hz],hend,f5.trans (hfr.mono (by simp)),rfl,by rw [hz];rfl⟩
theorem uFn:∃ a b c,G.P.underlying 122=some (.func a b c):=by
 have h:(match G.P.underlying 122 with|some (.func ..)=>true|_=>false)=true:=by kernel_rfl
 split at h
 ·rename_i a b c e;exact ⟨a,b,c,e⟩
 ·cases h
theorem c5O {w:World} {b i:Nat} {v:Value} {cs:Array Value} {u:Nat} {fz:Nat×Nat} (hb:w.heap[b]?=some (.cells cs u fz)) (hi:cs[i]?=some v):g8 G.P w 122 ⟨b,i,none⟩ v:=by
 obtain ⟨e1,e2,e3,he⟩:=uFn;have ha:(isAgg 122).run G.P w = .ok false w:=by unfold isAgg;simp [run_underlying he]
 unfold g8 Instr.loadAt loadVar;simp [Instr.sureAddr,ha,C9 hb,hi]
theorem c3J (f:Fn) (a c:Array Value):Cmp 122 (.func f a c) .nilFunc false:=by
 obtain ⟨e1,e2,e3,he⟩:=uFn;refine a8A (fun d w=>?_) (fun w=>by simp [binOp]) (fun w=>by simp [binOp]) (fun op a v w=>by unfold eqGuard;cases op<;>rfl)
 simp [Op.equalIn,run_underlying he]
theorem c5P:F0 181 122 1 8:=T7 zk
structure c27 (w w':World) (G0:Nat) (p:l9) (looked:Bool):Prop where
 ex:∃ g z,I1 w' G0 g [] z∧z.p=p∧w.heap.size≤z.M∧w.heap.size≤z.P∧((g.meth:Int),g.out)=(if looked then C4 [p] p (0,star) else (0,star))∧z.d.com=[]∧∃ m,g.tags = .map (some m)∧w.heap.size≤m∧w'.heap[m]?=some (.map #[] 0)
 cl:Cl w w'
 new:w.heap.size≤G0
set_option maxHeartbeats 1000000 in
theorem b4r (w:World) (hT:D5 w) (hS:Spc w):Calls G.P 97 #[.slice none 0 0] w (fun r w'=>∃ G0,r = .returned (.pointer (some ⟨G0,0,none⟩))∧c27 w w' G0 I2 false):=by
 refine zN Tryz.func97 ?_;refine zR ?_;refine o7 (a8X w hT hS) ?_;rintro e w1 ⟨c1,P,b,rfl,sP,sb,hPM⟩;refine ⟨_,rfl,zR ?_⟩;refine y7 (E8 (Z8 P)) zk (zR ?_);have c2:=c1.trans (Cl.alloc w1 (.cells (E8 (Z8 P)) 141));have hPM2:=hPM.step (Cl.alloc w1 (.cells (E8 (Z8 P)) 141));have nR:=d9 w1 (.cells (E8 (Z8 P)) 141);have s2:=B0 w1 (.cells (E8 (Z8 P)) 141);have s1:=c1.size;obtain ⟨R,hR⟩:∃ R,R=w1.heap.size:=⟨_,rfl⟩;rw [← hR] at nR ⊢;generalize w1.alloc (.cells (E8 (Z8 P)) 141)=w2 at *;refine a4o ?_;have c3:=c2.trans (Cl.alloc w2 (.map #[] 0));have hPM3:=hPM2.step (Cl.alloc w2 (.map #[] 0));have nR3:=(Cl.alloc w2 (.map #[] 0)).blk nR;have s3:=B0 w2 (.map #[] 0);have nT:=d9 w2 (.map #[] 0);generalize w2.alloc (.map #[] 0)=w3 at *;refine zR ?_;refine y7 (gmA (I6 P R w2.heap.size)) zk (zR ?_);have c4:=c3.trans (Cl.alloc w3 (.cells (gmA (I6 P R w2.heap.size)) 131));have hPM4:=hPM3.step (Cl.alloc w3 (.cells (gmA (I6 P R w2.heap.size)) 131));have nR4:=(Cl.alloc w3 (.cells (gmA (I6 P R w2.heap.size)) 131)).blk nR3;have nT4:=(Cl.alloc w3 (.cells (gmA (I6 P R w2.heap.size)) 131)).blk nT;have nG:=d9 w3 (.cells (gmA (I6 P R w2.heap.size)) 131);have s4:=B0 w3 (.cells (gmA (I6 P R w2.heap.size)) 131);generalize w3.alloc (.cells (gmA (I6 P R w2.heap.size)) 131)=w4 at *;refine a8u 1 (zR ?_);refine ⟨_,rfl,⟨I6 P R w2.heap.size,⟨R,Z8 P,P,b,I2,.slice none 0 0⟩,⟨nG,rfl,rfl,⟨_,[],rfl,rfl⟩,⟨nR4,rfl,rfl,hPM4,trivial⟩,rfl,fun n hn=>(by cases hn),fun e=>(by cases e),fun n hn=>(by cases hn),fun _=>rfl⟩,rfl,(show w.heap.size≤R by omega),sP,rfl,rfl,_,rfl,zo,nT4⟩,c4,zo⟩
set_option maxHeartbeats 1000000 in
theorem b4s {p:l9} (hI:D0 p) (hle:(B5 p).length≤218) {P b c O k:Nat} (w:World) (hT:D5 w) (hS:Spc w)
  (hP:w.heap[P]?=some (.cells (hdA b (E6 p false) (.slice none 0 0)) 173 (0,0))) (hB:w.heap[b]?=some (.cells (H3 (A4 p)) 237 (0,0))) (hc:w.heap[c]?=some (.cells #[.pointer (some ⟨P,0,none⟩)] 83 (0,0)))
  (hO:w.heap[O]?=some (.cells #[.func (.func 136) #[] #[.pointer (some ⟨c,0,none⟩)]] 122 (0,0))) :
  Calls G.P 97 #[.slice (some ⟨O,0,none⟩) 1 k] w (fun r w'=>∃ G0 g z,r = .returned (.pointer (some ⟨G0,0,none⟩))∧w.heap.size≤G0∧I1 w' G0 g [] z∧z.p=p∧w.heap.size≤z.M∧z.P=P∧((g.meth:Int),g.out)=C4 [p] p (0,star)∧Tn P w w'∧z.d.com=[]∧∃ m,g.tags = .map (some m)∧w.heap.size≤m∧w'.heap[m]?=some (.map #[] 0)):=by
 refine zN Tryz.func97 ?_;refine zR ?_;refine o7 (a8X w hT hS) ?_;rintro e w1 ⟨c1,P0,b0,rfl,sP,sb,hPM⟩;refine ⟨_,rfl,zR ?_⟩;refine y7 (E8 (Z8 P0)) zk (zR ?_);have c2:=c1.trans (Cl.alloc w1 (.cells (E8 (Z8 P0)) 141));have nR:=d9 w1 (.cells (E8 (Z8 P0)) 141);have s2:=B0 w1 (.cells (E8 (Z8 P0)) 141);have s1:=c1.size;obtain ⟨R,hR⟩:∃ R,R=w1.heap.size:=⟨_,rfl⟩;rw [← hR] at nR ⊢;generalize w1.alloc (.cells (E8 (Z8 P0)) 141)=w2 at *;refine a4o ?_;have c3:=c2.trans (Cl.alloc w2 (.map #[] 0));have nR3:=(Cl.alloc w2 (.map #[] 0)).blk nR;have s3:=B0 w2 (.map #[] 0);have nT:=d9 w2 (.map #[] 0);generalize w2.alloc (.map #[] 0)=w3 at *;refine zR ?_;refine y7 (gmA (I6 P0 R w2.heap.size)) zk (zR ?_);have c4:=c3.trans (Cl.alloc w3 (.cells (gmA (I6 P0 R w2.heap.size)) 131));have nR4:=(Cl.alloc w3 (.cells (gmA (I6 P0 R w2.heap.size)) 131)).blk nR3;have nT4:=(Cl.alloc w3 (.cells (gmA (I6 P0 R w2.heap.size)) 131)).blk nT;have nG:=d9 w3 (.cells (gmA (I6 P0 R w2.heap.size)) 131);have s4:=B0 w3 (.cells (gmA (I6 P0 R w2.heap.size)) 131);obtain ⟨G0,hG0⟩:∃ G0,G0=w3.heap.size:=⟨_,rfl⟩;rw [← hG0] at nG ⊢;generalize w3.alloc (.cells (gmA (I6 P0 R w2.heap.size)) 131)=w4 at *;refine a8u 2 (zR ?_);refine b7 _ (c5O (v:=.func (.func 136) #[] #[.pointer (some ⟨c,0,none⟩)]) (c4.blk hO) rfl) (zR ?_);refine H6 false (c3J _ _ _) (zR ?_);refine b6U #[.pointer (some ⟨G0,0,none⟩),.pointer (some ⟨c,0,none⟩)] rfl rfl (by rw [zb];rfl) ?_
 refine (c3I hI hle w4 (hT.cl c4) nG nR4 (c4.blk hP) (c4.blk hB) (c4.blk hc)).mono ?_;rintro e w5 ⟨rfl,g',z,hg,hz,hzM,hzP,hend,f5,htg,hcm⟩;refine ⟨_,rfl,zR ?_⟩;have hPl:=F4 hP;refine ⟨G0,g',z,rfl,zo,hg,hz,by rw [hzM];omega,hzP,hend,⟨f5.os.trans c4.os,f5.tape.trans c4.tape,f5.output.trans c4.output,zw c4.size f5.size,fun k hk hne=>?_⟩,hcm,_,htg,zo,f5.blk nT4 (by simp only [yS,zy,yy];omega)⟩
 rw [f5.else_ k zo (by simp only [yS,zy,yy];omega)]
 exact c4.block k hk
set_option maxHeartbeats 1000000 in
theorem c1P {p:l9} (hI:D0 p) (hle:(B5 p).length≤218) (hh:p.half<10000000) (hf:p.full<10000000) (usual:Bool) (hu:usual=true→p=I2) (w:World) (hT:D5 w) (hS:Spc w) :
  Calls G.P 42 #[m9 (if usual then [] else O0 p)] w (fun r w'=>∃ G0,r = .returned (.tuple #[.pointer (some ⟨G0,0,none⟩),.nilIface])∧c27 w w' G0 p (!usual)):=by
 cases usual with
 | true =>
  have:=hu rfl;subst this;rw [zM rfl];refine zN Tryz.func42 ?_;refine zR ?_;first|(refine E.z6 rfl ?_;refine zR ?_)|skip
  refine o7 (b4r w hT hS) ?_;rintro e w1 ⟨G0,rfl,h⟩;refine ⟨_,rfl,zR ?_⟩;exact ⟨G0,rfl,h⟩
 | false =>
  rw [zJ zd];have hne:¬ tx (O0 p)=tx []:=fun h=>by
   have:=P8.1 h;unfold O0 at this;simp at this
  have hd:=fun w hT hS=>b2M hI hh hf w hT hS;generalize O0 p=T at *;have hFEN:∀ w,D5 w→Spc w→Calls G.P 98 #[m9 T] w (fun r w'=>Cl w w'∧∃ P b c,r = .returned (.tuple #[.func (.func 136) #[] #[.pointer (some ⟨c,0,none⟩)],.nilIface])∧w.heap.size≤P∧w'.heap[P]?=some (.cells (hdA b (E6 p false) (.slice none 0 0)) 173 (0,0))
   ∧w'.heap[b]?=some (.cells (H3 (A4 p)) 237 (0,0))∧w'.heap[c]?=some (.cells #[.pointer (some ⟨P,0,none⟩)] 83 (0,0))):=by
   intro w hT hS;refine zN Tryz.func98 ?_;refine zR ?_;refine o7 (hd w hT hS) ?_;rintro e w1 ⟨c1,P,b,rfl,sP,sb,hP,hB⟩;refine ⟨_,rfl,zR ?_⟩;refine v8 (.pointer none) zk ?_;have c2:=Cl.alloc w1 (.cells (Value.pointer none).cells 83);have n2:=d9 w1 (.cells (Value.pointer none).cells 83);have s1:=c1.size;generalize w1.alloc (.cells (Value.pointer none).cells 83)=w2 at *;refine zR ?_;refine zT n2 [.pointer (some ⟨P,0,none⟩)] fun w3 u3=>?_;have n3:w3.heap[w1.heap.size]?=some (.cells #[.pointer (some ⟨P,0,none⟩)] 83 (0,0)):=u3.at_;refine zR ?_;refine H6 true (G7 rfl) (zR ?_);refine b7 _ (L5 (v:=.pointer (some ⟨P,0,none⟩)) n3 rfl rfl) (zR ?_);refine Y7 false (N6 rfl _) (zR ?_);refine b4q #[.pointer (some ⟨w1.heap.size,0,none⟩)] (by rw [zb];rfl) (zR ?_)
   have hP2:=c2.blk hP;have hB2:=c2.blk hB;exact ⟨u3.cl (c1.trans c2) s1,P,b,_,rfl,sP,(Tn.upd u3).blk hP2 (by have:=F4 hP;omega),(Tn.upd u3).blk hB2 (by have:=F4 hB;omega),n3⟩
  refine zN Tryz.func42 ?_;refine zR ?_;refine E.p9 hne (zR ?_);refine o7 (hFEN w hT hS) ?_;rintro e w1 ⟨c1,P,b,c,rfl,sP,hP,hB,hc⟩;refine ⟨_,rfl,zR ?_⟩;refine H6 true (G7 rfl) (zR ?_);refine G2 c5P [.func (.func 136) #[] #[.pointer (some ⟨c,0,none⟩)]] (by rw [zb];rfl) (by simp [Value.cells]) rfl zd zd ?_
  have c2:=Cl.alloc w1 (.cells (([.func (.func 136) #[] #[.pointer (some ⟨c,0,none⟩)]]:List Value).flatMap fun v=>v.cells.toList).toArray 122);have n2:(w1.alloc (.cells (([.func (.func 136) #[] #[.pointer (some ⟨c,0,none⟩)]]:List Value).flatMap fun v=>v.cells.toList).toArray 122)).heap[w1.heap.size]?=some (.cells #[.func (.func 136) #[] #[.pointer (some ⟨c,0,none⟩)]] 122 (0,0)):=d9 w1 _;generalize w1.alloc (.cells (([.func (.func 136) #[] #[.pointer (some ⟨c,0,none⟩)]]:List Value).flatMap fun v=>v.cells.toList).toArray 122)=w2 at *;have c02:=c1.trans c2;refine zR ?_;refine o7 (b4s hI hle w2 (hT.cl c02) (hS.cl c02) (c2.blk hP) (c2.blk hB) (c2.blk hc) n2) ?_;rintro e w3 ⟨G0,g,z,rfl,sG,hg,hz,hzM,hzP,hend,n3,hcm,m,htg,hml,hmb⟩;refine ⟨_,rfl,zR ?_⟩;refine ⟨G0,rfl,⟨?_,n3.toCl c02 sP,zw c02.size sG⟩⟩;refine ⟨g,z,hg,hz,zw c02.size hzM,by rw [hzP];exact sP,?_,hcm,m,htg,zw c02.size hml,hmb⟩
  rw [zM (show (!false)=true from rfl)];exact hend
end
section
open Go Go.RowKit
open E
structure c6g (w:World) (e:C8) (t1 t2 t3:Nat) (y1 y2 y3:Nat) (v1 v2 v3:Value):Prop where
 a:∃ a,e t1 = .pointer (some a)∧g8 G.P w y1 a v1
 b:∃ a,e t2 = .pointer (some a)∧g8 G.P w y2 a v2
 c:∃ a,e t3 = .pointer (some a)∧g8 G.P w y3 a v3
theorem a6A {w:World} {t:Nat} {a:Addr} {v:Value} (h:g8 G.P w t a v):(loadVar t a).run G.P w = .ok v w:=by
 unfold g8 Instr.loadAt at h;simp [Instr.sureAddr] at h;exact h
def c5c (f:Nat) (cap:Array Value):Prop:=∀ w,CallsD G.P f cap .returning w fun e u' w'=>e = .returned (.tuple #[])∧u' = .returning∧w'=w
end
section
open Go Go.RowKit
open E
open Ch Bb
theorem Fr.toCl {S:List Nat} {w0 w w':World} (h:Fr S w w') (hS:∀ k∈S,w0.heap.size≤k) (c:Cl w0 w):Cl w0 w' :=
 ⟨h.os.trans c.os,h.tape.trans c.tape,h.output.trans c.output,zw c.size h.size,fun k hk=>(h.else_ k (xV hk c.size) (fun hm=>by have:=hS k hm;omega)).trans (c.block k hk)⟩
def KT (T:Nat) (w w':World):Prop:=∀ (k:Nat) (cs:Array Value) (t:Nat),t≠T→w.heap[k]?=some (.cells cs t (0,0))→w'.heap[k]?=some (.cells cs t (0,0))
section kt
variable {T:Nat} {w w':World} (hk:KT T w w')
include hk
theorem KT.row {α:Type} {enc:α→List Value} {e z b0:Nat} {v:Value} {l:List α} (h:Row e z enc b0 w v l) (he:e≠T):Row e z enc b0 w' v l:=by
 refine ⟨h.1,?_⟩;rcases h.2 with h2|⟨g,cap,cur,h1,h2,h3,h4⟩
 ·exact .inl h2
 ·exact .inr ⟨g,cap,cur,h1,h2,hk _ _ _ he h3,h4⟩
theorem KT.posM {P b:Nat} {p:l9} {cv:Value} (h:I0 w P b p cv) (h1:173≠T) (h2:237≠T) (h3:141≠T):I0 w' P b p cv :=
 ⟨hk _ _ _ h1 h.hd,hk _ _ _ h2 h.bd,h.ca.elim .inl fun h=>.inr (hk.row h h3)⟩
theorem KT.chn (h1:173≠T) (h2:237≠T) (h3:141≠T) (h4:85≠T):∀ {l:List H0},Chn w l→Chn w' l
 | [],_=>trivial
 | n::l,⟨a1,a2,a3,a4,a5⟩=>by
  refine ⟨hk _ _ _ h3 a1,a2,?_,hk.posM a4 h1 h2 h3,KT.chn h1 h2 h3 h4 a5⟩;cases l with
  | nil=>exact a3
  | cons m r=>exact hk.row (show Row 85 1 J1 0 w n.d.kids [m.M] from a3) h4
theorem KT.game {G0:Nat} {g:Gm} {L:List H0} {z:H0} (h:I1 w G0 g L z) (h0:131≠T) (h1:173≠T) (h2:237≠T) (h3:141≠T) (h4:85≠T):I1 w' G0 g L z :=
 ⟨hk _ _ _ h0 h.hb,h.cur,h.pos,h.root,hk.chn h1 h2 h3 h4 h.chn,h.kids,h.off,h.zcv,h.dis,h.mo⟩
end kt
theorem KT.upd {T b:Nat} {o:Obj} {w w':World} {cs:Array Value} {fz:Nat×Nat} (u:Upd w b o w') (hb:w.heap[b]?=some (.cells cs T fz)):KT T w w':=fun k c t ht h=>(Tn.upd u).blk h (F9 h hb ht)
theorem KT.grow {α:Type} {enc:α→List Value} {e z b0 b1:Nat} {w w':World} {v v':Value} {l:List α} (hr:Row e z enc b1 w v l) (hg:a6c b0 w v w' v'):KT e w w':=fun k c t ht h=>by
 refine hg.keep _ _ h fun hv=>?_;rcases hr.2 with ⟨h1,_⟩|⟨g,cap,cur,h1,h2,h3,h4⟩
 ·rw [h1] at hv;cases hv
 ·rw [h1] at hv;injection hv with hv;subst hv;exact ht (xF (yi (h.symm.trans h3))).2.1
theorem a5e {p:l9} {ms:List Mv} (h:quiet p ms=true):(A1 p).length≤218:=by
 cases ms with
 | nil=>exact yB h
 | cons m r =>
  unfold quiet at h;simp only [zP] at h;exact yB h.1
theorem b4t {p:l9} {m:Mv} {r:List Mv} (h:quiet p (m::r)=true) (hl:N3 p m=true):Y6 p m=true∧quiet (made p m) r=true:=by
 unfold quiet at h;rw [hl] at h;simp only [zP,xw,xc] at h;exact h.2
theorem Chn.mem {w:World}:∀ {l:List H0},Chn w l→∀ n∈l,I0 w n.P n.b n.p n.cv
 | [],_,_,h=>by cases h
 | n::l,⟨_,_,_,h4,h5⟩,x,hx=>by
  rcases yS.1 hx with e|hx
  ·rw [e];exact h4
  ·exact Chn.mem h5 x hx
theorem mTags:a5b 127 9 9:=⟨zk,zk,zk⟩
theorem c1Q (b:Nat):Cmp 127 (.map (some b)) (.map none) false:=by
 have he:=mTags.ty;refine a8A (fun d w=>?_) (fun w=>by simp [binOp]) (fun w=>by simp [binOp]) (fun op a v w=>by unfold eqGuard;cases op<;>rfl)
 simp [Op.equalIn,run_underlying he]
theorem b92 {w:World} {G0 m t:Nat} {g:Gm} {fz:Nat×Nat} {es:List EnT} {c:Nat} (k v:Tx) (hb:w.heap[G0]?=some (.cells (gmA g) t fz)) (hg:g.tags = .map (some m)) (hm:w.heap[m]?=some (a1M es c)) :
  Calls G.P 74 #[.pointer (some ⟨G0,0,none⟩),m9 k,m9 v] w (fun r w'=>(∃ b,r = .returned (.bool b))∧Upd w m (a1M (a1O es k v c) (a4A es k c)) w'):=by
 have hl:g8 G.P w 127 ⟨G0,2,none⟩ (.map (some m)):=by
  have:g8 G.P w 127 ⟨G0,2,none⟩ g.tags:=L5 hb rfl rfl
  rwa [hg] at this
 refine zN Tryz.func74 ?_;refine zR ?_;refine b7 _ hl (zR ?_);refine Y7 false (c1Q m) (zR ?_);refine b7 _ hl (zR ?_);refine b9u mTags rfl rfl hm (zR ?_);apply E.S7<;>intro h
 ·refine zR ?_;refine b7 _ hl (zR ?_);refine b2I mTags rfl rfl rfl hm fun w1 u1=>zR ?_;exact ⟨⟨_,rfl⟩,u1⟩
 ·refine zR ?_;refine b7 _ hl (zR ?_);refine b2I mTags rfl rfl rfl hm fun w1 u1=>zR ?_;exact ⟨⟨_,rfl⟩,u1⟩
theorem b93 {w:World} {M:Nat} {d:Nd} (T:Tx) (hM:w.heap[M]?=some (.cells (E8 d) 141 (0,0))) :
  Calls G.P 76 #[.pointer (some ⟨M,0,none⟩),m9 T] w (fun r w'=>r = .returned (.tuple #[])∧Upd w M (.cells (E8 { d with com:=T }) 141 (0,0)) w'):=by
 refine zN Tryz.func76 ?_;refine zR ?_;refine zT hM [m9 T] fun w2 u2=>?_;refine zR ?_;exact ⟨rfl,u2⟩
theorem c1R {p:l9} (hI:Ch.D0 p) (hle:(B5 p).length≤218) {P b:Nat} {cv:Value} {m:Mv} (hm:MvR m) (hl:m∈A1 p) (w:World) (hT:D5 w) (hM:I0 w P b p cv) :
  Calls G.P 75 #[.pointer (some ⟨P,0,none⟩),.agg (S8 m)] w (fun r w'=>∃ cv' M x,I0 w' P b p cv'∧Tn P w w'∧Row 141 11 D4 0 w' cv' (N9 p)∧x∈N9 p∧x.mv=m∧r = .returned (.pointer (some ⟨M,0,none⟩))∧w.heap.size≤M∧w'.heap[M]?=some (.cells (E8 (E0 x)) 141 (0,0))∧∀ k,cv'.ownBlock=some k→(cv.ownBlock=some k∨w.heap.size≤k)∧k≠M):=by
 refine zN Tryz.func75 ?_;refine zR ?_;have d1:=Cl.alloc w (.cells (S8 m) 36);have n1:=d9 w (.cells (S8 m) 36);generalize w.alloc (.cells (S8 m) 36)=w1 at *;refine b7 _ (a0f n1) (zR ?_);refine o7 (c3z hI hle hm w1 (hT.cl d1) (hM.step d1)) ?_;rintro r w2 ⟨cv',hP2,n2,hr2,hf,hown⟩;have hs:=d1.size;rcases hf with ⟨hno,_⟩|⟨M,x,hx,hxm,rfl,hMs,hM2⟩
 ·exact absurd hl hno
 refine ⟨_,rfl,zR ?_⟩;refine H6 false (N6 rfl _) (zR ?_);refine ⟨cv',M,x,hP2,(Tn.cl d1).trans n2,hr2,hx,hxm,rfl,zw hs hMs,hM2,fun k hk=>⟨(hown k hk).1.imp id fun e=>zw hs e,fun e=>(hown k hk).2 (by rw [e])⟩⟩
end
section
namespace Ch
def a5f (s:Tx) (c:UInt8):Bool:=s.contains c
def inS (t:Tx) (i:Nat) (s:Tx):Bool:=match t[i]? with
 | some c=>a5f s c
 | none=>false
def c1S (t:Tx) (i:Nat) (s:Tx):Nat:=if inS t i s then 1 else 0
def a5O:Tx:=[82,78,66,81,75,80]
def a8Y:Tx:=[97,98,99,100,101,102,103,104]
def a4t:Tx:=[48,49,50,51,52,53,54,55,56,57]
def c5d:Tx:=[43,35,33,63]
def epS:Tx:=[101,46,112,46]
def c5Q:Tx:=[81,82,66,78]
def ooS:Tx:=[79,45,79]
def c3K:Tx:=[79,45,79,45,79]
def b2N:Tx→Bool
 | []=>true
 | c::r=>if a5f c5d c then b2N r else if (c::r).take 4=epS then b2N (r.drop 3) else false
 termination_by t=>t.length
 decreasing_by all_goals (simp only [zh,ye];omega)
structure Y5 where
 pc:Tx
 fo:Tx
 ro:Tx
 ca:Tx
 fi:Tx
 ra:Tx
 pr:Tx
 cs:Tx
def b6Y {α:Type} (f:Nat→Option α):Nat→Option α
 | 0=>none
 | n+1=>match f n with
  | some x=>some x
  | none=>b6Y f n
def b4u (t:Tx) (i j:Nat):Tx:=(t.drop i).take (j-i)
def c5S (t:Tx) (a b c d k:Nat):Y5 :=
 ⟨b4u t 0 a,b4u t a (a+b),b4u t (a+b) (a+b+c),b4u t (a+b+c) (a+b+c+d),b4u t (a+b+c+d) (a+b+c+d+1),b4u t (a+b+c+d+1) (a+b+c+d+2),b4u t (a+b+c+d+2) (a+b+c+d+2+2*k),[]⟩
def c5T (t:Tx) (a b c d k:Nat):Option Y5:=if b2N (t.drop (a+b+c+d+2+2*k)) then some (c5S t a b c d k) else none
def c5U (t:Tx) (at_:Nat):Bool:=inS t (at_+2) [61]&&inS t (at_+3) c5Q
def c5V (t:Tx) (a b c d:Nat):Option Y5 :=
 if inS t (a+b+c+d) a8Y&&inS t (a+b+c+d+1) a4t then b6Y (c5T t a b c d) (if c5U t (a+b+c+d) then 2 else 1) else none
def c5W (t:Tx) (a b c:Nat):Option Y5:=b6Y (c5V t a b c) (c1S t (a+b+c) [120]+1)
def c5X (t:Tx) (a b:Nat):Option Y5:=b6Y (c5W t a b) (c1S t (a+b) a4t+1)
def c5Y (t:Tx) (a:Nat):Option Y5:=b6Y (c5X t a) (c1S t a a8Y+1)
def c5e (t:Tx):Option Y5:=b6Y (c5Y t) (c1S t 0 a5O+1)
def c1T (o:Tx):Y5:=⟨[],[],[],[],[],[],[],o⟩
def zzP (t:Tx):Option Y5:=match c5e t with
 | some q=>some q
 | none=>if t.take 5=c3K∧b2N (t.drop 5)=true then some (c1T c3K) else if t.take 3=ooS∧b2N (t.drop 3)=true then some (c1T ooS) else none
def c28 (q:Y5):Tx:=q.pc++q.fo++q.ro++q.ca++q.fi++q.ra++q.pr++q.cs
def c5Z (q:Y5):List Tx :=
 if q.pc≠[] then [q.pc++q.ca++q.fi++q.ra++q.pr++q.cs,q.pc++q.ro++q.ca++q.fi++q.ra++q.pr++q.cs,q.pc++q.fo++q.ca++q.fi++q.ra++q.pr++q.cs]
 else (if q.ca≠[] then [q.fo++q.ca++q.fi++q.ra++q.pr] else [])++(if q.fo≠[]∧q.ro≠[] then [q.ca++q.fi++q.ra++q.pr] else [])
def fits (q:Y5) (t:Tx):Prop:=c28 q=t∨t∈c5Z q
instance (q:Y5) (t:Tx):Decidable (fits q t):=by unfold fits;infer_instance
structure b58 (c:UInt8):Prop where
 l:a5f a5O c=false
 f:a5f a8Y c=true
 d:a5f a4t c=false
 x:a5f [120] c=false
 e:a5f [61] c=false
 m:a5f [45] c=false
structure c5f (c:UInt8):Prop where
 l:a5f a5O c=false
 f:a5f a8Y c=false
 d:a5f a4t c=true
 x:a5f [120] c=false
 e:a5f [61] c=false
 m:a5f [45] c=false
@[simp] theorem c5g (c:UInt8) (t s:Tx):inS (c::t) 0 s=a5f s c:=rfl
@[simp] theorem c5h (c:UInt8) (t s:Tx) (i:Nat):inS (c::t) (i+1) s=inS t i s:=rfl
@[simp] theorem c5v (s:Tx) (i:Nat):inS [] i s=false:=rfl
structure c6d (t:Tx):Prop where
 x:inS t 0 [120]=false
 e:inS t 0 [61]=false
 m:inS t 0 [45]=false
 d:inS t 0 a4t=false
 fd:(inS t 0 a8Y&&inS t 1 a4t)=false
 l:inS t 0 a5O=false
end Ch
namespace Ch
def apF (p:l9) (m:Mv):Tx:=if (P7 p m).isEmpty then [] else if !(P7 p m).any (fun x=>decide (x.fr%8=m.fr%8)) then D2 m.fr else if !(P7 p m).any (fun x=>decide (x.fr/8=m.fr/8)) then [] else D2 m.fr
def apR (p:l9) (m:Mv):Tx:=if (P7 p m).isEmpty then [] else if !(P7 p m).any (fun x=>decide (x.fr%8=m.fr%8)) then [] else rankT m.fr
def c29 (p:l9) (m:Mv) (fo ro:Tx):Y5:=⟨[],fo,ro,Y1 p m,D2 m.to,rankT m.to,Z6 m,[]⟩
def b94 (p:l9) (m:Mv) (fo ro:Tx):Y5:=⟨D7 (d6 (sq p m.fr)),fo,ro,Y1 p m,D2 m.to,rankT m.to,[],[]⟩
def c1U (p:l9) (m:Mv):Y5 :=
 if t7 p m=1 then c1T ooS
 else if t7 p m=2 then c1T c3K
 else if d6 (sq p m.fr)=6 then c29 p m (if C1 p m then D2 m.fr else []) []
 else b94 p m (apF p m) (apR p m)
inductive c6e (p:l9) (m:Mv):Prop
 | castle (k:Int) (hk:k=1∨k=2) (h:t7 p m=k)
 | pawn (h:t7 p m=0) (hp:H7 p m) (hk:d6 (sq p m.fr)=6)
 | piece (h:t7 p m=0) (hp:H7 p m) (k1:1≤d6 (sq p m.fr)) (k5:d6 (sq p m.fr)≤5) (h0:m.promo=0)
theorem b58.nx {c:UInt8} (h:b58 c):c≠120:=fun e=>by subst e;exact absurd h.x zd
theorem b58.ne {c:UInt8} (h:b58 c):c≠61:=fun e=>by subst e;exact absurd h.e zd
theorem c5f.nx {c:UInt8} (h:c5f c):c≠120:=fun e=>by subst e;exact absurd h.x zd
theorem Mv.ext' {a b:Mv} (h1:a.fr=b.fr) (h2:a.to=b.to) (h3:a.promo=b.promo):a=b:=by cases a;cases b;simp_all
inductive b59 (p:l9) (m:Mv):Y5→Prop
 | own:b59 p m (c1U p m)
 | pawn (h:t7 p m=0) (hk:d6 (sq p m.fr)=6):b59 p m (c29 p m (D2 m.fr) (rankT m.fr))
 | piece (h:t7 p m=0) (hk:d6 (sq p m.fr)≠6) (fo ro:Tx) (hf:fo=[]∨fo=D2 m.fr) (hr:ro=[]∨ro=rankT m.fr) (ha:apart p m=[]∨apart p m=ro∨apart p m=fo∨apart p m=fo++ro):b59 p m (b94 p m fo ro)
end Ch
end
section
open Go Go.RowKit
open E
open Ch Bb
end
