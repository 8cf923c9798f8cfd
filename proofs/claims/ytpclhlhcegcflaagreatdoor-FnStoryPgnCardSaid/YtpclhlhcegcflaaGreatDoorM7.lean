/- One part of the proof: Sp16 Sp17 Sp18 Sp19 Sp20 Sp21 Shl Pk12 Bw Pk1. -/
import Derived.Laws.Strings2
import Derived.Laws.Small
import Derived.Laws.IdiomStrings
import Derived.Shelf.Strings.Builder1
import Derived.Shelf.Strings.Builder2
import Derived.Shelf.LaysM
import Derived.Shelf.Strconv.Itoa2
import Derived.Shelf.Strconv.Itoa3
import Derived.Test.YtpclhlhcegcflaaGreatDoorM6
namespace Go.Proofs.YtpclhlhcegcflaaGreatDoor
open Go.Proofs.Tryz
set_option maxRecDepth 100000
set_option linter.unusedSimpArgs false
set_option linter.unusedVariables false
section
open Go Go.RowKit
open E
def a8l (p:l9) (i:Nat):Bool:=decide (Ch.d6 (Ch.sq p i)=2)||decide (Ch.d6 (Ch.sq p i)=3)||decide (Ch.d6 (Ch.sq p i)=6)
def a8m (p:l9) (n:Nat):Nat:=Ch.H1 (fun i=>decide (Ch.d6 (Ch.sq p i)=5)) n
def bsTo (p:l9) (c:Int) (n:Nat):Nat:=Ch.H1 (fun i=>decide (Ch.d6 (Ch.sq p i)=4)&&decide ((Ch.o4 i+Ch.k9 i)%2=c)) n
theorem b4T (p:l9):Ch.a4v p=if Ch.a04 (a8l p) 64 then false else if 0<a8m p 64 then decide (a8m p 64=1)&&decide (bsTo p 0 64+bsTo p 1 64=0) else decide (bsTo p 0 64=0)||decide (bsTo p 1 64=0):=rfl
theorem c4p:(G.P.info? 180).bind (·.zero)=some (.agg #[.int .i64 0,.int .i64 0]):=by kernel_rfl
theorem c2V (p:l9) (hp:Pc p) (w:World):Calls G.P 90 #[D3 p] w (N2 (.bool (Ch.a4v p)) w):=by
 refine zN func90 ?_;refine zG ?_;refine zR ?_;generalize hW:w.alloc (.cells (s7 p) 24)=W0;have hP:∀ w',Cl W0 w'→w'.heap[w.heap.size]?=some (.cells (s7 p) 24 (0,0)):=fun w' h=>(hW▸h:Cl (w.alloc (.cells (s7 p) 24)) w').blk (d9 _ _);have hE:∀ w',Cl W0 w'→Cl w w':=fun w' h=>(Cl.alloc _ _).trans (hW▸h);refine zR ?_;refine v8 _ c4p ?_;have hb0:(W0.alloc (.cells #[.int .i64 0,.int .i64 0] 180)).heap[W0.heap.size]?=some (.cells #[.int .i64 0,.int .i64 0] 180 (0,0)):=d9 _ _;have c1:=Cl.alloc W0 (.cells #[.int .i64 0,.int .i64 0] 180);simp only [Value.cells];generalize W0.alloc (.cells #[.int .i64 0,.int .i64 0] 180)=w1 at *;refine zR ?_;refine B6 (σ:=Nat) [2,3,5] 6 (fun a=>[(3,.int .i64 (a8m p a)),(5,.int .i64 a)]) (fun a w'=>a≤64∧Ch.a04 (a8l p) a=false∧w'.heap[W0.heap.size]?=some (.cells #[.int .i64 (bsTo p 0 a),.int .i64 (bsTo p 1 a)] 180 (0,0))∧Cl W0 w') (fun a=>64-a) zk 0
  ⟨zo,rfl,hb0,c1⟩ ⟨rfl,rfl,trivial⟩ ?_
 rintro i j w2 ⟨hi,hno,hblk,hcl⟩;have hkn:a8m p i≤64:=zw (Ch.b05 _ _) hi;have hbs:∀ c,bsTo p c i≤64:=fun c=>zw (Ch.b05 _ _) hi;refine zR ?_;apply E.b9<;>intro h
 ·have hi64:i<64:=by omega
  clear h;have ni:IntKind.i64.wrap ((i:Int)+1)=((i+1:Nat):Int):=by rw [g9 zo zo];push_cast;omega
  have a1:Ch.a04 (a8l p) (i+1)=(Ch.a04 (a8l p) i||(decide (Ch.d6 (Ch.sq p i)=2)||decide (Ch.d6 (Ch.sq p i)=3)||decide (Ch.d6 (Ch.sq p i)=6))):=rfl
  have a2:a8m p (i+1)=a8m p i+(if decide (Ch.d6 (Ch.sq p i)=5)=true then 1 else 0):=rfl
  have a3:∀ c,bsTo p c (i+1)=bsTo p c i+(if (decide (Ch.d6 (Ch.sq p i)=4)&&decide ((Ch.o4 i+Ch.k9 i)%2=c))=true then 1 else 0):=fun c=>rfl
  have hbig:a8l p i=true→Ch.a4v p=false:=fun h=>by
   rw [b4T,zM (Ch.a3X (i:=i) hi64 h)]
  unfold a8l at hbig;refine zR ?_;refine zC ?_;refine zR ?_;refine b7 _ (O4 (hP _ hcl) _ zo zo) (zR ?_);refine l8 (P3 _ _ (Pc.lo hp _) (Pc.hi hp _)) ?_;generalize Ch.d6 (Ch.sq p i)=k at *;have fin:(k=2∨k=3∨k=6)→Ch.a4v p=false:=fun h=>hbig (by rcases h with rfl|rfl|rfl<;>rfl)
  refine zR ?_;apply E.b9<;>intro h
  ·subst h;refine zR ?_;exact ⟨o8 (fin (.inl rfl)).symm,hE _ hcl⟩
  have k2:=h;clear h;refine zR ?_;apply E.b9<;>intro h
  ·subst h;refine zR ?_;exact ⟨o8 (fin (.inr (.inl rfl))).symm,hE _ hcl⟩
  have k3:=h;clear h;refine zR ?_;apply E.b9<;>intro h
  ·subst h;refine zR ?_;exact ⟨o8 (fin (.inr (.inr rfl))).symm,hE _ hcl⟩
  have k6:=h;clear h;have hno':(Ch.a04 (a8l p) i||(decide (k=2)||decide (k=3)||decide (k=6)))=false:=by rw [hno];simp [k2,k3,k6]
  refine zR ?_;apply E.b9<;>intro h
  ·subst h;refine zR ?_;refine ⟨i+1,⟨d8 ?_,d8 ni,trivial⟩,⟨zo,by rw [a1];exact hno',?_,hcl⟩,zo⟩
   ·rw [g9 zo zo,a2];simp
   ·rw [a3,a3];simpa using hblk
  have k5:=h;clear h;have hkn1:a8m p (i+1)=a8m p i:=by rw [a2];simp [k5]
  refine zR ?_;apply E.b9<;>intro h
  ·subst h;have fr:0≤Ch.o4 i∧Ch.o4 i≤7∧0≤Ch.k9 i∧Ch.k9 i≤7:=by unfold Ch.o4 Ch.k9;omega
   have m1:IntKind.i64.wrap (Ch.o4 i+Ch.k9 i)=Ch.o4 i+Ch.k9 i:=g9 zo zo;have m2:Int.tmod (Ch.o4 i+Ch.k9 i) 2=(Ch.o4 i+Ch.k9 i)%2:=xl zo;refine zR ?_;refine l8 (a2j _ _ zo) (zR ?_);refine l8 (X5 _ _ zo zo) (zR ?_);simp only [m1,m2];generalize hC:(Ch.o4 i+Ch.k9 i)%2=c at *;have hc01:c=0∨c=1:=by omega
   have hld:g8 G.P w2 3 ⟨W0.heap.size,c.toNat,none⟩ (.int .i64 (bsTo p c i)):=by
    rcases hc01 with rfl|rfl
    ·exact L5 hblk rfl rfl
    ·exact L5 hblk rfl rfl
   refine zC ?_;refine zR ?_;refine b7 (.int .i64 (bsTo p c i)) ?_ ?_
   ·simpa [E.r9] using hld
   refine zR ?_;refine zC ?_;refine zR ?_;have hb1:=hbs c;refine K9 hblk [.int .i64 (IntKind.i64.wrap ((bsTo p c i:Int)+1))] rfl R9 rfl (by simp [Value.oneCell']) (by simp [E.r9];omega) (fun w3 u3=>zR ?_)
   refine ⟨i+1,⟨d8 (by rw [hkn1]),d8 ni,trivial⟩,⟨zo,by rw [a1];exact hno',?_,u3.cl hcl (yJ _)⟩,zo⟩
   rw [u3.at_,E.r9,a3,a3,g9 zo zo];rcases hc01 with rfl|rfl<;>simp [L8]
  ·have k4:=h;clear h;refine zR ?_;refine ⟨i+1,⟨d8 (by rw [hkn1]),d8 ni,trivial⟩,⟨zo,by rw [a1];exact hno',?_,hcl⟩,zo⟩
   rw [a3,a3];simpa [k4] using hblk
 ·have hi64:i=64:=by omega
  subst hi64;have hd:Ch.a4v p=if 0<a8m p 64 then decide (a8m p 64=1)&&decide (bsTo p 0 64+bsTo p 1 64=0) else decide (bsTo p 0 64=0)||decide (bsTo p 1 64=0):=by
   rw [b4T,hno];rfl
  have L0:g8 G.P w2 3 ⟨W0.heap.size,0,none⟩ (.int .i64 (bsTo p 0 64)):=L5 hblk rfl rfl;have L1:g8 G.P w2 3 ⟨W0.heap.size,1,none⟩ (.int .i64 (bsTo p 1 64)):=L5 hblk rfl rfl;have hb0:=hbs 0;have hb1:=hbs 1;generalize bsTo p 0 64=b0 at *;generalize bsTo p 1 64=b1 at *;generalize a8m p 64=kn at *;refine zR ?_;apply E.b9<;>intro h
  ·rw [zM zo] at hd;refine zR ?_;apply E.b9<;>intro h
   ·refine zR ?_;refine b7 _ L0 (zR ?_);refine b7 _ L1 (zR ?_);refine ⟨o8 ?_,hE _ hcl⟩;rw [hd,g9 zo zo];rw [zX (show kn=1 by omega)]
    simp only [yV];exact ya.2 zo
   ·refine zR ?_;refine ⟨o8 ?_,hE _ hcl⟩;rw [hd,zV (show ¬ kn=1 by omega)];rfl
  ·rw [zJ zo] at hd;refine zR ?_;refine b7 _ L0 (zR ?_);apply E.b9<;>intro h
   ·refine zR ?_;refine ⟨o8 ?_,hE _ hcl⟩;rw [hd,zX (show b0=0 by omega)];rfl
   ·refine zR ?_;refine b7 _ L1 (zR ?_);refine ⟨o8 ?_,hE _ hcl⟩;rw [hd,zV (show ¬ b0=0 by omega)]
    simp only [xc];exact ya.2 zo
structure a8n (p:l9):Prop where
 sq:∀ x∈p.board,I64 x
 turn:I64 p.turn
 castle:I64 p.castle
 ep:I64 p.ep
 half:I64 p.half
 full:I64 p.full
def bdA (p:l9):Array Value:=(s7 p).extract 0 64
theorem a52 (p:l9):(bdA p).toList=p.board.map (Value.int .i64):=by
 simp only [bdA,s7,V0,Array.toList_extract,List.extract_eq_take_drop];rw [List.drop_zero,List.take_left' (by simp [p.len])]
theorem c4q (l:List Int) (h:∀ x∈l,I64 x):okL (List.replicate l.length (some .i64)) (l.map (Value.int .i64))=true:=by
 induction l with
 | nil=>rfl
 | cons x r ih =>
  simp only [zh,List.replicate_succ,yQ,okL,zP];exact ⟨by simp [okV,c0B (h x (yX))],ih fun y hy=>h y (yY _ hy)⟩
theorem c4r:G.P.eqGuardType G.P.depth 22=false:=by kernel_rfl
theorem a9H (p:l9):(Value.agg (bdA p)).formed G.P 22=true:=by
 have h:(bdA p).size=64:=by simp [bdA,A0]
 have:(G.P.info? 22).map (·.size)=some 64:=by kernel_rfl
 have hu:G.P.underlying 22=some (.array 64 3):=by kernel_rfl
 unfold Value.formed;simp [h,Program.cellsOf,this,hu]
theorem c54 {p q:l9} (hp:a8n p) (hq:a8n q) (w:World):(Op.equalIn 10000 22 (.agg (bdA p)) (.agg (bdA q))).run G.P w = .ok (decide (p.board=q.board)) w:=by
 refine b4R (m:=2) (D:=2) (ks:=List.replicate 64 (some .i64)) zk zd c4r zk (a9H p) (a9H q) ?_ ?_ _ ?_ w
 ·rw [a52];have:=c4q p.board hp.sq;rwa [p.len] at this
 ·rw [a52];have:=c4q q.board hq.sq;rwa [q.len] at this
 ·rw [zW,a52,a52,List.map_map,List.map_map];constructor
  ·intro h;rw [h]
  ·intro h;have:∀ (a b:List Int),a.map (a26∘Value.int .i64)=b.map (a26∘Value.int .i64)→a=b:=by
    intro a
    induction a with
    | nil=>intro b h;cases b with
     | nil=>rfl
     | cons=>cases h
    | cons x r ih=>intro b h;cases b with
     | nil=>cases h
     | cons y s =>
      simp only [yQ,Function.comp,a26,yu,Lit.int.injEq,true_and] at h;rw [h.1,ih s h.2]
   exact this _ _ h
theorem c2W {p:l9} {w:World} {b u:Nat} {fz:Nat×Nat} (hb:w.heap[b]?=some (.cells (s7 p) u fz)):g8 G.P w 22 ⟨b,0,none⟩ (.agg (bdA p)) :=
 ldA (t:=22) (o:=0) (z:=64) hb rfl (by rw [A0];decide)
theorem c0D (p q:l9) (hp:a8n p) (hq:a8n q) (w:World):Calls G.P 17 #[D3 p,D3 q] w (N2 (.bool (Ch.a1a p q)) w):=by
 refine zN func17 ?_;refine zG ?_;generalize hW:(w.alloc (.cells (s7 p) 24)).alloc (.cells (s7 q) 24)=W0;have hP:∀ w',Cl W0 w'→w'.heap[w.heap.size]?=some (.cells (s7 p) 24 (0,0)):=fun w' h=>(((Cl.alloc _ _).trans (hW▸h:Cl ((w.alloc (.cells (s7 p) 24)).alloc (.cells (s7 q) 24)) w')).blk (d9 _ _));have hQ:∀ w',Cl W0 w'→w'.heap[(w.alloc (.cells (s7 p) 24)).heap.size]?=some (.cells (s7 q) 24 (0,0)):=fun w' h=>(hW▸h:Cl ((w.alloc (.cells (s7 p) 24)).alloc (.cells (s7 q) 24)) w').blk (d9 _ _);have hE:∀ w',Cl W0 w'→Cl w w':=fun w' h=>hE2 (hW▸h);have z:=Cl.refl W0;refine zR ?_;refine b7 _ (c2W (hP _ z)) (zR ?_);refine b7 _ (c2W (hQ _ z)) (zR ?_);refine c0A c4r (c54 hp hq) rfl rfl ?_;have ha:Ch.a1a p q=(decide (p.board=q.board)&&decide (p.turn=q.turn)&&decide (p.castle=q.castle)&&decide (p.ep=q.ep)):=rfl;generalize decide (p.board=q.board)=e1 at *;cases e1
 ·refine zR ?_;exact ⟨o8 (by rw [ha];rfl),hE _ z⟩
 refine zR ?_;refine b7 _ (E9 (hP _ z)) (zR ?_);refine b7 _ (E9 (hQ _ z)) ?_;generalize ht:decide (p.turn=q.turn)=e2 at *;refine zR ?_;simp only [ht];cases e2
 ·refine zR ?_;exact ⟨o8 (by rw [ha];rfl),hE _ z⟩
 refine zR ?_;refine b7 _ (a2w (hP _ z)) (zR ?_);refine b7 _ (a2w (hQ _ z)) (zR ?_);generalize decide (p.castle=q.castle)=e3 at *;cases e3
 ·refine zR ?_;exact ⟨o8 (by rw [ha];rfl),hE _ z⟩
 refine zR ?_;refine b7 _ (a4G (hP _ z)) (zR ?_);refine b7 _ (a4G (hQ _ z)) (zR ?_);exact ⟨o8 (by rw [ha];simp),hE _ z⟩
theorem a9I:F0 73 24 69 552:=T7 zk
theorem V7 (p:l9):(V0 p).length=69:=by simp [V0,p.len]
theorem c0E (l:List l9) (q:l9) (hl:∀ p∈l,a8n p) (hq:l.getLast?=some q) (hn:l.length≤100000) {b0:Nat} {v:Value} (w:World) (hrow:Row 24 69 V0 b0 w v l):Calls G.P 89 #[v] w (N2 (.int .i64 (Ch.S2 l q)) w):=by
 obtain ⟨al,cl,rfl,hal⟩:=hrow.form;have hpos:0<l.length:=by
  cases l with
  | nil=>cases hq
  | cons=>simp
 obtain ⟨g,rfl⟩:=hal hpos;have hlast:l[l.length-1]'zo=q:=by
  rw [List.getLast?_eq_getElem?,ym zo] at hq;exact yi hq
 refine zN func89 ?_;refine zG ?_;refine zR ?_;refine B6 (σ:=Nat) [3,4] 5 (fun a=>[(3,.int .i64 (Ch.S2 (l.take a) q)),(4,.int .i64 a)]) (fun a w'=>a≤l.length∧Cl w w') (fun a=>l.length-a) zk 0
  ⟨zo,Cl.refl _⟩ ⟨rfl,rfl,trivial⟩ ?_
 rintro i j w2 ⟨hi,hcl⟩;refine zR ?_;apply E.b9<;>intro h
 ·have hil:i<l.length:=by omega
  clear h;have ni:IntKind.i64.wrap ((i:Int)+1)=((i+1:Nat):Int):=by rw [g9 zo zo];push_cast;omega
  have hcnt:Ch.S2 (l.take i) q≤i:=by
   unfold Ch.S2;exact zw (xG _ _) (by rw [yb];omega)
  have hnx:Ch.S2 (l.take (i+1)) q=Ch.S2 (l.take i) q+(if Ch.a1a l[i] q=true then 1 else 0):=by
   unfold Ch.S2;rw [zx hil,List.filter_append,zF];by_cases h:Ch.a1a l[i] q=true<;>simp [h]
  have hlm:IntKind.i64.wrap ((l.length:Int)-1)=((l.length-1:Nat):Int):=by rw [g9 zo zo];omega
  refine zR ?_;refine zK 11 ?_;refine zR ?_;refine zC ?_;refine zR ?_;refine m7 (D3 l[i]) (fun w hw=>a2Q (hrow.step (hcl.trans hw)) V7 i hil rfl ?_ rfl) ?_
  ·simp [E.r9]
  refine zR ?_;refine zC ?_;refine zR ?_;refine m7 (D3 q) (fun w hw=>a2Q (hrow.step (hcl.trans hw)) V7 (l.length-1) zo rfl ?_ (by rw [hlast];rfl)) ?_
  ·simp [E.r9,hlm]
  refine zR ?_;have hA:∀ w,Calls G.P 17 #[D3 l[i],D3 q] w (N2 (.bool (Ch.a1a l[i] q)) w):=fun w=>c0D l[i] q (hl _ (yO hil)) (hl _ (List.mem_of_getLast? hq)) w;show b4E G.P (Cl w2) 17 #[D3 l[i],D3 q] _;refine E2 _ (fun _ _ h=>h.trans) (fun w _=>hA w) (zR ?_);intro w3 c3;generalize hA:Ch.a1a l[i] q=al at *;refine zR ?_;cases al
  ·refine zR ?_;exact ⟨i+1,⟨d8 (by rw [hnx];simp),d8 ni,trivial⟩,⟨zo,hcl.trans c3⟩,zo⟩
  ·refine zR ?_;exact ⟨i+1,⟨d8 (by rw [hnx,g9 zo zo];simp),d8 ni,trivial⟩,⟨zo,hcl.trans c3⟩,zo⟩
 ·have hil:i=l.length:=by omega
  subst hil;refine zR ?_;exact ⟨C2 (by rw [yZ]),hcl⟩
def tx (l:Tx):ByteArray:=⟨l.toArray⟩
def m9 (l:Tx):Value:=.string (tx l)
theorem C5 (l:Tx):(tx l).size=l.length:=by simp [tx,ByteArray.size]
theorem A9 (a b:Tx):tx a++tx b=tx (a++b):=by
 apply ByteArray.ext;simp [tx]
theorem P8 {a b:Tx}:tx a=tx b↔a=b:=by
 constructor
 ·intro h;have:=yH (fun x:ByteArray=>x.data.toList) h;simpa [tx] using this
 ·intro h;rw [h]
theorem J4 (a:Array UInt8):(⟨a⟩:ByteArray)=tx a.toList:=rfl
theorem a1Z {x y:ByteArray} (h:x.size+y.size≤9223372036854775807):E.b4A x y=true:=zX h
theorem A5 {x y:Tx} (h:x.length+y.length≤9223372036854775807):E.b4A (tx x) (tx y)=true:=zX (by rw [C5,C5];exact h)
theorem b0G:G.P.underlying 9=some .string:=by kernel_rfl
theorem b4U {w:World} {l r:Tx} {s:ByteArray} {k k':IntKind} {a b:Int} (hs:s=tx l) (h0:0≤a) (h1:a≤b) (h2:b≤l.length) (hr:(l.drop a.toNat).take (b.toNat-a.toNat)=r) :
  (Instr.slice 9 (.string s) (some (.int k a)) (some (.int k' b)) none).run G.P w = .ok (m9 r) w:=by
 subst hs;rw [run_slice_string (P:=G.P) w 9 _ _ _ _ _ b0G h0 h1 (by rw [C5];exact h2),tx,ByteArray.extract_mk,hr];rfl
theorem a1d {l:Tx} {s:ByteArray} {k k':IntKind} {a b:Int} {x lo hi:Operand} {dst:Option Nat} {ty:Nat} {pos:String} {af:Array Edge} {gd:Option (Nat×Bool)} {env:C8} {w:World} {K:Value→World→Prop}
  (r':Tx) (hx:ev env x = .string s) (hlo:ev env lo = .int k a) (hhi:ev env hi = .int k' b) (hs:s=tx l) (h0:0≤a) (h1:a≤b) (h2:b≤l.length) (hr:(l.drop a.toNat).take (b.toNat-a.toNat)=r') (h:K (m9 r') w) :
  H4 G.P { dst,op:=.slice 9 x (some lo) (some hi) none,type:=ty,pos,after:=af,guard:=gd } env w K:=by
 refine ⟨.inl ⟨_,w,?_,h⟩⟩;show (do pure (Next.value (← Instr.slice 9 (ev env x) (some (ev env lo)) (some (ev env hi)) none)):Sem Next).run G.P w=_
 rw [hx,hlo,hhi,yj,b4U hs h0 h1 h2 hr];rfl
theorem a8o {C:World→Prop} {l:Tx} {s:ByteArray} {k k':IntKind} {a b:Int} {x lo hi:Operand} {dst:Option Nat} {ty:Nat} {pos:String} {af:Array Edge} {gd:Option (Nat×Bool)} {env:C8} {K:Value→Prop}
  (r':Tx) (hx:ev env x = .string s) (hlo:ev env lo = .int k a) (hhi:ev env hi = .int k' b) (hs:s=tx l) (h0:0≤a) (h1:a≤b) (h2:b≤l.length) (hr:(l.drop a.toNat).take (b.toNat-a.toNat)=r') (h:K (m9 r')) :
  b1x G.P C { dst,op:=.slice 9 x (some lo) (some hi) none,type:=ty,pos,after:=af,guard:=gd } env K:=by
 refine ⟨_,fun w _=>?_,h⟩;show (do pure (Next.value (← Instr.slice 9 (ev env x) (some (ev env lo)) (some (ev env hi)) none)):Sem Next).run G.P w=_
 rw [hx,hlo,hhi,yj,b4U hs h0 h1 h2 hr];rfl
theorem F1 {x:ByteArray} {l:Tx} (h:x=tx l):Ending.returned (.string x) = .returned (m9 l):=by rw [h];rfl
theorem c4s:∀ i<8,(([97,98,99,100,101,102,103,104]:Tx).drop i).take 1=[UInt8.ofNat (97+i)]:=by decide
theorem c4t:∀ i<8,(([49,50,51,52,53,54,55,56]:Tx).drop i).take 1=[UInt8.ofNat (49+i)]:=by decide
theorem c4u:∀ i<10,(([48,49,50,51,52,53,54,55,56,57]:Tx).drop i).take 1=[UInt8.ofNat (48+i)]:=by decide
theorem a2W {n m:Int} (h:0≤n):n.tmod m=n%m:=xl h
theorem a54 {n m:Int} (h:0≤n):n.tdiv m=n/m:=xa h
theorem b1P (n:Int) (h0:0≤n) (h1:n≤63) (w:World):Calls G.P 47 #[.int .i64 n] w (N2 (m9 (Ch.D2 n++Ch.rankT n)) w):=by
 refine zN func47 ?_;refine zG ?_;refine zR ?_;refine zK 14 ?_;have e1:n.tmod 8=n%8:=a2W h0;have e2:n.tdiv 8=n/8:=a54 h0;have e3:IntKind.i64.wrap (n%8+1)=n%8+1:=g9 zo zo;have e4:IntKind.i64.wrap (n/8)=n/8:=g9 zo zo;have e5:IntKind.i64.wrap (n/8+1)=n/8+1:=g9 zo zo;refine zR ?_;refine a8o (Ch.D2 n) rfl rfl rfl (J4 _) ?_ ?_ ?_ ?_ ?_
 ·rw [e1];omega
 ·rw [e1,e3];omega
 ·rw [e1,e3];simp;omega
 ·rw [e1,e3,show (n%8+1).toNat-(n%8).toNat=1 by omega];exact c4s _ zo
 refine zR ?_;refine a8o (Ch.rankT n) rfl rfl rfl (J4 _) ?_ ?_ ?_ ?_ ?_
 ·rw [e2,e4];omega
 ·rw [e2,e4,e5];omega
 ·rw [e2,e4,e5];simp;omega
 ·rw [e2,e4,e5,show (n/8+1).toNat-(n/8).toNat=1 by omega];exact c4t _ zo
 refine zR ?_;intro w1 c1;refine zR ?_;exact ⟨F1 (A9 _ _),c1⟩
theorem a2X:∀ (k n:Nat),0<k→n<10^k→(Ch.X8 n).length≤k:=by
 intro k
 induction k with
 | zero=>intro n h;omega
 | succ k ih =>
  intro n _ h;rw [Ch.X8];split
  ·simp
  ·rename_i h10;have hk:0<k:=by
    rcases Nat.eq_zero_or_pos k with h0|h0
    ·subst h0;simp at h;omega
    ·exact h0
   have:=ih (n/10) hk (by rw [Nat.pow_succ] at h;omega)
   simp;exact this
theorem a4e {n:Nat} (h:n<9223372036854775808):(Ch.X8 n).length≤19:=a2X 19 n zd zo
theorem a0o:∀ (n:Nat) (w:World),n<9223372036854775808→Calls G.P 50 #[.int .i64 n] w (N2 (m9 (Ch.X8 n)) w):=by
 intro n
 induction n using Nat.strongRecOn with
 | _ n ih =>
 intro w hn;refine zN func50 ?_;refine zG ?_;refine zR ?_;apply E.b9<;>intro h
 ·have e1:IntKind.i64.wrap ((n:Int)+1)=n+1:=g9 zo zo;refine zR ?_;refine a1d (Ch.X8 n) rfl rfl rfl (J4 _) ?_ ?_ ?_ ?_ ?_
  ·omega
  ·rw [e1];omega
  ·rw [e1];simp;omega
  ·rw [e1,show ((n:Int)+1).toNat-(n:Int).toNat=1 by omega,Ch.X8,dif_pos zo];exact c4u _ zo
  refine zR ?_;exact ⟨rfl,Cl.refl _⟩
 ·have e1:(n:Int).tmod 10=((n%10:Nat):Int):=by rw [a2W zo];omega
  have e2:IntKind.i64.wrap ((n:Int).tdiv 10)=((n/10:Nat):Int):=by rw [a54 zo,g9 zo zo];omega
  have e3:IntKind.i64.wrap (((n%10:Nat):Int)+1)=((n%10+1:Nat):Int):=by rw [g9 zo zo];omega
  refine zR ?_;refine zK 11 ?_;refine zR ?_;refine E2 (m9 (Ch.X8 (n/10))) (fun _ _ h=>h.trans) (fun w _=>?_) ?_
  ·have:=ih (n/10) zo w zo;rw [← e2] at this;exact this
  refine zR ?_;refine a8o [UInt8.ofNat (48+n%10)] rfl rfl rfl (J4 _) ?_ ?_ ?_ ?_ ?_
  ·rw [e1];omega
  ·rw [e1,e3];omega
  ·rw [e1,e3];simp;omega
  ·rw [e1,e3,show ((n%10+1:Nat):Int).toNat-((n%10:Nat):Int).toNat=1 by omega];exact c4u _ zo
  refine zR ?_;have hl:=a4e (n:=n/10) zo;refine E.A8 (A5 (by simp;omega)) (zR ?_)
  intro w1 c1;refine zR ?_;refine ⟨F1 ?_,c1⟩;rw [A9,Ch.X8.eq_def n,dif_neg zo]
theorem c2X (p:l9) (i:Nat) (h:i<64):(bdA p)[i]?=some (.int .i64 (Ch.sq p i)):=by
 have:=a3Y p i h;simp only [bdA,Array.getElem?_extract];rw [zM (by rw [A0];omega),yW,this]
theorem c55 {p:l9} {w:World} {b t i:Nat} {fz:Nat×Nat} (hb:w.heap[b]?=some (.cells (bdA p) t fz)) (m:Int) (h0:0≤m) (h1:m<64) (hi:i=m.toNat) :
  g8 G.P w 3 ⟨b,i,none⟩ (.int .i64 (Ch.sq p m)):=by
 subst hi;refine L5 hb ?_ rfl;rw [c2X p _ zo,zi h0]
theorem b1Q {e:Nat} (h:e≤100):(Ch.X6 e).length≤3:=by
 unfold Ch.X6;split
 ·simp
 ·exact a2X 3 e zd zo
theorem b0H (x:Int):(Ch.pcT x).length≤1:=by
                               unfold Ch.pcT;iterate 12 (split;· simp)
                               simp
theorem b1R (g:Nat→Int):∀ (n f e:Nat),e+n≤100→(Ch.a0x g n f e).length≤4*n+3:=by
 intro n
 induction n with
 | zero=>intro f e h;exact b1Q zo
 | succ n ih =>
  intro f e h;rw [Ch.a0x];split
  ·have:=ih (f+1) (e+1) zo;omega
  ·have:=ih (f+1) 0 zo;have:=b1Q (e:=e) zo;have:=b0H (g f);simp;omega
theorem a1D (p:l9):∀ r,(Ch.A6 p r).length≤36*r:=by
 intro r
 induction r with
 | zero=>simp [Ch.A6]
 | succ r ih =>
  rw [Ch.A6];have:=b1R (fun f=>Ch.sq p (8*(r:Int)+f)) 8 0 0 zo;simp only [zF];split<;>simp<;>omega
theorem c4v:∀ i<12,(([75,81,82,66,78,80,107,113,114,98,110,112]:Tx).drop i).take 1=Ch.pcT ((i:Int)+1):=by decide
theorem b36 (p:l9) (hp:Pc p) (w:World):Calls G.P 48 #[.agg (bdA p)] w (N2 (m9 (Ch.A6 p 8)) w):=by
 refine zN func48 ?_;refine zG ?_;generalize hW:w.alloc (.cells (bdA p) 22)=W0;have hP:∀ w',Cl W0 w'→w'.heap[w.heap.size]?=some (.cells (bdA p) 22 (0,0)):=fun w' h=>(hW▸h:Cl (w.alloc (.cells (bdA p) 22)) w').blk (d9 _ _);have hE:∀ w',Cl W0 w'→Cl w w':=fun w' h=>(Cl.alloc _ _).trans (hW▸h);have hT:=a1D p 8;refine zR ?_;refine B6 (σ:=Nat×Tx) [3,4,5,6,7] 8 (fun a=>[(3,m9 a.2),(4,.int .i64 ((a.1:Int)-1))]) (fun a w'=>a.1≤8∧a.2++Ch.A6 p a.1=Ch.A6 p 8∧Cl W0 w') (fun a=>a.1) zk (8,[])
  ⟨by simp,rfl,Cl.refl _⟩ ⟨rfl,rfl,trivial⟩ ?_
 rintro ⟨r,X⟩ j w1 ⟨hr,hX,hcl⟩;simp only at hr hX ⊢;refine zR ?_;apply E.b9<;>intro h
 ·obtain ⟨r',rfl⟩:∃ r',r=r'+1:=⟨r-1,zo⟩;clear h;rw [show (((r'+1:Nat):Int)-1)=(r':Int) by omega]
  have nr:IntKind.i64.wrap ((r':Int)-1)=(r':Int)-1:=g9 zo zo;have n8:IntKind.i64.wrap (8*(r':Int))=8*(r':Int):=g9 zo zo;have hb1:Ch.A6 p (r'+1)=Ch.a0x (fun f=>Ch.sq p (8*(r':Int)+f)) 8 0 0++(if r'=0 then [] else [47])++Ch.A6 p r':=rfl
  generalize hg:(fun f:Nat=>Ch.sq p (8*(r':Int)+f))=g at *;have hXl:X.length+(Ch.a0x g 8 0 0).length≤288:=by
   have:=yH List.length hX;rw [hb1] at this;simp only [zF] at this;omega
  refine zR ?_;refine B6 (σ:=Nat×Nat×Tx) [3,5,6,7] 8 (fun a=>[(3,m9 (X++a.2.2)),(5,.int .i64 a.2.1),(6,.int .i64 a.1)]) (fun a w'=>a.1≤8∧a.2.1≤a.1∧a.2.2++Ch.a0x g (8-a.1) a.1 a.2.1=Ch.a0x g 8 0 0∧Cl W0 w') (fun a=>8-a.1) zk (0,0,[])
   ⟨by simp,by simp,rfl,hcl⟩ ⟨by simp only [zn];rfl,rfl,rfl,trivial⟩ ?_
  rintro ⟨f,e,Y⟩ j2 w2 ⟨hf,he,hY,hcl2⟩;simp only at hf he hY ⊢;have hYl:X.length+Y.length≤288:=by
   have:=yH List.length hY;simp only [zF] at this;omega
  refine zR ?_;apply E.b9<;>intro h
  ·have hf8:f<8:=by omega
   clear h;have nf:IntKind.i64.wrap ((f:Int)+1)=((f+1:Nat):Int):=by rw [g9 zo zo];omega
   have ne:IntKind.i64.wrap ((e:Int)+1)=((e+1:Nat):Int):=by rw [g9 zo zo];omega
   have ns:IntKind.i64.wrap (8*(r':Int)+f)=8*(r':Int)+f:=g9 zo zo;have hrow:Ch.a0x g (8-f) f e=if g f<1∨g f>12 then Ch.a0x g (8-(f+1)) (f+1) (e+1) else Ch.X6 e++Ch.pcT (g f)++Ch.a0x g (8-(f+1)) (f+1) 0:=by
    rw [show 8-f=(8-(f+1))+1 by omega];rfl
   refine zR ?_;simp only [n8,ns];refine zC ?_;refine zR ?_;refine b7 (.int .i64 (g f)) ?_ ?_
   ·rw [← hg];exact c55 (hP _ hcl2) _ zo zo (by simp [E.r9])
   have hgb:0≤g f∧g f≤12:=by rw [← hg];exact hp _
   generalize hk:g f=k at *;refine zR ?_;apply E.b9<;>intro h
   ·refine zR ?_;refine ⟨(f+1,e+1,Y),⟨rfl,d8 ne,d8 nf,trivial⟩,⟨by simp;omega,by simp;omega,?_,hcl2⟩,by simp;omega⟩
    simp only
    rw [hrow,zM (.inl h)] at hY;exact hY
   ·have h1:=h;clear h;refine zR ?_;apply E.b9<;>intro h
    ·omega
    ·rw [hrow,zJ zo] at hY;have nk:IntKind.i64.wrap (k-1)=k-1:=g9 zo zo;clear h;refine zR ?_;apply E.b9<;>intro h
     ·have hce:Ch.X6 e=Ch.X8 e:=by unfold Ch.X6;rw [zJ zo]
      have hdl:=a2X 2 e zd zo;refine zR ?_;refine o9 (a0o e _ zo) fun w3 c3=>zR ?_;refine E.A8 (A5 (by rw [zF];omega)) ?_
      rw [A9];refine zR ?_;simp only [nk];refine a1d (Ch.pcT k) rfl rfl rfl (J4 _) zo zo (by simp;omega) ?_ ?_
      ·rw [show k.toNat-(k-1).toNat=1 by omega,c4v _ zo];congr 1;omega
      refine zR ?_;have hpl:=b0H k;refine E.A8 (A5 (by simp only [zF];omega)) ?_
      rw [A9];refine zR ?_;refine ⟨(f+1,0,Y++Ch.X8 e++Ch.pcT k),⟨?_,rfl,d8 nf,trivial⟩,⟨by simp;omega,by simp,?_,hcl2.trans c3⟩,by simp;omega⟩
      ·show Value.string _=Value.string _;simp only [yG]
      ·simp only;rw [← hY,hce];simp only [yG]
     ·have he0:e=0:=by omega
      subst he0;refine zR ?_;simp only [nk];refine a1d (Ch.pcT k) rfl rfl rfl (J4 _) zo zo (by simp;omega) ?_ ?_
      ·rw [show k.toNat-(k-1).toNat=1 by omega,c4v _ zo];congr 1;omega
      refine zR ?_;have hpl:=b0H k;refine E.A8 (A5 (by simp only [zF];omega)) ?_
      rw [A9];refine zR ?_;refine ⟨(f+1,0,Y++Ch.pcT k),⟨?_,rfl,d8 nf,trivial⟩,⟨by simp;omega,by simp,?_,hcl2⟩,by simp;omega⟩
      ·show Value.string _=Value.string _;simp only [yG]
      ·simp only;rw [← hY];simp [Ch.X6,yG]
  ·have hf8:f=8:=by omega
   subst hf8;clear h;have hend:Y++Ch.X6 e=Ch.a0x g 8 0 0:=hY;have hout:∀ T:Tx,X++Y++Ch.X6 e++(if r'=0 then [] else [47])=T→T++Ch.A6 p r'=Ch.A6 p 8:=by
    intro T hT;rw [← hT,← hX,hb1,← hend];simp only [yG]
   refine zR ?_;apply E.b9<;>intro h
   ·have hce:Ch.X6 e=Ch.X8 e:=by unfold Ch.X6;rw [zJ zo]
    have hdl:=a2X 2 e zd zo;rw [hce] at hout;refine zR ?_;refine o9 (a0o e _ zo) fun w3 c3=>zR ?_;refine E.A8 (A5 (by rw [zF];omega)) ?_
    rw [A9];refine zR ?_;apply E.b9<;>intro h
    ·refine zR ?_;refine E.A8 (a1Z (by simp only [C5,zF];simp [ByteArray.size];omega)) ?_
     rw [J4,A9];refine zR ?_;refine ⟨(r',X++Y++Ch.X8 e++[47]),⟨rfl,d8 nr,trivial⟩,⟨by simp;omega,?_,hcl2.trans c3⟩,by simp⟩
     simp only
     exact hout _ (by rw [zJ zo])
    ·refine zR ?_;refine ⟨(r',X++Y++Ch.X8 e),⟨rfl,d8 nr,trivial⟩,⟨by simp;omega,?_,hcl2.trans c3⟩,by simp⟩
     simp only
     exact hout _ (by rw [zM zo,zn])
   ·have hce:Ch.X6 e=[]:=by unfold Ch.X6;rw [zM zo]
    rw [hce] at hout;refine zR ?_;apply E.b9<;>intro h
    ·refine zR ?_;refine E.A8 (a1Z (by simp only [C5,zF];simp [ByteArray.size];omega)) ?_
     rw [J4,A9];refine zR ?_;refine ⟨(r',X++Y++[47]),⟨rfl,d8 nr,trivial⟩,⟨by simp;omega,?_,hcl2⟩,by simp⟩
     simp only
     exact hout _ (by rw [zJ zo,zn])
    ·refine zR ?_;refine ⟨(r',X++Y),⟨rfl,d8 nr,trivial⟩,⟨by simp;omega,?_,hcl2⟩,by simp⟩
     simp only
     exact hout _ (by rw [zM zo,zn,zn])
 ·have hr0:r=0:=by omega
  subst hr0;refine zR ?_;refine ⟨F1 ?_,hE _ hcl⟩;rw [P8,← hX];simp [Ch.A6]
def a36 (n:Nat):Tx:=if n=0 then [75] else if n=1 then [81] else if n=2 then [107] else [113]
def a0X (c:Int):Nat→Tx
 | 0=>[]
 | n+1=>a0X c n++(if Ch.U2 c n=true then a36 n else [])
theorem a8p (c:Int):∀ n,(a0X c n).length≤n:=by
 intro n
 induction n with
 | zero=>simp [a0X]
 | succ n ih =>
  rw [a0X,zF];have:(if Ch.U2 c n=true then a36 n else []).length≤1:=by
   split
   ·unfold a36;repeat' split
    all_goals simp
   ·simp
  omega
theorem a8q (c:Int):Ch.B9 c=if a0X c 4=[] then [45] else a0X c 4:=by
 unfold Ch.B9;simp only [a0X,a36,yM];cases Ch.U2 c 0<;>cases Ch.U2 c 1<;>cases Ch.U2 c 2<;>cases Ch.U2 c 3<;>rfl
theorem c56:∀ i<4,(([75,81,107,113]:Tx).drop i).take 1=a36 i:=by decide
theorem b1S (c:Int) (h0:0≤c) (h1:c≤15) (w:World):Calls G.P 49 #[.int .i64 c] w (E5 (m9 (Ch.B9 c)) w):=by
 refine zN func49 ?_;refine zG ?_;refine zR ?_;refine B6 (σ:=Nat) [3,4] 5 (fun a=>[(3,m9 (a0X c a)),(4,.int .i64 a)]) (fun a w'=>a≤4∧w'=w) (fun a=>4-a) zk 0
  ⟨zo,rfl⟩ ⟨rfl,rfl,trivial⟩ ?_
 rintro n j w2 ⟨hn,hw⟩;subst hw;have hl:=a8p c n;refine zR ?_;apply E.b9<;>intro h
 ·have hn4:n<4:=by omega
  clear h;have nn:IntKind.i64.wrap ((n:Int)+1)=((n+1:Nat):Int):=by rw [g9 zo zo];omega
  refine zR ?_;intro r2 hr2;have hbi:=b07 h0 h1 hn4;refine zR ?_;intro r3 hr3;rw [← hr2,← hr3] at hbi;clear hr2 hr3;refine zR ?_;apply E.b9<;>intro h
  ·have hb:=hbi.1 h;refine zR ?_;refine a1d (a36 n) rfl rfl rfl (J4 _) zo (by rw [nn];omega) (by rw [nn];simp only [Array.length_toList];show ((n+1:Nat):Int)≤4;omega) ?_ ?_
   ·rw [nn,show ((n+1:Nat):Int).toNat-(n:Int).toNat=1 by omega];exact c56 _ zo
   refine zR ?_;have hr:(a36 n).length≤1:=by
    unfold a36;repeat' split
    all_goals simp
   refine E.A8 (A5 zo) ?_;rw [A9];refine zR ?_;exact ⟨n+1,⟨by rw [a0X,zM hb];rfl,d8 nn,trivial⟩,⟨zo,rfl⟩,zo⟩
  ·have hb:Ch.U2 c n=false:=by
    cases hh:Ch.U2 c n
    ·rfl
    ·exact absurd (hbi.2 hh) h
   refine zR ?_;exact ⟨n+1,⟨by rw [a0X,hb];simp only [zn,yD,xh];rfl,d8 nn,trivial⟩,⟨zo,rfl⟩,zo⟩
 ·have hn4:n=4:=by omega
  subst hn4;clear h;refine zR ?_;apply E.b9<;>intro h
  ·have he:a0X c 4=[]:=by rw [J4] at h;exact P8.1 h
   refine zR ?_;exact ⟨F1 (by rw [a8q,zM he];rfl),rfl⟩
  ·have he:a0X c 4≠[]:=fun e=>h (by rw [J4,e])
   refine zR ?_;exact ⟨F1 (by rw [a8q,zJ he]),rfl⟩
theorem a8r (l a:Tx):tx a++(⟨l.toArray⟩:ByteArray)=tx (a++l):=A9 a l
theorem a4f (c:Int):(Ch.B9 c).length≤4:=by
 rw [a8q];split
 ·simp
 ·exact a8p c 4
theorem b4V (e:Int):(Ch.epT e).length≤2:=by
 unfold Ch.epT;split
 ·simp [Ch.D2,Ch.rankT]
 ·simp
theorem a9J (e:Int):(Ch.Y2 e).length=1:=by unfold Ch.Y2;split<;>rfl
theorem a9K {C:World→Prop} {n:Int} (h0:0≤n) {k k':IntKind} {x y:Operand} {ts:Array Nat} {dst:Option Nat} {ty:Nat} {pos:String} {af:Array Edge} {gd:Option (Nat×Bool)} {env:C8} {K:Value→Prop}
  (hx:ev env x = .int k n) (hy:ev env y = .int k' 0) (h:K (.int k n)) :
  b1x G.P C { dst,op:=.call { callee:=.builtin .max,args:=#[x,y],argTypes:=ts },type:=ty,pos,after:=af,guard:=gd } env K:=by
 refine ⟨_,fun w _=>?_,h⟩;simp only [execOp,resolve,invoke,builtin,yj,xY,yp,xO,yQ,xb,hx,hy];rw [run_max_int2,zJ zo];rfl
structure Fen (p:l9):Prop where
 pc:Pc p
 c0:0≤p.castle
 c1:p.castle≤15
 h0:0≤p.half
 h1:p.half<9223372036854775808
 f0:0≤p.full
 f1:p.full<9223372036854775808
theorem a29 (p:l9) (hp:Fen p) (w:World):Calls G.P 18 #[D3 p] w (N2 (m9 (Ch.O0 p)) w):=by
 refine zN func18 ?_;refine zG ?_;generalize hW:w.alloc (.cells (s7 p) 24)=W0;have hP:∀ w',Cl W0 w'→w'.heap[w.heap.size]?=some (.cells (s7 p) 24 (0,0)):=fun w' h=>(hW▸h:Cl (w.alloc (.cells (s7 p) 24)) w').blk (d9 _ _);have hE:∀ w',Cl W0 w'→Cl w w':=fun w' h=>(Cl.alloc _ _).trans (hW▸h);obtain ⟨hpc,c0,c1,hh0,hh1,hf0,hf1⟩:=hp;have hbl:=a1D p 8;have hcl:=a4f p.castle;have hel:=b4V p.ep;have htl:=a9J p.turn;have hhl:=a4e (n:=p.half.toNat) zo;have hfl:=a4e (n:=p.full.toNat) zo;have hsq:∀ w,0≤p.ep→p.ep<64→Calls G.P 47 #[.int .i64 p.ep] w (N2 (m9 (Ch.epT p.ep)) w):=fun w h h'=>by
  have:=b1P p.ep h zo w;unfold Ch.epT;rw [zM ⟨h,h'⟩];exact this
 have hT:Ch.O0 p=Ch.A6 p 8++[32]++Ch.Y2 p.turn++[32]++Ch.B9 p.castle++[32]++Ch.epT p.ep++[32]++Ch.X8 p.half.toNat++[32]++Ch.X8 p.full.toNat:=rfl;rw [hT];clear hT;refine Nx.mk (zG ?_);refine C3 (σ:=Unit) [3,5,6,7] 8 (fun _=>[(3,m9 (Ch.Y2 p.turn))]) (fun _ w'=>w'=W0) zk ?_ (fun _ j w3 h=>?_)
 ·refine zR ?_;refine b7 _ (E9 (hP _ (Cl.refl _))) (zR ?_);apply E.b9<;>intro h
  ·refine zR ?_;exact ⟨(),⟨by unfold Ch.Y2;rw [zM h];rfl,trivial⟩,rfl⟩
  ·refine zR ?_;exact ⟨(),⟨by unfold Ch.Y2;rw [zJ h];rfl,trivial⟩,rfl⟩
 subst h;refine C3 (σ:=Unit) [4,8,9,10,11,12,13,14,15,16,17,18] 19 (fun _=>[(4,m9 (Ch.epT p.ep))]) (fun _ w'=>Cl w3 w') zk ?_ (fun _ j w4 c4=>?_)
 ·refine zR ?_;refine b7 _ (a4G (hP _ (Cl.refl _))) (zR ?_);apply E.b9<;>intro h
  ·have e0:=h;clear h;refine zR ?_;refine b7 _ (a4G (hP _ (Cl.refl _))) (zR ?_);apply E.b9<;>intro h
   ·refine zR ?_;refine b7 _ (a4G (hP _ (Cl.refl _))) (zR ?_);refine o9 (hsq _ e0 h) fun w4 c4=>zR ?_;exact ⟨(),⟨rfl,trivial⟩,c4⟩
   ·refine zR ?_;exact ⟨(),⟨by unfold Ch.epT;rw [zJ zo];rfl,trivial⟩,Cl.refl _⟩
  ·refine zR ?_;exact ⟨(),⟨by unfold Ch.epT;rw [zJ zo];rfl,trivial⟩,Cl.refl _⟩
 generalize hb:Ch.A6 p 8=B at *;generalize Ch.Y2 p.turn=T1 at *;generalize hc:Ch.B9 p.castle=T2 at *;generalize Ch.epT p.ep=T3 at *;refine zR ?_;refine zK 27 ?_;refine zR ?_;refine m7 (.agg (bdA p)) (fun w hw=>c2W (hP _ (c4.trans hw))) (zR ?_);refine E2 (m9 B) (fun _ _ h=>h.trans) (fun w _=>?_) ?_
 ·rw [← hb];exact b36 p hpc w
 refine zR ?_;refine E.A8 (a1Z (by simp only [C5];simp [ByteArray.size];omega)) ?_
 rw [a8r [32]];refine zR ?_;refine E.A8 (A5 (by simp only [zF];simp;omega)) ?_
 rw [A9];refine zR ?_;refine E.A8 (a1Z (by simp only [C5];simp [ByteArray.size];omega)) ?_
 rw [a8r [32]];refine zR ?_;refine m7 _ (fun w hw=>a2w (hP _ (c4.trans hw))) (zR ?_);refine m8 (m9 T2) (fun w _=>?_) ?_
 ·rw [← hc];exact b1S p.castle c0 c1 w
 refine zR ?_;refine E.A8 (A5 (by simp only [zF];simp;omega)) ?_
 rw [A9];refine zR ?_;refine E.A8 (a1Z (by simp only [C5];simp [ByteArray.size];omega)) ?_
 rw [a8r [32]];refine zR ?_;refine E.A8 (A5 (by simp only [zF];simp;omega)) ?_
 rw [A9];refine zR ?_;refine E.A8 (a1Z (by simp only [C5];simp [ByteArray.size];omega)) ?_
 rw [a8r [32]];refine zR ?_;refine m7 _ (fun w hw=>a7Y (hP _ (c4.trans hw))) (zR ?_);refine a9K hh0 rfl rfl (zR ?_);refine E2 (m9 (Ch.X8 p.half.toNat)) (fun _ _ h=>h.trans) (fun w _=>?_) ?_
 ·have:=a0o p.half.toNat w zo;rw [zi hh0] at this;exact this
 refine zR ?_;generalize Ch.X8 p.half.toNat=T4 at *;refine E.A8 (A5 (by simp only [zF];simp;omega)) ?_
 rw [A9];refine zR ?_;refine E.A8 (a1Z (by simp only [C5];simp [ByteArray.size];omega)) ?_
 rw [a8r [32]];refine zR ?_;refine m7 _ (fun w hw=>a5Z (hP _ (c4.trans hw))) (zR ?_);refine a9K hf0 rfl rfl (zR ?_);refine E2 (m9 (Ch.X8 p.full.toNat)) (fun _ _ h=>h.trans) (fun w _=>?_) ?_
 ·have:=a0o p.full.toNat w zo;rw [zi hf0] at this;exact this
 refine zR ?_;generalize Ch.X8 p.full.toNat=T5 at *;refine E.A8 (A5 (by simp only [zF];simp;omega)) ?_
 rw [A9];refine zR ?_;intro w5 c5;refine zR ?_;exact ⟨rfl,hE _ (c4.trans c5)⟩
theorem a1E:F0 157 5 1 1:=T7 zk
theorem a2a:F0 42 9 1 16:=T7 zk
def a38 (t:Tx):List Value:=[m9 t]
theorem D1 (t:Tx):(a38 t).length=1:=rfl
theorem c2k:G.P.underlying 5=some (.int .u8):=by kernel_rfl
theorem b0I:G.P.underlying 157=some (.slice 5):=by kernel_rfl
theorem a8s (l:Tx) {b:Nat} {n c:Nat} {cs:Array Value} {u:Nat} {fz:Nat×Nat} {x:Operand} {dst:Option Nat} {ty:Nat} {pos:String} {af:Array Edge} {gd:Option (Nat×Bool)} {env:C8} {w:World} {K:Value→World→Prop}
  (hx:ev env x = .slice (some ⟨b,0,none⟩) n c) (hn:n=l.length) (hb:w.heap[b]?=some (.cells cs u fz)) (hc:∀ j (hj:j<l.length),cs[j]?=some (.int .u8 (l[j].toNat:Int)))
  (h:K (m9 l) w):H4 G.P { dst,op:=.convert 157 9 x,type:=ty,pos,after:=af,guard:=gd } env w K:=by
 subst hn;refine ⟨.inl ⟨_,w,?_,h⟩⟩;show (do pure (Next.value (← convert _ _ (ev env x))):Sem Next).run G.P w=_
 rw [hx,yj,run_convert_bytes_back (P:=G.P) w 157 9 5 ⟨b,0,none⟩ c l b0I c2k b0G (fun j hj=>by rw [E3,yW,C9 hb];exact hc j hj)]
 rfl
theorem a6k (n:Int) (h0:0≤n) (h1:n≤63) (w:World):Calls G.P 62 #[.int .i64 n] w (N2 (m9 (Ch.D2 n)) w):=by
 refine zN func62 ?_;refine zG ?_;refine zR ?_;refine G2 a1E [.int .u8 (97+n%8)] ?_ (by simp [Value.cells]) rfl zd zd ?_
 ·rw [zb];have e1:IntKind.u8.wrap (IntKind.i64.wrap (97+n.tmod 8))=97+n%8:=by
   rw [a2W h0,g9 zo zo];simp [IntKind.wrap,IntKind.bits,IntKind.signed];omega
  rw [← e1];rfl
 refine zR ?_;refine a8s (Ch.D2 n) rfl rfl (d9 _ _) ?_ ?_
 ·intro j hj;have:j=0:=by simp [Ch.D2] at hj;omega
  subst this;simp [Value.cells,Ch.D2];omega
 refine zR ?_;exact ⟨rfl,Cl.alloc _ _⟩
theorem a9L (n:Int) (h0:0≤n) (h1:n≤63) (w:World):Calls G.P 63 #[.int .i64 n] w (N2 (m9 (Ch.rankT n)) w):=by
 refine zN func63 ?_;refine zG ?_;refine zR ?_;refine G2 a1E [.int .u8 (49+n/8)] ?_ (by simp [Value.cells]) rfl zd zd ?_
 ·rw [zb];have e1:IntKind.u8.wrap (IntKind.i64.wrap (49+IntKind.i64.wrap (n.tdiv 8)))=49+n/8:=by
   rw [a54 h0,g9 (n:=n/8) zo zo,g9 zo zo];simp [IntKind.wrap,IntKind.bits,IntKind.signed];omega
  rw [← e1];rfl
 refine zR ?_;refine a8s (Ch.rankT n) rfl rfl (d9 _ _) ?_ ?_
 ·intro j hj;have:j=0:=by simp [Ch.rankT] at hj;omega
  subst this;simp [Value.cells,Ch.rankT];omega
 refine zR ?_;exact ⟨rfl,Cl.alloc _ _⟩
theorem V8 (n:Int) (h0:-1000≤n) (h1:n≤1000) (w:World):Calls G.P 61 #[.int .i64 n] w (N2 (m9 (Ch.sqT n)) w):=by
 refine zN func61 ?_;refine zG ?_;refine zR ?_;apply E.b9<;>intro h
 ·refine zR ?_;exact ⟨F1 (by unfold Ch.sqT;rw [zM (.inl h)];rfl),Cl.refl _⟩
 ·have a:=h;clear h;refine zR ?_;apply E.b9<;>intro h
  ·refine zR ?_;exact ⟨F1 (by unfold Ch.sqT;rw [zM (.inr h)];rfl),Cl.refl _⟩
  ·refine zR ?_;refine o9 (a6k n zo zo _) fun w1 c1=>zR ?_;refine o9 (a9L n zo zo _) fun w2 c2=>zR ?_;exact ⟨F1 (by unfold Ch.sqT;rw [zJ zo];exact A9 _ _),c1.trans c2⟩
theorem a2Y (n:Int):(Ch.sqT n).length≤2:=by
 unfold Ch.sqT;split
 ·simp
 ·simp [Ch.D2,Ch.rankT]
theorem Z7 (n:Int):(Ch.D7 n).length≤1:=by
 unfold Ch.D7;iterate 5 (split;· simp)
 simp
theorem a8t {k:Int} (h:k<0∨6<k):Ch.D7 k=[]:=by
 unfold Ch.D7;rw [zJ zo,zJ zo,zJ zo,zJ zo,zJ zo]
theorem a3A (k:Int) (w:World):Calls G.P 64 #[.int .i64 k] w (N2 (m9 (Ch.D7 k)) w):=by
 refine zN func64 ?_;refine zG ?_;refine zR ?_;refine G2 a2a [m9 [],m9 [75],m9 [81],m9 [82],m9 [66],m9 [78],m9 []] (by rw [zb];rfl) (by simp [Value.cells,m9]) rfl zd zd ?_
 have hr:=L4 D1 w [[],[75],[81],[82],[66],[78],[]] zd [m9 [],m9 [75],m9 [81],m9 [82],m9 [66],m9 [78],m9 []] rfl (e:=9) (z:=1);have c1:=Cl.alloc w (.cells (([m9 [],m9 [75],m9 [81],m9 [82],m9 [66],m9 [78],m9 []]:List Value).flatMap fun v=>v.cells.toList).toArray 9);generalize w.alloc (.cells (([m9 [],m9 [75],m9 [81],m9 [82],m9 [66],m9 [78],m9 []]:List Value).flatMap fun v=>v.cells.toList).toArray 9)=w1 at *;refine zR ?_;apply E.b9<;>intro h
 ·refine zR ?_;exact ⟨F1 (by rw [a8t zo];rfl),c1⟩
 ·have a:=h;clear h;refine zR ?_;apply E.b9<;>intro h
  ·refine zR ?_;exact ⟨F1 (by rw [a8t zo];rfl),c1⟩
  ·have hL:g8 G.P w1 9 ⟨w.heap.size,k.toNat,none⟩ (m9 (Ch.D7 k)):=by
    have hk:k=0∨k=1∨k=2∨k=3∨k=4∨k=5∨k=6:=by omega
    rcases hk with rfl|rfl|rfl|rfl|rfl|rfl|rfl
    ·exact O5 hr D1 0 0 zd zd rfl rfl rfl
    ·exact O5 hr D1 1 0 zd zd rfl rfl rfl
    ·exact O5 hr D1 2 0 zd zd rfl rfl rfl
    ·exact O5 hr D1 3 0 zd zd rfl rfl rfl
    ·exact O5 hr D1 4 0 zd zd rfl rfl rfl
    ·exact O5 hr D1 5 0 zd zd rfl rfl rfl
    ·exact O5 hr D1 6 0 zd zd rfl rfl rfl
   refine zR ?_;refine zC ?_;refine zR ?_;refine b7 (m9 (Ch.D7 k)) ?_ ?_
   ·simpa [E.r9] using hL
   refine zR ?_;exact ⟨rfl,c1⟩
theorem a44 (m:Mv) (w:World):Calls G.P 113 #[mvV m] w (N2 (m9 (Ch.Z6 m)) w):=by
 refine zN func113 ?_;refine zG ?_;generalize hW:w.alloc (.cells (S8 m) 36)=W0;have hM:∀ w',Cl W0 w'→w'.heap[w.heap.size]?=some (.cells (S8 m) 36 (0,0)):=fun w' h=>(hW▸h:Cl (w.alloc (.cells (S8 m) 36)) w').blk (d9 _ _);have hE:∀ w',Cl W0 w'→Cl w w':=fun w' h=>(Cl.alloc _ _).trans (hW▸h);refine zR ?_;refine b7 _ (a0k (hM _ (Cl.refl _))) (zR ?_);apply E.b9<;>intro h
 ·refine zR ?_;exact ⟨F1 (by unfold Ch.Z6;rw [zM h];rfl),hE _ (Cl.refl _)⟩
 ·refine zR ?_;refine b7 _ (a0k (hM _ (Cl.refl _))) (zR ?_);refine o9 (a3A m.promo _) fun w1 c1=>?_;have:=Z7 m.promo;refine zR ?_;refine E.A8 (a1Z (by simp only [C5];simp [ByteArray.size];omega)) (zR ?_)
  exact ⟨F1 (by unfold Ch.Z6;rw [zJ h];exact A9 [61] _),hE _ c1⟩
theorem b6e (m:Mv) (hm:b17 m) (w:World):Calls G.P 70 #[mvV m] w (N2 (m9 (Ch.b0F m)) w):=by
 obtain ⟨⟨a0,a1⟩,⟨b0,b1⟩,d0,d1⟩:=hm;refine zN func70 ?_;refine zG ?_;generalize hW:w.alloc (.cells (S8 m) 36)=W0;have hM:∀ w',Cl W0 w'→w'.heap[w.heap.size]?=some (.cells (S8 m) 36 (0,0)):=fun w' h=>(hW▸h:Cl (w.alloc (.cells (S8 m) 36)) w').blk (d9 _ _);have hE:∀ w',Cl W0 w'→Cl w w':=fun w' h=>(Cl.alloc _ _).trans (hW▸h);refine zR ?_;refine G2 a2a [m9 [],m9 [107],m9 [113],m9 [114],m9 [98],m9 [110],m9 [112]] (by rw [zb];rfl) (by simp [Value.cells,m9]) rfl zd zd ?_
 have hr:=L4 D1 W0 [[],[107],[113],[114],[98],[110],[112]] zd [m9 [],m9 [107],m9 [113],m9 [114],m9 [98],m9 [110],m9 [112]] rfl (e:=9) (z:=1);have c1:=Cl.alloc W0 (.cells (([m9 [],m9 [107],m9 [113],m9 [114],m9 [98],m9 [110],m9 [112]]:List Value).flatMap fun v=>v.cells.toList).toArray 9);generalize W0.alloc (.cells (([m9 [],m9 [107],m9 [113],m9 [114],m9 [98],m9 [110],m9 [112]]:List Value).flatMap fun v=>v.cells.toList).toArray 9)=w1 at *;refine zR ?_;refine zK 8 ?_;refine zR ?_;refine m7 _ (fun w hw=>N7 (hM _ (c1.trans hw))) (zR ?_);refine E2 (m9 (Ch.sqT m.fr)) (fun _ _ h=>h.trans) (fun w _=>V8 m.fr zo zo w) (zR ?_);refine m7 _ (fun w hw=>a0w (hM _ (c1.trans hw))) (zR ?_);refine E2 (m9 (Ch.sqT m.to)) (fun _ _ h=>h.trans) (fun w _=>V8 m.to zo zo w) ?_;have l1:=a2Y m.fr;have l2:=a2Y m.to;refine zR ?_;refine E.A8 (A5 zo) ?_;rw [A9];refine zR ?_;intro w2 c2;have c12:=c1.trans c2;have hT:Ch.b0F m=Ch.sqT m.fr++Ch.sqT m.to++(if 0<m.promo∧m.promo<7 then Ch.a9G m.promo else []):=rfl
 generalize Ch.sqT m.fr=A at *;generalize Ch.sqT m.to=B at *;refine zR ?_;refine b7 _ (a0k (hM _ c12)) (zR ?_);apply E.b9<;>intro h
 ·have p0:=h;clear h;refine zR ?_;refine b7 _ (a0k (hM _ c12)) (zR ?_);apply E.b9<;>intro h
  ·have p7:m.promo<7:=h;clear h;rw [zM ⟨p0,p7⟩] at hT;have hL:g8 G.P w2 9 ⟨W0.heap.size,m.promo.toNat,none⟩ (m9 (Ch.a9G m.promo)):=by
    have hk:m.promo=1∨m.promo=2∨m.promo=3∨m.promo=4∨m.promo=5∨m.promo=6:=by omega
    have hr:=hr.step c2;rcases hk with e|e|e|e|e|e<;>rw [e]
    ·exact O5 hr D1 1 0 zd zd rfl rfl rfl
    ·exact O5 hr D1 2 0 zd zd rfl rfl rfl
    ·exact O5 hr D1 3 0 zd zd rfl rfl rfl
    ·exact O5 hr D1 4 0 zd zd rfl rfl rfl
    ·exact O5 hr D1 5 0 zd zd rfl rfl rfl
    ·exact O5 hr D1 6 0 zd zd rfl rfl rfl
   have hsl:(Ch.a9G m.promo).length≤1:=by
    unfold Ch.a9G;iterate 6 (split;· simp)
    simp
   refine zR ?_;refine b7 _ (a0k (hM _ c12)) (zR ?_);refine zC ?_;refine zR ?_;refine b7 (m9 (Ch.a9G m.promo)) ?_ ?_
   ·simpa [E.r9] using hL
   refine zR ?_;refine E.A8 (A5 (by simp only [zF];omega)) ?_
   rw [A9];refine zR ?_;exact ⟨F1 (by rw [hT]),hE _ c12⟩
  ·rw [zJ (by have:¬ m.promo<7:=h;omega),zn] at hT
   refine zR ?_;exact ⟨F1 (by rw [hT]),hE _ c12⟩
 ·rw [zJ zo,zn] at hT;refine zR ?_;exact ⟨F1 (by rw [hT]),hE _ c12⟩
end
section
open Go.Shelf
def Tryz.lays170_ren:Go.Shelf.Ren:=⟨fun|170=>154|n=>n,fun|70=>158|3=>3|0=>0|72=>160|37=>157|5=>5|n=>n,fun|n=>n⟩
theorem Tryz.lays170:Go.Proofs.Lays.n170 Tryz.prog Tryz.lays170_ren:={
 mixed:=by kernel_rfl
 f170:=func154.trans (yH some zk)
 t0:=underlying0
 a0:=isAgg0
 z0:=sizeOf0
 v0:=zeroValue0
 t3:=underlying3
 a3:=isAgg3
 z3:=sizeOf3
 v3:=zeroValue3
 t37:=underlying157
 a37:=isAgg157
 z37:=sizeOf157
 v37:=zeroValue157
 t70:=underlying158
 a70:=isAgg158
 z70:=sizeOf158
 v70:=zeroValue158
 t72:=underlying160
 a72:=isAgg160
 z72:=sizeOf160
 v72:=zeroValue160 }
open Go.RowKit in
theorem Tryz.Builder_Len (B b:Nat) (bs:List Value) (w:World) (h:Lib.IsBuilder 160 5 B b bs w) :
  Calls Tryz.prog 154 #[.pointer (some ⟨b,0,none⟩)] w fun e w'=>e = .returned (.int .i64 bs.length)∧w'=w:=Any.Builder_Len Tryz.lays170 B b bs w h
def Tryz.lays169_ren:Go.Shelf.Ren:=⟨fun|169=>124|n=>n,fun|70=>158|9=>9|0=>0|72=>160|37=>157|127=>221|3=>3|5=>5|n=>n,fun|n=>n⟩
theorem Tryz.lays169:Go.Proofs.Lays.n169 Tryz.prog Tryz.lays169_ren:={
 mixed:=by kernel_rfl
 f169:=func124.trans (yH some zk)
 t0:=underlying0
 a0:=isAgg0
 z0:=sizeOf0
 v0:=zeroValue0
 t3:=underlying3
 a3:=isAgg3
 z3:=sizeOf3
 v3:=zeroValue3
 t9:=underlying9
 a9:=isAgg9
 z9:=sizeOf9
 v9:=zeroValue9
 t37:=underlying157
 a37:=isAgg157
 z37:=sizeOf157
 v37:=zeroValue157
 t70:=underlying158
 a70:=isAgg158
 z70:=sizeOf158
 v70:=zeroValue158
 t72:=underlying160
 a72:=isAgg160
 z72:=sizeOf160
 v72:=zeroValue160
 t127:=underlying221
 a127:=isAgg221
 z127:=sizeOf221
 v127:=zeroValue221 }
theorem Tryz.Builder_Extra_169:Builder.Extra Tryz.prog Tryz.lays169_ren:={
 sizeBuilder:=by kernel_rfl
 liesBuilder:=by kernel_rfl
 t5:=underlying5
 a5:=isAgg5
 z5:=sizeOf5
 v5:=zeroValue5
 infoByte:=by kernel_rfl
 cellsByte:=by kernel_rfl
 sizeByte:=by kernel_rfl
 neB5:=by decide }
open Go.RowKit in
theorem Tryz.Builder_String_any (B b:Nat) (l:List UInt8) (w:World) (h:Lib.IsBuilder 160 5 B b (Lib.byteCells l) w) (hBw:B≤w.heap.size) :
  Calls Tryz.prog 124 #[.pointer (some ⟨b,0,none⟩)] w fun e w'=>e = .returned (.string ⟨l.toArray⟩)∧Below B w w':=Any.Builder_String_any Tryz.lays169 Tryz.Builder_Extra_169 B b l w h hBw
def Tryz.lays165_ren:Go.Shelf.Ren:=⟨fun|165=>159|240=>183|241=>211|276=>229|277=>260|n=>n,fun|70=>158|3=>3|0=>0|4=>4|9=>9|20=>20|72=>160|37=>157|164=>264|5=>5|n=>n,fun|n=>n⟩
theorem Tryz.lays165:Go.Proofs.Lays.n165 Tryz.prog Tryz.lays165_ren:={
 mixed:=by kernel_rfl
 f165:=func159.trans (yH some zk)
 f240:=func183.trans (yH some zk)
 f241:=func211.trans (yH some zk)
 f276:=func229.trans (yH some zk)
 f277:=func260.trans (yH some zk)
 t0:=underlying0
 a0:=isAgg0
 z0:=sizeOf0
 v0:=zeroValue0
 t3:=underlying3
 a3:=isAgg3
 z3:=sizeOf3
 v3:=zeroValue3
 t4:=underlying4
 a4:=isAgg4
 z4:=sizeOf4
 v4:=zeroValue4
 t9:=underlying9
 a9:=isAgg9
 z9:=sizeOf9
 v9:=zeroValue9
 t20:=underlying20
 a20:=isAgg20
 z20:=sizeOf20
 v20:=zeroValue20
 t37:=underlying157
 a37:=isAgg157
 z37:=sizeOf157
 v37:=zeroValue157
 t70:=underlying158
 a70:=isAgg158
 z70:=sizeOf158
 v70:=zeroValue158
 t72:=underlying160
 a72:=isAgg160
 z72:=sizeOf160
 v72:=zeroValue160
 t164:=underlying264
 a164:=isAgg264
 z164:=sizeOf264
 v164:=zeroValue264 }
theorem Tryz.Builder_Extra_165:Builder.Extra Tryz.prog Tryz.lays165_ren:={
 sizeBuilder:=by kernel_rfl
 liesBuilder:=by kernel_rfl
 t5:=underlying5
 a5:=isAgg5
 z5:=sizeOf5
 v5:=zeroValue5
 infoByte:=by kernel_rfl
 cellsByte:=by kernel_rfl
 sizeByte:=by kernel_rfl
 neB5:=by decide }
open Go.RowKit in
theorem Tryz.Builder_Grow_fresh (B b n:Nat) (w:World) (hB:B≤b) (hbk:w.heap[b]?=some (.cells #[.pointer none,.slice none 0 0] 160 (0,0))) (hBw:B≤w.heap.size) (hn:n≤281474976710656) :
  Calls Tryz.prog 159 #[.pointer (some ⟨b,0,none⟩),.int .i64 n] w fun e w'=>e = .returned (.tuple #[])∧(Lib.BuilderAt 160 5 B b (.pointer (some ⟨b,0,none⟩)) [] w'∧Below B w w'):=Any.Builder_Grow_fresh Tryz.lays165 Tryz.Builder_Extra_165 B b n w hB hbk hBw hn
def Tryz.laysM171_ren:Go.Shelf.Ren:=⟨fun|171=>169|243=>213|246=>261|283=>288|284=>289|285=>290|286=>291|129=>228|317=>305|318=>306|319=>307|320=>308|337=>315|338=>316|n=>n,fun|3=>3|9=>9|2=>2|4=>4|171=>329|0=>0|53=>234|37=>157|5=>5|173=>331|212=>354|51=>262|20=>20|213=>355|46=>52|232=>373|233=>374|n=>n,fun|17=>16|18=>20|19=>21|n=>n⟩
theorem Tryz.laysM171:Go.Proofs.LaysM.n171 Tryz.prog Tryz.laysM171_ren:={
 mixed:=by kernel_rfl
 f129:=func228.trans (yH some zk)
 f171:=func169.trans (yH some zk)
 f243:=func213.trans (yH some zk)
 f246:=func261.trans (yH some zk)
 f283:=func288.trans (yH some zk)
 f284:=func289.trans (yH some zk)
 f285:=func290.trans (yH some zk)
 f286:=func291.trans (yH some zk)
 f317:=func305.trans (yH some zk)
 f318:=func306.trans (yH some zk)
 f319:=func307.trans (yH some zk)
 f320:=func308.trans (yH some zk)
 f337:=func315.trans (yH some zk)
 f338:=func316.trans (yH some zk)
 t0:=underlying0
 a0:=isAgg0
 z0:=sizeOf0
 v0:=zeroValue0
 t2:=underlying2
 a2:=isAgg2
 z2:=sizeOf2
 v2:=zeroValue2
 t3:=underlying3
 a3:=isAgg3
 z3:=sizeOf3
 v3:=zeroValue3
 t4:=underlying4
 a4:=isAgg4
 z4:=sizeOf4
 v4:=zeroValue4
 t5:=underlying5
 a5:=isAgg5
 z5:=sizeOf5
 v5:=zeroValue5
 t9:=underlying9
 a9:=isAgg9
 z9:=sizeOf9
 v9:=zeroValue9
 t20:=underlying20
 a20:=isAgg20
 z20:=sizeOf20
 v20:=zeroValue20
 t37:=underlying157
 a37:=isAgg157
 z37:=sizeOf157
 v37:=zeroValue157
 t46:=underlying52
 a46:=isAgg52
 z46:=sizeOf52
 v46:=zeroValue52
 t51:=underlying262
 a51:=isAgg262
 z51:=sizeOf262
 v51:=zeroValue262
 t53:=underlying234
 a53:=isAgg234
 z53:=sizeOf234
 v53:=zeroValue234
 t171:=underlying329
 a171:=isAgg329
 z171:=sizeOf329
 v171:=zeroValue329
 t173:=underlying331
 a173:=isAgg331
 z173:=sizeOf331
 v173:=zeroValue331
 t212:=underlying354
 a212:=isAgg354
 z212:=sizeOf354
 v212:=zeroValue354
 t213:=underlying355
 a213:=isAgg355
 z213:=sizeOf355
 t232:=underlying373
 a232:=isAgg373
 z232:=sizeOf373
 v232:=zeroValue373
 t233:=underlying374
 a233:=isAgg374
 z233:=sizeOf374
 v233:=zeroValue374
 g17:=by kernel_rfl
 g18:=by kernel_rfl
 g19:=by kernel_rfl
 i0:=by kernel_rfl
 i2:=by kernel_rfl
 i3:=by kernel_rfl
 i4:=by kernel_rfl
 i5:=by kernel_rfl
 i9:=by kernel_rfl
 i20:=by kernel_rfl
 i37:=by kernel_rfl
 i46:=by kernel_rfl
 i51:=by kernel_rfl
 i53:=by kernel_rfl
 i171:=by kernel_rfl
 i173:=by kernel_rfl
 i212:=by kernel_rfl
 i232:=by kernel_rfl
 i233:=by kernel_rfl
 m17:=by kernel_rfl
 m18:=by kernel_rfl
 m19:=by kernel_rfl }
open Go.RowKit Go.Sort Go.Lib in
theorem Tryz.strconv_Itoa (n:Int) (h0:-9223372036854775808≤n) (h1:n≤9223372036854775807) (w:World) (htab:Lib.TabIs Tryz.prog w "internal/strconv.uint64pow10" .u64 Lib.pow10Tab) :
  Calls Tryz.prog 169 #[.int .i64 n] w fun e w'=>e = .returned (.string ⟨(Lib.itoa n).toArray⟩)∧∃ k os,w'=grow (w.drewN k) os:=Any.strconv_Itoa Tryz.laysM171 n h0 h1 w htab
open Go.RowKit Go.Sort Go.Lib in
def Tryz.lays240_ren:Go.Shelf.Ren:=⟨fun|240=>183|276=>229|n=>n,fun|70=>158|3=>3|0=>0|4=>4|9=>9|20=>20|72=>160|37=>157|164=>264|5=>5|75=>80|80=>109|n=>n,fun|n=>n⟩
theorem Tryz.lays240:Go.Proofs.Lays.n240 Tryz.prog Tryz.lays240_ren:={
 mixed:=by kernel_rfl
 f240:=func183.trans (yH some zk)
 f276:=func229.trans (yH some zk)
 t0:=underlying0
 a0:=isAgg0
 z0:=sizeOf0
 v0:=zeroValue0
 t4:=underlying4
 a4:=isAgg4
 z4:=sizeOf4
 v4:=zeroValue4
 t9:=underlying9
 a9:=isAgg9
 z9:=sizeOf9
 v9:=zeroValue9
 t20:=underlying20
 a20:=isAgg20
 z20:=sizeOf20
 v20:=zeroValue20
 t70:=underlying158
 a70:=isAgg158
 z70:=sizeOf158
 v70:=zeroValue158
 t72:=underlying160
 a72:=isAgg160
 z72:=sizeOf160
 v72:=zeroValue160
 t164:=underlying264
 a164:=isAgg264
 z164:=sizeOf264
 v164:=zeroValue264 }
theorem Tryz.Builder_Extra_240:Builder.Extra Tryz.prog Tryz.lays240_ren:={
 sizeBuilder:=by kernel_rfl
 liesBuilder:=by kernel_rfl
 t5:=underlying5
 a5:=isAgg5
 z5:=sizeOf5
 v5:=zeroValue5
 infoByte:=by kernel_rfl
 cellsByte:=by kernel_rfl
 sizeByte:=by kernel_rfl
 neB5:=by decide }
def Tryz.lays167_ren:Go.Shelf.Ren:=⟨fun|167=>207|240=>183|276=>229|n=>n,fun|70=>158|3=>3|0=>0|4=>4|9=>9|20=>20|72=>160|37=>157|164=>264|5=>5|75=>80|80=>109|n=>n,fun|n=>n⟩
theorem Tryz.lays167:Go.Proofs.Lays.n167 Tryz.prog Tryz.lays167_ren:={
 mixed:=by kernel_rfl
 f167:=func207.trans (yH some zk)
 f240:=func183.trans (yH some zk)
 f276:=func229.trans (yH some zk)
 t0:=underlying0
 a0:=isAgg0
 z0:=sizeOf0
 v0:=zeroValue0
 t4:=underlying4
 a4:=isAgg4
 z4:=sizeOf4
 v4:=zeroValue4
 t5:=underlying5
 a5:=isAgg5
 z5:=sizeOf5
 v5:=zeroValue5
 t9:=underlying9
 a9:=isAgg9
 z9:=sizeOf9
 v9:=zeroValue9
 t20:=underlying20
 a20:=isAgg20
 z20:=sizeOf20
 v20:=zeroValue20
 t37:=underlying157
 a37:=isAgg157
 z37:=sizeOf157
 v37:=zeroValue157
 t70:=underlying158
 a70:=isAgg158
 z70:=sizeOf158
 v70:=zeroValue158
 t72:=underlying160
 a72:=isAgg160
 z72:=sizeOf160
 v72:=zeroValue160
 t75:=underlying80
 a75:=isAgg80
 z75:=sizeOf80
 v75:=zeroValue80
 t164:=underlying264
 a164:=isAgg264
 z164:=sizeOf264
 v164:=zeroValue264 }
theorem Tryz.Builder_Extra_167:Builder.Extra Tryz.prog Tryz.lays167_ren:={
 sizeBuilder:=by kernel_rfl
 liesBuilder:=by kernel_rfl
 t5:=underlying5
 a5:=isAgg5
 z5:=sizeOf5
 v5:=zeroValue5
 infoByte:=by kernel_rfl
 cellsByte:=by kernel_rfl
 sizeByte:=by kernel_rfl
 neB5:=by decide }
def Tryz.lays166_ren:Go.Shelf.Ren:=⟨fun|166=>118|240=>183|276=>229|n=>n,fun|70=>158|3=>3|0=>0|4=>4|9=>9|20=>20|72=>160|37=>157|164=>264|5=>5|75=>80|80=>109|n=>n,fun|n=>n⟩
theorem Tryz.lays166:Go.Proofs.Lays.n166 Tryz.prog Tryz.lays166_ren:={
 mixed:=by kernel_rfl
 f166:=func118.trans (yH some zk)
 f240:=func183.trans (yH some zk)
 f276:=func229.trans (yH some zk)
 t0:=underlying0
 a0:=isAgg0
 z0:=sizeOf0
 v0:=zeroValue0
 t3:=underlying3
 a3:=isAgg3
 z3:=sizeOf3
 v3:=zeroValue3
 t4:=underlying4
 a4:=isAgg4
 z4:=sizeOf4
 v4:=zeroValue4
 t9:=underlying9
 a9:=isAgg9
 z9:=sizeOf9
 v9:=zeroValue9
 t20:=underlying20
 a20:=isAgg20
 z20:=sizeOf20
 v20:=zeroValue20
 t37:=underlying157
 a37:=isAgg157
 z37:=sizeOf157
 v37:=zeroValue157
 t70:=underlying158
 a70:=isAgg158
 z70:=sizeOf158
 v70:=zeroValue158
 t72:=underlying160
 a72:=isAgg160
 z72:=sizeOf160
 v72:=zeroValue160
 t75:=underlying80
 a75:=isAgg80
 z75:=sizeOf80
 v75:=zeroValue80
 t164:=underlying264
 a164:=isAgg264
 z164:=sizeOf264
 v164:=zeroValue264 }
theorem Tryz.Builder_Extra_166:Builder.Extra Tryz.prog Tryz.lays166_ren:={
 sizeBuilder:=by kernel_rfl
 liesBuilder:=by kernel_rfl
 t5:=underlying5
 a5:=isAgg5
 z5:=sizeOf5
 v5:=zeroValue5
 infoByte:=by kernel_rfl
 cellsByte:=by kernel_rfl
 sizeByte:=by kernel_rfl
 neB5:=by decide }
open Go.RowKit
theorem Tryz.Builder_WriteByte (B b:Nat) (bs:List Value) (c:Int) (w:World) (h:Lib.IsBuilder 160 5 B b bs w) (hlen:bs.length+1≤140737488355328) (hBw:B≤w.heap.size) :
  Calls Tryz.prog 207 #[.pointer (some ⟨b,0,none⟩),.int .u8 c] w fun e w'=>e = .returned .nilIface∧(Lib.BuilderAt 160 5 B b (.pointer (some ⟨b,0,none⟩)) (bs++[.int .u8 c]) w'∧Below B w w'):=Any.Builder_WriteByte Tryz.lays167 Tryz.Builder_Extra_167 B b bs c w h hlen hBw
theorem Tryz.Builder_WriteString (B b:Nat) (bs:List Value) (s:ByteArray) (w:World) (h:Lib.IsBuilder 160 5 B b bs w) (hlen:bs.length+s.size≤140737488355328) (hBw:B≤w.heap.size) :
  Calls Tryz.prog 118 #[.pointer (some ⟨b,0,none⟩),.string s] w fun e w'=>e = .returned (.tuple #[.int .i64 s.size,.nilIface])∧(Lib.BuilderAt 160 5 B b (.pointer (some ⟨b,0,none⟩)) (bs++Lib.strCells s) w'∧Below B w w'):=Any.Builder_WriteString Tryz.lays166 Tryz.Builder_Extra_166 B b bs s w h hlen hBw
end
section
open Go Go.RowKit
open E
def b8m (body:C8→World→(Exit→C8→World→Prop)→Prop) (Q:Exit→C8→World→Prop):Nat→C8→World→Prop
 | 0,_,_=>False
 | k+1,e,w=>body e w (b01 (fun e2 w2=>b8m body Q k e2 w2) Q)
theorem a8u {body:Code} {e:C8} {w:World} {Q:Exit→C8→World→Prop} (k:Nat) (h:b8m (fun e w Q=>vc G body e w Q) Q k e w):a92 (fun e w Q=>vc G body e w Q) e w Q:=by
 refine ⟨fun n e1 w1=>b8m (fun e w Q=>vc G body e w Q) Q n e1 w1,k,h,?_⟩;intro n e1 w1 h1;cases n with
 | zero=>exact h1.elim
 | succ n =>
  refine a7W body e1 w1 _ _ ?_ h1;intro x e' w' _ hx;cases x<;>first
   | exact ⟨n,Nat.lt_succ_self _,hx⟩
   | exact hx
structure Bld (w0:World) (b:Nat) (l:Tx) (w:World):Prop where
 is:Lib.IsBuilder 160 5 w0.heap.size b (Lib.byteCells l) w
 cl:Cl w0 w
section bld
variable {w0 w w':World} {b:Nat} {l:Tx}
theorem b4W {T e:TypeId} {B b:Nat} {p:Value} {bs:List Value} (h:Lib.BuilderAt T e B b p bs w) (c:Cl w w'):Lib.BuilderAt T e B b p bs w':=by
 obtain ⟨h1,v,h2,h3,h4⟩:=h;refine ⟨h1,v,c.blk h2,⟨h3.1,?_⟩,h4⟩;rcases h3.2 with h5|⟨g,cap,cur,e1,e2,e3,e4⟩
 ·exact .inl h5
 ·exact .inr ⟨g,cap,cur,e1,e2,c.blk e3,e4⟩
theorem Bld.step (h:Bld w0 b l w) (c:Cl w w'):Bld w0 b l w' :=
 ⟨h.is.elim (fun h=>.inl (b4W h c)) (fun h=>.inr (b4W h c)),h.cl.trans c⟩
theorem Bld.new (w:World):Bld w w.heap.size [] (w.alloc (.cells #[.pointer none,.slice none 0 0] 160)) :=
 ⟨.inl ⟨yJ _,.slice none 0 0,d9 _ _,⟨rfl,.inl ⟨rfl,rfl⟩⟩,by simp [Value.ownBlock]⟩,Cl.alloc _ _⟩
theorem Bld.below (h:Cl w0 w) (c:Below w0.heap.size w w'):Cl w0 w':=Below.trans h c
theorem b8n (n:Nat) (hn:n≤1000000) (hc:Cl w0 w) (hb:w0.heap.size≤b) (hk:w.heap[b]?=some (.cells #[.pointer none,.slice none 0 0] 160 (0,0))) :
  Calls G.P 159 #[.pointer (some ⟨b,0,none⟩),.int .i64 n] w (fun r w'=>r = .returned (.tuple #[])∧Bld w0 b [] w'):=by
 refine (Tryz.Builder_Grow_fresh w0.heap.size b n w hb hk hc.size zo).mono ?_;rintro r w' ⟨h1,h2,h3⟩;exact ⟨h1,.inr h2,Bld.below hc h3⟩
theorem a2b (c:UInt8) (h:Bld w0 b l w) (hl:l.length<1000000) :
  Calls G.P 207 #[.pointer (some ⟨b,0,none⟩),.int .u8 c.toNat] w (fun r w'=>r = .returned .nilIface∧Bld w0 b (l++[c]) w'):=by
 refine (Tryz.Builder_WriteByte w0.heap.size b _ c.toNat w h.is (by rw [Lib.byteCells_length];omega) h.cl.size).mono ?_
 rintro r w' ⟨h1,h2,h3⟩;refine ⟨h1,.inr ?_,Bld.below h.cl h3⟩;rw [Lib.byteCells_append];exact h2
theorem E4 (s:Tx) (h:Bld w0 b l w) (hl:l.length<1000000) (hs:s.length<1000000) :
  Calls G.P 118 #[.pointer (some ⟨b,0,none⟩),.string (tx s)] w (fun r w'=>r = .returned (.tuple #[.int .i64 s.length,.nilIface])∧Bld w0 b (l++s) w'):=by
 refine (Tryz.Builder_WriteString w0.heap.size b _ (tx s) w h.is (by rw [Lib.byteCells_length,C5];omega) h.cl.size).mono ?_
 rintro r w' ⟨h1,h2,h3⟩;refine ⟨by rw [h1,C5],.inr ?_,Bld.below h.cl h3⟩
 rw [Lib.byteCells_append];exact h2
theorem a3B (h:Bld w0 b l w) :
  Calls G.P 124 #[.pointer (some ⟨b,0,none⟩)] w (fun r w'=>r = .returned (m9 l)∧Cl w0 w'):=by
 refine (Tryz.Builder_String_any w0.heap.size b l w h.is h.cl.size).mono ?_;rintro r w' ⟨h1,h3⟩;exact ⟨h1,Bld.below h.cl h3⟩
theorem c2l (h:Bld w0 b l w) :
  Calls G.P 154 #[.pointer (some ⟨b,0,none⟩)] w (E5 (.int .i64 l.length) w):=by
 refine (Tryz.Builder_Len w0.heap.size b _ w h.is).mono ?_;rintro r w' ⟨h1,h3⟩;exact ⟨by rw [h1,Lib.byteCells_length],h3⟩
end bld
theorem b8o:(G.P.info? 160).bind (·.zero)=some (.agg #[.pointer none,.slice none 0 0]):=by kernel_rfl
theorem a9M (c:UInt8) (hc:c=107∨c=113) (w:World):Calls G.P 214 #[m9 [c]] w (N2 (m9 [c-32]) w):=by
 rcases hc with rfl|rfl
 ·refine zN func214 ?_;refine zR ?_;refine a8u 2 (zR ?_);refine v8 _ b8o (zR ?_);refine o7 (b8n 1 zd (Cl.alloc w (.cells (Value.agg #[.pointer none,.slice none 0 0]).cells 160)) (yJ _) (d9 _ _)) ?_;rintro r w1 ⟨rfl,h1⟩;refine ⟨_,rfl,zR ?_⟩;refine a8u 2 (zR ?_);refine o7 (a2b (l:=[]) 75 h1 zd) ?_;rintro r w2 ⟨rfl,h2⟩;refine ⟨_,rfl,zR ?_⟩;refine o7 (a3B h2) ?_;rintro r w3 ⟨rfl,c3⟩;refine ⟨_,rfl,zR ?_⟩;exact ⟨rfl,c3⟩
 ·refine zN func214 ?_;refine zR ?_;refine a8u 2 (zR ?_);refine v8 _ b8o (zR ?_);refine o7 (b8n 1 zd (Cl.alloc w (.cells (Value.agg #[.pointer none,.slice none 0 0]).cells 160)) (yJ _) (d9 _ _)) ?_;rintro r w1 ⟨rfl,h1⟩;refine ⟨_,rfl,zR ?_⟩;refine a8u 2 (zR ?_);refine o7 (a2b (l:=[]) 81 h1 zd) ?_;rintro r w2 ⟨rfl,h2⟩;refine ⟨_,rfl,zR ?_⟩;refine o7 (a3B h2) ?_;rintro r w3 ⟨rfl,c3⟩;refine ⟨_,rfl,zR ?_⟩;exact ⟨rfl,c3⟩
theorem b0J {n:Nat} (h:n<2^64):IntKind.u64.wrap (n:Int)=n:=by
 simp [IntKind.wrap,IntKind.bits,IntKind.signed];omega
theorem b4X (n:Nat):IntKind.u64.wrap (n:Int)=((n%2^64:Nat):Int):=by
 simp [IntKind.wrap,IntKind.bits,IntKind.signed]
theorem a1v {n:Nat} (h:n<2^64):(BitVec.ofInt 64 (n:Int)).toNat=n:=by
 rw [BitVec.ofInt_natCast,BitVec.toNat_ofNat,xq h]
theorem c2Y {a b:Nat} {K:Int→Prop} (ha:a<2^64) (hb:b<2^64) (h:K ((a &&& b:Nat):Int)):∀ r:Int,r=a02 .and .u64 a b→K r:=by
 intro r hr;have e:a02 .and .u64 a b=((a &&& b:Nat):Int):=by
  show IntKind.u64.wrap ((BitVec.ofInt 64 (a:Int) &&& BitVec.ofInt 64 (b:Int)).toNat:Int)=_;rw [BitVec.toNat_and,a1v ha,a1v hb,b0J (yn _ hb)]
 rw [hr,e];exact h
theorem bOr {a b:Nat} {K:Int→Prop} (ha:a<2^64) (hb:b<2^64) (h:K ((a ||| b:Nat):Int)):∀ r:Int,r=a02 .or .u64 a b→K r:=by
 intro r hr;have e:a02 .or .u64 a b=((a ||| b:Nat):Int):=by
  show IntKind.u64.wrap ((BitVec.ofInt 64 (a:Int) ||| BitVec.ofInt 64 (b:Int)).toNat:Int)=_
  rw [BitVec.toNat_or,a1v ha,a1v hb,b0J (yq ha hb)]
 rw [hr,e];exact h
theorem c4w {a b:Nat} {K:Int→Prop} (ha:a<2^64) (hb:b<2^64) (h:K ((a ^^^ b:Nat):Int)):∀ r:Int,r=a02 .xor .u64 a b→K r:=by
 intro r hr;have e:a02 .xor .u64 a b=((a ^^^ b:Nat):Int):=by
  show IntKind.u64.wrap ((BitVec.ofInt 64 (a:Int) ^^^ BitVec.ofInt 64 (b:Int)).toNat:Int)=_;rw [BitVec.toNat_xor,a1v ha,a1v hb,b0J (Nat.xor_lt_two_pow ha hb)]
 rw [hr,e];exact h
theorem c57 {a:Nat} {K:Int→Prop} (ha:a<2^64) (h:K ((Bb.not a:Nat):Int)):∀ r:Int,r=a02 .xor .u64 (if IntKind.u64.signed then -1 else IntKind.u64.max) a→K r:=by
 intro r hr;have e:(if IntKind.u64.signed then -1 else IntKind.u64.max)=((2^64-1:Nat):Int):=by decide
 rw [e] at hr;refine c4w (K:=K) zd ha ?_ r hr;rw [Nat.xor_comm];exact h
theorem c2Z {a:Nat} {k:Nat} {K:Int→Prop} (hk:k<64) (h:K ((Ch.shl a k:Nat):Int)):∀ r:Int,r=IntKind.u64.wrap ((a:Int)*2^(min (Int.toNat (k:Int)) IntKind.u64.bits))→K r:=by
 intro r hr;have e:(a:Int)*2^(min (Int.toNat (k:Int)) IntKind.u64.bits)=((a <<< k:Nat):Int):=by
  rw [show min (Int.toNat (k:Int)) IntKind.u64.bits=k by show min _ 64=k;rw [zg];omega,Nat.shiftLeft_eq]
  push_cast;rfl
 rw [hr,e,b4X];exact h
theorem c4x {a:Nat} {k:Nat} {K:Int→Prop} (hk:k≤64) (h:K ((a >>> k:Nat):Int)):∀ r:Int,r=Int.fdiv (a:Int) (2^(min (Int.toNat (k:Int)) IntKind.u64.bits))→K r:=by
 intro r hr;have e:Int.fdiv (a:Int) (2^(min (Int.toNat (k:Int)) IntKind.u64.bits))=((a >>> k:Nat):Int):=by
  rw [show min (Int.toNat (k:Int)) IntKind.u64.bits=k by show min _ 64=k;rw [zg];omega,Nat.shiftRight_eq_div_pow]
  rw [show (2:Int)^k=((2^k:Nat):Int) by push_cast;rfl]
  rw [Int.fdiv_eq_ediv_of_nonneg _ (Int.natCast_nonneg _)];rfl
 rw [hr,e];exact h
theorem b4Y {a b:Nat} (ha:a<2^64) (hb:b<2^64):IntKind.u64.wrap ((a:Int)-b)=((Bb.sub a b:Nat):Int):=by
 unfold Bb.sub;rw [xq hb];simp [IntKind.wrap,IntKind.bits,IntKind.signed];omega
theorem b4Z (a:Nat):IntKind.u64.wrap (2*(a:Int))=((2*a%2^64:Nat):Int):=by
 rw [← b4X];push_cast;rfl
class G9 (a:Nat):Prop where
 lt:a<2^64
theorem G9.of {a:Nat} [h:G9 a]:a<2^64:=h.lt
instance:G9 0:=⟨zd⟩
instance:G9 1:=⟨zd⟩
instance:G9 63:=⟨zd⟩
instance:G9 6148914691236517205:=⟨zd⟩
instance:G9 3689348814741910323:=⟨zd⟩
instance:G9 1085102592571150095:=⟨zd⟩
instance:G9 71777214294589695:=⟨zd⟩
instance:G9 281470681808895:=⟨zd⟩
instance:G9 18374403900871474942:=⟨zd⟩
instance:G9 72057594037927935:=⟨zd⟩
instance:G9 9187201950435737471:=⟨zd⟩
instance:G9 18446744073709551360:=⟨zd⟩
instance:G9 280375465082880:=⟨zd⟩
instance:G9 16711680:=⟨zd⟩
instance:G9 71776119061217280:=⟨zd⟩
instance:G9 1095216660480:=⟨zd⟩
instance:G9 4278190080:=⟨zd⟩
instance:G9 65280:=⟨zd⟩
class Sh (k:Nat):Prop where
 le:k≤63
instance:Sh 1:=⟨zd⟩
instance:Sh 2:=⟨zd⟩
instance:Sh 4:=⟨zd⟩
instance:Sh 7:=⟨zd⟩
instance:Sh 8:=⟨zd⟩
instance:Sh 9:=⟨zd⟩
instance:Sh 16:=⟨zd⟩
instance:Sh 32:=⟨zd⟩
instance andL {a b:Nat} [h:G9 a]:G9 (a &&& b):=⟨xu Nat.and_le_left h.lt⟩
instance andR {a b:Nat} [h:G9 b]:G9 (a &&& b):=⟨yn _ h.lt⟩
instance {a b:Nat} [h:G9 a] [h':G9 b]:G9 (a ||| b):=⟨yq h.lt h'.lt⟩
instance {a b:Nat} [h:G9 a] [h':G9 b]:G9 (a ^^^ b):=⟨Nat.xor_lt_two_pow h.lt h'.lt⟩
instance {a:Nat} [h:G9 a]:G9 (Bb.not a):=⟨Bb.not_lt h.lt⟩
instance {a k:Nat}:G9 (Ch.shl a k):=⟨Ch.a8h a k⟩
instance {a k:Nat} [h:G9 a]:G9 (a >>> k):=⟨Ch.b7M k h.lt⟩
instance {a b:Nat}:G9 (Bb.sub a b):=⟨Nat.mod_lt _ zd⟩
instance {a:Nat}:G9 (2*a%2^64):=⟨Nat.mod_lt _ zd⟩
instance {s:Nat}:G9 (Bb.D6 s):=⟨Bb.a3y s⟩
instance {f:Nat→Bool}:G9 (Bb.bb f):=⟨Bb.P4 f⟩
theorem bA {a b:Nat} {K:Int→Prop} [ha:G9 a] [hb:G9 b] (h:K ((a &&& b:Nat):Int)):∀ r:Int,r=a02 .and .u64 a b→K r:=c2Y ha.lt hb.lt h
theorem bO {a b:Nat} {K:Int→Prop} [ha:G9 a] [hb:G9 b] (h:K ((a ||| b:Nat):Int)):∀ r:Int,r=a02 .or .u64 a b→K r:=bOr ha.lt hb.lt h
theorem bX {a b:Nat} {K:Int→Prop} [ha:G9 a] [hb:G9 b] (h:K ((a ^^^ b:Nat):Int)):∀ r:Int,r=a02 .xor .u64 a b→K r:=c4w ha.lt hb.lt h
theorem bN {a:Nat} {K:Int→Prop} [ha:G9 a] (h:K ((Bb.not a:Nat):Int)):∀ r:Int,r=a02 .xor .u64 (if IntKind.u64.signed then -1 else IntKind.u64.max) a→K r:=c57 ha.lt h
theorem bB {a n:Nat} {K:Int→Prop} [ha:G9 a] [hb:G9 (OfNat.ofNat n)] (h:K ((a &&& OfNat.ofNat n:Nat):Int)):∀ r:Int,r=a02 .and .u64 a (OfNat.ofNat n)→K r:=c2Y ha.lt hb.lt h
theorem bL {a n:Nat} {K:Int→Prop} [hk:Sh (OfNat.ofNat n)] (h:K ((Ch.shl a (OfNat.ofNat n):Nat):Int)):∀ r:Int,r=IntKind.u64.wrap ((a:Int)*2^(min (Int.toNat (OfNat.ofNat n)) IntKind.u64.bits))→K r:=c2Z (k:=OfNat.ofNat n) (by have:=hk.le;omega) h
theorem bR {a n:Nat} {K:Int→Prop} [hk:Sh (OfNat.ofNat n)] (h:K ((a >>> (OfNat.ofNat n:Nat):Nat):Int)):∀ r:Int,r=Int.fdiv (a:Int) (2^(min (Int.toNat (OfNat.ofNat n)) IntKind.u64.bits))→K r:=c4x (k:=OfNat.ofNat n) (by have:=hk.le;omega) h
theorem b0K {a b:Nat} (h:b<2^64):a &&& b<2^64:=yn _ h
theorem b8p {a b:Nat} (h:a<2^64) (h':b<2^64):a ||| b<2^64:=yq h h'
theorem b8q (a:Nat):2*a%2^64<2^64:=Nat.mod_lt _ zd
theorem zI {A B:Prop} (h:B) (e:B→A:=by (intro h;(with_reducible first|refine bA ?_|refine bB ?_|refine bO ?_|refine bX ?_|refine bN ?_|refine bL ?_|refine bR ?_);exact h)):A:=e h
theorem zS {A B:Prop} (h:B) (e:B→A:=by (intro h;((repeat ((refine zR ?_);(with_reducible first|refine bA ?_|refine bB ?_|refine bO ?_|refine bX ?_|refine bN ?_|refine bL ?_|refine bR ?_)));refine zR ?_);exact h)):A:=e h
theorem a4g {x:Nat} (k m:Nat) (hm:m<2^64):G9 (Bb.a0g x k m):=⟨b8p (b0K hm) (Ch.a8h _ _)⟩
instance rev_lt {x:Nat}:G9 (Bb.rev x):=⟨b8p (Ch.b7M _ (a4g _ _ zd).lt) (Ch.a8h _ _)⟩
theorem a6l (x V:Nat) [hx:G9 x] (hV:V=((Bb.a0g (Bb.a0g x 8 71777214294589695) 16 281470681808895) >>> 32 ||| Ch.shl (Bb.a0g (Bb.a0g x 8 71777214294589695) 16 281470681808895) 32)) (w:World):Calls G.P 320 #[.int .u64 x] w (E5 (.int .u64 V) w):=by
 refine zN func320 ?_;(iterate 5 ((refine zR ?_);refine zI ?_))
 rw [show ((x >>> 8 &&& 71777214294589695) ||| Ch.shl (x &&& 71777214294589695) 8)=Bb.a0g x 8 71777214294589695 from rfl]
 have hy:=a4g (x:=x) 8 71777214294589695 zd;generalize Bb.a0g x 8 71777214294589695=y at *;(iterate 5 ((refine zR ?_);refine zI ?_))
 rw [show ((y >>> 16 &&& 281470681808895) ||| Ch.shl (y &&& 281470681808895) 16)=Bb.a0g y 16 281470681808895 from rfl]
 have hz:=a4g (x:=y) 16 281470681808895 zd;generalize Bb.a0g y 16 281470681808895=z at *;refine zS ?_;subst hV;exact ⟨rfl,rfl⟩
theorem c3a (x:Nat):Bb.rev x=((Bb.a0g (Bb.a0g (Bb.a0g (Bb.a0g (Bb.a0g x 1 6148914691236517205) 2 3689348814741910323) 4 1085102592571150095) 8 71777214294589695) 16 281470681808895) >>> 32 ||| Ch.shl (Bb.a0g (Bb.a0g (Bb.a0g (Bb.a0g (Bb.a0g x 1 6148914691236517205) 2 3689348814741910323) 4 1085102592571150095) 8 71777214294589695) 16 281470681808895) 32):=rfl
theorem b1T (x:Nat) [hx:G9 x] (w:World):Calls G.P 314 #[.int .u64 x] w (E5 (.int .u64 (Bb.rev x)) w):=by
 have hV:=c3a x;generalize Bb.rev x=V at *;refine zN func314 ?_;(iterate 5 ((refine zR ?_);refine zI ?_))
 rw [show ((x >>> 1 &&& 6148914691236517205) ||| Ch.shl (x &&& 6148914691236517205) 1)=Bb.a0g x 1 6148914691236517205 from rfl]
 have hy:=a4g (x:=x) 1 6148914691236517205 zd;generalize Bb.a0g x 1 6148914691236517205=y at *;(iterate 5 ((refine zR ?_);refine zI ?_))
 rw [show ((y >>> 2 &&& 3689348814741910323) ||| Ch.shl (y &&& 3689348814741910323) 2)=Bb.a0g y 2 3689348814741910323 from rfl]
 have hz:=a4g (x:=y) 2 3689348814741910323 zd;generalize Bb.a0g y 2 3689348814741910323=z at *;(iterate 5 ((refine zR ?_);refine zI ?_))
 rw [show ((z >>> 4 &&& 1085102592571150095) ||| Ch.shl (z &&& 1085102592571150095) 4)=Bb.a0g z 4 1085102592571150095 from rfl]
 have hu:=a4g (x:=z) 4 1085102592571150095 zd;generalize Bb.a0g z 4 1085102592571150095=u at *;have c1:=fun w=>a6l u V hV w;clear hV;refine zR ?_;refine l8 (c1 _) (zR ?_);exact ⟨rfl,rfl⟩
theorem a6m (x:Nat) [hx:G9 x] (w:World):Calls G.P 304 #[.int .u64 x] w (E5 (.int .u64 (Bb.rev x)) w):=by
 refine zN func304 ?_;refine zR ?_;refine l8 (b1T x _) ?_;generalize Bb.rev x=r;refine zR ?_;exact ⟨rfl,rfl⟩
theorem a0p (o p m:Nat) [ho:G9 o] [hp:G9 p] [hm:G9 m] (w:World):Calls G.P 283 #[.int .u64 o,.int .u64 p,.int .u64 m] w (E5 (.int .u64 (Bb.lin o p m)) w):=by
 have hL:Bb.lin o p m=((Bb.sub (o &&& m) (2*p%2^64)) ^^^ Bb.rev (Bb.sub (Bb.rev (o &&& m)) (2*Bb.rev p%2^64))) &&& m:=rfl;have c1:=fun w=>a6m (o &&& m) w;have c2:=fun w=>a6m p w;have r1:G9 (Bb.rev (o &&& m)):=rev_lt;have r2:G9 (Bb.rev p):=rev_lt;rw [hL];generalize Bb.rev (o &&& m)=R1 at *;generalize Bb.rev p=R2 at *;have e1:=b4Z p;have e2:=b4Z R2;have e3:=b4Y (a:=o &&& m) (b0K hm.lt) (b8q p);have e4:=b4Y r1.lt (b8q R2);have c3:=fun w=>a6m (Bb.sub R1 (2*R2%2^64)) w;have r3:G9 (Bb.rev (Bb.sub R1 (2*R2%2^64))):=rev_lt;generalize Bb.rev (Bb.sub R1 (2*R2%2^64))=R3 at *;refine zN func283 ?_;refine zS ?_;simp only [e1,e3];refine l8 (c1 _) (zR ?_);refine l8 (c2 _) (zR ?_);simp only [e2,e4];refine l8 (c3 _) ?_;have s1:G9 (Bb.sub (o &&& m) (2*p%2^64)):=inferInstance;generalize Bb.sub (o &&& m) (2*p%2^64)=S1 at *;refine zS ?_;exact ⟨rfl,rfl⟩
end
