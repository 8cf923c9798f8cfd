/- One part of the proof: Sp16 Sp17 Sp18 Sp19 Sp20 Sp21 Shl Pk12 Bw Pk1. -/
import Derived.Laws.Strings2
import Derived.Laws.Small
import Derived.Laws.IdiomStrings
import Derived.Shelf.Strings.Builder1
import Derived.Shelf.Strings.Builder2
import Derived.Shelf.LaysM
import Derived.Shelf.Strconv.Itoa2
import Derived.Shelf.Strconv.Itoa3
import Derived.Test.YtpclhlhcegcflaaGreatDoorM6
namespace Go.Proofs.YtpclhlhcegcflaaGreatDoor
open Go.Proofs.Tryz
set_option maxRecDepth 100000
set_option linter.unusedSimpArgs false
set_option linter.unusedVariables false
section
open Go Go.RowKit
open E
def a8P (p:g9) (i:Nat):Bool:=decide (Ch.a0B (Ch.sq p i)=2)||decide (Ch.a0B (Ch.sq p i)=3)||decide (Ch.a0B (Ch.sq p i)=6)
def c3h (p:g9) (n:Nat):Nat:=Ch.a67 (fun i=>decide (Ch.a0B (Ch.sq p i)=5)) n
def bsTo (p:g9) (c:Int) (n:Nat):Nat:=Ch.a67 (fun i=>decide (Ch.a0B (Ch.sq p i)=4)&&decide ((Ch.o5 i+Ch.l8 i)%2=c)) n
theorem b5Q (p:g9):Ch.a4T p=if Ch.b30 (a8P p) 64 then false else if 0<c3h p 64 then decide (c3h p 64=1)&&decide (bsTo p 0 64+bsTo p 1 64=0) else decide (bsTo p 0 64=0)||decide (bsTo p 1 64=0):=rfl
theorem c5o:(G.P.info? 180).bind (·.zero)=some (.agg #[.int .i64 0,.int .i64 0]):=by kernel_rfl
theorem c3O (p:g9) (hp:Pc p) (w:World):Calls G.P 90 #[F5 p] w (N0 (.bool (Ch.a4T p)) w):=by
 refine zN func90 ?_;refine zG ?_;refine zR ?_;generalize hW:w.alloc (.cells (t8 p) 24)=W0;have hP:∀ w',Cl W0 w'→w'.heap[w.heap.size]?=some (.cells (t8 p) 24 (0,0)):=fun w' h=>(hW▸h:Cl (w.alloc (.cells (t8 p) 24)) w').blk (d8 _ _);have hE:∀ w',Cl W0 w'→Cl w w':=fun w' h=>(Cl.alloc _ _).trans (hW▸h);refine zR ?_;refine s7 _ c5o ?_;have hb0:(W0.alloc (.cells #[.int .i64 0,.int .i64 0] 180)).heap[W0.heap.size]?=some (.cells #[.int .i64 0,.int .i64 0] 180 (0,0)):=d8 _ _;have c1:=Cl.alloc W0 (.cells #[.int .i64 0,.int .i64 0] 180);simp only [Value.cells];generalize W0.alloc (.cells #[.int .i64 0,.int .i64 0] 180)=w1 at *;refine zR ?_;refine C1 (σ:=Nat) [2,3,5] 6 (fun a=>[(3,.int .i64 (c3h p a)),(5,.int .i64 a)]) (fun a w'=>a≤64∧Ch.b30 (a8P p) a=false∧w'.heap[W0.heap.size]?=some (.cells #[.int .i64 (bsTo p 0 a),.int .i64 (bsTo p 1 a)] 180 (0,0))∧Cl W0 w') (fun a=>64-a) zk 0
  ⟨zo,rfl,hb0,c1⟩ ⟨rfl,rfl,trivial⟩ ?_
 rintro i j w2 ⟨hi,hno,hblk,hcl⟩;have hkn:c3h p i≤64:=zw (Ch.b1n _ _) hi;have hbs:∀ c,bsTo p c i≤64:=fun c=>zw (Ch.b1n _ _) hi;refine zR ?_;apply E.d7<;>intro h
 ·have hi64:i<64:=by omega
  clear h;have ni:IntKind.i64.wrap ((i:Int)+1)=((i+1:Nat):Int):=by rw [g8 zo zo];push_cast;omega
  have a1:Ch.b30 (a8P p) (i+1)=(Ch.b30 (a8P p) i||(decide (Ch.a0B (Ch.sq p i)=2)||decide (Ch.a0B (Ch.sq p i)=3)||decide (Ch.a0B (Ch.sq p i)=6))):=rfl
  have a2:c3h p (i+1)=c3h p i+(if decide (Ch.a0B (Ch.sq p i)=5)=true then 1 else 0):=rfl
  have a3:∀ c,bsTo p c (i+1)=bsTo p c i+(if (decide (Ch.a0B (Ch.sq p i)=4)&&decide ((Ch.o5 i+Ch.l8 i)%2=c))=true then 1 else 0):=fun c=>rfl
  have hbig:a8P p i=true→Ch.a4T p=false:=fun h=>by
   rw [b5Q,zM (Ch.a4s (i:=i) hi64 h)]
  unfold a8P at hbig;refine zR ?_;refine zC ?_;refine zR ?_;refine b7 _ (P5 (hP _ hcl) _ zo zo) (zR ?_);refine g7 (O5 _ _ (Pc.lo hp _) (Pc.hi hp _)) ?_;generalize Ch.a0B (Ch.sq p i)=k at *;have fin:(k=2∨k=3∨k=6)→Ch.a4T p=false:=fun h=>hbig (by rcases h with rfl|rfl|rfl<;>rfl)
  refine zR ?_;apply E.d7<;>intro h
  ·subst h;refine zR ?_;exact ⟨p8 (fin (.inl rfl)).symm,hE _ hcl⟩
  have k2:=h;clear h;refine zR ?_;apply E.d7<;>intro h
  ·subst h;refine zR ?_;exact ⟨p8 (fin (.inr (.inl rfl))).symm,hE _ hcl⟩
  have k3:=h;clear h;refine zR ?_;apply E.d7<;>intro h
  ·subst h;refine zR ?_;exact ⟨p8 (fin (.inr (.inr rfl))).symm,hE _ hcl⟩
  have k6:=h;clear h;have hno':(Ch.b30 (a8P p) i||(decide (k=2)||decide (k=3)||decide (k=6)))=false:=by rw [hno];simp [k2,k3,k6]
  refine zR ?_;apply E.d7<;>intro h
  ·subst h;refine zR ?_;refine ⟨i+1,⟨d9 ?_,d9 ni,trivial⟩,⟨zo,by rw [a1];exact hno',?_,hcl⟩,zo⟩
   ·rw [g8 zo zo,a2];simp
   ·rw [a3,a3];simpa using hblk
  have k5:=h;clear h;have hkn1:c3h p (i+1)=c3h p i:=by rw [a2];simp [k5]
  refine zR ?_;apply E.d7<;>intro h
  ·subst h;have fr:0≤Ch.o5 i∧Ch.o5 i≤7∧0≤Ch.l8 i∧Ch.l8 i≤7:=by unfold Ch.o5 Ch.l8;omega
   have m1:IntKind.i64.wrap (Ch.o5 i+Ch.l8 i)=Ch.o5 i+Ch.l8 i:=g8 zo zo;have m2:Int.tmod (Ch.o5 i+Ch.l8 i) 2=(Ch.o5 i+Ch.l8 i)%2:=xy zo;refine zR ?_;refine g7 (a2E _ _ zo) (zR ?_);refine g7 (a0f _ _ zo zo) (zR ?_);simp only [m1,m2];generalize hC:(Ch.o5 i+Ch.l8 i)%2=c at *;have hc01:c=0∨c=1:=by omega
   have hld:m9 G.P w2 3 ⟨W0.heap.size,c.toNat,none⟩ (.int .i64 (bsTo p c i)):=by
    rcases hc01 with rfl|rfl
    ·exact D9 hblk rfl rfl
    ·exact D9 hblk rfl rfl
   refine zC ?_;refine zR ?_;refine b7 (.int .i64 (bsTo p c i)) ?_ ?_
   ·simpa [E.s8] using hld
   refine zR ?_;refine zC ?_;refine zR ?_;have hb1:=hbs c;refine K2 hblk [.int .i64 (IntKind.i64.wrap ((bsTo p c i:Int)+1))] rfl V6 rfl (by simp [Value.oneCell']) (by simp [E.s8];omega) (fun w3 u3=>zR ?_)
   refine ⟨i+1,⟨d9 (by rw [hkn1]),d9 ni,trivial⟩,⟨zo,by rw [a1];exact hno',?_,u3.cl hcl (yO _)⟩,zo⟩
   rw [u3.at_,E.s8,a3,a3,g8 zo zo];rcases hc01 with rfl|rfl<;>simp [J3]
  ·have k4:=h;clear h;refine zR ?_;refine ⟨i+1,⟨d9 (by rw [hkn1]),d9 ni,trivial⟩,⟨zo,by rw [a1];exact hno',?_,hcl⟩,zo⟩
   rw [a3,a3];simpa [k4] using hblk
 ·have hi64:i=64:=by omega
  subst hi64;have hd:Ch.a4T p=if 0<c3h p 64 then decide (c3h p 64=1)&&decide (bsTo p 0 64+bsTo p 1 64=0) else decide (bsTo p 0 64=0)||decide (bsTo p 1 64=0):=by
   rw [b5Q,hno];rfl
  have L0:m9 G.P w2 3 ⟨W0.heap.size,0,none⟩ (.int .i64 (bsTo p 0 64)):=D9 hblk rfl rfl;have L1:m9 G.P w2 3 ⟨W0.heap.size,1,none⟩ (.int .i64 (bsTo p 1 64)):=D9 hblk rfl rfl;have hb0:=hbs 0;have hb1:=hbs 1;generalize bsTo p 0 64=b0 at *;generalize bsTo p 1 64=b1 at *;generalize c3h p 64=kn at *;refine zR ?_;apply E.d7<;>intro h
  ·rw [zM zo] at hd;refine zR ?_;apply E.d7<;>intro h
   ·refine zR ?_;refine b7 _ L0 (zR ?_);refine b7 _ L1 (zR ?_);refine ⟨p8 ?_,hE _ hcl⟩;rw [hd,g8 zo zo];rw [zX (show kn=1 by omega)]
    simp only [yY];exact yg.2 zo
   ·refine zR ?_;refine ⟨p8 ?_,hE _ hcl⟩;rw [hd,zV (show ¬ kn=1 by omega)];rfl
  ·rw [zJ zo] at hd;refine zR ?_;refine b7 _ L0 (zR ?_);apply E.d7<;>intro h
   ·refine zR ?_;refine ⟨p8 ?_,hE _ hcl⟩;rw [hd,zX (show b0=0 by omega)];rfl
   ·refine zR ?_;refine b7 _ L1 (zR ?_);refine ⟨p8 ?_,hE _ hcl⟩;rw [hd,zV (show ¬ b0=0 by omega)]
    simp only [xp];exact yg.2 zo
structure a6N (p:g9):Prop where
 sq:∀ x∈p.board,I64 x
 turn:I64 p.turn
 castle:I64 p.castle
 ep:I64 p.ep
 half:I64 p.half
 full:I64 p.full
def bdA (p:g9):Array Value:=(t8 p).extract 0 64
theorem a5V (p:g9):(bdA p).toList=p.board.map (Value.int .i64):=by
 simp only [bdA,t8,Z2,Array.toList_extract,List.extract_eq_take_drop];rw [List.drop_zero,List.take_left' (by simp [p.len])]
theorem c3P (l:List Int) (h:∀ x∈l,I64 x):okL (List.replicate l.length (some .i64)) (l.map (Value.int .i64))=true:=by
 induction l with
 | nil=>rfl
 | cons x r ih =>
  simp only [zh,List.replicate_succ,yU,okL,zP];exact ⟨by simp [okV,b8T (h x (yc))],ih fun y hy=>h y (ye _ hy)⟩
theorem c5p:G.P.eqGuardType G.P.depth 22=false:=by kernel_rfl
theorem b0z (p:g9):(Value.agg (bdA p)).formed G.P 22=true:=by
 have h:(bdA p).size=64:=by simp [bdA,z8]
 have:(G.P.info? 22).map (·.size)=some 64:=by kernel_rfl
 have hu:G.P.underlying 22=some (.array 64 3):=by kernel_rfl
 unfold Value.formed;simp [h,Program.cellsOf,this,hu]
theorem c6F {p q:g9} (hp:a6N p) (hq:a6N q) (w:World):(Op.equalIn 10000 22 (.agg (bdA p)) (.agg (bdA q))).run G.P w = .ok (decide (p.board=q.board)) w:=by
 refine b1z (m:=2) (D:=2) (ks:=List.replicate 64 (some .i64)) zk zd c5p zk (b0z p) (b0z q) ?_ ?_ _ ?_ w
 ·rw [a5V];have:=c3P p.board hp.sq;rwa [p.len] at this
 ·rw [a5V];have:=c3P q.board hq.sq;rwa [q.len] at this
 ·rw [zW,a5V,a5V,List.map_map,List.map_map];constructor
  ·intro h;rw [h]
  ·intro h;have:∀ (a b:List Int),a.map (a2T∘Value.int .i64)=b.map (a2T∘Value.int .i64)→a=b:=by
    intro a
    induction a with
    | nil=>intro b h;cases b with
     | nil=>rfl
     | cons=>cases h
    | cons x r ih=>intro b h;cases b with
     | nil=>cases h
     | cons y s =>
      simp only [yU,Function.comp,a2T,xB,Lit.int.injEq,true_and] at h;rw [h.1,ih s h.2]
   exact this _ _ h
theorem c3Q {p:g9} {w:World} {b u:Nat} {fz:Nat×Nat} (hb:w.heap[b]?=some (.cells (t8 p) u fz)):m9 G.P w 22 ⟨b,0,none⟩ (.agg (bdA p)) :=
 ldA (t:=22) (o:=0) (z:=64) hb rfl (by rw [z8];decide)
theorem c1t (p q:g9) (hp:a6N p) (hq:a6N q) (w:World):Calls G.P 17 #[F5 p,F5 q] w (N0 (.bool (Ch.a17 p q)) w):=by
 refine zN func17 ?_;refine zG ?_;generalize hW:(w.alloc (.cells (t8 p) 24)).alloc (.cells (t8 q) 24)=W0;have hP:∀ w',Cl W0 w'→w'.heap[w.heap.size]?=some (.cells (t8 p) 24 (0,0)):=fun w' h=>(((Cl.alloc _ _).trans (hW▸h:Cl ((w.alloc (.cells (t8 p) 24)).alloc (.cells (t8 q) 24)) w')).blk (d8 _ _));have hQ:∀ w',Cl W0 w'→w'.heap[(w.alloc (.cells (t8 p) 24)).heap.size]?=some (.cells (t8 q) 24 (0,0)):=fun w' h=>(hW▸h:Cl ((w.alloc (.cells (t8 p) 24)).alloc (.cells (t8 q) 24)) w').blk (d8 _ _);have hE:∀ w',Cl W0 w'→Cl w w':=fun w' h=>hE2 (hW▸h);have z:=Cl.refl W0;refine zR ?_;refine b7 _ (c3Q (hP _ z)) (zR ?_);refine b7 _ (c3Q (hQ _ z)) (zR ?_);refine c1q c5p (c6F hp hq) rfl rfl ?_;have ha:Ch.a17 p q=(decide (p.board=q.board)&&decide (p.turn=q.turn)&&decide (p.castle=q.castle)&&decide (p.ep=q.ep)):=rfl;generalize decide (p.board=q.board)=e1 at *;cases e1
 ·refine zR ?_;exact ⟨p8 (by rw [ha];rfl),hE _ z⟩
 refine zR ?_;refine b7 _ (I0 (hP _ z)) (zR ?_);refine b7 _ (I0 (hQ _ z)) ?_;generalize ht:decide (p.turn=q.turn)=e2 at *;refine zR ?_;simp only [ht];cases e2
 ·refine zR ?_;exact ⟨p8 (by rw [ha];rfl),hE _ z⟩
 refine zR ?_;refine b7 _ (a2b (hP _ z)) (zR ?_);refine b7 _ (a2b (hQ _ z)) (zR ?_);generalize decide (p.castle=q.castle)=e3 at *;cases e3
 ·refine zR ?_;exact ⟨p8 (by rw [ha];rfl),hE _ z⟩
 refine zR ?_;refine b7 _ (a5l (hP _ z)) (zR ?_);refine b7 _ (a5l (hQ _ z)) (zR ?_);exact ⟨p8 (by rw [ha];simp),hE _ z⟩
theorem b2E:H0 73 24 69 552:=U5 zk
theorem Y8 (p:g9):(Z2 p).length=69:=by simp [Z2,p.len]
theorem c1u (l:List g9) (q:g9) (hl:∀ p∈l,a6N p) (hq:l.getLast?=some q) (hn:l.length≤100000) {b0:Nat} {v:Value} (w:World) (hrow:Row 24 69 Z2 b0 w v l):Calls G.P 89 #[v] w (N0 (.int .i64 (Ch.a9P l q)) w):=by
 obtain ⟨al,cl,rfl,hal⟩:=hrow.form;have hpos:0<l.length:=by
  cases l with
  | nil=>cases hq
  | cons=>simp
 obtain ⟨g,rfl⟩:=hal hpos;have hlast:l[l.length-1]'zo=q:=by
  rw [List.getLast?_eq_getElem?,yu zo] at hq;exact yp hq
 refine zN func89 ?_;refine zG ?_;refine zR ?_;refine C1 (σ:=Nat) [3,4] 5 (fun a=>[(3,.int .i64 (Ch.a9P (l.take a) q)),(4,.int .i64 a)]) (fun a w'=>a≤l.length∧Cl w w') (fun a=>l.length-a) zk 0
  ⟨zo,Cl.refl _⟩ ⟨rfl,rfl,trivial⟩ ?_
 rintro i j w2 ⟨hi,hcl⟩;refine zR ?_;apply E.d7<;>intro h
 ·have hil:i<l.length:=by omega
  clear h;have ni:IntKind.i64.wrap ((i:Int)+1)=((i+1:Nat):Int):=by rw [g8 zo zo];push_cast;omega
  have hcnt:Ch.a9P (l.take i) q≤i:=by
   unfold Ch.a9P;exact zw (xQ _ _) (by rw [yh];omega)
  have hnx:Ch.a9P (l.take (i+1)) q=Ch.a9P (l.take i) q+(if Ch.a17 l[i] q=true then 1 else 0):=by
   unfold Ch.a9P;rw [zx hil,List.filter_append,zF];by_cases h:Ch.a17 l[i] q=true<;>simp [h]
  have hlm:IntKind.i64.wrap ((l.length:Int)-1)=((l.length-1:Nat):Int):=by rw [g8 zo zo];omega
  refine zR ?_;refine zK 11 ?_;refine zR ?_;refine zC ?_;refine zR ?_;refine l9 (F5 l[i]) (fun w hw=>a1b (hrow.step (hcl.trans hw)) Y8 i hil rfl ?_ rfl) ?_
  ·simp [E.s8]
  refine zR ?_;refine zC ?_;refine zR ?_;refine l9 (F5 q) (fun w hw=>a1b (hrow.step (hcl.trans hw)) Y8 (l.length-1) zo rfl ?_ (by rw [hlast];rfl)) ?_
  ·simp [E.s8,hlm]
  refine zR ?_;have hA:∀ w,Calls G.P 17 #[F5 l[i],F5 q] w (N0 (.bool (Ch.a17 l[i] q)) w):=fun w=>c1t l[i] q (hl _ (yQ hil)) (hl _ (List.mem_of_getLast? hq)) w;show b5D G.P (Cl w2) 17 #[F5 l[i],F5 q] _;refine D6 _ (fun _ _ h=>h.trans) (fun w _=>hA w) (zR ?_);intro w3 c3;generalize hA:Ch.a17 l[i] q=al at *;refine zR ?_;cases al
  ·refine zR ?_;exact ⟨i+1,⟨d9 (by rw [hnx];simp),d9 ni,trivial⟩,⟨zo,hcl.trans c3⟩,zo⟩
  ·refine zR ?_;exact ⟨i+1,⟨d9 (by rw [hnx,g8 zo zo];simp),d9 ni,trivial⟩,⟨zo,hcl.trans c3⟩,zo⟩
 ·have hil:i=l.length:=by omega
  subst hil;refine zR ?_;exact ⟨D4 (by rw [yf]),hcl⟩
def tx (l:Tx):ByteArray:=⟨l.toArray⟩
def m7 (l:Tx):Value:=.string (tx l)
theorem C5 (l:Tx):(tx l).size=l.length:=by simp [tx,ByteArray.size]
theorem A6 (a b:Tx):tx a++tx b=tx (a++b):=by
 apply ByteArray.ext;simp [tx]
theorem Q0 {a b:Tx}:tx a=tx b↔a=b:=by
 constructor
 ·intro h;have:=yM (fun x:ByteArray=>x.data.toList) h;simpa [tx] using this
 ·intro h;rw [h]
theorem a06 (a:Array UInt8):(⟨a⟩:ByteArray)=tx a.toList:=rfl
theorem a23 {x y:ByteArray} (h:x.size+y.size≤9223372036854775807):E.b59 x y=true:=zX h
theorem y9 {x y:Tx} (h:x.length+y.length≤9223372036854775807):E.b59 (tx x) (tx y)=true:=zX (by rw [C5,C5];exact h)
theorem a9X:G.P.underlying 9=some .string:=by kernel_rfl
theorem b5R {w:World} {l r:Tx} {s:ByteArray} {k k':IntKind} {a b:Int} (hs:s=tx l) (h0:0≤a) (h1:a≤b) (h2:b≤l.length) (hr:(l.drop a.toNat).take (b.toNat-a.toNat)=r) :
  (Instr.slice 9 (.string s) (some (.int k a)) (some (.int k' b)) none).run G.P w = .ok (m7 r) w:=by
 subst hs;rw [run_slice_string (P:=G.P) w 9 _ _ _ _ _ a9X h0 h1 (by rw [C5];exact h2),tx,ByteArray.extract_mk,hr];rfl
theorem a1m {l:Tx} {s:ByteArray} {k k':IntKind} {a b:Int} {x lo hi:Operand} {dst:Option Nat} {ty:Nat} {pos:String} {af:Array Edge} {gd:Option (Nat×Bool)} {env:C9} {w:World} {K:Value→World→Prop}
  (r':Tx) (hx:ev env x = .string s) (hlo:ev env lo = .int k a) (hhi:ev env hi = .int k' b) (hs:s=tx l) (h0:0≤a) (h1:a≤b) (h2:b≤l.length) (hr:(l.drop a.toNat).take (b.toNat-a.toNat)=r') (h:K (m7 r') w) :
  L6 G.P { dst,op:=.slice 9 x (some lo) (some hi) none,type:=ty,pos,after:=af,guard:=gd } env w K:=by
 refine ⟨.inl ⟨_,w,?_,h⟩⟩;show (do pure (Next.value (← Instr.slice 9 (ev env x) (some (ev env lo)) (some (ev env hi)) none)):Sem Next).run G.P w=_
 rw [hx,hlo,hhi,yq,b5R hs h0 h1 h2 hr];rfl
theorem a0J {C:World→Prop} {l:Tx} {s:ByteArray} {k k':IntKind} {a b:Int} {x lo hi:Operand} {dst:Option Nat} {ty:Nat} {pos:String} {af:Array Edge} {gd:Option (Nat×Bool)} {env:C9} {K:Value→Prop}
  (r':Tx) (hx:ev env x = .string s) (hlo:ev env lo = .int k a) (hhi:ev env hi = .int k' b) (hs:s=tx l) (h0:0≤a) (h1:a≤b) (h2:b≤l.length) (hr:(l.drop a.toNat).take (b.toNat-a.toNat)=r') (h:K (m7 r')) :
  a68 G.P C { dst,op:=.slice 9 x (some lo) (some hi) none,type:=ty,pos,after:=af,guard:=gd } env K:=by
 refine ⟨_,fun w _=>?_,h⟩;show (do pure (Next.value (← Instr.slice 9 (ev env x) (some (ev env lo)) (some (ev env hi)) none)):Sem Next).run G.P w=_
 rw [hx,hlo,hhi,yq,b5R hs h0 h1 h2 hr];rfl
theorem B9 {x:ByteArray} {l:Tx} (h:x=tx l):Ending.returned (.string x) = .returned (m7 l):=by rw [h];rfl
theorem c5q:∀ i<8,(([97,98,99,100,101,102,103,104]:Tx).drop i).take 1=[UInt8.ofNat (97+i)]:=by decide
theorem c5r:∀ i<8,(([49,50,51,52,53,54,55,56]:Tx).drop i).take 1=[UInt8.ofNat (49+i)]:=by decide
theorem c5s:∀ i<10,(([48,49,50,51,52,53,54,55,56,57]:Tx).drop i).take 1=[UInt8.ofNat (48+i)]:=by decide
theorem a24 {n m:Int} (h:0≤n):n.tmod m=n%m:=xy h
theorem a5W {n m:Int} (h:0≤n):n.tdiv m=n/m:=xm h
theorem b2F (n:Int) (h0:0≤n) (h1:n≤63) (w:World):Calls G.P 47 #[.int .i64 n] w (N0 (m7 (Ch.v8 n++Ch.B6 n)) w):=by
 refine zN func47 ?_;refine zG ?_;refine zR ?_;refine zK 14 ?_;have e1:n.tmod 8=n%8:=a24 h0;have e2:n.tdiv 8=n/8:=a5W h0;have e3:IntKind.i64.wrap (n%8+1)=n%8+1:=g8 zo zo;have e4:IntKind.i64.wrap (n/8)=n/8:=g8 zo zo;have e5:IntKind.i64.wrap (n/8+1)=n/8+1:=g8 zo zo;refine zR ?_;refine a0J (Ch.v8 n) rfl rfl rfl (a06 _) ?_ ?_ ?_ ?_ ?_
 ·rw [e1];omega
 ·rw [e1,e3];omega
 ·rw [e1,e3];simp;omega
 ·rw [e1,e3,show (n%8+1).toNat-(n%8).toNat=1 by omega];exact c5q _ zo
 refine zR ?_;refine a0J (Ch.B6 n) rfl rfl rfl (a06 _) ?_ ?_ ?_ ?_ ?_
 ·rw [e2,e4];omega
 ·rw [e2,e4,e5];omega
 ·rw [e2,e4,e5];simp;omega
 ·rw [e2,e4,e5,show (n/8+1).toNat-(n/8).toNat=1 by omega];exact c5r _ zo
 refine zR ?_;intro w1 c1;refine zR ?_;exact ⟨B9 (A6 _ _),c1⟩
theorem a3x:∀ (k n:Nat),0<k→n<10^k→(Ch.dec n).length≤k:=by
 intro k
 induction k with
 | zero=>intro n h;omega
 | succ k ih =>
  intro n _ h;rw [Ch.dec];split
  ·simp
  ·rename_i h10;have hk:0<k:=by
    rcases Nat.eq_zero_or_pos k with h0|h0
    ·subst h0;simp at h;omega
    ·exact h0
   have:=ih (n/10) hk (by rw [Nat.pow_succ] at h;omega)
   simp;exact this
theorem a1e {n:Nat} (h:n<9223372036854775808):(Ch.dec n).length≤19:=a3x 19 n zd zo
theorem a1B:∀ (n:Nat) (w:World),n<9223372036854775808→Calls G.P 50 #[.int .i64 n] w (N0 (m7 (Ch.dec n)) w):=by
 intro n
 induction n using Nat.strongRecOn with
 | _ n ih =>
 intro w hn;refine zN func50 ?_;refine zG ?_;refine zR ?_;apply E.d7<;>intro h
 ·have e1:IntKind.i64.wrap ((n:Int)+1)=n+1:=g8 zo zo;refine zR ?_;refine a1m (Ch.dec n) rfl rfl rfl (a06 _) ?_ ?_ ?_ ?_ ?_
  ·omega
  ·rw [e1];omega
  ·rw [e1];simp;omega
  ·rw [e1,show ((n:Int)+1).toNat-(n:Int).toNat=1 by omega,Ch.dec,dif_pos zo];exact c5s _ zo
  refine zR ?_;exact ⟨rfl,Cl.refl _⟩
 ·have e1:(n:Int).tmod 10=((n%10:Nat):Int):=by rw [a24 zo];omega
  have e2:IntKind.i64.wrap ((n:Int).tdiv 10)=((n/10:Nat):Int):=by rw [a5W zo,g8 zo zo];omega
  have e3:IntKind.i64.wrap (((n%10:Nat):Int)+1)=((n%10+1:Nat):Int):=by rw [g8 zo zo];omega
  refine zR ?_;refine zK 11 ?_;refine zR ?_;refine D6 (m7 (Ch.dec (n/10))) (fun _ _ h=>h.trans) (fun w _=>?_) ?_
  ·have:=ih (n/10) zo w zo;rw [← e2] at this;exact this
  refine zR ?_;refine a0J [UInt8.ofNat (48+n%10)] rfl rfl rfl (a06 _) ?_ ?_ ?_ ?_ ?_
  ·rw [e1];omega
  ·rw [e1,e3];omega
  ·rw [e1,e3];simp;omega
  ·rw [e1,e3,show ((n%10+1:Nat):Int).toNat-((n%10:Nat):Int).toNat=1 by omega];exact c5s _ zo
  refine zR ?_;have hl:=a1e (n:=n/10) zo;refine E.A1 (y9 (by simp;omega)) (zR ?_)
  intro w1 c1;refine zR ?_;refine ⟨B9 ?_,c1⟩;rw [A6,Ch.dec.eq_def n,dif_neg zo]
theorem c3R (p:g9) (i:Nat) (h:i<64):(bdA p)[i]?=some (.int .i64 (Ch.sq p i)):=by
 have:=a0G p i h;simp only [bdA,Array.getElem?_extract];rw [zM (by rw [z8];omega),yZ,this]
theorem c6G {p:g9} {w:World} {b t i:Nat} {fz:Nat×Nat} (hb:w.heap[b]?=some (.cells (bdA p) t fz)) (m:Int) (h0:0≤m) (h1:m<64) (hi:i=m.toNat) :
  m9 G.P w 3 ⟨b,i,none⟩ (.int .i64 (Ch.sq p m)):=by
 subst hi;refine D9 hb ?_ rfl;rw [c3R p _ zo,zi h0]
theorem b2G {e:Nat} (h:e≤100):(Ch.a0g e).length≤3:=by
 unfold Ch.a0g;split
 ·simp
 ·exact a3x 3 e zd zo
theorem b11 (x:Int):(Ch.pcT x).length≤1:=by
                               unfold Ch.pcT;iterate 12 (split;· simp)
                               simp
theorem b2H (g:Nat→Int):∀ (n f e:Nat),e+n≤100→(Ch.a0T g n f e).length≤4*n+3:=by
 intro n
 induction n with
 | zero=>intro f e h;exact b2G zo
 | succ n ih =>
  intro f e h;rw [Ch.a0T];split
  ·have:=ih (f+1) (e+1) zo;omega
  ·have:=ih (f+1) 0 zo;have:=b2G (e:=e) zo;have:=b11 (g f);simp;omega
theorem a0z (p:g9):∀ r,(Ch.a2U p r).length≤36*r:=by
 intro r
 induction r with
 | zero=>simp [Ch.a2U]
 | succ r ih =>
  rw [Ch.a2U];have:=b2H (fun f=>Ch.sq p (8*(r:Int)+f)) 8 0 0 zo;simp only [zF];split<;>simp<;>omega
theorem c5t:∀ i<12,(([75,81,82,66,78,80,107,113,114,98,110,112]:Tx).drop i).take 1=Ch.pcT ((i:Int)+1):=by decide
theorem b4z (p:g9) (hp:Pc p) (w:World):Calls G.P 48 #[.agg (bdA p)] w (N0 (m7 (Ch.a2U p 8)) w):=by
 refine zN func48 ?_;refine zG ?_;generalize hW:w.alloc (.cells (bdA p) 22)=W0;have hP:∀ w',Cl W0 w'→w'.heap[w.heap.size]?=some (.cells (bdA p) 22 (0,0)):=fun w' h=>(hW▸h:Cl (w.alloc (.cells (bdA p) 22)) w').blk (d8 _ _);have hE:∀ w',Cl W0 w'→Cl w w':=fun w' h=>(Cl.alloc _ _).trans (hW▸h);have hT:=a0z p 8;refine zR ?_;refine C1 (σ:=Nat×Tx) [3,4,5,6,7] 8 (fun a=>[(3,m7 a.2),(4,.int .i64 ((a.1:Int)-1))]) (fun a w'=>a.1≤8∧a.2++Ch.a2U p a.1=Ch.a2U p 8∧Cl W0 w') (fun a=>a.1) zk (8,[])
  ⟨by simp,rfl,Cl.refl _⟩ ⟨rfl,rfl,trivial⟩ ?_
 rintro ⟨r,X⟩ j w1 ⟨hr,hX,hcl⟩;simp only at hr hX ⊢;refine zR ?_;apply E.d7<;>intro h
 ·obtain ⟨r',rfl⟩:∃ r',r=r'+1:=⟨r-1,zo⟩;clear h;rw [show (((r'+1:Nat):Int)-1)=(r':Int) by omega]
  have nr:IntKind.i64.wrap ((r':Int)-1)=(r':Int)-1:=g8 zo zo;have n8:IntKind.i64.wrap (8*(r':Int))=8*(r':Int):=g8 zo zo;have hb1:Ch.a2U p (r'+1)=Ch.a0T (fun f=>Ch.sq p (8*(r':Int)+f)) 8 0 0++(if r'=0 then [] else [47])++Ch.a2U p r':=rfl
  generalize hg:(fun f:Nat=>Ch.sq p (8*(r':Int)+f))=g at *;have hXl:X.length+(Ch.a0T g 8 0 0).length≤288:=by
   have:=yM List.length hX;rw [hb1] at this;simp only [zF] at this;omega
  refine zR ?_;refine C1 (σ:=Nat×Nat×Tx) [3,5,6,7] 8 (fun a=>[(3,m7 (X++a.2.2)),(5,.int .i64 a.2.1),(6,.int .i64 a.1)]) (fun a w'=>a.1≤8∧a.2.1≤a.1∧a.2.2++Ch.a0T g (8-a.1) a.1 a.2.1=Ch.a0T g 8 0 0∧Cl W0 w') (fun a=>8-a.1) zk (0,0,[])
   ⟨by simp,by simp,rfl,hcl⟩ ⟨by simp only [zn];rfl,rfl,rfl,trivial⟩ ?_
  rintro ⟨f,e,Y⟩ j2 w2 ⟨hf,he,hY,hcl2⟩;simp only at hf he hY ⊢;have hYl:X.length+Y.length≤288:=by
   have:=yM List.length hY;simp only [zF] at this;omega
  refine zR ?_;apply E.d7<;>intro h
  ·have hf8:f<8:=by omega
   clear h;have nf:IntKind.i64.wrap ((f:Int)+1)=((f+1:Nat):Int):=by rw [g8 zo zo];omega
   have ne:IntKind.i64.wrap ((e:Int)+1)=((e+1:Nat):Int):=by rw [g8 zo zo];omega
   have ns:IntKind.i64.wrap (8*(r':Int)+f)=8*(r':Int)+f:=g8 zo zo;have hrow:Ch.a0T g (8-f) f e=if g f<1∨g f>12 then Ch.a0T g (8-(f+1)) (f+1) (e+1) else Ch.a0g e++Ch.pcT (g f)++Ch.a0T g (8-(f+1)) (f+1) 0:=by
    rw [show 8-f=(8-(f+1))+1 by omega];rfl
   refine zR ?_;simp only [n8,ns];refine zC ?_;refine zR ?_;refine b7 (.int .i64 (g f)) ?_ ?_
   ·rw [← hg];exact c6G (hP _ hcl2) _ zo zo (by simp [E.s8])
   have hgb:0≤g f∧g f≤12:=by rw [← hg];exact hp _
   generalize hk:g f=k at *;refine zR ?_;apply E.d7<;>intro h
   ·refine zR ?_;refine ⟨(f+1,e+1,Y),⟨rfl,d9 ne,d9 nf,trivial⟩,⟨by simp;omega,by simp;omega,?_,hcl2⟩,by simp;omega⟩
    simp only
    rw [hrow,zM (.inl h)] at hY;exact hY
   ·have h1:=h;clear h;refine zR ?_;apply E.d7<;>intro h
    ·omega
    ·rw [hrow,zJ zo] at hY;have nk:IntKind.i64.wrap (k-1)=k-1:=g8 zo zo;clear h;refine zR ?_;apply E.d7<;>intro h
     ·have hce:Ch.a0g e=Ch.dec e:=by unfold Ch.a0g;rw [zJ zo]
      have hdl:=a3x 2 e zd zo;refine zR ?_;refine o7 (a1B e _ zo) fun w3 c3=>zR ?_;refine E.A1 (y9 (by rw [zF];omega)) ?_
      rw [A6];refine zR ?_;simp only [nk];refine a1m (Ch.pcT k) rfl rfl rfl (a06 _) zo zo (by simp;omega) ?_ ?_
      ·rw [show k.toNat-(k-1).toNat=1 by omega,c5t _ zo];congr 1;omega
      refine zR ?_;have hpl:=b11 k;refine E.A1 (y9 (by simp only [zF];omega)) ?_
      rw [A6];refine zR ?_;refine ⟨(f+1,0,Y++Ch.dec e++Ch.pcT k),⟨?_,rfl,d9 nf,trivial⟩,⟨by simp;omega,by simp,?_,hcl2.trans c3⟩,by simp;omega⟩
      ·show Value.string _=Value.string _;simp only [yJ]
      ·simp only;rw [← hY,hce];simp only [yJ]
     ·have he0:e=0:=by omega
      subst he0;refine zR ?_;simp only [nk];refine a1m (Ch.pcT k) rfl rfl rfl (a06 _) zo zo (by simp;omega) ?_ ?_
      ·rw [show k.toNat-(k-1).toNat=1 by omega,c5t _ zo];congr 1;omega
      refine zR ?_;have hpl:=b11 k;refine E.A1 (y9 (by simp only [zF];omega)) ?_
      rw [A6];refine zR ?_;refine ⟨(f+1,0,Y++Ch.pcT k),⟨?_,rfl,d9 nf,trivial⟩,⟨by simp;omega,by simp,?_,hcl2⟩,by simp;omega⟩
      ·show Value.string _=Value.string _;simp only [yJ]
      ·simp only;rw [← hY];simp [Ch.a0g,yJ]
  ·have hf8:f=8:=by omega
   subst hf8;clear h;have hend:Y++Ch.a0g e=Ch.a0T g 8 0 0:=hY;have hout:∀ T:Tx,X++Y++Ch.a0g e++(if r'=0 then [] else [47])=T→T++Ch.a2U p r'=Ch.a2U p 8:=by
    intro T hT;rw [← hT,← hX,hb1,← hend];simp only [yJ]
   refine zR ?_;apply E.d7<;>intro h
   ·have hce:Ch.a0g e=Ch.dec e:=by unfold Ch.a0g;rw [zJ zo]
    have hdl:=a3x 2 e zd zo;rw [hce] at hout;refine zR ?_;refine o7 (a1B e _ zo) fun w3 c3=>zR ?_;refine E.A1 (y9 (by rw [zF];omega)) ?_
    rw [A6];refine zR ?_;apply E.d7<;>intro h
    ·refine zR ?_;refine E.A1 (a23 (by simp only [C5,zF];simp [ByteArray.size];omega)) ?_
     rw [a06,A6];refine zR ?_;refine ⟨(r',X++Y++Ch.dec e++[47]),⟨rfl,d9 nr,trivial⟩,⟨by simp;omega,?_,hcl2.trans c3⟩,by simp⟩
     simp only
     exact hout _ (by rw [zJ zo])
    ·refine zR ?_;refine ⟨(r',X++Y++Ch.dec e),⟨rfl,d9 nr,trivial⟩,⟨by simp;omega,?_,hcl2.trans c3⟩,by simp⟩
     simp only
     exact hout _ (by rw [zM zo,zn])
   ·have hce:Ch.a0g e=[]:=by unfold Ch.a0g;rw [zM zo]
    rw [hce] at hout;refine zR ?_;apply E.d7<;>intro h
    ·refine zR ?_;refine E.A1 (a23 (by simp only [C5,zF];simp [ByteArray.size];omega)) ?_
     rw [a06,A6];refine zR ?_;refine ⟨(r',X++Y++[47]),⟨rfl,d9 nr,trivial⟩,⟨by simp;omega,?_,hcl2⟩,by simp⟩
     simp only
     exact hout _ (by rw [zJ zo,zn])
    ·refine zR ?_;refine ⟨(r',X++Y),⟨rfl,d9 nr,trivial⟩,⟨by simp;omega,?_,hcl2⟩,by simp⟩
     simp only
     exact hout _ (by rw [zM zo,zn,zn])
 ·have hr0:r=0:=by omega
  subst hr0;refine zR ?_;refine ⟨B9 ?_,hE _ hcl⟩;rw [Q0,← hX];simp [Ch.a2U]
def a3V (n:Nat):Tx:=if n=0 then [75] else if n=1 then [81] else if n=2 then [107] else [113]
def a12 (c:Int):Nat→Tx
 | 0=>[]
 | n+1=>a12 c n++(if Ch.W3 c n=true then a3V n else [])
theorem a8Q (c:Int):∀ n,(a12 c n).length≤n:=by
 intro n
 induction n with
 | zero=>simp [a12]
 | succ n ih =>
  rw [a12,zF];have:(if Ch.W3 c n=true then a3V n else []).length≤1:=by
   split
   ·unfold a3V;repeat' split
    all_goals simp
   ·simp
  omega
theorem a8R (c:Int):Ch.a4V c=if a12 c 4=[] then [45] else a12 c 4:=by
 unfold Ch.a4V;simp only [a12,a3V,yP];cases Ch.W3 c 0<;>cases Ch.W3 c 1<;>cases Ch.W3 c 2<;>cases Ch.W3 c 3<;>rfl
theorem c6H:∀ i<4,(([75,81,107,113]:Tx).drop i).take 1=a3V i:=by decide
theorem b2I (c:Int) (h0:0≤c) (h1:c≤15) (w:World):Calls G.P 49 #[.int .i64 c] w (E8 (m7 (Ch.a4V c)) w):=by
 refine zN func49 ?_;refine zG ?_;refine zR ?_;refine C1 (σ:=Nat) [3,4] 5 (fun a=>[(3,m7 (a12 c a)),(4,.int .i64 a)]) (fun a w'=>a≤4∧w'=w) (fun a=>4-a) zk 0
  ⟨zo,rfl⟩ ⟨rfl,rfl,trivial⟩ ?_
 rintro n j w2 ⟨hn,hw⟩;subst hw;have hl:=a8Q c n;refine zR ?_;apply E.d7<;>intro h
 ·have hn4:n<4:=by omega
  clear h;have nn:IntKind.i64.wrap ((n:Int)+1)=((n+1:Nat):Int):=by rw [g8 zo zo];omega
  refine zR ?_;intro r2 hr2;have hbi:=b1q h0 h1 hn4;refine zR ?_;intro r3 hr3;rw [← hr2,← hr3] at hbi;clear hr2 hr3;refine zR ?_;apply E.d7<;>intro h
  ·have hb:=hbi.1 h;refine zR ?_;refine a1m (a3V n) rfl rfl rfl (a06 _) zo (by rw [nn];omega) (by rw [nn];simp only [Array.length_toList];show ((n+1:Nat):Int)≤4;omega) ?_ ?_
   ·rw [nn,show ((n+1:Nat):Int).toNat-(n:Int).toNat=1 by omega];exact c6H _ zo
   refine zR ?_;have hr:(a3V n).length≤1:=by
    unfold a3V;repeat' split
    all_goals simp
   refine E.A1 (y9 zo) ?_;rw [A6];refine zR ?_;exact ⟨n+1,⟨by rw [a12,zM hb];rfl,d9 nn,trivial⟩,⟨zo,rfl⟩,zo⟩
  ·have hb:Ch.W3 c n=false:=by
    cases hh:Ch.W3 c n
    ·rfl
    ·exact absurd (hbi.2 hh) h
   refine zR ?_;exact ⟨n+1,⟨by rw [a12,hb];simp only [zn,yG,xv];rfl,d9 nn,trivial⟩,⟨zo,rfl⟩,zo⟩
 ·have hn4:n=4:=by omega
  subst hn4;clear h;refine zR ?_;apply E.d7<;>intro h
  ·have he:a12 c 4=[]:=by rw [a06] at h;exact Q0.1 h
   refine zR ?_;exact ⟨B9 (by rw [a8R,zM he];rfl),rfl⟩
  ·have he:a12 c 4≠[]:=fun e=>h (by rw [a06,e])
   refine zR ?_;exact ⟨B9 (by rw [a8R,zJ he]),rfl⟩
theorem a00 (l a:Tx):tx a++(⟨l.toArray⟩:ByteArray)=tx (a++l):=A6 a l
theorem a1R (c:Int):(Ch.a4V c).length≤4:=by
 rw [a8R];split
 ·simp
 ·exact a8Q c 4
theorem a8j (e:Int):(Ch.epT e).length≤2:=by
 unfold Ch.epT;split
 ·simp [Ch.v8,Ch.B6]
 ·simp
theorem a4z (e:Int):(Ch.a8n e).length=1:=by unfold Ch.a8n;split<;>rfl
theorem b00 {C:World→Prop} {n:Int} (h0:0≤n) {k k':IntKind} {x y:Operand} {ts:Array Nat} {dst:Option Nat} {ty:Nat} {pos:String} {af:Array Edge} {gd:Option (Nat×Bool)} {env:C9} {K:Value→Prop}
  (hx:ev env x = .int k n) (hy:ev env y = .int k' 0) (h:K (.int k n)) :
  a68 G.P C { dst,op:=.call { callee:=.builtin .max,args:=#[x,y],argTypes:=ts },type:=ty,pos,after:=af,guard:=gd } env K:=by
 refine ⟨_,fun w _=>?_,h⟩;simp only [execOp,resolve,invoke,builtin,yq,xi,yx,xW,yU,xn,hx,hy];rw [run_max_int2,zJ zo];rfl
structure Fen (p:g9):Prop where
 pc:Pc p
 c0:0≤p.castle
 c1:p.castle≤15
 h0:0≤p.half
 h1:p.half<9223372036854775808
 f0:0≤p.full
 f1:p.full<9223372036854775808
theorem a2X (p:g9) (hp:Fen p) (w:World):Calls G.P 18 #[F5 p] w (N0 (m7 (Ch.a7q p)) w):=by
 refine zN func18 ?_;refine zG ?_;generalize hW:w.alloc (.cells (t8 p) 24)=W0;have hP:∀ w',Cl W0 w'→w'.heap[w.heap.size]?=some (.cells (t8 p) 24 (0,0)):=fun w' h=>(hW▸h:Cl (w.alloc (.cells (t8 p) 24)) w').blk (d8 _ _);have hE:∀ w',Cl W0 w'→Cl w w':=fun w' h=>(Cl.alloc _ _).trans (hW▸h);obtain ⟨hpc,c0,c1,hh0,hh1,hf0,hf1⟩:=hp;have hbl:=a0z p 8;have hcl:=a1R p.castle;have hel:=a8j p.ep;have htl:=a4z p.turn;have hhl:=a1e (n:=p.half.toNat) zo;have hfl:=a1e (n:=p.full.toNat) zo;have hsq:∀ w,0≤p.ep→p.ep<64→Calls G.P 47 #[.int .i64 p.ep] w (N0 (m7 (Ch.epT p.ep)) w):=fun w h h'=>by
  have:=b2F p.ep h zo w;unfold Ch.epT;rw [zM ⟨h,h'⟩];exact this
 have hT:Ch.a7q p=Ch.a2U p 8++[32]++Ch.a8n p.turn++[32]++Ch.a4V p.castle++[32]++Ch.epT p.ep++[32]++Ch.dec p.half.toNat++[32]++Ch.dec p.full.toNat:=rfl;rw [hT];clear hT;refine Nx.mk (zG ?_);refine B0 (σ:=Unit) [3,5,6,7] 8 (fun _=>[(3,m7 (Ch.a8n p.turn))]) (fun _ w'=>w'=W0) zk ?_ (fun _ j w3 h=>?_)
 ·refine zR ?_;refine b7 _ (I0 (hP _ (Cl.refl _))) (zR ?_);apply E.d7<;>intro h
  ·refine zR ?_;exact ⟨(),⟨by unfold Ch.a8n;rw [zM h];rfl,trivial⟩,rfl⟩
  ·refine zR ?_;exact ⟨(),⟨by unfold Ch.a8n;rw [zJ h];rfl,trivial⟩,rfl⟩
 subst h;refine B0 (σ:=Unit) [4,8,9,10,11,12,13,14,15,16,17,18] 19 (fun _=>[(4,m7 (Ch.epT p.ep))]) (fun _ w'=>Cl w3 w') zk ?_ (fun _ j w4 c4=>?_)
 ·refine zR ?_;refine b7 _ (a5l (hP _ (Cl.refl _))) (zR ?_);apply E.d7<;>intro h
  ·have e0:=h;clear h;refine zR ?_;refine b7 _ (a5l (hP _ (Cl.refl _))) (zR ?_);apply E.d7<;>intro h
   ·refine zR ?_;refine b7 _ (a5l (hP _ (Cl.refl _))) (zR ?_);refine o7 (hsq _ e0 h) fun w4 c4=>zR ?_;exact ⟨(),⟨rfl,trivial⟩,c4⟩
   ·refine zR ?_;exact ⟨(),⟨by unfold Ch.epT;rw [zJ zo];rfl,trivial⟩,Cl.refl _⟩
  ·refine zR ?_;exact ⟨(),⟨by unfold Ch.epT;rw [zJ zo];rfl,trivial⟩,Cl.refl _⟩
 generalize hb:Ch.a2U p 8=B at *;generalize Ch.a8n p.turn=T1 at *;generalize hc:Ch.a4V p.castle=T2 at *;generalize Ch.epT p.ep=T3 at *;refine zR ?_;refine zK 27 ?_;refine zR ?_;refine l9 (.agg (bdA p)) (fun w hw=>c3Q (hP _ (c4.trans hw))) (zR ?_);refine D6 (m7 B) (fun _ _ h=>h.trans) (fun w _=>?_) ?_
 ·rw [← hb];exact b4z p hpc w
 refine zR ?_;refine E.A1 (a23 (by simp only [C5];simp [ByteArray.size];omega)) ?_
 rw [a00 [32]];refine zR ?_;refine E.A1 (y9 (by simp only [zF];simp;omega)) ?_
 rw [A6];refine zR ?_;refine E.A1 (a23 (by simp only [C5];simp [ByteArray.size];omega)) ?_
 rw [a00 [32]];refine zR ?_;refine l9 _ (fun w hw=>a2b (hP _ (c4.trans hw))) (zR ?_);refine o4 (m7 T2) (fun w _=>?_) ?_
 ·rw [← hc];exact b2I p.castle c0 c1 w
 refine zR ?_;refine E.A1 (y9 (by simp only [zF];simp;omega)) ?_
 rw [A6];refine zR ?_;refine E.A1 (a23 (by simp only [C5];simp [ByteArray.size];omega)) ?_
 rw [a00 [32]];refine zR ?_;refine E.A1 (y9 (by simp only [zF];simp;omega)) ?_
 rw [A6];refine zR ?_;refine E.A1 (a23 (by simp only [C5];simp [ByteArray.size];omega)) ?_
 rw [a00 [32]];refine zR ?_;refine l9 _ (fun w hw=>a8C (hP _ (c4.trans hw))) (zR ?_);refine b00 hh0 rfl rfl (zR ?_);refine D6 (m7 (Ch.dec p.half.toNat)) (fun _ _ h=>h.trans) (fun w _=>?_) ?_
 ·have:=a1B p.half.toNat w zo;rw [zi hh0] at this;exact this
 refine zR ?_;generalize Ch.dec p.half.toNat=T4 at *;refine E.A1 (y9 (by simp only [zF];simp;omega)) ?_
 rw [A6];refine zR ?_;refine E.A1 (a23 (by simp only [C5];simp [ByteArray.size];omega)) ?_
 rw [a00 [32]];refine zR ?_;refine l9 _ (fun w hw=>b1p (hP _ (c4.trans hw))) (zR ?_);refine b00 hf0 rfl rfl (zR ?_);refine D6 (m7 (Ch.dec p.full.toNat)) (fun _ _ h=>h.trans) (fun w _=>?_) ?_
 ·have:=a1B p.full.toNat w zo;rw [zi hf0] at this;exact this
 refine zR ?_;generalize Ch.dec p.full.toNat=T5 at *;refine E.A1 (y9 (by simp only [zF];simp;omega)) ?_
 rw [A6];refine zR ?_;intro w5 c5;refine zR ?_;exact ⟨rfl,hE _ (c4.trans c5)⟩
theorem T8:H0 157 5 1 1:=U5 zk
theorem elStr:H0 42 9 1 16:=U5 zk
def J5 (t:Tx):List Value:=[m7 t]
theorem o8 (t:Tx):(J5 t).length=1:=rfl
theorem c3f:G.P.underlying 5=some (.int .u8):=by kernel_rfl
theorem b40:G.P.underlying 157=some (.slice 5):=by kernel_rfl
theorem a8S (l:Tx) {b:Nat} {n c:Nat} {cs:Array Value} {u:Nat} {fz:Nat×Nat} {x:Operand} {dst:Option Nat} {ty:Nat} {pos:String} {af:Array Edge} {gd:Option (Nat×Bool)} {env:C9} {w:World} {K:Value→World→Prop}
  (hx:ev env x = .slice (some ⟨b,0,none⟩) n c) (hn:n=l.length) (hb:w.heap[b]?=some (.cells cs u fz)) (hc:∀ j (hj:j<l.length),cs[j]?=some (.int .u8 (l[j].toNat:Int)))
  (h:K (m7 l) w):L6 G.P { dst,op:=.convert 157 9 x,type:=ty,pos,after:=af,guard:=gd } env w K:=by
 subst hn;refine ⟨.inl ⟨_,w,?_,h⟩⟩;show (do pure (Next.value (← convert _ _ (ev env x))):Sem Next).run G.P w=_
 rw [hx,yq,run_convert_bytes_back (P:=G.P) w 157 9 5 ⟨b,0,none⟩ c l b40 c3f a9X (fun j hj=>by rw [H6,yZ,D2 hb];exact hc j hj)]
 rfl
theorem a41 (n:Int) (h0:0≤n) (h1:n≤63) (w:World):Calls G.P 62 #[.int .i64 n] w (N0 (m7 (Ch.v8 n)) w):=by
 refine zN func62 ?_;refine zG ?_;refine zR ?_;refine A8 T8 [.int .u8 (97+n%8)] ?_ (by simp [Value.cells]) rfl zd zd ?_
 ·rw [zb];have e1:IntKind.u8.wrap (IntKind.i64.wrap (97+n.tmod 8))=97+n%8:=by
   rw [a24 h0,g8 zo zo];simp [IntKind.wrap,IntKind.bits,IntKind.signed];omega
  rw [← e1];rfl
 refine zR ?_;refine a8S (Ch.v8 n) rfl rfl (d8 _ _) ?_ ?_
 ·intro j hj;have:j=0:=by simp [Ch.v8] at hj;omega
  subst this;simp [Value.cells,Ch.v8];omega
 refine zR ?_;exact ⟨rfl,Cl.alloc _ _⟩
theorem b01 (n:Int) (h0:0≤n) (h1:n≤63) (w:World):Calls G.P 63 #[.int .i64 n] w (N0 (m7 (Ch.B6 n)) w):=by
 refine zN func63 ?_;refine zG ?_;refine zR ?_;refine A8 T8 [.int .u8 (49+n/8)] ?_ (by simp [Value.cells]) rfl zd zd ?_
 ·rw [zb];have e1:IntKind.u8.wrap (IntKind.i64.wrap (49+IntKind.i64.wrap (n.tdiv 8)))=49+n/8:=by
   rw [a5W h0,g8 (n:=n/8) zo zo,g8 zo zo];simp [IntKind.wrap,IntKind.bits,IntKind.signed];omega
  rw [← e1];rfl
 refine zR ?_;refine a8S (Ch.B6 n) rfl rfl (d8 _ _) ?_ ?_
 ·intro j hj;have:j=0:=by simp [Ch.B6] at hj;omega
  subst this;simp [Value.cells,Ch.B6];omega
 refine zR ?_;exact ⟨rfl,Cl.alloc _ _⟩
theorem U1 (n:Int) (h0:-1000≤n) (h1:n≤1000) (w:World):Calls G.P 61 #[.int .i64 n] w (N0 (m7 (Ch.sqT n)) w):=by
 refine zN func61 ?_;refine zG ?_;refine zR ?_;apply E.d7<;>intro h
 ·refine zR ?_;exact ⟨B9 (by unfold Ch.sqT;rw [zM (.inl h)];rfl),Cl.refl _⟩
 ·have a:=h;clear h;refine zR ?_;apply E.d7<;>intro h
  ·refine zR ?_;exact ⟨B9 (by unfold Ch.sqT;rw [zM (.inr h)];rfl),Cl.refl _⟩
  ·refine zR ?_;refine o7 (a41 n zo zo _) fun w1 c1=>zR ?_;refine o7 (b01 n zo zo _) fun w2 c2=>zR ?_;exact ⟨B9 (by unfold Ch.sqT;rw [zJ zo];exact A6 _ _),c1.trans c2⟩
theorem W8 (n:Int):(Ch.sqT n).length≤2:=by
 unfold Ch.sqT;split
 ·simp
 ·simp [Ch.v8,Ch.B6]
theorem L7 (n:Int):(Ch.a2t n).length≤1:=by
 unfold Ch.a2t;iterate 5 (split;· simp)
 simp
theorem a8T {k:Int} (h:k<0∨6<k):Ch.a2t k=[]:=by
 unfold Ch.a2t;rw [zJ zo,zJ zo,zJ zo,zJ zo,zJ zo]
theorem a25 (k:Int) (w:World):Calls G.P 64 #[.int .i64 k] w (N0 (m7 (Ch.a2t k)) w):=by
 refine zN func64 ?_;refine zG ?_;refine zR ?_;refine A8 elStr [m7 [],m7 [75],m7 [81],m7 [82],m7 [66],m7 [78],m7 []] (by rw [zb];rfl) (by simp [Value.cells,m7]) rfl zd zd ?_
 have hr:=C7 o8 w [[],[75],[81],[82],[66],[78],[]] zd [m7 [],m7 [75],m7 [81],m7 [82],m7 [66],m7 [78],m7 []] rfl (e:=9) (z:=1);have c1:=Cl.alloc w (.cells (([m7 [],m7 [75],m7 [81],m7 [82],m7 [66],m7 [78],m7 []]:List Value).flatMap fun v=>v.cells.toList).toArray 9);generalize w.alloc (.cells (([m7 [],m7 [75],m7 [81],m7 [82],m7 [66],m7 [78],m7 []]:List Value).flatMap fun v=>v.cells.toList).toArray 9)=w1 at *;refine zR ?_;apply E.d7<;>intro h
 ·refine zR ?_;exact ⟨B9 (by rw [a8T zo];rfl),c1⟩
 ·have a:=h;clear h;refine zR ?_;apply E.d7<;>intro h
  ·refine zR ?_;exact ⟨B9 (by rw [a8T zo];rfl),c1⟩
  ·have hL:m9 G.P w1 9 ⟨w.heap.size,k.toNat,none⟩ (m7 (Ch.a2t k)):=by
    have hk:k=0∨k=1∨k=2∨k=3∨k=4∨k=5∨k=6:=by omega
    rcases hk with rfl|rfl|rfl|rfl|rfl|rfl|rfl
    ·exact P6 hr o8 0 0 zd zd rfl rfl rfl
    ·exact P6 hr o8 1 0 zd zd rfl rfl rfl
    ·exact P6 hr o8 2 0 zd zd rfl rfl rfl
    ·exact P6 hr o8 3 0 zd zd rfl rfl rfl
    ·exact P6 hr o8 4 0 zd zd rfl rfl rfl
    ·exact P6 hr o8 5 0 zd zd rfl rfl rfl
    ·exact P6 hr o8 6 0 zd zd rfl rfl rfl
   refine zR ?_;refine zC ?_;refine zR ?_;refine b7 (m7 (Ch.a2t k)) ?_ ?_
   ·simpa [E.s8] using hL
   refine zR ?_;exact ⟨rfl,c1⟩
theorem a2H (m:Mv) (w:World):Calls G.P 113 #[mvV m] w (N0 (m7 (Ch.a5C m)) w):=by
 refine zN func113 ?_;refine zG ?_;generalize hW:w.alloc (.cells (Z3 m) 36)=W0;have hM:∀ w',Cl W0 w'→w'.heap[w.heap.size]?=some (.cells (Z3 m) 36 (0,0)):=fun w' h=>(hW▸h:Cl (w.alloc (.cells (Z3 m) 36)) w').blk (d8 _ _);have hE:∀ w',Cl W0 w'→Cl w w':=fun w' h=>(Cl.alloc _ _).trans (hW▸h);refine zR ?_;refine b7 _ (U4 (hM _ (Cl.refl _))) (zR ?_);apply E.d7<;>intro h
 ·refine zR ?_;exact ⟨B9 (by unfold Ch.a5C;rw [zM h];rfl),hE _ (Cl.refl _)⟩
 ·refine zR ?_;refine b7 _ (U4 (hM _ (Cl.refl _))) (zR ?_);refine o7 (a25 m.promo _) fun w1 c1=>?_;have:=L7 m.promo;refine zR ?_;refine E.A1 (a23 (by simp only [C5];simp [ByteArray.size];omega)) (zR ?_)
  exact ⟨B9 (by unfold Ch.a5C;rw [zJ h];exact A6 [61] _),hE _ c1⟩
theorem b02 (m:Mv) (hm:b1s m) (w:World):Calls G.P 70 #[mvV m] w (N0 (m7 (Ch.b1R m)) w):=by
 obtain ⟨⟨a0,a1⟩,⟨b0,b1⟩,d0,d1⟩:=hm;refine zN func70 ?_;refine zG ?_;generalize hW:w.alloc (.cells (Z3 m) 36)=W0;have hM:∀ w',Cl W0 w'→w'.heap[w.heap.size]?=some (.cells (Z3 m) 36 (0,0)):=fun w' h=>(hW▸h:Cl (w.alloc (.cells (Z3 m) 36)) w').blk (d8 _ _);have hE:∀ w',Cl W0 w'→Cl w w':=fun w' h=>(Cl.alloc _ _).trans (hW▸h);refine zR ?_;refine A8 elStr [m7 [],m7 [107],m7 [113],m7 [114],m7 [98],m7 [110],m7 [112]] (by rw [zb];rfl) (by simp [Value.cells,m7]) rfl zd zd ?_
 have hr:=C7 o8 W0 [[],[107],[113],[114],[98],[110],[112]] zd [m7 [],m7 [107],m7 [113],m7 [114],m7 [98],m7 [110],m7 [112]] rfl (e:=9) (z:=1);have c1:=Cl.alloc W0 (.cells (([m7 [],m7 [107],m7 [113],m7 [114],m7 [98],m7 [110],m7 [112]]:List Value).flatMap fun v=>v.cells.toList).toArray 9);generalize W0.alloc (.cells (([m7 [],m7 [107],m7 [113],m7 [114],m7 [98],m7 [110],m7 [112]]:List Value).flatMap fun v=>v.cells.toList).toArray 9)=w1 at *;refine zR ?_;refine zK 8 ?_;refine zR ?_;refine l9 _ (fun w hw=>O1 (hM _ (c1.trans hw))) (zR ?_);refine D6 (m7 (Ch.sqT m.fr)) (fun _ _ h=>h.trans) (fun w _=>U1 m.fr zo zo w) (zR ?_);refine l9 _ (fun w hw=>a0v (hM _ (c1.trans hw))) (zR ?_);refine D6 (m7 (Ch.sqT m.to)) (fun _ _ h=>h.trans) (fun w _=>U1 m.to zo zo w) ?_;have l1:=W8 m.fr;have l2:=W8 m.to;refine zR ?_;refine E.A1 (y9 zo) ?_;rw [A6];refine zR ?_;intro w2 c2;have c12:=c1.trans c2;have hT:Ch.b1R m=Ch.sqT m.fr++Ch.sqT m.to++(if 0<m.promo∧m.promo<7 then Ch.a16 m.promo else []):=rfl
 generalize Ch.sqT m.fr=A at *;generalize Ch.sqT m.to=B at *;refine zR ?_;refine b7 _ (U4 (hM _ c12)) (zR ?_);apply E.d7<;>intro h
 ·have p0:=h;clear h;refine zR ?_;refine b7 _ (U4 (hM _ c12)) (zR ?_);apply E.d7<;>intro h
  ·have p7:m.promo<7:=h;clear h;rw [zM ⟨p0,p7⟩] at hT;have hL:m9 G.P w2 9 ⟨W0.heap.size,m.promo.toNat,none⟩ (m7 (Ch.a16 m.promo)):=by
    have hk:m.promo=1∨m.promo=2∨m.promo=3∨m.promo=4∨m.promo=5∨m.promo=6:=by omega
    have hr:=hr.step c2;rcases hk with e|e|e|e|e|e<;>rw [e]
    ·exact P6 hr o8 1 0 zd zd rfl rfl rfl
    ·exact P6 hr o8 2 0 zd zd rfl rfl rfl
    ·exact P6 hr o8 3 0 zd zd rfl rfl rfl
    ·exact P6 hr o8 4 0 zd zd rfl rfl rfl
    ·exact P6 hr o8 5 0 zd zd rfl rfl rfl
    ·exact P6 hr o8 6 0 zd zd rfl rfl rfl
   have hsl:(Ch.a16 m.promo).length≤1:=by
    unfold Ch.a16;iterate 6 (split;· simp)
    simp
   refine zR ?_;refine b7 _ (U4 (hM _ c12)) (zR ?_);refine zC ?_;refine zR ?_;refine b7 (m7 (Ch.a16 m.promo)) ?_ ?_
   ·simpa [E.s8] using hL
   refine zR ?_;refine E.A1 (y9 (by simp only [zF];omega)) ?_
   rw [A6];refine zR ?_;exact ⟨B9 (by rw [hT]),hE _ c12⟩
  ·rw [zJ (by have:¬ m.promo<7:=h;omega),zn] at hT
   refine zR ?_;exact ⟨B9 (by rw [hT]),hE _ c12⟩
 ·rw [zJ zo,zn] at hT;refine zR ?_;exact ⟨B9 (by rw [hT]),hE _ c12⟩
end
section
open Go.Shelf
def Tryz.lays170_ren:Go.Shelf.Ren:=⟨fun|170=>154|n=>n,fun|70=>158|3=>3|0=>0|72=>160|37=>157|5=>5|n=>n,fun|n=>n⟩
theorem Tryz.lays170:Go.Proofs.Lays.n170 Tryz.prog Tryz.lays170_ren:={
 mixed:=by kernel_rfl
 f170:=func154.trans (yM some zk)
 t0:=underlying0
 a0:=isAgg0
 z0:=sizeOf0
 v0:=zeroValue0
 t3:=underlying3
 a3:=isAgg3
 z3:=sizeOf3
 v3:=zeroValue3
 t37:=underlying157
 a37:=isAgg157
 z37:=sizeOf157
 v37:=zeroValue157
 t70:=underlying158
 a70:=isAgg158
 z70:=sizeOf158
 v70:=zeroValue158
 t72:=underlying160
 a72:=isAgg160
 z72:=sizeOf160
 v72:=zeroValue160 }
open Go.RowKit in
theorem Tryz.Builder_Len (B b:Nat) (bs:List Value) (w:World) (h:Lib.IsBuilder 160 5 B b bs w) :
  Calls Tryz.prog 154 #[.pointer (some ⟨b,0,none⟩)] w fun e w'=>e = .returned (.int .i64 bs.length)∧w'=w:=Any.Builder_Len Tryz.lays170 B b bs w h
def Tryz.lays169_ren:Go.Shelf.Ren:=⟨fun|169=>124|n=>n,fun|70=>158|9=>9|0=>0|72=>160|37=>157|127=>221|3=>3|5=>5|n=>n,fun|n=>n⟩
theorem Tryz.lays169:Go.Proofs.Lays.n169 Tryz.prog Tryz.lays169_ren:={
 mixed:=by kernel_rfl
 f169:=func124.trans (yM some zk)
 t0:=underlying0
 a0:=isAgg0
 z0:=sizeOf0
 v0:=zeroValue0
 t3:=underlying3
 a3:=isAgg3
 z3:=sizeOf3
 v3:=zeroValue3
 t9:=underlying9
 a9:=isAgg9
 z9:=sizeOf9
 v9:=zeroValue9
 t37:=underlying157
 a37:=isAgg157
 z37:=sizeOf157
 v37:=zeroValue157
 t70:=underlying158
 a70:=isAgg158
 z70:=sizeOf158
 v70:=zeroValue158
 t72:=underlying160
 a72:=isAgg160
 z72:=sizeOf160
 v72:=zeroValue160
 t127:=underlying221
 a127:=isAgg221
 z127:=sizeOf221
 v127:=zeroValue221 }
theorem Tryz.Builder_Extra_169:Builder.Extra Tryz.prog Tryz.lays169_ren:={
 sizeBuilder:=by kernel_rfl
 liesBuilder:=by kernel_rfl
 t5:=underlying5
 a5:=isAgg5
 z5:=sizeOf5
 v5:=zeroValue5
 infoByte:=by kernel_rfl
 cellsByte:=by kernel_rfl
 sizeByte:=by kernel_rfl
 neB5:=by decide }
open Go.RowKit in
theorem Tryz.Builder_String_any (B b:Nat) (l:List UInt8) (w:World) (h:Lib.IsBuilder 160 5 B b (Lib.byteCells l) w) (hBw:B≤w.heap.size) :
  Calls Tryz.prog 124 #[.pointer (some ⟨b,0,none⟩)] w fun e w'=>e = .returned (.string ⟨l.toArray⟩)∧Below B w w':=Any.Builder_String_any Tryz.lays169 Tryz.Builder_Extra_169 B b l w h hBw
def Tryz.lays165_ren:Go.Shelf.Ren:=⟨fun|165=>159|240=>183|241=>211|276=>229|277=>260|n=>n,fun|70=>158|3=>3|0=>0|4=>4|9=>9|20=>20|72=>160|37=>157|164=>264|5=>5|n=>n,fun|n=>n⟩
theorem Tryz.lays165:Go.Proofs.Lays.n165 Tryz.prog Tryz.lays165_ren:={
 mixed:=by kernel_rfl
 f165:=func159.trans (yM some zk)
 f240:=func183.trans (yM some zk)
 f241:=func211.trans (yM some zk)
 f276:=func229.trans (yM some zk)
 f277:=func260.trans (yM some zk)
 t0:=underlying0
 a0:=isAgg0
 z0:=sizeOf0
 v0:=zeroValue0
 t3:=underlying3
 a3:=isAgg3
 z3:=sizeOf3
 v3:=zeroValue3
 t4:=underlying4
 a4:=isAgg4
 z4:=sizeOf4
 v4:=zeroValue4
 t9:=underlying9
 a9:=isAgg9
 z9:=sizeOf9
 v9:=zeroValue9
 t20:=underlying20
 a20:=isAgg20
 z20:=sizeOf20
 v20:=zeroValue20
 t37:=underlying157
 a37:=isAgg157
 z37:=sizeOf157
 v37:=zeroValue157
 t70:=underlying158
 a70:=isAgg158
 z70:=sizeOf158
 v70:=zeroValue158
 t72:=underlying160
 a72:=isAgg160
 z72:=sizeOf160
 v72:=zeroValue160
 t164:=underlying264
 a164:=isAgg264
 z164:=sizeOf264
 v164:=zeroValue264 }
theorem Tryz.Builder_Extra_165:Builder.Extra Tryz.prog Tryz.lays165_ren:={
 sizeBuilder:=by kernel_rfl
 liesBuilder:=by kernel_rfl
 t5:=underlying5
 a5:=isAgg5
 z5:=sizeOf5
 v5:=zeroValue5
 infoByte:=by kernel_rfl
 cellsByte:=by kernel_rfl
 sizeByte:=by kernel_rfl
 neB5:=by decide }
open Go.RowKit in
theorem Tryz.Builder_Grow_fresh (B b n:Nat) (w:World) (hB:B≤b) (hbk:w.heap[b]?=some (.cells #[.pointer none,.slice none 0 0] 160 (0,0))) (hBw:B≤w.heap.size) (hn:n≤281474976710656) :
  Calls Tryz.prog 159 #[.pointer (some ⟨b,0,none⟩),.int .i64 n] w fun e w'=>e = .returned (.tuple #[])∧(Lib.BuilderAt 160 5 B b (.pointer (some ⟨b,0,none⟩)) [] w'∧Below B w w'):=Any.Builder_Grow_fresh Tryz.lays165 Tryz.Builder_Extra_165 B b n w hB hbk hBw hn
def Tryz.laysM171_ren:Go.Shelf.Ren:=⟨fun|171=>169|243=>213|246=>261|283=>288|284=>289|285=>290|286=>291|129=>228|317=>305|318=>306|319=>307|320=>308|337=>315|338=>316|n=>n,fun|3=>3|9=>9|2=>2|4=>4|171=>329|0=>0|53=>234|37=>157|5=>5|173=>331|212=>354|51=>262|20=>20|213=>355|46=>52|232=>373|233=>374|n=>n,fun|17=>16|18=>20|19=>21|n=>n⟩
theorem Tryz.laysM171:Go.Proofs.LaysM.n171 Tryz.prog Tryz.laysM171_ren:={
 mixed:=by kernel_rfl
 f129:=func228.trans (yM some zk)
 f171:=func169.trans (yM some zk)
 f243:=func213.trans (yM some zk)
 f246:=func261.trans (yM some zk)
 f283:=func288.trans (yM some zk)
 f284:=func289.trans (yM some zk)
 f285:=func290.trans (yM some zk)
 f286:=func291.trans (yM some zk)
 f317:=func305.trans (yM some zk)
 f318:=func306.trans (yM some zk)
 f319:=func307.trans (yM some zk)
 f320:=func308.trans (yM some zk)
 f337:=func315.trans (yM some zk)
 f338:=func316.trans (yM some zk)
 t0:=underlying0
 a0:=isAgg0
 z0:=sizeOf0
 v0:=zeroValue0
 t2:=underlying2
 a2:=isAgg2
 z2:=sizeOf2
 v2:=zeroValue2
 t3:=underlying3
 a3:=isAgg3
 z3:=sizeOf3
 v3:=zeroValue3
 t4:=underlying4
 a4:=isAgg4
 z4:=sizeOf4
 v4:=zeroValue4
 t5:=underlying5
 a5:=isAgg5
 z5:=sizeOf5
 v5:=zeroValue5
 t9:=underlying9
 a9:=isAgg9
 z9:=sizeOf9
 v9:=zeroValue9
 t20:=underlying20
 a20:=isAgg20
 z20:=sizeOf20
 v20:=zeroValue20
 t37:=underlying157
 a37:=isAgg157
 z37:=sizeOf157
 v37:=zeroValue157
 t46:=underlying52
 a46:=isAgg52
 z46:=sizeOf52
 v46:=zeroValue52
 t51:=underlying262
 a51:=isAgg262
 z51:=sizeOf262
 v51:=zeroValue262
 t53:=underlying234
 a53:=isAgg234
 z53:=sizeOf234
 v53:=zeroValue234
 t171:=underlying329
 a171:=isAgg329
 z171:=sizeOf329
 v171:=zeroValue329
 t173:=underlying331
 a173:=isAgg331
 z173:=sizeOf331
 v173:=zeroValue331
 t212:=underlying354
 a212:=isAgg354
 z212:=sizeOf354
 v212:=zeroValue354
 t213:=underlying355
 a213:=isAgg355
 z213:=sizeOf355
 t232:=underlying373
 a232:=isAgg373
 z232:=sizeOf373
 v232:=zeroValue373
 t233:=underlying374
 a233:=isAgg374
 z233:=sizeOf374
 v233:=zeroValue374
 g17:=by kernel_rfl
 g18:=by kernel_rfl
 g19:=by kernel_rfl
 i0:=by kernel_rfl
 i2:=by kernel_rfl
 i3:=by kernel_rfl
 i4:=by kernel_rfl
 i5:=by kernel_rfl
 i9:=by kernel_rfl
 i20:=by kernel_rfl
 i37:=by kernel_rfl
 i46:=by kernel_rfl
 i51:=by kernel_rfl
 i53:=by kernel_rfl
 i171:=by kernel_rfl
 i173:=by kernel_rfl
 i212:=by kernel_rfl
 i232:=by kernel_rfl
 i233:=by kernel_rfl
 m17:=by kernel_rfl
 m18:=by kernel_rfl
 m19:=by kernel_rfl }
open Go.RowKit Go.Sort Go.Lib in
theorem Tryz.strconv_Itoa (n:Int) (h0:-9223372036854775808≤n) (h1:n≤9223372036854775807) (w:World) (htab:Lib.TabIs Tryz.prog w "internal/strconv.uint64pow10" .u64 Lib.pow10Tab) :
  Calls Tryz.prog 169 #[.int .i64 n] w fun e w'=>e = .returned (.string ⟨(Lib.itoa n).toArray⟩)∧∃ k os,w'=grow (w.drewN k) os:=Any.strconv_Itoa Tryz.laysM171 n h0 h1 w htab
open Go.RowKit Go.Sort Go.Lib in
def Tryz.lays240_ren:Go.Shelf.Ren:=⟨fun|240=>183|276=>229|n=>n,fun|70=>158|3=>3|0=>0|4=>4|9=>9|20=>20|72=>160|37=>157|164=>264|5=>5|75=>80|80=>109|n=>n,fun|n=>n⟩
theorem Tryz.lays240:Go.Proofs.Lays.n240 Tryz.prog Tryz.lays240_ren:={
 mixed:=by kernel_rfl
 f240:=func183.trans (yM some zk)
 f276:=func229.trans (yM some zk)
 t0:=underlying0
 a0:=isAgg0
 z0:=sizeOf0
 v0:=zeroValue0
 t4:=underlying4
 a4:=isAgg4
 z4:=sizeOf4
 v4:=zeroValue4
 t9:=underlying9
 a9:=isAgg9
 z9:=sizeOf9
 v9:=zeroValue9
 t20:=underlying20
 a20:=isAgg20
 z20:=sizeOf20
 v20:=zeroValue20
 t70:=underlying158
 a70:=isAgg158
 z70:=sizeOf158
 v70:=zeroValue158
 t72:=underlying160
 a72:=isAgg160
 z72:=sizeOf160
 v72:=zeroValue160
 t164:=underlying264
 a164:=isAgg264
 z164:=sizeOf264
 v164:=zeroValue264 }
theorem Tryz.Builder_Extra_240:Builder.Extra Tryz.prog Tryz.lays240_ren:={
 sizeBuilder:=by kernel_rfl
 liesBuilder:=by kernel_rfl
 t5:=underlying5
 a5:=isAgg5
 z5:=sizeOf5
 v5:=zeroValue5
 infoByte:=by kernel_rfl
 cellsByte:=by kernel_rfl
 sizeByte:=by kernel_rfl
 neB5:=by decide }
def Tryz.lays167_ren:Go.Shelf.Ren:=⟨fun|167=>207|240=>183|276=>229|n=>n,fun|70=>158|3=>3|0=>0|4=>4|9=>9|20=>20|72=>160|37=>157|164=>264|5=>5|75=>80|80=>109|n=>n,fun|n=>n⟩
theorem Tryz.lays167:Go.Proofs.Lays.n167 Tryz.prog Tryz.lays167_ren:={
 mixed:=by kernel_rfl
 f167:=func207.trans (yM some zk)
 f240:=func183.trans (yM some zk)
 f276:=func229.trans (yM some zk)
 t0:=underlying0
 a0:=isAgg0
 z0:=sizeOf0
 v0:=zeroValue0
 t4:=underlying4
 a4:=isAgg4
 z4:=sizeOf4
 v4:=zeroValue4
 t5:=underlying5
 a5:=isAgg5
 z5:=sizeOf5
 v5:=zeroValue5
 t9:=underlying9
 a9:=isAgg9
 z9:=sizeOf9
 v9:=zeroValue9
 t20:=underlying20
 a20:=isAgg20
 z20:=sizeOf20
 v20:=zeroValue20
 t37:=underlying157
 a37:=isAgg157
 z37:=sizeOf157
 v37:=zeroValue157
 t70:=underlying158
 a70:=isAgg158
 z70:=sizeOf158
 v70:=zeroValue158
 t72:=underlying160
 a72:=isAgg160
 z72:=sizeOf160
 v72:=zeroValue160
 t75:=underlying80
 a75:=isAgg80
 z75:=sizeOf80
 v75:=zeroValue80
 t164:=underlying264
 a164:=isAgg264
 z164:=sizeOf264
 v164:=zeroValue264 }
theorem Tryz.Builder_Extra_167:Builder.Extra Tryz.prog Tryz.lays167_ren:={
 sizeBuilder:=by kernel_rfl
 liesBuilder:=by kernel_rfl
 t5:=underlying5
 a5:=isAgg5
 z5:=sizeOf5
 v5:=zeroValue5
 infoByte:=by kernel_rfl
 cellsByte:=by kernel_rfl
 sizeByte:=by kernel_rfl
 neB5:=by decide }
def Tryz.lays166_ren:Go.Shelf.Ren:=⟨fun|166=>118|240=>183|276=>229|n=>n,fun|70=>158|3=>3|0=>0|4=>4|9=>9|20=>20|72=>160|37=>157|164=>264|5=>5|75=>80|80=>109|n=>n,fun|n=>n⟩
theorem Tryz.lays166:Go.Proofs.Lays.n166 Tryz.prog Tryz.lays166_ren:={
 mixed:=by kernel_rfl
 f166:=func118.trans (yM some zk)
 f240:=func183.trans (yM some zk)
 f276:=func229.trans (yM some zk)
 t0:=underlying0
 a0:=isAgg0
 z0:=sizeOf0
 v0:=zeroValue0
 t3:=underlying3
 a3:=isAgg3
 z3:=sizeOf3
 v3:=zeroValue3
 t4:=underlying4
 a4:=isAgg4
 z4:=sizeOf4
 v4:=zeroValue4
 t9:=underlying9
 a9:=isAgg9
 z9:=sizeOf9
 v9:=zeroValue9
 t20:=underlying20
 a20:=isAgg20
 z20:=sizeOf20
 v20:=zeroValue20
 t37:=underlying157
 a37:=isAgg157
 z37:=sizeOf157
 v37:=zeroValue157
 t70:=underlying158
 a70:=isAgg158
 z70:=sizeOf158
 v70:=zeroValue158
 t72:=underlying160
 a72:=isAgg160
 z72:=sizeOf160
 v72:=zeroValue160
 t75:=underlying80
 a75:=isAgg80
 z75:=sizeOf80
 v75:=zeroValue80
 t164:=underlying264
 a164:=isAgg264
 z164:=sizeOf264
 v164:=zeroValue264 }
theorem Tryz.Builder_Extra_166:Builder.Extra Tryz.prog Tryz.lays166_ren:={
 sizeBuilder:=by kernel_rfl
 liesBuilder:=by kernel_rfl
 t5:=underlying5
 a5:=isAgg5
 z5:=sizeOf5
 v5:=zeroValue5
 infoByte:=by kernel_rfl
 cellsByte:=by kernel_rfl
 sizeByte:=by kernel_rfl
 neB5:=by decide }
open Go.RowKit
theorem Tryz.Builder_WriteByte (B b:Nat) (bs:List Value) (c:Int) (w:World) (h:Lib.IsBuilder 160 5 B b bs w) (hlen:bs.length+1≤140737488355328) (hBw:B≤w.heap.size) :
  Calls Tryz.prog 207 #[.pointer (some ⟨b,0,none⟩),.int .u8 c] w fun e w'=>e = .returned .nilIface∧(Lib.BuilderAt 160 5 B b (.pointer (some ⟨b,0,none⟩)) (bs++[.int .u8 c]) w'∧Below B w w'):=Any.Builder_WriteByte Tryz.lays167 Tryz.Builder_Extra_167 B b bs c w h hlen hBw
theorem Tryz.Builder_WriteString (B b:Nat) (bs:List Value) (s:ByteArray) (w:World) (h:Lib.IsBuilder 160 5 B b bs w) (hlen:bs.length+s.size≤140737488355328) (hBw:B≤w.heap.size) :
  Calls Tryz.prog 118 #[.pointer (some ⟨b,0,none⟩),.string s] w fun e w'=>e = .returned (.tuple #[.int .i64 s.size,.nilIface])∧(Lib.BuilderAt 160 5 B b (.pointer (some ⟨b,0,none⟩)) (bs++Lib.strCells s) w'∧Below B w w'):=Any.Builder_WriteString Tryz.lays166 Tryz.Builder_Extra_166 B b bs s w h hlen hBw
end
section
open Go Go.RowKit
open E
def b8W (body:C9→World→(Exit→C9→World→Prop)→Prop) (Q:Exit→C9→World→Prop):Nat→C9→World→Prop
 | 0,_,_=>False
 | k+1,e,w=>body e w (b1j (fun e2 w2=>b8W body Q k e2 w2) Q)
theorem a5e {body:Code} {e:C9} {w:World} {Q:Exit→C9→World→Prop} (k:Nat) (h:b8W (fun e w Q=>vc G body e w Q) Q k e w):b0l (fun e w Q=>vc G body e w Q) e w Q:=by
 refine ⟨fun n e1 w1=>b8W (fun e w Q=>vc G body e w Q) Q n e1 w1,k,h,?_⟩;intro n e1 w1 h1;cases n with
 | zero=>exact h1.elim
 | succ n =>
  refine a88 body e1 w1 _ _ ?_ h1;intro x e' w' _ hx;cases x<;>first
   | exact ⟨n,Nat.lt_succ_self _,hx⟩
   | exact hx
structure Bld (w0:World) (b:Nat) (l:Tx) (w:World):Prop where
 is:Lib.IsBuilder 160 5 w0.heap.size b (Lib.byteCells l) w
 cl:Cl w0 w
section bld
variable {w0 w w':World} {b:Nat} {l:Tx}
theorem b5S {T e:TypeId} {B b:Nat} {p:Value} {bs:List Value} (h:Lib.BuilderAt T e B b p bs w) (c:Cl w w'):Lib.BuilderAt T e B b p bs w':=by
 obtain ⟨h1,v,h2,h3,h4⟩:=h;refine ⟨h1,v,c.blk h2,⟨h3.1,?_⟩,h4⟩;rcases h3.2 with h5|⟨g,cap,cur,e1,e2,e3,e4⟩
 ·exact .inl h5
 ·exact .inr ⟨g,cap,cur,e1,e2,c.blk e3,e4⟩
theorem Bld.step (h:Bld w0 b l w) (c:Cl w w'):Bld w0 b l w' :=
 ⟨h.is.elim (fun h=>.inl (b5S h c)) (fun h=>.inr (b5S h c)),h.cl.trans c⟩
theorem Bld.new (w:World):Bld w w.heap.size [] (w.alloc (.cells #[.pointer none,.slice none 0 0] 160)) :=
 ⟨.inl ⟨yO _,.slice none 0 0,d8 _ _,⟨rfl,.inl ⟨rfl,rfl⟩⟩,by simp [Value.ownBlock]⟩,Cl.alloc _ _⟩
theorem Bld.below (h:Cl w0 w) (c:Below w0.heap.size w w'):Cl w0 w':=Below.trans h c
theorem b41 (n:Nat) (hn:n≤1000000) (hc:Cl w0 w) (hb:w0.heap.size≤b) (hk:w.heap[b]?=some (.cells #[.pointer none,.slice none 0 0] 160 (0,0))) :
  Calls G.P 159 #[.pointer (some ⟨b,0,none⟩),.int .i64 n] w (fun r w'=>r = .returned (.tuple #[])∧Bld w0 b [] w'):=by
 refine (Tryz.Builder_Grow_fresh w0.heap.size b n w hb hk hc.size zo).mono ?_;rintro r w' ⟨h1,h2,h3⟩;exact ⟨h1,.inr h2,Bld.below hc h3⟩
theorem a26 (c:UInt8) (h:Bld w0 b l w) (hl:l.length<1000000) :
  Calls G.P 207 #[.pointer (some ⟨b,0,none⟩),.int .u8 c.toNat] w (fun r w'=>r = .returned .nilIface∧Bld w0 b (l++[c]) w'):=by
 refine (Tryz.Builder_WriteByte w0.heap.size b _ c.toNat w h.is (by rw [Lib.byteCells_length];omega) h.cl.size).mono ?_
 rintro r w' ⟨h1,h2,h3⟩;refine ⟨h1,.inr ?_,Bld.below h.cl h3⟩;rw [Lib.byteCells_append];exact h2
theorem G6 (s:Tx) (h:Bld w0 b l w) (hl:l.length<1000000) (hs:s.length<1000000) :
  Calls G.P 118 #[.pointer (some ⟨b,0,none⟩),.string (tx s)] w (fun r w'=>r = .returned (.tuple #[.int .i64 s.length,.nilIface])∧Bld w0 b (l++s) w'):=by
 refine (Tryz.Builder_WriteString w0.heap.size b _ (tx s) w h.is (by rw [Lib.byteCells_length,C5];omega) h.cl.size).mono ?_
 rintro r w' ⟨h1,h2,h3⟩;refine ⟨by rw [h1,C5],.inr ?_,Bld.below h.cl h3⟩
 rw [Lib.byteCells_append];exact h2
theorem a2m (h:Bld w0 b l w) :
  Calls G.P 124 #[.pointer (some ⟨b,0,none⟩)] w (fun r w'=>r = .returned (m7 l)∧Cl w0 w'):=by
 refine (Tryz.Builder_String_any w0.heap.size b l w h.is h.cl.size).mono ?_;rintro r w' ⟨h1,h3⟩;exact ⟨h1,Bld.below h.cl h3⟩
theorem c3g (h:Bld w0 b l w) :
  Calls G.P 154 #[.pointer (some ⟨b,0,none⟩)] w (E8 (.int .i64 l.length) w):=by
 refine (Tryz.Builder_Len w0.heap.size b _ w h.is).mono ?_;rintro r w' ⟨h1,h3⟩;exact ⟨by rw [h1,Lib.byteCells_length],h3⟩
end bld
theorem b42:(G.P.info? 160).bind (·.zero)=some (.agg #[.pointer none,.slice none 0 0]):=by kernel_rfl
theorem b03 (c:UInt8) (hc:c=107∨c=113) (w:World):Calls G.P 214 #[m7 [c]] w (N0 (m7 [c-32]) w):=by
 rcases hc with rfl|rfl
 ·refine zN func214 ?_;refine zR ?_;refine a5e 2 (zR ?_);refine s7 _ b42 (zR ?_);refine m8 (b41 1 zd (Cl.alloc w (.cells (Value.agg #[.pointer none,.slice none 0 0]).cells 160)) (yO _) (d8 _ _)) ?_;rintro r w1 ⟨rfl,h1⟩;refine ⟨_,rfl,zR ?_⟩;refine a5e 2 (zR ?_);refine m8 (a26 (l:=[]) 75 h1 zd) ?_;rintro r w2 ⟨rfl,h2⟩;refine ⟨_,rfl,zR ?_⟩;refine m8 (a2m h2) ?_;rintro r w3 ⟨rfl,c3⟩;refine ⟨_,rfl,zR ?_⟩;exact ⟨rfl,c3⟩
 ·refine zN func214 ?_;refine zR ?_;refine a5e 2 (zR ?_);refine s7 _ b42 (zR ?_);refine m8 (b41 1 zd (Cl.alloc w (.cells (Value.agg #[.pointer none,.slice none 0 0]).cells 160)) (yO _) (d8 _ _)) ?_;rintro r w1 ⟨rfl,h1⟩;refine ⟨_,rfl,zR ?_⟩;refine a5e 2 (zR ?_);refine m8 (a26 (l:=[]) 81 h1 zd) ?_;rintro r w2 ⟨rfl,h2⟩;refine ⟨_,rfl,zR ?_⟩;refine m8 (a2m h2) ?_;rintro r w3 ⟨rfl,c3⟩;refine ⟨_,rfl,zR ?_⟩;exact ⟨rfl,c3⟩
theorem a3y {n:Nat} (h:n<2^64):IntKind.u64.wrap (n:Int)=n:=by
 simp [IntKind.wrap,IntKind.bits,IntKind.signed];omega
theorem b5T (n:Nat):IntKind.u64.wrap (n:Int)=((n%2^64:Nat):Int):=by
 simp [IntKind.wrap,IntKind.bits,IntKind.signed]
theorem a1S {n:Nat} (h:n<2^64):(BitVec.ofInt 64 (n:Int)).toNat=n:=by
 rw [BitVec.ofInt_natCast,BitVec.toNat_ofNat,wF h]
theorem c3S {a b:Nat} {K:Int→Prop} (ha:a<2^64) (hb:b<2^64) (h:K ((a &&& b:Nat):Int)):∀ r:Int,r=a0S .and .u64 a b→K r:=by
 intro r hr;have e:a0S .and .u64 a b=((a &&& b:Nat):Int):=by
  show IntKind.u64.wrap ((BitVec.ofInt 64 (a:Int) &&& BitVec.ofInt 64 (b:Int)).toNat:Int)=_;rw [BitVec.toNat_and,a1S ha,a1S hb,a3y (yw _ hb)]
 rw [hr,e];exact h
theorem bOr {a b:Nat} {K:Int→Prop} (ha:a<2^64) (hb:b<2^64) (h:K ((a ||| b:Nat):Int)):∀ r:Int,r=a0S .or .u64 a b→K r:=by
 intro r hr;have e:a0S .or .u64 a b=((a ||| b:Nat):Int):=by
  show IntKind.u64.wrap ((BitVec.ofInt 64 (a:Int) ||| BitVec.ofInt 64 (b:Int)).toNat:Int)=_
  rw [BitVec.toNat_or,a1S ha,a1S hb,a3y (yy ha hb)]
 rw [hr,e];exact h
theorem c5u {a b:Nat} {K:Int→Prop} (ha:a<2^64) (hb:b<2^64) (h:K ((a ^^^ b:Nat):Int)):∀ r:Int,r=a0S .xor .u64 a b→K r:=by
 intro r hr;have e:a0S .xor .u64 a b=((a ^^^ b:Nat):Int):=by
  show IntKind.u64.wrap ((BitVec.ofInt 64 (a:Int) ^^^ BitVec.ofInt 64 (b:Int)).toNat:Int)=_;rw [BitVec.toNat_xor,a1S ha,a1S hb,a3y (Nat.xor_lt_two_pow ha hb)]
 rw [hr,e];exact h
theorem c6I {a:Nat} {K:Int→Prop} (ha:a<2^64) (h:K ((Bb.not a:Nat):Int)):∀ r:Int,r=a0S .xor .u64 (if IntKind.u64.signed then -1 else IntKind.u64.max) a→K r:=by
 intro r hr;have e:(if IntKind.u64.signed then -1 else IntKind.u64.max)=((2^64-1:Nat):Int):=by decide
 rw [e] at hr;refine c5u (K:=K) zd ha ?_ r hr;rw [Nat.xor_comm];exact h
theorem c3T {a:Nat} {k:Nat} {K:Int→Prop} (hk:k<64) (h:K ((Ch.shl a k:Nat):Int)):∀ r:Int,r=IntKind.u64.wrap ((a:Int)*2^(min (Int.toNat (k:Int)) IntKind.u64.bits))→K r:=by
 intro r hr;have e:(a:Int)*2^(min (Int.toNat (k:Int)) IntKind.u64.bits)=((a <<< k:Nat):Int):=by
  rw [show min (Int.toNat (k:Int)) IntKind.u64.bits=k by show min _ 64=k;rw [zg];omega,Nat.shiftLeft_eq]
  push_cast;rfl
 rw [hr,e,b5T];exact h
theorem c5v {a:Nat} {k:Nat} {K:Int→Prop} (hk:k≤64) (h:K ((a >>> k:Nat):Int)):∀ r:Int,r=Int.fdiv (a:Int) (2^(min (Int.toNat (k:Int)) IntKind.u64.bits))→K r:=by
 intro r hr;have e:Int.fdiv (a:Int) (2^(min (Int.toNat (k:Int)) IntKind.u64.bits))=((a >>> k:Nat):Int):=by
  rw [show min (Int.toNat (k:Int)) IntKind.u64.bits=k by show min _ 64=k;rw [zg];omega,Nat.shiftRight_eq_div_pow]
  rw [show (2:Int)^k=((2^k:Nat):Int) by push_cast;rfl]
  rw [Int.fdiv_eq_ediv_of_nonneg _ (Int.natCast_nonneg _)];rfl
 rw [hr,e];exact h
theorem b5U {a b:Nat} (ha:a<2^64) (hb:b<2^64):IntKind.u64.wrap ((a:Int)-b)=((Bb.sub a b:Nat):Int):=by
 unfold Bb.sub;rw [wF hb];simp [IntKind.wrap,IntKind.bits,IntKind.signed];omega
theorem b5V (a:Nat):IntKind.u64.wrap (2*(a:Int))=((2*a%2^64:Nat):Int):=by
 rw [← b5T];push_cast;rfl
class J6 (a:Nat):Prop where
 lt:a<2^64
theorem J6.of {a:Nat} [h:J6 a]:a<2^64:=h.lt
instance:J6 0:=⟨zd⟩
instance:J6 1:=⟨zd⟩
instance:J6 63:=⟨zd⟩
instance:J6 6148914691236517205:=⟨zd⟩
instance:J6 3689348814741910323:=⟨zd⟩
instance:J6 1085102592571150095:=⟨zd⟩
instance:J6 71777214294589695:=⟨zd⟩
instance:J6 281470681808895:=⟨zd⟩
instance:J6 18374403900871474942:=⟨zd⟩
instance:J6 72057594037927935:=⟨zd⟩
instance:J6 9187201950435737471:=⟨zd⟩
instance:J6 18446744073709551360:=⟨zd⟩
instance:J6 280375465082880:=⟨zd⟩
instance:J6 16711680:=⟨zd⟩
instance:J6 71776119061217280:=⟨zd⟩
instance:J6 1095216660480:=⟨zd⟩
instance:J6 4278190080:=⟨zd⟩
instance:J6 65280:=⟨zd⟩
class Sh (k:Nat):Prop where
 le:k≤63
instance:Sh 1:=⟨zd⟩
instance:Sh 2:=⟨zd⟩
instance:Sh 4:=⟨zd⟩
instance:Sh 7:=⟨zd⟩
instance:Sh 8:=⟨zd⟩
instance:Sh 9:=⟨zd⟩
instance:Sh 16:=⟨zd⟩
instance:Sh 32:=⟨zd⟩
instance andL {a b:Nat} [h:J6 a]:J6 (a &&& b):=⟨wG Nat.and_le_left h.lt⟩
instance andR {a b:Nat} [h:J6 b]:J6 (a &&& b):=⟨yw _ h.lt⟩
instance {a b:Nat} [h:J6 a] [h':J6 b]:J6 (a ||| b):=⟨yy h.lt h'.lt⟩
instance {a b:Nat} [h:J6 a] [h':J6 b]:J6 (a ^^^ b):=⟨Nat.xor_lt_two_pow h.lt h'.lt⟩
instance {a:Nat} [h:J6 a]:J6 (Bb.not a):=⟨Bb.not_lt h.lt⟩
instance {a k:Nat}:J6 (Ch.shl a k):=⟨Ch.a8M a k⟩
instance {a k:Nat} [h:J6 a]:J6 (a >>> k):=⟨Ch.b86 k h.lt⟩
instance {a b:Nat}:J6 (Bb.sub a b):=⟨Nat.mod_lt _ zd⟩
instance {a:Nat}:J6 (2*a%2^64):=⟨Nat.mod_lt _ zd⟩
instance {s:Nat}:J6 (Bb.E9 s):=⟨Bb.a3O s⟩
instance {f:Nat→Bool}:J6 (Bb.bb f):=⟨Bb.S7 f⟩
theorem bA {a b:Nat} {K:Int→Prop} [ha:J6 a] [hb:J6 b] (h:K ((a &&& b:Nat):Int)):∀ r:Int,r=a0S .and .u64 a b→K r:=c3S ha.lt hb.lt h
theorem bO {a b:Nat} {K:Int→Prop} [ha:J6 a] [hb:J6 b] (h:K ((a ||| b:Nat):Int)):∀ r:Int,r=a0S .or .u64 a b→K r:=bOr ha.lt hb.lt h
theorem bX {a b:Nat} {K:Int→Prop} [ha:J6 a] [hb:J6 b] (h:K ((a ^^^ b:Nat):Int)):∀ r:Int,r=a0S .xor .u64 a b→K r:=c5u ha.lt hb.lt h
theorem bN {a:Nat} {K:Int→Prop} [ha:J6 a] (h:K ((Bb.not a:Nat):Int)):∀ r:Int,r=a0S .xor .u64 (if IntKind.u64.signed then -1 else IntKind.u64.max) a→K r:=c6I ha.lt h
theorem bB {a n:Nat} {K:Int→Prop} [ha:J6 a] [hb:J6 (OfNat.ofNat n)] (h:K ((a &&& OfNat.ofNat n:Nat):Int)):∀ r:Int,r=a0S .and .u64 a (OfNat.ofNat n)→K r:=c3S ha.lt hb.lt h
theorem bL {a n:Nat} {K:Int→Prop} [hk:Sh (OfNat.ofNat n)] (h:K ((Ch.shl a (OfNat.ofNat n):Nat):Int)):∀ r:Int,r=IntKind.u64.wrap ((a:Int)*2^(min (Int.toNat (OfNat.ofNat n)) IntKind.u64.bits))→K r:=c3T (k:=OfNat.ofNat n) (by have:=hk.le;omega) h
theorem bR {a n:Nat} {K:Int→Prop} [hk:Sh (OfNat.ofNat n)] (h:K ((a >>> (OfNat.ofNat n:Nat):Nat):Int)):∀ r:Int,r=Int.fdiv (a:Int) (2^(min (Int.toNat (OfNat.ofNat n)) IntKind.u64.bits))→K r:=c5v (k:=OfNat.ofNat n) (by have:=hk.le;omega) h
theorem b12 {a b:Nat} (h:b<2^64):a &&& b<2^64:=yw _ h
theorem b8X {a b:Nat} (h:a<2^64) (h':b<2^64):a ||| b<2^64:=yy h h'
theorem b8Y (a:Nat):2*a%2^64<2^64:=Nat.mod_lt _ zd
theorem zI {A B:Prop} (h:B) (e:B→A:=by (intro h;(with_reducible first|refine bA ?_|refine bB ?_|refine bO ?_|refine bX ?_|refine bN ?_|refine bL ?_|refine bR ?_);exact h)):A:=e h
theorem zS {A B:Prop} (h:B) (e:B→A:=by (intro h;((repeat ((refine zR ?_);(with_reducible first|refine bA ?_|refine bB ?_|refine bO ?_|refine bX ?_|refine bN ?_|refine bL ?_|refine bR ?_)));refine zR ?_);exact h)):A:=e h
theorem a42 {x:Nat} (k m:Nat) (hm:m<2^64):J6 (Bb.a0A x k m):=⟨b8X (b12 hm) (Ch.a8M _ _)⟩
instance rev_lt {x:Nat}:J6 (Bb.rev x):=⟨b8X (Ch.b86 _ (a42 _ _ zd).lt) (Ch.a8M _ _)⟩
theorem a6O (x V:Nat) [hx:J6 x] (hV:V=((Bb.a0A (Bb.a0A x 8 71777214294589695) 16 281470681808895) >>> 32 ||| Ch.shl (Bb.a0A (Bb.a0A x 8 71777214294589695) 16 281470681808895) 32)) (w:World):Calls G.P 320 #[.int .u64 x] w (E8 (.int .u64 V) w):=by
 refine zN func320 ?_;(iterate 5 ((refine zR ?_);refine zI ?_))
 rw [show ((x >>> 8 &&& 71777214294589695) ||| Ch.shl (x &&& 71777214294589695) 8)=Bb.a0A x 8 71777214294589695 from rfl]
 have hy:=a42 (x:=x) 8 71777214294589695 zd;generalize Bb.a0A x 8 71777214294589695=y at *;(iterate 5 ((refine zR ?_);refine zI ?_))
 rw [show ((y >>> 16 &&& 281470681808895) ||| Ch.shl (y &&& 281470681808895) 16)=Bb.a0A y 16 281470681808895 from rfl]
 have hz:=a42 (x:=y) 16 281470681808895 zd;generalize Bb.a0A y 16 281470681808895=z at *;refine zS ?_;subst hV;exact ⟨rfl,rfl⟩
theorem c3U (x:Nat):Bb.rev x=((Bb.a0A (Bb.a0A (Bb.a0A (Bb.a0A (Bb.a0A x 1 6148914691236517205) 2 3689348814741910323) 4 1085102592571150095) 8 71777214294589695) 16 281470681808895) >>> 32 ||| Ch.shl (Bb.a0A (Bb.a0A (Bb.a0A (Bb.a0A (Bb.a0A x 1 6148914691236517205) 2 3689348814741910323) 4 1085102592571150095) 8 71777214294589695) 16 281470681808895) 32):=rfl
theorem b2J (x:Nat) [hx:J6 x] (w:World):Calls G.P 314 #[.int .u64 x] w (E8 (.int .u64 (Bb.rev x)) w):=by
 have hV:=c3U x;generalize Bb.rev x=V at *;refine zN func314 ?_;(iterate 5 ((refine zR ?_);refine zI ?_))
 rw [show ((x >>> 1 &&& 6148914691236517205) ||| Ch.shl (x &&& 6148914691236517205) 1)=Bb.a0A x 1 6148914691236517205 from rfl]
 have hy:=a42 (x:=x) 1 6148914691236517205 zd;generalize Bb.a0A x 1 6148914691236517205=y at *;(iterate 5 ((refine zR ?_);refine zI ?_))
 rw [show ((y >>> 2 &&& 3689348814741910323) ||| Ch.shl (y &&& 3689348814741910323) 2)=Bb.a0A y 2 3689348814741910323 from rfl]
 have hz:=a42 (x:=y) 2 3689348814741910323 zd;generalize Bb.a0A y 2 3689348814741910323=z at *;(iterate 5 ((refine zR ?_);refine zI ?_))
 rw [show ((z >>> 4 &&& 1085102592571150095) ||| Ch.shl (z &&& 1085102592571150095) 4)=Bb.a0A z 4 1085102592571150095 from rfl]
 have hu:=a42 (x:=z) 4 1085102592571150095 zd;generalize Bb.a0A z 4 1085102592571150095=u at *;have c1:=fun w=>a6O u V hV w;clear hV;refine zR ?_;refine g7 (c1 _) (zR ?_);exact ⟨rfl,rfl⟩
theorem a6P (x:Nat) [hx:J6 x] (w:World):Calls G.P 304 #[.int .u64 x] w (E8 (.int .u64 (Bb.rev x)) w):=by
 refine zN func304 ?_;refine zR ?_;refine g7 (b2J x _) ?_;generalize Bb.rev x=r;refine zR ?_;exact ⟨rfl,rfl⟩
theorem a0K (o p m:Nat) [ho:J6 o] [hp:J6 p] [hm:J6 m] (w:World):Calls G.P 283 #[.int .u64 o,.int .u64 p,.int .u64 m] w (E8 (.int .u64 (Bb.lin o p m)) w):=by
 have hL:Bb.lin o p m=((Bb.sub (o &&& m) (2*p%2^64)) ^^^ Bb.rev (Bb.sub (Bb.rev (o &&& m)) (2*Bb.rev p%2^64))) &&& m:=rfl;have c1:=fun w=>a6P (o &&& m) w;have c2:=fun w=>a6P p w;have r1:J6 (Bb.rev (o &&& m)):=rev_lt;have r2:J6 (Bb.rev p):=rev_lt;rw [hL];generalize Bb.rev (o &&& m)=R1 at *;generalize Bb.rev p=R2 at *;have e1:=b5V p;have e2:=b5V R2;have e3:=b5U (a:=o &&& m) (b12 hm.lt) (b8Y p);have e4:=b5U r1.lt (b8Y R2);have c3:=fun w=>a6P (Bb.sub R1 (2*R2%2^64)) w;have r3:J6 (Bb.rev (Bb.sub R1 (2*R2%2^64))):=rev_lt;generalize Bb.rev (Bb.sub R1 (2*R2%2^64))=R3 at *;refine zN func283 ?_;refine zS ?_;simp only [e1,e3];refine g7 (c1 _) (zR ?_);refine g7 (c2 _) (zR ?_);simp only [e2,e4];refine g7 (c3 _) ?_;have s1:J6 (Bb.sub (o &&& m) (2*p%2^64)):=inferInstance;generalize Bb.sub (o &&& m) (2*p%2^64)=S1 at *;refine zS ?_;exact ⟨rfl,rfl⟩
end
