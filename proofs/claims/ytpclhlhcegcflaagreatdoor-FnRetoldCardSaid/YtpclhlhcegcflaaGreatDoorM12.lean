/- One part of the proof: Pk3 Pk4 Pk5 PkL. -/
import Derived.Test.YtpclhlhcegcflaaGreatDoorM1
import Derived.Test.YtpclhlhcegcflaaGreatDoorM3
import Derived.Test.YtpclhlhcegcflaaGreatDoorM9
import Derived.Test.YtpclhlhcegcflaaGreatDoorM11
namespace Go.Proofs.YtpclhlhcegcflaaGreatDoor
set_option maxRecDepth 100000
set_option linter.unusedSimpArgs false
set_option linter.unusedVariables false
section
open Go Go.RowKit
open E
def a1J (t:Nat):Bool:=!(Nat.beq t 173||Nat.beq t 237||Nat.beq t 141||Nat.beq t 131)
def Y2 (w:World) (g n:Nat) (f:Nat→Value):Prop:=∃ cs t fz,w.heap[g]?=some (.cells cs t fz)∧a1J t=true∧∀ i,i<n→cs[i]?=some (f i)
theorem Y2.cl {w w':World} {g n:Nat} {f:Nat→Value} (h:Y2 w g n f) (hc:Cl w w'):Y2 w' g n f:=by
 obtain ⟨cs,t,fz,h1,h2,h3⟩:=h;exact ⟨cs,t,fz,hc.blk h1,h2,h3⟩
theorem I0 {w:World} {g n i o t:Nat} {f:Nat→Value} (h:Y2 w g n f) (hi:i<n) (ho:o=i) (ht:a41 (P1 G.T t)=true):l8 G.P w t ⟨g,o,none⟩ (f i):=by
 obtain ⟨cs,u,fz,h1,h2,h3⟩:=h;subst ho;exact W1 h1 (h3 _ hi) ht
def a6q (w:World) (g o n:Nat) (f:Nat→Value):Prop:=∃ cs t fz,w.heap[g]?=some (.cells cs t fz)∧a1J t=true∧∀ i,i<n→cs[o+i]?=some (f i)
theorem a6q.cl {w w':World} {g o n:Nat} {f:Nat→Value} (h:a6q w g o n f) (hc:Cl w w'):a6q w' g o n f:=by
 obtain ⟨cs,t,fz,h1,h2,h3⟩:=h;exact ⟨cs,t,fz,hc.blk h1,h2,h3⟩
theorem a5y {w:World} {g o n i a t:Nat} {f:Nat→Value} (h:a6q w g o n f) (hi:i<n) (ha:a=E.W6 o ((i:Int)).toNat 1) (ht:a41 (P1 G.T t)=true):l8 G.P w t ⟨g,a,none⟩ (f i):=by
 obtain ⟨cs,u,fz,h1,h2,h3⟩:=h;subst ha;rw [E.z6,Int.toNat_natCast,Nat.mul_one];exact W1 h1 (h3 _ hi) ht
def a6r (w:World) (g n:Nat) (f:Nat→Value):Prop:=∃ k o c,Y2 w g 1 (fun _=>.slice (some ⟨k,o,none⟩) n c)∧a6q w k o n f
theorem a6r.cl {w w':World} {g n:Nat} {f:Nat→Value} (h:a6r w g n f) (hc:Cl w w'):a6r w' g n f:=by
 obtain ⟨k,o,c,h1,h2⟩:=h;exact ⟨k,o,c,h1.cl hc,h2.cl hc⟩
def wfenL:List Nat:=[0,75,81,82,66,78,80]
def bfenL:List Nat:=[0,107,113,114,98,110,112]
def a28 (c:Nat):Int:=if c=75 then 1 else if c=81 then 2 else if c=82 then 3 else if c=66 then 4 else if c=78 then 5 else if c=80 then 6
 else if c=107 then 7 else if c=113 then 8 else if c=114 then 9 else if c=98 then 10 else if c=110 then 11 else if c=112 then 12 else 0
structure C1 (w:World):Prop where
 dia:Y2 w 9 64 (fun i=>.int .u64 (Bb.mask 2 i))
 anti:Y2 w 10 64 (fun i=>.int .u64 (Bb.mask 3 i))
 ranks:Y2 w 11 8 (fun i=>.int .u64 (Bb.mask 0 (8*i)))
 files:Y2 w 12 8 (fun i=>.int .u64 (Bb.mask 1 i))
 kn:Y2 w 2 64 (fun i=>.int .u64 (Ch.kn i))
 kg:Y2 w 3 64 (fun i=>.int .u64 (Ch.kg i))
 all:a6r w 0 12 (fun i=>.int .i8 ((i:Int)+1))
 promo:a6r w 4 4 (fun i=>.int .i8 ((i:Int)+2))
 wfen:Y2 w 5 7 (fun i=>.int .u8 (wfenL.getD i 0))
 bfen:Y2 w 6 7 (fun i=>.int .u8 (bfenL.getD i 0))
 fen:Y2 w 8 128 (fun i=>.int .i8 (a28 i))
theorem C1.cl {w w':World} (h:C1 w) (hc:Cl w w'):C1 w' :=
 ⟨h.dia.cl hc,h.anti.cl hc,h.ranks.cl hc,h.files.cl hc,h.kn.cl hc,h.kg.cl hc,h.all.cl hc,h.promo.cl hc,h.wfen.cl hc,h.bfen.cl hc,h.fen.cl hc⟩
theorem C2 {i:Nat} (h:i<1000000):IntKind.i64.wrap ((i:Int)+1)=((i+1:Nat):Int):=by rw [g7 zo zo];push_cast;rfl
theorem J3 (t c:Int) (t1:1≤t) (t6:t≤6) (hc:c=1∨c=2) (w:World) (hT:C1 w):Calls G.P 246 #[.int .i8 t,.int .i8 c] w (D5 (.int .i8 (t+6*(c-1))) w):=by
 obtain ⟨g,og,cp,h1,h2⟩:=hT.all;refine zN Tryz.func246 ?_;refine zR ?_;refine d7 _ (I0 h1 (i:=0) zd rfl rfl) (zR ?_);refine A9 (σ:=Nat) [4,6,9] 10 (fun i=>[(9,.int .i64 i)]) (fun i w'=>i≤12∧w'=w∧(i:Int)≤t+6*(c-1)-1) (fun i=>12-i) zk 0 ⟨zo,rfl,zo⟩ ⟨rfl,trivial⟩ ?_;rintro i j w2 ⟨hi,rfl,hlt⟩;have ni:=C2 (i:=i) zo;have hi2:i<12:=by omega
 refine zR ?_;refine E.D4 zo (zR ?_);refine zC ?_;refine zR ?_;refine d7 _ (a5y h2 (i:=i) hi2 rfl rfl) (zR ?_);refine d9 (a4G _ zo zo _) ?_;have hcol:colM ((i:Int)+1)=if i<6 then 1 else 2:=by
  unfold colM Ch.t8;rw [if_neg zo];split<;>split<;>omega
 have htyp:Ch.kindOf ((i:Int)+1)=if i<6 then (i:Int)+1 else (i:Int)-5:=by
  unfold Ch.kindOf;split<;>split<;>omega
 have hty:=a0C ((i:Int)+1) zo zo w2;generalize colM ((i:Int)+1)=cc at *;generalize Ch.kindOf ((i:Int)+1)=kk at *;refine zR ?_;apply E.b7<;>intro h
 ·have e1:=h;clear h;refine zR ?_;refine d9 hty (zR ?_);apply E.b7<;>intro h
  ·refine zR ?_;refine ⟨C3 ?_,rfl⟩;split at hcol<;>split at htyp<;>omega
  ·refine zR ?_;refine ⟨i+1,⟨m7 ni,trivial⟩,⟨zo,rfl,?_⟩,zo⟩;split at hcol<;>split at htyp<;>omega
 ·refine zR ?_;refine ⟨i+1,⟨m7 ni,trivial⟩,⟨zo,rfl,?_⟩,zo⟩;split at hcol<;>omega
def MB.from (B:MB) (s:Nat):Nat→Nat→Int
 | 0,_=>0
 | n+1,x=>if (B.f x).testBit (63-s) then (x:Int)+1 else B.from s n (x+1)
def MB.at (B:MB) (s:Nat):Int:=B.from s 12 0
theorem MB.from_range (B:MB) (s:Nat):∀ n x,x+n=12→0≤B.from s n x∧B.from s n x≤12:=by
 intro n
 induction n with
 | zero=>intro x _;simp [MB.from]
 | succ n ih =>
  intro x hx;unfold MB.from;split
  ·omega
  ·exact ih (x+1) zo
theorem MB.at_range (B:MB) (s:Nat):0≤B.at s∧B.at s≤12:=MB.from_range B s 12 0 rfl
theorem W2 (B:MB) [hO:B.Ok] (b:Nat) {t:Nat} {fz:Nat×Nat} (s:Nat) (hs:s<64) (w:World) (hT:C1 w) (hb:w.heap[b]?=some (.cells (mbA B) t fz)) :
  Calls G.P 150 #[.pointer (some ⟨b,0,none⟩),.int .i8 s] w (D5 (.int .i8 (B.at s)) w):=by
 obtain ⟨g,og,cp,h1,h2⟩:=hT.all;refine zN Tryz.func150 ?_;refine zR ?_;refine d7 _ (I0 h1 (i:=0) zd rfl rfl) (zR ?_);refine A9 (σ:=Nat) [4,6,7,10] 11 (fun i=>[(10,.int .i64 i)]) (fun i w'=>i≤12∧w'=w∧B.at s=B.from s (12-i) i) (fun i=>12-i) zk 0 ⟨zo,rfl,rfl⟩ ⟨rfl,trivial⟩ ?_;rintro i j w2 ⟨hi,rfl,hat⟩;have ni:=C2 (i:=i) zo;refine zR ?_;apply E.b7<;>intro h
 ·have hi2:i<12:=by omega
  clear h;obtain ⟨k,hk⟩:∃ k,12-i=k+1:=⟨11-i,zo⟩;have hk2:12-(i+1)=k:=by omega
  rw [hk] at hat;unfold MB.from at hat;have hof:B.of ((i:Int)+1)=B.f i:=by unfold MB.of;rw [if_neg zo];congr 1
  have hc1:=fun w h=>K8 B b (t:=t) (fz:=fz) ((i:Int)+1) zo zo w h;rw [hof] at hc1;have hc2:=fun w=>a1u (B.f i) s hs w;have hX:L64 (B.f i):=inferInstance;generalize B.f i=X at *;generalize hY:X.testBit (63-s)=Y at *;refine zR ?_;refine zC ?_;refine zR ?_;refine d7 _ (a5y h2 (i:=i) hi2 rfl rfl) (zR ?_);refine d9 (hc1 _ hb) (zR ?_);refine d9 (hc2 _) ?_;cases Y
  ·refine zR ?_;exact ⟨i+1,⟨m7 ni,trivial⟩,⟨zo,rfl,by rw [hat,hk2];rfl⟩,zo⟩
  ·refine zR ?_;exact ⟨C3 (by rw [hat];rfl),rfl⟩
 ·have hi2:i=12:=by omega
  subst hi2;refine zR ?_;exact ⟨C3 (by rw [hat];rfl),rfl⟩
theorem c1O (s:Nat):Bb.mask 0 (8*(s/8))=Bb.mask 0 s:=by
 unfold Bb.mask;congr 1;funext t;simp [Bb.F5]
theorem c1P (s:Nat):Bb.mask 1 (s%8)=Bb.mask 1 s:=by
 unfold Bb.mask;congr 1;funext t;simp [Bb.F5]
instance {k s:Nat}:L64 (Bb.mask k s):=⟨Bb.O0 _⟩
instance {o p m:Nat} [h:L64 m]:L64 (Bb.lin o p m):=⟨by unfold Bb.lin;exact a9u h.lt⟩
instance {o s:Nat}:L64 (Ch.di o s):=⟨Ch.b5G _ _⟩
instance {o s:Nat}:L64 (Ch.hv o s):=⟨Ch.b5F _ _⟩
instance {s:Nat}:L64 (Ch.kn s):=⟨Bb.O0 _⟩
instance {s:Nat}:L64 (Ch.kg s):=⟨Bb.O0 _⟩
theorem a2Z (o s:Nat) [ho:L64 o] (hs:s<64) (w:World) (hT:C1 w):Calls G.P 244 #[.int .u64 o,.int .i8 s] w (D5 (.int .u64 (Ch.di o s)) w):=by
 have e:Ch.di o s=Bb.lin o (Bb.D0 s) (Bb.mask 2 s) ||| Bb.lin o (Bb.D0 s) (Bb.mask 3 s):=rfl
 have c1:=fun w=>p8 s hs w;have c2:=fun w=>a0b o (Bb.D0 s) (Bb.mask 2 s) w;have c3:=fun w=>a0b o (Bb.D0 s) (Bb.mask 3 s) w;have l2:L64 (Bb.lin o (Bb.D0 s) (Bb.mask 2 s)):=inferInstance;have l3:L64 (Bb.lin o (Bb.D0 s) (Bb.mask 3 s)):=inferInstance;have t2:=fun w (h:C1 w)=>I0 (t:=235) h.dia (o:=s) (i:=s) hs rfl rfl;have t3:=fun w (h:C1 w)=>I0 (t:=235) h.anti (o:=s) (i:=s) hs rfl rfl;rw [e];generalize Bb.lin o (Bb.D0 s) (Bb.mask 2 s)=L2 at *;generalize Bb.lin o (Bb.D0 s) (Bb.mask 3 s)=L3 at *;generalize Bb.mask 2 s=M2 at *;generalize Bb.mask 3 s=M3 at *;generalize Bb.D0 s=S at *;refine zN Tryz.func244 ?_;refine zR ?_;refine d9 (c1 _) (zR ?_);refine zC ?_;refine zR ?_;refine d7 _ (t2 _ hT) (zR ?_);refine zC ?_;refine zR ?_;refine d7 _ (t3 _ hT) (zR ?_);refine d9 (c2 _) (zR ?_);refine d9 (c3 _) (zS ?_);exact ⟨rfl,rfl⟩
theorem a4c (o s:Nat) [ho:L64 o] (hs:s<64) (w:World) (hT:C1 w):Calls G.P 245 #[.int .u64 o,.int .i8 s] w (D5 (.int .u64 (Ch.hv o s)) w):=by
 have e:Ch.hv o s=Bb.lin o (Bb.D0 s) (Bb.mask 0 s) ||| Bb.lin o (Bb.D0 s) (Bb.mask 1 s):=rfl
 have c1:=fun w=>p8 s hs w;have c2:=fun w=>a0b o (Bb.D0 s) (Bb.mask 0 s) w;have c3:=fun w=>a0b o (Bb.D0 s) (Bb.mask 1 s) w;have l2:L64 (Bb.lin o (Bb.D0 s) (Bb.mask 0 s)):=inferInstance;have l3:L64 (Bb.lin o (Bb.D0 s) (Bb.mask 1 s)):=inferInstance;have t2:=fun w (h:C1 w)=>I0 (t:=235) h.ranks (o:=s/8) (i:=s/8) zo rfl rfl;have t3:=fun w (h:C1 w)=>I0 (t:=235) h.files (o:=s%8) (i:=s%8) zo rfl rfl;have d1:((s:Int)/8)=((s/8:Nat):Int):=by omega
 have d2:((s:Int)%8)=((s%8:Nat):Int):=by omega
 have c4:=fun w=>a0w (s:Int) zo zo w;have c5:=fun w=>a0L (s:Int) zo zo w;rw [d1] at c4;rw [d2] at c5;have r8:s/8<8:=by omega
 have f8:s%8<8:=by omega
 rw [e];simp only [c1O,c1P] at t2 t3;generalize Bb.lin o (Bb.D0 s) (Bb.mask 0 s)=L2 at *;generalize Bb.lin o (Bb.D0 s) (Bb.mask 1 s)=L3 at *;generalize Bb.mask 0 s=M2 at *;generalize Bb.mask 1 s=M3 at *;generalize Bb.D0 s=S at *;generalize s/8=r at *;generalize s%8=f at *;refine zN Tryz.func245 ?_;refine zR ?_;refine d9 (c1 _) (zR ?_);refine d9 (c4 _) (zR ?_);refine zC ?_;refine zR ?_;refine d7 _ (t2 _ hT) (zR ?_);refine d9 (c5 _) (zR ?_);refine zC ?_;refine zR ?_;refine d7 _ (t3 _ hT) (zR ?_);refine d9 (c2 _) (zR ?_);refine d9 (c3 _) (zS ?_);exact ⟨rfl,rfl⟩
theorem a4d {P b t:Nat} {h:Hd} {cv:Value} {fz:Nat×Nat} (w:World) (hP:w.heap[P]?=some (.cells (hdA b h cv) t fz)):Calls G.P 121 #[.pointer (some ⟨P,0,none⟩)] w (D5 (.int .i8 h.turn) w):=by
 refine zN Tryz.func121 ?_;refine zR ?_;refine d7 _ (a69 hP) (zR ?_);exact ⟨rfl,rfl⟩
theorem b6p:Bb.not Ch.a1R=18374403900871474942:=by decide
theorem b6q:Bb.not Ch.a1S=9187201950435737471:=by decide
theorem b93:Bb.not Ch.a1n=72057594037927935:=by decide
theorem b94:Bb.not Ch.a02=18446744073709551360:=by decide
def MB.pawn (B:MB) (turn:Int) (E s:Nat):Nat :=
 if turn=1 then
  ((((s &&& 18374403900871474942) &&& 18446744073709551360) >>> 9) &&& (B.f 13 ||| E)) ||| ((((s &&& 9187201950435737471) &&& 18446744073709551360) >>> 7) &&& (B.f 13 ||| E)) ||| (((s &&& 18446744073709551360) >>> 8) &&& B.f 14) |||
   ((((((s &&& 18446744073709551360) >>> 8) &&& B.f 14) &&& 280375465082880) >>> 8) &&& B.f 14)
 else
  (Ch.shl ((s &&& 18374403900871474942) &&& 72057594037927935) 7 &&& (B.f 12 ||| E)) ||| (Ch.shl ((s &&& 9187201950435737471) &&& 72057594037927935) 9 &&& (B.f 12 ||| E)) ||| (Ch.shl (s &&& 72057594037927935) 8 &&& B.f 14) |||
   (Ch.shl ((Ch.shl (s &&& 72057594037927935) 8 &&& B.f 14) &&& 16711680) 8 &&& B.f 14)
def epN (e:Int):Nat:=if e=-1 then 0 else Bb.D0 e.toNat
theorem b05 {P b t u:Nat} {h:Hd} {cv:Value} {fz fy:Nat×Nat} {B:MB} [hO:B.Ok] (s:Nat) (hs:s<64) (ht:h.turn=1∨h.turn=2) (e0:-1≤h.ep) (e1:h.ep≤63) (w:World)
  (hP:w.heap[P]?=some (.cells (hdA b h cv) t fz)) (hB:w.heap[b]?=some (.cells (mbA B) u fy)) :
  Calls G.P 284 #[.pointer (some ⟨P,0,none⟩),.int .i8 s] w (D5 (.int .u64 (B.pawn h.turn (epN h.ep) (Bb.D0 s))) w):=by
 have c1:=fun w=>p8 s hs w;have l1:L64 (Bb.D0 s):=inferInstance;have tc:=a4d w hP;obtain ⟨cas,half,full,turn,ep,chk⟩:=h;simp only at ht e0 e1 tc ⊢;generalize Bb.D0 s=S at *;have lE:L64 (epN ep):=⟨by unfold epN;split;decide;exact Bb.a2N _⟩
 refine zN Tryz.func284 ?_;refine zR ?_;refine d9 (c1 _) (zG ?_);refine Nx.mk (zG ?_);refine A4 (σ:=Unit) [6] 15 (fun _=>[(6,.int .u64 (epN ep))]) (fun _ w'=>w'=w) zk ?_ (fun _ j w2 hw2=>?_)
 ·refine zR ?_;refine d7 _ (a86 hP) (zR ?_);apply E.r9<;>intro h
  ·have h':¬ ep=-1:=h;clear h;refine zR ?_;refine d7 _ (a86 hP) ?_;obtain ⟨e,rfl⟩:=Int.eq_ofNat_of_zero_le (show 0≤ep by omega)
   refine zR ?_;refine d9 (p8 e zo _) ?_;have:Bb.D0 e=epN (e:Int):=by unfold epN;rw [if_neg zo];rfl
   rw [this];generalize epN (e:Int)=EE;refine zR ?_;exact ⟨(),⟨rfl,trivial⟩,rfl⟩
  ·have h':ep=-1:=h;clear h;refine zR ?_;subst h';exact ⟨(),⟨rfl,trivial⟩,rfl⟩
 subst hw2;generalize epN ep=E at *;rcases ht with rfl | rfl
 ·have hr:B.pawn 1 E S=((((S &&& 18374403900871474942) &&& 18446744073709551360) >>> 9) &&& (B.f 13 ||| E)) ||| ((((S &&& 9187201950435737471) &&& 18446744073709551360) >>> 7) &&& (B.f 13 ||| E)) ||| (((S &&& 18446744073709551360) >>> 8) &&& B.f 14) |||
   ((((((S &&& 18446744073709551360) >>> 8) &&& B.f 14) &&& 280375465082880) >>> 8) &&& B.f 14):=rfl
  generalize B.pawn 1 E S=R at *;refine zR ?_;refine d9 tc (zB ?_);exact ⟨C3 (by rw [hr]),rfl⟩
 ·have hr:B.pawn 2 E S=(Ch.shl ((S &&& 18374403900871474942) &&& 72057594037927935) 7 &&& (B.f 12 ||| E)) ||| (Ch.shl ((S &&& 9187201950435737471) &&& 72057594037927935) 9 &&& (B.f 12 ||| E)) ||| (Ch.shl (S &&& 72057594037927935) 8 &&& B.f 14) |||
   (Ch.shl ((Ch.shl (S &&& 72057594037927935) 8 &&& B.f 14) &&& 16711680) 8 &&& B.f 14):=rfl
  generalize B.pawn 2 E S=R at *;refine zR ?_;refine d9 tc (zB ?_);exact ⟨C3 (by rw [hr]),rfl⟩
def MB.poss (B:MB) (turn:Int) (E:Nat) (k:Int) (s:Nat):Nat :=
 if k=1 then Ch.kg s else if k=2 then Ch.di (Bb.not (B.f 14)) s ||| Ch.hv (Bb.not (B.f 14)) s else if k=3 then Ch.hv (Bb.not (B.f 14)) s else if k=4 then Ch.di (Bb.not (B.f 14)) s
 else if k=5 then Ch.kn s else if k=6 then B.pawn turn E (Bb.D0 s) else 0
theorem b2j {P b t u:Nat} {h:Hd} {cv:Value} {fz fy:Nat×Nat} {B:MB} [hO:B.Ok] (s:Nat) (hs:s<64) (k:Int) (k1:1≤k) (k6:k≤6) (ht:h.turn=1∨h.turn=2) (e0:-1≤h.ep) (e1:h.ep≤63) (w:World) (hT:C1 w)
  (hP:w.heap[P]?=some (.cells (hdA b h cv) t fz)) (hB:w.heap[b]?=some (.cells (mbA B) u fy)) :
  Calls G.P 252 #[.pointer (some ⟨P,0,none⟩),.int .i8 k,.int .i8 s] w (K4 (.int .u64 (B.poss h.turn (epN h.ep) k s)) w):=by
 have c1:=fun w' (hw:Cl w w')=>b05 s hs ht e0 e1 w' (hw.blk hP) (hw.blk hB);have c2:=fun w' (hw:Cl w w')=>a2Z (Bb.not (B.f 14)) s hs w' (hT.cl hw);have c3:=fun w' (hw:Cl w w')=>a4c (Bb.not (B.f 14)) s hs w' (hT.cl hw);have l2:L64 (Ch.di (Bb.not (B.f 14)) s):=inferInstance;have l3:L64 (Ch.hv (Bb.not (B.f 14)) s):=inferInstance;have t1:=fun w' (hw:Cl w w')=>I0 (t:=235) (hT.cl hw).kg (o:=s) (i:=s) hs rfl rfl;have t2:=fun w' (hw:Cl w w')=>I0 (t:=235) (hT.cl hw).kn (o:=s) (i:=s) hs rfl rfl;have hk:k=1∨k=2∨k=3∨k=4∨k=5∨k=6:=by omega
 have r1:B.poss h.turn (epN h.ep) 1 s=Ch.kg s:=rfl;have r2:B.poss h.turn (epN h.ep) 2 s=Ch.di (Bb.not (B.f 14)) s ||| Ch.hv (Bb.not (B.f 14)) s:=rfl
 have r3:B.poss h.turn (epN h.ep) 3 s=Ch.hv (Bb.not (B.f 14)) s:=rfl;have r4:B.poss h.turn (epN h.ep) 4 s=Ch.di (Bb.not (B.f 14)) s:=rfl;have r5:B.poss h.turn (epN h.ep) 5 s=Ch.kn s:=rfl;have r6:B.poss h.turn (epN h.ep) 6 s=B.pawn h.turn (epN h.ep) (Bb.D0 s):=rfl;generalize B.pawn h.turn (epN h.ep) (Bb.D0 s)=R6 at *;generalize Ch.kg s=R1 at *;generalize Ch.kn s=R5 at *;generalize Ch.di (Bb.not (B.f 14)) s=R4 at *;generalize Ch.hv (Bb.not (B.f 14)) s=R3 at *;have hend:∀ w',Cl w w'→Cl w w':=fun _ h=>h;refine E.enter (G:=G) Tryz.func252 rfl (by simp [Tryz.ntmps252]) zk ?_
 refine U0 (Cl w) (Cl.refl _) (fun _=>Cl.drew) zk ?_;rcases hk with rfl | rfl | rfl | rfl | rfl | rfl
 ·rw [r1];refine zR ?_;refine zC ?_;refine zR ?_;refine g9 _ (fun w hw=>t1 w hw) (zR ?_);intro w' hw';refine zG ?_;exact ⟨rfl,hw'⟩
 ·rw [r2];refine zQ ?_;refine A5 _ (fun w hw=>c2 w hw) (zQ ?_);refine A5 _ (fun w hw=>c3 w hw) (zQ ?_);intro w' hw';refine zG ?_;exact ⟨rfl,hw'⟩
 ·rw [r3];refine zQ ?_;refine A5 _ (fun w hw=>c3 w hw) (zQ ?_);intro w' hw';refine zG ?_;exact ⟨rfl,hw'⟩
 ·rw [r4];refine zQ ?_;refine A5 _ (fun w hw=>c2 w hw) (zQ ?_);intro w' hw';refine zG ?_;exact ⟨rfl,hw'⟩
 ·rw [r5];refine zR ?_;refine zC ?_;refine zR ?_;refine g9 _ (fun w hw=>t2 w hw) (zR ?_);intro w' hw';refine zG ?_;exact ⟨rfl,hw'⟩
 ·rw [r6];refine zR ?_;refine A5 _ (fun w hw=>c1 w hw) (zR ?_);intro w' hw';refine zG ?_;exact ⟨rfl,hw'⟩
def MB.att (B:MB) (t:Int) (a:Nat):Bool :=
 let c:Nat:=if t=1 then 6 else 0
 if ((Ch.di (Bb.not (B.f 14)) a ||| Ch.hv (Bb.not (B.f 14)) a) &&& (if t=1 then B.f 13 else B.f 12)) ||| (Ch.kn a &&& (if t=1 then B.f 13 else B.f 12))=0 then false
 else if (Ch.di (Bb.not (B.f 14)) a ||| Ch.hv (Bb.not (B.f 14)) a) &&& B.f (c+1)≠0 then true
 else if Ch.hv (Bb.not (B.f 14)) a &&& B.f (c+2)≠0 then true
 else if Ch.di (Bb.not (B.f 14)) a &&& B.f (c+3)≠0 then true
 else if Ch.kn a &&& B.f (c+4)≠0 then true
 else if (if t=1 then Ch.shl ((B.f 11 &&& 18374403900871474942) &&& 72057594037927935) 7 ||| Ch.shl ((B.f 11 &&& 9187201950435737471) &&& 72057594037927935) 9
  else (((B.f 5 &&& 18374403900871474942) &&& 18446744073709551360) >>> 9) ||| (((B.f 5 &&& 9187201950435737471) &&& 18446744073709551360) >>> 7)) &&& Bb.D0 a≠0 then true
 else if Ch.kg a &&& B.f c≠0 then true
 else false
theorem n0 {a:Nat} (h:(a:Int)=0):a=0:=by omega
theorem n0' {a:Nat} (h:¬ (a:Int)=0):a≠0:=by omega
section ites
variable {c:Prop} [Decidable c] {x:Bool} {Q:Prop}
theorem q1 (no:(if c then false else x)=false→Q) (h:c):Q:=no (if_pos h)
theorem q2 (no:(if c then false else x)=false→Q) (h:¬ c):x=false→Q:=fun e=>no (by rw [if_neg h];exact e)
theorem q3 (yes:(if c then false else x)=true→Q) (h:¬ c):x=true→Q:=fun e=>yes (by rw [if_neg h];exact e)
theorem q4 (yes:(if c then true else x)=true→Q) (h:c):Q:=yes (if_pos h)
theorem q5 (no:(if c then true else x)=false→Q) (h:¬ c):x=false→Q:=fun e=>no (by rw [if_neg h];exact e)
theorem q6 (yes:(if c then true else x)=true→Q) (h:¬ c):x=true→Q:=fun e=>yes (by rw [if_neg h];exact e)
end ites
section one
variable {G':Nat}
def b8j (D H N K S s q r b n p k:Nat):Bool :=
 if ((D ||| H) &&& s) ||| (N &&& s)=0 then false
 else if (D ||| H) &&& q≠0 then true
 else if H &&& r≠0 then true
 else if D &&& b≠0 then true
 else if N &&& n≠0 then true
 else if p &&& S≠0 then true
 else if K &&& k≠0 then true
 else false
end one
theorem b95 (B:MB) (a:Nat):B.att 1 a=b8j (Ch.di (Bb.not (B.f 14)) a) (Ch.hv (Bb.not (B.f 14)) a) (Ch.kn a) (Ch.kg a) (Bb.D0 a) (B.f 13) (B.f 7) (B.f 8) (B.f 9) (B.f 10)
 (Ch.shl ((B.f 11 &&& 18374403900871474942) &&& 72057594037927935) 7 ||| Ch.shl ((B.f 11 &&& 9187201950435737471) &&& 72057594037927935) 9) (B.f 6):=rfl
theorem b96 (B:MB) (a:Nat):B.att 2 a=b8j (Ch.di (Bb.not (B.f 14)) a) (Ch.hv (Bb.not (B.f 14)) a) (Ch.kn a) (Ch.kg a) (Bb.D0 a) (B.f 12) (B.f 1) (B.f 2) (B.f 3) (B.f 4)
 ((((B.f 5 &&& 18374403900871474942) &&& 18446744073709551360) >>> 9) ||| (((B.f 5 &&& 9187201950435737471) &&& 18446744073709551360) >>> 7)) (B.f 0):=rfl
theorem b6r {l:List Nat} {f:Nat→Bool} {i:Nat} (hi:i<l.length) (h:f (l.getD i 0)=true):l.any f=true:=by
 rw [List.any_eq_true];refine ⟨l[i],List.getElem_mem hi,?_⟩;rw [List.getD_eq_getElem?_getD,List.getElem?_eq_getElem hi] at h;exact h
theorem b06 {l:List Nat} {f:Nat→Bool} {i:Nat} (hi:i<l.length) (h0:(l.take i).any f=false) (h:f (l.getD i 0)=false):(l.take (i+1)).any f=false:=by
 rw [List.take_succ_eq_append_getElem hi,List.any_append,h0];rw [List.getD_eq_getElem?_getD,List.getElem?_eq_getElem hi] at h;simpa using h
set_option maxHeartbeats 2000000 in
theorem a1v {P b t u:Nat} {h:Hd} {cv:Value} {fz fy:Nat×Nat} {B:MB} [hO:B.Ok] (ht:h.turn=1∨h.turn=2) (l:List Nat) (hl:∀ i,i<l.length→l.getD i 0<64) (hn:l.length≤1000) (g c:Nat) (w:World) (hT:C1 w)
  (hP:w.heap[P]?=some (.cells (hdA b h cv) t fz)) (hB:w.heap[b]?=some (.cells (mbA B) u fy)) (hS:Y2 w g l.length (fun i=>.int .i8 (l.getD i 0:Nat))) :
  Calls G.P 196 #[.pointer (some ⟨P,0,none⟩),.slice (some ⟨g,0,none⟩) l.length c] w (K4 (.bool (l.any (B.att h.turn))) w):=by
 have tc:=fun w' (hw:Cl w w')=>a4d w' (hw.blk hP);obtain ⟨cas,half,full,turn,ep,chk⟩:=h;simp only at ht tc ⊢;refine E.enter (G:=G) Tryz.func196 rfl (by simp [Tryz.ntmps196]) zk ?_
 refine U0 (Cl w) (Cl.refl _) (fun _=>Cl.drew) zk ?_;rcases ht with rfl | rfl
 ·have cO:=fun w=>a6B 1 (.inl rfl) w;refine zR ?_;refine A5 _ (fun w hw=>tc w hw) (zR ?_);refine A5 _ (fun w hw=>cO w) (zQ ?_);refine a4z (σ:=Nat) [4,8,9,10,11,12,13,14,15,16,17,18,19,33] 34 (fun i=>[(33,.int .i64 i)]) (fun i=>i≤l.length∧(l.take i).any (B.att 1)=false) (fun i=>l.length-i) zk 0 ⟨zo,rfl⟩ ⟨rfl,trivial⟩ ?_;rintro i j ⟨hi,hf⟩;have ni:=C2 (i:=i) zo;refine zR ?_;apply E.b7<;>intro h
  ·have hi2:i<l.length:=by omega
   clear h;have hs:=hl i hi2;have ts:=fun w' (hw:Cl w w')=>I0 (t:=138) (hS.cl hw) (o:=i) (i:=i) hi2 rfl rfl;have yes:B.att 1 (l.getD i 0)=true→l.any (B.att 1)=true:=b6r hi2;have no:B.att 1 (l.getD i 0)=false→(l.take (i+1)).any (B.att 1)=false:=b06 hi2 hf;generalize l.getD i 0=s at *;rw [b95] at yes no;have c2:=fun w' (hw:Cl w w')=>a2Z (Bb.not (B.f 14)) s hs w' (hT.cl hw);have c3:=fun w' (hw:Cl w w')=>a4c (Bb.not (B.f 14)) s hs w' (hT.cl hw);have c4:=fun w=>p8 s hs w;have l2:L64 (Ch.di (Bb.not (B.f 14)) s):=inferInstance;have l3:L64 (Ch.hv (Bb.not (B.f 14)) s):=inferInstance;have l4:L64 (Bb.D0 s):=inferInstance;have t1:=fun w' (hw:Cl w w')=>I0 (t:=235) (hT.cl hw).kg (o:=s) (i:=s) hs rfl rfl;have t2:=fun w' (hw:Cl w w')=>I0 (t:=235) (hT.cl hw).kn (o:=s) (i:=s) hs rfl rfl;have l5:L64 (Ch.kg s):=inferInstance;have l6:L64 (Ch.kn s):=inferInstance;have nq:=fun w' (hw:Cl w w')=>J3 2 2 zd zd (.inr rfl) w' (hT.cl hw);have nr:=fun w' (hw:Cl w w')=>J3 3 2 zd zd (.inr rfl) w' (hT.cl hw);have nb:=fun w' (hw:Cl w w')=>J3 4 2 zd zd (.inr rfl) w' (hT.cl hw);have nn:=fun w' (hw:Cl w w')=>J3 5 2 zd zd (.inr rfl) w' (hT.cl hw);have nk:=fun w' (hw:Cl w w')=>J3 1 2 zd zd (.inr rfl) w' (hT.cl hw);have bp:=fun x h0 h1 w' (hw:Cl w w')=>K8 B b x h0 h1 w' (hw.blk hB);generalize Ch.kg s=KG at *;generalize Ch.kn s=KN at *;generalize Ch.di (Bb.not (B.f 14)) s=D at *;generalize Ch.hv (Bb.not (B.f 14)) s=H at *;generalize Bb.D0 s=S at *;unfold b8j at yes no;refine zR ?_;refine zC ?_;refine zR ?_;refine g9 _ (fun w hw=>ts w hw) (zQ ?_);refine A5 _ (fun w hw=>tc w hw) (zQ ?_);refine A5 _ (fun w hw=>c2 w hw) (zR ?_);refine A5 _ (fun w hw=>c3 w hw) (zQ ?_);refine zC ?_;refine zR ?_;refine g9 _ (fun w hw=>t2 w hw) (zQ ?_);apply E.b7<;>intro h
   ·have no:=q1 no (n0 h);refine zR ?_;exact ⟨i+1,⟨m7 ni,trivial⟩,⟨zo,no⟩,zo⟩
   have no:=q2 no (n0' h);have yes:=q3 yes (n0' h);clear h;refine zQ ?_;refine A5 _ (fun w hw=>nq w hw) (zR ?_);refine A5 _ (fun w hw=>bp 8 zd zd w hw) (zR ?_);refine A5 _ (fun w hw=>c2 w hw) (zR ?_);refine A5 _ (fun w hw=>c3 w hw) (zQ ?_);apply E.r9<;>intro h
   ·have yes:=q4 yes (n0' h);refine zR ?_;intro w' hw';refine zG ?_;exact ⟨m8 yes.symm,hw'⟩
   have no:=q5 no (fun e=>e (n0 h));have yes:=q6 yes (fun e=>e (n0 h));clear h;refine zQ ?_;refine A5 _ (fun w hw=>nr w hw) (zR ?_);refine A5 _ (fun w hw=>bp 9 zd zd w hw) (zR ?_);refine A5 _ (fun w hw=>c3 w hw) (zQ ?_);apply E.r9<;>intro h
   ·have yes:=q4 yes (n0' h);refine zR ?_;intro w' hw';refine zG ?_;exact ⟨m8 yes.symm,hw'⟩
   have no:=q5 no (fun e=>e (n0 h));have yes:=q6 yes (fun e=>e (n0 h));clear h;refine zQ ?_;refine A5 _ (fun w hw=>nb w hw) (zR ?_);refine A5 _ (fun w hw=>bp 10 zd zd w hw) (zR ?_);refine A5 _ (fun w hw=>c2 w hw) (zQ ?_);apply E.r9<;>intro h
   ·have yes:=q4 yes (n0' h);refine zR ?_;intro w' hw';refine zG ?_;exact ⟨m8 yes.symm,hw'⟩
   have no:=q5 no (fun e=>e (n0 h));have yes:=q6 yes (fun e=>e (n0 h));clear h;refine zQ ?_;refine A5 _ (fun w hw=>nn w hw) (zR ?_);refine A5 _ (fun w hw=>bp 11 zd zd w hw) (zR ?_);refine zC ?_;refine zR ?_;refine g9 _ (fun w hw=>t2 w hw) (zQ ?_);apply E.r9<;>intro h
   ·have yes:=q4 yes (n0' h);refine zR ?_;intro w' hw';refine zG ?_;exact ⟨m8 yes.symm,hw'⟩
   have no:=q5 no (fun e=>e (n0 h));have yes:=q6 yes (fun e=>e (n0 h));clear h;refine zR ?_;refine A5 _ (fun w hw=>tc w hw) (zQ ?_);refine A5 _ (fun w hw=>c4 w) (zQ ?_);apply E.r9<;>intro h
   ·have yes:=q4 yes (n0' h);refine zR ?_;intro w' hw';refine zG ?_;exact ⟨m8 yes.symm,hw'⟩
   have no:=q5 no (fun e=>e (n0 h));have yes:=q6 yes (fun e=>e (n0 h));clear h;refine zQ ?_;refine A5 _ (fun w hw=>nk w hw) (zR ?_);refine A5 _ (fun w hw=>bp 7 zd zd w hw) (zR ?_);refine zC ?_;refine zR ?_;refine g9 _ (fun w hw=>t1 w hw) (zQ ?_);apply E.r9<;>intro h
   ·have yes:=q4 yes (n0' h);refine zR ?_;intro w' hw';refine zG ?_;exact ⟨m8 yes.symm,hw'⟩
   have no:=q5 no (fun e=>e (n0 h));have yes:=q6 yes (fun e=>e (n0 h));refine zR ?_;exact ⟨i+1,⟨m7 ni,trivial⟩,⟨zo,no rfl⟩,zo⟩
  ·have hi2:i=l.length:=by omega
   subst hi2;rw [List.take_length] at hf;refine zR ?_;intro w' hw';refine zG ?_;exact ⟨m8 hf.symm,hw'⟩
 ·have cO:=fun w=>a6B 2 (.inr rfl) w;refine zR ?_;refine A5 _ (fun w hw=>tc w hw) (zR ?_);refine A5 _ (fun w hw=>cO w) (zQ ?_);refine a4z (σ:=Nat) [4,8,9,10,11,12,13,14,15,16,17,18,19,33] 34 (fun i=>[(33,.int .i64 i)]) (fun i=>i≤l.length∧(l.take i).any (B.att 2)=false) (fun i=>l.length-i) zk 0 ⟨zo,rfl⟩ ⟨rfl,trivial⟩ ?_;rintro i j ⟨hi,hf⟩;have ni:=C2 (i:=i) zo;refine zR ?_;apply E.b7<;>intro h
  ·have hi2:i<l.length:=by omega
   clear h;have hs:=hl i hi2;have ts:=fun w' (hw:Cl w w')=>I0 (t:=138) (hS.cl hw) (o:=i) (i:=i) hi2 rfl rfl;have yes:B.att 2 (l.getD i 0)=true→l.any (B.att 2)=true:=b6r hi2;have no:B.att 2 (l.getD i 0)=false→(l.take (i+1)).any (B.att 2)=false:=b06 hi2 hf;generalize l.getD i 0=s at *;rw [b96] at yes no;have c2:=fun w' (hw:Cl w w')=>a2Z (Bb.not (B.f 14)) s hs w' (hT.cl hw);have c3:=fun w' (hw:Cl w w')=>a4c (Bb.not (B.f 14)) s hs w' (hT.cl hw);have c4:=fun w=>p8 s hs w;have l2:L64 (Ch.di (Bb.not (B.f 14)) s):=inferInstance;have l3:L64 (Ch.hv (Bb.not (B.f 14)) s):=inferInstance;have l4:L64 (Bb.D0 s):=inferInstance;have t1:=fun w' (hw:Cl w w')=>I0 (t:=235) (hT.cl hw).kg (o:=s) (i:=s) hs rfl rfl;have t2:=fun w' (hw:Cl w w')=>I0 (t:=235) (hT.cl hw).kn (o:=s) (i:=s) hs rfl rfl;have l5:L64 (Ch.kg s):=inferInstance;have l6:L64 (Ch.kn s):=inferInstance;have nq:=fun w' (hw:Cl w w')=>J3 2 1 zd zd (.inl rfl) w' (hT.cl hw);have nr:=fun w' (hw:Cl w w')=>J3 3 1 zd zd (.inl rfl) w' (hT.cl hw);have nb:=fun w' (hw:Cl w w')=>J3 4 1 zd zd (.inl rfl) w' (hT.cl hw);have nn:=fun w' (hw:Cl w w')=>J3 5 1 zd zd (.inl rfl) w' (hT.cl hw);have nk:=fun w' (hw:Cl w w')=>J3 1 1 zd zd (.inl rfl) w' (hT.cl hw);have bp:=fun x h0 h1 w' (hw:Cl w w')=>K8 B b x h0 h1 w' (hw.blk hB);generalize Ch.kg s=KG at *;generalize Ch.kn s=KN at *;generalize Ch.di (Bb.not (B.f 14)) s=D at *;generalize Ch.hv (Bb.not (B.f 14)) s=H at *;generalize Bb.D0 s=S at *;unfold b8j at yes no;refine zR ?_;refine zC ?_;refine zR ?_;refine g9 _ (fun w hw=>ts w hw) (zQ ?_);refine A5 _ (fun w hw=>tc w hw) (zQ ?_);refine A5 _ (fun w hw=>c2 w hw) (zR ?_);refine A5 _ (fun w hw=>c3 w hw) (zQ ?_);refine zC ?_;refine zR ?_;refine g9 _ (fun w hw=>t2 w hw) (zQ ?_);apply E.b7<;>intro h
   ·have no:=q1 no (n0 h);refine zR ?_;exact ⟨i+1,⟨m7 ni,trivial⟩,⟨zo,no⟩,zo⟩
   have no:=q2 no (n0' h);have yes:=q3 yes (n0' h);clear h;refine zQ ?_;refine A5 _ (fun w hw=>nq w hw) (zR ?_);refine A5 _ (fun w hw=>bp 2 zd zd w hw) (zR ?_);refine A5 _ (fun w hw=>c2 w hw) (zR ?_);refine A5 _ (fun w hw=>c3 w hw) (zQ ?_);apply E.r9<;>intro h
   ·have yes:=q4 yes (n0' h);refine zR ?_;intro w' hw';refine zG ?_;exact ⟨m8 yes.symm,hw'⟩
   have no:=q5 no (fun e=>e (n0 h));have yes:=q6 yes (fun e=>e (n0 h));clear h;refine zQ ?_;refine A5 _ (fun w hw=>nr w hw) (zR ?_);refine A5 _ (fun w hw=>bp 3 zd zd w hw) (zR ?_);refine A5 _ (fun w hw=>c3 w hw) (zQ ?_);apply E.r9<;>intro h
   ·have yes:=q4 yes (n0' h);refine zR ?_;intro w' hw';refine zG ?_;exact ⟨m8 yes.symm,hw'⟩
   have no:=q5 no (fun e=>e (n0 h));have yes:=q6 yes (fun e=>e (n0 h));clear h;refine zQ ?_;refine A5 _ (fun w hw=>nb w hw) (zR ?_);refine A5 _ (fun w hw=>bp 4 zd zd w hw) (zR ?_);refine A5 _ (fun w hw=>c2 w hw) (zQ ?_);apply E.r9<;>intro h
   ·have yes:=q4 yes (n0' h);refine zR ?_;intro w' hw';refine zG ?_;exact ⟨m8 yes.symm,hw'⟩
   have no:=q5 no (fun e=>e (n0 h));have yes:=q6 yes (fun e=>e (n0 h));clear h;refine zQ ?_;refine A5 _ (fun w hw=>nn w hw) (zR ?_);refine A5 _ (fun w hw=>bp 5 zd zd w hw) (zR ?_);refine zC ?_;refine zR ?_;refine g9 _ (fun w hw=>t2 w hw) (zQ ?_);apply E.r9<;>intro h
   ·have yes:=q4 yes (n0' h);refine zR ?_;intro w' hw';refine zG ?_;exact ⟨m8 yes.symm,hw'⟩
   have no:=q5 no (fun e=>e (n0 h));have yes:=q6 yes (fun e=>e (n0 h));clear h;refine zR ?_;refine A5 _ (fun w hw=>tc w hw) (zQ ?_);refine A5 _ (fun w hw=>c4 w) (zQ ?_);apply E.r9<;>intro h
   ·have yes:=q4 yes (n0' h);refine zR ?_;intro w' hw';refine zG ?_;exact ⟨m8 yes.symm,hw'⟩
   have no:=q5 no (fun e=>e (n0 h));have yes:=q6 yes (fun e=>e (n0 h));clear h;refine zQ ?_;refine A5 _ (fun w hw=>nk w hw) (zR ?_);refine A5 _ (fun w hw=>bp 1 zd zd w hw) (zR ?_);refine zC ?_;refine zR ?_;refine g9 _ (fun w hw=>t1 w hw) (zQ ?_);apply E.r9<;>intro h
   ·have yes:=q4 yes (n0' h);refine zR ?_;intro w' hw';refine zG ?_;exact ⟨m8 yes.symm,hw'⟩
   have no:=q5 no (fun e=>e (n0 h));have yes:=q6 yes (fun e=>e (n0 h));refine zR ?_;exact ⟨i+1,⟨m7 ni,trivial⟩,⟨zo,no rfl⟩,zo⟩
  ·have hi2:i=l.length:=by omega
   subst hi2;rw [List.take_length] at hf;refine zR ?_;intro w' hw';refine zG ?_;exact ⟨m8 hf.symm,hw'⟩
theorem c1Q {w:World} {v:Value} (hv:v.cells=#[v]) (t:Nat) (ht:a1J t=true):Y2 (w.alloc (.cells (([v]:List Value).flatMap fun v=>v.cells.toList).toArray t)) w.heap.size 1 (fun _=>v) :=
 ⟨_,t,(0,0),q8 _ _,ht,fun i hi=>by
  have:i=0:=by omega
  subst this;simp [hv]⟩
theorem a05:G2 280 138 1 1:=R0 zk
def MB.chk (B:MB) (t:Int):Bool :=
 let k:=if t=2 then B.bk else B.wk
 !decide (k=-1)&&B.att t k.toNat
theorem a5W {P b t u:Nat} {h:Hd} {cv:Value} {fz fy:Nat×Nat} {B:MB} [hO:B.Ok] (ht:h.turn=1∨h.turn=2) (w0:-1≤B.wk) (w1:B.wk≤63) (b0:-1≤B.bk) (b1:B.bk≤63) (w:World) (hT:C1 w)
  (hP:w.heap[P]?=some (.cells (hdA b h cv) t fz)) (hB:w.heap[b]?=some (.cells (mbA B) u fy)) :
  Calls G.P 137 #[.pointer (some ⟨P,0,none⟩)] w (K4 (.bool (B.chk h.turn)) w):=by
 have tc:=a4d w hP;have key:∀ k:Int,k=(if h.turn=2 then B.bk else B.wk)→k≠-1→∀ w',Cl w w'→∀ g c,Y2 w' g 1 (fun _=>.int .i8 k)→Calls G.P 196 #[.pointer (some ⟨P,0,none⟩),.slice (some ⟨g,0,none⟩) 1 c] w' (K4 (.bool (B.chk h.turn)) w'):=by
  intro k hk hne w' hw g c hS;have k0:0≤k:=by split at hk<;>omega
  have k1:k≤63:=by split at hk<;>omega
  have hr:B.chk h.turn=[k.toNat].any (B.att h.turn):=by
   unfold MB.chk;simp only [← hk,List.any_cons,List.any_nil,Bool.or_false];rw [decide_eq_false hne];rfl
  rw [hr];exact a1v ht [k.toNat] (fun i hi=>by
   have:i=0:=by simp at hi;omega
   subst this;simp;omega) (by simp) g c w' (hT.cl hw) (hw.blk hP) (hw.blk hB) (by
    obtain ⟨cs,t,fz,h1,h2,h3⟩:=hS;refine ⟨cs,t,fz,h1,h2,fun i hi=>?_⟩;have:i=0:=by simp at hi;omega
    subst this;rw [h3 0 zd];simp [Int.toNat_of_nonneg k0])
 have no:(if h.turn=2 then B.bk else B.wk)=-1→B.chk h.turn=false:=fun e=>by unfold MB.chk;simp [e]
 generalize B.chk h.turn=R at *;obtain ⟨cas,half,full,turn,ep,chk⟩:=h;simp only at ht key no tc ⊢;refine zN Tryz.func137 ?_;rcases ht with rfl | rfl
 ·rw [if_neg zd] at no;rw [if_neg zd] at key;refine zR ?_;refine d7 _ (a7o hP) (zR ?_);refine d7 _ (b8f hB) (zR ?_);refine d9 tc (zR ?_);generalize B.wk=k at *;apply E.b7<;>intro h
  ·refine zR ?_;exact ⟨m8 (no h).symm,Cl.refl _⟩
  ·refine zR ?_;refine zL a05 [.int .i8 k] ?_;have hc:=Cl.alloc w (.cells (([Value.int .i8 k]:List Value).flatMap fun v=>v.cells.toList).toArray 138);have hb:=c1Q (w:=w) (v:=.int .i8 k) rfl 138 rfl;generalize w.alloc (.cells (([Value.int .i8 k]:List Value).flatMap fun v=>v.cells.toList).toArray 138)=w1 at *;refine zR ?_;refine m9 (key k rfl h w1 hc _ _ hb) fun w2 c2=>zR ?_;exact ⟨rfl,hc.trans c2⟩
 ·rw [if_pos rfl] at no;rw [if_pos rfl] at key;refine zR ?_;refine d7 _ (a7o hP) (zR ?_);refine d7 _ (b8f hB) (zR ?_);refine d9 tc (zR ?_);refine d7 _ (a7o hP) (zR ?_);refine d7 _ (c0l hB) (zR ?_);generalize B.bk=k at *;apply E.b7<;>intro h
  ·refine zR ?_;exact ⟨m8 (no h).symm,Cl.refl _⟩
  ·refine zR ?_;refine zL a05 [.int .i8 k] ?_;have hc:=Cl.alloc w (.cells (([Value.int .i8 k]:List Value).flatMap fun v=>v.cells.toList).toArray 138);have hb:=c1Q (w:=w) (v:=.int .i8 k) rfl 138 rfl;generalize w.alloc (.cells (([Value.int .i8 k]:List Value).flatMap fun v=>v.cells.toList).toArray 138)=w1 at *;refine zR ?_;refine m9 (key k rfl h w1 hc _ _ hb) fun w2 c2=>zR ?_;exact ⟨rfl,hc.trans c2⟩
end
section
open Ch Bb
theorem not_not {a:Nat} (h:a<2^64):Bb.not (Bb.not a)=a:=by
 refine Bb.ext (not_lt (not_lt h)) h fun s hs=>?_;rw [E0 _ hs,E0 _ hs,Bool.not_not]
def bbf (g:Nat→Int) (i:Nat):Nat:=bb (fun s=>decide (g s=(i:Int)+1))
theorem a4e (g:Nat→Int) (i:Nat):bbf g i<2^64:=O0 _
theorem a0c (g:Nat→Int) (i:Nat) {s:Nat} (hs:s<64):(bbf g i).testBit (63-s)=decide (g s=(i:Int)+1):=E7 _ hs
theorem a1Z {g g':Nat→Int} {i:Nat} (h:∀ s,s<64→(g s=(i:Int)+1↔g' s=(i:Int)+1)):bbf g i=bbf g' i:=a01 fun s hs=>decide_eq_decide.2 (h s hs)
theorem b6s {a:Nat} {g:Nat→Int} {i:Nat} (ha:a<2^64) (h:∀ s,s<64→(a.testBit (63-s)=true↔g s=(i:Int)+1)):a=bbf g i :=
 a8s ha fun s hs=>by rw [Bool.eq_iff_iff,h s hs,decide_eq_true_eq]
def MB.Is (B:MB) (g:Nat→Int):Prop:=∀ i,i<12→B.f i=bbf g i
def mbOf (p:A3):MB:=⟨fun i=>if i<12 then pcs p ((i:Int)+1) else if i=12 then side p 0 else if i=13 then side p 1 else if i=14 then R7 p else 0,kingAt p 0,kingAt p 1⟩
theorem a0d (p:A3):(mbOf p).Is (fun s=>sq p s):=fun i hi=>by
 show (if i<12 then _ else _)=_
 rw [if_pos hi];rfl
instance mbOf_ok (p:A3):(mbOf p).Ok:=⟨fun i=>by
 show (if i<12 then _ else _)<_
 repeat' split
 ·exact O0 _
 ·exact O0 _
 ·exact O0 _
 ·exact not_lt (O0 _)
 ·decide⟩
theorem b8k (p:A3):(mbOf p).f 14=R7 p:=rfl
theorem b2k (p:A3):Bb.not ((mbOf p).f 14)=occ p:=not_not (O0 _)
theorem b8l {p:A3} (hp:∀ i:Int,0≤sq p i∧sq p i≤12) {s:Nat} (hs:s<64):∀ n x,x+n=12→(mbOf p).from s n x=if (x:Int)<sq p s then sq p s else 0:=by
 intro n
 induction n with
 | zero=>intro x hx;have:=hp s;rw [if_neg zo];rfl
 | succ n ih =>
  intro x hx;unfold MB.from;rw [a0d p x zo,a0c _ _ hs];by_cases h:sq p s=(x:Int)+1
  ·rw [if_pos (by simpa using h),if_pos zo,h]
  ·rw [if_neg (by simpa using h),ih (x+1) zo]
   by_cases h2:((x+1:Nat):Int)<sq p s
   ·rw [if_pos h2,if_pos zo]
   ·rw [if_neg h2,if_neg zo]
theorem T8 {p:A3} (hp:∀ i:Int,0≤sq p i∧sq p i≤12) {s:Nat} (hs:s<64):(mbOf p).at s=sq p s:=by
 unfold MB.at;rw [b8l hp hs 12 0 rfl];have:=hp s;split<;>omega
theorem a7t {p:A3} (hp:∀ i:Int,0≤sq p i∧sq p i≤12) {c:Int} (hc:c=0∨c=1) {a:Nat} (ha:a<64):(mbOf p).att (c+1) a=z7 p a (1-c):=by
 rw [← b7V p hp ha (by omega:1-c=0∨1-c=1)]
 rcases hc with rfl | rfl
 ·rw [show (0:Int)+1=1 from rfl,b95,b2k];unfold b5K a1T;rw [b6p,b6q,b93];rfl
 ·rw [show (1:Int)+1=2 from rfl,b96,b2k];unfold b5K a1T;rw [b6p,b6q,b94];rfl
theorem b8m (p:A3) (ht:p.turn=0∨p.turn=1) (fr:Nat):(mbOf p).pawn (p.turn+1) (epN p.ep) (D0 fr)=a5P p fr:=by
 unfold a5P MB.pawn;rw [b6p,b6q,b93,b94];rcases ht with h | h
 ·rw [h];rfl
 ·rw [h];rfl
theorem b8n (p:A3) (ht:p.turn=0∨p.turn=1) (k:Int) (fr:Nat):(mbOf p).poss (p.turn+1) (epN p.ep) k fr=a5Q p k fr:=by
 unfold MB.poss a5Q;rw [b2k,b8m p ht]
def MB.m1 (B:MB) (fr to n:Nat):MB :=
 { B with f:=fun i=>if i<n then (if (B.f i).testBit (63-fr) then ((B.f i &&& Bb.not (D0 to)) &&& Bb.not (D0 fr)) ||| D0 to else B.f i &&& Bb.not (D0 to)) else B.f i }
def MB.m2 (B:MB) (x y:Int) (to:Nat):MB:=(B.set (x.toNat-1) (B.of x &&& Bb.not (D0 to))).set (y.toNat-1) ((B.set (x.toNat-1) (B.of x &&& Bb.not (D0 to))).of y ||| D0 to)
def MB.m3 (B:MB) (c:Int) (to:Nat):MB:=if c=1 then B.set 11 (Bb.not (shl (D0 to) 8) &&& B.f 11) else B.set 5 (Bb.not (D0 to >>> 8) &&& B.f 5)
def MB.m4 (B:MB) (c:Int) (t0 t1:Bool):MB :=
 if c=1∧t0=true then B.set 2 ((B.f 2 &&& Bb.not (D0 7)) ||| D0 5) else if c=1∧t1=true then B.set 2 ((B.f 2 &&& Bb.not (D0 0)) ||| D0 3)
 else if c=2∧t0=true then B.set 8 ((B.f 8 &&& Bb.not (D0 63)) ||| D0 61) else if c=2∧t1=true then B.set 8 ((B.f 8 &&& Bb.not (D0 56)) ||| D0 59) else B
def MB.whites (B:MB):Nat:=B.f 0 ||| B.f 1 ||| B.f 2 ||| B.f 3 ||| B.f 4 ||| B.f 5
def MB.blacks (B:MB):Nat:=B.f 6 ||| B.f 7 ||| B.f 8 ||| B.f 9 ||| B.f 10 ||| B.f 11
def MB.sums (B:MB):MB:=((B.set 12 B.whites).set 13 B.blacks).set 14 (Bb.not (B.whites ||| B.blacks))
def MB.kings (B:MB) (fr to:Int):MB:=if fr=B.wk then { B with wk:=to } else if fr=B.bk then { B with bk:=to } else B
def MB.move (B:MB) (m:Mv) (tags:Nat):MB :=
 let fr:=m.fr.toNat;let to:=m.to.toNat;let x:=B.at fr;let B1:=B.m1 fr to 12;let B2:=if m.promo=0 then B1 else B1.m2 x (m.promo+6*(colM x-1)) to
 let B3:=if tags.testBit 3 then B2.m3 (colM x) to else B2
 ((B3.m4 (colM x) (tags.testBit 0) (tags.testBit 1)).sums).kings m.fr m.to
theorem a29 (B:MB) (i x j:Nat):(B.set i x).f j=if j=i then x else B.f j:=rfl
theorem b97 {B:MB} {g:Nat→Int} (h:B.Is g) {fr to:Nat} (hf:fr<64) (ht:to<64) (hne:fr≠to):(B.m1 fr to 12).Is (fun s=>if s=to then g fr else if s=fr then 0 else g s):=by
 intro i hi;show (if i<12 then _ else _)=_
 rw [if_pos hi,h i hi,a0c _ _ hf];have l1:=a4e g i;refine b6s ?_ fun s hs=>?_
 ·split
  ·exact Nat.or_lt_two_pow (Nat.lt_of_le_of_lt Nat.and_le_left (Nat.lt_of_le_of_lt Nat.and_le_left l1)) (a2N _)
  ·exact Nat.lt_of_le_of_lt Nat.and_le_left l1
 ·by_cases hg:g fr=(i:Int)+1
  ·rw [if_pos (by simpa using hg)]
   rw [Nat.testBit_or,Nat.testBit_and,Nat.testBit_and,a0c _ _ hs,E0 _ hs,E0 _ hs,G7 ht hs,G7 hf hs];by_cases e1:s=to
   ·simp [e1,hg]
   ·by_cases e2:s=fr
    ·simp [e2,hne];omega
    ·simp [e1,e2]
  ·rw [if_neg (by simpa using hg)]
   rw [Nat.testBit_and,a0c _ _ hs,E0 _ hs,G7 ht hs];by_cases e1:s=to
   ·simp [e1,hg]
   ·by_cases e2:s=fr
    ·simp [e2,hne,hg];omega
    ·simp [e1,e2]
theorem a7u {B:MB} {g g':Nat→Int} (h:B.Is g) {i x:Nat} (hx:x<2^64) (h1:∀ s,s<64→(x.testBit (63-s)=true↔g' s=(i:Int)+1)) (h2:∀ j,j<12→j≠i→∀ s,s<64→(g s=(j:Int)+1↔g' s=(j:Int)+1)):(B.set i x).Is g':=by
 intro j hj;rw [a29];by_cases e:j=i
 ·subst e;rw [if_pos rfl];exact b6s hx h1
 ·rw [if_neg e,h j hj];exact a1Z (h2 j hj e)
theorem b34 {B:MB} {g:Nat→Int} (h:B.Is g) {x:Int} (x1:1≤x) (x2:x≤12):B.of x=bbf g (x.toNat-1):=by
 unfold MB.of;rw [if_neg zo];exact h _ zo
theorem b35 {a b:Nat} (h:a<2^64):a &&& b<2^64:=Nat.lt_of_le_of_lt Nat.and_le_left h
theorem c1R {B:MB} {g:Nat→Int} (h:B.Is g) {x y:Int} {to:Nat} (ht:to<64) (x1:1≤x) (x2:x≤12) (y1:1≤y) (y2:y≤12) (hg:g to=x) (hne:x≠y):(B.m2 x y to).Is (fun s=>if s=to then y else g s):=by
 unfold MB.m2;have hA:(B.set (x.toNat-1) (B.of x &&& Bb.not (D0 to))).Is (fun s=>if s=to then 0 else g s):=by
  refine a7u h (b35 (by rw [b34 h x1 x2];exact a4e _ _)) (fun s hs=>?_) (fun j hj hji s hs=>?_)
  ·rw [b34 h x1 x2,Nat.testBit_and,a0c _ _ hs,E0 _ hs,G7 ht hs];by_cases e:s=to
   ·simp [e];omega
   ·simp [e]
  ·by_cases e:s=to
   ·subst e;simp [hg];omega
   ·simp [e]
 refine a7u hA (Nat.or_lt_two_pow (by rw [b34 hA y1 y2];exact a4e _ _) (a2N _)) (fun s hs=>?_) (fun j hj hji s hs=>?_)
 ·rw [b34 hA y1 y2,Nat.testBit_or,a0c _ _ hs,G7 ht hs];by_cases e:s=to
  ·simp [e];omega
  ·simp [e]
 ·by_cases e:s=to
  ·subst e;simp;omega
  ·simp [e]
theorem c1S {B:MB} {g:Nat→Int} (h:B.Is g) {c:Int} (hc:c=1∨c=2) {to q:Nat} (ht:to<64) (hq:q<64) (hqt:(q:Int)=to-8*(3-2*c)) (hg:g q=if c=1 then 12 else 6):(B.m3 c to).Is (fun s=>if s=q then 0 else g s):=by
 unfold MB.m3;rcases hc with rfl | rfl
 ·rw [if_pos rfl];rw [if_pos rfl] at hg;refine a7u h (Nat.and_lt_two_pow _ (by rw [h 11 zd];exact a4e _ _)) (fun s hs=>?_) (fun j hj hji s hs=>?_)
  ·rw [h 11 zd,Nat.testBit_and,a0c _ _ hs,E0 _ hs,a2k _ _ hs];by_cases e:s=q
   ·subst e;have:s+8=to:=by omega
    rw [this,G7 ht ht];simp [ht]
   ·have hne:s+8≠to:=by omega
    by_cases h64:s+8<64
    ·rw [G7 ht h64];simp [e,hne]
    ·simp [e,h64]
  ·by_cases e:s=q
   ·subst e;simp [hg];omega
   ·simp [e]
 ·rw [if_neg zd];rw [if_neg zd] at hg;refine a7u h (Nat.and_lt_two_pow _ (by rw [h 5 zd];exact a4e _ _)) (fun s hs=>?_) (fun j hj hji s hs=>?_)
  ·rw [h 5 zd,Nat.testBit_and,a0c _ _ hs,E0 _ hs,a2l _ _ (a2N _) hs];by_cases e:s=q
   ·subst e;have:s-8=to:=by omega
    rw [this,G7 ht ht];simp [show 8≤s by omega]
   ·by_cases h8:8≤s
    ·have hne:s-8≠to:=by omega
     rw [G7 ht zo];simp [e,hne]
    ·simp [e,h8]
  ·by_cases e:s=q
   ·subst e;simp [hg];omega
   ·simp [e]
theorem b8o {B:MB} {g:Nat→Int} (h:B.Is g) {i R F:Nat} (hi:i<12) (hR:R<64) (hF:F<64) (gR:g R=(i:Int)+1) (gF:g F=0) (hne:R≠F):(B.set i ((B.f i &&& Bb.not (D0 R)) ||| D0 F)).Is (fun s=>if s=F then (i:Int)+1 else if s=R then 0 else g s):=by
 refine a7u h (Nat.or_lt_two_pow (b35 (by rw [h i hi];exact a4e _ _)) (a2N _)) (fun s hs=>?_) (fun j hj hji s hs=>?_)
 ·rw [h i hi,Nat.testBit_or,Nat.testBit_and,a0c _ _ hs,E0 _ hs,G7 hR hs,G7 hF hs];by_cases e:s=F
  ·simp [e]
  ·by_cases e2:s=R
   ·simp [e2,hne];omega
   ·simp [e,e2]
 ·by_cases e:s=F
  ·subst e;simp [gF];omega
  ·by_cases e2:s=R
   ·subst e2;simp [hne,gR];omega
   ·simp [e,e2]
theorem a5z {A B:MB} (hf:∀ i,A.f i=B.f i) (h1:A.wk=B.wk) (h2:A.bk=B.bk):A=B:=by
 cases A;cases B;simp only [MB.mk.injEq];exact ⟨funext hf,h1,h2⟩
theorem b41 {B:MB} {g:Nat→Int} (h:B.Is g):B.whites=bb (fun s=>decide (1≤g s)&&decide (g s≤6)):=by
 unfold MB.whites;rw [h 0 zd,h 1 zd,h 2 zd,h 3 zd,h 4 zd,h 5 zd];unfold bbf;rw [a0D,a0D,a0D,a0D,a0D];refine a01 fun s _=>?_;rw [Bool.eq_iff_iff];simp only [Bool.or_eq_true,Bool.and_eq_true,decide_eq_true_eq];omega
theorem b42 {B:MB} {g:Nat→Int} (h:B.Is g):B.blacks=bb (fun s=>decide (7≤g s)&&decide (g s≤12)):=by
 unfold MB.blacks;rw [h 6 zd,h 7 zd,h 8 zd,h 9 zd,h 10 zd,h 11 zd];unfold bbf;rw [a0D,a0D,a0D,a0D,a0D];refine a01 fun s _=>?_;rw [Bool.eq_iff_iff];simp only [Bool.or_eq_true,Bool.and_eq_true,decide_eq_true_eq];omega
theorem b36 {B:MB} {p:A3} (hp:∀ i:Int,0≤sq p i∧sq p i≤12) (h:B.Is (fun s=>sq p s)) (hz:∀ i,15≤i→B.f i=0) (i:Nat):B.sums.f i=(mbOf p).f i:=by
 have ew:B.whites=side p 0:=by
  rw [b41 h];refine a01 fun s _=>?_;have:=hp s;rw [Bool.eq_iff_iff];simp only [Bool.and_eq_true,decide_eq_true_eq,Bool.not_eq_true',decide_eq_false_iff_not];unfold t8;by_cases h6:sq p s>6
  ·rw [if_pos h6];constructor<;>intro h<;>(try omega)
  ·rw [if_neg h6];constructor<;>intro h<;>(try omega)
 have eb:B.blacks=side p 1:=by
  rw [b42 h];refine a01 fun s _=>?_;have:=hp s;rw [Bool.eq_iff_iff];simp only [Bool.and_eq_true,decide_eq_true_eq,Bool.not_eq_true',decide_eq_false_iff_not];unfold t8;by_cases h6:sq p s>6
  ·rw [if_pos h6];constructor<;>intro h<;>(try omega)
  ·rw [if_neg h6];constructor<;>intro h<;>(try omega)
 have eo:side p 0 ||| side p 1=occ p:=by
  unfold side occ;rw [a0D];refine a01 fun s _=>?_;rcases b9Z (sq p s) with e | e<;>simp [e]
 unfold MB.sums;rw [a29,a29,a29,ew,eb,eo];show _=if i<12 then _ else _
 by_cases h14:i=14
 ·subst h14;rfl
 ·by_cases h13:i=13
  ·subst h13;rfl
  ·by_cases h12:i=12
   ·subst h12;rfl
   ·rw [if_neg h14,if_neg h13,if_neg h12];by_cases hi:i<12
    ·rw [if_pos hi,h i hi];rfl
    ·rw [if_neg hi,if_neg h12,if_neg h13,if_neg h14,hz i zo]
end
end Go.Proofs.YtpclhlhcegcflaaGreatDoor
