/- One part of the proof: Pk4 Pk5 PkL PkM Sp22 Min Sp23 Sp24 Sp25 Sp26 Sp27 Law6 Law7 Pk6 Pk7. -/
import Derived.Test.YtpclhlhcegcflaaGreatDoorM1
import Derived.Test.YtpclhlhcegcflaaGreatDoorM3
import Derived.Test.YtpclhlhcegcflaaGreatDoorM5
import Derived.Test.YtpclhlhcegcflaaGreatDoorM6
import Derived.Test.YtpclhlhcegcflaaGreatDoorM7
namespace Go.Proofs.YtpclhlhcegcflaaGreatDoor
set_option maxRecDepth 100000
set_option linter.unusedSimpArgs false
set_option linter.unusedVariables false
section
open Go Go.RowKit
open E
theorem a4d {P b t:Nat} {h:Hd} {cv:Value} {fz:Nat×Nat} (w:World) (hP:w.heap[P]?=some (.cells (hdA b h cv) t fz)):Calls G.P 121 #[.pointer (some ⟨P,0,none⟩)] w (D5 (.int .i8 h.turn) w):=by
 refine zN Tryz.func121 ?_;refine zR ?_;refine d6 _ (a69 hP) (zR ?_);exact ⟨rfl,rfl⟩
theorem b6p:Bb.not Ch.a1R=18374403900871474942:=by decide
theorem b6q:Bb.not Ch.a1S=9187201950435737471:=by decide
theorem b93:Bb.not Ch.a1n=72057594037927935:=by decide
theorem b94:Bb.not Ch.a02=18446744073709551360:=by decide
def MB.pawn (B:MB) (turn:Int) (E s:Nat):Nat :=
 if turn=1 then
  ((((s &&& 18374403900871474942) &&& 18446744073709551360) >>> 9) &&& (B.f 13 ||| E)) ||| ((((s &&& 9187201950435737471) &&& 18446744073709551360) >>> 7) &&& (B.f 13 ||| E)) ||| (((s &&& 18446744073709551360) >>> 8) &&& B.f 14) |||
   ((((((s &&& 18446744073709551360) >>> 8) &&& B.f 14) &&& 280375465082880) >>> 8) &&& B.f 14)
 else
  (Ch.shl ((s &&& 18374403900871474942) &&& 72057594037927935) 7 &&& (B.f 12 ||| E)) ||| (Ch.shl ((s &&& 9187201950435737471) &&& 72057594037927935) 9 &&& (B.f 12 ||| E)) ||| (Ch.shl (s &&& 72057594037927935) 8 &&& B.f 14) |||
   (Ch.shl ((Ch.shl (s &&& 72057594037927935) 8 &&& B.f 14) &&& 16711680) 8 &&& B.f 14)
def epN (e:Int):Nat:=if e=-1 then 0 else Bb.D0 e.toNat
theorem b05 {P b t u:Nat} {h:Hd} {cv:Value} {fz fy:Nat×Nat} {B:MB} [hO:B.Ok] (s:Nat) (hs:s<64) (ht:h.turn=1∨h.turn=2) (e0:-1≤h.ep) (e1:h.ep≤63) (w:World)
  (hP:w.heap[P]?=some (.cells (hdA b h cv) t fz)) (hB:w.heap[b]?=some (.cells (mbA B) u fy)) :
  Calls G.P 284 #[.pointer (some ⟨P,0,none⟩),.int .i8 s] w (D5 (.int .u64 (B.pawn h.turn (epN h.ep) (Bb.D0 s))) w):=by
 have c1:=fun w=>p8 s hs w;have l1:L64 (Bb.D0 s):=inferInstance;have tc:=a4d w hP;obtain ⟨cas,half,full,turn,ep,chk⟩:=h;simp only at ht e0 e1 tc ⊢;generalize Bb.D0 s=S at *;have lE:L64 (epN ep):=⟨by unfold epN;split;decide;exact Bb.a2N _⟩
 refine zN Tryz.func284 ?_;refine zR ?_;refine d9 (c1 _) (zG ?_);refine Nx.mk (zG ?_);refine A4 (σ:=Unit) [6] 15 (fun _=>[(6,.int .u64 (epN ep))]) (fun _ w'=>w'=w) zk ?_ (fun _ j w2 hw2=>?_)
 ·refine zR ?_;refine d6 _ (a86 hP) (zR ?_);apply E.r9<;>intro h
  ·have h':¬ ep=-1:=h;clear h;refine zR ?_;refine d6 _ (a86 hP) ?_;obtain ⟨e,rfl⟩:=Int.eq_ofNat_of_zero_le (show 0≤ep by omega)
   refine zR ?_;refine d9 (p8 e zo _) ?_;have:Bb.D0 e=epN (e:Int):=by unfold epN;rw [if_neg zo];rfl
   rw [this];generalize epN (e:Int)=EE;refine zR ?_;exact ⟨(),⟨rfl,trivial⟩,rfl⟩
  ·have h':ep=-1:=h;clear h;refine zR ?_;subst h';exact ⟨(),⟨rfl,trivial⟩,rfl⟩
 subst hw2;generalize epN ep=E at *;rcases ht with rfl | rfl
 ·have hr:B.pawn 1 E S=((((S &&& 18374403900871474942) &&& 18446744073709551360) >>> 9) &&& (B.f 13 ||| E)) ||| ((((S &&& 9187201950435737471) &&& 18446744073709551360) >>> 7) &&& (B.f 13 ||| E)) ||| (((S &&& 18446744073709551360) >>> 8) &&& B.f 14) |||
   ((((((S &&& 18446744073709551360) >>> 8) &&& B.f 14) &&& 280375465082880) >>> 8) &&& B.f 14):=rfl
  generalize B.pawn 1 E S=R at *;refine zR ?_;refine d9 tc (zB ?_);exact ⟨C3 (by rw [hr]),rfl⟩
 ·have hr:B.pawn 2 E S=(Ch.shl ((S &&& 18374403900871474942) &&& 72057594037927935) 7 &&& (B.f 12 ||| E)) ||| (Ch.shl ((S &&& 9187201950435737471) &&& 72057594037927935) 9 &&& (B.f 12 ||| E)) ||| (Ch.shl (S &&& 72057594037927935) 8 &&& B.f 14) |||
   (Ch.shl ((Ch.shl (S &&& 72057594037927935) 8 &&& B.f 14) &&& 16711680) 8 &&& B.f 14):=rfl
  generalize B.pawn 2 E S=R at *;refine zR ?_;refine d9 tc (zB ?_);exact ⟨C3 (by rw [hr]),rfl⟩
def MB.poss (B:MB) (turn:Int) (E:Nat) (k:Int) (s:Nat):Nat :=
 if k=1 then Ch.kg s else if k=2 then Ch.di (Bb.not (B.f 14)) s ||| Ch.hv (Bb.not (B.f 14)) s else if k=3 then Ch.hv (Bb.not (B.f 14)) s else if k=4 then Ch.di (Bb.not (B.f 14)) s
 else if k=5 then Ch.kn s else if k=6 then B.pawn turn E (Bb.D0 s) else 0
theorem b2j {P b t u:Nat} {h:Hd} {cv:Value} {fz fy:Nat×Nat} {B:MB} [hO:B.Ok] (s:Nat) (hs:s<64) (k:Int) (k1:1≤k) (k6:k≤6) (ht:h.turn=1∨h.turn=2) (e0:-1≤h.ep) (e1:h.ep≤63) (w:World) (hT:C1 w)
  (hP:w.heap[P]?=some (.cells (hdA b h cv) t fz)) (hB:w.heap[b]?=some (.cells (mbA B) u fy)) :
  Calls G.P 252 #[.pointer (some ⟨P,0,none⟩),.int .i8 k,.int .i8 s] w (K4 (.int .u64 (B.poss h.turn (epN h.ep) k s)) w):=by
 have c1:=fun w' (hw:Cl w w')=>b05 s hs ht e0 e1 w' (hw.blk hP) (hw.blk hB);have c2:=fun w' (hw:Cl w w')=>a2Z (Bb.not (B.f 14)) s hs w' (hT.cl hw);have c3:=fun w' (hw:Cl w w')=>a4c (Bb.not (B.f 14)) s hs w' (hT.cl hw);have l2:L64 (Ch.di (Bb.not (B.f 14)) s):=inferInstance;have l3:L64 (Ch.hv (Bb.not (B.f 14)) s):=inferInstance;have t1:=fun w' (hw:Cl w w')=>I0 (t:=235) (hT.cl hw).kg (o:=s) (i:=s) hs rfl rfl;have t2:=fun w' (hw:Cl w w')=>I0 (t:=235) (hT.cl hw).kn (o:=s) (i:=s) hs rfl rfl;have hk:k=1∨k=2∨k=3∨k=4∨k=5∨k=6:=by omega
 have r1:B.poss h.turn (epN h.ep) 1 s=Ch.kg s:=rfl;have r2:B.poss h.turn (epN h.ep) 2 s=Ch.di (Bb.not (B.f 14)) s ||| Ch.hv (Bb.not (B.f 14)) s:=rfl
 have r3:B.poss h.turn (epN h.ep) 3 s=Ch.hv (Bb.not (B.f 14)) s:=rfl;have r4:B.poss h.turn (epN h.ep) 4 s=Ch.di (Bb.not (B.f 14)) s:=rfl;have r5:B.poss h.turn (epN h.ep) 5 s=Ch.kn s:=rfl;have r6:B.poss h.turn (epN h.ep) 6 s=B.pawn h.turn (epN h.ep) (Bb.D0 s):=rfl;generalize B.pawn h.turn (epN h.ep) (Bb.D0 s)=R6 at *;generalize Ch.kg s=R1 at *;generalize Ch.kn s=R5 at *;generalize Ch.di (Bb.not (B.f 14)) s=R4 at *;generalize Ch.hv (Bb.not (B.f 14)) s=R3 at *;have hend:∀ w',Cl w w'→Cl w w':=fun _ h=>h;refine E.enter (G:=G) Tryz.func252 rfl (by simp [Tryz.ntmps252]) zk ?_
 refine U0 (Cl w) (Cl.refl _) (fun _=>Cl.drew) zk ?_;rcases hk with rfl | rfl | rfl | rfl | rfl | rfl
 ·rw [r1];refine zR ?_;refine zC ?_;refine zR ?_;refine g9 _ (fun w hw=>t1 w hw) (zR ?_);intro w' hw';refine zG ?_;exact ⟨rfl,hw'⟩
 ·rw [r2];refine zQ ?_;refine A5 _ (fun w hw=>c2 w hw) (zQ ?_);refine A5 _ (fun w hw=>c3 w hw) (zQ ?_);intro w' hw';refine zG ?_;exact ⟨rfl,hw'⟩
 ·rw [r3];refine zQ ?_;refine A5 _ (fun w hw=>c3 w hw) (zQ ?_);intro w' hw';refine zG ?_;exact ⟨rfl,hw'⟩
 ·rw [r4];refine zQ ?_;refine A5 _ (fun w hw=>c2 w hw) (zQ ?_);intro w' hw';refine zG ?_;exact ⟨rfl,hw'⟩
 ·rw [r5];refine zR ?_;refine zC ?_;refine zR ?_;refine g9 _ (fun w hw=>t2 w hw) (zR ?_);intro w' hw';refine zG ?_;exact ⟨rfl,hw'⟩
 ·rw [r6];refine zR ?_;refine A5 _ (fun w hw=>c1 w hw) (zR ?_);intro w' hw';refine zG ?_;exact ⟨rfl,hw'⟩
def MB.att (B:MB) (t:Int) (a:Nat):Bool :=
 let c:Nat:=if t=1 then 6 else 0
 if ((Ch.di (Bb.not (B.f 14)) a ||| Ch.hv (Bb.not (B.f 14)) a) &&& (if t=1 then B.f 13 else B.f 12)) ||| (Ch.kn a &&& (if t=1 then B.f 13 else B.f 12))=0 then false
 else if (Ch.di (Bb.not (B.f 14)) a ||| Ch.hv (Bb.not (B.f 14)) a) &&& B.f (c+1)≠0 then true
 else if Ch.hv (Bb.not (B.f 14)) a &&& B.f (c+2)≠0 then true
 else if Ch.di (Bb.not (B.f 14)) a &&& B.f (c+3)≠0 then true
 else if Ch.kn a &&& B.f (c+4)≠0 then true
 else if (if t=1 then Ch.shl ((B.f 11 &&& 18374403900871474942) &&& 72057594037927935) 7 ||| Ch.shl ((B.f 11 &&& 9187201950435737471) &&& 72057594037927935) 9
  else (((B.f 5 &&& 18374403900871474942) &&& 18446744073709551360) >>> 9) ||| (((B.f 5 &&& 9187201950435737471) &&& 18446744073709551360) >>> 7)) &&& Bb.D0 a≠0 then true
 else if Ch.kg a &&& B.f c≠0 then true
 else false
theorem n0 {a:Nat} (h:(a:Int)=0):a=0:=by omega
theorem n0' {a:Nat} (h:¬ (a:Int)=0):a≠0:=by omega
section ites
variable {c:Prop} [Decidable c] {x:Bool} {Q:Prop}
theorem q1 (no:(if c then false else x)=false→Q) (h:c):Q:=no (if_pos h)
theorem q2 (no:(if c then false else x)=false→Q) (h:¬ c):x=false→Q:=fun e=>no (by rw [if_neg h];exact e)
theorem q3 (yes:(if c then false else x)=true→Q) (h:¬ c):x=true→Q:=fun e=>yes (by rw [if_neg h];exact e)
theorem q4 (yes:(if c then true else x)=true→Q) (h:c):Q:=yes (if_pos h)
theorem q5 (no:(if c then true else x)=false→Q) (h:¬ c):x=false→Q:=fun e=>no (by rw [if_neg h];exact e)
theorem q6 (yes:(if c then true else x)=true→Q) (h:¬ c):x=true→Q:=fun e=>yes (by rw [if_neg h];exact e)
end ites
section one
variable {G':Nat}
def b8j (D H N K S s q r b n p k:Nat):Bool :=
 if ((D ||| H) &&& s) ||| (N &&& s)=0 then false
 else if (D ||| H) &&& q≠0 then true
 else if H &&& r≠0 then true
 else if D &&& b≠0 then true
 else if N &&& n≠0 then true
 else if p &&& S≠0 then true
 else if K &&& k≠0 then true
 else false
end one
theorem b95 (B:MB) (a:Nat):B.att 1 a=b8j (Ch.di (Bb.not (B.f 14)) a) (Ch.hv (Bb.not (B.f 14)) a) (Ch.kn a) (Ch.kg a) (Bb.D0 a) (B.f 13) (B.f 7) (B.f 8) (B.f 9) (B.f 10)
 (Ch.shl ((B.f 11 &&& 18374403900871474942) &&& 72057594037927935) 7 ||| Ch.shl ((B.f 11 &&& 9187201950435737471) &&& 72057594037927935) 9) (B.f 6):=rfl
theorem b96 (B:MB) (a:Nat):B.att 2 a=b8j (Ch.di (Bb.not (B.f 14)) a) (Ch.hv (Bb.not (B.f 14)) a) (Ch.kn a) (Ch.kg a) (Bb.D0 a) (B.f 12) (B.f 1) (B.f 2) (B.f 3) (B.f 4)
 ((((B.f 5 &&& 18374403900871474942) &&& 18446744073709551360) >>> 9) ||| (((B.f 5 &&& 9187201950435737471) &&& 18446744073709551360) >>> 7)) (B.f 0):=rfl
theorem b6r {l:List Nat} {f:Nat→Bool} {i:Nat} (hi:i<l.length) (h:f (l.getD i 0)=true):l.any f=true:=by
 rw [List.any_eq_true];refine ⟨l[i],List.getElem_mem hi,?_⟩;rw [List.getD_eq_getElem?_getD,List.getElem?_eq_getElem hi] at h;exact h
theorem b06 {l:List Nat} {f:Nat→Bool} {i:Nat} (hi:i<l.length) (h0:(l.take i).any f=false) (h:f (l.getD i 0)=false):(l.take (i+1)).any f=false:=by
 rw [List.take_succ_eq_append_getElem hi,List.any_append,h0];rw [List.getD_eq_getElem?_getD,List.getElem?_eq_getElem hi] at h;simpa using h
set_option maxHeartbeats 2000000 in
theorem a1v {P b t u:Nat} {h:Hd} {cv:Value} {fz fy:Nat×Nat} {B:MB} [hO:B.Ok] (ht:h.turn=1∨h.turn=2) (l:List Nat) (hl:∀ i,i<l.length→l.getD i 0<64) (hn:l.length≤1000) (g c:Nat) (w:World) (hT:C1 w)
  (hP:w.heap[P]?=some (.cells (hdA b h cv) t fz)) (hB:w.heap[b]?=some (.cells (mbA B) u fy)) (hS:Y2 w g l.length (fun i=>.int .i8 (l.getD i 0:Nat))) :
  Calls G.P 196 #[.pointer (some ⟨P,0,none⟩),.slice (some ⟨g,0,none⟩) l.length c] w (K4 (.bool (l.any (B.att h.turn))) w):=by
 have tc:=fun w' (hw:Cl w w')=>a4d w' (hw.blk hP);obtain ⟨cas,half,full,turn,ep,chk⟩:=h;simp only at ht tc ⊢;refine E.enter (G:=G) Tryz.func196 rfl (by simp [Tryz.ntmps196]) zk ?_
 refine U0 (Cl w) (Cl.refl _) (fun _=>Cl.drew) zk ?_;rcases ht with rfl | rfl
 ·have cO:=fun w=>a6B 1 (.inl rfl) w;refine zR ?_;refine A5 _ (fun w hw=>tc w hw) (zR ?_);refine A5 _ (fun w hw=>cO w) (zQ ?_);refine a4z (σ:=Nat) [4,8,9,10,11,12,13,14,15,16,17,18,19,33] 34 (fun i=>[(33,.int .i64 i)]) (fun i=>i≤l.length∧(l.take i).any (B.att 1)=false) (fun i=>l.length-i) zk 0 ⟨zo,rfl⟩ ⟨rfl,trivial⟩ ?_;rintro i j ⟨hi,hf⟩;have ni:=C2 (i:=i) zo;refine zR ?_;apply E.b7<;>intro h
  ·have hi2:i<l.length:=by omega
   clear h;have hs:=hl i hi2;have ts:=fun w' (hw:Cl w w')=>I0 (t:=138) (hS.cl hw) (o:=i) (i:=i) hi2 rfl rfl;have yes:B.att 1 (l.getD i 0)=true→l.any (B.att 1)=true:=b6r hi2;have no:B.att 1 (l.getD i 0)=false→(l.take (i+1)).any (B.att 1)=false:=b06 hi2 hf;generalize l.getD i 0=s at *;rw [b95] at yes no;have c2:=fun w' (hw:Cl w w')=>a2Z (Bb.not (B.f 14)) s hs w' (hT.cl hw);have c3:=fun w' (hw:Cl w w')=>a4c (Bb.not (B.f 14)) s hs w' (hT.cl hw);have c4:=fun w=>p8 s hs w;have l2:L64 (Ch.di (Bb.not (B.f 14)) s):=inferInstance;have l3:L64 (Ch.hv (Bb.not (B.f 14)) s):=inferInstance;have l4:L64 (Bb.D0 s):=inferInstance;have t1:=fun w' (hw:Cl w w')=>I0 (t:=235) (hT.cl hw).kg (o:=s) (i:=s) hs rfl rfl;have t2:=fun w' (hw:Cl w w')=>I0 (t:=235) (hT.cl hw).kn (o:=s) (i:=s) hs rfl rfl;have l5:L64 (Ch.kg s):=inferInstance;have l6:L64 (Ch.kn s):=inferInstance;have nq:=fun w' (hw:Cl w w')=>J3 2 2 zd zd (.inr rfl) w' (hT.cl hw);have nr:=fun w' (hw:Cl w w')=>J3 3 2 zd zd (.inr rfl) w' (hT.cl hw);have nb:=fun w' (hw:Cl w w')=>J3 4 2 zd zd (.inr rfl) w' (hT.cl hw);have nn:=fun w' (hw:Cl w w')=>J3 5 2 zd zd (.inr rfl) w' (hT.cl hw);have nk:=fun w' (hw:Cl w w')=>J3 1 2 zd zd (.inr rfl) w' (hT.cl hw);have bp:=fun x h0 h1 w' (hw:Cl w w')=>K8 B b x h0 h1 w' (hw.blk hB);generalize Ch.kg s=KG at *;generalize Ch.kn s=KN at *;generalize Ch.di (Bb.not (B.f 14)) s=D at *;generalize Ch.hv (Bb.not (B.f 14)) s=H at *;generalize Bb.D0 s=S at *;unfold b8j at yes no;refine zR ?_;refine zC ?_;refine zR ?_;refine g9 _ (fun w hw=>ts w hw) (zQ ?_);refine A5 _ (fun w hw=>tc w hw) (zQ ?_);refine A5 _ (fun w hw=>c2 w hw) (zR ?_);refine A5 _ (fun w hw=>c3 w hw) (zQ ?_);refine zC ?_;refine zR ?_;refine g9 _ (fun w hw=>t2 w hw) (zQ ?_);apply E.b7<;>intro h
   ·have no:=q1 no (n0 h);refine zR ?_;exact ⟨i+1,⟨m7 ni,trivial⟩,⟨zo,no⟩,zo⟩
   have no:=q2 no (n0' h);have yes:=q3 yes (n0' h);clear h;refine zQ ?_;refine A5 _ (fun w hw=>nq w hw) (zR ?_);refine A5 _ (fun w hw=>bp 8 zd zd w hw) (zR ?_);refine A5 _ (fun w hw=>c2 w hw) (zR ?_);refine A5 _ (fun w hw=>c3 w hw) (zQ ?_);apply E.r9<;>intro h
   ·have yes:=q4 yes (n0' h);refine zR ?_;intro w' hw';refine zG ?_;exact ⟨m8 yes.symm,hw'⟩
   have no:=q5 no (fun e=>e (n0 h));have yes:=q6 yes (fun e=>e (n0 h));clear h;refine zQ ?_;refine A5 _ (fun w hw=>nr w hw) (zR ?_);refine A5 _ (fun w hw=>bp 9 zd zd w hw) (zR ?_);refine A5 _ (fun w hw=>c3 w hw) (zQ ?_);apply E.r9<;>intro h
   ·have yes:=q4 yes (n0' h);refine zR ?_;intro w' hw';refine zG ?_;exact ⟨m8 yes.symm,hw'⟩
   have no:=q5 no (fun e=>e (n0 h));have yes:=q6 yes (fun e=>e (n0 h));clear h;refine zQ ?_;refine A5 _ (fun w hw=>nb w hw) (zR ?_);refine A5 _ (fun w hw=>bp 10 zd zd w hw) (zR ?_);refine A5 _ (fun w hw=>c2 w hw) (zQ ?_);apply E.r9<;>intro h
   ·have yes:=q4 yes (n0' h);refine zR ?_;intro w' hw';refine zG ?_;exact ⟨m8 yes.symm,hw'⟩
   have no:=q5 no (fun e=>e (n0 h));have yes:=q6 yes (fun e=>e (n0 h));clear h;refine zQ ?_;refine A5 _ (fun w hw=>nn w hw) (zR ?_);refine A5 _ (fun w hw=>bp 11 zd zd w hw) (zR ?_);refine zC ?_;refine zR ?_;refine g9 _ (fun w hw=>t2 w hw) (zQ ?_);apply E.r9<;>intro h
   ·have yes:=q4 yes (n0' h);refine zR ?_;intro w' hw';refine zG ?_;exact ⟨m8 yes.symm,hw'⟩
   have no:=q5 no (fun e=>e (n0 h));have yes:=q6 yes (fun e=>e (n0 h));clear h;refine zR ?_;refine A5 _ (fun w hw=>tc w hw) (zQ ?_);refine A5 _ (fun w hw=>c4 w) (zQ ?_);apply E.r9<;>intro h
   ·have yes:=q4 yes (n0' h);refine zR ?_;intro w' hw';refine zG ?_;exact ⟨m8 yes.symm,hw'⟩
   have no:=q5 no (fun e=>e (n0 h));have yes:=q6 yes (fun e=>e (n0 h));clear h;refine zQ ?_;refine A5 _ (fun w hw=>nk w hw) (zR ?_);refine A5 _ (fun w hw=>bp 7 zd zd w hw) (zR ?_);refine zC ?_;refine zR ?_;refine g9 _ (fun w hw=>t1 w hw) (zQ ?_);apply E.r9<;>intro h
   ·have yes:=q4 yes (n0' h);refine zR ?_;intro w' hw';refine zG ?_;exact ⟨m8 yes.symm,hw'⟩
   have no:=q5 no (fun e=>e (n0 h));have yes:=q6 yes (fun e=>e (n0 h));refine zR ?_;exact ⟨i+1,⟨m7 ni,trivial⟩,⟨zo,no rfl⟩,zo⟩
  ·have hi2:i=l.length:=by omega
   subst hi2;rw [List.take_length] at hf;refine zR ?_;intro w' hw';refine zG ?_;exact ⟨m8 hf.symm,hw'⟩
 ·have cO:=fun w=>a6B 2 (.inr rfl) w;refine zR ?_;refine A5 _ (fun w hw=>tc w hw) (zR ?_);refine A5 _ (fun w hw=>cO w) (zQ ?_);refine a4z (σ:=Nat) [4,8,9,10,11,12,13,14,15,16,17,18,19,33] 34 (fun i=>[(33,.int .i64 i)]) (fun i=>i≤l.length∧(l.take i).any (B.att 2)=false) (fun i=>l.length-i) zk 0 ⟨zo,rfl⟩ ⟨rfl,trivial⟩ ?_;rintro i j ⟨hi,hf⟩;have ni:=C2 (i:=i) zo;refine zR ?_;apply E.b7<;>intro h
  ·have hi2:i<l.length:=by omega
   clear h;have hs:=hl i hi2;have ts:=fun w' (hw:Cl w w')=>I0 (t:=138) (hS.cl hw) (o:=i) (i:=i) hi2 rfl rfl;have yes:B.att 2 (l.getD i 0)=true→l.any (B.att 2)=true:=b6r hi2;have no:B.att 2 (l.getD i 0)=false→(l.take (i+1)).any (B.att 2)=false:=b06 hi2 hf;generalize l.getD i 0=s at *;rw [b96] at yes no;have c2:=fun w' (hw:Cl w w')=>a2Z (Bb.not (B.f 14)) s hs w' (hT.cl hw);have c3:=fun w' (hw:Cl w w')=>a4c (Bb.not (B.f 14)) s hs w' (hT.cl hw);have c4:=fun w=>p8 s hs w;have l2:L64 (Ch.di (Bb.not (B.f 14)) s):=inferInstance;have l3:L64 (Ch.hv (Bb.not (B.f 14)) s):=inferInstance;have l4:L64 (Bb.D0 s):=inferInstance;have t1:=fun w' (hw:Cl w w')=>I0 (t:=235) (hT.cl hw).kg (o:=s) (i:=s) hs rfl rfl;have t2:=fun w' (hw:Cl w w')=>I0 (t:=235) (hT.cl hw).kn (o:=s) (i:=s) hs rfl rfl;have l5:L64 (Ch.kg s):=inferInstance;have l6:L64 (Ch.kn s):=inferInstance;have nq:=fun w' (hw:Cl w w')=>J3 2 1 zd zd (.inl rfl) w' (hT.cl hw);have nr:=fun w' (hw:Cl w w')=>J3 3 1 zd zd (.inl rfl) w' (hT.cl hw);have nb:=fun w' (hw:Cl w w')=>J3 4 1 zd zd (.inl rfl) w' (hT.cl hw);have nn:=fun w' (hw:Cl w w')=>J3 5 1 zd zd (.inl rfl) w' (hT.cl hw);have nk:=fun w' (hw:Cl w w')=>J3 1 1 zd zd (.inl rfl) w' (hT.cl hw);have bp:=fun x h0 h1 w' (hw:Cl w w')=>K8 B b x h0 h1 w' (hw.blk hB);generalize Ch.kg s=KG at *;generalize Ch.kn s=KN at *;generalize Ch.di (Bb.not (B.f 14)) s=D at *;generalize Ch.hv (Bb.not (B.f 14)) s=H at *;generalize Bb.D0 s=S at *;unfold b8j at yes no;refine zR ?_;refine zC ?_;refine zR ?_;refine g9 _ (fun w hw=>ts w hw) (zQ ?_);refine A5 _ (fun w hw=>tc w hw) (zQ ?_);refine A5 _ (fun w hw=>c2 w hw) (zR ?_);refine A5 _ (fun w hw=>c3 w hw) (zQ ?_);refine zC ?_;refine zR ?_;refine g9 _ (fun w hw=>t2 w hw) (zQ ?_);apply E.b7<;>intro h
   ·have no:=q1 no (n0 h);refine zR ?_;exact ⟨i+1,⟨m7 ni,trivial⟩,⟨zo,no⟩,zo⟩
   have no:=q2 no (n0' h);have yes:=q3 yes (n0' h);clear h;refine zQ ?_;refine A5 _ (fun w hw=>nq w hw) (zR ?_);refine A5 _ (fun w hw=>bp 2 zd zd w hw) (zR ?_);refine A5 _ (fun w hw=>c2 w hw) (zR ?_);refine A5 _ (fun w hw=>c3 w hw) (zQ ?_);apply E.r9<;>intro h
   ·have yes:=q4 yes (n0' h);refine zR ?_;intro w' hw';refine zG ?_;exact ⟨m8 yes.symm,hw'⟩
   have no:=q5 no (fun e=>e (n0 h));have yes:=q6 yes (fun e=>e (n0 h));clear h;refine zQ ?_;refine A5 _ (fun w hw=>nr w hw) (zR ?_);refine A5 _ (fun w hw=>bp 3 zd zd w hw) (zR ?_);refine A5 _ (fun w hw=>c3 w hw) (zQ ?_);apply E.r9<;>intro h
   ·have yes:=q4 yes (n0' h);refine zR ?_;intro w' hw';refine zG ?_;exact ⟨m8 yes.symm,hw'⟩
   have no:=q5 no (fun e=>e (n0 h));have yes:=q6 yes (fun e=>e (n0 h));clear h;refine zQ ?_;refine A5 _ (fun w hw=>nb w hw) (zR ?_);refine A5 _ (fun w hw=>bp 4 zd zd w hw) (zR ?_);refine A5 _ (fun w hw=>c2 w hw) (zQ ?_);apply E.r9<;>intro h
   ·have yes:=q4 yes (n0' h);refine zR ?_;intro w' hw';refine zG ?_;exact ⟨m8 yes.symm,hw'⟩
   have no:=q5 no (fun e=>e (n0 h));have yes:=q6 yes (fun e=>e (n0 h));clear h;refine zQ ?_;refine A5 _ (fun w hw=>nn w hw) (zR ?_);refine A5 _ (fun w hw=>bp 5 zd zd w hw) (zR ?_);refine zC ?_;refine zR ?_;refine g9 _ (fun w hw=>t2 w hw) (zQ ?_);apply E.r9<;>intro h
   ·have yes:=q4 yes (n0' h);refine zR ?_;intro w' hw';refine zG ?_;exact ⟨m8 yes.symm,hw'⟩
   have no:=q5 no (fun e=>e (n0 h));have yes:=q6 yes (fun e=>e (n0 h));clear h;refine zR ?_;refine A5 _ (fun w hw=>tc w hw) (zQ ?_);refine A5 _ (fun w hw=>c4 w) (zQ ?_);apply E.r9<;>intro h
   ·have yes:=q4 yes (n0' h);refine zR ?_;intro w' hw';refine zG ?_;exact ⟨m8 yes.symm,hw'⟩
   have no:=q5 no (fun e=>e (n0 h));have yes:=q6 yes (fun e=>e (n0 h));clear h;refine zQ ?_;refine A5 _ (fun w hw=>nk w hw) (zR ?_);refine A5 _ (fun w hw=>bp 1 zd zd w hw) (zR ?_);refine zC ?_;refine zR ?_;refine g9 _ (fun w hw=>t1 w hw) (zQ ?_);apply E.r9<;>intro h
   ·have yes:=q4 yes (n0' h);refine zR ?_;intro w' hw';refine zG ?_;exact ⟨m8 yes.symm,hw'⟩
   have no:=q5 no (fun e=>e (n0 h));have yes:=q6 yes (fun e=>e (n0 h));refine zR ?_;exact ⟨i+1,⟨m7 ni,trivial⟩,⟨zo,no rfl⟩,zo⟩
  ·have hi2:i=l.length:=by omega
   subst hi2;rw [List.take_length] at hf;refine zR ?_;intro w' hw';refine zG ?_;exact ⟨m8 hf.symm,hw'⟩
theorem c1Q {w:World} {v:Value} (hv:v.cells=#[v]) (t:Nat) (ht:a1J t=true):Y2 (w.alloc (.cells (([v]:List Value).flatMap fun v=>v.cells.toList).toArray t)) w.heap.size 1 (fun _=>v) :=
 ⟨_,t,(0,0),d8 _ _,ht,fun i hi=>by
  have:i=0:=by omega
  subst this;simp [hv]⟩
theorem a05:G2 280 138 1 1:=R0 zk
def MB.chk (B:MB) (t:Int):Bool :=
 let k:=if t=2 then B.bk else B.wk
 !decide (k=-1)&&B.att t k.toNat
theorem a5W {P b t u:Nat} {h:Hd} {cv:Value} {fz fy:Nat×Nat} {B:MB} [hO:B.Ok] (ht:h.turn=1∨h.turn=2) (w0:-1≤B.wk) (w1:B.wk≤63) (b0:-1≤B.bk) (b1:B.bk≤63) (w:World) (hT:C1 w)
  (hP:w.heap[P]?=some (.cells (hdA b h cv) t fz)) (hB:w.heap[b]?=some (.cells (mbA B) u fy)) :
  Calls G.P 137 #[.pointer (some ⟨P,0,none⟩)] w (K4 (.bool (B.chk h.turn)) w):=by
 have tc:=a4d w hP;have key:∀ k:Int,k=(if h.turn=2 then B.bk else B.wk)→k≠-1→∀ w',Cl w w'→∀ g c,Y2 w' g 1 (fun _=>.int .i8 k)→Calls G.P 196 #[.pointer (some ⟨P,0,none⟩),.slice (some ⟨g,0,none⟩) 1 c] w' (K4 (.bool (B.chk h.turn)) w'):=by
  intro k hk hne w' hw g c hS;have k0:0≤k:=by split at hk<;>omega
  have k1:k≤63:=by split at hk<;>omega
  have hr:B.chk h.turn=[k.toNat].any (B.att h.turn):=by
   unfold MB.chk;simp only [← hk,List.any_cons,List.any_nil,Bool.or_false];rw [decide_eq_false hne];rfl
  rw [hr];exact a1v ht [k.toNat] (fun i hi=>by
   have:i=0:=by simp at hi;omega
   subst this;simp;omega) (by simp) g c w' (hT.cl hw) (hw.blk hP) (hw.blk hB) (by
    obtain ⟨cs,t,fz,h1,h2,h3⟩:=hS;refine ⟨cs,t,fz,h1,h2,fun i hi=>?_⟩;have:i=0:=by simp at hi;omega
    subst this;rw [h3 0 zd];simp [Int.toNat_of_nonneg k0])
 have no:(if h.turn=2 then B.bk else B.wk)=-1→B.chk h.turn=false:=fun e=>by unfold MB.chk;simp [e]
 generalize B.chk h.turn=R at *;obtain ⟨cas,half,full,turn,ep,chk⟩:=h;simp only at ht key no tc ⊢;refine zN Tryz.func137 ?_;rcases ht with rfl | rfl
 ·rw [if_neg zd] at no;rw [if_neg zd] at key;refine zR ?_;refine d6 _ (a7o hP) (zR ?_);refine d6 _ (b8f hB) (zR ?_);refine d9 tc (zR ?_);generalize B.wk=k at *;apply E.b7<;>intro h
  ·refine zR ?_;exact ⟨m8 (no h).symm,Cl.refl _⟩
  ·refine zR ?_;refine zL a05 [.int .i8 k] ?_;have hc:=Cl.alloc w (.cells (([Value.int .i8 k]:List Value).flatMap fun v=>v.cells.toList).toArray 138);have hb:=c1Q (w:=w) (v:=.int .i8 k) rfl 138 rfl;generalize w.alloc (.cells (([Value.int .i8 k]:List Value).flatMap fun v=>v.cells.toList).toArray 138)=w1 at *;refine zR ?_;refine m9 (key k rfl h w1 hc _ _ hb) fun w2 c2=>zR ?_;exact ⟨rfl,hc.trans c2⟩
 ·rw [if_pos rfl] at no;rw [if_pos rfl] at key;refine zR ?_;refine d6 _ (a7o hP) (zR ?_);refine d6 _ (b8f hB) (zR ?_);refine d9 tc (zR ?_);refine d6 _ (a7o hP) (zR ?_);refine d6 _ (c0l hB) (zR ?_);generalize B.bk=k at *;apply E.b7<;>intro h
  ·refine zR ?_;exact ⟨m8 (no h).symm,Cl.refl _⟩
  ·refine zR ?_;refine zL a05 [.int .i8 k] ?_;have hc:=Cl.alloc w (.cells (([Value.int .i8 k]:List Value).flatMap fun v=>v.cells.toList).toArray 138);have hb:=c1Q (w:=w) (v:=.int .i8 k) rfl 138 rfl;generalize w.alloc (.cells (([Value.int .i8 k]:List Value).flatMap fun v=>v.cells.toList).toArray 138)=w1 at *;refine zR ?_;refine m9 (key k rfl h w1 hc _ _ hb) fun w2 c2=>zR ?_;exact ⟨rfl,hc.trans c2⟩
end
section
open Ch Bb
theorem not_not {a:Nat} (h:a<2^64):Bb.not (Bb.not a)=a:=by
 refine Bb.ext (not_lt (not_lt h)) h fun s hs=>?_;rw [E0 _ hs,E0 _ hs,Bool.not_not]
def bbf (g:Nat→Int) (i:Nat):Nat:=bb (fun s=>decide (g s=(i:Int)+1))
theorem a4e (g:Nat→Int) (i:Nat):bbf g i<2^64:=O0 _
theorem a0c (g:Nat→Int) (i:Nat) {s:Nat} (hs:s<64):(bbf g i).testBit (63-s)=decide (g s=(i:Int)+1):=E7 _ hs
theorem a1Z {g g':Nat→Int} {i:Nat} (h:∀ s,s<64→(g s=(i:Int)+1↔g' s=(i:Int)+1)):bbf g i=bbf g' i:=a01 fun s hs=>decide_eq_decide.2 (h s hs)
theorem b6s {a:Nat} {g:Nat→Int} {i:Nat} (ha:a<2^64) (h:∀ s,s<64→(a.testBit (63-s)=true↔g s=(i:Int)+1)):a=bbf g i :=
 a8s ha fun s hs=>by rw [Bool.eq_iff_iff,h s hs,decide_eq_true_eq]
def MB.Is (B:MB) (g:Nat→Int):Prop:=∀ i,i<12→B.f i=bbf g i
def mbOf (p:A3):MB:=⟨fun i=>if i<12 then pcs p ((i:Int)+1) else if i=12 then side p 0 else if i=13 then side p 1 else if i=14 then R7 p else 0,kingAt p 0,kingAt p 1⟩
theorem a0d (p:A3):(mbOf p).Is (fun s=>sq p s):=fun i hi=>by
 show (if i<12 then _ else _)=_
 rw [if_pos hi];rfl
instance mbOf_ok (p:A3):(mbOf p).Ok:=⟨fun i=>by
 show (if i<12 then _ else _)<_
 repeat' split
 ·exact O0 _
 ·exact O0 _
 ·exact O0 _
 ·exact not_lt (O0 _)
 ·decide⟩
theorem b8k (p:A3):(mbOf p).f 14=R7 p:=rfl
theorem b2k (p:A3):Bb.not ((mbOf p).f 14)=occ p:=not_not (O0 _)
theorem b8l {p:A3} (hp:∀ i:Int,0≤sq p i∧sq p i≤12) {s:Nat} (hs:s<64):∀ n x,x+n=12→(mbOf p).from s n x=if (x:Int)<sq p s then sq p s else 0:=by
 intro n
 induction n with
 | zero=>intro x hx;have:=hp s;rw [if_neg zo];rfl
 | succ n ih =>
  intro x hx;unfold MB.from;rw [a0d p x zo,a0c _ _ hs];by_cases h:sq p s=(x:Int)+1
  ·rw [if_pos (by simpa using h),if_pos zo,h]
  ·rw [if_neg (by simpa using h),ih (x+1) zo]
   by_cases h2:((x+1:Nat):Int)<sq p s
   ·rw [if_pos h2,if_pos zo]
   ·rw [if_neg h2,if_neg zo]
theorem T8 {p:A3} (hp:∀ i:Int,0≤sq p i∧sq p i≤12) {s:Nat} (hs:s<64):(mbOf p).at s=sq p s:=by
 unfold MB.at;rw [b8l hp hs 12 0 rfl];have:=hp s;split<;>omega
theorem a7t {p:A3} (hp:∀ i:Int,0≤sq p i∧sq p i≤12) {c:Int} (hc:c=0∨c=1) {a:Nat} (ha:a<64):(mbOf p).att (c+1) a=z7 p a (1-c):=by
 rw [← b7V p hp ha (by omega:1-c=0∨1-c=1)]
 rcases hc with rfl | rfl
 ·rw [show (0:Int)+1=1 from rfl,b95,b2k];unfold b5K a1T;rw [b6p,b6q,b93];rfl
 ·rw [show (1:Int)+1=2 from rfl,b96,b2k];unfold b5K a1T;rw [b6p,b6q,b94];rfl
theorem b8m (p:A3) (ht:p.turn=0∨p.turn=1) (fr:Nat):(mbOf p).pawn (p.turn+1) (epN p.ep) (D0 fr)=a5P p fr:=by
 unfold a5P MB.pawn;rw [b6p,b6q,b93,b94];rcases ht with h | h
 ·rw [h];rfl
 ·rw [h];rfl
theorem b8n (p:A3) (ht:p.turn=0∨p.turn=1) (k:Int) (fr:Nat):(mbOf p).poss (p.turn+1) (epN p.ep) k fr=a5Q p k fr:=by
 unfold MB.poss a5Q;rw [b2k,b8m p ht]
def MB.m1 (B:MB) (fr to n:Nat):MB :=
 { B with f:=fun i=>if i<n then (if (B.f i).testBit (63-fr) then ((B.f i &&& Bb.not (D0 to)) &&& Bb.not (D0 fr)) ||| D0 to else B.f i &&& Bb.not (D0 to)) else B.f i }
def MB.m2 (B:MB) (x y:Int) (to:Nat):MB:=(B.set (x.toNat-1) (B.of x &&& Bb.not (D0 to))).set (y.toNat-1) ((B.set (x.toNat-1) (B.of x &&& Bb.not (D0 to))).of y ||| D0 to)
def MB.m3 (B:MB) (c:Int) (to:Nat):MB:=if c=1 then B.set 11 (Bb.not (shl (D0 to) 8) &&& B.f 11) else B.set 5 (Bb.not (D0 to >>> 8) &&& B.f 5)
def MB.m4 (B:MB) (c:Int) (t0 t1:Bool):MB :=
 if c=1∧t0=true then B.set 2 ((B.f 2 &&& Bb.not (D0 7)) ||| D0 5) else if c=1∧t1=true then B.set 2 ((B.f 2 &&& Bb.not (D0 0)) ||| D0 3)
 else if c=2∧t0=true then B.set 8 ((B.f 8 &&& Bb.not (D0 63)) ||| D0 61) else if c=2∧t1=true then B.set 8 ((B.f 8 &&& Bb.not (D0 56)) ||| D0 59) else B
def MB.whites (B:MB):Nat:=B.f 0 ||| B.f 1 ||| B.f 2 ||| B.f 3 ||| B.f 4 ||| B.f 5
def MB.blacks (B:MB):Nat:=B.f 6 ||| B.f 7 ||| B.f 8 ||| B.f 9 ||| B.f 10 ||| B.f 11
def MB.sums (B:MB):MB:=((B.set 12 B.whites).set 13 B.blacks).set 14 (Bb.not (B.whites ||| B.blacks))
def MB.kings (B:MB) (fr to:Int):MB:=if fr=B.wk then { B with wk:=to } else if fr=B.bk then { B with bk:=to } else B
def MB.move (B:MB) (m:Mv) (tags:Nat):MB :=
 let fr:=m.fr.toNat;let to:=m.to.toNat;let x:=B.at fr;let B1:=B.m1 fr to 12;let B2:=if m.promo=0 then B1 else B1.m2 x (m.promo+6*(colM x-1)) to
 let B3:=if tags.testBit 3 then B2.m3 (colM x) to else B2
 ((B3.m4 (colM x) (tags.testBit 0) (tags.testBit 1)).sums).kings m.fr m.to
theorem a29 (B:MB) (i x j:Nat):(B.set i x).f j=if j=i then x else B.f j:=rfl
theorem b97 {B:MB} {g:Nat→Int} (h:B.Is g) {fr to:Nat} (hf:fr<64) (ht:to<64) (hne:fr≠to):(B.m1 fr to 12).Is (fun s=>if s=to then g fr else if s=fr then 0 else g s):=by
 intro i hi;show (if i<12 then _ else _)=_
 rw [if_pos hi,h i hi,a0c _ _ hf];have l1:=a4e g i;refine b6s ?_ fun s hs=>?_
 ·split
  ·exact Nat.or_lt_two_pow (Nat.lt_of_le_of_lt Nat.and_le_left (Nat.lt_of_le_of_lt Nat.and_le_left l1)) (a2N _)
  ·exact Nat.lt_of_le_of_lt Nat.and_le_left l1
 ·by_cases hg:g fr=(i:Int)+1
  ·rw [if_pos (by simpa using hg)]
   rw [Nat.testBit_or,Nat.testBit_and,Nat.testBit_and,a0c _ _ hs,E0 _ hs,E0 _ hs,G7 ht hs,G7 hf hs];by_cases e1:s=to
   ·simp [e1,hg]
   ·by_cases e2:s=fr
    ·simp [e2,hne];omega
    ·simp [e1,e2]
  ·rw [if_neg (by simpa using hg)]
   rw [Nat.testBit_and,a0c _ _ hs,E0 _ hs,G7 ht hs];by_cases e1:s=to
   ·simp [e1,hg]
   ·by_cases e2:s=fr
    ·simp [e2,hne,hg];omega
    ·simp [e1,e2]
theorem a7u {B:MB} {g g':Nat→Int} (h:B.Is g) {i x:Nat} (hx:x<2^64) (h1:∀ s,s<64→(x.testBit (63-s)=true↔g' s=(i:Int)+1)) (h2:∀ j,j<12→j≠i→∀ s,s<64→(g s=(j:Int)+1↔g' s=(j:Int)+1)):(B.set i x).Is g':=by
 intro j hj;rw [a29];by_cases e:j=i
 ·subst e;rw [if_pos rfl];exact b6s hx h1
 ·rw [if_neg e,h j hj];exact a1Z (h2 j hj e)
theorem b34 {B:MB} {g:Nat→Int} (h:B.Is g) {x:Int} (x1:1≤x) (x2:x≤12):B.of x=bbf g (x.toNat-1):=by
 unfold MB.of;rw [if_neg zo];exact h _ zo
theorem b35 {a b:Nat} (h:a<2^64):a &&& b<2^64:=Nat.lt_of_le_of_lt Nat.and_le_left h
theorem c1R {B:MB} {g:Nat→Int} (h:B.Is g) {x y:Int} {to:Nat} (ht:to<64) (x1:1≤x) (x2:x≤12) (y1:1≤y) (y2:y≤12) (hg:g to=x) (hne:x≠y):(B.m2 x y to).Is (fun s=>if s=to then y else g s):=by
 unfold MB.m2;have hA:(B.set (x.toNat-1) (B.of x &&& Bb.not (D0 to))).Is (fun s=>if s=to then 0 else g s):=by
  refine a7u h (b35 (by rw [b34 h x1 x2];exact a4e _ _)) (fun s hs=>?_) (fun j hj hji s hs=>?_)
  ·rw [b34 h x1 x2,Nat.testBit_and,a0c _ _ hs,E0 _ hs,G7 ht hs];by_cases e:s=to
   ·simp [e];omega
   ·simp [e]
  ·by_cases e:s=to
   ·subst e;simp [hg];omega
   ·simp [e]
 refine a7u hA (Nat.or_lt_two_pow (by rw [b34 hA y1 y2];exact a4e _ _) (a2N _)) (fun s hs=>?_) (fun j hj hji s hs=>?_)
 ·rw [b34 hA y1 y2,Nat.testBit_or,a0c _ _ hs,G7 ht hs];by_cases e:s=to
  ·simp [e];omega
  ·simp [e]
 ·by_cases e:s=to
  ·subst e;simp;omega
  ·simp [e]
theorem c1S {B:MB} {g:Nat→Int} (h:B.Is g) {c:Int} (hc:c=1∨c=2) {to q:Nat} (ht:to<64) (hq:q<64) (hqt:(q:Int)=to-8*(3-2*c)) (hg:g q=if c=1 then 12 else 6):(B.m3 c to).Is (fun s=>if s=q then 0 else g s):=by
 unfold MB.m3;rcases hc with rfl | rfl
 ·rw [if_pos rfl];rw [if_pos rfl] at hg;refine a7u h (Nat.and_lt_two_pow _ (by rw [h 11 zd];exact a4e _ _)) (fun s hs=>?_) (fun j hj hji s hs=>?_)
  ·rw [h 11 zd,Nat.testBit_and,a0c _ _ hs,E0 _ hs,a2k _ _ hs];by_cases e:s=q
   ·subst e;have:s+8=to:=by omega
    rw [this,G7 ht ht];simp [ht]
   ·have hne:s+8≠to:=by omega
    by_cases h64:s+8<64
    ·rw [G7 ht h64];simp [e,hne]
    ·simp [e,h64]
  ·by_cases e:s=q
   ·subst e;simp [hg];omega
   ·simp [e]
 ·rw [if_neg zd];rw [if_neg zd] at hg;refine a7u h (Nat.and_lt_two_pow _ (by rw [h 5 zd];exact a4e _ _)) (fun s hs=>?_) (fun j hj hji s hs=>?_)
  ·rw [h 5 zd,Nat.testBit_and,a0c _ _ hs,E0 _ hs,a2l _ _ (a2N _) hs];by_cases e:s=q
   ·subst e;have:s-8=to:=by omega
    rw [this,G7 ht ht];simp [show 8≤s by omega]
   ·by_cases h8:8≤s
    ·have hne:s-8≠to:=by omega
     rw [G7 ht zo];simp [e,hne]
    ·simp [e,h8]
  ·by_cases e:s=q
   ·subst e;simp [hg];omega
   ·simp [e]
theorem b8o {B:MB} {g:Nat→Int} (h:B.Is g) {i R F:Nat} (hi:i<12) (hR:R<64) (hF:F<64) (gR:g R=(i:Int)+1) (gF:g F=0) (hne:R≠F):(B.set i ((B.f i &&& Bb.not (D0 R)) ||| D0 F)).Is (fun s=>if s=F then (i:Int)+1 else if s=R then 0 else g s):=by
 refine a7u h (Nat.or_lt_two_pow (b35 (by rw [h i hi];exact a4e _ _)) (a2N _)) (fun s hs=>?_) (fun j hj hji s hs=>?_)
 ·rw [h i hi,Nat.testBit_or,Nat.testBit_and,a0c _ _ hs,E0 _ hs,G7 hR hs,G7 hF hs];by_cases e:s=F
  ·simp [e]
  ·by_cases e2:s=R
   ·simp [e2,hne];omega
   ·simp [e,e2]
 ·by_cases e:s=F
  ·subst e;simp [gF];omega
  ·by_cases e2:s=R
   ·subst e2;simp [hne,gR];omega
   ·simp [e,e2]
theorem a5z {A B:MB} (hf:∀ i,A.f i=B.f i) (h1:A.wk=B.wk) (h2:A.bk=B.bk):A=B:=by
 cases A;cases B;simp only [MB.mk.injEq];exact ⟨funext hf,h1,h2⟩
theorem b41 {B:MB} {g:Nat→Int} (h:B.Is g):B.whites=bb (fun s=>decide (1≤g s)&&decide (g s≤6)):=by
 unfold MB.whites;rw [h 0 zd,h 1 zd,h 2 zd,h 3 zd,h 4 zd,h 5 zd];unfold bbf;rw [a0D,a0D,a0D,a0D,a0D];refine a01 fun s _=>?_;rw [Bool.eq_iff_iff];simp only [Bool.or_eq_true,Bool.and_eq_true,decide_eq_true_eq];omega
theorem b42 {B:MB} {g:Nat→Int} (h:B.Is g):B.blacks=bb (fun s=>decide (7≤g s)&&decide (g s≤12)):=by
 unfold MB.blacks;rw [h 6 zd,h 7 zd,h 8 zd,h 9 zd,h 10 zd,h 11 zd];unfold bbf;rw [a0D,a0D,a0D,a0D,a0D];refine a01 fun s _=>?_;rw [Bool.eq_iff_iff];simp only [Bool.or_eq_true,Bool.and_eq_true,decide_eq_true_eq];omega
theorem b36 {B:MB} {p:A3} (hp:∀ i:Int,0≤sq p i∧sq p i≤12) (h:B.Is (fun s=>sq p s)) (hz:∀ i,15≤i→B.f i=0) (i:Nat):B.sums.f i=(mbOf p).f i:=by
 have ew:B.whites=side p 0:=by
  rw [b41 h];refine a01 fun s _=>?_;have:=hp s;rw [Bool.eq_iff_iff];simp only [Bool.and_eq_true,decide_eq_true_eq,Bool.not_eq_true',decide_eq_false_iff_not];unfold t8;by_cases h6:sq p s>6
  ·rw [if_pos h6];constructor<;>intro h<;>(try omega)
  ·rw [if_neg h6];constructor<;>intro h<;>(try omega)
 have eb:B.blacks=side p 1:=by
  rw [b42 h];refine a01 fun s _=>?_;have:=hp s;rw [Bool.eq_iff_iff];simp only [Bool.and_eq_true,decide_eq_true_eq,Bool.not_eq_true',decide_eq_false_iff_not];unfold t8;by_cases h6:sq p s>6
  ·rw [if_pos h6];constructor<;>intro h<;>(try omega)
  ·rw [if_neg h6];constructor<;>intro h<;>(try omega)
 have eo:side p 0 ||| side p 1=occ p:=by
  unfold side occ;rw [a0D];refine a01 fun s _=>?_;rcases b9Z (sq p s) with e | e<;>simp [e]
 unfold MB.sums;rw [a29,a29,a29,ew,eb,eo];show _=if i<12 then _ else _
 by_cases h14:i=14
 ·subst h14;rfl
 ·by_cases h13:i=13
  ·subst h13;rfl
  ·by_cases h12:i=12
   ·subst h12;rfl
   ·rw [if_neg h14,if_neg h13,if_neg h12];by_cases hi:i<12
    ·rw [if_pos hi,h i hi];rfl
    ·rw [if_neg hi,if_neg h12,if_neg h13,if_neg h14,hz i zo]
theorem b2l (B:MB) (fr to:Nat) {i:Nat} (hi:12≤i):(B.m1 fr to 12).f i=B.f i:=by
 show (if i<12 then _ else _)=_
 rw [if_neg zo]
theorem c0p (B:MB) {x y:Int} (to:Nat) (x1:1≤x) (x2:x≤12) (y1:1≤y) (y2:y≤12) {i:Nat} (hi:12≤i):(B.m2 x y to).f i=B.f i:=by
 unfold MB.m2;rw [a29,if_neg zo,a29,if_neg zo]
theorem c0q (B:MB) (c:Int) (to:Nat) {i:Nat} (hi:12≤i):(B.m3 c to).f i=B.f i:=by
 unfold MB.m3;split<;>rw [a29,if_neg zo]
theorem a7v (p:A3) {i:Nat} (hi:15≤i):(mbOf p).f i=0:=by
 show (if i<12 then _ else _)=_
 rw [if_neg zo,if_neg zo,if_neg zo,if_neg zo]
theorem a4H (B:MB) (c:Int) (to:Nat):(B.m3 c to).wk=B.wk∧(B.m3 c to).bk=B.bk:=by unfold MB.m3;split<;>exact ⟨rfl,rfl⟩
theorem b07 (B:MB) (c:Int) (a b:Bool):(B.m4 c a b).wk=B.wk∧(B.m4 c a b).bk=B.bk:=by
 unfold MB.m4;repeat' split
 all_goals exact ⟨rfl,rfl⟩
theorem b37 {p:A3} (hI:B7 p) {i:Int} (h:sq p i≠0) (ho:t8 (sq p i)=p.turn):colM (sq p i)=p.turn+1:=by
 unfold colM;rw [if_neg h,ho]
theorem b6t {p q:A3} (hI:B7 p) {m:Mv} {A:MB} (hw:A.wk=kingAt p 0) (hb:A.bk=kingAt p 1) (ho:t8 (sq p m.fr)=p.turn) (hx:sq p m.fr≠0)
  (h1:Q0 q p.turn (if m.fr=kingAt p p.turn then m.to else kingAt p p.turn)) (h2:Q0 q (1-p.turn) (kingAt p (1-p.turn))):(A.kings m.fr m.to).wk=kingAt q 0∧(A.kings m.fr m.to).bk=kingAt q 1∧(A.kings m.fr m.to).f=A.f:=by
 unfold MB.kings;rw [hw,hb];have e1:=h1.at;have e2:=h2.at;rcases hI.turn with ht | ht
 ·rw [ht] at e1 e2 ho;simp only [show (1:Int)-0=1 from rfl] at e2;by_cases hk:m.fr=kingAt p 0
  ·rw [if_pos hk];rw [if_pos hk] at e1;exact ⟨e1.symm,by rw [e2],rfl⟩
  ·rw [if_neg hk] at e1;rw [if_neg hk];have hne:m.fr≠kingAt p 1:=fun e=>by
    have:=(hI.king 1 (.inr rfl)).2.2.1;rw [← e] at this;rw [this] at ho;revert ho;decide
   rw [if_neg hne];exact ⟨by rw [e1];exact hw,by rw [e2];exact hb,rfl⟩
 ·rw [ht] at e1 e2 ho;simp only [show (1:Int)-1=0 from rfl] at e2;have hne:m.fr≠kingAt p 0:=fun e=>by
   have:=(hI.king 0 (.inl rfl)).2.2.1;rw [← e] at this;rw [this] at ho;revert ho;decide
  rw [if_neg hne];by_cases hk:m.fr=kingAt p 1
  ·rw [if_pos hk];rw [if_pos hk] at e1;exact ⟨by rw [e2],e1.symm,rfl⟩
  ·rw [if_neg hk] at e1;rw [if_neg hk];exact ⟨by rw [e2];exact hw,by rw [e1];exact hb,rfl⟩
theorem a7w (A:MB):A.sums.wk=A.wk∧A.sums.bk=A.bk:=⟨rfl,rfl⟩
theorem a7x {p q:A3} (hI:B7 p) {m:Mv} {A:MB} (hq:∀ i:Int,0≤sq q i∧sq q i≤12) (hA:A.Is (fun s=>sq q s)) (hz:∀ i,15≤i→A.f i=0) (hw:A.wk=kingAt p 0) (hb:A.bk=kingAt p 1) (ho:t8 (sq p m.fr)=p.turn) (hx:sq p m.fr≠0)
  (h1:Q0 q p.turn (if m.fr=kingAt p p.turn then m.to else kingAt p p.turn)) (h2:Q0 q (1-p.turn) (kingAt p (1-p.turn))):A.sums.kings m.fr m.to=mbOf q:=by
 obtain ⟨k1,k2,k3⟩:=b6t (A:=A.sums) hI hw hb ho hx h1 h2;exact a5z (fun i=>by rw [k3];exact b36 hq hA hz i) k1 k2
theorem a7y {p:A3} (hI:B7 p) {m:Mv} (h:H8 p m) {tags:Nat} (h3:tags.testBit 3=decide (capTag p m=8)) (h0:tags.testBit 0=false) (h1:tags.testBit 1=false):(mbOf p).move m tags=mbOf (made p m):=by
 have ht:=hI.turn;have f0:=h.f0;have f1:=h.f1;have t0:=h.t0;have t1:=h.t1;have hsq:=fun j=>R8 hI h (j:=j);have hcap:=a3r hI h;have hko:=a1r hI h;have hkt:=a3X hI h;have hpc:=a2r hI h;have hne:=h.ne;have hpr:=h.promo;have hpass:=a0u hI h;have htk:=a17 hI h;have hown:=a2R hI h.there h.own;have hcol:=b37 hI h.there h.own;have hth:=h.there;have hside:=h.own;have hnew:a1p p m=if m.promo≠0 then m.promo+6*p.turn else sq p m.fr:=rfl
 obtain ⟨fr,to,pr⟩:=m;simp only at f0 f1 t0 t1 hne hpr hown hcol hth hside hnew ⊢;obtain ⟨f,rfl⟩:=Int.eq_ofNat_of_zero_le f0;obtain ⟨t,rfl⟩:=Int.eq_ofNat_of_zero_le t0;have hf:f<64:=by omega
 have htt:t<64:=by omega
 have hft:f≠t:=fun e=>hne (by rw [e])
 unfold MB.move;simp only [Int.toNat_natCast,T8 hI.pc hf,hcol,h0,h1];have e4:∀ B:MB,B.m4 (p.turn+1) false false=B:=fun B=>by unfold MB.m4;simp
 rw [e4];have i1:=b97 (a0d p) hf htt hft;have i2:(if pr=0 then (mbOf p).m1 f t 12 else ((mbOf p).m1 f t 12).m2 (sq p f) (pr+6*(p.turn+1-1)) t).Is (fun s=>if s=t then a1p p ⟨f,t,pr⟩ else if s=f then 0 else sq p s):=by
  by_cases hp:pr=0
  ·rw [if_pos hp];have:a1p p ⟨(f:Int),t,pr⟩=sq p f:=by rw [hnew,if_neg (by simpa using hp)]
   rw [this];exact i1
  ·rw [if_neg hp];have hk:kindOf (sq p f)=6:=by rcases hpr with ⟨e,_⟩ | ⟨_,_,e,_⟩;exact absurd e hp;exact e
   have hb:2≤pr∧pr≤5:=by rcases hpr with ⟨e,_⟩ | ⟨e,e',_,_⟩;exact absurd e hp;exact ⟨e,e'⟩
   have hx:sq p f=6+6*p.turn:=by rw [hown.2.2,hk]
   have hn:a1p p ⟨(f:Int),t,pr⟩=pr+6*(p.turn+1-1):=by rw [hnew,if_pos hp];omega
   rw [hn];have:=c1R i1 (x:=sq p f) (y:=pr+6*(p.turn+1-1)) htt zo zo zo zo (by simp) zo
   intro i hi;rw [this i hi];refine a1Z fun s _=>?_;by_cases e:s=t
   ·simp [e]
   ·simp [e]
 have z2:∀ i,15≤i→(if pr=0 then (mbOf p).m1 f t 12 else ((mbOf p).m1 f t 12).m2 (sq p f) (pr+6*(p.turn+1-1)) t).f i=0:=fun i hi=>by
  split
  ·rw [b2l _ _ _ zo,a7v p hi]
  ·rename_i hp;have hb:2≤pr∧pr≤5:=by rcases hpr with ⟨e,_⟩ | ⟨e,e',_,_⟩;exact absurd e hp;exact ⟨e,e'⟩
   rw [c0p _ _ zo zo zo zo zo,b2l _ _ _ zo,a7v p hi]
 have k2:(if pr=0 then (mbOf p).m1 f t 12 else ((mbOf p).m1 f t 12).m2 (sq p f) (pr+6*(p.turn+1-1)) t).wk=kingAt p 0∧(if pr=0 then (mbOf p).m1 f t 12 else ((mbOf p).m1 f t 12).m2 (sq p f) (pr+6*(p.turn+1-1)) t).bk=kingAt p 1:=by
  split<;>exact ⟨rfl,rfl⟩
 generalize (if pr=0 then (mbOf p).m1 f t 12 else ((mbOf p).m1 f t 12).m2 (sq p f) (pr+6*(p.turn+1-1)) t)=B2 at *
 rw [h3];by_cases hc8:capTag p ⟨f,t,pr⟩=8
 ·rw [if_pos (by simpa using hc8)]
  rw [hc8] at hcap;have hz:sq p t=0:=by
   by_cases e:sq p t=0
   ·exact e
   ·rw [if_pos e] at hcap;exact absurd hcap zd
  rw [if_neg (by simpa using hz)] at hcap
  have htk':takes p ⟨f,t,pr⟩=true:=by
   by_cases e:takes p ⟨f,t,pr⟩=true
   ·exact e
   ·rw [if_neg e] at hcap;exact absurd hcap zd
  obtain ⟨p1,p2,p3,p4,p5,p6⟩:=hpass hz htk';have hta:D8 p ⟨f,t,pr⟩=H2 (l9 t) (g8 f):=by
   unfold D8;simp only;rw [if_neg (by simpa using hz),if_pos htk']
  simp only at p2 p3 p4 p5 p6;obtain ⟨q,hq⟩:=Int.eq_ofNat_of_zero_le p2;have hq64:H2 (l9 t) (g8 f)≤63:=(at_range _ _).2;have hqq:(q:Int)=t-8*(3-2*(p.turn+1)):=by rw [← hq,p6];unfold up;omega
  have hqn:q≠t∧q≠f:=by
   constructor
   ·intro e;omega
   ·intro e;rw [hq,e] at p3;rw [p3] at hown;omega
  have i3:=c1S i2 (c:=p.turn+1) zo (to:=t) (q:=q) htt zo hqq (by
   simp only [if_neg hqn.1,if_neg hqn.2];rw [← hq,p3];rcases ht with e | e<;>rw [e]<;>rfl)
  refine a7x (m:=⟨f,t,pr⟩) hI hpc (fun i hi=>?_) (fun i hi=>by rw [c0q _ _ _ zo];exact z2 i hi) (by rw [(a4H _ _ _).1];exact k2.1) (by rw [(a4H _ _ _).2];exact k2.2) hside hth hko hkt
  rw [i3 i hi];refine a1Z fun s _=>?_;have:=hsq s zo;simp only [hta,hq,htk',true_and] at this;rw [this];by_cases e1:s=q
  ·subst e1;rw [if_pos rfl,if_neg zo,if_neg zo,if_pos rfl]
  ·rw [if_neg e1];by_cases e2:s=t
   ·rw [if_pos e2,if_pos (by rw [e2])]
   ·by_cases e3:s=f
    ·rw [if_neg e2,if_pos e3,if_neg zo,if_pos (by rw [e3])]
    ·rw [if_neg e2,if_neg e3,if_neg zo,if_neg zo,if_neg zo]
 ·rw [if_neg (by simpa using hc8)]
  refine a7x (m:=⟨f,t,pr⟩) hI hpc (fun i hi=>?_) z2 k2.1 k2.2 hside hth hko hkt;rw [i2 i hi];refine a1Z fun s _=>?_;have:=hsq s zo;simp only at this;rw [this];have hno:¬ (takes p ⟨f,t,pr⟩=true∧(s:Int)=D8 p ⟨f,t,pr⟩)∨(s:Int)=t:=by
   by_cases e:takes p ⟨f,t,pr⟩=true
   ·by_cases ez:sq p t=0
    ·rw [if_neg (by simpa using ez),if_pos e] at hcap
     exact absurd (by exact_mod_cast hcap) hc8
    ·have:D8 p ⟨f,t,pr⟩=t:=by unfold D8;simp only;rw [if_pos ez]
     rw [this];by_cases e2:(s:Int)=t
     ·exact .inr e2
     ·exact .inl fun h=>e2 h.2
   ·exact .inl fun h=>e h.1
  by_cases e2:s=t
  ·rw [if_pos e2,if_pos (by rw [e2])]
  ·have hno':=hno.resolve_right zo;by_cases e3:s=f
   ·rw [if_neg e2,if_pos e3,if_neg zo,if_pos (by rw [e3])]
   ·rw [if_neg e2,if_neg e3,if_neg zo,if_neg zo,if_neg hno']
theorem a5X {p:A3} (hI:B7 p) {m:Mv} {K w R:Int} (h:a08 p m K w R) {tags:Nat} (h3:tags.testBit 3=false) (h0:tags.testBit 0=decide (w=1)) (h1:tags.testBit 1=decide (w=-1)):(mbOf p).move m tags=mbOf (made p m):=by
 have ht:=hI.turn;have hsq:=fun j=>I6 hI h (j:=j);obtain ⟨hko,hkf⟩:=X8 hI h;have hkt:=a2p hI h;have hpc:=a0V hI h;have hko':Q0 (made p m) p.turn (if m.fr=kingAt p p.turn then m.to else kingAt p p.turn):=by rw [if_pos hkf];exact hko
 have hK:=h.k;have hking:=h.king;have hrook:=h.rook;have hmid:=h.mid;have hmv:=h.mv;have hth:sq p m.fr≠0:=by rw [hmv];simp only [hking];omega
 have hside:t8 (sq p m.fr)=p.turn:=by rw [hmv];simp only [hking];exact O1 zd zd ht
 have hcol:colM (sq p K)=p.turn+1:=b37 hI (by rw [hking];omega) (by rw [hking];exact O1 zd zd ht)
 have key:∀ (k t rr ff i:Nat),k<64→t<64→rr<64→ff<64→i<12→(k:Int)=K→(t:Int)=K+2*w→(rr:Int)=R→(ff:Int)=K+w→(i:Int)+1=3+6*p.turn→k≠t→rr≠k→rr≠t→ff≠k→ff≠t→rr≠ff →
   (∀ B:MB,B.m4 (p.turn+1) (decide (w=1)) (decide (w=-1))=B.set i ((B.f i &&& Bb.not (D0 rr)) ||| D0 ff))→(mbOf p).move m tags=mbOf (made p m):=by
  intro k t rr ff i hk64 ht64 hr64 hf64 hi12 ek et er ef ei n1 n2 n3 n4 n5 n6 e4;have efr:m.fr.toNat=k:=by rw [hmv];simp only;omega
  have eto:m.to.toNat=t:=by rw [hmv];simp only;omega
  have epr:m.promo=0:=by rw [hmv]
  have i1:=b97 (a0d p) hk64 ht64 n1;unfold MB.move;simp only [efr,eto,epr,if_true,T8 hI.pc hk64,ek,hcol,h3,h0,h1,e4,Bool.false_eq_true,if_false];refine a7x (p:=p) hI hpc (fun j hj=>?_) (fun j hj=>?_) rfl rfl hside hth hko' hkt
  ·have:=b8o i1 (i:=i) (R:=rr) (F:=ff) hi12 hr64 hf64 (by simp only [if_neg n3,if_neg n2];rw [er,hrook,ei]) (by simp only [if_neg n5,if_neg n4];rw [ef,hmid]) n6
   rw [this j hj];refine a1Z fun s _=>?_;have hs:=hsq s zo;rw [hs];by_cases e1:s=ff
   ·rw [if_pos e1,if_pos (show (s:Int)=K+w by omega),ei]
   ·rw [if_neg e1,if_neg (show ¬ (s:Int)=K+w by omega)]
    by_cases e2:s=rr
    ·rw [if_pos e2,if_pos (show (s:Int)=R by omega)]
    ·rw [if_neg e2,if_neg (show ¬ (s:Int)=R by omega)]
     by_cases e3:s=t
     ·rw [if_pos e3,if_pos (show (s:Int)=K+2*w by omega),ek,hking]
     ·rw [if_neg e3,if_neg (show ¬ (s:Int)=K+2*w by omega)]
      by_cases e5:s=k
      ·rw [if_pos e5,if_pos (show (s:Int)=K by omega)]
      ·rw [if_neg e5,if_neg (show ¬ (s:Int)=K by omega)]
  ·rw [a29,if_neg zo,b2l _ _ _ zo,a7v p hj]
 rcases h.way with ⟨hw,hR⟩ | ⟨hw,hR,_⟩<;>rcases ht with e | e
 ·exact key 4 6 7 5 2 zd zd zd zd zd zo zo zo zo zo zd zd zd zd zd zd (fun B=>by rw [e,hw];rfl)
 ·exact key 60 62 63 61 8 zd zd zd zd zd zo zo zo zo zo zd zd zd zd zd zd (fun B=>by rw [e,hw];rfl)
 ·exact key 4 2 0 3 2 zd zd zd zd zd zo zo zo zo zo zd zd zd zd zd zd (fun B=>by rw [e,hw];rfl)
 ·exact key 60 58 56 59 8 zd zd zd zd zd zo zo zo zo zo zd zd zd zd zd zd (fun B=>by rw [e,hw];rfl)
end
section
open Go Go.RowKit
open E
def Nm (p:A3):Prop:=p.half<2305843009213693952∧p.full<2305843009213693952
theorem Nm.nums {p:A3} (h:Nm p):a1z p:=⟨by have:=h.1;omega,by have:=h.2;omega⟩
theorem a3v {p:A3} (hI:Ch.B7 p) (m:Mv):0≤(Ch.made p m).half∧(Ch.made p m).half≤p.half+1:=by
 show 0≤(if Ch.takes p m||decide (Ch.kindOf (Ch.sq p m.fr)=6) then 0 else p.half+1)∧_≤p.half+1
 have:=hI.h0;constructor
 ·split<;>omega
 ·show (if Ch.takes p m||decide (Ch.kindOf (Ch.sq p m.fr)=6) then 0 else p.half+1)≤_
  split<;>omega
theorem a3w {p:A3} (hI:Ch.B7 p) (m:Mv):p.full≤(Ch.made p m).full∧(Ch.made p m).full≤p.full+1:=by
 have e:(Ch.made p m).full=p.full+p.turn:=rfl;have:=hI.turn;omega
theorem Nm.made {p:A3} (h:Nm p) (hI:Ch.B7 p) (m:Mv):a1z (Ch.made p m):=by
 have:=a3v hI m;have:=a3w hI m;have:=h.1;have:=h.2;exact ⟨zo,zo⟩
theorem a0x {p:A3} (hI:Ch.B7 p) {m:Mv} (hm:m∈Ch.y8 p):b0h m:=a5r hI (List.mem_filter.1 hm).1
theorem a3x (p:A3) (hI:Ch.B7 p) (hN:Nm p) (m:Mv) (hm:m∈Ch.y8 p) (w:World):Calls G.P 65 #[C4 p,G5 m] w (K4 (s8 (Ch.a04 p m)) w):=by
 have hmo:=a0x hI hm;have hI2:=Ch.B7.made hI hm;have hN2:=hN.made hI m;refine zN Tryz.func65 ?_;refine zG ?_;generalize hW:(w.alloc (.cells (o9 p) 24)).alloc (.cells (K2 m) 36)=W0;have hP:∀ w',Cl W0 w'→w'.heap[w.heap.size]?=some (.cells (o9 p) 24 (0,0)):=fun w' h=>hP2 (hW▸h);have hM:∀ w',Cl W0 w'→w'.heap[(w.alloc (.cells (o9 p) 24)).heap.size]?=some (.cells (K2 m) 36 (0,0)):=fun w' h=>hM2 (hW▸h);have hE:∀ w',Cl W0 w'→Cl w w':=fun w' h=>hE2 (hW▸h);have z:=Cl.refl W0;obtain ⟨zv,hz,hz69⟩:=b1P;refine zR ?_;refine d6 _ (y7 (hP _ z)) (zR ?_);refine d6 _ (P9 (hM _ z)) (zR ?_);refine m9 (a5l p m hI.pc hmo hI.turn hI.c0 hI.c1 hI.h0 hN.nums.1 (by have:=hI.f1;omega) hN.nums.2 _) fun w1 c1=>zR ?_
 refine t7 zv hz (zR ?_);refine J6 (d8 _ _) (X0 (Ch.made p m)) rfl a13 (B6 _) (one_pos _) (by rw [hz69];omega) (fun w3 u3=>?_)
 have hQ:w3.heap[w1.heap.size]?=some (.cells (o9 (Ch.made p m)) 24 (0,0)):=by
  rw [u3.at_,C5 _ _ (by rw [B6,hz69])];rfl
 have c3:Cl W0 w3:=u3.cl (c1.trans (Cl.alloc _ _)) c1.size;clear u3;have hS:Ch.a04 p m=if !Ch.inCheck (Ch.made p m) then [] else if (Ch.y8 (Ch.made p m)).isEmpty then [35] else [43]:=rfl
 generalize Ch.made p m=q at *;have ht:=hI2.turn;refine zR ?_;refine d6 _ (y7 hQ) (zR ?_);refine m9 (a3n q hI2.pc _ zo zo) fun w4 c4=>?_;generalize hb:Ch.inCheck q=b at *;refine zR ?_;cases b
 ·refine zR ?_;exact ⟨D9 (by rw [hS];rfl),hE _ (c3.trans c4)⟩
 ·refine zR ?_;refine d6 _ (y7 (c4.blk hQ)) (zR ?_);refine o8 (a2s q hI2 hN2 _) ?_;rintro r w5 ⟨v,l,rfl,hlp,hl,c5⟩;refine ⟨_,rfl,?_⟩;obtain ⟨al,cl,rfl,hal⟩:=hl.form;have hlen:=hlp.length_eq;refine zR ?_;apply E.b7<;>intro h
  ·refine zR ?_;exact ⟨D9 (by rw [hS,a0o,decide_eq_true zo];rfl),hE _ (c3.trans (c4.trans c5))⟩
  ·refine zR ?_;exact ⟨D9 (by rw [hS,a0o,decide_eq_false zo];rfl),hE _ (c3.trans (c4.trans c5))⟩
theorem a3y (p:A3) (m:Mv):(Ch.a04 p m).length≤1:=by
 unfold Ch.a04;repeat' split
 all_goals simp
theorem a3z (p:A3) (m:Mv):Ch.a04 p m=[]↔Ch.inCheck (Ch.made p m)=false:=by
 unfold Ch.a04;cases Ch.inCheck (Ch.made p m)
 ·simp
 ·simp;split<;>simp
def a2a (w:World) (v:Value) (ms:List Mv):Prop:=∃ a c,v = .slice a ms.length c∧(0<ms.length→∃ g o cs t fz,a=some ⟨g,o,none⟩∧w.heap[g]?=some (.cells cs t fz)∧∀ i (h:i<ms.length),o+i*3+3≤cs.size∧cs.extract (o+i*3) (o+i*3+3)=K2 ms[i])
section mvIn
variable {w w':World} {v:Value} {ms:List Mv}
theorem a2a.form (h:a2a w v ms):∃ a c,v = .slice a ms.length c∧(0<ms.length→∃ g o,a=some ⟨g,o,none⟩):=by
 obtain ⟨a,c,e,h⟩:=h;exact ⟨a,c,e,fun h0=>by obtain ⟨g,o,_,_,_,e,_⟩:=h h0;exact ⟨g,o,e⟩⟩
theorem a2a.step (h:a2a w v ms) (hc:Cl w w'):a2a w' v ms:=by
 obtain ⟨a,c,e,h⟩:=h;exact ⟨a,c,e,fun h0=>by obtain ⟨g,o,cs,t,fz,e,hb,h2⟩:=h h0;exact ⟨g,o,cs,t,fz,e,hc.blk hb,h2⟩⟩
theorem a2a.ld {g o n c:Nat} (h:a2a w (.slice (some ⟨g,o,none⟩) n c) ms) (i:Nat) (hi:i<ms.length):l8 G.P w 36 ⟨g,E.W6 o ((i:Int)).toNat 3,none⟩ (G5 ms[i]):=by
 obtain ⟨a,c',e,h⟩:=h;obtain ⟨g',o',cs,t,fz,e2,hb,h2⟩:=h zo;injection e with e1 _ _;rw [e2] at e1;injection e1 with e1;injection e1 with e1 e3 _;subst e1 e3;obtain ⟨h3,h4⟩:=h2 i hi;have:=ldA (t:=36) (o:=o+i*3) (z:=3) hb rfl h3;rw [h4] at this;rw [E.z6,Int.toNat_natCast];exact this
end mvIn
theorem b08 {p:A3} (hI:Ch.B7 p) {m:Mv} (hm:m∈Ch.y8 p) (h:m.promo≠0) {k:Int} (k2:2≤k) (k5:k≤5):(⟨m.fr,m.to,k⟩:Mv)∈Ch.y8 p:=by
 obtain ⟨fr,to,pr⟩:=m;simp only at h ⊢;rcases (Ch.Z7 hI _).1 (List.mem_filter.1 hm).1 with hp | ⟨r,hr⟩
 ·have hp':Ch.H8 p ⟨fr,to,k⟩:=⟨hp.f0,hp.f1,hp.t0,hp.t1,hp.ne,hp.there,hp.own,hp.goal,hp.other,.inr ⟨k2,k5,by
   rcases hp.promo with ⟨e,_⟩ | ⟨_,_,e⟩
   ·exact absurd e h
   ·exact e⟩⟩
  rw [Ch.a03 hI hp'];rw [← Ch.X9 hI hp hp' h zo];exact (Ch.a03 hI hp).1 hm
 ·exfalso;have:=congrArg Mv.promo hr.is;exact h this
theorem b2m {p:A3} (hI:Ch.B7 p) {m:Mv} (hm:m∈Ch.y8 p):m.promo=0∨2≤m.promo∧m.promo≤5:=by
 rcases (Ch.Z7 hI _).1 (List.mem_filter.1 hm).1 with hp | ⟨r,hr⟩
 ·rcases hp.promo with ⟨e,_⟩ | ⟨e,e',_⟩
  ·exact .inl e
  ·exact .inr ⟨e,e'⟩
 ·exact .inl (congrArg Mv.promo hr.is)
def b09 (p:A3) (m:Mv) (k:Int):Bool:=Ch.inCheck (Ch.made p ⟨m.fr,m.to,k⟩) && !Ch.inCheck (Ch.made p m)
theorem b0A {p:A3} {m:Mv} (h:m.promo≤5):Ch.a0v p m=true↔∀ k:Int,2≤k→k<m.promo→b09 p m k=false:=by
 unfold Ch.a0v b09;rw [List.all_eq_true];constructor
 ·intro hk k k2 k5;have:=hk k (by simp;omega)
  simp only [decide_eq_true k5,Bool.true_and,Bool.not_eq_true'] at this;exact this
 ·intro hk k hk';simp only [List.mem_cons,List.not_mem_nil,or_false] at hk';by_cases hl:k<m.promo
  ·have:=hk k zo hl;simp only [decide_eq_true hl,Bool.true_and,this,Bool.not_false]
  ·simp [hl]
theorem b43 (p:A3) (hI:Ch.B7 p) (hN:Nm p) (m:Mv) (hm:m∈Ch.y8 p) (w:World):Calls G.P 87 #[C4 p,G5 m] w (K4 (.bool (Ch.a0v p m)) w):=by
 have hkd:=b2m hI hm;have hiff:=b0A (p:=p) (m:=m) zo;refine zN Tryz.func87 ?_;refine zG ?_;generalize hW:(w.alloc (.cells (o9 p) 24)).alloc (.cells (K2 m) 36)=W0;have hP:∀ w',Cl W0 w'→w'.heap[w.heap.size]?=some (.cells (o9 p) 24 (0,0)):=fun w' h=>hP2 (hW▸h);have hM:∀ w',Cl W0 w'→w'.heap[(w.alloc (.cells (o9 p) 24)).heap.size]?=some (.cells (K2 m) 36 (0,0)):=fun w' h=>hM2 (hW▸h);have hE:∀ w',Cl W0 w'→Cl w w':=fun w' h=>hE2 (hW▸h);have z:=Cl.refl W0;refine zR ?_;refine A9 (σ:=Nat) [4,5] 6 (fun a=>[(5,.int .i64 ((a:Int)+2))]) (fun a w'=>(a:Int)≤4∧(∀ k:Int,2≤k→k<(a:Int)+2→k<m.promo→b09 p m k=false)∧Cl W0 w') (fun a=>10-a) zk 0
  ⟨zo,by intro k;omega,z⟩ ⟨rfl,trivial⟩ ?_
 rintro a j w1 ⟨ha,hno,hcl⟩;refine zR ?_;refine d6 _ (Z5 (hM _ hcl)) (zR ?_);apply E.b7<;>intro h
 ·have na:IntKind.i64.wrap ((a:Int)+2+1)=((a+1:Nat):Int)+2:=by rw [g7 zo zo];omega
  have hm':=b08 hI hm zo (k:=(a:Int)+2) zo zo;have hnx:b09 p m ((a:Int)+2)=false→∀ k:Int,2≤k→k<((a+1:Nat):Int)+2→k<m.promo→b09 p m k=false:=fun h0 k k2 k3 k4=>by
   by_cases e:k=(a:Int)+2
   ·rw [e];exact h0
   ·exact hno k k2 zo k4
  refine zR ?_;refine d6 _ (y7 (hP _ hcl)) (zR ?_);refine d6 _ (L6 (hM _ hcl)) (zR ?_);refine d6 _ (a0g (hM _ hcl)) (zR ?_);refine s9 (K2 ⟨m.fr,m.to,(a:Int)+2⟩) zk (zR ?_);refine m9 (a3x p hI hN ⟨m.fr,m.to,(a:Int)+2⟩ hm' _) fun w2 c2=>zR ?_;apply E.r9<;>intro h
  ·have b1:Ch.inCheck (Ch.made p ⟨m.fr,m.to,(a:Int)+2⟩)=true:=by
    cases hb:Ch.inCheck (Ch.made p ⟨m.fr,m.to,(a:Int)+2⟩)
    ·exfalso;apply h;rw [(a3z _ _).2 hb];rfl
    ·rfl
   clear h;refine zR ?_;refine d6 _ (y7 (hP _ (hcl.trans c2))) (zR ?_);refine d6 _ (P9 (hM _ (hcl.trans c2))) (zR ?_);refine m9 (a3x p hI hN m hm _) fun w3 c3=>zR ?_;apply E.b7<;>intro h
   ·have b2:Ch.inCheck (Ch.made p m)=false:=(a3z _ _).1 (a0p.1 (by rw [h];rfl))
    refine zR ?_;refine ⟨m8 ?_,hE _ (hcl.trans (c2.trans c3))⟩;symm;cases ht:Ch.a0v p m
    ·rfl
    ·have:=hiff.1 ht ((a:Int)+2) zo zo;unfold b09 at this;rw [b1,b2] at this;cases this
   ·have b2:Ch.inCheck (Ch.made p m)=true:=by
     cases hb:Ch.inCheck (Ch.made p m)
     ·exfalso;apply h;rw [(a3z _ _).2 hb];rfl
     ·rfl
    refine zR ?_;exact ⟨a+1,⟨m7 na,trivial⟩,⟨zo,hnx (by unfold b09;rw [b2];simp),hcl.trans (c2.trans c3)⟩,zo⟩
  ·have b1:Ch.inCheck (Ch.made p ⟨m.fr,m.to,(a:Int)+2⟩)=false:=(a3z _ _).1 (a0p.1 (by rw [h];rfl))
   refine zR ?_;exact ⟨a+1,⟨m7 na,trivial⟩,⟨zo,hnx (by unfold b09;rw [b1];simp),hcl.trans c2⟩,zo⟩
 ·refine zR ?_;exact ⟨m8 (hiff.2 fun k k2 k3=>hno k k2 zo k3).symm,hE _ hcl⟩
def Ng (p:A3) (k:Nat):Prop:=p.half≤1152921504606846976+(k:Int)∧p.full≤1152921504606846976+(k:Int)
theorem Ng.nm {p:A3} {k:Nat} (h:Ng p k) (hk:k≤1000000):Nm p:=⟨by have:=h.1;omega,by have:=h.2;omega⟩
theorem Ng.made {p:A3} {k:Nat} (h:Ng p k) (hI:Ch.B7 p) (m:Mv):Ng (Ch.made p m) (k+1):=by
 have:=a3v hI m;have:=a3w hI m;have:=h.1;have:=h.2;exact ⟨zo,zo⟩
theorem b8p (p:A3) (hI:Ch.B7 p) (hN:Ng p 0) (ms:List Mv) (hms:∀ m∈ms,MvR m) (hn:ms.length≤100000) {v:Value} (w:World) (hrow:a2a w v ms) :
  Calls G.P 37 #[C4 p,v] w (K4 (.bool (Ch.quiet p ms)) w):=by
 obtain ⟨al,cl,rfl,hal⟩:=hrow.form;refine zN Tryz.func37 ?_;refine zG ?_;generalize hW:w.alloc (.cells (o9 p) 24)=W0;have hP0:W0.heap[w.heap.size]?=some (.cells (o9 p) 24 (0,0)):=by rw [← hW];exact d8 _ _
 have hE:Cl w W0:=by rw [← hW];exact Cl.alloc _ _
 clear hW;refine zR ?_;refine A9 (σ:=Nat×A3) [4,5] 6 (fun a=>[(5,.int .i64 a.1)]) (fun a w'=>a.1≤ms.length∧Ch.quiet p ms=Ch.quiet a.2 (ms.drop a.1)∧Ch.B7 a.2∧Ng a.2 a.1∧w'.heap[w.heap.size]?=some (.cells (o9 a.2) 24 (0,0))∧Cl w w') (fun a=>ms.length-a.1) zk (0,p)
  ⟨by simp,rfl,hI,hN,hP0,hE⟩ ⟨rfl,trivial⟩ ?_
 rintro ⟨i,q⟩ j w1 ⟨hi,hqu,hIq,hNq,hP,hcl⟩;simp only at hi hqu hIq hNq hP ⊢;have hnm:=hNq.nm zo;have hpc:=hIq.pc;refine zR ?_;apply E.b7<;>intro h
 ·have hil:i<ms.length:=by omega
  clear h;obtain ⟨g,o,rfl⟩:=hal zo;have ni:IntKind.i64.wrap ((i:Int)+1)=((i+1:Nat):Int):=by rw [g7 zo zo];push_cast;omega
  rw [List.drop_eq_getElem_cons hil] at hqu;have hmr:=hms _ (List.getElem_mem hil);have hld:∀ w',Cl w w'→l8 G.P w' 36 ⟨g,E.W6 o ((i:Int)).toNat 3,none⟩ (G5 ms[i]):=fun w' h'=>(hrow.step h').ld i hil;have hqq:Ch.quiet q (ms[i]::ms.drop (i+1))=(decide ((Ch.y8 q).length≤218)&&(!Ch.isLegal q ms[i]||(Ch.a0v q ms[i]&&Ch.quiet (Ch.made q ms[i]) (ms.drop (i+1))))):=rfl
  rw [hqq] at hqu;clear hqq;generalize ms[i]=m at *;refine zR ?_;refine d6 _ (y7 hP) (zR ?_);refine o8 (a2s q hIq hnm.nums _) ?_;rintro r w2 ⟨v2,l2,rfl,hlp,hl2,c2⟩;refine ⟨_,rfl,?_⟩;obtain ⟨al2,cl2,rfl,hal2⟩:=hl2.form;have hlen:=hlp.length_eq;clear hal2 hl2;refine zR ?_;apply E.b7<;>intro h
  ·refine zR ?_;exact ⟨m8 (by rw [hqu,decide_eq_false zo];rfl),hcl.trans c2⟩
  ·rw [decide_eq_true (show (Ch.y8 q).length≤218 by omega),Bool.true_and] at hqu
   clear h;refine zR ?_;refine zK 7 ?_;refine zR ?_;refine g9 _ (fun w hw=>y7 ((c2.trans hw).blk hP)) (zR ?_);refine zC ?_;refine zR ?_;refine g9 (G5 m) (fun w hw=>hld w (hcl.trans (c2.trans hw))) (zR ?_);refine C7 (.bool (Ch.isLegal q m)) (fun _ _ h=>h.trans) (fun w _=>c1y q hIq hnm.nums m hmr w) (zR ?_);intro w3 c3;have c23:=c2.trans c3;generalize hL:Ch.isLegal q m=lb at *;refine zR ?_;cases lb
   ·refine zR ?_;exact ⟨m8 (by rw [hqu];rfl),hcl.trans c23⟩
   ·have hmem:m∈Ch.y8 q:=of_decide_eq_true hL;have hmo:=a0x hIq hmem;refine zR ?_;refine zK 7 ?_;refine zR ?_;refine g9 _ (fun w hw=>y7 ((c23.trans hw).blk hP)) (zR ?_);refine zC ?_;refine zR ?_;refine g9 (G5 m) (fun w hw=>hld w (hcl.trans (c23.trans hw))) (zR ?_);refine C7 (.bool (Ch.a0v q m)) (fun _ _ h=>h.trans) (fun w _=>b43 q hIq hnm m hmem w) (zR ?_);intro w4 c4;have c24:=c23.trans c4;generalize hT:Ch.a0v q m=tb at *;refine zR ?_;cases tb
    ·refine zR ?_;exact ⟨m8 (by rw [hqu];rfl),hcl.trans c24⟩
    ·refine zR ?_;refine zK 6 ?_;refine zR ?_;refine g9 _ (fun w hw=>y7 ((c24.trans hw).blk hP)) (zR ?_);refine zC ?_;refine zR ?_;refine g9 (G5 m) (fun w hw=>hld w (hcl.trans (c24.trans hw))) (zR ?_);refine C7 (C4 (Ch.made q m)) (fun _ _ h=>h.trans) (fun w _=>a5l q m hIq.pc hmo hIq.turn hIq.c0 hIq.c1 hIq.h0 hnm.nums.1 (by have:=hIq.f1;omega) hnm.nums.2 w) (zR ?_)
     intro w5 c5;have hP5:=(c24.trans c5).blk hP;refine zR ?_;refine J6 hP5 (X0 (Ch.made q m)) rfl a13 (B6 _) (one_pos _) (by rw [r7];omega) (fun w6 u6=>?_)
     have hQ:w6.heap[w.heap.size]?=some (.cells (o9 (Ch.made q m)) 24 (0,0)):=by
      rw [u6.at_,C5 _ _ (by rw [B6,r7])];rfl
     have c6:Cl w w6:=u6.cl (hcl.trans (c24.trans c5)) (Nat.le_refl _);clear u6;refine zR ?_;exact ⟨(i+1,Ch.made q m),⟨m7 ni,trivial⟩,⟨by simp;omega,by rw [hqu];rfl,Ch.B7.made hIq hmem,hNq.made hIq m,hQ,c6⟩,by simp;omega⟩
 ·have hil:i=ms.length:=by omega
  subst hil;rw [List.drop_length] at hqu;refine zR ?_;refine d6 _ (y7 hP) (zR ?_);refine o8 (a2s q hIq hnm.nums _) ?_;rintro r w2 ⟨v2,l2,rfl,hlp,hl2,c2⟩;refine ⟨_,rfl,?_⟩;obtain ⟨al2,cl2,rfl,hal2⟩:=hl2.form;have hlen:=hlp.length_eq;refine zR ?_;refine ⟨m8 ?_,hcl.trans c2⟩;rw [hqu];show _=decide ((Ch.y8 q).length≤218);exact decide_eq_decide.2 zo
def B9 (p:A3) (d:Int):Bool:=decide (0≤Ch.H2 (Ch.l9 p.ep+d) (Ch.g8 p.ep-Ch.up p.turn))&&decide (Ch.sq p (Ch.H2 (Ch.l9 p.ep+d) (Ch.g8 p.ep-Ch.up p.turn))=6+6*p.turn)
theorem a50 (p:A3):Ch.a5t p=(B9 p (-1)||B9 p 1):=by
 unfold Ch.a5t B9;simp only [List.any_cons,List.any_nil,Bool.or_false]
theorem a87 (p:A3) (m:Mv):(Ch.apart p m).length≤2:=by
 unfold Ch.apart;repeat' split
 ·simp
 ·simp [Ch.A7]
 ·simp [Ch.F7]
 ·exact a0a _
theorem a30 (p:A3) (m:Mv):(Ch.S9 p m).length≤1:=by
 unfold Ch.S9;split<;>simp
theorem a2w (m:Mv):(Ch.Z9 m).length≤2:=by
 unfold Ch.Z9;split
 ·simp
 ·have:=L7 m.promo;simp;omega
theorem b0B (p:A3) (m:Mv):(Ch.body p m).length≤10:=by
 have h1:=a87 p m;have h2:=a30 p m;have h3:=a2w m;have h4:=a0a m.to;have h5:=L7 (Ch.kindOf (Ch.sq p m.fr));unfold Ch.body;repeat' split
 all_goals (simp [Ch.A7];try omega)
theorem b0C (p:A3) (m:Mv):(Ch.sanT p m).length≤11:=by
 have h1:=b0B p m;have h2:=a3y p m;unfold Ch.sanT;rw [List.length_append];omega
theorem b3A (t:Tx):(decide (tx t=(⟨#[42]⟩:ByteArray)))=decide (t=Ch.a5e):=decide_eq_decide.2 (by rw [a0E];exact a0p)
theorem a4J (a b:List Value):∀ (cs:Array Value) (o:Nat),a4M cs o (a++b)=a4M (a4M cs o a) (o+a.length) b:=by
 induction a with
 | nil=>intro cs o;simp [a4M]
 | cons v r ih=>intro cs o;simp only [List.cons_append,a4M,ih,List.length_cons];congr 1;omega
theorem b46:∀ (l:List Value) (cs:Array Value) (off j:Nat),(l.zipIdx j).foldl (fun cs x=>cs.setIfInBounds (off+x.2) x.1) cs=a4M cs (off+j) l:=by
 intro l
 induction l with
 | nil=>intro cs off j;rfl
 | cons v r ih=>intro cs off j;simp only [List.zipIdx_cons,List.foldl_cons,a4M];rw [ih];congr 1
theorem b2p (v:Value) (cs:Array Value) (off:Nat):v.cells.zipIdx.foldl (fun cs (c,j)=>cs.setIfInBounds (off+j) c) cs=a4M cs off v.cells.toList:=by
 rw [← Array.foldl_toList,Array.toList_zipIdx];have:=b46 v.cells.toList cs off 0;simpa using this
theorem c0s (place:Nat→Option (Nat×Nat)):∀ (vs:List Value) (k off:Nat) (cs:Array Value),(∀ j (h:j<vs.length),place (k+j)=some (off+((vs.take j).map (·.cells.size)).sum,vs[j].cells.size))→off+(vs.map (·.cells.size)).sum≤cs.size →
  Instr.fill place cs ((vs.zipIdx k).map fun x=>(x.2,x.1))=some (a4M cs off (vs.flatMap fun v=>v.cells.toList)):=by
 intro vs
 induction vs with
 | nil=>intro k off cs _ _;rfl
 | cons v r ih =>
  intro k off cs hp hs;have h0:=hp 0 (by simp)
  simp only [Nat.add_zero,List.take_zero,List.map_nil,List.sum_nil,List.getElem_cons_zero] at h0;simp only [List.map_cons,List.sum_cons] at hs;simp only [List.zipIdx_cons,List.map_cons,Instr.fill,h0];rw [if_neg (by simp;omega)]
  rw [b2p,ih (k+1) (off+v.cells.size) _ (fun j h=>?_) (by rw [D6];omega)]
  ·rw [List.flatMap_cons,a4J];simp
  ·have:=hp (j+1) (by simpa using h)
   rw [show k+1+j=k+(j+1) by omega,this]
   simp [List.take_succ_cons,Nat.add_assoc]
def a4K:List Nat→Nat→List (Nat×Nat)
 | [],_=>[]
 | n::r,o=>(o,n)::a4K r (o+n)
theorem b0E:∀ (l:List Nat) (o j:Nat) (h:j<l.length),(a4K l o)[j]?=some (o+(l.take j).sum,l[j]):=by
 intro l
 induction l with
 | nil=>intro o j h;simp at h
 | cons n r ih =>
  intro o j h;cases j with
  | zero=>simp [a4K]
  | succ j=>simp only [a4K,List.getElem?_cons_succ,ih (o+n) j (by simpa using h),List.take_succ_cons,List.sum_cons,List.getElem_cons_succ];congr 2;omega
noncomputable def b6w (t:Nat) (sizes:List Nat):Bool :=
 match G.P.info? t,G.P.underlying t with
 | some it,some (.struct fields)=>match it.zero with
  | some z=>Nat.beq z.cells.size sizes.sum&&decide (fields.toList.mapM (fun f=>(G.P.info? f.type).map fun i=>(f.offset,i.size))=some (a4K sizes 0))
  | none=>false
 | _,_=>false
theorem b6x {t:Nat} {sizes:List Nat} (h:b6w t sizes=true) (vs:List Value) (hv:vs.map (·.cells.size)=sizes) :
  G.P.built t ((vs.zipIdx 0).map fun x=>(x.2,x.1))=some (vs.flatMap fun v=>v.cells.toList).toArray:=by
 unfold b6w at h;split at h
 ·rename_i it fields hi hu;split at h
  ·rename_i z hz;simp only [Bool.and_eq_true,decide_eq_true_eq] at h;obtain ⟨h1,h2⟩:=h;have h1:=Nat.eq_of_beq_eq_true h1;unfold Program.built;simp only [hi,hu,hz,h2];rw [c0s _ vs 0 0 _ (fun j hj=>?_) (by rw [hv,h1];omega)]
   ·rw [C5];rw [List.length_flatMap,h1,← hv];congr 1
   ·have:=b0E sizes 0 j (by rw [← hv];simpa using hj)
    simp only [List.getElem?_toArray,Nat.zero_add] at this ⊢;rw [this];subst hv;simp [List.map_take]
  ·cases h
 ·cases h
def stL (s:Ch.a0A):List Value:=[.int .i64 s.mv.fr,.int .i64 s.mv.to,.int .i64 s.mv.promo,.int .i64 s.tags,s8 s.san,s8 s.lan,s8 s.uci,s8 s.fen,s8 s.xfen]++(X0 s.pos++[s8 s.outcome,.int .i64 s.method,.int .i64 s.status])
theorem U8 (s:Ch.a0A):(stL s).length=81:=by simp [stL,T6]
def stV (s:Ch.a0A):Value:=.agg (stL s).toArray
theorem a8d:G2 28 39 81 696:=R0 zk
theorem b3B (s:Ch.a0A):G.P.built 39 (([G5 s.mv,.int .i64 s.tags,s8 s.san,s8 s.lan,s8 s.uci,s8 s.fen,s8 s.xfen,C4 s.pos,s8 s.outcome,.int .i64 s.method,.int .i64 s.status].zipIdx 0).map fun x=>(x.2,x.1))=some (stL s).toArray:=by
 rw [b6x (sizes:=[3,1,1,1,1,1,1,69,1,1,1]) zk]
 ·congr 1
 ·simp [G5,K2,C4,r7,Value.cells,s8]
theorem c1T:(G.P.info? 39).map (·.size)=some 81:=by kernel_rfl
theorem zSt:∃ z,(G.P.info? 39).bind (·.zero)=some z∧z.cells.size=81:=a0H zk
theorem a4g (s:Ch.a0A):∀ v∈stL s,v.oneCell'=true:=by
 intro v hv;simp only [stL,List.mem_append,List.mem_cons,List.not_mem_nil,or_false] at hv;rcases hv with (rfl | rfl | rfl | rfl | rfl | rfl | rfl | rfl | rfl) | h | rfl | rfl | rfl
 ·rfl
 ·rfl
 ·rfl
 ·rfl
 ·rfl
 ·rfl
 ·rfl
 ·rfl
 ·rfl
 ·exact one_pos _ _ h
 ·rfl
 ·rfl
 ·rfl
def Cmp (t:Nat) (x y:Value) (b:Bool):Prop :=
 ∀ w,(binOp .eql t x y).run G.P w = .ok (.bool b) w∧(binOp .neq t x y).run G.P w = .ok (.bool (!b)) w∧∀ op a v,(eqGuard op t a (.const v) x y).run G.P w = .ok () w
section gens
variable {t:Nat} {x y:Operand} {v:Value} {b:Bool} {dst:Option Nat} {yt ty:Nat} {pos:String} {af:Array Edge} {gd:Option (Nat×Bool)} {env:C0}
theorem b8s {w:World} (hc:Cmp t (ev env x) v b):(execOp (ev env) { dst,op:=.binOp .eql t x (.const v) yt,type:=ty,pos,after:=af,guard:=gd }).run G.P w = .ok (.value (.bool b)) w:=by
 show (do pure (Next.value (← (do eqGuard .eql t x (.const v) (ev env x) v;binOp .eql t (ev env x) v))):Sem Next).run G.P w=_
 rw [Sem.run_bind,Sem.run_bind,(hc w).2.2,Result.andThen_ok,(hc w).1];rfl
theorem b8t {w:World} (hc:Cmp t (ev env x) v b):(execOp (ev env) { dst,op:=.binOp .neq t x (.const v) yt,type:=ty,pos,after:=af,guard:=gd }).run G.P w = .ok (.value (.bool (!b))) w:=by
 show (do pure (Next.value (← (do eqGuard .neq t x (.const v) (ev env x) v;binOp .neq t (ev env x) v))):Sem Next).run G.P w=_
 rw [Sem.run_bind,Sem.run_bind,(hc w).2.2,Result.andThen_ok,(hc w).2.1];rfl
theorem W3 {w:World} {K:Value→World→Prop} (b:Bool) (hc:Cmp t (ev env x) v b) (h:K (.bool b) w):L5 G.P { dst,op:=.binOp .eql t x (.const v) yt,type:=ty,pos,after:=af,guard:=gd } env w K:=⟨.inl ⟨_,w,b8s hc,h⟩⟩
theorem I1 {w:World} {K:Value→World→Prop} (b:Bool) (hc:Cmp t (ev env x) v b) (h:K (.bool (!b)) w):L5 G.P { dst,op:=.binOp .neq t x (.const v) yt,type:=ty,pos,after:=af,guard:=gd } env w K:=⟨.inl ⟨_,w,b8t hc,h⟩⟩
end gens
theorem b8u {t:Nat} (h:P1 G.T t=some .pointer):∃ e,G.P.underlying t=some (.pointer e):=by
 have:=G.tab _ _ h;simp only [okD] at this;split at this
 ·rename_i e he;exact ⟨e,he⟩
 ·cases this
theorem b47 {t:Nat} (h:P1 G.T t=some .iface):∃ e,G.P.underlying t=some (.interface e):=by
 have:=G.tab _ _ h;simp only [okD] at this;split at this
 ·rename_i e he;exact ⟨e,he⟩
 ·cases this
theorem a9z {t:Nat} {x y:Value} {b:Bool} (h:∀ d w,(Op.equalIn (d+1) t x y).run G.P w = .ok b w) (h1:∀ w,(binOp .eql t x y).run G.P w=((Op.equal t x y).run G.P w).andThen fun r w=>.ok (.bool r) w) (h2:∀ w,(binOp .neq t x y).run G.P w=((Op.equal t x y).run G.P w).andThen fun r w=>.ok (.bool (!r)) w)
  (h3:∀ op a v w,(eqGuard op t a (.const v) x y).run G.P w = .ok () w):Cmp t x y b:=fun w =>
 ⟨by rw [h1,Op.equal,show Op.maxDepth=9999+1 from rfl,h];rfl,by rw [h2,Op.equal,show Op.maxDepth=9999+1 from rfl,h];rfl,fun op a v=>h3 op a v w⟩
theorem b8v {op:BinOp} {t:Nat} {a:Operand} {v:Value} {p q:Option Addr} (w:World):(eqGuard op t a (.const v) (.pointer p) (.pointer q)).run G.P w = .ok () w:=by unfold eqGuard;cases op<;>rfl
theorem b8w {op:BinOp} {t:Nat} {a:Operand} {v:Value} {p q:Option Addr} {n m c d:Nat} (w:World):(eqGuard op t a (.const v) (.slice p n c) (.slice q m d)).run G.P w = .ok () w:=by unfold eqGuard;cases op<;>rfl
theorem N1 {t:Nat} (ht:P1 G.T t=some .pointer) (p:Option Addr):Cmp t (.pointer p) (.pointer none) p.isNone:=by
 obtain ⟨e,he⟩:=b8u ht;refine a9z (fun d w=>?_) (fun w=>by simp [binOp]) (fun w=>by simp [binOp]) (fun op a v w=>b8v w)
 cases p<;>simp [Op.equalIn,run_underlying he]
theorem a52 {t el z:Nat} (ht:P1 G.T t=some (.slice el z)) (p:Option Addr) (n c:Nat):Cmp t (.slice p n c) (.slice none 0 0) p.isNone:=by
 obtain ⟨he,_⟩:=a3h (G.tab _ _ ht);refine a9z (fun d w=>?_) (fun w=>by simp [binOp]) (fun w=>by simp [binOp]) (fun op a v w=>b8w w)
 cases p<;>simp [Op.equalIn,run_underlying he]
theorem F8 {t:Nat} (ht:P1 G.T t=some .iface):Cmp t .nilIface .nilIface true:=by
 obtain ⟨e,he⟩:=b47 ht;refine a9z (fun d w=>?_) (fun w=>by simp [binOp]) (fun w=>by simp [binOp]) (fun op a v w=>by unfold eqGuard;cases op<;>simp)
 simp [Op.equalIn,run_underlying he]
structure Tn (b:Nat) (w w':World):Prop where
 os:w'.os=w.os
 tape:w'.tape=w.tape
 output:w'.output=w.output
 size:w.heap.size≤w'.heap.size
 else_:∀ k,k<w.heap.size→k≠b→w'.heap[k]?=w.heap[k]?
theorem Tn.refl (b:Nat) (w:World):Tn b w w:=⟨rfl,rfl,rfl,Nat.le_refl _,fun _ _ _=>rfl⟩
theorem Tn.trans {b:Nat} {w w1 w2:World} (h:Tn b w w1) (h':Tn b w1 w2):Tn b w w2 :=
 ⟨h'.os.trans h.os,h'.tape.trans h.tape,h'.output.trans h.output,Nat.le_trans h.size h'.size,fun k hk hne=>(h'.else_ k (Nat.lt_of_lt_of_le hk h.size) hne).trans (h.else_ k hk hne)⟩
theorem Tn.cl {b:Nat} {w w':World} (h:Cl w w'):Tn b w w':=⟨h.os,h.tape,h.output,h.size,fun k hk _=>h.block k hk⟩
theorem Tn.upd {b:Nat} {o:Obj} {w w':World} (h:Upd w b o w'):Tn b w w':=⟨h.os,h.tape,h.output,by rw [h.size];exact Nat.le_refl _,fun k _ hne=>h.else_ k hne⟩
theorem Tn.blk {b:Nat} {w w':World} (h:Tn b w w') {k:Nat} {o:Obj} (hk:w.heap[k]?=some o) (hne:k≠b):w'.heap[k]?=some o:=by
 rw [h.else_ k (Array.getElem?_eq_some_iff.1 hk).1 hne,hk]
theorem Tn.toCl {b:Nat} {w0 w w':World} (h:Tn b w w') (hc:Cl w0 w) (hb:w0.heap.size≤b):Cl w0 w' :=
 Below.trans hc ⟨h.os,h.tape,h.output,h.size,fun k hk=>h.else_ k (Nat.lt_of_lt_of_le hk hc.size) zo⟩
theorem Y2.tn {w w':World} {g n b:Nat} {f:Nat→Value} {cs:Array Value} {u:Nat} {fz:Nat×Nat} (h:Y2 w g n f) (hc:Tn b w w') (hb:w.heap[b]?=some (.cells cs u fz)) (hu:a1J u=false):Y2 w' g n f:=by
 obtain ⟨cs,t,fz,h1,h2,h3⟩:=h;refine ⟨cs,t,fz,hc.blk h1 (fun e=>?_),h2,h3⟩;subst e;rw [hb] at h1;injection h1 with h1;injection h1 with _ h1 _;rw [← h1,hu] at h2;cases h2
theorem a6q.tn {w w':World} {g o n b:Nat} {f:Nat→Value} {cs:Array Value} {u:Nat} {fz:Nat×Nat} (h:a6q w g o n f) (hc:Tn b w w') (hb:w.heap[b]?=some (.cells cs u fz)) (hu:a1J u=false):a6q w' g o n f:=by
 obtain ⟨cs,t,fz,h1,h2,h3⟩:=h;refine ⟨cs,t,fz,hc.blk h1 (fun e=>?_),h2,h3⟩;subst e;rw [hb] at h1;injection h1 with h1;injection h1 with _ h1 _;rw [← h1,hu] at h2;cases h2
theorem a6r.tn {w w':World} {g n b:Nat} {f:Nat→Value} {cs:Array Value} {u:Nat} {fz:Nat×Nat} (h:a6r w g n f) (hc:Tn b w w') (hb:w.heap[b]?=some (.cells cs u fz)) (hu:a1J u=false):a6r w' g n f:=by
 obtain ⟨k,o,c,h1,h2⟩:=h;exact ⟨k,o,c,h1.tn hc hb hu,h2.tn hc hb hu⟩
theorem C1.tn {w w':World} {b:Nat} {cs:Array Value} {u:Nat} {fz:Nat×Nat} (h:C1 w) (hc:Tn b w w') (hb:w.heap[b]?=some (.cells cs u fz)) (hu:a1J u=false):C1 w' :=
 ⟨h.dia.tn hc hb hu,h.anti.tn hc hb hu,h.ranks.tn hc hb hu,h.files.tn hc hb hu,h.kn.tn hc hb hu,h.kg.tn hc hb hu,h.all.tn hc hb hu,h.promo.tn hc hb hu,h.wfen.tn hc hb hu,h.bfen.tn hc hb hu,h.fen.tn hc hb hu⟩
theorem c2R:(G.P.info? 235).map (·.size)=some 1:=by kernel_rfl
theorem b8x:(G.P.info? 138).map (·.size)=some 1:=by kernel_rfl
theorem b98:(G.P.info? 136).map (·.size)=some 1:=by kernel_rfl
theorem H5 (k:IntKind) (n:Int):∀ u∈[Value.int k n],u.oneCell'=true:=by intro u hu;simp at hu;subst hu;rfl
theorem a54 {w:World} {B:MB} {b u:Nat} {K:World→Prop} (hB:w.heap[b]?=some (.cells (mbA B) u (0,0))) (i:Nat) (hi:i<15) (v:Nat) (h:∀ w',Upd w b (.cells (mbA (B.set i v)) u (0,0)) w'→K w'):Z1 G.P w 235 ⟨b,i,none⟩ (.int .u64 v) K :=
 J6 hB [.int .u64 v] rfl c2R rfl (H5 _ _) (by rw [a1Y];omega) (fun w2 u2=>h w2 (by rw [b8g _ _ _ hi] at u2;exact u2))
theorem c0t {w:World} {B:MB} {b u:Nat} {K:World→Prop} (hB:w.heap[b]?=some (.cells (mbA B) u (0,0))) (x:Int) (h:∀ w',Upd w b (.cells (mbA { B with wk:=x }) u (0,0)) w'→K w'):Z1 G.P w 138 ⟨b,15,none⟩ (.int .i8 x) K :=
 J6 hB [.int .i8 x] rfl b8x rfl (H5 _ _) (by rw [a1Y];decide) (fun w2 u2=>h w2 u2)
theorem c0u {w:World} {B:MB} {b u:Nat} {K:World→Prop} (hB:w.heap[b]?=some (.cells (mbA B) u (0,0))) (x:Int) (h:∀ w',Upd w b (.cells (mbA { B with bk:=x }) u (0,0)) w'→K w'):Z1 G.P w 138 ⟨b,16,none⟩ (.int .i8 x) K :=
 J6 hB [.int .i8 x] rfl b8x rfl (H5 _ _) (by rw [a1Y];decide) (fun w2 u2=>h w2 u2)
theorem a4L (B:MB) (b:Nat) {t:Nat} (x:Int) (h0:1≤x) (h1:x≤12) (v:Nat) (w:World) (hb:w.heap[b]?=some (.cells (mbA B) t (0,0))) :
  Calls G.P 276 #[.pointer (some ⟨b,0,none⟩),.int .i8 x,.int .u64 v] w (fun r w'=>r = .returned (.tuple #[])∧Upd w b (.cells (mbA (B.set (x.toNat-1) v)) t (0,0)) w'):=by
 refine zN Tryz.func276 ?_;have hx:x=1∨x=2∨x=3∨x=4∨x=5∨x=6∨x=7∨x=8∨x=9∨x=10∨x=11∨x=12:=by omega
 rcases hx with rfl | rfl | rfl | rfl | rfl | rfl | rfl | rfl | rfl | rfl | rfl | rfl;all_goals
  refine zR ?_;refine a54 hb _ zd v (fun w2 u2=>zR ?_);exact ⟨rfl,u2⟩
theorem a5Y (B:MB) (b:Nat) {t:Nat} {fz:Nat×Nat} (w:World) (hB:w.heap[b]?=some (.cells (mbA B) t fz)) :
  Calls G.P 255 #[.pointer (some ⟨b,0,none⟩)] w (fun r w'=>∃ b',r = .returned (.pointer (some ⟨b',0,none⟩))∧w.heap.size≤b'∧w'.heap[b']?=some (.cells (mbA B) 237 (0,0))∧Cl w w'):=by
 refine zN Tryz.func255 ?_;refine zR ?_;refine zK 68 ?_;refine zQ ?_;intro w4 c4;refine zR ?_;refine s9 (mbA B) zk (zR ?_);exact ⟨_,rfl,c4.size,d8 _ _,c4.trans (Cl.alloc _ _)⟩
structure c3c (w:World) (P b:Nat) (h:Hd) (B:MB):Prop where
 hd:∃ cv,w.heap[P]?=some (.cells (hdA b h cv) 173 (0,0))
 bd:w.heap[b]?=some (.cells (mbA B) 237 (0,0))
theorem b48 {P b t u:Nat} {h:Hd} {cv:Value} {fz fy:Nat×Nat} {B:MB} (w:World) (hP:w.heap[P]?=some (.cells (hdA b h cv) t fz)) (hB:w.heap[b]?=some (.cells (mbA B) u fy)) :
  Calls G.P 286 #[.pointer (some ⟨P,0,none⟩)] w (fun r w'=>∃ P' b',r = .returned (.pointer (some ⟨P',0,none⟩))∧w.heap.size≤P'∧w.heap.size≤b'∧b'<P' ∧
   w'.heap[P']?=some (.cells (hdA b' h (.slice none 0 0)) 173 (0,0))∧w'.heap[b']?=some (.cells (mbA B) 237 (0,0))∧Cl w w'):=by
 refine zN Tryz.func286 ?_;refine zR ?_;refine I8.mk3 (Cl w) [0,1,2,3,5,6,7,8,9,10,11,12,13,14,15,16,17,18,19,20,21,22,23,24,25,26,27,28] (.cons 4 (.cons 29 (.cons 30 (.cons 31 .done .nil) .nil) .nil) .nil) (Cl.drew (Cl.refl _)) zk (zR ?_);refine g9 _ (fun w hw=>a7o (hw.blk hP)) (zR ?_);refine g9 _ (fun w hw=>a69 (hw.blk hP)) (zR ?_);refine g9 _ (fun w hw=>a2X (hw.blk hP)) (zR ?_);refine g9 _ (fun w hw=>a86 (hw.blk hP)) (zR ?_);refine g9 _ (fun w hw=>a2u (hw.blk hP)) (zR ?_);refine g9 _ (fun w hw=>a4F (hw.blk hP)) (zR ?_);refine g9 _ (fun w hw=>b2h (hw.blk hP)) (zE ?_);have cd:Cl w w.drew:=Cl.drew (Cl.refl _);refine o8 (a5Y B b _ (cd.blk hB)) ?_;rintro r w1 ⟨b',rfl,hb',hB',c1⟩;refine ⟨_,rfl,?_⟩;have c1':=cd.trans c1;refine zR ?_;refine And.intro c1' (zE ?_);refine s9 (hdA b' h (.slice none 0 0)) zk (zR ?_);refine And.intro c1' (zE ?_);have c2:=c1'.trans (Cl.alloc w1 (.cells (hdA b' h (.slice none 0 0)) 173));refine And.intro c2 (zE ?_);refine And.intro c2 (zR ?_);exact ⟨_,_,rfl,c1'.size,Nat.le_trans cd.size hb',(Array.getElem?_eq_some_iff.1 hB').1,d8 _ _,(Cl.alloc _ _).blk hB',c2⟩
theorem c1U {a b:Nat} {K:Int→Prop} (ha:a<65536) (hb:b<65536) (h:K ((a ||| b:Nat):Int)):∀ r:Int,r=a0f .or .u16 a b→K r:=by
 intro r hr;have e1:(BitVec.ofInt 16 (a:Int)).toNat=a:=by rw [BitVec.ofInt_natCast,BitVec.toNat_ofNat,Nat.mod_eq_of_lt ha]
 have e2:(BitVec.ofInt 16 (b:Int)).toNat=b:=by rw [BitVec.ofInt_natCast,BitVec.toNat_ofNat,Nat.mod_eq_of_lt hb]
 have e:a0f .or .u16 a b=((a ||| b:Nat):Int):=by
  show IntKind.u16.wrap ((BitVec.ofInt 16 (a:Int) ||| BitVec.ofInt 16 (b:Int)).toNat:Int)=_
  rw [BitVec.toNat_or,e1,e2];have:=Nat.or_lt_two_pow (n:=16) ha hb;simp [IntKind.wrap,IntKind.bits,IntKind.signed];omega
 rw [hr,e];exact h
theorem c0v {a b:Nat} {K:Int→Prop} (ha:a<65536) (hb:b<65536) (h:K ((a &&& b:Nat):Int)):∀ r:Int,r=a0f .and .u16 a b→K r:=by
 intro r hr;have e1:(BitVec.ofInt 16 (a:Int)).toNat=a:=by rw [BitVec.ofInt_natCast,BitVec.toNat_ofNat,Nat.mod_eq_of_lt ha]
 have e2:(BitVec.ofInt 16 (b:Int)).toNat=b:=by rw [BitVec.ofInt_natCast,BitVec.toNat_ofNat,Nat.mod_eq_of_lt hb]
 have e:a0f .and .u16 a b=((a &&& b:Nat):Int):=by
  show IntKind.u16.wrap ((BitVec.ofInt 16 (a:Int) &&& BitVec.ofInt 16 (b:Int)).toNat:Int)=_;rw [BitVec.toNat_and,e1,e2];have:=Nat.and_lt_two_pow (n:=16) a hb;simp [IntKind.wrap,IntKind.bits,IntKind.signed];omega
 rw [hr,e];exact h
theorem b3C (n k:Nat):2^k &&& n=if n.testBit k then 2^k else 0:=by
 apply Nat.eq_of_testBit_eq;intro i;rw [Nat.testBit_and,Nat.testBit_two_pow];by_cases e:k=i
 ·subst e;cases h:n.testBit k<;>simp [Nat.testBit_two_pow]
 ·cases h:n.testBit k<;>simp [e,Nat.testBit_two_pow]
theorem a1w {M t k:Nat} {d:Nd} {fz:Nat×Nat} (hk:k<16) (hd:d.tags<65536) (w:World) (hM:w.heap[M]?=some (.cells (F0 d) t fz)) :
  Calls G.P 147 #[.pointer (some ⟨M,0,none⟩),.int .u16 ((2^k:Nat):Int)] w (D5 (.bool (d.tags.testBit k)) w):=by
 have hp:2^k<65536:=Nat.pow_lt_pow_right (n:=16) zd hk;have ha:=b3C d.tags k;have hpos:0<2^k:=Nat.two_pow_pos k;generalize 2^k=T at *;refine zN Tryz.func147 ?_;refine zR ?_;refine d6 _ (a9w hM) (zR ?_);refine c0v hp hd (zR ?_);refine ⟨m8 ?_,rfl⟩;rw [ha];cases h:d.tags.testBit k
 ·rfl
 ·simpa using hpos
theorem V9 {M t tag:Nat} {d:Nd} (hd:d.tags<65536) (ht:tag<65536) (w:World) (hM:w.heap[M]?=some (.cells (F0 d) t (0,0))) :
  Calls G.P 254 #[.pointer (some ⟨M,0,none⟩),.int .u16 tag] w (fun r w'=>r = .returned (.tuple #[])∧Upd w M (.cells (F0 { d with tags:=d.tags ||| tag }) t (0,0)) w'):=by
 refine zN Tryz.func254 ?_;refine zR ?_;refine d6 _ (a9w hM) (zR ?_);refine c1U hd ht (zR ?_);refine J6 hM [.int .u16 ((d.tags ||| tag:Nat):Int)] rfl b98 rfl (H5 _ _) (Nat.le_of_ble_eq_true rfl) (fun w2 u2=>zR ?_)
 exact ⟨rfl,u2⟩
theorem a90 {B:MB} [hO:B.Ok] {b t:Nat} {fz:Nat×Nat} (s:Nat) (hs:s<64) (w:World) (hB:w.heap[b]?=some (.cells (mbA B) t fz)) :
  Calls G.P 285 #[.pointer (some ⟨b,0,none⟩),.int .i8 s] w (D5 (.bool (!(B.f 14).testBit (63-s))) w):=by
 have c1:=fun w=>a1u (B.f 14) s hs w;refine zN Tryz.func285 ?_;refine zR ?_;refine d6 _ (U7 hB _ zd) (zR ?_);refine d9 (c1 _) (zR ?_);exact ⟨rfl,rfl⟩
instance whites_ok {B:MB} [hO:B.Ok]:L64 B.whites:=by unfold MB.whites;infer_instance
instance blacks_ok {B:MB} [hO:B.Ok]:L64 B.blacks:=by unfold MB.blacks;infer_instance
instance sums_ok {B:MB} [hO:B.Ok]:B.sums.Ok:=by unfold MB.sums;infer_instance
theorem c0w {B:MB} [hO:B.Ok] {b M t:Nat} {d:Nd} {fz:Nat×Nat} (hne:M≠b) (w:World) (hB:w.heap[b]?=some (.cells (mbA B) 237 (0,0))) (hM:w.heap[M]?=some (.cells (F0 d) t fz)) :
  Calls G.P 277 #[.pointer (some ⟨b,0,none⟩),.pointer (some ⟨M,0,none⟩)] w (fun r w'=>r = .returned (.tuple #[])∧w'.heap[b]?=some (.cells (mbA (B.sums.kings d.mv.fr d.mv.to)) 237 (0,0))∧Tn b w w'):=by
 have eW:B.whites=B.f 0 ||| B.f 1 ||| B.f 2 ||| B.f 3 ||| B.f 4 ||| B.f 5:=rfl
 have eK:B.blacks=B.f 6 ||| B.f 7 ||| B.f 8 ||| B.f 9 ||| B.f 10 ||| B.f 11:=rfl
 have lW:L64 B.whites:=inferInstance;have lK:L64 B.blacks:=inferInstance;have eS:B.sums=((B.set 12 B.whites).set 13 B.blacks).set 14 (Bb.not (B.whites ||| B.blacks)):=rfl
 rw [eS];refine zN Tryz.func277 ?_;refine zR ?_;refine zK 30 ?_;refine zQ ?_;intro w1 c1;have hB1:=c1.blk hB;have hM1:=c1.blk hM;refine zR ?_;refine zK 30 ?_;clear hB;have hB:=hB1;refine zQ ?_;intro w2 c2;have hB2:=c2.blk hB1;have hM2:=c2.blk hM1;have n2:Tn b w w2:=Tn.cl (c1.trans c2);clear hB hB1 hM hM1 c1 c2;rw [← eW,← eK];have eU:B.whites ||| B.blacks=B.whites ||| B.blacks:=rfl
 generalize B.whites=W at *;generalize B.blacks=K at *;have hB:=hB2;have hM:=hM2;refine zB ?_;refine a54 hB 12 zd _ (fun w3 u3=>?_);have n3:=n2.trans (Tn.upd u3);have hB:=u3.at_;have hM:=(Tn.upd u3).blk hM2 hne;refine zB ?_;refine a54 hB 13 zd _ (fun w4 u4=>?_);have n4:=n3.trans (Tn.upd u4);have hM:=(Tn.upd u4).blk hM hne;have hB:=u4.at_;refine zB ?_;refine a54 hB 14 zd _ (fun w5 u5=>?_);have n5:=n4.trans (Tn.upd u5);have hM:=(Tn.upd u5).blk hM hne;have hB:=u5.at_;generalize ((B.set 12 W).set 13 K).set 14 (Bb.not (W ||| K))=S at *
 clear u3 u4 u5 n3 n4 n2 hM2 hB2;refine zB ?_;refine W3 false (N1 rfl _) (zR ?_);refine zK 10 ?_;refine zQ ?_;intro w6 c6;have hB:=c6.blk hB;have hM:=c6.blk hM;have n6:=n5.trans (Tn.cl c6);refine zR ?_;apply E.b7<;>intro h
 ·refine zB ?_;refine c0t hB _ (fun w7 u7=>zR ?_);refine ⟨rfl,?_,n6.trans (Tn.upd u7)⟩;rw [u7.at_];unfold MB.kings;rw [if_pos h]
 ·have h1:=h;clear h;refine zR ?_;refine zK 10 ?_;refine zQ ?_;intro w7 c7;have hB:=c7.blk hB;have hM:=c7.blk hM;have n7:=n6.trans (Tn.cl c7);refine zR ?_;apply E.b7<;>intro h
  ·refine zB ?_;refine c0u hB _ (fun w8 u8=>zR ?_);refine ⟨rfl,?_,n7.trans (Tn.upd u8)⟩;rw [u8.at_];unfold MB.kings;rw [if_neg h1,if_pos h]
  ·refine zR ?_;refine ⟨rfl,?_,n7⟩;rw [hB];unfold MB.kings;rw [if_neg h1,if_neg h]
end
end Go.Proofs.YtpclhlhcegcflaaGreatDoor
