/- One part of the proof: Pk53 Pk54 Pk48 Dfr Pk49. -/
import Derived.Lib.UnsafeStr
import Derived.Defers
import Derived.Recover
import Derived.Test.YtpclhlhcegcflaaGreatDoorM1
import Derived.Test.YtpclhlhcegcflaaGreatDoorM3
import Derived.Test.YtpclhlhcegcflaaGreatDoorM12
import Derived.Test.YtpclhlhcegcflaaGreatDoorM15
namespace Go.Proofs.YtpclhlhcegcflaaGreatDoor
set_option maxRecDepth 100000
set_option linter.unusedSimpArgs false
set_option linter.unusedVariables false
section
open Go Go.RowKit
open E
open Ch Bb
theorem c48 {C:World→Prop} {l:Tx} {s:ByteArray} {k:IntKind} {b:Int} {x hi:Operand} {dst:Option Nat} {ty:Nat} {pos:String} {af:Array Edge} {gd:Option (Nat×Bool)} {env:C0} {K:Value→Prop}
  (r:Tx) (hx:ev env x = .string s) (hh:ev env hi = .int k b) (hs:s=tx l) (h0:0≤b) (h2:b≤l.length) (hr:l.take b.toNat=r) (h:K (s8 r)) :
  b3X G.P C { dst,op:=.slice 9 x none (some hi) none,type:=ty,pos,after:=af,guard:=gd } env K:=by
 subst hs;refine ⟨_,fun w _=>?_,h⟩;show (do pure (Next.value (← Instr.slice 9 (ev env x) none (some (ev env hi)) none)):Sem Next).run G.P w=_
 rw [hx,hh,Sem.run_bind,run_slice_string_h (P:=G.P) w 9 _ b0y _ _ h0 (by rw [C9];exact h2),tx,ByteArray.extract_mk]
 rw [← hr,List.drop_zero,Nat.sub_zero];rfl
theorem a6p {w:World} {dst:Option Nat} {ty:Nat} {pos:String} {af:Array Edge} {gd:Option (Nat×Bool)} {env:C0} {K:Value→World→Prop} {fo:Operand} {args:Array Operand} {argTypes:Array Nat} {f:Nat} {cap:Array Value} {v:Value} (vs:Array Value) (h:Calls G.P f vs w (K4 v w)) (hf:ev env fo = .func (.func f) #[] cap) (hfn:G.fn f=true) (ha:(args.map (ev env)).toList++cap.toList=vs.toList)
  (hk:∀ w',Cl w w'→K v w'):L5 G.P { dst,op:=.call { callee:=.value fo,args,argTypes },type:=ty,pos,after:=af,guard:=gd } env w K :=
 b5f vs hf hfn ha (h.mono fun _ w' hr=>⟨v,hr.1,hk w' hr.2⟩)
def orE (x y:Option p7):Option p7:=match x with
 | some a=>some a
 | none=>y
theorem b0w (f:Nat→Option p7) (n:Nat):a9I f (n+1)=orE (f n) (a9I f n):=by
 rw [a9I];unfold orE;cases f n<;>rfl
theorem b6z (x y z:Option p7):orE (orE x y) z=orE x (orE y z):=by cases x<;>rfl
theorem c4X (x:Option p7):orE none x=x:=rfl
theorem c3L (a:p7) (x:Option p7):orE (some a) x=some a:=rfl
def a9y (s:Tx) (q:p7):List Tx:=[s,q.pc,q.fo,q.ro,q.ca,q.fi,q.ra,q.pr,q.cs,[]]
def zzL (s:Tx):List Tx:=match zzP s with
 | some q=>a9y s q
 | none=>[]
theorem c4c {s set:Tx} {i:Nat} (h:inS s i set=true):i<s.length:=by
 refine Classical.byContradiction fun hn=>?_;rw [c4r zo] at h;cases h
theorem c2X (s set:Tx) (i:Nat):oneN s i set≤1:=by unfold oneN;split<;>omega
theorem c3y {k:Nat} (h:k≤100):IntKind.i64.wrap ((k:Int)-1)=(k:Int)-1:=g7 zo zo
theorem c4t {a b:Nat} (h:a+b≤1000000):IntKind.i64.wrap ((a:Int)+(b:Int))=((a+b:Nat):Int):=by rw [g7 zo zo];push_cast;rfl
theorem c3m {s:Tx} {q:p7} (h:zzP s=some q):zzL s=a9y s q:=by unfold zzL;rw [h]
theorem c4Y {s:Tx} (h:zzP s=none):zzL s=[]:=by unfold zzL;rw [h]
def ooR (s:Tx) (i:Nat):Option p7:=if i=0∧s.take 5=oooS∧a1K (s.drop 5)=true then some (b9D oooS) else if i≤1∧s.take 3=ooS∧a1K (s.drop 3)=true then some (b9D ooS) else none
theorem c6n {s:Tx} (h:b5t s=none):ooR s 0=zzP s:=by
 unfold zzP ooR;rw [h];simp
set_option maxHeartbeats 4000000 in
theorem c57 (s:Tx) (hs:s.length≤1000) (w:World):Calls G.P 346 #[s8 s] w (fun r w'=>Cl w w'∧∃ v,r = .returned v∧Row 9 1 a4E w.heap.size w' v (zzL s)):=by
 have hsz:(tx s).size=s.length:=C9 _;refine zN Tryz.func346 ?_;refine zG ?_;obtain ⟨b,hb0⟩:∃ b,b=w.heap.size:=⟨_,rfl⟩;have cA:=Cl.alloc w (.cells #[s8 s] 9);have hb:(w.alloc (.cells #[s8 s] 9)).heap[b]?=some (.cells #[s8 s] 9 (0,0)):=by rw [hb0];exact d8 _ _
 rw [← hb0];obtain ⟨W0,hW0⟩:∃ W0,W0=w.alloc (.cells #[s8 s] 9):=⟨_,rfl⟩;rw [← hW0] at cA hb;rw [show w.alloc (.cells #[Value.string (tx s)] 9)=W0 from hW0.symm];clear hW0;have one:=fun {w':World} (i:Nat) (hi:i≤100000) (set:Tx) (hset:set.length≤1000) (h:Cl W0 w')=>c6l (s:=s) (set:=set) (i:=i) (b:=b) hi zo hset w' (h.blk hb);refine zR ?_;refine b2N #[.pointer (some ⟨b,0,none⟩)] (by rw [Array.toList_map];rfl) (zR ?_)
 refine a6p #[.int .i64 (0:Nat),s8 a23,.pointer (some ⟨b,0,none⟩)] (one 0 zd a23 zd (Cl.refl _)) rfl rfl (by rw [Array.toList_map];rfl) fun w1 c1=>?_
 have l1:=c2X s a23 0;refine zR ?_;refine A9 (σ:=Nat) [2,4,5,6,7,8,9,10] 13 (fun n=>[(4,.int .i64 ((n:Int)-1))]) (fun n w'=>n≤2∧a9I (c4Q s) n=b5t s∧Cl W0 w') (fun n=>n) zk (oneN s 0 a23+1) ⟨zo,rfl,c1⟩ ⟨m7 (by push_cast;omega),trivial⟩ ?_
 clear l1;rintro na ja wa ⟨hna,hA,ca⟩;cases na with
 | zero =>
  have hc0:=c6n hA.symm;have s0:=cA.size;refine zR ?_;refine E6 elStr [s8 oooS,s8 ooS] (by rw [Array.toList_map];rfl) (by simp [Value.cells,s8]) rfl zd zd ?_
  have cB:=ca.trans (Cl.alloc wa (.cells (([s8 oooS,s8 ooS]:List Value).flatMap fun v=>v.cells.toList).toArray 9));have hg:(wa.alloc (.cells (([s8 oooS,s8 ooS]:List Value).flatMap fun v=>v.cells.toList).toArray 9)).heap[wa.heap.size]?=some (.cells #[s8 oooS,s8 ooS] 9 (0,0)):=d8 _ _;generalize wa.alloc (.cells (([s8 oooS,s8 ooS]:List Value).flatMap fun v=>v.cells.toList).toArray 9)=wB at *;generalize wa.heap.size=g at *;refine zR ?_;refine A9 (σ:=Nat) [2,12,134] 135 (fun i=>[(134,.int .i64 i)]) (fun i w'=>i≤2∧ooR s i=zzP s∧Cl wB w') (fun i=>2-i) zk 0 ⟨zo,hc0,Cl.refl _⟩ ⟨rfl,trivial⟩ ?_;rintro i jc w2 ⟨hi,hc,c2⟩;have ni:=C2 (i:=i) zo;have hg:=c2.blk hg;have c02:=cB.trans c2;have hb:=c02.blk hb;have fin:∀ q,zzP s=some q→Row 9 1 a4E b (w2.alloc (.cells (((a9y s q).map s8).flatMap fun v=>v.cells.toList).toArray 9)) (.slice (some ⟨w2.heap.size,0,none⟩) 10 10) (zzL s):=fun q hq=>by
   rw [c3m hq];exact (H9 B5 w2 (a9y s q) (Nat.le_of_ble_eq_true rfl) _ rfl).mono (by rw [hb0];exact Nat.le_trans s0 c02.size)
  rcases (by omega:i=0∨i=1∨i=2) with rfl | rfl | rfl
  ·have nx:¬ (s.take 5=oooS∧a1K (s.drop 5)=true)→ooR s 1=zzP s:=fun h=>by
    rw [← hc];unfold ooR;simp [h]
   refine zR ?_;refine d6 _ (W1 hg rfl rfl) (zR ?_);refine d6 _ (W1 hb rfl rfl) (zR ?_);rw [hsz,show (tx oooS).size=5 from rfl];apply E.b7<;>intro h
   ·have hlen:5≤s.length:=by omega
    clear h;refine zR ?_;refine d6 _ (W1 hb rfl rfl) (zR ?_);rw [show (tx oooS).size=5 from rfl];refine b0P (l:=s) (s.take 5) rfl rfl rfl zo zo rfl (zR ?_);apply E.b7<;>intro h
    ·have e:=a0p.1 h;clear h;refine zR ?_;refine d6 _ (W1 hb rfl rfl) (zR ?_);rw [show (tx oooS).size=5 from rfl];refine d9 (c3l (s:=s) (i:=5) hlen zo w2) ?_;cases et:a1K (s.drop 5)
     ·refine zR ?_;exact ⟨1,⟨m7 ni,trivial⟩,⟨zo,nx (fun h=>by rw [et] at h;cases h.2),c2⟩,zo⟩
     ·have hz:zzP s=some (b9D oooS):=by rw [← hc];unfold ooR;simp [e,et]
      refine zR ?_;refine d6 _ (W1 hb rfl rfl) (zR ?_);refine E6 elStr ((a9y s (b9D oooS)).map s8) (by rw [Array.toList_map];rfl) (by simp [a9y,Value.cells,s8]) rfl zd zd (zR ?_)
      exact ⟨(cA.trans c02).trans (Cl.alloc _ _),_,rfl,fin _ hz⟩
    ·have e:¬ s.take 5=oooS:=fun e=>h (by rw [e])
     refine zR ?_;exact ⟨1,⟨m7 ni,trivial⟩,⟨zo,nx (fun h=>e h.1),c2⟩,zo⟩
   ·have e:¬ s.take 5=oooS:=fun e=>by
     have:=congrArg List.length e;rw [List.length_take] at this;have e2:oooS.length=5:=rfl;omega
    refine zR ?_;exact ⟨1,⟨m7 ni,trivial⟩,⟨zo,nx (fun h=>e h.1),c2⟩,zo⟩
  ·have nx:¬ (s.take 3=ooS∧a1K (s.drop 3)=true)→ooR s 2=zzP s:=fun h=>by
    rw [← hc];unfold ooR;simp [h]
   refine zR ?_;refine d6 _ (W1 hg rfl rfl) (zR ?_);refine d6 _ (W1 hb rfl rfl) (zR ?_);rw [hsz,show (tx ooS).size=3 from rfl];apply E.b7<;>intro h
   ·have hlen:3≤s.length:=by omega
    clear h;refine zR ?_;refine d6 _ (W1 hb rfl rfl) (zR ?_);rw [show (tx ooS).size=3 from rfl];refine b0P (l:=s) (s.take 3) rfl rfl rfl zo zo rfl (zR ?_);apply E.b7<;>intro h
    ·have e:=a0p.1 h;clear h;refine zR ?_;refine d6 _ (W1 hb rfl rfl) (zR ?_);rw [show (tx ooS).size=3 from rfl];refine d9 (c3l (s:=s) (i:=3) hlen zo w2) ?_;cases et:a1K (s.drop 3)
     ·refine zR ?_;exact ⟨2,⟨m7 ni,trivial⟩,⟨zo,nx (fun h=>by rw [et] at h;cases h.2),c2⟩,zo⟩
     ·have hz:zzP s=some (b9D ooS):=by rw [← hc];unfold ooR;simp [e,et,ooS,oooS]
      refine zR ?_;refine d6 _ (W1 hb rfl rfl) (zR ?_);refine E6 elStr ((a9y s (b9D ooS)).map s8) (by rw [Array.toList_map];rfl) (by simp [a9y,Value.cells,s8]) rfl zd zd (zR ?_)
      exact ⟨(cA.trans c02).trans (Cl.alloc _ _),_,rfl,fin _ hz⟩
    ·have e:¬ s.take 3=ooS:=fun e=>h (by rw [e])
     refine zR ?_;exact ⟨2,⟨m7 ni,trivial⟩,⟨zo,nx (fun h=>e h.1),c2⟩,zo⟩
   ·have e:¬ s.take 3=ooS:=fun e=>by
     have:=congrArg List.length e;rw [List.length_take] at this;have e2:ooS.length=3:=rfl;omega
    refine zR ?_;exact ⟨2,⟨m7 ni,trivial⟩,⟨zo,nx (fun h=>e h.1),c2⟩,zo⟩
  ·have hn:zzP s=none:=hc.symm;refine zR ?_;exact ⟨cA.trans c02,_,rfl,by rw [c4Y hn];exact Row.nil _ _⟩
 | succ a =>
  rw [b0w] at hA;rw [show ((a+1:Nat):Int)-1=(a:Int) by omega]
  refine zR ?_;refine a6p #[.int .i64 (a:Nat),s8 a4q,.pointer (some ⟨b,0,none⟩)] (one a zo a4q zd ca) rfl rfl (by rw [Array.toList_map];rfl) fun w1 c1=>?_
  have l1:=c2X s a4q a;refine zR ?_;refine A9 (σ:=Nat) [2,5,6,7,8,9,10] 13 (fun n=>[(5,.int .i64 ((n:Int)-1))]) (fun n w'=>n≤2∧orE (a9I (c4P s a) n) (a9I (c4Q s) a)=b5t s∧Cl W0 w') (fun n=>n) zk (oneN s a a4q+1) ⟨zo,hA,ca.trans c1⟩ ⟨m7 (by push_cast;omega),trivial⟩ ?_
  clear l1 c1 hA ca;generalize hRA:a9I (c4Q s) a=RA at *;rintro nb jb wb ⟨hnb,hB,cb⟩;cases nb with
  | zero =>
   refine zR ?_;exact ⟨a,⟨m7 (c3y zo),trivial⟩,⟨zo,hRA.trans hB,cb⟩,zo⟩
  | succ bb =>
   rw [b0w,b6z] at hB;rw [show ((bb+1:Nat):Int)-1=(bb:Int) by omega]
   have eab:=c4t (a:=a) (b:=bb) zo;refine zR ?_;rw [eab];refine a6p #[.int .i64 (a+bb:Nat),s8 a00,.pointer (some ⟨b,0,none⟩)] (one (a+bb) zo a00 zd cb) rfl rfl (by rw [Array.toList_map];rfl) fun w1 c1=>?_
   have l1:=c2X s a00 (a+bb);refine zR ?_;refine A9 (σ:=Nat) [2,6,7,8,9,10] 13 (fun n=>[(6,.int .i64 ((n:Int)-1))]) (fun n w'=>n≤2∧orE (a9I (c4O s a bb) n) (orE (a9I (c4P s a) bb) RA)=b5t s∧Cl W0 w') (fun n=>n) zk (oneN s (a+bb) a00+1) ⟨zo,hB,cb.trans c1⟩ ⟨m7 (by push_cast;omega),trivial⟩ ?_
   clear l1 c1 hB cb;generalize hRB:orE (a9I (c4P s a) bb) RA=RB at *;rintro nc jc wc ⟨hnc,hC,cc⟩;cases nc with
   | zero =>
    refine zR ?_;exact ⟨bb,⟨m7 (c3y zo),trivial⟩,⟨zo,hRB.trans hC,cc⟩,zo⟩
   | succ c =>
    rw [b0w,b6z] at hC;rw [show ((c+1:Nat):Int)-1=(c:Int) by omega]
    have eabc:=c4t (a:=a+bb) (b:=c) zo;refine zR ?_;rw [eab,eabc];refine a6p #[.int .i64 (a+bb+c:Nat),s8 [120],.pointer (some ⟨b,0,none⟩)] (one (a+bb+c) zo [120] zd cc) rfl rfl (by rw [Array.toList_map];rfl) fun w1 c1=>?_
    have l1:=c2X s [120] (a+bb+c);refine zR ?_;refine A9 (σ:=Nat) [2,7,8,9,10] 13 (fun n=>[(7,.int .i64 ((n:Int)-1))]) (fun n w'=>n≤2∧orE (a9I (c41 s a bb c) n) (orE (a9I (c4O s a bb) c) RB)=b5t s∧Cl W0 w') (fun n=>n) zk (oneN s (a+bb+c) [120]+1) ⟨zo,hC,cc.trans c1⟩ ⟨m7 (by push_cast;omega),trivial⟩ ?_
    clear l1 c1 hC cc;generalize hRC:orE (a9I (c4O s a bb) c) RB=RC at *;rintro nd jd wd ⟨hnd,hD,cd⟩;cases nd with
    | zero =>
     refine zR ?_;exact ⟨c,⟨m7 (c3y zo),trivial⟩,⟨zo,hRC.trans hD,cd⟩,zo⟩
    | succ d =>
     rw [b0w,b6z] at hD;rw [show ((d+1:Nat):Int)-1=(d:Int) by omega]
     have eabcd:=c4t (a:=a+bb+c) (b:=d) zo;refine zR ?_;rw [eab,eabc,eabcd];obtain ⟨T,hT⟩:∃ T,T=a+bb+c+d:=⟨_,rfl⟩;have hT4:T≤4:=by omega
     have hE:c41 s a bb c d=if inS s T a4q&&inS s (T+1) a00 then a9I (c40 s a bb c d) (if c3f s T then 2 else 1) else none:=by rw [hT];rfl
     rw [hE] at hD;rw [← hT];clear hE;generalize hRD:orE (a9I (c41 s a bb c) d) RC=RD at *;have n1:=C2 (i:=T) zo;have n2:IntKind.i64.wrap ((T:Int)+2)=((T+2:Nat):Int):=by rw [g7 zo zo];push_cast;omega
     refine a6p #[.int .i64 T,s8 a4q,.pointer (some ⟨b,0,none⟩)] (one T zo a4q zd cd) rfl rfl (by rw [Array.toList_map];rfl) fun w1 c1=>?_
     have c1:=cd.trans c1;cases hF:inS s T a4q
     ·rw [c1i hF];rw [hF] at hD;refine zR ?_;exact ⟨d,⟨m7 (c3y zo),trivial⟩,⟨zo,hRD.trans hD,c1⟩,zo⟩
     rw [a6H hF];rw [hF] at hD;refine zR ?_;rw [n1];refine a6p #[.int .i64 (T+1:Nat),s8 a00,.pointer (some ⟨b,0,none⟩)] (one (T+1) zo a00 zd c1) rfl rfl (by rw [Array.toList_map];rfl) fun w2 c2=>?_
     have c2:=c1.trans c2;cases hG:inS s (T+1) a00
     ·rw [c1i hG];rw [hG] at hD;refine zR ?_;exact ⟨d,⟨m7 (c3y zo),trivial⟩,⟨zo,hRD.trans hD,c2⟩,zo⟩
     rw [a6H hG];rw [hG,Bool.and_true,if_pos rfl] at hD;have hl2:=c4c hG;clear c1 cd;refine zG ?_;refine Nx.mk (zG ?_);refine Nx.mk (zG ?_);refine Nx.mk (zG ?_);have n3:=C2 (i:=T+2) zo;rw [n2];refine A4 (σ:=Unit) [10] 67 (fun _=>[(10,.int .i64 (if c3f s T then 2 else 0))]) (fun _ w'=>Cl W0 w') zk ?_ (fun _ j w4 c4=>?_)
     ·refine zR ?_;refine a6p #[.int .i64 (T+2:Nat),s8 [61],.pointer (some ⟨b,0,none⟩)] (one (T+2) zo [61] zd c2) rfl rfl (by rw [Array.toList_map];rfl) fun w5 c5=>?_
      have c5:=c2.trans c5;cases hP:inS s (T+2) [61]
      ·have e:c3f s T=false:=by unfold c3f;rw [hP];rfl
       rw [c1i hP];refine zR ?_;exact ⟨(),⟨by rw [e];rfl,trivial⟩,c5⟩
      rw [a6H hP];refine zR ?_;rw [n3];refine a6p #[.int .i64 (T+2+1:Nat),s8 c3X,.pointer (some ⟨b,0,none⟩)] (one (T+2+1) zo c3X zd c5) rfl rfl (by rw [Array.toList_map];rfl) fun w6 c6=>?_
      have c6:=c5.trans c6;have e:c3f s T=inS s (T+2+1) c3X:=by unfold c3f;rw [hP];rfl
      rw [e];cases hQ:inS s (T+2+1) c3X
      ·rw [c1i hQ];refine zR ?_;exact ⟨(),⟨rfl,trivial⟩,c6⟩
      ·rw [a6H hQ];refine zR ?_;exact ⟨(),⟨rfl,trivial⟩,c6⟩
     clear c2;have hp4:c3f s T=true→T+4≤s.length:=fun h=>by
      unfold c3f at h;rw [Bool.and_eq_true] at h;have:=c4c h.2;omega
     refine zR ?_;refine A9 (σ:=Nat) [2,10] 13 (fun n=>[(10,.int .i64 (2*(n:Int)-2))]) (fun n w'=>n≤2∧orE (a9I (c40 s a bb c d) n) RD=b5t s∧(0<n→T+2*n≤s.length)∧Cl W0 w') (fun n=>n) zk (if c3f s T then 2 else 1) ⟨by split<;>omega,hD,fun _=>by split;exact hp4 (by assumption);omega,c4⟩ ⟨m7 (by split<;>rfl),trivial⟩ ?_
     clear hD hp4 c4;rintro np jp wp ⟨hnp,hK,hlp,cp⟩;cases np with
     | zero =>
      refine zR ?_;exact ⟨d,⟨m7 (c3y zo),trivial⟩,⟨zo,hRD.trans hK,cp⟩,zo⟩
     | succ k =>
      rw [b0w,b6z] at hK;have hlk:T+2+2*k≤s.length:=by have:=hlp zo;omega
      have epk:=c4t (a:=T+2) (b:=2*k) zo;have hb6:=cp.blk hb;rw [show 2*((k+1:Nat):Int)-2=((2*k:Nat):Int) by push_cast;omega]
      have hKK:c40 s a bb c d k=if a1K (s.drop (T+2+2*k)) then some (c4z s a bb c d k) else none:=by rw [hT];rfl
      rw [hKK] at hK;clear hKK;refine zR ?_;refine d6 _ (W1 hb6 rfl rfl) (zR ?_);rw [epk];refine d9 (c3l (s:=s) (i:=T+2+2*k) hlk zo wp) ?_;cases et:a1K (s.drop (T+2+2*k))
      ·rw [et] at hK;refine zR ?_;exact ⟨k,⟨m7 (by rw [g7 (by push_cast;omega) (by push_cast;omega)];push_cast;rfl),trivial⟩,⟨zo,hK,fun _=>by omega,cp⟩,zo⟩
      ·rw [et,if_pos rfl,c3L] at hK;have hz:zzP s=some (c4z s a bb c d k):=by unfold zzP;rw [← hK]
       have s0:=cA.size;refine zR ?_;refine zK 44 ?_;refine zR ?_;refine g9 _ (fun w' hw=>W1 (hw.blk hb6) rfl rfl) (zR ?_);refine g9 _ (fun w' hw=>W1 (hw.blk hb6) rfl rfl) (zR ?_);refine c48 (l:=s) (a5L s 0 a) rfl rfl rfl zo zo (by rw [Int.toNat_natCast];simp [a5L]) (zR ?_)
       refine g9 _ (fun w' hw=>W1 (hw.blk hb6) rfl rfl) (zR ?_);rw [eab];refine a7i (l:=s) (a5L s (a) (a+bb)) rfl rfl rfl rfl zo zo zo (by rw [Int.toNat_natCast,Int.toNat_natCast];rfl) (zR ?_)
       refine g9 _ (fun w' hw=>W1 (hw.blk hb6) rfl rfl) (zR ?_);rw [eab,eabc];refine a7i (l:=s) (a5L s (a+bb) (a+bb+c)) rfl rfl rfl rfl zo zo zo (by rw [Int.toNat_natCast,Int.toNat_natCast];rfl) (zR ?_)
       refine g9 _ (fun w' hw=>W1 (hw.blk hb6) rfl rfl) (zR ?_);rw [eab,eabc];refine a7i (l:=s) (a5L s (a+bb+c) (T)) rfl rfl rfl rfl zo zo zo (by rw [Int.toNat_natCast,Int.toNat_natCast];rfl) (zR ?_)
       refine g9 _ (fun w' hw=>W1 (hw.blk hb6) rfl rfl) (zR ?_);rw [n1];refine a7i (l:=s) (a5L s (T) (T+1)) rfl rfl rfl rfl zo zo zo (by rw [Int.toNat_natCast,Int.toNat_natCast];rfl) (zR ?_)
       refine g9 _ (fun w' hw=>W1 (hw.blk hb6) rfl rfl) (zR ?_);rw [n1];refine a7i (l:=s) (a5L s (T+1) (T+2)) rfl rfl rfl rfl zo zo zo (by rw [Int.toNat_natCast,Int.toNat_natCast];rfl) (zR ?_)
       refine g9 _ (fun w' hw=>W1 (hw.blk hb6) rfl rfl) (zR ?_);rw [epk];refine a7i (l:=s) (a5L s (T+2) (T+2+2*k)) rfl rfl rfl rfl zo zo zo (by rw [Int.toNat_natCast,Int.toNat_natCast];rfl) (zR ?_)
       intro w7 c7;refine zR ?_;have hq:c4z s a bb c d k=⟨a5L s 0 a,a5L s a (a+bb),a5L s (a+bb) (a+bb+c),a5L s (a+bb+c) T,a5L s T (T+1),a5L s (T+1) (T+2),a5L s (T+2) (T+2+2*k),[]⟩:=by rw [hT];rfl
       rw [hq] at hz;refine E6 elStr ((a9y s ⟨a5L s 0 a,a5L s a (a+bb),a5L s (a+bb) (a+bb+c),a5L s (a+bb+c) T,a5L s T (T+1),a5L s (T+1) (T+2),a5L s (T+2) (T+2+2*k),[]⟩).map s8) (by rw [Array.toList_map];rfl) (by simp [a9y,Value.cells,s8]) rfl zd zd (zR ?_)
       refine ⟨(cA.trans (cp.trans c7)).trans (Cl.alloc _ _),_,rfl,?_⟩;rw [c3m hz];exact (H9 B5 w7 (a9y s _) (Nat.le_of_ble_eq_true rfl) _ rfl).mono (by rw [hb0];exact Nat.le_trans s0 (cp.trans c7).size)
structure Nb (b B:Nat) (w w':World):Prop where
 os:w'.os=w.os
 tape:w'.tape=w.tape
 output:w'.output=w.output
 size:B≤w'.heap.size
 else_:∀ k,k<B→k≠b→w'.heap[k]?=w.heap[k]?
section nb
variable {b B:Nat} {w w' w2:World}
theorem Nb.refl (b:Nat) (hB:B≤w.heap.size):Nb b B w w:=⟨rfl,rfl,rfl,hB,fun _ _ _=>rfl⟩
theorem Nb.trans (h:Nb b B w w') (h2:Nb b B w' w2):Nb b B w w2 :=
 ⟨h2.os.trans h.os,h2.tape.trans h.tape,h2.output.trans h.output,h2.size,fun k hk hn=>(h2.else_ k hk hn).trans (h.else_ k hk hn)⟩
theorem Nb.upd {o:Obj} (u:Upd w b o w') (hB:B≤w.heap.size):Nb b B w w':=⟨u.os,u.tape,u.output,by rw [u.size];exact hB,fun k _ hn=>u.else_ k hn⟩
theorem Nb.cl (h:Cl w w') (hB:B≤w.heap.size):Nb b B w w':=⟨h.os,h.tape,h.output,Nat.le_trans hB h.size,fun k hk _=>h.block k (Nat.lt_of_lt_of_le hk hB)⟩
theorem Nb.blk (h:Nb b B w w') {k:Nat} {o:Obj} (hk:w.heap[k]?=some o) (hB:k<B) (hn:k≠b):w'.heap[k]?=some o:=by rw [h.else_ k hB hn];exact hk
theorem Nb.of (h:∀ w0:World,w0.heap.size=B→Cl w0 w→Cl w0 w') (hB:B≤w.heap.size):Nb b B w w':=by
 have e:(w.heap.extract 0 B).size=B:=by simp;omega
 have hc:Cl { w with heap:=w.heap.extract 0 B } w:=by
  refine ⟨rfl,rfl,rfl,?_,fun k hk=>?_⟩
  ·show (w.heap.extract 0 B).size≤_;omega
  ·have hk:k<(w.heap.extract 0 B).size:=hk;show w.heap[k]?=(w.heap.extract 0 B)[k]?;rw [Array.getElem?_extract,if_pos zo];simp
 have h2:=h _ e hc;refine ⟨h2.os,h2.tape,h2.output,by rw [← e];exact h2.size,fun k hk _=>?_⟩
 have:=h2.block k (by show k<(w.heap.extract 0 B).size;omega)
 rw [this];show (w.heap.extract 0 B)[k]?=_;rw [Array.getElem?_extract,if_pos zo];simp
end nb
structure Bw (b:Nat) (wr w:World) (l:Tx):Prop where
 is:∃ p v,(p = .pointer none∨p = .pointer (some ⟨b,0,none⟩))∧w.heap[b]?=some (.cells #[p,v] 160 (0,0))∧Row 5 1 a0r wr.heap.size w v l
 nb:Nb b wr.heap.size wr w
 lt:b<wr.heap.size
section bw
variable {b:Nat} {wr w w':World} {l:Tx}
theorem Bw.fresh (hk:w.heap[b]?=some (.cells #[.pointer none,.slice none 0 0] 160 (0,0))):Bw b w w []:=⟨⟨_,_,.inl rfl,hk,Row.nil _ _⟩,Nb.refl _ (Nat.le_refl _),N2 hk⟩
theorem Bw.step (h:Bw b wr w l) (c:Cl w w'):Bw b wr w' l:=by
 obtain ⟨p,v,hp,hk,hr⟩:=h.is;exact ⟨⟨p,v,hp,c.blk hk,hr.step c⟩,h.nb.trans (Nb.cl c h.nb.size),h.lt⟩
theorem b7v {p v:Value} (hk:w.heap[b]?=some (.cells #[p,v] 160 (0,0))) :
  Calls G.P 148 #[.pointer (some ⟨b,0,none⟩)] w (fun r w'=>r = .returned (.tuple #[])∧Upd w b (.cells #[.pointer none,.slice none 0 0] 160 (0,0)) w'):=by
 refine zN Tryz.func148 ?_;refine zR ?_;refine zT hk [.pointer none] fun w2 u2=>?_;refine zR ?_;refine J6 u2.at_ [.slice none 0 0] rfl zk rfl (by intro v hv;simp at hv;subst hv;rfl) (Nat.le_of_ble_eq_true rfl) fun w3 u3=>zR ?_
 exact ⟨rfl,u2.trans u3⟩
theorem A6 (s:Tx) (h:Bw b wr w l) (hl:l.length+s.length≤1000000) :
  Calls G.P 118 #[.pointer (some ⟨b,0,none⟩),s8 s] w (fun r w'=>r = .returned (.tuple #[.int .i64 s.length,.nilIface])∧Bw b wr w' (l++s)):=by
 obtain ⟨p,v,hp,hk,hr⟩:=h.is;have hs:(tx s).size=s.length:=C9 _;have hB:=h.nb.size;refine zN Tryz.func118 ?_;refine zR ?_;refine o8 (b0Y hp hk) ?_;rintro r w1 ⟨rfl,u1⟩;refine ⟨_,rfl,?_⟩;have hv:=hr.updT u1 hk zd;obtain ⟨av,cv,rfl,hav⟩:=hv.form;have hB1:wr.heap.size≤w1.heap.size:=by rw [u1.size];exact hB
 refine zR ?_;refine d6 _ (W1 u1.at_ rfl rfl) (zR ?_);refine a78 rfl hv rfl hl hB1 fun v' w2 hr2 hc2=>?_;have n2:Nb b wr.heap.size w1 w2:=Nb.of hc2 hB1;obtain ⟨a9,c9,rfl,_⟩:=hr2.form;have hk2:w2.heap[b]?=some (.cells #[.pointer (some ⟨b,0,none⟩),.slice av l.length cv] 160 (0,0)):=(Nb.of (b:=wr.heap.size) hc2 hB1).blk u1.at_ h.lt (Nat.ne_of_lt h.lt);refine zR ?_;refine zT hk2 [.slice a9 (l++s).length c9] fun w3 u3=>?_;refine zR ?_;rw [hs];exact ⟨rfl,⟨_,_,.inr rfl,u3.at_,hr2.updT u3 hk2 zd⟩,((h.nb.trans (Nb.upd u1 hB)).trans n2).trans (Nb.upd u3 n2.size),h.lt⟩
end bw
section gens
variable {dst:Option Nat} {ty:Nat} {pos:String} {af:Array Edge} {gd:Option (Nat×Bool)} {env:C0}
theorem c4Z {C:World→Prop} {K:Value→Prop} {x:Operand} {ts:Array Nat} {a:Addr} {n c:Nat} (hx:ev env x = .slice (some a) n c) (hc:c≠0) (h:K (.pointer (some a))) :
  b3X G.P C { dst,op:=.call { callee:=.builtin .unsafeSliceData,args:=#[x],argTypes:=ts },type:=ty,pos,after:=af,guard:=gd } env K:=by
 refine ⟨_,fun w _=>?_,h⟩;simp only [execOp,resolve,invoke,builtin,Sem.run_bind,Sem.run_pure,Result.andThen_ok,List.map_toArray,List.map_cons,List.map_nil,hx,Lib.run_unsafeSliceData_row _ _ _ _ _ _ hc]
theorem c6o:G.P.underlying 221=some (.pointer 5):=by kernel_rfl
theorem c5T {w:World} {K:Value→World→Prop} {x y:Operand} {g:Nat} {l:Tx} {cur:Array Value} {fz:Nat×Nat} (hx:ev env x = .pointer (some ⟨g,0,none⟩)) (hy:ev env y = .int .i64 l.length) (hl:l≠[]) (h6:l.length≤1000000) (hg:w.heap[g]?=some (.cells cur 5 fz)) (hlen:l.length≤cur.size) (hc:∀ (j:Nat) (x:UInt8),l[j]?=some x→cur[j]?=some (Value.int .u8 x.toNat)) (h:K (s8 l) (w.freeze ⟨g,0,none⟩ l.length)) :
  L5 G.P { dst,op:=.call { callee:=.builtin .unsafeString,args:=#[x,y],argTypes:=#[221,3] },type:=ty,pos,after:=af,guard:=gd } env w K:=by
 have h1:(Builtin.unsafeString_ #[221,3] ty #[.pointer (some ⟨g,0,none⟩),.int .i64 l.length]).run G.P w = .ok (.string ⟨l.toArray⟩) (w.freeze ⟨g,0,none⟩ l.length):=by
  refine Lib.run_unsafeString_row w 221 3 ty 5 c6o zk g cur.size (by simp [World.shape?,hg]) l hl hlen zo ?_
  intro j x hx;rw [G8,Nat.zero_add,C8 hg];exact hc j x hx
 refine ⟨.inl ⟨_,_,?_,h⟩⟩;simp only [execOp,resolve,invoke,builtin,Sem.run_bind,Sem.run_pure,Result.andThen_ok,List.map_toArray,List.map_cons,List.map_nil,hx,hy,h1];rfl
end gens
theorem c49 {w:World} {g n:Nat} {cur:Array Value} {t:Nat} {fz:Nat×Nat} (hg:w.heap[g]?=some (.cells cur t fz)):∃ fz',(w.freeze ⟨g,0,none⟩ n).heap[g]?=some (.cells cur t fz'):=by
 unfold World.freeze;split
 ·exact ⟨_,hg⟩
 ·obtain ⟨lo,hi⟩:=fz;simp [Array.getElem?_modify,hg]
theorem c5a {b:Nat} {wr w:World} {l:Tx} (h:Bw b wr w l) (hl:l≠[]) (h6:l.length≤1000000):∃ C:World→Prop,C w∧C w.drew∧(∀ w',C w'→Below wr.heap.size w w')∧∀ w',C w'→Calls G.P 124 #[.pointer (some ⟨b,0,none⟩)] w' (fun r w2=>r = .returned (s8 l)∧C w2):=by
 obtain ⟨p,v,hp,hk,hr⟩:=h.is;have hpos:0<l.length:=List.length_pos_iff.2 hl;obtain ⟨g,cap,cur,rfl,hg,hcap,hgb,hlc,hcc⟩:∃ g cap cur,v = .slice (some ⟨g,0,none⟩) l.length cap∧wr.heap.size≤g∧l.length≤cap∧w.heap[g]?=some (.cells cur 5 (0,0))∧l.length≤cur.size∧∀ (j:Nat) (x:UInt8),l[j]?=some x→cur[j]?=some (Value.int .u8 x.toNat):=by
  have hown:=b0Z.1 hr;rcases hr.2 with ⟨_,e⟩ | ⟨g,cap,cur,e,hg,hb,hle,_,hsz,_⟩
  ·omega
  ·subst e;refine ⟨g,cap,cur,rfl,hg,hle,hb,zo,fun j x hx=>?_⟩;have:=hown.cells (g:=g) rfl j (.int .u8 x.toNat) (by simp [Lib.byteCells,hx])
   rw [G8,Nat.zero_add,C8 hb] at this;exact this
 refine ⟨fun w'=>Below wr.heap.size w w'∧∃ fz,w'.heap[g]?=some (.cells cur 5 fz),⟨Below.refl _ _,_,hgb⟩,⟨Below.drew (Below.refl _ _),_,hgb⟩,fun w' hw=>hw.1,?_⟩;rintro w' ⟨hb',fz,hg'⟩;have hk':w'.heap[b]?=_:=(hb'.block b h.lt).trans hk;refine zN Tryz.func124 ?_;refine zR ?_;refine I8.mk1 ⟨10,Cl w',Cl.drew (Cl.refl _),zk,?_⟩;refine zR ?_;refine g9 _ (fun w' hw=>W1 (hw.blk hk') rfl rfl) (zR ?_);refine c4Z rfl zo (zR ?_);refine g9 _ (fun w' hw=>W1 (hw.blk hk') rfl rfl) (zR ?_);intro w2 c2;refine zR ?_;refine c5T rfl rfl hl h6 (c2.blk hg') hlc hcc (zR ?_);have hs':wr.heap.size≤w'.heap.size:=Nat.le_trans h.nb.size hb'.size;exact ⟨rfl,Lib.below_freeze (hb'.trans (c2.mono hs')) hg _,c49 (c2.blk hg')⟩
theorem a5U {b:Nat} {wr w:World} {l:Tx} (h:Bw b wr w l) (hl:l≠[]) (h6:l.length≤1000000):Calls G.P 124 #[.pointer (some ⟨b,0,none⟩)] w (fun r w'=>r = .returned (s8 l)∧Below wr.heap.size w w'):=by
 obtain ⟨C,h0,_,h2,h3⟩:=c5a h hl h6;exact (h3 w h0).mono fun _ _ hr=>⟨hr.1,h2 _ hr.2⟩
theorem b21 (p:A3):IntKind.i64.wrap (statusOf p)=statusOf p:=by
 have:statusOf p=0∨statusOf p=1∨statusOf p=4:=by
  unfold statusOf;split
  ·exact .inl rfl
  ·split
   ·exact .inr (.inl rfl)
   ·exact .inr (.inr rfl)
 rcases this with e | e | e<;>(rw [e];rfl)
set_option maxHeartbeats 2000000 in
theorem c2i {p:A3} (hI:B7 p) (hN:a1z p) (hle:(z8 p).length≤218) {P b P2 b2 M G0 n0 k0:Nat} {ad:Addr} {d:Nd} {g:Gm} {cv2:Value} (hm:d.mv∈y8 p) (htg:(d.tags:Int)=told p d.mv) (hI2:B7 (made p d.mv)) (hN2:a1z (made p d.mv)) (hle2:(z8 (made p d.mv)).length≤218)
  (hgm:g.meth<256) (w:World) (hT:C1 w) (hw:Pow w) (hP:H0 w P b p (.slice (some ad) n0 k0)) (hM:w.heap[M]?=some (.cells (F0 d) 141 (0,0))) (hb:w.heap[G0]?=some (.cells (gmA g) 131 (0,0))) (hgP:g.P=P2) (hP2:H0 w P2 b2 (made p d.mv) cv2) :
  Calls G.P 46 #[.pointer (some ⟨P,0,none⟩),.pointer (some ⟨M,0,none⟩),.pointer (some ⟨G0,0,none⟩)] w (K4 (stV (stepOf p d.mv ((g.meth:Int),g.out))) w):=by
 obtain ⟨f0,f1,t0,t1,hpm⟩:=L4 hI hm;obtain ⟨_,_,h64⟩:=a0s htg;have hbt:=b3B ⟨d.mv,told p d.mv,sanT p d.mv,lanT p d.mv,uciT d.mv,fenT (made p d.mv),xfenT (made p d.mv),made p d.mv,g.out,(g.meth:Int),statusOf (made p d.mv)⟩;have hun:stepOf p d.mv ((g.meth:Int),g.out)=⟨d.mv,told p d.mv,sanT p d.mv,lanT p d.mv,uciT d.mv,fenT (made p d.mv),xfenT (made p d.mv),made p d.mv,g.out,(g.meth:Int),statusOf (made p d.mv)⟩:=by unfold stepOf;rfl
 have hst:stV (stepOf p d.mv ((g.meth:Int),g.out)) = .agg (stL ⟨d.mv,told p d.mv,sanT p d.mv,lanT p d.mv,uciT d.mv,fenT (made p d.mv),xfenT (made p d.mv),made p d.mv,g.out,(g.meth:Int),statusOf (made p d.mv)⟩).toArray:=by rw [hun];rfl
 have hone:=a4g (stepOf p d.mv ((g.meth:Int),g.out));have hlen:=U8 (stepOf p d.mv ((g.meth:Int),g.out));rw [hun] at hone hlen;rw [hst];clear hst hun;have etag:IntKind.i64.wrap (d.tags:Int)=told p d.mv:=by rw [← htg];exact g7 zo zo
 have emeth:IntKind.i64.wrap (g.meth:Int)=(g.meth:Int):=g7 zo zo;have estat:=b21 (made p d.mv);have q1:=fun w' (c:Cl w w')=>a7U (c.blk hM) zo zo zo zo zo zo;have q2:=fun w' (c:Cl w w')=>b3W (c.blk hM);have q3:=fun w' (c:Cl w w')=>b0X hI hN hle hm id htg w' (hT.cl c) (hP.step c) (c.blk hM);have q4:=fun w' (c:Cl w w')=>b1b hI hN hle hm id htg w' (hT.cl c) (hP.step c) (c.blk hM);rw [b88 hI hm htg] at q3;rw [b89 hI hm htg] at q4;have q5:=fun w' (c:Cl w w')=>b1a (P:=P) f0 f1 t0 t1 ⟨zo,zo⟩ w' (c.blk hM) _ rfl;have q6:=fun w' (c:Cl w w')=>c18 (c.blk hb) hI2 hN2 (hT.cl c) (hw.cl c) (by rw [hgP];exact c.blk hP2.hd) (c.blk hP2.bd)
 have q7:=fun w' (c:Cl w w')=>b1y hI2 hN2 w' (hT.cl c) (hw.cl c) (c.blk hP2.hd) (c.blk hP2.bd);have q8:=fun w' (c:Cl w w')=>b9E hI2 w' (hT.cl c) (c.blk hP2.hd) (c.blk hP2.bd);have q9:=fun w' (c:Cl w w')=>a8E hI2 w' (hT.cl c) (hP2.step c);obtain ⟨zs,hzs,hz81⟩:=zSt;generalize stL ⟨d.mv,told p d.mv,sanT p d.mv,lanT p d.mv,uciT d.mv,fenT (made p d.mv),xfenT (made p d.mv),made p d.mv,g.out,(g.meth:Int),statusOf (made p d.mv)⟩=S at *;generalize made p d.mv=q at *;generalize told p d.mv=Q1 at *;generalize sanT p d.mv=Q2 at *;generalize lanT p d.mv=Q3 at *;generalize uciT d.mv=Q4 at *;generalize fenT q=Q5 at *;generalize xfenT q=Q6 at *;generalize statusOf q=Q7 at *;refine zN Tryz.func46 ?_;refine zR ?_;refine t7 zs hzs ?_;have c1:=Cl.alloc w (.cells zs.cells 39);have nB:=d8 w (.cells zs.cells 39);generalize w.alloc (.cells zs.cells 39)=w1 at *;refine zR ?_;refine d9 (b6R (c1.blk hb)) ?_;rw [hgP];refine zR ?_;refine m9 (q1 w1 c1) fun w2 c2=>?_;have c02:=c1.trans c2;have nB:=c2.blk nB;refine zR ?_;refine d9 (q2 w2 c02) (zR ?_);rw [etag];refine s9 #[] zk (zR ?_);refine m9 (q3 w2 c02) fun w3 c3=>?_;have c03:=c02.trans c3;have nB:=c3.blk nB;refine zR ?_;refine s9 #[] zk (zR ?_);refine m9 (q4 w3 c03) fun w4 c4=>?_;have c04:=c03.trans c4;have nB:=c4.blk nB;refine zR ?_;refine s9 #[] zk (zR ?_);refine m9 (q5 w4 c04) fun w5 c5=>?_;have c05:=c04.trans c5;have nB:=c5.blk nB;refine zR ?_;refine m9 (q6 w5 c05) fun w6 c6=>?_;have c06:=c05.trans c6;have nB:=c6.blk nB;refine zR ?_;refine m9 (q7 w6 c06) fun w7 c7=>?_;have c07:=c06.trans c7;have nB:=c7.blk nB;refine zR ?_;refine m9 (q8 w7 c07) fun w8 c8=>?_;have c08:=c07.trans c8;have nB:=c8.blk nB;refine zR ?_;refine d9 (c1w (c08.blk hb)) (zR ?_);refine d9 (b9G (c08.blk hb)) (zR ?_);rw [emeth];refine m9 (q9 w8 c08) fun w9 c9=>?_;have c09:=c08.trans c9;have nB:=c9.blk nB;refine zR ?_;rw [estat];refine s9 S.toArray hbt (zR ?_);refine J6 nB S rfl c1T hlen hone (by rw [hz81];omega) (fun w10 u10=>?_)
 have hR:w10.heap[w.heap.size]?=some (.cells S.toArray 39 (0,0)):=by
  rw [u10.at_,C5 _ _ (by rw [hlen,hz81])]
 refine zR ?_;refine d6 (.agg S.toArray) ?_ ?_
 ·have:=ldA (t:=39) (o:=0) (z:=81) hR rfl (by simp [hlen])
  rw [show S.toArray.extract 0 (0+81)=S.toArray by
   have:S.toArray.size=81:=by simp [hlen]
   rw [← this];simp] at this
  exact this
 refine zR ?_;exact ⟨rfl,u10.cl c09 (Nat.le_refl _)⟩
end
section
open Go Go.RowKit
open E
structure c2u (w:World) (e:C0) (t1 t2 t3:Nat) (y1 y2 y3:Nat) (v1 v2 v3:Value):Prop where
 a:∃ a,e t1 = .pointer (some a)∧l8 G.P w y1 a v1
 b:∃ a,e t2 = .pointer (some a)∧l8 G.P w y2 a v2
 c:∃ a,e t3 = .pointer (some a)∧l8 G.P w y3 a v3
theorem a5D {w:World} {t:Nat} {a:Addr} {v:Value} (h:l8 G.P w t a v):(loadVar t a).run G.P w = .ok v w:=by
 unfold l8 Instr.loadAt at h;simp [Instr.sureAddr] at h;exact h
theorem b1w {fn:Func} {t1 t2 t3 y1 y2 y3:Nat} (hr:fn.results=#[.cell t1 y1,.cell t2 y2,.cell t3 y3]) {a:Act} {w:World} {v1 v2 v3:Value} (h:c2u w (s7 a) t1 t2 t3 y1 y2 y3 v1 v2 v3) :
  (results fn a.tmps).run G.P w = .ok (.tuple #[v1,v2,v3]) w:=by
 obtain ⟨⟨a1,e1,l1⟩,⟨a2,e2,l2⟩,a3,e3,l3⟩:=h;have e1:a.tmps[t1]?.getD undef = .pointer (some a1):=by rw [← Array.getD_eq_getD_getElem?];exact e1
 have e2:a.tmps[t2]?.getD undef = .pointer (some a2):=by rw [← Array.getD_eq_getD_getElem?];exact e2
 have e3:a.tmps[t3]?.getD undef = .pointer (some a3):=by rw [← Array.getD_eq_getD_getElem?];exact e3
 simp [results,hr,e1,e2,e3,asAddr,a5D l1,a5D l2,a5D l3]
def c2v (f:Nat) (cap:Array Value):Prop:=∀ w,CallsD G.P f cap .returning w fun e u' w'=>e = .returned (.tuple #[])∧u' = .returning∧w'=w
theorem b22 {f:Nat} {fn:Func} {A B:Code} {i:Nat} {mk df:Oper} {args:List Value} {w:World} {R:Ending→World→Prop} {fc t t1 t2 t3 y1 y2 y3:Nat} {caps:Array Operand}
  (hf:G.P.funcs[f]?=some fn) (hb:fn.body=some (.seq A (.seq (.region i #[mk,df] false) B))) (hn:args.length≤fn.ntmps) (hkA:P7 fn.ntmps A=true) (hkB:P7 fn.ntmps B=true) (ht:t<fn.ntmps)
  (hmg:mk.guard=none) (hmo:mk.op = .makeFunc (.func fc) #[] caps) (hmd:mk.dst=some t) (hdg:df.guard=none) (hdo:df.op = .defer { callee:=.value (.tmp t),args:=#[],argTypes:=#[] }) (hdd:df.dst=none)
  (hfc:G.fn fc=true) (hid:∀ a b c,c2v fc #[a,b,c]) (hr:fn.results=#[.cell t1 y1,.cell t2 y2,.cell t3 y3])
  (h:vc G A (a8o args) w (fun x e w1=>x = .normal∧∃ a b c:Value,(caps.map (ev e)).toList=[a,b,c]∧vc G B (upd e t (.func (.func fc) #[] #[a,b,c])) w1 (fun x e w2=>(x = .normal∨x = .ret)∧∃ v1 v2 v3,c2u w2 e t1 t2 t3 y1 y2 y3 v1 v2 v3∧R (.returned (.tuple #[v1,v2,v3])) w2))) :
  Calls G.P f args.toArray w R:=by
 refine calls_of_wp_defers hf hb ?_;have hsz:(args.toArray++Array.replicate (fn.ntmps-args.toArray.size) undef).size=fn.ntmps:=by simp;omega
 have henv:s7 { tmps:=args.toArray++Array.replicate (fn.ntmps-args.toArray.size) undef,defers:=[] }=a8o args:=by
  funext t;unfold s7 a8o;rw [b3f];simp only [Array.getD_eq_getD_getElem?,List.getD_eq_getElem?_getD];by_cases ht:t<args.length
  ·rw [Array.getElem?_append_left (by simpa using ht)];simp
  ·rw [Array.getElem?_append_right (by simpa using ht)]
   rw [List.getElem?_eq_none zo];simp only [Option.getD_none];cases hx:(Array.replicate (fn.ntmps-args.toArray.size) undef)[t-args.toArray.size]? with
   | none=>rfl
   | some v =>
    have:=Array.getElem?_eq_some_iff.1 hx;obtain ⟨h1,h2⟩:=this;simp at h2;simp [h2]
 refine wp_seq ?_;refine a6R (G:=G) (N:=fn.ntmps) (ds:=[]) A _ _ ?_ hkA _ w hsz rfl (by rw [henv];exact h)
 rintro x a w1 hs hd ⟨rfl,q1,q2,q3,hcap,hB⟩;show Code.wp G.P (.seq (.region i #[mk,df] false) B) _ a w1;refine wp_seq (wp_region_list ?_);have hcap:caps.map (ev (s7 a))=#[q1,q2,q3]:=Array.toList_inj.1 hcap;obtain ⟨fnc,c1,c2,c3⟩:=G.enters fc hfc;have hmx:(execOp a.eval mk).run G.P w1 = .ok (.value (.func (.func fc) #[] (caps.map (ev (s7 a))))) w1:=by
  obtain ⟨d,o,ty,ps,af,g⟩:=mk;simp only at hmo hmg hmd;subst hmo;rw [S0];simp [execOp,Instr.makeFunc]
 obtain ⟨a1,ha1⟩:∃ a1:Act,a1=a.put (some t) (.func (.func fc) #[] (caps.map (ev (s7 a)))):=⟨_,rfl⟩;have hs1:a1.tmps.size=fn.ntmps:=by rw [ha1,a1e,hs]
 have hd1:a1.defers=[]:=by rw [ha1,W5,hd]
 have he1:s7 a1=upd (s7 a) t (.func (.func fc) #[] (caps.map (ev (s7 a)))):=by rw [ha1];exact a8i _ (by rw [hs];exact ht)
 have hdx:(execOp a1.eval df).run G.P w1 = .ok (.defer { target:=.fn (.func fc) (caps.map (ev (s7 a))),args:=#[] }) w1:=by
  obtain ⟨d,o,ty,ps,af,g⟩:=df;simp only at hdo hdg hdd;subst hdo;rw [S0,he1];simp [execOp,resolve,ev,b5y,Deferred.ofValue]
 have hw1:Region.wanted mk (yielded #[mk,df] a.tmps)=true:=by unfold Region.wanted;rw [hmg]
 have hw2:Region.wanted df (yielded #[mk,df] a1.tmps)=true:=by unfold Region.wanted;rw [hdg]
 show wpList G.P #[mk,df] _ [mk,df] a w1;unfold wpList;rw [if_pos hw1];refine .inl ?_;unfold Oper.wp;rw [hmx,Oper.upon_value,hmd,← ha1];unfold wpList;rw [if_pos hw2];refine .inl ?_;unfold Oper.wp;rw [hdx,Oper.upon_defer,hdd];unfold wpList;have hs2:({ a1 with defers:={ target:=.fn (.func fc) (caps.map (ev (s7 a))),args:=#[] }::a1.defers }:Act).put none undef={ a1 with defers:=[{ target:=.fn (.func fc) (caps.map (ev (s7 a))),args:=#[] }] }:=by rw [hd1];rfl
 rw [hs2];show Code.wp G.P B _ _ w1;refine a6R (G:=G) (N:=fn.ntmps) (ds:=[{ target:=.fn (.func fc) (caps.map (ev (s7 a))),args:=#[] }]) B _ _ ?_ hkB _ w1 hs1 rfl (by
  have:s7 { a1 with defers:=[{ target:=.fn (.func fc) (caps.map (ev (s7 a))),args:=#[] }] }=s7 a1:=rfl;rw [this,he1,hcap];exact hB)
 rintro x a' w2 hs' hd' ⟨hx,v1,v2,v3,h3,hR⟩;have hL:Leaves G.P fn a'.tmps R a'.defers .returning w2:=by
  rw [hd'];refine leaves_cons (f:=fc) (args:=#[]++caps.map (ev (s7 a))) (by simp) ?_ ?_
  ·simp [invoke,callFunc,c1,c3];cases hbd:fnc.body with
   | none=>rw [hbd] at c2;cases c2
   | some c=>simp
  ·rw [Array.empty_append];rw [hcap];refine (hid _ _ _ w2).mono ?_;rintro e u' w3 ⟨rfl,rfl,rfl⟩;exact ⟨_,b1w hr h3,hR⟩
 rcases hx with rfl | rfl
 ·exact hL
 ·exact hL
end
section
open Go Go.RowKit
open E
open Ch Bb
theorem b5j (a b c:Value):c2v 41 #[a,b,c]:=by
 intro w;refine callsD_of_wpS (P:=Tryz.prog) Tryz.func41 rfl fun c₀ cs hu=>?_;apply wpS_seq;apply wpS_region;simp [wpOpsS,go_sem,recoverD,hu,Tryz.ntmps41,Exit.thenS];refine wpS_cond (t:=false) (by simp [Act.eval,Array.replicate]) ?_
 simp only [Bool.false_eq_true,if_false];refine wpS_of_wp (wp_skip ?_);cases c₀;simp_all [bodyPostS,results,Tryz.results41]
theorem Row.frT {α:Type} {enc:α→List Value} {e z b0:Nat} {S:List Nat} {w w':World} {v:Value} {l:List α} (h:Row e z enc b0 w v l) (hf:Fr S w w') (hS:∀ k∈S,∃ cs t fz,w.heap[k]?=some (.cells cs t fz)∧e≠t):Row e z enc b0 w' v l:=by
 refine ⟨h.1,?_⟩;rcases h.2 with h2 | ⟨g,cap,cur,h1,h2,h3,h4⟩
 ·exact .inl h2
 ·refine .inr ⟨g,cap,cur,h1,h2,hf.blk h3 fun hm=>?_,h4⟩;obtain ⟨cs,t,fz,hb,hne⟩:=hS g hm;exact J4 h3 hb hne rfl
theorem Fr.toCl {S:List Nat} {w0 w w':World} (h:Fr S w w') (hS:∀ k∈S,w0.heap.size≤k) (c:Cl w0 w):Cl w0 w' :=
 ⟨h.os.trans c.os,h.tape.trans c.tape,h.output.trans c.output,Nat.le_trans c.size h.size,fun k hk=>(h.else_ k (Nat.lt_of_lt_of_le hk c.size) (fun hm=>by have:=hS k hm;omega)).trans (c.block k hk)⟩
def KT (T:Nat) (w w':World):Prop:=∀ (k:Nat) (cs:Array Value) (t:Nat),t≠T→w.heap[k]?=some (.cells cs t (0,0))→w'.heap[k]?=some (.cells cs t (0,0))
section kt
variable {T:Nat} {w w':World} (hk:KT T w w')
include hk
theorem KT.row {α:Type} {enc:α→List Value} {e z b0:Nat} {v:Value} {l:List α} (h:Row e z enc b0 w v l) (he:e≠T):Row e z enc b0 w' v l:=by
 refine ⟨h.1,?_⟩;rcases h.2 with h2 | ⟨g,cap,cur,h1,h2,h3,h4⟩
 ·exact .inl h2
 ·exact .inr ⟨g,cap,cur,h1,h2,hk _ _ _ he h3,h4⟩
theorem KT.posM {P b:Nat} {p:A3} {cv:Value} (h:H0 w P b p cv) (h1:173≠T) (h2:237≠T) (h3:141≠T):H0 w' P b p cv :=
 ⟨hk _ _ _ h1 h.hd,hk _ _ _ h2 h.bd,h.ca.elim .inl fun h=>.inr (hk.row h h3)⟩
theorem KT.chn (h1:173≠T) (h2:237≠T) (h3:141≠T) (h4:85≠T):∀ {l:List O4},Chn w l→Chn w' l
 | [],_=>trivial
 | n::l,⟨a1,a2,a3,a4,a5⟩=>by
  refine ⟨hk _ _ _ h3 a1,a2,?_,hk.posM a4 h1 h2 h3,KT.chn h1 h2 h3 h4 a5⟩;cases l with
  | nil=>exact a3
  | cons m r=>exact hk.row (show Row 85 1 O8 0 w n.d.kids [m.M] from a3) h4
theorem KT.game {G0:Nat} {g:Gm} {L:List O4} {z:O4} (h:K3 w G0 g L z) (h0:131≠T) (h1:173≠T) (h2:237≠T) (h3:141≠T) (h4:85≠T):K3 w' G0 g L z :=
 ⟨hk _ _ _ h0 h.hb,h.cur,h.pos,h.root,hk.chn h1 h2 h3 h4 h.chn,h.kids,h.off,h.zcv,h.dis,h.mo⟩
end kt
theorem KT.upd {T b:Nat} {o:Obj} {w w':World} {cs:Array Value} {fz:Nat×Nat} (u:Upd w b o w') (hb:w.heap[b]?=some (.cells cs T fz)):KT T w w':=fun k c t ht h=>(Tn.upd u).blk h (J4 h hb ht)
theorem KT.grow {α:Type} {enc:α→List Value} {e z b0 b1:Nat} {w w':World} {v v':Value} {l:List α} (hr:Row e z enc b1 w v l) (hg:a8b b0 w v w' v'):KT e w w':=fun k c t ht h=>by
 refine hg.keep _ _ h fun hv=>?_;rcases hr.2 with ⟨h1,_⟩ | ⟨g,cap,cur,h1,h2,h3,h4⟩
 ·rw [h1] at hv;cases hv
 ·rw [h1] at hv;injection hv with hv;subst hv;exact ht (Obj.cells.inj (Option.some.inj (h.symm.trans h3))).2.1
theorem a4n {p:A3} {ms:List Mv} (h:quiet p ms=true):(y8 p).length≤218:=by
 cases ms with
 | nil=>exact of_decide_eq_true h
 | cons m r =>
  unfold quiet at h;simp only [Bool.and_eq_true] at h;exact of_decide_eq_true h.1
theorem b2R {p:A3} {m:Mv} {r:List Mv} (h:quiet p (m::r)=true) (hl:isLegal p m=true):a0v p m=true∧quiet (made p m) r=true:=by
 unfold quiet at h;rw [hl] at h;simp only [Bool.and_eq_true,Bool.not_true,Bool.false_or] at h;exact h.2
theorem a8g {l:List A3} {p:A3} {m0 m:Nat} {o0 o:Tx} (h:((m:Int),o)=a0k l p ((m0:Int),o0)) (h0:m0≤9):m≤9:=by
 have e:=congrArg Prod.fst h;have:0≤(a0k l p ((m0:Int),o0)).1∧(a0k l p ((m0:Int),o0)).1≤9:=by
  unfold a0k;simp only
  repeat' split
  all_goals exact ⟨by simp only;omega,by simp only;omega⟩
 simp only at e;omega
theorem Chn.mem {w:World}:∀ {l:List O4},Chn w l→∀ n∈l,H0 w n.P n.b n.p n.cv
 | [],_,_,h=>by cases h
 | n::l,⟨_,_,_,h4,h5⟩,x,hx=>by
  rcases List.mem_cons.1 hx with e | hx
  ·rw [e];exact h4
  ·exact Chn.mem h5 x hx
set_option maxHeartbeats 4000000 in
theorem b23 {p:A3} (hI:B7 p) (hh:p.half≤1000000) (hf:p.full≤1000000) (ms:List Mv) (hms:∀ m∈ms,MvR m) (hq:quiet p ms=true) (hn:ms.length≤80) (usual:Bool) (hu:usual=true→p=a22) {v:Value} (w:World) (hT:C1 w) (hS:Spc w) (hw:Pow w) (hrow:a2a w v ms) :
  Calls G.P 14 #[s8 (if usual then [] else fenT p),v] w (fun r w'=>∃ u,r = .returned (.tuple #[u,.int .i64 ((storyOf p (!usual) ms).length:Nat),.bool true])∧Row 39 81 stL w.heap.size w' u (storyOf p (!usual) ms)∧Cl w w'):=by
 obtain ⟨al,cl,rfl,hal⟩:=hrow.form;obtain ⟨zm,hzm,hzm3⟩:=c2Y;have hle:=a4a hI;have hq0:=a4n hq;have hbg:=fun w hT hS=>b9f hI zo zo zo usual hu w hT hS;have hst0:storyOf p (!usual) ms=story [p] p (if (!usual)=true then a0k [p] p (0,a5e) else (0,a5e)) ms:=rfl
 generalize storyOf p (!usual) ms=S at *;generalize (if usual then ([]:Tx) else fenT p)=T at *
 refine b22 (fc:=41) (t:=13) (t1:=4) (t2:=5) (t3:=6) (y1:=28) (y2:=3) (y3:=4) (args:=[s8 T,.slice al ms.length cl]) Tryz.func14 rfl (by simp [Tryz.ntmps14]) zk zk (by simp [Tryz.ntmps14]) rfl rfl rfl rfl rfl rfl zk b5j rfl (zR ?_)
 refine t7 (.slice none 0 0) zk ?_;have ca:=Cl.alloc w (.cells (Value.slice none 0 0).cells 28);have na:(w.alloc (.cells (Value.slice none 0 0).cells 28)).heap[w.heap.size]?=some (.cells #[.slice none 0 0] 28 (0,0)):=d8 w _;have sa:=y9 w (.cells (Value.slice none 0 0).cells 28);generalize w.alloc (.cells (Value.slice none 0 0).cells 28)=w1 at *;refine zR ?_;refine t7 (.int .i64 0) zk ?_;have cb:=ca.trans (Cl.alloc w1 (.cells (Value.int .i64 0).cells 3));have na:=(Cl.alloc w1 (.cells (Value.int .i64 0).cells 3)).blk na;have nb:(w1.alloc (.cells (Value.int .i64 0).cells 3)).heap[w1.heap.size]?=some (.cells #[.int .i64 0] 3 (0,0)):=d8 w1 _;have sb:=y9 w1 (.cells (Value.int .i64 0).cells 3);generalize w1.alloc (.cells (Value.int .i64 0).cells 3)=w2 at *;refine zR ?_;refine t7 (.bool false) zk ?_;have cc:=cb.trans (Cl.alloc w2 (.cells (Value.bool false).cells 4));have na:=(Cl.alloc w2 (.cells (Value.bool false).cells 4)).blk na;have nb:=(Cl.alloc w2 (.cells (Value.bool false).cells 4)).blk nb;have nc:(w2.alloc (.cells (Value.bool false).cells 4)).heap[w2.heap.size]?=some (.cells #[.bool false] 4 (0,0)):=d8 w2 _;have sc:=y9 w2 (.cells (Value.bool false).cells 4);generalize w2.alloc (.cells (Value.bool false).cells 4)=w3 at *;obtain ⟨Ra,hRa⟩:∃ R,R=w.heap.size:=⟨_,rfl⟩;obtain ⟨Rb,hRb⟩:∃ R,R=w1.heap.size:=⟨_,rfl⟩;obtain ⟨Rc,hRc⟩:∃ R,R=w2.heap.size:=⟨_,rfl⟩;have hab:Ra<Rb:=by omega
 have hbc:Rb<Rc:=by omega
 rw [← hRa] at na;rw [← hRb] at nb;rw [← hRc] at nc;rw [← hRa,← hRb,← hRc];clear ca cb sa sb sc;refine zR ?_;refine ⟨rfl,.pointer (some ⟨Ra,0,none⟩),.pointer (some ⟨Rb,0,none⟩),.pointer (some ⟨Rc,0,none⟩),by rw [Array.toList_map];rfl,?_⟩
 refine zR ?_;refine o8 (hbg w3 (hT.cl cc) (hS.cl cc)) ?_;rintro e w4 ⟨G0,rfl,⟨⟨g,z,hG,hzp,hzM,hzP,hmo⟩,c4,sG⟩⟩;refine ⟨_,rfl,?_⟩;have c04:=cc.trans c4;have s3:=cc.size;have na:=c4.blk na;have nb:=c4.blk nb;have nc:=c4.blk nc;rw [← hmo] at hst0;have hst1:([]:List Ch.a0A)++story (([]++[z]).map O4.p) z.p ((g.meth:Int),g.out) (ms.drop 0)=S:=by rw [hst0,← hzp];rfl
 have hm9:g.meth≤9:=by
  have e:=congrArg Prod.fst hmo;simp only at e;cases usual with
  | true=>rw [if_neg zd] at e;simp only at e;omega
  | false =>
   rw [if_pos (by rfl)] at e
   have:=a8g (l:=[p]) (p:=p) (m0:=0) (o0:=a5e) (m:=g.meth) (o:=(a0k [p] p (0,a5e)).2) (by
    show ((g.meth:Int),(a0k [p] p (0,a5e)).2)=a0k [p] p (0,a5e);rw [e]) zo
   exact this
 have hIz:Ch.B7 z.p:=by rw [hzp];exact hI
 have hNz:Ng z.p 0:=by rw [hzp];exact ⟨zo,zo⟩
 have hqz:quiet z.p (ms.drop 0)=true:=by rw [hzp];exact hq
 clear hst0 hmo hbg hzp hle hq0 hq hh hf hu hI hS;refine zR ?_;refine I1 true (F8 rfl) (zR ?_);refine A9 (σ:=Nat×List O4×O4×Gm×List Ch.a0A×Value) [10,11,12,23] 24 (fun s=>[(23,.int .i64 s.1)])
  (fun s w'=>s.1≤ms.length∧K3 w' G0 s.2.2.2.1 s.2.1 s.2.2.1∧s.2.1.length=s.1∧Ch.B7 s.2.2.1.p∧Ng s.2.2.1.p s.1∧quiet s.2.2.1.p (ms.drop s.1)=true∧(∀ n∈s.2.1++[s.2.2.1],Ch.B7 n.p)∧w.heap.size≤s.2.2.1.M∧w.heap.size≤s.2.2.1.P∧s.2.2.2.1.meth≤9
  ∧s.2.2.2.2.1++story ((s.2.1++[s.2.2.1]).map O4.p) s.2.2.1.p ((s.2.2.2.1.meth:Int),s.2.2.2.1.out) (ms.drop s.1)=S∧s.2.2.2.2.1.length=s.1∧Row 39 81 stL w.heap.size w' s.2.2.2.2.2 s.2.2.2.2.1
  ∧w'.heap[Ra]?=some (.cells #[s.2.2.2.2.2] 28 (0,0))∧w'.heap[Rb]?=some (.cells #[.int .i64 0] 3 (0,0))∧w'.heap[Rc]?=some (.cells #[.bool false] 4 (0,0))∧Cl w w') (fun s=>ms.length-s.1) zk
  (0,[],z,g,[],.slice none 0 0) ⟨Nat.zero_le _,hG,rfl,hIz,hNz,hqz,fun n hn=>by rw [List.mem_singleton.1 hn];exact hIz,Nat.le_trans s3 hzM,Nat.le_trans s3 hzP,hm9,hst1,rfl,Row.nil _ _,na,nb,nc,c04⟩ ⟨rfl,trivial⟩ ?_
 clear hG hIz hNz hqz hzM hzP hm9 hst1 na nb nc c04 c4;rintro ⟨i,L,z,g,O,vr⟩ j w5 ⟨hi,hG,hLl,hIz,hNz,hqz,hJ,hzM,hzP,hm9,hst,hOl,hR,na,nb,nc,c5⟩;simp only at hi hG hLl hIz hNz hqz hJ hzM hzP hm9 hst hOl hR na nb nc c5 ⊢;obtain ⟨av,kv,rfl,_⟩:=hR.form;have ni:=C2 (i:=i) zo;refine zR ?_;apply E.b7<;>intro h
 ·have hil:i<ms.length:=by omega
  clear h;obtain ⟨gm,og,rfl⟩:=hal zo;rw [List.drop_eq_getElem_cons hil] at hst hqz;rw [a2z] at hst;have hmr:=hms _ (List.getElem_mem hil);have hld:∀ w',Cl w w'→l8 G.P w' 36 ⟨gm,E.W6 og ((i:Int)).toNat 3,none⟩ (G5 ms[i]):=fun w' h'=>(hrow.step h').ld i hil;generalize ms[i]=m at *;have hN:=(hNz.nm zo).nums;have hle:=a4a hIz;have hq0:=a4n hqz;have hle:(z8 z.p).length≤218:=by omega
  have hpos:=hG.pos;refine zR ?_;refine zC ?_;refine zR ?_;refine d6 _ (hld _ c5) (zR ?_);refine t7 zm hzm ?_;have d1:=Cl.alloc w5 (.cells zm.cells 36);have nm1:=d8 w5 (.cells zm.cells 36);generalize w5.alloc (.cells zm.cells 36)=w6 at *;refine zR ?_;refine J6 nm1 (E9 m) rfl b1M rfl (I3 _) (by rw [hzm3];decide) (fun w7 u7=>?_)
  have nm7:w7.heap[w5.heap.size]?=some (.cells (K2 m) 36 (0,0)):=by rw [u7.at_,C5 _ _ (by rw [hzm3];rfl)];rfl
  have d7:Cl w5 w7:=u7.cl d1 (Nat.le_refl _);clear nm1 u7 d1;have c7:=c5.trans d7;have hG7:=hG.step d7;refine zR ?_;refine d9 (b6R hG7.hb) (zR ?_);refine d6 _ (P9 nm7) (zR ?_);refine o8 (c0Z hIz hle hmr w7 (hT.cl c7) hG7.posM) ?_;rintro r w8 ⟨cv',hP8,n8,hr8,hfound,hown⟩;rw [hpos] at n8 hP8;have c8:=n8.toCl c7 hzP;have hzb:=hG7.chn.last.2.2.hd;have na7:=d7.blk na;have nb7:=d7.blk nb;have nc7:=d7.blk nc;have na8:=n8.blk na7 (J4 na7 hzb zd);have nb8:=n8.blk nb7 (J4 nb7 hzb zd);have nc8:=n8.blk nc7 (J4 nc7 hzb zd);have hR8:=(hR.step d7).tnT n8 hzb zd;have hlt:=hG7.chn.lt;have hG8:=hG7.recv n8 hP8 (fun k hk=>(hown k hk).1);rcases hfound with ⟨hno,rfl⟩ | ⟨M,x,hx,hxm,rfl,hMs,hM8⟩
  ·refine ⟨_,rfl,?_⟩;rw [if_neg (by simp [isLegal,hno])] at hst
   have hO:O=S:=by rw [← hst,List.append_nil]
   refine zR ?_;refine W3 true (N1 rfl _) (zR ?_);refine d6 _ (W1 (v:=.slice av O.length kv) na8 rfl rfl) (zR ?_);refine d6 _ (W1 (v:=.slice av O.length kv) na8 rfl rfl) (zR ?_);refine zT na8 [.slice av O.length kv] fun w9 u9=>?_;refine zR ?_;refine zT ((Tn.upd u9).blk nb8 zo) [.int .i64 O.length] fun w10 u10=>?_;refine zR ?_;refine J6 ((Tn.upd u10).blk ((Tn.upd u9).blk nc8 zo) zo) [.bool true] rfl zk rfl (by intro v hv;simp at hv;subst hv;rfl) (Nat.le_of_ble_eq_true rfl) fun w11 u11=>zR ?_
   have ka:w11.heap[Ra]?=some (.cells #[.slice av O.length kv] 28 (0,0)):=(Tn.upd u11).blk ((Tn.upd u10).blk u9.at_ zo) zo;have kb:w11.heap[Rb]?=some (.cells #[.int .i64 O.length] 3 (0,0)):=(Tn.upd u11).blk u10.at_ zo;have kc:w11.heap[Rc]?=some (.cells #[.bool true] 4 (0,0)):=u11.at_;have hR11:=((hR8.updT u9 na8 zd).updT u10 ((Tn.upd u9).blk nb8 zo) zd).updT u11 ((Tn.upd u10).blk ((Tn.upd u9).blk nc8 zo) zo) zd;have c11:=u11.cl (u10.cl (u9.cl c8 zo) zo) zo;refine ⟨.inr rfl,.slice av O.length kv,.int .i64 O.length,.bool true,⟨⟨_,rfl,W1 ka rfl rfl⟩,⟨_,rfl,W1 kb rfl rfl⟩,_,rfl,W1 kc rfl rfl⟩,.slice av O.length kv,?_,?_,c11⟩
   ·rw [← hO]
   ·rw [← hO,hRa];exact hR11
  ·refine ⟨_,rfl,?_⟩;have hml:=((a0I hIz).1 x hx).1;have htx:=((a0I hIz).1 x hx).2;rw [hxm] at hml htx;have hleg:isLegal z.p m=true:=decide_eq_true hml;rw [if_pos hleg] at hst;obtain ⟨hsan,hq2⟩:=b2R hqz hleg;have hrg:=L4 hIz hml;have htold:(x.tags:Int)=told z.p m:=by rw [htx];exact b0S (by have:=hrg.2.2.2.2;omega) hsan
   have hI2:=Ch.B7.made hIz hml;have hq20:=a4n hq2;have hle2:(z8 (made z.p m)).length≤218:=by have:=a4a hI2;omega
   have hN2:=hNz.made hIz m;have hMl:∀ n∈L++[z],n.off [M]:=fun n hn=>(hlt n hn).off (fun k hk=>by rw [List.mem_singleton.1 hk];exact hMs)
   have hoff:∀ n∈L++[{ z with cv:=cv' }],n.off [M]:=fun n hn=>by
    rcases List.mem_append.1 hn with hn | hn
    ·exact hMl n (List.mem_append_left _ hn)
    ·have o:=hMl z (by simp)
     rw [List.mem_singleton.1 hn];exact ⟨o.M,o.P,o.b,fun k hk e=>(hown k e).2 (by rw [List.mem_singleton.1 hk]),o.kids⟩
   have hJ2:∀ n∈L++[{ z with cv:=cv' }],Ch.B7 n.p:=fun n hn=>by
    rcases List.mem_append.1 hn with hn | hn
    ·exact hJ n (List.mem_append_left _ hn)
    ·rw [List.mem_singleton.1 hn];exact hIz
   have hmv:(D3 x).mv=m:=hxm;have hGM:=b8T (d:=D3 x) (hT.cl c8) hG8 hIz hN hle (by rw [hmv];exact hml) (by rw [hmv];exact htold) rfl hM8 hoff (by rw [hmv];exact hI2) (by rw [hmv];exact hle2) hJ2 zo
   refine zR ?_;refine W3 false (N1 rfl _) (zR ?_);refine o8 hGM ?_;rintro e w9 ⟨rfl,g',z',y,hsame,⟨ad,n1,k1,hkc⟩,hG9,y1,y2,y3,y4,y5,hend,f9⟩;refine ⟨_,rfl,?_⟩;have hydm:y.d.mv=m:=y2.trans hmv;have hyp:y.p=made z.p m:=by rw [y4,hmv]
   have hydt:(y.d.tags:Int)=told z.p m:=by rw [y3];exact htold
   have hw7:w.heap.size≤w7.heap.size:=c7.size;have hw8:=n8.size;have hkS:∀ k∈[M,z.M,z.P,G0],w.heap.size≤k:=fun k hk=>by
    simp only [List.mem_cons,List.not_mem_nil,or_false] at hk;omega
   have f9:Fr [M,z.M,z.P,G0] w8 w9:=f9;have c9:Cl w w9:=f9.toCl hkS c8;have hnd8:=hG8.node;have hps8:=hG8.chn.last.2.2.hd;have hgb8:=hG8.hb;have off9:∀ {k:Nat} {cs:Array Value} {t:Nat} {fz:Nat×Nat},w8.heap[k]?=some (.cells cs t fz)→t≠141→t≠173→t≠131→w9.heap[k]?=some (.cells cs t fz):=fun {k cs t fz} h h1 h2 h3=>f9.blk h fun hm=>by
    simp only [List.mem_cons,List.not_mem_nil,or_false] at hm;rcases hm with e | e | e | e
    ·exact J4 h hM8 h1 e
    ·exact J4 h hnd8 h1 e
    ·exact J4 h hps8 h2 e
    ·exact J4 h hgb8 h3 e
   have na9:=off9 na8 zd zd zd;have nb9:=off9 nb8 zd zd zd;have nc9:=off9 nc8 zd zd zd;have hR9:Row 39 81 stL w.heap.size w9 (.slice av O.length kv) O:=hR8.frT f9 fun k hk=>by
    simp only [List.mem_cons,List.not_mem_nil,or_false] at hk;rcases hk with e | e | e | e
    ·rw [e];exact ⟨_,_,_,hM8,zd⟩
    ·rw [e];exact ⟨_,_,_,hnd8,zd⟩
    ·rw [e];exact ⟨_,_,_,hps8,zd⟩
    ·rw [e];exact ⟨_,_,_,hgb8,zd⟩
   have hPz:=hG9.chn.mem z' (by simp)
   rw [hsame.p,hsame.P,hkc,← hpos] at hPz;have hPy:=hG9.posM;rw [hyp,hG9.pos] at hPy;have hNode:=hG9.node;rw [y1] at hNode;have hg9:=a8g hend hm9;have hstep:=fun w' (c:Cl w9 w')=>c2i hIz hN hle (d:=y.d) (by rw [hydm];exact hml) (by rw [hydm];exact hydt) (by rw [hydm];exact hI2) (by rw [hydm];exact (hN2.nm zo).nums) (by rw [hydm];exact hle2) (show g'.meth<256 by omega) w' ((hT.cl c9).cl c) ((hw.cl c9).cl c) (hPz.step c) (c.blk hNode) (c.blk hG9.hb) hG9.pos (by rw [hydm];exact hPy.step c)
   rw [hydm] at hstep;have hmap:(L++[{ z with cv:=cv' }]).map O4.p=(L++[z]).map O4.p:=by simp
   have hmap2:((L++[z'])++[y]).map O4.p=(L++[z]).map O4.p++[made z.p m]:=by simp [hsame.p,hyp]
   rw [hmap,hyp] at hend;rw [← hend] at hst;have hlenS:(stL (stepOf z.p m ((g'.meth:Int),g'.out))).length=81:=U8 _;have hst2:(O++[stepOf z.p m ((g'.meth:Int),g'.out)])++story (((L++[z'])++[y]).map O4.p) y.p ((g'.meth:Int),g'.out) (ms.drop (i+1))=S:=by rw [hmap2,hyp,← hst];simp
   have hJ9:∀ n∈(L++[z'])++[y],Ch.B7 n.p:=fun n hn=>by
    rcases List.mem_append.1 hn with hn | hn
    ·rcases List.mem_append.1 hn with hn | hn
     ·exact hJ n (List.mem_append_left _ hn)
     ·rw [List.mem_singleton.1 hn,hsame.p];exact hIz
    ·rw [List.mem_singleton.1 hn,hyp];exact hI2
   generalize stepOf z.p m ((g'.meth:Int),g'.out)=SV at *;refine zR ?_;refine I1 true (F8 rfl) (zR ?_);have fin:∀ w10 w11 w12 v',Cl w9 w10→a8b w.heap.size w10 (.slice av O.length kv) w11 v'→Row 39 81 stL w.heap.size w11 v' (O++[SV])→Upd w11 Ra (.cells #[v'] 28 (0,0)) w12 →
     i+1≤ms.length∧K3 w12 G0 g' (L++[z']) y∧(L++[z']).length=i+1∧Ch.B7 y.p∧Ng y.p (i+1)∧quiet y.p (ms.drop (i+1))=true∧(∀ n∈(L++[z'])++[y],Ch.B7 n.p)∧w.heap.size≤y.M∧w.heap.size≤y.P∧g'.meth≤9
    ∧(O++[SV])++story (((L++[z'])++[y]).map O4.p) y.p ((g'.meth:Int),g'.out) (ms.drop (i+1))=S∧(O++[SV]).length=i+1∧Row 39 81 stL w.heap.size w12 v' (O++[SV])
    ∧w12.heap[Ra]?=some (.cells #[v'] 28 (0,0))∧w12.heap[Rb]?=some (.cells #[.int .i64 0] 3 (0,0))∧w12.heap[Rc]?=some (.cells #[.bool false] 4 (0,0))∧Cl w w12:=by
    intro w10 w11 w12 v' c10 hg hr' u12;have c010:=c9.trans c10;have kg:KT 39 w10 w11:=KT.grow (hR9.step c10) hg;have na11:=kg _ _ _ zd (c10.blk na9);have ku:KT 28 w11 w12:=KT.upd u12 na11;refine ⟨hil,ku.game (kg.game (hG9.step c10) zd zd zd zd zd) zd zd zd zd zd,by rw [List.length_append,hLl];rfl,by rw [hyp];exact hI2,by rw [hyp];exact hN2,by rw [hyp];exact hq2,hJ9,
     by rw [y1];omega,zo,hg9,hst2,by rw [List.length_append,hOl];rfl,ku.row hr' zd,u12.at_,ku _ _ _ zd (kg _ _ _ zd (c10.blk nb9)),ku _ _ _ zd (kg _ _ _ zd (c10.blk nc9)),u12.cl (hg.toCl rfl c010) zo⟩
   have cD:Cl w9 w9.drew:=Cl.drew (Cl.refl _);have hOn:O.length+1≤1000:=by omega
   clear hst hst2 hJ9 hend hmap hmap2 hG8 hnd8 hps8 hgb8 off9 hPz hPy hNode hkS f9;refine I8.mk2 [1,2,3] (.cons 0 (.cons 4 (.cons 5 (.cons 6 (.cons 7 .done .nil) .nil) .nil) .nil) (.cons 4 (.cons 0 (.cons 5 (.cons 6 (.cons 7 .done .nil) .nil) .nil) (.cons 5 (.cons 0 (.cons 6 (.cons 7 .done .nil) .nil) .nil) .nil)) .nil)) zk (zR ?_);refine And.intro ?_ (And.intro ?_ trivial)
   ·refine zR ?_;refine d6 _ (W1 (v:=.slice av O.length kv) (cD.blk na9) rfl rfl) (zE ?_);refine m9 (hstep _ cD) fun w10 c10=>?_;have c10:=cD.trans c10;refine zE ?_;refine E6 a8d [stV SV] (by rw [Array.toList_map];rfl) (by simp [stV,Value.cells,hlenS]) rfl zd zd (zE ?_)
    refine P3 a8d SV rfl (hR9.step c10) rfl rfl (by simp [stV,Value.cells]) U8 a4g zo zd (c9.trans c10).size ?_
    intro v' w11 hr' hg;have na11:=(KT.grow (hR9.step c10) hg) _ _ _ zd (c10.blk na9);obtain ⟨a9,k9,rfl,_⟩:=hr'.form;refine zE ?_;refine J6 na11 [.slice a9 (O++[SV]).length k9] rfl zk rfl (by intro v hv;simp at hv;subst hv;rfl) (Nat.le_of_ble_eq_true rfl) fun w12 u12=>zR ?_
    exact ⟨(i+1,L++[z'],y,g',O++[SV],.slice a9 (O++[SV]).length k9),⟨m7 ni,trivial⟩,fin w10 w11 w12 _ c10 hg hr' u12,by show ms.length-(i+1)<ms.length-i;omega⟩
   ·refine zR ?_;refine m9 (hstep _ cD) fun w10 c10=>?_;have c10:=cD.trans c10;refine zR ?_;refine And.intro ?_ (And.intro ?_ trivial)
    ·refine zR ?_;refine d6 _ (W1 (v:=.slice av O.length kv) (c10.blk na9) rfl rfl) (zE ?_);refine E6 a8d [stV SV] (by rw [Array.toList_map];rfl) (by simp [stV,Value.cells,hlenS]) rfl zd zd (zE ?_)
     refine P3 a8d SV rfl (hR9.step c10) rfl rfl (by simp [stV,Value.cells]) U8 a4g zo zd (c9.trans c10).size ?_
     intro v' w11 hr' hg;have na11:=(KT.grow (hR9.step c10) hg) _ _ _ zd (c10.blk na9);obtain ⟨a9,k9,rfl,_⟩:=hr'.form;refine zE ?_;refine J6 na11 [.slice a9 (O++[SV]).length k9] rfl zk rfl (by intro v hv;simp at hv;subst hv;rfl) (Nat.le_of_ble_eq_true rfl) fun w12 u12=>zR ?_
     exact ⟨(i+1,L++[z'],y,g',O++[SV],.slice a9 (O++[SV]).length k9),⟨m7 ni,trivial⟩,fin w10 w11 w12 _ c10 hg hr' u12,by show ms.length-(i+1)<ms.length-i;omega⟩
    ·refine zR ?_;refine E6 a8d [stV SV] (by rw [Array.toList_map];rfl) (by simp [stV,Value.cells,hlenS]) rfl zd zd (zE ?_)
     refine d6 _ (W1 (v:=.slice av O.length kv) ((c10.trans (Cl.alloc _ _)).blk na9) rfl rfl) (zE ?_);refine P3 a8d SV rfl (hR9.step c10) rfl rfl (by simp [stV,Value.cells]) U8 a4g zo zd (c9.trans c10).size ?_
     intro v' w11 hr' hg;have na11:=(KT.grow (hR9.step c10) hg) _ _ _ zd (c10.blk na9);obtain ⟨a9,k9,rfl,_⟩:=hr'.form;refine zE ?_;refine J6 na11 [.slice a9 (O++[SV]).length k9] rfl zk rfl (by intro v hv;simp at hv;subst hv;rfl) (Nat.le_of_ble_eq_true rfl) fun w12 u12=>zR ?_
     exact ⟨(i+1,L++[z'],y,g',O++[SV],.slice a9 (O++[SV]).length k9),⟨m7 ni,trivial⟩,fin w10 w11 w12 _ c10 hg hr' u12,by show ms.length-(i+1)<ms.length-i;omega⟩
 ·have e:i=ms.length:=by omega
  have hO:O=S:=by rw [← hst,e,List.drop_length];show O=O++[];rw [List.append_nil]
  refine zR ?_;refine d6 _ (W1 (v:=.slice av O.length kv) na rfl rfl) (zR ?_);refine d6 _ (W1 (v:=.slice av O.length kv) na rfl rfl) (zR ?_);refine zT na [.slice av O.length kv] fun w6 u6=>?_;refine zR ?_;refine zT ((Tn.upd u6).blk nb zo) [.int .i64 O.length] fun w7 u7=>?_;refine zR ?_;refine J6 ((Tn.upd u7).blk ((Tn.upd u6).blk nc zo) zo) [.bool true] rfl zk rfl (by intro v hv;simp at hv;subst hv;rfl) (Nat.le_of_ble_eq_true rfl) fun w8 u8=>zR ?_
  have ka:w8.heap[Ra]?=some (.cells #[.slice av O.length kv] 28 (0,0)):=(Tn.upd u8).blk ((Tn.upd u7).blk u6.at_ zo) zo;have kb:w8.heap[Rb]?=some (.cells #[.int .i64 O.length] 3 (0,0)):=(Tn.upd u8).blk u7.at_ zo;have kc:w8.heap[Rc]?=some (.cells #[.bool true] 4 (0,0)):=u8.at_;have hR8:=((hR.updT u6 na zd).updT u7 ((Tn.upd u6).blk nb zo) zd).updT u8 ((Tn.upd u7).blk ((Tn.upd u6).blk nc zo) zo) zd;have c8:=u8.cl (u7.cl (u6.cl c5 zo) zo) zo;refine ⟨.inr rfl,.slice av O.length kv,.int .i64 O.length,.bool true,⟨⟨_,rfl,W1 ka rfl rfl⟩,⟨_,rfl,W1 kb rfl rfl⟩,_,rfl,W1 kc rfl rfl⟩,.slice av O.length kv,?_,?_,c8⟩
  ·rw [← hO]
  ·rw [← hO,hRa];exact hR8
end
end Go.Proofs.YtpclhlhcegcflaaGreatDoor
