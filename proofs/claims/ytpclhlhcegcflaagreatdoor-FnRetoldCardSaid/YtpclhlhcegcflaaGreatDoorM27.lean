/- One part of the proof: Pk53 Pk54 Pk48 Dfr Pk49. -/
import Derived.Lib.UnsafeStr
import Derived.Defers
import Derived.Recover
import Derived.Test.YtpclhlhcegcflaaGreatDoorM1
import Derived.Test.YtpclhlhcegcflaaGreatDoorM3
import Derived.Test.YtpclhlhcegcflaaGreatDoorM20
import Derived.Test.YtpclhlhcegcflaaGreatDoorM25
import Derived.Test.YtpclhlhcegcflaaGreatDoorM26
namespace Go.Proofs.YtpclhlhcegcflaaGreatDoor
set_option maxRecDepth 100000
set_option linter.unusedSimpArgs false
set_option linter.unusedVariables false
section
open Go Go.RowKit
open E
open Ch Bb
theorem c48 {C:World→Prop} {l:Tx} {s:ByteArray} {k:IntKind} {b:Int} {x hi:Operand} {dst:Option Nat} {ty:Nat} {pos:String} {af:Array Edge} {gd:Option (Nat×Bool)} {env:C0} {K:Value→Prop}
  (r:Tx) (hx:ev env x = .string s) (hh:ev env hi = .int k b) (hs:s=tx l) (h0:0≤b) (h2:b≤l.length) (hr:l.take b.toNat=r) (h:K (s8 r)) :
  b3X G.P C { dst,op:=.slice 9 x none (some hi) none,type:=ty,pos,after:=af,guard:=gd } env K:=by
 subst hs;refine ⟨_,fun w _=>?_,h⟩;show (do pure (Next.value (← Instr.slice 9 (ev env x) none (some (ev env hi)) none)):Sem Next).run G.P w=_
 rw [hx,hh,Sem.run_bind,run_slice_string_h (P:=G.P) w 9 _ b0y _ _ h0 (by rw [C9];exact h2),tx,ByteArray.extract_mk]
 rw [← hr,List.drop_zero,Nat.sub_zero];rfl
theorem a6p {w:World} {dst:Option Nat} {ty:Nat} {pos:String} {af:Array Edge} {gd:Option (Nat×Bool)} {env:C0} {K:Value→World→Prop} {fo:Operand} {args:Array Operand} {argTypes:Array Nat} {f:Nat} {cap:Array Value} {v:Value} (vs:Array Value) (h:Calls G.P f vs w (K4 v w)) (hf:ev env fo = .func (.func f) #[] cap) (hfn:G.fn f=true) (ha:(args.map (ev env)).toList++cap.toList=vs.toList)
  (hk:∀ w',Cl w w'→K v w'):L5 G.P { dst,op:=.call { callee:=.value fo,args,argTypes },type:=ty,pos,after:=af,guard:=gd } env w K :=
 b5f vs hf hfn ha (h.mono fun _ w' hr=>⟨v,hr.1,hk w' hr.2⟩)
def orE (x y:Option X1):Option X1:=match x with
 | some a=>some a
 | none=>y
theorem b0w (f:Nat→Option X1) (n:Nat):a9I f (n+1)=orE (f n) (a9I f n):=by
 rw [a9I];unfold orE;cases f n<;>rfl
theorem b6z (x y z:Option X1):orE (orE x y) z=orE x (orE y z):=by cases x<;>rfl
theorem c4X (x:Option X1):orE none x=x:=rfl
theorem c3L (a:X1) (x:Option X1):orE (some a) x=some a:=rfl
def a9y (s:Tx) (q:X1):List Tx:=[s,q.pc,q.fo,q.ro,q.ca,q.fi,q.ra,q.pr,q.cs,[]]
def zzL (s:Tx):List Tx:=match zzP s with
 | some q=>a9y s q
 | none=>[]
theorem c4c {s set:Tx} {i:Nat} (h:inS s i set=true):i<s.length:=by
 refine Classical.byContradiction fun hn=>?_;rw [c4r zo] at h;cases h
theorem c2X (s set:Tx) (i:Nat):oneN s i set≤1:=by unfold oneN;split<;>omega
theorem c3y {k:Nat} (h:k≤100):IntKind.i64.wrap ((k:Int)-1)=(k:Int)-1:=g7 zo zo
theorem c4t {a b:Nat} (h:a+b≤1000000):IntKind.i64.wrap ((a:Int)+(b:Int))=((a+b:Nat):Int):=by rw [g7 zo zo];push_cast;rfl
theorem c3m {s:Tx} {q:X1} (h:zzP s=some q):zzL s=a9y s q:=by unfold zzL;rw [h]
theorem c4Y {s:Tx} (h:zzP s=none):zzL s=[]:=by unfold zzL;rw [h]
def ooR (s:Tx) (i:Nat):Option X1:=if i=0∧s.take 5=oooS∧a1K (s.drop 5)=true then some (b9D oooS) else if i≤1∧s.take 3=ooS∧a1K (s.drop 3)=true then some (b9D ooS) else none
theorem c6n {s:Tx} (h:b5t s=none):ooR s 0=zzP s:=by
 unfold zzP ooR;rw [h];simp
set_option maxHeartbeats 4000000 in
theorem c57 (s:Tx) (hs:s.length≤1000) (w:World):Calls G.P 346 #[s8 s] w (fun r w'=>Cl w w'∧∃ v,r = .returned v∧Row 9 1 a4E w.heap.size w' v (zzL s)):=by
 have hsz:(tx s).size=s.length:=C9 _;refine zN Tryz.func346 ?_;refine zG ?_;obtain ⟨b,hb0⟩:∃ b,b=w.heap.size:=⟨_,rfl⟩;have cA:=Cl.alloc w (.cells #[s8 s] 9);have hb:(w.alloc (.cells #[s8 s] 9)).heap[b]?=some (.cells #[s8 s] 9 (0,0)):=by rw [hb0];exact q8 _ _
 rw [← hb0];obtain ⟨W0,hW0⟩:∃ W0,W0=w.alloc (.cells #[s8 s] 9):=⟨_,rfl⟩;rw [← hW0] at cA hb;rw [show w.alloc (.cells #[Value.string (tx s)] 9)=W0 from hW0.symm];clear hW0;have one:=fun {w':World} (i:Nat) (hi:i≤100000) (set:Tx) (hset:set.length≤1000) (h:Cl W0 w')=>c6l (s:=s) (set:=set) (i:=i) (b:=b) hi zo hset w' (h.blk hb);refine zR ?_;refine b2N #[.pointer (some ⟨b,0,none⟩)] (by rw [Array.toList_map];rfl) (zR ?_)
 refine a6p #[.int .i64 (0:Nat),s8 X6,.pointer (some ⟨b,0,none⟩)] (one 0 zd X6 zd (Cl.refl _)) rfl rfl (by rw [Array.toList_map];rfl) fun w1 c1=>?_
 have l1:=c2X s X6 0;refine zR ?_;refine A9 (σ:=Nat) [2,4,5,6,7,8,9,10] 13 (fun n=>[(4,.int .i64 ((n:Int)-1))]) (fun n w'=>n≤2∧a9I (c4Q s) n=b5t s∧Cl W0 w') (fun n=>n) zk (oneN s 0 X6+1) ⟨zo,rfl,c1⟩ ⟨m7 (by push_cast;omega),trivial⟩ ?_
 clear l1;rintro na ja wa ⟨hna,hA,ca⟩;cases na with
 | zero =>
  have hc0:=c6n hA.symm;have s0:=cA.size;refine zR ?_;refine E6 elStr [s8 oooS,s8 ooS] (by rw [Array.toList_map];rfl) (by simp [Value.cells,s8]) rfl zd zd ?_
  have cB:=ca.trans (Cl.alloc wa (.cells (([s8 oooS,s8 ooS]:List Value).flatMap fun v=>v.cells.toList).toArray 9));have hg:(wa.alloc (.cells (([s8 oooS,s8 ooS]:List Value).flatMap fun v=>v.cells.toList).toArray 9)).heap[wa.heap.size]?=some (.cells #[s8 oooS,s8 ooS] 9 (0,0)):=q8 _ _;generalize wa.alloc (.cells (([s8 oooS,s8 ooS]:List Value).flatMap fun v=>v.cells.toList).toArray 9)=wB at *;generalize wa.heap.size=g at *;refine zR ?_;refine A9 (σ:=Nat) [2,12,134] 135 (fun i=>[(134,.int .i64 i)]) (fun i w'=>i≤2∧ooR s i=zzP s∧Cl wB w') (fun i=>2-i) zk 0 ⟨zo,hc0,Cl.refl _⟩ ⟨rfl,trivial⟩ ?_;rintro i jc w2 ⟨hi,hc,c2⟩;have ni:=C2 (i:=i) zo;have hg:=c2.blk hg;have c02:=cB.trans c2;have hb:=c02.blk hb;have fin:∀ q,zzP s=some q→Row 9 1 a4E b (w2.alloc (.cells (((a9y s q).map s8).flatMap fun v=>v.cells.toList).toArray 9)) (.slice (some ⟨w2.heap.size,0,none⟩) 10 10) (zzL s):=fun q hq=>by
   rw [c3m hq];exact (H9 B5 w2 (a9y s q) (Nat.le_of_ble_eq_true rfl) _ rfl).mono (by rw [hb0];exact Nat.le_trans s0 c02.size)
  rcases (by omega:i=0∨i=1∨i=2) with rfl | rfl | rfl
  ·have nx:¬ (s.take 5=oooS∧a1K (s.drop 5)=true)→ooR s 1=zzP s:=fun h=>by
    rw [← hc];unfold ooR;simp [h]
   refine zR ?_;refine d7 _ (W1 hg rfl rfl) (zR ?_);refine d7 _ (W1 hb rfl rfl) (zR ?_);rw [hsz,show (tx oooS).size=5 from rfl];apply E.b7<;>intro h
   ·have hlen:5≤s.length:=by omega
    clear h;refine zR ?_;refine d7 _ (W1 hb rfl rfl) (zR ?_);rw [show (tx oooS).size=5 from rfl];refine b0P (l:=s) (s.take 5) rfl rfl rfl zo zo rfl (zR ?_);apply E.b7<;>intro h
    ·have e:=a0p.1 h;clear h;refine zR ?_;refine d7 _ (W1 hb rfl rfl) (zR ?_);rw [show (tx oooS).size=5 from rfl];refine d9 (c3l (s:=s) (i:=5) hlen zo w2) ?_;cases et:a1K (s.drop 5)
     ·refine zR ?_;exact ⟨1,⟨m7 ni,trivial⟩,⟨zo,nx (fun h=>by rw [et] at h;cases h.2),c2⟩,zo⟩
     ·have hz:zzP s=some (b9D oooS):=by rw [← hc];unfold ooR;simp [e,et]
      refine zR ?_;refine d7 _ (W1 hb rfl rfl) (zR ?_);refine E6 elStr ((a9y s (b9D oooS)).map s8) (by rw [Array.toList_map];rfl) (by simp [a9y,Value.cells,s8]) rfl zd zd (zR ?_)
      exact ⟨(cA.trans c02).trans (Cl.alloc _ _),_,rfl,fin _ hz⟩
    ·have e:¬ s.take 5=oooS:=fun e=>h (by rw [e])
     refine zR ?_;exact ⟨1,⟨m7 ni,trivial⟩,⟨zo,nx (fun h=>e h.1),c2⟩,zo⟩
   ·have e:¬ s.take 5=oooS:=fun e=>by
     have:=congrArg List.length e;rw [List.length_take] at this;have e2:oooS.length=5:=rfl;omega
    refine zR ?_;exact ⟨1,⟨m7 ni,trivial⟩,⟨zo,nx (fun h=>e h.1),c2⟩,zo⟩
  ·have nx:¬ (s.take 3=ooS∧a1K (s.drop 3)=true)→ooR s 2=zzP s:=fun h=>by
    rw [← hc];unfold ooR;simp [h]
   refine zR ?_;refine d7 _ (W1 hg rfl rfl) (zR ?_);refine d7 _ (W1 hb rfl rfl) (zR ?_);rw [hsz,show (tx ooS).size=3 from rfl];apply E.b7<;>intro h
   ·have hlen:3≤s.length:=by omega
    clear h;refine zR ?_;refine d7 _ (W1 hb rfl rfl) (zR ?_);rw [show (tx ooS).size=3 from rfl];refine b0P (l:=s) (s.take 3) rfl rfl rfl zo zo rfl (zR ?_);apply E.b7<;>intro h
    ·have e:=a0p.1 h;clear h;refine zR ?_;refine d7 _ (W1 hb rfl rfl) (zR ?_);rw [show (tx ooS).size=3 from rfl];refine d9 (c3l (s:=s) (i:=3) hlen zo w2) ?_;cases et:a1K (s.drop 3)
     ·refine zR ?_;exact ⟨2,⟨m7 ni,trivial⟩,⟨zo,nx (fun h=>by rw [et] at h;cases h.2),c2⟩,zo⟩
     ·have hz:zzP s=some (b9D ooS):=by rw [← hc];unfold ooR;simp [e,et,ooS,oooS]
      refine zR ?_;refine d7 _ (W1 hb rfl rfl) (zR ?_);refine E6 elStr ((a9y s (b9D ooS)).map s8) (by rw [Array.toList_map];rfl) (by simp [a9y,Value.cells,s8]) rfl zd zd (zR ?_)
      exact ⟨(cA.trans c02).trans (Cl.alloc _ _),_,rfl,fin _ hz⟩
    ·have e:¬ s.take 3=ooS:=fun e=>h (by rw [e])
     refine zR ?_;exact ⟨2,⟨m7 ni,trivial⟩,⟨zo,nx (fun h=>e h.1),c2⟩,zo⟩
   ·have e:¬ s.take 3=ooS:=fun e=>by
     have:=congrArg List.length e;rw [List.length_take] at this;have e2:ooS.length=3:=rfl;omega
    refine zR ?_;exact ⟨2,⟨m7 ni,trivial⟩,⟨zo,nx (fun h=>e h.1),c2⟩,zo⟩
  ·have hn:zzP s=none:=hc.symm;refine zR ?_;exact ⟨cA.trans c02,_,rfl,by rw [c4Y hn];exact Row.nil _ _⟩
 | succ a =>
  rw [b0w] at hA;rw [show ((a+1:Nat):Int)-1=(a:Int) by omega]
  refine zR ?_;refine a6p #[.int .i64 (a:Nat),s8 a4q,.pointer (some ⟨b,0,none⟩)] (one a zo a4q zd ca) rfl rfl (by rw [Array.toList_map];rfl) fun w1 c1=>?_
  have l1:=c2X s a4q a;refine zR ?_;refine A9 (σ:=Nat) [2,5,6,7,8,9,10] 13 (fun n=>[(5,.int .i64 ((n:Int)-1))]) (fun n w'=>n≤2∧orE (a9I (c4P s a) n) (a9I (c4Q s) a)=b5t s∧Cl W0 w') (fun n=>n) zk (oneN s a a4q+1) ⟨zo,hA,ca.trans c1⟩ ⟨m7 (by push_cast;omega),trivial⟩ ?_
  clear l1 c1 hA ca;generalize hRA:a9I (c4Q s) a=RA at *;rintro nb jb wb ⟨hnb,hB,cb⟩;cases nb with
  | zero =>
   refine zR ?_;exact ⟨a,⟨m7 (c3y zo),trivial⟩,⟨zo,hRA.trans hB,cb⟩,zo⟩
  | succ bb =>
   rw [b0w,b6z] at hB;rw [show ((bb+1:Nat):Int)-1=(bb:Int) by omega]
   have eab:=c4t (a:=a) (b:=bb) zo;refine zR ?_;rw [eab];refine a6p #[.int .i64 (a+bb:Nat),s8 a00,.pointer (some ⟨b,0,none⟩)] (one (a+bb) zo a00 zd cb) rfl rfl (by rw [Array.toList_map];rfl) fun w1 c1=>?_
   have l1:=c2X s a00 (a+bb);refine zR ?_;refine A9 (σ:=Nat) [2,6,7,8,9,10] 13 (fun n=>[(6,.int .i64 ((n:Int)-1))]) (fun n w'=>n≤2∧orE (a9I (c4O s a bb) n) (orE (a9I (c4P s a) bb) RA)=b5t s∧Cl W0 w') (fun n=>n) zk (oneN s (a+bb) a00+1) ⟨zo,hB,cb.trans c1⟩ ⟨m7 (by push_cast;omega),trivial⟩ ?_
   clear l1 c1 hB cb;generalize hRB:orE (a9I (c4P s a) bb) RA=RB at *;rintro nc jc wc ⟨hnc,hC,cc⟩;cases nc with
   | zero =>
    refine zR ?_;exact ⟨bb,⟨m7 (c3y zo),trivial⟩,⟨zo,hRB.trans hC,cc⟩,zo⟩
   | succ c =>
    rw [b0w,b6z] at hC;rw [show ((c+1:Nat):Int)-1=(c:Int) by omega]
    have eabc:=c4t (a:=a+bb) (b:=c) zo;refine zR ?_;rw [eab,eabc];refine a6p #[.int .i64 (a+bb+c:Nat),s8 [120],.pointer (some ⟨b,0,none⟩)] (one (a+bb+c) zo [120] zd cc) rfl rfl (by rw [Array.toList_map];rfl) fun w1 c1=>?_
    have l1:=c2X s [120] (a+bb+c);refine zR ?_;refine A9 (σ:=Nat) [2,7,8,9,10] 13 (fun n=>[(7,.int .i64 ((n:Int)-1))]) (fun n w'=>n≤2∧orE (a9I (c41 s a bb c) n) (orE (a9I (c4O s a bb) c) RB)=b5t s∧Cl W0 w') (fun n=>n) zk (oneN s (a+bb+c) [120]+1) ⟨zo,hC,cc.trans c1⟩ ⟨m7 (by push_cast;omega),trivial⟩ ?_
    clear l1 c1 hC cc;generalize hRC:orE (a9I (c4O s a bb) c) RB=RC at *;rintro nd jd wd ⟨hnd,hD,cd⟩;cases nd with
    | zero =>
     refine zR ?_;exact ⟨c,⟨m7 (c3y zo),trivial⟩,⟨zo,hRC.trans hD,cd⟩,zo⟩
    | succ d =>
     rw [b0w,b6z] at hD;rw [show ((d+1:Nat):Int)-1=(d:Int) by omega]
     have eabcd:=c4t (a:=a+bb+c) (b:=d) zo;refine zR ?_;rw [eab,eabc,eabcd];obtain ⟨T,hT⟩:∃ T,T=a+bb+c+d:=⟨_,rfl⟩;have hT4:T≤4:=by omega
     have hE:c41 s a bb c d=if inS s T a4q&&inS s (T+1) a00 then a9I (c40 s a bb c d) (if c3f s T then 2 else 1) else none:=by rw [hT];rfl
     rw [hE] at hD;rw [← hT];clear hE;generalize hRD:orE (a9I (c41 s a bb c) d) RC=RD at *;have n1:=C2 (i:=T) zo;have n2:IntKind.i64.wrap ((T:Int)+2)=((T+2:Nat):Int):=by rw [g7 zo zo];push_cast;omega
     refine a6p #[.int .i64 T,s8 a4q,.pointer (some ⟨b,0,none⟩)] (one T zo a4q zd cd) rfl rfl (by rw [Array.toList_map];rfl) fun w1 c1=>?_
     have c1:=cd.trans c1;cases hF:inS s T a4q
     ·rw [c1i hF];rw [hF] at hD;refine zR ?_;exact ⟨d,⟨m7 (c3y zo),trivial⟩,⟨zo,hRD.trans hD,c1⟩,zo⟩
     rw [c08 hF];rw [hF] at hD;refine zR ?_;rw [n1];refine a6p #[.int .i64 (T+1:Nat),s8 a00,.pointer (some ⟨b,0,none⟩)] (one (T+1) zo a00 zd c1) rfl rfl (by rw [Array.toList_map];rfl) fun w2 c2=>?_
     have c2:=c1.trans c2;cases hG:inS s (T+1) a00
     ·rw [c1i hG];rw [hG] at hD;refine zR ?_;exact ⟨d,⟨m7 (c3y zo),trivial⟩,⟨zo,hRD.trans hD,c2⟩,zo⟩
     rw [c08 hG];rw [hG,Bool.and_true,if_pos rfl] at hD;have hl2:=c4c hG;clear c1 cd;refine zG ?_;refine Nx.mk (zG ?_);refine Nx.mk (zG ?_);refine Nx.mk (zG ?_);have n3:=C2 (i:=T+2) zo;rw [n2];refine A4 (σ:=Unit) [10] 67 (fun _=>[(10,.int .i64 (if c3f s T then 2 else 0))]) (fun _ w'=>Cl W0 w') zk ?_ (fun _ j w4 c4=>?_)
     ·refine zR ?_;refine a6p #[.int .i64 (T+2:Nat),s8 [61],.pointer (some ⟨b,0,none⟩)] (one (T+2) zo [61] zd c2) rfl rfl (by rw [Array.toList_map];rfl) fun w5 c5=>?_
      have c5:=c2.trans c5;cases hP:inS s (T+2) [61]
      ·have e:c3f s T=false:=by unfold c3f;rw [hP];rfl
       rw [c1i hP];refine zR ?_;exact ⟨(),⟨by rw [e];rfl,trivial⟩,c5⟩
      rw [c08 hP];refine zR ?_;rw [n3];refine a6p #[.int .i64 (T+2+1:Nat),s8 c3X,.pointer (some ⟨b,0,none⟩)] (one (T+2+1) zo c3X zd c5) rfl rfl (by rw [Array.toList_map];rfl) fun w6 c6=>?_
      have c6:=c5.trans c6;have e:c3f s T=inS s (T+2+1) c3X:=by unfold c3f;rw [hP];rfl
      rw [e];cases hQ:inS s (T+2+1) c3X
      ·rw [c1i hQ];refine zR ?_;exact ⟨(),⟨rfl,trivial⟩,c6⟩
      ·rw [c08 hQ];refine zR ?_;exact ⟨(),⟨rfl,trivial⟩,c6⟩
     clear c2;have hp4:c3f s T=true→T+4≤s.length:=fun h=>by
      unfold c3f at h;rw [Bool.and_eq_true] at h;have:=c4c h.2;omega
     refine zR ?_;refine A9 (σ:=Nat) [2,10] 13 (fun n=>[(10,.int .i64 (2*(n:Int)-2))]) (fun n w'=>n≤2∧orE (a9I (c40 s a bb c d) n) RD=b5t s∧(0<n→T+2*n≤s.length)∧Cl W0 w') (fun n=>n) zk (if c3f s T then 2 else 1) ⟨by split<;>omega,hD,fun _=>by split;exact hp4 (by assumption);omega,c4⟩ ⟨m7 (by split<;>rfl),trivial⟩ ?_
     clear hD hp4 c4;rintro np jp wp ⟨hnp,hK,hlp,cp⟩;cases np with
     | zero =>
      refine zR ?_;exact ⟨d,⟨m7 (c3y zo),trivial⟩,⟨zo,hRD.trans hK,cp⟩,zo⟩
     | succ k =>
      rw [b0w,b6z] at hK;have hlk:T+2+2*k≤s.length:=by have:=hlp zo;omega
      have epk:=c4t (a:=T+2) (b:=2*k) zo;have hb6:=cp.blk hb;rw [show 2*((k+1:Nat):Int)-2=((2*k:Nat):Int) by push_cast;omega]
      have hKK:c40 s a bb c d k=if a1K (s.drop (T+2+2*k)) then some (c4z s a bb c d k) else none:=by rw [hT];rfl
      rw [hKK] at hK;clear hKK;refine zR ?_;refine d7 _ (W1 hb6 rfl rfl) (zR ?_);rw [epk];refine d9 (c3l (s:=s) (i:=T+2+2*k) hlk zo wp) ?_;cases et:a1K (s.drop (T+2+2*k))
      ·rw [et] at hK;refine zR ?_;exact ⟨k,⟨m7 (by rw [g7 (by push_cast;omega) (by push_cast;omega)];push_cast;rfl),trivial⟩,⟨zo,hK,fun _=>by omega,cp⟩,zo⟩
      ·rw [et,if_pos rfl,c3L] at hK;have hz:zzP s=some (c4z s a bb c d k):=by unfold zzP;rw [← hK]
       have s0:=cA.size;refine zR ?_;refine zK 44 ?_;refine zR ?_;refine g9 _ (fun w' hw=>W1 (hw.blk hb6) rfl rfl) (zR ?_);refine g9 _ (fun w' hw=>W1 (hw.blk hb6) rfl rfl) (zR ?_);refine c48 (l:=s) (a5L s 0 a) rfl rfl rfl zo zo (by rw [Int.toNat_natCast];simp [a5L]) (zR ?_)
       refine g9 _ (fun w' hw=>W1 (hw.blk hb6) rfl rfl) (zR ?_);rw [eab];refine a7i (l:=s) (a5L s (a) (a+bb)) rfl rfl rfl rfl zo zo zo (by rw [Int.toNat_natCast,Int.toNat_natCast];rfl) (zR ?_)
       refine g9 _ (fun w' hw=>W1 (hw.blk hb6) rfl rfl) (zR ?_);rw [eab,eabc];refine a7i (l:=s) (a5L s (a+bb) (a+bb+c)) rfl rfl rfl rfl zo zo zo (by rw [Int.toNat_natCast,Int.toNat_natCast];rfl) (zR ?_)
       refine g9 _ (fun w' hw=>W1 (hw.blk hb6) rfl rfl) (zR ?_);rw [eab,eabc];refine a7i (l:=s) (a5L s (a+bb+c) (T)) rfl rfl rfl rfl zo zo zo (by rw [Int.toNat_natCast,Int.toNat_natCast];rfl) (zR ?_)
       refine g9 _ (fun w' hw=>W1 (hw.blk hb6) rfl rfl) (zR ?_);rw [n1];refine a7i (l:=s) (a5L s (T) (T+1)) rfl rfl rfl rfl zo zo zo (by rw [Int.toNat_natCast,Int.toNat_natCast];rfl) (zR ?_)
       refine g9 _ (fun w' hw=>W1 (hw.blk hb6) rfl rfl) (zR ?_);rw [n1];refine a7i (l:=s) (a5L s (T+1) (T+2)) rfl rfl rfl rfl zo zo zo (by rw [Int.toNat_natCast,Int.toNat_natCast];rfl) (zR ?_)
       refine g9 _ (fun w' hw=>W1 (hw.blk hb6) rfl rfl) (zR ?_);rw [epk];refine a7i (l:=s) (a5L s (T+2) (T+2+2*k)) rfl rfl rfl rfl zo zo zo (by rw [Int.toNat_natCast,Int.toNat_natCast];rfl) (zR ?_)
       intro w7 c7;refine zR ?_;have hq:c4z s a bb c d k=⟨a5L s 0 a,a5L s a (a+bb),a5L s (a+bb) (a+bb+c),a5L s (a+bb+c) T,a5L s T (T+1),a5L s (T+1) (T+2),a5L s (T+2) (T+2+2*k),[]⟩:=by rw [hT];rfl
       rw [hq] at hz;refine E6 elStr ((a9y s ⟨a5L s 0 a,a5L s a (a+bb),a5L s (a+bb) (a+bb+c),a5L s (a+bb+c) T,a5L s T (T+1),a5L s (T+1) (T+2),a5L s (T+2) (T+2+2*k),[]⟩).map s8) (by rw [Array.toList_map];rfl) (by simp [a9y,Value.cells,s8]) rfl zd zd (zR ?_)
       refine ⟨(cA.trans (cp.trans c7)).trans (Cl.alloc _ _),_,rfl,?_⟩;rw [c3m hz];exact (H9 B5 w7 (a9y s _) (Nat.le_of_ble_eq_true rfl) _ rfl).mono (by rw [hb0];exact Nat.le_trans s0 (cp.trans c7).size)
structure Nb (b B:Nat) (w w':World):Prop where
 os:w'.os=w.os
 tape:w'.tape=w.tape
 output:w'.output=w.output
 size:B≤w'.heap.size
 else_:∀ k,k<B→k≠b→w'.heap[k]?=w.heap[k]?
section nb
variable {b B:Nat} {w w' w2:World}
theorem Nb.refl (b:Nat) (hB:B≤w.heap.size):Nb b B w w:=⟨rfl,rfl,rfl,hB,fun _ _ _=>rfl⟩
theorem Nb.trans (h:Nb b B w w') (h2:Nb b B w' w2):Nb b B w w2 :=
 ⟨h2.os.trans h.os,h2.tape.trans h.tape,h2.output.trans h.output,h2.size,fun k hk hn=>(h2.else_ k hk hn).trans (h.else_ k hk hn)⟩
theorem Nb.upd {o:Obj} (u:Upd w b o w') (hB:B≤w.heap.size):Nb b B w w':=⟨u.os,u.tape,u.output,by rw [u.size];exact hB,fun k _ hn=>u.else_ k hn⟩
theorem Nb.cl (h:Cl w w') (hB:B≤w.heap.size):Nb b B w w':=⟨h.os,h.tape,h.output,Nat.le_trans hB h.size,fun k hk _=>h.block k (Nat.lt_of_lt_of_le hk hB)⟩
theorem Nb.blk (h:Nb b B w w') {k:Nat} {o:Obj} (hk:w.heap[k]?=some o) (hB:k<B) (hn:k≠b):w'.heap[k]?=some o:=by rw [h.else_ k hB hn];exact hk
theorem Nb.of (h:∀ w0:World,w0.heap.size=B→Cl w0 w→Cl w0 w') (hB:B≤w.heap.size):Nb b B w w':=by
 have e:(w.heap.extract 0 B).size=B:=by simp;omega
 have hc:Cl { w with heap:=w.heap.extract 0 B } w:=by
  refine ⟨rfl,rfl,rfl,?_,fun k hk=>?_⟩
  ·show (w.heap.extract 0 B).size≤_;omega
  ·have hk:k<(w.heap.extract 0 B).size:=hk;show w.heap[k]?=(w.heap.extract 0 B)[k]?;rw [Array.getElem?_extract,if_pos zo];simp
 have h2:=h _ e hc;refine ⟨h2.os,h2.tape,h2.output,by rw [← e];exact h2.size,fun k hk _=>?_⟩
 have:=h2.block k (by show k<(w.heap.extract 0 B).size;omega)
 rw [this];show (w.heap.extract 0 B)[k]?=_;rw [Array.getElem?_extract,if_pos zo];simp
end nb
structure Bw (b:Nat) (wr w:World) (l:Tx):Prop where
 is:∃ p v,(p = .pointer none∨p = .pointer (some ⟨b,0,none⟩))∧w.heap[b]?=some (.cells #[p,v] 160 (0,0))∧Row 5 1 a0r wr.heap.size w v l
 nb:Nb b wr.heap.size wr w
 lt:b<wr.heap.size
section bw
variable {b:Nat} {wr w w':World} {l:Tx}
theorem Bw.fresh (hk:w.heap[b]?=some (.cells #[.pointer none,.slice none 0 0] 160 (0,0))):Bw b w w []:=⟨⟨_,_,.inl rfl,hk,Row.nil _ _⟩,Nb.refl _ (Nat.le_refl _),N2 hk⟩
theorem Bw.step (h:Bw b wr w l) (c:Cl w w'):Bw b wr w' l:=by
 obtain ⟨p,v,hp,hk,hr⟩:=h.is;exact ⟨⟨p,v,hp,c.blk hk,hr.step c⟩,h.nb.trans (Nb.cl c h.nb.size),h.lt⟩
theorem b7v {p v:Value} (hk:w.heap[b]?=some (.cells #[p,v] 160 (0,0))) :
  Calls G.P 148 #[.pointer (some ⟨b,0,none⟩)] w (fun r w'=>r = .returned (.tuple #[])∧Upd w b (.cells #[.pointer none,.slice none 0 0] 160 (0,0)) w'):=by
 refine zN Tryz.func148 ?_;refine zR ?_;refine zT hk [.pointer none] fun w2 u2=>?_;refine zR ?_;refine J6 u2.at_ [.slice none 0 0] rfl zk rfl (by intro v hv;simp at hv;subst hv;rfl) (Nat.le_of_ble_eq_true rfl) fun w3 u3=>zR ?_
 exact ⟨rfl,u2.trans u3⟩
theorem A6 (s:Tx) (h:Bw b wr w l) (hl:l.length+s.length≤1000000) :
  Calls G.P 118 #[.pointer (some ⟨b,0,none⟩),s8 s] w (fun r w'=>r = .returned (.tuple #[.int .i64 s.length,.nilIface])∧Bw b wr w' (l++s)):=by
 obtain ⟨p,v,hp,hk,hr⟩:=h.is;have hs:(tx s).size=s.length:=C9 _;have hB:=h.nb.size;refine zN Tryz.func118 ?_;refine zR ?_;refine o8 (b0Y hp hk) ?_;rintro r w1 ⟨rfl,u1⟩;refine ⟨_,rfl,?_⟩;have hv:=hr.updT u1 hk zd;obtain ⟨av,cv,rfl,hav⟩:=hv.form;have hB1:wr.heap.size≤w1.heap.size:=by rw [u1.size];exact hB
 refine zR ?_;refine d7 _ (W1 u1.at_ rfl rfl) (zR ?_);refine a78 rfl hv rfl hl hB1 fun v' w2 hr2 hc2=>?_;have n2:Nb b wr.heap.size w1 w2:=Nb.of hc2 hB1;obtain ⟨a9,c9,rfl,_⟩:=hr2.form;have hk2:w2.heap[b]?=some (.cells #[.pointer (some ⟨b,0,none⟩),.slice av l.length cv] 160 (0,0)):=(Nb.of (b:=wr.heap.size) hc2 hB1).blk u1.at_ h.lt (Nat.ne_of_lt h.lt);refine zR ?_;refine zT hk2 [.slice a9 (l++s).length c9] fun w3 u3=>?_;refine zR ?_;rw [hs];exact ⟨rfl,⟨_,_,.inr rfl,u3.at_,hr2.updT u3 hk2 zd⟩,((h.nb.trans (Nb.upd u1 hB)).trans n2).trans (Nb.upd u3 n2.size),h.lt⟩
end bw
section gens
variable {dst:Option Nat} {ty:Nat} {pos:String} {af:Array Edge} {gd:Option (Nat×Bool)} {env:C0}
theorem c4Z {C:World→Prop} {K:Value→Prop} {x:Operand} {ts:Array Nat} {a:Addr} {n c:Nat} (hx:ev env x = .slice (some a) n c) (hc:c≠0) (h:K (.pointer (some a))) :
  b3X G.P C { dst,op:=.call { callee:=.builtin .unsafeSliceData,args:=#[x],argTypes:=ts },type:=ty,pos,after:=af,guard:=gd } env K:=by
 refine ⟨_,fun w _=>?_,h⟩;simp only [execOp,resolve,invoke,builtin,Sem.run_bind,Sem.run_pure,Result.andThen_ok,List.map_toArray,List.map_cons,List.map_nil,hx,Lib.run_unsafeSliceData_row _ _ _ _ _ _ hc]
theorem c6o:G.P.underlying 221=some (.pointer 5):=by kernel_rfl
theorem c5T {w:World} {K:Value→World→Prop} {x y:Operand} {g:Nat} {l:Tx} {cur:Array Value} {fz:Nat×Nat} (hx:ev env x = .pointer (some ⟨g,0,none⟩)) (hy:ev env y = .int .i64 l.length) (hl:l≠[]) (h6:l.length≤1000000) (hg:w.heap[g]?=some (.cells cur 5 fz)) (hlen:l.length≤cur.size) (hc:∀ (j:Nat) (x:UInt8),l[j]?=some x→cur[j]?=some (Value.int .u8 x.toNat)) (h:K (s8 l) (w.freeze ⟨g,0,none⟩ l.length)) :
  L5 G.P { dst,op:=.call { callee:=.builtin .unsafeString,args:=#[x,y],argTypes:=#[221,3] },type:=ty,pos,after:=af,guard:=gd } env w K:=by
 have h1:(Builtin.unsafeString_ #[221,3] ty #[.pointer (some ⟨g,0,none⟩),.int .i64 l.length]).run G.P w = .ok (.string ⟨l.toArray⟩) (w.freeze ⟨g,0,none⟩ l.length):=by
  refine Lib.run_unsafeString_row w 221 3 ty 5 c6o zk g cur.size (by simp [World.shape?,hg]) l hl hlen zo ?_
  intro j x hx;rw [G8,Nat.zero_add,C8 hg];exact hc j x hx
 refine ⟨.inl ⟨_,_,?_,h⟩⟩;simp only [execOp,resolve,invoke,builtin,Sem.run_bind,Sem.run_pure,Result.andThen_ok,List.map_toArray,List.map_cons,List.map_nil,hx,hy,h1];rfl
end gens
theorem c49 {w:World} {g n:Nat} {cur:Array Value} {t:Nat} {fz:Nat×Nat} (hg:w.heap[g]?=some (.cells cur t fz)):∃ fz',(w.freeze ⟨g,0,none⟩ n).heap[g]?=some (.cells cur t fz'):=by
 unfold World.freeze;split
 ·exact ⟨_,hg⟩
 ·obtain ⟨lo,hi⟩:=fz;simp [Array.getElem?_modify,hg]
theorem c5a {b:Nat} {wr w:World} {l:Tx} (h:Bw b wr w l) (hl:l≠[]) (h6:l.length≤1000000):∃ C:World→Prop,C w∧C w.drew∧(∀ w',C w'→Below wr.heap.size w w')∧∀ w',C w'→Calls G.P 124 #[.pointer (some ⟨b,0,none⟩)] w' (fun r w2=>r = .returned (s8 l)∧C w2):=by
 obtain ⟨p,v,hp,hk,hr⟩:=h.is;have hpos:0<l.length:=List.length_pos_iff.2 hl;obtain ⟨g,cap,cur,rfl,hg,hcap,hgb,hlc,hcc⟩:∃ g cap cur,v = .slice (some ⟨g,0,none⟩) l.length cap∧wr.heap.size≤g∧l.length≤cap∧w.heap[g]?=some (.cells cur 5 (0,0))∧l.length≤cur.size∧∀ (j:Nat) (x:UInt8),l[j]?=some x→cur[j]?=some (Value.int .u8 x.toNat):=by
  have hown:=b0Z.1 hr;rcases hr.2 with ⟨_,e⟩ | ⟨g,cap,cur,e,hg,hb,hle,_,hsz,_⟩
  ·omega
  ·subst e;refine ⟨g,cap,cur,rfl,hg,hle,hb,zo,fun j x hx=>?_⟩;have:=hown.cells (g:=g) rfl j (.int .u8 x.toNat) (by simp [Lib.byteCells,hx])
   rw [G8,Nat.zero_add,C8 hb] at this;exact this
 refine ⟨fun w'=>Below wr.heap.size w w'∧∃ fz,w'.heap[g]?=some (.cells cur 5 fz),⟨Below.refl _ _,_,hgb⟩,⟨Below.drew (Below.refl _ _),_,hgb⟩,fun w' hw=>hw.1,?_⟩;rintro w' ⟨hb',fz,hg'⟩;have hk':w'.heap[b]?=_:=(hb'.block b h.lt).trans hk;refine zN Tryz.func124 ?_;refine zR ?_;refine I8.mk1 ⟨10,Cl w',Cl.drew (Cl.refl _),zk,?_⟩;refine zR ?_;refine g9 _ (fun w' hw=>W1 (hw.blk hk') rfl rfl) (zR ?_);refine c4Z rfl zo (zR ?_);refine g9 _ (fun w' hw=>W1 (hw.blk hk') rfl rfl) (zR ?_);intro w2 c2;refine zR ?_;refine c5T rfl rfl hl h6 (c2.blk hg') hlc hcc (zR ?_);have hs':wr.heap.size≤w'.heap.size:=Nat.le_trans h.nb.size hb'.size;exact ⟨rfl,Lib.below_freeze (hb'.trans (c2.mono hs')) hg _,c49 (c2.blk hg')⟩
theorem a5U {b:Nat} {wr w:World} {l:Tx} (h:Bw b wr w l) (hl:l≠[]) (h6:l.length≤1000000):Calls G.P 124 #[.pointer (some ⟨b,0,none⟩)] w (fun r w'=>r = .returned (s8 l)∧Below wr.heap.size w w'):=by
 obtain ⟨C,h0,_,h2,h3⟩:=c5a h hl h6;exact (h3 w h0).mono fun _ _ hr=>⟨hr.1,h2 _ hr.2⟩
end
section
open Go Go.RowKit
open E
structure c2u (w:World) (e:C0) (t1 t2 t3:Nat) (y1 y2 y3:Nat) (v1 v2 v3:Value):Prop where
 a:∃ a,e t1 = .pointer (some a)∧l8 G.P w y1 a v1
 b:∃ a,e t2 = .pointer (some a)∧l8 G.P w y2 a v2
 c:∃ a,e t3 = .pointer (some a)∧l8 G.P w y3 a v3
theorem a5D {w:World} {t:Nat} {a:Addr} {v:Value} (h:l8 G.P w t a v):(loadVar t a).run G.P w = .ok v w:=by
 unfold l8 Instr.loadAt at h;simp [Instr.sureAddr] at h;exact h
def c2v (f:Nat) (cap:Array Value):Prop:=∀ w,CallsD G.P f cap .returning w fun e u' w'=>e = .returned (.tuple #[])∧u' = .returning∧w'=w
end
section
open Go Go.RowKit
open E
open Ch Bb
theorem Row.frT {α:Type} {enc:α→List Value} {e z b0:Nat} {S:List Nat} {w w':World} {v:Value} {l:List α} (h:Row e z enc b0 w v l) (hf:Fr S w w') (hS:∀ k∈S,∃ cs t fz,w.heap[k]?=some (.cells cs t fz)∧e≠t):Row e z enc b0 w' v l:=by
 refine ⟨h.1,?_⟩;rcases h.2 with h2 | ⟨g,cap,cur,h1,h2,h3,h4⟩
 ·exact .inl h2
 ·refine .inr ⟨g,cap,cur,h1,h2,hf.blk h3 fun hm=>?_,h4⟩;obtain ⟨cs,t,fz,hb,hne⟩:=hS g hm;exact J4 h3 hb hne rfl
theorem Fr.toCl {S:List Nat} {w0 w w':World} (h:Fr S w w') (hS:∀ k∈S,w0.heap.size≤k) (c:Cl w0 w):Cl w0 w' :=
 ⟨h.os.trans c.os,h.tape.trans c.tape,h.output.trans c.output,Nat.le_trans c.size h.size,fun k hk=>(h.else_ k (Nat.lt_of_lt_of_le hk c.size) (fun hm=>by have:=hS k hm;omega)).trans (c.block k hk)⟩
def KT (T:Nat) (w w':World):Prop:=∀ (k:Nat) (cs:Array Value) (t:Nat),t≠T→w.heap[k]?=some (.cells cs t (0,0))→w'.heap[k]?=some (.cells cs t (0,0))
section kt
variable {T:Nat} {w w':World} (hk:KT T w w')
include hk
theorem KT.row {α:Type} {enc:α→List Value} {e z b0:Nat} {v:Value} {l:List α} (h:Row e z enc b0 w v l) (he:e≠T):Row e z enc b0 w' v l:=by
 refine ⟨h.1,?_⟩;rcases h.2 with h2 | ⟨g,cap,cur,h1,h2,h3,h4⟩
 ·exact .inl h2
 ·exact .inr ⟨g,cap,cur,h1,h2,hk _ _ _ he h3,h4⟩
theorem KT.posM {P b:Nat} {p:A3} {cv:Value} (h:H0 w P b p cv) (h1:173≠T) (h2:237≠T) (h3:141≠T):H0 w' P b p cv :=
 ⟨hk _ _ _ h1 h.hd,hk _ _ _ h2 h.bd,h.ca.elim .inl fun h=>.inr (hk.row h h3)⟩
theorem KT.chn (h1:173≠T) (h2:237≠T) (h3:141≠T) (h4:85≠T):∀ {l:List O4},Chn w l→Chn w' l
 | [],_=>trivial
 | n::l,⟨a1,a2,a3,a4,a5⟩=>by
  refine ⟨hk _ _ _ h3 a1,a2,?_,hk.posM a4 h1 h2 h3,KT.chn h1 h2 h3 h4 a5⟩;cases l with
  | nil=>exact a3
  | cons m r=>exact hk.row (show Row 85 1 O8 0 w n.d.kids [m.M] from a3) h4
theorem KT.game {G0:Nat} {g:Gm} {L:List O4} {z:O4} (h:K3 w G0 g L z) (h0:131≠T) (h1:173≠T) (h2:237≠T) (h3:141≠T) (h4:85≠T):K3 w' G0 g L z :=
 ⟨hk _ _ _ h0 h.hb,h.cur,h.pos,h.root,hk.chn h1 h2 h3 h4 h.chn,h.kids,h.off,h.zcv,h.dis,h.mo⟩
end kt
theorem KT.upd {T b:Nat} {o:Obj} {w w':World} {cs:Array Value} {fz:Nat×Nat} (u:Upd w b o w') (hb:w.heap[b]?=some (.cells cs T fz)):KT T w w':=fun k c t ht h=>(Tn.upd u).blk h (J4 h hb ht)
theorem KT.grow {α:Type} {enc:α→List Value} {e z b0 b1:Nat} {w w':World} {v v':Value} {l:List α} (hr:Row e z enc b1 w v l) (hg:a8b b0 w v w' v'):KT e w w':=fun k c t ht h=>by
 refine hg.keep _ _ h fun hv=>?_;rcases hr.2 with ⟨h1,_⟩ | ⟨g,cap,cur,h1,h2,h3,h4⟩
 ·rw [h1] at hv;cases hv
 ·rw [h1] at hv;injection hv with hv;subst hv;exact ht (Obj.cells.inj (Option.some.inj (h.symm.trans h3))).2.1
theorem a4n {p:A3} {ms:List Mv} (h:quiet p ms=true):(y8 p).length≤218:=by
 cases ms with
 | nil=>exact of_decide_eq_true h
 | cons m r =>
  unfold quiet at h;simp only [Bool.and_eq_true] at h;exact of_decide_eq_true h.1
theorem b2R {p:A3} {m:Mv} {r:List Mv} (h:quiet p (m::r)=true) (hl:G6 p m=true):a0v p m=true∧quiet (made p m) r=true:=by
 unfold quiet at h;rw [hl] at h;simp only [Bool.and_eq_true,Bool.not_true,Bool.false_or] at h;exact h.2
theorem Chn.mem {w:World}:∀ {l:List O4},Chn w l→∀ n∈l,H0 w n.P n.b n.p n.cv
 | [],_,_,h=>by cases h
 | n::l,⟨_,_,_,h4,h5⟩,x,hx=>by
  rcases List.mem_cons.1 hx with e | hx
  ·rw [e];exact h4
  ·exact Chn.mem h5 x hx
end
end Go.Proofs.YtpclhlhcegcflaaGreatDoor
