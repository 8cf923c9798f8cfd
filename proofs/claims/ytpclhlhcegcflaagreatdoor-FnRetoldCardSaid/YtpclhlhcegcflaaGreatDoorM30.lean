/- One part of the proof: Pk64 Pk65. -/
import Derived.Test.YtpclhlhcegcflaaGreatDoorM1
import Derived.Test.YtpclhlhcegcflaaGreatDoorM3
import Derived.Test.YtpclhlhcegcflaaGreatDoorM29
namespace Go.Proofs.YtpclhlhcegcflaaGreatDoor
set_option maxRecDepth 100000
set_option linter.unusedSimpArgs false
set_option linter.unusedVariables false
section
open Go Go.RowKit
open E
open Ch Bb
def b5w (w:World) (v:Value) (ns:List Int):Prop:=∃ a c,v = .slice a ns.length c∧(0<ns.length→∃ g o cs t fz,a=some ⟨g,o,none⟩∧w.heap[g]?=some (.cells cs t fz)∧∀ i (h:i<ns.length),cs[o+i]?=some (.int .i64 ns[i]))
section intIn
variable {w w':World} {v:Value} {ns:List Int}
theorem b5w.form (h:b5w w v ns):∃ a c,v = .slice a ns.length c∧(0<ns.length→∃ g o,a=some ⟨g,o,none⟩):=by
 obtain ⟨a,c,e,h⟩:=h;exact ⟨a,c,e,fun h0=>by obtain ⟨g,o,_,_,_,e,_⟩:=h h0;exact ⟨g,o,e⟩⟩
theorem b5w.step (h:b5w w v ns) (hc:Cl w w'):b5w w' v ns:=by
 obtain ⟨a,c,e,h⟩:=h;exact ⟨a,c,e,fun h0=>by obtain ⟨g,o,cs,t,fz,e,hb,h2⟩:=h h0;exact ⟨g,o,cs,t,fz,e,hc.blk hb,h2⟩⟩
theorem b5w.ld {g o n c:Nat} (h:b5w w (.slice (some ⟨g,o,none⟩) n c) ns) (i:Nat) (hi:i<ns.length):l8 G.P w 3 ⟨g,E.W6 o ((i:Int)).toNat 1,none⟩ (.int .i64 ns[i]):=by
 obtain ⟨a,c',e,h⟩:=h;obtain ⟨g',o',cs,t,fz,e2,hb,h2⟩:=h zo;injection e with e1 _ _;rw [e2] at e1;injection e1 with e1;injection e1 with e1 e3 _;subst e1 e3;exact W1 hb (by rw [E.z6,Int.toNat_natCast,Nat.mul_one];exact h2 i hi) rfl
end intIn
def c5n (n:Int):List Value:=[.int .i64 n]
theorem c3Q (n:Int):(c5n n).length=1:=rfl
theorem c5o (n:Int):∀ u∈c5n n,u.oneCell'=true:=fun u hu=>by rw [List.mem_singleton.1 hu];rfl
def nOf (x:Int):Nat:=(IntKind.u64.wrap x%3).toNat
def nAt (ns:List Int) (i:Nat):Nat:=match ns[i%ns.length]? with
 | some x=>nOf x
 | none=>0
theorem c39 (x:Int):nOf x<3:=by unfold nOf;omega
theorem c5X (ns:List Int) (i:Nat):nAt ns i<3:=by
 unfold nAt;split
 ·exact c39 _
 ·decide
theorem c5Y (x:Int):IntKind.i64.wrap ((IntKind.u64.wrap x).tmod 3)=(nOf x:Int):=by
 have h:0≤IntKind.u64.wrap x:=by
  show 0≤x%_;exact Int.emod_nonneg _ zd
 unfold nOf;rw [Int.toNat_of_nonneg (Int.emod_nonneg _ zd),Int.tmod_eq_emod_of_nonneg h,g7 zo zo]
def stTxt (n:Nat) (s:Ch.a0A):Tx:=if n=0 then s.san else if n=1 then s.lan else s.uci
def txsOf (ns:List Int):Nat→List Ch.a0A→List Tx
 | _,[]=>[]
 | i,s::r=>stTxt (nAt ns i) s::txsOf ns (i+1) r
def nsOf (ns:List Int):Nat→List Ch.a0A→List Int
 | _,[]=>[]
 | i,s::r=>(nAt ns i:Int)::nsOf ns (i+1) r
theorem c5p (l:List Tx) (hn:l.length≤100000) {b0 b1:Nat} {u v:Value} (w:World) (hu:Row 9 1 a4E b0 w u l) (hv:Row 9 1 a4E b1 w v l):Calls G.P 21 #[u,v] w (K4 (.bool true) w):=by
 obtain ⟨au,cu,rfl,hau⟩:=hu.form;obtain ⟨av,cv,rfl,hav⟩:=hv.form;refine zN Tryz.func21 ?_;refine zG ?_;refine zR ?_;apply E.r9<;>intro h
 ·omega
 refine zR ?_;refine A9 (σ:=Nat) [4,5,13] 14 (fun a=>[(13,.int .i64 a)]) (fun a w'=>a≤l.length∧Cl w w') (fun a=>l.length-a) zk 0
  ⟨zo,Cl.refl _⟩ ⟨rfl,trivial⟩ ?_
 rintro i j w2 ⟨hi,hcl⟩;refine zR ?_;apply E.b7<;>intro h
 ·have hil:i<l.length:=by omega
  obtain ⟨gu,rfl⟩:=hau zo;obtain ⟨gv,rfl⟩:=hav zo;have ni:=C2 (i:=i) zo;have l1:∀ w',Cl w w'→l8 G.P w' 9 ⟨gu,E.W6 0 ((i:Int)).toNat 1,none⟩ (s8 l[i]):=fun w' c=>by
   obtain ⟨cur,h1,h2⟩:=(hu.step c).get B5 i 0 hil zd;exact W1 h1 (by rw [E.z6,Int.toNat_natCast,Nat.zero_add];exact h2) rfl
  have l2:∀ w',Cl w w'→l8 G.P w' 9 ⟨gv,E.W6 0 ((i:Int)).toNat 1,none⟩ (s8 l[i]):=fun w' c=>by
   obtain ⟨cur,h1,h2⟩:=(hv.step c).get B5 i 0 hil zd;exact W1 h1 (by rw [E.z6,Int.toNat_natCast,Nat.zero_add];exact h2) rfl
  generalize l[i]=s at *;refine zR ?_;refine zK 9 ?_;refine zR ?_;refine zC ?_;refine zR ?_;refine g9 (s8 s) (fun w hw=>l1 w (hcl.trans hw)) (zR ?_);refine zC ?_;refine zR ?_;refine g9 (s8 s) (fun w hw=>l2 w (hcl.trans hw)) (zR ?_);intro w3 c3;refine zR ?_;apply E.r9<;>intro h
  ·exact absurd rfl h
  refine zR ?_;exact ⟨i+1,⟨m7 ni,trivial⟩,⟨zo,hcl.trans c3⟩,zo⟩
 ·refine zR ?_;exact ⟨rfl,hcl⟩
set_option maxHeartbeats 2000000 in
theorem c3z (S:List Ch.a0A) (hS:S.length≤1000) (ns:List Int) (hns:ns.length≤1000) {b0:Nat} {u v:Value} (w:World) (hu:Row 39 81 stL b0 w u S) (hv:b5w w v ns) :
  Calls G.P 19 #[u,v] w (fun r w'=>∃ a b,r = .returned (.tuple #[a,b])∧Row 9 1 a4E w.heap.size w' a (txsOf ns 0 S)∧Row 3 1 c5n w.heap.size w' b (nsOf ns 0 S)∧Cl w w'):=by
 obtain ⟨au,cu,rfl,hau⟩:=hu.form;obtain ⟨av,cv,rfl,hav⟩:=hv.form;obtain ⟨zs,hzs,hz81⟩:=zSt;obtain ⟨A,hA⟩:∃ A,A=txsOf ns 0 S:=⟨_,rfl⟩;obtain ⟨B,hB⟩:∃ A,A=nsOf ns 0 S:=⟨_,rfl⟩;rw [← hA,← hB];refine zN Tryz.func19 ?_;refine zR ?_;refine A9 (σ:=Nat×List Tx×List Int×Value×Value) [6,7,8,9,10,13] 14 (fun s=>[(6,s.2.2.2.1),(7,s.2.2.2.2),(13,.int .i64 s.1)])
  (fun s w'=>s.1≤S.length∧s.2.1++txsOf ns s.1 (S.drop s.1)=A∧s.2.2.1++nsOf ns s.1 (S.drop s.1)=B∧s.2.1.length=s.1∧s.2.2.1.length=s.1∧Row 9 1 a4E w.heap.size w' s.2.2.2.1 s.2.1∧Row 3 1 c5n w.heap.size w' s.2.2.2.2 s.2.2.1∧Cl w w') (fun a=>S.length-a.1) zk (0,[],[],.slice none 0 0,.slice none 0 0)
  ⟨zo,by rw [hA];rfl,by rw [hB];rfl,rfl,rfl,Row.nil _ _,Row.nil _ _,Cl.refl _⟩ ⟨rfl,rfl,rfl,trivial⟩ ?_
 rintro ⟨i,O,N,va,vb⟩ j w2 ⟨hi,hO,hN,hOl,hNl,hra,hrb,c2⟩;simp only at hi hO hN hOl hNl hra hrb c2 ⊢;obtain ⟨aa,ka,rfl,_⟩:=hra.form;obtain ⟨ab,kb,rfl,_⟩:=hrb.form;have ni:=C2 (i:=i) zo;refine zR ?_;apply E.b7<;>intro h
 ·have hil:i<S.length:=by omega
  clear h;obtain ⟨gu,rfl⟩:=hau zo;rw [List.drop_eq_getElem_cons hil] at hO hN;have l1:∀ w',Cl w w'→l8 G.P w' 39 ⟨gu,E.W6 0 ((i:Int)).toNat 81,none⟩ (stV S[i]):=fun w' h'=>a2n (hu.step h') U8 i hil rfl (by simp [E.z6]) rfl
  generalize S[i]=s at *;have hO:O++stTxt (nAt ns i) s::txsOf ns (i+1) (S.drop (i+1))=A:=hO;have hN:N++(nAt ns i:Int)::nsOf ns (i+1) (S.drop (i+1))=B:=hN;have hnl:=c5X ns i;refine zR ?_;refine zC ?_;refine zR ?_;refine d7 _ (l1 _ c2) (zR ?_);refine t7 zs hzs ?_;have d1:=Cl.alloc w2 (.cells zs.cells 39);have n1:=q8 w2 (.cells zs.cells 39);generalize w2.alloc (.cells zs.cells 39)=w3 at *;refine zR ?_;refine J6 n1 (stL s) rfl c1T (U8 _) (a4g _) (by rw [hz81];decide) (fun w4 u4=>?_)
  have n4:w4.heap[w2.heap.size]?=some (.cells (stL s).toArray 39 (0,0)):=by rw [u4.at_,C5 _ _ (by rw [hz81,U8])]
  have d4:Cl w2 w4:=u4.cl d1 (Nat.le_refl _);clear n1 u4 d1;have c4:=c2.trans d4;have hra:=hra.step d4;have hrb:=hrb.step d4;refine zG ?_;refine Nx.mk (zG ?_);refine A4 (σ:=Unit) [10,18,19,20,21,22,23,24,25,26,27,28,29,30] 31 (fun _=>[(10,.int .i64 (nAt ns i:Nat))]) (fun _ w'=>w'=w4) zk ?_ (fun _ j w5 h5=>?_)
  ·refine zR ?_;apply E.b7<;>intro h
   ·have h0:0<ns.length:=by omega
    obtain ⟨gv,ov,rfl⟩:=hav h0;have him:i%ns.length<ns.length:=Nat.mod_lt _ h0;have hld:=(hv.step c4).ld (i%ns.length) him;have hnA:nAt ns i=nOf ns[i%ns.length]:=by unfold nAt;rw [List.getElem?_eq_getElem him]
    rw [hnA];clear h;refine zR ?_;refine E.o7 zo (zR ?_);have htm:((i:Int)).tmod (ns.length:Int)=((i%ns.length:Nat):Int):=rfl;rw [htm];refine zC ?_;refine zR ?_;refine d7 _ hld (zR ?_);exact ⟨(),⟨m7 (c5Y _),trivial⟩,rfl⟩
   ·have h0:ns=[]:=List.eq_nil_of_length_eq_zero zo;refine zR ?_;exact ⟨(),⟨by subst h0;rfl,trivial⟩,rfl⟩
  subst h5;generalize nAt ns i=n at *;refine zR ?_;refine d7 (s8 s.san) (W1 n4 rfl rfl) (zR ?_);refine d7 (s8 s.lan) (W1 n4 rfl rfl) (zR ?_);refine d7 (s8 s.uci) (W1 n4 rfl rfl) (zR ?_);refine E6 elStr [s8 s.san,s8 s.lan,s8 s.uci] (by rw [Array.toList_map];rfl) (by intro v hv;simp at hv;rcases hv with rfl | rfl | rfl<;>rfl) rfl zd zd ?_
  have d5:=Cl.alloc w5 (.cells (([s8 s.san,s8 s.lan,s8 s.uci]:List Value).flatMap fun v=>v.cells.toList).toArray 9);have n5:(w5.alloc (.cells (([s8 s.san,s8 s.lan,s8 s.uci]:List Value).flatMap fun v=>v.cells.toList).toArray 9)).heap[w5.heap.size]?=some (.cells (([s8 s.san,s8 s.lan,s8 s.uci]:List Value).flatMap fun v=>v.cells.toList).toArray 9 (0,0)):=q8 _ _;have hcs:(([s8 s.san,s8 s.lan,s8 s.uci]:List Value).flatMap fun v=>v.cells.toList).toArray[n]?=some (s8 (stTxt n s)):=by
   rcases (by omega:n=0∨n=1∨n=2) with rfl | rfl | rfl<;>rfl
  generalize (([s8 s.san,s8 s.lan,s8 s.uci]:List Value).flatMap fun v=>v.cells.toList).toArray=cs5 at *;generalize w5.alloc (.cells cs5 9)=w6 at *;have c6:=c4.trans d5;have hra:=hra.step d5;have hrb:=hrb.step d5;generalize stTxt n s=T at *;refine zR ?_;refine zC ?_;refine zR ?_;refine d7 (s8 T) (W1 n5 (by rw [E.z6,Int.toNat_natCast,Nat.zero_add,Nat.mul_one];exact hcs) rfl) (zR ?_)
  refine E6 elStr [s8 T] (by rw [Array.toList_map];rfl) (by intro v hv;rw [List.mem_singleton.1 hv];rfl) rfl zd zd (zR ?_)
  refine P3 elStr T rfl hra rfl rfl rfl B5 a8S zo zd c6.size ?_;intro va' w7 hra' hg;have c7:=hg.toCl rfl c6;have kg:=KT.grow hra hg;have hrb:=kg.row hrb zd;obtain ⟨a9,k9,rfl,_⟩:=hra'.form;refine zR ?_;refine E6 a2I [.int .i64 (n:Nat)] (by rw [Array.toList_map];rfl) (by intro v hv;rw [List.mem_singleton.1 hv];rfl) rfl zd zd (zR ?_)
  refine P3 a2I (n:Int) rfl hrb rfl rfl rfl c3Q c5o zo zd c7.size ?_;intro vb' w8 hrb' hg';have c8:=hg'.toCl rfl c7;have hra':=(KT.grow hrb hg').row hra' zd;obtain ⟨b9,q9,rfl,_⟩:=hrb'.form;refine zR ?_;exact ⟨(i+1,O++[T],N++[(n:Int)],_,_),⟨rfl,rfl,m7 ni,trivial⟩,⟨hil,by rw [← hO];simp,by rw [← hN];simp,by rw [List.length_append,hOl];rfl,by rw [List.length_append,hNl];rfl,hra',hrb',c8⟩,by show S.length-(i+1)<S.length-i;omega⟩
 ·have e:i=S.length:=by omega
  have hOA:O=A:=by rw [← hO,e,List.drop_length];show O=O++[];rw [List.append_nil]
  have hNB:N=B:=by rw [← hN,e,List.drop_length];show N=N++[];rw [List.append_nil]
  refine zR ?_;exact ⟨_,_,rfl,by rw [← hOA];exact hra,by rw [← hNB];exact hrb,c2⟩
theorem c4f (p:A3) (m:Mv):a1K (a04 p m)=true:=by
 unfold a04;split
 ·exact b1F
 ·split<;>(rw [b5z,if_pos zd];exact b1F)
theorem c4E {p:A3} (hI:B7 p) {m:Mv} (hm:m∈y8 p) {n:Nat} (hn:n<3):c5j p m n (ntText n p m):=by
 have hs:=c4f p m;have l1:=b0C p m;have l2:=b7o p m;have own:∃ q,zzP (b33 p m)=some q∧b7x p m q:=⟨_,c4q hI hm hs,.own⟩;rcases (by omega:n=0∨n=1∨n=2) with rfl | rfl | rfl
 ·exact .inl ⟨zd,by show (b33 p m).length≤1000;omega,own⟩
 ·refine .inl ⟨zd,by show (b1C p m).length≤1000;omega,?_⟩
  show ∃ q,zzP (b1C p m)=some q∧b7x p m q;obtain ⟨f0,f1,t0,t1,_⟩:=L4 hI hm;rcases Ch.c2m hI hm with ⟨k,hk,h⟩ | ⟨h,hp,hk⟩ | ⟨h,hp,k1,k5,h0⟩
  ·have e:b1C p m=b33 p m:=by unfold b1C;rw [if_pos zo]
   rw [e];exact own
  ·have e:b1C p m=a5d (b1Z p m (A7 m.fr) (F7 m.fr))++a04 p m:=by
    unfold b1C a5d b1Z;rw [if_neg zo,hk,sq2 f0 f1,sq2 t0 t1,show A1 6=[] from rfl];simp
   rw [e];exact ⟨_,c4p hI hm (.inr rfl) (.inr rfl) hs,.pawn h hk⟩
  ·have e:b1C p m=a5d (a6v p m (A7 m.fr) (F7 m.fr))++a04 p m:=by
    unfold b1C a5d a6v;rw [if_neg zo,sq2 f0 f1,sq2 t0 t1,show Z9 m=[] by unfold Z9;rw [if_pos h0]]
    simp
   rw [e];refine ⟨_,c3G hI hm k1 k5 (.inr rfl) (.inr rfl) hs,.piece h zo _ _ (.inr rfl) (.inr rfl) ?_⟩;unfold apart;rw [sq2 f0 f1];(repeat' split)<;>simp
 ·exact .inr ⟨rfl,rfl⟩
theorem c3o (n:Nat) (p:A3) (m:Mv) (mo:Int×Tx):stTxt n (a7Y p m mo)=ntText n p m:=rfl
theorem c4F {n:Nat} {p:A3} {m:Mv} {mo:Int×Tx} {R:List Ch.a0A} (h1:(y8 p).length≤218) (h2:m∈y8 p) (h3:a0v p m=true) (h4:c5j p m n (ntText n p m)) (h5:c3u n (made p m) (R.map fun s=>(s.mv,stTxt n s))):c3u n p ((a7Y p m mo::R).map fun s=>(s.mv,stTxt n s)):=by
 rw [List.map_cons,c3o];generalize R.map (fun s:Ch.a0A=>(s.mv,stTxt n s))=X at *;generalize ntText n p m=Y at *;have e:(a7Y p m mo).mv=m:=rfl;rw [e];exact ⟨h1,h2,h3,h4,h5⟩
theorem c4g {n:Nat} (hn:n<3):∀ (ms:List Mv) (l:List A3) (p:A3) (mo:Int×Tx),B7 p→quiet p ms=true→c3u n p ((story l p mo ms).map fun s=>(s.mv,stTxt n s)):=by
 intro ms
 induction ms with
 | nil=>intro l p mo _ hq;exact a4n hq
 | cons m r ih =>
  intro l p mo hI hq;have e:=a2z l p mo m r;generalize story l p mo (m::r)=X at e ⊢;by_cases hl:G6 p m=true
  ·rw [if_pos hl] at e;have hm:m∈y8 p:=of_decide_eq_true hl;obtain ⟨h1,h2⟩:=b2R hq hl;rw [e];exact c4F (a4n hq) hm h1 (c4E hI hm hn) (ih _ _ _ (hI.made hm) h2)
  ·rw [if_neg hl] at e;rw [e];exact a4n hq
theorem c3A (k:Nat):∀ (ms:List Mv) (l:List A3) (p:A3) (mo:Int×Tx),b1E k p ((story l p mo ms).map fun s=>s.mv)=(story l p mo ms).map (stTxt k):=by
 intro ms
 induction ms with
 | nil=>intro l p mo;rfl
 | cons m r ih =>
  intro l p mo;rw [a2z];by_cases hl:G6 p m=true
  ·rw [if_pos hl];have h3:=ih (l++[made p m]) (made p m) (X4 (l++[made p m]) (made p m) mo);rw [List.map_cons,List.map_cons,c3o,← h3];rfl
  ·rw [if_neg hl];rfl
theorem c4x (x:Int) (i:Nat):nAt [x] i=nOf x:=by unfold nAt;simp [Nat.mod_one]
theorem b3m (x:Int):∀ (i:Nat) (S:List Ch.a0A),txsOf [x] i S=S.map (stTxt (nOf x))
 | _,[]=>rfl
 | i,s::r=>by
  show stTxt (nAt [x] i) s::txsOf [x] (i+1) r=_;rw [c4x,b3m x (i+1) r];rfl
theorem c30 {w:World} {g:Nat} {x:Int} {t:Nat} {fz:Nat×Nat} (h:w.heap[g]?=some (.cells #[.int .i64 x] t fz)):b5w w (.slice (some ⟨g,0,none⟩) 1 1) [x] :=
 ⟨_,_,rfl,fun _=>⟨g,0,_,_,_,rfl,h,fun i hi=>by
  have e:i=0:=by simpa using hi
  subst e;rfl⟩⟩
theorem c5q {w:World} {b0 g n c:Nat} {l:List Int} (h:Row 3 1 c5n b0 w (.slice (some ⟨g,0,none⟩) n c) l) (hi:0<l.length):l8 G.P w 3 ⟨g,0,none⟩ (.int .i64 l[0]):=by
 obtain ⟨cur,h1,h2⟩:=h.get c3Q 0 0 hi zd;exact W1 h1 h2 rfl
set_option maxHeartbeats 4000000 in
theorem c4h (s:A3) (usual:Bool) (ms:List Mv) (hms:∀ m∈ms,MvR m) (fr to:Int) {v:Value} (w:World) (hT:C1 w) (hS:Spc w) (hrow:a2a w v ms):Calls G.P 5 #[C4 s,.bool usual,v,.int .i64 fr,.int .i64 to] w (K4 (.bool true) w):=by
 obtain ⟨al,cl,rfl,hal⟩:=hrow.form;have hst:=fun w=>c4W s usual w;have hu:usual=true→(if usual then a22 else s)=a22:=fun h=>by rw [if_pos h]
 have hfe:=fun (hI:B7 (if usual then a22 else s)) (hN:a1z (if usual then a22 else s)) w=>c55 s usual (fun h=>a9P (p:=s) (by simpa [h] using hI) (by simpa [h] using hN)) w
 have htx:(if usual then ([]:Tx) else fenT s)=(if usual then [] else fenT (if usual then a22 else s)):=by cases usual<;>simp
 rw [htx] at hfe;generalize (if usual then a22 else s)=p at *
 have hP:=r7 p;refine zN Tryz.func5 ?_;refine zG ?_;generalize hW:w.alloc (.cells (o9 s) 24)=W0;have hP0:W0.heap[w.heap.size]?=some (.cells (o9 s) 24 (0,0)):=by rw [← hW];exact q8 _ _
 have hE:Cl w W0:=by rw [← hW];exact Cl.alloc _ _
 clear hW;refine zR ?_;apply E.b7<;>intro h
 ·refine zR ?_;exact ⟨rfl,hE⟩
 have hlen:=h;clear h;refine zR ?_;refine d7 _ (y7 hP0) (zR ?_);refine m9 (hst _) fun w2 c2=>zR ?_;obtain ⟨zp,hzp,hz69⟩:=b1P;refine t7 zp hzp ?_;have hB0:(w2.alloc (.cells zp.cells 24)).heap[w2.heap.size]?=some (.cells zp.cells 24 (0,0)):=q8 _ _;have c3:Cl w2 (w2.alloc (.cells zp.cells 24)):=Cl.alloc _ _;have hP1:=(c2.trans c3).blk hP0;have c3:=hE.trans (c2.trans c3);generalize w2.alloc (.cells zp.cells 24)=w3 at *;refine zR ?_;refine J6 hB0 (X0 p) rfl a13 (B6 _) (one_pos _) (by rw [hz69];omega) (fun w4 u4=>?_)
 have hB1:w4.heap[w2.heap.size]?=some (.cells (o9 p) 24 (0,0)):=by rw [u4.at_,C5 _ _ (by rw [B6,hz69])];rfl
 have hs2:w.heap.size<w2.heap.size:=by have:=(c2.blk hP0);exact (Array.getElem?_eq_some_iff.1 this).1
 have hP4:w4.heap[w.heap.size]?=some (.cells (o9 s) 24 (0,0)):=(Tn.upd u4).blk hP1 zo;have c4:Cl w w4:=u4.cl c3 zo;clear hB0 u4 hP1 c3 hP0;refine zR ?_;refine d7 _ (y7 hB1) (zR ?_);refine m9 (a8V p ms hms _ (hrow.step c4)) fun w5 c5=>?_;have c5':=c4.trans c5;have hask:=@b10 p ms;generalize asked p ms=aq at *;cases aq
 ·refine zR ?_;exact ⟨rfl,c5'⟩
 obtain ⟨hI,hh,hf,hn,hq⟩:=hask rfl;have hb0:=hI.h0;have hb1:=hI.f1;have hB5:=c5.blk hB1;have hP5:=c5.blk hP4;refine zR ?_;refine d7 _ (y7 hB5) (zR ?_);refine o8 (b3V p hI ⟨zo,zo⟩ (!usual) ms hms zo w5 (hrow.step c5')) ?_;rintro _ w6 ⟨vw,rfl,hW6,c6⟩;have cw:=c5'.trans c6;have hsl:(storyOf p (!usual) ms).length≤80:=by
  have:(storyOf p (!usual) ms).length≤ms.length:=a5E ms _ _ _;omega
 have hfe:=hfe hI ⟨zo,zo⟩;have hline:=c4g (c39 fr) ms [p] p (if (!usual)=true then X4 [p] p (0,a5e) else (0,a5e)) hI hq
 have hret:=c3A (nOf to) ms [p] p (if (!usual)=true then X4 [p] p (0,a5e) else (0,a5e))
 have eS:story [p] p (if (!usual)=true then X4 [p] p (0,a5e) else (0,a5e)) ms=storyOf p (!usual) ms:=rfl
 rw [eS] at hline hret;have him:=fun {v:Value} {b0:Nat} w hT hS hrow=>c38 hI hh hf (c39 fr) (c39 to) _ hline (by rw [List.length_map];exact hsl) usual hu (v:=v) (b0:=b0) w hT hS hrow
 have m1:((storyOf p (!usual) ms).map fun s=>(s.mv,stTxt (nOf fr) s)).map Prod.snd=txsOf [fr] 0 (storyOf p (!usual) ms):=by rw [b3m,List.map_map];rfl
 have m2:b1E (nOf to) p (((storyOf p (!usual) ms).map fun s=>(s.mv,stTxt (nOf fr) s)).map Prod.fst)=txsOf [to] 0 (storyOf p (!usual) ms):=by
  rw [b3m,List.map_map,← hret];rfl
 rw [m1,m2] at him;have hl1:(txsOf [fr] 0 (storyOf p (!usual) ms)).length=(storyOf p (!usual) ms).length:=by rw [b3m,List.length_map]
 have hl2:(txsOf [to] 0 (storyOf p (!usual) ms)).length=(storyOf p (!usual) ms).length:=by rw [b3m,List.length_map]
 have ht1:=fun {b0:Nat} {u v:Value} w hu hv=>c3z (storyOf p (!usual) ms) zo [fr] (Nat.le_of_ble_eq_true rfl) (b0:=b0) (u:=u) (v:=v) w hu hv;have ht2:=fun {b0:Nat} {u v:Value} w hu hv=>c3z (storyOf p (!usual) ms) zo [to] (Nat.le_of_ble_eq_true rfl) (b0:=b0) (u:=u) (v:=v) w hu hv;have n1:∀ x:Int,0<(storyOf p (!usual) ms).length→∃ r,nsOf [x] 0 (storyOf p (!usual) ms)=((nOf x:Nat):Int)::r:=fun x h=>by
  cases e:storyOf p (!usual) ms with
  | nil=>rw [e] at h;cases h
  | cons a r=>exact ⟨_,by show ((nAt [x] 0:Nat):Int)::nsOf [x] (0+1) r=_;rw [c4x]⟩
 clear hline hret eS m1 m2;generalize txsOf [fr] 0 (storyOf p (!usual) ms)=TA at *;generalize txsOf [to] 0 (storyOf p (!usual) ms)=TB at *;have n1f:=n1 fr;have n1t:=n1 to;clear n1;generalize nsOf [fr] 0 (storyOf p (!usual) ms)=NA at *;generalize nsOf [to] 0 (storyOf p (!usual) ms)=NB at *;generalize storyOf p (!usual) ms=S at *;generalize (if usual then ([]:Tx) else fenT p)=T at *
 obtain ⟨aw,kw,rfl,_⟩:=hW6.form;refine ⟨_,rfl,?_⟩;refine zR ?_;refine E6 a2I [.int .i64 fr] (by rw [Array.toList_map];rfl) (by intro v hv;rw [List.mem_singleton.1 hv];rfl) rfl zd zd ?_
 have d6:=Cl.alloc w6 (.cells (([.int .i64 fr]:List Value).flatMap fun v=>v.cells.toList).toArray 3);have i6:b5w (w6.alloc (.cells (([.int .i64 fr]:List Value).flatMap fun v=>v.cells.toList).toArray 3)) (.slice (some ⟨w6.heap.size,0,none⟩) 1 1) [fr]:=c30 (q8 _ _);generalize w6.alloc (.cells (([.int .i64 fr]:List Value).flatMap fun v=>v.cells.toList).toArray 3)=w7 at *;refine zR ?_;refine o8 (ht1 w7 (hW6.step d6) i6) ?_;rintro _ w8 ⟨va,vb,rfl,hA8,hNA,c8⟩;refine ⟨_,rfl,?_⟩;obtain ⟨a1,k1,rfl,_⟩:=hA8.form;obtain ⟨a2,k2,rfl,hg2⟩:=hNA.form;refine zR ?_;refine E6 a2I [.int .i64 to] (by rw [Array.toList_map];rfl) (by intro v hv;rw [List.mem_singleton.1 hv];rfl) rfl zd zd ?_
 have d8:=Cl.alloc w8 (.cells (([.int .i64 to]:List Value).flatMap fun v=>v.cells.toList).toArray 3);have i8:b5w (w8.alloc (.cells (([.int .i64 to]:List Value).flatMap fun v=>v.cells.toList).toArray 3)) (.slice (some ⟨w8.heap.size,0,none⟩) 1 1) [to]:=c30 (q8 _ _);generalize w8.alloc (.cells (([.int .i64 to]:List Value).flatMap fun v=>v.cells.toList).toArray 3)=w9 at *;refine zR ?_;refine o8 (ht2 w9 (hW6.step (d6.trans (c8.trans d8))) i8) ?_;rintro _ w10 ⟨vc,vd,rfl,hB10,hNB,c10⟩;refine ⟨_,rfl,?_⟩;obtain ⟨a3,k3,rfl,_⟩:=hB10.form;obtain ⟨a4,k4,rfl,hg4⟩:=hNB.form;have cw:=cw.trans (d6.trans (c8.trans (d8.trans c10)));have hP10:=(c6.trans (d6.trans (c8.trans (d8.trans c10)))).blk hP5;have hA10:=hA8.step (d8.trans c10);have hNA:=hNA.step (d8.trans c10);refine zR ?_;apply E.b7<;>intro h
 ·refine zR ?_;exact ⟨rfl,cw⟩
 have hS0:0<S.length:=by omega
 clear h;obtain ⟨ra,rfl⟩:=n1f hS0;obtain ⟨rb,rfl⟩:=n1t hS0;obtain ⟨g2,rfl⟩:=hg2 (Nat.succ_pos _);obtain ⟨g4,rfl⟩:=hg4 (Nat.succ_pos _);refine zR ?_;refine I8.mk3 (Cl w10) [0,1,3,4,5,6,7,8,9] (.cons 2 (.cons 10 (.cons 11 (.cons 12 (.cons 13 (.cons 14 (.cons 15 .done .nil) .nil) (.cons 14 (.cons 13 (.cons 15 .done .nil) .nil) .nil)) (.cons 13 (.cons 12 (.cons 14 (.cons 15 .done .nil) .nil) .nil) .nil)) .nil) .nil) .nil) (Cl.drew (Cl.refl _)) zk (zR ?_);refine g9 (C4 s) (fun w hw=>y7 (hw.blk hP10)) (zR ?_);refine E.y6 (P2.2 ⟨zo,by simp⟩) (zR ?_)
 refine g9 (.int .i64 (nOf fr:Nat)) (fun w hw=>c5q (hNA.step hw) (Nat.succ_pos _)) (zR ?_);refine E.y6 (P2.2 ⟨zo,by simp⟩) (zR ?_)
 refine g9 (.int .i64 (nOf to:Nat)) (fun w hw=>c5q (hNB.step hw) (Nat.succ_pos _)) (zR ?_);have cD:Cl w10 w10.drew:=Cl.drew (Cl.refl _);refine And.intro (zR ?_) trivial;refine m9 (hfe _) fun w11 c11=>?_;have c11:=cD.trans c11;have cw:=cw.trans c11;refine zR ?_;refine And.intro c11 (And.intro ?_ trivial);refine zR ?_;refine o8 (him w11 (hT.cl cw) (hS.cl cw) (hA10.step c11)) ?_;rintro _ w12 ⟨vi,rfl,hW12,c12⟩;refine ⟨_,rfl,?_⟩;have cw:=cw.trans c12;have hB12:=hB10.step (c11.trans c12);have c12:=c11.trans c12;obtain ⟨ai,ki,rfl,_⟩:=hW12.form;iterate 30 (all_goals (first
  | exact trivial
  | exact ⟨rfl,cw.trans c13⟩
  | refine And.intro c12 ?_
  | refine And.intro ?_ ?_
  | (refine m9 (c5p _ zo w12 hW12 hB12) fun w13 c13=>?_)
  | (refine E.D4 rfl ?_)
  | refine zR ?_))
end
end Go.Proofs.YtpclhlhcegcflaaGreatDoor
