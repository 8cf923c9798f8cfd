/- One part of the proof: Sp5 Sp6 Law3 Sp7 Sp8 Sp9 Bit LinC Lin Att Att2. -/
import Derived.Laws.Tables
import Derived.Maps.AppendAt
import Derived.Test.YtpclhlhcegcflaaGreatDoorM1
import Derived.Test.YtpclhlhcegcflaaGreatDoorM3
namespace Go.Proofs.YtpclhlhcegcflaaGreatDoor
set_option maxRecDepth 100000
set_option linter.unusedSimpArgs false
set_option linter.unusedVariables false
section
open Go Go.RowKit
open E
theorem d9 {w:World} {t:Nat} {a:Addr} {K:Value→Prop} (v:Value) (h:o4 G.P w t a v) (hk:t8 v K):K3 G.P w t a (fun v=>t8 v K):=⟨v,h,hk⟩
structure a1M (W0:World) (B4 B8:Nat) (q:l9) (w:World):Prop where
 cl:Cl W0 w
 lo4:W0.heap.size≤B4
 lo8:W0.heap.size≤B8
 ne:B4≠B8
 b4:∃ cs,cs.size=69∧w.heap[B4]?=some (.cells cs 24 (0,0))
 b8:w.heap[B8]?=some (.cells (v8 q) 24 (0,0))
theorem a1M.step {W0:World} {B4 B8:Nat} {q:l9} {w w':World} (h:a1M W0 B4 B8 q w) (hc:Cl w w'):a1M W0 B4 B8 q w' :=
 ⟨h.cl.trans hc,h.lo4,h.lo8,h.ne,by obtain ⟨cs,h1,h2⟩:=h.b4;exact ⟨cs,h1,hc.blk h2⟩,hc.blk h.b8⟩
theorem a1M.upd {W0:World} {B4 B8:Nat} {q q':l9} {w w':World} {cs:Array Value} (h:a1M W0 B4 B8 q w) (hu:Upd w B8 (.cells cs 24 (0,0)) w') (e:cs=v8 q'):a1M W0 B4 B8 q' w' :=
 ⟨hu.cl h.cl h.lo8,h.lo4,h.lo8,h.ne,by obtain ⟨cs,h1,h2⟩:=h.b4;exact ⟨cs,h1,by rw [hu.else_ _ h.ne];exact h2⟩,by rw [hu.at_,e]⟩
theorem P7 (p q:l9) (k:Nat) (x:Int) (hk:64≤k∧k≤68) (hb:q.board=p.board)
  (hf:([.int .i64 q.turn,.int .i64 q.castle,.int .i64 q.ep,.int .i64 q.half,.int .i64 q.full]:List Value)=([.int .i64 p.turn,.int .i64 p.castle,.int .i64 p.ep,.int .i64 p.half,.int .i64 p.full]:List Value).set (k-64) (.int .i64 x)) :
  I3 (v8 p) k [.int .i64 x]=v8 q:=by
 apply Array.ext_getElem?;intro i;rw [N3 _ _ _ _ (by rw [z7];simp;omega)]
 simp only [zh,za];by_cases hi:i<64
 ·rw [zJ zo,a01 _ _ hi,a01 _ _ hi];simp only [Ch.sq,hb]
 ·rw [G2 _ _ zo,G2 _ _ zo,hf,List.getElem?_set];by_cases h:i=k
  ·subst h;rw [zM zo,zM rfl,zM (by simp;omega)];simp
  ·rw [zJ zo,zJ zo]
noncomputable def c1K (t n:Nat):Bool:=match (G.P.info? t).bind (·.zero) with | some z=>Nat.beq z.cells.size n | none=>false
theorem a0a {t n:Nat} (h:c1K t n=true):∃ z,(G.P.info? t).bind (·.zero)=some z∧z.cells.size=n:=by
 unfold c1K at h;split at h
 ·rename_i z hz;exact ⟨z,hz,zr h⟩
 ·cases h
theorem b01:∃ z,(G.P.info? 24).bind (·.zero)=some z∧z.cells.size=69:=a0a zk
theorem one_pos (p:l9):∀ v∈Y9 p,v.oneCell'=true:=by
 intro v hv;simp only [Y9,zq,List.mem_map,yQ,zx,or_false] at hv;rcases hv with ⟨x,_,rfl⟩ | rfl | rfl | rfl | rfl | rfl<;>rfl
theorem C4 (p:l9):(Y9 p).length=69:=by simp [Y9,p.len]
theorem a6g (p:l9) (m:Mv) (hp:Pc p) (hm:b13 m) (ht:p.turn=0∨p.turn=1) (c0:0≤p.castle) (c1:p.castle≤15) (h0:0≤p.half) (h1:p.half<4611686018427387904) (f0:0≤p.full) (f1:p.full<4611686018427387904) (w:World) :
  Calls G.P 39 #[E2 p,mvV m] w (L4 (E2 (Ch.made p m)) w):=by
 have hm':=hm;obtain ⟨⟨a0,a1⟩,⟨b0,b1⟩,⟨d0,d1⟩⟩:=hm';obtain ⟨z,hz,hz69⟩:=b01;refine zN Tryz.func39 ?_;refine zG ?_;refine t7 z hz ?_;generalize hW:(w.alloc (.cells (v8 p) 24)).alloc (.cells (Z0 m) 36)=W0;have hP:∀ w',Cl W0 w'→w'.heap[w.heap.size]?=some (.cells (v8 p) 24 (0,0)):=fun w' h=>hP2 (hW▸h);have hM:∀ w',Cl W0 w'→w'.heap[(w.alloc (.cells (v8 p) 24)).heap.size]?=some (.cells (Z0 m) 36 (0,0)):=fun w' h=>hM2 (hW▸h);have hE:∀ w',Cl W0 w'→Cl w w':=fun w' h=>hE2 (hW▸h);have i4:(W0.alloc (.cells z.cells 24)).heap[W0.heap.size]?=some (.cells z.cells 24 (0,0)):=g7 _ _;have k4:Cl W0 (W0.alloc (.cells z.cells 24)):=Cl.alloc _ _;generalize W0.alloc (.cells z.cells 24)=w1 at *;refine zR ?_;refine d9 _ (N0 (hM _ k4)) (zR ?_);refine E.A2 (E5.2 ⟨a0,zo⟩) (zR ?_);refine d9 _ (O7 (hP _ k4) _ a0 zo) (zR ?_);refine d9 _ (A3 (hP _ k4)) (zR ?_);refine d9 _ (Z1 (hM _ k4)) (zR ?_);refine o8 (b9O p m hp hm _) fun w2 e2=>?_;have k5:=k4.trans e2;refine zR ?_;refine d9 _ (A3 (hP _ k5)) (zR ?_);refine t7 z hz (zR ?_);refine J6 (g7 _ _) (Y9 p) rfl a1J (C4 p) (one_pos p) (by rw [hz69];omega) (fun w3 u3=>?_)
 have I:a1M W0 W0.heap.size w2.heap.size p w3 :=
  ⟨u3.cl (k5.trans (Cl.alloc _ _)) k5.size,yH _,k5.size,by
   have:=(Array.getElem?_eq_some_iff.1 (e2.blk i4)).1;omega,⟨z.cells,hz69,by rw [u3.else_ _ (by have:=(Array.getElem?_eq_some_iff.1 (e2.blk i4)).1;omega)];exact (Cl.alloc _ _).blk (e2.blk i4)⟩,
   by rw [u3.at_,B7 _ _ (by rw [C4,hz69])];rfl⟩
 clear u3;refine zG ?_;refine B0 (σ:=Unit) [] 10 (fun _=>[]) (fun _ w=>a1M W0 W0.heap.size w2.heap.size (Ch.a3v p m) w) zk ?_ (fun _ j w4 I=>?_)
 ·have hta:Ch.takes p m=true→0≤Ch.G5 p m∧Ch.G5 p m≤63:=fun h=>by
   unfold Ch.G5;simp only [h,if_true];split
   ·omega
   ·rw [a97 (by unfold Ch.o7;omega) (by unfold Ch.o7;omega) (by unfold Ch.l8;omega) (by unfold Ch.l8;omega)]
    unfold Ch.o7 Ch.l8;omega
  refine zR ?_;apply E.a0z<;>intro h
  ·have hta:=hta h;refine zR ?_;refine zC ?_;refine zR ?_;refine J6 I.b8 [.int .i64 0] rfl U1 rfl (by simp [Value.oneCell']) (by rw [z7];simp [E.U7];omega) (fun w4 u4=>zR ?_)
   exact ⟨(),trivial,I.upd u4 (by unfold Ch.a3v;rw [zM h];exact V3 _ _ _ hta.1 zo)⟩
  ·refine zR ?_;exact ⟨(),trivial,by unfold Ch.a3v;rw [h];exact I⟩
 refine zR ?_;refine d9 _ (N0 (hM _ I.cl)) (zR ?_);refine E.A2 (E5.2 ⟨a0,zo⟩) (zR ?_);refine J6 I.b8 [.int .i64 0] rfl U1 rfl (by simp [Value.oneCell']) (by rw [z7];simp [E.U7];omega) (fun w5 u5=>?_)
 have I:=I.upd u5 (V3 _ _ _ a0 zo);clear u5;refine zR ?_;refine d9 _ (a02 (hM _ I.cl)) (zR ?_);refine E.A2 (E5.2 ⟨b0,zo⟩) (zR ?_);refine J6 I.b8 [.int .i64 (Ch.sq p m.fr)] rfl U1 rfl (by simp [Value.oneCell']) (by rw [z7];simp [E.U7];omega) (fun w6 u6=>?_)
 have I:a1M W0 W0.heap.size w2.heap.size (Ch.a3w p m) w6:=I.upd u6 (V3 _ _ _ b0 zo);clear u6;refine zG ?_;refine B0 (σ:=Unit) [] 10 (fun _=>[]) (fun _ w=>a1M W0 W0.heap.size w2.heap.size (Ch.a1I p m) w) zk ?_ (fun _ j w9' I=>?_)
 ·refine zR ?_;refine d9 _ (a03 (hM _ I.cl)) (zR ?_);apply E.y8<;>intro h
  ·refine zR ?_;refine zK 9 ?_;refine zR ?_;refine m7 _ (fun w hw=>a02 (hM _ (I.cl.trans hw))) (zR ?_);refine m7 _ (fun w hw=>a03 (hM _ (I.cl.trans hw))) (zR ?_);refine m7 _ (fun w hw=>G7 (hP _ (I.cl.trans hw))) (zR ?_);refine o5 _ (fun w _=>a4r _ _ _ zo zo zo zo) (zR ?_);refine E.A2 (E5.2 ⟨b0,zo⟩) (zR ?_);intro w7 h7;have I:=I.step h7;refine zR ?_;refine J6 I.b8 [.int .i64 (m.promo+6*p.turn)] rfl U1 rfl (by simp [Value.oneCell']) (by rw [z7];simp [E.U7];omega) (fun w8 u8=>zR ?_)
   exact ⟨(),trivial,I.upd u8 (by unfold Ch.a1I;rw [zM h];exact V3 _ _ _ b0 zo)⟩
  ·refine zR ?_;exact ⟨(),trivial,by unfold Ch.a1I;rw [zJ zo];exact I⟩
 refine B0 (σ:=Unit) [9] 10 (fun _=>[]) (fun _ w=>a1M W0 W0.heap.size w2.heap.size (Ch.O3 p m) w) zk ?_ (fun _ j w9 I=>?_)
 ·have hp2:IntKind.i64.wrap (m.fr+2)=m.fr+2:=g9 zo zo;have hm2:IntKind.i64.wrap (m.fr-2)=m.fr-2:=g9 zo zo;refine zR ?_;refine g8 (O9 _ _ (hp.lo _) (hp.hi _)) (zR ?_);have no:Ch.W7 p m=false→a1M W0 W0.heap.size w2.heap.size (Ch.O3 p m) w9':=fun h=>by unfold Ch.O3;rw [h];exact I
  apply E.d6<;>intro h
  ·refine zR ?_;refine d9 _ (a02 (hM _ I.cl)) (zR ?_);refine d9 _ (N0 (hM _ I.cl)) (zR ?_);rw [hp2];rename_i hk;apply E.d6<;>intro h
   ·refine zR ?_;refine d9 _ (N0 (hM _ I.cl)) (zR ?_);refine g8 (Z3 _ _ a0 zo) (zR ?_);refine g8 (a2O _ _ _ zo zo (by unfold Ch.l8;omega) (by unfold Ch.l8;omega)) (zR ?_)
    refine d9 _ (a02 (hM _ I.cl)) (zR ?_);refine d9 _ (N0 (hM _ I.cl)) (zR ?_);refine E.p8 zo ?_;have hrk:0≤Ch.l8 m.fr∧Ch.l8 m.fr≤7:=by unfold Ch.l8;omega
    have hat:Ch.J5 7 (Ch.l8 m.fr)=8*Ch.l8 m.fr+7:=a97 zo zo hrk.1 hrk.2;refine zR ?_;refine zC ?_;refine zR ?_;refine J6 I.b8 [.int .i64 0] rfl U1 rfl (by simp [Value.oneCell']) (by rw [z7];simp [E.U7];omega) (fun w10 u10=>?_)
    have I:=I.upd u10 (V3 _ _ _ zo zo);clear u10;refine zR ?_;refine zK 11 ?_;refine zR ?_;refine m7 _ (fun w hw=>N0 (hM _ (I.cl.trans hw))) (zR ?_);refine m7 _ (fun w hw=>a02 (hM _ (I.cl.trans hw))) ?_;have hmid:IntKind.i64.wrap (Int.tdiv (IntKind.i64.wrap (m.fr+m.to)) 2)=(m.fr+m.to)/2:=by
     rw [g9 (n:=m.fr+m.to) zo zo,Int.tdiv_eq_ediv_of_nonneg zo,g9 zo zo]
    refine zR ?_;refine m7 _ (fun w hw=>G7 (hP _ (I.cl.trans hw))) (zR ?_);refine o5 _ (fun w _=>a4r _ _ _ zo zo zo zo) (zR ?_);rw [hmid];refine zC ?_;refine zR ?_;intro w11 h11;have I:=I.step h11;refine zR ?_;refine J6 I.b8 [.int .i64 (3+6*p.turn)] rfl U1 rfl (by simp [Value.oneCell']) (by rw [z7];simp [E.U7];omega) (fun w12 u12=>zR ?_)
    exact ⟨(),trivial,I.upd u12 (by
     unfold Ch.O3;rw [zM (by simp [Ch.W7, *]),zJ zo];exact V3 _ _ _ zo zo)⟩
   ·refine zR ?_;refine d9 _ (a02 (hM _ I.cl)) (zR ?_);refine d9 _ (N0 (hM _ I.cl)) (zR ?_);rw [hm2];rename_i h2;apply E.d6<;>intro h
    ·refine zR ?_;refine d9 _ (N0 (hM _ I.cl)) (zR ?_);refine g8 (Z3 _ _ a0 zo) (zR ?_);refine g8 (a2O _ _ _ zo zo (by unfold Ch.l8;omega) (by unfold Ch.l8;omega)) (zR ?_)
     refine d9 _ (a02 (hM _ I.cl)) (zR ?_);refine d9 _ (N0 (hM _ I.cl)) (zR ?_);refine E.A0 zo (zR ?_);refine d9 _ (N0 (hM _ I.cl)) (zR ?_);refine g8 (Z3 _ _ a0 zo) (zR ?_);refine g8 (a2O _ _ _ zo zo (by unfold Ch.l8;omega) (by unfold Ch.l8;omega)) ?_
     have hrk:0≤Ch.l8 m.fr∧Ch.l8 m.fr≤7:=by unfold Ch.l8;omega
     have hat:Ch.J5 0 (Ch.l8 m.fr)=8*Ch.l8 m.fr+0:=a97 zo zo hrk.1 hrk.2;refine zR ?_;refine zC ?_;refine zR ?_;refine J6 I.b8 [.int .i64 0] rfl U1 rfl (by simp [Value.oneCell']) (by rw [z7];simp [E.U7];omega) (fun w10 u10=>?_)
     have I:=I.upd u10 (V3 _ _ _ zo zo);clear u10;refine zR ?_;refine zK 11 ?_;refine zR ?_;refine m7 _ (fun w hw=>N0 (hM _ (I.cl.trans hw))) (zR ?_);refine m7 _ (fun w hw=>a02 (hM _ (I.cl.trans hw))) ?_;have hmid:IntKind.i64.wrap (Int.tdiv (IntKind.i64.wrap (m.fr+m.to)) 2)=(m.fr+m.to)/2:=by
      rw [g9 (n:=m.fr+m.to) zo zo,Int.tdiv_eq_ediv_of_nonneg zo,g9 zo zo]
     refine zR ?_;refine m7 _ (fun w hw=>G7 (hP _ (I.cl.trans hw))) (zR ?_);refine o5 _ (fun w _=>a4r _ _ _ zo zo zo zo) (zR ?_);rw [hmid];refine zC ?_;refine zR ?_;intro w11 h11;have I:=I.step h11;refine zR ?_;refine J6 I.b8 [.int .i64 (3+6*p.turn)] rfl U1 rfl (by simp [Value.oneCell']) (by rw [z7];simp [E.U7];omega) (fun w12 u12=>zR ?_)
     exact ⟨(),trivial,I.upd u12 (by
      unfold Ch.O3;rw [zM (by simp [Ch.W7, *]),zM zo];exact V3 _ _ _ zo zo)⟩
    ·refine zR ?_;exact ⟨(),trivial,no (by simp [Ch.W7, *])⟩
  ·refine zR ?_;exact ⟨(),trivial,no (by simp [Ch.W7, *])⟩
 refine zR ?_;refine d9 _ (a1H (hP _ I.cl)) (zR ?_);refine d9 _ (Z1 (hM _ I.cl)) (zR ?_);refine o8 (c2v p.castle m _ c0 c1) fun w13 e13=>?_;have I:=I.step e13;refine zR ?_;refine J6 I.b8 [.int .i64 (Ch.left p.castle m)] rfl U1 rfl (by simp [Value.oneCell']) (by rw [z7];decide) (fun w14 u14=>?_)
 have I:=I.upd u14 (P7 _ { Ch.O3 p m with castle:=Ch.left p.castle m } 65 _ zo rfl rfl);clear u14;refine zR ?_;refine J6 I.b8 [.int .i64 (-1)] rfl U1 rfl (by simp [Value.oneCell']) (by rw [z7];decide) (fun w15 u15=>?_)
 have I:=I.upd u15 (P7 _ { Ch.O3 p m with castle:=Ch.left p.castle m,ep:=-1 } 66 _ zo rfl rfl);clear u15;refine zG ?_;have hp16:IntKind.i64.wrap (m.fr+16)=m.fr+16:=g9 zo zo;have hm16:IntKind.i64.wrap (m.fr-16)=m.fr-16:=g9 zo zo;have hmid:IntKind.i64.wrap (Int.tdiv (IntKind.i64.wrap (m.fr+m.to)) 2)=(m.fr+m.to)/2:=by
  rw [g9 (n:=m.fr+m.to) zo zo,Int.tdiv_eq_ediv_of_nonneg zo,g9 zo zo]
 refine B0 (σ:=Unit) [] 10 (fun _=>[]) (fun _ w=>a1M W0 W0.heap.size w2.heap.size { Ch.O3 p m with castle:=Ch.left p.castle m,ep:=(if Ch.H7 p m then (m.fr+m.to)/2 else -1) } w) zk ?_ (fun _ j w17 I=>?_)
 ·refine zR ?_;refine g8 (O9 _ _ (hp.lo _) (hp.hi _)) (zR ?_);have no:Ch.H7 p m=false→(if Ch.H7 p m then (m.fr+m.to)/2 else -1)=-1:=fun h=>by rw [h];rfl
  apply E.d6<;>intro h
  ·rename_i hk;refine zR ?_;refine d9 _ (a02 (hM _ I.cl)) (zR ?_);refine d9 _ (N0 (hM _ I.cl)) (zR ?_);rw [hp16];apply E.d6<;>intro h
   ·refine zR ?_;refine d9 _ (N0 (hM _ I.cl)) (zR ?_);refine d9 _ (a02 (hM _ I.cl)) (zR ?_);rw [hmid];refine J6 I.b8 [.int .i64 ((m.fr+m.to)/2)] rfl U1 rfl (by simp [Value.oneCell']) (by rw [z7];decide) (fun w18 u18=>zR ?_)
    exact ⟨(),trivial,I.upd u18 (by rw [zM (by simp [Ch.H7, *])];exact P7 _ _ 66 _ zo rfl rfl)⟩
   ·rename_i h2;refine zR ?_;refine d9 _ (a02 (hM _ I.cl)) (zR ?_);refine d9 _ (N0 (hM _ I.cl)) (zR ?_);rw [hm16];apply E.d6<;>intro h
    ·refine zR ?_;refine d9 _ (N0 (hM _ I.cl)) (zR ?_);refine d9 _ (a02 (hM _ I.cl)) (zR ?_);rw [hmid];refine J6 I.b8 [.int .i64 ((m.fr+m.to)/2)] rfl U1 rfl (by simp [Value.oneCell']) (by rw [z7];decide) (fun w18 u18=>zR ?_)
     exact ⟨(),trivial,I.upd u18 (by rw [zM (by simp [Ch.H7, *])];exact P7 _ _ 66 _ zo rfl rfl)⟩
    ·refine zR ?_;exact ⟨(),trivial,by rw [no (by simp [Ch.H7, *])];exact I⟩
  ·refine zR ?_;exact ⟨(),trivial,by rw [no (by simp [Ch.H7, *])];exact I⟩
 have h4:(Ch.O3 p m).half=p.half∧(Ch.O3 p m).full=p.full∧(Ch.O3 p m).turn=p.turn:=by
  unfold Ch.O3 Ch.a1I Ch.a3w Ch.a3v;split<;>split<;>split<;>simp
 obtain ⟨q1,q2,q3⟩:=h4;have hh1:IntKind.i64.wrap (p.half+1)=p.half+1:=g9 zo zo;have hft:IntKind.i64.wrap (p.full+p.turn)=p.full+p.turn:=g9 zo zo;have h1t:IntKind.i64.wrap (1-p.turn)=1-p.turn:=g9 zo zo;refine zR ?_;refine d9 _ (a8f I.b8) (zR ?_);rw [show IntKind.i64.wrap ((Ch.O3 p m).half+1)=p.half+1 by rw [q1,hh1]]
 refine J6 I.b8 [.int .i64 (p.half+1)] rfl U1 rfl (by simp [Value.oneCell']) (by rw [z7];decide) (fun w19 u19=>?_)
 have I:=I.upd u19 (P7 _ { Ch.O3 p m with castle:=Ch.left p.castle m,ep:=(if Ch.H7 p m then (m.fr+m.to)/2 else -1),half:=p.half+1 } 67 _ zo rfl rfl)
 clear u19;refine zG ?_;refine B0 (σ:=Unit) [] 10 (fun _=>[]) (fun _ w=>a1M W0 W0.heap.size w2.heap.size { Ch.O3 p m with castle:=Ch.left p.castle m,ep:=(if Ch.H7 p m then (m.fr+m.to)/2 else -1),half:=(if Ch.takes p m||decide (Ch.kindOf (Ch.sq p m.fr)=6) then 0 else p.half+1) } w) zk ?_ (fun _ j w20 I=>?_)
 ·refine zR ?_;apply E.a0z<;>intro h
  ·refine zR ?_;refine J6 I.b8 [.int .i64 0] rfl U1 rfl (by simp [Value.oneCell']) (by rw [z7];decide) (fun w21 u21=>zR ?_)
   exact ⟨(),trivial,I.upd u21 (by rw [show (Ch.takes p m||decide (Ch.kindOf (Ch.sq p m.fr)=6))=true by simp [h]];exact P7 _ _ 67 _ zo rfl rfl)⟩
  ·refine zR ?_;refine g8 (O9 _ _ (hp.lo _) (hp.hi _)) (zR ?_);rename_i ht;apply E.d6<;>intro h
   ·refine zR ?_;refine J6 I.b8 [.int .i64 0] rfl U1 rfl (by simp [Value.oneCell']) (by rw [z7];decide) (fun w21 u21=>zR ?_)
    exact ⟨(),trivial,I.upd u21 (by rw [show (Ch.takes p m||decide (Ch.kindOf (Ch.sq p m.fr)=6))=true by simp [*]];exact P7 _ _ 67 _ zo rfl rfl)⟩
   ·refine zR ?_;exact ⟨(),trivial,by rw [show (Ch.takes p m||decide (Ch.kindOf (Ch.sq p m.fr)=6))=false by simp [*]];exact I⟩
 refine zR ?_;refine d9 _ (b0y I.b8) (zR ?_);refine d9 _ (G7 (hP _ I.cl)) (zR ?_);rw [show IntKind.i64.wrap ((Ch.O3 p m).full+p.turn)=p.full+p.turn by rw [q2,hft]]
 refine J6 I.b8 [.int .i64 (p.full+p.turn)] rfl U1 rfl (by simp [Value.oneCell']) (by rw [z7];decide) (fun w22 u22=>?_)
 have I:=I.upd u22 (P7 _ { Ch.O3 p m with castle:=Ch.left p.castle m,ep:=(if Ch.H7 p m then (m.fr+m.to)/2 else -1),half:=(if Ch.takes p m||decide (Ch.kindOf (Ch.sq p m.fr)=6) then 0 else p.half+1),full:=p.full+p.turn } 68 _ zo rfl rfl)
 clear u22;refine zR ?_;refine d9 _ (G7 (hP _ I.cl)) (zR ?_);rw [h1t];refine J6 I.b8 [.int .i64 (1-p.turn)] rfl U1 rfl (by simp [Value.oneCell']) (by rw [z7];decide) (fun w23 u23=>?_)
 have I:a1M W0 W0.heap.size w2.heap.size (Ch.made p m) w23:=I.upd u23 (P7 _ (Ch.made p m) 64 _ zo rfl rfl);clear u23;refine zR ?_;refine d9 _ (A3 I.b8) (zR ?_);obtain ⟨cs,hcs,i4'⟩:=I.b4;refine J6 i4' (Y9 (Ch.made p m)) rfl a1J (C4 _) (one_pos _) (by rw [hcs];decide) (fun w24 u24=>zR ?_)
 refine d9 _ (A3 (p:=Ch.made p m) (by rw [u24.at_,B7 _ _ (by rw [C4,hcs])];rfl)) (zR ?_)
 exact ⟨rfl,hE _ (u24.cl I.cl I.lo4)⟩
def b15 {α:Type} (e z:Nat) (enc:α→List Value) (l:List α) (w:World):Ending→World→Prop:=fun r w'=>∃ v,r = .returned v∧Row e z enc w.heap.size w' v l∧Cl w w'
theorem N4 (x:Int):(R8 x).length=1:=rfl
theorem E0 (x:Mv):(N1 x).length=3:=rfl
theorem a1N (x:Int):∀ u∈R8 x,u.oneCell'=true:=by intro u hu;simp [R8] at hu;subst hu;rfl
theorem O5 (x:Mv):∀ u∈N1 x,u.oneCell'=true:=by intro u hu;simp [N1] at hu;rcases hu with rfl | rfl | rfl<;>rfl
theorem a3x {α:Type} {e z:Nat} {enc:α→List Value} {l:List α} {w:World} {f:Nat} {args:Array Value} {K:Value→World→Prop} (h:Calls G.P f args w (b15 e z enc l w))
  (hk:∀ v w',Row e z enc w.heap.size w' v l→Cl w w'→K v w'):b1t G.P f args w K :=
 ⟨h.mono fun _ w' ⟨v,h1,h2,h3⟩=>⟨v,h1,hk v w' h2 h3⟩⟩
theorem a5s {α:Type} {t e z b:Nat} (E1:H6 t e z b) {enc:α→List Value} {b0:Nat} {v:Value} {l:List α} {x:α} {dst:Option Nat} {s y:Operand} {ty:Nat} {pos:String} {af:Array Edge} {gd:Option (Nat×Bool)} {env:C8} {w w1:World} {u:Nat} {cs:Array Value} {K:Value→World→Prop}
  (hs:ev env s=v) (hrow:Row e z enc b0 w1 v l) (hw:w=w1.alloc (.cells cs u)) (hx:ev env y = .slice (some ⟨w1.heap.size,0,none⟩) 1 1) (hcs:cs.toList=enc x) (henc:∀ x,(enc x).length=z)
  (hone:∀ x,∀ u∈enc x,u.oneCell'=true) (hlen:l.length+1≤100000) (hbz:b≤1000) (hb0:b0≤w1.heap.size)
  (h:∀ v' w',Row e z enc b0 w' v' (l++[x])→(∀ w0,w0.heap.size=b0→Cl w0 w1→Cl w0 w')→K v' w') :
  L5 G.P { dst,op:=.call { callee:=.builtin .append,args:=#[s,y],argTypes:=#[t,t] },type:=ty,pos,after:=af,guard:=gd } env w K:=by
 subst hw;refine b9I E1 (news:=[x]) (B:=w1.heap.size) (c:=1) (cs:=cs) hs (hrow.step (Cl.alloc _ _)) hx (g7 _ _) (by simp [hcs]) henc hone (by simpa using hlen) hbz (by rw [A8];omega) fun v' w' h1 h2=>h v' w' h1 fun w0 e h3=>h2 w0 e (h3.trans (Cl.alloc _ _))
def a2p (fr side:Int):Nat→List Int
 | 0=>[]
 | n+1=>a2p fr side n++Ch.a2b fr side (2*(n:Int)-1)
theorem c2w (f s:Int) (w:World) (h0:0≤f) (h1:f≤63) (s0:0≤s) (s1:s≤1) :
  Calls G.P 216 #[.int .i64 f,.int .i64 s] w (b15 3 1 R8 (Ch.N2 f s) w):=by
 refine zN Tryz.func216 ?_;refine zG ?_;refine zR ?_;refine A9 (σ:=Nat×Value) [5,6,7] 8 (fun a=>[(5,a.2),(6,.int .i64 (2*(a.1:Int)-1))]) (fun a w'=>a.1≤2∧Row 3 1 R8 w.heap.size w' a.2 (a2p f s a.1)∧Cl w w') (fun a=>2-a.1) zk (0,.slice none 0 0)
  ⟨zo,Row.nil _ _,Cl.refl _⟩ ⟨rfl,rfl,trivial⟩ ?_
 rintro ⟨n,v⟩ j w1 ⟨hn,hrow,hcl⟩;simp only at hn hrow;obtain ⟨a,c,rfl,_⟩:=hrow.form;refine zR ?_;apply E.d6<;>intro h
 ·have hn2:n<2:=by omega
  refine zR ?_;refine g8 (a2o _ _ zo) (zR ?_);refine g8 (Z3 _ _ zo zo) (zR ?_);refine g8 (b5A _ _ zo zo) (zR ?_);refine g8 (a2O _ _ _ (by exact zO) (by exact zO) (by exact zO) (by exact zO)) (zR ?_)
  have e1:IntKind.i64.wrap (Ch.o7 f+(2*(n:Int)-1))=Ch.o7 f+(2*(n:Int)-1):=g9 (by unfold Ch.o7;omega) (by unfold Ch.o7;omega)
  have e2:IntKind.i64.wrap (Ch.l8 f+Ch.up s)=Ch.l8 f+Ch.up s:=g9 (by unfold Ch.l8 Ch.up;omega) (by unfold Ch.l8 Ch.up;omega)
  simp only [e1,e2];have hlen:(a2p f s n).length≤2:=by
   have:∀ m,(a2p f s m).length≤m:=by
    intro m;induction m with
    | zero=>simp [a2p]
    | succ m ih=>simp only [a2p,zF];unfold Ch.a2b;split<;>simp<;>omega
   have:=this n;omega
  generalize hX:Ch.J5 (Ch.o7 f+(2*(n:Int)-1)) (Ch.l8 f+Ch.up s)=X;have hstep:a2p f s (n+1)=a2p f s n++(if 0≤X then [X] else []):=by rw [← hX];rfl
  apply E.d6<;>intro h
  ·refine zR ?_;refine zL a2x [.int .i64 X] ?_;refine zR ?_;refine a5s a2x rfl hrow rfl rfl rfl N4 a1N zo zd hcl.size (fun v' w' hr hc=>?_);obtain ⟨a',c',rfl,_⟩:=hr.form;refine zR ?_;refine ⟨(n+1,_),⟨rfl,d7 (by rw [g9 zo zo];push_cast;omega),trivial⟩,⟨zo,?_,hc w rfl hcl⟩,by simp only;omega⟩
   rw [hstep,zM h];exact hr
  ·refine zR ?_;refine ⟨(n+1,_),⟨rfl,d7 (by rw [g9 zo zo];push_cast;omega),trivial⟩,⟨zo,?_,hcl⟩,by simp only;omega⟩
   rw [hstep,zJ h,zm];exact hrow
 ·have hn2:n=2:=by omega
  subst hn2;refine zR ?_;refine ⟨_,rfl,?_,hcl⟩;have:a2p f s 2=Ch.N2 f s:=by simp [a2p,Ch.N2]
  rw [← this];exact hrow
theorem s7 {t:Nat} (cells:Array Value) {dst:Option Nat} {parts:Array (Nat×Operand)} {ty:Nat} {pos:String} {af:Array Edge} {gd:Option (Nat×Bool)} {env:C8} {w:World} {K:Value→World→Prop}
  (hb:G.P.built t (parts.toList.map fun (i,x)=>(i,ev env x))=some cells) (h:K (.agg cells) w) :
  L5 G.P { dst,op:=.build t parts,type:=ty,pos,after:=af,guard:=gd } env w K:=by
 refine ⟨.inl ⟨_,_,?_,h⟩⟩;show (do pure (Next.value (← Instr.build t (parts.map fun (i,x)=>(i,ev env x)))):Sem Next).run G.P w=_
 rw [Sem.run_bind,Go.run_build w t _ cells (by rw [zb];exact hb)];rfl
theorem a8i {C:World→Prop} {t:Nat} (cells:Array Value) {dst:Option Nat} {parts:Array (Nat×Operand)} {ty:Nat} {pos:String} {af:Array Edge} {gd:Option (Nat×Bool)} {env:C8} {K:Value→Prop}
  (hb:G.P.built t (parts.toList.map fun (i,x)=>(i,ev env x))=some cells) (h:K (.agg cells)) :
  a9r G.P C { dst,op:=.build t parts,type:=ty,pos,after:=af,guard:=gd } env K:=by
 refine ⟨_,fun w _=>?_,h⟩;show (do pure (Next.value (← Instr.build t (parts.map fun (i,x)=>(i,ev env x)))):Sem Next).run G.P w=_
 rw [Sem.run_bind,Go.run_build w t _ cells (by rw [zb];exact hb)];rfl
theorem K5 {α:Type} {enc:α→List Value} {z:Nat} (henc:∀ x,(enc x).length=z) (l:List α):(l.flatMap enc).length=l.length*z:=by
 induction l with
 | nil=>simp
 | cons x r ih=>rw [List.flatMap_cons,zF,henc,ih,zh,Nat.succ_mul];omega
theorem c3Y {x:Nat} (h:Nat.beq x 0=true):x=0:=zr h
theorem bz0 (x:Nat):(bif Nat.beq x 0 then 0 else x)=x:=by
 cases h:Nat.beq x 0
 ·rfl
 ·rw [c3Y h];rfl
theorem bz1 (x k:Nat):(bif Nat.beq x 0 then k else x+k)=x+k:=by
 cases h:Nat.beq x 0
 ·rfl
 ·rw [c3Y h,yV];rfl
theorem C1 {α:Type} {enc:α→List Value} {e z:Nat} (henc:∀ x,(enc x).length=z) (w:World) (l:List α) (hm:l.length≤100000) (vs:List Value) (hv:(vs.flatMap fun v=>v.cells.toList)=l.flatMap enc) :
  Row e z enc w.heap.size (w.alloc (.cells (vs.flatMap fun v=>v.cells.toList).toArray e)) (.slice (some ⟨w.heap.size,0,none⟩) l.length l.length) l:=by
 rw [hv];refine ⟨K5 henc l,.inr ⟨w.heap.size,l.length,_,rfl,yH _,g7 _ _,yH _,by unfold maxLen;omega,by simp [K5 henc],?_⟩⟩
 simp only [List.toList_toArray];rw [List.take_of_length_le (by rw [K5 henc];exact yH _)]
theorem b16 {α:Type} {t e z b:Nat} (E1:H6 t e z b) {enc:α→List Value} {b0 b1:Nat} {v:Value} {l news:List α} {dst:Option Nat} {s x:Operand} {ty:Nat} {pos:String} {af:Array Edge} {gd:Option (Nat×Bool)} {env:C8} {w:World} {K:Value→World→Prop}
  {g c:Nat} (hs:ev env s=v) (hrow:Row e z enc b0 w v l) (hx:ev env x = .slice (some ⟨g,0,none⟩) news.length c) (hB:Row e z enc b1 w (.slice (some ⟨g,0,none⟩) news.length c) news) (henc:∀ x,(enc x).length=z)
  (hone:∀ x,∀ u∈enc x,u.oneCell'=true) (hlen:l.length+news.length≤100000) (hbz:b≤1000) (hb0:b0≤w.heap.size)
  (h:∀ v' w',Row e z enc b0 w' v' (l++news)→(∀ w0,w0.heap.size=b0→Cl w0 w→Cl w0 w')→K v' w') :
  L5 G.P { dst,op:=.call { callee:=.builtin .append,args:=#[s,x],argTypes:=#[t,t] },type:=ty,pos,after:=af,guard:=gd } env w K:=by
 obtain ⟨i,zv,hi,hzv,hsz,hby,hzs⟩:=E1.info;obtain ⟨v',w',h1,h2,h3,_⟩:=run_append_own (P:=G.P) w b0 t ty e i zv z b E1.ty hi hzv hsz hby hzs E1.pos v l.length (l.flatMap enc) hrow ⟨g,0,none⟩ news.length c (news.flatMap enc)
  (K5 henc news)
  (fun j u' hu=>by
   rcases hB.2 with ⟨e1,_⟩ | ⟨g',cap,cur,e1,_,e3,_,_,_,e7⟩
   ·cases e1
   ·injection e1 with e1 _ _;injection e1 with e1;injection e1 with e1 _ _;subst e1;have hj:j<news.length*z:=by
     have:=(List.getElem?_eq_some_iff.1 hu).1
     rwa [K5 henc] at this
    rw [H5,D2 e3,yV,← Array.getElem?_toList];rw [← e7,List.getElem?_take,zM hj] at hu;exact hu)
  (fun u hu=>by obtain ⟨x,_,hx⟩:=List.mem_flatMap.1 hu;exact hone x u hx)
  (by unfold maxLen;omega) (by
   have:(l.length+news.length)*b≤100000*1000:=Nat.mul_le_mul hlen hbz;omega) hb0
 refine ⟨.inl ⟨v',w',?_,h v' w' ⟨by simpa using h2.1,by simpa using h2.2⟩ fun w0 hw0 hc=>?_⟩⟩
 ·simp only [execOp,resolve,invoke,builtin,Sem.run_bind,Sem.run_pure,Result.andThen_ok,List.map_toArray,yP,List.map_nil,hs,hx,h1]
 ·subst hw0;refine Below.grown hc h3 hb0 fun k hk=>?_;rcases hrow.2 with ⟨e1,_⟩ | ⟨g,cap,cur,e1,e2,_⟩
  ·rw [e1] at hk;cases hk
  ·rw [e1] at hk;injection hk with hk;subst hk;exact e2
structure a7s (b0:Nat) (w:World) (v:Value) (w':World) (v':Value):Prop where
 cl:∀ w0,w0.heap.size=b0→Cl w0 w→Cl w0 w'
 keep:∀ k o,w.heap[k]?=some o→v.ownBlock≠some k→w'.heap[k]?=some o
 at_:v'.ownBlock=v.ownBlock∨(∃ k,v'.ownBlock=some k∧w.heap.size≤k)
theorem a7s.ne {b0:Nat} {w w':World} {v v':Value} (h:a7s b0 w v w' v') {g:Nat} (hg:g<w.heap.size) (hv:v.ownBlock≠some g):v'.ownBlock≠some g:=by
 rcases h.at_ with e | ⟨k,e,hk⟩
 ·rw [e];exact hv
 ·rw [e];intro e2;injection e2 with e2;omega
theorem Row.keep {α:Type} {e z b0:Nat} {enc:α→List Value} {w w':World} {l:List α} {g n c:Nat} (h:Row e z enc b0 w (.slice (some ⟨g,0,none⟩) n c) l) (hk:∀ o,w.heap[g]?=some o→w'.heap[g]?=some o):Row e z enc b0 w' (.slice (some ⟨g,0,none⟩) n c) l:=by
 refine ⟨h.1,?_⟩;rcases h.2 with ⟨e1,_⟩ | ⟨g',cap,cur,e1,e2,e3,e4⟩
 ·cases e1
 ·injection e1 with e1 e5 e6;injection e1 with e1;injection e1 with e1 _ _;subst e1;subst e6;subst e5;exact .inr ⟨g,c,cur,rfl,e2,hk _ e3,e4⟩
theorem Row.lt {α:Type} {e z b0:Nat} {enc:α→List Value} {w:World} {l:List α} {g n c:Nat} (h:Row e z enc b0 w (.slice (some ⟨g,0,none⟩) n c) l):b0≤g∧g<w.heap.size:=World.ownsRow.lt h g rfl
theorem a5t {α:Type} {t e z b:Nat} (E1:H6 t e z b) {enc:α→List Value} {b0:Nat} {v:Value} {l news:List α} {dst:Option Nat} {s x:Operand} {ty:Nat} {pos:String} {af:Array Edge} {gd:Option (Nat×Bool)} {env:C8} {w:World} {K:Value→World→Prop}
  {g c:Nat} (hs:ev env s=v) (hrow:Row e z enc b0 w v l) (hx:ev env x = .slice (some ⟨g,0,none⟩) news.length c) (hB:∀ (j:Nat) (u:Value),(news.flatMap enc)[j]?=some u→w.cell? ⟨g,j,none⟩=some u) (henc:∀ x,(enc x).length=z)
  (hone:∀ x,∀ u∈enc x,u.oneCell'=true) (hlen:l.length+news.length≤100000) (hbz:b≤1000) (hb0:b0≤w.heap.size)
  (h:∀ v' w',Row e z enc b0 w' v' (l++news)→a7s b0 w v w' v'→K v' w') :
  L5 G.P { dst,op:=.call { callee:=.builtin .append,args:=#[s,x],argTypes:=#[t,t] },type:=ty,pos,after:=af,guard:=gd } env w K:=by
 obtain ⟨i,zv,hi,hzv,hsz,hby,hzs⟩:=E1.info;obtain ⟨v',w',h1,h2,h3,_,h5⟩:=run_append_own_at (P:=G.P) w b0 t ty e i zv z b E1.ty hi hzv hsz hby hzs E1.pos v l.length (l.flatMap enc) hrow ⟨g,0,none⟩ news.length c (news.flatMap enc)
  (K5 henc news) (fun j u' hu=>by rw [H5,yV];exact hB j u' hu)
  (fun u hu=>by obtain ⟨x,_,hx⟩:=List.mem_flatMap.1 hu;exact hone x u hx)
  (by unfold maxLen;omega) (by
   have:(l.length+news.length)*b≤100000*1000:=Nat.mul_le_mul hlen hbz;omega) hb0
 refine ⟨.inl ⟨v',w',?_,h v' w' ⟨by simpa using h2.1,by simpa using h2.2⟩ ⟨fun w0 hw0 hc=>?_,fun k o hk hne=>?_,?_⟩⟩⟩
 ·simp only [execOp,resolve,invoke,builtin,Sem.run_bind,Sem.run_pure,Result.andThen_ok,List.map_toArray,yP,List.map_nil,hs,hx,h1]
 ·subst hw0;refine Below.grown hc h3 hb0 fun k hk=>?_;rcases hrow.2 with ⟨e1,_⟩ | ⟨g,cap,cur,e1,e2,_⟩
  ·rw [e1] at hk;cases hk
  ·rw [e1] at hk;injection hk with hk;subst hk;exact e2
 ·rw [h3.block k (Array.getElem?_eq_some_iff.1 hk).1 (fun e=>hne e.symm)];exact hk
 ·rcases h5 with h5 | h5
  ·exact .inl h5
  ·exact .inr ⟨_,h5,yH _⟩
theorem S0 {α:Type} {t e z b:Nat} (E1:H6 t e z b) {enc:α→List Value} {b0:Nat} {v:Value} {l:List α} (x:α) {dst:Option Nat} {s y:Operand} {ty:Nat} {pos:String} {af:Array Edge} {gd:Option (Nat×Bool)} {env:C8} {w w1:World} {u:Nat} {cs:Array Value} {K:Value→World→Prop}
  (hs:ev env s=v) (hrow:Row e z enc b0 w1 v l) (hw:w=w1.alloc (.cells cs u)) (hx:ev env y = .slice (some ⟨w1.heap.size,0,none⟩) 1 1) (hcs:cs.toList=enc x) (henc:∀ x,(enc x).length=z)
  (hone:∀ x,∀ u∈enc x,u.oneCell'=true) (hlen:l.length+1≤100000) (hbz:b≤1000) (hb0:b0≤w1.heap.size)
  (h:∀ v' w',Row e z enc b0 w' v' (l++[x])→a7s b0 w1 v w' v'→K v' w') :
  L5 G.P { dst,op:=.call { callee:=.builtin .append,args:=#[s,y],argTypes:=#[t,t] },type:=ty,pos,after:=af,guard:=gd } env w K:=by
 subst hw;refine a5t E1 (news:=[x]) (g:=w1.heap.size) (c:=1) hs (hrow.step (Cl.alloc _ _)) hx (fun j u' hu=>?_) henc hone (by simpa using hlen) hbz (by rw [A8];omega) fun v' w' h1 h2=>h v' w' h1 ⟨fun w0 e h3=>h2.cl w0 e (h3.trans (Cl.alloc _ _)),fun k o hk hne=>h2.keep k o ((Cl.alloc _ _).blk hk) hne,?_⟩
 ·rw [D2 (g7 _ _),← Array.getElem?_toList,hcs];simpa using hu
 ·rcases h2.at_ with e | ⟨k,e,hk⟩
  ·exact .inl e
  ·rw [A8] at hk;exact .inr ⟨k,e,zo⟩
theorem N9 {α:Type} {e z b0:Nat} {enc:α→List Value} {w:World} {l:List α} {g c n:Nat} {t:Nat} (h:Row e z enc b0 w (.slice (some ⟨g,0,none⟩) n c) l) (henc:∀ x,(enc x).length=z) (i k:Nat) (hi:i<l.length) (hk:k<z) {v:Value}
  (hv:(enc l[i])[k]?=some v) {o:Nat} (ho:o=i*z+k) (ht:a8e (W1 G.T t)=true):o4 G.P w t ⟨g,o,none⟩ v:=by
 subst ho;obtain ⟨cur,h1,h2⟩:=h.get henc i k hi hk;exact D8 h1 (by rw [h2,hv]) ht
def a4F (d:Int×Int):List Value:=[.int .i64 d.1,.int .i64 d.2]
theorem a0k (x:Int×Int):(a4F x).length=2:=rfl
theorem a8j (x:Int×Int):∀ u∈a4F x,u.oneCell'=true:=by intro u hu;simp [a4F] at hu;rcases hu with rfl | rfl<;>rfl
theorem b17:H6 250 180 2 16:=S9 zk
def c2x (d:Int×Int):Value:=.agg #[.int .i64 d.1,.int .i64 d.2]
theorem a4G (w:World):Calls G.P 264 #[] w (b15 180 2 a4F Ch.straight w):=by
 refine zN Tryz.func264 ?_;refine zG ?_;refine zR ?_;refine s7 #[.int .i64 0,.int .i64 1] zk (zR ?_);refine s7 #[.int .i64 1,.int .i64 0] zk (zR ?_);refine s7 #[.int .i64 0,.int .i64 (-1)] zk (zR ?_);refine s7 #[.int .i64 (-1),.int .i64 0] zk (zR ?_);refine B6 b17 (Ch.straight.map c2x) (by rw [zb];rfl) (by intro v hv;obtain ⟨d,_,rfl⟩:=List.mem_map.1 hv;rfl) rfl zd zd (zR ?_)
 exact ⟨_,rfl,C1 a0k w Ch.straight zd _ rfl,Cl.alloc _ _⟩
theorem a4H (w:World):Calls G.P 265 #[] w (b15 180 2 a4F Ch.slanting w):=by
 refine zN Tryz.func265 ?_;refine zG ?_;refine zR ?_;refine s7 #[.int .i64 1,.int .i64 1] zk (zR ?_);refine s7 #[.int .i64 1,.int .i64 (-1)] zk (zR ?_);refine s7 #[.int .i64 (-1),.int .i64 (-1)] zk (zR ?_);refine s7 #[.int .i64 (-1),.int .i64 1] zk (zR ?_);refine B6 b17 (Ch.slanting.map c2x) (by rw [zb];rfl) (by intro v hv;obtain ⟨d,_,rfl⟩:=List.mem_map.1 hv;rfl) rfl zd zd (zR ?_)
 exact ⟨_,rfl,C1 a0k w Ch.slanting zd _ rfl,Cl.alloc _ _⟩
theorem b9Q (w:World):Calls G.P 266 #[] w (b15 180 2 a4F Ch.jumps w):=by
 refine zN Tryz.func266 ?_;refine zG ?_;refine zR ?_;refine s7 #[.int .i64 1,.int .i64 2] zk (zR ?_);refine s7 #[.int .i64 2,.int .i64 1] zk (zR ?_);refine s7 #[.int .i64 2,.int .i64 (-1)] zk (zR ?_);refine s7 #[.int .i64 1,.int .i64 (-2)] zk (zR ?_);refine s7 #[.int .i64 (-1),.int .i64 (-2)] zk (zR ?_);refine s7 #[.int .i64 (-2),.int .i64 (-1)] zk (zR ?_);refine s7 #[.int .i64 (-2),.int .i64 1] zk (zR ?_);refine s7 #[.int .i64 (-1),.int .i64 2] zk (zR ?_);refine B6 b17 (Ch.jumps.map c2x) (by rw [zb];rfl) (by intro v hv;obtain ⟨d,_,rfl⟩:=List.mem_map.1 hv;rfl) rfl zd zd (zR ?_)
 exact ⟨_,rfl,C1 a0k w Ch.jumps zd _ rfl,Cl.alloc _ _⟩
theorem c2y (k:Int) (w:World):Calls G.P 217 #[.int .i64 k] w (fun r w'=>∃ v,r = .returned (.tuple #[v,.bool (Ch.far k)])∧Row 180 2 a4F w.heap.size w' v (Ch.a7q k)∧Cl w w'):=by
 refine zN Tryz.func217 ?_;refine zG ?_;refine zR ?_;apply E.d6<;>intro h
 ·subst h;refine zR ?_;refine a3x (a4G _) fun v w1 h1 c1=>?_;obtain ⟨a,c,rfl,ha⟩:=h1.form;refine zR ?_;refine a3x (a4H _) fun v2 w2 h2 c2=>?_;obtain ⟨a2,cc,rfl,ha2⟩:=h2.form;obtain ⟨g2,rfl⟩:=ha2 zd;refine zR ?_;refine b16 b17 rfl (h1.step c2) rfl h2 a0k a8j zd zd (c1.trans c2).size (fun v' w' hr hc=>?_);obtain ⟨a',c',rfl,_⟩:=hr.form;refine zR ?_;exact ⟨_,rfl,hr,hc w rfl (c1.trans c2)⟩
 have k1:=h;clear h;refine zR ?_;apply E.d6<;>intro h
 ·subst h;refine zR ?_;refine a3x (a4G _) fun v w1 h1 c1=>?_;obtain ⟨a,c,rfl,ha⟩:=h1.form;refine zR ?_;refine a3x (a4H _) fun v2 w2 h2 c2=>?_;obtain ⟨a2,cc,rfl,ha2⟩:=h2.form;obtain ⟨g2,rfl⟩:=ha2 zd;refine zR ?_;refine b16 b17 rfl (h1.step c2) rfl h2 a0k a8j zd zd (c1.trans c2).size (fun v' w' hr hc=>?_);obtain ⟨a',c',rfl,_⟩:=hr.form;refine zR ?_;exact ⟨_,rfl,hr,hc w rfl (c1.trans c2)⟩
 have k2:=h;clear h;refine zR ?_;apply E.d6<;>intro h
 ·subst h;refine zR ?_;refine a3x (a4G _) fun v w1 h1 c1=>?_;obtain ⟨a,c,rfl,ha⟩:=h1.form;refine zR ?_;exact ⟨_,rfl,h1,c1⟩
 have k3:=h;clear h;refine zR ?_;apply E.d6<;>intro h
 ·subst h;refine zR ?_;refine a3x (a4H _) fun v w1 h1 c1=>?_;obtain ⟨a,c,rfl,ha⟩:=h1.form;refine zR ?_;exact ⟨_,rfl,h1,c1⟩
 have hf:Ch.far k=false:=by simp [Ch.far,k2,k3,h]
 have hw:Ch.a7q k=Ch.jumps:=by simp [Ch.a7q,k1,k2,k3,h]
 rw [hf,hw];refine zR ?_;refine a3x (b9Q _) fun v w1 h1 c1=>?_;obtain ⟨a,c,rfl,ha⟩:=h1.form;refine zR ?_;exact ⟨_,rfl,h1,c1⟩
theorem a8k (k:Int):(Ch.a7q k).length≤8∧∀ d∈Ch.a7q k,-2≤d.1∧d.1≤2∧-2≤d.2∧d.2≤2:=by
 unfold Ch.a7q;repeat' split
 all_goals decide
theorem b46 (p:l9) (fr dx dy:Int) (far:Bool):∀ k n,(Ch.ray p fr dx dy far k n).length≤k:=by
 intro k
 induction k with
 | zero=>intro n;simp [Ch.ray]
 | succ k ih =>
  intro n;simp only [Ch.ray];repeat' split
  ·simp
  ·simp
  ·simp only [zh];have:=ih (n+1);omega
theorem a77 {α β:Type} (f:α→List β) (m:Nat) (h:∀ x,(f x).length≤m):∀ l:List α,(l.flatMap f).length≤l.length*m:=by
 intro l
 induction l with
 | nil=>simp
 | cons x r ih=>rw [List.flatMap_cons,zF,zh,Nat.succ_mul];have:=h x;omega
theorem a98 {α β:Type} (f:α→List β) (l:List α) (i:Nat) (hi:i<l.length):(l.take (i+1)).flatMap f=(l.take i).flatMap f++f l[i]:=by
 rw [zw hi,List.flatMap_append];simp
theorem b7n (k:Int):0<(Ch.a7q k).length:=by
 unfold Ch.a7q;repeat' split
 all_goals decide
theorem b7o (p:l9) (fr dx dy:Int) (far:Bool) (n:Nat) (h:n<8):Ch.ray p fr dx dy far (8-n) n =
  (if Ch.J5 (Ch.o7 fr+n*dx) (Ch.l8 fr+n*dy)<0 then [] else if !far || !decide (Ch.sq p (Ch.J5 (Ch.o7 fr+n*dx) (Ch.l8 fr+n*dy))=0) then [Ch.J5 (Ch.o7 fr+n*dx) (Ch.l8 fr+n*dy)] else Ch.J5 (Ch.o7 fr+n*dx) (Ch.l8 fr+n*dy)::Ch.ray p fr dx dy far (8-(n+1)) (n+1)):=by
 obtain ⟨m,hm⟩:∃ m,8-n=m+1:=⟨7-n,zo⟩;rw [hm,show 8-(n+1)=m by omega];rfl
theorem b18 (f r:Int):Ch.J5 f r≤63:=by unfold Ch.J5;split<;>omega
theorem b7p {n d:Int} (h0:0≤n) (h1:n≤8) (d0:-2≤d) (d1:d≤2):-16≤n*d∧n*d≤16:=by
 have:d=-2∨d=-1∨d=0∨d=1∨d=2:=by omega
 rcases this with rfl | rfl | rfl | rfl | rfl<;>omega
theorem b9R (p:l9) (f:Int) (hp:Pc p) (w:World) (h0:0≤f) (h1:f≤63) :
  Calls G.P 178 #[E2 p,.int .i64 f] w (b15 3 1 R8 (Ch.a5q p f) w):=by
 refine zN Tryz.func178 ?_;refine zG ?_;refine zR ?_;generalize hW:w.alloc (.cells (v8 p) 24)=W0;have hP:∀ w',Cl W0 w'→w'.heap[w.heap.size]?=some (.cells (v8 p) 24 (0,0)):=fun w' h=>(hW▸h:Cl (w.alloc (.cells (v8 p) 24)) w').blk (g7 _ _);have hE:∀ w',Cl W0 w'→Cl w w':=fun w' h=>(Cl.alloc _ _).trans (hW▸h);refine zR ?_;refine E.A2 (E5.2 ⟨h0,zo⟩) (zR ?_);refine d9 _ (O7 (hP _ (Cl.refl _)) _ h0 zo) (zR ?_);refine g8 (O9 _ _ (Pc.lo hp _) (Pc.hi hp _)) (zR ?_);generalize hk:Ch.kindOf (Ch.sq p f)=k;refine m8 (c2y k _) ?_;rintro r w1 ⟨v,rfl,hways,c1⟩;refine ⟨_,rfl,?_⟩;obtain ⟨a,c,rfl,ha⟩:=hways.form;obtain ⟨hwl,hwb⟩:=a8k k;generalize hws:Ch.a7q k=ws at *;generalize hfar:Ch.far k=far at *;have hpos:0<ws.length:=hws▸b7n k;obtain ⟨g,rfl⟩:=ha hpos;generalize hray:(fun d:Int×Int=>Ch.ray p f d.1 d.2 far 7 1)=rayF;have hreach:Ch.a5q p f=ws.flatMap rayF:=by unfold Ch.a5q;rw [hk,hws,hfar,← hray]
 have hrl:∀ d,(rayF d).length≤7:=by intro d;rw [← hray];exact b46 _ _ _ _ _ _ _
 refine zR ?_;refine A9 (σ:=Nat×Value) [7,8,9,10] 11 (fun a=>[(7,a.2),(8,.int .i64 a.1)]) (fun a w'=>a.1≤ws.length∧Row 3 1 R8 w1.heap.size w' a.2 ((ws.take a.1).flatMap rayF)∧Cl w1 w') (fun a=>ws.length-a.1) zk (0,.slice none 0 0)
  ⟨zo,Row.nil _ _,Cl.refl _⟩ ⟨rfl,rfl,trivial⟩ ?_
 rintro ⟨i,v⟩ j w2 ⟨hi,hrow,hcl⟩;simp only at hi hrow;obtain ⟨a2,cc2,rfl,_⟩:=hrow.form;refine zR ?_;apply E.d6<;>intro h
 ·have hil:i<ws.length:=by omega
  have hU:=a98 rayF ws i hil;have hUl:((ws.take (i+1)).flatMap rayF).length≤56:=by
   have h1:=a77 rayF 7 hrl (ws.take (i+1));have h2:(ws.take (i+1)).length≤8:=by rw [yc];omega
   have h3:(ws.take (i+1)).length*7≤8*7:=Nat.mul_le_mul_right _ h2;omega
  generalize hd:ws[i]=d at hU;have hdm:d∈ws:=hd▸yM hil;obtain ⟨d0,d1,d2,d3⟩:=hwb d hdm;generalize hUU:(ws.take (i+1)).flatMap rayF=U at hU hUl;have hrd:rayF d=Ch.ray p f d.1 d.2 far (8-1) 1:=by rw [← hray]
  refine zR ?_;refine A9 (σ:=Nat×Value×List Int) [7,9,10] 11 (fun a=>[(7,a.2.1),(9,.int .i64 a.1)]) (fun a w'=>1≤a.1∧a.1≤8∧a.2.2++Ch.ray p f d.1 d.2 far (8-a.1) a.1=U∧Row 3 1 R8 w1.heap.size w' a.2.1 a.2.2∧Cl w1 w') (fun a=>8-a.1) zk (1,_,_)
   ⟨zo,zo,by rw [← hrd];exact hU.symm,hrow,hcl⟩ ⟨rfl,rfl,trivial⟩ ?_
  rintro ⟨n,v,cur⟩ j2 w3 ⟨hn1,hn8,hcur,hrow,hcl⟩;simp only at hn1 hn8 hcur hrow;obtain ⟨a3,cc3,rfl,_⟩:=hrow.form;have hcl2:cur.length≤56:=by rw [← hcur,zF] at hUl;omega
  have hdone:∀ v',Row 3 1 R8 w1.heap.size w3 v' U→True:=fun _ _=>trivial;refine zR ?_;apply E.d6<;>intro h
  ·have hn:n<8:=by omega
   rw [b7o _ _ _ _ _ _ hn] at hcur;have b1:=b7p (n:=n) (d:=d.1) zo zo d0 d1;have b2:=b7p (n:=n) (d:=d.2) zo zo d2 d3;have g1:d.1=ws[i].1:=by rw [hd]
   have g2:d.2=ws[i].2:=by rw [hd]
   have m1:IntKind.i64.wrap ((n:Int)*d.1)=n*d.1:=g9 zo zo;have m2:IntKind.i64.wrap ((n:Int)*d.2)=n*d.2:=g9 zo zo;have m3:IntKind.i64.wrap (Ch.o7 f+(n:Int)*d.1)=Ch.o7 f+n*d.1:=g9 (by unfold Ch.o7;omega) (by unfold Ch.o7;omega)
   have m4:IntKind.i64.wrap (Ch.l8 f+(n:Int)*d.2)=Ch.l8 f+n*d.2:=g9 (by unfold Ch.l8;omega) (by unfold Ch.l8;omega)
   refine zR ?_;refine zK 22 ?_;refine zR ?_;refine o5 _ (fun w _=>a2o _ _ zo) (zR ?_);refine zC ?_;refine zR ?_;refine m7 (.int .i64 d.1) (fun w hw=>N9 (hways.step (hcl.trans hw)) a0k i 0 hil zd (by rw [g1];rfl) (bz0 (i*2)) rfl) (zR ?_)
   simp only [m1,m3];refine o5 _ (fun w _=>Z3 _ _ zo zo) (zR ?_);refine zC ?_;refine zR ?_;refine m7 (.int .i64 d.2) (fun w hw=>N9 (hways.step (hcl.trans hw)) a0k i 1 hil zd (by rw [g2];rfl) (bz1 (i*2) 1) rfl) (zR ?_)
   simp only [m2,m4];refine o5 _ (fun w _=>a2O _ _ _ (by exact zO) (by exact zO) (by exact zO) (by exact zO)) ?_
   generalize hX:Ch.J5 (Ch.o7 f+(n:Int)*d.1) (Ch.l8 f+(n:Int)*d.2)=X at hcur;refine zR ?_;intro w4 c4;have hcl:=hcl.trans c4;have hrow:=hrow.step c4;refine zR ?_;apply E.d6<;>intro h
   ·rw [zM h] at hcur;rw [zm] at hcur;refine zR ?_;refine ⟨(i+1,_),⟨rfl,d7 (by rw [g9 zo zo];push_cast;omega),trivial⟩,⟨by simp only;omega,?_,hcl⟩,by simp only;omega⟩
    simp only [hUU,← hcur];exact hrow
   ·rw [zJ h] at hcur;have hX0:0≤X:=by omega
    have hX1:X≤63:=hX▸(b18 _ _);refine zR ?_;refine zL a2x [.int .i64 X] ?_;refine zR ?_;refine a5s a2x rfl hrow rfl rfl rfl N4 a1N zo zd hcl.size (fun v' w5 hr hc=>?_);have hcl5:=hc w1 rfl hcl;obtain ⟨a5,cc5,rfl,_⟩:=hr.form;have fin:(!far || !decide (Ch.sq p X=0))=true→Row 3 1 R8 w1.heap.size w5 (.slice a5 (cur++[X]).length cc5) U:=by
     intro h;rw [zM h] at hcur;rw [← hcur];exact hr
    cases far
    ·refine zR ?_;refine ⟨(i+1,_),⟨rfl,d7 (by rw [g9 zo zo];push_cast;omega),trivial⟩,⟨by simp only;omega,?_,hcl5⟩,by simp only;omega⟩
     simp only [hUU];exact fin rfl
    ·refine zR ?_;refine E.A2 (E5.2 ⟨hX0,zo⟩) (zR ?_);refine d9 _ (O7 (hP _ (c1.trans hcl5)) _ hX0 zo) (zR ?_);clear h;apply E.y8<;>intro h
     ·refine zR ?_;refine ⟨(i+1,_),⟨rfl,d7 (by rw [g9 zo zo];push_cast;omega),trivial⟩,⟨by simp only;omega,?_,hcl5⟩,by simp only;omega⟩
      simp only [hUU];exact fin (by rw [zV h];rfl)
     ·refine zR ?_;rw [zJ (by rw [h];simp)] at hcur
      refine ⟨(n+1,_,cur++[X]),⟨rfl,d7 (by rw [g9 zo zo];push_cast;omega),trivial⟩,⟨by simp only;omega,by simp only;omega,?_,hr,hcl5⟩,by simp only;omega⟩
      simp only [yF];exact hcur
  ·have h8:n=8:=by simp only at h;omega
   subst h8;refine zR ?_;refine ⟨(i+1,_),⟨rfl,d7 (by rw [g9 zo zo];push_cast;omega),trivial⟩,⟨by simp only;omega,?_,hcl⟩,by simp only;omega⟩
   have:cur=U:=by rw [← hcur];simp [Ch.ray]
   simp only [hUU,← this];exact hrow
 ·have hil:i=ws.length:=by omega
  subst hil;refine zR ?_;refine ⟨_,rfl,?_,hE _ (c1.trans hcl)⟩;rw [hreach];simp only [yY] at hrow ⊢;exact hrow.mono (by have:=(hE _ c1).size;omega)
theorem b9S (x:Int):Ch.A1 x=0∨Ch.A1 x=1:=by unfold Ch.A1;split<;>simp
theorem b02 {f s x:Int} (h:x∈Ch.N2 f s):0≤x∧x≤63:=by
 unfold Ch.N2 Ch.a2b at h;rw [zq] at h;rcases h with h | h<;>split at h
 ·rename_i h0;rw [zY.1 h];exact ⟨h0,b18 _ _⟩
 ·cases h
 ·rename_i h0;rw [zY.1 h];exact ⟨h0,b18 _ _⟩
 ·cases h
theorem a5u (f s:Int):(Ch.N2 f s).length≤2:=by
 unfold Ch.N2 Ch.a2b;rw [zF];split<;>split<;>simp
theorem a5v (p:l9) (f s:Int):(Ch.W6 p f s).length≤2:=by
 unfold Ch.W6;simp only;split
 ·split<;>simp
 ·simp
theorem a6I {α:Type} (P:α→Bool) (l:List α) (i:Nat) (hi:i<l.length):(l.take (i+1)).filter P=(l.take i).filter P++(if P l[i] then [l[i]] else []):=by
 rw [zw hi,List.filter_append];congr 1;cases h:P l[i]<;>simp [h]
theorem b9T (p:l9) (f:Int) (hp:Pc p) (w:World) (h0:0≤f) (h1:f≤63) (e0:-1000≤p.ep) (e1:p.ep≤1000) :
  Calls G.P 177 #[E2 p,.int .i64 f] w (b15 3 1 R8 (Ch.U4 p f) w):=by
 refine zN Tryz.func177 ?_;refine zG ?_;refine zR ?_;generalize hW:w.alloc (.cells (v8 p) 24)=W0;have hP:∀ w',Cl W0 w'→w'.heap[w.heap.size]?=some (.cells (v8 p) 24 (0,0)):=fun w' h=>(hW▸h:Cl (w.alloc (.cells (v8 p) 24)) w').blk (g7 _ _);have hE:∀ w',Cl W0 w'→Cl w w':=fun w' h=>(Cl.alloc _ _).trans (hW▸h);refine zR ?_;refine E.A2 (E5.2 ⟨h0,zo⟩) (zR ?_);refine d9 _ (O7 (hP _ (Cl.refl _)) _ h0 zo) (zR ?_);refine g8 (a1K _ _) ?_;generalize hs:Ch.A1 (Ch.sq p f)=s;have hs01:s=0∨s=1:=hs▸b9S _;have hsteps:Ch.U4 p f=Ch.W6 p f s++(Ch.N2 f s).filter (Ch.J9 p s):=by unfold Ch.U4;rw [hs]
 have fr:0≤Ch.o7 f∧Ch.o7 f≤7∧0≤Ch.l8 f∧Ch.l8 f≤7:=by unfold Ch.o7 Ch.l8;omega
 have hup:Ch.up s=1∨Ch.up s=-1:=by unfold Ch.up;omega
 have hup2:Ch.up s=1-2*s:=rfl;have m1:IntKind.i64.wrap (Ch.l8 f+Ch.up s)=Ch.l8 f+Ch.up s:=g9 zo zo;have m2:IntKind.i64.wrap (2*Ch.up s)=2*Ch.up s:=g9 zo zo;have m3:IntKind.i64.wrap (Ch.l8 f+2*Ch.up s)=Ch.l8 f+2*Ch.up s:=g9 zo zo;refine zR ?_;refine g8 (a2o _ _ zo) (zR ?_);refine g8 (Z3 _ _ zo zo) (zR ?_);refine g8 (b5A _ _ zo zo) (zR ?_);simp only [m1];refine g8 (a2O _ _ _ zo zo zo zo) ?_;generalize hone:Ch.J5 (Ch.o7 f) (Ch.l8 f+Ch.up s)=one;have one63:one≤63:=hone▸b18 _ _;have hgoes:Ch.W6 p f s=if 0≤one∧Ch.sq p one=0 then (if Ch.l8 f=1+5*s∧Ch.sq p (Ch.J5 (Ch.o7 f) (Ch.l8 f+2*Ch.up s))=0 then [one,Ch.J5 (Ch.o7 f) (Ch.l8 f+2*Ch.up s)] else [one]) else []:=by
  unfold Ch.W6;rw [hone]
 refine zG ?_;refine B0 (σ:=Value) [6,7,8] 12 (fun v=>[(6,v)]) (fun v w'=>Row 3 1 R8 W0.heap.size w' v (Ch.W6 p f s)∧Cl W0 w') zk ?_ (fun v j w1 h=>?_)
 ·refine zR ?_;apply E.d6<;>intro h
  ·have ho:=h;clear h;refine zR ?_;refine E.A2 (E5.2 ⟨ho,zo⟩) (zR ?_);refine d9 _ (O7 (hP _ (Cl.refl _)) _ ho zo) (zR ?_);apply E.d6<;>intro h
   ·have hz:=h;clear h;rw [zM ⟨ho,hz⟩] at hgoes;refine zR ?_;refine zL a2x [.int .i64 one] ?_;refine zR ?_;refine a5s (l:=[]) (enc:=R8) (x:=one) a2x rfl (Row.nil W0 W0.heap.size) rfl rfl rfl N4 a1N zd zd (yH _) (fun v' w2 hr hc=>?_);have hcl:=hc W0 rfl (Cl.refl _);obtain ⟨a2,cc2,rfl,_⟩:=hr.form;refine zR ?_;refine g8 (a2o _ _ zo) (zR ?_);refine g8 (Z3 _ _ zo zo) (zR ?_);refine g8 (b5A _ _ zo zo) (zR ?_);simp only [m2,m3];refine g8 (a2O _ _ _ zo zo zo zo) ?_;generalize htwo:Ch.J5 (Ch.o7 f) (Ch.l8 f+2*Ch.up s)=two at hgoes;refine zR ?_;refine g8 (Z3 _ _ zo zo) (zR ?_);simp only [show IntKind.i64.wrap (5*s)=5*s from g9 zo zo,show IntKind.i64.wrap (1+5*s)=1+5*s from g9 zo zo];apply E.d6<;>intro h
    ·have hrk:=h;clear h;have htwo0:0≤two:=by rw [← htwo,a97 (f:=Ch.o7 f) (r:=Ch.l8 f+2*Ch.up s) fr.1 fr.2.1 zo zo];omega
     have htwo1:two≤63:=htwo▸b18 _ _;refine zR ?_;refine E.A2 (E5.2 ⟨htwo0,zo⟩) (zR ?_);refine d9 _ (O7 (hP _ hcl) _ htwo0 zo) (zR ?_);apply E.d6<;>intro h
     ·rw [zM ⟨hrk,h⟩] at hgoes;refine zR ?_;refine zL a2x [.int .i64 two] ?_;refine zR ?_;refine a5s (enc:=R8) (x:=two) a2x rfl hr rfl rfl rfl N4 a1N (by simp) zd hcl.size (fun v' w3 hr hc=>?_)
      obtain ⟨a3,cc3,rfl,_⟩:=hr.form;refine zR ?_;exact ⟨_,⟨rfl,trivial⟩,by rw [hgoes];exact hr,hc W0 rfl hcl⟩
     ·rw [zJ (fun e=>h e.2)] at hgoes;refine zR ?_;exact ⟨_,⟨rfl,trivial⟩,by rw [hgoes];exact hr,hcl⟩
    ·rw [zJ (fun e=>h e.1)] at hgoes;refine zR ?_;exact ⟨_,⟨rfl,trivial⟩,by rw [hgoes];exact hr,hcl⟩
   ·rw [zJ (fun e=>h e.2)] at hgoes;refine zR ?_;exact ⟨_,⟨rfl,trivial⟩,by rw [hgoes];exact Row.nil _ _,Cl.refl _⟩
  ·rw [zJ (fun e=>h e.1)] at hgoes;refine zR ?_;exact ⟨_,⟨rfl,trivial⟩,by rw [hgoes];exact Row.nil _ _,Cl.refl _⟩
 obtain ⟨hrow,hcl⟩:=h;obtain ⟨a2,cc2,rfl,_⟩:=hrow.form;refine zR ?_;refine a3x (c2w f s _ h0 h1 zo zo) fun v w2 hh c2=>?_;obtain ⟨ah,c,rfl,ha⟩:=hh.form;have hl2:=a5u f s;have hmem:∀ x∈Ch.N2 f s,0≤x∧x≤63:=fun x hx=>b02 hx;have hg2:=a5v p f s;generalize Ch.N2 f s=hl at *;generalize Ch.W6 p f s=gl at *;refine zR ?_;refine A9 (σ:=Nat×Value) [6,10,11] 12 (fun a=>[(6,a.2),(10,.int .i64 a.1)]) (fun a w'=>a.1≤hl.length∧Row 3 1 R8 W0.heap.size w' a.2 (gl++(hl.take a.1).filter (Ch.J9 p s))∧Row 3 1 R8 w1.heap.size w' (.slice ah hl.length c) hl∧(∀ g,ah=some ⟨g,0,none⟩→a.2.ownBlock≠some g)∧Cl W0 w') (fun a=>hl.length-a.1) zk (0,.slice a2 gl.length cc2)
  ⟨zo,by simpa using hrow.step c2,hh,fun g e e2=>by subst e;have h1:=hh.lt;have h2:=World.ownsRow.lt hrow g e2;omega,hcl.trans c2⟩ (And.intro rfl (And.intro rfl trivial)) ?_
 rintro ⟨i,v⟩ j w3 ⟨hi,hrow,hh,hne,hcl0⟩;simp only at hi hrow hne;obtain ⟨a4,cc4,rfl,_⟩:=hrow.form;refine zR ?_;apply E.d6<;>intro h
 ·have hil:i<hl.length:=by omega
  have hpos:0<hl.length:=by omega
  obtain ⟨g,rfl⟩:=ha hpos;generalize hx:hl[i]=x;obtain ⟨x0,x1⟩:=hmem x (hx▸yM hil);have hstep:=a6I (Ch.J9 p s) hl i hil;rw [hx] at hstep;have hlen:(gl++(hl.take i).filter (Ch.J9 p s)).length≤4:=by
   have:=List.length_filter_le (Ch.J9 p s) (hl.take i);rw [yc] at this;rw [zF];omega
  have hld:∀ w',Cl w3 w'→o4 G.P w' 3 ⟨g,i,none⟩ (.int .i64 x):=fun w' h=>N9 (hh.step h) N4 i 0 hil zd (by rw [hx];rfl) zo rfl
  refine zR ?_;refine zC ?_;refine zR ?_;refine d9 _ (hld _ (Cl.refl _)) (zR ?_);refine E.A2 (E5.2 ⟨x0,zo⟩) (zR ?_);refine d9 _ (O7 (hP _ hcl0) _ x0 zo) (zG ?_);refine B0 (σ:=Unit) [11,80,81,82,83,84,85,86,87,88,89,90,91,92,93,94,95,96,97,98,99,100,101,102,103,104,105,106,107,108,109,110,111] 112 (fun _=>[(11,.int .i64 (Ch.sq p x)),(111,.bool (Ch.J9 p s x))]) (fun _ w'=>Cl w3 w') zk ?_ (fun _ j w4 c4=>?_)
  ·refine zR ?_;refine zK 32 ?_;refine zR ?_;repeat' (first
    | (refine zC ?_;refine zR ?_)
    | (refine m7 _ (fun w hw=>hld _ hw) ?_;refine zR ?_)
    | (refine m7 _ (fun w hw=>a4E (hP _ (hcl0.trans hw))) ?_;refine zR ?_)
    | (refine o5 _ (fun w _=>a1K _ _) ?_;refine zR ?_)
    | (refine o5 _ (fun w _=>Z3 _ _ zo zo) ?_;refine zR ?_)
    | (refine E.d6 (fun _=>?_) (fun _=>?_)<;>(refine zR ?_))
    | (refine E.y8 (fun _=>?_) (fun _=>?_)<;>(refine zR ?_)))
   all_goals (intro w4 c4;refine ⟨(),⟨rfl,yG Value.bool ?_,trivial⟩,c4⟩)
   all_goals unfold Ch.J9
   all_goals clear hgoes hsteps hrow hstep hlen hh hld hne
   all_goals (have w3:IntKind.i64.wrap (3*s)=3*s:=g9 zo zo)
   all_goals (have w5:IntKind.i64.wrap (5-3*s)=5-3*s:=g9 zo zo)
   all_goals try simp only [w3,w5]
   all_goals simp_all
  ·have hcl4:=hcl0.trans c4;have hrow4:=hrow.step c4;have hld4:=hld _ c4;cases htk:Ch.J9 p s x
   ·rw [htk] at hstep;refine zR ?_;refine ⟨(i+1,_),⟨rfl,d7 (by rw [g9 zo zo];push_cast;omega),trivial⟩,⟨by simp only;omega,?_,hh.step c4,hne,hcl4⟩,by simp only;omega⟩
    simp only [hstep];simpa using hrow4
   ·rw [htk] at hstep;refine zR ?_;refine zC ?_;refine zR ?_;refine d9 _ hld4 (zR ?_);refine zL a2x [.int .i64 x] ?_;refine zR ?_;refine S0 (enc:=R8) a2x x rfl hrow4 rfl rfl rfl N4 a1N zo zd hcl4.size (fun v' w5 hr hc=>?_);obtain ⟨a5,cc5,rfl,_⟩:=hr.form;have hcl5:Cl W0 w5:=hc.cl W0 rfl hcl4;have hh4:=hh.step c4;refine zR ?_;refine ⟨(i+1,_),⟨rfl,d7 (by rw [g9 zo zo];push_cast;omega),trivial⟩,⟨by simp only;omega,?_,hh4.keep fun o ho=>hc.keep _ o ho (hne _ rfl),fun g' e=>hc.ne (by injection e with e;injection e with e;subst e;exact hh4.lt.2) (hne g' e),hcl5⟩,by simp only;omega⟩
    simp only [hstep,if_true];rw [← yF];exact hr
 ·have hil:i=hl.length:=by omega
  subst hil;refine zR ?_;refine ⟨_,rfl,?_,hE _ hcl0⟩;rw [hsteps];simp only [yY] at hrow ⊢;exact hrow.mono (by have:=(hE _ (Cl.refl _)).size;omega)
end
section
namespace Bb
def of (f:Nat→Bool):Nat→Nat
 | 0=>0
 | n+1=>of f n ||| (if f n then 2^(63-n) else 0)
def bb (f:Nat→Bool):Nat:=of f 64
def D6 (s:Nat):Nat:=2^(63-s)
theorem c3Z (f:Nat→Bool):∀ n,of f n<2^64:=by
 intro n
 induction n with
 | zero=>simp [of]
 | succ n ih =>
  simp only [of];apply Nat.or_lt_two_pow ih;split
  ·exact Nat.pow_lt_pow_right zd zo
  ·decide
theorem S2 (f:Nat→Bool):bb f<2^64:=c3Z f 64
theorem c2z (f:Nat→Bool):∀ n,n≤64→∀ s,s<64→(of f n).testBit (63-s)=(decide (s<n)&&f s):=by
 intro n
 induction n with
 | zero=>intro _ s _;simp [of]
 | succ n ih =>
  intro hn s hs;simp only [of,yD,ih zo s hs];by_cases hsn:s=n
  ·subst hsn;by_cases hf:f s=true
   ·simp [hf,Nat.testBit_two_pow]
   ·simp [hf]
  ·have e:(if f n=true then 2^(63-n) else 0).testBit (63-s)=false:=by
    split
    ·rw [Nat.testBit_two_pow];simp;omega
    ·simp
   rw [e];simp [show s<n+1↔s<n by omega]
theorem G8 (f:Nat→Bool) {s:Nat} (hs:s<64):(bb f).testBit (63-s)=f s:=by
 unfold bb;rw [c2z f 64 zo s hs];simp [hs]
theorem ext {a b:Nat} (ha:a<2^64) (hb:b<2^64) (h:∀ s,s<64→a.testBit (63-s)=b.testBit (63-s)):a=b:=by
 apply Nat.eq_of_testBit_eq;intro i;by_cases hi:i<64
 ·have:=h (63-i) zo
  rwa [show 63-(63-i)=i by omega] at this
 ·rw [Nat.testBit_lt_two_pow (Nat.lt_of_lt_of_le ha (Nat.pow_le_pow_right zd zo)),Nat.testBit_lt_two_pow (Nat.lt_of_lt_of_le hb (Nat.pow_le_pow_right zd zo))]
theorem a99 {a:Nat} {f:Nat→Bool} (ha:a<2^64) (h:∀ s,s<64→a.testBit (63-s)=f s):a=bb f :=
 ext ha (S2 f) (fun s hs=>by rw [h s hs,G8 f hs])
theorem a0Z {f g:Nat→Bool} (h:∀ s,s<64→f s=g s):bb f=bb g:=a99 (S2 f) (fun s hs=>by rw [G8 f hs,h s hs])
theorem a3y (s:Nat):D6 s<2^64:=Nat.pow_lt_pow_right zd zo
theorem J2 {s t:Nat} (hs:s<64) (ht:t<64):(D6 s).testBit (63-t)=decide (t=s):=by
 unfold D6;rw [Nat.testBit_two_pow];by_cases h:t=s
 ·simp [h]
 ·rw [zV zo,zV h]
def not (a:Nat):Nat:=a ^^^ (2^64-1)
theorem not_lt {a:Nat} (ha:a<2^64):not a<2^64:=Nat.xor_lt_two_pow ha zd
theorem b7q {i:Nat} (hi:i<64):(2^64-1:Nat).testBit i=true:=by rw [Nat.testBit_two_pow_sub_one];simp [hi]
theorem F9 (a:Nat) {s:Nat} (hs:s<64):(not a).testBit (63-s) = !a.testBit (63-s):=by
 unfold not;rw [Nat.testBit_xor,b7q zo];simp
theorem a1k (f g:Nat→Bool):bb f ||| bb g=bb (fun s=>f s||g s):=a99 (Nat.or_lt_two_pow (S2 f) (S2 g)) (fun s hs=>by rw [yD,G8 f hs,G8 g hs])
theorem c20 {s:Nat} (hs:s<64):D6 s=bb (fun t=>decide (t=s)):=a99 (a3y s) (fun _ ht=>J2 hs ht)
theorem a78 (f:Nat→Bool):bb f=0↔∀ s,s<64→f s=false:=by
 constructor
 ·intro h s hs;rw [← G8 f hs,h];simp
 ·intro h;rw [show (0:Nat)=bb (fun _=>false) from a99 zd (by simp)];exact a0Z h
def sub (a b:Nat):Nat:=(a+(2^64-b%2^64))%2^64
def a0x (x:Nat) (k m:Nat):Nat:=((x >>> k) &&& m) ||| (((x &&& m) <<< k)%2^64)
def rev (x:Nat):Nat :=
 let x:=a0x x 1 0x5555555555555555;let x:=a0x x 2 0x3333333333333333;let x:=a0x x 4 0x0f0f0f0f0f0f0f0f;let x:=a0x x 8 0x00ff00ff00ff00ff;let x:=a0x x 16 0x0000ffff0000ffff
 (x >>> 32) ||| ((x <<< 32)%2^64)
def lin (occ pos mask:Nat):Nat :=
 let o:=occ &&& mask
 ((sub o ((2*pos)%2^64)) ^^^ rev (sub (rev o) ((2*rev pos)%2^64))) &&& mask
def a6h (P:Nat→Bool):List Nat→Nat→Bool
 | [],o=>P o
 | s::r,o=>a6h P r o&&a6h P r (o ||| D6 s)
def a3z:List Nat→Nat
 | []=>0
 | s::r=>D6 s ||| a3z r
theorem b3j (P:Nat→Bool) (occ:Nat):∀ (l:List Nat) (o:Nat),a6h P l o=true→(∀ s∈l,s<64)→P (o ||| (occ &&& a3z l))=true:=by
 intro l
 induction l with
 | nil=>intro o h _;simpa [a3z,a6h] using h
 | cons s r ih =>
  intro o h hl;simp only [a6h,zP] at h;have hs:=hl s (by simp)
  simp only [a3z];by_cases hb:occ.testBit (63-s)=true
  ·have:=ih _ h.2 (fun x hx=>hl x (by simp [hx]))
   have e:o ||| (occ &&& (D6 s ||| a3z r))=(o ||| D6 s) ||| (occ &&& a3z r):=by
    apply Nat.eq_of_testBit_eq;intro i;simp only [yD,zn,D6,Nat.testBit_two_pow];by_cases hi:63-s=i
    ·subst hi;simp [hb]
    ·simp [hi]
   rw [e];exact this
  ·have:=ih _ h.1 (fun x hx=>hl x (by simp [hx]))
   have e:o ||| (occ &&& (D6 s ||| a3z r))=o ||| (occ &&& a3z r):=by
    apply Nat.eq_of_testBit_eq;intro i;simp only [yD,zn,D6,Nat.testBit_two_pow];by_cases hi:63-s=i
    ·subst hi;simp [hb]
    ·simp [hi]
   rw [e];exact this
end Bb
namespace Bb
def H8 (k fr to:Nat):Bool :=
 match k with
 | 0=>Nat.beq (fr/8) (to/8)
 | 1=>Nat.beq (fr%8) (to%8)
 | 2=>Nat.beq (fr%8+to/8) (to%8+fr/8)
 | _=>Nat.beq (fr%8+fr/8) (to%8+to/8)
def mask (k fr:Nat):Nat:=bb (H8 k fr)
def sqs (P:Nat→Bool):Nat→List Nat
 | 0=>[]
 | n+1=>bif P n then n::sqs P n else sqs P n
def b3k (k fr:Nat):List Nat:=sqs (H8 k fr) 64
def btw (k a b:Nat):Nat:=of (fun s=>H8 k a s&&(Nat.blt a s&&Nat.blt s b||Nat.blt b s&&Nat.blt s a)) 64
def b5D (k fr o:Nat):List Nat→Nat
 | []=>0
 | to::r=>(bif Nat.beq to fr || !(Nat.beq (o &&& btw k fr to) 0) then 0 else D6 to) ||| b5D k fr o r
def chk (k fr:Nat):Bool:=a6h (fun o=>Nat.beq (lin o (D6 fr) (mask k fr)) (b5D k fr o (b3k k fr))) (b3k k fr) 0
def a4I (k:Nat):Nat→Bool
 | 0=>true
 | n+1=>chk k n&&a4I k n
theorem c5p:a4I 0 64=true:=by decide +kernel
theorem c5q:a4I 1 64=true:=by decide +kernel
theorem c5r:a4I 2 64=true:=by decide +kernel
theorem c5s:a4I 3 64=true:=by decide +kernel
end Bb
namespace Bb
theorem c4a {a b:Nat} (h:a≠b):Nat.beq a b=false:=by
 cases h2:Nat.beq a b
 ·rfl
 ·exact absurd (zr h2) h
theorem a3W (k:Nat):∀ n,a4I k n=true→∀ fr,fr<n→chk k fr=true:=by
 intro n
 induction n with
 | zero=>intro _ fr h;omega
 | succ n ih =>
  intro h fr hfr;simp only [a4I,zP] at h;by_cases e:fr=n
  ·subst e;exact h.1
  ·exact ih h.2 fr zo
theorem c21 {k fr:Nat} (hk:k<4) (hfr:fr<64):chk k fr=true:=by
 have:k=0∨k=1∨k=2∨k=3:=by omega
 rcases this with rfl | rfl | rfl | rfl
 ·exact a3W 0 64 c5p fr hfr
 ·exact a3W 1 64 c5q fr hfr
 ·exact a3W 2 64 c5r fr hfr
 ·exact a3W 3 64 c5s fr hfr
theorem b5E (P:Nat→Bool):∀ n,a3z (sqs P n)=of P n:=by
 intro n
 induction n with
 | zero=>rfl
 | succ n ih =>
  simp only [sqs,of];cases P n
  ·simp [ih]
  ·simp only [cond_true,a3z,ih,D6,if_true,Nat.or_comm]
theorem a79 (P:Nat→Bool):∀ n s,s∈sqs P n↔s<n∧P s=true:=by
 intro n
 induction n with
 | zero=>intro s;simp [sqs]
 | succ n ih =>
  intro s;simp only [sqs];cases h:P n
  ·simp only [cond_false,ih];constructor
   ·rintro ⟨h1,h2⟩;exact ⟨zo,h2⟩
   ·rintro ⟨h1,h2⟩;refine ⟨?_,h2⟩;by_cases e:s=n
    ·subst e;rw [h] at h2;cases h2
    ·omega
  ·simp only [cond_true,yQ,ih];constructor
   ·rintro (rfl | ⟨h1,h2⟩)
    ·exact ⟨zo,h⟩
    ·exact ⟨zo,h2⟩
   ·rintro ⟨h1,h2⟩;by_cases e:s=n
    ·exact .inl e
    ·exact .inr ⟨zo,h2⟩
theorem c22 {k fr:Nat} (hk:k<4) (hfr:fr<64) (occ:Nat):lin occ (D6 fr) (mask k fr)=b5D k fr (occ &&& mask k fr) (b3k k fr):=by
 have h:=b3j _ occ (b3k k fr) 0 (c21 hk hfr) (fun s hs=>((a79 _ _ s).1 hs).1);have e:a3z (b3k k fr)=mask k fr:=b5E _ _;rw [Nat.zero_or,e] at h;have h2:=zr h;rw [← h2];unfold lin;simp only [Nat.and_assoc,Nat.and_self]
theorem b9W (k fr o:Nat) {t:Nat} (ht:t<64):∀ l:List Nat,(∀ s∈l,s<64)→(b5D k fr o l).testBit (63-t)=(decide (t∈l) && !decide (t=fr)&&decide (o &&& btw k fr t=0)):=by
 intro l
 induction l with
 | nil=>intro _;simp [b5D]
 | cons s r ih =>
  intro hl;simp only [b5D,yD,ih (fun x hx=>hl x (by simp [hx]))]
  have hs:=hl s (by simp)
  by_cases hts:t=s
  ·subst hts;by_cases h1:t=fr
   ·simp [h1]
   ·have e1:Nat.beq t fr=false:=c4a h1;rw [e1];by_cases h2:o &&& btw k fr t=0
    ·simp [h1,h2,J2 ht ht]
    ·have e2:Nat.beq (o &&& btw k fr t) 0=false:=c4a h2;rw [e2];simp [h1,h2]
  ·cases Nat.beq s fr || !(o &&& btw k fr s).beq 0
   ·simp [cond_false,J2 hs ht,hts]
   ·simp [hts]
theorem b9X {k fr t:Nat} (hk:k<4) (hfr:fr<64) (ht:t<64) (occ:Nat) :
  (lin occ (D6 fr) (mask k fr)).testBit (63-t)=true↔H8 k fr t=true∧t≠fr∧∀ s,s<64→H8 k fr s=true→(fr<s∧s<t∨t<s∧s<fr)→occ.testBit (63-s)=false:=by
 rw [c22 hk hfr,b9W k fr _ ht (b3k k fr) (fun s hs=>((a79 _ _ s).1 hs).1)];simp only [zP,zW,zc,zZ,and_assoc];refine and_congr ?_ (and_congr Iff.rfl ?_)
 ·unfold b3k;rw [a79];simp [ht]
 ·rw [Nat.and_assoc];have hbt:∀ s,s<64→(btw k fr t).testBit (63-s)=(H8 k fr s&&(Nat.blt fr s&&Nat.blt s t||Nat.blt t s&&Nat.blt s fr)):=fun s hs=>G8 _ hs
  have hm:∀ s,s<64→(mask k fr).testBit (63-s)=H8 k fr s:=fun s hs=>G8 _ hs;have blt_iff:∀ a b:Nat,Nat.blt a b=true↔a<b:=fun a b=>by simp [Nat.blt,Nat.succ_le_iff]
  constructor
  ·intro h s hs h1 h3;have h2:((occ &&& (mask k fr &&& btw k fr t)).testBit (63-s))=false:=by rw [h];simp
   have hb2:(Nat.blt fr s&&Nat.blt s t||Nat.blt t s&&Nat.blt s fr)=true:=by
    rw [zj,zP,zP,blt_iff,blt_iff,blt_iff,blt_iff];exact h3
   rw [zn,zn,hbt s hs,hm s hs,h1,hb2] at h2;simpa using h2
  ·intro h;have hlt:btw k fr t<2^64:=S2 _;refine ext (a:=occ &&& (mask k fr &&& btw k fr t)) (b:=0) (Nat.and_lt_two_pow _ (Nat.and_lt_two_pow _ hlt)) zd ?_;intro s hs;rw [zn,zn,hbt s hs,hm s hs,Nat.zero_testBit];cases h1:H8 k fr s
   ·simp
   ·cases hb2:(Nat.blt fr s&&Nat.blt s t||Nat.blt t s&&Nat.blt s fr)
    ·simp
    ·rw [zj,zP,zP,blt_iff,blt_iff,blt_iff,blt_iff] at hb2;rw [h s hs h1 hb2];simp
theorem b03 (occ pos:Nat) (k fr:Nat):lin occ pos (mask k fr)<2^64:=Nat.and_lt_two_pow _ (S2 _)
end Bb
namespace Ch
open Bb
theorem a2y (p:l9) (W:Int):∀ (n:Nat) (i:Int),free p i W n=true↔∀ j:Nat,j<n→sq p (i+((j:Int)+1)*W)=0:=by
 intro n
 induction n with
 | zero=>intro i;simp [free]
 | succ n ih =>
  intro i;simp only [free,zP,beq_iff_eq,ih];constructor
  ·rintro ⟨h1,h2⟩ j hj;cases j with
   | zero=>simpa using h1
   | succ j =>
    have:=h2 j zo;rw [show i+(((j+1:Nat):Int)+1)*W=i+W+((j:Int)+1)*W by rw [Int.natCast_succ,Int.add_mul,Int.add_mul];omega]
    exact this
  ·intro h;refine ⟨by simpa using h 0 zo,fun j hj=>?_⟩
   have:=h (j+1) zo
   rwa [show i+(((j+1:Nat):Int)+1)*W=i+W+((j:Int)+1)*W by rw [Int.natCast_succ,Int.add_mul,Int.add_mul];omega] at this
def dF (a b:Nat):Int:=o7 b-o7 a
def dR (a b:Nat):Int:=l8 b-l8 a
def wy (a b:Nat):Int:=sign (dF a b)+8*sign (dR a b)
def ds (a b:Nat):Nat:=a6e (dF a b) (dR a b)
def a7A (a s b:Nat):Bool:=(Nat.blt a s&&Nat.blt s b)||(Nat.blt b s&&Nat.blt s a)
def b7r (k a b:Nat):Bool :=
 !H8 k a b||Nat.beq a b||((List.range (ds a b)).all (fun j=>let q:=(a:Int)+((j:Int)+1)*wy a b;decide (0≤q)&&decide (q<64)&&H8 k a q.toNat&&a7A a q.toNat b) &&
  (sqs (fun s=>H8 k a s&&a7A a s b) 64).all fun s=>(List.range (ds a b)).any fun j=>decide ((s:Int)=(a:Int)+((j:Int)+1)*wy a b))
theorem b3l:(List.range 4).all (fun k=>(List.range 64).all fun a=>(List.range 64).all fun b=>b7r k a b)=true:=by decide +kernel
theorem a6K (a s b:Nat):a7A a s b=true↔(a<s∧s<b∨b<s∧s<a):=by
 simp [a7A,Nat.blt,Nat.succ_le_iff]
theorem a10 (p:l9) {k a b:Nat} (hk:k<4) (ha:a<64) (hb:b<64) (hl:H8 k a b=true) (hne:a≠b) :
  free p a (wy a b) (ds a b)=true↔∀ s:Nat,s<64→H8 k a s=true→(a<s∧s<b∨b<s∧s<a)→sq p s=0:=by
 have h:=zl.1 (zl.1 (zl.1 b3l k (List.mem_range.2 hk)) a (List.mem_range.2 ha)) b (List.mem_range.2 hb);simp only [b7r,hl,Bool.not_true,Bool.false_or,zj,zP,zl,List.any_eq_true,List.mem_range,zW,a79] at h;rcases h with h | ⟨h1,h2⟩
 ·exact absurd (zr h) hne
 rw [a2y];constructor
 ·intro hf s hs h3 h4;obtain ⟨j,hj,e⟩:=h2 s ⟨hs,h3,(a6K a s b).2 h4⟩;rw [e];exact hf j hj
 ·intro hf j hj;obtain ⟨⟨⟨h5,h6⟩,h7⟩,h8⟩:=h1 j hj;have:=hf _ zo h7 ((a6K _ _ _).1 h8)
  rwa [zi h5] at this
theorem b3m (a b:Nat):H8 0 a b=true↔dR a b=0:=by
 simp only [H8,dR,l8,Nat.beq_eq];omega
theorem b3n (a b:Nat):H8 1 a b=true↔dF a b=0:=by
 simp only [H8,dF,o7,Nat.beq_eq];omega
theorem b3o (a b:Nat):H8 2 a b=true↔dF a b=dR a b:=by
 simp only [H8,dF,dR,o7,l8,Nat.beq_eq];omega
theorem b3p (a b:Nat):H8 3 a b=true↔dF a b=-dR a b:=by
 simp only [H8,dF,dR,o7,l8,Nat.beq_eq];omega
def occ (p:l9):Nat:=bb (fun s=>!decide (sq p s=0))
def pcs (p:l9) (x:Int):Nat:=bb (fun s=>decide (sq p s=x))
def side (p:l9) (c:Int):Nat:=bb (fun s=>!decide (sq p s=0)&&decide (A1 (sq p s)=c))
def hv (o a:Nat):Nat:=lin o (D6 a) (mask 0 a) ||| lin o (D6 a) (mask 1 a)
def di (o a:Nat):Nat:=lin o (D6 a) (mask 2 a) ||| lin o (D6 a) (mask 3 a)
theorem b7s (o a:Nat):hv o a<2^64:=Nat.or_lt_two_pow (b03 _ _ _ _) (b03 _ _ _ _)
theorem b7t (o a:Nat):di o a<2^64:=Nat.or_lt_two_pow (b03 _ _ _ _) (b03 _ _ _ _)
theorem a5w (p:l9) {k a b:Nat} (hk:k<4) (ha:a<64) (hb:b<64):(lin (occ p) (D6 a) (mask k a)).testBit (63-b)=true↔H8 k a b=true∧a≠b∧free p a (wy a b) (ds a b)=true:=by
 rw [b9X hk ha hb];constructor
 ·rintro ⟨h1,h2,h3⟩;refine ⟨h1,fun e=>h2 e.symm,?_⟩;rw [a10 p hk ha hb h1 (fun e=>h2 e.symm)];intro s hs h4 h5;have:=h3 s hs h4 h5;unfold occ at this;rw [G8 _ hs] at this;simpa using this
 ·rintro ⟨h1,h2,h3⟩;refine ⟨h1,fun e=>h2 e.symm,?_⟩;rw [a10 p hk ha hb h1 h2] at h3;intro s hs h4 h5;unfold occ;rw [G8 _ hs,h3 s hs h4 h5];simp
theorem b7u (p:l9) {a b:Nat} (ha:a<64) (hb:b<64):(hv (occ p) a).testBit (63-b)=(!decide (a=b)&&(decide (dF a b=0)||decide (dR a b=0))&&free p a (wy a b) (ds a b)):=by
 rw [Bool.eq_iff_iff];unfold hv;rw [yD,zj,a5w p zo ha hb,a5w p zo ha hb,b3m,b3n];simp only [zP,zj,zc,zW,zZ];constructor
 ·rintro (⟨h1,h2,h3⟩ | ⟨h1,h2,h3⟩)
  ·exact ⟨⟨h2,.inr h1⟩,h3⟩
  ·exact ⟨⟨h2,.inl h1⟩,h3⟩
 ·rintro ⟨⟨h1,h2 | h2⟩,h3⟩
  ·exact .inr ⟨h2,h1,h3⟩
  ·exact .inl ⟨h2,h1,h3⟩
theorem b7v (p:l9) {a b:Nat} (ha:a<64) (hb:b<64):(di (occ p) a).testBit (63-b)=(!decide (a=b)&&(decide (dF a b=dR a b)||decide (dF a b=-dR a b))&&free p a (wy a b) (ds a b)):=by
 rw [Bool.eq_iff_iff];unfold di;rw [yD,zj,a5w p zo ha hb,a5w p zo ha hb,b3o,b3p];simp only [zP,zj,zc,zW,zZ];constructor
 ·rintro (⟨h1,h2,h3⟩ | ⟨h1,h2,h3⟩)
  ·exact ⟨⟨h2,.inl h1⟩,h3⟩
  ·exact ⟨⟨h2,.inr h1⟩,h3⟩
 ·rintro ⟨⟨h1,h2 | h2⟩,h3⟩
  ·exact .inl ⟨h2,h1,h3⟩
  ·exact .inr ⟨h2,h1,h3⟩
theorem b3q (k a b:Nat):H8 k a b=H8 k b a:=by
 unfold H8;split<;>(rw [Bool.eq_iff_iff];simp only [Nat.beq_eq];omega)
theorem a30 {k a b s:Nat} (h:H8 k a b=true):H8 k a s=H8 k b s:=by
 unfold H8 at *;split<;>(rw [Bool.eq_iff_iff];simp only [Nat.beq_eq] at *;omega)
theorem b5F (p:l9) {a b:Nat} (ha:a<64) (hb:b<64) (hl:dF a b=0∨dR a b=0∨dF a b=dR a b∨dF a b=-dR a b) :
  free p a (wy a b) (ds a b)=free p b (wy b a) (ds b a):=by
 by_cases hne:a=b
 ·subst hne;rfl
 have hk:∃ k,k<4∧H8 k a b=true:=by
  rcases hl with h | h | h | h
  ·exact ⟨1,zo,(b3n a b).2 h⟩
  ·exact ⟨0,zo,(b3m a b).2 h⟩
  ·exact ⟨2,zo,(b3o a b).2 h⟩
  ·exact ⟨3,zo,(b3p a b).2 h⟩
 obtain ⟨k,hk,h⟩:=hk;rw [Bool.eq_iff_iff,a10 p hk ha hb h hne,a10 p hk hb ha (by rw [b3q];exact h) (fun e=>hne e.symm)]
 constructor
 ·intro hf s hs h1 h2;exact hf s hs (by rw [a30 h];exact h1) h2.symm
 ·intro hf s hs h1 h2;exact hf s hs (by rw [← a30 h];exact h1) h2.symm
def P1 (p:l9) (k:Int) (sd:Int) (a b:Nat):Bool :=
 !decide (a=b) &&
 if k=1 then decide (dF a b*dF a b≤1)&&decide (dR a b*dR a b≤1)
 else if k=5 then decide (dF a b*dF a b+dR a b*dR a b=5)
 else if k=6 then decide (dF a b*dF a b=1)&&decide (dR a b=up sd)
 else (((decide (dF a b=0)||decide (dR a b=0)) && !decide (k=4))||((decide (dF a b=dR a b)||decide (dF a b=-dR a b)) && !decide (k=3)))&&free p a (wy a b) (ds a b)
theorem c5t (a b c:Bool):(if (!a && !b)=true then false else c)=((a||b)&&c):=by cases a<;>cases b<;>cases c<;>rfl
theorem a6i (p:l9) (a b:Nat):hits p a b=(!decide (sq p a=0)&&P1 p (kindOf (sq p a)) (A1 (sq p a)) a b):=by
 unfold hits P1;by_cases h0:sq p a=0
 ·simp [h0]
 by_cases hab:a=b
 ·subst hab;simp
 have hab2:¬ (a:Int)=b:=by omega
 simp only [h0,hab2,false_or,or_self,if_false,decide_false,Bool.not_false,yU,hab];by_cases h1:kindOf (sq p a)=1
 ·rw [zM h1,zM h1];rfl
 rw [zJ h1,zJ h1];by_cases h5:kindOf (sq p a)=5
 ·rw [zM h5,zM h5];rfl
 rw [zJ h5,zJ h5];by_cases h6:kindOf (sq p a)=6
 ·rw [zM h6,zM h6];rfl
 rw [zJ h6,zJ h6];exact c5t _ _ _
end Ch
namespace Ch
open Bb
def kn (a:Nat):Nat:=bb (fun b=>decide (dF a b*dF a b+dR a b*dR a b=5))
def kg (a:Nat):Nat:=bb (fun b=>!decide (a=b)&&(decide (dF a b*dF a b≤1)&&decide (dR a b*dR a b≤1)))
def shl (x k:Nat):Nat:=(x <<< k)%2^64
def a2z:Nat:=72340172838076673
def a22:Nat:=9259542123273814144
def a1O:Nat:=18374686479671623680
def a1a:Nat:=255
theorem a8l:a2z=bb (fun s=>decide (s%8=7)):=by decide +kernel
theorem a8m:a22=bb (fun s=>decide (s%8=0)):=by decide +kernel
theorem a8n:a1O=bb (fun s=>decide (s/8=0)):=by decide +kernel
theorem a8o:a1a=bb (fun s=>decide (s/8=7)):=by decide +kernel
theorem a2P (x k:Nat) {s:Nat} (hs:s<64):(shl x k).testBit (63-s)=(decide (s+k<64)&&x.testBit (63-(s+k))):=by
 unfold shl;rw [Nat.testBit_mod_two_pow,Nat.testBit_shiftLeft];by_cases h:s+k<64
 ·simp [h,show 63-s<64 by omega,show 63-s≥k by omega,show 63-s-k=63-(s+k) by omega]
 ·simp [h,show ¬ 63-s≥k by omega]
theorem a2Q (x k:Nat) (hx:x<2^64) {s:Nat} (hs:s<64):(x >>> k).testBit (63-s)=(decide (k≤s)&&x.testBit (63-(s-k))):=by
 rw [Nat.testBit_shiftRight];by_cases h:k≤s
 ·simp [h,show k+(63-s)=63-(s-k) by omega]
 ·rw [zV h,Bool.false_and];exact Nat.testBit_lt_two_pow (Nat.lt_of_lt_of_le hx (Nat.pow_le_pow_right zd zo))
theorem a8p (x k:Nat):shl x k<2^64:=Nat.mod_lt _ zd
theorem b7w {x:Nat} (k:Nat) (hx:x<2^64):x >>> k<2^64:=Nat.lt_of_le_of_lt (by rw [Nat.shiftRight_eq_div_pow];exact Nat.div_le_self _ _) hx
def a23 (p:l9) (c:Int):Nat :=
 if c=1 then shl (pcs p 12 &&& not a2z &&& not a1O) 7 ||| shl (pcs p 12 &&& not a22 &&& not a1O) 9
 else ((pcs p 6 &&& not a2z &&& not a1a) >>> 9) ||| ((pcs p 6 &&& not a22 &&& not a1a) >>> 7)
theorem a3X (p:l9) (x:Int) {s:Nat} (hs:s<64):(pcs p x).testBit (63-s)=decide (sq p s=x):=G8 _ hs
theorem b04 (p:l9) {c:Int} (hc:c=0∨c=1) {a:Nat} (ha:a<64) :
  (a23 p c).testBit (63-a)=true↔∃ i:Nat,i<64∧sq p i=6+6*c∧P1 p 6 c i a=true:=by
 have hK:∀ i:Nat,P1 p 6 c i a=true↔i≠a∧dF i a*dF i a=1∧dR i a=up c:=by
  intro i;simp [P1]
 have hF:∀ i:Nat,dF i a*dF i a=1↔(dF i a=1∨dF i a=-1):=by
  intro i;constructor
  ·intro h;have:=@b7k (dF i a) (by simp only [dF,o7];omega) (by simp only [dF,o7];omega)
   have h3:dF i a=-7∨dF i a=-6∨dF i a=-5∨dF i a=-4∨dF i a=-3∨dF i a=-2∨dF i a=-1∨dF i a=0∨dF i a=1∨dF i a=2∨dF i a=3∨dF i a=4∨dF i a=5∨dF i a=6∨dF i a=7:=by simp only [dF,o7];omega
   rcases h3 with h3 | h3 | h3 | h3 | h3 | h3 | h3 | h3 | h3 | h3 | h3 | h3 | h3 | h3 | h3<;>rw [h3] at h<;>simp at h<;>omega
  ·rintro (h | h)<;>rw [h]<;>decide
 simp only [hK,hF];simp only [a23,up,dR,dF,o7,l8];rcases hc with rfl | rfl
 ·rw [zJ zd,yD,zj];have l1:pcs p 6 &&& not a2z &&& not a1a<2^64:=Nat.and_lt_two_pow _ (not_lt zd);have l2:pcs p 6 &&& not a22 &&& not a1a<2^64:=Nat.and_lt_two_pow _ (not_lt zd);rw [a2Q _ 9 l1 ha,a2Q _ 7 l2 ha];have e1:(pcs p 6 &&& not a2z &&& not a1a).testBit (63-(a-9))=(decide (sq p ((a-9:Nat):Int)=6) && !decide ((a-9)%8=7) && !decide ((a-9)/8=7)):=by
   rw [zn,zn,a3X _ _ zo,F9 _ zo,F9 _ zo,a8l,a8o,G8 _ zo,G8 _ zo]
  have e2:(pcs p 6 &&& not a22 &&& not a1a).testBit (63-(a-7))=(decide (sq p ((a-7:Nat):Int)=6) && !decide ((a-7)%8=0) && !decide ((a-7)/8=7)):=by
   rw [zn,zn,a3X _ _ zo,F9 _ zo,F9 _ zo,a8m,a8o,G8 _ zo,G8 _ zo]
  rw [e1,e2];simp only [zP,zW,zc,zZ];constructor
  ·rintro (⟨h1,⟨h2,h3⟩,h4⟩ | ⟨h1,⟨h2,h3⟩,h4⟩)
   ·exact ⟨a-9,zo,by simpa using h2,zo,zo,zo⟩
   ·exact ⟨a-7,zo,by simpa using h2,zo,zo,zo⟩
  ·rintro ⟨i,h1,h2,h3,h4,h5⟩;rcases h4 with h4 | h4
   ·refine .inl ?_;have:a-9=i:=by omega
    rw [this];exact ⟨zo,⟨by simpa using h2,zo⟩,zo⟩
   ·refine .inr ?_;have:a-7=i:=by omega
    rw [this];exact ⟨zo,⟨by simpa using h2,zo⟩,zo⟩
 ·rw [zM rfl,yD,zj,a2P _ _ ha,a2P _ _ ha];have e1:a+7<64→(pcs p 12 &&& not a2z &&& not a1O).testBit (63-(a+7))=(decide (sq p ((a+7:Nat):Int)=12) && !decide ((a+7)%8=7) && !decide ((a+7)/8=0)):=by
   intro h;rw [zn,zn,a3X _ _ h,F9 _ h,F9 _ h,a8l,a8n,G8 _ h,G8 _ h]
  have e2:a+9<64→(pcs p 12 &&& not a22 &&& not a1O).testBit (63-(a+9))=(decide (sq p ((a+9:Nat):Int)=12) && !decide ((a+9)%8=0) && !decide ((a+9)/8=0)):=by
   intro h;rw [zn,zn,a3X _ _ h,F9 _ h,F9 _ h,a8m,a8n,G8 _ h,G8 _ h]
  simp only [zP,zW];constructor
  ·rintro (⟨h1,h2⟩ | ⟨h1,h2⟩)
   ·rw [e1 h1] at h2;simp only [zP,zW,zc,zZ] at h2;exact ⟨a+7,zo,by simpa using h2.1.1,zo,zo,zo⟩
   ·rw [e2 h1] at h2;simp only [zP,zW,zc,zZ] at h2;exact ⟨a+9,zo,by simpa using h2.1.1,zo,zo,zo⟩
  ·rintro ⟨i,h1,h2,h3,h4,h5⟩;rcases h4 with h4 | h4
   ·refine .inl ⟨zo,?_⟩;have:a+7=i:=by omega
    rw [e1 zo,this];simp only [zP,zW,zc,zZ];exact ⟨⟨by simpa using h2,zo⟩,zo⟩
   ·refine .inr ⟨zo,?_⟩;have:a+9=i:=by omega
    rw [e2 zo,this];simp only [zP,zW,zc,zZ];exact ⟨⟨by simpa using h2,zo⟩,zo⟩
theorem b47 (x:Nat) (f:Nat→Bool):(x &&& bb f≠0)↔∃ i,i<64∧x.testBit (63-i)=true∧f i=true:=by
 constructor
 ·intro h;refine yf fun hn=>h ?_;refine ext (Nat.and_lt_two_pow _ (S2 f)) zd ?_;intro s hs;rw [zn,G8 f hs,Nat.zero_testBit];cases hx:x.testBit (63-s)
  ·simp
  ·cases hf:f s
   ·simp
   ·exact absurd ⟨s,hs,hx,hf⟩ hn
 ·rintro ⟨i,h1,h2,h3⟩ h;have:(x &&& bb f).testBit (63-i)=true:=by rw [zn,G8 f h1,h2,h3];rfl
  rw [h] at this;simp at this
def b7x (p:l9) (a:Nat) (c:Int):Bool :=
 let o:=occ p
 if ((di o a ||| hv o a) &&& side p c) ||| (kn a &&& side p c)=0 then false
 else if (di o a ||| hv o a) &&& pcs p (2+6*c)≠0 then true
 else if hv o a &&& pcs p (3+6*c)≠0 then true
 else if di o a &&& pcs p (4+6*c)≠0 then true
 else if kn a &&& pcs p (5+6*c)≠0 then true
 else if a23 p c &&& D6 a≠0 then true
 else if kg a &&& pcs p (1+6*c)≠0 then true
 else false
theorem c27 (a b:Nat):dF b a=-dF a b:=by simp only [dF];omega
theorem c28 (a b:Nat):dR b a=-dR a b:=by simp only [dR];omega
theorem a0s (p:l9) {k:Int} (hk:k≠6) (sd sd':Int) {a b:Nat} (ha:a<64) (hb:b<64):P1 p k sd a b=P1 p k sd' b a:=by
 unfold P1;have e:decide (a=b)=decide (b=a):=yZ.2 ⟨fun h=>h.symm,fun h=>h.symm⟩;rw [e,c27 a b,c28 a b];by_cases h1:k=1
 ·rw [zM h1,zM h1,Int.neg_mul_neg,Int.neg_mul_neg]
 rw [zJ h1,zJ h1];by_cases h5:k=5
 ·rw [zM h5,zM h5,Int.neg_mul_neg,Int.neg_mul_neg]
 rw [zJ h5,zJ h5,zJ hk,zJ hk];congr 1;have e1:decide (-dF a b=0)=decide (dF a b=0):=yZ.2 zo;have e2:decide (-dR a b=0)=decide (dR a b=0):=yZ.2 zo;have e3:decide (-dF a b=-dR a b)=decide (dF a b=dR a b):=yZ.2 zo;have e4:decide (-dF a b=- -dR a b)=decide (dF a b=-dR a b):=yZ.2 zo;rw [e1,e2,e3,e4];by_cases hl:dF a b=0∨dR a b=0∨dF a b=dR a b∨dF a b=-dR a b
 ·rw [b5F p ha hb hl]
 ·rw [zV (fun h=>hl (.inl h)),zV (fun h=>hl (.inr (.inl h))),zV (fun h=>hl (.inr (.inr (.inl h)))),zV (fun h=>hl (.inr (.inr (.inr h))))];simp
theorem b7y (p:l9) {a i:Nat} (ha:a<64) (hi:i<64):(di (occ p) a ||| hv (occ p) a).testBit (63-i)=P1 p 2 0 a i:=by
 rw [yD,b7v p ha hi,b7u p ha hi];simp only [P1];generalize decide (a=i)=x1;generalize free p _ _ _=x2;generalize decide (dF a i=dR a i)=x3;generalize decide (dF a i=-dR a i)=x4;generalize decide (dF a i=0)=x5;generalize decide (dR a i=0)=x6;cases x1<;>cases x2<;>cases x3<;>cases x4<;>cases x5<;>cases x6<;>rfl
theorem c1L (p:l9) {a i:Nat} (ha:a<64) (hi:i<64):(hv (occ p) a).testBit (63-i)=P1 p 3 0 a i:=by
 rw [b7u p ha hi];simp only [P1];generalize decide (a=i)=x1;generalize free p _ _ _=x2;generalize decide (dF a i=dR a i)=x3;generalize decide (dF a i=-dR a i)=x4;generalize decide (dF a i=0)=x5;generalize decide (dR a i=0)=x6;cases x1<;>cases x2<;>cases x3<;>cases x4<;>cases x5<;>cases x6<;>rfl
theorem c1M (p:l9) {a i:Nat} (ha:a<64) (hi:i<64):(di (occ p) a).testBit (63-i)=P1 p 4 0 a i:=by
 rw [b7v p ha hi];simp only [P1];generalize decide (a=i)=x1;generalize free p _ _ _=x2;generalize decide (dF a i=dR a i)=x3;generalize decide (dF a i=-dR a i)=x4;generalize decide (dF a i=0)=x5;generalize decide (dR a i=0)=x6;cases x1<;>cases x2<;>cases x3<;>cases x4<;>cases x5<;>cases x6<;>rfl
theorem b7z (p:l9) {a i:Nat} (ha:a<64) (hi:i<64):(kn a).testBit (63-i)=P1 p 5 0 a i:=by
 unfold kn;rw [G8 _ hi];simp only [P1];by_cases h:a=i
 ·subst h;simp [dF,dR]
 ·simp [h]
theorem c1N (p:l9) {a i:Nat} (ha:a<64) (hi:i<64):(kg a).testBit (63-i)=P1 p 1 0 a i:=by
 unfold kg;rw [G8 _ hi];simp only [P1];rfl
def c1O (k:Int) (a b:Nat):Bool:=decide (a=b) || !(decide (dF a b*dF a b≤1)&&decide (dR a b*dR a b≤1))||(decide (ds a b=0)&&(decide (dF a b=0)||decide (dR a b=0)||decide (dF a b=dR a b)||decide (dF a b=-dR a b)))
theorem b70:(List.range 64).all (fun a=>(List.range 64).all fun b=>c1O 0 a b)=true:=by decide +kernel
theorem b71 (p:l9) {a b:Nat} (ha:a<64) (hb:b<64) (h:a≠b) (h1:dF a b*dF a b≤1) (h2:dR a b*dR a b≤1):P1 p 2 0 a b=true:=by
 have:=zl.1 (zl.1 b70 a (List.mem_range.2 ha)) b (List.mem_range.2 hb);simp only [c1O,h,h1,h2,decide_true,decide_false,Bool.and_self,Bool.not_true,Bool.false_or,zP,zj,zW] at this;obtain ⟨h3,h4⟩:=this;simp only [P1,h,h3,free,decide_false,Bool.not_false,yU,Bool.and_true];rw [zJ zd,zJ zd,zJ zd];simp only [zj,zP,zW];rcases h4 with ((h4 | h4) | h4) | h4
 ·exact .inl ⟨.inl h4,zd⟩
 ·exact .inl ⟨.inr h4,zd⟩
 ·exact .inr ⟨.inl h4,zd⟩
 ·exact .inr ⟨.inr h4,zd⟩
theorem b19 {x c:Int} (h0:0≤x) (h1:x≤12) (hc:c=0∨c=1):(x≠0∧A1 x=c)↔∃ k:Int,1≤k∧k≤6∧x=k+6*c:=by
 unfold A1;constructor
 ·rintro ⟨h2,h3⟩;split at h3
  ·exact ⟨x-6,zo,zo,zo⟩
  ·exact ⟨x,zo,zo,zo⟩
 ·rintro ⟨k,h2,h3,rfl⟩;rcases hc with rfl | rfl
  ·exact ⟨zo,by rw [zJ zo]⟩
  ·exact ⟨zo,by rw [zM zo]⟩
theorem O6 {k c:Int} (h1:1≤k) (h2:k≤6) (hc:c=0∨c=1):kindOf (k+6*c)=k:=by
 unfold kindOf;rcases hc with rfl | rfl
 ·rw [zJ zo];omega
 ·rw [zM zo];omega
theorem S3 {k c:Int} (h1:1≤k) (h2:k≤6) (hc:c=0∨c=1):A1 (k+6*c)=c:=by
 unfold A1;rcases hc with rfl | rfl
 ·rw [zJ zo]
 ·rw [zM zo]
theorem T6 (p:l9) (hp:∀ i:Int,0≤sq p i∧sq p i≤12) {a:Nat} {c:Int} (hc:c=0∨c=1) :
  B5 p a c=true↔∃ k:Int,1≤k∧k≤6∧∃ i:Nat,i<64∧sq p i=k+6*c∧P1 p k c i a=true:=by
 unfold B5;rw [a3s];constructor
 ·rintro ⟨i,h1,h2⟩;simp only [a3f,zP,zc,zW,zZ,a6i] at h2;obtain ⟨⟨h3,h4⟩,_,h6⟩:=h2;obtain ⟨k,k1,k2,k3⟩:=(b19 (hp i).1 (hp i).2 hc).1 ⟨h3,h4⟩;refine ⟨k,k1,k2,i,h1,k3,?_⟩
  rwa [k3,O6 k1 k2 hc,S3 k1 k2 hc] at h6
 ·rintro ⟨k,k1,k2,i,h1,k3,h⟩;refine ⟨i,h1,?_⟩;simp only [a3f,zP,zc,zW,zZ,a6i];have h0:sq p i≠0:=by rw [k3];rcases hc with rfl | rfl<;>omega
  exact ⟨⟨h0,by rw [k3,S3 k1 k2 hc]⟩,h0,by rw [k3,O6 k1 k2 hc,S3 k1 k2 hc];exact h⟩
theorem a24 (p:l9) (k c:Int) (hk:k≠6) (x a:Nat) (ha:a<64) (hx:∀ i,i<64→x.testBit (63-i)=P1 p k 0 a i) :
  (x &&& pcs p (k+6*c)≠0)↔∃ i:Nat,i<64∧sq p i=k+6*c∧P1 p k c i a=true:=by
 unfold pcs;rw [b47];constructor
 ·rintro ⟨i,h1,h2,h3⟩;refine ⟨i,h1,yA h3,?_⟩;rw [a0s p hk c 0 h1 ha,← hx i h1];exact h2
 ·rintro ⟨i,h1,h2,h3⟩;refine ⟨i,h1,?_,zX h2⟩;rw [hx i h1,← a0s p hk c 0 h1 ha];exact h3
theorem b9Y (p:l9) (hp:∀ i:Int,0≤sq p i∧sq p i≤12) {a:Nat} (ha:a<64) {c:Int} (hc:c=0∨c=1):b7x p a c=B5 p a c:=by
 have m2:=a24 p 2 c zd _ a ha (fun i hi=>b7y p ha hi);have m3:=a24 p 3 c zd _ a ha (fun i hi=>c1L p ha hi);have m4:=a24 p 4 c zd _ a ha (fun i hi=>c1M p ha hi);have m5:=a24 p 5 c zd _ a ha (fun i hi=>b7z p ha hi);have m1:=a24 p 1 c zd _ a ha (fun i hi=>c1N p ha hi);have m6:(a23 p c &&& D6 a≠0)↔∃ i:Nat,i<64∧sq p i=6+6*c∧P1 p 6 c i a=true:=by
  rw [c20 ha,b47,← b04 p hc ha];constructor
  ·rintro ⟨i,_,h2,h3⟩;rw [← yA h3];exact h2
  ·intro h;exact ⟨a,ha,h,zX rfl⟩
 have hot:B5 p a c=true→¬ (((di (occ p) a ||| hv (occ p) a) &&& side p c) ||| (kn a &&& side p c)=0):=by
  intro h h0;obtain ⟨k,k1,k2,i,h1,h2,h3⟩:=(T6 p hp hc).1 h;have hs:(!decide (sq p i=0)&&decide (A1 (sq p i)=c))=true:=by
   have:=(b19 (hp i).1 (hp i).2 hc).2 ⟨k,k1,k2,h2⟩;simp [this.1,this.2]
  have hz:(di (occ p) a ||| hv (occ p) a) &&& side p c=0∧kn a &&& side p c=0:=by
   constructor
   ·apply Nat.eq_of_testBit_eq;intro j;have:=yG (fun x=>x.testBit j) h0;simp only [yD _ _ j,Nat.zero_testBit,zy] at this;rw [Nat.zero_testBit];exact this.1
   ·apply Nat.eq_of_testBit_eq;intro j;have:=yG (fun x=>x.testBit j) h0;simp only [yD _ _ j,Nat.zero_testBit,zy] at this;rw [Nat.zero_testBit];exact this.2
  by_cases h5:k=5
  ·refine (b47 (kn a) _).2 ⟨i,h1,?_,hs⟩ hz.2;rw [b7z p ha h1,a0s p zd 0 c ha h1,← h5];exact h3
  ·refine (b47 (di (occ p) a ||| hv (occ p) a) _).2 ⟨i,h1,?_,hs⟩ hz.1
   rw [b7y p ha h1,a0s p zd 0 c ha h1];have hne:i≠a:=by
    intro e;subst e;simp [P1] at h3
   have hkk:k=1∨k=2∨k=3∨k=4∨k=6:=by omega
   rcases hkk with rfl | rfl | rfl | rfl | rfl
   ·simp only [P1,if_true,zP,zW] at h3;rw [a0s p zd c 0 h1 ha,a0s p zd 0 0 ha h1];exact b71 p h1 ha hne h3.2.1 h3.2.2
   ·exact h3
   ·simp only [P1,zP] at h3 ⊢;rw [zJ zd,zJ zd,zJ zd] at h3 ⊢;simp only [zP,zj,decide_true,Bool.not_true,Bool.and_false,Bool.or_false,yB,and_false,or_false] at h3 ⊢;exact ⟨h3.1,.inl ⟨h3.2.1.1,zd⟩,h3.2.2⟩
   ·simp only [P1,zP] at h3 ⊢;rw [zJ zd,zJ zd,zJ zd] at h3 ⊢;simp only [zP,zj,decide_true,Bool.not_true,yB,and_false,false_or] at h3 ⊢;exact ⟨h3.1,.inr ⟨h3.2.1.1,zd⟩,h3.2.2⟩
   ·simp only [P1,zP,zW] at h3;rw [zJ zd,zJ zd,zM trivial,zP,zW,zW] at h3;rw [a0s p zd c 0 h1 ha,a0s p zd 0 0 ha h1];refine b71 p h1 ha hne zo ?_;rw [h3.2.2];unfold up;rcases hc with rfl | rfl<;>decide
 rw [Bool.eq_iff_iff];constructor
 ·intro h;rw [T6 p hp hc];simp only [b7x] at h;split at h
  ·cases h
  split at h
  ·rename_i h';exact ⟨2,zd,zd,m2.1 h'⟩
  split at h
  ·rename_i h';exact ⟨3,zd,zd,m3.1 h'⟩
  split at h
  ·rename_i h';exact ⟨4,zd,zd,m4.1 h'⟩
  split at h
  ·rename_i h';exact ⟨5,zd,zd,m5.1 h'⟩
  split at h
  ·rename_i h';exact ⟨6,zd,zd,m6.1 h'⟩
  split at h
  ·rename_i h';exact ⟨1,zd,zd,m1.1 h'⟩
  cases h
 ·intro h;have hh:=hot h;obtain ⟨k,k1,k2,h2⟩:=(T6 p hp hc).1 h;simp only [b7x];rw [zJ hh];have hkk:k=1∨k=2∨k=3∨k=4∨k=5∨k=6:=by omega
  split
  ·rfl
  split
  ·rfl
  split
  ·rfl
  split
  ·rfl
  split
  ·rfl
  split
  ·rfl
  rename_i n2 n3 n4 n5 n6 n1;rcases hkk with rfl | rfl | rfl | rfl | rfl | rfl
  ·exact absurd (m1.2 h2) n1
  ·exact absurd (m2.2 h2) n2
  ·exact absurd (m3.2 h2) n3
  ·exact absurd (m4.2 h2) n4
  ·exact absurd (m5.2 h2) n5
  ·exact absurd (m6.2 h2) n6
end Ch
end
end Go.Proofs.YtpclhlhcegcflaaGreatDoor
