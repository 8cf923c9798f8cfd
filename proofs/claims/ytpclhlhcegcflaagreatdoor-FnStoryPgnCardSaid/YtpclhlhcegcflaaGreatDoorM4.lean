/- One part of the proof: Sp5 Sp6 Law3 Sp7 Sp8 Sp9 Bit LinC Lin Att Att2. -/
import Derived.Laws.Tables
import Derived.Maps.AppendAt
import Derived.Test.YtpclhlhcegcflaaGreatDoorM3
namespace Go.Proofs.YtpclhlhcegcflaaGreatDoor
open Go.Proofs.Tryz
set_option maxRecDepth 100000
set_option linter.unusedSimpArgs false
set_option linter.unusedVariables false
section
open Go Go.RowKit
open E
theorem b7 {w:World} {t:Nat} {a:Addr} {K:Value→Prop} (v:Value) (h:g8 G.P w t a v) (hk:q8 v K):N1 G.P w t a (fun v=>q8 v K):=⟨v,h,hk⟩
structure a13 (W0:World) (B4 B8:Nat) (q:l9) (w:World):Prop where
 cl:Cl W0 w
 lo4:W0.heap.size≤B4
 lo8:W0.heap.size≤B8
 ne:B4≠B8
 b4:∃ cs,cs.size=69∧w.heap[B4]?=some (.cells cs 24 (0,0))
 b8:w.heap[B8]?=some (.cells (s7 q) 24 (0,0))
theorem a13.step {W0:World} {B4 B8:Nat} {q:l9} {w w':World} (h:a13 W0 B4 B8 q w) (hc:Cl w w'):a13 W0 B4 B8 q w' :=
 ⟨h.cl.trans hc,h.lo4,h.lo8,h.ne,by obtain ⟨cs,h1,h2⟩:=h.b4;exact ⟨cs,h1,hc.blk h2⟩,hc.blk h.b8⟩
theorem a13.upd {W0:World} {B4 B8:Nat} {q q':l9} {w w':World} {cs:Array Value} (h:a13 W0 B4 B8 q w) (hu:Upd w B8 (.cells cs 24 (0,0)) w') (e:cs=s7 q'):a13 W0 B4 B8 q' w' :=
 ⟨hu.cl h.cl h.lo8,h.lo4,h.lo8,h.ne,by obtain ⟨cs,h1,h2⟩:=h.b4;exact ⟨cs,h1,by rw [hu.else_ _ h.ne];exact h2⟩,by rw [hu.at_,e]⟩
theorem N8 (p q:l9) (k:Nat) (x:Int) (hk:64≤k∧k≤68) (hb:q.board=p.board)
  (hf:([.int .i64 q.turn,.int .i64 q.castle,.int .i64 q.ep,.int .i64 q.half,.int .i64 q.full]:List Value)=([.int .i64 p.turn,.int .i64 p.castle,.int .i64 p.ep,.int .i64 p.half,.int .i64 p.full]:List Value).set (k-64) (.int .i64 x)) :
  L8 (s7 p) k [.int .i64 x]=s7 q:=by
 apply xv;intro i;rw [S0 _ _ _ _ (by rw [A0];simp;omega)]
 simp only [zh,za];by_cases hi:i<64
 ·rw [zJ zo,a3Y _ _ hi,a3Y _ _ hi];simp only [Ch.sq,hb]
 ·rw [W3 _ _ zo,W3 _ _ zo,hf,List.getElem?_set];by_cases h:i=k
  ·subst h;rw [zM zo,zM rfl,zM (by simp;omega)];simp
  ·rw [zJ zo,zJ zo]
noncomputable def c2e (t n:Nat):Bool:=match (G.P.info? t).bind (·.zero) with|some z=>Nat.beq z.cells.size n|none=>false
theorem a0C {t n:Nat} (h:c2e t n=true):∃ z,(G.P.info? t).bind (·.zero)=some z∧z.cells.size=n:=by
 unfold c2e at h;split at h
 ·rename_i z hz;exact ⟨z,hz,zu h⟩
 ·cases h
theorem a9p:∃ z,(G.P.info? 24).bind (·.zero)=some z∧z.cells.size=69:=a0C zk
theorem one_pos (p:l9):∀ v∈V0 p,v.oneCell'=true:=by
 intro v hv;simp only [V0,zr,xJ,yS,zy,yy] at hv;rcases hv with ⟨x,_,rfl⟩|rfl|rfl|rfl|rfl|rfl<;>rfl
theorem A7 (p:l9):(V0 p).length=69:=by simp [V0,p.len]
theorem a6b (p:l9) (m:Mv) (hp:Pc p) (hm:b17 m) (ht:p.turn=0∨p.turn=1) (c0:0≤p.castle) (c1:p.castle≤15) (h0:0≤p.half) (h1:p.half<4611686018427387904) (f0:0≤p.full) (f1:p.full<4611686018427387904) (w:World) :
  Calls G.P 39 #[D3 p,mvV m] w (N2 (D3 (Ch.made p m)) w):=by
 have hm':=hm;obtain ⟨⟨a0,a1⟩,⟨b0,b1⟩,⟨d0,d1⟩⟩:=hm';obtain ⟨z,hz,hz69⟩:=a9p;refine zN func39 ?_;refine zG ?_;refine v8 z hz ?_;generalize hW:(w.alloc (.cells (s7 p) 24)).alloc (.cells (S8 m) 36)=W0;have hP:∀ w',Cl W0 w'→w'.heap[w.heap.size]?=some (.cells (s7 p) 24 (0,0)):=fun w' h=>hP2 (hW▸h);have hM:∀ w',Cl W0 w'→w'.heap[(w.alloc (.cells (s7 p) 24)).heap.size]?=some (.cells (S8 m) 36 (0,0)):=fun w' h=>hM2 (hW▸h);have hE:∀ w',Cl W0 w'→Cl w w':=fun w' h=>hE2 (hW▸h);have i4:(W0.alloc (.cells z.cells 24)).heap[W0.heap.size]?=some (.cells z.cells 24 (0,0)):=d9 _ _;have k4:Cl W0 (W0.alloc (.cells z.cells 24)):=Cl.alloc _ _;generalize W0.alloc (.cells z.cells 24)=w1 at *;refine zR ?_;refine b7 _ (N7 (hM _ k4)) (zR ?_);refine E.A8 (F2.2 ⟨a0,zo⟩) (zR ?_);refine b7 _ (O4 (hP _ k4) _ a0 zo) (zR ?_);refine b7 _ (A3 (hP _ k4)) (zR ?_);refine b7 _ (a0f (hM _ k4)) (zR ?_);refine o9 (c0n p m hp hm _) fun w2 e2=>?_;have k5:=k4.trans e2;refine zR ?_;refine b7 _ (A3 (hP _ k5)) (zR ?_);refine v8 z hz (zR ?_);refine K9 (d9 _ _) (V0 p) rfl a0I (A7 p) (one_pos p) (by rw [hz69];omega) (fun w3 u3=>?_)
 have I:a13 W0 W0.heap.size w2.heap.size p w3 :=
  ⟨u3.cl (k5.trans (Cl.alloc _ _)) k5.size,yJ _,k5.size,by
   have:=(yh.1 (e2.blk i4)).1;omega,⟨z.cells,hz69,by rw [u3.else_ _ (by have:=(yh.1 (e2.blk i4)).1;omega)];exact (Cl.alloc _ _).blk (e2.blk i4)⟩,
   by rw [u3.at_,C6 _ _ (by rw [A7,hz69])];rfl⟩
 clear u3;refine zG ?_;refine C3 (σ:=Unit) [] 10 (fun _=>[]) (fun _ w=>a13 W0 W0.heap.size w2.heap.size (Ch.a3v p m) w) zk ?_ (fun _ j w4 I=>?_)
 ·have hta:Ch.C1 p m=true→0≤Ch.F3 p m∧Ch.F3 p m≤63:=fun h=>by
   unfold Ch.F3;simp only [h,xy];split
   ·omega
   ·rw [a95 (by unfold Ch.o4;omega) (by unfold Ch.o4;omega) (by unfold Ch.k9;omega) (by unfold Ch.k9;omega)]
    unfold Ch.o4 Ch.k9;omega
  refine zR ?_;apply E.S7<;>intro h
  ·have hta:=hta h;refine zR ?_;refine zC ?_;refine zR ?_;refine K9 I.b8 [.int .i64 0] rfl R9 rfl (by simp [Value.oneCell']) (by rw [A0];simp [E.J0];omega) (fun w4 u4=>zR ?_)
   exact ⟨(),trivial,I.upd u4 (by unfold Ch.a3v;rw [zM h];exact T8 _ _ _ hta.1 zo)⟩
  ·refine zR ?_;exact ⟨(),trivial,by unfold Ch.a3v;rw [h];exact I⟩
 refine zR ?_;refine b7 _ (N7 (hM _ I.cl)) (zR ?_);refine E.A8 (F2.2 ⟨a0,zo⟩) (zR ?_);refine K9 I.b8 [.int .i64 0] rfl R9 rfl (by simp [Value.oneCell']) (by rw [A0];simp [E.J0];omega) (fun w5 u5=>?_)
 have I:=I.upd u5 (T8 _ _ _ a0 zo);clear u5;refine zR ?_;refine b7 _ (a0w (hM _ I.cl)) (zR ?_);refine E.A8 (F2.2 ⟨b0,zo⟩) (zR ?_);refine K9 I.b8 [.int .i64 (Ch.sq p m.fr)] rfl R9 rfl (by simp [Value.oneCell']) (by rw [A0];simp [E.J0];omega) (fun w6 u6=>?_)
 have I:a13 W0 W0.heap.size w2.heap.size (Ch.a3w p m) w6:=I.upd u6 (T8 _ _ _ b0 zo);clear u6;refine zG ?_;refine C3 (σ:=Unit) [] 10 (fun _=>[]) (fun _ w=>a13 W0 W0.heap.size w2.heap.size (Ch.a10 p m) w) zk ?_ (fun _ j w9' I=>?_)
 ·refine zR ?_;refine b7 _ (a0k (hM _ I.cl)) (zR ?_);apply E.y6<;>intro h
  ·refine zR ?_;refine zK 9 ?_;refine zR ?_;refine m7 _ (fun w hw=>a0w (hM _ (I.cl.trans hw))) (zR ?_);refine m7 _ (fun w hw=>a0k (hM _ (I.cl.trans hw))) (zR ?_);refine m7 _ (fun w hw=>E9 (hP _ (I.cl.trans hw))) (zR ?_);refine m8 _ (fun w _=>a4u _ _ _ zo zo zo zo) (zR ?_);refine E.A8 (F2.2 ⟨b0,zo⟩) (zR ?_);intro w7 h7;have I:=I.step h7;refine zR ?_;refine K9 I.b8 [.int .i64 (m.promo+6*p.turn)] rfl R9 rfl (by simp [Value.oneCell']) (by rw [A0];simp [E.J0];omega) (fun w8 u8=>zR ?_)
   exact ⟨(),trivial,I.upd u8 (by unfold Ch.a10;rw [zM h];exact T8 _ _ _ b0 zo)⟩
  ·refine zR ?_;exact ⟨(),trivial,by unfold Ch.a10;rw [zJ zo];exact I⟩
 refine C3 (σ:=Unit) [9] 10 (fun _=>[]) (fun _ w=>a13 W0 W0.heap.size w2.heap.size (Ch.L7 p m) w) zk ?_ (fun _ j w9 I=>?_)
 ·have hp2:IntKind.i64.wrap (m.fr+2)=m.fr+2:=g9 zo zo;have hm2:IntKind.i64.wrap (m.fr-2)=m.fr-2:=g9 zo zo;refine zR ?_;refine l8 (P3 _ _ (hp.lo _) (hp.hi _)) (zR ?_);have no:Ch.V4 p m=false→a13 W0 W0.heap.size w2.heap.size (Ch.L7 p m) w9':=fun h=>by unfold Ch.L7;rw [h];exact I
  apply E.b9<;>intro h
  ·refine zR ?_;refine b7 _ (a0w (hM _ I.cl)) (zR ?_);refine b7 _ (N7 (hM _ I.cl)) (zR ?_);rw [hp2];rename_i hk;apply E.b9<;>intro h
   ·refine zR ?_;refine b7 _ (N7 (hM _ I.cl)) (zR ?_);refine l8 (X5 _ _ a0 zo) (zR ?_);refine l8 (a2M _ _ _ zo zo (by unfold Ch.k9;omega) (by unfold Ch.k9;omega)) (zR ?_)
    refine b7 _ (a0w (hM _ I.cl)) (zR ?_);refine b7 _ (N7 (hM _ I.cl)) (zR ?_);refine E.p9 zo ?_;have hrk:0≤Ch.k9 m.fr∧Ch.k9 m.fr≤7:=by unfold Ch.k9;omega
    have hat:Ch.I9 7 (Ch.k9 m.fr)=8*Ch.k9 m.fr+7:=a95 zo zo hrk.1 hrk.2;refine zR ?_;refine zC ?_;refine zR ?_;refine K9 I.b8 [.int .i64 0] rfl R9 rfl (by simp [Value.oneCell']) (by rw [A0];simp [E.J0];omega) (fun w10 u10=>?_)
    have I:=I.upd u10 (T8 _ _ _ zo zo);clear u10;refine zR ?_;refine zK 11 ?_;refine zR ?_;refine m7 _ (fun w hw=>N7 (hM _ (I.cl.trans hw))) (zR ?_);refine m7 _ (fun w hw=>a0w (hM _ (I.cl.trans hw))) ?_;have hmid:IntKind.i64.wrap (Int.tdiv (IntKind.i64.wrap (m.fr+m.to)) 2)=(m.fr+m.to)/2:=by
     rw [g9 (n:=m.fr+m.to) zo zo,xa zo,g9 zo zo]
    refine zR ?_;refine m7 _ (fun w hw=>E9 (hP _ (I.cl.trans hw))) (zR ?_);refine m8 _ (fun w _=>a4u _ _ _ zo zo zo zo) (zR ?_);rw [hmid];refine zC ?_;refine zR ?_;intro w11 h11;have I:=I.step h11;refine zR ?_;refine K9 I.b8 [.int .i64 (3+6*p.turn)] rfl R9 rfl (by simp [Value.oneCell']) (by rw [A0];simp [E.J0];omega) (fun w12 u12=>zR ?_)
    exact ⟨(),trivial,I.upd u12 (by
     unfold Ch.L7;rw [zM (by simp [Ch.V4, *]),zJ zo];exact T8 _ _ _ zo zo)⟩
   ·refine zR ?_;refine b7 _ (a0w (hM _ I.cl)) (zR ?_);refine b7 _ (N7 (hM _ I.cl)) (zR ?_);rw [hm2];rename_i h2;apply E.b9<;>intro h
    ·refine zR ?_;refine b7 _ (N7 (hM _ I.cl)) (zR ?_);refine l8 (X5 _ _ a0 zo) (zR ?_);refine l8 (a2M _ _ _ zo zo (by unfold Ch.k9;omega) (by unfold Ch.k9;omega)) (zR ?_)
     refine b7 _ (a0w (hM _ I.cl)) (zR ?_);refine b7 _ (N7 (hM _ I.cl)) (zR ?_);refine E.z6 zo (zR ?_);refine b7 _ (N7 (hM _ I.cl)) (zR ?_);refine l8 (X5 _ _ a0 zo) (zR ?_);refine l8 (a2M _ _ _ zo zo (by unfold Ch.k9;omega) (by unfold Ch.k9;omega)) ?_
     have hrk:0≤Ch.k9 m.fr∧Ch.k9 m.fr≤7:=by unfold Ch.k9;omega
     have hat:Ch.I9 0 (Ch.k9 m.fr)=8*Ch.k9 m.fr+0:=a95 zo zo hrk.1 hrk.2;refine zR ?_;refine zC ?_;refine zR ?_;refine K9 I.b8 [.int .i64 0] rfl R9 rfl (by simp [Value.oneCell']) (by rw [A0];simp [E.J0];omega) (fun w10 u10=>?_)
     have I:=I.upd u10 (T8 _ _ _ zo zo);clear u10;refine zR ?_;refine zK 11 ?_;refine zR ?_;refine m7 _ (fun w hw=>N7 (hM _ (I.cl.trans hw))) (zR ?_);refine m7 _ (fun w hw=>a0w (hM _ (I.cl.trans hw))) ?_;have hmid:IntKind.i64.wrap (Int.tdiv (IntKind.i64.wrap (m.fr+m.to)) 2)=(m.fr+m.to)/2:=by
      rw [g9 (n:=m.fr+m.to) zo zo,xa zo,g9 zo zo]
     refine zR ?_;refine m7 _ (fun w hw=>E9 (hP _ (I.cl.trans hw))) (zR ?_);refine m8 _ (fun w _=>a4u _ _ _ zo zo zo zo) (zR ?_);rw [hmid];refine zC ?_;refine zR ?_;intro w11 h11;have I:=I.step h11;refine zR ?_;refine K9 I.b8 [.int .i64 (3+6*p.turn)] rfl R9 rfl (by simp [Value.oneCell']) (by rw [A0];simp [E.J0];omega) (fun w12 u12=>zR ?_)
     exact ⟨(),trivial,I.upd u12 (by
      unfold Ch.L7;rw [zM (by simp [Ch.V4, *]),zM zo];exact T8 _ _ _ zo zo)⟩
    ·refine zR ?_;exact ⟨(),trivial,no (by simp [Ch.V4, *])⟩
  ·refine zR ?_;exact ⟨(),trivial,no (by simp [Ch.V4, *])⟩
 refine zR ?_;refine b7 _ (a2w (hP _ I.cl)) (zR ?_);refine b7 _ (a0f (hM _ I.cl)) (zR ?_);refine o9 (c2H p.castle m _ c0 c1) fun w13 e13=>?_;have I:=I.step e13;refine zR ?_;refine K9 I.b8 [.int .i64 (Ch.left p.castle m)] rfl R9 rfl (by simp [Value.oneCell']) (by rw [A0];decide) (fun w14 u14=>?_)
 have I:=I.upd u14 (N8 _ { Ch.L7 p m with castle:=Ch.left p.castle m } 65 _ zo rfl rfl);clear u14;refine zR ?_;refine K9 I.b8 [.int .i64 (-1)] rfl R9 rfl (by simp [Value.oneCell']) (by rw [A0];decide) (fun w15 u15=>?_)
 have I:=I.upd u15 (N8 _ { Ch.L7 p m with castle:=Ch.left p.castle m,ep:=-1 } 66 _ zo rfl rfl);clear u15;refine zG ?_;have hp16:IntKind.i64.wrap (m.fr+16)=m.fr+16:=g9 zo zo;have hm16:IntKind.i64.wrap (m.fr-16)=m.fr-16:=g9 zo zo;have hmid:IntKind.i64.wrap (Int.tdiv (IntKind.i64.wrap (m.fr+m.to)) 2)=(m.fr+m.to)/2:=by
  rw [g9 (n:=m.fr+m.to) zo zo,xa zo,g9 zo zo]
 refine C3 (σ:=Unit) [] 10 (fun _=>[]) (fun _ w=>a13 W0 W0.heap.size w2.heap.size { Ch.L7 p m with castle:=Ch.left p.castle m,ep:=(if Ch.G3 p m then (m.fr+m.to)/2 else -1) } w) zk ?_ (fun _ j w17 I=>?_)
 ·refine zR ?_;refine l8 (P3 _ _ (hp.lo _) (hp.hi _)) (zR ?_);have no:Ch.G3 p m=false→(if Ch.G3 p m then (m.fr+m.to)/2 else -1)=-1:=fun h=>by rw [h];rfl
  apply E.b9<;>intro h
  ·rename_i hk;refine zR ?_;refine b7 _ (a0w (hM _ I.cl)) (zR ?_);refine b7 _ (N7 (hM _ I.cl)) (zR ?_);rw [hp16];apply E.b9<;>intro h
   ·refine zR ?_;refine b7 _ (N7 (hM _ I.cl)) (zR ?_);refine b7 _ (a0w (hM _ I.cl)) (zR ?_);rw [hmid];refine K9 I.b8 [.int .i64 ((m.fr+m.to)/2)] rfl R9 rfl (by simp [Value.oneCell']) (by rw [A0];decide) (fun w18 u18=>zR ?_)
    exact ⟨(),trivial,I.upd u18 (by rw [zM (by simp [Ch.G3, *])];exact N8 _ _ 66 _ zo rfl rfl)⟩
   ·rename_i h2;refine zR ?_;refine b7 _ (a0w (hM _ I.cl)) (zR ?_);refine b7 _ (N7 (hM _ I.cl)) (zR ?_);rw [hm16];apply E.b9<;>intro h
    ·refine zR ?_;refine b7 _ (N7 (hM _ I.cl)) (zR ?_);refine b7 _ (a0w (hM _ I.cl)) (zR ?_);rw [hmid];refine K9 I.b8 [.int .i64 ((m.fr+m.to)/2)] rfl R9 rfl (by simp [Value.oneCell']) (by rw [A0];decide) (fun w18 u18=>zR ?_)
     exact ⟨(),trivial,I.upd u18 (by rw [zM (by simp [Ch.G3, *])];exact N8 _ _ 66 _ zo rfl rfl)⟩
    ·refine zR ?_;exact ⟨(),trivial,by rw [no (by simp [Ch.G3, *])];exact I⟩
  ·refine zR ?_;exact ⟨(),trivial,by rw [no (by simp [Ch.G3, *])];exact I⟩
 have h4:(Ch.L7 p m).half=p.half∧(Ch.L7 p m).full=p.full∧(Ch.L7 p m).turn=p.turn:=by
  unfold Ch.L7 Ch.a10 Ch.a3w Ch.a3v;split<;>split<;>split<;>simp
 obtain ⟨q1,q2,q3⟩:=h4;have hh1:IntKind.i64.wrap (p.half+1)=p.half+1:=g9 zo zo;have hft:IntKind.i64.wrap (p.full+p.turn)=p.full+p.turn:=g9 zo zo;have h1t:IntKind.i64.wrap (1-p.turn)=1-p.turn:=g9 zo zo;refine zR ?_;refine b7 _ (a7Y I.b8) (zR ?_);rw [show IntKind.i64.wrap ((Ch.L7 p m).half+1)=p.half+1 by rw [q1,hh1]]
 refine K9 I.b8 [.int .i64 (p.half+1)] rfl R9 rfl (by simp [Value.oneCell']) (by rw [A0];decide) (fun w19 u19=>?_)
 have I:=I.upd u19 (N8 _ { Ch.L7 p m with castle:=Ch.left p.castle m,ep:=(if Ch.G3 p m then (m.fr+m.to)/2 else -1),half:=p.half+1 } 67 _ zo rfl rfl)
 clear u19;refine zG ?_;refine C3 (σ:=Unit) [] 10 (fun _=>[]) (fun _ w=>a13 W0 W0.heap.size w2.heap.size { Ch.L7 p m with castle:=Ch.left p.castle m,ep:=(if Ch.G3 p m then (m.fr+m.to)/2 else -1),half:=(if Ch.C1 p m||decide (Ch.d6 (Ch.sq p m.fr)=6) then 0 else p.half+1) } w) zk ?_ (fun _ j w20 I=>?_)
 ·refine zR ?_;apply E.S7<;>intro h
  ·refine zR ?_;refine K9 I.b8 [.int .i64 0] rfl R9 rfl (by simp [Value.oneCell']) (by rw [A0];decide) (fun w21 u21=>zR ?_)
   exact ⟨(),trivial,I.upd u21 (by rw [show (Ch.C1 p m||decide (Ch.d6 (Ch.sq p m.fr)=6))=true by simp [h]];exact N8 _ _ 67 _ zo rfl rfl)⟩
  ·refine zR ?_;refine l8 (P3 _ _ (hp.lo _) (hp.hi _)) (zR ?_);rename_i ht;apply E.b9<;>intro h
   ·refine zR ?_;refine K9 I.b8 [.int .i64 0] rfl R9 rfl (by simp [Value.oneCell']) (by rw [A0];decide) (fun w21 u21=>zR ?_)
    exact ⟨(),trivial,I.upd u21 (by rw [show (Ch.C1 p m||decide (Ch.d6 (Ch.sq p m.fr)=6))=true by simp [*]];exact N8 _ _ 67 _ zo rfl rfl)⟩
   ·refine zR ?_;exact ⟨(),trivial,by rw [show (Ch.C1 p m||decide (Ch.d6 (Ch.sq p m.fr)=6))=false by simp [*]];exact I⟩
 refine zR ?_;refine b7 _ (a5Z I.b8) (zR ?_);refine b7 _ (E9 (hP _ I.cl)) (zR ?_);rw [show IntKind.i64.wrap ((Ch.L7 p m).full+p.turn)=p.full+p.turn by rw [q2,hft]]
 refine K9 I.b8 [.int .i64 (p.full+p.turn)] rfl R9 rfl (by simp [Value.oneCell']) (by rw [A0];decide) (fun w22 u22=>?_)
 have I:=I.upd u22 (N8 _ { Ch.L7 p m with castle:=Ch.left p.castle m,ep:=(if Ch.G3 p m then (m.fr+m.to)/2 else -1),half:=(if Ch.C1 p m||decide (Ch.d6 (Ch.sq p m.fr)=6) then 0 else p.half+1),full:=p.full+p.turn } 68 _ zo rfl rfl)
 clear u22;refine zR ?_;refine b7 _ (E9 (hP _ I.cl)) (zR ?_);rw [h1t];refine K9 I.b8 [.int .i64 (1-p.turn)] rfl R9 rfl (by simp [Value.oneCell']) (by rw [A0];decide) (fun w23 u23=>?_)
 have I:a13 W0 W0.heap.size w2.heap.size (Ch.made p m) w23:=I.upd u23 (N8 _ (Ch.made p m) 64 _ zo rfl rfl);clear u23;refine zR ?_;refine b7 _ (A3 I.b8) (zR ?_);obtain ⟨cs,hcs,i4'⟩:=I.b4;refine K9 i4' (V0 (Ch.made p m)) rfl a0I (A7 _) (one_pos _) (by rw [hcs];decide) (fun w24 u24=>zR ?_)
 refine b7 _ (A3 (p:=Ch.made p m) (by rw [u24.at_,C6 _ _ (by rw [A7,hcs])];rfl)) (zR ?_)
 exact ⟨rfl,hE _ (u24.cl I.cl I.lo4)⟩
def b19 {α:Type} (e z:Nat) (enc:α→List Value) (l:List α) (w:World):Ending→World→Prop:=fun r w'=>∃ v,r = .returned v∧Row e z enc w.heap.size w' v l∧Cl w w'
theorem K3 (x:Int):(P1 x).length=1:=rfl
theorem D9 (x:Mv):(J3 x).length=3:=rfl
theorem a14 (x:Int):∀ u∈P1 x,u.oneCell'=true:=by intro u hu;simp [P1] at hu;subst hu;rfl
theorem J6 (x:Mv):∀ u∈J3 x,u.oneCell'=true:=by intro u hu;simp [J3] at hu;rcases hu with rfl|rfl|rfl<;>rfl
theorem a3x {α:Type} {e z:Nat} {enc:α→List Value} {l:List α} {w:World} {f:Nat} {args:Array Value} {K:Value→World→Prop} (h:Calls G.P f args w (b19 e z enc l w))
  (hk:∀ v w',Row e z enc w.heap.size w' v l→Cl w w'→K v w'):b1w G.P f args w K :=
 ⟨h.mono fun _ w' ⟨v,h1,h2,h3⟩=>⟨v,h1,hk v w' h2 h3⟩⟩
theorem a5t {α:Type} {t e z b:Nat} (E1:F0 t e z b) {enc:α→List Value} {b0:Nat} {v:Value} {l:List α} {x:α} {dst:Option Nat} {s y:Operand} {ty:Nat} {pos:String} {af:Array Edge} {gd:Option (Nat×Bool)} {env:C8} {w w1:World} {u:Nat} {cs:Array Value} {K:Value→World→Prop}
  (hs:ev env s=v) (hrow:Row e z enc b0 w1 v l) (hw:w=w1.alloc (.cells cs u)) (hx:ev env y = .slice (some ⟨w1.heap.size,0,none⟩) 1 1) (hcs:cs.toList=enc x) (henc:∀ x,(enc x).length=z)
  (hone:∀ x,∀ u∈enc x,u.oneCell'=true) (hlen:l.length+1≤100000) (hbz:b≤1000) (hb0:b0≤w1.heap.size)
  (h:∀ v' w',Row e z enc b0 w' v' (l++[x])→(∀ w0,w0.heap.size=b0→Cl w0 w1→Cl w0 w')→K v' w') :
  H4 G.P { dst,op:=.call { callee:=.builtin .append,args:=#[s,y],argTypes:=#[t,t] },type:=ty,pos,after:=af,guard:=gd } env w K:=by
 subst hw;refine c0h E1 (news:=[x]) (B:=w1.heap.size) (c:=1) (cs:=cs) hs (hrow.step (Cl.alloc _ _)) hx (d9 _ _) (by simp [hcs]) henc hone (by simpa using hlen) hbz (by rw [B0];omega) fun v' w' h1 h2=>h v' w' h1 fun w0 e h3=>h2 w0 e (h3.trans (Cl.alloc _ _))
def a2k (fr side:Int):Nat→List Int
 | 0=>[]
 | n+1=>a2k fr side n++Ch.a1T fr side (2*(n:Int)-1)
theorem c2I (f s:Int) (w:World) (h0:0≤f) (h1:f≤63) (s0:0≤s) (s1:s≤1) :
  Calls G.P 216 #[.int .i64 f,.int .i64 s] w (b19 3 1 P1 (Ch.K2 f s) w):=by
 refine zN func216 ?_;refine zG ?_;refine zR ?_;refine B6 (σ:=Nat×Value) [5,6,7] 8 (fun a=>[(5,a.2),(6,.int .i64 (2*(a.1:Int)-1))]) (fun a w'=>a.1≤2∧Row 3 1 P1 w.heap.size w' a.2 (a2k f s a.1)∧Cl w w') (fun a=>2-a.1) zk (0,.slice none 0 0)
  ⟨zo,Row.nil _ _,Cl.refl _⟩ ⟨rfl,rfl,trivial⟩ ?_
 rintro ⟨n,v⟩ j w1 ⟨hn,hrow,hcl⟩;simp only at hn hrow;obtain ⟨a,c,rfl,_⟩:=hrow.form;refine zR ?_;apply E.b9<;>intro h
 ·have hn2:n<2:=by omega
  refine zR ?_;refine l8 (a2j _ _ zo) (zR ?_);refine l8 (X5 _ _ zo zo) (zR ?_);refine l8 (b5N _ _ zo zo) (zR ?_);refine l8 (a2M _ _ _ (by exact zO) (by exact zO) (by exact zO) (by exact zO)) (zR ?_)
  have e1:IntKind.i64.wrap (Ch.o4 f+(2*(n:Int)-1))=Ch.o4 f+(2*(n:Int)-1):=g9 (by unfold Ch.o4;omega) (by unfold Ch.o4;omega)
  have e2:IntKind.i64.wrap (Ch.k9 f+Ch.up s)=Ch.k9 f+Ch.up s:=g9 (by unfold Ch.k9 Ch.up;omega) (by unfold Ch.k9 Ch.up;omega)
  simp only [e1,e2];have hlen:(a2k f s n).length≤2:=by
   have:∀ m,(a2k f s m).length≤m:=by
    intro m;induction m with
    | zero=>simp [a2k]
    | succ m ih=>simp only [a2k,zF];unfold Ch.a1T;split<;>simp<;>omega
   have:=this n;omega
  generalize hX:Ch.I9 (Ch.o4 f+(2*(n:Int)-1)) (Ch.k9 f+Ch.up s)=X;have hstep:a2k f s (n+1)=a2k f s n++(if 0≤X then [X] else []):=by rw [← hX];rfl
  apply E.b9<;>intro h
  ·refine zR ?_;refine zL a3s [.int .i64 X] ?_;refine zR ?_;refine a5t a3s rfl hrow rfl rfl rfl K3 a14 zo zd hcl.size (fun v' w' hr hc=>?_);obtain ⟨a',c',rfl,_⟩:=hr.form;refine zR ?_;refine ⟨(n+1,_),⟨rfl,d8 (by rw [g9 zo zo];push_cast;omega),trivial⟩,⟨zo,?_,hc w rfl hcl⟩,by simp only;omega⟩
   rw [hstep,zM h];exact hr
  ·refine zR ?_;refine ⟨(n+1,_),⟨rfl,d8 (by rw [g9 zo zo];push_cast;omega),trivial⟩,⟨zo,?_,hcl⟩,by simp only;omega⟩
   rw [hstep,zJ h,zn];exact hrow
 ·have hn2:n=2:=by omega
  subst hn2;refine zR ?_;refine ⟨_,rfl,?_,hcl⟩;have:a2k f s 2=Ch.K2 f s:=by simp [a2k,Ch.K2]
  rw [← this];exact hrow
theorem y7 {t:Nat} (cells:Array Value) {dst:Option Nat} {parts:Array (Nat×Operand)} {ty:Nat} {pos:String} {af:Array Edge} {gd:Option (Nat×Bool)} {env:C8} {w:World} {K:Value→World→Prop}
  (hb:G.P.built t (parts.toList.map fun (i,x)=>(i,ev env x))=some cells) (h:K (.agg cells) w) :
  H4 G.P { dst,op:=.build t parts,type:=ty,pos,after:=af,guard:=gd } env w K:=by
 refine ⟨.inl ⟨_,_,?_,h⟩⟩;show (do pure (Next.value (← Instr.build t (parts.map fun (i,x)=>(i,ev env x)))):Sem Next).run G.P w=_
 rw [yj,Go.run_build w t _ cells (by rw [zb];exact hb)];rfl
theorem b3r {C:World→Prop} {t:Nat} (cells:Array Value) {dst:Option Nat} {parts:Array (Nat×Operand)} {ty:Nat} {pos:String} {af:Array Edge} {gd:Option (Nat×Bool)} {env:C8} {K:Value→Prop}
  (hb:G.P.built t (parts.toList.map fun (i,x)=>(i,ev env x))=some cells) (h:K (.agg cells)) :
  b1x G.P C { dst,op:=.build t parts,type:=ty,pos,after:=af,guard:=gd } env K:=by
 refine ⟨_,fun w _=>?_,h⟩;show (do pure (Next.value (← Instr.build t (parts.map fun (i,x)=>(i,ev env x)))):Sem Next).run G.P w=_
 rw [yj,Go.run_build w t _ cells (by rw [zb];exact hb)];rfl
theorem G4 {α:Type} {enc:α→List Value} {z:Nat} (henc:∀ x,(enc x).length=z) (l:List α):(l.flatMap enc).length=l.length*z:=by
 induction l with
 | nil=>simp
 | cons x r ih=>rw [xZ,zF,henc,ih,zh,wA];omega
theorem c4j {x:Nat} (h:Nat.beq x 0=true):x=0:=zu h
theorem bz0 (x:Nat):(bif Nat.beq x 0 then 0 else x)=x:=by
 cases h:Nat.beq x 0
 ·rfl
 ·rw [c4j h];rfl
theorem bz1 (x k:Nat):(bif Nat.beq x 0 then k else x+k)=x+k:=by
 cases h:Nat.beq x 0
 ·rfl
 ·rw [c4j h,yW];rfl
theorem L4 {α:Type} {enc:α→List Value} {e z:Nat} (henc:∀ x,(enc x).length=z) (w:World) (l:List α) (hm:l.length≤100000) (vs:List Value) (hv:(vs.flatMap fun v=>v.cells.toList)=l.flatMap enc) :
  Row e z enc w.heap.size (w.alloc (.cells (vs.flatMap fun v=>v.cells.toList).toArray e)) (.slice (some ⟨w.heap.size,0,none⟩) l.length l.length) l:=by
 rw [hv];refine ⟨G4 henc l,.inr ⟨w.heap.size,l.length,_,rfl,yJ _,d9 _ _,yJ _,by unfold maxLen;omega,by simp [G4 henc],?_⟩⟩
 simp only [List.toList_toArray];rw [List.take_of_length_le (by rw [G4 henc];exact yJ _)]
theorem b1A {α:Type} {t e z b:Nat} (E1:F0 t e z b) {enc:α→List Value} {b0 b1:Nat} {v:Value} {l news:List α} {dst:Option Nat} {s x:Operand} {ty:Nat} {pos:String} {af:Array Edge} {gd:Option (Nat×Bool)} {env:C8} {w:World} {K:Value→World→Prop}
  {g c:Nat} (hs:ev env s=v) (hrow:Row e z enc b0 w v l) (hx:ev env x = .slice (some ⟨g,0,none⟩) news.length c) (hB:Row e z enc b1 w (.slice (some ⟨g,0,none⟩) news.length c) news) (henc:∀ x,(enc x).length=z)
  (hone:∀ x,∀ u∈enc x,u.oneCell'=true) (hlen:l.length+news.length≤100000) (hbz:b≤1000) (hb0:b0≤w.heap.size)
  (h:∀ v' w',Row e z enc b0 w' v' (l++news)→(∀ w0,w0.heap.size=b0→Cl w0 w→Cl w0 w')→K v' w') :
  H4 G.P { dst,op:=.call { callee:=.builtin .append,args:=#[s,x],argTypes:=#[t,t] },type:=ty,pos,after:=af,guard:=gd } env w K:=by
 obtain ⟨i,zv,hi,hzv,hsz,hby,hzs⟩:=E1.info;obtain ⟨v',w',h1,h2,h3,_⟩:=run_append_own (P:=G.P) w b0 t ty e i zv z b E1.ty hi hzv hsz hby hzs E1.pos v l.length (l.flatMap enc) hrow ⟨g,0,none⟩ news.length c (news.flatMap enc)
  (G4 henc news)
  (fun j u' hu=>by
   rcases hB.2 with ⟨e1,_⟩|⟨g',cap,cur,e1,_,e3,_,_,_,e7⟩
   ·cases e1
   ·injection e1 with e1 _ _;injection e1 with e1;injection e1 with e1 _ _;subst e1;have hj:j<news.length*z:=by
     have:=(xS.1 hu).1
     rwa [G4 henc] at this
    rw [E3,C9 e3,yW,← xB];rw [← e7,xe,zM hj] at hu;exact hu)
  (fun u hu=>by obtain ⟨x,_,hx⟩:=xM.1 hu;exact hone x u hx)
  (by unfold maxLen;omega) (by
   have:(l.length+news.length)*b≤100000*1000:=Nat.mul_le_mul hlen hbz;omega) hb0
 refine ⟨.inl ⟨v',w',?_,h v' w' ⟨by simpa using h2.1,by simpa using h2.2⟩ fun w0 hw0 hc=>?_⟩⟩
 ·simp only [execOp,resolve,invoke,builtin,yj,xY,yp,xO,yQ,xb,hs,hx,h1]
 ·subst hw0;refine Below.grown hc h3 hb0 fun k hk=>?_;rcases hrow.2 with ⟨e1,_⟩|⟨g,cap,cur,e1,e2,_⟩
  ·rw [e1] at hk;cases hk
  ·rw [e1] at hk;injection hk with hk;subst hk;exact e2
structure a6c (b0:Nat) (w:World) (v:Value) (w':World) (v':Value):Prop where
 cl:∀ w0,w0.heap.size=b0→Cl w0 w→Cl w0 w'
 keep:∀ k o,w.heap[k]?=some o→v.ownBlock≠some k→w'.heap[k]?=some o
 at_:v'.ownBlock=v.ownBlock∨(∃ k,v'.ownBlock=some k∧w.heap.size≤k)
theorem a6c.ne {b0:Nat} {w w':World} {v v':Value} (h:a6c b0 w v w' v') {g:Nat} (hg:g<w.heap.size) (hv:v.ownBlock≠some g):v'.ownBlock≠some g:=by
 rcases h.at_ with e|⟨k,e,hk⟩
 ·rw [e];exact hv
 ·rw [e];intro e2;injection e2 with e2;omega
theorem Row.keep {α:Type} {e z b0:Nat} {enc:α→List Value} {w w':World} {l:List α} {g n c:Nat} (h:Row e z enc b0 w (.slice (some ⟨g,0,none⟩) n c) l) (hk:∀ o,w.heap[g]?=some o→w'.heap[g]?=some o):Row e z enc b0 w' (.slice (some ⟨g,0,none⟩) n c) l:=by
 refine ⟨h.1,?_⟩;rcases h.2 with ⟨e1,_⟩|⟨g',cap,cur,e1,e2,e3,e4⟩
 ·cases e1
 ·injection e1 with e1 e5 e6;injection e1 with e1;injection e1 with e1 _ _;subst e1;subst e6;subst e5;exact .inr ⟨g,c,cur,rfl,e2,hk _ e3,e4⟩
theorem Row.lt {α:Type} {e z b0:Nat} {enc:α→List Value} {w:World} {l:List α} {g n c:Nat} (h:Row e z enc b0 w (.slice (some ⟨g,0,none⟩) n c) l):b0≤g∧g<w.heap.size:=World.ownsRow.lt h g rfl
theorem a5u {α:Type} {t e z b:Nat} (E1:F0 t e z b) {enc:α→List Value} {b0:Nat} {v:Value} {l news:List α} {dst:Option Nat} {s x:Operand} {ty:Nat} {pos:String} {af:Array Edge} {gd:Option (Nat×Bool)} {env:C8} {w:World} {K:Value→World→Prop}
  {g c:Nat} (hs:ev env s=v) (hrow:Row e z enc b0 w v l) (hx:ev env x = .slice (some ⟨g,0,none⟩) news.length c) (hB:∀ (j:Nat) (u:Value),(news.flatMap enc)[j]?=some u→w.cell? ⟨g,j,none⟩=some u) (henc:∀ x,(enc x).length=z)
  (hone:∀ x,∀ u∈enc x,u.oneCell'=true) (hlen:l.length+news.length≤100000) (hbz:b≤1000) (hb0:b0≤w.heap.size)
  (h:∀ v' w',Row e z enc b0 w' v' (l++news)→a6c b0 w v w' v'→K v' w') :
  H4 G.P { dst,op:=.call { callee:=.builtin .append,args:=#[s,x],argTypes:=#[t,t] },type:=ty,pos,after:=af,guard:=gd } env w K:=by
 obtain ⟨i,zv,hi,hzv,hsz,hby,hzs⟩:=E1.info;obtain ⟨v',w',h1,h2,h3,_,h5⟩:=run_append_own_at (P:=G.P) w b0 t ty e i zv z b E1.ty hi hzv hsz hby hzs E1.pos v l.length (l.flatMap enc) hrow ⟨g,0,none⟩ news.length c (news.flatMap enc)
  (G4 henc news) (fun j u' hu=>by rw [E3,yW];exact hB j u' hu)
  (fun u hu=>by obtain ⟨x,_,hx⟩:=xM.1 hu;exact hone x u hx)
  (by unfold maxLen;omega) (by
   have:(l.length+news.length)*b≤100000*1000:=Nat.mul_le_mul hlen hbz;omega) hb0
 refine ⟨.inl ⟨v',w',?_,h v' w' ⟨by simpa using h2.1,by simpa using h2.2⟩ ⟨fun w0 hw0 hc=>?_,fun k o hk hne=>?_,?_⟩⟩⟩
 ·simp only [execOp,resolve,invoke,builtin,yj,xY,yp,xO,yQ,xb,hs,hx,h1]
 ·subst hw0;refine Below.grown hc h3 hb0 fun k hk=>?_;rcases hrow.2 with ⟨e1,_⟩|⟨g,cap,cur,e1,e2,_⟩
  ·rw [e1] at hk;cases hk
  ·rw [e1] at hk;injection hk with hk;subst hk;exact e2
 ·rw [h3.block k (yh.1 hk).1 (fun e=>hne e.symm)];exact hk
 ·rcases h5 with h5|h5
  ·exact .inl h5
  ·exact .inr ⟨_,h5,yJ _⟩
theorem a0l {α:Type} {t e z b:Nat} (E1:F0 t e z b) {enc:α→List Value} {b0:Nat} {v:Value} {l:List α} (x:α) {dst:Option Nat} {s y:Operand} {ty:Nat} {pos:String} {af:Array Edge} {gd:Option (Nat×Bool)} {env:C8} {w w1:World} {u:Nat} {cs:Array Value} {K:Value→World→Prop}
  (hs:ev env s=v) (hrow:Row e z enc b0 w1 v l) (hw:w=w1.alloc (.cells cs u)) (hx:ev env y = .slice (some ⟨w1.heap.size,0,none⟩) 1 1) (hcs:cs.toList=enc x) (henc:∀ x,(enc x).length=z)
  (hone:∀ x,∀ u∈enc x,u.oneCell'=true) (hlen:l.length+1≤100000) (hbz:b≤1000) (hb0:b0≤w1.heap.size)
  (h:∀ v' w',Row e z enc b0 w' v' (l++[x])→a6c b0 w1 v w' v'→K v' w') :
  H4 G.P { dst,op:=.call { callee:=.builtin .append,args:=#[s,y],argTypes:=#[t,t] },type:=ty,pos,after:=af,guard:=gd } env w K:=by
 subst hw;refine a5u E1 (news:=[x]) (g:=w1.heap.size) (c:=1) hs (hrow.step (Cl.alloc _ _)) hx (fun j u' hu=>?_) henc hone (by simpa using hlen) hbz (by rw [B0];omega) fun v' w' h1 h2=>h v' w' h1 ⟨fun w0 e h3=>h2.cl w0 e (h3.trans (Cl.alloc _ _)),fun k o hk hne=>h2.keep k o ((Cl.alloc _ _).blk hk) hne,?_⟩
 ·rw [C9 (d9 _ _),← xB,hcs];simpa using hu
 ·rcases h2.at_ with e|⟨k,e,hk⟩
  ·exact .inl e
  ·rw [B0] at hk;exact .inr ⟨k,e,zo⟩
theorem O5 {α:Type} {e z b0:Nat} {enc:α→List Value} {w:World} {l:List α} {g c n:Nat} {t:Nat} (h:Row e z enc b0 w (.slice (some ⟨g,0,none⟩) n c) l) (henc:∀ x,(enc x).length=z) (i k:Nat) (hi:i<l.length) (hk:k<z) {v:Value}
  (hv:(enc l[i])[k]?=some v) {o:Nat} (ho:o=i*z+k) (ht:a7X (U5 G.T t)=true):g8 G.P w t ⟨g,o,none⟩ v:=by
 subst ho;obtain ⟨cur,h1,h2⟩:=h.get henc i k hi hk;exact L5 h1 (by rw [h2,hv]) ht
def a4H (d:Int×Int):List Value:=[.int .i64 d.1,.int .i64 d.2]
theorem Z3 (x:Int×Int):(a4H x).length=2:=rfl
theorem a8b (x:Int×Int):∀ u∈a4H x,u.oneCell'=true:=by intro u hu;simp [a4H] at hu;rcases hu with rfl|rfl<;>rfl
theorem b1B:F0 250 180 2 16:=T7 zk
def c2J (d:Int×Int):Value:=.agg #[.int .i64 d.1,.int .i64 d.2]
theorem a4I (w:World):Calls G.P 264 #[] w (b19 180 2 a4H Ch.straight w):=by
 refine zN func264 ?_;refine zG ?_;refine zR ?_;refine y7 #[.int .i64 0,.int .i64 1] zk (zR ?_);refine y7 #[.int .i64 1,.int .i64 0] zk (zR ?_);refine y7 #[.int .i64 0,.int .i64 (-1)] zk (zR ?_);refine y7 #[.int .i64 (-1),.int .i64 0] zk (zR ?_);refine G2 b1B (Ch.straight.map c2J) (by rw [zb];rfl) (by intro v hv;obtain ⟨d,_,rfl⟩:=xJ.1 hv;rfl) rfl zd zd (zR ?_)
 exact ⟨_,rfl,L4 Z3 w Ch.straight zd _ rfl,Cl.alloc _ _⟩
theorem a4J (w:World):Calls G.P 265 #[] w (b19 180 2 a4H Ch.slanting w):=by
 refine zN func265 ?_;refine zG ?_;refine zR ?_;refine y7 #[.int .i64 1,.int .i64 1] zk (zR ?_);refine y7 #[.int .i64 1,.int .i64 (-1)] zk (zR ?_);refine y7 #[.int .i64 (-1),.int .i64 (-1)] zk (zR ?_);refine y7 #[.int .i64 (-1),.int .i64 1] zk (zR ?_);refine G2 b1B (Ch.slanting.map c2J) (by rw [zb];rfl) (by intro v hv;obtain ⟨d,_,rfl⟩:=xJ.1 hv;rfl) rfl zd zd (zR ?_)
 exact ⟨_,rfl,L4 Z3 w Ch.slanting zd _ rfl,Cl.alloc _ _⟩
theorem c0p (w:World):Calls G.P 266 #[] w (b19 180 2 a4H Ch.jumps w):=by
 refine zN func266 ?_;refine zG ?_;refine zR ?_;refine y7 #[.int .i64 1,.int .i64 2] zk (zR ?_);refine y7 #[.int .i64 2,.int .i64 1] zk (zR ?_);refine y7 #[.int .i64 2,.int .i64 (-1)] zk (zR ?_);refine y7 #[.int .i64 1,.int .i64 (-2)] zk (zR ?_);refine y7 #[.int .i64 (-1),.int .i64 (-2)] zk (zR ?_);refine y7 #[.int .i64 (-2),.int .i64 (-1)] zk (zR ?_);refine y7 #[.int .i64 (-2),.int .i64 1] zk (zR ?_);refine y7 #[.int .i64 (-1),.int .i64 2] zk (zR ?_);refine G2 b1B (Ch.jumps.map c2J) (by rw [zb];rfl) (by intro v hv;obtain ⟨d,_,rfl⟩:=xJ.1 hv;rfl) rfl zd zd (zR ?_)
 exact ⟨_,rfl,L4 Z3 w Ch.jumps zd _ rfl,Cl.alloc _ _⟩
theorem c2K (k:Int) (w:World):Calls G.P 217 #[.int .i64 k] w (fun r w'=>∃ v,r = .returned (.tuple #[v,.bool (Ch.far k)])∧Row 180 2 a4H w.heap.size w' v (Ch.a7i k)∧Cl w w'):=by
 refine zN func217 ?_;refine zG ?_;refine zR ?_;apply E.b9<;>intro h
 ·subst h;refine zR ?_;refine a3x (a4I _) fun v w1 h1 c1=>?_;obtain ⟨a,c,rfl,ha⟩:=h1.form;refine zR ?_;refine a3x (a4J _) fun v2 w2 h2 c2=>?_;obtain ⟨a2,cc,rfl,ha2⟩:=h2.form;obtain ⟨g2,rfl⟩:=ha2 zd;refine zR ?_;refine b1A b1B rfl (h1.step c2) rfl h2 Z3 a8b zd zd (c1.trans c2).size (fun v' w' hr hc=>?_);obtain ⟨a',c',rfl,_⟩:=hr.form;refine zR ?_;exact ⟨_,rfl,hr,hc w rfl (c1.trans c2)⟩
 have k1:=h;clear h;refine zR ?_;apply E.b9<;>intro h
 ·subst h;refine zR ?_;refine a3x (a4I _) fun v w1 h1 c1=>?_;obtain ⟨a,c,rfl,ha⟩:=h1.form;refine zR ?_;refine a3x (a4J _) fun v2 w2 h2 c2=>?_;obtain ⟨a2,cc,rfl,ha2⟩:=h2.form;obtain ⟨g2,rfl⟩:=ha2 zd;refine zR ?_;refine b1A b1B rfl (h1.step c2) rfl h2 Z3 a8b zd zd (c1.trans c2).size (fun v' w' hr hc=>?_);obtain ⟨a',c',rfl,_⟩:=hr.form;refine zR ?_;exact ⟨_,rfl,hr,hc w rfl (c1.trans c2)⟩
 have k2:=h;clear h;refine zR ?_;apply E.b9<;>intro h
 ·subst h;refine zR ?_;refine a3x (a4I _) fun v w1 h1 c1=>?_;obtain ⟨a,c,rfl,ha⟩:=h1.form;refine zR ?_;exact ⟨_,rfl,h1,c1⟩
 have k3:=h;clear h;refine zR ?_;apply E.b9<;>intro h
 ·subst h;refine zR ?_;refine a3x (a4J _) fun v w1 h1 c1=>?_;obtain ⟨a,c,rfl,ha⟩:=h1.form;refine zR ?_;exact ⟨_,rfl,h1,c1⟩
 have hf:Ch.far k=false:=by simp [Ch.far,k2,k3,h]
 have hw:Ch.a7i k=Ch.jumps:=by simp [Ch.a7i,k1,k2,k3,h]
 rw [hf,hw];refine zR ?_;refine a3x (c0p _) fun v w1 h1 c1=>?_;obtain ⟨a,c,rfl,ha⟩:=h1.form;refine zR ?_;exact ⟨_,rfl,h1,c1⟩
theorem a8c (k:Int):(Ch.a7i k).length≤8∧∀ d∈Ch.a7i k,-2≤d.1∧d.1≤2∧-2≤d.2∧d.2≤2:=by
 unfold Ch.a7i;repeat' split
 all_goals decide
theorem b4I (p:l9) (fr dx dy:Int) (far:Bool):∀ k n,(Ch.ray p fr dx dy far k n).length≤k:=by
 intro k
 induction k with
 | zero=>intro n;simp [Ch.ray]
 | succ k ih =>
  intro n;simp only [Ch.ray];repeat' split
  ·simp
  ·simp
  ·simp only [zh];have:=ih (n+1);omega
theorem a7y {α β:Type} (f:α→List β) (m:Nat) (h:∀ x,(f x).length≤m):∀ l:List α,(l.flatMap f).length≤l.length*m:=by
 intro l
 induction l with
 | nil=>simp
 | cons x r ih=>rw [xZ,zF,zh,wA];have:=h x;omega
theorem a96 {α β:Type} (f:α→List β) (l:List α) (i:Nat) (hi:i<l.length):(l.take (i+1)).flatMap f=(l.take i).flatMap f++f l[i]:=by
 rw [zx hi,x9];simp
theorem b7D (k:Int):0<(Ch.a7i k).length:=by
 unfold Ch.a7i;repeat' split
 all_goals decide
theorem b7E (p:l9) (fr dx dy:Int) (far:Bool) (n:Nat) (h:n<8):Ch.ray p fr dx dy far (8-n) n =
  (if Ch.I9 (Ch.o4 fr+n*dx) (Ch.k9 fr+n*dy)<0 then [] else if !far || !decide (Ch.sq p (Ch.I9 (Ch.o4 fr+n*dx) (Ch.k9 fr+n*dy))=0) then [Ch.I9 (Ch.o4 fr+n*dx) (Ch.k9 fr+n*dy)] else Ch.I9 (Ch.o4 fr+n*dx) (Ch.k9 fr+n*dy)::Ch.ray p fr dx dy far (8-(n+1)) (n+1)):=by
 obtain ⟨m,hm⟩:∃ m,8-n=m+1:=⟨7-n,zo⟩;rw [hm,show 8-(n+1)=m by omega];rfl
theorem b1C (f r:Int):Ch.I9 f r≤63:=by unfold Ch.I9;split<;>omega
theorem b7F {n d:Int} (h0:0≤n) (h1:n≤8) (d0:-2≤d) (d1:d≤2):-16≤n*d∧n*d≤16:=by
 have:d=-2∨d=-1∨d=0∨d=1∨d=2:=by omega
 rcases this with rfl|rfl|rfl|rfl|rfl<;>omega
theorem c0q (p:l9) (f:Int) (hp:Pc p) (w:World) (h0:0≤f) (h1:f≤63) :
  Calls G.P 178 #[D3 p,.int .i64 f] w (b19 3 1 P1 (Ch.a5r p f) w):=by
 refine zN func178 ?_;refine zG ?_;refine zR ?_;generalize hW:w.alloc (.cells (s7 p) 24)=W0;have hP:∀ w',Cl W0 w'→w'.heap[w.heap.size]?=some (.cells (s7 p) 24 (0,0)):=fun w' h=>(hW▸h:Cl (w.alloc (.cells (s7 p) 24)) w').blk (d9 _ _);have hE:∀ w',Cl W0 w'→Cl w w':=fun w' h=>(Cl.alloc _ _).trans (hW▸h);refine zR ?_;refine E.A8 (F2.2 ⟨h0,zo⟩) (zR ?_);refine b7 _ (O4 (hP _ (Cl.refl _)) _ h0 zo) (zR ?_);refine l8 (P3 _ _ (Pc.lo hp _) (Pc.hi hp _)) (zR ?_);generalize hk:Ch.d6 (Ch.sq p f)=k;refine o7 (c2K k _) ?_;rintro r w1 ⟨v,rfl,hways,c1⟩;refine ⟨_,rfl,?_⟩;obtain ⟨a,c,rfl,ha⟩:=hways.form;obtain ⟨hwl,hwb⟩:=a8c k;generalize hws:Ch.a7i k=ws at *;generalize hfar:Ch.far k=far at *;have hpos:0<ws.length:=hws▸b7D k;obtain ⟨g,rfl⟩:=ha hpos;generalize hray:(fun d:Int×Int=>Ch.ray p f d.1 d.2 far 7 1)=rayF;have hreach:Ch.a5r p f=ws.flatMap rayF:=by unfold Ch.a5r;rw [hk,hws,hfar,← hray]
 have hrl:∀ d,(rayF d).length≤7:=by intro d;rw [← hray];exact b4I _ _ _ _ _ _ _
 refine zR ?_;refine B6 (σ:=Nat×Value) [7,8,9,10] 11 (fun a=>[(7,a.2),(8,.int .i64 a.1)]) (fun a w'=>a.1≤ws.length∧Row 3 1 P1 w1.heap.size w' a.2 ((ws.take a.1).flatMap rayF)∧Cl w1 w') (fun a=>ws.length-a.1) zk (0,.slice none 0 0)
  ⟨zo,Row.nil _ _,Cl.refl _⟩ ⟨rfl,rfl,trivial⟩ ?_
 rintro ⟨i,v⟩ j w2 ⟨hi,hrow,hcl⟩;simp only at hi hrow;obtain ⟨a2,cc2,rfl,_⟩:=hrow.form;refine zR ?_;apply E.b9<;>intro h
 ·have hil:i<ws.length:=by omega
  have hU:=a96 rayF ws i hil;have hUl:((ws.take (i+1)).flatMap rayF).length≤56:=by
   have h1:=a7y rayF 7 hrl (ws.take (i+1));have h2:(ws.take (i+1)).length≤8:=by rw [yb];omega
   have h3:(ws.take (i+1)).length*7≤8*7:=xQ _ h2;omega
  generalize hd:ws[i]=d at hU;have hdm:d∈ws:=hd▸yO hil;obtain ⟨d0,d1,d2,d3⟩:=hwb d hdm;generalize hUU:(ws.take (i+1)).flatMap rayF=U at hU hUl;have hrd:rayF d=Ch.ray p f d.1 d.2 far (8-1) 1:=by rw [← hray]
  refine zR ?_;refine B6 (σ:=Nat×Value×List Int) [7,9,10] 11 (fun a=>[(7,a.2.1),(9,.int .i64 a.1)]) (fun a w'=>1≤a.1∧a.1≤8∧a.2.2++Ch.ray p f d.1 d.2 far (8-a.1) a.1=U∧Row 3 1 P1 w1.heap.size w' a.2.1 a.2.2∧Cl w1 w') (fun a=>8-a.1) zk (1,_,_)
   ⟨zo,zo,by rw [← hrd];exact hU.symm,hrow,hcl⟩ ⟨rfl,rfl,trivial⟩ ?_
  rintro ⟨n,v,cur⟩ j2 w3 ⟨hn1,hn8,hcur,hrow,hcl⟩;simp only at hn1 hn8 hcur hrow;obtain ⟨a3,cc3,rfl,_⟩:=hrow.form;have hcl2:cur.length≤56:=by rw [← hcur,zF] at hUl;omega
  have hdone:∀ v',Row 3 1 P1 w1.heap.size w3 v' U→True:=fun _ _=>trivial;refine zR ?_;apply E.b9<;>intro h
  ·have hn:n<8:=by omega
   rw [b7E _ _ _ _ _ _ hn] at hcur;have b1:=b7F (n:=n) (d:=d.1) zo zo d0 d1;have b2:=b7F (n:=n) (d:=d.2) zo zo d2 d3;have g1:d.1=ws[i].1:=by rw [hd]
   have g2:d.2=ws[i].2:=by rw [hd]
   have m1:IntKind.i64.wrap ((n:Int)*d.1)=n*d.1:=g9 zo zo;have m2:IntKind.i64.wrap ((n:Int)*d.2)=n*d.2:=g9 zo zo;have m3:IntKind.i64.wrap (Ch.o4 f+(n:Int)*d.1)=Ch.o4 f+n*d.1:=g9 (by unfold Ch.o4;omega) (by unfold Ch.o4;omega)
   have m4:IntKind.i64.wrap (Ch.k9 f+(n:Int)*d.2)=Ch.k9 f+n*d.2:=g9 (by unfold Ch.k9;omega) (by unfold Ch.k9;omega)
   refine zR ?_;refine zK 22 ?_;refine zR ?_;refine m8 _ (fun w _=>a2j _ _ zo) (zR ?_);refine zC ?_;refine zR ?_;refine m7 (.int .i64 d.1) (fun w hw=>O5 (hways.step (hcl.trans hw)) Z3 i 0 hil zd (by rw [g1];rfl) (bz0 (i*2)) rfl) (zR ?_)
   simp only [m1,m3];refine m8 _ (fun w _=>X5 _ _ zo zo) (zR ?_);refine zC ?_;refine zR ?_;refine m7 (.int .i64 d.2) (fun w hw=>O5 (hways.step (hcl.trans hw)) Z3 i 1 hil zd (by rw [g2];rfl) (bz1 (i*2) 1) rfl) (zR ?_)
   simp only [m2,m4];refine m8 _ (fun w _=>a2M _ _ _ (by exact zO) (by exact zO) (by exact zO) (by exact zO)) ?_
   generalize hX:Ch.I9 (Ch.o4 f+(n:Int)*d.1) (Ch.k9 f+(n:Int)*d.2)=X at hcur;refine zR ?_;intro w4 c4;have hcl:=hcl.trans c4;have hrow:=hrow.step c4;refine zR ?_;apply E.b9<;>intro h
   ·rw [zM h] at hcur;rw [zn] at hcur;refine zR ?_;refine ⟨(i+1,_),⟨rfl,d8 (by rw [g9 zo zo];push_cast;omega),trivial⟩,⟨by simp only;omega,?_,hcl⟩,by simp only;omega⟩
    simp only [hUU,← hcur];exact hrow
   ·rw [zJ h] at hcur;have hX0:0≤X:=by omega
    have hX1:X≤63:=hX▸(b1C _ _);refine zR ?_;refine zL a3s [.int .i64 X] ?_;refine zR ?_;refine a5t a3s rfl hrow rfl rfl rfl K3 a14 zo zd hcl.size (fun v' w5 hr hc=>?_);have hcl5:=hc w1 rfl hcl;obtain ⟨a5,cc5,rfl,_⟩:=hr.form;have fin:(!far || !decide (Ch.sq p X=0))=true→Row 3 1 P1 w1.heap.size w5 (.slice a5 (cur++[X]).length cc5) U:=by
     intro h;rw [zM h] at hcur;rw [← hcur];exact hr
    cases far
    ·refine zR ?_;refine ⟨(i+1,_),⟨rfl,d8 (by rw [g9 zo zo];push_cast;omega),trivial⟩,⟨by simp only;omega,?_,hcl5⟩,by simp only;omega⟩
     simp only [hUU];exact fin rfl
    ·refine zR ?_;refine E.A8 (F2.2 ⟨hX0,zo⟩) (zR ?_);refine b7 _ (O4 (hP _ (c1.trans hcl5)) _ hX0 zo) (zR ?_);clear h;apply E.y6<;>intro h
     ·refine zR ?_;refine ⟨(i+1,_),⟨rfl,d8 (by rw [g9 zo zo];push_cast;omega),trivial⟩,⟨by simp only;omega,?_,hcl5⟩,by simp only;omega⟩
      simp only [hUU];exact fin (by rw [zV h];rfl)
     ·refine zR ?_;rw [zJ (by rw [h];simp)] at hcur
      refine ⟨(n+1,_,cur++[X]),⟨rfl,d8 (by rw [g9 zo zo];push_cast;omega),trivial⟩,⟨by simp only;omega,by simp only;omega,?_,hr,hcl5⟩,by simp only;omega⟩
      simp only [yG];exact hcur
  ·have h8:n=8:=by simp only at h;omega
   subst h8;refine zR ?_;refine ⟨(i+1,_),⟨rfl,d8 (by rw [g9 zo zo];push_cast;omega),trivial⟩,⟨by simp only;omega,?_,hcl⟩,by simp only;omega⟩
   have:cur=U:=by rw [← hcur];simp [Ch.ray]
   simp only [hUU,← this];exact hrow
 ·have hil:i=ws.length:=by omega
  subst hil;refine zR ?_;refine ⟨_,rfl,?_,hE _ (c1.trans hcl)⟩;rw [hreach];simp only [yZ] at hrow ⊢;exact hrow.mono (by have:=(hE _ c1).size;omega)
theorem c0r (x:Int):Ch.y9 x=0∨Ch.y9 x=1:=by unfold Ch.y9;split<;>simp
theorem b09 {f s x:Int} (h:x∈Ch.K2 f s):0≤x∧x≤63:=by
 unfold Ch.K2 Ch.a1T at h;rw [zr] at h;rcases h with h|h<;>split at h
 ·rename_i h0;rw [zY.1 h];exact ⟨h0,b1C _ _⟩
 ·cases h
 ·rename_i h0;rw [zY.1 h];exact ⟨h0,b1C _ _⟩
 ·cases h
theorem a5v (f s:Int):(Ch.K2 f s).length≤2:=by
 unfold Ch.K2 Ch.a1T;rw [zF];split<;>split<;>simp
theorem a5w (p:l9) (f s:Int):(Ch.V3 p f s).length≤2:=by
 unfold Ch.V3;simp only;split
 ·split<;>simp
 ·simp
theorem a6H {α:Type} (P:α→Bool) (l:List α) (i:Nat) (hi:i<l.length):(l.take (i+1)).filter P=(l.take i).filter P++(if P l[i] then [l[i]] else []):=by
 rw [zx hi,List.filter_append];congr 1;cases h:P l[i]<;>simp [h]
theorem c0s (p:l9) (f:Int) (hp:Pc p) (w:World) (h0:0≤f) (h1:f≤63) (e0:-1000≤p.ep) (e1:p.ep≤1000) :
  Calls G.P 177 #[D3 p,.int .i64 f] w (b19 3 1 P1 (Ch.S3 p f) w):=by
 refine zN func177 ?_;refine zG ?_;refine zR ?_;generalize hW:w.alloc (.cells (s7 p) 24)=W0;have hP:∀ w',Cl W0 w'→w'.heap[w.heap.size]?=some (.cells (s7 p) 24 (0,0)):=fun w' h=>(hW▸h:Cl (w.alloc (.cells (s7 p) 24)) w').blk (d9 _ _);have hE:∀ w',Cl W0 w'→Cl w w':=fun w' h=>(Cl.alloc _ _).trans (hW▸h);refine zR ?_;refine E.A8 (F2.2 ⟨h0,zo⟩) (zR ?_);refine b7 _ (O4 (hP _ (Cl.refl _)) _ h0 zo) (zR ?_);refine l8 (a11 _ _) ?_;generalize hs:Ch.y9 (Ch.sq p f)=s;have hs01:s=0∨s=1:=hs▸c0r _;have hsteps:Ch.S3 p f=Ch.V3 p f s++(Ch.K2 f s).filter (Ch.I5 p s):=by unfold Ch.S3;rw [hs]
 have fr:0≤Ch.o4 f∧Ch.o4 f≤7∧0≤Ch.k9 f∧Ch.k9 f≤7:=by unfold Ch.o4 Ch.k9;omega
 have hup:Ch.up s=1∨Ch.up s=-1:=by unfold Ch.up;omega
 have hup2:Ch.up s=1-2*s:=rfl;have m1:IntKind.i64.wrap (Ch.k9 f+Ch.up s)=Ch.k9 f+Ch.up s:=g9 zo zo;have m2:IntKind.i64.wrap (2*Ch.up s)=2*Ch.up s:=g9 zo zo;have m3:IntKind.i64.wrap (Ch.k9 f+2*Ch.up s)=Ch.k9 f+2*Ch.up s:=g9 zo zo;refine zR ?_;refine l8 (a2j _ _ zo) (zR ?_);refine l8 (X5 _ _ zo zo) (zR ?_);refine l8 (b5N _ _ zo zo) (zR ?_);simp only [m1];refine l8 (a2M _ _ _ zo zo zo zo) ?_;generalize hone:Ch.I9 (Ch.o4 f) (Ch.k9 f+Ch.up s)=one;have one63:one≤63:=hone▸b1C _ _;have hgoes:Ch.V3 p f s=if 0≤one∧Ch.sq p one=0 then (if Ch.k9 f=1+5*s∧Ch.sq p (Ch.I9 (Ch.o4 f) (Ch.k9 f+2*Ch.up s))=0 then [one,Ch.I9 (Ch.o4 f) (Ch.k9 f+2*Ch.up s)] else [one]) else []:=by
  unfold Ch.V3;rw [hone]
 refine zG ?_;refine C3 (σ:=Value) [6,7,8] 12 (fun v=>[(6,v)]) (fun v w'=>Row 3 1 P1 W0.heap.size w' v (Ch.V3 p f s)∧Cl W0 w') zk ?_ (fun v j w1 h=>?_)
 ·refine zR ?_;apply E.b9<;>intro h
  ·have ho:=h;clear h;refine zR ?_;refine E.A8 (F2.2 ⟨ho,zo⟩) (zR ?_);refine b7 _ (O4 (hP _ (Cl.refl _)) _ ho zo) (zR ?_);apply E.b9<;>intro h
   ·have hz:=h;clear h;rw [zM ⟨ho,hz⟩] at hgoes;refine zR ?_;refine zL a3s [.int .i64 one] ?_;refine zR ?_;refine a5t (l:=[]) (enc:=P1) (x:=one) a3s rfl (Row.nil W0 W0.heap.size) rfl rfl rfl K3 a14 zd zd (yJ _) (fun v' w2 hr hc=>?_);have hcl:=hc W0 rfl (Cl.refl _);obtain ⟨a2,cc2,rfl,_⟩:=hr.form;refine zR ?_;refine l8 (a2j _ _ zo) (zR ?_);refine l8 (X5 _ _ zo zo) (zR ?_);refine l8 (b5N _ _ zo zo) (zR ?_);simp only [m2,m3];refine l8 (a2M _ _ _ zo zo zo zo) ?_;generalize htwo:Ch.I9 (Ch.o4 f) (Ch.k9 f+2*Ch.up s)=two at hgoes;refine zR ?_;refine l8 (X5 _ _ zo zo) (zR ?_);simp only [show IntKind.i64.wrap (5*s)=5*s from g9 zo zo,show IntKind.i64.wrap (1+5*s)=1+5*s from g9 zo zo];apply E.b9<;>intro h
    ·have hrk:=h;clear h;have htwo0:0≤two:=by rw [← htwo,a95 (f:=Ch.o4 f) (r:=Ch.k9 f+2*Ch.up s) fr.1 fr.2.1 zo zo];omega
     have htwo1:two≤63:=htwo▸b1C _ _;refine zR ?_;refine E.A8 (F2.2 ⟨htwo0,zo⟩) (zR ?_);refine b7 _ (O4 (hP _ hcl) _ htwo0 zo) (zR ?_);apply E.b9<;>intro h
     ·rw [zM ⟨hrk,h⟩] at hgoes;refine zR ?_;refine zL a3s [.int .i64 two] ?_;refine zR ?_;refine a5t (enc:=P1) (x:=two) a3s rfl hr rfl rfl rfl K3 a14 (by simp) zd hcl.size (fun v' w3 hr hc=>?_)
      obtain ⟨a3,cc3,rfl,_⟩:=hr.form;refine zR ?_;exact ⟨_,⟨rfl,trivial⟩,by rw [hgoes];exact hr,hc W0 rfl hcl⟩
     ·rw [zJ (fun e=>h e.2)] at hgoes;refine zR ?_;exact ⟨_,⟨rfl,trivial⟩,by rw [hgoes];exact hr,hcl⟩
    ·rw [zJ (fun e=>h e.1)] at hgoes;refine zR ?_;exact ⟨_,⟨rfl,trivial⟩,by rw [hgoes];exact hr,hcl⟩
   ·rw [zJ (fun e=>h e.2)] at hgoes;refine zR ?_;exact ⟨_,⟨rfl,trivial⟩,by rw [hgoes];exact Row.nil _ _,Cl.refl _⟩
  ·rw [zJ (fun e=>h e.1)] at hgoes;refine zR ?_;exact ⟨_,⟨rfl,trivial⟩,by rw [hgoes];exact Row.nil _ _,Cl.refl _⟩
 obtain ⟨hrow,hcl⟩:=h;obtain ⟨a2,cc2,rfl,_⟩:=hrow.form;refine zR ?_;refine a3x (c2I f s _ h0 h1 zo zo) fun v w2 hh c2=>?_;obtain ⟨ah,c,rfl,ha⟩:=hh.form;have hl2:=a5v f s;have hmem:∀ x∈Ch.K2 f s,0≤x∧x≤63:=fun x hx=>b09 hx;have hg2:=a5w p f s;generalize Ch.K2 f s=hl at *;generalize Ch.V3 p f s=gl at *;refine zR ?_;refine B6 (σ:=Nat×Value) [6,10,11] 12 (fun a=>[(6,a.2),(10,.int .i64 a.1)]) (fun a w'=>a.1≤hl.length∧Row 3 1 P1 W0.heap.size w' a.2 (gl++(hl.take a.1).filter (Ch.I5 p s))∧Row 3 1 P1 w1.heap.size w' (.slice ah hl.length c) hl∧(∀ g,ah=some ⟨g,0,none⟩→a.2.ownBlock≠some g)∧Cl W0 w') (fun a=>hl.length-a.1) zk (0,.slice a2 gl.length cc2)
  ⟨zo,by simpa using hrow.step c2,hh,fun g e e2=>by subst e;have h1:=hh.lt;have h2:=World.ownsRow.lt hrow g e2;omega,hcl.trans c2⟩ (And.intro rfl (And.intro rfl trivial)) ?_
 rintro ⟨i,v⟩ j w3 ⟨hi,hrow,hh,hne,hcl0⟩;simp only at hi hrow hne;obtain ⟨a4,cc4,rfl,_⟩:=hrow.form;refine zR ?_;apply E.b9<;>intro h
 ·have hil:i<hl.length:=by omega
  have hpos:0<hl.length:=by omega
  obtain ⟨g,rfl⟩:=ha hpos;generalize hx:hl[i]=x;obtain ⟨x0,x1⟩:=hmem x (hx▸yO hil);have hstep:=a6H (Ch.I5 p s) hl i hil;rw [hx] at hstep;have hlen:(gl++(hl.take i).filter (Ch.I5 p s)).length≤4:=by
   have:=xG (Ch.I5 p s) (hl.take i);rw [yb] at this;rw [zF];omega
  have hld:∀ w',Cl w3 w'→g8 G.P w' 3 ⟨g,i,none⟩ (.int .i64 x):=fun w' h=>O5 (hh.step h) K3 i 0 hil zd (by rw [hx];rfl) zo rfl
  refine zR ?_;refine zC ?_;refine zR ?_;refine b7 _ (hld _ (Cl.refl _)) (zR ?_);refine E.A8 (F2.2 ⟨x0,zo⟩) (zR ?_);refine b7 _ (O4 (hP _ hcl0) _ x0 zo) (zG ?_);refine C3 (σ:=Unit) [11,80,81,82,83,84,85,86,87,88,89,90,91,92,93,94,95,96,97,98,99,100,101,102,103,104,105,106,107,108,109,110,111] 112 (fun _=>[(11,.int .i64 (Ch.sq p x)),(111,.bool (Ch.I5 p s x))]) (fun _ w'=>Cl w3 w') zk ?_ (fun _ j w4 c4=>?_)
  ·refine zR ?_;refine zK 32 ?_;refine zR ?_;repeat' (first
    | (refine zC ?_;refine zR ?_)
    | (refine m7 _ (fun w hw=>hld _ hw) ?_;refine zR ?_)
    | (refine m7 _ (fun w hw=>a4G (hP _ (hcl0.trans hw))) ?_;refine zR ?_)
    | (refine m8 _ (fun w _=>a11 _ _) ?_;refine zR ?_)
    | (refine m8 _ (fun w _=>X5 _ _ zo zo) ?_;refine zR ?_)
    | (refine E.b9 (fun _=>?_) (fun _=>?_)<;>(refine zR ?_))
    | (refine E.y6 (fun _=>?_) (fun _=>?_)<;>(refine zR ?_)))
   all_goals (intro w4 c4;refine ⟨(),⟨rfl,yH Value.bool ?_,trivial⟩,c4⟩)
   all_goals unfold Ch.I5
   all_goals clear hgoes hsteps hrow hstep hlen hh hld hne
   all_goals (have w3:IntKind.i64.wrap (3*s)=3*s:=g9 zo zo)
   all_goals (have w5:IntKind.i64.wrap (5-3*s)=5-3*s:=g9 zo zo)
   all_goals try simp only [w3,w5]
   all_goals simp_all
  ·have hcl4:=hcl0.trans c4;have hrow4:=hrow.step c4;have hld4:=hld _ c4;cases htk:Ch.I5 p s x
   ·rw [htk] at hstep;refine zR ?_;refine ⟨(i+1,_),⟨rfl,d8 (by rw [g9 zo zo];push_cast;omega),trivial⟩,⟨by simp only;omega,?_,hh.step c4,hne,hcl4⟩,by simp only;omega⟩
    simp only [hstep];simpa using hrow4
   ·rw [htk] at hstep;refine zR ?_;refine zC ?_;refine zR ?_;refine b7 _ hld4 (zR ?_);refine zL a3s [.int .i64 x] ?_;refine zR ?_;refine a0l (enc:=P1) a3s x rfl hrow4 rfl rfl rfl K3 a14 zo zd hcl4.size (fun v' w5 hr hc=>?_);obtain ⟨a5,cc5,rfl,_⟩:=hr.form;have hcl5:Cl W0 w5:=hc.cl W0 rfl hcl4;have hh4:=hh.step c4;refine zR ?_;refine ⟨(i+1,_),⟨rfl,d8 (by rw [g9 zo zo];push_cast;omega),trivial⟩,⟨by simp only;omega,?_,hh4.keep fun o ho=>hc.keep _ o ho (hne _ rfl),fun g' e=>hc.ne (by injection e with e;injection e with e;subst e;exact hh4.lt.2) (hne g' e),hcl5⟩,by simp only;omega⟩
    simp only [hstep,xy];rw [← yG];exact hr
 ·have hil:i=hl.length:=by omega
  subst hil;refine zR ?_;refine ⟨_,rfl,?_,hE _ hcl0⟩;rw [hsteps];simp only [yZ] at hrow ⊢;exact hrow.mono (by have:=(hE _ (Cl.refl _)).size;omega)
end
section
namespace Bb
def of (f:Nat→Bool):Nat→Nat
 | 0=>0
 | n+1=>of f n ||| (if f n then 2^(63-n) else 0)
def bb (f:Nat→Bool):Nat:=of f 64
def D6 (s:Nat):Nat:=2^(63-s)
theorem c4k (f:Nat→Bool):∀ n,of f n<2^64:=by
 intro n
 induction n with
 | zero=>simp [of]
 | succ n ih =>
  simp only [of];apply yq ih;split
  ·exact Nat.pow_lt_pow_right zd zo
  ·decide
theorem P4 (f:Nat→Bool):bb f<2^64:=c4k f 64
theorem c2L (f:Nat→Bool):∀ n,n≤64→∀ s,s<64→(of f n).testBit (63-s)=(decide (s<n)&&f s):=by
 intro n
 induction n with
 | zero=>intro _ s _;simp [of]
 | succ n ih =>
  intro hn s hs;simp only [of,yF,ih zo s hs];by_cases hsn:s=n
  ·subst hsn;by_cases hf:f s=true
   ·simp [hf,x8]
   ·simp [hf]
  ·have e:(if f n=true then 2^(63-n) else 0).testBit (63-s)=false:=by
    split
    ·rw [x8];simp;omega
    ·simp
   rw [e];simp [show s<n+1↔s<n by omega]
theorem F6 (f:Nat→Bool) {s:Nat} (hs:s<64):(bb f).testBit (63-s)=f s:=by
 unfold bb;rw [c2L f 64 zo s hs];simp [hs]
theorem ext {a b:Nat} (ha:a<2^64) (hb:b<2^64) (h:∀ s,s<64→a.testBit (63-s)=b.testBit (63-s)):a=b:=by
 apply Nat.eq_of_testBit_eq;intro i;by_cases hi:i<64
 ·have:=h (63-i) zo
  rwa [show 63-(63-i)=i by omega] at this
 ·rw [Nat.testBit_lt_two_pow (xV ha (Nat.pow_le_pow_right zd zo)),Nat.testBit_lt_two_pow (xV hb (Nat.pow_le_pow_right zd zo))]
theorem a97 {a:Nat} {f:Nat→Bool} (ha:a<2^64) (h:∀ s,s<64→a.testBit (63-s)=f s):a=bb f :=
 ext ha (P4 f) (fun s hs=>by rw [h s hs,F6 f hs])
theorem a0J {f g:Nat→Bool} (h:∀ s,s<64→f s=g s):bb f=bb g:=a97 (P4 f) (fun s hs=>by rw [F6 f hs,h s hs])
theorem a3y (s:Nat):D6 s<2^64:=Nat.pow_lt_pow_right zd zo
theorem H5 {s t:Nat} (hs:s<64) (ht:t<64):(D6 s).testBit (63-t)=decide (t=s):=by
 unfold D6;rw [x8];by_cases h:t=s
 ·simp [h]
 ·rw [zV zo,zV h]
def not (a:Nat):Nat:=a ^^^ (2^64-1)
theorem not_lt {a:Nat} (ha:a<2^64):not a<2^64:=Nat.xor_lt_two_pow ha zd
theorem b7G {i:Nat} (hi:i<64):(2^64-1:Nat).testBit i=true:=by rw [Nat.testBit_two_pow_sub_one];simp [hi]
theorem E7 (a:Nat) {s:Nat} (hs:s<64):(not a).testBit (63-s) = !a.testBit (63-s):=by
 unfold not;rw [Nat.testBit_xor,b7G zo];simp
theorem a0Z (f g:Nat→Bool):bb f ||| bb g=bb (fun s=>f s||g s):=a97 (yq (P4 f) (P4 g)) (fun s hs=>by rw [yF,F6 f hs,F6 g hs])
theorem c2M {s:Nat} (hs:s<64):D6 s=bb (fun t=>decide (t=s)):=a97 (a3y s) (fun _ ht=>H5 hs ht)
theorem a7z (f:Nat→Bool):bb f=0↔∀ s,s<64→f s=false:=by
 constructor
 ·intro h s hs;rw [← F6 f hs,h];simp
 ·intro h;rw [show (0:Nat)=bb (fun _=>false) from a97 zd (by simp)];exact a0J h
def sub (a b:Nat):Nat:=(a+(2^64-b%2^64))%2^64
def a0g (x:Nat) (k m:Nat):Nat:=((x >>> k) &&& m) ||| (((x &&& m) <<< k)%2^64)
def rev (x:Nat):Nat :=
 let x:=a0g x 1 0x5555555555555555;let x:=a0g x 2 0x3333333333333333;let x:=a0g x 4 0x0f0f0f0f0f0f0f0f;let x:=a0g x 8 0x00ff00ff00ff00ff;let x:=a0g x 16 0x0000ffff0000ffff
 (x >>> 32) ||| ((x <<< 32)%2^64)
def lin (occ pos mask:Nat):Nat :=
 let o:=occ &&& mask
 ((sub o ((2*pos)%2^64)) ^^^ rev (sub (rev o) ((2*rev pos)%2^64))) &&& mask
def a6d (P:Nat→Bool):List Nat→Nat→Bool
 | [],o=>P o
 | s::r,o=>a6d P r o&&a6d P r (o ||| D6 s)
def a3z:List Nat→Nat
 | []=>0
 | s::r=>D6 s ||| a3z r
theorem b3s (P:Nat→Bool) (occ:Nat):∀ (l:List Nat) (o:Nat),a6d P l o=true→(∀ s∈l,s<64)→P (o ||| (occ &&& a3z l))=true:=by
 intro l
 induction l with
 | nil=>intro o h _;simpa [a3z,a6d] using h
 | cons s r ih =>
  intro o h hl;simp only [a6d,zP] at h;have hs:=hl s (by simp)
  simp only [a3z];by_cases hb:occ.testBit (63-s)=true
  ·have:=ih _ h.2 (fun x hx=>hl x (by simp [hx]))
   have e:o ||| (occ &&& (D6 s ||| a3z r))=(o ||| D6 s) ||| (occ &&& a3z r):=by
    apply Nat.eq_of_testBit_eq;intro i;simp only [yF,zq,D6,x8];by_cases hi:63-s=i
    ·subst hi;simp [hb]
    ·simp [hi]
   rw [e];exact this
  ·have:=ih _ h.1 (fun x hx=>hl x (by simp [hx]))
   have e:o ||| (occ &&& (D6 s ||| a3z r))=o ||| (occ &&& a3z r):=by
    apply Nat.eq_of_testBit_eq;intro i;simp only [yF,zq,D6,x8];by_cases hi:63-s=i
    ·subst hi;simp [hb]
    ·simp [hi]
   rw [e];exact this
end Bb
namespace Bb
def G5 (k fr to:Nat):Bool :=
 match k with
 | 0=>Nat.beq (fr/8) (to/8)
 | 1=>Nat.beq (fr%8) (to%8)
 | 2=>Nat.beq (fr%8+to/8) (to%8+fr/8)
 | _=>Nat.beq (fr%8+fr/8) (to%8+to/8)
def mask (k fr:Nat):Nat:=bb (G5 k fr)
def sqs (P:Nat→Bool):Nat→List Nat
 | 0=>[]
 | n+1=>bif P n then n::sqs P n else sqs P n
def b3t (k fr:Nat):List Nat:=sqs (G5 k fr) 64
def btw (k a b:Nat):Nat:=of (fun s=>G5 k a s&&(Nat.blt a s&&Nat.blt s b||Nat.blt b s&&Nat.blt s a)) 64
def b5Q (k fr o:Nat):List Nat→Nat
 | []=>0
 | to::r=>(bif Nat.beq to fr || !(Nat.beq (o &&& btw k fr to) 0) then 0 else D6 to) ||| b5Q k fr o r
def chk (k fr:Nat):Bool:=a6d (fun o=>Nat.beq (lin o (D6 fr) (mask k fr)) (b5Q k fr o (b3t k fr))) (b3t k fr) 0
def a4K (k:Nat):Nat→Bool
 | 0=>true
 | n+1=>chk k n&&a4K k n
theorem c5y:a4K 0 64=true:=by decide +kernel
theorem c5z:a4K 1 64=true:=by decide +kernel
theorem c50:a4K 2 64=true:=by decide +kernel
theorem c51:a4K 3 64=true:=by decide +kernel
end Bb
namespace Bb
theorem c4l {a b:Nat} (h:a≠b):Nat.beq a b=false:=by
 cases h2:Nat.beq a b
 ·rfl
 ·exact absurd (zu h2) h
theorem a4a (k:Nat):∀ n,a4K k n=true→∀ fr,fr<n→chk k fr=true:=by
 intro n
 induction n with
 | zero=>intro _ fr h;omega
 | succ n ih =>
  intro h fr hfr;simp only [a4K,zP] at h;by_cases e:fr=n
  ·subst e;exact h.1
  ·exact ih h.2 fr zo
theorem c2N {k fr:Nat} (hk:k<4) (hfr:fr<64):chk k fr=true:=by
 have:k=0∨k=1∨k=2∨k=3:=by omega
 rcases this with rfl|rfl|rfl|rfl
 ·exact a4a 0 64 c5y fr hfr
 ·exact a4a 1 64 c5z fr hfr
 ·exact a4a 2 64 c50 fr hfr
 ·exact a4a 3 64 c51 fr hfr
theorem b5R (P:Nat→Bool):∀ n,a3z (sqs P n)=of P n:=by
 intro n
 induction n with
 | zero=>rfl
 | succ n ih =>
  simp only [sqs,of];cases P n
  ·simp [ih]
  ·simp only [cond_true,a3z,ih,D6,xy,Nat.or_comm]
theorem a71 (P:Nat→Bool):∀ n s,s∈sqs P n↔s<n∧P s=true:=by
 intro n
 induction n with
 | zero=>intro s;simp [sqs]
 | succ n ih =>
  intro s;simp only [sqs];cases h:P n
  ·simp only [cond_false,ih];constructor
   ·rintro ⟨h1,h2⟩;exact ⟨zo,h2⟩
   ·rintro ⟨h1,h2⟩;refine ⟨?_,h2⟩;by_cases e:s=n
    ·subst e;rw [h] at h2;cases h2
    ·omega
  ·simp only [cond_true,yS,ih];constructor
   ·rintro (rfl|⟨h1,h2⟩)
    ·exact ⟨zo,h⟩
    ·exact ⟨zo,h2⟩
   ·rintro ⟨h1,h2⟩;by_cases e:s=n
    ·exact .inl e
    ·exact .inr ⟨zo,h2⟩
theorem c2O {k fr:Nat} (hk:k<4) (hfr:fr<64) (occ:Nat):lin occ (D6 fr) (mask k fr)=b5Q k fr (occ &&& mask k fr) (b3t k fr):=by
 have h:=b3s _ occ (b3t k fr) 0 (c2N hk hfr) (fun s hs=>((a71 _ _ s).1 hs).1);have e:a3z (b3t k fr)=mask k fr:=b5R _ _;rw [Nat.zero_or,e] at h;have h2:=zu h;rw [← h2];unfold lin;simp only [Nat.and_assoc,Nat.and_self]
theorem c0v (k fr o:Nat) {t:Nat} (ht:t<64):∀ l:List Nat,(∀ s∈l,s<64)→(b5Q k fr o l).testBit (63-t)=(decide (t∈l) && !decide (t=fr)&&decide (o &&& btw k fr t=0)):=by
 intro l
 induction l with
 | nil=>intro _;simp [b5Q]
 | cons s r ih =>
  intro hl;simp only [b5Q,yF,ih (fun x hx=>hl x (by simp [hx]))]
  have hs:=hl s (by simp)
  by_cases hts:t=s
  ·subst hts;by_cases h1:t=fr
   ·simp [h1]
   ·have e1:Nat.beq t fr=false:=c4l h1;rw [e1];by_cases h2:o &&& btw k fr t=0
    ·simp [h1,h2,H5 ht ht]
    ·have e2:Nat.beq (o &&& btw k fr t) 0=false:=c4l h2;rw [e2];simp [h1,h2]
  ·cases Nat.beq s fr || !(o &&& btw k fr s).beq 0
   ·simp [cond_false,H5 hs ht,hts]
   ·simp [hts]
theorem c0w {k fr t:Nat} (hk:k<4) (hfr:fr<64) (ht:t<64) (occ:Nat) :
  (lin occ (D6 fr) (mask k fr)).testBit (63-t)=true↔G5 k fr t=true∧t≠fr∧∀ s,s<64→G5 k fr s=true→(fr<s∧s<t∨t<s∧s<fr)→occ.testBit (63-s)=false:=by
 rw [c2O hk hfr,c0v k fr _ ht (b3t k fr) (fun s hs=>((a71 _ _ s).1 hs).1)];simp only [zP,zW,zc,zZ,and_assoc];refine and_congr ?_ (and_congr Iff.rfl ?_)
 ·unfold b3t;rw [a71];simp [ht]
 ·rw [Nat.and_assoc];have hbt:∀ s,s<64→(btw k fr t).testBit (63-s)=(G5 k fr s&&(Nat.blt fr s&&Nat.blt s t||Nat.blt t s&&Nat.blt s fr)):=fun s hs=>F6 _ hs
  have hm:∀ s,s<64→(mask k fr).testBit (63-s)=G5 k fr s:=fun s hs=>F6 _ hs;have blt_iff:∀ a b:Nat,Nat.blt a b=true↔a<b:=fun a b=>by simp [Nat.blt,Nat.succ_le_iff]
  constructor
  ·intro h s hs h1 h3;have h2:((occ &&& (mask k fr &&& btw k fr t)).testBit (63-s))=false:=by rw [h];simp
   have hb2:(Nat.blt fr s&&Nat.blt s t||Nat.blt t s&&Nat.blt s fr)=true:=by
    rw [zj,zP,zP,blt_iff,blt_iff,blt_iff,blt_iff];exact h3
   rw [zq,zq,hbt s hs,hm s hs,h1,hb2] at h2;simpa using h2
  ·intro h;have hlt:btw k fr t<2^64:=P4 _;refine ext (a:=occ &&& (mask k fr &&& btw k fr t)) (b:=0) (yn _ (yn _ hlt)) zd ?_;intro s hs;rw [zq,zq,hbt s hs,hm s hs,Nat.zero_testBit];cases h1:G5 k fr s
   ·simp
   ·cases hb2:(Nat.blt fr s&&Nat.blt s t||Nat.blt t s&&Nat.blt s fr)
    ·simp
    ·rw [zj,zP,zP,blt_iff,blt_iff,blt_iff,blt_iff] at hb2;rw [h s hs h1 hb2];simp
theorem b0A (occ pos:Nat) (k fr:Nat):lin occ pos (mask k fr)<2^64:=yn _ (P4 _)
end Bb
namespace Ch
open Bb
theorem a2x (p:l9) (W:Int):∀ (n:Nat) (i:Int),free p i W n=true↔∀ j:Nat,j<n→sq p (i+((j:Int)+1)*W)=0:=by
 intro n
 induction n with
 | zero=>intro i;simp [free]
 | succ n ih =>
  intro i;simp only [free,zP,beq_iff_eq,ih];constructor
  ·rintro ⟨h1,h2⟩ j hj;cases j with
   | zero=>simpa using h1
   | succ j =>
    have:=h2 j zo;rw [show i+(((j+1:Nat):Int)+1)*W=i+W+((j:Int)+1)*W by rw [Int.natCast_succ,Int.add_mul,Int.add_mul];omega]
    exact this
  ·intro h;refine ⟨by simpa using h 0 zo,fun j hj=>?_⟩
   have:=h (j+1) zo
   rwa [show i+(((j+1:Nat):Int)+1)*W=i+W+((j:Int)+1)*W by rw [Int.natCast_succ,Int.add_mul,Int.add_mul];omega] at this
def dF (a b:Nat):Int:=o4 b-o4 a
def dR (a b:Nat):Int:=k9 b-k9 a
def wy (a b:Nat):Int:=sign (dF a b)+8*sign (dR a b)
def ds (a b:Nat):Nat:=a5Y (dF a b) (dR a b)
def a73 (a s b:Nat):Bool:=(Nat.blt a s&&Nat.blt s b)||(Nat.blt b s&&Nat.blt s a)
def b7H (k a b:Nat):Bool :=
 !G5 k a b||Nat.beq a b||((List.range (ds a b)).all (fun j=>let q:=(a:Int)+((j:Int)+1)*wy a b;decide (0≤q)&&decide (q<64)&&G5 k a q.toNat&&a73 a q.toNat b) &&
  (sqs (fun s=>G5 k a s&&a73 a s b) 64).all fun s=>(List.range (ds a b)).any fun j=>decide ((s:Int)=(a:Int)+((j:Int)+1)*wy a b))
theorem b3u:(List.range 4).all (fun k=>(List.range 64).all fun a=>(List.range 64).all fun b=>b7H k a b)=true:=by decide +kernel
theorem a6J (a s b:Nat):a73 a s b=true↔(a<s∧s<b∨b<s∧s<a):=by
 simp [a73,Nat.blt,Nat.succ_le_iff]
theorem a1q (p:l9) {k a b:Nat} (hk:k<4) (ha:a<64) (hb:b<64) (hl:G5 k a b=true) (hne:a≠b) :
  free p a (wy a b) (ds a b)=true↔∀ s:Nat,s<64→G5 k a s=true→(a<s∧s<b∨b<s∧s<a)→sq p s=0:=by
 have h:=zl.1 (zl.1 (zl.1 b3u k (yl.2 hk)) a (yl.2 ha)) b (yl.2 hb);simp only [b7H,hl,xw,xc,zj,zP,zl,xD,yl,zW,a71] at h;rcases h with h|⟨h1,h2⟩
 ·exact absurd (zu h) hne
 rw [a2x];constructor
 ·intro hf s hs h3 h4;obtain ⟨j,hj,e⟩:=h2 s ⟨hs,h3,(a6J a s b).2 h4⟩;rw [e];exact hf j hj
 ·intro hf j hj;obtain ⟨⟨⟨h5,h6⟩,h7⟩,h8⟩:=h1 j hj;have:=hf _ zo h7 ((a6J _ _ _).1 h8)
  rwa [zi h5] at this
theorem b3v (a b:Nat):G5 0 a b=true↔dR a b=0:=by
 simp only [G5,dR,k9,Nat.beq_eq];omega
theorem b3w (a b:Nat):G5 1 a b=true↔dF a b=0:=by
 simp only [G5,dF,o4,Nat.beq_eq];omega
theorem b3x (a b:Nat):G5 2 a b=true↔dF a b=dR a b:=by
 simp only [G5,dF,dR,o4,k9,Nat.beq_eq];omega
theorem b3y (a b:Nat):G5 3 a b=true↔dF a b=-dR a b:=by
 simp only [G5,dF,dR,o4,k9,Nat.beq_eq];omega
def occ (p:l9):Nat:=bb (fun s=>!decide (sq p s=0))
def pcs (p:l9) (x:Int):Nat:=bb (fun s=>decide (sq p s=x))
def side (p:l9) (c:Int):Nat:=bb (fun s=>!decide (sq p s=0)&&decide (y9 (sq p s)=c))
def hv (o a:Nat):Nat:=lin o (D6 a) (mask 0 a) ||| lin o (D6 a) (mask 1 a)
def di (o a:Nat):Nat:=lin o (D6 a) (mask 2 a) ||| lin o (D6 a) (mask 3 a)
theorem b7I (o a:Nat):hv o a<2^64:=yq (b0A _ _ _ _) (b0A _ _ _ _)
theorem b7J (o a:Nat):di o a<2^64:=yq (b0A _ _ _ _) (b0A _ _ _ _)
theorem a5x (p:l9) {k a b:Nat} (hk:k<4) (ha:a<64) (hb:b<64):(lin (occ p) (D6 a) (mask k a)).testBit (63-b)=true↔G5 k a b=true∧a≠b∧free p a (wy a b) (ds a b)=true:=by
 rw [c0w hk ha hb];constructor
 ·rintro ⟨h1,h2,h3⟩;refine ⟨h1,fun e=>h2 e.symm,?_⟩;rw [a1q p hk ha hb h1 (fun e=>h2 e.symm)];intro s hs h4 h5;have:=h3 s hs h4 h5;unfold occ at this;rw [F6 _ hs] at this;simpa using this
 ·rintro ⟨h1,h2,h3⟩;refine ⟨h1,fun e=>h2 e.symm,?_⟩;rw [a1q p hk ha hb h1 h2] at h3;intro s hs h4 h5;unfold occ;rw [F6 _ hs,h3 s hs h4 h5];simp
theorem b7K (p:l9) {a b:Nat} (ha:a<64) (hb:b<64):(hv (occ p) a).testBit (63-b)=(!decide (a=b)&&(decide (dF a b=0)||decide (dR a b=0))&&free p a (wy a b) (ds a b)):=by
 rw [yv];unfold hv;rw [yF,zj,a5x p zo ha hb,a5x p zo ha hb,b3v,b3w];simp only [zP,zj,zc,zW,zZ];constructor
 ·rintro (⟨h1,h2,h3⟩|⟨h1,h2,h3⟩)
  ·exact ⟨⟨h2,.inr h1⟩,h3⟩
  ·exact ⟨⟨h2,.inl h1⟩,h3⟩
 ·rintro ⟨⟨h1,h2|h2⟩,h3⟩
  ·exact .inr ⟨h2,h1,h3⟩
  ·exact .inl ⟨h2,h1,h3⟩
theorem b7L (p:l9) {a b:Nat} (ha:a<64) (hb:b<64):(di (occ p) a).testBit (63-b)=(!decide (a=b)&&(decide (dF a b=dR a b)||decide (dF a b=-dR a b))&&free p a (wy a b) (ds a b)):=by
 rw [yv];unfold di;rw [yF,zj,a5x p zo ha hb,a5x p zo ha hb,b3x,b3y];simp only [zP,zj,zc,zW,zZ];constructor
 ·rintro (⟨h1,h2,h3⟩|⟨h1,h2,h3⟩)
  ·exact ⟨⟨h2,.inl h1⟩,h3⟩
  ·exact ⟨⟨h2,.inr h1⟩,h3⟩
 ·rintro ⟨⟨h1,h2|h2⟩,h3⟩
  ·exact .inl ⟨h2,h1,h3⟩
  ·exact .inr ⟨h2,h1,h3⟩
theorem b3z (k a b:Nat):G5 k a b=G5 k b a:=by
 unfold G5;split<;>(rw [yv];simp only [Nat.beq_eq];omega)
theorem a30 {k a b s:Nat} (h:G5 k a b=true):G5 k a s=G5 k b s:=by
 unfold G5 at *;split<;>(rw [yv];simp only [Nat.beq_eq] at *;omega)
theorem b5S (p:l9) {a b:Nat} (ha:a<64) (hb:b<64) (hl:dF a b=0∨dR a b=0∨dF a b=dR a b∨dF a b=-dR a b) :
  free p a (wy a b) (ds a b)=free p b (wy b a) (ds b a):=by
 by_cases hne:a=b
 ·subst hne;rfl
 have hk:∃ k,k<4∧G5 k a b=true:=by
  rcases hl with h|h|h|h
  ·exact ⟨1,zo,(b3w a b).2 h⟩
  ·exact ⟨0,zo,(b3v a b).2 h⟩
  ·exact ⟨2,zo,(b3x a b).2 h⟩
  ·exact ⟨3,zo,(b3y a b).2 h⟩
 obtain ⟨k,hk,h⟩:=hk;rw [yv,a1q p hk ha hb h hne,a1q p hk hb ha (by rw [b3z];exact h) (fun e=>hne e.symm)]
 constructor
 ·intro hf s hs h1 h2;exact hf s hs (by rw [a30 h];exact h1) h2.symm
 ·intro hf s hs h1 h2;exact hf s hs (by rw [← a30 h];exact h1) h2.symm
def N4 (p:l9) (k:Int) (sd:Int) (a b:Nat):Bool :=
 !decide (a=b) &&
 if k=1 then decide (dF a b*dF a b≤1)&&decide (dR a b*dR a b≤1)
 else if k=5 then decide (dF a b*dF a b+dR a b*dR a b=5)
 else if k=6 then decide (dF a b*dF a b=1)&&decide (dR a b=up sd)
 else (((decide (dF a b=0)||decide (dR a b=0)) && !decide (k=4))||((decide (dF a b=dR a b)||decide (dF a b=-dR a b)) && !decide (k=3)))&&free p a (wy a b) (ds a b)
theorem c52 (a b c:Bool):(if (!a && !b)=true then false else c)=((a||b)&&c):=by cases a<;>cases b<;>cases c<;>rfl
theorem a6e (p:l9) (a b:Nat):a3q p a b=(!decide (sq p a=0)&&N4 p (d6 (sq p a)) (y9 (sq p a)) a b):=by
 unfold a3q N4;by_cases h0:sq p a=0
 ·simp [h0]
 by_cases hab:a=b
 ·subst hab;simp
 have hab2:¬ (a:Int)=b:=by omega
 simp only [h0,hab2,false_or,or_self,xh,decide_false,Bool.not_false,yV,hab];by_cases h1:d6 (sq p a)=1
 ·rw [zM h1,zM h1];rfl
 rw [zJ h1,zJ h1];by_cases h5:d6 (sq p a)=5
 ·rw [zM h5,zM h5];rfl
 rw [zJ h5,zJ h5];by_cases h6:d6 (sq p a)=6
 ·rw [zM h6,zM h6];rfl
 rw [zJ h6,zJ h6];exact c52 _ _ _
end Ch
namespace Ch
open Bb
def kn (a:Nat):Nat:=bb (fun b=>decide (dF a b*dF a b+dR a b*dR a b=5))
def kg (a:Nat):Nat:=bb (fun b=>!decide (a=b)&&(decide (dF a b*dF a b≤1)&&decide (dR a b*dR a b≤1)))
def shl (x k:Nat):Nat:=(x <<< k)%2^64
def a2y:Nat:=72340172838076673
def a2z:Nat:=9259542123273814144
def a15:Nat:=18374686479671623680
def a0K:Nat:=255
theorem a8d:a2y=bb (fun s=>decide (s%8=7)):=by decide +kernel
theorem a8e:a2z=bb (fun s=>decide (s%8=0)):=by decide +kernel
theorem a8f:a15=bb (fun s=>decide (s/8=0)):=by decide +kernel
theorem a8g:a0K=bb (fun s=>decide (s/8=7)):=by decide +kernel
theorem a2N (x k:Nat) {s:Nat} (hs:s<64):(shl x k).testBit (63-s)=(decide (s+k<64)&&x.testBit (63-(s+k))):=by
 unfold shl;rw [Nat.testBit_mod_two_pow,Nat.testBit_shiftLeft];by_cases h:s+k<64
 ·simp [h,show 63-s<64 by omega,show 63-s≥k by omega,show 63-s-k=63-(s+k) by omega]
 ·simp [h,show ¬ 63-s≥k by omega]
theorem a2O (x k:Nat) (hx:x<2^64) {s:Nat} (hs:s<64):(x >>> k).testBit (63-s)=(decide (k≤s)&&x.testBit (63-(s-k))):=by
 rw [Nat.testBit_shiftRight];by_cases h:k≤s
 ·simp [h,show k+(63-s)=63-(s-k) by omega]
 ·rw [zV h,xi];exact Nat.testBit_lt_two_pow (xV hx (Nat.pow_le_pow_right zd zo))
theorem a8h (x k:Nat):shl x k<2^64:=Nat.mod_lt _ zd
theorem b7M {x:Nat} (k:Nat) (hx:x<2^64):x >>> k<2^64:=xu (by rw [Nat.shiftRight_eq_div_pow];exact Nat.div_le_self _ _) hx
def a23 (p:l9) (c:Int):Nat :=
 if c=1 then shl (pcs p 12 &&& not a2y &&& not a15) 7 ||| shl (pcs p 12 &&& not a2z &&& not a15) 9
 else ((pcs p 6 &&& not a2y &&& not a0K) >>> 9) ||| ((pcs p 6 &&& not a2z &&& not a0K) >>> 7)
theorem a4b (p:l9) (x:Int) {s:Nat} (hs:s<64):(pcs p x).testBit (63-s)=decide (sq p s=x):=F6 _ hs
theorem b0B (p:l9) {c:Int} (hc:c=0∨c=1) {a:Nat} (ha:a<64) :
  (a23 p c).testBit (63-a)=true↔∃ i:Nat,i<64∧sq p i=6+6*c∧N4 p 6 c i a=true:=by
 have hK:∀ i:Nat,N4 p 6 c i a=true↔i≠a∧dF i a*dF i a=1∧dR i a=up c:=by
  intro i;simp [N4]
 have hF:∀ i:Nat,dF i a*dF i a=1↔(dF i a=1∨dF i a=-1):=by
  intro i;constructor
  ·intro h;have:=@b7A (dF i a) (by simp only [dF,o4];omega) (by simp only [dF,o4];omega)
   have h3:dF i a=-7∨dF i a=-6∨dF i a=-5∨dF i a=-4∨dF i a=-3∨dF i a=-2∨dF i a=-1∨dF i a=0∨dF i a=1∨dF i a=2∨dF i a=3∨dF i a=4∨dF i a=5∨dF i a=6∨dF i a=7:=by simp only [dF,o4];omega
   rcases h3 with h3|h3|h3|h3|h3|h3|h3|h3|h3|h3|h3|h3|h3|h3|h3<;>rw [h3] at h<;>simp at h<;>omega
  ·rintro (h|h)<;>rw [h]<;>decide
 simp only [hK,hF];simp only [a23,up,dR,dF,o4,k9];rcases hc with rfl|rfl
 ·rw [zJ zd,yF,zj];have l1:pcs p 6 &&& not a2y &&& not a0K<2^64:=yn _ (not_lt zd);have l2:pcs p 6 &&& not a2z &&& not a0K<2^64:=yn _ (not_lt zd);rw [a2O _ 9 l1 ha,a2O _ 7 l2 ha];have e1:(pcs p 6 &&& not a2y &&& not a0K).testBit (63-(a-9))=(decide (sq p ((a-9:Nat):Int)=6) && !decide ((a-9)%8=7) && !decide ((a-9)/8=7)):=by
   rw [zq,zq,a4b _ _ zo,E7 _ zo,E7 _ zo,a8d,a8g,F6 _ zo,F6 _ zo]
  have e2:(pcs p 6 &&& not a2z &&& not a0K).testBit (63-(a-7))=(decide (sq p ((a-7:Nat):Int)=6) && !decide ((a-7)%8=0) && !decide ((a-7)/8=7)):=by
   rw [zq,zq,a4b _ _ zo,E7 _ zo,E7 _ zo,a8e,a8g,F6 _ zo,F6 _ zo]
  rw [e1,e2];simp only [zP,zW,zc,zZ];constructor
  ·rintro (⟨h1,⟨h2,h3⟩,h4⟩|⟨h1,⟨h2,h3⟩,h4⟩)
   ·exact ⟨a-9,zo,by simpa using h2,zo,zo,zo⟩
   ·exact ⟨a-7,zo,by simpa using h2,zo,zo,zo⟩
  ·rintro ⟨i,h1,h2,h3,h4,h5⟩;rcases h4 with h4|h4
   ·refine .inl ?_;have:a-9=i:=by omega
    rw [this];exact ⟨zo,⟨by simpa using h2,zo⟩,zo⟩
   ·refine .inr ?_;have:a-7=i:=by omega
    rw [this];exact ⟨zo,⟨by simpa using h2,zo⟩,zo⟩
 ·rw [zM rfl,yF,zj,a2N _ _ ha,a2N _ _ ha];have e1:a+7<64→(pcs p 12 &&& not a2y &&& not a15).testBit (63-(a+7))=(decide (sq p ((a+7:Nat):Int)=12) && !decide ((a+7)%8=7) && !decide ((a+7)/8=0)):=by
   intro h;rw [zq,zq,a4b _ _ h,E7 _ h,E7 _ h,a8d,a8f,F6 _ h,F6 _ h]
  have e2:a+9<64→(pcs p 12 &&& not a2z &&& not a15).testBit (63-(a+9))=(decide (sq p ((a+9:Nat):Int)=12) && !decide ((a+9)%8=0) && !decide ((a+9)/8=0)):=by
   intro h;rw [zq,zq,a4b _ _ h,E7 _ h,E7 _ h,a8e,a8f,F6 _ h,F6 _ h]
  simp only [zP,zW];constructor
  ·rintro (⟨h1,h2⟩|⟨h1,h2⟩)
   ·rw [e1 h1] at h2;simp only [zP,zW,zc,zZ] at h2;exact ⟨a+7,zo,by simpa using h2.1.1,zo,zo,zo⟩
   ·rw [e2 h1] at h2;simp only [zP,zW,zc,zZ] at h2;exact ⟨a+9,zo,by simpa using h2.1.1,zo,zo,zo⟩
  ·rintro ⟨i,h1,h2,h3,h4,h5⟩;rcases h4 with h4|h4
   ·refine .inl ⟨zo,?_⟩;have:a+7=i:=by omega
    rw [e1 zo,this];simp only [zP,zW,zc,zZ];exact ⟨⟨by simpa using h2,zo⟩,zo⟩
   ·refine .inr ⟨zo,?_⟩;have:a+9=i:=by omega
    rw [e2 zo,this];simp only [zP,zW,zc,zZ];exact ⟨⟨by simpa using h2,zo⟩,zo⟩
theorem b4J (x:Nat) (f:Nat→Bool):(x &&& bb f≠0)↔∃ i,i<64∧x.testBit (63-i)=true∧f i=true:=by
 constructor
 ·intro h;refine yf fun hn=>h ?_;refine ext (yn _ (P4 f)) zd ?_;intro s hs;rw [zq,F6 f hs,Nat.zero_testBit];cases hx:x.testBit (63-s)
  ·simp
  ·cases hf:f s
   ·simp
   ·exact absurd ⟨s,hs,hx,hf⟩ hn
 ·rintro ⟨i,h1,h2,h3⟩ h;have:(x &&& bb f).testBit (63-i)=true:=by rw [zq,F6 f h1,h2,h3];rfl
  rw [h] at this;simp at this
def b7N (p:l9) (a:Nat) (c:Int):Bool :=
 let o:=occ p
 if ((di o a ||| hv o a) &&& side p c) ||| (kn a &&& side p c)=0 then false
 else if (di o a ||| hv o a) &&& pcs p (2+6*c)≠0 then true
 else if hv o a &&& pcs p (3+6*c)≠0 then true
 else if di o a &&& pcs p (4+6*c)≠0 then true
 else if kn a &&& pcs p (5+6*c)≠0 then true
 else if a23 p c &&& D6 a≠0 then true
 else if kg a &&& pcs p (1+6*c)≠0 then true
 else false
theorem c2P (a b:Nat):dF b a=-dF a b:=by simp only [dF];omega
theorem c2Q (a b:Nat):dR b a=-dR a b:=by simp only [dR];omega
theorem a0b (p:l9) {k:Int} (hk:k≠6) (sd sd':Int) {a b:Nat} (ha:a<64) (hb:b<64):N4 p k sd a b=N4 p k sd' b a:=by
 unfold N4;have e:decide (a=b)=decide (b=a):=ya.2 ⟨fun h=>h.symm,fun h=>h.symm⟩;rw [e,c2P a b,c2Q a b];by_cases h1:k=1
 ·rw [zM h1,zM h1,Int.neg_mul_neg,Int.neg_mul_neg]
 rw [zJ h1,zJ h1];by_cases h5:k=5
 ·rw [zM h5,zM h5,Int.neg_mul_neg,Int.neg_mul_neg]
 rw [zJ h5,zJ h5,zJ hk,zJ hk];congr 1;have e1:decide (-dF a b=0)=decide (dF a b=0):=ya.2 zo;have e2:decide (-dR a b=0)=decide (dR a b=0):=ya.2 zo;have e3:decide (-dF a b=-dR a b)=decide (dF a b=dR a b):=ya.2 zo;have e4:decide (-dF a b=- -dR a b)=decide (dF a b=-dR a b):=ya.2 zo;rw [e1,e2,e3,e4];by_cases hl:dF a b=0∨dR a b=0∨dF a b=dR a b∨dF a b=-dR a b
 ·rw [b5S p ha hb hl]
 ·rw [zV (fun h=>hl (.inl h)),zV (fun h=>hl (.inr (.inl h))),zV (fun h=>hl (.inr (.inr (.inl h)))),zV (fun h=>hl (.inr (.inr (.inr h))))];simp
theorem b7O (p:l9) {a i:Nat} (ha:a<64) (hi:i<64):(di (occ p) a ||| hv (occ p) a).testBit (63-i)=N4 p 2 0 a i:=by
 rw [yF,b7L p ha hi,b7K p ha hi];simp only [N4];generalize decide (a=i)=x1;generalize free p _ _ _=x2;generalize decide (dF a i=dR a i)=x3;generalize decide (dF a i=-dR a i)=x4;generalize decide (dF a i=0)=x5;generalize decide (dR a i=0)=x6;cases x1<;>cases x2<;>cases x3<;>cases x4<;>cases x5<;>cases x6<;>rfl
theorem c2f (p:l9) {a i:Nat} (ha:a<64) (hi:i<64):(hv (occ p) a).testBit (63-i)=N4 p 3 0 a i:=by
 rw [b7K p ha hi];simp only [N4];generalize decide (a=i)=x1;generalize free p _ _ _=x2;generalize decide (dF a i=dR a i)=x3;generalize decide (dF a i=-dR a i)=x4;generalize decide (dF a i=0)=x5;generalize decide (dR a i=0)=x6;cases x1<;>cases x2<;>cases x3<;>cases x4<;>cases x5<;>cases x6<;>rfl
theorem c2g (p:l9) {a i:Nat} (ha:a<64) (hi:i<64):(di (occ p) a).testBit (63-i)=N4 p 4 0 a i:=by
 rw [b7L p ha hi];simp only [N4];generalize decide (a=i)=x1;generalize free p _ _ _=x2;generalize decide (dF a i=dR a i)=x3;generalize decide (dF a i=-dR a i)=x4;generalize decide (dF a i=0)=x5;generalize decide (dR a i=0)=x6;cases x1<;>cases x2<;>cases x3<;>cases x4<;>cases x5<;>cases x6<;>rfl
theorem b7P (p:l9) {a i:Nat} (ha:a<64) (hi:i<64):(kn a).testBit (63-i)=N4 p 5 0 a i:=by
 unfold kn;rw [F6 _ hi];simp only [N4];by_cases h:a=i
 ·subst h;simp [dF,dR]
 ·simp [h]
theorem c2h (p:l9) {a i:Nat} (ha:a<64) (hi:i<64):(kg a).testBit (63-i)=N4 p 1 0 a i:=by
 unfold kg;rw [F6 _ hi];simp only [N4];rfl
def c2i (k:Int) (a b:Nat):Bool:=decide (a=b) || !(decide (dF a b*dF a b≤1)&&decide (dR a b*dR a b≤1))||(decide (ds a b=0)&&(decide (dF a b=0)||decide (dR a b=0)||decide (dF a b=dR a b)||decide (dF a b=-dR a b)))
theorem b7Q:(List.range 64).all (fun a=>(List.range 64).all fun b=>c2i 0 a b)=true:=by decide +kernel
theorem b7R (p:l9) {a b:Nat} (ha:a<64) (hb:b<64) (h:a≠b) (h1:dF a b*dF a b≤1) (h2:dR a b*dR a b≤1):N4 p 2 0 a b=true:=by
 have:=zl.1 (zl.1 b7Q a (yl.2 ha)) b (yl.2 hb);simp only [c2i,h,h1,h2,decide_true,decide_false,Bool.and_self,xw,xc,zP,zj,zW] at this;obtain ⟨h3,h4⟩:=this;simp only [N4,h,h3,free,decide_false,Bool.not_false,yV,Bool.and_true];rw [zJ zd,zJ zd,zJ zd];simp only [zj,zP,zW];rcases h4 with ((h4|h4)|h4)|h4
 ·exact .inl ⟨.inl h4,zd⟩
 ·exact .inl ⟨.inr h4,zd⟩
 ·exact .inr ⟨.inl h4,zd⟩
 ·exact .inr ⟨.inr h4,zd⟩
theorem b1D {x c:Int} (h0:0≤x) (h1:x≤12) (hc:c=0∨c=1):(x≠0∧y9 x=c)↔∃ k:Int,1≤k∧k≤6∧x=k+6*c:=by
 unfold y9;constructor
 ·rintro ⟨h2,h3⟩;split at h3
  ·exact ⟨x-6,zo,zo,zo⟩
  ·exact ⟨x,zo,zo,zo⟩
 ·rintro ⟨k,h2,h3,rfl⟩;rcases hc with rfl|rfl
  ·exact ⟨zo,by rw [zJ zo]⟩
  ·exact ⟨zo,by rw [zM zo]⟩
theorem L9 {k c:Int} (h1:1≤k) (h2:k≤6) (hc:c=0∨c=1):d6 (k+6*c)=k:=by
 unfold d6;rcases hc with rfl|rfl
 ·rw [zJ zo];omega
 ·rw [zM zo];omega
theorem P5 {k c:Int} (h1:1≤k) (h2:k≤6) (hc:c=0∨c=1):y9 (k+6*c)=c:=by
 unfold y9;rcases hc with rfl|rfl
 ·rw [zJ zo]
 ·rw [zM zo]
theorem Q0 (p:l9) (hp:∀ i:Int,0≤sq p i∧sq p i≤12) {a:Nat} {c:Int} (hc:c=0∨c=1) :
  B7 p a c=true↔∃ k:Int,1≤k∧k≤6∧∃ i:Nat,i<64∧sq p i=k+6*c∧N4 p k c i a=true:=by
 unfold B7;rw [a3r];constructor
 ·rintro ⟨i,h1,h2⟩;simp only [a3f,zP,zc,zW,zZ,a6e] at h2;obtain ⟨⟨h3,h4⟩,_,h6⟩:=h2;obtain ⟨k,k1,k2,k3⟩:=(b1D (hp i).1 (hp i).2 hc).1 ⟨h3,h4⟩;refine ⟨k,k1,k2,i,h1,k3,?_⟩
  rwa [k3,L9 k1 k2 hc,P5 k1 k2 hc] at h6
 ·rintro ⟨k,k1,k2,i,h1,k3,h⟩;refine ⟨i,h1,?_⟩;simp only [a3f,zP,zc,zW,zZ,a6e];have h0:sq p i≠0:=by rw [k3];rcases hc with rfl|rfl<;>omega
  exact ⟨⟨h0,by rw [k3,P5 k1 k2 hc]⟩,h0,by rw [k3,L9 k1 k2 hc,P5 k1 k2 hc];exact h⟩
theorem a24 (p:l9) (k c:Int) (hk:k≠6) (x a:Nat) (ha:a<64) (hx:∀ i,i<64→x.testBit (63-i)=N4 p k 0 a i) :
  (x &&& pcs p (k+6*c)≠0)↔∃ i:Nat,i<64∧sq p i=k+6*c∧N4 p k c i a=true:=by
 unfold pcs;rw [b4J];constructor
 ·rintro ⟨i,h1,h2,h3⟩;refine ⟨i,h1,yB h3,?_⟩;rw [a0b p hk c 0 h1 ha,← hx i h1];exact h2
 ·rintro ⟨i,h1,h2,h3⟩;refine ⟨i,h1,?_,zX h2⟩;rw [hx i h1,← a0b p hk c 0 h1 ha];exact h3
theorem c0x (p:l9) (hp:∀ i:Int,0≤sq p i∧sq p i≤12) {a:Nat} (ha:a<64) {c:Int} (hc:c=0∨c=1):b7N p a c=B7 p a c:=by
 have m2:=a24 p 2 c zd _ a ha (fun i hi=>b7O p ha hi);have m3:=a24 p 3 c zd _ a ha (fun i hi=>c2f p ha hi);have m4:=a24 p 4 c zd _ a ha (fun i hi=>c2g p ha hi);have m5:=a24 p 5 c zd _ a ha (fun i hi=>b7P p ha hi);have m1:=a24 p 1 c zd _ a ha (fun i hi=>c2h p ha hi);have m6:(a23 p c &&& D6 a≠0)↔∃ i:Nat,i<64∧sq p i=6+6*c∧N4 p 6 c i a=true:=by
  rw [c2M ha,b4J,← b0B p hc ha];constructor
  ·rintro ⟨i,_,h2,h3⟩;rw [← yB h3];exact h2
  ·intro h;exact ⟨a,ha,h,zX rfl⟩
 have hot:B7 p a c=true→¬ (((di (occ p) a ||| hv (occ p) a) &&& side p c) ||| (kn a &&& side p c)=0):=by
  intro h h0;obtain ⟨k,k1,k2,i,h1,h2,h3⟩:=(Q0 p hp hc).1 h;have hs:(!decide (sq p i=0)&&decide (y9 (sq p i)=c))=true:=by
   have:=(b1D (hp i).1 (hp i).2 hc).2 ⟨k,k1,k2,h2⟩;simp [this.1,this.2]
  have hz:(di (occ p) a ||| hv (occ p) a) &&& side p c=0∧kn a &&& side p c=0:=by
   constructor
   ·apply Nat.eq_of_testBit_eq;intro j;have:=yH (fun x=>x.testBit j) h0;simp only [yF _ _ j,Nat.zero_testBit,yA] at this;rw [Nat.zero_testBit];exact this.1
   ·apply Nat.eq_of_testBit_eq;intro j;have:=yH (fun x=>x.testBit j) h0;simp only [yF _ _ j,Nat.zero_testBit,yA] at this;rw [Nat.zero_testBit];exact this.2
  by_cases h5:k=5
  ·refine (b4J (kn a) _).2 ⟨i,h1,?_,hs⟩ hz.2;rw [b7P p ha h1,a0b p zd 0 c ha h1,← h5];exact h3
  ·refine (b4J (di (occ p) a ||| hv (occ p) a) _).2 ⟨i,h1,?_,hs⟩ hz.1
   rw [b7O p ha h1,a0b p zd 0 c ha h1];have hne:i≠a:=by
    intro e;subst e;simp [N4] at h3
   have hkk:k=1∨k=2∨k=3∨k=4∨k=6:=by omega
   rcases hkk with rfl|rfl|rfl|rfl|rfl
   ·simp only [N4,xy,zP,zW] at h3;rw [a0b p zd c 0 h1 ha,a0b p zd 0 0 ha h1];exact b7R p h1 ha hne h3.2.1 h3.2.2
   ·exact h3
   ·simp only [N4,zP] at h3 ⊢;rw [zJ zd,zJ zd,zJ zd] at h3 ⊢;simp only [zP,zj,decide_true,xw,Bool.and_false,Bool.or_false,yD,and_false,yy] at h3 ⊢;exact ⟨h3.1,.inl ⟨h3.2.1.1,zd⟩,h3.2.2⟩
   ·simp only [N4,zP] at h3 ⊢;rw [zJ zd,zJ zd,zJ zd] at h3 ⊢;simp only [zP,zj,decide_true,xw,yD,and_false,false_or] at h3 ⊢;exact ⟨h3.1,.inr ⟨h3.2.1.1,zd⟩,h3.2.2⟩
   ·simp only [N4,zP,zW] at h3;rw [zJ zd,zJ zd,zM trivial,zP,zW,zW] at h3;rw [a0b p zd c 0 h1 ha,a0b p zd 0 0 ha h1];refine b7R p h1 ha hne zo ?_;rw [h3.2.2];unfold up;rcases hc with rfl|rfl<;>decide
 rw [yv];constructor
 ·intro h;rw [Q0 p hp hc];simp only [b7N] at h;split at h
  ·cases h
  split at h
  ·rename_i h';exact ⟨2,zd,zd,m2.1 h'⟩
  split at h
  ·rename_i h';exact ⟨3,zd,zd,m3.1 h'⟩
  split at h
  ·rename_i h';exact ⟨4,zd,zd,m4.1 h'⟩
  split at h
  ·rename_i h';exact ⟨5,zd,zd,m5.1 h'⟩
  split at h
  ·rename_i h';exact ⟨6,zd,zd,m6.1 h'⟩
  split at h
  ·rename_i h';exact ⟨1,zd,zd,m1.1 h'⟩
  cases h
 ·intro h;have hh:=hot h;obtain ⟨k,k1,k2,h2⟩:=(Q0 p hp hc).1 h;simp only [b7N];rw [zJ hh];have hkk:k=1∨k=2∨k=3∨k=4∨k=5∨k=6:=by omega
  split
  ·rfl
  split
  ·rfl
  split
  ·rfl
  split
  ·rfl
  split
  ·rfl
  split
  ·rfl
  rename_i n2 n3 n4 n5 n6 n1;rcases hkk with rfl|rfl|rfl|rfl|rfl|rfl
  ·exact absurd (m1.2 h2) n1
  ·exact absurd (m2.2 h2) n2
  ·exact absurd (m3.2 h2) n3
  ·exact absurd (m4.2 h2) n4
  ·exact absurd (m5.2 h2) n5
  ·exact absurd (m6.2 h2) n6
end Ch
end
