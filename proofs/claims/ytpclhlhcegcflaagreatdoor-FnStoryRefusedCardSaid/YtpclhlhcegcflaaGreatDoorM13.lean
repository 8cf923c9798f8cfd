/- One part of the proof: Pk20 Pk21 Pk22 Pk23 Pk24 Pk25 Pk26 Pk27 Pk28 Pk29 Pk30. -/
import Derived.Test.YtpclhlhcegcflaaGreatDoorM12
namespace Go.Proofs.YtpclhlhcegcflaaGreatDoor
open Go.Proofs.Tryz
set_option maxRecDepth 100000
set_option linter.unusedSimpArgs false
set_option linter.unusedVariables false
section
open Go Go.RowKit
open E
open Ch Bb
section nd
variable {M t:Nat} {d:Nd} {w:World} {fz:Nat×Nat} (hM:w.heap[M]?=some (.cells (F7 d) t fz))
include hM
theorem c1Y:Calls G.P 140 #[.pointer (some ⟨M,0,none⟩)] w (E8 (.int .i8 d.mv.fr) w):=by
 refine zN func140 ?_;refine zR ?_;refine b7 _ (b5W hM) (zR ?_);exact ⟨rfl,rfl⟩
theorem c5L:Calls G.P 141 #[.pointer (some ⟨M,0,none⟩)] w (E8 (.int .i8 d.mv.to) w):=by
 refine zN func141 ?_;refine zR ?_;refine b7 _ (b5X hM) (zR ?_);exact ⟨rfl,rfl⟩
theorem b1H:Calls G.P 142 #[.pointer (some ⟨M,0,none⟩)] w (E8 (.int .i8 d.mv.promo) w):=by
 refine zN func142 ?_;refine zR ?_;refine b7 _ (a8W hM) (zR ?_);exact ⟨rfl,rfl⟩
theorem b4J:Calls G.P 103 #[.pointer (some ⟨M,0,none⟩)] w (E8 (.int .u16 d.tags) w):=by
 refine zN func103 ?_;refine zR ?_;refine b7 _ (b14 hM) (zR ?_);exact ⟨rfl,rfl⟩
end nd
section hd
variable {b P t:Nat} {h:Hd} {cv:Value} {w:World} {fz:Nat×Nat} (hP:w.heap[P]?=some (.cells (hdA b h cv) t fz))
include hP
theorem b1I:Calls G.P 149 #[.pointer (some ⟨P,0,none⟩)] w (E8 (.pointer (some ⟨b,0,none⟩)) w):=by
 refine zN func149 ?_;refine zR ?_;refine b7 _ (a8U hP) (zR ?_);exact ⟨rfl,rfl⟩
theorem c6V:Calls G.P 171 #[.pointer (some ⟨P,0,none⟩)] w (E8 (.int .i8 h.ep) w):=by
 refine zN func171 ?_;refine zR ?_;refine b7 _ (b04 hP) (zR ?_);exact ⟨rfl,rfl⟩
theorem c4t:Calls G.P 172 #[.pointer (some ⟨P,0,none⟩)] w (E8 (.int .i64 h.half) w):=by
 refine zN func172 ?_;refine zR ?_;refine b7 _ (a27 hP) (zR ?_);exact ⟨rfl,rfl⟩
theorem c4u:Calls G.P 173 #[.pointer (some ⟨P,0,none⟩)] w (E8 (.int .i64 h.full) w):=by
 refine zN func173 ?_;refine zR ?_;refine b7 _ (a43 hP) (zR ?_);exact ⟨rfl,rfl⟩
theorem b7y:Calls G.P 174 #[.pointer (some ⟨P,0,none⟩)] w (E8 (m7 h.cas) w):=by
 refine zN func174 ?_;refine zR ?_;refine b7 _ (a3W hP) (zR ?_);exact ⟨rfl,rfl⟩
end hd
theorem c1Z (p:g9) (l:List PM) (m:Mv):(s1M p l m).length≤2:=by
 unfold s1M;split
 ·simp
 ·simp only [zF];split<;>split<;>simp [v8,B6]
theorem a7a (p:g9) (m:Mv) (t:Nat):(a9Q p m t).length≤1:=by unfold a9Q;(repeat' split)<;>simp
theorem a07 {M t:Nat} {d:Nd} {w:World} {fz:Nat×Nat} (hM:w.heap[M]?=some (.cells (F7 d) t fz)) (h64:d.tags<64) (k:Nat) (hk:k<6) (n:Int) (hn:n=((2^k:Nat):Int)):Calls G.P 147 #[.pointer (some ⟨M,0,none⟩),.int .u16 n] w (E8 (.bool (d.tags.testBit k)) w):=by
 rw [hn];exact a0N zo zo w hM
set_option maxHeartbeats 2000000 in
theorem a7A {p:g9} (hI:B7 p) (hN:Y6 p) (hle:(A5 p).length≤218) {d:Nd} {P b M:Nat} {ad:Addr} {n0 c0:Nat} (hm:d.mv∈p9 p) {ck:Bool} (hck:a1i (made p d.mv)=true→ck=true) (htg:(d.tags:Int)=K5 p d.mv+(if ck then 16 else 0)) (w:World) (hT:C6 w) (hP:G8 w P b p (.slice (some ad) n0 c0))
  (hM:w.heap[M]?=some (.cells (F7 d) 141 (0,0))) :
  Calls G.P 104 #[.agg #[],.pointer (some ⟨P,0,none⟩),.pointer (some ⟨M,0,none⟩)] w (N0 (m7 (b7s p d.mv d.tags)) w):=by
 obtain ⟨_,_,h64⟩:=a1h htg;obtain ⟨f0,f1,t0,t1,hpm⟩:=A3 hI hm;obtain ⟨fr,hfr⟩:=ze f0;have hf64:fr<64:=by omega
 have pc:=fun w hT hB=>a0a (a1s p) b (t:=237) (fz:=(0,0)) fr hf64 w hT hB;rw [U9 hI.pc hf64,← hfr] at pc;have hpr:=hI.pc d.mv.fr;have ety:=fun w=>a1f (sq p d.mv.fr) hpr.1 hpr.2 w;have hchk:=fun (w:World) hT hP hM=>a4c hI hN (P:=P) (b:=b) (M:=M) (cv:=.slice (some ad) n0 c0) (d:=d) hm hck htg w hT hP hM;have hfs:=fun (w:World) hT hP hM=>b9B hI hle (P:=P) (b:=b) (M:=M) (t:=141) (fz:=(0,0)) (ad:=ad) (n0:=n0) (c0:=c0) (d:=d) f0 f1 w hT hP hM;have htoT:sqT d.mv.to=v8 d.mv.to++B6 d.mv.to:=by unfold sqT;rw [zJ zo]
 have hk0:0≤a0B (sq p d.mv.fr)∧a0B (sq p d.mv.fr)≤6:=by unfold a0B;split<;>omega
 have hs6:a0B (sq p d.mv.fr)=6→s1M p (P7 p) d.mv=[]:=fun h=>by unfold s1M;rw [zM h]
 have hsan:b7s p d.mv d.tags=if d.tags.testBit 0 then [79,45,79]++a9Q p d.mv d.tags else if d.tags.testBit 1 then [79,45,79,45,79]++a9Q p d.mv d.tags
  else a2t (a0B (sq p d.mv.fr))++s1M p (P7 p) d.mv++(if d.tags.testBit 2||d.tags.testBit 3 then (if a0B (sq p d.mv.fr)=6 then v8 d.mv.fr else [])++[120] else [])++sqT d.mv.to++(if d.mv.promo=0 then [] else [61]++a2t d.mv.promo)++a9Q p d.mv d.tags:=rfl
 rw [hsan];clear hsan;have gl:=a7a p d.mv d.tags;have sl:=c1Z p (P7 p) d.mv;have ll:(a2t (a0B (sq p d.mv.fr))).length≤1:=L7 _;have pl:(a2t d.mv.promo).length≤1:=L7 _;have el:=fun w=>a6o (a0B (sq p d.mv.fr)) hk0.1 hk0.2 w;have ep:=fun w=>a6o d.mv.promo zo zo w;generalize a9Q p d.mv d.tags=SG at *;generalize s1M p (P7 p) d.mv=S1 at *;generalize a0B (sq p d.mv.fr)=KD at *;refine zN func104 ?_;refine zR ?_;have cb:=Cl.alloc w (.cells #[] 149);generalize w.alloc (.cells #[] 149)=wb at *;refine o7 (hchk wb (hT.cl cb) (hP.step cb) (cb.blk hM)) fun w1 c1=>?_;have cw1:=cb.trans c1;have hM1:=cw1.blk hM;refine zR ?_;refine g7 (a07 hM1 h64 0 zd _ rfl) ?_;cases hb0:d.tags.testBit 0;rotate_left
 ·refine zR ?_;refine E.A1 (y9 (x:=[79,45,79]) (y:=SG) (by simp;omega)) (zR ?_)
  exact ⟨B9 (A6 [79,45,79] SG),cw1⟩
 refine zR ?_;refine g7 (a07 hM1 h64 1 zd _ rfl) ?_;cases hb1:d.tags.testBit 1;rotate_left
 ·refine zR ?_;refine E.A1 (y9 (x:=[79,45,79,45,79]) (y:=SG) (by simp;omega)) (zR ?_)
  exact ⟨B9 (A6 [79,45,79,45,79] SG),cw1⟩
 refine zR ?_;refine s7 _ b42 ?_;have cA:=Cl.alloc w1 (.cells (Value.agg #[.pointer none,.slice none 0 0]).cells 160);have nA:=d8 w1 (.cells (Value.agg #[.pointer none,.slice none 0 0]).cells 160);generalize w1.alloc (.cells (Value.agg #[.pointer none,.slice none 0 0]).cells 160)=w2 at *;refine zR ?_;refine m8 (b1F nA) ?_;rintro r w3 ⟨rfl,u3⟩;refine ⟨_,rfl,?_⟩;have hb3:Bld w1 w1.heap.size [] w3:=Bld.fresh ((Tn.upd u3).toCl cA (yO _)) (yO _) u3.at_;have cw3:=cw1.trans hb3.cl;refine zR ?_;refine g7 (b1I (hP.step cw3).hd) (zR ?_);refine g7 (c1Y (cw3.blk hM)) (zR ?_);refine g7 (pc _ (hT.cl cw3) (hP.step cw3).bd) (zG ?_);refine B0 (σ:=Unit) [10] 12 (fun _=>[]) (fun _ w'=>Bld w1 w1.heap.size (a2t KD) w') zk ?_ (fun _ j w4 h4=>?_)
 ·refine zR ?_;refine g7 (ety _) (zR ?_);refine g7 (el _) ?_;rcases kinds hk0.1 hk0.2 with rfl|rfl|rfl|rfl|rfl|rfl|rfl<;>(refine zR ?_)<;>first
   | exact ⟨(),trivial,hb3⟩
   | (refine m8 (G6 (a2t _) hb3 zd (by rw [a2t];decide)) ?_
      rintro r w4 ⟨rfl,h4⟩;refine ⟨_,rfl,zR ?_⟩;exact ⟨(),trivial,h4⟩)
 have cw4:=cw1.trans h4.cl;refine B0 (σ:=Unit) [11] 12 (fun _=>[]) (fun _ w'=>Bld w1 w1.heap.size (a2t KD++S1) w') zk ?_ (fun _ j w5 h5=>?_)
 ·refine zR ?_;refine o7 (hfs _ (hT.cl cw4) (hP.step cw4) (cw4.blk hM)) fun w5 c5=>?_;have h5:=h4.step c5;refine zR ?_;apply E.y8<;>intro h
  ·refine zR ?_;refine m8 (G6 S1 h5 zo zo) ?_;rintro r w6 ⟨rfl,h6⟩;refine ⟨_,rfl,zR ?_⟩;exact ⟨(),trivial,h6⟩
  ·have e:S1=[]:=by rw [a06] at h;exact Q0.1 h
   refine zR ?_;exact ⟨(),trivial,by rw [e,zn];exact h5⟩
 have cw5:=cw1.trans h5.cl;have hM5:=cw5.blk hM;have hl5:(a2t KD++S1).length≤3:=by rw [zF];omega
 refine B0 (σ:=Unit) [] 12 (fun _=>[]) (fun _ w'=>Bld w1 w1.heap.size ((a2t KD++S1)++(if d.tags.testBit 2||d.tags.testBit 3 then (if KD=6 then v8 d.mv.fr else [])++[120] else [])) w') zk ?_ (fun _ j w6 h6=>?_)
 ·have tg2:=a07 hM5 h64 2 zd 4 rfl;have tg3:=a07 hM5 h64 3 zd 8 rfl;cases hb2:d.tags.testBit 2
  ·rw [hb2] at tg2;refine zR ?_;refine g7 tg2 (zR ?_);cases hb3':d.tags.testBit 3
   ·rw [hb3'] at tg3;refine g7 tg3 (zR ?_);exact ⟨(),trivial,by simpa using h5⟩
   ·rw [hb3'] at tg3;refine g7 tg3 (zR ?_);refine g7 (ety _) ?_;by_cases hk:KD=6
    ·subst hk;have e:a2t 6++S1=[]:=by rw [hs6 rfl];rfl
     rw [e] at h5 ⊢;refine zR ?_;refine g7 (c3g h5) (zR ?_);refine a4U hM5 (zR ?_);refine g7 (a1C d.mv.fr f0 f1 _) (zR ?_);refine g7 (b4I (d.mv.fr%8) zo zo _) (zR ?_);refine m8 (G6 (v8 d.mv.fr) h5 zd (by rw [b0H];decide)) ?_
     rintro r w6 ⟨rfl,h6⟩;refine ⟨_,rfl,zR ?_⟩;refine m8 (G6 [120] h6 (by simp [v8]) zd) ?_
     rintro r w7 ⟨rfl,h7⟩;refine ⟨_,rfl,zR ?_⟩;exact ⟨(),trivial,h7⟩
    ·refine zR ?_;refine E.o9 hk (zR ?_);repeat (refine E.o9 hk ?_;refine zR ?_)
     refine m8 (G6 [120] h5 zo zd) ?_;rintro r w7 ⟨rfl,h7⟩;refine ⟨_,rfl,zR ?_⟩;exact ⟨(),trivial,by rw [zJ hk];exact h7⟩
  ·rw [hb2] at tg2;refine zR ?_;refine g7 tg2 (zR ?_);refine g7 (ety _) ?_;by_cases hk:KD=6
   ·subst hk;have e:a2t 6++S1=[]:=by rw [hs6 rfl];rfl
    rw [e] at h5 ⊢;refine zR ?_;refine g7 (c3g h5) (zR ?_);refine a4U hM5 (zR ?_);refine g7 (a1C d.mv.fr f0 f1 _) (zR ?_);refine g7 (b4I (d.mv.fr%8) zo zo _) (zR ?_);refine m8 (G6 (v8 d.mv.fr) h5 zd (by rw [b0H];decide)) ?_
    rintro r w6 ⟨rfl,h6⟩;refine ⟨_,rfl,zR ?_⟩;refine m8 (G6 [120] h6 (by simp [v8]) zd) ?_
    rintro r w7 ⟨rfl,h7⟩;refine ⟨_,rfl,zR ?_⟩;exact ⟨(),trivial,h7⟩
   ·refine zR ?_;refine E.o9 hk (zR ?_);repeat (refine E.o9 hk ?_;refine zR ?_)
    refine m8 (G6 [120] h5 zo zd) ?_;rintro r w7 ⟨rfl,h7⟩;refine ⟨_,rfl,zR ?_⟩;exact ⟨(),trivial,by rw [zJ hk];exact h7⟩
 have cw6:=cw1.trans h6.cl;have hM6:=cw6.blk hM;have hl6:((a2t KD++S1)++(if d.tags.testBit 2||d.tags.testBit 3 then (if KD=6 then v8 d.mv.fr else [])++[120] else [])).length≤5:=by
  rw [zF];have:(if d.tags.testBit 2||d.tags.testBit 3 then (if KD=6 then v8 d.mv.fr else [])++[120] else []).length≤2:=by (repeat' split)<;>simp [v8]
  omega
 generalize (a2t KD++S1)++(if d.tags.testBit 2||d.tags.testBit 3 then (if KD=6 then v8 d.mv.fr else [])++[120] else [])=L at *
 refine zR ?_;refine a6Q hM6 (zR ?_);refine g7 (a6n d.mv.to t0 t1 _) (zR ?_);refine m8 (G6 (v8 d.mv.to++B6 d.mv.to) h6 zo (by simp [v8,B6])) ?_
 rintro r w7 ⟨rfl,h7⟩;rw [← htoT] at h7;refine ⟨_,rfl,?_⟩;have hl7:(L++sqT d.mv.to).length≤7:=by rw [zF,htoT];simp [v8,B6];omega
 have hM7:=(cw1.trans h7.cl).blk hM;refine zG ?_;refine B0 (σ:=Unit) [] 12 (fun _=>[]) (fun _ w'=>Bld w1 w1.heap.size (L++sqT d.mv.to++(if d.mv.promo=0 then [] else [61]++a2t d.mv.promo)) w') zk ?_ (fun _ j w8 h8=>?_)
 ·refine zR ?_;refine a44 hM7 (zR ?_);apply E.y8<;>intro h
  ·refine zR ?_;refine m8 (G6 [61] h7 zo zd) ?_;rintro r w8 ⟨rfl,h8⟩;refine ⟨_,rfl,?_⟩;have hM8:=(cw1.trans h8.cl).blk hM;refine zR ?_;refine a44 hM8 (zR ?_);refine g7 (ep _) (zR ?_);refine m8 (G6 (a2t d.mv.promo) h8 (by rw [zF,List.length_singleton];omega) zo) ?_
   rintro r w9 ⟨rfl,h9⟩;refine ⟨_,rfl,zR ?_⟩;exact ⟨(),trivial,by rw [zJ h,← yJ];exact h9⟩
  ·refine zR ?_;exact ⟨(),trivial,by rw [zM h,zn];exact h7⟩
 have cw8:=cw1.trans h8.cl;have hl8:(L++sqT d.mv.to++(if d.mv.promo=0 then [] else [61]++a2t d.mv.promo)).length≤9:=by
  rw [zF];have:(if d.mv.promo=0 then [] else [61]++a2t d.mv.promo).length≤2:=by split<;>simp;omega
  omega
 refine zR ?_;refine o7 (hchk _ (hT.cl cw8) (hP.step cw8) (cw8.blk hM)) fun w9 c9=>zR ?_;refine m8 (G6 SG (h8.step c9) zo zo) ?_;rintro r w10 ⟨rfl,h10⟩;refine ⟨_,rfl,zR ?_⟩;refine m8 (a2m h10) ?_;rintro r w11 ⟨rfl,c11⟩;refine ⟨_,rfl,zR ?_⟩;exact ⟨rfl,cw1.trans c11⟩
theorem a7B {w:World} {b:Nat} {p v:Value} (hp:p = .pointer none∨p = .pointer (some ⟨b,0,none⟩)) (hk:w.heap[b]?=some (.cells #[p,v] 160 (0,0))) :
  Calls G.P 183 #[.pointer (some ⟨b,0,none⟩)] w (fun r w'=>r = .returned (.tuple #[])∧Upd w b (.cells #[.pointer (some ⟨b,0,none⟩),v] 160 (0,0)) w'):=by
 rcases hp with rfl|rfl
 ·refine (Any.Builder_copyCheck_fresh Tryz.lays240 Tryz.Builder_Extra_240.toX72 b w (by rw [D2 hk];rfl) (by simp [World.shape?,hk];rfl) (by simp [World.frozen?,hk])).mono ?_
  rintro r w' ⟨h1,h2⟩;refine ⟨h1,?_⟩;rw [h2];exact a6D [.pointer (some ⟨b,0,none⟩)] w b 0 _ _ _ hk
 ·refine (Any.Builder_copyCheck_used Tryz.lays240 Tryz.Builder_Extra_240.toX72 b w (by rw [D2 hk];rfl)).mono ?_
  rintro r w' ⟨h1,h2⟩;subst h2;exact ⟨h1,rfl,rfl,rfl,rfl,hk,fun _ _=>rfl⟩
theorem a9u {b0:Nat} {w:World} {v:Value} {l:Tx}:Row 5 1 a01 b0 w v l↔w.ownsRow b0 5 1 v (Lib.byteCells l).length (Lib.byteCells l):=by
 unfold Row;rw [b95,Lib.byteCells_length]
theorem Row.updT {α:Type} {enc:α→List Value} {e z b0 b T:Nat} {w w':World} {v:Value} {l:List α} {o:Obj} {cs:Array Value} {fz:Nat×Nat} (h:Row e z enc b0 w v l) (u:Upd w b o w') (hb:w.heap[b]?=some (.cells cs T fz)) (hT:T≠e):Row e z enc b0 w' v l:=by
 refine ⟨h.1,?_⟩;rcases h.2 with h2|⟨g,cap,cur,h1,h2,h3,h4⟩
 ·exact .inl h2
 ·refine .inr ⟨g,cap,cur,h1,h2,(Tn.upd u).blk h3 (fun e=>?_),h4⟩;subst e;rw [hb] at h3;injection h3 with h3;injection h3 with _ h3 _;exact hT h3
theorem b1J {w0 w:World} {b b1:Nat} {l s:Tx} {vs:Value} (h:Bld w0 b l w) (hr:Row 5 1 a01 b1 w vs s) (hl:l.length+s.length≤100000) :
  Calls G.P 160 #[.pointer (some ⟨b,0,none⟩),vs] w (fun r w'=>r = .returned (.tuple #[.int .i64 s.length,.nilIface])∧Bld w0 b (l++s) w'):=by
 obtain ⟨p,hp,hB,v,hk,hown,hne⟩:∃ p,(p = .pointer none∨p = .pointer (some ⟨b,0,none⟩))∧Lib.BuilderAt 160 5 w0.heap.size b p (Lib.byteCells l) w:=by
  rcases h.is with h|h
  ·exact ⟨_,.inl rfl,h⟩
  ·exact ⟨_,.inr rfl,h⟩
 obtain ⟨a,c,rfl,ha⟩:=hr.form;refine zN func160 ?_;refine zR ?_;refine m8 (a7B hp hk) ?_;rintro r w1 ⟨rfl,u1⟩;refine ⟨_,rfl,?_⟩;have hv0:Row 5 1 a01 w0.heap.size w v l:=a9u.2 hown;have hv:Row 5 1 a01 w0.heap.size w1 v l:=hv0.updT u1 hk zd;have hs:Row 5 1 a01 b1 w1 (.slice a s.length c) s:=hr.updT u1 hk zd;obtain ⟨av,cv,rfl,hav⟩:=hv.form;refine zR ?_;refine b7 _ (D9 u1.at_ rfl rfl) (zR ?_);refine I5 T8 (l:=l) (news:=s) rfl hv rfl hs R7 a4a hl zd (by rw [u1.size];exact h.cl.size) fun v' w2 hr2 hg=>?_
 obtain ⟨a9,c9,rfl,_⟩:=hr2.form;have hk2:w2.heap[b]?=some (.cells #[.pointer (some ⟨b,0,none⟩),.slice av l.length cv] 160 (0,0)):=hg.keep b _ u1.at_ hne;refine zR ?_;refine zT hk2 [.slice a9 (l++s).length c9] fun w3 u3=>?_;refine zR ?_;have hbl:b<w1.heap.size:=(yn.1 u1.at_).1;have c1:Cl w0 w1:=(Tn.upd u1).toCl h.cl hB;have c2:Cl w0 w2:=hg.cl w0 rfl c1;exact ⟨rfl,.inr ⟨hB,_,u3.at_,by have:=a9u.1 (hr2.updT u3 hk2 zd);rwa [Lib.byteCells_length] at this ⊢,hg.ne hbl hne⟩,(Tn.upd u3).toCl c2 hB⟩
theorem b0J (k:Int):(a16 k).length≤1:=by unfold a16;(repeat' split)<;>simp
theorem b3g {P M t:Nat} {d:Nd} {fz:Nat×Nat} (f0:0≤d.mv.fr) (f1:d.mv.fr≤63) (t0:0≤d.mv.to) (t1:d.mv.to≤63) (hp:0≤d.mv.promo∧d.mv.promo≤6) (w:World) (hM:w.heap[M]?=some (.cells (F7 d) t fz)) (x:Value) (hx:x = .pointer (some ⟨P,0,none⟩)) :
  Calls G.P 106 #[.agg #[],x,.pointer (some ⟨M,0,none⟩)] w (N0 (m7 (b1R d.mv)) w):=by
 subst hx;have htoT:sqT d.mv.to=v8 d.mv.to++B6 d.mv.to:=by unfold sqT;rw [zJ zo]
 have hfrT:sqT d.mv.fr=v8 d.mv.fr++B6 d.mv.fr:=by unfold sqT;rw [zJ zo]
 have hu:b1R d.mv=sqT d.mv.fr++sqT d.mv.to++(if d.mv.promo=0 then [] else a16 d.mv.promo):=by
  unfold b1R;by_cases e:d.mv.promo=0
  ·rw [zM e,zJ zo]
  ·rw [zJ e,zM zo]
 rw [hu];clear hu;have sl:=b0J d.mv.promo;refine zN func106 ?_;refine zR ?_;have cb:=Cl.alloc w (.cells #[] 151);generalize w.alloc (.cells #[] 151)=w1 at *;refine s7 _ b42 ?_;have cA:=Cl.alloc w1 (.cells (Value.agg #[.pointer none,.slice none 0 0]).cells 160);have nA:=d8 w1 (.cells (Value.agg #[.pointer none,.slice none 0 0]).cells 160);generalize w1.alloc (.cells (Value.agg #[.pointer none,.slice none 0 0]).cells 160)=w2 at *;refine zR ?_;refine m8 (b1F nA) ?_;rintro r w3 ⟨rfl,u3⟩;refine ⟨_,rfl,zR ?_⟩;refine m8 (b41 (w0:=w1) 5 zd ((Tn.upd u3).toCl cA (yO _)) (yO _) u3.at_) ?_;rintro r w4 ⟨rfl,h4⟩;refine ⟨_,rfl,zR ?_⟩;refine g7 (c1Y ((cb.trans h4.cl).blk hM)) (zR ?_);refine m8 (b0I d.mv.fr f0 f1 _) ?_;rintro r w5 ⟨v5,rfl,hr5,c5⟩;obtain ⟨a5,k5,rfl,_⟩:=hr5.form;refine ⟨_,rfl,zR ?_⟩;refine m8 (b1J (h4.step c5) hr5 (by simp [v8,B6])) ?_
 rintro r w6 ⟨rfl,h6⟩;refine ⟨_,rfl,?_⟩;rw [yP,← hfrT] at h6;refine zR ?_;refine g7 (c5L ((cb.trans h6.cl).blk hM)) (zR ?_);refine m8 (b0I d.mv.to t0 t1 _) ?_;rintro r w7 ⟨v7,rfl,hr7,c7⟩;obtain ⟨a7,k7,rfl,_⟩:=hr7.form;refine ⟨_,rfl,zR ?_⟩;refine m8 (b1J (h6.step c7) hr7 (by rw [hfrT];simp [v8,B6])) ?_
 rintro r w8 ⟨rfl,h8⟩;refine ⟨_,rfl,?_⟩;rw [← htoT] at h8;have hM8:=(cb.trans h8.cl).blk hM;refine zR ?_;refine g7 (b1H hM8) (zR ?_);apply E.y8<;>intro h
 ·refine zR ?_;refine g7 (b1H hM8) (zR ?_);refine m8 (b7v d.mv.promo hp.1 hp.2 _) ?_;rintro r w9 ⟨v9,rfl,hr9,c9⟩;obtain ⟨a9,k9,rfl,_⟩:=hr9.form;refine ⟨_,rfl,zR ?_⟩;refine m8 (b1J (h8.step c9) hr9 (by rw [hfrT,htoT];simp [v8,B6];omega)) ?_
  rintro r w10 ⟨rfl,h10⟩;refine ⟨_,rfl,zR ?_⟩;refine m8 (a2m h10) ?_;rintro r w11 ⟨rfl,c11⟩;refine ⟨_,rfl,zR ?_⟩;exact ⟨by rw [zJ h];rfl,cb.trans c11⟩
 ·refine zR ?_;refine m8 (a2m h8) ?_;rintro r w11 ⟨rfl,c11⟩;refine ⟨_,rfl,zR ?_⟩;exact ⟨by rw [zM h,zn];rfl,cb.trans c11⟩
set_option maxHeartbeats 2000000 in
theorem b3h {p:g9} (hI:B7 p) (hN:Y6 p) (hle:(A5 p).length≤218) {d:Nd} {P b M:Nat} {cv:Value} (hm:d.mv∈p9 p) {ck:Bool} (hck:a1i (made p d.mv)=true→ck=true) (htg:(d.tags:Int)=K5 p d.mv+(if ck then 16 else 0)) (w:World) (hT:C6 w) (hP:G8 w P b p cv)
  (hM:w.heap[M]?=some (.cells (F7 d) 141 (0,0))) :
  Calls G.P 105 #[.agg #[],.pointer (some ⟨P,0,none⟩),.pointer (some ⟨M,0,none⟩)] w (N0 (m7 (c1T p d.mv d.tags)) w):=by
 obtain ⟨_,_,h64⟩:=a1h htg;obtain ⟨f0,f1,t0,t1,hpm⟩:=A3 hI hm;obtain ⟨fr,hfr⟩:=ze f0;have hf64:fr<64:=by omega
 have pc:=fun w hT hB=>a0a (a1s p) b (t:=237) (fz:=(0,0)) fr hf64 w hT hB;rw [U9 hI.pc hf64,← hfr] at pc;have hpr:=hI.pc d.mv.fr;have ety:=fun w=>a1f (sq p d.mv.fr) hpr.1 hpr.2 w;have hchk:=fun (w:World) hT hP hM=>a4c hI hN (P:=P) (b:=b) (M:=M) (cv:=cv) (d:=d) hm hck htg w hT hP hM;have hfrT:sqT d.mv.fr=v8 d.mv.fr++B6 d.mv.fr:=by unfold sqT;rw [zJ zo]
 have htoT:sqT d.mv.to=v8 d.mv.to++B6 d.mv.to:=by unfold sqT;rw [zJ zo]
 have hk0:0≤a0B (sq p d.mv.fr)∧a0B (sq p d.mv.fr)≤6:=by unfold a0B;split<;>omega
 have hsan:c1T p d.mv d.tags=if d.tags.testBit 0 then [79,45,79]++a9Q p d.mv d.tags else if d.tags.testBit 1 then [79,45,79,45,79]++a9Q p d.mv d.tags
  else a2t (a0B (sq p d.mv.fr))++sqT d.mv.fr++(if d.tags.testBit 2||d.tags.testBit 3 then [120] else [])++sqT d.mv.to++(if d.mv.promo=0 then [] else [61]++a2t d.mv.promo)++a9Q p d.mv d.tags:=rfl
 rw [hsan];clear hsan;have gl:=a7a p d.mv d.tags;have ll:(a2t (a0B (sq p d.mv.fr))).length≤1:=L7 _;have pl:(a2t d.mv.promo).length≤1:=L7 _;have el:=fun w=>a6o (a0B (sq p d.mv.fr)) hk0.1 hk0.2 w;have ep:=fun w=>a9t d.mv.promo zo w;generalize a9Q p d.mv d.tags=SG at *;generalize a0B (sq p d.mv.fr)=KD at *;refine zN func105 ?_;refine zR ?_;have cb:=Cl.alloc w (.cells #[] 150);generalize w.alloc (.cells #[] 150)=wb at *;refine o7 (hchk wb (hT.cl cb) (hP.step cb) (cb.blk hM)) fun w1 c1=>?_;have cw1:=cb.trans c1;have hM1:=cw1.blk hM;refine zR ?_;refine g7 (a07 hM1 h64 0 zd _ rfl) ?_;cases hb0:d.tags.testBit 0;rotate_left
 ·refine zR ?_;refine E.A1 (y9 (x:=[79,45,79]) (y:=SG) (by simp;omega)) (zR ?_)
  exact ⟨B9 (A6 [79,45,79] SG),cw1⟩
 refine zR ?_;refine g7 (a07 hM1 h64 1 zd _ rfl) ?_;cases hb1:d.tags.testBit 1;rotate_left
 ·refine zR ?_;refine E.A1 (y9 (x:=[79,45,79,45,79]) (y:=SG) (by simp;omega)) (zR ?_)
  exact ⟨B9 (A6 [79,45,79,45,79] SG),cw1⟩
 refine zR ?_;refine g7 (b1I (hP.step cw1).hd) (zR ?_);refine g7 (c1Y hM1) (zR ?_);refine g7 (pc _ (hT.cl cw1) (hP.step cw1).bd) (zR ?_);refine g7 (ety _) (zR ?_);refine g7 (el _) (zR ?_);refine a4U hM1 (zR ?_);refine g7 (a6n d.mv.fr f0 f1 _) ?_;rw [← hfrT];refine zG ?_;refine Nx.mk (zG ?_);refine B0 (σ:=Unit) [11] 13 (fun _=>[(11,m7 (if d.tags.testBit 2||d.tags.testBit 3 then [120] else []))]) (fun _ w'=>w'=w1) zk ?_ (fun _ j w2 e2=>?_)
 ·have tg2:=a07 hM1 h64 2 zd 4 rfl;have tg3:=a07 hM1 h64 3 zd 8 rfl;have hne:¬ (tx (sqT d.mv.fr)=⟨#[]⟩):=by
   intro e;rw [a06,Q0,hfrT] at e;cases e
  cases hb2:d.tags.testBit 2
  ·rw [hb2] at tg2;refine zR ?_;refine g7 tg2 (zR ?_);cases hb3':d.tags.testBit 3
   ·rw [hb3'] at tg3;refine g7 tg3 (zR ?_);exact ⟨(),⟨rfl,trivial⟩,rfl⟩
   ·rw [hb3'] at tg3;refine g7 tg3 (zR ?_);refine g7 (ety _) (zR ?_);apply E.d7<;>intro h
    ·have hk:=h;refine zR ?_;refine E.o9 hne (zR ?_);exact ⟨(),⟨rfl,trivial⟩,rfl⟩
    ·refine zR ?_;repeat (refine E.o9 h ?_;refine zR ?_)
     exact ⟨(),⟨rfl,trivial⟩,rfl⟩
  ·rw [hb2] at tg2;refine zR ?_;refine g7 tg2 (zR ?_);refine g7 (ety _) (zR ?_);apply E.d7<;>intro h
   ·have hk:=h;refine zR ?_;refine E.o9 hne (zR ?_);exact ⟨(),⟨rfl,trivial⟩,rfl⟩
   ·refine zR ?_;repeat (refine E.o9 h ?_;refine zR ?_)
    exact ⟨(),⟨rfl,trivial⟩,rfl⟩
 subst e2;have xl:(if d.tags.testBit 2||d.tags.testBit 3 then ([120]:Tx) else []).length≤1:=by split<;>simp
 generalize (if d.tags.testBit 2||d.tags.testBit 3 then ([120]:Tx) else [])=XC at *
 refine zR ?_;refine a44 hM1 (zR ?_);refine g7 (ep _) ?_;have prl:(if d.mv.promo=0 then [] else [61]++a2t d.mv.promo).length≤2:=by split<;>simp;omega
 generalize (if d.mv.promo=0 then [] else [61]++a2t d.mv.promo)=PR at *
 have q1:(sqT d.mv.fr).length=2:=by rw [hfrT];rfl
 have q2:(sqT d.mv.to).length=2:=by rw [htoT];rfl
 refine zR ?_;refine E.A1 (y9 (x:=a2t KD) (y:=sqT d.mv.fr) zo) ?_;rw [A6];refine zR ?_;refine E.A1 (y9 (x:=a2t KD++sqT d.mv.fr) (y:=XC) (by rw [zF];omega)) ?_
 rw [A6];refine zR ?_;refine a6Q hM1 (zR ?_);refine g7 (a6n d.mv.to t0 t1 _) ?_;rw [← htoT];refine zR ?_;refine E.A1 (y9 (x:=a2t KD++sqT d.mv.fr++XC) (y:=sqT d.mv.to) (by simp only [zF];omega)) ?_
 rw [A6];refine zR ?_;refine E.A1 (y9 (x:=a2t KD++sqT d.mv.fr++XC++sqT d.mv.to) (y:=PR) (by simp only [zF];omega)) ?_
 rw [A6];refine zR ?_;refine E.A1 (y9 (x:=a2t KD++sqT d.mv.fr++XC++sqT d.mv.to++PR) (y:=SG) (by simp only [zF];omega)) ?_
 rw [A6];refine zR ?_;exact ⟨rfl,cw1⟩
theorem b1K (f r:Nat) (f1:f<8) (r1:r<8) (w:World):Calls G.P 167 #[.int .i8 f,.int .i8 r] w (E8 (.int .i8 ((8*r+f:Nat):Int)) w):=by
 have:=a7y f r zo zo zo zo w;rw [show ((8*r+f:Nat):Int)=8*(r:Int)+f by push_cast;rfl];exact this
theorem b0K {t e z by_:Nat} (E1:H0 t e z by_) {l c:Operand} {k k':IntKind} (n:Nat) {dst:Option Nat} {ty:Nat} {pos:String} {af:Array Edge} {gd:Option (Nat×Bool)} {env:C9} {w:World} {K:Value→World→Prop}
  (hl:ev env l = .int k 0) (hc:ev env c = .int k' n) (hn:n≤100000) (hb:by_≤1000)
  (hk:∀ cs:Array Value,cs.size=n*z→K (.slice (some ⟨w.heap.size,0,none⟩) 0 n) (w.alloc (.cells cs e))):L6 G.P { dst,op:=.makeSlice t l c,type:=ty,pos,after:=af,guard:=gd } env w K:=by
 obtain ⟨i,zv,hi,hzv,hsz,hby,hzs⟩:=E1.info;have hle:n*by_≤100000*1000:=Nat.mul_le_mul hn hb;have hbb:(i.bytes:Int)*(n:Int)≤281474976710656:=by
  rw [hby];have e:(by_:Int)*(n:Int)=((n*by_:Nat):Int):=by push_cast;exact Int.mul_comm _ _
  rw [e];omega
 have:=run_make (P:=G.P) w t e i zv E1.ty hi hzv k k' 0 n zo zo hbb zo;simp only [zg] at this;refine ⟨.inl ⟨_,_,?_,hk (madeCells zv.cells (n*i.size)) (by rw [size_madeCells,hsz])⟩⟩
 show (do pure (Next.value (← Instr.makeSlice t (ev env l) (ev env c))):Sem Next).run G.P w=_
 rw [hl,hc,yq,this];rfl
theorem Row.zero {α:Type} {enc:α→List Value} {e z b0 g n:Nat} {w:World} {cs:Array Value} (hb:b0≤g) (h:w.heap[g]?=some (.cells cs e (0,0))) (hs:cs.size=n*z) (hn:n≤100000):Row e z enc b0 w (.slice (some ⟨g,0,none⟩) 0 n) ([]:List α) :=
 ⟨by simp,.inr ⟨g,n,cs,rfl,hb,h,xJ _,by unfold maxLen;omega,hs,by simp⟩⟩
theorem b3i {e:Nat} (h0:0<e) (h8:e≤8):a0g e=[UInt8.ofNat (48+e)]:=by
 rcases (by omega:e=1∨e=2∨e=3∨e=4∨e=5∨e=6∨e=7∨e=8) with rfl|rfl|rfl|rfl|rfl|rfl|rfl|rfl<;>(unfold a0g dec;rfl)
theorem c2a {x:Int} (h0:1≤x) (h1:x≤12):∃ c,pcT x=[c]:=by
 rcases (by omega:x=1∨x=2∨x=3∨x=4∨x=5∨x=6∨x=7∨x=8∨x=9∨x=10∨x=11∨x=12) with rfl|rfl|rfl|rfl|rfl|rfl|rfl|rfl|rfl|rfl|rfl|rfl<;>exact ⟨_,rfl⟩
theorem c2b {w:World} (c:UInt8):Row 5 1 a01 w.heap.size (w.alloc (.cells (([Value.int .u8 (c.toNat:Int)]:List Value).flatMap fun v=>v.cells.toList).toArray 5)) (.slice (some ⟨w.heap.size,0,none⟩) 1 1) [c] :=
 C7 R7 w [c] (zU rfl) [.int .u8 (c.toNat:Int)] rfl
theorem c3s {e:Nat} (h:e≤8):IntKind.u8.wrap (IntKind.i64.wrap (48+(e:Int)))=((UInt8.ofNat (48+e)).toNat:Int):=by
 rcases (by omega:e=0∨e=1∨e=2∨e=3∨e=4∨e=5∨e=6∨e=7∨e=8) with rfl|rfl|rfl|rfl|rfl|rfl|rfl|rfl|rfl<;>decide
set_option maxHeartbeats 1000000 in
theorem a1p {p:g9} (hp:∀ i:Int,0≤sq p i∧sq p i≤12) {b t:Nat} {fz:Nat×Nat} (w:World) (hT:C6 w) (hB:w.heap[b]?=some (.cells (J4 (a1s p)) t fz)) :
  Calls G.P 164 #[.pointer (some ⟨b,0,none⟩)] w (N0 (m7 (a2U p 8)) w):=by
 refine zN func164 ?_;refine zR ?_;refine b0K T8 71 rfl rfl zd zd fun cs hcs=>?_;have ca:=Cl.alloc w (.cells cs 5);have hr0:Row 5 1 a01 w.heap.size (w.alloc (.cells cs 5)) (.slice (some ⟨w.heap.size,0,none⟩) 0 71) ([]:Tx):=Row.zero (yO _) (d8 _ _) hcs zd;generalize w.alloc (.cells cs 5)=w1 at *;have hbl:=a0z p 8;refine zR ?_;refine C1 (σ:=Int×Tx×Value) [3,4,5,6,7,8] 9 (fun s=>[(3,s.2.2),(4,.int .i64 0),(5,.int .i64 s.1)]) (fun s w'=>(-1≤s.1∧s.1≤7)∧s.2.1++(if 0≤s.1∧s.1<7 then [47] else [])++a2U p (s.1+1).toNat=a2U p 8∧Cl w w'∧Row 5 1 a01 w.heap.size w' s.2.2 s.2.1) (fun s=>(s.1+1).toNat) zk
  (7,[],_) ⟨⟨by show (-1:Int)≤7;decide,by show (7:Int)≤7;decide⟩,rfl,ca,hr0⟩ ⟨rfl,rfl,rfl,trivial⟩ ?_
 rintro ⟨r,l,v⟩ j w2 ⟨⟨hr1,hr7⟩,hl,c2,hrw⟩;simp only at hr1 hr7 hl c2 hrw ⊢;obtain ⟨a,k,rfl,_⟩:=hrw.form;have hlen:=yM List.length hl;simp only [zF] at hlen;refine zR ?_;apply E.d7<;>intro h
 ·obtain ⟨S,rfl⟩:=ze (show 0≤r by omega)
  have hS:S<8:=by omega
  clear h;have e1:((S:Int)+1).toNat=S+1:=by omega
  rw [e1] at hl hlen;have hll:l.length≤288:=by omega
  refine zG ?_;refine Nx.mk ?_;refine a89 ?_;refine a8A ?_;refine Nx.go ?_;refine B0 (σ:=Value) [3] 9 (fun v=>[(3,v)]) (fun v w'=>Cl w w'∧Row 5 1 a01 w.heap.size w' v (l++(if S<7 then [47] else []))) zk ?_ (fun v j w3 h3=>?_)
  ·refine zR ?_;apply E.d7<;>intro h
   ·refine zR ?_;refine zL T8 [.int .u8 47] ?_;refine zR ?_;have cb:=Cl.alloc w2 (.cells (([Value.int .u8 47]:List Value).flatMap fun v=>v.cells.toList).toArray 5);refine I5 T8 (l:=l) (news:=[47]) rfl (hrw.step cb) rfl (c2b 47) R7 a4a (by simp;omega) zd (c2.trans cb).size fun v' w' hr' hg=>?_
    obtain ⟨a9,c9,rfl,_⟩:=hr'.form;refine zR ?_;exact ⟨_,⟨rfl,trivial⟩,hg.toCl rfl (c2.trans cb),by rw [zM zo];exact hr'⟩
   ·refine zR ?_;exact ⟨_,⟨rfl,trivial⟩,c2,by rw [zJ zo,zn];exact hrw⟩
  obtain ⟨c3,hr3⟩:=h3;have hl3:(l++(if S<7 then [47] else []))++a2U p (S+1)=a2U p 8:=by
   rw [← hl];congr 2;by_cases h:S<7
   ·rw [zM h,zM zo]
   ·rw [zJ h,zJ zo]
  have hlen3:=yM List.length hl3;rw [zF] at hlen3;generalize l++(if S<7 then ([47]:Tx) else [])=l3 at *
  clear hl hlen hrw c2;have hrow:a2U p (S+1)=a0T (fun f=>sq p (8*(S:Int)+f)) 8 0 0++(if S=0 then [] else [47])++a2U p S:=rfl
  obtain ⟨av,kv,rfl,_⟩:=hr3.form;refine zR ?_;refine C1 (σ:=Nat×Nat×Tx×Value) [3,4,6,7,8,19] 20 (fun s=>[(3,s.2.2.2),(4,.int .i64 s.2.1),(19,.int .i64 s.1)]) (fun s w'=>s.1≤8∧s.2.1≤s.1∧s.2.2.1++a0T (fun f=>sq p (8*(S:Int)+f)) (8-s.1) s.1 s.2.1++(if S=0 then [] else [47])++a2U p S=a2U p 8∧Cl w w'∧Row 5 1 a01 w.heap.size w' s.2.2.2 s.2.2.1) (fun s=>8-s.1) zk
   (0,0,l3,_) ⟨by show 0≤8;decide,yO _,by rw [← hl3,hrow];simp only [yJ],c3,hr3⟩ ⟨rfl,rfl,rfl,trivial⟩ ?_
  clear hr3 c3;rintro ⟨f,e,o,v⟩ j4 w4 ⟨hf,he,ho,c4,hr4⟩;simp only at hf he ho c4 hr4 ⊢;obtain ⟨a4,k4,rfl,_⟩:=hr4.form;have hol:=yM List.length ho;simp only [zF] at hol;refine zR ?_;apply E.d7<;>intro h
  ·have hf2:f<8:=by omega
   clear h;have nf:=C4 (i:=f) zo;have ef:IntKind.i8.wrap (f:Int)=f:=a0d zo zo;have eS:IntKind.i8.wrap (S:Int)=S:=a0d zo zo;refine zR ?_;rw [ef,eS];refine g7 (b1K f S hf2 hS _) (zR ?_);have hX:=hp ((8*S+f:Nat):Int);have pc:=a0a (a1s p) b (t:=t) (fz:=fz) (8*S+f) zo w4 (hT.cl c4) (c4.blk hB);rw [U9 hp zo] at pc;refine g7 pc ?_;have hg:sq p (8*(S:Int)+(f:Nat))=sq p ((8*S+f:Nat):Int):=by congr 1
   have hrs:a0T (fun f=>sq p (8*(S:Int)+f)) (8-f) f e=if sq p ((8*S+f:Nat):Int)<1∨sq p ((8*S+f:Nat):Int)>12 then a0T (fun f=>sq p (8*(S:Int)+f)) (8-(f+1)) (f+1) (e+1) else a0g e++pcT (sq p ((8*S+f:Nat):Int))++a0T (fun f=>sq p (8*(S:Int)+f)) (8-(f+1)) (f+1) 0:=by
    rw [show 8-f=(8-(f+1))+1 by omega,← hg];rfl
   have fc:=fun c hc w hT=>b7w (sq p ((8*S+f:Nat):Int)) (c:=c) (hc:=hc) (w:=w) (hT:=hT);generalize sq p ((8*S+f:Nat):Int)=X at *;refine zR ?_;apply E.d7<;>intro h
   ·have ne:=C4 (i:=e) zo;rw [hrs,zM (.inl zo)] at ho;refine zR ?_;exact ⟨(f+1,e+1,o,_),⟨rfl,d9 ne,d9 nf,trivial⟩,⟨by show f+1≤8;omega,by show e+1≤f+1;omega,ho,c4,hr4⟩,by show 8-(f+1)<8-f;omega⟩
   rw [hrs,zJ zo] at ho;obtain ⟨ch,hch⟩:=c2a (x:=X) zo zo;have fcc:=fun w hT=>fc ch hch w hT zo zo;rw [hch] at ho;refine zG ?_;refine B0 (σ:=Value) [3,4] 20 (fun v=>[(3,v),(4,.int .i64 0)]) (fun v w'=>Cl w w'∧Row 5 1 a01 w.heap.size w' v (o++a0g e)) zk ?_ (fun v j w5 h5=>?_)
   ·refine zR ?_;apply E.d7<;>intro h
    ·rw [b3i (show 0<e by omega) zo]
     refine zR ?_;rw [c3s zo];refine zL T8 [.int .u8 ((UInt8.ofNat (48+e)).toNat:Int)] ?_;refine zR ?_;have cb:=Cl.alloc w4 (.cells (([Value.int .u8 ((UInt8.ofNat (48+e)).toNat:Int)]:List Value).flatMap fun v=>v.cells.toList).toArray 5);refine I5 T8 (l:=o) (news:=[UInt8.ofNat (48+e)]) rfl (hr4.step cb) rfl (c2b (UInt8.ofNat (48+e))) R7 a4a (by simp;omega) zd (c4.trans cb).size fun v' w' hr' hg=>?_
     obtain ⟨a9,c9,rfl,_⟩:=hr'.form;refine zR ?_;exact ⟨_,⟨rfl,rfl,trivial⟩,hg.toCl rfl (c4.trans cb),hr'⟩
    ·have e0:e=0:=by omega
     subst e0;refine zR ?_;exact ⟨_,⟨rfl,rfl,trivial⟩,c4,by rw [show a0g 0=[] from rfl,zn];exact hr4⟩
   obtain ⟨c5,hr5⟩:=h5;obtain ⟨a5,k5,rfl,_⟩:=hr5.form;have hol5:=yM List.length ho;simp only [zF,zh,za] at hol5;have hle5:(o++a0g e).length≤288:=by rw [zF];omega
   refine zR ?_;refine g7 (fcc _ (hT.cl c5)) (zR ?_);refine zL T8 [.int .u8 (ch.toNat:Int)] ?_;refine zR ?_;have cb:=Cl.alloc w5 (.cells (([Value.int .u8 (ch.toNat:Int)]:List Value).flatMap fun v=>v.cells.toList).toArray 5);refine I5 T8 (l:=o++a0g e) (news:=[ch]) rfl (hr5.step cb) rfl (c2b ch) R7 a4a (by simp only [zh,za];omega) zd (c5.trans cb).size fun v' w' hr' hg=>?_
   obtain ⟨a9,c9,rfl,_⟩:=hr'.form;refine zR ?_;exact ⟨(f+1,0,(o++a0g e)++[ch],_),⟨rfl,rfl,d9 nf,trivial⟩,⟨by show f+1≤8;omega,xJ _,by rw [← ho];simp only [yJ],hg.toCl rfl (c5.trans cb),hr'⟩,by show 8-(f+1)<8-f;omega⟩
  ·have e8:f=8:=by omega
   subst e8;have hrz:a0T (fun f=>sq p (8*(S:Int)+f)) (8-8) 8 e=a0g e:=rfl;rw [hrz] at ho;have hend:∀ v' w',Cl w w'→Row 5 1 a01 w.heap.size w' v' (o++a0g e)→∃ s':Int×Tx×Value,(s'.2.2=v'∧s'.1=(S:Int)-1)∧((-1≤s'.1∧s'.1≤7)∧s'.2.1++(if 0≤s'.1∧s'.1<7 then [47] else [])++a2U p (s'.1+1).toNat=a2U p 8∧Cl w w'∧Row 5 1 a01 w.heap.size w' s'.2.2 s'.2.1)∧(s'.1+1).toNat<S+1:=by
    intro v' w' hc hr;refine ⟨((S:Int)-1,o++a0g e,v'),⟨rfl,rfl⟩,⟨⟨by show -1≤(S:Int)-1;omega,by show (S:Int)-1≤7;omega⟩,?_,hc,hr⟩,by show ((S:Int)-1+1).toNat<S+1;omega⟩
    show o++a0g e++(if 0≤(S:Int)-1∧(S:Int)-1<7 then [47] else [])++a2U p ((S:Int)-1+1).toNat=a2U p 8
    rw [← ho,show ((S:Int)-1+1).toNat=S by omega]
    congr 2;by_cases h0:S=0
    ·rw [zM h0,zJ zo]
    ·rw [zJ h0,zM zo]
   refine zR ?_;apply E.d7<;>intro h
   ·refine zR ?_;rw [c3s zo];refine zL T8 [.int .u8 ((UInt8.ofNat (48+e)).toNat:Int)] ?_;refine zR ?_;have cb:=Cl.alloc w4 (.cells (([Value.int .u8 ((UInt8.ofNat (48+e)).toNat:Int)]:List Value).flatMap fun v=>v.cells.toList).toArray 5);refine I5 T8 (l:=o) (news:=[UInt8.ofNat (48+e)]) rfl (hr4.step cb) rfl (c2b (UInt8.ofNat (48+e))) R7 a4a (by simp;omega) zd (c4.trans cb).size fun v' w' hr' hg=>?_
    rw [← b3i (show 0<e by omega) zo] at hr'
    obtain ⟨a9,c9,rfl,_⟩:=hr'.form;refine zR ?_;obtain ⟨s',⟨q1,q2⟩,h1,h2⟩:=hend _ _ (hg.toCl rfl (c4.trans cb)) hr';exact ⟨s',⟨q1.symm,rfl,d9 (by rw [q2];exact g8 zo zo),trivial⟩,h1,zo⟩
   ·have e0:e=0:=by omega
    subst e0;obtain ⟨s',⟨q1,q2⟩,h1,h2⟩:=hend _ _ c4 (by rw [show a0g 0=[] from rfl,zn];exact hr4)
    refine zR ?_;exact ⟨s',⟨q1.symm,rfl,d9 (by rw [q2];exact g8 zo zo),trivial⟩,h1,zo⟩
 ·have e:r=-1:=by omega
  subst e;have e2:l=a2U p 8:=by rw [← hl];simp [a2U]
  refine zR ?_;refine b0D l rfl hrw (zR ?_);exact ⟨by rw [e2];rfl,c2⟩
theorem c2c (n:Nat):dec n=Lib.decDigits n:=by
 induction n using Nat.strongRecOn with
 | _ n ih =>
  unfold dec Lib.decDigits;by_cases h:n<10
  ·rw [dif_pos h,dif_pos h]
  ·rw [dif_neg h,dif_neg h,ih _ zo]
def Pow (w:World):Prop:=Lib.TabIs G.P w "internal/strconv.uint64pow10" .u64 Lib.pow10Tab
theorem Pow.cl {w w':World} (h:Pow w) (c:Cl w w'):Pow w':=by
 unfold Pow Lib.TabIs World.var? at *;cases hg:G.P.globalNamed "internal/strconv.uint64pow10" with
 | none=>rw [hg] at h;cases h
 | some g =>
  rw [hg] at h;simp only [wD] at h ⊢;cases hb:w.heap[g]? with
  | none=>rw [hb] at h;cases h
  | some o =>
   rw [c.blk hb];rw [hb] at h;exact h
theorem Cl.grow (w:World) (k:Nat) (os:Array Obj):Cl w (Sort.grow (w.drewN k) os):=by
 refine ⟨rfl,rfl,rfl,by simp [Sort.grow,World.drewN],fun i hi=>?_⟩
 simp [Sort.grow,World.drewN,Array.getElem?_append,hi]
theorem b1L (n:Nat) (hn:n<4611686018427387904) (w:World) (hw:Pow w):Calls G.P 169 #[.int .i64 n] w (N0 (m7 (dec n)) w):=by
 refine (Tryz.strconv_Itoa n zo zo w hw).mono ?_;rintro r w' ⟨h1,k,os,h2⟩;refine ⟨?_,by rw [h2];exact Cl.grow w k os⟩
 rw [h1,c2c];unfold Lib.itoa;rw [zJ zo,zg];rfl
theorem a5g (t:Int) (ht:t=0∨t=1) (w:World):Calls G.P 165 #[.int .i8 (t+1)] w (E8 (m7 (a8n t)) w):=by
 have e1:(0:Int)+1=1:=rfl;have e2:(1:Int)+1=2:=rfl;rcases ht with rfl|rfl<;>simp only [e1,e2]<;>(refine E.enter (G:=G) func165 rfl (by simp [ntmps165]) zk ?_)<;>refine a4R ?_<;>(refine zR ?_)<;>exact ⟨rfl,rfl⟩
theorem a0P (t:Tx) (w:World):Calls G.P 166 #[m7 t] w (E8 (m7 t) w):=by
 refine zN func166 ?_;refine zR ?_;exact ⟨rfl,rfl⟩
theorem b3j {p:g9} (hI:B7 p) (hN:Y6 p) {P b:Nat} {cv:Value} {c:Bool} (w:World) (hT:C6 w) (hw:Pow w)
  (hP:w.heap[P]?=some (.cells (hdA b (D0 p c) cv) 173 (0,0))) (hB:w.heap[b]?=some (.cells (J4 (a1s p)) 237 (0,0))) :
  Calls G.P 163 #[.pointer (some ⟨P,0,none⟩)] w (N0 (m7 (a7q p)) w):=by
 have hep:=N7 hI.pass;have hcl:=a1R p.castle;have htl:=a4z p.turn;have hel:=a8j p.ep;have hbl:=a0z p 8;refine zN func163 ?_;refine zR ?_;refine kHb hP (zR ?_);refine o7 (a1p hI.pc w hT hB) fun w1 c1=>?_;have hP1:=c1.blk hP;refine zR ?_;refine kHt hP1 ?_;rw [show (D0 p c).turn=p.turn+1 from rfl];refine zR ?_;refine g7 (a5g p.turn hI.turn _) (zR ?_);refine b7 _ (a3W hP1) ?_;rw [show (D0 p c).cas=a4V p.castle from rfl];refine zR ?_;refine g7 (a0P _ _) (zG ?_);refine Nx.mk (zG ?_);refine B0 (σ:=Unit) [6] 7 (fun _=>[(6,m7 (epT p.ep))]) (fun _ w'=>w'=w1) zk ?_ (fun _ j w2 e2=>?_)
 ·refine zR ?_;refine b44 hP1 ?_;rw [show (D0 p c).ep=p.ep from rfl];refine zR ?_;apply E.y8<;>intro h
  ·refine zR ?_;refine b44 hP1 ?_;rw [show (D0 p c).ep=p.ep from rfl];refine zR ?_;refine g7 (a6n p.ep zo zo _) (zR ?_);exact ⟨(),⟨by unfold epT;rw [zM zo];rfl,trivial⟩,rfl⟩
  ·refine zR ?_;exact ⟨(),⟨by unfold epT;rw [zJ zo];rfl,trivial⟩,rfl⟩
 subst e2;have h0:=hI.h0;have hf1:=hI.f1;have hhl:=a1e (n:=p.half.toNat) (by have:=hN.1;omega)
 have hfl:=a1e (n:=p.full.toNat) (by have:=hN.2;omega)
 have it1:=fun w hw=>b1L p.half.toNat (by have:=hN.1;omega) w hw
 have it2:=fun w hw=>b1L p.full.toNat (by have:=hN.2;omega) w hw
 rw [zi h0] at it1;rw [zi zo] at it2;have hfen:a7q p=a2U p 8++[32]++a8n p.turn++[32]++a4V p.castle++[32]++epT p.ep++[32]++dec p.half.toNat++[32]++dec p.full.toNat:=rfl;rw [hfen];clear hfen;generalize a2U p 8=X1 at *;generalize a8n p.turn=X2 at *;generalize a4V p.castle=X3 at *;generalize epT p.ep=X4 at *;generalize dec p.half.toNat=X5 at *;generalize dec p.full.toNat=X6 at *;refine zR ?_;refine zK 25 ?_;refine zR ?_;refine E.A1 (y9 (x:=X1) (y:=[32]) (by simp only [zF,zh,za];omega)) ?_
 rw [a00];refine zR ?_;refine E.A1 (y9 (x:=X1++[32]) (y:=X2) (by simp only [zF,zh,za];omega)) ?_
 rw [A6];refine zR ?_;refine E.A1 (y9 (x:=X1++[32]++X2) (y:=[32]) (by simp only [zF,zh,za];omega)) ?_
 rw [a00];refine zR ?_;refine E.A1 (y9 (x:=X1++[32]++X2++[32]) (y:=X3) (by simp only [zF,zh,za];omega)) ?_
 rw [A6];refine zR ?_;refine E.A1 (y9 (x:=X1++[32]++X2++[32]++X3) (y:=[32]) (by simp only [zF,zh,za];omega)) ?_
 rw [a00];refine zR ?_;refine E.A1 (y9 (x:=X1++[32]++X2++[32]++X3++[32]) (y:=X4) (by simp only [zF,zh,za];omega)) ?_
 rw [A6];refine zR ?_;refine E.A1 (y9 (x:=X1++[32]++X2++[32]++X3++[32]++X4) (y:=[32]) (by simp only [zF,zh,za];omega)) ?_
 rw [a00];refine zR ?_;refine l9 _ (fun w hw=>a27 (hw.blk hP1)) ?_;rw [show (D0 p c).half=p.half from rfl];refine zR ?_;refine D6 _ (fun _ _ h=>h.trans) (fun w' h'=>it1 w' ((hw.cl c1).cl h')) (zR ?_);refine E.A1 (y9 (x:=X1++[32]++X2++[32]++X3++[32]++X4++[32]) (y:=X5) (by simp only [zF,zh,za];omega)) ?_
 rw [A6];refine zR ?_;refine E.A1 (y9 (x:=X1++[32]++X2++[32]++X3++[32]++X4++[32]++X5) (y:=[32]) (by simp only [zF,zh,za];omega)) ?_
 rw [a00];refine zR ?_;refine l9 _ (fun w hw=>a43 (hw.blk hP1)) ?_;rw [show (D0 p c).full=p.full from rfl];refine zR ?_;refine D6 _ (fun _ _ h=>h.trans) (fun w' h'=>it2 w' ((hw.cl c1).cl h')) (zR ?_);refine E.A1 (y9 (x:=X1++[32]++X2++[32]++X3++[32]++X4++[32]++X5++[32]) (y:=X6) (by simp only [zF,zh,za];omega)) ?_
 rw [A6];refine zR ?_;intro w9 c9;refine zR ?_;exact ⟨rfl,c1.trans c9⟩
theorem c4v:H0 205 199 1 1:=U5 zk
theorem c6W (w:World) (f:Nat→Value) (hf:∀ i,(f i).cells=#[f i]):Z9 (w.alloc (.cells (([f 0,f 1]:List Value).flatMap fun v=>v.cells.toList).toArray 199)) w.heap.size 2 f :=
 ⟨_,199,(0,0),d8 _ _,rfl,fun i hi=>by
  rcases (by omega:i=0∨i=1) with rfl|rfl<;>simp [hf]⟩
set_option maxHeartbeats 1000000 in
theorem b1M {p:g9} (hI:B7 p) (hN:Y6 p) {P b:Nat} {cv:Value} {c:Bool} (w:World) (hT:C6 w) (hw:Pow w)
  (hP:w.heap[P]?=some (.cells (hdA b (D0 p c) cv) 173 (0,0))) (hB:w.heap[b]?=some (.cells (J4 (a1s p)) 237 (0,0))) :
  Calls G.P 108 #[.pointer (some ⟨P,0,none⟩)] w (N0 (m7 (b16 p)) w):=by
 have hep:=N7 hI.pass;have hcl:=a1R p.castle;have htl:=a4z p.turn;have hel:=a8j p.ep;have hbl:=a0z p 8;refine zN func108 ?_;refine zR ?_;refine kHb hP (zR ?_);refine o7 (a1p hI.pc w hT hB) fun w1 c1=>?_;have hP1:=c1.blk hP;refine zR ?_;refine kHt hP1 ?_;rw [show (D0 p c).turn=p.turn+1 from rfl];refine zR ?_;refine g7 (a5g p.turn hI.turn _) (zR ?_);refine b7 _ (a3W hP1) ?_;rw [show (D0 p c).cas=a4V p.castle from rfl];refine zR ?_;refine g7 (a0P _ _) (zG ?_);refine Nx.mk (zG ?_);obtain ⟨X4,hX4⟩:∃ X4,X4=(if p.ep<0∨a6M p=true then epT p.ep else [45]):=⟨_,rfl⟩
 have hel:X4.length≤2:=by rw [hX4];split;exact hel;simp
 refine B0 (σ:=Unit) [6,7,8,9,11,12,13] 14 (fun _=>[(6,m7 X4)]) (fun _ w'=>Cl w w') zk ?_ (fun _ j w4 c4=>?_)
 ·refine zR ?_;refine b44 hP1 ?_;rw [show (D0 p c).ep=p.ep from rfl];refine zR ?_;apply E.y8<;>intro h
  ·have he0:0≤p.ep:=by omega
   have hrk:l8 p.ep=5-3*p.turn:=(hep.2.2 h).1;have ht:=hI.turn;clear h;have hbe:∀ i:Nat,i<2→D7 p (2*(i:Int)-1)=(decide (0≤K7 (p.ep%8+(2*(i:Int)-1)) (4-p.turn))&&decide (sq p (K7 (p.ep%8+(2*(i:Int)-1)) (4-p.turn))=6+6*p.turn)):=by
    intro i _;unfold D7;rw [show l8 p.ep-up p.turn=4-p.turn by unfold up;omega];rfl
   refine zG ?_;refine B0 (σ:=Unit) [7] 14 (fun _=>[(7,.int .i8 (4-p.turn))]) (fun _ w'=>w'=w1) zk ?_ (fun _ j w2 e2=>?_)
   ·refine zR ?_;refine kHt hP1 ?_;rw [show (D0 p c).turn=p.turn+1 from rfl];refine zR ?_;apply E.d7<;>intro h
    ·refine zR ?_;exact ⟨(),⟨d9 zo,trivial⟩,rfl⟩
    ·refine zR ?_;exact ⟨(),⟨d9 zo,trivial⟩,rfl⟩
   subst e2;have eF1:IntKind.i8.wrap (p.ep%8-1)=p.ep%8+(2*((0:Nat):Int)-1):=by rw [a0d zo zo];omega
   have eF2:IntKind.i8.wrap (p.ep%8+1)=p.ep%8+(2*((1:Nat):Int)-1):=by rw [a0d zo zo];omega
   refine zR ?_;refine b44 hP1 ?_;rw [show (D0 p c).ep=p.ep from rfl];refine zR ?_;refine g7 (a1C p.ep he0 hep.2.1 _) (zR ?_);rw [eF1,eF2];refine zL c4v [.int .i8 (p.ep%8+(2*((0:Nat):Int)-1)),.int .i8 (p.ep%8+(2*((1:Nat):Int)-1))] ?_;have hbx:=c6W w2 (fun i=>.int .i8 (p.ep%8+(2*(i:Int)-1))) (fun i=>rfl);have cB:=Cl.alloc w2 (.cells (([.int .i8 (p.ep%8+(2*((0:Nat):Int)-1)),.int .i8 (p.ep%8+(2*((1:Nat):Int)-1))]:List Value).flatMap fun v=>v.cells.toList).toArray 199);generalize w2.alloc (.cells (([.int .i8 (p.ep%8+(2*((0:Nat):Int)-1)),.int .i8 (p.ep%8+(2*((1:Nat):Int)-1))]:List Value).flatMap fun v=>v.cells.toList).toArray 199)=w3 at *;have c3:=c1.trans cB;refine zR ?_;refine C1 (σ:=Nat) [6,11,12,13,51] 52 (fun i=>[(6,m7 [45]),(51,.int .i64 i)]) (fun i w'=>i≤2∧(∀ j:Nat,j<i→D7 p (2*(j:Int)-1)=false)∧Cl w w'∧Cl w3 w') (fun i=>2-i) zk 0 ⟨zd,fun j h=>absurd h zo,c3,Cl.refl _⟩ ⟨rfl,rfl,trivial⟩ ?_;rintro i j5 w5 ⟨hi,hno,c5,c35⟩;have ni:=C4 (i:=i) zo;refine zR ?_;apply E.d7<;>intro h
   ·have hi2:i<2:=by omega
    clear h;have hb:=hbe i hi2;have hsn:D7 p (2*(i:Int)-1)=false→∀ j:Nat,j<i+1→D7 p (2*(j:Int)-1)=false:=by
     intro h0 j hj;by_cases e:j<i
     ·exact hno j e
     ·have:j=i:=by omega
      subst this;exact h0
    obtain ⟨F,hF⟩:∃ F:Int,F=p.ep%8+(2*(i:Int)-1):=⟨_,rfl⟩;have hld:=L9 (t:=199) (hbx.cl c35) (o:=i) (i:=i) hi2 rfl rfl;rw [← hF] at hb hld;have hFr:-1≤F∧F≤8:=by omega
    refine zR ?_;refine zC ?_;refine zR ?_;refine b7 _ hld (zR ?_);apply E.d7<;>intro h
    ·have hat:K7 F (4-p.turn)=-1:=by unfold K7;rw [zM (.inl h)]
     rw [hat] at hb;refine zR ?_;exact ⟨i+1,⟨rfl,d9 ni,trivial⟩,⟨zo,hsn (by rw [hb];rfl),c5,c35⟩,zo⟩
    ·have h1:=h;clear h;refine zR ?_;apply E.d7<;>intro h
     ·have hat:K7 F (4-p.turn)=-1:=by unfold K7;rw [zM (.inr (.inl h))]
      rw [hat] at hb;refine zR ?_;exact ⟨i+1,⟨rfl,d9 ni,trivial⟩,⟨zo,hsn (by rw [hb];rfl),c5,c35⟩,zo⟩
     ·obtain ⟨s,hs⟩:=ze (show 0≤8*(4-p.turn)+F by omega)
      have hs64:s<64:=by omega
      have hat:K7 F (4-p.turn)=s:=by unfold K7;rw [zJ zo,hs]
      rw [hat,zX (Int.natCast_nonneg s),yY] at hb;have hX:=hI.pc s;have nsq:=a7y F (4-p.turn) zo zo zo zo w5;rw [hs] at nsq;have pcc:=a0a (a1s p) b (t:=237) (fz:=(0,0)) s hs64 w5 (hT.cl c5) (c5.blk hB);rw [U9 hI.pc hs64] at pcc;clear h;generalize sq p s=X at *;refine zR ?_;refine g7 nsq (zR ?_);refine kHb (c5.blk hP) (zR ?_);refine g7 pcc (zR ?_);apply E.d7<;>intro h
      ·refine zR ?_;exact ⟨i+1,⟨rfl,d9 ni,trivial⟩,⟨zo,hsn (by rw [hb];exact zV zo),c5,c35⟩,zo⟩
      ·have hx0:¬ X=0:=h;clear h;refine zR ?_;refine g7 (a1f X hX.1 hX.2 _) (zR ?_);apply E.y8<;>intro h
       ·have hne:¬ X=6+6*p.turn:=by
         intro e;apply h;rw [e];rcases ht with e2|e2<;>rw [e2]<;>rfl
        refine zR ?_;exact ⟨i+1,⟨rfl,d9 ni,trivial⟩,⟨zo,hsn (by rw [hb];exact zV hne),c5,c35⟩,zo⟩
       ·have hk6:X=6∨X=12:=by unfold a0B at h;split at h<;>omega
        refine zR ?_;refine zK 7 ?_;refine zR ?_;refine o4 _ (fun w hw=>a5Y X hX.1 hX.2 w) (zR ?_);refine qHt (c5.blk hP) ?_;rw [show (D0 p c).turn=p.turn+1 from rfl];refine zR ?_;intro w6 c6;have c56:=c5.trans c6;have hco:a73 X=if X=6 then 1 else 2:=by rcases hk6 with e|e<;>rw [e]<;>rfl
        refine zR ?_;apply E.d7<;>intro h
        ·have hyes:D7 p (2*(i:Int)-1)=true:=by
          rw [hb];exact zX (by rw [hco] at h;split at h<;>omega)
         have hbs:a6M p=true:=by
          rw [a6T];rcases (by omega:i=0∨i=1) with rfl|rfl
          ·have:D7 p (-1)=true:=hyes;rw [this];rfl
          ·have:D7 p 1=true:=hyes;rw [this,Bool.or_true]
         refine zR ?_;refine b44 (c56.blk hP) ?_;rw [show (D0 p c).ep=p.ep from rfl];refine zR ?_;refine g7 (a6n p.ep he0 hep.2.1 _) (zR ?_);exact ⟨(),⟨by rw [hX4,zM (.inr hbs)];unfold epT;rw [zM zo];rfl,trivial⟩,c56⟩
        ·refine zR ?_;exact ⟨i+1,⟨rfl,d9 ni,trivial⟩,⟨zo,hsn (by rw [hb];exact zV (fun e=>h (by rw [hco];split<;>omega))),c56,c35.trans c6⟩,zo⟩
   ·have h2:i=2:=by omega
    subst h2;have hbs:a6M p=false:=by
     rw [a6T];have q0:D7 p (-1)=false:=hno 0 zd;have q1:D7 p 1=false:=hno 1 zd;rw [q0,q1];rfl
    refine zR ?_;exact ⟨(),⟨by rw [hX4,zJ (by rw [hbs];simp;omega)];rfl,trivial⟩,c5⟩
  ·refine zR ?_;exact ⟨(),⟨by rw [hX4,zM (.inl zo)];unfold epT;rw [zJ zo];rfl,trivial⟩,c1⟩
 have hP4:=c4.blk hP;have h0:=hI.h0;have hf1:=hI.f1;have hhl:=a1e (n:=p.half.toNat) (by have:=hN.1;omega)
 have hfl:=a1e (n:=p.full.toNat) (by have:=hN.2;omega)
 have it1:=fun w hw=>b1L p.half.toNat (by have:=hN.1;omega) w hw
 have it2:=fun w hw=>b1L p.full.toNat (by have:=hN.2;omega) w hw
 rw [zi h0] at it1;rw [zi zo] at it2;have hfen:b16 p=a2U p 8++[32]++a8n p.turn++[32]++a4V p.castle++[32]++X4++[32]++dec p.half.toNat++[32]++dec p.full.toNat:=by
  rw [hX4];unfold b16;split<;>rfl
 rw [hfen];clear hfen;clear hX4;generalize a2U p 8=X1 at *;generalize a8n p.turn=X2 at *;generalize a4V p.castle=X3 at *;generalize dec p.half.toNat=X5 at *;generalize dec p.full.toNat=X6 at *;refine zR ?_;refine zK 25 ?_;refine zR ?_;refine E.A1 (y9 (x:=X1) (y:=[32]) (by simp only [zF,zh,za];omega)) ?_
 rw [a00];refine zR ?_;refine E.A1 (y9 (x:=X1++[32]) (y:=X2) (by simp only [zF,zh,za];omega)) ?_
 rw [A6];refine zR ?_;refine E.A1 (y9 (x:=X1++[32]++X2) (y:=[32]) (by simp only [zF,zh,za];omega)) ?_
 rw [a00];refine zR ?_;refine E.A1 (y9 (x:=X1++[32]++X2++[32]) (y:=X3) (by simp only [zF,zh,za];omega)) ?_
 rw [A6];refine zR ?_;refine E.A1 (y9 (x:=X1++[32]++X2++[32]++X3) (y:=[32]) (by simp only [zF,zh,za];omega)) ?_
 rw [a00];refine zR ?_;refine E.A1 (y9 (x:=X1++[32]++X2++[32]++X3++[32]) (y:=X4) (by simp only [zF,zh,za];omega)) ?_
 rw [A6];refine zR ?_;refine E.A1 (y9 (x:=X1++[32]++X2++[32]++X3++[32]++X4) (y:=[32]) (by simp only [zF,zh,za];omega)) ?_
 rw [a00];refine zR ?_;refine l9 _ (fun w hw=>a27 (hw.blk hP4)) ?_;rw [show (D0 p c).half=p.half from rfl];refine zR ?_;refine D6 _ (fun _ _ h=>h.trans) (fun w' h'=>it1 w' ((hw.cl c4).cl h')) (zR ?_);refine E.A1 (y9 (x:=X1++[32]++X2++[32]++X3++[32]++X4++[32]) (y:=X5) (by simp only [zF,zh,za];omega)) ?_
 rw [A6];refine zR ?_;refine E.A1 (y9 (x:=X1++[32]++X2++[32]++X3++[32]++X4++[32]++X5) (y:=[32]) (by simp only [zF,zh,za];omega)) ?_
 rw [a00];refine zR ?_;refine l9 _ (fun w hw=>a43 (hw.blk hP4)) ?_;rw [show (D0 p c).full=p.full from rfl];refine zR ?_;refine D6 _ (fun _ _ h=>h.trans) (fun w' h'=>it2 w' ((hw.cl c4).cl h')) (zR ?_);refine E.A1 (y9 (x:=X1++[32]++X2++[32]++X3++[32]++X4++[32]++X5++[32]) (y:=X6) (by simp only [zF,zh,za];omega)) ?_
 rw [A6];refine zR ?_;intro w9 c9;refine zR ?_;exact ⟨rfl,c4.trans c9⟩
theorem c5M:∃ z,(G.P.info? 36).bind (·.zero)=some z∧z.cells.size=3:=a0m zk
theorem b3k {M t:Nat} {d:Nd} {w:World} {fz:Nat×Nat} (hM:w.heap[M]?=some (.cells (F7 d) t fz)) (f0:-128≤d.mv.fr) (f1:d.mv.fr≤127) (t0:-128≤d.mv.to) (t1:d.mv.to≤127) (p0:-128≤d.mv.promo) (p1:d.mv.promo≤127) :
  Calls G.P 100 #[.pointer (some ⟨M,0,none⟩)] w (N0 (.agg (Z3 d.mv)) w):=by
 have e1:IntKind.i64.wrap d.mv.fr=d.mv.fr:=g8 zo zo;have e2:IntKind.i64.wrap d.mv.to=d.mv.to:=g8 zo zo;have e3:IntKind.i64.wrap d.mv.promo=d.mv.promo:=g8 zo zo;refine zN func100 ?_;refine zR ?_;obtain ⟨z,hz,hzs⟩:=c5M;refine s7 z hz ?_;have cA:=Cl.alloc w (.cells z.cells 36);have nA:=d8 w (.cells z.cells 36);generalize w.alloc (.cells z.cells 36)=w1 at *;have hM1:=cA.blk hM;refine zR ?_;refine g7 (c1Y hM1) (zR ?_);rw [e1];refine g7 (c5L hM1) (zR ?_);rw [e2];refine g7 (b1H hM1) (zR ?_);rw [e3];refine r7 (Z3 d.mv) zk (zR ?_);refine K2 nA (N3 d.mv) rfl b4g rfl (N6 _) (by rw [hzs];decide) (fun w2 u2=>zR ?_)
 have h2:=u2.at_;rw [B5 _ _ (by rw [hzs];rfl)] at h2
 refine b7 _ (V5 h2) (zR ?_);exact ⟨rfl,u2.cl cA (yO _)⟩
theorem G8.kept {w:World} {P b:Nat} {p:g9} {a:Option Addr} {n c:Nat} (h:G8 w P b p (.slice a n c)) (hr:Row 141 11 D8 0 w (.slice a n c) (P7 p)) (hne:P7 p≠[]):∃ ad,a=some ad:=by
 obtain ⟨a',c',e,ha⟩:=hr.form;injection e with e1 e2 e3;obtain ⟨g,hg⟩:=ha (List.length_pos_iff.2 hne);exact ⟨_,by rw [e1,hg]⟩
theorem c4w:∃ z,(G.P.info? 22).bind (·.zero)=some z∧z.cells.size=64:=a0m zk
def sqL (p:g9):List Value:=p.board.map (Value.int .i64)
theorem a0p (p:g9):(sqL p).length=64:=by simp [sqL,p.len]
theorem b9C (p:g9) {i:Nat} (h:i<64):(sqL p)[i]'(by rw [a0p];exact h) = .int .i64 (sq p i):=by
 have h2:i<p.board.length:=by rw [p.len];exact h
 simp [sqL,sq,xA,h2]
theorem szI:(G.P.info? 3).map (·.size)=some 1:=by kernel_rfl
theorem b1N {p:g9} (hp:∀ i:Int,0≤sq p i∧sq p i≤12) {b t:Nat} {fz:Nat×Nat} (w:World) (hT:C6 w) (hB:w.heap[b]?=some (.cells (J4 (a1s p)) t fz)) :
  Calls G.P 170 #[.pointer (some ⟨b,0,none⟩)] w (N0 (.agg (sqL p).toArray) w):=by
 obtain ⟨z,hz,hzs⟩:=c4w;refine zN func170 ?_;refine zR ?_;refine s7 z hz ?_;have cA:=Cl.alloc w (.cells z.cells 22);have nA:=d8 w (.cells z.cells 22);have sA:=C0 w (.cells z.cells 22);generalize w.alloc (.cells z.cells 22)=w1 at *;refine zR ?_;refine s7 z hz ?_;have cB:=Cl.alloc w1 (.cells z.cells 22);have nB:=d8 w1 (.cells z.cells 22);generalize w1.alloc (.cells z.cells 22)=w2 at *;have nA2:=cB.blk nA;refine zR ?_;refine C1 (σ:=Nat) [4,5] 6 (fun i=>[(5,.int .i64 i)]) (fun i w'=>i≤64∧w'.heap[w1.heap.size]?=some (.cells (J3 z.cells 0 ((sqL p).take i)) 22 (0,0))∧w'.heap[w.heap.size]?=some (.cells z.cells 22 (0,0))∧Cl w w') (fun i=>64-i) zk 0 ⟨zd,nB,nA2,cA.trans cB⟩ ⟨rfl,trivial⟩ ?_;rintro i j w3 ⟨hi,hO,hA,c3⟩;have ni:=C4 (i:=i) zo;refine zR ?_;apply E.d7<;>intro h
 ·have hi2:i<64:=by omega
  clear h;have ei:IntKind.i8.wrap (i:Int)=i:=a0d zo zo;have hX:=hp i;have ex:IntKind.i64.wrap (sq p i)=sq p i:=g8 zo zo;have pc:=a0a (a1s p) b (t:=t) (fz:=fz) i hi2 w3 (hT.cl c3) (c3.blk hB);rw [U9 hp hi2] at pc;refine zR ?_;rw [ei];refine g7 pc (zR ?_);rw [ex];refine zC ?_;refine zR ?_;refine K2 hO [.int .i64 (sq p i)] rfl szI rfl (a0o _ _) (by rw [F8,hzs,s8];omega) fun w4 u4=>zR ?_
  have hO4:=u4.at_;have e:J3 (J3 z.cells 0 ((sqL p).take i)) (U0 0 (Int.toNat i) 1) [.int .i64 (sq p i)]=J3 z.cells 0 ((sqL p).take (i+1)):=by
   rw [zx (by rw [a0p];exact hi2),a6d,b9C p hi2,yh,a0p,s8]
   congr 1;simp;omega
  rw [e] at hO4;exact ⟨i+1,⟨d9 ni,trivial⟩,⟨zo,hO4,(Tn.upd u4).blk hA zo,(Tn.upd u4).toCl c3 zo⟩,zo⟩
 ·have e64:i=64:=by omega
  subst e64;rw [wW (by rw [a0p];exact yO _),B5 _ _ (by rw [a0p,hzs])] at hO
  have hl:=ldA (t:=22) (o:=0) (z:=64) hO rfl (by simp [a0p])
  have ee:((sqL p).toArray.extract 0 (0+64))=(sqL p).toArray:=by
   have:=a0p p;simp [wW (Nat.le_of_eq this)]
  rw [ee] at hl;refine zR ?_;refine b7 _ hl (zR ?_);refine K2 hA (sqL p) rfl zk (a0p p) (fun v hv=>by simp [sqL] at hv;obtain ⟨a,_,rfl⟩:=hv;rfl) (by rw [hzs];decide) fun w4 u4=>?_
  have h4:=u4.at_;rw [B5 _ _ (by rw [a0p,hzs])] at h4
  have hl4:=ldA (t:=22) (o:=0) (z:=64) h4 rfl (by simp [a0p])
  rw [ee] at hl4;refine zR ?_;refine b7 _ hl4 (zR ?_);exact ⟨rfl,(Tn.upd u4).toCl c3 (yO _)⟩
theorem b4L (l:List Value):∀ (cs:Array Value) (o k:Nat),(l.zipIdx k).foldl (fun cs (x:Value×Nat)=>cs.setIfInBounds (o+x.2) x.1) cs=J3 cs (o+k) l:=by
 induction l with
 | nil=>intros;rfl
 | cons v r ih =>
  intro cs o k;rw [List.zipIdx_cons,List.foldl_cons,ih];rfl
theorem a6p {place:Nat→Option (Nat×Nat)} {cells:Array Value} {i off size:Nat} {v:Value} {rest:List (Nat×Value)} (hp:place i=some (off,size)) (hs:v.cells.size=size) (ho:off+size≤cells.size) :
  Instr.fill place cells ((i,v)::rest)=Instr.fill place (J3 cells off v.cells.toList) rest:=by
 have e:=b4L v.cells.toList cells off 0;rw [Nat.add_zero] at e;rw [Instr.fill,hp];simp only [hs,ne_eq,not_true_eq_false,decide_false,xp];rw [zJ (by simp;omega),← e]
 congr 1;rw [← Array.foldl_toList];simp
theorem c2d:(G.P.info? 24).bind (·.zero)=some (.agg (Array.replicate 69 (.int .i64 0))):=by kernel_rfl
theorem b4M:∃ fs,G.P.underlying 24=some (.struct fs)∧fs.toList.mapM (fun f=>(G.P.info? f.type).map fun i=>(f.offset,i.size))=some [(0,64),(64,1),(65,1),(66,1),(67,1),(68,1)]:=by
 have h:(match G.P.underlying 24 with|some (.struct fs)=>fs.toList.mapM (fun f=>(G.P.info? f.type).map fun i=>(f.offset,i.size))|_=>none)=some [(0,64),(64,1),(65,1),(66,1),(67,1),(68,1)]:=by kernel_rfl
 split at h
 ·exact ⟨_,by assumption,h⟩
 ·cases h
theorem b7z (p:g9) (a b c:Int):G.P.built 24 [(0,.agg (sqL p).toArray),(3,.int .i64 a),(4,.int .i64 b),(5,.int .i64 c)]=some (J3 (J3 (J3 (J3 (Array.replicate 69 (.int .i64 0)) 0 (sqL p)) 66 [.int .i64 a]) 67 [.int .i64 b]) 68 [.int .i64 c]):=by
 obtain ⟨fs,h1,h2⟩:=b4M;obtain ⟨it,h3,h4⟩:=Option.bind_eq_some_iff.1 c2d;unfold Program.built;rw [h3,h1];simp only [h4,h2];rw [a6p (off:=0) (size:=64) rfl (by show (sqL p).toArray.size=64;simp [a0p]) (by show 64≤(Array.replicate 69 _).size;simp)]
 rw [a6p (off:=66) (size:=1) rfl rfl (by rw [F8];show 67≤(Array.replicate 69 _).size;simp)]
 rw [a6p (off:=67) (size:=1) rfl rfl (by rw [F8,F8];show 68≤(Array.replicate 69 _).size;simp)]
 rw [a6p (off:=68) (size:=1) rfl rfl (by rw [F8,F8,F8];show 69≤(Array.replicate 69 _).size;simp)]
 rfl
theorem b4N (p:g9):J3 (J3 (J3 (J3 (Array.replicate 69 (.int .i64 0)) 0 (sqL p)) 66 [.int .i64 p.ep]) 67 [.int .i64 p.half]) 68 [.int .i64 p.full]=t8 { p with turn:=0,castle:=0 }:=by
 have h:=a0p p;apply wH;intro k;have z:(Array.replicate 69 (Value.int .i64 0)).size=69:=by simp
 rw [O4 _ _ _ _ (by rw [F8,F8,F8,z];exact (by decide:68+1≤69)),O4 _ _ _ _ (by rw [F8,F8,z];exact (by decide:67+1≤69)),O4 _ _ _ _ (by rw [F8,z];exact (by decide:66+1≤69)),O4 _ _ _ _ (by rw [z,h];decide)]
 rw [h];simp only [zh,za];by_cases k1:k<64
 ·rw [zJ zo,zJ zo,zJ zo,zM zo,a0G _ _ k1,Nat.sub_zero,yu zo,b9C p k1];rfl
 ·by_cases k2:k<69
  ·rcases (by omega:k=64∨k=65∨k=66∨k=67∨k=68) with rfl|rfl|rfl|rfl|rfl<;>rw [H5 _ _ zd]<;>simp
  ·rw [zJ zo,zJ zo,zJ zo,zJ zo,xx (by rw [z];omega),xx (by rw [z8];omega)]
theorem Z9.tnO {w w':World} {g n b:Nat} {f:Nat→Value} (h:Z9 w g n f) (hc:Tn b w w') (hne:g≠b):Z9 w' g n f:=by
 obtain ⟨cs,t,fz,h1,h2,h3⟩:=h;exact ⟨cs,t,fz,hc.blk h1 hne,h2,h3⟩
theorem b70 (p:g9) (x:Int):J3 (t8 p) 64 [.int .i64 x]=t8 { p with turn:=x }:=by
 apply wH;intro k;rw [O4 _ _ _ _ (by rw [z8];exact (by decide:64+1≤69))]
 simp only [zh,za];by_cases k1:k<64
 ·rw [zJ zo,a0G _ _ k1,a0G _ _ k1];rfl
 ·by_cases k2:k=64
  ·subst k2;rw [zM zd,H5 _ _ zd];rfl
  ·rw [zJ zo,H5 _ _ zo,H5 _ _ zo];obtain ⟨q,rfl⟩:∃ q,k=q+65:=⟨k-65,zo⟩;rw [show q+65-64=q+1 by omega];rfl
theorem b3l (p:g9) (x:Int):J3 (t8 p) 65 [.int .i64 x]=t8 { p with castle:=x }:=by
 apply wH;intro k;rw [O4 _ _ _ _ (by rw [z8];exact (by decide:65+1≤69))]
 simp only [zh,za];by_cases k1:k<64
 ·rw [zJ zo,a0G _ _ k1,a0G _ _ k1];rfl
 ·by_cases k2:k=64
  ·subst k2;rw [zJ zd,H5 _ _ zd,H5 _ _ zd];rfl
  ·by_cases k3:k=65
   ·subst k3;rw [zM zd,H5 _ _ zd];rfl
   ·rw [zJ zo,H5 _ _ zo,H5 _ _ zo];obtain ⟨q,rfl⟩:∃ q,k=q+66:=⟨k-66,zo⟩;rw [show q+66-64=q+2 by omega];rfl
theorem c2e:H0 209 171 1 1:=U5 zk
theorem c6Y (w:World):Z9 (w.alloc (.cells (([.int .i8 1,.int .i8 1,.int .i8 2,.int .i8 2]:List Value).flatMap fun v=>v.cells.toList).toArray 171)) w.heap.size 4 (fun i=>.int .i8 ((i:Int)/2+1)) :=
 ⟨_,171,(0,0),d8 _ _,rfl,fun i hi=>by
  rcases (by omega:i=0∨i=1∨i=2∨i=3) with rfl|rfl|rfl|rfl<;>rfl⟩
theorem c4x:∀ c:Nat,c<16→∀ i:Nat,i<4→c.testBit i=true→((c%2^i ||| 2^i:Nat))=c%2^(i+1):=by decide
theorem c4y:∀ c:Nat,c<16→∀ i:Nat,i<4→c.testBit i=false→c%2^i=c%2^(i+1):=by decide
theorem c5N:∀ a:Nat,a<16→∀ b:Nat,b<16→a0S .or .i64 (a:Int) (b:Int)=((a ||| b:Nat):Int):=by decide
theorem c5O:∀ i:Nat,i<4→IntKind.i64.wrap (1*2^min ((i:Int)).toNat IntKind.i64.bits)=((2^i:Nat):Int):=by decide
theorem b3m (cr:Int) (h0:0≤cr) (h1:cr≤15) (i:Nat) (hi:i<4) (a b:Int) (ha:a=(i:Int)/2+1) (hb:b=(i:Int)%2+1) (w:World) :
  Calls G.P 175 #[m7 (Ch.a4V cr),.int .i8 a,.int .i64 b] w (N0 (.bool (Ch.W3 cr i)) w):=by
 have:=a78 cr h0 h1 ((i:Int)/2) zo ((i:Int)%2+1) zo w;rw [show (2*((i:Int)/2)+((i:Int)%2+1-1)).toNat=i by omega] at this
 rw [ha,hb];exact this
theorem c2f {p:g9} (hI:B7 p) {P b:Nat} {cv:Value} {c:Bool} (w:World) (hT:C6 w)
  (hP:w.heap[P]?=some (.cells (hdA b (D0 p c) cv) 173 (0,0))) (hB:w.heap[b]?=some (.cells (J4 (a1s p)) 237 (0,0))) :
  Calls G.P 109 #[.pointer (some ⟨P,0,none⟩)] w (N0 (F5 p) w):=by
 have hep:=N7 hI.pass;obtain ⟨zv,hz,hz69⟩:=b1t;have ht:=hI.turn;refine zN func109 ?_;refine zR ?_;refine s7 zv hz ?_;have cA:=Cl.alloc w (.cells zv.cells 24);have nA:=d8 w (.cells zv.cells 24);have sA:=C0 w (.cells zv.cells 24);generalize w.alloc (.cells zv.cells 24)=w1 at *;refine zR ?_;refine g7 (b1I (cA.blk hP)) (zR ?_);refine o7 (b1N hI.pc w1 (hT.cl cA) (cA.blk hB)) fun w2 c2=>?_;have c12:=cA.trans c2;have hP2:=c12.blk hP;refine zR ?_;refine g7 (c6V hP2) ?_;rw [show (D0 p c).ep=p.ep from rfl];refine zR ?_;rw [g8 (show -9223372036854775808≤p.ep by omega) zo]
 refine g7 (c4t hP2) ?_;rw [show (D0 p c).half=p.half from rfl];refine zR ?_;refine g7 (c4u hP2) ?_;rw [show (D0 p c).full=p.full from rfl];refine zR ?_;refine r7 (t8 { p with turn:=0,castle:=0 }) ?_ ?_
 ·rw [← b4N];exact b7z p p.ep p.half p.full
 refine zR ?_;refine s7 zv hz ?_;have cB:=Cl.alloc w2 (.cells zv.cells 24);have nB:=d8 w2 (.cells zv.cells 24);generalize w2.alloc (.cells zv.cells 24)=w3 at *;have s12:=c2.size;have nA3:=cB.blk (c2.blk nA);refine zR ?_;refine K2 nB (Z2 { p with turn:=0,castle:=0 }) rfl a14 (C8 _) (one_pos _) (by rw [hz69];exact (by decide:0+69≤69)) (fun w4 u4=>?_)
 have hQ:w4.heap[w2.heap.size]?=some (.cells (t8 { p with turn:=0,castle:=0 }) 24 (0,0)):=by
  rw [u4.at_,B5 _ _ (by rw [C8,hz69])];rfl
 have sw2:=c12.size;have c4:Cl w w4:=(Tn.upd u4).toCl (c12.trans cB) zo;have nA4:=(Tn.upd u4).blk nA3 zo;clear u4 nB;refine zG ?_;refine B0 (σ:=Unit) [] 6 (fun _=>[]) (fun _ w'=>w'.heap[w2.heap.size]?=some (.cells (t8 { p with castle:=0 }) 24 (0,0))∧Cl w w'∧w'.heap[w.heap.size]?=some (.cells zv.cells 24 (0,0))) zk ?_ (fun _ j w5 h5=>?_)
 ·refine zR ?_;refine g7 (a5v w4 (c4.blk hP)) ?_;rw [show (D0 p c).turn=p.turn+1 from rfl];refine zR ?_;apply E.d7<;>intro h
  ·have e1:p.turn=1:=by omega
   refine zR ?_;refine K2 hQ [.int .i64 1] rfl szI rfl (a0o _ _) (by rw [z8];exact (by decide:64+1≤69)) fun w5 u5=>zR ?_
   refine ⟨(),trivial,?_,(Tn.upd u5).toCl c4 zo,(Tn.upd u5).blk nA4 zo⟩;rw [u5.at_,show (bif Nat.beq 64 0 then 0 else 0+64)=64 from rfl,b70];simp only [e1]
  ·have e0:p.turn=0:=by omega
   refine zR ?_;refine ⟨(),trivial,?_,c4,nA4⟩;rw [hQ];simp only [e0]
 obtain ⟨hQ5,c5,nA5⟩:=h5;refine zR ?_;refine zL c2e [.int .i8 1,.int .i8 1,.int .i8 2,.int .i8 2] ?_;have hbx:=c6Y w5;have cC:=Cl.alloc w5 (.cells (([.int .i8 1,.int .i8 1,.int .i8 2,.int .i8 2]:List Value).flatMap fun v=>v.cells.toList).toArray 171);have g5:w2.heap.size<w5.heap.size:=(yn.1 hQ5).1;generalize w5.alloc (.cells (([.int .i8 1,.int .i8 1,.int .i8 2,.int .i8 2]:List Value).flatMap fun v=>v.cells.toList).toArray 171)=w6 at *;refine zR ?_;have hc16:p.castle.toNat<16:=by have:=hI.c0;have:=hI.c1;omega
 refine C1 (σ:=Nat) [4,5,23] 24 (fun i=>[(23,.int .i64 i)]) (fun i w'=>i≤4∧w'.heap[w2.heap.size]?=some (.cells (t8 { p with castle:=((p.castle.toNat%2^i:Nat):Int) }) 24 (0,0))∧w'.heap[w.heap.size]?=some (.cells zv.cells 24 (0,0))∧Cl w w'∧Z9 w' w5.heap.size 4 (fun i=>.int .i8 ((i:Int)/2+1))) (fun i=>4-i) zk 0
  ⟨zd,by have:=cC.blk hQ5;simpa [Nat.mod_one] using this,cC.blk nA5,c5.trans cC,hbx⟩ ⟨rfl,trivial⟩ ?_
 rintro i j w7 ⟨hi,hQ7,hA7,c7,hbx7⟩;have ni:=C4 (i:=i) zo;refine zR ?_;apply E.d7<;>intro h
 ·have hi2:i<4:=by omega
  clear h;have hcc:=b3m p.castle hI.c0 hI.c1 i hi2 ((i:Int)/2+1) (IntKind.i64.wrap ((i:Int).tmod 2+1)) rfl (by rw [a24 zo,g8 zo zo])
  have hor:=c4x p.castle.toNat hc16 i hi2;have hno:=c4y p.castle.toNat hc16 i hi2;have hbit:W3 p.castle i=p.castle.toNat.testBit i:=rfl;refine zR ?_;refine zC ?_;refine zR ?_;refine b7 _ (L9 (t:=171) hbx7 (i:=i) hi2 rfl rfl) (zR ?_);refine g7 (b7y (c7.blk hP)) ?_;rw [show (D0 p c).cas=a4V p.castle from rfl];refine zR ?_;refine o7 (hcc _) fun w8 c8=>?_;have hQ8:=c8.blk hQ7;have hA8:=c8.blk hA7;have c78:=c7.trans c8;have hbx8:=hbx7.cl c8;rw [hbit];cases hb:p.castle.toNat.testBit i
  ·rw [hno hb] at hQ8;refine zR ?_;exact ⟨i+1,⟨d9 ni,trivial⟩,⟨zo,hQ8,hA8,c78,hbx8⟩,zo⟩
  ·have hor:=hor hb;refine zR ?_;refine zK 6 ?_;refine zR ?_;refine l9 _ (fun w hw=>a2b (hw.blk hQ8)) (zR ?_);intro r hr;rw [c5O i hi2] at hr;subst hr;refine zR ?_;intro r hr;rw [c5N _ (wG (Nat.mod_le _ _) hc16) _ (show 2^i<16 from Nat.pow_lt_pow_right (n:=4) zd hi2),hor] at hr;subst hr;refine zR ?_;intro w9 c9;refine zR ?_;refine K2 (c9.blk hQ8) [.int .i64 ((p.castle.toNat%2^(i+1):Nat):Int)] rfl szI rfl (a0o _ _) (by rw [z8];exact (by decide:65+1≤69)) fun w10 u10=>?_
   have hQ10:=u10.at_;rw [show (bif Nat.beq 65 0 then 0 else 0+65)=65 from rfl,b3l] at hQ10
   refine zR ?_;have c89:=c78.trans c9;exact ⟨i+1,⟨d9 ni,trivial⟩,⟨zo,hQ10,(Tn.upd u10).blk (c9.blk hA8) zo,(Tn.upd u10).toCl c89 zo,(hbx8.cl c9).tnO (Tn.upd u10) zo⟩,zo⟩
 ·have e4:i=4:=by omega
  subst e4;rw [wF (show p.castle.toNat<2^4 by omega),zi hI.c0] at hQ7
  refine zR ?_;refine b7 _ (A4 hQ7) (zR ?_);refine K2 hA7 (Z2 p) rfl a14 (C8 _) (one_pos _) (by rw [hz69];exact (by decide:0+69≤69)) (fun w8 u8=>?_)
  have h8:w8.heap[w.heap.size]?=some (.cells (t8 p) 24 (0,0)):=by rw [u8.at_,B5 _ _ (by rw [C8,hz69])];rfl
  refine zR ?_;refine b7 _ (A4 h8) (zR ?_);exact ⟨rfl,(Tn.upd u8).toCl c7 (yO _)⟩
theorem b71:∀ a:Nat,a<16→∀ b:Nat,b<16→(a4V (a:Int)=a4V (b:Int)↔a=b):=by decide
theorem b4O {a b:Int} (a0:0≤a) (a1:a≤15) (b0:0≤b) (b1:b≤15):a4V a=a4V b↔a=b:=by
 obtain ⟨x,rfl⟩:=ze a0;obtain ⟨y,rfl⟩:=ze b0;rw [b71 x zo y zo];omega
theorem a9v {p q:g9} (hI:B7 p) (hJ:B7 q) {P b P' b':Nat} {cv cv':Value} {c c':Bool} (w:World) (hT:C6 w)
  (hP:w.heap[P]?=some (.cells (hdA b (D0 p c) cv) 173 (0,0))) (hB:w.heap[b]?=some (.cells (J4 (a1s p)) 237 (0,0)))
  (hP':w.heap[P']?=some (.cells (hdA b' (D0 q c') cv') 173 (0,0))) (hB':w.heap[b']?=some (.cells (J4 (a1s q)) 237 (0,0))) :
  Calls G.P 249 #[.pointer (some ⟨P,0,none⟩),.pointer (some ⟨P',0,none⟩)] w (N0 (.bool (a17 p q)) w):=by
 have hbi:=b4H hI.pc hJ.pc;have hci:=b4O hI.c0 hI.c1 hJ.c0 hJ.c1;have hal:a17 p q=(decide (p.board=q.board)&&decide (p.turn=q.turn)&&decide (p.castle=q.castle)&&decide (p.ep=q.ep)):=rfl;rw [hal];clear hal;have hs1:=fun w hT hB=>a1p (p:=p) (b:=b) (t:=237) (fz:=(0,0)) hI.pc w hT hB;have hs2:=fun w hT hB=>a1p (p:=q) (b:=b') (t:=237) (fz:=(0,0)) hJ.pc w hT hB;generalize a2U p 8=X at *;generalize a2U q 8=Y at *;refine zN func249 ?_;refine zR ?_;refine zK 47 ?_;refine zR ?_;refine qHb hP (zR ?_);refine D6 _ (fun _ _ h=>h.trans) (fun w' h'=>hs1 w' (hT.cl h') (h'.blk hB)) (zR ?_);refine qHb hP' (zR ?_);refine D6 _ (fun _ _ h=>h.trans) (fun w' h'=>hs2 w' (hT.cl h') (h'.blk hB')) (zR ?_);by_cases h1:X=Y
 ·have k1:tx X=tx Y:=by rw [h1]
  rw [zX (hbi.1 h1),yY];refine E.A0 k1 (zR ?_);repeat (refine E.A0 k1 ?_;refine zR ?_)
  refine qHt hP ?_;rw [show (D0 p c).turn=p.turn+1 from rfl];refine zR ?_;repeat (refine E.A0 k1 ?_;refine zR ?_)
  refine qHt hP' ?_;rw [show (D0 q c').turn=q.turn+1 from rfl];refine zR ?_;repeat (refine E.A0 k1 ?_;refine zR ?_)
  by_cases h2:p.turn=q.turn
  ·have k2:p.turn+1=q.turn+1:=by omega
   rw [zX h2,yY];repeat (refine E.A0 k2 ?_;refine zR ?_)
   refine l9 _ (fun w hw=>a3W (hw.blk hP)) ?_;rw [show (D0 p c).cas=a4V p.castle from rfl];refine zR ?_;repeat (refine E.A0 k2 ?_;refine zR ?_)
   refine o4 _ (fun w hw=>a0P _ w) (zR ?_);repeat (refine E.A0 k2 ?_;refine zR ?_)
   refine l9 _ (fun w hw=>a3W (hw.blk hP')) ?_;rw [show (D0 q c').cas=a4V q.castle from rfl];refine zR ?_;repeat (refine E.A0 k2 ?_;refine zR ?_)
   refine o4 _ (fun w hw=>a0P _ w) (zR ?_);repeat (refine E.A0 k2 ?_;refine zR ?_)
   by_cases h3:a4V p.castle=a4V q.castle
   ·have k3:tx (a4V p.castle)=tx (a4V q.castle):=by rw [h3]
    rw [zX (hci.1 h3),yY];repeat (refine E.A0 k3 ?_;refine zR ?_)
    refine c1x hP ?_;rw [show (D0 p c).ep=p.ep from rfl];refine zR ?_;repeat (refine E.A0 k3 ?_;refine zR ?_)
    refine c1x hP' ?_;rw [show (D0 q c').ep=q.ep from rfl];refine zR ?_;repeat (refine E.A0 k3 ?_;refine zR ?_)
    intro w9 c9;refine zR ?_;exact ⟨rfl,c9⟩
   ·have k3:¬ tx (a4V p.castle)=tx (a4V q.castle):=fun e=>h3 (Q0.1 e);repeat (refine E.o9 k3 ?_;refine zR ?_)
    intro w9 c9;refine zR ?_;exact ⟨p8 (by rw [zV (fun e=>h3 (hci.2 e))];rfl),c9⟩
  ·have k2:¬ p.turn+1=q.turn+1:=by omega
   repeat (refine E.o9 k2 ?_;refine zR ?_)
   intro w9 c9;refine zR ?_;exact ⟨p8 (by rw [zV h2];rfl),c9⟩
 ·have k1:¬ tx X=tx Y:=fun e=>h1 (Q0.1 e);repeat (refine E.o9 k1 ?_;refine zR ?_)
  intro w9 c9;refine zR ?_;exact ⟨p8 (by rw [zV (fun e=>h1 (hbi.2 e))];rfl),c9⟩
structure Gm where
 P:Nat
 out:Tx
 tags:Value
 root:Nat
 cur:Nat
 com:Value
 meth:Nat
def gmL (g:Gm):List Value:=[.pointer (some ⟨g.P,0,none⟩),m7 g.out,g.tags,.pointer (some ⟨g.root,0,none⟩),.pointer (some ⟨g.cur,0,none⟩),g.com,.int .u8 g.meth,.bool false]
def gmA (g:Gm):Array Value:=(gmL g).toArray
section gm
variable {G0 t:Nat} {g:Gm} {w:World} {fz:Nat×Nat} (hb:w.heap[G0]?=some (.cells (gmA g) t fz))
include hb
theorem a4W:m9 G.P w 83 ⟨G0,0,none⟩ (.pointer (some ⟨g.P,0,none⟩)):=D9 hb rfl rfl
theorem a9w:m9 G.P w 125 ⟨G0,1,none⟩ (m7 g.out):=D9 hb rfl rfl
theorem b6q:m9 G.P w 85 ⟨G0,3,none⟩ (.pointer (some ⟨g.root,0,none⟩)):=D9 hb rfl rfl
theorem a9x:m9 G.P w 85 ⟨G0,4,none⟩ (.pointer (some ⟨g.cur,0,none⟩)):=D9 hb rfl rfl
theorem b1O:m9 G.P w 129 ⟨G0,6,none⟩ (.int .u8 g.meth):=D9 hb rfl rfl
theorem a54:m9 G.P w 4 ⟨G0,7,none⟩ (.bool false):=D9 hb rfl rfl
theorem b4P:Calls G.P 43 #[.pointer (some ⟨G0,0,none⟩)] w (E8 (.pointer (some ⟨g.P,0,none⟩)) w):=by
 refine zN func43 ?_;refine zR ?_;refine b7 _ (a4W hb) (zR ?_);exact ⟨rfl,rfl⟩
theorem c4z:Calls G.P 110 #[.pointer (some ⟨G0,0,none⟩)] w (E8 (m7 g.out) w):=by
 refine zN func110 ?_;refine zR ?_;refine b7 _ (a9w hb) (zR ?_);exact ⟨rfl,rfl⟩
theorem c2g:Calls G.P 111 #[.pointer (some ⟨G0,0,none⟩)] w (E8 (.int .u8 g.meth) w):=by
 refine zN func111 ?_;refine zR ?_;refine b7 _ (b1O hb) (zR ?_);exact ⟨rfl,rfl⟩
theorem c40 {p:g9} (hI:B7 p) (hN:Y6 p) {b:Nat} {cv:Value} {c:Bool} (hT:C6 w) (hw:Pow w)
  (hP:w.heap[g.P]?=some (.cells (hdA b (D0 p c) cv) 173 (0,0))) (hB:w.heap[b]?=some (.cells (J4 (a1s p)) 237 (0,0))):Calls G.P 107 #[.pointer (some ⟨G0,0,none⟩)] w (N0 (m7 (a7q p)) w):=by
 refine zN func107 ?_;refine zR ?_;refine b7 _ (a4W hb) (zR ?_);refine o7 (b3j hI hN w hT hw hP hB) fun w1 c1=>zR ?_;exact ⟨rfl,c1⟩
end gm
structure Fr (S:List Nat) (w w':World):Prop where
 os:w'.os=w.os
 tape:w'.tape=w.tape
 output:w'.output=w.output
 size:w.heap.size≤w'.heap.size
 else_:∀ k,k<w.heap.size→k∉S→w'.heap[k]?=w.heap[k]?
section fr
variable {S S':List Nat} {w w1 w2:World}
theorem Fr.blk (h:Fr S w w1) {k:Nat} {o:Obj} (hk:w.heap[k]?=some o) (hn:k∉S):w1.heap[k]?=some o:=by
 rw [h.else_ k (yn.1 hk).1 hn];exact hk
theorem Fr.refl:Fr S w w:=⟨rfl,rfl,rfl,yO _,fun _ _ _=>rfl⟩
theorem Fr.trans (h:Fr S w w1) (h':Fr S w1 w2):Fr S w w2 :=
 ⟨h'.os.trans h.os,h'.tape.trans h.tape,h'.output.trans h.output,zw h.size h'.size,fun k hk hn=>(h'.else_ k (xe hk h.size) hn).trans (h.else_ k hk hn)⟩
theorem Fr.cl (h:Cl w w1):Fr S w w1:=⟨h.os,h.tape,h.output,h.size,fun k hk _=>h.block k hk⟩
theorem Fr.tn {b:Nat} (h:Tn b w w1) (hb:b∈S∨w.heap.size≤b):Fr S w w1 :=
 ⟨h.os,h.tape,h.output,h.size,fun k hk hn=>h.else_ k hk (fun e=>by subst e;rcases hb with hb|hb;exact hn hb;omega)⟩
theorem Fr.upd {b:Nat} {o:Obj} (h:Upd w b o w1) (hb:b∈S):Fr S w w1:=Fr.tn (Tn.upd h) (.inl hb)
theorem Fr.mono (h:Fr S w w1) (hs:∀ k∈S,k∈S'):Fr S' w w1:=⟨h.os,h.tape,h.output,h.size,fun k hk hn=>h.else_ k hk (fun e=>hn (hs k e))⟩
theorem Z9.fr {g n:Nat} {f:Nat→Value} (h:Z9 w g n f) (c:Fr S w w1) (hS:∀ k∈S,∀ cs t fz,w.heap[k]?=some (.cells cs t fz)→a2I t=false):Z9 w1 g n f:=by
 obtain ⟨cs,t,fz,h1,h2,h3⟩:=h;exact ⟨cs,t,fz,c.blk h1 (fun e=>by have:=hS _ e _ _ _ h1;rw [h2] at this;cases this),h2,h3⟩
theorem a7Q.fr {g o n:Nat} {f:Nat→Value} (h:a7Q w g o n f) (c:Fr S w w1) (hS:∀ k∈S,∀ cs t fz,w.heap[k]?=some (.cells cs t fz)→a2I t=false):a7Q w1 g o n f:=by
 obtain ⟨cs,t,fz,h1,h2,h3⟩:=h;exact ⟨cs,t,fz,c.blk h1 (fun e=>by have:=hS _ e _ _ _ h1;rw [h2] at this;cases this),h2,h3⟩
theorem a7R.fr {g n:Nat} {f:Nat→Value} (h:a7R w g n f) (c:Fr S w w1) (hS:∀ k∈S,∀ cs t fz,w.heap[k]?=some (.cells cs t fz)→a2I t=false):a7R w1 g n f:=by
 obtain ⟨k,o,c',h1,h2⟩:=h;exact ⟨k,o,c',h1.fr c hS,h2.fr c hS⟩
theorem C6.fr (h:C6 w) (c:Fr S w w1) (hS:∀ k∈S,∀ cs t fz,w.heap[k]?=some (.cells cs t fz)→a2I t=false):C6 w1 :=
 ⟨h.dia.fr c hS,h.anti.fr c hS,h.ranks.fr c hS,h.files.fr c hS,h.kn.fr c hS,h.kg.fr c hS,h.all.fr c hS,h.promo.fr c hS,h.wfen.fr c hS,h.bfen.fr c hS,h.fen.fr c hS,h.emp.imp fun _ e=>e.fr c hS⟩
end fr
def O8 (M:Nat):List Value:=[.pointer (some ⟨M,0,none⟩)]
theorem Y9 (M:Nat):(O8 M).length=1:=rfl
theorem a55 (M:Nat):∀ v∈O8 M,v.oneCell'=true:=by intro v hv;simp [O8] at hv;subst hv;rfl
theorem c2h:H0 134 85 1 8:=U5 zk
theorem b9D {G0 t t':Nat} {g:Gm} {w:World} {fz fz':Nat×Nat} {dc:Nd} (x:Value) (hx:∃ a,x = .pointer (some a)) (hb:w.heap[G0]?=some (.cells (gmA g) t fz)) (hc:w.heap[g.cur]?=some (.cells (F7 dc) t' fz')) (hk:dc.kids = .slice none 0 0) :
  Calls G.P 143 #[.pointer (some ⟨G0,0,none⟩),x] w (E8 (.pointer none) w):=by
 obtain ⟨a,rfl⟩:=hx;have hl:m9 G.P w 134 ⟨g.cur,5,none⟩ (.slice none 0 0):=by
  have:m9 G.P w 134 ⟨g.cur,5,none⟩ dc.kids:=D9 hc rfl rfl
  rwa [hk] at this
 refine zN func143 ?_;refine zR ?_;refine b7 _ (a9x hb) (zR ?_);refine V0 false (N2 rfl _) (zR ?_);refine b7 _ (a9x hb) (zR ?_);refine b7 _ hl (zR ?_);refine a5e 1 (zR ?_);exact ⟨rfl,rfl⟩
theorem b9E {G0 t M:Nat} {g:Gm} (hne:G0≠g.cur) {w:World} {fz:Nat×Nat} {dc:Nd} (hb:w.heap[G0]?=some (.cells (gmA g) t fz)) (hc:w.heap[g.cur]?=some (.cells (F7 dc) 141 (0,0))) (hk:dc.kids = .slice none 0 0) :
  Calls G.P 202 #[.pointer (some ⟨G0,0,none⟩),.pointer (some ⟨M,0,none⟩),.bool false] w (fun r w'=>r = .returned (.tuple #[])∧∃ v,Row 85 1 O8 w.heap.size w' v [M]∧w'.heap[g.cur]?=some (.cells (F7 { dc with kids:=v }) 141 (0,0))∧Tn g.cur w w'):=by
 refine zN func202 ?_;refine zR ?_;have cS:Cl w w.drew:=Cl.drew (Cl.refl _);have hl:∀ w',Cl w w'→m9 G.P w' 134 ⟨g.cur,5,none⟩ (.slice none 0 0):=fun w' hw=>by
  have:m9 G.P w' 134 ⟨g.cur,5,none⟩ dc.kids:=D9 (hw.blk hc) rfl rfl
  rwa [hk] at this
 refine H7.mk3 (Tn g.cur w) [0,1,2,3,4,5,6,7,8,9,11] (.cons 10 (.cons 12 (.cons 13 (.cons 14 (.cons 15 (.cons 16 .done .nil) .nil) .nil) .nil) .nil) (.cons 12 (.cons 10 (.cons 13 (.cons 14 (.cons 15 (.cons 16 .done .nil) .nil) .nil) .nil) .nil) .nil)) (Tn.cl cS) zk (zR ?_);refine l9 _ (fun w' hw=>a9x (hw.blk hb hne)) (zR ?_);refine l9 _ (fun w' hw=>a9x (hw.blk hb hne)) (zR ?_);refine ⟨?_,?_,trivial⟩
 ·refine zR ?_;refine b7 _ (hl _ cS) (zR ?_);refine And.intro (Tn.cl cS) (zE ?_);refine zL c2h [.pointer (some ⟨M,0,none⟩)] ?_;have cB:=cS.trans (Cl.alloc w.drew (.cells (([.pointer (some ⟨M,0,none⟩)]:List Value).flatMap fun v=>v.cells.toList).toArray 85));have hbx:Row 85 1 O8 w.drew.heap.size (w.drew.alloc (.cells (([.pointer (some ⟨M,0,none⟩)]:List Value).flatMap fun v=>v.cells.toList).toArray 85)) (.slice (some ⟨w.drew.heap.size,0,none⟩) 1 1) [M]:=C7 Y9 w.drew [M] (by exact zU rfl) [.pointer (some ⟨M,0,none⟩)] rfl
  generalize w.drew.alloc (.cells (([.pointer (some ⟨M,0,none⟩)]:List Value).flatMap fun v=>v.cells.toList).toArray 85)=w1 at *;refine zR ?_;refine And.intro (Tn.cl cB) (zE ?_);refine I5 c2h (l:=[]) (news:=[M]) rfl (Row.nil w1 w.heap.size) rfl hbx Y9 a55 (by exact zU rfl) zd cB.size fun v' w2 hr hg=>?_
  rw [yP] at hr;have c2:Cl w w2:=hg.toCl rfl cB;obtain ⟨a9,c9,rfl,_⟩:=hr.form;refine zR ?_;refine And.intro (Tn.cl c2) (zE ?_);refine And.intro (Tn.cl c2) (zE ?_);refine And.intro (Tn.cl c2) (zE ?_);refine zT (c2.blk hc) [.slice a9 1 c9] fun w3 u3=>?_;have n3:Tn g.cur w w3:=(Tn.cl c2).trans (Tn.upd u3);refine zR ?_;refine And.intro n3 (zR ?_);exact ⟨rfl,_,hr.updT u3 (c2.blk hc) zd,u3.at_,n3⟩
 ·refine zR ?_;refine zL c2h [.pointer (some ⟨M,0,none⟩)] ?_;have cB:=cS.trans (Cl.alloc w.drew (.cells (([.pointer (some ⟨M,0,none⟩)]:List Value).flatMap fun v=>v.cells.toList).toArray 85));have hbx:Row 85 1 O8 w.drew.heap.size (w.drew.alloc (.cells (([.pointer (some ⟨M,0,none⟩)]:List Value).flatMap fun v=>v.cells.toList).toArray 85)) (.slice (some ⟨w.drew.heap.size,0,none⟩) 1 1) [M]:=C7 Y9 w.drew [M] (by exact zU rfl) [.pointer (some ⟨M,0,none⟩)] rfl
  generalize w.drew.alloc (.cells (([.pointer (some ⟨M,0,none⟩)]:List Value).flatMap fun v=>v.cells.toList).toArray 85)=w1 at *;refine zR ?_;refine And.intro (Tn.cl cB) (zE ?_);refine b7 _ (hl _ cB) (zR ?_);refine And.intro (Tn.cl cB) (zE ?_);refine I5 c2h (l:=[]) (news:=[M]) rfl (Row.nil w1 w.heap.size) rfl hbx Y9 a55 (by exact zU rfl) zd cB.size fun v' w2 hr hg=>?_
  rw [yP] at hr;have c2:Cl w w2:=hg.toCl rfl cB;obtain ⟨a9,c9,rfl,_⟩:=hr.form;refine zR ?_;refine And.intro (Tn.cl c2) (zE ?_);refine And.intro (Tn.cl c2) (zE ?_);refine And.intro (Tn.cl c2) (zE ?_);refine zT (c2.blk hc) [.slice a9 1 c9] fun w3 u3=>?_;have n3:Tn g.cur w w3:=(Tn.cl c2).trans (Tn.upd u3);refine zR ?_;refine And.intro n3 (zR ?_);exact ⟨rfl,_,hr.updT u3 (c2.blk hc) zd,u3.at_,n3⟩
theorem c2i {G0 t M:Nat} {g:Gm} (hne:G0≠g.cur) (hGM:G0≠M) (hcM:g.cur≠M) {w:World} {fz:Nat×Nat} {dc d:Nd} (hb:w.heap[G0]?=some (.cells (gmA g) t fz)) (hc:w.heap[g.cur]?=some (.cells (F7 dc) 141 (0,0))) (hk:dc.kids = .slice none 0 0)
  (hM:w.heap[M]?=some (.cells (F7 d) 141 (0,0))) :
  Calls G.P 144 #[.pointer (some ⟨G0,0,none⟩),.pointer (some ⟨M,0,none⟩),.pointer none,.bool false] w (fun r w'=>r = .returned (.tuple #[])∧∃ v,Row 85 1 O8 w.heap.size w' v [M]
  ∧w'.heap[g.cur]?=some (.cells (F7 { dc with kids:=v }) 141 (0,0))∧w'.heap[M]?=some (.cells (F7 { d with par:=.pointer (some ⟨g.cur,0,none⟩) }) 141 (0,0))∧Fr [M,g.cur] w w'):=by
 refine zN func144 ?_;refine zR ?_;refine b7 _ (a9x hb) (zR ?_);refine zT hM [.pointer (some ⟨g.cur,0,none⟩)] fun w1 u1=>?_;refine zR ?_;refine G7 true (N2 rfl _) (zR ?_);refine m8 (b9E hne ((Tn.upd u1).blk hb hGM) ((Tn.upd u1).blk hc hcM) hk) ?_;rintro e w2 ⟨rfl,v,hr,h2,n2⟩;refine ⟨_,rfl,zR ?_⟩;have hr':=hr.mono (by rw [u1.size];exact yO _:w.heap.size≤w1.heap.size)
 exact ⟨rfl,v,hr',h2,n2.blk u1.at_ (wY hcM),(Fr.upd u1 (by simp)).trans (Fr.tn n2 (.inl (by simp)))⟩
theorem b9F {p:g9} (hI:B7 p) (hN:Y6 p) {G0 b M:Nat} {g:Gm} {cv:Value} {d:Nd} (hm:d.mv∈p9 p) (htg:(d.tags:Int)=a8N p d.mv) (w:World) (hT:C6 w) (hP:G8 w g.P b p cv)
  (hM:w.heap[M]?=some (.cells (F7 d) 141 (0,0))) (hGM:G0≠M) (hb:w.heap[G0]?=some (.cells (gmA g) 131 (0,0))) :
  Calls G.P 145 #[.pointer (some ⟨G0,0,none⟩),.pointer (some ⟨M,0,none⟩)] w (fun r w'=>r = .returned (.tuple #[])∧∃ P' b',w.heap.size≤P'∧w.heap.size≤b'∧G8 w' P' b' (made p d.mv) (.slice none 0 0)
  ∧w'.heap[G0]?=some (.cells (gmA { g with P:=P' }) 131 (0,0))∧w'.heap[M]?=some (.cells (F7 { d with pos:=.pointer (some ⟨P',0,none⟩) }) 141 (0,0))∧Fr [G0,M] w w'):=by
 have hGs:G0<w.heap.size:=(yn.1 hb).1;have hMs:M<w.heap.size:=(yn.1 hM).1;refine zN func145 ?_;refine zR ?_;refine b7 _ (a4W hb) (zR ?_);refine m8 (a6m hI hN hm htg w hT hP hM) ?_;rintro e w1 ⟨P',b',rfl,s1,s2,hH',hB',c1⟩;refine ⟨_,rfl,zR ?_⟩;refine G7 false (N2 rfl _) (zR ?_);refine zT (c1.blk hb) [.pointer (some ⟨P',0,none⟩)] fun w2 u2=>?_;refine zR ?_;refine K2 ((Tn.upd u2).blk (c1.blk hM) (wY hGM)) [.pointer (some ⟨P',0,none⟩)] rfl zk rfl (by intro v hv;simp at hv;subst hv;rfl) (zU rfl) fun w3 u3=>zR ?_
 have k2:∀ {k:Nat} {o:Obj},w1.heap[k]?=some o→k≠G0→k≠M→w3.heap[k]?=some o:=fun h n1 n2=>(Tn.upd u3).blk ((Tn.upd u2).blk h n1) n2;exact ⟨rfl,P',b',s1,s2,⟨k2 hH' zo zo,k2 hB' zo zo,.inl rfl⟩,(Tn.upd u3).blk u2.at_ hGM,u3.at_,((Fr.cl c1).trans (Fr.upd u2 (by simp))).trans (Fr.upd u3 (by simp))⟩
end
