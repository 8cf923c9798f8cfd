/- One part of the proof: Pk20 Pk21 Pk22 Pk23 Pk24 Pk25 Pk26 Pk27 Pk28 Pk29 Pk30. -/
import Derived.Test.YtpclhlhcegcflaaGreatDoorM1
import Derived.Test.YtpclhlhcegcflaaGreatDoorM3
import Derived.Test.YtpclhlhcegcflaaGreatDoorM6
import Derived.Test.YtpclhlhcegcflaaGreatDoorM9
import Derived.Test.YtpclhlhcegcflaaGreatDoorM12
namespace Go.Proofs.YtpclhlhcegcflaaGreatDoor
set_option maxRecDepth 100000
set_option linter.unusedSimpArgs false
set_option linter.unusedVariables false
section
open Go Go.RowKit
open E
open Ch Bb
section nd
variable {M t:Nat} {d:Nd} {w:World} {fz:Nat×Nat} (hM:w.heap[M]?=some (.cells (F6 d) t fz))
include hM
theorem c0N:Calls G.P 140 #[.pointer (some ⟨M,0,none⟩)] w (D9 (.int .i8 d.mv.fr) w):=by
 refine zN Tryz.func140 ?_;refine zR ?_;refine d9 _ (b4M hM) (zR ?_);exact ⟨rfl,rfl⟩
theorem c4B:Calls G.P 141 #[.pointer (some ⟨M,0,none⟩)] w (D9 (.int .i8 d.mv.to) w):=by
 refine zN Tryz.func141 ?_;refine zR ?_;refine d9 _ (b4N hM) (zR ?_);exact ⟨rfl,rfl⟩
theorem b0R:Calls G.P 142 #[.pointer (some ⟨M,0,none⟩)] w (D9 (.int .i8 d.mv.promo) w):=by
 refine zN Tryz.func142 ?_;refine zR ?_;refine d9 _ (a8z hM) (zR ?_);exact ⟨rfl,rfl⟩
theorem b3I:Calls G.P 103 #[.pointer (some ⟨M,0,none⟩)] w (D9 (.int .u16 d.tags) w):=by
 refine zN Tryz.func103 ?_;refine zR ?_;refine d9 _ (b0D hM) (zR ?_);exact ⟨rfl,rfl⟩
end nd
section hd
variable {b P t:Nat} {h:Hd} {cv:Value} {w:World} {fz:Nat×Nat} (hP:w.heap[P]?=some (.cells (hdA b h cv) t fz))
include hP
theorem b0S:Calls G.P 149 #[.pointer (some ⟨P,0,none⟩)] w (D9 (.pointer (some ⟨b,0,none⟩)) w):=by
 refine zN Tryz.func149 ?_;refine zR ?_;refine d9 _ (a8x hP) (zR ?_);exact ⟨rfl,rfl⟩
theorem c5D:Calls G.P 171 #[.pointer (some ⟨P,0,none⟩)] w (D9 (.int .i8 h.ep) w):=by
 refine zN Tryz.func171 ?_;refine zR ?_;refine d9 _ (a9M hP) (zR ?_);exact ⟨rfl,rfl⟩
theorem c3j:Calls G.P 172 #[.pointer (some ⟨P,0,none⟩)] w (D9 (.int .i64 h.half) w):=by
 refine zN Tryz.func172 ?_;refine zR ?_;refine d9 _ (a2Z hP) (zR ?_);exact ⟨rfl,rfl⟩
theorem c3k:Calls G.P 173 #[.pointer (some ⟨P,0,none⟩)] w (D9 (.int .i64 h.full) w):=by
 refine zN Tryz.func173 ?_;refine zR ?_;refine d9 _ (a55 hP) (zR ?_);exact ⟨rfl,rfl⟩
theorem b6m:Calls G.P 174 #[.pointer (some ⟨P,0,none⟩)] w (D9 (m9 h.cas) w):=by
 refine zN Tryz.func174 ?_;refine zR ?_;refine d9 _ (a36 hP) (zR ?_);exact ⟨rfl,rfl⟩
end hd
theorem c0O (p:l9) (l:List PM) (m:Mv):(s1M p l m).length≤2:=by
 unfold s1M;split
 ·simp
 ·simp only [zF];split<;>split<;>simp [r9,a0K]
theorem a65 (p:l9) (m:Mv) (t:Nat):(signM p m t).length≤1:=by unfold signM;(repeat' split)<;>simp
theorem a0v {M t:Nat} {d:Nd} {w:World} {fz:Nat×Nat} (hM:w.heap[M]?=some (.cells (F6 d) t fz)) (h64:d.tags<64) (k:Nat) (hk:k<6) (n:Int) (hn:n=((2^k:Nat):Int)):Calls G.P 147 #[.pointer (some ⟨M,0,none⟩),.int .u16 n] w (D9 (.bool (d.tags.testBit k)) w):=by
 rw [hn];exact a1W zo zo w hM
set_option maxHeartbeats 2000000 in
theorem a7a {p:l9} (hI:B9 p) (hN:a06 p) (hle:(A5 p).length≤218) {d:Nd} {P b M:Nat} {ad:Addr} {n0 c0:Nat} (hm:d.mv∈s8 p) {ck:Bool} (hck:inCheck (made p d.mv)=true→ck=true) (htg:(d.tags:Int)=J4 p d.mv+(if ck then 16 else 0)) (w:World) (hT:C9 w) (hP:H9 w P b p (.slice (some ad) n0 c0))
  (hM:w.heap[M]?=some (.cells (F6 d) 141 (0,0))) :
  Calls G.P 104 #[.agg #[],.pointer (some ⟨P,0,none⟩),.pointer (some ⟨M,0,none⟩)] w (L4 (m9 (b6g p d.mv d.tags)) w):=by
 obtain ⟨_,_,h64⟩:=a0R htg;obtain ⟨f0,f1,t0,t1,hpm⟩:=A7 hI hm;obtain ⟨fr,hfr⟩:=ze f0;have hf64:fr<64:=by omega
 have pc:=fun w hT hB=>a0b (mbOf p) b (t:=237) (fz:=(0,0)) fr hf64 w hT hB;rw [V0 hI.pc hf64,← hfr] at pc;have hpr:=hI.pc d.mv.fr;have ety:=fun w=>a1i (sq p d.mv.fr) hpr.1 hpr.2 w;have hchk:=fun (w:World) hT hP hM=>a3D hI hN (P:=P) (b:=b) (M:=M) (cv:=.slice (some ad) n0 c0) (d:=d) hm hck htg w hT hP hM;have hfs:=fun (w:World) hT hP hM=>b80 hI hle (P:=P) (b:=b) (M:=M) (t:=141) (fz:=(0,0)) (ad:=ad) (n0:=n0) (c0:=c0) (d:=d) f0 f1 w hT hP hM;have htoT:V4 d.mv.to=r9 d.mv.to++a0K d.mv.to:=by unfold V4;rw [zJ zo]
 have hk0:0≤kindOf (sq p d.mv.fr)∧kindOf (sq p d.mv.fr)≤6:=by unfold kindOf;split<;>omega
 have hs6:kindOf (sq p d.mv.fr)=6→s1M p (O0 p) d.mv=[]:=fun h=>by unfold s1M;rw [zM h]
 have hsan:b6g p d.mv d.tags=if d.tags.testBit 0 then [79,45,79]++signM p d.mv d.tags else if d.tags.testBit 1 then [79,45,79,45,79]++signM p d.mv d.tags
  else a0H (kindOf (sq p d.mv.fr))++s1M p (O0 p) d.mv++(if d.tags.testBit 2||d.tags.testBit 3 then (if kindOf (sq p d.mv.fr)=6 then r9 d.mv.fr else [])++[120] else [])++V4 d.mv.to++(if d.mv.promo=0 then [] else [61]++a0H d.mv.promo)++signM p d.mv d.tags:=rfl
 rw [hsan];clear hsan;have gl:=a65 p d.mv d.tags;have sl:=c0O p (O0 p) d.mv;have ll:(a0H (kindOf (sq p d.mv.fr))).length≤1:=K2 _;have pl:(a0H d.mv.promo).length≤1:=K2 _;have el:=fun w=>a5L (kindOf (sq p d.mv.fr)) hk0.1 hk0.2 w;have ep:=fun w=>a5L d.mv.promo zo zo w;generalize signM p d.mv d.tags=SG at *;generalize s1M p (O0 p) d.mv=S1 at *;generalize kindOf (sq p d.mv.fr)=KD at *;refine zN Tryz.func104 ?_;refine zR ?_;have cb:=Cl.alloc w (.cells #[] 149);generalize w.alloc (.cells #[] 149)=wb at *;refine o8 (hchk wb (hT.cl cb) (hP.step cb) (cb.blk hM)) fun w1 c1=>?_;have cw1:=cb.trans c1;have hM1:=cw1.blk hM;refine zR ?_;refine g8 (a0v hM1 h64 0 zd _ rfl) ?_;cases hb0:d.tags.testBit 0;rotate_left
 ·refine zR ?_;refine E.A2 (z8 (x:=[79,45,79]) (y:=SG) (by simp;omega)) (zR ?_)
  exact ⟨F0 (A6 [79,45,79] SG),cw1⟩
 refine zR ?_;refine g8 (a0v hM1 h64 1 zd _ rfl) ?_;cases hb1:d.tags.testBit 1;rotate_left
 ·refine zR ?_;refine E.A2 (z8 (x:=[79,45,79,45,79]) (y:=SG) (by simp;omega)) (zR ?_)
  exact ⟨F0 (A6 [79,45,79,45,79] SG),cw1⟩
 refine zR ?_;refine t7 _ b30 ?_;have cA:=Cl.alloc w1 (.cells (Value.agg #[.pointer none,.slice none 0 0]).cells 160);have nA:=g7 w1 (.cells (Value.agg #[.pointer none,.slice none 0 0]).cells 160);generalize w1.alloc (.cells (Value.agg #[.pointer none,.slice none 0 0]).cells 160)=w2 at *;refine zR ?_;refine m8 (b0P nA) ?_;rintro r w3 ⟨rfl,u3⟩;refine ⟨_,rfl,?_⟩;have hb3:Bld w1 w1.heap.size [] w3:=Bld.fresh ((Tn.upd u3).toCl cA (yH _)) (yH _) u3.at_;have cw3:=cw1.trans hb3.cl;refine zR ?_;refine g8 (b0S (hP.step cw3).hd) (zR ?_);refine g8 (c0N (cw3.blk hM)) (zR ?_);refine g8 (pc _ (hT.cl cw3) (hP.step cw3).bd) (zG ?_);refine B0 (σ:=Unit) [10] 12 (fun _=>[]) (fun _ w'=>Bld w1 w1.heap.size (a0H KD) w') zk ?_ (fun _ j w4 h4=>?_)
 ·refine zR ?_;refine g8 (ety _) (zR ?_);refine g8 (el _) ?_;rcases kinds hk0.1 hk0.2 with rfl | rfl | rfl | rfl | rfl | rfl | rfl<;>(refine zR ?_)<;>first
   | exact ⟨(),trivial,hb3⟩
   | (refine m8 (E9 (a0H _) hb3 zd (by rw [a0H];decide)) ?_
      rintro r w4 ⟨rfl,h4⟩;refine ⟨_,rfl,?_⟩;refine zR ?_;exact ⟨(),trivial,h4⟩)
 have cw4:=cw1.trans h4.cl;refine B0 (σ:=Unit) [11] 12 (fun _=>[]) (fun _ w'=>Bld w1 w1.heap.size (a0H KD++S1) w') zk ?_ (fun _ j w5 h5=>?_)
 ·refine zR ?_;refine o8 (hfs _ (hT.cl cw4) (hP.step cw4) (cw4.blk hM)) fun w5 c5=>?_;have h5:=h4.step c5;refine zR ?_;apply E.y8<;>intro h
  ·refine zR ?_;refine m8 (E9 S1 h5 zo zo) ?_;rintro r w6 ⟨rfl,h6⟩;refine ⟨_,rfl,?_⟩;refine zR ?_;exact ⟨(),trivial,h6⟩
  ·have e:S1=[]:=by rw [Z8] at h;exact N5.1 h
   refine zR ?_;exact ⟨(),trivial,by rw [e,zm];exact h5⟩
 have cw5:=cw1.trans h5.cl;have hM5:=cw5.blk hM;have hl5:(a0H KD++S1).length≤3:=by rw [zF];omega
 refine B0 (σ:=Unit) [] 12 (fun _=>[]) (fun _ w'=>Bld w1 w1.heap.size ((a0H KD++S1)++(if d.tags.testBit 2||d.tags.testBit 3 then (if KD=6 then r9 d.mv.fr else [])++[120] else [])) w') zk ?_ (fun _ j w6 h6=>?_)
 ·have tg2:=a0v hM5 h64 2 zd 4 rfl;have tg3:=a0v hM5 h64 3 zd 8 rfl;cases hb2:d.tags.testBit 2
  ·rw [hb2] at tg2;refine zR ?_;refine g8 tg2 (zR ?_);cases hb3':d.tags.testBit 3
   ·rw [hb3'] at tg3;refine g8 tg3 (zR ?_);exact ⟨(),trivial,by simpa using h5⟩
   ·rw [hb3'] at tg3;refine g8 tg3 (zR ?_);refine g8 (ety _) ?_;by_cases hk:KD=6
    ·subst hk;have e:a0H 6++S1=[]:=by rw [hs6 rfl];rfl
     rw [e] at h5 ⊢;refine zR ?_;refine g8 (c1Q h5) (zR ?_);refine a4t hM5 (zR ?_);refine g8 (a1q d.mv.fr f0 f1 _) (zR ?_);refine g8 (b3H (d.mv.fr%8) zo zo _) (zR ?_);refine m8 (E9 (r9 d.mv.fr) h5 zd (by rw [a9X];decide)) ?_
     rintro r w6 ⟨rfl,h6⟩;refine ⟨_,rfl,?_⟩;refine zR ?_;refine m8 (E9 [120] h6 (by simp [r9]) zd) ?_
     rintro r w7 ⟨rfl,h7⟩;refine ⟨_,rfl,?_⟩;refine zR ?_;exact ⟨(),trivial,h7⟩
    ·refine zR ?_;refine E.p8 hk (zR ?_);repeat (refine E.p8 hk ?_;refine zR ?_)
     refine m8 (E9 [120] h5 zo zd) ?_;rintro r w7 ⟨rfl,h7⟩;refine ⟨_,rfl,?_⟩;refine zR ?_;exact ⟨(),trivial,by rw [zJ hk];exact h7⟩
  ·rw [hb2] at tg2;refine zR ?_;refine g8 tg2 (zR ?_);refine g8 (ety _) ?_;by_cases hk:KD=6
   ·subst hk;have e:a0H 6++S1=[]:=by rw [hs6 rfl];rfl
    rw [e] at h5 ⊢;refine zR ?_;refine g8 (c1Q h5) (zR ?_);refine a4t hM5 (zR ?_);refine g8 (a1q d.mv.fr f0 f1 _) (zR ?_);refine g8 (b3H (d.mv.fr%8) zo zo _) (zR ?_);refine m8 (E9 (r9 d.mv.fr) h5 zd (by rw [a9X];decide)) ?_
    rintro r w6 ⟨rfl,h6⟩;refine ⟨_,rfl,?_⟩;refine zR ?_;refine m8 (E9 [120] h6 (by simp [r9]) zd) ?_
    rintro r w7 ⟨rfl,h7⟩;refine ⟨_,rfl,?_⟩;refine zR ?_;exact ⟨(),trivial,h7⟩
   ·refine zR ?_;refine E.p8 hk (zR ?_);repeat (refine E.p8 hk ?_;refine zR ?_)
    refine m8 (E9 [120] h5 zo zd) ?_;rintro r w7 ⟨rfl,h7⟩;refine ⟨_,rfl,?_⟩;refine zR ?_;exact ⟨(),trivial,by rw [zJ hk];exact h7⟩
 have cw6:=cw1.trans h6.cl;have hM6:=cw6.blk hM;have hl6:((a0H KD++S1)++(if d.tags.testBit 2||d.tags.testBit 3 then (if KD=6 then r9 d.mv.fr else [])++[120] else [])).length≤5:=by
  rw [zF];have:(if d.tags.testBit 2||d.tags.testBit 3 then (if KD=6 then r9 d.mv.fr else [])++[120] else []).length≤2:=by (repeat' split)<;>simp [r9]
  omega
 generalize (a0H KD++S1)++(if d.tags.testBit 2||d.tags.testBit 3 then (if KD=6 then r9 d.mv.fr else [])++[120] else [])=L at *
 refine zR ?_;refine a6t hM6 (zR ?_);refine g8 (a5K d.mv.to t0 t1 _) (zR ?_);refine m8 (E9 (r9 d.mv.to++a0K d.mv.to) h6 zo (by simp [r9,a0K])) ?_
 rintro r w7 ⟨rfl,h7⟩;rw [← htoT] at h7;refine ⟨_,rfl,?_⟩;have hl7:(L++V4 d.mv.to).length≤7:=by rw [zF,htoT];simp [r9,a0K];omega
 have hM7:=(cw1.trans h7.cl).blk hM;refine zG ?_;refine B0 (σ:=Unit) [] 12 (fun _=>[]) (fun _ w'=>Bld w1 w1.heap.size (L++V4 d.mv.to++(if d.mv.promo=0 then [] else [61]++a0H d.mv.promo)) w') zk ?_ (fun _ j w8 h8=>?_)
 ·refine zR ?_;refine a4d hM7 (zR ?_);apply E.y8<;>intro h
  ·refine zR ?_;refine m8 (E9 [61] h7 zo zd) ?_;rintro r w8 ⟨rfl,h8⟩;refine ⟨_,rfl,?_⟩;have hM8:=(cw1.trans h8.cl).blk hM;refine zR ?_;refine a4d hM8 (zR ?_);refine g8 (ep _) (zR ?_);refine m8 (E9 (a0H d.mv.promo) h8 (by rw [zF,List.length_singleton];omega) zo) ?_
   rintro r w9 ⟨rfl,h9⟩;refine ⟨_,rfl,?_⟩;refine zR ?_;exact ⟨(),trivial,by rw [zJ h,← yF];exact h9⟩
  ·refine zR ?_;exact ⟨(),trivial,by rw [zM h,zm];exact h7⟩
 have cw8:=cw1.trans h8.cl;have hl8:(L++V4 d.mv.to++(if d.mv.promo=0 then [] else [61]++a0H d.mv.promo)).length≤9:=by
  rw [zF];have:(if d.mv.promo=0 then [] else [61]++a0H d.mv.promo).length≤2:=by split<;>simp;omega
  omega
 refine zR ?_;refine o8 (hchk _ (hT.cl cw8) (hP.step cw8) (cw8.blk hM)) fun w9 c9=>zR ?_;refine m8 (E9 SG (h8.step c9) zo zo) ?_;rintro r w10 ⟨rfl,h10⟩;refine ⟨_,rfl,?_⟩;refine zR ?_;refine m8 (a1T h10) ?_;rintro r w11 ⟨rfl,c11⟩;refine ⟨_,rfl,?_⟩;refine zR ?_;exact ⟨rfl,cw1.trans c11⟩
theorem a7b {w:World} {b:Nat} {p v:Value} (hp:p = .pointer none∨p = .pointer (some ⟨b,0,none⟩)) (hk:w.heap[b]?=some (.cells #[p,v] 160 (0,0))) :
  Calls G.P 183 #[.pointer (some ⟨b,0,none⟩)] w (fun r w'=>r = .returned (.tuple #[])∧Upd w b (.cells #[.pointer (some ⟨b,0,none⟩),v] 160 (0,0)) w'):=by
 rcases hp with rfl | rfl
 ·refine (Any.Builder_copyCheck_fresh Tryz.lays240 Tryz.Builder_Extra_240.toX72 b w (by rw [D2 hk];rfl) (by simp [World.shape?,hk];rfl) (by simp [World.frozen?,hk])).mono ?_
  rintro r w' ⟨h1,h2⟩;refine ⟨h1,?_⟩;rw [h2];exact a6f [.pointer (some ⟨b,0,none⟩)] w b 0 _ _ _ hk
 ·refine (Any.Builder_copyCheck_used Tryz.lays240 Tryz.Builder_Extra_240.toX72 b w (by rw [D2 hk];rfl)).mono ?_
  rintro r w' ⟨h1,h2⟩;subst h2;exact ⟨h1,rfl,rfl,rfl,rfl,hk,fun _ _=>rfl⟩
theorem a8L {b0:Nat} {w:World} {v:Value} {l:Tx}:Row 5 1 a0G b0 w v l↔w.ownsRow b0 5 1 v (Lib.byteCells l).length (Lib.byteCells l):=by
 unfold Row;rw [b8u,Lib.byteCells_length]
theorem Row.updT {α:Type} {enc:α→List Value} {e z b0 b T:Nat} {w w':World} {v:Value} {l:List α} {o:Obj} {cs:Array Value} {fz:Nat×Nat} (h:Row e z enc b0 w v l) (u:Upd w b o w') (hb:w.heap[b]?=some (.cells cs T fz)) (hT:T≠e):Row e z enc b0 w' v l:=by
 refine ⟨h.1,?_⟩;rcases h.2 with h2 | ⟨g,cap,cur,h1,h2,h3,h4⟩
 ·exact .inl h2
 ·refine .inr ⟨g,cap,cur,h1,h2,(Tn.upd u).blk h3 (fun e=>?_),h4⟩;subst e;rw [hb] at h3;injection h3 with h3;injection h3 with _ h3 _;exact hT h3
theorem b0T {w0 w:World} {b b1:Nat} {l s:Tx} {vs:Value} (h:Bld w0 b l w) (hr:Row 5 1 a0G b1 w vs s) (hl:l.length+s.length≤100000) :
  Calls G.P 160 #[.pointer (some ⟨b,0,none⟩),vs] w (fun r w'=>r = .returned (.tuple #[.int .i64 s.length,.nilIface])∧Bld w0 b (l++s) w'):=by
 obtain ⟨p,hp,hB,v,hk,hown,hne⟩:∃ p,(p = .pointer none∨p = .pointer (some ⟨b,0,none⟩))∧Lib.BuilderAt 160 5 w0.heap.size b p (Lib.byteCells l) w:=by
  rcases h.is with h | h
  ·exact ⟨_,.inl rfl,h⟩
  ·exact ⟨_,.inr rfl,h⟩
 obtain ⟨a,c,rfl,ha⟩:=hr.form;refine zN Tryz.func160 ?_;refine zR ?_;refine m8 (a7b hp hk) ?_;rintro r w1 ⟨rfl,u1⟩;refine ⟨_,rfl,?_⟩;have hv0:Row 5 1 a0G w0.heap.size w v l:=a8L.2 hown;have hv:Row 5 1 a0G w0.heap.size w1 v l:=hv0.updT u1 hk zd;have hs:Row 5 1 a0G b1 w1 (.slice a s.length c) s:=hr.updT u1 hk zd;obtain ⟨av,cv,rfl,hav⟩:=hv.form;refine zR ?_;refine d9 _ (D8 u1.at_ rfl rfl) (zR ?_);refine F7 S7 (l:=l) (news:=s) rfl hv rfl hs P5 a3A hl zd (by rw [u1.size];exact h.cl.size) fun v' w2 hr2 hg=>?_
 obtain ⟨a9,c9,rfl,_⟩:=hr2.form;have hk2:w2.heap[b]?=some (.cells #[.pointer (some ⟨b,0,none⟩),.slice av l.length cv] 160 (0,0)):=hg.keep b _ u1.at_ hne;refine zR ?_;refine zT hk2 [.slice a9 (l++s).length c9] fun w3 u3=>?_;refine zR ?_;have hbl:b<w1.heap.size:=(Array.getElem?_eq_some_iff.1 u1.at_).1;have c1:Cl w0 w1:=(Tn.upd u1).toCl h.cl hB;have c2:Cl w0 w2:=hg.cl w0 rfl c1;exact ⟨rfl,.inr ⟨hB,_,u3.at_,by have:=a8L.1 (hr2.updT u3 hk2 zd);rwa [Lib.byteCells_length] at this ⊢,hg.ne hbl hne⟩,(Tn.upd u3).toCl c2 hB⟩
theorem a9Z (k:Int):(a3g k).length≤1:=by unfold a3g;(repeat' split)<;>simp
theorem b2m {P M t:Nat} {d:Nd} {fz:Nat×Nat} (f0:0≤d.mv.fr) (f1:d.mv.fr≤63) (t0:0≤d.mv.to) (t1:d.mv.to≤63) (hp:0≤d.mv.promo∧d.mv.promo≤6) (w:World) (hM:w.heap[M]?=some (.cells (F6 d) t fz)) (x:Value) (hx:x = .pointer (some ⟨P,0,none⟩)) :
  Calls G.P 106 #[.agg #[],x,.pointer (some ⟨M,0,none⟩)] w (L4 (m9 (uciT d.mv)) w):=by
 subst hx;have htoT:V4 d.mv.to=r9 d.mv.to++a0K d.mv.to:=by unfold V4;rw [zJ zo]
 have hfrT:V4 d.mv.fr=r9 d.mv.fr++a0K d.mv.fr:=by unfold V4;rw [zJ zo]
 have hu:uciT d.mv=V4 d.mv.fr++V4 d.mv.to++(if d.mv.promo=0 then [] else a3g d.mv.promo):=by
  unfold uciT;by_cases e:d.mv.promo=0
  ·rw [zM e,zJ zo]
  ·rw [zJ e,zM zo]
 rw [hu];clear hu;have sl:=a9Z d.mv.promo;refine zN Tryz.func106 ?_;refine zR ?_;have cb:=Cl.alloc w (.cells #[] 151);generalize w.alloc (.cells #[] 151)=w1 at *;refine t7 _ b30 ?_;have cA:=Cl.alloc w1 (.cells (Value.agg #[.pointer none,.slice none 0 0]).cells 160);have nA:=g7 w1 (.cells (Value.agg #[.pointer none,.slice none 0 0]).cells 160);generalize w1.alloc (.cells (Value.agg #[.pointer none,.slice none 0 0]).cells 160)=w2 at *;refine zR ?_;refine m8 (b0P nA) ?_;rintro r w3 ⟨rfl,u3⟩;refine ⟨_,rfl,?_⟩;refine zR ?_;refine m8 (b3z (w0:=w1) 5 zd ((Tn.upd u3).toCl cA (yH _)) (yH _) u3.at_) ?_;rintro r w4 ⟨rfl,h4⟩;refine ⟨_,rfl,?_⟩;refine zR ?_;refine g8 (c0N ((cb.trans h4.cl).blk hM)) (zR ?_);refine m8 (a9Y d.mv.fr f0 f1 _) ?_;rintro r w5 ⟨v5,rfl,hr5,c5⟩;obtain ⟨a5,k5,rfl,_⟩:=hr5.form;refine ⟨_,rfl,?_⟩;refine zR ?_;refine m8 (b0T (h4.step c5) hr5 (by simp [r9,a0K])) ?_
 rintro r w6 ⟨rfl,h6⟩;refine ⟨_,rfl,?_⟩;rw [yJ,← hfrT] at h6;refine zR ?_;refine g8 (c4B ((cb.trans h6.cl).blk hM)) (zR ?_);refine m8 (a9Y d.mv.to t0 t1 _) ?_;rintro r w7 ⟨v7,rfl,hr7,c7⟩;obtain ⟨a7,k7,rfl,_⟩:=hr7.form;refine ⟨_,rfl,?_⟩;refine zR ?_;refine m8 (b0T (h6.step c7) hr7 (by rw [hfrT];simp [r9,a0K])) ?_
 rintro r w8 ⟨rfl,h8⟩;refine ⟨_,rfl,?_⟩;rw [← htoT] at h8;have hM8:=(cb.trans h8.cl).blk hM;refine zR ?_;refine g8 (b0R hM8) (zR ?_);apply E.y8<;>intro h
 ·refine zR ?_;refine g8 (b0R hM8) (zR ?_);refine m8 (b6j d.mv.promo hp.1 hp.2 _) ?_;rintro r w9 ⟨v9,rfl,hr9,c9⟩;obtain ⟨a9,k9,rfl,_⟩:=hr9.form;refine ⟨_,rfl,?_⟩;refine zR ?_;refine m8 (b0T (h8.step c9) hr9 (by rw [hfrT,htoT];simp [r9,a0K];omega)) ?_
  rintro r w10 ⟨rfl,h10⟩;refine ⟨_,rfl,?_⟩;refine zR ?_;refine m8 (a1T h10) ?_;rintro r w11 ⟨rfl,c11⟩;refine ⟨_,rfl,?_⟩;refine zR ?_;exact ⟨by rw [zJ h];rfl,cb.trans c11⟩
 ·refine zR ?_;refine m8 (a1T h8) ?_;rintro r w11 ⟨rfl,c11⟩;refine ⟨_,rfl,?_⟩;refine zR ?_;exact ⟨by rw [zM h,zm];rfl,cb.trans c11⟩
set_option maxHeartbeats 2000000 in
theorem b2n {p:l9} (hI:B9 p) (hN:a06 p) (hle:(A5 p).length≤218) {d:Nd} {P b M:Nat} {cv:Value} (hm:d.mv∈s8 p) {ck:Bool} (hck:inCheck (made p d.mv)=true→ck=true) (htg:(d.tags:Int)=J4 p d.mv+(if ck then 16 else 0)) (w:World) (hT:C9 w) (hP:H9 w P b p cv)
  (hM:w.heap[M]?=some (.cells (F6 d) 141 (0,0))) :
  Calls G.P 105 #[.agg #[],.pointer (some ⟨P,0,none⟩),.pointer (some ⟨M,0,none⟩)] w (L4 (m9 (c0I p d.mv d.tags)) w):=by
 obtain ⟨_,_,h64⟩:=a0R htg;obtain ⟨f0,f1,t0,t1,hpm⟩:=A7 hI hm;obtain ⟨fr,hfr⟩:=ze f0;have hf64:fr<64:=by omega
 have pc:=fun w hT hB=>a0b (mbOf p) b (t:=237) (fz:=(0,0)) fr hf64 w hT hB;rw [V0 hI.pc hf64,← hfr] at pc;have hpr:=hI.pc d.mv.fr;have ety:=fun w=>a1i (sq p d.mv.fr) hpr.1 hpr.2 w;have hchk:=fun (w:World) hT hP hM=>a3D hI hN (P:=P) (b:=b) (M:=M) (cv:=cv) (d:=d) hm hck htg w hT hP hM;have hfrT:V4 d.mv.fr=r9 d.mv.fr++a0K d.mv.fr:=by unfold V4;rw [zJ zo]
 have htoT:V4 d.mv.to=r9 d.mv.to++a0K d.mv.to:=by unfold V4;rw [zJ zo]
 have hk0:0≤kindOf (sq p d.mv.fr)∧kindOf (sq p d.mv.fr)≤6:=by unfold kindOf;split<;>omega
 have hsan:c0I p d.mv d.tags=if d.tags.testBit 0 then [79,45,79]++signM p d.mv d.tags else if d.tags.testBit 1 then [79,45,79,45,79]++signM p d.mv d.tags
  else a0H (kindOf (sq p d.mv.fr))++V4 d.mv.fr++(if d.tags.testBit 2||d.tags.testBit 3 then [120] else [])++V4 d.mv.to++(if d.mv.promo=0 then [] else [61]++a0H d.mv.promo)++signM p d.mv d.tags:=rfl
 rw [hsan];clear hsan;have gl:=a65 p d.mv d.tags;have ll:(a0H (kindOf (sq p d.mv.fr))).length≤1:=K2 _;have pl:(a0H d.mv.promo).length≤1:=K2 _;have el:=fun w=>a5L (kindOf (sq p d.mv.fr)) hk0.1 hk0.2 w;have ep:=fun w=>a8K d.mv.promo zo w;generalize signM p d.mv d.tags=SG at *;generalize kindOf (sq p d.mv.fr)=KD at *;refine zN Tryz.func105 ?_;refine zR ?_;have cb:=Cl.alloc w (.cells #[] 150);generalize w.alloc (.cells #[] 150)=wb at *;refine o8 (hchk wb (hT.cl cb) (hP.step cb) (cb.blk hM)) fun w1 c1=>?_;have cw1:=cb.trans c1;have hM1:=cw1.blk hM;refine zR ?_;refine g8 (a0v hM1 h64 0 zd _ rfl) ?_;cases hb0:d.tags.testBit 0;rotate_left
 ·refine zR ?_;refine E.A2 (z8 (x:=[79,45,79]) (y:=SG) (by simp;omega)) (zR ?_)
  exact ⟨F0 (A6 [79,45,79] SG),cw1⟩
 refine zR ?_;refine g8 (a0v hM1 h64 1 zd _ rfl) ?_;cases hb1:d.tags.testBit 1;rotate_left
 ·refine zR ?_;refine E.A2 (z8 (x:=[79,45,79,45,79]) (y:=SG) (by simp;omega)) (zR ?_)
  exact ⟨F0 (A6 [79,45,79,45,79] SG),cw1⟩
 refine zR ?_;refine g8 (b0S (hP.step cw1).hd) (zR ?_);refine g8 (c0N hM1) (zR ?_);refine g8 (pc _ (hT.cl cw1) (hP.step cw1).bd) (zR ?_);refine g8 (ety _) (zR ?_);refine g8 (el _) (zR ?_);refine a4t hM1 (zR ?_);refine g8 (a5K d.mv.fr f0 f1 _) ?_;rw [← hfrT];refine zG ?_;refine Nx.mk (zG ?_);refine B0 (σ:=Unit) [11] 13 (fun _=>[(11,m9 (if d.tags.testBit 2||d.tags.testBit 3 then [120] else []))]) (fun _ w'=>w'=w1) zk ?_ (fun _ j w2 e2=>?_)
 ·have tg2:=a0v hM1 h64 2 zd 4 rfl;have tg3:=a0v hM1 h64 3 zd 8 rfl;have hne:¬ (tx (V4 d.mv.fr)=⟨#[]⟩):=by
   intro e;rw [Z8,N5,hfrT] at e;cases e
  cases hb2:d.tags.testBit 2
  ·rw [hb2] at tg2;refine zR ?_;refine g8 tg2 (zR ?_);cases hb3':d.tags.testBit 3
   ·rw [hb3'] at tg3;refine g8 tg3 (zR ?_);exact ⟨(),⟨rfl,trivial⟩,rfl⟩
   ·rw [hb3'] at tg3;refine g8 tg3 (zR ?_);refine g8 (ety _) (zR ?_);apply E.d6<;>intro h
    ·have hk:=h;refine zR ?_;refine E.p8 hne (zR ?_);exact ⟨(),⟨rfl,trivial⟩,rfl⟩
    ·refine zR ?_;repeat (refine E.p8 h ?_;refine zR ?_)
     exact ⟨(),⟨rfl,trivial⟩,rfl⟩
  ·rw [hb2] at tg2;refine zR ?_;refine g8 tg2 (zR ?_);refine g8 (ety _) (zR ?_);apply E.d6<;>intro h
   ·have hk:=h;refine zR ?_;refine E.p8 hne (zR ?_);exact ⟨(),⟨rfl,trivial⟩,rfl⟩
   ·refine zR ?_;repeat (refine E.p8 h ?_;refine zR ?_)
    exact ⟨(),⟨rfl,trivial⟩,rfl⟩
 subst e2;have xl:(if d.tags.testBit 2||d.tags.testBit 3 then ([120]:Tx) else []).length≤1:=by split<;>simp
 generalize (if d.tags.testBit 2||d.tags.testBit 3 then ([120]:Tx) else [])=XC at *
 refine zR ?_;refine a4d hM1 (zR ?_);refine g8 (ep _) ?_;have prl:(if d.mv.promo=0 then [] else [61]++a0H d.mv.promo).length≤2:=by split<;>simp;omega
 generalize (if d.mv.promo=0 then [] else [61]++a0H d.mv.promo)=PR at *
 have q1:(V4 d.mv.fr).length=2:=by rw [hfrT];rfl
 have q2:(V4 d.mv.to).length=2:=by rw [htoT];rfl
 refine zR ?_;refine E.A2 (z8 (x:=a0H KD) (y:=V4 d.mv.fr) zo) ?_;rw [A6];refine zR ?_;refine E.A2 (z8 (x:=a0H KD++V4 d.mv.fr) (y:=XC) (by rw [zF];omega)) ?_
 rw [A6];refine zR ?_;refine a6t hM1 (zR ?_);refine g8 (a5K d.mv.to t0 t1 _) ?_;rw [← htoT];refine zR ?_;refine E.A2 (z8 (x:=a0H KD++V4 d.mv.fr++XC) (y:=V4 d.mv.to) (by simp only [zF];omega)) ?_
 rw [A6];refine zR ?_;refine E.A2 (z8 (x:=a0H KD++V4 d.mv.fr++XC++V4 d.mv.to) (y:=PR) (by simp only [zF];omega)) ?_
 rw [A6];refine zR ?_;refine E.A2 (z8 (x:=a0H KD++V4 d.mv.fr++XC++V4 d.mv.to++PR) (y:=SG) (by simp only [zF];omega)) ?_
 rw [A6];refine zR ?_;exact ⟨rfl,cw1⟩
theorem b0U (f r:Nat) (f1:f<8) (r1:r<8) (w:World):Calls G.P 167 #[.int .i8 f,.int .i8 r] w (D9 (.int .i8 ((8*r+f:Nat):Int)) w):=by
 have:=a6R f r zo zo zo zo w;rw [show ((8*r+f:Nat):Int)=8*(r:Int)+f by push_cast;rfl];exact this
theorem b0a {t e z by_:Nat} (E1:H6 t e z by_) {l c:Operand} {k k':IntKind} (n:Nat) {dst:Option Nat} {ty:Nat} {pos:String} {af:Array Edge} {gd:Option (Nat×Bool)} {env:C8} {w:World} {K:Value→World→Prop}
  (hl:ev env l = .int k 0) (hc:ev env c = .int k' n) (hn:n≤100000) (hb:by_≤1000)
  (hk:∀ cs:Array Value,cs.size=n*z→K (.slice (some ⟨w.heap.size,0,none⟩) 0 n) (w.alloc (.cells cs e))):L5 G.P { dst,op:=.makeSlice t l c,type:=ty,pos,after:=af,guard:=gd } env w K:=by
 obtain ⟨i,zv,hi,hzv,hsz,hby,hzs⟩:=E1.info;have hle:n*by_≤100000*1000:=Nat.mul_le_mul hn hb;have hbb:(i.bytes:Int)*(n:Int)≤281474976710656:=by
  rw [hby];have e:(by_:Int)*(n:Int)=((n*by_:Nat):Int):=by push_cast;exact Int.mul_comm _ _
  rw [e];omega
 have:=run_make (P:=G.P) w t e i zv E1.ty hi hzv k k' 0 n zo zo hbb zo;simp only [zg] at this;refine ⟨.inl ⟨_,_,?_,hk (madeCells zv.cells (n*i.size)) (by rw [size_madeCells,hsz])⟩⟩
 show (do pure (Next.value (← Instr.makeSlice t (ev env l) (ev env c))):Sem Next).run G.P w=_
 rw [hl,hc,Sem.run_bind,this];rfl
theorem Row.zero {α:Type} {enc:α→List Value} {e z b0 g n:Nat} {w:World} {cs:Array Value} (hb:b0≤g) (h:w.heap[g]?=some (.cells cs e (0,0))) (hs:cs.size=n*z) (hn:n≤100000):Row e z enc b0 w (.slice (some ⟨g,0,none⟩) 0 n) ([]:List α) :=
 ⟨by simp,.inr ⟨g,n,cs,rfl,hb,h,Nat.zero_le _,by unfold maxLen;omega,hs,by simp⟩⟩
theorem b2o {e:Nat} (h0:0<e) (h8:e≤8):Z4 e=[UInt8.ofNat (48+e)]:=by
 rcases (by omega:e=1∨e=2∨e=3∨e=4∨e=5∨e=6∨e=7∨e=8) with rfl | rfl | rfl | rfl | rfl | rfl | rfl | rfl<;>(unfold Z4 dec;rfl)
theorem c0P {x:Int} (h0:1≤x) (h1:x≤12):∃ c,pcT x=[c]:=by
 rcases (by omega:x=1∨x=2∨x=3∨x=4∨x=5∨x=6∨x=7∨x=8∨x=9∨x=10∨x=11∨x=12) with rfl | rfl | rfl | rfl | rfl | rfl | rfl | rfl | rfl | rfl | rfl | rfl<;>exact ⟨_,rfl⟩
theorem c0Q {w:World} (c:UInt8):Row 5 1 a0G w.heap.size (w.alloc (.cells (([Value.int .u8 (c.toNat:Int)]:List Value).flatMap fun v=>v.cells.toList).toArray 5)) (.slice (some ⟨w.heap.size,0,none⟩) 1 1) [c] :=
 C1 P5 w [c] (zU rfl) [.int .u8 (c.toNat:Int)] rfl
theorem c2b {e:Nat} (h:e≤8):IntKind.u8.wrap (IntKind.i64.wrap (48+(e:Int)))=((UInt8.ofNat (48+e)).toNat:Int):=by
 rcases (by omega:e=0∨e=1∨e=2∨e=3∨e=4∨e=5∨e=6∨e=7∨e=8) with rfl | rfl | rfl | rfl | rfl | rfl | rfl | rfl | rfl<;>decide
set_option maxHeartbeats 1000000 in
theorem a0X {p:l9} (hp:∀ i:Int,0≤sq p i∧sq p i≤12) {b t:Nat} {fz:Nat×Nat} (w:World) (hT:C9 w) (hB:w.heap[b]?=some (.cells (I4 (mbOf p)) t fz)) :
  Calls G.P 164 #[.pointer (some ⟨b,0,none⟩)] w (L4 (m9 (boardT p 8)) w):=by
 refine zN Tryz.func164 ?_;refine zR ?_;refine b0a S7 71 rfl rfl zd zd fun cs hcs=>?_;have ca:=Cl.alloc w (.cells cs 5);have hr0:Row 5 1 a0G w.heap.size (w.alloc (.cells cs 5)) (.slice (some ⟨w.heap.size,0,none⟩) 0 71) ([]:Tx):=Row.zero (yH _) (g7 _ _) hcs zd;generalize w.alloc (.cells cs 5)=w1 at *;have hbl:=a0o p 8;refine zR ?_;refine A9 (σ:=Int×Tx×Value) [3,4,5,6,7,8] 9 (fun s=>[(3,s.2.2),(4,.int .i64 0),(5,.int .i64 s.1)]) (fun s w'=>(-1≤s.1∧s.1≤7)∧s.2.1++(if 0≤s.1∧s.1<7 then [47] else [])++boardT p (s.1+1).toNat=boardT p 8∧Cl w w'∧Row 5 1 a0G w.heap.size w' s.2.2 s.2.1) (fun s=>(s.1+1).toNat) zk
  (7,[],_) ⟨⟨by show (-1:Int)≤7;decide,by show (7:Int)≤7;decide⟩,rfl,ca,hr0⟩ ⟨rfl,rfl,rfl,trivial⟩ ?_
 rintro ⟨r,l,v⟩ j w2 ⟨⟨hr1,hr7⟩,hl,c2,hrw⟩;simp only at hr1 hr7 hl c2 hrw ⊢;obtain ⟨a,k,rfl,_⟩:=hrw.form;have hlen:=yG List.length hl;simp only [zF] at hlen;refine zR ?_;apply E.d6<;>intro h
 ·obtain ⟨S,rfl⟩:=ze (show 0≤r by omega)
  have hS:S<8:=by omega
  clear h;have e1:((S:Int)+1).toNat=S+1:=by omega
  rw [e1] at hl hlen;have hll:l.length≤288:=by omega
  refine zG ?_;refine Nx.mk ?_;refine a8c ?_;refine a8d ?_;refine Nx.go ?_;refine B0 (σ:=Value) [3] 9 (fun v=>[(3,v)]) (fun v w'=>Cl w w'∧Row 5 1 a0G w.heap.size w' v (l++(if S<7 then [47] else []))) zk ?_ (fun v j w3 h3=>?_)
  ·refine zR ?_;apply E.d6<;>intro h
   ·refine zR ?_;refine zL S7 [.int .u8 47] ?_;refine zR ?_;have cb:=Cl.alloc w2 (.cells (([Value.int .u8 47]:List Value).flatMap fun v=>v.cells.toList).toArray 5);refine F7 S7 (l:=l) (news:=[47]) rfl (hrw.step cb) rfl (c0Q 47) P5 a3A (by simp;omega) zd (c2.trans cb).size fun v' w' hr' hg=>?_
    obtain ⟨a9,c9,rfl,_⟩:=hr'.form;refine zR ?_;exact ⟨_,⟨rfl,trivial⟩,hg.toCl rfl (c2.trans cb),by rw [zM zo];exact hr'⟩
   ·refine zR ?_;exact ⟨_,⟨rfl,trivial⟩,c2,by rw [zJ zo,zm];exact hrw⟩
  obtain ⟨c3,hr3⟩:=h3;have hl3:(l++(if S<7 then [47] else []))++boardT p (S+1)=boardT p 8:=by
   rw [← hl];congr 2;by_cases h:S<7
   ·rw [zM h,zM zo]
   ·rw [zJ h,zJ zo]
  have hlen3:=yG List.length hl3;rw [zF] at hlen3;generalize l++(if S<7 then ([47]:Tx) else [])=l3 at *
  clear hl hlen hrw c2;have hrow:boardT p (S+1)=a0F (fun f=>sq p (8*(S:Int)+f)) 8 0 0++(if S=0 then [] else [47])++boardT p S:=rfl
  obtain ⟨av,kv,rfl,_⟩:=hr3.form;refine zR ?_;refine A9 (σ:=Nat×Nat×Tx×Value) [3,4,6,7,8,19] 20 (fun s=>[(3,s.2.2.2),(4,.int .i64 s.2.1),(19,.int .i64 s.1)]) (fun s w'=>s.1≤8∧s.2.1≤s.1∧s.2.2.1++a0F (fun f=>sq p (8*(S:Int)+f)) (8-s.1) s.1 s.2.1++(if S=0 then [] else [47])++boardT p S=boardT p 8∧Cl w w'∧Row 5 1 a0G w.heap.size w' s.2.2.2 s.2.2.1) (fun s=>8-s.1) zk
   (0,0,l3,_) ⟨by show 0≤8;decide,yH _,by rw [← hl3,hrow];simp only [yF],c3,hr3⟩ ⟨rfl,rfl,rfl,trivial⟩ ?_
  clear hr3 c3;rintro ⟨f,e,o,v⟩ j4 w4 ⟨hf,he,ho,c4,hr4⟩;simp only at hf he ho c4 hr4 ⊢;obtain ⟨a4,k4,rfl,_⟩:=hr4.form;have hol:=yG List.length ho;simp only [zF] at hol;refine zR ?_;apply E.d6<;>intro h
  ·have hf2:f<8:=by omega
   clear h;have nf:=C0 (i:=f) zo;have ef:IntKind.i8.wrap (f:Int)=f:=Y8 zo zo;have eS:IntKind.i8.wrap (S:Int)=S:=Y8 zo zo;refine zR ?_;rw [ef,eS];refine g8 (b0U f S hf2 hS _) (zR ?_);have hX:=hp ((8*S+f:Nat):Int);have pc:=a0b (mbOf p) b (t:=t) (fz:=fz) (8*S+f) zo w4 (hT.cl c4) (c4.blk hB);rw [V0 hp zo] at pc;refine g8 pc ?_;have hg:sq p (8*(S:Int)+(f:Nat))=sq p ((8*S+f:Nat):Int):=by congr 1
   have hrs:a0F (fun f=>sq p (8*(S:Int)+f)) (8-f) f e=if sq p ((8*S+f:Nat):Int)<1∨sq p ((8*S+f:Nat):Int)>12 then a0F (fun f=>sq p (8*(S:Int)+f)) (8-(f+1)) (f+1) (e+1) else Z4 e++pcT (sq p ((8*S+f:Nat):Int))++a0F (fun f=>sq p (8*(S:Int)+f)) (8-(f+1)) (f+1) 0:=by
    rw [show 8-f=(8-(f+1))+1 by omega,← hg];rfl
   have fc:=fun c hc w hT=>b6k (sq p ((8*S+f:Nat):Int)) (c:=c) (hc:=hc) (w:=w) (hT:=hT);generalize sq p ((8*S+f:Nat):Int)=X at *;refine zR ?_;apply E.d6<;>intro h
   ·have ne:=C0 (i:=e) zo;rw [hrs,zM (.inl zo)] at ho;refine zR ?_;exact ⟨(f+1,e+1,o,_),⟨rfl,d7 ne,d7 nf,trivial⟩,⟨by show f+1≤8;omega,by show e+1≤f+1;omega,ho,c4,hr4⟩,by show 8-(f+1)<8-f;omega⟩
   rw [hrs,zJ zo] at ho;obtain ⟨ch,hch⟩:=c0P (x:=X) zo zo;have fcc:=fun w hT=>fc ch hch w hT zo zo;rw [hch] at ho;refine zG ?_;refine B0 (σ:=Value) [3,4] 20 (fun v=>[(3,v),(4,.int .i64 0)]) (fun v w'=>Cl w w'∧Row 5 1 a0G w.heap.size w' v (o++Z4 e)) zk ?_ (fun v j w5 h5=>?_)
   ·refine zR ?_;apply E.d6<;>intro h
    ·rw [b2o (show 0<e by omega) zo]
     refine zR ?_;rw [c2b zo];refine zL S7 [.int .u8 ((UInt8.ofNat (48+e)).toNat:Int)] ?_;refine zR ?_;have cb:=Cl.alloc w4 (.cells (([Value.int .u8 ((UInt8.ofNat (48+e)).toNat:Int)]:List Value).flatMap fun v=>v.cells.toList).toArray 5);refine F7 S7 (l:=o) (news:=[UInt8.ofNat (48+e)]) rfl (hr4.step cb) rfl (c0Q (UInt8.ofNat (48+e))) P5 a3A (by simp;omega) zd (c4.trans cb).size fun v' w' hr' hg=>?_
     obtain ⟨a9,c9,rfl,_⟩:=hr'.form;refine zR ?_;exact ⟨_,⟨rfl,rfl,trivial⟩,hg.toCl rfl (c4.trans cb),hr'⟩
    ·have e0:e=0:=by omega
     subst e0;refine zR ?_;exact ⟨_,⟨rfl,rfl,trivial⟩,c4,by rw [show Z4 0=[] from rfl,zm];exact hr4⟩
   obtain ⟨c5,hr5⟩:=h5;obtain ⟨a5,k5,rfl,_⟩:=hr5.form;have hol5:=yG List.length ho;simp only [zF,zh,za] at hol5;have hle5:(o++Z4 e).length≤288:=by rw [zF];omega
   refine zR ?_;refine g8 (fcc _ (hT.cl c5)) (zR ?_);refine zL S7 [.int .u8 (ch.toNat:Int)] ?_;refine zR ?_;have cb:=Cl.alloc w5 (.cells (([Value.int .u8 (ch.toNat:Int)]:List Value).flatMap fun v=>v.cells.toList).toArray 5);refine F7 S7 (l:=o++Z4 e) (news:=[ch]) rfl (hr5.step cb) rfl (c0Q ch) P5 a3A (by simp only [zh,za];omega) zd (c5.trans cb).size fun v' w' hr' hg=>?_
   obtain ⟨a9,c9,rfl,_⟩:=hr'.form;refine zR ?_;exact ⟨(f+1,0,(o++Z4 e)++[ch],_),⟨rfl,rfl,d7 nf,trivial⟩,⟨by show f+1≤8;omega,Nat.zero_le _,by rw [← ho];simp only [yF],hg.toCl rfl (c5.trans cb),hr'⟩,by show 8-(f+1)<8-f;omega⟩
  ·have e8:f=8:=by omega
   subst e8;have hrz:a0F (fun f=>sq p (8*(S:Int)+f)) (8-8) 8 e=Z4 e:=rfl;rw [hrz] at ho;have hend:∀ v' w',Cl w w'→Row 5 1 a0G w.heap.size w' v' (o++Z4 e)→∃ s':Int×Tx×Value,(s'.2.2=v'∧s'.1=(S:Int)-1)∧((-1≤s'.1∧s'.1≤7)∧s'.2.1++(if 0≤s'.1∧s'.1<7 then [47] else [])++boardT p (s'.1+1).toNat=boardT p 8∧Cl w w'∧Row 5 1 a0G w.heap.size w' s'.2.2 s'.2.1)∧(s'.1+1).toNat<S+1:=by
    intro v' w' hc hr;refine ⟨((S:Int)-1,o++Z4 e,v'),⟨rfl,rfl⟩,⟨⟨by show -1≤(S:Int)-1;omega,by show (S:Int)-1≤7;omega⟩,?_,hc,hr⟩,by show ((S:Int)-1+1).toNat<S+1;omega⟩
    show o++Z4 e++(if 0≤(S:Int)-1∧(S:Int)-1<7 then [47] else [])++boardT p ((S:Int)-1+1).toNat=boardT p 8
    rw [← ho,show ((S:Int)-1+1).toNat=S by omega]
    congr 2;by_cases h0:S=0
    ·rw [zM h0,zJ zo]
    ·rw [zJ h0,zM zo]
   refine zR ?_;apply E.d6<;>intro h
   ·refine zR ?_;rw [c2b zo];refine zL S7 [.int .u8 ((UInt8.ofNat (48+e)).toNat:Int)] ?_;refine zR ?_;have cb:=Cl.alloc w4 (.cells (([Value.int .u8 ((UInt8.ofNat (48+e)).toNat:Int)]:List Value).flatMap fun v=>v.cells.toList).toArray 5);refine F7 S7 (l:=o) (news:=[UInt8.ofNat (48+e)]) rfl (hr4.step cb) rfl (c0Q (UInt8.ofNat (48+e))) P5 a3A (by simp;omega) zd (c4.trans cb).size fun v' w' hr' hg=>?_
    rw [← b2o (show 0<e by omega) zo] at hr'
    obtain ⟨a9,c9,rfl,_⟩:=hr'.form;refine zR ?_;obtain ⟨s',⟨q1,q2⟩,h1,h2⟩:=hend _ _ (hg.toCl rfl (c4.trans cb)) hr';exact ⟨s',⟨q1.symm,rfl,d7 (by rw [q2];exact g9 zo zo),trivial⟩,h1,zo⟩
   ·have e0:e=0:=by omega
    subst e0;obtain ⟨s',⟨q1,q2⟩,h1,h2⟩:=hend _ _ c4 (by rw [show Z4 0=[] from rfl,zm];exact hr4)
    refine zR ?_;exact ⟨s',⟨q1.symm,rfl,d7 (by rw [q2];exact g9 zo zo),trivial⟩,h1,zo⟩
 ·have e:r=-1:=by omega
  subst e;have e2:l=boardT p 8:=by rw [← hl];simp [boardT]
  refine zR ?_;refine a9T l rfl hrw (zR ?_);exact ⟨by rw [e2];rfl,c2⟩
theorem c0R (n:Nat):dec n=Lib.decDigits n:=by
 induction n using Nat.strongRecOn with
 | _ n ih =>
  unfold dec Lib.decDigits;by_cases h:n<10
  ·rw [dif_pos h,dif_pos h]
  ·rw [dif_neg h,dif_neg h,ih _ zo]
def Pow (w:World):Prop:=Lib.TabIs G.P w "internal/strconv.uint64pow10" .u64 Lib.pow10Tab
theorem Pow.cl {w w':World} (h:Pow w) (c:Cl w w'):Pow w':=by
 unfold Pow Lib.TabIs World.var? at *;cases hg:G.P.globalNamed "internal/strconv.uint64pow10" with
 | none=>rw [hg] at h;cases h
 | some g =>
  rw [hg] at h;simp only [Option.bind_some] at h ⊢;cases hb:w.heap[g]? with
  | none=>rw [hb] at h;cases h
  | some o =>
   rw [c.blk hb];rw [hb] at h;exact h
theorem Cl.grow (w:World) (k:Nat) (os:Array Obj):Cl w (Sort.grow (w.drewN k) os):=by
 refine ⟨rfl,rfl,rfl,by simp [Sort.grow,World.drewN],fun i hi=>?_⟩
 simp [Sort.grow,World.drewN,Array.getElem?_append,hi]
theorem b0V (n:Nat) (hn:n<4611686018427387904) (w:World) (hw:Pow w):Calls G.P 169 #[.int .i64 n] w (L4 (m9 (dec n)) w):=by
 refine (Tryz.strconv_Itoa n zo zo w hw).mono ?_;rintro r w' ⟨h1,k,os,h2⟩;refine ⟨?_,by rw [h2];exact Cl.grow w k os⟩
 rw [h1,c0R];unfold Lib.itoa;rw [zJ zo,zg];rfl
theorem a45 (t:Int) (ht:t=0∨t=1) (w:World):Calls G.P 165 #[.int .i8 (t+1)] w (D9 (m9 (turnT t)) w):=by
 have e1:(0:Int)+1=1:=rfl;have e2:(1:Int)+1=2:=rfl;rcases ht with rfl | rfl<;>simp only [e1,e2]<;>(refine E.enter (G:=G) Tryz.func165 rfl (by simp [Tryz.ntmps165]) zk ?_)<;>refine a4C ?_<;>(refine zR ?_)<;>exact ⟨rfl,rfl⟩
theorem a0C (t:Tx) (w:World):Calls G.P 166 #[m9 t] w (D9 (m9 t) w):=by
 refine zN Tryz.func166 ?_;refine zR ?_;exact ⟨rfl,rfl⟩
theorem b2p {p:l9} (hI:B9 p) (hN:a06 p) {P b:Nat} {cv:Value} {c:Bool} (w:World) (hT:C9 w) (hw:Pow w)
  (hP:w.heap[P]?=some (.cells (hdA b (C7 p c) cv) 173 (0,0))) (hB:w.heap[b]?=some (.cells (I4 (mbOf p)) 237 (0,0))) :
  Calls G.P 163 #[.pointer (some ⟨P,0,none⟩)] w (L4 (m9 (fenT p)) w):=by
 have hep:=L7 hI.pass;have hcl:=a15 p.castle;have htl:=a4a p.turn;have hel:=a7F p.ep;have hbl:=a0o p 8;refine zN Tryz.func163 ?_;refine zR ?_;refine kHb hP (zR ?_);refine o8 (a0X hI.pc w hT hB) fun w1 c1=>?_;have hP1:=c1.blk hP;refine zR ?_;refine kHt hP1 ?_;rw [show (C7 p c).turn=p.turn+1 from rfl];refine zR ?_;refine g8 (a45 p.turn hI.turn _) (zR ?_);refine d9 _ (a36 hP1) ?_;rw [show (C7 p c).cas=castT p.castle from rfl];refine zR ?_;refine g8 (a0C _ _) (zG ?_);refine Nx.mk (zG ?_);refine B0 (σ:=Unit) [6] 7 (fun _=>[(6,m9 (epT p.ep))]) (fun _ w'=>w'=w1) zk ?_ (fun _ j w2 e2=>?_)
 ·refine zR ?_;refine b32 hP1 ?_;rw [show (C7 p c).ep=p.ep from rfl];refine zR ?_;apply E.y8<;>intro h
  ·refine zR ?_;refine b32 hP1 ?_;rw [show (C7 p c).ep=p.ep from rfl];refine zR ?_;refine g8 (a5K p.ep zo zo _) (zR ?_);exact ⟨(),⟨by unfold epT;rw [zM zo];rfl,trivial⟩,rfl⟩
  ·refine zR ?_;exact ⟨(),⟨by unfold epT;rw [zJ zo];rfl,trivial⟩,rfl⟩
 subst e2;have h0:=hI.h0;have hf1:=hI.f1;have hhl:=a0P (n:=p.half.toNat) (by have:=hN.1;omega)
 have hfl:=a0P (n:=p.full.toNat) (by have:=hN.2;omega)
 have it1:=fun w hw=>b0V p.half.toNat (by have:=hN.1;omega) w hw
 have it2:=fun w hw=>b0V p.full.toNat (by have:=hN.2;omega) w hw
 rw [zi h0] at it1;rw [zi zo] at it2;have hfen:fenT p=boardT p 8++[32]++turnT p.turn++[32]++castT p.castle++[32]++epT p.ep++[32]++dec p.half.toNat++[32]++dec p.full.toNat:=rfl;rw [hfen];clear hfen;generalize boardT p 8=X1 at *;generalize turnT p.turn=X2 at *;generalize castT p.castle=X3 at *;generalize epT p.ep=X4 at *;generalize dec p.half.toNat=X5 at *;generalize dec p.full.toNat=X6 at *;refine zR ?_;refine zK 25 ?_;refine zR ?_;refine E.A2 (z8 (x:=X1) (y:=[32]) (by simp only [zF,zh,za];omega)) ?_
 rw [a0p];refine zR ?_;refine E.A2 (z8 (x:=X1++[32]) (y:=X2) (by simp only [zF,zh,za];omega)) ?_
 rw [A6];refine zR ?_;refine E.A2 (z8 (x:=X1++[32]++X2) (y:=[32]) (by simp only [zF,zh,za];omega)) ?_
 rw [a0p];refine zR ?_;refine E.A2 (z8 (x:=X1++[32]++X2++[32]) (y:=X3) (by simp only [zF,zh,za];omega)) ?_
 rw [A6];refine zR ?_;refine E.A2 (z8 (x:=X1++[32]++X2++[32]++X3) (y:=[32]) (by simp only [zF,zh,za];omega)) ?_
 rw [a0p];refine zR ?_;refine E.A2 (z8 (x:=X1++[32]++X2++[32]++X3++[32]) (y:=X4) (by simp only [zF,zh,za];omega)) ?_
 rw [A6];refine zR ?_;refine E.A2 (z8 (x:=X1++[32]++X2++[32]++X3++[32]++X4) (y:=[32]) (by simp only [zF,zh,za];omega)) ?_
 rw [a0p];refine zR ?_;refine m7 _ (fun w hw=>a2Z (hw.blk hP1)) ?_;rw [show (C7 p c).half=p.half from rfl];refine zR ?_;refine D4 _ (fun _ _ h=>h.trans) (fun w' h'=>it1 w' ((hw.cl c1).cl h')) (zR ?_);refine E.A2 (z8 (x:=X1++[32]++X2++[32]++X3++[32]++X4++[32]) (y:=X5) (by simp only [zF,zh,za];omega)) ?_
 rw [A6];refine zR ?_;refine E.A2 (z8 (x:=X1++[32]++X2++[32]++X3++[32]++X4++[32]++X5) (y:=[32]) (by simp only [zF,zh,za];omega)) ?_
 rw [a0p];refine zR ?_;refine m7 _ (fun w hw=>a55 (hw.blk hP1)) ?_;rw [show (C7 p c).full=p.full from rfl];refine zR ?_;refine D4 _ (fun _ _ h=>h.trans) (fun w' h'=>it2 w' ((hw.cl c1).cl h')) (zR ?_);refine E.A2 (z8 (x:=X1++[32]++X2++[32]++X3++[32]++X4++[32]++X5++[32]) (y:=X6) (by simp only [zF,zh,za];omega)) ?_
 rw [A6];refine zR ?_;intro w9 c9;refine zR ?_;exact ⟨rfl,c1.trans c9⟩
theorem c3l:H6 205 199 1 1:=S9 zk
theorem c5E (w:World) (f:Nat→Value) (hf:∀ i,(f i).cells=#[f i]):Z5 (w.alloc (.cells (([f 0,f 1]:List Value).flatMap fun v=>v.cells.toList).toArray 199)) w.heap.size 2 f :=
 ⟨_,199,(0,0),g7 _ _,rfl,fun i hi=>by
  rcases (by omega:i=0∨i=1) with rfl | rfl<;>simp [hf]⟩
set_option maxHeartbeats 1000000 in
theorem b0W {p:l9} (hI:B9 p) (hN:a06 p) {P b:Nat} {cv:Value} {c:Bool} (w:World) (hT:C9 w) (hw:Pow w)
  (hP:w.heap[P]?=some (.cells (hdA b (C7 p c) cv) 173 (0,0))) (hB:w.heap[b]?=some (.cells (I4 (mbOf p)) 237 (0,0))) :
  Calls G.P 108 #[.pointer (some ⟨P,0,none⟩)] w (L4 (m9 (xfenT p)) w):=by
 have hep:=L7 hI.pass;have hcl:=a15 p.castle;have htl:=a4a p.turn;have hel:=a7F p.ep;have hbl:=a0o p 8;refine zN Tryz.func108 ?_;refine zR ?_;refine kHb hP (zR ?_);refine o8 (a0X hI.pc w hT hB) fun w1 c1=>?_;have hP1:=c1.blk hP;refine zR ?_;refine kHt hP1 ?_;rw [show (C7 p c).turn=p.turn+1 from rfl];refine zR ?_;refine g8 (a45 p.turn hI.turn _) (zR ?_);refine d9 _ (a36 hP1) ?_;rw [show (C7 p c).cas=castT p.castle from rfl];refine zR ?_;refine g8 (a0C _ _) (zG ?_);refine Nx.mk (zG ?_);obtain ⟨X4,hX4⟩:∃ X4,X4=(if p.ep<0∨a6o p=true then epT p.ep else [45]):=⟨_,rfl⟩
 have hel:X4.length≤2:=by rw [hX4];split;exact hel;simp
 refine B0 (σ:=Unit) [6,7,8,9,11,12,13] 14 (fun _=>[(6,m9 X4)]) (fun _ w'=>Cl w w') zk ?_ (fun _ j w4 c4=>?_)
 ·refine zR ?_;refine b32 hP1 ?_;rw [show (C7 p c).ep=p.ep from rfl];refine zR ?_;apply E.y8<;>intro h
  ·have he0:0≤p.ep:=by omega
   have hrk:l8 p.ep=5-3*p.turn:=(hep.2.2 h).1;have ht:=hI.turn;clear h;have hbe:∀ i:Nat,i<2→D1 p (2*(i:Int)-1)=(decide (0≤J5 (p.ep%8+(2*(i:Int)-1)) (4-p.turn))&&decide (sq p (J5 (p.ep%8+(2*(i:Int)-1)) (4-p.turn))=6+6*p.turn)):=by
    intro i _;unfold D1;rw [show l8 p.ep-up p.turn=4-p.turn by unfold up;omega];rfl
   refine zG ?_;refine B0 (σ:=Unit) [7] 14 (fun _=>[(7,.int .i8 (4-p.turn))]) (fun _ w'=>w'=w1) zk ?_ (fun _ j w2 e2=>?_)
   ·refine zR ?_;refine kHt hP1 ?_;rw [show (C7 p c).turn=p.turn+1 from rfl];refine zR ?_;apply E.d6<;>intro h
    ·refine zR ?_;exact ⟨(),⟨d7 zo,trivial⟩,rfl⟩
    ·refine zR ?_;exact ⟨(),⟨d7 zo,trivial⟩,rfl⟩
   subst e2;have eF1:IntKind.i8.wrap (p.ep%8-1)=p.ep%8+(2*((0:Nat):Int)-1):=by rw [Y8 zo zo];omega
   have eF2:IntKind.i8.wrap (p.ep%8+1)=p.ep%8+(2*((1:Nat):Int)-1):=by rw [Y8 zo zo];omega
   refine zR ?_;refine b32 hP1 ?_;rw [show (C7 p c).ep=p.ep from rfl];refine zR ?_;refine g8 (a1q p.ep he0 hep.2.1 _) (zR ?_);rw [eF1,eF2];refine zL c3l [.int .i8 (p.ep%8+(2*((0:Nat):Int)-1)),.int .i8 (p.ep%8+(2*((1:Nat):Int)-1))] ?_;have hbx:=c5E w2 (fun i=>.int .i8 (p.ep%8+(2*(i:Int)-1))) (fun i=>rfl);have cB:=Cl.alloc w2 (.cells (([.int .i8 (p.ep%8+(2*((0:Nat):Int)-1)),.int .i8 (p.ep%8+(2*((1:Nat):Int)-1))]:List Value).flatMap fun v=>v.cells.toList).toArray 199);generalize w2.alloc (.cells (([.int .i8 (p.ep%8+(2*((0:Nat):Int)-1)),.int .i8 (p.ep%8+(2*((1:Nat):Int)-1))]:List Value).flatMap fun v=>v.cells.toList).toArray 199)=w3 at *;have c3:=c1.trans cB;refine zR ?_;refine A9 (σ:=Nat) [6,11,12,13,51] 52 (fun i=>[(6,m9 [45]),(51,.int .i64 i)]) (fun i w'=>i≤2∧(∀ j:Nat,j<i→D1 p (2*(j:Int)-1)=false)∧Cl w w'∧Cl w3 w') (fun i=>2-i) zk 0 ⟨zd,fun j h=>absurd h zo,c3,Cl.refl _⟩ ⟨rfl,rfl,trivial⟩ ?_;rintro i j5 w5 ⟨hi,hno,c5,c35⟩;have ni:=C0 (i:=i) zo;refine zR ?_;apply E.d6<;>intro h
   ·have hi2:i<2:=by omega
    clear h;have hb:=hbe i hi2;have hsn:D1 p (2*(i:Int)-1)=false→∀ j:Nat,j<i+1→D1 p (2*(j:Int)-1)=false:=by
     intro h0 j hj;by_cases e:j<i
     ·exact hno j e
     ·have:j=i:=by omega
      subst this;exact h0
    obtain ⟨F,hF⟩:∃ F:Int,F=p.ep%8+(2*(i:Int)-1):=⟨_,rfl⟩;have hld:=K6 (t:=199) (hbx.cl c35) (o:=i) (i:=i) hi2 rfl rfl;rw [← hF] at hb hld;have hFr:-1≤F∧F≤8:=by omega
    refine zR ?_;refine zC ?_;refine zR ?_;refine d9 _ hld (zR ?_);apply E.d6<;>intro h
    ·have hat:J5 F (4-p.turn)=-1:=by unfold J5;rw [zM (.inl h)]
     rw [hat] at hb;refine zR ?_;exact ⟨i+1,⟨rfl,d7 ni,trivial⟩,⟨zo,hsn (by rw [hb];rfl),c5,c35⟩,zo⟩
    ·have h1:=h;clear h;refine zR ?_;apply E.d6<;>intro h
     ·have hat:J5 F (4-p.turn)=-1:=by unfold J5;rw [zM (.inr (.inl h))]
      rw [hat] at hb;refine zR ?_;exact ⟨i+1,⟨rfl,d7 ni,trivial⟩,⟨zo,hsn (by rw [hb];rfl),c5,c35⟩,zo⟩
     ·obtain ⟨s,hs⟩:=ze (show 0≤8*(4-p.turn)+F by omega)
      have hs64:s<64:=by omega
      have hat:J5 F (4-p.turn)=s:=by unfold J5;rw [zJ zo,hs]
      rw [hat,zX (Int.natCast_nonneg s),yU] at hb;have hX:=hI.pc s;have nsq:=a6R F (4-p.turn) zo zo zo zo w5;rw [hs] at nsq;have pcc:=a0b (mbOf p) b (t:=237) (fz:=(0,0)) s hs64 w5 (hT.cl c5) (c5.blk hB);rw [V0 hI.pc hs64] at pcc;clear h;generalize sq p s=X at *;refine zR ?_;refine g8 nsq (zR ?_);refine kHb (c5.blk hP) (zR ?_);refine g8 pcc (zR ?_);apply E.d6<;>intro h
      ·refine zR ?_;exact ⟨i+1,⟨rfl,d7 ni,trivial⟩,⟨zo,hsn (by rw [hb];exact zV zo),c5,c35⟩,zo⟩
      ·have hx0:¬ X=0:=h;clear h;refine zR ?_;refine g8 (a1i X hX.1 hX.2 _) (zR ?_);apply E.y8<;>intro h
       ·have hne:¬ X=6+6*p.turn:=by
         intro e;apply h;rw [e];rcases ht with e2 | e2<;>rw [e2]<;>rfl
        refine zR ?_;exact ⟨i+1,⟨rfl,d7 ni,trivial⟩,⟨zo,hsn (by rw [hb];exact zV hne),c5,c35⟩,zo⟩
       ·have hk6:X=6∨X=12:=by unfold kindOf at h;split at h<;>omega
        refine zR ?_;refine zK 7 ?_;refine zR ?_;refine o5 _ (fun w hw=>a56 X hX.1 hX.2 w) (zR ?_);refine qHt (c5.blk hP) ?_;rw [show (C7 p c).turn=p.turn+1 from rfl];refine zR ?_;intro w6 c6;have c56:=c5.trans c6;have hco:colM X=if X=6 then 1 else 2:=by rcases hk6 with e | e<;>rw [e]<;>rfl
        refine zR ?_;apply E.d6<;>intro h
        ·have hyes:D1 p (2*(i:Int)-1)=true:=by
          rw [hb];exact zX (by rw [hco] at h;split at h<;>omega)
         have hbs:a6o p=true:=by
          rw [a6w];rcases (by omega:i=0∨i=1) with rfl | rfl
          ·have:D1 p (-1)=true:=hyes;rw [this];rfl
          ·have:D1 p 1=true:=hyes;rw [this,Bool.or_true]
         refine zR ?_;refine b32 (c56.blk hP) ?_;rw [show (C7 p c).ep=p.ep from rfl];refine zR ?_;refine g8 (a5K p.ep he0 hep.2.1 _) (zR ?_);exact ⟨(),⟨by rw [hX4,zM (.inr hbs)];unfold epT;rw [zM zo];rfl,trivial⟩,c56⟩
        ·refine zR ?_;exact ⟨i+1,⟨rfl,d7 ni,trivial⟩,⟨zo,hsn (by rw [hb];exact zV (fun e=>h (by rw [hco];split<;>omega))),c56,c35.trans c6⟩,zo⟩
   ·have h2:i=2:=by omega
    subst h2;have hbs:a6o p=false:=by
     rw [a6w];have q0:D1 p (-1)=false:=hno 0 zd;have q1:D1 p 1=false:=hno 1 zd;rw [q0,q1];rfl
    refine zR ?_;exact ⟨(),⟨by rw [hX4,zJ (by rw [hbs];simp;omega)];rfl,trivial⟩,c5⟩
  ·refine zR ?_;exact ⟨(),⟨by rw [hX4,zM (.inl zo)];unfold epT;rw [zJ zo];rfl,trivial⟩,c1⟩
 have hP4:=c4.blk hP;have h0:=hI.h0;have hf1:=hI.f1;have hhl:=a0P (n:=p.half.toNat) (by have:=hN.1;omega)
 have hfl:=a0P (n:=p.full.toNat) (by have:=hN.2;omega)
 have it1:=fun w hw=>b0V p.half.toNat (by have:=hN.1;omega) w hw
 have it2:=fun w hw=>b0V p.full.toNat (by have:=hN.2;omega) w hw
 rw [zi h0] at it1;rw [zi zo] at it2;have hfen:xfenT p=boardT p 8++[32]++turnT p.turn++[32]++castT p.castle++[32]++X4++[32]++dec p.half.toNat++[32]++dec p.full.toNat:=by
  rw [hX4];unfold xfenT;split<;>rfl
 rw [hfen];clear hfen;clear hX4;generalize boardT p 8=X1 at *;generalize turnT p.turn=X2 at *;generalize castT p.castle=X3 at *;generalize dec p.half.toNat=X5 at *;generalize dec p.full.toNat=X6 at *;refine zR ?_;refine zK 25 ?_;refine zR ?_;refine E.A2 (z8 (x:=X1) (y:=[32]) (by simp only [zF,zh,za];omega)) ?_
 rw [a0p];refine zR ?_;refine E.A2 (z8 (x:=X1++[32]) (y:=X2) (by simp only [zF,zh,za];omega)) ?_
 rw [A6];refine zR ?_;refine E.A2 (z8 (x:=X1++[32]++X2) (y:=[32]) (by simp only [zF,zh,za];omega)) ?_
 rw [a0p];refine zR ?_;refine E.A2 (z8 (x:=X1++[32]++X2++[32]) (y:=X3) (by simp only [zF,zh,za];omega)) ?_
 rw [A6];refine zR ?_;refine E.A2 (z8 (x:=X1++[32]++X2++[32]++X3) (y:=[32]) (by simp only [zF,zh,za];omega)) ?_
 rw [a0p];refine zR ?_;refine E.A2 (z8 (x:=X1++[32]++X2++[32]++X3++[32]) (y:=X4) (by simp only [zF,zh,za];omega)) ?_
 rw [A6];refine zR ?_;refine E.A2 (z8 (x:=X1++[32]++X2++[32]++X3++[32]++X4) (y:=[32]) (by simp only [zF,zh,za];omega)) ?_
 rw [a0p];refine zR ?_;refine m7 _ (fun w hw=>a2Z (hw.blk hP4)) ?_;rw [show (C7 p c).half=p.half from rfl];refine zR ?_;refine D4 _ (fun _ _ h=>h.trans) (fun w' h'=>it1 w' ((hw.cl c4).cl h')) (zR ?_);refine E.A2 (z8 (x:=X1++[32]++X2++[32]++X3++[32]++X4++[32]) (y:=X5) (by simp only [zF,zh,za];omega)) ?_
 rw [A6];refine zR ?_;refine E.A2 (z8 (x:=X1++[32]++X2++[32]++X3++[32]++X4++[32]++X5) (y:=[32]) (by simp only [zF,zh,za];omega)) ?_
 rw [a0p];refine zR ?_;refine m7 _ (fun w hw=>a55 (hw.blk hP4)) ?_;rw [show (C7 p c).full=p.full from rfl];refine zR ?_;refine D4 _ (fun _ _ h=>h.trans) (fun w' h'=>it2 w' ((hw.cl c4).cl h')) (zR ?_);refine E.A2 (z8 (x:=X1++[32]++X2++[32]++X3++[32]++X4++[32]++X5++[32]) (y:=X6) (by simp only [zF,zh,za];omega)) ?_
 rw [A6];refine zR ?_;intro w9 c9;refine zR ?_;exact ⟨rfl,c4.trans c9⟩
theorem c5F:∃ z,(G.P.info? 36).bind (·.zero)=some z∧z.cells.size=3:=a0a zk
theorem b2q {M t:Nat} {d:Nd} {w:World} {fz:Nat×Nat} (hM:w.heap[M]?=some (.cells (F6 d) t fz)) (f0:-128≤d.mv.fr) (f1:d.mv.fr≤127) (t0:-128≤d.mv.to) (t1:d.mv.to≤127) (p0:-128≤d.mv.promo) (p1:d.mv.promo≤127) :
  Calls G.P 100 #[.pointer (some ⟨M,0,none⟩)] w (L4 (.agg (Z0 d.mv)) w):=by
 have e1:IntKind.i64.wrap d.mv.fr=d.mv.fr:=g9 zo zo;have e2:IntKind.i64.wrap d.mv.to=d.mv.to:=g9 zo zo;have e3:IntKind.i64.wrap d.mv.promo=d.mv.promo:=g9 zo zo;refine zN Tryz.func100 ?_;refine zR ?_;obtain ⟨z,hz,hzs⟩:=c5F;refine t7 z hz ?_;have cA:=Cl.alloc w (.cells z.cells 36);have nA:=g7 w (.cells z.cells 36);generalize w.alloc (.cells z.cells 36)=w1 at *;have hM1:=cA.blk hM;refine zR ?_;refine g8 (c0N hM1) (zR ?_);rw [e1];refine g8 (c4B hM1) (zR ?_);rw [e2];refine g8 (b0R hM1) (zR ?_);rw [e3];refine s7 (Z0 d.mv) zk (zR ?_);refine J6 nA (N1 d.mv) rfl b57 rfl (O5 _) (by rw [hzs];decide) (fun w2 u2=>zR ?_)
 have h2:=u2.at_;rw [B7 _ _ (by rw [hzs];rfl)] at h2
 refine d9 _ (Z1 h2) (zR ?_);exact ⟨rfl,u2.cl cA (yH _)⟩
theorem H9.kept {w:World} {P b:Nat} {p:l9} {a:Option Addr} {n c:Nat} (h:H9 w P b p (.slice a n c)) (hr:Row 141 11 D3 0 w (.slice a n c) (O0 p)) (hne:O0 p≠[]):∃ ad,a=some ad:=by
 obtain ⟨a',c',e,ha⟩:=hr.form;injection e with e1 e2 e3;obtain ⟨g,hg⟩:=ha (List.length_pos_iff.2 hne);exact ⟨_,by rw [e1,hg]⟩
theorem c3m:∃ z,(G.P.info? 22).bind (·.zero)=some z∧z.cells.size=64:=a0a zk
def sqL (p:l9):List Value:=p.board.map (Value.int .i64)
theorem a0e (p:l9):(sqL p).length=64:=by simp [sqL,p.len]
theorem b81 (p:l9) {i:Nat} (h:i<64):(sqL p)[i]'(by rw [a0e];exact h) = .int .i64 (sq p i):=by
 have h2:i<p.board.length:=by rw [p.len];exact h
 simp [sqL,sq,List.getD_eq_getElem?_getD,h2]
theorem szI:(G.P.info? 3).map (·.size)=some 1:=by kernel_rfl
theorem b0X {p:l9} (hp:∀ i:Int,0≤sq p i∧sq p i≤12) {b t:Nat} {fz:Nat×Nat} (w:World) (hT:C9 w) (hB:w.heap[b]?=some (.cells (I4 (mbOf p)) t fz)) :
  Calls G.P 170 #[.pointer (some ⟨b,0,none⟩)] w (L4 (.agg (sqL p).toArray) w):=by
 obtain ⟨z,hz,hzs⟩:=c3m;refine zN Tryz.func170 ?_;refine zR ?_;refine t7 z hz ?_;have cA:=Cl.alloc w (.cells z.cells 22);have nA:=g7 w (.cells z.cells 22);have sA:=A8 w (.cells z.cells 22);generalize w.alloc (.cells z.cells 22)=w1 at *;refine zR ?_;refine t7 z hz ?_;have cB:=Cl.alloc w1 (.cells z.cells 22);have nB:=g7 w1 (.cells z.cells 22);generalize w1.alloc (.cells z.cells 22)=w2 at *;have nA2:=cB.blk nA;refine zR ?_;refine A9 (σ:=Nat) [4,5] 6 (fun i=>[(5,.int .i64 i)]) (fun i w'=>i≤64∧w'.heap[w1.heap.size]?=some (.cells (I3 z.cells 0 ((sqL p).take i)) 22 (0,0))∧w'.heap[w.heap.size]?=some (.cells z.cells 22 (0,0))∧Cl w w') (fun i=>64-i) zk 0 ⟨zd,nB,nA2,cA.trans cB⟩ ⟨rfl,trivial⟩ ?_;rintro i j w3 ⟨hi,hO,hA,c3⟩;have ni:=C0 (i:=i) zo;refine zR ?_;apply E.d6<;>intro h
 ·have hi2:i<64:=by omega
  clear h;have ei:IntKind.i8.wrap (i:Int)=i:=Y8 zo zo;have hX:=hp i;have ex:IntKind.i64.wrap (sq p i)=sq p i:=g9 zo zo;have pc:=a0b (mbOf p) b (t:=t) (fz:=fz) i hi2 w3 (hT.cl c3) (c3.blk hB);rw [V0 hp hi2] at pc;refine zR ?_;rw [ei];refine g8 pc (zR ?_);rw [ex];refine zC ?_;refine zR ?_;refine J6 hO [.int .i64 (sq p i)] rfl szI rfl (a0d _ _) (by rw [E8,hzs,y6];omega) fun w4 u4=>zR ?_
  have hO4:=u4.at_;have e:I3 (I3 z.cells 0 ((sqL p).take i)) (U7 0 (Int.toNat i) 1) [.int .i64 (sq p i)]=I3 z.cells 0 ((sqL p).take (i+1)):=by
   rw [zw (by rw [a0e];exact hi2),a5A,b81 p hi2,yc,a0e,y6]
   congr 1;simp;omega
  rw [e] at hO4;exact ⟨i+1,⟨d7 ni,trivial⟩,⟨zo,hO4,(Tn.upd u4).blk hA zo,(Tn.upd u4).toCl c3 zo⟩,zo⟩
 ·have e64:i=64:=by omega
  subst e64;rw [List.take_of_length_le (by rw [a0e];exact yH _),B7 _ _ (by rw [a0e,hzs])] at hO
  have hl:=ldA (t:=22) (o:=0) (z:=64) hO rfl (by simp [a0e])
  have ee:((sqL p).toArray.extract 0 (0+64))=(sqL p).toArray:=by
   have:=a0e p;simp [List.take_of_length_le (Nat.le_of_eq this)]
  rw [ee] at hl;refine zR ?_;refine d9 _ hl (zR ?_);refine J6 hA (sqL p) rfl zk (a0e p) (fun v hv=>by simp [sqL] at hv;obtain ⟨a,_,rfl⟩:=hv;rfl) (by rw [hzs];decide) fun w4 u4=>?_
  have h4:=u4.at_;rw [B7 _ _ (by rw [a0e,hzs])] at h4
  have hl4:=ldA (t:=22) (o:=0) (z:=64) h4 rfl (by simp [a0e])
  rw [ee] at hl4;refine zR ?_;refine d9 _ hl4 (zR ?_);exact ⟨rfl,(Tn.upd u4).toCl c3 (yH _)⟩
theorem b3J (l:List Value):∀ (cs:Array Value) (o k:Nat),(l.zipIdx k).foldl (fun cs (x:Value×Nat)=>cs.setIfInBounds (o+x.2) x.1) cs=I3 cs (o+k) l:=by
 induction l with
 | nil=>intros;rfl
 | cons v r ih =>
  intro cs o k;rw [List.zipIdx_cons,List.foldl_cons,ih];rfl
theorem a5M {place:Nat→Option (Nat×Nat)} {cells:Array Value} {i off size:Nat} {v:Value} {rest:List (Nat×Value)} (hp:place i=some (off,size)) (hs:v.cells.size=size) (ho:off+size≤cells.size) :
  Instr.fill place cells ((i,v)::rest)=Instr.fill place (I3 cells off v.cells.toList) rest:=by
 have e:=b3J v.cells.toList cells off 0;rw [Nat.add_zero] at e;rw [Instr.fill,hp];simp only [hs,ne_eq,not_true_eq_false,decide_false,Bool.false_or];rw [zJ (by simp;omega),← e]
 congr 1;rw [← Array.foldl_toList];simp
theorem c0S:(G.P.info? 24).bind (·.zero)=some (.agg (Array.replicate 69 (.int .i64 0))):=by kernel_rfl
theorem b3K:∃ fs,G.P.underlying 24=some (.struct fs)∧fs.toList.mapM (fun f=>(G.P.info? f.type).map fun i=>(f.offset,i.size))=some [(0,64),(64,1),(65,1),(66,1),(67,1),(68,1)]:=by
 have h:(match G.P.underlying 24 with | some (.struct fs)=>fs.toList.mapM (fun f=>(G.P.info? f.type).map fun i=>(f.offset,i.size)) | _=>none)=some [(0,64),(64,1),(65,1),(66,1),(67,1),(68,1)]:=by kernel_rfl
 split at h
 ·exact ⟨_,by assumption,h⟩
 ·cases h
theorem b6o (p:l9) (a b c:Int):G.P.built 24 [(0,.agg (sqL p).toArray),(3,.int .i64 a),(4,.int .i64 b),(5,.int .i64 c)]=some (I3 (I3 (I3 (I3 (Array.replicate 69 (.int .i64 0)) 0 (sqL p)) 66 [.int .i64 a]) 67 [.int .i64 b]) 68 [.int .i64 c]):=by
 obtain ⟨fs,h1,h2⟩:=b3K;obtain ⟨it,h3,h4⟩:=Option.bind_eq_some_iff.1 c0S;unfold Program.built;rw [h3,h1];simp only [h4,h2];rw [a5M (off:=0) (size:=64) rfl (by show (sqL p).toArray.size=64;simp [a0e]) (by show 64≤(Array.replicate 69 _).size;simp)]
 rw [a5M (off:=66) (size:=1) rfl rfl (by rw [E8];show 67≤(Array.replicate 69 _).size;simp)]
 rw [a5M (off:=67) (size:=1) rfl rfl (by rw [E8,E8];show 68≤(Array.replicate 69 _).size;simp)]
 rw [a5M (off:=68) (size:=1) rfl rfl (by rw [E8,E8,E8];show 69≤(Array.replicate 69 _).size;simp)]
 rfl
theorem b3L (p:l9):I3 (I3 (I3 (I3 (Array.replicate 69 (.int .i64 0)) 0 (sqL p)) 66 [.int .i64 p.ep]) 67 [.int .i64 p.half]) 68 [.int .i64 p.full]=v8 { p with turn:=0,castle:=0 }:=by
 have h:=a0e p;apply Array.ext_getElem?;intro k;have z:(Array.replicate 69 (Value.int .i64 0)).size=69:=by simp
 rw [N3 _ _ _ _ (by rw [E8,E8,E8,z];exact (by decide:68+1≤69)),N3 _ _ _ _ (by rw [E8,E8,z];exact (by decide:67+1≤69)),N3 _ _ _ _ (by rw [E8,z];exact (by decide:66+1≤69)),N3 _ _ _ _ (by rw [z,h];decide)]
 rw [h];simp only [zh,za];by_cases k1:k<64
 ·rw [zJ zo,zJ zo,zJ zo,zM zo,a01 _ _ k1,Nat.sub_zero,List.getElem?_eq_getElem zo,b81 p k1];rfl
 ·by_cases k2:k<69
  ·rcases (by omega:k=64∨k=65∨k=66∨k=67∨k=68) with rfl | rfl | rfl | rfl | rfl<;>rw [G2 _ _ zd]<;>simp
  ·rw [zJ zo,zJ zo,zJ zo,zJ zo,Array.getElem?_eq_none (by rw [z];omega),Array.getElem?_eq_none (by rw [z7];omega)]
theorem Z5.tnO {w w':World} {g n b:Nat} {f:Nat→Value} (h:Z5 w g n f) (hc:Tn b w w') (hne:g≠b):Z5 w' g n f:=by
 obtain ⟨cs,t,fz,h1,h2,h3⟩:=h;exact ⟨cs,t,fz,hc.blk h1 hne,h2,h3⟩
theorem b6p (p:l9) (x:Int):I3 (v8 p) 64 [.int .i64 x]=v8 { p with turn:=x }:=by
 apply Array.ext_getElem?;intro k;rw [N3 _ _ _ _ (by rw [z7];exact (by decide:64+1≤69))]
 simp only [zh,za];by_cases k1:k<64
 ·rw [zJ zo,a01 _ _ k1,a01 _ _ k1];rfl
 ·by_cases k2:k=64
  ·subst k2;rw [zM zd,G2 _ _ zd];rfl
  ·rw [zJ zo,G2 _ _ zo,G2 _ _ zo];obtain ⟨q,rfl⟩:∃ q,k=q+65:=⟨k-65,zo⟩;rw [show q+65-64=q+1 by omega];rfl
theorem b2r (p:l9) (x:Int):I3 (v8 p) 65 [.int .i64 x]=v8 { p with castle:=x }:=by
 apply Array.ext_getElem?;intro k;rw [N3 _ _ _ _ (by rw [z7];exact (by decide:65+1≤69))]
 simp only [zh,za];by_cases k1:k<64
 ·rw [zJ zo,a01 _ _ k1,a01 _ _ k1];rfl
 ·by_cases k2:k=64
  ·subst k2;rw [zJ zd,G2 _ _ zd,G2 _ _ zd];rfl
  ·by_cases k3:k=65
   ·subst k3;rw [zM zd,G2 _ _ zd];rfl
   ·rw [zJ zo,G2 _ _ zo,G2 _ _ zo];obtain ⟨q,rfl⟩:∃ q,k=q+66:=⟨k-66,zo⟩;rw [show q+66-64=q+2 by omega];rfl
theorem c0T:H6 209 171 1 1:=S9 zk
theorem c5H (w:World):Z5 (w.alloc (.cells (([.int .i8 1,.int .i8 1,.int .i8 2,.int .i8 2]:List Value).flatMap fun v=>v.cells.toList).toArray 171)) w.heap.size 4 (fun i=>.int .i8 ((i:Int)/2+1)) :=
 ⟨_,171,(0,0),g7 _ _,rfl,fun i hi=>by
  rcases (by omega:i=0∨i=1∨i=2∨i=3) with rfl | rfl | rfl | rfl<;>rfl⟩
theorem c3n:∀ c:Nat,c<16→∀ i:Nat,i<4→c.testBit i=true→((c%2^i ||| 2^i:Nat))=c%2^(i+1):=by decide
theorem c3o:∀ c:Nat,c<16→∀ i:Nat,i<4→c.testBit i=false→c%2^i=c%2^(i+1):=by decide
theorem c4C:∀ a:Nat,a<16→∀ b:Nat,b<16→a0E .or .i64 (a:Int) (b:Int)=((a ||| b:Nat):Int):=by decide
theorem c4D:∀ i:Nat,i<4→IntKind.i64.wrap (1*2^min ((i:Int)).toNat IntKind.i64.bits)=((2^i:Nat):Int):=by decide
theorem b2s (cr:Int) (h0:0≤cr) (h1:cr≤15) (i:Nat) (hi:i<4) (a b:Int) (ha:a=(i:Int)/2+1) (hb:b=(i:Int)%2+1) (w:World) :
  Calls G.P 175 #[m9 (Ch.castT cr),.int .i8 a,.int .i64 b] w (L4 (.bool (Ch.U8 cr i)) w):=by
 have:=a6Y cr h0 h1 ((i:Int)/2) zo ((i:Int)%2+1) zo w;rw [show (2*((i:Int)/2)+((i:Int)%2+1-1)).toNat=i by omega] at this
 rw [ha,hb];exact this
theorem c0U {p:l9} (hI:B9 p) {P b:Nat} {cv:Value} {c:Bool} (w:World) (hT:C9 w)
  (hP:w.heap[P]?=some (.cells (hdA b (C7 p c) cv) 173 (0,0))) (hB:w.heap[b]?=some (.cells (I4 (mbOf p)) 237 (0,0))) :
  Calls G.P 109 #[.pointer (some ⟨P,0,none⟩)] w (L4 (E2 p) w):=by
 have hep:=L7 hI.pass;obtain ⟨zv,hz,hz69⟩:=b01;have ht:=hI.turn;refine zN Tryz.func109 ?_;refine zR ?_;refine t7 zv hz ?_;have cA:=Cl.alloc w (.cells zv.cells 24);have nA:=g7 w (.cells zv.cells 24);have sA:=A8 w (.cells zv.cells 24);generalize w.alloc (.cells zv.cells 24)=w1 at *;refine zR ?_;refine g8 (b0S (cA.blk hP)) (zR ?_);refine o8 (b0X hI.pc w1 (hT.cl cA) (cA.blk hB)) fun w2 c2=>?_;have c12:=cA.trans c2;have hP2:=c12.blk hP;refine zR ?_;refine g8 (c5D hP2) ?_;rw [show (C7 p c).ep=p.ep from rfl];refine zR ?_;rw [g9 (show -9223372036854775808≤p.ep by omega) zo]
 refine g8 (c3j hP2) ?_;rw [show (C7 p c).half=p.half from rfl];refine zR ?_;refine g8 (c3k hP2) ?_;rw [show (C7 p c).full=p.full from rfl];refine zR ?_;refine s7 (v8 { p with turn:=0,castle:=0 }) ?_ ?_
 ·rw [← b3L];exact b6o p p.ep p.half p.full
 refine zR ?_;refine t7 zv hz ?_;have cB:=Cl.alloc w2 (.cells zv.cells 24);have nB:=g7 w2 (.cells zv.cells 24);generalize w2.alloc (.cells zv.cells 24)=w3 at *;have s12:=c2.size;have nA3:=cB.blk (c2.blk nA);refine zR ?_;refine J6 nB (Y9 { p with turn:=0,castle:=0 }) rfl a1J (C4 _) (one_pos _) (by rw [hz69];exact (by decide:0+69≤69)) (fun w4 u4=>?_)
 have hQ:w4.heap[w2.heap.size]?=some (.cells (v8 { p with turn:=0,castle:=0 }) 24 (0,0)):=by
  rw [u4.at_,B7 _ _ (by rw [C4,hz69])];rfl
 have sw2:=c12.size;have c4:Cl w w4:=(Tn.upd u4).toCl (c12.trans cB) zo;have nA4:=(Tn.upd u4).blk nA3 zo;clear u4 nB;refine zG ?_;refine B0 (σ:=Unit) [] 6 (fun _=>[]) (fun _ w'=>w'.heap[w2.heap.size]?=some (.cells (v8 { p with castle:=0 }) 24 (0,0))∧Cl w w'∧w'.heap[w.heap.size]?=some (.cells zv.cells 24 (0,0))) zk ?_ (fun _ j w5 h5=>?_)
 ·refine zR ?_;refine g8 (a4P w4 (c4.blk hP)) ?_;rw [show (C7 p c).turn=p.turn+1 from rfl];refine zR ?_;apply E.d6<;>intro h
  ·have e1:p.turn=1:=by omega
   refine zR ?_;refine J6 hQ [.int .i64 1] rfl szI rfl (a0d _ _) (by rw [z7];exact (by decide:64+1≤69)) fun w5 u5=>zR ?_
   refine ⟨(),trivial,?_,(Tn.upd u5).toCl c4 zo,(Tn.upd u5).blk nA4 zo⟩;rw [u5.at_,show (bif Nat.beq 64 0 then 0 else 0+64)=64 from rfl,b6p];simp only [e1]
  ·have e0:p.turn=0:=by omega
   refine zR ?_;refine ⟨(),trivial,?_,c4,nA4⟩;rw [hQ];simp only [e0]
 obtain ⟨hQ5,c5,nA5⟩:=h5;refine zR ?_;refine zL c0T [.int .i8 1,.int .i8 1,.int .i8 2,.int .i8 2] ?_;have hbx:=c5H w5;have cC:=Cl.alloc w5 (.cells (([.int .i8 1,.int .i8 1,.int .i8 2,.int .i8 2]:List Value).flatMap fun v=>v.cells.toList).toArray 171);have g5:w2.heap.size<w5.heap.size:=(Array.getElem?_eq_some_iff.1 hQ5).1;generalize w5.alloc (.cells (([.int .i8 1,.int .i8 1,.int .i8 2,.int .i8 2]:List Value).flatMap fun v=>v.cells.toList).toArray 171)=w6 at *;refine zR ?_;have hc16:p.castle.toNat<16:=by have:=hI.c0;have:=hI.c1;omega
 refine A9 (σ:=Nat) [4,5,23] 24 (fun i=>[(23,.int .i64 i)]) (fun i w'=>i≤4∧w'.heap[w2.heap.size]?=some (.cells (v8 { p with castle:=((p.castle.toNat%2^i:Nat):Int) }) 24 (0,0))∧w'.heap[w.heap.size]?=some (.cells zv.cells 24 (0,0))∧Cl w w'∧Z5 w' w5.heap.size 4 (fun i=>.int .i8 ((i:Int)/2+1))) (fun i=>4-i) zk 0
  ⟨zd,by have:=cC.blk hQ5;simpa [Nat.mod_one] using this,cC.blk nA5,c5.trans cC,hbx⟩ ⟨rfl,trivial⟩ ?_
 rintro i j w7 ⟨hi,hQ7,hA7,c7,hbx7⟩;have ni:=C0 (i:=i) zo;refine zR ?_;apply E.d6<;>intro h
 ·have hi2:i<4:=by omega
  clear h;have hcc:=b2s p.castle hI.c0 hI.c1 i hi2 ((i:Int)/2+1) (IntKind.i64.wrap ((i:Int).tmod 2+1)) rfl (by rw [a2g zo,g9 zo zo])
  have hor:=c3n p.castle.toNat hc16 i hi2;have hno:=c3o p.castle.toNat hc16 i hi2;have hbit:U8 p.castle i=p.castle.toNat.testBit i:=rfl;refine zR ?_;refine zC ?_;refine zR ?_;refine d9 _ (K6 (t:=171) hbx7 (i:=i) hi2 rfl rfl) (zR ?_);refine g8 (b6m (c7.blk hP)) ?_;rw [show (C7 p c).cas=castT p.castle from rfl];refine zR ?_;refine o8 (hcc _) fun w8 c8=>?_;have hQ8:=c8.blk hQ7;have hA8:=c8.blk hA7;have c78:=c7.trans c8;have hbx8:=hbx7.cl c8;rw [hbit];cases hb:p.castle.toNat.testBit i
  ·rw [hno hb] at hQ8;refine zR ?_;exact ⟨i+1,⟨d7 ni,trivial⟩,⟨zo,hQ8,hA8,c78,hbx8⟩,zo⟩
  ·have hor:=hor hb;refine zR ?_;refine zK 6 ?_;refine zR ?_;refine m7 _ (fun w hw=>a1H (hw.blk hQ8)) (zR ?_);intro r hr;rw [c4D i hi2] at hr;subst hr;refine zR ?_;intro r hr;rw [c4C _ (Nat.lt_of_le_of_lt (Nat.mod_le _ _) hc16) _ (show 2^i<16 from Nat.pow_lt_pow_right (n:=4) zd hi2),hor] at hr;subst hr;refine zR ?_;intro w9 c9;refine zR ?_;refine J6 (c9.blk hQ8) [.int .i64 ((p.castle.toNat%2^(i+1):Nat):Int)] rfl szI rfl (a0d _ _) (by rw [z7];exact (by decide:65+1≤69)) fun w10 u10=>?_
   have hQ10:=u10.at_;rw [show (bif Nat.beq 65 0 then 0 else 0+65)=65 from rfl,b2r] at hQ10
   refine zR ?_;have c89:=c78.trans c9;exact ⟨i+1,⟨d7 ni,trivial⟩,⟨zo,hQ10,(Tn.upd u10).blk (c9.blk hA8) zo,(Tn.upd u10).toCl c89 zo,(hbx8.cl c9).tnO (Tn.upd u10) zo⟩,zo⟩
 ·have e4:i=4:=by omega
  subst e4;rw [Nat.mod_eq_of_lt (show p.castle.toNat<2^4 by omega),zi hI.c0] at hQ7
  refine zR ?_;refine d9 _ (A3 hQ7) (zR ?_);refine J6 hA7 (Y9 p) rfl a1J (C4 _) (one_pos _) (by rw [hz69];exact (by decide:0+69≤69)) (fun w8 u8=>?_)
  have h8:w8.heap[w.heap.size]?=some (.cells (v8 p) 24 (0,0)):=by rw [u8.at_,B7 _ _ (by rw [C4,hz69])];rfl
  refine zR ?_;refine d9 _ (A3 h8) (zR ?_);exact ⟨rfl,(Tn.upd u8).toCl c7 (yH _)⟩
theorem b6q:∀ a:Nat,a<16→∀ b:Nat,b<16→(castT (a:Int)=castT (b:Int)↔a=b):=by decide
theorem b3M {a b:Int} (a0:0≤a) (a1:a≤15) (b0:0≤b) (b1:b≤15):castT a=castT b↔a=b:=by
 obtain ⟨x,rfl⟩:=ze a0;obtain ⟨y,rfl⟩:=ze b0;rw [b6q x zo y zo];omega
theorem a8M {p q:l9} (hI:B9 p) (hJ:B9 q) {P b P' b':Nat} {cv cv':Value} {c c':Bool} (w:World) (hT:C9 w)
  (hP:w.heap[P]?=some (.cells (hdA b (C7 p c) cv) 173 (0,0))) (hB:w.heap[b]?=some (.cells (I4 (mbOf p)) 237 (0,0)))
  (hP':w.heap[P']?=some (.cells (hdA b' (C7 q c') cv') 173 (0,0))) (hB':w.heap[b']?=some (.cells (I4 (mbOf q)) 237 (0,0))) :
  Calls G.P 249 #[.pointer (some ⟨P,0,none⟩),.pointer (some ⟨P',0,none⟩)] w (L4 (.bool (a1l p q)) w):=by
 have hbi:=b3F hI.pc hJ.pc;have hci:=b3M hI.c0 hI.c1 hJ.c0 hJ.c1;have hal:a1l p q=(decide (p.board=q.board)&&decide (p.turn=q.turn)&&decide (p.castle=q.castle)&&decide (p.ep=q.ep)):=rfl;rw [hal];clear hal;have hs1:=fun w hT hB=>a0X (p:=p) (b:=b) (t:=237) (fz:=(0,0)) hI.pc w hT hB;have hs2:=fun w hT hB=>a0X (p:=q) (b:=b') (t:=237) (fz:=(0,0)) hJ.pc w hT hB;generalize boardT p 8=X at *;generalize boardT q 8=Y at *;refine zN Tryz.func249 ?_;refine zR ?_;refine zK 47 ?_;refine zR ?_;refine qHb hP (zR ?_);refine D4 _ (fun _ _ h=>h.trans) (fun w' h'=>hs1 w' (hT.cl h') (h'.blk hB)) (zR ?_);refine qHb hP' (zR ?_);refine D4 _ (fun _ _ h=>h.trans) (fun w' h'=>hs2 w' (hT.cl h') (h'.blk hB')) (zR ?_);by_cases h1:X=Y
 ·have k1:tx X=tx Y:=by rw [h1]
  rw [zX (hbi.1 h1),yU];refine E.A0 k1 (zR ?_);repeat (refine E.A0 k1 ?_;refine zR ?_)
  refine qHt hP ?_;rw [show (C7 p c).turn=p.turn+1 from rfl];refine zR ?_;repeat (refine E.A0 k1 ?_;refine zR ?_)
  refine qHt hP' ?_;rw [show (C7 q c').turn=q.turn+1 from rfl];refine zR ?_;repeat (refine E.A0 k1 ?_;refine zR ?_)
  by_cases h2:p.turn=q.turn
  ·have k2:p.turn+1=q.turn+1:=by omega
   rw [zX h2,yU];repeat (refine E.A0 k2 ?_;refine zR ?_)
   refine m7 _ (fun w hw=>a36 (hw.blk hP)) ?_;rw [show (C7 p c).cas=castT p.castle from rfl];refine zR ?_;repeat (refine E.A0 k2 ?_;refine zR ?_)
   refine o5 _ (fun w hw=>a0C _ w) (zR ?_);repeat (refine E.A0 k2 ?_;refine zR ?_)
   refine m7 _ (fun w hw=>a36 (hw.blk hP')) ?_;rw [show (C7 q c').cas=castT q.castle from rfl];refine zR ?_;repeat (refine E.A0 k2 ?_;refine zR ?_)
   refine o5 _ (fun w hw=>a0C _ w) (zR ?_);repeat (refine E.A0 k2 ?_;refine zR ?_)
   by_cases h3:castT p.castle=castT q.castle
   ·have k3:tx (castT p.castle)=tx (castT q.castle):=by rw [h3]
    rw [zX (hci.1 h3),yU];repeat (refine E.A0 k3 ?_;refine zR ?_)
    refine c0l hP ?_;rw [show (C7 p c).ep=p.ep from rfl];refine zR ?_;repeat (refine E.A0 k3 ?_;refine zR ?_)
    refine c0l hP' ?_;rw [show (C7 q c').ep=q.ep from rfl];refine zR ?_;repeat (refine E.A0 k3 ?_;refine zR ?_)
    intro w9 c9;refine zR ?_;exact ⟨rfl,c9⟩
   ·have k3:¬ tx (castT p.castle)=tx (castT q.castle):=fun e=>h3 (N5.1 e);repeat (refine E.p8 k3 ?_;refine zR ?_)
    intro w9 c9;refine zR ?_;exact ⟨o9 (by rw [zV (fun e=>h3 (hci.2 e))];rfl),c9⟩
  ·have k2:¬ p.turn+1=q.turn+1:=by omega
   repeat (refine E.p8 k2 ?_;refine zR ?_)
   intro w9 c9;refine zR ?_;exact ⟨o9 (by rw [zV h2];rfl),c9⟩
 ·have k1:¬ tx X=tx Y:=fun e=>h1 (N5.1 e);repeat (refine E.p8 k1 ?_;refine zR ?_)
  intro w9 c9;refine zR ?_;exact ⟨o9 (by rw [zV (fun e=>h1 (hbi.2 e))];rfl),c9⟩
structure Gm where
 P:Nat
 out:Tx
 tags:Value
 root:Nat
 cur:Nat
 com:Value
 meth:Nat
def gmL (g:Gm):List Value:=[.pointer (some ⟨g.P,0,none⟩),m9 g.out,g.tags,.pointer (some ⟨g.root,0,none⟩),.pointer (some ⟨g.cur,0,none⟩),g.com,.int .u8 g.meth,.bool false]
def gmA (g:Gm):Array Value:=(gmL g).toArray
section gm
variable {G0 t:Nat} {g:Gm} {w:World} {fz:Nat×Nat} (hb:w.heap[G0]?=some (.cells (gmA g) t fz))
include hb
theorem a4X:o4 G.P w 83 ⟨G0,0,none⟩ (.pointer (some ⟨g.P,0,none⟩)):=D8 hb rfl rfl
theorem a8N:o4 G.P w 125 ⟨G0,1,none⟩ (m9 g.out):=D8 hb rfl rfl
theorem b5d:o4 G.P w 85 ⟨G0,3,none⟩ (.pointer (some ⟨g.root,0,none⟩)):=D8 hb rfl rfl
theorem a8O:o4 G.P w 85 ⟨G0,4,none⟩ (.pointer (some ⟨g.cur,0,none⟩)):=D8 hb rfl rfl
theorem b0Y:o4 G.P w 129 ⟨G0,6,none⟩ (.int .u8 g.meth):=D8 hb rfl rfl
theorem a4Y:o4 G.P w 4 ⟨G0,7,none⟩ (.bool false):=D8 hb rfl rfl
theorem b82:Calls G.P 43 #[.pointer (some ⟨G0,0,none⟩)] w (D9 (.pointer (some ⟨g.P,0,none⟩)) w):=by
 refine zN Tryz.func43 ?_;refine zR ?_;refine d9 _ (a4X hb) (zR ?_);exact ⟨rfl,rfl⟩
theorem c3p:Calls G.P 110 #[.pointer (some ⟨G0,0,none⟩)] w (D9 (m9 g.out) w):=by
 refine zN Tryz.func110 ?_;refine zR ?_;refine d9 _ (a8N hb) (zR ?_);exact ⟨rfl,rfl⟩
theorem c0V:Calls G.P 111 #[.pointer (some ⟨G0,0,none⟩)] w (D9 (.int .u8 g.meth) w):=by
 refine zN Tryz.func111 ?_;refine zR ?_;refine d9 _ (b0Y hb) (zR ?_);exact ⟨rfl,rfl⟩
theorem c3q {p:l9} (hI:B9 p) (hN:a06 p) {b:Nat} {cv:Value} {c:Bool} (hT:C9 w) (hw:Pow w)
  (hP:w.heap[g.P]?=some (.cells (hdA b (C7 p c) cv) 173 (0,0))) (hB:w.heap[b]?=some (.cells (I4 (mbOf p)) 237 (0,0))):Calls G.P 107 #[.pointer (some ⟨G0,0,none⟩)] w (L4 (m9 (fenT p)) w):=by
 refine zN Tryz.func107 ?_;refine zR ?_;refine d9 _ (a4X hb) (zR ?_);refine o8 (b2p hI hN w hT hw hP hB) fun w1 c1=>zR ?_;exact ⟨rfl,c1⟩
end gm
structure Fr (S:List Nat) (w w':World):Prop where
 os:w'.os=w.os
 tape:w'.tape=w.tape
 output:w'.output=w.output
 size:w.heap.size≤w'.heap.size
 else_:∀ k,k<w.heap.size→k∉S→w'.heap[k]?=w.heap[k]?
section fr
variable {S S':List Nat} {w w1 w2:World}
theorem Fr.blk (h:Fr S w w1) {k:Nat} {o:Obj} (hk:w.heap[k]?=some o) (hn:k∉S):w1.heap[k]?=some o:=by
 rw [h.else_ k (Array.getElem?_eq_some_iff.1 hk).1 hn];exact hk
theorem Fr.refl:Fr S w w:=⟨rfl,rfl,rfl,yH _,fun _ _ _=>rfl⟩
theorem Fr.trans (h:Fr S w w1) (h':Fr S w1 w2):Fr S w w2 :=
 ⟨h'.os.trans h.os,h'.tape.trans h.tape,h'.output.trans h.output,zu h.size h'.size,fun k hk hn=>(h'.else_ k (Nat.lt_of_lt_of_le hk h.size) hn).trans (h.else_ k hk hn)⟩
theorem Fr.cl (h:Cl w w1):Fr S w w1:=⟨h.os,h.tape,h.output,h.size,fun k hk _=>h.block k hk⟩
theorem Fr.tn {b:Nat} (h:Tn b w w1) (hb:b∈S∨w.heap.size≤b):Fr S w w1 :=
 ⟨h.os,h.tape,h.output,h.size,fun k hk hn=>h.else_ k hk (fun e=>by subst e;rcases hb with hb | hb;exact hn hb;omega)⟩
theorem Fr.upd {b:Nat} {o:Obj} (h:Upd w b o w1) (hb:b∈S):Fr S w w1:=Fr.tn (Tn.upd h) (.inl hb)
theorem Fr.mono (h:Fr S w w1) (hs:∀ k∈S,k∈S'):Fr S' w w1:=⟨h.os,h.tape,h.output,h.size,fun k hk hn=>h.else_ k hk (fun e=>hn (hs k e))⟩
theorem Z5.fr {g n:Nat} {f:Nat→Value} (h:Z5 w g n f) (c:Fr S w w1) (hS:∀ k∈S,∀ cs t fz,w.heap[k]?=some (.cells cs t fz)→a2r t=false):Z5 w1 g n f:=by
 obtain ⟨cs,t,fz,h1,h2,h3⟩:=h;exact ⟨cs,t,fz,c.blk h1 (fun e=>by have:=hS _ e _ _ _ h1;rw [h2] at this;cases this),h2,h3⟩
theorem a7t.fr {g o n:Nat} {f:Nat→Value} (h:a7t w g o n f) (c:Fr S w w1) (hS:∀ k∈S,∀ cs t fz,w.heap[k]?=some (.cells cs t fz)→a2r t=false):a7t w1 g o n f:=by
 obtain ⟨cs,t,fz,h1,h2,h3⟩:=h;exact ⟨cs,t,fz,c.blk h1 (fun e=>by have:=hS _ e _ _ _ h1;rw [h2] at this;cases this),h2,h3⟩
theorem a7u.fr {g n:Nat} {f:Nat→Value} (h:a7u w g n f) (c:Fr S w w1) (hS:∀ k∈S,∀ cs t fz,w.heap[k]?=some (.cells cs t fz)→a2r t=false):a7u w1 g n f:=by
 obtain ⟨k,o,c',h1,h2⟩:=h;exact ⟨k,o,c',h1.fr c hS,h2.fr c hS⟩
theorem C9.fr (h:C9 w) (c:Fr S w w1) (hS:∀ k∈S,∀ cs t fz,w.heap[k]?=some (.cells cs t fz)→a2r t=false):C9 w1 :=
 ⟨h.dia.fr c hS,h.anti.fr c hS,h.ranks.fr c hS,h.files.fr c hS,h.kn.fr c hS,h.kg.fr c hS,h.all.fr c hS,h.promo.fr c hS,h.wfen.fr c hS,h.bfen.fr c hS,h.fen.fr c hS,h.emp.imp fun _ e=>e.fr c hS⟩
end fr
def T9 (M:Nat):List Value:=[.pointer (some ⟨M,0,none⟩)]
theorem X7 (M:Nat):(T9 M).length=1:=rfl
theorem a4Z (M:Nat):∀ v∈T9 M,v.oneCell'=true:=by intro v hv;simp [T9] at hv;subst hv;rfl
theorem c0W:H6 134 85 1 8:=S9 zk
theorem b83 {G0 t t':Nat} {g:Gm} {w:World} {fz fz':Nat×Nat} {dc:Nd} (x:Value) (hx:∃ a,x = .pointer (some a)) (hb:w.heap[G0]?=some (.cells (gmA g) t fz)) (hc:w.heap[g.cur]?=some (.cells (F6 dc) t' fz')) (hk:dc.kids = .slice none 0 0) :
  Calls G.P 143 #[.pointer (some ⟨G0,0,none⟩),x] w (D9 (.pointer none) w):=by
 obtain ⟨a,rfl⟩:=hx;have hl:o4 G.P w 134 ⟨g.cur,5,none⟩ (.slice none 0 0):=by
  have:o4 G.P w 134 ⟨g.cur,5,none⟩ dc.kids:=D8 hc rfl rfl
  rwa [hk] at this
 refine zN Tryz.func143 ?_;refine zR ?_;refine d9 _ (a8O hb) (zR ?_);refine a0c false (Q9 rfl _) (zR ?_);refine d9 _ (a8O hb) (zR ?_);refine d9 _ hl (zR ?_);refine a52 1 (zR ?_);exact ⟨rfl,rfl⟩
theorem b84 {G0 t M:Nat} {g:Gm} (hne:G0≠g.cur) {w:World} {fz:Nat×Nat} {dc:Nd} (hb:w.heap[G0]?=some (.cells (gmA g) t fz)) (hc:w.heap[g.cur]?=some (.cells (F6 dc) 141 (0,0))) (hk:dc.kids = .slice none 0 0) :
  Calls G.P 202 #[.pointer (some ⟨G0,0,none⟩),.pointer (some ⟨M,0,none⟩),.bool false] w (fun r w'=>r = .returned (.tuple #[])∧∃ v,Row 85 1 T9 w.heap.size w' v [M]∧w'.heap[g.cur]?=some (.cells (F6 { dc with kids:=v }) 141 (0,0))∧Tn g.cur w w'):=by
 refine zN Tryz.func202 ?_;refine zR ?_;have cS:Cl w w.drew:=Cl.drew (Cl.refl _);have hl:∀ w',Cl w w'→o4 G.P w' 134 ⟨g.cur,5,none⟩ (.slice none 0 0):=fun w' hw=>by
  have:o4 G.P w' 134 ⟨g.cur,5,none⟩ dc.kids:=D8 (hw.blk hc) rfl rfl
  rwa [hk] at this
 refine I5.mk3 (Tn g.cur w) [0,1,2,3,4,5,6,7,8,9,11] (.cons 10 (.cons 12 (.cons 13 (.cons 14 (.cons 15 (.cons 16 .done .nil) .nil) .nil) .nil) .nil) (.cons 12 (.cons 10 (.cons 13 (.cons 14 (.cons 15 (.cons 16 .done .nil) .nil) .nil) .nil) .nil) .nil)) (Tn.cl cS) zk (zR ?_);refine m7 _ (fun w' hw=>a8O (hw.blk hb hne)) (zR ?_);refine m7 _ (fun w' hw=>a8O (hw.blk hb hne)) (zR ?_);refine ⟨?_,?_,trivial⟩
 ·refine zR ?_;refine d9 _ (hl _ cS) (zR ?_);refine And.intro (Tn.cl cS) (zE ?_);refine zL c0W [.pointer (some ⟨M,0,none⟩)] ?_;have cB:=cS.trans (Cl.alloc w.drew (.cells (([.pointer (some ⟨M,0,none⟩)]:List Value).flatMap fun v=>v.cells.toList).toArray 85));have hbx:Row 85 1 T9 w.drew.heap.size (w.drew.alloc (.cells (([.pointer (some ⟨M,0,none⟩)]:List Value).flatMap fun v=>v.cells.toList).toArray 85)) (.slice (some ⟨w.drew.heap.size,0,none⟩) 1 1) [M]:=C1 X7 w.drew [M] (by exact zU rfl) [.pointer (some ⟨M,0,none⟩)] rfl
  generalize w.drew.alloc (.cells (([.pointer (some ⟨M,0,none⟩)]:List Value).flatMap fun v=>v.cells.toList).toArray 85)=w1 at *;refine zR ?_;refine And.intro (Tn.cl cB) (zE ?_);refine F7 c0W (l:=[]) (news:=[M]) rfl (Row.nil w1 w.heap.size) rfl hbx X7 a4Z (by exact zU rfl) zd cB.size fun v' w2 hr hg=>?_
  rw [yJ] at hr;have c2:Cl w w2:=hg.toCl rfl cB;obtain ⟨a9,c9,rfl,_⟩:=hr.form;refine zR ?_;refine And.intro (Tn.cl c2) (zE ?_);refine And.intro (Tn.cl c2) (zE ?_);refine And.intro (Tn.cl c2) (zE ?_);refine zT (c2.blk hc) [.slice a9 1 c9] fun w3 u3=>?_;have n3:Tn g.cur w w3:=(Tn.cl c2).trans (Tn.upd u3);refine zR ?_;refine And.intro n3 (zR ?_);exact ⟨rfl,_,hr.updT u3 (c2.blk hc) zd,u3.at_,n3⟩
 ·refine zR ?_;refine zL c0W [.pointer (some ⟨M,0,none⟩)] ?_;have cB:=cS.trans (Cl.alloc w.drew (.cells (([.pointer (some ⟨M,0,none⟩)]:List Value).flatMap fun v=>v.cells.toList).toArray 85));have hbx:Row 85 1 T9 w.drew.heap.size (w.drew.alloc (.cells (([.pointer (some ⟨M,0,none⟩)]:List Value).flatMap fun v=>v.cells.toList).toArray 85)) (.slice (some ⟨w.drew.heap.size,0,none⟩) 1 1) [M]:=C1 X7 w.drew [M] (by exact zU rfl) [.pointer (some ⟨M,0,none⟩)] rfl
  generalize w.drew.alloc (.cells (([.pointer (some ⟨M,0,none⟩)]:List Value).flatMap fun v=>v.cells.toList).toArray 85)=w1 at *;refine zR ?_;refine And.intro (Tn.cl cB) (zE ?_);refine d9 _ (hl _ cB) (zR ?_);refine And.intro (Tn.cl cB) (zE ?_);refine F7 c0W (l:=[]) (news:=[M]) rfl (Row.nil w1 w.heap.size) rfl hbx X7 a4Z (by exact zU rfl) zd cB.size fun v' w2 hr hg=>?_
  rw [yJ] at hr;have c2:Cl w w2:=hg.toCl rfl cB;obtain ⟨a9,c9,rfl,_⟩:=hr.form;refine zR ?_;refine And.intro (Tn.cl c2) (zE ?_);refine And.intro (Tn.cl c2) (zE ?_);refine And.intro (Tn.cl c2) (zE ?_);refine zT (c2.blk hc) [.slice a9 1 c9] fun w3 u3=>?_;have n3:Tn g.cur w w3:=(Tn.cl c2).trans (Tn.upd u3);refine zR ?_;refine And.intro n3 (zR ?_);exact ⟨rfl,_,hr.updT u3 (c2.blk hc) zd,u3.at_,n3⟩
theorem c0X {G0 t M:Nat} {g:Gm} (hne:G0≠g.cur) (hGM:G0≠M) (hcM:g.cur≠M) {w:World} {fz:Nat×Nat} {dc d:Nd} (hb:w.heap[G0]?=some (.cells (gmA g) t fz)) (hc:w.heap[g.cur]?=some (.cells (F6 dc) 141 (0,0))) (hk:dc.kids = .slice none 0 0)
  (hM:w.heap[M]?=some (.cells (F6 d) 141 (0,0))) :
  Calls G.P 144 #[.pointer (some ⟨G0,0,none⟩),.pointer (some ⟨M,0,none⟩),.pointer none,.bool false] w (fun r w'=>r = .returned (.tuple #[])∧∃ v,Row 85 1 T9 w.heap.size w' v [M]
  ∧w'.heap[g.cur]?=some (.cells (F6 { dc with kids:=v }) 141 (0,0))∧w'.heap[M]?=some (.cells (F6 { d with par:=.pointer (some ⟨g.cur,0,none⟩) }) 141 (0,0))∧Fr [M,g.cur] w w'):=by
 refine zN Tryz.func144 ?_;refine zR ?_;refine d9 _ (a8O hb) (zR ?_);refine zT hM [.pointer (some ⟨g.cur,0,none⟩)] fun w1 u1=>?_;refine zR ?_;refine I8 true (Q9 rfl _) (zR ?_);refine m8 (b84 hne ((Tn.upd u1).blk hb hGM) ((Tn.upd u1).blk hc hcM) hk) ?_;rintro e w2 ⟨rfl,v,hr,h2,n2⟩;refine ⟨_,rfl,?_⟩;refine zR ?_;have hr':=hr.mono (by rw [u1.size];exact yH _:w.heap.size≤w1.heap.size)
 exact ⟨rfl,v,hr',h2,n2.blk u1.at_ (Ne.symm hcM),(Fr.upd u1 (by simp)).trans (Fr.tn n2 (.inl (by simp)))⟩
theorem b85 {p:l9} (hI:B9 p) (hN:a06 p) {G0 b M:Nat} {g:Gm} {cv:Value} {d:Nd} (hm:d.mv∈s8 p) (htg:(d.tags:Int)=told p d.mv) (w:World) (hT:C9 w) (hP:H9 w g.P b p cv)
  (hM:w.heap[M]?=some (.cells (F6 d) 141 (0,0))) (hGM:G0≠M) (hb:w.heap[G0]?=some (.cells (gmA g) 131 (0,0))) :
  Calls G.P 145 #[.pointer (some ⟨G0,0,none⟩),.pointer (some ⟨M,0,none⟩)] w (fun r w'=>r = .returned (.tuple #[])∧∃ P' b',w.heap.size≤P'∧w.heap.size≤b'∧H9 w' P' b' (made p d.mv) (.slice none 0 0)
  ∧w'.heap[G0]?=some (.cells (gmA { g with P:=P' }) 131 (0,0))∧w'.heap[M]?=some (.cells (F6 { d with pos:=.pointer (some ⟨P',0,none⟩) }) 141 (0,0))∧Fr [G0,M] w w'):=by
 have hGs:G0<w.heap.size:=(Array.getElem?_eq_some_iff.1 hb).1;have hMs:M<w.heap.size:=(Array.getElem?_eq_some_iff.1 hM).1;refine zN Tryz.func145 ?_;refine zR ?_;refine d9 _ (a4X hb) (zR ?_);refine m8 (a5J hI hN hm htg w hT hP hM) ?_;rintro e w1 ⟨P',b',rfl,s1,s2,hH',hB',c1⟩;refine ⟨_,rfl,?_⟩;refine zR ?_;refine I8 false (Q9 rfl _) (zR ?_);refine zT (c1.blk hb) [.pointer (some ⟨P',0,none⟩)] fun w2 u2=>?_;refine zR ?_;refine J6 ((Tn.upd u2).blk (c1.blk hM) (Ne.symm hGM)) [.pointer (some ⟨P',0,none⟩)] rfl zk rfl (by intro v hv;simp at hv;subst hv;rfl) (zU rfl) fun w3 u3=>zR ?_
 have k2:∀ {k:Nat} {o:Obj},w1.heap[k]?=some o→k≠G0→k≠M→w3.heap[k]?=some o:=fun h n1 n2=>(Tn.upd u3).blk ((Tn.upd u2).blk h n1) n2;exact ⟨rfl,P',b',s1,s2,⟨k2 hH' zo zo,k2 hB' zo zo,.inl rfl⟩,(Tn.upd u3).blk u2.at_ hGM,u3.at_,((Fr.cl c1).trans (Fr.upd u2 (by simp))).trans (Fr.upd u3 (by simp))⟩
end
end Go.Proofs.YtpclhlhcegcflaaGreatDoor
