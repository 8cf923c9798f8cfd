/- One part of the proof: Pk20 Pk21 Pk22 Pk23 Pk24 Pk25 Pk26 Pk27 Pk28 Pk29 Pk30 Pk31 Err Pk32 Pk33 Pk34 Pk35 Pk36. -/
import Derived.Test.YtpclhlhcegcflaaGreatDoorM12
namespace Go.Proofs.YtpclhlhcegcflaaGreatDoor
set_option maxRecDepth 100000
set_option linter.unusedSimpArgs false
set_option linter.unusedVariables false
section
open Go Go.RowKit
open E
open Ch Bb
section nd
variable {M t:Nat} {d:Nd} {w:World} {fz:Nat×Nat} (hM:w.heap[M]?=some (.cells (E8 d) t fz))
include hM
theorem c4P:Calls G.P 140 #[.pointer (some ⟨M,0,none⟩)] w (E5 (.int .i8 d.mv.fr) w):=by
 refine zN Tryz.func140 ?_;refine zR ?_;refine b7 _ (b5b hM) (zR ?_);exact ⟨rfl,rfl⟩
theorem c5L:Calls G.P 141 #[.pointer (some ⟨M,0,none⟩)] w (E5 (.int .i8 d.mv.to) w):=by
 refine zN Tryz.func141 ?_;refine zR ?_;refine b7 _ (b5c hM) (zR ?_);exact ⟨rfl,rfl⟩
theorem c1o:Calls G.P 142 #[.pointer (some ⟨M,0,none⟩)] w (E5 (.int .i8 d.mv.promo) w):=by
 refine zN Tryz.func142 ?_;refine zR ?_;refine b7 _ (a8y hM) (zR ?_);exact ⟨rfl,rfl⟩
end nd
section hd
variable {b P t:Nat} {h:Hd} {cv:Value} {w:World} {fz:Nat×Nat} (hP:w.heap[P]?=some (.cells (hdA b h cv) t fz))
include hP
theorem c1p:Calls G.P 149 #[.pointer (some ⟨P,0,none⟩)] w (E5 (.pointer (some ⟨b,0,none⟩)) w):=by
 refine zN Tryz.func149 ?_;refine zR ?_;refine b7 _ (a8v hP) (zR ?_);exact ⟨rfl,rfl⟩
end hd
theorem c1q (p:l9) (l:List PM) (m:Mv):(s1M p l m).length≤2:=by
 unfold s1M;split
 ·simp
 ·simp only [zF];split<;>split<;>simp [D2,rankT]
theorem b61 (p:l9) (m:Mv) (t:Nat):(a2d p m t).length≤1:=by unfold a2d;(repeat' split)<;>simp
theorem a4l {M t:Nat} {d:Nd} {w:World} {fz:Nat×Nat} (hM:w.heap[M]?=some (.cells (E8 d) t fz)) (h64:d.tags<64) (k:Nat) (hk:k<6) (n:Int) (hn:n=((2^k:Nat):Int)):Calls G.P 147 #[.pointer (some ⟨M,0,none⟩),.int .u16 n] w (E5 (.bool (d.tags.testBit k)) w):=by
 rw [hn];exact a1H zo zo w hM
set_option maxHeartbeats 2000000 in
theorem b2z {p:l9} (hI:D0 p) (hN:a1A p) (hle:(B5 p).length≤218) {d:Nd} {P b M:Nat} {ad:Addr} {n0 c0:Nat} (hm:d.mv∈A1 p) {ck:Bool} (hck:o5 (made p d.mv)=true→ck=true) (htg:(d.tags:Int)=K5 p d.mv+(if ck then 16 else 0)) (w:World) (hT:D5 w) (hP:I0 w P b p (.slice (some ad) n0 c0))
  (hM:w.heap[M]?=some (.cells (E8 d) 141 (0,0))) :
  Calls G.P 104 #[.agg #[],.pointer (some ⟨P,0,none⟩),.pointer (some ⟨M,0,none⟩)] w (N2 (m9 (b8M p d.mv d.tags)) w):=by
 obtain ⟨_,_,h64⟩:=a3d htg;obtain ⟨f0,f1,t0,t1,hpm⟩:=V9 hI hm;obtain ⟨fr,hfr⟩:=ze f0;have hf64:fr<64:=by omega
 have pc:=fun w hT hB=>a1f (A4 p) b (t:=237) (fz:=(0,0)) fr hf64 w hT hB;rw [a0t hI.pc hf64,← hfr] at pc;have hpr:=hI.pc d.mv.fr;have ety:=fun w=>a2n (sq p d.mv.fr) hpr.1 hpr.2 w;have hchk:=fun (w:World) hT hP hM=>a8J hI hN (P:=P) (b:=b) (M:=M) (cv:=.slice (some ad) n0 c0) (d:=d) hm hck htg w hT hP hM;have hfs:=fun (w:World) hT hP hM=>b8T hI hle (P:=P) (b:=b) (M:=M) (t:=141) (fz:=(0,0)) (ad:=ad) (n0:=n0) (c0:=c0) (d:=d) f0 f1 w hT hP hM;have htoT:sqT d.mv.to=D2 d.mv.to++rankT d.mv.to:=by unfold sqT;rw [zJ zo]
 have hk0:0≤d6 (sq p d.mv.fr)∧d6 (sq p d.mv.fr)≤6:=by unfold d6;split<;>omega
 have hs6:d6 (sq p d.mv.fr)=6→s1M p (N9 p) d.mv=[]:=fun h=>by unfold s1M;rw [zM h]
 have hsan:b8M p d.mv d.tags=if d.tags.testBit 0 then [79,45,79]++a2d p d.mv d.tags else if d.tags.testBit 1 then [79,45,79,45,79]++a2d p d.mv d.tags
  else D7 (d6 (sq p d.mv.fr))++s1M p (N9 p) d.mv++(if d.tags.testBit 2||d.tags.testBit 3 then (if d6 (sq p d.mv.fr)=6 then D2 d.mv.fr else [])++[120] else [])++sqT d.mv.to++(if d.mv.promo=0 then [] else [61]++D7 d.mv.promo)++a2d p d.mv d.tags:=rfl
 rw [hsan];clear hsan;have gl:=b61 p d.mv d.tags;have sl:=c1q p (N9 p) d.mv;have ll:(D7 (d6 (sq p d.mv.fr))).length≤1:=Z7 _;have pl:(D7 d.mv.promo).length≤1:=Z7 _;have el:=fun w=>b2y (d6 (sq p d.mv.fr)) hk0.1 hk0.2 w;have ep:=fun w=>b2y d.mv.promo zo zo w;generalize a2d p d.mv d.tags=SG at *;generalize s1M p (N9 p) d.mv=S1 at *;generalize d6 (sq p d.mv.fr)=KD at *;refine zN Tryz.func104 ?_;refine zR ?_;have cb:=Cl.alloc w (.cells #[] 149);generalize w.alloc (.cells #[] 149)=wb at *;refine o9 (hchk wb (hT.cl cb) (hP.step cb) (cb.blk hM)) fun w1 c1=>?_;have cw1:=cb.trans c1;have hM1:=cw1.blk hM;refine zR ?_;refine l8 (a4l hM1 h64 0 zd _ rfl) ?_;cases hb0:d.tags.testBit 0;rotate_left
 ·refine zR ?_;refine E.A8 (A5 (x:=[79,45,79]) (y:=SG) (by simp;omega)) (zR ?_)
  exact ⟨F1 (A9 [79,45,79] SG),cw1⟩
 refine zR ?_;refine l8 (a4l hM1 h64 1 zd _ rfl) ?_;cases hb1:d.tags.testBit 1;rotate_left
 ·refine zR ?_;refine E.A8 (A5 (x:=[79,45,79,45,79]) (y:=SG) (by simp;omega)) (zR ?_)
  exact ⟨F1 (A9 [79,45,79,45,79] SG),cw1⟩
 refine zR ?_;refine v8 _ b8o ?_;have cA:=Cl.alloc w1 (.cells (Value.agg #[.pointer none,.slice none 0 0]).cells 160);have nA:=d9 w1 (.cells (Value.agg #[.pointer none,.slice none 0 0]).cells 160);generalize w1.alloc (.cells (Value.agg #[.pointer none,.slice none 0 0]).cells 160)=w2 at *;refine zR ?_;refine o7 (b5t nA) ?_;rintro r w3 ⟨rfl,u3⟩;refine ⟨_,rfl,?_⟩;have hb3:Bld w1 w1.heap.size [] w3:=Bld.fresh ((Tn.upd u3).toCl cA (yJ _)) (yJ _) u3.at_;have cw3:=cw1.trans hb3.cl;refine zR ?_;refine l8 (c1p (hP.step cw3).hd) (zR ?_);refine l8 (c4P (cw3.blk hM)) (zR ?_);refine l8 (pc _ (hT.cl cw3) (hP.step cw3).bd) (zG ?_);refine C3 (σ:=Unit) [10] 12 (fun _=>[]) (fun _ w'=>Bld w1 w1.heap.size (D7 KD) w') zk ?_ (fun _ j w4 h4=>?_)
 ·refine zR ?_;refine l8 (ety _) (zR ?_);refine l8 (el _) ?_;rcases kinds hk0.1 hk0.2 with rfl|rfl|rfl|rfl|rfl|rfl|rfl<;>(refine zR ?_)<;>first
   | exact ⟨(),trivial,hb3⟩
   | (refine o7 (E4 (D7 _) hb3 zd (by rw [D7];decide)) ?_
      rintro r w4 ⟨rfl,h4⟩;refine ⟨_,rfl,zR ?_⟩;exact ⟨(),trivial,h4⟩)
 have cw4:=cw1.trans h4.cl;refine C3 (σ:=Unit) [11] 12 (fun _=>[]) (fun _ w'=>Bld w1 w1.heap.size (D7 KD++S1) w') zk ?_ (fun _ j w5 h5=>?_)
 ·refine zR ?_;refine o9 (hfs _ (hT.cl cw4) (hP.step cw4) (cw4.blk hM)) fun w5 c5=>?_;have h5:=h4.step c5;refine zR ?_;apply E.y6<;>intro h
  ·refine zR ?_;refine o7 (E4 S1 h5 zo zo) ?_;rintro r w6 ⟨rfl,h6⟩;refine ⟨_,rfl,zR ?_⟩;exact ⟨(),trivial,h6⟩
  ·have e:S1=[]:=by rw [J4] at h;exact P8.1 h
   refine zR ?_;exact ⟨(),trivial,by rw [e,zn];exact h5⟩
 have cw5:=cw1.trans h5.cl;have hM5:=cw5.blk hM;have hl5:(D7 KD++S1).length≤3:=by rw [zF];omega
 refine C3 (σ:=Unit) [] 12 (fun _=>[]) (fun _ w'=>Bld w1 w1.heap.size ((D7 KD++S1)++(if d.tags.testBit 2||d.tags.testBit 3 then (if KD=6 then D2 d.mv.fr else [])++[120] else [])) w') zk ?_ (fun _ j w6 h6=>?_)
 ·have tg2:=a4l hM5 h64 2 zd 4 rfl;have tg3:=a4l hM5 h64 3 zd 8 rfl;cases hb2:d.tags.testBit 2
  ·rw [hb2] at tg2;refine zR ?_;refine l8 tg2 (zR ?_);cases hb3':d.tags.testBit 3
   ·rw [hb3'] at tg3;refine l8 tg3 (zR ?_);exact ⟨(),trivial,by simpa using h5⟩
   ·rw [hb3'] at tg3;refine l8 tg3 (zR ?_);refine l8 (ety _) ?_;by_cases hk:KD=6
    ·subst hk;have e:D7 6++S1=[]:=by rw [hs6 rfl];rfl
     rw [e] at h5 ⊢;refine zR ?_;refine l8 (c2l h5) (zR ?_);refine a4Q hM5 (zR ?_);refine l8 (a2Z d.mv.fr f0 f1 _) (zR ?_);refine l8 (b3R (d.mv.fr%8) zo zo _) (zR ?_);refine o7 (E4 (D2 d.mv.fr) h5 zd (by rw [a9Y];decide)) ?_
     rintro r w6 ⟨rfl,h6⟩;refine ⟨_,rfl,zR ?_⟩;refine o7 (E4 [120] h6 (by simp [D2]) zd) ?_
     rintro r w7 ⟨rfl,h7⟩;refine ⟨_,rfl,zR ?_⟩;exact ⟨(),trivial,h7⟩
    ·refine zR ?_;refine E.p9 hk (zR ?_);repeat (refine E.p9 hk ?_;refine zR ?_)
     refine o7 (E4 [120] h5 zo zd) ?_;rintro r w7 ⟨rfl,h7⟩;refine ⟨_,rfl,zR ?_⟩;exact ⟨(),trivial,by rw [zJ hk];exact h7⟩
  ·rw [hb2] at tg2;refine zR ?_;refine l8 tg2 (zR ?_);refine l8 (ety _) ?_;by_cases hk:KD=6
   ·subst hk;have e:D7 6++S1=[]:=by rw [hs6 rfl];rfl
    rw [e] at h5 ⊢;refine zR ?_;refine l8 (c2l h5) (zR ?_);refine a4Q hM5 (zR ?_);refine l8 (a2Z d.mv.fr f0 f1 _) (zR ?_);refine l8 (b3R (d.mv.fr%8) zo zo _) (zR ?_);refine o7 (E4 (D2 d.mv.fr) h5 zd (by rw [a9Y];decide)) ?_
    rintro r w6 ⟨rfl,h6⟩;refine ⟨_,rfl,zR ?_⟩;refine o7 (E4 [120] h6 (by simp [D2]) zd) ?_
    rintro r w7 ⟨rfl,h7⟩;refine ⟨_,rfl,zR ?_⟩;exact ⟨(),trivial,h7⟩
   ·refine zR ?_;refine E.p9 hk (zR ?_);repeat (refine E.p9 hk ?_;refine zR ?_)
    refine o7 (E4 [120] h5 zo zd) ?_;rintro r w7 ⟨rfl,h7⟩;refine ⟨_,rfl,zR ?_⟩;exact ⟨(),trivial,by rw [zJ hk];exact h7⟩
 have cw6:=cw1.trans h6.cl;have hM6:=cw6.blk hM;have hl6:((D7 KD++S1)++(if d.tags.testBit 2||d.tags.testBit 3 then (if KD=6 then D2 d.mv.fr else [])++[120] else [])).length≤5:=by
  rw [zF];have:(if d.tags.testBit 2||d.tags.testBit 3 then (if KD=6 then D2 d.mv.fr else [])++[120] else []).length≤2:=by (repeat' split)<;>simp [D2]
  omega
 generalize (D7 KD++S1)++(if d.tags.testBit 2||d.tags.testBit 3 then (if KD=6 then D2 d.mv.fr else [])++[120] else [])=L at *
 refine zR ?_;refine a7k hM6 (zR ?_);refine l8 (c1l d.mv.to t0 t1 _) (zR ?_);refine o7 (E4 (D2 d.mv.to++rankT d.mv.to) h6 zo (by simp [D2,rankT])) ?_
 rintro r w7 ⟨rfl,h7⟩;rw [← htoT] at h7;refine ⟨_,rfl,?_⟩;have hl7:(L++sqT d.mv.to).length≤7:=by rw [zF,htoT];simp [D2,rankT];omega
 have hM7:=(cw1.trans h7.cl).blk hM;refine zG ?_;refine C3 (σ:=Unit) [] 12 (fun _=>[]) (fun _ w'=>Bld w1 w1.heap.size (L++sqT d.mv.to++(if d.mv.promo=0 then [] else [61]++D7 d.mv.promo)) w') zk ?_ (fun _ j w8 h8=>?_)
 ·refine zR ?_;refine a56 hM7 (zR ?_);apply E.y6<;>intro h
  ·refine zR ?_;refine o7 (E4 [61] h7 zo zd) ?_;rintro r w8 ⟨rfl,h8⟩;refine ⟨_,rfl,?_⟩;have hM8:=(cw1.trans h8.cl).blk hM;refine zR ?_;refine a56 hM8 (zR ?_);refine l8 (ep _) (zR ?_);refine o7 (E4 (D7 d.mv.promo) h8 (by rw [zF,List.length_singleton];omega) zo) ?_
   rintro r w9 ⟨rfl,h9⟩;refine ⟨_,rfl,zR ?_⟩;exact ⟨(),trivial,by rw [zJ h,← yG];exact h9⟩
  ·refine zR ?_;exact ⟨(),trivial,by rw [zM h,zn];exact h7⟩
 have cw8:=cw1.trans h8.cl;have hl8:(L++sqT d.mv.to++(if d.mv.promo=0 then [] else [61]++D7 d.mv.promo)).length≤9:=by
  rw [zF];have:(if d.mv.promo=0 then [] else [61]++D7 d.mv.promo).length≤2:=by split<;>simp;omega
  omega
 refine zR ?_;refine o9 (hchk _ (hT.cl cw8) (hP.step cw8) (cw8.blk hM)) fun w9 c9=>zR ?_;refine o7 (E4 SG (h8.step c9) zo zo) ?_;rintro r w10 ⟨rfl,h10⟩;refine ⟨_,rfl,zR ?_⟩;refine o7 (a3B h10) ?_;rintro r w11 ⟨rfl,c11⟩;refine ⟨_,rfl,zR ?_⟩;exact ⟨rfl,cw1.trans c11⟩
theorem b20 {w:World} {b:Nat} {p v:Value} (hp:p = .pointer none∨p = .pointer (some ⟨b,0,none⟩)) (hk:w.heap[b]?=some (.cells #[p,v] 160 (0,0))) :
  Calls G.P 183 #[.pointer (some ⟨b,0,none⟩)] w (fun r w'=>r = .returned (.tuple #[])∧Upd w b (.cells #[.pointer (some ⟨b,0,none⟩),v] 160 (0,0)) w'):=by
 rcases hp with rfl|rfl
 ·refine (Any.Builder_copyCheck_fresh Tryz.lays240 Tryz.Builder_Extra_240.toX72 b w (by rw [C9 hk];rfl) (by simp [World.shape?,hk];rfl) (by simp [World.frozen?,hk])).mono ?_
  rintro r w' ⟨h1,h2⟩;refine ⟨h1,?_⟩;rw [h2];exact a6a [.pointer (some ⟨b,0,none⟩)] w b 0 _ _ _ hk
 ·refine (Any.Builder_copyCheck_used Tryz.lays240 Tryz.Builder_Extra_240.toX72 b w (by rw [C9 hk];rfl)).mono ?_
  rintro r w' ⟨h1,h2⟩;subst h2;exact ⟨h1,rfl,rfl,rfl,rfl,hk,fun _ _=>rfl⟩
theorem b8U {b0:Nat} {w:World} {v:Value} {l:Tx}:Row 5 1 a0h b0 w v l↔w.ownsRow b0 5 1 v (Lib.byteCells l).length (Lib.byteCells l):=by
 unfold Row;rw [b5r,Lib.byteCells_length]
theorem Row.updT {α:Type} {enc:α→List Value} {e z b0 b T:Nat} {w w':World} {v:Value} {l:List α} {o:Obj} {cs:Array Value} {fz:Nat×Nat} (h:Row e z enc b0 w v l) (u:Upd w b o w') (hb:w.heap[b]?=some (.cells cs T fz)) (hT:T≠e):Row e z enc b0 w' v l:=by
 refine ⟨h.1,?_⟩;rcases h.2 with h2|⟨g,cap,cur,h1,h2,h3,h4⟩
 ·exact .inl h2
 ·refine .inr ⟨g,cap,cur,h1,h2,(Tn.upd u).blk h3 (fun e=>?_),h4⟩;subst e;rw [hb] at h3;injection h3 with h3;injection h3 with _ h3 _;exact hT h3
theorem b0W (f r:Nat) (f1:f<8) (r1:r<8) (w:World):Calls G.P 167 #[.int .i8 f,.int .i8 r] w (E5 (.int .i8 ((8*r+f:Nat):Int)) w):=by
 have:=b1W f r zo zo zo zo w;rw [show ((8*r+f:Nat):Int)=8*(r:Int)+f by push_cast;rfl];exact this
theorem a9Z {t e z by_:Nat} (E1:F0 t e z by_) {l c:Operand} {k k':IntKind} (n:Nat) {dst:Option Nat} {ty:Nat} {pos:String} {af:Array Edge} {gd:Option (Nat×Bool)} {env:C8} {w:World} {K:Value→World→Prop}
  (hl:ev env l = .int k 0) (hc:ev env c = .int k' n) (hn:n≤100000) (hb:by_≤1000)
  (hk:∀ cs:Array Value,cs.size=n*z→K (.slice (some ⟨w.heap.size,0,none⟩) 0 n) (w.alloc (.cells cs e))):H4 G.P { dst,op:=.makeSlice t l c,type:=ty,pos,after:=af,guard:=gd } env w K:=by
 obtain ⟨i,zv,hi,hzv,hsz,hby,hzs⟩:=E1.info;have hle:n*by_≤100000*1000:=Nat.mul_le_mul hn hb;have hbb:(i.bytes:Int)*(n:Int)≤281474976710656:=by
  rw [hby];have e:(by_:Int)*(n:Int)=((n*by_:Nat):Int):=by push_cast;exact Int.mul_comm _ _
  rw [e];omega
 have:=run_make (P:=G.P) w t e i zv E1.ty hi hzv k k' 0 n zo zo hbb zo;simp only [zg] at this;refine ⟨.inl ⟨_,_,?_,hk (madeCells zv.cells (n*i.size)) (by rw [size_madeCells,hsz])⟩⟩
 show (do pure (Next.value (← Instr.makeSlice t (ev env l) (ev env c))):Sem Next).run G.P w=_
 rw [hl,hc,yj,this];rfl
theorem Row.zero {α:Type} {enc:α→List Value} {e z b0 g n:Nat} {w:World} {cs:Array Value} (hb:b0≤g) (h:w.heap[g]?=some (.cells cs e (0,0))) (hs:cs.size=n*z) (hn:n≤100000):Row e z enc b0 w (.slice (some ⟨g,0,none⟩) 0 n) ([]:List α) :=
 ⟨by simp,.inr ⟨g,n,cs,rfl,hb,h,xA _,by unfold maxLen;omega,hs,by simp⟩⟩
theorem b21 {e:Nat} (h0:0<e) (h8:e≤8):X6 e=[UInt8.ofNat (48+e)]:=by
 rcases (by omega:e=1∨e=2∨e=3∨e=4∨e=5∨e=6∨e=7∨e=8) with rfl|rfl|rfl|rfl|rfl|rfl|rfl|rfl<;>(unfold X6 X8;rfl)
theorem c1r {x:Int} (h0:1≤x) (h1:x≤12):∃ c,pcT x=[c]:=by
 rcases (by omega:x=1∨x=2∨x=3∨x=4∨x=5∨x=6∨x=7∨x=8∨x=9∨x=10∨x=11∨x=12) with rfl|rfl|rfl|rfl|rfl|rfl|rfl|rfl|rfl|rfl|rfl|rfl<;>exact ⟨_,rfl⟩
theorem c1s {w:World} (c:UInt8):Row 5 1 a0h w.heap.size (w.alloc (.cells (([Value.int .u8 (c.toNat:Int)]:List Value).flatMap fun v=>v.cells.toList).toArray 5)) (.slice (some ⟨w.heap.size,0,none⟩) 1 1) [c] :=
 L4 a3F w [c] (zU rfl) [.int .u8 (c.toNat:Int)] rfl
theorem c2x {e:Nat} (h:e≤8):IntKind.u8.wrap (IntKind.i64.wrap (48+(e:Int)))=((UInt8.ofNat (48+e)).toNat:Int):=by
 rcases (by omega:e=0∨e=1∨e=2∨e=3∨e=4∨e=5∨e=6∨e=7∨e=8) with rfl|rfl|rfl|rfl|rfl|rfl|rfl|rfl|rfl<;>decide
set_option maxHeartbeats 1000000 in
theorem a48 {p:l9} (hp:∀ i:Int,0≤sq p i∧sq p i≤12) {b t:Nat} {fz:Nat×Nat} (w:World) (hT:D5 w) (hB:w.heap[b]?=some (.cells (H3 (A4 p)) t fz)) :
  Calls G.P 164 #[.pointer (some ⟨b,0,none⟩)] w (N2 (m9 (A6 p 8)) w):=by
 refine zN Tryz.func164 ?_;refine zR ?_;refine a9Z a1E 71 rfl rfl zd zd fun cs hcs=>?_;have ca:=Cl.alloc w (.cells cs 5);have hr0:Row 5 1 a0h w.heap.size (w.alloc (.cells cs 5)) (.slice (some ⟨w.heap.size,0,none⟩) 0 71) ([]:Tx):=Row.zero (yJ _) (d9 _ _) hcs zd;generalize w.alloc (.cells cs 5)=w1 at *;have hbl:=a1D p 8;refine zR ?_;refine B6 (σ:=Int×Tx×Value) [3,4,5,6,7,8] 9 (fun s=>[(3,s.2.2),(4,.int .i64 0),(5,.int .i64 s.1)]) (fun s w'=>(-1≤s.1∧s.1≤7)∧s.2.1++(if 0≤s.1∧s.1<7 then [47] else [])++A6 p (s.1+1).toNat=A6 p 8∧Cl w w'∧Row 5 1 a0h w.heap.size w' s.2.2 s.2.1) (fun s=>(s.1+1).toNat) zk
  (7,[],_) ⟨⟨by show (-1:Int)≤7;decide,by show (7:Int)≤7;decide⟩,rfl,ca,hr0⟩ ⟨rfl,rfl,rfl,trivial⟩ ?_
 rintro ⟨r,l,v⟩ j w2 ⟨⟨hr1,hr7⟩,hl,c2,hrw⟩;simp only at hr1 hr7 hl c2 hrw ⊢;obtain ⟨a,k,rfl,_⟩:=hrw.form;have hlen:=yH List.length hl;simp only [zF] at hlen;refine zR ?_;apply E.b9<;>intro h
 ·obtain ⟨S,rfl⟩:=ze (show 0≤r by omega)
  have hS:S<8:=by omega
  clear h;have e1:((S:Int)+1).toNat=S+1:=by omega
  rw [e1] at hl hlen;have hll:l.length≤288:=by omega
  refine zG ?_;refine Nx.mk ?_;refine a4F ?_;refine a3p ?_;refine Nx.go ?_;refine C3 (σ:=Value) [3] 9 (fun v=>[(3,v)]) (fun v w'=>Cl w w'∧Row 5 1 a0h w.heap.size w' v (l++(if S<7 then [47] else []))) zk ?_ (fun v j w3 h3=>?_)
  ·refine zR ?_;apply E.b9<;>intro h
   ·refine zR ?_;refine zL a1E [.int .u8 47] ?_;refine zR ?_;have cb:=Cl.alloc w2 (.cells (([Value.int .u8 47]:List Value).flatMap fun v=>v.cells.toList).toArray 5);refine K4 a1E (l:=l) (news:=[47]) rfl (hrw.step cb) rfl (c1s 47) a3F a5F (by simp;omega) zd (c2.trans cb).size fun v' w' hr' hg=>?_
    obtain ⟨a9,c9,rfl,_⟩:=hr'.form;refine zR ?_;exact ⟨_,⟨rfl,trivial⟩,hg.toCl rfl (c2.trans cb),by rw [zM zo];exact hr'⟩
   ·refine zR ?_;exact ⟨_,⟨rfl,trivial⟩,c2,by rw [zJ zo,zn];exact hrw⟩
  obtain ⟨c3,hr3⟩:=h3;have hl3:(l++(if S<7 then [47] else []))++A6 p (S+1)=A6 p 8:=by
   rw [← hl];congr 2;by_cases h:S<7
   ·rw [zM h,zM zo]
   ·rw [zJ h,zJ zo]
  have hlen3:=yH List.length hl3;rw [zF] at hlen3;generalize l++(if S<7 then ([47]:Tx) else [])=l3 at *
  clear hl hlen hrw c2;have hrow:A6 p (S+1)=a0x (fun f=>sq p (8*(S:Int)+f)) 8 0 0++(if S=0 then [] else [47])++A6 p S:=rfl
  obtain ⟨av,kv,rfl,_⟩:=hr3.form;refine zR ?_;refine B6 (σ:=Nat×Nat×Tx×Value) [3,4,6,7,8,19] 20 (fun s=>[(3,s.2.2.2),(4,.int .i64 s.2.1),(19,.int .i64 s.1)]) (fun s w'=>s.1≤8∧s.2.1≤s.1∧s.2.2.1++a0x (fun f=>sq p (8*(S:Int)+f)) (8-s.1) s.1 s.2.1++(if S=0 then [] else [47])++A6 p S=A6 p 8∧Cl w w'∧Row 5 1 a0h w.heap.size w' s.2.2.2 s.2.2.1) (fun s=>8-s.1) zk
   (0,0,l3,_) ⟨by show 0≤8;decide,yJ _,by rw [← hl3,hrow];simp only [yG],c3,hr3⟩ ⟨rfl,rfl,rfl,trivial⟩ ?_
  clear hr3 c3;rintro ⟨f,e,o,v⟩ j4 w4 ⟨hf,he,ho,c4,hr4⟩;simp only at hf he ho c4 hr4 ⊢;obtain ⟨a4,k4,rfl,_⟩:=hr4.form;have hol:=yH List.length ho;simp only [zF] at hol;refine zR ?_;apply E.b9<;>intro h
  ·have hf2:f<8:=by omega
   clear h;have nf:=C7 (i:=f) zo;have ef:IntKind.i8.wrap (f:Int)=f:=a0q zo zo;have eS:IntKind.i8.wrap (S:Int)=S:=a0q zo zo;refine zR ?_;rw [ef,eS];refine l8 (b0W f S hf2 hS _) (zR ?_);have hX:=hp ((8*S+f:Nat):Int);have pc:=a1f (A4 p) b (t:=t) (fz:=fz) (8*S+f) zo w4 (hT.cl c4) (c4.blk hB);rw [a0t hp zo] at pc;refine l8 pc ?_;have hg:sq p (8*(S:Int)+(f:Nat))=sq p ((8*S+f:Nat):Int):=by congr 1
   have hrs:a0x (fun f=>sq p (8*(S:Int)+f)) (8-f) f e=if sq p ((8*S+f:Nat):Int)<1∨sq p ((8*S+f:Nat):Int)>12 then a0x (fun f=>sq p (8*(S:Int)+f)) (8-(f+1)) (f+1) (e+1) else X6 e++pcT (sq p ((8*S+f:Nat):Int))++a0x (fun f=>sq p (8*(S:Int)+f)) (8-(f+1)) (f+1) 0:=by
    rw [show 8-f=(8-(f+1))+1 by omega,← hg];rfl
   have fc:=fun c hc w hT=>b6z (sq p ((8*S+f:Nat):Int)) (c:=c) (hc:=hc) (w:=w) (hT:=hT);generalize sq p ((8*S+f:Nat):Int)=X at *;refine zR ?_;apply E.b9<;>intro h
   ·have ne:=C7 (i:=e) zo;rw [hrs,zM (.inl zo)] at ho;refine zR ?_;exact ⟨(f+1,e+1,o,_),⟨rfl,d8 ne,d8 nf,trivial⟩,⟨by show f+1≤8;omega,by show e+1≤f+1;omega,ho,c4,hr4⟩,by show 8-(f+1)<8-f;omega⟩
   rw [hrs,zJ zo] at ho;obtain ⟨ch,hch⟩:=c1r (x:=X) zo zo;have fcc:=fun w hT=>fc ch hch w hT zo zo;rw [hch] at ho;refine zG ?_;refine C3 (σ:=Value) [3,4] 20 (fun v=>[(3,v),(4,.int .i64 0)]) (fun v w'=>Cl w w'∧Row 5 1 a0h w.heap.size w' v (o++X6 e)) zk ?_ (fun v j w5 h5=>?_)
   ·refine zR ?_;apply E.b9<;>intro h
    ·rw [b21 (show 0<e by omega) zo]
     refine zR ?_;rw [c2x zo];refine zL a1E [.int .u8 ((UInt8.ofNat (48+e)).toNat:Int)] ?_;refine zR ?_;have cb:=Cl.alloc w4 (.cells (([Value.int .u8 ((UInt8.ofNat (48+e)).toNat:Int)]:List Value).flatMap fun v=>v.cells.toList).toArray 5);refine K4 a1E (l:=o) (news:=[UInt8.ofNat (48+e)]) rfl (hr4.step cb) rfl (c1s (UInt8.ofNat (48+e))) a3F a5F (by simp;omega) zd (c4.trans cb).size fun v' w' hr' hg=>?_
     obtain ⟨a9,c9,rfl,_⟩:=hr'.form;refine zR ?_;exact ⟨_,⟨rfl,rfl,trivial⟩,hg.toCl rfl (c4.trans cb),hr'⟩
    ·have e0:e=0:=by omega
     subst e0;refine zR ?_;exact ⟨_,⟨rfl,rfl,trivial⟩,c4,by rw [show X6 0=[] from rfl,zn];exact hr4⟩
   obtain ⟨c5,hr5⟩:=h5;obtain ⟨a5,k5,rfl,_⟩:=hr5.form;have hol5:=yH List.length ho;simp only [zF,zh,za] at hol5;have hle5:(o++X6 e).length≤288:=by rw [zF];omega
   refine zR ?_;refine l8 (fcc _ (hT.cl c5)) (zR ?_);refine zL a1E [.int .u8 (ch.toNat:Int)] ?_;refine zR ?_;have cb:=Cl.alloc w5 (.cells (([Value.int .u8 (ch.toNat:Int)]:List Value).flatMap fun v=>v.cells.toList).toArray 5);refine K4 a1E (l:=o++X6 e) (news:=[ch]) rfl (hr5.step cb) rfl (c1s ch) a3F a5F (by simp only [zh,za];omega) zd (c5.trans cb).size fun v' w' hr' hg=>?_
   obtain ⟨a9,c9,rfl,_⟩:=hr'.form;refine zR ?_;exact ⟨(f+1,0,(o++X6 e)++[ch],_),⟨rfl,rfl,d8 nf,trivial⟩,⟨by show f+1≤8;omega,xA _,by rw [← ho];simp only [yG],hg.toCl rfl (c5.trans cb),hr'⟩,by show 8-(f+1)<8-f;omega⟩
  ·have e8:f=8:=by omega
   subst e8;have hrz:a0x (fun f=>sq p (8*(S:Int)+f)) (8-8) 8 e=X6 e:=rfl;rw [hrz] at ho;have hend:∀ v' w',Cl w w'→Row 5 1 a0h w.heap.size w' v' (o++X6 e)→∃ s':Int×Tx×Value,(s'.2.2=v'∧s'.1=(S:Int)-1)∧((-1≤s'.1∧s'.1≤7)∧s'.2.1++(if 0≤s'.1∧s'.1<7 then [47] else [])++A6 p (s'.1+1).toNat=A6 p 8∧Cl w w'∧Row 5 1 a0h w.heap.size w' s'.2.2 s'.2.1)∧(s'.1+1).toNat<S+1:=by
    intro v' w' hc hr;refine ⟨((S:Int)-1,o++X6 e,v'),⟨rfl,rfl⟩,⟨⟨by show -1≤(S:Int)-1;omega,by show (S:Int)-1≤7;omega⟩,?_,hc,hr⟩,by show ((S:Int)-1+1).toNat<S+1;omega⟩
    show o++X6 e++(if 0≤(S:Int)-1∧(S:Int)-1<7 then [47] else [])++A6 p ((S:Int)-1+1).toNat=A6 p 8
    rw [← ho,show ((S:Int)-1+1).toNat=S by omega]
    congr 2;by_cases h0:S=0
    ·rw [zM h0,zJ zo]
    ·rw [zJ h0,zM zo]
   refine zR ?_;apply E.b9<;>intro h
   ·refine zR ?_;rw [c2x zo];refine zL a1E [.int .u8 ((UInt8.ofNat (48+e)).toNat:Int)] ?_;refine zR ?_;have cb:=Cl.alloc w4 (.cells (([Value.int .u8 ((UInt8.ofNat (48+e)).toNat:Int)]:List Value).flatMap fun v=>v.cells.toList).toArray 5);refine K4 a1E (l:=o) (news:=[UInt8.ofNat (48+e)]) rfl (hr4.step cb) rfl (c1s (UInt8.ofNat (48+e))) a3F a5F (by simp;omega) zd (c4.trans cb).size fun v' w' hr' hg=>?_
    rw [← b21 (show 0<e by omega) zo] at hr'
    obtain ⟨a9,c9,rfl,_⟩:=hr'.form;refine zR ?_;obtain ⟨s',⟨q1,q2⟩,h1,h2⟩:=hend _ _ (hg.toCl rfl (c4.trans cb)) hr';exact ⟨s',⟨q1.symm,rfl,d8 (by rw [q2];exact g9 zo zo),trivial⟩,h1,zo⟩
   ·have e0:e=0:=by omega
    subst e0;obtain ⟨s',⟨q1,q2⟩,h1,h2⟩:=hend _ _ c4 (by rw [show X6 0=[] from rfl,zn];exact hr4)
    refine zR ?_;exact ⟨s',⟨q1.symm,rfl,d8 (by rw [q2];exact g9 zo zo),trivial⟩,h1,zo⟩
 ·have e:r=-1:=by omega
  subst e;have e2:l=A6 p 8:=by rw [← hl];simp [A6]
  refine zR ?_;refine a9W l rfl hrw (zR ?_);exact ⟨by rw [e2];rfl,c2⟩
theorem c1t (n:Nat):X8 n=Lib.decDigits n:=by
 induction n using Nat.strongRecOn with
 | _ n ih =>
  unfold X8 Lib.decDigits;by_cases h:n<10
  ·rw [dif_pos h,dif_pos h]
  ·rw [dif_neg h,dif_neg h,ih _ zo]
def Pow (w:World):Prop:=Lib.TabIs G.P w "internal/strconv.uint64pow10" .u64 Lib.pow10Tab
theorem Pow.cl {w w':World} (h:Pow w) (c:Cl w w'):Pow w':=by
 unfold Pow Lib.TabIs World.var? at *;cases hg:G.P.globalNamed "internal/strconv.uint64pow10" with
 | none=>rw [hg] at h;cases h
 | some g =>
  rw [hg] at h;simp only [xp] at h ⊢;cases hb:w.heap[g]? with
  | none=>rw [hb] at h;cases h
  | some o =>
   rw [c.blk hb];rw [hb] at h;exact h
theorem Cl.grow (w:World) (k:Nat) (os:Array Obj):Cl w (Sort.grow (w.drewN k) os):=by
 refine ⟨rfl,rfl,rfl,by simp [Sort.grow,World.drewN],fun i hi=>?_⟩
 simp [Sort.grow,World.drewN,Array.getElem?_append,hi]
theorem c3y (n:Nat) (hn:n<4611686018427387904) (w:World) (hw:Pow w):Calls G.P 169 #[.int .i64 n] w (N2 (m9 (X8 n)) w):=by
 refine (Tryz.strconv_Itoa n zo zo w hw).mono ?_;rintro r w' ⟨h1,k,os,h2⟩;refine ⟨?_,by rw [h2];exact Cl.grow w k os⟩
 rw [h1,c1t];unfold Lib.itoa;rw [zJ zo,zg];rfl
theorem a3I (t:Tx) (w:World):Calls G.P 166 #[m9 t] w (E5 (m9 t) w):=by
 refine zN Tryz.func166 ?_;refine zR ?_;exact ⟨rfl,rfl⟩
theorem c4Q:∃ z,(G.P.info? 36).bind (·.zero)=some z∧z.cells.size=3:=a0C zk
theorem b22 {M t:Nat} {d:Nd} {w:World} {fz:Nat×Nat} (hM:w.heap[M]?=some (.cells (E8 d) t fz)) (f0:-128≤d.mv.fr) (f1:d.mv.fr≤127) (t0:-128≤d.mv.to) (t1:d.mv.to≤127) (p0:-128≤d.mv.promo) (p1:d.mv.promo≤127) :
  Calls G.P 100 #[.pointer (some ⟨M,0,none⟩)] w (N2 (.agg (S8 d.mv)) w):=by
 have e1:IntKind.i64.wrap d.mv.fr=d.mv.fr:=g9 zo zo;have e2:IntKind.i64.wrap d.mv.to=d.mv.to:=g9 zo zo;have e3:IntKind.i64.wrap d.mv.promo=d.mv.promo:=g9 zo zo;refine zN Tryz.func100 ?_;refine zR ?_;obtain ⟨z,hz,hzs⟩:=c4Q;refine v8 z hz ?_;have cA:=Cl.alloc w (.cells z.cells 36);have nA:=d9 w (.cells z.cells 36);generalize w.alloc (.cells z.cells 36)=w1 at *;have hM1:=cA.blk hM;refine zR ?_;refine l8 (c4P hM1) (zR ?_);rw [e1];refine l8 (c5L hM1) (zR ?_);rw [e2];refine l8 (c1o hM1) (zR ?_);rw [e3];refine y7 (S8 d.mv) zk (zR ?_);refine K9 nA (J3 d.mv) rfl b3o rfl (J6 _) (by rw [hzs];decide) (fun w2 u2=>zR ?_)
 have h2:=u2.at_;rw [C6 _ _ (by rw [hzs];rfl)] at h2
 refine b7 _ (a0f h2) (zR ?_);exact ⟨rfl,u2.cl cA (yJ _)⟩
theorem I0.kept {w:World} {P b:Nat} {p:l9} {a:Option Addr} {n c:Nat} (h:I0 w P b p (.slice a n c)) (hr:Row 141 11 D4 0 w (.slice a n c) (N9 p)) (hne:N9 p≠[]):∃ ad,a=some ad:=by
 obtain ⟨a',c',e,ha⟩:=hr.form;injection e with e1 e2 e3;obtain ⟨g,hg⟩:=ha (List.length_pos_iff.2 hne);exact ⟨_,by rw [e1,hg]⟩
def c4R (w w':World) (p:l9) (m:Mv) (r:Ending):Prop :=
 (m∉A1 p∧r = .returned (.pointer none))∨(∃ M x,x∈N9 p∧x.mv=m∧r = .returned (.pointer (some ⟨M,0,none⟩))∧w.heap.size≤M∧w'.heap[M]?=some (.cells (E8 (E0 x)) 141 (0,0)))
set_option maxHeartbeats 1000000 in
theorem c3z {p:l9} (hI:D0 p) (hle:(B5 p).length≤218) {P b:Nat} {cv:Value} {m:Mv} (hm:MvR m) (w:World) (hT:D5 w) (hM:I0 w P b p cv) :
  Calls G.P 44 #[.pointer (some ⟨P,0,none⟩),.agg (S8 m)] w (fun r w'=>∃ cv',I0 w' P b p cv'∧Tn P w w'∧Row 141 11 D4 0 w' cv' (N9 p)∧c4R w w' p m r∧∀ k,cv'.ownBlock=some k→(cv.ownBlock=some k∨w.heap.size≤k)∧r≠.returned (.pointer (some ⟨k,0,none⟩))):=by
 obtain ⟨mm1,mm2⟩:=a1X hI;have hlen:=a5D hI hle;refine zN Tryz.func44 ?_;refine zG ?_;have cb:=Cl.alloc w (.cells (S8 m) 36);have nb:=d9 w (.cells (S8 m) 36);have sb:=B0 w (.cells (S8 m) 36);generalize w.alloc (.cells (S8 m) 36)=w1 at *;have hPw:P<w.heap.size:=(yh.1 hM.hd).1;refine zR ?_;refine o7 (a5E hI hle w1 (hT.cl cb) (hM.step cb)) ?_;rintro r w2 ⟨v,cv',rfl,hr,hM2,n2,hr0,hown⟩;obtain ⟨av,kv,rfl,hav⟩:=hr.form;have hown2:∀ k,cv'.ownBlock=some k→(cv.ownBlock=some k∨w.heap.size≤k)∧k<w2.heap.size:=fun k h=>⟨(hown k h).imp id (zw cb.size),(hr0.own h).2⟩;clear hown;refine ⟨_,rfl,?_⟩;have nb2:=n2.blk nb zo;have ntw:=(Tn.cl (b:=P) cb).trans n2;have hcr:∀ w',Cl w2 w'→Row 141 11 D4 0 w' cv' (N9 p):=fun w' hc=>hr0.step hc;refine zR ?_;refine B6 (σ:=Nat) [4,6,10] 11 (fun i=>[(10,.int .i64 i)]) (fun i w'=>i≤(N9 p).length∧Cl w2 w'∧∀ x∈(N9 p).take i,x.mv≠m) (fun i=>(N9 p).length-i) zk 0 ⟨xA _,Cl.refl _,fun x hx=>by simp at hx⟩ ⟨rfl,trivial⟩ ?_
 rintro i j w3 ⟨hi,c3,hno⟩;have ni:=C7 (i:=i) zo;refine zR ?_;apply E.b9<;>intro h
 ·have hi2:i<(N9 p).length:=by omega
  clear h;obtain ⟨g,rfl⟩:=hav zo;have hld:=fun {o:Nat} (ho:o=i*11)=>b0V (hr.step c3) i hi2 ho;have hxm:=yO hi2;have htk:(N9 p).take (i+1)=(N9 p).take i++[(N9 p)[i]]:=zx hi2;generalize (N9 p)[i]=x at *;have hxl:=(mm1 x hxm).1;have hxr:=V9 hI hxl;refine zR ?_;refine zC ?_;refine zR ?_;refine b7 _ (hld (a0F _ _)) (zR ?_);refine v8 _ a6X ?_;have cB:=Cl.alloc w3 (.cells (Value.agg (E8 (E0 ⟨⟨0,0,0⟩,0⟩))).cells 141);have nB:=d9 w3 (.cells (Value.agg (E8 (E0 ⟨⟨0,0,0⟩,0⟩))).cells 141);generalize w3.alloc (.cells (Value.agg (E8 (E0 ⟨⟨0,0,0⟩,0⟩))).cells 141)=w4 at *;refine zR ?_;refine K9 nB (D4 x) rfl a1I rfl (F8 x) (zU rfl) fun w5 u5=>?_;have hX:w5.heap[w3.heap.size]?=some (.cells (E8 (E0 x)) 141 (0,0)):=by have h7:=u5.at_;rw [C6 _ _ (by rw [J9];rfl)] at h7;exact h7
  have c5:Cl w3 w5:=(Tn.upd u5).toCl cB (yJ _);have c25:=c3.trans c5;have hxR:MvR x.mv:=b8i ⟨⟨hxr.1,hxr.2.1⟩,⟨hxr.2.2.1,hxr.2.2.2.1⟩,by have:=hxr.2.2.2.2;omega⟩
  refine zR ?_;refine zK 3 ?_;refine zR ?_;refine E2 _ (fun _ _ h=>h.trans) (fun w' h'=>b22 (h'.blk hX) (by show -128≤x.mv.fr;omega) (by show x.mv.fr≤127;omega) (by show -128≤x.mv.to;omega) (by show x.mv.to≤127;omega) (by show -128≤x.mv.promo;have:=hxr.2.2.2.2;omega) (by show x.mv.promo≤127;have:=hxr.2.2.2.2;omega)) (zR ?_)
  refine m7 _ (fun w' h'=>a0f ((c25.trans h').blk nb2)) (zR ?_);refine b1K c2U (c4n hxR hm) rfl rfl (zR ?_);intro w6 c6;have c26:=c25.trans c6;refine zR ?_;apply E.b9<;>intro h
  ·refine zR ?_;exact ⟨cv',hM2.step c26,ntw.trans (Tn.cl c26),hcr _ c26,.inr ⟨_,x,hxm,h,rfl,by have:=ntw.size;have:=c3.size;omega,c6.blk hX⟩,fun k hk=>⟨(hown2 k hk).1,fun e=>by have:=(hown2 k hk).2;have:=c3.size;simp at e<;>omega⟩⟩
  ·refine zR ?_;refine ⟨i+1,⟨d8 ni,trivial⟩,⟨zo,c26,fun y hy=>?_⟩,zo⟩;rw [htk] at hy;rcases zr.1 hy with hy|hy
   ·exact hno y hy
   ·rw [zY] at hy;rw [hy];exact h
 ·have e:i=(N9 p).length:=by omega
  subst e;rw [yZ] at hno;refine zR ?_;exact ⟨cv',hM2.step c3,ntw.trans (Tn.cl c3),hcr _ c3,.inl ⟨fun hl=>by obtain ⟨x,hx,e⟩:=mm2 m hl;exact hno x hx e,rfl⟩,fun k hk=>⟨(hown2 k hk).1,fun e=>by simp at e⟩⟩
theorem b63:∀ a:Nat,a<16→∀ b:Nat,b<16→(B9 (a:Int)=B9 (b:Int)↔a=b):=by decide
theorem b3S {a b:Int} (a0:0≤a) (a1:a≤15) (b0:0≤b) (b1:b≤15):B9 a=B9 b↔a=b:=by
 obtain ⟨x,rfl⟩:=ze a0;obtain ⟨y,rfl⟩:=ze b0;rw [b63 x zo y zo];omega
theorem a8K {p q:l9} (hI:D0 p) (hJ:D0 q) {P b P' b':Nat} {cv cv':Value} {c c':Bool} (w:World) (hT:D5 w)
  (hP:w.heap[P]?=some (.cells (hdA b (E6 p c) cv) 173 (0,0))) (hB:w.heap[b]?=some (.cells (H3 (A4 p)) 237 (0,0)))
  (hP':w.heap[P']?=some (.cells (hdA b' (E6 q c') cv') 173 (0,0))) (hB':w.heap[b']?=some (.cells (H3 (A4 q)) 237 (0,0))) :
  Calls G.P 249 #[.pointer (some ⟨P,0,none⟩),.pointer (some ⟨P',0,none⟩)] w (N2 (.bool (a1a p q)) w):=by
 have hbi:=b3P hI.pc hJ.pc;have hci:=b3S hI.c0 hI.c1 hJ.c0 hJ.c1;have hal:a1a p q=(decide (p.board=q.board)&&decide (p.turn=q.turn)&&decide (p.castle=q.castle)&&decide (p.ep=q.ep)):=rfl;rw [hal];clear hal;have hs1:=fun w hT hB=>a48 (p:=p) (b:=b) (t:=237) (fz:=(0,0)) hI.pc w hT hB;have hs2:=fun w hT hB=>a48 (p:=q) (b:=b') (t:=237) (fz:=(0,0)) hJ.pc w hT hB;generalize A6 p 8=X at *;generalize A6 q 8=Y at *;refine zN Tryz.func249 ?_;refine zR ?_;refine zK 47 ?_;refine zR ?_;refine qHb hP (zR ?_);refine E2 _ (fun _ _ h=>h.trans) (fun w' h'=>hs1 w' (hT.cl h') (h'.blk hB)) (zR ?_);refine qHb hP' (zR ?_);refine E2 _ (fun _ _ h=>h.trans) (fun w' h'=>hs2 w' (hT.cl h') (h'.blk hB')) (zR ?_);by_cases h1:X=Y
 ·have k1:tx X=tx Y:=by rw [h1]
  rw [zX (hbi.1 h1),yV];refine E.z6 k1 (zR ?_);repeat (refine E.z6 k1 ?_;refine zR ?_)
  refine qHt hP ?_;rw [show (E6 p c).turn=p.turn+1 from rfl];refine zR ?_;repeat (refine E.z6 k1 ?_;refine zR ?_)
  refine qHt hP' ?_;rw [show (E6 q c').turn=q.turn+1 from rfl];refine zR ?_;repeat (refine E.z6 k1 ?_;refine zR ?_)
  by_cases h2:p.turn=q.turn
  ·have k2:p.turn+1=q.turn+1:=by omega
   rw [zX h2,yV];repeat (refine E.z6 k2 ?_;refine zR ?_)
   refine m7 _ (fun w hw=>a8w (hw.blk hP)) ?_;rw [show (E6 p c).cas=B9 p.castle from rfl];refine zR ?_;repeat (refine E.z6 k2 ?_;refine zR ?_)
   refine m8 _ (fun w hw=>a3I _ w) (zR ?_);repeat (refine E.z6 k2 ?_;refine zR ?_)
   refine m7 _ (fun w hw=>a8w (hw.blk hP')) ?_;rw [show (E6 q c').cas=B9 q.castle from rfl];refine zR ?_;repeat (refine E.z6 k2 ?_;refine zR ?_)
   refine m8 _ (fun w hw=>a3I _ w) (zR ?_);repeat (refine E.z6 k2 ?_;refine zR ?_)
   by_cases h3:B9 p.castle=B9 q.castle
   ·have k3:tx (B9 p.castle)=tx (B9 q.castle):=by rw [h3]
    rw [zX (hci.1 h3),yV];repeat (refine E.z6 k3 ?_;refine zR ?_)
    refine c0I hP ?_;rw [show (E6 p c).ep=p.ep from rfl];refine zR ?_;repeat (refine E.z6 k3 ?_;refine zR ?_)
    refine c0I hP' ?_;rw [show (E6 q c').ep=q.ep from rfl];refine zR ?_;repeat (refine E.z6 k3 ?_;refine zR ?_)
    intro w9 c9;refine zR ?_;exact ⟨rfl,c9⟩
   ·have k3:¬ tx (B9 p.castle)=tx (B9 q.castle):=fun e=>h3 (P8.1 e);repeat (refine E.p9 k3 ?_;refine zR ?_)
    intro w9 c9;refine zR ?_;exact ⟨o8 (by rw [zV (fun e=>h3 (hci.2 e))];rfl),c9⟩
  ·have k2:¬ p.turn+1=q.turn+1:=by omega
   repeat (refine E.p9 k2 ?_;refine zR ?_)
   intro w9 c9;refine zR ?_;exact ⟨o8 (by rw [zV h2];rfl),c9⟩
 ·have k1:¬ tx X=tx Y:=fun e=>h1 (P8.1 e);repeat (refine E.p9 k1 ?_;refine zR ?_)
  intro w9 c9;refine zR ?_;exact ⟨o8 (by rw [zV (fun e=>h1 (hbi.2 e))];rfl),c9⟩
structure Gm where
 P:Nat
 out:Tx
 tags:Value
 root:Nat
 cur:Nat
 com:Value
 meth:Nat
def gmL (g:Gm):List Value:=[.pointer (some ⟨g.P,0,none⟩),m9 g.out,g.tags,.pointer (some ⟨g.root,0,none⟩),.pointer (some ⟨g.cur,0,none⟩),g.com,.int .u8 g.meth,.bool false]
def gmA (g:Gm):Array Value:=(gmL g).toArray
section gm
variable {G0 t:Nat} {g:Gm} {w:World} {fz:Nat×Nat} (hb:w.heap[G0]?=some (.cells (gmA g) t fz))
include hb
theorem a6x:g8 G.P w 83 ⟨G0,0,none⟩ (.pointer (some ⟨g.P,0,none⟩)):=L5 hb rfl rfl
theorem a8L:g8 G.P w 125 ⟨G0,1,none⟩ (m9 g.out):=L5 hb rfl rfl
theorem b0X:g8 G.P w 85 ⟨G0,3,none⟩ (.pointer (some ⟨g.root,0,none⟩)):=L5 hb rfl rfl
theorem a6y:g8 G.P w 85 ⟨G0,4,none⟩ (.pointer (some ⟨g.cur,0,none⟩)):=L5 hb rfl rfl
theorem b5u:g8 G.P w 129 ⟨G0,6,none⟩ (.int .u8 g.meth):=L5 hb rfl rfl
theorem a4Z:g8 G.P w 4 ⟨G0,7,none⟩ (.bool false):=L5 hb rfl rfl
theorem c30:Calls G.P 43 #[.pointer (some ⟨G0,0,none⟩)] w (E5 (.pointer (some ⟨g.P,0,none⟩)) w):=by
 refine zN Tryz.func43 ?_;refine zR ?_;refine b7 _ (a6x hb) (zR ?_);exact ⟨rfl,rfl⟩
theorem c31:Calls G.P 110 #[.pointer (some ⟨G0,0,none⟩)] w (E5 (m9 g.out) w):=by
 refine zN Tryz.func110 ?_;refine zR ?_;refine b7 _ (a8L hb) (zR ?_);exact ⟨rfl,rfl⟩
end gm
structure Fr (S:List Nat) (w w':World):Prop where
 os:w'.os=w.os
 tape:w'.tape=w.tape
 output:w'.output=w.output
 size:w.heap.size≤w'.heap.size
 else_:∀ k,k<w.heap.size→k∉S→w'.heap[k]?=w.heap[k]?
section fr
variable {S S':List Nat} {w w1 w2:World}
theorem Fr.blk (h:Fr S w w1) {k:Nat} {o:Obj} (hk:w.heap[k]?=some o) (hn:k∉S):w1.heap[k]?=some o:=by
 rw [h.else_ k (yh.1 hk).1 hn];exact hk
theorem Fr.refl:Fr S w w:=⟨rfl,rfl,rfl,yJ _,fun _ _ _=>rfl⟩
theorem Fr.trans (h:Fr S w w1) (h':Fr S w1 w2):Fr S w w2 :=
 ⟨h'.os.trans h.os,h'.tape.trans h.tape,h'.output.trans h.output,zw h.size h'.size,fun k hk hn=>(h'.else_ k (xV hk h.size) hn).trans (h.else_ k hk hn)⟩
theorem Fr.cl (h:Cl w w1):Fr S w w1:=⟨h.os,h.tape,h.output,h.size,fun k hk _=>h.block k hk⟩
theorem Fr.tn {b:Nat} (h:Tn b w w1) (hb:b∈S∨w.heap.size≤b):Fr S w w1 :=
 ⟨h.os,h.tape,h.output,h.size,fun k hk hn=>h.else_ k hk (fun e=>by subst e;rcases hb with hb|hb;exact hn hb;omega)⟩
theorem Fr.upd {b:Nat} {o:Obj} (h:Upd w b o w1) (hb:b∈S):Fr S w w1:=Fr.tn (Tn.upd h) (.inl hb)
theorem Fr.mono (h:Fr S w w1) (hs:∀ k∈S,k∈S'):Fr S' w w1:=⟨h.os,h.tape,h.output,h.size,fun k hk hn=>h.else_ k hk (fun e=>hn (hs k e))⟩
theorem a06.fr {g n:Nat} {f:Nat→Value} (h:a06 w g n f) (c:Fr S w w1) (hS:∀ k∈S,∀ cs t fz,w.heap[k]?=some (.cells cs t fz)→a2o t=false):a06 w1 g n f:=by
 obtain ⟨cs,t,fz,h1,h2,h3⟩:=h;exact ⟨cs,t,fz,c.blk h1 (fun e=>by have:=hS _ e _ _ _ h1;rw [h2] at this;cases this),h2,h3⟩
theorem a7l.fr {g o n:Nat} {f:Nat→Value} (h:a7l w g o n f) (c:Fr S w w1) (hS:∀ k∈S,∀ cs t fz,w.heap[k]?=some (.cells cs t fz)→a2o t=false):a7l w1 g o n f:=by
 obtain ⟨cs,t,fz,h1,h2,h3⟩:=h;exact ⟨cs,t,fz,c.blk h1 (fun e=>by have:=hS _ e _ _ _ h1;rw [h2] at this;cases this),h2,h3⟩
theorem a7m.fr {g n:Nat} {f:Nat→Value} (h:a7m w g n f) (c:Fr S w w1) (hS:∀ k∈S,∀ cs t fz,w.heap[k]?=some (.cells cs t fz)→a2o t=false):a7m w1 g n f:=by
 obtain ⟨k,o,c',h1,h2⟩:=h;exact ⟨k,o,c',h1.fr c hS,h2.fr c hS⟩
theorem D5.fr (h:D5 w) (c:Fr S w w1) (hS:∀ k∈S,∀ cs t fz,w.heap[k]?=some (.cells cs t fz)→a2o t=false):D5 w1 :=
 ⟨h.dia.fr c hS,h.anti.fr c hS,h.ranks.fr c hS,h.files.fr c hS,h.kn.fr c hS,h.kg.fr c hS,h.all.fr c hS,h.promo.fr c hS,h.wfen.fr c hS,h.bfen.fr c hS,h.fen.fr c hS,h.emp.imp fun _ e=>e.fr c hS⟩
end fr
def J1 (M:Nat):List Value:=[.pointer (some ⟨M,0,none⟩)]
theorem R0 (M:Nat):(J1 M).length=1:=rfl
theorem a5a (M:Nat):∀ v∈J1 M,v.oneCell'=true:=by intro v hv;simp [J1] at hv;subst hv;rfl
theorem c1u:F0 134 85 1 8:=T7 zk
theorem b8V {G0 t t':Nat} {g:Gm} {w:World} {fz fz':Nat×Nat} {dc:Nd} (x:Value) (hx:∃ a,x = .pointer (some a)) (hb:w.heap[G0]?=some (.cells (gmA g) t fz)) (hc:w.heap[g.cur]?=some (.cells (E8 dc) t' fz')) (hk:dc.kids = .slice none 0 0) :
  Calls G.P 143 #[.pointer (some ⟨G0,0,none⟩),x] w (E5 (.pointer none) w):=by
 obtain ⟨a,rfl⟩:=hx;have hl:g8 G.P w 134 ⟨g.cur,5,none⟩ (.slice none 0 0):=by
  have:g8 G.P w 134 ⟨g.cur,5,none⟩ dc.kids:=L5 hc rfl rfl
  rwa [hk] at this
 refine zN Tryz.func143 ?_;refine zR ?_;refine b7 _ (a6y hb) (zR ?_);refine Y7 false (N6 rfl _) (zR ?_);refine b7 _ (a6y hb) (zR ?_);refine b7 _ hl (zR ?_);refine a8u 1 (zR ?_);exact ⟨rfl,rfl⟩
theorem b8W {G0 t M:Nat} {g:Gm} (hne:G0≠g.cur) {w:World} {fz:Nat×Nat} {dc:Nd} (hb:w.heap[G0]?=some (.cells (gmA g) t fz)) (hc:w.heap[g.cur]?=some (.cells (E8 dc) 141 (0,0))) (hk:dc.kids = .slice none 0 0) :
  Calls G.P 202 #[.pointer (some ⟨G0,0,none⟩),.pointer (some ⟨M,0,none⟩),.bool false] w (fun r w'=>r = .returned (.tuple #[])∧∃ v,Row 85 1 J1 w.heap.size w' v [M]∧w'.heap[g.cur]?=some (.cells (E8 { dc with kids:=v }) 141 (0,0))∧Tn g.cur w w'):=by
 refine zN Tryz.func202 ?_;refine zR ?_;have cS:Cl w w.drew:=Cl.drew (Cl.refl _);have hl:∀ w',Cl w w'→g8 G.P w' 134 ⟨g.cur,5,none⟩ (.slice none 0 0):=fun w' hw=>by
  have:g8 G.P w' 134 ⟨g.cur,5,none⟩ dc.kids:=L5 (hw.blk hc) rfl rfl
  rwa [hk] at this
 refine J2.mk3 (Tn g.cur w) [0,1,2,3,4,5,6,7,8,9,11] (.cons 10 (.cons 12 (.cons 13 (.cons 14 (.cons 15 (.cons 16 .done .nil) .nil) .nil) .nil) .nil) (.cons 12 (.cons 10 (.cons 13 (.cons 14 (.cons 15 (.cons 16 .done .nil) .nil) .nil) .nil) .nil) .nil)) (Tn.cl cS) zk (zR ?_);refine m7 _ (fun w' hw=>a6y (hw.blk hb hne)) (zR ?_);refine m7 _ (fun w' hw=>a6y (hw.blk hb hne)) (zR ?_);refine ⟨?_,?_,trivial⟩
 ·refine zR ?_;refine b7 _ (hl _ cS) (zR ?_);refine And.intro (Tn.cl cS) (zE ?_);refine zL c1u [.pointer (some ⟨M,0,none⟩)] ?_;have cB:=cS.trans (Cl.alloc w.drew (.cells (([.pointer (some ⟨M,0,none⟩)]:List Value).flatMap fun v=>v.cells.toList).toArray 85));have hbx:Row 85 1 J1 w.drew.heap.size (w.drew.alloc (.cells (([.pointer (some ⟨M,0,none⟩)]:List Value).flatMap fun v=>v.cells.toList).toArray 85)) (.slice (some ⟨w.drew.heap.size,0,none⟩) 1 1) [M]:=L4 R0 w.drew [M] (by exact zU rfl) [.pointer (some ⟨M,0,none⟩)] rfl
  generalize w.drew.alloc (.cells (([.pointer (some ⟨M,0,none⟩)]:List Value).flatMap fun v=>v.cells.toList).toArray 85)=w1 at *;refine zR ?_;refine And.intro (Tn.cl cB) (zE ?_);refine K4 c1u (l:=[]) (news:=[M]) rfl (Row.nil w1 w.heap.size) rfl hbx R0 a5a (by exact zU rfl) zd cB.size fun v' w2 hr hg=>?_
  rw [yM] at hr;have c2:Cl w w2:=hg.toCl rfl cB;obtain ⟨a9,c9,rfl,_⟩:=hr.form;refine zR ?_;refine And.intro (Tn.cl c2) (zE ?_);refine And.intro (Tn.cl c2) (zE ?_);refine And.intro (Tn.cl c2) (zE ?_);refine zT (c2.blk hc) [.slice a9 1 c9] fun w3 u3=>?_;have n3:Tn g.cur w w3:=(Tn.cl c2).trans (Tn.upd u3);refine zR ?_;refine And.intro n3 (zR ?_);exact ⟨rfl,_,hr.updT u3 (c2.blk hc) zd,u3.at_,n3⟩
 ·refine zR ?_;refine zL c1u [.pointer (some ⟨M,0,none⟩)] ?_;have cB:=cS.trans (Cl.alloc w.drew (.cells (([.pointer (some ⟨M,0,none⟩)]:List Value).flatMap fun v=>v.cells.toList).toArray 85));have hbx:Row 85 1 J1 w.drew.heap.size (w.drew.alloc (.cells (([.pointer (some ⟨M,0,none⟩)]:List Value).flatMap fun v=>v.cells.toList).toArray 85)) (.slice (some ⟨w.drew.heap.size,0,none⟩) 1 1) [M]:=L4 R0 w.drew [M] (by exact zU rfl) [.pointer (some ⟨M,0,none⟩)] rfl
  generalize w.drew.alloc (.cells (([.pointer (some ⟨M,0,none⟩)]:List Value).flatMap fun v=>v.cells.toList).toArray 85)=w1 at *;refine zR ?_;refine And.intro (Tn.cl cB) (zE ?_);refine b7 _ (hl _ cB) (zR ?_);refine And.intro (Tn.cl cB) (zE ?_);refine K4 c1u (l:=[]) (news:=[M]) rfl (Row.nil w1 w.heap.size) rfl hbx R0 a5a (by exact zU rfl) zd cB.size fun v' w2 hr hg=>?_
  rw [yM] at hr;have c2:Cl w w2:=hg.toCl rfl cB;obtain ⟨a9,c9,rfl,_⟩:=hr.form;refine zR ?_;refine And.intro (Tn.cl c2) (zE ?_);refine And.intro (Tn.cl c2) (zE ?_);refine And.intro (Tn.cl c2) (zE ?_);refine zT (c2.blk hc) [.slice a9 1 c9] fun w3 u3=>?_;have n3:Tn g.cur w w3:=(Tn.cl c2).trans (Tn.upd u3);refine zR ?_;refine And.intro n3 (zR ?_);exact ⟨rfl,_,hr.updT u3 (c2.blk hc) zd,u3.at_,n3⟩
theorem c1v {G0 t M:Nat} {g:Gm} (hne:G0≠g.cur) (hGM:G0≠M) (hcM:g.cur≠M) {w:World} {fz:Nat×Nat} {dc d:Nd} (hb:w.heap[G0]?=some (.cells (gmA g) t fz)) (hc:w.heap[g.cur]?=some (.cells (E8 dc) 141 (0,0))) (hk:dc.kids = .slice none 0 0)
  (hM:w.heap[M]?=some (.cells (E8 d) 141 (0,0))) :
  Calls G.P 144 #[.pointer (some ⟨G0,0,none⟩),.pointer (some ⟨M,0,none⟩),.pointer none,.bool false] w (fun r w'=>r = .returned (.tuple #[])∧∃ v,Row 85 1 J1 w.heap.size w' v [M]
  ∧w'.heap[g.cur]?=some (.cells (E8 { dc with kids:=v }) 141 (0,0))∧w'.heap[M]?=some (.cells (E8 { d with par:=.pointer (some ⟨g.cur,0,none⟩) }) 141 (0,0))∧Fr [M,g.cur] w w'):=by
 refine zN Tryz.func144 ?_;refine zR ?_;refine b7 _ (a6y hb) (zR ?_);refine zT hM [.pointer (some ⟨g.cur,0,none⟩)] fun w1 u1=>?_;refine zR ?_;refine H6 true (N6 rfl _) (zR ?_);refine o7 (b8W hne ((Tn.upd u1).blk hb hGM) ((Tn.upd u1).blk hc hcM) hk) ?_;rintro e w2 ⟨rfl,v,hr,h2,n2⟩;refine ⟨_,rfl,zR ?_⟩;have hr':=hr.mono (by rw [u1.size];exact yJ _:w.heap.size≤w1.heap.size)
 exact ⟨rfl,v,hr',h2,n2.blk u1.at_ (wG hcM),(Fr.upd u1 (by simp)).trans (Fr.tn n2 (.inl (by simp)))⟩
theorem b8X {p:l9} (hI:D0 p) (hN:a1A p) {G0 b M:Nat} {g:Gm} {cv:Value} {d:Nd} (hm:d.mv∈A1 p) (htg:(d.tags:Int)=a0W p d.mv) (w:World) (hT:D5 w) (hP:I0 w g.P b p cv)
  (hM:w.heap[M]?=some (.cells (E8 d) 141 (0,0))) (hGM:G0≠M) (hb:w.heap[G0]?=some (.cells (gmA g) 131 (0,0))) :
  Calls G.P 145 #[.pointer (some ⟨G0,0,none⟩),.pointer (some ⟨M,0,none⟩)] w (fun r w'=>r = .returned (.tuple #[])∧∃ P' b',w.heap.size≤P'∧w.heap.size≤b'∧I0 w' P' b' (made p d.mv) (.slice none 0 0)
  ∧w'.heap[G0]?=some (.cells (gmA { g with P:=P' }) 131 (0,0))∧w'.heap[M]?=some (.cells (E8 { d with pos:=.pointer (some ⟨P',0,none⟩) }) 141 (0,0))∧Fr [G0,M] w w'):=by
 have hGs:G0<w.heap.size:=(yh.1 hb).1;have hMs:M<w.heap.size:=(yh.1 hM).1;refine zN Tryz.func145 ?_;refine zR ?_;refine b7 _ (a6x hb) (zR ?_);refine o7 (b2x hI hN hm htg w hT hP hM) ?_;rintro e w1 ⟨P',b',rfl,s1,s2,hH',hB',c1⟩;refine ⟨_,rfl,zR ?_⟩;refine H6 false (N6 rfl _) (zR ?_);refine zT (c1.blk hb) [.pointer (some ⟨P',0,none⟩)] fun w2 u2=>?_;refine zR ?_;refine K9 ((Tn.upd u2).blk (c1.blk hM) (wG hGM)) [.pointer (some ⟨P',0,none⟩)] rfl zk rfl (by intro v hv;simp at hv;subst hv;rfl) (zU rfl) fun w3 u3=>zR ?_
 have k2:∀ {k:Nat} {o:Obj},w1.heap[k]?=some o→k≠G0→k≠M→w3.heap[k]?=some o:=fun h n1 n2=>(Tn.upd u3).blk ((Tn.upd u2).blk h n1) n2;exact ⟨rfl,P',b',s1,s2,⟨k2 hH' zo zo,k2 hB' zo zo,.inl rfl⟩,(Tn.upd u3).blk u2.at_ hGM,u3.at_,((Fr.cl c1).trans (Fr.upd u2 (by simp))).trans (Fr.upd u3 (by simp))⟩
structure H0 where
 M:Nat
 d:Nd
 P:Nat
 b:Nat
 p:l9
 cv:Value
def a3J (w:World) (k:Value):List H0→Prop
 | []=>k = .slice none 0 0
 | m::_=>Row 85 1 J1 0 w k [m.M]
def Chn (w:World):List H0→Prop
 | []=>True
 | n::l=>w.heap[n.M]?=some (.cells (E8 n.d) 141 (0,0))∧n.d.pos = .pointer (some ⟨n.P,0,none⟩)∧a3J w n.d.kids l∧I0 w n.P n.b n.p n.cv∧Chn w l
theorem a3J.step {w w':World} {k:Value} {l:List H0} (h:a3J w k l) (c:Cl w w'):a3J w' k l:=by
 cases l with
 | nil=>exact h
 | cons m l=>exact Row.step h c
theorem Chn.step {w w':World}:∀ {l:List H0},Chn w l→Cl w w'→Chn w' l
 | [],_,_=>trivial
 | n::l,⟨h1,h2,h3,h4,h5⟩,c=>⟨c.blk h1,h2,h3.step c,h4.step c,Chn.step h5 c⟩
theorem c32:F0 285 83 1 8:=T7 zk
set_option maxHeartbeats 1000000 in
theorem b23 {G0 t:Nat} {g:Gm} {fz:Nat×Nat} {n:H0} {l:List H0} (hl:(n::l).length≤100000) (w:World) (hb:w.heap[G0]?=some (.cells (gmA g) t fz)) (hr:g.root=n.M) (hc:Chn w (n::l)) :
  Calls G.P 248 #[.pointer (some ⟨G0,0,none⟩)] w (fun r w'=>∃ v,r = .returned v∧Row 83 1 J1 w.heap.size w' v ((n::l).map H0.P)∧Cl w w'):=by
 refine zN Tryz.func248 ?_;refine zR ?_;refine a9Z c32 0 rfl rfl zd zd fun cs hcs=>?_;have ca:=Cl.alloc w (.cells cs 83);have hr0:Row 83 1 J1 w.heap.size (w.alloc (.cells cs 83)) (.slice (some ⟨w.heap.size,0,none⟩) 0 0) ([]:List Nat):=Row.zero (yJ _) (d9 _ _) hcs zd;generalize w.alloc (.cells cs 83)=w1 at *;refine zR ?_;refine b7 _ (b0X (ca.blk hb)) ?_;rw [hr];refine zR ?_;refine B6 (σ:=List Nat×Value×H0×List H0) [3,4] 5 (fun s=>[(3,s.2.1),(4,.pointer (some ⟨s.2.2.1.M,0,none⟩))]) (fun s w'=>Cl w w'∧Row 83 1 J1 w.heap.size w' s.2.1 s.1∧Chn w (s.2.2.1::s.2.2.2)∧s.1++(s.2.2.1::s.2.2.2).map H0.P=(n::l).map H0.P) (fun s=>s.2.2.2.length) zk
  ([],_,n,l) ⟨ca,hr0,hc,rfl⟩ ⟨rfl,rfl,trivial⟩ ?_
 rintro ⟨dn,v,m,k⟩ j w2 ⟨c2,hrw,hch,he⟩;simp only at c2 hrw hch he ⊢;obtain ⟨a,kk,rfl,_⟩:=hrw.form;obtain ⟨hm,hp,hk,hP,hrest⟩:=hch;have hm0:=hm;have hm:=c2.blk hm0;have hlen:=yH List.length he;simp only [zF,yc,zh] at hlen hl;have hlp:∀ w',Cl w2 w'→g8 G.P w' 83 ⟨m.M,1,none⟩ (.pointer (some ⟨m.P,0,none⟩)):=fun w' c=>by
  have:g8 G.P w' 83 ⟨m.M,1,none⟩ m.d.pos:=b8s (c.blk hm)
  rwa [hp] at this
 have hlk:∀ w',Cl w2 w'→g8 G.P w' 134 ⟨m.M,5,none⟩ m.d.kids:=fun w' c=>L5 (c.blk hm) rfl rfl;refine zR ?_;refine H6 false (N6 rfl _) (zR ?_);refine b7 _ (hlp _ (Cl.refl _)) (zR ?_);refine H6 false (N6 rfl _) (zR ?_);refine b7 _ (hlp _ (Cl.refl _)) (zR ?_);refine zL c32 [.pointer (some ⟨m.P,0,none⟩)] ?_;have cb:=Cl.alloc w2 (.cells (([.pointer (some ⟨m.P,0,none⟩)]:List Value).flatMap fun v=>v.cells.toList).toArray 83);have hbx:Row 83 1 J1 w2.heap.size (w2.alloc (.cells (([.pointer (some ⟨m.P,0,none⟩)]:List Value).flatMap fun v=>v.cells.toList).toArray 83)) (.slice (some ⟨w2.heap.size,0,none⟩) 1 1) [m.P]:=L4 R0 w2 [m.P] (by exact zU rfl) [.pointer (some ⟨m.P,0,none⟩)] rfl
 generalize w2.alloc (.cells (([.pointer (some ⟨m.P,0,none⟩)]:List Value).flatMap fun v=>v.cells.toList).toArray 83)=w3 at *;refine zR ?_;refine K4 c32 (l:=dn) (news:=[m.P]) rfl (hrw.step cb) rfl hbx R0 a5a (by simp only [zh,za];omega) zd (c2.trans cb).size fun v' w4 hr' hg=>?_
 have c04:Cl w w4:=hg.toCl rfl (c2.trans cb);have hlk4:g8 G.P w4 134 ⟨m.M,5,none⟩ m.d.kids:=L5 (c04.blk hm0) rfl rfl;obtain ⟨a9,c9,rfl,_⟩:=hr'.form;refine zR ?_;refine b7 _ hlk4 ?_;cases k with
 | nil =>
  have e0:m.d.kids = .slice none 0 0:=hk;rw [e0];refine zR ?_;exact ⟨_,rfl,by rw [← he];exact hr',c04⟩
 | cons m2 k =>
  have hk2:Row 85 1 J1 0 w m.d.kids [m2.M]:=hk;obtain ⟨ak,ck,ek,hak⟩:=hk2.form;obtain ⟨gk,rfl⟩:=hak Nat.zero_lt_one;rw [ek] at hk2 hlk4 ⊢;have hk4:=hk2.step c04;refine zR ?_;refine b7 _ hlk4 (zR ?_);refine b7 _ (O5 hk4 R0 0 0 Nat.zero_lt_one zd rfl rfl rfl) (zR ?_);exact ⟨(dn++[m.P],_,m2,k),⟨rfl,rfl,trivial⟩,⟨c04,hr',hrest,by rw [← he];simp⟩,by simp⟩
theorem Chn.get {w:World}:∀ {l:List H0},Chn w l→∀ (i:Nat) (hi:i<l.length),I0 w l[i].P l[i].b l[i].p l[i].cv
 | n::l,⟨_,_,_,h4,h5⟩,0,_=>h4
 | n::l,⟨_,_,_,h4,h5⟩,i+1,hi=>Chn.get h5 i (Nat.lt_of_succ_lt_succ hi)
theorem b3T (p q:l9):a1a p q=a1a q p:=by
 unfold a1a;have e:∀ {α:Type} [DecidableEq α] (a b:α),decide (a=b)=decide (b=a):=fun a b=>by
  by_cases h:a=b
  ·subst h;rfl
  ·rw [zV h,zV (wG h)]
 rw [e p.board,e p.turn,e p.castle,e p.ep]
theorem b3U (l:List l9) (q p:l9):S2 (l++[q]) p=S2 l p+(if a1a p q then 1 else 0):=by
 unfold S2;rw [List.filter_append,zF,List.filter_cons,b3T q p];cases a1a p q<;>rfl
theorem b24 (l:List l9) (p:l9):S2 l p≤l.length:=xG _ _
theorem b8Y {p:l9} (hI:D0 p) {G0 b t:Nat} {g:Gm} {fz:Nat×Nat} {cv:Value} {n:H0} {l:List H0} (hl:(n::l).length≤100000) (hJ:∀ x∈n::l,D0 x.p) (w:World) (hT:D5 w) (hb:w.heap[G0]?=some (.cells (gmA g) t fz)) (hr:g.root=n.M)
  (hc:Chn w (n::l)) (hP:I0 w g.P b p cv) :
  Calls G.P 197 #[.pointer (some ⟨G0,0,none⟩)] w (N2 (.int .i64 (S2 ((n::l).map H0.p) p)) w):=by
 refine zN Tryz.func197 ?_;refine zR ?_;refine o7 (b23 hl w hb hr hc) ?_;rintro e w1 ⟨v,rfl,hrw,c1⟩;refine ⟨_,rfl,?_⟩;obtain ⟨a,k,rfl,ha⟩:=hrw.form;generalize hxs:n::l=xs at *;have hlm:(xs.map H0.P).length=xs.length:=yc _;rw [hlm] at hrw ha ⊢;refine zR ?_;refine B6 (σ:=Nat) [3,5,9] 10 (fun i=>[(3,.int .i64 (S2 ((xs.take i).map H0.p) p)),(9,.int .i64 i)]) (fun i w'=>i≤xs.length∧Cl w1 w') (fun i=>xs.length-i) zk 0 ⟨xA _,Cl.refl _⟩ ⟨rfl,rfl,trivial⟩ ?_;rintro i j w2 ⟨hi,c2⟩;have ni:=C7 (i:=i) zo;have c02:=c1.trans c2;have htl:=b24 ((xs.take i).map H0.p) p;rw [yc,yb] at htl;have nt:=C7 (i:=S2 ((xs.take i).map H0.p) p) zo;refine zR ?_;apply E.b9<;>intro h
 ·have hi2:i<xs.length:=by omega
  clear h;obtain ⟨gk,rfl⟩:=ha zo;have htk:xs.take (i+1)=xs.take i++[xs[i]]:=zx hi2;have hts:S2 ((xs.take (i+1)).map H0.p) p=S2 ((xs.take i).map H0.p) p+(if a1a p xs[i].p then 1 else 0):=by rw [htk,List.map_append];exact b3U _ _ _
  have hx:=hc.get i hi2;have hxJ:=hJ _ (yO hi2);have hld:=fun {o:Nat} (ho:o=i*1+0)=>O5 (t:=83) (v:=.pointer (some ⟨xs[i].P,0,none⟩)) (hrw.step c2) R0 i 0 (by rw [hlm];exact hi2) zd (by rw [List.getElem_map];rfl) ho rfl
  generalize xs[i]=x at *;refine zR ?_;refine zC ?_;refine zR ?_;refine b7 _ (hld (a0F _ _)) (zR ?_);refine Y7 false (N6 rfl _) (zR ?_);refine b7 _ (a6x (c02.blk hb)) (zR ?_);refine o9 (a8K hI hxJ w2 (hT.cl c02) (c02.blk hP.hd) (c02.blk hP.bd) (c02.blk hx.hd) (c02.blk hx.bd)) fun w3 c3=>zR ?_;cases hal:a1a p x.p with
  | true =>
   rw [hal] at hts;refine zR ?_;refine ⟨i+1,⟨?_,d8 ni,trivial⟩,⟨zo,c2.trans c3⟩,zo⟩;rw [hts];exact d8 nt
  | false =>
   rw [hal] at hts;refine zR ?_;refine ⟨i+1,⟨?_,d8 ni,trivial⟩,⟨zo,c2.trans c3⟩,zo⟩;rw [hts];rfl
 ·have e:i=xs.length:=by omega
  subst e;rw [yZ];refine zR ?_;exact ⟨rfl,c02⟩
def c4S (v:Value):Value:=.iface 231 v
theorem c5M:∃ e,G.P.underlying 231=some (.pointer e):=b5l rfl
section gens
variable {dst:Option Nat} {ty:Nat} {pos:String} {af:Array Edge} {gd:Option (Nat×Bool)} {env:C8}
theorem c1w {w:World} {K:Value→World→Prop} {t e:Nat} {x:Operand} (ht:G.P.underlying t=some (.pointer e)) (h:K (.iface t (ev env x)) w):H4 G.P { dst,op:=.makeInterface t x,type:=ty,pos,after:=af,guard:=gd } env w K:=by
 refine ⟨.inl ⟨.iface t (ev env x),w,?_,h⟩⟩;simp [execOp,Instr.makeInterface,run_underlying ht]
end gens
theorem b8Z (s:ByteArray) (w:World):Calls G.P 135 #[.string s] w (fun r w'=>∃ v,r = .returned (c4S v)∧Cl w w'):=by
 obtain ⟨e,he⟩:=c5M;refine zN Tryz.func135 ?_;refine zR ?_;refine y7 #[.string s] zk (zR ?_);refine c1w he (zR ?_);exact ⟨_,rfl,Cl.alloc _ _⟩
set_option maxHeartbeats 1000000 in
theorem b3V {p:l9} (hI:D0 p) (hle:(B5 p).length≤218) {G0 t M b:Nat} {g:Gm} {fz:Nat×Nat} {cv:Value} {d:Nd} (w:World) (hT:D5 w) (hb:w.heap[G0]?=some (.cells (gmA g) t fz)) (hP:I0 w g.P b p cv)
  (hM:w.heap[M]?=some (.cells (E8 d) 141 (0,0))) (hGP:G0≠g.P) (hMP:M≠g.P) :
  Calls G.P 101 #[.pointer (some ⟨G0,0,none⟩),.pointer (some ⟨M,0,none⟩)] w (fun r w'=>(d.mv∈A1 p∧r = .returned .nilIface∧∃ cv',I0 w' g.P b p cv'∧Tn g.P w w'∧Row 141 11 D4 0 w' cv' (N9 p)∧∀ k,cv'.ownBlock=some k→cv.ownBlock=some k∨w.heap.size≤k)
  ∨(d.mv∉A1 p∧(∃ v,r = .returned (c4S v))∧Tn g.P w w')):=by
 obtain ⟨mm1,mm2⟩:=a1X hI;have hlen:=a5D hI hle;refine zN Tryz.func101 ?_;refine zR ?_;refine Y7 false (N6 rfl _) (zR ?_);refine b7 _ (a6x hb) (zR ?_);refine Y7 false (N6 rfl _) (zR ?_);refine b7 _ (a6x hb) (zR ?_);refine o7 (a5E hI hle w hT hP) ?_;rintro r w2 ⟨v,cv',rfl,hr,hP2,n2,hr0,hown⟩;obtain ⟨av,kv,rfl,hav⟩:=hr.form;refine ⟨_,rfl,?_⟩;have hM2:=n2.blk hM hMP;refine zR ?_;refine B6 (σ:=Nat) [4,7,24] 25 (fun i=>[(4,.nilIface),(24,.int .i64 i)]) (fun i w'=>i≤(N9 p).length∧Cl w2 w'∧∀ x∈(N9 p).take i,x.mv≠d.mv) (fun i=>(N9 p).length-i) zk 0 ⟨xA _,Cl.refl _,fun x hx=>by simp at hx⟩ ⟨rfl,rfl,trivial⟩ ?_
 rintro i j w3 ⟨hi,c3,hno⟩;have ni:=C7 (i:=i) zo;refine zR ?_;apply E.b9<;>intro h
 ·have hi2:i<(N9 p).length:=by omega
  clear h;obtain ⟨ga,rfl⟩:=hav zo;have hld:=fun {o:Nat} (ho:o=i*11)=>b0V (hr.step c3) i hi2 ho;have hxm:=yO hi2;have htk:(N9 p).take (i+1)=(N9 p).take i++[(N9 p)[i]]:=zx hi2;generalize (N9 p)[i]=x at *;refine zR ?_;refine zC ?_;refine zR ?_;refine b7 _ (hld (a0F _ _)) (zR ?_);refine v8 _ a6X ?_;have cB:=Cl.alloc w3 (.cells (Value.agg (E8 (E0 ⟨⟨0,0,0⟩,0⟩))).cells 141);have nB:=d9 w3 (.cells (Value.agg (E8 (E0 ⟨⟨0,0,0⟩,0⟩))).cells 141);generalize w3.alloc (.cells (Value.agg (E8 (E0 ⟨⟨0,0,0⟩,0⟩))).cells 141)=w4 at *;refine zR ?_;refine K9 nB (D4 x) rfl a1I rfl (F8 x) (zU rfl) fun w5 u5=>?_;have hX:w5.heap[w3.heap.size]?=some (.cells (E8 (E0 x)) 141 (0,0)):=by have h7:=u5.at_;rw [C6 _ _ (by rw [J9];rfl)] at h7;exact h7
  have c5:Cl w3 w5:=(Tn.upd u5).toCl cB (yJ _);have c25:=c3.trans c5;have hD:=c25.blk hM2;have hxe:∀ w6,Cl w5 w6→x.mv≠d.mv→i+1≤(N9 p).length∧Cl w2 w6∧∀ y∈(N9 p).take (i+1),y.mv≠d.mv:=fun w6 c6 hne=>⟨hi2,c25.trans c6,fun y hy=>by
   rw [htk] at hy;rcases zr.1 hy with hy|hy
   ·exact hno y hy
   ·rw [zY] at hy;rw [hy];exact hne⟩
  refine zR ?_;refine zK 25 ?_;refine zR ?_;refine a3C hX (zR ?_);refine a3C hD (zR ?_);apply E.b9<;>intro h
  ·have h1:x.mv.fr=d.mv.fr:=h;clear h;refine zR ?_;repeat (refine E.z6 h1 ?_;refine zR ?_)
   refine b0O hX (zR ?_);repeat (refine E.z6 h1 ?_;refine zR ?_)
   refine b0O hD (zR ?_);repeat (refine E.z6 h1 ?_;refine zR ?_)
   apply E.b9<;>intro h
   ·have h2:x.mv.to=d.mv.to:=h;clear h;refine zR ?_;repeat (refine E.z6 h2 ?_;refine zR ?_)
    refine a7D hX (zR ?_);repeat (refine E.z6 h2 ?_;refine zR ?_)
    refine a7D hD (zR ?_);repeat (refine E.z6 h2 ?_;refine zR ?_)
    intro w6 c6;refine zR ?_;repeat (refine E.z6 h2 ?_;refine zR ?_)
    apply E.b9<;>intro h
    ·have h3:x.mv.promo=d.mv.promo:=h;have hx:x.mv=d.mv:=by rw [show x.mv=⟨x.mv.fr,x.mv.to,x.mv.promo⟩ from rfl,h1,h2,h3]
     refine zR ?_;have c26:=c25.trans c6;exact .inl ⟨hx▸(mm1 x hxm).1,rfl,cv',hP2.step c26,n2.trans (Tn.cl c26),hr0.step c26,hown⟩
    ·refine zR ?_;exact ⟨i+1,⟨rfl,d8 ni,trivial⟩,hxe _ c6 (fun e=>h (by rw [← e];rfl)),zo⟩
   ·have h2:¬ x.mv.to=d.mv.to:=h;clear h;refine zR ?_;repeat (refine E.p9 h2 ?_;refine zR ?_)
    intro w6 c6;refine zR ?_;repeat (refine E.p9 h2 ?_;refine zR ?_)
    exact ⟨i+1,⟨rfl,d8 ni,trivial⟩,hxe _ c6 (fun e=>h2 (by rw [← e])),zo⟩
  ·have h1:¬ x.mv.fr=d.mv.fr:=h;clear h;refine zR ?_;repeat (refine E.p9 h1 ?_;refine zR ?_)
   intro w6 c6;refine zR ?_;repeat (refine E.p9 h1 ?_;refine zR ?_)
   exact ⟨i+1,⟨rfl,d8 ni,trivial⟩,hxe _ c6 (fun e=>h1 (by rw [← e])),zo⟩
 ·have e:i=(N9 p).length:=by omega
  subst e;rw [yZ] at hno;have hd:d.mv∉A1 p:=fun hm=>by
   obtain ⟨x,hx,e⟩:=mm2 _ hm;exact absurd e (hno x hx)
  refine zR ?_;refine o7 (b8Z _ w3) ?_;rintro _ w8 ⟨v,rfl,c8⟩;refine ⟨_,rfl,zR ?_⟩;exact .inr ⟨hd,⟨_,rfl⟩,n2.trans (Tn.cl (c3.trans c8))⟩
def c33 (p:l9) (b:Nat):Prop:=∀ w',D5 w'→w'.heap[b]?=some (.cells (H3 (A4 p)) 237 (0,0)) →
 Calls G.P 198 #[.pointer (some ⟨b,0,none⟩)] w' (N2 (.bool (!a4v p)) w')
set_option maxHeartbeats 1000000 in
theorem b0a {p:l9} (hI:D0 p) (hle:(B5 p).length≤218) {G0 b:Nat} {g:Gm} {cv:Value} {n:H0} {l:List H0} (hsuf:c33 p b) (hl:(n::l).length≤100000) (hJ:∀ x∈n::l,D0 x.p) (w:World) (hT:D5 w) (hb:w.heap[G0]?=some (.cells (gmA g) 131 (0,0))) (hr:g.root=n.M)
  (hc:Chn w (n::l)) (hP:I0 w g.P b p cv) (hGP:g.P≠G0) (hGb:b≠G0) (hmo:g.out=star→g.meth=0) :
  Calls G.P 138 #[.pointer (some ⟨G0,0,none⟩)] w (fun r w'=>r = .returned (.tuple #[])∧∃ (m':Nat) (o':Tx),((m':Int),o')=C4 ((n::l).map H0.p) p ((g.meth:Int),g.out)
  ∧w'.heap[G0]?=some (.cells (gmA { g with out:=o',meth:=m' }) 131 (0,0))∧Fr [G0] w w'):=by
 have hS:=b6u hI w hT hP;have hstat:H9 p=if !(A1 p).isEmpty then 0 else if o5 p then 1 else 4:=rfl
 have hend:C4 ((n::l).map H0.p) p ((g.meth:Int),g.out)=if (A1 p).isEmpty then (if !o5 p then (4,drawT) else (1,a2m p.turn))
   else if g.out≠star then ((g.meth:Int),g.out)
   else
    let a:=if 5≤S2 ((n::l).map H0.p) p then (6,drawT) else ((g.meth:Int),g.out)
    let b:=if 150≤p.half then (8,drawT) else a
    if a4v p then (9,drawT) else b:=rfl
 have hnr:=fun w hT hb hc hP=>b8Y hI hl hJ (g:=g) (G0:=G0) (t:=131) (fz:=(0,0)) (b:=b) (cv:=cv) w hT hb hr hc hP;rw [hend];clear hend;have hfix:∀ k∈[G0],∀ cs t fz,w.heap[k]?=some (.cells cs t fz)→a2o t=false:=fun k hk cs t fz h=>by
  have e:=zY.1 hk;rw [e] at h;have h2:=xF (yi (hb.symm.trans h));rw [← h2.2.1];decide
 have hTf:∀ {w'},Fr [G0] w w'→D5 w':=fun c=>hT.fr c hfix;have hPf:∀ {w'},Fr [G0] w w'→w'.heap[g.P]?=some (.cells (hdA b (E6 p (o5 p)) cv) 173 (0,0)):=fun c=>c.blk hP.hd (fun e=>hGP (zY.1 e));have hBf:∀ {w'},Fr [G0] w w'→w'.heap[b]?=some (.cells (H3 (A4 p)) 237 (0,0)):=fun c=>c.blk hP.bd (fun e=>hGb (zY.1 e));have htm:=b24 ((n::l).map H0.p) p;rw [yc] at htm;have htm:=zw htm hl;generalize S2 ((n::l).map H0.p) p=tm at *;refine zN Tryz.func138 ?_;refine zR ?_;refine b7 _ (a6x hb) (zR ?_);rw [hstat] at hS;clear hstat;generalize (A1 p).isEmpty=em at *;have hPc:=hP.hd;generalize o5 p=ck at *;cases em with
 | true =>
  rw [zM rfl];cases ck with
  | false =>
   refine o9 hS fun w1 c1=>zR ?_;refine zT (c1.blk hb) [.int .u8 4] fun w2 u2=>?_;refine zR ?_;refine K9 u2.at_ [m9 drawT] rfl zk rfl (by intro v hv;simp at hv;subst hv;rfl) (zU rfl) fun w3 u3=>zR ?_
   refine b7 _ (a8L (g:={ g with out:=drawT,meth:=4 }) u3.at_) (zR ?_);exact ⟨rfl,4,drawT,rfl,u3.at_,((Fr.cl c1).trans (Fr.upd u2 (by simp))).trans (Fr.upd u3 (by simp))⟩
  | true =>
   refine o9 hS fun w1 c1=>zR ?_;refine zT (c1.blk hb) [.int .u8 1] fun w2 u2=>?_;refine zR ?_;refine K9 u2.at_ [m9 [49,45,48]] rfl zk rfl (by intro v hv;simp at hv;subst hv;rfl) (zU rfl) fun w3 u3=>zR ?_
   have c3:=((Fr.cl c1).trans (Fr.upd u2 (by simp))).trans (Fr.upd (S:=[G0]) u3 (by simp))
   refine b7 _ (a6x (g:={ g with out:=[49,45,48],meth:=1 }) u3.at_) (zR ?_);refine l8 (a4S w3 (hPf c3)) (zR ?_);apply E.b9<;>intro h
   ·have h0:p.turn=0:=by have h2:p.turn+1=1:=h;omega
    clear h;refine zR ?_;refine K9 u3.at_ [m9 [48,45,49]] rfl zk rfl (by intro v hv;simp at hv;subst hv;rfl) (zU rfl) fun w4 u4=>zR ?_
    refine b7 _ (a8L (g:={ g with out:=[48,45,49],meth:=1 }) u4.at_) (zR ?_);exact ⟨rfl,1,[48,45,49],by unfold a2m;rw [zM h0];rfl,u4.at_,c3.trans (Fr.upd u4 (by simp))⟩
   ·have h0:¬ p.turn=0:=fun e=>h (by show p.turn+1=1;omega)
    clear h;refine zR ?_;refine b7 _ (a8L (g:={ g with out:=[49,45,48],meth:=1 }) u3.at_) (zR ?_);exact ⟨rfl,1,[49,45,48],by unfold a2m;rw [zJ h0];rfl,u3.at_,c3⟩
 | false =>
  rw [zJ Bool.false_ne_true];refine o9 hS fun w1 c1=>zR ?_;refine b7 _ (a8L (c1.blk hb)) (zR ?_);apply E.y6<;>intro h
  ·have h0:g.out≠star:=fun e=>h (by rw [e];rfl)
   rw [zM h0];refine zR ?_;exact ⟨rfl,g.meth,g.out,rfl,c1.blk hb,Fr.cl c1⟩
  ·have h0:g.out=star:=yB ((b5k g.out).symm.trans (zX h));rw [zJ (show ¬ (g.out≠star) from fun e=>e h0)];have hm0:=hmo h0;clear h;refine zR ?_;refine b7 _ (a4Z (c1.blk hb)) (zR ?_);refine o9 (hnr w1 (hT.cl c1) (c1.blk hb) (hc.step c1) (hP.step c1)) fun w2 c2=>?_;have c02:=Fr.cl (S:=[G0]) (c1.trans c2);have hb2:=(c1.trans c2).blk hb;refine zR ?_;apply E.b9<;>intro h
   ·have h5:5≤tm:=by have h2:(5:Int)≤(tm:Int):=h;omega
    clear h;refine zR ?_;refine zT hb2 [m9 drawT] fun w3 u3=>?_;refine zR ?_;refine K9 u3.at_ [.int .u8 6] rfl zk rfl (by intro v hv;simp at hv;subst hv;rfl) (zU rfl) fun w4 u4=>zR ?_
    have c04:=(c02.trans (Fr.upd (S:=[G0]) u3 (by simp))).trans (Fr.upd u4 (by simp))
    refine b7 _ (a4Z (g:={ g with out:=drawT,meth:=6 }) u4.at_) (zR ?_);refine b7 _ (a6x (g:={ g with out:=drawT,meth:=6 }) u4.at_) (zR ?_);refine b7 _ (a7B (hPf c04)) (zR ?_);apply E.b9<;>intro h
    ·have h150:150≤p.half:=h;clear h;refine zR ?_;repeat (refine E.z6 h150 ?_;refine zR ?_)
     refine b7 _ (b5u (g:={ g with out:=drawT,meth:=6 }) u4.at_) (zR ?_);repeat (refine E.z6 h150 ?_;refine zR ?_)
     refine K9 u4.at_ [m9 drawT] rfl zk rfl (by intro v hv;simp at hv;subst hv;rfl) (zU rfl) fun w5 u5=>zR ?_
     refine K9 u5.at_ [.int .u8 8] rfl zk rfl (by intro v hv;simp at hv;subst hv;rfl) (zU rfl) fun w6 u6=>zR ?_
     have c06:=((c04).trans (Fr.upd (S:=[G0]) u5 (by simp))).trans (Fr.upd u6 (by simp))
     refine b7 _ (a4Z (g:={ g with out:=drawT,meth:=8 }) u6.at_) (zR ?_);refine b7 _ (a6x (g:={ g with out:=drawT,meth:=8 }) u6.at_) (zR ?_);refine b7 _ (a8v (hPf c06)) (zR ?_);refine o9 (hsuf w6 (hTf c06) (hBf c06)) fun w7 c7=>?_;have hb7:=c7.blk u6.at_;have c07:=(c06).trans (Fr.cl c7);cases hd:a4v p with
     | true =>
      refine zR ?_;refine zT hb7 [m9 drawT] fun w8 u8=>?_;refine zR ?_;refine K9 u8.at_ [.int .u8 9] rfl zk rfl (by intro v hv;simp at hv;subst hv;rfl) (zU rfl) fun w9 u9=>zR ?_
      exact ⟨rfl,9,drawT,by simp only [zM h5];simp only [zM h150];rfl,u9.at_,(c07.trans (Fr.upd u8 (by simp))).trans (Fr.upd u9 (by simp))⟩
     | false =>
      refine zR ?_;exact ⟨rfl,8,drawT,by simp only [zM h5];simp only [zM h150];rfl,hb7,c07⟩
    ·have h150:¬ 150≤p.half:=h;clear h;refine zR ?_;repeat (refine E.p9 h150 ?_;refine zR ?_)
     refine b7 _ (a4Z (g:={ g with out:=drawT,meth:=6 }) u4.at_) (zR ?_);refine b7 _ (a6x (g:={ g with out:=drawT,meth:=6 }) u4.at_) (zR ?_);refine b7 _ (a8v (hPf c04)) (zR ?_);refine o9 (hsuf w4 (hTf c04) (hBf c04)) fun w7 c7=>?_;have hb7:=c7.blk u4.at_;have c07:=(c04).trans (Fr.cl c7);cases hd:a4v p with
     | true =>
      refine zR ?_;refine zT hb7 [m9 drawT] fun w8 u8=>?_;refine zR ?_;refine K9 u8.at_ [.int .u8 9] rfl zk rfl (by intro v hv;simp at hv;subst hv;rfl) (zU rfl) fun w9 u9=>zR ?_
      exact ⟨rfl,9,drawT,by simp only [zM h5];simp only [zJ h150];rfl,u9.at_,(c07.trans (Fr.upd u8 (by simp))).trans (Fr.upd u9 (by simp))⟩
     | false =>
      refine zR ?_;exact ⟨rfl,6,drawT,by simp only [zM h5];simp only [zJ h150];rfl,hb7,c07⟩
   ·have h5:¬ 5≤tm:=fun e=>h (by show (5:Int)≤(tm:Int);omega)
    clear h;refine zR ?_;refine b7 _ (a4Z (g:=g) hb2) (zR ?_);refine b7 _ (a6x (g:=g) hb2) (zR ?_);refine b7 _ (a7B (hPf c02)) (zR ?_);apply E.b9<;>intro h
    ·have h150:150≤p.half:=h;clear h;refine zR ?_;repeat (refine E.z6 h150 ?_;refine zR ?_)
     refine b7 _ (b5u (g:=g) hb2) (zR ?_);repeat (refine E.z6 h150 ?_;refine zR ?_)
     apply E.y6<;>intro h;rotate_left
     ·exact absurd (show ((g.meth:Nat):Int)=1 from h) zo
     refine zR ?_;refine zT hb2 [m9 drawT] fun w5 u5=>?_;refine zR ?_;refine K9 u5.at_ [.int .u8 8] rfl zk rfl (by intro v hv;simp at hv;subst hv;rfl) (zU rfl) fun w6 u6=>zR ?_
     have c06:=((c02).trans (Fr.upd (S:=[G0]) u5 (by simp))).trans (Fr.upd u6 (by simp))
     refine b7 _ (a4Z (g:={ g with out:=drawT,meth:=8 }) u6.at_) (zR ?_);refine b7 _ (a6x (g:={ g with out:=drawT,meth:=8 }) u6.at_) (zR ?_);refine b7 _ (a8v (hPf c06)) (zR ?_);refine o9 (hsuf w6 (hTf c06) (hBf c06)) fun w7 c7=>?_;have hb7:=c7.blk u6.at_;have c07:=(c06).trans (Fr.cl c7);cases hd:a4v p with
     | true =>
      refine zR ?_;refine zT hb7 [m9 drawT] fun w8 u8=>?_;refine zR ?_;refine K9 u8.at_ [.int .u8 9] rfl zk rfl (by intro v hv;simp at hv;subst hv;rfl) (zU rfl) fun w9 u9=>zR ?_
      exact ⟨rfl,9,drawT,by simp only [zJ h5];simp only [zM h150];rfl,u9.at_,(c07.trans (Fr.upd u8 (by simp))).trans (Fr.upd u9 (by simp))⟩
     | false =>
      refine zR ?_;exact ⟨rfl,8,drawT,by simp only [zJ h5];simp only [zM h150];rfl,hb7,c07⟩
    ·have h150:¬ 150≤p.half:=h;clear h;refine zR ?_;repeat (refine E.p9 h150 ?_;refine zR ?_)
     refine b7 _ (a4Z (g:=g) hb2) (zR ?_);refine b7 _ (a6x (g:=g) hb2) (zR ?_);refine b7 _ (a8v (hPf c02)) (zR ?_);refine o9 (hsuf w2 (hTf c02) (hBf c02)) fun w7 c7=>?_;have hb7:=c7.blk hb2;have c07:=(c02).trans (Fr.cl c7);cases hd:a4v p with
     | true =>
      refine zR ?_;refine zT hb7 [m9 drawT] fun w8 u8=>?_;refine zR ?_;refine K9 u8.at_ [.int .u8 9] rfl zk rfl (by intro v hv;simp at hv;subst hv;rfl) (zU rfl) fun w9 u9=>zR ?_
      exact ⟨rfl,9,drawT,by simp only [zJ h5];simp only [zJ h150];rfl,u9.at_,(c07.trans (Fr.upd u8 (by simp))).trans (Fr.upd u9 (by simp))⟩
     | false =>
      refine zR ?_;exact ⟨rfl,g.meth,g.out,by simp only [zJ h5];simp only [zJ h150];rfl,hb7,c07⟩
def Kp (X:List Nat) (w w':World):Prop:=∀ (k:Nat) (cs:Array Value) (t:Nat),k∉X→t≠131→w.heap[k]?=some (.cells cs t (0,0))→w'.heap[k]?=some (.cells cs t (0,0))
theorem Kp.row {α:Type} {enc:α→List Value} {e z b0:Nat} {X:List Nat} {w w':World} {v:Value} {l:List α} (hk:Kp X w w') (h:Row e z enc b0 w v l) (he:e≠131) (hv:∀ k∈X,v.ownBlock≠some k):Row e z enc b0 w' v l:=by
 refine ⟨h.1,?_⟩;rcases h.2 with h2|⟨g,cap,cur,h1,h2,h3,h4⟩
 ·exact .inl h2
 ·refine .inr ⟨g,cap,cur,h1,h2,hk _ _ _ (fun hm=>hv g hm (by rw [h1];rfl)) he h3,h4⟩
structure H0.off (X:List Nat) (n:H0):Prop where
 M:n.M∉X
 P:n.P∉X
 b:n.b∉X
 cv:∀ k∈X,n.cv.ownBlock≠some k
 kids:∀ k∈X,n.d.kids.ownBlock≠some k
theorem I0.kp {X:List Nat} {w w':World} {P b:Nat} {p:l9} {cv:Value} (hk:Kp X w w') (h:I0 w P b p cv) (hP:P∉X) (hb:b∉X) (hv:∀ k∈X,cv.ownBlock≠some k):I0 w' P b p cv :=
 ⟨hk _ _ _ hP zd h.hd,hk _ _ _ hb zd h.bd,h.ca.elim .inl fun h=>.inr (hk.row h zd hv)⟩
theorem a3J.kp {X:List Nat} {w w':World} {k:Value} {l:List H0} (hk:Kp X w w') (h:a3J w k l) (hv:∀ j∈X,k.ownBlock≠some j):a3J w' k l:=by
 cases l with
 | nil=>exact h
 | cons m l=>exact hk.row h zd hv
theorem Chn.kp {X:List Nat} {w w':World} (hk:Kp X w w'):∀ {l:List H0},Chn w l→(∀ n∈l,n.off X)→Chn w' l
 | [],_,_=>trivial
 | n::l,⟨h1,h2,h3,h4,h5⟩,ho=>by
  have o:=ho n (yX ..);exact ⟨hk _ _ _ o.M zd h1,h2,h3.kp hk o.kids,h4.kp hk o.P o.b o.cv,Chn.kp hk h5 fun x hx=>ho x (yY _ hx)⟩
theorem Chn.snoc {w w':World} {z y:H0} {kv:Value}:∀ {l:List H0},Kp [z.M,y.M] w w'→Chn w (l++[z])→(∀ n∈l,n.off [z.M,y.M])→z.P∉[z.M,y.M]→z.b∉[z.M,y.M]→(∀ k∈[z.M,y.M],z.cv.ownBlock≠some k)
 →w'.heap[z.M]?=some (.cells (E8 { z.d with kids:=kv }) 141 (0,0))→Row 85 1 J1 0 w' kv [y.M]→Chn w' [y]→Chn w' (l++[{ z with d:={ z.d with kids:=kv } },y])
 | [],hk,⟨h1,h2,h3,h4,_⟩,_,hP,hb,hv,hz,hr,hy=>⟨hz,h2,hr,h4.kp hk hP hb hv,hy⟩
 | n::l,hk,⟨h1,h2,h3,h4,h5⟩,ho,hP,hb,hv,hz,hr,hy=>by
  have o:=ho n (yX ..);refine ⟨hk _ _ _ o.M zd h1,h2,?_,h4.kp hk o.P o.b o.cv,Chn.snoc hk h5 (fun x hx=>ho x (yY _ hx)) hP hb hv hz hr hy⟩;cases l with
  | nil=>exact hk.row h3 zd o.kids
  | cons m l=>exact hk.row h3 zd o.kids
theorem Kp.fr {X S:List Nat} {w w':World} (h:Fr S w w') (hS:∀ k∈S,k∈X∨∃ cs fz,w.heap[k]?=some (.cells cs 131 fz)):Kp X w w':=by
 intro k cs t hk ht hb;refine h.blk hb fun hm=>?_;rcases hS k hm with e|⟨cs',fz,e⟩
 ·exact hk e
 ·exact ht (xF (yi (hb.symm.trans e))).2.1
theorem Kp.trans {X:List Nat} {w w1 w2:World} (h:Kp X w w1) (h':Kp X w1 w2):Kp X w w2:=fun k cs t hk ht hb=>h' k cs t hk ht (h k cs t hk ht hb)
structure b5v (w:World) (G0 M:Nat) (g:Gm) (dc d:Nd) (q:l9) (P' b':Nat) (kv:Value) (w':World):Prop where
 P:w.heap.size≤P'
 b:w.heap.size≤b'
 pos:I0 w' P' b' q (.slice none 0 0)
 row:Row 85 1 J1 w.heap.size w' kv [M]
 cur:w'.heap[g.cur]?=some (.cells (E8 { dc with kids:=kv }) 141 (0,0))
 new:w'.heap[M]?=some (.cells (E8 { d with par:=.pointer (some ⟨g.cur,0,none⟩),pos:=.pointer (some ⟨P',0,none⟩) }) 141 (0,0))
 game:w'.heap[G0]?=some (.cells (gmA { g with P:=P',cur:=M }) 131 (0,0))
 fr:Fr [M,g.cur,G0] w w'
theorem b9a {p:l9} (hI:D0 p) (hN:a1A p) {G0 M b O to:Nat} {fo:Nat×Nat} {g:Gm} {cv:Value} {dc d:Nd} (hm:d.mv∈A1 p) (htg:(d.tags:Int)=a0W p d.mv) (w:World) (hT:D5 w) (hP:I0 w g.P b p cv)
  (hb:w.heap[G0]?=some (.cells (gmA g) 131 (0,0))) (hc:w.heap[g.cur]?=some (.cells (E8 dc) 141 (0,0))) (hk:dc.kids = .slice none 0 0) (hM:w.heap[M]?=some (.cells (E8 d) 141 (0,0)))
  (hO:w.heap[O]?=some (.cells #[.bool false] to fo)) (hcM:g.cur≠M) (hPM:g.P≠M) (hPc:g.P≠g.cur) (hbM:b≠M) (hbc:b≠g.cur) (hvM:∀ k∈[M,g.cur],cv.ownBlock≠some k) (hOM:O≠M) {R:Nat→Nat→Value→World→World→Prop}
  (hev:∀ P' b' kv w3,b5v w G0 M g dc d (made p d.mv) P' b' kv w3→Calls G.P 138 #[.pointer (some ⟨G0,0,none⟩)] w3 (fun r w'=>r = .returned (.tuple #[])∧R P' b' kv w3 w')) :
  Calls G.P 102 #[.pointer (some ⟨G0,0,none⟩),.pointer (some ⟨M,0,none⟩),.pointer (some ⟨O,0,none⟩)] w (fun r w'=>r = .returned .nilIface∧∃ P' b' kv w3,b5v w G0 M g dc d (made p d.mv) P' b' kv w3∧R P' b' kv w3 w'):=by
 have hGM:G0≠M:=fun e=>by rw [e] at hb;have:=(xF (yi (hb.symm.trans hM))).2.1;revert this;decide
 have hGc:G0≠g.cur:=fun e=>by rw [e] at hb;have:=(xF (yi (hb.symm.trans hc))).2.1;revert this;decide
 refine zN Tryz.func102 ?_;refine zR ?_;refine Y7 false (N6 rfl _) (zR ?_);refine l8 (b8V _ ⟨_,rfl⟩ hb hc hk) (zR ?_);refine b7 _ (L5 (v:=.bool false) hO rfl rfl) (zR ?_);refine o7 (c1v hGc hGM hcM hb hc hk hM) ?_;rintro e w1 ⟨rfl,kv,hr1,hc1,hM1,f1⟩;refine ⟨_,rfl,?_⟩;have k1:Kp [M,g.cur] w w1:=Kp.fr f1 fun k hk=>.inl hk;have hP1:I0 w1 g.P b p cv:=hP.kp k1 (by simp [hPM,hPc]) (by simp [hbM,hbc]) hvM
 have hb1:=f1.blk hb (by simp [hGM,hGc])
 have hT1:D5 w1:=hT.fr f1 fun k hk cs t fz h=>by
  rcases yS.1 hk with e|e
  ·rw [e] at h;rw [← (xF (yi (hM.symm.trans h))).2.1];decide
  ·rw [zY.1 e] at h;rw [← (xF (yi (hc.symm.trans h))).2.1];decide
 refine zR ?_;refine o7 (b8X (d:={ d with par:=.pointer (some ⟨g.cur,0,none⟩) }) hI hN hm htg w1 hT1 hP1 hM1 hGM hb1) ?_;rintro e w2 ⟨rfl,P',b',s1,s2,hP2,hb2,hM2,f2⟩;refine ⟨_,rfl,zR ?_⟩;refine zT hb2 [.pointer (some ⟨M,0,none⟩)] fun w3 u3=>?_;refine zR ?_;have f3:Fr [M,g.cur,G0] w w3:=((f1.mono (by simp)).trans (f2.mono (by simp))).trans (Fr.upd u3 (by simp))
 have hcw2:=f2.blk hc1 (by simp [wG hGc,hcM])
 have sz:=f1.size;have hGs:G0<w.heap.size:=(yh.1 hb).1;have hMs:M<w.heap.size:=(yh.1 hM).1;have k3:Kp [M] w1 w3:=Kp.fr (f2.trans (Fr.upd u3 (by simp))) fun k hk=>by
  rcases yS.1 hk with e|e
  ·exact .inr ⟨_,_,by rw [e];exact hb1⟩
  ·exact .inl e
 have hown:∀ k∈[M],kv.ownBlock≠some k:=fun k hk e=>by
  rw [zY.1 hk] at e;rcases hr1.2 with ⟨h1,_⟩|⟨ga,cap,cur,h1,h2,_⟩
  ·rw [h1] at e;cases e
  ·rw [h1] at e;injection e with e;have e2:ga=M:=e;omega
 have mv:b5v w G0 M g dc d (made p d.mv) P' b' kv w3:=⟨zo,zo,⟨(Tn.upd u3).blk hP2.hd zo,(Tn.upd u3).blk hP2.bd zo,.inl rfl⟩,k3.row hr1 zd hown,(Tn.upd u3).blk hcw2 (wG hGc),(Tn.upd u3).blk hM2 (wG hGM),u3.at_,f3⟩;refine o7 (hev _ _ _ _ mv) ?_;rintro e w4 ⟨rfl,hR⟩;refine ⟨_,rfl,zR ?_⟩;exact ⟨rfl,_,_,_,_,mv,hR⟩
theorem b0b {l:List l9} {p:l9} {m0 m:Nat} {o0 o:Tx} (h:((m:Int),o)=C4 l p ((m0:Int),o0)) (h0:o0=star→m0=0):o=star→m=0:=by
 intro e;subst e;have hsd:star≠drawT:=by decide
 have key:∀ {a:Int},((m:Int),star)=(a,drawT)→False:=fun h=>hsd (yH Prod.snd h);have same:((m:Int),star)=((m0:Int),o0)→m=0:=fun h=>by
  have h1:=yH Prod.fst h;have h2:=h0 (yH Prod.snd h).symm;simp only at h1;omega
 unfold C4 at h;simp only at h;split at h
 ·split at h
  ·exact (key h).elim
  ·have:=yH Prod.snd h;unfold a2m at this;simp only at this;split at this<;>exact absurd this zd
 ·split at h
  ·exact same h
  ·split at h
   ·exact (key h).elim
   ·split at h
    ·exact (key h).elim
    ·split at h
     ·exact (key h).elim
     ·exact same h
theorem F4 {w:World} {k:Nat} {o:Obj} (h:w.heap[k]?=some o):k<w.heap.size:=(yh.1 h).1
theorem F9 {w:World} {j k:Nat} {c1 c2:Array Value} {t1 t2:Nat} {f1 f2:Nat×Nat} (h1:w.heap[j]?=some (.cells c1 t1 f1)) (h2:w.heap[k]?=some (.cells c2 t2 f2)) (ht:t1≠t2):j≠k:=fun e=>by
 rw [e] at h1;exact ht (xF (yi (h1.symm.trans h2))).2.1
structure H0.lt (B:Nat) (n:H0):Prop where
 M:n.M<B
 P:n.P<B
 b:n.b<B
 cv:∀ k,n.cv.ownBlock=some k→k<B
 kids:∀ k,n.d.kids.ownBlock=some k→k<B
theorem H0.lt.off {B:Nat} {n:H0} {X:List Nat} (h:n.lt B) (hX:∀ k∈X,B≤k):n.off X :=
 ⟨fun hm=>by have:=hX _ hm;have:=h.M;omega,fun hm=>by have:=hX _ hm;have:=h.P;omega,fun hm=>by have:=hX _ hm;have:=h.b;omega,
  fun k hk e=>by have:=hX _ hk;have:=h.cv _ e;omega,fun k hk e=>by have:=hX _ hk;have:=h.kids _ e;omega⟩
theorem H0.off.two {n:H0} {a b:Nat} (h:n.off [a]) (h':n.off [b]):n.off [a,b]:=by
 have e:∀ {p:Nat→Prop},(∀ k∈[a],p k)→(∀ k∈[b],p k)→∀ k∈[a,b],p k:=fun h1 h2 k hk=>by
  rcases yS.1 hk with e|hk
  ·exact h1 k (by rw [e];exact zY.2 rfl)
  ·exact h2 k hk
 have e2:∀ {x:Nat},x∉[a]→x∉[b]→x∉[a,b]:=fun h1 h2 hm=>by
  rcases yS.1 hm with e|hm
  ·exact h1 (by rw [e];exact zY.2 rfl)
  ·exact h2 hm
 exact ⟨e2 h.M h'.M,e2 h.P h'.P,e2 h.b h'.b,e h.cv h'.cv,e h.kids h'.kids⟩
theorem H0.off_nil (n:H0):n.off []:=⟨by simp,by simp,by simp,by simp,by simp⟩
theorem I0.cvlt {w:World} {P b k:Nat} {p:l9} {cv:Value} (h:I0 w P b p cv) (hk:cv.ownBlock=some k):k<w.heap.size:=by
 rcases h.ca with e|hr
 ·rw [e] at hk;cases hk
 ·exact (hr.own hk).2
theorem Chn.lt {w:World}:∀ {l:List H0},Chn w l→∀ n∈l,n.lt w.heap.size
 | [],_,_,h=>by cases h
 | n::l,⟨h1,h2,h3,h4,h5⟩,x,hx=>by
  rcases yS.1 hx with e|hx
  ·subst e;refine ⟨F4 h1,F4 h4.hd,F4 h4.bd,fun k hk=>h4.cvlt hk,fun k hk=>?_⟩;cases l with
   | nil =>
    have h3:x.d.kids = .slice none 0 0:=h3;rw [h3] at hk;cases hk
   | cons m r=>exact (Row.own (show Row 85 1 J1 0 w x.d.kids [m.M] from h3) hk).2
  ·exact Chn.lt h5 x hx
theorem Chn.last {w:World} {z:H0}:∀ {L:List H0},Chn w (L++[z])→w.heap[z.M]?=some (.cells (E8 z.d) 141 (0,0))∧z.d.pos = .pointer (some ⟨z.P,0,none⟩)∧I0 w z.P z.b z.p z.cv
 | [],⟨h1,h2,_,h4,_⟩=>⟨h1,h2,h4⟩
 | _::L,⟨_,_,_,_,h5⟩=>Chn.last h5
theorem Row.tnT {α:Type} {enc:α→List Value} {e z b0 b t:Nat} {w w':World} {v:Value} {l:List α} {cs:Array Value} {fz:Nat×Nat} (h:Row e z enc b0 w v l) (ht:Tn b w w') (hb:w.heap[b]?=some (.cells cs t fz)) (hne:e≠t):Row e z enc b0 w' v l:=by
 refine ⟨h.1,?_⟩;rcases h.2 with h2|⟨g,cap,cur,h1,h2,h3,h4⟩
 ·exact .inl h2
 ·exact .inr ⟨g,cap,cur,h1,h2,ht.blk h3 (F9 h3 hb hne),h4⟩
theorem Chn.recv {w w':World} {z:H0} {cv':Value} {A:Array Value} (ht:Tn z.P w w') (hz:w.heap[z.P]?=some (.cells A 173 (0,0))) (hp:I0 w' z.P z.b z.p cv') :
  ∀ {L:List H0},Chn w (L++[z])→(∀ n∈L,n.P≠z.P)→Chn w' (L++[{ z with cv:=cv' }])
 | [],⟨h1,h2,h3,h4,_⟩,_=>⟨ht.blk h1 (F9 h1 hz zd),h2,h3,hp,trivial⟩
 | n::L,⟨h1,h2,h3,h4,h5⟩,hd=>by
  refine ⟨ht.blk h1 (F9 h1 hz zd),h2,?_,⟨ht.blk h4.hd (hd n (yX ..)),ht.blk h4.bd (F9 h4.bd hz zd),h4.ca.elim .inl fun h=>.inr (h.tnT ht hz zd)⟩,Chn.recv ht hz hp h5 fun x hx=>hd x (yY _ hx)⟩;cases L with
  | nil=>exact Row.tnT (show Row 85 1 J1 0 w n.d.kids [z.M] from h3) ht hz zd
  | cons m r=>exact Row.tnT (show Row 85 1 J1 0 w n.d.kids [m.M] from h3) ht hz zd
structure I1 (w:World) (G0:Nat) (g:Gm) (L:List H0) (z:H0):Prop where
 hb:w.heap[G0]?=some (.cells (gmA g) 131 (0,0))
 cur:g.cur=z.M
 pos:g.P=z.P
 root:∃ n l,L++[z]=n::l∧g.root=n.M
 chn:Chn w (L++[z])
 kids:z.d.kids = .slice none 0 0
 off:∀ n∈L,n.off [z.M]
 zcv:z.cv.ownBlock≠some z.M
 dis:∀ n∈L,n.P≠z.P
 mo:g.out=star→g.meth=0
section gameAt
variable {w w':World} {G0:Nat} {g:Gm} {L:List H0} {z:H0}
theorem I1.posM (h:I1 w G0 g L z):I0 w g.P z.b z.p z.cv:=by rw [h.pos];exact h.chn.last.2.2
theorem I1.node (h:I1 w G0 g L z):w.heap[z.M]?=some (.cells (E8 z.d) 141 (0,0)):=h.chn.last.1
theorem I1.step (h:I1 w G0 g L z) (c:Cl w w'):I1 w' G0 g L z:=⟨c.blk h.hb,h.cur,h.pos,h.root,h.chn.step c,h.kids,h.off,h.zcv,h.dis,h.mo⟩
theorem I1.recv (h:I1 w G0 g L z) {cv':Value} (ht:Tn z.P w w') (hp:I0 w' z.P z.b z.p cv') (ho:∀ k,cv'.ownBlock=some k→z.cv.ownBlock=some k∨w.heap.size≤k):I1 w' G0 g L { z with cv:=cv' }:=by
 have hz:=h.chn.last.2.2.hd;refine ⟨ht.blk h.hb (F9 h.hb hz zd),h.cur,h.pos,?_,Chn.recv ht hz hp h.chn h.dis,h.kids,h.off,fun e=>?_,h.dis,h.mo⟩
 ·obtain ⟨n,l,e,hr⟩:=h.root;cases L with
  | nil =>
   simp only [yM,yu] at e;exact ⟨_,_,rfl,by rw [hr,← e.1]⟩
  | cons m r =>
   simp only [yU,yu] at e;exact ⟨_,_,rfl,by rw [hr,← e.1]⟩
 ·rcases ho _ e with e|e
  ·exact h.zcv e
  ·have:=F4 h.node;exact absurd (show w.heap.size≤z.M from e) zo
end gameAt
def H0.led (z:H0) (kv:Value):H0:={ z with d:={ z.d with kids:=kv } }
theorem b3W {w:World} {G0 M O to:Nat} {fo:Nat×Nat} {g:Gm} {L:List H0} {z:H0} {d:Nd} (hT:D5 w) (h:I1 w G0 g L z) (hI:D0 z.p) (hN:a1A z.p) (hm:d.mv∈A1 z.p) (htg:(d.tags:Int)=a0W z.p d.mv) (hk:d.kids = .slice none 0 0)
  (hM:w.heap[M]?=some (.cells (E8 d) 141 (0,0))) (hoff:∀ n∈L++[z],n.off [M]) (hO:w.heap[O]?=some (.cells #[.bool false] to fo)) (hOM:O≠M) (hI':D0 (made z.p d.mv)) (hle':(B5 (made z.p d.mv)).length≤218)
  (hsuf:∀ b,c33 (made z.p d.mv) b) (hJ:∀ n∈L++[z],D0 n.p) (hlen:L.length+2≤100000) :
  Calls G.P 102 #[.pointer (some ⟨G0,0,none⟩),.pointer (some ⟨M,0,none⟩),.pointer (some ⟨O,0,none⟩)] w (fun r w'=>r = .returned .nilIface∧∃ g' kv y,I1 w' G0 g' (L++[z.led kv]) y∧y.M=M∧y.d.mv=d.mv∧y.d.tags=d.tags
  ∧y.p=made z.p d.mv∧w.heap.size≤y.P∧y.cv = .slice none 0 0∧((g'.meth:Int),g'.out)=C4 ((L++[z]).map H0.p++[y.p]) y.p ((g.meth:Int),g.out)∧Fr [M,z.M,G0] w w'∧g'.tags=g.tags∧y.d.com=d.com):=by
 have hz:z.off [M]:=hoff z (by simp)
 have hcur:=h.cur;have hpos:=h.pos;have hnode:w.heap[g.cur]?=some (.cells (E8 z.d) 141 (0,0)):=by rw [hcur];exact h.node
 have hP:=h.posM;have hcM:g.cur≠M:=fun e=>hz.M (by rw [← hcur,e];exact zY.2 rfl)
 have hzc:z.cv.ownBlock≠some g.cur:=by rw [hcur];exact h.zcv
 have hMl:=F4 hM;have hGl:=F4 h.hb;have hev:∀ P' b' kv w3,b5v w G0 M g z.d d (made z.p d.mv) P' b' kv w3→Calls G.P 138 #[.pointer (some ⟨G0,0,none⟩)] w3 (fun r w'=>r = .returned (.tuple #[]) ∧
   ∃ g' y,I1 w' G0 g' (L++[z.led kv]) y∧y.M=M∧y.d.mv=d.mv∧y.d.tags=d.tags∧y.p=made z.p d.mv∧w.heap.size≤y.P∧y.cv = .slice none 0 0∧((g'.meth:Int),g'.out)=C4 ((L++[z]).map H0.p++[y.p]) y.p ((g.meth:Int),g.out)∧Fr [M,z.M,G0] w w'∧g'.tags=g.tags∧y.d.com=d.com):=by
  intro P' b' kv w3 mv;have sP:=mv.P;have sb:=mv.b;obtain ⟨y,hy⟩:∃ y:H0,y=⟨M,{ d with par:=.pointer (some ⟨g.cur,0,none⟩),pos:=.pointer (some ⟨P',0,none⟩) },P',b',made z.p d.mv,.slice none 0 0⟩:=⟨_,rfl⟩;have hyM:y.M=M:=by rw [hy]
  have hyP:y.P=P':=by rw [hy]
  have hyp:y.p=made z.p d.mv:=by rw [hy]
  have hykid:y.d.kids = .slice none 0 0:=by rw [hy];exact hk
  have hnew:Chn w3 [y]:=by rw [hy];exact ⟨mv.new,rfl,hk,mv.pos,trivial⟩
  have k3:Kp [z.M,y.M] w w3:=Kp.fr mv.fr fun k hk=>by
   rw [hyM,← hcur];simp only [yS,zy,yy] at hk ⊢;rcases hk with e|e|e
   ·exact .inl (.inr e)
   ·exact .inl (.inl e)
   ·exact .inr ⟨_,_,by rw [e];exact h.hb⟩
  have hoffL:∀ n∈L,n.off [z.M,y.M]:=fun n hn=>(h.off n hn).two (by rw [hyM];exact hoff n (yP _ hn))
  have hne2:∀ {a:Nat},a≠z.M→a∉[M]→a∉[z.M,y.M]:=fun h1 h2 hm=>by
   rw [hyM] at hm;rcases yS.1 hm with e|e
   ·exact h1 e
   ·exact h2 e
  have hPm:=h.chn.last.2.2;have hch:Chn w3 (L++[z.led kv,y]):=Chn.snoc k3 h.chn hoffL (hne2 (F9 hPm.hd h.node zd) hz.P) (hne2 (F9 hPm.bd h.node zd) hz.b)
   (fun k hk=>by
    rw [hyM] at hk;rcases yS.1 hk with e|e
    ·rw [e];exact h.zcv
    ·exact hz.cv k e)
   (by rw [← hcur];exact mv.cur) (by rw [hyM];exact mv.row.mono (xA _)) hnew
  have hroot:∃ n l,L++[z.led kv,y]=n::l∧g.root=n.M:=by
   obtain ⟨n,l,e,hr⟩:=h.root;cases L with
   | nil =>
    simp only [yM,yu] at e;exact ⟨_,_,rfl,by rw [hr,← e.1];rfl⟩
   | cons m r =>
    simp only [yU,yu] at e;exact ⟨_,_,rfl,by rw [hr,← e.1]⟩
  obtain ⟨n,l,enl,hrt⟩:=hroot;have hpos':(L++[z.led kv,y]).map H0.p=(L++[z]).map H0.p++[y.p]:=by simp [H0.led]
  have hT3:D5 w3:=hT.fr mv.fr fun k hk cs t fz hh=>by
   simp only [yS,zy,yy] at hk;rcases hk with e|e|e
   ·rw [e] at hh;rw [← (xF (yi (hM.symm.trans hh))).2.1];decide
   ·rw [e] at hh;rw [← (xF (yi (hnode.symm.trans hh))).2.1];decide
   ·rw [e] at hh;rw [← (xF (yi (h.hb.symm.trans hh))).2.1];decide
  have hlen':(n::l).length≤100000:=by rw [← enl];simp;omega
  have hJ':∀ x∈n::l,D0 x.p:=fun x hx=>by
   rw [← enl] at hx;rcases zr.1 hx with hx|hx
   ·exact hJ x (yP _ hx)
   ·simp only [yS,zy,yy] at hx;rcases hx with e|e
    ·rw [e];exact hJ z (by simp)
    ·rw [e,hyp];exact hI'
  have hch2:=hch;rw [enl] at hch;have H:=b0a (p:=made z.p d.mv) (g:={ g with P:=P',cur:=M }) (G0:=G0) (b:=b') (cv:=.slice none 0 0) hI' hle' (hsuf b') hlen' hJ' w3 hT3 mv.game hrt hch mv.pos (by show P'≠G0;omega) zo h.mo
  refine H.mono fun r w' hr=>?_;obtain ⟨hr,m',o',hend,hgb,hfr⟩:=hr;rw [← enl,hpos',hyp] at hend;have kG:Kp [] w3 w':=Kp.fr hfr fun k hk=>by rw [zY.1 hk];exact .inr ⟨_,_,mv.game⟩
  have hlt:=h.chn.lt;refine ⟨hr,{ g with P:=P',cur:=M,out:=o',meth:=m' },y,⟨hgb,hyM.symm,hyP.symm,?_,?_,hykid,?_,?_,?_,?_⟩,hyM,by rw [hy],by rw [hy],hyp,by rw [hyP];exact sP,by rw [hy],by rw [hyp];exact hend,?_,rfl,by rw [hy]⟩
  ·exact ⟨n,l,by rw [yG];exact enl,hrt⟩
  ·rw [yG];exact Chn.kp kG hch2 fun n _=>n.off_nil
  ·intro x hx;rw [hyM];rcases zr.1 hx with hx|hx
   ·exact hoff x (yP _ hx)
   ·rw [zY.1 hx];refine ⟨hz.M,hz.P,hz.b,hz.cv,fun k hk e=>?_⟩;have:=(mv.row.own e).1;rw [zY.1 hk] at this;omega
  ·rw [hy];intro e;cases e
  ·intro x hx;rw [hyP];rcases zr.1 hx with hx|hx
   ·have:=(hlt x (yP _ hx)).P;omega
   ·rw [zY.1 hx];have:z.P<w.heap.size:=(hlt z (by simp)).P
    show z.P≠P';omega
  ·exact b0b hend h.mo
  ·rw [← hcur];exact mv.fr.trans (hfr.mono (by simp))
 refine Go.Calls.mono (b9a hI hN hm htg w hT hP h.hb hnode h.kids hM hO hcM ?_ ?_ ?_ ?_ ?_ hOM hev) ?_
 ·intro e;exact hz.P (by rw [← hpos,e];exact zY.2 rfl)
 ·exact F9 hP.hd hnode zd
 ·intro e;exact hz.b (by rw [e];exact zY.2 rfl)
 ·exact F9 hP.bd hnode zd
 ·intro k hk;rcases yS.1 hk with e|e
  ·rw [e];exact hz.cv M (zY.2 rfl)
  ·rw [zY.1 e];exact hzc
 ·rintro r w' ⟨hr,P',b',kv,w3,mv,g',y,hh⟩;exact ⟨hr,g',kv,y,hh⟩
end
