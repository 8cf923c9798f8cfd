/- One part of the proof: Pk20 Pk21 Pk22 Pk23 Pk24 Pk25 Pk26 Pk27 Pk28 Pk29 Pk30. -/
import Derived.Test.YtpclhlhcegcflaaGreatDoorM1
import Derived.Test.YtpclhlhcegcflaaGreatDoorM3
import Derived.Test.YtpclhlhcegcflaaGreatDoorM9
import Derived.Test.YtpclhlhcegcflaaGreatDoorM13
import Derived.Test.YtpclhlhcegcflaaGreatDoorM19
namespace Go.Proofs.YtpclhlhcegcflaaGreatDoor
set_option maxRecDepth 100000
set_option linter.unusedSimpArgs false
set_option linter.unusedVariables false
section
open Go Go.RowKit
open E
open Ch Bb
section nd
variable {M t:Nat} {d:Nd} {w:World} {fz:Nat×Nat} (hM:w.heap[M]?=some (.cells (F0 d) t fz))
include hM
theorem b8C:Calls G.P 140 #[.pointer (some ⟨M,0,none⟩)] w (D5 (.int .i8 d.mv.fr) w):=by
 refine zN Tryz.func140 ?_;refine zR ?_;refine d7 _ (b31 hM) (zR ?_);exact ⟨rfl,rfl⟩
theorem c2g:Calls G.P 141 #[.pointer (some ⟨M,0,none⟩)] w (D5 (.int .i8 d.mv.to) w):=by
 refine zN Tryz.func141 ?_;refine zR ?_;refine d7 _ (b32 hM) (zR ?_);exact ⟨rfl,rfl⟩
theorem a98:Calls G.P 142 #[.pointer (some ⟨M,0,none⟩)] w (D5 (.int .i8 d.mv.promo) w):=by
 refine zN Tryz.func142 ?_;refine zR ?_;refine d7 _ (a7q hM) (zR ?_);exact ⟨rfl,rfl⟩
end nd
section hd
variable {b P t:Nat} {h:Hd} {cv:Value} {w:World} {fz:Nat×Nat} (hP:w.heap[P]?=some (.cells (hdA b h cv) t fz))
include hP
theorem a99:Calls G.P 149 #[.pointer (some ⟨P,0,none⟩)] w (D5 (.pointer (some ⟨b,0,none⟩)) w):=by
 refine zN Tryz.func149 ?_;refine zR ?_;refine d7 _ (a7o hP) (zR ?_);exact ⟨rfl,rfl⟩
end hd
theorem b8D (p:A3) (l:List PM) (m:Mv):(s1M p l m).length≤2:=by
 unfold s1M;split
 ·simp
 ·simp only [List.length_append];split<;>split<;>simp [A7,F7]
theorem a8K (p:A3) (m:Mv) (t:Nat):(signM p m t).length≤1:=by unfold signM;(repeat' split)<;>simp
theorem Y9 {M t:Nat} {d:Nd} {w:World} {fz:Nat×Nat} (hM:w.heap[M]?=some (.cells (F0 d) t fz)) (h64:d.tags<64) (k:Nat) (hk:k<6) (n:Int) (hn:n=((2^k:Nat):Int)):Calls G.P 147 #[.pointer (some ⟨M,0,none⟩),.int .u16 n] w (D5 (.bool (d.tags.testBit k)) w):=by
 rw [hn];exact a1w zo zo w hM
set_option maxHeartbeats 2000000 in
theorem b0X {p:A3} (hI:B7 p) (hN:a1z p) (hle:(z8 p).length≤218) {d:Nd} {P b M:Nat} {ad:Addr} {n0 c0:Nat} (hm:d.mv∈y8 p) {ck:Bool} (hck:inCheck (made p d.mv)=true→ck=true) (htg:(d.tags:Int)=F6 p d.mv+(if ck then 16 else 0)) (w:World) (hT:C1 w) (hP:H0 w P b p (.slice (some ad) n0 c0))
  (hM:w.heap[M]?=some (.cells (F0 d) 141 (0,0))) :
  Calls G.P 104 #[.agg #[],.pointer (some ⟨P,0,none⟩),.pointer (some ⟨M,0,none⟩)] w (K4 (s8 (b6J p d.mv d.tags)) w):=by
 obtain ⟨_,_,h64⟩:=a0s htg;obtain ⟨f0,f1,t0,t1,hpm⟩:=L4 hI hm;obtain ⟨fr,hfr⟩:=Int.eq_ofNat_of_zero_le f0;have hf64:fr<64:=by omega
 have pc:=fun w hT hB=>W2 (mbOf p) b (t:=237) (fz:=(0,0)) fr hf64 w hT hB;rw [T8 hI.pc hf64,← hfr] at pc;have hpr:=hI.pc d.mv.fr;have ety:=fun w=>a0C (sq p d.mv.fr) hpr.1 hpr.2 w;have hchk:=fun (w:World) hT hP hM=>a3d hI hN (P:=P) (b:=b) (M:=M) (cv:=.slice (some ad) n0 c0) (d:=d) hm hck htg w hT hP hM;have hfs:=fun (w:World) hT hP hM=>b6P hI hle (P:=P) (b:=b) (M:=M) (t:=141) (fz:=(0,0)) (ad:=ad) (n0:=n0) (c0:=c0) (d:=d) f0 f1 w hT hP hM;have htoT:Y7 d.mv.to=A7 d.mv.to++F7 d.mv.to:=by unfold Y7;rw [if_neg zo]
 have hk0:0≤kindOf (sq p d.mv.fr)∧kindOf (sq p d.mv.fr)≤6:=by unfold kindOf;split<;>omega
 have hs6:kindOf (sq p d.mv.fr)=6→s1M p (N0 p) d.mv=[]:=fun h=>by unfold s1M;rw [if_pos h]
 have hsan:b6J p d.mv d.tags=if d.tags.testBit 0 then [79,45,79]++signM p d.mv d.tags else if d.tags.testBit 1 then [79,45,79,45,79]++signM p d.mv d.tags
  else A1 (kindOf (sq p d.mv.fr))++s1M p (N0 p) d.mv++(if d.tags.testBit 2||d.tags.testBit 3 then (if kindOf (sq p d.mv.fr)=6 then A7 d.mv.fr else [])++[120] else [])++Y7 d.mv.to++(if d.mv.promo=0 then [] else [61]++A1 d.mv.promo)++signM p d.mv d.tags:=rfl
 rw [hsan];clear hsan;have gl:=a8K p d.mv d.tags;have sl:=b8D p (N0 p) d.mv;have ll:(A1 (kindOf (sq p d.mv.fr))).length≤1:=L7 _;have pl:(A1 d.mv.promo).length≤1:=L7 _;have el:=fun w=>a4R (kindOf (sq p d.mv.fr)) hk0.1 hk0.2 w;have ep:=fun w=>a4R d.mv.promo zo zo w;generalize signM p d.mv d.tags=SG at *;generalize s1M p (N0 p) d.mv=S1 at *;generalize kindOf (sq p d.mv.fr)=KD at *;refine zN Tryz.func104 ?_;refine zR ?_;have cb:=Cl.alloc w (.cells #[] 149);generalize w.alloc (.cells #[] 149)=wb at *;refine m9 (hchk wb (hT.cl cb) (hP.step cb) (cb.blk hM)) fun w1 c1=>?_;have cw1:=cb.trans c1;have hM1:=cw1.blk hM;refine zR ?_;refine d9 (Y9 hM1 h64 0 zd _ rfl) ?_;cases hb0:d.tags.testBit 0;rotate_left
 ·refine zR ?_;refine E.y6 (v8 (x:=[79,45,79]) (y:=SG) (by simp;omega)) (zR ?_)
  exact ⟨D9 (A2 [79,45,79] SG),cw1⟩
 refine zR ?_;refine d9 (Y9 hM1 h64 1 zd _ rfl) ?_;cases hb1:d.tags.testBit 1;rotate_left
 ·refine zR ?_;refine E.y6 (v8 (x:=[79,45,79,45,79]) (y:=SG) (by simp;omega)) (zR ?_)
  exact ⟨D9 (A2 [79,45,79,45,79] SG),cw1⟩
 refine zR ?_;refine t7 _ b6l ?_;have cA:=Cl.alloc w1 (.cells (Value.agg #[.pointer none,.slice none 0 0]).cells 160);have nA:=q8 w1 (.cells (Value.agg #[.pointer none,.slice none 0 0]).cells 160);generalize w1.alloc (.cells (Value.agg #[.pointer none,.slice none 0 0]).cells 160)=w2 at *;refine zR ?_;refine o8 (a96 nA) ?_;rintro r w3 ⟨rfl,u3⟩;refine ⟨_,rfl,?_⟩;have hb3:Bld w1 w1.heap.size [] w3:=Bld.fresh ((Tn.upd u3).toCl cA (Nat.le_refl _)) (Nat.le_refl _) u3.at_;have cw3:=cw1.trans hb3.cl;refine zR ?_;refine d9 (a99 (hP.step cw3).hd) (zR ?_);refine d9 (b8C (cw3.blk hM)) (zR ?_);refine d9 (pc _ (hT.cl cw3) (hP.step cw3).bd) (zG ?_);refine A4 (σ:=Unit) [10] 12 (fun _=>[]) (fun _ w'=>Bld w1 w1.heap.size (A1 KD) w') zk ?_ (fun _ j w4 h4=>?_)
 ·refine zR ?_;refine d9 (ety _) (zR ?_);refine d9 (el _) ?_;rcases kinds hk0.1 hk0.2 with rfl | rfl | rfl | rfl | rfl | rfl | rfl<;>(refine zR ?_)<;>first
   | exact ⟨(),trivial,hb3⟩
   | (refine o8 (D7 (A1 _) hb3 zd (by rw [A1];decide)) ?_
      rintro r w4 ⟨rfl,h4⟩;refine ⟨_,rfl,?_⟩;refine zR ?_;exact ⟨(),trivial,h4⟩)
 have cw4:=cw1.trans h4.cl;refine A4 (σ:=Unit) [11] 12 (fun _=>[]) (fun _ w'=>Bld w1 w1.heap.size (A1 KD++S1) w') zk ?_ (fun _ j w5 h5=>?_)
 ·refine zR ?_;refine m9 (hfs _ (hT.cl cw4) (hP.step cw4) (cw4.blk hM)) fun w5 c5=>?_;have h5:=h4.step c5;refine zR ?_;apply E.r9<;>intro h
  ·refine zR ?_;refine o8 (D7 S1 h5 zo zo) ?_;rintro r w6 ⟨rfl,h6⟩;refine ⟨_,rfl,?_⟩;refine zR ?_;exact ⟨(),trivial,h6⟩
  ·have e:S1=[]:=by rw [a0E] at h;exact a0p.1 h
   refine zR ?_;exact ⟨(),trivial,by rw [e,List.append_nil];exact h5⟩
 have cw5:=cw1.trans h5.cl;have hM5:=cw5.blk hM;have hl5:(A1 KD++S1).length≤3:=by rw [List.length_append];omega
 refine A4 (σ:=Unit) [] 12 (fun _=>[]) (fun _ w'=>Bld w1 w1.heap.size ((A1 KD++S1)++(if d.tags.testBit 2||d.tags.testBit 3 then (if KD=6 then A7 d.mv.fr else [])++[120] else [])) w') zk ?_ (fun _ j w6 h6=>?_)
 ·have tg2:=Y9 hM5 h64 2 zd 4 rfl;have tg3:=Y9 hM5 h64 3 zd 8 rfl;cases hb2:d.tags.testBit 2
  ·rw [hb2] at tg2;refine zR ?_;refine d9 tg2 (zR ?_);cases hb3':d.tags.testBit 3
   ·rw [hb3'] at tg3;refine d9 tg3 (zR ?_);exact ⟨(),trivial,by simpa using h5⟩
   ·rw [hb3'] at tg3;refine d9 tg3 (zR ?_);refine d9 (ety _) ?_;by_cases hk:KD=6
    ·subst hk;have e:A1 6++S1=[]:=by rw [hs6 rfl];rfl
     rw [e] at h5 ⊢;refine zR ?_;refine d9 (b9x h5) (zR ?_);refine a3C hM5 (zR ?_);refine d9 (a0L d.mv.fr f0 f1 _) (zR ?_);refine d9 (b20 (d.mv.fr%8) zo zo _) (zR ?_);refine o8 (D7 (A7 d.mv.fr) h5 zd (by rw [a8I];decide)) ?_
     rintro r w6 ⟨rfl,h6⟩;refine ⟨_,rfl,?_⟩;refine zR ?_;refine o8 (D7 [120] h6 (by simp [A7]) zd) ?_
     rintro r w7 ⟨rfl,h7⟩;refine ⟨_,rfl,?_⟩;refine zR ?_;exact ⟨(),trivial,h7⟩
    ·refine zR ?_;refine E.o7 hk (zR ?_);repeat (refine E.o7 hk ?_;refine zR ?_)
     refine o8 (D7 [120] h5 zo zd) ?_;rintro r w7 ⟨rfl,h7⟩;refine ⟨_,rfl,?_⟩;refine zR ?_;exact ⟨(),trivial,by rw [if_neg hk];exact h7⟩
  ·rw [hb2] at tg2;refine zR ?_;refine d9 tg2 (zR ?_);refine d9 (ety _) ?_;by_cases hk:KD=6
   ·subst hk;have e:A1 6++S1=[]:=by rw [hs6 rfl];rfl
    rw [e] at h5 ⊢;refine zR ?_;refine d9 (b9x h5) (zR ?_);refine a3C hM5 (zR ?_);refine d9 (a0L d.mv.fr f0 f1 _) (zR ?_);refine d9 (b20 (d.mv.fr%8) zo zo _) (zR ?_);refine o8 (D7 (A7 d.mv.fr) h5 zd (by rw [a8I];decide)) ?_
    rintro r w6 ⟨rfl,h6⟩;refine ⟨_,rfl,?_⟩;refine zR ?_;refine o8 (D7 [120] h6 (by simp [A7]) zd) ?_
    rintro r w7 ⟨rfl,h7⟩;refine ⟨_,rfl,?_⟩;refine zR ?_;exact ⟨(),trivial,h7⟩
   ·refine zR ?_;refine E.o7 hk (zR ?_);repeat (refine E.o7 hk ?_;refine zR ?_)
    refine o8 (D7 [120] h5 zo zd) ?_;rintro r w7 ⟨rfl,h7⟩;refine ⟨_,rfl,?_⟩;refine zR ?_;exact ⟨(),trivial,by rw [if_neg hk];exact h7⟩
 have cw6:=cw1.trans h6.cl;have hM6:=cw6.blk hM;have hl6:((A1 KD++S1)++(if d.tags.testBit 2||d.tags.testBit 3 then (if KD=6 then A7 d.mv.fr else [])++[120] else [])).length≤5:=by
  rw [List.length_append];have:(if d.tags.testBit 2||d.tags.testBit 3 then (if KD=6 then A7 d.mv.fr else [])++[120] else []).length≤2:=by (repeat' split)<;>simp [A7]
  omega
 generalize (A1 KD++S1)++(if d.tags.testBit 2||d.tags.testBit 3 then (if KD=6 then A7 d.mv.fr else [])++[120] else [])=L at *
 refine zR ?_;refine a5x hM6 (zR ?_);refine d9 (a4Q d.mv.to t0 t1 _) (zR ?_);refine o8 (D7 (A7 d.mv.to++F7 d.mv.to) h6 zo (by simp [A7,F7])) ?_
 rintro r w7 ⟨rfl,h7⟩;rw [← htoT] at h7;refine ⟨_,rfl,?_⟩;have hl7:(L++Y7 d.mv.to).length≤7:=by rw [List.length_append,htoT];simp [A7,F7];omega
 have hM7:=(cw1.trans h7.cl).blk hM;refine zG ?_;refine A4 (σ:=Unit) [] 12 (fun _=>[]) (fun _ w'=>Bld w1 w1.heap.size (L++Y7 d.mv.to++(if d.mv.promo=0 then [] else [61]++A1 d.mv.promo)) w') zk ?_ (fun _ j w8 h8=>?_)
 ·refine zR ?_;refine a3u hM7 (zR ?_);apply E.r9<;>intro h
  ·refine zR ?_;refine o8 (D7 [61] h7 zo zd) ?_;rintro r w8 ⟨rfl,h8⟩;refine ⟨_,rfl,?_⟩;have hM8:=(cw1.trans h8.cl).blk hM;refine zR ?_;refine a3u hM8 (zR ?_);refine d9 (ep _) (zR ?_);refine o8 (D7 (A1 d.mv.promo) h8 (by rw [List.length_append,List.length_singleton];omega) zo) ?_
   rintro r w9 ⟨rfl,h9⟩;refine ⟨_,rfl,?_⟩;refine zR ?_;exact ⟨(),trivial,by rw [if_neg h,← List.append_assoc];exact h9⟩
  ·refine zR ?_;exact ⟨(),trivial,by rw [if_pos h,List.append_nil];exact h7⟩
 have cw8:=cw1.trans h8.cl;have hl8:(L++Y7 d.mv.to++(if d.mv.promo=0 then [] else [61]++A1 d.mv.promo)).length≤9:=by
  rw [List.length_append];have:(if d.mv.promo=0 then [] else [61]++A1 d.mv.promo).length≤2:=by split<;>simp;omega
  omega
 refine zR ?_;refine m9 (hchk _ (hT.cl cw8) (hP.step cw8) (cw8.blk hM)) fun w9 c9=>zR ?_;refine o8 (D7 SG (h8.step c9) zo zo) ?_;rintro r w10 ⟨rfl,h10⟩;refine ⟨_,rfl,?_⟩;refine zR ?_;refine o8 (a1t h10) ?_;rintro r w11 ⟨rfl,c11⟩;refine ⟨_,rfl,?_⟩;refine zR ?_;exact ⟨rfl,cw1.trans c11⟩
theorem b0Y {w:World} {b:Nat} {p v:Value} (hp:p = .pointer none∨p = .pointer (some ⟨b,0,none⟩)) (hk:w.heap[b]?=some (.cells #[p,v] 160 (0,0))) :
  Calls G.P 183 #[.pointer (some ⟨b,0,none⟩)] w (fun r w'=>r = .returned (.tuple #[])∧Upd w b (.cells #[.pointer (some ⟨b,0,none⟩),v] 160 (0,0)) w'):=by
 rcases hp with rfl | rfl
 ·refine (Any.Builder_copyCheck_fresh Tryz.lays240 Tryz.Builder_Extra_240.toX72 b w (by rw [C8 hk];rfl) (by simp [World.shape?,hk];rfl) (by simp [World.frozen?,hk])).mono ?_
  rintro r w' ⟨h1,h2⟩;refine ⟨h1,?_⟩;rw [h2];exact a5j [.pointer (some ⟨b,0,none⟩)] w b 0 _ _ _ hk
 ·refine (Any.Builder_copyCheck_used Tryz.lays240 Tryz.Builder_Extra_240.toX72 b w (by rw [C8 hk];rfl)).mono ?_
  rintro r w' ⟨h1,h2⟩;subst h2;exact ⟨h1,rfl,rfl,rfl,rfl,hk,fun _ _=>rfl⟩
theorem b0Z {b0:Nat} {w:World} {v:Value} {l:Tx}:Row 5 1 a0r b0 w v l↔w.ownsRow b0 5 1 v (Lib.byteCells l).length (Lib.byteCells l):=by
 unfold Row;rw [b6I,Lib.byteCells_length]
theorem Row.updT {α:Type} {enc:α→List Value} {e z b0 b T:Nat} {w w':World} {v:Value} {l:List α} {o:Obj} {cs:Array Value} {fz:Nat×Nat} (h:Row e z enc b0 w v l) (u:Upd w b o w') (hb:w.heap[b]?=some (.cells cs T fz)) (hT:T≠e):Row e z enc b0 w' v l:=by
 refine ⟨h.1,?_⟩;rcases h.2 with h2 | ⟨g,cap,cur,h1,h2,h3,h4⟩
 ·exact .inl h2
 ·refine .inr ⟨g,cap,cur,h1,h2,(Tn.upd u).blk h3 (fun e=>?_),h4⟩;subst e;rw [hb] at h3;injection h3 with h3;injection h3 with _ h3 _;exact hT h3
theorem a9A {w0 w:World} {b b1:Nat} {l s:Tx} {vs:Value} (h:Bld w0 b l w) (hr:Row 5 1 a0r b1 w vs s) (hl:l.length+s.length≤100000) :
  Calls G.P 160 #[.pointer (some ⟨b,0,none⟩),vs] w (fun r w'=>r = .returned (.tuple #[.int .i64 s.length,.nilIface])∧Bld w0 b (l++s) w'):=by
 obtain ⟨p,hp,hB,v,hk,hown,hne⟩:∃ p,(p = .pointer none∨p = .pointer (some ⟨b,0,none⟩))∧Lib.BuilderAt 160 5 w0.heap.size b p (Lib.byteCells l) w:=by
  rcases h.is with h | h
  ·exact ⟨_,.inl rfl,h⟩
  ·exact ⟨_,.inr rfl,h⟩
 obtain ⟨a,c,rfl,ha⟩:=hr.form;refine zN Tryz.func160 ?_;refine zR ?_;refine o8 (b0Y hp hk) ?_;rintro r w1 ⟨rfl,u1⟩;refine ⟨_,rfl,?_⟩;have hv0:Row 5 1 a0r w0.heap.size w v l:=b0Z.2 hown;have hv:Row 5 1 a0r w0.heap.size w1 v l:=hv0.updT u1 hk zd;have hs:Row 5 1 a0r b1 w1 (.slice a s.length c) s:=hr.updT u1 hk zd;obtain ⟨av,cv,rfl,hav⟩:=hv.form;refine zR ?_;refine d7 _ (W1 u1.at_ rfl rfl) (zR ?_);refine J2 O3 (l:=l) (news:=s) rfl hv rfl hs K9 a3a hl zd (by rw [u1.size];exact h.cl.size) fun v' w2 hr2 hg=>?_
 obtain ⟨a9,c9,rfl,_⟩:=hr2.form;have hk2:w2.heap[b]?=some (.cells #[.pointer (some ⟨b,0,none⟩),.slice av l.length cv] 160 (0,0)):=hg.keep b _ u1.at_ hne;refine zR ?_;refine zT hk2 [.slice a9 (l++s).length c9] fun w3 u3=>?_;refine zR ?_;have hbl:b<w1.heap.size:=(Array.getElem?_eq_some_iff.1 u1.at_).1;have c1:Cl w0 w1:=(Tn.upd u1).toCl h.cl hB;have c2:Cl w0 w2:=hg.cl w0 rfl c1;exact ⟨rfl,.inr ⟨hB,_,u3.at_,by have:=b0Z.1 (hr2.updT u3 hk2 zd);rwa [Lib.byteCells_length] at this ⊢,hg.ne hbl hne⟩,(Tn.upd u3).toCl c2 hB⟩
theorem a8L (k:Int):(a3J k).length≤1:=by unfold a3J;(repeat' split)<;>simp
theorem b1a {P M t:Nat} {d:Nd} {fz:Nat×Nat} (f0:0≤d.mv.fr) (f1:d.mv.fr≤63) (t0:0≤d.mv.to) (t1:d.mv.to≤63) (hp:0≤d.mv.promo∧d.mv.promo≤6) (w:World) (hM:w.heap[M]?=some (.cells (F0 d) t fz)) (x:Value) (hx:x = .pointer (some ⟨P,0,none⟩)) :
  Calls G.P 106 #[.agg #[],x,.pointer (some ⟨M,0,none⟩)] w (K4 (s8 (b4g d.mv)) w):=by
 subst hx;have htoT:Y7 d.mv.to=A7 d.mv.to++F7 d.mv.to:=by unfold Y7;rw [if_neg zo]
 have hfrT:Y7 d.mv.fr=A7 d.mv.fr++F7 d.mv.fr:=by unfold Y7;rw [if_neg zo]
 have hu:b4g d.mv=Y7 d.mv.fr++Y7 d.mv.to++(if d.mv.promo=0 then [] else a3J d.mv.promo):=by
  unfold b4g;by_cases e:d.mv.promo=0
  ·rw [if_pos e,if_neg zo]
  ·rw [if_neg e,if_pos zo]
 rw [hu];clear hu;have sl:=a8L d.mv.promo;refine zN Tryz.func106 ?_;refine zR ?_;have cb:=Cl.alloc w (.cells #[] 151);generalize w.alloc (.cells #[] 151)=w1 at *;refine t7 _ b6l ?_;have cA:=Cl.alloc w1 (.cells (Value.agg #[.pointer none,.slice none 0 0]).cells 160);have nA:=q8 w1 (.cells (Value.agg #[.pointer none,.slice none 0 0]).cells 160);generalize w1.alloc (.cells (Value.agg #[.pointer none,.slice none 0 0]).cells 160)=w2 at *;refine zR ?_;refine o8 (a96 nA) ?_;rintro r w3 ⟨rfl,u3⟩;refine ⟨_,rfl,?_⟩;refine zR ?_;refine o8 (b2g (w0:=w1) 5 zd ((Tn.upd u3).toCl cA (Nat.le_refl _)) (Nat.le_refl _) u3.at_) ?_;rintro r w4 ⟨rfl,h4⟩;refine ⟨_,rfl,?_⟩;refine zR ?_;refine d9 (b8C ((cb.trans h4.cl).blk hM)) (zR ?_);refine o8 (a8J d.mv.fr f0 f1 _) ?_;rintro r w5 ⟨v5,rfl,hr5,c5⟩;obtain ⟨a5,k5,rfl,_⟩:=hr5.form;refine ⟨_,rfl,?_⟩;refine zR ?_;refine o8 (a9A (h4.step c5) hr5 (by simp [A7,F7])) ?_
 rintro r w6 ⟨rfl,h6⟩;refine ⟨_,rfl,?_⟩;rw [List.nil_append,← hfrT] at h6;refine zR ?_;refine d9 (c2g ((cb.trans h6.cl).blk hM)) (zR ?_);refine o8 (a8J d.mv.to t0 t1 _) ?_;rintro r w7 ⟨v7,rfl,hr7,c7⟩;obtain ⟨a7,k7,rfl,_⟩:=hr7.form;refine ⟨_,rfl,?_⟩;refine zR ?_;refine o8 (a9A (h6.step c7) hr7 (by rw [hfrT];simp [A7,F7])) ?_
 rintro r w8 ⟨rfl,h8⟩;refine ⟨_,rfl,?_⟩;rw [← htoT] at h8;have hM8:=(cb.trans h8.cl).blk hM;refine zR ?_;refine d9 (a98 hM8) (zR ?_);apply E.r9<;>intro h
 ·refine zR ?_;refine d9 (a98 hM8) (zR ?_);refine o8 (b4I d.mv.promo hp.1 hp.2 _) ?_;rintro r w9 ⟨v9,rfl,hr9,c9⟩;obtain ⟨a9,k9,rfl,_⟩:=hr9.form;refine ⟨_,rfl,?_⟩;refine zR ?_;refine o8 (a9A (h8.step c9) hr9 (by rw [hfrT,htoT];simp [A7,F7];omega)) ?_
  rintro r w10 ⟨rfl,h10⟩;refine ⟨_,rfl,?_⟩;refine zR ?_;refine o8 (a1t h10) ?_;rintro r w11 ⟨rfl,c11⟩;refine ⟨_,rfl,?_⟩;refine zR ?_;exact ⟨by rw [if_neg h];rfl,cb.trans c11⟩
 ·refine zR ?_;refine o8 (a1t h8) ?_;rintro r w11 ⟨rfl,c11⟩;refine ⟨_,rfl,?_⟩;refine zR ?_;exact ⟨by rw [if_pos h,List.append_nil];rfl,cb.trans c11⟩
set_option maxHeartbeats 2000000 in
theorem b1b {p:A3} (hI:B7 p) (hN:a1z p) (hle:(z8 p).length≤218) {d:Nd} {P b M:Nat} {ad:Addr} {n0 c0:Nat} (hm:d.mv∈y8 p) {ck:Bool} (hck:inCheck (made p d.mv)=true→ck=true) (htg:(d.tags:Int)=F6 p d.mv+(if ck then 16 else 0)) (w:World) (hT:C1 w) (hP:H0 w P b p (.slice (some ad) n0 c0))
  (hM:w.heap[M]?=some (.cells (F0 d) 141 (0,0))) :
  Calls G.P 105 #[.agg #[],.pointer (some ⟨P,0,none⟩),.pointer (some ⟨M,0,none⟩)] w (K4 (s8 (b87 p d.mv d.tags)) w):=by
 obtain ⟨_,_,h64⟩:=a0s htg;obtain ⟨f0,f1,t0,t1,hpm⟩:=L4 hI hm;obtain ⟨fr,hfr⟩:=Int.eq_ofNat_of_zero_le f0;have hf64:fr<64:=by omega
 have pc:=fun w hT hB=>W2 (mbOf p) b (t:=237) (fz:=(0,0)) fr hf64 w hT hB;rw [T8 hI.pc hf64,← hfr] at pc;have hpr:=hI.pc d.mv.fr;have ety:=fun w=>a0C (sq p d.mv.fr) hpr.1 hpr.2 w;have hchk:=fun (w:World) hT hP hM=>a3d hI hN (P:=P) (b:=b) (M:=M) (cv:=.slice (some ad) n0 c0) (d:=d) hm hck htg w hT hP hM;have hfrT:Y7 d.mv.fr=A7 d.mv.fr++F7 d.mv.fr:=by unfold Y7;rw [if_neg zo]
 have htoT:Y7 d.mv.to=A7 d.mv.to++F7 d.mv.to:=by unfold Y7;rw [if_neg zo]
 have hk0:0≤kindOf (sq p d.mv.fr)∧kindOf (sq p d.mv.fr)≤6:=by unfold kindOf;split<;>omega
 have hsan:b87 p d.mv d.tags=if d.tags.testBit 0 then [79,45,79]++signM p d.mv d.tags else if d.tags.testBit 1 then [79,45,79,45,79]++signM p d.mv d.tags
  else A1 (kindOf (sq p d.mv.fr))++Y7 d.mv.fr++(if d.tags.testBit 2||d.tags.testBit 3 then [120] else [])++Y7 d.mv.to++(if d.mv.promo=0 then [] else [61]++A1 d.mv.promo)++signM p d.mv d.tags:=rfl
 rw [hsan];clear hsan;have gl:=a8K p d.mv d.tags;have ll:(A1 (kindOf (sq p d.mv.fr))).length≤1:=L7 _;have pl:(A1 d.mv.promo).length≤1:=L7 _;have el:=fun w=>a4R (kindOf (sq p d.mv.fr)) hk0.1 hk0.2 w;have ep:=fun w=>a7B d.mv.promo zo w;generalize signM p d.mv d.tags=SG at *;generalize kindOf (sq p d.mv.fr)=KD at *;refine zN Tryz.func105 ?_;refine zR ?_;have cb:=Cl.alloc w (.cells #[] 150);generalize w.alloc (.cells #[] 150)=wb at *;refine m9 (hchk wb (hT.cl cb) (hP.step cb) (cb.blk hM)) fun w1 c1=>?_;have cw1:=cb.trans c1;have hM1:=cw1.blk hM;refine zR ?_;refine d9 (Y9 hM1 h64 0 zd _ rfl) ?_;cases hb0:d.tags.testBit 0;rotate_left
 ·refine zR ?_;refine E.y6 (v8 (x:=[79,45,79]) (y:=SG) (by simp;omega)) (zR ?_)
  exact ⟨D9 (A2 [79,45,79] SG),cw1⟩
 refine zR ?_;refine d9 (Y9 hM1 h64 1 zd _ rfl) ?_;cases hb1:d.tags.testBit 1;rotate_left
 ·refine zR ?_;refine E.y6 (v8 (x:=[79,45,79,45,79]) (y:=SG) (by simp;omega)) (zR ?_)
  exact ⟨D9 (A2 [79,45,79,45,79] SG),cw1⟩
 refine zR ?_;refine d9 (a99 (hP.step cw1).hd) (zR ?_);refine d9 (b8C hM1) (zR ?_);refine d9 (pc _ (hT.cl cw1) (hP.step cw1).bd) (zR ?_);refine d9 (ety _) (zR ?_);refine d9 (el _) (zR ?_);refine a3C hM1 (zR ?_);refine d9 (a4Q d.mv.fr f0 f1 _) ?_;rw [← hfrT];refine zG ?_;refine Nx.mk (zG ?_);refine A4 (σ:=Unit) [11] 13 (fun _=>[(11,s8 (if d.tags.testBit 2||d.tags.testBit 3 then [120] else []))]) (fun _ w'=>w'=w1) zk ?_ (fun _ j w2 e2=>?_)
 ·have tg2:=Y9 hM1 h64 2 zd 4 rfl;have tg3:=Y9 hM1 h64 3 zd 8 rfl;have hne:¬ (tx (Y7 d.mv.fr)=⟨#[]⟩):=by
   intro e;rw [a0E,a0p,hfrT] at e;cases e
  cases hb2:d.tags.testBit 2
  ·rw [hb2] at tg2;refine zR ?_;refine d9 tg2 (zR ?_);cases hb3':d.tags.testBit 3
   ·rw [hb3'] at tg3;refine d9 tg3 (zR ?_);exact ⟨(),⟨rfl,trivial⟩,rfl⟩
   ·rw [hb3'] at tg3;refine d9 tg3 (zR ?_);refine d9 (ety _) (zR ?_);apply E.b7<;>intro h
    ·have hk:=h;refine zR ?_;refine E.o7 hne (zR ?_);exact ⟨(),⟨rfl,trivial⟩,rfl⟩
    ·refine zR ?_;repeat (refine E.o7 h ?_;refine zR ?_)
     exact ⟨(),⟨rfl,trivial⟩,rfl⟩
  ·rw [hb2] at tg2;refine zR ?_;refine d9 tg2 (zR ?_);refine d9 (ety _) (zR ?_);apply E.b7<;>intro h
   ·have hk:=h;refine zR ?_;refine E.o7 hne (zR ?_);exact ⟨(),⟨rfl,trivial⟩,rfl⟩
   ·refine zR ?_;repeat (refine E.o7 h ?_;refine zR ?_)
    exact ⟨(),⟨rfl,trivial⟩,rfl⟩
 subst e2;have xl:(if d.tags.testBit 2||d.tags.testBit 3 then ([120]:Tx) else []).length≤1:=by split<;>simp
 generalize (if d.tags.testBit 2||d.tags.testBit 3 then ([120]:Tx) else [])=XC at *
 refine zR ?_;refine a3u hM1 (zR ?_);refine d9 (ep _) ?_;have prl:(if d.mv.promo=0 then [] else [61]++A1 d.mv.promo).length≤2:=by split<;>simp;omega
 generalize (if d.mv.promo=0 then [] else [61]++A1 d.mv.promo)=PR at *
 have q1:(Y7 d.mv.fr).length=2:=by rw [hfrT];rfl
 have q2:(Y7 d.mv.to).length=2:=by rw [htoT];rfl
 refine zR ?_;refine E.y6 (v8 (x:=A1 KD) (y:=Y7 d.mv.fr) zo) ?_;rw [A2];refine zR ?_;refine E.y6 (v8 (x:=A1 KD++Y7 d.mv.fr) (y:=XC) (by rw [List.length_append];omega)) ?_
 rw [A2];refine zR ?_;refine a5x hM1 (zR ?_);refine d9 (a4Q d.mv.to t0 t1 _) ?_;rw [← htoT];refine zR ?_;refine E.y6 (v8 (x:=A1 KD++Y7 d.mv.fr++XC) (y:=Y7 d.mv.to) (by simp only [List.length_append];omega)) ?_
 rw [A2];refine zR ?_;refine E.y6 (v8 (x:=A1 KD++Y7 d.mv.fr++XC++Y7 d.mv.to) (y:=PR) (by simp only [List.length_append];omega)) ?_
 rw [A2];refine zR ?_;refine E.y6 (v8 (x:=A1 KD++Y7 d.mv.fr++XC++Y7 d.mv.to++PR) (y:=SG) (by simp only [List.length_append];omega)) ?_
 rw [A2];refine zR ?_;exact ⟨rfl,cw1⟩
theorem a9B (f r:Nat) (f1:f<8) (r1:r<8) (w:World):Calls G.P 167 #[.int .i8 f,.int .i8 r] w (D5 (.int .i8 ((8*r+f:Nat):Int)) w):=by
 have:=a5V f r zo zo zo zo w;rw [show ((8*r+f:Nat):Int)=8*(r:Int)+f by push_cast;rfl];exact this
theorem a8M {t e z by_:Nat} (E1:G2 t e z by_) {l c:Operand} {k k':IntKind} (n:Nat) {dst:Option Nat} {ty:Nat} {pos:String} {af:Array Edge} {gd:Option (Nat×Bool)} {env:C0} {w:World} {K:Value→World→Prop}
  (hl:ev env l = .int k 0) (hc:ev env c = .int k' n) (hn:n≤100000) (hb:by_≤1000)
  (hk:∀ cs:Array Value,cs.size=n*z→K (.slice (some ⟨w.heap.size,0,none⟩) 0 n) (w.alloc (.cells cs e))):L5 G.P { dst,op:=.makeSlice t l c,type:=ty,pos,after:=af,guard:=gd } env w K:=by
 obtain ⟨i,zv,hi,hzv,hsz,hby,hzs⟩:=E1.info;have hle:n*by_≤100000*1000:=Nat.mul_le_mul hn hb;have hbb:(i.bytes:Int)*(n:Int)≤281474976710656:=by
  rw [hby];have e:(by_:Int)*(n:Int)=((n*by_:Nat):Int):=by push_cast;exact Int.mul_comm _ _
  rw [e];omega
 have:=run_make (P:=G.P) w t e i zv E1.ty hi hzv k k' 0 n zo zo hbb zo;simp only [Int.toNat_natCast] at this;refine ⟨.inl ⟨_,_,?_,hk (madeCells zv.cells (n*i.size)) (by rw [size_madeCells,hsz])⟩⟩
 show (do pure (Next.value (← Instr.makeSlice t (ev env l) (ev env c))):Sem Next).run G.P w=_
 rw [hl,hc,Sem.run_bind,this];rfl
theorem Row.zero {α:Type} {enc:α→List Value} {e z b0 g n:Nat} {w:World} {cs:Array Value} (hb:b0≤g) (h:w.heap[g]?=some (.cells cs e (0,0))) (hs:cs.size=n*z) (hn:n≤100000):Row e z enc b0 w (.slice (some ⟨g,0,none⟩) 0 n) ([]:List α) :=
 ⟨by simp,.inr ⟨g,n,cs,rfl,hb,h,Nat.zero_le _,by unfold maxLen;omega,hs,by simp⟩⟩
theorem b1c {e:Nat} (h0:0<e) (h8:e≤8):V6 e=[UInt8.ofNat (48+e)]:=by
 rcases (by omega:e=1∨e=2∨e=3∨e=4∨e=5∨e=6∨e=7∨e=8) with rfl | rfl | rfl | rfl | rfl | rfl | rfl | rfl<;>(unfold V6 dec;rfl)
theorem b8E {x:Int} (h0:1≤x) (h1:x≤12):∃ c,pcT x=[c]:=by
 rcases (by omega:x=1∨x=2∨x=3∨x=4∨x=5∨x=6∨x=7∨x=8∨x=9∨x=10∨x=11∨x=12) with rfl | rfl | rfl | rfl | rfl | rfl | rfl | rfl | rfl | rfl | rfl | rfl<;>exact ⟨_,rfl⟩
theorem b8F {w:World} (c:UInt8):Row 5 1 a0r w.heap.size (w.alloc (.cells (([Value.int .u8 (c.toNat:Int)]:List Value).flatMap fun v=>v.cells.toList).toArray 5)) (.slice (some ⟨w.heap.size,0,none⟩) 1 1) [c] :=
 H9 K9 w [c] (Nat.le_of_ble_eq_true rfl) [.int .u8 (c.toNat:Int)] rfl
theorem b9A {e:Nat} (h:e≤8):IntKind.u8.wrap (IntKind.i64.wrap (48+(e:Int)))=((UInt8.ofNat (48+e)).toNat:Int):=by
 rcases (by omega:e=0∨e=1∨e=2∨e=3∨e=4∨e=5∨e=6∨e=7∨e=8) with rfl | rfl | rfl | rfl | rfl | rfl | rfl | rfl | rfl<;>decide
set_option maxHeartbeats 1000000 in
theorem a0z {p:A3} (hp:∀ i:Int,0≤sq p i∧sq p i≤12) {b t:Nat} {fz:Nat×Nat} (w:World) (hT:C1 w) (hB:w.heap[b]?=some (.cells (mbA (mbOf p)) t fz)) :
  Calls G.P 164 #[.pointer (some ⟨b,0,none⟩)] w (K4 (s8 (boardT p 8)) w):=by
 refine zN Tryz.func164 ?_;refine zR ?_;refine a8M O3 71 rfl rfl zd zd fun cs hcs=>?_;have ca:=Cl.alloc w (.cells cs 5);have hr0:Row 5 1 a0r w.heap.size (w.alloc (.cells cs 5)) (.slice (some ⟨w.heap.size,0,none⟩) 0 71) ([]:Tx):=Row.zero (Nat.le_refl _) (q8 _ _) hcs zd;generalize w.alloc (.cells cs 5)=w1 at *;have hbl:=Y0 p 8;refine zR ?_;refine A9 (σ:=Int×Tx×Value) [3,4,5,6,7,8] 9 (fun s=>[(3,s.2.2),(4,.int .i64 0),(5,.int .i64 s.1)]) (fun s w'=>(-1≤s.1∧s.1≤7)∧s.2.1++(if 0≤s.1∧s.1<7 then [47] else [])++boardT p (s.1+1).toNat=boardT p 8∧Cl w w'∧Row 5 1 a0r w.heap.size w' s.2.2 s.2.1) (fun s=>(s.1+1).toNat) zk
  (7,[],_) ⟨⟨by show (-1:Int)≤7;decide,by show (7:Int)≤7;decide⟩,rfl,ca,hr0⟩ ⟨rfl,rfl,rfl,trivial⟩ ?_
 rintro ⟨r,l,v⟩ j w2 ⟨⟨hr1,hr7⟩,hl,c2,hrw⟩;simp only at hr1 hr7 hl c2 hrw ⊢;obtain ⟨a,k,rfl,_⟩:=hrw.form;have hlen:=congrArg List.length hl;simp only [List.length_append] at hlen;refine zR ?_;apply E.b7<;>intro h
 ·obtain ⟨S,rfl⟩:=Int.eq_ofNat_of_zero_le (show 0≤r by omega)
  have hS:S<8:=by omega
  clear h;have e1:((S:Int)+1).toNat=S+1:=by omega
  rw [e1] at hl hlen;have hll:l.length≤288:=by omega
  refine zG ?_;refine Nx.mk ?_;refine a9f ?_;refine b0e ?_;refine Nx.go ?_;refine A4 (σ:=Value) [3] 9 (fun v=>[(3,v)]) (fun v w'=>Cl w w'∧Row 5 1 a0r w.heap.size w' v (l++(if S<7 then [47] else []))) zk ?_ (fun v j w3 h3=>?_)
  ·refine zR ?_;apply E.b7<;>intro h
   ·refine zR ?_;refine zL O3 [.int .u8 47] ?_;refine zR ?_;have cb:=Cl.alloc w2 (.cells (([Value.int .u8 47]:List Value).flatMap fun v=>v.cells.toList).toArray 5);refine J2 O3 (l:=l) (news:=[47]) rfl (hrw.step cb) rfl (b8F 47) K9 a3a (by simp;omega) zd (c2.trans cb).size fun v' w' hr' hg=>?_
    obtain ⟨a9,c9,rfl,_⟩:=hr'.form;refine zR ?_;exact ⟨_,⟨rfl,trivial⟩,hg.toCl rfl (c2.trans cb),by rw [if_pos zo];exact hr'⟩
   ·refine zR ?_;exact ⟨_,⟨rfl,trivial⟩,c2,by rw [if_neg zo,List.append_nil];exact hrw⟩
  obtain ⟨c3,hr3⟩:=h3;have hl3:(l++(if S<7 then [47] else []))++boardT p (S+1)=boardT p 8:=by
   rw [← hl];congr 2;by_cases h:S<7
   ·rw [if_pos h,if_pos zo]
   ·rw [if_neg h,if_neg zo]
  have hlen3:=congrArg List.length hl3;rw [List.length_append] at hlen3;generalize l++(if S<7 then ([47]:Tx) else [])=l3 at *
  clear hl hlen hrw c2;have hrow:boardT p (S+1)=a0h (fun f=>sq p (8*(S:Int)+f)) 8 0 0++(if S=0 then [] else [47])++boardT p S:=rfl
  obtain ⟨av,kv,rfl,_⟩:=hr3.form;refine zR ?_;refine A9 (σ:=Nat×Nat×Tx×Value) [3,4,6,7,8,19] 20 (fun s=>[(3,s.2.2.2),(4,.int .i64 s.2.1),(19,.int .i64 s.1)]) (fun s w'=>s.1≤8∧s.2.1≤s.1∧s.2.2.1++a0h (fun f=>sq p (8*(S:Int)+f)) (8-s.1) s.1 s.2.1++(if S=0 then [] else [47])++boardT p S=boardT p 8∧Cl w w'∧Row 5 1 a0r w.heap.size w' s.2.2.2 s.2.2.1) (fun s=>8-s.1) zk
   (0,0,l3,_) ⟨by show 0≤8;decide,Nat.le_refl _,by rw [← hl3,hrow];simp only [List.append_assoc],c3,hr3⟩ ⟨rfl,rfl,rfl,trivial⟩ ?_
  clear hr3 c3;rintro ⟨f,e,o,v⟩ j4 w4 ⟨hf,he,ho,c4,hr4⟩;simp only at hf he ho c4 hr4 ⊢;obtain ⟨a4,k4,rfl,_⟩:=hr4.form;have hol:=congrArg List.length ho;simp only [List.length_append] at hol;refine zR ?_;apply E.b7<;>intro h
  ·have hf2:f<8:=by omega
   clear h;have nf:=C2 (i:=f) zo;have ef:IntKind.i8.wrap (f:Int)=f:=V3 zo zo;have eS:IntKind.i8.wrap (S:Int)=S:=V3 zo zo;refine zR ?_;rw [ef,eS];refine d9 (a9B f S hf2 hS _) (zR ?_);have hX:=hp ((8*S+f:Nat):Int);have pc:=W2 (mbOf p) b (t:=t) (fz:=fz) (8*S+f) zo w4 (hT.cl c4) (c4.blk hB);rw [T8 hp zo] at pc;refine d9 pc ?_;have hg:sq p (8*(S:Int)+(f:Nat))=sq p ((8*S+f:Nat):Int):=by congr 1
   have hrs:a0h (fun f=>sq p (8*(S:Int)+f)) (8-f) f e=if sq p ((8*S+f:Nat):Int)<1∨sq p ((8*S+f:Nat):Int)>12 then a0h (fun f=>sq p (8*(S:Int)+f)) (8-(f+1)) (f+1) (e+1) else V6 e++pcT (sq p ((8*S+f:Nat):Int))++a0h (fun f=>sq p (8*(S:Int)+f)) (8-(f+1)) (f+1) 0:=by
    rw [show 8-f=(8-(f+1))+1 by omega,← hg];rfl
   have fc:=fun c hc w hT=>b4J (sq p ((8*S+f:Nat):Int)) (c:=c) (hc:=hc) (w:=w) (hT:=hT);generalize sq p ((8*S+f:Nat):Int)=X at *;refine zR ?_;apply E.b7<;>intro h
   ·have ne:=C2 (i:=e) zo;rw [hrs,if_pos (.inl zo)] at ho;refine zR ?_;exact ⟨(f+1,e+1,o,_),⟨rfl,m7 ne,m7 nf,trivial⟩,⟨by show f+1≤8;omega,by show e+1≤f+1;omega,ho,c4,hr4⟩,by show 8-(f+1)<8-f;omega⟩
   rw [hrs,if_neg zo] at ho;obtain ⟨ch,hch⟩:=b8E (x:=X) zo zo;have fcc:=fun w hT=>fc ch hch w hT zo zo;rw [hch] at ho;refine zG ?_;refine A4 (σ:=Value) [3,4] 20 (fun v=>[(3,v),(4,.int .i64 0)]) (fun v w'=>Cl w w'∧Row 5 1 a0r w.heap.size w' v (o++V6 e)) zk ?_ (fun v j w5 h5=>?_)
   ·refine zR ?_;apply E.b7<;>intro h
    ·rw [b1c (show 0<e by omega) zo]
     refine zR ?_;rw [b9A zo];refine zL O3 [.int .u8 ((UInt8.ofNat (48+e)).toNat:Int)] ?_;refine zR ?_;have cb:=Cl.alloc w4 (.cells (([Value.int .u8 ((UInt8.ofNat (48+e)).toNat:Int)]:List Value).flatMap fun v=>v.cells.toList).toArray 5);refine J2 O3 (l:=o) (news:=[UInt8.ofNat (48+e)]) rfl (hr4.step cb) rfl (b8F (UInt8.ofNat (48+e))) K9 a3a (by simp;omega) zd (c4.trans cb).size fun v' w' hr' hg=>?_
     obtain ⟨a9,c9,rfl,_⟩:=hr'.form;refine zR ?_;exact ⟨_,⟨rfl,rfl,trivial⟩,hg.toCl rfl (c4.trans cb),hr'⟩
    ·have e0:e=0:=by omega
     subst e0;refine zR ?_;exact ⟨_,⟨rfl,rfl,trivial⟩,c4,by rw [show V6 0=[] from rfl,List.append_nil];exact hr4⟩
   obtain ⟨c5,hr5⟩:=h5;obtain ⟨a5,k5,rfl,_⟩:=hr5.form;have hol5:=congrArg List.length ho;simp only [List.length_append,List.length_cons,List.length_nil] at hol5;have hle5:(o++V6 e).length≤288:=by rw [List.length_append];omega
   refine zR ?_;refine d9 (fcc _ (hT.cl c5)) (zR ?_);refine zL O3 [.int .u8 (ch.toNat:Int)] ?_;refine zR ?_;have cb:=Cl.alloc w5 (.cells (([Value.int .u8 (ch.toNat:Int)]:List Value).flatMap fun v=>v.cells.toList).toArray 5);refine J2 O3 (l:=o++V6 e) (news:=[ch]) rfl (hr5.step cb) rfl (b8F ch) K9 a3a (by simp only [List.length_cons,List.length_nil];omega) zd (c5.trans cb).size fun v' w' hr' hg=>?_
   obtain ⟨a9,c9,rfl,_⟩:=hr'.form;refine zR ?_;exact ⟨(f+1,0,(o++V6 e)++[ch],_),⟨rfl,rfl,m7 nf,trivial⟩,⟨by show f+1≤8;omega,Nat.zero_le _,by rw [← ho];simp only [List.append_assoc],hg.toCl rfl (c5.trans cb),hr'⟩,by show 8-(f+1)<8-f;omega⟩
  ·have e8:f=8:=by omega
   subst e8;have hrz:a0h (fun f=>sq p (8*(S:Int)+f)) (8-8) 8 e=V6 e:=rfl;rw [hrz] at ho;have hend:∀ v' w',Cl w w'→Row 5 1 a0r w.heap.size w' v' (o++V6 e)→∃ s':Int×Tx×Value,(s'.2.2=v'∧s'.1=(S:Int)-1)∧((-1≤s'.1∧s'.1≤7)∧s'.2.1++(if 0≤s'.1∧s'.1<7 then [47] else [])++boardT p (s'.1+1).toNat=boardT p 8∧Cl w w'∧Row 5 1 a0r w.heap.size w' s'.2.2 s'.2.1)∧(s'.1+1).toNat<S+1:=by
    intro v' w' hc hr;refine ⟨((S:Int)-1,o++V6 e,v'),⟨rfl,rfl⟩,⟨⟨by show -1≤(S:Int)-1;omega,by show (S:Int)-1≤7;omega⟩,?_,hc,hr⟩,by show ((S:Int)-1+1).toNat<S+1;omega⟩
    show o++V6 e++(if 0≤(S:Int)-1∧(S:Int)-1<7 then [47] else [])++boardT p ((S:Int)-1+1).toNat=boardT p 8
    rw [← ho,show ((S:Int)-1+1).toNat=S by omega]
    congr 2;by_cases h0:S=0
    ·rw [if_pos h0,if_neg zo]
    ·rw [if_neg h0,if_pos zo]
   refine zR ?_;apply E.b7<;>intro h
   ·refine zR ?_;rw [b9A zo];refine zL O3 [.int .u8 ((UInt8.ofNat (48+e)).toNat:Int)] ?_;refine zR ?_;have cb:=Cl.alloc w4 (.cells (([Value.int .u8 ((UInt8.ofNat (48+e)).toNat:Int)]:List Value).flatMap fun v=>v.cells.toList).toArray 5);refine J2 O3 (l:=o) (news:=[UInt8.ofNat (48+e)]) rfl (hr4.step cb) rfl (b8F (UInt8.ofNat (48+e))) K9 a3a (by simp;omega) zd (c4.trans cb).size fun v' w' hr' hg=>?_
    rw [← b1c (show 0<e by omega) zo] at hr'
    obtain ⟨a9,c9,rfl,_⟩:=hr'.form;refine zR ?_;obtain ⟨s',⟨q1,q2⟩,h1,h2⟩:=hend _ _ (hg.toCl rfl (c4.trans cb)) hr';exact ⟨s',⟨q1.symm,rfl,m7 (by rw [q2];exact g7 zo zo),trivial⟩,h1,zo⟩
   ·have e0:e=0:=by omega
    subst e0;obtain ⟨s',⟨q1,q2⟩,h1,h2⟩:=hend _ _ c4 (by rw [show V6 0=[] from rfl,List.append_nil];exact hr4)
    refine zR ?_;exact ⟨s',⟨q1.symm,rfl,m7 (by rw [q2];exact g7 zo zo),trivial⟩,h1,zo⟩
 ·have e:r=-1:=by omega
  subst e;have e2:l=boardT p 8:=by rw [← hl];simp [boardT]
  refine zR ?_;refine a8F l rfl hrw (zR ?_);exact ⟨by rw [e2];rfl,c2⟩
def Pow (w:World):Prop:=Lib.TabIs G.P w "internal/strconv.uint64pow10" .u64 Lib.pow10Tab
theorem Pow.cl {w w':World} (h:Pow w) (c:Cl w w'):Pow w':=by
 unfold Pow Lib.TabIs World.var? at *;cases hg:G.P.globalNamed "internal/strconv.uint64pow10" with
 | none=>rw [hg] at h;cases h
 | some g =>
  rw [hg] at h;simp only [Option.bind_some] at h ⊢;cases hb:w.heap[g]? with
  | none=>rw [hb] at h;cases h
  | some o =>
   rw [c.blk hb];rw [hb] at h;exact h
theorem Cl.grow (w:World) (k:Nat) (os:Array Obj):Cl w (Sort.grow (w.drewN k) os):=by
 refine ⟨rfl,rfl,rfl,by simp [Sort.grow,World.drewN],fun i hi=>?_⟩
 simp [Sort.grow,World.drewN,Array.getElem?_append,hi]
theorem a0e (t:Tx) (w:World):Calls G.P 166 #[s8 t] w (D5 (s8 t) w):=by
 refine zN Tryz.func166 ?_;refine zR ?_;exact ⟨rfl,rfl⟩
theorem H0.kept {w:World} {P b:Nat} {p:A3} {a:Option Addr} {n c:Nat} (h:H0 w P b p (.slice a n c)) (hr:Row 141 11 C6 0 w (.slice a n c) (N0 p)) (hne:N0 p≠[]):∃ ad,a=some ad:=by
 obtain ⟨a',c',e,ha⟩:=hr.form;injection e with e1 e2 e3;obtain ⟨g,hg⟩:=ha (List.length_pos_iff.2 hne);exact ⟨_,by rw [e1,hg]⟩
theorem b4O:∀ a:Nat,a<16→∀ b:Nat,b<16→(castT (a:Int)=castT (b:Int)↔a=b):=by decide
theorem b25 {a b:Int} (a0:0≤a) (a1:a≤15) (b0:0≤b) (b1:b≤15):castT a=castT b↔a=b:=by
 obtain ⟨x,rfl⟩:=Int.eq_ofNat_of_zero_le a0;obtain ⟨y,rfl⟩:=Int.eq_ofNat_of_zero_le b0;rw [b4O x zo y zo];omega
theorem a7C {p q:A3} (hI:B7 p) (hJ:B7 q) {P b P' b':Nat} {cv cv':Value} {c c':Bool} (w:World) (hT:C1 w)
  (hP:w.heap[P]?=some (.cells (hdA b (A8 p c) cv) 173 (0,0))) (hB:w.heap[b]?=some (.cells (mbA (mbOf p)) 237 (0,0)))
  (hP':w.heap[P']?=some (.cells (hdA b' (A8 q c') cv') 173 (0,0))) (hB':w.heap[b']?=some (.cells (mbA (mbOf q)) 237 (0,0))) :
  Calls G.P 249 #[.pointer (some ⟨P,0,none⟩),.pointer (some ⟨P',0,none⟩)] w (K4 (.bool (Y8 p q)) w):=by
 have hbi:=b2y hI.pc hJ.pc;have hci:=b25 hI.c0 hI.c1 hJ.c0 hJ.c1;have hal:Y8 p q=(decide (p.board=q.board)&&decide (p.turn=q.turn)&&decide (p.castle=q.castle)&&decide (p.ep=q.ep)):=rfl;rw [hal];clear hal;have hs1:=fun w hT hB=>a0z (p:=p) (b:=b) (t:=237) (fz:=(0,0)) hI.pc w hT hB;have hs2:=fun w hT hB=>a0z (p:=q) (b:=b') (t:=237) (fz:=(0,0)) hJ.pc w hT hB;generalize boardT p 8=X at *;generalize boardT q 8=Y at *;refine zN Tryz.func249 ?_;refine zR ?_;refine zK 47 ?_;refine zR ?_;refine qHb hP (zR ?_);refine C7 _ (fun _ _ h=>h.trans) (fun w' h'=>hs1 w' (hT.cl h') (h'.blk hB)) (zR ?_);refine qHb hP' (zR ?_);refine C7 _ (fun _ _ h=>h.trans) (fun w' h'=>hs2 w' (hT.cl h') (h'.blk hB')) (zR ?_);by_cases h1:X=Y
 ·have k1:tx X=tx Y:=by rw [h1]
  rw [decide_eq_true (hbi.1 h1),Bool.true_and];refine E.D4 k1 (zR ?_);repeat (refine E.D4 k1 ?_;refine zR ?_)
  refine qHt hP ?_;rw [show (A8 p c).turn=p.turn+1 from rfl];refine zR ?_;repeat (refine E.D4 k1 ?_;refine zR ?_)
  refine qHt hP' ?_;rw [show (A8 q c').turn=q.turn+1 from rfl];refine zR ?_;repeat (refine E.D4 k1 ?_;refine zR ?_)
  by_cases h2:p.turn=q.turn
  ·have k2:p.turn+1=q.turn+1:=by omega
   rw [decide_eq_true h2,Bool.true_and];repeat (refine E.D4 k2 ?_;refine zR ?_)
   refine g9 _ (fun w hw=>a2X (hw.blk hP)) ?_;rw [show (A8 p c).cas=castT p.castle from rfl];refine zR ?_;repeat (refine E.D4 k2 ?_;refine zR ?_)
   refine A5 _ (fun w hw=>a0e _ w) (zR ?_);repeat (refine E.D4 k2 ?_;refine zR ?_)
   refine g9 _ (fun w hw=>a2X (hw.blk hP')) ?_;rw [show (A8 q c').cas=castT q.castle from rfl];refine zR ?_;repeat (refine E.D4 k2 ?_;refine zR ?_)
   refine A5 _ (fun w hw=>a0e _ w) (zR ?_);repeat (refine E.D4 k2 ?_;refine zR ?_)
   by_cases h3:castT p.castle=castT q.castle
   ·have k3:tx (castT p.castle)=tx (castT q.castle):=by rw [h3]
    rw [decide_eq_true (hci.1 h3),Bool.true_and];repeat (refine E.D4 k3 ?_;refine zR ?_)
    refine b8h hP ?_;rw [show (A8 p c).ep=p.ep from rfl];refine zR ?_;repeat (refine E.D4 k3 ?_;refine zR ?_)
    refine b8h hP' ?_;rw [show (A8 q c').ep=q.ep from rfl];refine zR ?_;repeat (refine E.D4 k3 ?_;refine zR ?_)
    intro w9 c9;refine zR ?_;exact ⟨rfl,c9⟩
   ·have k3:¬ tx (castT p.castle)=tx (castT q.castle):=fun e=>h3 (a0p.1 e);repeat (refine E.o7 k3 ?_;refine zR ?_)
    intro w9 c9;refine zR ?_;exact ⟨m8 (by rw [decide_eq_false (fun e=>h3 (hci.2 e))];rfl),c9⟩
  ·have k2:¬ p.turn+1=q.turn+1:=by omega
   repeat (refine E.o7 k2 ?_;refine zR ?_)
   intro w9 c9;refine zR ?_;exact ⟨m8 (by rw [decide_eq_false h2];rfl),c9⟩
 ·have k1:¬ tx X=tx Y:=fun e=>h1 (a0p.1 e);repeat (refine E.o7 k1 ?_;refine zR ?_)
  intro w9 c9;refine zR ?_;exact ⟨m8 (by rw [decide_eq_false (fun e=>h1 (hbi.2 e))];rfl),c9⟩
structure Gm where
 P:Nat
 out:Tx
 tags:Value
 root:Nat
 cur:Nat
 com:Value
 meth:Nat
def gmL (g:Gm):List Value:=[.pointer (some ⟨g.P,0,none⟩),s8 g.out,g.tags,.pointer (some ⟨g.root,0,none⟩),.pointer (some ⟨g.cur,0,none⟩),g.com,.int .u8 g.meth,.bool false]
def gmA (g:Gm):Array Value:=(gmL g).toArray
section gm
variable {G0 t:Nat} {g:Gm} {w:World} {fz:Nat×Nat} (hb:w.heap[G0]?=some (.cells (gmA g) t fz))
include hb
theorem a4T:l8 G.P w 83 ⟨G0,0,none⟩ (.pointer (some ⟨g.P,0,none⟩)):=W1 hb rfl rfl
theorem a7D:l8 G.P w 125 ⟨G0,1,none⟩ (s8 g.out):=W1 hb rfl rfl
theorem b3K:l8 G.P w 85 ⟨G0,3,none⟩ (.pointer (some ⟨g.root,0,none⟩)):=W1 hb rfl rfl
theorem a7E:l8 G.P w 85 ⟨G0,4,none⟩ (.pointer (some ⟨g.cur,0,none⟩)):=W1 hb rfl rfl
theorem a9F:l8 G.P w 129 ⟨G0,6,none⟩ (.int .u8 g.meth):=W1 hb rfl rfl
theorem a4k:l8 G.P w 4 ⟨G0,7,none⟩ (.bool false):=W1 hb rfl rfl
theorem b6R:Calls G.P 43 #[.pointer (some ⟨G0,0,none⟩)] w (D5 (.pointer (some ⟨g.P,0,none⟩)) w):=by
 refine zN Tryz.func43 ?_;refine zR ?_;refine d7 _ (a4T hb) (zR ?_);exact ⟨rfl,rfl⟩
end gm
structure Fr (S:List Nat) (w w':World):Prop where
 os:w'.os=w.os
 tape:w'.tape=w.tape
 output:w'.output=w.output
 size:w.heap.size≤w'.heap.size
 else_:∀ k,k<w.heap.size→k∉S→w'.heap[k]?=w.heap[k]?
section fr
variable {S S':List Nat} {w w1 w2:World}
theorem Fr.blk (h:Fr S w w1) {k:Nat} {o:Obj} (hk:w.heap[k]?=some o) (hn:k∉S):w1.heap[k]?=some o:=by
 rw [h.else_ k (Array.getElem?_eq_some_iff.1 hk).1 hn];exact hk
theorem Fr.refl:Fr S w w:=⟨rfl,rfl,rfl,Nat.le_refl _,fun _ _ _=>rfl⟩
theorem Fr.trans (h:Fr S w w1) (h':Fr S w1 w2):Fr S w w2 :=
 ⟨h'.os.trans h.os,h'.tape.trans h.tape,h'.output.trans h.output,Nat.le_trans h.size h'.size,fun k hk hn=>(h'.else_ k (Nat.lt_of_lt_of_le hk h.size) hn).trans (h.else_ k hk hn)⟩
theorem Fr.cl (h:Cl w w1):Fr S w w1:=⟨h.os,h.tape,h.output,h.size,fun k hk _=>h.block k hk⟩
theorem Fr.tn {b:Nat} (h:Tn b w w1) (hb:b∈S∨w.heap.size≤b):Fr S w w1 :=
 ⟨h.os,h.tape,h.output,h.size,fun k hk hn=>h.else_ k hk (fun e=>by subst e;rcases hb with hb | hb;exact hn hb;omega)⟩
theorem Fr.upd {b:Nat} {o:Obj} (h:Upd w b o w1) (hb:b∈S):Fr S w w1:=Fr.tn (Tn.upd h) (.inl hb)
theorem Fr.mono (h:Fr S w w1) (hs:∀ k∈S,k∈S'):Fr S' w w1:=⟨h.os,h.tape,h.output,h.size,fun k hk hn=>h.else_ k hk (fun e=>hn (hs k e))⟩
theorem Y2.fr {g n:Nat} {f:Nat→Value} (h:Y2 w g n f) (c:Fr S w w1) (hS:∀ k∈S,∀ cs t fz,w.heap[k]?=some (.cells cs t fz)→a1J t=false):Y2 w1 g n f:=by
 obtain ⟨cs,t,fz,h1,h2,h3⟩:=h;exact ⟨cs,t,fz,c.blk h1 (fun e=>by have:=hS _ e _ _ _ h1;rw [h2] at this;cases this),h2,h3⟩
theorem a6q.fr {g o n:Nat} {f:Nat→Value} (h:a6q w g o n f) (c:Fr S w w1) (hS:∀ k∈S,∀ cs t fz,w.heap[k]?=some (.cells cs t fz)→a1J t=false):a6q w1 g o n f:=by
 obtain ⟨cs,t,fz,h1,h2,h3⟩:=h;exact ⟨cs,t,fz,c.blk h1 (fun e=>by have:=hS _ e _ _ _ h1;rw [h2] at this;cases this),h2,h3⟩
theorem a6r.fr {g n:Nat} {f:Nat→Value} (h:a6r w g n f) (c:Fr S w w1) (hS:∀ k∈S,∀ cs t fz,w.heap[k]?=some (.cells cs t fz)→a1J t=false):a6r w1 g n f:=by
 obtain ⟨k,o,c',h1,h2⟩:=h;exact ⟨k,o,c',h1.fr c hS,h2.fr c hS⟩
theorem C1.fr (h:C1 w) (c:Fr S w w1) (hS:∀ k∈S,∀ cs t fz,w.heap[k]?=some (.cells cs t fz)→a1J t=false):C1 w1 :=
 ⟨h.dia.fr c hS,h.anti.fr c hS,h.ranks.fr c hS,h.files.fr c hS,h.kn.fr c hS,h.kg.fr c hS,h.all.fr c hS,h.promo.fr c hS,h.wfen.fr c hS,h.bfen.fr c hS,h.fen.fr c hS⟩
end fr
def O8 (M:Nat):List Value:=[.pointer (some ⟨M,0,none⟩)]
theorem T9 (M:Nat):(O8 M).length=1:=rfl
theorem a4l (M:Nat):∀ v∈O8 M,v.oneCell'=true:=by intro v hv;simp [O8] at hv;subst hv;rfl
theorem b8L:G2 134 85 1 8:=R0 zk
theorem b6S {G0 t t':Nat} {g:Gm} {w:World} {fz fz':Nat×Nat} {dc:Nd} (x:Value) (hx:∃ a,x = .pointer (some a)) (hb:w.heap[G0]?=some (.cells (gmA g) t fz)) (hc:w.heap[g.cur]?=some (.cells (F0 dc) t' fz')) (hk:dc.kids = .slice none 0 0) :
  Calls G.P 143 #[.pointer (some ⟨G0,0,none⟩),x] w (D5 (.pointer none) w):=by
 obtain ⟨a,rfl⟩:=hx;have hl:l8 G.P w 134 ⟨g.cur,5,none⟩ (.slice none 0 0):=by
  have:l8 G.P w 134 ⟨g.cur,5,none⟩ dc.kids:=W1 hc rfl rfl
  rwa [hk] at this
 refine zN Tryz.func143 ?_;refine zR ?_;refine d7 _ (a7E hb) (zR ?_);refine W3 false (N1 rfl _) (zR ?_);refine d7 _ (a7E hb) (zR ?_);refine d7 _ hl (zR ?_);refine a7n 1 (zR ?_);exact ⟨rfl,rfl⟩
theorem b6T {G0 t M:Nat} {g:Gm} (hne:G0≠g.cur) {w:World} {fz:Nat×Nat} {dc:Nd} (hb:w.heap[G0]?=some (.cells (gmA g) t fz)) (hc:w.heap[g.cur]?=some (.cells (F0 dc) 141 (0,0))) (hk:dc.kids = .slice none 0 0) :
  Calls G.P 202 #[.pointer (some ⟨G0,0,none⟩),.pointer (some ⟨M,0,none⟩),.bool false] w (fun r w'=>r = .returned (.tuple #[])∧∃ v,Row 85 1 O8 w.heap.size w' v [M]∧w'.heap[g.cur]?=some (.cells (F0 { dc with kids:=v }) 141 (0,0))∧Tn g.cur w w'):=by
 refine zN Tryz.func202 ?_;refine zR ?_;have cS:Cl w w.drew:=Cl.drew (Cl.refl _);have hl:∀ w',Cl w w'→l8 G.P w' 134 ⟨g.cur,5,none⟩ (.slice none 0 0):=fun w' hw=>by
  have:l8 G.P w' 134 ⟨g.cur,5,none⟩ dc.kids:=W1 (hw.blk hc) rfl rfl
  rwa [hk] at this
 refine I8.mk3 (Tn g.cur w) [0,1,2,3,4,5,6,7,8,9,11] (.cons 10 (.cons 12 (.cons 13 (.cons 14 (.cons 15 (.cons 16 .done .nil) .nil) .nil) .nil) .nil) (.cons 12 (.cons 10 (.cons 13 (.cons 14 (.cons 15 (.cons 16 .done .nil) .nil) .nil) .nil) .nil) .nil)) (Tn.cl cS) zk (zR ?_);refine g9 _ (fun w' hw=>a7E (hw.blk hb hne)) (zR ?_);refine g9 _ (fun w' hw=>a7E (hw.blk hb hne)) (zR ?_);refine ⟨?_,?_,trivial⟩
 ·refine zR ?_;refine d7 _ (hl _ cS) (zR ?_);refine And.intro (Tn.cl cS) (zE ?_);refine zL b8L [.pointer (some ⟨M,0,none⟩)] ?_;have cB:=cS.trans (Cl.alloc w.drew (.cells (([.pointer (some ⟨M,0,none⟩)]:List Value).flatMap fun v=>v.cells.toList).toArray 85));have hbx:Row 85 1 O8 w.drew.heap.size (w.drew.alloc (.cells (([.pointer (some ⟨M,0,none⟩)]:List Value).flatMap fun v=>v.cells.toList).toArray 85)) (.slice (some ⟨w.drew.heap.size,0,none⟩) 1 1) [M]:=H9 T9 w.drew [M] (by exact Nat.le_of_ble_eq_true rfl) [.pointer (some ⟨M,0,none⟩)] rfl
  generalize w.drew.alloc (.cells (([.pointer (some ⟨M,0,none⟩)]:List Value).flatMap fun v=>v.cells.toList).toArray 85)=w1 at *;refine zR ?_;refine And.intro (Tn.cl cB) (zE ?_);refine J2 b8L (l:=[]) (news:=[M]) rfl (Row.nil w1 w.heap.size) rfl hbx T9 a4l (by exact Nat.le_of_ble_eq_true rfl) zd cB.size fun v' w2 hr hg=>?_
  rw [List.nil_append] at hr;have c2:Cl w w2:=hg.toCl rfl cB;obtain ⟨a9,c9,rfl,_⟩:=hr.form;refine zR ?_;refine And.intro (Tn.cl c2) (zE ?_);refine And.intro (Tn.cl c2) (zE ?_);refine And.intro (Tn.cl c2) (zE ?_);refine zT (c2.blk hc) [.slice a9 1 c9] fun w3 u3=>?_;have n3:Tn g.cur w w3:=(Tn.cl c2).trans (Tn.upd u3);refine zR ?_;refine And.intro n3 (zR ?_);exact ⟨rfl,_,hr.updT u3 (c2.blk hc) zd,u3.at_,n3⟩
 ·refine zR ?_;refine zL b8L [.pointer (some ⟨M,0,none⟩)] ?_;have cB:=cS.trans (Cl.alloc w.drew (.cells (([.pointer (some ⟨M,0,none⟩)]:List Value).flatMap fun v=>v.cells.toList).toArray 85));have hbx:Row 85 1 O8 w.drew.heap.size (w.drew.alloc (.cells (([.pointer (some ⟨M,0,none⟩)]:List Value).flatMap fun v=>v.cells.toList).toArray 85)) (.slice (some ⟨w.drew.heap.size,0,none⟩) 1 1) [M]:=H9 T9 w.drew [M] (by exact Nat.le_of_ble_eq_true rfl) [.pointer (some ⟨M,0,none⟩)] rfl
  generalize w.drew.alloc (.cells (([.pointer (some ⟨M,0,none⟩)]:List Value).flatMap fun v=>v.cells.toList).toArray 85)=w1 at *;refine zR ?_;refine And.intro (Tn.cl cB) (zE ?_);refine d7 _ (hl _ cB) (zR ?_);refine And.intro (Tn.cl cB) (zE ?_);refine J2 b8L (l:=[]) (news:=[M]) rfl (Row.nil w1 w.heap.size) rfl hbx T9 a4l (by exact Nat.le_of_ble_eq_true rfl) zd cB.size fun v' w2 hr hg=>?_
  rw [List.nil_append] at hr;have c2:Cl w w2:=hg.toCl rfl cB;obtain ⟨a9,c9,rfl,_⟩:=hr.form;refine zR ?_;refine And.intro (Tn.cl c2) (zE ?_);refine And.intro (Tn.cl c2) (zE ?_);refine And.intro (Tn.cl c2) (zE ?_);refine zT (c2.blk hc) [.slice a9 1 c9] fun w3 u3=>?_;have n3:Tn g.cur w w3:=(Tn.cl c2).trans (Tn.upd u3);refine zR ?_;refine And.intro n3 (zR ?_);exact ⟨rfl,_,hr.updT u3 (c2.blk hc) zd,u3.at_,n3⟩
theorem b8M {G0 t M:Nat} {g:Gm} (hne:G0≠g.cur) (hGM:G0≠M) (hcM:g.cur≠M) {w:World} {fz:Nat×Nat} {dc d:Nd} (hb:w.heap[G0]?=some (.cells (gmA g) t fz)) (hc:w.heap[g.cur]?=some (.cells (F0 dc) 141 (0,0))) (hk:dc.kids = .slice none 0 0)
  (hM:w.heap[M]?=some (.cells (F0 d) 141 (0,0))) :
  Calls G.P 144 #[.pointer (some ⟨G0,0,none⟩),.pointer (some ⟨M,0,none⟩),.pointer none,.bool false] w (fun r w'=>r = .returned (.tuple #[])∧∃ v,Row 85 1 O8 w.heap.size w' v [M]
  ∧w'.heap[g.cur]?=some (.cells (F0 { dc with kids:=v }) 141 (0,0))∧w'.heap[M]?=some (.cells (F0 { d with par:=.pointer (some ⟨g.cur,0,none⟩) }) 141 (0,0))∧Fr [M,g.cur] w w'):=by
 refine zN Tryz.func144 ?_;refine zR ?_;refine d7 _ (a7E hb) (zR ?_);refine zT hM [.pointer (some ⟨g.cur,0,none⟩)] fun w1 u1=>?_;refine zR ?_;refine I1 true (N1 rfl _) (zR ?_);refine o8 (b6T hne ((Tn.upd u1).blk hb hGM) ((Tn.upd u1).blk hc hcM) hk) ?_;rintro e w2 ⟨rfl,v,hr,h2,n2⟩;refine ⟨_,rfl,?_⟩;refine zR ?_;have hr':=hr.mono (by rw [u1.size];exact Nat.le_refl _:w.heap.size≤w1.heap.size)
 exact ⟨rfl,v,hr',h2,n2.blk u1.at_ (Ne.symm hcM),(Fr.upd u1 (by simp)).trans (Fr.tn n2 (.inl (by simp)))⟩
theorem b6U {p:A3} (hI:B7 p) (hN:a1z p) {G0 b M:Nat} {g:Gm} {cv:Value} {d:Nd} (hm:d.mv∈y8 p) (htg:(d.tags:Int)=a6V p d.mv) (w:World) (hT:C1 w) (hP:H0 w g.P b p cv)
  (hM:w.heap[M]?=some (.cells (F0 d) 141 (0,0))) (hGM:G0≠M) (hb:w.heap[G0]?=some (.cells (gmA g) 131 (0,0))) :
  Calls G.P 145 #[.pointer (some ⟨G0,0,none⟩),.pointer (some ⟨M,0,none⟩)] w (fun r w'=>r = .returned (.tuple #[])∧∃ P' b',w.heap.size≤P'∧w.heap.size≤b'∧H0 w' P' b' (made p d.mv) (.slice none 0 0)
  ∧w'.heap[G0]?=some (.cells (gmA { g with P:=P' }) 131 (0,0))∧w'.heap[M]?=some (.cells (F0 { d with pos:=.pointer (some ⟨P',0,none⟩) }) 141 (0,0))∧Fr [G0,M] w w'):=by
 have hGs:G0<w.heap.size:=(Array.getElem?_eq_some_iff.1 hb).1;have hMs:M<w.heap.size:=(Array.getElem?_eq_some_iff.1 hM).1;refine zN Tryz.func145 ?_;refine zR ?_;refine d7 _ (a4T hb) (zR ?_);refine o8 (b0W hI hN hm htg w hT hP hM) ?_;rintro e w1 ⟨P',b',rfl,s1,s2,hH',hB',c1⟩;refine ⟨_,rfl,?_⟩;refine zR ?_;refine I1 false (N1 rfl _) (zR ?_);refine zT (c1.blk hb) [.pointer (some ⟨P',0,none⟩)] fun w2 u2=>?_;refine zR ?_;refine J6 ((Tn.upd u2).blk (c1.blk hM) (Ne.symm hGM)) [.pointer (some ⟨P',0,none⟩)] rfl zk rfl (by intro v hv;simp at hv;subst hv;rfl) (Nat.le_of_ble_eq_true rfl) fun w3 u3=>zR ?_
 have k2:∀ {k:Nat} {o:Obj},w1.heap[k]?=some o→k≠G0→k≠M→w3.heap[k]?=some o:=fun h n1 n2=>(Tn.upd u3).blk ((Tn.upd u2).blk h n1) n2;exact ⟨rfl,P',b',s1,s2,⟨k2 hH' zo zo,k2 hB' zo zo,.inl rfl⟩,(Tn.upd u3).blk u2.at_ hGM,u3.at_,((Fr.cl c1).trans (Fr.upd u2 (by simp))).trans (Fr.upd u3 (by simp))⟩
end
end Go.Proofs.YtpclhlhcegcflaaGreatDoor
