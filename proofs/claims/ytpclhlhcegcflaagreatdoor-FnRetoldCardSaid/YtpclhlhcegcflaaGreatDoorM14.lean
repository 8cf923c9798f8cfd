/- One part of the proof: Sp26 Sp27 Law6 Law7 Pk6 Pk7. -/
import Derived.Test.YtpclhlhcegcflaaGreatDoorM1
import Derived.Test.YtpclhlhcegcflaaGreatDoorM3
import Derived.Test.YtpclhlhcegcflaaGreatDoorM12
import Derived.Test.YtpclhlhcegcflaaGreatDoorM13
namespace Go.Proofs.YtpclhlhcegcflaaGreatDoor
set_option maxRecDepth 100000
set_option linter.unusedSimpArgs false
set_option linter.unusedVariables false
section
open Go Go.RowKit
open E
theorem a87 (p:A3) (m:Mv):(Ch.apart p m).length≤2:=by
 unfold Ch.apart;repeat' split
 ·simp
 ·simp [Ch.A7]
 ·simp [Ch.F7]
 ·exact a0a _
theorem a30 (p:A3) (m:Mv):(Ch.S9 p m).length≤1:=by
 unfold Ch.S9;split<;>simp
theorem a2w (m:Mv):(Ch.Z9 m).length≤2:=by
 unfold Ch.Z9;split
 ·simp
 ·have:=L7 m.promo;simp;omega
theorem b0B (p:A3) (m:Mv):(Ch.body p m).length≤10:=by
 have h1:=a87 p m;have h2:=a30 p m;have h3:=a2w m;have h4:=a0a m.to;have h5:=L7 (Ch.kindOf (Ch.sq p m.fr));unfold Ch.body;repeat' split
 all_goals (simp [Ch.A7];try omega)
theorem b0C (p:A3) (m:Mv):(Ch.b33 p m).length≤11:=by
 have h1:=b0B p m;have h2:=a3y p m;unfold Ch.b33;rw [List.length_append];omega
theorem b44 (p:A3) (hI:Ch.B7 p) (hN:Nm p) (m:Mv) (hm:m∈Ch.y8 p) (w:World):Calls G.P 55 #[C4 p,G5 m] w (K4 (s8 (Ch.body p m)) w):=by
 have hmo:=a0x hI hm;have hpc:=hI.pc;have hmo':=hmo;obtain ⟨⟨a0,a1⟩,⟨b0,b1⟩,d0,d1⟩:=hmo';refine zN Tryz.func55 ?_;refine zG ?_;generalize hW:(w.alloc (.cells (o9 p) 24)).alloc (.cells (K2 m) 36)=W0;have hP:∀ w',Cl W0 w'→w'.heap[w.heap.size]?=some (.cells (o9 p) 24 (0,0)):=fun w' h=>hP2 (hW▸h);have hM:∀ w',Cl W0 w'→w'.heap[(w.alloc (.cells (o9 p) 24)).heap.size]?=some (.cells (K2 m) 36 (0,0)):=fun w' h=>hM2 (hW▸h);have hE:∀ w',Cl W0 w'→Cl w w':=fun w' h=>hE2 (hW▸h);have z:=Cl.refl W0;have hB:Ch.body p m=if Ch.castleKind p m=1 then [79,45,79]
  else if Ch.castleKind p m=2 then [79,45,79,45,79]
  else if Ch.kindOf (Ch.sq p m.fr)=6 then (if Ch.takes p m then Ch.A7 m.fr++[120] else [])++Ch.Y7 m.to++Ch.Z9 m
  else Ch.A1 (Ch.kindOf (Ch.sq p m.fr))++Ch.apart p m++Ch.S9 p m++Ch.Y7 m.to:=rfl
 refine zR ?_;refine d7 _ (y7 (hP _ z)) (zR ?_);refine d7 _ (P9 (hM _ z)) (zR ?_);refine m9 (a2v p hpc m hmo _) fun w1 c1=>?_;generalize Ch.castleKind p m=ck at *;refine zR ?_;apply E.b7<;>intro h
 ·refine zR ?_;exact ⟨D9 (by rw [hB,if_pos h];rfl),hE _ c1⟩
 rw [if_neg h] at hB;clear h;refine zR ?_;apply E.b7<;>intro h
 ·refine zR ?_;exact ⟨D9 (by rw [hB,if_pos h];rfl),hE _ c1⟩
 rw [if_neg h] at hB;clear h;refine zR ?_;refine d7 _ (L6 (hM _ c1)) (zR ?_);refine zC ?_;refine zR ?_;refine d7 _ (L9 (hP _ c1) _ zo zo) (zR ?_);refine d9 (N9 _ _ (Pc.lo hpc _) (Pc.hi hpc _)) ?_;have hl1:=a87 p m;have hl2:=a30 p m;have hl3:=a2w m;have hl4:=a0a m.to;have hl5:=L7 (Ch.kindOf (Ch.sq p m.fr));generalize Ch.kindOf (Ch.sq p m.fr)=k at *;refine zG ?_;refine Nx.mk (zG ?_);refine A4 (σ:=Unit) [6,20,21,22] 23 (fun _=>[(6,s8 (Ch.S9 p m))]) (fun _ w'=>Cl W0 w') zk ?_ (fun _ j w2 c2=>?_)
 ·refine zR ?_;refine d7 _ (y7 (hP _ c1)) (zR ?_);refine d7 _ (P9 (hM _ c1)) (zR ?_);refine m9 (a4f p hpc m hmo _) fun w2 c2=>?_;cases ht:Ch.takes p m
  ·refine zR ?_;exact ⟨(),⟨by unfold Ch.S9;rw [ht];rfl,trivial⟩,c1.trans c2⟩
  ·refine zR ?_;exact ⟨(),⟨by unfold Ch.S9;rw [ht];rfl,trivial⟩,c1.trans c2⟩
 refine zR ?_;apply E.b7<;>intro h
 ·rw [if_pos h] at hB;clear h;refine Cx.mk (A4 (σ:=Unit) [6,25,26,27,28,29,30,31] 32 (fun _=>[(6,s8 (if Ch.takes p m then Ch.A7 m.fr++[120] else []))]) (fun _ w'=>Cl W0 w') zk ?_ (fun _ j w3 c3=>?_)).go
  ·cases ht:Ch.takes p m
   ·have:Ch.S9 p m=[]:=by unfold Ch.S9;rw [ht];rfl
    rw [this];refine zR ?_;exact ⟨(),⟨rfl,trivial⟩,c2⟩
   ·have:Ch.S9 p m=[120]:=by unfold Ch.S9;rw [ht];rfl
    rw [this];refine zR ?_;refine d7 _ (L6 (hM _ c2)) (zR ?_);refine m9 (a5u _ a0 a1 _) fun w3 c3=>zR ?_;exact ⟨(),⟨by show Value.string _=Value.string _;rw [A2];rfl,trivial⟩,c2.trans c3⟩
  have hl6:(if Ch.takes p m=true then Ch.A7 m.fr++[120] else []).length≤2:=by split<;>simp [Ch.A7]
  generalize (if Ch.takes p m=true then Ch.A7 m.fr++[120] else [])=T1 at *
  have q2:=fun w=>a3K m w;have q3:=fun w=>T7 m.to zo zo w;generalize Ch.Z9 m=Q2 at *;generalize Ch.Y7 m.to=Q3 at *;refine zR ?_;refine zK 9 ?_;refine zR ?_;refine g9 _ (fun w hw=>a0g (hM _ (c3.trans hw))) (zR ?_);refine C7 (s8 Q3) (fun _ _ h=>h.trans) (fun w _=>q3 w) (zR ?_);refine E.y6 (v8 zo) ?_;rw [A2];refine zR ?_;refine g9 _ (fun w hw=>P9 (hM _ (c3.trans hw))) (zR ?_);refine C7 (s8 Q2) (fun _ _ h=>h.trans) (fun w _=>q2 w) (zR ?_);refine E.y6 (v8 (by rw [List.length_append];omega)) ?_
  rw [A2];refine zR ?_;intro w4 c4;refine zR ?_;exact ⟨D9 (by rw [hB]),hE _ (c3.trans c4)⟩
 ·rw [if_neg h] at hB;clear h;refine zR ?_;refine zK 13 ?_;have q1:=fun w=>a2W k w;have q2:=fun w=>b2o p hI hN m hm w;have q3:=fun w=>T7 m.to zo zo w;generalize Ch.A1 k=Q1 at *;generalize Ch.apart p m=Q2 at *;generalize Ch.Y7 m.to=Q3 at *;generalize Ch.S9 p m=Q4 at *;refine zR ?_;refine C7 (s8 Q1) (fun _ _ h=>h.trans) (fun w _=>q1 w) (zR ?_);refine g9 _ (fun w hw=>y7 (hP _ (c2.trans hw))) (zR ?_);refine g9 _ (fun w hw=>P9 (hM _ (c2.trans hw))) (zR ?_);refine C7 (s8 Q2) (fun _ _ h=>h.trans) (fun w _=>q2 w) (zR ?_);refine E.y6 (v8 zo) ?_;rw [A2];refine zR ?_;refine E.y6 (v8 (by rw [List.length_append];omega)) ?_
  rw [A2];refine zR ?_;refine g9 _ (fun w hw=>a0g (hM _ (c2.trans hw))) (zR ?_);refine C7 (s8 Q3) (fun _ _ h=>h.trans) (fun w _=>q3 w) (zR ?_);refine E.y6 (v8 (by simp only [List.length_append];omega)) ?_
  rw [A2];refine zR ?_;intro w4 c4;refine zR ?_;exact ⟨D9 (by rw [hB]),hE _ (c2.trans c4)⟩
theorem a88 (p:A3) (hI:Ch.B7 p) (hN:Nm p) (m:Mv) (hm:m∈Ch.y8 p) (w:World):Calls G.P 56 #[C4 p,G5 m] w (K4 (s8 (Ch.b33 p m)) w):=by
 refine zN Tryz.func56 ?_;refine zG ?_;generalize hW:(w.alloc (.cells (o9 p) 24)).alloc (.cells (K2 m) 36)=W0;have hP:∀ w',Cl W0 w'→w'.heap[w.heap.size]?=some (.cells (o9 p) 24 (0,0)):=fun w' h=>hP2 (hW▸h);have hM:∀ w',Cl W0 w'→w'.heap[(w.alloc (.cells (o9 p) 24)).heap.size]?=some (.cells (K2 m) 36 (0,0)):=fun w' h=>hM2 (hW▸h);have hE:∀ w',Cl W0 w'→Cl w w':=fun w' h=>hE2 (hW▸h);have z:=Cl.refl W0;have hB:Ch.b33 p m=Ch.body p m++Ch.a04 p m:=rfl;have h1:=b0B p m;have h2:=a3y p m;have q1:=fun w=>b44 p hI hN m hm w;have q2:=fun w=>a3x p hI hN m hm w;rw [hB];clear hB;generalize Ch.body p m=Q1 at *;generalize Ch.a04 p m=Q2 at *;refine zR ?_;refine zK 8 ?_;refine zR ?_;refine g9 _ (fun w hw=>y7 (hP _ hw)) (zR ?_);refine g9 _ (fun w hw=>P9 (hM _ hw)) (zR ?_);refine C7 (s8 Q1) (fun _ _ h=>h.trans) (fun w _=>q1 w) (zR ?_);refine g9 _ (fun w hw=>y7 (hP _ hw)) (zR ?_);refine g9 _ (fun w hw=>P9 (hM _ hw)) (zR ?_);refine C7 (s8 Q2) (fun _ _ h=>h.trans) (fun w _=>q2 w) (zR ?_);refine E.y6 (v8 zo) ?_;rw [A2];refine zR ?_;intro w4 c4;refine zR ?_;exact ⟨rfl,hE _ c4⟩
theorem b45 (p:A3) (hI:Ch.B7 p) (hN:Nm p) (m:Mv) (hm:m∈Ch.y8 p) (w:World):Calls G.P 94 #[C4 p,G5 m] w (K4 (s8 (Ch.b1C p m)) w):=by
 have hmo:=a0x hI hm;have hpc:=hI.pc;have hmo':=hmo;obtain ⟨⟨a0,a1⟩,⟨b0,b1⟩,d0,d1⟩:=hmo';refine zN Tryz.func94 ?_;refine zG ?_;generalize hW:(w.alloc (.cells (o9 p) 24)).alloc (.cells (K2 m) 36)=W0;have hP:∀ w',Cl W0 w'→w'.heap[w.heap.size]?=some (.cells (o9 p) 24 (0,0)):=fun w' h=>hP2 (hW▸h);have hM:∀ w',Cl W0 w'→w'.heap[(w.alloc (.cells (o9 p) 24)).heap.size]?=some (.cells (K2 m) 36 (0,0)):=fun w' h=>hM2 (hW▸h);have hE:∀ w',Cl W0 w'→Cl w w':=fun w' h=>hE2 (hW▸h);have z:=Cl.refl W0;have hB:Ch.b1C p m=if 0<Ch.castleKind p m then Ch.b33 p m else Ch.A1 (Ch.kindOf (Ch.sq p m.fr))++Ch.Y7 m.fr++Ch.S9 p m++Ch.Y7 m.to++Ch.Z9 m++Ch.a04 p m:=rfl
 refine zR ?_;refine d7 _ (y7 (hP _ z)) (zR ?_);refine d7 _ (P9 (hM _ z)) (zR ?_);refine m9 (a2v p hpc m hmo _) fun w1 c1=>?_;generalize Ch.castleKind p m=ck at *;refine zR ?_;apply E.b7<;>intro h
 ·refine zR ?_;refine d7 _ (y7 (hP _ c1)) (zR ?_);refine d7 _ (P9 (hM _ c1)) (zR ?_);refine m9 (a88 p hI hN m hm _) fun w2 c2=>zR ?_;exact ⟨D9 (by rw [hB,if_pos h]),hE _ (c1.trans c2)⟩
 rw [if_neg h] at hB;clear h;refine zG ?_;refine Nx.mk (zG ?_);refine A4 (σ:=Unit) [5,13,14,15] 16 (fun _=>[(5,s8 (Ch.S9 p m))]) (fun _ w'=>Cl W0 w') zk ?_ (fun _ j w2 c2=>?_)
 ·refine zR ?_;refine d7 _ (y7 (hP _ c1)) (zR ?_);refine d7 _ (P9 (hM _ c1)) (zR ?_);refine m9 (a4f p hpc m hmo _) fun w2 c2=>?_;cases ht:Ch.takes p m
  ·refine zR ?_;exact ⟨(),⟨by unfold Ch.S9;rw [ht];rfl,trivial⟩,c1.trans c2⟩
  ·refine zR ?_;exact ⟨(),⟨by unfold Ch.S9;rw [ht];rfl,trivial⟩,c1.trans c2⟩
 have hl2:=a30 p m;have hl3:=a2w m;have hl4:=a0a m.to;have hl5:=L7 (Ch.kindOf (Ch.sq p m.fr));have hl6:=a0a m.fr;have hl7:=a3y p m;have hkc:=fun w=>N9 (Ch.sq p m.fr) w (Pc.lo hpc _) (Pc.hi hpc _);generalize Ch.kindOf (Ch.sq p m.fr)=k at *;have q1:=fun w=>a2W k w;have q2:=fun w=>T7 m.fr zo zo w;have q3:=fun w=>T7 m.to zo zo w;have q4:=fun w=>a3K m w;have q5:=fun w=>a3x p hI hN m hm w;rw [hB];clear hB;generalize Ch.A1 k=Q1 at *;generalize Ch.Y7 m.fr=Q2 at *;generalize Ch.Y7 m.to=Q3 at *;generalize Ch.Z9 m=Q4 at *;generalize Ch.a04 p m=Q5 at *;generalize Ch.S9 p m=Q6 at *;refine zR ?_;refine zK 25 ?_;refine zR ?_;refine g9 _ (fun w hw=>L6 (hM _ (c2.trans hw))) (zR ?_);refine zC ?_;refine zR ?_;refine g9 _ (fun w hw=>L9 (hP _ (c2.trans hw)) _ zo zo) (zR ?_);refine A5 (.int .i64 k) (fun w _=>hkc w) (zR ?_);refine C7 (s8 Q1) (fun _ _ h=>h.trans) (fun w _=>q1 w) (zR ?_);refine g9 _ (fun w hw=>L6 (hM _ (c2.trans hw))) (zR ?_);refine C7 (s8 Q2) (fun _ _ h=>h.trans) (fun w _=>q2 w) (zR ?_);refine E.y6 (v8 zo) ?_;rw [A2];refine zR ?_;refine E.y6 (v8 (by simp only [List.length_append];omega)) ?_
 rw [A2];refine zR ?_;refine g9 _ (fun w hw=>a0g (hM _ (c2.trans hw))) (zR ?_);refine C7 (s8 Q3) (fun _ _ h=>h.trans) (fun w _=>q3 w) (zR ?_);refine E.y6 (v8 (by simp only [List.length_append];omega)) ?_
 rw [A2];refine zR ?_;refine g9 _ (fun w hw=>P9 (hM _ (c2.trans hw))) (zR ?_);refine C7 (s8 Q4) (fun _ _ h=>h.trans) (fun w _=>q4 w) (zR ?_);refine E.y6 (v8 (by simp only [List.length_append];omega)) ?_
 rw [A2];refine zR ?_;refine g9 _ (fun w hw=>y7 (hP _ (c2.trans hw))) (zR ?_);refine g9 _ (fun w hw=>P9 (hM _ (c2.trans hw))) (zR ?_);refine C7 (s8 Q5) (fun _ _ h=>h.trans) (fun w _=>q5 w) (zR ?_);refine E.y6 (v8 (by simp only [List.length_append];omega)) ?_
 rw [A2];refine zR ?_;intro w4 c4;refine zR ?_;exact ⟨rfl,hE _ (c2.trans c4)⟩
theorem b3A (t:Tx):(decide (tx t=(⟨#[42]⟩:ByteArray)))=decide (t=Ch.a5e):=decide_eq_decide.2 (by rw [a0E];exact a0p)
theorem b0D (l:List A3) (q:A3) (hl:∀ p∈l,a4b p) (hq:l.getLast?=some q) (hn:l.length≤100000) (hI:Ch.B7 q) (hN:a1z q) (me:Int) (ou:Tx) {b0:Nat} {v:Value} (w:World) (hrow:Row 24 69 X0 b0 w v l) :
  Calls G.P 38 #[v,.int .i64 me,s8 ou] w (K4 (.tuple #[.int .i64 (Ch.X4 l q (me,ou)).1,s8 (Ch.X4 l q (me,ou)).2]) w):=by
 obtain ⟨al,cl,rfl,hal⟩:=hrow.form;have hpos:0<l.length:=by
  cases l with
  | nil=>cases hq
  | cons=>simp
 obtain ⟨g,rfl⟩:=hal hpos;have hlast:l[l.length-1]'zo=q:=by
  rw [List.getLast?_eq_getElem?,List.getElem?_eq_getElem zo] at hq;exact Option.some.inj hq
 have hlm:IntKind.i64.wrap ((l.length:Int)-1)=((l.length-1:Nat):Int):=by rw [g7 zo zo];omega
 obtain ⟨zv,hz,hz69⟩:=b1P;have ht:=hI.turn;refine zN Tryz.func38 ?_;refine zG ?_;refine zR ?_;refine zC ?_;refine zR ?_;refine d7 (C4 q) (a2n hrow T6 (l.length-1) zo rfl ?_ (by rw [hlast];rfl)) ?_
 ·simp [E.z6,hlm]
 refine zR ?_;refine t7 zv hz (zR ?_);refine J6 (q8 _ _) (X0 q) rfl a13 (B6 _) (one_pos _) (by rw [hz69];omega) (fun w1 u1=>?_)
 have hQ:w1.heap[w.heap.size]?=some (.cells (o9 q) 24 (0,0)):=by
  rw [u1.at_,C5 _ _ (by rw [B6,hz69])];rfl
 have hE:∀ w',Cl w1 w'→Cl w w':=fun w' h=>(u1.cl (Cl.alloc _ _) (Nat.le_refl _)).trans h;clear u1;have hEn:Ch.X4 l q (me,ou)=if (Ch.y8 q).isEmpty then (if !Ch.inCheck q then (4,Ch.X2) else (1,Ch.a1X q.turn))
  else if ou≠Ch.a5e then (me,ou)
  else if Ch.a3B q then (9,Ch.X2) else if 150≤q.half then (8,Ch.X2) else if 5≤Ch.times l q then (6,Ch.X2) else (me,ou):=rfl
 generalize Ch.X4 l q (me,ou)=R at *;refine zR ?_;refine d7 _ (y7 hQ) (zR ?_);refine o8 (a2s q hI hN _) ?_;rintro r w2 ⟨v2,l2,rfl,hlp,hl2,c2⟩;refine ⟨_,rfl,?_⟩;obtain ⟨al2,cl2,rfl,hal2⟩:=hl2.form;have hlen:=hlp.length_eq;have hQ2:=c2.blk hQ;refine zR ?_;apply E.b7<;>intro h
 ·have hemp:(Ch.y8 q).isEmpty=true:=by rw [a0o];exact decide_eq_true zo
  rw [hemp,if_pos rfl] at hEn;clear h;refine zR ?_;refine d7 _ (y7 hQ2) (zR ?_);refine m9 (a3n q hI.pc _ zo zo) fun w3 c23=>?_;have c3:=c2.trans c23;have hQ3:=c23.blk hQ2;generalize Ch.inCheck q=b at *;cases b
  ·refine zR ?_;exact ⟨by rw [hEn];rfl,hE _ c3⟩
  have hE0:R=(1,Ch.a1X q.turn):=hEn;refine zR ?_;refine I8.mk2 [1] (.cons 0 (.cons 2 (.cons 3 (.cons 4 (.cons 5 (.cons 6 .done .nil) .nil) (.cons 5 (.cons 4 (.cons 6 .done .nil) .nil) .nil)) (.cons 5 (.cons 3 (.cons 4 (.cons 6 .done .nil) .nil) .nil) .nil)) (.cons 5 (.cons 2 (.cons 3 (.cons 4 (.cons 6 .done .nil) .nil) .nil) .nil) .nil)) (.cons 2 (.cons 0 (.cons 3 (.cons 4 (.cons 5 (.cons 6 .done .nil) .nil) (.cons 5 (.cons 4 (.cons 6 .done .nil) .nil) .nil)) (.cons 5 (.cons 3 (.cons 4 (.cons 6 .done .nil) .nil) .nil) .nil)) (.cons 5 (.cons 0 (.cons 3 (.cons 4 (.cons 6 .done .nil) .nil) .nil) .nil) .nil)) (.cons 5 (.cons 0 (.cons 2 (.cons 3 (.cons 4 (.cons 6 .done .nil) .nil) .nil) .nil) (.cons 2 (.cons 0 (.cons 3 (.cons 4 (.cons 6 .done .nil) .nil) .nil) .nil) .nil)) .nil))) zk ?_;have cd:Cl w3 w3.drew:=Cl.drew (Cl.refl _);have hr:=H9 B5 w3.drew [[48,45,49],[49,45,48]] zd [s8 [48,45,49],s8 [49,45,48]] rfl (e:=9) (z:=1);have c5:=cd.trans (Cl.alloc w3.drew (.cells (([s8 [48,45,49],s8 [49,45,48]]:List Value).flatMap fun v=>v.cells.toList).toArray 9));have hL5:l8 G.P (w3.drew.alloc (.cells (([s8 [48,45,49],s8 [49,45,48]]:List Value).flatMap fun v=>v.cells.toList).toArray 9)) 9 ⟨w3.drew.heap.size,E.W6 0 q.turn.toNat 1,none⟩ (s8 (Ch.a1X q.turn)):=by
   rcases ht with e | e<;>rw [e]
   ·exact J8 hr B5 0 0 zd zd rfl rfl rfl
   ·exact J8 hr B5 1 0 zd zd rfl rfl rfl
  refine zR ?_;refine ⟨?_,?_,?_,trivial⟩
  ·refine zR ?_;refine E6 elStr [s8 [48,45,49],s8 [49,45,48]] (by rw [Array.toList_map];rfl) (by simp [Value.cells,s8]) rfl zd zd (zR ?_)
   refine ⟨?_,?_,trivial⟩
   ·refine zR ?_;refine d7 _ (E5 (c5.blk hQ3)) (zR ?_);refine ⟨?_,?_,trivial⟩
    ·refine zR ?_;refine zC ?_;refine zR ?_;refine ⟨?_,?_,trivial⟩
     ·refine zR ?_;refine d7 (s8 (Ch.a1X q.turn)) hL5 (zE ?_);refine And.intro (zR ?_) trivial;exact ⟨by rw [hE0];rfl,hE _ (c3.trans c5)⟩
     ·refine zE ?_;refine d7 (s8 (Ch.a1X q.turn)) hL5 (zE ?_);exact ⟨by rw [hE0];rfl,hE _ (c3.trans c5)⟩
    ·refine zE ?_;refine zC ?_;refine zE ?_;refine d7 (s8 (Ch.a1X q.turn)) hL5 (zE ?_);exact ⟨by rw [hE0];rfl,hE _ (c3.trans c5)⟩
   ·refine zE ?_;refine d7 _ (E5 (c5.blk hQ3)) (zE ?_);refine zC ?_;refine zE ?_;refine d7 (s8 (Ch.a1X q.turn)) hL5 (zE ?_);exact ⟨by rw [hE0];rfl,hE _ (c3.trans c5)⟩
  ·refine zR ?_;refine d7 _ (E5 (cd.blk hQ3)) (zR ?_);refine ⟨?_,?_,trivial⟩
   ·refine zR ?_;refine E6 elStr [s8 [48,45,49],s8 [49,45,48]] (by rw [Array.toList_map];rfl) (by simp [Value.cells,s8]) rfl zd zd (zR ?_)
    refine ⟨?_,?_,trivial⟩
    ·refine zR ?_;refine zC ?_;refine zR ?_;refine ⟨?_,?_,trivial⟩
     ·refine zR ?_;refine d7 (s8 (Ch.a1X q.turn)) hL5 (zE ?_);refine And.intro (zR ?_) trivial;exact ⟨by rw [hE0];rfl,hE _ (c3.trans c5)⟩
     ·refine zE ?_;refine d7 (s8 (Ch.a1X q.turn)) hL5 (zE ?_);exact ⟨by rw [hE0];rfl,hE _ (c3.trans c5)⟩
    ·refine zE ?_;refine zC ?_;refine zE ?_;refine d7 (s8 (Ch.a1X q.turn)) hL5 (zE ?_);exact ⟨by rw [hE0];rfl,hE _ (c3.trans c5)⟩
   ·refine zE ?_;refine E6 elStr [s8 [48,45,49],s8 [49,45,48]] (by rw [Array.toList_map];rfl) (by simp [Value.cells,s8]) rfl zd zd (zE ?_)
    refine zC ?_;refine zE ?_;refine d7 (s8 (Ch.a1X q.turn)) hL5 (zE ?_);exact ⟨by rw [hE0];rfl,hE _ (c3.trans c5)⟩
  ·refine zR ?_;refine ⟨?_,?_,trivial⟩
   ·refine zR ?_;refine E6 elStr [s8 [48,45,49],s8 [49,45,48]] (by rw [Array.toList_map];rfl) (by simp [Value.cells,s8]) rfl zd zd (zE ?_)
    refine d7 _ (E5 (c5.blk hQ3)) (zE ?_);refine zC ?_;refine zE ?_;refine d7 (s8 (Ch.a1X q.turn)) hL5 (zE ?_);exact ⟨by rw [hE0];rfl,hE _ (c3.trans c5)⟩
   ·refine zR ?_;refine d7 _ (E5 (cd.blk hQ3)) (zE ?_);refine E6 elStr [s8 [48,45,49],s8 [49,45,48]] (by rw [Array.toList_map];rfl) (by simp [Value.cells,s8]) rfl zd zd (zE ?_)
    refine zC ?_;refine zE ?_;refine d7 (s8 (Ch.a1X q.turn)) hL5 (zE ?_);exact ⟨by rw [hE0];rfl,hE _ (c3.trans c5)⟩
 have hemp:(Ch.y8 q).isEmpty=false:=by rw [a0o];exact decide_eq_false zo
 rw [hemp,if_neg zd] at hEn;clear h;refine zG ?_;refine Nx.mk (zG ?_);refine Nx.mk (zG ?_);simp only [b3A];apply E.r9<;>intro h
 ·rw [if_pos h] at hEn;refine zR ?_;exact ⟨by rw [hEn];rfl,hE _ c2⟩
 rw [if_neg (fun hn=>hn h)] at hEn;clear h;refine zG ?_;refine A4 (σ:=Unit) [1,2,31,32,33] 34 (fun _=>[(1,.int .i64 (if 5≤Ch.times l q then 6 else me)),(2,s8 (if 5≤Ch.times l q then Ch.X2 else ou))]) (fun _ w'=>Cl w1 w') zk ?_ (fun _ j w3 c3=>?_)
 ·refine zR ?_;refine m9 (b8e l q hl hq hn _ (hrow.step (hE _ c2))) fun w3 c3=>zR ?_;apply E.b7<;>intro h
  ·have h5:5≤Ch.times l q:=by omega
   refine zR ?_;exact ⟨(),⟨by rw [if_pos h5];rfl,by rw [if_pos h5];rfl,trivial⟩,c2.trans c3⟩
  ·have h5:¬ 5≤Ch.times l q:=by omega
   refine zR ?_;exact ⟨(),⟨by rw [if_neg h5];rfl,by rw [if_neg h5];rfl,trivial⟩,c2.trans c3⟩
 have hQ3:=c3.blk hQ;generalize Ch.times l q=n at *;refine A4 (σ:=Unit) [1,2,34,35,36] 37 (fun _=>[(1,.int .i64 (if 150≤q.half then 8 else if 5≤n then 6 else me)),(2,s8 (if 150≤q.half then Ch.X2 else if 5≤n then Ch.X2 else ou))]) (fun _ w'=>Cl w1 w') zk ?_ (fun _ j w4 c4=>?_)
 ·refine zR ?_;refine d7 _ (a6U hQ3) (zR ?_);apply E.b7<;>intro h
  ·refine zR ?_;exact ⟨(),⟨by rw [if_pos h];rfl,by rw [if_pos h];rfl,trivial⟩,c3⟩
  ·refine zR ?_;exact ⟨(),⟨by rw [if_neg h];rfl,by rw [if_neg h];rfl,trivial⟩,c3⟩
 have hQ4:=c4.blk hQ;refine A4 (σ:=Unit) [1,2,37,38] 39 (fun _=>[(1,.int .i64 R.1),(2,s8 R.2)]) (fun _ w'=>Cl w1 w') zk ?_ (fun _ j w5 c5=>?_)
 ·refine zR ?_;refine d7 _ (y7 hQ4) (zR ?_);refine m9 (c0c q hI.pc _) fun w5 c5=>?_;generalize Ch.a3B q=d at *;cases d
  ·have hE1:R=if 150≤q.half then (8,Ch.X2) else if 5≤n then (6,Ch.X2) else (me,ou):=hEn
   have r1:(if 150≤q.half then 8 else if 5≤n then 6 else me)=R.1:=by rw [hE1];split<;>(try split)<;>rfl
   have r2:(if 150≤q.half then Ch.X2 else if 5≤n then Ch.X2 else ou)=R.2:=by rw [hE1];split<;>(try split)<;>rfl
   rw [r1,r2];refine zR ?_;exact ⟨(),⟨rfl,rfl,trivial⟩,c4.trans c5⟩
  ·have hE1:R=(9,Ch.X2):=hEn;refine zR ?_;exact ⟨(),⟨by rw [hE1];rfl,by rw [hE1];rfl,trivial⟩,c4.trans c5⟩
 refine zR ?_;exact ⟨rfl,hE _ c5⟩
theorem a4J (a b:List Value):∀ (cs:Array Value) (o:Nat),a4M cs o (a++b)=a4M (a4M cs o a) (o+a.length) b:=by
 induction a with
 | nil=>intro cs o;simp [a4M]
 | cons v r ih=>intro cs o;simp only [List.cons_append,a4M,ih,List.length_cons];congr 1;omega
theorem b46:∀ (l:List Value) (cs:Array Value) (off j:Nat),(l.zipIdx j).foldl (fun cs x=>cs.setIfInBounds (off+x.2) x.1) cs=a4M cs (off+j) l:=by
 intro l
 induction l with
 | nil=>intro cs off j;rfl
 | cons v r ih=>intro cs off j;simp only [List.zipIdx_cons,List.foldl_cons,a4M];rw [ih];congr 1
theorem b2p (v:Value) (cs:Array Value) (off:Nat):v.cells.zipIdx.foldl (fun cs (c,j)=>cs.setIfInBounds (off+j) c) cs=a4M cs off v.cells.toList:=by
 rw [← Array.foldl_toList,Array.toList_zipIdx];have:=b46 v.cells.toList cs off 0;simpa using this
theorem c0s (place:Nat→Option (Nat×Nat)):∀ (vs:List Value) (k off:Nat) (cs:Array Value),(∀ j (h:j<vs.length),place (k+j)=some (off+((vs.take j).map (·.cells.size)).sum,vs[j].cells.size))→off+(vs.map (·.cells.size)).sum≤cs.size →
  Instr.fill place cs ((vs.zipIdx k).map fun x=>(x.2,x.1))=some (a4M cs off (vs.flatMap fun v=>v.cells.toList)):=by
 intro vs
 induction vs with
 | nil=>intro k off cs _ _;rfl
 | cons v r ih =>
  intro k off cs hp hs;have h0:=hp 0 (by simp)
  simp only [Nat.add_zero,List.take_zero,List.map_nil,List.sum_nil,List.getElem_cons_zero] at h0;simp only [List.map_cons,List.sum_cons] at hs;simp only [List.zipIdx_cons,List.map_cons,Instr.fill,h0];rw [if_neg (by simp;omega)]
  rw [b2p,ih (k+1) (off+v.cells.size) _ (fun j h=>?_) (by rw [D6];omega)]
  ·rw [List.flatMap_cons,a4J];simp
  ·have:=hp (j+1) (by simpa using h)
   rw [show k+1+j=k+(j+1) by omega,this]
   simp [List.take_succ_cons,Nat.add_assoc]
def a4K:List Nat→Nat→List (Nat×Nat)
 | [],_=>[]
 | n::r,o=>(o,n)::a4K r (o+n)
theorem b0E:∀ (l:List Nat) (o j:Nat) (h:j<l.length),(a4K l o)[j]?=some (o+(l.take j).sum,l[j]):=by
 intro l
 induction l with
 | nil=>intro o j h;simp at h
 | cons n r ih =>
  intro o j h;cases j with
  | zero=>simp [a4K]
  | succ j=>simp only [a4K,List.getElem?_cons_succ,ih (o+n) j (by simpa using h),List.take_succ_cons,List.sum_cons,List.getElem_cons_succ];congr 2;omega
noncomputable def b6w (t:Nat) (sizes:List Nat):Bool :=
 match G.P.info? t,G.P.underlying t with
 | some it,some (.struct fields)=>match it.zero with
  | some z=>Nat.beq z.cells.size sizes.sum&&decide (fields.toList.mapM (fun f=>(G.P.info? f.type).map fun i=>(f.offset,i.size))=some (a4K sizes 0))
  | none=>false
 | _,_=>false
theorem b6x {t:Nat} {sizes:List Nat} (h:b6w t sizes=true) (vs:List Value) (hv:vs.map (·.cells.size)=sizes) :
  G.P.built t ((vs.zipIdx 0).map fun x=>(x.2,x.1))=some (vs.flatMap fun v=>v.cells.toList).toArray:=by
 unfold b6w at h;split at h
 ·rename_i it fields hi hu;split at h
  ·rename_i z hz;simp only [Bool.and_eq_true,decide_eq_true_eq] at h;obtain ⟨h1,h2⟩:=h;have h1:=Nat.eq_of_beq_eq_true h1;unfold Program.built;simp only [hi,hu,hz,h2];rw [c0s _ vs 0 0 _ (fun j hj=>?_) (by rw [hv,h1];omega)]
   ·rw [C5];rw [List.length_flatMap,h1,← hv];congr 1
   ·have:=b0E sizes 0 j (by rw [← hv];simpa using hj)
    simp only [List.getElem?_toArray,Nat.zero_add] at this ⊢;rw [this];subst hv;simp [List.map_take]
  ·cases h
 ·cases h
def stL (s:Ch.a0A):List Value:=[.int .i64 s.mv.fr,.int .i64 s.mv.to,.int .i64 s.mv.promo,.int .i64 s.tags,s8 s.san,s8 s.lan,s8 s.uci,s8 s.fen,s8 s.xfen]++(X0 s.pos++[s8 s.outcome,.int .i64 s.method,.int .i64 s.status])
theorem U8 (s:Ch.a0A):(stL s).length=81:=by simp [stL,T6]
def stV (s:Ch.a0A):Value:=.agg (stL s).toArray
theorem a8d:G2 28 39 81 696:=R0 zk
theorem b3B (s:Ch.a0A):G.P.built 39 (([G5 s.mv,.int .i64 s.tags,s8 s.san,s8 s.lan,s8 s.uci,s8 s.fen,s8 s.xfen,C4 s.pos,s8 s.outcome,.int .i64 s.method,.int .i64 s.status].zipIdx 0).map fun x=>(x.2,x.1))=some (stL s).toArray:=by
 rw [b6x (sizes:=[3,1,1,1,1,1,1,69,1,1,1]) zk]
 ·congr 1
 ·simp [G5,K2,C4,r7,Value.cells,s8]
theorem c1T:(G.P.info? 39).map (·.size)=some 81:=by kernel_rfl
theorem zSt:∃ z,(G.P.info? 39).bind (·.zero)=some z∧z.cells.size=81:=a0H zk
theorem a4g (s:Ch.a0A):∀ v∈stL s,v.oneCell'=true:=by
 intro v hv;simp only [stL,List.mem_append,List.mem_cons,List.not_mem_nil,or_false] at hv;rcases hv with (rfl | rfl | rfl | rfl | rfl | rfl | rfl | rfl | rfl) | h | rfl | rfl | rfl
 ·rfl
 ·rfl
 ·rfl
 ·rfl
 ·rfl
 ·rfl
 ·rfl
 ·rfl
 ·rfl
 ·exact one_pos _ _ h
 ·rfl
 ·rfl
 ·rfl
def Cmp (t:Nat) (x y:Value) (b:Bool):Prop :=
 ∀ w,(binOp .eql t x y).run G.P w = .ok (.bool b) w∧(binOp .neq t x y).run G.P w = .ok (.bool (!b)) w∧∀ op a v,(eqGuard op t a (.const v) x y).run G.P w = .ok () w
section gens
variable {t:Nat} {x y:Operand} {v:Value} {b:Bool} {dst:Option Nat} {yt ty:Nat} {pos:String} {af:Array Edge} {gd:Option (Nat×Bool)} {env:C0}
theorem b8s {w:World} (hc:Cmp t (ev env x) v b):(execOp (ev env) { dst,op:=.binOp .eql t x (.const v) yt,type:=ty,pos,after:=af,guard:=gd }).run G.P w = .ok (.value (.bool b)) w:=by
 show (do pure (Next.value (← (do eqGuard .eql t x (.const v) (ev env x) v;binOp .eql t (ev env x) v))):Sem Next).run G.P w=_
 rw [Sem.run_bind,Sem.run_bind,(hc w).2.2,Result.andThen_ok,(hc w).1];rfl
theorem b8t {w:World} (hc:Cmp t (ev env x) v b):(execOp (ev env) { dst,op:=.binOp .neq t x (.const v) yt,type:=ty,pos,after:=af,guard:=gd }).run G.P w = .ok (.value (.bool (!b))) w:=by
 show (do pure (Next.value (← (do eqGuard .neq t x (.const v) (ev env x) v;binOp .neq t (ev env x) v))):Sem Next).run G.P w=_
 rw [Sem.run_bind,Sem.run_bind,(hc w).2.2,Result.andThen_ok,(hc w).2.1];rfl
theorem W3 {w:World} {K:Value→World→Prop} (b:Bool) (hc:Cmp t (ev env x) v b) (h:K (.bool b) w):L5 G.P { dst,op:=.binOp .eql t x (.const v) yt,type:=ty,pos,after:=af,guard:=gd } env w K:=⟨.inl ⟨_,w,b8s hc,h⟩⟩
theorem I1 {w:World} {K:Value→World→Prop} (b:Bool) (hc:Cmp t (ev env x) v b) (h:K (.bool (!b)) w):L5 G.P { dst,op:=.binOp .neq t x (.const v) yt,type:=ty,pos,after:=af,guard:=gd } env w K:=⟨.inl ⟨_,w,b8t hc,h⟩⟩
end gens
theorem b8u {t:Nat} (h:P1 G.T t=some .pointer):∃ e,G.P.underlying t=some (.pointer e):=by
 have:=G.tab _ _ h;simp only [okD] at this;split at this
 ·rename_i e he;exact ⟨e,he⟩
 ·cases this
theorem b47 {t:Nat} (h:P1 G.T t=some .iface):∃ e,G.P.underlying t=some (.interface e):=by
 have:=G.tab _ _ h;simp only [okD] at this;split at this
 ·rename_i e he;exact ⟨e,he⟩
 ·cases this
theorem a9z {t:Nat} {x y:Value} {b:Bool} (h:∀ d w,(Op.equalIn (d+1) t x y).run G.P w = .ok b w) (h1:∀ w,(binOp .eql t x y).run G.P w=((Op.equal t x y).run G.P w).andThen fun r w=>.ok (.bool r) w) (h2:∀ w,(binOp .neq t x y).run G.P w=((Op.equal t x y).run G.P w).andThen fun r w=>.ok (.bool (!r)) w)
  (h3:∀ op a v w,(eqGuard op t a (.const v) x y).run G.P w = .ok () w):Cmp t x y b:=fun w =>
 ⟨by rw [h1,Op.equal,show Op.maxDepth=9999+1 from rfl,h];rfl,by rw [h2,Op.equal,show Op.maxDepth=9999+1 from rfl,h];rfl,fun op a v=>h3 op a v w⟩
theorem b8v {op:BinOp} {t:Nat} {a:Operand} {v:Value} {p q:Option Addr} (w:World):(eqGuard op t a (.const v) (.pointer p) (.pointer q)).run G.P w = .ok () w:=by unfold eqGuard;cases op<;>rfl
theorem b8w {op:BinOp} {t:Nat} {a:Operand} {v:Value} {p q:Option Addr} {n m c d:Nat} (w:World):(eqGuard op t a (.const v) (.slice p n c) (.slice q m d)).run G.P w = .ok () w:=by unfold eqGuard;cases op<;>rfl
theorem N1 {t:Nat} (ht:P1 G.T t=some .pointer) (p:Option Addr):Cmp t (.pointer p) (.pointer none) p.isNone:=by
 obtain ⟨e,he⟩:=b8u ht;refine a9z (fun d w=>?_) (fun w=>by simp [binOp]) (fun w=>by simp [binOp]) (fun op a v w=>b8v w)
 cases p<;>simp [Op.equalIn,run_underlying he]
theorem a52 {t el z:Nat} (ht:P1 G.T t=some (.slice el z)) (p:Option Addr) (n c:Nat):Cmp t (.slice p n c) (.slice none 0 0) p.isNone:=by
 obtain ⟨he,_⟩:=a3h (G.tab _ _ ht);refine a9z (fun d w=>?_) (fun w=>by simp [binOp]) (fun w=>by simp [binOp]) (fun op a v w=>b8w w)
 cases p<;>simp [Op.equalIn,run_underlying he]
theorem F8 {t:Nat} (ht:P1 G.T t=some .iface):Cmp t .nilIface .nilIface true:=by
 obtain ⟨e,he⟩:=b47 ht;refine a9z (fun d w=>?_) (fun w=>by simp [binOp]) (fun w=>by simp [binOp]) (fun op a v w=>by unfold eqGuard;cases op<;>simp)
 simp [Op.equalIn,run_underlying he]
structure Tn (b:Nat) (w w':World):Prop where
 os:w'.os=w.os
 tape:w'.tape=w.tape
 output:w'.output=w.output
 size:w.heap.size≤w'.heap.size
 else_:∀ k,k<w.heap.size→k≠b→w'.heap[k]?=w.heap[k]?
theorem Tn.refl (b:Nat) (w:World):Tn b w w:=⟨rfl,rfl,rfl,Nat.le_refl _,fun _ _ _=>rfl⟩
theorem Tn.trans {b:Nat} {w w1 w2:World} (h:Tn b w w1) (h':Tn b w1 w2):Tn b w w2 :=
 ⟨h'.os.trans h.os,h'.tape.trans h.tape,h'.output.trans h.output,Nat.le_trans h.size h'.size,fun k hk hne=>(h'.else_ k (Nat.lt_of_lt_of_le hk h.size) hne).trans (h.else_ k hk hne)⟩
theorem Tn.cl {b:Nat} {w w':World} (h:Cl w w'):Tn b w w':=⟨h.os,h.tape,h.output,h.size,fun k hk _=>h.block k hk⟩
theorem Tn.upd {b:Nat} {o:Obj} {w w':World} (h:Upd w b o w'):Tn b w w':=⟨h.os,h.tape,h.output,by rw [h.size];exact Nat.le_refl _,fun k _ hne=>h.else_ k hne⟩
theorem Tn.blk {b:Nat} {w w':World} (h:Tn b w w') {k:Nat} {o:Obj} (hk:w.heap[k]?=some o) (hne:k≠b):w'.heap[k]?=some o:=by
 rw [h.else_ k (Array.getElem?_eq_some_iff.1 hk).1 hne,hk]
theorem Tn.toCl {b:Nat} {w0 w w':World} (h:Tn b w w') (hc:Cl w0 w) (hb:w0.heap.size≤b):Cl w0 w' :=
 Below.trans hc ⟨h.os,h.tape,h.output,h.size,fun k hk=>h.else_ k (Nat.lt_of_lt_of_le hk hc.size) zo⟩
theorem Y2.tn {w w':World} {g n b:Nat} {f:Nat→Value} {cs:Array Value} {u:Nat} {fz:Nat×Nat} (h:Y2 w g n f) (hc:Tn b w w') (hb:w.heap[b]?=some (.cells cs u fz)) (hu:a1J u=false):Y2 w' g n f:=by
 obtain ⟨cs,t,fz,h1,h2,h3⟩:=h;refine ⟨cs,t,fz,hc.blk h1 (fun e=>?_),h2,h3⟩;subst e;rw [hb] at h1;injection h1 with h1;injection h1 with _ h1 _;rw [← h1,hu] at h2;cases h2
theorem a6q.tn {w w':World} {g o n b:Nat} {f:Nat→Value} {cs:Array Value} {u:Nat} {fz:Nat×Nat} (h:a6q w g o n f) (hc:Tn b w w') (hb:w.heap[b]?=some (.cells cs u fz)) (hu:a1J u=false):a6q w' g o n f:=by
 obtain ⟨cs,t,fz,h1,h2,h3⟩:=h;refine ⟨cs,t,fz,hc.blk h1 (fun e=>?_),h2,h3⟩;subst e;rw [hb] at h1;injection h1 with h1;injection h1 with _ h1 _;rw [← h1,hu] at h2;cases h2
theorem a6r.tn {w w':World} {g n b:Nat} {f:Nat→Value} {cs:Array Value} {u:Nat} {fz:Nat×Nat} (h:a6r w g n f) (hc:Tn b w w') (hb:w.heap[b]?=some (.cells cs u fz)) (hu:a1J u=false):a6r w' g n f:=by
 obtain ⟨k,o,c,h1,h2⟩:=h;exact ⟨k,o,c,h1.tn hc hb hu,h2.tn hc hb hu⟩
theorem C1.tn {w w':World} {b:Nat} {cs:Array Value} {u:Nat} {fz:Nat×Nat} (h:C1 w) (hc:Tn b w w') (hb:w.heap[b]?=some (.cells cs u fz)) (hu:a1J u=false):C1 w' :=
 ⟨h.dia.tn hc hb hu,h.anti.tn hc hb hu,h.ranks.tn hc hb hu,h.files.tn hc hb hu,h.kn.tn hc hb hu,h.kg.tn hc hb hu,h.all.tn hc hb hu,h.promo.tn hc hb hu,h.wfen.tn hc hb hu,h.bfen.tn hc hb hu,h.fen.tn hc hb hu⟩
theorem c2R:(G.P.info? 235).map (·.size)=some 1:=by kernel_rfl
theorem b8x:(G.P.info? 138).map (·.size)=some 1:=by kernel_rfl
theorem b98:(G.P.info? 136).map (·.size)=some 1:=by kernel_rfl
theorem H5 (k:IntKind) (n:Int):∀ u∈[Value.int k n],u.oneCell'=true:=by intro u hu;simp at hu;subst hu;rfl
theorem a54 {w:World} {B:MB} {b u:Nat} {K:World→Prop} (hB:w.heap[b]?=some (.cells (mbA B) u (0,0))) (i:Nat) (hi:i<15) (v:Nat) (h:∀ w',Upd w b (.cells (mbA (B.set i v)) u (0,0)) w'→K w'):Z1 G.P w 235 ⟨b,i,none⟩ (.int .u64 v) K :=
 J6 hB [.int .u64 v] rfl c2R rfl (H5 _ _) (by rw [a1Y];omega) (fun w2 u2=>h w2 (by rw [b8g _ _ _ hi] at u2;exact u2))
theorem c0t {w:World} {B:MB} {b u:Nat} {K:World→Prop} (hB:w.heap[b]?=some (.cells (mbA B) u (0,0))) (x:Int) (h:∀ w',Upd w b (.cells (mbA { B with wk:=x }) u (0,0)) w'→K w'):Z1 G.P w 138 ⟨b,15,none⟩ (.int .i8 x) K :=
 J6 hB [.int .i8 x] rfl b8x rfl (H5 _ _) (by rw [a1Y];decide) (fun w2 u2=>h w2 u2)
theorem c0u {w:World} {B:MB} {b u:Nat} {K:World→Prop} (hB:w.heap[b]?=some (.cells (mbA B) u (0,0))) (x:Int) (h:∀ w',Upd w b (.cells (mbA { B with bk:=x }) u (0,0)) w'→K w'):Z1 G.P w 138 ⟨b,16,none⟩ (.int .i8 x) K :=
 J6 hB [.int .i8 x] rfl b8x rfl (H5 _ _) (by rw [a1Y];decide) (fun w2 u2=>h w2 u2)
theorem a4L (B:MB) (b:Nat) {t:Nat} (x:Int) (h0:1≤x) (h1:x≤12) (v:Nat) (w:World) (hb:w.heap[b]?=some (.cells (mbA B) t (0,0))) :
  Calls G.P 276 #[.pointer (some ⟨b,0,none⟩),.int .i8 x,.int .u64 v] w (fun r w'=>r = .returned (.tuple #[])∧Upd w b (.cells (mbA (B.set (x.toNat-1) v)) t (0,0)) w'):=by
 refine zN Tryz.func276 ?_;have hx:x=1∨x=2∨x=3∨x=4∨x=5∨x=6∨x=7∨x=8∨x=9∨x=10∨x=11∨x=12:=by omega
 rcases hx with rfl | rfl | rfl | rfl | rfl | rfl | rfl | rfl | rfl | rfl | rfl | rfl;all_goals
  refine zR ?_;refine a54 hb _ zd v (fun w2 u2=>zR ?_);exact ⟨rfl,u2⟩
theorem a5Y (B:MB) (b:Nat) {t:Nat} {fz:Nat×Nat} (w:World) (hB:w.heap[b]?=some (.cells (mbA B) t fz)) :
  Calls G.P 255 #[.pointer (some ⟨b,0,none⟩)] w (fun r w'=>∃ b',r = .returned (.pointer (some ⟨b',0,none⟩))∧w.heap.size≤b'∧w'.heap[b']?=some (.cells (mbA B) 237 (0,0))∧Cl w w'):=by
 refine zN Tryz.func255 ?_;refine zR ?_;refine zK 68 ?_;refine zQ ?_;intro w4 c4;refine zR ?_;refine s9 (mbA B) zk (zR ?_);exact ⟨_,rfl,c4.size,q8 _ _,c4.trans (Cl.alloc _ _)⟩
structure c3c (w:World) (P b:Nat) (h:Hd) (B:MB):Prop where
 hd:∃ cv,w.heap[P]?=some (.cells (hdA b h cv) 173 (0,0))
 bd:w.heap[b]?=some (.cells (mbA B) 237 (0,0))
theorem b48 {P b t u:Nat} {h:Hd} {cv:Value} {fz fy:Nat×Nat} {B:MB} (w:World) (hP:w.heap[P]?=some (.cells (hdA b h cv) t fz)) (hB:w.heap[b]?=some (.cells (mbA B) u fy)) :
  Calls G.P 286 #[.pointer (some ⟨P,0,none⟩)] w (fun r w'=>∃ P' b',r = .returned (.pointer (some ⟨P',0,none⟩))∧w.heap.size≤P'∧w.heap.size≤b'∧b'<P' ∧
   w'.heap[P']?=some (.cells (hdA b' h (.slice none 0 0)) 173 (0,0))∧w'.heap[b']?=some (.cells (mbA B) 237 (0,0))∧Cl w w'):=by
 refine zN Tryz.func286 ?_;refine zR ?_;refine I8.mk3 (Cl w) [0,1,2,3,5,6,7,8,9,10,11,12,13,14,15,16,17,18,19,20,21,22,23,24,25,26,27,28] (.cons 4 (.cons 29 (.cons 30 (.cons 31 .done .nil) .nil) .nil) .nil) (Cl.drew (Cl.refl _)) zk (zR ?_);refine g9 _ (fun w hw=>a7o (hw.blk hP)) (zR ?_);refine g9 _ (fun w hw=>a69 (hw.blk hP)) (zR ?_);refine g9 _ (fun w hw=>a2X (hw.blk hP)) (zR ?_);refine g9 _ (fun w hw=>a86 (hw.blk hP)) (zR ?_);refine g9 _ (fun w hw=>a2u (hw.blk hP)) (zR ?_);refine g9 _ (fun w hw=>a4F (hw.blk hP)) (zR ?_);refine g9 _ (fun w hw=>b2h (hw.blk hP)) (zE ?_);have cd:Cl w w.drew:=Cl.drew (Cl.refl _);refine o8 (a5Y B b _ (cd.blk hB)) ?_;rintro r w1 ⟨b',rfl,hb',hB',c1⟩;refine ⟨_,rfl,?_⟩;have c1':=cd.trans c1;refine zR ?_;refine And.intro c1' (zE ?_);refine s9 (hdA b' h (.slice none 0 0)) zk (zR ?_);refine And.intro c1' (zE ?_);have c2:=c1'.trans (Cl.alloc w1 (.cells (hdA b' h (.slice none 0 0)) 173));refine And.intro c2 (zE ?_);refine And.intro c2 (zR ?_);exact ⟨_,_,rfl,c1'.size,Nat.le_trans cd.size hb',(Array.getElem?_eq_some_iff.1 hB').1,q8 _ _,(Cl.alloc _ _).blk hB',c2⟩
theorem c1U {a b:Nat} {K:Int→Prop} (ha:a<65536) (hb:b<65536) (h:K ((a ||| b:Nat):Int)):∀ r:Int,r=a0f .or .u16 a b→K r:=by
 intro r hr;have e1:(BitVec.ofInt 16 (a:Int)).toNat=a:=by rw [BitVec.ofInt_natCast,BitVec.toNat_ofNat,Nat.mod_eq_of_lt ha]
 have e2:(BitVec.ofInt 16 (b:Int)).toNat=b:=by rw [BitVec.ofInt_natCast,BitVec.toNat_ofNat,Nat.mod_eq_of_lt hb]
 have e:a0f .or .u16 a b=((a ||| b:Nat):Int):=by
  show IntKind.u16.wrap ((BitVec.ofInt 16 (a:Int) ||| BitVec.ofInt 16 (b:Int)).toNat:Int)=_
  rw [BitVec.toNat_or,e1,e2];have:=Nat.or_lt_two_pow (n:=16) ha hb;simp [IntKind.wrap,IntKind.bits,IntKind.signed];omega
 rw [hr,e];exact h
theorem c0v {a b:Nat} {K:Int→Prop} (ha:a<65536) (hb:b<65536) (h:K ((a &&& b:Nat):Int)):∀ r:Int,r=a0f .and .u16 a b→K r:=by
 intro r hr;have e1:(BitVec.ofInt 16 (a:Int)).toNat=a:=by rw [BitVec.ofInt_natCast,BitVec.toNat_ofNat,Nat.mod_eq_of_lt ha]
 have e2:(BitVec.ofInt 16 (b:Int)).toNat=b:=by rw [BitVec.ofInt_natCast,BitVec.toNat_ofNat,Nat.mod_eq_of_lt hb]
 have e:a0f .and .u16 a b=((a &&& b:Nat):Int):=by
  show IntKind.u16.wrap ((BitVec.ofInt 16 (a:Int) &&& BitVec.ofInt 16 (b:Int)).toNat:Int)=_;rw [BitVec.toNat_and,e1,e2];have:=Nat.and_lt_two_pow (n:=16) a hb;simp [IntKind.wrap,IntKind.bits,IntKind.signed];omega
 rw [hr,e];exact h
theorem b3C (n k:Nat):2^k &&& n=if n.testBit k then 2^k else 0:=by
 apply Nat.eq_of_testBit_eq;intro i;rw [Nat.testBit_and,Nat.testBit_two_pow];by_cases e:k=i
 ·subst e;cases h:n.testBit k<;>simp [Nat.testBit_two_pow]
 ·cases h:n.testBit k<;>simp [e,Nat.testBit_two_pow]
theorem a1w {M t k:Nat} {d:Nd} {fz:Nat×Nat} (hk:k<16) (hd:d.tags<65536) (w:World) (hM:w.heap[M]?=some (.cells (F0 d) t fz)) :
  Calls G.P 147 #[.pointer (some ⟨M,0,none⟩),.int .u16 ((2^k:Nat):Int)] w (D5 (.bool (d.tags.testBit k)) w):=by
 have hp:2^k<65536:=Nat.pow_lt_pow_right (n:=16) zd hk;have ha:=b3C d.tags k;have hpos:0<2^k:=Nat.two_pow_pos k;generalize 2^k=T at *;refine zN Tryz.func147 ?_;refine zR ?_;refine d7 _ (a9w hM) (zR ?_);refine c0v hp hd (zR ?_);refine ⟨m8 ?_,rfl⟩;rw [ha];cases h:d.tags.testBit k
 ·rfl
 ·simpa using hpos
theorem V9 {M t tag:Nat} {d:Nd} (hd:d.tags<65536) (ht:tag<65536) (w:World) (hM:w.heap[M]?=some (.cells (F0 d) t (0,0))) :
  Calls G.P 254 #[.pointer (some ⟨M,0,none⟩),.int .u16 tag] w (fun r w'=>r = .returned (.tuple #[])∧Upd w M (.cells (F0 { d with tags:=d.tags ||| tag }) t (0,0)) w'):=by
 refine zN Tryz.func254 ?_;refine zR ?_;refine d7 _ (a9w hM) (zR ?_);refine c1U hd ht (zR ?_);refine J6 hM [.int .u16 ((d.tags ||| tag:Nat):Int)] rfl b98 rfl (H5 _ _) (Nat.le_of_ble_eq_true rfl) (fun w2 u2=>zR ?_)
 exact ⟨rfl,u2⟩
theorem a90 {B:MB} [hO:B.Ok] {b t:Nat} {fz:Nat×Nat} (s:Nat) (hs:s<64) (w:World) (hB:w.heap[b]?=some (.cells (mbA B) t fz)) :
  Calls G.P 285 #[.pointer (some ⟨b,0,none⟩),.int .i8 s] w (D5 (.bool (!(B.f 14).testBit (63-s))) w):=by
 have c1:=fun w=>a1u (B.f 14) s hs w;refine zN Tryz.func285 ?_;refine zR ?_;refine d7 _ (U7 hB _ zd) (zR ?_);refine d9 (c1 _) (zR ?_);exact ⟨rfl,rfl⟩
instance whites_ok {B:MB} [hO:B.Ok]:L64 B.whites:=by unfold MB.whites;infer_instance
instance blacks_ok {B:MB} [hO:B.Ok]:L64 B.blacks:=by unfold MB.blacks;infer_instance
instance sums_ok {B:MB} [hO:B.Ok]:B.sums.Ok:=by unfold MB.sums;infer_instance
theorem c0w {B:MB} [hO:B.Ok] {b M t:Nat} {d:Nd} {fz:Nat×Nat} (hne:M≠b) (w:World) (hB:w.heap[b]?=some (.cells (mbA B) 237 (0,0))) (hM:w.heap[M]?=some (.cells (F0 d) t fz)) :
  Calls G.P 277 #[.pointer (some ⟨b,0,none⟩),.pointer (some ⟨M,0,none⟩)] w (fun r w'=>r = .returned (.tuple #[])∧w'.heap[b]?=some (.cells (mbA (B.sums.kings d.mv.fr d.mv.to)) 237 (0,0))∧Tn b w w'):=by
 have eW:B.whites=B.f 0 ||| B.f 1 ||| B.f 2 ||| B.f 3 ||| B.f 4 ||| B.f 5:=rfl
 have eK:B.blacks=B.f 6 ||| B.f 7 ||| B.f 8 ||| B.f 9 ||| B.f 10 ||| B.f 11:=rfl
 have lW:L64 B.whites:=inferInstance;have lK:L64 B.blacks:=inferInstance;have eS:B.sums=((B.set 12 B.whites).set 13 B.blacks).set 14 (Bb.not (B.whites ||| B.blacks)):=rfl
 rw [eS];refine zN Tryz.func277 ?_;refine zR ?_;refine zK 30 ?_;refine zQ ?_;intro w1 c1;have hB1:=c1.blk hB;have hM1:=c1.blk hM;refine zR ?_;refine zK 30 ?_;clear hB;have hB:=hB1;refine zQ ?_;intro w2 c2;have hB2:=c2.blk hB1;have hM2:=c2.blk hM1;have n2:Tn b w w2:=Tn.cl (c1.trans c2);clear hB hB1 hM hM1 c1 c2;rw [← eW,← eK];have eU:B.whites ||| B.blacks=B.whites ||| B.blacks:=rfl
 generalize B.whites=W at *;generalize B.blacks=K at *;have hB:=hB2;have hM:=hM2;refine zB ?_;refine a54 hB 12 zd _ (fun w3 u3=>?_);have n3:=n2.trans (Tn.upd u3);have hB:=u3.at_;have hM:=(Tn.upd u3).blk hM2 hne;refine zB ?_;refine a54 hB 13 zd _ (fun w4 u4=>?_);have n4:=n3.trans (Tn.upd u4);have hM:=(Tn.upd u4).blk hM hne;have hB:=u4.at_;refine zB ?_;refine a54 hB 14 zd _ (fun w5 u5=>?_);have n5:=n4.trans (Tn.upd u5);have hM:=(Tn.upd u5).blk hM hne;have hB:=u5.at_;generalize ((B.set 12 W).set 13 K).set 14 (Bb.not (W ||| K))=S at *
 clear u3 u4 u5 n3 n4 n2 hM2 hB2;refine zB ?_;refine W3 false (N1 rfl _) (zR ?_);refine zK 10 ?_;refine zQ ?_;intro w6 c6;have hB:=c6.blk hB;have hM:=c6.blk hM;have n6:=n5.trans (Tn.cl c6);refine zR ?_;apply E.b7<;>intro h
 ·refine zB ?_;refine c0t hB _ (fun w7 u7=>zR ?_);refine ⟨rfl,?_,n6.trans (Tn.upd u7)⟩;rw [u7.at_];unfold MB.kings;rw [if_pos h]
 ·have h1:=h;clear h;refine zR ?_;refine zK 10 ?_;refine zQ ?_;intro w7 c7;have hB:=c7.blk hB;have hM:=c7.blk hM;have n7:=n6.trans (Tn.cl c7);refine zR ?_;apply E.b7<;>intro h
  ·refine zB ?_;refine c0u hB _ (fun w8 u8=>zR ?_);refine ⟨rfl,?_,n7.trans (Tn.upd u8)⟩;rw [u8.at_];unfold MB.kings;rw [if_neg h1,if_pos h]
  ·refine zR ?_;refine ⟨rfl,?_,n7⟩;rw [hB];unfold MB.kings;rw [if_neg h1,if_neg h]
end
end Go.Proofs.YtpclhlhcegcflaaGreatDoor
