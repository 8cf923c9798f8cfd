/- One part of the proof: Pk16 Pk17 Pk18 Pk19. -/
import Derived.Test.YtpclhlhcegcflaaGreatDoorM1
import Derived.Test.YtpclhlhcegcflaaGreatDoorM3
import Derived.Test.YtpclhlhcegcflaaGreatDoorM18
namespace Go.Proofs.YtpclhlhcegcflaaGreatDoor
set_option maxRecDepth 100000
set_option linter.unusedSimpArgs false
set_option linter.unusedVariables false
section
open Go Go.RowKit
open E
open Ch Bb
theorem b6M {c:UInt8} {s:Tx}:ixZ c s<0↔c∉s:=by
 unfold ixZ;by_cases h:c∈s
 ·rw [if_pos h];constructor
  ·intro h2;omega
  ·intro h2;exact absurd h h2
 ·rw [if_neg h];exact ⟨fun _=>h,fun _=>by decide⟩
theorem b6N {c:UInt8} {s:Tx} (h:c∉s):F9 s c=s:=by
 unfold F9;rw [List.filter_eq_self];intro x hx;simp only [bne_iff_ne,ne_eq];intro e;subst e;exact h hx
theorem b6O {c:UInt8}:∀ {s:Tx},c∈s→F9 s c=s.take (s.idxOf c)++F9 (s.drop (s.idxOf c+1)) c∧s.idxOf c<s.length:=by
 intro s
 induction s with
 | nil=>intro h;cases h
 | cons x r ih =>
  intro h;by_cases e:x=c
  ·subst e;simp [F9]
  ·have h2:c∈r:=by
    rcases List.mem_cons.1 h with h | h
    ·exact absurd h.symm e
    ·exact h
   obtain ⟨h3,h4⟩:=ih h2;have e1:(x::r).idxOf c=r.idxOf c+1:=by
    rw [List.idxOf_cons,show (x==c)=false by simpa using e];rfl
   rw [e1];refine ⟨?_,by simp;omega⟩
   rw [List.take_succ_cons,List.drop_succ_cons,List.cons_append,← h3];simp [F9,e]
theorem D1 (c:UInt8) (s:Tx) (hs:s.length≤1000) (w:World):Calls G.P 287 #[s8 s,s8 [c],s8 []] w (K4 (s8 (F9 s c)) w):=by
 have h1:(tx [c]).size=1:=C9 _;refine zN Tryz.func287 ?_;refine zR ?_;refine A9 (σ:=Tx×Tx×Value) [0,6,7,10] 11 (fun t=>[(0,s8 t.1),(7,t.2.2)]) (fun t w'=>t.1.length+t.2.1.length≤1000∧F9 s c=t.2.1++F9 t.1 c∧Cl w w'∧Row 5 1 a0r w.heap.size w' t.2.2 t.2.1) (fun t=>t.1.length) zk (s,[],.slice none 0 0) ⟨by simpa using hs,rfl,Cl.refl _,Row.nil _ _⟩ ⟨rfl,rfl,trivial⟩ ?_
 rintro ⟨r,l,v⟩ j w2 ⟨hl,hst,c2,hr⟩;simp only at hl hst hr ⊢;obtain ⟨a,k,rfl,_⟩:=hr.form;refine zR ?_;refine d9 (a56 c r zo w2) (zR ?_);apply E.b7<;>intro h
 ·refine zR ?_;refine a78 rfl hr rfl zo c2.size fun v' w' hr' hc'=>?_;obtain ⟨a9,c9,rfl,_⟩:=hr'.form;refine zR ?_;refine a8F _ rfl hr' (zR ?_);exact ⟨by rw [hst,b6N (b6M.1 h)];rfl,hc' w rfl c2⟩
 ·have hm:c∈r:=Classical.byContradiction fun h2=>h (b6M.2 h2);obtain ⟨hsp,hlt⟩:=b6O hm;have ei:ixZ c r=(r.idxOf c:Int):=by unfold ixZ;rw [if_pos hm]
  have ni:=C2 (i:=r.idxOf c) zo;refine zR ?_;refine b0P (r.take (r.idxOf c)) rfl rfl rfl (by rw [ei];omega) (by rw [ei];omega) (by rw [ei];rfl) (zR ?_)
  refine a78 rfl hr rfl (by rw [List.length_take];omega) c2.size fun v' w' hr' hc'=>?_
  obtain ⟨a9,c9,rfl,_⟩:=hr'.form;have c3:=hc' w rfl c2;refine zR ?_;refine a78 (s:=[]) rfl hr' rfl (by rw [List.length_append,List.length_take];simp;omega) c3.size fun v2 w3 hr2 hc2=>?_
  rw [List.append_nil] at hr2;obtain ⟨a8,c8,rfl,_⟩:=hr2.form;have c4:=hc2 w rfl c3;refine zR ?_;rw [h1,ei,show ((1:Nat):Int)=1 from rfl,ni];refine a79 (r.drop (r.idxOf c+1)) rfl rfl rfl zo zo rfl (zR ?_);refine ⟨(r.drop (r.idxOf c+1),l++r.take (r.idxOf c),_),⟨rfl,rfl,trivial⟩,⟨?_,?_,c4,hr2⟩,?_⟩
  ·show (r.drop (r.idxOf c+1)).length+(l++r.take (r.idxOf c)).length≤1000;rw [List.length_drop,List.length_append,List.length_take];omega
  ·show F9 s c=(l++r.take (r.idxOf c))++F9 (r.drop (r.idxOf c+1)) c;rw [hst,hsp,List.append_assoc]
  ·show (r.drop (r.idxOf c+1)).length<r.length;rw [List.length_drop];omega
theorem a31 (t:Tx) (c:UInt8):(F9 t c).length≤t.length:=List.length_filter_le _ _
theorem a3c {p:A3} (hI:B7 p) {P b M:Nat} {cv:Value} {c:Bool} {d:Nd} (f0:0≤d.mv.fr) (f1:d.mv.fr≤63) (w:World) (hT:C1 w)
  (hP:w.heap[P]?=some (.cells (hdA b (A8 p c) cv) 173 (0,0))) (hB:w.heap[b]?=some (.cells (mbA (mbOf p)) 237 (0,0))) (hM:w.heap[M]?=some (.cells (F0 d) 141 (0,0))) :
  Calls G.P 256 #[.pointer (some ⟨P,0,none⟩),.pointer (some ⟨M,0,none⟩)] w (K4 (s8 (crM (castT p.castle) (crF p d.mv 0) (crF p d.mv 1) (crF p d.mv 2) (crF p d.mv 3))) w):=by
 have hM0:=hM;obtain ⟨fr,hfr⟩:=Int.eq_ofNat_of_zero_le f0;have hf64:fr<64:=by omega
 have hlen0:(castT p.castle).length≤4:=a0Y _;have hcr:crM (castT p.castle) (crF p d.mv 0) (crF p d.mv 1) (crF p d.mv 2) (crF p d.mv 3)=c0D (if crF p d.mv 3 then F9 (if crF p d.mv 2 then F9 (if crF p d.mv 1 then F9 (if crF p d.mv 0 then F9 (castT p.castle) 75 else castT p.castle) 81 else (if crF p d.mv 0 then F9 (castT p.castle) 75 else castT p.castle)) 107 else (if crF p d.mv 1 then F9 (if crF p d.mv 0 then F9 (castT p.castle) 75 else castT p.castle) 81 else (if crF p d.mv 0 then F9 (castT p.castle) 75 else castT p.castle))) 113 else (if crF p d.mv 2 then F9 (if crF p d.mv 1 then F9 (if crF p d.mv 0 then F9 (castT p.castle) 75 else castT p.castle) 81 else (if crF p d.mv 0 then F9 (castT p.castle) 75 else castT p.castle)) 107 else (if crF p d.mv 1 then F9 (if crF p d.mv 0 then F9 (castT p.castle) 75 else castT p.castle) 81 else (if crF p d.mv 0 then F9 (castT p.castle) 75 else castT p.castle)))):=rfl
 rw [hcr];clear hcr;have pc:=fun w hT hB=>W2 (mbOf p) b (t:=237) (fz:=(0,0)) fr hf64 w hT hB;rw [T8 hI.pc hf64] at pc;obtain ⟨T,hTT⟩:∃ T,castT p.castle=T:=⟨_,rfl⟩;rw [hTT] at hlen0 ⊢;refine zN Tryz.func256 ?_;refine zR ?_;refine d7 _ (a2X hP) ?_;have hcas:(A8 p c).cas=T:=hTT;rw [hcas];refine zR ?_;refine zK 9 ?_;refine zR ?_;refine qHb hP (zR ?_);refine a2Y hM ?_;rw [hfr];refine zR ?_;refine A5 _ (fun w hw=>pc w (hT.cl hw) (hw.blk hB)) (zG ?_);intro wS cw;refine zG ?_;rw [← hfr];refine A4 (σ:=Unit) [5] 7 (fun _=>[(5,s8 (if crF p d.mv 0 then F9 T 75 else T))]) (fun _ w'=>Cl w w') zk ?_ (fun _ j w0 c0=>?_)
 ·have hM:=cw.blk hM0;have hc:crF p d.mv 0=(decide (sq p d.mv.fr=1)||decide (d.mv.fr=7)||decide (d.mv.to=7)):=rfl
  have hl:=hlen0;refine zR ?_;apply E.b7<;>intro h
  ·have hy:crF p d.mv 0=true:=by rw [hc,decide_eq_true h];rfl
   refine zR ?_;refine m9 (D1 75 T zo _) fun w9 c9=>zR ?_;exact ⟨(),⟨by rw [hy];rfl,trivial⟩,cw.trans c9⟩
  ·have h1:=h;clear h;refine zR ?_;refine a3C hM (zR ?_);apply E.b7<;>intro h
   ·have hy:crF p d.mv 0=true:=by rw [hc,decide_eq_true h,Bool.or_true];rfl
    refine zR ?_;try (refine E.D4 h ?_;refine zR ?_)
    refine m9 (D1 75 T zo _) fun w9 c9=>zR ?_;exact ⟨(),⟨by rw [hy];rfl,trivial⟩,cw.trans c9⟩
   ·have h2:=h;clear h;refine zR ?_;refine a5x hM (zR ?_);apply E.b7<;>intro h
    ·have hy:crF p d.mv 0=true:=by rw [hc,decide_eq_true h,Bool.or_true]
     refine zR ?_;refine m9 (D1 75 T zo _) fun w9 c9=>zR ?_;exact ⟨(),⟨by rw [hy];rfl,trivial⟩,cw.trans c9⟩
    ·have hy:crF p d.mv 0=false:=by rw [hc,decide_eq_false h1,decide_eq_false h2,decide_eq_false h];rfl
     refine zR ?_;exact ⟨(),⟨by rw [hy];rfl,trivial⟩,cw⟩
 obtain ⟨T0,hT0⟩:∃ T',(if crF p d.mv 0 then F9 T 75 else T)=T':=⟨_,rfl⟩
 have hlen1:T0.length≤4:=by rw [← hT0];split;exact Nat.le_trans (a31 _ _) hlen0;exact hlen0
 rw [hT0];refine A4 (σ:=Unit) [5] 7 (fun _=>[(5,s8 (if crF p d.mv 1 then F9 T0 81 else T0))]) (fun _ w'=>Cl w w') zk ?_ (fun _ j w1 c1=>?_)
 ·have hM:=c0.blk hM0;have hc:crF p d.mv 1=(decide (sq p d.mv.fr=1)||decide (d.mv.fr=0)||decide (d.mv.to=0)):=rfl
  have hl:=hlen1;refine zR ?_;apply E.b7<;>intro h
  ·have hy:crF p d.mv 1=true:=by rw [hc,decide_eq_true h];rfl
   refine zR ?_;refine m9 (D1 81 T0 zo _) fun w9 c9=>zR ?_;exact ⟨(),⟨by rw [hy];rfl,trivial⟩,c0.trans c9⟩
  ·have h1:=h;clear h;refine zR ?_;refine a3C hM (zR ?_);apply E.b7<;>intro h
   ·have hy:crF p d.mv 1=true:=by rw [hc,decide_eq_true h,Bool.or_true];rfl
    refine zR ?_;try (refine E.D4 h ?_;refine zR ?_)
    refine m9 (D1 81 T0 zo _) fun w9 c9=>zR ?_;exact ⟨(),⟨by rw [hy];rfl,trivial⟩,c0.trans c9⟩
   ·have h2:=h;clear h;refine zR ?_;refine a5x hM (zR ?_);apply E.b7<;>intro h
    ·have hy:crF p d.mv 1=true:=by rw [hc,decide_eq_true h,Bool.or_true]
     refine zR ?_;refine m9 (D1 81 T0 zo _) fun w9 c9=>zR ?_;exact ⟨(),⟨by rw [hy];rfl,trivial⟩,c0.trans c9⟩
    ·have hy:crF p d.mv 1=false:=by rw [hc,decide_eq_false h1,decide_eq_false h2,decide_eq_false h];rfl
     refine zR ?_;exact ⟨(),⟨by rw [hy];rfl,trivial⟩,c0⟩
 obtain ⟨T1,hT1⟩:∃ T',(if crF p d.mv 1 then F9 T0 81 else T0)=T':=⟨_,rfl⟩
 have hlen2:T1.length≤4:=by rw [← hT1];split;exact Nat.le_trans (a31 _ _) hlen1;exact hlen1
 rw [hT1];refine A4 (σ:=Unit) [5] 7 (fun _=>[(5,s8 (if crF p d.mv 2 then F9 T1 107 else T1))]) (fun _ w'=>Cl w w') zk ?_ (fun _ j w2 c2=>?_)
 ·have hM:=c1.blk hM0;have hc:crF p d.mv 2=(decide (sq p d.mv.fr=7)||decide (d.mv.fr=63)||decide (d.mv.to=63)):=rfl
  have hl:=hlen2;refine zR ?_;apply E.b7<;>intro h
  ·have hy:crF p d.mv 2=true:=by rw [hc,decide_eq_true h];rfl
   refine zR ?_;refine m9 (D1 107 T1 zo _) fun w9 c9=>zR ?_;exact ⟨(),⟨by rw [hy];rfl,trivial⟩,c1.trans c9⟩
  ·have h1:=h;clear h;refine zR ?_;refine a3C hM (zR ?_);apply E.b7<;>intro h
   ·have hy:crF p d.mv 2=true:=by rw [hc,decide_eq_true h,Bool.or_true];rfl
    refine zR ?_;try (refine E.D4 h ?_;refine zR ?_)
    refine m9 (D1 107 T1 zo _) fun w9 c9=>zR ?_;exact ⟨(),⟨by rw [hy];rfl,trivial⟩,c1.trans c9⟩
   ·have h2:=h;clear h;refine zR ?_;refine a5x hM (zR ?_);apply E.b7<;>intro h
    ·have hy:crF p d.mv 2=true:=by rw [hc,decide_eq_true h,Bool.or_true]
     refine zR ?_;refine m9 (D1 107 T1 zo _) fun w9 c9=>zR ?_;exact ⟨(),⟨by rw [hy];rfl,trivial⟩,c1.trans c9⟩
    ·have hy:crF p d.mv 2=false:=by rw [hc,decide_eq_false h1,decide_eq_false h2,decide_eq_false h];rfl
     refine zR ?_;exact ⟨(),⟨by rw [hy];rfl,trivial⟩,c1⟩
 obtain ⟨T2,hT2⟩:∃ T',(if crF p d.mv 2 then F9 T1 107 else T1)=T':=⟨_,rfl⟩
 have hlen3:T2.length≤4:=by rw [← hT2];split;exact Nat.le_trans (a31 _ _) hlen2;exact hlen2
 rw [hT2];refine A4 (σ:=Unit) [5] 7 (fun _=>[(5,s8 (if crF p d.mv 3 then F9 T2 113 else T2))]) (fun _ w'=>Cl w w') zk ?_ (fun _ j w3 c3=>?_)
 ·have hM:=c2.blk hM0;have hc:crF p d.mv 3=(decide (sq p d.mv.fr=7)||decide (d.mv.fr=56)||decide (d.mv.to=56)):=rfl
  have hl:=hlen3;refine zR ?_;apply E.b7<;>intro h
  ·have hy:crF p d.mv 3=true:=by rw [hc,decide_eq_true h];rfl
   refine zR ?_;refine m9 (D1 113 T2 zo _) fun w9 c9=>zR ?_;exact ⟨(),⟨by rw [hy];rfl,trivial⟩,c2.trans c9⟩
  ·have h1:=h;clear h;refine zR ?_;refine a3C hM (zR ?_);apply E.b7<;>intro h
   ·have hy:crF p d.mv 3=true:=by rw [hc,decide_eq_true h,Bool.or_true];rfl
    refine zR ?_;try (refine E.D4 h ?_;refine zR ?_)
    refine m9 (D1 113 T2 zo _) fun w9 c9=>zR ?_;exact ⟨(),⟨by rw [hy];rfl,trivial⟩,c2.trans c9⟩
   ·have h2:=h;clear h;refine zR ?_;refine a5x hM (zR ?_);apply E.b7<;>intro h
    ·have hy:crF p d.mv 3=true:=by rw [hc,decide_eq_true h,Bool.or_true]
     refine zR ?_;refine m9 (D1 113 T2 zo _) fun w9 c9=>zR ?_;exact ⟨(),⟨by rw [hy];rfl,trivial⟩,c2.trans c9⟩
    ·have hy:crF p d.mv 3=false:=by rw [hc,decide_eq_false h1,decide_eq_false h2,decide_eq_false h];rfl
     refine zR ?_;exact ⟨(),⟨by rw [hy];rfl,trivial⟩,c2⟩
 obtain ⟨T3,hT3⟩:∃ T',(if crF p d.mv 3 then F9 T2 113 else T2)=T':=⟨_,rfl⟩
 have hlen4:T3.length≤4:=by rw [← hT3];split;exact Nat.le_trans (a31 _ _) hlen3;exact hlen3
 rw [hT3];refine zR ?_;unfold c0D;cases e:T3 with
 | nil =>
  refine zR ?_;exact ⟨rfl,c3⟩
 | cons x r =>
  refine zR ?_;exact ⟨rfl,c3⟩
theorem rk1:∀ s:Nat,s<64→(D0 s &&& 71776119061217280=0↔¬ (s/8=1)):=by decide
theorem rk3:∀ s:Nat,s<64→(D0 s &&& 1095216660480=0↔¬ (s/8=3)):=by decide
theorem rk6:∀ s:Nat,s<64→(D0 s &&& 65280=0↔¬ (s/8=6)):=by decide
theorem rk4:∀ s:Nat,s<64→(D0 s &&& 4278190080=0↔¬ (s/8=4)):=by decide
theorem b2z {p:A3} (hI:B7 p) {P b M:Nat} {cv:Value} {c:Bool} {d:Nd} (f0:0≤d.mv.fr) (f1:d.mv.fr≤63) (t0:0≤d.mv.to) (t1:d.mv.to≤63) (w:World) (hT:C1 w)
  (hP:w.heap[P]?=some (.cells (hdA b (A8 p c) cv) 173 (0,0))) (hB:w.heap[b]?=some (.cells (mbA (mbOf p)) 237 (0,0))) (hM:w.heap[M]?=some (.cells (F0 d) 141 (0,0))) :
  Calls G.P 258 #[.pointer (some ⟨P,0,none⟩),.pointer (some ⟨M,0,none⟩)] w (K4 (.int .i8 (epM p d.mv)) w):=by
 have hP0:=hP;have hM0:=hM;obtain ⟨fr,hfr⟩:=Int.eq_ofNat_of_zero_le f0;obtain ⟨to,hto⟩:=Int.eq_ofNat_of_zero_le t0;have hf64:fr<64:=by omega
 have ht64:to<64:=by omega
 have pc:=fun w hT hB=>W2 (mbOf p) b (t:=237) (fz:=(0,0)) fr hf64 w hT hB;rw [T8 hI.pc hf64] at pc;have hpr:=hI.pc fr;have ht:=hI.turn;have ety:=fun w=>a0C (sq p fr) hpr.1 hpr.2 w;have bf:=fun w=>p8 fr hf64 w;have bt:=fun w=>p8 to ht64 w;have hep:epM p d.mv=if kindOf (sq p fr)≠6 then -1 else if p.turn=0∧fr/8=1∧to/8=3 then (to:Int)-8 else if p.turn=1∧fr/8=6∧to/8=4 then (to:Int)+8 else -1:=by
  unfold epM;rw [hfr,hto];have r1:(g8 (fr:Int)=1)↔fr/8=1:=by unfold g8;omega
  have r3:(g8 (to:Int)=3)↔to/8=3:=by unfold g8;omega
  have r6:(g8 (fr:Int)=6)↔fr/8=6:=by unfold g8;omega
  have r4:(g8 (to:Int)=4)↔to/8=4:=by unfold g8;omega
  simp only [r1,r3,r6,r4]
 rw [hep];clear hep;refine zN Tryz.func258 ?_;refine zR ?_;refine zK 9 ?_;refine zR ?_;refine qHb hP (zR ?_);refine a2Y hM ?_;rw [hfr];refine zR ?_;refine A5 _ (fun w hw=>pc w (hT.cl hw) (hw.blk hB)) (zR ?_);intro w1 c1;have hP:=c1.blk hP0;have hM:=c1.blk hM0;have a1:=rk1 fr hf64;have a3:=rk3 to ht64;have a6:=rk6 fr hf64;have a4:=rk4 to ht64;refine zR ?_;refine d9 (ety _) (zR ?_);apply E.r9<;>intro h
 ·rw [if_pos h];refine zR ?_;exact ⟨rfl,c1⟩
 rw [if_neg (fun e=>e h)];clear h;have hturn:(A8 p c).turn=p.turn+1:=rfl;refine zR ?_;refine kHt hP ?_;rw [hturn];refine zR ?_;apply E.b7<;>intro h
 ·have h0:p.turn=0:=by omega
  clear h;refine zR ?_;refine a3C hM ?_;rw [hfr];refine zR ?_;refine d9 (bf _) (zB ?_);apply E.r9<;>intro h
  ·have q1:fr/8=1:=Classical.byContradiction fun e=>nz h (a1.2 e);clear h;refine zR ?_;refine a5x hM ?_;rw [hto];refine zR ?_;refine d9 (bt _) (zB ?_);apply E.r9<;>intro h
   ·have q2:to/8=3:=Classical.byContradiction fun e=>nz h (a3.2 e);clear h;refine zR ?_;refine a5x hM ?_;rw [hto];refine zR ?_;exact ⟨C3 (by rw [if_pos ⟨h0,q1,q2⟩];exact V3 zo zo),c1⟩
   ·have q2:¬ to/8=3:=a3.1 (n0 h);clear h;refine zR ?_;refine kHt hP ?_;rw [hturn];refine zR ?_;refine E.o7 zo (zR ?_);exact ⟨C3 (by rw [if_neg zo,if_neg zo]),c1⟩
  ·have q1:¬ fr/8=1:=a1.1 (n0 h);clear h;refine zR ?_;refine kHt hP ?_;rw [hturn];refine zR ?_;refine E.o7 zo (zR ?_);exact ⟨C3 (by rw [if_neg zo,if_neg zo]),c1⟩
 ·have h0:p.turn=1:=by omega
  clear h;refine zR ?_;refine kHt hP ?_;rw [hturn];refine zR ?_;refine E.D4 zo (zR ?_);refine a3C hM ?_;rw [hfr];refine zR ?_;refine d9 (bf _) (zB ?_);apply E.r9<;>intro h
  ·have q1:fr/8=6:=Classical.byContradiction fun e=>nz h (a6.2 e);clear h;refine zR ?_;refine a5x hM ?_;rw [hto];refine zR ?_;refine d9 (bt _) (zB ?_);apply E.r9<;>intro h
   ·have q2:to/8=4:=Classical.byContradiction fun e=>nz h (a4.2 e);clear h;refine zR ?_;refine a5x hM ?_;rw [hto];refine zR ?_;exact ⟨C3 (by rw [if_neg zo,if_pos ⟨h0,q1,q2⟩];exact V3 zo zo),c1⟩
   ·have q2:¬ to/8=4:=a4.1 (n0 h);clear h;refine zR ?_;exact ⟨C3 (by rw [if_neg zo,if_neg zo]),c1⟩
  ·have q1:¬ fr/8=6:=a6.1 (n0 h);clear h;refine zR ?_;exact ⟨C3 (by rw [if_neg zo,if_neg zo]),c1⟩
theorem a0s {p:A3} {m:Mv} {t:Nat} {ck:Bool} (h:(t:Int)=F6 p m+(if ck then 16 else 0)):t.testBit 2=decide (sq p m.to≠0)∧t.testBit 3=(decide (sq p m.to=0)&&takes p m)∧t<64:=by
 unfold F6 at h;have e:=congrArg Int.toNat h;rw [Int.toNat_natCast] at e;clear h;subst e;generalize takes p m=tk at *;have hk:=U9 p m;generalize castleKind p m=c at *;by_cases h0:sq p m.to=0
 ·have e1:decide (sq p m.to≠0)=false:=decide_eq_false (fun e=>e h0);rw [e1,decide_eq_true h0,if_neg (fun e=>e h0)];cases tk<;>cases ck<;>rcases hk with rfl | rfl | rfl<;>decide
 ·have e1:decide (sq p m.to≠0)=true:=decide_eq_true h0;rw [e1,decide_eq_false h0,if_pos h0];cases ck<;>rcases hk with rfl | rfl | rfl<;>cases tk<;>decide
theorem b4H {p:A3} (hI:B7 p) {m:Mv} (hm:m∈y8 p) {t:Nat} {ck:Bool} (h:(t:Int)=F6 p m+(if ck then 16 else 0)):(mbOf p).move m t=mbOf (made p m):=by
 obtain ⟨b0,b1,_,_⟩:=a1b h;obtain ⟨_,b3,_⟩:=a0s h;rcases (P6 hI m).1 hm with ⟨hp,_⟩ | ⟨r,hr,_⟩
 ·have hck:=(O7 hI hp).2;refine a7y hI hp ?_ (by rw [b0,hck];rfl) (by rw [b1,hck];rfl)
  rw [b3];have:=a3r hI hp;by_cases h0:sq p m.to=0
  ·rw [if_neg (fun e=>e h0)] at this;rw [decide_eq_true h0,Bool.true_and];cases e:takes p m
   ·rw [e] at this;exact (decide_eq_false (by simp at this;omega)).symm
   ·rw [e] at this;exact (decide_eq_true (by simp at this;omega)).symm
  ·rw [if_pos h0] at this;rw [decide_eq_false h0,Bool.false_and];exact (decide_eq_false zo).symm
 ·obtain ⟨r4,rt,rb,hc⟩:=I5 hI hr;have hto:=hc.to;have hmv:=hc.mv;have htk:=a2o hI hc;have hw:(if A0 (r:Int)<homeK r then (-1:Int) else 1)=1∨(if A0 (r:Int)<homeK r then (-1:Int) else 1)=-1:=by split<;>simp
  generalize (if A0 (r:Int)<homeK r then (-1:Int) else 1)=w at *
  generalize homeK (r:Int)=K at *;have hking:=hc.king;have ek:castleKind p m=if w=1 then 1 else 2:=by
   unfold castleKind;rw [hmv];simp only [hking,Y6 hI];rcases hw with rfl | rfl
   ·rw [if_neg zd,if_pos zo,if_pos rfl]
   ·rw [if_neg zd,if_neg zo,if_pos zo,if_neg zd]
  refine a5X hI hc (by rw [b3,htk,Bool.and_false]) ?_ ?_
  ·rw [b0,ek];rcases hw with rfl | rfl<;>decide
  ·rw [b1,ek];rcases hw with rfl | rfl<;>decide
theorem a94 {p:A3} {m:Mv} (h:kindOf (sq p m.fr)≠6):takes p m=decide (sq p m.to≠0):=by
 unfold takes;rw [decide_eq_false h,Bool.false_and,Bool.or_false];by_cases e:sq p m.to=0<;>simp [e]
theorem b0W {p:A3} (hI:B7 p) (hN:a1z p) {P b M:Nat} {cv:Value} {d:Nd} (hm:d.mv∈y8 p) {ck:Bool} (htg:(d.tags:Int)=F6 p d.mv+(if ck then 16 else 0)) (w:World) (hT:C1 w) (hP:H0 w P b p cv)
  (hM:w.heap[M]?=some (.cells (F0 d) 141 (0,0))) :
  Calls G.P 203 #[.pointer (some ⟨P,0,none⟩),.pointer (some ⟨M,0,none⟩)] w (fun r w'=>∃ P' b',r = .returned (.pointer (some ⟨P',0,none⟩))∧w.heap.size≤P'∧w.heap.size≤b'∧w'.heap[P']?=some (.cells (hdA b' (A8 (made p d.mv) ck) (.slice none 0 0)) 173 (0,0))∧w'.heap[b']?=some (.cells (mbA (mbOf (made p d.mv))) 237 (0,0))∧Cl w w'):=by
 obtain ⟨f0,f1,t0,t1,hpm⟩:=L4 hI hm;obtain ⟨_,_,_,hb4⟩:=a1b htg;obtain ⟨hb2,_,h64⟩:=a0s htg;have hub:=b4H hI hm htg;have hcr:=c0E hI hm;have hep:=c0C hI hm;obtain ⟨fr,hfr⟩:=Int.eq_ofNat_of_zero_le f0;have hf64:fr<64:=by omega
 have pc:=fun w hT hB=>W2 (mbOf p) b (t:=237) (fz:=(0,0)) fr hf64 w hT hB;rw [T8 hI.pc hf64,← hfr] at pc;have hpr:=hI.pc d.mv.fr;have ht:=hI.turn;have ety:=fun w=>a0C (sq p d.mv.fr) hpr.1 hpr.2 w;have hcap:=a94 (p:=p) (m:=d.mv);refine zN Tryz.func203 ?_;have hP0:=hP.hd;have hPs:P<w.heap.size:=(Array.getElem?_eq_some_iff.1 hP0).1;have hbs:b<w.heap.size:=(Array.getElem?_eq_some_iff.1 hP.bd).1;have hMs:M<w.heap.size:=(Array.getElem?_eq_some_iff.1 hM).1;have hfull:(made p d.mv).full=p.full+p.turn:=rfl;have hhalf:(made p d.mv).half=if takes p d.mv||decide (kindOf (sq p d.mv.fr)=6) then 0 else p.half+1:=rfl
 have hturn:(A8 p (inCheck p)).turn=p.turn+1:=rfl;have n1:=hN.1;have n2:=hN.2;have h0:=hI.h0;have hf1:=hI.f1;refine zG ?_;refine Nx.mk (zR ?_);refine d7 _ (a4F hP0) ?_;have ef:(A8 p (inCheck p)).full=p.full:=rfl;rw [ef];refine zG ?_;refine A4 (σ:=Unit) [5] 6 (fun _=>[(5,.int .i64 (made p d.mv).full)]) (fun _ w'=>w'=w) zk ?_ (fun _ j w1 e1=>?_)
 ·refine zR ?_;refine kHt hP0 ?_;rw [hturn];refine zR ?_;apply E.b7<;>intro h
  ·refine zR ?_;exact ⟨(),⟨m7 (by rw [g7 zo zo,hfull];omega),trivial⟩,rfl⟩
  ·refine zR ?_;exact ⟨(),⟨m7 (by rw [hfull];omega),trivial⟩,rfl⟩
 subst e1;refine zR ?_;refine W3 false (N1 rfl _) (zR ?_);refine m9 (a3c hI f0 f1 w1 hT hP0 hP.bd hM) fun w2 c2=>?_;rw [hcr];have hP2:=hP.step c2;have hM2:=c2.blk hM;have hT2:=hT.cl c2;refine zR ?_;refine zK 9 ?_;refine zR ?_;refine qHb hP2.hd (zR ?_);refine a2Y hM2 (zR ?_);refine A5 _ (fun w hw=>pc w (hT2.cl hw) (hw.blk hP2.bd)) (zR ?_);intro w3 c3;have c3':=c2.trans c3;have hP3:=hP.step c3';have hM3:=c3'.blk hM;refine zR ?_;refine d7 _ (a2u hP3.hd) ?_;have eh:(A8 p (inCheck p)).half=p.half:=rfl;rw [eh];refine zG ?_;refine A4 (σ:=Unit) [8] 9 (fun _=>[(8,.int .i64 (made p d.mv).half)]) (fun _ w'=>w'=w3) zk ?_ (fun _ j w4 e4=>?_)
 ·refine zR ?_;refine d9 (ety _) (zR ?_);apply E.b7<;>intro h
  ·refine zR ?_;exact ⟨(),⟨m7 (by rw [hhalf,decide_eq_true h,Bool.or_true];rfl),trivial⟩,rfl⟩
  ·have htag:Calls G.P 147 #[.pointer (some ⟨M,0,none⟩),.int .u16 4] w3 (D5 (.bool (d.tags.testBit 2)) w3):=a1w (k:=2) zd zo w3 hM3;rw [hb2,← hcap h] at htag;have hk:=decide_eq_false h;refine zR ?_;refine d9 htag ?_;cases htk:takes p d.mv
   ·refine zR ?_;exact ⟨(),⟨m7 (by rw [hhalf,htk,hk,g7 zo zo];rfl),trivial⟩,rfl⟩
   ·refine zR ?_;exact ⟨(),⟨m7 (by rw [hhalf,htk];rfl),trivial⟩,rfl⟩
 subst e4;refine zR ?_;refine kHb hP3.hd (zR ?_);refine o8 (a5Y (mbOf p) b w4 hP3.bd) ?_;rintro r w5 ⟨b',rfl,hb',hB5,c5⟩;refine ⟨_,rfl,?_⟩;have c5':=c3'.trans c5;have hP5:=hP.step c5';have hM5:=c5'.blk hM;have s3:=c3'.size;have s5:=c5'.size;refine zR ?_;refine o8 (b0F (d:=d) f0 f1 t0 t1 zo (by rw [hfr,Int.toNat_natCast,T8 hI.pc hf64,← hfr];rcases hpm with e | ⟨e1,e2,e3⟩;exact .inl e;exact .inr ⟨zo,zo,fun e=>by rw [e] at e3;exact absurd e3 zd⟩) zo w5 (hT.cl c5') hB5 hM5) ?_
 rintro r w6 ⟨rfl,hB6,n6⟩;refine ⟨_,rfl,?_⟩;rw [hub] at hB6;have c6:Cl w1 w6:=n6.toCl c5' zo;have hP6:=hP.step c6;have hM6:=c6.blk hM;have hT6:=hT.cl c6;refine zR ?_;refine kHt hP6.hd ?_;rw [hturn];refine zR ?_;refine d9 (a6B (p.turn+1) zo _) (zR ?_);refine m9 (b2z hI f0 f1 t0 t1 w6 hT6 hP6.hd hP6.bd hM6) fun w7 c7=>?_;rw [hep];have c7':=c6.trans c7;have hM7:=c7'.blk hM;have htag:Calls G.P 147 #[.pointer (some ⟨M,0,none⟩),.int .u16 16] w7 (D5 (.bool (d.tags.testBit 4)) w7):=a1w (k:=4) zd zo w7 hM7;rw [hb4] at htag;refine zR ?_;refine d9 htag (zR ?_);have e3:3-(p.turn+1)=(made p d.mv).turn+1:=by show 3-(p.turn+1)=(1-p.turn)+1;omega
 rw [e3];refine s9 (hdA b' (A8 (made p d.mv) ck) (.slice none 0 0)) zk (zR ?_);exact ⟨_,_,rfl,c7'.size,zo,q8 _ _,(Cl.alloc _ _).blk (c7.blk hB6),c7'.trans (Cl.alloc _ _)⟩
theorem in8 {n:Int} (h0:0≤n) (h1:n≤7):n=0∨n=1∨n=2∨n=3∨n=4∨n=5∨n=6∨n=7:=by omega
theorem b20 (f:Int) (h0:0≤f) (h1:f≤7) (w:World):Calls G.P 156 #[.int .i8 f] w (D5 (s8 [UInt8.ofNat (97+f.toNat)]) w):=by
 refine zN Tryz.func156 ?_;have e1:IntKind.i8.wrap (f+1)=f+1:=V3 zo zo;refine zR ?_;rw [e1];refine a0J [UInt8.ofNat (97+f.toNat)] rfl rfl rfl (a0E _) h0 zo (by simp;omega) ?_ ?_
 ·rw [show (f+1).toNat-f.toNat=1 by omega];exact c1B _ zo
 refine zR ?_;exact ⟨rfl,rfl⟩
theorem c0F (f:Int) (h0:0≤f) (h1:f≤7) (w:World):Calls G.P 210 #[.int .i8 f] w (D5 (s8 [UInt8.ofNat (49+f.toNat)]) w):=by
 refine zN Tryz.func210 ?_;have e1:IntKind.i8.wrap (f+1)=f+1:=V3 zo zo;refine zR ?_;rw [e1];refine a0J [UInt8.ofNat (49+f.toNat)] rfl rfl rfl (a0E _) h0 zo (by simp;omega) ?_ ?_
 ·rw [show (f+1).toNat-f.toNat=1 by omega];exact c1C _ zo
 refine zR ?_;exact ⟨rfl,rfl⟩
theorem a8I (s:Int):(A7 s).length=1:=rfl
theorem a4Q (s:Int) (h0:0≤s) (h1:s≤63) (w:World):Calls G.P 157 #[.int .i8 s] w (D5 (s8 (A7 s++F7 s)) w):=by
 refine zN Tryz.func157 ?_;refine zR ?_;refine d9 (a0L s h0 h1 _) (zR ?_);refine d9 (b20 (s%8) zo zo _) (zR ?_);refine d9 (a0w s h0 h1 _) (zR ?_);refine d9 (c0F (s/8) zo zo _) (zR ?_);exact ⟨by rw [A2];rfl,rfl⟩
theorem b3H (f:Int) (h0:0≤f) (h1:f≤7) (w:World):Calls G.P 208 #[.int .i8 f] w (D5 (.int .u8 ((UInt8.ofNat (97+f.toNat)).toNat:Int)) w):=by
 refine zN Tryz.func208 ?_;rcases in8 h0 h1 with rfl | rfl | rfl | rfl | rfl | rfl | rfl | rfl<;>(refine zR ?_)<;>exact ⟨rfl,rfl⟩
theorem b3I (f:Int) (h0:0≤f) (h1:f≤7) (w:World):Calls G.P 209 #[.int .i8 f] w (D5 (.int .u8 ((UInt8.ofNat (49+f.toNat)).toNat:Int)) w):=by
 refine zN Tryz.func209 ?_;rcases in8 h0 h1 with rfl | rfl | rfl | rfl | rfl | rfl | rfl | rfl<;>(refine zR ?_)<;>exact ⟨rfl,rfl⟩
theorem kinds {k:Int} (h0:0≤k) (h1:k≤6):k=0∨k=1∨k=2∨k=3∨k=4∨k=5∨k=6:=by omega
theorem a4R (k:Int) (h0:0≤k) (h1:k≤6) (w:World):Calls G.P 151 #[.int .i8 k] w (D5 (s8 (A1 k)) w):=by
 refine zN Tryz.func151 ?_;rcases kinds h0 h1 with rfl | rfl | rfl | rfl | rfl | rfl | rfl<;>(refine zR ?_)<;>exact ⟨rfl,rfl⟩
theorem a7B (k:Int) (h:k=0∨(2≤k∧k≤5)) (w:World):Calls G.P 158 #[.int .i8 k] w (D5 (s8 (if k=0 then [] else [61]++A1 k)) w):=by
 have hl:=fun w=>a4R k zo zo w;refine zN Tryz.func158 ?_;refine zR ?_;refine d9 (hl _) ?_;have hk:k=0∨k=2∨k=3∨k=4∨k=5:=by omega
 rcases hk with rfl | rfl | rfl | rfl | rfl<;>(refine zR ?_)<;>exact ⟨rfl,rfl⟩
theorem a8J (s:Int) (h0:0≤s) (h1:s≤63) (w:World):Calls G.P 161 #[.int .i8 s] w (fun r w'=>∃ v,r = .returned v∧Row 5 1 a0r w.heap.size w' v (A7 s++F7 s)∧Cl w w'):=by
 refine zN Tryz.func161 ?_;refine zR ?_;refine d9 (a0L s h0 h1 _) (zR ?_);refine d9 (b3H (s%8) zo zo _) (zR ?_);refine d9 (a0w s h0 h1 _) (zR ?_);refine d9 (b3I (s/8) zo zo _) (zR ?_);refine zL O3 [.int .u8 ((UInt8.ofNat (97+(s%8).toNat)).toNat:Int),.int .u8 ((UInt8.ofNat (49+(s/8).toNat)).toNat:Int)] ?_;have hr:=H9 K9 w (A7 s++F7 s) (by simp [A7,F7]) [.int .u8 ((UInt8.ofNat (97+(s%8).toNat)).toNat:Int),.int .u8 ((UInt8.ofNat (49+(s/8).toNat)).toNat:Int)] rfl (e:=5) (z:=1)
 refine zR ?_;exact ⟨_,rfl,hr,Cl.alloc _ _⟩
theorem b4I (k:Int) (h0:0≤k) (h1:k≤6) (w:World):Calls G.P 162 #[.int .i8 k] w (fun r w'=>∃ v,r = .returned v∧Row 5 1 a0r w.heap.size w' v (a3J k)∧Cl w w'):=by
 refine zN Tryz.func162 ?_;rcases kinds h0 h1 with rfl | rfl | rfl | rfl | rfl | rfl | rfl
 ·refine zR ?_;refine b3p O3 (zR ?_);exact ⟨_,rfl,Row.blk (l:=[]) K9 zd (Nat.le_refl _) (q8 _ _),Cl.alloc _ _⟩
 ·refine zR ?_;refine zL O3 [.int .u8 107] ?_;have hr:=H9 K9 w [107] zd [.int .u8 107] rfl (e:=5) (z:=1);refine zR ?_;exact ⟨_,rfl,hr,Cl.alloc _ _⟩
 ·refine zR ?_;refine zL O3 [.int .u8 113] ?_;have hr:=H9 K9 w [113] zd [.int .u8 113] rfl (e:=5) (z:=1);refine zR ?_;exact ⟨_,rfl,hr,Cl.alloc _ _⟩
 ·refine zR ?_;refine zL O3 [.int .u8 114] ?_;have hr:=H9 K9 w [114] zd [.int .u8 114] rfl (e:=5) (z:=1);refine zR ?_;exact ⟨_,rfl,hr,Cl.alloc _ _⟩
 ·refine zR ?_;refine zL O3 [.int .u8 98] ?_;have hr:=H9 K9 w [98] zd [.int .u8 98] rfl (e:=5) (z:=1);refine zR ?_;exact ⟨_,rfl,hr,Cl.alloc _ _⟩
 ·refine zR ?_;refine zL O3 [.int .u8 110] ?_;have hr:=H9 K9 w [110] zd [.int .u8 110] rfl (e:=5) (z:=1);refine zR ?_;exact ⟨_,rfl,hr,Cl.alloc _ _⟩
 ·refine zR ?_;refine zL O3 [.int .u8 112] ?_;have hr:=H9 K9 w [112] zd [.int .u8 112] rfl (e:=5) (z:=1);refine zR ?_;exact ⟨_,rfl,hr,Cl.alloc _ _⟩
theorem b4J (x:Int) (h0:1≤x) (h1:x≤12) (c:UInt8) (hc:pcT x=[c]) (w:World) (hT:C1 w):Calls G.P 212 #[.int .i8 x] w (D5 (.int .u8 (c.toNat:Int)) w):=by
 have ct:=fun w=>a0C x zo h1 w;have cc:=fun w=>a4G x zo h1 w;refine zN Tryz.func212 ?_;have tw:=hT.wfen;have tb:=hT.bfen;rcases (by omega:x=1∨x=2∨x=3∨x=4∨x=5∨x=6∨x=7∨x=8∨x=9∨x=10∨x=11∨x=12) with rfl | rfl | rfl | rfl | rfl | rfl | rfl | rfl | rfl | rfl | rfl | rfl
 ·have e:([75]:Tx)=[c]:=hc;injection e with e;subst e;refine zR ?_;refine d9 (ct _) (zR ?_);refine d9 (cc _) (zR ?_);refine d7 _ (I0 tw (i:=1) zd rfl rfl) (zR ?_);exact ⟨rfl,rfl⟩
 ·have e:([81]:Tx)=[c]:=hc;injection e with e;subst e;refine zR ?_;refine d9 (ct _) (zR ?_);refine d9 (cc _) (zR ?_);refine d7 _ (I0 tw (i:=2) zd rfl rfl) (zR ?_);exact ⟨rfl,rfl⟩
 ·have e:([82]:Tx)=[c]:=hc;injection e with e;subst e;refine zR ?_;refine d9 (ct _) (zR ?_);refine d9 (cc _) (zR ?_);refine d7 _ (I0 tw (i:=3) zd rfl rfl) (zR ?_);exact ⟨rfl,rfl⟩
 ·have e:([66]:Tx)=[c]:=hc;injection e with e;subst e;refine zR ?_;refine d9 (ct _) (zR ?_);refine d9 (cc _) (zR ?_);refine d7 _ (I0 tw (i:=4) zd rfl rfl) (zR ?_);exact ⟨rfl,rfl⟩
 ·have e:([78]:Tx)=[c]:=hc;injection e with e;subst e;refine zR ?_;refine d9 (ct _) (zR ?_);refine d9 (cc _) (zR ?_);refine d7 _ (I0 tw (i:=5) zd rfl rfl) (zR ?_);exact ⟨rfl,rfl⟩
 ·have e:([80]:Tx)=[c]:=hc;injection e with e;subst e;refine zR ?_;refine d9 (ct _) (zR ?_);refine d9 (cc _) (zR ?_);refine d7 _ (I0 tw (i:=6) zd rfl rfl) (zR ?_);exact ⟨rfl,rfl⟩
 ·have e:([107]:Tx)=[c]:=hc;injection e with e;subst e;refine zR ?_;refine d9 (ct _) (zR ?_);refine d9 (cc _) (zR ?_);refine d7 _ (I0 tb (i:=1) zd rfl rfl) (zR ?_);exact ⟨rfl,rfl⟩
 ·have e:([113]:Tx)=[c]:=hc;injection e with e;subst e;refine zR ?_;refine d9 (ct _) (zR ?_);refine d9 (cc _) (zR ?_);refine d7 _ (I0 tb (i:=2) zd rfl rfl) (zR ?_);exact ⟨rfl,rfl⟩
 ·have e:([114]:Tx)=[c]:=hc;injection e with e;subst e;refine zR ?_;refine d9 (ct _) (zR ?_);refine d9 (cc _) (zR ?_);refine d7 _ (I0 tb (i:=3) zd rfl rfl) (zR ?_);exact ⟨rfl,rfl⟩
 ·have e:([98]:Tx)=[c]:=hc;injection e with e;subst e;refine zR ?_;refine d9 (ct _) (zR ?_);refine d9 (cc _) (zR ?_);refine d7 _ (I0 tb (i:=4) zd rfl rfl) (zR ?_);exact ⟨rfl,rfl⟩
 ·have e:([110]:Tx)=[c]:=hc;injection e with e;subst e;refine zR ?_;refine d9 (ct _) (zR ?_);refine d9 (cc _) (zR ?_);refine d7 _ (I0 tb (i:=5) zd rfl rfl) (zR ?_);exact ⟨rfl,rfl⟩
 ·have e:([112]:Tx)=[c]:=hc;injection e with e;subst e;refine zR ?_;refine d9 (ct _) (zR ?_);refine d9 (cc _) (zR ?_);refine d7 _ (I0 tb (i:=6) zd rfl rfl) (zR ?_);exact ⟨rfl,rfl⟩
theorem a3d {p:A3} (hI:B7 p) (hN:a1z p) {d:Nd} {P b M:Nat} {cv:Value} (hm:d.mv∈y8 p) {ck:Bool} (hck:inCheck (made p d.mv)=true→ck=true) (htg:(d.tags:Int)=F6 p d.mv+(if ck then 16 else 0)) (w:World) (hT:C1 w) (hP:H0 w P b p cv)
  (hM:w.heap[M]?=some (.cells (F0 d) 141 (0,0))) :
  Calls G.P 146 #[.pointer (some ⟨P,0,none⟩),.pointer (some ⟨M,0,none⟩)] w (K4 (s8 (signM p d.mv d.tags)) w):=by
 obtain ⟨_,_,_,hb4⟩:=a1b htg;obtain ⟨_,_,h64⟩:=a0s htg;have htag:Calls G.P 147 #[.pointer (some ⟨M,0,none⟩),.int .u16 16] w (D5 (.bool (d.tags.testBit 4)) w):=a1w (k:=4) zd zo w hM;have hs:signM p d.mv d.tags=if d.tags.testBit 4 then (if (a2U (made p d.mv) true).isEmpty then [35] else [43]) else []:=rfl
 rw [hs];rw [hb4] at htag ⊢;refine zN Tryz.func146 ?_;refine zR ?_;refine d9 htag ?_;cases ck
 ·refine zR ?_;exact ⟨rfl,Cl.refl _⟩
 ·refine zR ?_;refine o8 (b0W hI hN hm htg w hT hP hM) ?_;rintro r w1 ⟨P',b',rfl,hP',hb',hH1,hB1,c1⟩;refine ⟨_,rfl,?_⟩;refine zR ?_;refine m9 (a8D (hI.made hm) hck w1 (hT.cl c1) hH1 hB1 (.inl rfl)) fun w2 c2=>?_;have hst:a8C (made p d.mv) true=if !(a2U (made p d.mv) true).isEmpty then 0 else 1:=rfl
  rw [hst];cases (a2U (made p d.mv) true).isEmpty
  ·refine zR ?_;exact ⟨rfl,c1.trans c2⟩
  ·refine zR ?_;exact ⟨rfl,c1.trans c2⟩
theorem a95 {p:A3} (hI:B7 p) (hle:(z8 p).length≤218) {P b:Nat} {ad:Addr} {n0 c0:Nat} (w:World) (hT:C1 w) (hM:H0 w P b p (.slice (some ad) n0 c0)) :
  Calls G.P 99 #[.pointer (some ⟨P,0,none⟩)] w (fun r w'=>∃ v,r = .returned v∧Row 141 11 C6 w.heap.size w' v (N0 p)∧Cl w w'):=by
 have hl:=a4O hI hle;have hP:=hM.hd;refine zN Tryz.func99 ?_;refine zR ?_;refine d7 _ (a7p hP) (zR ?_);refine I1 _ (a52 rfl (some ad) n0 c0) (zR ?_);refine d7 _ (a7p hP) (zR ?_);have hr:Row 141 11 C6 0 w (.slice (some ad) n0 c0) (N0 p):=hM.ca.elim (fun e=>by cases e) id
 refine J2 b0M (l:=[]) (news:=N0 p) rfl (Row.nil w w.heap.size) rfl hr I7 X3 (by simp;omega) zd (Nat.le_refl _) fun v' w' hr' hg=>?_
 rw [List.nil_append] at hr';obtain ⟨a9,c9,rfl,_⟩:=hr'.form;have hc:Cl w w':=hg.toCl rfl (Cl.refl _);refine zR ?_;exact ⟨_,rfl,hr',hc⟩
theorem a96 {w:World} {b:Nat} (hk:w.heap[b]?=some (.cells #[.pointer none,.slice none 0 0] 160 (0,0))) :
  Calls G.P 148 #[.pointer (some ⟨b,0,none⟩)] w (fun r w'=>r = .returned (.tuple #[])∧Upd w b (.cells #[.pointer none,.slice none 0 0] 160 (0,0)) w'):=by
 refine zN Tryz.func148 ?_;refine zR ?_;refine zT hk [.pointer none] fun w2 u2=>?_;refine zR ?_;refine J6 u2.at_ [.slice none 0 0] rfl zk rfl (by intro v hv;simp at hv;subst hv;rfl) (Nat.le_of_ble_eq_true rfl) fun w3 u3=>zR ?_
 exact ⟨rfl,u2.trans u3⟩
theorem Bld.fresh {w0 w:World} {b:Nat} (hc:Cl w0 w) (hb:w0.heap.size≤b) (hk:w.heap[b]?=some (.cells #[.pointer none,.slice none 0 0] 160 (0,0))):Bld w0 b [] w :=
 ⟨.inl ⟨hb,.slice none 0 0,hk,⟨rfl,.inl ⟨rfl,rfl⟩⟩,by simp [Value.ownBlock]⟩,hc⟩
theorem a97 {w:World} {b0 g n c:Nat} {l:List PM} (hr:Row 141 11 C6 b0 w (.slice (some ⟨g,0,none⟩) n c) l) (i:Nat) (hi:i<l.length) {o:Nat} (ho:o=i*11):l8 G.P w 141 ⟨g,o,none⟩ (.agg (F0 (D3 l[i]))):=by
 subst ho;obtain ⟨cur,h1,h2,h3⟩:=hr.getAll I7 i hi;have:=ldA (t:=141) (o:=i*11) (z:=11) h1 rfl h2;rw [h3] at this;exact this
theorem b4K (p:A3) (l:List PM) (m:Mv) {i:Nat} (hi:i<l.length):rivM p (l.take (i+1)) m=rivM p (l.take i) m++(if !decide (l[i].mv.fr=m.fr)&&decide (l[i].mv.to=m.to)&&decide (sq p m.fr=sq p l[i].mv.fr) then [l[i]] else []):=by
 unfold rivM;rw [List.take_succ_eq_append_getElem hi,List.filter_append];congr 1;rw [List.filter_cons];rfl
set_option maxHeartbeats 2000000 in
theorem b6P {p:A3} (hI:B7 p) (hle:(z8 p).length≤218) {P b M t:Nat} {fz:Nat×Nat} {ad:Addr} {n0 c0:Nat} {d:Nd} (f0:0≤d.mv.fr) (f1:d.mv.fr≤63) (w:World) (hT:C1 w) (hM:H0 w P b p (.slice (some ad) n0 c0))
  (hD:w.heap[M]?=some (.cells (F0 d) t fz)) :
  Calls G.P 153 #[.pointer (some ⟨P,0,none⟩),.pointer (some ⟨M,0,none⟩)] w (K4 (s8 (s1M p (N0 p) d.mv)) w):=by
 obtain ⟨fr,hfr⟩:=Int.eq_ofNat_of_zero_le f0;have hf64:fr<64:=by omega
 have pcs:=fun (s:Nat) (hs:s<64) w hT hB=>W2 (mbOf p) b (t:=237) (fz:=(0,0)) s hs w hT hB;have pc:=pcs fr hf64;rw [T8 hI.pc hf64,← hfr] at pc;have hpr:=hI.pc d.mv.fr;have ety:=fun w=>a0C (sq p d.mv.fr) hpr.1 hpr.2 w;have hs1:s1M p (N0 p) d.mv=if kindOf (sq p d.mv.fr)=6 then [] else (if ((rivM p (N0 p) d.mv).any fun x=>decide (x.mv.fr/8=d.mv.fr/8))||(!((rivM p (N0 p) d.mv).any fun x=>decide (x.mv.fr%8=d.mv.fr%8)) && !(rivM p (N0 p) d.mv).isEmpty) then A7 d.mv.fr else [])++(if ((rivM p (N0 p) d.mv).any fun x=>decide (x.mv.fr%8=d.mv.fr%8)) then F7 d.mv.fr else []):=rfl
 rw [hs1];clear hs1;obtain ⟨mm1,_⟩:=a0I hI;refine zN Tryz.func153 ?_;refine zR ?_;refine zK 9 ?_;refine zR ?_;refine qHb hM.hd (zR ?_);refine a2Y hD (zR ?_);refine A5 _ (fun w hw=>pc w (hT.cl hw) (hw.blk hM.bd)) (zR ?_);intro w1 c1;refine zR ?_;refine d9 (ety _) (zR ?_);apply E.b7<;>intro h
 ·rw [if_pos h];refine zR ?_;exact ⟨rfl,c1⟩
 rw [if_neg h];clear h;refine zR ?_;refine t7 _ b6l ?_;have cA:=Cl.alloc w1 (.cells (Value.agg #[.pointer none,.slice none 0 0]).cells 160);have nA:=q8 w1 (.cells (Value.agg #[.pointer none,.slice none 0 0]).cells 160);have sA:=y9 w1 (.cells (Value.agg #[.pointer none,.slice none 0 0]).cells 160);generalize w1.alloc (.cells (Value.agg #[.pointer none,.slice none 0 0]).cells 160)=w2 at *;refine zR ?_;refine o8 (a96 nA) ?_;rintro r w3 ⟨rfl,u3⟩;refine ⟨_,rfl,?_⟩;have c3:Cl w w3:=c1.trans ((Tn.upd u3).toCl cA (Nat.le_refl _));have c13:Cl w1 w3:=(Tn.upd u3).toCl cA (Nat.le_refl _);refine zR ?_;refine o8 (a95 hI hle w3 (hT.cl c3) (hM.step c3)) ?_;rintro r w4 ⟨v,rfl,hr,c4⟩;have hb4:=c4.blk u3.at_;have c14:=c13.trans c4;obtain ⟨av,cv,rfl,hav⟩:=hr.form;refine ⟨_,rfl,?_⟩;have hlen:=a4O hI hle;refine zR ?_;refine A9 (σ:=Nat) [6,7,8,11,30] 31 (fun i=>[(6,.bool (!(rivM p ((N0 p).take i) d.mv).isEmpty)),(7,.bool ((rivM p ((N0 p).take i) d.mv).any fun x=>decide (x.mv.fr/8=d.mv.fr/8))),(8,.bool ((rivM p ((N0 p).take i) d.mv).any fun x=>decide (x.mv.fr%8=d.mv.fr%8))),(30,.int .i64 i)])
  (fun i w'=>i≤(N0 p).length∧Cl w4 w') (fun i=>(N0 p).length-i) zk 0 ⟨Nat.zero_le _,Cl.refl _⟩ ⟨rfl,rfl,rfl,rfl,trivial⟩ ?_
 rintro i j w5 ⟨hi,c5⟩;have ni:=C2 (i:=i) zo;refine zR ?_;apply E.b7<;>intro h
 ·have hi2:i<(N0 p).length:=by omega
  clear h;refine zG ?_;refine A4 (σ:=Unit) [6,7,8,11] 31 (fun _=>[(6,.bool (!(rivM p ((N0 p).take (i+1)) d.mv).isEmpty)),(7,.bool ((rivM p ((N0 p).take (i+1)) d.mv).any fun x=>decide (x.mv.fr/8=d.mv.fr/8))),(8,.bool ((rivM p ((N0 p).take (i+1)) d.mv).any fun x=>decide (x.mv.fr%8=d.mv.fr%8)))])
   (fun _ w'=>Cl w4 w') zk ?_ (fun _ j w8 c8=>?_)
  ·obtain ⟨g,rfl⟩:=hav zo;have hsn:=b4K p (N0 p) d.mv hi2;have hld:=fun {o:Nat} (ho:o=i*11)=>a97 (hr.step c5) i hi2 ho;have hxl:=(mm1 (N0 p)[i] (List.getElem_mem hi2)).1;generalize (N0 p)[i]=x at *;have hxr:=L4 hI hxl;obtain ⟨xf,hxf⟩:=Int.eq_ofNat_of_zero_le hxr.1;have hxf64:xf<64:=by omega
   have pcx:=pcs xf hxf64;rw [T8 hI.pc hxf64,← hxf] at pcx;refine zR ?_;refine zC ?_;refine zR ?_;refine d7 _ (hld (a0y _ _)) (zR ?_);refine t7 _ a6b ?_;have cB:=Cl.alloc w5 (.cells (Value.agg (F0 (D3 ⟨⟨0,0,0⟩,0⟩))).cells 141);have nB:=q8 w5 (.cells (Value.agg (F0 (D3 ⟨⟨0,0,0⟩,0⟩))).cells 141);generalize w5.alloc (.cells (Value.agg (F0 (D3 ⟨⟨0,0,0⟩,0⟩))).cells 141)=w6 at *;refine zR ?_;refine J6 nB (C6 x) rfl a1x rfl (X3 x) (Nat.le_of_ble_eq_true rfl) fun w7 u7=>?_;have hX:w7.heap[w5.heap.size]?=some (.cells (F0 (D3 x)) 141 (0,0)):=by have h7:=u7.at_;rw [C5 _ _ (by rw [I7];rfl)] at h7;exact h7
   have c7:Cl w5 w7:=(Tn.upd u7).toCl cB (Nat.le_refl _);have c17:=c14.trans (c5.trans c7);have cw7:=c1.trans c17;have hM7:=hM.step cw7;have hD7:=cw7.blk hD;have c47:=c5.trans c7;generalize rivM p ((N0 p).take (i+1)) d.mv=A' at *;generalize rivM p ((N0 p).take i) d.mv=A at *;refine zR ?_;refine zK 27 ?_;refine zR ?_;refine a2Y hX (zR ?_);refine a2Y hD7 (zR ?_);apply E.r9<;>intro h
   ·have h1:¬ x.mv.fr=d.mv.fr:=h;clear h;refine zR ?_;refine a9x hX (zR ?_);refine a9x hD7 (zR ?_);apply E.b7<;>intro h
    ·have h2:x.mv.to=d.mv.to:=h;clear h;refine zR ?_;refine qHb hM7.hd (zR ?_);refine a2Y hX (zR ?_);refine A5 _ (fun w hw=>pcx w ((hT.cl cw7).cl hw) (hw.blk hM7.bd)) (zR ?_);intro w8 c8;refine zG ?_;refine zR ?_;apply E.b7<;>intro h
     ·have hyes:A'=A++[x]:=by rw [hsn,decide_eq_false h1,decide_eq_true h2,decide_eq_true h];rfl
      clear h;refine zR ?_;refine zK 9 ?_;refine zR ?_;refine a2Y (c8.blk hX) (zR ?_);refine A5 _ (fun w hw=>a0L x.mv.fr hxr.1 hxr.2.1 w) (zR ?_);refine a2Y (c8.blk hD7) (zR ?_);refine A5 _ (fun w hw=>a0L d.mv.fr f0 f1 w) (zR ?_);intro w9 c9;have c79:=c8.trans c9;refine zR ?_;apply E.b7<;>intro h
      ·have hf:=h;clear h;refine zR ?_;refine zK 9 ?_;refine zR ?_;refine a2Y (c79.blk hX) (zR ?_);refine A5 _ (fun w hw=>a0w x.mv.fr hxr.1 hxr.2.1 w) (zR ?_);refine a2Y (c79.blk hD7) (zR ?_);refine A5 _ (fun w hw=>a0w d.mv.fr f0 f1 w) (zR ?_);intro w10 c10;have c410:=(c47.trans c79).trans c10;refine zR ?_;apply E.b7<;>intro h
       ·refine zR ?_;exact ⟨(),⟨p9 (by rw [hyes];simp),p9 (by rw [hyes];simp [h]),p9 (by rw [hyes];simp [hf]),trivial⟩,c410⟩
       ·refine zR ?_;exact ⟨(),⟨p9 (by rw [hyes];simp),p9 (by rw [hyes];simp [h]),p9 (by rw [hyes];simp [hf]),trivial⟩,c410⟩
      ·have hf:=h;clear h;refine zR ?_;refine zK 9 ?_;refine zR ?_;refine a2Y (c79.blk hX) (zR ?_);refine A5 _ (fun w hw=>a0w x.mv.fr hxr.1 hxr.2.1 w) (zR ?_);refine a2Y (c79.blk hD7) (zR ?_);refine A5 _ (fun w hw=>a0w d.mv.fr f0 f1 w) (zR ?_);intro w10 c10;have c410:=(c47.trans c79).trans c10;refine zR ?_;apply E.b7<;>intro h
       ·refine zR ?_;exact ⟨(),⟨p9 (by rw [hyes];simp),p9 (by rw [hyes];simp [h]),p9 (by rw [hyes];simp [hf]),trivial⟩,c410⟩
       ·refine zR ?_;exact ⟨(),⟨p9 (by rw [hyes];simp),p9 (by rw [hyes];simp [h]),p9 (by rw [hyes];simp [hf]),trivial⟩,c410⟩
     ·have hno:A'=A:=by rw [hsn,decide_eq_false h,Bool.and_false];simp
      refine zR ?_;exact ⟨(),⟨p9 (by rw [hno]),p9 (by rw [hno]),p9 (by rw [hno]),trivial⟩,c47.trans c8⟩
    ·have hno:A'=A:=by rw [hsn,show decide (x.mv.to=d.mv.to)=false from decide_eq_false h,Bool.and_false,Bool.false_and];simp
     refine zR ?_;repeat (refine E.o7 h ?_;refine zR ?_)
     intro w8 c8;refine zR ?_;exact ⟨(),⟨p9 (by rw [hno]),p9 (by rw [hno]),p9 (by rw [hno]),trivial⟩,c47.trans c8⟩
   ·have hno:A'=A:=by rw [hsn,show decide (x.mv.fr=d.mv.fr)=true from decide_eq_true h];simp
    refine zR ?_;intro w8 c8;refine zR ?_;exact ⟨(),⟨p9 (by rw [hno]),p9 (by rw [hno]),p9 (by rw [hno]),trivial⟩,c47.trans c8⟩
  ·refine zR ?_;exact ⟨i+1,⟨rfl,rfl,rfl,m7 ni,trivial⟩,⟨zo,c8⟩,zo⟩
 ·have e:i=(N0 p).length:=by omega
  subst e;rw [List.take_length];have c15:=c14.trans c5;have hbl:Bld w1 w1.heap.size [] w5:=Bld.fresh c15 (Nat.le_refl _) (c5.blk hb4);have hD5:=(c1.trans c15).blk hD;generalize ((rivM p (N0 p) d.mv).any fun x=>decide (x.mv.fr/8=d.mv.fr/8))=FQ at *;generalize ((rivM p (N0 p) d.mv).any fun x=>decide (x.mv.fr%8=d.mv.fr%8))=RQ at *;generalize (rivM p (N0 p) d.mv).isEmpty=RE at *;refine zG ?_;refine A4 (σ:=Unit) [] 31 (fun _=>[]) (fun _ w'=>Bld w1 w1.heap.size (if (FQ||(!RQ && !RE))=true then A7 d.mv.fr else []) w') zk ?_ (fun _ j w6 h6=>?_)
  ·cases FQ<;>cases RQ<;>cases RE<;>(refine zR ?_)<;>first
    | exact ⟨(),trivial,hbl⟩
    | (refine a3C hD5 ?_
       refine zR ?_;refine d9 (a0L d.mv.fr f0 f1 _) (zR ?_);refine d9 (b3H (d.mv.fr%8) zo zo _) (zR ?_);refine o8 (a1A (UInt8.ofNat (97+(d.mv.fr%8).toNat)) hbl zd) ?_;rintro r w6 ⟨rfl,h6⟩;refine ⟨_,rfl,?_⟩;refine zR ?_;exact ⟨(),trivial,h6⟩)
  have hD6:=(c1.trans h6.cl).blk hD;have hl6:(if (FQ||(!RQ && !RE))=true then A7 d.mv.fr else []).length<1000000:=by split<;>simp [A7]
  generalize (if (FQ||(!RQ && !RE))=true then A7 d.mv.fr else [])=L at *
  cases RQ
  ·refine zR ?_;refine o8 (a1t h6) ?_;rintro r w7 ⟨rfl,c7⟩;refine ⟨_,rfl,?_⟩;refine zR ?_;exact ⟨by simp;rfl,c1.trans c7⟩
  ·refine zR ?_;refine a3C hD6 (zR ?_);refine d9 (a0w d.mv.fr f0 f1 _) (zR ?_);refine d9 (b3I (d.mv.fr/8) zo zo _) (zR ?_);refine o8 (a1A (UInt8.ofNat (49+(d.mv.fr/8).toNat)) h6 hl6) ?_;rintro r w7 ⟨rfl,h7⟩;refine ⟨_,rfl,?_⟩;refine zR ?_;refine o8 (a1t h7) ?_;rintro r w8 ⟨rfl,c8⟩;refine ⟨_,rfl,?_⟩;refine zR ?_;exact ⟨rfl,c1.trans c8⟩
end
end Go.Proofs.YtpclhlhcegcflaaGreatDoor
