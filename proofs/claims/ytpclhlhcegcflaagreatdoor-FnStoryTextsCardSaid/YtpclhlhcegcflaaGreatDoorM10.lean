/- One part of the proof: Pk9 PkN Law8 Pk10 Pk11 Pk13. -/
import Derived.Laws.MakeOwn
import Derived.Laws.CopyRow
import Derived.Laws.Slices
import Derived.Test.YtpclhlhcegcflaaGreatDoorM1
import Derived.Test.YtpclhlhcegcflaaGreatDoorM3
import Derived.Test.YtpclhlhcegcflaaGreatDoorM7
import Derived.Test.YtpclhlhcegcflaaGreatDoorM9
namespace Go.Proofs.YtpclhlhcegcflaaGreatDoor
set_option maxRecDepth 100000
set_option linter.unusedSimpArgs false
set_option linter.unusedVariables false
section
open Go Go.RowKit
open E
def capR (B:MB) (ep:Int) (m:Mv):Nat:=if (B.f 14).testBit (63-m.to.toNat)=false then 4 else if m.to=ep∧Ch.kindOf (B.at m.fr.toNat)=6 then 8 else 0
def casR (B:MB) (m:Mv):Nat :=
 if (B.at m.fr.toNat=1∧m.fr=4)∨(B.at m.fr.toNat=7∧m.fr=60) then (if m.to=2∨m.to=58 then 2 else if m.to=6∨m.to=62 then 1 else 0) else 0
def a4T (B:MB) (turn ep:Int) (m:Mv) (t:Nat):Nat :=
 let t2:=(t ||| capR B ep m) ||| casR B m
 (t2 ||| (if (B.move m t2).chk turn then 32 else 0)) ||| (if (B.move m t2).chk (3-turn) then 16 else 0)
theorem b39 {a b:Nat} (ha:a<64) (hb:b<64):a ||| b<64:=Nat.or_lt_two_pow (n:=6) ha hb
theorem c0A (B:MB) (ep:Int) (m:Mv):capR B ep m<64:=by unfold capR;(repeat' split)<;>decide
theorem c0B (B:MB) (m:Mv):casR B m<64:=by unfold casR;(repeat' split)<;>decide
instance move_ok {B:MB} [hO:B.Ok] {m:Mv} {t:Nat}:(B.move m t).Ok:=by
 unfold MB.move;have h1:(if m.promo=0 then B.m1 m.fr.toNat m.to.toNat 12 else (B.m1 m.fr.toNat m.to.toNat 12).m2 (B.at m.fr.toNat) (m.promo+6*(colM (B.at m.fr.toNat)-1)) m.to.toNat).Ok:=by split<;>infer_instance
 have h2:(if t.testBit 3 then (if m.promo=0 then B.m1 m.fr.toNat m.to.toNat 12 else (B.m1 m.fr.toNat m.to.toNat 12).m2 (B.at m.fr.toNat) (m.promo+6*(colM (B.at m.fr.toNat)-1)) m.to.toNat).m3 (colM (B.at m.fr.toNat)) m.to.toNat else (if m.promo=0 then B.m1 m.fr.toNat m.to.toNat 12 else (B.m1 m.fr.toNat m.to.toNat 12).m2 (B.at m.fr.toNat) (m.promo+6*(colM (B.at m.fr.toNat)-1)) m.to.toNat)).Ok:=by split<;>infer_instance
 exact b8a
theorem b1Z {A:MB} {fr to:Int} (w0:-1≤A.wk) (w1:A.wk≤63) (b0:-1≤A.bk) (b1:A.bk≤63) (t0:0≤to) (t1:to≤63):(-1≤(A.kings fr to).wk∧(A.kings fr to).wk≤63)∧(-1≤(A.kings fr to).bk∧(A.kings fr to).bk≤63):=by
 unfold MB.kings;(repeat' split)<;>(try simp only)<;>omega
theorem b3A {B:MB} {m:Mv} {t:Nat} (w0:-1≤B.wk) (w1:B.wk≤63) (b0:-1≤B.bk) (b1:B.bk≤63) (t0:0≤m.to) (t1:m.to≤63):(-1≤(B.move m t).wk∧(B.move m t).wk≤63)∧(-1≤(B.move m t).bk∧(B.move m t).bk≤63):=by
 unfold MB.move;simp only
 refine b1Z ?_ ?_ ?_ ?_ t0 t1;all_goals first | rw [(a86 _).1,(b1S _ _ _ _).1] | rw [(a86 _).2,(b1S _ _ _ _).2]
 all_goals (split<;>(try rw [(a57 _ _ _).1])<;>(try rw [(a57 _ _ _).2])<;>split<;>assumption)
theorem c0C {w:World} {h:Hd} {cv:Value} {P b u:Nat} {K:World→Prop} (hP:w.heap[P]?=some (.cells (hdA b h cv) u (0,0))) (x:Int) (hk:∀ w',Upd w P (.cells (hdA b { h with turn:=x } cv) u (0,0)) w'→K w'):a0y G.P w 171 ⟨P,5,none⟩ (.int .i8 x) K :=
 J6 hP [.int .i8 x] rfl zk rfl (a0d _ _) (zU rfl) (fun w2 u2=>hk w2 u2)
structure AtI (w0:World) (P b M:Nat) (h:Hd) (cv:Value) (B:MB) (d:Nd) (w:World):Prop where
 hd:w.heap[P]?=some (.cells (hdA b h cv) 173 (0,0))
 bd:w.heap[b]?=some (.cells (I4 B) 237 (0,0))
 nd:w.heap[M]?=some (.cells (F6 d) 141 (0,0))
 tn:Tn M w0 w
 tab:C9 w
 neP:P≠M
 neb:b≠M
section ati
variable {w0 w w':World} {P b M:Nat} {h:Hd} {cv:Value} {B:MB} {d d':Nd}
theorem AtI.upd (hI:AtI w0 P b M h cv B d w) (u:Upd w M (.cells (F6 d') 141 (0,0)) w'):AtI w0 P b M h cv B d' w' :=
 ⟨(Tn.upd u).blk hI.hd hI.neP,(Tn.upd u).blk hI.bd hI.neb,u.at_,hI.tn.trans (Tn.upd u),hI.tab.tn (Tn.upd u) hI.nd rfl,hI.neP,hI.neb⟩
theorem AtI.cl (hI:AtI w0 P b M h cv B d w) (c:Cl w w'):AtI w0 P b M h cv B d w' :=
 ⟨c.blk hI.hd,c.blk hI.bd,c.blk hI.nd,hI.tn.trans (Tn.cl c),hI.tab.cl c,hI.neP,hI.neb⟩
end ati
theorem Tn.skip {b b':Nat} {w w1 w2:World} (h:Tn b w w1) (h':Tn b' w1 w2) (hb:w.heap.size≤b'):Tn b w w2 :=
 ⟨h'.os.trans h.os,h'.tape.trans h.tape,h'.output.trans h.output,zu h.size h'.size,fun k hk hne=>(h'.else_ k (Nat.lt_of_lt_of_le hk h.size) zo).trans (h.else_ k hk hne)⟩
theorem AtI.lt {w0 w:World} {P b M:Nat} {h:Hd} {cv:Value} {B:MB} {d:Nd} (hI:AtI w0 P b M h cv B d w):P<w.heap.size∧b<w.heap.size∧M<w.heap.size :=
 ⟨(Array.getElem?_eq_some_iff.1 hI.hd).1,(Array.getElem?_eq_some_iff.1 hI.bd).1,(Array.getElem?_eq_some_iff.1 hI.nd).1⟩
theorem AtI.far {w0 w w':World} {P b M k:Nat} {h:Hd} {cv:Value} {B:MB} {d:Nd} {cs:Array Value} {u:Nat} {fz:Nat×Nat} (hI:AtI w0 P b M h cv B d w) (n:Tn k w w') (hk:w.heap[k]?=some (.cells cs u fz)) (hu:a2r u=false) (h1:P≠k) (h2:b≠k) (h3:M≠k) (h4:w0.heap.size≤k):AtI w0 P b M h cv B d w' :=
 ⟨n.blk hI.hd h1,n.blk hI.bd h2,n.blk hI.nd h3,hI.tn.skip n h4,hI.tab.tn n hk hu,hI.neP,hI.neb⟩
theorem a4h {P b M:Nat} {h:Hd} {cv:Value} {B:MB} [hO:B.Ok] {d:Nd} (ht:h.turn=1∨h.turn=2) (w0:-1≤B.wk) (w1:B.wk≤63) (b0:-1≤B.bk) (b1:B.bk≤63)
  (f0:0≤d.mv.fr) (f1:d.mv.fr≤63) (t0:0≤d.mv.to) (t1:d.mv.to≤63) (hd:d.tags<64) (hpr:d.mv.promo=0∨(1≤d.mv.promo∧d.mv.promo≤6∧B.at d.mv.fr.toNat≠0))
  (w:World) (hI:AtI w P b M h cv B d w) :
  Calls G.P 253 #[.pointer (some ⟨M,0,none⟩),.pointer (some ⟨P,0,none⟩)] w (fun r w'=>r = .returned (.tuple #[])∧AtI w P b M h cv B { d with tags:=a4T B h.turn h.ep d.mv d.tags } w'):=by
 obtain ⟨s,hs⟩:=ze f0;obtain ⟨g,hg⟩:=ze t0;have hs64:s<64:=by omega
 have hg64:g<64:=by omega
 have hx:=B.at_range s;have hcl:capR B h.ep d.mv<64:=c0A _ _ _;have hsl:casR B d.mv<64:=c0B _ _;have hcap:capR B h.ep d.mv=if (B.f 14).testBit (63-g)=false then 4 else if (g:Int)=h.ep∧Ch.kindOf (B.at s)=6 then 8 else 0:=by unfold capR;rw [hs,hg];rfl
 have hcas:casR B d.mv=if (B.at s=1∧(s:Int)=4)∨(B.at s=7∧(s:Int)=60) then (if (g:Int)=2∨(g:Int)=58 then 2 else if (g:Int)=6∨(g:Int)=62 then 1 else 0) else 0:=by unfold casR;rw [hs,hg];rfl
 have hfin:a4T B h.turn h.ep d.mv d.tags=(((d.tags ||| capR B h.ep d.mv) ||| casR B d.mv) ||| (if (B.move d.mv ((d.tags ||| capR B h.ep d.mv) ||| casR B d.mv)).chk h.turn then 32 else 0)) ||| (if (B.move d.mv ((d.tags ||| capR B h.ep d.mv) ||| casR B d.mv)).chk (3-h.turn) then 16 else 0):=rfl
 rw [hfin];clear hfin;have cP:=fun w (hT:C9 w) hb=>a0b B b (t:=237) (fz:=(0,0)) s hs64 w hT hb;have cT:=fun w=>a1i (B.at s) hx.1 hx.2 w;have cO:=fun w hb=>b0H (B:=B) (b:=b) (t:=237) (fz:=(0,0)) g hg64 w hb;generalize capR B h.ep d.mv=CAP at *;generalize casR B d.mv=CAS at *;rw [hs] at hpr;simp only [zg] at hpr;refine zN Tryz.func253 ?_;have hP:=hI.hd;have hM:=hI.nd;have hT:=hI.tab;have hB:=hI.bd;refine zR ?_;refine zK 10 ?_;refine zR ?_;refine qHb hP (zR ?_);refine a38 hM ?_;rw [hs];refine zR ?_;refine o5 _ (fun w hw=>cP w (hT.cl hw) (hw.blk hB)) (zR ?_);intro w1' c1;have hI1:=hI.cl c1;clear hP hM hT hB;have hP:=hI1.hd;have hM:=hI1.nd;have hB:=hI1.bd;refine zG ?_;refine B0 (σ:=Unit) [] 6 (fun _=>[]) (fun _ w'=>AtI w P b M h cv B { d with tags:=d.tags ||| CAP } w') zk ?_ (fun _ j w3 hI3=>?_)
 ·refine zR ?_;refine I5.mk1 ⟨9,Cl w1',Cl.drew (Cl.refl _),zk,?_⟩;refine zR ?_;refine qHb hP (zR ?_);refine b0E hM ?_;rw [hg];refine zR ?_;refine o5 _ (fun w hw=>cO w (hw.blk hB)) (zR ?_);intro w2 c2;have hI2:=hI1.cl c2;have add:∀ k w3,k<64→CAP=k→AtI w P b M h cv B d w3→∀ w4,Upd w3 M (.cells (F6 { d with tags:=d.tags ||| k }) 141 (0,0)) w4→AtI w P b M h cv B { d with tags:=d.tags ||| CAP } w4:=fun k w3 hk e hI3 w4 u4=>by rw [e];exact hI3.upd u4
  have none:∀ w3,CAP=0→AtI w P b M h cv B d w3→AtI w P b M h cv B { d with tags:=d.tags ||| CAP } w3:=fun w3 e hI3=>by rw [e,Nat.or_zero];exact hI3
  cases hb:(B.f 14).testBit (63-g)
  ·rw [zM hb] at hcap;refine zR ?_;refine m8 (Z9 (tag:=4) zo zd _ hI2.nd) ?_;rintro r w3 ⟨rfl,u3⟩;refine ⟨_,rfl,?_⟩;refine zR ?_;exact ⟨(),trivial,add 4 _ zd hcap hI2 _ u3⟩
  ·rw [zJ (by rw [hb];simp)] at hcap
   have hP:=hI2.hd;have hM:=hI2.nd;refine zR ?_;refine zK 14 ?_;refine zR ?_;refine b0E hM ?_;rw [hg];refine zR ?_;refine c0l hP (zR ?_);apply E.d6<;>intro h
   ·have h1:=h;clear h;refine zR ?_;refine o5 _ (fun w hw=>cT w) (zR ?_);intro w3 c3;have hI3:=hI2.cl c3;refine zR ?_;apply E.d6<;>intro h
    ·rw [zM ⟨h1,h⟩] at hcap;refine zR ?_;refine m8 (Z9 (tag:=8) zo zd _ hI3.nd) ?_;rintro r w4 ⟨rfl,u4⟩;refine ⟨_,rfl,?_⟩;refine zR ?_;exact ⟨(),trivial,add 8 _ zd hcap hI3 _ u4⟩
    ·rw [zJ (fun e=>h e.2)] at hcap;refine zR ?_;exact ⟨(),trivial,none _ hcap hI3⟩
   ·rw [zJ (fun e=>h e.1)] at hcap;refine zR ?_;intro w3 c3;refine zR ?_;exact ⟨(),trivial,none _ hcap (hI2.cl c3)⟩
 clear hI1 hP hM hB c1 hcap cO cT;have hdc:d.tags ||| CAP<64:=b39 hd hcl
 refine B0 (σ:=Unit) [] 6 (fun _=>[]) (fun _ w'=>AtI w P b M h cv B { d with tags:=(d.tags ||| CAP) ||| CAS } w') zk ?_ (fun _ j w4 hI4=>?_)
 ·have hM:=hI3.nd;have add:∀ k,k<64→CAS=k→∀ w4,Upd w3 M (.cells (F6 { d with tags:=(d.tags ||| CAP) ||| k }) 141 (0,0)) w4→AtI w P b M h cv B { d with tags:=(d.tags ||| CAP) ||| CAS } w4:=fun k hk e w4 u4=>by rw [e];exact hI3.upd u4
  have none:CAS=0→AtI w P b M h cv B { d with tags:=(d.tags ||| CAP) ||| CAS } w3:=fun e=>by rw [e,Nat.or_zero];exact hI3
  have at2:=fun w hM=>Z9 (M:=M) (t:=141) (tag:=2) (d:={ d with tags:=d.tags ||| CAP }) (by show d.tags ||| CAP<65536;omega) zd w hM
  have at1:=fun w hM=>Z9 (M:=M) (t:=141) (tag:=1) (d:={ d with tags:=d.tags ||| CAP }) (by show d.tags ||| CAP<65536;omega) zd w hM
  have key:(B.at s=1∧(s:Int)=4)∨(B.at s=7∧(s:Int)=60)→CAS=(if (g:Int)=2∨(g:Int)=58 then 2 else if (g:Int)=6∨(g:Int)=62 then 1 else 0):=fun e=>by rw [hcas,zM e]
  have key0:¬ ((B.at s=1∧(s:Int)=4)∨(B.at s=7∧(s:Int)=60))→CAS=0:=fun e=>by rw [hcas,zJ e]
  generalize B.at s=X at *;refine zR ?_;apply E.d6<;>intro h
  ·have h1:=h;clear h;refine zR ?_;refine c1S hM hs (zR ?_);apply E.d6<;>intro h
   ·have hc:=key (.inl ⟨h1,h⟩);refine zR ?_;refine c1T hM hg (zR ?_);apply E.d6<;>intro h
    ·rw [zM (.inl h)] at hc;refine zR ?_;refine E.A0 h (zR ?_);refine m8 (at2 _ hM) ?_;rintro r w4 ⟨rfl,u4⟩;refine ⟨_,rfl,?_⟩;refine zR ?_;exact ⟨(),trivial,add 2 zd hc _ u4⟩
    ·have g1:=h;clear h;refine zR ?_;apply E.d6<;>intro h
     ·rw [zM (.inr h)] at hc;refine zR ?_;refine m8 (at2 _ hM) ?_;rintro r w4 ⟨rfl,u4⟩;refine ⟨_,rfl,?_⟩;refine zR ?_;exact ⟨(),trivial,add 2 zd hc _ u4⟩
     ·rw [zJ (fun e=>e.elim g1 h)] at hc;clear h;refine zR ?_;apply E.d6<;>intro h
      ·rw [zM (.inl h)] at hc;refine zR ?_;refine E.A0 h (zR ?_);refine m8 (at1 _ hM) ?_;rintro r w4 ⟨rfl,u4⟩;refine ⟨_,rfl,?_⟩;refine zR ?_;exact ⟨(),trivial,add 1 zd hc _ u4⟩
      ·have g2:=h;clear h;refine zR ?_;apply E.d6<;>intro h
       ·rw [zM (.inr h)] at hc;refine zR ?_;refine m8 (at1 _ hM) ?_;rintro r w4 ⟨rfl,u4⟩;refine ⟨_,rfl,?_⟩;refine zR ?_;exact ⟨(),trivial,add 1 zd hc _ u4⟩
       ·rw [zJ (fun e=>e.elim g2 h)] at hc;refine zR ?_;exact ⟨(),trivial,none hc⟩
   ·have h2:=h;clear h;have hc:=key0 (fun e=>e.elim (fun e=>h2 e.2) (fun e=>by omega))
    refine zR ?_;refine E.p8 zo (zR ?_);exact ⟨(),trivial,none hc⟩
  ·have h1:=h;clear h;refine zR ?_;apply E.d6<;>intro h
   ·have h2:=h;clear h;refine zR ?_;refine c1S hM hs (zR ?_);apply E.d6<;>intro h
    ·have hc:=key (.inr ⟨h2,h⟩);refine zR ?_;refine c1T hM hg (zR ?_);apply E.d6<;>intro h
     ·rw [zM (.inl h)] at hc;refine zR ?_;refine E.A0 h (zR ?_);refine m8 (at2 _ hM) ?_;rintro r w4 ⟨rfl,u4⟩;refine ⟨_,rfl,?_⟩;refine zR ?_;exact ⟨(),trivial,add 2 zd hc _ u4⟩
     ·have g1:=h;clear h;refine zR ?_;apply E.d6<;>intro h
      ·rw [zM (.inr h)] at hc;refine zR ?_;refine m8 (at2 _ hM) ?_;rintro r w4 ⟨rfl,u4⟩;refine ⟨_,rfl,?_⟩;refine zR ?_;exact ⟨(),trivial,add 2 zd hc _ u4⟩
      ·rw [zJ (fun e=>e.elim g1 h)] at hc;clear h;refine zR ?_;apply E.d6<;>intro h
       ·rw [zM (.inl h)] at hc;refine zR ?_;refine E.A0 h (zR ?_);refine m8 (at1 _ hM) ?_;rintro r w4 ⟨rfl,u4⟩;refine ⟨_,rfl,?_⟩;refine zR ?_;exact ⟨(),trivial,add 1 zd hc _ u4⟩
       ·have g2:=h;clear h;refine zR ?_;apply E.d6<;>intro h
        ·rw [zM (.inr h)] at hc;refine zR ?_;refine m8 (at1 _ hM) ?_;rintro r w4 ⟨rfl,u4⟩;refine ⟨_,rfl,?_⟩;refine zR ?_;exact ⟨(),trivial,add 1 zd hc _ u4⟩
        ·rw [zJ (fun e=>e.elim g2 h)] at hc;refine zR ?_;exact ⟨(),trivial,none hc⟩
    ·have hc:=key0 (fun e=>e.elim (fun e=>h1 e.1) (fun e=>h e.2));refine zR ?_;exact ⟨(),trivial,none hc⟩
   ·have hc:=key0 (fun e=>e.elim (fun e=>h1 e.1) (fun e=>h e.1));refine zR ?_;exact ⟨(),trivial,none hc⟩
 clear hI3 hcas cP;have hd2:(d.tags ||| CAP) ||| CAS<64:=b39 hdc hsl
 generalize (d.tags ||| CAP) ||| CAS=T2 at *
 have hr:=b3A (B:=B) (m:=d.mv) (t:=T2) w0 w1 b0 b1 t0 t1;have hO':(B.move d.mv T2).Ok:=inferInstance;have hup:∀ b',M≠b'→∀ w,C9 w→w.heap[b']?=some (.cells (I4 B) 237 (0,0))→w.heap[M]?=some (.cells (F6 { d with tags:=T2 }) 141 (0,0)) →
   Calls G.P 257 #[.pointer (some ⟨b',0,none⟩),.pointer (some ⟨M,0,none⟩)] w (fun r w'=>r = .returned (.tuple #[])∧w'.heap[b']?=some (.cells (I4 (B.move d.mv T2)) 237 (0,0))∧Tn b' w w') :=
  fun b' hne w hT hB hM=>b1Y (d:={ d with tags:=T2 }) f0 f1 t0 t1 (by show T2<65536;omega) (by show d.mv.promo=0∨_;rw [show ({ d with tags:=T2 }:Nd).mv=d.mv from rfl,hs];simpa using hpr) hne w hT hB hM
 generalize B.move d.mv T2=B' at *;refine zR ?_;refine m8 (b5Z _ hI4.hd hI4.bd) ?_;rintro r w5 ⟨P',b',rfl,hp',hb',hlt,hP5,hB5,c5⟩;refine ⟨_,rfl,?_⟩;have hI5:=hI4.cl c5;have hl4:=hI4.lt;have hs4:=hI4.tn.size;refine zR ?_;refine kHb hP5 (zR ?_);refine m8 (hup b' zo w5 hI5.tab hB5 hI5.nd) ?_;rintro r w6 ⟨rfl,hB6,n6⟩;refine ⟨_,rfl,?_⟩;have hI6:=hI5.far n6 hB5 rfl zo zo zo zo;have hP6:=n6.blk hP5 zo;have hic:=fun (h:Hd) w ht hT hP hB=>a6S (P:=P') (b:=b') (t:=173) (u:=237) (h:=h) (cv:=.slice none 0 0) (fz:=(0,0)) (fy:=(0,0)) (B:=B') ht hr.1.1 hr.1.2 hr.2.1 hr.2.2 w hT hP hB;have hl5:=hI5.lt;have hs5:=c5.size;have hs6:=n6.size;refine zG ?_;refine B0 (σ:=Unit) [] 6 (fun _=>[]) (fun _ w'=>AtI w P b M h cv B { d with tags:=T2 ||| (if B'.chk h.turn then 32 else 0) } w'∧w'.heap[P']?=some (.cells (hdA b' h (.slice none 0 0)) 173 (0,0))∧w'.heap[b']?=some (.cells (I4 B') 237 (0,0))∧w6.heap.size≤w'.heap.size) zk ?_ (fun _ j w8 hI8=>?_)
 ·refine zR ?_;refine o8 (hic h w6 ht hI6.tab hP6 hB6) fun w7 c7=>?_;have hI7:=hI6.cl c7;have hP7:=c7.blk hP6;have hB7:=c7.blk hB6;have hs7:=c7.size;generalize B'.chk h.turn=CK at *;cases CK
  ·refine zR ?_;exact ⟨(),trivial,by simpa using hI7,hP7,hB7,hs7⟩
  ·refine zR ?_;refine m8 (Z9 (tag:=32) (by show T2<65536;omega) zd _ hI7.nd) ?_
   rintro r w8 ⟨rfl,u8⟩;refine ⟨_,rfl,?_⟩;refine zR ?_;exact ⟨(),trivial,hI7.upd u8,(Tn.upd u8).blk hP7 zo,(Tn.upd u8).blk hB7 zo,zu hs7 (Tn.upd u8).size⟩
 obtain ⟨hI8,hP8,hB8,hs8⟩:=hI8;have hd3:T2 ||| (if B'.chk h.turn then 32 else 0)<64:=b39 hd2 (by split<;>decide)
 generalize T2 ||| (if B'.chk h.turn then 32 else 0)=T3 at *
 refine zR ?_;refine kHt hP8 (zR ?_);refine g8 (a7I _ ht _) (zR ?_);refine c0C hP8 _ (fun w9 u9=>?_);have hI9:=hI8.far (Tn.upd u9) hP8 rfl zo zo zo zo;have hB9:=(Tn.upd u9).blk hB8 zo;have hP9:=u9.at_;refine zR ?_;refine o8 (hic { h with turn:=3-h.turn } w9 (by show 3-h.turn=1∨3-h.turn=2;omega) hI9.tab hP9 hB9) fun w10 c10=>?_
 have hI10:=hI9.cl c10;show _;have e16:B'.chk ({ h with turn:=3-h.turn }:Hd).turn=B'.chk (3-h.turn):=rfl;rw [e16];generalize B'.chk (3-h.turn)=CK at *;cases CK
 ·refine zR ?_;exact ⟨rfl,by simpa using hI10⟩
 ·refine zR ?_;refine m8 (Z9 (tag:=16) (by show T3<65536;omega) zd _ hI10.nd) ?_
  rintro r w11 ⟨rfl,u11⟩;refine ⟨_,rfl,?_⟩;refine zR ?_;exact ⟨rfl,hI10.upd u11⟩
end
section
open Ch Bb
theorem b0I {p:l9} (hI:B9 p) {m:Mv} (f0:0≤m.fr) (f1:m.fr≤63) (t0:0≤m.to) (t1:m.to≤63):capR (mbOf p) p.ep m=capTag p m:=by
 obtain ⟨fr,to,pr⟩:=m;obtain ⟨f,rfl⟩:=ze f0;obtain ⟨t,rfl⟩:=ze t0;simp only at f1 t1;unfold capR capTag;simp only [zg];have e:=V0 hI.pc (show f<64 by omega)
 rw [c0o,a0t p (show t<64 by omega)]
 simp only [e];by_cases h:sq p t=0
 ·simp [h]
 ·simp [h]
theorem b0J {p:l9} (hI:B9 p) {m:Mv} (f0:0≤m.fr) (f1:m.fr≤63):casR (mbOf p) m=S5 p m:=by
 obtain ⟨fr,to,pr⟩:=m;obtain ⟨f,rfl⟩:=ze f0;simp only at f1;unfold casR S5;simp only [zg];have e:=V0 hI.pc (show f<64 by omega)
 simp only [e]
theorem b0K {q:l9} (hq:∀ i:Int,0≤sq q i∧sq q i≤12) {c K:Int} (hc:c=0∨c=1) (hK:U9 q c K):(mbOf q).chk (c+1)=B5 q (kingAt q c) (1-c):=by
 have e:=hK.at;have h0:=hK.1;have h1:=hK.2.1;unfold MB.chk;have ek:(if c+1=2 then (mbOf q).bk else (mbOf q).wk)=K:=by
  rcases hc with rfl | rfl
  ·rw [zJ zd];exact e
  ·rw [zM zd];exact e
 simp only [ek];rw [zV zo,e];have:=a82 hq hc (a:=K.toNat) zo;rw [this,zi h0];rfl
theorem b2a {p:l9} {m:Mv} (hq:∀ i:Int,0≤sq (made p m) i∧sq (made p m) i≤12) (ht:p.turn=0∨p.turn=1) {K:Int} (hK:U9 (made p m) p.turn K):(mbOf (made p m)).chk (p.turn+1) = !J3 p m:=by
 rw [b0K hq ht hK];unfold J3;simp
theorem a9O {p:l9} {m:Mv} (hq:∀ i:Int,0≤sq (made p m) i∧sq (made p m) i≤12) (ht:p.turn=0∨p.turn=1) {K:Int} (hK:U9 (made p m) (1-p.turn) K):(mbOf (made p m)).chk (3-(p.turn+1))=inCheck (made p m):=by
 rw [show 3-(p.turn+1)=(1-p.turn)+1 by omega,b0K hq zo hK]
 unfold inCheck checked;have e:(made p m).turn=1-p.turn:=rfl;rw [e,hK.at,zX hK.1];simp
theorem b8c {p:l9} (hI:B9 p):(mbOf p).chk (p.turn+1)=inCheck p:=by
 rw [b0K hI.pc hI.turn (hI.king _ hI.turn)];unfold inCheck checked;rw [zX (hI.king _ hI.turn).1];simp
theorem a8B {p:l9} (hI:B9 p) {m:Mv} (h:G6 p m) {t:Nat} (h0:t.testBit 0=false) (h1:t.testBit 1=false) (h3:t.testBit 3=false):a4T (mbOf p) (p.turn+1) p.ep m t=t ||| tg p m:=by
 have hc0:=(K7 hI h).1;have hcc:=Y4 p m;unfold a4T;simp only [b0I hI h.f0 h.f1 h.t0 h.t1,b0J hI h.f0 h.f1];have hb:∀ k,((t ||| capTag p m) ||| S5 p m).testBit k=(t.testBit k||(capTag p m).testBit k):=fun k=>by rw [hc0,Nat.or_zero,yD]
 have hm:=a88 hI h (tags:=(t ||| capTag p m) ||| S5 p m) (by rw [hb,h3,Bool.false_or];rcases hcc with e | e | e<;>rw [e]<;>decide) (by rw [hb,h0,Bool.false_or];rcases hcc with e | e | e<;>rw [e]<;>decide) (by rw [hb,h1,Bool.false_or];rcases hcc with e | e | e<;>rw [e]<;>decide)
 rw [hm,b2a (a2V hI h) hI.turn (a1S hI h),a9O (a2V hI h) hI.turn (a4K hI h)];unfold tg;simp only [Nat.or_assoc];cases J3 p m<;>rfl
theorem a6W {p:l9} (hI:B9 p) {m:Mv} {K w R:Int} (h:a1g p m K w R):a4T (mbOf p) (p.turn+1) p.ep m (if w=1 then 1 else 2)=(if w=1 then 1 else 2) ||| tg p m:=by
 have hw:w=1∨w=-1:=by rcases h.way with e | e;exact .inl e.1;exact .inr e.1
 have hk:=h.k;have ht:=hI.turn;have hmv:=h.mv;have hto:=h.to;have f0:0≤m.fr:=by rw [hmv];simp only;omega
 have f1:m.fr≤63:=by rw [hmv];simp only;omega
 have t0:0≤m.to:=by rw [hmv];simp only;omega
 have t1:m.to≤63:=by rw [hmv];simp only;omega
 have hcap:capTag p m=0:=by
  have hto':sq p m.to=0:=by rw [hmv];exact hto
  have hk6:kindOf (sq p m.fr)≠6:=by rw [hmv];simp only [h.king,S4 hI];decide
  unfold capTag;rw [zJ (fun e=>e hto'),zJ (fun e=>hk6 e.2)]
 have hcas:S5 p m=if w=1 then 1 else 2:=by
  unfold S5;rw [hmv];simp only [h.king];rcases ht with e | e<;>rcases hw with e2 | e2<;>rw [e] at hk ⊢ <;> subst e2<;>rw [hk]<;>decide
 unfold a4T;simp only [b0I hI f0 f1 t0 t1,b0J hI f0 f1,hcap,hcas,Nat.or_zero,Nat.or_self];have hm:=a6T hI h (tags:=if w=1 then 1 else 2) (by rcases hw with e | e<;>subst e<;>decide) (by rcases hw with e | e<;>subst e<;>decide) (by rcases hw with e | e<;>subst e<;>decide)
 obtain ⟨hko,hkf⟩:=a0l hI h;rw [hm,b2a (a12 hI h) hI.turn hko,a9O (a12 hI h) hI.turn (a2T hI h)];unfold tg;rw [hcap,hcas,Nat.zero_or,← Nat.or_assoc,← Nat.or_assoc,Nat.or_self];cases J3 p m<;>rfl
def a61 (p:l9) (k:Int) (fr to:Nat):List PM:=((List.range 64).drop to).flatMap fun to=>if (goB p k fr).testBit (63-to) then a27 p fr to else []
def a3l (p:l9) (k:Int) (fr:Nat):List PM:=((List.range 64).drop fr).flatMap (Y3 p k)
def a4U (p:l9) (i:Nat):List PM:=((List.range 12).drop i).flatMap fun (i:Nat)=>if (i:Int)/6=p.turn then a3l p ((i:Int)+1-6*p.turn) 0 else []
theorem a4V {n i:Nat} (h:i<n):(List.range n).drop i=i::(List.range n).drop (i+1):=by
 rw [List.drop_eq_getElem_cons (by simpa using h)];simp
theorem b6a {p:l9} {k:Int} {fr to:Nat} (h:to<64):a61 p k fr to=(if (goB p k fr).testBit (63-to) then a27 p fr to else [])++a61 p k fr (to+1):=by
 unfold a61;rw [a4V h,List.flatMap_cons]
theorem b6b {p:l9} {k:Int} {fr:Nat} (h:fr<64):a3l p k fr=Y3 p k fr++a3l p k (fr+1):=by
 unfold a3l;rw [a4V h,List.flatMap_cons]
theorem a9P {p:l9} {i:Nat} (h:i<12):a4U p i=(if (i:Int)/6=p.turn then a3l p ((i:Int)+1-6*p.turn) 0 else [])++a4U p (i+1):=by
 unfold a4U;rw [a4V h,List.flatMap_cons]
theorem b8d {p:l9} {k:Int} {fr:Nat}:a61 p k fr 64=[]:=by unfold a61;rw [List.drop_of_length_le (by simp)];rfl
theorem b8e {p:l9} {k:Int}:a3l p k 64=[]:=by unfold a3l;rw [List.drop_of_length_le (by simp)];rfl
theorem b8f {p:l9}:a4U p 12=[]:=by unfold a4U;rw [List.drop_of_length_le (by simp)];rfl
theorem b2b {p:l9} {k:Int} {fr:Nat} (h:sq p fr=k+6*p.turn):Y3 p k fr=a61 p k fr 0:=by
 unfold Y3 a61;rw [zM h];rfl
theorem a8C {p:l9} {k:Int} {fr:Nat} (h:sq p fr≠k+6*p.turn):Y3 p k fr=[]:=by unfold Y3;rw [zJ h]
theorem b8g {α:Type} (F:Int→List α) {t:Int} (ht:t=0∨t=1):(([0,1,2,3,4,5,6,7,8,9,10,11]:List Nat).flatMap fun (i:Nat)=>if (i:Int)/6=t then F ((i:Int)+1-6*t) else [])=([1,2,3,4,5,6]:List Int).flatMap F:=by
 rcases ht with h | h<;>subst h<;>simp
theorem b8h {p:l9} (ht:p.turn=0∨p.turn=1):a4U p 0=A5 p:=by
 have e:A5 p=([1,2,3,4,5,6]:List Int).flatMap fun k=>a3l p k 0:=by
  unfold A5 a3l;simp only [List.drop_zero]
 rw [e,← b8g _ ht];unfold a4U;rw [List.drop_zero,show List.range 12=[0,1,2,3,4,5,6,7,8,9,10,11] from rfl]
theorem b6c {p:l9} {k:Int} (h:pcs p (k+6*p.turn)=0):a3l p k 0=[]:=by
 have h0:=(a78 _).1 h;unfold a3l;rw [List.drop_zero,List.flatMap_eq_nil_iff];intro fr hfr;have:=h0 fr (List.mem_range.1 hfr);exact a8C (by simpa using this)
theorem b6d {p:l9} {k:Int} {fr:Nat} (h:goB p k fr=0):a61 p k fr 0=[]:=by
 unfold a61;rw [List.drop_zero,List.flatMap_eq_nil_iff];intro to _;rw [h];simp
theorem a6X {p:l9} (hI:B9 p) {k:Int} (k1:1≤k) (k6:k≤6) {fr to:Nat} (hf:fr<64) (ht:to<64) (hs:sq p fr=k+6*p.turn) (hb:(goB p k fr).testBit (63-to)=true) {pr:Int}
  (hpr:(pr=0∧¬ (k=6∧l8 to=7-7*p.turn))∨(2≤pr∧pr≤5∧k=6∧l8 to=7-7*p.turn)):G6 p ⟨fr,to,pr⟩:=by
 have hg:=(b49 hI.pc hI.turn hI.pass hf ht k1 k6 hs).1 hb;have hkk:kindOf (sq p fr)=k:=by rw [hs];exact O6 k1 k6 hI.turn
 have hso:A1 (sq p fr)=p.turn:=by rw [hs];exact S3 k1 k6 hI.turn
 have hne:(fr:Int)≠to:=by
  intro e;rw [← e] at hg;exact hg.2 ⟨by rw [hs];have:=hI.turn;omega,hso⟩
 refine ⟨by simp only;omega,by simp only;omega,by simp only;omega,by simp only;omega,hne,by simp only;rw [hs];have:=hI.turn;omega,hso,hg.1,?_,?_⟩
 ·simp only
  by_cases e:sq p to=0
  ·exact .inl e
  ·exact .inr fun e2=>hg.2 ⟨e,e2⟩
 ·simp only [hkk];exact hpr
end
section
open Go Go.RowKit
open E
section
variable {dst:Option Nat} {ty:Nat} {pos:String} {af:Array Edge} {gd:Option (Nat×Bool)} {env:C8} {w:World} {K:Value→World→Prop}
theorem b2c {t n el z b:Nat} {x hi:Operand} {k:IntKind} (h:Nat) (ht:W1 G.T t=some (.array n el z)) (hx:ev env x = .pointer (some ⟨b,0,none⟩)) (hh:ev env hi = .int k h) (hn:h≤n)
  (hk:K (.slice (some ⟨b,0,none⟩) h n) w):L5 G.P { dst,op:=.slice t x none (some hi) none,type:=ty,pos,after:=af,guard:=gd } env w K:=by
 obtain ⟨h1,h2,h3⟩:=a3Q (G.tab _ _ ht);refine ⟨.inl ⟨_,w,?_,hk⟩⟩;show (do pure (Next.value (← Instr.sliceAt t (ev env x) none (some (ev env hi)) none)):Sem Next).run G.P w=_
 rw [hx,hh];have e1:(Instr.sliceBound (.int k (h:Int)) n .sliceAlen).run G.P w = .ok h w:=by simpa using run_sliceBound (P:=G.P) (w:=w) k (h:Int) n .sliceAlen zo zo
 have e2:=E.W2 (w:=w) h2;simp [Instr.sliceAt,run_underlying h1,Instr.sliceBounds,e1,e2,Instr.sureAddr,H5]
theorem b2d {t n el z b:Nat} {x:Operand} (ht:W1 G.T t=some (.array n el z)) (hx:ev env x = .pointer (some ⟨b,0,none⟩))
  (hk:K (.slice (some ⟨b,0,none⟩) n n) w):L5 G.P { dst,op:=.slice t x none none none,type:=ty,pos,after:=af,guard:=gd } env w K:=by
 obtain ⟨h1,h2,h3⟩:=a3Q (G.tab _ _ ht);refine ⟨.inl ⟨_,w,?_,hk⟩⟩;show (do pure (Next.value (← Instr.sliceAt t (ev env x) none none none)):Sem Next).run G.P w=_
 rw [hx];have e2:=E.W2 (w:=w) h2;simp [Instr.sliceAt,run_underlying h1,Instr.sliceBounds,e2,Instr.sureAddr,H5]
theorem b8i {t e z by_:Nat} (E1:H6 t e z by_) {l c:Operand} {k k':IntKind} (n:Nat) (hl:ev env l = .int k n) (hc:ev env c = .int k' n) (hn:n≤100000) (hb:by_≤1000)
  (hk:∀ cs:Array Value,cs.size=n*z→K (.slice (some ⟨w.heap.size,0,none⟩) n n) (w.alloc (.cells cs e))):L5 G.P { dst,op:=.makeSlice t l c,type:=ty,pos,after:=af,guard:=gd } env w K:=by
 obtain ⟨i,zv,hi,hzv,hsz,hby,hzs⟩:=E1.info;have hle:n*by_≤100000*1000:=Nat.mul_le_mul hn hb;have hbb:(i.bytes:Int)*(n:Int)≤281474976710656:=by
  rw [hby];have e:(by_:Int)*(n:Int)=((n*by_:Nat):Int):=by push_cast;exact Int.mul_comm _ _
  rw [e];omega
 have:=run_make (P:=G.P) w t e i zv E1.ty hi hzv k k' n n zo zo hbb zo;simp only [zg] at this;refine ⟨.inl ⟨_,_,?_,hk (madeCells zv.cells (n*i.size)) (by rw [size_madeCells,hsz])⟩⟩
 show (do pure (Next.value (← Instr.makeSlice t (ev env l) (ev env c))):Sem Next).run G.P w=_
 rw [hl,hc,Sem.run_bind,this];rfl
theorem b8j {t e z by_:Nat} (E1:H6 t e z by_) {d s:Operand} {g a n dc sc:Nat} {cur:Array Value} {u:Nat} {cs:List Value} (hd:ev env d = .slice (some ⟨g,0,none⟩) n dc) (hs:ev env s = .slice (some ⟨a,0,none⟩) n sc)
  (hg:w.heap[g]?=some (.cells cur u (0,0))) (hl:cs.length=n*z) (hcur:cur.size=n*z) (hsrc:∀ j v,cs[j]?=some v→w.cell? ⟨a,j,none⟩=some v) (h1:∀ v∈cs,v.oneCell'=true)
  (hk:∀ w',Upd w g (.cells cs.toArray u (0,0)) w'→K (.int .i64 n) w'):L5 G.P { dst,op:=.call { callee:=.builtin .copy,args:=#[d,s],argTypes:=#[t,t] },type:=ty,pos,after:=af,guard:=gd } env w K:=by
 obtain ⟨i,zv,hi,hzv,hsz,hby,hzs⟩:=E1.info;refine ⟨.inl ⟨_,_,?_,hk (w.setCells g 0 cs) ?_⟩⟩
 ·have e1:=run_loadCells_list (P:=G.P) w ⟨a,0,none⟩ cs (fun j v hv=>by rw [H5,yV];exact hsrc j v hv)
  have e2:=run_storeCells_cells (P:=G.P) g 0 cs 0 w (fun j hj=>by simp only [yV];rw [D2 hg,Array.getElem?_eq_getElem zo];rfl) (fun j hj=>by simp [World.frozen?,hg]) h1
  have e3:(Builtin.copy_ #[t,t] ty #[.slice (some ⟨g,0,none⟩) n dc,.slice (some ⟨a,0,none⟩) n sc]).run G.P w = .ok (goInt n) (w.setCells g 0 cs):=by
   rw [hl] at e1;simp [Builtin.copy_,run_underlying E1.ty,Builtin.lenOf,Builtin.firstCells,sizeOf,typeInfo,hi,hsz,e1,e2]
  simp only [execOp,resolve,invoke,builtin,Sem.run_bind,Sem.run_pure,Result.andThen_ok,List.map_toArray,yP,List.map_nil,hd,hs,e3];rfl
 ·have:=a6f cs w g 0 cur u (0,0) hg;rw [B7 _ _ zo] at this;exact this
end
def C7 (p:l9) (c:Bool):Hd:=⟨Ch.castT p.castle,p.half,p.full,p.turn+1,p.ep,c⟩
theorem a0Q:(G.P.info? 141).map (·.size)=some 11:=by kernel_rfl
theorem c5A:(G.P.info? 139).map (·.size)=some 1:=by kernel_rfl
theorem b2e:H6 132 141 11 96:=S9 zk
theorem a43:(G.P.info? 141).bind (·.zero)=some (.agg (F6 (C2 ⟨⟨0,0,0⟩,0⟩))):=by kernel_rfl
theorem c5B:∃ z,(G.P.info? 289).bind (·.zero)=some z∧z.cells.size=2398:=a0a zk
theorem z1:∃ z,(G.P.info? 293).bind (·.zero)=some z∧z.cells.size=11:=a0a zk
theorem J1 (x:PM):(D3 x).length=11:=rfl
theorem F5 (x:PM):∀ v∈D3 x,v.oneCell'=true:=by
 intro v hv;simp only [D3,ndL,yQ,zx,or_false] at hv;rcases hv with rfl | rfl | rfl | rfl | rfl | rfl | rfl | rfl | rfl | rfl | rfl<;>rfl
theorem a3c (l:List PM):(l.flatMap D3).length=l.length*11:=K5 J1 l
section st
variable {w:World} {x:PM} {M u:Nat} {K:World→Prop} (hM:w.heap[M]?=some (.cells (F6 (C2 x)) u (0,0)))
include hM
theorem c41 (v:Int) (h:∀ w',Upd w M (.cells (F6 (C2 ⟨⟨v,x.mv.to,x.mv.promo⟩,x.tags⟩)) u (0,0)) w'→K w'):a0y G.P w 138 ⟨M,8,none⟩ (.int .i8 v) K :=
 J6 hM [.int .i8 v] rfl c00 rfl (a0d _ _) (zU rfl) (fun w2 u2=>h w2 u2)
theorem c42 (v:Int) (h:∀ w',Upd w M (.cells (F6 (C2 ⟨⟨x.mv.fr,v,x.mv.promo⟩,x.tags⟩)) u (0,0)) w'→K w'):a0y G.P w 138 ⟨M,9,none⟩ (.int .i8 v) K :=
 J6 hM [.int .i8 v] rfl c00 rfl (a0d _ _) (zU rfl) (fun w2 u2=>h w2 u2)
theorem a8D (v:Int) (h:∀ w',Upd w M (.cells (F6 (C2 ⟨⟨x.mv.fr,x.mv.to,v⟩,x.tags⟩)) u (0,0)) w'→K w'):a0y G.P w 139 ⟨M,10,none⟩ (.int .i8 v) K :=
 J6 hM [.int .i8 v] rfl c5A rfl (a0d _ _) (zU rfl) (fun w2 u2=>h w2 u2)
theorem c0D (v:Nat) (h:∀ w',Upd w M (.cells (F6 (C2 ⟨x.mv,v⟩)) u (0,0)) w'→K w'):a0y G.P w 136 ⟨M,7,none⟩ (.int .u16 v) K :=
 J6 hM [.int .u16 v] rfl c1Z rfl (a0d _ _) (zU rfl) (fun w2 u2=>h w2 u2)
theorem b6e:o4 G.P w 141 ⟨M,0,none⟩ (.agg (F6 (C2 x))):=by
 have:=ldA (t:=141) (o:=0) (z:=11) hM rfl (by simp [F6,ndL])
 exact this
end st
structure SmI (w0:World) (P b M A:Nat) (h:Hd) (cv:Value) (B:MB) (Z:Array Value) (x:PM) (l:List PM) (w:World):Prop where
 hd:w.heap[P]?=some (.cells (hdA b h cv) 173 (0,0))
 bd:w.heap[b]?=some (.cells (I4 B) 237 (0,0))
 nd:w.heap[M]?=some (.cells (F6 (C2 x)) 141 (0,0))
 arr:w.heap[A]?=some (.cells (I3 Z 0 (l.flatMap D3)) 289 (0,0))
 cl:Cl w0 w
 tab0:C9 w0
 hP:P<w0.heap.size
 hb:b<w0.heap.size
 hM:w0.heap.size≤M
 hA:w0.heap.size≤A
 ne:M≠A
section smi
variable {w0 w w':World} {P b M A:Nat} {h:Hd} {cv:Value} {B:MB} {Z:Array Value} {x x':PM} {l l':List PM}
theorem SmI.tab (hI:SmI w0 P b M A h cv B Z x l w):C9 w:=hI.tab0.cl hI.cl
theorem SmI.step (hI:SmI w0 P b M A h cv B Z x l w) (c:Cl w w'):SmI w0 P b M A h cv B Z x l w' :=
 ⟨c.blk hI.hd,c.blk hI.bd,c.blk hI.nd,c.blk hI.arr,hI.cl.trans c,hI.tab0,hI.hP,hI.hb,hI.hM,hI.hA,hI.ne⟩
theorem SmI.turn (hI:SmI w0 P b M A h cv B Z x l w) (n:Tn M w w') (hn:w'.heap[M]?=some (.cells (F6 (C2 x')) 141 (0,0))):SmI w0 P b M A h cv B Z x' l w' :=
 have h1:=hI.hP;have h2:=hI.hb;have h3:=hI.hM;have h4:=hI.hA
 ⟨n.blk hI.hd zo,n.blk hI.bd zo,hn,n.blk hI.arr (fun e=>hI.ne e.symm),n.toCl hI.cl h3,hI.tab0,h1,h2,h3,h4,hI.ne⟩
theorem SmI.upd (hI:SmI w0 P b M A h cv B Z x l w) (u:Upd w M (.cells (F6 (C2 x')) 141 (0,0)) w'):SmI w0 P b M A h cv B Z x' l w':=hI.turn (Tn.upd u) u.at_
theorem SmI.at (hI:SmI w0 P b M A h cv B Z x l w):AtI w P b M h cv B (C2 x) w :=
 have h1:=hI.hP;have h2:=hI.hb;have h3:=hI.hM
 ⟨hI.hd,hI.bd,hI.nd,Tn.refl _ _,hI.tab,zo,zo⟩
theorem SmI.back (hI:SmI w0 P b M A h cv B Z x l w) (h2:AtI w P b M h cv B (C2 x') w'):SmI w0 P b M A h cv B Z x' l w':=hI.turn h2.tn h2.nd
theorem SmI.push (hI:SmI w0 P b M A h cv B Z x l w) (u:Upd w A (.cells (I3 (I3 Z 0 (l.flatMap D3)) (l.length*11) (D3 x)) 289 (0,0)) w'):SmI w0 P b M A h cv B Z x (l++[x]) w':=by
 have h1:=hI.hP;have h2:=hI.hb;have h3:=hI.hM;have h4:=hI.hA;have n:=Tn.upd u;have hz:I3 Z 0 ((l++[x]).flatMap D3)=I3 (I3 Z 0 (l.flatMap D3)) (l.length*11) (D3 x):=by
  rw [List.flatMap_append,a5A,a3c,yV];simp
 exact ⟨n.blk hI.hd zo,n.blk hI.bd zo,n.blk hI.nd hI.ne,by rw [hz];exact u.at_,n.toCl hI.cl h4,hI.tab0,h1,h2,h3,h4,hI.ne⟩
end smi
end
section
open Go Go.RowKit
open E
open Ch Bb
theorem c2Z {i:Nat} (h:i<12):colM ((i:Int)+1)=(i:Int)/6+1:=by
 unfold colM Ch.A1;rw [zJ zo];split<;>omega
theorem c5C {p:l9} {i:Nat} (h:i<12):(mbOf p).of ((i:Int)+1)=pcs p ((i:Int)+1):=by
 unfold MB.of;rw [zJ zo,show ((i:Int)+1).toNat-1=i by omega,a0A p i h];rfl
theorem c2a (p:l9) (m:Mv):tg p m<64:=by
 unfold tg;refine b39 (b39 (b39 ?_ ?_) ?_) ?_
 ·unfold capTag;(repeat' split)<;>decide
 ·unfold S5;(repeat' split)<;>decide
 ·split<;>decide
 ·split<;>decide
theorem c0E {p:l9} (hI:B9 p) {fr to:Nat} {k:Int} (h:G6 p ⟨fr,to,k⟩) (hr:l8 to=7-7*p.turn) :
  (tg p ⟨fr,to,k⟩).testBit 0=false∧(tg p ⟨fr,to,k⟩).testBit 1=false∧(tg p ⟨fr,to,k⟩).testBit 3=false:=by
 have hc:=(K7 hI h).1;have hep:(to:Int)≠p.ep:=by
  intro e;obtain ⟨_,_,h3⟩:=L7 hI.pass;have h4:=(h3 zo).1;rw [← e] at h4;have:=hI.turn;omega
 have hcap:capTag p ⟨fr,to,k⟩=if sq p to≠0 then 4 else 0:=by
  unfold capTag;by_cases e:sq p to=0
  ·rw [zJ (fun e2=>e2 e),zJ (fun e2=>hep e2.1),zJ (fun e2=>e2 e)]
  ·rw [zM e,zM e]
 unfold tg;rw [hc,hcap];simp only [yD];split<;>cases J3 p ⟨fr,to,k⟩<;>cases inCheck (made p ⟨fr,to,k⟩)<;>decide
theorem a8E {p:l9} (hI:B9 p) {m:Mv} (h:G6 p m) {t:Nat} (h64:t<64) (h0:t.testBit 0=false) (h1:t.testBit 1=false) (h3:t.testBit 3=false)
  {w0 w:World} {P b M A:Nat} {c:Bool} {cv:Value} {Z:Array Value} {l:List PM} (hS:SmI w0 P b M A (C7 p c) cv (mbOf p) Z ⟨m,t⟩ l w) :
  Calls G.P 253 #[.pointer (some ⟨M,0,none⟩),.pointer (some ⟨P,0,none⟩)] w (fun r w'=>r = .returned (.tuple #[])∧SmI w0 P b M A (C7 p c) cv (mbOf p) Z ⟨m,t ||| tg p m⟩ l w'):=by
 have k0:=hI.king 0 (.inl rfl);have k1:=hI.king 1 (.inr rfl);have e0:(mbOf p).wk=kingAt p 0:=rfl;have e1:(mbOf p).bk=kingAt p 1:=rfl;have ht:=hI.turn;have hf:=h.f0;have hf1:=h.f1;have hat:(mbOf p).at m.fr.toNat=sq p m.fr:=by
  rw [V0 hI.pc zo,zi hf]
 refine (a4h (d:=C2 ⟨m,t⟩) (h:=C7 p c) (by show p.turn+1=1∨p.turn+1=2;omega) (by rw [e0];have:=k0.1;omega) (by rw [e0];exact k0.2.1) (by rw [e1];have:=k1.1;omega) (by rw [e1];exact k1.2.1) hf hf1 h.t0 h.t1 h64 ?_ w hS.at).mono ?_
 ·show m.promo=0∨(1≤m.promo∧m.promo≤6∧(mbOf p).at m.fr.toNat≠0);rw [hat];rcases h.promo with e | e
  ·exact .inl e.1
  ·exact .inr ⟨zo,zo,h.there⟩
 ·rintro r w' ⟨hr,h2⟩;refine ⟨hr,hS.back ?_⟩;have:=a8B hI h h0 h1 h3;rw [← this];exact h2
theorem b6f (l:List Value) (cs:Array Value) (h:l.length≤cs.size):(I3 cs 0 l).extract 0 l.length=l.toArray:=by
 apply Array.ext_getElem?;intro k;rw [Array.getElem?_extract];rw [E8,N3 l cs 0 _ zo];by_cases hk:k<l.length
 ·rw [zM zo,zM zo];simp
 ·rw [zJ zo,Array.getElem?_eq_none (by simpa using hk)]
theorem b8k {w0 w:World} {P b M A o:Nat} {h:Hd} {cv:Value} {B:MB} {Z:Array Value} {x:PM} {l:List PM} {K:World→Prop} (hS:SmI w0 P b M A h cv B Z x l w) (hz:Z.size=2398) (hl:l.length<218) (ho:o=l.length*11)
  (hk:∀ w',SmI w0 P b M A h cv B Z x (l++[x]) w'→K w'):a0y G.P w 141 ⟨A,o,none⟩ (.agg (F6 (C2 x))) K:=by
 subst ho;exact J6 hS.arr (D3 x) rfl a0Q rfl (F5 x) (by rw [E8,hz];omega) fun w' u=>hk w' (hS.push u)
theorem b4Z {w0 w:World} {P b M A:Nat} {h:Hd} {cv:Value} {B:MB} {Z:Array Value} {x y:PM} (hS:SmI w0 P b M A h cv B Z x [y] w) (hz:Z.size=2398):o4 G.P w 141 ⟨A,0,none⟩ (.agg (F6 (C2 y))):=by
 have h1:=ldA (t:=141) (o:=0) (z:=11) hS.arr rfl (by rw [E8,hz];decide)
 have e:(I3 Z 0 ([y].flatMap D3)).extract 0 11=F6 (C2 y):=by
  have:=b6f (D3 y) Z (by rw [hz];show 11≤2398;decide)
  rw [show [y].flatMap D3=D3 y by simp,← show (D3 y).length=11 from rfl,this];rfl
 rw [← e];exact h1
theorem Row.blk {α:Type} {enc:α→List Value} {e z b0 g:Nat} {w:World} {l:List α} (henc:∀ x,(enc x).length=z) (hm:l.length≤100000) (hb:b0≤g) (h:w.heap[g]?=some (.cells (l.flatMap enc).toArray e (0,0))) :
  Row e z enc b0 w (.slice (some ⟨g,0,none⟩) l.length l.length) l:=by
 refine ⟨K5 henc l,.inr ⟨g,l.length,_,rfl,hb,h,yH _,by unfold maxLen;omega,by simp [K5 henc],?_⟩⟩
 simp only [List.toList_toArray];rw [List.take_of_length_le (by rw [K5 henc];exact yH _)]
theorem c0F {p:l9} {fr to:Int} {i t:Nat} (h:i<4):S6 p fr to (([2,3,4,5]:List Int).drop i) t =
  (if (t ||| tg p ⟨fr,to,(i:Int)+2⟩).testBit 5 then [] else [⟨⟨fr,to,(i:Int)+2⟩,t ||| tg p ⟨fr,to,(i:Int)+2⟩⟩])++S6 p fr to (([2,3,4,5]:List Int).drop (i+1)) (t ||| tg p ⟨fr,to,(i:Int)+2⟩):=by
 rcases (by omega:i=0∨i=1∨i=2∨i=3) with rfl | rfl | rfl | rfl<;>rfl
theorem a3d {a s:Nat}:a &&& D6 s=0↔a.testBit (63-s)=false:=by
 rw [Nat.and_comm];show 2^(63-s) &&& a=0↔_;rw [b4Y];have:=Nat.two_pow_pos (63-s);cases a.testBit (63-s)<;>simp
theorem a0W (n k:Nat):U7 0 n k=n*k:=by rw [y6,yV]
theorem nz {a:Nat} (h:¬ ((a:Nat):Int)=0):a≠0:=by omega
set_option maxHeartbeats 2000000 in
theorem b3B {p:l9} (hI:B9 p) (first:Bool) (hle:first=false→(A5 p).length≤218) {P b:Nat} {c:Bool} {cv:Value} (w:World) (hT:C9 w)
  (hP:w.heap[P]?=some (.cells (hdA b (C7 p c) cv) 173 (0,0))) (hB:w.heap[b]?=some (.cells (I4 (mbOf p)) 237 (0,0))) :
  Calls G.P 199 #[.pointer (some ⟨P,0,none⟩),.bool first] w (fun r w'=>Cl w w'∧∃ v,r = .returned v∧if first=true then (A5 p=[]∧Row 141 11 D3 w.heap.size w' v [])∨(A5 p≠[]∧∃ g y u,v = .slice (some ⟨g,0,none⟩) 1 1∧w'.heap[g]?=some (.cells (F6 (C2 y)) u (0,0))) else Row 141 11 D3 w.heap.size w' v (A5 p)):=by
 have hPs:P<w.heap.size:=(Array.getElem?_eq_some_iff.1 hP).1;have hbs:b<w.heap.size:=(Array.getElem?_eq_some_iff.1 hB).1;have ht:=hI.turn;have tc:∀ w':World,w'.heap[P]?=some (.cells (hdA b (C7 p c) cv) 173 (0,0))→Calls G.P 121 #[.pointer (some ⟨P,0,none⟩)] w' (D9 (.int .i8 (p.turn+1)) w'):=fun w' h=>a4P w' h;obtain ⟨g,og,cp,ha1,ha2⟩:=hT.all;obtain ⟨g2,og2,cp2,hp1,hp2⟩:=hT.promo;obtain ⟨z,hz,hzs⟩:=c5B;refine zN Tryz.func199 ?_;refine zR ?_;refine t7 z hz (zR ?_);refine t7 _ a43 (zR ?_);have hS:SmI w P b (w.heap.size+1) w.heap.size (C7 p c) cv (mbOf p) z.cells ⟨⟨0,0,0⟩,0⟩ [] ((w.alloc (.cells z.cells 289)).alloc (.cells (Value.agg (F6 (C2 ⟨⟨0,0,0⟩,0⟩))).cells 141)):=by
  have c1:=Cl.alloc w (.cells z.cells 289);have n1:=g7 w (.cells z.cells 289);have s1:=A8 w (.cells z.cells 289);generalize w.alloc (.cells z.cells 289)=w1 at *;have c2:=Cl.alloc w1 (.cells (Value.agg (F6 (C2 ⟨⟨0,0,0⟩,0⟩))).cells 141);have n2:=g7 w1 (.cells (Value.agg (F6 (C2 ⟨⟨0,0,0⟩,0⟩))).cells 141);rw [s1] at n2;exact ⟨c2.blk (c1.blk hP),c2.blk (c1.blk hB),n2,c2.blk n1,c1.trans c2,hT,hPs,hbs,zo,zo,zo⟩
 have eA:(w.alloc (.cells z.cells 289)).heap.size=w.heap.size+1:=A8 _ _;simp only [eA];generalize (w.alloc (.cells z.cells 289)).alloc (.cells (Value.agg (F6 (C2 ⟨⟨0,0,0⟩,0⟩))).cells 141)=w1 at *;clear eA;have hP:=hS.hd;have hB:=hS.bd;refine zH ?_;refine B0 (σ:=Unit) [8] 28 (fun _=>[(8,.int .u64 (Bb.not (side p p.turn):Nat))]) (fun _ w'=>w'=w1) zk ?_ (fun _ j w2 e2=>?_)
 ·refine zR ?_;refine g8 (tc _ hP) (zR ?_);rcases ht with ht | ht
  ·rw [ht];refine zR ?_;exact ⟨(),⟨rfl,trivial⟩,rfl⟩
  ·rw [ht];refine zB ?_;exact ⟨(),⟨rfl,trivial⟩,rfl⟩
 subst e2;have hTw:=hS.tab;have lSd:I6 (side p p.turn):=⟨S2 _⟩;have lS:I6 (Bb.not (side p p.turn)):=inferInstance;refine zR ?_;refine d9 _ (K6 (ha1.cl hS.cl) (i:=0) zd rfl rfl) (zR ?_);refine A9 (σ:=Nat×List PM×PM) [4,6,10,11,12,13,14,16,17,18,41] 42 (fun s=>[(6,.int .i64 s.2.1.length),(41,.int .i64 s.1)]) (fun s w'=>s.1≤12∧s.2.1++a4U p s.1=A5 p∧(first=true→s.2.1=[])∧SmI w P b (w.heap.size+1) w.heap.size (C7 p c) cv (mbOf p) z.cells s.2.2 s.2.1 w') (fun s=>12-s.1) zk (0,[],⟨⟨0,0,0⟩,0⟩) ⟨zd,by rw [yJ];exact b8h hI.turn,fun _=>rfl,hS⟩ ⟨rfl,rfl,trivial⟩ ?_
 rintro ⟨i,l,x⟩ j1 w2 ⟨hi,hrem,hfst,hS2⟩;simp only at hi hrem hfst hS2 ⊢;clear hTw hS hP hB;refine zR ?_;apply E.d6<;>intro h
 ·have hi2:i<12:=by omega
  have ni:=C0 (i:=i) zo;clear h;have hcol:=c2Z hi2;have hcc:=a56 ((i:Int)+1) zo zo w2;rw [hcol] at hcc;refine zR ?_;refine zC ?_;refine zR ?_;refine d9 _ (a6u (ha2.cl hS2.cl) (i:=i) hi2 rfl rfl) (zR ?_);refine g8 (tc _ hS2.hd) (zR ?_);refine g8 hcc (zR ?_);apply E.y8<;>intro h
  ·refine zR ?_;exact ⟨(i+1,l,x),⟨rfl,d7 ni,trivial⟩,⟨by show i+1≤12;omega,by rw [← hrem,a9P hi2,zJ zo];rfl,hfst,hS2⟩,by show 12-(i+1)<12-i;omega⟩
  have htt:(i:Int)/6=p.turn:=by omega
  clear h;rw [a9P hi2,zM htt] at hrem;obtain ⟨k,hk⟩:∃ k:Int,(i:Int)+1=k+6*p.turn:=⟨(i:Int)+1-6*p.turn,zo⟩;rw [show (i:Int)+1-6*p.turn=k by omega] at hrem
  have k1:1≤k:=by omega
  have k6:k≤6:=by omega
  have hkind:kindOf ((i:Int)+1)=k:=by rw [hk];exact O6 k1 k6 ht
  have hty:=fun w=>a1i ((i:Int)+1) zo zo w;have hbp:=fun w' hb=>P4 (mbOf p) b (t:=237) (fz:=(0,0)) ((i:Int)+1) zo zo w' hb;rw [c5C hi2] at hbp;simp only [hkind] at hty;have hone:a3l p k 0=[]→l++a4U p (i+1)=A5 p:=fun e=>by rw [← hrem,e];rfl
  have hP:=hS2.hd;refine zB ?_;refine g8 (hbp _ hS2.bd) (zR ?_);apply E.d6<;>intro h
  ·refine zR ?_;have h':pcs p ((i:Int)+1)=0:=n0 h;rw [hk] at h';exact ⟨(i+1,l,x),⟨rfl,d7 ni,trivial⟩,⟨by show i+1≤12;omega,hone (b6c h'),hfst,hS2⟩,by show 12-(i+1)<12-i;omega⟩
  have lP:I6 (pcs p ((i:Int)+1)):=⟨S2 _⟩;clear h;refine zR ?_;refine A9 (σ:=Nat×List PM×PM) [4,6,12,13,14,16,17,18,58] 59 (fun s=>[(6,.int .i64 s.2.1.length),(58,.int .i64 s.1)]) (fun s w'=>s.1≤64∧s.2.1++(a3l p k s.1++a4U p (i+1))=A5 p∧(first=true→s.2.1=[])∧SmI w P b (w.heap.size+1) w.heap.size (C7 p c) cv (mbOf p) z.cells s.2.2 s.2.1 w') (fun s=>64-s.1) zk (0,l,x) ⟨Nat.zero_le _,hrem,hfst,hS2⟩ ⟨rfl,rfl,trivial⟩ ?_
  clear hrem hfst hS2 hone hP;rintro ⟨fr,l2,x2⟩ j2 w3 ⟨hf,hrem,hfst,hS3⟩;simp only at hf hrem hfst hS3 ⊢;refine zR ?_;apply E.d6<;>intro h
  ·have hf2:fr<64:=by omega
   have nf:=C0 (i:=fr) zo;clear h;have e8:IntKind.i8.wrap (fr:Int)=fr:=Y8 zo zo;rw [b6b hf2] at hrem;have hskip:Y3 p k fr=[]→l2++(a3l p k (fr+1)++a4U p (i+1))=A5 p:=fun e=>by rw [← hrem,e];rfl
   have hbs:=fun w=>y7 fr hf2 w;refine zR ?_;rw [e8];refine g8 (hbs _) (zB ?_);apply E.d6<;>intro h
   ·refine zR ?_;have h':=a3d.1 (n0 h);have hne:sq p fr≠k+6*p.turn:=by
     intro e;rw [a3X _ _ hf2,zZ] at h';exact h' (by rw [hk];exact e)
    exact ⟨(fr+1,l2,x2),⟨rfl,d7 nf,trivial⟩,⟨by show fr+1≤64;omega,hskip (a8C hne),hfst,hS3⟩,by show 64-(fr+1)<64-fr;omega⟩
   have hsq:sq p fr=k+6*p.turn:=by
    have h':¬ _:=fun e=>nz h (a3d.2 e);rw [a3X _ _ hf2,Bool.not_eq_false,zW] at h';rw [h',hk]
   clear h hbs;rw [b2b hsq] at hrem hskip;refine zR ?_;refine g8 (hty _) (zR ?_);rw [e8];refine o8 (b33 (h:=C7 p c) fr hf2 k k1 k6 (by show p.turn+1=1∨p.turn+1=2;omega) (L7 hI.pass).1 (L7 hI.pass).2.1 _ hS3.tab hS3.hd hS3.bd) fun w4 c4=>?_
   have hS4:=hS3.step c4;have eP:(mbOf p).poss (C7 p c).turn (epN (C7 p c).ep) k fr=a6N p k fr:=c0r p ht k fr;have lQ:I6 (a6N p k fr):=⟨b76 _ _ _⟩;rw [eP];clear hS3;have eG:a6N p k fr &&& Bb.not (side p p.turn)=goB p k fr:=rfl;have lG:I6 (goB p k fr):=by rw [← eG];infer_instance
   refine zB ?_;rw [eG];apply E.d6<;>intro h
   ·refine zR ?_;exact ⟨(fr+1,l2,x2),⟨rfl,d7 nf,trivial⟩,⟨by show fr+1≤64;omega,hskip (b6d (n0 h)),hfst,hS4⟩,by show 64-(fr+1)<64-fr;omega⟩
   clear h hskip;refine zR ?_;refine A9 (σ:=Nat×List PM×PM) [4,6,14,16,17,18,77] 78 (fun s=>[(6,.int .i64 s.2.1.length),(77,.int .i64 s.1)]) (fun s w'=>s.1≤64∧s.2.1++(a61 p k fr s.1++a3l p k (fr+1)++a4U p (i+1))=A5 p∧(first=true→s.2.1=[])∧SmI w P b (w.heap.size+1) w.heap.size (C7 p c) cv (mbOf p) z.cells s.2.2 s.2.1 w') (fun s=>64-s.1) zk (0,l2,x2) ⟨Nat.zero_le _,hrem,hfst,hS4⟩ ⟨rfl,rfl,trivial⟩ ?_
   clear hrem hfst hS4 c4;rintro ⟨to,l3,x3⟩ j3 w5 ⟨hto,hrem,hfst,hS5⟩;simp only at hto hrem hfst hS5 ⊢;refine zR ?_;apply E.d6<;>intro h
   ·have ht2:to<64:=by omega
    have nt:=C0 (i:=to) zo;clear h;have e8t:IntKind.i8.wrap (to:Int)=to:=Y8 zo zo;rw [b6a ht2] at hrem;have hskip:(if (goB p k fr).testBit (63-to) then a27 p fr to else [])=[]→l3++(a61 p k fr (to+1)++a3l p k (fr+1)++a4U p (i+1))=A5 p:=fun e=>by rw [← hrem,e];rfl
    have hbs:=fun w=>y7 to ht2 w;refine zR ?_;rw [e8t];refine g8 (hbs _) (zB ?_);apply E.d6<;>intro h
    ·refine zR ?_;have h':=a3d.1 (n0 h);exact ⟨(to+1,l3,x3),⟨rfl,d7 nt,trivial⟩,⟨by show to+1≤64;omega,hskip (by rw [h'];rfl),hfst,hS5⟩,by show 64-(to+1)<64-to;omega⟩
    have hbit:(goB p k fr).testBit (63-to)=true:=by
     have h':¬ _:=fun e=>nz h (a3d.2 e);simpa using h'
    clear h hbs hskip;rw [hbit,zM rfl] at hrem;refine zR ?_;rw [e8];refine c41 hS5.nd _ fun w6 u6=>?_;have hS6:=hS5.upd u6;clear hS5 u6;refine zR ?_;rw [e8t];refine c42 hS6.nd _ fun w7 u7=>?_;have hS7:=hS6.upd u7;clear hS6 u7;refine zR ?_;refine c0D hS7.nd 0 fun w8 u8=>?_;have hS8:=hS7.upd u8;clear hS7 u8;simp only at hS8;refine zG ?_;have hrk:l8 (to:Int)=(to:Int)/8:=rfl;have hsr:=fun w=>a0V (to:Int) zo zo w;obtain ⟨PR,hPR⟩:∃ PR:Bool,PR=decide (k=6∧l8 (to:Int)=7-7*p.turn):=⟨_,rfl⟩;refine B0 (σ:=Unit) [93,94,95,96,97,98,99,100,101,102,103,104,105,106,107,108,109,110] 111 (fun _=>[(110,.bool PR)]) (fun _ w'=>w'=w8) zk ?_ (fun _ j w9 e9=>?_)
    ·refine zR ?_;apply E.d6<;>intro h
     ·refine zR ?_;rw [e8t];refine g8 (hsr _) (zR ?_);apply E.d6<;>intro h
      ·refine zR ?_;exact ⟨(),⟨z6 (hPR.trans (zX zo)).symm,trivial⟩,rfl⟩
      ·refine zR ?_;refine E.p8 zo (zR ?_);exact ⟨(),⟨z6 (hPR.trans (zV zo)).symm,trivial⟩,rfl⟩
     ·refine zR ?_;apply E.d6<;>intro h
      ·refine zR ?_;rw [e8t];refine g8 (hsr _) (zR ?_);exact ⟨(),⟨z6 (hPR.trans (yZ.2 zo)).symm,trivial⟩,rfl⟩
      ·refine zR ?_;exact ⟨(),⟨z6 (hPR.trans (zV zo)).symm,trivial⟩,rfl⟩
    subst e9;clear hsr;have hkp:kindOf (sq p fr)=k:=by rw [hsq];exact O6 k1 k6 ht
    have hLen:∀ {a b:List PM} {y:PM},a++([y]++b)=A5 p→(first=true→a=[])→a.length<218:=fun {a b y} e hf=>by
     cases first
     rotate_left
     ·rw [hf rfl];decide
     have hle:=hle rfl;have:=yG List.length e;simp only [zF,zh,za] at this;omega
    generalize hR:a61 p k fr (to+1)++a3l p k (fr+1)++a4U p (i+1)=R;have hRa:∀ a b:List PM,a++(b++a61 p k fr (to+1)++a3l p k (fr+1)++a4U p (i+1))=a++(b++R):=fun a b=>by rw [← hR];simp only [yF]
    cases PR
    ·have h:=of_decide_eq_false hPR.symm;clear hPR;have hpl:G6 p ⟨fr,to,0⟩:=a6X hI k1 k6 hf2 ht2 hsq hbit (.inl ⟨rfl,h⟩);have hmt:a27 p fr to=if (tg p ⟨fr,to,0⟩).testBit 5 then [] else [⟨⟨fr,to,0⟩,tg p ⟨fr,to,0⟩⟩]:=by unfold a27;rw [zJ (by rw [hkp];exact h)]
     rw [hmt] at hrem;clear h hmt;rw [hRa] at hrem;refine zR ?_;refine a8D hS8.nd 0 fun w11 u11=>?_;have hS11:=hS8.upd u11;clear hS8 u11;refine zR ?_;refine m8 (a8E (t:=0) hI hpl zd zd zd zd hS11) ?_;rintro r w12 ⟨rfl,hS12⟩;refine ⟨_,rfl,?_⟩;rw [Nat.zero_or] at hS12;have o64:tg p ⟨fr,to,0⟩<64:=c2a _ _;generalize tg p ⟨fr,to,0⟩=T at *;have hht:=a1W (k:=5) (d:=C2 ⟨⟨fr,to,0⟩,T⟩) zd (by show T<65536;omega) w12 hS12.nd
     clear hS11;refine zR ?_;have hht':Calls G.P 147 #[.pointer (some ⟨w.heap.size+1,0,none⟩),.int .u16 32] w12 (D9 (.bool (T.testBit 5)) w12):=hht;cases hb5:T.testBit 5
     ·rw [hb5] at hht' hrem;refine g8 hht' ?_;rw [zJ zd] at hrem;have hlt:=hLen (a:=l3) (y:=⟨⟨fr,to,0⟩,T⟩) (b:=R) hrem hfst;have n4:=C0 (i:=l3.length) zo;have hrem':(l3++[⟨⟨fr,to,0⟩,T⟩])++R=A5 p:=by rw [← hrem];simp only [yF]
      refine zR ?_;refine d9 _ (b6e hS12.nd) (zR ?_);refine zC ?_;refine zR ?_;refine b8k hS12 hzs hlt (a0W _ _) fun w13 hS13=>zR ?_;cases first
      ·refine zR ?_;exact ⟨(to+1,_,_),⟨d7 (n4.trans (by rw [zF];rfl)),d7 nt,trivial⟩,⟨by show to+1≤64;omega,by rw [← hrem',← hR],fun e=>(by cases e),hS13⟩,by show 64-(to+1)<64-to;omega⟩
      ·have hl0:=hfst rfl;subst hl0;obtain ⟨z1v,hz1,hz1s⟩:=z1;refine zR ?_;refine t7 z1v hz1 ?_;have ca:=Cl.alloc w13 (.cells z1v.cells 293);have na:=g7 w13 (.cells z1v.cells 293);have hge:=hS13.cl.size;generalize w13.alloc (.cells z1v.cells 293)=w14 at *;have hS14:=hS13.step ca;refine zR ?_;refine d9 _ (b4Z hS14 hzs) (zR ?_);refine J6 na (D3 ⟨⟨fr,to,0⟩,T⟩) rfl a0Q rfl (F5 _) (by rw [hz1s];decide) fun w15 u15=>zR ?_
       refine b2d (n:=1) (el:=141) (z:=11) rfl rfl (zR ?_);exact ⟨(Tn.upd u15).toCl hS14.cl zo,_,rfl,.inr ⟨fun e=>by rw [e] at hrem';simp at hrem',_,⟨⟨fr,to,0⟩,T⟩,_,rfl,by have h15:=u15.at_;rw [show U7 0 (Int.toNat 0) 11=0 from rfl,B7 _ _ (by rw [hz1s];rfl)] at h15;exact h15⟩⟩
     ·rw [hb5] at hht' hrem;refine g8 hht' (zR ?_);exact ⟨(to+1,_,_),⟨rfl,d7 nt,trivial⟩,⟨by show to+1≤64;omega,by rw [← hrem,← hR];simp,hfst,hS12⟩,by show 64-(to+1)<64-to;omega⟩
    ·have h:=yA hPR.symm;clear hPR;have hpl:∀ pr:Int,2≤pr→pr≤5→G6 p ⟨fr,to,pr⟩:=fun pr h2 h5=>a6X hI k1 k6 hf2 ht2 hsq hbit (.inr ⟨h2,h5,h.1,h.2⟩);have hrt:=h.2;have hmt:a27 p fr to=S6 p fr to (([2,3,4,5]:List Int).drop 0) 0:=by unfold a27;rw [zM (by rw [hkp];exact h)];rfl
     rw [hmt] at hrem;clear h hmt;rw [hRa] at hrem;refine zR ?_;refine d9 _ (K6 (hp1.cl hS8.cl) (i:=0) zd rfl rfl) (zR ?_);refine A9 (σ:=Nat×List PM×Int×Nat) [4,6,16,17,113] 114 (fun s=>[(6,.int .i64 s.2.1.length),(113,.int .i64 s.1)]) (fun s w'=>s.1≤4∧s.2.1++(S6 p fr to (([2,3,4,5]:List Int).drop s.1) s.2.2.2++R)=A5 p∧(first=true→s.2.1=[]) ∧
      SmI w P b (w.heap.size+1) w.heap.size (C7 p c) cv (mbOf p) z.cells ⟨⟨fr,to,s.2.2.1⟩,s.2.2.2⟩ s.2.1 w'∧s.2.2.2<64∧s.2.2.2.testBit 0=false∧s.2.2.2.testBit 1=false∧s.2.2.2.testBit 3=false) (fun s=>4-s.1) zk (0,l3,x3.mv.promo,0) ⟨Nat.zero_le _,hrem,hfst,hS8,show 0<64 by decide,show (0:Nat).testBit 0=false by decide,show (0:Nat).testBit 1=false by decide,show (0:Nat).testBit 3=false by decide⟩ ⟨rfl,rfl,trivial⟩ ?_
     clear hrem hfst hS8;rintro ⟨q,l4,pr,tt⟩ j4 w10 ⟨hq,hrem,hfst,hS10,htt64,tb0,tb1,tb3⟩;simp only at hq hrem hfst hS10 htt64 tb0 tb1 tb3 ⊢;refine zR ?_;apply E.d6<;>intro h
     ·have hq2:q<4:=by omega
      have nq:=C0 (i:=q) zo;clear h;have hpq:=hpl ((q:Int)+2) zo zo;obtain ⟨g0,g1,g3⟩:=c0E hI hpq hrt;rw [c0F hq2] at hrem;refine zR ?_;refine zC ?_;refine zR ?_;refine d9 _ (a6u (hp2.cl hS10.cl) (i:=q) hq2 rfl rfl) (zR ?_);refine a8D hS10.nd _ fun w11 u11=>?_;have hS11:=hS10.upd u11;clear hS10 u11;refine zR ?_;refine m8 (a8E hI hpq htt64 tb0 tb1 tb3 hS11) ?_;rintro r w12 ⟨rfl,hS12⟩;refine ⟨_,rfl,?_⟩;have o64:tt ||| tg p ⟨fr,to,(q:Int)+2⟩<64:=b39 htt64 (c2a _ _)
      have o0:(tt ||| tg p ⟨fr,to,(q:Int)+2⟩).testBit 0=false:=by rw [yD,tb0,g0];rfl
      have o1:(tt ||| tg p ⟨fr,to,(q:Int)+2⟩).testBit 1=false:=by rw [yD,tb1,g1];rfl
      have o3:(tt ||| tg p ⟨fr,to,(q:Int)+2⟩).testBit 3=false:=by rw [yD,tb3,g3];rfl
      generalize tt ||| tg p ⟨fr,to,(q:Int)+2⟩=T at *
      have hht:=a1W (k:=5) (d:=C2 ⟨⟨fr,to,(q:Int)+2⟩,T⟩) zd (by show T<65536;omega) w12 hS12.nd
      clear hS11;refine zR ?_;have hht':Calls G.P 147 #[.pointer (some ⟨w.heap.size+1,0,none⟩),.int .u16 32] w12 (D9 (.bool (T.testBit 5)) w12):=hht;cases hb5:T.testBit 5
      ·rw [hb5] at hht' hrem;refine g8 hht' ?_;rw [zJ zd] at hrem;have hlt:=hLen (a:=l4) (y:=⟨⟨fr,to,(q:Int)+2⟩,T⟩) (b:=S6 p fr to (([2,3,4,5]:List Int).drop (q+1)) T++R) (by rw [← hrem];simp only [yF]) hfst
       have n4:=C0 (i:=l4.length) zo;have hrem':(l4++[⟨⟨fr,to,(q:Int)+2⟩,T⟩])++(S6 p fr to (([2,3,4,5]:List Int).drop (q+1)) T++R)=A5 p:=by rw [← hrem];simp only [yF]
       refine zR ?_;refine d9 _ (b6e hS12.nd) (zR ?_);refine zC ?_;refine zR ?_;refine b8k hS12 hzs hlt (a0W _ _) fun w13 hS13=>zR ?_;cases first
       ·refine zR ?_;exact ⟨(q+1,_,(q:Int)+2,_),⟨d7 (n4.trans (by rw [zF];rfl)),d7 nq,trivial⟩,⟨by show q+1≤4;omega,hrem',fun e=>(by cases e),hS13,o64,o0,o1,o3⟩,by show 4-(q+1)<4-q;omega⟩
       ·have hl0:=hfst rfl;subst hl0;obtain ⟨z1v,hz1,hz1s⟩:=z1;refine zR ?_;refine t7 z1v hz1 ?_;have ca:=Cl.alloc w13 (.cells z1v.cells 293);have na:=g7 w13 (.cells z1v.cells 293);have hge:=hS13.cl.size;generalize w13.alloc (.cells z1v.cells 293)=w14 at *;have hS14:=hS13.step ca;refine zR ?_;refine d9 _ (b4Z hS14 hzs) (zR ?_);refine J6 na (D3 ⟨⟨fr,to,(q:Int)+2⟩,T⟩) rfl a0Q rfl (F5 _) (by rw [hz1s];decide) fun w15 u15=>zR ?_
        refine b2d (n:=1) (el:=141) (z:=11) rfl rfl (zR ?_);exact ⟨(Tn.upd u15).toCl hS14.cl zo,_,rfl,.inr ⟨fun e=>by rw [e] at hrem';simp at hrem',_,⟨⟨fr,to,(q:Int)+2⟩,T⟩,_,rfl,by have h15:=u15.at_;rw [show U7 0 (Int.toNat 0) 11=0 from rfl,B7 _ _ (by rw [hz1s];rfl)] at h15;exact h15⟩⟩
      ·rw [hb5] at hht' hrem;refine g8 hht' (zR ?_);exact ⟨(q+1,_,(q:Int)+2,_),⟨rfl,d7 nq,trivial⟩,⟨by show q+1≤4;omega,hrem,hfst,hS12,o64,o0,o1,o3⟩,by show 4-(q+1)<4-q;omega⟩
     ·have hq4:q=4:=by omega
      subst hq4;refine zR ?_;exact ⟨(to+1,_,_),⟨rfl,d7 nt,trivial⟩,⟨by show to+1≤64;omega,by rw [← hrem,← hR];simp [S6],hfst,hS10⟩,by show 64-(to+1)<64-to;omega⟩
   ·have e64:to=64:=by omega
    subst e64;rw [b8d] at hrem;refine zR ?_;exact ⟨(fr+1,_,_),⟨rfl,d7 nf,trivial⟩,⟨by show fr+1≤64;omega,hrem,hfst,hS5⟩,by show 64-(fr+1)<64-fr;omega⟩
  ·have e64:fr=64:=by omega
   subst e64;rw [b8e] at hrem;refine zR ?_;exact ⟨(i+1,_,_),⟨rfl,d7 ni,trivial⟩,⟨by show i+1≤12;omega,hrem,hfst,hS3⟩,by show 12-(i+1)<12-i;omega⟩
 ·have e12:i=12:=by omega
  subst e12;rw [b8f,zm] at hrem;subst hrem;have hle:(A5 p).length≤218:=by
   cases first
   ·exact hle rfl
   ·rw [hfst rfl];decide
  refine zR ?_;refine b8i b2e (A5 p).length rfl rfl zo zd fun cs hcs=>?_;have ca:=Cl.alloc w2 (.cells cs 141);have na:=g7 w2 (.cells cs 141);have hge:=hS2.cl.size;generalize w2.alloc (.cells cs 141)=w3 at *;have hS3:=hS2.step ca;refine zR ?_;refine b2c (n:=218) (el:=141) (z:=11) (A5 p).length rfl rfl rfl hle (zR ?_);have fl:=a3c (A5 p);refine b8j b2e (cs:=(A5 p).flatMap D3) (n:=(A5 p).length) rfl rfl na fl hcs (fun jj v hv=>?_) (fun v hv=>?_) fun w4 u4=>?_
  ·rw [D2 hS3.arr,N3 _ _ _ _ (by rw [fl,hzs];omega),zM ⟨Nat.zero_le _,by rw [yV];exact (List.getElem?_eq_some_iff.1 hv).1⟩];exact hv
  ·obtain ⟨y,_,hy⟩:=List.mem_flatMap.1 hv;exact F5 y v hy
  have hc4:Cl w w4:=(Tn.upd u4).toCl hS3.cl zo;refine zR ?_;refine ⟨hc4,_,rfl,?_⟩;cases first
  ·rw [zJ zd];exact Row.blk J1 zo hge u4.at_
  ·rw [zM rfl];exact .inl ⟨hfst rfl,by have:=Row.blk (w:=w4) J1 zo hge u4.at_;rw [hfst rfl] at this ⊢;exact this⟩
end
section
open Go Go.RowKit
open E
def ixZ (c:UInt8) (s:Tx):Int:=if c∈s then (s.idxOf c:Int) else -1
theorem c3a {c:UInt8}:∀ {s:Tx} {i:Nat},s[i]?=some c→(∀ j,j<i→s[j]?≠some c)→c∈s∧s.idxOf c=i:=by
 intro s
 induction s with
 | nil=>intro i h;simp at h
 | cons x r ih =>
  intro i h hj;by_cases e:x=c
  ·subst e;cases i with
   | zero=>exact ⟨yW,by simp⟩
   | succ i=>exact absurd (by simp) (hj 0 zo)
  ·cases i with
   | zero=>simp at h;exact absurd h e
   | succ i =>
    obtain ⟨h1,h2⟩:=ih (i:=i) (by simpa using h) (fun j hlt=>by have:=hj (j+1) zo;simpa using this)
    refine ⟨yX _ h1,?_⟩;rw [List.idxOf_cons,show (x==c)=false by simpa using e,h2];rfl
theorem c3b {c:UInt8} {s:Tx} (h:∀ j,j<s.length→s[j]?≠some c):c∉s:=by
 intro hm;obtain ⟨j,hj⟩:=List.mem_iff_getElem?.1 hm;exact h j (List.getElem?_eq_some_iff.1 hj).1 hj
theorem c3c {c:UInt8} {s:Tx} {i:Nat} (h:s[i]?=some c) (hj:∀ j,j<i→s[j]?≠some c):ixZ c s=i:=by
 obtain ⟨h1,h2⟩:=c3a h hj;unfold ixZ;rw [zM h1,h2]
theorem c0G {c:UInt8} {s:Tx} (h:∀ j,j<s.length→s[j]?≠some c):ixZ c s=-1:=by
 unfold ixZ;rw [zJ (c3b h)]
theorem c43 {s:Tx} {i:Nat} (h:i<s.length):(s.drop i).take 1=[s[i]]:=by
 rw [List.drop_eq_getElem_cons h];rfl
theorem a62 (c:UInt8) (s:Tx) (hs:s.length≤100000) (w:World):Calls G.P 234 #[m9 s,m9 [c]] w (D9 (.int .i64 (ixZ c s)) w):=by
 have h0:(tx [c]).size=1:=C3 _;have hsz:(tx s).size=s.length:=C3 _;refine zN Tryz.func234 ?_;refine zR ?_;refine A9 (σ:=Nat) [4,5] 6 (fun i=>[(5,.int .i64 i)]) (fun i w'=>i≤s.length∧w'=w∧∀ j,j<i→s[j]?≠some c) (fun i=>s.length-i) zk 0 ⟨zo,rfl,fun j h=>by omega⟩ ⟨rfl,trivial⟩ ?_
 rintro i j w2 ⟨hi,rfl,hj⟩;have ni:=C0 (i:=i) zo;refine zR ?_;rw [h0,hsz];rw [show ((1:Nat):Int)=1 from rfl,ni];apply E.d6<;>intro h
 ·have hi2:i<s.length:=by omega
  clear h;refine zR ?_;rw [h0,show ((1:Nat):Int)=1 from rfl,ni];refine a0U [s[i]] rfl rfl rfl rfl zo zo zo ?_ ?_
  ·rw [show ((i+1:Nat):Int).toNat-(i:Int).toNat=1 by omega,zg];exact c43 hi2
  refine zR ?_;apply E.d6<;>intro h
  ·have e:=N5.1 h;refine zR ?_;exact ⟨D0 (c3c (by rw [List.getElem?_eq_getElem hi2];simpa using e) hj).symm,rfl⟩
  ·refine zR ?_;refine ⟨i+1,⟨d7 ni,trivial⟩,⟨zo,rfl,fun j h2=>?_⟩,zo⟩;by_cases e:j<i
   ·exact hj j e
   ·have:j=i:=by omega
    subst this;rw [List.getElem?_eq_getElem hi2];intro e2;injection e2 with e2;exact h (by rw [e2])
 ·refine zR ?_;exact ⟨D0 (c0G (fun j h2=>hj j zo)).symm,rfl⟩
theorem a1s (c:UInt8) (s:Tx) (hs:s.length≤100000) (w:World):Calls G.P 215 #[m9 s,m9 [c]] w (D9 (.bool (decide (c∈s))) w):=by
 refine zN Tryz.func215 ?_;refine zR ?_;refine g8 (a62 c s hs w) (zR ?_);refine ⟨o9 ?_,rfl⟩;unfold ixZ;by_cases h:c∈s
 ·rw [zM h];rw [zX h];exact zX zo
 ·rw [zJ h];rw [zV h];exact zV zo
def b8l (n:Nat):UInt8:=[75,81,107,113].getD n 0
theorem b8m:∀ n:Nat,n<4→∀ c:Nat,c<16→decide (b8l n∈Ch.castT (c:Int))=Ch.U8 (c:Int) n:=by decide
theorem a6Y (cr:Int) (h0:0≤cr) (h1:cr≤15) (t:Int) (ht:t=0∨t=1) (sd:Int) (hsd:sd=1∨sd=2) (w:World) :
  Calls G.P 175 #[m9 (Ch.castT cr),.int .i8 (t+1),.int .i64 sd] w (L4 (.bool (Ch.U8 cr (2*t+(sd-1)).toNat)) w):=by
 have hl:=a15 cr;have key:∀ n:Nat,n<4→decide (b8l n∈Ch.castT cr)=Ch.U8 cr n:=fun n hn=>by
  have:=b8m n hn cr.toNat zo
  rwa [zi h0] at this
 have e1:(0:Int)+1=1:=rfl;have e2:(1:Int)+1=2:=rfl;rcases ht with rfl | rfl<;>rcases hsd with rfl | rfl<;>simp only [e1,e2]<;>(refine E.enter (G:=G) Tryz.func175 rfl (by simp [Tryz.ntmps175]) zk ?_)<;>refine a4C ?_
 ·refine zR ?_;refine o8 (a9L 107 (.inl rfl) w) fun w1 c1=>zR ?_;refine g8 (a1s 75 (Ch.castT cr) zo w1) (zR ?_);exact ⟨o9 (key 0 zd),c1⟩
 ·refine zR ?_;refine o8 (a9L 113 (.inr rfl) w) fun w1 c1=>zR ?_;refine g8 (a1s 81 (Ch.castT cr) zo w1) (zR ?_);exact ⟨o9 (key 1 zd),c1⟩
 ·refine zR ?_;refine g8 (a1s 107 (Ch.castT cr) zo w) (zR ?_);exact ⟨o9 (key 2 zd),Cl.refl _⟩
 ·refine zR ?_;refine g8 (a1s 113 (Ch.castT cr) zo w) (zR ?_);exact ⟨o9 (key 3 zd),Cl.refl _⟩
end
end Go.Proofs.YtpclhlhcegcflaaGreatDoor
