/- One part of the proof: Pk9 PkN Law8 Pk10 Pk11 Pk13. -/
import Derived.Laws.MakeOwn
import Derived.Laws.CopyRow
import Derived.Laws.Slices
import Derived.Test.YtpclhlhcegcflaaGreatDoorM9
namespace Go.Proofs.YtpclhlhcegcflaaGreatDoor
open Go.Proofs.Tryz
set_option maxRecDepth 100000
set_option linter.unusedSimpArgs false
set_option linter.unusedVariables false
section
open Go Go.RowKit
open E
def capR (B:MB) (ep:Int) (m:Mv):Nat:=if (B.f 14).testBit (63-m.to.toNat)=false then 4 else if m.to=ep∧Ch.d6 (B.at m.fr.toNat)=6 then 8 else 0
def a7p (B:MB) (m:Mv):Nat :=
 if (B.at m.fr.toNat=1∧m.fr=4)∨(B.at m.fr.toNat=7∧m.fr=60) then (if m.to=2∨m.to=58 then 2 else if m.to=6∨m.to=62 then 1 else 0) else 0
def b3H (B:MB) (turn ep:Int) (m:Mv) (t:Nat):Nat :=
 let t2:=(t ||| capR B ep m) ||| a7p B m
 (t2 ||| (if (B.move m t2).chk turn then 32 else 0)) ||| (if (B.move m t2).chk (3-turn) then 16 else 0)
theorem b3I {a b:Nat} (ha:a<64) (hb:b<64):a ||| b<64:=yq (n:=6) ha hb
theorem c1a (B:MB) (ep:Int) (m:Mv):capR B ep m<64:=by unfold capR;(repeat' split)<;>decide
theorem c1b (B:MB) (m:Mv):a7p B m<64:=by unfold a7p;(repeat' split)<;>decide
instance move_ok {B:MB} [hO:B.Ok] {m:Mv} {t:Nat}:(B.move m t).Ok:=by
 unfold MB.move;have h1:(if m.promo=0 then B.m1 m.fr.toNat m.to.toNat 12 else (B.m1 m.fr.toNat m.to.toNat 12).m2 (B.at m.fr.toNat) (m.promo+6*(O7 (B.at m.fr.toNat)-1)) m.to.toNat).Ok:=by split<;>infer_instance
 have h2:(if t.testBit 3 then (if m.promo=0 then B.m1 m.fr.toNat m.to.toNat 12 else (B.m1 m.fr.toNat m.to.toNat 12).m2 (B.at m.fr.toNat) (m.promo+6*(O7 (B.at m.fr.toNat)-1)) m.to.toNat).m3 (O7 (B.at m.fr.toNat)) m.to.toNat else (if m.promo=0 then B.m1 m.fr.toNat m.to.toNat 12 else (B.m1 m.fr.toNat m.to.toNat 12).m2 (B.at m.fr.toNat) (m.promo+6*(O7 (B.at m.fr.toNat)-1)) m.to.toNat)).Ok:=by split<;>infer_instance
 exact b83
theorem b2g {A:MB} {fr to:Int} (w0:-1≤A.wk) (w1:A.wk≤63) (b0:-1≤A.bk) (b1:A.bk≤63) (t0:0≤to) (t1:to≤63):(-1≤(A.kings fr to).wk∧(A.kings fr to).wk≤63)∧(-1≤(A.kings fr to).bk∧(A.kings fr to).bk≤63):=by
 unfold MB.kings;(repeat' split)<;>(try simp only)<;>omega
theorem b3J {B:MB} {m:Mv} {t:Nat} (w0:-1≤B.wk) (w1:B.wk≤63) (b0:-1≤B.bk) (b1:B.bk≤63) (t0:0≤m.to) (t1:m.to≤63):(-1≤(B.move m t).wk∧(B.move m t).wk≤63)∧(-1≤(B.move m t).bk∧(B.move m t).bk≤63):=by
 unfold MB.move;simp only
 refine b2g ?_ ?_ ?_ ?_ t0 t1;all_goals first|rw [(a84 _).1,(b1Z _ _ _ _).1]|rw [(a84 _).2,(b1Z _ _ _ _).2]
 all_goals (split<;>(try rw [(a57 _ _ _).1])<;>(try rw [(a57 _ _ _).2])<;>split<;>assumption)
theorem c1c {w:World} {h:Hd} {cv:Value} {P b u:Nat} {K:World→Prop} (hP:w.heap[P]?=some (.cells (hdA b h cv) u (0,0))) (x:Int) (hk:∀ w',Upd w P (.cells (hdA b { h with turn:=x } cv) u (0,0)) w'→K w'):a0i G.P w 171 ⟨P,5,none⟩ (.int .i8 x) K :=
 K9 hP [.int .i8 x] rfl zk rfl (a1h _ _) (zU rfl) (fun w2 u2=>hk w2 u2)
structure AtI (w0:World) (P b M:Nat) (h:Hd) (cv:Value) (B:MB) (d:Nd) (w:World):Prop where
 hd:w.heap[P]?=some (.cells (hdA b h cv) 173 (0,0))
 bd:w.heap[b]?=some (.cells (H3 B) 237 (0,0))
 nd:w.heap[M]?=some (.cells (E8 d) 141 (0,0))
 tn:Tn M w0 w
 tab:D5 w
 neP:P≠M
 neb:b≠M
section ati
variable {w0 w w':World} {P b M:Nat} {h:Hd} {cv:Value} {B:MB} {d d':Nd}
theorem AtI.upd (hI:AtI w0 P b M h cv B d w) (u:Upd w M (.cells (E8 d') 141 (0,0)) w'):AtI w0 P b M h cv B d' w' :=
 ⟨(Tn.upd u).blk hI.hd hI.neP,(Tn.upd u).blk hI.bd hI.neb,u.at_,hI.tn.trans (Tn.upd u),hI.tab.tn (Tn.upd u) hI.nd rfl,hI.neP,hI.neb⟩
theorem AtI.cl (hI:AtI w0 P b M h cv B d w) (c:Cl w w'):AtI w0 P b M h cv B d w' :=
 ⟨c.blk hI.hd,c.blk hI.bd,c.blk hI.nd,hI.tn.trans (Tn.cl c),hI.tab.cl c,hI.neP,hI.neb⟩
end ati
theorem Tn.skip {b b':Nat} {w w1 w2:World} (h:Tn b w w1) (h':Tn b' w1 w2) (hb:w.heap.size≤b'):Tn b w w2 :=
 ⟨h'.os.trans h.os,h'.tape.trans h.tape,h'.output.trans h.output,zw h.size h'.size,fun k hk hne=>(h'.else_ k (xV hk h.size) zo).trans (h.else_ k hk hne)⟩
theorem AtI.lt {w0 w:World} {P b M:Nat} {h:Hd} {cv:Value} {B:MB} {d:Nd} (hI:AtI w0 P b M h cv B d w):P<w.heap.size∧b<w.heap.size∧M<w.heap.size :=
 ⟨(yh.1 hI.hd).1,(yh.1 hI.bd).1,(yh.1 hI.nd).1⟩
theorem AtI.far {w0 w w':World} {P b M k:Nat} {h:Hd} {cv:Value} {B:MB} {d:Nd} {cs:Array Value} {u:Nat} {fz:Nat×Nat} (hI:AtI w0 P b M h cv B d w) (n:Tn k w w') (hk:w.heap[k]?=some (.cells cs u fz)) (hu:a2o u=false) (h1:P≠k) (h2:b≠k) (h3:M≠k) (h4:w0.heap.size≤k):AtI w0 P b M h cv B d w' :=
 ⟨n.blk hI.hd h1,n.blk hI.bd h2,n.blk hI.nd h3,hI.tn.skip n h4,hI.tab.tn n hk hu,hI.neP,hI.neb⟩
theorem a9R {P b M:Nat} {h:Hd} {cv:Value} {B:MB} [hO:B.Ok] {d:Nd} (ht:h.turn=1∨h.turn=2) (w0:-1≤B.wk) (w1:B.wk≤63) (b0:-1≤B.bk) (b1:B.bk≤63)
  (f0:0≤d.mv.fr) (f1:d.mv.fr≤63) (t0:0≤d.mv.to) (t1:d.mv.to≤63) (hd:d.tags<64) (hpr:d.mv.promo=0∨(1≤d.mv.promo∧d.mv.promo≤6∧B.at d.mv.fr.toNat≠0))
  (w:World) (hI:AtI w P b M h cv B d w) :
  Calls G.P 253 #[.pointer (some ⟨M,0,none⟩),.pointer (some ⟨P,0,none⟩)] w (fun r w'=>r = .returned (.tuple #[])∧AtI w P b M h cv B { d with tags:=b3H B h.turn h.ep d.mv d.tags } w'):=by
 obtain ⟨s,hs⟩:=ze f0;obtain ⟨g,hg⟩:=ze t0;have hs64:s<64:=by omega
 have hg64:g<64:=by omega
 have hx:=B.at_range s;have hcl:capR B h.ep d.mv<64:=c1a _ _ _;have hsl:a7p B d.mv<64:=c1b _ _;have hcap:capR B h.ep d.mv=if (B.f 14).testBit (63-g)=false then 4 else if (g:Int)=h.ep∧Ch.d6 (B.at s)=6 then 8 else 0:=by unfold capR;rw [hs,hg];rfl
 have hcas:a7p B d.mv=if (B.at s=1∧(s:Int)=4)∨(B.at s=7∧(s:Int)=60) then (if (g:Int)=2∨(g:Int)=58 then 2 else if (g:Int)=6∨(g:Int)=62 then 1 else 0) else 0:=by unfold a7p;rw [hs,hg];rfl
 have hfin:b3H B h.turn h.ep d.mv d.tags=(((d.tags ||| capR B h.ep d.mv) ||| a7p B d.mv) ||| (if (B.move d.mv ((d.tags ||| capR B h.ep d.mv) ||| a7p B d.mv)).chk h.turn then 32 else 0)) ||| (if (B.move d.mv ((d.tags ||| capR B h.ep d.mv) ||| a7p B d.mv)).chk (3-h.turn) then 16 else 0):=rfl
 rw [hfin];clear hfin;have cP:=fun w (hT:D5 w) hb=>a1f B b (t:=237) (fz:=(0,0)) s hs64 w hT hb;have cT:=fun w=>a2n (B.at s) hx.1 hx.2 w;have cO:=fun w hb=>b0P (B:=B) (b:=b) (t:=237) (fz:=(0,0)) g hg64 w hb;generalize capR B h.ep d.mv=CAP at *;generalize a7p B d.mv=CAS at *;rw [hs] at hpr;simp only [zg] at hpr;refine zN func253 ?_;have hP:=hI.hd;have hM:=hI.nd;have hT:=hI.tab;have hB:=hI.bd;refine zR ?_;refine zK 10 ?_;refine zR ?_;refine qHb hP (zR ?_);refine a3C hM ?_;rw [hs];refine zR ?_;refine m8 _ (fun w hw=>cP w (hT.cl hw) (hw.blk hB)) (zR ?_);intro w1' c1;have hI1:=hI.cl c1;clear hP hM hT hB;have hP:=hI1.hd;have hM:=hI1.nd;have hB:=hI1.bd;refine zG ?_;refine C3 (σ:=Unit) [] 6 (fun _=>[]) (fun _ w'=>AtI w P b M h cv B { d with tags:=d.tags ||| CAP } w') zk ?_ (fun _ j w3 hI3=>?_)
 ·refine zR ?_;refine J2.mk1 ⟨9,Cl w1',Cl.drew (Cl.refl _),zk,?_⟩;refine zR ?_;refine qHb hP (zR ?_);refine b0O hM ?_;rw [hg];refine zR ?_;refine m8 _ (fun w hw=>cO w (hw.blk hB)) (zR ?_);intro w2 c2;have hI2:=hI1.cl c2;have add:∀ k w3,k<64→CAP=k→AtI w P b M h cv B d w3→∀ w4,Upd w3 M (.cells (E8 { d with tags:=d.tags ||| k }) 141 (0,0)) w4→AtI w P b M h cv B { d with tags:=d.tags ||| CAP } w4:=fun k w3 hk e hI3 w4 u4=>by rw [e];exact hI3.upd u4
  have none:∀ w3,CAP=0→AtI w P b M h cv B d w3→AtI w P b M h cv B { d with tags:=d.tags ||| CAP } w3:=fun w3 e hI3=>by rw [e,Nat.or_zero];exact hI3
  cases hb:(B.f 14).testBit (63-g)
  ·rw [zM hb] at hcap;refine zR ?_;refine o7 (Y3 (tag:=4) zo zd _ hI2.nd) ?_;rintro r w3 ⟨rfl,u3⟩;refine ⟨_,rfl,zR ?_⟩;exact ⟨(),trivial,add 4 _ zd hcap hI2 _ u3⟩
  ·rw [zJ (by rw [hb];simp)] at hcap
   have hP:=hI2.hd;have hM:=hI2.nd;refine zR ?_;refine zK 14 ?_;refine zR ?_;refine b0O hM ?_;rw [hg];refine zR ?_;refine c0I hP (zR ?_);apply E.b9<;>intro h
   ·have h1:=h;clear h;refine zR ?_;refine m8 _ (fun w hw=>cT w) (zR ?_);intro w3 c3;have hI3:=hI2.cl c3;refine zR ?_;apply E.b9<;>intro h
    ·rw [zM ⟨h1,h⟩] at hcap;refine zR ?_;refine o7 (Y3 (tag:=8) zo zd _ hI3.nd) ?_;rintro r w4 ⟨rfl,u4⟩;refine ⟨_,rfl,zR ?_⟩;exact ⟨(),trivial,add 8 _ zd hcap hI3 _ u4⟩
    ·rw [zJ (fun e=>h e.2)] at hcap;refine zR ?_;exact ⟨(),trivial,none _ hcap hI3⟩
   ·rw [zJ (fun e=>h e.1)] at hcap;refine zR ?_;intro w3 c3;refine zR ?_;exact ⟨(),trivial,none _ hcap (hI2.cl c3)⟩
 clear hI1 hP hM hB c1 hcap cO cT;have hdc:d.tags ||| CAP<64:=b3I hd hcl
 refine C3 (σ:=Unit) [] 6 (fun _=>[]) (fun _ w'=>AtI w P b M h cv B { d with tags:=(d.tags ||| CAP) ||| CAS } w') zk ?_ (fun _ j w4 hI4=>?_)
 ·have hM:=hI3.nd;have add:∀ k,k<64→CAS=k→∀ w4,Upd w3 M (.cells (E8 { d with tags:=(d.tags ||| CAP) ||| k }) 141 (0,0)) w4→AtI w P b M h cv B { d with tags:=(d.tags ||| CAP) ||| CAS } w4:=fun k hk e w4 u4=>by rw [e];exact hI3.upd u4
  have none:CAS=0→AtI w P b M h cv B { d with tags:=(d.tags ||| CAP) ||| CAS } w3:=fun e=>by rw [e,Nat.or_zero];exact hI3
  have at2:=fun w hM=>Y3 (M:=M) (t:=141) (tag:=2) (d:={ d with tags:=d.tags ||| CAP }) (by show d.tags ||| CAP<65536;omega) zd w hM
  have at1:=fun w hM=>Y3 (M:=M) (t:=141) (tag:=1) (d:={ d with tags:=d.tags ||| CAP }) (by show d.tags ||| CAP<65536;omega) zd w hM
  have key:(B.at s=1∧(s:Int)=4)∨(B.at s=7∧(s:Int)=60)→CAS=(if (g:Int)=2∨(g:Int)=58 then 2 else if (g:Int)=6∨(g:Int)=62 then 1 else 0):=fun e=>by rw [hcas,zM e]
  have key0:¬ ((B.at s=1∧(s:Int)=4)∨(B.at s=7∧(s:Int)=60))→CAS=0:=fun e=>by rw [hcas,zJ e]
  generalize B.at s=X at *;refine zR ?_;apply E.b9<;>intro h
  ·have h1:=h;clear h;refine zR ?_;refine c2n hM hs (zR ?_);apply E.b9<;>intro h
   ·have hc:=key (.inl ⟨h1,h⟩);refine zR ?_;refine c2o hM hg (zR ?_);apply E.b9<;>intro h
    ·rw [zM (.inl h)] at hc;refine zR ?_;refine E.z6 h (zR ?_);refine o7 (at2 _ hM) ?_;rintro r w4 ⟨rfl,u4⟩;refine ⟨_,rfl,zR ?_⟩;exact ⟨(),trivial,add 2 zd hc _ u4⟩
    ·have g1:=h;clear h;refine zR ?_;apply E.b9<;>intro h
     ·rw [zM (.inr h)] at hc;refine zR ?_;refine o7 (at2 _ hM) ?_;rintro r w4 ⟨rfl,u4⟩;refine ⟨_,rfl,zR ?_⟩;exact ⟨(),trivial,add 2 zd hc _ u4⟩
     ·rw [zJ (fun e=>e.elim g1 h)] at hc;clear h;refine zR ?_;apply E.b9<;>intro h
      ·rw [zM (.inl h)] at hc;refine zR ?_;refine E.z6 h (zR ?_);refine o7 (at1 _ hM) ?_;rintro r w4 ⟨rfl,u4⟩;refine ⟨_,rfl,zR ?_⟩;exact ⟨(),trivial,add 1 zd hc _ u4⟩
      ·have g2:=h;clear h;refine zR ?_;apply E.b9<;>intro h
       ·rw [zM (.inr h)] at hc;refine zR ?_;refine o7 (at1 _ hM) ?_;rintro r w4 ⟨rfl,u4⟩;refine ⟨_,rfl,zR ?_⟩;exact ⟨(),trivial,add 1 zd hc _ u4⟩
       ·rw [zJ (fun e=>e.elim g2 h)] at hc;refine zR ?_;exact ⟨(),trivial,none hc⟩
   ·have h2:=h;clear h;have hc:=key0 (fun e=>e.elim (fun e=>h2 e.2) (fun e=>by omega))
    refine zR ?_;refine E.p9 zo (zR ?_);exact ⟨(),trivial,none hc⟩
  ·have h1:=h;clear h;refine zR ?_;apply E.b9<;>intro h
   ·have h2:=h;clear h;refine zR ?_;refine c2n hM hs (zR ?_);apply E.b9<;>intro h
    ·have hc:=key (.inr ⟨h2,h⟩);refine zR ?_;refine c2o hM hg (zR ?_);apply E.b9<;>intro h
     ·rw [zM (.inl h)] at hc;refine zR ?_;refine E.z6 h (zR ?_);refine o7 (at2 _ hM) ?_;rintro r w4 ⟨rfl,u4⟩;refine ⟨_,rfl,zR ?_⟩;exact ⟨(),trivial,add 2 zd hc _ u4⟩
     ·have g1:=h;clear h;refine zR ?_;apply E.b9<;>intro h
      ·rw [zM (.inr h)] at hc;refine zR ?_;refine o7 (at2 _ hM) ?_;rintro r w4 ⟨rfl,u4⟩;refine ⟨_,rfl,zR ?_⟩;exact ⟨(),trivial,add 2 zd hc _ u4⟩
      ·rw [zJ (fun e=>e.elim g1 h)] at hc;clear h;refine zR ?_;apply E.b9<;>intro h
       ·rw [zM (.inl h)] at hc;refine zR ?_;refine E.z6 h (zR ?_);refine o7 (at1 _ hM) ?_;rintro r w4 ⟨rfl,u4⟩;refine ⟨_,rfl,zR ?_⟩;exact ⟨(),trivial,add 1 zd hc _ u4⟩
       ·have g2:=h;clear h;refine zR ?_;apply E.b9<;>intro h
        ·rw [zM (.inr h)] at hc;refine zR ?_;refine o7 (at1 _ hM) ?_;rintro r w4 ⟨rfl,u4⟩;refine ⟨_,rfl,zR ?_⟩;exact ⟨(),trivial,add 1 zd hc _ u4⟩
        ·rw [zJ (fun e=>e.elim g2 h)] at hc;refine zR ?_;exact ⟨(),trivial,none hc⟩
    ·have hc:=key0 (fun e=>e.elim (fun e=>h1 e.1) (fun e=>h e.2));refine zR ?_;exact ⟨(),trivial,none hc⟩
   ·have hc:=key0 (fun e=>e.elim (fun e=>h1 e.1) (fun e=>h e.1));refine zR ?_;exact ⟨(),trivial,none hc⟩
 clear hI3 hcas cP;have hd2:(d.tags ||| CAP) ||| CAS<64:=b3I hdc hsl
 generalize (d.tags ||| CAP) ||| CAS=T2 at *
 have hr:=b3J (B:=B) (m:=d.mv) (t:=T2) w0 w1 b0 b1 t0 t1;have hO':(B.move d.mv T2).Ok:=inferInstance;have hup:∀ b',M≠b'→∀ w,D5 w→w.heap[b']?=some (.cells (H3 B) 237 (0,0))→w.heap[M]?=some (.cells (E8 { d with tags:=T2 }) 141 (0,0)) →
   Calls G.P 257 #[.pointer (some ⟨b',0,none⟩),.pointer (some ⟨M,0,none⟩)] w (fun r w'=>r = .returned (.tuple #[])∧w'.heap[b']?=some (.cells (H3 (B.move d.mv T2)) 237 (0,0))∧Tn b' w w') :=
  fun b' hne w hT hB hM=>b2f (d:={ d with tags:=T2 }) f0 f1 t0 t1 (by show T2<65536;omega) (by show d.mv.promo=0∨_;rw [show ({ d with tags:=T2 }:Nd).mv=d.mv from rfl,hs];simpa using hpr) hne w hT hB hM
 generalize B.move d.mv T2=B' at *;refine zR ?_;refine o7 (b6n _ hI4.hd hI4.bd) ?_;rintro r w5 ⟨P',b',rfl,hp',hb',hlt,hP5,hB5,c5⟩;refine ⟨_,rfl,?_⟩;have hI5:=hI4.cl c5;have hl4:=hI4.lt;have hs4:=hI4.tn.size;refine zR ?_;refine kHb hP5 (zR ?_);refine o7 (hup b' zo w5 hI5.tab hB5 hI5.nd) ?_;rintro r w6 ⟨rfl,hB6,n6⟩;refine ⟨_,rfl,?_⟩;have hI6:=hI5.far n6 hB5 rfl zo zo zo zo;have hP6:=n6.blk hP5 zo;have hic:=fun (h:Hd) w ht hT hP hB=>a6S (P:=P') (b:=b') (t:=173) (u:=237) (h:=h) (cv:=.slice none 0 0) (fz:=(0,0)) (fy:=(0,0)) (B:=B') ht hr.1.1 hr.1.2 hr.2.1 hr.2.2 w hT hP hB;have hl5:=hI5.lt;have hs5:=c5.size;have hs6:=n6.size;refine zG ?_;refine C3 (σ:=Unit) [] 6 (fun _=>[]) (fun _ w'=>AtI w P b M h cv B { d with tags:=T2 ||| (if B'.chk h.turn then 32 else 0) } w'∧w'.heap[P']?=some (.cells (hdA b' h (.slice none 0 0)) 173 (0,0))∧w'.heap[b']?=some (.cells (H3 B') 237 (0,0))∧w6.heap.size≤w'.heap.size) zk ?_ (fun _ j w8 hI8=>?_)
 ·refine zR ?_;refine o9 (hic h w6 ht hI6.tab hP6 hB6) fun w7 c7=>?_;have hI7:=hI6.cl c7;have hP7:=c7.blk hP6;have hB7:=c7.blk hB6;have hs7:=c7.size;generalize B'.chk h.turn=CK at *;cases CK
  ·refine zR ?_;exact ⟨(),trivial,by simpa using hI7,hP7,hB7,hs7⟩
  ·refine zR ?_;refine o7 (Y3 (tag:=32) (by show T2<65536;omega) zd _ hI7.nd) ?_
   rintro r w8 ⟨rfl,u8⟩;refine ⟨_,rfl,zR ?_⟩;exact ⟨(),trivial,hI7.upd u8,(Tn.upd u8).blk hP7 zo,(Tn.upd u8).blk hB7 zo,zw hs7 (Tn.upd u8).size⟩
 obtain ⟨hI8,hP8,hB8,hs8⟩:=hI8;have hd3:T2 ||| (if B'.chk h.turn then 32 else 0)<64:=b3I hd2 (by split<;>decide)
 generalize T2 ||| (if B'.chk h.turn then 32 else 0)=T3 at *
 refine zR ?_;refine kHt hP8 (zR ?_);refine l8 (a7E _ ht _) (zR ?_);refine c1c hP8 _ (fun w9 u9=>?_);have hI9:=hI8.far (Tn.upd u9) hP8 rfl zo zo zo zo;have hB9:=(Tn.upd u9).blk hB8 zo;have hP9:=u9.at_;refine zR ?_;refine o9 (hic { h with turn:=3-h.turn } w9 (by show 3-h.turn=1∨3-h.turn=2;omega) hI9.tab hP9 hB9) fun w10 c10=>?_
 have hI10:=hI9.cl c10;show _;have e16:B'.chk ({ h with turn:=3-h.turn }:Hd).turn=B'.chk (3-h.turn):=rfl;rw [e16];generalize B'.chk (3-h.turn)=CK at *;cases CK
 ·refine zR ?_;exact ⟨rfl,by simpa using hI10⟩
 ·refine zR ?_;refine o7 (Y3 (tag:=16) (by show T3<65536;omega) zd _ hI10.nd) ?_
  rintro r w11 ⟨rfl,u11⟩;refine ⟨_,rfl,zR ?_⟩;exact ⟨rfl,hI10.upd u11⟩
end
section
open Ch Bb
theorem b5n {p:l9} (hI:D0 p) {m:Mv} (f0:0≤m.fr) (f1:m.fr≤63) (t0:0≤m.to) (t1:m.to≤63):capR (A4 p) p.ep m=capTag p m:=by
 obtain ⟨fr,to,pr⟩:=m;obtain ⟨f,rfl⟩:=ze f0;obtain ⟨t,rfl⟩:=ze t0;simp only at f1 t1;unfold capR capTag;simp only [zg];have e:=a0t hI.pc (show f<64 by omega)
 rw [c0L,a0c p (show t<64 by omega)]
 simp only [e];by_cases h:sq p t=0
 ·simp [h]
 ·simp [h]
theorem b5o {p:l9} (hI:D0 p) {m:Mv} (f0:0≤m.fr) (f1:m.fr≤63):a7p (A4 p) m=T6 p m:=by
 obtain ⟨fr,to,pr⟩:=m;obtain ⟨f,rfl⟩:=ze f0;simp only at f1;unfold a7p T6;simp only [zg];have e:=a0t hI.pc (show f<64 by omega)
 simp only [e]
theorem b0Q {q:l9} (hq:∀ i:Int,0≤sq q i∧sq q i≤12) {c K:Int} (hc:c=0∨c=1) (hK:S9 q c K):(A4 q).chk (c+1)=B7 q (z8 q c) (1-c):=by
 have e:=hK.at;have h0:=hK.1;have h1:=hK.2.1;unfold MB.chk;have ek:(if c+1=2 then (A4 q).bk else (A4 q).wk)=K:=by
  rcases hc with rfl|rfl
  ·rw [zJ zd];exact e
  ·rw [zM zd];exact e
 simp only [ek];rw [zV zo,e];have:=a81 hq hc (a:=K.toNat) zo;rw [this,zi h0];rfl
theorem b2h {p:l9} {m:Mv} (hq:∀ i:Int,0≤sq (made p m) i∧sq (made p m) i≤12) (ht:p.turn=0∨p.turn=1) {K:Int} (hK:S9 (made p m) p.turn K):(A4 (made p m)).chk (p.turn+1) = !H8 p m:=by
 rw [b0Q hq ht hK];unfold H8;simp
theorem a9S {p:l9} {m:Mv} (hq:∀ i:Int,0≤sq (made p m) i∧sq (made p m) i≤12) (ht:p.turn=0∨p.turn=1) {K:Int} (hK:S9 (made p m) (1-p.turn) K):(A4 (made p m)).chk (3-(p.turn+1))=o5 (made p m):=by
 rw [show 3-(p.turn+1)=(1-p.turn)+1 by omega,b0Q hq zo hK]
 unfold o5 checked;have e:(made p m).turn=1-p.turn:=rfl;rw [e,hK.at,zX hK.1];simp
theorem b85 {p:l9} (hI:D0 p):(A4 p).chk (p.turn+1)=o5 p:=by
 rw [b0Q hI.pc hI.turn (hI.king _ hI.turn)];unfold o5 checked;rw [zX (hI.king _ hI.turn).1];simp
theorem b3K {p:l9} (hI:D0 p) {m:Mv} (h:H7 p m) {t:Nat} (h0:t.testBit 0=false) (h1:t.testBit 1=false) (h3:t.testBit 3=false):b3H (A4 p) (p.turn+1) p.ep m t=t ||| tg p m:=by
 have hc0:=(Q9 hI h).1;have hcc:=W8 p m;unfold b3H;simp only [b5n hI h.f0 h.f1 h.t0 h.t1,b5o hI h.f0 h.f1];have hb:∀ k,((t ||| capTag p m) ||| T6 p m).testBit k=(t.testBit k||(capTag p m).testBit k):=fun k=>by rw [hc0,Nat.or_zero,yF]
 have hm:=a87 hI h (tags:=(t ||| capTag p m) ||| T6 p m) (by rw [hb,h3,xc];rcases hcc with e|e|e<;>rw [e]<;>decide) (by rw [hb,h0,xc];rcases hcc with e|e|e<;>rw [e]<;>decide) (by rw [hb,h1,xc];rcases hcc with e|e|e<;>rw [e]<;>decide)
 rw [hm,b2h (a2U hI h) hI.turn (a19 hI h),a9S (a2U hI h) hI.turn (a4M hI h)];unfold tg;simp only [Nat.or_assoc];cases H8 p m<;>rfl
theorem b2i {p:l9} (hI:D0 p) {m:Mv} {K w R:Int} (h:a0U p m K w R):b3H (A4 p) (p.turn+1) p.ep m (if w=1 then 1 else 2)=(if w=1 then 1 else 2) ||| tg p m:=by
 have hw:w=1∨w=-1:=by rcases h.way with e|e;exact .inl e.1;exact .inr e.1
 have hk:=h.k;have ht:=hI.turn;have hmv:=h.mv;have hto:=h.to;have f0:0≤m.fr:=by rw [hmv];simp only;omega
 have f1:m.fr≤63:=by rw [hmv];simp only;omega
 have t0:0≤m.to:=by rw [hmv];simp only;omega
 have t1:m.to≤63:=by rw [hmv];simp only;omega
 have hcap:capTag p m=0:=by
  have hto':sq p m.to=0:=by rw [hmv];exact hto
  have hk6:d6 (sq p m.fr)≠6:=by rw [hmv];simp only [h.king,a0d hI];decide
  unfold capTag;rw [zJ (fun e=>e hto'),zJ (fun e=>hk6 e.2)]
 have hcas:T6 p m=if w=1 then 1 else 2:=by
  unfold T6;rw [hmv];simp only [h.king];rcases ht with e|e<;>rcases hw with e2|e2<;>rw [e] at hk ⊢ <;> subst e2<;>rw [hk]<;>decide
 unfold b3H;simp only [b5n hI f0 f1 t0 t1,b5o hI f0 f1,hcap,hcas,Nat.or_zero,Nat.or_self];have hm:=a6T hI h (tags:=if w=1 then 1 else 2) (by rcases hw with e|e<;>subst e<;>decide) (by rcases hw with e|e<;>subst e<;>decide) (by rcases hw with e|e<;>subst e<;>decide)
 obtain ⟨hko,hkf⟩:=Z4 hI h;rw [hm,b2h (a1s hI h) hI.turn hko,a9S (a1s hI h) hI.turn (a2S hI h)];unfold tg;rw [hcap,hcas,Nat.zero_or,← Nat.or_assoc,← Nat.or_assoc,Nat.or_self];cases H8 p m<;>rfl
def a6t (p:l9) (k:Int) (fr to:Nat):List PM:=((List.range 64).drop to).flatMap fun to=>if (goB p k fr).testBit (63-to) then a27 p fr to else []
def a3k (p:l9) (k:Int) (fr:Nat):List PM:=((List.range 64).drop fr).flatMap (W6 p k)
def a4W (p:l9) (i:Nat):List PM:=((List.range 12).drop i).flatMap fun (i:Nat)=>if (i:Int)/6=p.turn then a3k p ((i:Int)+1-6*p.turn) 0 else []
theorem a4X {n i:Nat} (h:i<n):(List.range n).drop i=i::(List.range n).drop (i+1):=by
 rw [xU (by simpa using h)];simp
theorem b6o {p:l9} {k:Int} {fr to:Nat} (h:to<64):a6t p k fr to=(if (goB p k fr).testBit (63-to) then a27 p fr to else [])++a6t p k fr (to+1):=by
 unfold a6t;rw [a4X h,xZ]
theorem b6p {p:l9} {k:Int} {fr:Nat} (h:fr<64):a3k p k fr=W6 p k fr++a3k p k (fr+1):=by
 unfold a3k;rw [a4X h,xZ]
theorem a9T {p:l9} {i:Nat} (h:i<12):a4W p i=(if (i:Int)/6=p.turn then a3k p ((i:Int)+1-6*p.turn) 0 else [])++a4W p (i+1):=by
 unfold a4W;rw [a4X h,xZ]
theorem b86 {p:l9} {k:Int} {fr:Nat}:a6t p k fr 64=[]:=by unfold a6t;rw [List.drop_of_length_le (by simp)];rfl
theorem b87 {p:l9} {k:Int}:a3k p k 64=[]:=by unfold a3k;rw [List.drop_of_length_le (by simp)];rfl
theorem b88 {p:l9}:a4W p 12=[]:=by unfold a4W;rw [List.drop_of_length_le (by simp)];rfl
theorem b2j {p:l9} {k:Int} {fr:Nat} (h:sq p fr=k+6*p.turn):W6 p k fr=a6t p k fr 0:=by
 unfold W6 a6t;rw [zM h];rfl
theorem a8B {p:l9} {k:Int} {fr:Nat} (h:sq p fr≠k+6*p.turn):W6 p k fr=[]:=by unfold W6;rw [zJ h]
theorem b89 {α:Type} (F:Int→List α) {t:Int} (ht:t=0∨t=1):(([0,1,2,3,4,5,6,7,8,9,10,11]:List Nat).flatMap fun (i:Nat)=>if (i:Int)/6=t then F ((i:Int)+1-6*t) else [])=([1,2,3,4,5,6]:List Int).flatMap F:=by
 rcases ht with h|h<;>subst h<;>simp
theorem b8A {p:l9} (ht:p.turn=0∨p.turn=1):a4W p 0=B5 p:=by
 have e:B5 p=([1,2,3,4,5,6]:List Int).flatMap fun k=>a3k p k 0:=by
  unfold B5 a3k;simp only [List.drop_zero]
 rw [e,← b89 _ ht];unfold a4W;rw [List.drop_zero,show List.range 12=[0,1,2,3,4,5,6,7,8,9,10,11] from rfl]
theorem b6q {p:l9} {k:Int} (h:pcs p (k+6*p.turn)=0):a3k p k 0=[]:=by
 have h0:=(a7z _).1 h;unfold a3k;rw [List.drop_zero,List.flatMap_eq_nil_iff];intro fr hfr;have:=h0 fr (yl.1 hfr);exact a8B (by simpa using this)
theorem b6r {p:l9} {k:Int} {fr:Nat} (h:goB p k fr=0):a6t p k fr 0=[]:=by
 unfold a6t;rw [List.drop_zero,List.flatMap_eq_nil_iff];intro to _;rw [h];simp
theorem a6W {p:l9} (hI:D0 p) {k:Int} (k1:1≤k) (k6:k≤6) {fr to:Nat} (hf:fr<64) (ht:to<64) (hs:sq p fr=k+6*p.turn) (hb:(goB p k fr).testBit (63-to)=true) {pr:Int}
  (hpr:(pr=0∧¬ (k=6∧k9 to=7-7*p.turn))∨(2≤pr∧pr≤5∧k=6∧k9 to=7-7*p.turn)):H7 p ⟨fr,to,pr⟩:=by
 have hg:=(b4L hI.pc hI.turn hI.pass hf ht k1 k6 hs).1 hb;have hkk:d6 (sq p fr)=k:=by rw [hs];exact L9 k1 k6 hI.turn
 have hso:y9 (sq p fr)=p.turn:=by rw [hs];exact P5 k1 k6 hI.turn
 have hne:(fr:Int)≠to:=by
  intro e;rw [← e] at hg;exact hg.2 ⟨by rw [hs];have:=hI.turn;omega,hso⟩
 refine ⟨by simp only;omega,by simp only;omega,by simp only;omega,by simp only;omega,hne,by simp only;rw [hs];have:=hI.turn;omega,hso,hg.1,?_,?_⟩
 ·simp only
  by_cases e:sq p to=0
  ·exact .inl e
  ·exact .inr fun e2=>hg.2 ⟨e,e2⟩
 ·simp only [hkk];exact hpr
end
section
open Go Go.RowKit
open E
section
variable {dst:Option Nat} {ty:Nat} {pos:String} {af:Array Edge} {gd:Option (Nat×Bool)} {env:C8} {w:World} {K:Value→World→Prop}
theorem b2k {t n el z b:Nat} {x hi:Operand} {k:IntKind} (h:Nat) (ht:U5 G.T t=some (.array n el z)) (hx:ev env x = .pointer (some ⟨b,0,none⟩)) (hh:ev env hi = .int k h) (hn:h≤n)
  (hk:K (.slice (some ⟨b,0,none⟩) h n) w):H4 G.P { dst,op:=.slice t x none (some hi) none,type:=ty,pos,after:=af,guard:=gd } env w K:=by
 obtain ⟨h1,h2,h3⟩:=a3T (G.tab _ _ ht);refine ⟨.inl ⟨_,w,?_,hk⟩⟩;show (do pure (Next.value (← Instr.sliceAt t (ev env x) none (some (ev env hi)) none)):Sem Next).run G.P w=_
 rw [hx,hh];have e1:(Instr.sliceBound (.int k (h:Int)) n .sliceAlen).run G.P w = .ok h w:=by simpa using run_sliceBound (P:=G.P) (w:=w) k (h:Int) n .sliceAlen zo zo
 have e2:=E.U6 (w:=w) h2;simp [Instr.sliceAt,run_underlying h1,Instr.sliceBounds,e1,e2,Instr.sureAddr,E3]
theorem b2l {t n el z b:Nat} {x:Operand} (ht:U5 G.T t=some (.array n el z)) (hx:ev env x = .pointer (some ⟨b,0,none⟩))
  (hk:K (.slice (some ⟨b,0,none⟩) n n) w):H4 G.P { dst,op:=.slice t x none none none,type:=ty,pos,after:=af,guard:=gd } env w K:=by
 obtain ⟨h1,h2,h3⟩:=a3T (G.tab _ _ ht);refine ⟨.inl ⟨_,w,?_,hk⟩⟩;show (do pure (Next.value (← Instr.sliceAt t (ev env x) none none none)):Sem Next).run G.P w=_
 rw [hx];have e2:=E.U6 (w:=w) h2;simp [Instr.sliceAt,run_underlying h1,Instr.sliceBounds,e2,Instr.sureAddr,E3]
theorem b2m {t e z by_:Nat} (E1:F0 t e z by_) {l c:Operand} {k k':IntKind} (n:Nat) (hl:ev env l = .int k n) (hc:ev env c = .int k' n) (hn:n≤100000) (hb:by_≤1000)
  (hk:∀ cs:Array Value,cs.size=n*z→K (.slice (some ⟨w.heap.size,0,none⟩) n n) (w.alloc (.cells cs e))):H4 G.P { dst,op:=.makeSlice t l c,type:=ty,pos,after:=af,guard:=gd } env w K:=by
 obtain ⟨i,zv,hi,hzv,hsz,hby,hzs⟩:=E1.info;have hle:n*by_≤100000*1000:=Nat.mul_le_mul hn hb;have hbb:(i.bytes:Int)*(n:Int)≤281474976710656:=by
  rw [hby];have e:(by_:Int)*(n:Int)=((n*by_:Nat):Int):=by push_cast;exact Int.mul_comm _ _
  rw [e];omega
 have:=run_make (P:=G.P) w t e i zv E1.ty hi hzv k k' n n zo zo hbb zo;simp only [zg] at this;refine ⟨.inl ⟨_,_,?_,hk (madeCells zv.cells (n*i.size)) (by rw [size_madeCells,hsz])⟩⟩
 show (do pure (Next.value (← Instr.makeSlice t (ev env l) (ev env c))):Sem Next).run G.P w=_
 rw [hl,hc,yj,this];rfl
theorem b8B {t e z by_:Nat} (E1:F0 t e z by_) {d s:Operand} {g a n dc sc:Nat} {cur:Array Value} {u:Nat} {cs:List Value} (hd:ev env d = .slice (some ⟨g,0,none⟩) n dc) (hs:ev env s = .slice (some ⟨a,0,none⟩) n sc)
  (hg:w.heap[g]?=some (.cells cur u (0,0))) (hl:cs.length=n*z) (hcur:cur.size=n*z) (hsrc:∀ j v,cs[j]?=some v→w.cell? ⟨a,j,none⟩=some v) (h1:∀ v∈cs,v.oneCell'=true)
  (hk:∀ w',Upd w g (.cells cs.toArray u (0,0)) w'→K (.int .i64 n) w'):H4 G.P { dst,op:=.call { callee:=.builtin .copy,args:=#[d,s],argTypes:=#[t,t] },type:=ty,pos,after:=af,guard:=gd } env w K:=by
 obtain ⟨i,zv,hi,hzv,hsz,hby,hzs⟩:=E1.info;refine ⟨.inl ⟨_,_,?_,hk (w.setCells g 0 cs) ?_⟩⟩
 ·have e1:=run_loadCells_list (P:=G.P) w ⟨a,0,none⟩ cs (fun j v hv=>by rw [E3,yW];exact hsrc j v hv)
  have e2:=run_storeCells_cells (P:=G.P) g 0 cs 0 w (fun j hj=>by simp only [yW];rw [C9 hg,wJ zo];rfl) (fun j hj=>by simp [World.frozen?,hg]) h1
  have e3:(Builtin.copy_ #[t,t] ty #[.slice (some ⟨g,0,none⟩) n dc,.slice (some ⟨a,0,none⟩) n sc]).run G.P w = .ok (goInt n) (w.setCells g 0 cs):=by
   rw [hl] at e1;simp [Builtin.copy_,run_underlying E1.ty,Builtin.lenOf,Builtin.firstCells,sizeOf,typeInfo,hi,hsz,e1,e2]
  simp only [execOp,resolve,invoke,builtin,yj,xY,yp,xO,yQ,xb,hd,hs,e3];rfl
 ·have:=a6a cs w g 0 cur u (0,0) hg;rw [C6 _ _ zo] at this;exact this
end
def E6 (p:l9) (c:Bool):Hd:=⟨Ch.B9 p.castle,p.half,p.full,p.turn+1,p.ep,c⟩
theorem a1I:(G.P.info? 141).map (·.size)=some 11:=by kernel_rfl
theorem c5I:(G.P.info? 139).map (·.size)=some 1:=by kernel_rfl
theorem b2n:F0 132 141 11 96:=T7 zk
theorem a6X:(G.P.info? 141).bind (·.zero)=some (.agg (E8 (E0 ⟨⟨0,0,0⟩,0⟩))):=by kernel_rfl
theorem c5J:∃ z,(G.P.info? 289).bind (·.zero)=some z∧z.cells.size=2398:=a0C zk
theorem z1:∃ z,(G.P.info? 293).bind (·.zero)=some z∧z.cells.size=11:=a0C zk
theorem J9 (x:PM):(D4 x).length=11:=rfl
theorem F8 (x:PM):∀ v∈D4 x,v.oneCell'=true:=by
 intro v hv;simp only [D4,ndL,yS,zy,yy] at hv;rcases hv with rfl|rfl|rfl|rfl|rfl|rfl|rfl|rfl|rfl|rfl|rfl<;>rfl
theorem a3b (l:List PM):(l.flatMap D4).length=l.length*11:=G4 J9 l
section st
variable {w:World} {x:PM} {M u:Nat} {K:World→Prop} (hM:w.heap[M]?=some (.cells (E8 (E0 x)) u (0,0)))
include hM
theorem c4G (v:Int) (h:∀ w',Upd w M (.cells (E8 (E0 ⟨⟨v,x.mv.to,x.mv.promo⟩,x.tags⟩)) u (0,0)) w'→K w'):a0i G.P w 138 ⟨M,8,none⟩ (.int .i8 v) K :=
 K9 hM [.int .i8 v] rfl c0Y rfl (a1h _ _) (zU rfl) (fun w2 u2=>h w2 u2)
theorem c4H (v:Int) (h:∀ w',Upd w M (.cells (E8 (E0 ⟨⟨x.mv.fr,v,x.mv.promo⟩,x.tags⟩)) u (0,0)) w'→K w'):a0i G.P w 138 ⟨M,9,none⟩ (.int .i8 v) K :=
 K9 hM [.int .i8 v] rfl c0Y rfl (a1h _ _) (zU rfl) (fun w2 u2=>h w2 u2)
theorem b2o (v:Int) (h:∀ w',Upd w M (.cells (E8 (E0 ⟨⟨x.mv.fr,x.mv.to,v⟩,x.tags⟩)) u (0,0)) w'→K w'):a0i G.P w 139 ⟨M,10,none⟩ (.int .i8 v) K :=
 K9 hM [.int .i8 v] rfl c5I rfl (a1h _ _) (zU rfl) (fun w2 u2=>h w2 u2)
theorem c1d (v:Nat) (h:∀ w',Upd w M (.cells (E8 (E0 ⟨x.mv,v⟩)) u (0,0)) w'→K w'):a0i G.P w 136 ⟨M,7,none⟩ (.int .u16 v) K :=
 K9 hM [.int .u16 v] rfl c2v rfl (a1h _ _) (zU rfl) (fun w2 u2=>h w2 u2)
theorem b6s:g8 G.P w 141 ⟨M,0,none⟩ (.agg (E8 (E0 x))):=by
 have:=ldA (t:=141) (o:=0) (z:=11) hM rfl (by simp [E8,ndL])
 exact this
end st
structure SmI (w0:World) (P b M A:Nat) (h:Hd) (cv:Value) (B:MB) (Z:Array Value) (x:PM) (l:List PM) (w:World):Prop where
 hd:w.heap[P]?=some (.cells (hdA b h cv) 173 (0,0))
 bd:w.heap[b]?=some (.cells (H3 B) 237 (0,0))
 nd:w.heap[M]?=some (.cells (E8 (E0 x)) 141 (0,0))
 arr:w.heap[A]?=some (.cells (L8 Z 0 (l.flatMap D4)) 289 (0,0))
 cl:Cl w0 w
 tab0:D5 w0
 hP:P<w0.heap.size
 hb:b<w0.heap.size
 hM:w0.heap.size≤M
 hA:w0.heap.size≤A
 ne:M≠A
section smi
variable {w0 w w':World} {P b M A:Nat} {h:Hd} {cv:Value} {B:MB} {Z:Array Value} {x x':PM} {l l':List PM}
theorem SmI.tab (hI:SmI w0 P b M A h cv B Z x l w):D5 w:=hI.tab0.cl hI.cl
theorem SmI.step (hI:SmI w0 P b M A h cv B Z x l w) (c:Cl w w'):SmI w0 P b M A h cv B Z x l w' :=
 ⟨c.blk hI.hd,c.blk hI.bd,c.blk hI.nd,c.blk hI.arr,hI.cl.trans c,hI.tab0,hI.hP,hI.hb,hI.hM,hI.hA,hI.ne⟩
theorem SmI.turn (hI:SmI w0 P b M A h cv B Z x l w) (n:Tn M w w') (hn:w'.heap[M]?=some (.cells (E8 (E0 x')) 141 (0,0))):SmI w0 P b M A h cv B Z x' l w' :=
 have h1:=hI.hP;have h2:=hI.hb;have h3:=hI.hM;have h4:=hI.hA
 ⟨n.blk hI.hd zo,n.blk hI.bd zo,hn,n.blk hI.arr (fun e=>hI.ne e.symm),n.toCl hI.cl h3,hI.tab0,h1,h2,h3,h4,hI.ne⟩
theorem SmI.upd (hI:SmI w0 P b M A h cv B Z x l w) (u:Upd w M (.cells (E8 (E0 x')) 141 (0,0)) w'):SmI w0 P b M A h cv B Z x' l w':=hI.turn (Tn.upd u) u.at_
theorem SmI.at (hI:SmI w0 P b M A h cv B Z x l w):AtI w P b M h cv B (E0 x) w :=
 have h1:=hI.hP;have h2:=hI.hb;have h3:=hI.hM
 ⟨hI.hd,hI.bd,hI.nd,Tn.refl _ _,hI.tab,zo,zo⟩
theorem SmI.back (hI:SmI w0 P b M A h cv B Z x l w) (h2:AtI w P b M h cv B (E0 x') w'):SmI w0 P b M A h cv B Z x' l w':=hI.turn h2.tn h2.nd
theorem SmI.push (hI:SmI w0 P b M A h cv B Z x l w) (u:Upd w A (.cells (L8 (L8 Z 0 (l.flatMap D4)) (l.length*11) (D4 x)) 289 (0,0)) w'):SmI w0 P b M A h cv B Z x (l++[x]) w':=by
 have h1:=hI.hP;have h2:=hI.hb;have h3:=hI.hM;have h4:=hI.hA;have n:=Tn.upd u;have hz:L8 Z 0 ((l++[x]).flatMap D4)=L8 (L8 Z 0 (l.flatMap D4)) (l.length*11) (D4 x):=by
  rw [x9,a89,a3b,yW];simp
 exact ⟨n.blk hI.hd zo,n.blk hI.bd zo,n.blk hI.nd hI.ne,by rw [hz];exact u.at_,n.toCl hI.cl h4,hI.tab0,h1,h2,h3,h4,hI.ne⟩
end smi
end
section
open Go Go.RowKit
open E
open Ch Bb
theorem c3o {i:Nat} (h:i<12):O7 ((i:Int)+1)=(i:Int)/6+1:=by
 unfold O7 Ch.y9;rw [zJ zo];split<;>omega
theorem c5K {p:l9} {i:Nat} (h:i<12):(A4 p).of ((i:Int)+1)=pcs p ((i:Int)+1):=by
 unfold MB.of;rw [zJ zo,show ((i:Int)+1).toNat-1=i by omega,a0s p i h];rfl
theorem c2w (p:l9) (m:Mv):tg p m<64:=by
 unfold tg;refine b3I (b3I (b3I ?_ ?_) ?_) ?_
 ·unfold capTag;(repeat' split)<;>decide
 ·unfold T6;(repeat' split)<;>decide
 ·split<;>decide
 ·split<;>decide
theorem c1e {p:l9} (hI:D0 p) {fr to:Nat} {k:Int} (h:H7 p ⟨fr,to,k⟩) (hr:k9 to=7-7*p.turn) :
  (tg p ⟨fr,to,k⟩).testBit 0=false∧(tg p ⟨fr,to,k⟩).testBit 1=false∧(tg p ⟨fr,to,k⟩).testBit 3=false:=by
 have hc:=(Q9 hI h).1;have hep:(to:Int)≠p.ep:=by
  intro e;obtain ⟨_,_,h3⟩:=S5 hI.pass;have h4:=(h3 zo).1;rw [← e] at h4;have:=hI.turn;omega
 have hcap:capTag p ⟨fr,to,k⟩=if sq p to≠0 then 4 else 0:=by
  unfold capTag;by_cases e:sq p to=0
  ·rw [zJ (fun e2=>e2 e),zJ (fun e2=>hep e2.1),zJ (fun e2=>e2 e)]
  ·rw [zM e,zM e]
 unfold tg;rw [hc,hcap];simp only [yF];split<;>cases H8 p ⟨fr,to,k⟩<;>cases o5 (made p ⟨fr,to,k⟩)<;>decide
theorem a8C {p:l9} (hI:D0 p) {m:Mv} (h:H7 p m) {t:Nat} (h64:t<64) (h0:t.testBit 0=false) (h1:t.testBit 1=false) (h3:t.testBit 3=false)
  {w0 w:World} {P b M A:Nat} {c:Bool} {cv:Value} {Z:Array Value} {l:List PM} (hS:SmI w0 P b M A (E6 p c) cv (A4 p) Z ⟨m,t⟩ l w) :
  Calls G.P 253 #[.pointer (some ⟨M,0,none⟩),.pointer (some ⟨P,0,none⟩)] w (fun r w'=>r = .returned (.tuple #[])∧SmI w0 P b M A (E6 p c) cv (A4 p) Z ⟨m,t ||| tg p m⟩ l w'):=by
 have k0:=hI.king 0 (.inl rfl);have k1:=hI.king 1 (.inr rfl);have e0:(A4 p).wk=z8 p 0:=rfl;have e1:(A4 p).bk=z8 p 1:=rfl;have ht:=hI.turn;have hf:=h.f0;have hf1:=h.f1;have hat:(A4 p).at m.fr.toNat=sq p m.fr:=by
  rw [a0t hI.pc zo,zi hf]
 refine (a9R (d:=E0 ⟨m,t⟩) (h:=E6 p c) (by show p.turn+1=1∨p.turn+1=2;omega) (by rw [e0];have:=k0.1;omega) (by rw [e0];exact k0.2.1) (by rw [e1];have:=k1.1;omega) (by rw [e1];exact k1.2.1) hf hf1 h.t0 h.t1 h64 ?_ w hS.at).mono ?_
 ·show m.promo=0∨(1≤m.promo∧m.promo≤6∧(A4 p).at m.fr.toNat≠0);rw [hat];rcases h.promo with e|e
  ·exact .inl e.1
  ·exact .inr ⟨zo,zo,h.there⟩
 ·rintro r w' ⟨hr,h2⟩;refine ⟨hr,hS.back ?_⟩;have:=b3K hI h h0 h1 h3;rw [← this];exact h2
theorem b6t (l:List Value) (cs:Array Value) (h:l.length≤cs.size):(L8 cs 0 l).extract 0 l.length=l.toArray:=by
 apply xv;intro k;rw [Array.getElem?_extract];rw [a0a,S0 l cs 0 _ zo];by_cases hk:k<l.length
 ·rw [zM zo,zM zo];simp
 ·rw [zJ zo,xj (by simpa using hk)]
theorem b8C {w0 w:World} {P b M A o:Nat} {h:Hd} {cv:Value} {B:MB} {Z:Array Value} {x:PM} {l:List PM} {K:World→Prop} (hS:SmI w0 P b M A h cv B Z x l w) (hz:Z.size=2398) (hl:l.length<218) (ho:o=l.length*11)
  (hk:∀ w',SmI w0 P b M A h cv B Z x (l++[x]) w'→K w'):a0i G.P w 141 ⟨A,o,none⟩ (.agg (E8 (E0 x))) K:=by
 subst ho;exact K9 hS.arr (D4 x) rfl a1I rfl (F8 x) (by rw [a0a,hz];omega) fun w' u=>hk w' (hS.push u)
theorem b5p {w0 w:World} {P b M A:Nat} {h:Hd} {cv:Value} {B:MB} {Z:Array Value} {x y:PM} (hS:SmI w0 P b M A h cv B Z x [y] w) (hz:Z.size=2398):g8 G.P w 141 ⟨A,0,none⟩ (.agg (E8 (E0 y))):=by
 have h1:=ldA (t:=141) (o:=0) (z:=11) hS.arr rfl (by rw [a0a,hz];decide)
 have e:(L8 Z 0 ([y].flatMap D4)).extract 0 11=E8 (E0 y):=by
  have:=b6t (D4 y) Z (by rw [hz];show 11≤2398;decide)
  rw [show [y].flatMap D4=D4 y by simp,← show (D4 y).length=11 from rfl,this];rfl
 rw [← e];exact h1
theorem Row.blk {α:Type} {enc:α→List Value} {e z b0 g:Nat} {w:World} {l:List α} (henc:∀ x,(enc x).length=z) (hm:l.length≤100000) (hb:b0≤g) (h:w.heap[g]?=some (.cells (l.flatMap enc).toArray e (0,0))) :
  Row e z enc b0 w (.slice (some ⟨g,0,none⟩) l.length l.length) l:=by
 refine ⟨G4 henc l,.inr ⟨g,l.length,_,rfl,hb,h,yJ _,by unfold maxLen;omega,by simp [G4 henc],?_⟩⟩
 simp only [List.toList_toArray];rw [List.take_of_length_le (by rw [G4 henc];exact yJ _)]
theorem c1f {p:l9} {fr to:Int} {i t:Nat} (h:i<4):P6 p fr to (([2,3,4,5]:List Int).drop i) t =
  (if (t ||| tg p ⟨fr,to,(i:Int)+2⟩).testBit 5 then [] else [⟨⟨fr,to,(i:Int)+2⟩,t ||| tg p ⟨fr,to,(i:Int)+2⟩⟩])++P6 p fr to (([2,3,4,5]:List Int).drop (i+1)) (t ||| tg p ⟨fr,to,(i:Int)+2⟩):=by
 rcases (by omega:i=0∨i=1∨i=2∨i=3) with rfl|rfl|rfl|rfl<;>rfl
theorem a3c {a s:Nat}:a &&& D6 s=0↔a.testBit (63-s)=false:=by
 rw [Nat.and_comm];show 2^(63-s) &&& a=0↔_;rw [b5m];have:=Nat.two_pow_pos (63-s);cases a.testBit (63-s)<;>simp
theorem a0F (n k:Nat):J0 0 n k=n*k:=by rw [r9,yW]
theorem nz {a:Nat} (h:¬ ((a:Nat):Int)=0):a≠0:=by omega
set_option maxHeartbeats 2000000 in
theorem b3L {p:l9} (hI:D0 p) (first:Bool) (hle:first=false→(B5 p).length≤218) {P b:Nat} {c:Bool} {cv:Value} (w:World) (hT:D5 w)
  (hP:w.heap[P]?=some (.cells (hdA b (E6 p c) cv) 173 (0,0))) (hB:w.heap[b]?=some (.cells (H3 (A4 p)) 237 (0,0))) :
  Calls G.P 199 #[.pointer (some ⟨P,0,none⟩),.bool first] w (fun r w'=>Cl w w'∧∃ v,r = .returned v∧if first=true then (B5 p=[]∧Row 141 11 D4 w.heap.size w' v [])∨(B5 p≠[]∧∃ g y u,v = .slice (some ⟨g,0,none⟩) 1 1∧w'.heap[g]?=some (.cells (E8 (E0 y)) u (0,0))) else Row 141 11 D4 w.heap.size w' v (B5 p)):=by
 have hPs:P<w.heap.size:=(yh.1 hP).1;have hbs:b<w.heap.size:=(yh.1 hB).1;have ht:=hI.turn;have tc:∀ w':World,w'.heap[P]?=some (.cells (hdA b (E6 p c) cv) 173 (0,0))→Calls G.P 121 #[.pointer (some ⟨P,0,none⟩)] w' (E5 (.int .i8 (p.turn+1)) w'):=fun w' h=>a4S w' h;obtain ⟨g,og,cp,ha1,ha2⟩:=hT.all;obtain ⟨g2,og2,cp2,hp1,hp2⟩:=hT.promo;obtain ⟨z,hz,hzs⟩:=c5J;refine zN func199 ?_;refine zR ?_;refine v8 z hz (zR ?_);refine v8 _ a6X (zR ?_);have hS:SmI w P b (w.heap.size+1) w.heap.size (E6 p c) cv (A4 p) z.cells ⟨⟨0,0,0⟩,0⟩ [] ((w.alloc (.cells z.cells 289)).alloc (.cells (Value.agg (E8 (E0 ⟨⟨0,0,0⟩,0⟩))).cells 141)):=by
  have c1:=Cl.alloc w (.cells z.cells 289);have n1:=d9 w (.cells z.cells 289);have s1:=B0 w (.cells z.cells 289);generalize w.alloc (.cells z.cells 289)=w1 at *;have c2:=Cl.alloc w1 (.cells (Value.agg (E8 (E0 ⟨⟨0,0,0⟩,0⟩))).cells 141);have n2:=d9 w1 (.cells (Value.agg (E8 (E0 ⟨⟨0,0,0⟩,0⟩))).cells 141);rw [s1] at n2;exact ⟨c2.blk (c1.blk hP),c2.blk (c1.blk hB),n2,c2.blk n1,c1.trans c2,hT,hPs,hbs,zo,zo,zo⟩
 have eA:(w.alloc (.cells z.cells 289)).heap.size=w.heap.size+1:=B0 _ _;simp only [eA];generalize (w.alloc (.cells z.cells 289)).alloc (.cells (Value.agg (E8 (E0 ⟨⟨0,0,0⟩,0⟩))).cells 141)=w1 at *;clear eA;have hP:=hS.hd;have hB:=hS.bd;refine zH ?_;refine C3 (σ:=Unit) [8] 28 (fun _=>[(8,.int .u64 (Bb.not (side p p.turn):Nat))]) (fun _ w'=>w'=w1) zk ?_ (fun _ j w2 e2=>?_)
 ·refine zR ?_;refine l8 (tc _ hP) (zR ?_);rcases ht with ht|ht
  ·rw [ht];refine zR ?_;exact ⟨(),⟨rfl,trivial⟩,rfl⟩
  ·rw [ht];refine zB ?_;exact ⟨(),⟨rfl,trivial⟩,rfl⟩
 subst e2;have hTw:=hS.tab;have lSd:G9 (side p p.turn):=⟨P4 _⟩;have lS:G9 (Bb.not (side p p.turn)):=inferInstance;refine zR ?_;refine b7 _ (K6 (ha1.cl hS.cl) (i:=0) zd rfl rfl) (zR ?_);refine B6 (σ:=Nat×List PM×PM) [4,6,10,11,12,13,14,16,17,18,41] 42 (fun s=>[(6,.int .i64 s.2.1.length),(41,.int .i64 s.1)]) (fun s w'=>s.1≤12∧s.2.1++a4W p s.1=B5 p∧(first=true→s.2.1=[])∧SmI w P b (w.heap.size+1) w.heap.size (E6 p c) cv (A4 p) z.cells s.2.2 s.2.1 w') (fun s=>12-s.1) zk (0,[],⟨⟨0,0,0⟩,0⟩) ⟨zd,by rw [yM];exact b8A hI.turn,fun _=>rfl,hS⟩ ⟨rfl,rfl,trivial⟩ ?_
 rintro ⟨i,l,x⟩ j1 w2 ⟨hi,hrem,hfst,hS2⟩;simp only at hi hrem hfst hS2 ⊢;clear hTw hS hP hB;refine zR ?_;apply E.b9<;>intro h
 ·have hi2:i<12:=by omega
  have ni:=C7 (i:=i) zo;clear h;have hcol:=c3o hi2;have hcc:=a7F ((i:Int)+1) zo zo w2;rw [hcol] at hcc;refine zR ?_;refine zC ?_;refine zR ?_;refine b7 _ (a6n (ha2.cl hS2.cl) (i:=i) hi2 rfl rfl) (zR ?_);refine l8 (tc _ hS2.hd) (zR ?_);refine l8 hcc (zR ?_);apply E.y6<;>intro h
  ·refine zR ?_;exact ⟨(i+1,l,x),⟨rfl,d8 ni,trivial⟩,⟨by show i+1≤12;omega,by rw [← hrem,a9T hi2,zJ zo];rfl,hfst,hS2⟩,by show 12-(i+1)<12-i;omega⟩
  have htt:(i:Int)/6=p.turn:=by omega
  clear h;rw [a9T hi2,zM htt] at hrem;obtain ⟨k,hk⟩:∃ k:Int,(i:Int)+1=k+6*p.turn:=⟨(i:Int)+1-6*p.turn,zo⟩;rw [show (i:Int)+1-6*p.turn=k by omega] at hrem
  have k1:1≤k:=by omega
  have k6:k≤6:=by omega
  have hkind:d6 ((i:Int)+1)=k:=by rw [hk];exact L9 k1 k6 ht
  have hty:=fun w=>a2n ((i:Int)+1) zo zo w;have hbp:=fun w' hb=>N5 (A4 p) b (t:=237) (fz:=(0,0)) ((i:Int)+1) zo zo w' hb;rw [c5K hi2] at hbp;simp only [hkind] at hty;have hone:a3k p k 0=[]→l++a4W p (i+1)=B5 p:=fun e=>by rw [← hrem,e];rfl
  have hP:=hS2.hd;refine zB ?_;refine l8 (hbp _ hS2.bd) (zR ?_);apply E.b9<;>intro h
  ·refine zR ?_;have h':pcs p ((i:Int)+1)=0:=n0 h;rw [hk] at h';exact ⟨(i+1,l,x),⟨rfl,d8 ni,trivial⟩,⟨by show i+1≤12;omega,hone (b6q h'),hfst,hS2⟩,by show 12-(i+1)<12-i;omega⟩
  have lP:G9 (pcs p ((i:Int)+1)):=⟨P4 _⟩;clear h;refine zR ?_;refine B6 (σ:=Nat×List PM×PM) [4,6,12,13,14,16,17,18,58] 59 (fun s=>[(6,.int .i64 s.2.1.length),(58,.int .i64 s.1)]) (fun s w'=>s.1≤64∧s.2.1++(a3k p k s.1++a4W p (i+1))=B5 p∧(first=true→s.2.1=[])∧SmI w P b (w.heap.size+1) w.heap.size (E6 p c) cv (A4 p) z.cells s.2.2 s.2.1 w') (fun s=>64-s.1) zk (0,l,x) ⟨xA _,hrem,hfst,hS2⟩ ⟨rfl,rfl,trivial⟩ ?_
  clear hrem hfst hS2 hone hP;rintro ⟨fr,l2,x2⟩ j2 w3 ⟨hf,hrem,hfst,hS3⟩;simp only at hf hrem hfst hS3 ⊢;refine zR ?_;apply E.b9<;>intro h
  ·have hf2:fr<64:=by omega
   have nf:=C7 (i:=fr) zo;clear h;have e8:IntKind.i8.wrap (fr:Int)=fr:=a0q zo zo;rw [b6p hf2] at hrem;have hskip:W6 p k fr=[]→l2++(a3k p k (fr+1)++a4W p (i+1))=B5 p:=fun e=>by rw [← hrem,e];rfl
   have hbs:=fun w=>s8 fr hf2 w;refine zR ?_;rw [e8];refine l8 (hbs _) (zB ?_);apply E.b9<;>intro h
   ·refine zR ?_;have h':=a3c.1 (n0 h);have hne:sq p fr≠k+6*p.turn:=by
     intro e;rw [a4b _ _ hf2,zZ] at h';exact h' (by rw [hk];exact e)
    exact ⟨(fr+1,l2,x2),⟨rfl,d8 nf,trivial⟩,⟨by show fr+1≤64;omega,hskip (a8B hne),hfst,hS3⟩,by show 64-(fr+1)<64-fr;omega⟩
   have hsq:sq p fr=k+6*p.turn:=by
    have h':¬ _:=fun e=>nz h (a3c.2 e);rw [a4b _ _ hf2,Bool.not_eq_false,zW] at h';rw [h',hk]
   clear h hbs;rw [b2j hsq] at hrem hskip;refine zR ?_;refine l8 (hty _) (zR ?_);rw [e8];refine o9 (b39 (h:=E6 p c) fr hf2 k k1 k6 (by show p.turn+1=1∨p.turn+1=2;omega) (S5 hI.pass).1 (S5 hI.pass).2.1 _ hS3.tab hS3.hd hS3.bd) fun w4 c4=>?_
   have hS4:=hS3.step c4;have eP:(A4 p).poss (E6 p c).turn (epN (E6 p c).ep) k fr=a6N p k fr:=c0O p ht k fr;have lQ:G9 (a6N p k fr):=⟨b7W _ _ _⟩;rw [eP];clear hS3;have eG:a6N p k fr &&& Bb.not (side p p.turn)=goB p k fr:=rfl;have lG:G9 (goB p k fr):=by rw [← eG];infer_instance
   refine zB ?_;rw [eG];apply E.b9<;>intro h
   ·refine zR ?_;exact ⟨(fr+1,l2,x2),⟨rfl,d8 nf,trivial⟩,⟨by show fr+1≤64;omega,hskip (b6r (n0 h)),hfst,hS4⟩,by show 64-(fr+1)<64-fr;omega⟩
   clear h hskip;refine zR ?_;refine B6 (σ:=Nat×List PM×PM) [4,6,14,16,17,18,77] 78 (fun s=>[(6,.int .i64 s.2.1.length),(77,.int .i64 s.1)]) (fun s w'=>s.1≤64∧s.2.1++(a6t p k fr s.1++a3k p k (fr+1)++a4W p (i+1))=B5 p∧(first=true→s.2.1=[])∧SmI w P b (w.heap.size+1) w.heap.size (E6 p c) cv (A4 p) z.cells s.2.2 s.2.1 w') (fun s=>64-s.1) zk (0,l2,x2) ⟨xA _,hrem,hfst,hS4⟩ ⟨rfl,rfl,trivial⟩ ?_
   clear hrem hfst hS4 c4;rintro ⟨to,l3,x3⟩ j3 w5 ⟨hto,hrem,hfst,hS5⟩;simp only at hto hrem hfst hS5 ⊢;refine zR ?_;apply E.b9<;>intro h
   ·have ht2:to<64:=by omega
    have nt:=C7 (i:=to) zo;clear h;have e8t:IntKind.i8.wrap (to:Int)=to:=a0q zo zo;rw [b6o ht2] at hrem;have hskip:(if (goB p k fr).testBit (63-to) then a27 p fr to else [])=[]→l3++(a6t p k fr (to+1)++a3k p k (fr+1)++a4W p (i+1))=B5 p:=fun e=>by rw [← hrem,e];rfl
    have hbs:=fun w=>s8 to ht2 w;refine zR ?_;rw [e8t];refine l8 (hbs _) (zB ?_);apply E.b9<;>intro h
    ·refine zR ?_;have h':=a3c.1 (n0 h);exact ⟨(to+1,l3,x3),⟨rfl,d8 nt,trivial⟩,⟨by show to+1≤64;omega,hskip (by rw [h'];rfl),hfst,hS5⟩,by show 64-(to+1)<64-to;omega⟩
    have hbit:(goB p k fr).testBit (63-to)=true:=by
     have h':¬ _:=fun e=>nz h (a3c.2 e);simpa using h'
    clear h hbs hskip;rw [hbit,zM rfl] at hrem;refine zR ?_;rw [e8];refine c4G hS5.nd _ fun w6 u6=>?_;have hS6:=hS5.upd u6;clear hS5 u6;refine zR ?_;rw [e8t];refine c4H hS6.nd _ fun w7 u7=>?_;have hS7:=hS6.upd u7;clear hS6 u7;refine zR ?_;refine c1d hS7.nd 0 fun w8 u8=>?_;have hS8:=hS7.upd u8;clear hS7 u8;simp only at hS8;refine zG ?_;have hrk:k9 (to:Int)=(to:Int)/8:=rfl;have hsr:=fun w=>a1e (to:Int) zo zo w;obtain ⟨PR,hPR⟩:∃ PR:Bool,PR=decide (k=6∧k9 (to:Int)=7-7*p.turn):=⟨_,rfl⟩;refine C3 (σ:=Unit) [93,94,95,96,97,98,99,100,101,102,103,104,105,106,107,108,109,110] 111 (fun _=>[(110,.bool PR)]) (fun _ w'=>w'=w8) zk ?_ (fun _ j w9 e9=>?_)
    ·refine zR ?_;apply E.b9<;>intro h
     ·refine zR ?_;rw [e8t];refine l8 (hsr _) (zR ?_);apply E.b9<;>intro h
      ·refine zR ?_;exact ⟨(),⟨t8 (hPR.trans (zX zo)).symm,trivial⟩,rfl⟩
      ·refine zR ?_;refine E.p9 zo (zR ?_);exact ⟨(),⟨t8 (hPR.trans (zV zo)).symm,trivial⟩,rfl⟩
     ·refine zR ?_;apply E.b9<;>intro h
      ·refine zR ?_;rw [e8t];refine l8 (hsr _) (zR ?_);exact ⟨(),⟨t8 (hPR.trans (ya.2 zo)).symm,trivial⟩,rfl⟩
      ·refine zR ?_;exact ⟨(),⟨t8 (hPR.trans (zV zo)).symm,trivial⟩,rfl⟩
    subst e9;clear hsr;have hkp:d6 (sq p fr)=k:=by rw [hsq];exact L9 k1 k6 ht
    have hLen:∀ {a b:List PM} {y:PM},a++([y]++b)=B5 p→(first=true→a=[])→a.length<218:=fun {a b y} e hf=>by
     cases first
     rotate_left
     ·rw [hf rfl];decide
     have hle:=hle rfl;have:=yH List.length e;simp only [zF,zh,za] at this;omega
    generalize hR:a6t p k fr (to+1)++a3k p k (fr+1)++a4W p (i+1)=R;have hRa:∀ a b:List PM,a++(b++a6t p k fr (to+1)++a3k p k (fr+1)++a4W p (i+1))=a++(b++R):=fun a b=>by rw [← hR];simp only [yG]
    cases PR
    ·have h:=of_decide_eq_false hPR.symm;clear hPR;have hpl:H7 p ⟨fr,to,0⟩:=a6W hI k1 k6 hf2 ht2 hsq hbit (.inl ⟨rfl,h⟩);have hmt:a27 p fr to=if (tg p ⟨fr,to,0⟩).testBit 5 then [] else [⟨⟨fr,to,0⟩,tg p ⟨fr,to,0⟩⟩]:=by unfold a27;rw [zJ (by rw [hkp];exact h)]
     rw [hmt] at hrem;clear h hmt;rw [hRa] at hrem;refine zR ?_;refine b2o hS8.nd 0 fun w11 u11=>?_;have hS11:=hS8.upd u11;clear hS8 u11;refine zR ?_;refine o7 (a8C (t:=0) hI hpl zd zd zd zd hS11) ?_;rintro r w12 ⟨rfl,hS12⟩;refine ⟨_,rfl,?_⟩;rw [Nat.zero_or] at hS12;have o64:tg p ⟨fr,to,0⟩<64:=c2w _ _;generalize tg p ⟨fr,to,0⟩=T at *;have hht:=a1H (k:=5) (d:=E0 ⟨⟨fr,to,0⟩,T⟩) zd (by show T<65536;omega) w12 hS12.nd
     clear hS11;refine zR ?_;have hht':Calls G.P 147 #[.pointer (some ⟨w.heap.size+1,0,none⟩),.int .u16 32] w12 (E5 (.bool (T.testBit 5)) w12):=hht;cases hb5:T.testBit 5
     ·rw [hb5] at hht' hrem;refine l8 hht' ?_;rw [zJ zd] at hrem;have hlt:=hLen (a:=l3) (y:=⟨⟨fr,to,0⟩,T⟩) (b:=R) hrem hfst;have n4:=C7 (i:=l3.length) zo;have hrem':(l3++[⟨⟨fr,to,0⟩,T⟩])++R=B5 p:=by rw [← hrem];simp only [yG]
      refine zR ?_;refine b7 _ (b6s hS12.nd) (zR ?_);refine zC ?_;refine zR ?_;refine b8C hS12 hzs hlt (a0F _ _) fun w13 hS13=>zR ?_;cases first
      ·refine zR ?_;exact ⟨(to+1,_,_),⟨d8 (n4.trans (by rw [zF];rfl)),d8 nt,trivial⟩,⟨by show to+1≤64;omega,by rw [← hrem',← hR],fun e=>(by cases e),hS13⟩,by show 64-(to+1)<64-to;omega⟩
      ·have hl0:=hfst rfl;subst hl0;obtain ⟨z1v,hz1,hz1s⟩:=z1;refine zR ?_;refine v8 z1v hz1 ?_;have ca:=Cl.alloc w13 (.cells z1v.cells 293);have na:=d9 w13 (.cells z1v.cells 293);have hge:=hS13.cl.size;generalize w13.alloc (.cells z1v.cells 293)=w14 at *;have hS14:=hS13.step ca;refine zR ?_;refine b7 _ (b5p hS14 hzs) (zR ?_);refine K9 na (D4 ⟨⟨fr,to,0⟩,T⟩) rfl a1I rfl (F8 _) (by rw [hz1s];decide) fun w15 u15=>zR ?_
       refine b2l (n:=1) (el:=141) (z:=11) rfl rfl (zR ?_);exact ⟨(Tn.upd u15).toCl hS14.cl zo,_,rfl,.inr ⟨fun e=>by rw [e] at hrem';simp at hrem',_,⟨⟨fr,to,0⟩,T⟩,_,rfl,by have h15:=u15.at_;rw [show J0 0 (Int.toNat 0) 11=0 from rfl,C6 _ _ (by rw [hz1s];rfl)] at h15;exact h15⟩⟩
     ·rw [hb5] at hht' hrem;refine l8 hht' (zR ?_);exact ⟨(to+1,_,_),⟨rfl,d8 nt,trivial⟩,⟨by show to+1≤64;omega,by rw [← hrem,← hR];simp,hfst,hS12⟩,by show 64-(to+1)<64-to;omega⟩
    ·have h:=yB hPR.symm;clear hPR;have hpl:∀ pr:Int,2≤pr→pr≤5→H7 p ⟨fr,to,pr⟩:=fun pr h2 h5=>a6W hI k1 k6 hf2 ht2 hsq hbit (.inr ⟨h2,h5,h.1,h.2⟩);have hrt:=h.2;have hmt:a27 p fr to=P6 p fr to (([2,3,4,5]:List Int).drop 0) 0:=by unfold a27;rw [zM (by rw [hkp];exact h)];rfl
     rw [hmt] at hrem;clear h hmt;rw [hRa] at hrem;refine zR ?_;refine b7 _ (K6 (hp1.cl hS8.cl) (i:=0) zd rfl rfl) (zR ?_);refine B6 (σ:=Nat×List PM×Int×Nat) [4,6,16,17,113] 114 (fun s=>[(6,.int .i64 s.2.1.length),(113,.int .i64 s.1)]) (fun s w'=>s.1≤4∧s.2.1++(P6 p fr to (([2,3,4,5]:List Int).drop s.1) s.2.2.2++R)=B5 p∧(first=true→s.2.1=[]) ∧
      SmI w P b (w.heap.size+1) w.heap.size (E6 p c) cv (A4 p) z.cells ⟨⟨fr,to,s.2.2.1⟩,s.2.2.2⟩ s.2.1 w'∧s.2.2.2<64∧s.2.2.2.testBit 0=false∧s.2.2.2.testBit 1=false∧s.2.2.2.testBit 3=false) (fun s=>4-s.1) zk (0,l3,x3.mv.promo,0) ⟨xA _,hrem,hfst,hS8,show 0<64 by decide,show (0:Nat).testBit 0=false by decide,show (0:Nat).testBit 1=false by decide,show (0:Nat).testBit 3=false by decide⟩ ⟨rfl,rfl,trivial⟩ ?_
     clear hrem hfst hS8;rintro ⟨q,l4,pr,tt⟩ j4 w10 ⟨hq,hrem,hfst,hS10,htt64,tb0,tb1,tb3⟩;simp only at hq hrem hfst hS10 htt64 tb0 tb1 tb3 ⊢;refine zR ?_;apply E.b9<;>intro h
     ·have hq2:q<4:=by omega
      have nq:=C7 (i:=q) zo;clear h;have hpq:=hpl ((q:Int)+2) zo zo;obtain ⟨g0,g1,g3⟩:=c1e hI hpq hrt;rw [c1f hq2] at hrem;refine zR ?_;refine zC ?_;refine zR ?_;refine b7 _ (a6n (hp2.cl hS10.cl) (i:=q) hq2 rfl rfl) (zR ?_);refine b2o hS10.nd _ fun w11 u11=>?_;have hS11:=hS10.upd u11;clear hS10 u11;refine zR ?_;refine o7 (a8C hI hpq htt64 tb0 tb1 tb3 hS11) ?_;rintro r w12 ⟨rfl,hS12⟩;refine ⟨_,rfl,?_⟩;have o64:tt ||| tg p ⟨fr,to,(q:Int)+2⟩<64:=b3I htt64 (c2w _ _)
      have o0:(tt ||| tg p ⟨fr,to,(q:Int)+2⟩).testBit 0=false:=by rw [yF,tb0,g0];rfl
      have o1:(tt ||| tg p ⟨fr,to,(q:Int)+2⟩).testBit 1=false:=by rw [yF,tb1,g1];rfl
      have o3:(tt ||| tg p ⟨fr,to,(q:Int)+2⟩).testBit 3=false:=by rw [yF,tb3,g3];rfl
      generalize tt ||| tg p ⟨fr,to,(q:Int)+2⟩=T at *
      have hht:=a1H (k:=5) (d:=E0 ⟨⟨fr,to,(q:Int)+2⟩,T⟩) zd (by show T<65536;omega) w12 hS12.nd
      clear hS11;refine zR ?_;have hht':Calls G.P 147 #[.pointer (some ⟨w.heap.size+1,0,none⟩),.int .u16 32] w12 (E5 (.bool (T.testBit 5)) w12):=hht;cases hb5:T.testBit 5
      ·rw [hb5] at hht' hrem;refine l8 hht' ?_;rw [zJ zd] at hrem;have hlt:=hLen (a:=l4) (y:=⟨⟨fr,to,(q:Int)+2⟩,T⟩) (b:=P6 p fr to (([2,3,4,5]:List Int).drop (q+1)) T++R) (by rw [← hrem];simp only [yG]) hfst
       have n4:=C7 (i:=l4.length) zo;have hrem':(l4++[⟨⟨fr,to,(q:Int)+2⟩,T⟩])++(P6 p fr to (([2,3,4,5]:List Int).drop (q+1)) T++R)=B5 p:=by rw [← hrem];simp only [yG]
       refine zR ?_;refine b7 _ (b6s hS12.nd) (zR ?_);refine zC ?_;refine zR ?_;refine b8C hS12 hzs hlt (a0F _ _) fun w13 hS13=>zR ?_;cases first
       ·refine zR ?_;exact ⟨(q+1,_,(q:Int)+2,_),⟨d8 (n4.trans (by rw [zF];rfl)),d8 nq,trivial⟩,⟨by show q+1≤4;omega,hrem',fun e=>(by cases e),hS13,o64,o0,o1,o3⟩,by show 4-(q+1)<4-q;omega⟩
       ·have hl0:=hfst rfl;subst hl0;obtain ⟨z1v,hz1,hz1s⟩:=z1;refine zR ?_;refine v8 z1v hz1 ?_;have ca:=Cl.alloc w13 (.cells z1v.cells 293);have na:=d9 w13 (.cells z1v.cells 293);have hge:=hS13.cl.size;generalize w13.alloc (.cells z1v.cells 293)=w14 at *;have hS14:=hS13.step ca;refine zR ?_;refine b7 _ (b5p hS14 hzs) (zR ?_);refine K9 na (D4 ⟨⟨fr,to,(q:Int)+2⟩,T⟩) rfl a1I rfl (F8 _) (by rw [hz1s];decide) fun w15 u15=>zR ?_
        refine b2l (n:=1) (el:=141) (z:=11) rfl rfl (zR ?_);exact ⟨(Tn.upd u15).toCl hS14.cl zo,_,rfl,.inr ⟨fun e=>by rw [e] at hrem';simp at hrem',_,⟨⟨fr,to,(q:Int)+2⟩,T⟩,_,rfl,by have h15:=u15.at_;rw [show J0 0 (Int.toNat 0) 11=0 from rfl,C6 _ _ (by rw [hz1s];rfl)] at h15;exact h15⟩⟩
      ·rw [hb5] at hht' hrem;refine l8 hht' (zR ?_);exact ⟨(q+1,_,(q:Int)+2,_),⟨rfl,d8 nq,trivial⟩,⟨by show q+1≤4;omega,hrem,hfst,hS12,o64,o0,o1,o3⟩,by show 4-(q+1)<4-q;omega⟩
     ·have hq4:q=4:=by omega
      subst hq4;refine zR ?_;exact ⟨(to+1,_,_),⟨rfl,d8 nt,trivial⟩,⟨by show to+1≤64;omega,by rw [← hrem,← hR];simp [P6],hfst,hS10⟩,by show 64-(to+1)<64-to;omega⟩
   ·have e64:to=64:=by omega
    subst e64;rw [b86] at hrem;refine zR ?_;exact ⟨(fr+1,_,_),⟨rfl,d8 nf,trivial⟩,⟨by show fr+1≤64;omega,hrem,hfst,hS5⟩,by show 64-(fr+1)<64-fr;omega⟩
  ·have e64:fr=64:=by omega
   subst e64;rw [b87] at hrem;refine zR ?_;exact ⟨(i+1,_,_),⟨rfl,d8 ni,trivial⟩,⟨by show i+1≤12;omega,hrem,hfst,hS3⟩,by show 12-(i+1)<12-i;omega⟩
 ·have e12:i=12:=by omega
  subst e12;rw [b88,zn] at hrem;subst hrem;have hle:(B5 p).length≤218:=by
   cases first
   ·exact hle rfl
   ·rw [hfst rfl];decide
  refine zR ?_;refine b2m b2n (B5 p).length rfl rfl zo zd fun cs hcs=>?_;have ca:=Cl.alloc w2 (.cells cs 141);have na:=d9 w2 (.cells cs 141);have hge:=hS2.cl.size;generalize w2.alloc (.cells cs 141)=w3 at *;have hS3:=hS2.step ca;refine zR ?_;refine b2k (n:=218) (el:=141) (z:=11) (B5 p).length rfl rfl rfl hle (zR ?_);have fl:=a3b (B5 p);refine b8B b2n (cs:=(B5 p).flatMap D4) (n:=(B5 p).length) rfl rfl na fl hcs (fun jj v hv=>?_) (fun v hv=>?_) fun w4 u4=>?_
  ·rw [C9 hS3.arr,S0 _ _ _ _ (by rw [fl,hzs];omega),zM ⟨xA _,by rw [yW];exact (xS.1 hv).1⟩];exact hv
  ·obtain ⟨y,_,hy⟩:=xM.1 hv;exact F8 y v hy
  have hc4:Cl w w4:=(Tn.upd u4).toCl hS3.cl zo;refine zR ?_;refine ⟨hc4,_,rfl,?_⟩;cases first
  ·rw [zJ zd];exact Row.blk J9 zo hge u4.at_
  ·rw [zM rfl];exact .inl ⟨hfst rfl,by have:=Row.blk (w:=w4) J9 zo hge u4.at_;rw [hfst rfl] at this ⊢;exact this⟩
end
section
open Go Go.RowKit
open E
def ixZ (c:UInt8) (s:Tx):Int:=if c∈s then (s.idxOf c:Int) else -1
theorem c3p {c:UInt8}:∀ {s:Tx} {i:Nat},s[i]?=some c→(∀ j,j<i→s[j]?≠some c)→c∈s∧s.idxOf c=i:=by
 intro s
 induction s with
 | nil=>intro i h;simp at h
 | cons x r ih =>
  intro i h hj;by_cases e:x=c
  ·subst e;cases i with
   | zero=>exact ⟨yX,by simp⟩
   | succ i=>exact absurd (by simp) (hj 0 zo)
  ·cases i with
   | zero=>simp at h;exact absurd h e
   | succ i =>
    obtain ⟨h1,h2⟩:=ih (i:=i) (by simpa using h) (fun j hlt=>by have:=hj (j+1) zo;simpa using this)
    refine ⟨yY _ h1,?_⟩;rw [List.idxOf_cons,show (x==c)=false by simpa using e,h2];rfl
theorem c3q {c:UInt8} {s:Tx} (h:∀ j,j<s.length→s[j]?≠some c):c∉s:=by
 intro hm;obtain ⟨j,hj⟩:=List.mem_iff_getElem?.1 hm;exact h j (xS.1 hj).1 hj
theorem c3r {c:UInt8} {s:Tx} {i:Nat} (h:s[i]?=some c) (hj:∀ j,j<i→s[j]?≠some c):ixZ c s=i:=by
 obtain ⟨h1,h2⟩:=c3p h hj;unfold ixZ;rw [zM h1,h2]
theorem c1g {c:UInt8} {s:Tx} (h:∀ j,j<s.length→s[j]?≠some c):ixZ c s=-1:=by
 unfold ixZ;rw [zJ (c3q h)]
theorem c4I {s:Tx} {i:Nat} (h:i<s.length):(s.drop i).take 1=[s[i]]:=by
 rw [xU h];rfl
theorem a6u (c:UInt8) (s:Tx) (hs:s.length≤100000) (w:World):Calls G.P 234 #[m9 s,m9 [c]] w (E5 (.int .i64 (ixZ c s)) w):=by
 have h0:(tx [c]).size=1:=C5 _;have hsz:(tx s).size=s.length:=C5 _;refine zN func234 ?_;refine zR ?_;refine B6 (σ:=Nat) [4,5] 6 (fun i=>[(5,.int .i64 i)]) (fun i w'=>i≤s.length∧w'=w∧∀ j,j<i→s[j]?≠some c) (fun i=>s.length-i) zk 0 ⟨zo,rfl,fun j h=>by omega⟩ ⟨rfl,trivial⟩ ?_
 rintro i j w2 ⟨hi,rfl,hj⟩;have ni:=C7 (i:=i) zo;refine zR ?_;rw [h0,hsz];rw [show ((1:Nat):Int)=1 from rfl,ni];apply E.b9<;>intro h
 ·have hi2:i<s.length:=by omega
  clear h;refine zR ?_;rw [h0,show ((1:Nat):Int)=1 from rfl,ni];refine a1d [s[i]] rfl rfl rfl rfl zo zo zo ?_ ?_
  ·rw [show ((i+1:Nat):Int).toNat-(i:Int).toNat=1 by omega,zg];exact c4I hi2
  refine zR ?_;apply E.b9<;>intro h
  ·have e:=P8.1 h;refine zR ?_;exact ⟨C2 (c3r (by rw [ym hi2];simpa using e) hj).symm,rfl⟩
  ·refine zR ?_;refine ⟨i+1,⟨d8 ni,trivial⟩,⟨zo,rfl,fun j h2=>?_⟩,zo⟩;by_cases e:j<i
   ·exact hj j e
   ·have:j=i:=by omega
    subst this;rw [ym hi2];intro e2;injection e2 with e2;exact h (by rw [e2])
 ·refine zR ?_;exact ⟨C2 (c1g (fun j h2=>hj j zo)).symm,rfl⟩
theorem a1i (c:UInt8) (s:Tx) (hs:s.length≤100000) (w:World):Calls G.P 215 #[m9 s,m9 [c]] w (E5 (.bool (decide (c∈s))) w):=by
 refine zN func215 ?_;refine zR ?_;refine l8 (a6u c s hs w) (zR ?_);refine ⟨o8 ?_,rfl⟩;unfold ixZ;by_cases h:c∈s
 ·rw [zM h];rw [zX h];exact zX zo
 ·rw [zJ h];rw [zV h];exact zV zo
def b8D (n:Nat):UInt8:=[75,81,107,113].getD n 0
theorem b8E:∀ n:Nat,n<4→∀ c:Nat,c<16→decide (b8D n∈Ch.B9 (c:Int))=Ch.U2 (c:Int) n:=by decide
theorem b2p (cr:Int) (h0:0≤cr) (h1:cr≤15) (t:Int) (ht:t=0∨t=1) (sd:Int) (hsd:sd=1∨sd=2) (w:World) :
  Calls G.P 175 #[m9 (Ch.B9 cr),.int .i8 (t+1),.int .i64 sd] w (N2 (.bool (Ch.U2 cr (2*t+(sd-1)).toNat)) w):=by
 have hl:=a4f cr;have key:∀ n:Nat,n<4→decide (b8D n∈Ch.B9 cr)=Ch.U2 cr n:=fun n hn=>by
  have:=b8E n hn cr.toNat zo
  rwa [zi h0] at this
 have e1:(0:Int)+1=1:=rfl;have e2:(1:Int)+1=2:=rfl;rcases ht with rfl|rfl<;>rcases hsd with rfl|rfl<;>simp only [e1,e2]<;>(refine E.enter (G:=G) func175 rfl (by simp [ntmps175]) zk ?_)<;>refine a5V ?_
 ·refine zR ?_;refine o9 (a9M 107 (.inl rfl) w) fun w1 c1=>zR ?_;refine l8 (a1i 75 (Ch.B9 cr) zo w1) (zR ?_);exact ⟨o8 (key 0 zd),c1⟩
 ·refine zR ?_;refine o9 (a9M 113 (.inr rfl) w) fun w1 c1=>zR ?_;refine l8 (a1i 81 (Ch.B9 cr) zo w1) (zR ?_);exact ⟨o8 (key 1 zd),c1⟩
 ·refine zR ?_;refine l8 (a1i 107 (Ch.B9 cr) zo w) (zR ?_);exact ⟨o8 (key 2 zd),Cl.refl _⟩
 ·refine zR ?_;refine l8 (a1i 113 (Ch.B9 cr) zo w) (zR ?_);exact ⟨o8 (key 3 zd),Cl.refl _⟩
end
