/- One part of the proof: Pk9 PkN Law8 Pk10 Pk11 Pk13. -/
import Derived.Laws.MakeOwn
import Derived.Laws.CopyRow
import Derived.Laws.Slices
import Derived.Test.YtpclhlhcegcflaaGreatDoorM9
namespace Go.Proofs.YtpclhlhcegcflaaGreatDoor
open Go.Proofs.Tryz
set_option maxRecDepth 100000
set_option linter.unusedSimpArgs false
set_option linter.unusedVariables false
section
open Go Go.RowKit
open E
def capR (B:MB) (ep:Int) (m:Mv):Nat:=if (B.f 14).testBit (63-m.to.toNat)=false then 4 else if m.to=ep∧Ch.a0B (B.at m.fr.toNat)=6 then 8 else 0
def c0B (B:MB) (m:Mv):Nat :=
 if (B.at m.fr.toNat=1∧m.fr=4)∨(B.at m.fr.toNat=7∧m.fr=60) then (if m.to=2∨m.to=58 then 2 else if m.to=6∨m.to=62 then 1 else 0) else 0
def a30 (B:MB) (turn ep:Int) (m:Mv) (t:Nat):Nat :=
 let t2:=(t ||| capR B ep m) ||| c0B B m
 (t2 ||| (if (B.move m t2).chk turn then 32 else 0)) ||| (if (B.move m t2).chk (3-turn) then 16 else 0)
theorem a9i {a b:Nat} (ha:a<64) (hb:b<64):a ||| b<64:=yy (n:=6) ha hb
theorem b6k (B:MB) (ep:Int) (m:Mv):capR B ep m<64:=by unfold capR;(repeat' split)<;>decide
theorem b6l (B:MB) (m:Mv):c0B B m<64:=by unfold c0B;(repeat' split)<;>decide
theorem c1M (B:MB) (turn ep:Int) (m:Mv) {t:Nat} (h:t<64):a30 B turn ep m t<64:=by
 unfold a30;refine a9i (a9i (a9i (a9i h (b6k _ _ _)) (b6l _ _)) ?_) ?_
 ·split<;>decide
 ·split<;>decide
instance move_ok {B:MB} [hO:B.Ok] {m:Mv} {t:Nat}:(B.move m t).Ok:=by
 unfold MB.move;have h1:(if m.promo=0 then B.m1 m.fr.toNat m.to.toNat 12 else (B.m1 m.fr.toNat m.to.toNat 12).m2 (B.at m.fr.toNat) (m.promo+6*(a73 (B.at m.fr.toNat)-1)) m.to.toNat).Ok:=by split<;>infer_instance
 have h2:(if t.testBit 3 then (if m.promo=0 then B.m1 m.fr.toNat m.to.toNat 12 else (B.m1 m.fr.toNat m.to.toNat 12).m2 (B.at m.fr.toNat) (m.promo+6*(a73 (B.at m.fr.toNat)-1)) m.to.toNat).m3 (a73 (B.at m.fr.toNat)) m.to.toNat else (if m.promo=0 then B.m1 m.fr.toNat m.to.toNat 12 else (B.m1 m.fr.toNat m.to.toNat 12).m2 (B.at m.fr.toNat) (m.promo+6*(a73 (B.at m.fr.toNat)-1)) m.to.toNat)).Ok:=by split<;>infer_instance
 exact b9l
theorem b2T {A:MB} {fr to:Int} (w0:-1≤A.wk) (w1:A.wk≤63) (b0:-1≤A.bk) (b1:A.bk≤63) (t0:0≤to) (t1:to≤63):(-1≤(A.kings fr to).wk∧(A.kings fr to).wk≤63)∧(-1≤(A.kings fr to).bk∧(A.kings fr to).bk≤63):=by
 unfold MB.kings;(repeat' split)<;>(try simp only)<;>omega
theorem b4C {B:MB} {m:Mv} {t:Nat} (w0:-1≤B.wk) (w1:B.wk≤63) (b0:-1≤B.bk) (b1:B.bk≤63) (t0:0≤m.to) (t1:m.to≤63):(-1≤(B.move m t).wk∧(B.move m t).wk≤63)∧(-1≤(B.move m t).bk∧(B.move m t).bk≤63):=by
 unfold MB.move;simp only
 refine b2T ?_ ?_ ?_ ?_ t0 t1;all_goals first|rw [(a9c _).1,(b2N _ _ _ _).1]|rw [(a9c _).2,(b2N _ _ _ _).2]
 all_goals (split<;>(try rw [(a5Z _ _ _).1])<;>(try rw [(a5Z _ _ _).2])<;>split<;>assumption)
theorem c1N {w:World} {h:Hd} {cv:Value} {P b u:Nat} {K:World→Prop} (hP:w.heap[P]?=some (.cells (hdA b h cv) u (0,0))) (x:Int) (hk:∀ w',Upd w P (.cells (hdA b { h with turn:=x } cv) u (0,0)) w'→K w'):a0D G.P w 171 ⟨P,5,none⟩ (.int .i8 x) K :=
 K2 hP [.int .i8 x] rfl zk rfl (a0o _ _) (zU rfl) (fun w2 u2=>hk w2 u2)
structure AtI (w0:World) (P b M:Nat) (h:Hd) (cv:Value) (B:MB) (d:Nd) (w:World):Prop where
 hd:w.heap[P]?=some (.cells (hdA b h cv) 173 (0,0))
 bd:w.heap[b]?=some (.cells (J4 B) 237 (0,0))
 nd:w.heap[M]?=some (.cells (F7 d) 141 (0,0))
 tn:Tn M w0 w
 tab:C6 w
 neP:P≠M
 neb:b≠M
section ati
variable {w0 w w':World} {P b M:Nat} {h:Hd} {cv:Value} {B:MB} {d d':Nd}
theorem AtI.upd (hI:AtI w0 P b M h cv B d w) (u:Upd w M (.cells (F7 d') 141 (0,0)) w'):AtI w0 P b M h cv B d' w' :=
 ⟨(Tn.upd u).blk hI.hd hI.neP,(Tn.upd u).blk hI.bd hI.neb,u.at_,hI.tn.trans (Tn.upd u),hI.tab.tn (Tn.upd u) hI.nd rfl,hI.neP,hI.neb⟩
theorem AtI.cl (hI:AtI w0 P b M h cv B d w) (c:Cl w w'):AtI w0 P b M h cv B d w' :=
 ⟨c.blk hI.hd,c.blk hI.bd,c.blk hI.nd,hI.tn.trans (Tn.cl c),hI.tab.cl c,hI.neP,hI.neb⟩
end ati
theorem Tn.skip {b b':Nat} {w w1 w2:World} (h:Tn b w w1) (h':Tn b' w1 w2) (hb:w.heap.size≤b'):Tn b w w2 :=
 ⟨h'.os.trans h.os,h'.tape.trans h.tape,h'.output.trans h.output,zw h.size h'.size,fun k hk hne=>(h'.else_ k (xe hk h.size) zo).trans (h.else_ k hk hne)⟩
theorem AtI.lt {w0 w:World} {P b M:Nat} {h:Hd} {cv:Value} {B:MB} {d:Nd} (hI:AtI w0 P b M h cv B d w):P<w.heap.size∧b<w.heap.size∧M<w.heap.size :=
 ⟨(yn.1 hI.hd).1,(yn.1 hI.bd).1,(yn.1 hI.nd).1⟩
theorem AtI.far {w0 w w':World} {P b M k:Nat} {h:Hd} {cv:Value} {B:MB} {d:Nd} {cs:Array Value} {u:Nat} {fz:Nat×Nat} (hI:AtI w0 P b M h cv B d w) (n:Tn k w w') (hk:w.heap[k]?=some (.cells cs u fz)) (hu:a2I u=false) (h1:P≠k) (h2:b≠k) (h3:M≠k) (h4:w0.heap.size≤k):AtI w0 P b M h cv B d w' :=
 ⟨n.blk hI.hd h1,n.blk hI.bd h2,n.blk hI.nd h3,hI.tn.skip n h4,hI.tab.tn n hk hu,hI.neP,hI.neb⟩
theorem a3a {P b M:Nat} {h:Hd} {cv:Value} {B:MB} [hO:B.Ok] {d:Nd} (ht:h.turn=1∨h.turn=2) (w0:-1≤B.wk) (w1:B.wk≤63) (b0:-1≤B.bk) (b1:B.bk≤63)
  (f0:0≤d.mv.fr) (f1:d.mv.fr≤63) (t0:0≤d.mv.to) (t1:d.mv.to≤63) (hd:d.tags<64) (hpr:d.mv.promo=0∨(1≤d.mv.promo∧d.mv.promo≤6∧B.at d.mv.fr.toNat≠0))
  (w:World) (hI:AtI w P b M h cv B d w) :
  Calls G.P 253 #[.pointer (some ⟨M,0,none⟩),.pointer (some ⟨P,0,none⟩)] w (fun r w'=>r = .returned (.tuple #[])∧AtI w P b M h cv B { d with tags:=a30 B h.turn h.ep d.mv d.tags } w'):=by
 obtain ⟨s,hs⟩:=ze f0;obtain ⟨g,hg⟩:=ze t0;have hs64:s<64:=by omega
 have hg64:g<64:=by omega
 have hx:=B.at_range s;have hcl:capR B h.ep d.mv<64:=b6k _ _ _;have hsl:c0B B d.mv<64:=b6l _ _;have hcap:capR B h.ep d.mv=if (B.f 14).testBit (63-g)=false then 4 else if (g:Int)=h.ep∧Ch.a0B (B.at s)=6 then 8 else 0:=by unfold capR;rw [hs,hg];rfl
 have hcas:c0B B d.mv=if (B.at s=1∧(s:Int)=4)∨(B.at s=7∧(s:Int)=60) then (if (g:Int)=2∨(g:Int)=58 then 2 else if (g:Int)=6∨(g:Int)=62 then 1 else 0) else 0:=by unfold c0B;rw [hs,hg];rfl
 have hfin:a30 B h.turn h.ep d.mv d.tags=(((d.tags ||| capR B h.ep d.mv) ||| c0B B d.mv) ||| (if (B.move d.mv ((d.tags ||| capR B h.ep d.mv) ||| c0B B d.mv)).chk h.turn then 32 else 0)) ||| (if (B.move d.mv ((d.tags ||| capR B h.ep d.mv) ||| c0B B d.mv)).chk (3-h.turn) then 16 else 0):=rfl
 rw [hfin];clear hfin;have cP:=fun w (hT:C6 w) hb=>a0a B b (t:=237) (fz:=(0,0)) s hs64 w hT hb;have cT:=fun w=>a1f (B.at s) hx.1 hx.2 w;have cO:=fun w hb=>b17 (B:=B) (b:=b) (t:=237) (fz:=(0,0)) g hg64 w hb;generalize capR B h.ep d.mv=CAP at *;generalize c0B B d.mv=CAS at *;rw [hs] at hpr;simp only [zg] at hpr;refine zN func253 ?_;have hP:=hI.hd;have hM:=hI.nd;have hT:=hI.tab;have hB:=hI.bd;refine zR ?_;refine zK 10 ?_;refine zR ?_;refine qHb hP (zR ?_);refine a3B hM ?_;rw [hs];refine zR ?_;refine o4 _ (fun w hw=>cP w (hT.cl hw) (hw.blk hB)) (zR ?_);intro w1' c1;have hI1:=hI.cl c1;clear hP hM hT hB;have hP:=hI1.hd;have hM:=hI1.nd;have hB:=hI1.bd;refine zG ?_;refine B0 (σ:=Unit) [] 6 (fun _=>[]) (fun _ w'=>AtI w P b M h cv B { d with tags:=d.tags ||| CAP } w') zk ?_ (fun _ j w3 hI3=>?_)
 ·refine zR ?_;refine H7.mk1 ⟨9,Cl w1',Cl.drew (Cl.refl _),zk,?_⟩;refine zR ?_;refine qHb hP (zR ?_);refine b15 hM ?_;rw [hg];refine zR ?_;refine o4 _ (fun w hw=>cO w (hw.blk hB)) (zR ?_);intro w2 c2;have hI2:=hI1.cl c2;have add:∀ k w3,k<64→CAP=k→AtI w P b M h cv B d w3→∀ w4,Upd w3 M (.cells (F7 { d with tags:=d.tags ||| k }) 141 (0,0)) w4→AtI w P b M h cv B { d with tags:=d.tags ||| CAP } w4:=fun k w3 hk e hI3 w4 u4=>by rw [e];exact hI3.upd u4
  have none:∀ w3,CAP=0→AtI w P b M h cv B d w3→AtI w P b M h cv B { d with tags:=d.tags ||| CAP } w3:=fun w3 e hI3=>by rw [e,Nat.or_zero];exact hI3
  cases hb:(B.f 14).testBit (63-g)
  ·rw [zM hb] at hcap;refine zR ?_;refine m8 (a0j (tag:=4) zo zd _ hI2.nd) ?_;rintro r w3 ⟨rfl,u3⟩;refine ⟨_,rfl,zR ?_⟩;exact ⟨(),trivial,add 4 _ zd hcap hI2 _ u3⟩
  ·rw [zJ (by rw [hb];simp)] at hcap
   have hP:=hI2.hd;have hM:=hI2.nd;refine zR ?_;refine zK 14 ?_;refine zR ?_;refine b15 hM ?_;rw [hg];refine zR ?_;refine c1x hP (zR ?_);apply E.d7<;>intro h
   ·have h1:=h;clear h;refine zR ?_;refine o4 _ (fun w hw=>cT w) (zR ?_);intro w3 c3;have hI3:=hI2.cl c3;refine zR ?_;apply E.d7<;>intro h
    ·rw [zM ⟨h1,h⟩] at hcap;refine zR ?_;refine m8 (a0j (tag:=8) zo zd _ hI3.nd) ?_;rintro r w4 ⟨rfl,u4⟩;refine ⟨_,rfl,zR ?_⟩;exact ⟨(),trivial,add 8 _ zd hcap hI3 _ u4⟩
    ·rw [zJ (fun e=>h e.2)] at hcap;refine zR ?_;exact ⟨(),trivial,none _ hcap hI3⟩
   ·rw [zJ (fun e=>h e.1)] at hcap;refine zR ?_;intro w3 c3;refine zR ?_;exact ⟨(),trivial,none _ hcap (hI2.cl c3)⟩
 clear hI1 hP hM hB c1 hcap cO cT;have hdc:d.tags ||| CAP<64:=a9i hd hcl
 refine B0 (σ:=Unit) [] 6 (fun _=>[]) (fun _ w'=>AtI w P b M h cv B { d with tags:=(d.tags ||| CAP) ||| CAS } w') zk ?_ (fun _ j w4 hI4=>?_)
 ·have hM:=hI3.nd;have add:∀ k,k<64→CAS=k→∀ w4,Upd w3 M (.cells (F7 { d with tags:=(d.tags ||| CAP) ||| k }) 141 (0,0)) w4→AtI w P b M h cv B { d with tags:=(d.tags ||| CAP) ||| CAS } w4:=fun k hk e w4 u4=>by rw [e];exact hI3.upd u4
  have none:CAS=0→AtI w P b M h cv B { d with tags:=(d.tags ||| CAP) ||| CAS } w3:=fun e=>by rw [e,Nat.or_zero];exact hI3
  have at2:=fun w hM=>a0j (M:=M) (t:=141) (tag:=2) (d:={ d with tags:=d.tags ||| CAP }) (by show d.tags ||| CAP<65536;omega) zd w hM
  have at1:=fun w hM=>a0j (M:=M) (t:=141) (tag:=1) (d:={ d with tags:=d.tags ||| CAP }) (by show d.tags ||| CAP<65536;omega) zd w hM
  have key:(B.at s=1∧(s:Int)=4)∨(B.at s=7∧(s:Int)=60)→CAS=(if (g:Int)=2∨(g:Int)=58 then 2 else if (g:Int)=6∨(g:Int)=62 then 1 else 0):=fun e=>by rw [hcas,zM e]
  have key0:¬ ((B.at s=1∧(s:Int)=4)∨(B.at s=7∧(s:Int)=60))→CAS=0:=fun e=>by rw [hcas,zJ e]
  generalize B.at s=X at *;refine zR ?_;apply E.d7<;>intro h
  ·have h1:=h;clear h;refine zR ?_;refine c3j hM hs (zR ?_);apply E.d7<;>intro h
   ·have hc:=key (.inl ⟨h1,h⟩);refine zR ?_;refine c3k hM hg (zR ?_);apply E.d7<;>intro h
    ·rw [zM (.inl h)] at hc;refine zR ?_;refine E.A0 h (zR ?_);refine m8 (at2 _ hM) ?_;rintro r w4 ⟨rfl,u4⟩;refine ⟨_,rfl,zR ?_⟩;exact ⟨(),trivial,add 2 zd hc _ u4⟩
    ·have g1:=h;clear h;refine zR ?_;apply E.d7<;>intro h
     ·rw [zM (.inr h)] at hc;refine zR ?_;refine m8 (at2 _ hM) ?_;rintro r w4 ⟨rfl,u4⟩;refine ⟨_,rfl,zR ?_⟩;exact ⟨(),trivial,add 2 zd hc _ u4⟩
     ·rw [zJ (fun e=>e.elim g1 h)] at hc;clear h;refine zR ?_;apply E.d7<;>intro h
      ·rw [zM (.inl h)] at hc;refine zR ?_;refine E.A0 h (zR ?_);refine m8 (at1 _ hM) ?_;rintro r w4 ⟨rfl,u4⟩;refine ⟨_,rfl,zR ?_⟩;exact ⟨(),trivial,add 1 zd hc _ u4⟩
      ·have g2:=h;clear h;refine zR ?_;apply E.d7<;>intro h
       ·rw [zM (.inr h)] at hc;refine zR ?_;refine m8 (at1 _ hM) ?_;rintro r w4 ⟨rfl,u4⟩;refine ⟨_,rfl,zR ?_⟩;exact ⟨(),trivial,add 1 zd hc _ u4⟩
       ·rw [zJ (fun e=>e.elim g2 h)] at hc;refine zR ?_;exact ⟨(),trivial,none hc⟩
   ·have h2:=h;clear h;have hc:=key0 (fun e=>e.elim (fun e=>h2 e.2) (fun e=>by omega))
    refine zR ?_;refine E.o9 zo (zR ?_);exact ⟨(),trivial,none hc⟩
  ·have h1:=h;clear h;refine zR ?_;apply E.d7<;>intro h
   ·have h2:=h;clear h;refine zR ?_;refine c3j hM hs (zR ?_);apply E.d7<;>intro h
    ·have hc:=key (.inr ⟨h2,h⟩);refine zR ?_;refine c3k hM hg (zR ?_);apply E.d7<;>intro h
     ·rw [zM (.inl h)] at hc;refine zR ?_;refine E.A0 h (zR ?_);refine m8 (at2 _ hM) ?_;rintro r w4 ⟨rfl,u4⟩;refine ⟨_,rfl,zR ?_⟩;exact ⟨(),trivial,add 2 zd hc _ u4⟩
     ·have g1:=h;clear h;refine zR ?_;apply E.d7<;>intro h
      ·rw [zM (.inr h)] at hc;refine zR ?_;refine m8 (at2 _ hM) ?_;rintro r w4 ⟨rfl,u4⟩;refine ⟨_,rfl,zR ?_⟩;exact ⟨(),trivial,add 2 zd hc _ u4⟩
      ·rw [zJ (fun e=>e.elim g1 h)] at hc;clear h;refine zR ?_;apply E.d7<;>intro h
       ·rw [zM (.inl h)] at hc;refine zR ?_;refine E.A0 h (zR ?_);refine m8 (at1 _ hM) ?_;rintro r w4 ⟨rfl,u4⟩;refine ⟨_,rfl,zR ?_⟩;exact ⟨(),trivial,add 1 zd hc _ u4⟩
       ·have g2:=h;clear h;refine zR ?_;apply E.d7<;>intro h
        ·rw [zM (.inr h)] at hc;refine zR ?_;refine m8 (at1 _ hM) ?_;rintro r w4 ⟨rfl,u4⟩;refine ⟨_,rfl,zR ?_⟩;exact ⟨(),trivial,add 1 zd hc _ u4⟩
        ·rw [zJ (fun e=>e.elim g2 h)] at hc;refine zR ?_;exact ⟨(),trivial,none hc⟩
    ·have hc:=key0 (fun e=>e.elim (fun e=>h1 e.1) (fun e=>h e.2));refine zR ?_;exact ⟨(),trivial,none hc⟩
   ·have hc:=key0 (fun e=>e.elim (fun e=>h1 e.1) (fun e=>h e.1));refine zR ?_;exact ⟨(),trivial,none hc⟩
 clear hI3 hcas cP;have hd2:(d.tags ||| CAP) ||| CAS<64:=a9i hdc hsl
 generalize (d.tags ||| CAP) ||| CAS=T2 at *
 have hr:=b4C (B:=B) (m:=d.mv) (t:=T2) w0 w1 b0 b1 t0 t1;have hO':(B.move d.mv T2).Ok:=inferInstance;have hup:∀ b',M≠b'→∀ w,C6 w→w.heap[b']?=some (.cells (J4 B) 237 (0,0))→w.heap[M]?=some (.cells (F7 { d with tags:=T2 }) 141 (0,0)) →
   Calls G.P 257 #[.pointer (some ⟨b',0,none⟩),.pointer (some ⟨M,0,none⟩)] w (fun r w'=>r = .returned (.tuple #[])∧w'.heap[b']?=some (.cells (J4 (B.move d.mv T2)) 237 (0,0))∧Tn b' w w') :=
  fun b' hne w hT hB hM=>a9h (d:={ d with tags:=T2 }) f0 f1 t0 t1 (by show T2<65536;omega) (by show d.mv.promo=0∨_;rw [show ({ d with tags:=T2 }:Nd).mv=d.mv from rfl,hs];simpa using hpr) hne w hT hB hM
 generalize B.move d.mv T2=B' at *;refine zR ?_;refine m8 (b7l _ hI4.hd hI4.bd) ?_;rintro r w5 ⟨P',b',rfl,hp',hb',hlt,hP5,hB5,c5⟩;refine ⟨_,rfl,?_⟩;have hI5:=hI4.cl c5;have hl4:=hI4.lt;have hs4:=hI4.tn.size;refine zR ?_;refine kHb hP5 (zR ?_);refine m8 (hup b' zo w5 hI5.tab hB5 hI5.nd) ?_;rintro r w6 ⟨rfl,hB6,n6⟩;refine ⟨_,rfl,?_⟩;have hI6:=hI5.far n6 hB5 rfl zo zo zo zo;have hP6:=n6.blk hP5 zo;have hic:=fun (h:Hd) w ht hT hP hB=>a7z (P:=P') (b:=b') (t:=173) (u:=237) (h:=h) (cv:=.slice none 0 0) (fz:=(0,0)) (fy:=(0,0)) (B:=B') ht hr.1.1 hr.1.2 hr.2.1 hr.2.2 w hT hP hB;have hl5:=hI5.lt;have hs5:=c5.size;have hs6:=n6.size;refine zG ?_;refine B0 (σ:=Unit) [] 6 (fun _=>[]) (fun _ w'=>AtI w P b M h cv B { d with tags:=T2 ||| (if B'.chk h.turn then 32 else 0) } w'∧w'.heap[P']?=some (.cells (hdA b' h (.slice none 0 0)) 173 (0,0))∧w'.heap[b']?=some (.cells (J4 B') 237 (0,0))∧w6.heap.size≤w'.heap.size) zk ?_ (fun _ j w8 hI8=>?_)
 ·refine zR ?_;refine o7 (hic h w6 ht hI6.tab hP6 hB6) fun w7 c7=>?_;have hI7:=hI6.cl c7;have hP7:=c7.blk hP6;have hB7:=c7.blk hB6;have hs7:=c7.size;generalize B'.chk h.turn=CK at *;cases CK
  ·refine zR ?_;exact ⟨(),trivial,by simpa using hI7,hP7,hB7,hs7⟩
  ·refine zR ?_;refine m8 (a0j (tag:=32) (by show T2<65536;omega) zd _ hI7.nd) ?_
   rintro r w8 ⟨rfl,u8⟩;refine ⟨_,rfl,zR ?_⟩;exact ⟨(),trivial,hI7.upd u8,(Tn.upd u8).blk hP7 zo,(Tn.upd u8).blk hB7 zo,zw hs7 (Tn.upd u8).size⟩
 obtain ⟨hI8,hP8,hB8,hs8⟩:=hI8;have hd3:T2 ||| (if B'.chk h.turn then 32 else 0)<64:=a9i hd2 (by split<;>decide)
 generalize T2 ||| (if B'.chk h.turn then 32 else 0)=T3 at *
 refine zR ?_;refine kHt hP8 (zR ?_);refine g7 (a5X _ ht _) (zR ?_);refine c1N hP8 _ (fun w9 u9=>?_);have hI9:=hI8.far (Tn.upd u9) hP8 rfl zo zo zo zo;have hB9:=(Tn.upd u9).blk hB8 zo;have hP9:=u9.at_;refine zR ?_;refine o7 (hic { h with turn:=3-h.turn } w9 (by show 3-h.turn=1∨3-h.turn=2;omega) hI9.tab hP9 hB9) fun w10 c10=>?_
 have hI10:=hI9.cl c10;show _;have e16:B'.chk ({ h with turn:=3-h.turn }:Hd).turn=B'.chk (3-h.turn):=rfl;rw [e16];generalize B'.chk (3-h.turn)=CK at *;cases CK
 ·refine zR ?_;exact ⟨rfl,by simpa using hI10⟩
 ·refine zR ?_;refine m8 (a0j (tag:=16) (by show T3<65536;omega) zd _ hI10.nd) ?_
  rintro r w11 ⟨rfl,u11⟩;refine ⟨_,rfl,zR ?_⟩;exact ⟨rfl,hI10.upd u11⟩
end
section
open Ch Bb
theorem b18 {p:g9} (hI:B7 p) {m:Mv} (f0:0≤m.fr) (f1:m.fr≤63) (t0:0≤m.to) (t1:m.to≤63):capR (a1s p) p.ep m=capTag p m:=by
 obtain ⟨fr,to,pr⟩:=m;obtain ⟨f,rfl⟩:=ze f0;obtain ⟨t,rfl⟩:=ze t0;simp only at f1 t1;unfold capR capTag;simp only [zg];have e:=U9 hI.pc (show f<64 by omega)
 rw [c1A,a04 p (show t<64 by omega)]
 simp only [e];by_cases h:sq p t=0
 ·simp [h]
 ·simp [h]
theorem b19 {p:g9} (hI:B7 p) {m:Mv} (f0:0≤m.fr) (f1:m.fr≤63):c0B (a1s p) m=T6 p m:=by
 obtain ⟨fr,to,pr⟩:=m;obtain ⟨f,rfl⟩:=ze f0;simp only at f1;unfold c0B T6;simp only [zg];have e:=U9 hI.pc (show f<64 by omega)
 simp only [e]
theorem b1A {q:g9} (hq:∀ i:Int,0≤sq q i∧sq q i≤12) {c K:Int} (hc:c=0∨c=1) (hK:W4 q c K):(a1s q).chk (c+1)=C2 q (a2J q c) (1-c):=by
 have e:=hK.at;have h0:=hK.1;have h1:=hK.2.1;unfold MB.chk;have ek:(if c+1=2 then (a1s q).bk else (a1s q).wk)=K:=by
  rcases hc with rfl|rfl
  ·rw [zJ zd];exact e
  ·rw [zM zd];exact e
 simp only [ek];rw [zV zo,e];have:=a8Z hq hc (a:=K.toNat) zo;rw [this,zi h0];rfl
theorem b2U {p:g9} {m:Mv} (hq:∀ i:Int,0≤sq (made p m) i∧sq (made p m) i≤12) (ht:p.turn=0∨p.turn=1) {K:Int} (hK:W4 (made p m) p.turn K):(a1s (made p m)).chk (p.turn+1) = !K4 p m:=by
 rw [b1A hq ht hK];unfold K4;simp
theorem b08 {p:g9} {m:Mv} (hq:∀ i:Int,0≤sq (made p m) i∧sq (made p m) i≤12) (ht:p.turn=0∨p.turn=1) {K:Int} (hK:W4 (made p m) (1-p.turn) K):(a1s (made p m)).chk (3-(p.turn+1))=a1i (made p m):=by
 rw [show 3-(p.turn+1)=(1-p.turn)+1 by omega,b1A hq zo hK]
 unfold a1i checked;have e:(made p m).turn=1-p.turn:=rfl;rw [e,hK.at,zX hK.1];simp
theorem b9n {p:g9} (hI:B7 p):(a1s p).chk (p.turn+1)=a1i p:=by
 rw [b1A hI.pc hI.turn (hI.king _ hI.turn)];unfold a1i checked;rw [zX (hI.king _ hI.turn).1];simp
theorem a9j {p:g9} (hI:B7 p) {m:Mv} (h:H3 p m) {t:Nat} (h0:t.testBit 0=false) (h1:t.testBit 1=false) (h3:t.testBit 3=false):a30 (a1s p) (p.turn+1) p.ep m t=t ||| tg p m:=by
 have hc0:=(N1 hI h).1;have hcc:=Z7 p m;unfold a30;simp only [b18 hI h.f0 h.f1 h.t0 h.t1,b19 hI h.f0 h.f1];have hb:∀ k,((t ||| capTag p m) ||| T6 p m).testBit k=(t.testBit k||(capTag p m).testBit k):=fun k=>by rw [hc0,Nat.or_zero,yH]
 have hm:=a9e hI h (tags:=(t ||| capTag p m) ||| T6 p m) (by rw [hb,h3,xp];rcases hcc with e|e|e<;>rw [e]<;>decide) (by rw [hb,h0,xp];rcases hcc with e|e|e<;>rw [e]<;>decide) (by rw [hb,h1,xp];rcases hcc with e|e|e<;>rw [e]<;>decide)
 rw [hm,b2U (a3u hI h) hI.turn (a2l hI h),b08 (a3u hI h) hI.turn (a5r hI h)];unfold tg;simp only [Nat.or_assoc];cases K4 p m<;>rfl
theorem a74 {p:g9} (hI:B7 p) {m:Mv} {K w R:Int} (h:a11 p m K w R):a30 (a1s p) (p.turn+1) p.ep m (if w=1 then 1 else 2)=(if w=1 then 1 else 2) ||| tg p m:=by
 have hw:w=1∨w=-1:=by rcases h.way with e|e;exact .inl e.1;exact .inr e.1
 have hk:=h.k;have ht:=hI.turn;have hmv:=h.mv;have hto:=h.to;have f0:0≤m.fr:=by rw [hmv];simp only;omega
 have f1:m.fr≤63:=by rw [hmv];simp only;omega
 have t0:0≤m.to:=by rw [hmv];simp only;omega
 have t1:m.to≤63:=by rw [hmv];simp only;omega
 have hcap:capTag p m=0:=by
  have hto':sq p m.to=0:=by rw [hmv];exact hto
  have hk6:a0B (sq p m.fr)≠6:=by rw [hmv];simp only [h.king,S9 hI];decide
  unfold capTag;rw [zJ (fun e=>e hto'),zJ (fun e=>hk6 e.2)]
 have hcas:T6 p m=if w=1 then 1 else 2:=by
  unfold T6;rw [hmv];simp only [h.king];rcases ht with e|e<;>rcases hw with e2|e2<;>rw [e] at hk ⊢ <;> subst e2<;>rw [hk]<;>decide
 unfold a30;simp only [b18 hI f0 f1 t0 t1,b19 hI f0 f1,hcap,hcas,Nat.or_zero,Nat.or_self];have hm:=a71 hI h (tags:=if w=1 then 1 else 2) (by rcases hw with e|e<;>subst e<;>decide) (by rcases hw with e|e<;>subst e<;>decide) (by rcases hw with e|e<;>subst e<;>decide)
 obtain ⟨hko,hkf⟩:=a0x hI h;rw [hm,b2U (a1O hI h) hI.turn hko,b08 (a1O hI h) hI.turn (a3s hI h)];unfold tg;rw [hcap,hcas,Nat.zero_or,← Nat.or_assoc,← Nat.or_assoc,Nat.or_self];cases K4 p m<;>rfl
def a6W (p:g9) (k:Int) (fr to:Nat):List PM:=((List.range 64).drop to).flatMap fun to=>if (goB p k fr).testBit (63-to) then a2V p fr to else []
def a3C (p:g9) (k:Int) (fr:Nat):List PM:=((List.range 64).drop fr).flatMap (Z6 p k)
def a5z (p:g9) (i:Nat):List PM:=((List.range 12).drop i).flatMap fun (i:Nat)=>if (i:Int)/6=p.turn then a3C p ((i:Int)+1-6*p.turn) 0 else []
theorem a50 {n i:Nat} (h:i<n):(List.range n).drop i=i::(List.range n).drop (i+1):=by
 rw [xc (by simpa using h)];simp
theorem b7m {p:g9} {k:Int} {fr to:Nat} (h:to<64):a6W p k fr to=(if (goB p k fr).testBit (63-to) then a2V p fr to else [])++a6W p k fr (to+1):=by
 unfold a6W;rw [a50 h,xj]
theorem b7n {p:g9} {k:Int} {fr:Nat} (h:fr<64):a3C p k fr=Z6 p k fr++a3C p k (fr+1):=by
 unfold a3C;rw [a50 h,xj]
theorem b09 {p:g9} {i:Nat} (h:i<12):a5z p i=(if (i:Int)/6=p.turn then a3C p ((i:Int)+1-6*p.turn) 0 else [])++a5z p (i+1):=by
 unfold a5z;rw [a50 h,xj]
theorem b9o {p:g9} {k:Int} {fr:Nat}:a6W p k fr 64=[]:=by unfold a6W;rw [List.drop_of_length_le (by simp)];rfl
theorem b9p {p:g9} {k:Int}:a3C p k 64=[]:=by unfold a3C;rw [List.drop_of_length_le (by simp)];rfl
theorem b9q {p:g9}:a5z p 12=[]:=by unfold a5z;rw [List.drop_of_length_le (by simp)];rfl
theorem b2V {p:g9} {k:Int} {fr:Nat} (h:sq p fr=k+6*p.turn):Z6 p k fr=a6W p k fr 0:=by
 unfold Z6 a6W;rw [zM h];rfl
theorem a9k {p:g9} {k:Int} {fr:Nat} (h:sq p fr≠k+6*p.turn):Z6 p k fr=[]:=by unfold Z6;rw [zJ h]
theorem b9r {α:Type} (F:Int→List α) {t:Int} (ht:t=0∨t=1):(([0,1,2,3,4,5,6,7,8,9,10,11]:List Nat).flatMap fun (i:Nat)=>if (i:Int)/6=t then F ((i:Int)+1-6*t) else [])=([1,2,3,4,5,6]:List Int).flatMap F:=by
 rcases ht with h|h<;>subst h<;>simp
theorem b9s {p:g9} (ht:p.turn=0∨p.turn=1):a5z p 0=A5 p:=by
 have e:A5 p=([1,2,3,4,5,6]:List Int).flatMap fun k=>a3C p k 0:=by
  unfold A5 a3C;simp only [List.drop_zero]
 rw [e,← b9r _ ht];unfold a5z;rw [List.drop_zero,show List.range 12=[0,1,2,3,4,5,6,7,8,9,10,11] from rfl]
theorem b7o {p:g9} {k:Int} (h:pcs p (k+6*p.turn)=0):a3C p k 0=[]:=by
 have h0:=(a8c _).1 h;unfold a3C;rw [List.drop_zero,List.flatMap_eq_nil_iff];intro fr hfr;have:=h0 fr (yr.1 hfr);exact a9k (by simpa using this)
theorem b7p {p:g9} {k:Int} {fr:Nat} (h:goB p k fr=0):a6W p k fr 0=[]:=by
 unfold a6W;rw [List.drop_zero,List.flatMap_eq_nil_iff];intro to _;rw [h];simp
theorem a77 {p:g9} (hI:B7 p) {k:Int} (k1:1≤k) (k6:k≤6) {fr to:Nat} (hf:fr<64) (ht:to<64) (hs:sq p fr=k+6*p.turn) (hb:(goB p k fr).testBit (63-to)=true) {pr:Int}
  (hpr:(pr=0∧¬ (k=6∧l8 to=7-7*p.turn))∨(2≤pr∧pr≤5∧k=6∧l8 to=7-7*p.turn)):H3 p ⟨fr,to,pr⟩:=by
 have hg:=(b5K hI.pc hI.turn hI.pass hf ht k1 k6 hs).1 hb;have hkk:a0B (sq p fr)=k:=by rw [hs];exact Q8 k1 k6 hI.turn
 have hso:A2 (sq p fr)=p.turn:=by rw [hs];exact S8 k1 k6 hI.turn
 have hne:(fr:Int)≠to:=by
  intro e;rw [← e] at hg;exact hg.2 ⟨by rw [hs];have:=hI.turn;omega,hso⟩
 refine ⟨by simp only;omega,by simp only;omega,by simp only;omega,by simp only;omega,hne,by simp only;rw [hs];have:=hI.turn;omega,hso,hg.1,?_,?_⟩
 ·simp only
  by_cases e:sq p to=0
  ·exact .inl e
  ·exact .inr fun e2=>hg.2 ⟨e,e2⟩
 ·simp only [hkk];exact hpr
end
section
open Go Go.RowKit
open E
section
variable {dst:Option Nat} {ty:Nat} {pos:String} {af:Array Edge} {gd:Option (Nat×Bool)} {env:C9} {w:World} {K:Value→World→Prop}
theorem b2W {t n el z b:Nat} {x hi:Operand} {k:IntKind} (h:Nat) (ht:X0 G.T t=some (.array n el z)) (hx:ev env x = .pointer (some ⟨b,0,none⟩)) (hh:ev env hi = .int k h) (hn:h≤n)
  (hk:K (.slice (some ⟨b,0,none⟩) h n) w):L6 G.P { dst,op:=.slice t x none (some hi) none,type:=ty,pos,after:=af,guard:=gd } env w K:=by
 obtain ⟨h1,h2,h3⟩:=a4o (G.tab _ _ ht);refine ⟨.inl ⟨_,w,?_,hk⟩⟩;show (do pure (Next.value (← Instr.sliceAt t (ev env x) none (some (ev env hi)) none)):Sem Next).run G.P w=_
 rw [hx,hh];have e1:(Instr.sliceBound (.int k (h:Int)) n .sliceAlen).run G.P w = .ok h w:=by simpa using run_sliceBound (P:=G.P) (w:=w) k (h:Int) n .sliceAlen zo zo
 have e2:=E.X9 (w:=w) h2;simp [Instr.sliceAt,run_underlying h1,Instr.sliceBounds,e1,e2,Instr.sureAddr,H6]
theorem b2X {t n el z b:Nat} {x:Operand} (ht:X0 G.T t=some (.array n el z)) (hx:ev env x = .pointer (some ⟨b,0,none⟩))
  (hk:K (.slice (some ⟨b,0,none⟩) n n) w):L6 G.P { dst,op:=.slice t x none none none,type:=ty,pos,after:=af,guard:=gd } env w K:=by
 obtain ⟨h1,h2,h3⟩:=a4o (G.tab _ _ ht);refine ⟨.inl ⟨_,w,?_,hk⟩⟩;show (do pure (Next.value (← Instr.sliceAt t (ev env x) none none none)):Sem Next).run G.P w=_
 rw [hx];have e2:=E.X9 (w:=w) h2;simp [Instr.sliceAt,run_underlying h1,Instr.sliceBounds,e2,Instr.sureAddr,H6]
theorem b9t {t e z by_:Nat} (E1:H0 t e z by_) {l c:Operand} {k k':IntKind} (n:Nat) (hl:ev env l = .int k n) (hc:ev env c = .int k' n) (hn:n≤100000) (hb:by_≤1000)
  (hk:∀ cs:Array Value,cs.size=n*z→K (.slice (some ⟨w.heap.size,0,none⟩) n n) (w.alloc (.cells cs e))):L6 G.P { dst,op:=.makeSlice t l c,type:=ty,pos,after:=af,guard:=gd } env w K:=by
 obtain ⟨i,zv,hi,hzv,hsz,hby,hzs⟩:=E1.info;have hle:n*by_≤100000*1000:=Nat.mul_le_mul hn hb;have hbb:(i.bytes:Int)*(n:Int)≤281474976710656:=by
  rw [hby];have e:(by_:Int)*(n:Int)=((n*by_:Nat):Int):=by push_cast;exact Int.mul_comm _ _
  rw [e];omega
 have:=run_make (P:=G.P) w t e i zv E1.ty hi hzv k k' n n zo zo hbb zo;simp only [zg] at this;refine ⟨.inl ⟨_,_,?_,hk (madeCells zv.cells (n*i.size)) (by rw [size_madeCells,hsz])⟩⟩
 show (do pure (Next.value (← Instr.makeSlice t (ev env l) (ev env c))):Sem Next).run G.P w=_
 rw [hl,hc,yq,this];rfl
theorem b9u {t e z by_:Nat} (E1:H0 t e z by_) {d s:Operand} {g a n dc sc:Nat} {cur:Array Value} {u:Nat} {cs:List Value} (hd:ev env d = .slice (some ⟨g,0,none⟩) n dc) (hs:ev env s = .slice (some ⟨a,0,none⟩) n sc)
  (hg:w.heap[g]?=some (.cells cur u (0,0))) (hl:cs.length=n*z) (hcur:cur.size=n*z) (hsrc:∀ j v,cs[j]?=some v→w.cell? ⟨a,j,none⟩=some v) (h1:∀ v∈cs,v.oneCell'=true)
  (hk:∀ w',Upd w g (.cells cs.toArray u (0,0)) w'→K (.int .i64 n) w'):L6 G.P { dst,op:=.call { callee:=.builtin .copy,args:=#[d,s],argTypes:=#[t,t] },type:=ty,pos,after:=af,guard:=gd } env w K:=by
 obtain ⟨i,zv,hi,hzv,hsz,hby,hzs⟩:=E1.info;refine ⟨.inl ⟨_,_,?_,hk (w.setCells g 0 cs) ?_⟩⟩
 ·have e1:=run_loadCells_list (P:=G.P) w ⟨a,0,none⟩ cs (fun j v hv=>by rw [H6,yZ];exact hsrc j v hv)
  have e2:=run_storeCells_cells (P:=G.P) g 0 cs 0 w (fun j hj=>by simp only [yZ];rw [D2 hg,we zo];rfl) (fun j hj=>by simp [World.frozen?,hg]) h1
  have e3:(Builtin.copy_ #[t,t] ty #[.slice (some ⟨g,0,none⟩) n dc,.slice (some ⟨a,0,none⟩) n sc]).run G.P w = .ok (goInt n) (w.setCells g 0 cs):=by
   rw [hl] at e1;simp [Builtin.copy_,run_underlying E1.ty,Builtin.lenOf,Builtin.firstCells,sizeOf,typeInfo,hi,hsz,e1,e2]
  simp only [execOp,resolve,invoke,builtin,yq,xi,yx,xW,yU,xn,hd,hs,e3];rfl
 ·have:=a6D cs w g 0 cur u (0,0) hg;rw [B5 _ _ zo] at this;exact this
end
def D0 (p:g9) (c:Bool):Hd:=⟨Ch.a4V p.castle,p.half,p.full,p.turn+1,p.ep,c⟩
theorem a0O:(G.P.info? 141).map (·.size)=some 11:=by kernel_rfl
theorem c6S:(G.P.info? 139).map (·.size)=some 1:=by kernel_rfl
theorem b2Y:H0 132 141 11 96:=U5 zk
theorem a3Z:(G.P.info? 141).bind (·.zero)=some (.agg (F7 (C3 ⟨⟨0,0,0⟩,0⟩))):=by kernel_rfl
theorem c6T:∃ z,(G.P.info? 289).bind (·.zero)=some z∧z.cells.size=2398:=a0m zk
theorem z1:∃ z,(G.P.info? 293).bind (·.zero)=some z∧z.cells.size=11:=a0m zk
theorem J2 (x:PM):(D8 x).length=11:=rfl
theorem F9 (x:PM):∀ v∈D8 x,v.oneCell'=true:=by
 intro v hv;simp only [D8,ndL,yV,zy,xH] at hv;rcases hv with rfl|rfl|rfl|rfl|rfl|rfl|rfl|rfl|rfl|rfl|rfl<;>rfl
theorem a31 (l:List PM):(l.flatMap D8).length=l.length*11:=H8 J2 l
section st
variable {w:World} {x:PM} {M u:Nat} {K:World→Prop} (hM:w.heap[M]?=some (.cells (F7 (C3 x)) u (0,0)))
include hM
theorem c5C (v:Int) (h:∀ w',Upd w M (.cells (F7 (C3 ⟨⟨v,x.mv.to,x.mv.promo⟩,x.tags⟩)) u (0,0)) w'→K w'):a0D G.P w 138 ⟨M,8,none⟩ (.int .i8 v) K :=
 K2 hM [.int .i8 v] rfl c1K rfl (a0o _ _) (zU rfl) (fun w2 u2=>h w2 u2)
theorem c5D (v:Int) (h:∀ w',Upd w M (.cells (F7 (C3 ⟨⟨x.mv.fr,v,x.mv.promo⟩,x.tags⟩)) u (0,0)) w'→K w'):a0D G.P w 138 ⟨M,9,none⟩ (.int .i8 v) K :=
 K2 hM [.int .i8 v] rfl c1K rfl (a0o _ _) (zU rfl) (fun w2 u2=>h w2 u2)
theorem a9l (v:Int) (h:∀ w',Upd w M (.cells (F7 (C3 ⟨⟨x.mv.fr,x.mv.to,v⟩,x.tags⟩)) u (0,0)) w'→K w'):a0D G.P w 139 ⟨M,10,none⟩ (.int .i8 v) K :=
 K2 hM [.int .i8 v] rfl c6S rfl (a0o _ _) (zU rfl) (fun w2 u2=>h w2 u2)
theorem c1O (v:Nat) (h:∀ w',Upd w M (.cells (F7 (C3 ⟨x.mv,v⟩)) u (0,0)) w'→K w'):a0D G.P w 136 ⟨M,7,none⟩ (.int .u16 v) K :=
 K2 hM [.int .u16 v] rfl c3q rfl (a0o _ _) (zU rfl) (fun w2 u2=>h w2 u2)
theorem b7q:m9 G.P w 141 ⟨M,0,none⟩ (.agg (F7 (C3 x))):=by
 have:=ldA (t:=141) (o:=0) (z:=11) hM rfl (by simp [F7,ndL])
 exact this
end st
structure SmI (w0:World) (P b M A:Nat) (h:Hd) (cv:Value) (B:MB) (Z:Array Value) (x:PM) (l:List PM) (w:World):Prop where
 hd:w.heap[P]?=some (.cells (hdA b h cv) 173 (0,0))
 bd:w.heap[b]?=some (.cells (J4 B) 237 (0,0))
 nd:w.heap[M]?=some (.cells (F7 (C3 x)) 141 (0,0))
 arr:w.heap[A]?=some (.cells (J3 Z 0 (l.flatMap D8)) 289 (0,0))
 cl:Cl w0 w
 tab0:C6 w0
 hP:P<w0.heap.size
 hb:b<w0.heap.size
 hM:w0.heap.size≤M
 hA:w0.heap.size≤A
 ne:M≠A
section smi
variable {w0 w w':World} {P b M A:Nat} {h:Hd} {cv:Value} {B:MB} {Z:Array Value} {x x':PM} {l l':List PM}
theorem SmI.tab (hI:SmI w0 P b M A h cv B Z x l w):C6 w:=hI.tab0.cl hI.cl
theorem SmI.step (hI:SmI w0 P b M A h cv B Z x l w) (c:Cl w w'):SmI w0 P b M A h cv B Z x l w' :=
 ⟨c.blk hI.hd,c.blk hI.bd,c.blk hI.nd,c.blk hI.arr,hI.cl.trans c,hI.tab0,hI.hP,hI.hb,hI.hM,hI.hA,hI.ne⟩
theorem SmI.turn (hI:SmI w0 P b M A h cv B Z x l w) (n:Tn M w w') (hn:w'.heap[M]?=some (.cells (F7 (C3 x')) 141 (0,0))):SmI w0 P b M A h cv B Z x' l w' :=
 have h1:=hI.hP;have h2:=hI.hb;have h3:=hI.hM;have h4:=hI.hA
 ⟨n.blk hI.hd zo,n.blk hI.bd zo,hn,n.blk hI.arr (fun e=>hI.ne e.symm),n.toCl hI.cl h3,hI.tab0,h1,h2,h3,h4,hI.ne⟩
theorem SmI.upd (hI:SmI w0 P b M A h cv B Z x l w) (u:Upd w M (.cells (F7 (C3 x')) 141 (0,0)) w'):SmI w0 P b M A h cv B Z x' l w':=hI.turn (Tn.upd u) u.at_
theorem SmI.at (hI:SmI w0 P b M A h cv B Z x l w):AtI w P b M h cv B (C3 x) w :=
 have h1:=hI.hP;have h2:=hI.hb;have h3:=hI.hM
 ⟨hI.hd,hI.bd,hI.nd,Tn.refl _ _,hI.tab,zo,zo⟩
theorem SmI.back (hI:SmI w0 P b M A h cv B Z x l w) (h2:AtI w P b M h cv B (C3 x') w'):SmI w0 P b M A h cv B Z x' l w':=hI.turn h2.tn h2.nd
theorem SmI.push (hI:SmI w0 P b M A h cv B Z x l w) (u:Upd w A (.cells (J3 (J3 Z 0 (l.flatMap D8)) (l.length*11) (D8 x)) 289 (0,0)) w'):SmI w0 P b M A h cv B Z x (l++[x]) w':=by
 have h1:=hI.hP;have h2:=hI.hb;have h3:=hI.hM;have h4:=hI.hA;have n:=Tn.upd u;have hz:J3 Z 0 ((l++[x]).flatMap D8)=J3 (J3 Z 0 (l.flatMap D8)) (l.length*11) (D8 x):=by
  rw [wU,a6d,a31,yZ];simp
 exact ⟨n.blk hI.hd zo,n.blk hI.bd zo,n.blk hI.nd hI.ne,by rw [hz];exact u.at_,n.toCl hI.cl h4,hI.tab0,h1,h2,h3,h4,hI.ne⟩
end smi
end
section
open Go Go.RowKit
open E
open Ch Bb
theorem c4j {i:Nat} (h:i<12):a73 ((i:Int)+1)=(i:Int)/6+1:=by
 unfold a73 Ch.A2;rw [zJ zo];split<;>omega
theorem c6U {p:g9} {i:Nat} (h:i<12):(a1s p).of ((i:Int)+1)=pcs p ((i:Int)+1):=by
 unfold MB.of;rw [zJ zo,show ((i:Int)+1).toNat-1=i by omega,a0M p i h];rfl
theorem c3r (p:g9) (m:Mv):tg p m<64:=by
 unfold tg;refine a9i (a9i (a9i ?_ ?_) ?_) ?_
 ·unfold capTag;(repeat' split)<;>decide
 ·unfold T6;(repeat' split)<;>decide
 ·split<;>decide
 ·split<;>decide
theorem c1P {p:g9} (hI:B7 p) {fr to:Nat} {k:Int} (h:H3 p ⟨fr,to,k⟩) (hr:l8 to=7-7*p.turn) :
  (tg p ⟨fr,to,k⟩).testBit 0=false∧(tg p ⟨fr,to,k⟩).testBit 1=false∧(tg p ⟨fr,to,k⟩).testBit 3=false:=by
 have hc:=(N1 hI h).1;have hep:(to:Int)≠p.ep:=by
  intro e;obtain ⟨_,_,h3⟩:=N7 hI.pass;have h4:=(h3 zo).1;rw [← e] at h4;have:=hI.turn;omega
 have hcap:capTag p ⟨fr,to,k⟩=if sq p to≠0 then 4 else 0:=by
  unfold capTag;by_cases e:sq p to=0
  ·rw [zJ (fun e2=>e2 e),zJ (fun e2=>hep e2.1),zJ (fun e2=>e2 e)]
  ·rw [zM e,zM e]
 unfold tg;rw [hc,hcap];simp only [yH];split<;>cases K4 p ⟨fr,to,k⟩<;>cases a1i (made p ⟨fr,to,k⟩)<;>decide
theorem a9m {p:g9} (hI:B7 p) {m:Mv} (h:H3 p m) {t:Nat} (h64:t<64) (h0:t.testBit 0=false) (h1:t.testBit 1=false) (h3:t.testBit 3=false)
  {w0 w:World} {P b M A:Nat} {c:Bool} {cv:Value} {Z:Array Value} {l:List PM} (hS:SmI w0 P b M A (D0 p c) cv (a1s p) Z ⟨m,t⟩ l w) :
  Calls G.P 253 #[.pointer (some ⟨M,0,none⟩),.pointer (some ⟨P,0,none⟩)] w (fun r w'=>r = .returned (.tuple #[])∧SmI w0 P b M A (D0 p c) cv (a1s p) Z ⟨m,t ||| tg p m⟩ l w'):=by
 have k0:=hI.king 0 (.inl rfl);have k1:=hI.king 1 (.inr rfl);have e0:(a1s p).wk=a2J p 0:=rfl;have e1:(a1s p).bk=a2J p 1:=rfl;have ht:=hI.turn;have hf:=h.f0;have hf1:=h.f1;have hat:(a1s p).at m.fr.toNat=sq p m.fr:=by
  rw [U9 hI.pc zo,zi hf]
 refine (a3a (d:=C3 ⟨m,t⟩) (h:=D0 p c) (by show p.turn+1=1∨p.turn+1=2;omega) (by rw [e0];have:=k0.1;omega) (by rw [e0];exact k0.2.1) (by rw [e1];have:=k1.1;omega) (by rw [e1];exact k1.2.1) hf hf1 h.t0 h.t1 h64 ?_ w hS.at).mono ?_
 ·show m.promo=0∨(1≤m.promo∧m.promo≤6∧(a1s p).at m.fr.toNat≠0);rw [hat];rcases h.promo with e|e
  ·exact .inl e.1
  ·exact .inr ⟨zo,zo,h.there⟩
 ·rintro r w' ⟨hr,h2⟩;refine ⟨hr,hS.back ?_⟩;have:=a9j hI h h0 h1 h3;rw [← this];exact h2
theorem b7r (l:List Value) (cs:Array Value) (h:l.length≤cs.size):(J3 cs 0 l).extract 0 l.length=l.toArray:=by
 apply wH;intro k;rw [Array.getElem?_extract];rw [F8,O4 l cs 0 _ zo];by_cases hk:k<l.length
 ·rw [zM zo,zM zo];simp
 ·rw [zJ zo,xx (by simpa using hk)]
theorem b9v {w0 w:World} {P b M A o:Nat} {h:Hd} {cv:Value} {B:MB} {Z:Array Value} {x:PM} {l:List PM} {K:World→Prop} (hS:SmI w0 P b M A h cv B Z x l w) (hz:Z.size=2398) (hl:l.length<218) (ho:o=l.length*11)
  (hk:∀ w',SmI w0 P b M A h cv B Z x (l++[x]) w'→K w'):a0D G.P w 141 ⟨A,o,none⟩ (.agg (F7 (C3 x))) K:=by
 subst ho;exact K2 hS.arr (D8 x) rfl a0O rfl (F9 x) (by rw [F8,hz];omega) fun w' u=>hk w' (hS.push u)
theorem b6m {w0 w:World} {P b M A:Nat} {h:Hd} {cv:Value} {B:MB} {Z:Array Value} {x y:PM} (hS:SmI w0 P b M A h cv B Z x [y] w) (hz:Z.size=2398):m9 G.P w 141 ⟨A,0,none⟩ (.agg (F7 (C3 y))):=by
 have h1:=ldA (t:=141) (o:=0) (z:=11) hS.arr rfl (by rw [F8,hz];decide)
 have e:(J3 Z 0 ([y].flatMap D8)).extract 0 11=F7 (C3 y):=by
  have:=b7r (D8 y) Z (by rw [hz];show 11≤2398;decide)
  rw [show [y].flatMap D8=D8 y by simp,← show (D8 y).length=11 from rfl,this];rfl
 rw [← e];exact h1
theorem Row.blk {α:Type} {enc:α→List Value} {e z b0 g:Nat} {w:World} {l:List α} (henc:∀ x,(enc x).length=z) (hm:l.length≤100000) (hb:b0≤g) (h:w.heap[g]?=some (.cells (l.flatMap enc).toArray e (0,0))) :
  Row e z enc b0 w (.slice (some ⟨g,0,none⟩) l.length l.length) l:=by
 refine ⟨H8 henc l,.inr ⟨g,l.length,_,rfl,hb,h,yO _,by unfold maxLen;omega,by simp [H8 henc],?_⟩⟩
 simp only [List.toList_toArray];rw [wW (by rw [H8 henc];exact yO _)]
theorem c1Q {p:g9} {fr to:Int} {i t:Nat} (h:i<4):T7 p fr to (([2,3,4,5]:List Int).drop i) t =
  (if (t ||| tg p ⟨fr,to,(i:Int)+2⟩).testBit 5 then [] else [⟨⟨fr,to,(i:Int)+2⟩,t ||| tg p ⟨fr,to,(i:Int)+2⟩⟩])++T7 p fr to (([2,3,4,5]:List Int).drop (i+1)) (t ||| tg p ⟨fr,to,(i:Int)+2⟩):=by
 rcases (by omega:i=0∨i=1∨i=2∨i=3) with rfl|rfl|rfl|rfl<;>rfl
theorem a32 {a s:Nat}:a &&& E9 s=0↔a.testBit (63-s)=false:=by
 rw [Nat.and_comm];show 2^(63-s) &&& a=0↔_;rw [b6j];have:=Nat.two_pow_pos (63-s);cases a.testBit (63-s)<;>simp
theorem a1o (n k:Nat):U0 0 n k=n*k:=by rw [s8,yZ]
theorem nz {a:Nat} (h:¬ ((a:Nat):Int)=0):a≠0:=by omega
set_option maxHeartbeats 2000000 in
theorem b4D {p:g9} (hI:B7 p) (first:Bool) (hle:first=false→(A5 p).length≤218) {P b:Nat} {c:Bool} {cv:Value} (w:World) (hT:C6 w)
  (hP:w.heap[P]?=some (.cells (hdA b (D0 p c) cv) 173 (0,0))) (hB:w.heap[b]?=some (.cells (J4 (a1s p)) 237 (0,0))) :
  Calls G.P 199 #[.pointer (some ⟨P,0,none⟩),.bool first] w (fun r w'=>Cl w w'∧∃ v,r = .returned v∧if first=true then (A5 p=[]∧Row 141 11 D8 w.heap.size w' v [])∨(A5 p≠[]∧∃ g y u,v = .slice (some ⟨g,0,none⟩) 1 1∧w'.heap[g]?=some (.cells (F7 (C3 y)) u (0,0))) else Row 141 11 D8 w.heap.size w' v (A5 p)):=by
 have hPs:P<w.heap.size:=(yn.1 hP).1;have hbs:b<w.heap.size:=(yn.1 hB).1;have ht:=hI.turn;have tc:∀ w':World,w'.heap[P]?=some (.cells (hdA b (D0 p c) cv) 173 (0,0))→Calls G.P 121 #[.pointer (some ⟨P,0,none⟩)] w' (E8 (.int .i8 (p.turn+1)) w'):=fun w' h=>a5v w' h;obtain ⟨g,og,cp,ha1,ha2⟩:=hT.all;obtain ⟨g2,og2,cp2,hp1,hp2⟩:=hT.promo;obtain ⟨z,hz,hzs⟩:=c6T;refine zN func199 ?_;refine zR ?_;refine s7 z hz (zR ?_);refine s7 _ a3Z (zR ?_);have hS:SmI w P b (w.heap.size+1) w.heap.size (D0 p c) cv (a1s p) z.cells ⟨⟨0,0,0⟩,0⟩ [] ((w.alloc (.cells z.cells 289)).alloc (.cells (Value.agg (F7 (C3 ⟨⟨0,0,0⟩,0⟩))).cells 141)):=by
  have c1:=Cl.alloc w (.cells z.cells 289);have n1:=d8 w (.cells z.cells 289);have s1:=C0 w (.cells z.cells 289);generalize w.alloc (.cells z.cells 289)=w1 at *;have c2:=Cl.alloc w1 (.cells (Value.agg (F7 (C3 ⟨⟨0,0,0⟩,0⟩))).cells 141);have n2:=d8 w1 (.cells (Value.agg (F7 (C3 ⟨⟨0,0,0⟩,0⟩))).cells 141);rw [s1] at n2;exact ⟨c2.blk (c1.blk hP),c2.blk (c1.blk hB),n2,c2.blk n1,c1.trans c2,hT,hPs,hbs,zo,zo,zo⟩
 have eA:(w.alloc (.cells z.cells 289)).heap.size=w.heap.size+1:=C0 _ _;simp only [eA];generalize (w.alloc (.cells z.cells 289)).alloc (.cells (Value.agg (F7 (C3 ⟨⟨0,0,0⟩,0⟩))).cells 141)=w1 at *;clear eA;have hP:=hS.hd;have hB:=hS.bd;refine zH ?_;refine B0 (σ:=Unit) [8] 28 (fun _=>[(8,.int .u64 (Bb.not (side p p.turn):Nat))]) (fun _ w'=>w'=w1) zk ?_ (fun _ j w2 e2=>?_)
 ·refine zR ?_;refine g7 (tc _ hP) (zR ?_);rcases ht with ht|ht
  ·rw [ht];refine zR ?_;exact ⟨(),⟨rfl,trivial⟩,rfl⟩
  ·rw [ht];refine zB ?_;exact ⟨(),⟨rfl,trivial⟩,rfl⟩
 subst e2;have hTw:=hS.tab;have lSd:J6 (side p p.turn):=⟨S7 _⟩;have lS:J6 (Bb.not (side p p.turn)):=inferInstance;refine zR ?_;refine b7 _ (L9 (ha1.cl hS.cl) (i:=0) zd rfl rfl) (zR ?_);refine C1 (σ:=Nat×List PM×PM) [4,6,10,11,12,13,14,16,17,18,41] 42 (fun s=>[(6,.int .i64 s.2.1.length),(41,.int .i64 s.1)]) (fun s w'=>s.1≤12∧s.2.1++a5z p s.1=A5 p∧(first=true→s.2.1=[])∧SmI w P b (w.heap.size+1) w.heap.size (D0 p c) cv (a1s p) z.cells s.2.2 s.2.1 w') (fun s=>12-s.1) zk (0,[],⟨⟨0,0,0⟩,0⟩) ⟨zd,by rw [yP];exact b9s hI.turn,fun _=>rfl,hS⟩ ⟨rfl,rfl,trivial⟩ ?_
 rintro ⟨i,l,x⟩ j1 w2 ⟨hi,hrem,hfst,hS2⟩;simp only at hi hrem hfst hS2 ⊢;clear hTw hS hP hB;refine zR ?_;apply E.d7<;>intro h
 ·have hi2:i<12:=by omega
  have ni:=C4 (i:=i) zo;clear h;have hcol:=c4j hi2;have hcc:=a5Y ((i:Int)+1) zo zo w2;rw [hcol] at hcc;refine zR ?_;refine zC ?_;refine zR ?_;refine b7 _ (a6R (ha2.cl hS2.cl) (i:=i) hi2 rfl rfl) (zR ?_);refine g7 (tc _ hS2.hd) (zR ?_);refine g7 hcc (zR ?_);apply E.y8<;>intro h
  ·refine zR ?_;exact ⟨(i+1,l,x),⟨rfl,d9 ni,trivial⟩,⟨by show i+1≤12;omega,by rw [← hrem,b09 hi2,zJ zo];rfl,hfst,hS2⟩,by show 12-(i+1)<12-i;omega⟩
  have htt:(i:Int)/6=p.turn:=by omega
  clear h;rw [b09 hi2,zM htt] at hrem;obtain ⟨k,hk⟩:∃ k:Int,(i:Int)+1=k+6*p.turn:=⟨(i:Int)+1-6*p.turn,zo⟩;rw [show (i:Int)+1-6*p.turn=k by omega] at hrem
  have k1:1≤k:=by omega
  have k6:k≤6:=by omega
  have hkind:a0B ((i:Int)+1)=k:=by rw [hk];exact Q8 k1 k6 ht
  have hty:=fun w=>a1f ((i:Int)+1) zo zo w;have hbp:=fun w' hb=>R0 (a1s p) b (t:=237) (fz:=(0,0)) ((i:Int)+1) zo zo w' hb;rw [c6U hi2] at hbp;simp only [hkind] at hty;have hone:a3C p k 0=[]→l++a5z p (i+1)=A5 p:=fun e=>by rw [← hrem,e];rfl
  have hP:=hS2.hd;refine zB ?_;refine g7 (hbp _ hS2.bd) (zR ?_);apply E.d7<;>intro h
  ·refine zR ?_;have h':pcs p ((i:Int)+1)=0:=n0 h;rw [hk] at h';exact ⟨(i+1,l,x),⟨rfl,d9 ni,trivial⟩,⟨by show i+1≤12;omega,hone (b7o h'),hfst,hS2⟩,by show 12-(i+1)<12-i;omega⟩
  have lP:J6 (pcs p ((i:Int)+1)):=⟨S7 _⟩;clear h;refine zR ?_;refine C1 (σ:=Nat×List PM×PM) [4,6,12,13,14,16,17,18,58] 59 (fun s=>[(6,.int .i64 s.2.1.length),(58,.int .i64 s.1)]) (fun s w'=>s.1≤64∧s.2.1++(a3C p k s.1++a5z p (i+1))=A5 p∧(first=true→s.2.1=[])∧SmI w P b (w.heap.size+1) w.heap.size (D0 p c) cv (a1s p) z.cells s.2.2 s.2.1 w') (fun s=>64-s.1) zk (0,l,x) ⟨xJ _,hrem,hfst,hS2⟩ ⟨rfl,rfl,trivial⟩ ?_
  clear hrem hfst hS2 hone hP;rintro ⟨fr,l2,x2⟩ j2 w3 ⟨hf,hrem,hfst,hS3⟩;simp only at hf hrem hfst hS3 ⊢;refine zR ?_;apply E.d7<;>intro h
  ·have hf2:fr<64:=by omega
   have nf:=C4 (i:=fr) zo;clear h;have e8:IntKind.i8.wrap (fr:Int)=fr:=a0d zo zo;rw [b7n hf2] at hrem;have hskip:Z6 p k fr=[]→l2++(a3C p k (fr+1)++a5z p (i+1))=A5 p:=fun e=>by rw [← hrem,e];rfl
   have hbs:=fun w=>y7 fr hf2 w;refine zR ?_;rw [e8];refine g7 (hbs _) (zB ?_);apply E.d7<;>intro h
   ·refine zR ?_;have h':=a32.1 (n0 h);have hne:sq p fr≠k+6*p.turn:=by
     intro e;rw [a4v _ _ hf2,zZ] at h';exact h' (by rw [hk];exact e)
    exact ⟨(fr+1,l2,x2),⟨rfl,d9 nf,trivial⟩,⟨by show fr+1≤64;omega,hskip (a9k hne),hfst,hS3⟩,by show 64-(fr+1)<64-fr;omega⟩
   have hsq:sq p fr=k+6*p.turn:=by
    have h':¬ _:=fun e=>nz h (a32.2 e);rw [a4v _ _ hf2,Bool.not_eq_false,zW] at h';rw [h',hk]
   clear h hbs;rw [b2V hsq] at hrem hskip;refine zR ?_;refine g7 (hty _) (zR ?_);rw [e8];refine o7 (b45 (h:=D0 p c) fr hf2 k k1 k6 (by show p.turn+1=1∨p.turn+1=2;omega) (N7 hI.pass).1 (N7 hI.pass).2.1 _ hS3.tab hS3.hd hS3.bd) fun w4 c4=>?_
   have hS4:=hS3.step c4;have eP:(a1s p).poss (D0 p c).turn (epN (D0 p c).ep) k fr=a7u p k fr:=c1C p ht k fr;have lQ:J6 (a7u p k fr):=⟨b8G _ _ _⟩;rw [eP];clear hS3;have eG:a7u p k fr &&& Bb.not (side p p.turn)=goB p k fr:=rfl;have lG:J6 (goB p k fr):=by rw [← eG];infer_instance
   refine zB ?_;rw [eG];apply E.d7<;>intro h
   ·refine zR ?_;exact ⟨(fr+1,l2,x2),⟨rfl,d9 nf,trivial⟩,⟨by show fr+1≤64;omega,hskip (b7p (n0 h)),hfst,hS4⟩,by show 64-(fr+1)<64-fr;omega⟩
   clear h hskip;refine zR ?_;refine C1 (σ:=Nat×List PM×PM) [4,6,14,16,17,18,77] 78 (fun s=>[(6,.int .i64 s.2.1.length),(77,.int .i64 s.1)]) (fun s w'=>s.1≤64∧s.2.1++(a6W p k fr s.1++a3C p k (fr+1)++a5z p (i+1))=A5 p∧(first=true→s.2.1=[])∧SmI w P b (w.heap.size+1) w.heap.size (D0 p c) cv (a1s p) z.cells s.2.2 s.2.1 w') (fun s=>64-s.1) zk (0,l2,x2) ⟨xJ _,hrem,hfst,hS4⟩ ⟨rfl,rfl,trivial⟩ ?_
   clear hrem hfst hS4 c4;rintro ⟨to,l3,x3⟩ j3 w5 ⟨hto,hrem,hfst,hS5⟩;simp only at hto hrem hfst hS5 ⊢;refine zR ?_;apply E.d7<;>intro h
   ·have ht2:to<64:=by omega
    have nt:=C4 (i:=to) zo;clear h;have e8t:IntKind.i8.wrap (to:Int)=to:=a0d zo zo;rw [b7m ht2] at hrem;have hskip:(if (goB p k fr).testBit (63-to) then a2V p fr to else [])=[]→l3++(a6W p k fr (to+1)++a3C p k (fr+1)++a5z p (i+1))=A5 p:=fun e=>by rw [← hrem,e];rfl
    have hbs:=fun w=>y7 to ht2 w;refine zR ?_;rw [e8t];refine g7 (hbs _) (zB ?_);apply E.d7<;>intro h
    ·refine zR ?_;have h':=a32.1 (n0 h);exact ⟨(to+1,l3,x3),⟨rfl,d9 nt,trivial⟩,⟨by show to+1≤64;omega,hskip (by rw [h'];rfl),hfst,hS5⟩,by show 64-(to+1)<64-to;omega⟩
    have hbit:(goB p k fr).testBit (63-to)=true:=by
     have h':¬ _:=fun e=>nz h (a32.2 e);simpa using h'
    clear h hbs hskip;rw [hbit,zM rfl] at hrem;refine zR ?_;rw [e8];refine c5C hS5.nd _ fun w6 u6=>?_;have hS6:=hS5.upd u6;clear hS5 u6;refine zR ?_;rw [e8t];refine c5D hS6.nd _ fun w7 u7=>?_;have hS7:=hS6.upd u7;clear hS6 u7;refine zR ?_;refine c1O hS7.nd 0 fun w8 u8=>?_;have hS8:=hS7.upd u8;clear hS7 u8;simp only at hS8;refine zG ?_;have hrk:l8 (to:Int)=(to:Int)/8:=rfl;have hsr:=fun w=>a1n (to:Int) zo zo w;obtain ⟨PR,hPR⟩:∃ PR:Bool,PR=decide (k=6∧l8 (to:Int)=7-7*p.turn):=⟨_,rfl⟩;refine B0 (σ:=Unit) [93,94,95,96,97,98,99,100,101,102,103,104,105,106,107,108,109,110] 111 (fun _=>[(110,.bool PR)]) (fun _ w'=>w'=w8) zk ?_ (fun _ j w9 e9=>?_)
    ·refine zR ?_;apply E.d7<;>intro h
     ·refine zR ?_;rw [e8t];refine g7 (hsr _) (zR ?_);apply E.d7<;>intro h
      ·refine zR ?_;exact ⟨(),⟨z7 (hPR.trans (zX zo)).symm,trivial⟩,rfl⟩
      ·refine zR ?_;refine E.o9 zo (zR ?_);exact ⟨(),⟨z7 (hPR.trans (zV zo)).symm,trivial⟩,rfl⟩
     ·refine zR ?_;apply E.d7<;>intro h
      ·refine zR ?_;rw [e8t];refine g7 (hsr _) (zR ?_);exact ⟨(),⟨z7 (hPR.trans (yg.2 zo)).symm,trivial⟩,rfl⟩
      ·refine zR ?_;exact ⟨(),⟨z7 (hPR.trans (zV zo)).symm,trivial⟩,rfl⟩
    subst e9;clear hsr;have hkp:a0B (sq p fr)=k:=by rw [hsq];exact Q8 k1 k6 ht
    have hLen:∀ {a b:List PM} {y:PM},a++([y]++b)=A5 p→(first=true→a=[])→a.length<218:=fun {a b y} e hf=>by
     cases first
     rotate_left
     ·rw [hf rfl];decide
     have hle:=hle rfl;have:=yM List.length e;simp only [zF,zh,za] at this;omega
    generalize hR:a6W p k fr (to+1)++a3C p k (fr+1)++a5z p (i+1)=R;have hRa:∀ a b:List PM,a++(b++a6W p k fr (to+1)++a3C p k (fr+1)++a5z p (i+1))=a++(b++R):=fun a b=>by rw [← hR];simp only [yJ]
    cases PR
    ·have h:=of_decide_eq_false hPR.symm;clear hPR;have hpl:H3 p ⟨fr,to,0⟩:=a77 hI k1 k6 hf2 ht2 hsq hbit (.inl ⟨rfl,h⟩);have hmt:a2V p fr to=if (tg p ⟨fr,to,0⟩).testBit 5 then [] else [⟨⟨fr,to,0⟩,tg p ⟨fr,to,0⟩⟩]:=by unfold a2V;rw [zJ (by rw [hkp];exact h)]
     rw [hmt] at hrem;clear h hmt;rw [hRa] at hrem;refine zR ?_;refine a9l hS8.nd 0 fun w11 u11=>?_;have hS11:=hS8.upd u11;clear hS8 u11;refine zR ?_;refine m8 (a9m (t:=0) hI hpl zd zd zd zd hS11) ?_;rintro r w12 ⟨rfl,hS12⟩;refine ⟨_,rfl,?_⟩;rw [Nat.zero_or] at hS12;have o64:tg p ⟨fr,to,0⟩<64:=c3r _ _;generalize tg p ⟨fr,to,0⟩=T at *;have hht:=a0N (k:=5) (d:=C3 ⟨⟨fr,to,0⟩,T⟩) zd (by show T<65536;omega) w12 hS12.nd
     clear hS11;refine zR ?_;have hht':Calls G.P 147 #[.pointer (some ⟨w.heap.size+1,0,none⟩),.int .u16 32] w12 (E8 (.bool (T.testBit 5)) w12):=hht;cases hb5:T.testBit 5
     ·rw [hb5] at hht' hrem;refine g7 hht' ?_;rw [zJ zd] at hrem;have hlt:=hLen (a:=l3) (y:=⟨⟨fr,to,0⟩,T⟩) (b:=R) hrem hfst;have n4:=C4 (i:=l3.length) zo;have hrem':(l3++[⟨⟨fr,to,0⟩,T⟩])++R=A5 p:=by rw [← hrem];simp only [yJ]
      refine zR ?_;refine b7 _ (b7q hS12.nd) (zR ?_);refine zC ?_;refine zR ?_;refine b9v hS12 hzs hlt (a1o _ _) fun w13 hS13=>zR ?_;cases first
      ·refine zR ?_;exact ⟨(to+1,_,_),⟨d9 (n4.trans (by rw [zF];rfl)),d9 nt,trivial⟩,⟨by show to+1≤64;omega,by rw [← hrem',← hR],fun e=>(by cases e),hS13⟩,by show 64-(to+1)<64-to;omega⟩
      ·have hl0:=hfst rfl;subst hl0;obtain ⟨z1v,hz1,hz1s⟩:=z1;refine zR ?_;refine s7 z1v hz1 ?_;have ca:=Cl.alloc w13 (.cells z1v.cells 293);have na:=d8 w13 (.cells z1v.cells 293);have hge:=hS13.cl.size;generalize w13.alloc (.cells z1v.cells 293)=w14 at *;have hS14:=hS13.step ca;refine zR ?_;refine b7 _ (b6m hS14 hzs) (zR ?_);refine K2 na (D8 ⟨⟨fr,to,0⟩,T⟩) rfl a0O rfl (F9 _) (by rw [hz1s];decide) fun w15 u15=>zR ?_
       refine b2X (n:=1) (el:=141) (z:=11) rfl rfl (zR ?_);exact ⟨(Tn.upd u15).toCl hS14.cl zo,_,rfl,.inr ⟨fun e=>by rw [e] at hrem';simp at hrem',_,⟨⟨fr,to,0⟩,T⟩,_,rfl,by have h15:=u15.at_;rw [show U0 0 (Int.toNat 0) 11=0 from rfl,B5 _ _ (by rw [hz1s];rfl)] at h15;exact h15⟩⟩
     ·rw [hb5] at hht' hrem;refine g7 hht' (zR ?_);exact ⟨(to+1,_,_),⟨rfl,d9 nt,trivial⟩,⟨by show to+1≤64;omega,by rw [← hrem,← hR];simp,hfst,hS12⟩,by show 64-(to+1)<64-to;omega⟩
    ·have h:=yF hPR.symm;clear hPR;have hpl:∀ pr:Int,2≤pr→pr≤5→H3 p ⟨fr,to,pr⟩:=fun pr h2 h5=>a77 hI k1 k6 hf2 ht2 hsq hbit (.inr ⟨h2,h5,h.1,h.2⟩);have hrt:=h.2;have hmt:a2V p fr to=T7 p fr to (([2,3,4,5]:List Int).drop 0) 0:=by unfold a2V;rw [zM (by rw [hkp];exact h)];rfl
     rw [hmt] at hrem;clear h hmt;rw [hRa] at hrem;refine zR ?_;refine b7 _ (L9 (hp1.cl hS8.cl) (i:=0) zd rfl rfl) (zR ?_);refine C1 (σ:=Nat×List PM×Int×Nat) [4,6,16,17,113] 114 (fun s=>[(6,.int .i64 s.2.1.length),(113,.int .i64 s.1)]) (fun s w'=>s.1≤4∧s.2.1++(T7 p fr to (([2,3,4,5]:List Int).drop s.1) s.2.2.2++R)=A5 p∧(first=true→s.2.1=[]) ∧
      SmI w P b (w.heap.size+1) w.heap.size (D0 p c) cv (a1s p) z.cells ⟨⟨fr,to,s.2.2.1⟩,s.2.2.2⟩ s.2.1 w'∧s.2.2.2<64∧s.2.2.2.testBit 0=false∧s.2.2.2.testBit 1=false∧s.2.2.2.testBit 3=false) (fun s=>4-s.1) zk (0,l3,x3.mv.promo,0) ⟨xJ _,hrem,hfst,hS8,show 0<64 by decide,show (0:Nat).testBit 0=false by decide,show (0:Nat).testBit 1=false by decide,show (0:Nat).testBit 3=false by decide⟩ ⟨rfl,rfl,trivial⟩ ?_
     clear hrem hfst hS8;rintro ⟨q,l4,pr,tt⟩ j4 w10 ⟨hq,hrem,hfst,hS10,htt64,tb0,tb1,tb3⟩;simp only at hq hrem hfst hS10 htt64 tb0 tb1 tb3 ⊢;refine zR ?_;apply E.d7<;>intro h
     ·have hq2:q<4:=by omega
      have nq:=C4 (i:=q) zo;clear h;have hpq:=hpl ((q:Int)+2) zo zo;obtain ⟨g0,g1,g3⟩:=c1P hI hpq hrt;rw [c1Q hq2] at hrem;refine zR ?_;refine zC ?_;refine zR ?_;refine b7 _ (a6R (hp2.cl hS10.cl) (i:=q) hq2 rfl rfl) (zR ?_);refine a9l hS10.nd _ fun w11 u11=>?_;have hS11:=hS10.upd u11;clear hS10 u11;refine zR ?_;refine m8 (a9m hI hpq htt64 tb0 tb1 tb3 hS11) ?_;rintro r w12 ⟨rfl,hS12⟩;refine ⟨_,rfl,?_⟩;have o64:tt ||| tg p ⟨fr,to,(q:Int)+2⟩<64:=a9i htt64 (c3r _ _)
      have o0:(tt ||| tg p ⟨fr,to,(q:Int)+2⟩).testBit 0=false:=by rw [yH,tb0,g0];rfl
      have o1:(tt ||| tg p ⟨fr,to,(q:Int)+2⟩).testBit 1=false:=by rw [yH,tb1,g1];rfl
      have o3:(tt ||| tg p ⟨fr,to,(q:Int)+2⟩).testBit 3=false:=by rw [yH,tb3,g3];rfl
      generalize tt ||| tg p ⟨fr,to,(q:Int)+2⟩=T at *
      have hht:=a0N (k:=5) (d:=C3 ⟨⟨fr,to,(q:Int)+2⟩,T⟩) zd (by show T<65536;omega) w12 hS12.nd
      clear hS11;refine zR ?_;have hht':Calls G.P 147 #[.pointer (some ⟨w.heap.size+1,0,none⟩),.int .u16 32] w12 (E8 (.bool (T.testBit 5)) w12):=hht;cases hb5:T.testBit 5
      ·rw [hb5] at hht' hrem;refine g7 hht' ?_;rw [zJ zd] at hrem;have hlt:=hLen (a:=l4) (y:=⟨⟨fr,to,(q:Int)+2⟩,T⟩) (b:=T7 p fr to (([2,3,4,5]:List Int).drop (q+1)) T++R) (by rw [← hrem];simp only [yJ]) hfst
       have n4:=C4 (i:=l4.length) zo;have hrem':(l4++[⟨⟨fr,to,(q:Int)+2⟩,T⟩])++(T7 p fr to (([2,3,4,5]:List Int).drop (q+1)) T++R)=A5 p:=by rw [← hrem];simp only [yJ]
       refine zR ?_;refine b7 _ (b7q hS12.nd) (zR ?_);refine zC ?_;refine zR ?_;refine b9v hS12 hzs hlt (a1o _ _) fun w13 hS13=>zR ?_;cases first
       ·refine zR ?_;exact ⟨(q+1,_,(q:Int)+2,_),⟨d9 (n4.trans (by rw [zF];rfl)),d9 nq,trivial⟩,⟨by show q+1≤4;omega,hrem',fun e=>(by cases e),hS13,o64,o0,o1,o3⟩,by show 4-(q+1)<4-q;omega⟩
       ·have hl0:=hfst rfl;subst hl0;obtain ⟨z1v,hz1,hz1s⟩:=z1;refine zR ?_;refine s7 z1v hz1 ?_;have ca:=Cl.alloc w13 (.cells z1v.cells 293);have na:=d8 w13 (.cells z1v.cells 293);have hge:=hS13.cl.size;generalize w13.alloc (.cells z1v.cells 293)=w14 at *;have hS14:=hS13.step ca;refine zR ?_;refine b7 _ (b6m hS14 hzs) (zR ?_);refine K2 na (D8 ⟨⟨fr,to,(q:Int)+2⟩,T⟩) rfl a0O rfl (F9 _) (by rw [hz1s];decide) fun w15 u15=>zR ?_
        refine b2X (n:=1) (el:=141) (z:=11) rfl rfl (zR ?_);exact ⟨(Tn.upd u15).toCl hS14.cl zo,_,rfl,.inr ⟨fun e=>by rw [e] at hrem';simp at hrem',_,⟨⟨fr,to,(q:Int)+2⟩,T⟩,_,rfl,by have h15:=u15.at_;rw [show U0 0 (Int.toNat 0) 11=0 from rfl,B5 _ _ (by rw [hz1s];rfl)] at h15;exact h15⟩⟩
      ·rw [hb5] at hht' hrem;refine g7 hht' (zR ?_);exact ⟨(q+1,_,(q:Int)+2,_),⟨rfl,d9 nq,trivial⟩,⟨by show q+1≤4;omega,hrem,hfst,hS12,o64,o0,o1,o3⟩,by show 4-(q+1)<4-q;omega⟩
     ·have hq4:q=4:=by omega
      subst hq4;refine zR ?_;exact ⟨(to+1,_,_),⟨rfl,d9 nt,trivial⟩,⟨by show to+1≤64;omega,by rw [← hrem,← hR];simp [T7],hfst,hS10⟩,by show 64-(to+1)<64-to;omega⟩
   ·have e64:to=64:=by omega
    subst e64;rw [b9o] at hrem;refine zR ?_;exact ⟨(fr+1,_,_),⟨rfl,d9 nf,trivial⟩,⟨by show fr+1≤64;omega,hrem,hfst,hS5⟩,by show 64-(fr+1)<64-fr;omega⟩
  ·have e64:fr=64:=by omega
   subst e64;rw [b9p] at hrem;refine zR ?_;exact ⟨(i+1,_,_),⟨rfl,d9 ni,trivial⟩,⟨by show i+1≤12;omega,hrem,hfst,hS3⟩,by show 12-(i+1)<12-i;omega⟩
 ·have e12:i=12:=by omega
  subst e12;rw [b9q,zn] at hrem;subst hrem;have hle:(A5 p).length≤218:=by
   cases first
   ·exact hle rfl
   ·rw [hfst rfl];decide
  refine zR ?_;refine b9t b2Y (A5 p).length rfl rfl zo zd fun cs hcs=>?_;have ca:=Cl.alloc w2 (.cells cs 141);have na:=d8 w2 (.cells cs 141);have hge:=hS2.cl.size;generalize w2.alloc (.cells cs 141)=w3 at *;have hS3:=hS2.step ca;refine zR ?_;refine b2W (n:=218) (el:=141) (z:=11) (A5 p).length rfl rfl rfl hle (zR ?_);have fl:=a31 (A5 p);refine b9u b2Y (cs:=(A5 p).flatMap D8) (n:=(A5 p).length) rfl rfl na fl hcs (fun jj v hv=>?_) (fun v hv=>?_) fun w4 u4=>?_
  ·rw [D2 hS3.arr,O4 _ _ _ _ (by rw [fl,hzs];omega),zM ⟨xJ _,by rw [yZ];exact (xZ.1 hv).1⟩];exact hv
  ·obtain ⟨y,_,hy⟩:=xV.1 hv;exact F9 y v hy
  have hc4:Cl w w4:=(Tn.upd u4).toCl hS3.cl zo;refine zR ?_;refine ⟨hc4,_,rfl,?_⟩;cases first
  ·rw [zJ zd];exact Row.blk J2 zo hge u4.at_
  ·rw [zM rfl];exact .inl ⟨hfst rfl,by have:=Row.blk (w:=w4) J2 zo hge u4.at_;rw [hfst rfl] at this ⊢;exact this⟩
end
section
open Go Go.RowKit
open E
def ixZ (c:UInt8) (s:Tx):Int:=if c∈s then (s.idxOf c:Int) else -1
theorem c4k {c:UInt8}:∀ {s:Tx} {i:Nat},s[i]?=some c→(∀ j,j<i→s[j]?≠some c)→c∈s∧s.idxOf c=i:=by
 intro s
 induction s with
 | nil=>intro i h;simp at h
 | cons x r ih =>
  intro i h hj;by_cases e:x=c
  ·subst e;cases i with
   | zero=>exact ⟨yc,by simp⟩
   | succ i=>exact absurd (by simp) (hj 0 zo)
  ·cases i with
   | zero=>simp at h;exact absurd h e
   | succ i =>
    obtain ⟨h1,h2⟩:=ih (i:=i) (by simpa using h) (fun j hlt=>by have:=hj (j+1) zo;simpa using this)
    refine ⟨ye _ h1,?_⟩;rw [List.idxOf_cons,show (x==c)=false by simpa using e,h2];rfl
theorem c4l {c:UInt8} {s:Tx} (h:∀ j,j<s.length→s[j]?≠some c):c∉s:=by
 intro hm;obtain ⟨j,hj⟩:=List.mem_iff_getElem?.1 hm;exact h j (xZ.1 hj).1 hj
theorem c4m {c:UInt8} {s:Tx} {i:Nat} (h:s[i]?=some c) (hj:∀ j,j<i→s[j]?≠some c):ixZ c s=i:=by
 obtain ⟨h1,h2⟩:=c4k h hj;unfold ixZ;rw [zM h1,h2]
theorem c1R {c:UInt8} {s:Tx} (h:∀ j,j<s.length→s[j]?≠some c):ixZ c s=-1:=by
 unfold ixZ;rw [zJ (c4l h)]
theorem c5E {s:Tx} {i:Nat} (h:i<s.length):(s.drop i).take 1=[s[i]]:=by
 rw [xc h];rfl
theorem a6X (c:UInt8) (s:Tx) (hs:s.length≤100000) (w:World):Calls G.P 234 #[m7 s,m7 [c]] w (E8 (.int .i64 (ixZ c s)) w):=by
 have h0:(tx [c]).size=1:=C5 _;have hsz:(tx s).size=s.length:=C5 _;refine zN func234 ?_;refine zR ?_;refine C1 (σ:=Nat) [4,5] 6 (fun i=>[(5,.int .i64 i)]) (fun i w'=>i≤s.length∧w'=w∧∀ j,j<i→s[j]?≠some c) (fun i=>s.length-i) zk 0 ⟨zo,rfl,fun j h=>by omega⟩ ⟨rfl,trivial⟩ ?_
 rintro i j w2 ⟨hi,rfl,hj⟩;have ni:=C4 (i:=i) zo;refine zR ?_;rw [h0,hsz];rw [show ((1:Nat):Int)=1 from rfl,ni];apply E.d7<;>intro h
 ·have hi2:i<s.length:=by omega
  clear h;refine zR ?_;rw [h0,show ((1:Nat):Int)=1 from rfl,ni];refine a1m [s[i]] rfl rfl rfl rfl zo zo zo ?_ ?_
  ·rw [show ((i+1:Nat):Int).toNat-(i:Int).toNat=1 by omega,zg];exact c5E hi2
  refine zR ?_;apply E.d7<;>intro h
  ·have e:=Q0.1 h;refine zR ?_;exact ⟨D4 (c4m (by rw [yu hi2];simpa using e) hj).symm,rfl⟩
  ·refine zR ?_;refine ⟨i+1,⟨d9 ni,trivial⟩,⟨zo,rfl,fun j h2=>?_⟩,zo⟩;by_cases e:j<i
   ·exact hj j e
   ·have:j=i:=by omega
    subst this;rw [yu hi2];intro e2;injection e2 with e2;exact h (by rw [e2])
 ·refine zR ?_;exact ⟨D4 (c1R (fun j h2=>hj j zo)).symm,rfl⟩
theorem a1E (c:UInt8) (s:Tx) (hs:s.length≤100000) (w:World):Calls G.P 215 #[m7 s,m7 [c]] w (E8 (.bool (decide (c∈s))) w):=by
 refine zN func215 ?_;refine zR ?_;refine g7 (a6X c s hs w) (zR ?_);refine ⟨p8 ?_,rfl⟩;unfold ixZ;by_cases h:c∈s
 ·rw [zM h];rw [zX h];exact zX zo
 ·rw [zJ h];rw [zV h];exact zV zo
def b9w (n:Nat):UInt8:=[75,81,107,113].getD n 0
theorem b9x:∀ n:Nat,n<4→∀ c:Nat,c<16→decide (b9w n∈Ch.a4V (c:Int))=Ch.W3 (c:Int) n:=by decide
theorem a78 (cr:Int) (h0:0≤cr) (h1:cr≤15) (t:Int) (ht:t=0∨t=1) (sd:Int) (hsd:sd=1∨sd=2) (w:World) :
  Calls G.P 175 #[m7 (Ch.a4V cr),.int .i8 (t+1),.int .i64 sd] w (N0 (.bool (Ch.W3 cr (2*t+(sd-1)).toNat)) w):=by
 have hl:=a1R cr;have key:∀ n:Nat,n<4→decide (b9w n∈Ch.a4V cr)=Ch.W3 cr n:=fun n hn=>by
  have:=b9x n hn cr.toNat zo
  rwa [zi h0] at this
 have e1:(0:Int)+1=1:=rfl;have e2:(1:Int)+1=2:=rfl;rcases ht with rfl|rfl<;>rcases hsd with rfl|rfl<;>simp only [e1,e2]<;>(refine E.enter (G:=G) func175 rfl (by simp [ntmps175]) zk ?_)<;>refine a4R ?_
 ·refine zR ?_;refine o7 (b03 107 (.inl rfl) w) fun w1 c1=>zR ?_;refine g7 (a1E 75 (Ch.a4V cr) zo w1) (zR ?_);exact ⟨p8 (key 0 zd),c1⟩
 ·refine zR ?_;refine o7 (b03 113 (.inr rfl) w) fun w1 c1=>zR ?_;refine g7 (a1E 81 (Ch.a4V cr) zo w1) (zR ?_);exact ⟨p8 (key 1 zd),c1⟩
 ·refine zR ?_;refine g7 (a1E 107 (Ch.a4V cr) zo w) (zR ?_);exact ⟨p8 (key 2 zd),Cl.refl _⟩
 ·refine zR ?_;refine g7 (a1E 113 (Ch.a4V cr) zo w) (zR ?_);exact ⟨p8 (key 3 zd),Cl.refl _⟩
end
