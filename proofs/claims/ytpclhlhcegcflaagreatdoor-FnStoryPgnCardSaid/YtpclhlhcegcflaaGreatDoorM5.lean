/- One part of the proof: Gen Gen2 Inv Sp10 Law4 Sp11 Sp12. -/
import Derived.Test.YtpclhlhcegcflaaGreatDoorM4
namespace Go.Proofs.YtpclhlhcegcflaaGreatDoor
set_option maxRecDepth 100000
set_option linter.unusedSimpArgs false
set_option linter.unusedVariables false
section
namespace Ch
open Bb
theorem at_range (f r:Int):-1≤I9 f r∧I9 f r≤63:=by
 unfold I9;split<;>omega
theorem W4 (f r:Int) (h:0≤I9 f r):0≤f∧f≤7∧0≤r∧r≤7∧I9 f r=8*r+f:=by
 unfold I9 at *;split at h
 ·omega
 ·rename_i h2;rw [zJ h2];omega
theorem a6K {f r:Int} (h0:0≤f) (h1:f≤7) (h2:0≤r) (h3:r≤7):I9 f r=8*r+f:=by
 unfold I9;rw [zJ zo]
def stp (fr:Int) (d:Int×Int) (j:Nat):Int:=I9 (o4 fr+j*d.1) (k9 fr+j*d.2)
theorem a6L (p:l9) (fr:Int) (d:Int×Int) (to:Int):∀ (k n:Nat),to∈ray p fr d.1 d.2 true k n↔∃ j,n≤j∧j<n+k∧to=stp fr d j∧(∀ i,n≤i→i≤j→0≤stp fr d i)∧(∀ i,n≤i→i<j→sq p (stp fr d i)=0):=by
 intro k
 induction k with
 | zero=>intro n;simp only [ray,zy,false_iff];rintro ⟨j,h1,h2,_⟩;omega
 | succ k ih =>
  intro n;simp only [ray];show to∈(if stp fr d n<0 then [] else if (!true || !decide (sq p (stp fr d n)=0))=true then [stp fr d n] else stp fr d n::ray p fr d.1 d.2 true k (n+1))↔_
  by_cases h0:stp fr d n<0
  ·rw [zM h0];simp only [zy,false_iff];rintro ⟨j,h1,_,_,h2,_⟩;have:=h2 n zo h1;omega
  rw [zJ h0];by_cases h1:sq p (stp fr d n)=0
  ·rw [zJ (by simp [h1]),yS,ih (n+1)]
   constructor
   ·rintro (h|⟨j,j1,j2,j3,j4,j5⟩)
    ·exact ⟨n,yJ n,zo,h,fun i i1 i2=>by rw [Nat.le_antisymm i2 i1];omega,fun i i1 i2=>by omega⟩
    ·refine ⟨j,zo,zo,j3,fun i i1 i2=>?_,fun i i1 i2=>?_⟩
     ·by_cases e:i=n
      ·subst e;omega
      ·exact j4 i zo i2
     ·by_cases e:i=n
      ·subst e;exact h1
      ·exact j5 i zo i2
   ·rintro ⟨j,j1,j2,j3,j4,j5⟩;by_cases e:j=n
    ·subst e;exact .inl j3
    ·exact .inr ⟨j,zo,zo,j3,fun i i1 i2=>j4 i zo i2,fun i i1 i2=>j5 i zo i2⟩
  ·rw [zM (by simp [h1]),zY]
   constructor
   ·intro h;exact ⟨n,yJ n,zo,h,fun i i1 i2=>by rw [Nat.le_antisymm i2 i1];omega,fun i i1 i2=>by omega⟩
   ·rintro ⟨j,j1,j2,j3,j4,j5⟩;by_cases e:j=n
    ·subst e;exact j3
    ·exact absurd (j5 n zo zo) h1
theorem a2P (p:l9) (fr:Int) (d:Int×Int) (to:Int) (k n:Nat):to∈ray p fr d.1 d.2 false (k+1) n↔to=stp fr d n∧0≤to:=by
 simp only [ray];show to∈(if stp fr d n<0 then [] else if (!false||_)=true then [stp fr d n] else _)↔_
 by_cases h0:stp fr d n<0
 ·rw [zM h0];simp only [zy,false_iff];rintro ⟨rfl,h⟩;omega
 ·rw [zJ h0,zM (by simp),zY]
  constructor
  ·rintro rfl;exact ⟨rfl,zo⟩
  ·exact fun h=>h.1
def b5T (fr:Nat) (d:Int×Int) (j:Nat):Bool :=
 let t:=stp fr d j;decide (t<0)||(decide (sign (dF fr t.toNat)=d.1)&&decide (sign (dR fr t.toNat)=d.2)&&decide (ds fr t.toNat=j-1)&&decide (t=fr+(j:Int)*(d.1+8*d.2))&&(List.range j).all fun i=>decide (0≤stp fr d i))
theorem b7S:(List.range 64).all (fun fr=>(straight++slanting).all fun d=>(List.range 7).all fun j=>b5T fr d (j+1))=true:=by decide +kernel
def toB (fr to:Nat):Bool :=
 Nat.beq fr to || !(decide (dF fr to=0)||decide (dR fr to=0)||decide (dF fr to=dR fr to)||decide (dF fr to=-dR fr to)) ||
  (decide (stp fr (sign (dF fr to),sign (dR fr to)) (ds fr to+1)=to)&&Nat.blt (ds fr to) 7 &&
   (if decide (dF fr to=0)||decide (dR fr to=0) then straight.contains (sign (dF fr to),sign (dR fr to)) else slanting.contains (sign (dF fr to),sign (dR fr to))))
theorem b4K:(List.range 64).all (fun fr=>(List.range 64).all fun to=>toB fr to)=true:=by decide +kernel
theorem c0y:(straight.all fun d=>decide (d.1=0)||decide (d.2=0))=true∧(slanting.all fun d=>decide (d.1=d.2)||decide (d.1=-d.2))=true∧(slanting.all fun d=>!decide (d.1=0) && !decide (d.2=0))=true:=by decide
theorem W5 {x:Int}:sign x=0↔x=0:=by unfold sign;split<;>(try split)<;>omega
theorem a4c (p:l9) {fr to:Nat} (hf:fr<64) (ht:to<64) (d:Int×Int) (hd:d∈straight++slanting) :
  (to:Int)∈ray p fr d.1 d.2 true 7 1↔fr≠to∧(dF fr to=0∨dR fr to=0∨dF fr to=dR fr to∨dF fr to=-dR fr to)∧sign (dF fr to)=d.1∧sign (dR fr to)=d.2∧free p fr (wy fr to) (ds fr to)=true:=by
 have hR:∀ j,j<7→b5T fr d (j+1)=true:=fun j hj=>zl.1 (zl.1 (zl.1 b7S fr (yl.2 hf)) d hd) j (yl.2 hj);have hT:toB fr to=true:=zl.1 (zl.1 b4K fr (yl.2 hf)) to (yl.2 ht);rw [a6L,a2x];constructor
 ·rintro ⟨j,j1,j2,j3,j4,j5⟩;have hj:=hR (j-1) zo;rw [show j-1+1=j by omega] at hj
  simp only [b5T,← j3,zg,zj,zP,zW] at hj;rcases hj with hj|hj
  ·omega
  obtain ⟨⟨⟨⟨h1,h2⟩,h3⟩,h4⟩,_⟩:=hj;have hdnz:¬ (d.1=0∧d.2=0):=by
   have:((straight++slanting).all fun d=>!(decide (d.1=0)&&decide (d.2=0)))=true:=by decide
   have:=zl.1 this d hd;rintro ⟨a1,a2⟩;simp [a1,a2] at this
  have hne:fr≠to:=by
   rintro rfl;apply hdnz;rw [← h1,← h2];simp [dF,dR,sign]
  refine ⟨hne,?_,h1,h2,?_⟩
  ·have hF:stp fr d j=to:=j3.symm;have:=W4 _ _ (by have:=j4 j zo zo;exact this)
   unfold stp at hF;rw [this.2.2.2.2] at hF;rcases zr.1 hd with h|h
   ·have hh:=zl.1 c0y.1 d h;simp only [zj,zW] at hh;rcases hh with hh|hh
    ·rw [hh] at h1;rw [W5] at h1;exact .inl h1
    ·rw [hh] at h2;rw [W5] at h2;exact .inr (.inl h2)
   ·have hh:=zl.1 c0y.2.1 d h;simp only [zj,zW] at hh;have e1:dF fr to=j*d.1:=by unfold dF;rw [show (to:Int)=8*(k9 fr + ↑j*d.2)+(o4 fr + ↑j*d.1) from hF.symm];unfold o4 at *;omega
    have e2:dR fr to=j*d.2:=by unfold dR;rw [show (to:Int)=8*(k9 fr + ↑j*d.2)+(o4 fr + ↑j*d.1) from hF.symm];unfold o4 k9 at *;omega
    rcases hh with hh|hh
    ·rw [e1,e2,hh];exact .inr (.inr (.inl rfl))
    ·rw [e1,e2,hh];refine .inr (.inr (.inr ?_));rw [Int.mul_neg]
  ·intro i hi;rw [h3] at hi;have:=j5 (i+1) zo zo;have hi2:=hR i zo;simp only [b5T,zj,zP,zW] at hi2;rcases hi2 with hi2|hi2
   ·have:=j4 (i+1) zo zo;omega
   ·rw [hi2.1.2] at this;unfold wy;rw [h1,h2];exact this
 ·rintro ⟨hne,hl,h1,h2,h3⟩;simp only [toB,zj,zP,zc,yA,zZ,zW] at hT;rcases hT with (hT|hT)|⟨⟨hT,hT2⟩,hT3⟩
  ·exact absurd (zu hT) hne
  ·exfalso;rcases hl with h|h|h|h
   ·exact hT.1.1.1 h
   ·exact hT.1.1.2 h
   ·exact hT.1.2 h
   ·exact hT.2 h
  rw [h1,h2] at hT;have hT2':ds fr to<7:=by simpa [Nat.blt,Nat.succ_le_iff] using hT2
  have hjj:=hR (ds fr to) hT2';simp only [b5T,zj,zP,zW,zl,yl] at hjj;have hT':stp fr d (ds fr to+1)=to:=hT;rw [hT'] at hjj;rcases hjj with hjj|hjj
  ·omega
  refine ⟨ds fr to+1,zo,zo,hT'.symm,fun i i1 i2=>?_,fun i i1 i2=>?_⟩
  ·by_cases e:i=ds fr to+1
   ·rw [e,hT'];omega
   ·exact hjj.2 i zo
  ·have h4:=h3 (i-1) zo;have hi2:=hR (i-1) zo;rw [show i-1+1=i by omega] at hi2
   simp only [b5T,zj,zP,zW] at hi2;rcases hi2 with hi2|hi2
   ·have:=hjj.2 i zo;omega
   ·rw [hi2.1.2];unfold wy at h4;rw [h1,h2] at h4;rw [show ((i-1:Nat):Int)+1=i by omega] at h4
    exact h4
theorem b5U:(List.range 64).all (fun fr=>(List.range 64).all fun to =>
  Bool.xor ((straight++slanting).any fun d=>decide (stp fr d 1=(to:Int))) (!(!decide (fr=to)&&(decide (dF fr to*dF fr to≤1)&&decide (dR fr to*dR fr to≤1)))) &&
  Bool.xor (jumps.any fun d=>decide (stp fr d 1=(to:Int))) (!(decide (dF fr to*dF fr to+dR fr to*dR fr to=5))))=true:=by decide +kernel
theorem a1r (p:l9) {fr to:Nat} (hf:fr<64) (ht:to<64) {k:Int} (hk:d6 (sq p fr)=k) (h1:1≤k) (h5:k≤5):(to:Int)∈a5r p fr↔N4 p k 0 fr to=true:=by
 have hN:=zl.1 (zl.1 b5U fr (yl.2 hf)) to (yl.2 ht);have xr:∀ a b:Bool,Bool.xor a (!b)=true↔(a=true↔b=true):=by intro a b;cases a<;>cases b<;>simp
 rw [zP,xr,xr] at hN;unfold a5r;rw [hk];simp only [xM];have near:∀ (l:List (Int×Int)),(∃ d∈l,(to:Int)∈ray p fr d.1 d.2 false 7 1)↔(l.any fun d=>decide (stp fr d 1=(to:Int)))=true:=by
  intro l;rw [xD];constructor
  ·rintro ⟨d,hd,h⟩;exact ⟨d,hd,zX ((a2P p fr d to 6 1).1 h).1.symm⟩
  ·rintro ⟨d,hd,h⟩;exact ⟨d,hd,(a2P p fr d to 6 1).2 ⟨(yB h).symm,zo⟩⟩
 have hkk:k=1∨k=2∨k=3∨k=4∨k=5:=by omega
 have sg:∀ x:Int,sign x=0∨sign x=1∨sign x=-1:=by intro x;unfold sign;split<;>(try split)<;>omega
 have hT:toB fr to=true:=zl.1 (zl.1 b4K fr (yl.2 hf)) to (yl.2 ht);have hT':fr≠to→(dF fr to=0∨dR fr to=0∨dF fr to=dR fr to∨dF fr to=-dR fr to)→(if decide (dF fr to=0)||decide (dR fr to=0) then straight.contains (sign (dF fr to),sign (dR fr to)) else slanting.contains (sign (dF fr to),sign (dR fr to)))=true:=by
  intro hne hl;simp only [toB,zj,zP,zc,yA,zZ] at hT;rcases hT with (hT|hT)|⟨⟨_,_⟩,hT3⟩
  ·exact absurd (zu hT) hne
  ·exfalso;rcases hl with h|h|h|h
   ·exact hT.1.1.1 h
   ·exact hT.1.1.2 h
   ·exact hT.1.2 h
   ·exact hT.2 h
  ·simpa using hT3
 have strict:∀ d∈straight,fr≠to→sign (dF fr to)=d.1→sign (dR fr to)=d.2→dF fr to=0∨dR fr to=0:=by
  intro d hd _ e1 e2;have hh:=zl.1 c0y.1 d hd;simp only [zj,zW] at hh;rcases hh with hh|hh
  ·rw [hh,W5] at e1;exact .inl e1
  ·rw [hh,W5] at e2;exact .inr e2
 have slant:∀ d∈slanting,(dF fr to=0∨dR fr to=0∨dF fr to=dR fr to∨dF fr to=-dR fr to)→sign (dF fr to)=d.1→sign (dR fr to)=d.2→dF fr to=dR fr to∨dF fr to=-dR fr to:=by
  intro d hd hl e1 e2;have hh:=zl.1 c0y.2.2 d hd;simp only [zP,zc,zZ] at hh;rcases hl with h|h|h|h
  ·exfalso;apply hh.1;rw [← e1,W5];exact h
  ·exfalso;apply hh.2;rw [← e2,W5];exact h
  ·exact .inl h
  ·exact .inr h
 rcases hkk with rfl|rfl|rfl|rfl|rfl
 ·show (∃ d∈straight++slanting,(to:Int)∈ray p fr d.1 d.2 false 7 1)↔_;rw [near,hN.1];rfl
 ·show (∃ d∈straight++slanting,(to:Int)∈ray p fr d.1 d.2 true 7 1)↔_;simp only [N4];rw [zJ zd,zJ zd,zJ zd];simp only [zP,zj,zc,zZ,zW];constructor
  ·rintro ⟨d,hd,h⟩;obtain ⟨h1,h2,_,_,h3⟩:=(a4c p hf ht d hd).1 h;refine ⟨h1,?_,h3⟩;rcases h2 with h2|h2|h2|h2
   ·exact .inl ⟨.inl h2,zd⟩
   ·exact .inl ⟨.inr h2,zd⟩
   ·exact .inr ⟨.inl h2,zd⟩
   ·exact .inr ⟨.inr h2,zd⟩
  ·rintro ⟨h1,h2,h3⟩;have hl:dF fr to=0∨dR fr to=0∨dF fr to=dR fr to∨dF fr to=-dR fr to:=by
    rcases h2 with ⟨h2|h2,_⟩|⟨h2|h2,_⟩
    ·exact .inl h2
    ·exact .inr (.inl h2)
    ·exact .inr (.inr (.inl h2))
    ·exact .inr (.inr (.inr h2))
   have hc:=hT' h1 hl;have hmem:(sign (dF fr to),sign (dR fr to))∈straight++slanting:=by
    split at hc
    ·exact zr.2 (.inl (List.contains_iff_mem.1 hc))
    ·exact zr.2 (.inr (List.contains_iff_mem.1 hc))
   exact ⟨_,hmem,(a4c p hf ht _ hmem).2 ⟨h1,hl,rfl,rfl,h3⟩⟩
 ·show (∃ d∈straight,(to:Int)∈ray p fr d.1 d.2 true 7 1)↔_;simp only [N4];rw [zJ zd,zJ zd,zJ zd];simp only [zP,zj,zc,zZ,zW];constructor
  ·rintro ⟨d,hd,h⟩;obtain ⟨h1,h2,e1,e2,h3⟩:=(a4c p hf ht d (zr.2 (.inl hd))).1 h;exact ⟨h1,.inl ⟨strict d hd h1 e1 e2,zd⟩,h3⟩
  ·rintro ⟨h1,h2,h3⟩;have h2':dF fr to=0∨dR fr to=0:=by
    rcases h2 with ⟨h2,_⟩|⟨_,h⟩
    ·exact h2
    ·exact absurd trivial h
   have hl:dF fr to=0∨dR fr to=0∨dF fr to=dR fr to∨dF fr to=-dR fr to:=by
    rcases h2' with h|h
    ·exact .inl h
    ·exact .inr (.inl h)
   have hc:=hT' h1 hl;rw [zM (by simpa using h2')] at hc
   have hmem:=List.contains_iff_mem.1 hc;exact ⟨_,hmem,(a4c p hf ht _ (zr.2 (.inl hmem))).2 ⟨h1,hl,rfl,rfl,h3⟩⟩
 ·show (∃ d∈slanting,(to:Int)∈ray p fr d.1 d.2 true 7 1)↔_;simp only [N4];rw [zJ zd,zJ zd,zJ zd];simp only [zP,zj,zc,zZ,zW];constructor
  ·rintro ⟨d,hd,h⟩;obtain ⟨h1,h2,e1,e2,h3⟩:=(a4c p hf ht d (zr.2 (.inr hd))).1 h;exact ⟨h1,.inr ⟨slant d hd h2 e1 e2,zd⟩,h3⟩
  ·rintro ⟨h1,h2,h3⟩;have h2':dF fr to=dR fr to∨dF fr to=-dR fr to:=by
    rcases h2 with ⟨_,h⟩|⟨h2,_⟩
    ·exact absurd trivial h
    ·exact h2
   have hl:dF fr to=0∨dR fr to=0∨dF fr to=dR fr to∨dF fr to=-dR fr to:=by
    rcases h2' with h|h
    ·exact .inr (.inr (.inl h))
    ·exact .inr (.inr (.inr h))
   have hnz:¬ (dF fr to=0∨dR fr to=0):=by
    intro h;apply h1;have h6:dF fr to=0∧dR fr to=0:=by omega
    simp only [dF,dR,o4,k9] at h6;omega
   have hc:=hT' h1 hl;rw [zJ (by simpa using hnz)] at hc
   have hmem:=List.contains_iff_mem.1 hc;exact ⟨_,hmem,(a4c p hf ht _ (zr.2 (.inr hmem))).2 ⟨h1,hl,rfl,rfl,h3⟩⟩
 ·show (∃ d∈jumps,(to:Int)∈ray p fr d.1 d.2 false 7 1)↔_;rw [near,hN.2];simp only [N4];rw [zJ zd,zM trivial];simp only [zP,zc,zZ,zW];constructor
  ·intro h;refine ⟨?_,h⟩;rintro rfl;simp [dF,dR] at h
  ·exact fun h=>h.2
end Ch
namespace Ch
open Bb
def rank3:Nat:=280375465082880
def rank6:Nat:=16711680
theorem b7T:rank3=bb (fun s=>decide (s/8=2)):=by decide +kernel
theorem b7U:rank6=bb (fun s=>decide (s/8=5)):=by decide +kernel
def T9 (p:l9):Nat:=not (occ p)
theorem a0c (p:l9) {s:Nat} (hs:s<64):(T9 p).testBit (63-s)=decide (sq p s=0):=by
 unfold T9 occ;rw [E7 _ hs,F6 _ hs];simp
theorem a31 (p:l9) (c:Int) {s:Nat} (hs:s<64):(side p c).testBit (63-s)=(!decide (sq p s=0)&&decide (y9 (sq p s)=c)):=F6 _ hs
def epB (p:l9):Nat:=if p.ep=-1 then 0 else D6 p.ep.toNat
theorem a74 (p:l9) (h0:-1≤p.ep) (h1:p.ep≤63) {s:Nat} (hs:s<64):(epB p).testBit (63-s)=decide ((s:Int)=p.ep):=by
 unfold epB;by_cases h:p.ep=-1
 ·rw [zM h,h,Nat.zero_testBit];symm;exact zV zo
 ·rw [zJ h,H5 zo hs];exact ya.2 zo
def a6M (p:l9) (fr:Nat):Nat :=
 if p.turn=0 then
  let capR:=((D6 fr &&& not a2y &&& not a0K) >>> 9) &&& (side p 1 ||| epB p)
  let capL:=((D6 fr &&& not a2z &&& not a0K) >>> 7) &&& (side p 1 ||| epB p)
  let one:=((D6 fr &&& not a0K) >>> 8) &&& T9 p;let two:=((one &&& rank3) >>> 8) &&& T9 p
  capR ||| capL ||| one ||| two
 else
  let capR:=(shl (D6 fr &&& not a2y &&& not a15) 7) &&& (side p 0 ||| epB p)
  let capL:=(shl (D6 fr &&& not a2z &&& not a15) 9) &&& (side p 0 ||| epB p)
  let one:=(shl (D6 fr &&& not a15) 8) &&& T9 p;let two:=(shl (one &&& rank6) 8) &&& T9 p
  capR ||| capL ||| one ||| two
theorem S5 {p:l9} (h:L6 p=true):-1≤p.ep∧p.ep≤63∧(p.ep≠-1→k9 p.ep=5-3*p.turn∧sq p p.ep=0∧sq p (I9 (o4 p.ep) (k9 p.ep-(1-2*p.turn)))=6+6*(1-p.turn)∧sq p (I9 (o4 p.ep) (k9 p.ep+(1-2*p.turn)))=0):=by
 unfold L6 at h;split at h
 ·have:=yB h;exact ⟨zo,zo,fun h2=>absurd this h2⟩
 ·simp only at h;split at h
  ·cases h
  ·rename_i h1 h2;simp only [zP,zW] at h;exact ⟨zo,zo,fun _=>⟨zo,zo,h.1,h.2⟩⟩
theorem b1E (p:l9) (c:Int) {fr to:Nat}:((to:Int)∈(K2 fr c).filter (I5 p c))↔(((to:Int)=I9 (o4 fr + -1) (k9 fr+up c)∨(to:Int)=I9 (o4 fr+1) (k9 fr+up c))∧I5 p c to=true):=by
 unfold K2 a1T;rw [xW,zr];constructor
 ·rintro ⟨h|h,h2⟩
  ·split at h
   ·exact ⟨.inl (zY.1 h),h2⟩
   ·cases h
  ·split at h
   ·exact ⟨.inr (zY.1 h),h2⟩
   ·cases h
 ·rintro ⟨h|h,h2⟩
  ·exact ⟨.inl (by rw [zM zo];exact zY.2 h),h2⟩
  ·exact ⟨.inr (by rw [zM zo];exact zY.2 h),h2⟩
theorem b1F (p:l9) (c:Int) {fr to:Nat}:((to:Int)∈V3 p fr c)↔(((to:Int)=I9 (o4 fr) (k9 fr+up c)∧sq p to=0)∨((to:Int)=I9 (o4 fr) (k9 fr+2*up c)∧sq p to=0∧k9 fr=1+5*c∧0≤I9 (o4 fr) (k9 fr+up c)∧sq p (I9 (o4 fr) (k9 fr+up c))=0)) ∨
  False:=by
 unfold V3;simp only [yy];by_cases h:0≤I9 (o4 fr) (k9 fr+up c)∧sq p (I9 (o4 fr) (k9 fr+up c))=0
 ·rw [zM h];by_cases h2:k9 fr=1+5*c∧sq p (I9 (o4 fr) (k9 fr+2*up c))=0
  ·rw [zM h2];simp only [yS,zy,yy];constructor
   ·rintro (e|e)
    ·exact .inl ⟨e,by rw [e];exact h.2⟩
    ·exact .inr ⟨e,by rw [e];exact h2.2,h2.1,h.1,h.2⟩
   ·rintro (⟨e,_⟩|⟨e,_⟩)
    ·exact .inl e
    ·exact .inr e
  ·rw [zJ h2];simp only [zY];constructor
   ·intro e;exact .inl ⟨e,by rw [e];exact h.2⟩
   ·rintro (⟨e,_⟩|⟨e,h3,h4,_⟩)
    ·exact e
    ·exfalso;apply h2;rw [← e];exact ⟨h4,h3⟩
 ·rw [zJ h];simp only [zy,false_iff];rintro (⟨e,h2⟩|⟨_,_,_,h3,h4⟩)
  ·apply h;rw [← e];exact ⟨zo,h2⟩
  ·exact h ⟨h3,h4⟩
theorem a4x {p:l9} (hp:∀ i:Int,0≤sq p i∧sq p i≤12) (ht:p.turn=0∨p.turn=1) (hps:L6 p=true) (to:Nat) :
  I5 p p.turn to=true↔(((sq p to≠0∧y9 (sq p to)=1-p.turn)∨(to:Int)=p.ep)):=by
 obtain ⟨e0,e1,e2⟩:=S5 hps;unfold I5;simp only [zj,zP,zc,zW,zZ];have hs:y9 (sq p to)=0∨y9 (sq p to)=1:=by unfold y9;split<;>simp
 constructor
 ·rintro (⟨h1,h2⟩|⟨⟨h1,h2⟩,h3⟩)
  ·exact .inl ⟨h1,zo⟩
  ·exact .inr h2
 ·rintro (⟨h1,h2⟩|h)
  ·exact .inl ⟨h1,zo⟩
  ·have:=e2 zo;rw [← h] at this;exact .inr ⟨⟨this.2.1,h⟩,this.1⟩
theorem b7V (p:l9) (fr:Nat):a6M p fr<2^64:=by
 have he:T9 p<2^64:=not_lt (P4 _);have h0:epB p<2^64:=by unfold epB;split;decide;exact a3y _
 unfold a6M;split
 ·exact yq (yq (yq (yn _ (yq (P4 _) h0)) (yn _ (yq (P4 _) h0))) (yn _ he)) (yn _ he)
 ·exact yq (yq (yq (yn _ (yq (P4 _) h0)) (yn _ (yq (P4 _) h0))) (yn _ he)) (yn _ he)
theorem b5V {p:l9} (hp:∀ i:Int,0≤sq p i∧sq p i≤12) (ht:p.turn=0∨p.turn=1) (hps:L6 p=true) {fr to:Nat} (hf:fr<64) (hto:to<64) (hsq:sq p fr=6+6*p.turn) :
  (a6M p fr).testBit (63-to)=true↔(to:Int)∈S3 p fr:=by
 have hside:y9 (sq p fr)=p.turn:=by rw [hsq];exact P5 zd zd ht
 obtain ⟨e0,e1,e2⟩:=S5 hps;unfold S3;simp only [hside];rw [zr,b1E,b1F,a4x hp ht hps];simp only [yy];have nH:not a2y<2^64:=not_lt zd;have nA:not a2z<2^64:=not_lt zd;have n8:not a0K<2^64:=not_lt zd;have n1:not a15<2^64:=not_lt zd;have he:T9 p<2^64:=not_lt (P4 _);have bH:∀ s,s<64→(not a2y).testBit (63-s) = !decide (s%8=7):=fun s hs=>by rw [E7 _ hs,a8d,F6 _ hs]
 have bA:∀ s,s<64→(not a2z).testBit (63-s) = !decide (s%8=0):=fun s hs=>by rw [E7 _ hs,a8e,F6 _ hs]
 have b8:∀ s,s<64→(not a0K).testBit (63-s) = !decide (s/8=7):=fun s hs=>by rw [E7 _ hs,a8g,F6 _ hs]
 have b1:∀ s,s<64→(not a15).testBit (63-s) = !decide (s/8=0):=fun s hs=>by rw [E7 _ hs,a8f,F6 _ hs]
 have b3:∀ s,s<64→rank3.testBit (63-s)=decide (s/8=2):=fun s hs=>by rw [b7T,F6 _ hs]
 have b6:∀ s,s<64→rank6.testBit (63-s)=decide (s/8=5):=fun s hs=>by rw [b7U,F6 _ hs]
 have hatp:∀ (f r:Int) (s:Nat),s<64→((s:Int)=I9 f r↔(0≤f∧f≤7∧0≤r∧r≤7∧(s:Int)=8*r+f)):=by
  intro f r s hs;unfold I9;split
  ·constructor
   ·intro h;omega
   ·rintro ⟨h1,h2,h3,h4,_⟩;omega
  ·constructor
   ·intro h;omega
   ·rintro ⟨_,_,_,_,h⟩;exact h
 rcases ht with ht|ht
 ·simp only [a6M,ht,xy];rw [yF,yF,yF];simp only [zj];have c1:(((D6 fr &&& not a2y &&& not a0K) >>> 9) &&& (side p 1 ||| epB p)).testBit (63-to)=true↔((to:Int)=I9 (o4 fr+1) (k9 fr+up 0)∧(sq p to≠0∧y9 (sq p to)=1-0∨(to:Int)=p.ep)):=by
   rw [zq,a2O _ 9 (yn _ n8) hto,yF,a31 _ _ hto,a74 p e0 e1 hto,zq,zq,H5 hf zo,bH _ zo,b8 _ zo,hatp _ _ _ hto];simp only [zP,zj,zc,zW,zZ,o4,k9,up];refine and_congr ⟨fun h=>by omega,fun h=>by omega⟩ (or_congr (and_congr Iff.rfl (by simp)) Iff.rfl)
  have c2:(((D6 fr &&& not a2z &&& not a0K) >>> 7) &&& (side p 1 ||| epB p)).testBit (63-to)=true↔((to:Int)=I9 (o4 fr + -1) (k9 fr+up 0)∧(sq p to≠0∧y9 (sq p to)=1-0∨(to:Int)=p.ep)):=by
   rw [zq,a2O _ 7 (yn _ n8) hto,yF,a31 _ _ hto,a74 p e0 e1 hto,zq,zq,H5 hf zo,bA _ zo,b8 _ zo,hatp _ _ _ hto];simp only [zP,zj,zc,zW,zZ,o4,k9,up];refine and_congr ⟨fun h=>by omega,fun h=>by omega⟩ (or_congr (and_congr Iff.rfl (by simp)) Iff.rfl)
  have c3:∀ s,s<64→((((D6 fr &&& not a0K) >>> 8) &&& T9 p).testBit (63-s)=true↔((s:Int)=I9 (o4 fr) (k9 fr+up 0)∧sq p s=0)):=by
   intro s hs;rw [zq,a2O _ 8 (yn _ n8) hs,a0c _ hs,zq,H5 hf zo,b8 _ zo,hatp _ _ _ hs];simp only [zP,zc,zW,zZ,o4,k9,up];refine and_congr ⟨fun h=>by omega,fun h=>by omega⟩ Iff.rfl
  have c4:((((((D6 fr &&& not a0K) >>> 8) &&& T9 p) &&& rank3) >>> 8) &&& T9 p).testBit (63-to)=true↔((to:Int)=I9 (o4 fr) (k9 fr+2*up 0)∧sq p to=0∧k9 fr=1+5*0∧0≤I9 (o4 fr) (k9 fr+up 0)∧sq p (I9 (o4 fr) (k9 fr+up 0))=0):=by
   rw [zq,a2O _ 8 (xu Nat.and_le_left (yn _ he)) hto,a0c _ hto,zq,b3 _ zo];simp only [zP,zW];rw [c3 _ zo,hatp _ _ _ hto,hatp _ _ _ zo];constructor
   ·rintro ⟨⟨h1,⟨⟨h2,h3,h4,h5,h6⟩,h7⟩,h8⟩,h9⟩;have e:I9 (o4 fr) (k9 fr+up 0)=((to-8:Nat):Int):=by rw [a6K h2 h3 h4 h5];exact h6.symm
    rw [e];simp only [o4,k9,up] at *;exact ⟨zo,h9,zo,zo,h7⟩
   ·rintro ⟨⟨h2,h3,h4,h5,h6⟩,h7,h8,h9,h10⟩;obtain ⟨g1,g2,g3,g4,g5⟩:=W4 _ _ h9;have e:I9 (o4 fr) (k9 fr+up 0)=((to-8:Nat):Int):=by rw [g5];simp only [o4,k9,up] at *;omega
    rw [e] at h10;simp only [o4,k9,up] at *;exact ⟨⟨zo,⟨⟨zo,zo,zo,zo,zo⟩,h10⟩,zo⟩,h7⟩
  rw [c1,c2,c3 to hto,c4];constructor
  ·rintro (((⟨h,h2⟩|⟨h,h2⟩)|h)|h)
   ·exact .inr ⟨.inr h,h2⟩
   ·exact .inr ⟨.inl h,h2⟩
   ·exact .inl (.inl h)
   ·exact .inl (.inr h)
  ·rintro ((h|h)|⟨h|h,h2⟩)
   ·exact .inl (.inr h)
   ·exact .inr h
   ·exact .inl (.inl (.inr ⟨h,h2⟩))
   ·exact .inl (.inl (.inl ⟨h,h2⟩))
 ·simp only [a6M,ht];rw [zJ zd,yF,yF,yF];simp only [zj];have c1:((shl (D6 fr &&& not a2y &&& not a15) 7) &&& (side p 0 ||| epB p)).testBit (63-to)=true↔((to:Int)=I9 (o4 fr+1) (k9 fr+up 1)∧(sq p to≠0∧y9 (sq p to)=1-1∨(to:Int)=p.ep)):=by
   rw [zq,a2N _ 7 hto,yF,a31 _ _ hto,a74 p e0 e1 hto,hatp _ _ _ hto];by_cases hin:to+7<64
   ·rw [zq,zq,H5 hf hin,bH _ hin,b1 _ hin];simp only [zP,zj,zc,zW,zZ,o4,k9,up];refine and_congr ⟨fun h=>by omega,fun h=>by omega⟩ (or_congr (and_congr Iff.rfl (by simp)) Iff.rfl)
   ·rw [zV hin];simp only [xi,yD,false_iff,o4,k9,up];rintro ⟨h,_⟩;omega
  have c2:((shl (D6 fr &&& not a2z &&& not a15) 9) &&& (side p 0 ||| epB p)).testBit (63-to)=true↔((to:Int)=I9 (o4 fr + -1) (k9 fr+up 1)∧(sq p to≠0∧y9 (sq p to)=1-1∨(to:Int)=p.ep)):=by
   rw [zq,a2N _ 9 hto,yF,a31 _ _ hto,a74 p e0 e1 hto,hatp _ _ _ hto];by_cases hin:to+9<64
   ·rw [zq,zq,H5 hf hin,bA _ hin,b1 _ hin];simp only [zP,zj,zc,zW,zZ,o4,k9,up];refine and_congr ⟨fun h=>by omega,fun h=>by omega⟩ (or_congr (and_congr Iff.rfl (by simp)) Iff.rfl)
   ·rw [zV hin];simp only [xi,yD,false_iff,o4,k9,up];rintro ⟨h,_⟩;omega
  have c3:∀ s,s<64→(((shl (D6 fr &&& not a15) 8) &&& T9 p).testBit (63-s)=true↔((s:Int)=I9 (o4 fr) (k9 fr+up 1)∧sq p s=0)):=by
   intro s hs;rw [zq,a2N _ 8 hs,a0c _ hs,hatp _ _ _ hs];by_cases hin:s+8<64
   ·rw [zq,H5 hf hin,b1 _ hin];simp only [zP,zc,zW,zZ,o4,k9,up];refine and_congr ⟨fun h=>by omega,fun h=>by omega⟩ Iff.rfl
   ·rw [zV hin];simp only [xi,yD,false_iff,o4,k9,up];rintro ⟨h,_⟩;omega
  have c4:((shl ((((shl (D6 fr &&& not a15) 8) &&& T9 p) &&& rank6)) 8) &&& T9 p).testBit (63-to)=true↔((to:Int)=I9 (o4 fr) (k9 fr+2*up 1)∧sq p to=0∧k9 fr=1+5*1∧0≤I9 (o4 fr) (k9 fr+up 1)∧sq p (I9 (o4 fr) (k9 fr+up 1))=0):=by
   rw [zq,a2N _ 8 hto,a0c _ hto];by_cases hin:to+8<64
   ·rw [zq,b6 _ hin];simp only [zP,zW];rw [c3 _ hin,hatp _ _ _ hto,hatp _ _ _ hin];constructor
    ·rintro ⟨⟨h1,⟨⟨h2,h3,h4,h5,h6⟩,h7⟩,h8⟩,h9⟩;have e:I9 (o4 fr) (k9 fr+up 1)=((to+8:Nat):Int):=by rw [a6K h2 h3 h4 h5];exact h6.symm
     rw [e];simp only [o4,k9,up] at *;exact ⟨zo,h9,zo,zo,h7⟩
    ·rintro ⟨⟨h2,h3,h4,h5,h6⟩,h7,h8,h9,h10⟩;obtain ⟨g1,g2,g3,g4,g5⟩:=W4 _ _ h9;have e:I9 (o4 fr) (k9 fr+up 1)=((to+8:Nat):Int):=by rw [g5];simp only [o4,k9,up] at *;omega
     rw [e] at h10;simp only [o4,k9,up] at *;exact ⟨⟨zo,⟨⟨zo,zo,zo,zo,zo⟩,h10⟩,zo⟩,h7⟩
   ·rw [zV hin,hatp _ _ _ hto];simp only [xi,yD,false_iff,o4,k9,up];rintro ⟨h,_,h2,_⟩;omega
  rw [c1,c2,c3 to hto,c4];constructor
  ·rintro (((⟨h,h2⟩|⟨h,h2⟩)|h)|h)
   ·exact .inr ⟨.inr h,h2⟩
   ·exact .inr ⟨.inl h,h2⟩
   ·exact .inl (.inl h)
   ·exact .inl (.inr h)
  ·rintro ((h|h)|⟨h|h,h2⟩)
   ·exact .inl (.inr h)
   ·exact .inr h
   ·exact .inl (.inl (.inr ⟨h,h2⟩))
   ·exact .inl (.inl (.inl ⟨h,h2⟩))
def a6N (p:l9) (k:Int) (fr:Nat):Nat :=
 if k=1 then kg fr else if k=2 then di (occ p) fr ||| hv (occ p) fr else if k=3 then hv (occ p) fr else if k=4 then di (occ p) fr else if k=5 then kn fr else if k=6 then a6M p fr else 0
theorem b7W (p:l9) (k:Int) (fr:Nat):a6N p k fr<2^64:=by
 unfold a6N;repeat' split
 ·exact P4 _
 ·exact yq (b7J _ _) (b7I _ _)
 ·exact b7I _ _
 ·exact b7J _ _
 ·exact P4 _
 ·exact b7V _ _
 ·decide
def goB (p:l9) (k:Int) (fr:Nat):Nat:=a6N p k fr &&& not (side p p.turn)
theorem b4L {p:l9} (hp:∀ i:Int,0≤sq p i∧sq p i≤12) (ht:p.turn=0∨p.turn=1) (hps:L6 p=true) {fr to:Nat} (hf:fr<64) (hto:to<64) {k:Int} (k1:1≤k) (k6:k≤6) (hsq:sq p fr=k+6*p.turn) :
  (goB p k fr).testBit (63-to)=true↔(to:Int)∈Y0 p fr∧¬ (sq p to≠0∧y9 (sq p to)=p.turn):=by
 unfold goB;rw [zq,E7 _ hto,a31 _ _ hto];simp only [zP,zc,xn,Bool.not_eq_false',zW,zZ];have hk:d6 (sq p fr)=k:=by rw [hsq];exact L9 k1 k6 ht
 refine and_congr ?_ ⟨?_,?_⟩;rotate_left
 ·rintro (h|h) ⟨h1,h2⟩
  ·exact h1 h
  ·exact h h2
 ·intro h;by_cases h1:sq p to=0
  ·exact .inl h1
  ·exact .inr (fun h2=>h ⟨h1,h2⟩)
 unfold Y0;rw [hk];have hkk:k=1∨k=2∨k=3∨k=4∨k=5∨k=6:=by omega
 rcases hkk with rfl|rfl|rfl|rfl|rfl|rfl
 ·rw [zJ zd,a1r p hf hto hk zd zd,← c2h p hf hto];rfl
 ·rw [zJ zd,a1r p hf hto hk zd zd,← b7O p hf hto];rfl
 ·rw [zJ zd,a1r p hf hto hk zd zd,← c2f p hf hto];rfl
 ·rw [zJ zd,a1r p hf hto hk zd zd,← c2g p hf hto];rfl
 ·rw [zJ zd,a1r p hf hto hk zd zd,← b7P p hf hto];rfl
 ·rw [zM rfl,← b5V hp ht hps hf hto hsq];rfl
end Ch
namespace Ch
open Bb
def S9 (p:l9) (c K:Int):Prop:=0≤K∧K≤63∧sq p K=1+6*c∧∀ j:Int,0≤j→j≤63→sq p j=1+6*c→j=K
structure D0 (p:l9):Prop where
 pc:∀ i:Int,0≤sq p i∧sq p i≤12
 pawn:∀ i:Int,0≤i→i≤63→d6 (sq p i)=6→k9 i≠0∧k9 i≠7
 turn:p.turn=0∨p.turn=1
 c0:0≤p.castle
 c1:p.castle≤15
 h0:0≤p.half
 f1:1≤p.full
 king:∀ c:Int,c=0∨c=1→S9 p c (z8 p c)
 right:∀ n:Nat,n<4→U2 p.castle n=true→sq p (A2 n)=1+6*((n:Int)/2)∧sq p (C0 n)=3+6*((n:Int)/2)
 pass:L6 p=true
 quiet:B7 p (z8 p (1-p.turn)) p.turn=false
theorem b1G (f:Nat→Bool):∀ n,H1 f n=0↔∀ i,i<n→f i=false:=by
 intro n
 induction n with
 | zero=>simp [H1]
 | succ n ih =>
  simp only [H1];constructor
  ·intro h i hi;have h1:H1 f n=0:=by omega
   by_cases e:i=n
   ·subst e;cases hf:f i
    ·rfl
    ·rw [hf] at h;simp at h
   ·exact ih.1 h1 i zo
  ·intro h;rw [ih.2 (fun i hi=>h i zo),h n zo];rfl
theorem b4M (f:Nat→Bool):∀ n,H1 f n=1↔∃ i,i<n∧f i=true∧∀ j,j<n→f j=true→j=i:=by
 intro n
 induction n with
 | zero=>simp [H1]
 | succ n ih =>
  simp only [H1];cases hf:f n
  ·simp only [yD,xh,Nat.add_zero,ih];constructor
   ·rintro ⟨i,h1,h2,h3⟩;refine ⟨i,zo,h2,fun j hj hfj=>?_⟩;by_cases e:j=n
    ·subst e;rw [hf] at hfj;cases hfj
    ·exact h3 j zo hfj
   ·rintro ⟨i,h1,h2,h3⟩;refine ⟨i,?_,h2,fun j hj hfj=>h3 j zo hfj⟩;by_cases e:i=n
    ·subst e;rw [hf] at h2;cases h2
    ·omega
  ·simp only [xy];constructor
   ·intro h;have h1:H1 f n=0:=by omega
    have h2:=(b1G f n).1 h1;refine ⟨n,zo,hf,fun j hj hfj=>?_⟩;by_cases e:j=n
    ·exact e
    ·rw [h2 j zo] at hfj;cases hfj
   ·rintro ⟨i,h1,h2,h3⟩;have e:n=i:=h3 n zo hf;have:H1 f n=0:=(b1G f n).2 (fun j hj=>by
     cases hfj:f j
     ·rfl
     ·have:=h3 j zo hfj;omega)
    omega
theorem b7X (f:Nat→Bool) {i:Nat}:∀ n,i<n→f i=true→(∀ j,j<n→f j=true→j=i)→Z2 f n=some i:=by
 intro n
 induction n with
 | zero=>intro h;omega
 | succ n ih =>
  intro h hf hu;unfold Z2;by_cases e:i=n
  ·subst e;have:Z2 f i=none:=by
    cases hj:Z2 f i with
    | none=>rfl
    | some j=>have:=a94 hj;have:=hu j zo this.2;omega
   rw [this];simp [hf]
  ·rw [ih zo hf (fun j hj hfj=>hu j zo hfj)]
theorem S9.at {p:l9} {c K:Int} (h:S9 p c K):z8 p c=K:=by
 obtain ⟨h0,h1,h2,h3⟩:=h;unfold z8;rw [b7X (i:=K.toNat) _ 64 zo (by simp only [zW];rw [zi h0];exact h2) (fun j hj hf=>by
  have:=h3 j zo zo (yB hf);omega)]
 simp only;omega
theorem a4y {p:l9} {c:Int} (h:count p 1 c=1):S9 p c (z8 p c):=by
 obtain ⟨i,h1,h2,h3⟩:=(b4M _ 64).1 h;have:S9 p c i:=⟨zo,zo,yB h2,fun j j0 j1 hj=>by
  have:=h3 j.toNat zo (by simp only [zW];rw [zi j0];exact hj);omega⟩
 rw [this.at];exact this
theorem a4z {p:l9} {c K:Int} (h:S9 p c K):count p 1 c=1:=by
 obtain ⟨h0,h1,h2,h3⟩:=h;refine (b4M _ 64).2 ⟨K.toNat,zo,?_,fun j hj hf=>?_⟩
 ·simp only [zW];rw [zi h0];exact h2
 ·have:=h3 j zo zo (yB hf);omega
theorem b0C {c:Int} (h0:0≤c) (h1:c≤15):c=0∨c=1∨c=2∨c=3∨c=4∨c=5∨c=6∨c=7∨c=8∨c=9∨c=10∨c=11∨c=12∨c=13∨c=14∨c=15:=by omega
def a6f (c:Int) (b0 b1 b2 b3:Bool):Int:=(if U2 c 0&&b0 then 1 else 0)+(if U2 c 1&&b1 then 2 else 0)+(if U2 c 2&&b2 then 4 else 0)+(if U2 c 3&&b3 then 8 else 0)
theorem c0z {c:Int} (h0:0≤c) (h1:c≤15) (b0 b1 b2 b3:Bool):a6f c b0 b1 b2 b3=c↔(U2 c 0=true→b0=true)∧(U2 c 1=true→b1=true)∧(U2 c 2=true→b2=true)∧(U2 c 3=true→b3=true):=by
 rcases b0C h0 h1 with rfl|rfl|rfl|rfl|rfl|rfl|rfl|rfl|rfl|rfl|rfl|rfl|rfl|rfl|rfl|rfl<;>revert b0 b1 b2 b3<;>decide
theorem b7Y {c:Int} (h0:0≤c) (h1:c≤15) (b0 b1 b2 b3:Bool):0≤a6f c b0 b1 b2 b3∧a6f c b0 b1 b2 b3≤15∧U2 (a6f c b0 b1 b2 b3) 0=(U2 c 0&&b0)∧U2 (a6f c b0 b1 b2 b3) 1=(U2 c 1&&b1)∧U2 (a6f c b0 b1 b2 b3) 2=(U2 c 2&&b2)∧U2 (a6f c b0 b1 b2 b3) 3=(U2 c 3&&b3):=by
 rcases b0C h0 h1 with rfl|rfl|rfl|rfl|rfl|rfl|rfl|rfl|rfl|rfl|rfl|rfl|rfl|rfl|rfl|rfl<;>revert b0 b1 b2 b3<;>decide
theorem b31 (p:l9):rights p=a6f p.castle (decide (sq p (A2 0)=1)&&decide (sq p (C0 0)=3)) (decide (sq p (A2 1)=1)&&decide (sq p (C0 1)=3)) (decide (sq p (A2 2)=7)&&decide (sq p (C0 2)=9)) (decide (sq p (A2 3)=7)&&decide (sq p (C0 3)=9)):=by
 simp only [rights,U9,a6f,Bool.and_assoc];rw [Int.zero_add];rfl
theorem a4L {p:l9} (h0:0≤p.castle) (h1:p.castle≤15):rights p=p.castle↔∀ n:Nat,n<4→U2 p.castle n=true→sq p (A2 n)=1+6*((n:Int)/2)∧sq p (C0 n)=3+6*((n:Int)/2):=by
 rw [b31,c0z h0 h1];simp only [zP,zW];constructor
 ·rintro ⟨a0,a1,a2,a3⟩ n hn hb;have:n=0∨n=1∨n=2∨n=3:=by omega
  rcases this with rfl|rfl|rfl|rfl
  ·exact a0 hb
  ·exact a1 hb
  ·exact a2 hb
  ·exact a3 hb
 ·intro h;exact ⟨h 0 zo,h 1 zo,h 2 zo,h 3 zo⟩
def a1U (m:Mv) (n:Int):Bool:=decide (m.fr=A2 n)||decide (m.fr=C0 n)||decide (m.to=A2 n)||decide (m.to=C0 n)
def c00 (c:Int) (b0 b1 b2 b3:Bool):Int :=
 let x0:=if U2 c 0&&b0 then c-1 else c
 let x1:=if U2 x0 1&&b1 then x0-2 else x0
 let x2:=if U2 x1 2&&b2 then x1-4 else x1
 if U2 x2 3&&b3 then x2-8 else x2
theorem b0D {c:Int} (h0:0≤c) (h1:c≤15) (b0 b1 b2 b3:Bool):c00 c b0 b1 b2 b3=a6f c (!b0) (!b1) (!b2) (!b3):=by
 rcases b0C h0 h1 with rfl|rfl|rfl|rfl|rfl|rfl|rfl|rfl|rfl|rfl|rfl|rfl|rfl|rfl|rfl|rfl<;>revert b0 b1 b2 b3<;>decide
theorem b1H (c:Int) (m:Mv):left c m=c00 c (a1U m 0) (a1U m 1) (a1U m 2) (a1U m 3):=by
 simp only [left,X4,c00,a1U];rfl
theorem b7Z {c:Int} (h0:0≤c) (h1:c≤15) (m:Mv):0≤left c m∧left c m≤15∧∀ n:Nat,n<4→U2 (left c m) n=(U2 c n && !a1U m n):=by
 rw [b1H,b0D h0 h1];obtain ⟨a,b,c0,c1,c2,c3⟩:=b7Y h0 h1 (!a1U m 0) (!a1U m 1) (!a1U m 2) (!a1U m 3);refine ⟨a,b,fun n hn=>?_⟩;have:n=0∨n=1∨n=2∨n=3:=by omega
 rcases this with rfl|rfl|rfl|rfl
 ·exact c0
 ·exact c1
 ·exact c2
 ·exact c3
theorem c2R (p:l9) {i:Int} (h:i<0∨63<i):sq p i=sq p 0∨sq p i=0:=by
 unfold sq;rcases h with h|h
 ·left;rw [show i.toNat=0 by omega];rfl
 ·right;rw [yr,xH (by rw [p.len];omega)];rfl
theorem b32 {p:l9} (h:∀ i:Nat,i<64→0≤sq p i∧sq p i≤12) (i:Int):0≤sq p i∧sq p i≤12:=by
 by_cases hi:i<0∨63<i
 ·rcases c2R p hi with e|e<;>rw [e]
  ·exact h 0 zo
  ·omega
 ·have:=h i.toNat zo;rwa [zi zo] at this
theorem a6g (p:l9):valid p=true↔D0 p:=by
 unfold valid;simp only [zP,zc,yA,xn,Bool.not_eq_false',zZ,zW];constructor
 ·rintro ⟨⟨⟨h1,⟨⟨⟨h2,h3⟩,h4⟩,h5⟩,h6⟩,⟨⟨h7,h8⟩,h9⟩,h10⟩,h11⟩;have hok:∀ i:Nat,i<64→I4 p i=true:=by
   intro i hi;cases hb:I4 p i
   ·have:a04 (fun i=>!I4 p i) 64=true:=a3X (i:=i) hi (by simp [hb])
    rw [h1] at this;cases this
   ·rfl
  have hok2:∀ i:Nat,i<64→(0≤sq p i∧sq p i≤12)∧(d6 (sq p i)=6→k9 i≠0∧k9 i≠7):=by
   intro i hi;have:=hok i hi;unfold I4 at this;simp only [zc,yA,xn,zZ,Bool.not_eq_false',zW] at this;refine ⟨zo,fun h=>?_⟩;have hz:sq p i≠0:=by intro e;rw [e] at h;simp [d6] at h
   rcases this.2 with (h'|h')|h'
   ·exact absurd h h'
   ·exact absurd h' hz
   ·exact h'
  exact ⟨b32 (fun i hi=>(hok2 i hi).1),fun i i0 i1=>by have:=(hok2 i.toNat zo).2;rwa [zi i0] at this,zo,zo,zo,zo,zo,
   fun c hc=>by rcases hc with rfl|rfl;exact a4y h7;exact a4y h8,(a4L zo zo).1 h9,h10,h11⟩
 ·intro h;refine ⟨⟨⟨?_,⟨⟨⟨?_,?_⟩,?_⟩,?_⟩,?_⟩,⟨⟨?_,?_⟩,?_⟩,?_⟩,?_⟩
  ·cases ha:a04 (fun i=>!I4 p i) 64
   ·rfl
   ·obtain ⟨i,hi,hb⟩:=(a3r _ _).1 ha;exfalso;simp only [zc] at hb;unfold I4 at hb;simp only [Bool.not_eq_false',zj,zP,zW,zc,zZ] at hb;have:=h.pc i;rcases hb with (hb|hb)|⟨⟨hb,_⟩,hb2⟩
    ·omega
    ·omega
    ·have:=h.pawn i zo zo hb;omega
  ·have:=h.turn;omega
  ·have:=h.c0;omega
  ·have:=h.c1;omega
  ·have:=h.h0;omega
  ·have:=h.f1;omega
  ·exact a4z (h.king 0 (.inl rfl))
  ·exact a4z (h.king 1 (.inr rfl))
  ·exact (a4L h.c0 h.c1).2 h.right
  ·exact h.pass
  ·exact h.quiet
theorem D0.rights {p:l9} (h:D0 p):rights p=p.castle:=(a4L h.c0 h.c1).2 h.right
structure H7 (p:l9) (m:Mv):Prop where
 f0:0≤m.fr
 f1:m.fr≤63
 t0:0≤m.to
 t1:m.to≤63
 ne:m.fr≠m.to
 there:sq p m.fr≠0
 own:y9 (sq p m.fr)=p.turn
 goal:m.to∈Y0 p m.fr
 other:sq p m.to=0∨y9 (sq p m.to)≠p.turn
 promo:(m.promo=0∧¬ (d6 (sq p m.fr)=6∧k9 m.to=7-7*p.turn))∨(2≤m.promo∧m.promo≤5∧d6 (sq p m.fr)=6∧k9 m.to=7-7*p.turn)
structure a16 (p:l9) (r:Nat) (m:Mv):Prop where
 right:r=(2*p.turn).toNat∨r=(2*p.turn).toNat+1
 may:a1p p r=true
 is:m=p8 r
theorem b8a (p:l9) (m:Mv):∀ n,m∈J5 p n↔∃ i:Nat,i<n∧m∈P2 p i:=by
 intro n
 induction n with
 | zero=>simp [J5]
 | succ n ih =>
  simp only [J5,zr,ih];constructor
  ·rintro (⟨i,h1,h2⟩|h)
   ·exact ⟨i,zo,h2⟩
   ·exact ⟨n,zo,h⟩
  ·rintro ⟨i,h1,h2⟩;by_cases e:i=n
   ·subst e;exact .inr h2
   ·exact .inl ⟨i,zo,h2⟩
theorem a6O (p:l9) (m:Mv) (fr to:Int):m∈K8 p fr to↔m.fr=fr∧m.to=to∧(sq p to=0∨y9 (sq p to)≠p.turn)∧((m.promo=0∧¬ (d6 (sq p fr)=6∧k9 to=7-7*p.turn))∨(2≤m.promo∧m.promo≤5∧d6 (sq p fr)=6∧k9 to=7-7*p.turn)):=by
 unfold K8;obtain ⟨a,b,c⟩:=m;by_cases h1:sq p to≠0∧y9 (sq p to)=p.turn
 ·rw [zM h1];simp only [zy,false_iff];rintro ⟨_,_,h3|h3,_⟩
  ·exact h1.1 h3
  ·exact h3 h1.2
 rw [zJ h1];have h1':sq p to=0∨y9 (sq p to)≠p.turn:=by
  by_cases e:sq p to=0
  ·exact .inl e
  ·exact .inr (fun e2=>h1 ⟨e,e2⟩)
 by_cases h2:d6 (sq p fr)≠6∨k9 to≠7-7*p.turn
 ·rw [zM h2];simp only [zY,Mv.mk.injEq];constructor
  ·rintro ⟨rfl,rfl,rfl⟩;exact ⟨rfl,rfl,h1',.inl ⟨rfl,fun h=>by rcases h2 with h2|h2;exact h2 h.1;exact h2 h.2⟩⟩
  ·rintro ⟨rfl,rfl,_,⟨h3,_⟩|⟨_,_,h3,h4⟩⟩
   ·exact ⟨rfl,rfl,h3⟩
   ·rcases h2 with h2|h2
    ·exact absurd h3 h2
    ·exact absurd h4 h2
 ·rw [zJ h2];have h2':d6 (sq p fr)=6∧k9 to=7-7*p.turn:=by
   refine ⟨yf fun h=>h2 (.inl h),yf fun h=>h2 (.inr h)⟩
  simp only [a3u,yS,Mv.mk.injEq,zy,yy];constructor
  ·rintro (⟨rfl,rfl,rfl⟩|⟨rfl,rfl,rfl⟩|⟨rfl,rfl,rfl⟩|⟨rfl,rfl,rfl⟩)<;>exact ⟨rfl,rfl,h1',.inr ⟨zd,zd,h2'⟩⟩
  ·rintro ⟨rfl,rfl,_,⟨_,h3⟩|⟨h3,h4,_⟩⟩
   ·exact absurd h2' h3
   ·have:c=2∨c=3∨c=4∨c=5:=by omega
    rcases this with rfl|rfl|rfl|rfl<;>simp
theorem a98 (fr:Int) (d:Int×Int) (j:Nat):stp fr d j≤63:=(at_range _ _).2
theorem a1V {p:l9} {fr to:Int} (h:to∈Y0 p fr):0≤to∧to≤63:=by
 unfold Y0 at h;split at h
 ·unfold S3 V3 K2 a1T at h;simp only [zr,xW] at h;rcases h with h|⟨h,_⟩
  ·split at h
   ·rename_i hh;split at h
    ·rename_i h2;simp only [yS,zy,yy] at h;rcases h with rfl|rfl
     ·exact ⟨hh.1,(at_range _ _).2⟩
     ·refine ⟨?_,(at_range _ _).2⟩;have g:=W4 _ _ hh.1;have hs:y9 (sq p fr)=0∨y9 (sq p fr)=1:=by unfold y9;split<;>simp
      rw [a6K]<;>simp only [up] at * <;> omega
    ·simp only [zY] at h;subst h;exact ⟨hh.1,(at_range _ _).2⟩
   ·cases h
  ·rcases h with h|h
   ·split at h
    ·rename_i hh;rw [zY.1 h];exact ⟨hh,(at_range _ _).2⟩
    ·cases h
   ·split at h
    ·rename_i hh;rw [zY.1 h];exact ⟨hh,(at_range _ _).2⟩
    ·cases h
 ·unfold a5r at h;obtain ⟨d,_,h⟩:=xM.1 h;cases hfar:far (d6 (sq p fr))<;>rw [hfar] at h
  ·obtain ⟨h1,h2⟩:=(a2P p fr d to 6 1).1 h;exact ⟨h2,by rw [h1];exact a98 _ _ _⟩
  ·obtain ⟨j,h1,_,h2,h3,_⟩:=(a6L p fr d to 7 1).1 h;rw [h2];exact ⟨h3 j h1 zo,a98 _ _ _⟩
theorem c2S (x:Int):y9 x=0∨y9 x=1:=by unfold y9;split<;>simp
theorem a99 {x:Int} (h0:0≤x) (h1:x≤12) (hx:x≠0):1≤d6 x∧d6 x≤6∧x=d6 x+6*y9 x:=by
 unfold d6 y9;split<;>omega
theorem V5 {p:l9} (hI:D0 p) {fr to:Int} (f0:0≤fr) (f1:fr≤63) (hx:sq p fr≠0) (ho:y9 (sq p fr)=p.turn) (h:to∈Y0 p fr) :
  (d6 (sq p fr)≠6∧a3q p fr to=true) ∨
  (d6 (sq p fr)=6∧sq p to=0∧o4 to=o4 fr∧(k9 to=k9 fr+up p.turn∨k9 to=k9 fr+2*up p.turn∧k9 fr=1+5*p.turn∧sq p (I9 (o4 fr) (k9 fr+up p.turn))=0)) ∨
  (d6 (sq p fr)=6∧(o4 to=o4 fr+1∨o4 to=o4 fr-1)∧k9 to=k9 fr+up p.turn∧a3q p fr to=true∧(sq p to=0→to=p.ep)):=by
 obtain ⟨t0,t1⟩:=a1V h;obtain ⟨a,rfl⟩:=ze f0;obtain ⟨b,rfl⟩:=ze t0;obtain ⟨k1,k6,kx⟩:=a99 (hI.pc a).1 (hI.pc a).2 hx;unfold Y0 at h;by_cases hk:d6 (sq p a)=6
 ·right;rw [zM hk] at h;unfold S3 at h;simp only [ho] at h;rw [zr,b1E,b1F,a4x hI.pc hI.turn hI.pass] at h;simp only [yy] at h;rcases h with h|h
  ·left;rcases h with ⟨h2,h3⟩|⟨h2,h3,h4,h5,h6⟩
   ·have g:=W4 _ _ (by rw [← h2];exact t0)
    refine ⟨hk,h3,?_,.inl ?_⟩<;>rw [h2,g.2.2.2.2]<;>(simp only [o4,k9] at *;omega)
   ·have g:=W4 _ _ (by rw [← h2];exact t0)
    refine ⟨hk,h3,?_,.inr ⟨?_,h4,h6⟩⟩
    ·rw [h2,g.2.2.2.2];simp only [o4,k9] at *;omega
    ·rw [h2,g.2.2.2.2];simp only [o4,k9] at *;omega
  ·right;obtain ⟨h2,h3⟩:=h;have hc:(o4 b=o4 a+1∨o4 b=o4 a-1)∧k9 b=k9 a+up p.turn:=by
    rcases h2 with h2|h2
    ·have g:=W4 _ _ (by rw [← h2];exact t0)
     rw [h2,g.2.2.2.2];simp only [o4,k9] at *;omega
    ·have g:=W4 _ _ (by rw [← h2];exact t0)
     rw [h2,g.2.2.2.2];simp only [o4,k9] at *;omega
   refine ⟨hk,hc.1,hc.2,?_,fun hz=>?_⟩
   ·rw [a6e,hk,ho];simp only [N4,zP,zc,zZ];refine ⟨hx,?_,?_⟩
    ·rintro rfl;rcases hc.1 with h|h<;>omega
    ·rw [zJ zd,zJ zd,zM trivial];simp only [zP,zW];refine ⟨?_,by unfold dR;omega⟩
     have:dF a b=1∨dF a b=-1:=by unfold dF;omega
     rcases this with e|e<;>rw [e]<;>decide
   ·rcases h3 with ⟨h3,_⟩|h3
    ·exact absurd hz h3
    ·exact h3
 ·left;rw [zJ hk] at h;refine ⟨hk,?_⟩;rw [a6e];have:=(a1r p (fr:=a) (to:=b) zo zo rfl k1 zo).1 h;simp only [zP,zc,zZ];refine ⟨hx,?_⟩;rw [← this];unfold N4;rw [zJ hk,zJ hk]
theorem a0m {p:l9} (_hI:D0 p) (m:Mv):m∈a2L p↔H7 p m∨∃ r,a16 p r m:=by
 unfold a2L a1c S4;rw [zr,b8a,zr];constructor
 ·rintro (⟨i,hi,h⟩|h)
  ·left;unfold P2 at h;split at h
   ·cases h
   ·rename_i hn;obtain ⟨to,h1,h2⟩:=xM.1 h;obtain ⟨e1,e2,h3,h4⟩:=(a6O _ _ _ _).1 h2;obtain ⟨g0,g1⟩:=a1V h1;have hn':sq p i≠0∧y9 (sq p i)=p.turn:=⟨fun e=>hn (.inl e),yf fun e=>hn (.inr e)⟩;refine ⟨zo,zo,zo,zo,?_,by rw [e1];exact hn'.1,by rw [e1];exact hn'.2,by rw [e1,e2];exact h1,by rw [e2];exact h3,by rw [e1,e2];exact h4⟩
    intro e;rw [e1,e2] at e;subst e;rcases h3 with h3|h3
    ·exact hn'.1 h3
    ·exact h3 hn'.2
  ·right;rcases h with h|h
   ·split at h
    ·exact ⟨_,.inl rfl,by assumption,zY.1 h⟩
    ·cases h
   ·split at h
    ·exact ⟨_,.inr rfl,by assumption,by rw [zY.1 h]⟩
    ·cases h
 ·rintro (h|⟨r,h⟩)
  ·left;refine ⟨m.fr.toNat,by have:=h.f1;have:=h.f0;omega,?_⟩
   rw [zi h.f0];unfold P2;rw [zJ (by rintro (e|e);exact h.there e;exact e h.own)]
   exact xM.2 ⟨m.to,h.goal,(a6O _ _ _ _).2 ⟨rfl,rfl,h.other,h.promo⟩⟩
  ·right;rcases h.right with e|e
   ·left;rw [← e,zM h.may];exact zY.2 h.is
   ·right;rw [← e,zM h.may];exact zY.2 h.is
end Ch
end
section
open Go Go.RowKit
open E
theorem b8b:(∀ c:Fin 16,∀ n:Fin 4,decide (a02 .and .i64 (Int.fdiv (c.val:Int) (2^(min (Int.toNat (n.val:Int)) IntKind.i64.bits))) 1=0) = !Ch.U2 (c.val:Int) n.val):=by decide +kernel
theorem b8c {c:Int} {n:Nat} (h0:0≤c) (h1:c≤15) (hn:n<4):(a02 .and .i64 (Int.fdiv c (2^(min (Int.toNat (n:Int)) IntKind.i64.bits))) 1=0)↔Ch.U2 c n=false:=by
 have:=b8b ⟨c.toNat,zo⟩ ⟨n,hn⟩;simp only [zi h0] at this;constructor
 ·intro h;rw [h] at this;simpa using this
 ·intro h;rw [h] at this;simpa using this
theorem b5W (p:l9) (W:Int) (n:Nat) (i:Int):Ch.free p i W (n+1)=(Ch.free p i W n&&decide (Ch.sq p (i+((n:Int)+1)*W)=0)):=by
 rw [yv,zP,Ch.a2x,Ch.a2x,zW];constructor
 ·intro h;exact ⟨fun j hj=>h j zo,h n zo⟩
 ·rintro ⟨h1,h2⟩ j hj;by_cases e:j=n
  ·subst e;exact h2
  ·exact h1 j zo
theorem b8d:∀ r:Nat,r<4→∃ K w:Int,∃ d:Nat,Ch.A2 r=K∧(if Ch.C0 r<Ch.A2 r then (-1:Int) else 1)=w∧Ch.C0 r=K+((d:Int)+1)*w∧Ch.a5Y (Ch.C0 r-Ch.A2 r) 0=d∧(K=4∨K=60)∧(w=1∧d=2∨w=-1∧d=3):=by
 intro r hr;have:r=0∨r=1∨r=2∨r=3:=by omega
 rcases this with rfl|rfl|rfl|rfl
 ·exact ⟨4,1,2,zd,zd,zd,zd,zd,zd⟩
 ·exact ⟨4,-1,3,zd,zd,zd,zd,zd,zd⟩
 ·exact ⟨60,1,2,zd,zd,zd,zd,zd,zd⟩
 ·exact ⟨60,-1,3,zd,zd,zd,zd,zd,zd⟩
def a41 (p:l9):Nat→List Mv
 | 0=>[]
 | n+1=>a41 p n++Ch.S4 p ((2*p.turn).toNat+n)
theorem b5X (p:l9):∀ n,(a41 p n).length≤n:=by
 intro n
 induction n with
 | zero=>simp [a41]
 | succ n ih=>simp only [a41,zF];unfold Ch.S4;split<;>simp<;>omega
theorem b5Y (p:l9) (hI:Ch.D0 p) (w:World) :
  Calls G.P 180 #[D3 p] w (b19 36 3 J3 (Ch.a1c p) w):=by
 have ht:=hI.turn;have c0:=hI.c0;have c1:=hI.c1;have hp:Pc p:=hI.pc;refine zN Tryz.func180 ?_;refine zG ?_;refine zR ?_;generalize hW:w.alloc (.cells (s7 p) 24)=W0;have hP:∀ w',Cl W0 w'→w'.heap[w.heap.size]?=some (.cells (s7 p) 24 (0,0)):=fun w' h=>(hW▸h:Cl (w.alloc (.cells (s7 p) 24)) w').blk (d9 _ _);have hE:∀ w',Cl W0 w'→Cl w w':=fun w' h=>(Cl.alloc _ _).trans (hW▸h);have t2:IntKind.i64.wrap (2*p.turn)=2*p.turn:=g9 zo zo;have t3:IntKind.i64.wrap (2*p.turn+2)=2*p.turn+2:=g9 zo zo;have t1:IntKind.i64.wrap (1-p.turn)=1-p.turn:=g9 zo zo;refine zR ?_;refine b7 _ (E9 (hP _ (Cl.refl _))) (zR ?_);refine B6 (σ:=Nat×Value) [3,4,5,6,7,8,9] 10 (fun a=>[(3,a.2),(4,.int .i64 (2*p.turn+a.1))]) (fun a w'=>a.1≤2∧Row 36 3 J3 W0.heap.size w' a.2 (a41 p a.1)∧Cl W0 w') (fun a=>2-a.1) zk (0,.slice none 0 0)
  ⟨zo,Row.nil _ _,Cl.refl _⟩ ⟨rfl,d8 (by rw [t2];simp),trivial⟩ ?_
 rintro ⟨n,v⟩ j w1 ⟨hn,hrow,hcl⟩;simp only at hn hrow;obtain ⟨a,c,rfl,_⟩:=hrow.form;have hlen:=b5X p n;refine zR ?_;refine b7 _ (E9 (hP _ hcl)) (zR ?_);apply E.b9<;>intro h
 ·have hn2:n<2:=by simp only [t2,t3] at h;omega
  clear h;generalize hr:(2*p.turn).toNat+n=r;have hr4:r<4:=by omega
  have hri:(2*p.turn+(n:Int))=(r:Int):=by omega
  simp only [hri];have hstep:a41 p (n+1)=a41 p n++Ch.S4 p r:=by simp only [a41,hr]
  obtain ⟨K,W,d,eK,eW,eR,eD,hK,hWd⟩:=b8d r hr4;rw [eK] at eW eD;refine zR ?_;refine l8 (b3p _ _ zo zo) ?_;simp only [eK,eR];refine zR ?_;refine b7 _ (A3 (hP _ hcl)) (zR ?_);refine o9 (b16 p _ c0 c1) fun w2 e2=>?_;rw [hI.rights];have hcl2:=hcl.trans e2;have hrow2:=hrow.step e2;refine zR ?_;intro r1 hr1;refine zR ?_;intro r2 hr2;have hbi:=b8c c0 c1 hr4;rw [← hr1,← hr2] at hbi;clear hr1 hr2;have hone:Ch.S4 p r=if (Ch.U2 p.castle r && !Ch.B7 p K (1-p.turn)&&(!Ch.B7 p (K+W) (1-p.turn)&&Ch.free p K W d))=true then [⟨K,K+2*W,0⟩] else []:=by
   unfold Ch.S4 Ch.a1p Ch.a2K Ch.p8;simp only [hI.rights,eK,eW,eD]
  have nx:(2*p.turn+((n+1:Nat):Int))=(r:Int)+1:=by push_cast;omega
  refine zR ?_;apply E.b9<;>intro h
  ·rw [hbi.1 h] at hone;simp only [xi,yD,xh] at hone;rw [hone,zn] at hstep;refine zR ?_;refine ⟨(n+1,_),⟨rfl,d8 (by rw [nx,g9 zo zo]),trivial⟩,⟨by simp only;omega,by simp only [hstep];exact hrow2,hcl2⟩,by simp only;omega⟩
  have hb:Ch.U2 p.castle r=true:=by
   cases hx:Ch.U2 p.castle r
   ·exact absurd (hbi.2 hx) h
   ·rfl
  clear h hbi;rw [hb] at hone;simp only [yV] at hone;refine zR ?_;refine b7 _ (A3 (hP _ hcl2)) (zR ?_);refine b7 _ (E9 (hP _ hcl2)) (zR ?_);simp only [t1];refine o9 (a12 p hp K (1-p.turn) _ zo zo) fun w3 e3=>?_;have hcl3:=hcl2.trans e3;have hrow3:=hrow2.step e3;cases hA:Ch.B7 p K (1-p.turn)
  ·rw [hA] at hone;simp only [Bool.not_false,yV] at hone;have hWc:(if K+((d:Int)+1)*W<K then (-1:Int) else 1)=W:=by
    rcases hWd with ⟨rfl,rfl⟩|⟨rfl,rfl⟩
    ·rw [zJ zo]
    ·rw [zM zo]
   refine zG ?_;refine Nx.mk (zG ?_);refine Nx.mk (zG ?_);refine C3 (σ:=Unit) [7] 10 (fun _=>[(7,.int .i64 W)]) (fun _ w'=>w'=w3) zk ?_ (fun _ j w4 e4=>?_)
   ·refine zR ?_;apply E.b9<;>intro h
    ·rw [zM h] at hWc;refine zR ?_;exact ⟨(),⟨d8 hWc,trivial⟩,rfl⟩
    ·rw [zJ h] at hWc;refine zR ?_;exact ⟨(),⟨d8 hWc,trivial⟩,rfl⟩
   subst e4;have hKW:0≤K+W∧K+W≤63:=by omega
   have m1:IntKind.i64.wrap (K+W)=K+W:=g9 zo zo;refine zR ?_;refine b7 _ (A3 (hP _ hcl3)) (zR ?_);refine b7 _ (E9 (hP _ hcl3)) (zR ?_);simp only [t1,m1];refine o9 (a12 p hp (K+W) (1-p.turn) _ hKW.1 hKW.2) fun w5 e5=>?_;have hcl5:=hcl3.trans e5;have hrow5:=hrow3.step e5;generalize hB:Ch.B7 p (K+W) (1-p.turn)=B at hone;refine zR ?_;refine B6 (σ:=Nat) [8,9] 10 (fun a=>[(8,.bool (!B&&Ch.free p K W a)),(9,.int .i64 (K+((a:Int)+1)*W))]) (fun a w'=>a≤d∧w'=w5) (fun a=>d-a) zk 0
    ⟨zo,rfl⟩ ⟨yH Value.bool (by simp [Ch.free]),d8 (by rw [m1];simp),trivial⟩ ?_
   rintro m j6 w6 ⟨hm,rfl⟩;have hmW:(W=1∨W=-1)∧d≤3:=by omega
   have hpos:0≤K+((m:Int)+1)*W∧K+((m:Int)+1)*W≤63:=by
    rcases hWd with ⟨rfl,rfl⟩|⟨rfl,rfl⟩<;>omega
   refine zR ?_;apply E.y6<;>intro h
   ·have hmd:m<d:=by
     rcases wO m d with h'|h'
     ·exact h'
     ·exfalso;apply h;rw [show m=d by omega]
    have fs:=b5W p W m K;have m2:IntKind.i64.wrap (K+((m:Int)+1)*W+W)=K+(((m+1:Nat):Int)+1)*W:=by
     rw [g9 zo zo];rcases hmW.1 with rfl|rfl<;>push_cast<;>omega
    cases hf:(!B&&Ch.free p K W m)
    ·have hf2:(!B&&Ch.free p K W (m+1))=false:=by rw [fs,← Bool.and_assoc,hf];rfl
     refine zR ?_;refine ⟨m+1,⟨yH Value.bool hf2.symm,d8 m2,trivial⟩,⟨zo,rfl⟩,zo⟩
    ·have hf2:(!B&&Ch.free p K W (m+1))=decide (Ch.sq p (K+((m:Int)+1)*W)=0):=by rw [fs,← Bool.and_assoc,hf];rfl
     refine zR ?_;refine E.A8 (F2.2 ⟨hpos.1,zo⟩) (zR ?_);refine b7 _ (O4 (hP _ hcl5) _ hpos.1 zo) (zR ?_);refine ⟨m+1,⟨yH Value.bool hf2.symm,d8 m2,trivial⟩,⟨zo,rfl⟩,zo⟩
   ·have hmd:m=d:=by
     rcases hmW.1 with rfl|rfl<;>omega
    subst hmd;cases hf:(!B&&Ch.free p K W m)
    ·rw [hf] at hone;simp only [yD,xh] at hone;rw [hone,zn] at hstep;refine zR ?_;refine ⟨(n+1,_),⟨rfl,d8 (by rw [nx,g9 zo zo]),trivial⟩,⟨by simp only;omega,by simp only [hstep];exact hrow5,hcl5⟩,by simp only;omega⟩
    ·rw [hf] at hone;simp only [xy] at hone;rw [hone] at hstep;have m3:IntKind.i64.wrap (2*W)=2*W:=g9 zo zo;have m4:IntKind.i64.wrap (K+2*W)=K+2*W:=g9 zo zo;refine zR ?_;simp only [m3,m4];refine y7 #[.int .i64 K,.int .i64 (K+2*W),.int .i64 0] zk (zR ?_);refine G2 a7Z [.agg #[.int .i64 K,.int .i64 (K+2*W),.int .i64 0]] (by rw [zb];rfl) (by simp [Value.cells]) rfl zd zd (zR ?_)
     refine a0l (enc:=J3) a7Z ⟨K,K+2*W,0⟩ rfl hrow5 rfl rfl rfl D9 J6 zo zd hcl5.size (fun v' w7 hr hc=>?_);obtain ⟨a7,cc7,rfl,_⟩:=hr.form;refine zR ?_;refine ⟨(n+1,_),⟨rfl,d8 (by rw [nx,g9 zo zo]),trivial⟩,⟨by simp only;omega,by simp only [hstep];exact hr,hc.cl W0 rfl hcl5⟩,by simp only;omega⟩
  ·rw [hA] at hone;simp only [xw,xi,yD,xh] at hone;rw [hone,zn] at hstep;refine zR ?_;refine ⟨(n+1,_),⟨rfl,d8 (by rw [nx,g9 zo zo]),trivial⟩,⟨by simp only;omega,by simp only [hstep];exact hrow3,hcl3⟩,by simp only;omega⟩
 ·have hn2:n=2:=by simp only [t2,t3] at h;omega
  subst hn2;refine zR ?_;refine ⟨_,rfl,?_,hE _ hcl⟩;have e:Ch.a1c p=a41 p 2:=by simp [Ch.a1c,a41]
  rw [e];exact hrow.mono (by have:=(hE _ (Cl.refl _)).size;omega)
theorem a9A {α:Type}:∀ (l:List α) (k:Nat) (h:k+1<l.length),((l.set (k+1) l[k]).set k l[k+1]).Perm l:=by
 intro l
 induction l with
 | nil=>intro k h;simp at h
 | cons x r ih =>
  intro k h;cases k with
  | zero =>
   cases r with
   | nil=>simp at h
   | cons y r=>simp only [List.getElem_cons_zero,List.getElem_cons_succ,List.set_cons_succ,List.set_cons_zero];exact List.Perm.swap _ _ _
  | succ k =>
   simp only [List.getElem_cons_succ,List.set_cons_succ];exact (ih k (by simpa using h)).cons x
theorem Row.turn {α:Type} {e z b0:Nat} {enc:α→List Value} {w:World} {l:List α} {g n c:Nat} (h:Row e z enc b0 w (.slice (some ⟨g,0,none⟩) n c) l) (henc:∀ x,(enc x).length=z) (i:Nat) (hi:i<l.length) (x:α) :
  ∃ cs,w.heap[g]?=some (.cells cs e (0,0))∧i*z+z≤cs.size∧b0≤g∧∀ w',Upd w g (.cells (L8 cs (i*z) (enc x)) e (0,0)) w'→Row e z enc b0 w' (.slice (some ⟨g,0,none⟩) n c) (l.set i x):=by
 have hl:=h.1;rcases h.2 with ⟨e1,_⟩|⟨g',cap,cur,e1,e2,e3,e4,e5,e6,e7⟩
 ·cases e1
 ·injection e1 with e1 e8 e9;injection e1 with e1;injection e1 with e1 _ _;subst e1;subst e8;subst e9;have hle:(i+1)*z≤l.length*z:=xQ _ zo;rw [wA] at hle;have hsz:l.length*z≤cur.size:=by rw [e6];exact xQ _ e4
  refine ⟨cur,e3,zo,e2,fun w' hu=>⟨by rw [G4 henc],.inr ⟨g,c,_,by rw [List.length_set],e2,hu.at_,by rw [List.length_set];exact e4,e5,by rw [a0a];exact e6,?_⟩⟩⟩
  rw [List.length_set];apply List.ext_getElem?;intro k;by_cases hk:k<l.length*z
  ·have hz:0<z:=by
    rcases Nat.eq_zero_or_pos z with h0|h0
    ·subst h0;simp at hk
    ·exact h0
   rw [xe,zM hk,xB,S0 _ _ _ _ (by rw [henc];omega),henc]
   have hq:k/z<l.length:=Nat.div_lt_of_lt_mul (by rw [Nat.mul_comm];exact hk)
   have hkz:k/z*z+k%z=k:=by rw [Nat.mul_comm];exact Nat.div_add_mod k z
   have hm:=Nat.mod_lt k hz;have hR:=a3t henc (l.set i x) (k/z) (k%z) (by rw [List.length_set];exact hq) hm
   rw [hkz] at hR;rw [hR,List.getElem_set];by_cases hik:i=k/z
   ·subst hik;rw [zM rfl,zM zo];congr 1;omega
   ·rw [zJ hik];have hL:=a3t henc l (k/z) (k%z) hq hm;rw [hkz] at hL;have hneg:¬ (i*z≤k∧k<i*z+z):=by
     rintro ⟨h1,h2⟩;apply hik;rcases wO (k/z) i with h3|h3
     ·have:(k/z+1)*z≤i*z:=xQ _ h3;rw [wA] at this;omega
     ·rcases wO i (k/z) with h4|h4
      ·have:(i+1)*z≤k/z*z:=xQ _ h4;rw [wA] at this;omega
      ·omega
    rw [zJ hneg,← hL,← e7,xe,zM hk];simp
  ·rw [xH (by simp;omega),xH (by rw [G4 henc,List.length_set];omega)]
theorem K4 {α:Type} {t e z b:Nat} (E1:F0 t e z b) {enc:α→List Value} {b0 b1:Nat} {v vx:Value} {l news:List α} {dst:Option Nat} {s x:Operand} {ty:Nat} {pos:String} {af:Array Edge} {gd:Option (Nat×Bool)} {env:C8} {w:World} {K:Value→World→Prop}
  (hs:ev env s=v) (hrow:Row e z enc b0 w v l) (hx:ev env x=vx) (hB:Row e z enc b1 w vx news) (henc:∀ x,(enc x).length=z)
  (hone:∀ x,∀ u∈enc x,u.oneCell'=true) (hlen:l.length+news.length≤100000) (hbz:b≤1000) (hb0:b0≤w.heap.size)
  (h:∀ v' w',Row e z enc b0 w' v' (l++news)→a6c b0 w v w' v'→K v' w') :
  H4 G.P { dst,op:=.call { callee:=.builtin .append,args:=#[s,x],argTypes:=#[t,t] },type:=ty,pos,after:=af,guard:=gd } env w K:=by
 obtain ⟨a,c,rfl,ha⟩:=hB.form;cases a with
 | some ad =>
  rcases hB.2 with ⟨e1,_⟩|⟨g,cap,cur,e1,_,e3,_,_,_,e7⟩
  ·cases e1
  ·injection e1 with e1 e8 e9;injection e1 with e1;subst e1;subst e9;refine a5u E1 hs hrow hx (fun j u hu=>?_) henc hone hlen hbz hb0 h;have hj:j<news.length*z:=by
    have:=(xS.1 hu).1
    rwa [G4 henc] at this
   rw [C9 e3,← xB];rw [← e7,xe,zM hj] at hu;exact hu
 | none =>
  have hn:news.length=0:=by
   rcases Nat.eq_zero_or_pos news.length with h0|h0
   ·exact h0
   ·obtain ⟨g,hg⟩:=ha h0;cases hg
  have hnn:=xx hn;subst hnn;obtain ⟨i,zv,hi,hzv,hsz,hby,hzs⟩:=E1.info;obtain ⟨a1,c1,rfl,_⟩:=hrow.form;have hle:l.length≤c1:=by
   rcases hrow.2 with ⟨e1,e2⟩|⟨g,cap,cur,e1,_,_,e4,_⟩
   ·injection e1 with _ _ e3;omega
   ·injection e1 with _ _ e3;omega
  refine ⟨.inl ⟨_,w,?_,h _ w (by rw [zn];exact hrow) ⟨fun _ _ hc=>hc,fun _ _ hk _=>hk,.inl rfl⟩⟩⟩
  have hr:(Builtin.append_ #[t,t] ty #[.slice a1 l.length c1,.slice none 0 c]).run G.P w = .ok (.slice a1 l.length c1) w:=by
   cases a1<;>simp [Builtin.append_,Go.run_underlying E1.ty,sizeOf,typeInfo,hi,Builtin.lenOf,Builtin.firstCells,loadCells,loadCellsFrom,hle,storeCells]
  simp only [execOp,resolve,invoke,builtin,yj,xY,yp,xO,yQ,xb,hs,hx];simp only [za] at hx ⊢;rw [hr];rfl
theorem b4N {t e z b:Nat} (E1:F0 t e z b) {dst:Option Nat} {ty:Nat} {pos:String} {af:Array Edge} {gd:Option (Nat×Bool)} {env:C8} {w:World} {K:Value→World→Prop}
  (h:K (.slice (some ⟨w.heap.size,0,none⟩) 0 0) (w.alloc (.cells #[] e))) :
  H4 G.P { dst,op:=.buildSlice t 0 #[],type:=ty,pos,after:=af,guard:=gd } env w K:=by
 refine ⟨.inl ⟨_,_,?_,h⟩⟩;obtain ⟨i,zv,hi,hzv,hsz,hby,hzs⟩:=E1.info;show (do pure (Next.value (← Instr.buildSlice t 0 _)):Sem Next).run G.P w=_
 simp [Instr.buildSlice,Go.run_underlying E1.ty,sizeOf,typeInfo,hi,Instr.fill,newRow];congr 2;apply Array.eq_empty_of_size_eq_zero;simp
theorem a2Q {α:Type} {e z b0:Nat} {enc:α→List Value} {w:World} {l:List α} {g c n:Nat} {t:Nat} (h:Row e z enc b0 w (.slice (some ⟨g,0,none⟩) n c) l) (henc:∀ x,(enc x).length=z) (i:Nat) (hi:i<l.length)
  (ht:(match U5 G.T t with|some (.struct z' _)=>decide (z'=z)|some (.array n _ z')=>decide (n*z'=z)|_=>false)=true) {o:Nat} (ho:o=i*z) {v:Value} (hv:v = .agg (enc l[i]).toArray):g8 G.P w t ⟨g,o,none⟩ v:=by
 subst ho;subst hv;obtain ⟨cur,h1,h2,h3⟩:=h.getAll henc i hi;have:=ldA (t:=t) (o:=i*z) (z:=z) h1 ht h2;rw [h3] at this;exact this
def a5y (a b:Mv):Bool:=if a.fr≠b.fr then decide (a.fr<b.fr) else if a.to≠b.to then decide (a.to<b.to) else decide (a.promo<b.promo)
theorem b8e (a b:Mv) (w:World):Calls G.P 218 #[mvV a,mvV b] w (N2 (.bool (a5y a b)) w):=by
 refine zN Tryz.func218 ?_;refine zG ?_;generalize hW:(w.alloc (.cells (S8 a) 36)).alloc (.cells (S8 b) 36)=W0;have hA:W0.heap[w.heap.size]?=some (.cells (S8 a) 36 (0,0)):=hW▸(Cl.alloc _ _).blk (d9 _ _);have hB:W0.heap[(w.alloc (.cells (S8 a) 36)).heap.size]?=some (.cells (S8 b) 36 (0,0)):=hW▸d9 _ _;have hE:Cl w W0:=hW▸(Cl.alloc _ _).trans (Cl.alloc _ _);refine zR ?_;refine b7 _ (N7 hA) (zR ?_);refine b7 _ (N7 hB) (zR ?_);apply E.y6<;>intro h
 ·refine zR ?_;refine b7 _ (N7 hA) (zR ?_);refine b7 _ (N7 hB) (zR ?_);exact ⟨by simp [a5y,h],hE⟩
 have h1:=h;clear h;refine zR ?_;refine b7 _ (a0w hA) (zR ?_);refine b7 _ (a0w hB) (zR ?_);apply E.y6<;>intro h
 ·refine zR ?_;refine b7 _ (a0w hA) (zR ?_);refine b7 _ (a0w hB) (zR ?_);exact ⟨by simp [a5y,h1,h],hE⟩
 refine zR ?_;refine b7 _ (a0k hA) (zR ?_);refine b7 _ (a0k hB) (zR ?_);exact ⟨by simp [a5y,h1,h],hE⟩
theorem b5Z (l:List Mv) (v:Value) (w:World) (b1:Nat) (hr:Row 36 3 J3 b1 w v l) (hl:l.length≤50000) :
  Calls G.P 179 #[v] w (fun r w'=>∃ v l',r = .returned v∧l'.Perm l∧Row 36 3 J3 w.heap.size w' v l'∧Cl w w'):=by
 obtain ⟨a,c,rfl,_⟩:=hr.form;refine zN Tryz.func179 ?_;refine zG ?_;refine zR ?_;refine b4N a7Z ?_;have r0:Row 36 3 J3 w.heap.size (w.alloc (.cells #[] 36)) (.slice (some ⟨w.heap.size,0,none⟩) 0 0) []:=L4 D9 w [] (by simp) [] rfl
 have hr1:=hr.step (Cl.alloc w (.cells #[] 36));generalize hW0:w.alloc (.cells #[] 36)=W0 at *;have c0:Cl w W0:=hW0▸Cl.alloc _ _;refine zR ?_;refine K4 (v:=.slice (some ⟨w.heap.size,0,none⟩) 0 0) a7Z rfl r0 rfl hr1 D9 J6 (by simp;omega) zd c0.size (fun v' w1 hr2 hg=>?_)
 have c1:Cl w w1:=hg.cl w rfl c0;have hg2:∃ g c',v' = .slice (some ⟨g,0,none⟩) l.length c':=by
  obtain ⟨a',c',rfl,_⟩:=hr2.form;rcases hg.at_ with e|⟨k,e,_⟩
  ·cases a' with
   | none=>simp [Value.ownBlock] at e
   | some ad =>
    rcases hr2.2 with ⟨e1,_⟩|⟨g,cap,cur,e1,_⟩
    ·cases e1
    ·injection e1 with e1 _ _;injection e1 with e1;subst e1;exact ⟨g,c',by simp⟩
  ·cases a' with
   | none=>simp [Value.ownBlock] at e
   | some ad =>
    rcases hr2.2 with ⟨e1,_⟩|⟨g,cap,cur,e1,_⟩
    ·cases e1
    ·injection e1 with e1 _ _;injection e1 with e1;subst e1;exact ⟨g,c',by simp⟩
 obtain ⟨g,c',rfl⟩:=hg2;simp only [yM] at hr2;clear hg;refine zR ?_;refine B6 (σ:=Nat×List Mv) [4,5] 6 (fun a=>[(4,.int .i64 a.1)]) (fun a w'=>1≤a.1∧(a.1≤l.length∨a.1=1)∧a.2.Perm l∧Row 36 3 J3 w.heap.size w' (.slice (some ⟨g,0,none⟩) l.length c') a.2∧Cl w w') (fun a=>l.length-a.1) zk (1,l)
  ⟨yJ _,.inr rfl,List.Perm.refl _,hr2,c1⟩ ⟨rfl,trivial⟩ ?_
 rintro ⟨i,l1⟩ j w2 ⟨hi1,hi2,hp,hrow,hcl⟩;simp only at hi1 hi2 hp hrow;refine zR ?_;apply E.b9<;>intro h
 ·have hil:i<l.length:=by simp only at h;omega
  clear h;refine zR ?_;refine B6 (σ:=Nat×List Mv) [5] 6 (fun a=>[(5,.int .i64 a.1)]) (fun a w'=>a.1≤i∧a.2.Perm l∧Row 36 3 J3 w.heap.size w' (.slice (some ⟨g,0,none⟩) l.length c') a.2∧Cl w w') (fun a=>a.1) zk (i,l1)
   ⟨yJ _,hp,hrow,hcl⟩ ⟨rfl,trivial⟩ ?_
  rintro ⟨k,l2⟩ j2 w3 ⟨hk,hp2,hrow,hcl⟩;simp only at hk hp2 hrow;have hlen:=hp2.length_eq;have ldK:∀ w',Cl w3 w'→∀ m (hm:m<l2.length) o,o=m*3→g8 G.P w' 36 ⟨g,o,none⟩ (mvV l2[m]):=fun w' hw m hm o ho=>a2Q (hrow.step hw) D9 m hm rfl ho rfl;refine zR ?_;refine zK 14 ?_;refine zR ?_;apply E.b9<;>intro h
  ·have hk0:0<k:=by simp only at h;omega
   have hk2:k<l2.length:=by omega
   clear h;obtain ⟨k1,rfl⟩:∃ k1,k=k1+1:=⟨k-1,zo⟩;have m1:IntKind.i64.wrap (((k1+1:Nat):Int)-1)=(k1:Int):=by rw [g9 zo zo];omega
   refine zR ?_;refine zC ?_;refine zR ?_;refine m7 _ (fun w hw=>ldK w hw (k1+1) hk2 _ ?_) ?_
   ·simp [E.r9]
   refine zR ?_;simp only [m1];refine zC ?_;refine zR ?_;refine m7 _ (fun w hw=>ldK w hw k1 zo _ ?_) ?_
   ·simp [E.r9]
   refine zR ?_;refine E2 _ (fun _ _ h=>h.trans) (fun w _=>b8e _ _ _) ?_;cases hT:a5y l2[k1+1] l2[k1]
   ·refine zR ?_;intro w4 c4;refine zR ?_;refine ⟨(i+1,l2),⟨d8 (by rw [g9 zo zo];push_cast;omega),trivial⟩,⟨by simp only;omega,by simp only;omega,hp2,hrow.step c4,hcl.trans c4⟩,by simp only;omega⟩
   ·refine zR ?_;intro w4 c4;have hrow4:=hrow.step c4;have hcl4:=hcl.trans c4;have ldK4:∀ w',Cl w4 w'→∀ m (hm:m<l2.length) o,o=m*3→g8 G.P w' 36 ⟨g,o,none⟩ (mvV l2[m]):=fun w' hw m hm=>ldK w' (c4.trans hw) m hm;refine zR ?_;refine J2.mk2 [0,1,2,3,4,5,6,7,8,10,11,12] (.cons 9 (.cons 13 (.cons 14 (.cons 15 (.cons 16 (.cons 17 .done .nil) .nil) .nil) .nil) .nil) (.cons 13 (.cons 9 (.cons 14 (.cons 15 (.cons 16 (.cons 17 .done .nil) .nil) .nil) .nil) .nil) .nil)) zk (zR ?_);simp only [m1];refine zC ?_;refine zR ?_;refine zC ?_;refine zR ?_;have cd:Cl w4 w4.drew:=Cl.drew (Cl.refl _);have hcd:Cl w w4.drew:=hcl4.trans cd;obtain ⟨cs,g1,g2,g3,t1⟩:=(hrow4.step cd).turn D9 (k1+1) hk2 l2[k1];refine And.intro ?_ (And.intro ?_ trivial)
    ·refine zR ?_;refine b7 _ (ldK4 _ cd k1 zo _ (by simp [E.r9])) (zE ?_)
     refine b7 _ (ldK4 _ cd (k1+1) hk2 _ (by simp [E.r9])) (zE ?_)
     refine zC ?_;refine zE ?_;refine K9 g1 (J3 l2[k1]) rfl b3o rfl (J6 _) (by rw [E.r9];omega) (fun w5 u5=>?_)
     have hr5:=t1 w5 (by rw [E.r9] at u5;simpa using u5)
     have hc5:Cl w w5:=u5.cl hcd g3;obtain ⟨cs2,q1,q2,q3,q4⟩:=hr5.turn D9 k1 (by rw [List.length_set];omega) l2[k1+1]
     refine zE ?_;simp only [m1];refine zC ?_;refine zE ?_;refine K9 q1 (J3 l2[k1+1]) rfl b3o rfl (J6 _) (by rw [E.r9];omega) (fun w6 u6=>?_)
     have hr6:=q4 w6 (by rw [E.r9] at u6;simpa using u6)
     have hc6:Cl w w6:=u6.cl hc5 q3;refine zR ?_;refine ⟨(k1,(l2.set (k1+1) l2[k1]).set k1 l2[k1+1]),⟨d8 m1,trivial⟩,⟨by simp only;omega,(a9A l2 k1 hk2).trans hp2,hr6,hc6⟩,by simp only;omega⟩
    ·refine zR ?_;refine b7 _ (ldK4 _ cd (k1+1) hk2 _ (by simp [E.r9])) (zE ?_)
     refine b7 _ (ldK4 _ cd k1 zo _ (by simp [E.r9])) (zE ?_)
     refine zC ?_;refine zE ?_;refine K9 g1 (J3 l2[k1]) rfl b3o rfl (J6 _) (by rw [E.r9];omega) (fun w5 u5=>?_)
     have hr5:=t1 w5 (by rw [E.r9] at u5;simpa using u5)
     have hc5:Cl w w5:=u5.cl hcd g3;obtain ⟨cs2,q1,q2,q3,q4⟩:=hr5.turn D9 k1 (by rw [List.length_set];omega) l2[k1+1]
     refine zE ?_;simp only [m1];refine zC ?_;refine zE ?_;refine K9 q1 (J3 l2[k1+1]) rfl b3o rfl (J6 _) (by rw [E.r9];omega) (fun w6 u6=>?_)
     have hr6:=q4 w6 (by rw [E.r9] at u6;simpa using u6)
     have hc6:Cl w w6:=u6.cl hc5 q3;refine zR ?_;refine ⟨(k1,(l2.set (k1+1) l2[k1]).set k1 l2[k1+1]),⟨d8 m1,trivial⟩,⟨by simp only;omega,(a9A l2 k1 hk2).trans hp2,hr6,hc6⟩,by simp only;omega⟩
  ·refine zR ?_;intro w4 c4;refine zR ?_;refine ⟨(i+1,l2),⟨d8 (by rw [g9 zo zo];push_cast;omega),trivial⟩,⟨by simp only;omega,by simp only;omega,hp2,hrow.step c4,hcl.trans c4⟩,by simp only;omega⟩
 ·have hil:l.length≤i:=by simp only at h;omega
  refine zR ?_;exact ⟨_,l1,rfl,hp,hrow,hcl⟩
theorem a6P (p:l9) (a b:Int):(Ch.K8 p a b).length≤4:=by
 unfold Ch.K8 Ch.a3u;repeat' split
 all_goals simp
theorem a9B (p:l9) (a:Int):(Ch.Y0 p a).length≤56:=by
 unfold Ch.Y0;split
 ·unfold Ch.S3;have h1:=a5w p a (Ch.y9 (Ch.sq p a));have h2:=a5v a (Ch.y9 (Ch.sq p a));have h3:=xG (Ch.I5 p (Ch.y9 (Ch.sq p a))) (Ch.K2 a (Ch.y9 (Ch.sq p a)));simp only [zF];omega
 ·unfold Ch.a5r;have h1:=a7y (fun d:Int×Int=>Ch.ray p a d.1 d.2 (Ch.far (Ch.d6 (Ch.sq p a))) 7 1) 7 (fun d=>b4I _ _ _ _ _ _ _) (Ch.a7i (Ch.d6 (Ch.sq p a)));have h2:=(a8c (Ch.d6 (Ch.sq p a))).1;have h3:(Ch.a7i (Ch.d6 (Ch.sq p a))).length*7≤8*7:=xQ _ h2;exact zw h1 (zw h3 zd)
theorem a9q (p:l9) (a:Int):(Ch.P2 p a).length≤224:=by
 unfold Ch.P2;split
 ·simp
 ·have h1:=a7y (Ch.K8 p a) 4 (a6P p a) (Ch.Y0 p a);have h2:(Ch.Y0 p a).length*4≤56*4:=xQ _ (a9B p a);omega
theorem a42 (p:l9):∀ n,(Ch.J5 p n).length≤n*224:=by
 intro n
 induction n with
 | zero=>simp [Ch.J5]
 | succ n ih=>simp only [Ch.J5,zF];have:=a9q p n;omega
theorem b8f (p:l9) (hI:Ch.D0 p) (w:World) :
  Calls G.P 115 #[D3 p] w (fun r w'=>∃ v l',r = .returned v∧l'.Perm (Ch.a2L p)∧Row 36 3 J3 w.heap.size w' v l'∧Cl w w'):=by
 have ht:=hI.turn;have hp:Pc p:=hI.pc;have hep:-1≤p.ep∧p.ep≤63:=⟨(Ch.S5 hI.pass).1,(Ch.S5 hI.pass).2.1⟩;refine zN Tryz.func115 ?_;refine zG ?_;refine zR ?_;generalize hW:w.alloc (.cells (s7 p) 24)=W0;have hP:∀ w',Cl W0 w'→w'.heap[w.heap.size]?=some (.cells (s7 p) 24 (0,0)):=fun w' h=>(hW▸h:Cl (w.alloc (.cells (s7 p) 24)) w').blk (d9 _ _);have hE:∀ w',Cl W0 w'→Cl w w':=fun w' h=>(Cl.alloc _ _).trans (hW▸h);have q1:IntKind.i64.wrap (7*p.turn)=7*p.turn:=g9 zo zo;have q2:IntKind.i64.wrap (7-7*p.turn)=7-7*p.turn:=g9 zo zo;refine zR ?_;refine B6 (σ:=Nat×Value) [3,4,5,6,7,8,9] 10 (fun a=>[(3,a.2),(4,.int .i64 a.1)]) (fun a w'=>a.1≤64∧Row 36 3 J3 W0.heap.size w' a.2 (Ch.J5 p a.1)∧Cl W0 w') (fun a=>64-a.1) zk (0,.slice none 0 0)
  ⟨zo,Row.nil _ _,Cl.refl _⟩ ⟨rfl,rfl,trivial⟩ ?_
 rintro ⟨n,v⟩ j w1 ⟨hn,hrow,hcl⟩;simp only at hn hrow;obtain ⟨a,c,rfl,_⟩:=hrow.form;have hlen:=a42 p n;refine zR ?_;apply E.b9<;>intro h
 ·have hn64:n<64:=by simp only at h;omega
  clear h;have hstep:Ch.J5 p (n+1)=Ch.J5 p n++Ch.P2 p n:=rfl;generalize hM:Ch.J5 p n=M at *;have nx:IntKind.i64.wrap ((n:Int)+1)=((n+1:Nat):Int):=by rw [g9 zo zo];push_cast;omega
  refine zR ?_;refine zC ?_;refine zR ?_;refine b7 _ (O4 (hP _ hcl) _ zo zo) (zR ?_);refine zK 9 ?_;refine zR ?_;have skip:(Ch.sq p n=0∨Ch.y9 (Ch.sq p n)≠p.turn)→Ch.P2 p n=[]:=fun h=>by unfold Ch.P2;rw [zM h]
  apply E.b9<;>intro h
  ·rw [skip (.inl h),zn] at hstep;refine zR ?_;intro w2 c2;refine zR ?_;exact ⟨(n+1,_),⟨rfl,d8 nx,trivial⟩,⟨by simp only;omega,by simp only [hstep];exact hrow.step c2,hcl.trans c2⟩,by simp only;omega⟩
  have hz:=h;clear h;refine zR ?_;refine m8 _ (fun w _=>a11 _ _) (zR ?_);refine m7 _ (fun w hw=>E9 (hP _ (hcl.trans hw))) (zR ?_);intro w2 c2;have hrow2:=hrow.step c2;have hcl2:=hcl.trans c2;refine zR ?_;apply E.y6<;>intro h
  ·rw [skip (.inr h),zn] at hstep;refine zR ?_;exact ⟨(n+1,_),⟨rfl,d8 nx,trivial⟩,⟨by simp only;omega,by simp only [hstep];exact hrow2,hcl2⟩,by simp only;omega⟩
  have hs:=h;clear h;have hfrom:Ch.P2 p n=(Ch.Y0 p n).flatMap (Ch.K8 p n):=by unfold Ch.P2;rw [zJ (by rintro (e|e);exact hz e;exact e hs)]
  rw [hfrom] at hstep;have hgr:∀ x∈Ch.Y0 p n,0≤x∧x≤63:=fun x hx=>Ch.a1V hx;have hgl:=a9B p n;refine zG ?_;refine Nx.mk (zG ?_);refine C3 (σ:=Value) [6] 10 (fun v=>[(6,v)]) (fun v w'=>Row 3 1 P1 w2.heap.size w' v (Ch.Y0 p n)∧Cl w2 w') zk ?_ (fun v j w3 h=>?_)
  ·refine zR ?_;refine l8 (P3 _ _ (Pc.lo hp _) (Pc.hi hp _)) (zR ?_);apply E.b9<;>intro h
   ·have hg:Ch.Y0 p n=Ch.S3 p n:=by unfold Ch.Y0;rw [zM h]
    rw [hg];refine zR ?_;refine b7 _ (A3 (hP _ hcl2)) (zR ?_);refine a3x (c0s p n hp _ zo zo zo zo) fun v w3 h3 c3=>?_;obtain ⟨a3,cc3,rfl,_⟩:=h3.form;refine zR ?_;exact ⟨_,⟨rfl,trivial⟩,h3,c3⟩
   ·have hg:Ch.Y0 p n=Ch.a5r p n:=by unfold Ch.Y0;rw [zJ h]
    rw [hg];refine zR ?_;refine b7 _ (A3 (hP _ hcl2)) (zR ?_);refine a3x (c0q p n hp _ zo zo) fun v w3 h3 c3=>?_;obtain ⟨a3,cc3,rfl,_⟩:=h3.form;refine zR ?_;exact ⟨_,⟨rfl,trivial⟩,h3,c3⟩
  obtain ⟨hgo,c3⟩:=h;obtain ⟨ag,cg,rfl,hag⟩:=hgo.form;generalize hgoals:Ch.Y0 p n=gs at *;refine zR ?_;refine B6 (σ:=Nat×Value) [3,7,8,9] 10 (fun a=>[(3,a.2),(7,.int .i64 a.1)]) (fun a w'=>a.1≤gs.length∧Row 36 3 J3 W0.heap.size w' a.2 (M++(gs.take a.1).flatMap (Ch.K8 p n))∧Row 3 1 P1 w2.heap.size w' (.slice ag gs.length cg) gs∧(∀ g,ag=some ⟨g,0,none⟩→a.2.ownBlock≠some g)∧Cl W0 w') (fun a=>gs.length-a.1) zk (0,.slice a M.length c)
   ⟨zo,by simpa using hrow2.step c3,hgo,fun g e e2=>by subst e;have h1:=hgo.lt;have h2:=World.ownsRow.lt hrow2 g e2;omega,hcl2.trans c3⟩ ⟨rfl,rfl,trivial⟩ ?_
  rintro ⟨i,v⟩ j w4 ⟨hi,hrow,hgo,hne,hcl⟩;simp only at hi hrow hne;obtain ⟨a4,c4,rfl,_⟩:=hrow.form;refine zR ?_;apply E.b9<;>intro h
  ·have hil:i<gs.length:=by simp only at h;omega
   clear h;obtain ⟨g,rfl⟩:=hag zo;have hst2:=a96 (Ch.K8 p n) gs i hil;generalize hx:gs[i]=x at hst2;obtain ⟨x0,x1⟩:=hgr x (hx▸yO hil);have ni:IntKind.i64.wrap ((i:Int)+1)=((i+1:Nat):Int):=by rw [g9 zo zo];push_cast;omega
   have hcur:(M++(gs.take i).flatMap (Ch.K8 p n)).length≤20000:=by
    have h1:=a7y (Ch.K8 p n) 4 (a6P p n) (gs.take i);rw [zF];have h2:(gs.take i).length≤56:=by rw [yb];omega
    omega
   generalize hC:M++(gs.take i).flatMap (Ch.K8 p n)=cur at *;have hst3:M++(gs.take (i+1)).flatMap (Ch.K8 p n)=cur++Ch.K8 p n x:=by rw [hst2,← yG,hC]
   refine zR ?_;refine zC ?_;refine zR ?_;refine b7 (.int .i64 x) (O5 hgo K3 i 0 hil zd (by rw [hx];rfl) (by simp [E.r9]) rfl) (zG ?_)
   refine Nx.mk ?_;refine E.a4F ?_;refine (C3 (σ:=Unit) [46,47,48,49,50,51,52,53,54,55,56,57,58,59,60] 61 (fun _=>[(60,.bool (!decide (Ch.sq p x=0)&&decide (Ch.y9 (Ch.sq p x)=p.turn)))]) (fun _ w'=>Cl w4 w') zk ?_ (fun _ j w5 c5=>?_)).go
   ·refine zR ?_;refine zK 15 ?_;refine zR ?_;refine E.A8 (F2.2 ⟨x0,zo⟩) (zR ?_);refine m7 _ (fun w hw=>O4 (hP _ (hcl.trans hw)) _ x0 zo) (zR ?_);apply E.y6<;>intro h
    ·refine zR ?_;refine E.A8 (F2.2 ⟨x0,zo⟩) (zR ?_);refine m7 _ (fun w hw=>O4 (hP _ (hcl.trans hw)) _ x0 zo) (zR ?_);refine m8 _ (fun w _=>a11 _ _) (zR ?_);refine m7 _ (fun w hw=>E9 (hP _ (hcl.trans hw))) (zR ?_);intro w5 c5;exact ⟨(),⟨yH Value.bool (by rw [zV h];rfl),trivial⟩,c5⟩
    ·refine zR ?_;intro w5 c5;exact ⟨(),⟨yH Value.bool (by rw [zX h];rfl),trivial⟩,c5⟩
   have hrow5:=hrow.step c5;have hgo5:=hgo.step c5;have hcl5:=hcl.trans c5;clear hrow hgo hcl;cases hown:(!decide (Ch.sq p x=0)&&decide (Ch.y9 (Ch.sq p x)=p.turn));rotate_left
   ·have hmt:Ch.K8 p n x=[]:=by
     unfold Ch.K8;rw [zM];simp only [zP,zc,zW,zZ] at hown;exact hown
    rw [hmt,zn] at hst3;refine zR ?_;exact ⟨(i+1,_),⟨rfl,d8 ni,trivial⟩,⟨by simp only;omega,by simp only [hst3];exact hrow5,hgo5,hne,hcl5⟩,by simp only;omega⟩
   have hmt:Ch.K8 p n x=if Ch.d6 (Ch.sq p n)≠6∨Ch.k9 x≠7-7*p.turn then [⟨n,x,0⟩] else Ch.a3u n x:=by
    unfold Ch.K8;rw [zJ];rintro ⟨e1,e2⟩;simp [e1,e2] at hown
   clear hown;refine Nx.mk (zG ?_);refine Nx.mk ?_;refine E.a4F ?_;refine (C3 (σ:=Unit) [61,62,63,64,65,66,67,68,69,70,71,72] 73 (fun _=>[(72,.bool (!decide (Ch.d6 (Ch.sq p n)=6) || !decide (Ch.k9 x=7-7*p.turn)))]) (fun _ w'=>Cl w5 w') zk ?_ (fun _ j w6 c6=>?_)).go
   ·refine zR ?_;refine zK 12 ?_;refine zR ?_;refine m8 _ (fun w _=>P3 _ _ (Pc.lo hp _) (Pc.hi hp _)) (zR ?_);apply E.y6<;>intro h
    ·refine zR ?_;intro w6 c6;exact ⟨(),⟨yH Value.bool (by rw [zV h];rfl),trivial⟩,c6⟩
    ·refine zR ?_;refine m8 _ (fun w _=>X5 _ _ zo zo) (zR ?_);refine m7 _ (fun w hw=>E9 (hP _ (hcl5.trans hw))) (zR ?_);intro w6 c6;exact ⟨(),⟨yH Value.bool (by rw [zX h,q1,q2];rfl),trivial⟩,c6⟩
   have hrow6:=hrow5.step c6;have hgo6:=hgo5.step c6;have hcl6:=hcl5.trans c6;clear hrow5 hgo5 hcl5;cases hpr:(!decide (Ch.d6 (Ch.sq p n)=6) || !decide (Ch.k9 x=7-7*p.turn))
   rotate_left
   ·rw [zM (by simp only [zj,zc,zZ] at hpr;exact hpr)] at hmt
    rw [hmt] at hst3;refine zR ?_;refine y7 #[.int .i64 n,.int .i64 x,.int .i64 0] zk (zR ?_);refine G2 a7Z [.agg #[.int .i64 n,.int .i64 x,.int .i64 0]] (by rw [zb];rfl) (by simp [Value.cells]) rfl zd zd (zR ?_)
    refine a0l (enc:=J3) a7Z ⟨n,x,0⟩ rfl hrow6 rfl rfl rfl D9 J6 zo zd hcl6.size (fun v' w7 hr hc=>?_);obtain ⟨a7,cc7,rfl,_⟩:=hr.form;refine zR ?_;exact ⟨(i+1,_),⟨rfl,d8 ni,trivial⟩,⟨by simp only;omega,by simp only [hst3];exact hr,hgo6.keep fun o ho=>hc.keep _ o ho (hne _ rfl),fun g' e=>hc.ne (by injection e with e;injection e with e;subst e;exact hgo6.lt.2) (hne g' e),hc.cl W0 rfl hcl6⟩,by simp only;omega⟩
   rw [zJ (by simp only [yA,Bool.not_eq_false',zW] at hpr;rintro (e|e);exact e hpr.1;exact e hpr.2)] at hmt
   rw [hmt] at hst3;refine zR ?_;refine B6 (σ:=Nat×Value) [3,9] 10 (fun a=>[(3,a.2),(9,.int .i64 (2+(a.1:Int)))]) (fun a w'=>a.1≤4∧Row 36 3 J3 W0.heap.size w' a.2 (cur++(Ch.a3u n x).take a.1)∧Row 3 1 P1 w2.heap.size w' (.slice (some ⟨g,0,none⟩) gs.length cg) gs∧(a.2.ownBlock≠some g)∧Cl W0 w') (fun a=>4-a.1) zk (0,.slice a4 cur.length c4)
    ⟨zo,by simpa using hrow6,hgo6,hne g rfl,hcl6⟩ ⟨rfl,rfl,trivial⟩ ?_
   rintro ⟨k,v⟩ j w7 ⟨hk,hrow7,hgo7,hne7,hcl7⟩;simp only at hk hrow7 hne7;obtain ⟨a8,c8,rfl,_⟩:=hrow7.form;have hl8:(cur++(Ch.a3u n x).take k).length≤20004:=by
    rw [zF,yb];omega
   refine zR ?_;apply E.b9<;>intro h
   ·have hk4:k<4:=by simp only at h;omega
    have hpk:(Ch.a3u n x).take (k+1)=(Ch.a3u n x).take k++[⟨n,x,2+(k:Int)⟩]:=by
     have:k=0∨k=1∨k=2∨k=3:=by omega
     rcases this with rfl|rfl|rfl|rfl<;>rfl
    refine zR ?_;refine y7 #[.int .i64 n,.int .i64 x,.int .i64 (2+(k:Int))] zk (zR ?_);refine G2 a7Z [.agg #[.int .i64 n,.int .i64 x,.int .i64 (2+(k:Int))]] (by rw [zb];rfl) (by simp [Value.cells]) rfl zd zd (zR ?_)
    refine a0l (enc:=J3) a7Z ⟨n,x,2+(k:Int)⟩ rfl hrow7 rfl rfl rfl D9 J6 zo zd hcl7.size (fun v' w8 hr hc=>?_);obtain ⟨a9,cc9,rfl,_⟩:=hr.form;refine zR ?_;exact ⟨(k+1,_),⟨rfl,d8 (by rw [g9 zo zo];push_cast;omega),trivial⟩,⟨by simp only;omega,by simp only [hpk,← yG];exact hr,hgo7.keep fun o ho=>hc.keep _ o ho hne7,hc.ne hgo7.lt.2 hne7,hc.cl W0 rfl hcl7⟩,by simp only;omega⟩
   ·have hk4:k=4:=by simp only at h;omega
    subst hk4;refine zR ?_;exact ⟨(i+1,_),⟨rfl,d8 ni,trivial⟩,⟨by simp only;omega,by simp only [hst3];exact hrow7,hgo7,fun g' e=>by injection e with e;injection e with e;subst e;exact hne7,hcl7⟩,by simp only;omega⟩
  ·have hil:i=gs.length:=by simp only at h;omega
   subst hil;refine zR ?_;refine ⟨(n+1,_),⟨rfl,d8 nx,trivial⟩,⟨by simp only;omega,by simp only [hstep,yZ] at hrow ⊢;exact hrow,hcl⟩,by simp only;omega⟩
 ·have hn2:n=64:=by simp only at h;omega
  subst hn2;refine zR ?_;refine b7 _ (A3 (hP _ hcl)) (zR ?_);refine a3x (b5Y p hI _) fun v w2 h2 c2=>?_;obtain ⟨a2,cc2,rfl,_⟩:=h2.form;have hcas:(Ch.a1c p).length≤2:=by
   unfold Ch.a1c Ch.S4;rw [zF];split<;>split<;>simp
  refine zR ?_;refine K4 (v:=.slice a (Ch.J5 p 64).length c) a7Z rfl (hrow.step c2) rfl h2 D9 J6 zo zd (hcl.trans c2).size (fun v' w3 hr hc=>?_);have hcl3:Cl W0 w3:=hc.cl W0 rfl (hcl.trans c2);obtain ⟨a3,cc3,rfl,_⟩:=hr.form;refine zR ?_;refine o7 (b5Z _ _ _ _ hr (by rw [zF];omega)) ?_
  rintro r w4 ⟨v4,l4,rfl,hp4,hr4,c4⟩;refine ⟨_,rfl,?_⟩;obtain ⟨a4,cc4,rfl,_⟩:=hr4.form;refine zR ?_;exact ⟨_,l4,rfl,hp4,hr4.mono (by have:=(hE _ hcl3).size;omega),hE _ (hcl3.trans c4)⟩
end
