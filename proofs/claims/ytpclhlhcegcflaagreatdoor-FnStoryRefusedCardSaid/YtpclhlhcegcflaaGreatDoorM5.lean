/- One part of the proof: Gen Gen2 Inv Sp10 Law4 Sp11 Sp12. -/
import Derived.Test.YtpclhlhcegcflaaGreatDoorM4
namespace Go.Proofs.YtpclhlhcegcflaaGreatDoor
open Go.Proofs.Tryz
set_option maxRecDepth 100000
set_option linter.unusedSimpArgs false
set_option linter.unusedVariables false
section
namespace Ch
open Bb
theorem at_range (f r:Int):-1≤K7 f r∧K7 f r≤63:=by
 unfold K7;split<;>omega
theorem Z4 (f r:Int) (h:0≤K7 f r):0≤f∧f≤7∧0≤r∧r≤7∧K7 f r=8*r+f:=by
 unfold K7 at *;split at h
 ·omega
 ·rename_i h2;rw [zJ h2];omega
theorem a4Y {f r:Int} (h0:0≤f) (h1:f≤7) (h2:0≤r) (h3:r≤7):K7 f r=8*r+f:=by
 unfold K7;rw [zJ zo]
def stp (fr:Int) (d:Int×Int) (j:Nat):Int:=K7 (o5 fr+j*d.1) (l8 fr+j*d.2)
theorem a7s (p:g9) (fr:Int) (d:Int×Int) (to:Int):∀ (k n:Nat),to∈ray p fr d.1 d.2 true k n↔∃ j,n≤j∧j<n+k∧to=stp fr d j∧(∀ i,n≤i→i≤j→0≤stp fr d i)∧(∀ i,n≤i→i<j→sq p (stp fr d i)=0):=by
 intro k
 induction k with
 | zero=>intro n;simp only [ray,zy,false_iff];rintro ⟨j,h1,h2,_⟩;omega
 | succ k ih =>
  intro n;simp only [ray];show to∈(if stp fr d n<0 then [] else if (!true || !decide (sq p (stp fr d n)=0))=true then [stp fr d n] else stp fr d n::ray p fr d.1 d.2 true k (n+1))↔_
  by_cases h0:stp fr d n<0
  ·rw [zM h0];simp only [zy,false_iff];rintro ⟨j,h1,_,_,h2,_⟩;have:=h2 n zo h1;omega
  rw [zJ h0];by_cases h1:sq p (stp fr d n)=0
  ·rw [zJ (by simp [h1]),yV,ih (n+1)]
   constructor
   ·rintro (h|⟨j,j1,j2,j3,j4,j5⟩)
    ·exact ⟨n,yO n,zo,h,fun i i1 i2=>by rw [Nat.le_antisymm i2 i1];omega,fun i i1 i2=>by omega⟩
    ·refine ⟨j,zo,zo,j3,fun i i1 i2=>?_,fun i i1 i2=>?_⟩
     ·by_cases e:i=n
      ·subst e;omega
      ·exact j4 i zo i2
     ·by_cases e:i=n
      ·subst e;exact h1
      ·exact j5 i zo i2
   ·rintro ⟨j,j1,j2,j3,j4,j5⟩;by_cases e:j=n
    ·subst e;exact .inl j3
    ·exact .inr ⟨j,zo,zo,j3,fun i i1 i2=>j4 i zo i2,fun i i1 i2=>j5 i zo i2⟩
  ·rw [zM (by simp [h1]),zY]
   constructor
   ·intro h;exact ⟨n,yO n,zo,h,fun i i1 i2=>by rw [Nat.le_antisymm i2 i1];omega,fun i i1 i2=>by omega⟩
   ·rintro ⟨j,j1,j2,j3,j4,j5⟩;by_cases e:j=n
    ·subst e;exact j3
    ·exact absurd (j5 n zo zo) h1
theorem a3q (p:g9) (fr:Int) (d:Int×Int) (to:Int) (k n:Nat):to∈ray p fr d.1 d.2 false (k+1) n↔to=stp fr d n∧0≤to:=by
 simp only [ray];show to∈(if stp fr d n<0 then [] else if (!false||_)=true then [stp fr d n] else _)↔_
 by_cases h0:stp fr d n<0
 ·rw [zM h0];simp only [zy,false_iff];rintro ⟨rfl,h⟩;omega
 ·rw [zJ h0,zM (by simp),zY]
  constructor
  ·rintro rfl;exact ⟨rfl,zo⟩
  ·exact fun h=>h.1
def b6V (fr:Nat) (d:Int×Int) (j:Nat):Bool :=
 let t:=stp fr d j;decide (t<0)||(decide (sign (dF fr t.toNat)=d.1)&&decide (sign (dR fr t.toNat)=d.2)&&decide (ds fr t.toNat=j-1)&&decide (t=fr+(j:Int)*(d.1+8*d.2))&&(List.range j).all fun i=>decide (0≤stp fr d i))
theorem b8C:(List.range 64).all (fun fr=>(straight++slanting).all fun d=>(List.range 7).all fun j=>b6V fr d (j+1))=true:=by decide +kernel
def toB (fr to:Nat):Bool :=
 Nat.beq fr to || !(decide (dF fr to=0)||decide (dR fr to=0)||decide (dF fr to=dR fr to)||decide (dF fr to=-dR fr to)) ||
  (decide (stp fr (sign (dF fr to),sign (dR fr to)) (ds fr to+1)=to)&&Nat.blt (ds fr to) 7 &&
   (if decide (dF fr to=0)||decide (dR fr to=0) then straight.contains (sign (dF fr to),sign (dR fr to)) else slanting.contains (sign (dF fr to),sign (dR fr to))))
theorem b5J:(List.range 64).all (fun fr=>(List.range 64).all fun to=>toB fr to)=true:=by decide +kernel
theorem c1k:(straight.all fun d=>decide (d.1=0)||decide (d.2=0))=true∧(slanting.all fun d=>decide (d.1=d.2)||decide (d.1=-d.2))=true∧(slanting.all fun d=>!decide (d.1=0) && !decide (d.2=0))=true:=by decide
theorem Z5 {x:Int}:sign x=0↔x=0:=by unfold sign;split<;>(try split)<;>omega
theorem a4w (p:g9) {fr to:Nat} (hf:fr<64) (ht:to<64) (d:Int×Int) (hd:d∈straight++slanting) :
  (to:Int)∈ray p fr d.1 d.2 true 7 1↔fr≠to∧(dF fr to=0∨dR fr to=0∨dF fr to=dR fr to∨dF fr to=-dR fr to)∧sign (dF fr to)=d.1∧sign (dR fr to)=d.2∧free p fr (wy fr to) (ds fr to)=true:=by
 have hR:∀ j,j<7→b6V fr d (j+1)=true:=fun j hj=>zl.1 (zl.1 (zl.1 b8C fr (yr.2 hf)) d hd) j (yr.2 hj);have hT:toB fr to=true:=zl.1 (zl.1 b5J fr (yr.2 hf)) to (yr.2 ht);rw [a7s,a2O];constructor
 ·rintro ⟨j,j1,j2,j3,j4,j5⟩;have hj:=hR (j-1) zo;rw [show j-1+1=j by omega] at hj
  simp only [b6V,← j3,zg,zj,zP,zW] at hj;rcases hj with hj|hj
  ·omega
  obtain ⟨⟨⟨⟨h1,h2⟩,h3⟩,h4⟩,_⟩:=hj;have hdnz:¬ (d.1=0∧d.2=0):=by
   have:((straight++slanting).all fun d=>!(decide (d.1=0)&&decide (d.2=0)))=true:=by decide
   have:=zl.1 this d hd;rintro ⟨a1,a2⟩;simp [a1,a2] at this
  have hne:fr≠to:=by
   rintro rfl;apply hdnz;rw [← h1,← h2];simp [dF,dR,sign]
  refine ⟨hne,?_,h1,h2,?_⟩
  ·have hF:stp fr d j=to:=j3.symm;have:=Z4 _ _ (by have:=j4 j zo zo;exact this)
   unfold stp at hF;rw [this.2.2.2.2] at hF;rcases zr.1 hd with h|h
   ·have hh:=zl.1 c1k.1 d h;simp only [zj,zW] at hh;rcases hh with hh|hh
    ·rw [hh] at h1;rw [Z5] at h1;exact .inl h1
    ·rw [hh] at h2;rw [Z5] at h2;exact .inr (.inl h2)
   ·have hh:=zl.1 c1k.2.1 d h;simp only [zj,zW] at hh;have e1:dF fr to=j*d.1:=by unfold dF;rw [show (to:Int)=8*(l8 fr + ↑j*d.2)+(o5 fr + ↑j*d.1) from hF.symm];unfold o5 at *;omega
    have e2:dR fr to=j*d.2:=by unfold dR;rw [show (to:Int)=8*(l8 fr + ↑j*d.2)+(o5 fr + ↑j*d.1) from hF.symm];unfold o5 l8 at *;omega
    rcases hh with hh|hh
    ·rw [e1,e2,hh];exact .inr (.inr (.inl rfl))
    ·rw [e1,e2,hh];refine .inr (.inr (.inr ?_));rw [Int.mul_neg]
  ·intro i hi;rw [h3] at hi;have:=j5 (i+1) zo zo;have hi2:=hR i zo;simp only [b6V,zj,zP,zW] at hi2;rcases hi2 with hi2|hi2
   ·have:=j4 (i+1) zo zo;omega
   ·rw [hi2.1.2] at this;unfold wy;rw [h1,h2];exact this
 ·rintro ⟨hne,hl,h1,h2,h3⟩;simp only [toB,zj,zP,zc,yD,zZ,zW] at hT;rcases hT with (hT|hT)|⟨⟨hT,hT2⟩,hT3⟩
  ·exact absurd (zu hT) hne
  ·exfalso;rcases hl with h|h|h|h
   ·exact hT.1.1.1 h
   ·exact hT.1.1.2 h
   ·exact hT.1.2 h
   ·exact hT.2 h
  rw [h1,h2] at hT;have hT2':ds fr to<7:=by simpa [Nat.blt,Nat.succ_le_iff] using hT2
  have hjj:=hR (ds fr to) hT2';simp only [b6V,zj,zP,zW,zl,yr] at hjj;have hT':stp fr d (ds fr to+1)=to:=hT;rw [hT'] at hjj;rcases hjj with hjj|hjj
  ·omega
  refine ⟨ds fr to+1,zo,zo,hT'.symm,fun i i1 i2=>?_,fun i i1 i2=>?_⟩
  ·by_cases e:i=ds fr to+1
   ·rw [e,hT'];omega
   ·exact hjj.2 i zo
  ·have h4:=h3 (i-1) zo;have hi2:=hR (i-1) zo;rw [show i-1+1=i by omega] at hi2
   simp only [b6V,zj,zP,zW] at hi2;rcases hi2 with hi2|hi2
   ·have:=hjj.2 i zo;omega
   ·rw [hi2.1.2];unfold wy at h4;rw [h1,h2] at h4;rw [show ((i-1:Nat):Int)+1=i by omega] at h4
    exact h4
theorem b6W:(List.range 64).all (fun fr=>(List.range 64).all fun to =>
  Bool.xor ((straight++slanting).any fun d=>decide (stp fr d 1=(to:Int))) (!(!decide (fr=to)&&(decide (dF fr to*dF fr to≤1)&&decide (dR fr to*dR fr to≤1)))) &&
  Bool.xor (jumps.any fun d=>decide (stp fr d 1=(to:Int))) (!(decide (dF fr to*dF fr to+dR fr to*dR fr to=5))))=true:=by decide +kernel
theorem a1N (p:g9) {fr to:Nat} (hf:fr<64) (ht:to<64) {k:Int} (hk:a0B (sq p fr)=k) (h1:1≤k) (h5:k≤5):(to:Int)∈a5L p fr↔Q9 p k 0 fr to=true:=by
 have hN:=zl.1 (zl.1 b6W fr (yr.2 hf)) to (yr.2 ht);have xr:∀ a b:Bool,Bool.xor a (!b)=true↔(a=true↔b=true):=by intro a b;cases a<;>cases b<;>simp
 rw [zP,xr,xr] at hN;unfold a5L;rw [hk];simp only [xV];have near:∀ (l:List (Int×Int)),(∃ d∈l,(to:Int)∈ray p fr d.1 d.2 false 7 1)↔(l.any fun d=>decide (stp fr d 1=(to:Int)))=true:=by
  intro l;rw [xO];constructor
  ·rintro ⟨d,hd,h⟩;exact ⟨d,hd,zX ((a3q p fr d to 6 1).1 h).1.symm⟩
  ·rintro ⟨d,hd,h⟩;exact ⟨d,hd,(a3q p fr d to 6 1).2 ⟨(yF h).symm,zo⟩⟩
 have hkk:k=1∨k=2∨k=3∨k=4∨k=5:=by omega
 have sg:∀ x:Int,sign x=0∨sign x=1∨sign x=-1:=by intro x;unfold sign;split<;>(try split)<;>omega
 have hT:toB fr to=true:=zl.1 (zl.1 b5J fr (yr.2 hf)) to (yr.2 ht);have hT':fr≠to→(dF fr to=0∨dR fr to=0∨dF fr to=dR fr to∨dF fr to=-dR fr to)→(if decide (dF fr to=0)||decide (dR fr to=0) then straight.contains (sign (dF fr to),sign (dR fr to)) else slanting.contains (sign (dF fr to),sign (dR fr to)))=true:=by
  intro hne hl;simp only [toB,zj,zP,zc,yD,zZ] at hT;rcases hT with (hT|hT)|⟨⟨_,_⟩,hT3⟩
  ·exact absurd (zu hT) hne
  ·exfalso;rcases hl with h|h|h|h
   ·exact hT.1.1.1 h
   ·exact hT.1.1.2 h
   ·exact hT.1.2 h
   ·exact hT.2 h
  ·simpa using hT3
 have strict:∀ d∈straight,fr≠to→sign (dF fr to)=d.1→sign (dR fr to)=d.2→dF fr to=0∨dR fr to=0:=by
  intro d hd _ e1 e2;have hh:=zl.1 c1k.1 d hd;simp only [zj,zW] at hh;rcases hh with hh|hh
  ·rw [hh,Z5] at e1;exact .inl e1
  ·rw [hh,Z5] at e2;exact .inr e2
 have slant:∀ d∈slanting,(dF fr to=0∨dR fr to=0∨dF fr to=dR fr to∨dF fr to=-dR fr to)→sign (dF fr to)=d.1→sign (dR fr to)=d.2→dF fr to=dR fr to∨dF fr to=-dR fr to:=by
  intro d hd hl e1 e2;have hh:=zl.1 c1k.2.2 d hd;simp only [zP,zc,zZ] at hh;rcases hl with h|h|h|h
  ·exfalso;apply hh.1;rw [← e1,Z5];exact h
  ·exfalso;apply hh.2;rw [← e2,Z5];exact h
  ·exact .inl h
  ·exact .inr h
 rcases hkk with rfl|rfl|rfl|rfl|rfl
 ·show (∃ d∈straight++slanting,(to:Int)∈ray p fr d.1 d.2 false 7 1)↔_;rw [near,hN.1];rfl
 ·show (∃ d∈straight++slanting,(to:Int)∈ray p fr d.1 d.2 true 7 1)↔_;simp only [Q9];rw [zJ zd,zJ zd,zJ zd];simp only [zP,zj,zc,zZ,zW];constructor
  ·rintro ⟨d,hd,h⟩;obtain ⟨h1,h2,_,_,h3⟩:=(a4w p hf ht d hd).1 h;refine ⟨h1,?_,h3⟩;rcases h2 with h2|h2|h2|h2
   ·exact .inl ⟨.inl h2,zd⟩
   ·exact .inl ⟨.inr h2,zd⟩
   ·exact .inr ⟨.inl h2,zd⟩
   ·exact .inr ⟨.inr h2,zd⟩
  ·rintro ⟨h1,h2,h3⟩;have hl:dF fr to=0∨dR fr to=0∨dF fr to=dR fr to∨dF fr to=-dR fr to:=by
    rcases h2 with ⟨h2|h2,_⟩|⟨h2|h2,_⟩
    ·exact .inl h2
    ·exact .inr (.inl h2)
    ·exact .inr (.inr (.inl h2))
    ·exact .inr (.inr (.inr h2))
   have hc:=hT' h1 hl;have hmem:(sign (dF fr to),sign (dR fr to))∈straight++slanting:=by
    split at hc
    ·exact zr.2 (.inl (List.contains_iff_mem.1 hc))
    ·exact zr.2 (.inr (List.contains_iff_mem.1 hc))
   exact ⟨_,hmem,(a4w p hf ht _ hmem).2 ⟨h1,hl,rfl,rfl,h3⟩⟩
 ·show (∃ d∈straight,(to:Int)∈ray p fr d.1 d.2 true 7 1)↔_;simp only [Q9];rw [zJ zd,zJ zd,zJ zd];simp only [zP,zj,zc,zZ,zW];constructor
  ·rintro ⟨d,hd,h⟩;obtain ⟨h1,h2,e1,e2,h3⟩:=(a4w p hf ht d (zr.2 (.inl hd))).1 h;exact ⟨h1,.inl ⟨strict d hd h1 e1 e2,zd⟩,h3⟩
  ·rintro ⟨h1,h2,h3⟩;have h2':dF fr to=0∨dR fr to=0:=by
    rcases h2 with ⟨h2,_⟩|⟨_,h⟩
    ·exact h2
    ·exact absurd trivial h
   have hl:dF fr to=0∨dR fr to=0∨dF fr to=dR fr to∨dF fr to=-dR fr to:=by
    rcases h2' with h|h
    ·exact .inl h
    ·exact .inr (.inl h)
   have hc:=hT' h1 hl;rw [zM (by simpa using h2')] at hc
   have hmem:=List.contains_iff_mem.1 hc;exact ⟨_,hmem,(a4w p hf ht _ (zr.2 (.inl hmem))).2 ⟨h1,hl,rfl,rfl,h3⟩⟩
 ·show (∃ d∈slanting,(to:Int)∈ray p fr d.1 d.2 true 7 1)↔_;simp only [Q9];rw [zJ zd,zJ zd,zJ zd];simp only [zP,zj,zc,zZ,zW];constructor
  ·rintro ⟨d,hd,h⟩;obtain ⟨h1,h2,e1,e2,h3⟩:=(a4w p hf ht d (zr.2 (.inr hd))).1 h;exact ⟨h1,.inr ⟨slant d hd h2 e1 e2,zd⟩,h3⟩
  ·rintro ⟨h1,h2,h3⟩;have h2':dF fr to=dR fr to∨dF fr to=-dR fr to:=by
    rcases h2 with ⟨_,h⟩|⟨h2,_⟩
    ·exact absurd trivial h
    ·exact h2
   have hl:dF fr to=0∨dR fr to=0∨dF fr to=dR fr to∨dF fr to=-dR fr to:=by
    rcases h2' with h|h
    ·exact .inr (.inr (.inl h))
    ·exact .inr (.inr (.inr h))
   have hnz:¬ (dF fr to=0∨dR fr to=0):=by
    intro h;apply h1;have h6:dF fr to=0∧dR fr to=0:=by omega
    simp only [dF,dR,o5,l8] at h6;omega
   have hc:=hT' h1 hl;rw [zJ (by simpa using hnz)] at hc
   have hmem:=List.contains_iff_mem.1 hc;exact ⟨_,hmem,(a4w p hf ht _ (zr.2 (.inr hmem))).2 ⟨h1,hl,rfl,rfl,h3⟩⟩
 ·show (∃ d∈jumps,(to:Int)∈ray p fr d.1 d.2 false 7 1)↔_;rw [near,hN.2];simp only [Q9];rw [zJ zd,zM trivial];simp only [zP,zc,zZ,zW];constructor
  ·intro h;refine ⟨?_,h⟩;rintro rfl;simp [dF,dR] at h
  ·exact fun h=>h.2
end Ch
namespace Ch
open Bb
def rank3:Nat:=280375465082880
def rank6:Nat:=16711680
theorem b8D:rank3=bb (fun s=>decide (s/8=2)):=by decide +kernel
theorem b8E:rank6=bb (fun s=>decide (s/8=5)):=by decide +kernel
def W6 (p:g9):Nat:=not (occ p)
theorem a04 (p:g9) {s:Nat} (hs:s<64):(W6 p).testBit (63-s)=decide (sq p s=0):=by
 unfold W6 occ;rw [H2 _ hs,I1 _ hs];simp
theorem a3R (p:g9) (c:Int) {s:Nat} (hs:s<64):(side p c).testBit (63-s)=(!decide (sq p s=0)&&decide (A2 (sq p s)=c)):=I1 _ hs
def epB (p:g9):Nat:=if p.ep=-1 then 0 else E9 p.ep.toNat
theorem a8f (p:g9) (h0:-1≤p.ep) (h1:p.ep≤63) {s:Nat} (hs:s<64):(epB p).testBit (63-s)=decide ((s:Int)=p.ep):=by
 unfold epB;by_cases h:p.ep=-1
 ·rw [zM h,h,Nat.zero_testBit];symm;exact zV zo
 ·rw [zJ h,K3 zo hs];exact yg.2 zo
def a7t (p:g9) (fr:Nat):Nat :=
 if p.turn=0 then
  let capR:=((E9 fr &&& not a2P &&& not a1u) >>> 9) &&& (side p 1 ||| epB p)
  let capL:=((E9 fr &&& not a2Q &&& not a1u) >>> 7) &&& (side p 1 ||| epB p)
  let one:=((E9 fr &&& not a1u) >>> 8) &&& W6 p;let two:=((one &&& rank3) >>> 8) &&& W6 p
  capR ||| capL ||| one ||| two
 else
  let capR:=(shl (E9 fr &&& not a2P &&& not a2h) 7) &&& (side p 0 ||| epB p)
  let capL:=(shl (E9 fr &&& not a2Q &&& not a2h) 9) &&& (side p 0 ||| epB p)
  let one:=(shl (E9 fr &&& not a2h) 8) &&& W6 p;let two:=(shl (one &&& rank6) 8) &&& W6 p
  capR ||| capL ||| one ||| two
theorem N7 {p:g9} (h:P8 p=true):-1≤p.ep∧p.ep≤63∧(p.ep≠-1→l8 p.ep=5-3*p.turn∧sq p p.ep=0∧sq p (K7 (o5 p.ep) (l8 p.ep-(1-2*p.turn)))=6+6*(1-p.turn)∧sq p (K7 (o5 p.ep) (l8 p.ep+(1-2*p.turn)))=0):=by
 unfold P8 at h;split at h
 ·have:=yF h;exact ⟨zo,zo,fun h2=>absurd this h2⟩
 ·simp only at h;split at h
  ·cases h
  ·rename_i h1 h2;simp only [zP,zW] at h;exact ⟨zo,zo,fun _=>⟨zo,zo,h.1,h.2⟩⟩
theorem b25 (p:g9) (c:Int) {fr to:Nat}:((to:Int)∈(O3 fr c).filter (L5 p c))↔(((to:Int)=K7 (o5 fr + -1) (l8 fr+up c)∨(to:Int)=K7 (o5 fr+1) (l8 fr+up c))∧L5 p c to=true):=by
 unfold O3 a2w;rw [xg,zr];constructor
 ·rintro ⟨h|h,h2⟩
  ·split at h
   ·exact ⟨.inl (zY.1 h),h2⟩
   ·cases h
  ·split at h
   ·exact ⟨.inr (zY.1 h),h2⟩
   ·cases h
 ·rintro ⟨h|h,h2⟩
  ·exact ⟨.inl (by rw [zM zo];exact zY.2 h),h2⟩
  ·exact ⟨.inr (by rw [zM zo];exact zY.2 h),h2⟩
theorem b26 (p:g9) (c:Int) {fr to:Nat}:((to:Int)∈Y3 p fr c)↔(((to:Int)=K7 (o5 fr) (l8 fr+up c)∧sq p to=0)∨((to:Int)=K7 (o5 fr) (l8 fr+2*up c)∧sq p to=0∧l8 fr=1+5*c∧0≤K7 (o5 fr) (l8 fr+up c)∧sq p (K7 (o5 fr) (l8 fr+up c))=0)) ∨
  False:=by
 unfold Y3;simp only [xH];by_cases h:0≤K7 (o5 fr) (l8 fr+up c)∧sq p (K7 (o5 fr) (l8 fr+up c))=0
 ·rw [zM h];by_cases h2:l8 fr=1+5*c∧sq p (K7 (o5 fr) (l8 fr+2*up c))=0
  ·rw [zM h2];simp only [yV,zy,xH];constructor
   ·rintro (e|e)
    ·exact .inl ⟨e,by rw [e];exact h.2⟩
    ·exact .inr ⟨e,by rw [e];exact h2.2,h2.1,h.1,h.2⟩
   ·rintro (⟨e,_⟩|⟨e,_⟩)
    ·exact .inl e
    ·exact .inr e
  ·rw [zJ h2];simp only [zY];constructor
   ·intro e;exact .inl ⟨e,by rw [e];exact h.2⟩
   ·rintro (⟨e,_⟩|⟨e,h3,h4,_⟩)
    ·exact e
    ·exfalso;apply h2;rw [← e];exact ⟨h4,h3⟩
 ·rw [zJ h];simp only [zy,false_iff];rintro (⟨e,h2⟩|⟨_,_,_,h3,h4⟩)
  ·apply h;rw [← e];exact ⟨zo,h2⟩
  ·exact h ⟨h3,h4⟩
theorem a4Z {p:g9} (hp:∀ i:Int,0≤sq p i∧sq p i≤12) (ht:p.turn=0∨p.turn=1) (hps:P8 p=true) (to:Nat) :
  L5 p p.turn to=true↔(((sq p to≠0∧A2 (sq p to)=1-p.turn)∨(to:Int)=p.ep)):=by
 obtain ⟨e0,e1,e2⟩:=N7 hps;unfold L5;simp only [zj,zP,zc,zW,zZ];have hs:A2 (sq p to)=0∨A2 (sq p to)=1:=by unfold A2;split<;>simp
 constructor
 ·rintro (⟨h1,h2⟩|⟨⟨h1,h2⟩,h3⟩)
  ·exact .inl ⟨h1,zo⟩
  ·exact .inr h2
 ·rintro (⟨h1,h2⟩|h)
  ·exact .inl ⟨h1,zo⟩
  ·have:=e2 zo;rw [← h] at this;exact .inr ⟨⟨this.2.1,h⟩,this.1⟩
theorem b8F (p:g9) (fr:Nat):a7t p fr<2^64:=by
 have he:W6 p<2^64:=not_lt (S7 _);have h0:epB p<2^64:=by unfold epB;split;decide;exact a3O _
 unfold a7t;split
 ·exact yy (yy (yy (yw _ (yy (S7 _) h0)) (yw _ (yy (S7 _) h0))) (yw _ he)) (yw _ he)
 ·exact yy (yy (yy (yw _ (yy (S7 _) h0)) (yw _ (yy (S7 _) h0))) (yw _ he)) (yw _ he)
theorem b6X {p:g9} (hp:∀ i:Int,0≤sq p i∧sq p i≤12) (ht:p.turn=0∨p.turn=1) (hps:P8 p=true) {fr to:Nat} (hf:fr<64) (hto:to<64) (hsq:sq p fr=6+6*p.turn) :
  (a7t p fr).testBit (63-to)=true↔(to:Int)∈W1 p fr:=by
 have hside:A2 (sq p fr)=p.turn:=by rw [hsq];exact S8 zd zd ht
 obtain ⟨e0,e1,e2⟩:=N7 hps;unfold W1;simp only [hside];rw [zr,b25,b26,a4Z hp ht hps];simp only [xH];have nH:not a2P<2^64:=not_lt zd;have nA:not a2Q<2^64:=not_lt zd;have n8:not a1u<2^64:=not_lt zd;have n1:not a2h<2^64:=not_lt zd;have he:W6 p<2^64:=not_lt (S7 _);have bH:∀ s,s<64→(not a2P).testBit (63-s) = !decide (s%8=7):=fun s hs=>by rw [H2 _ hs,a8I,I1 _ hs]
 have bA:∀ s,s<64→(not a2Q).testBit (63-s) = !decide (s%8=0):=fun s hs=>by rw [H2 _ hs,a8J,I1 _ hs]
 have b8:∀ s,s<64→(not a1u).testBit (63-s) = !decide (s/8=7):=fun s hs=>by rw [H2 _ hs,a8L,I1 _ hs]
 have b1:∀ s,s<64→(not a2h).testBit (63-s) = !decide (s/8=0):=fun s hs=>by rw [H2 _ hs,a8K,I1 _ hs]
 have b3:∀ s,s<64→rank3.testBit (63-s)=decide (s/8=2):=fun s hs=>by rw [b8D,I1 _ hs]
 have b6:∀ s,s<64→rank6.testBit (63-s)=decide (s/8=5):=fun s hs=>by rw [b8E,I1 _ hs]
 have hatp:∀ (f r:Int) (s:Nat),s<64→((s:Int)=K7 f r↔(0≤f∧f≤7∧0≤r∧r≤7∧(s:Int)=8*r+f)):=by
  intro f r s hs;unfold K7;split
  ·constructor
   ·intro h;omega
   ·rintro ⟨h1,h2,h3,h4,_⟩;omega
  ·constructor
   ·intro h;omega
   ·rintro ⟨_,_,_,_,h⟩;exact h
 rcases ht with ht|ht
 ·simp only [a7t,ht,wO];rw [yH,yH,yH];simp only [zj];have c1:(((E9 fr &&& not a2P &&& not a1u) >>> 9) &&& (side p 1 ||| epB p)).testBit (63-to)=true↔((to:Int)=K7 (o5 fr+1) (l8 fr+up 0)∧(sq p to≠0∧A2 (sq p to)=1-0∨(to:Int)=p.ep)):=by
   rw [zq,a3p _ 9 (yw _ n8) hto,yH,a3R _ _ hto,a8f p e0 e1 hto,zq,zq,K3 hf zo,bH _ zo,b8 _ zo,hatp _ _ _ hto];simp only [zP,zj,zc,zW,zZ,o5,l8,up];refine and_congr ⟨fun h=>by omega,fun h=>by omega⟩ (or_congr (and_congr Iff.rfl (by simp)) Iff.rfl)
  have c2:(((E9 fr &&& not a2Q &&& not a1u) >>> 7) &&& (side p 1 ||| epB p)).testBit (63-to)=true↔((to:Int)=K7 (o5 fr + -1) (l8 fr+up 0)∧(sq p to≠0∧A2 (sq p to)=1-0∨(to:Int)=p.ep)):=by
   rw [zq,a3p _ 7 (yw _ n8) hto,yH,a3R _ _ hto,a8f p e0 e1 hto,zq,zq,K3 hf zo,bA _ zo,b8 _ zo,hatp _ _ _ hto];simp only [zP,zj,zc,zW,zZ,o5,l8,up];refine and_congr ⟨fun h=>by omega,fun h=>by omega⟩ (or_congr (and_congr Iff.rfl (by simp)) Iff.rfl)
  have c3:∀ s,s<64→((((E9 fr &&& not a1u) >>> 8) &&& W6 p).testBit (63-s)=true↔((s:Int)=K7 (o5 fr) (l8 fr+up 0)∧sq p s=0)):=by
   intro s hs;rw [zq,a3p _ 8 (yw _ n8) hs,a04 _ hs,zq,K3 hf zo,b8 _ zo,hatp _ _ _ hs];simp only [zP,zc,zW,zZ,o5,l8,up];refine and_congr ⟨fun h=>by omega,fun h=>by omega⟩ Iff.rfl
  have c4:((((((E9 fr &&& not a1u) >>> 8) &&& W6 p) &&& rank3) >>> 8) &&& W6 p).testBit (63-to)=true↔((to:Int)=K7 (o5 fr) (l8 fr+2*up 0)∧sq p to=0∧l8 fr=1+5*0∧0≤K7 (o5 fr) (l8 fr+up 0)∧sq p (K7 (o5 fr) (l8 fr+up 0))=0):=by
   rw [zq,a3p _ 8 (wG Nat.and_le_left (yw _ he)) hto,a04 _ hto,zq,b3 _ zo];simp only [zP,zW];rw [c3 _ zo,hatp _ _ _ hto,hatp _ _ _ zo];constructor
   ·rintro ⟨⟨h1,⟨⟨h2,h3,h4,h5,h6⟩,h7⟩,h8⟩,h9⟩;have e:K7 (o5 fr) (l8 fr+up 0)=((to-8:Nat):Int):=by rw [a4Y h2 h3 h4 h5];exact h6.symm
    rw [e];simp only [o5,l8,up] at *;exact ⟨zo,h9,zo,zo,h7⟩
   ·rintro ⟨⟨h2,h3,h4,h5,h6⟩,h7,h8,h9,h10⟩;obtain ⟨g1,g2,g3,g4,g5⟩:=Z4 _ _ h9;have e:K7 (o5 fr) (l8 fr+up 0)=((to-8:Nat):Int):=by rw [g5];simp only [o5,l8,up] at *;omega
    rw [e] at h10;simp only [o5,l8,up] at *;exact ⟨⟨zo,⟨⟨zo,zo,zo,zo,zo⟩,h10⟩,zo⟩,h7⟩
  rw [c1,c2,c3 to hto,c4];constructor
  ·rintro (((⟨h,h2⟩|⟨h,h2⟩)|h)|h)
   ·exact .inr ⟨.inr h,h2⟩
   ·exact .inr ⟨.inl h,h2⟩
   ·exact .inl (.inl h)
   ·exact .inl (.inr h)
  ·rintro ((h|h)|⟨h|h,h2⟩)
   ·exact .inl (.inr h)
   ·exact .inr h
   ·exact .inl (.inl (.inr ⟨h,h2⟩))
   ·exact .inl (.inl (.inl ⟨h,h2⟩))
 ·simp only [a7t,ht];rw [zJ zd,yH,yH,yH];simp only [zj];have c1:((shl (E9 fr &&& not a2P &&& not a2h) 7) &&& (side p 0 ||| epB p)).testBit (63-to)=true↔((to:Int)=K7 (o5 fr+1) (l8 fr+up 1)∧(sq p to≠0∧A2 (sq p to)=1-1∨(to:Int)=p.ep)):=by
   rw [zq,a3o _ 7 hto,yH,a3R _ _ hto,a8f p e0 e1 hto,hatp _ _ _ hto];by_cases hin:to+7<64
   ·rw [zq,zq,K3 hf hin,bH _ hin,b1 _ hin];simp only [zP,zj,zc,zW,zZ,o5,l8,up];refine and_congr ⟨fun h=>by omega,fun h=>by omega⟩ (or_congr (and_congr Iff.rfl (by simp)) Iff.rfl)
   ·rw [zV hin];simp only [xw,yG,false_iff,o5,l8,up];rintro ⟨h,_⟩;omega
  have c2:((shl (E9 fr &&& not a2Q &&& not a2h) 9) &&& (side p 0 ||| epB p)).testBit (63-to)=true↔((to:Int)=K7 (o5 fr + -1) (l8 fr+up 1)∧(sq p to≠0∧A2 (sq p to)=1-1∨(to:Int)=p.ep)):=by
   rw [zq,a3o _ 9 hto,yH,a3R _ _ hto,a8f p e0 e1 hto,hatp _ _ _ hto];by_cases hin:to+9<64
   ·rw [zq,zq,K3 hf hin,bA _ hin,b1 _ hin];simp only [zP,zj,zc,zW,zZ,o5,l8,up];refine and_congr ⟨fun h=>by omega,fun h=>by omega⟩ (or_congr (and_congr Iff.rfl (by simp)) Iff.rfl)
   ·rw [zV hin];simp only [xw,yG,false_iff,o5,l8,up];rintro ⟨h,_⟩;omega
  have c3:∀ s,s<64→(((shl (E9 fr &&& not a2h) 8) &&& W6 p).testBit (63-s)=true↔((s:Int)=K7 (o5 fr) (l8 fr+up 1)∧sq p s=0)):=by
   intro s hs;rw [zq,a3o _ 8 hs,a04 _ hs,hatp _ _ _ hs];by_cases hin:s+8<64
   ·rw [zq,K3 hf hin,b1 _ hin];simp only [zP,zc,zW,zZ,o5,l8,up];refine and_congr ⟨fun h=>by omega,fun h=>by omega⟩ Iff.rfl
   ·rw [zV hin];simp only [xw,yG,false_iff,o5,l8,up];rintro ⟨h,_⟩;omega
  have c4:((shl ((((shl (E9 fr &&& not a2h) 8) &&& W6 p) &&& rank6)) 8) &&& W6 p).testBit (63-to)=true↔((to:Int)=K7 (o5 fr) (l8 fr+2*up 1)∧sq p to=0∧l8 fr=1+5*1∧0≤K7 (o5 fr) (l8 fr+up 1)∧sq p (K7 (o5 fr) (l8 fr+up 1))=0):=by
   rw [zq,a3o _ 8 hto,a04 _ hto];by_cases hin:to+8<64
   ·rw [zq,b6 _ hin];simp only [zP,zW];rw [c3 _ hin,hatp _ _ _ hto,hatp _ _ _ hin];constructor
    ·rintro ⟨⟨h1,⟨⟨h2,h3,h4,h5,h6⟩,h7⟩,h8⟩,h9⟩;have e:K7 (o5 fr) (l8 fr+up 1)=((to+8:Nat):Int):=by rw [a4Y h2 h3 h4 h5];exact h6.symm
     rw [e];simp only [o5,l8,up] at *;exact ⟨zo,h9,zo,zo,h7⟩
    ·rintro ⟨⟨h2,h3,h4,h5,h6⟩,h7,h8,h9,h10⟩;obtain ⟨g1,g2,g3,g4,g5⟩:=Z4 _ _ h9;have e:K7 (o5 fr) (l8 fr+up 1)=((to+8:Nat):Int):=by rw [g5];simp only [o5,l8,up] at *;omega
     rw [e] at h10;simp only [o5,l8,up] at *;exact ⟨⟨zo,⟨⟨zo,zo,zo,zo,zo⟩,h10⟩,zo⟩,h7⟩
   ·rw [zV hin,hatp _ _ _ hto];simp only [xw,yG,false_iff,o5,l8,up];rintro ⟨h,_,h2,_⟩;omega
  rw [c1,c2,c3 to hto,c4];constructor
  ·rintro (((⟨h,h2⟩|⟨h,h2⟩)|h)|h)
   ·exact .inr ⟨.inr h,h2⟩
   ·exact .inr ⟨.inl h,h2⟩
   ·exact .inl (.inl h)
   ·exact .inl (.inr h)
  ·rintro ((h|h)|⟨h|h,h2⟩)
   ·exact .inl (.inr h)
   ·exact .inr h
   ·exact .inl (.inl (.inr ⟨h,h2⟩))
   ·exact .inl (.inl (.inl ⟨h,h2⟩))
def a7u (p:g9) (k:Int) (fr:Nat):Nat :=
 if k=1 then kg fr else if k=2 then di (occ p) fr ||| hv (occ p) fr else if k=3 then hv (occ p) fr else if k=4 then di (occ p) fr else if k=5 then kn fr else if k=6 then a7t p fr else 0
theorem b8G (p:g9) (k:Int) (fr:Nat):a7u p k fr<2^64:=by
 unfold a7u;repeat' split
 ·exact S7 _
 ·exact yy (b83 _ _) (b82 _ _)
 ·exact b82 _ _
 ·exact b83 _ _
 ·exact S7 _
 ·exact b8F _ _
 ·decide
def goB (p:g9) (k:Int) (fr:Nat):Nat:=a7u p k fr &&& not (side p p.turn)
theorem b5K {p:g9} (hp:∀ i:Int,0≤sq p i∧sq p i≤12) (ht:p.turn=0∨p.turn=1) (hps:P8 p=true) {fr to:Nat} (hf:fr<64) (hto:to<64) {k:Int} (k1:1≤k) (k6:k≤6) (hsq:sq p fr=k+6*p.turn) :
  (goB p k fr).testBit (63-to)=true↔(to:Int)∈a0i p fr∧¬ (sq p to≠0∧A2 (sq p to)=p.turn):=by
 unfold goB;rw [zq,H2 _ hto,a3R _ _ hto];simp only [zP,zc,x9,Bool.not_eq_false',zW,zZ];have hk:a0B (sq p fr)=k:=by rw [hsq];exact Q8 k1 k6 ht
 refine and_congr ?_ ⟨?_,?_⟩;rotate_left
 ·rintro (h|h) ⟨h1,h2⟩
  ·exact h1 h
  ·exact h h2
 ·intro h;by_cases h1:sq p to=0
  ·exact .inl h1
  ·exact .inr (fun h2=>h ⟨h1,h2⟩)
 unfold a0i;rw [hk];have hkk:k=1∨k=2∨k=3∨k=4∨k=5∨k=6:=by omega
 rcases hkk with rfl|rfl|rfl|rfl|rfl|rfl
 ·rw [zJ zd,a1N p hf hto hk zd zd,← c3d p hf hto];rfl
 ·rw [zJ zd,a1N p hf hto hk zd zd,← b88 p hf hto];rfl
 ·rw [zJ zd,a1N p hf hto hk zd zd,← c3b p hf hto];rfl
 ·rw [zJ zd,a1N p hf hto hk zd zd,← c3c p hf hto];rfl
 ·rw [zJ zd,a1N p hf hto hk zd zd,← b89 p hf hto];rfl
 ·rw [zM rfl,← b6X hp ht hps hf hto hsq];rfl
end Ch
namespace Ch
open Bb
def W4 (p:g9) (c K:Int):Prop:=0≤K∧K≤63∧sq p K=1+6*c∧∀ j:Int,0≤j→j≤63→sq p j=1+6*c→j=K
structure B7 (p:g9):Prop where
 pc:∀ i:Int,0≤sq p i∧sq p i≤12
 pawn:∀ i:Int,0≤i→i≤63→a0B (sq p i)=6→l8 i≠0∧l8 i≠7
 turn:p.turn=0∨p.turn=1
 c0:0≤p.castle
 c1:p.castle≤15
 h0:0≤p.half
 f1:1≤p.full
 king:∀ c:Int,c=0∨c=1→W4 p c (a2J p c)
 right:∀ n:Nat,n<4→W3 p.castle n=true→sq p (a2s n)=1+6*((n:Int)/2)∧sq p (A9 n)=3+6*((n:Int)/2)
 pass:P8 p=true
 quiet:C2 p (a2J p (1-p.turn)) p.turn=false
theorem b27 (f:Nat→Bool):∀ n,a67 f n=0↔∀ i,i<n→f i=false:=by
 intro n
 induction n with
 | zero=>simp [a67]
 | succ n ih =>
  simp only [a67];constructor
  ·intro h i hi;have h1:a67 f n=0:=by omega
   by_cases e:i=n
   ·subst e;cases hf:f i
    ·rfl
    ·rw [hf] at h;simp at h
   ·exact ih.1 h1 i zo
  ·intro h;rw [ih.2 (fun i hi=>h i zo),h n zo];rfl
theorem b5L (f:Nat→Bool):∀ n,a67 f n=1↔∃ i,i<n∧f i=true∧∀ j,j<n→f j=true→j=i:=by
 intro n
 induction n with
 | zero=>simp [a67]
 | succ n ih =>
  simp only [a67];cases hf:f n
  ·simp only [yG,xv,Nat.add_zero,ih];constructor
   ·rintro ⟨i,h1,h2,h3⟩;refine ⟨i,zo,h2,fun j hj hfj=>?_⟩;by_cases e:j=n
    ·subst e;rw [hf] at hfj;cases hfj
    ·exact h3 j zo hfj
   ·rintro ⟨i,h1,h2,h3⟩;refine ⟨i,?_,h2,fun j hj hfj=>h3 j zo hfj⟩;by_cases e:i=n
    ·subst e;rw [hf] at h2;cases h2
    ·omega
  ·simp only [wO];constructor
   ·intro h;have h1:a67 f n=0:=by omega
    have h2:=(b27 f n).1 h1;refine ⟨n,zo,hf,fun j hj hfj=>?_⟩;by_cases e:j=n
    ·exact e
    ·rw [h2 j zo] at hfj;cases hfj
   ·rintro ⟨i,h1,h2,h3⟩;have e:n=i:=h3 n zo hf;have:a67 f n=0:=(b27 f n).2 (fun j hj=>by
     cases hfj:f j
     ·rfl
     ·have:=h3 j zo hfj;omega)
    omega
theorem b8H (f:Nat→Bool) {i:Nat}:∀ n,i<n→f i=true→(∀ j,j<n→f j=true→j=i)→a0u f n=some i:=by
 intro n
 induction n with
 | zero=>intro h;omega
 | succ n ih =>
  intro h hf hu;unfold a0u;by_cases e:i=n
  ·subst e;have:a0u f i=none:=by
    cases hj:a0u f i with
    | none=>rfl
    | some j=>have:=b0n hj;have:=hu j zo this.2;omega
   rw [this];simp [hf]
  ·rw [ih zo hf (fun j hj hfj=>hu j zo hfj)]
theorem W4.at {p:g9} {c K:Int} (h:W4 p c K):a2J p c=K:=by
 obtain ⟨h0,h1,h2,h3⟩:=h;unfold a2J;rw [b8H (i:=K.toNat) _ 64 zo (by simp only [zW];rw [zi h0];exact h2) (fun j hj hf=>by
  have:=h3 j zo zo (yF hf);omega)]
 simp only;omega
theorem a5a {p:g9} {c:Int} (h:count p 1 c=1):W4 p c (a2J p c):=by
 obtain ⟨i,h1,h2,h3⟩:=(b5L _ 64).1 h;have:W4 p c i:=⟨zo,zo,yF h2,fun j j0 j1 hj=>by
  have:=h3 j.toNat zo (by simp only [zW];rw [zi j0];exact hj);omega⟩
 rw [this.at];exact this
theorem a5b {p:g9} {c K:Int} (h:W4 p c K):count p 1 c=1:=by
 obtain ⟨h0,h1,h2,h3⟩:=h;refine (b5L _ 64).2 ⟨K.toNat,zo,?_,fun j hj hf=>?_⟩
 ·simp only [zW];rw [zi h0];exact h2
 ·have:=h3 j zo zo (yF hf);omega
theorem b1x {c:Int} (h0:0≤c) (h1:c≤15):c=0∨c=1∨c=2∨c=3∨c=4∨c=5∨c=6∨c=7∨c=8∨c=9∨c=10∨c=11∨c=12∨c=13∨c=14∨c=15:=by omega
def a6H (c:Int) (b0 b1 b2 b3:Bool):Int:=(if W3 c 0&&b0 then 1 else 0)+(if W3 c 1&&b1 then 2 else 0)+(if W3 c 2&&b2 then 4 else 0)+(if W3 c 3&&b3 then 8 else 0)
theorem c1l {c:Int} (h0:0≤c) (h1:c≤15) (b0 b1 b2 b3:Bool):a6H c b0 b1 b2 b3=c↔(W3 c 0=true→b0=true)∧(W3 c 1=true→b1=true)∧(W3 c 2=true→b2=true)∧(W3 c 3=true→b3=true):=by
 rcases b1x h0 h1 with rfl|rfl|rfl|rfl|rfl|rfl|rfl|rfl|rfl|rfl|rfl|rfl|rfl|rfl|rfl|rfl<;>revert b0 b1 b2 b3<;>decide
theorem b8I {c:Int} (h0:0≤c) (h1:c≤15) (b0 b1 b2 b3:Bool):0≤a6H c b0 b1 b2 b3∧a6H c b0 b1 b2 b3≤15∧W3 (a6H c b0 b1 b2 b3) 0=(W3 c 0&&b0)∧W3 (a6H c b0 b1 b2 b3) 1=(W3 c 1&&b1)∧W3 (a6H c b0 b1 b2 b3) 2=(W3 c 2&&b2)∧W3 (a6H c b0 b1 b2 b3) 3=(W3 c 3&&b3):=by
 rcases b1x h0 h1 with rfl|rfl|rfl|rfl|rfl|rfl|rfl|rfl|rfl|rfl|rfl|rfl|rfl|rfl|rfl|rfl<;>revert b0 b1 b2 b3<;>decide
theorem b4t (p:g9):rights p=a6H p.castle (decide (sq p (a2s 0)=1)&&decide (sq p (A9 0)=3)) (decide (sq p (a2s 1)=1)&&decide (sq p (A9 1)=3)) (decide (sq p (a2s 2)=7)&&decide (sq p (A9 2)=9)) (decide (sq p (a2s 3)=7)&&decide (sq p (A9 3)=9)):=by
 simp only [rights,Y2,a6H,Bool.and_assoc];rw [Int.zero_add];rfl
theorem a5q {p:g9} (h0:0≤p.castle) (h1:p.castle≤15):rights p=p.castle↔∀ n:Nat,n<4→W3 p.castle n=true→sq p (a2s n)=1+6*((n:Int)/2)∧sq p (A9 n)=3+6*((n:Int)/2):=by
 rw [b4t,c1l h0 h1];simp only [zP,zW];constructor
 ·rintro ⟨a0,a1,a2,a3⟩ n hn hb;have:n=0∨n=1∨n=2∨n=3:=by omega
  rcases this with rfl|rfl|rfl|rfl
  ·exact a0 hb
  ·exact a1 hb
  ·exact a2 hb
  ·exact a3 hb
 ·intro h;exact ⟨h 0 zo,h 1 zo,h 2 zo,h 3 zo⟩
def a2x (m:Mv) (n:Int):Bool:=decide (m.fr=a2s n)||decide (m.fr=A9 n)||decide (m.to=a2s n)||decide (m.to=A9 n)
def c1m (c:Int) (b0 b1 b2 b3:Bool):Int :=
 let x0:=if W3 c 0&&b0 then c-1 else c
 let x1:=if W3 x0 1&&b1 then x0-2 else x0
 let x2:=if W3 x1 2&&b2 then x1-4 else x1
 if W3 x2 3&&b3 then x2-8 else x2
theorem b1y {c:Int} (h0:0≤c) (h1:c≤15) (b0 b1 b2 b3:Bool):c1m c b0 b1 b2 b3=a6H c (!b0) (!b1) (!b2) (!b3):=by
 rcases b1x h0 h1 with rfl|rfl|rfl|rfl|rfl|rfl|rfl|rfl|rfl|rfl|rfl|rfl|rfl|rfl|rfl|rfl<;>revert b0 b1 b2 b3<;>decide
theorem b28 (c:Int) (m:Mv):left c m=c1m c (a2x m 0) (a2x m 1) (a2x m 2) (a2x m 3):=by
 simp only [left,a0e,c1m,a2x];rfl
theorem b8J {c:Int} (h0:0≤c) (h1:c≤15) (m:Mv):0≤left c m∧left c m≤15∧∀ n:Nat,n<4→W3 (left c m) n=(W3 c n && !a2x m n):=by
 rw [b28,b1y h0 h1];obtain ⟨a,b,c0,c1,c2,c3⟩:=b8I h0 h1 (!a2x m 0) (!a2x m 1) (!a2x m 2) (!a2x m 3);refine ⟨a,b,fun n hn=>?_⟩;have:n=0∨n=1∨n=2∨n=3:=by omega
 rcases this with rfl|rfl|rfl|rfl
 ·exact c0
 ·exact c1
 ·exact c2
 ·exact c3
theorem c3L (p:g9) {i:Int} (h:i<0∨63<i):sq p i=sq p 0∨sq p i=0:=by
 unfold sq;rcases h with h|h
 ·left;rw [show i.toNat=0 by omega];rfl
 ·right;rw [xA,xS (by rw [p.len];omega)];rfl
theorem b4u {p:g9} (h:∀ i:Nat,i<64→0≤sq p i∧sq p i≤12) (i:Int):0≤sq p i∧sq p i≤12:=by
 by_cases hi:i<0∨63<i
 ·rcases c3L p hi with e|e<;>rw [e]
  ·exact h 0 zo
  ·omega
 ·have:=h i.toNat zo;rwa [zi zo] at this
theorem a6I (p:g9):valid p=true↔B7 p:=by
 unfold valid;simp only [zP,zc,yD,x9,Bool.not_eq_false',zZ,zW];constructor
 ·rintro ⟨⟨⟨h1,⟨⟨⟨h2,h3⟩,h4⟩,h5⟩,h6⟩,⟨⟨h7,h8⟩,h9⟩,h10⟩,h11⟩;have hok:∀ i:Nat,i<64→L4 p i=true:=by
   intro i hi;cases hb:L4 p i
   ·have:b30 (fun i=>!L4 p i) 64=true:=a4s (i:=i) hi (by simp [hb])
    rw [h1] at this;cases this
   ·rfl
  have hok2:∀ i:Nat,i<64→(0≤sq p i∧sq p i≤12)∧(a0B (sq p i)=6→l8 i≠0∧l8 i≠7):=by
   intro i hi;have:=hok i hi;unfold L4 at this;simp only [zc,yD,x9,zZ,Bool.not_eq_false',zW] at this;refine ⟨zo,fun h=>?_⟩;have hz:sq p i≠0:=by intro e;rw [e] at h;simp [a0B] at h
   rcases this.2 with (h'|h')|h'
   ·exact absurd h h'
   ·exact absurd h' hz
   ·exact h'
  exact ⟨b4u (fun i hi=>(hok2 i hi).1),fun i i0 i1=>by have:=(hok2 i.toNat zo).2;rwa [zi i0] at this,zo,zo,zo,zo,zo,
   fun c hc=>by rcases hc with rfl|rfl;exact a5a h7;exact a5a h8,(a5q zo zo).1 h9,h10,h11⟩
 ·intro h;refine ⟨⟨⟨?_,⟨⟨⟨?_,?_⟩,?_⟩,?_⟩,?_⟩,⟨⟨?_,?_⟩,?_⟩,?_⟩,?_⟩
  ·cases ha:b30 (fun i=>!L4 p i) 64
   ·rfl
   ·obtain ⟨i,hi,hb⟩:=(a3I _ _).1 ha;exfalso;simp only [zc] at hb;unfold L4 at hb;simp only [Bool.not_eq_false',zj,zP,zW,zc,zZ] at hb;have:=h.pc i;rcases hb with (hb|hb)|⟨⟨hb,_⟩,hb2⟩
    ·omega
    ·omega
    ·have:=h.pawn i zo zo hb;omega
  ·have:=h.turn;omega
  ·have:=h.c0;omega
  ·have:=h.c1;omega
  ·have:=h.h0;omega
  ·have:=h.f1;omega
  ·exact a5b (h.king 0 (.inl rfl))
  ·exact a5b (h.king 1 (.inr rfl))
  ·exact (a5q h.c0 h.c1).2 h.right
  ·exact h.pass
  ·exact h.quiet
theorem B7.rights {p:g9} (h:B7 p):rights p=p.castle:=(a5q h.c0 h.c1).2 h.right
structure H3 (p:g9) (m:Mv):Prop where
 f0:0≤m.fr
 f1:m.fr≤63
 t0:0≤m.to
 t1:m.to≤63
 ne:m.fr≠m.to
 there:sq p m.fr≠0
 own:A2 (sq p m.fr)=p.turn
 goal:m.to∈a0i p m.fr
 other:sq p m.to=0∨A2 (sq p m.to)≠p.turn
 promo:(m.promo=0∧¬ (a0B (sq p m.fr)=6∧l8 m.to=7-7*p.turn))∨(2≤m.promo∧m.promo≤5∧a0B (sq p m.fr)=6∧l8 m.to=7-7*p.turn)
structure a2i (p:g9) (r:Nat) (m:Mv):Prop where
 right:r=(2*p.turn).toNat∨r=(2*p.turn).toNat+1
 may:a1L p r=true
 is:m=s9 r
theorem b8K (p:g9) (m:Mv):∀ n,m∈N5 p n↔∃ i:Nat,i<n∧m∈S6 p i:=by
 intro n
 induction n with
 | zero=>simp [N5]
 | succ n ih =>
  simp only [N5,zr,ih];constructor
  ·rintro (⟨i,h1,h2⟩|h)
   ·exact ⟨i,zo,h2⟩
   ·exact ⟨n,zo,h⟩
  ·rintro ⟨i,h1,h2⟩;by_cases e:i=n
   ·subst e;exact .inr h2
   ·exact .inl ⟨i,zo,h2⟩
theorem a7v (p:g9) (m:Mv) (fr to:Int):m∈P1 p fr to↔m.fr=fr∧m.to=to∧(sq p to=0∨A2 (sq p to)≠p.turn)∧((m.promo=0∧¬ (a0B (sq p fr)=6∧l8 to=7-7*p.turn))∨(2≤m.promo∧m.promo≤5∧a0B (sq p fr)=6∧l8 to=7-7*p.turn)):=by
 unfold P1;obtain ⟨a,b,c⟩:=m;by_cases h1:sq p to≠0∧A2 (sq p to)=p.turn
 ·rw [zM h1];simp only [zy,false_iff];rintro ⟨_,_,h3|h3,_⟩
  ·exact h1.1 h3
  ·exact h3 h1.2
 rw [zJ h1];have h1':sq p to=0∨A2 (sq p to)≠p.turn:=by
  by_cases e:sq p to=0
  ·exact .inl e
  ·exact .inr (fun e2=>h1 ⟨e,e2⟩)
 by_cases h2:a0B (sq p fr)≠6∨l8 to≠7-7*p.turn
 ·rw [zM h2];simp only [zY,Mv.mk.injEq];constructor
  ·rintro ⟨rfl,rfl,rfl⟩;exact ⟨rfl,rfl,h1',.inl ⟨rfl,fun h=>by rcases h2 with h2|h2;exact h2 h.1;exact h2 h.2⟩⟩
  ·rintro ⟨rfl,rfl,_,⟨h3,_⟩|⟨_,_,h3,h4⟩⟩
   ·exact ⟨rfl,rfl,h3⟩
   ·rcases h2 with h2|h2
    ·exact absurd h3 h2
    ·exact absurd h4 h2
 ·rw [zJ h2];have h2':a0B (sq p fr)=6∧l8 to=7-7*p.turn:=by
   refine ⟨yl fun h=>h2 (.inl h),yl fun h=>h2 (.inr h)⟩
  simp only [a3K,yV,Mv.mk.injEq,zy,xH];constructor
  ·rintro (⟨rfl,rfl,rfl⟩|⟨rfl,rfl,rfl⟩|⟨rfl,rfl,rfl⟩|⟨rfl,rfl,rfl⟩)<;>exact ⟨rfl,rfl,h1',.inr ⟨zd,zd,h2'⟩⟩
  ·rintro ⟨rfl,rfl,_,⟨_,h3⟩|⟨h3,h4,_⟩⟩
   ·exact absurd h2' h3
   ·have:c=2∨c=3∨c=4∨c=5:=by omega
    rcases this with rfl|rfl|rfl|rfl<;>simp
theorem b0r (fr:Int) (d:Int×Int) (j:Nat):stp fr d j≤63:=(at_range _ _).2
theorem a2y {p:g9} {fr to:Int} (h:to∈a0i p fr):0≤to∧to≤63:=by
 unfold a0i at h;split at h
 ·unfold W1 Y3 O3 a2w at h;simp only [zr,xg] at h;rcases h with h|⟨h,_⟩
  ·split at h
   ·rename_i hh;split at h
    ·rename_i h2;simp only [yV,zy,xH] at h;rcases h with rfl|rfl
     ·exact ⟨hh.1,(at_range _ _).2⟩
     ·refine ⟨?_,(at_range _ _).2⟩;have g:=Z4 _ _ hh.1;have hs:A2 (sq p fr)=0∨A2 (sq p fr)=1:=by unfold A2;split<;>simp
      rw [a4Y]<;>simp only [up] at * <;> omega
    ·simp only [zY] at h;subst h;exact ⟨hh.1,(at_range _ _).2⟩
   ·cases h
  ·rcases h with h|h
   ·split at h
    ·rename_i hh;rw [zY.1 h];exact ⟨hh,(at_range _ _).2⟩
    ·cases h
   ·split at h
    ·rename_i hh;rw [zY.1 h];exact ⟨hh,(at_range _ _).2⟩
    ·cases h
 ·unfold a5L at h;obtain ⟨d,_,h⟩:=xV.1 h;cases hfar:far (a0B (sq p fr))<;>rw [hfar] at h
  ·obtain ⟨h1,h2⟩:=(a3q p fr d to 6 1).1 h;exact ⟨h2,by rw [h1];exact b0r _ _ _⟩
  ·obtain ⟨j,h1,_,h2,h3,_⟩:=(a7s p fr d to 7 1).1 h;rw [h2];exact ⟨h3 j h1 zo,b0r _ _ _⟩
theorem c3M (x:Int):A2 x=0∨A2 x=1:=by unfold A2;split<;>simp
theorem b0s {x:Int} (h0:0≤x) (h1:x≤12) (hx:x≠0):1≤a0B x∧a0B x≤6∧x=a0B x+6*A2 x:=by
 unfold a0B A2;split<;>omega
theorem S0 {p:g9} (hI:B7 p) {fr to:Int} (f0:0≤fr) (f1:fr≤63) (hx:sq p fr≠0) (ho:A2 (sq p fr)=p.turn) (h:to∈a0i p fr) :
  (a0B (sq p fr)≠6∧hits p fr to=true) ∨
  (a0B (sq p fr)=6∧sq p to=0∧o5 to=o5 fr∧(l8 to=l8 fr+up p.turn∨l8 to=l8 fr+2*up p.turn∧l8 fr=1+5*p.turn∧sq p (K7 (o5 fr) (l8 fr+up p.turn))=0)) ∨
  (a0B (sq p fr)=6∧(o5 to=o5 fr+1∨o5 to=o5 fr-1)∧l8 to=l8 fr+up p.turn∧hits p fr to=true∧(sq p to=0→to=p.ep)):=by
 obtain ⟨t0,t1⟩:=a2y h;obtain ⟨a,rfl⟩:=ze f0;obtain ⟨b,rfl⟩:=ze t0;obtain ⟨k1,k6,kx⟩:=b0s (hI.pc a).1 (hI.pc a).2 hx;unfold a0i at h;by_cases hk:a0B (sq p a)=6
 ·right;rw [zM hk] at h;unfold W1 at h;simp only [ho] at h;rw [zr,b25,b26,a4Z hI.pc hI.turn hI.pass] at h;simp only [xH] at h;rcases h with h|h
  ·left;rcases h with ⟨h2,h3⟩|⟨h2,h3,h4,h5,h6⟩
   ·have g:=Z4 _ _ (by rw [← h2];exact t0)
    refine ⟨hk,h3,?_,.inl ?_⟩<;>rw [h2,g.2.2.2.2]<;>(simp only [o5,l8] at *;omega)
   ·have g:=Z4 _ _ (by rw [← h2];exact t0)
    refine ⟨hk,h3,?_,.inr ⟨?_,h4,h6⟩⟩
    ·rw [h2,g.2.2.2.2];simp only [o5,l8] at *;omega
    ·rw [h2,g.2.2.2.2];simp only [o5,l8] at *;omega
  ·right;obtain ⟨h2,h3⟩:=h;have hc:(o5 b=o5 a+1∨o5 b=o5 a-1)∧l8 b=l8 a+up p.turn:=by
    rcases h2 with h2|h2
    ·have g:=Z4 _ _ (by rw [← h2];exact t0)
     rw [h2,g.2.2.2.2];simp only [o5,l8] at *;omega
    ·have g:=Z4 _ _ (by rw [← h2];exact t0)
     rw [h2,g.2.2.2.2];simp only [o5,l8] at *;omega
   refine ⟨hk,hc.1,hc.2,?_,fun hz=>?_⟩
   ·rw [a6G,hk,ho];simp only [Q9,zP,zc,zZ];refine ⟨hx,?_,?_⟩
    ·rintro rfl;rcases hc.1 with h|h<;>omega
    ·rw [zJ zd,zJ zd,zM trivial];simp only [zP,zW];refine ⟨?_,by unfold dR;omega⟩
     have:dF a b=1∨dF a b=-1:=by unfold dF;omega
     rcases this with e|e<;>rw [e]<;>decide
   ·rcases h3 with ⟨h3,_⟩|h3
    ·exact absurd hz h3
    ·exact h3
 ·left;rw [zJ hk] at h;refine ⟨hk,?_⟩;rw [a6G];have:=(a1N p (fr:=a) (to:=b) zo zo rfl k1 zo).1 h;simp only [zP,zc,zZ];refine ⟨hx,?_⟩;rw [← this];unfold Q9;rw [zJ hk,zJ hk]
theorem a0H {p:g9} (_hI:B7 p) (m:Mv):m∈a3m p↔H3 p m∨∃ r,a2i p r m:=by
 unfold a3m a1A W2;rw [zr,b8K,zr];constructor
 ·rintro (⟨i,hi,h⟩|h)
  ·left;unfold S6 at h;split at h
   ·cases h
   ·rename_i hn;obtain ⟨to,h1,h2⟩:=xV.1 h;obtain ⟨e1,e2,h3,h4⟩:=(a7v _ _ _ _).1 h2;obtain ⟨g0,g1⟩:=a2y h1;have hn':sq p i≠0∧A2 (sq p i)=p.turn:=⟨fun e=>hn (.inl e),yl fun e=>hn (.inr e)⟩;refine ⟨zo,zo,zo,zo,?_,by rw [e1];exact hn'.1,by rw [e1];exact hn'.2,by rw [e1,e2];exact h1,by rw [e2];exact h3,by rw [e1,e2];exact h4⟩
    intro e;rw [e1,e2] at e;subst e;rcases h3 with h3|h3
    ·exact hn'.1 h3
    ·exact h3 hn'.2
  ·right;rcases h with h|h
   ·split at h
    ·exact ⟨_,.inl rfl,by assumption,zY.1 h⟩
    ·cases h
   ·split at h
    ·exact ⟨_,.inr rfl,by assumption,by rw [zY.1 h]⟩
    ·cases h
 ·rintro (h|⟨r,h⟩)
  ·left;refine ⟨m.fr.toNat,by have:=h.f1;have:=h.f0;omega,?_⟩
   rw [zi h.f0];unfold S6;rw [zJ (by rintro (e|e);exact h.there e;exact e h.own)]
   exact xV.2 ⟨m.to,h.goal,(a7v _ _ _ _).2 ⟨rfl,rfl,h.other,h.promo⟩⟩
  ·right;rcases h.right with e|e
   ·left;rw [← e,zM h.may];exact zY.2 h.is
   ·right;rw [← e,zM h.may];exact zY.2 h.is
end Ch
end
section
open Go Go.RowKit
open E
theorem b8L:(∀ c:Fin 16,∀ n:Fin 4,decide (a0S .and .i64 (Int.fdiv (c.val:Int) (2^(min (Int.toNat (n.val:Int)) IntKind.i64.bits))) 1=0) = !Ch.W3 (c.val:Int) n.val):=by decide +kernel
theorem b8M {c:Int} {n:Nat} (h0:0≤c) (h1:c≤15) (hn:n<4):(a0S .and .i64 (Int.fdiv c (2^(min (Int.toNat (n:Int)) IntKind.i64.bits))) 1=0)↔Ch.W3 c n=false:=by
 have:=b8L ⟨c.toNat,zo⟩ ⟨n,hn⟩;simp only [zi h0] at this;constructor
 ·intro h;rw [h] at this;simpa using this
 ·intro h;rw [h] at this;simpa using this
theorem b6Y (p:g9) (W:Int) (n:Nat) (i:Int):Ch.free p i W (n+1)=(Ch.free p i W n&&decide (Ch.sq p (i+((n:Int)+1)*W)=0)):=by
 rw [xD,zP,Ch.a2O,Ch.a2O,zW];constructor
 ·intro h;exact ⟨fun j hj=>h j zo,h n zo⟩
 ·rintro ⟨h1,h2⟩ j hj;by_cases e:j=n
  ·subst e;exact h2
  ·exact h1 j zo
theorem b8N:∀ r:Nat,r<4→∃ K w:Int,∃ d:Nat,Ch.a2s r=K∧(if Ch.A9 r<Ch.a2s r then (-1:Int) else 1)=w∧Ch.A9 r=K+((d:Int)+1)*w∧Ch.a6C (Ch.A9 r-Ch.a2s r) 0=d∧(K=4∨K=60)∧(w=1∧d=2∨w=-1∧d=3):=by
 intro r hr;have:r=0∨r=1∨r=2∨r=3:=by omega
 rcases this with rfl|rfl|rfl|rfl
 ·exact ⟨4,1,2,zd,zd,zd,zd,zd,zd⟩
 ·exact ⟨4,-1,3,zd,zd,zd,zd,zd,zd⟩
 ·exact ⟨60,1,2,zd,zd,zd,zd,zd,zd⟩
 ·exact ⟨60,-1,3,zd,zd,zd,zd,zd,zd⟩
def a5c (p:g9):Nat→List Mv
 | 0=>[]
 | n+1=>a5c p n++Ch.W2 p ((2*p.turn).toNat+n)
theorem b6Z (p:g9):∀ n,(a5c p n).length≤n:=by
 intro n
 induction n with
 | zero=>simp [a5c]
 | succ n ih=>simp only [a5c,zF];unfold Ch.W2;split<;>simp<;>omega
theorem b7a (p:g9) (hI:Ch.B7 p) (w:World) :
  Calls G.P 180 #[F5 p] w (b20 36 3 N3 (Ch.a1A p) w):=by
 have ht:=hI.turn;have c0:=hI.c0;have c1:=hI.c1;have hp:Pc p:=hI.pc;refine zN func180 ?_;refine zG ?_;refine zR ?_;generalize hW:w.alloc (.cells (t8 p) 24)=W0;have hP:∀ w',Cl W0 w'→w'.heap[w.heap.size]?=some (.cells (t8 p) 24 (0,0)):=fun w' h=>(hW▸h:Cl (w.alloc (.cells (t8 p) 24)) w').blk (d8 _ _);have hE:∀ w',Cl W0 w'→Cl w w':=fun w' h=>(Cl.alloc _ _).trans (hW▸h);have t2:IntKind.i64.wrap (2*p.turn)=2*p.turn:=g8 zo zo;have t3:IntKind.i64.wrap (2*p.turn+2)=2*p.turn+2:=g8 zo zo;have t1:IntKind.i64.wrap (1-p.turn)=1-p.turn:=g8 zo zo;refine zR ?_;refine b7 _ (I0 (hP _ (Cl.refl _))) (zR ?_);refine C1 (σ:=Nat×Value) [3,4,5,6,7,8,9] 10 (fun a=>[(3,a.2),(4,.int .i64 (2*p.turn+a.1))]) (fun a w'=>a.1≤2∧Row 36 3 N3 W0.heap.size w' a.2 (a5c p a.1)∧Cl W0 w') (fun a=>2-a.1) zk (0,.slice none 0 0)
  ⟨zo,Row.nil _ _,Cl.refl _⟩ ⟨rfl,d9 (by rw [t2];simp),trivial⟩ ?_
 rintro ⟨n,v⟩ j w1 ⟨hn,hrow,hcl⟩;simp only at hn hrow;obtain ⟨a,c,rfl,_⟩:=hrow.form;have hlen:=b6Z p n;refine zR ?_;refine b7 _ (I0 (hP _ hcl)) (zR ?_);apply E.d7<;>intro h
 ·have hn2:n<2:=by simp only [t2,t3] at h;omega
  clear h;generalize hr:(2*p.turn).toNat+n=r;have hr4:r<4:=by omega
  have hri:(2*p.turn+(n:Int))=(r:Int):=by omega
  simp only [hri];have hstep:a5c p (n+1)=a5c p n++Ch.W2 p r:=by simp only [a5c,hr]
  obtain ⟨K,W,d,eK,eW,eR,eD,hK,hWd⟩:=b8N r hr4;rw [eK] at eW eD;refine zR ?_;refine g7 (b4h _ _ zo zo) ?_;simp only [eK,eR];refine zR ?_;refine b7 _ (A4 (hP _ hcl)) (zR ?_);refine o7 (b2y p _ c0 c1) fun w2 e2=>?_;rw [hI.rights];have hcl2:=hcl.trans e2;have hrow2:=hrow.step e2;refine zR ?_;intro r1 hr1;refine zR ?_;intro r2 hr2;have hbi:=b8M c0 c1 hr4;rw [← hr1,← hr2] at hbi;clear hr1 hr2;have hone:Ch.W2 p r=if (Ch.W3 p.castle r && !Ch.C2 p K (1-p.turn)&&(!Ch.C2 p (K+W) (1-p.turn)&&Ch.free p K W d))=true then [⟨K,K+2*W,0⟩] else []:=by
   unfold Ch.W2 Ch.a1L Ch.a3l Ch.s9;simp only [hI.rights,eK,eW,eD]
  have nx:(2*p.turn+((n+1:Nat):Int))=(r:Int)+1:=by push_cast;omega
  refine zR ?_;apply E.d7<;>intro h
  ·rw [hbi.1 h] at hone;simp only [xw,yG,xv] at hone;rw [hone,zn] at hstep;refine zR ?_;refine ⟨(n+1,_),⟨rfl,d9 (by rw [nx,g8 zo zo]),trivial⟩,⟨by simp only;omega,by simp only [hstep];exact hrow2,hcl2⟩,by simp only;omega⟩
  have hb:Ch.W3 p.castle r=true:=by
   cases hx:Ch.W3 p.castle r
   ·exact absurd (hbi.2 hx) h
   ·rfl
  clear h hbi;rw [hb] at hone;simp only [yY] at hone;refine zR ?_;refine b7 _ (A4 (hP _ hcl2)) (zR ?_);refine b7 _ (I0 (hP _ hcl2)) (zR ?_);simp only [t1];refine o7 (a2e p hp K (1-p.turn) _ zo zo) fun w3 e3=>?_;have hcl3:=hcl2.trans e3;have hrow3:=hrow2.step e3;cases hA:Ch.C2 p K (1-p.turn)
  ·rw [hA] at hone;simp only [Bool.not_false,yY] at hone;have hWc:(if K+((d:Int)+1)*W<K then (-1:Int) else 1)=W:=by
    rcases hWd with ⟨rfl,rfl⟩|⟨rfl,rfl⟩
    ·rw [zJ zo]
    ·rw [zM zo]
   refine zG ?_;refine Nx.mk (zG ?_);refine Nx.mk (zG ?_);refine B0 (σ:=Unit) [7] 10 (fun _=>[(7,.int .i64 W)]) (fun _ w'=>w'=w3) zk ?_ (fun _ j w4 e4=>?_)
   ·refine zR ?_;apply E.d7<;>intro h
    ·rw [zM h] at hWc;refine zR ?_;exact ⟨(),⟨d9 hWc,trivial⟩,rfl⟩
    ·rw [zJ h] at hWc;refine zR ?_;exact ⟨(),⟨d9 hWc,trivial⟩,rfl⟩
   subst e4;have hKW:0≤K+W∧K+W≤63:=by omega
   have m1:IntKind.i64.wrap (K+W)=K+W:=g8 zo zo;refine zR ?_;refine b7 _ (A4 (hP _ hcl3)) (zR ?_);refine b7 _ (I0 (hP _ hcl3)) (zR ?_);simp only [t1,m1];refine o7 (a2e p hp (K+W) (1-p.turn) _ hKW.1 hKW.2) fun w5 e5=>?_;have hcl5:=hcl3.trans e5;have hrow5:=hrow3.step e5;generalize hB:Ch.C2 p (K+W) (1-p.turn)=B at hone;refine zR ?_;refine C1 (σ:=Nat) [8,9] 10 (fun a=>[(8,.bool (!B&&Ch.free p K W a)),(9,.int .i64 (K+((a:Int)+1)*W))]) (fun a w'=>a≤d∧w'=w5) (fun a=>d-a) zk 0
    ⟨zo,rfl⟩ ⟨yM Value.bool (by simp [Ch.free]),d9 (by rw [m1];simp),trivial⟩ ?_
   rintro m j6 w6 ⟨hm,rfl⟩;have hmW:(W=1∨W=-1)∧d≤3:=by omega
   have hpos:0≤K+((m:Int)+1)*W∧K+((m:Int)+1)*W≤63:=by
    rcases hWd with ⟨rfl,rfl⟩|⟨rfl,rfl⟩<;>omega
   refine zR ?_;apply E.y8<;>intro h
   ·have hmd:m<d:=by
     rcases wh m d with h'|h'
     ·exact h'
     ·exfalso;apply h;rw [show m=d by omega]
    have fs:=b6Y p W m K;have m2:IntKind.i64.wrap (K+((m:Int)+1)*W+W)=K+(((m+1:Nat):Int)+1)*W:=by
     rw [g8 zo zo];rcases hmW.1 with rfl|rfl<;>push_cast<;>omega
    cases hf:(!B&&Ch.free p K W m)
    ·have hf2:(!B&&Ch.free p K W (m+1))=false:=by rw [fs,← Bool.and_assoc,hf];rfl
     refine zR ?_;refine ⟨m+1,⟨yM Value.bool hf2.symm,d9 m2,trivial⟩,⟨zo,rfl⟩,zo⟩
    ·have hf2:(!B&&Ch.free p K W (m+1))=decide (Ch.sq p (K+((m:Int)+1)*W)=0):=by rw [fs,← Bool.and_assoc,hf];rfl
     refine zR ?_;refine E.A1 (F6.2 ⟨hpos.1,zo⟩) (zR ?_);refine b7 _ (P5 (hP _ hcl5) _ hpos.1 zo) (zR ?_);refine ⟨m+1,⟨yM Value.bool hf2.symm,d9 m2,trivial⟩,⟨zo,rfl⟩,zo⟩
   ·have hmd:m=d:=by
     rcases hmW.1 with rfl|rfl<;>omega
    subst hmd;cases hf:(!B&&Ch.free p K W m)
    ·rw [hf] at hone;simp only [yG,xv] at hone;rw [hone,zn] at hstep;refine zR ?_;refine ⟨(n+1,_),⟨rfl,d9 (by rw [nx,g8 zo zo]),trivial⟩,⟨by simp only;omega,by simp only [hstep];exact hrow5,hcl5⟩,by simp only;omega⟩
    ·rw [hf] at hone;simp only [wO] at hone;rw [hone] at hstep;have m3:IntKind.i64.wrap (2*W)=2*W:=g8 zo zo;have m4:IntKind.i64.wrap (K+2*W)=K+2*W:=g8 zo zo;refine zR ?_;simp only [m3,m4];refine r7 #[.int .i64 K,.int .i64 (K+2*W),.int .i64 0] zk (zR ?_);refine A8 a8D [.agg #[.int .i64 K,.int .i64 (K+2*W),.int .i64 0]] (by rw [zb];rfl) (by simp [Value.cells]) rfl zd zd (zR ?_)
     refine V7 (enc:=N3) a8D ⟨K,K+2*W,0⟩ rfl hrow5 rfl rfl rfl E5 N6 zo zd hcl5.size (fun v' w7 hr hc=>?_);obtain ⟨a7,cc7,rfl,_⟩:=hr.form;refine zR ?_;refine ⟨(n+1,_),⟨rfl,d9 (by rw [nx,g8 zo zo]),trivial⟩,⟨by simp only;omega,by simp only [hstep];exact hr,hc.cl W0 rfl hcl5⟩,by simp only;omega⟩
  ·rw [hA] at hone;simp only [wJ,xw,yG,xv] at hone;rw [hone,zn] at hstep;refine zR ?_;refine ⟨(n+1,_),⟨rfl,d9 (by rw [nx,g8 zo zo]),trivial⟩,⟨by simp only;omega,by simp only [hstep];exact hrow3,hcl3⟩,by simp only;omega⟩
 ·have hn2:n=2:=by simp only [t2,t3] at h;omega
  subst hn2;refine zR ?_;refine ⟨_,rfl,?_,hE _ hcl⟩;have e:Ch.a1A p=a5c p 2:=by simp [Ch.a1A,a5c]
  rw [e];exact hrow.mono (by have:=(hE _ (Cl.refl _)).size;omega)
theorem b0t {α:Type}:∀ (l:List α) (k:Nat) (h:k+1<l.length),((l.set (k+1) l[k]).set k l[k+1]).Perm l:=by
 intro l
 induction l with
 | nil=>intro k h;simp at h
 | cons x r ih =>
  intro k h;cases k with
  | zero =>
   cases r with
   | nil=>simp at h
   | cons y r=>simp only [List.getElem_cons_zero,List.getElem_cons_succ,List.set_cons_succ,List.set_cons_zero];exact List.Perm.swap _ _ _
  | succ k =>
   simp only [List.getElem_cons_succ,List.set_cons_succ];exact (ih k (by simpa using h)).cons x
theorem Row.turn {α:Type} {e z b0:Nat} {enc:α→List Value} {w:World} {l:List α} {g n c:Nat} (h:Row e z enc b0 w (.slice (some ⟨g,0,none⟩) n c) l) (henc:∀ x,(enc x).length=z) (i:Nat) (hi:i<l.length) (x:α) :
  ∃ cs,w.heap[g]?=some (.cells cs e (0,0))∧i*z+z≤cs.size∧b0≤g∧∀ w',Upd w g (.cells (J3 cs (i*z) (enc x)) e (0,0)) w'→Row e z enc b0 w' (.slice (some ⟨g,0,none⟩) n c) (l.set i x):=by
 have hl:=h.1;rcases h.2 with ⟨e1,_⟩|⟨g',cap,cur,e1,e2,e3,e4,e5,e6,e7⟩
 ·cases e1
 ·injection e1 with e1 e8 e9;injection e1 with e1;injection e1 with e1 _ _;subst e1;subst e8;subst e9;have hle:(i+1)*z≤l.length*z:=xY _ zo;rw [wV] at hle;have hsz:l.length*z≤cur.size:=by rw [e6];exact xY _ e4
  refine ⟨cur,e3,zo,e2,fun w' hu=>⟨by rw [H8 henc],.inr ⟨g,c,_,by rw [List.length_set],e2,hu.at_,by rw [List.length_set];exact e4,e5,by rw [F8];exact e6,?_⟩⟩⟩
  rw [List.length_set];apply List.ext_getElem?;intro k;by_cases hk:k<l.length*z
  ·have hz:0<z:=by
    rcases Nat.eq_zero_or_pos z with h0|h0
    ·subst h0;simp at hk
    ·exact h0
   rw [xq,zM hk,xM,O4 _ _ _ _ (by rw [henc];omega),henc]
   have hq:k/z<l.length:=Nat.div_lt_of_lt_mul (by rw [Nat.mul_comm];exact hk)
   have hkz:k/z*z+k%z=k:=by rw [Nat.mul_comm];exact Nat.div_add_mod k z
   have hm:=Nat.mod_lt k hz;have hR:=a3J henc (l.set i x) (k/z) (k%z) (by rw [List.length_set];exact hq) hm
   rw [hkz] at hR;rw [hR,List.getElem_set];by_cases hik:i=k/z
   ·subst hik;rw [zM rfl,zM zo];congr 1;omega
   ·rw [zJ hik];have hL:=a3J henc l (k/z) (k%z) hq hm;rw [hkz] at hL;have hneg:¬ (i*z≤k∧k<i*z+z):=by
     rintro ⟨h1,h2⟩;apply hik;rcases wh (k/z) i with h3|h3
     ·have:(k/z+1)*z≤i*z:=xY _ h3;rw [wV] at this;omega
     ·rcases wh i (k/z) with h4|h4
      ·have:(i+1)*z≤k/z*z:=xY _ h4;rw [wV] at this;omega
      ·omega
    rw [zJ hneg,← hL,← e7,xq,zM hk];simp
  ·rw [xS (by simp;omega),xS (by rw [H8 henc,List.length_set];omega)]
theorem I5 {α:Type} {t e z b:Nat} (E1:H0 t e z b) {enc:α→List Value} {b0 b1:Nat} {v vx:Value} {l news:List α} {dst:Option Nat} {s x:Operand} {ty:Nat} {pos:String} {af:Array Edge} {gd:Option (Nat×Bool)} {env:C9} {w:World} {K:Value→World→Prop}
  (hs:ev env s=v) (hrow:Row e z enc b0 w v l) (hx:ev env x=vx) (hB:Row e z enc b1 w vx news) (henc:∀ x,(enc x).length=z)
  (hone:∀ x,∀ u∈enc x,u.oneCell'=true) (hlen:l.length+news.length≤100000) (hbz:b≤1000) (hb0:b0≤w.heap.size)
  (h:∀ v' w',Row e z enc b0 w' v' (l++news)→a5O b0 w v w' v'→K v' w') :
  L6 G.P { dst,op:=.call { callee:=.builtin .append,args:=#[s,x],argTypes:=#[t,t] },type:=ty,pos,after:=af,guard:=gd } env w K:=by
 obtain ⟨a,c,rfl,ha⟩:=hB.form;cases a with
 | some ad =>
  rcases hB.2 with ⟨e1,_⟩|⟨g,cap,cur,e1,_,e3,_,_,_,e7⟩
  ·cases e1
  ·injection e1 with e1 e8 e9;injection e1 with e1;subst e1;subst e9;refine a5P E1 hs hrow hx (fun j u hu=>?_) henc hone hlen hbz hb0 h;have hj:j<news.length*z:=by
    have:=(xZ.1 hu).1
    rwa [H8 henc] at this
   rw [D2 e3,← xM];rw [← e7,xq,zM hj] at hu;exact hu
 | none =>
  have hn:news.length=0:=by
   rcases Nat.eq_zero_or_pos news.length with h0|h0
   ·exact h0
   ·obtain ⟨g,hg⟩:=ha h0;cases hg
  have hnn:=wM hn;subst hnn;obtain ⟨i,zv,hi,hzv,hsz,hby,hzs⟩:=E1.info;obtain ⟨a1,c1,rfl,_⟩:=hrow.form;have hle:l.length≤c1:=by
   rcases hrow.2 with ⟨e1,e2⟩|⟨g,cap,cur,e1,_,_,e4,_⟩
   ·injection e1 with _ _ e3;omega
   ·injection e1 with _ _ e3;omega
  refine ⟨.inl ⟨_,w,?_,h _ w (by rw [zn];exact hrow) ⟨fun _ _ hc=>hc,fun _ _ hk _=>hk,.inl rfl⟩⟩⟩
  have hr:(Builtin.append_ #[t,t] ty #[.slice a1 l.length c1,.slice none 0 c]).run G.P w = .ok (.slice a1 l.length c1) w:=by
   cases a1<;>simp [Builtin.append_,Go.run_underlying E1.ty,sizeOf,typeInfo,hi,Builtin.lenOf,Builtin.firstCells,loadCells,loadCellsFrom,hle,storeCells]
  simp only [execOp,resolve,invoke,builtin,yq,xi,yx,xW,yU,xn,hs,hx];simp only [za] at hx ⊢;rw [hr];rfl
theorem a4x {t e z b:Nat} (E1:H0 t e z b) {dst:Option Nat} {ty:Nat} {pos:String} {af:Array Edge} {gd:Option (Nat×Bool)} {env:C9} {w:World} {K:Value→World→Prop}
  (h:K (.slice (some ⟨w.heap.size,0,none⟩) 0 0) (w.alloc (.cells #[] e))) :
  L6 G.P { dst,op:=.buildSlice t 0 #[],type:=ty,pos,after:=af,guard:=gd } env w K:=by
 refine ⟨.inl ⟨_,_,?_,h⟩⟩;obtain ⟨i,zv,hi,hzv,hsz,hby,hzs⟩:=E1.info;show (do pure (Next.value (← Instr.buildSlice t 0 _)):Sem Next).run G.P w=_
 simp [Instr.buildSlice,Go.run_underlying E1.ty,sizeOf,typeInfo,hi,Instr.fill,newRow];congr 2;apply Array.eq_empty_of_size_eq_zero;simp
theorem a1b {α:Type} {e z b0:Nat} {enc:α→List Value} {w:World} {l:List α} {g c n:Nat} {t:Nat} (h:Row e z enc b0 w (.slice (some ⟨g,0,none⟩) n c) l) (henc:∀ x,(enc x).length=z) (i:Nat) (hi:i<l.length)
  (ht:(match X0 G.T t with|some (.struct z' _)=>decide (z'=z)|some (.array n _ z')=>decide (n*z'=z)|_=>false)=true) {o:Nat} (ho:o=i*z) {v:Value} (hv:v = .agg (enc l[i]).toArray):m9 G.P w t ⟨g,o,none⟩ v:=by
 subst ho;subst hv;obtain ⟨cur,h1,h2,h3⟩:=h.getAll henc i hi;have:=ldA (t:=t) (o:=i*z) (z:=z) h1 ht h2;rw [h3] at this;exact this
def a5T (a b:Mv):Bool:=if a.fr≠b.fr then decide (a.fr<b.fr) else if a.to≠b.to then decide (a.to<b.to) else decide (a.promo<b.promo)
theorem b8O (a b:Mv) (w:World):Calls G.P 218 #[mvV a,mvV b] w (N0 (.bool (a5T a b)) w):=by
 refine zN func218 ?_;refine zG ?_;generalize hW:(w.alloc (.cells (Z3 a) 36)).alloc (.cells (Z3 b) 36)=W0;have hA:W0.heap[w.heap.size]?=some (.cells (Z3 a) 36 (0,0)):=hW▸(Cl.alloc _ _).blk (d8 _ _);have hB:W0.heap[(w.alloc (.cells (Z3 a) 36)).heap.size]?=some (.cells (Z3 b) 36 (0,0)):=hW▸d8 _ _;have hE:Cl w W0:=hW▸(Cl.alloc _ _).trans (Cl.alloc _ _);refine zR ?_;refine b7 _ (O1 hA) (zR ?_);refine b7 _ (O1 hB) (zR ?_);apply E.y8<;>intro h
 ·refine zR ?_;refine b7 _ (O1 hA) (zR ?_);refine b7 _ (O1 hB) (zR ?_);exact ⟨by simp [a5T,h],hE⟩
 have h1:=h;clear h;refine zR ?_;refine b7 _ (a0v hA) (zR ?_);refine b7 _ (a0v hB) (zR ?_);apply E.y8<;>intro h
 ·refine zR ?_;refine b7 _ (a0v hA) (zR ?_);refine b7 _ (a0v hB) (zR ?_);exact ⟨by simp [a5T,h1,h],hE⟩
 refine zR ?_;refine b7 _ (U4 hA) (zR ?_);refine b7 _ (U4 hB) (zR ?_);exact ⟨by simp [a5T,h1,h],hE⟩
theorem b7b (l:List Mv) (v:Value) (w:World) (b1:Nat) (hr:Row 36 3 N3 b1 w v l) (hl:l.length≤50000) :
  Calls G.P 179 #[v] w (fun r w'=>∃ v l',r = .returned v∧l'.Perm l∧Row 36 3 N3 w.heap.size w' v l'∧Cl w w'):=by
 obtain ⟨a,c,rfl,_⟩:=hr.form;refine zN func179 ?_;refine zG ?_;refine zR ?_;refine a4x a8D ?_;have r0:Row 36 3 N3 w.heap.size (w.alloc (.cells #[] 36)) (.slice (some ⟨w.heap.size,0,none⟩) 0 0) []:=C7 E5 w [] (by simp) [] rfl
 have hr1:=hr.step (Cl.alloc w (.cells #[] 36));generalize hW0:w.alloc (.cells #[] 36)=W0 at *;have c0:Cl w W0:=hW0▸Cl.alloc _ _;refine zR ?_;refine I5 (v:=.slice (some ⟨w.heap.size,0,none⟩) 0 0) a8D rfl r0 rfl hr1 E5 N6 (by simp;omega) zd c0.size (fun v' w1 hr2 hg=>?_)
 have c1:Cl w w1:=hg.cl w rfl c0;have hg2:∃ g c',v' = .slice (some ⟨g,0,none⟩) l.length c':=by
  obtain ⟨a',c',rfl,_⟩:=hr2.form;rcases hg.at_ with e|⟨k,e,_⟩
  ·cases a' with
   | none=>simp [Value.ownBlock] at e
   | some ad =>
    rcases hr2.2 with ⟨e1,_⟩|⟨g,cap,cur,e1,_⟩
    ·cases e1
    ·injection e1 with e1 _ _;injection e1 with e1;subst e1;exact ⟨g,c',by simp⟩
  ·cases a' with
   | none=>simp [Value.ownBlock] at e
   | some ad =>
    rcases hr2.2 with ⟨e1,_⟩|⟨g,cap,cur,e1,_⟩
    ·cases e1
    ·injection e1 with e1 _ _;injection e1 with e1;subst e1;exact ⟨g,c',by simp⟩
 obtain ⟨g,c',rfl⟩:=hg2;simp only [yP] at hr2;clear hg;refine zR ?_;refine C1 (σ:=Nat×List Mv) [4,5] 6 (fun a=>[(4,.int .i64 a.1)]) (fun a w'=>1≤a.1∧(a.1≤l.length∨a.1=1)∧a.2.Perm l∧Row 36 3 N3 w.heap.size w' (.slice (some ⟨g,0,none⟩) l.length c') a.2∧Cl w w') (fun a=>l.length-a.1) zk (1,l)
  ⟨yO _,.inr rfl,List.Perm.refl _,hr2,c1⟩ ⟨rfl,trivial⟩ ?_
 rintro ⟨i,l1⟩ j w2 ⟨hi1,hi2,hp,hrow,hcl⟩;simp only at hi1 hi2 hp hrow;refine zR ?_;apply E.d7<;>intro h
 ·have hil:i<l.length:=by simp only at h;omega
  clear h;refine zR ?_;refine C1 (σ:=Nat×List Mv) [5] 6 (fun a=>[(5,.int .i64 a.1)]) (fun a w'=>a.1≤i∧a.2.Perm l∧Row 36 3 N3 w.heap.size w' (.slice (some ⟨g,0,none⟩) l.length c') a.2∧Cl w w') (fun a=>a.1) zk (i,l1)
   ⟨yO _,hp,hrow,hcl⟩ ⟨rfl,trivial⟩ ?_
  rintro ⟨k,l2⟩ j2 w3 ⟨hk,hp2,hrow,hcl⟩;simp only at hk hp2 hrow;have hlen:=hp2.length_eq;have ldK:∀ w',Cl w3 w'→∀ m (hm:m<l2.length) o,o=m*3→m9 G.P w' 36 ⟨g,o,none⟩ (mvV l2[m]):=fun w' hw m hm o ho=>a1b (hrow.step hw) E5 m hm rfl ho rfl;refine zR ?_;refine zK 14 ?_;refine zR ?_;apply E.d7<;>intro h
  ·have hk0:0<k:=by simp only at h;omega
   have hk2:k<l2.length:=by omega
   clear h;obtain ⟨k1,rfl⟩:∃ k1,k=k1+1:=⟨k-1,zo⟩;have m1:IntKind.i64.wrap (((k1+1:Nat):Int)-1)=(k1:Int):=by rw [g8 zo zo];omega
   refine zR ?_;refine zC ?_;refine zR ?_;refine l9 _ (fun w hw=>ldK w hw (k1+1) hk2 _ ?_) ?_
   ·simp [E.s8]
   refine zR ?_;simp only [m1];refine zC ?_;refine zR ?_;refine l9 _ (fun w hw=>ldK w hw k1 zo _ ?_) ?_
   ·simp [E.s8]
   refine zR ?_;refine D6 _ (fun _ _ h=>h.trans) (fun w _=>b8O _ _ _) ?_;cases hT:a5T l2[k1+1] l2[k1]
   ·refine zR ?_;intro w4 c4;refine zR ?_;refine ⟨(i+1,l2),⟨d9 (by rw [g8 zo zo];push_cast;omega),trivial⟩,⟨by simp only;omega,by simp only;omega,hp2,hrow.step c4,hcl.trans c4⟩,by simp only;omega⟩
   ·refine zR ?_;intro w4 c4;have hrow4:=hrow.step c4;have hcl4:=hcl.trans c4;have ldK4:∀ w',Cl w4 w'→∀ m (hm:m<l2.length) o,o=m*3→m9 G.P w' 36 ⟨g,o,none⟩ (mvV l2[m]):=fun w' hw m hm=>ldK w' (c4.trans hw) m hm;refine zR ?_;refine H7.mk2 [0,1,2,3,4,5,6,7,8,10,11,12] (.cons 9 (.cons 13 (.cons 14 (.cons 15 (.cons 16 (.cons 17 .done .nil) .nil) .nil) .nil) .nil) (.cons 13 (.cons 9 (.cons 14 (.cons 15 (.cons 16 (.cons 17 .done .nil) .nil) .nil) .nil) .nil) .nil)) zk (zR ?_);simp only [m1];refine zC ?_;refine zR ?_;refine zC ?_;refine zR ?_;have cd:Cl w4 w4.drew:=Cl.drew (Cl.refl _);have hcd:Cl w w4.drew:=hcl4.trans cd;obtain ⟨cs,g1,g2,g3,t1⟩:=(hrow4.step cd).turn E5 (k1+1) hk2 l2[k1];refine And.intro ?_ (And.intro ?_ trivial)
    ·refine zR ?_;refine b7 _ (ldK4 _ cd k1 zo _ (by simp [E.s8])) (zE ?_)
     refine b7 _ (ldK4 _ cd (k1+1) hk2 _ (by simp [E.s8])) (zE ?_)
     refine zC ?_;refine zE ?_;refine K2 g1 (N3 l2[k1]) rfl b4g rfl (N6 _) (by rw [E.s8];omega) (fun w5 u5=>?_)
     have hr5:=t1 w5 (by rw [E.s8] at u5;simpa using u5)
     have hc5:Cl w w5:=u5.cl hcd g3;obtain ⟨cs2,q1,q2,q3,q4⟩:=hr5.turn E5 k1 (by rw [List.length_set];omega) l2[k1+1]
     refine zE ?_;simp only [m1];refine zC ?_;refine zE ?_;refine K2 q1 (N3 l2[k1+1]) rfl b4g rfl (N6 _) (by rw [E.s8];omega) (fun w6 u6=>?_)
     have hr6:=q4 w6 (by rw [E.s8] at u6;simpa using u6)
     have hc6:Cl w w6:=u6.cl hc5 q3;refine zR ?_;refine ⟨(k1,(l2.set (k1+1) l2[k1]).set k1 l2[k1+1]),⟨d9 m1,trivial⟩,⟨by simp only;omega,(b0t l2 k1 hk2).trans hp2,hr6,hc6⟩,by simp only;omega⟩
    ·refine zR ?_;refine b7 _ (ldK4 _ cd (k1+1) hk2 _ (by simp [E.s8])) (zE ?_)
     refine b7 _ (ldK4 _ cd k1 zo _ (by simp [E.s8])) (zE ?_)
     refine zC ?_;refine zE ?_;refine K2 g1 (N3 l2[k1]) rfl b4g rfl (N6 _) (by rw [E.s8];omega) (fun w5 u5=>?_)
     have hr5:=t1 w5 (by rw [E.s8] at u5;simpa using u5)
     have hc5:Cl w w5:=u5.cl hcd g3;obtain ⟨cs2,q1,q2,q3,q4⟩:=hr5.turn E5 k1 (by rw [List.length_set];omega) l2[k1+1]
     refine zE ?_;simp only [m1];refine zC ?_;refine zE ?_;refine K2 q1 (N3 l2[k1+1]) rfl b4g rfl (N6 _) (by rw [E.s8];omega) (fun w6 u6=>?_)
     have hr6:=q4 w6 (by rw [E.s8] at u6;simpa using u6)
     have hc6:Cl w w6:=u6.cl hc5 q3;refine zR ?_;refine ⟨(k1,(l2.set (k1+1) l2[k1]).set k1 l2[k1+1]),⟨d9 m1,trivial⟩,⟨by simp only;omega,(b0t l2 k1 hk2).trans hp2,hr6,hc6⟩,by simp only;omega⟩
  ·refine zR ?_;intro w4 c4;refine zR ?_;refine ⟨(i+1,l2),⟨d9 (by rw [g8 zo zo];push_cast;omega),trivial⟩,⟨by simp only;omega,by simp only;omega,hp2,hrow.step c4,hcl.trans c4⟩,by simp only;omega⟩
 ·have hil:l.length≤i:=by simp only at h;omega
  refine zR ?_;exact ⟨_,l1,rfl,hp,hrow,hcl⟩
theorem a7w (p:g9) (a b:Int):(Ch.P1 p a b).length≤4:=by
 unfold Ch.P1 Ch.a3K;repeat' split
 all_goals simp
theorem b0u (p:g9) (a:Int):(Ch.a0i p a).length≤56:=by
 unfold Ch.a0i;split
 ·unfold Ch.W1;have h1:=a5R p a (Ch.A2 (Ch.sq p a));have h2:=a5Q a (Ch.A2 (Ch.sq p a));have h3:=xQ (Ch.L5 p (Ch.A2 (Ch.sq p a))) (Ch.O3 a (Ch.A2 (Ch.sq p a)));simp only [zF];omega
 ·unfold Ch.a5L;have h1:=a8b (fun d:Int×Int=>Ch.ray p a d.1 d.2 (Ch.far (Ch.a0B (Ch.sq p a))) 7 1) 7 (fun d=>b5H _ _ _ _ _ _ _) (Ch.a7O (Ch.a0B (Ch.sq p a)));have h2:=(a8H (Ch.a0B (Ch.sq p a))).1;have h3:(Ch.a7O (Ch.a0B (Ch.sq p a))).length*7≤8*7:=xY _ h2;exact zw h1 (zw h3 zd)
theorem a9W (p:g9) (a:Int):(Ch.S6 p a).length≤224:=by
 unfold Ch.S6;split
 ·simp
 ·have h1:=a8b (Ch.P1 p a) 4 (a7w p a) (Ch.a0i p a);have h2:(Ch.a0i p a).length*4≤56*4:=xY _ (b0u p a);omega
theorem a5d (p:g9):∀ n,(Ch.N5 p n).length≤n*224:=by
 intro n
 induction n with
 | zero=>simp [Ch.N5]
 | succ n ih=>simp only [Ch.N5,zF];have:=a9W p n;omega
theorem b8P (p:g9) (hI:Ch.B7 p) (w:World) :
  Calls G.P 115 #[F5 p] w (fun r w'=>∃ v l',r = .returned v∧l'.Perm (Ch.a3m p)∧Row 36 3 N3 w.heap.size w' v l'∧Cl w w'):=by
 have ht:=hI.turn;have hp:Pc p:=hI.pc;have hep:-1≤p.ep∧p.ep≤63:=⟨(Ch.N7 hI.pass).1,(Ch.N7 hI.pass).2.1⟩;refine zN func115 ?_;refine zG ?_;refine zR ?_;generalize hW:w.alloc (.cells (t8 p) 24)=W0;have hP:∀ w',Cl W0 w'→w'.heap[w.heap.size]?=some (.cells (t8 p) 24 (0,0)):=fun w' h=>(hW▸h:Cl (w.alloc (.cells (t8 p) 24)) w').blk (d8 _ _);have hE:∀ w',Cl W0 w'→Cl w w':=fun w' h=>(Cl.alloc _ _).trans (hW▸h);have q1:IntKind.i64.wrap (7*p.turn)=7*p.turn:=g8 zo zo;have q2:IntKind.i64.wrap (7-7*p.turn)=7-7*p.turn:=g8 zo zo;refine zR ?_;refine C1 (σ:=Nat×Value) [3,4,5,6,7,8,9] 10 (fun a=>[(3,a.2),(4,.int .i64 a.1)]) (fun a w'=>a.1≤64∧Row 36 3 N3 W0.heap.size w' a.2 (Ch.N5 p a.1)∧Cl W0 w') (fun a=>64-a.1) zk (0,.slice none 0 0)
  ⟨zo,Row.nil _ _,Cl.refl _⟩ ⟨rfl,rfl,trivial⟩ ?_
 rintro ⟨n,v⟩ j w1 ⟨hn,hrow,hcl⟩;simp only at hn hrow;obtain ⟨a,c,rfl,_⟩:=hrow.form;have hlen:=a5d p n;refine zR ?_;apply E.d7<;>intro h
 ·have hn64:n<64:=by simp only at h;omega
  clear h;have hstep:Ch.N5 p (n+1)=Ch.N5 p n++Ch.S6 p n:=rfl;generalize hM:Ch.N5 p n=M at *;have nx:IntKind.i64.wrap ((n:Int)+1)=((n+1:Nat):Int):=by rw [g8 zo zo];push_cast;omega
  refine zR ?_;refine zC ?_;refine zR ?_;refine b7 _ (P5 (hP _ hcl) _ zo zo) (zR ?_);refine zK 9 ?_;refine zR ?_;have skip:(Ch.sq p n=0∨Ch.A2 (Ch.sq p n)≠p.turn)→Ch.S6 p n=[]:=fun h=>by unfold Ch.S6;rw [zM h]
  apply E.d7<;>intro h
  ·rw [skip (.inl h),zn] at hstep;refine zR ?_;intro w2 c2;refine zR ?_;exact ⟨(n+1,_),⟨rfl,d9 nx,trivial⟩,⟨by simp only;omega,by simp only [hstep];exact hrow.step c2,hcl.trans c2⟩,by simp only;omega⟩
  have hz:=h;clear h;refine zR ?_;refine o4 _ (fun w _=>a2d _ _) (zR ?_);refine l9 _ (fun w hw=>I0 (hP _ (hcl.trans hw))) (zR ?_);intro w2 c2;have hrow2:=hrow.step c2;have hcl2:=hcl.trans c2;refine zR ?_;apply E.y8<;>intro h
  ·rw [skip (.inr h),zn] at hstep;refine zR ?_;exact ⟨(n+1,_),⟨rfl,d9 nx,trivial⟩,⟨by simp only;omega,by simp only [hstep];exact hrow2,hcl2⟩,by simp only;omega⟩
  have hs:=h;clear h;have hfrom:Ch.S6 p n=(Ch.a0i p n).flatMap (Ch.P1 p n):=by unfold Ch.S6;rw [zJ (by rintro (e|e);exact hz e;exact e hs)]
  rw [hfrom] at hstep;have hgr:∀ x∈Ch.a0i p n,0≤x∧x≤63:=fun x hx=>Ch.a2y hx;have hgl:=b0u p n;refine zG ?_;refine Nx.mk (zG ?_);refine B0 (σ:=Value) [6] 10 (fun v=>[(6,v)]) (fun v w'=>Row 3 1 S5 w2.heap.size w' v (Ch.a0i p n)∧Cl w2 w') zk ?_ (fun v j w3 h=>?_)
  ·refine zR ?_;refine g7 (O5 _ _ (Pc.lo hp _) (Pc.hi hp _)) (zR ?_);apply E.d7<;>intro h
   ·have hg:Ch.a0i p n=Ch.W1 p n:=by unfold Ch.a0i;rw [zM h]
    rw [hg];refine zR ?_;refine b7 _ (A4 (hP _ hcl2)) (zR ?_);refine a3N (c1e p n hp _ zo zo zo zo) fun v w3 h3 c3=>?_;obtain ⟨a3,cc3,rfl,_⟩:=h3.form;refine zR ?_;exact ⟨_,⟨rfl,trivial⟩,h3,c3⟩
   ·have hg:Ch.a0i p n=Ch.a5L p n:=by unfold Ch.a0i;rw [zJ h]
    rw [hg];refine zR ?_;refine b7 _ (A4 (hP _ hcl2)) (zR ?_);refine a3N (c1c p n hp _ zo zo) fun v w3 h3 c3=>?_;obtain ⟨a3,cc3,rfl,_⟩:=h3.form;refine zR ?_;exact ⟨_,⟨rfl,trivial⟩,h3,c3⟩
  obtain ⟨hgo,c3⟩:=h;obtain ⟨ag,cg,rfl,hag⟩:=hgo.form;generalize hgoals:Ch.a0i p n=gs at *;refine zR ?_;refine C1 (σ:=Nat×Value) [3,7,8,9] 10 (fun a=>[(3,a.2),(7,.int .i64 a.1)]) (fun a w'=>a.1≤gs.length∧Row 36 3 N3 W0.heap.size w' a.2 (M++(gs.take a.1).flatMap (Ch.P1 p n))∧Row 3 1 S5 w2.heap.size w' (.slice ag gs.length cg) gs∧(∀ g,ag=some ⟨g,0,none⟩→a.2.ownBlock≠some g)∧Cl W0 w') (fun a=>gs.length-a.1) zk (0,.slice a M.length c)
   ⟨zo,by simpa using hrow2.step c3,hgo,fun g e e2=>by subst e;have h1:=hgo.lt;have h2:=World.ownsRow.lt hrow2 g e2;omega,hcl2.trans c3⟩ ⟨rfl,rfl,trivial⟩ ?_
  rintro ⟨i,v⟩ j w4 ⟨hi,hrow,hgo,hne,hcl⟩;simp only at hi hrow hne;obtain ⟨a4,c4,rfl,_⟩:=hrow.form;refine zR ?_;apply E.d7<;>intro h
  ·have hil:i<gs.length:=by simp only at h;omega
   clear h;obtain ⟨g,rfl⟩:=hag zo;have hst2:=b0p (Ch.P1 p n) gs i hil;generalize hx:gs[i]=x at hst2;obtain ⟨x0,x1⟩:=hgr x (hx▸yQ hil);have ni:IntKind.i64.wrap ((i:Int)+1)=((i+1:Nat):Int):=by rw [g8 zo zo];push_cast;omega
   have hcur:(M++(gs.take i).flatMap (Ch.P1 p n)).length≤20000:=by
    have h1:=a8b (Ch.P1 p n) 4 (a7w p n) (gs.take i);rw [zF];have h2:(gs.take i).length≤56:=by rw [yh];omega
    omega
   generalize hC:M++(gs.take i).flatMap (Ch.P1 p n)=cur at *;have hst3:M++(gs.take (i+1)).flatMap (Ch.P1 p n)=cur++Ch.P1 p n x:=by rw [hst2,← yJ,hC]
   refine zR ?_;refine zC ?_;refine zR ?_;refine b7 (.int .i64 x) (P6 hgo O6 i 0 hil zd (by rw [hx];rfl) (by simp [E.s8]) rfl) (zG ?_)
   refine Nx.mk ?_;refine E.a89 ?_;refine (B0 (σ:=Unit) [46,47,48,49,50,51,52,53,54,55,56,57,58,59,60] 61 (fun _=>[(60,.bool (!decide (Ch.sq p x=0)&&decide (Ch.A2 (Ch.sq p x)=p.turn)))]) (fun _ w'=>Cl w4 w') zk ?_ (fun _ j w5 c5=>?_)).go
   ·refine zR ?_;refine zK 15 ?_;refine zR ?_;refine E.A1 (F6.2 ⟨x0,zo⟩) (zR ?_);refine l9 _ (fun w hw=>P5 (hP _ (hcl.trans hw)) _ x0 zo) (zR ?_);apply E.y8<;>intro h
    ·refine zR ?_;refine E.A1 (F6.2 ⟨x0,zo⟩) (zR ?_);refine l9 _ (fun w hw=>P5 (hP _ (hcl.trans hw)) _ x0 zo) (zR ?_);refine o4 _ (fun w _=>a2d _ _) (zR ?_);refine l9 _ (fun w hw=>I0 (hP _ (hcl.trans hw))) (zR ?_);intro w5 c5;exact ⟨(),⟨yM Value.bool (by rw [zV h];rfl),trivial⟩,c5⟩
    ·refine zR ?_;intro w5 c5;exact ⟨(),⟨yM Value.bool (by rw [zX h];rfl),trivial⟩,c5⟩
   have hrow5:=hrow.step c5;have hgo5:=hgo.step c5;have hcl5:=hcl.trans c5;clear hrow hgo hcl;cases hown:(!decide (Ch.sq p x=0)&&decide (Ch.A2 (Ch.sq p x)=p.turn));rotate_left
   ·have hmt:Ch.P1 p n x=[]:=by
     unfold Ch.P1;rw [zM];simp only [zP,zc,zW,zZ] at hown;exact hown
    rw [hmt,zn] at hst3;refine zR ?_;exact ⟨(i+1,_),⟨rfl,d9 ni,trivial⟩,⟨by simp only;omega,by simp only [hst3];exact hrow5,hgo5,hne,hcl5⟩,by simp only;omega⟩
   have hmt:Ch.P1 p n x=if Ch.a0B (Ch.sq p n)≠6∨Ch.l8 x≠7-7*p.turn then [⟨n,x,0⟩] else Ch.a3K n x:=by
    unfold Ch.P1;rw [zJ];rintro ⟨e1,e2⟩;simp [e1,e2] at hown
   clear hown;refine Nx.mk (zG ?_);refine Nx.mk ?_;refine E.a89 ?_;refine (B0 (σ:=Unit) [61,62,63,64,65,66,67,68,69,70,71,72] 73 (fun _=>[(72,.bool (!decide (Ch.a0B (Ch.sq p n)=6) || !decide (Ch.l8 x=7-7*p.turn)))]) (fun _ w'=>Cl w5 w') zk ?_ (fun _ j w6 c6=>?_)).go
   ·refine zR ?_;refine zK 12 ?_;refine zR ?_;refine o4 _ (fun w _=>O5 _ _ (Pc.lo hp _) (Pc.hi hp _)) (zR ?_);apply E.y8<;>intro h
    ·refine zR ?_;intro w6 c6;exact ⟨(),⟨yM Value.bool (by rw [zV h];rfl),trivial⟩,c6⟩
    ·refine zR ?_;refine o4 _ (fun w _=>a0f _ _ zo zo) (zR ?_);refine l9 _ (fun w hw=>I0 (hP _ (hcl5.trans hw))) (zR ?_);intro w6 c6;exact ⟨(),⟨yM Value.bool (by rw [zX h,q1,q2];rfl),trivial⟩,c6⟩
   have hrow6:=hrow5.step c6;have hgo6:=hgo5.step c6;have hcl6:=hcl5.trans c6;clear hrow5 hgo5 hcl5;cases hpr:(!decide (Ch.a0B (Ch.sq p n)=6) || !decide (Ch.l8 x=7-7*p.turn))
   rotate_left
   ·rw [zM (by simp only [zj,zc,zZ] at hpr;exact hpr)] at hmt
    rw [hmt] at hst3;refine zR ?_;refine r7 #[.int .i64 n,.int .i64 x,.int .i64 0] zk (zR ?_);refine A8 a8D [.agg #[.int .i64 n,.int .i64 x,.int .i64 0]] (by rw [zb];rfl) (by simp [Value.cells]) rfl zd zd (zR ?_)
    refine V7 (enc:=N3) a8D ⟨n,x,0⟩ rfl hrow6 rfl rfl rfl E5 N6 zo zd hcl6.size (fun v' w7 hr hc=>?_);obtain ⟨a7,cc7,rfl,_⟩:=hr.form;refine zR ?_;exact ⟨(i+1,_),⟨rfl,d9 ni,trivial⟩,⟨by simp only;omega,by simp only [hst3];exact hr,hgo6.keep fun o ho=>hc.keep _ o ho (hne _ rfl),fun g' e=>hc.ne (by injection e with e;injection e with e;subst e;exact hgo6.lt.2) (hne g' e),hc.cl W0 rfl hcl6⟩,by simp only;omega⟩
   rw [zJ (by simp only [yD,Bool.not_eq_false',zW] at hpr;rintro (e|e);exact e hpr.1;exact e hpr.2)] at hmt
   rw [hmt] at hst3;refine zR ?_;refine C1 (σ:=Nat×Value) [3,9] 10 (fun a=>[(3,a.2),(9,.int .i64 (2+(a.1:Int)))]) (fun a w'=>a.1≤4∧Row 36 3 N3 W0.heap.size w' a.2 (cur++(Ch.a3K n x).take a.1)∧Row 3 1 S5 w2.heap.size w' (.slice (some ⟨g,0,none⟩) gs.length cg) gs∧(a.2.ownBlock≠some g)∧Cl W0 w') (fun a=>4-a.1) zk (0,.slice a4 cur.length c4)
    ⟨zo,by simpa using hrow6,hgo6,hne g rfl,hcl6⟩ ⟨rfl,rfl,trivial⟩ ?_
   rintro ⟨k,v⟩ j w7 ⟨hk,hrow7,hgo7,hne7,hcl7⟩;simp only at hk hrow7 hne7;obtain ⟨a8,c8,rfl,_⟩:=hrow7.form;have hl8:(cur++(Ch.a3K n x).take k).length≤20004:=by
    rw [zF,yh];omega
   refine zR ?_;apply E.d7<;>intro h
   ·have hk4:k<4:=by simp only at h;omega
    have hpk:(Ch.a3K n x).take (k+1)=(Ch.a3K n x).take k++[⟨n,x,2+(k:Int)⟩]:=by
     have:k=0∨k=1∨k=2∨k=3:=by omega
     rcases this with rfl|rfl|rfl|rfl<;>rfl
    refine zR ?_;refine r7 #[.int .i64 n,.int .i64 x,.int .i64 (2+(k:Int))] zk (zR ?_);refine A8 a8D [.agg #[.int .i64 n,.int .i64 x,.int .i64 (2+(k:Int))]] (by rw [zb];rfl) (by simp [Value.cells]) rfl zd zd (zR ?_)
    refine V7 (enc:=N3) a8D ⟨n,x,2+(k:Int)⟩ rfl hrow7 rfl rfl rfl E5 N6 zo zd hcl7.size (fun v' w8 hr hc=>?_);obtain ⟨a9,cc9,rfl,_⟩:=hr.form;refine zR ?_;exact ⟨(k+1,_),⟨rfl,d9 (by rw [g8 zo zo];push_cast;omega),trivial⟩,⟨by simp only;omega,by simp only [hpk,← yJ];exact hr,hgo7.keep fun o ho=>hc.keep _ o ho hne7,hc.ne hgo7.lt.2 hne7,hc.cl W0 rfl hcl7⟩,by simp only;omega⟩
   ·have hk4:k=4:=by simp only at h;omega
    subst hk4;refine zR ?_;exact ⟨(i+1,_),⟨rfl,d9 ni,trivial⟩,⟨by simp only;omega,by simp only [hst3];exact hrow7,hgo7,fun g' e=>by injection e with e;injection e with e;subst e;exact hne7,hcl7⟩,by simp only;omega⟩
  ·have hil:i=gs.length:=by simp only at h;omega
   subst hil;refine zR ?_;refine ⟨(n+1,_),⟨rfl,d9 nx,trivial⟩,⟨by simp only;omega,by simp only [hstep,yf] at hrow ⊢;exact hrow,hcl⟩,by simp only;omega⟩
 ·have hn2:n=64:=by simp only at h;omega
  subst hn2;refine zR ?_;refine b7 _ (A4 (hP _ hcl)) (zR ?_);refine a3N (b7a p hI _) fun v w2 h2 c2=>?_;obtain ⟨a2,cc2,rfl,_⟩:=h2.form;have hcas:(Ch.a1A p).length≤2:=by
   unfold Ch.a1A Ch.W2;rw [zF];split<;>split<;>simp
  refine zR ?_;refine I5 (v:=.slice a (Ch.N5 p 64).length c) a8D rfl (hrow.step c2) rfl h2 E5 N6 zo zd (hcl.trans c2).size (fun v' w3 hr hc=>?_);have hcl3:Cl W0 w3:=hc.cl W0 rfl (hcl.trans c2);obtain ⟨a3,cc3,rfl,_⟩:=hr.form;refine zR ?_;refine m8 (b7b _ _ _ _ hr (by rw [zF];omega)) ?_
  rintro r w4 ⟨v4,l4,rfl,hp4,hr4,c4⟩;refine ⟨_,rfl,?_⟩;obtain ⟨a4,cc4,rfl,_⟩:=hr4.form;refine zR ?_;exact ⟨_,l4,rfl,hp4,hr4.mono (by have:=(hE _ hcl3).size;omega),hE _ (hcl3.trans c4)⟩
end
