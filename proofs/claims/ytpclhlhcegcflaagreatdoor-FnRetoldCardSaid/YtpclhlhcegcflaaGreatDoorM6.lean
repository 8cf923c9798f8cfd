/- One part of the proof: Bit LinC Lin Att Att2 Gen. -/
import Derived.Test.YtpclhlhcegcflaaGreatDoorM1
import Derived.Test.YtpclhlhcegcflaaGreatDoorM3
namespace Go.Proofs.YtpclhlhcegcflaaGreatDoor
set_option linter.unusedSimpArgs false
set_option linter.unusedVariables false
section
namespace Bb
def of (f:Nat→Bool):Nat→Nat
 | 0=>0
 | n+1=>of f n ||| (if f n then 2^(63-n) else 0)
def bb (f:Nat→Bool):Nat:=of f 64
def D0 (s:Nat):Nat:=2^(63-s)
theorem c1u (f:Nat→Bool):∀ n,of f n<2^64:=by
 intro n
 induction n with
 | zero=>simp [of]
 | succ n ih =>
  simp only [of];apply Nat.or_lt_two_pow ih;split
  ·exact Nat.pow_lt_pow_right zd zo
  ·decide
theorem O0 (f:Nat→Bool):bb f<2^64:=c1u f 64
theorem b9S (f:Nat→Bool):∀ n,n≤64→∀ s,s<64→(of f n).testBit (63-s)=(decide (s<n)&&f s):=by
 intro n
 induction n with
 | zero=>intro _ s _;simp [of]
 | succ n ih =>
  intro hn s hs;simp only [of,Nat.testBit_or,ih zo s hs];by_cases hsn:s=n
  ·subst hsn;by_cases hf:f s=true
   ·simp [hf,Nat.testBit_two_pow]
   ·simp [hf]
  ·have e:(if f n=true then 2^(63-n) else 0).testBit (63-s)=false:=by
    split
    ·rw [Nat.testBit_two_pow];simp;omega
    ·simp
   rw [e];simp [show s<n+1↔s<n by omega]
theorem E7 (f:Nat→Bool) {s:Nat} (hs:s<64):(bb f).testBit (63-s)=f s:=by
 unfold bb;rw [b9S f 64 zo s hs];simp [hs]
theorem ext {a b:Nat} (ha:a<2^64) (hb:b<2^64) (h:∀ s,s<64→a.testBit (63-s)=b.testBit (63-s)):a=b:=by
 apply Nat.eq_of_testBit_eq;intro i;by_cases hi:i<64
 ·have:=h (63-i) zo
  rwa [show 63-(63-i)=i by omega] at this
 ·rw [Nat.testBit_lt_two_pow (Nat.lt_of_lt_of_le ha (Nat.pow_le_pow_right zd zo)),Nat.testBit_lt_two_pow (Nat.lt_of_lt_of_le hb (Nat.pow_le_pow_right zd zo))]
theorem a8s {a:Nat} {f:Nat→Bool} (ha:a<2^64) (h:∀ s,s<64→a.testBit (63-s)=f s):a=bb f :=
 ext ha (O0 f) (fun s hs=>by rw [h s hs,E7 f hs])
theorem a01 {f g:Nat→Bool} (h:∀ s,s<64→f s=g s):bb f=bb g:=a8s (O0 f) (fun s hs=>by rw [E7 f hs,h s hs])
theorem a2N (s:Nat):D0 s<2^64:=Nat.pow_lt_pow_right zd zo
theorem G7 {s t:Nat} (hs:s<64) (ht:t<64):(D0 s).testBit (63-t)=decide (t=s):=by
 unfold D0;rw [Nat.testBit_two_pow];by_cases h:t=s
 ·simp [h]
 ·rw [decide_eq_false zo,decide_eq_false h]
def not (a:Nat):Nat:=a ^^^ (2^64-1)
theorem not_lt {a:Nat} (ha:a<2^64):not a<2^64:=Nat.xor_lt_two_pow ha zd
theorem b5D {i:Nat} (hi:i<64):(2^64-1:Nat).testBit i=true:=by rw [Nat.testBit_two_pow_sub_one];simp [hi]
theorem E0 (a:Nat) {s:Nat} (hs:s<64):(not a).testBit (63-s) = !a.testBit (63-s):=by
 unfold not;rw [Nat.testBit_xor,b5D zo];simp
theorem a0D (f g:Nat→Bool):bb f ||| bb g=bb (fun s=>f s||g s):=a8s (Nat.or_lt_two_pow (O0 f) (O0 g)) (fun s hs=>by rw [Nat.testBit_or,E7 f hs,E7 g hs])
theorem b9T {s:Nat} (hs:s<64):D0 s=bb (fun t=>decide (t=s)):=a8s (a2N s) (fun _ ht=>G7 hs ht)
theorem a61 (f:Nat→Bool):bb f=0↔∀ s,s<64→f s=false:=by
 constructor
 ·intro h s hs;rw [← E7 f hs,h];simp
 ·intro h;rw [show (0:Nat)=bb (fun _=>false) from a8s zd (by simp)];exact a01 h
def sub (a b:Nat):Nat:=(a+(2^64-b%2^64))%2^64
def Z0 (x:Nat) (k m:Nat):Nat:=((x >>> k) &&& m) ||| (((x &&& m) <<< k)%2^64)
def rev (x:Nat):Nat :=
 let x:=Z0 x 1 0x5555555555555555;let x:=Z0 x 2 0x3333333333333333;let x:=Z0 x 4 0x0f0f0f0f0f0f0f0f;let x:=Z0 x 8 0x00ff00ff00ff00ff;let x:=Z0 x 16 0x0000ffff0000ffff
 (x >>> 32) ||| ((x <<< 32)%2^64)
def lin (occ pos mask:Nat):Nat :=
 let o:=occ &&& mask
 ((sub o ((2*pos)%2^64)) ^^^ rev (sub (rev o) ((2*rev pos)%2^64))) &&& mask
def a5m (P:Nat→Bool):List Nat→Nat→Bool
 | [],o=>P o
 | s::r,o=>a5m P r o&&a5m P r (o ||| D0 s)
def a2O:List Nat→Nat
 | []=>0
 | s::r=>D0 s ||| a2O r
theorem b1R (P:Nat→Bool) (occ:Nat):∀ (l:List Nat) (o:Nat),a5m P l o=true→(∀ s∈l,s<64)→P (o ||| (occ &&& a2O l))=true:=by
 intro l
 induction l with
 | nil=>intro o h _;simpa [a2O,a5m] using h
 | cons s r ih =>
  intro o h hl;simp only [a5m,Bool.and_eq_true] at h;have hs:=hl s (by simp)
  simp only [a2O];by_cases hb:occ.testBit (63-s)=true
  ·have:=ih _ h.2 (fun x hx=>hl x (by simp [hx]))
   have e:o ||| (occ &&& (D0 s ||| a2O r))=(o ||| D0 s) ||| (occ &&& a2O r):=by
    apply Nat.eq_of_testBit_eq;intro i;simp only [Nat.testBit_or,Nat.testBit_and,D0,Nat.testBit_two_pow];by_cases hi:63-s=i
    ·subst hi;simp [hb]
    ·simp [hi]
   rw [e];exact this
  ·have:=ih _ h.1 (fun x hx=>hl x (by simp [hx]))
   have e:o ||| (occ &&& (D0 s ||| a2O r))=o ||| (occ &&& a2O r):=by
    apply Nat.eq_of_testBit_eq;intro i;simp only [Nat.testBit_or,Nat.testBit_and,D0,Nat.testBit_two_pow];by_cases hi:63-s=i
    ·subst hi;simp [hb]
    ·simp [hi]
   rw [e];exact this
end Bb
namespace Bb
def F5 (k fr to:Nat):Bool :=
 match k with
 | 0=>Nat.beq (fr/8) (to/8)
 | 1=>Nat.beq (fr%8) (to%8)
 | 2=>Nat.beq (fr%8+to/8) (to%8+fr/8)
 | _=>Nat.beq (fr%8+fr/8) (to%8+to/8)
def mask (k fr:Nat):Nat:=bb (F5 k fr)
def sqs (P:Nat→Bool):Nat→List Nat
 | 0=>[]
 | n+1=>bif P n then n::sqs P n else sqs P n
def b1S (k fr:Nat):List Nat:=sqs (F5 k fr) 64
def btw (k a b:Nat):Nat:=of (fun s=>F5 k a s&&(Nat.blt a s&&Nat.blt s b||Nat.blt b s&&Nat.blt s a)) 64
def b4m (k fr o:Nat):List Nat→Nat
 | []=>0
 | to::r=>(bif Nat.beq to fr || !(Nat.beq (o &&& btw k fr to) 0) then 0 else D0 to) ||| b4m k fr o r
def chk (k fr:Nat):Bool:=a5m (fun o=>Nat.beq (lin o (D0 fr) (mask k fr)) (b4m k fr o (b1S k fr))) (b1S k fr) 0
def a3V (k:Nat):Nat→Bool
 | 0=>true
 | n+1=>chk k n&&a3V k n
theorem c29:a3V 0 64=true:=by decide +kernel
theorem c2A:a3V 1 64=true:=by decide +kernel
theorem c2B:a3V 2 64=true:=by decide +kernel
theorem c2C:a3V 3 64=true:=by decide +kernel
end Bb
namespace Bb
theorem c1v {a b:Nat} (h:a≠b):Nat.beq a b=false:=by
 cases h2:Nat.beq a b
 ·rfl
 ·exact absurd (Nat.eq_of_beq_eq_true h2) h
theorem a3o (k:Nat):∀ n,a3V k n=true→∀ fr,fr<n→chk k fr=true:=by
 intro n
 induction n with
 | zero=>intro _ fr h;omega
 | succ n ih =>
  intro h fr hfr;simp only [a3V,Bool.and_eq_true] at h;by_cases e:fr=n
  ·subst e;exact h.1
  ·exact ih h.2 fr zo
theorem b9U {k fr:Nat} (hk:k<4) (hfr:fr<64):chk k fr=true:=by
 have:k=0∨k=1∨k=2∨k=3:=by omega
 rcases this with rfl | rfl | rfl | rfl
 ·exact a3o 0 64 c29 fr hfr
 ·exact a3o 1 64 c2A fr hfr
 ·exact a3o 2 64 c2B fr hfr
 ·exact a3o 3 64 c2C fr hfr
theorem b4n (P:Nat→Bool):∀ n,a2O (sqs P n)=of P n:=by
 intro n
 induction n with
 | zero=>rfl
 | succ n ih =>
  simp only [sqs,of];cases P n
  ·simp [ih]
  ·simp only [cond_true,a2O,ih,D0,if_true,Nat.or_comm]
theorem a62 (P:Nat→Bool):∀ n s,s∈sqs P n↔s<n∧P s=true:=by
 intro n
 induction n with
 | zero=>intro s;simp [sqs]
 | succ n ih =>
  intro s;simp only [sqs];cases h:P n
  ·simp only [cond_false,ih];constructor
   ·rintro ⟨h1,h2⟩;exact ⟨zo,h2⟩
   ·rintro ⟨h1,h2⟩;refine ⟨?_,h2⟩;by_cases e:s=n
    ·subst e;rw [h] at h2;cases h2
    ·omega
  ·simp only [cond_true,List.mem_cons,ih];constructor
   ·rintro (rfl | ⟨h1,h2⟩)
    ·exact ⟨zo,h⟩
    ·exact ⟨zo,h2⟩
   ·rintro ⟨h1,h2⟩;by_cases e:s=n
    ·exact .inl e
    ·exact .inr ⟨zo,h2⟩
theorem b9V {k fr:Nat} (hk:k<4) (hfr:fr<64) (occ:Nat):lin occ (D0 fr) (mask k fr)=b4m k fr (occ &&& mask k fr) (b1S k fr):=by
 have h:=b1R _ occ (b1S k fr) 0 (b9U hk hfr) (fun s hs=>((a62 _ _ s).1 hs).1);have e:a2O (b1S k fr)=mask k fr:=b4n _ _;rw [Nat.zero_or,e] at h;have h2:=Nat.eq_of_beq_eq_true h;rw [← h2];unfold lin;simp only [Nat.and_assoc,Nat.and_self]
theorem b7T (k fr o:Nat) {t:Nat} (ht:t<64):∀ l:List Nat,(∀ s∈l,s<64)→(b4m k fr o l).testBit (63-t)=(decide (t∈l) && !decide (t=fr)&&decide (o &&& btw k fr t=0)):=by
 intro l
 induction l with
 | nil=>intro _;simp [b4m]
 | cons s r ih =>
  intro hl;simp only [b4m,Nat.testBit_or,ih (fun x hx=>hl x (by simp [hx]))]
  have hs:=hl s (by simp)
  by_cases hts:t=s
  ·subst hts;by_cases h1:t=fr
   ·simp [h1]
   ·have e1:Nat.beq t fr=false:=c1v h1;rw [e1];by_cases h2:o &&& btw k fr t=0
    ·simp [h1,h2,G7 ht ht]
    ·have e2:Nat.beq (o &&& btw k fr t) 0=false:=c1v h2;rw [e2];simp [h1,h2]
  ·cases Nat.beq s fr || !(o &&& btw k fr s).beq 0
   ·simp [cond_false,G7 hs ht,hts]
   ·simp [hts]
theorem b7U {k fr t:Nat} (hk:k<4) (hfr:fr<64) (ht:t<64) (occ:Nat) :
  (lin occ (D0 fr) (mask k fr)).testBit (63-t)=true↔F5 k fr t=true∧t≠fr∧∀ s,s<64→F5 k fr s=true→(fr<s∧s<t∨t<s∧s<fr)→occ.testBit (63-s)=false:=by
 rw [b9V hk hfr,b7T k fr _ ht (b1S k fr) (fun s hs=>((a62 _ _ s).1 hs).1)];simp only [Bool.and_eq_true,decide_eq_true_eq,Bool.not_eq_true',decide_eq_false_iff_not,and_assoc];refine and_congr ?_ (and_congr Iff.rfl ?_)
 ·unfold b1S;rw [a62];simp [ht]
 ·rw [Nat.and_assoc];have hbt:∀ s,s<64→(btw k fr t).testBit (63-s)=(F5 k fr s&&(Nat.blt fr s&&Nat.blt s t||Nat.blt t s&&Nat.blt s fr)):=fun s hs=>E7 _ hs
  have hm:∀ s,s<64→(mask k fr).testBit (63-s)=F5 k fr s:=fun s hs=>E7 _ hs;have blt_iff:∀ a b:Nat,Nat.blt a b=true↔a<b:=fun a b=>by simp [Nat.blt,Nat.succ_le_iff]
  constructor
  ·intro h s hs h1 h3;have h2:((occ &&& (mask k fr &&& btw k fr t)).testBit (63-s))=false:=by rw [h];simp
   have hb2:(Nat.blt fr s&&Nat.blt s t||Nat.blt t s&&Nat.blt s fr)=true:=by
    rw [Bool.or_eq_true,Bool.and_eq_true,Bool.and_eq_true,blt_iff,blt_iff,blt_iff,blt_iff];exact h3
   rw [Nat.testBit_and,Nat.testBit_and,hbt s hs,hm s hs,h1,hb2] at h2;simpa using h2
  ·intro h;have hlt:btw k fr t<2^64:=O0 _;refine ext (a:=occ &&& (mask k fr &&& btw k fr t)) (b:=0) (Nat.and_lt_two_pow _ (Nat.and_lt_two_pow _ hlt)) zd ?_;intro s hs;rw [Nat.testBit_and,Nat.testBit_and,hbt s hs,hm s hs,Nat.zero_testBit];cases h1:F5 k fr s
   ·simp
   ·cases hb2:(Nat.blt fr s&&Nat.blt s t||Nat.blt t s&&Nat.blt s fr)
    ·simp
    ·rw [Bool.or_eq_true,Bool.and_eq_true,Bool.and_eq_true,blt_iff,blt_iff,blt_iff,blt_iff] at hb2;rw [h s hs h1 hb2];simp
theorem a9m (occ pos:Nat) (k fr:Nat):lin occ pos (mask k fr)<2^64:=Nat.and_lt_two_pow _ (O0 _)
end Bb
namespace Ch
open Bb
theorem a1Q (p:A3) (W:Int):∀ (n:Nat) (i:Int),free p i W n=true↔∀ j:Nat,j<n→sq p (i+((j:Int)+1)*W)=0:=by
 intro n
 induction n with
 | zero=>intro i;simp [free]
 | succ n ih =>
  intro i;simp only [free,Bool.and_eq_true,beq_iff_eq,ih];constructor
  ·rintro ⟨h1,h2⟩ j hj;cases j with
   | zero=>simpa using h1
   | succ j =>
    have:=h2 j zo;rw [show i+(((j+1:Nat):Int)+1)*W=i+W+((j:Int)+1)*W by rw [Int.natCast_succ,Int.add_mul,Int.add_mul];omega]
    exact this
  ·intro h;refine ⟨by simpa using h 0 zo,fun j hj=>?_⟩
   have:=h (j+1) zo
   rwa [show i+(((j+1:Nat):Int)+1)*W=i+W+((j:Int)+1)*W by rw [Int.natCast_succ,Int.add_mul,Int.add_mul];omega] at this
def dF (a b:Nat):Int:=l9 b-l9 a
def dR (a b:Nat):Int:=g8 b-g8 a
def wy (a b:Nat):Int:=sign (dF a b)+8*sign (dR a b)
def ds (a b:Nat):Nat:=a5i (dF a b) (dR a b)
def a63 (a s b:Nat):Bool:=(Nat.blt a s&&Nat.blt s b)||(Nat.blt b s&&Nat.blt s a)
def b5E (k a b:Nat):Bool :=
 !F5 k a b||Nat.beq a b||((List.range (ds a b)).all (fun j=>let q:=(a:Int)+((j:Int)+1)*wy a b;decide (0≤q)&&decide (q<64)&&F5 k a q.toNat&&a63 a q.toNat b) &&
  (sqs (fun s=>F5 k a s&&a63 a s b) 64).all fun s=>(List.range (ds a b)).any fun j=>decide ((s:Int)=(a:Int)+((j:Int)+1)*wy a b))
theorem b1T:(List.range 4).all (fun k=>(List.range 64).all fun a=>(List.range 64).all fun b=>b5E k a b)=true:=by decide +kernel
theorem a5M (a s b:Nat):a63 a s b=true↔(a<s∧s<b∨b<s∧s<a):=by
 simp [a63,Nat.blt,Nat.succ_le_iff]
theorem a0T (p:A3) {k a b:Nat} (hk:k<4) (ha:a<64) (hb:b<64) (hl:F5 k a b=true) (hne:a≠b) :
  free p a (wy a b) (ds a b)=true↔∀ s:Nat,s<64→F5 k a s=true→(a<s∧s<b∨b<s∧s<a)→sq p s=0:=by
 have h:=List.all_eq_true.1 (List.all_eq_true.1 (List.all_eq_true.1 b1T k (List.mem_range.2 hk)) a (List.mem_range.2 ha)) b (List.mem_range.2 hb);simp only [b5E,hl,Bool.not_true,Bool.false_or,Bool.or_eq_true,Bool.and_eq_true,List.all_eq_true,List.any_eq_true,List.mem_range,decide_eq_true_eq,a62] at h;rcases h with h | ⟨h1,h2⟩
 ·exact absurd (Nat.eq_of_beq_eq_true h) hne
 rw [a1Q];constructor
 ·intro hf s hs h3 h4;obtain ⟨j,hj,e⟩:=h2 s ⟨hs,h3,(a5M a s b).2 h4⟩;rw [e];exact hf j hj
 ·intro hf j hj;obtain ⟨⟨⟨h5,h6⟩,h7⟩,h8⟩:=h1 j hj;have:=hf _ zo h7 ((a5M _ _ _).1 h8)
  rwa [Int.toNat_of_nonneg h5] at this
theorem b1U (a b:Nat):F5 0 a b=true↔dR a b=0:=by
 simp only [F5,dR,g8,Nat.beq_eq];omega
theorem b1V (a b:Nat):F5 1 a b=true↔dF a b=0:=by
 simp only [F5,dF,l9,Nat.beq_eq];omega
theorem b1W (a b:Nat):F5 2 a b=true↔dF a b=dR a b:=by
 simp only [F5,dF,dR,l9,g8,Nat.beq_eq];omega
theorem b1X (a b:Nat):F5 3 a b=true↔dF a b=-dR a b:=by
 simp only [F5,dF,dR,l9,g8,Nat.beq_eq];omega
def occ (p:A3):Nat:=bb (fun s=>!decide (sq p s=0))
def pcs (p:A3) (x:Int):Nat:=bb (fun s=>decide (sq p s=x))
def side (p:A3) (c:Int):Nat:=bb (fun s=>!decide (sq p s=0)&&decide (t8 (sq p s)=c))
def hv (o a:Nat):Nat:=lin o (D0 a) (mask 0 a) ||| lin o (D0 a) (mask 1 a)
def di (o a:Nat):Nat:=lin o (D0 a) (mask 2 a) ||| lin o (D0 a) (mask 3 a)
theorem b5F (o a:Nat):hv o a<2^64:=Nat.or_lt_two_pow (a9m _ _ _ _) (a9m _ _ _ _)
theorem b5G (o a:Nat):di o a<2^64:=Nat.or_lt_two_pow (a9m _ _ _ _) (a9m _ _ _ _)
theorem a48 (p:A3) {k a b:Nat} (hk:k<4) (ha:a<64) (hb:b<64):(lin (occ p) (D0 a) (mask k a)).testBit (63-b)=true↔F5 k a b=true∧a≠b∧free p a (wy a b) (ds a b)=true:=by
 rw [b7U hk ha hb];constructor
 ·rintro ⟨h1,h2,h3⟩;refine ⟨h1,fun e=>h2 e.symm,?_⟩;rw [a0T p hk ha hb h1 (fun e=>h2 e.symm)];intro s hs h4 h5;have:=h3 s hs h4 h5;unfold occ at this;rw [E7 _ hs] at this;simpa using this
 ·rintro ⟨h1,h2,h3⟩;refine ⟨h1,fun e=>h2 e.symm,?_⟩;rw [a0T p hk ha hb h1 h2] at h3;intro s hs h4 h5;unfold occ;rw [E7 _ hs,h3 s hs h4 h5];simp
theorem b5H (p:A3) {a b:Nat} (ha:a<64) (hb:b<64):(hv (occ p) a).testBit (63-b)=(!decide (a=b)&&(decide (dF a b=0)||decide (dR a b=0))&&free p a (wy a b) (ds a b)):=by
 rw [Bool.eq_iff_iff];unfold hv;rw [Nat.testBit_or,Bool.or_eq_true,a48 p zo ha hb,a48 p zo ha hb,b1U,b1V];simp only [Bool.and_eq_true,Bool.or_eq_true,Bool.not_eq_true',decide_eq_true_eq,decide_eq_false_iff_not];constructor
 ·rintro (⟨h1,h2,h3⟩ | ⟨h1,h2,h3⟩)
  ·exact ⟨⟨h2,.inr h1⟩,h3⟩
  ·exact ⟨⟨h2,.inl h1⟩,h3⟩
 ·rintro ⟨⟨h1,h2 | h2⟩,h3⟩
  ·exact .inr ⟨h2,h1,h3⟩
  ·exact .inl ⟨h2,h1,h3⟩
theorem b5I (p:A3) {a b:Nat} (ha:a<64) (hb:b<64):(di (occ p) a).testBit (63-b)=(!decide (a=b)&&(decide (dF a b=dR a b)||decide (dF a b=-dR a b))&&free p a (wy a b) (ds a b)):=by
 rw [Bool.eq_iff_iff];unfold di;rw [Nat.testBit_or,Bool.or_eq_true,a48 p zo ha hb,a48 p zo ha hb,b1W,b1X];simp only [Bool.and_eq_true,Bool.or_eq_true,Bool.not_eq_true',decide_eq_true_eq,decide_eq_false_iff_not];constructor
 ·rintro (⟨h1,h2,h3⟩ | ⟨h1,h2,h3⟩)
  ·exact ⟨⟨h2,.inl h1⟩,h3⟩
  ·exact ⟨⟨h2,.inr h1⟩,h3⟩
 ·rintro ⟨⟨h1,h2 | h2⟩,h3⟩
  ·exact .inl ⟨h2,h1,h3⟩
  ·exact .inr ⟨h2,h1,h3⟩
theorem b1Y (k a b:Nat):F5 k a b=F5 k b a:=by
 unfold F5;split<;>(rw [Bool.eq_iff_iff];simp only [Nat.beq_eq];omega)
theorem a2P {k a b s:Nat} (h:F5 k a b=true):F5 k a s=F5 k b s:=by
 unfold F5 at *;split<;>(rw [Bool.eq_iff_iff];simp only [Nat.beq_eq] at *;omega)
theorem b4o (p:A3) {a b:Nat} (ha:a<64) (hb:b<64) (hl:dF a b=0∨dR a b=0∨dF a b=dR a b∨dF a b=-dR a b) :
  free p a (wy a b) (ds a b)=free p b (wy b a) (ds b a):=by
 by_cases hne:a=b
 ·subst hne;rfl
 have hk:∃ k,k<4∧F5 k a b=true:=by
  rcases hl with h | h | h | h
  ·exact ⟨1,zo,(b1V a b).2 h⟩
  ·exact ⟨0,zo,(b1U a b).2 h⟩
  ·exact ⟨2,zo,(b1W a b).2 h⟩
  ·exact ⟨3,zo,(b1X a b).2 h⟩
 obtain ⟨k,hk,h⟩:=hk;rw [Bool.eq_iff_iff,a0T p hk ha hb h hne,a0T p hk hb ha (by rw [b1Y];exact h) (fun e=>hne e.symm)]
 constructor
 ·intro hf s hs h1 h2;exact hf s hs (by rw [a2P h];exact h1) h2.symm
 ·intro hf s hs h1 h2;exact hf s hs (by rw [← a2P h];exact h1) h2.symm
def K7 (p:A3) (k:Int) (sd:Int) (a b:Nat):Bool :=
 !decide (a=b) &&
 if k=1 then decide (dF a b*dF a b≤1)&&decide (dR a b*dR a b≤1)
 else if k=5 then decide (dF a b*dF a b+dR a b*dR a b=5)
 else if k=6 then decide (dF a b*dF a b=1)&&decide (dR a b=up sd)
 else (((decide (dF a b=0)||decide (dR a b=0)) && !decide (k=4))||((decide (dF a b=dR a b)||decide (dF a b=-dR a b)) && !decide (k=3)))&&free p a (wy a b) (ds a b)
theorem c2D (a b c:Bool):(if (!a && !b)=true then false else c)=((a||b)&&c):=by cases a<;>cases b<;>cases c<;>rfl
theorem a5n (p:A3) (a b:Nat):a2G p a b=(!decide (sq p a=0)&&K7 p (kindOf (sq p a)) (t8 (sq p a)) a b):=by
 unfold a2G K7;by_cases h0:sq p a=0
 ·simp [h0]
 by_cases hab:a=b
 ·subst hab;simp
 have hab2:¬ (a:Int)=b:=by omega
 simp only [h0,hab2,false_or,or_self,if_false,decide_false,Bool.not_false,Bool.true_and,hab];by_cases h1:kindOf (sq p a)=1
 ·rw [if_pos h1,if_pos h1];rfl
 rw [if_neg h1,if_neg h1];by_cases h5:kindOf (sq p a)=5
 ·rw [if_pos h5,if_pos h5];rfl
 rw [if_neg h5,if_neg h5];by_cases h6:kindOf (sq p a)=6
 ·rw [if_pos h6,if_pos h6];rfl
 rw [if_neg h6,if_neg h6];exact c2D _ _ _
end Ch
namespace Ch
open Bb
def kn (a:Nat):Nat:=bb (fun b=>decide (dF a b*dF a b+dR a b*dR a b=5))
def kg (a:Nat):Nat:=bb (fun b=>!decide (a=b)&&(decide (dF a b*dF a b≤1)&&decide (dR a b*dR a b≤1)))
def shl (x k:Nat):Nat:=(x <<< k)%2^64
def a1R:Nat:=72340172838076673
def a1S:Nat:=9259542123273814144
def a1n:Nat:=18374686479671623680
def a02:Nat:=255
theorem a6Z:a1R=bb (fun s=>decide (s%8=7)):=by decide +kernel
theorem a7a:a1S=bb (fun s=>decide (s%8=0)):=by decide +kernel
theorem a7b:a1n=bb (fun s=>decide (s/8=0)):=by decide +kernel
theorem a7c:a02=bb (fun s=>decide (s/8=7)):=by decide +kernel
theorem a2k (x k:Nat) {s:Nat} (hs:s<64):(shl x k).testBit (63-s)=(decide (s+k<64)&&x.testBit (63-(s+k))):=by
 unfold shl;rw [Nat.testBit_mod_two_pow,Nat.testBit_shiftLeft];by_cases h:s+k<64
 ·simp [h,show 63-s<64 by omega,show 63-s≥k by omega,show 63-s-k=63-(s+k) by omega]
 ·simp [h,show ¬ 63-s≥k by omega]
theorem a2l (x k:Nat) (hx:x<2^64) {s:Nat} (hs:s<64):(x >>> k).testBit (63-s)=(decide (k≤s)&&x.testBit (63-(s-k))):=by
 rw [Nat.testBit_shiftRight];by_cases h:k≤s
 ·simp [h,show k+(63-s)=63-(s-k) by omega]
 ·rw [decide_eq_false h,Bool.false_and];exact Nat.testBit_lt_two_pow (Nat.lt_of_lt_of_le hx (Nat.pow_le_pow_right zd zo))
theorem a7d (x k:Nat):shl x k<2^64:=Nat.mod_lt _ zd
theorem b5J {x:Nat} (k:Nat) (hx:x<2^64):x >>> k<2^64:=Nat.lt_of_le_of_lt (by rw [Nat.shiftRight_eq_div_pow];exact Nat.div_le_self _ _) hx
def a1T (p:A3) (c:Int):Nat :=
 if c=1 then shl (pcs p 12 &&& not a1R &&& not a1n) 7 ||| shl (pcs p 12 &&& not a1S &&& not a1n) 9
 else ((pcs p 6 &&& not a1R &&& not a02) >>> 9) ||| ((pcs p 6 &&& not a1S &&& not a02) >>> 7)
theorem a3p (p:A3) (x:Int) {s:Nat} (hs:s<64):(pcs p x).testBit (63-s)=decide (sq p s=x):=E7 _ hs
theorem a9n (p:A3) {c:Int} (hc:c=0∨c=1) {a:Nat} (ha:a<64) :
  (a1T p c).testBit (63-a)=true↔∃ i:Nat,i<64∧sq p i=6+6*c∧K7 p 6 c i a=true:=by
 have hK:∀ i:Nat,K7 p 6 c i a=true↔i≠a∧dF i a*dF i a=1∧dR i a=up c:=by
  intro i;simp [K7]
 have hF:∀ i:Nat,dF i a*dF i a=1↔(dF i a=1∨dF i a=-1):=by
  intro i;constructor
  ·intro h;have:=@b57 (dF i a) (by simp only [dF,l9];omega) (by simp only [dF,l9];omega)
   have h3:dF i a=-7∨dF i a=-6∨dF i a=-5∨dF i a=-4∨dF i a=-3∨dF i a=-2∨dF i a=-1∨dF i a=0∨dF i a=1∨dF i a=2∨dF i a=3∨dF i a=4∨dF i a=5∨dF i a=6∨dF i a=7:=by simp only [dF,l9];omega
   rcases h3 with h3 | h3 | h3 | h3 | h3 | h3 | h3 | h3 | h3 | h3 | h3 | h3 | h3 | h3 | h3<;>rw [h3] at h<;>simp at h<;>omega
  ·rintro (h | h)<;>rw [h]<;>decide
 simp only [hK,hF];simp only [a1T,up,dR,dF,l9,g8];rcases hc with rfl | rfl
 ·rw [if_neg zd,Nat.testBit_or,Bool.or_eq_true];have l1:pcs p 6 &&& not a1R &&& not a02<2^64:=Nat.and_lt_two_pow _ (not_lt zd);have l2:pcs p 6 &&& not a1S &&& not a02<2^64:=Nat.and_lt_two_pow _ (not_lt zd);rw [a2l _ 9 l1 ha,a2l _ 7 l2 ha];have e1:(pcs p 6 &&& not a1R &&& not a02).testBit (63-(a-9))=(decide (sq p ((a-9:Nat):Int)=6) && !decide ((a-9)%8=7) && !decide ((a-9)/8=7)):=by
   rw [Nat.testBit_and,Nat.testBit_and,a3p _ _ zo,E0 _ zo,E0 _ zo,a6Z,a7c,E7 _ zo,E7 _ zo]
  have e2:(pcs p 6 &&& not a1S &&& not a02).testBit (63-(a-7))=(decide (sq p ((a-7:Nat):Int)=6) && !decide ((a-7)%8=0) && !decide ((a-7)/8=7)):=by
   rw [Nat.testBit_and,Nat.testBit_and,a3p _ _ zo,E0 _ zo,E0 _ zo,a7a,a7c,E7 _ zo,E7 _ zo]
  rw [e1,e2];simp only [Bool.and_eq_true,decide_eq_true_eq,Bool.not_eq_true',decide_eq_false_iff_not];constructor
  ·rintro (⟨h1,⟨h2,h3⟩,h4⟩ | ⟨h1,⟨h2,h3⟩,h4⟩)
   ·exact ⟨a-9,zo,by simpa using h2,zo,zo,zo⟩
   ·exact ⟨a-7,zo,by simpa using h2,zo,zo,zo⟩
  ·rintro ⟨i,h1,h2,h3,h4,h5⟩;rcases h4 with h4 | h4
   ·refine .inl ?_;have:a-9=i:=by omega
    rw [this];exact ⟨zo,⟨by simpa using h2,zo⟩,zo⟩
   ·refine .inr ?_;have:a-7=i:=by omega
    rw [this];exact ⟨zo,⟨by simpa using h2,zo⟩,zo⟩
 ·rw [if_pos rfl,Nat.testBit_or,Bool.or_eq_true,a2k _ _ ha,a2k _ _ ha];have e1:a+7<64→(pcs p 12 &&& not a1R &&& not a1n).testBit (63-(a+7))=(decide (sq p ((a+7:Nat):Int)=12) && !decide ((a+7)%8=7) && !decide ((a+7)/8=0)):=by
   intro h;rw [Nat.testBit_and,Nat.testBit_and,a3p _ _ h,E0 _ h,E0 _ h,a6Z,a7b,E7 _ h,E7 _ h]
  have e2:a+9<64→(pcs p 12 &&& not a1S &&& not a1n).testBit (63-(a+9))=(decide (sq p ((a+9:Nat):Int)=12) && !decide ((a+9)%8=0) && !decide ((a+9)/8=0)):=by
   intro h;rw [Nat.testBit_and,Nat.testBit_and,a3p _ _ h,E0 _ h,E0 _ h,a7a,a7b,E7 _ h,E7 _ h]
  simp only [Bool.and_eq_true,decide_eq_true_eq];constructor
  ·rintro (⟨h1,h2⟩ | ⟨h1,h2⟩)
   ·rw [e1 h1] at h2;simp only [Bool.and_eq_true,decide_eq_true_eq,Bool.not_eq_true',decide_eq_false_iff_not] at h2;exact ⟨a+7,zo,by simpa using h2.1.1,zo,zo,zo⟩
   ·rw [e2 h1] at h2;simp only [Bool.and_eq_true,decide_eq_true_eq,Bool.not_eq_true',decide_eq_false_iff_not] at h2;exact ⟨a+9,zo,by simpa using h2.1.1,zo,zo,zo⟩
  ·rintro ⟨i,h1,h2,h3,h4,h5⟩;rcases h4 with h4 | h4
   ·refine .inl ⟨zo,?_⟩;have:a+7=i:=by omega
    rw [e1 zo,this];simp only [Bool.and_eq_true,decide_eq_true_eq,Bool.not_eq_true',decide_eq_false_iff_not];exact ⟨⟨by simpa using h2,zo⟩,zo⟩
   ·refine .inr ⟨zo,?_⟩;have:a+9=i:=by omega
    rw [e2 zo,this];simp only [Bool.and_eq_true,decide_eq_true_eq,Bool.not_eq_true',decide_eq_false_iff_not];exact ⟨⟨by simpa using h2,zo⟩,zo⟩
theorem b3j (x:Nat) (f:Nat→Bool):(x &&& bb f≠0)↔∃ i,i<64∧x.testBit (63-i)=true∧f i=true:=by
 constructor
 ·intro h;refine Classical.byContradiction fun hn=>h ?_;refine ext (Nat.and_lt_two_pow _ (O0 f)) zd ?_;intro s hs;rw [Nat.testBit_and,E7 f hs,Nat.zero_testBit];cases hx:x.testBit (63-s)
  ·simp
  ·cases hf:f s
   ·simp
   ·exact absurd ⟨s,hs,hx,hf⟩ hn
 ·rintro ⟨i,h1,h2,h3⟩ h;have:(x &&& bb f).testBit (63-i)=true:=by rw [Nat.testBit_and,E7 f h1,h2,h3];rfl
  rw [h] at this;simp at this
def b5K (p:A3) (a:Nat) (c:Int):Bool :=
 let o:=occ p
 if ((di o a ||| hv o a) &&& side p c) ||| (kn a &&& side p c)=0 then false
 else if (di o a ||| hv o a) &&& pcs p (2+6*c)≠0 then true
 else if hv o a &&& pcs p (3+6*c)≠0 then true
 else if di o a &&& pcs p (4+6*c)≠0 then true
 else if kn a &&& pcs p (5+6*c)≠0 then true
 else if a1T p c &&& D0 a≠0 then true
 else if kg a &&& pcs p (1+6*c)≠0 then true
 else false
theorem b9W (a b:Nat):dF b a=-dF a b:=by simp only [dF];omega
theorem b9X (a b:Nat):dR b a=-dR a b:=by simp only [dR];omega
theorem Y4 (p:A3) {k:Int} (hk:k≠6) (sd sd':Int) {a b:Nat} (ha:a<64) (hb:b<64):K7 p k sd a b=K7 p k sd' b a:=by
 unfold K7;have e:decide (a=b)=decide (b=a):=decide_eq_decide.2 ⟨fun h=>h.symm,fun h=>h.symm⟩;rw [e,b9W a b,b9X a b];by_cases h1:k=1
 ·rw [if_pos h1,if_pos h1,Int.neg_mul_neg,Int.neg_mul_neg]
 rw [if_neg h1,if_neg h1];by_cases h5:k=5
 ·rw [if_pos h5,if_pos h5,Int.neg_mul_neg,Int.neg_mul_neg]
 rw [if_neg h5,if_neg h5,if_neg hk,if_neg hk];congr 1;have e1:decide (-dF a b=0)=decide (dF a b=0):=decide_eq_decide.2 zo;have e2:decide (-dR a b=0)=decide (dR a b=0):=decide_eq_decide.2 zo;have e3:decide (-dF a b=-dR a b)=decide (dF a b=dR a b):=decide_eq_decide.2 zo;have e4:decide (-dF a b=- -dR a b)=decide (dF a b=-dR a b):=decide_eq_decide.2 zo;rw [e1,e2,e3,e4];by_cases hl:dF a b=0∨dR a b=0∨dF a b=dR a b∨dF a b=-dR a b
 ·rw [b4o p ha hb hl]
 ·rw [decide_eq_false (fun h=>hl (.inl h)),decide_eq_false (fun h=>hl (.inr (.inl h))),decide_eq_false (fun h=>hl (.inr (.inr (.inl h)))),decide_eq_false (fun h=>hl (.inr (.inr (.inr h))))];simp
theorem b5L (p:A3) {a i:Nat} (ha:a<64) (hi:i<64):(di (occ p) a ||| hv (occ p) a).testBit (63-i)=K7 p 2 0 a i:=by
 rw [Nat.testBit_or,b5I p ha hi,b5H p ha hi];simp only [K7];generalize decide (a=i)=x1;generalize free p _ _ _=x2;generalize decide (dF a i=dR a i)=x3;generalize decide (dF a i=-dR a i)=x4;generalize decide (dF a i=0)=x5;generalize decide (dR a i=0)=x6;cases x1<;>cases x2<;>cases x3<;>cases x4<;>cases x5<;>cases x6<;>rfl
theorem b9s (p:A3) {a i:Nat} (ha:a<64) (hi:i<64):(hv (occ p) a).testBit (63-i)=K7 p 3 0 a i:=by
 rw [b5H p ha hi];simp only [K7];generalize decide (a=i)=x1;generalize free p _ _ _=x2;generalize decide (dF a i=dR a i)=x3;generalize decide (dF a i=-dR a i)=x4;generalize decide (dF a i=0)=x5;generalize decide (dR a i=0)=x6;cases x1<;>cases x2<;>cases x3<;>cases x4<;>cases x5<;>cases x6<;>rfl
theorem b9t (p:A3) {a i:Nat} (ha:a<64) (hi:i<64):(di (occ p) a).testBit (63-i)=K7 p 4 0 a i:=by
 rw [b5I p ha hi];simp only [K7];generalize decide (a=i)=x1;generalize free p _ _ _=x2;generalize decide (dF a i=dR a i)=x3;generalize decide (dF a i=-dR a i)=x4;generalize decide (dF a i=0)=x5;generalize decide (dR a i=0)=x6;cases x1<;>cases x2<;>cases x3<;>cases x4<;>cases x5<;>cases x6<;>rfl
theorem b5M (p:A3) {a i:Nat} (ha:a<64) (hi:i<64):(kn a).testBit (63-i)=K7 p 5 0 a i:=by
 unfold kn;rw [E7 _ hi];simp only [K7];by_cases h:a=i
 ·subst h;simp [dF,dR]
 ·simp [h]
theorem b9u (p:A3) {a i:Nat} (ha:a<64) (hi:i<64):(kg a).testBit (63-i)=K7 p 1 0 a i:=by
 unfold kg;rw [E7 _ hi];simp only [K7];rfl
def b9v (k:Int) (a b:Nat):Bool:=decide (a=b) || !(decide (dF a b*dF a b≤1)&&decide (dR a b*dR a b≤1))||(decide (ds a b=0)&&(decide (dF a b=0)||decide (dR a b=0)||decide (dF a b=dR a b)||decide (dF a b=-dR a b)))
theorem b5N:(List.range 64).all (fun a=>(List.range 64).all fun b=>b9v 0 a b)=true:=by decide +kernel
theorem b5O (p:A3) {a b:Nat} (ha:a<64) (hb:b<64) (h:a≠b) (h1:dF a b*dF a b≤1) (h2:dR a b*dR a b≤1):K7 p 2 0 a b=true:=by
 have:=List.all_eq_true.1 (List.all_eq_true.1 b5N a (List.mem_range.2 ha)) b (List.mem_range.2 hb);simp only [b9v,h,h1,h2,decide_true,decide_false,Bool.and_self,Bool.not_true,Bool.false_or,Bool.and_eq_true,Bool.or_eq_true,decide_eq_true_eq] at this;obtain ⟨h3,h4⟩:=this;simp only [K7,h,h3,free,decide_false,Bool.not_false,Bool.true_and,Bool.and_true];rw [if_neg zd,if_neg zd,if_neg zd];simp only [Bool.or_eq_true,Bool.and_eq_true,decide_eq_true_eq];rcases h4 with ((h4 | h4) | h4) | h4
 ·exact .inl ⟨.inl h4,zd⟩
 ·exact .inl ⟨.inr h4,zd⟩
 ·exact .inr ⟨.inl h4,zd⟩
 ·exact .inr ⟨.inr h4,zd⟩
theorem b0n {x c:Int} (h0:0≤x) (h1:x≤12) (hc:c=0∨c=1):(x≠0∧t8 x=c)↔∃ k:Int,1≤k∧k≤6∧x=k+6*c:=by
 unfold t8;constructor
 ·rintro ⟨h2,h3⟩;split at h3
  ·exact ⟨x-6,zo,zo,zo⟩
  ·exact ⟨x,zo,zo,zo⟩
 ·rintro ⟨k,h2,h3,rfl⟩;rcases hc with rfl | rfl
  ·exact ⟨zo,by rw [if_neg zo]⟩
  ·exact ⟨zo,by rw [if_pos zo]⟩
theorem K5 {k c:Int} (h1:1≤k) (h2:k≤6) (hc:c=0∨c=1):kindOf (k+6*c)=k:=by
 unfold kindOf;rcases hc with rfl | rfl
 ·rw [if_neg zo];omega
 ·rw [if_pos zo];omega
theorem O1 {k c:Int} (h1:1≤k) (h2:k≤6) (hc:c=0∨c=1):t8 (k+6*c)=c:=by
 unfold t8;rcases hc with rfl | rfl
 ·rw [if_neg zo]
 ·rw [if_pos zo]
theorem O5 (p:A3) (hp:∀ i:Int,0≤sq p i∧sq p i≤12) {a:Nat} {c:Int} (hc:c=0∨c=1) :
  z7 p a c=true↔∃ k:Int,1≤k∧k≤6∧∃ i:Nat,i<64∧sq p i=k+6*c∧K7 p k c i a=true:=by
 unfold z7;rw [a2H];constructor
 ·rintro ⟨i,h1,h2⟩;simp only [a25,Bool.and_eq_true,Bool.not_eq_true',decide_eq_true_eq,decide_eq_false_iff_not,a5n] at h2;obtain ⟨⟨h3,h4⟩,_,h6⟩:=h2;obtain ⟨k,k1,k2,k3⟩:=(b0n (hp i).1 (hp i).2 hc).1 ⟨h3,h4⟩;refine ⟨k,k1,k2,i,h1,k3,?_⟩
  rwa [k3,K5 k1 k2 hc,O1 k1 k2 hc] at h6
 ·rintro ⟨k,k1,k2,i,h1,k3,h⟩;refine ⟨i,h1,?_⟩;simp only [a25,Bool.and_eq_true,Bool.not_eq_true',decide_eq_true_eq,decide_eq_false_iff_not,a5n];have h0:sq p i≠0:=by rw [k3];rcases hc with rfl | rfl<;>omega
  exact ⟨⟨h0,by rw [k3,O1 k1 k2 hc]⟩,h0,by rw [k3,K5 k1 k2 hc,O1 k1 k2 hc];exact h⟩
theorem a1U (p:A3) (k c:Int) (hk:k≠6) (x a:Nat) (ha:a<64) (hx:∀ i,i<64→x.testBit (63-i)=K7 p k 0 a i) :
  (x &&& pcs p (k+6*c)≠0)↔∃ i:Nat,i<64∧sq p i=k+6*c∧K7 p k c i a=true:=by
 unfold pcs;rw [b3j];constructor
 ·rintro ⟨i,h1,h2,h3⟩;refine ⟨i,h1,of_decide_eq_true h3,?_⟩;rw [Y4 p hk c 0 h1 ha,← hx i h1];exact h2
 ·rintro ⟨i,h1,h2,h3⟩;refine ⟨i,h1,?_,decide_eq_true h2⟩;rw [hx i h1,← Y4 p hk c 0 h1 ha];exact h3
theorem b7V (p:A3) (hp:∀ i:Int,0≤sq p i∧sq p i≤12) {a:Nat} (ha:a<64) {c:Int} (hc:c=0∨c=1):b5K p a c=z7 p a c:=by
 have m2:=a1U p 2 c zd _ a ha (fun i hi=>b5L p ha hi);have m3:=a1U p 3 c zd _ a ha (fun i hi=>b9s p ha hi);have m4:=a1U p 4 c zd _ a ha (fun i hi=>b9t p ha hi);have m5:=a1U p 5 c zd _ a ha (fun i hi=>b5M p ha hi);have m1:=a1U p 1 c zd _ a ha (fun i hi=>b9u p ha hi);have m6:(a1T p c &&& D0 a≠0)↔∃ i:Nat,i<64∧sq p i=6+6*c∧K7 p 6 c i a=true:=by
  rw [b9T ha,b3j,← a9n p hc ha];constructor
  ·rintro ⟨i,_,h2,h3⟩;rw [← of_decide_eq_true h3];exact h2
  ·intro h;exact ⟨a,ha,h,decide_eq_true rfl⟩
 have hot:z7 p a c=true→¬ (((di (occ p) a ||| hv (occ p) a) &&& side p c) ||| (kn a &&& side p c)=0):=by
  intro h h0;obtain ⟨k,k1,k2,i,h1,h2,h3⟩:=(O5 p hp hc).1 h;have hs:(!decide (sq p i=0)&&decide (t8 (sq p i)=c))=true:=by
   have:=(b0n (hp i).1 (hp i).2 hc).2 ⟨k,k1,k2,h2⟩;simp [this.1,this.2]
  have hz:(di (occ p) a ||| hv (occ p) a) &&& side p c=0∧kn a &&& side p c=0:=by
   constructor
   ·apply Nat.eq_of_testBit_eq;intro j;have:=congrArg (fun x=>x.testBit j) h0;simp only [Nat.testBit_or _ _ j,Nat.zero_testBit,Bool.or_eq_false_iff] at this;rw [Nat.zero_testBit];exact this.1
   ·apply Nat.eq_of_testBit_eq;intro j;have:=congrArg (fun x=>x.testBit j) h0;simp only [Nat.testBit_or _ _ j,Nat.zero_testBit,Bool.or_eq_false_iff] at this;rw [Nat.zero_testBit];exact this.2
  by_cases h5:k=5
  ·refine (b3j (kn a) _).2 ⟨i,h1,?_,hs⟩ hz.2;rw [b5M p ha h1,Y4 p zd 0 c ha h1,← h5];exact h3
  ·refine (b3j (di (occ p) a ||| hv (occ p) a) _).2 ⟨i,h1,?_,hs⟩ hz.1
   rw [b5L p ha h1,Y4 p zd 0 c ha h1];have hne:i≠a:=by
    intro e;subst e;simp [K7] at h3
   have hkk:k=1∨k=2∨k=3∨k=4∨k=6:=by omega
   rcases hkk with rfl | rfl | rfl | rfl | rfl
   ·simp only [K7,if_true,Bool.and_eq_true,decide_eq_true_eq] at h3;rw [Y4 p zd c 0 h1 ha,Y4 p zd 0 0 ha h1];exact b5O p h1 ha hne h3.2.1 h3.2.2
   ·exact h3
   ·simp only [K7,Bool.and_eq_true] at h3 ⊢;rw [if_neg zd,if_neg zd,if_neg zd] at h3 ⊢;simp only [Bool.and_eq_true,Bool.or_eq_true,decide_true,Bool.not_true,Bool.and_false,Bool.or_false,Bool.false_eq_true,and_false,or_false] at h3 ⊢;exact ⟨h3.1,.inl ⟨h3.2.1.1,zd⟩,h3.2.2⟩
   ·simp only [K7,Bool.and_eq_true] at h3 ⊢;rw [if_neg zd,if_neg zd,if_neg zd] at h3 ⊢;simp only [Bool.and_eq_true,Bool.or_eq_true,decide_true,Bool.not_true,Bool.false_eq_true,and_false,false_or] at h3 ⊢;exact ⟨h3.1,.inr ⟨h3.2.1.1,zd⟩,h3.2.2⟩
   ·simp only [K7,Bool.and_eq_true,decide_eq_true_eq] at h3;rw [if_neg zd,if_neg zd,if_pos trivial,Bool.and_eq_true,decide_eq_true_eq,decide_eq_true_eq] at h3;rw [Y4 p zd c 0 h1 ha,Y4 p zd 0 0 ha h1];refine b5O p h1 ha hne zo ?_;rw [h3.2.2];unfold up;rcases hc with rfl | rfl<;>decide
 rw [Bool.eq_iff_iff];constructor
 ·intro h;rw [O5 p hp hc];simp only [b5K] at h;split at h
  ·cases h
  split at h
  ·rename_i h';exact ⟨2,zd,zd,m2.1 h'⟩
  split at h
  ·rename_i h';exact ⟨3,zd,zd,m3.1 h'⟩
  split at h
  ·rename_i h';exact ⟨4,zd,zd,m4.1 h'⟩
  split at h
  ·rename_i h';exact ⟨5,zd,zd,m5.1 h'⟩
  split at h
  ·rename_i h';exact ⟨6,zd,zd,m6.1 h'⟩
  split at h
  ·rename_i h';exact ⟨1,zd,zd,m1.1 h'⟩
  cases h
 ·intro h;have hh:=hot h;obtain ⟨k,k1,k2,h2⟩:=(O5 p hp hc).1 h;simp only [b5K];rw [if_neg hh];have hkk:k=1∨k=2∨k=3∨k=4∨k=5∨k=6:=by omega
  split
  ·rfl
  split
  ·rfl
  split
  ·rfl
  split
  ·rfl
  split
  ·rfl
  split
  ·rfl
  rename_i n2 n3 n4 n5 n6 n1;rcases hkk with rfl | rfl | rfl | rfl | rfl | rfl
  ·exact absurd (m1.2 h2) n1
  ·exact absurd (m2.2 h2) n2
  ·exact absurd (m3.2 h2) n3
  ·exact absurd (m4.2 h2) n4
  ·exact absurd (m5.2 h2) n5
  ·exact absurd (m6.2 h2) n6
end Ch
namespace Ch
open Bb
theorem at_range (f r:Int):-1≤H2 f r∧H2 f r≤63:=by
 unfold H2;split<;>omega
theorem U2 (f r:Int) (h:0≤H2 f r):0≤f∧f≤7∧0≤r∧r≤7∧H2 f r=8*r+f:=by
 unfold H2 at *;split at h
 ·omega
 ·rename_i h2;rw [if_neg h2];omega
theorem a5N {f r:Int} (h0:0≤f) (h1:f≤7) (h2:0≤r) (h3:r≤7):H2 f r=8*r+f:=by
 unfold H2;rw [if_neg zo]
def stp (fr:Int) (d:Int×Int) (j:Nat):Int:=H2 (l9 fr+j*d.1) (g8 fr+j*d.2)
theorem a5O (p:A3) (fr:Int) (d:Int×Int) (to:Int):∀ (k n:Nat),to∈ray p fr d.1 d.2 true k n↔∃ j,n≤j∧j<n+k∧to=stp fr d j∧(∀ i,n≤i→i≤j→0≤stp fr d i)∧(∀ i,n≤i→i<j→sq p (stp fr d i)=0):=by
 intro k
 induction k with
 | zero=>intro n;simp only [ray,List.not_mem_nil,false_iff];rintro ⟨j,h1,h2,_⟩;omega
 | succ k ih =>
  intro n;simp only [ray];show to∈(if stp fr d n<0 then [] else if (!true || !decide (sq p (stp fr d n)=0))=true then [stp fr d n] else stp fr d n::ray p fr d.1 d.2 true k (n+1))↔_
  by_cases h0:stp fr d n<0
  ·rw [if_pos h0];simp only [List.not_mem_nil,false_iff];rintro ⟨j,h1,_,_,h2,_⟩;have:=h2 n zo h1;omega
  rw [if_neg h0];by_cases h1:sq p (stp fr d n)=0
  ·rw [if_neg (by simp [h1]),List.mem_cons,ih (n+1)]
   constructor
   ·rintro (h | ⟨j,j1,j2,j3,j4,j5⟩)
    ·exact ⟨n,Nat.le_refl n,zo,h,fun i i1 i2=>by rw [Nat.le_antisymm i2 i1];omega,fun i i1 i2=>by omega⟩
    ·refine ⟨j,zo,zo,j3,fun i i1 i2=>?_,fun i i1 i2=>?_⟩
     ·by_cases e:i=n
      ·subst e;omega
      ·exact j4 i zo i2
     ·by_cases e:i=n
      ·subst e;exact h1
      ·exact j5 i zo i2
   ·rintro ⟨j,j1,j2,j3,j4,j5⟩;by_cases e:j=n
    ·subst e;exact .inl j3
    ·exact .inr ⟨j,zo,zo,j3,fun i i1 i2=>j4 i zo i2,fun i i1 i2=>j5 i zo i2⟩
  ·rw [if_pos (by simp [h1]),List.mem_singleton]
   constructor
   ·intro h;exact ⟨n,Nat.le_refl n,zo,h,fun i i1 i2=>by rw [Nat.le_antisymm i2 i1];omega,fun i i1 i2=>by omega⟩
   ·rintro ⟨j,j1,j2,j3,j4,j5⟩;by_cases e:j=n
    ·subst e;exact j3
    ·exact absurd (j5 n zo zo) h1
theorem a2m (p:A3) (fr:Int) (d:Int×Int) (to:Int) (k n:Nat):to∈ray p fr d.1 d.2 false (k+1) n↔to=stp fr d n∧0≤to:=by
 simp only [ray];show to∈(if stp fr d n<0 then [] else if (!false||_)=true then [stp fr d n] else _)↔_
 by_cases h0:stp fr d n<0
 ·rw [if_pos h0];simp only [List.not_mem_nil,false_iff];rintro ⟨rfl,h⟩;omega
 ·rw [if_neg h0,if_pos (by simp),List.mem_singleton]
  constructor
  ·rintro rfl;exact ⟨rfl,zo⟩
  ·exact fun h=>h.1
def b4p (fr:Nat) (d:Int×Int) (j:Nat):Bool :=
 let t:=stp fr d j;decide (t<0)||(decide (sign (dF fr t.toNat)=d.1)&&decide (sign (dR fr t.toNat)=d.2)&&decide (ds fr t.toNat=j-1)&&decide (t=fr+(j:Int)*(d.1+8*d.2))&&(List.range j).all fun i=>decide (0≤stp fr d i))
theorem b5P:(List.range 64).all (fun fr=>(straight++slanting).all fun d=>(List.range 7).all fun j=>b4p fr d (j+1))=true:=by decide +kernel
def toB (fr to:Nat):Bool :=
 Nat.beq fr to || !(decide (dF fr to=0)||decide (dR fr to=0)||decide (dF fr to=dR fr to)||decide (dF fr to=-dR fr to)) ||
  (decide (stp fr (sign (dF fr to),sign (dR fr to)) (ds fr to+1)=to)&&Nat.blt (ds fr to) 7 &&
   (if decide (dF fr to=0)||decide (dR fr to=0) then straight.contains (sign (dF fr to),sign (dR fr to)) else slanting.contains (sign (dF fr to),sign (dR fr to))))
theorem b3k:(List.range 64).all (fun fr=>(List.range 64).all fun to=>toB fr to)=true:=by decide +kernel
theorem b7W:(straight.all fun d=>decide (d.1=0)||decide (d.2=0))=true∧(slanting.all fun d=>decide (d.1=d.2)||decide (d.1=-d.2))=true∧(slanting.all fun d=>!decide (d.1=0) && !decide (d.2=0))=true:=by decide
theorem U3 {x:Int}:sign x=0↔x=0:=by unfold sign;split<;>(try split)<;>omega
theorem a3q (p:A3) {fr to:Nat} (hf:fr<64) (ht:to<64) (d:Int×Int) (hd:d∈straight++slanting) :
  (to:Int)∈ray p fr d.1 d.2 true 7 1↔fr≠to∧(dF fr to=0∨dR fr to=0∨dF fr to=dR fr to∨dF fr to=-dR fr to)∧sign (dF fr to)=d.1∧sign (dR fr to)=d.2∧free p fr (wy fr to) (ds fr to)=true:=by
 have hR:∀ j,j<7→b4p fr d (j+1)=true:=fun j hj=>List.all_eq_true.1 (List.all_eq_true.1 (List.all_eq_true.1 b5P fr (List.mem_range.2 hf)) d hd) j (List.mem_range.2 hj);have hT:toB fr to=true:=List.all_eq_true.1 (List.all_eq_true.1 b3k fr (List.mem_range.2 hf)) to (List.mem_range.2 ht);rw [a5O,a1Q];constructor
 ·rintro ⟨j,j1,j2,j3,j4,j5⟩;have hj:=hR (j-1) zo;rw [show j-1+1=j by omega] at hj
  simp only [b4p,← j3,Int.toNat_natCast,Bool.or_eq_true,Bool.and_eq_true,decide_eq_true_eq] at hj;rcases hj with hj | hj
  ·omega
  obtain ⟨⟨⟨⟨h1,h2⟩,h3⟩,h4⟩,_⟩:=hj;have hdnz:¬ (d.1=0∧d.2=0):=by
   have:((straight++slanting).all fun d=>!(decide (d.1=0)&&decide (d.2=0)))=true:=by decide
   have:=List.all_eq_true.1 this d hd;rintro ⟨a1,a2⟩;simp [a1,a2] at this
  have hne:fr≠to:=by
   rintro rfl;apply hdnz;rw [← h1,← h2];simp [dF,dR,sign]
  refine ⟨hne,?_,h1,h2,?_⟩
  ·have hF:stp fr d j=to:=j3.symm;have:=U2 _ _ (by have:=j4 j zo zo;exact this)
   unfold stp at hF;rw [this.2.2.2.2] at hF;rcases List.mem_append.1 hd with h | h
   ·have hh:=List.all_eq_true.1 b7W.1 d h;simp only [Bool.or_eq_true,decide_eq_true_eq] at hh;rcases hh with hh | hh
    ·rw [hh] at h1;rw [U3] at h1;exact .inl h1
    ·rw [hh] at h2;rw [U3] at h2;exact .inr (.inl h2)
   ·have hh:=List.all_eq_true.1 b7W.2.1 d h;simp only [Bool.or_eq_true,decide_eq_true_eq] at hh;have e1:dF fr to=j*d.1:=by unfold dF;rw [show (to:Int)=8*(g8 fr + ↑j*d.2)+(l9 fr + ↑j*d.1) from hF.symm];unfold l9 at *;omega
    have e2:dR fr to=j*d.2:=by unfold dR;rw [show (to:Int)=8*(g8 fr + ↑j*d.2)+(l9 fr + ↑j*d.1) from hF.symm];unfold l9 g8 at *;omega
    rcases hh with hh | hh
    ·rw [e1,e2,hh];exact .inr (.inr (.inl rfl))
    ·rw [e1,e2,hh];refine .inr (.inr (.inr ?_));rw [Int.mul_neg]
  ·intro i hi;rw [h3] at hi;have:=j5 (i+1) zo zo;have hi2:=hR i zo;simp only [b4p,Bool.or_eq_true,Bool.and_eq_true,decide_eq_true_eq] at hi2;rcases hi2 with hi2 | hi2
   ·have:=j4 (i+1) zo zo;omega
   ·rw [hi2.1.2] at this;unfold wy;rw [h1,h2];exact this
 ·rintro ⟨hne,hl,h1,h2,h3⟩;simp only [toB,Bool.or_eq_true,Bool.and_eq_true,Bool.not_eq_true',Bool.or_eq_false_iff,decide_eq_false_iff_not,decide_eq_true_eq] at hT;rcases hT with (hT | hT) | ⟨⟨hT,hT2⟩,hT3⟩
  ·exact absurd (Nat.eq_of_beq_eq_true hT) hne
  ·exfalso;rcases hl with h | h | h | h
   ·exact hT.1.1.1 h
   ·exact hT.1.1.2 h
   ·exact hT.1.2 h
   ·exact hT.2 h
  rw [h1,h2] at hT;have hT2':ds fr to<7:=by simpa [Nat.blt,Nat.succ_le_iff] using hT2
  have hjj:=hR (ds fr to) hT2';simp only [b4p,Bool.or_eq_true,Bool.and_eq_true,decide_eq_true_eq,List.all_eq_true,List.mem_range] at hjj;have hT':stp fr d (ds fr to+1)=to:=hT;rw [hT'] at hjj;rcases hjj with hjj | hjj
  ·omega
  refine ⟨ds fr to+1,zo,zo,hT'.symm,fun i i1 i2=>?_,fun i i1 i2=>?_⟩
  ·by_cases e:i=ds fr to+1
   ·rw [e,hT'];omega
   ·exact hjj.2 i zo
  ·have h4:=h3 (i-1) zo;have hi2:=hR (i-1) zo;rw [show i-1+1=i by omega] at hi2
   simp only [b4p,Bool.or_eq_true,Bool.and_eq_true,decide_eq_true_eq] at hi2;rcases hi2 with hi2 | hi2
   ·have:=hjj.2 i zo;omega
   ·rw [hi2.1.2];unfold wy at h4;rw [h1,h2] at h4;rw [show ((i-1:Nat):Int)+1=i by omega] at h4
    exact h4
theorem b4q:(List.range 64).all (fun fr=>(List.range 64).all fun to =>
  Bool.xor ((straight++slanting).any fun d=>decide (stp fr d 1=(to:Int))) (!(!decide (fr=to)&&(decide (dF fr to*dF fr to≤1)&&decide (dR fr to*dR fr to≤1)))) &&
  Bool.xor (jumps.any fun d=>decide (stp fr d 1=(to:Int))) (!(decide (dF fr to*dF fr to+dR fr to*dR fr to=5))))=true:=by decide +kernel
theorem a0U (p:A3) {fr to:Nat} (hf:fr<64) (ht:to<64) {k:Int} (hk:kindOf (sq p fr)=k) (h1:1≤k) (h5:k≤5):(to:Int)∈a42 p fr↔K7 p k 0 fr to=true:=by
 have hN:=List.all_eq_true.1 (List.all_eq_true.1 b4q fr (List.mem_range.2 hf)) to (List.mem_range.2 ht);have xr:∀ a b:Bool,Bool.xor a (!b)=true↔(a=true↔b=true):=by intro a b;cases a<;>cases b<;>simp
 rw [Bool.and_eq_true,xr,xr] at hN;unfold a42;rw [hk];simp only [List.mem_flatMap];have near:∀ (l:List (Int×Int)),(∃ d∈l,(to:Int)∈ray p fr d.1 d.2 false 7 1)↔(l.any fun d=>decide (stp fr d 1=(to:Int)))=true:=by
  intro l;rw [List.any_eq_true];constructor
  ·rintro ⟨d,hd,h⟩;exact ⟨d,hd,decide_eq_true ((a2m p fr d to 6 1).1 h).1.symm⟩
  ·rintro ⟨d,hd,h⟩;exact ⟨d,hd,(a2m p fr d to 6 1).2 ⟨(of_decide_eq_true h).symm,zo⟩⟩
 have hkk:k=1∨k=2∨k=3∨k=4∨k=5:=by omega
 have sg:∀ x:Int,sign x=0∨sign x=1∨sign x=-1:=by intro x;unfold sign;split<;>(try split)<;>omega
 have hT:toB fr to=true:=List.all_eq_true.1 (List.all_eq_true.1 b3k fr (List.mem_range.2 hf)) to (List.mem_range.2 ht);have hT':fr≠to→(dF fr to=0∨dR fr to=0∨dF fr to=dR fr to∨dF fr to=-dR fr to)→(if decide (dF fr to=0)||decide (dR fr to=0) then straight.contains (sign (dF fr to),sign (dR fr to)) else slanting.contains (sign (dF fr to),sign (dR fr to)))=true:=by
  intro hne hl;simp only [toB,Bool.or_eq_true,Bool.and_eq_true,Bool.not_eq_true',Bool.or_eq_false_iff,decide_eq_false_iff_not] at hT;rcases hT with (hT | hT) | ⟨⟨_,_⟩,hT3⟩
  ·exact absurd (Nat.eq_of_beq_eq_true hT) hne
  ·exfalso;rcases hl with h | h | h | h
   ·exact hT.1.1.1 h
   ·exact hT.1.1.2 h
   ·exact hT.1.2 h
   ·exact hT.2 h
  ·simpa using hT3
 have strict:∀ d∈straight,fr≠to→sign (dF fr to)=d.1→sign (dR fr to)=d.2→dF fr to=0∨dR fr to=0:=by
  intro d hd _ e1 e2;have hh:=List.all_eq_true.1 b7W.1 d hd;simp only [Bool.or_eq_true,decide_eq_true_eq] at hh;rcases hh with hh | hh
  ·rw [hh,U3] at e1;exact .inl e1
  ·rw [hh,U3] at e2;exact .inr e2
 have slant:∀ d∈slanting,(dF fr to=0∨dR fr to=0∨dF fr to=dR fr to∨dF fr to=-dR fr to)→sign (dF fr to)=d.1→sign (dR fr to)=d.2→dF fr to=dR fr to∨dF fr to=-dR fr to:=by
  intro d hd hl e1 e2;have hh:=List.all_eq_true.1 b7W.2.2 d hd;simp only [Bool.and_eq_true,Bool.not_eq_true',decide_eq_false_iff_not] at hh;rcases hl with h | h | h | h
  ·exfalso;apply hh.1;rw [← e1,U3];exact h
  ·exfalso;apply hh.2;rw [← e2,U3];exact h
  ·exact .inl h
  ·exact .inr h
 rcases hkk with rfl | rfl | rfl | rfl | rfl
 ·show (∃ d∈straight++slanting,(to:Int)∈ray p fr d.1 d.2 false 7 1)↔_;rw [near,hN.1];rfl
 ·show (∃ d∈straight++slanting,(to:Int)∈ray p fr d.1 d.2 true 7 1)↔_;simp only [K7];rw [if_neg zd,if_neg zd,if_neg zd];simp only [Bool.and_eq_true,Bool.or_eq_true,Bool.not_eq_true',decide_eq_false_iff_not,decide_eq_true_eq];constructor
  ·rintro ⟨d,hd,h⟩;obtain ⟨h1,h2,_,_,h3⟩:=(a3q p hf ht d hd).1 h;refine ⟨h1,?_,h3⟩;rcases h2 with h2 | h2 | h2 | h2
   ·exact .inl ⟨.inl h2,zd⟩
   ·exact .inl ⟨.inr h2,zd⟩
   ·exact .inr ⟨.inl h2,zd⟩
   ·exact .inr ⟨.inr h2,zd⟩
  ·rintro ⟨h1,h2,h3⟩;have hl:dF fr to=0∨dR fr to=0∨dF fr to=dR fr to∨dF fr to=-dR fr to:=by
    rcases h2 with ⟨h2 | h2,_⟩ | ⟨h2 | h2,_⟩
    ·exact .inl h2
    ·exact .inr (.inl h2)
    ·exact .inr (.inr (.inl h2))
    ·exact .inr (.inr (.inr h2))
   have hc:=hT' h1 hl;have hmem:(sign (dF fr to),sign (dR fr to))∈straight++slanting:=by
    split at hc
    ·exact List.mem_append.2 (.inl (List.contains_iff_mem.1 hc))
    ·exact List.mem_append.2 (.inr (List.contains_iff_mem.1 hc))
   exact ⟨_,hmem,(a3q p hf ht _ hmem).2 ⟨h1,hl,rfl,rfl,h3⟩⟩
 ·show (∃ d∈straight,(to:Int)∈ray p fr d.1 d.2 true 7 1)↔_;simp only [K7];rw [if_neg zd,if_neg zd,if_neg zd];simp only [Bool.and_eq_true,Bool.or_eq_true,Bool.not_eq_true',decide_eq_false_iff_not,decide_eq_true_eq];constructor
  ·rintro ⟨d,hd,h⟩;obtain ⟨h1,h2,e1,e2,h3⟩:=(a3q p hf ht d (List.mem_append.2 (.inl hd))).1 h;exact ⟨h1,.inl ⟨strict d hd h1 e1 e2,zd⟩,h3⟩
  ·rintro ⟨h1,h2,h3⟩;have h2':dF fr to=0∨dR fr to=0:=by
    rcases h2 with ⟨h2,_⟩ | ⟨_,h⟩
    ·exact h2
    ·exact absurd trivial h
   have hl:dF fr to=0∨dR fr to=0∨dF fr to=dR fr to∨dF fr to=-dR fr to:=by
    rcases h2' with h | h
    ·exact .inl h
    ·exact .inr (.inl h)
   have hc:=hT' h1 hl;rw [if_pos (by simpa using h2')] at hc
   have hmem:=List.contains_iff_mem.1 hc;exact ⟨_,hmem,(a3q p hf ht _ (List.mem_append.2 (.inl hmem))).2 ⟨h1,hl,rfl,rfl,h3⟩⟩
 ·show (∃ d∈slanting,(to:Int)∈ray p fr d.1 d.2 true 7 1)↔_;simp only [K7];rw [if_neg zd,if_neg zd,if_neg zd];simp only [Bool.and_eq_true,Bool.or_eq_true,Bool.not_eq_true',decide_eq_false_iff_not,decide_eq_true_eq];constructor
  ·rintro ⟨d,hd,h⟩;obtain ⟨h1,h2,e1,e2,h3⟩:=(a3q p hf ht d (List.mem_append.2 (.inr hd))).1 h;exact ⟨h1,.inr ⟨slant d hd h2 e1 e2,zd⟩,h3⟩
  ·rintro ⟨h1,h2,h3⟩;have h2':dF fr to=dR fr to∨dF fr to=-dR fr to:=by
    rcases h2 with ⟨_,h⟩ | ⟨h2,_⟩
    ·exact absurd trivial h
    ·exact h2
   have hl:dF fr to=0∨dR fr to=0∨dF fr to=dR fr to∨dF fr to=-dR fr to:=by
    rcases h2' with h | h
    ·exact .inr (.inr (.inl h))
    ·exact .inr (.inr (.inr h))
   have hnz:¬ (dF fr to=0∨dR fr to=0):=by
    intro h;apply h1;have h6:dF fr to=0∧dR fr to=0:=by omega
    simp only [dF,dR,l9,g8] at h6;omega
   have hc:=hT' h1 hl;rw [if_neg (by simpa using hnz)] at hc
   have hmem:=List.contains_iff_mem.1 hc;exact ⟨_,hmem,(a3q p hf ht _ (List.mem_append.2 (.inr hmem))).2 ⟨h1,hl,rfl,rfl,h3⟩⟩
 ·show (∃ d∈jumps,(to:Int)∈ray p fr d.1 d.2 false 7 1)↔_;rw [near,hN.2];simp only [K7];rw [if_neg zd,if_pos trivial];simp only [Bool.and_eq_true,Bool.not_eq_true',decide_eq_false_iff_not,decide_eq_true_eq];constructor
  ·intro h;refine ⟨?_,h⟩;rintro rfl;simp [dF,dR] at h
  ·exact fun h=>h.2
end Ch
end
end Go.Proofs.YtpclhlhcegcflaaGreatDoor
