/- One part of the proof: Sp18 Sp19 Sp20 Sp21 Shl Pk12 Bw Pk1 Pk2 Pk3. -/
import Derived.Laws.Strings2
import Derived.Laws.Small
import Derived.Laws.IdiomStrings
import Derived.Shelf.Strings.Builder1
import Derived.Shelf.Strings.Builder2
import Derived.Shelf.LaysM
import Derived.Shelf.Strconv.Itoa2
import Derived.Shelf.Strconv.Itoa3
import Derived.Test.YtpclhlhcegcflaaGreatDoorM1
import Derived.Test.YtpclhlhcegcflaaGreatDoorM3
import Derived.Test.YtpclhlhcegcflaaGreatDoorM4
import Derived.Test.YtpclhlhcegcflaaGreatDoorM6
namespace Go.Proofs.YtpclhlhcegcflaaGreatDoor
set_option maxRecDepth 100000
set_option linter.unusedSimpArgs false
set_option linter.unusedVariables false
section
open Go Go.RowKit
open E
def tx (l:Tx):ByteArray:=⟨l.toArray⟩
def s8 (l:Tx):Value:=.string (tx l)
theorem C9 (l:Tx):(tx l).size=l.length:=by simp [tx,ByteArray.size]
theorem A2 (a b:Tx):tx a++tx b=tx (a++b):=by
 apply ByteArray.ext;simp [tx]
theorem a0p {a b:Tx}:tx a=tx b↔a=b:=by
 constructor
 ·intro h;have:=congrArg (fun x:ByteArray=>x.data.toList) h;simpa [tx] using this
 ·intro h;rw [h]
theorem a0E (a:Array UInt8):(⟨a⟩:ByteArray)=tx a.toList:=rfl
theorem a18 {x y:ByteArray} (h:x.size+y.size≤9223372036854775807):E.b2Y x y=true:=decide_eq_true h
theorem v8 {x y:Tx} (h:x.length+y.length≤9223372036854775807):E.b2Y (tx x) (tx y)=true:=decide_eq_true (by rw [C9,C9];exact h)
theorem b0y:G.P.underlying 9=some .string:=by kernel_rfl
theorem b3w {w:World} {l r:Tx} {s:ByteArray} {k k':IntKind} {a b:Int} (hs:s=tx l) (h0:0≤a) (h1:a≤b) (h2:b≤l.length) (hr:(l.drop a.toNat).take (b.toNat-a.toNat)=r) :
  (Instr.slice 9 (.string s) (some (.int k a)) (some (.int k' b)) none).run G.P w = .ok (s8 r) w:=by
 subst hs;rw [run_slice_string (P:=G.P) w 9 _ _ _ _ _ b0y h0 h1 (by rw [C9];exact h2),tx,ByteArray.extract_mk,hr];rfl
theorem a0J {l:Tx} {s:ByteArray} {k k':IntKind} {a b:Int} {x lo hi:Operand} {dst:Option Nat} {ty:Nat} {pos:String} {af:Array Edge} {gd:Option (Nat×Bool)} {env:C0} {w:World} {K:Value→World→Prop}
  (r':Tx) (hx:ev env x = .string s) (hlo:ev env lo = .int k a) (hhi:ev env hi = .int k' b) (hs:s=tx l) (h0:0≤a) (h1:a≤b) (h2:b≤l.length) (hr:(l.drop a.toNat).take (b.toNat-a.toNat)=r') (h:K (s8 r') w) :
  L5 G.P { dst,op:=.slice 9 x (some lo) (some hi) none,type:=ty,pos,after:=af,guard:=gd } env w K:=by
 refine ⟨.inl ⟨_,w,?_,h⟩⟩;show (do pure (Next.value (← Instr.slice 9 (ev env x) (some (ev env lo)) (some (ev env hi)) none)):Sem Next).run G.P w=_
 rw [hx,hlo,hhi,Sem.run_bind,b3w hs h0 h1 h2 hr];rfl
theorem a7i {C:World→Prop} {l:Tx} {s:ByteArray} {k k':IntKind} {a b:Int} {x lo hi:Operand} {dst:Option Nat} {ty:Nat} {pos:String} {af:Array Edge} {gd:Option (Nat×Bool)} {env:C0} {K:Value→Prop}
  (r':Tx) (hx:ev env x = .string s) (hlo:ev env lo = .int k a) (hhi:ev env hi = .int k' b) (hs:s=tx l) (h0:0≤a) (h1:a≤b) (h2:b≤l.length) (hr:(l.drop a.toNat).take (b.toNat-a.toNat)=r') (h:K (s8 r')) :
  b3X G.P C { dst,op:=.slice 9 x (some lo) (some hi) none,type:=ty,pos,after:=af,guard:=gd } env K:=by
 refine ⟨_,fun w _=>?_,h⟩;show (do pure (Next.value (← Instr.slice 9 (ev env x) (some (ev env lo)) (some (ev env hi)) none)):Sem Next).run G.P w=_
 rw [hx,hlo,hhi,Sem.run_bind,b3w hs h0 h1 h2 hr];rfl
theorem D9 {x:ByteArray} {l:Tx} (h:x=tx l):Ending.returned (.string x) = .returned (s8 l):=by rw [h];rfl
theorem c1B:∀ i<8,(([97,98,99,100,101,102,103,104]:Tx).drop i).take 1=[UInt8.ofNat (97+i)]:=by decide
theorem c1C:∀ i<8,(([49,50,51,52,53,54,55,56]:Tx).drop i).take 1=[UInt8.ofNat (49+i)]:=by decide
theorem c1D:∀ i<10,(([48,49,50,51,52,53,54,55,56,57]:Tx).drop i).take 1=[UInt8.ofNat (48+i)]:=by decide
theorem a19 {n m:Int} (h:0≤n):n.tmod m=n%m:=Int.tmod_eq_emod_of_nonneg h
theorem a4D {n m:Int} (h:0≤n):n.tdiv m=n/m:=Int.tdiv_eq_ediv_of_nonneg h
theorem b0z (n:Int) (h0:0≤n) (h1:n≤63) (w:World):Calls G.P 47 #[.int .i64 n] w (K4 (s8 (Ch.A7 n++Ch.F7 n)) w):=by
 refine zN Tryz.func47 ?_;refine zG ?_;refine zR ?_;refine zK 14 ?_;have e1:n.tmod 8=n%8:=a19 h0;have e2:n.tdiv 8=n/8:=a4D h0;have e3:IntKind.i64.wrap (n%8+1)=n%8+1:=g7 zo zo;have e4:IntKind.i64.wrap (n/8)=n/8:=g7 zo zo;have e5:IntKind.i64.wrap (n/8+1)=n/8+1:=g7 zo zo;refine zR ?_;refine a7i (Ch.A7 n) rfl rfl rfl (a0E _) ?_ ?_ ?_ ?_ ?_
 ·rw [e1];omega
 ·rw [e1,e3];omega
 ·rw [e1,e3];simp;omega
 ·rw [e1,e3,show (n%8+1).toNat-(n%8).toNat=1 by omega];exact c1B _ zo
 refine zR ?_;refine a7i (Ch.F7 n) rfl rfl rfl (a0E _) ?_ ?_ ?_ ?_ ?_
 ·rw [e2,e4];omega
 ·rw [e2,e4,e5];omega
 ·rw [e2,e4,e5];simp;omega
 ·rw [e2,e4,e5,show (n/8+1).toNat-(n/8).toNat=1 by omega];exact c1C _ zo
 refine zR ?_;intro w1 c1;refine zR ?_;exact ⟨D9 (A2 _ _),c1⟩
theorem a2t:∀ (k n:Nat),0<k→n<10^k→(Ch.dec n).length≤k:=by
 intro k
 induction k with
 | zero=>intro n h;omega
 | succ k ih =>
  intro n _ h;rw [Ch.dec];split
  ·simp
  ·rename_i h10;have hk:0<k:=by
    rcases Nat.eq_zero_or_pos k with h0 | h0
    ·subst h0;simp at h;omega
    ·exact h0
   have:=ih (n/10) hk (by rw [Nat.pow_succ] at h;omega)
   simp;exact this
theorem a0q {n:Nat} (h:n<9223372036854775808):(Ch.dec n).length≤19:=a2t 19 n zd zo
theorem a0K:∀ (n:Nat) (w:World),n<9223372036854775808→Calls G.P 50 #[.int .i64 n] w (K4 (s8 (Ch.dec n)) w):=by
 intro n
 induction n using Nat.strongRecOn with
 | _ n ih =>
 intro w hn;refine zN Tryz.func50 ?_;refine zG ?_;refine zR ?_;apply E.b7<;>intro h
 ·have e1:IntKind.i64.wrap ((n:Int)+1)=n+1:=g7 zo zo;refine zR ?_;refine a0J (Ch.dec n) rfl rfl rfl (a0E _) ?_ ?_ ?_ ?_ ?_
  ·omega
  ·rw [e1];omega
  ·rw [e1];simp;omega
  ·rw [e1,show ((n:Int)+1).toNat-(n:Int).toNat=1 by omega,Ch.dec,dif_pos zo];exact c1D _ zo
  refine zR ?_;exact ⟨rfl,Cl.refl _⟩
 ·have e1:(n:Int).tmod 10=((n%10:Nat):Int):=by rw [a19 zo];omega
  have e2:IntKind.i64.wrap ((n:Int).tdiv 10)=((n/10:Nat):Int):=by rw [a4D zo,g7 zo zo];omega
  have e3:IntKind.i64.wrap (((n%10:Nat):Int)+1)=((n%10+1:Nat):Int):=by rw [g7 zo zo];omega
  refine zR ?_;refine zK 11 ?_;refine zR ?_;refine C7 (s8 (Ch.dec (n/10))) (fun _ _ h=>h.trans) (fun w _=>?_) ?_
  ·have:=ih (n/10) zo w zo;rw [← e2] at this;exact this
  refine zR ?_;refine a7i [UInt8.ofNat (48+n%10)] rfl rfl rfl (a0E _) ?_ ?_ ?_ ?_ ?_
  ·rw [e1];omega
  ·rw [e1,e3];omega
  ·rw [e1,e3];simp;omega
  ·rw [e1,e3,show ((n%10+1:Nat):Int).toNat-((n%10:Nat):Int).toNat=1 by omega];exact c1D _ zo
  refine zR ?_;have hl:=a0q (n:=n/10) zo;refine E.y6 (v8 (by simp;omega)) (zR ?_)
  intro w1 c1;refine zR ?_;refine ⟨D9 ?_,c1⟩;rw [A2,Ch.dec.eq_def n,dif_neg zo]
theorem c0f (p:A3) (i:Nat) (h:i<64):(bdA p)[i]?=some (.int .i64 (Ch.sq p i)):=by
 have:=Z4 p i h;simp only [bdA,Array.getElem?_extract];rw [if_pos (by rw [r7];omega),Nat.zero_add,this]
theorem c2G {p:A3} {w:World} {b t i:Nat} {fz:Nat×Nat} (hb:w.heap[b]?=some (.cells (bdA p) t fz)) (m:Int) (h0:0≤m) (h1:m<64) (hi:i=m.toNat) :
  l8 G.P w 3 ⟨b,i,none⟩ (.int .i64 (Ch.sq p m)):=by
 subst hi;refine W1 hb ?_ rfl;rw [c0f p _ zo,Int.toNat_of_nonneg h0]
theorem b00 {e:Nat} (h:e≤100):(Ch.V6 e).length≤3:=by
 unfold Ch.V6;split
 ·simp
 ·exact a2t 3 e zd zo
theorem a9s (x:Int):(Ch.pcT x).length≤1:=by
                               unfold Ch.pcT;iterate 12 (split;· simp)
                               simp
theorem b01 (g:Nat→Int):∀ (n f e:Nat),e+n≤100→(Ch.a0h g n f e).length≤4*n+3:=by
 intro n
 induction n with
 | zero=>intro f e h;exact b00 zo
 | succ n ih =>
  intro f e h;rw [Ch.a0h];split
  ·have:=ih (f+1) (e+1) zo;omega
  ·have:=ih (f+1) 0 zo;have:=b00 (e:=e) zo;have:=a9s (g f);simp;omega
theorem Y0 (p:A3):∀ r,(Ch.boardT p r).length≤36*r:=by
 intro r
 induction r with
 | zero=>simp [Ch.boardT]
 | succ r ih =>
  rw [Ch.boardT];have:=b01 (fun f=>Ch.sq p (8*(r:Int)+f)) 8 0 0 zo;simp only [List.length_append];split<;>simp<;>omega
theorem c1E:∀ i<12,(([75,81,82,66,78,80,107,113,114,98,110,112]:Tx).drop i).take 1=Ch.pcT ((i:Int)+1):=by decide
theorem b2e (p:A3) (hp:Pc p) (w:World):Calls G.P 48 #[.agg (bdA p)] w (K4 (s8 (Ch.boardT p 8)) w):=by
 refine zN Tryz.func48 ?_;refine zG ?_;generalize hW:w.alloc (.cells (bdA p) 22)=W0;have hP:∀ w',Cl W0 w'→w'.heap[w.heap.size]?=some (.cells (bdA p) 22 (0,0)):=fun w' h=>(hW▸h:Cl (w.alloc (.cells (bdA p) 22)) w').blk (d8 _ _);have hE:∀ w',Cl W0 w'→Cl w w':=fun w' h=>(Cl.alloc _ _).trans (hW▸h);have hT:=Y0 p 8;refine zR ?_;refine A9 (σ:=Nat×Tx) [3,4,5,6,7] 8 (fun a=>[(3,s8 a.2),(4,.int .i64 ((a.1:Int)-1))]) (fun a w'=>a.1≤8∧a.2++Ch.boardT p a.1=Ch.boardT p 8∧Cl W0 w') (fun a=>a.1) zk (8,[])
  ⟨by simp,rfl,Cl.refl _⟩ ⟨rfl,rfl,trivial⟩ ?_
 rintro ⟨r,X⟩ j w1 ⟨hr,hX,hcl⟩;simp only at hr hX ⊢;refine zR ?_;apply E.b7<;>intro h
 ·obtain ⟨r',rfl⟩:∃ r',r=r'+1:=⟨r-1,zo⟩;clear h;rw [show (((r'+1:Nat):Int)-1)=(r':Int) by omega]
  have nr:IntKind.i64.wrap ((r':Int)-1)=(r':Int)-1:=g7 zo zo;have n8:IntKind.i64.wrap (8*(r':Int))=8*(r':Int):=g7 zo zo;have hb1:Ch.boardT p (r'+1)=Ch.a0h (fun f=>Ch.sq p (8*(r':Int)+f)) 8 0 0++(if r'=0 then [] else [47])++Ch.boardT p r':=rfl
  generalize hg:(fun f:Nat=>Ch.sq p (8*(r':Int)+f))=g at *;have hXl:X.length+(Ch.a0h g 8 0 0).length≤288:=by
   have:=congrArg List.length hX;rw [hb1] at this;simp only [List.length_append] at this;omega
  refine zR ?_;refine A9 (σ:=Nat×Nat×Tx) [3,5,6,7] 8 (fun a=>[(3,s8 (X++a.2.2)),(5,.int .i64 a.2.1),(6,.int .i64 a.1)]) (fun a w'=>a.1≤8∧a.2.1≤a.1∧a.2.2++Ch.a0h g (8-a.1) a.1 a.2.1=Ch.a0h g 8 0 0∧Cl W0 w') (fun a=>8-a.1) zk (0,0,[])
   ⟨by simp,by simp,rfl,hcl⟩ ⟨by simp only [List.append_nil];rfl,rfl,rfl,trivial⟩ ?_
  rintro ⟨f,e,Y⟩ j2 w2 ⟨hf,he,hY,hcl2⟩;simp only at hf he hY ⊢;have hYl:X.length+Y.length≤288:=by
   have:=congrArg List.length hY;simp only [List.length_append] at this;omega
  refine zR ?_;apply E.b7<;>intro h
  ·have hf8:f<8:=by omega
   clear h;have nf:IntKind.i64.wrap ((f:Int)+1)=((f+1:Nat):Int):=by rw [g7 zo zo];omega
   have ne:IntKind.i64.wrap ((e:Int)+1)=((e+1:Nat):Int):=by rw [g7 zo zo];omega
   have ns:IntKind.i64.wrap (8*(r':Int)+f)=8*(r':Int)+f:=g7 zo zo;have hrow:Ch.a0h g (8-f) f e=if g f<1∨g f>12 then Ch.a0h g (8-(f+1)) (f+1) (e+1) else Ch.V6 e++Ch.pcT (g f)++Ch.a0h g (8-(f+1)) (f+1) 0:=by
    rw [show 8-f=(8-(f+1))+1 by omega];rfl
   refine zR ?_;simp only [n8,ns];refine zC ?_;refine zR ?_;refine d6 (.int .i64 (g f)) ?_ ?_
   ·rw [← hg];exact c2G (hP _ hcl2) _ zo zo (by simp [E.z6])
   have hgb:0≤g f∧g f≤12:=by rw [← hg];exact hp _
   generalize hk:g f=k at *;refine zR ?_;apply E.b7<;>intro h
   ·refine zR ?_;refine ⟨(f+1,e+1,Y),⟨rfl,m7 ne,m7 nf,trivial⟩,⟨by simp;omega,by simp;omega,?_,hcl2⟩,by simp;omega⟩
    simp only
    rw [hrow,if_pos (.inl h)] at hY;exact hY
   ·have h1:=h;clear h;refine zR ?_;apply E.b7<;>intro h
    ·omega
    ·rw [hrow,if_neg zo] at hY;have nk:IntKind.i64.wrap (k-1)=k-1:=g7 zo zo;clear h;refine zR ?_;apply E.b7<;>intro h
     ·have hce:Ch.V6 e=Ch.dec e:=by unfold Ch.V6;rw [if_neg zo]
      have hdl:=a2t 2 e zd zo;refine zR ?_;refine m9 (a0K e _ zo) fun w3 c3=>zR ?_;refine E.y6 (v8 (by rw [List.length_append];omega)) ?_
      rw [A2];refine zR ?_;simp only [nk];refine a0J (Ch.pcT k) rfl rfl rfl (a0E _) zo zo (by simp;omega) ?_ ?_
      ·rw [show k.toNat-(k-1).toNat=1 by omega,c1E _ zo];congr 1;omega
      refine zR ?_;have hpl:=a9s k;refine E.y6 (v8 (by simp only [List.length_append];omega)) ?_
      rw [A2];refine zR ?_;refine ⟨(f+1,0,Y++Ch.dec e++Ch.pcT k),⟨?_,rfl,m7 nf,trivial⟩,⟨by simp;omega,by simp,?_,hcl2.trans c3⟩,by simp;omega⟩
      ·show Value.string _=Value.string _;simp only [List.append_assoc]
      ·simp only;rw [← hY,hce];simp only [List.append_assoc]
     ·have he0:e=0:=by omega
      subst he0;refine zR ?_;simp only [nk];refine a0J (Ch.pcT k) rfl rfl rfl (a0E _) zo zo (by simp;omega) ?_ ?_
      ·rw [show k.toNat-(k-1).toNat=1 by omega,c1E _ zo];congr 1;omega
      refine zR ?_;have hpl:=a9s k;refine E.y6 (v8 (by simp only [List.length_append];omega)) ?_
      rw [A2];refine zR ?_;refine ⟨(f+1,0,Y++Ch.pcT k),⟨?_,rfl,m7 nf,trivial⟩,⟨by simp;omega,by simp,?_,hcl2⟩,by simp;omega⟩
      ·show Value.string _=Value.string _;simp only [List.append_assoc]
      ·simp only;rw [← hY];simp [Ch.V6,List.append_assoc]
  ·have hf8:f=8:=by omega
   subst hf8;clear h;have hend:Y++Ch.V6 e=Ch.a0h g 8 0 0:=hY;have hout:∀ T:Tx,X++Y++Ch.V6 e++(if r'=0 then [] else [47])=T→T++Ch.boardT p r'=Ch.boardT p 8:=by
    intro T hT;rw [← hT,← hX,hb1,← hend];simp only [List.append_assoc]
   refine zR ?_;apply E.b7<;>intro h
   ·have hce:Ch.V6 e=Ch.dec e:=by unfold Ch.V6;rw [if_neg zo]
    have hdl:=a2t 2 e zd zo;rw [hce] at hout;refine zR ?_;refine m9 (a0K e _ zo) fun w3 c3=>zR ?_;refine E.y6 (v8 (by rw [List.length_append];omega)) ?_
    rw [A2];refine zR ?_;apply E.b7<;>intro h
    ·refine zR ?_;refine E.y6 (a18 (by simp only [C9,List.length_append];simp [ByteArray.size];omega)) ?_
     rw [a0E,A2];refine zR ?_;refine ⟨(r',X++Y++Ch.dec e++[47]),⟨rfl,m7 nr,trivial⟩,⟨by simp;omega,?_,hcl2.trans c3⟩,by simp⟩
     simp only
     exact hout _ (by rw [if_neg zo])
    ·refine zR ?_;refine ⟨(r',X++Y++Ch.dec e),⟨rfl,m7 nr,trivial⟩,⟨by simp;omega,?_,hcl2.trans c3⟩,by simp⟩
     simp only
     exact hout _ (by rw [if_pos zo,List.append_nil])
   ·have hce:Ch.V6 e=[]:=by unfold Ch.V6;rw [if_pos zo]
    rw [hce] at hout;refine zR ?_;apply E.b7<;>intro h
    ·refine zR ?_;refine E.y6 (a18 (by simp only [C9,List.length_append];simp [ByteArray.size];omega)) ?_
     rw [a0E,A2];refine zR ?_;refine ⟨(r',X++Y++[47]),⟨rfl,m7 nr,trivial⟩,⟨by simp;omega,?_,hcl2⟩,by simp⟩
     simp only
     exact hout _ (by rw [if_neg zo,List.append_nil])
    ·refine zR ?_;refine ⟨(r',X++Y),⟨rfl,m7 nr,trivial⟩,⟨by simp;omega,?_,hcl2⟩,by simp⟩
     simp only
     exact hout _ (by rw [if_pos zo,List.append_nil,List.append_nil])
 ·have hr0:r=0:=by omega
  subst hr0;refine zR ?_;refine ⟨D9 ?_,hE _ hcl⟩;rw [a0p,← hX];simp [Ch.boardT]
def a2V (n:Nat):Tx:=if n=0 then [75] else if n=1 then [81] else if n=2 then [107] else [113]
def a0B (c:Int):Nat→Tx
 | 0=>[]
 | n+1=>a0B c n++(if Ch.P8 c n=true then a2V n else [])
theorem a7j (c:Int):∀ n,(a0B c n).length≤n:=by
 intro n
 induction n with
 | zero=>simp [a0B]
 | succ n ih =>
  rw [a0B,List.length_append];have:(if Ch.P8 c n=true then a2V n else []).length≤1:=by
   split
   ·unfold a2V;repeat' split
    all_goals simp
   ·simp
  omega
theorem a7k (c:Int):Ch.castT c=if a0B c 4=[] then [45] else a0B c 4:=by
 unfold Ch.castT;simp only [a0B,a2V,List.nil_append];cases Ch.P8 c 0<;>cases Ch.P8 c 1<;>cases Ch.P8 c 2<;>cases Ch.P8 c 3<;>rfl
theorem c2H:∀ i<4,(([75,81,107,113]:Tx).drop i).take 1=a2V i:=by decide
theorem b02 (c:Int) (h0:0≤c) (h1:c≤15) (w:World):Calls G.P 49 #[.int .i64 c] w (D5 (s8 (Ch.castT c)) w):=by
 refine zN Tryz.func49 ?_;refine zG ?_;refine zR ?_;refine A9 (σ:=Nat) [3,4] 5 (fun a=>[(3,s8 (a0B c a)),(4,.int .i64 a)]) (fun a w'=>a≤4∧w'=w) (fun a=>4-a) zk 0
  ⟨zo,rfl⟩ ⟨rfl,rfl,trivial⟩ ?_
 rintro n j w2 ⟨hn,hw⟩;subst hw;have hl:=a7j c n;refine zR ?_;apply E.b7<;>intro h
 ·have hn4:n<4:=by omega
  clear h;have nn:IntKind.i64.wrap ((n:Int)+1)=((n+1:Nat):Int):=by rw [g7 zo zo];omega
  refine zR ?_;intro r2 hr2;have hbi:=a9j h0 h1 hn4;refine zR ?_;intro r3 hr3;rw [← hr2,← hr3] at hbi;clear hr2 hr3;refine zR ?_;apply E.b7<;>intro h
  ·have hb:=hbi.1 h;refine zR ?_;refine a0J (a2V n) rfl rfl rfl (a0E _) zo (by rw [nn];omega) (by rw [nn];simp only [Array.length_toList];show ((n+1:Nat):Int)≤4;omega) ?_ ?_
   ·rw [nn,show ((n+1:Nat):Int).toNat-(n:Int).toNat=1 by omega];exact c2H _ zo
   refine zR ?_;have hr:(a2V n).length≤1:=by
    unfold a2V;repeat' split
    all_goals simp
   refine E.y6 (v8 zo) ?_;rw [A2];refine zR ?_;exact ⟨n+1,⟨by rw [a0B,if_pos hb];rfl,m7 nn,trivial⟩,⟨zo,rfl⟩,zo⟩
  ·have hb:Ch.P8 c n=false:=by
    cases hh:Ch.P8 c n
    ·rfl
    ·exact absurd (hbi.2 hh) h
   refine zR ?_;exact ⟨n+1,⟨by rw [a0B,hb];simp only [List.append_nil,Bool.false_eq_true,if_false];rfl,m7 nn,trivial⟩,⟨zo,rfl⟩,zo⟩
 ·have hn4:n=4:=by omega
  subst hn4;clear h;refine zR ?_;apply E.b7<;>intro h
  ·have he:a0B c 4=[]:=by rw [a0E] at h;exact a0p.1 h
   refine zR ?_;exact ⟨D9 (by rw [a7k,if_pos he];rfl),rfl⟩
  ·have he:a0B c 4≠[]:=fun e=>h (by rw [a0E,e])
   refine zR ?_;exact ⟨D9 (by rw [a7k,if_neg he]),rfl⟩
theorem Y1 (l a:Tx):tx a++(⟨l.toArray⟩:ByteArray)=tx (a++l):=A2 a l
theorem a0Y (c:Int):(Ch.castT c).length≤4:=by
 rw [a7k];split
 ·simp
 ·exact a7j c 4
theorem a68 (e:Int):(Ch.epT e).length≤2:=by
 unfold Ch.epT;split
 ·simp [Ch.A7,Ch.F7]
 ·simp
theorem a3s (e:Int):(Ch.turnT e).length=1:=by unfold Ch.turnT;split<;>rfl
theorem a82 {C:World→Prop} {n:Int} (h0:0≤n) {k k':IntKind} {x y:Operand} {ts:Array Nat} {dst:Option Nat} {ty:Nat} {pos:String} {af:Array Edge} {gd:Option (Nat×Bool)} {env:C0} {K:Value→Prop}
  (hx:ev env x = .int k n) (hy:ev env y = .int k' 0) (h:K (.int k n)) :
  b3X G.P C { dst,op:=.call { callee:=.builtin .max,args:=#[x,y],argTypes:=ts },type:=ty,pos,after:=af,guard:=gd } env K:=by
 refine ⟨_,fun w _=>?_,h⟩;simp only [execOp,resolve,invoke,builtin,Sem.run_bind,Sem.run_pure,Result.andThen_ok,List.map_toArray,List.map_cons,List.map_nil,hx,hy];rw [run_max_int2,if_neg zo];rfl
structure Fen (p:A3):Prop where
 pc:Pc p
 c0:0≤p.castle
 c1:p.castle≤15
 h0:0≤p.half
 h1:p.half<9223372036854775808
 f0:0≤p.full
 f1:p.full<9223372036854775808
theorem a0Z (p:A3) (hp:Fen p) (w:World):Calls G.P 18 #[C4 p] w (K4 (s8 (Ch.fenT p)) w):=by
 refine zN Tryz.func18 ?_;refine zG ?_;generalize hW:w.alloc (.cells (o9 p) 24)=W0;have hP:∀ w',Cl W0 w'→w'.heap[w.heap.size]?=some (.cells (o9 p) 24 (0,0)):=fun w' h=>(hW▸h:Cl (w.alloc (.cells (o9 p) 24)) w').blk (d8 _ _);have hE:∀ w',Cl W0 w'→Cl w w':=fun w' h=>(Cl.alloc _ _).trans (hW▸h);obtain ⟨hpc,c0,c1,hh0,hh1,hf0,hf1⟩:=hp;have hbl:=Y0 p 8;have hcl:=a0Y p.castle;have hel:=a68 p.ep;have htl:=a3s p.turn;have hhl:=a0q (n:=p.half.toNat) zo;have hfl:=a0q (n:=p.full.toNat) zo;have hsq:∀ w,0≤p.ep→p.ep<64→Calls G.P 47 #[.int .i64 p.ep] w (K4 (s8 (Ch.epT p.ep)) w):=fun w h h'=>by
  have:=b0z p.ep h zo w;unfold Ch.epT;rw [if_pos ⟨h,h'⟩];exact this
 have hT:Ch.fenT p=Ch.boardT p 8++[32]++Ch.turnT p.turn++[32]++Ch.castT p.castle++[32]++Ch.epT p.ep++[32]++Ch.dec p.half.toNat++[32]++Ch.dec p.full.toNat:=rfl;rw [hT];clear hT;refine Nx.mk (zG ?_);refine A4 (σ:=Unit) [3,5,6,7] 8 (fun _=>[(3,s8 (Ch.turnT p.turn))]) (fun _ w'=>w'=W0) zk ?_ (fun _ j w3 h=>?_)
 ·refine zR ?_;refine d6 _ (E5 (hP _ (Cl.refl _))) (zR ?_);apply E.b7<;>intro h
  ·refine zR ?_;exact ⟨(),⟨by unfold Ch.turnT;rw [if_pos h];rfl,trivial⟩,rfl⟩
  ·refine zR ?_;exact ⟨(),⟨by unfold Ch.turnT;rw [if_neg h];rfl,trivial⟩,rfl⟩
 subst h;refine A4 (σ:=Unit) [4,8,9,10,11,12,13,14,15,16,17,18] 19 (fun _=>[(4,s8 (Ch.epT p.ep))]) (fun _ w'=>Cl w3 w') zk ?_ (fun _ j w4 c4=>?_)
 ·refine zR ?_;refine d6 _ (a3R (hP _ (Cl.refl _))) (zR ?_);apply E.b7<;>intro h
  ·have e0:=h;clear h;refine zR ?_;refine d6 _ (a3R (hP _ (Cl.refl _))) (zR ?_);apply E.b7<;>intro h
   ·refine zR ?_;refine d6 _ (a3R (hP _ (Cl.refl _))) (zR ?_);refine m9 (hsq _ e0 h) fun w4 c4=>zR ?_;exact ⟨(),⟨rfl,trivial⟩,c4⟩
   ·refine zR ?_;exact ⟨(),⟨by unfold Ch.epT;rw [if_neg zo];rfl,trivial⟩,Cl.refl _⟩
  ·refine zR ?_;exact ⟨(),⟨by unfold Ch.epT;rw [if_neg zo];rfl,trivial⟩,Cl.refl _⟩
 generalize hb:Ch.boardT p 8=B at *;generalize Ch.turnT p.turn=T1 at *;generalize hc:Ch.castT p.castle=T2 at *;generalize Ch.epT p.ep=T3 at *;refine zR ?_;refine zK 27 ?_;refine zR ?_;refine g9 (.agg (bdA p)) (fun w hw=>c0e (hP _ (c4.trans hw))) (zR ?_);refine C7 (s8 B) (fun _ _ h=>h.trans) (fun w _=>?_) ?_
 ·rw [← hb];exact b2e p hpc w
 refine zR ?_;refine E.y6 (a18 (by simp only [C9];simp [ByteArray.size];omega)) ?_
 rw [Y1 [32]];refine zR ?_;refine E.y6 (v8 (by simp only [List.length_append];simp;omega)) ?_
 rw [A2];refine zR ?_;refine E.y6 (a18 (by simp only [C9];simp [ByteArray.size];omega)) ?_
 rw [Y1 [32]];refine zR ?_;refine g9 _ (fun w hw=>a1f (hP _ (c4.trans hw))) (zR ?_);refine A5 (s8 T2) (fun w _=>?_) ?_
 ·rw [← hc];exact b02 p.castle c0 c1 w
 refine zR ?_;refine E.y6 (v8 (by simp only [List.length_append];simp;omega)) ?_
 rw [A2];refine zR ?_;refine E.y6 (a18 (by simp only [C9];simp [ByteArray.size];omega)) ?_
 rw [Y1 [32]];refine zR ?_;refine E.y6 (v8 (by simp only [List.length_append];simp;omega)) ?_
 rw [A2];refine zR ?_;refine E.y6 (a18 (by simp only [C9];simp [ByteArray.size];omega)) ?_
 rw [Y1 [32]];refine zR ?_;refine g9 _ (fun w hw=>a6U (hP _ (c4.trans hw))) (zR ?_);refine a82 hh0 rfl rfl (zR ?_);refine C7 (s8 (Ch.dec p.half.toNat)) (fun _ _ h=>h.trans) (fun w _=>?_) ?_
 ·have:=a0K p.half.toNat w zo;rw [Int.toNat_of_nonneg hh0] at this;exact this
 refine zR ?_;generalize Ch.dec p.half.toNat=T4 at *;refine E.y6 (v8 (by simp only [List.length_append];simp;omega)) ?_
 rw [A2];refine zR ?_;refine E.y6 (a18 (by simp only [C9];simp [ByteArray.size];omega)) ?_
 rw [Y1 [32]];refine zR ?_;refine g9 _ (fun w hw=>a9i (hP _ (c4.trans hw))) (zR ?_);refine a82 hf0 rfl rfl (zR ?_);refine C7 (s8 (Ch.dec p.full.toNat)) (fun _ _ h=>h.trans) (fun w _=>?_) ?_
 ·have:=a0K p.full.toNat w zo;rw [Int.toNat_of_nonneg hf0] at this;exact this
 refine zR ?_;generalize Ch.dec p.full.toNat=T5 at *;refine E.y6 (v8 (by simp only [List.length_append];simp;omega)) ?_
 rw [A2];refine zR ?_;intro w5 c5;refine zR ?_;exact ⟨rfl,hE _ (c4.trans c5)⟩
theorem O3:G2 157 5 1 1:=R0 zk
theorem elStr:G2 42 9 1 16:=R0 zk
def a4E (t:Tx):List Value:=[s8 t]
theorem B5 (t:Tx):(a4E t).length=1:=rfl
theorem b9w:G.P.underlying 5=some (.int .u8):=by kernel_rfl
theorem b2f:G.P.underlying 157=some (.slice 5):=by kernel_rfl
theorem a7l (l:Tx) {b:Nat} {n c:Nat} {cs:Array Value} {u:Nat} {fz:Nat×Nat} {x:Operand} {dst:Option Nat} {ty:Nat} {pos:String} {af:Array Edge} {gd:Option (Nat×Bool)} {env:C0} {w:World} {K:Value→World→Prop}
  (hx:ev env x = .slice (some ⟨b,0,none⟩) n c) (hn:n=l.length) (hb:w.heap[b]?=some (.cells cs u fz)) (hc:∀ j (hj:j<l.length),cs[j]?=some (.int .u8 (l[j].toNat:Int)))
  (h:K (s8 l) w):L5 G.P { dst,op:=.convert 157 9 x,type:=ty,pos,after:=af,guard:=gd } env w K:=by
 subst hn;refine ⟨.inl ⟨_,w,?_,h⟩⟩;show (do pure (Next.value (← convert _ _ (ev env x))):Sem Next).run G.P w=_
 rw [hx,Sem.run_bind,run_convert_bytes_back (P:=G.P) w 157 9 5 ⟨b,0,none⟩ c l b2f b9w b0y (fun j hj=>by rw [G8,Nat.zero_add,C8 hb];exact hc j hj)]
 rfl
theorem a0a (n:Int):(Ch.Y7 n).length≤2:=by
 unfold Ch.Y7;split
 ·simp
 ·simp [Ch.A7,Ch.F7]
theorem L7 (n:Int):(Ch.A1 n).length≤1:=by
 unfold Ch.A1;iterate 5 (split;· simp)
 simp
end
section
open Go.Shelf
def Tryz.lays170_ren:Go.Shelf.Ren:=⟨fun | 170=>154 | n=>n,fun | 70=>158 | 3=>3 | 0=>0 | 72=>160 | 37=>157 | 5=>5 | n=>n,fun | n=>n⟩
theorem Tryz.lays170:Go.Proofs.Lays.n170 Tryz.prog Tryz.lays170_ren:={
 mixed:=by kernel_rfl
 f170:=Tryz.func154.trans (congrArg some zk)
 t0:=Tryz.underlying0
 a0:=Tryz.isAgg0
 z0:=Tryz.sizeOf0
 v0:=Tryz.zeroValue0
 t3:=Tryz.underlying3
 a3:=Tryz.isAgg3
 z3:=Tryz.sizeOf3
 v3:=Tryz.zeroValue3
 t37:=Tryz.underlying157
 a37:=Tryz.isAgg157
 z37:=Tryz.sizeOf157
 v37:=Tryz.zeroValue157
 t70:=Tryz.underlying158
 a70:=Tryz.isAgg158
 z70:=Tryz.sizeOf158
 v70:=Tryz.zeroValue158
 t72:=Tryz.underlying160
 a72:=Tryz.isAgg160
 z72:=Tryz.sizeOf160
 v72:=Tryz.zeroValue160 }
open Go.RowKit in
theorem Tryz.Builder_Len (B b:Nat) (bs:List Value) (w:World) (h:Lib.IsBuilder 160 5 B b bs w) :
  Calls Tryz.prog 154 #[.pointer (some ⟨b,0,none⟩)] w fun e w'=>e = .returned (.int .i64 bs.length)∧w'=w:=Any.Builder_Len Tryz.lays170 B b bs w h
def Tryz.lays169_ren:Go.Shelf.Ren:=⟨fun | 169=>124 | n=>n,fun | 70=>158 | 9=>9 | 0=>0 | 72=>160 | 37=>157 | 127=>221 | 3=>3 | 5=>5 | n=>n,fun | n=>n⟩
theorem Tryz.lays169:Go.Proofs.Lays.n169 Tryz.prog Tryz.lays169_ren:={
 mixed:=by kernel_rfl
 f169:=Tryz.func124.trans (congrArg some zk)
 t0:=Tryz.underlying0
 a0:=Tryz.isAgg0
 z0:=Tryz.sizeOf0
 v0:=Tryz.zeroValue0
 t3:=Tryz.underlying3
 a3:=Tryz.isAgg3
 z3:=Tryz.sizeOf3
 v3:=Tryz.zeroValue3
 t9:=Tryz.underlying9
 a9:=Tryz.isAgg9
 z9:=Tryz.sizeOf9
 v9:=Tryz.zeroValue9
 t37:=Tryz.underlying157
 a37:=Tryz.isAgg157
 z37:=Tryz.sizeOf157
 v37:=Tryz.zeroValue157
 t70:=Tryz.underlying158
 a70:=Tryz.isAgg158
 z70:=Tryz.sizeOf158
 v70:=Tryz.zeroValue158
 t72:=Tryz.underlying160
 a72:=Tryz.isAgg160
 z72:=Tryz.sizeOf160
 v72:=Tryz.zeroValue160
 t127:=Tryz.underlying221
 a127:=Tryz.isAgg221
 z127:=Tryz.sizeOf221
 v127:=Tryz.zeroValue221 }
theorem Tryz.Builder_Extra_169:Builder.Extra Tryz.prog Tryz.lays169_ren:={
 sizeBuilder:=by kernel_rfl
 liesBuilder:=by kernel_rfl
 t5:=Tryz.underlying5
 a5:=Tryz.isAgg5
 z5:=Tryz.sizeOf5
 v5:=Tryz.zeroValue5
 infoByte:=by kernel_rfl
 cellsByte:=by kernel_rfl
 sizeByte:=by kernel_rfl
 neB5:=by decide }
open Go.RowKit in
theorem Tryz.Builder_String_any (B b:Nat) (l:List UInt8) (w:World) (h:Lib.IsBuilder 160 5 B b (Lib.byteCells l) w) (hBw:B≤w.heap.size) :
  Calls Tryz.prog 124 #[.pointer (some ⟨b,0,none⟩)] w fun e w'=>e = .returned (.string ⟨l.toArray⟩)∧Below B w w':=Any.Builder_String_any Tryz.lays169 Tryz.Builder_Extra_169 B b l w h hBw
def Tryz.lays165_ren:Go.Shelf.Ren:=⟨fun | 165=>159 | 240=>183 | 241=>211 | 276=>229 | 277=>260 | n=>n,fun | 70=>158 | 3=>3 | 0=>0 | 4=>4 | 9=>9 | 20=>20 | 72=>160 | 37=>157 | 164=>264 | 5=>5 | n=>n,fun | n=>n⟩
theorem Tryz.lays165:Go.Proofs.Lays.n165 Tryz.prog Tryz.lays165_ren:={
 mixed:=by kernel_rfl
 f165:=Tryz.func159.trans (congrArg some zk)
 f240:=Tryz.func183.trans (congrArg some zk)
 f241:=Tryz.func211.trans (congrArg some zk)
 f276:=Tryz.func229.trans (congrArg some zk)
 f277:=Tryz.func260.trans (congrArg some zk)
 t0:=Tryz.underlying0
 a0:=Tryz.isAgg0
 z0:=Tryz.sizeOf0
 v0:=Tryz.zeroValue0
 t3:=Tryz.underlying3
 a3:=Tryz.isAgg3
 z3:=Tryz.sizeOf3
 v3:=Tryz.zeroValue3
 t4:=Tryz.underlying4
 a4:=Tryz.isAgg4
 z4:=Tryz.sizeOf4
 v4:=Tryz.zeroValue4
 t9:=Tryz.underlying9
 a9:=Tryz.isAgg9
 z9:=Tryz.sizeOf9
 v9:=Tryz.zeroValue9
 t20:=Tryz.underlying20
 a20:=Tryz.isAgg20
 z20:=Tryz.sizeOf20
 v20:=Tryz.zeroValue20
 t37:=Tryz.underlying157
 a37:=Tryz.isAgg157
 z37:=Tryz.sizeOf157
 v37:=Tryz.zeroValue157
 t70:=Tryz.underlying158
 a70:=Tryz.isAgg158
 z70:=Tryz.sizeOf158
 v70:=Tryz.zeroValue158
 t72:=Tryz.underlying160
 a72:=Tryz.isAgg160
 z72:=Tryz.sizeOf160
 v72:=Tryz.zeroValue160
 t164:=Tryz.underlying264
 a164:=Tryz.isAgg264
 z164:=Tryz.sizeOf264
 v164:=Tryz.zeroValue264 }
theorem Tryz.Builder_Extra_165:Builder.Extra Tryz.prog Tryz.lays165_ren:={
 sizeBuilder:=by kernel_rfl
 liesBuilder:=by kernel_rfl
 t5:=Tryz.underlying5
 a5:=Tryz.isAgg5
 z5:=Tryz.sizeOf5
 v5:=Tryz.zeroValue5
 infoByte:=by kernel_rfl
 cellsByte:=by kernel_rfl
 sizeByte:=by kernel_rfl
 neB5:=by decide }
open Go.RowKit in
theorem Tryz.Builder_Grow_fresh (B b n:Nat) (w:World) (hB:B≤b) (hbk:w.heap[b]?=some (.cells #[.pointer none,.slice none 0 0] 160 (0,0))) (hBw:B≤w.heap.size) (hn:n≤281474976710656) :
  Calls Tryz.prog 159 #[.pointer (some ⟨b,0,none⟩),.int .i64 n] w fun e w'=>e = .returned (.tuple #[])∧(Lib.BuilderAt 160 5 B b (.pointer (some ⟨b,0,none⟩)) [] w'∧Below B w w'):=Any.Builder_Grow_fresh Tryz.lays165 Tryz.Builder_Extra_165 B b n w hB hbk hBw hn
def Tryz.laysM171_ren:Go.Shelf.Ren:=⟨fun | 171=>169 | 243=>213 | 246=>261 | 283=>288 | 284=>289 | 285=>290 | 286=>291 | 129=>228 | 317=>305 | 318=>306 | 319=>307 | 320=>308 | 337=>315 | 338=>316 | n=>n,fun | 3=>3 | 9=>9 | 2=>2 | 4=>4 | 171=>329 | 0=>0 | 53=>234 | 37=>157 | 5=>5 | 173=>331 | 212=>354 | 51=>262 | 20=>20 | 213=>355 | 46=>52 | 232=>373 | 233=>374 | n=>n,fun | 17=>16 | 18=>20 | 19=>21 | n=>n⟩
theorem Tryz.laysM171:Go.Proofs.LaysM.n171 Tryz.prog Tryz.laysM171_ren:={
 mixed:=by kernel_rfl
 f129:=Tryz.func228.trans (congrArg some zk)
 f171:=Tryz.func169.trans (congrArg some zk)
 f243:=Tryz.func213.trans (congrArg some zk)
 f246:=Tryz.func261.trans (congrArg some zk)
 f283:=Tryz.func288.trans (congrArg some zk)
 f284:=Tryz.func289.trans (congrArg some zk)
 f285:=Tryz.func290.trans (congrArg some zk)
 f286:=Tryz.func291.trans (congrArg some zk)
 f317:=Tryz.func305.trans (congrArg some zk)
 f318:=Tryz.func306.trans (congrArg some zk)
 f319:=Tryz.func307.trans (congrArg some zk)
 f320:=Tryz.func308.trans (congrArg some zk)
 f337:=Tryz.func315.trans (congrArg some zk)
 f338:=Tryz.func316.trans (congrArg some zk)
 t0:=Tryz.underlying0
 a0:=Tryz.isAgg0
 z0:=Tryz.sizeOf0
 v0:=Tryz.zeroValue0
 t2:=Tryz.underlying2
 a2:=Tryz.isAgg2
 z2:=Tryz.sizeOf2
 v2:=Tryz.zeroValue2
 t3:=Tryz.underlying3
 a3:=Tryz.isAgg3
 z3:=Tryz.sizeOf3
 v3:=Tryz.zeroValue3
 t4:=Tryz.underlying4
 a4:=Tryz.isAgg4
 z4:=Tryz.sizeOf4
 v4:=Tryz.zeroValue4
 t5:=Tryz.underlying5
 a5:=Tryz.isAgg5
 z5:=Tryz.sizeOf5
 v5:=Tryz.zeroValue5
 t9:=Tryz.underlying9
 a9:=Tryz.isAgg9
 z9:=Tryz.sizeOf9
 v9:=Tryz.zeroValue9
 t20:=Tryz.underlying20
 a20:=Tryz.isAgg20
 z20:=Tryz.sizeOf20
 v20:=Tryz.zeroValue20
 t37:=Tryz.underlying157
 a37:=Tryz.isAgg157
 z37:=Tryz.sizeOf157
 v37:=Tryz.zeroValue157
 t46:=Tryz.underlying52
 a46:=Tryz.isAgg52
 z46:=Tryz.sizeOf52
 v46:=Tryz.zeroValue52
 t51:=Tryz.underlying262
 a51:=Tryz.isAgg262
 z51:=Tryz.sizeOf262
 v51:=Tryz.zeroValue262
 t53:=Tryz.underlying234
 a53:=Tryz.isAgg234
 z53:=Tryz.sizeOf234
 v53:=Tryz.zeroValue234
 t171:=Tryz.underlying329
 a171:=Tryz.isAgg329
 z171:=Tryz.sizeOf329
 v171:=Tryz.zeroValue329
 t173:=Tryz.underlying331
 a173:=Tryz.isAgg331
 z173:=Tryz.sizeOf331
 v173:=Tryz.zeroValue331
 t212:=Tryz.underlying354
 a212:=Tryz.isAgg354
 z212:=Tryz.sizeOf354
 v212:=Tryz.zeroValue354
 t213:=Tryz.underlying355
 a213:=Tryz.isAgg355
 z213:=Tryz.sizeOf355
 t232:=Tryz.underlying373
 a232:=Tryz.isAgg373
 z232:=Tryz.sizeOf373
 v232:=Tryz.zeroValue373
 t233:=Tryz.underlying374
 a233:=Tryz.isAgg374
 z233:=Tryz.sizeOf374
 v233:=Tryz.zeroValue374
 g17:=by kernel_rfl
 g18:=by kernel_rfl
 g19:=by kernel_rfl
 i0:=by kernel_rfl
 i2:=by kernel_rfl
 i3:=by kernel_rfl
 i4:=by kernel_rfl
 i5:=by kernel_rfl
 i9:=by kernel_rfl
 i20:=by kernel_rfl
 i37:=by kernel_rfl
 i46:=by kernel_rfl
 i51:=by kernel_rfl
 i53:=by kernel_rfl
 i171:=by kernel_rfl
 i173:=by kernel_rfl
 i212:=by kernel_rfl
 i232:=by kernel_rfl
 i233:=by kernel_rfl
 m17:=by kernel_rfl
 m18:=by kernel_rfl
 m19:=by kernel_rfl }
open Go.RowKit Go.Sort Go.Lib in
theorem Tryz.strconv_Itoa (n:Int) (h0:-9223372036854775808≤n) (h1:n≤9223372036854775807) (w:World) (htab:Lib.TabIs Tryz.prog w "internal/strconv.uint64pow10" .u64 Lib.pow10Tab) :
  Calls Tryz.prog 169 #[.int .i64 n] w fun e w'=>e = .returned (.string ⟨(Lib.itoa n).toArray⟩)∧∃ k os,w'=grow (w.drewN k) os:=Any.strconv_Itoa Tryz.laysM171 n h0 h1 w htab
open Go.RowKit Go.Sort Go.Lib in
def Tryz.lays240_ren:Go.Shelf.Ren:=⟨fun | 240=>183 | 276=>229 | n=>n,fun | 70=>158 | 3=>3 | 0=>0 | 4=>4 | 9=>9 | 20=>20 | 72=>160 | 37=>157 | 164=>264 | 5=>5 | 75=>80 | 80=>109 | n=>n,fun | n=>n⟩
theorem Tryz.lays240:Go.Proofs.Lays.n240 Tryz.prog Tryz.lays240_ren:={
 mixed:=by kernel_rfl
 f240:=Tryz.func183.trans (congrArg some zk)
 f276:=Tryz.func229.trans (congrArg some zk)
 t0:=Tryz.underlying0
 a0:=Tryz.isAgg0
 z0:=Tryz.sizeOf0
 v0:=Tryz.zeroValue0
 t4:=Tryz.underlying4
 a4:=Tryz.isAgg4
 z4:=Tryz.sizeOf4
 v4:=Tryz.zeroValue4
 t9:=Tryz.underlying9
 a9:=Tryz.isAgg9
 z9:=Tryz.sizeOf9
 v9:=Tryz.zeroValue9
 t20:=Tryz.underlying20
 a20:=Tryz.isAgg20
 z20:=Tryz.sizeOf20
 v20:=Tryz.zeroValue20
 t70:=Tryz.underlying158
 a70:=Tryz.isAgg158
 z70:=Tryz.sizeOf158
 v70:=Tryz.zeroValue158
 t72:=Tryz.underlying160
 a72:=Tryz.isAgg160
 z72:=Tryz.sizeOf160
 v72:=Tryz.zeroValue160
 t164:=Tryz.underlying264
 a164:=Tryz.isAgg264
 z164:=Tryz.sizeOf264
 v164:=Tryz.zeroValue264 }
theorem Tryz.Builder_Extra_240:Builder.Extra Tryz.prog Tryz.lays240_ren:={
 sizeBuilder:=by kernel_rfl
 liesBuilder:=by kernel_rfl
 t5:=Tryz.underlying5
 a5:=Tryz.isAgg5
 z5:=Tryz.sizeOf5
 v5:=Tryz.zeroValue5
 infoByte:=by kernel_rfl
 cellsByte:=by kernel_rfl
 sizeByte:=by kernel_rfl
 neB5:=by decide }
def Tryz.lays167_ren:Go.Shelf.Ren:=⟨fun | 167=>207 | 240=>183 | 276=>229 | n=>n,fun | 70=>158 | 3=>3 | 0=>0 | 4=>4 | 9=>9 | 20=>20 | 72=>160 | 37=>157 | 164=>264 | 5=>5 | 75=>80 | 80=>109 | n=>n,fun | n=>n⟩
theorem Tryz.lays167:Go.Proofs.Lays.n167 Tryz.prog Tryz.lays167_ren:={
 mixed:=by kernel_rfl
 f167:=Tryz.func207.trans (congrArg some zk)
 f240:=Tryz.func183.trans (congrArg some zk)
 f276:=Tryz.func229.trans (congrArg some zk)
 t0:=Tryz.underlying0
 a0:=Tryz.isAgg0
 z0:=Tryz.sizeOf0
 v0:=Tryz.zeroValue0
 t4:=Tryz.underlying4
 a4:=Tryz.isAgg4
 z4:=Tryz.sizeOf4
 v4:=Tryz.zeroValue4
 t5:=Tryz.underlying5
 a5:=Tryz.isAgg5
 z5:=Tryz.sizeOf5
 v5:=Tryz.zeroValue5
 t9:=Tryz.underlying9
 a9:=Tryz.isAgg9
 z9:=Tryz.sizeOf9
 v9:=Tryz.zeroValue9
 t20:=Tryz.underlying20
 a20:=Tryz.isAgg20
 z20:=Tryz.sizeOf20
 v20:=Tryz.zeroValue20
 t37:=Tryz.underlying157
 a37:=Tryz.isAgg157
 z37:=Tryz.sizeOf157
 v37:=Tryz.zeroValue157
 t70:=Tryz.underlying158
 a70:=Tryz.isAgg158
 z70:=Tryz.sizeOf158
 v70:=Tryz.zeroValue158
 t72:=Tryz.underlying160
 a72:=Tryz.isAgg160
 z72:=Tryz.sizeOf160
 v72:=Tryz.zeroValue160
 t75:=Tryz.underlying80
 a75:=Tryz.isAgg80
 z75:=Tryz.sizeOf80
 v75:=Tryz.zeroValue80
 t164:=Tryz.underlying264
 a164:=Tryz.isAgg264
 z164:=Tryz.sizeOf264
 v164:=Tryz.zeroValue264 }
theorem Tryz.Builder_Extra_167:Builder.Extra Tryz.prog Tryz.lays167_ren:={
 sizeBuilder:=by kernel_rfl
 liesBuilder:=by kernel_rfl
 t5:=Tryz.underlying5
 a5:=Tryz.isAgg5
 z5:=Tryz.sizeOf5
 v5:=Tryz.zeroValue5
 infoByte:=by kernel_rfl
 cellsByte:=by kernel_rfl
 sizeByte:=by kernel_rfl
 neB5:=by decide }
def Tryz.lays166_ren:Go.Shelf.Ren:=⟨fun | 166=>118 | 240=>183 | 276=>229 | n=>n,fun | 70=>158 | 3=>3 | 0=>0 | 4=>4 | 9=>9 | 20=>20 | 72=>160 | 37=>157 | 164=>264 | 5=>5 | 75=>80 | 80=>109 | n=>n,fun | n=>n⟩
theorem Tryz.lays166:Go.Proofs.Lays.n166 Tryz.prog Tryz.lays166_ren:={
 mixed:=by kernel_rfl
 f166:=Tryz.func118.trans (congrArg some zk)
 f240:=Tryz.func183.trans (congrArg some zk)
 f276:=Tryz.func229.trans (congrArg some zk)
 t0:=Tryz.underlying0
 a0:=Tryz.isAgg0
 z0:=Tryz.sizeOf0
 v0:=Tryz.zeroValue0
 t3:=Tryz.underlying3
 a3:=Tryz.isAgg3
 z3:=Tryz.sizeOf3
 v3:=Tryz.zeroValue3
 t4:=Tryz.underlying4
 a4:=Tryz.isAgg4
 z4:=Tryz.sizeOf4
 v4:=Tryz.zeroValue4
 t9:=Tryz.underlying9
 a9:=Tryz.isAgg9
 z9:=Tryz.sizeOf9
 v9:=Tryz.zeroValue9
 t20:=Tryz.underlying20
 a20:=Tryz.isAgg20
 z20:=Tryz.sizeOf20
 v20:=Tryz.zeroValue20
 t37:=Tryz.underlying157
 a37:=Tryz.isAgg157
 z37:=Tryz.sizeOf157
 v37:=Tryz.zeroValue157
 t70:=Tryz.underlying158
 a70:=Tryz.isAgg158
 z70:=Tryz.sizeOf158
 v70:=Tryz.zeroValue158
 t72:=Tryz.underlying160
 a72:=Tryz.isAgg160
 z72:=Tryz.sizeOf160
 v72:=Tryz.zeroValue160
 t75:=Tryz.underlying80
 a75:=Tryz.isAgg80
 z75:=Tryz.sizeOf80
 v75:=Tryz.zeroValue80
 t164:=Tryz.underlying264
 a164:=Tryz.isAgg264
 z164:=Tryz.sizeOf264
 v164:=Tryz.zeroValue264 }
theorem Tryz.Builder_Extra_166:Builder.Extra Tryz.prog Tryz.lays166_ren:={
 sizeBuilder:=by kernel_rfl
 liesBuilder:=by kernel_rfl
 t5:=Tryz.underlying5
 a5:=Tryz.isAgg5
 z5:=Tryz.sizeOf5
 v5:=Tryz.zeroValue5
 infoByte:=by kernel_rfl
 cellsByte:=by kernel_rfl
 sizeByte:=by kernel_rfl
 neB5:=by decide }
open Go.RowKit
theorem Tryz.Builder_WriteByte (B b:Nat) (bs:List Value) (c:Int) (w:World) (h:Lib.IsBuilder 160 5 B b bs w) (hlen:bs.length+1≤140737488355328) (hBw:B≤w.heap.size) :
  Calls Tryz.prog 207 #[.pointer (some ⟨b,0,none⟩),.int .u8 c] w fun e w'=>e = .returned .nilIface∧(Lib.BuilderAt 160 5 B b (.pointer (some ⟨b,0,none⟩)) (bs++[.int .u8 c]) w'∧Below B w w'):=Any.Builder_WriteByte Tryz.lays167 Tryz.Builder_Extra_167 B b bs c w h hlen hBw
theorem Tryz.Builder_WriteString (B b:Nat) (bs:List Value) (s:ByteArray) (w:World) (h:Lib.IsBuilder 160 5 B b bs w) (hlen:bs.length+s.size≤140737488355328) (hBw:B≤w.heap.size) :
  Calls Tryz.prog 118 #[.pointer (some ⟨b,0,none⟩),.string s] w fun e w'=>e = .returned (.tuple #[.int .i64 s.size,.nilIface])∧(Lib.BuilderAt 160 5 B b (.pointer (some ⟨b,0,none⟩)) (bs++Lib.strCells s) w'∧Below B w w'):=Any.Builder_WriteString Tryz.lays166 Tryz.Builder_Extra_166 B b bs s w h hlen hBw
end
section
open Go Go.RowKit
open E
def b6k (body:C0→World→(Exit→C0→World→Prop)→Prop) (Q:Exit→C0→World→Prop):Nat→C0→World→Prop
 | 0,_,_=>False
 | k+1,e,w=>body e w (a9c (fun e2 w2=>b6k body Q k e2 w2) Q)
theorem a7n {body:Code} {e:C0} {w:World} {Q:Exit→C0→World→Prop} (k:Nat) (h:b6k (fun e w Q=>vc G body e w Q) Q k e w):a8m (fun e w Q=>vc G body e w Q) e w Q:=by
 refine ⟨fun n e1 w1=>b6k (fun e w Q=>vc G body e w Q) Q n e1 w1,k,h,?_⟩;intro n e1 w1 h1;cases n with
 | zero=>exact h1.elim
 | succ n =>
  refine a6T body e1 w1 _ _ ?_ h1;intro x e' w' _ hx;cases x<;>first
   | exact ⟨n,Nat.lt_succ_self _,hx⟩
   | exact hx
structure Bld (w0:World) (b:Nat) (l:Tx) (w:World):Prop where
 is:Lib.IsBuilder 160 5 w0.heap.size b (Lib.byteCells l) w
 cl:Cl w0 w
section bld
variable {w0 w w':World} {b:Nat} {l:Tx}
theorem b3x {T e:TypeId} {B b:Nat} {p:Value} {bs:List Value} (h:Lib.BuilderAt T e B b p bs w) (c:Cl w w'):Lib.BuilderAt T e B b p bs w':=by
 obtain ⟨h1,v,h2,h3,h4⟩:=h;refine ⟨h1,v,c.blk h2,⟨h3.1,?_⟩,h4⟩;rcases h3.2 with h5 | ⟨g,cap,cur,e1,e2,e3,e4⟩
 ·exact .inl h5
 ·exact .inr ⟨g,cap,cur,e1,e2,c.blk e3,e4⟩
theorem Bld.step (h:Bld w0 b l w) (c:Cl w w'):Bld w0 b l w' :=
 ⟨h.is.elim (fun h=>.inl (b3x h c)) (fun h=>.inr (b3x h c)),h.cl.trans c⟩
theorem Bld.new (w:World):Bld w w.heap.size [] (w.alloc (.cells #[.pointer none,.slice none 0 0] 160)) :=
 ⟨.inl ⟨Nat.le_refl _,.slice none 0 0,d8 _ _,⟨rfl,.inl ⟨rfl,rfl⟩⟩,by simp [Value.ownBlock]⟩,Cl.alloc _ _⟩
theorem Bld.below (h:Cl w0 w) (c:Below w0.heap.size w w'):Cl w0 w':=Below.trans h c
theorem b2g (n:Nat) (hn:n≤1000000) (hc:Cl w0 w) (hb:w0.heap.size≤b) (hk:w.heap[b]?=some (.cells #[.pointer none,.slice none 0 0] 160 (0,0))) :
  Calls G.P 159 #[.pointer (some ⟨b,0,none⟩),.int .i64 n] w (fun r w'=>r = .returned (.tuple #[])∧Bld w0 b [] w'):=by
 refine (Tryz.Builder_Grow_fresh w0.heap.size b n w hb hk hc.size zo).mono ?_;rintro r w' ⟨h1,h2,h3⟩;exact ⟨h1,.inr h2,Bld.below hc h3⟩
theorem a1A (c:UInt8) (h:Bld w0 b l w) (hl:l.length<1000000) :
  Calls G.P 207 #[.pointer (some ⟨b,0,none⟩),.int .u8 c.toNat] w (fun r w'=>r = .returned .nilIface∧Bld w0 b (l++[c]) w'):=by
 refine (Tryz.Builder_WriteByte w0.heap.size b _ c.toNat w h.is (by rw [Lib.byteCells_length];omega) h.cl.size).mono ?_
 rintro r w' ⟨h1,h2,h3⟩;refine ⟨h1,.inr ?_,Bld.below h.cl h3⟩;rw [Lib.byteCells_append];exact h2
theorem D7 (s:Tx) (h:Bld w0 b l w) (hl:l.length<1000000) (hs:s.length<1000000) :
  Calls G.P 118 #[.pointer (some ⟨b,0,none⟩),.string (tx s)] w (fun r w'=>r = .returned (.tuple #[.int .i64 s.length,.nilIface])∧Bld w0 b (l++s) w'):=by
 refine (Tryz.Builder_WriteString w0.heap.size b _ (tx s) w h.is (by rw [Lib.byteCells_length,C9];omega) h.cl.size).mono ?_
 rintro r w' ⟨h1,h2,h3⟩;refine ⟨by rw [h1,C9],.inr ?_,Bld.below h.cl h3⟩
 rw [Lib.byteCells_append];exact h2
theorem a1t (h:Bld w0 b l w) :
  Calls G.P 124 #[.pointer (some ⟨b,0,none⟩)] w (fun r w'=>r = .returned (s8 l)∧Cl w0 w'):=by
 refine (Tryz.Builder_String_any w0.heap.size b l w h.is h.cl.size).mono ?_;rintro r w' ⟨h1,h3⟩;exact ⟨h1,Bld.below h.cl h3⟩
theorem b9x (h:Bld w0 b l w) :
  Calls G.P 154 #[.pointer (some ⟨b,0,none⟩)] w (D5 (.int .i64 l.length) w):=by
 refine (Tryz.Builder_Len w0.heap.size b _ w h.is).mono ?_;rintro r w' ⟨h1,h3⟩;exact ⟨by rw [h1,Lib.byteCells_length],h3⟩
end bld
theorem b6l:(G.P.info? 160).bind (·.zero)=some (.agg #[.pointer none,.slice none 0 0]):=by kernel_rfl
theorem a84 (c:UInt8) (hc:c=107∨c=113) (w:World):Calls G.P 214 #[s8 [c]] w (K4 (s8 [c-32]) w):=by
 rcases hc with rfl | rfl
 ·refine zN Tryz.func214 ?_;refine zR ?_;refine a7n 2 (zR ?_);refine t7 _ b6l (zR ?_);refine o8 (b2g 1 zd (Cl.alloc w (.cells (Value.agg #[.pointer none,.slice none 0 0]).cells 160)) (Nat.le_refl _) (d8 _ _)) ?_;rintro r w1 ⟨rfl,h1⟩;refine ⟨_,rfl,?_⟩;refine zR ?_;refine a7n 2 (zR ?_);refine o8 (a1A (l:=[]) 75 h1 zd) ?_;rintro r w2 ⟨rfl,h2⟩;refine ⟨_,rfl,?_⟩;refine zR ?_;refine o8 (a1t h2) ?_;rintro r w3 ⟨rfl,c3⟩;refine ⟨_,rfl,?_⟩;refine zR ?_;exact ⟨rfl,c3⟩
 ·refine zN Tryz.func214 ?_;refine zR ?_;refine a7n 2 (zR ?_);refine t7 _ b6l (zR ?_);refine o8 (b2g 1 zd (Cl.alloc w (.cells (Value.agg #[.pointer none,.slice none 0 0]).cells 160)) (Nat.le_refl _) (d8 _ _)) ?_;rintro r w1 ⟨rfl,h1⟩;refine ⟨_,rfl,?_⟩;refine zR ?_;refine a7n 2 (zR ?_);refine o8 (a1A (l:=[]) 81 h1 zd) ?_;rintro r w2 ⟨rfl,h2⟩;refine ⟨_,rfl,?_⟩;refine zR ?_;refine o8 (a1t h2) ?_;rintro r w3 ⟨rfl,c3⟩;refine ⟨_,rfl,?_⟩;refine zR ?_;exact ⟨rfl,c3⟩
theorem a9t {n:Nat} (h:n<2^64):IntKind.u64.wrap (n:Int)=n:=by
 simp [IntKind.wrap,IntKind.bits,IntKind.signed];omega
theorem b3y (n:Nat):IntKind.u64.wrap (n:Int)=((n%2^64:Nat):Int):=by
 simp [IntKind.wrap,IntKind.bits,IntKind.signed]
theorem a1a {n:Nat} (h:n<2^64):(BitVec.ofInt 64 (n:Int)).toNat=n:=by
 rw [BitVec.ofInt_natCast,BitVec.toNat_ofNat,Nat.mod_eq_of_lt h]
theorem c0g {a b:Nat} {K:Int→Prop} (ha:a<2^64) (hb:b<2^64) (h:K ((a &&& b:Nat):Int)):∀ r:Int,r=a0f .and .u64 a b→K r:=by
 intro r hr;have e:a0f .and .u64 a b=((a &&& b:Nat):Int):=by
  show IntKind.u64.wrap ((BitVec.ofInt 64 (a:Int) &&& BitVec.ofInt 64 (b:Int)).toNat:Int)=_;rw [BitVec.toNat_and,a1a ha,a1a hb,a9t (Nat.and_lt_two_pow _ hb)]
 rw [hr,e];exact h
theorem bOr {a b:Nat} {K:Int→Prop} (ha:a<2^64) (hb:b<2^64) (h:K ((a ||| b:Nat):Int)):∀ r:Int,r=a0f .or .u64 a b→K r:=by
 intro r hr;have e:a0f .or .u64 a b=((a ||| b:Nat):Int):=by
  show IntKind.u64.wrap ((BitVec.ofInt 64 (a:Int) ||| BitVec.ofInt 64 (b:Int)).toNat:Int)=_
  rw [BitVec.toNat_or,a1a ha,a1a hb,a9t (Nat.or_lt_two_pow ha hb)]
 rw [hr,e];exact h
theorem c1F {a b:Nat} {K:Int→Prop} (ha:a<2^64) (hb:b<2^64) (h:K ((a ^^^ b:Nat):Int)):∀ r:Int,r=a0f .xor .u64 a b→K r:=by
 intro r hr;have e:a0f .xor .u64 a b=((a ^^^ b:Nat):Int):=by
  show IntKind.u64.wrap ((BitVec.ofInt 64 (a:Int) ^^^ BitVec.ofInt 64 (b:Int)).toNat:Int)=_;rw [BitVec.toNat_xor,a1a ha,a1a hb,a9t (Nat.xor_lt_two_pow ha hb)]
 rw [hr,e];exact h
theorem c2J {a:Nat} {K:Int→Prop} (ha:a<2^64) (h:K ((Bb.not a:Nat):Int)):∀ r:Int,r=a0f .xor .u64 (if IntKind.u64.signed then -1 else IntKind.u64.max) a→K r:=by
 intro r hr;have e:(if IntKind.u64.signed then -1 else IntKind.u64.max)=((2^64-1:Nat):Int):=by decide
 rw [e] at hr;refine c1F (K:=K) zd ha ?_ r hr;rw [Nat.xor_comm];exact h
theorem c0h {a:Nat} {k:Nat} {K:Int→Prop} (hk:k<64) (h:K ((Ch.shl a k:Nat):Int)):∀ r:Int,r=IntKind.u64.wrap ((a:Int)*2^(min (Int.toNat (k:Int)) IntKind.u64.bits))→K r:=by
 intro r hr;have e:(a:Int)*2^(min (Int.toNat (k:Int)) IntKind.u64.bits)=((a <<< k:Nat):Int):=by
  rw [show min (Int.toNat (k:Int)) IntKind.u64.bits=k by show min _ 64=k;rw [Int.toNat_natCast];omega,Nat.shiftLeft_eq]
  push_cast;rfl
 rw [hr,e,b3y];exact h
theorem c1G {a:Nat} {k:Nat} {K:Int→Prop} (hk:k≤64) (h:K ((a >>> k:Nat):Int)):∀ r:Int,r=Int.fdiv (a:Int) (2^(min (Int.toNat (k:Int)) IntKind.u64.bits))→K r:=by
 intro r hr;have e:Int.fdiv (a:Int) (2^(min (Int.toNat (k:Int)) IntKind.u64.bits))=((a >>> k:Nat):Int):=by
  rw [show min (Int.toNat (k:Int)) IntKind.u64.bits=k by show min _ 64=k;rw [Int.toNat_natCast];omega,Nat.shiftRight_eq_div_pow]
  rw [show (2:Int)^k=((2^k:Nat):Int) by push_cast;rfl]
  rw [Int.fdiv_eq_ediv_of_nonneg _ (Int.natCast_nonneg _)];rfl
 rw [hr,e];exact h
theorem b3z {a b:Nat} (ha:a<2^64) (hb:b<2^64):IntKind.u64.wrap ((a:Int)-b)=((Bb.sub a b:Nat):Int):=by
 unfold Bb.sub;rw [Nat.mod_eq_of_lt hb];simp [IntKind.wrap,IntKind.bits,IntKind.signed];omega
theorem b30 (a:Nat):IntKind.u64.wrap (2*(a:Int))=((2*a%2^64:Nat):Int):=by
 rw [← b3y];push_cast;rfl
class L64 (a:Nat):Prop where
 lt:a<2^64
theorem L64.of {a:Nat} [h:L64 a]:a<2^64:=h.lt
instance:L64 0:=⟨zd⟩
instance:L64 1:=⟨zd⟩
instance:L64 63:=⟨zd⟩
instance:L64 6148914691236517205:=⟨zd⟩
instance:L64 3689348814741910323:=⟨zd⟩
instance:L64 1085102592571150095:=⟨zd⟩
instance:L64 71777214294589695:=⟨zd⟩
instance:L64 281470681808895:=⟨zd⟩
instance:L64 18374403900871474942:=⟨zd⟩
instance:L64 72057594037927935:=⟨zd⟩
instance:L64 9187201950435737471:=⟨zd⟩
instance:L64 18446744073709551360:=⟨zd⟩
instance:L64 280375465082880:=⟨zd⟩
instance:L64 16711680:=⟨zd⟩
instance:L64 71776119061217280:=⟨zd⟩
instance:L64 1095216660480:=⟨zd⟩
instance:L64 4278190080:=⟨zd⟩
instance:L64 65280:=⟨zd⟩
class Sh (k:Nat):Prop where
 le:k≤63
instance:Sh 1:=⟨zd⟩
instance:Sh 2:=⟨zd⟩
instance:Sh 4:=⟨zd⟩
instance:Sh 7:=⟨zd⟩
instance:Sh 8:=⟨zd⟩
instance:Sh 9:=⟨zd⟩
instance:Sh 16:=⟨zd⟩
instance:Sh 32:=⟨zd⟩
instance andL {a b:Nat} [h:L64 a]:L64 (a &&& b):=⟨Nat.lt_of_le_of_lt Nat.and_le_left h.lt⟩
instance andR {a b:Nat} [h:L64 b]:L64 (a &&& b):=⟨Nat.and_lt_two_pow _ h.lt⟩
instance {a b:Nat} [h:L64 a] [h':L64 b]:L64 (a ||| b):=⟨Nat.or_lt_two_pow h.lt h'.lt⟩
instance {a b:Nat} [h:L64 a] [h':L64 b]:L64 (a ^^^ b):=⟨Nat.xor_lt_two_pow h.lt h'.lt⟩
instance {a:Nat} [h:L64 a]:L64 (Bb.not a):=⟨Bb.not_lt h.lt⟩
instance {a k:Nat}:L64 (Ch.shl a k):=⟨Ch.a7d a k⟩
instance {a k:Nat} [h:L64 a]:L64 (a >>> k):=⟨Ch.b5J k h.lt⟩
instance {a b:Nat}:L64 (Bb.sub a b):=⟨Nat.mod_lt _ zd⟩
instance {a:Nat}:L64 (2*a%2^64):=⟨Nat.mod_lt _ zd⟩
instance {s:Nat}:L64 (Bb.D0 s):=⟨Bb.a2N s⟩
instance {f:Nat→Bool}:L64 (Bb.bb f):=⟨Bb.O0 f⟩
theorem bA {a b:Nat} {K:Int→Prop} [ha:L64 a] [hb:L64 b] (h:K ((a &&& b:Nat):Int)):∀ r:Int,r=a0f .and .u64 a b→K r:=c0g ha.lt hb.lt h
theorem bO {a b:Nat} {K:Int→Prop} [ha:L64 a] [hb:L64 b] (h:K ((a ||| b:Nat):Int)):∀ r:Int,r=a0f .or .u64 a b→K r:=bOr ha.lt hb.lt h
theorem bX {a b:Nat} {K:Int→Prop} [ha:L64 a] [hb:L64 b] (h:K ((a ^^^ b:Nat):Int)):∀ r:Int,r=a0f .xor .u64 a b→K r:=c1F ha.lt hb.lt h
theorem bN {a:Nat} {K:Int→Prop} [ha:L64 a] (h:K ((Bb.not a:Nat):Int)):∀ r:Int,r=a0f .xor .u64 (if IntKind.u64.signed then -1 else IntKind.u64.max) a→K r:=c2J ha.lt h
theorem bB {a n:Nat} {K:Int→Prop} [ha:L64 a] [hb:L64 (OfNat.ofNat n)] (h:K ((a &&& OfNat.ofNat n:Nat):Int)):∀ r:Int,r=a0f .and .u64 a (OfNat.ofNat n)→K r:=c0g ha.lt hb.lt h
theorem bL {a n:Nat} {K:Int→Prop} [hk:Sh (OfNat.ofNat n)] (h:K ((Ch.shl a (OfNat.ofNat n):Nat):Int)):∀ r:Int,r=IntKind.u64.wrap ((a:Int)*2^(min (Int.toNat (OfNat.ofNat n)) IntKind.u64.bits))→K r:=c0h (k:=OfNat.ofNat n) (by have:=hk.le;omega) h
theorem bR {a n:Nat} {K:Int→Prop} [hk:Sh (OfNat.ofNat n)] (h:K ((a >>> (OfNat.ofNat n:Nat):Nat):Int)):∀ r:Int,r=Int.fdiv (a:Int) (2^(min (Int.toNat (OfNat.ofNat n)) IntKind.u64.bits))→K r:=c1G (k:=OfNat.ofNat n) (by have:=hk.le;omega) h
theorem a9u {a b:Nat} (h:b<2^64):a &&& b<2^64:=Nat.and_lt_two_pow _ h
theorem b6m {a b:Nat} (h:a<2^64) (h':b<2^64):a ||| b<2^64:=Nat.or_lt_two_pow h h'
theorem b6n (a:Nat):2*a%2^64<2^64:=Nat.mod_lt _ zd
theorem zI {A B:Prop} (h:B) (e:B→A:=by (intro h;(with_reducible first | refine bA ?_ | refine bB ?_ | refine bO ?_ | refine bX ?_ | refine bN ?_ | refine bL ?_ | refine bR ?_);exact h)):A:=e h
theorem zS {A B:Prop} (h:B) (e:B→A:=by (intro h;((repeat ((refine zR ?_);(with_reducible first | refine bA ?_ | refine bB ?_ | refine bO ?_ | refine bX ?_ | refine bN ?_ | refine bL ?_ | refine bR ?_)));refine zR ?_);exact h)):A:=e h
theorem a3t {x:Nat} (k m:Nat) (hm:m<2^64):L64 (Bb.Z0 x k m):=⟨b6m (a9u hm) (Ch.a7d _ _)⟩
instance rev_lt {x:Nat}:L64 (Bb.rev x):=⟨b6m (Ch.b5J _ (a3t _ _ zd).lt) (Ch.a7d _ _)⟩
theorem a5v (x V:Nat) [hx:L64 x] (hV:V=((Bb.Z0 (Bb.Z0 x 8 71777214294589695) 16 281470681808895) >>> 32 ||| Ch.shl (Bb.Z0 (Bb.Z0 x 8 71777214294589695) 16 281470681808895) 32)) (w:World):Calls G.P 320 #[.int .u64 x] w (D5 (.int .u64 V) w):=by
 refine zN Tryz.func320 ?_;(iterate 5 ((refine zR ?_);refine zI ?_))
 rw [show ((x >>> 8 &&& 71777214294589695) ||| Ch.shl (x &&& 71777214294589695) 8)=Bb.Z0 x 8 71777214294589695 from rfl]
 have hy:=a3t (x:=x) 8 71777214294589695 zd;generalize Bb.Z0 x 8 71777214294589695=y at *;(iterate 5 ((refine zR ?_);refine zI ?_))
 rw [show ((y >>> 16 &&& 281470681808895) ||| Ch.shl (y &&& 281470681808895) 16)=Bb.Z0 y 16 281470681808895 from rfl]
 have hz:=a3t (x:=y) 16 281470681808895 zd;generalize Bb.Z0 y 16 281470681808895=z at *;refine zS ?_;subst hV;exact ⟨rfl,rfl⟩
theorem c0i (x:Nat):Bb.rev x=((Bb.Z0 (Bb.Z0 (Bb.Z0 (Bb.Z0 (Bb.Z0 x 1 6148914691236517205) 2 3689348814741910323) 4 1085102592571150095) 8 71777214294589695) 16 281470681808895) >>> 32 ||| Ch.shl (Bb.Z0 (Bb.Z0 (Bb.Z0 (Bb.Z0 (Bb.Z0 x 1 6148914691236517205) 2 3689348814741910323) 4 1085102592571150095) 8 71777214294589695) 16 281470681808895) 32):=rfl
theorem b03 (x:Nat) [hx:L64 x] (w:World):Calls G.P 314 #[.int .u64 x] w (D5 (.int .u64 (Bb.rev x)) w):=by
 have hV:=c0i x;generalize Bb.rev x=V at *;refine zN Tryz.func314 ?_;(iterate 5 ((refine zR ?_);refine zI ?_))
 rw [show ((x >>> 1 &&& 6148914691236517205) ||| Ch.shl (x &&& 6148914691236517205) 1)=Bb.Z0 x 1 6148914691236517205 from rfl]
 have hy:=a3t (x:=x) 1 6148914691236517205 zd;generalize Bb.Z0 x 1 6148914691236517205=y at *;(iterate 5 ((refine zR ?_);refine zI ?_))
 rw [show ((y >>> 2 &&& 3689348814741910323) ||| Ch.shl (y &&& 3689348814741910323) 2)=Bb.Z0 y 2 3689348814741910323 from rfl]
 have hz:=a3t (x:=y) 2 3689348814741910323 zd;generalize Bb.Z0 y 2 3689348814741910323=z at *;(iterate 5 ((refine zR ?_);refine zI ?_))
 rw [show ((z >>> 4 &&& 1085102592571150095) ||| Ch.shl (z &&& 1085102592571150095) 4)=Bb.Z0 z 4 1085102592571150095 from rfl]
 have hu:=a3t (x:=z) 4 1085102592571150095 zd;generalize Bb.Z0 z 4 1085102592571150095=u at *;have c1:=fun w=>a5v u V hV w;clear hV;refine zR ?_;refine d9 (c1 _) (zR ?_);exact ⟨rfl,rfl⟩
theorem a5w (x:Nat) [hx:L64 x] (w:World):Calls G.P 304 #[.int .u64 x] w (D5 (.int .u64 (Bb.rev x)) w):=by
 refine zN Tryz.func304 ?_;refine zR ?_;refine d9 (b03 x _) ?_;generalize Bb.rev x=r;refine zR ?_;exact ⟨rfl,rfl⟩
theorem a0b (o p m:Nat) [ho:L64 o] [hp:L64 p] [hm:L64 m] (w:World):Calls G.P 283 #[.int .u64 o,.int .u64 p,.int .u64 m] w (D5 (.int .u64 (Bb.lin o p m)) w):=by
 have hL:Bb.lin o p m=((Bb.sub (o &&& m) (2*p%2^64)) ^^^ Bb.rev (Bb.sub (Bb.rev (o &&& m)) (2*Bb.rev p%2^64))) &&& m:=rfl;have c1:=fun w=>a5w (o &&& m) w;have c2:=fun w=>a5w p w;have r1:L64 (Bb.rev (o &&& m)):=rev_lt;have r2:L64 (Bb.rev p):=rev_lt;rw [hL];generalize Bb.rev (o &&& m)=R1 at *;generalize Bb.rev p=R2 at *;have e1:=b30 p;have e2:=b30 R2;have e3:=b3z (a:=o &&& m) (a9u hm.lt) (b6n p);have e4:=b3z r1.lt (b6n R2);have c3:=fun w=>a5w (Bb.sub R1 (2*R2%2^64)) w;have r3:L64 (Bb.rev (Bb.sub R1 (2*R2%2^64))):=rev_lt;generalize Bb.rev (Bb.sub R1 (2*R2%2^64))=R3 at *;refine zN Tryz.func283 ?_;refine zS ?_;simp only [e1,e3];refine d9 (c1 _) (zR ?_);refine d9 (c2 _) (zR ?_);simp only [e2,e4];refine d9 (c3 _) ?_;have s1:L64 (Bb.sub (o &&& m) (2*p%2^64)):=inferInstance;generalize Bb.sub (o &&& m) (2*p%2^64)=S1 at *;refine zS ?_;exact ⟨rfl,rfl⟩
theorem V3 {n:Int} (h0:-128≤n) (h1:n≤127):IntKind.i8.wrap n=n:=by
 unfold IntKind.wrap;simp [IntKind.bits,IntKind.signed];omega
theorem b04 {n:Int} (h0:0≤n) (h1:n≤255):IntKind.u8.wrap n=n:=by
 unfold IntKind.wrap;simp [IntKind.bits,IntKind.signed];omega
theorem b6o {n:Int} (h0:0≤n) (h1:n<18446744073709551616):IntKind.u64.wrap n=n:=by
 unfold IntKind.wrap;simp [IntKind.bits,IntKind.signed];omega
structure MB where
 f:Nat→Nat
 wk:Int
 bk:Int
def MB.set (B:MB) (i x:Nat):MB:={ B with f:=fun j=>if j=i then x else B.f j }
def mbL (B:MB):List Value:=(List.range 15).map (fun i=>Value.int .u64 (B.f i))++[.int .i8 B.wk,.int .i8 B.bk]
def mbA (B:MB):Array Value:=(mbL B).toArray
theorem a1Y (B:MB):(mbA B).size=17:=by simp [mbA,mbL]
theorem a9v (B:MB) (i:Nat) (h:i<15):(mbA B)[i]?=some (.int .u64 (B.f i)):=by
 simp only [mbA,mbL,List.getElem?_toArray];rw [List.getElem?_append_left (by simpa using h),List.getElem?_map,List.getElem?_range h];rfl
theorem c0j (B:MB):(mbA B)[15]?=some (.int .i8 B.wk):=rfl
theorem c0k (B:MB):(mbA B)[16]?=some (.int .i8 B.bk):=rfl
theorem U7 {B:MB} {w:World} {b t:Nat} {fz:Nat×Nat} (hb:w.heap[b]?=some (.cells (mbA B) t fz)) (i:Nat) (h:i<15):l8 G.P w 235 ⟨b,i,none⟩ (.int .u64 (B.f i)):=W1 hb (a9v B i h) rfl
theorem b8f {B:MB} {w:World} {b t:Nat} {fz:Nat×Nat} (hb:w.heap[b]?=some (.cells (mbA B) t fz)):l8 G.P w 138 ⟨b,15,none⟩ (.int .i8 B.wk):=W1 hb (c0j B) rfl
theorem c0l {B:MB} {w:World} {b t:Nat} {fz:Nat×Nat} (hb:w.heap[b]?=some (.cells (mbA B) t fz)):l8 G.P w 138 ⟨b,16,none⟩ (.int .i8 B.bk):=W1 hb (c0k B) rfl
theorem b8g (B:MB) (i x:Nat) (h:i<15):a4M (mbA B) i [.int .u64 x]=mbA (B.set i x):=by
 apply Array.ext_getElem?;intro k;rw [J0 _ _ _ _ (by rw [a1Y];simp;omega)]
 simp only [List.length_cons,List.length_nil];by_cases hk:k<15
 ·rw [a9v _ _ hk,a9v _ _ hk];by_cases e:k=i
  ·subst e;rw [if_pos zo];simp [MB.set]
  ·rw [if_neg zo];simp [MB.set,e]
 ·rw [if_neg zo];by_cases e:k=15
  ·subst e;rfl
  ·by_cases e2:k=16
   ·subst e2;rfl
   ·rw [Array.getElem?_eq_none (by rw [a1Y];omega),Array.getElem?_eq_none (by rw [a1Y];omega)]
structure Hd where
 cas:Tx
 half:Int
 full:Int
 turn:Int
 ep:Int
 chk:Bool
def hdL (b:Nat) (h:Hd) (cv:Value):List Value:=[.pointer (some ⟨b,0,none⟩),s8 h.cas,cv,.int .i64 h.half,.int .i64 h.full,.int .i8 h.turn,.int .i8 h.ep,.bool h.chk]
def hdA (b:Nat) (h:Hd) (cv:Value):Array Value:=(hdL b h cv).toArray
section hd
variable {b P t:Nat} {h:Hd} {cv:Value} {w:World} {fz:Nat×Nat} (hb:w.heap[P]?=some (.cells (hdA b h cv) t fz))
include hb
theorem a7o:l8 G.P w 169 ⟨P,0,none⟩ (.pointer (some ⟨b,0,none⟩)):=W1 hb rfl rfl
theorem a2X:l8 G.P w 170 ⟨P,1,none⟩ (s8 h.cas):=W1 hb rfl rfl
theorem a7p:l8 G.P w 132 ⟨P,2,none⟩ cv:=W1 hb rfl rfl
theorem a2u:l8 G.P w 3 ⟨P,3,none⟩ (.int .i64 h.half):=W1 hb rfl rfl
theorem a4F:l8 G.P w 3 ⟨P,4,none⟩ (.int .i64 h.full):=W1 hb rfl rfl
theorem a69:l8 G.P w 171 ⟨P,5,none⟩ (.int .i8 h.turn):=W1 hb rfl rfl
theorem a86:l8 G.P w 138 ⟨P,6,none⟩ (.int .i8 h.ep):=W1 hb rfl rfl
theorem b2h:l8 G.P w 4 ⟨P,7,none⟩ (.bool h.chk):=W1 hb rfl rfl
end hd
structure Nd where
 par:Value
 pos:Value
 com:Tx
 kids:Value
 tags:Nat
 mv:Mv
def ndL (d:Nd):List Value:=[d.par,d.pos,s8 [],s8 d.com,.map none,d.kids,.int .u64 0,.int .u16 d.tags,.int .i8 d.mv.fr,.int .i8 d.mv.to,.int .i8 d.mv.promo]
def F0 (d:Nd):Array Value:=(ndL d).toArray
def D3 (x:PM):Nd:=⟨.pointer none,.pointer none,[],.slice none 0 0,x.tags,x.mv⟩
def C6 (x:PM):List Value:=ndL (D3 x)
section nd
variable {M t:Nat} {d:Nd} {w:World} {fz:Nat×Nat} (hb:w.heap[M]?=some (.cells (F0 d) t fz))
include hb
theorem c0m:l8 G.P w 83 ⟨M,1,none⟩ d.pos:=W1 hb rfl rfl
theorem a9w:l8 G.P w 136 ⟨M,7,none⟩ (.int .u16 d.tags):=W1 hb rfl rfl
theorem b31:l8 G.P w 138 ⟨M,8,none⟩ (.int .i8 d.mv.fr):=W1 hb rfl rfl
theorem b32:l8 G.P w 138 ⟨M,9,none⟩ (.int .i8 d.mv.to):=W1 hb rfl rfl
theorem a7q:l8 G.P w 139 ⟨M,10,none⟩ (.int .i8 d.mv.promo):=W1 hb rfl rfl
end nd
section steps
variable {B:MB} {w:World} {b P t:Nat} {fz:Nat×Nat} {h:Hd} {cv:Value} {K:Value→Prop}
theorem kb0 (hb:w.heap[b]?=some (.cells (mbA B) t fz)) (hk:o5 (.int .u64 (B.f 0)) K):K6 G.P w 235 ⟨b,0,none⟩ (fun v=>o5 v K):=d6 _ (U7 hb 0 zd) hk
theorem qb0 (hb:w.heap[b]?=some (.cells (mbA B) t fz)) (hk:o5 (.int .u64 (B.f 0)) K):N3 G.P (Cl w) 235 ⟨b,0,none⟩ (fun v=>o5 v K):=g9 _ (fun w' hw=>U7 (hw.blk hb) 0 zd) hk
theorem kb1 (hb:w.heap[b]?=some (.cells (mbA B) t fz)) (hk:o5 (.int .u64 (B.f 1)) K):K6 G.P w 235 ⟨b,1,none⟩ (fun v=>o5 v K):=d6 _ (U7 hb 1 zd) hk
theorem qb1 (hb:w.heap[b]?=some (.cells (mbA B) t fz)) (hk:o5 (.int .u64 (B.f 1)) K):N3 G.P (Cl w) 235 ⟨b,1,none⟩ (fun v=>o5 v K):=g9 _ (fun w' hw=>U7 (hw.blk hb) 1 zd) hk
theorem kb2 (hb:w.heap[b]?=some (.cells (mbA B) t fz)) (hk:o5 (.int .u64 (B.f 2)) K):K6 G.P w 235 ⟨b,2,none⟩ (fun v=>o5 v K):=d6 _ (U7 hb 2 zd) hk
theorem qb2 (hb:w.heap[b]?=some (.cells (mbA B) t fz)) (hk:o5 (.int .u64 (B.f 2)) K):N3 G.P (Cl w) 235 ⟨b,2,none⟩ (fun v=>o5 v K):=g9 _ (fun w' hw=>U7 (hw.blk hb) 2 zd) hk
theorem kb3 (hb:w.heap[b]?=some (.cells (mbA B) t fz)) (hk:o5 (.int .u64 (B.f 3)) K):K6 G.P w 235 ⟨b,3,none⟩ (fun v=>o5 v K):=d6 _ (U7 hb 3 zd) hk
theorem qb3 (hb:w.heap[b]?=some (.cells (mbA B) t fz)) (hk:o5 (.int .u64 (B.f 3)) K):N3 G.P (Cl w) 235 ⟨b,3,none⟩ (fun v=>o5 v K):=g9 _ (fun w' hw=>U7 (hw.blk hb) 3 zd) hk
theorem kb4 (hb:w.heap[b]?=some (.cells (mbA B) t fz)) (hk:o5 (.int .u64 (B.f 4)) K):K6 G.P w 235 ⟨b,4,none⟩ (fun v=>o5 v K):=d6 _ (U7 hb 4 zd) hk
theorem qb4 (hb:w.heap[b]?=some (.cells (mbA B) t fz)) (hk:o5 (.int .u64 (B.f 4)) K):N3 G.P (Cl w) 235 ⟨b,4,none⟩ (fun v=>o5 v K):=g9 _ (fun w' hw=>U7 (hw.blk hb) 4 zd) hk
theorem kb5 (hb:w.heap[b]?=some (.cells (mbA B) t fz)) (hk:o5 (.int .u64 (B.f 5)) K):K6 G.P w 235 ⟨b,5,none⟩ (fun v=>o5 v K):=d6 _ (U7 hb 5 zd) hk
theorem qb5 (hb:w.heap[b]?=some (.cells (mbA B) t fz)) (hk:o5 (.int .u64 (B.f 5)) K):N3 G.P (Cl w) 235 ⟨b,5,none⟩ (fun v=>o5 v K):=g9 _ (fun w' hw=>U7 (hw.blk hb) 5 zd) hk
theorem kb6 (hb:w.heap[b]?=some (.cells (mbA B) t fz)) (hk:o5 (.int .u64 (B.f 6)) K):K6 G.P w 235 ⟨b,6,none⟩ (fun v=>o5 v K):=d6 _ (U7 hb 6 zd) hk
theorem qb6 (hb:w.heap[b]?=some (.cells (mbA B) t fz)) (hk:o5 (.int .u64 (B.f 6)) K):N3 G.P (Cl w) 235 ⟨b,6,none⟩ (fun v=>o5 v K):=g9 _ (fun w' hw=>U7 (hw.blk hb) 6 zd) hk
theorem kb7 (hb:w.heap[b]?=some (.cells (mbA B) t fz)) (hk:o5 (.int .u64 (B.f 7)) K):K6 G.P w 235 ⟨b,7,none⟩ (fun v=>o5 v K):=d6 _ (U7 hb 7 zd) hk
theorem qb7 (hb:w.heap[b]?=some (.cells (mbA B) t fz)) (hk:o5 (.int .u64 (B.f 7)) K):N3 G.P (Cl w) 235 ⟨b,7,none⟩ (fun v=>o5 v K):=g9 _ (fun w' hw=>U7 (hw.blk hb) 7 zd) hk
theorem kb8 (hb:w.heap[b]?=some (.cells (mbA B) t fz)) (hk:o5 (.int .u64 (B.f 8)) K):K6 G.P w 235 ⟨b,8,none⟩ (fun v=>o5 v K):=d6 _ (U7 hb 8 zd) hk
theorem qb8 (hb:w.heap[b]?=some (.cells (mbA B) t fz)) (hk:o5 (.int .u64 (B.f 8)) K):N3 G.P (Cl w) 235 ⟨b,8,none⟩ (fun v=>o5 v K):=g9 _ (fun w' hw=>U7 (hw.blk hb) 8 zd) hk
theorem kb9 (hb:w.heap[b]?=some (.cells (mbA B) t fz)) (hk:o5 (.int .u64 (B.f 9)) K):K6 G.P w 235 ⟨b,9,none⟩ (fun v=>o5 v K):=d6 _ (U7 hb 9 zd) hk
theorem qb9 (hb:w.heap[b]?=some (.cells (mbA B) t fz)) (hk:o5 (.int .u64 (B.f 9)) K):N3 G.P (Cl w) 235 ⟨b,9,none⟩ (fun v=>o5 v K):=g9 _ (fun w' hw=>U7 (hw.blk hb) 9 zd) hk
theorem c1H (hb:w.heap[b]?=some (.cells (mbA B) t fz)) (hk:o5 (.int .u64 (B.f 10)) K):K6 G.P w 235 ⟨b,10,none⟩ (fun v=>o5 v K):=d6 _ (U7 hb 10 zd) hk
theorem c2L (hb:w.heap[b]?=some (.cells (mbA B) t fz)) (hk:o5 (.int .u64 (B.f 10)) K):N3 G.P (Cl w) 235 ⟨b,10,none⟩ (fun v=>o5 v K):=g9 _ (fun w' hw=>U7 (hw.blk hb) 10 zd) hk
theorem c1I (hb:w.heap[b]?=some (.cells (mbA B) t fz)) (hk:o5 (.int .u64 (B.f 11)) K):K6 G.P w 235 ⟨b,11,none⟩ (fun v=>o5 v K):=d6 _ (U7 hb 11 zd) hk
theorem c2M (hb:w.heap[b]?=some (.cells (mbA B) t fz)) (hk:o5 (.int .u64 (B.f 11)) K):N3 G.P (Cl w) 235 ⟨b,11,none⟩ (fun v=>o5 v K):=g9 _ (fun w' hw=>U7 (hw.blk hb) 11 zd) hk
theorem c1J (hb:w.heap[b]?=some (.cells (mbA B) t fz)) (hk:o5 (.int .u64 (B.f 12)) K):K6 G.P w 235 ⟨b,12,none⟩ (fun v=>o5 v K):=d6 _ (U7 hb 12 zd) hk
theorem c2N (hb:w.heap[b]?=some (.cells (mbA B) t fz)) (hk:o5 (.int .u64 (B.f 12)) K):N3 G.P (Cl w) 235 ⟨b,12,none⟩ (fun v=>o5 v K):=g9 _ (fun w' hw=>U7 (hw.blk hb) 12 zd) hk
theorem c1K (hb:w.heap[b]?=some (.cells (mbA B) t fz)) (hk:o5 (.int .u64 (B.f 13)) K):K6 G.P w 235 ⟨b,13,none⟩ (fun v=>o5 v K):=d6 _ (U7 hb 13 zd) hk
theorem c2O (hb:w.heap[b]?=some (.cells (mbA B) t fz)) (hk:o5 (.int .u64 (B.f 13)) K):N3 G.P (Cl w) 235 ⟨b,13,none⟩ (fun v=>o5 v K):=g9 _ (fun w' hw=>U7 (hw.blk hb) 13 zd) hk
theorem c1L (hb:w.heap[b]?=some (.cells (mbA B) t fz)) (hk:o5 (.int .u64 (B.f 14)) K):K6 G.P w 235 ⟨b,14,none⟩ (fun v=>o5 v K):=d6 _ (U7 hb 14 zd) hk
theorem c2P (hb:w.heap[b]?=some (.cells (mbA B) t fz)) (hk:o5 (.int .u64 (B.f 14)) K):N3 G.P (Cl w) 235 ⟨b,14,none⟩ (fun v=>o5 v K):=g9 _ (fun w' hw=>U7 (hw.blk hb) 14 zd) hk
theorem kWk (hb:w.heap[b]?=some (.cells (mbA B) t fz)) (hk:o5 (.int .i8 B.wk) K):K6 G.P w 138 ⟨b,15,none⟩ (fun v=>o5 v K):=d6 _ (b8f hb) hk
theorem qWk (hb:w.heap[b]?=some (.cells (mbA B) t fz)) (hk:o5 (.int .i8 B.wk) K):N3 G.P (Cl w) 138 ⟨b,15,none⟩ (fun v=>o5 v K):=g9 _ (fun w' hw=>b8f (hw.blk hb)) hk
theorem kBk (hb:w.heap[b]?=some (.cells (mbA B) t fz)) (hk:o5 (.int .i8 B.bk) K):K6 G.P w 138 ⟨b,16,none⟩ (fun v=>o5 v K):=d6 _ (c0l hb) hk
theorem qBk (hb:w.heap[b]?=some (.cells (mbA B) t fz)) (hk:o5 (.int .i8 B.bk) K):N3 G.P (Cl w) 138 ⟨b,16,none⟩ (fun v=>o5 v K):=g9 _ (fun w' hw=>c0l (hw.blk hb)) hk
theorem kHb (hb:w.heap[P]?=some (.cells (hdA b h cv) t fz)) (hk:o5 (.pointer (some ⟨b,0,none⟩)) K):K6 G.P w 169 ⟨P,0,none⟩ (fun v=>o5 v K):=d6 _ (a7o hb) hk
theorem qHb (hb:w.heap[P]?=some (.cells (hdA b h cv) t fz)) (hk:o5 (.pointer (some ⟨b,0,none⟩)) K):N3 G.P (Cl w) 169 ⟨P,0,none⟩ (fun v=>o5 v K):=g9 _ (fun w' hw=>a7o (hw.blk hb)) hk
theorem b9y (hb:w.heap[P]?=some (.cells (hdA b h cv) t fz)) (hk:o5 (s8 h.cas) K):N3 G.P (Cl w) 170 ⟨P,1,none⟩ (fun v=>o5 v K):=g9 _ (fun w' hw=>a2X (hw.blk hb)) hk
theorem kHt (hb:w.heap[P]?=some (.cells (hdA b h cv) t fz)) (hk:o5 (.int .i8 h.turn) K):K6 G.P w 171 ⟨P,5,none⟩ (fun v=>o5 v K):=d6 _ (a69 hb) hk
theorem qHt (hb:w.heap[P]?=some (.cells (hdA b h cv) t fz)) (hk:o5 (.int .i8 h.turn) K):N3 G.P (Cl w) 171 ⟨P,5,none⟩ (fun v=>o5 v K):=g9 _ (fun w' hw=>a69 (hw.blk hb)) hk
theorem b2i (hb:w.heap[P]?=some (.cells (hdA b h cv) t fz)) (hk:o5 (.int .i8 h.ep) K):K6 G.P w 138 ⟨P,6,none⟩ (fun v=>o5 v K):=d6 _ (a86 hb) hk
theorem b8h (hb:w.heap[P]?=some (.cells (hdA b h cv) t fz)) (hk:o5 (.int .i8 h.ep) K):N3 G.P (Cl w) 138 ⟨P,6,none⟩ (fun v=>o5 v K):=g9 _ (fun w' hw=>a86 (hw.blk hb)) hk
theorem a7r (hb:w.heap[P]?=some (.cells (hdA b h cv) t fz)) (hk:o5 (.bool h.chk) K):K6 G.P w 4 ⟨P,7,none⟩ (fun v=>o5 v K):=d6 _ (b2h hb) hk
theorem c1M (hb:w.heap[P]?=some (.cells (hdA b h cv) t fz)) (hk:o5 (.bool h.chk) K):N3 G.P (Cl w) 4 ⟨P,7,none⟩ (fun v=>o5 v K):=g9 _ (fun w' hw=>b2h (hw.blk hb)) hk
end steps
section steps
variable {d:Nd} {w:World} {M t:Nat} {fz:Nat×Nat} {K:Value→Prop}
theorem a3C (hb:w.heap[M]?=some (.cells (F0 d) t fz)) (hk:o5 (.int .i8 d.mv.fr) K):K6 G.P w 138 ⟨M,8,none⟩ (fun v=>o5 v K):=d6 _ (b31 hb) hk
theorem a2Y (hb:w.heap[M]?=some (.cells (F0 d) t fz)) (hk:o5 (.int .i8 d.mv.fr) K):N3 G.P (Cl w) 138 ⟨M,8,none⟩ (fun v=>o5 v K):=g9 _ (fun w' hw=>b31 (hw.blk hb)) hk
theorem a5x (hb:w.heap[M]?=some (.cells (F0 d) t fz)) (hk:o5 (.int .i8 d.mv.to) K):K6 G.P w 138 ⟨M,9,none⟩ (fun v=>o5 v K):=d6 _ (b32 hb) hk
theorem a9x (hb:w.heap[M]?=some (.cells (F0 d) t fz)) (hk:o5 (.int .i8 d.mv.to) K):N3 G.P (Cl w) 138 ⟨M,9,none⟩ (fun v=>o5 v K):=g9 _ (fun w' hw=>b32 (hw.blk hb)) hk
theorem a3u (hb:w.heap[M]?=some (.cells (F0 d) t fz)) (hk:o5 (.int .i8 d.mv.promo) K):K6 G.P w 139 ⟨M,10,none⟩ (fun v=>o5 v K):=d6 _ (a7q hb) hk
theorem a6A (hb:w.heap[M]?=some (.cells (F0 d) t fz)) (hk:o5 (.int .i8 d.mv.promo) K):N3 G.P (Cl w) 139 ⟨M,10,none⟩ (fun v=>o5 v K):=g9 _ (fun w' hw=>a7q (hw.blk hb)) hk
theorem b9z (hb:w.heap[M]?=some (.cells (F0 d) t fz)) {v:Int} (hv:d.mv.fr=v) (hk:o5 (.int .i8 v) K):K6 G.P w 138 ⟨M,8,none⟩ (fun v=>o5 v K):=by subst hv;exact d6 _ (b31 hb) hk
theorem b90 (hb:w.heap[M]?=some (.cells (F0 d) t fz)) {v:Int} (hv:d.mv.to=v) (hk:o5 (.int .i8 v) K):K6 G.P w 138 ⟨M,9,none⟩ (fun v=>o5 v K):=by subst hv;exact d6 _ (b32 hb) hk
end steps
theorem c1N (k:Nat):k &&& 63=k%64:=Nat.and_two_pow_sub_one_eq_mod k 6
theorem a7s (x k:Nat) [hx:L64 x] (hk:k≤64) (w:World):Calls G.P 259 #[.int .u64 x,.int .i64 k] w (D5 (.int .u64 (Ch.shl x (k%64) ||| x >>> (64-k%64):Nat)) w):=by
 have e1:IntKind.u64.wrap (k:Int)=k:=b6o zo zo;have hk2:k%64<64:=Nat.mod_lt _ zd;have e2:IntKind.u64.wrap (64-((k%64:Nat):Int))=((64-k%64:Nat):Int):=by rw [b6o zo zo];omega
 refine zN Tryz.func259 ?_;refine zR ?_;rw [e1];refine c0g (a:=k) (b:=63) zo zd ?_;rw [c1N];generalize k%64=s at *;refine zR ?_;refine c0h zo (zR ?_);rw [e2];refine c1G zo ?_;have h1:L64 (Ch.shl x s):=inferInstance;have h2:L64 (x >>> (64-s)):=inferInstance;generalize Ch.shl x s=a at *;generalize x >>> (64-s)=b at *;refine zS ?_;exact ⟨rfl,rfl⟩
theorem b8i (x s:Nat) (hx:x<2^64) (hs:s<64):((Ch.shl x ((s+1)%64) ||| x >>> (64-(s+1)%64)) &&& 1)=if x.testBit (63-s) then 1 else 0:=by
 have h:((Ch.shl x ((s+1)%64) ||| x >>> (64-(s+1)%64)) &&& 1).testBit 0=x.testBit (63-s):=by
  rw [Nat.testBit_and,Nat.testBit_or];simp only [Ch.shl,Nat.testBit_mod_two_pow,Nat.testBit_shiftLeft,Nat.testBit_shiftRight];by_cases e:s=63
  ·subst e;simp [Nat.testBit_lt_two_pow hx]
  ·rw [Nat.mod_eq_of_lt zo];simp only [show ¬ (0≥s+1) by omega,decide_false,Bool.and_false,Bool.false_or]
   simp [show 64-(s+1)=63-s by omega]
 have h2:=Nat.and_one_is_mod (Ch.shl x ((s+1)%64) ||| x >>> (64-(s+1)%64))
 generalize hy:((Ch.shl x ((s+1)%64) ||| x >>> (64-(s+1)%64)) &&& 1)=y at *
 have hy2:y<2:=by rw [h2];exact Nat.mod_lt _ zd
 have hy3:y=0∨y=1:=by omega
 rcases hy3 with e | e
 ·subst e;simp at h;simp [← h]
 ·subst e;simp at h;simp [← h]
theorem a1u (x s:Nat) [hx:L64 x] (hs:s<64) (w:World):Calls G.P 205 #[.int .u64 x,.int .i8 s] w (D5 (.bool (x.testBit (63-s))) w):=by
 have e1:IntKind.i64.wrap (s:Int)=s:=g7 zo zo;have e2:IntKind.i64.wrap ((s:Int)+1)=((s+1:Nat):Int):=by rw [g7 zo zo];push_cast;rfl
 have hr:=b8i x s hx.lt hs;have hc:=fun w=>a7s x (s+1) zo w;have hl:L64 (Ch.shl x ((s+1)%64) ||| x >>> (64-(s+1)%64)):=inferInstance
 generalize (Ch.shl x ((s+1)%64) ||| x >>> (64-(s+1)%64))=R at *
 refine zN Tryz.func205 ?_;refine zR ?_;rw [e1,e2];refine d9 (hc _) (zR ?_);refine zI ?_;rw [hr];generalize x.testBit (63-s)=t at *;cases t<;>(refine zR ?_)<;>exact ⟨rfl,rfl⟩
theorem p8 (s:Nat) (hs:s<64) (w:World):Calls G.P 247 #[.int .i8 s] w (D5 (.int .u64 (Bb.D0 s)) w):=by
 have e1:IntKind.u8.wrap (s:Int)=s:=b04 zo zo;have e2:IntKind.u8.wrap (63-(s:Int))=((63-s:Nat):Int):=by rw [b04 zo zo];omega
 have e3:Ch.shl 1 (63-s)=Bb.D0 s:=by
  unfold Ch.shl Bb.D0;rw [Nat.one_shiftLeft,Nat.mod_eq_of_lt (Nat.pow_lt_pow_right zd zo)]
 refine zN Tryz.func247 ?_;refine zR ?_;refine E.o7 zo (zR ?_);rw [e1,e2];refine zR ?_;refine c0h (a:=1) zo ?_;rw [e3];generalize Bb.D0 s=r;refine zR ?_;exact ⟨rfl,rfl⟩
theorem a0L (s:Int) (h0:0≤s) (h1:s≤63) (w:World):Calls G.P 155 #[.int .i8 s] w (D5 (.int .i8 (s%8)) w):=by
 refine zN Tryz.func155 ?_;refine zR ?_;exact ⟨C3 (by rw [Int.tmod_eq_emod_of_nonneg h0]),rfl⟩
theorem a0w (s:Int) (h0:0≤s) (h1:s≤63) (w:World):Calls G.P 206 #[.int .i8 s] w (D5 (.int .i8 (s/8)) w):=by
 refine zN Tryz.func206 ?_;refine zR ?_;exact ⟨C3 (by rw [Int.tdiv_eq_ediv_of_nonneg h0,V3 zo zo]),rfl⟩
theorem a5V (f r:Int) (f0:0≤f) (f1:f≤7) (r0:0≤r) (r1:r≤7) (w:World):Calls G.P 167 #[.int .i8 f,.int .i8 r] w (D5 (.int .i8 (8*r+f)) w):=by
 refine zN Tryz.func167 ?_;refine zR ?_;exact ⟨C3 (by rw [V3 (n:=r*8) zo zo,V3 zo zo];omega),rfl⟩
theorem a6B (c:Int) (hc:c=1∨c=2) (w:World):Calls G.P 243 #[.int .i8 c] w (D5 (.int .i8 (3-c)) w):=by
 refine zN Tryz.func243 ?_;rcases hc with rfl | rfl<;>(refine zR ?_)<;>exact ⟨rfl,rfl⟩
theorem c0o {x:Int} (h0:0≤x) (h1:x≤12):x=0∨x=1∨x=2∨x=3∨x=4∨x=5∨x=6∨x=7∨x=8∨x=9∨x=10∨x=11∨x=12:=by omega
theorem a0C (x:Int) (h0:0≤x) (h1:x≤12) (w:World):Calls G.P 152 #[.int .i8 x] w (D5 (.int .i8 (Ch.kindOf x)) w):=by
 refine zN Tryz.func152 ?_;rcases c0o h0 h1 with rfl | rfl | rfl | rfl | rfl | rfl | rfl | rfl | rfl | rfl | rfl | rfl | rfl<;>(refine zR ?_)<;>exact ⟨rfl,rfl⟩
def colM (x:Int):Int:=if x=0 then 0 else Ch.t8 x+1
theorem a4G (x:Int) (h0:0≤x) (h1:x≤12) (w:World):Calls G.P 168 #[.int .i8 x] w (D5 (.int .i8 (colM x)) w):=by
 refine zN Tryz.func168 ?_;rcases c0o h0 h1 with rfl | rfl | rfl | rfl | rfl | rfl | rfl | rfl | rfl | rfl | rfl | rfl | rfl<;>(refine zR ?_)<;>exact ⟨rfl,rfl⟩
class MB.Ok (B:MB):Prop where
 lt:∀ i,B.f i<2^64
instance {B:MB} {i:Nat} [h:B.Ok]:L64 (B.f i):=⟨h.lt i⟩
instance {B:MB} {i x:Nat} [h:B.Ok] [h':L64 x]:(B.set i x).Ok:=⟨fun j=>by show (if j=i then x else B.f j)<_;split;exact h'.lt;exact h.lt j⟩
def MB.of (B:MB) (x:Int):Nat:=if x=0 then 0 else B.f (x.toNat-1)
instance {B:MB} {x:Int} [h:B.Ok]:L64 (B.of x):=⟨by unfold MB.of;split;decide;exact h.lt _⟩
theorem K8 (B:MB) (b:Nat) {t:Nat} {fz:Nat×Nat} (x:Int) (h0:0≤x) (h1:x≤12) (w:World) (hb:w.heap[b]?=some (.cells (mbA B) t fz)) :
  Calls G.P 204 #[.pointer (some ⟨b,0,none⟩),.int .i8 x] w (D5 (.int .u64 (B.of x)) w):=by
 refine zN Tryz.func204 ?_;rcases c0o h0 h1 with rfl | rfl | rfl | rfl | rfl | rfl | rfl | rfl | rfl | rfl | rfl | rfl | rfl
 ·refine zR ?_;exact ⟨rfl,rfl⟩
 all_goals
  refine zR ?_;refine d6 _ (U7 hb _ zd) (zR ?_);exact ⟨rfl,rfl⟩
theorem zB {A B:Prop} (h:B) (e:B→A:=by (intro h;((refine zR ?_);(repeat ((first | (with_reducible first | refine bA ?_ | refine bB ?_ | refine bO ?_ | refine bX ?_ | refine bN ?_ | refine bL ?_ | refine bR ?_) | refine kHb hP ?_ | refine kHt hP ?_ | refine b2i hP ?_ | refine a7r hP ?_ | refine a3C hM ?_ | refine a5x hM ?_ | refine a3u hM ?_ | refine kb0 hB ?_ | refine kb1 hB ?_ | refine kb2 hB ?_ | refine kb3 hB ?_ | refine kb4 hB ?_ | refine kb5 hB ?_ | refine kb6 hB ?_ | refine kb7 hB ?_ | refine kb8 hB ?_ | refine kb9 hB ?_ | refine c1H hB ?_ | refine c1I hB ?_ | refine c1J hB ?_ | refine c1K hB ?_ | refine c1L hB ?_ | refine kWk hB ?_ | refine kBk hB ?_);(refine zR ?_))));exact h)):A:=e h
theorem zQ {A B:Prop} (h:B) (e:B→A:=by (intro h;((refine zR ?_);(repeat ((first | (with_reducible first | refine bA ?_ | refine bB ?_ | refine bO ?_ | refine bX ?_ | refine bN ?_ | refine bL ?_ | refine bR ?_) | refine qHb hP ?_ | refine qHt hP ?_ | refine b8h hP ?_ | refine c1M hP ?_ | refine a2Y hM ?_ | refine a9x hM ?_ | refine a6A hM ?_ | refine qb0 hB ?_ | refine qb1 hB ?_ | refine qb2 hB ?_ | refine qb3 hB ?_ | refine qb4 hB ?_ | refine qb5 hB ?_ | refine qb6 hB ?_ | refine qb7 hB ?_ | refine qb8 hB ?_ | refine qb9 hB ?_ | refine c2L hB ?_ | refine c2M hB ?_ | refine c2N hB ?_ | refine c2O hB ?_ | refine c2P hB ?_ | refine qWk hB ?_ | refine qBk hB ?_);(refine zR ?_))));exact h)):A:=e h
theorem zH {A B:Prop} (h:B) (e:B→A:=by (intro h;((refine zG ?_);(repeat ((first | (with_reducible first | refine bA ?_ | refine bB ?_ | refine bO ?_ | refine bX ?_ | refine bN ?_ | refine bL ?_ | refine bR ?_) | refine kHb hP ?_ | refine kHt hP ?_ | refine b2i hP ?_ | refine a7r hP ?_ | refine a3C hM ?_ | refine a5x hM ?_ | refine a3u hM ?_ | refine kb0 hB ?_ | refine kb1 hB ?_ | refine kb2 hB ?_ | refine kb3 hB ?_ | refine kb4 hB ?_ | refine kb5 hB ?_ | refine kb6 hB ?_ | refine kb7 hB ?_ | refine kb8 hB ?_ | refine kb9 hB ?_ | refine c1H hB ?_ | refine c1I hB ?_ | refine c1J hB ?_ | refine c1K hB ?_ | refine c1L hB ?_ | refine kWk hB ?_ | refine kBk hB ?_);(refine zG ?_))));exact h)):A:=e h
def a1J (t:Nat):Bool:=!(Nat.beq t 173||Nat.beq t 237||Nat.beq t 141||Nat.beq t 131)
def Y2 (w:World) (g n:Nat) (f:Nat→Value):Prop:=∃ cs t fz,w.heap[g]?=some (.cells cs t fz)∧a1J t=true∧∀ i,i<n→cs[i]?=some (f i)
theorem Y2.cl {w w':World} {g n:Nat} {f:Nat→Value} (h:Y2 w g n f) (hc:Cl w w'):Y2 w' g n f:=by
 obtain ⟨cs,t,fz,h1,h2,h3⟩:=h;exact ⟨cs,t,fz,hc.blk h1,h2,h3⟩
theorem I0 {w:World} {g n i o t:Nat} {f:Nat→Value} (h:Y2 w g n f) (hi:i<n) (ho:o=i) (ht:a41 (P1 G.T t)=true):l8 G.P w t ⟨g,o,none⟩ (f i):=by
 obtain ⟨cs,u,fz,h1,h2,h3⟩:=h;subst ho;exact W1 h1 (h3 _ hi) ht
def a6q (w:World) (g o n:Nat) (f:Nat→Value):Prop:=∃ cs t fz,w.heap[g]?=some (.cells cs t fz)∧a1J t=true∧∀ i,i<n→cs[o+i]?=some (f i)
theorem a6q.cl {w w':World} {g o n:Nat} {f:Nat→Value} (h:a6q w g o n f) (hc:Cl w w'):a6q w' g o n f:=by
 obtain ⟨cs,t,fz,h1,h2,h3⟩:=h;exact ⟨cs,t,fz,hc.blk h1,h2,h3⟩
theorem a5y {w:World} {g o n i a t:Nat} {f:Nat→Value} (h:a6q w g o n f) (hi:i<n) (ha:a=E.W6 o ((i:Int)).toNat 1) (ht:a41 (P1 G.T t)=true):l8 G.P w t ⟨g,a,none⟩ (f i):=by
 obtain ⟨cs,u,fz,h1,h2,h3⟩:=h;subst ha;rw [E.z6,Int.toNat_natCast,Nat.mul_one];exact W1 h1 (h3 _ hi) ht
def a6r (w:World) (g n:Nat) (f:Nat→Value):Prop:=∃ k o c,Y2 w g 1 (fun _=>.slice (some ⟨k,o,none⟩) n c)∧a6q w k o n f
theorem a6r.cl {w w':World} {g n:Nat} {f:Nat→Value} (h:a6r w g n f) (hc:Cl w w'):a6r w' g n f:=by
 obtain ⟨k,o,c,h1,h2⟩:=h;exact ⟨k,o,c,h1.cl hc,h2.cl hc⟩
def wfenL:List Nat:=[0,75,81,82,66,78,80]
def bfenL:List Nat:=[0,107,113,114,98,110,112]
def a28 (c:Nat):Int:=if c=75 then 1 else if c=81 then 2 else if c=82 then 3 else if c=66 then 4 else if c=78 then 5 else if c=80 then 6
 else if c=107 then 7 else if c=113 then 8 else if c=114 then 9 else if c=98 then 10 else if c=110 then 11 else if c=112 then 12 else 0
structure C1 (w:World):Prop where
 dia:Y2 w 9 64 (fun i=>.int .u64 (Bb.mask 2 i))
 anti:Y2 w 10 64 (fun i=>.int .u64 (Bb.mask 3 i))
 ranks:Y2 w 11 8 (fun i=>.int .u64 (Bb.mask 0 (8*i)))
 files:Y2 w 12 8 (fun i=>.int .u64 (Bb.mask 1 i))
 kn:Y2 w 2 64 (fun i=>.int .u64 (Ch.kn i))
 kg:Y2 w 3 64 (fun i=>.int .u64 (Ch.kg i))
 all:a6r w 0 12 (fun i=>.int .i8 ((i:Int)+1))
 promo:a6r w 4 4 (fun i=>.int .i8 ((i:Int)+2))
 wfen:Y2 w 5 7 (fun i=>.int .u8 (wfenL.getD i 0))
 bfen:Y2 w 6 7 (fun i=>.int .u8 (bfenL.getD i 0))
 fen:Y2 w 8 128 (fun i=>.int .i8 (a28 i))
theorem C1.cl {w w':World} (h:C1 w) (hc:Cl w w'):C1 w' :=
 ⟨h.dia.cl hc,h.anti.cl hc,h.ranks.cl hc,h.files.cl hc,h.kn.cl hc,h.kg.cl hc,h.all.cl hc,h.promo.cl hc,h.wfen.cl hc,h.bfen.cl hc,h.fen.cl hc⟩
theorem C2 {i:Nat} (h:i<1000000):IntKind.i64.wrap ((i:Int)+1)=((i+1:Nat):Int):=by rw [g7 zo zo];push_cast;rfl
theorem J3 (t c:Int) (t1:1≤t) (t6:t≤6) (hc:c=1∨c=2) (w:World) (hT:C1 w):Calls G.P 246 #[.int .i8 t,.int .i8 c] w (D5 (.int .i8 (t+6*(c-1))) w):=by
 obtain ⟨g,og,cp,h1,h2⟩:=hT.all;refine zN Tryz.func246 ?_;refine zR ?_;refine d6 _ (I0 h1 (i:=0) zd rfl rfl) (zR ?_);refine A9 (σ:=Nat) [4,6,9] 10 (fun i=>[(9,.int .i64 i)]) (fun i w'=>i≤12∧w'=w∧(i:Int)≤t+6*(c-1)-1) (fun i=>12-i) zk 0 ⟨zo,rfl,zo⟩ ⟨rfl,trivial⟩ ?_;rintro i j w2 ⟨hi,rfl,hlt⟩;have ni:=C2 (i:=i) zo;have hi2:i<12:=by omega
 refine zR ?_;refine E.D4 zo (zR ?_);refine zC ?_;refine zR ?_;refine d6 _ (a5y h2 (i:=i) hi2 rfl rfl) (zR ?_);refine d9 (a4G _ zo zo _) ?_;have hcol:colM ((i:Int)+1)=if i<6 then 1 else 2:=by
  unfold colM Ch.t8;rw [if_neg zo];split<;>split<;>omega
 have htyp:Ch.kindOf ((i:Int)+1)=if i<6 then (i:Int)+1 else (i:Int)-5:=by
  unfold Ch.kindOf;split<;>split<;>omega
 have hty:=a0C ((i:Int)+1) zo zo w2;generalize colM ((i:Int)+1)=cc at *;generalize Ch.kindOf ((i:Int)+1)=kk at *;refine zR ?_;apply E.b7<;>intro h
 ·have e1:=h;clear h;refine zR ?_;refine d9 hty (zR ?_);apply E.b7<;>intro h
  ·refine zR ?_;refine ⟨C3 ?_,rfl⟩;split at hcol<;>split at htyp<;>omega
  ·refine zR ?_;refine ⟨i+1,⟨m7 ni,trivial⟩,⟨zo,rfl,?_⟩,zo⟩;split at hcol<;>split at htyp<;>omega
 ·refine zR ?_;refine ⟨i+1,⟨m7 ni,trivial⟩,⟨zo,rfl,?_⟩,zo⟩;split at hcol<;>omega
def MB.from (B:MB) (s:Nat):Nat→Nat→Int
 | 0,_=>0
 | n+1,x=>if (B.f x).testBit (63-s) then (x:Int)+1 else B.from s n (x+1)
def MB.at (B:MB) (s:Nat):Int:=B.from s 12 0
theorem MB.from_range (B:MB) (s:Nat):∀ n x,x+n=12→0≤B.from s n x∧B.from s n x≤12:=by
 intro n
 induction n with
 | zero=>intro x _;simp [MB.from]
 | succ n ih =>
  intro x hx;unfold MB.from;split
  ·omega
  ·exact ih (x+1) zo
theorem MB.at_range (B:MB) (s:Nat):0≤B.at s∧B.at s≤12:=MB.from_range B s 12 0 rfl
theorem W2 (B:MB) [hO:B.Ok] (b:Nat) {t:Nat} {fz:Nat×Nat} (s:Nat) (hs:s<64) (w:World) (hT:C1 w) (hb:w.heap[b]?=some (.cells (mbA B) t fz)) :
  Calls G.P 150 #[.pointer (some ⟨b,0,none⟩),.int .i8 s] w (D5 (.int .i8 (B.at s)) w):=by
 obtain ⟨g,og,cp,h1,h2⟩:=hT.all;refine zN Tryz.func150 ?_;refine zR ?_;refine d6 _ (I0 h1 (i:=0) zd rfl rfl) (zR ?_);refine A9 (σ:=Nat) [4,6,7,10] 11 (fun i=>[(10,.int .i64 i)]) (fun i w'=>i≤12∧w'=w∧B.at s=B.from s (12-i) i) (fun i=>12-i) zk 0 ⟨zo,rfl,rfl⟩ ⟨rfl,trivial⟩ ?_;rintro i j w2 ⟨hi,rfl,hat⟩;have ni:=C2 (i:=i) zo;refine zR ?_;apply E.b7<;>intro h
 ·have hi2:i<12:=by omega
  clear h;obtain ⟨k,hk⟩:∃ k,12-i=k+1:=⟨11-i,zo⟩;have hk2:12-(i+1)=k:=by omega
  rw [hk] at hat;unfold MB.from at hat;have hof:B.of ((i:Int)+1)=B.f i:=by unfold MB.of;rw [if_neg zo];congr 1
  have hc1:=fun w h=>K8 B b (t:=t) (fz:=fz) ((i:Int)+1) zo zo w h;rw [hof] at hc1;have hc2:=fun w=>a1u (B.f i) s hs w;have hX:L64 (B.f i):=inferInstance;generalize B.f i=X at *;generalize hY:X.testBit (63-s)=Y at *;refine zR ?_;refine zC ?_;refine zR ?_;refine d6 _ (a5y h2 (i:=i) hi2 rfl rfl) (zR ?_);refine d9 (hc1 _ hb) (zR ?_);refine d9 (hc2 _) ?_;cases Y
  ·refine zR ?_;exact ⟨i+1,⟨m7 ni,trivial⟩,⟨zo,rfl,by rw [hat,hk2];rfl⟩,zo⟩
  ·refine zR ?_;exact ⟨C3 (by rw [hat];rfl),rfl⟩
 ·have hi2:i=12:=by omega
  subst hi2;refine zR ?_;exact ⟨C3 (by rw [hat];rfl),rfl⟩
theorem c1O (s:Nat):Bb.mask 0 (8*(s/8))=Bb.mask 0 s:=by
 unfold Bb.mask;congr 1;funext t;simp [Bb.F5]
theorem c1P (s:Nat):Bb.mask 1 (s%8)=Bb.mask 1 s:=by
 unfold Bb.mask;congr 1;funext t;simp [Bb.F5]
instance {k s:Nat}:L64 (Bb.mask k s):=⟨Bb.O0 _⟩
instance {o p m:Nat} [h:L64 m]:L64 (Bb.lin o p m):=⟨by unfold Bb.lin;exact a9u h.lt⟩
instance {o s:Nat}:L64 (Ch.di o s):=⟨Ch.b5G _ _⟩
instance {o s:Nat}:L64 (Ch.hv o s):=⟨Ch.b5F _ _⟩
instance {s:Nat}:L64 (Ch.kn s):=⟨Bb.O0 _⟩
instance {s:Nat}:L64 (Ch.kg s):=⟨Bb.O0 _⟩
theorem a2Z (o s:Nat) [ho:L64 o] (hs:s<64) (w:World) (hT:C1 w):Calls G.P 244 #[.int .u64 o,.int .i8 s] w (D5 (.int .u64 (Ch.di o s)) w):=by
 have e:Ch.di o s=Bb.lin o (Bb.D0 s) (Bb.mask 2 s) ||| Bb.lin o (Bb.D0 s) (Bb.mask 3 s):=rfl
 have c1:=fun w=>p8 s hs w;have c2:=fun w=>a0b o (Bb.D0 s) (Bb.mask 2 s) w;have c3:=fun w=>a0b o (Bb.D0 s) (Bb.mask 3 s) w;have l2:L64 (Bb.lin o (Bb.D0 s) (Bb.mask 2 s)):=inferInstance;have l3:L64 (Bb.lin o (Bb.D0 s) (Bb.mask 3 s)):=inferInstance;have t2:=fun w (h:C1 w)=>I0 (t:=235) h.dia (o:=s) (i:=s) hs rfl rfl;have t3:=fun w (h:C1 w)=>I0 (t:=235) h.anti (o:=s) (i:=s) hs rfl rfl;rw [e];generalize Bb.lin o (Bb.D0 s) (Bb.mask 2 s)=L2 at *;generalize Bb.lin o (Bb.D0 s) (Bb.mask 3 s)=L3 at *;generalize Bb.mask 2 s=M2 at *;generalize Bb.mask 3 s=M3 at *;generalize Bb.D0 s=S at *;refine zN Tryz.func244 ?_;refine zR ?_;refine d9 (c1 _) (zR ?_);refine zC ?_;refine zR ?_;refine d6 _ (t2 _ hT) (zR ?_);refine zC ?_;refine zR ?_;refine d6 _ (t3 _ hT) (zR ?_);refine d9 (c2 _) (zR ?_);refine d9 (c3 _) (zS ?_);exact ⟨rfl,rfl⟩
theorem a4c (o s:Nat) [ho:L64 o] (hs:s<64) (w:World) (hT:C1 w):Calls G.P 245 #[.int .u64 o,.int .i8 s] w (D5 (.int .u64 (Ch.hv o s)) w):=by
 have e:Ch.hv o s=Bb.lin o (Bb.D0 s) (Bb.mask 0 s) ||| Bb.lin o (Bb.D0 s) (Bb.mask 1 s):=rfl
 have c1:=fun w=>p8 s hs w;have c2:=fun w=>a0b o (Bb.D0 s) (Bb.mask 0 s) w;have c3:=fun w=>a0b o (Bb.D0 s) (Bb.mask 1 s) w;have l2:L64 (Bb.lin o (Bb.D0 s) (Bb.mask 0 s)):=inferInstance;have l3:L64 (Bb.lin o (Bb.D0 s) (Bb.mask 1 s)):=inferInstance;have t2:=fun w (h:C1 w)=>I0 (t:=235) h.ranks (o:=s/8) (i:=s/8) zo rfl rfl;have t3:=fun w (h:C1 w)=>I0 (t:=235) h.files (o:=s%8) (i:=s%8) zo rfl rfl;have d1:((s:Int)/8)=((s/8:Nat):Int):=by omega
 have d2:((s:Int)%8)=((s%8:Nat):Int):=by omega
 have c4:=fun w=>a0w (s:Int) zo zo w;have c5:=fun w=>a0L (s:Int) zo zo w;rw [d1] at c4;rw [d2] at c5;have r8:s/8<8:=by omega
 have f8:s%8<8:=by omega
 rw [e];simp only [c1O,c1P] at t2 t3;generalize Bb.lin o (Bb.D0 s) (Bb.mask 0 s)=L2 at *;generalize Bb.lin o (Bb.D0 s) (Bb.mask 1 s)=L3 at *;generalize Bb.mask 0 s=M2 at *;generalize Bb.mask 1 s=M3 at *;generalize Bb.D0 s=S at *;generalize s/8=r at *;generalize s%8=f at *;refine zN Tryz.func245 ?_;refine zR ?_;refine d9 (c1 _) (zR ?_);refine d9 (c4 _) (zR ?_);refine zC ?_;refine zR ?_;refine d6 _ (t2 _ hT) (zR ?_);refine d9 (c5 _) (zR ?_);refine zC ?_;refine zR ?_;refine d6 _ (t3 _ hT) (zR ?_);refine d9 (c2 _) (zR ?_);refine d9 (c3 _) (zS ?_);exact ⟨rfl,rfl⟩
end
end Go.Proofs.YtpclhlhcegcflaaGreatDoor
