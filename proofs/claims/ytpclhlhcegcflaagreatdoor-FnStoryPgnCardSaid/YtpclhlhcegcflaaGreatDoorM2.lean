/- One part of the proof: Eng. -/
import Derived.Below
import Derived.OrdersHeld
import Derived.Test.YtpclhlhcegcflaaGreatDoorM1
namespace Go.Proofs.YtpclhlhcegcflaaGreatDoor
set_option linter.unusedSimpArgs false
set_option linter.unusedVariables false
section
namespace E
open Go Go.RowKit
variable {ds:List Deferred}
abbrev C8:=Nat→Value
def upd (e:C8) (d:Nat) (v:Value):C8:=fun t=>bif Nat.beq t d then v else e t
def X9 (e:C8):Option Nat→Value→C8
 | some d,v=>upd e d v
 | none,_=>e
def ev (e:C8):Operand→Value
 | .tmp t=>e t
 | .const v=>v
 | .global g=>.pointer (some ⟨g,0,none⟩)
 | .func f=>.func (.func f) #[] #[]
def s9 (a:Act):C8:=fun t=>a.tmps.getD t undef
theorem U4 (a:Act):a.eval=ev (s9 a):=by funext x;cases x<;>rfl
theorem a1w {t d:Nat} (h:t≠d):Nat.beq t d=false:=by
 cases hb:Nat.beq t d
 ·rfl
 ·exact absurd (zu hb) h
theorem a1x (e:C8) (d:Nat):upd e d (e d)=e:=by
 funext t;unfold upd;by_cases h:t=d
 ·subst h;simp
 ·rw [a1w h];rfl
theorem b71 (e:C8) (d:Nat) (v:Value):upd e d v d=v:=by simp [upd]
theorem a9y {a:Act} {d:Nat} (v:Value) (h:d<a.tmps.size):s9 (a.put (some d) v)=upd (s9 a) d v:=by
 funext t;unfold s9 upd Act.put;by_cases h1:t=d
 ·subst h1;simp [h]
 ·simp [a1w h1,yw,Array.getElem?_setIfInBounds_ne (wG h1)]
def O3 (N:Nat) (o:Oper):Bool:=match o.dst with|some d=>Nat.blt d N|none=>true
theorem a01 {a:Act} {o:Oper} (v:Value) (h:O3 a.tmps.size o=true):s9 (a.put o.dst v)=X9 (s9 a) o.dst v:=by
 unfold O3 at h;cases hd:o.dst with
 | none=>rfl
 | some d=>rw [hd] at h;simp only [Nat.blt_eq] at h;exact a9y v h
theorem a1y (a:Act) (d:Option Nat) (v:Value):(a.put d v).tmps.size=a.tmps.size:=by
 cases d<;>simp [Act.put]
theorem Y9 (a:Act) (d:Option Nat) (v:Value):(a.put d v).defers=a.defers:=by
 cases d<;>simp [Act.put]
def q8 (v:Value) (K:Value→Prop):Prop :=
 match v with
 | .int k n=>K (.int k n)
 | .bool b=>K (.bool b)
 | .string s=>K (.string s)
 | .pointer a=>K (.pointer a)
 | .slice a l c=>K (.slice a l c)
 | .agg cs=>K (.agg cs)
 | .tuple vs=>K (.tuple vs)
 | v=>K v
theorem R8 (v:Value) (K:Value→Prop):q8 v K=K v:=by cases v<;>rfl
def c2a (v:Value) (K:Array Value→Prop):Prop :=
 match v with
 | .agg cs=>K cs
 | .int k n=>K #[.int k n]
 | .bool b=>K #[.bool b]
 | .string s=>K #[.string s]
 | .pointer a=>K #[.pointer a]
 | .slice a l c=>K #[.slice a l c]
 | v=>K v.cells
theorem a7S (v:Value) (K:Array Value→Prop):c2a v K=K v.cells:=by cases v<;>rfl
inductive D where
 | int (k:IntKind)
 | bool
 | string
 | pointer
 | func
 | map
 | iface
 | slice (elem size:Nat)
 | array (len elem size:Nat)
 | struct (size:Nat) (fields:List (Nat×Nat×Nat))
 deriving Inhabited
abbrev Tab:=List (Nat×D)
def U5:Tab→Nat→Option D
 | [],_=>none
 | (s,d)::r,t=>bif Nat.beq s t then some d else U5 r t
def okD (P:Program) (t:Nat):D→Bool
 | .int k=>match P.underlying t with|some (.int k')=>decide (k'=k)|_=>false
 | .bool=>match P.underlying t with|some .bool=>true|_=>false
 | .string=>match P.underlying t with|some .string=>true|_=>false
 | .pointer=>match P.underlying t with|some (.pointer _)=>true|_=>false
 | .func=>match P.underlying t with|some (.func ..)=>true|_=>false
 | .map=>match P.underlying t with|some (.map ..)=>true|_=>false
 | .iface=>match P.underlying t with|some (.interface _)=>true|_=>false
 | .slice el z=>match P.underlying t with|some (.slice e)=>decide (e=el)&&decide ((P.info? e).map (·.size)=some z)|_=>false
 | .array n el z=>match P.underlying t with|some (.array n' e)=>decide (n'=n)&&decide (e=el)&&decide ((P.info? e).map (·.size)=some z)&&decide ((P.info? t).map (·.size)=some (n*z))|_=>false
 | .struct z fs=>match P.underlying t with
  | some (.struct f)=>decide ((P.info? t).map (·.size)=some z)&&decide (f.toList.map (fun x=>(x.type,x.offset))=fs.map fun x=>(x.1,x.2.1))&&fs.all fun x=>decide ((P.info? x.1).map (·.size)=some x.2.2)&&decide (x.2.2≠0)
  | _=>false
def Tab.Ok (T:Tab) (P:Program):Prop:=∀ t d,U5 T t=some d→okD P t d=true
theorem Tab.ok_of (T:Tab) (P:Program) (h:T.all (fun x=>okD P x.1 x.2)=true):T.Ok P:=by
 induction T with
 | nil=>intro t d h;simp [U5] at h
 | cons x r ih =>
  obtain ⟨s,dd⟩:=x;simp only [List.all_cons,zP] at h;intro t d ht;unfold U5 at ht;by_cases hs:s=t
  ·subst hs;simp at ht;subst ht;exact h.1
  ·rw [a1w hs] at ht;exact ih h.2 t d ht
section ty
variable {P:Program} {t:Nat}
theorem b48 {k} (h:okD P t (.int k)=true):P.underlying t=some (.int k):=by
 simp only [okD] at h;split at h
 ·rename_i k' e;rw [e,yB h]
 ·cases h
theorem a2G (h:okD P t .string=true):P.underlying t=some .string:=by
 simp only [okD] at h;split at h
 ·assumption
 ·cases h
theorem a3S {el z} (h:okD P t (.slice el z)=true):P.underlying t=some (.slice el)∧(P.info? el).map (·.size)=some z:=by
 simp only [okD] at h;split at h
 ·rename_i e he;simp only [zP,zW] at h;obtain ⟨rfl,h2⟩:=h;exact ⟨he,h2⟩
 ·cases h
theorem a3T {n el z} (h:okD P t (.array n el z)=true):P.underlying t=some (.array n el)∧(P.info? el).map (·.size)=some z∧(P.info? t).map (·.size)=some (n*z):=by
 simp only [okD] at h;split at h
 ·rename_i n' e he;simp only [zP,zW] at h;obtain ⟨⟨⟨rfl,rfl⟩,h2⟩,h3⟩:=h;exact ⟨he,h2,h3⟩
 ·cases h
theorem a1z {z fs} (h:okD P t (.struct z fs)=true):∃ f:Array Field,P.underlying t=some (.struct f)∧(P.info? t).map (·.size)=some z ∧
  f.toList.map (fun x=>(x.type,x.offset))=fs.map (fun x=>(x.1,x.2.1))∧∀ x∈fs,(P.info? x.1).map (·.size)=some x.2.2∧x.2.2≠0:=by
 simp only [okD] at h;split at h
 ·rename_i f he;simp only [zP,zW,zl] at h;exact ⟨f,he,h.1.1,h.1.2,h.2⟩
 ·cases h
end ty
def a02 (op:BinOp) (k:IntKind) (x y:Int):Int :=
 match op with
 | .and=>k.wrap ((BitVec.ofInt k.bits x &&& BitVec.ofInt k.bits y).toNat:Int)
 | .or=>k.wrap ((BitVec.ofInt k.bits x ||| BitVec.ofInt k.bits y).toNat:Int)
 | .xor=>k.wrap ((BitVec.ofInt k.bits x ^^^ BitVec.ofInt k.bits y).toNat:Int)
 | _=>k.wrap ((BitVec.ofInt k.bits x &&& ~~~ BitVec.ofInt k.bits y).toNat:Int)
def b49 (op:BinOp) (k:IntKind) (m n:Int) (K:Value→Prop) (F:Prop):Prop :=
 match op with
 | .add=>K (.int k (k.wrap (m+n)))
 | .sub=>K (.int k (k.wrap (m-n)))
 | .mul=>K (.int k (k.wrap (m*n)))
 | .eql=>K (.bool (decide (m=n)))
 | .neq=>K (.bool (!decide (m=n)))
 | .lss=>K (.bool (decide (m<n)))
 | .leq=>K (.bool (decide (m≤n)))
 | .gtr=>K (.bool (decide (n<m)))
 | .geq=>K (.bool (decide (n≤m)))
 | .quo=>bif decide (n=0) then F else K (.int k (k.wrap (m.tdiv n)))
 | .rem=>bif decide (n=0) then F else K (.int k (m.tmod n))
 | .and=>∀ r:Int,r=a02 .and k m n→K (.int k r)
 | .or=>∀ r:Int,r=a02 .or k m n→K (.int k r)
 | .xor=>∀ r:Int,r=a02 .xor k m n→K (.int k r)
 | .andNot=>∀ r:Int,r=a02 .andNot k m n→K (.int k r)
 | _=>F
def a7u (op:BinOp) (k:IntKind) (m n:Int) (K:Value→Prop) (F:Prop):Prop :=
 match op with
 | .shl=>bif decide (0≤n) then (∀ r:Int,r=k.wrap (m*2^(min n.toNat k.bits))→K (.int k r)) else F
 | .shr=>bif decide (0≤n) then (∀ r:Int,r=m.fdiv (2^(min n.toNat k.bits))→K (.int k r)) else F
 | _=>F
def b4A (x y:ByteArray):Bool:=decide (x.size+y.size≤9223372036854775807)
def inB (m:Int) (n:Nat):Bool:=decide (0≤m)&&decide (m<(n:Int))
theorem F2 {m:Int} {n:Nat}:inB m n=true↔0≤m∧m<(n:Int):=by simp [inB]
def b4B (op:BinOp) (x y:ByteArray) (K:Value→Prop) (F:Prop):Prop :=
 match op with
 | .add=>bif b4A x y then K (.string (x++y)) else F
 | .eql=>K (.bool (decide (x=y)))
 | .neq=>K (.bool (!decide (x=y)))
 | .lss=>K (.bool (Op.bytesLess x.toList y.toList))
 | _=>F
def b0y:BinOp→Bool
 | .shl | .shr=>true
 | _=>false
def b4C (op:BinOp) (x y:Value) (K:Value→Prop) (F:Prop):Prop :=
 match x,y with
 | .int k m,.int k' n=>bif b0y op then a7u op k m n K F else bif decide (k=k') then b49 op k m n K F else F
 | .string a,.string b=>b4B op a b K F
 | _,_=>F
def b9S (op:UnOp) (x:Value) (K:Value→Prop) (F:Prop):Prop :=
 match op,x with
 | .not,.bool b=>K (.bool (!b))
 | .neg,.int k n=>K (.int k (k.wrap (0-n)))
 | .xor,.int k n=>∀ r:Int,r=a02 .xor k (if k.signed then -1 else k.max) n→K (.int k r)
 | _,_=>F
def a7v (d:Option D) (x:Value) (f:Nat) (K:Value→Prop) (F:Prop):Prop :=
 match d,x with
 | some (.struct _ fs),.pointer (some ⟨b,n,none⟩)=>match fs[f]? with
  | some (_,off,_)=>K (.pointer (some ⟨b,bif Nat.beq off 0 then n else n+off,none⟩))
  | none=>F
 | _,_=>F
def J0 (n m z:Nat):Nat:=bif Nat.beq n 0 then (bif Nat.beq z 1 then m else m*z) else (bif Nat.beq z 1 then n+m else n+m*z)
theorem r9 (n m z:Nat):J0 n m z=n+m*z:=by
 unfold J0;by_cases h:n=0
 ·subst h;by_cases hz:z=1
  ·subst hz;simp
  ·simp [a1w hz]
 ·by_cases hz:z=1
  ·subst hz;simp [a1w h]
  ·simp [a1w h,a1w hz]
def a1R (d:Option D) (x i:Value) (K:Value→Prop) (F:Prop):Prop :=
 match d,x,i with
 | some (.array len _ z),.pointer (some ⟨b,n,none⟩),.int _ m=>bif inB m len then K (.pointer (some ⟨b,J0 n m.toNat z,none⟩)) else F
 | some (.slice _ z),.slice (some ⟨b,n,none⟩) len _,.int _ m=>bif inB m len then K (.pointer (some ⟨b,J0 n m.toNat z,none⟩)) else F
 | _,_,_=>F
def b0z (s d:Option D) (x:Value) (K:Value→Prop) (F:Prop):Prop :=
 match s,d,x with
 | some (.int _),some (.int k),.int _ n=>K (.int k (k.wrap n))
 | some .string,some .string,.string a=>K (.string a)
 | _,_,_=>F
def a7w (d:Option D) (x i:Value) (K:Value→Prop) (F:Prop):Prop :=
 match d,x,i with
 | some .string,.string s,.int _ m=>bif inB m s.size then K (.int .u8 (s.get! m.toNat).toNat) else F
 | _,_,_=>F
def b4D (d:Option D) (x:Value) (K:Value→Prop) (F:Prop):Prop :=
 match d,x with
 | some .string,.string s=>K (.int .i64 s.size)
 | some (.slice _ _),.slice _ n _=>K (.int .i64 n)
 | _,_=>F
def b73:List Value→Nat→Option Value
 | [],_=>none
 | v::_,0=>some v
 | _::r,t+1=>b73 r t
theorem b9T (l:List Value) (t:Nat):b73 l t=l[t]?:=by
 induction l generalizing t with
 | nil=>simp [b73]
 | cons v r ih=>cases t<;>simp [b73,ih]
def a4C (T:Tab) (o:Oper) (e:C8) (K:Value→Prop) (F:Prop):Prop :=
 match o.op with
 | .move x=>q8 (ev e x) K
 | .assign x=>q8 (ev e x) K
 | .pick c a b=>match ev e c with
  | .bool t=>q8 (bif t then ev e a else ev e b) K
  | _=>F
 | .binOp op _ x y _=>b4C op (ev e x) (ev e y) K F
 | .unOp op _ x=>b9S op (ev e x) K F
 | .nilCheck x=>match ev e x with
  | .pointer (some a)=>K (.pointer (some a))
  | _=>F
 | .fieldAddr s x f=>a7v (U5 T s) (ev e x) f K F
 | .indexAddr t x i=>a1R (U5 T t) (ev e x) (ev e i) K F
 | .convert s d x=>b0z (U5 T s) (U5 T d) (ev e x) K F
 | .index t x i=>a7w (U5 T t) (ev e x) (ev e i) K F
 | .extract x i=>match ev e x with
  | .tuple vs=>match b73 vs.toList i with
   | some v=>q8 v K
   | none=>F
  | _=>F
 | .call { callee:=.builtin .len,args,argTypes }=>match args.toList,argTypes.toList with
  | [x],[t]=>b4D (U5 T t) (ev e x) K F
  | _,_=>F
 | _=>F
def b74 (P:Program) (o:Oper) (e:C8) (v:Value):Prop:=∀ w,(execOp (ev e) o).run P w = .ok (.value v) w
theorem a2u {P:Program} {w:World} {s:Sem Value} {v:Value} (h:s.run P w = .ok v w):(do pure (Next.value (← s)):Sem Next).run P w = .ok (.value v) w:=by
 simp [h]
theorem run_underlying {P:Program} {w:World} {t:Nat} {d:TypeDesc} (h:P.underlying t=some d):(underlying t).run P w = .ok d w:=by
 simp [underlying,h]
theorem U6 {P:Program} {w:World} {t z:Nat} (h:(P.info? t).map (·.size)=some z):(sizeOf t).run P w = .ok z w:=by
 unfold sizeOf typeInfo;cases hi:P.info? t with
 | none=>simp [hi] at h
 | some i=>simp [hi] at h;simp [hi,h]
section sound
variable {P:Program} {T:Tab} {K:Value→Prop} {F:Prop}
theorem b1s {op:BinOp} {k:IntKind} {m n:Int} (hs:b0y op=false) (h:b49 op k m n K F) :
  (∃ v,(∀ t w,(binOp op t (.int k m) (.int k n)).run P w = .ok v w)∧K v)∨F:=by
 cases op<;>simp only [b49] at h<;>first
  | exact .inr h
  | exact absurd hs zd
  | (refine .inl ⟨_,fun t w=>?_,h⟩;simp [binOp,Op.intArith];done)
  | (refine .inl ⟨_,fun t w=>?_,h _ rfl⟩;simp [binOp,Op.intBits,a02];done)
  | (refine .inl ⟨_,fun t w=>?_,h⟩;simp [binOp,Op.intCmp];done)
  | (refine .inl ⟨_,fun t w=>?_,h⟩;simp [binOp,Op.intCmp];rfl)
  | (by_cases hz:n=0
     ·rw [zX hz] at h;exact .inr h
     ·rw [zV hz] at h;refine .inl ⟨_,fun t w=>?_,h⟩;simp [binOp,Op.intDiv,hz];done)
theorem a9k {op:BinOp} {k k':IntKind} {m n:Int} (h:a7u op k m n K F) :
  (∃ v,(∀ t w,(binOp op t (.int k m) (.int k' n)).run P w = .ok v w)∧K v)∨F:=by
 cases op<;>simp only [a7u] at h<;>first
  | exact .inr h
  | (by_cases hn:0≤n
     ·rw [zX hn] at h;refine .inl ⟨_,fun t w=>?_,h _ rfl⟩;simp [binOp,Op.shift,Int.not_lt.2 hn];done
     ·rw [zV hn] at h;exact .inr h)
theorem a3l {x y:ByteArray} (h:x.toList=y.toList):x=y:=by
 rw [ByteArray.toList_eq,ByteArray.toList_eq] at h;cases x;cases y;simp only [ByteArray.mk.injEq];exact xP.1 h
theorem b1t {op:BinOp} {x y:ByteArray} (h:b4B op x y K F) :
  (∃ v,(∀ t w,(binOp op t (.string x) (.string y)).run P w = .ok v w)∧K v)∨F:=by
 have e:(x.toList==y.toList)=decide (x=y):=by
  by_cases hxy:x=y
  ·subst hxy;simp
  ·rw [zV hxy];simp only [beq_eq_false_iff_ne];exact fun h=>hxy (a3l h)
 cases op<;>simp only [b4B] at h<;>first
  | exact .inr h
  | (refine .inl ⟨_,fun t w=>?_,h⟩;simp only [binOp,Op.stringOp,e];rfl)
  | (cases hf:b4A x y
     ·rw [hf] at h;exact .inr h
     ·rw [hf] at h;refine .inl ⟨_,fun t w=>?_,h⟩;have hm:¬ (((x.size+y.size:Nat):Int)>IntKind.i64.max):=by
        have:=yB hf;simp only [IntKind.max,IntKind.signed,IntKind.bits];simp;omega
      simp only [binOp,Op.stringOp,zJ hm];rfl)
theorem b1u {op:BinOp} {x y:Value} (h:b4C op x y K F) :
  (∃ v,(∀ t w,(binOp op t x y).run P w = .ok v w∧∀ a b,(eqGuard op t a b x y).run P w = .ok () w)∧K v)∨F:=by
 unfold b4C at h;split at h
 ·rename_i k m k' n;have g:∀ t w a b,(eqGuard op t a b (.int k m) (.int k' n)).run P w = .ok () w:=fun t w a b=>by
   unfold eqGuard;split<;>rfl
  cases hs:b0y op with
  | true =>
   rw [hs] at h;rcases a9k (P:=P) (k':=k') h with ⟨v,h1,h2⟩|h
   ·exact .inl ⟨v,fun t w=>⟨h1 t w,fun a b=>g t w a b⟩,h2⟩
   ·exact .inr h
  | false =>
   rw [hs] at h;by_cases hk:k=k'
   ·subst hk;simp only [decide_true,cond_true,cond_false] at h;rcases b1s (P:=P) hs h with ⟨v,h1,h2⟩|h
    ·exact .inl ⟨v,fun t w=>⟨h1 t w,fun a b=>g t w a b⟩,h2⟩
    ·exact .inr h
   ·rw [zV hk] at h;exact .inr h
 ·rename_i x y;rcases b1t (P:=P) h with ⟨v,h1,h2⟩|h
  ·exact .inl ⟨v,fun t w=>⟨h1 t w,fun a b=>by unfold eqGuard;split<;>rfl⟩,h2⟩
  ·exact .inr h
 ·exact .inr h
theorem b3j {op:UnOp} {x:Value} (h:b9S op x K F):(∃ v,(∀ w,(Op.unary op x).run P w = .ok v w)∧K v)∨F:=by
 unfold b9S at h;split at h
 ·exact .inl ⟨_,fun w=>rfl,h⟩
 ·refine .inl ⟨_,fun w=>?_,h⟩;simp [Op.unary,Op.intArith]
 ·refine .inl ⟨_,fun w=>?_,h _ rfl⟩;simp [Op.unary,Op.intBits,a02]
 ·exact .inr h
theorem a9l (hT:T.Ok P) {s f:Nat} {x:Value} (h:a7v (U5 T s) x f K F):(∃ v,(∀ w,(Instr.fieldAt s x f).run P w = .ok v w)∧K v)∨F:=by
 unfold a7v at h;split at h
 ·rename_i z fs b n hd;split at h
  ·rename_i ty off sz hf;refine .inl ⟨_,fun w=>?_,h⟩;obtain ⟨fa,hu,hz,hm,hall⟩:=a1z (hT _ _ hd);obtain ⟨h1,h2⟩:=hall _ (yg hf);have hfa:(fa.toList.map (fun x=>(x.type,x.offset)))[f]?=some (ty,off):=by rw [hm];simp [hf]
   simp only [List.getElem?_map,xB] at hfa;cases hff:fa[f]? with
   | none=>rw [hff] at hfa;simp at hfa
   | some fl =>
    rw [hff] at hfa;simp only [wM,x7,Prod.mk.injEq] at hfa;obtain ⟨rfl,rfl⟩:=hfa;unfold Instr.fieldAt;simp only [yj,run_underlying hu,yp,hff,Instr.sureAddr,xY,fieldPlace,U6 h1];rw [Sem.run_ite,zJ h2];simp only [xY,yp,Addr.add];by_cases h0:fl.offset=0
    ·simp [h0]
    ·simp [h0,a1w h0]
  ·exact .inr h
 ·exact .inr h
theorem E3 (b n m:Nat):(⟨b,n,none⟩:Addr).add m=⟨b,n+m,none⟩:=by
 unfold Addr.add;split
 ·rename_i h;subst h;rfl
 ·rfl
theorem a5k (hT:T.Ok P) {t:Nat} {x i:Value} (h:a1R (U5 T t) x i K F):(∃ v,(∀ w,(Instr.indexAt t x i).run P w = .ok v w)∧K v)∨F:=by
 unfold a1R at h;split at h
 ·rename_i len el z b n k m hd;obtain ⟨h1,h2,_⟩:=a3T (hT _ _ hd);cases hb:inB m len
  ·rw [hb] at h;exact .inr h
  ·rw [hb] at h;refine .inl ⟨_,fun w=>?_,h⟩;unfold Instr.indexAt;simp [asIntOf,run_underlying h1,Instr.sureAddr,F2.1 hb,U6 h2,E3,r9]
 ·rename_i el z b n len c k m hd;obtain ⟨h1,h2⟩:=a3S (hT _ _ hd);cases hb:inB m len
  ·rw [hb] at h;exact .inr h
  ·rw [hb] at h;refine .inl ⟨_,fun w=>?_,h⟩;unfold Instr.indexAt;simp [asIntOf,run_underlying h1,F2.1 hb,U6 h2,E3,r9]
 ·exact .inr h
theorem b00 (hT:T.Ok P) {s d:Nat} {x:Value} (h:b0z (U5 T s) (U5 T d) x K F):(∃ v,(∀ w,(convert s d x).run P w = .ok v w)∧K v)∨F:=by
 unfold b0z at h;split at h
 ·rename_i k0 k k1 n hs hd;refine .inl ⟨_,fun w=>?_,h⟩;unfold convert;simp [run_underlying (b48 (hT _ _ hs)),run_underlying (b48 (hT _ _ hd)),Conv.intToInt]
 ·rename_i a hs hd;refine .inl ⟨_,fun w=>?_,h⟩;unfold convert;simp [run_underlying (a2G (hT _ _ hs)),run_underlying (a2G (hT _ _ hd))]
 ·exact .inr h
theorem a9m (hT:T.Ok P) {t:Nat} {x i:Value} (h:a7w (U5 T t) x i K F):(∃ v,(∀ w,(Instr.index t x i).run P w = .ok v w)∧K v)∨F:=by
 unfold a7w at h;split at h
 ·rename_i s k m hd;cases hb:inB m s.size
  ·rw [hb] at h;exact .inr h
  rw [hb] at h;have hb':=F2.1 hb;refine .inl ⟨_,fun w=>?_,h⟩;unfold Instr.index;have hm:m.toNat<s.size:=by omega
  have e:s[m.toNat]?=some (s.get! m.toNat):=by
   rw [getElem?_pos s m.toNat hm];congr 1;show s.data[m.toNat]=s.data[m.toNat]!;rw [getElem!_pos s.data m.toNat hm]
  simp [asIntOf,run_underlying (a2G (hT _ _ hd)),hb'.1,e]
 ·exact .inr h
theorem b1v (hT:T.Ok P) {t:Nat} {x:Value} (h:b4D (U5 T t) x K F):(∃ v,(∀ ty w,(Builtin.len_ #[t] ty #[x]).run P w = .ok v w)∧K v)∨F:=by
 unfold b4D at h;split at h
 ·rename_i s hd;refine .inl ⟨_,fun ty w=>?_,h⟩;unfold Builtin.len_;simp [run_underlying (a2G (hT _ _ hd)),goInt]
 ·rename_i el z a n c hd;refine .inl ⟨_,fun ty w=>?_,h⟩;unfold Builtin.len_;simp [run_underlying (a3S (hT _ _ hd)).1,goInt]
 ·exact .inr h
theorem a2v {o:Oper} {e:C8} {s:Sem Value} {v:Value} (h:∀ w,s.run P w = .ok v w) (he:execOp (ev e) o=(do pure (Next.value (← s)))):b74 P o e v :=
 fun w=>by rw [he];exact a2u (h w)
theorem a1b (hT:T.Ok P) {o:Oper} {e:C8} (h:a4C T o e K F):(∃ v,b74 P o e v∧K v)∨F:=by
 obtain ⟨dst,op,type,pos,after,guard⟩:=o;unfold a4C at h;split at h<;>(try (rename_i ho;simp only at ho;subst ho))
 ·rw [R8] at h;exact .inl ⟨_,fun w=>rfl,h⟩
 ·rw [R8] at h;exact .inl ⟨_,fun w=>rfl,h⟩
 ·rename_i c a b;split at h
  ·rename_i t ht;rw [R8] at h;refine .inl ⟨_,fun w=>?_,h⟩;cases t<;>simp [execOp,ht,asBool]
  ·exact .inr h
 ·rcases b1u (P:=P) h with ⟨v,h1,h2⟩|h
  ·refine .inl ⟨v,fun w=>?_,h2⟩;simp [execOp,(h1 _ w).1,(h1 _ w).2]
  ·exact .inr h
 ·rcases b3j (P:=P) h with ⟨v,h1,h2⟩|h
  ·exact .inl ⟨v,a2v h1 rfl,h2⟩
  ·exact .inr h
 ·split at h
  ·rename_i a ha;refine .inl ⟨_,fun w=>?_,h⟩;simp [execOp,ha]
  ·exact .inr h
 ·rcases a9l hT h with ⟨v,h1,h2⟩|h
  ·exact .inl ⟨v,a2v h1 rfl,h2⟩
  ·exact .inr h
 ·rcases a5k hT h with ⟨v,h1,h2⟩|h
  ·exact .inl ⟨v,a2v h1 rfl,h2⟩
  ·exact .inr h
 ·rcases b00 hT h with ⟨v,h1,h2⟩|h
  ·exact .inl ⟨v,a2v h1 rfl,h2⟩
  ·exact .inr h
 ·rcases a9m hT h with ⟨v,h1,h2⟩|h
  ·exact .inl ⟨v,a2v h1 rfl,h2⟩
  ·exact .inr h
 ·rename_i x i;split at h
  ·rename_i vs hvs;split at h
   ·rename_i v hv;rw [R8] at h;refine .inl ⟨v,fun w=>?_,h⟩;rw [b9T,xB] at hv;simp [execOp,hvs,Instr.extract,hv]
   ·exact .inr h
  ·exact .inr h
 ·rename_i args argTypes;split at h
  ·rename_i x t hx ht;rcases b1v (P:=P) hT h with ⟨v,h1,h2⟩|h
   ·refine .inl ⟨v,fun w=>?_,h2⟩;have e1:args=#[x]:=xP.1 hx;have e2:argTypes=#[t]:=xP.1 ht;subst e1;subst e2;simp [execOp,resolve,invoke,builtin,h1]
   ·exact .inr h
  ·exact .inr h
 ·exact .inr h
end sound
def g8 (P:Program) (w:World) (t:Nat) (a:Addr) (v:Value):Prop:=(Instr.loadAt t (.pointer (some a))).run P w = .ok v w
def a7T (P:Program) (w:World) (t:Nat) (a:Addr) (v:Value) (w':World):Prop:=(Instr.storeAt t (.pointer (some a)) v).run P w = .ok () w'
structure N1 (P:Program) (w:World) (t:Nat) (a:Addr) (K:Value→Prop):Prop where
 ex:∃ v,g8 P w t a v∧K v
structure a0i (P:Program) (w:World) (t:Nat) (a:Addr) (v:Value) (K:World→Prop):Prop where
 ex:∃ w',a7T P w t a v w'∧K w'
structure b1w (P:Program) (f:Nat) (args:Array Value) (w:World) (K:Value→World→Prop):Prop where
 ex:Calls P f args w (fun r w'=>∃ v,r = .returned v∧K v w')
structure H4 (P:Program) (o:Oper) (e:C8) (w:World) (K:Value→World→Prop):Prop where
 ex:(∃ v w',(execOp (ev e) o).run P w = .ok (.value v) w'∧K v w')∨(∃ w',(execOp (ev e) o).run P w = .ok .skip w'∧K undef w') ∨
  (∃ f as,(execOp (ev e) o).run P w = .ok (.enter f as) w∧Calls P f as w (fun r w'=>∃ v,r = .returned v∧K v w'))
structure O8 (P:Program) (C:World→Prop) (t:Nat) (a:Addr) (K:Value→Prop):Prop where
 ex:∃ v,(∀ w,C w→g8 P w t a v)∧K v
structure b4E (P:Program) (C:World→Prop) (f:Nat) (args:Array Value) (K:Value→Prop):Prop where
 ex:∃ v,(∀ w,C w→Calls P f args w (fun r w'=>r = .returned v∧C w'))∧K v
structure b1x (P:Program) (C:World→Prop) (o:Oper) (e:C8) (K:Value→Prop):Prop where
 ex:∃ v,(∀ w,C w→(execOp (ev e) o).run P w = .ok (.value v) w)∧K v
structure Prg where
 P:Program
 T:Tab
 fn:Nat→Bool
 tab:T.Ok P
 mixed:P.follows .mixedOrders=true
 enters:∀ f,fn f=true→∃ x,P.funcs[f]?=some x∧x.body.isSome=true∧x.name ≠ "runtime.NumGoroutine"
def b3k (G:Prg) (o:Oper) (e:C8) (w:World) (K:Value→World→Prop):Prop :=
 a4C G.T o e (fun v=>K v w) (match o.op with
  | .load t x=>match ev e x with
   | .pointer (some a)=>N1 G.P w t a (fun v=>q8 v fun v=>K v w)
   | _=>False
  | .store t x y=>match ev e x with
   | .pointer (some a)=>a0i G.P w t a (ev e y) (fun w'=>K undef w')
   | _=>False
  | .box t x=>c2a (ev e x) (fun cs=>K (.pointer (some ⟨w.heap.size,0,none⟩)) (w.alloc (.cells cs t)))
  | .call { callee:=.value (.func f),args,.. }=>bif G.fn f then b1w G.P f (args.toList.map (ev e)).toArray w K else False
  | _=>H4 G.P o e w K)
def a5l (G:Prg) (C:World→Prop) (o:Oper) (e:C8) (K:Value→Prop):Prop :=
 a4C G.T o e K (match o.op with
  | .load t x=>match ev e x with
   | .pointer (some a)=>O8 G.P C t a (fun v=>q8 v K)
   | _=>False
  | .call { callee:=.value (.func f),args,.. }=>bif G.fn f then b4E G.P C f (args.toList.map (ev e)).toArray (fun v=>q8 v K) else False
  | _=>b1x G.P C o e K)
section
variable {G:Prg} {o:Oper} {e:C8}
theorem a9z {f:Nat} {args:Array Operand} {argTypes:Array Nat} {dst:Option Tmp} {type:Nat} {pos:String} {after:Array Edge} {guard:Option (Nat×Bool)} (hf:G.fn f=true) (w:World) :
  (execOp (ev e) { dst,op:=.call { callee:=.value (.func f),args,argTypes },type,pos,after,guard }).run G.P w = .ok (.enter f (args.toList.map (ev e)).toArray) w:=by
 obtain ⟨x,h1,h2,h3⟩:=G.enters f hf;have e1:(args.toList.map (ev e)).toArray=args.map (ev e):=by cases args;simp
 rw [e1];simp [execOp,resolve,ev,Deferred.ofValue,invoke,callFunc,h1,h3];cases hb:x.body with
 | none=>rw [hb] at h2;cases h2
 | some c=>simp
theorem a03 {w:World} {K:Value→World→Prop} {Q:Exit→Act→World→Prop} {next:Act→World→Prop} {a:Act} (ha:s9 a=e)
  (hK:∀ v w',K v w'→next (a.put o.dst v) w') (h:b3k G o e w K):o.wp G.P a w next Q:=by
 have he:a.eval=ev e:=by rw [U4,ha]
 unfold Oper.wp;rw [he];rcases a1b G.tab h with ⟨v,h1,h2⟩|hh
 ·rw [h1 w];exact hK _ _ h2
 ·clear h;have h:=hh;clear hh;obtain ⟨dst,op,type,pos,after,guard⟩:=o;split at h
  ·rename_i t x ho;simp only at ho;subst ho;split at h
   ·rename_i ad hx;obtain ⟨v,h1,h2⟩:=h.ex;rw [R8] at h2;have e1:(execOp (ev e) { dst,op:=.load t x,type,pos,after,guard }).run G.P w = .ok (.value v) w:=by
     show (do pure (Next.value (← Instr.loadAt t (ev e x))):Sem Next).run G.P w=_
     rw [hx];exact a2u h1
    rw [e1];exact hK _ _ h2
   ·exact h.elim
  ·rename_i t x y ho;simp only at ho;subst ho;split at h
   ·rename_i ad hx;obtain ⟨w',h1,h2⟩:=h.ex;have e1:(execOp (ev e) { dst,op:=.store t x y,type,pos,after,guard }).run G.P w = .ok .skip w':=by
     show (do Instr.storeAt t (ev e x) (ev e y);pure Next.skip:Sem Next).run G.P w=_
     rw [hx];have:=h1;unfold a7T at this;simp [this]
    rw [e1];exact hK _ _ h2
   ·exact h.elim
  ·rename_i t x ho;simp only at ho;subst ho;rw [a7S] at h;exact hK _ _ h
  ·rename_i f args argTypes ho;simp only at ho;subst ho;cases hf:G.fn f
   ·rw [hf] at h;exact h.elim
   ·rw [hf] at h;rw [a9z hf];exact h.ex.mono fun r w' ⟨v,hr,hk⟩=>by subst hr;exact hK _ _ hk
  ·rcases h.ex with ⟨v,w',h1,h2⟩|⟨w',h1,h2⟩|⟨f,as,h1,h2⟩
   ·rw [h1];exact hK _ _ h2
   ·rw [h1];exact hK _ _ h2
   ·rw [h1];exact h2.mono fun r w' ⟨v,hr,hk⟩=>by subst hr;exact hK _ _ hk
theorem a3m {C:World→Prop} {K:Value→Prop} {next:Act→Prop} {a:Act} (ha:s9 a=e)
  (hK:∀ v,K v→next (a.put o.dst v)) (h:a5l G C o e K):o.quiet G.P a C next:=by
 have he:a.eval=ev e:=by rw [U4,ha]
 unfold Oper.quiet Oper.quietAt;rw [he];rcases a1b G.tab h with ⟨v,h1,h2⟩|hh
 ·exact ⟨v,fun w _=>by rw [h1 w];exact ⟨rfl,rfl⟩,hK _ h2⟩
 ·clear h;have h:=hh;clear hh;obtain ⟨dst,op,type,pos,after,guard⟩:=o;split at h
  ·rename_i t x ho;simp only at ho;subst ho;split at h
   ·rename_i ad hx;obtain ⟨v,h1,h2⟩:=h.ex;rw [R8] at h2;refine ⟨v,fun w hw=>?_,hK _ h2⟩;have e1:(execOp (ev e) { dst,op:=.load t x,type,pos,after,guard }).run G.P w = .ok (.value v) w:=by
     show (do pure (Next.value (← Instr.loadAt t (ev e x))):Sem Next).run G.P w=_
     rw [hx];exact a2u (h1 w hw)
    rw [e1];exact ⟨rfl,rfl⟩
   ·exact h.elim
  ·rename_i f args argTypes ho;simp only at ho;subst ho;cases hf:G.fn f
   ·rw [hf] at h;exact h.elim
   ·rw [hf] at h;obtain ⟨v,h1,h2⟩:=h.ex;rw [R8] at h2;refine ⟨v,fun w hw=>?_,hK _ h2⟩;rw [a9z hf];exact ⟨rfl,h1 w hw⟩
  ·obtain ⟨v,h1,h2⟩:=h.ex;exact ⟨v,fun w hw=>by rw [h1 w hw];exact ⟨rfl,rfl⟩,hK _ h2⟩
end
def a2H:List Oper→Nat→Option Nat
 | [],_=>none
 | o::_,0=>o.dst
 | _::r,j+1=>a2H r j
theorem b5C (ops:List Oper) (j:Nat):a2H ops j=(ops[j]?).bind (·.dst):=by
 induction ops generalizing j with
 | nil=>simp [a2H]
 | cons o r ih=>cases j<;>simp [a2H,ih]
def isB (v:Value):Option Bool:=match v with | .bool b=>some b|_=>none
def a3U (G:Prg) (ops:List Oper) (o:Oper) (ih:C8→World→(C8→World→Prop)→Prop) (e:C8) (w:World) (K:C8→World→Prop):Prop :=
 match o.guard with
 | none=>b3k G o e w (fun v w'=>ih (X9 e o.dst v) w' K)
 | some (j,want)=>match a2H ops j with
  | none=>ih (X9 e o.dst undef) w K
  | some dj=>match e dj with
   | .bool b=>match want with
    | true=>bif b
     then b3k G o (upd e dj (.bool true)) w (fun v w'=>ih (X9 (upd e dj (.bool true)) o.dst v) w' K)
     else ih (X9 (upd e dj (.bool false)) o.dst undef) w K
    | false=>bif b
     then ih (X9 (upd e dj (.bool true)) o.dst undef) w K
     else b3k G o (upd e dj (.bool false)) w (fun v w'=>ih (X9 (upd e dj (.bool false)) o.dst v) w' K)
   | _=>ih (X9 e o.dst undef) w K
noncomputable def U7 (G:Prg) (ops:List Oper) (l:List Oper):C8→World→(C8→World→Prop)→Prop :=
 List.rec (motive:=fun _=>C8→World→(C8→World→Prop)→Prop) (fun e w K=>K e w) (fun o _ ih=>a3U G ops o ih) l
theorem a4D {G:Prg} {ops:List Oper} {o:Oper} {rest:List Oper} {e:C8} {w:World} {K:C8→World→Prop} :
  U7 G ops (o::rest) e w K=a3U G ops o (U7 G ops rest) e w K:=rfl
def a90 (G:Prg) (C:World→Prop) (ops:List Oper) (o:Oper) (ih:C8→(C8→Prop)→Prop) (e:C8) (K:C8→Prop):Prop :=
 match o.guard with
 | none=>a5l G C o e (fun v=>ih (X9 e o.dst v) K)
 | some (j,want)=>match a2H ops j with
  | none=>ih (X9 e o.dst undef) K
  | some dj=>match e dj with
   | .bool b=>match want with
    | true=>bif b
     then a5l G C o (upd e dj (.bool true)) (fun v=>ih (X9 (upd e dj (.bool true)) o.dst v) K)
     else ih (X9 (upd e dj (.bool false)) o.dst undef) K
    | false=>bif b
     then ih (X9 (upd e dj (.bool true)) o.dst undef) K
     else a5l G C o (upd e dj (.bool false)) (fun v=>ih (X9 (upd e dj (.bool false)) o.dst v) K)
   | _=>ih (X9 e o.dst undef) K
noncomputable def vcQ (G:Prg) (C:World→Prop) (ops:List Oper) (l:List Oper):C8→(C8→Prop)→Prop :=
 List.rec (motive:=fun _=>C8→(C8→Prop)→Prop) (fun e K=>K e) (fun o _ ih=>a90 G C ops o ih) l
theorem a3n {G:Prg} {C:World→Prop} {ops:List Oper} {o:Oper} {rest:List Oper} {e:C8} {K:C8→Prop} :
  vcQ G C ops (o::rest) e K=a90 G C ops o (vcQ G C ops rest) e K:=rfl
theorem S7 {b:Bool} {A B:Prop} (h1:b=true→A) (h2:b=false→B):bif b then A else B:=by
 cases b
 ·exact h2 rfl
 ·exact h1 rfl
theorem b9 {p:Prop} [Decidable p] {A B:Prop} (h1:p→A) (h2:¬ p→B):bif decide p then A else B:=by
 by_cases h:p
 ·rw [zX h];exact h1 h
 ·rw [zV h];exact h2 h
theorem y6 {p:Prop} [Decidable p] {A B:Prop} (h1:¬ p→A) (h2:p→B):bif !decide p then A else B:=by
 by_cases h:p
 ·rw [zX h];exact h2 h
 ·rw [zV h];exact h1 h
theorem z6 {p:Prop} [Decidable p] {A B:Prop} (h:p) (h1:A):bif decide p then A else B:=by rw [zX h];exact h1
theorem p9 {p:Prop} [Decidable p] {A B:Prop} (h:¬ p) (h1:B):bif decide p then A else B:=by rw [zV h];exact h1
theorem A8 {b:Bool} {A B:Prop} (h:b=true) (h1:A):bif b then A else B:=by rw [h];exact h1
section
variable {G:Prg} {ops:List Oper}
theorem b1y {a:Act} {j:Nat} (hN:ops.all (O3 a.tmps.size)=true) :
  yielded ops.toArray a.tmps j=match a2H ops j with|none=>none|some dj=>isB (s9 a dj):=by
 unfold yielded;rw [b5C];simp only [List.getElem?_toArray];cases ho:ops[j]? with
 | none=>rfl
 | some o =>
  simp only [xp];cases hd:o.dst with
  | none=>rfl
  | some d =>
   have h1:=zl.1 hN o (yg ho);simp only [O3,hd,Nat.blt_eq] at h1;simp only [xp,s9,yw];rw [wJ h1];simp only [Option.getD_some];cases a.tmps[d]<;>rfl
def F7 (ops:List Oper) (e:C8) (o:Oper):Bool :=
 match o.guard with
 | none=>true
 | some (j,want)=>match a2H ops j with
  | none=>false
  | some dj=>match isB (e dj) with
   | some b=>bif want then b else !b
   | none=>false
theorem Z0 {a:Act} {o:Oper} (hN:ops.all (O3 a.tmps.size)=true) :
  Region.wanted o (yielded ops.toArray a.tmps)=F7 ops (s9 a) o:=by
 unfold Region.wanted F7;cases o.guard with
 | none=>rfl
 | some g =>
  obtain ⟨j,want⟩:=g;simp only [b1y hN];cases a2H ops j with
  | none=>rfl
  | some dj =>
   simp only
   cases isB (s9 a dj) with
   | none=>rfl
   | some b=>cases b<;>cases want<;>rfl
theorem a6E {Q:Exit→Act→World→Prop} {K:C8→World→Prop} {N:Nat} (hN:ops.all (O3 N)=true) :
  ∀ (l:List Oper) (a:Act) (w:World),l.all (O3 N)=true→a.tmps.size=N→a.defers=ds →
   (∀ a' w',a'.tmps.size=N→a'.defers=ds→K (s9 a') w'→Q .normal a' w')→U7 G ops l (s9 a) w K→wpList G.P ops.toArray Q l a w:=by
 intro l
 induction l with
 | nil=>intro a w _ hs hd hQ h;exact hQ a w hs hd h
 | cons o rest ih =>
  intro a w hl hs hd hQ h;simp only [List.all_cons,zP] at hl;have hN':ops.all (O3 a.tmps.size)=true:=by rw [hs];exact hN
  have hput:∀ v,s9 (a.put o.dst v)=X9 (s9 a) o.dst v:=fun v=>a01 v (by rw [hs];exact hl.1)
  have next:∀ v w',U7 G ops rest (X9 (s9 a) o.dst v) w' K→wpList G.P ops.toArray Q rest (a.put o.dst v) w':=fun v w' h' =>
   ih (a.put o.dst v) w' hl.2 (by rw [a1y,hs]) (by rw [Y9,hd]) hQ (by rw [hput];exact h')
  unfold wpList;rw [Z0 hN'];rw [a4D] at h;unfold a3U at h;split at h
  ·rename_i hg;rw [zM (by simp [F7,hg])]
   exact .inl (a03 rfl next h)
  ·rename_i j want hg;split at h
   ·rename_i hj;rw [zJ (by simp [F7,hg,hj])]
    exact next _ _ h
   ·rename_i dj hj;split at h
    ·rename_i b hb;have same:upd (s9 a) dj (.bool b)=s9 a:=by rw [← hb];exact a1x _ _
     cases want<;>cases b<;>simp only [cond_true,cond_false] at h<;>rw [same] at h
     ·rw [zM (by simp [F7,hg,hj,hb,isB])];exact .inl (a03 rfl next h)
     ·rw [zJ (by simp [F7,hg,hj,hb,isB])];exact next _ _ h
     ·rw [zJ (by simp [F7,hg,hj,hb,isB])];exact next _ _ h
     ·rw [zM (by simp [F7,hg,hj,hb,isB])];exact .inl (a03 rfl next h)
    ·rename_i hnb;have hv:isB (s9 a dj)=none:=by
      cases hx:s9 a dj<;>first|rfl|exact absurd hx (hnb _)
     rw [zJ (by simp [F7,hg,hj,hv])]
     exact next _ _ h
theorem a91 {C:World→Prop} {K:C8→Prop} {Q:Act→Prop} {N:Nat} (hN:ops.all (O3 N)=true) :
  ∀ (l:List Oper) (a:Act),l.all (O3 N)=true→a.tmps.size=N→a.defers=ds →
   (∀ a',a'.tmps.size=N→a'.defers=ds→K (s9 a')→Q a')→vcQ G C ops l (s9 a) K→wpQuiet G.P ops.toArray C Q l a:=by
 intro l
 induction l with
 | nil=>intro a _ hs hd hQ h;exact hQ a hs hd h
 | cons o rest ih =>
  intro a hl hs hd hQ h;simp only [List.all_cons,zP] at hl;have hN':ops.all (O3 a.tmps.size)=true:=by rw [hs];exact hN
  have hput:∀ v,s9 (a.put o.dst v)=X9 (s9 a) o.dst v:=fun v=>a01 v (by rw [hs];exact hl.1)
  have next:∀ v,vcQ G C ops rest (X9 (s9 a) o.dst v) K→wpQuiet G.P ops.toArray C Q rest (a.put o.dst v):=fun v h' =>
   ih (a.put o.dst v) hl.2 (by rw [a1y,hs]) (by rw [Y9,hd]) hQ (by rw [hput];exact h')
  unfold wpQuiet;rw [Z0 hN'];rw [a3n] at h;unfold a90 at h;split at h
  ·rename_i hg;rw [zM (by simp [F7,hg])]
   exact a3m rfl next h
  ·rename_i j want hg;split at h
   ·rename_i hj;rw [zJ (by simp [F7,hg,hj])]
    exact next _ h
   ·rename_i dj hj;split at h
    ·rename_i b hb;have same:upd (s9 a) dj (.bool b)=s9 a:=by rw [← hb];exact a1x _ _
     cases want<;>cases b<;>simp only [cond_true,cond_false] at h<;>rw [same] at h
     ·rw [zM (by simp [F7,hg,hj,hb,isB])];exact a3m rfl next h
     ·rw [zJ (by simp [F7,hg,hj,hb,isB])];exact next _ h
     ·rw [zJ (by simp [F7,hg,hj,hb,isB])];exact next _ h
     ·rw [zM (by simp [F7,hg,hj,hb,isB])];exact a3m rfl next h
    ·rename_i hnb;have hv:isB (s9 a dj)=none:=by
      cases hx:s9 a dj<;>first|rfl|exact absurd hx (hnb _)
     rw [zJ (by simp [F7,hg,hj,hv])]
     exact next _ h
theorem a7g {C:World→Prop} {Q:Exit→Act→World→Prop} {ops:Array Oper}:∀ (l:List Oper) (a:Act) (w:World),C w →
  wpQuiet G.P ops C (fun a'=>∀ w',C w'→Q .normal a' w') l a→wpList G.P ops Q l a w:=by
 intro l
 induction l with
 | nil=>intro a w hw h;exact h w hw
 | cons o rest ih =>
  intro a w hw h;unfold wpQuiet at h;unfold wpList;split
  ·rename_i hwan;rw [zM hwan] at h;exact .inl (Oper.wp_of_quiet hw (fun a' w' hw' hk=>ih a' w' hw' hk) h)
  ·rename_i hwan;rw [zJ hwan] at h;exact ih _ w hw h
end
def b01 (next:C8→World→Prop) (Q:Exit→C8→World→Prop):Exit→C8→World→Prop
 | .normal,e,w=>next e w
 | x,e,w=>Q x e w
def b9U (id:Nat) (Q:Exit→C8→World→Prop):Exit→C8→World→Prop
 | .exit j,e,w=>bif Nat.beq j id then Q .normal e w else Q (.exit j) e w
 | x,e,w=>Q x e w
def b1z (next:C8→Prop) (Q:Exit→C8→Prop):Exit→C8→Prop
 | .normal,e=>next e
 | x,e=>Q x e
def b9V (id:Nat) (Q:Exit→C8→Prop):Exit→C8→Prop
 | .exit j,e=>bif Nat.beq j id then Q .normal e else Q (.exit j) e
 | x,e=>Q x e
def P9 (N:Nat):Code→Bool
 | .skip | .exit _ | .ret=>true
 | .region _ ops _=>ops.toList.all (O3 N)
 | .seq a b=>P9 N a&&P9 N b
 | .cond _ a b=>P9 N a&&P9 N b
 | .block _ a=>P9 N a
 | .loop a=>P9 N a
 | _=>false
def a0B:Code→Bool
 | .region _ ops draw=>!draw||Region.lexB .any ops.toList.toArray
 | .seq a b=>a0B a&&a0B b
 | .cond _ a b=>a0B a&&a0B b
 | .block _ a=>a0B a
 | .loop a=>a0B a
 | _=>true
def I8 (l:List Oper) (t:Nat):Bool:=l.any fun o=>match o.dst with|some d=>Nat.beq t d|none=>false
def O9:Code→Nat→Bool
 | .region _ ops _,t=>I8 ops.toList t
 | .seq a b,t=>O9 a t||O9 b t
 | .cond _ a b,t=>O9 a t||O9 b t
 | .block _ a,t=>O9 a t
 | .loop a,t=>O9 a t
 | _,_=>false
structure a92 (body:C8→World→(Exit→C8→World→Prop)→Prop) (e:C8) (w:World) (Q:Exit→C8→World→Prop):Prop where
 ex:∃ (I:Nat→C8→World→Prop) (n:Nat),I n e w∧∀ n e1 w1,I n e1 w1→body e1 w1 (b01 (fun e2 w2=>∃ n',n'<n∧I n' e2 w2) Q)
structure b10 (body:C8→(Exit→C8→Prop)→Prop) (e:C8) (Q:Exit→C8→Prop):Prop where
 ex:∃ (I:Nat→C8→Prop) (n:Nat),I n e∧∀ n e1,I n e1→body e1 (b1z (fun e2=>∃ n',n'<n∧I n' e2) Q)
def a00:List Oper→Nat→Option Oper
 | [],_=>none
 | o::_,0=>some o
 | _::r,j+1=>a00 r j
theorem a0j (ops:List Oper) (j:Nat):a00 ops j=ops[j]?:=by
 induction ops generalizing j with
 | nil=>rfl
 | cons o r ih=>cases j<;>simp [a00,ih]
def pick:List Oper→List Nat→List Oper
 | _,[]=>[]
 | ops,i::r=>match a00 ops i with|some o=>o::pick ops r|none=>pick ops r
def a7U (o:Oper):Bool:=match o.op with | .call { callee:=.value (.func _),.. }=>false|_=>true
inductive Alt where
 | nil
 | done
 | cons (i:Nat) (t r:Alt)
def Alt.depth:Alt→Nat
 | .nil=>0
 | .done=>0
 | .cons _ t r=>max (t.depth+1) r.depth
noncomputable def vcT (G:Prg) (ops:List Oper) (a:Alt):C8→World→(C8→World→Prop)→Prop :=
 Alt.rec (motive:=fun _=>C8→World→(C8→World→Prop)→Prop) (fun _ _ _=>True) (fun e w K=>K e w)
  (fun i _ _ it ir e w K=>(match a00 ops i with|some o=>U7 G ops [o] e w (fun e w=>it e w K)|none=>False)∧ir e w K) a
noncomputable def a7h (G:Prg) (S:World→Prop) (ops:List Oper) (a:Alt):C8→World→(C8→World→Prop)→Prop :=
 Alt.rec (motive:=fun _=>C8→World→(C8→World→Prop)→Prop) (fun _ _ _=>True) (fun e w K=>K e w)
  (fun i _ _ it ir e w K=>(match a00 ops i with|some o=>U7 G ops [o] e w (fun e w=>S w∧it e w K)|none=>False)∧ir e w K) a
def a3V (ops:Array Oper):List Nat→Array Bool→Bool
 | [],_=>true
 | i::r,listed=>Region.free .any ops listed i&&(Region.ready .any ops listed).contains i&&(match ops[i]? with|some o=>a7U o|none=>false)&&a3V ops r (listed.setIfInBounds i true)
def b02:List Nat→Array Bool→Array Bool
 | [],l=>l
 | i::r,l=>b02 r (l.setIfInBounds i true)
def U8 (ops:Array Oper):Alt→Array Bool→Option (List Nat)→Bool
 | .done,listed,none=>(Region.ready .any ops listed).isEmpty
 | .done,_,some _=>false
 | .nil,_,none=>false
 | .nil,_,some rs=>rs.isEmpty
 | .cons i t r,listed,o=>match (match o with|none=>Region.ready .any ops listed|some rs=>rs) with
  | j::rs=>Nat.beq i j&&U8 ops t (listed.setIfInBounds i true) none&&U8 ops r listed (some rs)
  | []=>false
section
variable {G:Prg} {ops:List Oper}
theorem a2I {o:Oper} {e:C8} {K:Value→Prop} (hn:a7U o=true) (h:a5l G (fun _=>True) o e K):∃ v,(∀ w,(execOp (ev e) o).run G.P w = .ok (.value v) w)∧K v:=by
 rcases a1b G.tab h with ⟨v,h1,h2⟩|hh
 ·exact ⟨v,h1,h2⟩
 ·clear h;have h:=hh;clear hh;obtain ⟨dst,op,type,pos,after,guard⟩:=o;split at h
  ·rename_i t x ho;simp only at ho;subst ho;split at h
   ·rename_i ad hx;obtain ⟨v,h1,h2⟩:=h.ex;rw [R8] at h2;refine ⟨v,fun w=>?_,h2⟩;show (do pure (Next.value (← Instr.loadAt t (ev e x))):Sem Next).run G.P w=_
    rw [hx];exact a2u (h1 w trivial)
   ·exact h.elim
  ·rename_i f args argTypes ho;simp only at ho;subst ho;simp [a7U] at hn
  ·obtain ⟨v,h1,h2⟩:=h.ex;exact ⟨v,fun w=>h1 w trivial,h2⟩
theorem a5m {Q:Exit→Act→World→Prop} {N:Nat} (hN:ops.all (O3 N)=true) {i:Nat} {o:Oper} (hi:ops.toArray[i]?=some o) {a:Act} {w:World} (hs:a.tmps.size=N)
  {ih:C8→World→(C8→World→Prop)→Prop} {K:C8→World→Prop} {next:Act→World→Prop} (hnext:∀ v w',ih (X9 (s9 a) o.dst v) w' K→next (a.put o.dst v) w') (h:a3U G ops o ih (s9 a) w K):wpOp G.P ops.toArray Q i next a w:=by
 have hN':ops.all (O3 a.tmps.size)=true:=by rw [hs];exact hN
 unfold wpOp;simp only [hi];rw [Z0 hN'];unfold a3U at h;split at h
 ·rename_i hg;rw [zM (by simp [F7,hg])]
  exact .inl (a03 rfl hnext h)
 ·rename_i j want hg;split at h
  ·rename_i hj;rw [zJ (by simp [F7,hg,hj])]
   exact hnext _ _ h
  ·rename_i dj hj;split at h
   ·rename_i b hb;have same:upd (s9 a) dj (.bool b)=s9 a:=by rw [← hb];exact a1x _ _
    cases want<;>cases b<;>simp only [cond_true,cond_false] at h<;>rw [same] at h
    ·rw [zM (by simp [F7,hg,hj,hb,isB])];exact .inl (a03 rfl hnext h)
    ·rw [zJ (by simp [F7,hg,hj,hb,isB])];exact hnext _ _ h
    ·rw [zJ (by simp [F7,hg,hj,hb,isB])];exact hnext _ _ h
    ·rw [zM (by simp [F7,hg,hj,hb,isB])];exact .inl (a03 rfl hnext h)
   ·rename_i hnb;have hv:isB (s9 a dj)=none:=by
     cases hx:s9 a dj<;>first|rfl|exact absurd hx (hnb _)
    rw [zJ (by simp [F7,hg,hj,hv])]
    exact hnext _ _ h
theorem b5D {Q:Exit→Act→World→Prop} {K:C8→World→Prop} {N:Nat} (hN:ops.all (O3 N)=true) (hQ:∀ a w,a.tmps.size=N→a.defers=ds→K (s9 a) w→Q .normal a w) :
  ∀ (t:Alt) (fuel:Nat) (listed:Array Bool) (a:Act) (w:World),t.depth≤fuel→a.tmps.size=N→a.defers=ds→vcT G ops t (s9 a) w K →
   (U8 ops.toArray t listed none=true→wpAny G.P .any ops.toArray Q fuel listed a w) ∧
   (∀ rs f,fuel=f+1→U8 ops.toArray t listed (some rs)=true→∀ i∈rs,wpOp G.P ops.toArray Q i (wpAny G.P .any ops.toArray Q f (listed.setIfInBounds i true)) a w):=by
 intro t
 induction t with
 | nil =>
  intro fuel listed a w _ _ _ _;exact ⟨fun h=>by simp [U8] at h,fun rs f _ h i hi=>by simp [U8] at h;subst h;cases hi⟩
 | done =>
  intro fuel listed a w _ hs hd h;refine ⟨fun hk=>?_,fun rs f _ h=>by simp [U8] at h⟩
  have hr:Region.ready .any ops.toArray listed=[]:=by simpa [U8] using hk
  have hq:=hQ a w hs hd h;cases fuel with
  | zero=>exact ⟨hr,hq⟩
  | succ n=>exact ⟨fun _=>hq,by rw [hr];simp⟩
 | cons i t r iht ihr =>
  intro fuel listed a w hdp hs hd h;have h:(match a00 ops i with|some o=>U7 G ops [o] (s9 a) w (fun e w=>vcT G ops t e w K)|none=>False)∧vcT G ops r (s9 a) w K:=h
  obtain ⟨h1,h2⟩:=h;simp only [Alt.depth] at hdp;have core:∀ f,fuel=f+1→∀ j rs,Nat.beq i j=true→U8 ops.toArray t (listed.setIfInBounds i true) none=true→U8 ops.toArray r listed (some rs)=true→∀ k∈j::rs,wpOp G.P ops.toArray Q k (wpAny G.P .any ops.toArray Q f (listed.setIfInBounds k true)) a w:=by
   intro f hf j rs hij ht hr k hk;have hij:=zu hij;subst hij;rcases yS.1 hk with rfl|hk
   ·cases ho:a00 ops k with
    | none=>rw [ho] at h1;exact h1.elim
    | some o =>
     rw [ho] at h1;rw [a0j] at ho;have hodst:O3 N o=true:=zl.1 hN o (yg ho);refine a5m hN (by simpa using ho) hs (ih:=fun e w K=>K e w) (K:=fun e w=>vcT G ops t e w K) (fun v w' hv=>?_) h1
     have hput:s9 (a.put o.dst v)=X9 (s9 a) o.dst v:=a01 v (by rw [hs];exact hodst)
     exact (iht f (listed.setIfInBounds k true) (a.put o.dst v) w' zo (by rw [a1y,hs]) (by rw [Y9,hd]) (by rw [hput];exact hv)).1 ht
   ·exact (ihr fuel listed a w zo hs hd h2).2 rs f hf hr k hk
  refine ⟨fun hk=>?_,fun rs f hf hk=>?_⟩
  ·cases fuel with
   | zero=>omega
   | succ f =>
    simp only [U8] at hk;cases hr:Region.ready .any ops.toArray listed with
    | nil=>rw [hr] at hk;cases hk
    | cons j rs =>
     rw [hr] at hk;simp only [zP] at hk;refine ⟨fun h0=>?_,?_⟩
     ·rw [hr] at h0;cases h0
     ·rw [hr];exact core f rfl j rs hk.1.1 hk.1.2 hk.2
  ·simp only [U8] at hk;cases rs with
   | nil=>cases hk
   | cons j rs =>
    simp only [zP] at hk;exact core f hf j rs hk.1.1 hk.1.2 hk.2
theorem b11 {Q:Exit→Act→World→Prop} {K:C8→Prop} {N:Nat} (hN:ops.all (O3 N)=true) (hs0:Region.noSelect ops.toArray=true) (hp:∀ c a w,¬ Q (.panic c) a w) :
  ∀ (l:List Nat) (fuel:Nat) (listed:Array Bool) (a:Act) (w:World),a.tmps.size=N→a.defers=ds→a3V ops.toArray l listed=true →
   (∀ a',a'.tmps.size=N→a'.defers=ds→K (s9 a')→wpAny G.P .any ops.toArray Q fuel (b02 l listed) a' w) →
   vcQ G (fun _=>True) ops (pick ops l) (s9 a) K→wpAny G.P .any ops.toArray Q (fuel+l.length) listed a w:=by
 intro l
 induction l with
 | nil=>intro fuel listed a w hs hd _ hK h;exact hK a hs hd h
 | cons i r ih =>
  intro fuel listed a w hs hd hok hK h;simp only [a3V,zP] at hok;obtain ⟨⟨⟨h1,h2⟩,h3⟩,h4⟩:=hok;cases ho:ops.toArray[i]? with
  | none=>rw [ho] at h3;cases h3
  | some o =>
   rw [ho] at h3;have ho':a00 ops i=some o:=by rw [a0j];simpa using ho
   have hodst:O3 N o=true:=zl.1 hN o (yg (by rw [← a0j];exact ho'))
   have hN':ops.all (O3 a.tmps.size)=true:=by rw [hs];exact hN
   have hput:∀ v,s9 (a.put o.dst v)=X9 (s9 a) o.dst v:=fun v=>a01 v (by rw [hs];exact hodst)
   simp only [pick,ho'] at h;rw [a3n] at h;have go:∀ v,Yields G.P ops.toArray o v a→vcQ G (fun _=>True) ops (pick ops r) (X9 (s9 a) o.dst v) K→wpAny G.P .any ops.toArray Q (fuel+(i::r).length) listed a w:=fun v hy hv =>
    wpAny_take ho hs0 h1 h2 (fun c a w hq=>absurd hq (hp c _ _)) hy
     (ih fuel (listed.setIfInBounds i true) (a.put o.dst v) w (by rw [a1y,hs]) (by rw [Y9,hd]) h4 hK (by rw [hput];exact hv))
   have yes:∀ v,F7 ops (s9 a) o=true→(∀ w,(execOp (ev (s9 a)) o).run G.P w = .ok (.value v) w)→Yields G.P ops.toArray o v a:=fun v hw hv =>
    .inl ⟨by rw [Z0 hN',hw],fun w=>by rw [U4];exact hv w⟩
   have no:F7 ops (s9 a) o=false→Yields G.P ops.toArray o undef a:=fun hw=>.inr ⟨by rw [Z0 hN',hw],rfl⟩
   unfold a90 at h;split at h
   ·rename_i hg;obtain ⟨v,hv,hk⟩:=a2I h3 h;exact go v (yes v (by simp [F7,hg]) hv) hk
   ·rename_i j want hg;split at h
    ·rename_i hj;exact go _ (no (by simp [F7,hg,hj])) h
    ·rename_i dj hj;split at h
     ·rename_i b hb;have same:upd (s9 a) dj (.bool b)=s9 a:=by rw [← hb];exact a1x _ _
      cases want<;>cases b<;>simp only [cond_true,cond_false] at h<;>rw [same] at h
      ·obtain ⟨v,hv,hk⟩:=a2I h3 h;exact go v (yes v (by simp [F7,hg,hj,hb,isB]) hv) hk
      ·exact go _ (no (by simp [F7,hg,hj,hb,isB])) h
      ·exact go _ (no (by simp [F7,hg,hj,hb,isB])) h
      ·obtain ⟨v,hv,hk⟩:=a2I h3 h;exact go v (yes v (by simp [F7,hg,hj,hb,isB]) hv) hk
     ·rename_i hnb;have hv:isB (s9 a dj)=none:=by
       cases hx:s9 a dj<;>first|rfl|exact absurd hx (hnb _)
      exact go _ (no (by simp [F7,hg,hj,hv])) h
theorem a2i {S:World→Prop} {o:Oper} {e:C8} {K:Value→Prop} (hn:a7U o=true) (h:a5l G S o e K):∃ v,(∀ w,S w→(execOp (ev e) o).run G.P w = .ok (.value v) w)∧K v:=by
 rcases a1b G.tab h with ⟨v,h1,h2⟩|hh
 ·exact ⟨v,fun w _=>h1 w,h2⟩
 ·clear h;have h:=hh;clear hh;obtain ⟨dst,op,type,pos,after,guard⟩:=o;split at h
  ·rename_i t x ho;simp only at ho;subst ho;split at h
   ·rename_i ad hx;obtain ⟨v,h1,h2⟩:=h.ex;rw [R8] at h2;refine ⟨v,fun w hw=>?_,h2⟩;show (do pure (Next.value (← Instr.loadAt t (ev e x))):Sem Next).run G.P w=_
    rw [hx];exact a2u (h1 w hw)
   ·exact h.elim
  ·rename_i f args argTypes ho;simp only at ho;subst ho;simp [a7U] at hn
  ·obtain ⟨v,h1,h2⟩:=h.ex;exact ⟨v,fun w hw=>h1 w hw,h2⟩
theorem b3l {S:World→Prop} {Q:Exit→Act→World→Prop} {K:C8→World→Prop} {N:Nat} (hN:ops.all (O3 N)=true) (hQ:∀ a w,a.tmps.size=N→a.defers=ds→K (s9 a) w→Q .normal a w) :
  ∀ (t:Alt) (fuel:Nat) (listed:Array Bool) (a:Act) (w:World),t.depth≤fuel→a.tmps.size=N→a.defers=ds→a7h G S ops t (s9 a) w K →
   (U8 ops.toArray t listed none=true→wpAnyH G.P .any ops.toArray Q S fuel listed a w) ∧
   (∀ rs f,fuel=f+1→U8 ops.toArray t listed (some rs)=true→∀ i∈rs,wpOp G.P ops.toArray Q i (fun a w=>S w∧wpAnyH G.P .any ops.toArray Q S f (listed.setIfInBounds i true) a w) a w):=by
 intro t
 induction t with
 | nil =>
  intro fuel listed a w _ _ _ _;exact ⟨fun h=>by simp [U8] at h,fun rs f _ h i hi=>by simp [U8] at h;subst h;cases hi⟩
 | done =>
  intro fuel listed a w _ hs hd h;refine ⟨fun hk=>?_,fun rs f _ h=>by simp [U8] at h⟩
  have hr:Region.ready .any ops.toArray listed=[]:=by simpa [U8] using hk
  have hq:=hQ a w hs hd h;cases fuel with
  | zero=>exact ⟨hr,hq⟩
  | succ n=>exact ⟨fun _=>hq,by rw [hr];simp⟩
 | cons i t r iht ihr =>
  intro fuel listed a w hdp hs hd h;have h:(match a00 ops i with|some o=>U7 G ops [o] (s9 a) w (fun e w=>S w∧a7h G S ops t e w K)|none=>False)∧a7h G S ops r (s9 a) w K:=h
  obtain ⟨h1,h2⟩:=h;simp only [Alt.depth] at hdp;have core:∀ f,fuel=f+1→∀ j rs,Nat.beq i j=true→U8 ops.toArray t (listed.setIfInBounds i true) none=true→U8 ops.toArray r listed (some rs)=true→∀ k∈j::rs,wpOp G.P ops.toArray Q k (fun a w=>S w∧wpAnyH G.P .any ops.toArray Q S f (listed.setIfInBounds k true) a w) a w:=by
   intro f hf j rs hij ht hr k hk;have hij:=zu hij;subst hij;rcases yS.1 hk with rfl|hk
   ·cases ho:a00 ops k with
    | none=>rw [ho] at h1;exact h1.elim
    | some o =>
     rw [ho] at h1;rw [a0j] at ho;have hodst:O3 N o=true:=zl.1 hN o (yg ho);refine a5m hN (by simpa using ho) hs (ih:=fun e w K=>K e w) (K:=fun e w=>S w∧a7h G S ops t e w K) (fun v w' hv=>?_) h1
     have hput:s9 (a.put o.dst v)=X9 (s9 a) o.dst v:=a01 v (by rw [hs];exact hodst)
     exact ⟨hv.1,(iht f (listed.setIfInBounds k true) (a.put o.dst v) w' zo (by rw [a1y,hs]) (by rw [Y9,hd]) (by rw [hput];exact hv.2)).1 ht⟩
   ·exact (ihr fuel listed a w zo hs hd h2).2 rs f hf hr k hk
  refine ⟨fun hk=>?_,fun rs f hf hk=>?_⟩
  ·cases fuel with
   | zero=>omega
   | succ f =>
    simp only [U8] at hk;cases hr:Region.ready .any ops.toArray listed with
    | nil=>rw [hr] at hk;cases hk
    | cons j rs =>
     rw [hr] at hk;simp only [zP] at hk;refine ⟨fun h0=>?_,?_⟩
     ·rw [hr] at h0;cases h0
     ·rw [hr];exact core f rfl j rs hk.1.1 hk.1.2 hk.2
  ·simp only [U8] at hk;cases rs with
   | nil=>cases hk
   | cons j rs =>
    simp only [zP] at hk;exact core f hf j rs hk.1.1 hk.1.2 hk.2
theorem b03 {S:World→Prop} {Q:Exit→Act→World→Prop} {K:C8→Prop} {N:Nat} (hN:ops.all (O3 N)=true) (hs0:Region.noSelect ops.toArray=true) (hp:∀ c a w,¬ Q (.panic c) a w) :
  ∀ (l:List Nat) (fuel:Nat) (listed:Array Bool) (a:Act) (w:World),S w→a.tmps.size=N→a.defers=ds→a3V ops.toArray l listed=true →
   (∀ a',a'.tmps.size=N→a'.defers=ds→K (s9 a')→wpAnyH G.P .any ops.toArray Q S fuel (b02 l listed) a' w) →
   vcQ G S ops (pick ops l) (s9 a) K→wpAnyH G.P .any ops.toArray Q S (fuel+l.length) listed a w:=by
 intro l
 induction l with
 | nil=>intro fuel listed a w hSw hs hd _ hK h;exact hK a hs hd h
 | cons i r ih =>
  intro fuel listed a w hSw hs hd hok hK h;simp only [a3V,zP] at hok;obtain ⟨⟨⟨h1,h2⟩,h3⟩,h4⟩:=hok;cases ho:ops.toArray[i]? with
  | none=>rw [ho] at h3;cases h3
  | some o =>
   rw [ho] at h3;have ho':a00 ops i=some o:=by rw [a0j];simpa using ho
   have hodst:O3 N o=true:=zl.1 hN o (yg (by rw [← a0j];exact ho'))
   have hN':ops.all (O3 a.tmps.size)=true:=by rw [hs];exact hN
   have hput:∀ v,s9 (a.put o.dst v)=X9 (s9 a) o.dst v:=fun v=>a01 v (by rw [hs];exact hodst)
   simp only [pick,ho'] at h;rw [a3n] at h;have go:∀ v,YieldsIf G.P ops.toArray S o v a→vcQ G S ops (pick ops r) (X9 (s9 a) o.dst v) K→wpAnyH G.P .any ops.toArray Q S (fuel+(i::r).length) listed a w:=fun v hy hv =>
    wpAnyH_take ho hs0 h1 h2 (fun c a w hq=>absurd hq (hp c _ _)) hy hSw
     (ih fuel (listed.setIfInBounds i true) (a.put o.dst v) w hSw (by rw [a1y,hs]) (by rw [Y9,hd]) h4 hK (by rw [hput];exact hv))
   have yes:∀ v,F7 ops (s9 a) o=true→(∀ w,S w→(execOp (ev (s9 a)) o).run G.P w = .ok (.value v) w)→YieldsIf G.P ops.toArray S o v a:=fun v hw hv =>
    .inl ⟨by rw [Z0 hN',hw],fun w hS=>by rw [U4];exact hv w hS⟩
   have no:F7 ops (s9 a) o=false→YieldsIf G.P ops.toArray S o undef a:=fun hw=>.inr ⟨by rw [Z0 hN',hw],rfl⟩
   unfold a90 at h;split at h
   ·rename_i hg;obtain ⟨v,hv,hk⟩:=a2i h3 h;exact go v (yes v (by simp [F7,hg]) hv) hk
   ·rename_i j want hg;split at h
    ·rename_i hj;exact go _ (no (by simp [F7,hg,hj])) h
    ·rename_i dj hj;split at h
     ·rename_i b hb;have same:upd (s9 a) dj (.bool b)=s9 a:=by rw [← hb];exact a1x _ _
      cases want<;>cases b<;>simp only [cond_true,cond_false] at h<;>rw [same] at h
      ·obtain ⟨v,hv,hk⟩:=a2i h3 h;exact go v (yes v (by simp [F7,hg,hj,hb,isB]) hv) hk
      ·exact go _ (no (by simp [F7,hg,hj,hb,isB])) h
      ·exact go _ (no (by simp [F7,hg,hj,hb,isB])) h
      ·obtain ⟨v,hv,hk⟩:=a2i h3 h;exact go v (yes v (by simp [F7,hg,hj,hb,isB]) hv) hk
     ·rename_i hnb;have hv:isB (s9 a dj)=none:=by
       cases hx:s9 a dj<;>first|rfl|exact absurd hx (hnb _)
      exact go _ (no (by simp [F7,hg,hj,hv])) h
end
def a5U (ops:List Oper) (l:List Nat) (t:Alt):Bool :=
 Region.noSelect ops.toArray&&a3V ops.toArray l (Array.replicate ops.length false)&&U8 ops.toArray t (b02 l (Array.replicate ops.length false)) none&&Nat.ble (t.depth+l.length) ops.length
structure J2 (G:Prg) (ops:List Oper) (e:C8) (w:World) (K:C8→World→Prop):Prop where
 ex:(∃ (n:Nat) (C:World→Prop),C w.drew∧(a7Q n ops.toArray||(Nat.beq n ops.length&&Region.lexB .any ops.toArray))=true ∧
  vcQ G C ops (ops.take n) e (fun e'=>∀ w',C w'→U7 G ops (ops.drop n) e' w' K)) ∨
  (∃ (l:List Nat) (t:Alt),a5U ops l t=true∧vcQ G (fun _=>True) ops (pick ops l) e (fun e'=>vcT G ops t e' w.drew K)) ∨
  (∃ (S:World→Prop) (l:List Nat) (t:Alt),a5U ops l t=true∧S w.drew∧vcQ G S ops (pick ops l) e (fun e'=>a7h G S ops t e' w.drew K))
theorem J2.mk1 {G:Prg} {ops:List Oper} {e:C8} {w:World} {K:C8→World→Prop} (h:∃ (n:Nat) (C:World→Prop),C w.drew∧(a7Q n ops.toArray||(Nat.beq n ops.length&&Region.lexB .any ops.toArray))=true ∧
  vcQ G C ops (ops.take n) e (fun e'=>∀ w',C w'→U7 G ops (ops.drop n) e' w' K)):J2 G ops e w K:=⟨.inl h⟩
theorem J2.mk2 {G:Prg} {ops:List Oper} {e:C8} {w:World} {K:C8→World→Prop} (l:List Nat) (t:Alt) (h1:a5U ops l t=true) (h2:vcQ G (fun _=>True) ops (pick ops l) e (fun e'=>vcT G ops t e' w.drew K)):J2 G ops e w K:=⟨.inr (.inl ⟨l,t,h1,h2⟩)⟩
theorem J2.mk3 {G:Prg} {ops:List Oper} {e:C8} {w:World} {K:C8→World→Prop} (S:World→Prop) (l:List Nat) (t:Alt) (hS:S w.drew) (h1:a5U ops l t=true) (h2:vcQ G S ops (pick ops l) e (fun e'=>a7h G S ops t e' w.drew K)):J2 G ops e w K:=⟨.inr (.inr ⟨S,l,t,h1,hS,h2⟩)⟩
structure Nx (p:Prop):Prop where
 go:p
structure Cx (p:Prop):Prop where
 go:p
noncomputable def vc (G:Prg):Code→C8→World→(Exit→C8→World→Prop)→Prop
 | .skip,e,w,Q=>Q .normal e w
 | .region _ ops draw,e,w,Q=>bif draw then J2 G ops.toList e w (fun e w=>Q .normal e w) else U7 G ops.toList ops.toList e w (fun e w=>Q .normal e w)
 | .seq a b,e,w,Q=>vc G a e w (b01 (fun e w=>Nx (vc G b e w Q)) Q)
 | .cond c a b,e,w,Q=>match ev e c with
  | .bool t=>bif t then vc G a e w Q else vc G b e w Q
  | _=>False
 | .block id a,e,w,Q=>vc G a e w (b9U id Q)
 | .loop a,e,w,Q=>a92 (fun e w Q=>vc G a e w Q) e w Q
 | .exit id,e,w,Q=>Q (.exit id) e w
 | .ret,e,w,Q=>Q .ret e w
 | _,_,_,_=>False
noncomputable def vcC (G:Prg) (C:World→Prop):Code→C8→(Exit→C8→Prop)→Prop
 | .skip,e,Q=>Q .normal e
 | .region _ ops _,e,Q=>vcQ G C ops.toList ops.toList e (fun e=>Q .normal e)
 | .seq a b,e,Q=>vcC G C a e (b1z (fun e=>Nx (vcC G C b e Q)) Q)
 | .cond c a b,e,Q=>match ev e c with
  | .bool t=>bif t then vcC G C a e Q else vcC G C b e Q
  | _=>False
 | .block id a,e,Q=>vcC G C a e (b9V id Q)
 | .loop a,e,Q=>b10 (fun e Q=>vcC G C a e Q) e Q
 | .exit id,e,Q=>Q (.exit id) e
 | .ret,e,Q=>Q .ret e
 | _,_,_=>False
def c2A (N:Nat) (Q:Exit→C8→World→Prop):Exit→Act→World→Prop:=fun x a w=>a.tmps.size=N∧a.defers=[]∧Q x (s9 a) w
def W (G:Prg) (N:Nat) (c:Code) (e:C8) (w:World) (Q:Exit→C8→World→Prop):Prop :=
 P9 N c=true→∀ a,s9 a=e→a.tmps.size=N→a.defers=[]→c.wp G.P (c2A N Q) a w
section
variable {G:Prg} {N:Nat}
theorem b4F (p:Nat→Prop) (h:∃ n,p n):∃ n,p n∧∀ m,p m→n≤m:=by
 obtain ⟨n,hn⟩:=h
 induction n using Nat.strongRecOn with
 | _ n ih =>
  by_cases h:∃ m,m<n∧p m
  ·obtain ⟨m,hm,hp⟩:=h;exact ih m hm hp
  ·exact ⟨n,hn,fun m hm=>Nat.le_of_not_lt fun hlt=>h ⟨m,hlt,hm⟩⟩
theorem a4w {P:Program} {c:Code} {Q:Exit→Act→World→Prop} {a:Act} {w:World} (I:Nat→Act→World→Prop) (n:Nat) (h₀:I n a w)
  (round:∀ n a w,I n a w→c.wp P (Exit.then (fun a' w'=>∃ n',n'<n∧I n' a' w') Q) a w):(Code.loop c).wp P Q a w:=by
 classical
 let J:Act→World→Prop:=fun a w=>∃ n,I n a w;let μ:Act→World→Nat:=fun a w=>if h:J a w then Classical.choose (b4F _ h) else 0
 have hμ:∀ a w,J a w→I (μ a w) a w∧∀ m,I m a w→μ a w≤m:=fun a w h=>by
  show I (if h:J a w then Classical.choose (b4F _ h) else 0) a w∧∀ m,I m a w→(if h:J a w then Classical.choose (b4F _ h) else 0)≤m
  rw [dif_pos h];exact Classical.choose_spec (b4F _ h)
 refine wp_loop J μ ⟨n,h₀⟩ fun a1 w1 h1=>wp_mono (round _ a1 w1 (hμ a1 w1 h1).1) ?_;intro x a2 w2 hx;cases x<;>first
  | (obtain ⟨n',hn',hI⟩:=hx;exact ⟨⟨n',hI⟩,xu ((hμ a2 w2 ⟨n',hI⟩).2 n' hI) hn'⟩)
  | exact hx
theorem a5n:∀ (c:Code) (Q:Exit→C8→World→Prop) (Q':Exit→Act→World→Prop),(∀ x a w,a.tmps.size=N→a.defers=ds→Q x (s9 a) w→Q' x a w)→P9 N c=true →
  ∀ a w,a.tmps.size=N→a.defers=ds→vc G c (s9 a) w Q→c.wp G.P Q' a w:=by
 intro c
 induction c with
 | skip=>intro Q Q' hQ _ a w hs hd h;exact wp_skip (hQ _ _ _ hs hd h)
 | region id ops draw =>
  intro Q Q' hQ hk a w hs hd h;have hk':ops.toList.all (O3 N)=true:=hk;unfold vc at h;cases draw with
  | true =>
   rcases (show J2 G ops.toList (s9 a) w _ from h).ex with ⟨n,C,h1,h2,h3⟩|⟨l,t,h1,h2⟩|⟨S,l,t,h1,hS,h2⟩;rotate_left
   ·simp only [a5U,zP,Nat.ble_eq] at h1;obtain ⟨⟨⟨f1,f2⟩,f3⟩,f4⟩:=h1;have e1:ops.toList.toArray=ops:=by simp
    have e2:ops.toList.length=ops.size:=by simp
    refine Code.wp_mono (Q:=fun x a w=>x = .normal∧Q' x a w) (fun _ _ _ h=>h.2) (wp_region_any G.mixed ?_);have H:=b11 (G:=G) (Q:=fun x a w=>x = .normal∧Q' x a w) hk' f1 (fun c a w h=>by cases h.1) l (ops.size-l.length) (Array.replicate ops.toList.length false) a w.drew hs hd f2
     (fun a' hs' hd' hk=>(b5D (G:=G) (Q:=fun x a w=>x = .normal∧Q' x a w) hk' (fun a'' w'' hs'' hd'' hk''=>⟨rfl,hQ _ _ _ hs'' hd'' hk''⟩) t (ops.size-l.length) _ a' w.drew zo hs' hd' hk).1 f3) h2
    rw [e1,e2,show ops.size-l.length+l.length=ops.size by omega] at H
    exact H
   ·simp only [a5U,zP,Nat.ble_eq] at h1;obtain ⟨⟨⟨f1,f2⟩,f3⟩,f4⟩:=h1;have e1:ops.toList.toArray=ops:=by simp
    have e2:ops.toList.length=ops.size:=by simp
    refine Code.wp_mono (Q:=fun x a w=>x = .normal∧Q' x a w) (fun _ _ _ h=>h.2) (wp_region_held (S:=S) G.mixed ?_);have H:=b03 (S:=S) (G:=G) (Q:=fun x a w=>x = .normal∧Q' x a w) hk' f1 (fun c a w h=>by cases h.1) l (ops.size-l.length) (Array.replicate ops.toList.length false) a w.drew hS hs hd f2
     (fun a' hs' hd' hk=>(b3l (S:=S) (G:=G) (Q:=fun x a w=>x = .normal∧Q' x a w) hk' (fun a'' w'' hs'' hd'' hk''=>⟨rfl,hQ _ _ _ hs'' hd'' hk''⟩) t (ops.size-l.length) _ a' w.drew zo hs' hd' hk).1 f3) h2
    rw [e1,e2,show ops.size-l.length+l.length=ops.size by omega] at H
    exact H
   have e1:ops.toList.toArray=ops:=by simp
   rw [e1] at h2;have ht:(ops.toList.take n).all (O3 N)=true:=zl.2 fun o ho=>zl.1 hk' o (List.mem_of_mem_take ho);have hdr:(ops.toList.drop n).all (O3 N)=true:=zl.2 fun o ho=>zl.1 hk' o (List.mem_of_mem_drop ho);have H:=a91 (G:=G) (Q:=fun a'=>∀ w',C w'→wpList G.P ops.toList.toArray Q' (ops.toList.drop n) a' w') hk' (ops.toList.take n) a ht hs hd
    (fun a' hs' hd' hk w' hw'=>a6E (G:=G) hk' _ a' w' hdr hs' hd' (fun a'' w'' hs'' hd'' hk''=>hQ _ _ _ hs'' hd'' hk'') (hk w' hw')) h3
   rw [e1] at H;simp only [zj,zP] at h2;rcases h2 with h2|⟨hn,h2⟩
   ·exact a7R G.mixed h2 h1 H
   ·have hn:=zu hn;rw [hn,yZ,List.drop_length] at H;exact wp_region_quiet (C:=C) G.mixed h2 h1 H
  | false =>
   have h':U7 G ops.toList ops.toList (s9 a) w (fun e w=>Q .normal e w):=h;have:=a6E (G:=G) (Q:=Q') hk' ops.toList a w hk' hs hd (fun a' w' hs' hd' hk=>hQ _ _ _ hs' hd' hk) h';rw [show ops.toList.toArray=ops by simp] at this
   exact wp_region_list this
 | seq x y ihx ihy =>
  intro Q Q' hQ hk a w hs hd h;simp only [P9,zP] at hk;unfold vc at h;refine wp_seq (ihx _ _ ?_ hk.1 a w hs hd h);intro x a' w' hs' hd' hx;cases x<;>first
   | exact ihy Q Q' hQ hk.2 a' w' hs' hd' hx.go
   | exact hQ _ _ _ hs' hd' hx
 | cond c x y ihx ihy =>
  intro Q Q' hQ hk a w hs hd h;simp only [P9,zP] at hk;unfold vc at h;split at h
  ·rename_i t ht;have ht':a.eval c = .bool t:=by rw [U4];exact ht
   refine wp_cond ht' ?_;cases t
   ·exact ihy Q Q' hQ hk.2 a w hs hd h
   ·exact ihx Q Q' hQ hk.1 a w hs hd h
  ·exact h.elim
 | block id c ih =>
  intro Q Q' hQ hk a w hs hd h;unfold vc at h;refine wp_block (ih _ _ ?_ hk a w hs hd h);intro x a' w' hs' hd' hx;cases x<;>try exact hQ _ _ _ hs' hd' hx
  rename_i j;simp only [b9U] at hx;simp only [Exit.inBlock];by_cases hj:j=id
  ·subst hj;simp only [Nat.beq_refl,cond_true] at hx;rw [zM rfl];exact hQ _ _ _ hs' hd' hx
  ·rw [a1w hj] at hx;rw [zJ hj];exact hQ _ _ _ hs' hd' hx
 | loop c ih =>
  intro Q Q' hQ hk a w hs hd h;obtain ⟨I,n,h0,hstep⟩:=(show a92 (fun e w Q=>vc G c e w Q) (s9 a) w Q from h).ex;refine a4w (fun n a w=>a.tmps.size=N∧a.defers=ds∧I n (s9 a) w) n ⟨hs,hd,h0⟩ ?_;intro n1 a1 w1 ⟨hs1,hd1,hI⟩;refine ih _ _ ?_ hk a1 w1 hs1 hd1 (hstep _ _ _ hI);intro x a' w' hs' hd' hx;cases x<;>first
   | (obtain ⟨n',h1,h2⟩:=hx;exact ⟨n',h1,hs',hd',h2⟩)
   | exact hQ _ _ _ hs' hd' hx
 | exit id=>intro Q Q' hQ _ a w hs hd h;exact wp_exit (hQ _ _ _ hs hd h)
 | ret=>intro Q Q' hQ _ a w hs hd h;exact wp_ret (hQ _ _ _ hs hd h)
 | _=>intro Q Q' hQ hk;cases hk
theorem b5E {C:World→Prop} (hdr:∀ w,C w→C w.drew):∀ (c:Code) (Q:Exit→C8→Prop) (Q':Exit→Act→World→Prop),
  (∀ x a w,a.tmps.size=N→a.defers=ds→C w→Q x (s9 a)→Q' x a w)→P9 N c=true→a0B c=true →
  ∀ a w,a.tmps.size=N→a.defers=ds→C w→vcC G C c (s9 a) Q→c.wp G.P Q' a w:=by
 intro c
 induction c with
 | skip=>intro Q Q' hQ _ _ a w hs hd hw h;exact wp_skip (hQ _ _ _ hs hd hw h)
 | region id ops draw =>
  intro Q Q' hQ hk hq a w hs hd hw h;have hk':ops.toList.all (O3 N)=true:=hk;have e1:ops.toList.toArray=ops:=by simp
  have H:=a91 (G:=G) (C:=C) (K:=fun e=>Q .normal e) (Q:=fun a'=>∀ w',C w'→Q' .normal a' w') hk' ops.toList a hk' hs hd (fun a' hs' hd' hk w' hw'=>hQ _ _ _ hs' hd' hw' hk) h;rw [e1] at H;cases draw with
  | true =>
   have hl:Region.lexB .any ops.toList.toArray=true:=hq;rw [e1] at hl;exact wp_region_quiet (C:=C) G.mixed hl (hdr _ hw) H
  | false=>exact wp_region_list (a7g (G:=G) _ _ _ hw H)
 | seq x y ihx ihy =>
  intro Q Q' hQ hk hq a w hs hd hw h;simp only [P9,zP] at hk;simp only [a0B,zP] at hq;unfold vcC at h;refine wp_seq (ihx _ _ ?_ hk.1 hq.1 a w hs hd hw h);intro x a' w' hs' hd' hw' hx;cases x<;>first
   | exact ihy Q Q' hQ hk.2 hq.2 a' w' hs' hd' hw' hx.go
   | exact hQ _ _ _ hs' hd' hw' hx
 | cond c x y ihx ihy =>
  intro Q Q' hQ hk hq a w hs hd hw h;simp only [P9,zP] at hk;simp only [a0B,zP] at hq;unfold vcC at h;split at h
  ·rename_i t ht;have ht':a.eval c = .bool t:=by rw [U4];exact ht
   refine wp_cond ht' ?_;cases t
   ·exact ihy Q Q' hQ hk.2 hq.2 a w hs hd hw h
   ·exact ihx Q Q' hQ hk.1 hq.1 a w hs hd hw h
  ·exact h.elim
 | block id c ih =>
  intro Q Q' hQ hk hq a w hs hd hw h;unfold vcC at h;refine wp_block (ih _ _ ?_ hk hq a w hs hd hw h);intro x a' w' hs' hd' hw' hx;cases x<;>try exact hQ _ _ _ hs' hd' hw' hx
  rename_i j;simp only [b9V] at hx;simp only [Exit.inBlock];by_cases hj:j=id
  ·subst hj;simp only [Nat.beq_refl,cond_true] at hx;rw [zM rfl];exact hQ _ _ _ hs' hd' hw' hx
  ·rw [a1w hj] at hx;rw [zJ hj];exact hQ _ _ _ hs' hd' hw' hx
 | loop c ih =>
  intro Q Q' hQ hk hq a w hs hd hw h;obtain ⟨I,n,h0,hstep⟩:=(show b10 (fun e Q=>vcC G C c e Q) (s9 a) Q from h).ex;refine a4w (fun n a w=>a.tmps.size=N∧a.defers=ds∧C w∧I n (s9 a)) n ⟨hs,hd,hw,h0⟩ ?_;intro n1 a1 w1 ⟨hs1,hd1,hw1,hI⟩;refine ih _ _ ?_ hk hq a1 w1 hs1 hd1 hw1 (hstep _ _ hI);intro x a' w' hs' hd' hw' hx;cases x<;>first
   | (obtain ⟨n',h1,h2⟩:=hx;exact ⟨n',h1,hs',hd',hw',h2⟩)
   | exact hQ _ _ _ hs' hd' hw' hx
 | exit id=>intro Q Q' hQ _ _ a w hs hd hw h;exact wp_exit (hQ _ _ _ hs hd hw h)
 | ret=>intro Q Q' hQ _ _ a w hs hd hw h;exact wp_ret (hQ _ _ _ hs hd hw h)
 | _=>intro Q Q' hQ hk;cases hk
theorem a5V {c:Code} {e:C8} {w:World} {Q:Exit→C8→World→Prop} (h:vc G c e w Q):W G N c e w Q:=by
 intro hk a ha hs hd;subst ha;exact a5n c Q (c2A N Q) (fun _ _ _ h1 h2 h3=>⟨h1,h2,h3⟩) hk a w hs hd h
theorem a3o {a b:Code} {e:C8} {w:World} {Q:Exit→C8→World→Prop} (h:W G N a e w (b01 (fun e w=>W G N b e w Q) Q)):W G N (.seq a b) e w Q:=by
 intro hk ac ha hs hd;simp only [P9,zP] at hk;refine wp_seq (wp_mono (h hk.1 ac ha hs hd) ?_);intro x a' w' ⟨h1,h2,h3⟩;cases x<;>first
  | exact h3 hk.2 a' rfl h1 h2
  | exact ⟨h1,h2,h3⟩
theorem W1 (C:World→Prop) {c:Code} {e:C8} {w:World} {Q:Exit→C8→World→Prop} (hw:C w) (hdr:∀ w,C w→C w.drew) (hq:a0B c=true)
  (h:vcC G C c e (fun x e'=>∀ w',C w'→Q x e' w')):W G N c e w Q:=by
 intro hk a ha hs hd;subst ha;exact b5E hdr c _ (c2A N Q) (fun _ _ w' h1 h2 hw' h3=>⟨h1,h2,h3 w' hw'⟩) hk hq a w hs hd hw h
end
section mono
variable {G:Prg} {K K':Value→Prop} {F F':Prop}
theorem Z1 {v:Value} (hK:∀ v,K v→K' v) (h:q8 v K):q8 v K':=by rw [R8] at h ⊢;exact hK _ h
theorem I3 {b:Bool} {A B A' B':Prop} (h1:A→A') (h2:B→B') (h:bif b then A else B):bif b then A' else B':=by
 cases b
 ·exact h2 h
 ·exact h1 h
theorem a6F {T:Tab} {o:Oper} {e:C8} (hK:∀ v,K v→K' v) (hF:F→F') (h:a4C T o e K F):a4C T o e K' F':=by
 revert h;unfold a4C;split
 ·exact Z1 hK
 ·exact Z1 hK
 ·split
  ·exact Z1 hK
  ·exact hF
 ·unfold b4C;split
  ·refine I3 ?_ (I3 ?_ hF)
   ·unfold a7u;split<;>first|exact I3 (fun h r hr=>hK _ (h r hr)) hF|exact hF
   ·unfold b49;split<;>first|exact hK _|exact hF|exact I3 hF (hK _)|exact fun h r hr=>hK _ (h r hr)
  ·unfold b4B;split<;>first|exact hK _|exact hF|exact I3 (hK _) hF
  ·exact hF
 ·unfold b9S;split<;>first|exact hK _|exact hF|exact fun h r hr=>hK _ (h r hr)
 ·split<;>first|exact hK _|exact hF
 ·unfold a7v;split<;>first|exact hF|(split<;>first|exact hK _|exact hF)
 ·unfold a1R;split<;>first|exact I3 (hK _) hF|exact hF
 ·unfold b0z;split<;>first|exact hK _|exact hF
 ·unfold a7w;split<;>first|exact I3 (hK _) hF|exact hF
 ·split
  ·split
   ·exact Z1 hK
   ·exact hF
  ·exact hF
 ·split
  ·unfold b4D;split<;>first|exact hK _|exact hF
  ·exact hF
 ·exact hF
theorem a5W {o:Oper} {e:C8} {w:World} {K K':Value→World→Prop} (hK:∀ v w,K v w→K' v w) (h:b3k G o e w K):b3k G o e w K':=by
 unfold b3k at h ⊢;refine a6F (fun v=>hK v w) ?_ h;split
 ·split
  ·exact fun ⟨v,h1,h2⟩=>⟨v,h1,Z1 (fun v=>hK v w) h2⟩
  ·exact id
 ·split
  ·exact fun ⟨v,h1,h2⟩=>⟨v,h1,hK _ _ h2⟩
  ·exact id
 ·rw [a7S,a7S];exact hK _ _
 ·refine I3 (fun ⟨h⟩=>⟨h.mono fun r w' ⟨v,hr,hk⟩=>⟨v,hr,hK _ _ hk⟩⟩) id
 ·exact fun ⟨h⟩=>⟨h.imp (fun ⟨v,w',h1,h2⟩=>⟨v,w',h1,hK _ _ h2⟩) (fun h=>h.imp (fun ⟨w',h1,h2⟩=>⟨w',h1,hK _ _ h2⟩) (fun ⟨f,as,h1,h2⟩=>⟨f,as,h1,h2.mono fun r w' ⟨v,hr,hk⟩=>⟨v,hr,hK _ _ hk⟩⟩))⟩
theorem a4E {C:World→Prop} {o:Oper} {e:C8} {K K':Value→Prop} (hK:∀ v,K v→K' v) (h:a5l G C o e K):a5l G C o e K':=by
 unfold a5l at h ⊢;refine a6F hK ?_ h;split
 ·split
  ·exact fun ⟨v,h1,h2⟩=>⟨v,h1,Z1 hK h2⟩
  ·exact id
 ·exact I3 (fun ⟨v,h1,h2⟩=>⟨v,h1,Z1 hK h2⟩) id
 ·exact fun ⟨v,h1,h2⟩=>⟨v,h1,hK _ h2⟩
theorem a7V {e:C8} {o:Oper} {v:Value} {t:Nat} (h:(match o.dst with|some d=>Nat.beq t d|none=>false)=false):X9 e o.dst v t=e t:=by
 cases hd:o.dst with
 | none=>rfl
 | some d=>rw [hd] at h;simp only at h;simp [X9,upd,h]
theorem a1S {ops:List Oper}:∀ (l:List Oper) (e:C8) (w:World) (K K':C8→World→Prop),
  (∀ e' w',(∀ t,I8 l t=false→e' t=e t)→K e' w'→K' e' w')→U7 G ops l e w K→U7 G ops l e w K':=by
 intro l
 induction l with
 | nil=>intro e w K K' hK h;exact hK _ _ (fun _ _=>rfl) h
 | cons o rest ih =>
  intro e w K K' hK h;have next:∀ v w',U7 G ops rest (X9 e o.dst v) w' K→U7 G ops rest (X9 e o.dst v) w' K':=fun v w' h' =>
   ih _ _ K K' (fun e' w'' he' hk=>hK e' w'' (fun t ht=>by
    simp only [I8,List.any_cons,yA] at ht;rw [he' t ht.2];exact a7V ht.1) hk) h'
  revert h;rw [a4D,a4D];unfold a3U;split
  ·exact a5W next
  ·rename_i j want hg;split
   ·exact next _ _
   ·rename_i dj hj;split
    ·rename_i b hb;have same:upd e dj (.bool b)=e:=by rw [← hb];exact a1x _ _
     intro h;cases want<;>cases b<;>simp only [cond_true,cond_false] at h ⊢ <;> rw [same] at h ⊢
     ·exact a5W next h
     ·exact next _ _ h
     ·exact next _ _ h
     ·exact a5W next h
    ·exact next _ _
theorem a3W {C:World→Prop} {ops:List Oper}:∀ (l:List Oper) (e:C8) (K K':C8→Prop),
  (∀ e',(∀ t,I8 l t=false→e' t=e t)→K e'→K' e')→vcQ G C ops l e K→vcQ G C ops l e K':=by
 intro l
 induction l with
 | nil=>intro e K K' hK h;exact hK _ (fun _ _=>rfl) h
 | cons o rest ih =>
  intro e K K' hK h;have next:∀ v,vcQ G C ops rest (X9 e o.dst v) K→vcQ G C ops rest (X9 e o.dst v) K':=fun v h' =>
   ih _ K K' (fun e' he' hk=>hK e' (fun t ht=>by
    simp only [I8,List.any_cons,yA] at ht;rw [he' t ht.2];exact a7V ht.1) hk) h'
  revert h;rw [a3n,a3n];unfold a90;split
  ·exact a4E next
  ·rename_i j want hg;split
   ·exact next _
   ·rename_i dj hj;split
    ·rename_i b hb;have same:upd e dj (.bool b)=e:=by rw [← hb];exact a1x _ _
     intro h;cases want<;>cases b<;>simp only [cond_true,cond_false] at h ⊢ <;> rw [same] at h ⊢
     ·exact a4E next h
     ·exact next _ h
     ·exact next _ h
     ·exact a4E next h
    ·exact next _
theorem b12 {ops:List Oper}:∀ (l:List Nat) (o:Oper),o∈pick ops l→o∈ops:=by
 intro l
 induction l with
 | nil=>intro o h;cases h
 | cons i r ih =>
  intro o h;simp only [pick] at h;split at h
  ·rename_i x hx;rcases yS.1 h with rfl|h
   ·rw [a0j] at hx;exact yg hx
   ·exact ih o h
  ·exact ih o h
theorem b5F {ops:List Oper}:∀ (t:Alt) (e:C8) (w:World) (K K':C8→World→Prop),
  (∀ e' w',(∀ t,I8 ops t=false→e' t=e t)→K e' w'→K' e' w')→vcT G ops t e w K→vcT G ops t e w K':=by
 intro t
 induction t with
 | nil=>intro e w K K' _ h;exact h
 | done=>intro e w K K' hK h;exact hK _ _ (fun _ _=>rfl) h
 | cons i t r iht ihr =>
  intro e w K K' hK h;have h:(match a00 ops i with|some o=>U7 G ops [o] e w (fun e w=>vcT G ops t e w K)|none=>False)∧vcT G ops r e w K:=h
  show (match a00 ops i with|some o=>U7 G ops [o] e w (fun e w=>vcT G ops t e w K')|none=>False)∧vcT G ops r e w K'
  refine ⟨?_,ihr _ _ _ _ hK h.2⟩;have h1:=h.1;cases ho:a00 ops i with
  | none=>rw [ho] at h1;exact h1
  | some o =>
   rw [ho] at h1;refine a1S _ _ _ _ _ (fun e1 w1 he1 hk=>iht _ _ _ _ (fun e2 w2 he2 hk2=>hK e2 w2 (fun x hx=>?_) hk2) hk) h1;have hmem:o∈ops:=by rw [a0j] at ho;exact yg ho
   rw [he2 x hx,he1 x];simp only [I8,List.any_eq_false] at hx ⊢;intro o' ho';rw [zY] at ho';subst ho';exact hx _ hmem
theorem b3m {S:World→Prop} {ops:List Oper}:∀ (t:Alt) (e:C8) (w:World) (K K':C8→World→Prop),
  (∀ e' w',(∀ t,I8 ops t=false→e' t=e t)→K e' w'→K' e' w')→a7h G S ops t e w K→a7h G S ops t e w K':=by
 intro t
 induction t with
 | nil=>intro e w K K' _ h;exact h
 | done=>intro e w K K' hK h;exact hK _ _ (fun _ _=>rfl) h
 | cons i t r iht ihr =>
  intro e w K K' hK h;have h:(match a00 ops i with|some o=>U7 G ops [o] e w (fun e w=>S w∧a7h G S ops t e w K)|none=>False)∧a7h G S ops r e w K:=h
  show (match a00 ops i with|some o=>U7 G ops [o] e w (fun e w=>S w∧a7h G S ops t e w K')|none=>False)∧a7h G S ops r e w K'
  refine ⟨?_,ihr _ _ _ _ hK h.2⟩;have h1:=h.1;cases ho:a00 ops i with
  | none=>rw [ho] at h1;exact h1
  | some o =>
   rw [ho] at h1;refine a1S _ _ _ _ _ (fun e1 w1 he1 hk=>⟨hk.1,iht _ _ _ _ (fun e2 w2 he2 hk2=>hK e2 w2 (fun x hx=>?_) hk2) hk.2⟩) h1;have hmem:o∈ops:=by rw [a0j] at ho;exact yg ho
   rw [he2 x hx,he1 x];simp only [I8,List.any_eq_false] at hx ⊢;intro o' ho';rw [zY] at ho';subst ho';exact hx _ hmem
theorem a7W:∀ (c:Code) (e:C8) (w:World) (Q Q':Exit→C8→World→Prop),
  (∀ x e' w',(∀ t,O9 c t=false→e' t=e t)→Q x e' w'→Q' x e' w')→vc G c e w Q→vc G c e w Q':=by
 intro c
 induction c with
 | skip=>intro e w Q Q' hQ h;exact hQ _ _ _ (fun _ _=>rfl) h
 | region id ops draw =>
  intro e w Q Q' hQ h;unfold vc at h ⊢;refine I3 ?_ ?_ h
  ·rintro ⟨⟨n,C,h1,h2,h3⟩|⟨l,t,h1,h2⟩|⟨S,l,t,h1,hS,h2⟩⟩
   ·have hsub:∀ l:List Oper,(∀ o∈l,o∈ops.toList)→∀ t,I8 ops.toList t=false→I8 l t=false:=fun l hl t ht=>by
     simp only [I8,List.any_eq_false] at ht ⊢;exact fun o ho=>ht o (hl o ho)
    refine .mk1 ⟨n,C,h1,h2,a3W _ _ _ _ (fun e' he' hk w' hw'=>a1S _ _ _ _ _ (fun e'' w'' he'' hk''=>hQ _ _ _ (fun t ht=>?_) hk'') (hk w' hw')) h3⟩;rw [he'' t (hsub _ (fun o ho=>List.mem_of_mem_drop ho) t ht),he' t (hsub _ (fun o ho=>List.mem_of_mem_take ho) t ht)]
   ·refine .mk2 l t h1 (a3W _ _ _ _ (fun e' he' hk=>b5F _ _ _ _ _ (fun e'' w'' he'' hk''=>hQ _ _ _ (fun t ht=>?_) hk'') hk) h2);rw [he'' t ht,he' t];have ht':I8 ops.toList t=false:=ht;simp only [I8,List.any_eq_false] at ht' ⊢;exact fun o ho=>ht' o (b12 l o ho)
   ·refine .mk3 S l t hS h1 (a3W _ _ _ _ (fun e' he' hk=>b3m _ _ _ _ _ (fun e'' w'' he'' hk''=>hQ _ _ _ (fun t ht=>?_) hk'') hk) h2);rw [he'' t ht,he' t];have ht':I8 ops.toList t=false:=ht;simp only [I8,List.any_eq_false] at ht' ⊢;exact fun o ho=>ht' o (b12 l o ho)
  ·exact a1S _ _ _ _ _ (fun e' w' he' hk=>hQ _ _ _ he' hk)
 | seq a b iha ihb =>
  intro e w Q Q' hQ h;unfold vc at h ⊢;refine iha _ _ _ _ ?_ h;intro x e1 w1 he1 hx;have fr:∀ x e' w',(∀ t,O9 b t=false→e' t=e1 t)→Q x e' w'→Q' x e' w':=fun x e' w' he' hk=>hQ x e' w' (fun t ht=>by
   simp only [O9,yA] at ht;rw [he' t ht.2,he1 t ht.1]) hk
  cases x<;>first
   | exact ⟨ihb _ _ _ _ fr hx.go⟩
   | exact fr _ _ _ (fun _ _=>rfl) hx
 | cond c a b iha ihb =>
  intro e w Q Q' hQ h;unfold vc at h ⊢;split at h
  ·rename_i t ht;refine I3 (iha _ _ _ _ ?_) (ihb _ _ _ _ ?_) h
   ·exact fun x e' w' he' hk=>hQ x e' w' (fun t ht=>by simp only [O9,yA] at ht;exact he' t ht.1) hk
   ·exact fun x e' w' he' hk=>hQ x e' w' (fun t ht=>by simp only [O9,yA] at ht;exact he' t ht.2) hk
  ·exact h
 | block id a ih =>
  intro e w Q Q' hQ h;unfold vc at h ⊢;refine ih _ _ _ _ ?_ h;intro x e' w' he' hx;cases x<;>try exact hQ _ _ _ he' hx
  exact I3 (hQ _ _ _ he') (hQ _ _ _ he') hx
 | loop a ih =>
  intro e w Q Q' hQ h;unfold vc at h ⊢;obtain ⟨I,n,h0,hstep⟩:=h.ex;refine ⟨fun n e1 w1=>I n e1 w1∧∀ t,O9 a t=false→e1 t=e t,n,⟨h0,fun _ _=>rfl⟩,?_⟩;rintro n1 e1 w1 ⟨hI,hfr⟩;refine ih _ _ _ _ ?_ (hstep n1 e1 w1 hI);intro x e' w' he' hx;cases x<;>first
   | (obtain ⟨n',h1,h2⟩:=hx;exact ⟨n',h1,h2,fun t ht=>by rw [he' t ht,hfr t ht]⟩)
   | exact hQ _ _ _ (fun t ht=>by rw [he' t ht,hfr t ht]) hx
 | exit id=>intro e w Q Q' hQ h;exact hQ _ _ _ (fun _ _=>rfl) h
 | ret=>intro e w Q Q' hQ h;exact hQ _ _ _ (fun _ _=>rfl) h
 | _=>intro e w Q Q' hQ h;exact h
theorem a5X {C:World→Prop}:∀ (c:Code) (e:C8) (Q Q':Exit→C8→Prop),
  (∀ x e',(∀ t,O9 c t=false→e' t=e t)→Q x e'→Q' x e')→vcC G C c e Q→vcC G C c e Q':=by
 intro c
 induction c with
 | skip=>intro e Q Q' hQ h;exact hQ _ _ (fun _ _=>rfl) h
 | region id ops draw =>
  intro e Q Q' hQ h;exact a3W _ _ _ _ (fun e' he' hk=>hQ _ _ he' hk) h
 | seq a b iha ihb =>
  intro e Q Q' hQ h;unfold vcC at h ⊢;refine iha _ _ _ ?_ h;intro x e1 he1 hx;have fr:∀ x e',(∀ t,O9 b t=false→e' t=e1 t)→Q x e'→Q' x e':=fun x e' he' hk=>hQ x e' (fun t ht=>by
   simp only [O9,yA] at ht;rw [he' t ht.2,he1 t ht.1]) hk
  cases x<;>first
   | exact ⟨ihb _ _ _ fr hx.go⟩
   | exact fr _ _ (fun _ _=>rfl) hx
 | cond c a b iha ihb =>
  intro e Q Q' hQ h;unfold vcC at h ⊢;split at h
  ·rename_i t ht;refine I3 (iha _ _ _ ?_) (ihb _ _ _ ?_) h
   ·exact fun x e' he' hk=>hQ x e' (fun t ht=>by simp only [O9,yA] at ht;exact he' t ht.1) hk
   ·exact fun x e' he' hk=>hQ x e' (fun t ht=>by simp only [O9,yA] at ht;exact he' t ht.2) hk
  ·exact h
 | block id a ih =>
  intro e Q Q' hQ h;unfold vcC at h ⊢;refine ih _ _ _ ?_ h;intro x e' he' hx;cases x<;>try exact hQ _ _ he' hx
  exact I3 (hQ _ _ he') (hQ _ _ he') hx
 | loop a ih =>
  intro e Q Q' hQ h;unfold vcC at h ⊢;obtain ⟨I,n,h0,hstep⟩:=h.ex;refine ⟨fun n e1=>I n e1∧∀ t,O9 a t=false→e1 t=e t,n,⟨h0,fun _ _=>rfl⟩,?_⟩;rintro n1 e1 ⟨hI,hfr⟩;refine ih _ _ _ ?_ (hstep n1 e1 hI);intro x e' he' hx;cases x<;>first
   | (obtain ⟨n',h1,h2⟩:=hx;exact ⟨n',h1,h2,fun t ht=>by rw [he' t ht,hfr t ht]⟩)
   | exact hQ _ _ (fun t ht=>by rw [he' t ht,hfr t ht]) hx
 | exit id=>intro e Q Q' hQ h;exact hQ _ _ (fun _ _=>rfl) h
 | ret=>intro e Q Q' hQ h;exact hQ _ _ (fun _ _=>rfl) h
 | _=>intro e Q Q' hQ h;exact h
end mono
def b13:List (Nat×Value)→Nat→Option Value
 | [],_=>none
 | (s,v)::r,t=>bif Nat.beq s t then some v else b13 r t
def b14:List Nat→Nat→Bool
 | [],_=>false
 | s::r,t=>bif Nat.beq s t then true else b14 r t
def hd (e j:C8) (ms:List Nat) (m:Nat) (L:List (Nat×Value)):C8:=fun t =>
 bif Nat.ble m t then j t else bif b14 ms t then (match b13 L t with|some v=>v|none=>j t) else e t
def fits:List (Nat×Value)→C8→Prop
 | [],_=>True
 | (t,v)::r,e=>e t=v∧fits r e
def wOk (c:Code) (ms:List Nat) (m:Nat):Bool:=(List.range m).all fun t=>b14 ms t || !O9 c t
theorem a5o {c:Code} {ms:List Nat} {m:Nat} (h:wOk c ms m=true):∀ t,t<m→b14 ms t=false→O9 c t=false:=by
 intro t ht hm;have:=zl.1 h t (yl.2 ht);simpa [hm] using this
theorem b5G {L:List (Nat×Value)} {e:C8} (h:fits L e):∀ t v,b13 L t=some v→e t=v:=by
 induction L with
 | nil=>intro t v h;cases h
 | cons x r ih =>
  obtain ⟨s,u⟩:=x;intro t v hl;unfold b13 at hl;by_cases hs:s=t
  ·subst hs;simp at hl;subst hl;exact h.1
  ·rw [a1w hs] at hl;exact ih h.2 t v hl
theorem b4G {e e1:C8} {ms:List Nat} {m:Nat} {L:List (Nat×Value)} (hf:fits L e1) (hk:∀ t,t<m→b14 ms t=false→e1 t=e t):e1=hd e e1 ms m L:=by
 funext t;unfold hd;cases hb:Nat.ble m t with
 | true=>rfl
 | false =>
  have ht:t<m:=by
   rcases wO t m with h|h
   ·exact h
   ·rw [Nat.ble_eq_true_of_le h] at hb;cases hb
  cases hm:b14 ms t with
  | false=>exact hk t ht hm
  | true =>
   simp only [cond_true,cond_false];cases hl:b13 L t with
   | none=>rfl
   | some v=>exact b5G hf t v hl
section loops
variable {G:Prg} {C:World→Prop} {σ:Type}
theorem a5p {body:Code} {e:C8} {Q:Exit→C8→Prop} (ms:List Nat) (m:Nat) (L:σ→List (Nat×Value)) (I:σ→Prop) (μ:σ→Nat) (hw:wOk body ms m=true)
  (s0:σ) (h0:I s0) (hf:fits (L s0) e)
  (step:∀ s j,I s→vcC G C body (hd e j ms m (L s)) (b1z (fun e2=>∃ s',fits (L s') e2∧I s'∧μ s' < μ s) Q)):b10 (fun e Q=>vcC G C body e Q) e Q:=by
 refine ⟨fun n e1=>(∀ t,t<m→b14 ms t=false→e1 t=e t)∧∃ s,fits (L s) e1∧I s∧μ s=n,μ s0,⟨fun _ _ _=>rfl,s0,hf,h0,rfl⟩,?_⟩;rintro n e1 ⟨hk,s,hfs,hI,rfl⟩;have he:=b4G hfs hk;have h:=step s e1 hI;rw [← he] at h;refine a5X body e1 _ _ ?_ h;intro x e' hfr hx;cases x<;>first
  | (obtain ⟨s',h1,h2,h3⟩:=hx
     exact ⟨μ s',h3,fun t ht hm=>by rw [hfr t (a5o hw t ht hm),hk t ht hm],s',h1,h2,rfl⟩)
  | exact hx
theorem B6 {body:Code} {e:C8} {w:World} {Q:Exit→C8→World→Prop} (ms:List Nat) (m:Nat) (L:σ→List (Nat×Value)) (I:σ→World→Prop) (μ:σ→Nat) (hw:wOk body ms m=true)
  (s0:σ) (h0:I s0 w) (hf:fits (L s0) e)
  (step:∀ s j w,I s w→vc G body (hd e j ms m (L s)) w (b01 (fun e2 w2=>∃ s',fits (L s') e2∧I s' w2∧μ s' < μ s) Q)):a92 (fun e w Q=>vc G body e w Q) e w Q:=by
 refine ⟨fun n e1 w1=>(∀ t,t<m→b14 ms t=false→e1 t=e t)∧∃ s,fits (L s) e1∧I s w1∧μ s=n,μ s0,⟨fun _ _ _=>rfl,s0,hf,h0,rfl⟩,?_⟩;rintro n e1 w1 ⟨hk,s,hfs,hI,rfl⟩;have he:=b4G hfs hk;have h:=step s e1 w1 hI;rw [← he] at h;refine a7W body e1 w1 _ _ ?_ h;intro x e' w' hfr hx;cases x<;>first
  | (obtain ⟨s',h1,h2,h3⟩:=hx
     exact ⟨μ s',h3,fun t ht hm=>by rw [hfr t (a5o hw t ht hm),hk t ht hm],s',h1,h2,rfl⟩)
  | exact hx
theorem a93 {a b:Code} {e:C8} {Q:Exit→C8→Prop} (ms:List Nat) (m:Nat) (L:σ→List (Nat×Value)) (I:σ→Prop) (hw:wOk a ms m=true)
  (h1:vcC G C a e (b1z (fun e2=>∃ s,fits (L s) e2∧I s) Q)) (h2:∀ s j,I s→Nx (vcC G C b (hd e j ms m (L s)) Q)):Nx (vcC G C (.seq a b) e Q):=by
 refine ⟨?_⟩;show vcC G C a e (b1z (fun e=>Nx (vcC G C b e Q)) Q);refine a5X a e _ _ ?_ h1;intro x e' hfr hx;cases x<;>first
  | (obtain ⟨s,hf,hI⟩:=hx
     have he:=b4G (e:=e) (ms:=ms) (m:=m) hf (fun t ht hm=>hfr t (a5o hw t ht hm));show Nx (vcC G C b e' Q);rw [he];exact h2 s e' hI)
  | exact hx
theorem C3 {a b:Code} {e:C8} {w:World} {Q:Exit→C8→World→Prop} (ms:List Nat) (m:Nat) (L:σ→List (Nat×Value)) (I:σ→World→Prop) (hw:wOk a ms m=true)
  (h1:vc G a e w (b01 (fun e2 w2=>∃ s,fits (L s) e2∧I s w2) Q)) (h2:∀ s j w,I s w→Nx (vc G b (hd e j ms m (L s)) w Q)):Nx (vc G (.seq a b) e w Q):=by
 refine ⟨?_⟩;show vc G a e w (b01 (fun e w=>Nx (vc G b e w Q)) Q);refine a7W a e w _ _ ?_ h1;intro x e' w' hfr hx;cases x<;>first
  | (obtain ⟨s,hf,hI⟩:=hx
     have he:=b4G (e:=e) (ms:=ms) (m:=m) hf (fun t ht hm=>hfr t (a5o hw t ht hm));show Nx (vc G b e' w' Q);rw [he];exact h2 s e' w' hI)
  | exact hx
theorem c2b {a b:Code} {e:C8} {Q:Exit→C8→Prop} (t m:Nat) (v:Value) (hw:wOk a [t] m=true)
  (h1:vcC G C a e (b1z (fun e2=>e2 t=v) Q)) (h2:∀ j,Nx (vcC G C b (hd e j [t] m [(t,v)]) Q)):Nx (vcC G C (.seq a b) e Q) :=
 a93 (σ:=Unit) [t] m (fun _=>[(t,v)]) (fun _=>True) hw (a5X a e _ _ (fun x e' _ hx=>by
  cases x<;>first
   | exact ⟨(),⟨hx,trivial⟩,trivial⟩
   | exact hx) h1) (fun _ j _=>h2 j)
end loops
def b75:List Value→Nat→Value
 | [],_=>undef
 | v::_,0=>v
 | _::r,t+1=>b75 r t
def a5q (l:List Value):C8:=fun t=>b75 l t
def b9W (P:Program) (rs:List ResultVar) (e:C8) (w:World) (R:Value→Prop):Prop :=
 match rs with
 | []=>R (.tuple #[])
 | [.tmp t]=>q8 (e t) R
 | [.cell t ty]=>match e t with
  | .pointer (some a)=>N1 P w ty a (fun v=>q8 v R)
  | _=>False
 | [.tmp t,.tmp u]=>R (.tuple #[e t,e u])
 | [.tmp t,.tmp u,.tmp v]=>R (.tuple #[e t,e u,e v])
 | _=>False
def c4a (P:Program) (rs:List ResultVar) (R:Ending→World→Prop):Exit→C8→World→Prop
 | .normal,e,w=>b9W P rs e w (fun v=>R (.returned v) w)
 | .ret,e,w=>b9W P rs e w (fun v=>R (.returned v) w)
 | _,_,_=>False
theorem b04 (l:List Value) (t:Nat):b75 l t=l.getD t undef:=by
 induction l generalizing t with
 | nil=>simp [b75]
 | cons v r ih=>cases t<;>simp [b75,ih]
theorem enter {G:Prg} {f:Nat} {fn:Func} {c:Code} {args:List Value} {w:World} {R:Ending→World→Prop}
  (hf:G.P.funcs[f]?=some fn) (hb:fn.body=some c) (hn:args.length≤fn.ntmps) (hk:P9 fn.ntmps c=true)
  (h:W G fn.ntmps c (a5q args) w (c4a G.P fn.results.toList R)):Calls G.P f args.toArray w R:=by
 refine calls_of_wp hf hb ?_;have hsz:(args.toArray++Array.replicate (fn.ntmps-args.toArray.size) undef).size=fn.ntmps:=by simp;omega
 refine wp_mono (h hk { tmps:=args.toArray++Array.replicate (fn.ntmps-args.toArray.size) undef,defers:=[] } ?_ hsz rfl) ?_
 ·funext t;unfold s9 a5q;rw [b04];simp only [yw,yr];by_cases ht:t<args.length
  ·rw [Array.getElem?_append_left (by simpa using ht)];simp
  ·rw [Array.getElem?_append_right (by simpa using ht)]
   rw [xH zo];simp only [Option.getD_none];cases hx:(Array.replicate (fn.ntmps-args.toArray.size) undef)[t-args.toArray.size]? with
   | none=>rfl
   | some v =>
    have:=yh.1 hx;obtain ⟨h1,h2⟩:=this;simp at h2;simp [h2]
 ·rintro x a w' ⟨hs,hd,hq⟩;have key:b9W G.P fn.results.toList (s9 a) w' (fun v=>R (.returned v) w')→∃ v,(results fn a.tmps).run G.P w' = .ok v w'∧R (.returned v) w':=by
   intro hr;unfold b9W at hr;split at hr
   ·rename_i he;have he:fn.results=#[]:=xP.1 (by simpa using he)
    exact ⟨_,results_none he _ _ _,hr⟩
   ·rename_i t he;have he:fn.results=#[.tmp t]:=xP.1 (by simpa using he)
    rw [R8] at hr;exact ⟨_,results_tmp he _ _ _,hr⟩
   ·rename_i t ty he;have he:fn.results=#[.cell t ty]:=xP.1 (by simpa using he)
    split at hr
    ·rename_i ad had;obtain ⟨v,h1,h2⟩:=hr.ex;rw [R8] at h2;refine ⟨v,?_,h2⟩;have had':a.tmps[t]?.getD undef = .pointer (some ad):=by rw [← yw];exact had
     unfold g8 Instr.loadAt at h1;simp [Instr.sureAddr] at h1;simp [results,he,had',asAddr,h1]
    ·exact hr.elim
   ·rename_i t u he;have he:fn.results=#[.tmp t,.tmp u]:=xP.1 (by simpa using he)
    exact ⟨_,results_tmp2 he _ _ _,hr⟩
   ·rename_i t u v he;have he:fn.results=#[.tmp t,.tmp u,.tmp v]:=xP.1 (by simpa using he)
    exact ⟨_,by simp [results,he,s9,yw],hr⟩
   ·exact hr.elim
  cases x<;>first
   | exact ⟨hd,key hq⟩
   | exact hq.elim
section steps
variable {G:Prg} {C:World→Prop} {e:C8} {w:World} {Q:Exit→C8→Prop} {R:Exit→C8→World→Prop}
theorem b9X (h:Q .normal e):vcC G C .skip e Q:=h
theorem b5H {id:Nat} {ops:Array Oper} {d:Bool} (h:vcQ G C ops.toList ops.toList e (fun e=>Q .normal e)):vcC G C (.region id ops d) e Q:=h
theorem c2B {a b:Code} (h:vcC G C a e (b1z (fun e=>Nx (vcC G C b e Q)) Q)):vcC G C (.seq a b) e Q:=h
theorem b9Y {c:Operand} {a b:Code} (h:match ev e c with | .bool t=>bif t then Cx (vcC G C a e Q) else Cx (vcC G C b e Q)|_=>False):vcC G C (.cond c a b) e Q:=by
 show (match ev e c with | .bool t=>bif t then vcC G C a e Q else vcC G C b e Q|_=>False)
 revert h;cases ev e c with
 | bool t=>cases t<;>exact fun h=>h.go
 | _=>exact fun h=>h
theorem b76 {id:Nat} {a:Code} (h:vcC G C a e (b9V id Q)):vcC G C (.block id a) e Q:=h
theorem b9Z {a:Code} (h:b10 (fun e Q=>vcC G C a e Q) e Q):vcC G C (.loop a) e Q:=h
theorem c0a {id:Nat} (h:Q (.exit id) e):vcC G C (.exit id) e Q:=h
theorem c2C (h:Q .ret e):vcC G C .ret e Q:=h
theorem c0b (h:R .normal e w):vc G .skip e w R:=h
theorem b5I {id:Nat} {ops:Array Oper} {d:Bool} (h:bif d then J2 G ops.toList e w (fun e w=>R .normal e w) else U7 G ops.toList ops.toList e w (fun e w=>R .normal e w)):vc G (.region id ops d) e w R:=h
theorem a4F {a b:Code} (h:vc G a e w (b01 (fun e w=>Nx (vc G b e w R)) R)):vc G (.seq a b) e w R:=h
theorem c0c {c:Operand} {a b:Code} (h:match ev e c with | .bool t=>bif t then Cx (vc G a e w R) else Cx (vc G b e w R)|_=>False):vc G (.cond c a b) e w R:=by
 show (match ev e c with | .bool t=>bif t then vc G a e w R else vc G b e w R|_=>False)
 revert h;cases ev e c with
 | bool t=>cases t<;>exact fun h=>h.go
 | _=>exact fun h=>h
theorem a3p {id:Nat} {a:Code} (h:vc G a e w (b9U id R)):vc G (.block id a) e w R:=h
theorem c0d {a:Code} (h:a92 (fun e w R=>vc G a e w R) e w R):vc G (.loop a) e w R:=h
theorem c0e {id:Nat} (h:R (.exit id) e w):vc G (.exit id) e w R:=h
theorem c2D (h:R .ret e w):vc G .ret e w R:=h
noncomputable def c4b (G:Prg) (C:World→Prop) (c:Code) (e:C8) (Q:Exit→C8→Prop):Prop :=
 match c with
 | .skip=>Q .normal e
 | .region _ ops _=>vcQ G C ops.toList ops.toList e (fun e=>Q .normal e)
 | .seq a b=>vcC G C a e (b1z (fun e=>Nx (vcC G C b e Q)) Q)
 | .cond c a b=>match ev e c with | .bool t=>bif t then Cx (vcC G C a e Q) else Cx (vcC G C b e Q)|_=>False
 | .block id a=>vcC G C a e (b9V id Q)
 | .loop a=>b10 (fun e Q=>vcC G C a e Q) e Q
 | .exit id=>Q (.exit id) e
 | .ret=>Q .ret e
 | _=>False
noncomputable def c4c (G:Prg) (c:Code) (e:C8) (w:World) (R:Exit→C8→World→Prop):Prop :=
 match c with
 | .skip=>R .normal e w
 | .region _ ops d=>bif d then J2 G ops.toList e w (fun e w=>R .normal e w) else U7 G ops.toList ops.toList e w (fun e w=>R .normal e w)
 | .seq a b=>vc G a e w (b01 (fun e w=>Nx (vc G b e w R)) R)
 | .cond c a b=>match ev e c with | .bool t=>bif t then Cx (vc G a e w R) else Cx (vc G b e w R)|_=>False
 | .block id a=>vc G a e w (b9U id R)
 | .loop a=>a92 (fun e w R=>vc G a e w R) e w R
 | .exit id=>R (.exit id) e w
 | .ret=>R .ret e w
 | _=>False
theorem sC {c:Code} (h:c4b G C c e Q):vcC G C c e Q:=by
 cases c<;>first|exact b9X h|exact b5H h|exact c2B h|exact b9Y h|exact b76 h|exact b9Z h|exact c0a h|exact c2C h|exact h.elim
theorem sK {c:Code} (h:c4c G c e w R):vc G c e w R:=by
 cases c<;>first|exact c0b h|exact b5I h|exact a4F h|exact c0c h|exact a3p h|exact c0d h|exact c0e h|exact c2D h|exact h.elim
theorem nX {p:Prop} (h:p):Nx p:=⟨h⟩
theorem cX {p:Prop} (h:p):Cx p:=⟨h⟩
end steps
attribute [irreducible] vc vcC
theorem zR {A B:Prop} (h:B) (e:B→A:=by (intro h;((conv=>whnf);(repeat ((with_reducible first|refine nX ?_|refine cX ?_|refine sC ?_|refine sK ?_);(conv=>whnf))));exact h)):A:=e h
theorem zG {A B:Prop} (h:B) (e:B→A:=by (intro h;((conv=>whnf);(repeat ((with_reducible first|refine cX ?_|refine sC ?_|refine sK ?_);(conv=>whnf))));exact h)):A:=e h
end E
end
