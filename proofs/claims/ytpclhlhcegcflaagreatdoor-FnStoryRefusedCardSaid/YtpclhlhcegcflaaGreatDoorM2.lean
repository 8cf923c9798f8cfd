/- One part of the proof: Eng. -/
import Derived.Below
import Derived.OrdersHeld
import Derived.Test.YtpclhlhcegcflaaGreatDoorM1
namespace Go.Proofs.YtpclhlhcegcflaaGreatDoor
set_option linter.unusedSimpArgs false
set_option linter.unusedVariables false
section
namespace E
open Go Go.RowKit
variable {ds:List Deferred}
abbrev C9:=Nat→Value
def upd (e:C9) (d:Nat) (v:Value):C9:=fun t=>bif Nat.beq t d then v else e t
def a0h (e:C9):Option Nat→Value→C9
 | some d,v=>upd e d v
 | none,_=>e
def ev (e:C9):Operand→Value
 | .tmp t=>e t
 | .const v=>v
 | .global g=>.pointer (some ⟨g,0,none⟩)
 | .func f=>.func (.func f) #[] #[]
def z6 (a:Act):C9:=fun t=>a.tmps.getD t undef
theorem X8 (a:Act):a.eval=ev (z6 a):=by funext x;cases x<;>rfl
theorem a1X {t d:Nat} (h:t≠d):Nat.beq t d=false:=by
 cases hb:Nat.beq t d
 ·rfl
 ·exact absurd (zu hb) h
theorem a1Y (e:C9) (d:Nat):upd e d (e d)=e:=by
 funext t;unfold upd;by_cases h:t=d
 ·subst h;simp
 ·rw [a1X h];rfl
theorem b8l (e:C9) (d:Nat) (v:Value):upd e d v d=v:=by simp [upd]
theorem b0h {a:Act} {d:Nat} (v:Value) (h:d<a.tmps.size):z6 (a.put (some d) v)=upd (z6 a) d v:=by
 funext t;unfold z6 upd Act.put;by_cases h1:t=d
 ·subst h1;simp [h]
 ·simp [a1X h1,xF,Array.getElem?_setIfInBounds_ne (wY h1)]
def S2 (N:Nat) (o:Oper):Bool:=match o.dst with|some d=>Nat.blt d N|none=>true
theorem a0Z {a:Act} {o:Oper} (v:Value) (h:S2 a.tmps.size o=true):z6 (a.put o.dst v)=a0h (z6 a) o.dst v:=by
 unfold S2 at h;cases hd:o.dst with
 | none=>rfl
 | some d=>rw [hd] at h;simp only [Nat.blt_eq] at h;exact b0h v h
theorem a1Z (a:Act) (d:Option Nat) (v:Value):(a.put d v).tmps.size=a.tmps.size:=by
 cases d<;>simp [Act.put]
theorem a0r (a:Act) (d:Option Nat) (v:Value):(a.put d v).defers=a.defers:=by
 cases d<;>simp [Act.put]
def t7 (v:Value) (K:Value→Prop):Prop :=
 match v with
 | .int k n=>K (.int k n)
 | .bool b=>K (.bool b)
 | .string s=>K (.string s)
 | .pointer a=>K (.pointer a)
 | .slice a l c=>K (.slice a l c)
 | .agg cs=>K (.agg cs)
 | .tuple vs=>K (.tuple vs)
 | v=>K v
theorem V4 (v:Value) (K:Value→Prop):t7 v K=K v:=by cases v<;>rfl
def c2W (v:Value) (K:Array Value→Prop):Prop :=
 match v with
 | .agg cs=>K cs
 | .int k n=>K #[.int k n]
 | .bool b=>K #[.bool b]
 | .string s=>K #[.string s]
 | .pointer a=>K #[.pointer a]
 | .slice a l c=>K #[.slice a l c]
 | v=>K v.cells
theorem a82 (v:Value) (K:Array Value→Prop):c2W v K=K v.cells:=by cases v<;>rfl
inductive D where
 | int (k:IntKind)
 | bool
 | string
 | pointer
 | func
 | map
 | iface
 | slice (elem size:Nat)
 | array (len elem size:Nat)
 | struct (size:Nat) (fields:List (Nat×Nat×Nat))
 deriving Inhabited
abbrev Tab:=List (Nat×D)
def X0:Tab→Nat→Option D
 | [],_=>none
 | (s,d)::r,t=>bif Nat.beq s t then some d else X0 r t
def okD (P:Program) (t:Nat):D→Bool
 | .int k=>match P.underlying t with|some (.int k')=>decide (k'=k)|_=>false
 | .bool=>match P.underlying t with|some .bool=>true|_=>false
 | .string=>match P.underlying t with|some .string=>true|_=>false
 | .pointer=>match P.underlying t with|some (.pointer _)=>true|_=>false
 | .func=>match P.underlying t with|some (.func ..)=>true|_=>false
 | .map=>match P.underlying t with|some (.map ..)=>true|_=>false
 | .iface=>match P.underlying t with|some (.interface _)=>true|_=>false
 | .slice el z=>match P.underlying t with|some (.slice e)=>decide (e=el)&&decide ((P.info? e).map (·.size)=some z)|_=>false
 | .array n el z=>match P.underlying t with|some (.array n' e)=>decide (n'=n)&&decide (e=el)&&decide ((P.info? e).map (·.size)=some z)&&decide ((P.info? t).map (·.size)=some (n*z))|_=>false
 | .struct z fs=>match P.underlying t with
  | some (.struct f)=>decide ((P.info? t).map (·.size)=some z)&&decide (f.toList.map (fun x=>(x.type,x.offset))=fs.map fun x=>(x.1,x.2.1))&&fs.all fun x=>decide ((P.info? x.1).map (·.size)=some x.2.2)&&decide (x.2.2≠0)
  | _=>false
def Tab.Ok (T:Tab) (P:Program):Prop:=∀ t d,X0 T t=some d→okD P t d=true
theorem Tab.ok_of (T:Tab) (P:Program) (h:T.all (fun x=>okD P x.1 x.2)=true):T.Ok P:=by
 induction T with
 | nil=>intro t d h;simp [X0] at h
 | cons x r ih =>
  obtain ⟨s,dd⟩:=x;simp only [List.all_cons,zP] at h;intro t d ht;unfold X0 at ht;by_cases hs:s=t
  ·subst hs;simp at ht;subst ht;exact h.1
  ·rw [a1X hs] at ht;exact ih h.2 t d ht
section ty
variable {P:Program} {t:Nat}
theorem b57 {k} (h:okD P t (.int k)=true):P.underlying t=some (.int k):=by
 simp only [okD] at h;split at h
 ·rename_i k' e;rw [e,yF h]
 ·cases h
theorem a3h (h:okD P t .string=true):P.underlying t=some .string:=by
 simp only [okD] at h;split at h
 ·assumption
 ·cases h
theorem a4n {el z} (h:okD P t (.slice el z)=true):P.underlying t=some (.slice el)∧(P.info? el).map (·.size)=some z:=by
 simp only [okD] at h;split at h
 ·rename_i e he;simp only [zP,zW] at h;obtain ⟨rfl,h2⟩:=h;exact ⟨he,h2⟩
 ·cases h
theorem a4o {n el z} (h:okD P t (.array n el z)=true):P.underlying t=some (.array n el)∧(P.info? el).map (·.size)=some z∧(P.info? t).map (·.size)=some (n*z):=by
 simp only [okD] at h;split at h
 ·rename_i n' e he;simp only [zP,zW] at h;obtain ⟨⟨⟨rfl,rfl⟩,h2⟩,h3⟩:=h;exact ⟨he,h2,h3⟩
 ·cases h
theorem a2a {z fs} (h:okD P t (.struct z fs)=true):∃ f:Array Field,P.underlying t=some (.struct f)∧(P.info? t).map (·.size)=some z ∧
  f.toList.map (fun x=>(x.type,x.offset))=fs.map (fun x=>(x.1,x.2.1))∧∀ x∈fs,(P.info? x.1).map (·.size)=some x.2.2∧x.2.2≠0:=by
 simp only [okD] at h;split at h
 ·rename_i f he;simp only [zP,zW,zl] at h;exact ⟨f,he,h.1.1,h.1.2,h.2⟩
 ·cases h
end ty
def a0S (op:BinOp) (k:IntKind) (x y:Int):Int :=
 match op with
 | .and=>k.wrap ((BitVec.ofInt k.bits x &&& BitVec.ofInt k.bits y).toNat:Int)
 | .or=>k.wrap ((BitVec.ofInt k.bits x ||| BitVec.ofInt k.bits y).toNat:Int)
 | .xor=>k.wrap ((BitVec.ofInt k.bits x ^^^ BitVec.ofInt k.bits y).toNat:Int)
 | _=>k.wrap ((BitVec.ofInt k.bits x &&& ~~~ BitVec.ofInt k.bits y).toNat:Int)
def b58 (op:BinOp) (k:IntKind) (m n:Int) (K:Value→Prop) (F:Prop):Prop :=
 match op with
 | .add=>K (.int k (k.wrap (m+n)))
 | .sub=>K (.int k (k.wrap (m-n)))
 | .mul=>K (.int k (k.wrap (m*n)))
 | .eql=>K (.bool (decide (m=n)))
 | .neq=>K (.bool (!decide (m=n)))
 | .lss=>K (.bool (decide (m<n)))
 | .leq=>K (.bool (decide (m≤n)))
 | .gtr=>K (.bool (decide (n<m)))
 | .geq=>K (.bool (decide (n≤m)))
 | .quo=>bif decide (n=0) then F else K (.int k (k.wrap (m.tdiv n)))
 | .rem=>bif decide (n=0) then F else K (.int k (m.tmod n))
 | .and=>∀ r:Int,r=a0S .and k m n→K (.int k r)
 | .or=>∀ r:Int,r=a0S .or k m n→K (.int k r)
 | .xor=>∀ r:Int,r=a0S .xor k m n→K (.int k r)
 | .andNot=>∀ r:Int,r=a0S .andNot k m n→K (.int k r)
 | _=>F
def a7X (op:BinOp) (k:IntKind) (m n:Int) (K:Value→Prop) (F:Prop):Prop :=
 match op with
 | .shl=>bif decide (0≤n) then (∀ r:Int,r=k.wrap (m*2^(min n.toNat k.bits))→K (.int k r)) else F
 | .shr=>bif decide (0≤n) then (∀ r:Int,r=m.fdiv (2^(min n.toNat k.bits))→K (.int k r)) else F
 | _=>F
def b59 (x y:ByteArray):Bool:=decide (x.size+y.size≤9223372036854775807)
def inB (m:Int) (n:Nat):Bool:=decide (0≤m)&&decide (m<(n:Int))
theorem F6 {m:Int} {n:Nat}:inB m n=true↔0≤m∧m<(n:Int):=by simp [inB]
def b5A (op:BinOp) (x y:ByteArray) (K:Value→Prop) (F:Prop):Prop :=
 match op with
 | .add=>bif b59 x y then K (.string (x++y)) else F
 | .eql=>K (.bool (decide (x=y)))
 | .neq=>K (.bool (!decide (x=y)))
 | .lss=>K (.bool (Op.bytesLess x.toList y.toList))
 | _=>F
def b1g:BinOp→Bool
 | .shl | .shr=>true
 | _=>false
def b5B (op:BinOp) (x y:Value) (K:Value→Prop) (F:Prop):Prop :=
 match x,y with
 | .int k m,.int k' n=>bif b1g op then a7X op k m n K F else bif decide (k=k') then b58 op k m n K F else F
 | .string a,.string b=>b5A op a b K F
 | _,_=>F
def c0E (op:UnOp) (x:Value) (K:Value→Prop) (F:Prop):Prop :=
 match op,x with
 | .not,.bool b=>K (.bool (!b))
 | .neg,.int k n=>K (.int k (k.wrap (0-n)))
 | .xor,.int k n=>∀ r:Int,r=a0S .xor k (if k.signed then -1 else k.max) n→K (.int k r)
 | _,_=>F
def a7Y (d:Option D) (x:Value) (f:Nat) (K:Value→Prop) (F:Prop):Prop :=
 match d,x with
 | some (.struct _ fs),.pointer (some ⟨b,n,none⟩)=>match fs[f]? with
  | some (_,off,_)=>K (.pointer (some ⟨b,bif Nat.beq off 0 then n else n+off,none⟩))
  | none=>F
 | _,_=>F
def U0 (n m z:Nat):Nat:=bif Nat.beq n 0 then (bif Nat.beq z 1 then m else m*z) else (bif Nat.beq z 1 then n+m else n+m*z)
theorem s8 (n m z:Nat):U0 n m z=n+m*z:=by
 unfold U0;by_cases h:n=0
 ·subst h;by_cases hz:z=1
  ·subst hz;simp
  ·simp [a1X hz]
 ·by_cases hz:z=1
  ·subst hz;simp [a1X h]
  ·simp [a1X h,a1X hz]
def a2u (d:Option D) (x i:Value) (K:Value→Prop) (F:Prop):Prop :=
 match d,x,i with
 | some (.array len _ z),.pointer (some ⟨b,n,none⟩),.int _ m=>bif inB m len then K (.pointer (some ⟨b,U0 n m.toNat z,none⟩)) else F
 | some (.slice _ z),.slice (some ⟨b,n,none⟩) len _,.int _ m=>bif inB m len then K (.pointer (some ⟨b,U0 n m.toNat z,none⟩)) else F
 | _,_,_=>F
def b1h (s d:Option D) (x:Value) (K:Value→Prop) (F:Prop):Prop :=
 match s,d,x with
 | some (.int _),some (.int k),.int _ n=>K (.int k (k.wrap n))
 | some .string,some .string,.string a=>K (.string a)
 | _,_,_=>F
def a7Z (d:Option D) (x i:Value) (K:Value→Prop) (F:Prop):Prop :=
 match d,x,i with
 | some .string,.string s,.int _ m=>bif inB m s.size then K (.int .u8 (s.get! m.toNat).toNat) else F
 | _,_,_=>F
def b5C (d:Option D) (x:Value) (K:Value→Prop) (F:Prop):Prop :=
 match d,x with
 | some .string,.string s=>K (.int .i64 s.size)
 | some (.slice _ _),.slice _ n _=>K (.int .i64 n)
 | _,_=>F
def b8n:List Value→Nat→Option Value
 | [],_=>none
 | v::_,0=>some v
 | _::r,t+1=>b8n r t
theorem c0F (l:List Value) (t:Nat):b8n l t=l[t]?:=by
 induction l generalizing t with
 | nil=>simp [b8n]
 | cons v r ih=>cases t<;>simp [b8n,ih]
def a5i (T:Tab) (o:Oper) (e:C9) (K:Value→Prop) (F:Prop):Prop :=
 match o.op with
 | .move x=>t7 (ev e x) K
 | .assign x=>t7 (ev e x) K
 | .pick c a b=>match ev e c with
  | .bool t=>t7 (bif t then ev e a else ev e b) K
  | _=>F
 | .binOp op _ x y _=>b5B op (ev e x) (ev e y) K F
 | .unOp op _ x=>c0E op (ev e x) K F
 | .nilCheck x=>match ev e x with
  | .pointer (some a)=>K (.pointer (some a))
  | _=>F
 | .fieldAddr s x f=>a7Y (X0 T s) (ev e x) f K F
 | .indexAddr t x i=>a2u (X0 T t) (ev e x) (ev e i) K F
 | .convert s d x=>b1h (X0 T s) (X0 T d) (ev e x) K F
 | .index t x i=>a7Z (X0 T t) (ev e x) (ev e i) K F
 | .extract x i=>match ev e x with
  | .tuple vs=>match b8n vs.toList i with
   | some v=>t7 v K
   | none=>F
  | _=>F
 | .call { callee:=.builtin .len,args,argTypes }=>match args.toList,argTypes.toList with
  | [x],[t]=>b5C (X0 T t) (ev e x) K F
  | _,_=>F
 | _=>F
def b8o (P:Program) (o:Oper) (e:C9) (v:Value):Prop:=∀ w,(execOp (ev e) o).run P w = .ok (.value v) w
theorem a2M {P:Program} {w:World} {s:Sem Value} {v:Value} (h:s.run P w = .ok v w):(do pure (Next.value (← s)):Sem Next).run P w = .ok (.value v) w:=by
 simp [h]
theorem run_underlying {P:Program} {w:World} {t:Nat} {d:TypeDesc} (h:P.underlying t=some d):(underlying t).run P w = .ok d w:=by
 simp [underlying,h]
theorem X9 {P:Program} {w:World} {t z:Nat} (h:(P.info? t).map (·.size)=some z):(sizeOf t).run P w = .ok z w:=by
 unfold sizeOf typeInfo;cases hi:P.info? t with
 | none=>simp [hi] at h
 | some i=>simp [hi] at h;simp [hi,h]
section sound
variable {P:Program} {T:Tab} {K:Value→Prop} {F:Prop}
theorem b2l {op:BinOp} {k:IntKind} {m n:Int} (hs:b1g op=false) (h:b58 op k m n K F) :
  (∃ v,(∀ t w,(binOp op t (.int k m) (.int k n)).run P w = .ok v w)∧K v)∨F:=by
 cases op<;>simp only [b58] at h<;>first
  | exact .inr h
  | exact absurd hs zd
  | (refine .inl ⟨_,fun t w=>?_,h⟩;simp [binOp,Op.intArith];done)
  | (refine .inl ⟨_,fun t w=>?_,h _ rfl⟩;simp [binOp,Op.intBits,a0S];done)
  | (refine .inl ⟨_,fun t w=>?_,h⟩;simp [binOp,Op.intCmp];done)
  | (refine .inl ⟨_,fun t w=>?_,h⟩;simp [binOp,Op.intCmp];rfl)
  | (by_cases hz:n=0
     ·rw [zX hz] at h;exact .inr h
     ·rw [zV hz] at h;refine .inl ⟨_,fun t w=>?_,h⟩;simp [binOp,Op.intDiv,hz];done)
theorem a9R {op:BinOp} {k k':IntKind} {m n:Int} (h:a7X op k m n K F) :
  (∃ v,(∀ t w,(binOp op t (.int k m) (.int k' n)).run P w = .ok v w)∧K v)∨F:=by
 cases op<;>simp only [a7X] at h<;>first
  | exact .inr h
  | (by_cases hn:0≤n
     ·rw [zX hn] at h;refine .inl ⟨_,fun t w=>?_,h _ rfl⟩;simp [binOp,Op.shift,Int.not_lt.2 hn];done
     ·rw [zV hn] at h;exact .inr h)
theorem a3E {x y:ByteArray} (h:x.toList=y.toList):x=y:=by
 rw [ByteArray.toList_eq,ByteArray.toList_eq] at h;cases x;cases y;simp only [ByteArray.mk.injEq];exact xX.1 h
theorem b2m {op:BinOp} {x y:ByteArray} (h:b5A op x y K F) :
  (∃ v,(∀ t w,(binOp op t (.string x) (.string y)).run P w = .ok v w)∧K v)∨F:=by
 have e:(x.toList==y.toList)=decide (x=y):=by
  by_cases hxy:x=y
  ·subst hxy;simp
  ·rw [zV hxy];simp only [beq_eq_false_iff_ne];exact fun h=>hxy (a3E h)
 cases op<;>simp only [b5A] at h<;>first
  | exact .inr h
  | (refine .inl ⟨_,fun t w=>?_,h⟩;simp only [binOp,Op.stringOp,e];rfl)
  | (cases hf:b59 x y
     ·rw [hf] at h;exact .inr h
     ·rw [hf] at h;refine .inl ⟨_,fun t w=>?_,h⟩;have hm:¬ (((x.size+y.size:Nat):Int)>IntKind.i64.max):=by
        have:=yF hf;simp only [IntKind.max,IntKind.signed,IntKind.bits];simp;omega
      simp only [binOp,Op.stringOp,zJ hm];rfl)
theorem b2n {op:BinOp} {x y:Value} (h:b5B op x y K F) :
  (∃ v,(∀ t w,(binOp op t x y).run P w = .ok v w∧∀ a b,(eqGuard op t a b x y).run P w = .ok () w)∧K v)∨F:=by
 unfold b5B at h;split at h
 ·rename_i k m k' n;have g:∀ t w a b,(eqGuard op t a b (.int k m) (.int k' n)).run P w = .ok () w:=fun t w a b=>by
   unfold eqGuard;split<;>rfl
  cases hs:b1g op with
  | true =>
   rw [hs] at h;rcases a9R (P:=P) (k':=k') h with ⟨v,h1,h2⟩|h
   ·exact .inl ⟨v,fun t w=>⟨h1 t w,fun a b=>g t w a b⟩,h2⟩
   ·exact .inr h
  | false =>
   rw [hs] at h;by_cases hk:k=k'
   ·subst hk;simp only [decide_true,cond_true,cond_false] at h;rcases b2l (P:=P) hs h with ⟨v,h1,h2⟩|h
    ·exact .inl ⟨v,fun t w=>⟨h1 t w,fun a b=>g t w a b⟩,h2⟩
    ·exact .inr h
   ·rw [zV hk] at h;exact .inr h
 ·rename_i x y;rcases b2m (P:=P) h with ⟨v,h1,h2⟩|h
  ·exact .inl ⟨v,fun t w=>⟨h1 t w,fun a b=>by unfold eqGuard;split<;>rfl⟩,h2⟩
  ·exact .inr h
 ·exact .inr h
theorem b4b {op:UnOp} {x:Value} (h:c0E op x K F):(∃ v,(∀ w,(Op.unary op x).run P w = .ok v w)∧K v)∨F:=by
 unfold c0E at h;split at h
 ·exact .inl ⟨_,fun w=>rfl,h⟩
 ·refine .inl ⟨_,fun w=>?_,h⟩;simp [Op.unary,Op.intArith]
 ·refine .inl ⟨_,fun w=>?_,h _ rfl⟩;simp [Op.unary,Op.intBits,a0S]
 ·exact .inr h
theorem a9S (hT:T.Ok P) {s f:Nat} {x:Value} (h:a7Y (X0 T s) x f K F):(∃ v,(∀ w,(Instr.fieldAt s x f).run P w = .ok v w)∧K v)∨F:=by
 unfold a7Y at h;split at h
 ·rename_i z fs b n hd;split at h
  ·rename_i ty off sz hf;refine .inl ⟨_,fun w=>?_,h⟩;obtain ⟨fa,hu,hz,hm,hall⟩:=a2a (hT _ _ hd);obtain ⟨h1,h2⟩:=hall _ (ym hf);have hfa:(fa.toList.map (fun x=>(x.type,x.offset)))[f]?=some (ty,off):=by rw [hm];simp [hf]
   simp only [List.getElem?_map,xM] at hfa;cases hff:fa[f]? with
   | none=>rw [hff] at hfa;simp at hfa
   | some fl =>
    rw [hff] at hfa;simp only [wg,wP,Prod.mk.injEq] at hfa;obtain ⟨rfl,rfl⟩:=hfa;unfold Instr.fieldAt;simp only [yq,run_underlying hu,yx,hff,Instr.sureAddr,xi,fieldPlace,X9 h1];rw [Sem.run_ite,zJ h2];simp only [xi,yx,Addr.add];by_cases h0:fl.offset=0
    ·simp [h0]
    ·simp [h0,a1X h0]
  ·exact .inr h
 ·exact .inr h
theorem H6 (b n m:Nat):(⟨b,n,none⟩:Addr).add m=⟨b,n+m,none⟩:=by
 unfold Addr.add;split
 ·rename_i h;subst h;rfl
 ·rfl
theorem a5F (hT:T.Ok P) {t:Nat} {x i:Value} (h:a2u (X0 T t) x i K F):(∃ v,(∀ w,(Instr.indexAt t x i).run P w = .ok v w)∧K v)∨F:=by
 unfold a2u at h;split at h
 ·rename_i len el z b n k m hd;obtain ⟨h1,h2,_⟩:=a4o (hT _ _ hd);cases hb:inB m len
  ·rw [hb] at h;exact .inr h
  ·rw [hb] at h;refine .inl ⟨_,fun w=>?_,h⟩;unfold Instr.indexAt;simp [asIntOf,run_underlying h1,Instr.sureAddr,F6.1 hb,X9 h2,H6,s8]
 ·rename_i el z b n len c k m hd;obtain ⟨h1,h2⟩:=a4n (hT _ _ hd);cases hb:inB m len
  ·rw [hb] at h;exact .inr h
  ·rw [hb] at h;refine .inl ⟨_,fun w=>?_,h⟩;unfold Instr.indexAt;simp [asIntOf,run_underlying h1,F6.1 hb,X9 h2,H6,s8]
 ·exact .inr h
theorem b1i (hT:T.Ok P) {s d:Nat} {x:Value} (h:b1h (X0 T s) (X0 T d) x K F):(∃ v,(∀ w,(convert s d x).run P w = .ok v w)∧K v)∨F:=by
 unfold b1h at h;split at h
 ·rename_i k0 k k1 n hs hd;refine .inl ⟨_,fun w=>?_,h⟩;unfold convert;simp [run_underlying (b57 (hT _ _ hs)),run_underlying (b57 (hT _ _ hd)),Conv.intToInt]
 ·rename_i a hs hd;refine .inl ⟨_,fun w=>?_,h⟩;unfold convert;simp [run_underlying (a3h (hT _ _ hs)),run_underlying (a3h (hT _ _ hd))]
 ·exact .inr h
theorem a9T (hT:T.Ok P) {t:Nat} {x i:Value} (h:a7Z (X0 T t) x i K F):(∃ v,(∀ w,(Instr.index t x i).run P w = .ok v w)∧K v)∨F:=by
 unfold a7Z at h;split at h
 ·rename_i s k m hd;cases hb:inB m s.size
  ·rw [hb] at h;exact .inr h
  rw [hb] at h;have hb':=F6.1 hb;refine .inl ⟨_,fun w=>?_,h⟩;unfold Instr.index;have hm:m.toNat<s.size:=by omega
  have e:s[m.toNat]?=some (s.get! m.toNat):=by
   rw [getElem?_pos s m.toNat hm];congr 1;show s.data[m.toNat]=s.data[m.toNat]!;rw [getElem!_pos s.data m.toNat hm]
  simp [asIntOf,run_underlying (a3h (hT _ _ hd)),hb'.1,e]
 ·exact .inr h
theorem b2o (hT:T.Ok P) {t:Nat} {x:Value} (h:b5C (X0 T t) x K F):(∃ v,(∀ ty w,(Builtin.len_ #[t] ty #[x]).run P w = .ok v w)∧K v)∨F:=by
 unfold b5C at h;split at h
 ·rename_i s hd;refine .inl ⟨_,fun ty w=>?_,h⟩;unfold Builtin.len_;simp [run_underlying (a3h (hT _ _ hd)),goInt]
 ·rename_i el z a n c hd;refine .inl ⟨_,fun ty w=>?_,h⟩;unfold Builtin.len_;simp [run_underlying (a4n (hT _ _ hd)).1,goInt]
 ·exact .inr h
theorem a2N {o:Oper} {e:C9} {s:Sem Value} {v:Value} (h:∀ w,s.run P w = .ok v w) (he:execOp (ev e) o=(do pure (Next.value (← s)))):b8o P o e v :=
 fun w=>by rw [he];exact a2M (h w)
theorem a19 (hT:T.Ok P) {o:Oper} {e:C9} (h:a5i T o e K F):(∃ v,b8o P o e v∧K v)∨F:=by
 obtain ⟨dst,op,type,pos,after,guard⟩:=o;unfold a5i at h;split at h<;>(try (rename_i ho;simp only at ho;subst ho))
 ·rw [V4] at h;exact .inl ⟨_,fun w=>rfl,h⟩
 ·rw [V4] at h;exact .inl ⟨_,fun w=>rfl,h⟩
 ·rename_i c a b;split at h
  ·rename_i t ht;rw [V4] at h;refine .inl ⟨_,fun w=>?_,h⟩;cases t<;>simp [execOp,ht,asBool]
  ·exact .inr h
 ·rcases b2n (P:=P) h with ⟨v,h1,h2⟩|h
  ·refine .inl ⟨v,fun w=>?_,h2⟩;simp [execOp,(h1 _ w).1,(h1 _ w).2]
  ·exact .inr h
 ·rcases b4b (P:=P) h with ⟨v,h1,h2⟩|h
  ·exact .inl ⟨v,a2N h1 rfl,h2⟩
  ·exact .inr h
 ·split at h
  ·rename_i a ha;refine .inl ⟨_,fun w=>?_,h⟩;simp [execOp,ha]
  ·exact .inr h
 ·rcases a9S hT h with ⟨v,h1,h2⟩|h
  ·exact .inl ⟨v,a2N h1 rfl,h2⟩
  ·exact .inr h
 ·rcases a5F hT h with ⟨v,h1,h2⟩|h
  ·exact .inl ⟨v,a2N h1 rfl,h2⟩
  ·exact .inr h
 ·rcases b1i hT h with ⟨v,h1,h2⟩|h
  ·exact .inl ⟨v,a2N h1 rfl,h2⟩
  ·exact .inr h
 ·rcases a9T hT h with ⟨v,h1,h2⟩|h
  ·exact .inl ⟨v,a2N h1 rfl,h2⟩
  ·exact .inr h
 ·rename_i x i;split at h
  ·rename_i vs hvs;split at h
   ·rename_i v hv;rw [V4] at h;refine .inl ⟨v,fun w=>?_,h⟩;rw [c0F,xM] at hv;simp [execOp,hvs,Instr.extract,hv]
   ·exact .inr h
  ·exact .inr h
 ·rename_i args argTypes;split at h
  ·rename_i x t hx ht;rcases b2o (P:=P) hT h with ⟨v,h1,h2⟩|h
   ·refine .inl ⟨v,fun w=>?_,h2⟩;have e1:args=#[x]:=xX.1 hx;have e2:argTypes=#[t]:=xX.1 ht;subst e1;subst e2;simp [execOp,resolve,invoke,builtin,h1]
   ·exact .inr h
  ·exact .inr h
 ·exact .inr h
end sound
def m9 (P:Program) (w:World) (t:Nat) (a:Addr) (v:Value):Prop:=(Instr.loadAt t (.pointer (some a))).run P w = .ok v w
def a83 (P:Program) (w:World) (t:Nat) (a:Addr) (v:Value) (w':World):Prop:=(Instr.storeAt t (.pointer (some a)) v).run P w = .ok () w'
structure K8 (P:Program) (w:World) (t:Nat) (a:Addr) (K:Value→Prop):Prop where
 ex:∃ v,m9 P w t a v∧K v
structure a0D (P:Program) (w:World) (t:Nat) (a:Addr) (v:Value) (K:World→Prop):Prop where
 ex:∃ w',a83 P w t a v w'∧K w'
structure b2p (P:Program) (f:Nat) (args:Array Value) (w:World) (K:Value→World→Prop):Prop where
 ex:Calls P f args w (fun r w'=>∃ v,r = .returned v∧K v w')
structure L6 (P:Program) (o:Oper) (e:C9) (w:World) (K:Value→World→Prop):Prop where
 ex:(∃ v w',(execOp (ev e) o).run P w = .ok (.value v) w'∧K v w')∨(∃ w',(execOp (ev e) o).run P w = .ok .skip w'∧K undef w') ∨
  (∃ f as,(execOp (ev e) o).run P w = .ok (.enter f as) w∧Calls P f as w (fun r w'=>∃ v,r = .returned v∧K v w'))
structure S3 (P:Program) (C:World→Prop) (t:Nat) (a:Addr) (K:Value→Prop):Prop where
 ex:∃ v,(∀ w,C w→m9 P w t a v)∧K v
structure b5D (P:Program) (C:World→Prop) (f:Nat) (args:Array Value) (K:Value→Prop):Prop where
 ex:∃ v,(∀ w,C w→Calls P f args w (fun r w'=>r = .returned v∧C w'))∧K v
structure a68 (P:Program) (C:World→Prop) (o:Oper) (e:C9) (K:Value→Prop):Prop where
 ex:∃ v,(∀ w,C w→(execOp (ev e) o).run P w = .ok (.value v) w)∧K v
structure Prg where
 P:Program
 T:Tab
 fn:Nat→Bool
 tab:T.Ok P
 mixed:P.follows .mixedOrders=true
 enters:∀ f,fn f=true→∃ x,P.funcs[f]?=some x∧x.body.isSome=true∧x.name ≠ "runtime.NumGoroutine"
def b4c (G:Prg) (o:Oper) (e:C9) (w:World) (K:Value→World→Prop):Prop :=
 a5i G.T o e (fun v=>K v w) (match o.op with
  | .load t x=>match ev e x with
   | .pointer (some a)=>K8 G.P w t a (fun v=>t7 v fun v=>K v w)
   | _=>False
  | .store t x y=>match ev e x with
   | .pointer (some a)=>a0D G.P w t a (ev e y) (fun w'=>K undef w')
   | _=>False
  | .box t x=>c2W (ev e x) (fun cs=>K (.pointer (some ⟨w.heap.size,0,none⟩)) (w.alloc (.cells cs t)))
  | .call { callee:=.value (.func f),args,.. }=>bif G.fn f then b2p G.P f (args.toList.map (ev e)).toArray w K else False
  | _=>L6 G.P o e w K)
def a5H (G:Prg) (C:World→Prop) (o:Oper) (e:C9) (K:Value→Prop):Prop :=
 a5i G.T o e K (match o.op with
  | .load t x=>match ev e x with
   | .pointer (some a)=>S3 G.P C t a (fun v=>t7 v K)
   | _=>False
  | .call { callee:=.value (.func f),args,.. }=>bif G.fn f then b5D G.P C f (args.toList.map (ev e)).toArray (fun v=>t7 v K) else False
  | _=>a68 G.P C o e K)
section
variable {G:Prg} {o:Oper} {e:C9}
theorem b0i {f:Nat} {args:Array Operand} {argTypes:Array Nat} {dst:Option Tmp} {type:Nat} {pos:String} {after:Array Edge} {guard:Option (Nat×Bool)} (hf:G.fn f=true) (w:World) :
  (execOp (ev e) { dst,op:=.call { callee:=.value (.func f),args,argTypes },type,pos,after,guard }).run G.P w = .ok (.enter f (args.toList.map (ev e)).toArray) w:=by
 obtain ⟨x,h1,h2,h3⟩:=G.enters f hf;have e1:(args.toList.map (ev e)).toArray=args.map (ev e):=by cases args;simp
 rw [e1];simp [execOp,resolve,ev,Deferred.ofValue,invoke,callFunc,h1,h3];cases hb:x.body with
 | none=>rw [hb] at h2;cases h2
 | some c=>simp
theorem a1a {w:World} {K:Value→World→Prop} {Q:Exit→Act→World→Prop} {next:Act→World→Prop} {a:Act} (ha:z6 a=e)
  (hK:∀ v w',K v w'→next (a.put o.dst v) w') (h:b4c G o e w K):o.wp G.P a w next Q:=by
 have he:a.eval=ev e:=by rw [X8,ha]
 unfold Oper.wp;rw [he];rcases a19 G.tab h with ⟨v,h1,h2⟩|hh
 ·rw [h1 w];exact hK _ _ h2
 ·clear h;have h:=hh;clear hh;obtain ⟨dst,op,type,pos,after,guard⟩:=o;split at h
  ·rename_i t x ho;simp only at ho;subst ho;split at h
   ·rename_i ad hx;obtain ⟨v,h1,h2⟩:=h.ex;rw [V4] at h2;have e1:(execOp (ev e) { dst,op:=.load t x,type,pos,after,guard }).run G.P w = .ok (.value v) w:=by
     show (do pure (Next.value (← Instr.loadAt t (ev e x))):Sem Next).run G.P w=_
     rw [hx];exact a2M h1
    rw [e1];exact hK _ _ h2
   ·exact h.elim
  ·rename_i t x y ho;simp only at ho;subst ho;split at h
   ·rename_i ad hx;obtain ⟨w',h1,h2⟩:=h.ex;have e1:(execOp (ev e) { dst,op:=.store t x y,type,pos,after,guard }).run G.P w = .ok .skip w':=by
     show (do Instr.storeAt t (ev e x) (ev e y);pure Next.skip:Sem Next).run G.P w=_
     rw [hx];have:=h1;unfold a83 at this;simp [this]
    rw [e1];exact hK _ _ h2
   ·exact h.elim
  ·rename_i t x ho;simp only at ho;subst ho;rw [a82] at h;exact hK _ _ h
  ·rename_i f args argTypes ho;simp only at ho;subst ho;cases hf:G.fn f
   ·rw [hf] at h;exact h.elim
   ·rw [hf] at h;rw [b0i hf];exact h.ex.mono fun r w' ⟨v,hr,hk⟩=>by subst hr;exact hK _ _ hk
  ·rcases h.ex with ⟨v,w',h1,h2⟩|⟨w',h1,h2⟩|⟨f,as,h1,h2⟩
   ·rw [h1];exact hK _ _ h2
   ·rw [h1];exact hK _ _ h2
   ·rw [h1];exact h2.mono fun r w' ⟨v,hr,hk⟩=>by subst hr;exact hK _ _ hk
theorem a3F {C:World→Prop} {K:Value→Prop} {next:Act→Prop} {a:Act} (ha:z6 a=e)
  (hK:∀ v,K v→next (a.put o.dst v)) (h:a5H G C o e K):o.quiet G.P a C next:=by
 have he:a.eval=ev e:=by rw [X8,ha]
 unfold Oper.quiet Oper.quietAt;rw [he];rcases a19 G.tab h with ⟨v,h1,h2⟩|hh
 ·exact ⟨v,fun w _=>by rw [h1 w];exact ⟨rfl,rfl⟩,hK _ h2⟩
 ·clear h;have h:=hh;clear hh;obtain ⟨dst,op,type,pos,after,guard⟩:=o;split at h
  ·rename_i t x ho;simp only at ho;subst ho;split at h
   ·rename_i ad hx;obtain ⟨v,h1,h2⟩:=h.ex;rw [V4] at h2;refine ⟨v,fun w hw=>?_,hK _ h2⟩;have e1:(execOp (ev e) { dst,op:=.load t x,type,pos,after,guard }).run G.P w = .ok (.value v) w:=by
     show (do pure (Next.value (← Instr.loadAt t (ev e x))):Sem Next).run G.P w=_
     rw [hx];exact a2M (h1 w hw)
    rw [e1];exact ⟨rfl,rfl⟩
   ·exact h.elim
  ·rename_i f args argTypes ho;simp only at ho;subst ho;cases hf:G.fn f
   ·rw [hf] at h;exact h.elim
   ·rw [hf] at h;obtain ⟨v,h1,h2⟩:=h.ex;rw [V4] at h2;refine ⟨v,fun w hw=>?_,hK _ h2⟩;rw [b0i hf];exact ⟨rfl,h1 w hw⟩
  ·obtain ⟨v,h1,h2⟩:=h.ex;exact ⟨v,fun w hw=>by rw [h1 w hw];exact ⟨rfl,rfl⟩,hK _ h2⟩
end
def a3i:List Oper→Nat→Option Nat
 | [],_=>none
 | o::_,0=>o.dst
 | _::r,j+1=>a3i r j
theorem b6F (ops:List Oper) (j:Nat):a3i ops j=(ops[j]?).bind (·.dst):=by
 induction ops generalizing j with
 | nil=>simp [a3i]
 | cons o r ih=>cases j<;>simp [a3i,ih]
def isB (v:Value):Option Bool:=match v with | .bool b=>some b|_=>none
def a4p (G:Prg) (ops:List Oper) (o:Oper) (ih:C9→World→(C9→World→Prop)→Prop) (e:C9) (w:World) (K:C9→World→Prop):Prop :=
 match o.guard with
 | none=>b4c G o e w (fun v w'=>ih (a0h e o.dst v) w' K)
 | some (j,want)=>match a3i ops j with
  | none=>ih (a0h e o.dst undef) w K
  | some dj=>match e dj with
   | .bool b=>match want with
    | true=>bif b
     then b4c G o (upd e dj (.bool true)) w (fun v w'=>ih (a0h (upd e dj (.bool true)) o.dst v) w' K)
     else ih (a0h (upd e dj (.bool false)) o.dst undef) w K
    | false=>bif b
     then ih (a0h (upd e dj (.bool true)) o.dst undef) w K
     else b4c G o (upd e dj (.bool false)) w (fun v w'=>ih (a0h (upd e dj (.bool false)) o.dst v) w' K)
   | _=>ih (a0h e o.dst undef) w K
noncomputable def Y0 (G:Prg) (ops:List Oper) (l:List Oper):C9→World→(C9→World→Prop)→Prop :=
 List.rec (motive:=fun _=>C9→World→(C9→World→Prop)→Prop) (fun e w K=>K e w) (fun o _ ih=>a4p G ops o ih) l
theorem a5j {G:Prg} {ops:List Oper} {o:Oper} {rest:List Oper} {e:C9} {w:World} {K:C9→World→Prop} :
  Y0 G ops (o::rest) e w K=a4p G ops o (Y0 G ops rest) e w K:=rfl
def b0j (G:Prg) (C:World→Prop) (ops:List Oper) (o:Oper) (ih:C9→(C9→Prop)→Prop) (e:C9) (K:C9→Prop):Prop :=
 match o.guard with
 | none=>a5H G C o e (fun v=>ih (a0h e o.dst v) K)
 | some (j,want)=>match a3i ops j with
  | none=>ih (a0h e o.dst undef) K
  | some dj=>match e dj with
   | .bool b=>match want with
    | true=>bif b
     then a5H G C o (upd e dj (.bool true)) (fun v=>ih (a0h (upd e dj (.bool true)) o.dst v) K)
     else ih (a0h (upd e dj (.bool false)) o.dst undef) K
    | false=>bif b
     then ih (a0h (upd e dj (.bool true)) o.dst undef) K
     else a5H G C o (upd e dj (.bool false)) (fun v=>ih (a0h (upd e dj (.bool false)) o.dst v) K)
   | _=>ih (a0h e o.dst undef) K
noncomputable def vcQ (G:Prg) (C:World→Prop) (ops:List Oper) (l:List Oper):C9→(C9→Prop)→Prop :=
 List.rec (motive:=fun _=>C9→(C9→Prop)→Prop) (fun e K=>K e) (fun o _ ih=>b0j G C ops o ih) l
theorem a3G {G:Prg} {C:World→Prop} {ops:List Oper} {o:Oper} {rest:List Oper} {e:C9} {K:C9→Prop} :
  vcQ G C ops (o::rest) e K=b0j G C ops o (vcQ G C ops rest) e K:=rfl
theorem a0E {b:Bool} {A B:Prop} (h1:b=true→A) (h2:b=false→B):bif b then A else B:=by
 cases b
 ·exact h2 rfl
 ·exact h1 rfl
theorem d7 {p:Prop} [Decidable p] {A B:Prop} (h1:p→A) (h2:¬ p→B):bif decide p then A else B:=by
 by_cases h:p
 ·rw [zX h];exact h1 h
 ·rw [zV h];exact h2 h
theorem y8 {p:Prop} [Decidable p] {A B:Prop} (h1:¬ p→A) (h2:p→B):bif !decide p then A else B:=by
 by_cases h:p
 ·rw [zX h];exact h2 h
 ·rw [zV h];exact h1 h
theorem A0 {p:Prop} [Decidable p] {A B:Prop} (h:p) (h1:A):bif decide p then A else B:=by rw [zX h];exact h1
theorem o9 {p:Prop} [Decidable p] {A B:Prop} (h:¬ p) (h1:B):bif decide p then A else B:=by rw [zV h];exact h1
theorem A1 {b:Bool} {A B:Prop} (h:b=true) (h1:A):bif b then A else B:=by rw [h];exact h1
section
variable {G:Prg} {ops:List Oper}
theorem b2q {a:Act} {j:Nat} (hN:ops.all (S2 a.tmps.size)=true) :
  yielded ops.toArray a.tmps j=match a3i ops j with|none=>none|some dj=>isB (z6 a dj):=by
 unfold yielded;rw [b6F];simp only [List.getElem?_toArray];cases ho:ops[j]? with
 | none=>rfl
 | some o =>
  simp only [wD];cases hd:o.dst with
  | none=>rfl
  | some d =>
   have h1:=zl.1 hN o (ym ho);simp only [S2,hd,Nat.blt_eq] at h1;simp only [wD,z6,xF];rw [we h1];simp only [Option.getD_some];cases a.tmps[d]<;>rfl
def I4 (ops:List Oper) (e:C9) (o:Oper):Bool :=
 match o.guard with
 | none=>true
 | some (j,want)=>match a3i ops j with
  | none=>false
  | some dj=>match isB (e dj) with
   | some b=>bif want then b else !b
   | none=>false
theorem a0s {a:Act} {o:Oper} (hN:ops.all (S2 a.tmps.size)=true) :
  Region.wanted o (yielded ops.toArray a.tmps)=I4 ops (z6 a) o:=by
 unfold Region.wanted I4;cases o.guard with
 | none=>rfl
 | some g =>
  obtain ⟨j,want⟩:=g;simp only [b2q hN];cases a3i ops j with
  | none=>rfl
  | some dj =>
   simp only
   cases isB (z6 a dj) with
   | none=>rfl
   | some b=>cases b<;>cases want<;>rfl
theorem a7l {Q:Exit→Act→World→Prop} {K:C9→World→Prop} {N:Nat} (hN:ops.all (S2 N)=true) :
  ∀ (l:List Oper) (a:Act) (w:World),l.all (S2 N)=true→a.tmps.size=N→a.defers=ds →
   (∀ a' w',a'.tmps.size=N→a'.defers=ds→K (z6 a') w'→Q .normal a' w')→Y0 G ops l (z6 a) w K→wpList G.P ops.toArray Q l a w:=by
 intro l
 induction l with
 | nil=>intro a w _ hs hd hQ h;exact hQ a w hs hd h
 | cons o rest ih =>
  intro a w hl hs hd hQ h;simp only [List.all_cons,zP] at hl;have hN':ops.all (S2 a.tmps.size)=true:=by rw [hs];exact hN
  have hput:∀ v,z6 (a.put o.dst v)=a0h (z6 a) o.dst v:=fun v=>a0Z v (by rw [hs];exact hl.1)
  have next:∀ v w',Y0 G ops rest (a0h (z6 a) o.dst v) w' K→wpList G.P ops.toArray Q rest (a.put o.dst v) w':=fun v w' h' =>
   ih (a.put o.dst v) w' hl.2 (by rw [a1Z,hs]) (by rw [a0r,hd]) hQ (by rw [hput];exact h')
  unfold wpList;rw [a0s hN'];rw [a5j] at h;unfold a4p at h;split at h
  ·rename_i hg;rw [zM (by simp [I4,hg])]
   exact .inl (a1a rfl next h)
  ·rename_i j want hg;split at h
   ·rename_i hj;rw [zJ (by simp [I4,hg,hj])]
    exact next _ _ h
   ·rename_i dj hj;split at h
    ·rename_i b hb;have same:upd (z6 a) dj (.bool b)=z6 a:=by rw [← hb];exact a1Y _ _
     cases want<;>cases b<;>simp only [cond_true,cond_false] at h<;>rw [same] at h
     ·rw [zM (by simp [I4,hg,hj,hb,isB])];exact .inl (a1a rfl next h)
     ·rw [zJ (by simp [I4,hg,hj,hb,isB])];exact next _ _ h
     ·rw [zJ (by simp [I4,hg,hj,hb,isB])];exact next _ _ h
     ·rw [zM (by simp [I4,hg,hj,hb,isB])];exact .inl (a1a rfl next h)
    ·rename_i hnb;have hv:isB (z6 a dj)=none:=by
      cases hx:z6 a dj<;>first|rfl|exact absurd hx (hnb _)
     rw [zJ (by simp [I4,hg,hj,hv])]
     exact next _ _ h
theorem b0k {C:World→Prop} {K:C9→Prop} {Q:Act→Prop} {N:Nat} (hN:ops.all (S2 N)=true) :
  ∀ (l:List Oper) (a:Act),l.all (S2 N)=true→a.tmps.size=N→a.defers=ds →
   (∀ a',a'.tmps.size=N→a'.defers=ds→K (z6 a')→Q a')→vcQ G C ops l (z6 a) K→wpQuiet G.P ops.toArray C Q l a:=by
 intro l
 induction l with
 | nil=>intro a _ hs hd hQ h;exact hQ a hs hd h
 | cons o rest ih =>
  intro a hl hs hd hQ h;simp only [List.all_cons,zP] at hl;have hN':ops.all (S2 a.tmps.size)=true:=by rw [hs];exact hN
  have hput:∀ v,z6 (a.put o.dst v)=a0h (z6 a) o.dst v:=fun v=>a0Z v (by rw [hs];exact hl.1)
  have next:∀ v,vcQ G C ops rest (a0h (z6 a) o.dst v) K→wpQuiet G.P ops.toArray C Q rest (a.put o.dst v):=fun v h' =>
   ih (a.put o.dst v) hl.2 (by rw [a1Z,hs]) (by rw [a0r,hd]) hQ (by rw [hput];exact h')
  unfold wpQuiet;rw [a0s hN'];rw [a3G] at h;unfold b0j at h;split at h
  ·rename_i hg;rw [zM (by simp [I4,hg])]
   exact a3F rfl next h
  ·rename_i j want hg;split at h
   ·rename_i hj;rw [zJ (by simp [I4,hg,hj])]
    exact next _ h
   ·rename_i dj hj;split at h
    ·rename_i b hb;have same:upd (z6 a) dj (.bool b)=z6 a:=by rw [← hb];exact a1Y _ _
     cases want<;>cases b<;>simp only [cond_true,cond_false] at h<;>rw [same] at h
     ·rw [zM (by simp [I4,hg,hj,hb,isB])];exact a3F rfl next h
     ·rw [zJ (by simp [I4,hg,hj,hb,isB])];exact next _ h
     ·rw [zJ (by simp [I4,hg,hj,hb,isB])];exact next _ h
     ·rw [zM (by simp [I4,hg,hj,hb,isB])];exact a3F rfl next h
    ·rename_i hnb;have hv:isB (z6 a dj)=none:=by
      cases hx:z6 a dj<;>first|rfl|exact absurd hx (hnb _)
     rw [zJ (by simp [I4,hg,hj,hv])]
     exact next _ h
theorem a7M {C:World→Prop} {Q:Exit→Act→World→Prop} {ops:Array Oper}:∀ (l:List Oper) (a:Act) (w:World),C w →
  wpQuiet G.P ops C (fun a'=>∀ w',C w'→Q .normal a' w') l a→wpList G.P ops Q l a w:=by
 intro l
 induction l with
 | nil=>intro a w hw h;exact h w hw
 | cons o rest ih =>
  intro a w hw h;unfold wpQuiet at h;unfold wpList;split
  ·rename_i hwan;rw [zM hwan] at h;exact .inl (Oper.wp_of_quiet hw (fun a' w' hw' hk=>ih a' w' hw' hk) h)
  ·rename_i hwan;rw [zJ hwan] at h;exact ih _ w hw h
end
def b1j (next:C9→World→Prop) (Q:Exit→C9→World→Prop):Exit→C9→World→Prop
 | .normal,e,w=>next e w
 | x,e,w=>Q x e w
def c0G (id:Nat) (Q:Exit→C9→World→Prop):Exit→C9→World→Prop
 | .exit j,e,w=>bif Nat.beq j id then Q .normal e w else Q (.exit j) e w
 | x,e,w=>Q x e w
def b2r (next:C9→Prop) (Q:Exit→C9→Prop):Exit→C9→Prop
 | .normal,e=>next e
 | x,e=>Q x e
def c0H (id:Nat) (Q:Exit→C9→Prop):Exit→C9→Prop
 | .exit j,e=>bif Nat.beq j id then Q .normal e else Q (.exit j) e
 | x,e=>Q x e
def U3 (N:Nat):Code→Bool
 | .skip | .exit _ | .ret=>true
 | .region _ ops _=>ops.toList.all (S2 N)
 | .seq a b=>U3 N a&&U3 N b
 | .cond _ a b=>U3 N a&&U3 N b
 | .block _ a=>U3 N a
 | .loop a=>U3 N a
 | _=>false
def a1j:Code→Bool
 | .region _ ops draw=>!draw||Region.lexB .any ops.toList.toArray
 | .seq a b=>a1j a&&a1j b
 | .cond _ a b=>a1j a&&a1j b
 | .block _ a=>a1j a
 | .loop a=>a1j a
 | _=>true
def L8 (l:List Oper) (t:Nat):Bool:=l.any fun o=>match o.dst with|some d=>Nat.beq t d|none=>false
def S4:Code→Nat→Bool
 | .region _ ops _,t=>L8 ops.toList t
 | .seq a b,t=>S4 a t||S4 b t
 | .cond _ a b,t=>S4 a t||S4 b t
 | .block _ a,t=>S4 a t
 | .loop a,t=>S4 a t
 | _,_=>false
structure b0l (body:C9→World→(Exit→C9→World→Prop)→Prop) (e:C9) (w:World) (Q:Exit→C9→World→Prop):Prop where
 ex:∃ (I:Nat→C9→World→Prop) (n:Nat),I n e w∧∀ n e1 w1,I n e1 w1→body e1 w1 (b1j (fun e2 w2=>∃ n',n'<n∧I n' e2 w2) Q)
structure b2s (body:C9→(Exit→C9→Prop)→Prop) (e:C9) (Q:Exit→C9→Prop):Prop where
 ex:∃ (I:Nat→C9→Prop) (n:Nat),I n e∧∀ n e1,I n e1→body e1 (b2r (fun e2=>∃ n',n'<n∧I n' e2) Q)
def a0X:List Oper→Nat→Option Oper
 | [],_=>none
 | o::_,0=>some o
 | _::r,j+1=>a0X r j
theorem a0F (ops:List Oper) (j:Nat):a0X ops j=ops[j]?:=by
 induction ops generalizing j with
 | nil=>rfl
 | cons o r ih=>cases j<;>simp [a0X,ih]
def pick:List Oper→List Nat→List Oper
 | _,[]=>[]
 | ops,i::r=>match a0X ops i with|some o=>o::pick ops r|none=>pick ops r
def a84 (o:Oper):Bool:=match o.op with | .call { callee:=.value (.func _),.. }=>false|_=>true
inductive Alt where
 | nil
 | done
 | cons (i:Nat) (t r:Alt)
def Alt.depth:Alt→Nat
 | .nil=>0
 | .done=>0
 | .cons _ t r=>max (t.depth+1) r.depth
noncomputable def vcT (G:Prg) (ops:List Oper) (a:Alt):C9→World→(C9→World→Prop)→Prop :=
 Alt.rec (motive:=fun _=>C9→World→(C9→World→Prop)→Prop) (fun _ _ _=>True) (fun e w K=>K e w)
  (fun i _ _ it ir e w K=>(match a0X ops i with|some o=>Y0 G ops [o] e w (fun e w=>it e w K)|none=>False)∧ir e w K) a
noncomputable def a7N (G:Prg) (S:World→Prop) (ops:List Oper) (a:Alt):C9→World→(C9→World→Prop)→Prop :=
 Alt.rec (motive:=fun _=>C9→World→(C9→World→Prop)→Prop) (fun _ _ _=>True) (fun e w K=>K e w)
  (fun i _ _ it ir e w K=>(match a0X ops i with|some o=>Y0 G ops [o] e w (fun e w=>S w∧it e w K)|none=>False)∧ir e w K) a
def a4q (ops:Array Oper):List Nat→Array Bool→Bool
 | [],_=>true
 | i::r,listed=>Region.free .any ops listed i&&(Region.ready .any ops listed).contains i&&(match ops[i]? with|some o=>a84 o|none=>false)&&a4q ops r (listed.setIfInBounds i true)
def b1k:List Nat→Array Bool→Array Bool
 | [],l=>l
 | i::r,l=>b1k r (l.setIfInBounds i true)
def Y1 (ops:Array Oper):Alt→Array Bool→Option (List Nat)→Bool
 | .done,listed,none=>(Region.ready .any ops listed).isEmpty
 | .done,_,some _=>false
 | .nil,_,none=>false
 | .nil,_,some rs=>rs.isEmpty
 | .cons i t r,listed,o=>match (match o with|none=>Region.ready .any ops listed|some rs=>rs) with
  | j::rs=>Nat.beq i j&&Y1 ops t (listed.setIfInBounds i true) none&&Y1 ops r listed (some rs)
  | []=>false
section
variable {G:Prg} {ops:List Oper}
theorem a3j {o:Oper} {e:C9} {K:Value→Prop} (hn:a84 o=true) (h:a5H G (fun _=>True) o e K):∃ v,(∀ w,(execOp (ev e) o).run G.P w = .ok (.value v) w)∧K v:=by
 rcases a19 G.tab h with ⟨v,h1,h2⟩|hh
 ·exact ⟨v,h1,h2⟩
 ·clear h;have h:=hh;clear hh;obtain ⟨dst,op,type,pos,after,guard⟩:=o;split at h
  ·rename_i t x ho;simp only at ho;subst ho;split at h
   ·rename_i ad hx;obtain ⟨v,h1,h2⟩:=h.ex;rw [V4] at h2;refine ⟨v,fun w=>?_,h2⟩;show (do pure (Next.value (← Instr.loadAt t (ev e x))):Sem Next).run G.P w=_
    rw [hx];exact a2M (h1 w trivial)
   ·exact h.elim
  ·rename_i f args argTypes ho;simp only at ho;subst ho;simp [a84] at hn
  ·obtain ⟨v,h1,h2⟩:=h.ex;exact ⟨v,fun w=>h1 w trivial,h2⟩
theorem a5I {Q:Exit→Act→World→Prop} {N:Nat} (hN:ops.all (S2 N)=true) {i:Nat} {o:Oper} (hi:ops.toArray[i]?=some o) {a:Act} {w:World} (hs:a.tmps.size=N)
  {ih:C9→World→(C9→World→Prop)→Prop} {K:C9→World→Prop} {next:Act→World→Prop} (hnext:∀ v w',ih (a0h (z6 a) o.dst v) w' K→next (a.put o.dst v) w') (h:a4p G ops o ih (z6 a) w K):wpOp G.P ops.toArray Q i next a w:=by
 have hN':ops.all (S2 a.tmps.size)=true:=by rw [hs];exact hN
 unfold wpOp;simp only [hi];rw [a0s hN'];unfold a4p at h;split at h
 ·rename_i hg;rw [zM (by simp [I4,hg])]
  exact .inl (a1a rfl hnext h)
 ·rename_i j want hg;split at h
  ·rename_i hj;rw [zJ (by simp [I4,hg,hj])]
   exact hnext _ _ h
  ·rename_i dj hj;split at h
   ·rename_i b hb;have same:upd (z6 a) dj (.bool b)=z6 a:=by rw [← hb];exact a1Y _ _
    cases want<;>cases b<;>simp only [cond_true,cond_false] at h<;>rw [same] at h
    ·rw [zM (by simp [I4,hg,hj,hb,isB])];exact .inl (a1a rfl hnext h)
    ·rw [zJ (by simp [I4,hg,hj,hb,isB])];exact hnext _ _ h
    ·rw [zJ (by simp [I4,hg,hj,hb,isB])];exact hnext _ _ h
    ·rw [zM (by simp [I4,hg,hj,hb,isB])];exact .inl (a1a rfl hnext h)
   ·rename_i hnb;have hv:isB (z6 a dj)=none:=by
     cases hx:z6 a dj<;>first|rfl|exact absurd hx (hnb _)
    rw [zJ (by simp [I4,hg,hj,hv])]
    exact hnext _ _ h
theorem b6G {Q:Exit→Act→World→Prop} {K:C9→World→Prop} {N:Nat} (hN:ops.all (S2 N)=true) (hQ:∀ a w,a.tmps.size=N→a.defers=ds→K (z6 a) w→Q .normal a w) :
  ∀ (t:Alt) (fuel:Nat) (listed:Array Bool) (a:Act) (w:World),t.depth≤fuel→a.tmps.size=N→a.defers=ds→vcT G ops t (z6 a) w K →
   (Y1 ops.toArray t listed none=true→wpAny G.P .any ops.toArray Q fuel listed a w) ∧
   (∀ rs f,fuel=f+1→Y1 ops.toArray t listed (some rs)=true→∀ i∈rs,wpOp G.P ops.toArray Q i (wpAny G.P .any ops.toArray Q f (listed.setIfInBounds i true)) a w):=by
 intro t
 induction t with
 | nil =>
  intro fuel listed a w _ _ _ _;exact ⟨fun h=>by simp [Y1] at h,fun rs f _ h i hi=>by simp [Y1] at h;subst h;cases hi⟩
 | done =>
  intro fuel listed a w _ hs hd h;refine ⟨fun hk=>?_,fun rs f _ h=>by simp [Y1] at h⟩
  have hr:Region.ready .any ops.toArray listed=[]:=by simpa [Y1] using hk
  have hq:=hQ a w hs hd h;cases fuel with
  | zero=>exact ⟨hr,hq⟩
  | succ n=>exact ⟨fun _=>hq,by rw [hr];simp⟩
 | cons i t r iht ihr =>
  intro fuel listed a w hdp hs hd h;have h:(match a0X ops i with|some o=>Y0 G ops [o] (z6 a) w (fun e w=>vcT G ops t e w K)|none=>False)∧vcT G ops r (z6 a) w K:=h
  obtain ⟨h1,h2⟩:=h;simp only [Alt.depth] at hdp;have core:∀ f,fuel=f+1→∀ j rs,Nat.beq i j=true→Y1 ops.toArray t (listed.setIfInBounds i true) none=true→Y1 ops.toArray r listed (some rs)=true→∀ k∈j::rs,wpOp G.P ops.toArray Q k (wpAny G.P .any ops.toArray Q f (listed.setIfInBounds k true)) a w:=by
   intro f hf j rs hij ht hr k hk;have hij:=zu hij;subst hij;rcases yV.1 hk with rfl|hk
   ·cases ho:a0X ops k with
    | none=>rw [ho] at h1;exact h1.elim
    | some o =>
     rw [ho] at h1;rw [a0F] at ho;have hodst:S2 N o=true:=zl.1 hN o (ym ho);refine a5I hN (by simpa using ho) hs (ih:=fun e w K=>K e w) (K:=fun e w=>vcT G ops t e w K) (fun v w' hv=>?_) h1
     have hput:z6 (a.put o.dst v)=a0h (z6 a) o.dst v:=a0Z v (by rw [hs];exact hodst)
     exact (iht f (listed.setIfInBounds k true) (a.put o.dst v) w' zo (by rw [a1Z,hs]) (by rw [a0r,hd]) (by rw [hput];exact hv)).1 ht
   ·exact (ihr fuel listed a w zo hs hd h2).2 rs f hf hr k hk
  refine ⟨fun hk=>?_,fun rs f hf hk=>?_⟩
  ·cases fuel with
   | zero=>omega
   | succ f =>
    simp only [Y1] at hk;cases hr:Region.ready .any ops.toArray listed with
    | nil=>rw [hr] at hk;cases hk
    | cons j rs =>
     rw [hr] at hk;simp only [zP] at hk;refine ⟨fun h0=>?_,?_⟩
     ·rw [hr] at h0;cases h0
     ·rw [hr];exact core f rfl j rs hk.1.1 hk.1.2 hk.2
  ·simp only [Y1] at hk;cases rs with
   | nil=>cases hk
   | cons j rs =>
    simp only [zP] at hk;exact core f hf j rs hk.1.1 hk.1.2 hk.2
theorem b2t {Q:Exit→Act→World→Prop} {K:C9→Prop} {N:Nat} (hN:ops.all (S2 N)=true) (hs0:Region.noSelect ops.toArray=true) (hp:∀ c a w,¬ Q (.panic c) a w) :
  ∀ (l:List Nat) (fuel:Nat) (listed:Array Bool) (a:Act) (w:World),a.tmps.size=N→a.defers=ds→a4q ops.toArray l listed=true →
   (∀ a',a'.tmps.size=N→a'.defers=ds→K (z6 a')→wpAny G.P .any ops.toArray Q fuel (b1k l listed) a' w) →
   vcQ G (fun _=>True) ops (pick ops l) (z6 a) K→wpAny G.P .any ops.toArray Q (fuel+l.length) listed a w:=by
 intro l
 induction l with
 | nil=>intro fuel listed a w hs hd _ hK h;exact hK a hs hd h
 | cons i r ih =>
  intro fuel listed a w hs hd hok hK h;simp only [a4q,zP] at hok;obtain ⟨⟨⟨h1,h2⟩,h3⟩,h4⟩:=hok;cases ho:ops.toArray[i]? with
  | none=>rw [ho] at h3;cases h3
  | some o =>
   rw [ho] at h3;have ho':a0X ops i=some o:=by rw [a0F];simpa using ho
   have hodst:S2 N o=true:=zl.1 hN o (ym (by rw [← a0F];exact ho'))
   have hN':ops.all (S2 a.tmps.size)=true:=by rw [hs];exact hN
   have hput:∀ v,z6 (a.put o.dst v)=a0h (z6 a) o.dst v:=fun v=>a0Z v (by rw [hs];exact hodst)
   simp only [pick,ho'] at h;rw [a3G] at h;have go:∀ v,Yields G.P ops.toArray o v a→vcQ G (fun _=>True) ops (pick ops r) (a0h (z6 a) o.dst v) K→wpAny G.P .any ops.toArray Q (fuel+(i::r).length) listed a w:=fun v hy hv =>
    wpAny_take ho hs0 h1 h2 (fun c a w hq=>absurd hq (hp c _ _)) hy
     (ih fuel (listed.setIfInBounds i true) (a.put o.dst v) w (by rw [a1Z,hs]) (by rw [a0r,hd]) h4 hK (by rw [hput];exact hv))
   have yes:∀ v,I4 ops (z6 a) o=true→(∀ w,(execOp (ev (z6 a)) o).run G.P w = .ok (.value v) w)→Yields G.P ops.toArray o v a:=fun v hw hv =>
    .inl ⟨by rw [a0s hN',hw],fun w=>by rw [X8];exact hv w⟩
   have no:I4 ops (z6 a) o=false→Yields G.P ops.toArray o undef a:=fun hw=>.inr ⟨by rw [a0s hN',hw],rfl⟩
   unfold b0j at h;split at h
   ·rename_i hg;obtain ⟨v,hv,hk⟩:=a3j h3 h;exact go v (yes v (by simp [I4,hg]) hv) hk
   ·rename_i j want hg;split at h
    ·rename_i hj;exact go _ (no (by simp [I4,hg,hj])) h
    ·rename_i dj hj;split at h
     ·rename_i b hb;have same:upd (z6 a) dj (.bool b)=z6 a:=by rw [← hb];exact a1Y _ _
      cases want<;>cases b<;>simp only [cond_true,cond_false] at h<;>rw [same] at h
      ·obtain ⟨v,hv,hk⟩:=a3j h3 h;exact go v (yes v (by simp [I4,hg,hj,hb,isB]) hv) hk
      ·exact go _ (no (by simp [I4,hg,hj,hb,isB])) h
      ·exact go _ (no (by simp [I4,hg,hj,hb,isB])) h
      ·obtain ⟨v,hv,hk⟩:=a3j h3 h;exact go v (yes v (by simp [I4,hg,hj,hb,isB]) hv) hk
     ·rename_i hnb;have hv:isB (z6 a dj)=none:=by
       cases hx:z6 a dj<;>first|rfl|exact absurd hx (hnb _)
      exact go _ (no (by simp [I4,hg,hj,hv])) h
theorem a2D {S:World→Prop} {o:Oper} {e:C9} {K:Value→Prop} (hn:a84 o=true) (h:a5H G S o e K):∃ v,(∀ w,S w→(execOp (ev e) o).run G.P w = .ok (.value v) w)∧K v:=by
 rcases a19 G.tab h with ⟨v,h1,h2⟩|hh
 ·exact ⟨v,fun w _=>h1 w,h2⟩
 ·clear h;have h:=hh;clear hh;obtain ⟨dst,op,type,pos,after,guard⟩:=o;split at h
  ·rename_i t x ho;simp only at ho;subst ho;split at h
   ·rename_i ad hx;obtain ⟨v,h1,h2⟩:=h.ex;rw [V4] at h2;refine ⟨v,fun w hw=>?_,h2⟩;show (do pure (Next.value (← Instr.loadAt t (ev e x))):Sem Next).run G.P w=_
    rw [hx];exact a2M (h1 w hw)
   ·exact h.elim
  ·rename_i f args argTypes ho;simp only at ho;subst ho;simp [a84] at hn
  ·obtain ⟨v,h1,h2⟩:=h.ex;exact ⟨v,fun w hw=>h1 w hw,h2⟩
theorem b4d {S:World→Prop} {Q:Exit→Act→World→Prop} {K:C9→World→Prop} {N:Nat} (hN:ops.all (S2 N)=true) (hQ:∀ a w,a.tmps.size=N→a.defers=ds→K (z6 a) w→Q .normal a w) :
  ∀ (t:Alt) (fuel:Nat) (listed:Array Bool) (a:Act) (w:World),t.depth≤fuel→a.tmps.size=N→a.defers=ds→a7N G S ops t (z6 a) w K →
   (Y1 ops.toArray t listed none=true→wpAnyH G.P .any ops.toArray Q S fuel listed a w) ∧
   (∀ rs f,fuel=f+1→Y1 ops.toArray t listed (some rs)=true→∀ i∈rs,wpOp G.P ops.toArray Q i (fun a w=>S w∧wpAnyH G.P .any ops.toArray Q S f (listed.setIfInBounds i true) a w) a w):=by
 intro t
 induction t with
 | nil =>
  intro fuel listed a w _ _ _ _;exact ⟨fun h=>by simp [Y1] at h,fun rs f _ h i hi=>by simp [Y1] at h;subst h;cases hi⟩
 | done =>
  intro fuel listed a w _ hs hd h;refine ⟨fun hk=>?_,fun rs f _ h=>by simp [Y1] at h⟩
  have hr:Region.ready .any ops.toArray listed=[]:=by simpa [Y1] using hk
  have hq:=hQ a w hs hd h;cases fuel with
  | zero=>exact ⟨hr,hq⟩
  | succ n=>exact ⟨fun _=>hq,by rw [hr];simp⟩
 | cons i t r iht ihr =>
  intro fuel listed a w hdp hs hd h;have h:(match a0X ops i with|some o=>Y0 G ops [o] (z6 a) w (fun e w=>S w∧a7N G S ops t e w K)|none=>False)∧a7N G S ops r (z6 a) w K:=h
  obtain ⟨h1,h2⟩:=h;simp only [Alt.depth] at hdp;have core:∀ f,fuel=f+1→∀ j rs,Nat.beq i j=true→Y1 ops.toArray t (listed.setIfInBounds i true) none=true→Y1 ops.toArray r listed (some rs)=true→∀ k∈j::rs,wpOp G.P ops.toArray Q k (fun a w=>S w∧wpAnyH G.P .any ops.toArray Q S f (listed.setIfInBounds k true) a w) a w:=by
   intro f hf j rs hij ht hr k hk;have hij:=zu hij;subst hij;rcases yV.1 hk with rfl|hk
   ·cases ho:a0X ops k with
    | none=>rw [ho] at h1;exact h1.elim
    | some o =>
     rw [ho] at h1;rw [a0F] at ho;have hodst:S2 N o=true:=zl.1 hN o (ym ho);refine a5I hN (by simpa using ho) hs (ih:=fun e w K=>K e w) (K:=fun e w=>S w∧a7N G S ops t e w K) (fun v w' hv=>?_) h1
     have hput:z6 (a.put o.dst v)=a0h (z6 a) o.dst v:=a0Z v (by rw [hs];exact hodst)
     exact ⟨hv.1,(iht f (listed.setIfInBounds k true) (a.put o.dst v) w' zo (by rw [a1Z,hs]) (by rw [a0r,hd]) (by rw [hput];exact hv.2)).1 ht⟩
   ·exact (ihr fuel listed a w zo hs hd h2).2 rs f hf hr k hk
  refine ⟨fun hk=>?_,fun rs f hf hk=>?_⟩
  ·cases fuel with
   | zero=>omega
   | succ f =>
    simp only [Y1] at hk;cases hr:Region.ready .any ops.toArray listed with
    | nil=>rw [hr] at hk;cases hk
    | cons j rs =>
     rw [hr] at hk;simp only [zP] at hk;refine ⟨fun h0=>?_,?_⟩
     ·rw [hr] at h0;cases h0
     ·rw [hr];exact core f rfl j rs hk.1.1 hk.1.2 hk.2
  ·simp only [Y1] at hk;cases rs with
   | nil=>cases hk
   | cons j rs =>
    simp only [zP] at hk;exact core f hf j rs hk.1.1 hk.1.2 hk.2
theorem b1l {S:World→Prop} {Q:Exit→Act→World→Prop} {K:C9→Prop} {N:Nat} (hN:ops.all (S2 N)=true) (hs0:Region.noSelect ops.toArray=true) (hp:∀ c a w,¬ Q (.panic c) a w) :
  ∀ (l:List Nat) (fuel:Nat) (listed:Array Bool) (a:Act) (w:World),S w→a.tmps.size=N→a.defers=ds→a4q ops.toArray l listed=true →
   (∀ a',a'.tmps.size=N→a'.defers=ds→K (z6 a')→wpAnyH G.P .any ops.toArray Q S fuel (b1k l listed) a' w) →
   vcQ G S ops (pick ops l) (z6 a) K→wpAnyH G.P .any ops.toArray Q S (fuel+l.length) listed a w:=by
 intro l
 induction l with
 | nil=>intro fuel listed a w hSw hs hd _ hK h;exact hK a hs hd h
 | cons i r ih =>
  intro fuel listed a w hSw hs hd hok hK h;simp only [a4q,zP] at hok;obtain ⟨⟨⟨h1,h2⟩,h3⟩,h4⟩:=hok;cases ho:ops.toArray[i]? with
  | none=>rw [ho] at h3;cases h3
  | some o =>
   rw [ho] at h3;have ho':a0X ops i=some o:=by rw [a0F];simpa using ho
   have hodst:S2 N o=true:=zl.1 hN o (ym (by rw [← a0F];exact ho'))
   have hN':ops.all (S2 a.tmps.size)=true:=by rw [hs];exact hN
   have hput:∀ v,z6 (a.put o.dst v)=a0h (z6 a) o.dst v:=fun v=>a0Z v (by rw [hs];exact hodst)
   simp only [pick,ho'] at h;rw [a3G] at h;have go:∀ v,YieldsIf G.P ops.toArray S o v a→vcQ G S ops (pick ops r) (a0h (z6 a) o.dst v) K→wpAnyH G.P .any ops.toArray Q S (fuel+(i::r).length) listed a w:=fun v hy hv =>
    wpAnyH_take ho hs0 h1 h2 (fun c a w hq=>absurd hq (hp c _ _)) hy hSw
     (ih fuel (listed.setIfInBounds i true) (a.put o.dst v) w hSw (by rw [a1Z,hs]) (by rw [a0r,hd]) h4 hK (by rw [hput];exact hv))
   have yes:∀ v,I4 ops (z6 a) o=true→(∀ w,S w→(execOp (ev (z6 a)) o).run G.P w = .ok (.value v) w)→YieldsIf G.P ops.toArray S o v a:=fun v hw hv =>
    .inl ⟨by rw [a0s hN',hw],fun w hS=>by rw [X8];exact hv w hS⟩
   have no:I4 ops (z6 a) o=false→YieldsIf G.P ops.toArray S o undef a:=fun hw=>.inr ⟨by rw [a0s hN',hw],rfl⟩
   unfold b0j at h;split at h
   ·rename_i hg;obtain ⟨v,hv,hk⟩:=a2D h3 h;exact go v (yes v (by simp [I4,hg]) hv) hk
   ·rename_i j want hg;split at h
    ·rename_i hj;exact go _ (no (by simp [I4,hg,hj])) h
    ·rename_i dj hj;split at h
     ·rename_i b hb;have same:upd (z6 a) dj (.bool b)=z6 a:=by rw [← hb];exact a1Y _ _
      cases want<;>cases b<;>simp only [cond_true,cond_false] at h<;>rw [same] at h
      ·obtain ⟨v,hv,hk⟩:=a2D h3 h;exact go v (yes v (by simp [I4,hg,hj,hb,isB]) hv) hk
      ·exact go _ (no (by simp [I4,hg,hj,hb,isB])) h
      ·exact go _ (no (by simp [I4,hg,hj,hb,isB])) h
      ·obtain ⟨v,hv,hk⟩:=a2D h3 h;exact go v (yes v (by simp [I4,hg,hj,hb,isB]) hv) hk
     ·rename_i hnb;have hv:isB (z6 a dj)=none:=by
       cases hx:z6 a dj<;>first|rfl|exact absurd hx (hnb _)
      exact go _ (no (by simp [I4,hg,hj,hv])) h
end
def a69 (ops:List Oper) (l:List Nat) (t:Alt):Bool :=
 Region.noSelect ops.toArray&&a4q ops.toArray l (Array.replicate ops.length false)&&Y1 ops.toArray t (b1k l (Array.replicate ops.length false)) none&&Nat.ble (t.depth+l.length) ops.length
structure H7 (G:Prg) (ops:List Oper) (e:C9) (w:World) (K:C9→World→Prop):Prop where
 ex:(∃ (n:Nat) (C:World→Prop),C w.drew∧(a80 n ops.toArray||(Nat.beq n ops.length&&Region.lexB .any ops.toArray))=true ∧
  vcQ G C ops (ops.take n) e (fun e'=>∀ w',C w'→Y0 G ops (ops.drop n) e' w' K)) ∨
  (∃ (l:List Nat) (t:Alt),a69 ops l t=true∧vcQ G (fun _=>True) ops (pick ops l) e (fun e'=>vcT G ops t e' w.drew K)) ∨
  (∃ (S:World→Prop) (l:List Nat) (t:Alt),a69 ops l t=true∧S w.drew∧vcQ G S ops (pick ops l) e (fun e'=>a7N G S ops t e' w.drew K))
theorem H7.mk1 {G:Prg} {ops:List Oper} {e:C9} {w:World} {K:C9→World→Prop} (h:∃ (n:Nat) (C:World→Prop),C w.drew∧(a80 n ops.toArray||(Nat.beq n ops.length&&Region.lexB .any ops.toArray))=true ∧
  vcQ G C ops (ops.take n) e (fun e'=>∀ w',C w'→Y0 G ops (ops.drop n) e' w' K)):H7 G ops e w K:=⟨.inl h⟩
theorem H7.mk2 {G:Prg} {ops:List Oper} {e:C9} {w:World} {K:C9→World→Prop} (l:List Nat) (t:Alt) (h1:a69 ops l t=true) (h2:vcQ G (fun _=>True) ops (pick ops l) e (fun e'=>vcT G ops t e' w.drew K)):H7 G ops e w K:=⟨.inr (.inl ⟨l,t,h1,h2⟩)⟩
theorem H7.mk3 {G:Prg} {ops:List Oper} {e:C9} {w:World} {K:C9→World→Prop} (S:World→Prop) (l:List Nat) (t:Alt) (hS:S w.drew) (h1:a69 ops l t=true) (h2:vcQ G S ops (pick ops l) e (fun e'=>a7N G S ops t e' w.drew K)):H7 G ops e w K:=⟨.inr (.inr ⟨S,l,t,h1,hS,h2⟩)⟩
structure Nx (p:Prop):Prop where
 go:p
structure Cx (p:Prop):Prop where
 go:p
noncomputable def vc (G:Prg):Code→C9→World→(Exit→C9→World→Prop)→Prop
 | .skip,e,w,Q=>Q .normal e w
 | .region _ ops draw,e,w,Q=>bif draw then H7 G ops.toList e w (fun e w=>Q .normal e w) else Y0 G ops.toList ops.toList e w (fun e w=>Q .normal e w)
 | .seq a b,e,w,Q=>vc G a e w (b1j (fun e w=>Nx (vc G b e w Q)) Q)
 | .cond c a b,e,w,Q=>match ev e c with
  | .bool t=>bif t then vc G a e w Q else vc G b e w Q
  | _=>False
 | .block id a,e,w,Q=>vc G a e w (c0G id Q)
 | .loop a,e,w,Q=>b0l (fun e w Q=>vc G a e w Q) e w Q
 | .exit id,e,w,Q=>Q (.exit id) e w
 | .ret,e,w,Q=>Q .ret e w
 | _,_,_,_=>False
noncomputable def vcC (G:Prg) (C:World→Prop):Code→C9→(Exit→C9→Prop)→Prop
 | .skip,e,Q=>Q .normal e
 | .region _ ops _,e,Q=>vcQ G C ops.toList ops.toList e (fun e=>Q .normal e)
 | .seq a b,e,Q=>vcC G C a e (b2r (fun e=>Nx (vcC G C b e Q)) Q)
 | .cond c a b,e,Q=>match ev e c with
  | .bool t=>bif t then vcC G C a e Q else vcC G C b e Q
  | _=>False
 | .block id a,e,Q=>vcC G C a e (c0H id Q)
 | .loop a,e,Q=>b2s (fun e Q=>vcC G C a e Q) e Q
 | .exit id,e,Q=>Q (.exit id) e
 | .ret,e,Q=>Q .ret e
 | _,_,_=>False
def c32 (N:Nat) (Q:Exit→C9→World→Prop):Exit→Act→World→Prop:=fun x a w=>a.tmps.size=N∧a.defers=[]∧Q x (z6 a) w
def W (G:Prg) (N:Nat) (c:Code) (e:C9) (w:World) (Q:Exit→C9→World→Prop):Prop :=
 U3 N c=true→∀ a,z6 a=e→a.tmps.size=N→a.defers=[]→c.wp G.P (c32 N Q) a w
section
variable {G:Prg} {N:Nat}
theorem b5E (p:Nat→Prop) (h:∃ n,p n):∃ n,p n∧∀ m,p m→n≤m:=by
 obtain ⟨n,hn⟩:=h
 induction n using Nat.strongRecOn with
 | _ n ih =>
  by_cases h:∃ m,m<n∧p m
  ·obtain ⟨m,hm,hp⟩:=h;exact ih m hm hp
  ·exact ⟨n,hn,fun m hm=>Nat.le_of_not_lt fun hlt=>h ⟨m,hlt,hm⟩⟩
theorem a4X {P:Program} {c:Code} {Q:Exit→Act→World→Prop} {a:Act} {w:World} (I:Nat→Act→World→Prop) (n:Nat) (h₀:I n a w)
  (round:∀ n a w,I n a w→c.wp P (Exit.then (fun a' w'=>∃ n',n'<n∧I n' a' w') Q) a w):(Code.loop c).wp P Q a w:=by
 classical
 let J:Act→World→Prop:=fun a w=>∃ n,I n a w;let μ:Act→World→Nat:=fun a w=>if h:J a w then Classical.choose (b5E _ h) else 0
 have hμ:∀ a w,J a w→I (μ a w) a w∧∀ m,I m a w→μ a w≤m:=fun a w h=>by
  show I (if h:J a w then Classical.choose (b5E _ h) else 0) a w∧∀ m,I m a w→(if h:J a w then Classical.choose (b5E _ h) else 0)≤m
  rw [dif_pos h];exact Classical.choose_spec (b5E _ h)
 refine wp_loop J μ ⟨n,h₀⟩ fun a1 w1 h1=>wp_mono (round _ a1 w1 (hμ a1 w1 h1).1) ?_;intro x a2 w2 hx;cases x<;>first
  | (obtain ⟨n',hn',hI⟩:=hx;exact ⟨⟨n',hI⟩,wG ((hμ a2 w2 ⟨n',hI⟩).2 n' hI) hn'⟩)
  | exact hx
theorem a86:∀ (c:Code) (Q:Exit→C9→World→Prop) (Q':Exit→Act→World→Prop),(∀ x a w,a.tmps.size=N→a.defers=ds→Q x (z6 a) w→Q' x a w)→U3 N c=true →
  ∀ a w,a.tmps.size=N→a.defers=ds→vc G c (z6 a) w Q→c.wp G.P Q' a w:=by
 intro c
 induction c with
 | skip=>intro Q Q' hQ _ a w hs hd h;exact wp_skip (hQ _ _ _ hs hd h)
 | region id ops draw =>
  intro Q Q' hQ hk a w hs hd h;have hk':ops.toList.all (S2 N)=true:=hk;unfold vc at h;cases draw with
  | true =>
   rcases (show H7 G ops.toList (z6 a) w _ from h).ex with ⟨n,C,h1,h2,h3⟩|⟨l,t,h1,h2⟩|⟨S,l,t,h1,hS,h2⟩;rotate_left
   ·simp only [a69,zP,Nat.ble_eq] at h1;obtain ⟨⟨⟨f1,f2⟩,f3⟩,f4⟩:=h1;have e1:ops.toList.toArray=ops:=by simp
    have e2:ops.toList.length=ops.size:=by simp
    refine Code.wp_mono (Q:=fun x a w=>x = .normal∧Q' x a w) (fun _ _ _ h=>h.2) (wp_region_any G.mixed ?_);have H:=b2t (G:=G) (Q:=fun x a w=>x = .normal∧Q' x a w) hk' f1 (fun c a w h=>by cases h.1) l (ops.size-l.length) (Array.replicate ops.toList.length false) a w.drew hs hd f2
     (fun a' hs' hd' hk=>(b6G (G:=G) (Q:=fun x a w=>x = .normal∧Q' x a w) hk' (fun a'' w'' hs'' hd'' hk''=>⟨rfl,hQ _ _ _ hs'' hd'' hk''⟩) t (ops.size-l.length) _ a' w.drew zo hs' hd' hk).1 f3) h2
    rw [e1,e2,show ops.size-l.length+l.length=ops.size by omega] at H
    exact H
   ·simp only [a69,zP,Nat.ble_eq] at h1;obtain ⟨⟨⟨f1,f2⟩,f3⟩,f4⟩:=h1;have e1:ops.toList.toArray=ops:=by simp
    have e2:ops.toList.length=ops.size:=by simp
    refine Code.wp_mono (Q:=fun x a w=>x = .normal∧Q' x a w) (fun _ _ _ h=>h.2) (wp_region_held (S:=S) G.mixed ?_);have H:=b1l (S:=S) (G:=G) (Q:=fun x a w=>x = .normal∧Q' x a w) hk' f1 (fun c a w h=>by cases h.1) l (ops.size-l.length) (Array.replicate ops.toList.length false) a w.drew hS hs hd f2
     (fun a' hs' hd' hk=>(b4d (S:=S) (G:=G) (Q:=fun x a w=>x = .normal∧Q' x a w) hk' (fun a'' w'' hs'' hd'' hk''=>⟨rfl,hQ _ _ _ hs'' hd'' hk''⟩) t (ops.size-l.length) _ a' w.drew zo hs' hd' hk).1 f3) h2
    rw [e1,e2,show ops.size-l.length+l.length=ops.size by omega] at H
    exact H
   have e1:ops.toList.toArray=ops:=by simp
   rw [e1] at h2;have ht:(ops.toList.take n).all (S2 N)=true:=zl.2 fun o ho=>zl.1 hk' o (List.mem_of_mem_take ho);have hdr:(ops.toList.drop n).all (S2 N)=true:=zl.2 fun o ho=>zl.1 hk' o (List.mem_of_mem_drop ho);have H:=b0k (G:=G) (Q:=fun a'=>∀ w',C w'→wpList G.P ops.toList.toArray Q' (ops.toList.drop n) a' w') hk' (ops.toList.take n) a ht hs hd
    (fun a' hs' hd' hk w' hw'=>a7l (G:=G) hk' _ a' w' hdr hs' hd' (fun a'' w'' hs'' hd'' hk''=>hQ _ _ _ hs'' hd'' hk'') (hk w' hw')) h3
   rw [e1] at H;simp only [zj,zP] at h2;rcases h2 with h2|⟨hn,h2⟩
   ·exact a81 G.mixed h2 h1 H
   ·have hn:=zu hn;rw [hn,yf,List.drop_length] at H;exact wp_region_quiet (C:=C) G.mixed h2 h1 H
  | false =>
   have h':Y0 G ops.toList ops.toList (z6 a) w (fun e w=>Q .normal e w):=h;have:=a7l (G:=G) (Q:=Q') hk' ops.toList a w hk' hs hd (fun a' w' hs' hd' hk=>hQ _ _ _ hs' hd' hk) h';rw [show ops.toList.toArray=ops by simp] at this
   exact wp_region_list this
 | seq x y ihx ihy =>
  intro Q Q' hQ hk a w hs hd h;simp only [U3,zP] at hk;unfold vc at h;refine wp_seq (ihx _ _ ?_ hk.1 a w hs hd h);intro x a' w' hs' hd' hx;cases x<;>first
   | exact ihy Q Q' hQ hk.2 a' w' hs' hd' hx.go
   | exact hQ _ _ _ hs' hd' hx
 | cond c x y ihx ihy =>
  intro Q Q' hQ hk a w hs hd h;simp only [U3,zP] at hk;unfold vc at h;split at h
  ·rename_i t ht;have ht':a.eval c = .bool t:=by rw [X8];exact ht
   refine wp_cond ht' ?_;cases t
   ·exact ihy Q Q' hQ hk.2 a w hs hd h
   ·exact ihx Q Q' hQ hk.1 a w hs hd h
  ·exact h.elim
 | block id c ih =>
  intro Q Q' hQ hk a w hs hd h;unfold vc at h;refine wp_block (ih _ _ ?_ hk a w hs hd h);intro x a' w' hs' hd' hx;cases x<;>try exact hQ _ _ _ hs' hd' hx
  rename_i j;simp only [c0G] at hx;simp only [Exit.inBlock];by_cases hj:j=id
  ·subst hj;simp only [Nat.beq_refl,cond_true] at hx;rw [zM rfl];exact hQ _ _ _ hs' hd' hx
  ·rw [a1X hj] at hx;rw [zJ hj];exact hQ _ _ _ hs' hd' hx
 | loop c ih =>
  intro Q Q' hQ hk a w hs hd h;obtain ⟨I,n,h0,hstep⟩:=(show b0l (fun e w Q=>vc G c e w Q) (z6 a) w Q from h).ex;refine a4X (fun n a w=>a.tmps.size=N∧a.defers=ds∧I n (z6 a) w) n ⟨hs,hd,h0⟩ ?_;intro n1 a1 w1 ⟨hs1,hd1,hI⟩;refine ih _ _ ?_ hk a1 w1 hs1 hd1 (hstep _ _ _ hI);intro x a' w' hs' hd' hx;cases x<;>first
   | (obtain ⟨n',h1,h2⟩:=hx;exact ⟨n',h1,hs',hd',h2⟩)
   | exact hQ _ _ _ hs' hd' hx
 | exit id=>intro Q Q' hQ _ a w hs hd h;exact wp_exit (hQ _ _ _ hs hd h)
 | ret=>intro Q Q' hQ _ a w hs hd h;exact wp_ret (hQ _ _ _ hs hd h)
 | _=>intro Q Q' hQ hk;cases hk
theorem b6H {C:World→Prop} (hdr:∀ w,C w→C w.drew):∀ (c:Code) (Q:Exit→C9→Prop) (Q':Exit→Act→World→Prop),
  (∀ x a w,a.tmps.size=N→a.defers=ds→C w→Q x (z6 a)→Q' x a w)→U3 N c=true→a1j c=true →
  ∀ a w,a.tmps.size=N→a.defers=ds→C w→vcC G C c (z6 a) Q→c.wp G.P Q' a w:=by
 intro c
 induction c with
 | skip=>intro Q Q' hQ _ _ a w hs hd hw h;exact wp_skip (hQ _ _ _ hs hd hw h)
 | region id ops draw =>
  intro Q Q' hQ hk hq a w hs hd hw h;have hk':ops.toList.all (S2 N)=true:=hk;have e1:ops.toList.toArray=ops:=by simp
  have H:=b0k (G:=G) (C:=C) (K:=fun e=>Q .normal e) (Q:=fun a'=>∀ w',C w'→Q' .normal a' w') hk' ops.toList a hk' hs hd (fun a' hs' hd' hk w' hw'=>hQ _ _ _ hs' hd' hw' hk) h;rw [e1] at H;cases draw with
  | true =>
   have hl:Region.lexB .any ops.toList.toArray=true:=hq;rw [e1] at hl;exact wp_region_quiet (C:=C) G.mixed hl (hdr _ hw) H
  | false=>exact wp_region_list (a7M (G:=G) _ _ _ hw H)
 | seq x y ihx ihy =>
  intro Q Q' hQ hk hq a w hs hd hw h;simp only [U3,zP] at hk;simp only [a1j,zP] at hq;unfold vcC at h;refine wp_seq (ihx _ _ ?_ hk.1 hq.1 a w hs hd hw h);intro x a' w' hs' hd' hw' hx;cases x<;>first
   | exact ihy Q Q' hQ hk.2 hq.2 a' w' hs' hd' hw' hx.go
   | exact hQ _ _ _ hs' hd' hw' hx
 | cond c x y ihx ihy =>
  intro Q Q' hQ hk hq a w hs hd hw h;simp only [U3,zP] at hk;simp only [a1j,zP] at hq;unfold vcC at h;split at h
  ·rename_i t ht;have ht':a.eval c = .bool t:=by rw [X8];exact ht
   refine wp_cond ht' ?_;cases t
   ·exact ihy Q Q' hQ hk.2 hq.2 a w hs hd hw h
   ·exact ihx Q Q' hQ hk.1 hq.1 a w hs hd hw h
  ·exact h.elim
 | block id c ih =>
  intro Q Q' hQ hk hq a w hs hd hw h;unfold vcC at h;refine wp_block (ih _ _ ?_ hk hq a w hs hd hw h);intro x a' w' hs' hd' hw' hx;cases x<;>try exact hQ _ _ _ hs' hd' hw' hx
  rename_i j;simp only [c0H] at hx;simp only [Exit.inBlock];by_cases hj:j=id
  ·subst hj;simp only [Nat.beq_refl,cond_true] at hx;rw [zM rfl];exact hQ _ _ _ hs' hd' hw' hx
  ·rw [a1X hj] at hx;rw [zJ hj];exact hQ _ _ _ hs' hd' hw' hx
 | loop c ih =>
  intro Q Q' hQ hk hq a w hs hd hw h;obtain ⟨I,n,h0,hstep⟩:=(show b2s (fun e Q=>vcC G C c e Q) (z6 a) Q from h).ex;refine a4X (fun n a w=>a.tmps.size=N∧a.defers=ds∧C w∧I n (z6 a)) n ⟨hs,hd,hw,h0⟩ ?_;intro n1 a1 w1 ⟨hs1,hd1,hw1,hI⟩;refine ih _ _ ?_ hk hq a1 w1 hs1 hd1 hw1 (hstep _ _ hI);intro x a' w' hs' hd' hw' hx;cases x<;>first
   | (obtain ⟨n',h1,h2⟩:=hx;exact ⟨n',h1,hs',hd',hw',h2⟩)
   | exact hQ _ _ _ hs' hd' hw' hx
 | exit id=>intro Q Q' hQ _ _ a w hs hd hw h;exact wp_exit (hQ _ _ _ hs hd hw h)
 | ret=>intro Q Q' hQ _ _ a w hs hd hw h;exact wp_ret (hQ _ _ _ hs hd hw h)
 | _=>intro Q Q' hQ hk;cases hk
theorem a4R {c:Code} {e:C9} {w:World} {Q:Exit→C9→World→Prop} (h:vc G c e w Q):W G N c e w Q:=by
 intro hk a ha hs hd;subst ha;exact a86 c Q (c32 N Q) (fun _ _ _ h1 h2 h3=>⟨h1,h2,h3⟩) hk a w hs hd h
theorem a3H {a b:Code} {e:C9} {w:World} {Q:Exit→C9→World→Prop} (h:W G N a e w (b1j (fun e w=>W G N b e w Q) Q)):W G N (.seq a b) e w Q:=by
 intro hk ac ha hs hd;simp only [U3,zP] at hk;refine wp_seq (wp_mono (h hk.1 ac ha hs hd) ?_);intro x a' w' ⟨h1,h2,h3⟩;cases x<;>first
  | exact h3 hk.2 a' rfl h1 h2
  | exact ⟨h1,h2,h3⟩
theorem Z1 (C:World→Prop) {c:Code} {e:C9} {w:World} {Q:Exit→C9→World→Prop} (hw:C w) (hdr:∀ w,C w→C w.drew) (hq:a1j c=true)
  (h:vcC G C c e (fun x e'=>∀ w',C w'→Q x e' w')):W G N c e w Q:=by
 intro hk a ha hs hd;subst ha;exact b6H hdr c _ (c32 N Q) (fun _ _ w' h1 h2 hw' h3=>⟨h1,h2,h3 w' hw'⟩) hk hq a w hs hd hw h
end
section mono
variable {G:Prg} {K K':Value→Prop} {F F':Prop}
theorem a0t {v:Value} (hK:∀ v,K v→K' v) (h:t7 v K):t7 v K':=by rw [V4] at h ⊢;exact hK _ h
theorem K9 {b:Bool} {A B A' B':Prop} (h1:A→A') (h2:B→B') (h:bif b then A else B):bif b then A' else B':=by
 cases b
 ·exact h2 h
 ·exact h1 h
theorem a7m {T:Tab} {o:Oper} {e:C9} (hK:∀ v,K v→K' v) (hF:F→F') (h:a5i T o e K F):a5i T o e K' F':=by
 revert h;unfold a5i;split
 ·exact a0t hK
 ·exact a0t hK
 ·split
  ·exact a0t hK
  ·exact hF
 ·unfold b5B;split
  ·refine K9 ?_ (K9 ?_ hF)
   ·unfold a7X;split<;>first|exact K9 (fun h r hr=>hK _ (h r hr)) hF|exact hF
   ·unfold b58;split<;>first|exact hK _|exact hF|exact K9 hF (hK _)|exact fun h r hr=>hK _ (h r hr)
  ·unfold b5A;split<;>first|exact hK _|exact hF|exact K9 (hK _) hF
  ·exact hF
 ·unfold c0E;split<;>first|exact hK _|exact hF|exact fun h r hr=>hK _ (h r hr)
 ·split<;>first|exact hK _|exact hF
 ·unfold a7Y;split<;>first|exact hF|(split<;>first|exact hK _|exact hF)
 ·unfold a2u;split<;>first|exact K9 (hK _) hF|exact hF
 ·unfold b1h;split<;>first|exact hK _|exact hF
 ·unfold a7Z;split<;>first|exact K9 (hK _) hF|exact hF
 ·split
  ·split
   ·exact a0t hK
   ·exact hF
  ·exact hF
 ·split
  ·unfold b5C;split<;>first|exact hK _|exact hF
  ·exact hF
 ·exact hF
theorem a6A {o:Oper} {e:C9} {w:World} {K K':Value→World→Prop} (hK:∀ v w,K v w→K' v w) (h:b4c G o e w K):b4c G o e w K':=by
 unfold b4c at h ⊢;refine a7m (fun v=>hK v w) ?_ h;split
 ·split
  ·exact fun ⟨v,h1,h2⟩=>⟨v,h1,a0t (fun v=>hK v w) h2⟩
  ·exact id
 ·split
  ·exact fun ⟨v,h1,h2⟩=>⟨v,h1,hK _ _ h2⟩
  ·exact id
 ·rw [a82,a82];exact hK _ _
 ·refine K9 (fun ⟨h⟩=>⟨h.mono fun r w' ⟨v,hr,hk⟩=>⟨v,hr,hK _ _ hk⟩⟩) id
 ·exact fun ⟨h⟩=>⟨h.imp (fun ⟨v,w',h1,h2⟩=>⟨v,w',h1,hK _ _ h2⟩) (fun h=>h.imp (fun ⟨w',h1,h2⟩=>⟨w',h1,hK _ _ h2⟩) (fun ⟨f,as,h1,h2⟩=>⟨f,as,h1,h2.mono fun r w' ⟨v,hr,hk⟩=>⟨v,hr,hK _ _ hk⟩⟩))⟩
theorem a5k {C:World→Prop} {o:Oper} {e:C9} {K K':Value→Prop} (hK:∀ v,K v→K' v) (h:a5H G C o e K):a5H G C o e K':=by
 unfold a5H at h ⊢;refine a7m hK ?_ h;split
 ·split
  ·exact fun ⟨v,h1,h2⟩=>⟨v,h1,a0t hK h2⟩
  ·exact id
 ·exact K9 (fun ⟨v,h1,h2⟩=>⟨v,h1,a0t hK h2⟩) id
 ·exact fun ⟨v,h1,h2⟩=>⟨v,h1,hK _ h2⟩
theorem a87 {e:C9} {o:Oper} {v:Value} {t:Nat} (h:(match o.dst with|some d=>Nat.beq t d|none=>false)=false):a0h e o.dst v t=e t:=by
 cases hd:o.dst with
 | none=>rfl
 | some d=>rw [hd] at h;simp only at h;simp [a0h,upd,h]
theorem a2v {ops:List Oper}:∀ (l:List Oper) (e:C9) (w:World) (K K':C9→World→Prop),
  (∀ e' w',(∀ t,L8 l t=false→e' t=e t)→K e' w'→K' e' w')→Y0 G ops l e w K→Y0 G ops l e w K':=by
 intro l
 induction l with
 | nil=>intro e w K K' hK h;exact hK _ _ (fun _ _=>rfl) h
 | cons o rest ih =>
  intro e w K K' hK h;have next:∀ v w',Y0 G ops rest (a0h e o.dst v) w' K→Y0 G ops rest (a0h e o.dst v) w' K':=fun v w' h' =>
   ih _ _ K K' (fun e' w'' he' hk=>hK e' w'' (fun t ht=>by
    simp only [L8,List.any_cons,yD] at ht;rw [he' t ht.2];exact a87 ht.1) hk) h'
  revert h;rw [a5j,a5j];unfold a4p;split
  ·exact a6A next
  ·rename_i j want hg;split
   ·exact next _ _
   ·rename_i dj hj;split
    ·rename_i b hb;have same:upd e dj (.bool b)=e:=by rw [← hb];exact a1Y _ _
     intro h;cases want<;>cases b<;>simp only [cond_true,cond_false] at h ⊢ <;> rw [same] at h ⊢
     ·exact a6A next h
     ·exact next _ _ h
     ·exact next _ _ h
     ·exact a6A next h
    ·exact next _ _
theorem a4r {C:World→Prop} {ops:List Oper}:∀ (l:List Oper) (e:C9) (K K':C9→Prop),
  (∀ e',(∀ t,L8 l t=false→e' t=e t)→K e'→K' e')→vcQ G C ops l e K→vcQ G C ops l e K':=by
 intro l
 induction l with
 | nil=>intro e K K' hK h;exact hK _ (fun _ _=>rfl) h
 | cons o rest ih =>
  intro e K K' hK h;have next:∀ v,vcQ G C ops rest (a0h e o.dst v) K→vcQ G C ops rest (a0h e o.dst v) K':=fun v h' =>
   ih _ K K' (fun e' he' hk=>hK e' (fun t ht=>by
    simp only [L8,List.any_cons,yD] at ht;rw [he' t ht.2];exact a87 ht.1) hk) h'
  revert h;rw [a3G,a3G];unfold b0j;split
  ·exact a5k next
  ·rename_i j want hg;split
   ·exact next _
   ·rename_i dj hj;split
    ·rename_i b hb;have same:upd e dj (.bool b)=e:=by rw [← hb];exact a1Y _ _
     intro h;cases want<;>cases b<;>simp only [cond_true,cond_false] at h ⊢ <;> rw [same] at h ⊢
     ·exact a5k next h
     ·exact next _ h
     ·exact next _ h
     ·exact a5k next h
    ·exact next _
theorem b2u {ops:List Oper}:∀ (l:List Nat) (o:Oper),o∈pick ops l→o∈ops:=by
 intro l
 induction l with
 | nil=>intro o h;cases h
 | cons i r ih =>
  intro o h;simp only [pick] at h;split at h
  ·rename_i x hx;rcases yV.1 h with rfl|h
   ·rw [a0F] at hx;exact ym hx
   ·exact ih o h
  ·exact ih o h
theorem b6I {ops:List Oper}:∀ (t:Alt) (e:C9) (w:World) (K K':C9→World→Prop),
  (∀ e' w',(∀ t,L8 ops t=false→e' t=e t)→K e' w'→K' e' w')→vcT G ops t e w K→vcT G ops t e w K':=by
 intro t
 induction t with
 | nil=>intro e w K K' _ h;exact h
 | done=>intro e w K K' hK h;exact hK _ _ (fun _ _=>rfl) h
 | cons i t r iht ihr =>
  intro e w K K' hK h;have h:(match a0X ops i with|some o=>Y0 G ops [o] e w (fun e w=>vcT G ops t e w K)|none=>False)∧vcT G ops r e w K:=h
  show (match a0X ops i with|some o=>Y0 G ops [o] e w (fun e w=>vcT G ops t e w K')|none=>False)∧vcT G ops r e w K'
  refine ⟨?_,ihr _ _ _ _ hK h.2⟩;have h1:=h.1;cases ho:a0X ops i with
  | none=>rw [ho] at h1;exact h1
  | some o =>
   rw [ho] at h1;refine a2v _ _ _ _ _ (fun e1 w1 he1 hk=>iht _ _ _ _ (fun e2 w2 he2 hk2=>hK e2 w2 (fun x hx=>?_) hk2) hk) h1;have hmem:o∈ops:=by rw [a0F] at ho;exact ym ho
   rw [he2 x hx,he1 x];simp only [L8,List.any_eq_false] at hx ⊢;intro o' ho';rw [zY] at ho';subst ho';exact hx _ hmem
theorem b4e {S:World→Prop} {ops:List Oper}:∀ (t:Alt) (e:C9) (w:World) (K K':C9→World→Prop),
  (∀ e' w',(∀ t,L8 ops t=false→e' t=e t)→K e' w'→K' e' w')→a7N G S ops t e w K→a7N G S ops t e w K':=by
 intro t
 induction t with
 | nil=>intro e w K K' _ h;exact h
 | done=>intro e w K K' hK h;exact hK _ _ (fun _ _=>rfl) h
 | cons i t r iht ihr =>
  intro e w K K' hK h;have h:(match a0X ops i with|some o=>Y0 G ops [o] e w (fun e w=>S w∧a7N G S ops t e w K)|none=>False)∧a7N G S ops r e w K:=h
  show (match a0X ops i with|some o=>Y0 G ops [o] e w (fun e w=>S w∧a7N G S ops t e w K')|none=>False)∧a7N G S ops r e w K'
  refine ⟨?_,ihr _ _ _ _ hK h.2⟩;have h1:=h.1;cases ho:a0X ops i with
  | none=>rw [ho] at h1;exact h1
  | some o =>
   rw [ho] at h1;refine a2v _ _ _ _ _ (fun e1 w1 he1 hk=>⟨hk.1,iht _ _ _ _ (fun e2 w2 he2 hk2=>hK e2 w2 (fun x hx=>?_) hk2) hk.2⟩) h1;have hmem:o∈ops:=by rw [a0F] at ho;exact ym ho
   rw [he2 x hx,he1 x];simp only [L8,List.any_eq_false] at hx ⊢;intro o' ho';rw [zY] at ho';subst ho';exact hx _ hmem
theorem a88:∀ (c:Code) (e:C9) (w:World) (Q Q':Exit→C9→World→Prop),
  (∀ x e' w',(∀ t,S4 c t=false→e' t=e t)→Q x e' w'→Q' x e' w')→vc G c e w Q→vc G c e w Q':=by
 intro c
 induction c with
 | skip=>intro e w Q Q' hQ h;exact hQ _ _ _ (fun _ _=>rfl) h
 | region id ops draw =>
  intro e w Q Q' hQ h;unfold vc at h ⊢;refine K9 ?_ ?_ h
  ·rintro ⟨⟨n,C,h1,h2,h3⟩|⟨l,t,h1,h2⟩|⟨S,l,t,h1,hS,h2⟩⟩
   ·have hsub:∀ l:List Oper,(∀ o∈l,o∈ops.toList)→∀ t,L8 ops.toList t=false→L8 l t=false:=fun l hl t ht=>by
     simp only [L8,List.any_eq_false] at ht ⊢;exact fun o ho=>ht o (hl o ho)
    refine .mk1 ⟨n,C,h1,h2,a4r _ _ _ _ (fun e' he' hk w' hw'=>a2v _ _ _ _ _ (fun e'' w'' he'' hk''=>hQ _ _ _ (fun t ht=>?_) hk'') (hk w' hw')) h3⟩;rw [he'' t (hsub _ (fun o ho=>List.mem_of_mem_drop ho) t ht),he' t (hsub _ (fun o ho=>List.mem_of_mem_take ho) t ht)]
   ·refine .mk2 l t h1 (a4r _ _ _ _ (fun e' he' hk=>b6I _ _ _ _ _ (fun e'' w'' he'' hk''=>hQ _ _ _ (fun t ht=>?_) hk'') hk) h2);rw [he'' t ht,he' t];have ht':L8 ops.toList t=false:=ht;simp only [L8,List.any_eq_false] at ht' ⊢;exact fun o ho=>ht' o (b2u l o ho)
   ·refine .mk3 S l t hS h1 (a4r _ _ _ _ (fun e' he' hk=>b4e _ _ _ _ _ (fun e'' w'' he'' hk''=>hQ _ _ _ (fun t ht=>?_) hk'') hk) h2);rw [he'' t ht,he' t];have ht':L8 ops.toList t=false:=ht;simp only [L8,List.any_eq_false] at ht' ⊢;exact fun o ho=>ht' o (b2u l o ho)
  ·exact a2v _ _ _ _ _ (fun e' w' he' hk=>hQ _ _ _ he' hk)
 | seq a b iha ihb =>
  intro e w Q Q' hQ h;unfold vc at h ⊢;refine iha _ _ _ _ ?_ h;intro x e1 w1 he1 hx;have fr:∀ x e' w',(∀ t,S4 b t=false→e' t=e1 t)→Q x e' w'→Q' x e' w':=fun x e' w' he' hk=>hQ x e' w' (fun t ht=>by
   simp only [S4,yD] at ht;rw [he' t ht.2,he1 t ht.1]) hk
  cases x<;>first
   | exact ⟨ihb _ _ _ _ fr hx.go⟩
   | exact fr _ _ _ (fun _ _=>rfl) hx
 | cond c a b iha ihb =>
  intro e w Q Q' hQ h;unfold vc at h ⊢;split at h
  ·rename_i t ht;refine K9 (iha _ _ _ _ ?_) (ihb _ _ _ _ ?_) h
   ·exact fun x e' w' he' hk=>hQ x e' w' (fun t ht=>by simp only [S4,yD] at ht;exact he' t ht.1) hk
   ·exact fun x e' w' he' hk=>hQ x e' w' (fun t ht=>by simp only [S4,yD] at ht;exact he' t ht.2) hk
  ·exact h
 | block id a ih =>
  intro e w Q Q' hQ h;unfold vc at h ⊢;refine ih _ _ _ _ ?_ h;intro x e' w' he' hx;cases x<;>try exact hQ _ _ _ he' hx
  exact K9 (hQ _ _ _ he') (hQ _ _ _ he') hx
 | loop a ih =>
  intro e w Q Q' hQ h;unfold vc at h ⊢;obtain ⟨I,n,h0,hstep⟩:=h.ex;refine ⟨fun n e1 w1=>I n e1 w1∧∀ t,S4 a t=false→e1 t=e t,n,⟨h0,fun _ _=>rfl⟩,?_⟩;rintro n1 e1 w1 ⟨hI,hfr⟩;refine ih _ _ _ _ ?_ (hstep n1 e1 w1 hI);intro x e' w' he' hx;cases x<;>first
   | (obtain ⟨n',h1,h2⟩:=hx;exact ⟨n',h1,h2,fun t ht=>by rw [he' t ht,hfr t ht]⟩)
   | exact hQ _ _ _ (fun t ht=>by rw [he' t ht,hfr t ht]) hx
 | exit id=>intro e w Q Q' hQ h;exact hQ _ _ _ (fun _ _=>rfl) h
 | ret=>intro e w Q Q' hQ h;exact hQ _ _ _ (fun _ _=>rfl) h
 | _=>intro e w Q Q' hQ h;exact h
theorem a6B {C:World→Prop}:∀ (c:Code) (e:C9) (Q Q':Exit→C9→Prop),
  (∀ x e',(∀ t,S4 c t=false→e' t=e t)→Q x e'→Q' x e')→vcC G C c e Q→vcC G C c e Q':=by
 intro c
 induction c with
 | skip=>intro e Q Q' hQ h;exact hQ _ _ (fun _ _=>rfl) h
 | region id ops draw =>
  intro e Q Q' hQ h;exact a4r _ _ _ _ (fun e' he' hk=>hQ _ _ he' hk) h
 | seq a b iha ihb =>
  intro e Q Q' hQ h;unfold vcC at h ⊢;refine iha _ _ _ ?_ h;intro x e1 he1 hx;have fr:∀ x e',(∀ t,S4 b t=false→e' t=e1 t)→Q x e'→Q' x e':=fun x e' he' hk=>hQ x e' (fun t ht=>by
   simp only [S4,yD] at ht;rw [he' t ht.2,he1 t ht.1]) hk
  cases x<;>first
   | exact ⟨ihb _ _ _ fr hx.go⟩
   | exact fr _ _ (fun _ _=>rfl) hx
 | cond c a b iha ihb =>
  intro e Q Q' hQ h;unfold vcC at h ⊢;split at h
  ·rename_i t ht;refine K9 (iha _ _ _ ?_) (ihb _ _ _ ?_) h
   ·exact fun x e' he' hk=>hQ x e' (fun t ht=>by simp only [S4,yD] at ht;exact he' t ht.1) hk
   ·exact fun x e' he' hk=>hQ x e' (fun t ht=>by simp only [S4,yD] at ht;exact he' t ht.2) hk
  ·exact h
 | block id a ih =>
  intro e Q Q' hQ h;unfold vcC at h ⊢;refine ih _ _ _ ?_ h;intro x e' he' hx;cases x<;>try exact hQ _ _ he' hx
  exact K9 (hQ _ _ he') (hQ _ _ he') hx
 | loop a ih =>
  intro e Q Q' hQ h;unfold vcC at h ⊢;obtain ⟨I,n,h0,hstep⟩:=h.ex;refine ⟨fun n e1=>I n e1∧∀ t,S4 a t=false→e1 t=e t,n,⟨h0,fun _ _=>rfl⟩,?_⟩;rintro n1 e1 ⟨hI,hfr⟩;refine ih _ _ _ ?_ (hstep n1 e1 hI);intro x e' he' hx;cases x<;>first
   | (obtain ⟨n',h1,h2⟩:=hx;exact ⟨n',h1,h2,fun t ht=>by rw [he' t ht,hfr t ht]⟩)
   | exact hQ _ _ (fun t ht=>by rw [he' t ht,hfr t ht]) hx
 | exit id=>intro e Q Q' hQ h;exact hQ _ _ (fun _ _=>rfl) h
 | ret=>intro e Q Q' hQ h;exact hQ _ _ (fun _ _=>rfl) h
 | _=>intro e Q Q' hQ h;exact h
end mono
def b2v:List (Nat×Value)→Nat→Option Value
 | [],_=>none
 | (s,v)::r,t=>bif Nat.beq s t then some v else b2v r t
def b2w:List Nat→Nat→Bool
 | [],_=>false
 | s::r,t=>bif Nat.beq s t then true else b2w r t
def hd (e j:C9) (ms:List Nat) (m:Nat) (L:List (Nat×Value)):C9:=fun t =>
 bif Nat.ble m t then j t else bif b2w ms t then (match b2v L t with|some v=>v|none=>j t) else e t
def fits:List (Nat×Value)→C9→Prop
 | [],_=>True
 | (t,v)::r,e=>e t=v∧fits r e
def wOk (c:Code) (ms:List Nat) (m:Nat):Bool:=(List.range m).all fun t=>b2w ms t || !S4 c t
theorem a5J {c:Code} {ms:List Nat} {m:Nat} (h:wOk c ms m=true):∀ t,t<m→b2w ms t=false→S4 c t=false:=by
 intro t ht hm;have:=zl.1 h t (yr.2 ht);simpa [hm] using this
theorem b6J {L:List (Nat×Value)} {e:C9} (h:fits L e):∀ t v,b2v L t=some v→e t=v:=by
 induction L with
 | nil=>intro t v h;cases h
 | cons x r ih =>
  obtain ⟨s,u⟩:=x;intro t v hl;unfold b2v at hl;by_cases hs:s=t
  ·subst hs;simp at hl;subst hl;exact h.1
  ·rw [a1X hs] at hl;exact ih h.2 t v hl
theorem b5F {e e1:C9} {ms:List Nat} {m:Nat} {L:List (Nat×Value)} (hf:fits L e1) (hk:∀ t,t<m→b2w ms t=false→e1 t=e t):e1=hd e e1 ms m L:=by
 funext t;unfold hd;cases hb:Nat.ble m t with
 | true=>rfl
 | false =>
  have ht:t<m:=by
   rcases wh t m with h|h
   ·exact h
   ·rw [Nat.ble_eq_true_of_le h] at hb;cases hb
  cases hm:b2w ms t with
  | false=>exact hk t ht hm
  | true =>
   simp only [cond_true,cond_false];cases hl:b2v L t with
   | none=>rfl
   | some v=>exact b6J hf t v hl
section loops
variable {G:Prg} {C:World→Prop} {σ:Type}
theorem a5K {body:Code} {e:C9} {Q:Exit→C9→Prop} (ms:List Nat) (m:Nat) (L:σ→List (Nat×Value)) (I:σ→Prop) (μ:σ→Nat) (hw:wOk body ms m=true)
  (s0:σ) (h0:I s0) (hf:fits (L s0) e)
  (step:∀ s j,I s→vcC G C body (hd e j ms m (L s)) (b2r (fun e2=>∃ s',fits (L s') e2∧I s'∧μ s' < μ s) Q)):b2s (fun e Q=>vcC G C body e Q) e Q:=by
 refine ⟨fun n e1=>(∀ t,t<m→b2w ms t=false→e1 t=e t)∧∃ s,fits (L s) e1∧I s∧μ s=n,μ s0,⟨fun _ _ _=>rfl,s0,hf,h0,rfl⟩,?_⟩;rintro n e1 ⟨hk,s,hfs,hI,rfl⟩;have he:=b5F hfs hk;have h:=step s e1 hI;rw [← he] at h;refine a6B body e1 _ _ ?_ h;intro x e' hfr hx;cases x<;>first
  | (obtain ⟨s',h1,h2,h3⟩:=hx
     exact ⟨μ s',h3,fun t ht hm=>by rw [hfr t (a5J hw t ht hm),hk t ht hm],s',h1,h2,rfl⟩)
  | exact hx
theorem C1 {body:Code} {e:C9} {w:World} {Q:Exit→C9→World→Prop} (ms:List Nat) (m:Nat) (L:σ→List (Nat×Value)) (I:σ→World→Prop) (μ:σ→Nat) (hw:wOk body ms m=true)
  (s0:σ) (h0:I s0 w) (hf:fits (L s0) e)
  (step:∀ s j w,I s w→vc G body (hd e j ms m (L s)) w (b1j (fun e2 w2=>∃ s',fits (L s') e2∧I s' w2∧μ s' < μ s) Q)):b0l (fun e w Q=>vc G body e w Q) e w Q:=by
 refine ⟨fun n e1 w1=>(∀ t,t<m→b2w ms t=false→e1 t=e t)∧∃ s,fits (L s) e1∧I s w1∧μ s=n,μ s0,⟨fun _ _ _=>rfl,s0,hf,h0,rfl⟩,?_⟩;rintro n e1 w1 ⟨hk,s,hfs,hI,rfl⟩;have he:=b5F hfs hk;have h:=step s e1 w1 hI;rw [← he] at h;refine a88 body e1 w1 _ _ ?_ h;intro x e' w' hfr hx;cases x<;>first
  | (obtain ⟨s',h1,h2,h3⟩:=hx
     exact ⟨μ s',h3,fun t ht hm=>by rw [hfr t (a5J hw t ht hm),hk t ht hm],s',h1,h2,rfl⟩)
  | exact hx
theorem b0m {a b:Code} {e:C9} {Q:Exit→C9→Prop} (ms:List Nat) (m:Nat) (L:σ→List (Nat×Value)) (I:σ→Prop) (hw:wOk a ms m=true)
  (h1:vcC G C a e (b2r (fun e2=>∃ s,fits (L s) e2∧I s) Q)) (h2:∀ s j,I s→Nx (vcC G C b (hd e j ms m (L s)) Q)):Nx (vcC G C (.seq a b) e Q):=by
 refine ⟨?_⟩;show vcC G C a e (b2r (fun e=>Nx (vcC G C b e Q)) Q);refine a6B a e _ _ ?_ h1;intro x e' hfr hx;cases x<;>first
  | (obtain ⟨s,hf,hI⟩:=hx
     have he:=b5F (e:=e) (ms:=ms) (m:=m) hf (fun t ht hm=>hfr t (a5J hw t ht hm));show Nx (vcC G C b e' Q);rw [he];exact h2 s e' hI)
  | exact hx
theorem B0 {a b:Code} {e:C9} {w:World} {Q:Exit→C9→World→Prop} (ms:List Nat) (m:Nat) (L:σ→List (Nat×Value)) (I:σ→World→Prop) (hw:wOk a ms m=true)
  (h1:vc G a e w (b1j (fun e2 w2=>∃ s,fits (L s) e2∧I s w2) Q)) (h2:∀ s j w,I s w→Nx (vc G b (hd e j ms m (L s)) w Q)):Nx (vc G (.seq a b) e w Q):=by
 refine ⟨?_⟩;show vc G a e w (b1j (fun e w=>Nx (vc G b e w Q)) Q);refine a88 a e w _ _ ?_ h1;intro x e' w' hfr hx;cases x<;>first
  | (obtain ⟨s,hf,hI⟩:=hx
     have he:=b5F (e:=e) (ms:=ms) (m:=m) hf (fun t ht hm=>hfr t (a5J hw t ht hm));show Nx (vc G b e' w' Q);rw [he];exact h2 s e' w' hI)
  | exact hx
theorem c2X {a b:Code} {e:C9} {Q:Exit→C9→Prop} (t m:Nat) (v:Value) (hw:wOk a [t] m=true)
  (h1:vcC G C a e (b2r (fun e2=>e2 t=v) Q)) (h2:∀ j,Nx (vcC G C b (hd e j [t] m [(t,v)]) Q)):Nx (vcC G C (.seq a b) e Q) :=
 b0m (σ:=Unit) [t] m (fun _=>[(t,v)]) (fun _=>True) hw (a6B a e _ _ (fun x e' _ hx=>by
  cases x<;>first
   | exact ⟨(),⟨hx,trivial⟩,trivial⟩
   | exact hx) h1) (fun _ j _=>h2 j)
end loops
def b8p:List Value→Nat→Value
 | [],_=>undef
 | v::_,0=>v
 | _::r,t+1=>b8p r t
def a7n (l:List Value):C9:=fun t=>b8p l t
def c0I (P:Program) (rs:List ResultVar) (e:C9) (w:World) (R:Value→Prop):Prop :=
 match rs with
 | []=>R (.tuple #[])
 | [.tmp t]=>t7 (e t) R
 | [.cell t ty]=>match e t with
  | .pointer (some a)=>K8 P w ty a (fun v=>t7 v R)
  | _=>False
 | [.tmp t,.tmp u]=>R (.tuple #[e t,e u])
 | [.tmp t,.tmp u,.tmp v]=>R (.tuple #[e t,e u,e v])
 | _=>False
def c5b (P:Program) (rs:List ResultVar) (R:Ending→World→Prop):Exit→C9→World→Prop
 | .normal,e,w=>c0I P rs e w (fun v=>R (.returned v) w)
 | .ret,e,w=>c0I P rs e w (fun v=>R (.returned v) w)
 | _,_,_=>False
theorem b1m (l:List Value) (t:Nat):b8p l t=l.getD t undef:=by
 induction l generalizing t with
 | nil=>simp [b8p]
 | cons v r ih=>cases t<;>simp [b8p,ih]
theorem enter {G:Prg} {f:Nat} {fn:Func} {c:Code} {args:List Value} {w:World} {R:Ending→World→Prop}
  (hf:G.P.funcs[f]?=some fn) (hb:fn.body=some c) (hn:args.length≤fn.ntmps) (hk:U3 fn.ntmps c=true)
  (h:W G fn.ntmps c (a7n args) w (c5b G.P fn.results.toList R)):Calls G.P f args.toArray w R:=by
 refine calls_of_wp hf hb ?_;have hsz:(args.toArray++Array.replicate (fn.ntmps-args.toArray.size) undef).size=fn.ntmps:=by simp;omega
 refine wp_mono (h hk { tmps:=args.toArray++Array.replicate (fn.ntmps-args.toArray.size) undef,defers:=[] } ?_ hsz rfl) ?_
 ·funext t;unfold z6 a7n;rw [b1m];simp only [xF,xA];by_cases ht:t<args.length
  ·rw [Array.getElem?_append_left (by simpa using ht)];simp
  ·rw [Array.getElem?_append_right (by simpa using ht)]
   rw [xS zo];simp only [Option.getD_none];cases hx:(Array.replicate (fn.ntmps-args.toArray.size) undef)[t-args.toArray.size]? with
   | none=>rfl
   | some v =>
    have:=yn.1 hx;obtain ⟨h1,h2⟩:=this;simp at h2;simp [h2]
 ·rintro x a w' ⟨hs,hd,hq⟩;have key:c0I G.P fn.results.toList (z6 a) w' (fun v=>R (.returned v) w')→∃ v,(results fn a.tmps).run G.P w' = .ok v w'∧R (.returned v) w':=by
   intro hr;unfold c0I at hr;split at hr
   ·rename_i he;have he:fn.results=#[]:=xX.1 (by simpa using he)
    exact ⟨_,results_none he _ _ _,hr⟩
   ·rename_i t he;have he:fn.results=#[.tmp t]:=xX.1 (by simpa using he)
    rw [V4] at hr;exact ⟨_,results_tmp he _ _ _,hr⟩
   ·rename_i t ty he;have he:fn.results=#[.cell t ty]:=xX.1 (by simpa using he)
    split at hr
    ·rename_i ad had;obtain ⟨v,h1,h2⟩:=hr.ex;rw [V4] at h2;refine ⟨v,?_,h2⟩;have had':a.tmps[t]?.getD undef = .pointer (some ad):=by rw [← xF];exact had
     unfold m9 Instr.loadAt at h1;simp [Instr.sureAddr] at h1;simp [results,he,had',asAddr,h1]
    ·exact hr.elim
   ·rename_i t u he;have he:fn.results=#[.tmp t,.tmp u]:=xX.1 (by simpa using he)
    exact ⟨_,results_tmp2 he _ _ _,hr⟩
   ·rename_i t u v he;have he:fn.results=#[.tmp t,.tmp u,.tmp v]:=xX.1 (by simpa using he)
    exact ⟨_,by simp [results,he,z6,xF],hr⟩
   ·exact hr.elim
  cases x<;>first
   | exact ⟨hd,key hq⟩
   | exact hq.elim
section steps
variable {G:Prg} {C:World→Prop} {e:C9} {w:World} {Q:Exit→C9→Prop} {R:Exit→C9→World→Prop}
theorem c0J (h:Q .normal e):vcC G C .skip e Q:=h
theorem b6K {id:Nat} {ops:Array Oper} {d:Bool} (h:vcQ G C ops.toList ops.toList e (fun e=>Q .normal e)):vcC G C (.region id ops d) e Q:=h
theorem c33 {a b:Code} (h:vcC G C a e (b2r (fun e=>Nx (vcC G C b e Q)) Q)):vcC G C (.seq a b) e Q:=h
theorem c0K {c:Operand} {a b:Code} (h:match ev e c with | .bool t=>bif t then Cx (vcC G C a e Q) else Cx (vcC G C b e Q)|_=>False):vcC G C (.cond c a b) e Q:=by
 show (match ev e c with | .bool t=>bif t then vcC G C a e Q else vcC G C b e Q|_=>False)
 revert h;cases ev e c with
 | bool t=>cases t<;>exact fun h=>h.go
 | _=>exact fun h=>h
theorem b8q {id:Nat} {a:Code} (h:vcC G C a e (c0H id Q)):vcC G C (.block id a) e Q:=h
theorem c0L {a:Code} (h:b2s (fun e Q=>vcC G C a e Q) e Q):vcC G C (.loop a) e Q:=h
theorem c0M {id:Nat} (h:Q (.exit id) e):vcC G C (.exit id) e Q:=h
theorem c36 (h:Q .ret e):vcC G C .ret e Q:=h
theorem c0N (h:R .normal e w):vc G .skip e w R:=h
theorem b6L {id:Nat} {ops:Array Oper} {d:Bool} (h:bif d then H7 G ops.toList e w (fun e w=>R .normal e w) else Y0 G ops.toList ops.toList e w (fun e w=>R .normal e w)):vc G (.region id ops d) e w R:=h
theorem a89 {a b:Code} (h:vc G a e w (b1j (fun e w=>Nx (vc G b e w R)) R)):vc G (.seq a b) e w R:=h
theorem c0O {c:Operand} {a b:Code} (h:match ev e c with | .bool t=>bif t then Cx (vc G a e w R) else Cx (vc G b e w R)|_=>False):vc G (.cond c a b) e w R:=by
 show (match ev e c with | .bool t=>bif t then vc G a e w R else vc G b e w R|_=>False)
 revert h;cases ev e c with
 | bool t=>cases t<;>exact fun h=>h.go
 | _=>exact fun h=>h
theorem a8A {id:Nat} {a:Code} (h:vc G a e w (c0G id R)):vc G (.block id a) e w R:=h
theorem c0P {a:Code} (h:b0l (fun e w R=>vc G a e w R) e w R):vc G (.loop a) e w R:=h
theorem c0Q {id:Nat} (h:R (.exit id) e w):vc G (.exit id) e w R:=h
theorem c37 (h:R .ret e w):vc G .ret e w R:=h
noncomputable def c5c (G:Prg) (C:World→Prop) (c:Code) (e:C9) (Q:Exit→C9→Prop):Prop :=
 match c with
 | .skip=>Q .normal e
 | .region _ ops _=>vcQ G C ops.toList ops.toList e (fun e=>Q .normal e)
 | .seq a b=>vcC G C a e (b2r (fun e=>Nx (vcC G C b e Q)) Q)
 | .cond c a b=>match ev e c with | .bool t=>bif t then Cx (vcC G C a e Q) else Cx (vcC G C b e Q)|_=>False
 | .block id a=>vcC G C a e (c0H id Q)
 | .loop a=>b2s (fun e Q=>vcC G C a e Q) e Q
 | .exit id=>Q (.exit id) e
 | .ret=>Q .ret e
 | _=>False
noncomputable def c5d (G:Prg) (c:Code) (e:C9) (w:World) (R:Exit→C9→World→Prop):Prop :=
 match c with
 | .skip=>R .normal e w
 | .region _ ops d=>bif d then H7 G ops.toList e w (fun e w=>R .normal e w) else Y0 G ops.toList ops.toList e w (fun e w=>R .normal e w)
 | .seq a b=>vc G a e w (b1j (fun e w=>Nx (vc G b e w R)) R)
 | .cond c a b=>match ev e c with | .bool t=>bif t then Cx (vc G a e w R) else Cx (vc G b e w R)|_=>False
 | .block id a=>vc G a e w (c0G id R)
 | .loop a=>b0l (fun e w R=>vc G a e w R) e w R
 | .exit id=>R (.exit id) e w
 | .ret=>R .ret e w
 | _=>False
theorem sC {c:Code} (h:c5c G C c e Q):vcC G C c e Q:=by
 cases c<;>first|exact c0J h|exact b6K h|exact c33 h|exact c0K h|exact b8q h|exact c0L h|exact c0M h|exact c36 h|exact h.elim
theorem sK {c:Code} (h:c5d G c e w R):vc G c e w R:=by
 cases c<;>first|exact c0N h|exact b6L h|exact a89 h|exact c0O h|exact a8A h|exact c0P h|exact c0Q h|exact c37 h|exact h.elim
theorem nX {p:Prop} (h:p):Nx p:=⟨h⟩
theorem cX {p:Prop} (h:p):Cx p:=⟨h⟩
end steps
attribute [irreducible] vc vcC
theorem zR {A B:Prop} (h:B) (e:B→A:=by (intro h;((conv=>whnf);(repeat ((with_reducible first|refine nX ?_|refine cX ?_|refine sC ?_|refine sK ?_);(conv=>whnf))));exact h)):A:=e h
theorem zG {A B:Prop} (h:B) (e:B→A:=by (intro h;((conv=>whnf);(repeat ((with_reducible first|refine cX ?_|refine sC ?_|refine sK ?_);(conv=>whnf))));exact h)):A:=e h
end E
end
