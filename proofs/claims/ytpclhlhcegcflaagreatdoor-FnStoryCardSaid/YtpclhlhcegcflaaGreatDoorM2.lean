/- One part of the proof: Eng. -/
import Derived.WalkKit
import Derived.Below
import Derived.Deep.Quiet
import Derived.OrdersHeld
import Derived.Test.YtpclhlhcegcflaaGreatDoorM1
namespace Go.Proofs.YtpclhlhcegcflaaGreatDoor
set_option linter.unusedSimpArgs false
set_option linter.unusedVariables false
section
namespace E
open Go Go.RowKit
variable {ds : List Deferred}
abbrev Env := Nat → Value
def upd (e : Env) (d : Nat) (v : Value) : Env := fun t => bif Nat.beq t d then v else e t
def updO (e : Env) : Option Nat → Value → Env
 | some d, v => upd e d v
 | none, _ => e
def ev (e : Env) : Operand → Value
 | .tmp t => e t
 | .const v => v
 | .global g => .pointer (some ⟨g, 0, none⟩)
 | .func f => .func (.func f) #[] #[]
def envOf (a : Act) : Env := fun t => a.tmps.getD t undef
theorem eval_envOf (a : Act) : a.eval = ev (envOf a) := by funext x; cases x <;> rfl
theorem beq_ne {t d : Nat} (h : t ≠ d) : Nat.beq t d = false := by
 cases hb : Nat.beq t d
 ·rfl
 ·exact absurd (Nat.eq_of_beq_eq_true hb) h
theorem upd_same (e : Env) (d : Nat) : upd e d (e d) = e := by
 funext t; unfold upd
 by_cases h : t = d
 ·subst h; simp
 ·rw [beq_ne h]; rfl
theorem upd_self (e : Env) (d : Nat) (v : Value) : upd e d v d = v := by simp [upd]
theorem envOf_put {a : Act} {d : Nat} (v : Value) (h : d < a.tmps.size) : envOf (a.put (some d) v) = upd (envOf a) d v := by
 funext t
 unfold envOf upd Act.put
 by_cases h1 : t = d
 ·subst h1; simp [h]
 ·simp [beq_ne h1, Array.getD_eq_getD_getElem?, Array.getElem?_setIfInBounds_ne (Ne.symm h1)]
def dstOk (N : Nat) (o : Oper) : Bool := match o.dst with | some d => Nat.blt d N | none => true
theorem envOf_putO {a : Act} {o : Oper} (v : Value) (h : dstOk a.tmps.size o = true) : envOf (a.put o.dst v) = updO (envOf a) o.dst v := by
 unfold dstOk at h
 cases hd : o.dst with
 | none => rfl
 | some d => rw [hd] at h; simp only [Nat.blt_eq] at h; exact envOf_put v h
theorem put_size (a : Act) (d : Option Nat) (v : Value) : (a.put d v).tmps.size = a.tmps.size := by
 cases d <;> simp [Act.put]
theorem put_defers (a : Act) (d : Option Nat) (v : Value) : (a.put d v).defers = a.defers := by
 cases d <;> simp [Act.put]
def force (v : Value) (K : Value → Prop) : Prop :=
 match v with
 | .int k n => K (.int k n)
 | .bool b => K (.bool b)
 | .string s => K (.string s)
 | .pointer a => K (.pointer a)
 | .slice a l c => K (.slice a l c)
 | .agg cs => K (.agg cs)
 | .tuple vs => K (.tuple vs)
 | v => K v
theorem force_eq (v : Value) (K : Value → Prop) : force v K = K v := by cases v <;> rfl
def boxed (v : Value) (K : Array Value → Prop) : Prop :=
 match v with
 | .agg cs => K cs
 | .int k n => K #[.int k n]
 | .bool b => K #[.bool b]
 | .string s => K #[.string s]
 | .pointer a => K #[.pointer a]
 | .slice a l c => K #[.slice a l c]
 | v => K v.cells
theorem boxed_eq (v : Value) (K : Array Value → Prop) : boxed v K = K v.cells := by cases v <;> rfl
inductive D where
 | int (k : IntKind)
 | bool
 | string
 | pointer
 | func
 | map
 | iface
 | slice (elem size : Nat)
 | array (len elem size : Nat)
 | struct (size : Nat) (fields : List (Nat × Nat × Nat))
 deriving Inhabited
abbrev Tab := List (Nat × D)
def tyOf : Tab → Nat → Option D
 | [], _ => none
 | (s, d) :: r, t => bif Nat.beq s t then some d else tyOf r t
def okD (P : Program) (t : Nat) : D → Bool
 | .int k => match P.underlying t with | some (.int k') => decide (k' = k) | _ => false
 | .bool => match P.underlying t with | some .bool => true | _ => false
 | .string => match P.underlying t with | some .string => true | _ => false
 | .pointer => match P.underlying t with | some (.pointer _) => true | _ => false
 | .func => match P.underlying t with | some (.func ..) => true | _ => false
 | .map => match P.underlying t with | some (.map ..) => true | _ => false
 | .iface => match P.underlying t with | some (.interface _) => true | _ => false
 | .slice el z => match P.underlying t with | some (.slice e) => decide (e = el) && decide ((P.info? e).map (·.size) = some z) | _ => false
 | .array n el z => match P.underlying t with | some (.array n' e) => decide (n' = n) && decide (e = el) && decide ((P.info? e).map (·.size) = some z) && decide ((P.info? t).map (·.size) = some (n * z)) | _ => false
 | .struct z fs => match P.underlying t with
  | some (.struct f) => decide ((P.info? t).map (·.size) = some z) && decide (f.toList.map (fun x => (x.type, x.offset)) = fs.map fun x => (x.1, x.2.1)) && fs.all fun x => decide ((P.info? x.1).map (·.size) = some x.2.2) && decide (x.2.2 ≠ 0)
  | _ => false
def Tab.Ok (T : Tab) (P : Program) : Prop := ∀ t d, tyOf T t = some d → okD P t d = true
theorem Tab.ok_of (T : Tab) (P : Program) (h : T.all (fun x => okD P x.1 x.2) = true) : T.Ok P := by
 induction T with
 | nil => intro t d h; simp [tyOf] at h
 | cons x r ih =>
  obtain ⟨s, dd⟩ := x
  simp only [List.all_cons, Bool.and_eq_true] at h
  intro t d ht
  unfold tyOf at ht
  by_cases hs : s = t
  ·subst hs; simp at ht; subst ht; exact h.1
  ·rw [beq_ne hs] at ht; exact ih h.2 t d ht
section ty
variable {P : Program} {t : Nat}
theorem okD_int {k} (h : okD P t (.int k) = true) : P.underlying t = some (.int k) := by
 simp only [okD] at h; split at h
 ·rename_i k' e; rw [e, of_decide_eq_true h]
 ·cases h
theorem okD_string (h : okD P t .string = true) : P.underlying t = some .string := by
 simp only [okD] at h; split at h
 ·assumption
 ·cases h
theorem okD_slice {el z} (h : okD P t (.slice el z) = true) : P.underlying t = some (.slice el) ∧ (P.info? el).map (·.size) = some z := by
 simp only [okD] at h; split at h
 ·rename_i e he
  simp only [Bool.and_eq_true, decide_eq_true_eq] at h
  obtain ⟨rfl, h2⟩ := h
  exact ⟨he, h2⟩
 ·cases h
theorem okD_array {n el z} (h : okD P t (.array n el z) = true) : P.underlying t = some (.array n el) ∧ (P.info? el).map (·.size) = some z ∧ (P.info? t).map (·.size) = some (n * z) := by
 simp only [okD] at h; split at h
 ·rename_i n' e he
  simp only [Bool.and_eq_true, decide_eq_true_eq] at h
  obtain ⟨⟨⟨rfl, rfl⟩, h2⟩, h3⟩ := h
  exact ⟨he, h2, h3⟩
 ·cases h
theorem okD_struct {z fs} (h : okD P t (.struct z fs) = true) : ∃ f : Array Field, P.underlying t = some (.struct f) ∧ (P.info? t).map (·.size) = some z ∧
  f.toList.map (fun x => (x.type, x.offset)) = fs.map (fun x => (x.1, x.2.1)) ∧ ∀ x ∈ fs, (P.info? x.1).map (·.size) = some x.2.2 ∧ x.2.2 ≠ 0 := by
 simp only [okD] at h; split at h
 ·rename_i f he
  simp only [Bool.and_eq_true, decide_eq_true_eq, List.all_eq_true] at h
  exact ⟨f, he, h.1.1, h.1.2, h.2⟩
 ·cases h
end ty
def bitv (op : BinOp) (k : IntKind) (x y : Int) : Int :=
 match op with
 | .and => k.wrap ((BitVec.ofInt k.bits x &&& BitVec.ofInt k.bits y).toNat : Int)
 | .or => k.wrap ((BitVec.ofInt k.bits x ||| BitVec.ofInt k.bits y).toNat : Int)
 | .xor => k.wrap ((BitVec.ofInt k.bits x ^^^ BitVec.ofInt k.bits y).toNat : Int)
 | _ => k.wrap ((BitVec.ofInt k.bits x &&& ~~~ BitVec.ofInt k.bits y).toNat : Int)
def vcInt (op : BinOp) (k : IntKind) (m n : Int) (K : Value → Prop) (F : Prop) : Prop :=
 match op with
 | .add => K (.int k (k.wrap (m + n)))
 | .sub => K (.int k (k.wrap (m - n)))
 | .mul => K (.int k (k.wrap (m * n)))
 | .eql => K (.bool (decide (m = n)))
 | .neq => K (.bool (!decide (m = n)))
 | .lss => K (.bool (decide (m < n)))
 | .leq => K (.bool (decide (m ≤ n)))
 | .gtr => K (.bool (decide (n < m)))
 | .geq => K (.bool (decide (n ≤ m)))
 | .quo => bif decide (n = 0) then F else K (.int k (k.wrap (m.tdiv n)))
 | .rem => bif decide (n = 0) then F else K (.int k (m.tmod n))
 | .and => ∀ r : Int, r = bitv .and k m n → K (.int k r)
 | .or => ∀ r : Int, r = bitv .or k m n → K (.int k r)
 | .xor => ∀ r : Int, r = bitv .xor k m n → K (.int k r)
 | .andNot => ∀ r : Int, r = bitv .andNot k m n → K (.int k r)
 | _ => F
def vcShift (op : BinOp) (k : IntKind) (m n : Int) (K : Value → Prop) (F : Prop) : Prop :=
 match op with
 | .shl => bif decide (0 ≤ n) then (∀ r : Int, r = k.wrap (m * 2 ^ (min n.toNat k.bits)) → K (.int k r)) else F
 | .shr => bif decide (0 ≤ n) then (∀ r : Int, r = m.fdiv (2 ^ (min n.toNat k.bits)) → K (.int k r)) else F
 | _ => F
def fits2 (x y : ByteArray) : Bool := decide (x.size + y.size ≤ 9223372036854775807)
def inB (m : Int) (n : Nat) : Bool := decide (0 ≤ m) && decide (m < (n : Int))
theorem inB_iff {m : Int} {n : Nat} : inB m n = true ↔ 0 ≤ m ∧ m < (n : Int) := by simp [inB]
def vcStr (op : BinOp) (x y : ByteArray) (K : Value → Prop) (F : Prop) : Prop :=
 match op with
 | .add => bif fits2 x y then K (.string (x ++ y)) else F
 | .eql => K (.bool (decide (x = y)))
 | .neq => K (.bool (!decide (x = y)))
 | .lss => K (.bool (Op.bytesLess x.toList y.toList))
 | _ => F
def isShift : BinOp → Bool
 | .shl | .shr => true
 | _ => false
def vcBin (op : BinOp) (x y : Value) (K : Value → Prop) (F : Prop) : Prop :=
 match x, y with
 | .int k m, .int k' n => bif isShift op then vcShift op k m n K F else bif decide (k = k') then vcInt op k m n K F else F
 | .string a, .string b => vcStr op a b K F
 | _, _ => F
def vcUn (op : UnOp) (x : Value) (K : Value → Prop) (F : Prop) : Prop :=
 match op, x with
 | .not, .bool b => K (.bool (!b))
 | .neg, .int k n => K (.int k (k.wrap (0 - n)))
 | .xor, .int k n => ∀ r : Int, r = bitv .xor k (if k.signed then -1 else k.max) n → K (.int k r)
 | _, _ => F
def vcField (d : Option D) (x : Value) (f : Nat) (K : Value → Prop) (F : Prop) : Prop :=
 match d, x with
 | some (.struct _ fs), .pointer (some ⟨b, n, none⟩) => match fs[f]? with
  | some (_, off, _) => K (.pointer (some ⟨b, bif Nat.beq off 0 then n else n + off, none⟩))
  | none => F
 | _, _ => F
def offZ (n m z : Nat) : Nat := bif Nat.beq n 0 then (bif Nat.beq z 1 then m else m * z) else (bif Nat.beq z 1 then n + m else n + m * z)
theorem offZ_eq (n m z : Nat) : offZ n m z = n + m * z := by
 unfold offZ
 by_cases h : n = 0
 ·subst h
  by_cases hz : z = 1
  ·subst hz; simp
  ·simp [beq_ne hz]
 ·by_cases hz : z = 1
  ·subst hz; simp [beq_ne h]
  ·simp [beq_ne h, beq_ne hz]
def vcIndexAddr (d : Option D) (x i : Value) (K : Value → Prop) (F : Prop) : Prop :=
 match d, x, i with
 | some (.array len _ z), .pointer (some ⟨b, n, none⟩), .int _ m => bif inB m len then K (.pointer (some ⟨b, offZ n m.toNat z, none⟩)) else F
 | some (.slice _ z), .slice (some ⟨b, n, none⟩) len _, .int _ m => bif inB m len then K (.pointer (some ⟨b, offZ n m.toNat z, none⟩)) else F
 | _, _, _ => F
def vcConv (s d : Option D) (x : Value) (K : Value → Prop) (F : Prop) : Prop :=
 match s, d, x with
 | some (.int _), some (.int k), .int _ n => K (.int k (k.wrap n))
 | some .string, some .string, .string a => K (.string a)
 | _, _, _ => F
def vcIndex (d : Option D) (x i : Value) (K : Value → Prop) (F : Prop) : Prop :=
 match d, x, i with
 | some .string, .string s, .int _ m => bif inB m s.size then K (.int .u8 (s.get! m.toNat).toNat) else F
 | _, _, _ => F
def vcLen (d : Option D) (x : Value) (K : Value → Prop) (F : Prop) : Prop :=
 match d, x with
 | some .string, .string s => K (.int .i64 s.size)
 | some (.slice _ _), .slice _ n _ => K (.int .i64 n)
 | _, _ => F
def nthO : List Value → Nat → Option Value
 | [], _ => none
 | v :: _, 0 => some v
 | _ :: r, t + 1 => nthO r t
theorem nthO_eq (l : List Value) (t : Nat) : nthO l t = l[t]? := by
 induction l generalizing t with
 | nil => simp [nthO]
 | cons v r ih => cases t <;> simp [nthO, ih]
def vcPure (T : Tab) (o : Oper) (e : Env) (K : Value → Prop) (F : Prop) : Prop :=
 match o.op with
 | .move x => force (ev e x) K
 | .assign x => force (ev e x) K
 | .pick c a b => match ev e c with
  | .bool t => force (bif t then ev e a else ev e b) K
  | _ => F
 | .binOp op _ x y _ => vcBin op (ev e x) (ev e y) K F
 | .unOp op _ x => vcUn op (ev e x) K F
 | .nilCheck x => match ev e x with
  | .pointer (some a) => K (.pointer (some a))
  | _ => F
 | .fieldAddr s x f => vcField (tyOf T s) (ev e x) f K F
 | .indexAddr t x i => vcIndexAddr (tyOf T t) (ev e x) (ev e i) K F
 | .convert s d x => vcConv (tyOf T s) (tyOf T d) (ev e x) K F
 | .index t x i => vcIndex (tyOf T t) (ev e x) (ev e i) K F
 | .extract x i => match ev e x with
  | .tuple vs => match nthO vs.toList i with
   | some v => force v K
   | none => F
  | _ => F
 | .call { callee := .builtin .len, args, argTypes } => match args.toList, argTypes.toList with
  | [x], [t] => vcLen (tyOf T t) (ev e x) K F
  | _, _ => F
 | _ => F
def Steady (P : Program) (o : Oper) (e : Env) (v : Value) : Prop := ∀ w, (execOp (ev e) o).run P w = .ok (.value v) w
theorem run_value {P : Program} {w : World} {s : Sem Value} {v : Value} (h : s.run P w = .ok v w) : (do pure (Next.value (← s)) : Sem Next).run P w = .ok (.value v) w := by
 simp [h]
theorem run_underlying {P : Program} {w : World} {t : Nat} {d : TypeDesc} (h : P.underlying t = some d) : (underlying t).run P w = .ok d w := by
 simp [underlying, h]
theorem run_sizeOf {P : Program} {w : World} {t z : Nat} (h : (P.info? t).map (·.size) = some z) : (sizeOf t).run P w = .ok z w := by
 unfold sizeOf typeInfo
 cases hi : P.info? t with
 | none => simp [hi] at h
 | some i => simp [hi] at h; simp [hi, h]
section sound
variable {P : Program} {T : Tab} {K : Value → Prop} {F : Prop}
theorem vcInt_sound {op : BinOp} {k : IntKind} {m n : Int} (hs : isShift op = false) (h : vcInt op k m n K F) :
  (∃ v, (∀ t w, (binOp op t (.int k m) (.int k n)).run P w = .ok v w) ∧ K v) ∨ F := by
 cases op <;> simp only [vcInt] at h <;> first
  | exact .inr h
  | exact absurd hs zd
  | (refine .inl ⟨_, fun t w => ?_, h⟩; simp [binOp, Op.intArith]; done)
  | (refine .inl ⟨_, fun t w => ?_, h _ rfl⟩; simp [binOp, Op.intBits, bitv]; done)
  | (refine .inl ⟨_, fun t w => ?_, h⟩; simp [binOp, Op.intCmp]; done)
  | (refine .inl ⟨_, fun t w => ?_, h⟩; simp [binOp, Op.intCmp]; rfl)
  | (by_cases hz : n = 0
     ·rw [decide_eq_true hz] at h; exact .inr h
     ·rw [decide_eq_false hz] at h; refine .inl ⟨_, fun t w => ?_, h⟩; simp [binOp, Op.intDiv, hz]; done)
theorem vcShift_sound {op : BinOp} {k k' : IntKind} {m n : Int} (h : vcShift op k m n K F) :
  (∃ v, (∀ t w, (binOp op t (.int k m) (.int k' n)).run P w = .ok v w) ∧ K v) ∨ F := by
 cases op <;> simp only [vcShift] at h <;> first
  | exact .inr h
  | (by_cases hn : 0 ≤ n
     ·rw [decide_eq_true hn] at h; refine .inl ⟨_, fun t w => ?_, h _ rfl⟩; simp [binOp, Op.shift, Int.not_lt.2 hn]; done
     ·rw [decide_eq_false hn] at h; exact .inr h)
theorem byteArray_toList_inj {x y : ByteArray} (h : x.toList = y.toList) : x = y := by
 rw [ByteArray.toList_eq, ByteArray.toList_eq] at h
 cases x; cases y
 simp only [ByteArray.mk.injEq]
 exact Array.toList_inj.1 h
theorem vcStr_sound {op : BinOp} {x y : ByteArray} (h : vcStr op x y K F) :
  (∃ v, (∀ t w, (binOp op t (.string x) (.string y)).run P w = .ok v w) ∧ K v) ∨ F := by
 have e : (x.toList == y.toList) = decide (x = y) := by
  by_cases hxy : x = y
  ·subst hxy; simp
  ·rw [decide_eq_false hxy]; simp only [beq_eq_false_iff_ne]; exact fun h => hxy (byteArray_toList_inj h)
 cases op <;> simp only [vcStr] at h <;> first
  | exact .inr h
  | (refine .inl ⟨_, fun t w => ?_, h⟩; simp only [binOp, Op.stringOp, e]; rfl)
  | (cases hf : fits2 x y
     ·rw [hf] at h; exact .inr h
     ·rw [hf] at h
      refine .inl ⟨_, fun t w => ?_, h⟩
      have hm : ¬ (((x.size + y.size : Nat) : Int) > IntKind.i64.max) := by
        have := of_decide_eq_true hf; simp only [IntKind.max, IntKind.signed, IntKind.bits]; simp; omega
      simp only [binOp, Op.stringOp, if_neg hm]; rfl)
theorem vcBin_sound {op : BinOp} {x y : Value} (h : vcBin op x y K F) :
  (∃ v, (∀ t w, (binOp op t x y).run P w = .ok v w ∧ ∀ a b, (eqGuard op t a b x y).run P w = .ok () w) ∧ K v) ∨ F := by
 unfold vcBin at h
 split at h
 ·rename_i k m k' n
  have g : ∀ t w a b, (eqGuard op t a b (.int k m) (.int k' n)).run P w = .ok () w := fun t w a b => by
   unfold eqGuard; split <;> rfl
  cases hs : isShift op with
  | true =>
   rw [hs] at h
   rcases vcShift_sound (P := P) (k' := k') h with ⟨v, h1, h2⟩ | h
   ·exact .inl ⟨v, fun t w => ⟨h1 t w, fun a b => g t w a b⟩, h2⟩
   ·exact .inr h
  | false =>
   rw [hs] at h
   by_cases hk : k = k'
   ·subst hk
    simp only [decide_true, cond_true, cond_false] at h
    rcases vcInt_sound (P := P) hs h with ⟨v, h1, h2⟩ | h
    ·exact .inl ⟨v, fun t w => ⟨h1 t w, fun a b => g t w a b⟩, h2⟩
    ·exact .inr h
   ·rw [decide_eq_false hk] at h; exact .inr h
 ·rename_i x y
  rcases vcStr_sound (P := P) h with ⟨v, h1, h2⟩ | h
  ·exact .inl ⟨v, fun t w => ⟨h1 t w, fun a b => by unfold eqGuard; split <;> rfl⟩, h2⟩
  ·exact .inr h
 ·exact .inr h
theorem vcUn_sound {op : UnOp} {x : Value} (h : vcUn op x K F) : (∃ v, (∀ w, (Op.unary op x).run P w = .ok v w) ∧ K v) ∨ F := by
 unfold vcUn at h
 split at h
 ·exact .inl ⟨_, fun w => rfl, h⟩
 ·refine .inl ⟨_, fun w => ?_, h⟩; simp [Op.unary, Op.intArith]
 ·refine .inl ⟨_, fun w => ?_, h _ rfl⟩; simp [Op.unary, Op.intBits, bitv]
 ·exact .inr h
theorem vcField_sound (hT : T.Ok P) {s f : Nat} {x : Value} (h : vcField (tyOf T s) x f K F) : (∃ v, (∀ w, (Instr.fieldAt s x f).run P w = .ok v w) ∧ K v) ∨ F := by
 unfold vcField at h
 split at h
 ·rename_i z fs b n hd
  split at h
  ·rename_i ty off sz hf
   refine .inl ⟨_, fun w => ?_, h⟩
   obtain ⟨fa, hu, hz, hm, hall⟩ := okD_struct (hT _ _ hd)
   obtain ⟨h1, h2⟩ := hall _ (List.mem_of_getElem? hf)
   have hfa : (fa.toList.map (fun x => (x.type, x.offset)))[f]? = some (ty, off) := by rw [hm]; simp [hf]
   simp only [List.getElem?_map, Array.getElem?_toList] at hfa
   cases hff : fa[f]? with
   | none => rw [hff] at hfa; simp at hfa
   | some fl =>
    rw [hff] at hfa
    simp only [Option.map_some, Option.some.injEq, Prod.mk.injEq] at hfa
    obtain ⟨rfl, rfl⟩ := hfa
    unfold Instr.fieldAt
    simp only [Sem.run_bind, run_underlying hu, Result.andThen_ok, hff, Instr.sureAddr, Sem.run_pure, fieldPlace, run_sizeOf h1]
    rw [Sem.run_ite, if_neg h2]
    simp only [Sem.run_pure, Result.andThen_ok, Addr.add]
    by_cases h0 : fl.offset = 0
    ·simp [h0]
    ·simp [h0, beq_ne h0]
  ·exact .inr h
 ·exact .inr h
theorem addr_add (b n m : Nat) : (⟨b, n, none⟩ : Addr).add m = ⟨b, n + m, none⟩ := by
 unfold Addr.add; split
 ·rename_i h; subst h; rfl
 ·rfl
theorem vcIndexAddr_sound (hT : T.Ok P) {t : Nat} {x i : Value} (h : vcIndexAddr (tyOf T t) x i K F) : (∃ v, (∀ w, (Instr.indexAt t x i).run P w = .ok v w) ∧ K v) ∨ F := by
 unfold vcIndexAddr at h
 split at h
 ·rename_i len el z b n k m hd
  obtain ⟨h1, h2, _⟩ := okD_array (hT _ _ hd)
  cases hb : inB m len
  ·rw [hb] at h; exact .inr h
  ·rw [hb] at h
   refine .inl ⟨_, fun w => ?_, h⟩
   unfold Instr.indexAt
   simp [asIntOf, run_underlying h1, Instr.sureAddr, inB_iff.1 hb, run_sizeOf h2, addr_add, offZ_eq]
 ·rename_i el z b n len c k m hd
  obtain ⟨h1, h2⟩ := okD_slice (hT _ _ hd)
  cases hb : inB m len
  ·rw [hb] at h; exact .inr h
  ·rw [hb] at h
   refine .inl ⟨_, fun w => ?_, h⟩
   unfold Instr.indexAt
   simp [asIntOf, run_underlying h1, inB_iff.1 hb, run_sizeOf h2, addr_add, offZ_eq]
 ·exact .inr h
theorem vcConv_sound (hT : T.Ok P) {s d : Nat} {x : Value} (h : vcConv (tyOf T s) (tyOf T d) x K F) : (∃ v, (∀ w, (convert s d x).run P w = .ok v w) ∧ K v) ∨ F := by
 unfold vcConv at h
 split at h
 ·rename_i k0 k k1 n hs hd
  refine .inl ⟨_, fun w => ?_, h⟩
  unfold convert
  simp [run_underlying (okD_int (hT _ _ hs)), run_underlying (okD_int (hT _ _ hd)), Conv.intToInt]
 ·rename_i a hs hd
  refine .inl ⟨_, fun w => ?_, h⟩
  unfold convert
  simp [run_underlying (okD_string (hT _ _ hs)), run_underlying (okD_string (hT _ _ hd))]
 ·exact .inr h
theorem vcIndex_sound (hT : T.Ok P) {t : Nat} {x i : Value} (h : vcIndex (tyOf T t) x i K F) : (∃ v, (∀ w, (Instr.index t x i).run P w = .ok v w) ∧ K v) ∨ F := by
 unfold vcIndex at h
 split at h
 ·rename_i s k m hd
  cases hb : inB m s.size
  ·rw [hb] at h; exact .inr h
  rw [hb] at h
  have hb' := inB_iff.1 hb
  refine .inl ⟨_, fun w => ?_, h⟩
  unfold Instr.index
  have hm : m.toNat < s.size := by omega
  have e : s[m.toNat]? = some (s.get! m.toNat) := by
   rw [getElem?_pos s m.toNat hm]
   congr 1
   show s.data[m.toNat] = s.data[m.toNat]!
   rw [getElem!_pos s.data m.toNat hm]
  simp [asIntOf, run_underlying (okD_string (hT _ _ hd)), hb'.1, e]
 ·exact .inr h
theorem vcLen_sound (hT : T.Ok P) {t : Nat} {x : Value} (h : vcLen (tyOf T t) x K F) : (∃ v, (∀ ty w, (Builtin.len_ #[t] ty #[x]).run P w = .ok v w) ∧ K v) ∨ F := by
 unfold vcLen at h
 split at h
 ·rename_i s hd
  refine .inl ⟨_, fun ty w => ?_, h⟩
  unfold Builtin.len_
  simp [run_underlying (okD_string (hT _ _ hd)), goInt]
 ·rename_i el z a n c hd
  refine .inl ⟨_, fun ty w => ?_, h⟩
  unfold Builtin.len_
  simp [run_underlying (okD_slice (hT _ _ hd)).1, goInt]
 ·exact .inr h
theorem steady_of {o : Oper} {e : Env} {s : Sem Value} {v : Value} (h : ∀ w, s.run P w = .ok v w) (he : execOp (ev e) o = (do pure (Next.value (← s)))) : Steady P o e v :=
 fun w => by rw [he]; exact run_value (h w)
theorem vcPure_sound (hT : T.Ok P) {o : Oper} {e : Env} (h : vcPure T o e K F) : (∃ v, Steady P o e v ∧ K v) ∨ F := by
 obtain ⟨dst, op, type, pos, after, guard⟩ := o
 unfold vcPure at h
 split at h <;> (try (rename_i ho; simp only at ho; subst ho))
 ·rw [force_eq] at h; exact .inl ⟨_, fun w => rfl, h⟩
 ·rw [force_eq] at h; exact .inl ⟨_, fun w => rfl, h⟩
 ·rename_i c a b
  split at h
  ·rename_i t ht
   rw [force_eq] at h
   refine .inl ⟨_, fun w => ?_, h⟩
   cases t <;> simp [execOp, ht, asBool]
  ·exact .inr h
 ·rcases vcBin_sound (P := P) h with ⟨v, h1, h2⟩ | h
  ·refine .inl ⟨v, fun w => ?_, h2⟩
   simp [execOp, (h1 _ w).1, (h1 _ w).2]
  ·exact .inr h
 ·rcases vcUn_sound (P := P) h with ⟨v, h1, h2⟩ | h
  ·exact .inl ⟨v, steady_of h1 rfl, h2⟩
  ·exact .inr h
 ·split at h
  ·rename_i a ha
   refine .inl ⟨_, fun w => ?_, h⟩
   simp [execOp, ha]
  ·exact .inr h
 ·rcases vcField_sound hT h with ⟨v, h1, h2⟩ | h
  ·exact .inl ⟨v, steady_of h1 rfl, h2⟩
  ·exact .inr h
 ·rcases vcIndexAddr_sound hT h with ⟨v, h1, h2⟩ | h
  ·exact .inl ⟨v, steady_of h1 rfl, h2⟩
  ·exact .inr h
 ·rcases vcConv_sound hT h with ⟨v, h1, h2⟩ | h
  ·exact .inl ⟨v, steady_of h1 rfl, h2⟩
  ·exact .inr h
 ·rcases vcIndex_sound hT h with ⟨v, h1, h2⟩ | h
  ·exact .inl ⟨v, steady_of h1 rfl, h2⟩
  ·exact .inr h
 ·rename_i x i
  split at h
  ·rename_i vs hvs
   split at h
   ·rename_i v hv
    rw [force_eq] at h
    refine .inl ⟨v, fun w => ?_, h⟩
    rw [nthO_eq, Array.getElem?_toList] at hv
    simp [execOp, hvs, Instr.extract, hv]
   ·exact .inr h
  ·exact .inr h
 ·rename_i args argTypes
  split at h
  ·rename_i x t hx ht
   rcases vcLen_sound (P := P) hT h with ⟨v, h1, h2⟩ | h
   ·refine .inl ⟨v, fun w => ?_, h2⟩
    have e1 : args = #[x] := Array.toList_inj.1 hx
    have e2 : argTypes = #[t] := Array.toList_inj.1 ht
    subst e1; subst e2
    simp [execOp, resolve, invoke, builtin, h1]
   ·exact .inr h
  ·exact .inr h
 ·exact .inr h
end sound
def LoadsTo (P : Program) (w : World) (t : Nat) (a : Addr) (v : Value) : Prop := (Instr.loadAt t (.pointer (some a))).run P w = .ok v w
def StoresTo (P : Program) (w : World) (t : Nat) (a : Addr) (v : Value) (w' : World) : Prop := (Instr.storeAt t (.pointer (some a)) v).run P w = .ok () w'
structure LoadK (P : Program) (w : World) (t : Nat) (a : Addr) (K : Value → Prop) : Prop where
 ex : ∃ v, LoadsTo P w t a v ∧ K v
structure StoreK (P : Program) (w : World) (t : Nat) (a : Addr) (v : Value) (K : World → Prop) : Prop where
 ex : ∃ w', StoresTo P w t a v w' ∧ K w'
structure CallK (P : Program) (f : Nat) (args : Array Value) (w : World) (K : Value → World → Prop) : Prop where
 ex : Calls P f args w (fun r w' => ∃ v, r = .returned v ∧ K v w')
structure GenK (P : Program) (o : Oper) (e : Env) (w : World) (K : Value → World → Prop) : Prop where
 ex : (∃ v w', (execOp (ev e) o).run P w = .ok (.value v) w' ∧ K v w') ∨ (∃ w', (execOp (ev e) o).run P w = .ok .skip w' ∧ K undef w') ∨
  (∃ f as, (execOp (ev e) o).run P w = .ok (.enter f as) w ∧ Calls P f as w (fun r w' => ∃ v, r = .returned v ∧ K v w'))
structure LoadQ (P : Program) (C : World → Prop) (t : Nat) (a : Addr) (K : Value → Prop) : Prop where
 ex : ∃ v, (∀ w, C w → LoadsTo P w t a v) ∧ K v
structure CallQ (P : Program) (C : World → Prop) (f : Nat) (args : Array Value) (K : Value → Prop) : Prop where
 ex : ∃ v, (∀ w, C w → Calls P f args w (fun r w' => r = .returned v ∧ C w')) ∧ K v
structure GenQ (P : Program) (C : World → Prop) (o : Oper) (e : Env) (K : Value → Prop) : Prop where
 ex : ∃ v, (∀ w, C w → (execOp (ev e) o).run P w = .ok (.value v) w) ∧ K v
structure Prg where
 P : Program
 T : Tab
 fn : Nat → Bool
 tab : T.Ok P
 mixed : P.follows .mixedOrders = true
 enters : ∀ f, fn f = true → ∃ x, P.funcs[f]? = some x ∧ x.body.isSome = true ∧ x.name ≠ "runtime.NumGoroutine"
def vcOp (G : Prg) (o : Oper) (e : Env) (w : World) (K : Value → World → Prop) : Prop :=
 vcPure G.T o e (fun v => K v w) (match o.op with
  | .load t x => match ev e x with
   | .pointer (some a) => LoadK G.P w t a (fun v => force v fun v => K v w)
   | _ => False
  | .store t x y => match ev e x with
   | .pointer (some a) => StoreK G.P w t a (ev e y) (fun w' => K undef w')
   | _ => False
  | .box t x => boxed (ev e x) (fun cs => K (.pointer (some ⟨w.heap.size, 0, none⟩)) (w.alloc (.cells cs t)))
  | .call { callee := .value (.func f), args, .. } => bif G.fn f then CallK G.P f (args.toList.map (ev e)).toArray w K else False
  | _ => GenK G.P o e w K)
def vcOpQ (G : Prg) (C : World → Prop) (o : Oper) (e : Env) (K : Value → Prop) : Prop :=
 vcPure G.T o e K (match o.op with
  | .load t x => match ev e x with
   | .pointer (some a) => LoadQ G.P C t a (fun v => force v K)
   | _ => False
  | .call { callee := .value (.func f), args, .. } => bif G.fn f then CallQ G.P C f (args.toList.map (ev e)).toArray (fun v => force v K) else False
  | _ => GenQ G.P C o e K)
section
variable {G : Prg} {o : Oper} {e : Env}
theorem exec_call {f : Nat} {args : Array Operand} {argTypes : Array Nat} {dst : Option Tmp} {type : Nat} {pos : String} {after : Array Edge} {guard : Option (Nat × Bool)} (hf : G.fn f = true) (w : World) :
  (execOp (ev e) { dst, op := .call { callee := .value (.func f), args, argTypes }, type, pos, after, guard }).run G.P w = .ok (.enter f (args.toList.map (ev e)).toArray) w := by
 obtain ⟨x, h1, h2, h3⟩ := G.enters f hf
 have e1 : (args.toList.map (ev e)).toArray = args.map (ev e) := by cases args; simp
 rw [e1]
 simp [execOp, resolve, ev, Deferred.ofValue, invoke, callFunc, h1, h3]
 cases hb : x.body with
 | none => rw [hb] at h2; cases h2
 | some c => simp
theorem vcOp_sound {w : World} {K : Value → World → Prop} {Q : Exit → Act → World → Prop} {next : Act → World → Prop} {a : Act} (ha : envOf a = e)
  (hK : ∀ v w', K v w' → next (a.put o.dst v) w') (h : vcOp G o e w K) : o.wp G.P a w next Q := by
 have he : a.eval = ev e := by rw [eval_envOf, ha]
 unfold Oper.wp
 rw [he]
 rcases vcPure_sound G.tab h with ⟨v, h1, h2⟩ | hh
 ·rw [h1 w]; exact hK _ _ h2
 ·clear h; have h := hh; clear hh
  obtain ⟨dst, op, type, pos, after, guard⟩ := o
  split at h
  ·rename_i t x ho
   simp only at ho; subst ho
   split at h
   ·rename_i ad hx
    obtain ⟨v, h1, h2⟩ := h.ex
    rw [force_eq] at h2
    have e1 : (execOp (ev e) { dst, op := .load t x, type, pos, after, guard }).run G.P w = .ok (.value v) w := by
     show (do pure (Next.value (← Instr.loadAt t (ev e x))) : Sem Next).run G.P w = _
     rw [hx]; exact run_value h1
    rw [e1]; exact hK _ _ h2
   ·exact h.elim
  ·rename_i t x y ho
   simp only at ho; subst ho
   split at h
   ·rename_i ad hx
    obtain ⟨w', h1, h2⟩ := h.ex
    have e1 : (execOp (ev e) { dst, op := .store t x y, type, pos, after, guard }).run G.P w = .ok .skip w' := by
     show (do Instr.storeAt t (ev e x) (ev e y); pure Next.skip : Sem Next).run G.P w = _
     rw [hx]
     have := h1
     unfold StoresTo at this
     simp [this]
    rw [e1]; exact hK _ _ h2
   ·exact h.elim
  ·rename_i t x ho
   simp only at ho; subst ho
   rw [boxed_eq] at h
   exact hK _ _ h
  ·rename_i f args argTypes ho
   simp only at ho; subst ho
   cases hf : G.fn f
   ·rw [hf] at h; exact h.elim
   ·rw [hf] at h
    rw [exec_call hf]
    exact h.ex.mono fun r w' ⟨v, hr, hk⟩ => by subst hr; exact hK _ _ hk
  ·rcases h.ex with ⟨v, w', h1, h2⟩ | ⟨w', h1, h2⟩ | ⟨f, as, h1, h2⟩
   ·rw [h1]; exact hK _ _ h2
   ·rw [h1]; exact hK _ _ h2
   ·rw [h1]
    exact h2.mono fun r w' ⟨v, hr, hk⟩ => by subst hr; exact hK _ _ hk
theorem vcOpQ_sound {C : World → Prop} {K : Value → Prop} {next : Act → Prop} {a : Act} (ha : envOf a = e)
  (hK : ∀ v, K v → next (a.put o.dst v)) (h : vcOpQ G C o e K) : o.quiet G.P a C next := by
 have he : a.eval = ev e := by rw [eval_envOf, ha]
 unfold Oper.quiet Oper.quietAt
 rw [he]
 rcases vcPure_sound G.tab h with ⟨v, h1, h2⟩ | hh
 ·exact ⟨v, fun w _ => by rw [h1 w]; exact ⟨rfl, rfl⟩, hK _ h2⟩
 ·clear h; have h := hh; clear hh
  obtain ⟨dst, op, type, pos, after, guard⟩ := o
  split at h
  ·rename_i t x ho
   simp only at ho; subst ho
   split at h
   ·rename_i ad hx
    obtain ⟨v, h1, h2⟩ := h.ex
    rw [force_eq] at h2
    refine ⟨v, fun w hw => ?_, hK _ h2⟩
    have e1 : (execOp (ev e) { dst, op := .load t x, type, pos, after, guard }).run G.P w = .ok (.value v) w := by
     show (do pure (Next.value (← Instr.loadAt t (ev e x))) : Sem Next).run G.P w = _
     rw [hx]; exact run_value (h1 w hw)
    rw [e1]; exact ⟨rfl, rfl⟩
   ·exact h.elim
  ·rename_i f args argTypes ho
   simp only at ho; subst ho
   cases hf : G.fn f
   ·rw [hf] at h; exact h.elim
   ·rw [hf] at h
    obtain ⟨v, h1, h2⟩ := h.ex
    rw [force_eq] at h2
    refine ⟨v, fun w hw => ?_, hK _ h2⟩
    rw [exec_call hf]
    exact ⟨rfl, h1 w hw⟩
  ·obtain ⟨v, h1, h2⟩ := h.ex
   exact ⟨v, fun w hw => by rw [h1 w hw]; exact ⟨rfl, rfl⟩, hK _ h2⟩
end
def nthDst : List Oper → Nat → Option Nat
 | [], _ => none
 | o :: _, 0 => o.dst
 | _ :: r, j + 1 => nthDst r j
theorem nthDst_eq (ops : List Oper) (j : Nat) : nthDst ops j = (ops[j]?).bind (·.dst) := by
 induction ops generalizing j with
 | nil => simp [nthDst]
 | cons o r ih => cases j <;> simp [nthDst, ih]
def isB (v : Value) : Option Bool := match v with | .bool b => some b | _ => none
def stepOps (G : Prg) (ops : List Oper) (o : Oper) (ih : Env → World → (Env → World → Prop) → Prop) (e : Env) (w : World) (K : Env → World → Prop) : Prop :=
 match o.guard with
 | none => vcOp G o e w (fun v w' => ih (updO e o.dst v) w' K)
 | some (j, want) => match nthDst ops j with
  | none => ih (updO e o.dst undef) w K
  | some dj => match e dj with
   | .bool b => match want with
    | true => bif b
     then vcOp G o (upd e dj (.bool true)) w (fun v w' => ih (updO (upd e dj (.bool true)) o.dst v) w' K)
     else ih (updO (upd e dj (.bool false)) o.dst undef) w K
    | false => bif b
     then ih (updO (upd e dj (.bool true)) o.dst undef) w K
     else vcOp G o (upd e dj (.bool false)) w (fun v w' => ih (updO (upd e dj (.bool false)) o.dst v) w' K)
   | _ => ih (updO e o.dst undef) w K
noncomputable def vcOps (G : Prg) (ops : List Oper) (l : List Oper) : Env → World → (Env → World → Prop) → Prop :=
 List.rec (motive := fun _ => Env → World → (Env → World → Prop) → Prop) (fun e w K => K e w) (fun o _ ih => stepOps G ops o ih) l
theorem vcOps_cons {G : Prg} {ops : List Oper} {o : Oper} {rest : List Oper} {e : Env} {w : World} {K : Env → World → Prop} :
  vcOps G ops (o :: rest) e w K = stepOps G ops o (vcOps G ops rest) e w K := rfl
def stepQ (G : Prg) (C : World → Prop) (ops : List Oper) (o : Oper) (ih : Env → (Env → Prop) → Prop) (e : Env) (K : Env → Prop) : Prop :=
 match o.guard with
 | none => vcOpQ G C o e (fun v => ih (updO e o.dst v) K)
 | some (j, want) => match nthDst ops j with
  | none => ih (updO e o.dst undef) K
  | some dj => match e dj with
   | .bool b => match want with
    | true => bif b
     then vcOpQ G C o (upd e dj (.bool true)) (fun v => ih (updO (upd e dj (.bool true)) o.dst v) K)
     else ih (updO (upd e dj (.bool false)) o.dst undef) K
    | false => bif b
     then ih (updO (upd e dj (.bool true)) o.dst undef) K
     else vcOpQ G C o (upd e dj (.bool false)) (fun v => ih (updO (upd e dj (.bool false)) o.dst v) K)
   | _ => ih (updO e o.dst undef) K
noncomputable def vcQ (G : Prg) (C : World → Prop) (ops : List Oper) (l : List Oper) : Env → (Env → Prop) → Prop :=
 List.rec (motive := fun _ => Env → (Env → Prop) → Prop) (fun e K => K e) (fun o _ ih => stepQ G C ops o ih) l
theorem vcQ_cons {G : Prg} {C : World → Prop} {ops : List Oper} {o : Oper} {rest : List Oper} {e : Env} {K : Env → Prop} :
  vcQ G C ops (o :: rest) e K = stepQ G C ops o (vcQ G C ops rest) e K := rfl
theorem csplit {b : Bool} {A B : Prop} (h1 : b = true → A) (h2 : b = false → B) : bif b then A else B := by
 cases b
 ·exact h2 rfl
 ·exact h1 rfl
theorem dsplit {p : Prop} [Decidable p] {A B : Prop} (h1 : p → A) (h2 : ¬ p → B) : bif decide p then A else B := by
 by_cases h : p
 ·rw [decide_eq_true h]; exact h1 h
 ·rw [decide_eq_false h]; exact h2 h
theorem ndsplit {p : Prop} [Decidable p] {A B : Prop} (h1 : ¬ p → A) (h2 : p → B) : bif !decide p then A else B := by
 by_cases h : p
 ·rw [decide_eq_true h]; exact h2 h
 ·rw [decide_eq_false h]; exact h1 h
theorem dtrue {p : Prop} [Decidable p] {A B : Prop} (h : p) (h1 : A) : bif decide p then A else B := by rw [decide_eq_true h]; exact h1
theorem dfalse {p : Prop} [Decidable p] {A B : Prop} (h : ¬ p) (h1 : B) : bif decide p then A else B := by rw [decide_eq_false h]; exact h1
theorem ctrue {b : Bool} {A B : Prop} (h : b = true) (h1 : A) : bif b then A else B := by rw [h]; exact h1
section
variable {G : Prg} {ops : List Oper}
theorem yielded_env {a : Act} {j : Nat} (hN : ops.all (dstOk a.tmps.size) = true) :
  yielded ops.toArray a.tmps j = match nthDst ops j with | none => none | some dj => isB (envOf a dj) := by
 unfold yielded
 rw [nthDst_eq]
 simp only [List.getElem?_toArray]
 cases ho : ops[j]? with
 | none => rfl
 | some o =>
  simp only [Option.bind_some]
  cases hd : o.dst with
  | none => rfl
  | some d =>
   have h1 := List.all_eq_true.1 hN o (List.mem_of_getElem? ho)
   simp only [dstOk, hd, Nat.blt_eq] at h1
   simp only [Option.bind_some, envOf, Array.getD_eq_getD_getElem?]
   rw [Array.getElem?_eq_getElem h1]
   simp only [Option.getD_some]
   cases a.tmps[d] <;> rfl
def wantB (ops : List Oper) (e : Env) (o : Oper) : Bool :=
 match o.guard with
 | none => true
 | some (j, want) => match nthDst ops j with
  | none => false
  | some dj => match isB (e dj) with
   | some b => bif want then b else !b
   | none => false
theorem wanted_env {a : Act} {o : Oper} (hN : ops.all (dstOk a.tmps.size) = true) :
  Region.wanted o (yielded ops.toArray a.tmps) = wantB ops (envOf a) o := by
 unfold Region.wanted wantB
 cases o.guard with
 | none => rfl
 | some g =>
  obtain ⟨j, want⟩ := g
  simp only [yielded_env hN]
  cases nthDst ops j with
  | none => rfl
  | some dj =>
   simp only
   cases isB (envOf a dj) with
   | none => rfl
   | some b => cases b <;> cases want <;> rfl
theorem vcOps_sound {Q : Exit → Act → World → Prop} {K : Env → World → Prop} {N : Nat} (hN : ops.all (dstOk N) = true) :
  ∀ (l : List Oper) (a : Act) (w : World), l.all (dstOk N) = true → a.tmps.size = N → a.defers = ds →
   (∀ a' w', a'.tmps.size = N → a'.defers = ds → K (envOf a') w' → Q .normal a' w') → vcOps G ops l (envOf a) w K → wpList G.P ops.toArray Q l a w := by
 intro l
 induction l with
 | nil => intro a w _ hs hd hQ h; exact hQ a w hs hd h
 | cons o rest ih =>
  intro a w hl hs hd hQ h
  simp only [List.all_cons, Bool.and_eq_true] at hl
  have hN' : ops.all (dstOk a.tmps.size) = true := by rw [hs]; exact hN
  have hput : ∀ v, envOf (a.put o.dst v) = updO (envOf a) o.dst v := fun v => envOf_putO v (by rw [hs]; exact hl.1)
  have next : ∀ v w', vcOps G ops rest (updO (envOf a) o.dst v) w' K → wpList G.P ops.toArray Q rest (a.put o.dst v) w' := fun v w' h' =>
   ih (a.put o.dst v) w' hl.2 (by rw [put_size, hs]) (by rw [put_defers, hd]) hQ (by rw [hput]; exact h')
  unfold wpList
  rw [wanted_env hN']
  rw [vcOps_cons] at h; unfold stepOps at h
  split at h
  ·rename_i hg
   rw [if_pos (by simp [wantB, hg])]
   exact .inl (vcOp_sound rfl next h)
  ·rename_i j want hg
   split at h
   ·rename_i hj
    rw [if_neg (by simp [wantB, hg, hj])]
    exact next _ _ h
   ·rename_i dj hj
    split at h
    ·rename_i b hb
     have same : upd (envOf a) dj (.bool b) = envOf a := by rw [← hb]; exact upd_same _ _
     cases want <;> cases b <;> simp only [cond_true, cond_false] at h <;> rw [same] at h
     ·rw [if_pos (by simp [wantB, hg, hj, hb, isB])]; exact .inl (vcOp_sound rfl next h)
     ·rw [if_neg (by simp [wantB, hg, hj, hb, isB])]; exact next _ _ h
     ·rw [if_neg (by simp [wantB, hg, hj, hb, isB])]; exact next _ _ h
     ·rw [if_pos (by simp [wantB, hg, hj, hb, isB])]; exact .inl (vcOp_sound rfl next h)
    ·rename_i hnb
     have hv : isB (envOf a dj) = none := by
      cases hx : envOf a dj <;> first | rfl | exact absurd hx (hnb _)
     rw [if_neg (by simp [wantB, hg, hj, hv])]
     exact next _ _ h
theorem vcQ_sound {C : World → Prop} {K : Env → Prop} {Q : Act → Prop} {N : Nat} (hN : ops.all (dstOk N) = true) :
  ∀ (l : List Oper) (a : Act), l.all (dstOk N) = true → a.tmps.size = N → a.defers = ds →
   (∀ a', a'.tmps.size = N → a'.defers = ds → K (envOf a') → Q a') → vcQ G C ops l (envOf a) K → wpQuiet G.P ops.toArray C Q l a := by
 intro l
 induction l with
 | nil => intro a _ hs hd hQ h; exact hQ a hs hd h
 | cons o rest ih =>
  intro a hl hs hd hQ h
  simp only [List.all_cons, Bool.and_eq_true] at hl
  have hN' : ops.all (dstOk a.tmps.size) = true := by rw [hs]; exact hN
  have hput : ∀ v, envOf (a.put o.dst v) = updO (envOf a) o.dst v := fun v => envOf_putO v (by rw [hs]; exact hl.1)
  have next : ∀ v, vcQ G C ops rest (updO (envOf a) o.dst v) K → wpQuiet G.P ops.toArray C Q rest (a.put o.dst v) := fun v h' =>
   ih (a.put o.dst v) hl.2 (by rw [put_size, hs]) (by rw [put_defers, hd]) hQ (by rw [hput]; exact h')
  unfold wpQuiet
  rw [wanted_env hN']
  rw [vcQ_cons] at h; unfold stepQ at h
  split at h
  ·rename_i hg
   rw [if_pos (by simp [wantB, hg])]
   exact vcOpQ_sound rfl next h
  ·rename_i j want hg
   split at h
   ·rename_i hj
    rw [if_neg (by simp [wantB, hg, hj])]
    exact next _ h
   ·rename_i dj hj
    split at h
    ·rename_i b hb
     have same : upd (envOf a) dj (.bool b) = envOf a := by rw [← hb]; exact upd_same _ _
     cases want <;> cases b <;> simp only [cond_true, cond_false] at h <;> rw [same] at h
     ·rw [if_pos (by simp [wantB, hg, hj, hb, isB])]; exact vcOpQ_sound rfl next h
     ·rw [if_neg (by simp [wantB, hg, hj, hb, isB])]; exact next _ h
     ·rw [if_neg (by simp [wantB, hg, hj, hb, isB])]; exact next _ h
     ·rw [if_pos (by simp [wantB, hg, hj, hb, isB])]; exact vcOpQ_sound rfl next h
    ·rename_i hnb
     have hv : isB (envOf a dj) = none := by
      cases hx : envOf a dj <;> first | rfl | exact absurd hx (hnb _)
     rw [if_neg (by simp [wantB, hg, hj, hv])]
     exact next _ h
theorem wpList_of_quiet {C : World → Prop} {Q : Exit → Act → World → Prop} {ops : Array Oper} : ∀ (l : List Oper) (a : Act) (w : World), C w →
  wpQuiet G.P ops C (fun a' => ∀ w', C w' → Q .normal a' w') l a → wpList G.P ops Q l a w := by
 intro l
 induction l with
 | nil => intro a w hw h; exact h w hw
 | cons o rest ih =>
  intro a w hw h
  unfold wpQuiet at h
  unfold wpList
  split
  ·rename_i hwan
   rw [if_pos hwan] at h
   exact .inl (Oper.wp_of_quiet hw (fun a' w' hw' hk => ih a' w' hw' hk) h)
  ·rename_i hwan
   rw [if_neg hwan] at h
   exact ih _ w hw h
end
def seqQ (next : Env → World → Prop) (Q : Exit → Env → World → Prop) : Exit → Env → World → Prop
 | .normal, e, w => next e w
 | x, e, w => Q x e w
def blkQ (id : Nat) (Q : Exit → Env → World → Prop) : Exit → Env → World → Prop
 | .exit j, e, w => bif Nat.beq j id then Q .normal e w else Q (.exit j) e w
 | x, e, w => Q x e w
def seqC (next : Env → Prop) (Q : Exit → Env → Prop) : Exit → Env → Prop
 | .normal, e => next e
 | x, e => Q x e
def blkC (id : Nat) (Q : Exit → Env → Prop) : Exit → Env → Prop
 | .exit j, e => bif Nat.beq j id then Q .normal e else Q (.exit j) e
 | x, e => Q x e
def codeOk (N : Nat) : Code → Bool
 | .skip | .exit _ | .ret => true
 | .region _ ops _ => ops.toList.all (dstOk N)
 | .seq a b => codeOk N a && codeOk N b
 | .cond _ a b => codeOk N a && codeOk N b
 | .block _ a => codeOk N a
 | .loop a => codeOk N a
 | _ => false
def quietOk : Code → Bool
 | .region _ ops draw => !draw || Region.lexB .any ops.toList.toArray
 | .seq a b => quietOk a && quietOk b
 | .cond _ a b => quietOk a && quietOk b
 | .block _ a => quietOk a
 | .loop a => quietOk a
 | _ => true
def opsWrite (l : List Oper) (t : Nat) : Bool := l.any fun o => match o.dst with | some d => Nat.beq t d | none => false
def writes : Code → Nat → Bool
 | .region _ ops _, t => opsWrite ops.toList t
 | .seq a b, t => writes a t || writes b t
 | .cond _ a b, t => writes a t || writes b t
 | .block _ a, t => writes a t
 | .loop a, t => writes a t
 | _, _ => false
structure LoopK (body : Env → World → (Exit → Env → World → Prop) → Prop) (e : Env) (w : World) (Q : Exit → Env → World → Prop) : Prop where
 ex : ∃ (I : Nat → Env → World → Prop) (n : Nat), I n e w ∧ ∀ n e1 w1, I n e1 w1 → body e1 w1 (seqQ (fun e2 w2 => ∃ n', n' < n ∧ I n' e2 w2) Q)
structure LoopC (body : Env → (Exit → Env → Prop) → Prop) (e : Env) (Q : Exit → Env → Prop) : Prop where
 ex : ∃ (I : Nat → Env → Prop) (n : Nat), I n e ∧ ∀ n e1, I n e1 → body e1 (seqC (fun e2 => ∃ n', n' < n ∧ I n' e2) Q)
def nthOp : List Oper → Nat → Option Oper
 | [], _ => none
 | o :: _, 0 => some o
 | _ :: r, j + 1 => nthOp r j
theorem nthOp_eq (ops : List Oper) (j : Nat) : nthOp ops j = ops[j]? := by
 induction ops generalizing j with
 | nil => rfl
 | cons o r ih => cases j <;> simp [nthOp, ih]
def pick : List Oper → List Nat → List Oper
 | _, [] => []
 | ops, i :: r => match nthOp ops i with | some o => o :: pick ops r | none => pick ops r
def noCall (o : Oper) : Bool := match o.op with | .call { callee := .value (.func _), .. } => false | _ => true
inductive Alt where
 | nil
 | done
 | cons (i : Nat) (t r : Alt)
def Alt.depth : Alt → Nat
 | .nil => 0
 | .done => 0
 | .cons _ t r => max (t.depth + 1) r.depth
noncomputable def vcT (G : Prg) (ops : List Oper) (a : Alt) : Env → World → (Env → World → Prop) → Prop :=
 Alt.rec (motive := fun _ => Env → World → (Env → World → Prop) → Prop) (fun _ _ _ => True) (fun e w K => K e w)
  (fun i _ _ it ir e w K => (match nthOp ops i with | some o => vcOps G ops [o] e w (fun e w => it e w K) | none => False) ∧ ir e w K) a
noncomputable def vcTH (G : Prg) (S : World → Prop) (ops : List Oper) (a : Alt) : Env → World → (Env → World → Prop) → Prop :=
 Alt.rec (motive := fun _ => Env → World → (Env → World → Prop) → Prop) (fun _ _ _ => True) (fun e w K => K e w)
  (fun i _ _ it ir e w K => (match nthOp ops i with | some o => vcOps G ops [o] e w (fun e w => S w ∧ it e w K) | none => False) ∧ ir e w K) a
def firstOk (ops : Array Oper) : List Nat → Array Bool → Bool
 | [], _ => true
 | i :: r, listed => Region.free .any ops listed i && (Region.ready .any ops listed).contains i && (match ops[i]? with | some o => noCall o | none => false) && firstOk ops r (listed.setIfInBounds i true)
def setAll : List Nat → Array Bool → Array Bool
 | [], l => l
 | i :: r, l => setAll r (l.setIfInBounds i true)
def altOk (ops : Array Oper) : Alt → Array Bool → Option (List Nat) → Bool
 | .done, listed, none => (Region.ready .any ops listed).isEmpty
 | .done, _, some _ => false
 | .nil, _, none => false
 | .nil, _, some rs => rs.isEmpty
 | .cons i t r, listed, o => match (match o with | none => Region.ready .any ops listed | some rs => rs) with
  | j :: rs => Nat.beq i j && altOk ops t (listed.setIfInBounds i true) none && altOk ops r listed (some rs)
  | [] => false
section
variable {G : Prg} {ops : List Oper}
theorem vcOpQ_yields {o : Oper} {e : Env} {K : Value → Prop} (hn : noCall o = true) (h : vcOpQ G (fun _ => True) o e K) : ∃ v, (∀ w, (execOp (ev e) o).run G.P w = .ok (.value v) w) ∧ K v := by
 rcases vcPure_sound G.tab h with ⟨v, h1, h2⟩ | hh
 ·exact ⟨v, h1, h2⟩
 ·clear h; have h := hh; clear hh
  obtain ⟨dst, op, type, pos, after, guard⟩ := o
  split at h
  ·rename_i t x ho
   simp only at ho; subst ho
   split at h
   ·rename_i ad hx
    obtain ⟨v, h1, h2⟩ := h.ex
    rw [force_eq] at h2
    refine ⟨v, fun w => ?_, h2⟩
    show (do pure (Next.value (← Instr.loadAt t (ev e x))) : Sem Next).run G.P w = _
    rw [hx]; exact run_value (h1 w trivial)
   ·exact h.elim
  ·rename_i f args argTypes ho
   simp only at ho; subst ho
   simp [noCall] at hn
  ·obtain ⟨v, h1, h2⟩ := h.ex
   exact ⟨v, fun w => h1 w trivial, h2⟩
theorem stepOps_wpOp {Q : Exit → Act → World → Prop} {N : Nat} (hN : ops.all (dstOk N) = true) {i : Nat} {o : Oper} (hi : ops.toArray[i]? = some o) {a : Act} {w : World} (hs : a.tmps.size = N)
  {ih : Env → World → (Env → World → Prop) → Prop} {K : Env → World → Prop} {next : Act → World → Prop} (hnext : ∀ v w', ih (updO (envOf a) o.dst v) w' K → next (a.put o.dst v) w') (h : stepOps G ops o ih (envOf a) w K) : wpOp G.P ops.toArray Q i next a w := by
 have hN' : ops.all (dstOk a.tmps.size) = true := by rw [hs]; exact hN
 unfold wpOp
 simp only [hi]
 rw [wanted_env hN']
 unfold stepOps at h
 split at h
 ·rename_i hg
  rw [if_pos (by simp [wantB, hg])]
  exact .inl (vcOp_sound rfl hnext h)
 ·rename_i j want hg
  split at h
  ·rename_i hj
   rw [if_neg (by simp [wantB, hg, hj])]
   exact hnext _ _ h
  ·rename_i dj hj
   split at h
   ·rename_i b hb
    have same : upd (envOf a) dj (.bool b) = envOf a := by rw [← hb]; exact upd_same _ _
    cases want <;> cases b <;> simp only [cond_true, cond_false] at h <;> rw [same] at h
    ·rw [if_pos (by simp [wantB, hg, hj, hb, isB])]; exact .inl (vcOp_sound rfl hnext h)
    ·rw [if_neg (by simp [wantB, hg, hj, hb, isB])]; exact hnext _ _ h
    ·rw [if_neg (by simp [wantB, hg, hj, hb, isB])]; exact hnext _ _ h
    ·rw [if_pos (by simp [wantB, hg, hj, hb, isB])]; exact .inl (vcOp_sound rfl hnext h)
   ·rename_i hnb
    have hv : isB (envOf a dj) = none := by
     cases hx : envOf a dj <;> first | rfl | exact absurd hx (hnb _)
    rw [if_neg (by simp [wantB, hg, hj, hv])]
    exact hnext _ _ h
theorem vcT_sound {Q : Exit → Act → World → Prop} {K : Env → World → Prop} {N : Nat} (hN : ops.all (dstOk N) = true) (hQ : ∀ a w, a.tmps.size = N → a.defers = ds → K (envOf a) w → Q .normal a w) :
  ∀ (t : Alt) (fuel : Nat) (listed : Array Bool) (a : Act) (w : World), t.depth ≤ fuel → a.tmps.size = N → a.defers = ds → vcT G ops t (envOf a) w K →
   (altOk ops.toArray t listed none = true → wpAny G.P .any ops.toArray Q fuel listed a w) ∧
   (∀ rs f, fuel = f + 1 → altOk ops.toArray t listed (some rs) = true → ∀ i ∈ rs, wpOp G.P ops.toArray Q i (wpAny G.P .any ops.toArray Q f (listed.setIfInBounds i true)) a w) := by
 intro t
 induction t with
 | nil =>
  intro fuel listed a w _ _ _ _
  exact ⟨fun h => by simp [altOk] at h, fun rs f _ h i hi => by simp [altOk] at h; subst h; cases hi⟩
 | done =>
  intro fuel listed a w _ hs hd h
  refine ⟨fun hk => ?_, fun rs f _ h => by simp [altOk] at h⟩
  have hr : Region.ready .any ops.toArray listed = [] := by simpa [altOk] using hk
  have hq := hQ a w hs hd h
  cases fuel with
  | zero => exact ⟨hr, hq⟩
  | succ n => exact ⟨fun _ => hq, by rw [hr]; simp⟩
 | cons i t r iht ihr =>
  intro fuel listed a w hdp hs hd h
  have h : (match nthOp ops i with | some o => vcOps G ops [o] (envOf a) w (fun e w => vcT G ops t e w K) | none => False) ∧ vcT G ops r (envOf a) w K := h
  obtain ⟨h1, h2⟩ := h
  simp only [Alt.depth] at hdp
  have core : ∀ f, fuel = f + 1 → ∀ j rs, Nat.beq i j = true → altOk ops.toArray t (listed.setIfInBounds i true) none = true → altOk ops.toArray r listed (some rs) = true → ∀ k ∈ j :: rs, wpOp G.P ops.toArray Q k (wpAny G.P .any ops.toArray Q f (listed.setIfInBounds k true)) a w := by
   intro f hf j rs hij ht hr k hk
   have hij := Nat.eq_of_beq_eq_true hij
   subst hij
   rcases List.mem_cons.1 hk with rfl | hk
   ·cases ho : nthOp ops k with
    | none => rw [ho] at h1; exact h1.elim
    | some o =>
     rw [ho] at h1
     rw [nthOp_eq] at ho
     have hodst : dstOk N o = true := List.all_eq_true.1 hN o (List.mem_of_getElem? ho)
     refine stepOps_wpOp hN (by simpa using ho) hs (ih := fun e w K => K e w) (K := fun e w => vcT G ops t e w K) (fun v w' hv => ?_) h1
     have hput : envOf (a.put o.dst v) = updO (envOf a) o.dst v := envOf_putO v (by rw [hs]; exact hodst)
     exact (iht f (listed.setIfInBounds k true) (a.put o.dst v) w' zo (by rw [put_size, hs]) (by rw [put_defers, hd]) (by rw [hput]; exact hv)).1 ht
   ·exact (ihr fuel listed a w zo hs hd h2).2 rs f hf hr k hk
  refine ⟨fun hk => ?_, fun rs f hf hk => ?_⟩
  ·cases fuel with
   | zero => omega
   | succ f =>
    simp only [altOk] at hk
    cases hr : Region.ready .any ops.toArray listed with
    | nil => rw [hr] at hk; cases hk
    | cons j rs =>
     rw [hr] at hk
     simp only [Bool.and_eq_true] at hk
     refine ⟨fun h0 => ?_, ?_⟩
     ·rw [hr] at h0; cases h0
     ·rw [hr]; exact core f rfl j rs hk.1.1 hk.1.2 hk.2
  ·simp only [altOk] at hk
   cases rs with
   | nil => cases hk
   | cons j rs =>
    simp only [Bool.and_eq_true] at hk
    exact core f hf j rs hk.1.1 hk.1.2 hk.2
theorem first_sound {Q : Exit → Act → World → Prop} {K : Env → Prop} {N : Nat} (hN : ops.all (dstOk N) = true) (hs0 : Region.noSelect ops.toArray = true) (hp : ∀ c a w, ¬ Q (.panic c) a w) :
  ∀ (l : List Nat) (fuel : Nat) (listed : Array Bool) (a : Act) (w : World), a.tmps.size = N → a.defers = ds → firstOk ops.toArray l listed = true →
   (∀ a', a'.tmps.size = N → a'.defers = ds → K (envOf a') → wpAny G.P .any ops.toArray Q fuel (setAll l listed) a' w) →
   vcQ G (fun _ => True) ops (pick ops l) (envOf a) K → wpAny G.P .any ops.toArray Q (fuel + l.length) listed a w := by
 intro l
 induction l with
 | nil => intro fuel listed a w hs hd _ hK h; exact hK a hs hd h
 | cons i r ih =>
  intro fuel listed a w hs hd hok hK h
  simp only [firstOk, Bool.and_eq_true] at hok
  obtain ⟨⟨⟨h1, h2⟩, h3⟩, h4⟩ := hok
  cases ho : ops.toArray[i]? with
  | none => rw [ho] at h3; cases h3
  | some o =>
   rw [ho] at h3
   have ho' : nthOp ops i = some o := by rw [nthOp_eq]; simpa using ho
   have hodst : dstOk N o = true := List.all_eq_true.1 hN o (List.mem_of_getElem? (by rw [← nthOp_eq]; exact ho'))
   have hN' : ops.all (dstOk a.tmps.size) = true := by rw [hs]; exact hN
   have hput : ∀ v, envOf (a.put o.dst v) = updO (envOf a) o.dst v := fun v => envOf_putO v (by rw [hs]; exact hodst)
   simp only [pick, ho'] at h
   rw [vcQ_cons] at h
   have go : ∀ v, Yields G.P ops.toArray o v a → vcQ G (fun _ => True) ops (pick ops r) (updO (envOf a) o.dst v) K → wpAny G.P .any ops.toArray Q (fuel + (i :: r).length) listed a w := fun v hy hv =>
    wpAny_take ho hs0 h1 h2 (fun c a w hq => absurd hq (hp c _ _)) hy
     (ih fuel (listed.setIfInBounds i true) (a.put o.dst v) w (by rw [put_size, hs]) (by rw [put_defers, hd]) h4 hK (by rw [hput]; exact hv))
   have yes : ∀ v, wantB ops (envOf a) o = true → (∀ w, (execOp (ev (envOf a)) o).run G.P w = .ok (.value v) w) → Yields G.P ops.toArray o v a := fun v hw hv =>
    .inl ⟨by rw [wanted_env hN', hw], fun w => by rw [eval_envOf]; exact hv w⟩
   have no : wantB ops (envOf a) o = false → Yields G.P ops.toArray o undef a := fun hw => .inr ⟨by rw [wanted_env hN', hw], rfl⟩
   unfold stepQ at h
   split at h
   ·rename_i hg
    obtain ⟨v, hv, hk⟩ := vcOpQ_yields h3 h
    exact go v (yes v (by simp [wantB, hg]) hv) hk
   ·rename_i j want hg
    split at h
    ·rename_i hj
     exact go _ (no (by simp [wantB, hg, hj])) h
    ·rename_i dj hj
     split at h
     ·rename_i b hb
      have same : upd (envOf a) dj (.bool b) = envOf a := by rw [← hb]; exact upd_same _ _
      cases want <;> cases b <;> simp only [cond_true, cond_false] at h <;> rw [same] at h
      ·obtain ⟨v, hv, hk⟩ := vcOpQ_yields h3 h
       exact go v (yes v (by simp [wantB, hg, hj, hb, isB]) hv) hk
      ·exact go _ (no (by simp [wantB, hg, hj, hb, isB])) h
      ·exact go _ (no (by simp [wantB, hg, hj, hb, isB])) h
      ·obtain ⟨v, hv, hk⟩ := vcOpQ_yields h3 h
       exact go v (yes v (by simp [wantB, hg, hj, hb, isB]) hv) hk
     ·rename_i hnb
      have hv : isB (envOf a dj) = none := by
       cases hx : envOf a dj <;> first | rfl | exact absurd hx (hnb _)
      exact go _ (no (by simp [wantB, hg, hj, hv])) h
theorem vcOpQ_yieldsS {S : World → Prop} {o : Oper} {e : Env} {K : Value → Prop} (hn : noCall o = true) (h : vcOpQ G S o e K) : ∃ v, (∀ w, S w → (execOp (ev e) o).run G.P w = .ok (.value v) w) ∧ K v := by
 rcases vcPure_sound G.tab h with ⟨v, h1, h2⟩ | hh
 ·exact ⟨v, fun w _ => h1 w, h2⟩
 ·clear h; have h := hh; clear hh
  obtain ⟨dst, op, type, pos, after, guard⟩ := o
  split at h
  ·rename_i t x ho
   simp only at ho; subst ho
   split at h
   ·rename_i ad hx
    obtain ⟨v, h1, h2⟩ := h.ex
    rw [force_eq] at h2
    refine ⟨v, fun w hw => ?_, h2⟩
    show (do pure (Next.value (← Instr.loadAt t (ev e x))) : Sem Next).run G.P w = _
    rw [hx]; exact run_value (h1 w hw)
   ·exact h.elim
  ·rename_i f args argTypes ho
   simp only at ho; subst ho
   simp [noCall] at hn
  ·obtain ⟨v, h1, h2⟩ := h.ex
   exact ⟨v, fun w hw => h1 w hw, h2⟩
theorem vcTH_sound {S : World → Prop} {Q : Exit → Act → World → Prop} {K : Env → World → Prop} {N : Nat} (hN : ops.all (dstOk N) = true) (hQ : ∀ a w, a.tmps.size = N → a.defers = ds → K (envOf a) w → Q .normal a w) :
  ∀ (t : Alt) (fuel : Nat) (listed : Array Bool) (a : Act) (w : World), t.depth ≤ fuel → a.tmps.size = N → a.defers = ds → vcTH G S ops t (envOf a) w K →
   (altOk ops.toArray t listed none = true → wpAnyH G.P .any ops.toArray Q S fuel listed a w) ∧
   (∀ rs f, fuel = f + 1 → altOk ops.toArray t listed (some rs) = true → ∀ i ∈ rs, wpOp G.P ops.toArray Q i (fun a w => S w ∧ wpAnyH G.P .any ops.toArray Q S f (listed.setIfInBounds i true) a w) a w) := by
 intro t
 induction t with
 | nil =>
  intro fuel listed a w _ _ _ _
  exact ⟨fun h => by simp [altOk] at h, fun rs f _ h i hi => by simp [altOk] at h; subst h; cases hi⟩
 | done =>
  intro fuel listed a w _ hs hd h
  refine ⟨fun hk => ?_, fun rs f _ h => by simp [altOk] at h⟩
  have hr : Region.ready .any ops.toArray listed = [] := by simpa [altOk] using hk
  have hq := hQ a w hs hd h
  cases fuel with
  | zero => exact ⟨hr, hq⟩
  | succ n => exact ⟨fun _ => hq, by rw [hr]; simp⟩
 | cons i t r iht ihr =>
  intro fuel listed a w hdp hs hd h
  have h : (match nthOp ops i with | some o => vcOps G ops [o] (envOf a) w (fun e w => S w ∧ vcTH G S ops t e w K) | none => False) ∧ vcTH G S ops r (envOf a) w K := h
  obtain ⟨h1, h2⟩ := h
  simp only [Alt.depth] at hdp
  have core : ∀ f, fuel = f + 1 → ∀ j rs, Nat.beq i j = true → altOk ops.toArray t (listed.setIfInBounds i true) none = true → altOk ops.toArray r listed (some rs) = true → ∀ k ∈ j :: rs, wpOp G.P ops.toArray Q k (fun a w => S w ∧ wpAnyH G.P .any ops.toArray Q S f (listed.setIfInBounds k true) a w) a w := by
   intro f hf j rs hij ht hr k hk
   have hij := Nat.eq_of_beq_eq_true hij
   subst hij
   rcases List.mem_cons.1 hk with rfl | hk
   ·cases ho : nthOp ops k with
    | none => rw [ho] at h1; exact h1.elim
    | some o =>
     rw [ho] at h1
     rw [nthOp_eq] at ho
     have hodst : dstOk N o = true := List.all_eq_true.1 hN o (List.mem_of_getElem? ho)
     refine stepOps_wpOp hN (by simpa using ho) hs (ih := fun e w K => K e w) (K := fun e w => S w ∧ vcTH G S ops t e w K) (fun v w' hv => ?_) h1
     have hput : envOf (a.put o.dst v) = updO (envOf a) o.dst v := envOf_putO v (by rw [hs]; exact hodst)
     exact ⟨hv.1, (iht f (listed.setIfInBounds k true) (a.put o.dst v) w' zo (by rw [put_size, hs]) (by rw [put_defers, hd]) (by rw [hput]; exact hv.2)).1 ht⟩
   ·exact (ihr fuel listed a w zo hs hd h2).2 rs f hf hr k hk
  refine ⟨fun hk => ?_, fun rs f hf hk => ?_⟩
  ·cases fuel with
   | zero => omega
   | succ f =>
    simp only [altOk] at hk
    cases hr : Region.ready .any ops.toArray listed with
    | nil => rw [hr] at hk; cases hk
    | cons j rs =>
     rw [hr] at hk
     simp only [Bool.and_eq_true] at hk
     refine ⟨fun h0 => ?_, ?_⟩
     ·rw [hr] at h0; cases h0
     ·rw [hr]; exact core f rfl j rs hk.1.1 hk.1.2 hk.2
  ·simp only [altOk] at hk
   cases rs with
   | nil => cases hk
   | cons j rs =>
    simp only [Bool.and_eq_true] at hk
    exact core f hf j rs hk.1.1 hk.1.2 hk.2
theorem first_soundH {S : World → Prop} {Q : Exit → Act → World → Prop} {K : Env → Prop} {N : Nat} (hN : ops.all (dstOk N) = true) (hs0 : Region.noSelect ops.toArray = true) (hp : ∀ c a w, ¬ Q (.panic c) a w) :
  ∀ (l : List Nat) (fuel : Nat) (listed : Array Bool) (a : Act) (w : World), S w → a.tmps.size = N → a.defers = ds → firstOk ops.toArray l listed = true →
   (∀ a', a'.tmps.size = N → a'.defers = ds → K (envOf a') → wpAnyH G.P .any ops.toArray Q S fuel (setAll l listed) a' w) →
   vcQ G S ops (pick ops l) (envOf a) K → wpAnyH G.P .any ops.toArray Q S (fuel + l.length) listed a w := by
 intro l
 induction l with
 | nil => intro fuel listed a w hSw hs hd _ hK h; exact hK a hs hd h
 | cons i r ih =>
  intro fuel listed a w hSw hs hd hok hK h
  simp only [firstOk, Bool.and_eq_true] at hok
  obtain ⟨⟨⟨h1, h2⟩, h3⟩, h4⟩ := hok
  cases ho : ops.toArray[i]? with
  | none => rw [ho] at h3; cases h3
  | some o =>
   rw [ho] at h3
   have ho' : nthOp ops i = some o := by rw [nthOp_eq]; simpa using ho
   have hodst : dstOk N o = true := List.all_eq_true.1 hN o (List.mem_of_getElem? (by rw [← nthOp_eq]; exact ho'))
   have hN' : ops.all (dstOk a.tmps.size) = true := by rw [hs]; exact hN
   have hput : ∀ v, envOf (a.put o.dst v) = updO (envOf a) o.dst v := fun v => envOf_putO v (by rw [hs]; exact hodst)
   simp only [pick, ho'] at h
   rw [vcQ_cons] at h
   have go : ∀ v, YieldsIf G.P ops.toArray S o v a → vcQ G S ops (pick ops r) (updO (envOf a) o.dst v) K → wpAnyH G.P .any ops.toArray Q S (fuel + (i :: r).length) listed a w := fun v hy hv =>
    wpAnyH_take ho hs0 h1 h2 (fun c a w hq => absurd hq (hp c _ _)) hy hSw
     (ih fuel (listed.setIfInBounds i true) (a.put o.dst v) w hSw (by rw [put_size, hs]) (by rw [put_defers, hd]) h4 hK (by rw [hput]; exact hv))
   have yes : ∀ v, wantB ops (envOf a) o = true → (∀ w, S w → (execOp (ev (envOf a)) o).run G.P w = .ok (.value v) w) → YieldsIf G.P ops.toArray S o v a := fun v hw hv =>
    .inl ⟨by rw [wanted_env hN', hw], fun w hS => by rw [eval_envOf]; exact hv w hS⟩
   have no : wantB ops (envOf a) o = false → YieldsIf G.P ops.toArray S o undef a := fun hw => .inr ⟨by rw [wanted_env hN', hw], rfl⟩
   unfold stepQ at h
   split at h
   ·rename_i hg
    obtain ⟨v, hv, hk⟩ := vcOpQ_yieldsS h3 h
    exact go v (yes v (by simp [wantB, hg]) hv) hk
   ·rename_i j want hg
    split at h
    ·rename_i hj
     exact go _ (no (by simp [wantB, hg, hj])) h
    ·rename_i dj hj
     split at h
     ·rename_i b hb
      have same : upd (envOf a) dj (.bool b) = envOf a := by rw [← hb]; exact upd_same _ _
      cases want <;> cases b <;> simp only [cond_true, cond_false] at h <;> rw [same] at h
      ·obtain ⟨v, hv, hk⟩ := vcOpQ_yieldsS h3 h
       exact go v (yes v (by simp [wantB, hg, hj, hb, isB]) hv) hk
      ·exact go _ (no (by simp [wantB, hg, hj, hb, isB])) h
      ·exact go _ (no (by simp [wantB, hg, hj, hb, isB])) h
      ·obtain ⟨v, hv, hk⟩ := vcOpQ_yieldsS h3 h
       exact go v (yes v (by simp [wantB, hg, hj, hb, isB]) hv) hk
     ·rename_i hnb
      have hv : isB (envOf a dj) = none := by
       cases hx : envOf a dj <;> first | rfl | exact absurd hx (hnb _)
      exact go _ (no (by simp [wantB, hg, hj, hv])) h
end
def altFit (ops : List Oper) (l : List Nat) (t : Alt) : Bool :=
 Region.noSelect ops.toArray && firstOk ops.toArray l (Array.replicate ops.length false) && altOk ops.toArray t (setAll l (Array.replicate ops.length false)) none && Nat.ble (t.depth + l.length) ops.length
structure DrawK (G : Prg) (ops : List Oper) (e : Env) (w : World) (K : Env → World → Prop) : Prop where
 ex : (∃ (n : Nat) (C : World → Prop), C w.drew ∧ (tailOk n ops.toArray || (Nat.beq n ops.length && Region.lexB .any ops.toArray)) = true ∧
  vcQ G C ops (ops.take n) e (fun e' => ∀ w', C w' → vcOps G ops (ops.drop n) e' w' K)) ∨
  (∃ (l : List Nat) (t : Alt), altFit ops l t = true ∧ vcQ G (fun _ => True) ops (pick ops l) e (fun e' => vcT G ops t e' w.drew K)) ∨
  (∃ (S : World → Prop) (l : List Nat) (t : Alt), altFit ops l t = true ∧ S w.drew ∧ vcQ G S ops (pick ops l) e (fun e' => vcTH G S ops t e' w.drew K))
theorem DrawK.mk1 {G : Prg} {ops : List Oper} {e : Env} {w : World} {K : Env → World → Prop} (h : ∃ (n : Nat) (C : World → Prop), C w.drew ∧ (tailOk n ops.toArray || (Nat.beq n ops.length && Region.lexB .any ops.toArray)) = true ∧
  vcQ G C ops (ops.take n) e (fun e' => ∀ w', C w' → vcOps G ops (ops.drop n) e' w' K)) : DrawK G ops e w K := ⟨.inl h⟩
theorem DrawK.mk2 {G : Prg} {ops : List Oper} {e : Env} {w : World} {K : Env → World → Prop} (l : List Nat) (t : Alt) (h1 : altFit ops l t = true) (h2 : vcQ G (fun _ => True) ops (pick ops l) e (fun e' => vcT G ops t e' w.drew K)) : DrawK G ops e w K := ⟨.inr (.inl ⟨l, t, h1, h2⟩)⟩
theorem DrawK.mk3 {G : Prg} {ops : List Oper} {e : Env} {w : World} {K : Env → World → Prop} (S : World → Prop) (l : List Nat) (t : Alt) (hS : S w.drew) (h1 : altFit ops l t = true) (h2 : vcQ G S ops (pick ops l) e (fun e' => vcTH G S ops t e' w.drew K)) : DrawK G ops e w K := ⟨.inr (.inr ⟨S, l, t, h1, hS, h2⟩)⟩
structure Nx (p : Prop) : Prop where
 go : p
structure Cx (p : Prop) : Prop where
 go : p
noncomputable def vc (G : Prg) : Code → Env → World → (Exit → Env → World → Prop) → Prop
 | .skip, e, w, Q => Q .normal e w
 | .region _ ops draw, e, w, Q => bif draw then DrawK G ops.toList e w (fun e w => Q .normal e w) else vcOps G ops.toList ops.toList e w (fun e w => Q .normal e w)
 | .seq a b, e, w, Q => vc G a e w (seqQ (fun e w => Nx (vc G b e w Q)) Q)
 | .cond c a b, e, w, Q => match ev e c with
  | .bool t => bif t then vc G a e w Q else vc G b e w Q
  | _ => False
 | .block id a, e, w, Q => vc G a e w (blkQ id Q)
 | .loop a, e, w, Q => LoopK (fun e w Q => vc G a e w Q) e w Q
 | .exit id, e, w, Q => Q (.exit id) e w
 | .ret, e, w, Q => Q .ret e w
 | _, _, _, _ => False
noncomputable def vcC (G : Prg) (C : World → Prop) : Code → Env → (Exit → Env → Prop) → Prop
 | .skip, e, Q => Q .normal e
 | .region _ ops _, e, Q => vcQ G C ops.toList ops.toList e (fun e => Q .normal e)
 | .seq a b, e, Q => vcC G C a e (seqC (fun e => Nx (vcC G C b e Q)) Q)
 | .cond c a b, e, Q => match ev e c with
  | .bool t => bif t then vcC G C a e Q else vcC G C b e Q
  | _ => False
 | .block id a, e, Q => vcC G C a e (blkC id Q)
 | .loop a, e, Q => LoopC (fun e Q => vcC G C a e Q) e Q
 | .exit id, e, Q => Q (.exit id) e
 | .ret, e, Q => Q .ret e
 | _, _, _ => False
def lift (N : Nat) (Q : Exit → Env → World → Prop) : Exit → Act → World → Prop := fun x a w => a.tmps.size = N ∧ a.defers = [] ∧ Q x (envOf a) w
def W (G : Prg) (N : Nat) (c : Code) (e : Env) (w : World) (Q : Exit → Env → World → Prop) : Prop :=
 codeOk N c = true → ∀ a, envOf a = e → a.tmps.size = N → a.defers = [] → c.wp G.P (lift N Q) a w
section
variable {G : Prg} {N : Nat}
theorem least (p : Nat → Prop) (h : ∃ n, p n) : ∃ n, p n ∧ ∀ m, p m → n ≤ m := by
 obtain ⟨n, hn⟩ := h
 induction n using Nat.strongRecOn with
 | _ n ih =>
  by_cases h : ∃ m, m < n ∧ p m
  ·obtain ⟨m, hm, hp⟩ := h; exact ih m hm hp
  ·exact ⟨n, hn, fun m hm => Nat.le_of_not_lt fun hlt => h ⟨m, hlt, hm⟩⟩
theorem wp_loop_ghost {P : Program} {c : Code} {Q : Exit → Act → World → Prop} {a : Act} {w : World} (I : Nat → Act → World → Prop) (n : Nat) (h₀ : I n a w)
  (round : ∀ n a w, I n a w → c.wp P (Exit.then (fun a' w' => ∃ n', n' < n ∧ I n' a' w') Q) a w) : (Code.loop c).wp P Q a w := by
 classical
 let J : Act → World → Prop := fun a w => ∃ n, I n a w
 let μ : Act → World → Nat := fun a w => if h : J a w then Classical.choose (least _ h) else 0
 have hμ : ∀ a w, J a w → I (μ a w) a w ∧ ∀ m, I m a w → μ a w ≤ m := fun a w h => by
  show I (if h : J a w then Classical.choose (least _ h) else 0) a w ∧ ∀ m, I m a w → (if h : J a w then Classical.choose (least _ h) else 0) ≤ m
  rw [dif_pos h]
  exact Classical.choose_spec (least _ h)
 refine wp_loop J μ ⟨n, h₀⟩ fun a1 w1 h1 => wp_mono (round _ a1 w1 (hμ a1 w1 h1).1) ?_
 intro x a2 w2 hx
 cases x <;> first
  | (obtain ⟨n', hn', hI⟩ := hx; exact ⟨⟨n', hI⟩, Nat.lt_of_le_of_lt ((hμ a2 w2 ⟨n', hI⟩).2 n' hI) hn'⟩)
  | exact hx
theorem vc_sound : ∀ (c : Code) (Q : Exit → Env → World → Prop) (Q' : Exit → Act → World → Prop), (∀ x a w, a.tmps.size = N → a.defers = ds → Q x (envOf a) w → Q' x a w) → codeOk N c = true →
  ∀ a w, a.tmps.size = N → a.defers = ds → vc G c (envOf a) w Q → c.wp G.P Q' a w := by
 intro c
 induction c with
 | skip => intro Q Q' hQ _ a w hs hd h; exact wp_skip (hQ _ _ _ hs hd h)
 | region id ops draw =>
  intro Q Q' hQ hk a w hs hd h
  have hk' : ops.toList.all (dstOk N) = true := hk
  unfold vc at h
  cases draw with
  | true =>
   rcases (show DrawK G ops.toList (envOf a) w _ from h).ex with ⟨n, C, h1, h2, h3⟩ | ⟨l, t, h1, h2⟩ | ⟨S, l, t, h1, hS, h2⟩
   rotate_left
   ·simp only [altFit, Bool.and_eq_true, Nat.ble_eq] at h1
    obtain ⟨⟨⟨f1, f2⟩, f3⟩, f4⟩ := h1
    have e1 : ops.toList.toArray = ops := by simp
    have e2 : ops.toList.length = ops.size := by simp
    refine Code.wp_mono (Q := fun x a w => x = .normal ∧ Q' x a w) (fun _ _ _ h => h.2) (wp_region_any G.mixed ?_)
    have H := first_sound (G := G) (Q := fun x a w => x = .normal ∧ Q' x a w) hk' f1 (fun c a w h => by cases h.1) l (ops.size - l.length) (Array.replicate ops.toList.length false) a w.drew hs hd f2
     (fun a' hs' hd' hk => (vcT_sound (G := G) (Q := fun x a w => x = .normal ∧ Q' x a w) hk' (fun a'' w'' hs'' hd'' hk'' => ⟨rfl, hQ _ _ _ hs'' hd'' hk''⟩) t (ops.size - l.length) _ a' w.drew zo hs' hd' hk).1 f3) h2
    rw [e1, e2, show ops.size - l.length + l.length = ops.size by omega] at H
    exact H
   ·simp only [altFit, Bool.and_eq_true, Nat.ble_eq] at h1
    obtain ⟨⟨⟨f1, f2⟩, f3⟩, f4⟩ := h1
    have e1 : ops.toList.toArray = ops := by simp
    have e2 : ops.toList.length = ops.size := by simp
    refine Code.wp_mono (Q := fun x a w => x = .normal ∧ Q' x a w) (fun _ _ _ h => h.2) (wp_region_held (S := S) G.mixed ?_)
    have H := first_soundH (S := S) (G := G) (Q := fun x a w => x = .normal ∧ Q' x a w) hk' f1 (fun c a w h => by cases h.1) l (ops.size - l.length) (Array.replicate ops.toList.length false) a w.drew hS hs hd f2
     (fun a' hs' hd' hk => (vcTH_sound (S := S) (G := G) (Q := fun x a w => x = .normal ∧ Q' x a w) hk' (fun a'' w'' hs'' hd'' hk'' => ⟨rfl, hQ _ _ _ hs'' hd'' hk''⟩) t (ops.size - l.length) _ a' w.drew zo hs' hd' hk).1 f3) h2
    rw [e1, e2, show ops.size - l.length + l.length = ops.size by omega] at H
    exact H
   have e1 : ops.toList.toArray = ops := by simp
   rw [e1] at h2
   have ht : (ops.toList.take n).all (dstOk N) = true := List.all_eq_true.2 fun o ho => List.all_eq_true.1 hk' o (List.mem_of_mem_take ho)
   have hdr : (ops.toList.drop n).all (dstOk N) = true := List.all_eq_true.2 fun o ho => List.all_eq_true.1 hk' o (List.mem_of_mem_drop ho)
   have H := vcQ_sound (G := G) (Q := fun a' => ∀ w', C w' → wpList G.P ops.toList.toArray Q' (ops.toList.drop n) a' w') hk' (ops.toList.take n) a ht hs hd
    (fun a' hs' hd' hk w' hw' => vcOps_sound (G := G) hk' _ a' w' hdr hs' hd' (fun a'' w'' hs'' hd'' hk'' => hQ _ _ _ hs'' hd'' hk'') (hk w' hw')) h3
   rw [e1] at H
   simp only [Bool.or_eq_true, Bool.and_eq_true] at h2
   rcases h2 with h2 | ⟨hn, h2⟩
   ·exact wp_region_tail G.mixed h2 h1 H
   ·have hn := Nat.eq_of_beq_eq_true hn
    rw [hn, List.take_length, List.drop_length] at H
    exact wp_region_quiet (C := C) G.mixed h2 h1 H
  | false =>
   have h' : vcOps G ops.toList ops.toList (envOf a) w (fun e w => Q .normal e w) := h
   have := vcOps_sound (G := G) (Q := Q') hk' ops.toList a w hk' hs hd (fun a' w' hs' hd' hk => hQ _ _ _ hs' hd' hk) h'
   rw [show ops.toList.toArray = ops by simp] at this
   exact wp_region_list this
 | seq x y ihx ihy =>
  intro Q Q' hQ hk a w hs hd h
  simp only [codeOk, Bool.and_eq_true] at hk
  unfold vc at h
  refine wp_seq (ihx _ _ ?_ hk.1 a w hs hd h)
  intro x a' w' hs' hd' hx
  cases x <;> first
   | exact ihy Q Q' hQ hk.2 a' w' hs' hd' hx.go
   | exact hQ _ _ _ hs' hd' hx
 | cond c x y ihx ihy =>
  intro Q Q' hQ hk a w hs hd h
  simp only [codeOk, Bool.and_eq_true] at hk
  unfold vc at h
  split at h
  ·rename_i t ht
   have ht' : a.eval c = .bool t := by rw [eval_envOf]; exact ht
   refine wp_cond ht' ?_
   cases t
   ·exact ihy Q Q' hQ hk.2 a w hs hd h
   ·exact ihx Q Q' hQ hk.1 a w hs hd h
  ·exact h.elim
 | block id c ih =>
  intro Q Q' hQ hk a w hs hd h
  unfold vc at h
  refine wp_block (ih _ _ ?_ hk a w hs hd h)
  intro x a' w' hs' hd' hx
  cases x <;> try exact hQ _ _ _ hs' hd' hx
  rename_i j
  simp only [blkQ] at hx
  simp only [Exit.inBlock]
  by_cases hj : j = id
  ·subst hj; simp only [Nat.beq_refl, cond_true] at hx; rw [if_pos rfl]; exact hQ _ _ _ hs' hd' hx
  ·rw [beq_ne hj] at hx; rw [if_neg hj]; exact hQ _ _ _ hs' hd' hx
 | loop c ih =>
  intro Q Q' hQ hk a w hs hd h
  obtain ⟨I, n, h0, hstep⟩ := (show LoopK (fun e w Q => vc G c e w Q) (envOf a) w Q from h).ex
  refine wp_loop_ghost (fun n a w => a.tmps.size = N ∧ a.defers = ds ∧ I n (envOf a) w) n ⟨hs, hd, h0⟩ ?_
  intro n1 a1 w1 ⟨hs1, hd1, hI⟩
  refine ih _ _ ?_ hk a1 w1 hs1 hd1 (hstep _ _ _ hI)
  intro x a' w' hs' hd' hx
  cases x <;> first
   | (obtain ⟨n', h1, h2⟩ := hx; exact ⟨n', h1, hs', hd', h2⟩)
   | exact hQ _ _ _ hs' hd' hx
 | exit id => intro Q Q' hQ _ a w hs hd h; exact wp_exit (hQ _ _ _ hs hd h)
 | ret => intro Q Q' hQ _ a w hs hd h; exact wp_ret (hQ _ _ _ hs hd h)
 | _ => intro Q Q' hQ hk; cases hk
theorem vcC_sound {C : World → Prop} (hdr : ∀ w, C w → C w.drew) : ∀ (c : Code) (Q : Exit → Env → Prop) (Q' : Exit → Act → World → Prop),
  (∀ x a w, a.tmps.size = N → a.defers = ds → C w → Q x (envOf a) → Q' x a w) → codeOk N c = true → quietOk c = true →
  ∀ a w, a.tmps.size = N → a.defers = ds → C w → vcC G C c (envOf a) Q → c.wp G.P Q' a w := by
 intro c
 induction c with
 | skip => intro Q Q' hQ _ _ a w hs hd hw h; exact wp_skip (hQ _ _ _ hs hd hw h)
 | region id ops draw =>
  intro Q Q' hQ hk hq a w hs hd hw h
  have hk' : ops.toList.all (dstOk N) = true := hk
  have e1 : ops.toList.toArray = ops := by simp
  have H := vcQ_sound (G := G) (C := C) (K := fun e => Q .normal e) (Q := fun a' => ∀ w', C w' → Q' .normal a' w') hk' ops.toList a hk' hs hd (fun a' hs' hd' hk w' hw' => hQ _ _ _ hs' hd' hw' hk) h
  rw [e1] at H
  cases draw with
  | true =>
   have hl : Region.lexB .any ops.toList.toArray = true := hq
   rw [e1] at hl
   exact wp_region_quiet (C := C) G.mixed hl (hdr _ hw) H
  | false => exact wp_region_list (wpList_of_quiet (G := G) _ _ _ hw H)
 | seq x y ihx ihy =>
  intro Q Q' hQ hk hq a w hs hd hw h
  simp only [codeOk, Bool.and_eq_true] at hk
  simp only [quietOk, Bool.and_eq_true] at hq
  unfold vcC at h
  refine wp_seq (ihx _ _ ?_ hk.1 hq.1 a w hs hd hw h)
  intro x a' w' hs' hd' hw' hx
  cases x <;> first
   | exact ihy Q Q' hQ hk.2 hq.2 a' w' hs' hd' hw' hx.go
   | exact hQ _ _ _ hs' hd' hw' hx
 | cond c x y ihx ihy =>
  intro Q Q' hQ hk hq a w hs hd hw h
  simp only [codeOk, Bool.and_eq_true] at hk
  simp only [quietOk, Bool.and_eq_true] at hq
  unfold vcC at h
  split at h
  ·rename_i t ht
   have ht' : a.eval c = .bool t := by rw [eval_envOf]; exact ht
   refine wp_cond ht' ?_
   cases t
   ·exact ihy Q Q' hQ hk.2 hq.2 a w hs hd hw h
   ·exact ihx Q Q' hQ hk.1 hq.1 a w hs hd hw h
  ·exact h.elim
 | block id c ih =>
  intro Q Q' hQ hk hq a w hs hd hw h
  unfold vcC at h
  refine wp_block (ih _ _ ?_ hk hq a w hs hd hw h)
  intro x a' w' hs' hd' hw' hx
  cases x <;> try exact hQ _ _ _ hs' hd' hw' hx
  rename_i j
  simp only [blkC] at hx
  simp only [Exit.inBlock]
  by_cases hj : j = id
  ·subst hj; simp only [Nat.beq_refl, cond_true] at hx; rw [if_pos rfl]; exact hQ _ _ _ hs' hd' hw' hx
  ·rw [beq_ne hj] at hx; rw [if_neg hj]; exact hQ _ _ _ hs' hd' hw' hx
 | loop c ih =>
  intro Q Q' hQ hk hq a w hs hd hw h
  obtain ⟨I, n, h0, hstep⟩ := (show LoopC (fun e Q => vcC G C c e Q) (envOf a) Q from h).ex
  refine wp_loop_ghost (fun n a w => a.tmps.size = N ∧ a.defers = ds ∧ C w ∧ I n (envOf a)) n ⟨hs, hd, hw, h0⟩ ?_
  intro n1 a1 w1 ⟨hs1, hd1, hw1, hI⟩
  refine ih _ _ ?_ hk hq a1 w1 hs1 hd1 hw1 (hstep _ _ hI)
  intro x a' w' hs' hd' hw' hx
  cases x <;> first
   | (obtain ⟨n', h1, h2⟩ := hx; exact ⟨n', h1, hs', hd', hw', h2⟩)
   | exact hQ _ _ _ hs' hd' hw' hx
 | exit id => intro Q Q' hQ _ _ a w hs hd hw h; exact wp_exit (hQ _ _ _ hs hd hw h)
 | ret => intro Q Q' hQ _ _ a w hs hd hw h; exact wp_ret (hQ _ _ _ hs hd hw h)
 | _ => intro Q Q' hQ hk; cases hk
theorem W_vc {c : Code} {e : Env} {w : World} {Q : Exit → Env → World → Prop} (h : vc G c e w Q) : W G N c e w Q := by
 intro hk a ha hs hd
 subst ha
 exact vc_sound c Q (lift N Q) (fun _ _ _ h1 h2 h3 => ⟨h1, h2, h3⟩) hk a w hs hd h
theorem W_seq {a b : Code} {e : Env} {w : World} {Q : Exit → Env → World → Prop} (h : W G N a e w (seqQ (fun e w => W G N b e w Q) Q)) : W G N (.seq a b) e w Q := by
 intro hk ac ha hs hd
 simp only [codeOk, Bool.and_eq_true] at hk
 refine wp_seq (wp_mono (h hk.1 ac ha hs hd) ?_)
 intro x a' w' ⟨h1, h2, h3⟩
 cases x <;> first
  | exact h3 hk.2 a' rfl h1 h2
  | exact ⟨h1, h2, h3⟩
theorem W_quiet (C : World → Prop) {c : Code} {e : Env} {w : World} {Q : Exit → Env → World → Prop} (hw : C w) (hdr : ∀ w, C w → C w.drew) (hq : quietOk c = true)
  (h : vcC G C c e (fun x e' => ∀ w', C w' → Q x e' w')) : W G N c e w Q := by
 intro hk a ha hs hd
 subst ha
 exact vcC_sound hdr c _ (lift N Q) (fun _ _ w' h1 h2 hw' h3 => ⟨h1, h2, h3 w' hw'⟩) hk hq a w hs hd hw h
end
section mono
variable {G : Prg} {K K' : Value → Prop} {F F' : Prop}
theorem force_mono {v : Value} (hK : ∀ v, K v → K' v) (h : force v K) : force v K' := by rw [force_eq] at h ⊢; exact hK _ h
theorem cond_mono {b : Bool} {A B A' B' : Prop} (h1 : A → A') (h2 : B → B') (h : bif b then A else B) : bif b then A' else B' := by
 cases b
 ·exact h2 h
 ·exact h1 h
theorem vcPure_mono {T : Tab} {o : Oper} {e : Env} (hK : ∀ v, K v → K' v) (hF : F → F') (h : vcPure T o e K F) : vcPure T o e K' F' := by
 revert h
 unfold vcPure
 split
 ·exact force_mono hK
 ·exact force_mono hK
 ·split
  ·exact force_mono hK
  ·exact hF
 ·unfold vcBin
  split
  ·refine cond_mono ?_ (cond_mono ?_ hF)
   ·unfold vcShift; split <;> first | exact cond_mono (fun h r hr => hK _ (h r hr)) hF | exact hF
   ·unfold vcInt; split <;> first | exact hK _ | exact hF | exact cond_mono hF (hK _) | exact fun h r hr => hK _ (h r hr)
  ·unfold vcStr; split <;> first | exact hK _ | exact hF | exact cond_mono (hK _) hF
  ·exact hF
 ·unfold vcUn; split <;> first | exact hK _ | exact hF | exact fun h r hr => hK _ (h r hr)
 ·split <;> first | exact hK _ | exact hF
 ·unfold vcField; split <;> first | exact hF | (split <;> first | exact hK _ | exact hF)
 ·unfold vcIndexAddr; split <;> first | exact cond_mono (hK _) hF | exact hF
 ·unfold vcConv; split <;> first | exact hK _ | exact hF
 ·unfold vcIndex; split <;> first | exact cond_mono (hK _) hF | exact hF
 ·split
  ·split
   ·exact force_mono hK
   ·exact hF
  ·exact hF
 ·split
  ·unfold vcLen; split <;> first | exact hK _ | exact hF
  ·exact hF
 ·exact hF
theorem vcOp_mono {o : Oper} {e : Env} {w : World} {K K' : Value → World → Prop} (hK : ∀ v w, K v w → K' v w) (h : vcOp G o e w K) : vcOp G o e w K' := by
 unfold vcOp at h ⊢
 refine vcPure_mono (fun v => hK v w) ?_ h
 split
 ·split
  ·exact fun ⟨v, h1, h2⟩ => ⟨v, h1, force_mono (fun v => hK v w) h2⟩
  ·exact id
 ·split
  ·exact fun ⟨v, h1, h2⟩ => ⟨v, h1, hK _ _ h2⟩
  ·exact id
 ·rw [boxed_eq, boxed_eq]; exact hK _ _
 ·refine cond_mono (fun ⟨h⟩ => ⟨h.mono fun r w' ⟨v, hr, hk⟩ => ⟨v, hr, hK _ _ hk⟩⟩) id
 ·exact fun ⟨h⟩ => ⟨h.imp (fun ⟨v, w', h1, h2⟩ => ⟨v, w', h1, hK _ _ h2⟩) (fun h => h.imp (fun ⟨w', h1, h2⟩ => ⟨w', h1, hK _ _ h2⟩) (fun ⟨f, as, h1, h2⟩ => ⟨f, as, h1, h2.mono fun r w' ⟨v, hr, hk⟩ => ⟨v, hr, hK _ _ hk⟩⟩))⟩
theorem vcOpQ_mono {C : World → Prop} {o : Oper} {e : Env} {K K' : Value → Prop} (hK : ∀ v, K v → K' v) (h : vcOpQ G C o e K) : vcOpQ G C o e K' := by
 unfold vcOpQ at h ⊢
 refine vcPure_mono hK ?_ h
 split
 ·split
  ·exact fun ⟨v, h1, h2⟩ => ⟨v, h1, force_mono hK h2⟩
  ·exact id
 ·exact cond_mono (fun ⟨v, h1, h2⟩ => ⟨v, h1, force_mono hK h2⟩) id
 ·exact fun ⟨v, h1, h2⟩ => ⟨v, h1, hK _ h2⟩
theorem updO_frame {e : Env} {o : Oper} {v : Value} {t : Nat} (h : (match o.dst with | some d => Nat.beq t d | none => false) = false) : updO e o.dst v t = e t := by
 cases hd : o.dst with
 | none => rfl
 | some d => rw [hd] at h; simp only at h; simp [updO, upd, h]
theorem vcOps_frame {ops : List Oper} : ∀ (l : List Oper) (e : Env) (w : World) (K K' : Env → World → Prop),
  (∀ e' w', (∀ t, opsWrite l t = false → e' t = e t) → K e' w' → K' e' w') → vcOps G ops l e w K → vcOps G ops l e w K' := by
 intro l
 induction l with
 | nil => intro e w K K' hK h; exact hK _ _ (fun _ _ => rfl) h
 | cons o rest ih =>
  intro e w K K' hK h
  have next : ∀ v w', vcOps G ops rest (updO e o.dst v) w' K → vcOps G ops rest (updO e o.dst v) w' K' := fun v w' h' =>
   ih _ _ K K' (fun e' w'' he' hk => hK e' w'' (fun t ht => by
    simp only [opsWrite, List.any_cons, Bool.or_eq_false_iff] at ht
    rw [he' t ht.2]; exact updO_frame ht.1) hk) h'
  revert h
  rw [vcOps_cons, vcOps_cons]; unfold stepOps
  split
  ·exact vcOp_mono next
  ·rename_i j want hg
   split
   ·exact next _ _
   ·rename_i dj hj
    split
    ·rename_i b hb
     have same : upd e dj (.bool b) = e := by rw [← hb]; exact upd_same _ _
     intro h
     cases want <;> cases b <;> simp only [cond_true, cond_false] at h ⊢ <;> rw [same] at h ⊢
     ·exact vcOp_mono next h
     ·exact next _ _ h
     ·exact next _ _ h
     ·exact vcOp_mono next h
    ·exact next _ _
theorem vcQ_frame {C : World → Prop} {ops : List Oper} : ∀ (l : List Oper) (e : Env) (K K' : Env → Prop),
  (∀ e', (∀ t, opsWrite l t = false → e' t = e t) → K e' → K' e') → vcQ G C ops l e K → vcQ G C ops l e K' := by
 intro l
 induction l with
 | nil => intro e K K' hK h; exact hK _ (fun _ _ => rfl) h
 | cons o rest ih =>
  intro e K K' hK h
  have next : ∀ v, vcQ G C ops rest (updO e o.dst v) K → vcQ G C ops rest (updO e o.dst v) K' := fun v h' =>
   ih _ K K' (fun e' he' hk => hK e' (fun t ht => by
    simp only [opsWrite, List.any_cons, Bool.or_eq_false_iff] at ht
    rw [he' t ht.2]; exact updO_frame ht.1) hk) h'
  revert h
  rw [vcQ_cons, vcQ_cons]; unfold stepQ
  split
  ·exact vcOpQ_mono next
  ·rename_i j want hg
   split
   ·exact next _
   ·rename_i dj hj
    split
    ·rename_i b hb
     have same : upd e dj (.bool b) = e := by rw [← hb]; exact upd_same _ _
     intro h
     cases want <;> cases b <;> simp only [cond_true, cond_false] at h ⊢ <;> rw [same] at h ⊢
     ·exact vcOpQ_mono next h
     ·exact next _ h
     ·exact next _ h
     ·exact vcOpQ_mono next h
    ·exact next _
theorem pick_mem {ops : List Oper} : ∀ (l : List Nat) (o : Oper), o ∈ pick ops l → o ∈ ops := by
 intro l
 induction l with
 | nil => intro o h; cases h
 | cons i r ih =>
  intro o h
  simp only [pick] at h
  split at h
  ·rename_i x hx
   rcases List.mem_cons.1 h with rfl | h
   ·rw [nthOp_eq] at hx; exact List.mem_of_getElem? hx
   ·exact ih o h
  ·exact ih o h
theorem vcT_frame {ops : List Oper} : ∀ (t : Alt) (e : Env) (w : World) (K K' : Env → World → Prop),
  (∀ e' w', (∀ t, opsWrite ops t = false → e' t = e t) → K e' w' → K' e' w') → vcT G ops t e w K → vcT G ops t e w K' := by
 intro t
 induction t with
 | nil => intro e w K K' _ h; exact h
 | done => intro e w K K' hK h; exact hK _ _ (fun _ _ => rfl) h
 | cons i t r iht ihr =>
  intro e w K K' hK h
  have h : (match nthOp ops i with | some o => vcOps G ops [o] e w (fun e w => vcT G ops t e w K) | none => False) ∧ vcT G ops r e w K := h
  show (match nthOp ops i with | some o => vcOps G ops [o] e w (fun e w => vcT G ops t e w K') | none => False) ∧ vcT G ops r e w K'
  refine ⟨?_, ihr _ _ _ _ hK h.2⟩
  have h1 := h.1
  cases ho : nthOp ops i with
  | none => rw [ho] at h1; exact h1
  | some o =>
   rw [ho] at h1
   refine vcOps_frame _ _ _ _ _ (fun e1 w1 he1 hk => iht _ _ _ _ (fun e2 w2 he2 hk2 => hK e2 w2 (fun x hx => ?_) hk2) hk) h1
   have hmem : o ∈ ops := by rw [nthOp_eq] at ho; exact List.mem_of_getElem? ho
   rw [he2 x hx, he1 x]
   simp only [opsWrite, List.any_eq_false] at hx ⊢
   intro o' ho'
   rw [List.mem_singleton] at ho'; subst ho'
   exact hx _ hmem
theorem vcTH_frame {S : World → Prop} {ops : List Oper} : ∀ (t : Alt) (e : Env) (w : World) (K K' : Env → World → Prop),
  (∀ e' w', (∀ t, opsWrite ops t = false → e' t = e t) → K e' w' → K' e' w') → vcTH G S ops t e w K → vcTH G S ops t e w K' := by
 intro t
 induction t with
 | nil => intro e w K K' _ h; exact h
 | done => intro e w K K' hK h; exact hK _ _ (fun _ _ => rfl) h
 | cons i t r iht ihr =>
  intro e w K K' hK h
  have h : (match nthOp ops i with | some o => vcOps G ops [o] e w (fun e w => S w ∧ vcTH G S ops t e w K) | none => False) ∧ vcTH G S ops r e w K := h
  show (match nthOp ops i with | some o => vcOps G ops [o] e w (fun e w => S w ∧ vcTH G S ops t e w K') | none => False) ∧ vcTH G S ops r e w K'
  refine ⟨?_, ihr _ _ _ _ hK h.2⟩
  have h1 := h.1
  cases ho : nthOp ops i with
  | none => rw [ho] at h1; exact h1
  | some o =>
   rw [ho] at h1
   refine vcOps_frame _ _ _ _ _ (fun e1 w1 he1 hk => ⟨hk.1, iht _ _ _ _ (fun e2 w2 he2 hk2 => hK e2 w2 (fun x hx => ?_) hk2) hk.2⟩) h1
   have hmem : o ∈ ops := by rw [nthOp_eq] at ho; exact List.mem_of_getElem? ho
   rw [he2 x hx, he1 x]
   simp only [opsWrite, List.any_eq_false] at hx ⊢
   intro o' ho'
   rw [List.mem_singleton] at ho'; subst ho'
   exact hx _ hmem
theorem vc_frame : ∀ (c : Code) (e : Env) (w : World) (Q Q' : Exit → Env → World → Prop),
  (∀ x e' w', (∀ t, writes c t = false → e' t = e t) → Q x e' w' → Q' x e' w') → vc G c e w Q → vc G c e w Q' := by
 intro c
 induction c with
 | skip => intro e w Q Q' hQ h; exact hQ _ _ _ (fun _ _ => rfl) h
 | region id ops draw =>
  intro e w Q Q' hQ h
  unfold vc at h ⊢
  refine cond_mono ?_ ?_ h
  ·rintro ⟨⟨n, C, h1, h2, h3⟩ | ⟨l, t, h1, h2⟩ | ⟨S, l, t, h1, hS, h2⟩⟩
   ·have hsub : ∀ l : List Oper, (∀ o ∈ l, o ∈ ops.toList) → ∀ t, opsWrite ops.toList t = false → opsWrite l t = false := fun l hl t ht => by
     simp only [opsWrite, List.any_eq_false] at ht ⊢
     exact fun o ho => ht o (hl o ho)
    refine .mk1 ⟨n, C, h1, h2, vcQ_frame _ _ _ _ (fun e' he' hk w' hw' => vcOps_frame _ _ _ _ _ (fun e'' w'' he'' hk'' => hQ _ _ _ (fun t ht => ?_) hk'') (hk w' hw')) h3⟩
    rw [he'' t (hsub _ (fun o ho => List.mem_of_mem_drop ho) t ht), he' t (hsub _ (fun o ho => List.mem_of_mem_take ho) t ht)]
   ·refine .mk2 l t h1 (vcQ_frame _ _ _ _ (fun e' he' hk => vcT_frame _ _ _ _ _ (fun e'' w'' he'' hk'' => hQ _ _ _ (fun t ht => ?_) hk'') hk) h2)
    rw [he'' t ht, he' t]
    have ht' : opsWrite ops.toList t = false := ht
    simp only [opsWrite, List.any_eq_false] at ht' ⊢
    exact fun o ho => ht' o (pick_mem l o ho)
   ·refine .mk3 S l t hS h1 (vcQ_frame _ _ _ _ (fun e' he' hk => vcTH_frame _ _ _ _ _ (fun e'' w'' he'' hk'' => hQ _ _ _ (fun t ht => ?_) hk'') hk) h2)
    rw [he'' t ht, he' t]
    have ht' : opsWrite ops.toList t = false := ht
    simp only [opsWrite, List.any_eq_false] at ht' ⊢
    exact fun o ho => ht' o (pick_mem l o ho)
  ·exact vcOps_frame _ _ _ _ _ (fun e' w' he' hk => hQ _ _ _ he' hk)
 | seq a b iha ihb =>
  intro e w Q Q' hQ h
  unfold vc at h ⊢
  refine iha _ _ _ _ ?_ h
  intro x e1 w1 he1 hx
  have fr : ∀ x e' w', (∀ t, writes b t = false → e' t = e1 t) → Q x e' w' → Q' x e' w' := fun x e' w' he' hk => hQ x e' w' (fun t ht => by
   simp only [writes, Bool.or_eq_false_iff] at ht
   rw [he' t ht.2, he1 t ht.1]) hk
  cases x <;> first
   | exact ⟨ihb _ _ _ _ fr hx.go⟩
   | exact fr _ _ _ (fun _ _ => rfl) hx
 | cond c a b iha ihb =>
  intro e w Q Q' hQ h
  unfold vc at h ⊢
  split at h
  ·rename_i t ht
   refine cond_mono (iha _ _ _ _ ?_) (ihb _ _ _ _ ?_) h
   ·exact fun x e' w' he' hk => hQ x e' w' (fun t ht => by simp only [writes, Bool.or_eq_false_iff] at ht; exact he' t ht.1) hk
   ·exact fun x e' w' he' hk => hQ x e' w' (fun t ht => by simp only [writes, Bool.or_eq_false_iff] at ht; exact he' t ht.2) hk
  ·exact h
 | block id a ih =>
  intro e w Q Q' hQ h
  unfold vc at h ⊢
  refine ih _ _ _ _ ?_ h
  intro x e' w' he' hx
  cases x <;> try exact hQ _ _ _ he' hx
  exact cond_mono (hQ _ _ _ he') (hQ _ _ _ he') hx
 | loop a ih =>
  intro e w Q Q' hQ h
  unfold vc at h ⊢
  obtain ⟨I, n, h0, hstep⟩ := h.ex
  refine ⟨fun n e1 w1 => I n e1 w1 ∧ ∀ t, writes a t = false → e1 t = e t, n, ⟨h0, fun _ _ => rfl⟩, ?_⟩
  rintro n1 e1 w1 ⟨hI, hfr⟩
  refine ih _ _ _ _ ?_ (hstep n1 e1 w1 hI)
  intro x e' w' he' hx
  cases x <;> first
   | (obtain ⟨n', h1, h2⟩ := hx; exact ⟨n', h1, h2, fun t ht => by rw [he' t ht, hfr t ht]⟩)
   | exact hQ _ _ _ (fun t ht => by rw [he' t ht, hfr t ht]) hx
 | exit id => intro e w Q Q' hQ h; exact hQ _ _ _ (fun _ _ => rfl) h
 | ret => intro e w Q Q' hQ h; exact hQ _ _ _ (fun _ _ => rfl) h
 | _ => intro e w Q Q' hQ h; exact h
theorem vcC_frame {C : World → Prop} : ∀ (c : Code) (e : Env) (Q Q' : Exit → Env → Prop),
  (∀ x e', (∀ t, writes c t = false → e' t = e t) → Q x e' → Q' x e') → vcC G C c e Q → vcC G C c e Q' := by
 intro c
 induction c with
 | skip => intro e Q Q' hQ h; exact hQ _ _ (fun _ _ => rfl) h
 | region id ops draw =>
  intro e Q Q' hQ h
  exact vcQ_frame _ _ _ _ (fun e' he' hk => hQ _ _ he' hk) h
 | seq a b iha ihb =>
  intro e Q Q' hQ h
  unfold vcC at h ⊢
  refine iha _ _ _ ?_ h
  intro x e1 he1 hx
  have fr : ∀ x e', (∀ t, writes b t = false → e' t = e1 t) → Q x e' → Q' x e' := fun x e' he' hk => hQ x e' (fun t ht => by
   simp only [writes, Bool.or_eq_false_iff] at ht
   rw [he' t ht.2, he1 t ht.1]) hk
  cases x <;> first
   | exact ⟨ihb _ _ _ fr hx.go⟩
   | exact fr _ _ (fun _ _ => rfl) hx
 | cond c a b iha ihb =>
  intro e Q Q' hQ h
  unfold vcC at h ⊢
  split at h
  ·rename_i t ht
   refine cond_mono (iha _ _ _ ?_) (ihb _ _ _ ?_) h
   ·exact fun x e' he' hk => hQ x e' (fun t ht => by simp only [writes, Bool.or_eq_false_iff] at ht; exact he' t ht.1) hk
   ·exact fun x e' he' hk => hQ x e' (fun t ht => by simp only [writes, Bool.or_eq_false_iff] at ht; exact he' t ht.2) hk
  ·exact h
 | block id a ih =>
  intro e Q Q' hQ h
  unfold vcC at h ⊢
  refine ih _ _ _ ?_ h
  intro x e' he' hx
  cases x <;> try exact hQ _ _ he' hx
  exact cond_mono (hQ _ _ he') (hQ _ _ he') hx
 | loop a ih =>
  intro e Q Q' hQ h
  unfold vcC at h ⊢
  obtain ⟨I, n, h0, hstep⟩ := h.ex
  refine ⟨fun n e1 => I n e1 ∧ ∀ t, writes a t = false → e1 t = e t, n, ⟨h0, fun _ _ => rfl⟩, ?_⟩
  rintro n1 e1 ⟨hI, hfr⟩
  refine ih _ _ _ ?_ (hstep n1 e1 hI)
  intro x e' he' hx
  cases x <;> first
   | (obtain ⟨n', h1, h2⟩ := hx; exact ⟨n', h1, h2, fun t ht => by rw [he' t ht, hfr t ht]⟩)
   | exact hQ _ _ (fun t ht => by rw [he' t ht, hfr t ht]) hx
 | exit id => intro e Q Q' hQ h; exact hQ _ _ (fun _ _ => rfl) h
 | ret => intro e Q Q' hQ h; exact hQ _ _ (fun _ _ => rfl) h
 | _ => intro e Q Q' hQ h; exact h
end mono
def lookL : List (Nat × Value) → Nat → Option Value
 | [], _ => none
 | (s, v) :: r, t => bif Nat.beq s t then some v else lookL r t
def memN : List Nat → Nat → Bool
 | [], _ => false
 | s :: r, t => bif Nat.beq s t then true else memN r t
def hd (e j : Env) (ms : List Nat) (m : Nat) (L : List (Nat × Value)) : Env := fun t =>
 bif Nat.ble m t then j t else bif memN ms t then (match lookL L t with | some v => v | none => j t) else e t
def fits : List (Nat × Value) → Env → Prop
 | [], _ => True
 | (t, v) :: r, e => e t = v ∧ fits r e
def wOk (c : Code) (ms : List Nat) (m : Nat) : Bool := (List.range m).all fun t => memN ms t || !writes c t
theorem wOk_spec {c : Code} {ms : List Nat} {m : Nat} (h : wOk c ms m = true) : ∀ t, t < m → memN ms t = false → writes c t = false := by
 intro t ht hm
 have := List.all_eq_true.1 h t (List.mem_range.2 ht)
 simpa [hm] using this
theorem fits_look {L : List (Nat × Value)} {e : Env} (h : fits L e) : ∀ t v, lookL L t = some v → e t = v := by
 induction L with
 | nil => intro t v h; cases h
 | cons x r ih =>
  obtain ⟨s, u⟩ := x
  intro t v hl
  unfold lookL at hl
  by_cases hs : s = t
  ·subst hs; simp at hl; subst hl; exact h.1
  ·rw [beq_ne hs] at hl; exact ih h.2 t v hl
theorem hd_eq {e e1 : Env} {ms : List Nat} {m : Nat} {L : List (Nat × Value)} (hf : fits L e1) (hk : ∀ t, t < m → memN ms t = false → e1 t = e t) : e1 = hd e e1 ms m L := by
 funext t
 unfold hd
 cases hb : Nat.ble m t with
 | true => rfl
 | false =>
  have ht : t < m := by
   rcases Nat.lt_or_ge t m with h | h
   ·exact h
   ·rw [Nat.ble_eq_true_of_le h] at hb; cases hb
  cases hm : memN ms t with
  | false => exact hk t ht hm
  | true =>
   simp only [cond_true, cond_false]
   cases hl : lookL L t with
   | none => rfl
   | some v => exact fits_look hf t v hl
section loops
variable {G : Prg} {C : World → Prop} {σ : Type}
theorem loopC {body : Code} {e : Env} {Q : Exit → Env → Prop} (ms : List Nat) (m : Nat) (L : σ → List (Nat × Value)) (I : σ → Prop) (μ : σ → Nat) (hw : wOk body ms m = true)
  (s0 : σ) (h0 : I s0) (hf : fits (L s0) e)
  (step : ∀ s j, I s → vcC G C body (hd e j ms m (L s)) (seqC (fun e2 => ∃ s', fits (L s') e2 ∧ I s' ∧ μ s' < μ s) Q)) : LoopC (fun e Q => vcC G C body e Q) e Q := by
 refine ⟨fun n e1 => (∀ t, t < m → memN ms t = false → e1 t = e t) ∧ ∃ s, fits (L s) e1 ∧ I s ∧ μ s = n, μ s0, ⟨fun _ _ _ => rfl, s0, hf, h0, rfl⟩, ?_⟩
 rintro n e1 ⟨hk, s, hfs, hI, rfl⟩
 have he := hd_eq hfs hk
 have h := step s e1 hI
 rw [← he] at h
 refine vcC_frame body e1 _ _ ?_ h
 intro x e' hfr hx
 cases x <;> first
  | (obtain ⟨s', h1, h2, h3⟩ := hx
     exact ⟨μ s', h3, fun t ht hm => by rw [hfr t (wOk_spec hw t ht hm), hk t ht hm], s', h1, h2, rfl⟩)
  | exact hx
theorem loopK {body : Code} {e : Env} {w : World} {Q : Exit → Env → World → Prop} (ms : List Nat) (m : Nat) (L : σ → List (Nat × Value)) (I : σ → World → Prop) (μ : σ → Nat) (hw : wOk body ms m = true)
  (s0 : σ) (h0 : I s0 w) (hf : fits (L s0) e)
  (step : ∀ s j w, I s w → vc G body (hd e j ms m (L s)) w (seqQ (fun e2 w2 => ∃ s', fits (L s') e2 ∧ I s' w2 ∧ μ s' < μ s) Q)) : LoopK (fun e w Q => vc G body e w Q) e w Q := by
 refine ⟨fun n e1 w1 => (∀ t, t < m → memN ms t = false → e1 t = e t) ∧ ∃ s, fits (L s) e1 ∧ I s w1 ∧ μ s = n, μ s0, ⟨fun _ _ _ => rfl, s0, hf, h0, rfl⟩, ?_⟩
 rintro n e1 w1 ⟨hk, s, hfs, hI, rfl⟩
 have he := hd_eq hfs hk
 have h := step s e1 w1 hI
 rw [← he] at h
 refine vc_frame body e1 w1 _ _ ?_ h
 intro x e' w' hfr hx
 cases x <;> first
  | (obtain ⟨s', h1, h2, h3⟩ := hx
     exact ⟨μ s', h3, fun t ht hm => by rw [hfr t (wOk_spec hw t ht hm), hk t ht hm], s', h1, h2, rfl⟩)
  | exact hx
theorem joinC {a b : Code} {e : Env} {Q : Exit → Env → Prop} (ms : List Nat) (m : Nat) (L : σ → List (Nat × Value)) (I : σ → Prop) (hw : wOk a ms m = true)
  (h1 : vcC G C a e (seqC (fun e2 => ∃ s, fits (L s) e2 ∧ I s) Q)) (h2 : ∀ s j, I s → Nx (vcC G C b (hd e j ms m (L s)) Q)) : Nx (vcC G C (.seq a b) e Q) := by
 refine ⟨?_⟩
 show vcC G C a e (seqC (fun e => Nx (vcC G C b e Q)) Q)
 refine vcC_frame a e _ _ ?_ h1
 intro x e' hfr hx
 cases x <;> first
  | (obtain ⟨s, hf, hI⟩ := hx
     have he := hd_eq (e := e) (ms := ms) (m := m) hf (fun t ht hm => hfr t (wOk_spec hw t ht hm))
     show Nx (vcC G C b e' Q)
     rw [he]; exact h2 s e' hI)
  | exact hx
theorem joinK {a b : Code} {e : Env} {w : World} {Q : Exit → Env → World → Prop} (ms : List Nat) (m : Nat) (L : σ → List (Nat × Value)) (I : σ → World → Prop) (hw : wOk a ms m = true)
  (h1 : vc G a e w (seqQ (fun e2 w2 => ∃ s, fits (L s) e2 ∧ I s w2) Q)) (h2 : ∀ s j w, I s w → Nx (vc G b (hd e j ms m (L s)) w Q)) : Nx (vc G (.seq a b) e w Q) := by
 refine ⟨?_⟩
 show vc G a e w (seqQ (fun e w => Nx (vc G b e w Q)) Q)
 refine vc_frame a e w _ _ ?_ h1
 intro x e' w' hfr hx
 cases x <;> first
  | (obtain ⟨s, hf, hI⟩ := hx
     have he := hd_eq (e := e) (ms := ms) (m := m) hf (fun t ht hm => hfr t (wOk_spec hw t ht hm))
     show Nx (vc G b e' w' Q)
     rw [he]; exact h2 s e' w' hI)
  | exact hx
theorem join1 {a b : Code} {e : Env} {Q : Exit → Env → Prop} (t m : Nat) (v : Value) (hw : wOk a [t] m = true)
  (h1 : vcC G C a e (seqC (fun e2 => e2 t = v) Q)) (h2 : ∀ j, Nx (vcC G C b (hd e j [t] m [(t, v)]) Q)) : Nx (vcC G C (.seq a b) e Q) :=
 joinC (σ := Unit) [t] m (fun _ => [(t, v)]) (fun _ => True) hw (vcC_frame a e _ _ (fun x e' _ hx => by
  cases x <;> first
   | exact ⟨(), ⟨hx, trivial⟩, trivial⟩
   | exact hx) h1) (fun _ j _ => h2 j)
end loops
def nthV : List Value → Nat → Value
 | [], _ => undef
 | v :: _, 0 => v
 | _ :: r, t + 1 => nthV r t
def args0 (l : List Value) : Env := fun t => nthV l t
def resV (P : Program) (rs : List ResultVar) (e : Env) (w : World) (R : Value → Prop) : Prop :=
 match rs with
 | [] => R (.tuple #[])
 | [.tmp t] => force (e t) R
 | [.cell t ty] => match e t with
  | .pointer (some a) => LoadK P w ty a (fun v => force v R)
  | _ => False
 | [.tmp t, .tmp u] => R (.tuple #[e t, e u])
 | [.tmp t, .tmp u, .tmp v] => R (.tuple #[e t, e u, e v])
 | _ => False
def retQ (P : Program) (rs : List ResultVar) (R : Ending → World → Prop) : Exit → Env → World → Prop
 | .normal, e, w => resV P rs e w (fun v => R (.returned v) w)
 | .ret, e, w => resV P rs e w (fun v => R (.returned v) w)
 | _, _, _ => False
theorem nthV_eq (l : List Value) (t : Nat) : nthV l t = l.getD t undef := by
 induction l generalizing t with
 | nil => simp [nthV]
 | cons v r ih => cases t <;> simp [nthV, ih]
theorem enter {G : Prg} {f : Nat} {fn : Func} {c : Code} {args : List Value} {w : World} {R : Ending → World → Prop}
  (hf : G.P.funcs[f]? = some fn) (hb : fn.body = some c) (hn : args.length ≤ fn.ntmps) (hk : codeOk fn.ntmps c = true)
  (h : W G fn.ntmps c (args0 args) w (retQ G.P fn.results.toList R)) : Calls G.P f args.toArray w R := by
 refine calls_of_wp hf hb ?_
 have hsz : (args.toArray ++ Array.replicate (fn.ntmps - args.toArray.size) undef).size = fn.ntmps := by simp; omega
 refine wp_mono (h hk { tmps := args.toArray ++ Array.replicate (fn.ntmps - args.toArray.size) undef, defers := [] } ?_ hsz rfl) ?_
 ·funext t
  unfold envOf args0
  rw [nthV_eq]
  simp only [Array.getD_eq_getD_getElem?, List.getD_eq_getElem?_getD]
  by_cases ht : t < args.length
  ·rw [Array.getElem?_append_left (by simpa using ht)]; simp
  ·rw [Array.getElem?_append_right (by simpa using ht)]
   rw [List.getElem?_eq_none zo]
   simp only [Option.getD_none]
   cases hx : (Array.replicate (fn.ntmps - args.toArray.size) undef)[t - args.toArray.size]? with
   | none => rfl
   | some v =>
    have := Array.getElem?_eq_some_iff.1 hx
    obtain ⟨h1, h2⟩ := this
    simp at h2
    simp [h2]
 ·rintro x a w' ⟨hs, hd, hq⟩
  have key : resV G.P fn.results.toList (envOf a) w' (fun v => R (.returned v) w') → ∃ v, (results fn a.tmps).run G.P w' = .ok v w' ∧ R (.returned v) w' := by
   intro hr
   unfold resV at hr
   split at hr
   ·rename_i he; have he : fn.results = #[] := Array.toList_inj.1 (by simpa using he)
    exact ⟨_, results_none he _ _ _, hr⟩
   ·rename_i t he; have he : fn.results = #[.tmp t] := Array.toList_inj.1 (by simpa using he)
    rw [force_eq] at hr
    exact ⟨_, results_tmp he _ _ _, hr⟩
   ·rename_i t ty he; have he : fn.results = #[.cell t ty] := Array.toList_inj.1 (by simpa using he)
    split at hr
    ·rename_i ad had
     obtain ⟨v, h1, h2⟩ := hr.ex
     rw [force_eq] at h2
     refine ⟨v, ?_, h2⟩
     have had' : a.tmps[t]?.getD undef = .pointer (some ad) := by rw [← Array.getD_eq_getD_getElem?]; exact had
     unfold LoadsTo Instr.loadAt at h1
     simp [Instr.sureAddr] at h1
     simp [results, he, had', asAddr, h1]
    ·exact hr.elim
   ·rename_i t u he; have he : fn.results = #[.tmp t, .tmp u] := Array.toList_inj.1 (by simpa using he)
    exact ⟨_, results_tmp2 he _ _ _, hr⟩
   ·rename_i t u v he; have he : fn.results = #[.tmp t, .tmp u, .tmp v] := Array.toList_inj.1 (by simpa using he)
    exact ⟨_, by simp [results, he, envOf, Array.getD_eq_getD_getElem?], hr⟩
   ·exact hr.elim
  cases x <;> first
   | exact ⟨hd, key hq⟩
   | exact hq.elim
section steps
variable {G : Prg} {C : World → Prop} {e : Env} {w : World} {Q : Exit → Env → Prop} {R : Exit → Env → World → Prop}
theorem cC_skip (h : Q .normal e) : vcC G C .skip e Q := h
theorem cC_region {id : Nat} {ops : Array Oper} {d : Bool} (h : vcQ G C ops.toList ops.toList e (fun e => Q .normal e)) : vcC G C (.region id ops d) e Q := h
theorem cC_seq {a b : Code} (h : vcC G C a e (seqC (fun e => Nx (vcC G C b e Q)) Q)) : vcC G C (.seq a b) e Q := h
theorem cC_cond {c : Operand} {a b : Code} (h : match ev e c with | .bool t => bif t then Cx (vcC G C a e Q) else Cx (vcC G C b e Q) | _ => False) : vcC G C (.cond c a b) e Q := by
 show (match ev e c with | .bool t => bif t then vcC G C a e Q else vcC G C b e Q | _ => False)
 revert h
 cases ev e c with
 | bool t => cases t <;> exact fun h => h.go
 | _ => exact fun h => h
theorem cC_block {id : Nat} {a : Code} (h : vcC G C a e (blkC id Q)) : vcC G C (.block id a) e Q := h
theorem cC_loop {a : Code} (h : LoopC (fun e Q => vcC G C a e Q) e Q) : vcC G C (.loop a) e Q := h
theorem cC_exit {id : Nat} (h : Q (.exit id) e) : vcC G C (.exit id) e Q := h
theorem cC_ret (h : Q .ret e) : vcC G C .ret e Q := h
theorem cK_skip (h : R .normal e w) : vc G .skip e w R := h
theorem cK_region {id : Nat} {ops : Array Oper} {d : Bool} (h : bif d then DrawK G ops.toList e w (fun e w => R .normal e w) else vcOps G ops.toList ops.toList e w (fun e w => R .normal e w)) : vc G (.region id ops d) e w R := h
theorem cK_seq {a b : Code} (h : vc G a e w (seqQ (fun e w => Nx (vc G b e w R)) R)) : vc G (.seq a b) e w R := h
theorem cK_cond {c : Operand} {a b : Code} (h : match ev e c with | .bool t => bif t then Cx (vc G a e w R) else Cx (vc G b e w R) | _ => False) : vc G (.cond c a b) e w R := by
 show (match ev e c with | .bool t => bif t then vc G a e w R else vc G b e w R | _ => False)
 revert h
 cases ev e c with
 | bool t => cases t <;> exact fun h => h.go
 | _ => exact fun h => h
theorem cK_block {id : Nat} {a : Code} (h : vc G a e w (blkQ id R)) : vc G (.block id a) e w R := h
theorem cK_loop {a : Code} (h : LoopK (fun e w R => vc G a e w R) e w R) : vc G (.loop a) e w R := h
theorem cK_exit {id : Nat} (h : R (.exit id) e w) : vc G (.exit id) e w R := h
theorem cK_ret (h : R .ret e w) : vc G .ret e w R := h
noncomputable def stepC (G : Prg) (C : World → Prop) (c : Code) (e : Env) (Q : Exit → Env → Prop) : Prop :=
 match c with
 | .skip => Q .normal e
 | .region _ ops _ => vcQ G C ops.toList ops.toList e (fun e => Q .normal e)
 | .seq a b => vcC G C a e (seqC (fun e => Nx (vcC G C b e Q)) Q)
 | .cond c a b => match ev e c with | .bool t => bif t then Cx (vcC G C a e Q) else Cx (vcC G C b e Q) | _ => False
 | .block id a => vcC G C a e (blkC id Q)
 | .loop a => LoopC (fun e Q => vcC G C a e Q) e Q
 | .exit id => Q (.exit id) e
 | .ret => Q .ret e
 | _ => False
noncomputable def stepK (G : Prg) (c : Code) (e : Env) (w : World) (R : Exit → Env → World → Prop) : Prop :=
 match c with
 | .skip => R .normal e w
 | .region _ ops d => bif d then DrawK G ops.toList e w (fun e w => R .normal e w) else vcOps G ops.toList ops.toList e w (fun e w => R .normal e w)
 | .seq a b => vc G a e w (seqQ (fun e w => Nx (vc G b e w R)) R)
 | .cond c a b => match ev e c with | .bool t => bif t then Cx (vc G a e w R) else Cx (vc G b e w R) | _ => False
 | .block id a => vc G a e w (blkQ id R)
 | .loop a => LoopK (fun e w R => vc G a e w R) e w R
 | .exit id => R (.exit id) e w
 | .ret => R .ret e w
 | _ => False
theorem sC {c : Code} (h : stepC G C c e Q) : vcC G C c e Q := by
 cases c <;> first | exact cC_skip h | exact cC_region h | exact cC_seq h | exact cC_cond h | exact cC_block h | exact cC_loop h | exact cC_exit h | exact cC_ret h | exact h.elim
theorem sK {c : Code} (h : stepK G c e w R) : vc G c e w R := by
 cases c <;> first | exact cK_skip h | exact cK_region h | exact cK_seq h | exact cK_cond h | exact cK_block h | exact cK_loop h | exact cK_exit h | exact cK_ret h | exact h.elim
theorem nX {p : Prop} (h : p) : Nx p := ⟨h⟩
theorem cX {p : Prop} (h : p) : Cx p := ⟨h⟩
end steps
attribute [irreducible] vc vcC
theorem zR {A B : Prop} (h : B) (e : B → A := by (intro h; ((conv => whnf); (repeat ((with_reducible first | refine nX ?_ | refine cX ?_ | refine sC ?_ | refine sK ?_); (conv => whnf)))); exact h)) : A := e h
theorem zG {A B : Prop} (h : B) (e : B → A := by (intro h; ((conv => whnf); (repeat ((with_reducible first | refine cX ?_ | refine sC ?_ | refine sK ?_); (conv => whnf)))); exact h)) : A := e h
end E
end
end Go.Proofs.YtpclhlhcegcflaaGreatDoor
