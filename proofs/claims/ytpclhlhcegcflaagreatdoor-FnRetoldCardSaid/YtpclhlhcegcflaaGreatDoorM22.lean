/- One part of the proof: Law10 Pk37 Pk38 Fen. -/
import Derived.Maps.RangeRun
import Derived.MapKept
import Derived.Test.YtpclhlhcegcflaaGreatDoorM1
import Derived.Test.YtpclhlhcegcflaaGreatDoorM3
import Derived.Test.YtpclhlhcegcflaaGreatDoorM18
import Derived.Test.YtpclhlhcegcflaaGreatDoorM20
import Derived.Test.YtpclhlhcegcflaaGreatDoorM21
namespace Go.Proofs.YtpclhlhcegcflaaGreatDoor
set_option maxRecDepth 100000
set_option linter.unusedSimpArgs false
set_option linter.unusedVariables false
section
open Go Go.RowKit
open E
structure En where
 k:Int
 v:Int
 n:Nat
def enE (qk qe:IntKind) (x:En):MapEntry:=⟨.int qk x.k,.int qe x.v,x.n⟩
def mpO (qk qe:IntKind) (l:List En) (c:Nat):Obj:=.map (l.map (enE qk qe)).toArray c
structure a1y (t k e:Nat) (qk qe:IntKind):Prop where
 ty:G.P.underlying t=some (.map k e)
 kt:G.P.underlying k=some (.int qk)
 zt:(G.P.info? e).bind (·.zero)=some (.int qe 0)
noncomputable def c2l (t k e:Nat) (qk qe:IntKind):Bool :=
 (match G.P.underlying t with | some (.map k' e')=>Nat.beq k' k&&Nat.beq e' e | _=>false)&&(match G.P.underlying k with | some (.int q)=>decide (q=qk) | _=>false)&&(match (G.P.info? e).bind (·.zero) with | some (.int q 0)=>decide (q=qe) | _=>false)
theorem a7F {t k e:Nat} {qk qe:IntKind} (h:c2l t k e qk qe=true):a1y t k e qk qe:=by
 simp only [c2l,Bool.and_eq_true] at h;obtain ⟨⟨h1,h2⟩,h3⟩:=h;refine ⟨?_,?_,?_⟩
 ·split at h1
  ·rename_i k' e' he;simp only [Bool.and_eq_true] at h1;rw [he,Nat.eq_of_beq_eq_true h1.1,Nat.eq_of_beq_eq_true h1.2]
  ·cases h1
 ·split at h2
  ·rename_i q he;rw [he,of_decide_eq_true h2]
  ·cases h2
 ·split at h3
  ·rename_i q he;rw [he,of_decide_eq_true h3]
  ·cases h3
def a1L (key:Int):List En→Nat→Option (Nat×Int)
 | [],_=>none
 | x::r,i=>if key=x.k then some (i,x.v) else a1L key r (i+1)
def getV (l:List En) (key:Int):Option Int:=(a1L key l 0).map (·.2)
def a9G (key v:Int):List En→List En
 | []=>[]
 | x::r=>if key=x.k then ⟨key,v,x.n⟩::r else x::a9G key v r
def a4U (key:Int):List En→List En
 | []=>[]
 | x::r=>if key=x.k then r else x::a4U key r
def a7G (l:List En) (key v:Int) (c:Nat):List En:=if (getV l key).isSome then a9G key v l else l++[⟨key,v,c⟩]
def b2A (l:List En) (key:Int) (c:Nat):Nat:=if (getV l key).isSome then c else c+1
theorem a3e (key:Int):∀ (l:List En) (i:Nat),a1L key l i=(a1L key l 0).map fun y=>(i+y.1,y.2)
 | [],_=>rfl
 | x::r,i=>by
  by_cases h:key=x.k
  ·simp [a1L,h]
  ·simp only [a1L,if_neg h];rw [a3e key r (i+1),a3e key r (0+1),Option.map_map];congr 1;funext y;simp only [Function.comp];rw [show i+(0+1+y.1)=i+1+y.1 by omega]
theorem a4V (key:Int):getV [] key=none:=rfl
theorem V0 (x:En) (r:List En) (key:Int):getV (x::r) key=if key=x.k then some x.v else getV r key:=by
 unfold getV;by_cases h:key=x.k
 ·simp [a1L,h]
 ·simp only [a1L,if_neg h];rw [a3e key r (0+1),Option.map_map];rfl
theorem b1i (key k v:Int) (c:Nat):∀ l:List En,getV (l++[⟨k,v,c⟩]) key=(getV l key).or (if key=k then some v else none)
 | []=>by rw [List.nil_append,V0,a4V];rfl
 | x::r=>by
  rw [List.cons_append,V0,V0];split
  ·rfl
  ·exact b1i key k v c r
theorem b1j (key v k:Int):∀ l:List En,(getV l key).isSome=true→getV (a9G key v l) k=if k=key then some v else getV l k
 | [],h=>by cases h
 | x::r,h=>by
  rw [V0] at h;rw [a9G];by_cases hx:key=x.k
  ·rw [if_pos hx,V0,V0];by_cases hk:k=key
   ·rw [if_pos hk,if_pos hk]
   ·rw [if_neg hk,if_neg hk,if_neg (by rw [← hx];exact hk)]
  ·rw [if_neg hx] at h ⊢;rw [V0,V0,b1j key v k r h];by_cases hk:k=key
   ·subst hk;rw [if_neg hx,if_pos rfl,if_pos rfl]
   ·simp only [if_neg hk]
theorem a7H (l:List En) (key v:Int) (c:Nat) (k:Int):getV (a7G l key v c) k=if k=key then some v else getV l k:=by
 unfold a7G;split
 ·rename_i h;exact b1j key v k l h
 ·rename_i h;rw [b1i];by_cases hk:k=key
  ·have:getV l key=none:=by cases e:getV l key with | none=>rfl | some _=>rw [e] at h;exact absurd rfl h
   subst hk;rw [this,if_pos rfl];rfl
  ·rw [if_neg hk,if_neg hk];cases getV l k<;>rfl
theorem a8P {key:Int}:∀ {l:List En},(∀ x∈l,x.k≠key)→getV l key=none
 | [],_=>rfl
 | x::r,h=>by rw [V0,if_neg (fun e=>h x (List.mem_cons_self ..) e.symm)];exact a8P fun y hy=>h y (List.mem_cons_of_mem _ hy)
theorem b1k {l:List En} {key v:Int} {c:Nat} (h:getV l key=none):a7G l key v c=l++[⟨key,v,c⟩]∧b2A l key c=c+1:=by
 unfold a7G b2A;rw [h];exact ⟨rfl,rfl⟩
theorem a0N (qk qe:IntKind) (key:Int):∀ (l:List En) (i:Nat),Instr.findNow (.int qk) (.int qk key) (l.map (enE qk qe)) i=some ((a1L key l i).map fun y=>(y.1,Value.int qe y.2))
 | [],_=>rfl
 | x::r,i=>by
  by_cases h:key=x.k
  ·simp [Instr.findNow,Instr.sameNow,enE,a1L,h]
  ·have hb:(key==x.k)=false:=by simp [h]
   simp only [List.map_cons,Instr.findNow,Instr.sameNow,enE,if_true,hb,a1L,if_neg h];exact a0N qk qe key r (i+1)
theorem a7I {qk qe:IntKind} {key:Int}:∀ {l:List En} {i:Nat} {u:Int},a1L key l 0=some (i,u)→(l.map (enE qk qe))[i]?.map (·.key)=some (.int qk key) ∧
   (∀ v:Int,(l.map (enE qk qe)).modify i (fun e=>{ e with key:=.int qk key,val:=.int qe v })=(a9G key v l).map (enE qk qe))∧(l.map (enE qk qe)).eraseIdx i=(a4U key l).map (enE qk qe)
 | [],_,_,h=>by cases h
 | x::r,i,u,h=>by
  by_cases hk:key=x.k
  ·simp only [a1L,if_pos hk] at h;injection h with h;injection h with h1 h2;subst h1;refine ⟨by simp [enE,hk],fun v=>?_,?_⟩
   ·simp [a9G,hk,enE]
   ·simp [a4U,hk]
  ·simp only [a1L,if_neg hk] at h;rw [a3e] at h;cases hl:a1L key r 0 with
   | none=>rw [hl] at h;cases h
   | some y =>
    obtain ⟨j,u'⟩:=y;rw [hl] at h;injection h with h;injection h with h1 h2;obtain ⟨a1,a2,a3⟩:=a7I (qk:=qk) (qe:=qe) hl;have h1:i=j+1:=by omega
    subst h1;refine ⟨by simpa using a1,fun v=>?_,?_⟩
    ·rw [List.map_cons,List.modify_succ_cons,a2 v,a9G,if_neg hk,List.map_cons]
    ·rw [List.map_cons,List.eraseIdx_cons_succ,a3,a4U,if_neg hk,List.map_cons]
theorem a6E {w:World} {b:Nat} {o0:Obj} (hb:w.heap[b]?=some o0) (o:Obj):Upd w b o { w with heap:=w.heap.setIfInBounds b o } :=
 ⟨rfl,rfl,rfl,by simp,(MapKept.heap_set hb).1,(MapKept.heap_set hb).2⟩
section runs
variable {t k e:Nat} {qk qe:IntKind} {w:World} {l:List En} {c b:Nat} {key:Int}
theorem a9H (M:a1y t k e qk qe) (em:Bool):(Instr.checkKey em 10000 k (.int qk key)).run G.P w = .ok () w :=
 MapKept.run_checkKey (n:=9999) M.kt (by simp [MapKept.IsKey]) em
theorem b1l (M:a1y t k e qk qe) (ok:Bool) (hb:w.heap[b]?=some (mpO qk qe l c)) :
  (Instr.lookup t (.map (some b)) (.int qk key) ok).run G.P w = .ok (if ok then .tuple #[.int qe ((getV l key).getD 0),.bool (getV l key).isSome] else .int qe ((getV l key).getD 0)) w:=by
 have h1:=a9H (w:=w) (key:=key) M;have h2:=MapKept.run_findKey (w:=w) M.kt (a0N qk qe key l 0);have h3:(zeroValue e).run G.P w = .ok (.int qe 0) w:=by
  have hz:=M.zt;cases hi:G.P.info? e with
  | none=>rw [hi] at hz;cases hz
  | some i=>rw [hi] at hz;unfold zeroValue typeInfo;simp at hz;simp [hi,hz]
 unfold Instr.lookup getV;cases hl:a1L key l 0 with
 | none =>
  rw [hl] at h2;simp [run_underlying M.ty,MapKept.run_getObj_map hb,h1,h2,h3]
 | some y =>
  rw [hl] at h2;simp [run_underlying M.ty,MapKept.run_getObj_map hb,h1,h2]
theorem b8N (M:a1y t k e qk qe) (v:Int) (hb:w.heap[b]?=some (mpO qk qe l c)) :
  ∃ w',(Instr.mapUpdate t (.map (some b)) (.int qk key) (.int qe v)).run G.P w = .ok () w'∧Upd w b (mpO qk qe (a7G l key v c) (b2A l key c)) w':=by
 have h1:=a9H (w:=w) (key:=key) M;have h2:=MapKept.run_findKey (w:=w) M.kt (a0N qk qe key l 0);refine ⟨_,?_,a6E hb _⟩;unfold Instr.mapUpdate a7G b2A getV;cases hl:a1L key l 0 with
 | none =>
  rw [hl] at h2;simp [run_underlying M.ty,MapKept.run_getObj_map hb,h1,h2,MapKept.run_setObj_map _ hb,mpO,enE]
 | some y =>
  obtain ⟨i,u⟩:=y;rw [hl] at h2;obtain ⟨a1,a2,_⟩:=a7I (qk:=qk) (qe:=qe) hl;have hs:(Instr.keyThatStays (.int qk key) (.int qk key)).run G.P w = .ok (.int qk key) w:=by
   unfold Instr.keyThatStays;rw [show Instr.sameBits 10000 (.int qk key) (.int qk key)=true by simp [Instr.sameBits]]
   rfl
  have a2:=a2 v;have hb:w.heap[b]?=some (.map (l.map (enE qk qe)).toArray c):=hb;have hgoal:mpO qk qe (a9G key v l) c = .map ((a9G key v l).map (enE qk qe)).toArray c:=rfl;rw [← a2] at hgoal;generalize l.map (enE qk qe)=E at *;have hk:(Option.map (fun x=>x.key) E[i]?).getD (.int qk key) = .int qk key:=by rw [a1];rfl
  simp [run_underlying M.ty,MapKept.run_getObj_map hb,h1,h2,hk,hs,MapKept.run_setObj_map _ hb,hgoal]
theorem b8O (M:a1y t k e qk qe) (ty:Nat) (hb:w.heap[b]?=some (mpO qk qe l c)) :
  ∃ w',(Builtin.delete_ #[t,k] ty #[.map (some b),.int qk key]).run G.P w = .ok (.tuple #[]) w'∧Upd w b (mpO qk qe (a4U key l) c) w':=by
 have h1:=a9H (w:=w) (key:=key) M;have h2:=MapKept.run_findKey (w:=w) M.kt (a0N qk qe key l 0);refine ⟨_,?_,a6E hb _⟩;unfold Builtin.delete_;cases hl:a1L key l 0 with
 | none =>
  have hd:∀ l:List En,a1L key l 0=none→a4U key l=l:=by
   intro l
   induction l with
   | nil=>intro _;rfl
   | cons x r ih =>
    intro h;by_cases hk:key=x.k
    ·simp [a1L,hk] at h
    ·simp only [a1L,if_neg hk] at h;rw [a3e,Option.map_eq_none_iff] at h;rw [a4U,if_neg hk,ih h]
  rw [hl] at h2;simp [run_underlying M.ty,MapKept.run_getObj_map hb,h1,h2,MapKept.run_setObj_map _ hb,mpO,hd l hl]
 | some y =>
  obtain ⟨i,u⟩:=y;rw [hl] at h2;obtain ⟨_,_,a3⟩:=a7I (qk:=qk) (qe:=qe) hl;have hb:w.heap[b]?=some (.map (l.map (enE qk qe)).toArray c):=hb;have hgoal:mpO qk qe (a4U key l) c = .map ((a4U key l).map (enE qk qe)).toArray c:=rfl;rw [← a3] at hgoal;generalize l.map (enE qk qe)=E at *;simp [run_underlying M.ty,MapKept.run_getObj_map hb,h1,h2,MapKept.run_setObj_map _ hb,hgoal]
end runs
structure Itr (qk qe:IntKind) (w:World) (b r:Nat) (l:List En) (c:Nat) (rem:List En):Prop where
 hb:w.heap[b]?=some (mpO qk qe l c)
 hr:∃ seen s c0,w.heap[r]?=some (.mapIter (some b) s seen c0)∧rem=l.filter (fun x=>!seen.contains x.n)∧(∀ x∈l,x.n<s)∧s≤c0∧s≤c
 nd:(l.map (·.n)).Nodup
structure Ent (qk qe:IntKind) (w:World) (b r:Nat) (l:List En) (c:Nat) (x:En):Prop where
 hb:w.heap[b]?=some (mpO qk qe l c)
 hr:∃ (seen:Array Nat) (s:Nat),w.heap[r]?=some (.mapIter (some b) s (seen.push x.n) c)
 nd:(l.map (·.n)).Nodup
 mem:x∈l
theorem Itr.kp {qk qe:IntKind} {w w':World} {b r c:Nat} {l rem:List En} (h:Itr qk qe w b r l c rem) (h1:∀ o,w.heap[b]?=some o→w'.heap[b]?=some o) (h2:∀ o,w.heap[r]?=some o→w'.heap[r]?=some o):Itr qk qe w' b r l c rem:=by
 obtain ⟨hb,⟨seen,s,c0,hr,h3⟩,nd⟩:=h;exact ⟨h1 _ hb,⟨seen,s,c0,h2 _ hr,h3⟩,nd⟩
theorem Ent.kp {qk qe:IntKind} {w w':World} {b r c:Nat} {l:List En} {x:En} (h:Ent qk qe w b r l c x) (h1:∀ o,w.heap[b]?=some o→w'.heap[b]?=some o) (h2:∀ o,w.heap[r]?=some o→w'.heap[r]?=some o):Ent qk qe w' b r l c x:=by
 obtain ⟨hb,⟨seen,s,hr⟩,nd,hm⟩:=h;exact ⟨h1 _ hb,⟨seen,s,h2 _ hr⟩,nd,hm⟩
theorem Itr.step {qk qe:IntKind} {w w':World} {b r c:Nat} {l rem:List En} (h:Itr qk qe w b r l c rem) (hc:Cl w w'):Itr qk qe w' b r l c rem:=h.kp (fun _ h=>hc.blk h) (fun _ h=>hc.blk h)
theorem a9J {P:Nat→Bool} {l:List En} (hn:(l.map (·.n)).Nodup) {x:En} (hx:x∈l.filter fun y=>P y.n) :
  ∃ r1 r2,l.filter (fun y=>P y.n)=r1++x::r2∧l.filter (fun y=>P y.n && !(y.n==x.n))=r1++r2:=by
 obtain ⟨r1,r2,h⟩:=List.append_of_mem hx;refine ⟨r1,r2,h,?_⟩;have hn2:((l.filter fun y=>P y.n).map (·.n)).Nodup:=(List.Sublist.map _ List.filter_sublist).nodup hn;have e:l.filter (fun y=>P y.n && !(y.n==x.n))=(l.filter fun y=>P y.n).filter fun y=>!(y.n==x.n):=by
  rw [List.filter_filter];congr 1;funext y;exact Bool.and_comm _ _
 rw [e,h];rw [h,List.map_append,List.map_cons,List.nodup_append] at hn2;obtain ⟨a1,a2,a3⟩:=hn2;rw [List.nodup_cons] at a2;rw [List.filter_append,List.filter_cons];have k1:r1.filter (fun y=>!(y.n==x.n))=r1:=List.filter_eq_self.2 fun y hy=>by
  have:=a3 y.n (List.mem_map.2 ⟨y,hy,rfl⟩) x.n (List.mem_cons_self ..);simp [this]
 have k2:r2.filter (fun y=>!(y.n==x.n))=r2:=List.filter_eq_self.2 fun y hy=>by
  have:y.n≠x.n:=fun e=>a2.1 (by rw [← e];exact List.mem_map.2 ⟨y,hy,rfl⟩)
  simp [this]
 rw [k1,k2];simp
section gens
variable {t k e:Nat} {qk qe:IntKind} {w:World} {l:List En} {c b:Nat} {dst:Option Nat} {ty:Nat} {pos:String} {af:Array Edge} {gd:Option (Nat×Bool)} {env:C0} {K:Value→World→Prop}
theorem a32 {t:Nat} (h:K (.map (some w.heap.size)) (w.alloc (.map #[] 0))):L5 G.P { dst,op:=.makeMap t none,type:=ty,pos,after:=af,guard:=gd } env w K:=by
 refine ⟨.inl ⟨_,_,?_,h⟩⟩;show (do pure (Next.value (← Instr.makeMap t none)):Sem Next).run G.P w=_
 simp [Instr.makeMap]
theorem a7J (M:a1y t k e qk qe) {x:Operand} {q:IntKind} {n:Int} (hx:ev env x = .int q n) (h:K (.map (some w.heap.size)) (w.alloc (.map #[] 0))):L5 G.P { dst,op:=.makeMap t (some x),type:=ty,pos,after:=af,guard:=gd } env w K:=by
 refine ⟨.inl ⟨_,_,?_,h⟩⟩;show (do pure (Next.value (← Instr.makeMap t (some (ev env x)))):Sem Next).run G.P w=_
 rw [hx];simp [Instr.makeMap,run_underlying M.ty,asInt,asIntOf]
theorem b8P (M:a1y t k e qk qe) {m x:Operand} {key:Int} (hm:ev env m = .map (some b)) (hx:ev env x = .int qk key) (hb:w.heap[b]?=some (mpO qk qe l c)) (h:K (.tuple #[.int qe ((getV l key).getD 0),.bool (getV l key).isSome]) w) :
  L5 G.P { dst,op:=.lookup t m x true,type:=ty,pos,after:=af,guard:=gd } env w K:=by
 refine ⟨.inl ⟨_,_,?_,h⟩⟩;show (do pure (Next.value (← Instr.lookup t (ev env m) (ev env x) true)):Sem Next).run G.P w=_
 rw [hm,hx,Sem.run_bind,b1l M true hb];rfl
theorem b3M (M:a1y t k e qk qe) {m x:Operand} {key:Int} (hm:ev env m = .map (some b)) (hx:ev env x = .int qk key) (hb:w.heap[b]?=some (mpO qk qe l c)) (h:K (.int qe ((getV l key).getD 0)) w) :
  L5 G.P { dst,op:=.lookup t m x false,type:=ty,pos,after:=af,guard:=gd } env w K:=by
 refine ⟨.inl ⟨_,_,?_,h⟩⟩;show (do pure (Next.value (← Instr.lookup t (ev env m) (ev env x) false)):Sem Next).run G.P w=_
 rw [hm,hx,Sem.run_bind,b1l M false hb];rfl
theorem R9 (M:a1y t k e qk qe) {m x:Operand} {key:Int} (v:Int) (hm:ev env m = .map (some b)) (hx:ev env x = .int qk key) (hb:w.heap[b]?=some (mpO qk qe l c)) (hv:(getV l key).getD 0=v) (h:K (.int qe v) w) :
  L5 G.P { dst,op:=.lookup t m x false,type:=ty,pos,after:=af,guard:=gd } env w K:=by subst hv;exact b3M M hm hx hb h
theorem a4W (M:a1y t k e qk qe) {m x y:Operand} {key v:Int} (hm:ev env m = .map (some b)) (hx:ev env x = .int qk key) (hy:ev env y = .int qe v) (hb:w.heap[b]?=some (mpO qk qe l c))
  (h:∀ w',Upd w b (mpO qk qe (a7G l key v c) (b2A l key c)) w'→K undef w'):L5 G.P { dst,op:=.mapUpdate t m x y,type:=ty,pos,after:=af,guard:=gd } env w K:=by
 obtain ⟨w',h1,h2⟩:=b8N M (key:=key) v hb;refine ⟨.inr (.inl ⟨_,?_,h w' h2⟩)⟩;show (do Instr.mapUpdate t (ev env m) (ev env x) (ev env y);pure Next.skip:Sem Next).run G.P w=_
 rw [hm,hx,hy,Sem.run_bind,h1];rfl
theorem b3N (M:a1y t k e qk qe) {m x:Operand} {key:Int} (hm:ev env m = .map (some b)) (hx:ev env x = .int qk key) (hb:w.heap[b]?=some (mpO qk qe l c))
  (h:∀ w',Upd w b (mpO qk qe (a4U key l) c) w'→K (.tuple #[]) w'):L5 G.P { dst,op:=.call { callee:=.builtin .delete,args:=#[m,x],argTypes:=#[t,k] },type:=ty,pos,after:=af,guard:=gd } env w K:=by
 obtain ⟨w',h1,h2⟩:=b8O M (key:=key) ty hb;refine ⟨.inl ⟨_,w',?_,h w' h2⟩⟩;simp only [execOp,resolve,invoke,builtin,Sem.run_bind,Sem.run_pure,Result.andThen_ok,List.map_toArray,List.map_cons,List.map_nil,hm,hx,h1]
theorem a2c (M:a1y t k e qk qe) {m:Operand} (hm:ev env m = .map (some b)) (hb:w.heap[b]?=some (mpO qk qe l c)) (hn:(l.map (·.n)).Nodup) (hc:∀ x∈l,x.n<c)
  (h:∀ w',Cl w w'→w'.heap.size=w.heap.size+1→Itr qk qe w' b w.heap.size l c l→K (.pointer (some ⟨w.heap.size,0,none⟩)) w'):L5 G.P { dst,op:=.range t m,type:=ty,pos,after:=af,guard:=gd } env w K:=by
 have h1:=run_range_map (P:=G.P) w t k e b _ _ M.ty hb;refine ⟨.inl ⟨_,_,?_,h _ (Cl.alloc w _) (y9 _ _) ⟨(Cl.alloc w _).blk hb,⟨#[],c,c,q8 _ _,(List.filter_eq_self.2 (fun x _=>by simp)).symm,hc,Nat.le_refl _,Nat.le_refl _⟩,hn⟩⟩⟩
 show (do pure (Next.value (← Instr.range t (ev env m))):Sem Next).run G.P w=_
 rw [hm,Sem.run_bind,h1];rfl
theorem a3f {it:Operand} {r:Nat} {rem:List En} (hit:ev env it = .pointer (some ⟨r,0,none⟩)) (hI:Itr qk qe w b r l c rem)
  (h0:rem=[]→K (.tuple #[.bool false]) w)
  (h1:∀ r1 x r2 w',rem=r1++x::r2→Tn r w w'→Itr qk qe w' b r l c (r1++r2)→Ent qk qe w' b r l c x→K (.tuple #[.bool true,.int qk x.k,.int qe x.v]) w') :
  L5 G.P { dst,op:=.next it false,type:=ty,pos,after:=af,guard:=gd } env w K:=by
 obtain ⟨hb,⟨seen,s,c0,hr,hrem,hold,hs,hsc⟩,nd⟩:=hI;have hmem:∀ x∈(l.map (enE qk qe)).toArray.toList,x.born<s:=fun x hx=>by
  obtain ⟨y,hy,rfl⟩:=List.mem_map.1 (by simpa using hx)
  exact hold y hy
 have hleft:(leftOf (l.map (enE qk qe)).toArray seen).toList=rem.map (enE qk qe):=by
  rw [hrem];simp only [leftOf,List.filter_toArray,List.filter_map];rfl
 have hne:r≠b:=fun e=>by rw [e,hb] at hr;cases hr
 rcases run_next_at (P:=G.P) w ty r b s c0 seen _ c hr hb hmem hs with ⟨hz,hrun⟩ | ⟨y,hy,w1,hw1,hrun⟩
 ·have:rem=[]:=by
   have:=congrArg List.length hleft;rw [Array.length_toList,hz,List.length_map] at this;exact List.length_eq_zero_iff.1 this.symm
  refine ⟨.inl ⟨_,_,?_,h0 this⟩⟩;show (do pure (Next.value (← Instr.next (ev env it) false ty)):Sem Next).run G.P w=_
  rw [hit,Sem.run_bind,hrun];rfl
 ·rw [hleft] at hy;obtain ⟨x,hx,rfl⟩:=List.mem_map.1 hy;have hx2:=hx;rw [hrem] at hx2;obtain ⟨r1,r2,e1,e2⟩:=a9J (P:=fun n=>!seen.contains n) nd hx2;have hr1:w1.heap[r]?=some (.mapIter (some b) s seen c0):=by rcases hw1 with rfl | rfl<;>exact hr
  have hb1:w1.heap[b]?=some (mpO qk qe l c):=by rcases hw1 with rfl | rfl<;>exact hb
  have u:=a6E hr1 (.mapIter (some b) s (seen.push x.n) c);have tn:Tn r w (ChangeMaps.setBlock w1 r (.mapIter (some b) s (seen.push x.n) c)):=by
   have t1:Tn r w w1:=by
    rcases hw1 with rfl | rfl
    ·exact Tn.refl _ _
    ·exact Tn.cl (Cl.drew (Cl.refl _))
   exact t1.trans (Tn.upd u)
  refine ⟨.inl ⟨_,_,?_,h1 r1 x r2 _ (hrem.trans e1) tn ⟨(Tn.upd u).blk hb1 (Ne.symm hne),⟨seen.push x.n,s,c,u.at_,?_,hold,hsc,hsc⟩,nd⟩ ⟨(Tn.upd u).blk hb1 (Ne.symm hne),⟨seen,s,u.at_⟩,nd,(List.mem_filter.1 hx2).1⟩⟩⟩
  ·show (do pure (Next.value (← Instr.next (ev env it) false ty)):Sem Next).run G.P w=_
   rw [hit,Sem.run_bind,hrun];rfl
  ·rw [← e2];congr 1;funext y;by_cases h:y.n=x.n<;>simp [Array.contains_push,h]
theorem a2d {it:Operand} {r:Nat} {x:En} (hit:ev env it = .pointer (some ⟨r,0,none⟩)) (hE:Ent qk qe w b r l c x) (h:K (.tuple #[.int qk x.k,.int qe x.v]) w) :
  L5 G.P { dst,op:=.entry it,type:=ty,pos,after:=af,guard:=gd } env w K:=by
 obtain ⟨hb,⟨seen,s,hr⟩,nd,hm⟩:=hE;have h1:=run_entry_at (P:=G.P) w r b s seen _ c (enE qk qe x) hr hb (by simpa using List.mem_map.2 ⟨x,hm,rfl⟩) (by
  have e:((l.map (enE qk qe)).toArray.toList.map (·.born))=l.map (·.n):=by simp [enE,Function.comp_def]
  rw [e];exact nd)
 refine ⟨.inl ⟨_,_,?_,h⟩⟩;show (do pure (Next.value (← Instr.entry (ev env it))):Sem Next).run G.P w=_
 rw [hit,Sem.run_bind,h1];rfl
end gens
end
section
open Go Go.RowKit
open E
open Ch Bb
theorem mSP:a1y 271 138 194 .i8 .i8:=a7F zk
theorem mPI:a1y 287 139 3 .i8 .i64:=a7F zk
def enG (g:Nat→Int) (c0:Nat):Nat→List En
 | 0=>[]
 | n+1=>if g n=0 then enG g c0 n else enG g c0 n++[⟨n,g n,c0+(enG g c0 n).length⟩]
theorem a33 (g:Nat→Int) (c0:Nat):∀ n,∀ x∈enG g c0 n,∃ i:Nat,i<n∧x.k=(i:Int)∧x.v=g i∧g i≠0
 | 0,x,h=>by cases h
 | n+1,x,h=>by
  rw [enG] at h;split at h
  ·obtain ⟨i,hi,h2⟩:=a33 g c0 n x h;exact ⟨i,zo,h2⟩
  ·rename_i h0;rcases List.mem_append.1 h with h | h
   ·obtain ⟨i,hi,h2⟩:=a33 g c0 n x h;exact ⟨i,zo,h2⟩
   ·rw [List.mem_singleton.1 h];exact ⟨n,zo,rfl,rfl,h0⟩
theorem b3O (g:Nat→Int) (c0:Nat):∀ n i:Nat,i<n→g i≠0→∃ x∈enG g c0 n,x.k=(i:Int)
 | n+1,i,hi,h0=>by
  rw [enG];by_cases e:i=n
  ·subst e;rw [if_neg h0];exact ⟨_,List.mem_append_right _ (List.mem_singleton.2 rfl),rfl⟩
  ·obtain ⟨x,hx,h2⟩:=b3O g c0 n i zo h0;split
   ·exact ⟨x,hx,h2⟩
   ·exact ⟨x,List.mem_append_left _ hx,h2⟩
theorem b3P (g:Nat→Int) (c0 n:Nat):getV (enG g c0 n) (n:Int)=none:=a8P fun x hx=>by
 obtain ⟨i,hi,e,_⟩:=a33 g c0 n x hx;rw [e];omega
theorem a34 (g:Nat→Int) (c0:Nat):∀ n,(enG g c0 n).map (·.n)=List.range' c0 (enG g c0 n).length
 | 0=>rfl
 | n+1=>by
  rw [enG];split
  ·exact a34 g c0 n
  ·rw [List.map_append,a34 g c0 n,List.length_append,List.length_singleton,List.range'_concat];simp
theorem b2B (g:Nat→Int) (c0 n:Nat):((enG g c0 n).map (·.n)).Nodup:=by rw [a34];exact List.nodup_range'
theorem b2C (g:Nat→Int) (c0 n:Nat):∀ x∈enG g c0 n,x.n<c0+(enG g c0 n).length:=fun x hx=>by
 have:x.n∈(enG g c0 n).map (·.n):=List.mem_map.2 ⟨x,hx,rfl⟩;rw [a34,List.mem_range'_1] at this;exact this.2
theorem a7K (g:Nat→Int) (c0:Nat):∀ n,((enG g c0 n).map (·.k)).Nodup
 | 0=>List.nodup_nil
 | n+1=>by
  rw [enG];split
  ·exact a7K g c0 n
  ·rw [List.map_append,List.nodup_append];refine ⟨a7K g c0 n,by simp,fun a ha b hb=>?_⟩
   obtain ⟨x,hx,rfl⟩:=List.mem_map.1 ha;obtain ⟨i,hi,e,_⟩:=a33 g c0 n x hx;simp only [List.map_cons,List.map_nil,List.mem_singleton] at hb;rw [e,hb];omega
theorem a59 (g:Nat→Int) (c0:Nat) (P:Int→Int→Bool):∀ n,(enG g c0 n).countP (fun x=>P x.k x.v)=cntN (fun i=>!decide (g i=0)&&P i (g i)) n
 | 0=>rfl
 | n+1=>by
  rw [enG,cntN];by_cases h0:g n=0
  ·rw [if_pos h0,a59 g c0 P n];simp [h0]
  ·rw [if_neg h0,List.countP_append,a59 g c0 P n];simp [h0,List.countP_cons]
theorem b1m (g:Nat→Int) (c0 n:Nat):∀ k,(∀ i,n≤i→i<n+k→g i=0)→enG g c0 (n+k)=enG g c0 n
 | 0,_=>rfl
 | k+1,h=>by
  rw [← Nat.add_assoc,enG,if_pos (h (n+k) zo zo)];exact b1m g c0 n k fun i h1 h2=>h i h1 zo
def sqE (p:A3) (n:Nat):List En:=enG (fun i=>sq p i) 0 n
theorem b8Q (p:A3) (n:Nat):∀ x∈sqE p n,∃ i:Nat,i<n∧x.k=(i:Int)∧x.v=sq p i∧sq p i≠0:=a33 _ _ n
theorem b8R (p:A3) (n:Nat):getV (sqE p n) (n:Int)=none:=b3P _ _ n
theorem c0R (p:A3) (n:Nat):((sqE p n).map (·.n)).Nodup:=b2B _ _ n
theorem c0S (p:A3) (n:Nat):∀ x∈sqE p n,x.n<(sqE p n).length:=fun x hx=>by have:=b2C _ 0 n x hx;rwa [Nat.zero_add] at this
theorem a2e (p:A3) (P:Int→Int→Bool) (n:Nat):(sqE p n).countP (fun x=>P x.k x.v)=cntN (fun i=>!decide (sq p i=0)&&P i (sq p i)) n:=a59 _ 0 P n
theorem b1n (p:A3) (n:Nat):sqE p (n+1)=if sq p n=0 then sqE p n else sqE p n++[⟨n,sq p n,(sqE p n).length⟩]:=by
 unfold sqE;rw [enG,Nat.zero_add]
theorem a9K (f:Nat→Bool):∀ n,cntN f n≤n
 | 0=>Nat.le_refl _
 | n+1=>by rw [cntN];have:=a9K f n;split<;>omega
theorem b8S (i:Nat) (hi:i<64) (w:World):Calls G.P 251 #[.int .i8 i] w (D5 (.int .i8 (if (l9 i+g8 i)%2=0 then 2 else 1)) w):=by
 have e1:IntKind.i8.wrap ((i:Int).tdiv 8)=((i/8:Nat):Int):=by rw [show ((i:Int).tdiv 8)=((i/8:Nat):Int) from rfl];exact V3 zo zo
 refine zN Tryz.func251 ?_;refine zR ?_;rw [e1];apply E.b7<;>intro h
 ·have h:(((i/8:Nat):Int).tmod 2)=((i:Int).tmod 2):=h;have h2:(i/8)%2=i%2:=by
   have e2:(((i/8:Nat):Int).tmod 2)=((i/8%2:Nat):Int):=rfl;have e3:((i:Int).tmod 2)=((i%2:Nat):Int):=rfl;rw [e2,e3] at h;omega
  rw [if_pos (by unfold l9 g8;omega)]
  refine zR ?_;exact ⟨rfl,rfl⟩
 ·have h:¬ (((i/8:Nat):Int).tmod 2)=((i:Int).tmod 2):=h;have h2:¬ (i/8)%2=i%2:=by
   have e2:(((i/8:Nat):Int).tmod 2)=((i/8%2:Nat):Int):=rfl;have e3:((i:Int).tmod 2)=((i%2:Nat):Int):=rfl;rw [e2,e3] at h;omega
  rw [if_neg (by unfold l9 g8;omega)]
  refine zR ?_;exact ⟨rfl,rfl⟩
theorem b1o {p:A3} (hp:∀ i:Int,0≤sq p i∧sq p i≤12) {b t:Nat} {fz:Nat×Nat} (w:World) (hT:C1 w) (hb:w.heap[b]?=some (.cells (mbA (mbOf p)) t fz)) :
  Calls G.P 250 #[.pointer (some ⟨b,0,none⟩)] w (fun r w'=>Cl w w'∧∃ m,r = .returned (.map (some m))∧w.heap.size≤m∧w'.heap[m]?=some (mpO .i8 .i8 (sqE p 64) (sqE p 64).length)):=by
 refine zN Tryz.func250 ?_;refine zR ?_;refine a32 ?_;have ca:=Cl.alloc w (.map #[] 0);have na:(w.alloc (.map #[] 0)).heap[w.heap.size]?=some (mpO .i8 .i8 (sqE p 0) (sqE p 0).length):=q8 w (.map #[] 0);generalize w.alloc (.map #[] 0)=w1 at *;refine zR ?_;refine A9 (σ:=Nat) [4,5,7] 8 (fun i=>[(7,.int .i64 i)]) (fun i w'=>i≤64∧Cl w w'∧w'.heap[w.heap.size]?=some (mpO .i8 .i8 (sqE p i) (sqE p i).length)) (fun i=>64-i) zk 0 ⟨zo,ca,na⟩ ⟨rfl,trivial⟩ ?_;rintro i j w2 ⟨hi,c2,hm⟩;have ni:=C2 (i:=i) zo;refine zR ?_;apply E.b7<;>intro h
 ·have hi2:i<64:=by omega
  clear h;have ei:IntKind.i8.wrap (i:Int)=(i:Int):=V3 zo zo;have hpi:=T8 hp hi2;refine zR ?_;rw [ei];refine d9 (W2 (mbOf p) b i hi2 w2 (hT.cl c2) (c2.blk hb)) ?_;rw [hpi];refine zR ?_;apply E.r9<;>intro h
  ·have h0:¬ sq p i=0:=h;refine zR ?_;rw [ei];refine a4W mSP rfl rfl rfl hm fun w3 u3=>zR ?_;refine ⟨i+1,⟨m7 ni,trivial⟩,⟨zo,u3.cl c2 (Nat.le_refl _),?_⟩,zo⟩;obtain ⟨e1,e2⟩:=b1k (v:=sq p i) (c:=(sqE p i).length) (b8R p i);rw [u3.at_,e1,e2,b1n,if_neg h0,List.length_append];rfl
  ·have h0:sq p i=0:=h;refine zR ?_;refine ⟨i+1,⟨m7 ni,trivial⟩,⟨zo,c2,?_⟩,zo⟩;rw [hm,b1n,if_pos h0]
 ·have e:i=64:=by omega
  subst e;refine zR ?_;exact ⟨c2,_,rfl,Nat.le_refl _,hm⟩
theorem c0T {p:A3} (hp:∀ i:Int,0≤sq p i∧sq p i≤12):(0:Int)<(((mbOf p).f 1 ||| (mbOf p).f 2 ||| (mbOf p).f 5 ||| (mbOf p).f 7 ||| (mbOf p).f 8 ||| (mbOf p).f 11:Nat):Int)
  ↔ anyN (fun i=>decide (kindOf (sq p i)=2)||decide (kindOf (sq p i)=3)||decide (kindOf (sq p i)=6)) 64=true:=by
 have e:(mbOf p).f 1 ||| (mbOf p).f 2 ||| (mbOf p).f 5 ||| (mbOf p).f 7 ||| (mbOf p).f 8 ||| (mbOf p).f 11=bb (fun s=>decide (kindOf (sq p s)=2)||decide (kindOf (sq p s)=3)||decide (kindOf (sq p s)=6)):=by
  rw [a0d p 1 zd,a0d p 2 zd,a0d p 5 zd,a0d p 7 zd,a0d p 8 zd,a0d p 11 zd];unfold bbf;rw [a0D,a0D,a0D,a0D,a0D];refine a01 fun s _=>?_;have h:=hp s;show (decide (sq p s=2)||decide (sq p s=3)||decide (sq p s=6)||decide (sq p s=8)||decide (sq p s=9)||decide (sq p s=12))=_
  generalize sq p s=x at *;rcases (by omega:x=0∨x=1∨x=2∨x=3∨x=4∨x=5∨x=6∨x=7∨x=8∨x=9∨x=10∨x=11∨x=12) with rfl | rfl | rfl | rfl | rfl | rfl | rfl | rfl | rfl | rfl | rfl | rfl | rfl<;>rfl
 rw [e];constructor
 ·intro h;cases ha:anyN (fun i=>decide (kindOf (sq p i)=2)||decide (kindOf (sq p i)=3)||decide (kindOf (sq p i)=6)) 64 with
  | true=>rfl
  | false =>
   have:bb (fun s=>decide (kindOf (sq p s)=2)||decide (kindOf (sq p s)=3)||decide (kindOf (sq p s)=6))=0:=(a61 _).2 fun s hs=>by
    cases hx:(decide (kindOf (sq p s)=2)||decide (kindOf (sq p s)=3)||decide (kindOf (sq p s)=6)) with
    | false=>rfl
    | true=>rw [a3m hs hx] at ha;cases ha
   rw [this] at h;exact absurd h zd
 ·intro h;obtain ⟨s,hs,hx⟩:=(a2H _ _).1 h;rcases Nat.eq_zero_or_pos (bb (fun s=>decide (kindOf (sq p s)=2)||decide (kindOf (sq p s)=3)||decide (kindOf (sq p s)=6))) with e0 | e0
  ·have:=(a61 _).1 e0 s hs;rw [hx] at this;cases this
  ·omega
theorem b3Q {p:A3} (hI:B7 p) {c:Int} (hc:c=0∨c=1) {i:Nat} (hi:i<12) (hx:(i:Int)+1=1+6*c):¬ (((mbOf p).f i:Nat):Int)=0:=by
 intro e;have e:(mbOf p).f i=0:=by omega
 rw [a0d p i hi] at e;unfold bbf at e;obtain ⟨k0,k1,e2,_⟩:=hI.king c hc;have:decide (sq p ((kingAt p c).toNat:Int)=(i:Int)+1)=false:=(a61 _).1 e (kingAt p c).toNat zo;rw [Int.toNat_of_nonneg k0,hx,decide_eq_true e2] at this;cases this
set_option maxHeartbeats 1000000 in
theorem b6X {p:A3} (hI:B7 p) (b:Nat):c0Q p b:=by
 intro w hT hb;rw [← b6K];have hp:=hI.pc;have hbig:=c0T hp;have hk0:=b3Q hI (.inl rfl) (i:=0) zd rfl;have hk6:=b3Q hI (.inr rfl) (i:=6) zd rfl;have hSM:=fun w (hT:C1 w) hb=>b1o hp (b:=b) (t:=237) (fz:=(0,0)) w hT hb;have hS:suffM p=if anyN (fun i=>decide (kindOf (sq p i)=2)||decide (kindOf (sq p i)=3)||decide (kindOf (sq p i)=6)) 64 then true
  else
   let n:=cntN (fun i=>decide (kindOf (sq p i)=5)) 64;let b:=cntN (fun i=>decide (kindOf (sq p i)=4)) 64;let b0:=cntN (fun i=>decide (kindOf (sq p i)=4)&&decide ((l9 i+g8 i)%2=0)) 64;let b1:=cntN (fun i=>decide (kindOf (sq p i)=4)&&decide ((l9 i+g8 i)%2=1)) 64
   if b=0∧n=0 then false else if b=1∧n=0 then false else if b=0∧n=1 then false
   else if n=0 then (if b1=0∨b0=0 then false else true) else true:=rfl
 have hzero:∀ t:Int,t≠0→∀ P:Int→Bool,cntN (fun i=>!decide (sq p i=0)&&(decide (kindOf (sq p i)=t)&&P i)) 64=cntN (fun i=>decide (kindOf (sq p i)=t)&&P i) 64:=fun t ht P=>a8H 64 fun i _=>by
  by_cases h:sq p i=0
  ·rw [h];rw [decide_eq_false (show ¬ kindOf 0=t from fun e=>ht e.symm)];rfl
  ·simp [h]
 have h5:((sqE p 64).countP fun x=>decide (kindOf x.v=5))=cntN (fun i=>decide (kindOf (sq p i)=5)) 64:=by
  have:=hzero 5 zd (fun _=>true);simp only [Bool.and_true] at this;rw [← this];exact a2e p (fun _ v=>decide (kindOf v=5)) 64
 have h4:((sqE p 64).countP fun x=>decide (kindOf x.v=4))=cntN (fun i=>decide (kindOf (sq p i)=4)) 64:=by
  have:=hzero 4 zd (fun _=>true);simp only [Bool.and_true] at this;rw [← this];exact a2e p (fun _ v=>decide (kindOf v=4)) 64
 have h40:((sqE p 64).countP fun x=>decide (kindOf x.v=4)&&decide ((l9 x.k+g8 x.k)%2=0))=cntN (fun i=>decide (kindOf (sq p i)=4)&&decide ((l9 i+g8 i)%2=0)) 64:=by
  rw [← hzero 4 zd (fun i=>decide ((l9 i+g8 i)%2=0))];exact a2e p (fun k v=>decide (kindOf v=4)&&decide ((l9 k+g8 k)%2=0)) 64
 have h41:((sqE p 64).countP fun x=>decide (kindOf x.v=4)&&decide ((l9 x.k+g8 x.k)%2=1))=cntN (fun i=>decide (kindOf (sq p i)=4)&&decide ((l9 i+g8 i)%2=1)) 64:=by
  rw [← hzero 4 zd (fun i=>decide ((l9 i+g8 i)%2=1))];exact a2e p (fun k v=>decide (kindOf v=4)&&decide ((l9 k+g8 k)%2=1)) 64
 have l5:=a9K (fun i=>decide (kindOf (sq p i)=5)) 64;have l4:=a9K (fun i=>decide (kindOf (sq p i)=4)) 64;have hnd:=c0R p 64;have hlt:=c0S p 64;have hmem:∀ x∈sqE p 64,∃ i:Nat,i<64∧x.k=(i:Int)∧0≤x.v∧x.v≤12:=fun x hx=>by
  obtain ⟨i,hi,e1,e2,_⟩:=b8Q p 64 x hx;exact ⟨i,hi,e1,by rw [e2];exact (hp i).1,by rw [e2];exact (hp i).2⟩
 have hlen:(sqE p 64).length≤64:=by
  have:=a2e p (fun _ _=>true) 64;simp only [List.countP_true] at this;rw [this];exact a9K _ 64
 rw [← h5,← h4,← h40,← h41] at hS;clear h5 h4 h40 h41 l5 l4 hzero;have hok:(mbOf p).Ok:=inferInstance;generalize (sqE p 64)=l at *;generalize mbOf p=B at *;generalize anyN (fun i=>decide (kindOf (sq p i)=2)||decide (kindOf (sq p i)=3)||decide (kindOf (sq p i)=6)) 64=A at *
 generalize suffM p=V at *;have hB:=hb;refine zN Tryz.func198 ?_;refine zR ?_;refine zK 30 ?_;refine zQ ?_;intro w1 c1;refine zR ?_;apply E.b7<;>intro h
 ·have hA:=hbig.1 h;rw [if_pos hA] at hS;refine zR ?_;exact ⟨m8 hS.symm,c1⟩
 have hA:¬ A=true:=fun e=>h (hbig.2 e);rw [if_neg hA] at hS;simp only at hS;clear h hbig hA;have hB:=c1.blk hb;refine zB ?_;refine E.o7 hk0 (zB ?_);refine E.o7 hk6 (zR ?_);repeat (refine E.o7 hk0 ?_;refine zR ?_)
 repeat (refine E.o7 hk6 ?_;refine zR ?_)
 refine a32 ?_;have c2:=c1.trans (Cl.alloc w1 (.map #[] 0));have nC:(w1.alloc (.map #[] 0)).heap[w1.heap.size]?=some (mpO .i8 .i64 [] 0):=q8 w1 (.map #[] 0);have s1:=c1.size;have s2:=y9 w1 (.map #[] 0);obtain ⟨C,hC⟩:∃ C,C=w1.heap.size:=⟨_,rfl⟩;rw [← hC] at nC ⊢;generalize w1.alloc (.map #[] 0)=w2 at *;refine zR ?_;refine o8 (hSM w2 (hT.cl c2) (c2.blk hb)) ?_;rintro e w3 ⟨c3,m,rfl,sm,hm⟩;refine ⟨_,rfl,?_⟩;have nC3:=c3.blk nC;have c03:=c2.trans c3;have hml:=N2 hm;refine zR ?_;refine a2c mSP rfl hm hnd hlt fun w4 c4 s4 hI4=>?_;have nC4:=c4.blk nC3;have c04:=c03.trans c4;have hCm:C≠m:=by omega
 have hCr:C≠w3.heap.size:=by omega
 have hmr:m≠w3.heap.size:=by omega
 have h0r:w.heap.size≤w3.heap.size:=c03.size;have h0C:w.heap.size≤C:=by omega
 generalize w3.heap.size=r at *;refine zR ?_;refine A9 (σ:=List En×List En×Nat) [6] 58 (fun _=>[]) (fun s w'=>Cl w w'∧Itr .i8 .i8 w' m r l l.length s.1∧w'.heap[C]?=some (mpO .i8 .i64 s.2.1 s.2.2)∧(∀ x∈s.1,x∈l)∧(∀ t:Int,0≤(getV s.2.1 t).getD 0)∧∀ t:Int,(getV s.2.1 t).getD 0+(s.1.countP fun x=>decide (kindOf x.v=t):Nat)=(l.countP fun x=>decide (kindOf x.v=t):Nat)) (fun s=>s.1.length) zk
  (l,[],0) ⟨c04,hI4,nC4,fun x hx=>hx,fun t=>by rw [a4V];simp,fun t=>by rw [a4V];simp⟩ trivial ?_
 rintro ⟨rem,cm,cc⟩ j w5 ⟨c5,hI5,nC5,hsub,hnn,hcnt⟩;simp only at c5 hI5 nC5 hsub hnn hcnt ⊢;refine zR ?_;refine a3f rfl hI5 (fun e=>?_) (fun r1 x r2 w6 e n6 hI6 hE=>?_);rotate_left
 ·subst e;have hxl:x∈l:=hsub x (by simp)
  obtain ⟨i,hi,ek,v0,v1⟩:=hmem x hxl;have hx:=hcnt (kindOf x.v);have hb1:(l.countP fun y=>decide (kindOf y.v=kindOf x.v))≤l.length:=List.countP_le_length;have hb2:1≤((r1++x::r2).countP fun y=>decide (kindOf y.v=kindOf x.v)):=by
   rw [List.countP_append,List.countP_cons];simp;omega
  have hz:=hnn (kindOf x.v);have hcb:IntKind.i64.wrap ((getV cm (kindOf x.v)).getD 0+1)=(getV cm (kindOf x.v)).getD 0+1:=g7 zo zo;have c6:=n6.toCl c5 h0r;have nC6:=n6.blk nC5 hCr;refine zR ?_;refine a2d rfl hE (zR ?_);refine d9 (a0C x.v v0 v1 _) (zR ?_);refine b3M mPI rfl rfl nC6 (zR ?_);rw [hcb];refine a4W mPI rfl rfl rfl nC6 fun w7 u7=>zR ?_;refine ⟨(r1++r2,a7G cm (kindOf x.v) ((getV cm (kindOf x.v)).getD 0+1) cc,b2A cm (kindOf x.v) cc),trivial,⟨u7.cl c6 h0C,hI6.kp (fun o h=>(Tn.upd u7).blk h (Ne.symm hCm)) (fun o h=>(Tn.upd u7).blk h (Ne.symm hCr)),u7.at_,fun y hy=>hsub y ?_,fun t=>?_,fun t=>?_⟩,by simp⟩
  ·rcases List.mem_append.1 hy with hy | hy
   ·exact List.mem_append_left _ hy
   ·exact List.mem_append_right _ (List.mem_cons_of_mem _ hy)
  ·show 0≤(getV (a7G cm (kindOf x.v) ((getV cm (kindOf x.v)).getD 0+1) cc) t).getD 0;rw [a7H];split
   ·simp only [Option.getD_some];omega
   ·exact hnn t
  ·have ht:=hcnt t;show (getV (a7G cm (kindOf x.v) ((getV cm (kindOf x.v)).getD 0+1) cc) t).getD 0+((r1++r2).countP fun x=>decide (kindOf x.v=t):Nat)=_;rw [a7H];simp only [List.countP_append,List.countP_cons] at ht ⊢;by_cases e:t=kindOf x.v
   ·subst e;rw [if_pos rfl];simp only [decide_true,if_true] at ht;simp only [Option.getD_some];omega
   ·rw [if_neg e];have e':decide (kindOf x.v=t)=false:=decide_eq_false (Ne.symm e);simp only [e',Bool.false_eq_true,if_false] at ht;omega
 ·subst e;have h4:=hcnt 4;have h5:=hcnt 5;simp only [List.countP_nil,Int.natCast_zero,Int.add_zero] at h4 h5;have hm5:=hI5.hb;clear hI5 hsub hnn hcnt hSM hk0 hk6 hB;generalize (l.countP fun x=>decide (kindOf x.v=5))=nn at *;generalize (l.countP fun x=>decide (kindOf x.v=4))=nb at *;refine zR ?_;by_cases y0:(nn:Int)=0
  ·have hn:nn=0:=by omega
   by_cases z0:(nb:Int)=0
   ·have hS:V=false:=by rw [hS,if_pos ⟨zo,hn⟩]
    (repeat (first | (refine R9 mPI _ rfl rfl nC5 h4 ?_;refine zR ?_) | (refine R9 mPI _ rfl rfl nC5 h5 ?_;refine zR ?_) | (refine E.D4 z0 ?_;refine zR ?_) | (refine E.D4 y0 ?_;refine zR ?_)))
    exact ⟨m8 hS.symm,c5⟩
   ·rw [if_neg zo] at hS;by_cases z1:(nb:Int)=1
    ·have hS:V=false:=by rw [hS,if_pos ⟨zo,hn⟩]
     (repeat (first | (refine R9 mPI _ rfl rfl nC5 h4 ?_;refine zR ?_) | (refine R9 mPI _ rfl rfl nC5 h5 ?_;refine zR ?_) | (refine E.o7 z0 ?_;refine zR ?_) | (refine E.D4 z1 ?_;refine zR ?_) | (refine E.D4 y0 ?_;refine zR ?_)))
     exact ⟨m8 hS.symm,c5⟩
    ·rw [if_neg zo,if_neg zo,if_pos hn] at hS;(repeat (first | (refine R9 mPI _ rfl rfl nC5 h4 ?_;refine zR ?_) | (refine R9 mPI _ rfl rfl nC5 h5 ?_;refine zR ?_) | (refine E.o7 z0 ?_;refine zR ?_) | (refine E.o7 z1 ?_;refine zR ?_) | (refine E.D4 y0 ?_;refine zR ?_)))
     clear nC5 h4 h5 y0 z0 z1 hn;have w1l:(l.countP fun x=>decide (kindOf x.v=4)&&decide ((l9 x.k+g8 x.k)%2=1))≤l.length:=List.countP_le_length;have w0l:(l.countP fun x=>decide (kindOf x.v=4)&&decide ((l9 x.k+g8 x.k)%2=0))≤l.length:=List.countP_le_length;refine a2c mSP rfl hm5 hnd hlt fun w6 c6 s6 hI6=>?_;have c06:=c5.trans c6;have h0r2:w.heap.size≤w5.heap.size:=c5.size;generalize w5.heap.size=r' at *;refine zR ?_;refine A9 (σ:=List En×Nat×Nat) [7,8,9,10] 96 (fun s=>[(7,.int .i64 s.2.1),(8,.int .i64 s.2.2)]) (fun s w'=>Cl w w'∧Itr .i8 .i8 w' m r' l l.length s.1∧(∀ x∈s.1,x∈l)∧s.2.1+(s.1.countP fun x=>decide (kindOf x.v=4)&&decide ((l9 x.k+g8 x.k)%2=1))=(l.countP fun x=>decide (kindOf x.v=4)&&decide ((l9 x.k+g8 x.k)%2=1))∧s.2.2+(s.1.countP fun x=>decide (kindOf x.v=4)&&decide ((l9 x.k+g8 x.k)%2=0))=(l.countP fun x=>decide (kindOf x.v=4)&&decide ((l9 x.k+g8 x.k)%2=0))) (fun s=>s.1.length) zk
      (l,0,0) ⟨c06,hI6,fun x hx=>hx,Nat.zero_add _,Nat.zero_add _⟩ ⟨rfl,rfl,trivial⟩ ?_
     rintro ⟨rem,a1,a0⟩ j w7 ⟨c7,hI7,hsub,e1,e0⟩;simp only at c7 hI7 hsub e1 e0 ⊢;refine zR ?_;refine a3f rfl hI7 (fun e=>?_) (fun r1 x r2 w8 e n8 hI8 hE=>?_);rotate_left
     ·subst e;have hxl:x∈l:=hsub x (by simp)
      obtain ⟨i,hi,ek,v0,v1⟩:=hmem x hxl;have hcol:=fun w=>b8S i hi w;rw [← ek] at hcol;have c8:=n8.toCl c7 h0r2;have hsub2:∀ y∈r1++r2,y∈l:=fun y hy=>hsub y (by
       rcases List.mem_append.1 hy with hy | hy
       ·exact List.mem_append_left _ hy
       ·exact List.mem_append_right _ (List.mem_cons_of_mem _ hy))
      simp only [List.countP_append,List.countP_cons] at e1 e0;have ty:=a0C x.v v0 v1;refine zR ?_;refine a2d rfl hE (zR ?_);refine d9 (ty _) (zR ?_);apply E.b7<;>intro h
      ·have hk:decide (kindOf x.v=4)=true:=decide_eq_true h;clear h;rw [hk] at e1 e0;simp only [Bool.true_and] at e1 e0;refine zR ?_;refine d9 (hcol _) ?_;by_cases hpar:(l9 x.k+g8 x.k)%2=0
       ·rw [if_pos hpar];have hp1:¬ (l9 x.k+g8 x.k)%2=1:=by omega
        rw [decide_eq_false hp1] at e1;rw [decide_eq_true hpar] at e0;simp only [Bool.false_eq_true,if_false,if_true] at e1 e0;have n0:=C2 (i:=a0) zo;refine zR ?_;(repeat (first | (refine E.D4 rfl ?_;refine zR ?_) | (refine E.o7 zd ?_;refine zR ?_)))
        exact ⟨(r1++r2,a1,a0+1),⟨rfl,m7 n0,trivial⟩,⟨c8,hI8,hsub2,by rw [List.countP_append];show a1+_=_;omega,by rw [List.countP_append];show a0+1+_=_;omega⟩,by simp⟩
       ·rw [if_neg hpar];have hp1:(l9 x.k+g8 x.k)%2=1:=by omega
        rw [decide_eq_true hp1] at e1;rw [decide_eq_false hpar] at e0;simp only [Bool.false_eq_true,if_false,if_true] at e1 e0;have n1:=C2 (i:=a1) zo;refine zR ?_;(repeat (first | (refine E.D4 rfl ?_;refine zR ?_) | (refine E.o7 zd ?_;refine zR ?_)))
        exact ⟨(r1++r2,a1+1,a0),⟨m7 n1,rfl,trivial⟩,⟨c8,hI8,hsub2,by rw [List.countP_append];show a1+1+_=_;omega,by rw [List.countP_append];show a0+_=_;omega⟩,by simp⟩
      ·have hk:decide (kindOf x.v=4)=false:=decide_eq_false h;clear h;rw [hk] at e1 e0;simp only [Bool.false_and,Bool.false_eq_true,if_false] at e1 e0;refine zR ?_;exact ⟨(r1++r2,a1,a0),⟨rfl,rfl,trivial⟩,⟨c8,hI8,hsub2,by rw [List.countP_append];show a1+_=_;omega,by rw [List.countP_append];show a0+_=_;omega⟩,by simp⟩
     ·subst e;simp only [List.countP_nil,Nat.add_zero] at e1 e0;rw [← e1,← e0] at hS;clear e1 e0 w1l w0l;refine zR ?_;by_cases q1:(a1:Int)=0
      ·rw [if_pos (.inl zo)] at hS;(repeat (refine E.D4 q1 ?_;refine zR ?_))
       exact ⟨m8 hS.symm,c7⟩
      ·by_cases q0:(a0:Int)=0
       ·rw [if_pos (.inr zo)] at hS;(repeat (first | (refine E.o7 q1 ?_;refine zR ?_) | (refine E.D4 q0 ?_;refine zR ?_)))
        exact ⟨m8 hS.symm,c7⟩
       ·rw [if_neg zo] at hS;(repeat (first | (refine E.o7 q1 ?_;refine zR ?_) | (refine E.o7 q0 ?_;refine zR ?_)))
        exact ⟨m8 hS.symm,c7⟩
  ·have hn:¬ nn=0:=by omega
   rw [if_neg (fun h=>hn h.2),if_neg (fun h=>hn h.2)] at hS;by_cases z0:(nb:Int)=0
   ·by_cases y1:(nn:Int)=1
    ·have hS:V=false:=by rw [hS,if_pos ⟨zo,zo⟩]
     have z1:¬ (nb:Int)=1:=by omega
     (repeat (first | (refine R9 mPI _ rfl rfl nC5 h4 ?_;refine zR ?_) | (refine R9 mPI _ rfl rfl nC5 h5 ?_;refine zR ?_) | (refine E.D4 z0 ?_;refine zR ?_) | (refine E.o7 z1 ?_;refine zR ?_) | (refine E.o7 y0 ?_;refine zR ?_) | (refine E.D4 y1 ?_;refine zR ?_)))
     exact ⟨m8 hS.symm,c5⟩
    ·have hS:V=true:=by rw [hS,if_neg zo,if_neg hn]
     have z1:¬ (nb:Int)=1:=by omega
     (repeat (first | (refine R9 mPI _ rfl rfl nC5 h4 ?_;refine zR ?_) | (refine R9 mPI _ rfl rfl nC5 h5 ?_;refine zR ?_) | (refine E.D4 z0 ?_;refine zR ?_) | (refine E.o7 z1 ?_;refine zR ?_) | (refine E.o7 y0 ?_;refine zR ?_) | (refine E.o7 y1 ?_;refine zR ?_)))
     exact ⟨m8 hS.symm,c5⟩
   ·have hS:V=true:=by rw [hS,if_neg zo,if_neg hn]
    by_cases z1:(nb:Int)=1
    ·(repeat (first | (refine R9 mPI _ rfl rfl nC5 h4 ?_;refine zR ?_) | (refine R9 mPI _ rfl rfl nC5 h5 ?_;refine zR ?_) | (refine E.o7 z0 ?_;refine zR ?_) | (refine E.D4 z1 ?_;refine zR ?_) | (refine E.o7 y0 ?_;refine zR ?_)))
     exact ⟨m8 hS.symm,c5⟩
    ·(repeat (first | (refine R9 mPI _ rfl rfl nC5 h4 ?_;refine zR ?_) | (refine R9 mPI _ rfl rfl nC5 h5 ?_;refine zR ?_) | (refine E.o7 z0 ?_;refine zR ?_) | (refine E.o7 z1 ?_;refine zR ?_) | (refine E.o7 y0 ?_;refine zR ?_)))
     exact ⟨m8 hS.symm,c5⟩
structure O4.Same (z' z:O4):Prop where
 M:z'.M=z.M
 P:z'.P=z.P
 b:z'.b=z.b
 p:z'.p=z.p
theorem b8T {w:World} {G0 M:Nat} {g:Gm} {L:List O4} {z:O4} {d:Nd} (hT:C1 w) (h:K3 w G0 g L z) (hI:B7 z.p) (hN:a1z z.p) (hle:(z8 z.p).length≤218) (hm:d.mv∈y8 z.p) (htg:(d.tags:Int)=a6V z.p d.mv) (hk:d.kids = .slice none 0 0)
  (hM:w.heap[M]?=some (.cells (F0 d) 141 (0,0))) (hoff:∀ n∈L++[z],n.off [M]) (hI':B7 (made z.p d.mv)) (hle':(z8 (made z.p d.mv)).length≤218)
  (hJ:∀ n∈L++[z],B7 n.p) (hlen:L.length+2≤100000) :
  Calls G.P 45 #[.pointer (some ⟨G0,0,none⟩),.pointer (some ⟨M,0,none⟩),.pointer none] w (fun r w'=>r = .returned .nilIface∧∃ g' z' y,z'.Same z∧(∃ ad n c,z'.cv = .slice (some ad) n c)∧K3 w' G0 g' (L++[z']) y∧y.M=M∧y.d.mv=d.mv∧y.d.tags=d.tags
  ∧y.p=made z.p d.mv∧w.heap.size≤y.P∧((g'.meth:Int),g'.out)=X4 ((L++[z]).map O4.p++[y.p]) y.p ((g.meth:Int),g.out)∧Fr [M,z.M,z.P,G0] w w'):=by
 have hMl:=N2 hM;refine zN Tryz.func45 ?_;refine zR ?_;refine W3 true (N1 rfl _) (zR ?_);refine s9 #[.bool false] zk (zR ?_);have ca:=Cl.alloc w (.cells #[.bool false] 145);have na:=q8 w (.cells #[.bool false] 145);generalize w.alloc (.cells #[.bool false] 145)=w1 at *;have h1:=h.step ca;have hz:z.off [M]:=hoff z (by simp)
 refine o8 (b28 hI hle hm w1 (hT.cl ca) h1.hb h1.posM (ca.blk hM) (J4 h1.hb h1.posM.hd zd) (J4 (ca.blk hM) h1.posM.hd zd)) ?_;rintro e w2 ⟨rfl,cv',hP2,n2,hr2,hown⟩;refine ⟨_,rfl,?_⟩;have hpos:=h.pos;have hkept:∃ ad n c,cv' = .slice (some ad) n c:=by
  obtain ⟨a,n,c,rfl⟩:=hP2.form;obtain ⟨x,hx,_⟩:=(a0I hI).2 d.mv hm;obtain ⟨ad,rfl⟩:=hP2.kept hr2 (fun e=>by rw [e] at hx;cases hx)
  exact ⟨ad,n,c,rfl⟩
 rw [hpos] at n2 hP2;have h2:=h1.recv n2 hP2 hown;have s1:=ca.size;have hM2:=n2.blk (ca.blk hM) (J4 (ca.blk hM) h1.chn.last.2.2.hd zd);have hO2:=n2.blk na (J4 na h1.chn.last.2.2.hd zd);have hoff2:∀ n∈L++[{ z with cv:=cv' }],n.off [M]:=fun n hn=>by
  rcases List.mem_append.1 hn with hn | hn
  ·exact hoff n (List.mem_append_left _ hn)
  ·rw [List.mem_singleton.1 hn];refine ⟨hz.M,hz.P,hz.b,fun k hk e=>?_,hz.kids⟩;rcases hown _ e with e | e
   ·exact hz.cv k hk e
   ·rw [List.mem_singleton.1 hk] at e;omega
 have hJ2:∀ n∈L++[{ z with cv:=cv' }],Ch.B7 n.p:=fun n hn=>by
  rcases List.mem_append.1 hn with hn | hn
  ·exact hJ n (List.mem_append_left _ hn)
  ·rw [List.mem_singleton.1 hn];exact hI
 have hT2:C1 w2:=(hT.cl ca).fr (Fr.tn (S:=[z.P]) n2 (.inl (by simp))) fun k hk cs t fz hh=>by
  rw [List.mem_singleton.1 hk] at hh;rw [← (Obj.cells.inj (Option.some.inj (h1.chn.last.2.2.hd.symm.trans hh))).2.1];decide
 refine zR ?_;refine I1 true (F8 rfl) (zR ?_);refine o8 (b29 (d:=d) hT2 h2 hI hN hm htg hk hM2 hoff2 hO2 zo hI' hle' (fun b=>b6X hI' b) hJ2 hlen) ?_;rintro e w3 ⟨rfl,g',kv,y,hg,e1,e2,e3,e4,e6,_,e5,f3⟩;refine ⟨_,rfl,?_⟩;refine zR ?_;refine ⟨rfl,g',O4.led { z with cv:=cv' } kv,y,⟨rfl,rfl,rfl,rfl⟩,hkept,hg,e1,e2,e3,e4,by have:=n2.size;omega,?_,?_⟩
 ·rw [e5];simp
 ·exact ((Fr.cl ca).trans (Fr.tn n2 (.inl (by simp)))).trans (f3.mono (by intro k hk;simp only [List.mem_cons,List.not_mem_nil,or_false] at hk ⊢;rcases hk with e | e | e<;>simp [e]))
end
section
namespace Ch
set_option linter.unusedSimpArgs false
set_option linter.unusedVariables false
def a1M (c:UInt8):Tx→Tx→List Tx
 | cur,[]=>[cur]
 | cur,x::r=>if x=c then cur::a1M c [] r else a1M c (cur++[x]) r
theorem a35 {c:UInt8}:∀ {s cur:Tx},c∉s→a1M c cur s=[cur++s]
 | [],cur,_=>by simp [a1M]
 | x::r,cur,h=>by
  have hx:¬ x=c:=fun e=>h (by rw [e];exact List.mem_cons_self)
  rw [a1M,if_neg hx,a35 (fun hm=>h (List.mem_cons_of_mem _ hm))];simp
theorem a07 {c:UInt8} {b:Tx}:∀ {a cur:Tx},c∉a→a1M c cur (a++c::b)=(cur++a)::a1M c [] b
 | [],cur,_=>by simp [a1M]
 | x::r,cur,h=>by
  have hx:¬ x=c:=fun e=>h (by rw [e];exact List.mem_cons_self)
  rw [List.cons_append,a1M,if_neg hx,a07 (fun hm=>h (List.mem_cons_of_mem _ hm))];simp
theorem b1p {c:UInt8}:∀ {s cur:Tx},0<(a1M c cur s).length
 | [],cur=>by simp [a1M]
 | x::r,cur=>by
  rw [a1M];split
  ·simp
  ·exact b1p
theorem a5A {c:UInt8}:∀ {s:Tx},c∈s→s=s.take (s.idxOf c)++c::s.drop (s.idxOf c+1)∧c∉s.take (s.idxOf c)∧s.idxOf c<s.length
 | [],h=>by cases h
 | x::r,h=>by
  by_cases e:x=c
  ·subst e;simp
  ·have hm:c∈r:=by
    rcases List.mem_cons.1 h with e2 | h2
    ·exact absurd e2.symm e
    ·exact h2
   obtain ⟨h1,h2,h3⟩:=a5A hm;have ei:(x::r).idxOf c=r.idxOf c+1:=by rw [List.idxOf_cons,show (x==c)=false by simpa using e];rfl
   rw [ei];refine ⟨?_,?_,by simp;omega⟩
   ·rw [List.take_succ_cons,List.drop_succ_cons,List.cons_append,← h1]
   ·rw [List.take_succ_cons];intro hm2;rcases List.mem_cons.1 hm2 with e2 | h4
    ·exact e e2.symm
    ·exact h2 h4
theorem b8U {c:UInt8} {s:Tx} (h:c∈s):a1M c [] s=s.take (s.idxOf c)::a1M c [] (s.drop (s.idxOf c+1)):=by
 obtain ⟨h1,h2,_⟩:=a5A h;have:=a07 (b:=s.drop (s.idxOf c+1)) (cur:=[]) h2;rw [← h1,List.nil_append] at this;exact this
def Ltr (c:UInt8):Prop:=c≠32∧c≠47
theorem a6F (n:Nat):∀ c∈dec n,∃ k,k<10∧c=UInt8.ofNat (48+k):=by
 induction n using Nat.strongRecOn with
 | _ n ih =>
  intro c hc;unfold dec at hc;split at hc
  ·rename_i h;exact ⟨n,h,by simpa using hc⟩
  ·rename_i h;rcases List.mem_append.1 hc with hc | hc
   ·exact ih (n/10) zo c hc
   ·exact ⟨n%10,zo,by simpa using hc⟩
theorem b8V:∀ k,k<10→Ltr (UInt8.ofNat (48+k)):=by
 unfold Ltr;decide
theorem a9L (n:Nat):∀ c∈dec n,Ltr c:=fun c hc=>by
 obtain ⟨k,hk,rfl⟩:=a6F n c hc;exact b8V k hk
theorem c0U (x:Int):∀ c∈pcT x,Ltr c:=by
 by_cases h:1≤x∧x≤12
 ·rcases (by omega:x=1∨x=2∨x=3∨x=4∨x=5∨x=6∨x=7∨x=8∨x=9∨x=10∨x=11∨x=12) with rfl | rfl | rfl | rfl | rfl | rfl | rfl | rfl | rfl | rfl | rfl | rfl <;>
   (intro c hc;have:=List.mem_singleton.1 hc;rw [this];exact ⟨zd,zd⟩)
 ·have e:pcT x=[]:=by
   unfold pcT;rw [if_neg zo,if_neg zo,if_neg zo,if_neg zo,if_neg zo,if_neg zo,if_neg zo,if_neg zo,if_neg zo,if_neg zo,if_neg zo,if_neg zo]
  intro c hc;rw [e] at hc;cases hc
theorem b3R (e:Nat):∀ c∈V6 e,Ltr c:=by
 intro c hc;unfold V6 at hc;split at hc
 ·cases hc
 ·exact a9L e c hc
theorem a4X (g:Nat→Int):∀ n f e,∀ c∈a0h g n f e,Ltr c
 | 0,_,e,c,hc=>b3R e c hc
 | n+1,f,e,c,hc=>by
  rw [a0h] at hc;split at hc
  ·exact a4X g n (f+1) (e+1) c hc
  ·rcases List.mem_append.1 hc with hc | hc
   ·rcases List.mem_append.1 hc with hc | hc
    ·exact b3R e c hc
    ·exact c0U _ c hc
   ·exact a4X g n (f+1) 0 c hc
def a3g (p:A3) (r:Nat):Tx:=a0h (fun f=>sq p (8*(r:Int)+f)) 8 0 0
def a4Y (p:A3):Nat→List Tx
 | 0=>[]
 | r+1=>a3g p r::a4Y p r
theorem a5B (p:A3):∀ n k,k<n→(a4Y p n)[k]?=some (a3g p (n-1-k))
 | n+1,0,_=>by simp [a4Y]
 | n+1,k+1,h=>by
  rw [a4Y,List.getElem?_cons_succ,a5B p n k zo];rw [show n+1-1-(k+1)=n-1-k by omega]
theorem a8Q (p:A3):∀ n,(a4Y p n).length=n
 | 0=>rfl
 | n+1=>by rw [a4Y,List.length_cons,a8Q p n]
theorem a7L (p:A3):∀ r,a1M 47 [] (boardT p (r+1))=a4Y p (r+1)
 | 0=>by
  have h:(47:UInt8)∉a3g p 0:=fun h=>(a4X _ _ _ _ _ h).2 rfl;have e:boardT p 1=a3g p 0:=by simp [boardT,a3g]
  rw [e,a35 h];rfl
 | r+1=>by
  have h:(47:UInt8)∉a3g p (r+1):=fun h=>(a4X _ _ _ _ _ h).2 rfl;have e:boardT p (r+1+1)=a3g p (r+1)++47::boardT p (r+1):=by
   rw [boardT,if_neg zo];simp [a3g]
  rw [e,a07 h,a7L p r];rfl
theorem a8R (p:A3):∀ r,∀ c∈boardT p r,c≠32
 | 0,c,hc=>by cases hc
 | r+1,c,hc=>by
  rw [boardT] at hc;rcases List.mem_append.1 hc with hc | hc
  ·rcases List.mem_append.1 hc with hc | hc
   ·exact (a4X _ _ _ _ c hc).1
   ·split at hc
    ·cases hc
    ·rw [List.mem_singleton.1 hc];decide
  ·exact a8R p r c hc
theorem b4P (p:A3):a1M 32 [] (fenT p)=[boardT p 8,a5Z p.turn,castT p.castle,epT p.ep,dec p.half.toNat,dec p.full.toNat]:=by
 have n1:(32:UInt8)∉boardT p 8:=fun h=>a8R p 8 _ h rfl;have n2:(32:UInt8)∉a5Z p.turn:=by unfold a5Z;split<;>decide
 have n3:(32:UInt8)∉castT p.castle:=by
  have:∀ a b c d:Bool,(32:UInt8)∉(let t:Tx:=(if a then [75] else [])++(if b then [81] else [])++(if c then [107] else [])++(if d then [113] else []);if t.isEmpty then [45] else t):=by decide
  exact this _ _ _ _
 have n4:(32:UInt8)∉epT p.ep:=by
  unfold epT;split
  ·rename_i h;have:∀ k,k<64→(32:UInt8)∉A7 ((k:Nat):Int)++F7 ((k:Nat):Int):=by decide
   have h2:=this p.ep.toNat zo
   rwa [Int.toNat_of_nonneg h.1] at h2
  ·decide
 have n5:(32:UInt8)∉dec p.half.toNat:=fun h=>(a9L _ _ h).1 rfl;have n6:(32:UInt8)∉dec p.full.toNat:=fun h=>(a9L _ _ h).1 rfl;have e:fenT p=boardT p 8++32::(a5Z p.turn++32::(castT p.castle++32::(epT p.ep++32::(dec p.half.toNat++32::dec p.full.toNat)))):=by simp [fenT]
 rw [e,a07 n1,a07 n2,a07 n3,a07 n4,a07 n5,a35 n6];rfl
theorem a9M {p:A3} (hp:∀ i:Int,0≤sq p i∧sq p i≤12) (r:Nat):a0S (a3g p r)=a4j (fun f=>sq p (8*(r:Int)+f)) 8 0:=by
 unfold a3g;rw [b0V _ (fun f=>hp _) 8 0 0 zo];rfl
theorem b1q (g:Nat→Int):∀ n s k,k<n→(a4j g n s)[k]?=some (g (s+k))
 | n+1,s,0,_=>by simp [a4j]
 | n+1,s,k+1,h=>by
  rw [a4j,List.getElem?_cons_succ,b1q g n (s+1) k zo,show s+1+k=s+(k+1) by omega]
theorem a7M (g:Nat→Int):∀ n s,(a4j g n s).length=n
 | 0,_=>rfl
 | n+1,s=>by rw [a4j,List.length_cons,a7M g n]
def b2D (c:UInt8):Prop:=(49≤c.toNat∧c.toNat≤56)∨∃ x:Int,1≤x∧x≤12∧pcT x=[c]
theorem b6Y (g:Nat→Int):∀ n f e,e+n≤8→∀ c∈a0h g n f e,b2D c:=by
 have hcnt:∀ e,e≤8→∀ c∈V6 e,b2D c:=by
  intro e he c hc;unfold V6 at hc;split at hc
  ·cases hc
  ·rename_i h0;unfold dec at hc;rw [dif_pos zo] at hc;have:=List.mem_singleton.1 hc;have h2:∀ e,e≤8→e≠0→49≤(UInt8.ofNat (48+e)).toNat∧(UInt8.ofNat (48+e)).toNat≤56:=by
    intro e he h0;rcases (by omega:e=1∨e=2∨e=3∨e=4∨e=5∨e=6∨e=7∨e=8) with rfl | rfl | rfl | rfl | rfl | rfl | rfl | rfl<;>decide
   exact .inl (by rw [this];exact h2 e he h0)
 intro n
 induction n with
 | zero=>intro f e he c hc;exact hcnt e zo c hc
 | succ n ih =>
  intro f e he c hc;rw [a0h] at hc;split at hc
  ·exact ih (f+1) (e+1) zo c hc
  ·rename_i h0;rcases List.mem_append.1 hc with hc | hc
   ·rcases List.mem_append.1 hc with hc | hc
    ·exact hcnt e zo c hc
    ·refine .inr ⟨g f,zo,zo,?_⟩;have h1:1≤g f:=by omega
     have h2:g f≤12:=by omega
     generalize g f=x at *;rcases (by omega:x=1∨x=2∨x=3∨x=4∨x=5∨x=6∨x=7∨x=8∨x=9∨x=10∨x=11∨x=12) with rfl | rfl | rfl | rfl | rfl | rfl | rfl | rfl | rfl | rfl | rfl | rfl<;>(have:=List.mem_singleton.1 hc;rw [this];rfl)
   ·exact ih (f+1) 0 zo c hc
end Ch
end
end Go.Proofs.YtpclhlhcegcflaaGreatDoor
