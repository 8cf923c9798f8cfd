/- One part of the proof: Law10 Pk37 Pk38 Fen Pk39 Pk40 Pk41. -/
import Derived.Maps.RangeRun
import Derived.MapKept
import Derived.Test.YtpclhlhcegcflaaGreatDoorM13
namespace Go.Proofs.YtpclhlhcegcflaaGreatDoor
set_option maxRecDepth 100000
set_option linter.unusedSimpArgs false
set_option linter.unusedVariables false
section
open Go Go.RowKit
open E
structure En where
 k:Int
 v:Int
 n:Nat
def enE (qk qe:IntKind) (x:En):MapEntry:=⟨.int qk x.k,.int qe x.v,x.n⟩
def mpO (qk qe:IntKind) (l:List En) (c:Nat):Obj:=.map (l.map (enE qk qe)).toArray c
structure a1K (t k e:Nat) (qk qe:IntKind):Prop where
 ty:G.P.underlying t=some (.map k e)
 kt:G.P.underlying k=some (.int qk)
 zt:(G.P.info? e).bind (·.zero)=some (.int qe 0)
noncomputable def c4T (t k e:Nat) (qk qe:IntKind):Bool :=
 (match G.P.underlying t with|some (.map k' e')=>Nat.beq k' k&&Nat.beq e' e|_=>false)&&(match G.P.underlying k with|some (.int q)=>decide (q=qk)|_=>false)&&(match (G.P.info? e).bind (·.zero) with|some (.int q 0)=>decide (q=qe)|_=>false)
theorem a8M {t k e:Nat} {qk qe:IntKind} (h:c4T t k e qk qe=true):a1K t k e qk qe:=by
 simp only [c4T,zP] at h;obtain ⟨⟨h1,h2⟩,h3⟩:=h;refine ⟨?_,?_,?_⟩
 ·split at h1
  ·rename_i k' e' he;simp only [zP] at h1;rw [he,zu h1.1,zu h1.2]
  ·cases h1
 ·split at h2
  ·rename_i q he;rw [he,yB h2]
  ·cases h2
 ·split at h3
  ·rename_i q he;rw [he,yB h3]
  ·cases h3
def a2q (key:Int):List En→Nat→Option (Nat×Int)
 | [],_=>none
 | x::r,i=>if key=x.k then some (i,x.v) else a2q key r (i+1)
def O1 (l:List En) (key:Int):Option Int:=(a2q key l 0).map (·.2)
def b0Y (key v:Int):List En→List En
 | []=>[]
 | x::r=>if key=x.k then ⟨key,v,x.n⟩::r else x::b0Y key v r
def a5G (key:Int):List En→List En
 | []=>[]
 | x::r=>if key=x.k then r else x::a5G key r
def a8N (l:List En) (key v:Int) (c:Nat):List En:=if (O1 l key).isSome then b0Y key v l else l++[⟨key,v,c⟩]
def b3X (l:List En) (key:Int) (c:Nat):Nat:=if (O1 l key).isSome then c else c+1
theorem a3K (key:Int):∀ (l:List En) (i:Nat),a2q key l i=(a2q key l 0).map fun y=>(i+y.1,y.2)
 | [],_=>rfl
 | x::r,i=>by
  by_cases h:key=x.k
  ·simp [a2q,h]
  ·simp only [a2q,zJ h];rw [a3K key r (i+1),a3K key r (0+1),Option.map_map];congr 1;funext y;simp only [Function.comp];rw [show i+(0+1+y.1)=i+1+y.1 by omega]
theorem a5H (key:Int):O1 [] key=none:=rfl
theorem X1 (x:En) (r:List En) (key:Int):O1 (x::r) key=if key=x.k then some x.v else O1 r key:=by
 unfold O1;by_cases h:key=x.k
 ·simp [a2q,h]
 ·simp only [a2q,zJ h];rw [a3K key r (0+1),Option.map_map];rfl
theorem b25 (key k v:Int) (c:Nat):∀ l:List En,O1 (l++[⟨k,v,c⟩]) key=(O1 l key).or (if key=k then some v else none)
 | []=>by rw [yM,X1,a5H];rfl
 | x::r=>by
  rw [yU,X1,X1];split
  ·rfl
  ·exact b25 key k v c r
theorem b26 (key v k:Int):∀ l:List En,(O1 l key).isSome=true→O1 (b0Y key v l) k=if k=key then some v else O1 l k
 | [],h=>by cases h
 | x::r,h=>by
  rw [X1] at h;rw [b0Y];by_cases hx:key=x.k
  ·rw [zM hx,X1,X1];by_cases hk:k=key
   ·rw [zM hk,zM hk]
   ·rw [zJ hk,zJ hk,zJ (by rw [← hx];exact hk)]
  ·rw [zJ hx] at h ⊢;rw [X1,X1,b26 key v k r h];by_cases hk:k=key
   ·subst hk;rw [zJ hx,zM rfl,zM rfl]
   ·simp only [zJ hk]
theorem a8O (l:List En) (key v:Int) (c:Nat) (k:Int):O1 (a8N l key v c) k=if k=key then some v else O1 l k:=by
 unfold a8N;split
 ·rename_i h;exact b26 key v k l h
 ·rename_i h;rw [b25];by_cases hk:k=key
  ·have:O1 l key=none:=by cases e:O1 l key with|none=>rfl|some _=>rw [e] at h;exact absurd rfl h
   subst hk;rw [this,zM rfl];rfl
  ·rw [zJ hk,zJ hk];cases O1 l k<;>rfl
theorem b0c {key:Int}:∀ {l:List En},(∀ x∈l,x.k≠key)→O1 l key=none
 | [],_=>rfl
 | x::r,h=>by rw [X1,zJ (fun e=>h x (yX ..) e.symm)];exact b0c fun y hy=>h y (yY _ hy)
theorem b27 {l:List En} {key v:Int} {c:Nat} (h:O1 l key=none):a8N l key v c=l++[⟨key,v,c⟩]∧b3X l key c=c+1:=by
 unfold a8N b3X;rw [h];exact ⟨rfl,rfl⟩
theorem a1j (qk qe:IntKind) (key:Int):∀ (l:List En) (i:Nat),Instr.findNow (.int qk) (.int qk key) (l.map (enE qk qe)) i=some ((a2q key l i).map fun y=>(y.1,Value.int qe y.2))
 | [],_=>rfl
 | x::r,i=>by
  by_cases h:key=x.k
  ·simp [Instr.findNow,Instr.sameNow,enE,a2q,h]
  ·have hb:(key==x.k)=false:=by simp [h]
   simp only [yQ,Instr.findNow,Instr.sameNow,enE,xy,hb,a2q,zJ h];exact a1j qk qe key r (i+1)
theorem a8P {qk qe:IntKind} {key:Int}:∀ {l:List En} {i:Nat} {u:Int},a2q key l 0=some (i,u)→(l.map (enE qk qe))[i]?.map (·.key)=some (.int qk key) ∧
   (∀ v:Int,(l.map (enE qk qe)).modify i (fun e=>{ e with key:=.int qk key,val:=.int qe v })=(b0Y key v l).map (enE qk qe))∧(l.map (enE qk qe)).eraseIdx i=(a5G key l).map (enE qk qe)
 | [],_,_,h=>by cases h
 | x::r,i,u,h=>by
  by_cases hk:key=x.k
  ·simp only [a2q,zM hk] at h;injection h with h;injection h with h1 h2;subst h1;refine ⟨by simp [enE,hk],fun v=>?_,?_⟩
   ·simp [b0Y,hk,enE]
   ·simp [a5G,hk]
  ·simp only [a2q,zJ hk] at h;rw [a3K] at h;cases hl:a2q key r 0 with
   | none=>rw [hl] at h;cases h
   | some y =>
    obtain ⟨j,u'⟩:=y;rw [hl] at h;injection h with h;injection h with h1 h2;obtain ⟨a1,a2,a3⟩:=a8P (qk:=qk) (qe:=qe) hl;have h1:i=j+1:=by omega
    subst h1;refine ⟨by simpa using a1,fun v=>?_,?_⟩
    ·rw [yQ,List.modify_succ_cons,a2 v,b0Y,zJ hk,yQ]
    ·rw [yQ,List.eraseIdx_cons_succ,a3,a5G,zJ hk,yQ]
theorem a4n {w:World} {b:Nat} {o0:Obj} (hb:w.heap[b]?=some o0) (o:Obj):Upd w b o { w with heap:=w.heap.setIfInBounds b o } :=
 ⟨rfl,rfl,rfl,by simp,(MapKept.heap_set hb).1,(MapKept.heap_set hb).2⟩
section runs
variable {t k e:Nat} {qk qe:IntKind} {w:World} {l:List En} {c b:Nat} {key:Int}
theorem b0Z (M:a1K t k e qk qe) (em:Bool):(Instr.checkKey em 10000 k (.int qk key)).run G.P w = .ok () w :=
 MapKept.run_checkKey (n:=9999) M.kt (by simp [MapKept.IsKey]) em
theorem b28 (M:a1K t k e qk qe) (ok:Bool) (hb:w.heap[b]?=some (mpO qk qe l c)) :
  (Instr.lookup t (.map (some b)) (.int qk key) ok).run G.P w = .ok (if ok then .tuple #[.int qe ((O1 l key).getD 0),.bool (O1 l key).isSome] else .int qe ((O1 l key).getD 0)) w:=by
 have h1:=b0Z (w:=w) (key:=key) M;have h2:=MapKept.run_findKey (w:=w) M.kt (a1j qk qe key l 0);have h3:(zeroValue e).run G.P w = .ok (.int qe 0) w:=by
  have hz:=M.zt;cases hi:G.P.info? e with
  | none=>rw [hi] at hz;cases hz
  | some i=>rw [hi] at hz;unfold zeroValue typeInfo;simp at hz;simp [hi,hz]
 unfold Instr.lookup O1;cases hl:a2q key l 0 with
 | none =>
  rw [hl] at h2;simp [run_underlying M.ty,MapKept.run_getObj_map hb,h1,h2,h3]
 | some y =>
  rw [hl] at h2;simp [run_underlying M.ty,MapKept.run_getObj_map hb,h1,h2]
theorem c1x (M:a1K t k e qk qe) (v:Int) (hb:w.heap[b]?=some (mpO qk qe l c)) :
  ∃ w',(Instr.mapUpdate t (.map (some b)) (.int qk key) (.int qe v)).run G.P w = .ok () w'∧Upd w b (mpO qk qe (a8N l key v c) (b3X l key c)) w':=by
 have h1:=b0Z (w:=w) (key:=key) M;have h2:=MapKept.run_findKey (w:=w) M.kt (a1j qk qe key l 0);refine ⟨_,?_,a4n hb _⟩;unfold Instr.mapUpdate a8N b3X O1;cases hl:a2q key l 0 with
 | none =>
  rw [hl] at h2;simp [run_underlying M.ty,MapKept.run_getObj_map hb,h1,h2,MapKept.run_setObj_map _ hb,mpO,enE]
 | some y =>
  obtain ⟨i,u⟩:=y;rw [hl] at h2;obtain ⟨a1,a2,_⟩:=a8P (qk:=qk) (qe:=qe) hl;have hs:(Instr.keyThatStays (.int qk key) (.int qk key)).run G.P w = .ok (.int qk key) w:=by
   unfold Instr.keyThatStays;rw [show Instr.sameBits 10000 (.int qk key) (.int qk key)=true by simp [Instr.sameBits]]
   rfl
  have a2:=a2 v;have hb:w.heap[b]?=some (.map (l.map (enE qk qe)).toArray c):=hb;have hgoal:mpO qk qe (b0Y key v l) c = .map ((b0Y key v l).map (enE qk qe)).toArray c:=rfl;rw [← a2] at hgoal;generalize l.map (enE qk qe)=E at *;have hk:(Option.map (fun x=>x.key) E[i]?).getD (.int qk key) = .int qk key:=by rw [a1];rfl
  simp [run_underlying M.ty,MapKept.run_getObj_map hb,h1,h2,hk,hs,MapKept.run_setObj_map _ hb,hgoal]
theorem c1y (M:a1K t k e qk qe) (ty:Nat) (hb:w.heap[b]?=some (mpO qk qe l c)) :
  ∃ w',(Builtin.delete_ #[t,k] ty #[.map (some b),.int qk key]).run G.P w = .ok (.tuple #[]) w'∧Upd w b (mpO qk qe (a5G key l) c) w':=by
 have h1:=b0Z (w:=w) (key:=key) M;have h2:=MapKept.run_findKey (w:=w) M.kt (a1j qk qe key l 0);refine ⟨_,?_,a4n hb _⟩;unfold Builtin.delete_;cases hl:a2q key l 0 with
 | none =>
  have hd:∀ l:List En,a2q key l 0=none→a5G key l=l:=by
   intro l
   induction l with
   | nil=>intro _;rfl
   | cons x r ih =>
    intro h;by_cases hk:key=x.k
    ·simp [a2q,hk] at h
    ·simp only [a2q,zJ hk] at h;rw [a3K,Option.map_eq_none_iff] at h;rw [a5G,zJ hk,ih h]
  rw [hl] at h2;simp [run_underlying M.ty,MapKept.run_getObj_map hb,h1,h2,MapKept.run_setObj_map _ hb,mpO,hd l hl]
 | some y =>
  obtain ⟨i,u⟩:=y;rw [hl] at h2;obtain ⟨_,_,a3⟩:=a8P (qk:=qk) (qe:=qe) hl;have hb:w.heap[b]?=some (.map (l.map (enE qk qe)).toArray c):=hb;have hgoal:mpO qk qe (a5G key l) c = .map ((a5G key l).map (enE qk qe)).toArray c:=rfl;rw [← a3] at hgoal;generalize l.map (enE qk qe)=E at *;simp [run_underlying M.ty,MapKept.run_getObj_map hb,h1,h2,MapKept.run_setObj_map _ hb,hgoal]
end runs
structure Itr (qk qe:IntKind) (w:World) (b r:Nat) (l:List En) (c:Nat) (rem:List En):Prop where
 hb:w.heap[b]?=some (mpO qk qe l c)
 hr:∃ seen s c0,w.heap[r]?=some (.mapIter (some b) s seen c0)∧rem=l.filter (fun x=>!seen.contains x.n)∧(∀ x∈l,x.n<s)∧s≤c0∧s≤c
 nd:(l.map (·.n)).Nodup
structure Ent (qk qe:IntKind) (w:World) (b r:Nat) (l:List En) (c:Nat) (x:En):Prop where
 hb:w.heap[b]?=some (mpO qk qe l c)
 hr:∃ (seen:Array Nat) (s:Nat),w.heap[r]?=some (.mapIter (some b) s (seen.push x.n) c)
 nd:(l.map (·.n)).Nodup
 mem:x∈l
theorem Itr.kp {qk qe:IntKind} {w w':World} {b r c:Nat} {l rem:List En} (h:Itr qk qe w b r l c rem) (h1:∀ o,w.heap[b]?=some o→w'.heap[b]?=some o) (h2:∀ o,w.heap[r]?=some o→w'.heap[r]?=some o):Itr qk qe w' b r l c rem:=by
 obtain ⟨hb,⟨seen,s,c0,hr,h3⟩,nd⟩:=h;exact ⟨h1 _ hb,⟨seen,s,c0,h2 _ hr,h3⟩,nd⟩
theorem Ent.kp {qk qe:IntKind} {w w':World} {b r c:Nat} {l:List En} {x:En} (h:Ent qk qe w b r l c x) (h1:∀ o,w.heap[b]?=some o→w'.heap[b]?=some o) (h2:∀ o,w.heap[r]?=some o→w'.heap[r]?=some o):Ent qk qe w' b r l c x:=by
 obtain ⟨hb,⟨seen,s,hr⟩,nd,hm⟩:=h;exact ⟨h1 _ hb,⟨seen,s,h2 _ hr⟩,nd,hm⟩
theorem Itr.step {qk qe:IntKind} {w w':World} {b r c:Nat} {l rem:List En} (h:Itr qk qe w b r l c rem) (hc:Cl w w'):Itr qk qe w' b r l c rem:=h.kp (fun _ h=>hc.blk h) (fun _ h=>hc.blk h)
theorem b1b {P:Nat→Bool} {l:List En} (hn:(l.map (·.n)).Nodup) {x:En} (hx:x∈l.filter fun y=>P y.n) :
  ∃ r1 r2,l.filter (fun y=>P y.n)=r1++x::r2∧l.filter (fun y=>P y.n && !(y.n==x.n))=r1++r2:=by
 obtain ⟨r1,r2,h⟩:=List.append_of_mem hx;refine ⟨r1,r2,h,?_⟩;have hn2:((l.filter fun y=>P y.n).map (·.n)).Nodup:=(List.Sublist.map _ List.filter_sublist).nodup hn;have e:l.filter (fun y=>P y.n && !(y.n==x.n))=(l.filter fun y=>P y.n).filter fun y=>!(y.n==x.n):=by
  rw [List.filter_filter];congr 1;funext y;exact Bool.and_comm _ _
 rw [e,h];rw [h,List.map_append,yQ,List.nodup_append] at hn2;obtain ⟨a1,a2,a3⟩:=hn2;rw [List.nodup_cons] at a2;rw [List.filter_append,List.filter_cons];have k1:r1.filter (fun y=>!(y.n==x.n))=r1:=List.filter_eq_self.2 fun y hy=>by
  have:=a3 y.n (xJ.2 ⟨y,hy,rfl⟩) x.n (yX ..);simp [this]
 have k2:r2.filter (fun y=>!(y.n==x.n))=r2:=List.filter_eq_self.2 fun y hy=>by
  have:y.n≠x.n:=fun e=>a2.1 (by rw [← e];exact xJ.2 ⟨y,hy,rfl⟩)
  simp [this]
 rw [k1,k2];simp
section gens
variable {t k e:Nat} {qk qe:IntKind} {w:World} {l:List En} {c b:Nat} {dst:Option Nat} {ty:Nat} {pos:String} {af:Array Edge} {gd:Option (Nat×Bool)} {env:C8} {K:Value→World→Prop}
theorem a4o {t:Nat} (h:K (.map (some w.heap.size)) (w.alloc (.map #[] 0))):H4 G.P { dst,op:=.makeMap t none,type:=ty,pos,after:=af,guard:=gd } env w K:=by
 refine ⟨.inl ⟨_,_,?_,h⟩⟩;show (do pure (Next.value (← Instr.makeMap t none)):Sem Next).run G.P w=_
 simp [Instr.makeMap]
theorem a8Q (M:a1K t k e qk qe) {x:Operand} {q:IntKind} {n:Int} (hx:ev env x = .int q n) (h:K (.map (some w.heap.size)) (w.alloc (.map #[] 0))):H4 G.P { dst,op:=.makeMap t (some x),type:=ty,pos,after:=af,guard:=gd } env w K:=by
 refine ⟨.inl ⟨_,_,?_,h⟩⟩;show (do pure (Next.value (← Instr.makeMap t (some (ev env x)))):Sem Next).run G.P w=_
 rw [hx];simp [Instr.makeMap,run_underlying M.ty,asInt,asIntOf]
theorem c1z (M:a1K t k e qk qe) {m x:Operand} {key:Int} (hm:ev env m = .map (some b)) (hx:ev env x = .int qk key) (hb:w.heap[b]?=some (mpO qk qe l c)) (h:K (.tuple #[.int qe ((O1 l key).getD 0),.bool (O1 l key).isSome]) w) :
  H4 G.P { dst,op:=.lookup t m x true,type:=ty,pos,after:=af,guard:=gd } env w K:=by
 refine ⟨.inl ⟨_,_,?_,h⟩⟩;show (do pure (Next.value (← Instr.lookup t (ev env m) (ev env x) true)):Sem Next).run G.P w=_
 rw [hm,hx,yj,b28 M true hb];rfl
theorem b5w (M:a1K t k e qk qe) {m x:Operand} {key:Int} (hm:ev env m = .map (some b)) (hx:ev env x = .int qk key) (hb:w.heap[b]?=some (mpO qk qe l c)) (h:K (.int qe ((O1 l key).getD 0)) w) :
  H4 G.P { dst,op:=.lookup t m x false,type:=ty,pos,after:=af,guard:=gd } env w K:=by
 refine ⟨.inl ⟨_,_,?_,h⟩⟩;show (do pure (Next.value (← Instr.lookup t (ev env m) (ev env x) false)):Sem Next).run G.P w=_
 rw [hm,hx,yj,b28 M false hb];rfl
theorem U1 (M:a1K t k e qk qe) {m x:Operand} {key:Int} (v:Int) (hm:ev env m = .map (some b)) (hx:ev env x = .int qk key) (hb:w.heap[b]?=some (mpO qk qe l c)) (hv:(O1 l key).getD 0=v) (h:K (.int qe v) w) :
  H4 G.P { dst,op:=.lookup t m x false,type:=ty,pos,after:=af,guard:=gd } env w K:=by subst hv;exact b5w M hm hx hb h
theorem a5I (M:a1K t k e qk qe) {m x y:Operand} {key v:Int} (hm:ev env m = .map (some b)) (hx:ev env x = .int qk key) (hy:ev env y = .int qe v) (hb:w.heap[b]?=some (mpO qk qe l c))
  (h:∀ w',Upd w b (mpO qk qe (a8N l key v c) (b3X l key c)) w'→K undef w'):H4 G.P { dst,op:=.mapUpdate t m x y,type:=ty,pos,after:=af,guard:=gd } env w K:=by
 obtain ⟨w',h1,h2⟩:=c1x M (key:=key) v hb;refine ⟨.inr (.inl ⟨_,?_,h w' h2⟩)⟩;show (do Instr.mapUpdate t (ev env m) (ev env x) (ev env y);pure Next.skip:Sem Next).run G.P w=_
 rw [hm,hx,hy,yj,h1];rfl
theorem b5x (M:a1K t k e qk qe) {m x:Operand} {key:Int} (hm:ev env m = .map (some b)) (hx:ev env x = .int qk key) (hb:w.heap[b]?=some (mpO qk qe l c))
  (h:∀ w',Upd w b (mpO qk qe (a5G key l) c) w'→K (.tuple #[]) w'):H4 G.P { dst,op:=.call { callee:=.builtin .delete,args:=#[m,x],argTypes:=#[t,k] },type:=ty,pos,after:=af,guard:=gd } env w K:=by
 obtain ⟨w',h1,h2⟩:=c1y M (key:=key) ty hb;refine ⟨.inl ⟨_,w',?_,h w' h2⟩⟩;simp only [execOp,resolve,invoke,builtin,yj,xY,yp,xO,yQ,xb,hm,hx,h1]
theorem a2D (M:a1K t k e qk qe) {m:Operand} (hm:ev env m = .map (some b)) (hb:w.heap[b]?=some (mpO qk qe l c)) (hn:(l.map (·.n)).Nodup) (hc:∀ x∈l,x.n<c)
  (h:∀ w',Cl w w'→w'.heap.size=w.heap.size+1→Itr qk qe w' b w.heap.size l c l→K (.pointer (some ⟨w.heap.size,0,none⟩)) w'):H4 G.P { dst,op:=.range t m,type:=ty,pos,after:=af,guard:=gd } env w K:=by
 have h1:=run_range_map (P:=G.P) w t k e b _ _ M.ty hb;refine ⟨.inl ⟨_,_,?_,h _ (Cl.alloc w _) (B0 _ _) ⟨(Cl.alloc w _).blk hb,⟨#[],c,c,d9 _ _,(List.filter_eq_self.2 (fun x _=>by simp)).symm,hc,yJ _,yJ _⟩,hn⟩⟩⟩
 show (do pure (Next.value (← Instr.range t (ev env m))):Sem Next).run G.P w=_
 rw [hm,yj,h1];rfl
theorem a3L {it:Operand} {r:Nat} {rem:List En} (hit:ev env it = .pointer (some ⟨r,0,none⟩)) (hI:Itr qk qe w b r l c rem)
  (h0:rem=[]→K (.tuple #[.bool false]) w)
  (h1:∀ r1 x r2 w',rem=r1++x::r2→Tn r w w'→Itr qk qe w' b r l c (r1++r2)→Ent qk qe w' b r l c x→K (.tuple #[.bool true,.int qk x.k,.int qe x.v]) w') :
  H4 G.P { dst,op:=.next it false,type:=ty,pos,after:=af,guard:=gd } env w K:=by
 obtain ⟨hb,⟨seen,s,c0,hr,hrem,hold,hs,hsc⟩,nd⟩:=hI;have hmem:∀ x∈(l.map (enE qk qe)).toArray.toList,x.born<s:=fun x hx=>by
  obtain ⟨y,hy,rfl⟩:=xJ.1 (by simpa using hx)
  exact hold y hy
 have hleft:(leftOf (l.map (enE qk qe)).toArray seen).toList=rem.map (enE qk qe):=by
  rw [hrem];simp only [leftOf,List.filter_toArray,List.filter_map];rfl
 have hne:r≠b:=fun e=>by rw [e,hb] at hr;cases hr
 rcases run_next_at (P:=G.P) w ty r b s c0 seen _ c hr hb hmem hs with ⟨hz,hrun⟩|⟨y,hy,w1,hw1,hrun⟩
 ·have:rem=[]:=by
   have:=yH List.length hleft;rw [Array.length_toList,hz,yc] at this;exact List.length_eq_zero_iff.1 this.symm
  refine ⟨.inl ⟨_,_,?_,h0 this⟩⟩;show (do pure (Next.value (← Instr.next (ev env it) false ty)):Sem Next).run G.P w=_
  rw [hit,yj,hrun];rfl
 ·rw [hleft] at hy;obtain ⟨x,hx,rfl⟩:=xJ.1 hy;have hx2:=hx;rw [hrem] at hx2;obtain ⟨r1,r2,e1,e2⟩:=b1b (P:=fun n=>!seen.contains n) nd hx2;have hr1:w1.heap[r]?=some (.mapIter (some b) s seen c0):=by rcases hw1 with rfl|rfl<;>exact hr
  have hb1:w1.heap[b]?=some (mpO qk qe l c):=by rcases hw1 with rfl|rfl<;>exact hb
  have u:=a4n hr1 (.mapIter (some b) s (seen.push x.n) c);have tn:Tn r w (ChangeMaps.setBlock w1 r (.mapIter (some b) s (seen.push x.n) c)):=by
   have t1:Tn r w w1:=by
    rcases hw1 with rfl|rfl
    ·exact Tn.refl _ _
    ·exact Tn.cl (Cl.drew (Cl.refl _))
   exact t1.trans (Tn.upd u)
  refine ⟨.inl ⟨_,_,?_,h1 r1 x r2 _ (hrem.trans e1) tn ⟨(Tn.upd u).blk hb1 (wG hne),⟨seen.push x.n,s,c,u.at_,?_,hold,hsc,hsc⟩,nd⟩ ⟨(Tn.upd u).blk hb1 (wG hne),⟨seen,s,u.at_⟩,nd,(xW.1 hx2).1⟩⟩⟩
  ·show (do pure (Next.value (← Instr.next (ev env it) false ty)):Sem Next).run G.P w=_
   rw [hit,yj,hrun];rfl
  ·rw [← e2];congr 1;funext y;by_cases h:y.n=x.n<;>simp [Array.contains_push,h]
theorem a2E {it:Operand} {r:Nat} {x:En} (hit:ev env it = .pointer (some ⟨r,0,none⟩)) (hE:Ent qk qe w b r l c x) (h:K (.tuple #[.int qk x.k,.int qe x.v]) w) :
  H4 G.P { dst,op:=.entry it,type:=ty,pos,after:=af,guard:=gd } env w K:=by
 obtain ⟨hb,⟨seen,s,hr⟩,nd,hm⟩:=hE;have h1:=run_entry_at (P:=G.P) w r b s seen _ c (enE qk qe x) hr hb (by simpa using xJ.2 ⟨x,hm,rfl⟩) (by
  have e:((l.map (enE qk qe)).toArray.toList.map (·.born))=l.map (·.n):=by simp [enE,Function.comp_def]
  rw [e];exact nd)
 refine ⟨.inl ⟨_,_,?_,h⟩⟩;show (do pure (Next.value (← Instr.entry (ev env it))):Sem Next).run G.P w=_
 rw [hit,yj,h1];rfl
end gens
end
section
open Go Go.RowKit
open E
open Ch Bb
theorem mSP:a1K 271 138 194 .i8 .i8:=a8M zk
theorem mPI:a1K 287 139 3 .i8 .i64:=a8M zk
def enG (g:Nat→Int) (c0:Nat):Nat→List En
 | 0=>[]
 | n+1=>if g n=0 then enG g c0 n else enG g c0 n++[⟨n,g n,c0+(enG g c0 n).length⟩]
theorem a4p (g:Nat→Int) (c0:Nat):∀ n,∀ x∈enG g c0 n,∃ i:Nat,i<n∧x.k=(i:Int)∧x.v=g i∧g i≠0
 | 0,x,h=>by cases h
 | n+1,x,h=>by
  rw [enG] at h;split at h
  ·obtain ⟨i,hi,h2⟩:=a4p g c0 n x h;exact ⟨i,zo,h2⟩
  ·rename_i h0;rcases zr.1 h with h|h
   ·obtain ⟨i,hi,h2⟩:=a4p g c0 n x h;exact ⟨i,zo,h2⟩
   ·rw [zY.1 h];exact ⟨n,zo,rfl,rfl,h0⟩
theorem b5y (g:Nat→Int) (c0:Nat):∀ n i:Nat,i<n→g i≠0→∃ x∈enG g c0 n,x.k=(i:Int)
 | n+1,i,hi,h0=>by
  rw [enG];by_cases e:i=n
  ·subst e;rw [zJ h0];exact ⟨_,List.mem_append_right _ (zY.2 rfl),rfl⟩
  ·obtain ⟨x,hx,h2⟩:=b5y g c0 n i zo h0;split
   ·exact ⟨x,hx,h2⟩
   ·exact ⟨x,yP _ hx,h2⟩
theorem b5z (g:Nat→Int) (c0 n:Nat):O1 (enG g c0 n) (n:Int)=none:=b0c fun x hx=>by
 obtain ⟨i,hi,e,_⟩:=a4p g c0 n x hx;rw [e];omega
theorem a4q (g:Nat→Int) (c0:Nat):∀ n,(enG g c0 n).map (·.n)=List.range' c0 (enG g c0 n).length
 | 0=>rfl
 | n+1=>by
  rw [enG];split
  ·exact a4q g c0 n
  ·rw [List.map_append,a4q g c0 n,zF,List.length_singleton,List.range'_concat];simp
theorem b3Y (g:Nat→Int) (c0 n:Nat):((enG g c0 n).map (·.n)).Nodup:=by rw [a4q];exact List.nodup_range'
theorem b3Z (g:Nat→Int) (c0 n:Nat):∀ x∈enG g c0 n,x.n<c0+(enG g c0 n).length:=fun x hx=>by
 have:x.n∈(enG g c0 n).map (·.n):=xJ.2 ⟨x,hx,rfl⟩;rw [a4q,List.mem_range'_1] at this;exact this.2
theorem a8R (g:Nat→Int) (c0:Nat):∀ n,((enG g c0 n).map (·.k)).Nodup
 | 0=>List.nodup_nil
 | n+1=>by
  rw [enG];split
  ·exact a8R g c0 n
  ·rw [List.map_append,List.nodup_append];refine ⟨a8R g c0 n,by simp,fun a ha b hb=>?_⟩
   obtain ⟨x,hx,rfl⟩:=xJ.1 ha;obtain ⟨i,hi,e,_⟩:=a4p g c0 n x hx;simp only [yQ,xb,zY] at hb;rw [e,hb];omega
theorem a6z (g:Nat→Int) (c0:Nat) (P:Int→Int→Bool):∀ n,(enG g c0 n).countP (fun x=>P x.k x.v)=H1 (fun i=>!decide (g i=0)&&P i (g i)) n
 | 0=>rfl
 | n+1=>by
  rw [enG,H1];by_cases h0:g n=0
  ·rw [zM h0,a6z g c0 P n];simp [h0]
  ·rw [zJ h0,xg,a6z g c0 P n];simp [h0,List.countP_cons]
theorem b29 (g:Nat→Int) (c0 n:Nat):∀ k,(∀ i,n≤i→i<n+k→g i=0)→enG g c0 (n+k)=enG g c0 n
 | 0,_=>rfl
 | k+1,h=>by
  rw [← Nat.add_assoc,enG,zM (h (n+k) zo zo)];exact b29 g c0 n k fun i h1 h2=>h i h1 zo
def sqE (p:l9) (n:Nat):List En:=enG (fun i=>sq p i) 0 n
theorem c16 (p:l9) (n:Nat):∀ x∈sqE p n,∃ i:Nat,i<n∧x.k=(i:Int)∧x.v=sq p i∧sq p i≠0:=a4p _ _ n
theorem c18 (p:l9) (n:Nat):O1 (sqE p n) (n:Int)=none:=b5z _ _ n
theorem c36 (p:l9) (n:Nat):((sqE p n).map (·.n)).Nodup:=b3Y _ _ n
theorem c37 (p:l9) (n:Nat):∀ x∈sqE p n,x.n<(sqE p n).length:=fun x hx=>by have:=b3Z _ 0 n x hx;rwa [yW] at this
theorem a2F (p:l9) (P:Int→Int→Bool) (n:Nat):(sqE p n).countP (fun x=>P x.k x.v)=H1 (fun i=>!decide (sq p i=0)&&P i (sq p i)) n:=a6z _ 0 P n
theorem b2A (p:l9) (n:Nat):sqE p (n+1)=if sq p n=0 then sqE p n else sqE p n++[⟨n,sq p n,(sqE p n).length⟩]:=by
 unfold sqE;rw [enG,yW]
theorem b1c (f:Nat→Bool):∀ n,H1 f n≤n
 | 0=>yJ _
 | n+1=>by rw [H1];have:=b1c f n;split<;>omega
theorem c19 (i:Nat) (hi:i<64) (w:World):Calls G.P 251 #[.int .i8 i] w (E5 (.int .i8 (if (o4 i+k9 i)%2=0 then 2 else 1)) w):=by
 have e1:IntKind.i8.wrap ((i:Int).tdiv 8)=((i/8:Nat):Int):=by rw [show ((i:Int).tdiv 8)=((i/8:Nat):Int) from rfl];exact a0q zo zo
 refine zN Tryz.func251 ?_;refine zR ?_;rw [e1];apply E.b9<;>intro h
 ·have h:(((i/8:Nat):Int).tmod 2)=((i:Int).tmod 2):=h;have h2:(i/8)%2=i%2:=by
   have e2:(((i/8:Nat):Int).tmod 2)=((i/8%2:Nat):Int):=rfl;have e3:((i:Int).tmod 2)=((i%2:Nat):Int):=rfl;rw [e2,e3] at h;omega
  rw [zM (by unfold o4 k9;omega)]
  refine zR ?_;exact ⟨rfl,rfl⟩
 ·have h:¬ (((i/8:Nat):Int).tmod 2)=((i:Int).tmod 2):=h;have h2:¬ (i/8)%2=i%2:=by
   have e2:(((i/8:Nat):Int).tmod 2)=((i/8%2:Nat):Int):=rfl;have e3:((i:Int).tmod 2)=((i%2:Nat):Int):=rfl;rw [e2,e3] at h;omega
  rw [zJ (by unfold o4 k9;omega)]
  refine zR ?_;exact ⟨rfl,rfl⟩
theorem b2B {p:l9} (hp:∀ i:Int,0≤sq p i∧sq p i≤12) {b t:Nat} {fz:Nat×Nat} (w:World) (hT:D5 w) (hb:w.heap[b]?=some (.cells (H3 (A4 p)) t fz)) :
  Calls G.P 250 #[.pointer (some ⟨b,0,none⟩)] w (fun r w'=>Cl w w'∧∃ m,r = .returned (.map (some m))∧w.heap.size≤m∧w'.heap[m]?=some (mpO .i8 .i8 (sqE p 64) (sqE p 64).length)):=by
 refine zN Tryz.func250 ?_;refine zR ?_;refine a4o ?_;have ca:=Cl.alloc w (.map #[] 0);have na:(w.alloc (.map #[] 0)).heap[w.heap.size]?=some (mpO .i8 .i8 (sqE p 0) (sqE p 0).length):=d9 w (.map #[] 0);generalize w.alloc (.map #[] 0)=w1 at *;refine zR ?_;refine B6 (σ:=Nat) [4,5,7] 8 (fun i=>[(7,.int .i64 i)]) (fun i w'=>i≤64∧Cl w w'∧w'.heap[w.heap.size]?=some (mpO .i8 .i8 (sqE p i) (sqE p i).length)) (fun i=>64-i) zk 0 ⟨zo,ca,na⟩ ⟨rfl,trivial⟩ ?_;rintro i j w2 ⟨hi,c2,hm⟩;have ni:=C7 (i:=i) zo;refine zR ?_;apply E.b9<;>intro h
 ·have hi2:i<64:=by omega
  clear h;have ei:IntKind.i8.wrap (i:Int)=(i:Int):=a0q zo zo;have hpi:=a0t hp hi2;refine zR ?_;rw [ei];refine l8 (a1f (A4 p) b i hi2 w2 (hT.cl c2) (c2.blk hb)) ?_;rw [hpi];refine zR ?_;apply E.y6<;>intro h
  ·have h0:¬ sq p i=0:=h;refine zR ?_;rw [ei];refine a5I mSP rfl rfl rfl hm fun w3 u3=>zR ?_;refine ⟨i+1,⟨d8 ni,trivial⟩,⟨zo,u3.cl c2 (yJ _),?_⟩,zo⟩;obtain ⟨e1,e2⟩:=b27 (v:=sq p i) (c:=(sqE p i).length) (c18 p i);rw [u3.at_,e1,e2,b2A,zJ h0,zF];rfl
  ·have h0:sq p i=0:=h;refine zR ?_;refine ⟨i+1,⟨d8 ni,trivial⟩,⟨zo,c2,?_⟩,zo⟩;rw [hm,b2A,zM h0]
 ·have e:i=64:=by omega
  subst e;refine zR ?_;exact ⟨c2,_,rfl,yJ _,hm⟩
theorem c38 {p:l9} (hp:∀ i:Int,0≤sq p i∧sq p i≤12):(0:Int)<(((A4 p).f 1 ||| (A4 p).f 2 ||| (A4 p).f 5 ||| (A4 p).f 7 ||| (A4 p).f 8 ||| (A4 p).f 11:Nat):Int)
  ↔ a04 (fun i=>decide (d6 (sq p i)=2)||decide (d6 (sq p i)=3)||decide (d6 (sq p i)=6)) 64=true:=by
 have e:(A4 p).f 1 ||| (A4 p).f 2 ||| (A4 p).f 5 ||| (A4 p).f 7 ||| (A4 p).f 8 ||| (A4 p).f 11=bb (fun s=>decide (d6 (sq p s)=2)||decide (d6 (sq p s)=3)||decide (d6 (sq p s)=6)):=by
  rw [a0s p 1 zd,a0s p 2 zd,a0s p 5 zd,a0s p 7 zd,a0s p 8 zd,a0s p 11 zd];unfold bbf;rw [a0Z,a0Z,a0Z,a0Z,a0Z];refine a0J fun s _=>?_;have h:=hp s;show (decide (sq p s=2)||decide (sq p s=3)||decide (sq p s=6)||decide (sq p s=8)||decide (sq p s=9)||decide (sq p s=12))=_
  generalize sq p s=x at *;rcases (by omega:x=0∨x=1∨x=2∨x=3∨x=4∨x=5∨x=6∨x=7∨x=8∨x=9∨x=10∨x=11∨x=12) with rfl|rfl|rfl|rfl|rfl|rfl|rfl|rfl|rfl|rfl|rfl|rfl|rfl<;>rfl
 rw [e];constructor
 ·intro h;cases ha:a04 (fun i=>decide (d6 (sq p i)=2)||decide (d6 (sq p i)=3)||decide (d6 (sq p i)=6)) 64 with
  | true=>rfl
  | false =>
   have:bb (fun s=>decide (d6 (sq p s)=2)||decide (d6 (sq p s)=3)||decide (d6 (sq p s)=6))=0:=(a7z _).2 fun s hs=>by
    cases hx:(decide (d6 (sq p s)=2)||decide (d6 (sq p s)=3)||decide (d6 (sq p s)=6)) with
    | false=>rfl
    | true=>rw [a3X hs hx] at ha;cases ha
   rw [this] at h;exact absurd h zd
 ·intro h;obtain ⟨s,hs,hx⟩:=(a3r _ _).1 h;rcases Nat.eq_zero_or_pos (bb (fun s=>decide (d6 (sq p s)=2)||decide (d6 (sq p s)=3)||decide (d6 (sq p s)=6))) with e0|e0
  ·have:=(a7z _).1 e0 s hs;rw [hx] at this;cases this
  ·omega
theorem b50 {p:l9} (hI:D0 p) {c:Int} (hc:c=0∨c=1) {i:Nat} (hi:i<12) (hx:(i:Int)+1=1+6*c):¬ (((A4 p).f i:Nat):Int)=0:=by
 intro e;have e:(A4 p).f i=0:=by omega
 rw [a0s p i hi] at e;unfold bbf at e;obtain ⟨k0,k1,e2,_⟩:=hI.king c hc;have:decide (sq p ((z8 p c).toNat:Int)=(i:Int)+1)=false:=(a7z _).1 e (z8 p c).toNat zo;rw [zi k0,hx,zX e2] at this;cases this
set_option maxHeartbeats 1000000 in
theorem b9b {p:l9} (hI:D0 p) (b:Nat):c33 p b:=by
 intro w hT hb;rw [← b8O];have hp:=hI.pc;have hbig:=c38 hp;have hk0:=b50 hI (.inl rfl) (i:=0) zd rfl;have hk6:=b50 hI (.inr rfl) (i:=6) zd rfl;have hSM:=fun w (hT:D5 w) hb=>b2B hp (b:=b) (t:=237) (fz:=(0,0)) w hT hb;have hS:b5s p=if a04 (fun i=>decide (d6 (sq p i)=2)||decide (d6 (sq p i)=3)||decide (d6 (sq p i)=6)) 64 then true
  else
   let n:=H1 (fun i=>decide (d6 (sq p i)=5)) 64;let b:=H1 (fun i=>decide (d6 (sq p i)=4)) 64;let b0:=H1 (fun i=>decide (d6 (sq p i)=4)&&decide ((o4 i+k9 i)%2=0)) 64;let b1:=H1 (fun i=>decide (d6 (sq p i)=4)&&decide ((o4 i+k9 i)%2=1)) 64
   if b=0∧n=0 then false else if b=1∧n=0 then false else if b=0∧n=1 then false
   else if n=0 then (if b1=0∨b0=0 then false else true) else true:=rfl
 have hzero:∀ t:Int,t≠0→∀ P:Int→Bool,H1 (fun i=>!decide (sq p i=0)&&(decide (d6 (sq p i)=t)&&P i)) 64=H1 (fun i=>decide (d6 (sq p i)=t)&&P i) 64:=fun t ht P=>a9X 64 fun i _=>by
  by_cases h:sq p i=0
  ·rw [h];rw [zV (show ¬ d6 0=t from fun e=>ht e.symm)];rfl
  ·simp [h]
 have h5:((sqE p 64).countP fun x=>decide (d6 x.v=5))=H1 (fun i=>decide (d6 (sq p i)=5)) 64:=by
  have:=hzero 5 zd (fun _=>true);simp only [Bool.and_true] at this;rw [← this];exact a2F p (fun _ v=>decide (d6 v=5)) 64
 have h4:((sqE p 64).countP fun x=>decide (d6 x.v=4))=H1 (fun i=>decide (d6 (sq p i)=4)) 64:=by
  have:=hzero 4 zd (fun _=>true);simp only [Bool.and_true] at this;rw [← this];exact a2F p (fun _ v=>decide (d6 v=4)) 64
 have h40:((sqE p 64).countP fun x=>decide (d6 x.v=4)&&decide ((o4 x.k+k9 x.k)%2=0))=H1 (fun i=>decide (d6 (sq p i)=4)&&decide ((o4 i+k9 i)%2=0)) 64:=by
  rw [← hzero 4 zd (fun i=>decide ((o4 i+k9 i)%2=0))];exact a2F p (fun k v=>decide (d6 v=4)&&decide ((o4 k+k9 k)%2=0)) 64
 have h41:((sqE p 64).countP fun x=>decide (d6 x.v=4)&&decide ((o4 x.k+k9 x.k)%2=1))=H1 (fun i=>decide (d6 (sq p i)=4)&&decide ((o4 i+k9 i)%2=1)) 64:=by
  rw [← hzero 4 zd (fun i=>decide ((o4 i+k9 i)%2=1))];exact a2F p (fun k v=>decide (d6 v=4)&&decide ((o4 k+k9 k)%2=1)) 64
 have l5:=b1c (fun i=>decide (d6 (sq p i)=5)) 64;have l4:=b1c (fun i=>decide (d6 (sq p i)=4)) 64;have hnd:=c36 p 64;have hlt:=c37 p 64;have hmem:∀ x∈sqE p 64,∃ i:Nat,i<64∧x.k=(i:Int)∧0≤x.v∧x.v≤12:=fun x hx=>by
  obtain ⟨i,hi,e1,e2,_⟩:=c16 p 64 x hx;exact ⟨i,hi,e1,by rw [e2];exact (hp i).1,by rw [e2];exact (hp i).2⟩
 have hlen:(sqE p 64).length≤64:=by
  have:=a2F p (fun _ _=>true) 64;simp only [List.countP_true] at this;rw [this];exact b1c _ 64
 rw [← h5,← h4,← h40,← h41] at hS;clear h5 h4 h40 h41 l5 l4 hzero;have hok:(A4 p).Ok:=inferInstance;generalize (sqE p 64)=l at *;generalize A4 p=B at *;generalize a04 (fun i=>decide (d6 (sq p i)=2)||decide (d6 (sq p i)=3)||decide (d6 (sq p i)=6)) 64=A at *
 generalize b5s p=V at *;have hB:=hb;refine zN Tryz.func198 ?_;refine zR ?_;refine zK 30 ?_;refine zQ ?_;intro w1 c1;refine zR ?_;apply E.b9<;>intro h
 ·have hA:=hbig.1 h;rw [zM hA] at hS;refine zR ?_;exact ⟨o8 hS.symm,c1⟩
 have hA:¬ A=true:=fun e=>h (hbig.2 e);rw [zJ hA] at hS;simp only at hS;clear h hbig hA;have hB:=c1.blk hb;refine zB ?_;refine E.p9 hk0 (zB ?_);refine E.p9 hk6 (zR ?_);repeat (refine E.p9 hk0 ?_;refine zR ?_)
 repeat (refine E.p9 hk6 ?_;refine zR ?_)
 refine a4o ?_;have c2:=c1.trans (Cl.alloc w1 (.map #[] 0));have nC:(w1.alloc (.map #[] 0)).heap[w1.heap.size]?=some (mpO .i8 .i64 [] 0):=d9 w1 (.map #[] 0);have s1:=c1.size;have s2:=B0 w1 (.map #[] 0);obtain ⟨C,hC⟩:∃ C,C=w1.heap.size:=⟨_,rfl⟩;rw [← hC] at nC ⊢;generalize w1.alloc (.map #[] 0)=w2 at *;refine zR ?_;refine o7 (hSM w2 (hT.cl c2) (c2.blk hb)) ?_;rintro e w3 ⟨c3,m,rfl,sm,hm⟩;refine ⟨_,rfl,?_⟩;have nC3:=c3.blk nC;have c03:=c2.trans c3;have hml:=F4 hm;refine zR ?_;refine a2D mSP rfl hm hnd hlt fun w4 c4 s4 hI4=>?_;have nC4:=c4.blk nC3;have c04:=c03.trans c4;have hCm:C≠m:=by omega
 have hCr:C≠w3.heap.size:=by omega
 have hmr:m≠w3.heap.size:=by omega
 have h0r:w.heap.size≤w3.heap.size:=c03.size;have h0C:w.heap.size≤C:=by omega
 generalize w3.heap.size=r at *;refine zR ?_;refine B6 (σ:=List En×List En×Nat) [6] 58 (fun _=>[]) (fun s w'=>Cl w w'∧Itr .i8 .i8 w' m r l l.length s.1∧w'.heap[C]?=some (mpO .i8 .i64 s.2.1 s.2.2)∧(∀ x∈s.1,x∈l)∧(∀ t:Int,0≤(O1 s.2.1 t).getD 0)∧∀ t:Int,(O1 s.2.1 t).getD 0+(s.1.countP fun x=>decide (d6 x.v=t):Nat)=(l.countP fun x=>decide (d6 x.v=t):Nat)) (fun s=>s.1.length) zk
  (l,[],0) ⟨c04,hI4,nC4,fun x hx=>hx,fun t=>by rw [a5H];simp,fun t=>by rw [a5H];simp⟩ trivial ?_
 rintro ⟨rem,cm,cc⟩ j w5 ⟨c5,hI5,nC5,hsub,hnn,hcnt⟩;simp only at c5 hI5 nC5 hsub hnn hcnt ⊢;refine zR ?_;refine a3L rfl hI5 (fun e=>?_) (fun r1 x r2 w6 e n6 hI6 hE=>?_);rotate_left
 ·subst e;have hxl:x∈l:=hsub x (by simp)
  obtain ⟨i,hi,ek,v0,v1⟩:=hmem x hxl;have hx:=hcnt (d6 x.v);have hb1:(l.countP fun y=>decide (d6 y.v=d6 x.v))≤l.length:=List.countP_le_length;have hb2:1≤((r1++x::r2).countP fun y=>decide (d6 y.v=d6 x.v)):=by
   rw [xg,List.countP_cons];simp;omega
  have hz:=hnn (d6 x.v);have hcb:IntKind.i64.wrap ((O1 cm (d6 x.v)).getD 0+1)=(O1 cm (d6 x.v)).getD 0+1:=g9 zo zo;have c6:=n6.toCl c5 h0r;have nC6:=n6.blk nC5 hCr;refine zR ?_;refine a2E rfl hE (zR ?_);refine l8 (a2n x.v v0 v1 _) (zR ?_);refine b5w mPI rfl rfl nC6 (zR ?_);rw [hcb];refine a5I mPI rfl rfl rfl nC6 fun w7 u7=>zR ?_;refine ⟨(r1++r2,a8N cm (d6 x.v) ((O1 cm (d6 x.v)).getD 0+1) cc,b3X cm (d6 x.v) cc),trivial,⟨u7.cl c6 h0C,hI6.kp (fun o h=>(Tn.upd u7).blk h (wG hCm)) (fun o h=>(Tn.upd u7).blk h (wG hCr)),u7.at_,fun y hy=>hsub y ?_,fun t=>?_,fun t=>?_⟩,by simp⟩
  ·rcases zr.1 hy with hy|hy
   ·exact yP _ hy
   ·exact List.mem_append_right _ (yY _ hy)
  ·show 0≤(O1 (a8N cm (d6 x.v) ((O1 cm (d6 x.v)).getD 0+1) cc) t).getD 0;rw [a8O];split
   ·simp only [Option.getD_some];omega
   ·exact hnn t
  ·have ht:=hcnt t;show (O1 (a8N cm (d6 x.v) ((O1 cm (d6 x.v)).getD 0+1) cc) t).getD 0+((r1++r2).countP fun x=>decide (d6 x.v=t):Nat)=_;rw [a8O];simp only [xg,List.countP_cons] at ht ⊢;by_cases e:t=d6 x.v
   ·subst e;rw [zM rfl];simp only [decide_true,xy] at ht;simp only [Option.getD_some];omega
   ·rw [zJ e];have e':decide (d6 x.v=t)=false:=zV (wG e);simp only [e',yD,xh] at ht;omega
 ·subst e;have h4:=hcnt 4;have h5:=hcnt 5;simp only [List.countP_nil,Int.natCast_zero,Int.add_zero] at h4 h5;have hm5:=hI5.hb;clear hI5 hsub hnn hcnt hSM hk0 hk6 hB;generalize (l.countP fun x=>decide (d6 x.v=5))=nn at *;generalize (l.countP fun x=>decide (d6 x.v=4))=nb at *;refine zR ?_;by_cases y0:(nn:Int)=0
  ·have hn:nn=0:=by omega
   by_cases z0:(nb:Int)=0
   ·have hS:V=false:=by rw [hS,zM ⟨zo,hn⟩]
    (repeat (first|(refine U1 mPI _ rfl rfl nC5 h4 ?_;refine zR ?_)|(refine U1 mPI _ rfl rfl nC5 h5 ?_;refine zR ?_)|(refine E.z6 z0 ?_;refine zR ?_)|(refine E.z6 y0 ?_;refine zR ?_)))
    exact ⟨o8 hS.symm,c5⟩
   ·rw [zJ zo] at hS;by_cases z1:(nb:Int)=1
    ·have hS:V=false:=by rw [hS,zM ⟨zo,hn⟩]
     (repeat (first|(refine U1 mPI _ rfl rfl nC5 h4 ?_;refine zR ?_)|(refine U1 mPI _ rfl rfl nC5 h5 ?_;refine zR ?_)|(refine E.p9 z0 ?_;refine zR ?_)|(refine E.z6 z1 ?_;refine zR ?_)|(refine E.z6 y0 ?_;refine zR ?_)))
     exact ⟨o8 hS.symm,c5⟩
    ·rw [zJ zo,zJ zo,zM hn] at hS;(repeat (first|(refine U1 mPI _ rfl rfl nC5 h4 ?_;refine zR ?_)|(refine U1 mPI _ rfl rfl nC5 h5 ?_;refine zR ?_)|(refine E.p9 z0 ?_;refine zR ?_)|(refine E.p9 z1 ?_;refine zR ?_)|(refine E.z6 y0 ?_;refine zR ?_)))
     clear nC5 h4 h5 y0 z0 z1 hn;have w1l:(l.countP fun x=>decide (d6 x.v=4)&&decide ((o4 x.k+k9 x.k)%2=1))≤l.length:=List.countP_le_length;have w0l:(l.countP fun x=>decide (d6 x.v=4)&&decide ((o4 x.k+k9 x.k)%2=0))≤l.length:=List.countP_le_length;refine a2D mSP rfl hm5 hnd hlt fun w6 c6 s6 hI6=>?_;have c06:=c5.trans c6;have h0r2:w.heap.size≤w5.heap.size:=c5.size;generalize w5.heap.size=r' at *;refine zR ?_;refine B6 (σ:=List En×Nat×Nat) [7,8,9,10] 96 (fun s=>[(7,.int .i64 s.2.1),(8,.int .i64 s.2.2)]) (fun s w'=>Cl w w'∧Itr .i8 .i8 w' m r' l l.length s.1∧(∀ x∈s.1,x∈l)∧s.2.1+(s.1.countP fun x=>decide (d6 x.v=4)&&decide ((o4 x.k+k9 x.k)%2=1))=(l.countP fun x=>decide (d6 x.v=4)&&decide ((o4 x.k+k9 x.k)%2=1))∧s.2.2+(s.1.countP fun x=>decide (d6 x.v=4)&&decide ((o4 x.k+k9 x.k)%2=0))=(l.countP fun x=>decide (d6 x.v=4)&&decide ((o4 x.k+k9 x.k)%2=0))) (fun s=>s.1.length) zk
      (l,0,0) ⟨c06,hI6,fun x hx=>hx,yW _,yW _⟩ ⟨rfl,rfl,trivial⟩ ?_
     rintro ⟨rem,a1,a0⟩ j w7 ⟨c7,hI7,hsub,e1,e0⟩;simp only at c7 hI7 hsub e1 e0 ⊢;refine zR ?_;refine a3L rfl hI7 (fun e=>?_) (fun r1 x r2 w8 e n8 hI8 hE=>?_);rotate_left
     ·subst e;have hxl:x∈l:=hsub x (by simp)
      obtain ⟨i,hi,ek,v0,v1⟩:=hmem x hxl;have hcol:=fun w=>c19 i hi w;rw [← ek] at hcol;have c8:=n8.toCl c7 h0r2;have hsub2:∀ y∈r1++r2,y∈l:=fun y hy=>hsub y (by
       rcases zr.1 hy with hy|hy
       ·exact yP _ hy
       ·exact List.mem_append_right _ (yY _ hy))
      simp only [xg,List.countP_cons] at e1 e0;have ty:=a2n x.v v0 v1;refine zR ?_;refine a2E rfl hE (zR ?_);refine l8 (ty _) (zR ?_);apply E.b9<;>intro h
      ·have hk:decide (d6 x.v=4)=true:=zX h;clear h;rw [hk] at e1 e0;simp only [yV] at e1 e0;refine zR ?_;refine l8 (hcol _) ?_;by_cases hpar:(o4 x.k+k9 x.k)%2=0
       ·rw [zM hpar];have hp1:¬ (o4 x.k+k9 x.k)%2=1:=by omega
        rw [zV hp1] at e1;rw [zX hpar] at e0;simp only [yD,xh,xy] at e1 e0;have n0:=C7 (i:=a0) zo;refine zR ?_;(repeat (first|(refine E.z6 rfl ?_;refine zR ?_)|(refine E.p9 zd ?_;refine zR ?_)))
        exact ⟨(r1++r2,a1,a0+1),⟨rfl,d8 n0,trivial⟩,⟨c8,hI8,hsub2,by rw [xg];show a1+_=_;omega,by rw [xg];show a0+1+_=_;omega⟩,by simp⟩
       ·rw [zJ hpar];have hp1:(o4 x.k+k9 x.k)%2=1:=by omega
        rw [zX hp1] at e1;rw [zV hpar] at e0;simp only [yD,xh,xy] at e1 e0;have n1:=C7 (i:=a1) zo;refine zR ?_;(repeat (first|(refine E.z6 rfl ?_;refine zR ?_)|(refine E.p9 zd ?_;refine zR ?_)))
        exact ⟨(r1++r2,a1+1,a0),⟨d8 n1,rfl,trivial⟩,⟨c8,hI8,hsub2,by rw [xg];show a1+1+_=_;omega,by rw [xg];show a0+_=_;omega⟩,by simp⟩
      ·have hk:decide (d6 x.v=4)=false:=zV h;clear h;rw [hk] at e1 e0;simp only [xi,yD,xh] at e1 e0;refine zR ?_;exact ⟨(r1++r2,a1,a0),⟨rfl,rfl,trivial⟩,⟨c8,hI8,hsub2,by rw [xg];show a1+_=_;omega,by rw [xg];show a0+_=_;omega⟩,by simp⟩
     ·subst e;simp only [List.countP_nil,Nat.add_zero] at e1 e0;rw [← e1,← e0] at hS;clear e1 e0 w1l w0l;refine zR ?_;by_cases q1:(a1:Int)=0
      ·rw [zM (.inl zo)] at hS;(repeat (refine E.z6 q1 ?_;refine zR ?_))
       exact ⟨o8 hS.symm,c7⟩
      ·by_cases q0:(a0:Int)=0
       ·rw [zM (.inr zo)] at hS;(repeat (first|(refine E.p9 q1 ?_;refine zR ?_)|(refine E.z6 q0 ?_;refine zR ?_)))
        exact ⟨o8 hS.symm,c7⟩
       ·rw [zJ zo] at hS;(repeat (first|(refine E.p9 q1 ?_;refine zR ?_)|(refine E.p9 q0 ?_;refine zR ?_)))
        exact ⟨o8 hS.symm,c7⟩
  ·have hn:¬ nn=0:=by omega
   rw [zJ (fun h=>hn h.2),zJ (fun h=>hn h.2)] at hS;by_cases z0:(nb:Int)=0
   ·by_cases y1:(nn:Int)=1
    ·have hS:V=false:=by rw [hS,zM ⟨zo,zo⟩]
     have z1:¬ (nb:Int)=1:=by omega
     (repeat (first|(refine U1 mPI _ rfl rfl nC5 h4 ?_;refine zR ?_)|(refine U1 mPI _ rfl rfl nC5 h5 ?_;refine zR ?_)|(refine E.z6 z0 ?_;refine zR ?_)|(refine E.p9 z1 ?_;refine zR ?_)|(refine E.p9 y0 ?_;refine zR ?_)|(refine E.z6 y1 ?_;refine zR ?_)))
     exact ⟨o8 hS.symm,c5⟩
    ·have hS:V=true:=by rw [hS,zJ zo,zJ hn]
     have z1:¬ (nb:Int)=1:=by omega
     (repeat (first|(refine U1 mPI _ rfl rfl nC5 h4 ?_;refine zR ?_)|(refine U1 mPI _ rfl rfl nC5 h5 ?_;refine zR ?_)|(refine E.z6 z0 ?_;refine zR ?_)|(refine E.p9 z1 ?_;refine zR ?_)|(refine E.p9 y0 ?_;refine zR ?_)|(refine E.p9 y1 ?_;refine zR ?_)))
     exact ⟨o8 hS.symm,c5⟩
   ·have hS:V=true:=by rw [hS,zJ zo,zJ hn]
    by_cases z1:(nb:Int)=1
    ·(repeat (first|(refine U1 mPI _ rfl rfl nC5 h4 ?_;refine zR ?_)|(refine U1 mPI _ rfl rfl nC5 h5 ?_;refine zR ?_)|(refine E.p9 z0 ?_;refine zR ?_)|(refine E.z6 z1 ?_;refine zR ?_)|(refine E.p9 y0 ?_;refine zR ?_)))
     exact ⟨o8 hS.symm,c5⟩
    ·(repeat (first|(refine U1 mPI _ rfl rfl nC5 h4 ?_;refine zR ?_)|(refine U1 mPI _ rfl rfl nC5 h5 ?_;refine zR ?_)|(refine E.p9 z0 ?_;refine zR ?_)|(refine E.p9 z1 ?_;refine zR ?_)|(refine E.p9 y0 ?_;refine zR ?_)))
     exact ⟨o8 hS.symm,c5⟩
structure H0.Same (z' z:H0):Prop where
 M:z'.M=z.M
 P:z'.P=z.P
 b:z'.b=z.b
 p:z'.p=z.p
theorem c1A {w:World} {G0 M:Nat} {g:Gm} {L:List H0} {z:H0} {d:Nd} (hT:D5 w) (h:I1 w G0 g L z) (hI:D0 z.p) (hN:a1A z.p) (hle:(B5 z.p).length≤218) (hm:d.mv∈A1 z.p) (htg:(d.tags:Int)=a0W z.p d.mv) (hk:d.kids = .slice none 0 0)
  (hM:w.heap[M]?=some (.cells (E8 d) 141 (0,0))) (hoff:∀ n∈L++[z],n.off [M]) (hI':D0 (made z.p d.mv)) (hle':(B5 (made z.p d.mv)).length≤218)
  (hJ:∀ n∈L++[z],D0 n.p) (hlen:L.length+2≤100000) :
  Calls G.P 45 #[.pointer (some ⟨G0,0,none⟩),.pointer (some ⟨M,0,none⟩),.pointer none] w (fun r w'=>r = .returned .nilIface∧∃ g' z' y,z'.Same z∧(∃ ad n c,z'.cv = .slice (some ad) n c)∧I1 w' G0 g' (L++[z']) y∧y.M=M∧y.d.mv=d.mv∧y.d.tags=d.tags
  ∧y.p=made z.p d.mv∧w.heap.size≤y.P∧((g'.meth:Int),g'.out)=C4 ((L++[z]).map H0.p++[y.p]) y.p ((g.meth:Int),g.out)∧Fr [M,z.M,z.P,G0] w w'∧g'.tags=g.tags∧z'.d={ z.d with kids:=z'.d.kids }∧y.d.com=d.com):=by
 have hMl:=F4 hM;refine zN Tryz.func45 ?_;refine zR ?_;refine Y7 true (N6 rfl _) (zR ?_);refine y7 #[.bool false] zk (zR ?_);have ca:=Cl.alloc w (.cells #[.bool false] 145);have na:=d9 w (.cells #[.bool false] 145);generalize w.alloc (.cells #[.bool false] 145)=w1 at *;have h1:=h.step ca;have hz:z.off [M]:=hoff z (by simp)
 refine o7 (b3V hI hle w1 (hT.cl ca) h1.hb h1.posM (ca.blk hM) (F9 h1.hb h1.posM.hd zd) (F9 (ca.blk hM) h1.posM.hd zd)) ?_;rintro e w2 (⟨_,rfl,cv',hP2,n2,hr2,hown⟩|⟨hn,_⟩);rotate_left
 ·exact absurd hm hn
 refine ⟨_,rfl,?_⟩;have hpos:=h.pos;have hkept:∃ ad n c,cv' = .slice (some ad) n c:=by
  obtain ⟨a,n,c,rfl⟩:=hP2.form;obtain ⟨x,hx,_⟩:=(a1X hI).2 d.mv hm;obtain ⟨ad,rfl⟩:=hP2.kept hr2 (fun e=>by rw [e] at hx;cases hx)
  exact ⟨ad,n,c,rfl⟩
 rw [hpos] at n2 hP2;have h2:=h1.recv n2 hP2 hown;have s1:=ca.size;have hM2:=n2.blk (ca.blk hM) (F9 (ca.blk hM) h1.chn.last.2.2.hd zd);have hO2:=n2.blk na (F9 na h1.chn.last.2.2.hd zd);have hoff2:∀ n∈L++[{ z with cv:=cv' }],n.off [M]:=fun n hn=>by
  rcases zr.1 hn with hn|hn
  ·exact hoff n (yP _ hn)
  ·rw [zY.1 hn];refine ⟨hz.M,hz.P,hz.b,fun k hk e=>?_,hz.kids⟩;rcases hown _ e with e|e
   ·exact hz.cv k hk e
   ·rw [zY.1 hk] at e;omega
 have hJ2:∀ n∈L++[{ z with cv:=cv' }],Ch.D0 n.p:=fun n hn=>by
  rcases zr.1 hn with hn|hn
  ·exact hJ n (yP _ hn)
  ·rw [zY.1 hn];exact hI
 have hT2:D5 w2:=(hT.cl ca).fr (Fr.tn (S:=[z.P]) n2 (.inl (by simp))) fun k hk cs t fz hh=>by
  rw [zY.1 hk] at hh;rw [← (xF (yi (h1.chn.last.2.2.hd.symm.trans hh))).2.1];decide
 refine zR ?_;refine H6 true (G7 rfl) (zR ?_);refine o7 (b3W (d:=d) hT2 h2 hI hN hm htg hk hM2 hoff2 hO2 zo hI' hle' (fun b=>b9b hI' b) hJ2 hlen) ?_;rintro e w3 ⟨rfl,g',kv,y,hg,e1,e2,e3,e4,e6,_,e5,f3,e7,e8⟩;refine ⟨_,rfl,zR ?_⟩;refine ⟨rfl,g',H0.led { z with cv:=cv' } kv,y,⟨rfl,rfl,rfl,rfl⟩,hkept,hg,e1,e2,e3,e4,by have:=n2.size;omega,?_,?_,e7,rfl,e8⟩
 ·rw [e5];simp
 ·exact ((Fr.cl ca).trans (Fr.tn n2 (.inl (by simp)))).trans (f3.mono (by intro k hk;simp only [yS,zy,yy] at hk ⊢;rcases hk with e|e|e<;>simp [e]))
end
section
namespace Ch
set_option linter.unusedSimpArgs false
set_option linter.unusedVariables false
def a2s (c:UInt8):Tx→Tx→List Tx
 | cur,[]=>[cur]
 | cur,x::r=>if x=c then cur::a2s c [] r else a2s c (cur++[x]) r
theorem a4r {c:UInt8}:∀ {s cur:Tx},c∉s→a2s c cur s=[cur++s]
 | [],cur,_=>by simp [a2s]
 | x::r,cur,h=>by
  have hx:¬ x=c:=fun e=>h (by rw [e];exact yX)
  rw [a2s,zJ hx,a4r (fun hm=>h (yY _ hm))];simp
theorem a0O {c:UInt8} {b:Tx}:∀ {a cur:Tx},c∉a→a2s c cur (a++c::b)=(cur++a)::a2s c [] b
 | [],cur,_=>by simp [a2s]
 | x::r,cur,h=>by
  have hx:¬ x=c:=fun e=>h (by rw [e];exact yX)
  rw [yU,a2s,zJ hx,a0O (fun hm=>h (yY _ hm))];simp
theorem b2C {c:UInt8}:∀ {s cur:Tx},0<(a2s c cur s).length
 | [],cur=>by simp [a2s]
 | x::r,cur=>by
  rw [a2s];split
  ·simp
  ·exact b2C
theorem a60 {c:UInt8}:∀ {s:Tx},c∈s→s=s.take (s.idxOf c)++c::s.drop (s.idxOf c+1)∧c∉s.take (s.idxOf c)∧s.idxOf c<s.length
 | [],h=>by cases h
 | x::r,h=>by
  by_cases e:x=c
  ·subst e;simp
  ·have hm:c∈r:=by
    rcases yS.1 h with e2|h2
    ·exact absurd e2.symm e
    ·exact h2
   obtain ⟨h1,h2,h3⟩:=a60 hm;have ei:(x::r).idxOf c=r.idxOf c+1:=by rw [List.idxOf_cons,show (x==c)=false by simpa using e];rfl
   rw [ei];refine ⟨?_,?_,by simp;omega⟩
   ·rw [xX,List.drop_succ_cons,yU,← h1]
   ·rw [xX];intro hm2;rcases yS.1 hm2 with e2|h4
    ·exact e e2.symm
    ·exact h2 h4
theorem c1B {c:UInt8} {s:Tx} (h:c∈s):a2s c [] s=s.take (s.idxOf c)::a2s c [] (s.drop (s.idxOf c+1)):=by
 obtain ⟨h1,h2,_⟩:=a60 h;have:=a0O (b:=s.drop (s.idxOf c+1)) (cur:=[]) h2;rw [← h1,yM] at this;exact this
def Ltr (c:UInt8):Prop:=c≠32∧c≠47
theorem a7J (n:Nat):∀ c∈X8 n,∃ k,k<10∧c=UInt8.ofNat (48+k):=by
 induction n using Nat.strongRecOn with
 | _ n ih =>
  intro c hc;unfold X8 at hc;split at hc
  ·rename_i h;exact ⟨n,h,by simpa using hc⟩
  ·rename_i h;rcases zr.1 hc with hc|hc
   ·exact ih (n/10) zo c hc
   ·exact ⟨n%10,zo,by simpa using hc⟩
theorem c1C:∀ k,k<10→Ltr (UInt8.ofNat (48+k)):=by
 unfold Ltr;decide
theorem b1d (n:Nat):∀ c∈X8 n,Ltr c:=fun c hc=>by
 obtain ⟨k,hk,rfl⟩:=a7J n c hc;exact c1C k hk
theorem c39 (x:Int):∀ c∈pcT x,Ltr c:=by
 by_cases h:1≤x∧x≤12
 ·rcases (by omega:x=1∨x=2∨x=3∨x=4∨x=5∨x=6∨x=7∨x=8∨x=9∨x=10∨x=11∨x=12) with rfl|rfl|rfl|rfl|rfl|rfl|rfl|rfl|rfl|rfl|rfl|rfl <;>
   (intro c hc;have:=zY.1 hc;rw [this];exact ⟨zd,zd⟩)
 ·have e:pcT x=[]:=by
   unfold pcT;rw [zJ zo,zJ zo,zJ zo,zJ zo,zJ zo,zJ zo,zJ zo,zJ zo,zJ zo,zJ zo,zJ zo,zJ zo]
  intro c hc;rw [e] at hc;cases hc
theorem b51 (e:Nat):∀ c∈X6 e,Ltr c:=by
 intro c hc;unfold X6 at hc;split at hc
 ·cases hc
 ·exact b1d e c hc
theorem a5J (g:Nat→Int):∀ n f e,∀ c∈a0x g n f e,Ltr c
 | 0,_,e,c,hc=>b51 e c hc
 | n+1,f,e,c,hc=>by
  rw [a0x] at hc;split at hc
  ·exact a5J g n (f+1) (e+1) c hc
  ·rcases zr.1 hc with hc|hc
   ·rcases zr.1 hc with hc|hc
    ·exact b51 e c hc
    ·exact c39 _ c hc
   ·exact a5J g n (f+1) 0 c hc
def a3M (p:l9) (r:Nat):Tx:=a0x (fun f=>sq p (8*(r:Int)+f)) 8 0 0
def a5K (p:l9):Nat→List Tx
 | 0=>[]
 | r+1=>a3M p r::a5K p r
theorem a61 (p:l9):∀ n k,k<n→(a5K p n)[k]?=some (a3M p (n-1-k))
 | n+1,0,_=>by simp [a5K]
 | n+1,k+1,h=>by
  rw [a5K,List.getElem?_cons_succ,a61 p n k zo];rw [show n+1-1-(k+1)=n-1-k by omega]
theorem b0d (p:l9):∀ n,(a5K p n).length=n
 | 0=>rfl
 | n+1=>by rw [a5K,zh,b0d p n]
theorem a8S (p:l9):∀ r,a2s 47 [] (A6 p (r+1))=a5K p (r+1)
 | 0=>by
  have h:(47:UInt8)∉a3M p 0:=fun h=>(a5J _ _ _ _ _ h).2 rfl;have e:A6 p 1=a3M p 0:=by simp [A6,a3M]
  rw [e,a4r h];rfl
 | r+1=>by
  have h:(47:UInt8)∉a3M p (r+1):=fun h=>(a5J _ _ _ _ _ h).2 rfl;have e:A6 p (r+1+1)=a3M p (r+1)++47::A6 p (r+1):=by
   rw [A6,zJ zo];simp [a3M]
  rw [e,a0O h,a8S p r];rfl
theorem b0e (p:l9):∀ r,∀ c∈A6 p r,c≠32
 | 0,c,hc=>by cases hc
 | r+1,c,hc=>by
  rw [A6] at hc;rcases zr.1 hc with hc|hc
  ·rcases zr.1 hc with hc|hc
   ·exact (a5J _ _ _ _ c hc).1
   ·split at hc
    ·cases hc
    ·rw [zY.1 hc];decide
  ·exact b0e p r c hc
theorem b64 (p:l9):a2s 32 [] (O0 p)=[A6 p 8,Y2 p.turn,B9 p.castle,epT p.ep,X8 p.half.toNat,X8 p.full.toNat]:=by
 have n1:(32:UInt8)∉A6 p 8:=fun h=>b0e p 8 _ h rfl;have n2:(32:UInt8)∉Y2 p.turn:=by unfold Y2;split<;>decide
 have n3:(32:UInt8)∉B9 p.castle:=by
  have:∀ a b c d:Bool,(32:UInt8)∉(let t:Tx:=(if a then [75] else [])++(if b then [81] else [])++(if c then [107] else [])++(if d then [113] else []);if t.isEmpty then [45] else t):=by decide
  exact this _ _ _ _
 have n4:(32:UInt8)∉epT p.ep:=by
  unfold epT;split
  ·rename_i h;have:∀ k,k<64→(32:UInt8)∉D2 ((k:Nat):Int)++rankT ((k:Nat):Int):=by decide
   have h2:=this p.ep.toNat zo
   rwa [zi h.1] at h2
  ·decide
 have n5:(32:UInt8)∉X8 p.half.toNat:=fun h=>(b1d _ _ h).1 rfl;have n6:(32:UInt8)∉X8 p.full.toNat:=fun h=>(b1d _ _ h).1 rfl;have e:O0 p=A6 p 8++32::(Y2 p.turn++32::(B9 p.castle++32::(epT p.ep++32::(X8 p.half.toNat++32::X8 p.full.toNat)))):=by simp [O0]
 rw [e,a0O n1,a0O n2,a0O n3,a0O n4,a0O n5,a4r n6];rfl
theorem b1e {p:l9} (hp:∀ i:Int,0≤sq p i∧sq p i≤12) (r:Nat):H2 (a3M p r)=a4Y (fun f=>sq p (8*(r:Int)+f)) 8 0:=by
 unfold a3M;rw [b2w _ (fun f=>hp _) 8 0 0 zo];rfl
theorem b2D (g:Nat→Int):∀ n s k,k<n→(a4Y g n s)[k]?=some (g (s+k))
 | n+1,s,0,_=>by simp [a4Y]
 | n+1,s,k+1,h=>by
  rw [a4Y,List.getElem?_cons_succ,b2D g n (s+1) k zo,show s+1+k=s+(k+1) by omega]
theorem a8T (g:Nat→Int):∀ n s,(a4Y g n s).length=n
 | 0,_=>rfl
 | n+1,s=>by rw [a4Y,zh,a8T g n]
def b4a (c:UInt8):Prop:=(49≤c.toNat∧c.toNat≤56)∨∃ x:Int,1≤x∧x≤12∧pcT x=[c]
theorem b9c (g:Nat→Int):∀ n f e,e+n≤8→∀ c∈a0x g n f e,b4a c:=by
 have hcnt:∀ e,e≤8→∀ c∈X6 e,b4a c:=by
  intro e he c hc;unfold X6 at hc;split at hc
  ·cases hc
  ·rename_i h0;unfold X8 at hc;rw [dif_pos zo] at hc;have:=zY.1 hc;have h2:∀ e,e≤8→e≠0→49≤(UInt8.ofNat (48+e)).toNat∧(UInt8.ofNat (48+e)).toNat≤56:=by
    intro e he h0;rcases (by omega:e=1∨e=2∨e=3∨e=4∨e=5∨e=6∨e=7∨e=8) with rfl|rfl|rfl|rfl|rfl|rfl|rfl|rfl<;>decide
   exact .inl (by rw [this];exact h2 e he h0)
 intro n
 induction n with
 | zero=>intro f e he c hc;exact hcnt e zo c hc
 | succ n ih =>
  intro f e he c hc;rw [a0x] at hc;split at hc
  ·exact ih (f+1) (e+1) zo c hc
  ·rename_i h0;rcases zr.1 hc with hc|hc
   ·rcases zr.1 hc with hc|hc
    ·exact hcnt e zo c hc
    ·refine .inr ⟨g f,zo,zo,?_⟩;have h1:1≤g f:=by omega
     have h2:g f≤12:=by omega
     generalize g f=x at *;rcases (by omega:x=1∨x=2∨x=3∨x=4∨x=5∨x=6∨x=7∨x=8∨x=9∨x=10∨x=11∨x=12) with rfl|rfl|rfl|rfl|rfl|rfl|rfl|rfl|rfl|rfl|rfl|rfl<;>(have:=zY.1 hc;rw [this];rfl)
   ·exact ih (f+1) 0 zo c hc
end Ch
end
section
open Go Go.RowKit
open E
open Ch Bb
theorem b0f (t:Tx):∀ v∈a38 t,v.oneCell'=true:=by intro v hv;simp [a38] at hv;subst hv;rfl
theorem b9d {t:Tx} {i:Nat} (hi:i<t.length):(tx t).get! (i:Int).toNat=t[i]:=by
 show t.toArray[i]! = t[i];rw [getElem!_pos t.toArray i (by simpa using hi)];simp
theorem b65 (t:Int) (ht:t=0∨t=1) (w:World):Calls G.P 192 #[m9 (Y2 t)] w (E5 (.int .i8 (t+1)) w):=by
 rcases ht with rfl|rfl
 ·rw [show Y2 0=[119] from rfl];refine zN Tryz.func192 ?_;refine zR ?_;first|(refine E.z6 rfl ?_;refine zR ?_)|skip
  exact ⟨rfl,rfl⟩
 ·rw [show Y2 1=[98] from rfl];refine zN Tryz.func192 ?_;refine zR ?_;first|(refine E.p9 zd ?_;refine zR ?_)|skip
  first|(refine E.z6 rfl ?_;refine zR ?_)|skip
  exact ⟨rfl,rfl⟩
theorem b4b (c:UInt8) (s:Tx) (i:Nat) (hi:i<s.length):(s.take (i+1)).count c=(s.take i).count c+(if s[i]=c then 1 else 0):=by
 rw [zx hi,List.count_append,List.count_singleton];by_cases h:s[i]=c
 ·simp [h]
 ·simp [h]
theorem b66 (c:UInt8) (s:Tx) (hs:s.length≤100000) (w:World):Calls G.P 239 #[m9 s,m9 [c]] w (E5 (.int .i64 (s.count c)) w):=by
 have h0:(tx [c]).size=1:=C5 _;have hsz:(tx s).size=s.length:=C5 _;refine zN Tryz.func239 ?_;refine zR ?_;refine B6 (σ:=Nat) [5,6] 7 (fun i=>[(5,.int .i64 ((s.take i).count c)),(6,.int .i64 i)]) (fun i w'=>i≤s.length∧w'=w) (fun i=>s.length-i) zk 0 ⟨zo,rfl⟩ ⟨rfl,rfl,trivial⟩ ?_;rintro i j w2 ⟨hi,rfl⟩;have ni:=C7 (i:=i) zo;have hcl:(s.take i).count c≤i:=by have:=List.count_le_length (a:=c) (l:=s.take i);rw [yb] at this;omega
 have nc:=C7 (i:=(s.take i).count c) zo;refine zR ?_;rw [h0,hsz];rw [show ((1:Nat):Int)=1 from rfl,ni];apply E.b9<;>intro h
 ·have hi2:i<s.length:=by omega
  clear h;have htk:=b4b c s i hi2;refine zR ?_;rw [h0,show ((1:Nat):Int)=1 from rfl,ni];refine a1d [s[i]] rfl rfl rfl rfl zo zo zo ?_ ?_
  ·rw [show ((i+1:Nat):Int).toNat-(i:Int).toNat=1 by omega,zg];exact c4I hi2
  refine zR ?_;apply E.b9<;>intro h
  ·have e:=P8.1 h;injection e with e;rw [zM e] at htk;refine zR ?_;rw [h0,show ((1:Nat):Int)=1 from rfl];exact ⟨i+1,⟨d8 (by rw [nc,htk]),d8 ni,trivial⟩,⟨zo,rfl⟩,zo⟩
  ·have e:¬ s[i]=c:=fun e=>h (by rw [e])
   rw [zJ e] at htk;refine zR ?_;exact ⟨i+1,⟨d8 zo,d8 ni,trivial⟩,⟨zo,rfl⟩,zo⟩
 ·have e:i=s.length:=by omega
  subst e;rw [yZ];refine zR ?_;exact ⟨rfl,rfl⟩
theorem b4c (i:Nat) (hi:i<64):D2 (i:Int)++rankT (i:Int)=[UInt8.ofNat (97+i%8),UInt8.ofNat (49+i/8)]∧(UInt8.ofNat (97+i%8)).toNat=97+i%8∧(UInt8.ofNat (49+i/8)).toNat=49+i/8:=by
 refine ⟨?_,?_,?_⟩
 ·unfold D2 rankT;rw [show ((i:Int)%8).toNat=i%8 by omega,show ((i:Int)/8).toNat=i/8 by omega];rfl
 ·rw [UInt8.toNat_ofNat'];omega
 ·rw [UInt8.toNat_ofNat'];omega
theorem a9r (i:Nat) (hi:i<64) (w:World):Calls G.P 240 #[m9 (D2 (i:Int)++rankT (i:Int))] w (N2 (.int .i8 i) w):=by
 obtain ⟨e0,e1,e2⟩:=b4c i hi;rw [e0];clear e0;generalize UInt8.ofNat (97+i%8)=a at *;generalize UInt8.ofNat (49+i/8)=b at *;have hsz:(tx [a,b]).size=2:=rfl;have g0:(tx [a,b]).get! (0:Int).toNat=a:=rfl;have g1:(tx [a,b]).get! (1:Int).toNat=b:=rfl;have c1:IntKind.i8.wrap (IntKind.u8.wrap ((a.toNat:Int)-97))=((i%8:Nat):Int):=by rw [e1,b1U zo zo,a0q zo zo];omega
 have c2:IntKind.i8.wrap (IntKind.u8.wrap ((b.toNat:Int)-49))=((i/8:Nat):Int):=by rw [e2,b1U zo zo,a0q zo zo];omega
 have hns:=fun w=>b0W (i%8) (i/8) zo zo w;rw [show 8*(i/8)+i%8=i by omega] at hns
 refine zN Tryz.func240 ?_;refine zR ?_;rw [hsz];have h1:¬ ((((tx [a,b]).get! (Int.toNat 0)).toNat:Int)<97):=by rw [g0,e1];omega
 have h2:¬ ((104:Int)<(((tx [a,b]).get! (Int.toNat 0)).toNat:Int)):=by rw [g0,e1];omega
 have h3:¬ ((((tx [a,b]).get! (Int.toNat 1)).toNat:Int)<49):=by rw [g1,e2];omega
 have h4:¬ ((56:Int)<(((tx [a,b]).get! (Int.toNat 1)).toNat:Int)):=by rw [g1,e2];omega
 repeat (first|(refine E.p9 h1 ?_;refine zR ?_)|(refine E.p9 h2 ?_;refine zR ?_)|(refine E.p9 h3 ?_;refine zR ?_)|(refine E.p9 h4 ?_;refine zR ?_))
 clear h1 h2 h3 h4;refine zK 10 ?_;rw [← g0] at c1;rw [← g1] at c2;refine zR ?_;rw [c1,c2];refine m8 _ (fun w _=>hns w) (zR ?_);intro w1 hw1;refine zR ?_;exact ⟨rfl,hw1⟩
theorem mFP:a1K 272 199 194 .i8 .i8:=a8M zk
theorem a8U:∀ {r1:List En} {x:En} {r2:List En},((r1++x::r2).map (·.k)).Nodup→a5G x.k (r1++x::r2)=r1++r2
 | [],x,r2,_=>by rw [yM,a5G,zM rfl];rfl
 | y::r1,x,r2,h=>by
  rw [yU,yQ,List.nodup_cons] at h;have hne:¬ x.k=y.k:=fun e=>h.1 (by rw [← e];exact xJ.2 ⟨x,by simp,rfl⟩)
  rw [yU,a5G,zJ hne,a8U h.2];rfl
theorem a2e {β:Type} (f:En→β) {r1:List En} {x:En} {r2:List En} (h:((r1++x::r2).map f).Nodup):((r1++r2).map f).Nodup :=
 (List.Sublist.map f (List.Sublist.append (List.Sublist.refl r1) (List.sublist_cons_self x r2))).nodup h
theorem Itr.del {qk qe:IntKind} {w w':World} {b r c:Nat} {r1 r2:List En} {x:En} (h:Itr qk qe w b r (r1++x::r2) c (r1++r2)) (hk:((r1++x::r2).map (·.k)).Nodup) (u:Upd w b (mpO qk qe (a5G x.k (r1++x::r2)) c) w'):Itr qk qe w' b r (r1++r2) c (r1++r2):=by
 obtain ⟨hb,⟨seen,s,c0,hr,hrem,hold,h1,h2⟩,nd⟩:=h;have hne:r≠b:=fun e=>by rw [e,hb] at hr;cases hr
 rw [a8U hk] at u;refine ⟨u.at_,⟨seen,s,c0,(Tn.upd u).blk hr hne,?_,fun y hy=>hold y ?_,h1,h2⟩,a2e _ nd⟩
 ·have hin:∀ y∈r1++r2,(!seen.contains y.n)=true:=fun y hy=>by
   rw [hrem] at hy;exact (xW.1 hy).2
  exact (List.filter_eq_self.2 hin).symm
 ·rcases zr.1 hy with hy|hy
  ·exact yP _ hy
  ·exact List.mem_append_right _ (yY _ hy)
theorem b67 {b c:Nat} {l:List En} (hn:(l.map (·.n)).Nodup) (hc:∀ x∈l,x.n<c) (hk:(l.map (·.k)).Nodup) (w:World) (hb:w.heap[b]?=some (mpO .i8 .i8 l c)) :
  Calls G.P 235 #[.map (some b)] w (fun r w'=>r = .returned (.tuple #[])∧w'.heap[b]?=some (mpO .i8 .i8 [] c)∧Tn b w w'):=by
 have hbs:=F4 hb;refine zN Tryz.func235 ?_;refine zR ?_;refine a2D mSP rfl hb hn hc fun w1 c1 s1 hI=>zR ?_;refine B6 (σ:=List En) [2] 5 (fun _=>[]) (fun rem w'=>Tn b w w'∧(rem.map (·.k)).Nodup∧Itr .i8 .i8 w' b w.heap.size rem c rem) (fun rem=>rem.length) zk l ⟨Tn.cl c1,hk,hI⟩ trivial ?_;rintro rem j w2 ⟨n2,hk2,hI2⟩;refine zR ?_;refine a3L rfl hI2 (fun e=>?_) (fun r1 x r2 w3 e n3 hI3 hE=>?_)
 ·refine zR ?_;subst e;exact ⟨rfl,hI2.hb,n2⟩
 ·subst e;refine zR ?_;refine a2E rfl hE (zR ?_);refine b5x mSP rfl rfl hE.hb fun w4 u4=>zR ?_;refine ⟨r1++r2,trivial,⟨?_,a2e _ hk2,Itr.del hI3 hk2 u4⟩,by simp⟩
  exact (n2.skip n3 (yJ _)).trans (Tn.upd u4)
theorem b0g {b c:Nat} {l:List En} (hn:(l.map (·.n)).Nodup) (hc:∀ x∈l,x.n<c) (hk:(l.map (·.k)).Nodup) (w:World) (hb:w.heap[b]?=some (mpO .i8 .i8 l c)) :
  Calls G.P 236 #[.map (some b)] w (fun r w'=>r = .returned (.tuple #[])∧w'.heap[b]?=some (mpO .i8 .i8 [] c)∧Tn b w w'):=by
 have hbs:=F4 hb;refine zN Tryz.func236 ?_;refine zR ?_;refine a2D mFP rfl hb hn hc fun w1 c1 s1 hI=>zR ?_;refine B6 (σ:=List En) [2] 5 (fun _=>[]) (fun rem w'=>Tn b w w'∧(rem.map (·.k)).Nodup∧Itr .i8 .i8 w' b w.heap.size rem c rem) (fun rem=>rem.length) zk l ⟨Tn.cl c1,hk,hI⟩ trivial ?_;rintro rem j w2 ⟨n2,hk2,hI2⟩;refine zR ?_;refine a3L rfl hI2 (fun e=>?_) (fun r1 x r2 w3 e n3 hI3 hE=>?_)
 ·refine zR ?_;subst e;exact ⟨rfl,hI2.hb,n2⟩
 ·subst e;refine zR ?_;refine a2E rfl hE (zR ?_);refine b5x mFP rfl rfl hE.hb fun w4 u4=>zR ?_;refine ⟨r1++r2,trivial,⟨?_,a2e _ hk2,Itr.del hI3 hk2 u4⟩,by simp⟩
  exact (n2.skip n3 (yJ _)).trans (Tn.upd u4)
theorem a8V {c:UInt8} (h:b4a c):(49≤c.toNat∧c.toNat≤56∧b8P c=List.replicate (c.toNat-48) 0)∨(¬ (49≤c.toNat∧c.toNat≤56)∧c.toNat<128∧b8P c=[a3g c.toNat]∧a3g c.toNat≠0∧0≤a3g c.toNat∧a3g c.toNat≤12):=by
 rcases h with h|⟨x,h0,h1,h⟩
 ·refine .inl ⟨h.1,h.2,?_⟩;unfold b8P;rw [zM ⟨UInt8.le_iff_toNat_le.2 h.1,UInt8.le_iff_toNat_le.2 h.2⟩]
 ·refine .inr ?_;rcases (by omega:x=1∨x=2∨x=3∨x=4∨x=5∨x=6∨x=7∨x=8∨x=9∨x=10∨x=11∨x=12) with rfl|rfl|rfl|rfl|rfl|rfl|rfl|rfl|rfl|rfl|rfl|rfl <;>
   (injection h with h _;subst h;exact ⟨zd,zd,zd,zd,zd,zd⟩)
theorem b68 (t:Tx) (i:Nat) (hi:i<t.length):H2 (t.take (i+1))=H2 (t.take i)++b8P t[i]:=by
 rw [zx hi,a0N];simp [H2]
set_option maxHeartbeats 1000000 in
theorem b4d {g:Nat→Int} {t:Tx} (ht:H2 t=a4Y g 8 0) (hc:∀ c∈t,b4a c) (hl:t.length≤100) {fb c0:Nat} (w:World) (hT:D5 w) (hb:w.heap[fb]?=some (mpO .i8 .i8 [] c0)) :
  Calls G.P 237 #[m9 t,.map (some fb)] w (fun r w'=>r = .returned .nilIface∧w'.heap[fb]?=some (mpO .i8 .i8 (enG g c0 8) (c0+(enG g c0 8).length))∧Tn fb w w'):=by
 have hsz:(tx t).size=t.length:=C5 _;have hpre:∀ i,H2 t=H2 (t.take i)++H2 (t.drop i):=fun i=>by rw [← a0N,xm]
 have hn8:∀ i,(H2 (t.take i)).length≤8:=fun i=>by
  have:=yH List.length (hpre i);rw [ht,a8T,zF] at this;omega
 have hget:∀ i k (h:k<(H2 (t.take i)).length),(H2 (t.take i))[k]=g k:=fun i k h=>by
  have h1:=b2D g 8 0 k (by have:=hn8 i;omega)
  rw [← ht,hpre i,List.getElem?_append_left h,ym h,yW] at h1;injection h1
 refine zN Tryz.func237 ?_;refine zR ?_;rw [hsz];refine B6 (σ:=Nat) [4,5,6,7,8,11] 12 (fun i=>[(5,.int .i64 ((H2 (t.take i)).length:Nat)),(11,.int .i64 i)]) (fun i w'=>i≤t.length∧Tn fb w w'∧w'.heap[fb]?=some (mpO .i8 .i8 (enG g c0 (H2 (t.take i)).length) (c0+(enG g c0 (H2 (t.take i)).length).length))) (fun i=>t.length-i) zk 0
  ⟨xA _,Tn.refl _ _,hb⟩ ⟨rfl,rfl,trivial⟩ ?_
 rintro i j w2 ⟨hi,n2,hm⟩;have ni:=C7 (i:=i) zo;refine zR ?_;apply E.b9<;>intro h
 ·have hi2:i<t.length:=by omega
  clear h;have htk:=b68 t i hi2;have hx:=a8V (hc _ (yO hi2));have hgt:(tx t).get! (i:Int).toNat=t[i]:=b9d hi2;have h8:=hn8 (i+1);have hg:=hget (i+1);have h80:=hn8 i;refine zR ?_;refine E.A8 (F2.2 ⟨zo,by rw [hsz];omega⟩) (zR ?_)
  rw [hgt];generalize t[i]=c at *;rcases hx with ⟨d0,d1,hx⟩|⟨hd,hc8,hx,hx0,hx1,hx2⟩
  ·have hk:c.toNat-48+48=c.toNat:=by omega
   have e8:IntKind.u8.wrap ((c.toNat:Int)-48)=((c.toNat-48:Nat):Int):=by rw [b1U zo zo];omega
   have e64:IntKind.i64.wrap ((c.toNat-48:Nat):Int)=((c.toNat-48:Nat):Int):=g9 zo zo;rw [hx] at htk;have hlen:(H2 (t.take (i+1))).length=(H2 (t.take i)).length+(c.toNat-48):=by rw [htk,zF,List.length_replicate]
   have es:IntKind.i64.wrap (((H2 (t.take i)).length:Int)+((c.toNat-48:Nat):Int))=((H2 (t.take (i+1))).length:Int):=by rw [hlen,g9 zo zo];push_cast;rfl
   have hskip:=b29 g c0 (H2 (t.take i)).length (c.toNat-48) fun k h1 h2=>by
    have h3:=hg k zo;rw [← h3];have h4:(H2 (t.take (i+1)))[k]'zo=(H2 (t.take i)++List.replicate (c.toNat-48) 0)[k]'(by rw [← htk];omega):=by congr 1
    rw [h4,wH h1,List.getElem_replicate]
   have t1:(49:Int)≤(c.toNat:Int):=by omega
   have t2:(c.toNat:Int)≤56:=by omega
   (repeat (first|(refine E.z6 t1 ?_;refine zR ?_)|(refine E.z6 t2 ?_;refine zR ?_)))
   rw [e8,e64,es];exact ⟨i+1,⟨rfl,d8 ni,trivial⟩,⟨zo,n2,by rw [hm,hlen,hskip]⟩,zo⟩
  ·rw [hx] at htk;have hlen:(H2 (t.take (i+1))).length=(H2 (t.take i)).length+1:=by rw [htk,zF];rfl
   have hgn:g (H2 (t.take i)).length=a3g c.toNat:=by
    have h3:=hg (H2 (t.take i)).length zo;rw [← h3];have h4:(H2 (t.take (i+1)))[(H2 (t.take i)).length]'zo=(H2 (t.take i)++[a3g c.toNat])[(H2 (t.take i)).length]'(by simp):=by congr 1
    rw [h4,wH (yJ _)];simp
   have hnew:=b5z g c0 (H2 (t.take i)).length;have hsu:enG g c0 ((H2 (t.take i)).length+1)=enG g c0 (H2 (t.take i)).length++[⟨((H2 (t.take i)).length:Nat),a3g c.toNat,c0+(enG g c0 (H2 (t.take i)).length).length⟩]:=by
    rw [enG,hgn,zJ hx0]
   rw [← hlen] at hsu;have e8:IntKind.i8.wrap ((H2 (t.take i)).length:Int)=((H2 (t.take i)).length:Int):=a0q zo zo;have es:IntKind.i64.wrap (((H2 (t.take i)).length:Int)+1)=((H2 (t.take (i+1))).length:Int):=by rw [hlen,g9 zo zo];push_cast;rfl
   have hT2:D5 w2:=hT.fr (Fr.tn (S:=[fb]) n2 (.inl (by simp))) fun k hk cs u fz hh=>by
    rw [zY.1 hk,hb] at hh;cases hh
   have fin:∀ w3,Upd w2 fb (mpO .i8 .i8 (a8N (enG g c0 (H2 (t.take i)).length) ((H2 (t.take i)).length:Int) (a3g c.toNat) (c0+(enG g c0 (H2 (t.take i)).length).length)) (b3X (enG g c0 (H2 (t.take i)).length) ((H2 (t.take i)).length:Int) (c0+(enG g c0 (H2 (t.take i)).length).length))) w3 →
     i+1≤t.length∧Tn fb w w3∧w3.heap[fb]?=some (mpO .i8 .i8 (enG g c0 (H2 (t.take (i+1))).length) (c0+(enG g c0 (H2 (t.take (i+1))).length).length)):=fun w3 u3=>by
    obtain ⟨q1,q2⟩:=b27 (v:=a3g c.toNat) (c:=c0+(enG g c0 (H2 (t.take i)).length).length) hnew;refine ⟨hi2,n2.trans (Tn.upd u3),?_⟩;rw [u3.at_,q1,q2,hsu,zF];rfl
   clear hsu hgn hnew hg htk hlen;have ldp:g8 G.P w2 194 ⟨8,c.toNat,none⟩ (.int .i8 (a3g c.toNat)):=K6 hT2.fen (i:=c.toNat) hc8 rfl rfl;by_cases t1:(49:Int)≤(c.toNat:Int)
   ·have t2:¬ (c.toNat:Int)≤56:=by omega
    (repeat (first|(refine E.z6 t1 ?_;refine zR ?_)|(refine E.p9 t2 ?_;refine zR ?_)))
    refine zC ?_;refine zR ?_;refine b7 _ ldp (zR ?_);refine E.p9 hx0 (zR ?_);rw [e8];refine a5I mFP rfl rfl rfl hm fun w3 u3=>zR ?_;rw [es];exact ⟨i+1,⟨rfl,d8 ni,trivial⟩,fin w3 u3,zo⟩
   ·(repeat (first|(refine E.p9 t1 ?_;refine zR ?_)))
    refine zC ?_;refine zR ?_;refine b7 _ ldp (zR ?_);refine E.p9 hx0 (zR ?_);rw [e8];refine a5I mFP rfl rfl rfl hm fun w3 u3=>zR ?_;rw [es];exact ⟨i+1,⟨rfl,d8 ni,trivial⟩,fin w3 u3,zo⟩
 ·have e:i=t.length:=by omega
  subst e;rw [yZ] at hm;have h8:(H2 t).length=8:=by rw [ht,a8T]
  rw [h8] at hm;rw [yZ,h8];refine zR ?_;exact ⟨rfl,hm,n2⟩
def a3N (f:Nat→Bool):Nat→Nat
 | 0=>0
 | n+1=>bif f n then Ch.shl (a3N f n) 1 ||| 1 else Ch.shl (a3N f n) 1
instance accB_ok (f:Nat→Bool) (n:Nat):G9 (a3N f n):=⟨by
 cases n with
 | zero=>show (0:Nat)<2^64;decide
 | succ n =>
  rw [a3N];cases f n
  ·exact Ch.a8h _ _
  ·exact b8p (Ch.a8h _ _) zd⟩
theorem b9e (a j:Nat):(Ch.shl a 1).testBit j=(decide (j<64)&&(decide (1≤j)&&a.testBit (j-1))):=by
 unfold Ch.shl;rw [Nat.testBit_mod_two_pow,Nat.testBit_shiftLeft]
theorem c1D (k:Nat):(1:Nat).testBit (k+1)=false:=by
 rw [Nat.testBit_succ];simp
theorem b2E (f:Nat→Bool):∀ n,n≤64→∀ j,(a3N f n).testBit j=(decide (j<n)&&f (n-1-j))
 | 0,_,j=>by simp [a3N]
 | n+1,hn,j=>by
  have ih:=b2E f n zo;have hs:(a3N f (n+1)).testBit j=((Ch.shl (a3N f n) 1).testBit j||(f n&&(1:Nat).testBit j)):=by
   rw [a3N];cases f n
   ·simp
   ·simp [yF]
  rw [hs,b9e];cases j with
  | zero=>simp
  | succ k =>
   rw [c1D,Bool.and_false,Bool.or_false,show k+1-1=k from rfl,ih k,show n+1-1-(k+1)=n-1-k by omega]
   by_cases hk:k<n
   ·rw [zX (show k+1<64 by omega),zX hk,zX (show k+1<n+1 by omega)];simp
   ·rw [zV hk,zV (show ¬ k+1<n+1 by omega)];simp
theorem b9f (f:Nat→Bool):a3N f 64=bb f:=a97 (accB_ok f 64).lt fun s hs=>by
 rw [b2E f 64 (yJ _),zX (show 63-s<64 by omega),show 64-1-(63-s)=s by omega];rfl
def kn1 (K:Int) (i:Nat):Int:=if K<i then K else -1
theorem b52 {K:Int} {i:Nat} (h:K=i):kn1 K (i+1)=i:=by unfold kn1;rw [zM zo,h]
theorem a5L {K:Int} {i:Nat} (h:¬ K=i):kn1 K (i+1)=kn1 K i:=by
 unfold kn1;by_cases h2:K<i
 ·rw [zM h2,zM zo]
 ·rw [zJ h2,zJ zo]
def kb (S:MB) (a c:Int):MB:={ S with wk:=a,bk:=c }
instance kb_ok {S:MB} [h:S.Ok] {a c:Int}:(kb S a c).Ok:=⟨h.lt⟩
set_option maxHeartbeats 1000000 in
theorem b6A {p:l9} (hI:D0 p) {B:MB} [hO:B.Ok] (hA:B.Is (fun s=>sq p s)) (hz:∀ i,15≤i→B.f i=0) {b:Nat} (w:World) (hB:w.heap[b]?=some (.cells (H3 B) 237 (0,0))) :
  Calls G.P 277 #[.pointer (some ⟨b,0,none⟩),.pointer none] w (fun r w'=>r = .returned (.tuple #[])∧w'.heap[b]?=some (.cells (H3 (A4 p)) 237 (0,0))∧Tn b w w'):=by
 obtain ⟨a0,a1,a2,a3⟩:=hI.king 0 (.inl rfl);obtain ⟨b0,b1,b2,b3⟩:=hI.king 1 (.inr rfl);have hfin:H3 (kb B.sums (z8 p 0) (z8 p 1))=H3 (A4 p):=by
  congr 1;exact a6o (fun i=>b5g hI.pc hA hz i) rfl rfl
 have t0:∀ s:Nat,s<64→(B.f 0).testBit (63-s)=decide (z8 p 0=(s:Int)):=fun s hs=>by
  rw [hA 0 zd,a0r _ _ hs];refine ya.2 ⟨fun h=>(a3 s zo zo h).symm,fun h=>?_⟩;rw [← h];exact a2
 have t6:∀ s:Nat,s<64→(B.f 6).testBit (63-s)=decide (z8 p 1=(s:Int)):=fun s hs=>by
  rw [hA 6 zd,a0r _ _ hs];refine ya.2 ⟨fun h=>(b3 s zo zo h).symm,fun h=>?_⟩;rw [← h];exact b2
 have hne:z8 p 0≠z8 p 1:=fun e=>by rw [e,b2] at a2;exact absurd a2 zd
 generalize z8 p 0=K0 at *;generalize z8 p 1=K1 at *;rw [← hfin];clear hfin a2 a3 b2 b3;have eW:B.whites=B.f 0 ||| B.f 1 ||| B.f 2 ||| B.f 3 ||| B.f 4 ||| B.f 5:=rfl
 have eK:B.blacks=B.f 6 ||| B.f 7 ||| B.f 8 ||| B.f 9 ||| B.f 10 ||| B.f 11:=rfl
 have lW:G9 B.whites:=inferInstance;have lK:G9 B.blacks:=inferInstance;have eS:B.sums=((B.set 12 B.whites).set 13 B.blacks).set 14 (Bb.not (B.whites ||| B.blacks)):=rfl
 have s0:B.sums.f 0=B.f 0:=rfl;have s6:B.sums.f 6=B.f 6:=rfl;have hSO:B.sums.Ok:=inferInstance;rw [← s0] at t0;rw [← s6] at t6;clear s0 s6;refine zN Tryz.func277 ?_;refine zR ?_;refine zK 30 ?_;refine zQ ?_;intro w1 c1;have hB1:=c1.blk hB;refine zR ?_;refine zK 30 ?_;clear hB;have hB:=hB1;refine zQ ?_;intro w2 c2;have hB2:=c2.blk hB1;have n2:Tn b w w2:=Tn.cl (c1.trans c2);clear hB hB1 c1 c2;rw [← eW,← eK];clear eW eK;generalize B.whites=W at *;generalize B.blacks=K at *;have hB:=hB2;refine zB ?_;refine a6s hB 12 zd _ (fun w3 u3=>?_);have n3:=n2.trans (Tn.upd u3);have hB:=u3.at_;refine zB ?_;refine a6s hB 13 zd _ (fun w4 u4=>?_);have n4:=n3.trans (Tn.upd u4);have hB:=u4.at_;refine zB ?_;refine a6s hB 14 zd _ (fun w5 u5=>?_);have n5:=n4.trans (Tn.upd u5);have hB:=u5.at_;rw [← eS] at hB;clear eS u3 u4 u5 n3 n4 n2 hB2 lW lK;generalize B.sums=S at *;refine zB ?_;refine Y7 true (N6 rfl _) (zB ?_);refine c3j hB _ (fun w6 u6=>?_);have n6:=n5.trans (Tn.upd u6);have hB:=u6.at_;refine zB ?_;refine c3k hB _ (fun w7 u7=>?_);have n7:=n6.trans (Tn.upd u7);have hB7:w7.heap[b]?=some (.cells (H3 (kb S (kn1 K0 0) (kn1 K1 0))) 237 (0,0)):=by
  have e0:kn1 K0 0=-1:=zJ zo;have e1:kn1 K1 0=-1:=zJ zo;rw [e0,e1];exact u7.at_
 clear hB u6 u7 n5 n6;refine zR ?_;refine B6 (σ:=Nat) [7,8,92] 93 (fun i=>[(92,.int .i64 i)]) (fun i w'=>i≤64∧Tn b w w'∧w'.heap[b]?=some (.cells (H3 (kb S (kn1 K0 i) (kn1 K1 i))) 237 (0,0))) (fun i=>64-i) zk 0 ⟨zo,n7,hB7⟩ ⟨rfl,trivial⟩ ?_;rintro i j w8 ⟨hi,n8,hB⟩;have ni:=C7 (i:=i) zo;refine zR ?_;apply E.b9<;>intro h
 ·have hi2:i<64:=by omega
  clear h;have ei:IntKind.i8.wrap (i:Int)=(i:Int):=a0q zo zo;have h0:=t0 i hi2;have h6:=t6 i hi2;have o0:=fun w=>a1F (S.f 0) i hi2 w;have o6:=fun w=>a1F (S.f 6) i hi2 w;rw [h0] at o0;rw [h6] at o6;have ld0:g8 G.P w8 235 ⟨b,0,none⟩ (.int .u64 (S.f 0)):=X0 hB 0 zd;have ld6:g8 G.P w8 235 ⟨b,6,none⟩ (.int .u64 (S.f 6)):=X0 hB 6 zd;refine zR ?_;refine b7 _ ld0 (zR ?_);rw [ei];refine l8 (o0 _) (zR ?_);apply E.b9<;>intro h
  ·refine zR ?_;refine c3j hB _ (fun w9 u9=>zR ?_);refine ⟨i+1,⟨d8 ni,trivial⟩,⟨zo,n8.trans (Tn.upd u9),?_⟩,zo⟩;rw [b52 h,a5L (fun e=>hne (h.trans e.symm))];exact u9.at_
  ·have hn0:=h;clear h;refine zR ?_;refine b7 _ ld6 (zR ?_);refine l8 (o6 _) (zR ?_);apply E.b9<;>intro h
   ·refine zR ?_;refine c3k hB _ (fun w9 u9=>zR ?_);refine ⟨i+1,⟨d8 ni,trivial⟩,⟨zo,n8.trans (Tn.upd u9),?_⟩,zo⟩;rw [b52 h,a5L hn0];exact u9.at_
   ·refine zR ?_;refine ⟨i+1,⟨d8 ni,trivial⟩,⟨zo,n8,?_⟩,zo⟩;rw [a5L h,a5L hn0];exact hB
 ·have e:i=64:=by omega
  subst e;refine zR ?_;refine ⟨rfl,?_,n8⟩;have e0:kn1 K0 64=K0:=zM zo;have e1:kn1 K1 64=K1:=zM zo;rw [hB,e0,e1]
def bdI (p:l9) (i:Nat):MB:=⟨fun k=>if k<i then bbf (fun s=>sq p s) k else 0,0,0⟩
instance bdI_ok (p:l9) (i:Nat):(bdI p i).Ok:=⟨fun k=>by
 show (if k<i then _ else _)<_
 split
 ·exact a4T _ _
 ·decide⟩
theorem c1E (p:l9) (i:Nat):(bdI p i).set i (bbf (fun s=>sq p s) i)=bdI p (i+1):=by
 refine a6o (fun k=>?_) rfl rfl;show (if k=i then _ else if k<i then _ else _)=if k<i+1 then _ else _
 by_cases h:k=i
 ·subst h;rw [zM rfl,zM zo]
 ·rw [zJ h];by_cases h2:k<i
  ·rw [zM h2,zM zo]
  ·rw [zJ h2,zJ zo]
def nzO (x:Int):Option Int:=if x=0 then none else some x
theorem c3A (x y:Int) (hy:y≠0):(nzO x).isSome=true∧y=(nzO x).getD 0↔x=y:=by
 unfold nzO;by_cases h:x=0
 ·rw [zM h];constructor
  ·intro h;cases h.1
  ·intro e;exact absurd (h.symm.trans e).symm hy
 ·rw [zJ h];constructor
  ·intro h;exact h.2.symm
  ·intro e;exact ⟨rfl,e.symm⟩
set_option maxHeartbeats 1000000 in
theorem b4e {p:l9} (hI:D0 p) {m c:Nat} {l:List En} (hl:∀ i:Nat,i<64→O1 l (i:Int)=nzO (sq p i)) (w:World) (hT:D5 w) (hm:w.heap[m]?=some (mpO .i8 .i8 l c)) :
  Calls G.P 238 #[.map (some m)] w (fun r w'=>Cl w w'∧∃ b,r = .returned (.pointer (some ⟨b,0,none⟩))∧w.heap.size≤b∧w'.heap[b]?=some (.cells (H3 (A4 p)) 237 (0,0))):=by
 obtain ⟨ga,oga,cp,ha1,ha2⟩:=hT.all;have hbd0:H3 (bdI p 0)=H3 ⟨fun _=>0,0,0⟩:=by congr 1
 refine zN Tryz.func238 ?_;refine zR ?_;refine y7 (H3 ⟨fun _=>0,0,0⟩) zk (zR ?_);have ca:=Cl.alloc w (.cells (H3 ⟨fun _=>0,0,0⟩) 237);have na:=d9 w (.cells (H3 ⟨fun _=>0,0,0⟩) 237);generalize w.alloc (.cells (H3 ⟨fun _=>0,0,0⟩) 237)=w1 at *;rw [← hbd0] at na;clear hbd0;refine b7 _ (K6 (ha1.cl ca) (i:=0) zd rfl rfl) (zR ?_);refine B6 (σ:=Nat) [5,6,7,8,9,14] 15 (fun i=>[(14,.int .i64 i)]) (fun i w'=>i≤12∧Cl w w'∧w'.heap[w.heap.size]?=some (.cells (H3 (bdI p i)) 237 (0,0))) (fun i=>12-i) zk 0 ⟨zo,ca,na⟩ ⟨rfl,trivial⟩ ?_;rintro i j w2 ⟨hi,c2,hB⟩;have ni:=C7 (i:=i) zo;refine zR ?_;apply E.b9<;>intro h
 ·have hi2:i<12:=by omega
  clear h;refine zR ?_;refine zC ?_;refine zR ?_;refine b7 _ (a6n (ha2.cl c2) (i:=i) hi2 rfl rfl) (zR ?_);refine B6 (σ:=Nat) [6,7,8,9,18] 19 (fun k=>[(6,.int .u64 (a3N (fun s=>decide (sq p s=(i:Int)+1)) k:Nat)),(18,.int .i64 k)]) (fun k w'=>k≤64∧w'=w2) (fun k=>64-k) zk 0 ⟨zo,rfl⟩ ⟨rfl,rfl,trivial⟩ ?_;rintro k j2 w3 ⟨hk,rfl⟩;have nk:=C7 (i:=k) zo;refine zR ?_;apply E.b9<;>intro h
  ·have hk2:k<64:=by omega
   clear h;have ek:IntKind.i8.wrap (k:Int)=(k:Int):=a0q zo zo;have hX:G9 (a3N (fun s=>decide (sq p s=(i:Int)+1)) k):=inferInstance;have hXs:a3N (fun s=>decide (sq p s=(i:Int)+1)) (k+1)=bif decide (sq p k=(i:Int)+1) then Ch.shl (a3N (fun s=>decide (sq p s=(i:Int)+1)) k) 1 ||| 1 else Ch.shl (a3N (fun s=>decide (sq p s=(i:Int)+1)) k) 1:=rfl
   have hv:=c3A (sq p k) ((i:Int)+1) zo;rw [← hl k hk2] at hv;generalize a3N (fun s=>decide (sq p s=(i:Int)+1)) k=X at *;refine zS ?_;rw [ek];refine c1z mSP rfl rfl (c2.blk hm) ?_;have hs0:∀ x:Option Int,(x.isSome=true∧(i:Int)+1=x.getD 0↔sq p k=(i:Int)+1)→a3N (fun s=>decide (sq p s=(i:Int)+1)) (k+1)=if x.isSome=true∧(i:Int)+1=x.getD 0 then Ch.shl X 1 ||| 1 else Ch.shl X 1:=fun x hx=>by
    rw [hXs];by_cases e:sq p k=(i:Int)+1
    ·rw [zX e,zM (hx.2 e)];rfl
    ·rw [zV e,zJ (fun h=>e (hx.1 h))];rfl
   have hs:=hs0 _ hv;clear hs0 hv hXs;generalize O1 l (k:Int)=x at *;have hS:G9 (Ch.shl X 1):=inferInstance;generalize Ch.shl X 1=Y at *;cases x with
   | none =>
    rw [zJ (fun h=>by cases h.1)] at hs
    refine zR ?_;exact ⟨k+1,⟨by rw [hs];rfl,d8 nk,trivial⟩,⟨zo,rfl⟩,zo⟩
   | some y =>
    refine zR ?_;apply E.b9<;>intro h
    ·rw [zM ⟨rfl,h⟩] at hs;refine zR ?_;refine bOr (a:=Y) (b:=1) hS.lt zd (zR ?_);exact ⟨k+1,⟨by rw [hs];rfl,d8 nk,trivial⟩,⟨zo,rfl⟩,zo⟩
    ·rw [zJ (fun h2=>h h2.2)] at hs;refine zR ?_;exact ⟨k+1,⟨by rw [hs];rfl,d8 nk,trivial⟩,⟨zo,rfl⟩,zo⟩
  ·have e:k=64:=by omega
   subst e;have hset:=c1E p i;rw [b9f,show bb (fun s=>decide (sq p s=(i:Int)+1))=bbf (fun s=>sq p s) i from rfl];refine zR ?_;refine o7 (a5A (bdI p i) w.heap.size ((i:Int)+1) zo zo _ _ hB) ?_;rintro e w4 ⟨rfl,u4⟩;rw [show ((i:Int)+1).toNat-1=i by omega,hset] at u4
   refine ⟨_,rfl,zR ?_⟩;exact ⟨i+1,⟨d8 ni,trivial⟩,⟨zo,u4.cl c2 (yJ _),u4.at_⟩,zo⟩
 ·have e:i=12:=by omega
  subst e;have hA:(bdI p 12).Is (fun s=>sq p s):=fun i hi=>zM hi;have hz:∀ i,15≤i→(bdI p 12).f i=0:=fun i hi=>zJ zo;refine zR ?_;refine o7 (b6A hI hA hz w2 hB) ?_;rintro e w3 ⟨rfl,hB3,n3⟩;refine ⟨_,rfl,zR ?_⟩;exact ⟨n3.toCl c2 (yJ _),_,rfl,yJ _,hB3⟩
end
