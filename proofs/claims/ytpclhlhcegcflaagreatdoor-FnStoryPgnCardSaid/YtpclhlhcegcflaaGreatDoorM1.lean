/- One part of the proof: Sh0 Drw. -/
import Derived.KernelRfl
import Derived.WalkKit
import Derived.Deep.Quiet
namespace Go.Proofs.YtpclhlhcegcflaaGreatDoor
set_option linter.unusedSimpArgs false
set_option linter.unusedVariables false
theorem zF:type_of% @List.length_append:=@List.length_append
theorem zJ:type_of% @if_neg:=@if_neg
theorem zM:type_of% @if_pos:=@if_pos
theorem zP:type_of% @Bool.and_eq_true:=@Bool.and_eq_true
theorem zU:type_of% @Nat.le_of_ble_eq_true:=@Nat.le_of_ble_eq_true
theorem zV:type_of% @decide_eq_false:=@decide_eq_false
theorem zW:type_of% @decide_eq_true_eq:=@decide_eq_true_eq
theorem zX:type_of% @decide_eq_true:=@decide_eq_true
theorem zY:type_of% @List.mem_singleton:=@List.mem_singleton
theorem zZ:type_of% @decide_eq_false_iff_not:=@decide_eq_false_iff_not
theorem za:type_of% @List.length_nil:=@List.length_nil
theorem zb:type_of% @Array.toList_map:=@Array.toList_map
theorem zc:type_of% @Bool.not_eq_true':=@Bool.not_eq_true'
theorem ze:type_of% @Int.eq_ofNat_of_zero_le:=@Int.eq_ofNat_of_zero_le
theorem zg:type_of% @Int.toNat_natCast:=@Int.toNat_natCast
theorem zh:type_of% @List.length_cons:=@List.length_cons
theorem zi:type_of% @Int.toNat_of_nonneg:=@Int.toNat_of_nonneg
theorem zj:type_of% @Bool.or_eq_true:=@Bool.or_eq_true
theorem zl:type_of% @List.all_eq_true:=@List.all_eq_true
theorem zn:type_of% @List.append_nil:=@List.append_nil
theorem zq:type_of% @Nat.testBit_and:=@Nat.testBit_and
theorem zr:type_of% @List.mem_append:=@List.mem_append
theorem zu:type_of% @Nat.eq_of_beq_eq_true:=@Nat.eq_of_beq_eq_true
theorem zw:type_of% @Nat.le_trans:=@Nat.le_trans
theorem zx:type_of% @List.take_succ_eq_append_getElem:=@List.take_succ_eq_append_getElem
theorem zy:type_of% @List.not_mem_nil:=@List.not_mem_nil
theorem yA:type_of% @Bool.or_eq_false_iff:=@Bool.or_eq_false_iff
theorem yB:type_of% @of_decide_eq_true:=@of_decide_eq_true
theorem yD:type_of% @Bool.false_eq_true:=@Bool.false_eq_true
theorem yF:type_of% @Nat.testBit_or:=@Nat.testBit_or
theorem yG:type_of% @List.append_assoc:=@List.append_assoc
theorem yH:type_of% @congrArg:=@congrArg
theorem yJ:type_of% @Nat.le_refl:=@Nat.le_refl
theorem yM:type_of% @List.nil_append:=@List.nil_append
theorem yO:type_of% @List.getElem_mem:=@List.getElem_mem
theorem yP:type_of% @List.mem_append_left:=@List.mem_append_left
theorem yQ:type_of% @List.map_cons:=@List.map_cons
theorem yS:type_of% @List.mem_cons:=@List.mem_cons
theorem yU:type_of% @List.cons_append:=@List.cons_append
theorem yV:type_of% @Bool.true_and:=@Bool.true_and
theorem yW:type_of% @Nat.zero_add:=@Nat.zero_add
theorem yX:type_of% @List.mem_cons_self:=@List.mem_cons_self
theorem yY:type_of% @List.mem_cons_of_mem:=@List.mem_cons_of_mem
theorem yZ:type_of% @List.take_length:=@List.take_length
theorem ya:type_of% @decide_eq_decide:=@decide_eq_decide
theorem yb:type_of% @List.length_take:=@List.length_take
theorem yc:type_of% @List.length_map:=@List.length_map
theorem ye:type_of% @List.length_drop:=@List.length_drop
theorem yf:type_of% @Classical.byContradiction:=@Classical.byContradiction
theorem yg:type_of% @List.mem_of_getElem?:=@List.mem_of_getElem?
theorem yh:type_of% @Array.getElem?_eq_some_iff:=@Array.getElem?_eq_some_iff
theorem yi:type_of% @Option.some.inj:=@Option.some.inj
theorem yj:type_of% @Go.Sem.run_bind:=@Go.Sem.run_bind
theorem yl:type_of% @List.mem_range:=@List.mem_range
theorem ym:type_of% @List.getElem?_eq_getElem:=@List.getElem?_eq_getElem
theorem yn:type_of% @Nat.and_lt_two_pow:=@Nat.and_lt_two_pow
theorem yp:type_of% @Go.Result.andThen_ok:=@Go.Result.andThen_ok
theorem yq:type_of% @Nat.or_lt_two_pow:=@Nat.or_lt_two_pow
theorem yr:type_of% @List.getD_eq_getElem?_getD:=@List.getD_eq_getElem?_getD
theorem yu:type_of% @List.cons.injEq:=@List.cons.injEq
theorem yv:type_of% @Bool.eq_iff_iff:=@Bool.eq_iff_iff
theorem yw:type_of% @Array.getD_eq_getD_getElem?:=@Array.getD_eq_getD_getElem?
theorem yx:type_of% @Eq.trans:=@Eq.trans
theorem yy:type_of% @or_false:=@or_false
theorem xA:type_of% @Nat.zero_le:=@Nat.zero_le
theorem xB:type_of% @Array.getElem?_toList:=@Array.getElem?_toList
theorem xD:type_of% @List.any_eq_true:=@List.any_eq_true
theorem xF:type_of% @Go.Obj.cells.inj:=@Go.Obj.cells.inj
theorem xG:type_of% @List.length_filter_le:=@List.length_filter_le
theorem xH:type_of% @List.getElem?_eq_none:=@List.getElem?_eq_none
theorem xJ:type_of% @List.mem_map:=@List.mem_map
theorem xM:type_of% @List.mem_flatMap:=@List.mem_flatMap
theorem xO:type_of% @List.map_toArray:=@List.map_toArray
theorem xP:type_of% @Array.toList_inj:=@Array.toList_inj
theorem xQ:type_of% @Nat.mul_le_mul_right:=@Nat.mul_le_mul_right
theorem xS:type_of% @List.getElem?_eq_some_iff:=@List.getElem?_eq_some_iff
theorem xU:type_of% @List.drop_eq_getElem_cons:=@List.drop_eq_getElem_cons
theorem xV:type_of% @Nat.lt_of_lt_of_le:=@Nat.lt_of_lt_of_le
theorem xW:type_of% @List.mem_filter:=@List.mem_filter
theorem xX:type_of% @List.take_succ_cons:=@List.take_succ_cons
theorem xY:type_of% @Go.Sem.run_pure:=@Go.Sem.run_pure
theorem xZ:type_of% @List.flatMap_cons:=@List.flatMap_cons
theorem xa:type_of% @Int.tdiv_eq_ediv_of_nonneg:=@Int.tdiv_eq_ediv_of_nonneg
theorem xb:type_of% @List.map_nil:=@List.map_nil
theorem xc:type_of% @Bool.false_or:=@Bool.false_or
theorem xe:type_of% @List.getElem?_take:=@List.getElem?_take
theorem xg:type_of% @List.countP_append:=@List.countP_append
theorem xh:type_of% @if_false:=@if_false
theorem xi:type_of% @Bool.false_and:=@Bool.false_and
theorem xj:type_of% @Array.getElem?_eq_none:=@Array.getElem?_eq_none
theorem xl:type_of% @Int.tmod_eq_emod_of_nonneg:=@Int.tmod_eq_emod_of_nonneg
theorem xm:type_of% @List.take_append_drop:=@List.take_append_drop
theorem xn:type_of% @Bool.and_eq_false_iff:=@Bool.and_eq_false_iff
theorem xp:type_of% @Option.bind_some:=@Option.bind_some
theorem xq:type_of% @Nat.mod_eq_of_lt:=@Nat.mod_eq_of_lt
theorem xu:type_of% @Nat.lt_of_le_of_lt:=@Nat.lt_of_le_of_lt
theorem xv:type_of% @Array.ext_getElem?:=@Array.ext_getElem?
theorem xw:type_of% @Bool.not_true:=@Bool.not_true
theorem xx:type_of% @List.eq_nil_of_length_eq_zero:=@List.eq_nil_of_length_eq_zero
theorem xy:type_of% @if_true:=@if_true
theorem x7:type_of% @Option.some.injEq:=@Option.some.injEq
theorem x8:type_of% @Nat.testBit_two_pow:=@Nat.testBit_two_pow
theorem x9:type_of% @List.flatMap_append:=@List.flatMap_append
theorem wA:type_of% @Nat.succ_mul:=@Nat.succ_mul
theorem wB:type_of% @Nat.mul_one:=@Nat.mul_one
theorem wG:type_of% @Ne.symm:=@Ne.symm
theorem wH:type_of% @List.getElem_append_right:=@List.getElem_append_right
theorem wJ:type_of% @Array.getElem?_eq_getElem:=@Array.getElem?_eq_getElem
theorem wM:type_of% @Option.map_some:=@Option.map_some
theorem wO:type_of% @Nat.lt_or_ge:=@Nat.lt_or_ge
section
theorem zo {A:Prop} (e:A:=by omega):A:=e
theorem zd {A:Prop} (e:A:=by decide):A:=e
theorem zk {A:Prop} (e:A:=by kernel_rfl):A:=e
namespace E
open Go Go.RowKit
section
variable {P:Program} {md:Region.Mode} {ops:Array Oper} {C:World→Prop} {n:Nat} {Q':Exit→Act→World→Prop}
def a9x (n:Nat) (listed:Array Bool):Bool:=(List.range n).all fun i=>listed.getD i true
def a2h (P:Program) (md:Region.Mode) (ops:Array Oper) (n:Nat) (C:World→Prop) (Q':Exit→Act→World→Prop):Nat→Array Bool→Act→Prop
 | 0,listed,a=>∀ w,C w→wpAny P md ops Q' 0 listed a w
 | fuel+1,listed,a=>if a9x n listed then ∀ w,C w→wpAny P md ops Q' (fuel+1) listed a w
  else Region.ready md ops listed≠[]∧∀ i∈Region.ready md ops listed,i<n∧qOp P ops C i (a2h P md ops n C Q' fuel (listed.setIfInBounds i true)) a
theorem a7M:∀ (fuel:Nat) (listed:Array Bool) (a:Act),a2h P md ops n C Q' fuel listed a→∀ w,C w→wpAny P md ops Q' fuel listed a w
 | 0,_,_,h,w,hw=>h w hw
 | fuel+1,listed,a,h,w,hw=>by
  unfold a2h at h;split at h
  ·exact h w hw
  ·exact ⟨fun h0=>absurd h0 h.1,fun i hi=>wpOp_of_qOp hw (fun a' w' hw' hk=>a7M fuel _ a' hk w' hw') (h.2 i hi).2⟩
def b3i (md:Region.Mode) (ops:Array Oper) (listed:Array Bool):Prop :=
 ∀ k o,ops[k]?=some o→listed.getD k true=true→∀ e∈o.after,Region.binds md e=true→listed.getD e.on false=true
theorem b3i.step {listed:Array Bool} {i:Nat} (h:b3i md ops listed) (hi:i∈Region.ready md ops listed):b3i md ops (listed.setIfInBounds i true):=by
 intro k o ho hk e he hb;by_cases hki:i=k
 ·subst hki;obtain ⟨_,o',ho',hall⟩:=mem_ready.1 hi;rw [ho] at ho';cases ho';exact getD_set_true (hall e he hb)
 ·rw [getD_set_ne true hki] at hk;exact getD_set_true (h k o ho hk e he hb)
def a7N (md:Region.Mode) (ops:Array Oper) (n:Nat):Bool :=
 ((List.range n).all fun i=>(List.range (n+1)).any fun k=>Nat.blt i k&&(match ops[k]? with|some o=>o.after.any fun e=>Region.binds md e&&e.on==i|none=>false)) &&
 ((List.range ops.size).all fun j=>Nat.ble j n||(List.range j).any fun k=>Nat.ble n k&&(match ops[j]? with|some o=>o.after.any fun e=>Region.binds md e&&e.on==k|none=>false))
theorem b9Q (h:a7N md ops n=true) {listed:Array Bool} (hd:b3i md ops listed) (hn:listed.getD n true=true∨n∈Region.ready md ops listed) (hz:listed.size=ops.size):∀ d i,n=i+d+1→listed.getD i true=true:=by
 simp only [a7N,zP,zl,yl] at h;intro d
 induction d using Nat.strongRecOn with
 | _ d ih =>
  intro i hi;obtain ⟨k,hk,hk2⟩:=xD.1 (h.1 i zo);simp only [zP,Nat.blt_eq] at hk2;obtain ⟨hik,hk2⟩:=hk2;have hkn:=yl.1 hk;cases ho:ops[k]? with
  | none=>rw [ho] at hk2;cases hk2
  | some o =>
   rw [ho] at hk2;simp only [Array.any_eq_true',zP,beq_iff_eq] at hk2;obtain ⟨e,he,hb,hon⟩:=hk2;have up:listed.getD i false=true:=by
    rcases wO k n with hlt|hge
    ·have:=ih (n-k-1) zo k zo;rw [← hon];exact hd k o ho this e he hb
    ·have hkn':k=n:=by omega
     subst hkn';rcases hn with hn|hn
     ·rw [← hon];exact hd k o ho hn e he hb
     ·obtain ⟨_,o',ho',hall⟩:=mem_ready.1 hn;rw [ho] at ho';cases ho';rw [← hon];exact hall e he hb
   have hlt:i<listed.size:=by
    rcases wO i listed.size with h'|h'
    ·exact h'
    ·simp [Array.getD,h',Nat.not_lt.2 h'] at up
   simp [Array.getD,hlt] at up ⊢;exact up
theorem a7O (h:a7N md ops n=true) {listed:Array Bool} (hd:b3i md ops listed) (hz:listed.size=ops.size) {i j:Nat} (hi:i<n) (hun:listed.getD i true=false) (hj:j∈Region.ready md ops listed):j<n:=by
 rcases wO j n with h'|hge
 ·exact h'
 ·exfalso;have key:listed.getD n true=true∨n∈Region.ready md ops listed:=by
   have h2:=h;simp only [a7N,zP,zl,yl] at h2;have up:∀ j,n<j→j<ops.size→(listed.getD j true=true∨j∈Region.ready md ops listed)→listed.getD n true=true:=by
    intro j
    induction j using Nat.strongRecOn with
    | _ j ih =>
     intro hnj hjs hju;have:=h2.2 j hjs;simp only [zj,Nat.ble_eq] at this;rcases this with h3|h3
     ·omega
     ·obtain ⟨k,hk,hk2⟩:=xD.1 h3;simp only [zP,Nat.ble_eq] at hk2;obtain ⟨hnk,hk2⟩:=hk2;have hkj:=yl.1 hk;cases ho:ops[j]? with
      | none=>rw [ho] at hk2;cases hk2
      | some o =>
       rw [ho] at hk2;simp only [Array.any_eq_true',zP,beq_iff_eq] at hk2;obtain ⟨e,he,hb,hon⟩:=hk2;have hup:listed.getD k false=true:=by
        rcases hju with hju|hju
        ·rw [← hon];exact hd j o ho hju e he hb
        ·obtain ⟨_,o',ho',hall⟩:=mem_ready.1 hju;rw [ho] at ho';cases ho';rw [← hon];exact hall e he hb
       have hup':listed.getD k true=true:=by
        have hlt:k<listed.size:=by rw [hz];omega
        simp [Array.getD,hlt] at hup ⊢;exact hup
       rcases wO n k with hlt|hge
       ·exact ih k hkj hlt zo (.inl hup')
       ·have:k=n:=by omega
        rw [← this];exact hup'
   rcases wO n j with hlt|hle
   ·left;obtain ⟨_,o,ho,_⟩:=mem_ready.1 hj;exact up j hlt (yh.1 ho).1 (.inr hj)
   ·right;have:j=n:=by omega
    rw [← this];exact hj
  have:=b9Q h hd key hz (n-i-1) i zo;rw [hun] at this;cases this
theorem b0x {i:Nat} {oi:Oper} {v:Value} (hT:a7N md ops n=true) (hC:∃ w,C w) (hi:ops[i]?=some oi) (hin:i<n) (hsel:∀ (j:Nat) (o:Oper) cs b,ops[j]?=some o→o.op≠.select cs b) :
  ∀ (fuel:Nat) (listed:Array Bool) (a:Act),b3i md ops listed→listed.size=ops.size →
   (∀ j oj,ops[j]?=some oj→j≠i→listed.getD j true=false→(∀ e∈oj.after,Region.binds md e=true→e.on≠i)→oi.apart ops oj=true) →
   i∈Region.ready md ops listed→YieldsIn P ops C oi v a →
   a2h P md ops n C Q' fuel (listed.setIfInBounds i true) (a.put oi.dst v)→a2h P md ops n C Q' (fuel+1) listed a:=by
 have notUp:∀ {listed:Array Bool},i∈Region.ready md ops listed→a9x n listed=false:=fun {listed} hr=>by
  cases hb:a9x n listed with
  | false=>rfl
  | true =>
   have h1:=zl.1 hb i (yl.2 hin);rw [(mem_ready.1 hr).1] at h1;cases h1
 intro fuel
 induction fuel with
 | zero =>
  intro listed a hd hz _ hr hy H;unfold a2h;rw [zJ (by rw [notUp hr];decide)]
  refine ⟨fun h=>(by rw [h] at hr;cases hr),fun j hj=>⟨a7O hT hd hz hin (mem_ready.1 hr).1 hj,?_⟩⟩
  by_cases hji:j=i
  ·subst hji;exact hy.qOp hi H
  ·have:=ready_mono hj hji;obtain ⟨w,hw⟩:=hC;rw [(H w hw).1] at this;cases this
 | succ fuel ih =>
  intro listed a hd hz hfree hr hy H;unfold a2h;rw [zJ (by rw [notUp hr];decide)]
  refine ⟨fun h=>(by rw [h] at hr;cases hr),fun j hj=>⟨a7O hT hd hz hin (mem_ready.1 hr).1 hj,?_⟩⟩
  by_cases hji:j=i
  ·subst hji;exact hy.qOp hi H
  ·have hjn:=a7O hT hd hz hin (mem_ready.1 hr).1 hj;have hup2:a9x n (listed.setIfInBounds i true)=false:=by
    cases hb:a9x n (listed.setIfInBounds i true) with
    | false=>rfl
    | true =>
     have h1:=zl.1 hb j (yl.2 hjn);rw [getD_set_ne true (wG hji),(mem_ready.1 hj).1] at h1;cases h1
   unfold a2h at H;rw [zJ (by rw [hup2];decide)] at H
   have h1:=(H.2 j (ready_mono hj hji)).2;obtain ⟨hjun,oj,hoj,hall⟩:=mem_ready.1 hj;have hnot:∀ e∈oj.after,Region.binds md e=true→e.on≠i:=fun e he hb heq=>by
    have h1:=hall e he hb;have h0:=(mem_ready.1 hr).1;rw [heq] at h1;rcases wO i listed.size with h'|h'
    ·simp [h'] at h0 h1;rw [h0] at h1;cases h1
    ·simp [xj h'] at h1
   have h2:=qOp_put hoj (hfree j oj hoj hji hjun hnot) (fun cs b=>hsel i oi cs b hi) (fun cs b=>hsel j oj cs b hoj) hy h1;have hfree':∀ k ok,ops[k]?=some ok→k≠i→(listed.setIfInBounds j true).getD k true=false →
     (∀ e∈ok.after,Region.binds md e=true→e.on≠i)→oi.apart ops ok=true:=fun k ok hk hki hun hno=>by
    refine hfree k ok hk hki ?_ hno;by_cases hjk:j=k
    ·subst hjk;exact hjun
    ·rw [getD_set_ne true hjk] at hun;exact hun
   refine qOp_mono (fun a' h3=>ih (listed.setIfInBounds j true) a' (hd.step hj) (by simp [hz]) hfree' (ready_mono hr (wG hji)) h3.1 ?_) h2
   rw [Array.setIfInBounds_comm _ _ hji];exact h3.2
def a5i (md:Region.Mode) (ops:Array Oper):Nat→Nat→Array Bool→Bool
 | 0,_,listed=>(Region.ready md ops listed).isEmpty
 | fuel+1,k,listed=>(Region.ready md ops listed==[k])&&a5i md ops fuel (k+1) (listed.setIfInBounds k true)
theorem a5j:∀ (l:List Oper) (k:Nat) (listed:Array Bool) (a:Act) (w:World),(∀ j,l[j]?=ops[k+j]?)→a5i md ops l.length k listed=true →
  wpList P ops Q' l a w→wpAny P md ops Q' l.length listed a w
 | [],k,listed,a,w,_,hf,h=>⟨by simpa [a5i] using hf,h⟩
 | o::l,k,listed,a,w,hl,hf,h=>by
  have h0:ops[k]?=some o:=by simpa using (hl 0).symm
  simp only [zh,a5i,zP,beq_iff_eq] at hf;obtain ⟨hr,hf⟩:=hf;have next:∀ a w,wpList P ops Q' l a w→wpAny P md ops Q' l.length (listed.setIfInBounds k true) a w:=fun a w h =>
   a5j l (k+1) _ a w (fun j=>by have:=hl (j+1);simpa [Nat.add_assoc,Nat.add_comm 1 j] using this) hf h
  refine ⟨fun h=>(by rw [hr] at h;cases h),fun i hi=>?_⟩
  rw [hr] at hi;have:i=k:=by simpa using hi
  subst this;unfold wpOp;simp only [h0];unfold wpList at h;split
  ·rename_i hw;rw [zM hw] at h;exact h.imp (Oper.wp_mono next) id
  ·rename_i hw;rw [zJ hw] at h;exact next _ _ h
def b47 (md:Region.Mode) (ops:Array Oper) (total:Nat):Nat→Nat→Array Bool→Bool
 | 0,k,listed=>a5i md ops (total-k) k listed
 | fuel+1,k,listed=>(Region.ready md ops listed).contains k&&Region.free md ops listed k&&b47 md ops total fuel (k+1) (listed.setIfInBounds k true)
theorem a7P (hs:Region.noSelect ops=true) (hT:a7N md ops n=true) (hC:∃ w,C w) (hn:n≤ops.size):∀ (l:List Oper) (k:Nat) (listed:Array Bool) (a:Act),(∀ j,j<l.length→l[j]?=ops[k+j]?)→k+l.length=n →
  b3i md ops listed→listed.size=ops.size→(∀ i,i<k→listed.getD i true=true)→b47 md ops ops.size l.length k listed=true →
  wpQuiet P ops C (fun a'=>∀ w',C w'→wpList P ops Q' (ops.toList.drop n) a' w') l a→a2h P md ops n C Q' (ops.size-k) listed a
 | [],k,listed,a,_,hk,hd,hz,hup,hB,h=>by
  have hkn:k=n:=by simpa using hk
  subst hkn;have key:∀ w,C w→wpAny P md ops Q' (ops.size-k) listed a w:=fun w hw=>by
   have hl:(ops.toList.drop k).length=ops.size-k:=by simp
   rw [← hl];refine a5j _ k listed a w (fun j=>by simp [List.getElem?_drop]) (by rw [hl];exact hB) (h w hw)
  cases hf:ops.size-k with
  | zero=>rw [hf] at key;exact key
  | succ f =>
   rw [hf] at key;unfold a2h;rw [zM (show a9x k listed=true from zl.2 fun i hi=>hup i (yl.1 hi))];exact key
 | o::l,k,listed,a,hl,hk,hd,hz,hup,hB,h=>by
  simp only [zh] at hk;have h0:ops[k]?=some o:=by simpa using (hl 0 (by simp)).symm
  simp only [zh,b47,zP] at hB;obtain ⟨⟨hr,hf⟩,hB'⟩:=hB;have hr':k∈Region.ready md ops listed:=by simpa using hr
  have hst:qOp P ops C k (wpQuiet P ops C (fun a'=>∀ w',C w'→wpList P ops Q' (ops.toList.drop n) a' w') l) a:=by unfold qOp;simp only [h0];exact h
  obtain ⟨v,hy,hK⟩:=yieldsIn_of_qOp h0 hst;have e:ops.size-k=(ops.size-(k+1))+1:=by omega
  rw [e];refine b0x hT hC h0 zo (Region.noSelect_spec hs) _ listed a hd hz (Region.free_spec h0 hf) hr' hy
   (a7P hs hT hC hn l (k+1) _ _ (fun j hj=>by have:=hl (j+1) (by simp;omega);simpa [Nat.add_assoc,Nat.add_comm 1 j] using this) zo (hd.step hr') (by simp [hz]) ?_ hB' hK)
  intro i hi;by_cases hik:k=i
  ·subst hik;have hlt:k<listed.size:=by rw [hz];omega
   simp [Array.getD,hlt]
  ·rw [getD_set_ne true hik];exact hup i zo
def a7Q (n:Nat) (ops:Array Oper):Bool :=
 Region.noSelect ops&&a7N .any ops n&&Nat.ble n ops.size&&b47 .any ops ops.size n 0 (Array.replicate ops.size false)
theorem a7R {id:Nat} {a:Act} {w:World} (hm:P.follows .mixedOrders=true) (hB:a7Q n ops=true) (hC:C w.drew)
  (h:wpQuiet P ops C (fun a'=>∀ w',C w'→wpList P ops Q' (ops.toList.drop n) a' w') (ops.toList.take n) a):(Code.region id ops true).wp P Q' a w:=by
 simp only [a7Q,zP,Nat.ble_eq] at hB;obtain ⟨⟨⟨h1,h2⟩,h3⟩,h4⟩:=hB;refine wp_region_any hm (a7M (n:=n) (C:=C) _ _ _ ?_ _ hC);have hl:(ops.toList.take n).length=n:=by simp [h3]
 have:=a7P (P:=P) (md:=.any) (Q':=Q') (C:=C) (n:=n) h1 h2 ⟨_,hC⟩ h3 (ops.toList.take n) 0 (Array.replicate ops.size false) a
  (fun j hj=>by rw [xe,zM (by simpa [hl] using hj)];simp) (by rw [hl];omega)
  (fun k o ho hk=>by
   have hlt:=(yh.1 ho).1;simp [Array.getD,hlt] at hk) (by simp) (by intro i hi;omega) (by rw [hl];exact h4) h
 simpa using this
end
end E
end
