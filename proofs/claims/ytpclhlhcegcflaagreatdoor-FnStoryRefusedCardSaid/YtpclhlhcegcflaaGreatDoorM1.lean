/- One part of the proof: Sh0 Drw. -/
import Derived.KernelRfl
import Derived.WalkKit
import Derived.Deep.Quiet
namespace Go.Proofs.YtpclhlhcegcflaaGreatDoor
set_option linter.unusedSimpArgs false
set_option linter.unusedVariables false
theorem zF:type_of% @List.length_append:=@List.length_append
theorem zJ:type_of% @if_neg:=@if_neg
theorem zM:type_of% @if_pos:=@if_pos
theorem zP:type_of% @Bool.and_eq_true:=@Bool.and_eq_true
theorem zU:type_of% @Nat.le_of_ble_eq_true:=@Nat.le_of_ble_eq_true
theorem zV:type_of% @decide_eq_false:=@decide_eq_false
theorem zW:type_of% @decide_eq_true_eq:=@decide_eq_true_eq
theorem zX:type_of% @decide_eq_true:=@decide_eq_true
theorem zY:type_of% @List.mem_singleton:=@List.mem_singleton
theorem zZ:type_of% @decide_eq_false_iff_not:=@decide_eq_false_iff_not
theorem za:type_of% @List.length_nil:=@List.length_nil
theorem zb:type_of% @Array.toList_map:=@Array.toList_map
theorem zc:type_of% @Bool.not_eq_true':=@Bool.not_eq_true'
theorem ze:type_of% @Int.eq_ofNat_of_zero_le:=@Int.eq_ofNat_of_zero_le
theorem zg:type_of% @Int.toNat_natCast:=@Int.toNat_natCast
theorem zh:type_of% @List.length_cons:=@List.length_cons
theorem zi:type_of% @Int.toNat_of_nonneg:=@Int.toNat_of_nonneg
theorem zj:type_of% @Bool.or_eq_true:=@Bool.or_eq_true
theorem zl:type_of% @List.all_eq_true:=@List.all_eq_true
theorem zn:type_of% @List.append_nil:=@List.append_nil
theorem zq:type_of% @Nat.testBit_and:=@Nat.testBit_and
theorem zr:type_of% @List.mem_append:=@List.mem_append
theorem zu:type_of% @Nat.eq_of_beq_eq_true:=@Nat.eq_of_beq_eq_true
theorem zw:type_of% @Nat.le_trans:=@Nat.le_trans
theorem zx:type_of% @List.take_succ_eq_append_getElem:=@List.take_succ_eq_append_getElem
theorem zy:type_of% @List.not_mem_nil:=@List.not_mem_nil
theorem yD:type_of% @Bool.or_eq_false_iff:=@Bool.or_eq_false_iff
theorem yF:type_of% @of_decide_eq_true:=@of_decide_eq_true
theorem yG:type_of% @Bool.false_eq_true:=@Bool.false_eq_true
theorem yH:type_of% @Nat.testBit_or:=@Nat.testBit_or
theorem yJ:type_of% @List.append_assoc:=@List.append_assoc
theorem yM:type_of% @congrArg:=@congrArg
theorem yO:type_of% @Nat.le_refl:=@Nat.le_refl
theorem yP:type_of% @List.nil_append:=@List.nil_append
theorem yQ:type_of% @List.getElem_mem:=@List.getElem_mem
theorem yS:type_of% @List.mem_append_left:=@List.mem_append_left
theorem yU:type_of% @List.map_cons:=@List.map_cons
theorem yV:type_of% @List.mem_cons:=@List.mem_cons
theorem yX:type_of% @List.cons_append:=@List.cons_append
theorem yY:type_of% @Bool.true_and:=@Bool.true_and
theorem yZ:type_of% @Nat.zero_add:=@Nat.zero_add
theorem yc:type_of% @List.mem_cons_self:=@List.mem_cons_self
theorem ye:type_of% @List.mem_cons_of_mem:=@List.mem_cons_of_mem
theorem yf:type_of% @List.take_length:=@List.take_length
theorem yg:type_of% @decide_eq_decide:=@decide_eq_decide
theorem yh:type_of% @List.length_take:=@List.length_take
theorem yi:type_of% @List.length_map:=@List.length_map
theorem yj:type_of% @List.length_drop:=@List.length_drop
theorem yl:type_of% @Classical.byContradiction:=@Classical.byContradiction
theorem ym:type_of% @List.mem_of_getElem?:=@List.mem_of_getElem?
theorem yn:type_of% @Array.getElem?_eq_some_iff:=@Array.getElem?_eq_some_iff
theorem yp:type_of% @Option.some.inj:=@Option.some.inj
theorem yq:type_of% @Go.Sem.run_bind:=@Go.Sem.run_bind
theorem yr:type_of% @List.mem_range:=@List.mem_range
theorem yu:type_of% @List.getElem?_eq_getElem:=@List.getElem?_eq_getElem
theorem yv:type_of% @List.cons.inj:=@List.cons.inj
theorem yw:type_of% @Nat.and_lt_two_pow:=@Nat.and_lt_two_pow
theorem yx:type_of% @Go.Result.andThen_ok:=@Go.Result.andThen_ok
theorem yy:type_of% @Nat.or_lt_two_pow:=@Nat.or_lt_two_pow
theorem xA:type_of% @List.getD_eq_getElem?_getD:=@List.getD_eq_getElem?_getD
theorem xB:type_of% @List.cons.injEq:=@List.cons.injEq
theorem xD:type_of% @Bool.eq_iff_iff:=@Bool.eq_iff_iff
theorem xF:type_of% @Array.getD_eq_getD_getElem?:=@Array.getD_eq_getD_getElem?
theorem xG:type_of% @Eq.trans:=@Eq.trans
theorem xH:type_of% @or_false:=@or_false
theorem xJ:type_of% @Nat.zero_le:=@Nat.zero_le
theorem xM:type_of% @Array.getElem?_toList:=@Array.getElem?_toList
theorem xO:type_of% @List.any_eq_true:=@List.any_eq_true
theorem xP:type_of% @Go.Obj.cells.inj:=@Go.Obj.cells.inj
theorem xQ:type_of% @List.length_filter_le:=@List.length_filter_le
theorem xS:type_of% @List.getElem?_eq_none:=@List.getElem?_eq_none
theorem xU:type_of% @List.mem_map:=@List.mem_map
theorem xV:type_of% @List.mem_flatMap:=@List.mem_flatMap
theorem xW:type_of% @List.map_toArray:=@List.map_toArray
theorem xX:type_of% @Array.toList_inj:=@Array.toList_inj
theorem xY:type_of% @Nat.mul_le_mul_right:=@Nat.mul_le_mul_right
theorem xZ:type_of% @List.getElem?_eq_some_iff:=@List.getElem?_eq_some_iff
theorem xc:type_of% @List.drop_eq_getElem_cons:=@List.drop_eq_getElem_cons
theorem xe:type_of% @Nat.lt_of_lt_of_le:=@Nat.lt_of_lt_of_le
theorem xg:type_of% @List.mem_filter:=@List.mem_filter
theorem xh:type_of% @List.take_succ_cons:=@List.take_succ_cons
theorem xi:type_of% @Go.Sem.run_pure:=@Go.Sem.run_pure
theorem xj:type_of% @List.flatMap_cons:=@List.flatMap_cons
theorem xm:type_of% @Int.tdiv_eq_ediv_of_nonneg:=@Int.tdiv_eq_ediv_of_nonneg
theorem xn:type_of% @List.map_nil:=@List.map_nil
theorem xp:type_of% @Bool.false_or:=@Bool.false_or
theorem xq:type_of% @List.getElem?_take:=@List.getElem?_take
theorem xu:type_of% @List.countP_append:=@List.countP_append
theorem xv:type_of% @if_false:=@if_false
theorem xw:type_of% @Bool.false_and:=@Bool.false_and
theorem xx:type_of% @Array.getElem?_eq_none:=@Array.getElem?_eq_none
theorem xy:type_of% @Int.tmod_eq_emod_of_nonneg:=@Int.tmod_eq_emod_of_nonneg
theorem x8:type_of% @List.take_append_drop:=@List.take_append_drop
theorem x9:type_of% @Bool.and_eq_false_iff:=@Bool.and_eq_false_iff
theorem wD:type_of% @Option.bind_some:=@Option.bind_some
theorem wF:type_of% @Nat.mod_eq_of_lt:=@Nat.mod_eq_of_lt
theorem wG:type_of% @Nat.lt_of_le_of_lt:=@Nat.lt_of_le_of_lt
theorem wH:type_of% @Array.ext_getElem?:=@Array.ext_getElem?
theorem wJ:type_of% @Bool.not_true:=@Bool.not_true
theorem wM:type_of% @List.eq_nil_of_length_eq_zero:=@List.eq_nil_of_length_eq_zero
theorem wO:type_of% @if_true:=@if_true
theorem wP:type_of% @Option.some.injEq:=@Option.some.injEq
theorem wQ:type_of% @Nat.testBit_two_pow:=@Nat.testBit_two_pow
theorem wU:type_of% @List.flatMap_append:=@List.flatMap_append
theorem wV:type_of% @Nat.succ_mul:=@Nat.succ_mul
theorem wW:type_of% @List.take_of_length_le:=@List.take_of_length_le
theorem wX:type_of% @Nat.mul_one:=@Nat.mul_one
theorem wY:type_of% @Ne.symm:=@Ne.symm
theorem wZ:type_of% @List.getElem_append_right:=@List.getElem_append_right
theorem we:type_of% @Array.getElem?_eq_getElem:=@Array.getElem?_eq_getElem
theorem wg:type_of% @Option.map_some:=@Option.map_some
theorem wh:type_of% @Nat.lt_or_ge:=@Nat.lt_or_ge
section
theorem zo {A:Prop} (e:A:=by omega):A:=e
theorem zd {A:Prop} (e:A:=by decide):A:=e
theorem zk {A:Prop} (e:A:=by kernel_rfl):A:=e
namespace E
open Go Go.RowKit
section
variable {P:Program} {md:Region.Mode} {ops:Array Oper} {C:World→Prop} {n:Nat} {Q':Exit→Act→World→Prop}
def b0g (n:Nat) (listed:Array Bool):Bool:=(List.range n).all fun i=>listed.getD i true
def a2C (P:Program) (md:Region.Mode) (ops:Array Oper) (n:Nat) (C:World→Prop) (Q':Exit→Act→World→Prop):Nat→Array Bool→Act→Prop
 | 0,listed,a=>∀ w,C w→wpAny P md ops Q' 0 listed a w
 | fuel+1,listed,a=>if b0g n listed then ∀ w,C w→wpAny P md ops Q' (fuel+1) listed a w
  else Region.ready md ops listed≠[]∧∀ i∈Region.ready md ops listed,i<n∧qOp P ops C i (a2C P md ops n C Q' fuel (listed.setIfInBounds i true)) a
theorem a8w:∀ (fuel:Nat) (listed:Array Bool) (a:Act),a2C P md ops n C Q' fuel listed a→∀ w,C w→wpAny P md ops Q' fuel listed a w
 | 0,_,_,h,w,hw=>h w hw
 | fuel+1,listed,a,h,w,hw=>by
  unfold a2C at h;split at h
  ·exact h w hw
  ·exact ⟨fun h0=>absurd h0 h.1,fun i hi=>wpOp_of_qOp hw (fun a' w' hw' hk=>a8w fuel _ a' hk w' hw') (h.2 i hi).2⟩
def b4a (md:Region.Mode) (ops:Array Oper) (listed:Array Bool):Prop :=
 ∀ k o,ops[k]?=some o→listed.getD k true=true→∀ e∈o.after,Region.binds md e=true→listed.getD e.on false=true
theorem b4a.step {listed:Array Bool} {i:Nat} (h:b4a md ops listed) (hi:i∈Region.ready md ops listed):b4a md ops (listed.setIfInBounds i true):=by
 intro k o ho hk e he hb;by_cases hki:i=k
 ·subst hki;obtain ⟨_,o',ho',hall⟩:=mem_ready.1 hi;rw [ho] at ho';cases ho';exact getD_set_true (hall e he hb)
 ·rw [getD_set_ne true hki] at hk;exact getD_set_true (h k o ho hk e he hb)
def a8x (md:Region.Mode) (ops:Array Oper) (n:Nat):Bool :=
 ((List.range n).all fun i=>(List.range (n+1)).any fun k=>Nat.blt i k&&(match ops[k]? with|some o=>o.after.any fun e=>Region.binds md e&&e.on==i|none=>false)) &&
 ((List.range ops.size).all fun j=>Nat.ble j n||(List.range j).any fun k=>Nat.ble n k&&(match ops[j]? with|some o=>o.after.any fun e=>Region.binds md e&&e.on==k|none=>false))
theorem c0D (h:a8x md ops n=true) {listed:Array Bool} (hd:b4a md ops listed) (hn:listed.getD n true=true∨n∈Region.ready md ops listed) (hz:listed.size=ops.size):∀ d i,n=i+d+1→listed.getD i true=true:=by
 simp only [a8x,zP,zl,yr] at h;intro d
 induction d using Nat.strongRecOn with
 | _ d ih =>
  intro i hi;obtain ⟨k,hk,hk2⟩:=xO.1 (h.1 i zo);simp only [zP,Nat.blt_eq] at hk2;obtain ⟨hik,hk2⟩:=hk2;have hkn:=yr.1 hk;cases ho:ops[k]? with
  | none=>rw [ho] at hk2;cases hk2
  | some o =>
   rw [ho] at hk2;simp only [Array.any_eq_true',zP,beq_iff_eq] at hk2;obtain ⟨e,he,hb,hon⟩:=hk2;have up:listed.getD i false=true:=by
    rcases wh k n with hlt|hge
    ·have:=ih (n-k-1) zo k zo;rw [← hon];exact hd k o ho this e he hb
    ·have hkn':k=n:=by omega
     subst hkn';rcases hn with hn|hn
     ·rw [← hon];exact hd k o ho hn e he hb
     ·obtain ⟨_,o',ho',hall⟩:=mem_ready.1 hn;rw [ho] at ho';cases ho';rw [← hon];exact hall e he hb
   have hlt:i<listed.size:=by
    rcases wh i listed.size with h'|h'
    ·exact h'
    ·simp [Array.getD,h',Nat.not_lt.2 h'] at up
   simp [Array.getD,hlt] at up ⊢;exact up
theorem a8y (h:a8x md ops n=true) {listed:Array Bool} (hd:b4a md ops listed) (hz:listed.size=ops.size) {i j:Nat} (hi:i<n) (hun:listed.getD i true=false) (hj:j∈Region.ready md ops listed):j<n:=by
 rcases wh j n with h'|hge
 ·exact h'
 ·exfalso;have key:listed.getD n true=true∨n∈Region.ready md ops listed:=by
   have h2:=h;simp only [a8x,zP,zl,yr] at h2;have up:∀ j,n<j→j<ops.size→(listed.getD j true=true∨j∈Region.ready md ops listed)→listed.getD n true=true:=by
    intro j
    induction j using Nat.strongRecOn with
    | _ j ih =>
     intro hnj hjs hju;have:=h2.2 j hjs;simp only [zj,Nat.ble_eq] at this;rcases this with h3|h3
     ·omega
     ·obtain ⟨k,hk,hk2⟩:=xO.1 h3;simp only [zP,Nat.ble_eq] at hk2;obtain ⟨hnk,hk2⟩:=hk2;have hkj:=yr.1 hk;cases ho:ops[j]? with
      | none=>rw [ho] at hk2;cases hk2
      | some o =>
       rw [ho] at hk2;simp only [Array.any_eq_true',zP,beq_iff_eq] at hk2;obtain ⟨e,he,hb,hon⟩:=hk2;have hup:listed.getD k false=true:=by
        rcases hju with hju|hju
        ·rw [← hon];exact hd j o ho hju e he hb
        ·obtain ⟨_,o',ho',hall⟩:=mem_ready.1 hju;rw [ho] at ho';cases ho';rw [← hon];exact hall e he hb
       have hup':listed.getD k true=true:=by
        have hlt:k<listed.size:=by rw [hz];omega
        simp [Array.getD,hlt] at hup ⊢;exact hup
       rcases wh n k with hlt|hge
       ·exact ih k hkj hlt zo (.inl hup')
       ·have:k=n:=by omega
        rw [← this];exact hup'
   rcases wh n j with hlt|hle
   ·left;obtain ⟨_,o,ho,_⟩:=mem_ready.1 hj;exact up j hlt (yn.1 ho).1 (.inr hj)
   ·right;have:j=n:=by omega
    rw [← this];exact hj
  have:=c0D h hd key hz (n-i-1) i zo;rw [hun] at this;cases this
theorem b1f {i:Nat} {oi:Oper} {v:Value} (hT:a8x md ops n=true) (hC:∃ w,C w) (hi:ops[i]?=some oi) (hin:i<n) (hsel:∀ (j:Nat) (o:Oper) cs b,ops[j]?=some o→o.op≠.select cs b) :
  ∀ (fuel:Nat) (listed:Array Bool) (a:Act),b4a md ops listed→listed.size=ops.size →
   (∀ j oj,ops[j]?=some oj→j≠i→listed.getD j true=false→(∀ e∈oj.after,Region.binds md e=true→e.on≠i)→oi.apart ops oj=true) →
   i∈Region.ready md ops listed→YieldsIn P ops C oi v a →
   a2C P md ops n C Q' fuel (listed.setIfInBounds i true) (a.put oi.dst v)→a2C P md ops n C Q' (fuel+1) listed a:=by
 have notUp:∀ {listed:Array Bool},i∈Region.ready md ops listed→b0g n listed=false:=fun {listed} hr=>by
  cases hb:b0g n listed with
  | false=>rfl
  | true =>
   have h1:=zl.1 hb i (yr.2 hin);rw [(mem_ready.1 hr).1] at h1;cases h1
 intro fuel
 induction fuel with
 | zero =>
  intro listed a hd hz _ hr hy H;unfold a2C;rw [zJ (by rw [notUp hr];decide)]
  refine ⟨fun h=>(by rw [h] at hr;cases hr),fun j hj=>⟨a8y hT hd hz hin (mem_ready.1 hr).1 hj,?_⟩⟩
  by_cases hji:j=i
  ·subst hji;exact hy.qOp hi H
  ·have:=ready_mono hj hji;obtain ⟨w,hw⟩:=hC;rw [(H w hw).1] at this;cases this
 | succ fuel ih =>
  intro listed a hd hz hfree hr hy H;unfold a2C;rw [zJ (by rw [notUp hr];decide)]
  refine ⟨fun h=>(by rw [h] at hr;cases hr),fun j hj=>⟨a8y hT hd hz hin (mem_ready.1 hr).1 hj,?_⟩⟩
  by_cases hji:j=i
  ·subst hji;exact hy.qOp hi H
  ·have hjn:=a8y hT hd hz hin (mem_ready.1 hr).1 hj;have hup2:b0g n (listed.setIfInBounds i true)=false:=by
    cases hb:b0g n (listed.setIfInBounds i true) with
    | false=>rfl
    | true =>
     have h1:=zl.1 hb j (yr.2 hjn);rw [getD_set_ne true (wY hji),(mem_ready.1 hj).1] at h1;cases h1
   unfold a2C at H;rw [zJ (by rw [hup2];decide)] at H
   have h1:=(H.2 j (ready_mono hj hji)).2;obtain ⟨hjun,oj,hoj,hall⟩:=mem_ready.1 hj;have hnot:∀ e∈oj.after,Region.binds md e=true→e.on≠i:=fun e he hb heq=>by
    have h1:=hall e he hb;have h0:=(mem_ready.1 hr).1;rw [heq] at h1;rcases wh i listed.size with h'|h'
    ·simp [h'] at h0 h1;rw [h0] at h1;cases h1
    ·simp [xx h'] at h1
   have h2:=qOp_put hoj (hfree j oj hoj hji hjun hnot) (fun cs b=>hsel i oi cs b hi) (fun cs b=>hsel j oj cs b hoj) hy h1;have hfree':∀ k ok,ops[k]?=some ok→k≠i→(listed.setIfInBounds j true).getD k true=false →
     (∀ e∈ok.after,Region.binds md e=true→e.on≠i)→oi.apart ops ok=true:=fun k ok hk hki hun hno=>by
    refine hfree k ok hk hki ?_ hno;by_cases hjk:j=k
    ·subst hjk;exact hjun
    ·rw [getD_set_ne true hjk] at hun;exact hun
   refine qOp_mono (fun a' h3=>ih (listed.setIfInBounds j true) a' (hd.step hj) (by simp [hz]) hfree' (ready_mono hr (wY hji)) h3.1 ?_) h2
   rw [Array.setIfInBounds_comm _ _ hji];exact h3.2
def a5D (md:Region.Mode) (ops:Array Oper):Nat→Nat→Array Bool→Bool
 | 0,_,listed=>(Region.ready md ops listed).isEmpty
 | fuel+1,k,listed=>(Region.ready md ops listed==[k])&&a5D md ops fuel (k+1) (listed.setIfInBounds k true)
theorem a5E:∀ (l:List Oper) (k:Nat) (listed:Array Bool) (a:Act) (w:World),(∀ j,l[j]?=ops[k+j]?)→a5D md ops l.length k listed=true →
  wpList P ops Q' l a w→wpAny P md ops Q' l.length listed a w
 | [],k,listed,a,w,_,hf,h=>⟨by simpa [a5D] using hf,h⟩
 | o::l,k,listed,a,w,hl,hf,h=>by
  have h0:ops[k]?=some o:=by simpa using (hl 0).symm
  simp only [zh,a5D,zP,beq_iff_eq] at hf;obtain ⟨hr,hf⟩:=hf;have next:∀ a w,wpList P ops Q' l a w→wpAny P md ops Q' l.length (listed.setIfInBounds k true) a w:=fun a w h =>
   a5E l (k+1) _ a w (fun j=>by have:=hl (j+1);simpa [Nat.add_assoc,Nat.add_comm 1 j] using this) hf h
  refine ⟨fun h=>(by rw [hr] at h;cases h),fun i hi=>?_⟩
  rw [hr] at hi;have:i=k:=by simpa using hi
  subst this;unfold wpOp;simp only [h0];unfold wpList at h;split
  ·rename_i hw;rw [zM hw] at h;exact h.imp (Oper.wp_mono next) id
  ·rename_i hw;rw [zJ hw] at h;exact next _ _ h
def b56 (md:Region.Mode) (ops:Array Oper) (total:Nat):Nat→Nat→Array Bool→Bool
 | 0,k,listed=>a5D md ops (total-k) k listed
 | fuel+1,k,listed=>(Region.ready md ops listed).contains k&&Region.free md ops listed k&&b56 md ops total fuel (k+1) (listed.setIfInBounds k true)
theorem a8z (hs:Region.noSelect ops=true) (hT:a8x md ops n=true) (hC:∃ w,C w) (hn:n≤ops.size):∀ (l:List Oper) (k:Nat) (listed:Array Bool) (a:Act),(∀ j,j<l.length→l[j]?=ops[k+j]?)→k+l.length=n →
  b4a md ops listed→listed.size=ops.size→(∀ i,i<k→listed.getD i true=true)→b56 md ops ops.size l.length k listed=true →
  wpQuiet P ops C (fun a'=>∀ w',C w'→wpList P ops Q' (ops.toList.drop n) a' w') l a→a2C P md ops n C Q' (ops.size-k) listed a
 | [],k,listed,a,_,hk,hd,hz,hup,hB,h=>by
  have hkn:k=n:=by simpa using hk
  subst hkn;have key:∀ w,C w→wpAny P md ops Q' (ops.size-k) listed a w:=fun w hw=>by
   have hl:(ops.toList.drop k).length=ops.size-k:=by simp
   rw [← hl];refine a5E _ k listed a w (fun j=>by simp [List.getElem?_drop]) (by rw [hl];exact hB) (h w hw)
  cases hf:ops.size-k with
  | zero=>rw [hf] at key;exact key
  | succ f =>
   rw [hf] at key;unfold a2C;rw [zM (show b0g k listed=true from zl.2 fun i hi=>hup i (yr.1 hi))];exact key
 | o::l,k,listed,a,hl,hk,hd,hz,hup,hB,h=>by
  simp only [zh] at hk;have h0:ops[k]?=some o:=by simpa using (hl 0 (by simp)).symm
  simp only [zh,b56,zP] at hB;obtain ⟨⟨hr,hf⟩,hB'⟩:=hB;have hr':k∈Region.ready md ops listed:=by simpa using hr
  have hst:qOp P ops C k (wpQuiet P ops C (fun a'=>∀ w',C w'→wpList P ops Q' (ops.toList.drop n) a' w') l) a:=by unfold qOp;simp only [h0];exact h
  obtain ⟨v,hy,hK⟩:=yieldsIn_of_qOp h0 hst;have e:ops.size-k=(ops.size-(k+1))+1:=by omega
  rw [e];refine b1f hT hC h0 zo (Region.noSelect_spec hs) _ listed a hd hz (Region.free_spec h0 hf) hr' hy
   (a8z hs hT hC hn l (k+1) _ _ (fun j hj=>by have:=hl (j+1) (by simp;omega);simpa [Nat.add_assoc,Nat.add_comm 1 j] using this) zo (hd.step hr') (by simp [hz]) ?_ hB' hK)
  intro i hi;by_cases hik:k=i
  ·subst hik;have hlt:k<listed.size:=by rw [hz];omega
   simp [Array.getD,hlt]
  ·rw [getD_set_ne true hik];exact hup i zo
def a80 (n:Nat) (ops:Array Oper):Bool :=
 Region.noSelect ops&&a8x .any ops n&&Nat.ble n ops.size&&b56 .any ops ops.size n 0 (Array.replicate ops.size false)
theorem a81 {id:Nat} {a:Act} {w:World} (hm:P.follows .mixedOrders=true) (hB:a80 n ops=true) (hC:C w.drew)
  (h:wpQuiet P ops C (fun a'=>∀ w',C w'→wpList P ops Q' (ops.toList.drop n) a' w') (ops.toList.take n) a):(Code.region id ops true).wp P Q' a w:=by
 simp only [a80,zP,Nat.ble_eq] at hB;obtain ⟨⟨⟨h1,h2⟩,h3⟩,h4⟩:=hB;refine wp_region_any hm (a8w (n:=n) (C:=C) _ _ _ ?_ _ hC);have hl:(ops.toList.take n).length=n:=by simp [h3]
 have:=a8z (P:=P) (md:=.any) (Q':=Q') (C:=C) (n:=n) h1 h2 ⟨_,hC⟩ h3 (ops.toList.take n) 0 (Array.replicate ops.size false) a
  (fun j hj=>by rw [xq,zM (by simpa [hl] using hj)];simp) (by rw [hl];omega)
  (fun k o ho hk=>by
   have hlt:=(yn.1 ho).1;simp [Array.getD,hlt] at hk) (by simp) (by intro i hi;omega) (by rw [hl];exact h4) h
 simpa using this
end
end E
end
