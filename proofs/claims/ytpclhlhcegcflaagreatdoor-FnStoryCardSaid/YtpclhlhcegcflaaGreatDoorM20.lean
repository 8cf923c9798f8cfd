/- One part of the proof: Pk23 Pk24 Pk25 Pk26 Pk27 Pk28. -/
import Derived.Test.YtpclhlhcegcflaaGreatDoorM1
import Derived.Test.YtpclhlhcegcflaaGreatDoorM3
import Derived.Test.YtpclhlhcegcflaaGreatDoorM9
import Derived.Test.YtpclhlhcegcflaaGreatDoorM13
import Derived.Test.YtpclhlhcegcflaaGreatDoorM19
namespace Go.Proofs.YtpclhlhcegcflaaGreatDoor
set_option maxRecDepth 100000
set_option linter.unusedSimpArgs false
set_option linter.unusedVariables false
section
open Go Go.RowKit
open E
open Ch Bb
theorem newSq_n (f r : Nat) (f1 : f < 8) (r1 : r < 8) (w : World) : Calls G.P 167 #[.int .i8 f, .int .i8 r] w (RetS (.int .i8 ((8 * r + f : Nat) : Int)) w) := by
 have := NewSquare_c f r zo zo zo zo w
 rw [show ((8 * r + f : Nat) : Int) = 8 * (r : Int) + f by push_cast; rfl]; exact this
theorem gen_make0 {t e z by_ : Nat} (E1 : ElemOk t e z by_) {l c : Operand} {k k' : IntKind} (n : Nat) {dst : Option Nat} {ty : Nat} {pos : String} {af : Array Edge} {gd : Option (Nat × Bool)} {env : Env} {w : World} {K : Value → World → Prop}
  (hl : ev env l = .int k 0) (hc : ev env c = .int k' n) (hn : n ≤ 100000) (hb : by_ ≤ 1000)
  (hk : ∀ cs : Array Value, cs.size = n * z → K (.slice (some ⟨w.heap.size, 0, none⟩) 0 n) (w.alloc (.cells cs e))) : GenK G.P { dst, op := .makeSlice t l c, type := ty, pos, after := af, guard := gd } env w K := by
 obtain ⟨i, zv, hi, hzv, hsz, hby, hzs⟩ := E1.info
 have hle : n * by_ ≤ 100000 * 1000 := Nat.mul_le_mul hn hb
 have hbb : (i.bytes : Int) * (n : Int) ≤ 281474976710656 := by
  rw [hby]
  have e : (by_ : Int) * (n : Int) = ((n * by_ : Nat) : Int) := by push_cast; exact Int.mul_comm _ _
  rw [e]; omega
 have := run_make (P := G.P) w t e i zv E1.ty hi hzv k k' 0 n zo zo hbb zo
 simp only [Int.toNat_natCast] at this
 refine ⟨.inl ⟨_, _, ?_, hk (madeCells zv.cells (n * i.size)) (by rw [size_madeCells, hsz])⟩⟩
 show (do pure (Next.value (← Instr.makeSlice t (ev env l) (ev env c))) : Sem Next).run G.P w = _
 rw [hl, hc, Sem.run_bind, this]; rfl
theorem Row.zero {α : Type} {enc : α → List Value} {e z b0 g n : Nat} {w : World} {cs : Array Value} (hb : b0 ≤ g) (h : w.heap[g]? = some (.cells cs e (0, 0))) (hs : cs.size = n * z) (hn : n ≤ 100000) : Row e z enc b0 w (.slice (some ⟨g, 0, none⟩) 0 n) ([] : List α) :=
 ⟨by simp, .inr ⟨g, n, cs, rfl, hb, h, Nat.zero_le _, by unfold maxLen; omega, hs, by simp⟩⟩
theorem cntT_one {e : Nat} (h0 : 0 < e) (h8 : e ≤ 8) : cntT e = [UInt8.ofNat (48 + e)] := by
 rcases (by omega : e = 1 ∨ e = 2 ∨ e = 3 ∨ e = 4 ∨ e = 5 ∨ e = 6 ∨ e = 7 ∨ e = 8) with rfl | rfl | rfl | rfl | rfl | rfl | rfl | rfl <;> (unfold cntT dec; rfl)
theorem pcT_one {x : Int} (h0 : 1 ≤ x) (h1 : x ≤ 12) : ∃ c, pcT x = [c] := by
 rcases (by omega : x = 1 ∨ x = 2 ∨ x = 3 ∨ x = 4 ∨ x = 5 ∨ x = 6 ∨ x = 7 ∨ x = 8 ∨ x = 9 ∨ x = 10 ∨ x = 11 ∨ x = 12) with rfl | rfl | rfl | rfl | rfl | rfl | rfl | rfl | rfl | rfl | rfl | rfl <;> exact ⟨_, rfl⟩
theorem elB1 {w : World} (c : UInt8) : Row 5 1 encB w.heap.size (w.alloc (.cells (([Value.int .u8 (c.toNat : Int)] : List Value).flatMap fun v => v.cells.toList).toArray 5)) (.slice (some ⟨w.heap.size, 0, none⟩) 1 1) [c] :=
 row_new encB_len w [c] (Nat.le_of_ble_eq_true rfl) [.int .u8 (c.toNat : Int)] rfl
theorem dig_e {e : Nat} (h : e ≤ 8) : IntKind.u8.wrap (IntKind.i64.wrap (48 + (e : Int))) = ((UInt8.ofNat (48 + e)).toNat : Int) := by
 rcases (by omega : e = 0 ∨ e = 1 ∨ e = 2 ∨ e = 3 ∨ e = 4 ∨ e = 5 ∨ e = 6 ∨ e = 7 ∨ e = 8) with rfl | rfl | rfl | rfl | rfl | rfl | rfl | rfl | rfl <;> decide
set_option maxHeartbeats 1000000 in
theorem BoardString_c {p : Pos} (hp : ∀ i : Int, 0 ≤ sq p i ∧ sq p i ≤ 12) {b t : Nat} {fz : Nat × Nat} (w : World) (hT : Tabs w) (hB : w.heap[b]? = some (.cells (mbA (mbOf p)) t fz)) :
  Calls G.P 164 #[.pointer (some ⟨b, 0, none⟩)] w (Ret (txV (boardT p 8)) w) := by
 refine zN Tryz.func164 ?_
 refine zR ?_
 refine gen_make0 elByte 71 rfl rfl zd zd fun cs hcs => ?_
 have ca := Cl.alloc w (.cells cs 5)
 have hr0 : Row 5 1 encB w.heap.size (w.alloc (.cells cs 5)) (.slice (some ⟨w.heap.size, 0, none⟩) 0 71) ([] : Tx) := Row.zero (Nat.le_refl _) (alloc_new _ _) hcs zd
 generalize w.alloc (.cells cs 5) = w1 at *
 have hbl := boardT_len p 8
 refine zR ?_
 refine loopK (σ := Int × Tx × Value) [3, 4, 5, 6, 7, 8] 9 (fun s => [(3, s.2.2), (4, .int .i64 0), (5, .int .i64 s.1)]) (fun s w' => (-1 ≤ s.1 ∧ s.1 ≤ 7) ∧ s.2.1 ++ (if 0 ≤ s.1 ∧ s.1 < 7 then [47] else []) ++ boardT p (s.1 + 1).toNat = boardT p 8 ∧ Cl w w' ∧ Row 5 1 encB w.heap.size w' s.2.2 s.2.1) (fun s => (s.1 + 1).toNat) zk
  (7, [], _) ⟨⟨by show (-1 : Int) ≤ 7; decide, by show (7 : Int) ≤ 7; decide⟩, rfl, ca, hr0⟩ ⟨rfl, rfl, rfl, trivial⟩ ?_
 rintro ⟨r, l, v⟩ j w2 ⟨⟨hr1, hr7⟩, hl, c2, hrw⟩
 simp only at hr1 hr7 hl c2 hrw ⊢
 obtain ⟨a, k, rfl, _⟩ := hrw.form
 have hlen := congrArg List.length hl
 simp only [List.length_append] at hlen
 refine zR ?_
 apply E.dsplit<;>intro h
 ·obtain ⟨S, rfl⟩ := Int.eq_ofNat_of_zero_le (show 0 ≤ r by omega)
  have hS : S < 8 := by omega
  clear h
  have e1 : ((S : Int) + 1).toNat = S + 1 := by omega
  rw [e1] at hl hlen
  have hll : l.length ≤ 288 := by omega
  refine zG ?_
  refine Nx.mk ?_
  refine cK_seq ?_
  refine cK_block ?_
  refine Nx.go ?_
  refine joinK (σ := Value) [3] 9 (fun v => [(3, v)]) (fun v w' => Cl w w' ∧ Row 5 1 encB w.heap.size w' v (l ++ (if S < 7 then [47] else []))) zk ?_ (fun v j w3 h3 => ?_)
  ·refine zR ?_
   apply E.dsplit<;>intro h
   ·refine zR ?_
    refine zL elByte [.int .u8 47] ?_
    refine zR ?_
    have cb := Cl.alloc w2 (.cells (([Value.int .u8 47] : List Value).flatMap fun v => v.cells.toList).toArray 5)
    refine gen_appX elByte (l := l) (news := [47]) rfl (hrw.step cb) rfl (elB1 47) encB_len encB_one (by simp; omega) zd (c2.trans cb).size fun v' w' hr' hg => ?_
    obtain ⟨a9, c9, rfl, _⟩ := hr'.form
    refine zR ?_
    exact ⟨_, ⟨rfl, trivial⟩, hg.toCl rfl (c2.trans cb), by rw [if_pos zo]; exact hr'⟩
   ·refine zR ?_
    exact ⟨_, ⟨rfl, trivial⟩, c2, by rw [if_neg zo, List.append_nil]; exact hrw⟩
  obtain ⟨c3, hr3⟩ := h3
  have hl3 : (l ++ (if S < 7 then [47] else [])) ++ boardT p (S + 1) = boardT p 8 := by
   rw [← hl]; congr 2
   by_cases h : S < 7
   ·rw [if_pos h, if_pos zo]
   ·rw [if_neg h, if_neg zo]
  have hlen3 := congrArg List.length hl3
  rw [List.length_append] at hlen3
  generalize l ++ (if S < 7 then ([47] : Tx) else []) = l3 at *
  clear hl hlen hrw c2
  have hrow : boardT p (S + 1) = rowT (fun f => sq p (8 * (S : Int) + f)) 8 0 0 ++ (if S = 0 then [] else [47]) ++ boardT p S := rfl
  obtain ⟨av, kv, rfl, _⟩ := hr3.form
  refine zR ?_
  refine loopK (σ := Nat × Nat × Tx × Value) [3, 4, 6, 7, 8, 19] 20 (fun s => [(3, s.2.2.2), (4, .int .i64 s.2.1), (19, .int .i64 s.1)]) (fun s w' => s.1 ≤ 8 ∧ s.2.1 ≤ s.1 ∧ s.2.2.1 ++ rowT (fun f => sq p (8 * (S : Int) + f)) (8 - s.1) s.1 s.2.1 ++ (if S = 0 then [] else [47]) ++ boardT p S = boardT p 8 ∧ Cl w w' ∧ Row 5 1 encB w.heap.size w' s.2.2.2 s.2.2.1) (fun s => 8 - s.1) zk
   (0, 0, l3, _) ⟨by show 0 ≤ 8; decide, Nat.le_refl _, by rw [← hl3, hrow]; simp only [List.append_assoc], c3, hr3⟩ ⟨rfl, rfl, rfl, trivial⟩ ?_
  clear hr3 c3
  rintro ⟨f, e, o, v⟩ j4 w4 ⟨hf, he, ho, c4, hr4⟩
  simp only at hf he ho c4 hr4 ⊢
  obtain ⟨a4, k4, rfl, _⟩ := hr4.form
  have hol := congrArg List.length ho
  simp only [List.length_append] at hol
  refine zR ?_
  apply E.dsplit<;>intro h
  ·have hf2 : f < 8 := by omega
   clear h
   have nf := i_succ (i := f) zo
   have ef : IntKind.i8.wrap (f : Int) = f := w8_in zo zo
   have eS : IntKind.i8.wrap (S : Int) = S := w8_in zo zo
   refine zR ?_
   rw [ef, eS]
   refine callS (newSq_n f S hf2 hS _) (zR ?_)
   have hX := hp ((8 * S + f : Nat) : Int)
   have pc := Piece_c (mbOf p) b (t := t) (fz := fz) (8 * S + f) zo w4 (hT.cl c4) (c4.blk hB)
   rw [at_of' hp zo] at pc
   refine callS pc ?_
   have hg : sq p (8 * (S : Int) + (f : Nat)) = sq p ((8 * S + f : Nat) : Int) := by congr 1
   have hrs : rowT (fun f => sq p (8 * (S : Int) + f)) (8 - f) f e = if sq p ((8 * S + f : Nat) : Int) < 1 ∨ sq p ((8 * S + f : Nat) : Int) > 12 then rowT (fun f => sq p (8 * (S : Int) + f)) (8 - (f + 1)) (f + 1) (e + 1) else cntT e ++ pcT (sq p ((8 * S + f : Nat) : Int)) ++ rowT (fun f => sq p (8 * (S : Int) + f)) (8 - (f + 1)) (f + 1) 0 := by
    rw [show 8 - f = (8 - (f + 1)) + 1 by omega, ← hg]; rfl
   have fc := fun c hc w hT => fenChar_c (sq p ((8 * S + f : Nat) : Int)) (c := c) (hc := hc) (w := w) (hT := hT)
   generalize sq p ((8 * S + f : Nat) : Int) = X at *
   refine zR ?_
   apply E.dsplit<;>intro h
   ·have ne := i_succ (i := e) zo
    rw [hrs, if_pos (.inl zo)] at ho
    refine zR ?_
    exact ⟨(f + 1, e + 1, o, _), ⟨rfl, int_eq ne, int_eq nf, trivial⟩, ⟨by show f + 1 ≤ 8; omega, by show e + 1 ≤ f + 1; omega, ho, c4, hr4⟩, by show 8 - (f + 1) < 8 - f; omega⟩
   rw [hrs, if_neg zo] at ho
   obtain ⟨ch, hch⟩ := pcT_one (x := X) zo zo
   have fcc := fun w hT => fc ch hch w hT zo zo
   rw [hch] at ho
   refine zG ?_
   refine joinK (σ := Value) [3, 4] 20 (fun v => [(3, v), (4, .int .i64 0)]) (fun v w' => Cl w w' ∧ Row 5 1 encB w.heap.size w' v (o ++ cntT e)) zk ?_ (fun v j w5 h5 => ?_)
   ·refine zR ?_
    apply E.dsplit<;>intro h
    ·rw [cntT_one (show 0 < e by omega) zo]
     refine zR ?_
     rw [dig_e zo]
     refine zL elByte [.int .u8 ((UInt8.ofNat (48 + e)).toNat : Int)] ?_
     refine zR ?_
     have cb := Cl.alloc w4 (.cells (([Value.int .u8 ((UInt8.ofNat (48 + e)).toNat : Int)] : List Value).flatMap fun v => v.cells.toList).toArray 5)
     refine gen_appX elByte (l := o) (news := [UInt8.ofNat (48 + e)]) rfl (hr4.step cb) rfl (elB1 (UInt8.ofNat (48 + e))) encB_len encB_one (by simp; omega) zd (c4.trans cb).size fun v' w' hr' hg => ?_
     obtain ⟨a9, c9, rfl, _⟩ := hr'.form
     refine zR ?_
     exact ⟨_, ⟨rfl, rfl, trivial⟩, hg.toCl rfl (c4.trans cb), hr'⟩
    ·have e0 : e = 0 := by omega
     subst e0
     refine zR ?_
     exact ⟨_, ⟨rfl, rfl, trivial⟩, c4, by rw [show cntT 0 = [] from rfl, List.append_nil]; exact hr4⟩
   obtain ⟨c5, hr5⟩ := h5
   obtain ⟨a5, k5, rfl, _⟩ := hr5.form
   have hol5 := congrArg List.length ho
   simp only [List.length_append, List.length_cons, List.length_nil] at hol5
   have hle5 : (o ++ cntT e).length ≤ 288 := by rw [List.length_append]; omega
   refine zR ?_
   refine callS (fcc _ (hT.cl c5)) (zR ?_)
   refine zL elByte [.int .u8 (ch.toNat : Int)] ?_
   refine zR ?_
   have cb := Cl.alloc w5 (.cells (([Value.int .u8 (ch.toNat : Int)] : List Value).flatMap fun v => v.cells.toList).toArray 5)
   refine gen_appX elByte (l := o ++ cntT e) (news := [ch]) rfl (hr5.step cb) rfl (elB1 ch) encB_len encB_one (by simp only [List.length_cons, List.length_nil]; omega) zd (c5.trans cb).size fun v' w' hr' hg => ?_
   obtain ⟨a9, c9, rfl, _⟩ := hr'.form
   refine zR ?_
   exact ⟨(f + 1, 0, (o ++ cntT e) ++ [ch], _), ⟨rfl, rfl, int_eq nf, trivial⟩, ⟨by show f + 1 ≤ 8; omega, Nat.zero_le _, by rw [← ho]; simp only [List.append_assoc], hg.toCl rfl (c5.trans cb), hr'⟩, by show 8 - (f + 1) < 8 - f; omega⟩
  ·have e8 : f = 8 := by omega
   subst e8
   have hrz : rowT (fun f => sq p (8 * (S : Int) + f)) (8 - 8) 8 e = cntT e := rfl
   rw [hrz] at ho
   have hend : ∀ v' w', Cl w w' → Row 5 1 encB w.heap.size w' v' (o ++ cntT e) → ∃ s' : Int × Tx × Value, (s'.2.2 = v' ∧ s'.1 = (S : Int) - 1) ∧ ((-1 ≤ s'.1 ∧ s'.1 ≤ 7) ∧ s'.2.1 ++ (if 0 ≤ s'.1 ∧ s'.1 < 7 then [47] else []) ++ boardT p (s'.1 + 1).toNat = boardT p 8 ∧ Cl w w' ∧ Row 5 1 encB w.heap.size w' s'.2.2 s'.2.1) ∧ (s'.1 + 1).toNat < S + 1 := by
    intro v' w' hc hr
    refine ⟨((S : Int) - 1, o ++ cntT e, v'), ⟨rfl, rfl⟩, ⟨⟨by show -1 ≤ (S : Int) - 1; omega, by show (S : Int) - 1 ≤ 7; omega⟩, ?_, hc, hr⟩, by show ((S : Int) - 1 + 1).toNat < S + 1; omega⟩
    show o ++ cntT e ++ (if 0 ≤ (S : Int) - 1 ∧ (S : Int) - 1 < 7 then [47] else []) ++ boardT p ((S : Int) - 1 + 1).toNat = boardT p 8
    rw [← ho, show ((S : Int) - 1 + 1).toNat = S by omega]
    congr 2
    by_cases h0 : S = 0
    ·rw [if_pos h0, if_neg zo]
    ·rw [if_neg h0, if_pos zo]
   refine zR ?_
   apply E.dsplit<;>intro h
   ·refine zR ?_
    rw [dig_e zo]
    refine zL elByte [.int .u8 ((UInt8.ofNat (48 + e)).toNat : Int)] ?_
    refine zR ?_
    have cb := Cl.alloc w4 (.cells (([Value.int .u8 ((UInt8.ofNat (48 + e)).toNat : Int)] : List Value).flatMap fun v => v.cells.toList).toArray 5)
    refine gen_appX elByte (l := o) (news := [UInt8.ofNat (48 + e)]) rfl (hr4.step cb) rfl (elB1 (UInt8.ofNat (48 + e))) encB_len encB_one (by simp; omega) zd (c4.trans cb).size fun v' w' hr' hg => ?_
    rw [← cntT_one (show 0 < e by omega) zo] at hr'
    obtain ⟨a9, c9, rfl, _⟩ := hr'.form
    refine zR ?_
    obtain ⟨s', ⟨q1, q2⟩, h1, h2⟩ := hend _ _ (hg.toCl rfl (c4.trans cb)) hr'
    exact ⟨s', ⟨q1.symm, rfl, int_eq (by rw [q2]; exact w64_in zo zo), trivial⟩, h1, zo⟩
   ·have e0 : e = 0 := by omega
    subst e0
    obtain ⟨s', ⟨q1, q2⟩, h1, h2⟩ := hend _ _ c4 (by rw [show cntT 0 = [] from rfl, List.append_nil]; exact hr4)
    refine zR ?_
    exact ⟨s', ⟨q1.symm, rfl, int_eq (by rw [q2]; exact w64_in zo zo), trivial⟩, h1, zo⟩
 ·have e : r = -1 := by omega
  subst e
  have e2 : l = boardT p 8 := by rw [← hl]; simp [boardT]
  refine zR ?_
  refine gen_textR l rfl hrw (zR ?_)
  exact ⟨by rw [e2]; rfl, c2⟩
theorem dec_lib (n : Nat) : dec n = Lib.decDigits n := by
 induction n using Nat.strongRecOn with
 | _ n ih =>
  unfold dec Lib.decDigits
  by_cases h : n < 10
  ·rw [dif_pos h, dif_pos h]
  ·rw [dif_neg h, dif_neg h, ih _ zo]
def Pow (w : World) : Prop := Lib.TabIs G.P w "internal/strconv.uint64pow10" .u64 Lib.pow10Tab
theorem Pow.cl {w w' : World} (h : Pow w) (c : Cl w w') : Pow w' := by
 unfold Pow Lib.TabIs World.var? at *
 cases hg : G.P.globalNamed "internal/strconv.uint64pow10" with
 | none => rw [hg] at h; cases h
 | some g =>
  rw [hg] at h
  simp only [Option.bind_some] at h ⊢
  cases hb : w.heap[g]? with
  | none => rw [hb] at h; cases h
  | some o =>
   rw [c.blk hb]; rw [hb] at h; exact h
theorem Cl.grow (w : World) (k : Nat) (os : Array Obj) : Cl w (Sort.grow (w.drewN k) os) := by
 refine ⟨rfl, rfl, rfl, by simp [Sort.grow, World.drewN], fun i hi => ?_⟩
 simp [Sort.grow, World.drewN, Array.getElem?_append, hi]
theorem Itoa_c (n : Nat) (hn : n < 4611686018427387904) (w : World) (hw : Pow w) : Calls G.P 169 #[.int .i64 n] w (Ret (txV (dec n)) w) := by
 refine (Tryz.strconv_Itoa n zo zo w hw).mono ?_
 rintro r w' ⟨h1, k, os, h2⟩
 refine ⟨?_, by rw [h2]; exact Cl.grow w k os⟩
 rw [h1, dec_lib]
 unfold Lib.itoa
 rw [if_neg zo, Int.toNat_natCast]; rfl
theorem ColorString_c (t : Int) (ht : t = 0 ∨ t = 1) (w : World) : Calls G.P 165 #[.int .i8 (t + 1)] w (RetS (txV (turnT t)) w) := by
 have e1 : (0 : Int) + 1 = 1 := rfl
 have e2 : (1 : Int) + 1 = 2 := rfl
 rcases ht with rfl | rfl <;> simp only [e1, e2] <;> (refine E.enter (G := G) Tryz.func165 rfl (by simp [Tryz.ntmps165]) zk ?_) <;> refine W_vc ?_ <;> (refine zR ?_) <;> exact ⟨rfl, rfl⟩
theorem RightsString_c (t : Tx) (w : World) : Calls G.P 166 #[txV t] w (RetS (txV t) w) := by
 refine zN Tryz.func166 ?_
 refine zR ?_
 exact ⟨rfl, rfl⟩
theorem PosString_c {p : Pos} (hI : Inv p) (hN : Nums p) {P b : Nat} {cv : Value} {c : Bool} (w : World) (hT : Tabs w) (hw : Pow w)
  (hP : w.heap[P]? = some (.cells (hdA b (hdOf p c) cv) 173 (0, 0))) (hB : w.heap[b]? = some (.cells (mbA (mbOf p)) 237 (0, 0))) :
  Calls G.P 163 #[.pointer (some ⟨P, 0, none⟩)] w (Ret (txV (fenT p)) w) := by
 have hep := passed_ep hI.pass
 have hcl := castT_len p.castle
 have htl := turnT_len p.turn
 have hel := epT_len p.ep
 have hbl := boardT_len p 8
 refine zN Tryz.func163 ?_
 refine zR ?_
 refine kHb hP (zR ?_)
 refine callR (BoardString_c hI.pc w hT hB) fun w1 c1 => ?_
 have hP1 := c1.blk hP
 refine zR ?_
 refine kHt hP1 ?_
 rw [show (hdOf p c).turn = p.turn + 1 from rfl]
 refine zR ?_
 refine callS (ColorString_c p.turn hI.turn _) (zR ?_)
 refine loadK _ (ldHcas hP1) ?_
 rw [show (hdOf p c).cas = castT p.castle from rfl]
 refine zR ?_
 refine callS (RightsString_c _ _) (zG ?_)
 refine Nx.mk (zG ?_)
 refine joinK (σ := Unit) [6] 7 (fun _ => [(6, txV (epT p.ep))]) (fun _ w' => w' = w1) zk ?_ (fun _ j w2 e2 => ?_)
 ·refine zR ?_
  refine kHep hP1 ?_
  rw [show (hdOf p c).ep = p.ep from rfl]
  refine zR ?_
  apply E.ndsplit<;>intro h
  ·refine zR ?_
   refine kHep hP1 ?_
   rw [show (hdOf p c).ep = p.ep from rfl]
   refine zR ?_
   refine callS (sqStr_c p.ep zo zo _) (zR ?_)
   exact ⟨(), ⟨by unfold epT; rw [if_pos zo]; rfl, trivial⟩, rfl⟩
  ·refine zR ?_
   exact ⟨(), ⟨by unfold epT; rw [if_neg zo]; rfl, trivial⟩, rfl⟩
 subst e2
 have h0 := hI.h0; have hf1 := hI.f1
 have hhl := dec_len20 (n := p.half.toNat) (by have := hN.1; omega)
 have hfl := dec_len20 (n := p.full.toNat) (by have := hN.2; omega)
 have it1 := fun w hw => Itoa_c p.half.toNat (by have := hN.1; omega) w hw
 have it2 := fun w hw => Itoa_c p.full.toNat (by have := hN.2; omega) w hw
 rw [Int.toNat_of_nonneg h0] at it1
 rw [Int.toNat_of_nonneg zo] at it2
 have hfen : fenT p = boardT p 8 ++ [32] ++ turnT p.turn ++ [32] ++ castT p.castle ++ [32] ++ epT p.ep ++ [32] ++ dec p.half.toNat ++ [32] ++ dec p.full.toNat := rfl
 rw [hfen]
 clear hfen
 generalize boardT p 8 = X1 at *
 generalize turnT p.turn = X2 at *
 generalize castT p.castle = X3 at *
 generalize epT p.ep = X4 at *
 generalize dec p.half.toNat = X5 at *
 generalize dec p.full.toNat = X6 at *
 refine zR ?_
 refine zK 25 ?_
 refine zR ?_
 refine E.ctrue (fits_tx (x := X1) (y := [32]) (by simp only [List.length_append, List.length_cons, List.length_nil]; omega)) ?_
 rw [tx_lit]
 refine zR ?_
 refine E.ctrue (fits_tx (x := X1 ++ [32]) (y := X2) (by simp only [List.length_append, List.length_cons, List.length_nil]; omega)) ?_
 rw [tx_app]
 refine zR ?_
 refine E.ctrue (fits_tx (x := X1 ++ [32] ++ X2) (y := [32]) (by simp only [List.length_append, List.length_cons, List.length_nil]; omega)) ?_
 rw [tx_lit]
 refine zR ?_
 refine E.ctrue (fits_tx (x := X1 ++ [32] ++ X2 ++ [32]) (y := X3) (by simp only [List.length_append, List.length_cons, List.length_nil]; omega)) ?_
 rw [tx_app]
 refine zR ?_
 refine E.ctrue (fits_tx (x := X1 ++ [32] ++ X2 ++ [32] ++ X3) (y := [32]) (by simp only [List.length_append, List.length_cons, List.length_nil]; omega)) ?_
 rw [tx_lit]
 refine zR ?_
 refine E.ctrue (fits_tx (x := X1 ++ [32] ++ X2 ++ [32] ++ X3 ++ [32]) (y := X4) (by simp only [List.length_append, List.length_cons, List.length_nil]; omega)) ?_
 rw [tx_app]
 refine zR ?_
 refine E.ctrue (fits_tx (x := X1 ++ [32] ++ X2 ++ [32] ++ X3 ++ [32] ++ X4) (y := [32]) (by simp only [List.length_append, List.length_cons, List.length_nil]; omega)) ?_
 rw [tx_lit]
 refine zR ?_
 refine loadQ _ (fun w hw => ldHhalf (hw.blk hP1)) ?_
 rw [show (hdOf p c).half = p.half from rfl]
 refine zR ?_
 refine callQ _ (fun _ _ h => h.trans) (fun w' h' => it1 w' ((hw.cl c1).cl h')) (zR ?_)
 refine E.ctrue (fits_tx (x := X1 ++ [32] ++ X2 ++ [32] ++ X3 ++ [32] ++ X4 ++ [32]) (y := X5) (by simp only [List.length_append, List.length_cons, List.length_nil]; omega)) ?_
 rw [tx_app]
 refine zR ?_
 refine E.ctrue (fits_tx (x := X1 ++ [32] ++ X2 ++ [32] ++ X3 ++ [32] ++ X4 ++ [32] ++ X5) (y := [32]) (by simp only [List.length_append, List.length_cons, List.length_nil]; omega)) ?_
 rw [tx_lit]
 refine zR ?_
 refine loadQ _ (fun w hw => ldHfull (hw.blk hP1)) ?_
 rw [show (hdOf p c).full = p.full from rfl]
 refine zR ?_
 refine callQ _ (fun _ _ h => h.trans) (fun w' h' => it2 w' ((hw.cl c1).cl h')) (zR ?_)
 refine E.ctrue (fits_tx (x := X1 ++ [32] ++ X2 ++ [32] ++ X3 ++ [32] ++ X4 ++ [32] ++ X5 ++ [32]) (y := X6) (by simp only [List.length_append, List.length_cons, List.length_nil]; omega)) ?_
 rw [tx_app]
 refine zR ?_
 intro w9 c9
 refine zR ?_
 exact ⟨rfl, c1.trans c9⟩
theorem elFile : ElemOk 205 199 1 1 := elem_of zk
theorem boxF (w : World) (f : Nat → Value) (hf : ∀ i, (f i).cells = #[f i]) : TabN (w.alloc (.cells (([f 0, f 1] : List Value).flatMap fun v => v.cells.toList).toArray 199)) w.heap.size 2 f :=
 ⟨_, 199, (0, 0), alloc_new _ _, rfl, fun i hi => by
  rcases (by omega : i = 0 ∨ i = 1) with rfl | rfl <;> simp [hf]⟩
set_option maxHeartbeats 1000000 in
theorem XFENString_c {p : Pos} (hI : Inv p) (hN : Nums p) {P b : Nat} {cv : Value} {c : Bool} (w : World) (hT : Tabs w) (hw : Pow w)
  (hP : w.heap[P]? = some (.cells (hdA b (hdOf p c) cv) 173 (0, 0))) (hB : w.heap[b]? = some (.cells (mbA (mbOf p)) 237 (0, 0))) :
  Calls G.P 108 #[.pointer (some ⟨P, 0, none⟩)] w (Ret (txV (xfenT p)) w) := by
 have hep := passed_ep hI.pass
 have hcl := castT_len p.castle
 have htl := turnT_len p.turn
 have hel := epT_len p.ep
 have hbl := boardT_len p 8
 refine zN Tryz.func108 ?_
 refine zR ?_
 refine kHb hP (zR ?_)
 refine callR (BoardString_c hI.pc w hT hB) fun w1 c1 => ?_
 have hP1 := c1.blk hP
 refine zR ?_
 refine kHt hP1 ?_
 rw [show (hdOf p c).turn = p.turn + 1 from rfl]
 refine zR ?_
 refine callS (ColorString_c p.turn hI.turn _) (zR ?_)
 refine loadK _ (ldHcas hP1) ?_
 rw [show (hdOf p c).cas = castT p.castle from rfl]
 refine zR ?_
 refine callS (RightsString_c _ _) (zG ?_)
 refine Nx.mk (zG ?_)
 obtain ⟨X4, hX4⟩ : ∃ X4, X4 = (if p.ep < 0 ∨ beside p = true then epT p.ep else [45]) := ⟨_, rfl⟩
 have hel : X4.length ≤ 2 := by rw [hX4]; split; exact hel; simp
 refine joinK (σ := Unit) [6, 7, 8, 9, 11, 12, 13] 14 (fun _ => [(6, txV X4)]) (fun _ w' => Cl w w') zk ?_ (fun _ j w4 c4 => ?_)
 ·refine zR ?_
  refine kHep hP1 ?_
  rw [show (hdOf p c).ep = p.ep from rfl]
  refine zR ?_
  apply E.ndsplit<;>intro h
  ·have he0 : 0 ≤ p.ep := by omega
   have hrk : rank p.ep = 5 - 3 * p.turn := (hep.2.2 h).1
   have ht := hI.turn
   clear h
   have hbe : ∀ i : Nat, i < 2 → besideAt p (2 * (i : Int) - 1) = (decide (0 ≤ at' (p.ep % 8 + (2 * (i : Int) - 1)) (4 - p.turn)) && decide (sq p (at' (p.ep % 8 + (2 * (i : Int) - 1)) (4 - p.turn)) = 6 + 6 * p.turn)) := by
    intro i _
    unfold besideAt
    rw [show rank p.ep - up p.turn = 4 - p.turn by unfold up; omega]; rfl
   refine zG ?_
   refine joinK (σ := Unit) [7] 14 (fun _ => [(7, .int .i8 (4 - p.turn))]) (fun _ w' => w' = w1) zk ?_ (fun _ j w2 e2 => ?_)
   ·refine zR ?_
    refine kHt hP1 ?_
    rw [show (hdOf p c).turn = p.turn + 1 from rfl]
    refine zR ?_
    apply E.dsplit<;>intro h
    ·refine zR ?_
     exact ⟨(), ⟨int_eq zo, trivial⟩, rfl⟩
    ·refine zR ?_
     exact ⟨(), ⟨int_eq zo, trivial⟩, rfl⟩
   subst e2
   have eF1 : IntKind.i8.wrap (p.ep % 8 - 1) = p.ep % 8 + (2 * ((0 : Nat) : Int) - 1) := by rw [w8_in zo zo]; omega
   have eF2 : IntKind.i8.wrap (p.ep % 8 + 1) = p.ep % 8 + (2 * ((1 : Nat) : Int) - 1) := by rw [w8_in zo zo]; omega
   refine zR ?_
   refine kHep hP1 ?_
   rw [show (hdOf p c).ep = p.ep from rfl]
   refine zR ?_
   refine callS (sFile_c p.ep he0 hep.2.1 _) (zR ?_)
   rw [eF1, eF2]
   refine zL elFile [.int .i8 (p.ep % 8 + (2 * ((0 : Nat) : Int) - 1)), .int .i8 (p.ep % 8 + (2 * ((1 : Nat) : Int) - 1))] ?_
   have hbx := boxF w2 (fun i => .int .i8 (p.ep % 8 + (2 * (i : Int) - 1))) (fun i => rfl)
   have cB := Cl.alloc w2 (.cells (([.int .i8 (p.ep % 8 + (2 * ((0 : Nat) : Int) - 1)), .int .i8 (p.ep % 8 + (2 * ((1 : Nat) : Int) - 1))] : List Value).flatMap fun v => v.cells.toList).toArray 199)
   generalize w2.alloc (.cells (([.int .i8 (p.ep % 8 + (2 * ((0 : Nat) : Int) - 1)), .int .i8 (p.ep % 8 + (2 * ((1 : Nat) : Int) - 1))] : List Value).flatMap fun v => v.cells.toList).toArray 199) = w3 at *
   have c3 := c1.trans cB
   refine zR ?_
   refine loopK (σ := Nat) [6, 11, 12, 13, 51] 52 (fun i => [(6, txV [45]), (51, .int .i64 i)]) (fun i w' => i ≤ 2 ∧ (∀ j : Nat, j < i → besideAt p (2 * (j : Int) - 1) = false) ∧ Cl w w' ∧ Cl w3 w') (fun i => 2 - i) zk 0 ⟨zd, fun j h => absurd h zo, c3, Cl.refl _⟩ ⟨rfl, rfl, trivial⟩ ?_
   rintro i j5 w5 ⟨hi, hno, c5, c35⟩
   have ni := i_succ (i := i) zo
   refine zR ?_
   apply E.dsplit<;>intro h
   ·have hi2 : i < 2 := by omega
    clear h
    have hb := hbe i hi2
    have hsn : besideAt p (2 * (i : Int) - 1) = false → ∀ j : Nat, j < i + 1 → besideAt p (2 * (j : Int) - 1) = false := by
     intro h0 j hj
     by_cases e : j < i
     ·exact hno j e
     ·have : j = i := by omega
      subst this; exact h0
    obtain ⟨F, hF⟩ : ∃ F : Int, F = p.ep % 8 + (2 * (i : Int) - 1) := ⟨_, rfl⟩
    have hld := ldTab (t := 199) (hbx.cl c35) (o := i) (i := i) hi2 rfl rfl
    rw [← hF] at hb hld
    have hFr : -1 ≤ F ∧ F ≤ 8 := by omega
    refine zR ?_
    refine zC ?_
    refine zR ?_
    refine loadK _ hld (zR ?_)
    apply E.dsplit<;>intro h
    ·have hat : at' F (4 - p.turn) = -1 := by unfold at'; rw [if_pos (.inl h)]
     rw [hat] at hb
     refine zR ?_
     exact ⟨i + 1, ⟨rfl, int_eq ni, trivial⟩, ⟨zo, hsn (by rw [hb]; rfl), c5, c35⟩, zo⟩
    ·have h1 := h
     clear h
     refine zR ?_
     apply E.dsplit<;>intro h
     ·have hat : at' F (4 - p.turn) = -1 := by unfold at'; rw [if_pos (.inr (.inl h))]
      rw [hat] at hb
      refine zR ?_
      exact ⟨i + 1, ⟨rfl, int_eq ni, trivial⟩, ⟨zo, hsn (by rw [hb]; rfl), c5, c35⟩, zo⟩
     ·obtain ⟨s, hs⟩ := Int.eq_ofNat_of_zero_le (show 0 ≤ 8 * (4 - p.turn) + F by omega)
      have hs64 : s < 64 := by omega
      have hat : at' F (4 - p.turn) = s := by unfold at'; rw [if_neg zo, hs]
      rw [hat, decide_eq_true (Int.natCast_nonneg s), Bool.true_and] at hb
      have hX := hI.pc s
      have nsq := NewSquare_c F (4 - p.turn) zo zo zo zo w5
      rw [hs] at nsq
      have pcc := Piece_c (mbOf p) b (t := 237) (fz := (0, 0)) s hs64 w5 (hT.cl c5) (c5.blk hB)
      rw [at_of' hI.pc hs64] at pcc
      clear h
      generalize sq p s = X at *
      refine zR ?_
      refine callS nsq (zR ?_)
      refine kHb (c5.blk hP) (zR ?_)
      refine callS pcc (zR ?_)
      apply E.dsplit<;>intro h
      ·refine zR ?_
       exact ⟨i + 1, ⟨rfl, int_eq ni, trivial⟩, ⟨zo, hsn (by rw [hb]; exact decide_eq_false zo), c5, c35⟩, zo⟩
      ·have hx0 : ¬ X = 0 := h
       clear h
       refine zR ?_
       refine callS (Type_c X hX.1 hX.2 _) (zR ?_)
       apply E.ndsplit<;>intro h
       ·have hne : ¬ X = 6 + 6 * p.turn := by
         intro e
         apply h
         rw [e]; rcases ht with e2 | e2 <;> rw [e2] <;> rfl
        refine zR ?_
        exact ⟨i + 1, ⟨rfl, int_eq ni, trivial⟩, ⟨zo, hsn (by rw [hb]; exact decide_eq_false hne), c5, c35⟩, zo⟩
       ·have hk6 : X = 6 ∨ X = 12 := by unfold kindOf at h; split at h <;> omega
        refine zR ?_
        refine zK 7 ?_
        refine zR ?_
        refine callQs _ (fun w hw => Color_c X hX.1 hX.2 w) (zR ?_)
        refine qHt (c5.blk hP) ?_
        rw [show (hdOf p c).turn = p.turn + 1 from rfl]
        refine zR ?_
        intro w6 c6
        have c56 := c5.trans c6
        have hco : colM X = if X = 6 then 1 else 2 := by rcases hk6 with e | e <;> rw [e] <;> rfl
        refine zR ?_
        apply E.dsplit<;>intro h
        ·have hyes : besideAt p (2 * (i : Int) - 1) = true := by
          rw [hb]; exact decide_eq_true (by rw [hco] at h; split at h <;> omega)
         have hbs : beside p = true := by
          rw [beside_eq]
          rcases (by omega : i = 0 ∨ i = 1) with rfl | rfl
          ·have : besideAt p (-1) = true := hyes
           rw [this]; rfl
          ·have : besideAt p 1 = true := hyes
           rw [this, Bool.or_true]
         refine zR ?_
         refine kHep (c56.blk hP) ?_
         rw [show (hdOf p c).ep = p.ep from rfl]
         refine zR ?_
         refine callS (sqStr_c p.ep he0 hep.2.1 _) (zR ?_)
         exact ⟨(), ⟨by rw [hX4, if_pos (.inr hbs)]; unfold epT; rw [if_pos zo]; rfl, trivial⟩, c56⟩
        ·refine zR ?_
         exact ⟨i + 1, ⟨rfl, int_eq ni, trivial⟩, ⟨zo, hsn (by rw [hb]; exact decide_eq_false (fun e => h (by rw [hco]; split <;> omega))), c56, c35.trans c6⟩, zo⟩
   ·have h2 : i = 2 := by omega
    subst h2
    have hbs : beside p = false := by
     rw [beside_eq]
     have q0 : besideAt p (-1) = false := hno 0 zd
     have q1 : besideAt p 1 = false := hno 1 zd
     rw [q0, q1]; rfl
    refine zR ?_
    exact ⟨(), ⟨by rw [hX4, if_neg (by rw [hbs]; simp; omega)]; rfl, trivial⟩, c5⟩
  ·refine zR ?_
   exact ⟨(), ⟨by rw [hX4, if_pos (.inl zo)]; unfold epT; rw [if_neg zo]; rfl, trivial⟩, c1⟩
 have hP4 := c4.blk hP
 have h0 := hI.h0; have hf1 := hI.f1
 have hhl := dec_len20 (n := p.half.toNat) (by have := hN.1; omega)
 have hfl := dec_len20 (n := p.full.toNat) (by have := hN.2; omega)
 have it1 := fun w hw => Itoa_c p.half.toNat (by have := hN.1; omega) w hw
 have it2 := fun w hw => Itoa_c p.full.toNat (by have := hN.2; omega) w hw
 rw [Int.toNat_of_nonneg h0] at it1
 rw [Int.toNat_of_nonneg zo] at it2
 have hfen : xfenT p = boardT p 8 ++ [32] ++ turnT p.turn ++ [32] ++ castT p.castle ++ [32] ++ X4 ++ [32] ++ dec p.half.toNat ++ [32] ++ dec p.full.toNat := by
  rw [hX4]; unfold xfenT; split <;> rfl
 rw [hfen]
 clear hfen
 clear hX4
 generalize boardT p 8 = X1 at *
 generalize turnT p.turn = X2 at *
 generalize castT p.castle = X3 at *
 generalize dec p.half.toNat = X5 at *
 generalize dec p.full.toNat = X6 at *
 refine zR ?_
 refine zK 25 ?_
 refine zR ?_
 refine E.ctrue (fits_tx (x := X1) (y := [32]) (by simp only [List.length_append, List.length_cons, List.length_nil]; omega)) ?_
 rw [tx_lit]
 refine zR ?_
 refine E.ctrue (fits_tx (x := X1 ++ [32]) (y := X2) (by simp only [List.length_append, List.length_cons, List.length_nil]; omega)) ?_
 rw [tx_app]
 refine zR ?_
 refine E.ctrue (fits_tx (x := X1 ++ [32] ++ X2) (y := [32]) (by simp only [List.length_append, List.length_cons, List.length_nil]; omega)) ?_
 rw [tx_lit]
 refine zR ?_
 refine E.ctrue (fits_tx (x := X1 ++ [32] ++ X2 ++ [32]) (y := X3) (by simp only [List.length_append, List.length_cons, List.length_nil]; omega)) ?_
 rw [tx_app]
 refine zR ?_
 refine E.ctrue (fits_tx (x := X1 ++ [32] ++ X2 ++ [32] ++ X3) (y := [32]) (by simp only [List.length_append, List.length_cons, List.length_nil]; omega)) ?_
 rw [tx_lit]
 refine zR ?_
 refine E.ctrue (fits_tx (x := X1 ++ [32] ++ X2 ++ [32] ++ X3 ++ [32]) (y := X4) (by simp only [List.length_append, List.length_cons, List.length_nil]; omega)) ?_
 rw [tx_app]
 refine zR ?_
 refine E.ctrue (fits_tx (x := X1 ++ [32] ++ X2 ++ [32] ++ X3 ++ [32] ++ X4) (y := [32]) (by simp only [List.length_append, List.length_cons, List.length_nil]; omega)) ?_
 rw [tx_lit]
 refine zR ?_
 refine loadQ _ (fun w hw => ldHhalf (hw.blk hP4)) ?_
 rw [show (hdOf p c).half = p.half from rfl]
 refine zR ?_
 refine callQ _ (fun _ _ h => h.trans) (fun w' h' => it1 w' ((hw.cl c4).cl h')) (zR ?_)
 refine E.ctrue (fits_tx (x := X1 ++ [32] ++ X2 ++ [32] ++ X3 ++ [32] ++ X4 ++ [32]) (y := X5) (by simp only [List.length_append, List.length_cons, List.length_nil]; omega)) ?_
 rw [tx_app]
 refine zR ?_
 refine E.ctrue (fits_tx (x := X1 ++ [32] ++ X2 ++ [32] ++ X3 ++ [32] ++ X4 ++ [32] ++ X5) (y := [32]) (by simp only [List.length_append, List.length_cons, List.length_nil]; omega)) ?_
 rw [tx_lit]
 refine zR ?_
 refine loadQ _ (fun w hw => ldHfull (hw.blk hP4)) ?_
 rw [show (hdOf p c).full = p.full from rfl]
 refine zR ?_
 refine callQ _ (fun _ _ h => h.trans) (fun w' h' => it2 w' ((hw.cl c4).cl h')) (zR ?_)
 refine E.ctrue (fits_tx (x := X1 ++ [32] ++ X2 ++ [32] ++ X3 ++ [32] ++ X4 ++ [32] ++ X5 ++ [32]) (y := X6) (by simp only [List.length_append, List.length_cons, List.length_nil]; omega)) ?_
 rw [tx_app]
 refine zR ?_
 intro w9 c9
 refine zR ?_
 exact ⟨rfl, c4.trans c9⟩
theorem zMvI : ∃ z, (G.P.info? 36).bind (·.zero) = some z ∧ z.cells.size = 3 := zero_of zk
theorem plainMove_c {M t : Nat} {d : Nd} {w : World} {fz : Nat × Nat} (hM : w.heap[M]? = some (.cells (ndA d) t fz)) (f0 : -128 ≤ d.mv.fr) (f1 : d.mv.fr ≤ 127) (t0 : -128 ≤ d.mv.to) (t1 : d.mv.to ≤ 127) (p0 : -128 ≤ d.mv.promo) (p1 : d.mv.promo ≤ 127) :
  Calls G.P 100 #[.pointer (some ⟨M, 0, none⟩)] w (Ret (.agg (mvA d.mv)) w) := by
 have e1 : IntKind.i64.wrap d.mv.fr = d.mv.fr := w64_in zo zo
 have e2 : IntKind.i64.wrap d.mv.to = d.mv.to := w64_in zo zo
 have e3 : IntKind.i64.wrap d.mv.promo = d.mv.promo := w64_in zo zo
 refine zN Tryz.func100 ?_
 refine zR ?_
 obtain ⟨z, hz, hzs⟩ := zMvI
 refine gen_alloc z hz ?_
 have cA := Cl.alloc w (.cells z.cells 36)
 have nA := alloc_new w (.cells z.cells 36)
 generalize w.alloc (.cells z.cells 36) = w1 at *
 have hM1 := cA.blk hM
 refine zR ?_
 refine callS (S1_c hM1) (zR ?_)
 rw [e1]
 refine callS (S2_c hM1) (zR ?_)
 rw [e2]
 refine callS (Promo_c hM1) (zR ?_)
 rw [e3]
 refine gen_build (mvA d.mv) zk (zR ?_)
 refine stK nA (encMv d.mv) rfl szMv rfl (encMv_one _) (by rw [hzs]; decide) (fun w2 u2 => zR ?_)
 have h2 := u2.at_
 rw [over_all _ _ (by rw [hzs]; rfl)] at h2
 refine loadK _ (ldMv h2) (zR ?_)
 exact ⟨rfl, u2.cl cA (Nat.le_refl _)⟩
theorem PosM.kept {w : World} {P b : Nat} {p : Pos} {a : Option Addr} {n c : Nat} (h : PosM w P b p (.slice a n c)) (hr : Row 141 11 encPM 0 w (.slice a n c) (mac p)) (hne : mac p ≠ []) : ∃ ad, a = some ad := by
 obtain ⟨a', c', e, ha⟩ := hr.form
 injection e with e1 e2 e3
 obtain ⟨g, hg⟩ := ha (List.length_pos_iff.2 hne)
 exact ⟨_, by rw [e1, hg]⟩
def Found (w w' : World) (p : Pos) (m : Mv) (r : Ending) : Prop :=
 (m ∉ legal p ∧ r = .returned (.pointer none)) ∨ (∃ M x, x ∈ mac p ∧ x.mv = m ∧ r = .returned (.pointer (some ⟨M, 0, none⟩)) ∧ w.heap.size ≤ M ∧ w'.heap[M]? = some (.cells (ndA (pmNd x)) 141 (0, 0)))
set_option maxHeartbeats 1000000 in
theorem find_c {p : Pos} (hI : Inv p) (hle : (macStd p).length ≤ 218) {P b : Nat} {cv : Value} {m : Mv} (hm : MvR m) (w : World) (hT : Tabs w) (hM : PosM w P b p cv) :
  Calls G.P 44 #[.pointer (some ⟨P, 0, none⟩), .agg (mvA m)] w (fun r w' => ∃ cv', PosM w' P b p cv' ∧ Tn P w w' ∧ Row 141 11 encPM 0 w' cv' (mac p) ∧ Found w w' p m r ∧ ∀ k, cv'.ownBlock = some k → (cv.ownBlock = some k ∨ w.heap.size ≤ k) ∧ r ≠ .returned (.pointer (some ⟨k, 0, none⟩))) := by
 obtain ⟨mm1, mm2⟩ := mem_mac hI
 have hlen := mac_len hI hle
 refine zN Tryz.func44 ?_
 refine zG ?_
 have cb := Cl.alloc w (.cells (mvA m) 36)
 have nb := alloc_new w (.cells (mvA m) 36)
 have sb := alloc_size w (.cells (mvA m) 36)
 generalize w.alloc (.cells (mvA m) 36) = w1 at *
 have hPw : P < w.heap.size := (Array.getElem?_eq_some_iff.1 hM.hd).1
 refine zR ?_
 refine callK (ValidMoves_c hI hle w1 (hT.cl cb) (hM.step cb)) ?_
 rintro r w2 ⟨v, cv', rfl, hr, hM2, n2, hr0, hown⟩
 obtain ⟨av, kv, rfl, hav⟩ := hr.form
 have hown2 : ∀ k, cv'.ownBlock = some k → (cv.ownBlock = some k ∨ w.heap.size ≤ k) ∧ k < w2.heap.size := fun k h => ⟨(hown k h).imp id (Nat.le_trans cb.size), (hr0.own h).2⟩
 clear hown
 refine ⟨_, rfl, ?_⟩
 have nb2 := n2.blk nb zo
 have ntw := (Tn.cl (b := P) cb).trans n2
 have hcr : ∀ w', Cl w2 w' → Row 141 11 encPM 0 w' cv' (mac p) := fun w' hc => hr0.step hc
 refine zR ?_
 refine loopK (σ := Nat) [4, 6, 10] 11 (fun i => [(10, .int .i64 i)]) (fun i w' => i ≤ (mac p).length ∧ Cl w2 w' ∧ ∀ x ∈ (mac p).take i, x.mv ≠ m) (fun i => (mac p).length - i) zk 0 ⟨Nat.zero_le _, Cl.refl _, fun x hx => by simp at hx⟩ ⟨rfl, trivial⟩ ?_
 rintro i j w3 ⟨hi, c3, hno⟩
 have ni := i_succ (i := i) zo
 refine zR ?_
 apply E.dsplit<;>intro h
 ·have hi2 : i < (mac p).length := by omega
  clear h
  obtain ⟨g, rfl⟩ := hav zo
  have hld := fun {o : Nat} (ho : o = i * 11) => ldRowPM (hr.step c3) i hi2 ho
  have hxm := List.getElem_mem hi2
  have htk : (mac p).take (i + 1) = (mac p).take i ++ [(mac p)[i]] := List.take_succ_eq_append_getElem hi2
  generalize (mac p)[i] = x at *
  have hxl := (mm1 x hxm).1
  have hxr := legal_range hI hxl
  refine zR ?_
  refine zC ?_
  refine zR ?_
  refine loadK _ (hld (off_mul _ _)) (zR ?_)
  refine gen_alloc _ zMove ?_
  have cB := Cl.alloc w3 (.cells (Value.agg (ndA (pmNd ⟨⟨0, 0, 0⟩, 0⟩))).cells 141)
  have nB := alloc_new w3 (.cells (Value.agg (ndA (pmNd ⟨⟨0, 0, 0⟩, 0⟩))).cells 141)
  generalize w3.alloc (.cells (Value.agg (ndA (pmNd ⟨⟨0, 0, 0⟩, 0⟩))).cells 141) = w4 at *
  refine zR ?_
  refine stK nB (encPM x) rfl szMove rfl (encPM_one x) (Nat.le_of_ble_eq_true rfl) fun w5 u5 => ?_
  have hX : w5.heap[w3.heap.size]? = some (.cells (ndA (pmNd x)) 141 (0, 0)) := by have h7 := u5.at_; rw [over_all _ _ (by rw [encPM_len]; rfl)] at h7; exact h7
  have c5 : Cl w3 w5 := (Tn.upd u5).toCl cB (Nat.le_refl _)
  have c25 := c3.trans c5
  have hxR : MvR x.mv := mvR_ok ⟨⟨hxr.1, hxr.2.1⟩, ⟨hxr.2.2.1, hxr.2.2.2.1⟩, by have := hxr.2.2.2.2; omega⟩
  refine zR ?_
  refine zK 3 ?_
  refine zR ?_
  refine callQ _ (fun _ _ h => h.trans) (fun w' h' => plainMove_c (h'.blk hX) (by show -128 ≤ x.mv.fr; omega) (by show x.mv.fr ≤ 127; omega) (by show -128 ≤ x.mv.to; omega) (by show x.mv.to ≤ 127; omega) (by show -128 ≤ x.mv.promo; have := hxr.2.2.2.2; omega) (by show x.mv.promo ≤ 127; have := hxr.2.2.2.2; omega)) (zR ?_)
  refine loadQ _ (fun w' h' => ldMv ((c25.trans h').blk nb2)) (zR ?_)
  refine genQ_eqA gdMv (eqMv hxR hm) rfl rfl (zR ?_)
  intro w6 c6
  have c26 := c25.trans c6
  refine zR ?_
  apply E.dsplit<;>intro h
  ·refine zR ?_
   exact ⟨cv', hM2.step c26, ntw.trans (Tn.cl c26), hcr _ c26, .inr ⟨_, x, hxm, h, rfl, by have := ntw.size; have := c3.size; omega, c6.blk hX⟩, fun k hk => ⟨(hown2 k hk).1, fun e => by have := (hown2 k hk).2; have := c3.size; simp at e <;> omega⟩⟩
  ·refine zR ?_
   refine ⟨i + 1, ⟨int_eq ni, trivial⟩, ⟨zo, c26, fun y hy => ?_⟩, zo⟩
   rw [htk] at hy
   rcases List.mem_append.1 hy with hy | hy
   ·exact hno y hy
   ·rw [List.mem_singleton] at hy; rw [hy]; exact h
 ·have e : i = (mac p).length := by omega
  subst e
  rw [List.take_length] at hno
  refine zR ?_
  exact ⟨cv', hM2.step c3, ntw.trans (Tn.cl c3), hcr _ c3, .inl ⟨fun hl => by obtain ⟨x, hx, e⟩ := mm2 m hl; exact hno x hx e, rfl⟩, fun k hk => ⟨(hown2 k hk).1, fun e => by simp at e⟩⟩
theorem zBoard : ∃ z, (G.P.info? 22).bind (·.zero) = some z ∧ z.cells.size = 64 := zero_of zk
def sqL (p : Pos) : List Value := p.board.map (Value.int .i64)
theorem sqL_len (p : Pos) : (sqL p).length = 64 := by simp [sqL, p.len]
theorem sqL_at (p : Pos) {i : Nat} (h : i < 64) : (sqL p)[i]'(by rw [sqL_len]; exact h) = .int .i64 (sq p i) := by
 have h2 : i < p.board.length := by rw [p.len]; exact h
 simp [sqL, sq, List.getD_eq_getElem?_getD, h2]
theorem szI : (G.P.info? 3).map (·.size) = some 1 := by kernel_rfl
theorem plainBoard_c {p : Pos} (hp : ∀ i : Int, 0 ≤ sq p i ∧ sq p i ≤ 12) {b t : Nat} {fz : Nat × Nat} (w : World) (hT : Tabs w) (hB : w.heap[b]? = some (.cells (mbA (mbOf p)) t fz)) :
  Calls G.P 170 #[.pointer (some ⟨b, 0, none⟩)] w (Ret (.agg (sqL p).toArray) w) := by
 obtain ⟨z, hz, hzs⟩ := zBoard
 refine zN Tryz.func170 ?_
 refine zR ?_
 refine gen_alloc z hz ?_
 have cA := Cl.alloc w (.cells z.cells 22)
 have nA := alloc_new w (.cells z.cells 22)
 have sA := alloc_size w (.cells z.cells 22)
 generalize w.alloc (.cells z.cells 22) = w1 at *
 refine zR ?_
 refine gen_alloc z hz ?_
 have cB := Cl.alloc w1 (.cells z.cells 22)
 have nB := alloc_new w1 (.cells z.cells 22)
 generalize w1.alloc (.cells z.cells 22) = w2 at *
 have nA2 := cB.blk nA
 refine zR ?_
 refine loopK (σ := Nat) [4, 5] 6 (fun i => [(5, .int .i64 i)]) (fun i w' => i ≤ 64 ∧ w'.heap[w1.heap.size]? = some (.cells (over z.cells 0 ((sqL p).take i)) 22 (0, 0)) ∧ w'.heap[w.heap.size]? = some (.cells z.cells 22 (0, 0)) ∧ Cl w w') (fun i => 64 - i) zk 0 ⟨zd, nB, nA2, cA.trans cB⟩ ⟨rfl, trivial⟩ ?_
 rintro i j w3 ⟨hi, hO, hA, c3⟩
 have ni := i_succ (i := i) zo
 refine zR ?_
 apply E.dsplit<;>intro h
 ·have hi2 : i < 64 := by omega
  clear h
  have ei : IntKind.i8.wrap (i : Int) = i := w8_in zo zo
  have hX := hp i
  have ex : IntKind.i64.wrap (sq p i) = sq p i := w64_in zo zo
  have pc := Piece_c (mbOf p) b (t := t) (fz := fz) i hi2 w3 (hT.cl c3) (c3.blk hB)
  rw [at_of' hp hi2] at pc
  refine zR ?_
  rw [ei]
  refine callS pc (zR ?_)
  rw [ex]
  refine zC ?_
  refine zR ?_
  refine stK hO [.int .i64 (sq p i)] rfl szI rfl (one_int _ _) (by rw [over_size, hzs, offZ_eq]; omega) fun w4 u4 => zR ?_
  have hO4 := u4.at_
  have e : over (over z.cells 0 ((sqL p).take i)) (offZ 0 (Int.toNat i) 1) [.int .i64 (sq p i)] = over z.cells 0 ((sqL p).take (i + 1)) := by
   rw [List.take_succ_eq_append_getElem (by rw [sqL_len]; exact hi2), over_cat, sqL_at p hi2, List.length_take, sqL_len, offZ_eq]
   congr 1
   simp; omega
  rw [e] at hO4
  exact ⟨i + 1, ⟨int_eq ni, trivial⟩, ⟨zo, hO4, (Tn.upd u4).blk hA zo, (Tn.upd u4).toCl c3 zo⟩, zo⟩
 ·have e64 : i = 64 := by omega
  subst e64
  rw [List.take_of_length_le (by rw [sqL_len]; exact Nat.le_refl _), over_all _ _ (by rw [sqL_len, hzs])] at hO
  have hl := ldA (t := 22) (o := 0) (z := 64) hO rfl (by simp [sqL_len])
  have ee : ((sqL p).toArray.extract 0 (0 + 64)) = (sqL p).toArray := by
   have := sqL_len p
   simp [List.take_of_length_le (Nat.le_of_eq this)]
  rw [ee] at hl
  refine zR ?_
  refine loadK _ hl (zR ?_)
  refine stK hA (sqL p) rfl zk (sqL_len p) (fun v hv => by simp [sqL] at hv; obtain ⟨a, _, rfl⟩ := hv; rfl) (by rw [hzs]; decide) fun w4 u4 => ?_
  have h4 := u4.at_
  rw [over_all _ _ (by rw [sqL_len, hzs])] at h4
  have hl4 := ldA (t := 22) (o := 0) (z := 64) h4 rfl (by simp [sqL_len])
  rw [ee] at hl4
  refine zR ?_
  refine loadK _ hl4 (zR ?_)
  exact ⟨rfl, (Tn.upd u4).toCl c3 (Nat.le_refl _)⟩
theorem fold_over2 (l : List Value) : ∀ (cs : Array Value) (o k : Nat), (l.zipIdx k).foldl (fun cs (x : Value × Nat) => cs.setIfInBounds (o + x.2) x.1) cs = over cs (o + k) l := by
 induction l with
 | nil => intros; rfl
 | cons v r ih =>
  intro cs o k
  rw [List.zipIdx_cons, List.foldl_cons, ih]; rfl
theorem fill_one {place : Nat → Option (Nat × Nat)} {cells : Array Value} {i off size : Nat} {v : Value} {rest : List (Nat × Value)} (hp : place i = some (off, size)) (hs : v.cells.size = size) (ho : off + size ≤ cells.size) :
  Instr.fill place cells ((i, v) :: rest) = Instr.fill place (over cells off v.cells.toList) rest := by
 have e := fold_over2 v.cells.toList cells off 0
 rw [Nat.add_zero] at e
 rw [Instr.fill, hp]
 simp only [hs, ne_eq, not_true_eq_false, decide_false, Bool.false_or]
 rw [if_neg (by simp; omega), ← e]
 congr 1
 rw [← Array.foldl_toList]
 simp
theorem zeroPos : (G.P.info? 24).bind (·.zero) = some (.agg (Array.replicate 69 (.int .i64 0))) := by kernel_rfl
theorem places_pos : ∃ fs, G.P.underlying 24 = some (.struct fs) ∧ fs.toList.mapM (fun f => (G.P.info? f.type).map fun i => (f.offset, i.size)) = some [(0, 64), (64, 1), (65, 1), (66, 1), (67, 1), (68, 1)] := by
 have h : (match G.P.underlying 24 with | some (.struct fs) => fs.toList.mapM (fun f => (G.P.info? f.type).map fun i => (f.offset, i.size)) | _ => none) = some [(0, 64), (64, 1), (65, 1), (66, 1), (67, 1), (68, 1)] := by kernel_rfl
 split at h
 ·exact ⟨_, by assumption, h⟩
 ·cases h
theorem built_pos (p : Pos) (a b c : Int) : G.P.built 24 [(0, .agg (sqL p).toArray), (3, .int .i64 a), (4, .int .i64 b), (5, .int .i64 c)] = some (over (over (over (over (Array.replicate 69 (.int .i64 0)) 0 (sqL p)) 66 [.int .i64 a]) 67 [.int .i64 b]) 68 [.int .i64 c]) := by
 obtain ⟨fs, h1, h2⟩ := places_pos
 obtain ⟨it, h3, h4⟩ := Option.bind_eq_some_iff.1 zeroPos
 unfold Program.built
 rw [h3, h1]
 simp only [h4, h2]
 rw [fill_one (off := 0) (size := 64) rfl (by show (sqL p).toArray.size = 64; simp [sqL_len]) (by show 64 ≤ (Array.replicate 69 _).size; simp)]
 rw [fill_one (off := 66) (size := 1) rfl rfl (by rw [over_size]; show 67 ≤ (Array.replicate 69 _).size; simp)]
 rw [fill_one (off := 67) (size := 1) rfl rfl (by rw [over_size, over_size]; show 68 ≤ (Array.replicate 69 _).size; simp)]
 rw [fill_one (off := 68) (size := 1) rfl rfl (by rw [over_size, over_size, over_size]; show 69 ≤ (Array.replicate 69 _).size; simp)]
 rfl
theorem posA_build (p : Pos) : over (over (over (over (Array.replicate 69 (.int .i64 0)) 0 (sqL p)) 66 [.int .i64 p.ep]) 67 [.int .i64 p.half]) 68 [.int .i64 p.full] = posA { p with turn := 0, castle := 0 } := by
 have h := sqL_len p
 apply Array.ext_getElem?
 intro k
 have z : (Array.replicate 69 (Value.int .i64 0)).size = 69 := by simp
 rw [over_get _ _ _ _ (by rw [over_size, over_size, over_size, z]; exact (by decide : 68 + 1 ≤ 69)), over_get _ _ _ _ (by rw [over_size, over_size, z]; exact (by decide : 67 + 1 ≤ 69)), over_get _ _ _ _ (by rw [over_size, z]; exact (by decide : 66 + 1 ≤ 69)), over_get _ _ _ _ (by rw [z, h]; decide)]
 rw [h]
 simp only [List.length_cons, List.length_nil]
 by_cases k1 : k < 64
 ·rw [if_neg zo, if_neg zo, if_neg zo, if_pos zo, posA_sq _ _ k1, Nat.sub_zero, List.getElem?_eq_getElem zo, sqL_at p k1]; rfl
 ·by_cases k2 : k < 69
  ·rcases (by omega : k = 64 ∨ k = 65 ∨ k = 66 ∨ k = 67 ∨ k = 68) with rfl | rfl | rfl | rfl | rfl <;> rw [posA_tail _ _ zd] <;> simp
  ·rw [if_neg zo, if_neg zo, if_neg zo, if_neg zo, Array.getElem?_eq_none (by rw [z]; omega), Array.getElem?_eq_none (by rw [posA_size]; omega)]
theorem TabN.tnO {w w' : World} {g n b : Nat} {f : Nat → Value} (h : TabN w g n f) (hc : Tn b w w') (hne : g ≠ b) : TabN w' g n f := by
 obtain ⟨cs, t, fz, h1, h2, h3⟩ := h
 exact ⟨cs, t, fz, hc.blk h1 hne, h2, h3⟩
theorem over_turn (p : Pos) (x : Int) : over (posA p) 64 [.int .i64 x] = posA { p with turn := x } := by
 apply Array.ext_getElem?
 intro k
 rw [over_get _ _ _ _ (by rw [posA_size]; exact (by decide : 64 + 1 ≤ 69))]
 simp only [List.length_cons, List.length_nil]
 by_cases k1 : k < 64
 ·rw [if_neg zo, posA_sq _ _ k1, posA_sq _ _ k1]; rfl
 ·by_cases k2 : k = 64
  ·subst k2; rw [if_pos zd, posA_tail _ _ zd]; rfl
  ·rw [if_neg zo, posA_tail _ _ zo, posA_tail _ _ zo]
   obtain ⟨q, rfl⟩ : ∃ q, k = q + 65 := ⟨k - 65, zo⟩
   rw [show q + 65 - 64 = q + 1 by omega]; rfl
theorem over_castle (p : Pos) (x : Int) : over (posA p) 65 [.int .i64 x] = posA { p with castle := x } := by
 apply Array.ext_getElem?
 intro k
 rw [over_get _ _ _ _ (by rw [posA_size]; exact (by decide : 65 + 1 ≤ 69))]
 simp only [List.length_cons, List.length_nil]
 by_cases k1 : k < 64
 ·rw [if_neg zo, posA_sq _ _ k1, posA_sq _ _ k1]; rfl
 ·by_cases k2 : k = 64
  ·subst k2; rw [if_neg zd, posA_tail _ _ zd, posA_tail _ _ zd]; rfl
  ·by_cases k3 : k = 65
   ·subst k3; rw [if_pos zd, posA_tail _ _ zd]; rfl
   ·rw [if_neg zo, posA_tail _ _ zo, posA_tail _ _ zo]
    obtain ⟨q, rfl⟩ : ∃ q, k = q + 66 := ⟨k - 66, zo⟩
    rw [show q + 66 - 64 = q + 2 by omega]; rfl
theorem elColor : ElemOk 209 171 1 1 := elem_of zk
theorem boxC (w : World) : TabN (w.alloc (.cells (([.int .i8 1, .int .i8 1, .int .i8 2, .int .i8 2] : List Value).flatMap fun v => v.cells.toList).toArray 171)) w.heap.size 4 (fun i => .int .i8 ((i : Int) / 2 + 1)) :=
 ⟨_, 171, (0, 0), alloc_new _ _, rfl, fun i hi => by
  rcases (by omega : i = 0 ∨ i = 1 ∨ i = 2 ∨ i = 3) with rfl | rfl | rfl | rfl <;> rfl⟩
theorem or_acc : ∀ c : Nat, c < 16 → ∀ i : Nat, i < 4 → c.testBit i = true → ((c % 2 ^ i ||| 2 ^ i : Nat)) = c % 2 ^ (i + 1) := by decide
theorem no_acc : ∀ c : Nat, c < 16 → ∀ i : Nat, i < 4 → c.testBit i = false → c % 2 ^ i = c % 2 ^ (i + 1) := by decide
theorem or16i : ∀ a : Nat, a < 16 → ∀ b : Nat, b < 16 → bitv .or .i64 (a : Int) (b : Int) = ((a ||| b : Nat) : Int) := by decide
theorem shl_i : ∀ i : Nat, i < 4 → IntKind.i64.wrap (1 * 2 ^ min ((i : Int)).toNat IntKind.i64.bits) = ((2 ^ i : Nat) : Int) := by decide
theorem CanCastle_i (cr : Int) (h0 : 0 ≤ cr) (h1 : cr ≤ 15) (i : Nat) (hi : i < 4) (a b : Int) (ha : a = (i : Int) / 2 + 1) (hb : b = (i : Int) % 2 + 1) (w : World) :
  Calls G.P 175 #[txV (Ch.castT cr), .int .i8 a, .int .i64 b] w (Ret (.bool (Ch.bit cr i)) w) := by
 have := CanCastle_c cr h0 h1 ((i : Int) / 2) zo ((i : Int) % 2 + 1) zo w
 rw [show (2 * ((i : Int) / 2) + ((i : Int) % 2 + 1 - 1)).toNat = i by omega] at this
 rw [ha, hb]; exact this
theorem plain_c {p : Pos} (hI : Inv p) {P b : Nat} {cv : Value} {c : Bool} (w : World) (hT : Tabs w)
  (hP : w.heap[P]? = some (.cells (hdA b (hdOf p c) cv) 173 (0, 0))) (hB : w.heap[b]? = some (.cells (mbA (mbOf p)) 237 (0, 0))) :
  Calls G.P 109 #[.pointer (some ⟨P, 0, none⟩)] w (Ret (posV p) w) := by
 have hep := passed_ep hI.pass
 obtain ⟨zv, hz, hz69⟩ := zPos
 have ht := hI.turn
 refine zN Tryz.func109 ?_
 refine zR ?_
 refine gen_alloc zv hz ?_
 have cA := Cl.alloc w (.cells zv.cells 24)
 have nA := alloc_new w (.cells zv.cells 24)
 have sA := alloc_size w (.cells zv.cells 24)
 generalize w.alloc (.cells zv.cells 24) = w1 at *
 refine zR ?_
 refine callS (Board_c (cA.blk hP)) (zR ?_)
 refine callR (plainBoard_c hI.pc w1 (hT.cl cA) (cA.blk hB)) fun w2 c2 => ?_
 have c12 := cA.trans c2
 have hP2 := c12.blk hP
 refine zR ?_
 refine callS (Ep_c hP2) ?_
 rw [show (hdOf p c).ep = p.ep from rfl]
 refine zR ?_
 rw [w64_in (show -9223372036854775808 ≤ p.ep by omega) zo]
 refine callS (Half_c hP2) ?_
 rw [show (hdOf p c).half = p.half from rfl]
 refine zR ?_
 refine callS (Full_c hP2) ?_
 rw [show (hdOf p c).full = p.full from rfl]
 refine zR ?_
 refine gen_build (posA { p with turn := 0, castle := 0 }) ?_ ?_
 ·rw [← posA_build]; exact built_pos p p.ep p.half p.full
 refine zR ?_
 refine gen_alloc zv hz ?_
 have cB := Cl.alloc w2 (.cells zv.cells 24)
 have nB := alloc_new w2 (.cells zv.cells 24)
 generalize w2.alloc (.cells zv.cells 24) = w3 at *
 have s12 := c2.size
 have nA3 := cB.blk (c2.blk nA)
 refine zR ?_
 refine stK nB (posL { p with turn := 0, castle := 0 }) rfl szPos (posL_len _) (one_pos _) (by rw [hz69]; exact (by decide : 0 + 69 ≤ 69)) (fun w4 u4 => ?_)
 have hQ : w4.heap[w2.heap.size]? = some (.cells (posA { p with turn := 0, castle := 0 }) 24 (0, 0)) := by
  rw [u4.at_, over_all _ _ (by rw [posL_len, hz69])]; rfl
 have sw2 := c12.size
 have c4 : Cl w w4 := (Tn.upd u4).toCl (c12.trans cB) zo
 have nA4 := (Tn.upd u4).blk nA3 zo
 clear u4 nB
 refine zG ?_
 refine joinK (σ := Unit) [] 6 (fun _ => []) (fun _ w' => w'.heap[w2.heap.size]? = some (.cells (posA { p with castle := 0 }) 24 (0, 0)) ∧ Cl w w' ∧ w'.heap[w.heap.size]? = some (.cells zv.cells 24 (0, 0))) zk ?_ (fun _ j w5 h5 => ?_)
 ·refine zR ?_
  refine callS (Turn_c w4 (c4.blk hP)) ?_
  rw [show (hdOf p c).turn = p.turn + 1 from rfl]
  refine zR ?_
  apply E.dsplit<;>intro h
  ·have e1 : p.turn = 1 := by omega
   refine zR ?_
   refine stK hQ [.int .i64 1] rfl szI rfl (one_int _ _) (by rw [posA_size]; exact (by decide : 64 + 1 ≤ 69)) fun w5 u5 => zR ?_
   refine ⟨(), trivial, ?_, (Tn.upd u5).toCl c4 zo, (Tn.upd u5).blk nA4 zo⟩
   rw [u5.at_, show (bif Nat.beq 64 0 then 0 else 0 + 64) = 64 from rfl, over_turn]; simp only [e1]
  ·have e0 : p.turn = 0 := by omega
   refine zR ?_
   refine ⟨(), trivial, ?_, c4, nA4⟩
   rw [hQ]; simp only [e0]
 obtain ⟨hQ5, c5, nA5⟩ := h5
 refine zR ?_
 refine zL elColor [.int .i8 1, .int .i8 1, .int .i8 2, .int .i8 2] ?_
 have hbx := boxC w5
 have cC := Cl.alloc w5 (.cells (([.int .i8 1, .int .i8 1, .int .i8 2, .int .i8 2] : List Value).flatMap fun v => v.cells.toList).toArray 171)
 have g5 : w2.heap.size < w5.heap.size := (Array.getElem?_eq_some_iff.1 hQ5).1
 generalize w5.alloc (.cells (([.int .i8 1, .int .i8 1, .int .i8 2, .int .i8 2] : List Value).flatMap fun v => v.cells.toList).toArray 171) = w6 at *
 refine zR ?_
 have hc16 : p.castle.toNat < 16 := by have := hI.c0; have := hI.c1; omega
 refine loopK (σ := Nat) [4, 5, 23] 24 (fun i => [(23, .int .i64 i)]) (fun i w' => i ≤ 4 ∧ w'.heap[w2.heap.size]? = some (.cells (posA { p with castle := ((p.castle.toNat % 2 ^ i : Nat) : Int) }) 24 (0, 0)) ∧ w'.heap[w.heap.size]? = some (.cells zv.cells 24 (0, 0)) ∧ Cl w w' ∧ TabN w' w5.heap.size 4 (fun i => .int .i8 ((i : Int) / 2 + 1))) (fun i => 4 - i) zk 0
  ⟨zd, by have := cC.blk hQ5; simpa [Nat.mod_one] using this, cC.blk nA5, c5.trans cC, hbx⟩ ⟨rfl, trivial⟩ ?_
 rintro i j w7 ⟨hi, hQ7, hA7, c7, hbx7⟩
 have ni := i_succ (i := i) zo
 refine zR ?_
 apply E.dsplit<;>intro h
 ·have hi2 : i < 4 := by omega
  clear h
  have hcc := CanCastle_i p.castle hI.c0 hI.c1 i hi2 ((i : Int) / 2 + 1) (IntKind.i64.wrap ((i : Int).tmod 2 + 1)) rfl (by rw [tmod_nn zo, w64_in zo zo])
  have hor := or_acc p.castle.toNat hc16 i hi2
  have hno := no_acc p.castle.toNat hc16 i hi2
  have hbit : bit p.castle i = p.castle.toNat.testBit i := rfl
  refine zR ?_
  refine zC ?_
  refine zR ?_
  refine loadK _ (ldTab (t := 171) hbx7 (i := i) hi2 rfl rfl) (zR ?_)
  refine callS (Rights_c2 (c7.blk hP)) ?_
  rw [show (hdOf p c).cas = castT p.castle from rfl]
  refine zR ?_
  refine callR (hcc _) fun w8 c8 => ?_
  have hQ8 := c8.blk hQ7
  have hA8 := c8.blk hA7
  have c78 := c7.trans c8
  have hbx8 := hbx7.cl c8
  rw [hbit]
  cases hb : p.castle.toNat.testBit i
  ·rw [hno hb] at hQ8
   refine zR ?_
   exact ⟨i + 1, ⟨int_eq ni, trivial⟩, ⟨zo, hQ8, hA8, c78, hbx8⟩, zo⟩
  ·have hor := hor hb
   refine zR ?_
   refine zK 6 ?_
   refine zR ?_
   refine loadQ _ (fun w hw => ldCastle (hw.blk hQ8)) (zR ?_)
   intro r hr
   rw [shl_i i hi2] at hr
   subst hr
   refine zR ?_
   intro r hr
   rw [or16i _ (Nat.lt_of_le_of_lt (Nat.mod_le _ _) hc16) _ (show 2 ^ i < 16 from Nat.pow_lt_pow_right (n := 4) zd hi2), hor] at hr
   subst hr
   refine zR ?_
   intro w9 c9
   refine zR ?_
   refine stK (c9.blk hQ8) [.int .i64 ((p.castle.toNat % 2 ^ (i + 1) : Nat) : Int)] rfl szI rfl (one_int _ _) (by rw [posA_size]; exact (by decide : 65 + 1 ≤ 69)) fun w10 u10 => ?_
   have hQ10 := u10.at_
   rw [show (bif Nat.beq 65 0 then 0 else 0 + 65) = 65 from rfl, over_castle] at hQ10
   refine zR ?_
   have c89 := c78.trans c9
   exact ⟨i + 1, ⟨int_eq ni, trivial⟩, ⟨zo, hQ10, (Tn.upd u10).blk (c9.blk hA8) zo, (Tn.upd u10).toCl c89 zo, (hbx8.cl c9).tnO (Tn.upd u10) zo⟩, zo⟩
 ·have e4 : i = 4 := by omega
  subst e4
  rw [Nat.mod_eq_of_lt (show p.castle.toNat < 2 ^ 4 by omega), Int.toNat_of_nonneg hI.c0] at hQ7
  refine zR ?_
  refine loadK _ (ldPos hQ7) (zR ?_)
  refine stK hA7 (posL p) rfl szPos (posL_len _) (one_pos _) (by rw [hz69]; exact (by decide : 0 + 69 ≤ 69)) (fun w8 u8 => ?_)
  have h8 : w8.heap[w.heap.size]? = some (.cells (posA p) 24 (0, 0)) := by rw [u8.at_, over_all _ _ (by rw [posL_len, hz69])]; rfl
  refine zR ?_
  refine loadK _ (ldPos h8) (zR ?_)
  exact ⟨rfl, (Tn.upd u8).toCl c7 (Nat.le_refl _)⟩
theorem castT_inj : ∀ a : Nat, a < 16 → ∀ b : Nat, b < 16 → (castT (a : Int) = castT (b : Int) ↔ a = b) := by decide
theorem castT_inj' {a b : Int} (a0 : 0 ≤ a) (a1 : a ≤ 15) (b0 : 0 ≤ b) (b1 : b ≤ 15) : castT a = castT b ↔ a = b := by
 obtain ⟨x, rfl⟩ := Int.eq_ofNat_of_zero_le a0
 obtain ⟨y, rfl⟩ := Int.eq_ofNat_of_zero_le b0
 rw [castT_inj x zo y zo]; omega
theorem samePosition_c {p q : Pos} (hI : Inv p) (hJ : Inv q) {P b P' b' : Nat} {cv cv' : Value} {c c' : Bool} (w : World) (hT : Tabs w)
  (hP : w.heap[P]? = some (.cells (hdA b (hdOf p c) cv) 173 (0, 0))) (hB : w.heap[b]? = some (.cells (mbA (mbOf p)) 237 (0, 0)))
  (hP' : w.heap[P']? = some (.cells (hdA b' (hdOf q c') cv') 173 (0, 0))) (hB' : w.heap[b']? = some (.cells (mbA (mbOf q)) 237 (0, 0))) :
  Calls G.P 249 #[.pointer (some ⟨P, 0, none⟩), .pointer (some ⟨P', 0, none⟩)] w (Ret (.bool (alike p q)) w) := by
 have hbi := boardT_inj hI.pc hJ.pc
 have hci := castT_inj' hI.c0 hI.c1 hJ.c0 hJ.c1
 have hal : alike p q = (decide (p.board = q.board) && decide (p.turn = q.turn) && decide (p.castle = q.castle) && decide (p.ep = q.ep)) := rfl
 rw [hal]
 clear hal
 have hs1 := fun w hT hB => BoardString_c (p := p) (b := b) (t := 237) (fz := (0, 0)) hI.pc w hT hB
 have hs2 := fun w hT hB => BoardString_c (p := q) (b := b') (t := 237) (fz := (0, 0)) hJ.pc w hT hB
 generalize boardT p 8 = X at *
 generalize boardT q 8 = Y at *
 refine zN Tryz.func249 ?_
 refine zR ?_
 refine zK 47 ?_
 refine zR ?_
 refine qHb hP (zR ?_)
 refine callQ _ (fun _ _ h => h.trans) (fun w' h' => hs1 w' (hT.cl h') (h'.blk hB)) (zR ?_)
 refine qHb hP' (zR ?_)
 refine callQ _ (fun _ _ h => h.trans) (fun w' h' => hs2 w' (hT.cl h') (h'.blk hB')) (zR ?_)
 by_cases h1 : X = Y
 ·have k1 : tx X = tx Y := by rw [h1]
  rw [decide_eq_true (hbi.1 h1), Bool.true_and]
  refine E.dtrue k1 (zR ?_)
  repeat (refine E.dtrue k1 ?_; refine zR ?_)
  refine qHt hP ?_
  rw [show (hdOf p c).turn = p.turn + 1 from rfl]
  refine zR ?_
  repeat (refine E.dtrue k1 ?_; refine zR ?_)
  refine qHt hP' ?_
  rw [show (hdOf q c').turn = q.turn + 1 from rfl]
  refine zR ?_
  repeat (refine E.dtrue k1 ?_; refine zR ?_)
  by_cases h2 : p.turn = q.turn
  ·have k2 : p.turn + 1 = q.turn + 1 := by omega
   rw [decide_eq_true h2, Bool.true_and]
   repeat (refine E.dtrue k2 ?_; refine zR ?_)
   refine loadQ _ (fun w hw => ldHcas (hw.blk hP)) ?_
   rw [show (hdOf p c).cas = castT p.castle from rfl]
   refine zR ?_
   repeat (refine E.dtrue k2 ?_; refine zR ?_)
   refine callQs _ (fun w hw => RightsString_c _ w) (zR ?_)
   repeat (refine E.dtrue k2 ?_; refine zR ?_)
   refine loadQ _ (fun w hw => ldHcas (hw.blk hP')) ?_
   rw [show (hdOf q c').cas = castT q.castle from rfl]
   refine zR ?_
   repeat (refine E.dtrue k2 ?_; refine zR ?_)
   refine callQs _ (fun w hw => RightsString_c _ w) (zR ?_)
   repeat (refine E.dtrue k2 ?_; refine zR ?_)
   by_cases h3 : castT p.castle = castT q.castle
   ·have k3 : tx (castT p.castle) = tx (castT q.castle) := by rw [h3]
    rw [decide_eq_true (hci.1 h3), Bool.true_and]
    repeat (refine E.dtrue k3 ?_; refine zR ?_)
    refine qHep hP ?_
    rw [show (hdOf p c).ep = p.ep from rfl]
    refine zR ?_
    repeat (refine E.dtrue k3 ?_; refine zR ?_)
    refine qHep hP' ?_
    rw [show (hdOf q c').ep = q.ep from rfl]
    refine zR ?_
    repeat (refine E.dtrue k3 ?_; refine zR ?_)
    intro w9 c9
    refine zR ?_
    exact ⟨rfl, c9⟩
   ·have k3 : ¬ tx (castT p.castle) = tx (castT q.castle) := fun e => h3 (tx_inj.1 e)
    repeat (refine E.dfalse k3 ?_; refine zR ?_)
    intro w9 c9
    refine zR ?_
    exact ⟨ret_bool (by rw [decide_eq_false (fun e => h3 (hci.2 e))]; rfl), c9⟩
  ·have k2 : ¬ p.turn + 1 = q.turn + 1 := by omega
   repeat (refine E.dfalse k2 ?_; refine zR ?_)
   intro w9 c9
   refine zR ?_
   exact ⟨ret_bool (by rw [decide_eq_false h2]; rfl), c9⟩
 ·have k1 : ¬ tx X = tx Y := fun e => h1 (tx_inj.1 e)
  repeat (refine E.dfalse k1 ?_; refine zR ?_)
  intro w9 c9
  refine zR ?_
  exact ⟨ret_bool (by rw [decide_eq_false (fun e => h1 (hbi.2 e))]; rfl), c9⟩
end
end Go.Proofs.YtpclhlhcegcflaaGreatDoor
