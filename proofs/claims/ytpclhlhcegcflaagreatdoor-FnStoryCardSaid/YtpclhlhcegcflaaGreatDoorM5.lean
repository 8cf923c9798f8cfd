/- One part of the proof: Sp5 Sp6 Law3 Sp7 Sp8 Sp9. -/
import Derived.Laws.Tables
import Derived.Maps.AppendAt
import Derived.Test.YtpclhlhcegcflaaGreatDoorM1
import Derived.Test.YtpclhlhcegcflaaGreatDoorM3
import Derived.Test.YtpclhlhcegcflaaGreatDoorM4
namespace Go.Proofs.YtpclhlhcegcflaaGreatDoor
set_option maxRecDepth 100000
set_option linter.unusedSimpArgs false
set_option linter.unusedVariables false
section
open Go Go.RowKit
open E
theorem loadK {w : World} {t : Nat} {a : Addr} {K : Value → Prop} (v : Value) (h : LoadsTo G.P w t a v) (hk : force v K) : LoadK G.P w t a (fun v => force v K) := ⟨v, h, hk⟩
structure MadeI (W0 : World) (B4 B8 : Nat) (q : Pos) (w : World) : Prop where
 cl : Cl W0 w
 lo4 : W0.heap.size ≤ B4
 lo8 : W0.heap.size ≤ B8
 ne : B4 ≠ B8
 b4 : ∃ cs, cs.size = 69 ∧ w.heap[B4]? = some (.cells cs 24 (0, 0))
 b8 : w.heap[B8]? = some (.cells (posA q) 24 (0, 0))
theorem MadeI.step {W0 : World} {B4 B8 : Nat} {q : Pos} {w w' : World} (h : MadeI W0 B4 B8 q w) (hc : Cl w w') : MadeI W0 B4 B8 q w' :=
 ⟨h.cl.trans hc, h.lo4, h.lo8, h.ne, by obtain ⟨cs, h1, h2⟩ := h.b4; exact ⟨cs, h1, hc.blk h2⟩, hc.blk h.b8⟩
theorem MadeI.upd {W0 : World} {B4 B8 : Nat} {q q' : Pos} {w w' : World} {cs : Array Value} (h : MadeI W0 B4 B8 q w) (hu : Upd w B8 (.cells cs 24 (0, 0)) w') (e : cs = posA q') : MadeI W0 B4 B8 q' w' :=
 ⟨hu.cl h.cl h.lo8, h.lo4, h.lo8, h.ne, by obtain ⟨cs, h1, h2⟩ := h.b4; exact ⟨cs, h1, by rw [hu.else_ _ h.ne]; exact h2⟩, by rw [hu.at_, e]⟩
theorem over_field (p q : Pos) (k : Nat) (x : Int) (hk : 64 ≤ k ∧ k ≤ 68) (hb : q.board = p.board)
  (hf : ([.int .i64 q.turn, .int .i64 q.castle, .int .i64 q.ep, .int .i64 q.half, .int .i64 q.full] : List Value) = ([.int .i64 p.turn, .int .i64 p.castle, .int .i64 p.ep, .int .i64 p.half, .int .i64 p.full] : List Value).set (k - 64) (.int .i64 x)) :
  over (posA p) k [.int .i64 x] = posA q := by
 apply Array.ext_getElem?
 intro i
 rw [over_get _ _ _ _ (by rw [posA_size]; simp; omega)]
 simp only [List.length_cons, List.length_nil]
 by_cases hi : i < 64
 ·rw [if_neg zo, posA_sq _ _ hi, posA_sq _ _ hi]
  simp only [Ch.sq, hb]
 ·rw [posA_tail _ _ zo, posA_tail _ _ zo, hf, List.getElem?_set]
  by_cases h : i = k
  ·subst h
   rw [if_pos zo, if_pos rfl, if_pos (by simp; omega)]; simp
  ·rw [if_neg zo, if_neg zo]
noncomputable def zeroB (t n : Nat) : Bool := match (G.P.info? t).bind (·.zero) with | some z => Nat.beq z.cells.size n | none => false
theorem zero_of {t n : Nat} (h : zeroB t n = true) : ∃ z, (G.P.info? t).bind (·.zero) = some z ∧ z.cells.size = n := by
 unfold zeroB at h
 split at h
 ·rename_i z hz; exact ⟨z, hz, Nat.eq_of_beq_eq_true h⟩
 ·cases h
theorem zPos : ∃ z, (G.P.info? 24).bind (·.zero) = some z ∧ z.cells.size = 69 := zero_of zk
theorem one_pos (p : Pos) : ∀ v ∈ posL p, v.oneCell' = true := by
 intro v hv
 simp only [posL, List.mem_append, List.mem_map, List.mem_cons, List.not_mem_nil, or_false] at hv
 rcases hv with ⟨x, _, rfl⟩ | rfl | rfl | rfl | rfl | rfl <;> rfl
theorem posL_len (p : Pos) : (posL p).length = 69 := by simp [posL, p.len]
theorem Made_c (p : Pos) (m : Mv) (hp : Pc p) (hm : MvOk m) (ht : p.turn = 0 ∨ p.turn = 1) (c0 : 0 ≤ p.castle) (c1 : p.castle ≤ 15) (h0 : 0 ≤ p.half) (h1 : p.half < 4611686018427387904) (f0 : 0 ≤ p.full) (f1 : p.full < 4611686018427387904) (w : World) :
  Calls G.P 39 #[posV p, mvV m] w (Ret (posV (Ch.made p m)) w) := by
 have hm' := hm
 obtain ⟨⟨a0, a1⟩, ⟨b0, b1⟩, ⟨d0, d1⟩⟩ := hm'
 obtain ⟨z, hz, hz69⟩ := zPos
 refine zN Tryz.func39 ?_
 refine zG ?_
 refine gen_alloc z hz ?_
 generalize hW : (w.alloc (.cells (posA p) 24)).alloc (.cells (mvA m) 36) = W0
 have hP : ∀ w', Cl W0 w' → w'.heap[w.heap.size]? = some (.cells (posA p) 24 (0, 0)) := fun w' h => hP2 (hW ▸ h)
 have hM : ∀ w', Cl W0 w' → w'.heap[(w.alloc (.cells (posA p) 24)).heap.size]? = some (.cells (mvA m) 36 (0, 0)) := fun w' h => hM2 (hW ▸ h)
 have hE : ∀ w', Cl W0 w' → Cl w w' := fun w' h => hE2 (hW ▸ h)
 have i4 : (W0.alloc (.cells z.cells 24)).heap[W0.heap.size]? = some (.cells z.cells 24 (0, 0)) := alloc_new _ _
 have k4 : Cl W0 (W0.alloc (.cells z.cells 24)) := Cl.alloc _ _
 generalize W0.alloc (.cells z.cells 24) = w1 at *
 refine zR ?_
 refine loadK _ (ldFr (hM _ k4)) (zR ?_)
 refine E.ctrue (inB_iff.2 ⟨a0, zo⟩) (zR ?_)
 refine loadK _ (ldSq' (hP _ k4) _ a0 zo) (zR ?_)
 refine loadK _ (ldPos (hP _ k4)) (zR ?_)
 refine loadK _ (ldMv (hM _ k4)) (zR ?_)
 refine callR (Takes_c p m hp hm _) fun w2 e2 => ?_
 have k5 := k4.trans e2
 refine zR ?_
 refine loadK _ (ldPos (hP _ k5)) (zR ?_)
 refine gen_alloc z hz (zR ?_)
 refine stK (alloc_new _ _) (posL p) rfl szPos (posL_len p) (one_pos p) (by rw [hz69]; omega) (fun w3 u3 => ?_)
 have I : MadeI W0 W0.heap.size w2.heap.size p w3 :=
  ⟨u3.cl (k5.trans (Cl.alloc _ _)) k5.size, Nat.le_refl _, k5.size, by
   have := (Array.getElem?_eq_some_iff.1 (e2.blk i4)).1
   omega, ⟨z.cells, hz69, by rw [u3.else_ _ (by have := (Array.getElem?_eq_some_iff.1 (e2.blk i4)).1; omega)]; exact (Cl.alloc _ _).blk (e2.blk i4)⟩,
   by rw [u3.at_, over_all _ _ (by rw [posL_len, hz69])]; rfl⟩
 clear u3
 refine zG ?_
 refine joinK (σ := Unit) [] 10 (fun _ => []) (fun _ w => MadeI W0 W0.heap.size w2.heap.size (Ch.board1 p m) w) zk ?_ (fun _ j w4 I => ?_)
 ·have hta : Ch.takes p m = true → 0 ≤ Ch.takenAt p m ∧ Ch.takenAt p m ≤ 63 := fun h => by
   unfold Ch.takenAt
   simp only [h, if_true]
   split
   ·omega
   ·rw [at_in (by unfold Ch.file; omega) (by unfold Ch.file; omega) (by unfold Ch.rank; omega) (by unfold Ch.rank; omega)]
    unfold Ch.file Ch.rank; omega
  refine zR ?_
  apply E.csplit<;>intro h
  ·have hta := hta h
   refine zR ?_
   refine zC ?_
   refine zR ?_
   refine stK I.b8 [.int .i64 0] rfl szInt rfl (by simp [Value.oneCell']) (by rw [posA_size]; simp [E.offZ]; omega) (fun w4 u4 => zR ?_)
   exact ⟨(), trivial, I.upd u4 (by unfold Ch.board1; rw [if_pos h]; exact over_sq _ _ _ hta.1 zo)⟩
  ·refine zR ?_
   exact ⟨(), trivial, by unfold Ch.board1; rw [h]; exact I⟩
 refine zR ?_
 refine loadK _ (ldFr (hM _ I.cl)) (zR ?_)
 refine E.ctrue (inB_iff.2 ⟨a0, zo⟩) (zR ?_)
 refine stK I.b8 [.int .i64 0] rfl szInt rfl (by simp [Value.oneCell']) (by rw [posA_size]; simp [E.offZ]; omega) (fun w5 u5 => ?_)
 have I := I.upd u5 (over_sq _ _ _ a0 zo)
 clear u5
 refine zR ?_
 refine loadK _ (ldTo (hM _ I.cl)) (zR ?_)
 refine E.ctrue (inB_iff.2 ⟨b0, zo⟩) (zR ?_)
 refine stK I.b8 [.int .i64 (Ch.sq p m.fr)] rfl szInt rfl (by simp [Value.oneCell']) (by rw [posA_size]; simp [E.offZ]; omega) (fun w6 u6 => ?_)
 have I : MadeI W0 W0.heap.size w2.heap.size (Ch.board2 p m) w6 := I.upd u6 (over_sq _ _ _ b0 zo)
 clear u6
 refine zG ?_
 refine joinK (σ := Unit) [] 10 (fun _ => []) (fun _ w => MadeI W0 W0.heap.size w2.heap.size (Ch.board3 p m) w) zk ?_ (fun _ j w9' I => ?_)
 ·refine zR ?_
  refine loadK _ (ldPromo (hM _ I.cl)) (zR ?_)
  apply E.ndsplit<;>intro h
  ·refine zR ?_
   refine zK 9 ?_
   refine zR ?_
   refine loadQ _ (fun w hw => ldTo (hM _ (I.cl.trans hw))) (zR ?_)
   refine loadQ _ (fun w hw => ldPromo (hM _ (I.cl.trans hw))) (zR ?_)
   refine loadQ _ (fun w hw => ldTurn (hP _ (I.cl.trans hw))) (zR ?_)
   refine callQs _ (fun w _ => Of_c _ _ _ zo zo zo zo) (zR ?_)
   refine E.ctrue (inB_iff.2 ⟨b0, zo⟩) (zR ?_)
   intro w7 h7
   have I := I.step h7
   refine zR ?_
   refine stK I.b8 [.int .i64 (m.promo + 6 * p.turn)] rfl szInt rfl (by simp [Value.oneCell']) (by rw [posA_size]; simp [E.offZ]; omega) (fun w8 u8 => zR ?_)
   exact ⟨(), trivial, I.upd u8 (by unfold Ch.board3; rw [if_pos h]; exact over_sq _ _ _ b0 zo)⟩
  ·refine zR ?_
   exact ⟨(), trivial, by unfold Ch.board3; rw [if_neg zo]; exact I⟩
 refine joinK (σ := Unit) [9] 10 (fun _ => []) (fun _ w => MadeI W0 W0.heap.size w2.heap.size (Ch.board4 p m) w) zk ?_ (fun _ j w9 I => ?_)
 ·have hp2 : IntKind.i64.wrap (m.fr + 2) = m.fr + 2 := w64_in zo zo
  have hm2 : IntKind.i64.wrap (m.fr - 2) = m.fr - 2 := w64_in zo zo
  refine zR ?_
  refine callS (KindOf_c _ _ (hp.lo _) (hp.hi _)) (zR ?_)
  have no : Ch.isCastle p m = false → MadeI W0 W0.heap.size w2.heap.size (Ch.board4 p m) w9' := fun h => by unfold Ch.board4; rw [h]; exact I
  apply E.dsplit<;>intro h
  ·refine zR ?_
   refine loadK _ (ldTo (hM _ I.cl)) (zR ?_)
   refine loadK _ (ldFr (hM _ I.cl)) (zR ?_)
   rw [hp2]
   rename_i hk
   apply E.dsplit<;>intro h
   ·refine zR ?_
    refine loadK _ (ldFr (hM _ I.cl)) (zR ?_)
    refine callS (Rank_c _ _ a0 zo) (zR ?_)
    refine callS (At_c _ _ _ zo zo (by unfold Ch.rank; omega) (by unfold Ch.rank; omega)) (zR ?_)
    refine loadK _ (ldTo (hM _ I.cl)) (zR ?_)
    refine loadK _ (ldFr (hM _ I.cl)) (zR ?_)
    refine E.dfalse zo ?_
    have hrk : 0 ≤ Ch.rank m.fr ∧ Ch.rank m.fr ≤ 7 := by unfold Ch.rank; omega
    have hat : Ch.at' 7 (Ch.rank m.fr) = 8 * Ch.rank m.fr + 7 := at_in zo zo hrk.1 hrk.2
    refine zR ?_
    refine zC ?_
    refine zR ?_
    refine stK I.b8 [.int .i64 0] rfl szInt rfl (by simp [Value.oneCell']) (by rw [posA_size]; simp [E.offZ]; omega) (fun w10 u10 => ?_)
    have I := I.upd u10 (over_sq _ _ _ zo zo)
    clear u10
    refine zR ?_
    refine zK 11 ?_
    refine zR ?_
    refine loadQ _ (fun w hw => ldFr (hM _ (I.cl.trans hw))) (zR ?_)
    refine loadQ _ (fun w hw => ldTo (hM _ (I.cl.trans hw))) ?_
    have hmid : IntKind.i64.wrap (Int.tdiv (IntKind.i64.wrap (m.fr + m.to)) 2) = (m.fr + m.to) / 2 := by
     rw [w64_in (n := m.fr + m.to) zo zo, Int.tdiv_eq_ediv_of_nonneg zo, w64_in zo zo]
    refine zR ?_
    refine loadQ _ (fun w hw => ldTurn (hP _ (I.cl.trans hw))) (zR ?_)
    refine callQs _ (fun w _ => Of_c _ _ _ zo zo zo zo) (zR ?_)
    rw [hmid]
    refine zC ?_
    refine zR ?_
    intro w11 h11
    have I := I.step h11
    refine zR ?_
    refine stK I.b8 [.int .i64 (3 + 6 * p.turn)] rfl szInt rfl (by simp [Value.oneCell']) (by rw [posA_size]; simp [E.offZ]; omega) (fun w12 u12 => zR ?_)
    exact ⟨(), trivial, I.upd u12 (by
     unfold Ch.board4
     rw [if_pos (by simp [Ch.isCastle, *]), if_neg zo]; exact over_sq _ _ _ zo zo)⟩
   ·refine zR ?_
    refine loadK _ (ldTo (hM _ I.cl)) (zR ?_)
    refine loadK _ (ldFr (hM _ I.cl)) (zR ?_)
    rw [hm2]
    rename_i h2
    apply E.dsplit<;>intro h
    ·refine zR ?_
     refine loadK _ (ldFr (hM _ I.cl)) (zR ?_)
     refine callS (Rank_c _ _ a0 zo) (zR ?_)
     refine callS (At_c _ _ _ zo zo (by unfold Ch.rank; omega) (by unfold Ch.rank; omega)) (zR ?_)
     refine loadK _ (ldTo (hM _ I.cl)) (zR ?_)
     refine loadK _ (ldFr (hM _ I.cl)) (zR ?_)
     refine E.dtrue zo (zR ?_)
     refine loadK _ (ldFr (hM _ I.cl)) (zR ?_)
     refine callS (Rank_c _ _ a0 zo) (zR ?_)
     refine callS (At_c _ _ _ zo zo (by unfold Ch.rank; omega) (by unfold Ch.rank; omega)) ?_
     have hrk : 0 ≤ Ch.rank m.fr ∧ Ch.rank m.fr ≤ 7 := by unfold Ch.rank; omega
     have hat : Ch.at' 0 (Ch.rank m.fr) = 8 * Ch.rank m.fr + 0 := at_in zo zo hrk.1 hrk.2
     refine zR ?_
     refine zC ?_
     refine zR ?_
     refine stK I.b8 [.int .i64 0] rfl szInt rfl (by simp [Value.oneCell']) (by rw [posA_size]; simp [E.offZ]; omega) (fun w10 u10 => ?_)
     have I := I.upd u10 (over_sq _ _ _ zo zo)
     clear u10
     refine zR ?_
     refine zK 11 ?_
     refine zR ?_
     refine loadQ _ (fun w hw => ldFr (hM _ (I.cl.trans hw))) (zR ?_)
     refine loadQ _ (fun w hw => ldTo (hM _ (I.cl.trans hw))) ?_
     have hmid : IntKind.i64.wrap (Int.tdiv (IntKind.i64.wrap (m.fr + m.to)) 2) = (m.fr + m.to) / 2 := by
      rw [w64_in (n := m.fr + m.to) zo zo, Int.tdiv_eq_ediv_of_nonneg zo, w64_in zo zo]
     refine zR ?_
     refine loadQ _ (fun w hw => ldTurn (hP _ (I.cl.trans hw))) (zR ?_)
     refine callQs _ (fun w _ => Of_c _ _ _ zo zo zo zo) (zR ?_)
     rw [hmid]
     refine zC ?_
     refine zR ?_
     intro w11 h11
     have I := I.step h11
     refine zR ?_
     refine stK I.b8 [.int .i64 (3 + 6 * p.turn)] rfl szInt rfl (by simp [Value.oneCell']) (by rw [posA_size]; simp [E.offZ]; omega) (fun w12 u12 => zR ?_)
     exact ⟨(), trivial, I.upd u12 (by
      unfold Ch.board4
      rw [if_pos (by simp [Ch.isCastle, *]), if_pos zo]; exact over_sq _ _ _ zo zo)⟩
    ·refine zR ?_
     exact ⟨(), trivial, no (by simp [Ch.isCastle, *])⟩
  ·refine zR ?_
   exact ⟨(), trivial, no (by simp [Ch.isCastle, *])⟩
 refine zR ?_
 refine loadK _ (ldCastle (hP _ I.cl)) (zR ?_)
 refine loadK _ (ldMv (hM _ I.cl)) (zR ?_)
 refine callR (left_c p.castle m _ c0 c1) fun w13 e13 => ?_
 have I := I.step e13
 refine zR ?_
 refine stK I.b8 [.int .i64 (Ch.left p.castle m)] rfl szInt rfl (by simp [Value.oneCell']) (by rw [posA_size]; decide) (fun w14 u14 => ?_)
 have I := I.upd u14 (over_field _ { Ch.board4 p m with castle := Ch.left p.castle m } 65 _ zo rfl rfl)
 clear u14
 refine zR ?_
 refine stK I.b8 [.int .i64 (-1)] rfl szInt rfl (by simp [Value.oneCell']) (by rw [posA_size]; decide) (fun w15 u15 => ?_)
 have I := I.upd u15 (over_field _ { Ch.board4 p m with castle := Ch.left p.castle m, ep := -1 } 66 _ zo rfl rfl)
 clear u15
 refine zG ?_
 have hp16 : IntKind.i64.wrap (m.fr + 16) = m.fr + 16 := w64_in zo zo
 have hm16 : IntKind.i64.wrap (m.fr - 16) = m.fr - 16 := w64_in zo zo
 have hmid : IntKind.i64.wrap (Int.tdiv (IntKind.i64.wrap (m.fr + m.to)) 2) = (m.fr + m.to) / 2 := by
  rw [w64_in (n := m.fr + m.to) zo zo, Int.tdiv_eq_ediv_of_nonneg zo, w64_in zo zo]
 refine joinK (σ := Unit) [] 10 (fun _ => []) (fun _ w => MadeI W0 W0.heap.size w2.heap.size { Ch.board4 p m with castle := Ch.left p.castle m, ep := (if Ch.twoStep p m then (m.fr + m.to) / 2 else -1) } w) zk ?_ (fun _ j w17 I => ?_)
 ·refine zR ?_
  refine callS (KindOf_c _ _ (hp.lo _) (hp.hi _)) (zR ?_)
  have no : Ch.twoStep p m = false → (if Ch.twoStep p m then (m.fr + m.to) / 2 else -1) = -1 := fun h => by rw [h]; rfl
  apply E.dsplit<;>intro h
  ·rename_i hk
   refine zR ?_
   refine loadK _ (ldTo (hM _ I.cl)) (zR ?_)
   refine loadK _ (ldFr (hM _ I.cl)) (zR ?_)
   rw [hp16]
   apply E.dsplit<;>intro h
   ·refine zR ?_
    refine loadK _ (ldFr (hM _ I.cl)) (zR ?_)
    refine loadK _ (ldTo (hM _ I.cl)) (zR ?_)
    rw [hmid]
    refine stK I.b8 [.int .i64 ((m.fr + m.to) / 2)] rfl szInt rfl (by simp [Value.oneCell']) (by rw [posA_size]; decide) (fun w18 u18 => zR ?_)
    exact ⟨(), trivial, I.upd u18 (by rw [if_pos (by simp [Ch.twoStep, *])]; exact over_field _ _ 66 _ zo rfl rfl)⟩
   ·rename_i h2
    refine zR ?_
    refine loadK _ (ldTo (hM _ I.cl)) (zR ?_)
    refine loadK _ (ldFr (hM _ I.cl)) (zR ?_)
    rw [hm16]
    apply E.dsplit<;>intro h
    ·refine zR ?_
     refine loadK _ (ldFr (hM _ I.cl)) (zR ?_)
     refine loadK _ (ldTo (hM _ I.cl)) (zR ?_)
     rw [hmid]
     refine stK I.b8 [.int .i64 ((m.fr + m.to) / 2)] rfl szInt rfl (by simp [Value.oneCell']) (by rw [posA_size]; decide) (fun w18 u18 => zR ?_)
     exact ⟨(), trivial, I.upd u18 (by rw [if_pos (by simp [Ch.twoStep, *])]; exact over_field _ _ 66 _ zo rfl rfl)⟩
    ·refine zR ?_
     exact ⟨(), trivial, by rw [no (by simp [Ch.twoStep, *])]; exact I⟩
  ·refine zR ?_
   exact ⟨(), trivial, by rw [no (by simp [Ch.twoStep, *])]; exact I⟩
 have h4 : (Ch.board4 p m).half = p.half ∧ (Ch.board4 p m).full = p.full ∧ (Ch.board4 p m).turn = p.turn := by
  unfold Ch.board4 Ch.board3 Ch.board2 Ch.board1
  split <;> split <;> split <;> simp
 obtain ⟨q1, q2, q3⟩ := h4
 have hh1 : IntKind.i64.wrap (p.half + 1) = p.half + 1 := w64_in zo zo
 have hft : IntKind.i64.wrap (p.full + p.turn) = p.full + p.turn := w64_in zo zo
 have h1t : IntKind.i64.wrap (1 - p.turn) = 1 - p.turn := w64_in zo zo
 refine zR ?_
 refine loadK _ (ldHalf I.b8) (zR ?_)
 rw [show IntKind.i64.wrap ((Ch.board4 p m).half + 1) = p.half + 1 by rw [q1, hh1]]
 refine stK I.b8 [.int .i64 (p.half + 1)] rfl szInt rfl (by simp [Value.oneCell']) (by rw [posA_size]; decide) (fun w19 u19 => ?_)
 have I := I.upd u19 (over_field _ { Ch.board4 p m with castle := Ch.left p.castle m, ep := (if Ch.twoStep p m then (m.fr + m.to) / 2 else -1), half := p.half + 1 } 67 _ zo rfl rfl)
 clear u19
 refine zG ?_
 refine joinK (σ := Unit) [] 10 (fun _ => []) (fun _ w => MadeI W0 W0.heap.size w2.heap.size { Ch.board4 p m with castle := Ch.left p.castle m, ep := (if Ch.twoStep p m then (m.fr + m.to) / 2 else -1), half := (if Ch.takes p m || decide (Ch.kindOf (Ch.sq p m.fr) = 6) then 0 else p.half + 1) } w) zk ?_ (fun _ j w20 I => ?_)
 ·refine zR ?_
  apply E.csplit<;>intro h
  ·refine zR ?_
   refine stK I.b8 [.int .i64 0] rfl szInt rfl (by simp [Value.oneCell']) (by rw [posA_size]; decide) (fun w21 u21 => zR ?_)
   exact ⟨(), trivial, I.upd u21 (by rw [show (Ch.takes p m || decide (Ch.kindOf (Ch.sq p m.fr) = 6)) = true by simp [h]]; exact over_field _ _ 67 _ zo rfl rfl)⟩
  ·refine zR ?_
   refine callS (KindOf_c _ _ (hp.lo _) (hp.hi _)) (zR ?_)
   rename_i ht
   apply E.dsplit<;>intro h
   ·refine zR ?_
    refine stK I.b8 [.int .i64 0] rfl szInt rfl (by simp [Value.oneCell']) (by rw [posA_size]; decide) (fun w21 u21 => zR ?_)
    exact ⟨(), trivial, I.upd u21 (by rw [show (Ch.takes p m || decide (Ch.kindOf (Ch.sq p m.fr) = 6)) = true by simp [*]]; exact over_field _ _ 67 _ zo rfl rfl)⟩
   ·refine zR ?_
    exact ⟨(), trivial, by rw [show (Ch.takes p m || decide (Ch.kindOf (Ch.sq p m.fr) = 6)) = false by simp [*]]; exact I⟩
 refine zR ?_
 refine loadK _ (ldFull I.b8) (zR ?_)
 refine loadK _ (ldTurn (hP _ I.cl)) (zR ?_)
 rw [show IntKind.i64.wrap ((Ch.board4 p m).full + p.turn) = p.full + p.turn by rw [q2, hft]]
 refine stK I.b8 [.int .i64 (p.full + p.turn)] rfl szInt rfl (by simp [Value.oneCell']) (by rw [posA_size]; decide) (fun w22 u22 => ?_)
 have I := I.upd u22 (over_field _ { Ch.board4 p m with castle := Ch.left p.castle m, ep := (if Ch.twoStep p m then (m.fr + m.to) / 2 else -1), half := (if Ch.takes p m || decide (Ch.kindOf (Ch.sq p m.fr) = 6) then 0 else p.half + 1), full := p.full + p.turn } 68 _ zo rfl rfl)
 clear u22
 refine zR ?_
 refine loadK _ (ldTurn (hP _ I.cl)) (zR ?_)
 rw [h1t]
 refine stK I.b8 [.int .i64 (1 - p.turn)] rfl szInt rfl (by simp [Value.oneCell']) (by rw [posA_size]; decide) (fun w23 u23 => ?_)
 have I : MadeI W0 W0.heap.size w2.heap.size (Ch.made p m) w23 := I.upd u23 (over_field _ (Ch.made p m) 64 _ zo rfl rfl)
 clear u23
 refine zR ?_
 refine loadK _ (ldPos I.b8) (zR ?_)
 obtain ⟨cs, hcs, i4'⟩ := I.b4
 refine stK i4' (posL (Ch.made p m)) rfl szPos (posL_len _) (one_pos _) (by rw [hcs]; decide) (fun w24 u24 => zR ?_)
 refine loadK _ (ldPos (p := Ch.made p m) (by rw [u24.at_, over_all _ _ (by rw [posL_len, hcs])]; rfl)) (zR ?_)
 exact ⟨rfl, hE _ (u24.cl I.cl I.lo4)⟩
def RetL {α : Type} (e z : Nat) (enc : α → List Value) (l : List α) (w : World) : Ending → World → Prop := fun r w' => ∃ v, r = .returned v ∧ Row e z enc w.heap.size w' v l ∧ Cl w w'
theorem encInt_len (x : Int) : (encInt x).length = 1 := rfl
theorem encMv_len (x : Mv) : (encMv x).length = 3 := rfl
theorem encInt_one (x : Int) : ∀ u ∈ encInt x, u.oneCell' = true := by intro u hu; simp [encInt] at hu; subst hu; rfl
theorem encMv_one (x : Mv) : ∀ u ∈ encMv x, u.oneCell' = true := by intro u hu; simp [encMv] at hu; rcases hu with rfl | rfl | rfl <;> rfl
theorem callL {α : Type} {e z : Nat} {enc : α → List Value} {l : List α} {w : World} {f : Nat} {args : Array Value} {K : Value → World → Prop} (h : Calls G.P f args w (RetL e z enc l w))
  (hk : ∀ v w', Row e z enc w.heap.size w' v l → Cl w w' → K v w') : CallK G.P f args w K :=
 ⟨h.mono fun _ w' ⟨v, h1, h2, h3⟩ => ⟨v, h1, hk v w' h2 h3⟩⟩
theorem gen_app1 {α : Type} {t e z b : Nat} (E1 : ElemOk t e z b) {enc : α → List Value} {b0 : Nat} {v : Value} {l : List α} {x : α} {dst : Option Nat} {s y : Operand} {ty : Nat} {pos : String} {af : Array Edge} {gd : Option (Nat × Bool)} {env : Env} {w w1 : World} {u : Nat} {cs : Array Value} {K : Value → World → Prop}
  (hs : ev env s = v) (hrow : Row e z enc b0 w1 v l) (hw : w = w1.alloc (.cells cs u)) (hx : ev env y = .slice (some ⟨w1.heap.size, 0, none⟩) 1 1) (hcs : cs.toList = enc x) (henc : ∀ x, (enc x).length = z)
  (hone : ∀ x, ∀ u ∈ enc x, u.oneCell' = true) (hlen : l.length + 1 ≤ 100000) (hbz : b ≤ 1000) (hb0 : b0 ≤ w1.heap.size)
  (h : ∀ v' w', Row e z enc b0 w' v' (l ++ [x]) → (∀ w0, w0.heap.size = b0 → Cl w0 w1 → Cl w0 w') → K v' w') :
  GenK G.P { dst, op := .call { callee := .builtin .append, args := #[s, y], argTypes := #[t, t] }, type := ty, pos, after := af, guard := gd } env w K := by
 subst hw
 refine gen_app E1 (news := [x]) (B := w1.heap.size) (c := 1) (cs := cs) hs (hrow.step (Cl.alloc _ _)) hx (alloc_new _ _) (by simp [hcs]) henc hone (by simpa using hlen) hbz (by rw [alloc_size]; omega) fun v' w' h1 h2 => h v' w' h1 fun w0 e h3 => h2 w0 e (h3.trans (Cl.alloc _ _))
def hitsTo (fr side : Int) : Nat → List Int
 | 0 => []
 | n + 1 => hitsTo fr side n ++ Ch.pawnHit fr side (2 * (n : Int) - 1)
theorem hits_c (f s : Int) (w : World) (h0 : 0 ≤ f) (h1 : f ≤ 63) (s0 : 0 ≤ s) (s1 : s ≤ 1) :
  Calls G.P 216 #[.int .i64 f, .int .i64 s] w (RetL 3 1 encInt (Ch.pawnHits f s) w) := by
 refine zN Tryz.func216 ?_
 refine zG ?_
 refine zR ?_
 refine loopK (σ := Nat × Value) [5, 6, 7] 8 (fun a => [(5, a.2), (6, .int .i64 (2 * (a.1 : Int) - 1))]) (fun a w' => a.1 ≤ 2 ∧ Row 3 1 encInt w.heap.size w' a.2 (hitsTo f s a.1) ∧ Cl w w') (fun a => 2 - a.1) zk (0, .slice none 0 0)
  ⟨zo, Row.nil _ _, Cl.refl _⟩ ⟨rfl, rfl, trivial⟩ ?_
 rintro ⟨n, v⟩ j w1 ⟨hn, hrow, hcl⟩
 simp only at hn hrow
 obtain ⟨a, c, rfl, _⟩ := hrow.form
 refine zR ?_
 apply E.dsplit<;>intro h
 ·have hn2 : n < 2 := by omega
  refine zR ?_
  refine callS (File_c _ _ zo) (zR ?_)
  refine callS (Rank_c _ _ zo zo) (zR ?_)
  refine callS (up_c _ _ zo zo) (zR ?_)
  refine callS (At_c _ _ _ (by exact zO) (by exact zO) (by exact zO) (by exact zO)) (zR ?_)
  have e1 : IntKind.i64.wrap (Ch.file f + (2 * (n : Int) - 1)) = Ch.file f + (2 * (n : Int) - 1) := w64_in (by unfold Ch.file; omega) (by unfold Ch.file; omega)
  have e2 : IntKind.i64.wrap (Ch.rank f + Ch.up s) = Ch.rank f + Ch.up s := w64_in (by unfold Ch.rank Ch.up; omega) (by unfold Ch.rank Ch.up; omega)
  simp only [e1, e2]
  have hlen : (hitsTo f s n).length ≤ 2 := by
   have : ∀ m, (hitsTo f s m).length ≤ m := by
    intro m; induction m with
    | zero => simp [hitsTo]
    | succ m ih => simp only [hitsTo, List.length_append]; unfold Ch.pawnHit; split <;> simp <;> omega
   have := this n; omega
  generalize hX : Ch.at' (Ch.file f + (2 * (n : Int) - 1)) (Ch.rank f + Ch.up s) = X
  have hstep : hitsTo f s (n + 1) = hitsTo f s n ++ (if 0 ≤ X then [X] else []) := by rw [← hX]; rfl
  apply E.dsplit<;>intro h
  ·refine zR ?_
   refine zL elInt [.int .i64 X] ?_
   refine zR ?_
   refine gen_app1 elInt rfl hrow rfl rfl rfl encInt_len encInt_one zo zd hcl.size (fun v' w' hr hc => ?_)
   obtain ⟨a', c', rfl, _⟩ := hr.form
   refine zR ?_
   refine ⟨(n + 1, _), ⟨rfl, int_eq (by rw [w64_in zo zo]; push_cast; omega), trivial⟩, ⟨zo, ?_, hc w rfl hcl⟩, by simp only; omega⟩
   rw [hstep, if_pos h]; exact hr
  ·refine zR ?_
   refine ⟨(n + 1, _), ⟨rfl, int_eq (by rw [w64_in zo zo]; push_cast; omega), trivial⟩, ⟨zo, ?_, hcl⟩, by simp only; omega⟩
   rw [hstep, if_neg h, List.append_nil]; exact hrow
 ·have hn2 : n = 2 := by omega
  subst hn2
  refine zR ?_
  refine ⟨_, rfl, ?_, hcl⟩
  have : hitsTo f s 2 = Ch.pawnHits f s := by simp [hitsTo, Ch.pawnHits]
  rw [← this]; exact hrow
theorem gen_build {t : Nat} (cells : Array Value) {dst : Option Nat} {parts : Array (Nat × Operand)} {ty : Nat} {pos : String} {af : Array Edge} {gd : Option (Nat × Bool)} {env : Env} {w : World} {K : Value → World → Prop}
  (hb : G.P.built t (parts.toList.map fun (i, x) => (i, ev env x)) = some cells) (h : K (.agg cells) w) :
  GenK G.P { dst, op := .build t parts, type := ty, pos, after := af, guard := gd } env w K := by
 refine ⟨.inl ⟨_, _, ?_, h⟩⟩
 show (do pure (Next.value (← Instr.build t (parts.map fun (i, x) => (i, ev env x)))) : Sem Next).run G.P w = _
 rw [Sem.run_bind, Go.run_build w t _ cells (by rw [Array.toList_map]; exact hb)]; rfl
theorem genQ_build {C : World → Prop} {t : Nat} (cells : Array Value) {dst : Option Nat} {parts : Array (Nat × Operand)} {ty : Nat} {pos : String} {af : Array Edge} {gd : Option (Nat × Bool)} {env : Env} {K : Value → Prop}
  (hb : G.P.built t (parts.toList.map fun (i, x) => (i, ev env x)) = some cells) (h : K (.agg cells)) :
  GenQ G.P C { dst, op := .build t parts, type := ty, pos, after := af, guard := gd } env K := by
 refine ⟨_, fun w _ => ?_, h⟩
 show (do pure (Next.value (← Instr.build t (parts.map fun (i, x) => (i, ev env x)))) : Sem Next).run G.P w = _
 rw [Sem.run_bind, Go.run_build w t _ cells (by rw [Array.toList_map]; exact hb)]; rfl
theorem flat_len {α : Type} {enc : α → List Value} {z : Nat} (henc : ∀ x, (enc x).length = z) (l : List α) : (l.flatMap enc).length = l.length * z := by
 induction l with
 | nil => simp
 | cons x r ih => rw [List.flatMap_cons, List.length_append, henc, ih, List.length_cons, Nat.succ_mul]; omega
theorem beq0 {x : Nat} (h : Nat.beq x 0 = true) : x = 0 := Nat.eq_of_beq_eq_true h
theorem bz0 (x : Nat) : (bif Nat.beq x 0 then 0 else x) = x := by
 cases h : Nat.beq x 0
 ·rfl
 ·rw [beq0 h]; rfl
theorem bz1 (x k : Nat) : (bif Nat.beq x 0 then k else x + k) = x + k := by
 cases h : Nat.beq x 0
 ·rfl
 ·rw [beq0 h, Nat.zero_add]; rfl
theorem row_new {α : Type} {enc : α → List Value} {e z : Nat} (henc : ∀ x, (enc x).length = z) (w : World) (l : List α) (hm : l.length ≤ 100000) (vs : List Value) (hv : (vs.flatMap fun v => v.cells.toList) = l.flatMap enc) :
  Row e z enc w.heap.size (w.alloc (.cells (vs.flatMap fun v => v.cells.toList).toArray e)) (.slice (some ⟨w.heap.size, 0, none⟩) l.length l.length) l := by
 rw [hv]
 refine ⟨flat_len henc l, .inr ⟨w.heap.size, l.length, _, rfl, Nat.le_refl _, alloc_new _ _, Nat.le_refl _, by unfold maxLen; omega, by simp [flat_len henc], ?_⟩⟩
 simp only [List.toList_toArray]
 rw [List.take_of_length_le (by rw [flat_len henc]; exact Nat.le_refl _)]
theorem gen_appR {α : Type} {t e z b : Nat} (E1 : ElemOk t e z b) {enc : α → List Value} {b0 b1 : Nat} {v : Value} {l news : List α} {dst : Option Nat} {s x : Operand} {ty : Nat} {pos : String} {af : Array Edge} {gd : Option (Nat × Bool)} {env : Env} {w : World} {K : Value → World → Prop}
  {g c : Nat} (hs : ev env s = v) (hrow : Row e z enc b0 w v l) (hx : ev env x = .slice (some ⟨g, 0, none⟩) news.length c) (hB : Row e z enc b1 w (.slice (some ⟨g, 0, none⟩) news.length c) news) (henc : ∀ x, (enc x).length = z)
  (hone : ∀ x, ∀ u ∈ enc x, u.oneCell' = true) (hlen : l.length + news.length ≤ 100000) (hbz : b ≤ 1000) (hb0 : b0 ≤ w.heap.size)
  (h : ∀ v' w', Row e z enc b0 w' v' (l ++ news) → (∀ w0, w0.heap.size = b0 → Cl w0 w → Cl w0 w') → K v' w') :
  GenK G.P { dst, op := .call { callee := .builtin .append, args := #[s, x], argTypes := #[t, t] }, type := ty, pos, after := af, guard := gd } env w K := by
 obtain ⟨i, zv, hi, hzv, hsz, hby, hzs⟩ := E1.info
 obtain ⟨v', w', h1, h2, h3, _⟩ := run_append_own (P := G.P) w b0 t ty e i zv z b E1.ty hi hzv hsz hby hzs E1.pos v l.length (l.flatMap enc) hrow ⟨g, 0, none⟩ news.length c (news.flatMap enc)
  (flat_len henc news)
  (fun j u' hu => by
   rcases hB.2 with ⟨e1, _⟩ | ⟨g', cap, cur, e1, _, e3, _, _, _, e7⟩
   ·cases e1
   ·injection e1 with e1 _ _
    injection e1 with e1; injection e1 with e1 _ _
    subst e1
    have hj : j < news.length * z := by
     have := (List.getElem?_eq_some_iff.1 hu).1
     rwa [flat_len henc] at this
    rw [addr_add, cell_of_blk e3, Nat.zero_add, ← Array.getElem?_toList]
    rw [← e7, List.getElem?_take, if_pos hj] at hu
    exact hu)
  (fun u hu => by obtain ⟨x, _, hx⟩ := List.mem_flatMap.1 hu; exact hone x u hx)
  (by unfold maxLen; omega) (by
   have : (l.length + news.length) * b ≤ 100000 * 1000 := Nat.mul_le_mul hlen hbz
   omega) hb0
 refine ⟨.inl ⟨v', w', ?_, h v' w' ⟨by simpa using h2.1, by simpa using h2.2⟩ fun w0 hw0 hc => ?_⟩⟩
 ·simp only [execOp, resolve, invoke, builtin, Sem.run_bind, Sem.run_pure, Result.andThen_ok, List.map_toArray, List.map_cons, List.map_nil, hs, hx, h1]
 ·subst hw0
  refine Below.grown hc h3 hb0 fun k hk => ?_
  rcases hrow.2 with ⟨e1, _⟩ | ⟨g, cap, cur, e1, e2, _⟩
  ·rw [e1] at hk; cases hk
  ·rw [e1] at hk; injection hk with hk; subst hk; exact e2
structure Grow (b0 : Nat) (w : World) (v : Value) (w' : World) (v' : Value) : Prop where
 cl : ∀ w0, w0.heap.size = b0 → Cl w0 w → Cl w0 w'
 keep : ∀ k o, w.heap[k]? = some o → v.ownBlock ≠ some k → w'.heap[k]? = some o
 at_ : v'.ownBlock = v.ownBlock ∨ (∃ k, v'.ownBlock = some k ∧ w.heap.size ≤ k)
theorem Grow.ne {b0 : Nat} {w w' : World} {v v' : Value} (h : Grow b0 w v w' v') {g : Nat} (hg : g < w.heap.size) (hv : v.ownBlock ≠ some g) : v'.ownBlock ≠ some g := by
 rcases h.at_ with e | ⟨k, e, hk⟩
 ·rw [e]; exact hv
 ·rw [e]; intro e2; injection e2 with e2; omega
theorem Row.keep {α : Type} {e z b0 : Nat} {enc : α → List Value} {w w' : World} {l : List α} {g n c : Nat} (h : Row e z enc b0 w (.slice (some ⟨g, 0, none⟩) n c) l) (hk : ∀ o, w.heap[g]? = some o → w'.heap[g]? = some o) : Row e z enc b0 w' (.slice (some ⟨g, 0, none⟩) n c) l := by
 refine ⟨h.1, ?_⟩
 rcases h.2 with ⟨e1, _⟩ | ⟨g', cap, cur, e1, e2, e3, e4⟩
 ·cases e1
 ·injection e1 with e1 e5 e6
  injection e1 with e1; injection e1 with e1 _ _
  subst e1; subst e6; subst e5
  exact .inr ⟨g, c, cur, rfl, e2, hk _ e3, e4⟩
theorem Row.lt {α : Type} {e z b0 : Nat} {enc : α → List Value} {w : World} {l : List α} {g n c : Nat} (h : Row e z enc b0 w (.slice (some ⟨g, 0, none⟩) n c) l) : b0 ≤ g ∧ g < w.heap.size := World.ownsRow.lt h g rfl
theorem gen_appG {α : Type} {t e z b : Nat} (E1 : ElemOk t e z b) {enc : α → List Value} {b0 : Nat} {v : Value} {l news : List α} {dst : Option Nat} {s x : Operand} {ty : Nat} {pos : String} {af : Array Edge} {gd : Option (Nat × Bool)} {env : Env} {w : World} {K : Value → World → Prop}
  {g c : Nat} (hs : ev env s = v) (hrow : Row e z enc b0 w v l) (hx : ev env x = .slice (some ⟨g, 0, none⟩) news.length c) (hB : ∀ (j : Nat) (u : Value), (news.flatMap enc)[j]? = some u → w.cell? ⟨g, j, none⟩ = some u) (henc : ∀ x, (enc x).length = z)
  (hone : ∀ x, ∀ u ∈ enc x, u.oneCell' = true) (hlen : l.length + news.length ≤ 100000) (hbz : b ≤ 1000) (hb0 : b0 ≤ w.heap.size)
  (h : ∀ v' w', Row e z enc b0 w' v' (l ++ news) → Grow b0 w v w' v' → K v' w') :
  GenK G.P { dst, op := .call { callee := .builtin .append, args := #[s, x], argTypes := #[t, t] }, type := ty, pos, after := af, guard := gd } env w K := by
 obtain ⟨i, zv, hi, hzv, hsz, hby, hzs⟩ := E1.info
 obtain ⟨v', w', h1, h2, h3, _, h5⟩ := run_append_own_at (P := G.P) w b0 t ty e i zv z b E1.ty hi hzv hsz hby hzs E1.pos v l.length (l.flatMap enc) hrow ⟨g, 0, none⟩ news.length c (news.flatMap enc)
  (flat_len henc news) (fun j u' hu => by rw [addr_add, Nat.zero_add]; exact hB j u' hu)
  (fun u hu => by obtain ⟨x, _, hx⟩ := List.mem_flatMap.1 hu; exact hone x u hx)
  (by unfold maxLen; omega) (by
   have : (l.length + news.length) * b ≤ 100000 * 1000 := Nat.mul_le_mul hlen hbz
   omega) hb0
 refine ⟨.inl ⟨v', w', ?_, h v' w' ⟨by simpa using h2.1, by simpa using h2.2⟩ ⟨fun w0 hw0 hc => ?_, fun k o hk hne => ?_, ?_⟩⟩⟩
 ·simp only [execOp, resolve, invoke, builtin, Sem.run_bind, Sem.run_pure, Result.andThen_ok, List.map_toArray, List.map_cons, List.map_nil, hs, hx, h1]
 ·subst hw0
  refine Below.grown hc h3 hb0 fun k hk => ?_
  rcases hrow.2 with ⟨e1, _⟩ | ⟨g, cap, cur, e1, e2, _⟩
  ·rw [e1] at hk; cases hk
  ·rw [e1] at hk; injection hk with hk; subst hk; exact e2
 ·rw [h3.block k (Array.getElem?_eq_some_iff.1 hk).1 (fun e => hne e.symm)]; exact hk
 ·rcases h5 with h5 | h5
  ·exact .inl h5
  ·exact .inr ⟨_, h5, Nat.le_refl _⟩
theorem gen_push {α : Type} {t e z b : Nat} (E1 : ElemOk t e z b) {enc : α → List Value} {b0 : Nat} {v : Value} {l : List α} (x : α) {dst : Option Nat} {s y : Operand} {ty : Nat} {pos : String} {af : Array Edge} {gd : Option (Nat × Bool)} {env : Env} {w w1 : World} {u : Nat} {cs : Array Value} {K : Value → World → Prop}
  (hs : ev env s = v) (hrow : Row e z enc b0 w1 v l) (hw : w = w1.alloc (.cells cs u)) (hx : ev env y = .slice (some ⟨w1.heap.size, 0, none⟩) 1 1) (hcs : cs.toList = enc x) (henc : ∀ x, (enc x).length = z)
  (hone : ∀ x, ∀ u ∈ enc x, u.oneCell' = true) (hlen : l.length + 1 ≤ 100000) (hbz : b ≤ 1000) (hb0 : b0 ≤ w1.heap.size)
  (h : ∀ v' w', Row e z enc b0 w' v' (l ++ [x]) → Grow b0 w1 v w' v' → K v' w') :
  GenK G.P { dst, op := .call { callee := .builtin .append, args := #[s, y], argTypes := #[t, t] }, type := ty, pos, after := af, guard := gd } env w K := by
 subst hw
 refine gen_appG E1 (news := [x]) (g := w1.heap.size) (c := 1) hs (hrow.step (Cl.alloc _ _)) hx (fun j u' hu => ?_) henc hone (by simpa using hlen) hbz (by rw [alloc_size]; omega) fun v' w' h1 h2 => h v' w' h1 ⟨fun w0 e h3 => h2.cl w0 e (h3.trans (Cl.alloc _ _)), fun k o hk hne => h2.keep k o ((Cl.alloc _ _).blk hk) hne, ?_⟩
 ·rw [cell_of_blk (alloc_new _ _), ← Array.getElem?_toList, hcs]; simpa using hu
 ·rcases h2.at_ with e | ⟨k, e, hk⟩
  ·exact .inl e
  ·rw [alloc_size] at hk; exact .inr ⟨k, e, zo⟩
theorem ldRow {α : Type} {e z b0 : Nat} {enc : α → List Value} {w : World} {l : List α} {g c n : Nat} {t : Nat} (h : Row e z enc b0 w (.slice (some ⟨g, 0, none⟩) n c) l) (henc : ∀ x, (enc x).length = z) (i k : Nat) (hi : i < l.length) (hk : k < z) {v : Value}
  (hv : (enc l[i])[k]? = some v) {o : Nat} (ho : o = i * z + k) (ht : isOne (tyOf G.T t) = true) : LoadsTo G.P w t ⟨g, o, none⟩ v := by
 subst ho
 obtain ⟨cur, h1, h2⟩ := h.get henc i k hi hk
 exact ldB h1 (by rw [h2, hv]) ht
def encWay (d : Int × Int) : List Value := [.int .i64 d.1, .int .i64 d.2]
theorem encWay_len (x : Int × Int) : (encWay x).length = 2 := rfl
theorem encWay_one (x : Int × Int) : ∀ u ∈ encWay x, u.oneCell' = true := by intro u hu; simp [encWay] at hu; rcases hu with rfl | rfl <;> rfl
theorem elWay : ElemOk 250 180 2 16 := elem_of zk
def wayV (d : Int × Int) : Value := .agg #[.int .i64 d.1, .int .i64 d.2]
theorem straight_c (w : World) : Calls G.P 264 #[] w (RetL 180 2 encWay Ch.straight w) := by
 refine zN Tryz.func264 ?_
 refine zG ?_
 refine zR ?_
 refine gen_build #[.int .i64 0, .int .i64 1] zk (zR ?_)
 refine gen_build #[.int .i64 1, .int .i64 0] zk (zR ?_)
 refine gen_build #[.int .i64 0, .int .i64 (-1)] zk (zR ?_)
 refine gen_build #[.int .i64 (-1), .int .i64 0] zk (zR ?_)
 refine gen_bs elWay (Ch.straight.map wayV) (by rw [Array.toList_map]; rfl) (by intro v hv; obtain ⟨d, _, rfl⟩ := List.mem_map.1 hv; rfl) rfl zd zd (zR ?_)
 exact ⟨_, rfl, row_new encWay_len w Ch.straight zd _ rfl, Cl.alloc _ _⟩
theorem slanting_c (w : World) : Calls G.P 265 #[] w (RetL 180 2 encWay Ch.slanting w) := by
 refine zN Tryz.func265 ?_
 refine zG ?_
 refine zR ?_
 refine gen_build #[.int .i64 1, .int .i64 1] zk (zR ?_)
 refine gen_build #[.int .i64 1, .int .i64 (-1)] zk (zR ?_)
 refine gen_build #[.int .i64 (-1), .int .i64 (-1)] zk (zR ?_)
 refine gen_build #[.int .i64 (-1), .int .i64 1] zk (zR ?_)
 refine gen_bs elWay (Ch.slanting.map wayV) (by rw [Array.toList_map]; rfl) (by intro v hv; obtain ⟨d, _, rfl⟩ := List.mem_map.1 hv; rfl) rfl zd zd (zR ?_)
 exact ⟨_, rfl, row_new encWay_len w Ch.slanting zd _ rfl, Cl.alloc _ _⟩
theorem jumps_c (w : World) : Calls G.P 266 #[] w (RetL 180 2 encWay Ch.jumps w) := by
 refine zN Tryz.func266 ?_
 refine zG ?_
 refine zR ?_
 refine gen_build #[.int .i64 1, .int .i64 2] zk (zR ?_)
 refine gen_build #[.int .i64 2, .int .i64 1] zk (zR ?_)
 refine gen_build #[.int .i64 2, .int .i64 (-1)] zk (zR ?_)
 refine gen_build #[.int .i64 1, .int .i64 (-2)] zk (zR ?_)
 refine gen_build #[.int .i64 (-1), .int .i64 (-2)] zk (zR ?_)
 refine gen_build #[.int .i64 (-2), .int .i64 (-1)] zk (zR ?_)
 refine gen_build #[.int .i64 (-2), .int .i64 1] zk (zR ?_)
 refine gen_build #[.int .i64 (-1), .int .i64 2] zk (zR ?_)
 refine gen_bs elWay (Ch.jumps.map wayV) (by rw [Array.toList_map]; rfl) (by intro v hv; obtain ⟨d, _, rfl⟩ := List.mem_map.1 hv; rfl) rfl zd zd (zR ?_)
 exact ⟨_, rfl, row_new encWay_len w Ch.jumps zd _ rfl, Cl.alloc _ _⟩
theorem ways_c (k : Int) (w : World) : Calls G.P 217 #[.int .i64 k] w (fun r w' => ∃ v, r = .returned (.tuple #[v, .bool (Ch.far k)]) ∧ Row 180 2 encWay w.heap.size w' v (Ch.ways k) ∧ Cl w w') := by
 refine zN Tryz.func217 ?_
 refine zG ?_
 refine zR ?_
 apply E.dsplit<;>intro h
 ·subst h
  refine zR ?_
  refine callL (straight_c _) fun v w1 h1 c1 => ?_
  obtain ⟨a, c, rfl, ha⟩ := h1.form
  refine zR ?_
  refine callL (slanting_c _) fun v2 w2 h2 c2 => ?_
  obtain ⟨a2, cc, rfl, ha2⟩ := h2.form
  obtain ⟨g2, rfl⟩ := ha2 zd
  refine zR ?_
  refine gen_appR elWay rfl (h1.step c2) rfl h2 encWay_len encWay_one zd zd (c1.trans c2).size (fun v' w' hr hc => ?_)
  obtain ⟨a', c', rfl, _⟩ := hr.form
  refine zR ?_
  exact ⟨_, rfl, hr, hc w rfl (c1.trans c2)⟩
 have k1 := h; clear h
 refine zR ?_
 apply E.dsplit<;>intro h
 ·subst h
  refine zR ?_
  refine callL (straight_c _) fun v w1 h1 c1 => ?_
  obtain ⟨a, c, rfl, ha⟩ := h1.form
  refine zR ?_
  refine callL (slanting_c _) fun v2 w2 h2 c2 => ?_
  obtain ⟨a2, cc, rfl, ha2⟩ := h2.form
  obtain ⟨g2, rfl⟩ := ha2 zd
  refine zR ?_
  refine gen_appR elWay rfl (h1.step c2) rfl h2 encWay_len encWay_one zd zd (c1.trans c2).size (fun v' w' hr hc => ?_)
  obtain ⟨a', c', rfl, _⟩ := hr.form
  refine zR ?_
  exact ⟨_, rfl, hr, hc w rfl (c1.trans c2)⟩
 have k2 := h; clear h
 refine zR ?_
 apply E.dsplit<;>intro h
 ·subst h
  refine zR ?_
  refine callL (straight_c _) fun v w1 h1 c1 => ?_
  obtain ⟨a, c, rfl, ha⟩ := h1.form
  refine zR ?_
  exact ⟨_, rfl, h1, c1⟩
 have k3 := h; clear h
 refine zR ?_
 apply E.dsplit<;>intro h
 ·subst h
  refine zR ?_
  refine callL (slanting_c _) fun v w1 h1 c1 => ?_
  obtain ⟨a, c, rfl, ha⟩ := h1.form
  refine zR ?_
  exact ⟨_, rfl, h1, c1⟩
 have hf : Ch.far k = false := by simp [Ch.far, k2, k3, h]
 have hw : Ch.ways k = Ch.jumps := by simp [Ch.ways, k1, k2, k3, h]
 rw [hf, hw]
 refine zR ?_
 refine callL (jumps_c _) fun v w1 h1 c1 => ?_
 obtain ⟨a, c, rfl, ha⟩ := h1.form
 refine zR ?_
 exact ⟨_, rfl, h1, c1⟩
theorem ways_bound (k : Int) : (Ch.ways k).length ≤ 8 ∧ ∀ d ∈ Ch.ways k, -2 ≤ d.1 ∧ d.1 ≤ 2 ∧ -2 ≤ d.2 ∧ d.2 ≤ 2 := by
 unfold Ch.ways
 repeat' split
 all_goals decide
theorem ray_len (p : Pos) (fr dx dy : Int) (far : Bool) : ∀ k n, (Ch.ray p fr dx dy far k n).length ≤ k := by
 intro k
 induction k with
 | zero => intro n; simp [Ch.ray]
 | succ k ih =>
  intro n; simp only [Ch.ray]
  repeat' split
  ·simp
  ·simp
  ·simp only [List.length_cons]; have := ih (n + 1); omega
theorem flat_le {α β : Type} (f : α → List β) (m : Nat) (h : ∀ x, (f x).length ≤ m) : ∀ l : List α, (l.flatMap f).length ≤ l.length * m := by
 intro l
 induction l with
 | nil => simp
 | cons x r ih => rw [List.flatMap_cons, List.length_append, List.length_cons, Nat.succ_mul]; have := h x; omega
theorem take_flat {α β : Type} (f : α → List β) (l : List α) (i : Nat) (hi : i < l.length) : (l.take (i + 1)).flatMap f = (l.take i).flatMap f ++ f l[i] := by
 rw [List.take_succ_eq_append_getElem hi, List.flatMap_append]; simp
theorem ways_pos (k : Int) : 0 < (Ch.ways k).length := by
 unfold Ch.ways
 repeat' split
 all_goals decide
theorem ray_succ (p : Pos) (fr dx dy : Int) (far : Bool) (n : Nat) (h : n < 8) : Ch.ray p fr dx dy far (8 - n) n =
  (if Ch.at' (Ch.file fr + n * dx) (Ch.rank fr + n * dy) < 0 then [] else if !far || !decide (Ch.sq p (Ch.at' (Ch.file fr + n * dx) (Ch.rank fr + n * dy)) = 0) then [Ch.at' (Ch.file fr + n * dx) (Ch.rank fr + n * dy)] else Ch.at' (Ch.file fr + n * dx) (Ch.rank fr + n * dy) :: Ch.ray p fr dx dy far (8 - (n + 1)) (n + 1)) := by
 obtain ⟨m, hm⟩ : ∃ m, 8 - n = m + 1 := ⟨7 - n, zo⟩
 rw [hm, show 8 - (n + 1) = m by omega]; rfl
theorem at_le (f r : Int) : Ch.at' f r ≤ 63 := by unfold Ch.at'; split <;> omega
theorem mul_bd {n d : Int} (h0 : 0 ≤ n) (h1 : n ≤ 8) (d0 : -2 ≤ d) (d1 : d ≤ 2) : -16 ≤ n * d ∧ n * d ≤ 16 := by
 have : d = -2 ∨ d = -1 ∨ d = 0 ∨ d = 1 ∨ d = 2 := by omega
 rcases this with rfl | rfl | rfl | rfl | rfl <;> omega
theorem Reach_c (p : Pos) (f : Int) (hp : Pc p) (w : World) (h0 : 0 ≤ f) (h1 : f ≤ 63) :
  Calls G.P 178 #[posV p, .int .i64 f] w (RetL 3 1 encInt (Ch.reach p f) w) := by
 refine zN Tryz.func178 ?_
 refine zG ?_
 refine zR ?_
 generalize hW : w.alloc (.cells (posA p) 24) = W0
 have hP : ∀ w', Cl W0 w' → w'.heap[w.heap.size]? = some (.cells (posA p) 24 (0, 0)) := fun w' h => (hW ▸ h : Cl (w.alloc (.cells (posA p) 24)) w').blk (alloc_new _ _)
 have hE : ∀ w', Cl W0 w' → Cl w w' := fun w' h => (Cl.alloc _ _).trans (hW ▸ h)
 refine zR ?_
 refine E.ctrue (inB_iff.2 ⟨h0, zo⟩) (zR ?_)
 refine loadK _ (ldSq' (hP _ (Cl.refl _)) _ h0 zo) (zR ?_)
 refine callS (KindOf_c _ _ (Pc.lo hp _) (Pc.hi hp _)) (zR ?_)
 generalize hk : Ch.kindOf (Ch.sq p f) = k
 refine callK (ways_c k _) ?_
 rintro r w1 ⟨v, rfl, hways, c1⟩
 refine ⟨_, rfl, ?_⟩
 obtain ⟨a, c, rfl, ha⟩ := hways.form
 obtain ⟨hwl, hwb⟩ := ways_bound k
 generalize hws : Ch.ways k = ws at *
 generalize hfar : Ch.far k = far at *
 have hpos : 0 < ws.length := hws ▸ ways_pos k
 obtain ⟨g, rfl⟩ := ha hpos
 generalize hray : (fun d : Int × Int => Ch.ray p f d.1 d.2 far 7 1) = rayF
 have hreach : Ch.reach p f = ws.flatMap rayF := by unfold Ch.reach; rw [hk, hws, hfar, ← hray]
 have hrl : ∀ d, (rayF d).length ≤ 7 := by intro d; rw [← hray]; exact ray_len _ _ _ _ _ _ _
 refine zR ?_
 refine loopK (σ := Nat × Value) [7, 8, 9, 10] 11 (fun a => [(7, a.2), (8, .int .i64 a.1)]) (fun a w' => a.1 ≤ ws.length ∧ Row 3 1 encInt w1.heap.size w' a.2 ((ws.take a.1).flatMap rayF) ∧ Cl w1 w') (fun a => ws.length - a.1) zk (0, .slice none 0 0)
  ⟨zo, Row.nil _ _, Cl.refl _⟩ ⟨rfl, rfl, trivial⟩ ?_
 rintro ⟨i, v⟩ j w2 ⟨hi, hrow, hcl⟩
 simp only at hi hrow
 obtain ⟨a2, cc2, rfl, _⟩ := hrow.form
 refine zR ?_
 apply E.dsplit<;>intro h
 ·have hil : i < ws.length := by omega
  have hU := take_flat rayF ws i hil
  have hUl : ((ws.take (i + 1)).flatMap rayF).length ≤ 56 := by
   have h1 := flat_le rayF 7 hrl (ws.take (i + 1))
   have h2 : (ws.take (i + 1)).length ≤ 8 := by rw [List.length_take]; omega
   have h3 : (ws.take (i + 1)).length * 7 ≤ 8 * 7 := Nat.mul_le_mul_right _ h2
   omega
  generalize hd : ws[i] = d at hU
  have hdm : d ∈ ws := hd ▸ List.getElem_mem hil
  obtain ⟨d0, d1, d2, d3⟩ := hwb d hdm
  generalize hUU : (ws.take (i + 1)).flatMap rayF = U at hU hUl
  have hrd : rayF d = Ch.ray p f d.1 d.2 far (8 - 1) 1 := by rw [← hray]
  refine zR ?_
  refine loopK (σ := Nat × Value × List Int) [7, 9, 10] 11 (fun a => [(7, a.2.1), (9, .int .i64 a.1)]) (fun a w' => 1 ≤ a.1 ∧ a.1 ≤ 8 ∧ a.2.2 ++ Ch.ray p f d.1 d.2 far (8 - a.1) a.1 = U ∧ Row 3 1 encInt w1.heap.size w' a.2.1 a.2.2 ∧ Cl w1 w') (fun a => 8 - a.1) zk (1, _, _)
   ⟨zo, zo, by rw [← hrd]; exact hU.symm, hrow, hcl⟩ ⟨rfl, rfl, trivial⟩ ?_
  rintro ⟨n, v, cur⟩ j2 w3 ⟨hn1, hn8, hcur, hrow, hcl⟩
  simp only at hn1 hn8 hcur hrow
  obtain ⟨a3, cc3, rfl, _⟩ := hrow.form
  have hcl2 : cur.length ≤ 56 := by rw [← hcur, List.length_append] at hUl; omega
  have hdone : ∀ v', Row 3 1 encInt w1.heap.size w3 v' U → True := fun _ _ => trivial
  refine zR ?_
  apply E.dsplit<;>intro h
  ·have hn : n < 8 := by omega
   rw [ray_succ _ _ _ _ _ _ hn] at hcur
   have b1 := mul_bd (n := n) (d := d.1) zo zo d0 d1
   have b2 := mul_bd (n := n) (d := d.2) zo zo d2 d3
   have g1 : d.1 = ws[i].1 := by rw [hd]
   have g2 : d.2 = ws[i].2 := by rw [hd]
   have m1 : IntKind.i64.wrap ((n : Int) * d.1) = n * d.1 := w64_in zo zo
   have m2 : IntKind.i64.wrap ((n : Int) * d.2) = n * d.2 := w64_in zo zo
   have m3 : IntKind.i64.wrap (Ch.file f + (n : Int) * d.1) = Ch.file f + n * d.1 := w64_in (by unfold Ch.file; omega) (by unfold Ch.file; omega)
   have m4 : IntKind.i64.wrap (Ch.rank f + (n : Int) * d.2) = Ch.rank f + n * d.2 := w64_in (by unfold Ch.rank; omega) (by unfold Ch.rank; omega)
   refine zR ?_
   refine zK 22 ?_
   refine zR ?_
   refine callQs _ (fun w _ => File_c _ _ zo) (zR ?_)
   refine zC ?_
   refine zR ?_
   refine loadQ (.int .i64 d.1) (fun w hw => ldRow (hways.step (hcl.trans hw)) encWay_len i 0 hil zd (by rw [g1]; rfl) (bz0 (i * 2)) rfl) (zR ?_)
   simp only [m1, m3]
   refine callQs _ (fun w _ => Rank_c _ _ zo zo) (zR ?_)
   refine zC ?_
   refine zR ?_
   refine loadQ (.int .i64 d.2) (fun w hw => ldRow (hways.step (hcl.trans hw)) encWay_len i 1 hil zd (by rw [g2]; rfl) (bz1 (i * 2) 1) rfl) (zR ?_)
   simp only [m2, m4]
   refine callQs _ (fun w _ => At_c _ _ _ (by exact zO) (by exact zO) (by exact zO) (by exact zO)) ?_
   generalize hX : Ch.at' (Ch.file f + (n : Int) * d.1) (Ch.rank f + (n : Int) * d.2) = X at hcur
   refine zR ?_
   intro w4 c4
   have hcl := hcl.trans c4
   have hrow := hrow.step c4
   refine zR ?_
   apply E.dsplit<;>intro h
   ·rw [if_pos h] at hcur
    rw [List.append_nil] at hcur
    refine zR ?_
    refine ⟨(i + 1, _), ⟨rfl, int_eq (by rw [w64_in zo zo]; push_cast; omega), trivial⟩, ⟨by simp only; omega, ?_, hcl⟩, by simp only; omega⟩
    simp only [hUU, ← hcur]; exact hrow
   ·rw [if_neg h] at hcur
    have hX0 : 0 ≤ X := by omega
    have hX1 : X ≤ 63 := hX ▸ (at_le _ _)
    refine zR ?_
    refine zL elInt [.int .i64 X] ?_
    refine zR ?_
    refine gen_app1 elInt rfl hrow rfl rfl rfl encInt_len encInt_one zo zd hcl.size (fun v' w5 hr hc => ?_)
    have hcl5 := hc w1 rfl hcl
    obtain ⟨a5, cc5, rfl, _⟩ := hr.form
    have fin : (!far || !decide (Ch.sq p X = 0)) = true → Row 3 1 encInt w1.heap.size w5 (.slice a5 (cur ++ [X]).length cc5) U := by
     intro h; rw [if_pos h] at hcur; rw [← hcur]; exact hr
    cases far
    ·refine zR ?_
     refine ⟨(i + 1, _), ⟨rfl, int_eq (by rw [w64_in zo zo]; push_cast; omega), trivial⟩, ⟨by simp only; omega, ?_, hcl5⟩, by simp only; omega⟩
     simp only [hUU]; exact fin rfl
    ·refine zR ?_
     refine E.ctrue (inB_iff.2 ⟨hX0, zo⟩) (zR ?_)
     refine loadK _ (ldSq' (hP _ (c1.trans hcl5)) _ hX0 zo) (zR ?_)
     clear h
     apply E.ndsplit<;>intro h
     ·refine zR ?_
      refine ⟨(i + 1, _), ⟨rfl, int_eq (by rw [w64_in zo zo]; push_cast; omega), trivial⟩, ⟨by simp only; omega, ?_, hcl5⟩, by simp only; omega⟩
      simp only [hUU]; exact fin (by rw [decide_eq_false h]; rfl)
     ·refine zR ?_
      rw [if_neg (by rw [h]; simp)] at hcur
      refine ⟨(n + 1, _, cur ++ [X]), ⟨rfl, int_eq (by rw [w64_in zo zo]; push_cast; omega), trivial⟩, ⟨by simp only; omega, by simp only; omega, ?_, hr, hcl5⟩, by simp only; omega⟩
      simp only [List.append_assoc]; exact hcur
  ·have h8 : n = 8 := by simp only at h; omega
   subst h8
   refine zR ?_
   refine ⟨(i + 1, _), ⟨rfl, int_eq (by rw [w64_in zo zo]; push_cast; omega), trivial⟩, ⟨by simp only; omega, ?_, hcl⟩, by simp only; omega⟩
   have : cur = U := by rw [← hcur]; simp [Ch.ray]
   simp only [hUU, ← this]; exact hrow
 ·have hil : i = ws.length := by omega
  subst hil
  refine zR ?_
  refine ⟨_, rfl, ?_, hE _ (c1.trans hcl)⟩
  rw [hreach]
  simp only [List.take_length] at hrow ⊢
  exact hrow.mono (by have := (hE _ c1).size; omega)
theorem side_or (x : Int) : Ch.sideOf x = 0 ∨ Ch.sideOf x = 1 := by unfold Ch.sideOf; split <;> simp
theorem mem_pawnHits {f s x : Int} (h : x ∈ Ch.pawnHits f s) : 0 ≤ x ∧ x ≤ 63 := by
 unfold Ch.pawnHits Ch.pawnHit at h
 rw [List.mem_append] at h
 rcases h with h | h <;> split at h
 ·rename_i h0; rw [List.mem_singleton.1 h]; exact ⟨h0, at_le _ _⟩
 ·cases h
 ·rename_i h0; rw [List.mem_singleton.1 h]; exact ⟨h0, at_le _ _⟩
 ·cases h
theorem pawnHits_len (f s : Int) : (Ch.pawnHits f s).length ≤ 2 := by
 unfold Ch.pawnHits Ch.pawnHit; rw [List.length_append]; split <;> split <;> simp
theorem pawnGoes_len (p : Pos) (f s : Int) : (Ch.pawnGoes p f s).length ≤ 2 := by
 unfold Ch.pawnGoes; simp only; split
 ·split <;> simp
 ·simp
theorem take_filter {α : Type} (P : α → Bool) (l : List α) (i : Nat) (hi : i < l.length) : (l.take (i + 1)).filter P = (l.take i).filter P ++ (if P l[i] then [l[i]] else []) := by
 rw [List.take_succ_eq_append_getElem hi, List.filter_append]
 congr 1
 cases h : P l[i] <;> simp [h]
theorem steps_c (p : Pos) (f : Int) (hp : Pc p) (w : World) (h0 : 0 ≤ f) (h1 : f ≤ 63) (e0 : -1000 ≤ p.ep) (e1 : p.ep ≤ 1000) :
  Calls G.P 177 #[posV p, .int .i64 f] w (RetL 3 1 encInt (Ch.pawnSteps p f) w) := by
 refine zN Tryz.func177 ?_
 refine zG ?_
 refine zR ?_
 generalize hW : w.alloc (.cells (posA p) 24) = W0
 have hP : ∀ w', Cl W0 w' → w'.heap[w.heap.size]? = some (.cells (posA p) 24 (0, 0)) := fun w' h => (hW ▸ h : Cl (w.alloc (.cells (posA p) 24)) w').blk (alloc_new _ _)
 have hE : ∀ w', Cl W0 w' → Cl w w' := fun w' h => (Cl.alloc _ _).trans (hW ▸ h)
 refine zR ?_
 refine E.ctrue (inB_iff.2 ⟨h0, zo⟩) (zR ?_)
 refine loadK _ (ldSq' (hP _ (Cl.refl _)) _ h0 zo) (zR ?_)
 refine callS (SideOf_c _ _) ?_
 generalize hs : Ch.sideOf (Ch.sq p f) = s
 have hs01 : s = 0 ∨ s = 1 := hs ▸ side_or _
 have hsteps : Ch.pawnSteps p f = Ch.pawnGoes p f s ++ (Ch.pawnHits f s).filter (Ch.pawnTakes p s) := by unfold Ch.pawnSteps; rw [hs]
 have fr : 0 ≤ Ch.file f ∧ Ch.file f ≤ 7 ∧ 0 ≤ Ch.rank f ∧ Ch.rank f ≤ 7 := by unfold Ch.file Ch.rank; omega
 have hup : Ch.up s = 1 ∨ Ch.up s = -1 := by unfold Ch.up; omega
 have hup2 : Ch.up s = 1 - 2 * s := rfl
 have m1 : IntKind.i64.wrap (Ch.rank f + Ch.up s) = Ch.rank f + Ch.up s := w64_in zo zo
 have m2 : IntKind.i64.wrap (2 * Ch.up s) = 2 * Ch.up s := w64_in zo zo
 have m3 : IntKind.i64.wrap (Ch.rank f + 2 * Ch.up s) = Ch.rank f + 2 * Ch.up s := w64_in zo zo
 refine zR ?_
 refine callS (File_c _ _ zo) (zR ?_)
 refine callS (Rank_c _ _ zo zo) (zR ?_)
 refine callS (up_c _ _ zo zo) (zR ?_)
 simp only [m1]
 refine callS (At_c _ _ _ zo zo zo zo) ?_
 generalize hone : Ch.at' (Ch.file f) (Ch.rank f + Ch.up s) = one
 have one63 : one ≤ 63 := hone ▸ at_le _ _
 have hgoes : Ch.pawnGoes p f s = if 0 ≤ one ∧ Ch.sq p one = 0 then (if Ch.rank f = 1 + 5 * s ∧ Ch.sq p (Ch.at' (Ch.file f) (Ch.rank f + 2 * Ch.up s)) = 0 then [one, Ch.at' (Ch.file f) (Ch.rank f + 2 * Ch.up s)] else [one]) else [] := by
  unfold Ch.pawnGoes; rw [hone]
 refine zG ?_
 refine joinK (σ := Value) [6, 7, 8] 12 (fun v => [(6, v)]) (fun v w' => Row 3 1 encInt W0.heap.size w' v (Ch.pawnGoes p f s) ∧ Cl W0 w') zk ?_ (fun v j w1 h => ?_)
 ·refine zR ?_
  apply E.dsplit<;>intro h
  ·have ho := h; clear h
   refine zR ?_
   refine E.ctrue (inB_iff.2 ⟨ho, zo⟩) (zR ?_)
   refine loadK _ (ldSq' (hP _ (Cl.refl _)) _ ho zo) (zR ?_)
   apply E.dsplit<;>intro h
   ·have hz := h; clear h
    rw [if_pos ⟨ho, hz⟩] at hgoes
    refine zR ?_
    refine zL elInt [.int .i64 one] ?_
    refine zR ?_
    refine gen_app1 (l := []) (enc := encInt) (x := one) elInt rfl (Row.nil W0 W0.heap.size) rfl rfl rfl encInt_len encInt_one zd zd (Nat.le_refl _) (fun v' w2 hr hc => ?_)
    have hcl := hc W0 rfl (Cl.refl _)
    obtain ⟨a2, cc2, rfl, _⟩ := hr.form
    refine zR ?_
    refine callS (File_c _ _ zo) (zR ?_)
    refine callS (Rank_c _ _ zo zo) (zR ?_)
    refine callS (up_c _ _ zo zo) (zR ?_)
    simp only [m2, m3]
    refine callS (At_c _ _ _ zo zo zo zo) ?_
    generalize htwo : Ch.at' (Ch.file f) (Ch.rank f + 2 * Ch.up s) = two at hgoes
    refine zR ?_
    refine callS (Rank_c _ _ zo zo) (zR ?_)
    simp only [show IntKind.i64.wrap (5 * s) = 5 * s from w64_in zo zo, show IntKind.i64.wrap (1 + 5 * s) = 1 + 5 * s from w64_in zo zo]
    apply E.dsplit<;>intro h
    ·have hrk := h; clear h
     have htwo0 : 0 ≤ two := by rw [← htwo, at_in (f := Ch.file f) (r := Ch.rank f + 2 * Ch.up s) fr.1 fr.2.1 zo zo]; omega
     have htwo1 : two ≤ 63 := htwo ▸ at_le _ _
     refine zR ?_
     refine E.ctrue (inB_iff.2 ⟨htwo0, zo⟩) (zR ?_)
     refine loadK _ (ldSq' (hP _ hcl) _ htwo0 zo) (zR ?_)
     apply E.dsplit<;>intro h
     ·rw [if_pos ⟨hrk, h⟩] at hgoes
      refine zR ?_
      refine zL elInt [.int .i64 two] ?_
      refine zR ?_
      refine gen_app1 (enc := encInt) (x := two) elInt rfl hr rfl rfl rfl encInt_len encInt_one (by simp) zd hcl.size (fun v' w3 hr hc => ?_)
      obtain ⟨a3, cc3, rfl, _⟩ := hr.form
      refine zR ?_
      exact ⟨_, ⟨rfl, trivial⟩, by rw [hgoes]; exact hr, hc W0 rfl hcl⟩
     ·rw [if_neg (fun e => h e.2)] at hgoes
      refine zR ?_
      exact ⟨_, ⟨rfl, trivial⟩, by rw [hgoes]; exact hr, hcl⟩
    ·rw [if_neg (fun e => h e.1)] at hgoes
     refine zR ?_
     exact ⟨_, ⟨rfl, trivial⟩, by rw [hgoes]; exact hr, hcl⟩
   ·rw [if_neg (fun e => h e.2)] at hgoes
    refine zR ?_
    exact ⟨_, ⟨rfl, trivial⟩, by rw [hgoes]; exact Row.nil _ _, Cl.refl _⟩
  ·rw [if_neg (fun e => h e.1)] at hgoes
   refine zR ?_
   exact ⟨_, ⟨rfl, trivial⟩, by rw [hgoes]; exact Row.nil _ _, Cl.refl _⟩
 obtain ⟨hrow, hcl⟩ := h
 obtain ⟨a2, cc2, rfl, _⟩ := hrow.form
 refine zR ?_
 refine callL (hits_c f s _ h0 h1 zo zo) fun v w2 hh c2 => ?_
 obtain ⟨ah, c, rfl, ha⟩ := hh.form
 have hl2 := pawnHits_len f s
 have hmem : ∀ x ∈ Ch.pawnHits f s, 0 ≤ x ∧ x ≤ 63 := fun x hx => mem_pawnHits hx
 have hg2 := pawnGoes_len p f s
 generalize Ch.pawnHits f s = hl at *
 generalize Ch.pawnGoes p f s = gl at *
 refine zR ?_
 refine loopK (σ := Nat × Value) [6, 10, 11] 12 (fun a => [(6, a.2), (10, .int .i64 a.1)]) (fun a w' => a.1 ≤ hl.length ∧ Row 3 1 encInt W0.heap.size w' a.2 (gl ++ (hl.take a.1).filter (Ch.pawnTakes p s)) ∧ Row 3 1 encInt w1.heap.size w' (.slice ah hl.length c) hl ∧ (∀ g, ah = some ⟨g, 0, none⟩ → a.2.ownBlock ≠ some g) ∧ Cl W0 w') (fun a => hl.length - a.1) zk (0, .slice a2 gl.length cc2)
  ⟨zo, by simpa using hrow.step c2, hh, fun g e e2 => by subst e; have h1 := hh.lt; have h2 := World.ownsRow.lt hrow g e2; omega, hcl.trans c2⟩ (And.intro rfl (And.intro rfl trivial)) ?_
 rintro ⟨i, v⟩ j w3 ⟨hi, hrow, hh, hne, hcl0⟩
 simp only at hi hrow hne
 obtain ⟨a4, cc4, rfl, _⟩ := hrow.form
 refine zR ?_
 apply E.dsplit<;>intro h
 ·have hil : i < hl.length := by omega
  have hpos : 0 < hl.length := by omega
  obtain ⟨g, rfl⟩ := ha hpos
  generalize hx : hl[i] = x
  obtain ⟨x0, x1⟩ := hmem x (hx ▸ List.getElem_mem hil)
  have hstep := take_filter (Ch.pawnTakes p s) hl i hil
  rw [hx] at hstep
  have hlen : (gl ++ (hl.take i).filter (Ch.pawnTakes p s)).length ≤ 4 := by
   have := List.length_filter_le (Ch.pawnTakes p s) (hl.take i)
   rw [List.length_take] at this
   rw [List.length_append]; omega
  have hld : ∀ w', Cl w3 w' → LoadsTo G.P w' 3 ⟨g, i, none⟩ (.int .i64 x) := fun w' h => ldRow (hh.step h) encInt_len i 0 hil zd (by rw [hx]; rfl) zo rfl
  refine zR ?_
  refine zC ?_
  refine zR ?_
  refine loadK _ (hld _ (Cl.refl _)) (zR ?_)
  refine E.ctrue (inB_iff.2 ⟨x0, zo⟩) (zR ?_)
  refine loadK _ (ldSq' (hP _ hcl0) _ x0 zo) (zG ?_)
  refine joinK (σ := Unit) [11, 80, 81, 82, 83, 84, 85, 86, 87, 88, 89, 90, 91, 92, 93, 94, 95, 96, 97, 98, 99, 100, 101, 102, 103, 104, 105, 106, 107, 108, 109, 110, 111] 112 (fun _ => [(11, .int .i64 (Ch.sq p x)), (111, .bool (Ch.pawnTakes p s x))]) (fun _ w' => Cl w3 w') zk ?_ (fun _ j w4 c4 => ?_)
  ·refine zR ?_
   refine zK 32 ?_
   refine zR ?_
   repeat' (first
    | (refine zC ?_; refine zR ?_)
    | (refine loadQ _ (fun w hw => hld _ hw) ?_; refine zR ?_)
    | (refine loadQ _ (fun w hw => ldEp (hP _ (hcl0.trans hw))) ?_; refine zR ?_)
    | (refine callQs _ (fun w _ => SideOf_c _ _) ?_; refine zR ?_)
    | (refine callQs _ (fun w _ => Rank_c _ _ zo zo) ?_; refine zR ?_)
    | (refine E.dsplit (fun _ => ?_) (fun _ => ?_) <;> (refine zR ?_))
    | (refine E.ndsplit (fun _ => ?_) (fun _ => ?_) <;> (refine zR ?_)))
   all_goals (intro w4 c4; refine ⟨(), ⟨rfl, congrArg Value.bool ?_, trivial⟩, c4⟩)
   all_goals unfold Ch.pawnTakes
   all_goals clear hgoes hsteps hrow hstep hlen hh hld hne
   all_goals (have w3 : IntKind.i64.wrap (3 * s) = 3 * s := w64_in zo zo)
   all_goals (have w5 : IntKind.i64.wrap (5 - 3 * s) = 5 - 3 * s := w64_in zo zo)
   all_goals try simp only [w3, w5]
   all_goals simp_all
  ·have hcl4 := hcl0.trans c4
   have hrow4 := hrow.step c4
   have hld4 := hld _ c4
   cases htk : Ch.pawnTakes p s x
   ·rw [htk] at hstep
    refine zR ?_
    refine ⟨(i + 1, _), ⟨rfl, int_eq (by rw [w64_in zo zo]; push_cast; omega), trivial⟩, ⟨by simp only; omega, ?_, hh.step c4, hne, hcl4⟩, by simp only; omega⟩
    simp only [hstep]; simpa using hrow4
   ·rw [htk] at hstep
    refine zR ?_
    refine zC ?_
    refine zR ?_
    refine loadK _ hld4 (zR ?_)
    refine zL elInt [.int .i64 x] ?_
    refine zR ?_
    refine gen_push (enc := encInt) elInt x rfl hrow4 rfl rfl rfl encInt_len encInt_one zo zd hcl4.size (fun v' w5 hr hc => ?_)
    obtain ⟨a5, cc5, rfl, _⟩ := hr.form
    have hcl5 : Cl W0 w5 := hc.cl W0 rfl hcl4
    have hh4 := hh.step c4
    refine zR ?_
    refine ⟨(i + 1, _), ⟨rfl, int_eq (by rw [w64_in zo zo]; push_cast; omega), trivial⟩, ⟨by simp only; omega, ?_, hh4.keep fun o ho => hc.keep _ o ho (hne _ rfl), fun g' e => hc.ne (by injection e with e; injection e with e; subst e; exact hh4.lt.2) (hne g' e), hcl5⟩, by simp only; omega⟩
    simp only [hstep, if_true]; rw [← List.append_assoc]; exact hr
 ·have hil : i = hl.length := by omega
  subst hil
  refine zR ?_
  refine ⟨_, rfl, ?_, hE _ hcl0⟩
  rw [hsteps]
  simp only [List.take_length] at hrow ⊢
  exact hrow.mono (by have := (hE _ (Cl.refl _)).size; omega)
end
end Go.Proofs.YtpclhlhcegcflaaGreatDoor
