/- One part of the proof: Sp29 Sp30 Sp31 Pk46 Pk47 Pk48. -/
import Derived.Test.YtpclhlhcegcflaaGreatDoorM1
import Derived.Test.YtpclhlhcegcflaaGreatDoorM3
import Derived.Test.YtpclhlhcegcflaaGreatDoorM24
namespace Go.Proofs.YtpclhlhcegcflaaGreatDoor
set_option maxRecDepth 100000
set_option linter.unusedSimpArgs false
set_option linter.unusedVariables false
section
open Go Go.RowKit
open E
def Apart (u v : Value) : Prop := ∀ g, u.ownBlock = some g → v.ownBlock ≠ some g
theorem apart_nil (v : Value) : Apart (.slice none 0 0) v := fun g h => by cases h
theorem Apart.symm {u v : Value} (h : Apart u v) : Apart v u := fun g h1 h2 => h g h2 h1
theorem Row.keepG {α : Type} {e z b0 b1 : Nat} {enc : α → List Value} {w w' : World} {u v v' : Value} {l : List α} (h : Row e z enc b1 w u l) (hg : Grow b0 w v w' v') (hne : Apart u v) : Row e z enc b1 w' u l ∧ Apart u v' := by
 rcases h.2 with ⟨e1, e2⟩ | ⟨g, cap, cur, e1, e2, e3, e4⟩
 ·subst e1
  exact ⟨⟨h.1, .inl ⟨rfl, e2⟩⟩, fun g hg => by cases hg⟩
 ·subst e1
  have hn := hne g rfl
  refine ⟨⟨h.1, .inr ⟨g, cap, cur, rfl, e2, hg.keep _ _ e3 hn, e4⟩⟩, fun g' hg' => ?_⟩
  injection hg' with hg'; subst hg'
  exact hg.ne (Array.getElem?_eq_some_iff.1 e3).1 hn
theorem posR_of {p : Pos} (hI : Ch.Inv p) (hN : Nums p) : PosR p := by
 have he := Ch.passed_ep hI.pass
 have ht := hI.turn; have := hI.c0; have := hI.c1; have := hI.h0; have := hI.f1; have := hN.1; have := hN.2
 refine ⟨fun x hx => ?_, ⟨zo, zo⟩, ⟨zo, zo⟩, ⟨zo, zo⟩, ⟨zo, zo⟩, ⟨zo, zo⟩⟩
 obtain ⟨i, hi, rfl⟩ := List.mem_iff_getElem.1 hx
 have : Ch.sq p (i : Int) = p.board[i] := by
  unfold Ch.sq
  rw [Int.toNat_natCast, List.getD_eq_getElem?_getD, List.getElem?_eq_getElem hi]; rfl
 have h2 := hI.pc (i : Int)
 rw [this] at h2
 exact ⟨zo, zo⟩
theorem story_cons (l : List Pos) (p : Pos) (mo : Int × Tx) (m : Mv) (r : List Mv) : Ch.story l p mo (m :: r) = if Ch.isLegal p m then
   Ch.stepOf p m (Ch.ending (l ++ [Ch.made p m]) (Ch.made p m) mo) :: Ch.story (l ++ [Ch.made p m]) (Ch.made p m) (Ch.ending (l ++ [Ch.made p m]) (Ch.made p m) mo) r else [] := rfl
theorem Story_c (p : Pos) (hI : Ch.Inv p) (hN : Ng p 0) (looked : Bool) (ms : List Mv) (hms : ∀ m ∈ ms, MvR m) (hn : ms.length ≤ 90000) {v : Value} (w : World) (hrow : MvIn w v ms) :
  Calls G.P 13 #[posV p, .bool looked, v] w (fun r w' => ∃ v, r = .returned v ∧ Row 39 81 stL w.heap.size w' v (Ch.storyOf p looked ms) ∧ Cl w w') := by
 obtain ⟨al, cl, rfl, hal⟩ := hrow.form
 obtain ⟨zp, hzp, hz69⟩ := zPos
 refine zN Tryz.func13 ?_
 refine zG ?_
 generalize hW : w.alloc (.cells (posA p) 24) = W0
 have hP0 : W0.heap[w.heap.size]? = some (.cells (posA p) 24 (0, 0)) := by rw [← hW]; exact alloc_new _ _
 have hE : Cl w W0 := by rw [← hW]; exact Cl.alloc _ _
 clear hW
 refine zR ?_
 refine loadK _ (ldPos hP0) (zR ?_)
 refine gen_bs elPos [posV p] (by rw [Array.toList_map]; rfl) (by simp [posV, Value.cells, posA_size]) rfl zd zd ?_
 have hr := (row_new encPos_len W0 [p] (by simp) [posV p] (by simp [posV, Value.cells, posA]) (e := 24) (z := 69)).mono hE.size
 have c1 := hE.trans (Cl.alloc W0 (.cells (([posV p] : List Value).flatMap fun v => v.cells.toList).toArray 24))
 generalize W0.alloc (.cells (([posV p] : List Value).flatMap fun v => v.cells.toList).toArray 24) = w1 at *
 generalize W0.heap.size = B1 at *
 have hmo0 : Ch.storyOf p looked ms = Ch.story [p] p (if looked then Ch.ending [p] p (0, Ch.star) else (0, Ch.star)) ms := rfl
 have hnm0 := (hN.nm zo).nums
 refine zG ?_
 refine Nx.mk (zG ?_)
 refine joinK (σ := Unit) [9, 10, 15, 16, 17, 18, 19, 20, 21, 22] 23 (fun _ => [(9, .int .i64 (if looked then Ch.ending [p] p (0, Ch.star) else (0, Ch.star)).1), (10, txV (if looked then Ch.ending [p] p (0, Ch.star) else (0, Ch.star)).2)]) (fun _ w' => Cl w1 w') zk ?_ (fun _ j w2 c2 => ?_)
 ·cases looked
  ·refine zR ?_
   exact ⟨(), ⟨rfl, rfl, trivial⟩, Cl.refl _⟩
  ·have hEnd := Ending_c [p] p (fun x hx => by rw [List.mem_singleton.1 hx]; exact posR_of hI hnm0) rfl (by simp) hI hnm0 0 Ch.star w1 hr
   generalize Ch.ending [p] p (0, Ch.star) = R at *
   refine zR ?_
   refine callR hEnd fun w2 c2 => zR ?_
   exact ⟨(), ⟨rfl, rfl, trivial⟩, c2⟩
 generalize (if looked then Ch.ending [p] p (0, Ch.star) else (0, Ch.star)) = mo0 at *
 have hr2 := hr.step c2
 refine zR ?_
 refine loopK (σ := Nat × List Ch.Step × List Pos × Pos × (Int × Tx) × Value × Value) [6, 7, 8, 9, 10, 11, 12] 13 (fun a => [(7, a.2.2.2.2.2.1), (8, a.2.2.2.2.2.2), (9, .int .i64 a.2.2.2.2.1.1), (10, txV a.2.2.2.2.1.2), (11, .int .i64 a.1)])
  (fun a w' => a.1 ≤ ms.length ∧ Ch.storyOf p looked ms = a.2.1 ++ Ch.story a.2.2.1 a.2.2.2.1 a.2.2.2.2.1 (ms.drop a.1) ∧ a.2.1.length = a.1 ∧ a.2.2.1.length = a.1 + 1 ∧ a.2.2.1.getLast? = some a.2.2.2.1 ∧ (∀ q ∈ a.2.2.1, PosR q) ∧ Ch.Inv a.2.2.2.1 ∧ Ng a.2.2.2.1 a.1 ∧
   Row 39 81 stL w.heap.size w' a.2.2.2.2.2.1 a.2.1 ∧ Row 24 69 posL w.heap.size w' a.2.2.2.2.2.2 a.2.2.1 ∧ Apart a.2.2.2.2.2.1 a.2.2.2.2.2.2 ∧ Cl w w') (fun a => ms.length - a.1) zk (0, [], [p], p, mo0, .slice none 0 0, .slice (some ⟨B1, 0, none⟩) 1 1)
  ⟨by simp, by rw [hmo0]; rfl, rfl, rfl, rfl, fun x hx => by rw [List.mem_singleton.1 hx]; exact posR_of hI hnm0, hI, hN, Row.nil _ _, hr2, apart_nil _, c1.trans c2⟩ ⟨rfl, rfl, rfl, rfl, rfl, trivial⟩ ?_
 rintro ⟨i, O, L, q, ⟨me, ou⟩, vo, vl⟩ j3 w3 ⟨hi, hst, hOl, hLl, hLq, hLr, hIq, hNq, hro, hrl, hap, hcl⟩
 simp only at hi hst hOl hLl hLq hLr hIq hNq hro hrl hap ⊢
 clear hr2 hr hP0 c1 c2 hmo0 hE
 have hnm := hNq.nm zo
 obtain ⟨ao, co, rfl, hao⟩ := hro.form
 obtain ⟨al2, cl2, rfl, hal2⟩ := hrl.form
 obtain ⟨gl, rfl⟩ := hal2 zo
 refine zR ?_
 apply E.dsplit<;>intro h
 ·have hil : i < ms.length := by omega
  clear h
  obtain ⟨g, o, rfl⟩ := hal zo
  have ni : IntKind.i64.wrap ((i : Int) + 1) = ((i + 1 : Nat) : Int) := by rw [w64_in zo zo]; push_cast; omega
  rw [List.drop_eq_getElem_cons hil] at hst
  rw [story_cons] at hst
  have hmr := hms _ (List.getElem_mem hil)
  have hld : ∀ w', Cl w w' → LoadsTo G.P w' 36 ⟨g, E.offZ o ((i : Int)).toNat 3, none⟩ (mvV ms[i]) := fun w' h' => (hrow.step h').ld i hil
  generalize ms[i] = m at *
  have hlast : L[L.length - 1]'zo = q := by
   rw [List.getLast?_eq_getElem?, List.getElem?_eq_getElem zo] at hLq
   exact Option.some.inj hLq
  have hlm : IntKind.i64.wrap ((L.length : Int) - 1) = ((L.length - 1 : Nat) : Int) := by rw [w64_in zo zo]; omega
  refine zR ?_
  refine zC ?_
  refine zR ?_
  refine loadK (posV q) (ldRowA hrl encPos_len (L.length - 1) zo rfl ?_ (by rw [hlast]; rfl)) ?_
  ·simp [E.offZ_eq, hlm]
  refine zR ?_
  refine gen_alloc zp hzp (zR ?_)
  refine stK (alloc_new _ _) (posL q) rfl szPos (posL_len _) (one_pos _) (by rw [hz69]; omega) (fun w4 u4 => ?_)
  have hQ : w4.heap[w3.heap.size]? = some (.cells (posA q) 24 (0, 0)) := by
   rw [u4.at_, over_all _ _ (by rw [posL_len, hz69])]; rfl
  have c34 : Cl w3 w4 := u4.cl (Cl.alloc _ _) (Nat.le_refl _)
  clear u4
  have hLegal : ∀ w, Calls G.P 26 #[posV q, mvV m] w (Ret (.bool (Ch.isLegal q m)) w) := fun w => Is_c q hIq hnm.nums m hmr w
  refine zR ?_
  refine zK 7 ?_
  refine zR ?_
  refine loadQ _ (fun w hw => ldPos (hw.blk hQ)) (zR ?_)
  refine zC ?_
  refine zR ?_
  refine loadQ (mvV m) (fun w hw => hld w (hcl.trans (c34.trans hw))) (zR ?_)
  refine callQ (.bool (Ch.isLegal q m)) (fun _ _ h => h.trans) (fun w _ => hLegal w) (zR ?_)
  intro w5 c5
  have c35 := c34.trans c5
  have hQ5 := c5.blk hQ
  have hro5 := hro.step c35
  have hrl5 := hrl.step c35
  have hcl5 := hcl.trans c35
  generalize hlb : Ch.isLegal q m = lb at *
  refine zR ?_
  cases lb
  ·refine zR ?_
   refine ⟨_, rfl, ?_, hcl5⟩
   rw [hst]
   simp only [Bool.false_eq_true, if_false, List.append_nil]
   exact hro5
  ·have hmem : m ∈ Ch.legal q := of_decide_eq_true hlb
   have hmo := mvOk_of hIq hmem
   have hI2 := Ch.Inv.made hIq hmem
   have hN2 := hNq.made hIq m
   have hMade : ∀ w, Calls G.P 39 #[posV q, mvV m] w (Ret (posV (Ch.made q m)) w) := fun w => Made_c q m hIq.pc hmo hIq.turn hIq.c0 hIq.c1 hIq.h0 hnm.nums.1 (by have := hIq.f1; omega) hnm.nums.2 w
   have hStep := fun me ou w => StepOf_c q hIq hnm m hmem me ou w
   have hrR : PosR (Ch.made q m) := posR_of hI2 (hN2.nm zo).nums
   simp only [if_true] at hst
   have hL2 : ∀ x ∈ L ++ [Ch.made q m], PosR x := fun x hx => by
    rcases List.mem_append.1 hx with hx | hx
    ·exact hLr x hx
    ·rw [List.mem_singleton.1 hx]; exact hrR
   have hL2n : (L ++ [Ch.made q m]).length = i + 2 := by rw [List.length_append, hLl]; rfl
   have hL2q : (L ++ [Ch.made q m]).getLast? = some (Ch.made q m) := by simp
   generalize Ch.made q m = q2 at *
   refine zG ?_
   refine joinK (σ := Value) [8, 43, 44, 45, 46, 47, 48, 49, 50, 51] 52 (fun v => [(8, v)]) (fun v w' => Row 24 69 posL w.heap.size w' v (L ++ [q2]) ∧ Row 39 81 stL w.heap.size w' (.slice ao O.length co) O ∧ Apart (.slice ao O.length co) v ∧ w'.heap[w3.heap.size]? = some (.cells (posA q) 24 (0, 0)) ∧ Cl w w') zk ?_ (fun v7 j7 w7 hh7 => ?_)
   ·refine zR ?_
    refine DrawK.mk2 [0, 2, 3, 4] (.cons 1 (.cons 5 (.cons 6 (.cons 7 (.cons 8 (.cons 9 .done .nil) .nil) .nil) .nil) .nil) (.cons 5 (.cons 1 (.cons 6 (.cons 7 (.cons 8 (.cons 9 .done .nil) .nil) .nil) .nil) .nil) .nil)) zk (zR ?_)
    refine zC ?_
    refine zR ?_
    have cd : Cl w5 w5.drew := Cl.drew (Cl.refl _)
    refine And.intro ?_ (And.intro ?_ trivial)
    ·refine zR ?_
     refine loadK _ (ldPos (cd.blk hQ5)) (zE ?_)
     refine loadK (mvV m) (hld _ (hcl5.trans cd)) (zE ?_)
     refine callR (hMade _) fun w6 c6 => ?_
     have hro6 := hro5.step (cd.trans c6)
     have hrl6 := hrl5.step (cd.trans c6)
     have hcl6 := hcl5.trans (cd.trans c6)
     have hQ6 := (cd.trans c6).blk hQ5
     refine zE ?_
     refine gen_bs elPos [posV q2] (by rw [Array.toList_map]; rfl) (by simp [posV, Value.cells, posA_size]) rfl zd zd (zE ?_)
     refine gen_push elPos q2 rfl hrl6 rfl rfl (by simp [posV, Value.cells, posA]) encPos_len one_pos zo zd hcl6.size ?_
     intro v7 w7 hrl7 hg7
     have hcl7 := hg7.cl w rfl hcl6
     obtain ⟨hro7, hap7⟩ := hro6.keepG hg7 hap
     have hQ7 : w7.heap[w3.heap.size]? = some (.cells (posA q) 24 (0, 0)) := hg7.keep _ _ hQ6 (by
      intro e; injection e with e
      have h1 := (hrl.lt).2
      have : gl = w3.heap.size := e
      omega)
     obtain ⟨al7, cl7, rfl, hal7⟩ := hrl7.form
     refine zE ?_
     exact ⟨_, ⟨rfl, trivial⟩, hrl7, hro7, hap7, hQ7, hcl7⟩
    ·refine zR ?_
     refine loadK (mvV m) (hld _ (hcl5.trans cd)) (zE ?_)
     refine loadK _ (ldPos (cd.blk hQ5)) (zE ?_)
     refine callR (hMade _) fun w6 c6 => ?_
     have hro6 := hro5.step (cd.trans c6)
     have hrl6 := hrl5.step (cd.trans c6)
     have hcl6 := hcl5.trans (cd.trans c6)
     have hQ6 := (cd.trans c6).blk hQ5
     refine zE ?_
     refine gen_bs elPos [posV q2] (by rw [Array.toList_map]; rfl) (by simp [posV, Value.cells, posA_size]) rfl zd zd (zE ?_)
     refine gen_push elPos q2 rfl hrl6 rfl rfl (by simp [posV, Value.cells, posA]) encPos_len one_pos zo zd hcl6.size ?_
     intro v7 w7 hrl7 hg7
     have hcl7 := hg7.cl w rfl hcl6
     obtain ⟨hro7, hap7⟩ := hro6.keepG hg7 hap
     have hQ7 : w7.heap[w3.heap.size]? = some (.cells (posA q) 24 (0, 0)) := hg7.keep _ _ hQ6 (by
      intro e; injection e with e
      have h1 := (hrl.lt).2
      have : gl = w3.heap.size := e
      omega)
     obtain ⟨al7, cl7, rfl, hal7⟩ := hrl7.form
     refine zE ?_
     exact ⟨_, ⟨rfl, trivial⟩, hrl7, hro7, hap7, hQ7, hcl7⟩
   obtain ⟨hrl7, hro7, hap7, hQ7, hcl7⟩ := hh7
   obtain ⟨al7, cl7, rfl, hal7⟩ := hrl7.form
   obtain ⟨gl7, rfl⟩ := hal7 zo
   have hEnd := Ending_c (L ++ [q2]) q2 hL2 hL2q zo hI2 (hN2.nm zo).nums me ou w7 hrl7
   generalize Ch.ending (L ++ [q2]) q2 (me, ou) = R at *
   obtain ⟨me2, ou2⟩ := R
   refine zR ?_
   refine callR hEnd fun w8 c8 => ?_
   have hro8 := hro7.step c8
   have hrl8 := hrl7.step c8
   have hcl8 := hcl7.trans c8
   have hQ8 := c8.blk hQ7
   have hStep := fun w => hStep me2 ou2 w
   generalize hSS : Ch.stepOf q m (me2, ou2) = S at *
   refine zR ?_
   refine DrawK.mk2 [0, 2, 3, 4, 6, 7] (.cons 1 (.cons 5 (.cons 8 (.cons 9 (.cons 10 (.cons 11 .done .nil) .nil) .nil) .nil) .nil) (.cons 5 (.cons 1 (.cons 8 (.cons 9 (.cons 10 (.cons 11 .done .nil) .nil) .nil) .nil) .nil) .nil)) zk (zR ?_)
   refine zC ?_
   refine zR ?_
   have cd : Cl w8 w8.drew := Cl.drew (Cl.refl _)
   refine And.intro ?_ (And.intro ?_ trivial)
   ·refine zR ?_
    refine loadK _ (ldPos (cd.blk hQ8)) (zE ?_)
    refine loadK (mvV m) (hld _ (hcl8.trans cd)) (zE ?_)
    refine callR (hStep _) fun w9 c9 => ?_
    have hro9 := hro8.step (cd.trans c9)
    have hrl9 := hrl8.step (cd.trans c9)
    have hcl9 := hcl8.trans (cd.trans c9)
    refine zE ?_
    refine gen_bs elSt [stV S] (by rw [Array.toList_map]; rfl) (by simp [stV, Value.cells, stL_len]) rfl zd zd (zE ?_)
    refine gen_push elSt S rfl hro9 rfl rfl (by simp [stV, Value.cells]) stL_len one_st zo zd hcl9.size ?_
    intro v10 w10 hro10 hg10
    have hcl10 := hg10.cl w rfl hcl9
    obtain ⟨hrl10, hap10⟩ := hrl9.keepG hg10 hap7.symm
    obtain ⟨ao10, co10, rfl, hao10⟩ := hro10.form
    refine zE ?_
    exact ⟨(i + 1, O ++ [S], L ++ [q2], q2, (me2, ou2), _, _), ⟨rfl, rfl, rfl, rfl, int_eq ni, trivial⟩,
     ⟨by simp; omega, by rw [hst]; simp, by simp [hOl], by simp [hLl], hL2q, hL2, hI2, hN2, hro10, hrl10, hap10.symm, hcl10⟩, by simp; omega⟩
   ·refine zR ?_
    refine loadK (mvV m) (hld _ (hcl8.trans cd)) (zE ?_)
    refine loadK _ (ldPos (cd.blk hQ8)) (zE ?_)
    refine callR (hStep _) fun w9 c9 => ?_
    have hro9 := hro8.step (cd.trans c9)
    have hrl9 := hrl8.step (cd.trans c9)
    have hcl9 := hcl8.trans (cd.trans c9)
    refine zE ?_
    refine gen_bs elSt [stV S] (by rw [Array.toList_map]; rfl) (by simp [stV, Value.cells, stL_len]) rfl zd zd (zE ?_)
    refine gen_push elSt S rfl hro9 rfl rfl (by simp [stV, Value.cells]) stL_len one_st zo zd hcl9.size ?_
    intro v10 w10 hro10 hg10
    have hcl10 := hg10.cl w rfl hcl9
    obtain ⟨hrl10, hap10⟩ := hrl9.keepG hg10 hap7.symm
    obtain ⟨ao10, co10, rfl, hao10⟩ := hro10.form
    refine zE ?_
    exact ⟨(i + 1, O ++ [S], L ++ [q2], q2, (me2, ou2), _, _), ⟨rfl, rfl, rfl, rfl, int_eq ni, trivial⟩,
     ⟨by simp; omega, by rw [hst]; simp, by simp [hOl], by simp [hLl], hL2q, hL2, hI2, hN2, hro10, hrl10, hap10.symm, hcl10⟩, by simp; omega⟩
 ·have hil : i = ms.length := by omega
  subst hil
  rw [List.drop_length] at hst
  refine zR ?_
  refine ⟨_, rfl, ?_, hcl⟩
  rw [hst]
  show Row _ _ _ _ _ _ (O ++ [])
  rw [List.append_nil]
  exact hro
def firstL : List Int := [3, 5, 4, 2, 1, 4, 5, 3]
def fstN (i : Nat) : Int := firstL.getD i 0
def sqS (f i : Nat) : Int := if i % 8 < f then (if i / 8 = 0 then fstN (i % 8) else if i / 8 = 1 then 6 else if i / 8 = 6 then 12 else if i / 8 = 7 then fstN (i % 8) + 6 else 0) else 0
def startTo (f : Nat) : Pos := ⟨(List.range 64).map (sqS f), by simp, 0, 15, -1, 0, 1⟩
def startP : Pos := startTo 8
theorem start_put : ∀ f < 8, (Ch.put (Ch.put (Ch.put (Ch.put (startTo f) f (fstN f)) (8 + f) 6) (48 + f) 12) (56 + f) (fstN f + 6)).board = (startTo (f + 1)).board := by decide
theorem pos_ext {p q : Pos} (h : p.board = q.board) (h1 : p.turn = q.turn) (h2 : p.castle = q.castle) (h3 : p.ep = q.ep) (h4 : p.half = q.half) (h5 : p.full = q.full) : p = q := by
 cases p; cases q; simp_all
theorem start_step (f : Nat) (h : f < 8) : Ch.put (Ch.put (Ch.put (Ch.put (startTo f) f (fstN f)) (8 + f) 6) (48 + f) 12) (56 + f) (fstN f + 6) = startTo (f + 1) :=
 pos_ext (start_put f h) rfl rfl rfl rfl rfl
theorem fstN_b : ∀ f < 8, 0 ≤ fstN f ∧ fstN f ≤ 6 := by decide
def firstA : Array Value := (firstL.map (Value.int .i64)).toArray
theorem ldFst {w : World} {b u : Nat} {fz : Nat × Nat} (hb : w.heap[b]? = some (.cells firstA u fz)) (i : Nat) (h : i < 8) {o : Nat} (ho : o = i) : LoadsTo G.P w 3 ⟨b, o, none⟩ (.int .i64 (fstN i)) := by
 rw [ho]
 refine ldB hb ?_ rfl
 have : i = 0 ∨ i = 1 ∨ i = 2 ∨ i = 3 ∨ i = 4 ∨ i = 5 ∨ i = 6 ∨ i = 7 := by omega
 rcases this with rfl | rfl | rfl | rfl | rfl | rfl | rfl | rfl <;> rfl
theorem zFst : ∃ z, (G.P.info? 111).bind (·.zero) = some z ∧ z.cells.size = 8 := zero_of zk
theorem szFst : (G.P.info? 111).map (·.size) = some 8 := by kernel_rfl
theorem at_row (f r : Int) (h0 : 0 ≤ f) (h1 : f ≤ 7) (h2 : 0 ≤ r) (h3 : r ≤ 7) : Ch.at' f r = 8 * r + f := by unfold Ch.at'; rw [if_neg zo]
theorem Start_c (w : World) : Calls G.P 35 #[] w (Ret (posV startP) w) := by
 obtain ⟨zp, hzp, hz69⟩ := zPos
 obtain ⟨zf, hzf, hz8⟩ := zFst
 refine zN Tryz.func35 ?_
 refine zG ?_
 refine gen_alloc zp hzp ?_
 have hB0 : (w.alloc (.cells zp.cells 24)).heap[w.heap.size]? = some (.cells zp.cells 24 (0, 0)) := alloc_new _ _
 have c1 : Cl w (w.alloc (.cells zp.cells 24)) := Cl.alloc _ _
 generalize w.alloc (.cells zp.cells 24) = w1 at *
 refine zR ?_
 refine gen_build (posA (startTo 0)) zk (zR ?_)
 refine gen_alloc zp hzp (zR ?_)
 refine stK (alloc_new _ _) (posL (startTo 0)) rfl szPos (posL_len _) (one_pos _) (by rw [hz69]; omega) (fun w2 u2 => ?_)
 have hQ2 : w2.heap[w1.heap.size]? = some (.cells (posA (startTo 0)) 24 (0, 0)) := by
  rw [u2.at_, over_all _ _ (by rw [posL_len, hz69])]; rfl
 have c2 : Cl w1 w2 := u2.cl (Cl.alloc _ _) (Nat.le_refl _)
 clear u2
 have hB2 := c2.blk hB0
 refine zR ?_
 refine gen_build firstA zk (zR ?_)
 refine gen_alloc zf hzf (zR ?_)
 refine stK (alloc_new _ _) (firstL.map (Value.int .i64)) rfl szFst rfl zd (by rw [hz8]; decide) (fun w3 u3 => ?_)
 have hF3 : w3.heap[w2.heap.size]? = some (.cells firstA 111 (0, 0)) := by
  rw [u3.at_, over_all _ _ (by rw [hz8]; rfl)]; rfl
 have c3 : Cl w2 w3 := u3.cl (Cl.alloc _ _) (Nat.le_refl _)
 clear u3
 have hQ3 := c3.blk hQ2
 have hb1 : w.heap.size < w1.heap.size := (Array.getElem?_eq_some_iff.1 hB0).1
 have hb2 : w1.heap.size < w2.heap.size := (Array.getElem?_eq_some_iff.1 hQ2).1
 have hB3 := c3.blk hB2
 have c13 := c1.trans (c2.trans c3)
 refine zR ?_
 refine loopK (σ := Nat) [3] 4 (fun a => [(3, .int .i64 a)]) (fun a w' => a ≤ 8 ∧ w'.heap[w1.heap.size]? = some (.cells (posA (startTo a)) 24 (0, 0)) ∧ w'.heap[w2.heap.size]? = some (.cells firstA 111 (0, 0)) ∧ w'.heap[w.heap.size]? = some (.cells zp.cells 24 (0, 0)) ∧ Cl w w') (fun a => 8 - a) zk 0
  ⟨zo, hQ3, hF3, hB3, c13⟩ ⟨rfl, trivial⟩ ?_
 clear hQ3 hF3 hB3 c13 hQ2 hB2 hB0
 rintro f j w4 ⟨hf, hQ, hF, hB, hcl⟩
 refine zR ?_
 apply E.dsplit<;>intro h
 ·have hf8 : f < 8 := by omega
  clear h
  have nf : IntKind.i64.wrap ((f : Int) + 1) = ((f + 1 : Nat) : Int) := by rw [w64_in zo zo]; push_cast; omega
  have hfb := fstN_b f hf8
  have hss := start_step f hf8
  refine zG ?_
  refine Nx.mk ?_
  refine E.cK_seq ?_
  refine E.cK_block ?_
  refine (joinK (σ := Unit) [10, 11, 12, 13, 14, 15, 16, 17] 18 (fun _ => []) (fun _ w' => w'.heap[w1.heap.size]? = some (.cells (posA (Ch.put (startTo f) f (fstN f))) 24 (0, 0)) ∧ w'.heap[w2.heap.size]? = some (.cells firstA 111 (0, 0)) ∧ w'.heap[w.heap.size]? = some (.cells zp.cells 24 (0, 0)) ∧ Cl w w') zk ?_ (fun _ j5 w5 h5 => ?_)).go
  ·refine zR ?_
   refine DrawK.mk2 [0, 2, 3, 6] (.cons 1 (.cons 4 (.cons 5 (.cons 7 (.cons 8 .done .nil) .nil) .nil) .nil) (.cons 4 (.cons 1 (.cons 5 (.cons 7 (.cons 8 .done .nil) .nil) .nil) .nil) .nil)) zk (zR ?_)
   refine zC ?_
   refine zR ?_
   have cd : Cl w4 w4.drew := Cl.drew (Cl.refl _)
   refine And.intro ?_ (And.intro ?_ trivial)
   ·refine zR ?_
    refine callS (At_c f 0 _ zo zo zo zo) ?_
    rw [at_row f 0 zo zo zo zo]
    refine zE ?_
    refine loadK _ (ldFst (cd.blk hF) f hf8 (by simp [E.offZ_eq])) (zE ?_)
    refine callS (Of_c (fstN f) 0 _ zo zo zo zo) (zE ?_)
    refine zC ?_
    refine zE ?_
    refine stK (cd.blk hQ) [.int .i64 (fstN f + 6 * 0)] rfl szInt rfl (by simp [Value.oneCell']) (by rw [posA_size, E.offZ_eq]; show 0 + _ * 1 + 1 ≤ 69; omega) (fun w9 u9 => zR ?_)
    refine ⟨(), trivial, ?_, by rw [u9.else_ _ zo]; exact cd.blk hF, by rw [u9.else_ _ zo]; exact cd.blk hB, u9.cl (hcl.trans cd) zo⟩
    rw [u9.at_, E.offZ_eq, show (bif Nat.beq 0 0 then 0 else 0 + 0 : Nat) = 0 from rfl]
    simp only [Nat.zero_add, Nat.mul_one]
    rw [over_sq _ _ _ zo zo]
    rw [show 8 * (0 : Int) + (f : Int) = (f : Int) by omega, show fstN f + 6 * (0 : Int) = fstN f by omega]
   ·refine zR ?_
    refine loadK _ (ldFst (cd.blk hF) f hf8 (by simp [E.offZ_eq])) (zE ?_)
    refine callS (At_c f 0 _ zo zo zo zo) ?_
    rw [at_row f 0 zo zo zo zo]
    refine zE ?_
    refine callS (Of_c (fstN f) 0 _ zo zo zo zo) (zE ?_)
    refine zC ?_
    refine zE ?_
    refine stK (cd.blk hQ) [.int .i64 (fstN f + 6 * 0)] rfl szInt rfl (by simp [Value.oneCell']) (by rw [posA_size, E.offZ_eq]; show 0 + _ * 1 + 1 ≤ 69; omega) (fun w9 u9 => zR ?_)
    refine ⟨(), trivial, ?_, by rw [u9.else_ _ zo]; exact cd.blk hF, by rw [u9.else_ _ zo]; exact cd.blk hB, u9.cl (hcl.trans cd) zo⟩
    rw [u9.at_, E.offZ_eq, show (bif Nat.beq 0 0 then 0 else 0 + 0 : Nat) = 0 from rfl]
    simp only [Nat.zero_add, Nat.mul_one]
    rw [over_sq _ _ _ zo zo]
    rw [show 8 * (0 : Int) + (f : Int) = (f : Int) by omega, show fstN f + 6 * (0 : Int) = fstN f by omega]
  clear hQ hF hB hcl
  obtain ⟨hQ, hF, hB, hcl⟩ := h5
  refine joinK (σ := Unit) [18, 19, 20, 21, 22] 23 (fun _ => []) (fun _ w' => w'.heap[w1.heap.size]? = some (.cells (posA (Ch.put (Ch.put (startTo f) f (fstN f)) (8 + f) 6)) 24 (0, 0)) ∧ w'.heap[w2.heap.size]? = some (.cells firstA 111 (0, 0)) ∧ w'.heap[w.heap.size]? = some (.cells zp.cells 24 (0, 0)) ∧ Cl w w') zk ?_ (fun _ j6 w6 h6 => ?_)
  ·skip
   refine zR ?_
   refine callS (At_c f 1 _ zo zo zo zo) ?_
   rw [at_row f 1 zo zo zo zo]
   refine zR ?_
   refine callS (Of_c 6 0 _ zo zo zo zo) (zR ?_)
   refine zC ?_
   refine zR ?_
   refine stK hQ [.int .i64 (6 + 6 * 0)] rfl szInt rfl (by simp [Value.oneCell']) (by rw [posA_size, E.offZ_eq]; show 0 + _ * 1 + 1 ≤ 69; omega) (fun w9 u9 => zR ?_)
   refine ⟨(), trivial, ?_, by rw [u9.else_ _ zo]; exact hF, by rw [u9.else_ _ zo]; exact hB, u9.cl hcl zo⟩
   rw [u9.at_, E.offZ_eq, show (bif Nat.beq 0 0 then 0 else 0 + 0 : Nat) = 0 from rfl]
   simp only [Nat.zero_add, Nat.mul_one]
   rw [over_sq _ _ _ zo zo]
   rw [show 8 * (1 : Int) + (f : Int) = 8 + (f : Int) by omega, show (6 : Int) + 6 * 0 = 6 by omega]
  clear hQ hF hB hcl
  obtain ⟨hQ, hF, hB, hcl⟩ := h6
  refine joinK (σ := Unit) [23, 24, 25, 26, 27] 28 (fun _ => []) (fun _ w' => w'.heap[w1.heap.size]? = some (.cells (posA (Ch.put (Ch.put (Ch.put (startTo f) f (fstN f)) (8 + f) 6) (48 + f) 12)) 24 (0, 0)) ∧ w'.heap[w2.heap.size]? = some (.cells firstA 111 (0, 0)) ∧ w'.heap[w.heap.size]? = some (.cells zp.cells 24 (0, 0)) ∧ Cl w w') zk ?_ (fun _ j7 w7 h7 => ?_)
  ·skip
   refine zR ?_
   refine callS (At_c f 6 _ zo zo zo zo) ?_
   rw [at_row f 6 zo zo zo zo]
   refine zR ?_
   refine callS (Of_c 6 1 _ zo zo zo zo) (zR ?_)
   refine zC ?_
   refine zR ?_
   refine stK hQ [.int .i64 (6 + 6 * 1)] rfl szInt rfl (by simp [Value.oneCell']) (by rw [posA_size, E.offZ_eq]; show 0 + _ * 1 + 1 ≤ 69; omega) (fun w9 u9 => zR ?_)
   refine ⟨(), trivial, ?_, by rw [u9.else_ _ zo]; exact hF, by rw [u9.else_ _ zo]; exact hB, u9.cl hcl zo⟩
   rw [u9.at_, E.offZ_eq, show (bif Nat.beq 0 0 then 0 else 0 + 0 : Nat) = 0 from rfl]
   simp only [Nat.zero_add, Nat.mul_one]
   rw [over_sq _ _ _ zo zo]
   rw [show 8 * (6 : Int) + (f : Int) = 48 + (f : Int) by omega, show (6 : Int) + 6 * 1 = 12 by omega]
  clear hQ hF hB hcl
  obtain ⟨hQ, hF, hB, hcl⟩ := h7
  refine zR ?_
  refine DrawK.mk2 [0, 2, 3, 6] (.cons 1 (.cons 4 (.cons 5 (.cons 7 (.cons 8 .done .nil) .nil) .nil) .nil) (.cons 4 (.cons 1 (.cons 5 (.cons 7 (.cons 8 .done .nil) .nil) .nil) .nil) .nil)) zk (zR ?_)
  refine zC ?_
  refine zR ?_
  have cd : Cl w7 w7.drew := Cl.drew (Cl.refl _)
  refine And.intro ?_ (And.intro ?_ trivial)
  ·refine zR ?_
   refine callS (At_c f 7 _ zo zo zo zo) ?_
   rw [at_row f 7 zo zo zo zo]
   refine zE ?_
   refine loadK _ (ldFst (cd.blk hF) f hf8 (by simp [E.offZ_eq])) (zE ?_)
   refine callS (Of_c (fstN f) 1 _ zo zo zo zo) (zE ?_)
   refine zC ?_
   refine zE ?_
   refine stK (cd.blk hQ) [.int .i64 (fstN f + 6 * 1)] rfl szInt rfl (by simp [Value.oneCell']) (by rw [posA_size, E.offZ_eq]; show 0 + _ * 1 + 1 ≤ 69; omega) (fun w9 u9 => zR ?_)
   refine ⟨f + 1, ⟨int_eq nf, trivial⟩, ⟨zo, ?_, by rw [u9.else_ _ zo]; exact cd.blk hF, by rw [u9.else_ _ zo]; exact cd.blk hB, u9.cl (hcl.trans cd) zo⟩, zo⟩
   rw [u9.at_, E.offZ_eq, show (bif Nat.beq 0 0 then 0 else 0 + 0 : Nat) = 0 from rfl]
   simp only [Nat.zero_add, Nat.mul_one]
   rw [over_sq _ _ _ zo zo]
   rw [show 8 * (7 : Int) + (f : Int) = 56 + (f : Int) by omega, show fstN f + 6 * (1 : Int) = fstN f + 6 by omega, hss]
  ·refine zR ?_
   refine loadK _ (ldFst (cd.blk hF) f hf8 (by simp [E.offZ_eq])) (zE ?_)
   refine callS (At_c f 7 _ zo zo zo zo) ?_
   rw [at_row f 7 zo zo zo zo]
   refine zE ?_
   refine callS (Of_c (fstN f) 1 _ zo zo zo zo) (zE ?_)
   refine zC ?_
   refine zE ?_
   refine stK (cd.blk hQ) [.int .i64 (fstN f + 6 * 1)] rfl szInt rfl (by simp [Value.oneCell']) (by rw [posA_size, E.offZ_eq]; show 0 + _ * 1 + 1 ≤ 69; omega) (fun w9 u9 => zR ?_)
   refine ⟨f + 1, ⟨int_eq nf, trivial⟩, ⟨zo, ?_, by rw [u9.else_ _ zo]; exact cd.blk hF, by rw [u9.else_ _ zo]; exact cd.blk hB, u9.cl (hcl.trans cd) zo⟩, zo⟩
   rw [u9.at_, E.offZ_eq, show (bif Nat.beq 0 0 then 0 else 0 + 0 : Nat) = 0 from rfl]
   simp only [Nat.zero_add, Nat.mul_one]
   rw [over_sq _ _ _ zo zo]
   rw [show 8 * (7 : Int) + (f : Int) = 56 + (f : Int) by omega, show fstN f + 6 * (1 : Int) = fstN f + 6 by omega, hss]
 ·have hf8 : f = 8 := by omega
  subst hf8
  refine zR ?_
  refine loadK _ (ldPos hQ) (zR ?_)
  refine stK hB (posL startP) rfl szPos (posL_len _) (one_pos _) (by rw [hz69]; omega) (fun w9 u9 => ?_)
  have hR : w9.heap[w.heap.size]? = some (.cells (posA startP) 24 (0, 0)) := by
   rw [u9.at_, over_all _ _ (by rw [posL_len, hz69])]; rfl
  refine zR ?_
  refine loadK _ (ldPos hR) (zR ?_)
  exact ⟨rfl, u9.cl hcl (Nat.le_refl _)⟩
structure StR (s : Ch.Step) : Prop where
 mv : MvR s.mv
 tags : I64 s.tags
 san : s.san.length ≤ 1000
 lan : s.lan.length ≤ 1000
 uci : s.uci.length ≤ 1000
 fen : s.fen.length ≤ 1000
 xfen : s.xfen.length ≤ 1000
 pos : PosR s.pos
 outcome : s.outcome.length ≤ 1000
 method : I64 s.method
 status : I64 s.status
def stKs : List (Option IntKind) := [some .i64, some .i64, some .i64, some .i64, none, none, none, none, none] ++ (List.replicate 69 (some .i64) ++ [none, some .i64, some .i64])
theorem okL_append : ∀ {a b : List (Option IntKind)} {x y : List Value}, okL a x = true → okL b y = true → okL (a ++ b) (x ++ y) = true := by
 intro a
 induction a with
 | nil => intro b x y h1 h2; cases x with
  | nil => simpa using h2
  | cons => simp [okL] at h1
 | cons k a ih => intro b x y h1 h2; cases x with
  | nil => simp [okL] at h1
  | cons c x =>
   simp only [okL, Bool.and_eq_true] at h1
   simp only [List.cons_append, okL, Bool.and_eq_true]
   exact ⟨h1.1, ih h1.2 h2⟩
theorem okInt {n : Int} (h : I64 n) : okV (some .i64) (.int .i64 n) = true := by simp [okV, wf64 h]
theorem okTx {t : Tx} (h : t.length ≤ 1000) : okV none (txV t) = true := by
 have : (tx t).size ≤ maxLen := by rw [tx_size]; unfold maxLen; omega
 simp [txV, okV, this]
theorem okPos {p : Pos} (h : PosR p) : okL (List.replicate 69 (some .i64)) (posL p) = true := by
 have h1 := okBd p.board h.sq
 rw [p.len] at h1
 have h2 : okL (List.replicate 5 (some .i64)) [.int .i64 p.turn, .int .i64 p.castle, .int .i64 p.ep, .int .i64 p.half, .int .i64 p.full] = true := by
  simp only [List.replicate, okL, okInt h.turn, okInt h.castle, okInt h.ep, okInt h.half, okInt h.full, Bool.and_self]
 exact okL_append h1 h2
theorem okSt {s : Ch.Step} (h : StR s) : okL stKs (stL s) = true := by
 refine okL_append ?_ (okL_append (okPos h.pos) ?_)
 ·simp only [okL, okInt h.mv.1, okInt h.mv.2.1, okInt h.mv.2.2, okInt h.tags, okTx h.san, okTx h.lan, okTx h.uci, okTx h.fen, okTx h.xfen, Bool.and_self]
 ·simp only [okL, okTx h.outcome, okInt h.method, okInt h.status, Bool.and_self]
theorem gdSt : G.P.eqGuardType G.P.depth 39 = false := by kernel_rfl
theorem st_formed (s : Ch.Step) : (Value.agg (stL s).toArray).formed G.P 39 = true := by
 have h : (stL s).toArray.size = 81 := by simp [stL_len]
 obtain ⟨f, hu, _⟩ := okD_struct (G.tab 39 _ (show tyOf G.T 39 = some (.struct 81 _) from rfl))
 unfold Value.formed
 simp [h, Program.cellsOf, szSt, hu]
theorem eqSt {s : Ch.Step} (h : StR s) (w : World) : (Op.equalIn 10000 39 (.agg (stL s).toArray) (.agg (stL s).toArray)).run G.P w = .ok true w :=
 run_eqA (m := 4) (D := 4) (ks := stKs) zk zd gdSt zk (st_formed s) (st_formed s) (okSt h) (okSt h) true (by simp) w
theorem genQ_neA {C : World → Prop} {t : Nat} {xs ys : Array Value} {b : Bool} (hg : G.P.eqGuardType G.P.depth t = false) (hr : ∀ w, (Op.equalIn 10000 t (.agg xs) (.agg ys)).run G.P w = .ok b w) {x y : Operand} {dst : Option Nat} {yt ty : Nat} {pos : String} {af : Array Edge} {gd : Option (Nat × Bool)} {env : Env} {K : Value → Prop} (hx : ev env x = .agg xs) (hy : ev env y = .agg ys)
  (h : K (.bool (!b))) : GenQ G.P C { dst, op := .binOp .neq t x y yt, type := ty, pos, after := af, guard := gd } env K := by
 refine ⟨_, fun w _ => ?_, h⟩
 show (do pure (Next.value (← (do eqGuard .neq _ x y (ev env x) (ev env y); binOp .neq _ (ev env x) (ev env y)))) : Sem Next).run G.P w = _
 have e1 : (eqGuard .neq t x y (.agg xs) (.agg ys)).run G.P w = .ok () w := by simp [eqGuard, hg]
 rw [hx, hy, Sem.run_bind, Sem.run_bind, e1, Result.andThen_ok, run_neq_struct, hr]; rfl
theorem SameStory_c (l : List Ch.Step) (hl : ∀ s ∈ l, StR s) (hn : l.length ≤ 100000) {b0 b1 : Nat} {u v : Value} (w : World) (hu : Row 39 81 stL b0 w u l) (hv : Row 39 81 stL b1 w v l) : Calls G.P 16 #[u, v] w (Ret (.bool true) w) := by
 obtain ⟨au, cu, rfl, hau⟩ := hu.form
 obtain ⟨av, cv, rfl, hav⟩ := hv.form
 refine zN Tryz.func16 ?_
 refine zG ?_
 refine zR ?_
 apply E.ndsplit<;>intro h
 ·omega
 refine zR ?_
 refine loopK (σ := Nat) [4, 5] 6 (fun a => [(5, .int .i64 a)]) (fun a w' => a ≤ l.length ∧ Cl w w') (fun a => l.length - a) zk 0
  ⟨zo, Cl.refl _⟩ ⟨rfl, trivial⟩ ?_
 rintro i j w2 ⟨hi, hcl⟩
 refine zR ?_
 apply E.dsplit<;>intro h
 ·have hil : i < l.length := by omega
  obtain ⟨gu, rfl⟩ := hau zo
  obtain ⟨gv, rfl⟩ := hav zo
  have ni : IntKind.i64.wrap ((i : Int) + 1) = ((i + 1 : Nat) : Int) := by rw [w64_in zo zo]; push_cast; omega
  have hs := hl _ (List.getElem_mem hil)
  have l1 : ∀ w', Cl w w' → LoadsTo G.P w' 39 ⟨gu, E.offZ 0 ((i : Int)).toNat 81, none⟩ (stV l[i]) := fun w' h' => ldRowA (hu.step h') stL_len i hil rfl (by simp [E.offZ_eq]) rfl
  have l2 : ∀ w', Cl w w' → LoadsTo G.P w' 39 ⟨gv, E.offZ 0 ((i : Int)).toNat 81, none⟩ (stV l[i]) := fun w' h' => ldRowA (hv.step h') stL_len i hil rfl (by simp [E.offZ_eq]) rfl
  generalize l[i] = s at *
  refine zR ?_
  refine zK 9 ?_
  refine zR ?_
  refine zC ?_
  refine zR ?_
  refine loadQ (stV s) (fun w hw => l1 w (hcl.trans hw)) (zR ?_)
  refine zC ?_
  refine zR ?_
  refine loadQ (stV s) (fun w hw => l2 w (hcl.trans hw)) (zR ?_)
  refine genQ_neA gdSt (eqSt hs) rfl rfl (zR ?_)
  intro w3 c3
  refine zR ?_
  exact ⟨i + 1, ⟨int_eq ni, trivial⟩, ⟨zo, hcl.trans c3⟩, zo⟩
 ·refine zR ?_
  exact ⟨rfl, hcl⟩
theorem stFrom_c (p : Pos) (usual : Bool) (w : World) : Calls G.P 11 #[posV p, .bool usual] w (Ret (posV (if usual then startP else p)) w) := by
 obtain ⟨zp, hzp, hz69⟩ := zPos
 refine zN Tryz.func11 ?_
 refine zG ?_
 generalize hW : w.alloc (.cells (posA p) 24) = W0
 have hP0 : W0.heap[w.heap.size]? = some (.cells (posA p) 24 (0, 0)) := by rw [← hW]; exact alloc_new _ _
 have hE : Cl w W0 := by rw [← hW]; exact Cl.alloc _ _
 clear hW
 refine gen_alloc zp hzp ?_
 have hB0 : (W0.alloc (.cells zp.cells 24)).heap[W0.heap.size]? = some (.cells zp.cells 24 (0, 0)) := alloc_new _ _
 have c1 : Cl W0 (W0.alloc (.cells zp.cells 24)) := Cl.alloc _ _
 have hP1 := c1.blk hP0
 generalize W0.alloc (.cells zp.cells 24) = w1 at *
 cases usual
 ·refine zR ?_
  refine loadK _ (ldPos hP1) (zR ?_)
  refine stK hB0 (posL p) rfl szPos (posL_len _) (one_pos _) (by rw [hz69]; omega) (fun w2 u2 => zR ?_)
  refine loadK _ (ldPos (p := p) (by rw [u2.at_, over_all _ _ (by rw [posL_len, hz69])]; rfl)) (zR ?_)
  exact ⟨rfl, u2.cl (hE.trans c1) hE.size⟩
 ·refine zR ?_
  refine callR (Start_c _) fun w2 c2 => zR ?_
  refine stK (c2.blk hB0) (posL startP) rfl szPos (posL_len _) (one_pos _) (by rw [hz69]; omega) (fun w3 u3 => zR ?_)
  refine loadK _ (ldPos (p := startP) (by rw [u3.at_, over_all _ _ (by rw [posL_len, hz69])]; rfl)) (zR ?_)
  exact ⟨rfl, u3.cl (hE.trans (c1.trans c2)) hE.size⟩
theorem stFen_c (p : Pos) (usual : Bool) (hp : usual = false → Fen p) (w : World) : Calls G.P 15 #[posV p, .bool usual] w (Ret (txV (if usual then [] else Ch.fenT p)) w) := by
 refine zN Tryz.func15 ?_
 refine zG ?_
 generalize hW : w.alloc (.cells (posA p) 24) = W0
 have hP0 : W0.heap[w.heap.size]? = some (.cells (posA p) 24 (0, 0)) := by rw [← hW]; exact alloc_new _ _
 have hE : Cl w W0 := by rw [← hW]; exact Cl.alloc _ _
 clear hW
 cases usual
 ·refine zR ?_
  refine loadK _ (ldPos hP0) (zR ?_)
  refine callR (FenText_c p (hp rfl) _) fun w2 c2 => zR ?_
  exact ⟨rfl, hE.trans c2⟩
 ·refine zR ?_
  exact ⟨rfl, hE⟩
def asked (p : Pos) (ms : List Mv) : Bool := Ch.valid p && decide (p.half ≤ 1000000) && decide (p.full ≤ 1000000) && decide (ms.length ≤ 80) && Ch.quiet p ms
theorem stAsked_c (p : Pos) (ms : List Mv) (hms : ∀ m ∈ ms, MvR m) {v : Value} (w : World) (hrow : MvIn w v ms) : Calls G.P 12 #[posV p, v] w (Ret (.bool (asked p ms)) w) := by
 obtain ⟨al, cl, rfl, hal⟩ := hrow.form
 refine zN Tryz.func12 ?_
 refine zG ?_
 generalize hW : w.alloc (.cells (posA p) 24) = W0
 have hP0 : W0.heap[w.heap.size]? = some (.cells (posA p) 24 (0, 0)) := by rw [← hW]; exact alloc_new _ _
 have hE : Cl w W0 := by rw [← hW]; exact Cl.alloc _ _
 clear hW
 have hA : asked p ms = (Ch.valid p && decide (p.half ≤ 1000000) && decide (p.full ≤ 1000000) && decide (ms.length ≤ 80) && Ch.quiet p ms) := rfl
 have hiff := Ch.valid_iff p
 refine zR ?_
 refine loadK _ (ldPos hP0) (zR ?_)
 refine callR (Valid_c p _) fun w2 c2 => ?_
 have hP2 := c2.blk hP0
 generalize Ch.valid p = b at *
 cases b
 ·refine zR ?_
  exact ⟨ret_bool (by rw [hA]; rfl), hE.trans c2⟩
 have hI := hiff.1 rfl
 refine zR ?_
 refine loadK _ (ldHalf hP2) (zR ?_)
 apply E.dsplit<;>intro h
 ·have h1 := h; clear h
  refine zR ?_
  refine loadK _ (ldFull hP2) (zR ?_)
  apply E.dsplit<;>intro h
  ·have h2 := h; clear h
   refine zR ?_
   apply E.dsplit<;>intro h
   ·have h3 : ms.length ≤ 80 := by omega
    clear h
    refine zR ?_
    refine loadK _ (ldPos hP2) (zR ?_)
    refine callR (Quiet_c p hI ⟨zo, zo⟩ ms hms zo _ (hrow.step (hE.trans c2))) fun w3 c3 => ?_
    generalize Ch.quiet p ms = qb at *
    refine zR ?_
    exact ⟨ret_bool (by rw [hA, decide_eq_true h1, decide_eq_true h2, decide_eq_true h3]; simp), hE.trans (c2.trans c3)⟩
   ·refine zR ?_
    exact ⟨ret_bool (by rw [hA, decide_eq_false (show ¬ ms.length ≤ 80 by omega)]; simp), hE.trans c2⟩
  ·refine zR ?_
   exact ⟨ret_bool (by rw [hA, decide_eq_false h]; simp), hE.trans c2⟩
 ·refine zR ?_
  exact ⟨ret_bool (by rw [hA, decide_eq_false h]; simp), hE.trans c2⟩
end
section
open Go Go.RowKit
open E
open Ch Bb
section gens
variable {w : World} {dst : Option Nat} {ty : Nat} {pos : String} {af : Array Edge} {gd : Option (Nat × Bool)} {env : Env} {K : Value → World → Prop}
theorem gen_callV {fo : Operand} {args : Array Operand} {argTypes : Array Nat} {f : Nat} {cap : Array Value} (vs : Array Value) (hf : ev env fo = .func (.func f) #[] cap) (hfn : G.fn f = true) (ha : (args.map (ev env)).toList ++ cap.toList = vs.toList)
  (h : Calls G.P f vs w (fun r w' => ∃ v, r = .returned v ∧ K v w')) : GenK G.P { dst, op := .call { callee := .value fo, args, argTypes }, type := ty, pos, after := af, guard := gd } env w K := by
 obtain ⟨x, h1, h2, h3⟩ := G.enters f hfn
 have ha : args.map (ev env) ++ cap = vs := Array.toList_inj.1 (by rw [Array.toList_append]; exact ha)
 subst ha
 refine ⟨.inr (.inr ⟨f, (args.map (ev env)) ++ cap, ?_, h⟩)⟩
 simp [execOp, resolve, hf, Deferred.ofValue, invoke, callFunc, h1, h3]
 cases hb : x.body with
 | none => rw [hb] at h2; cases h2
 | some c => simp
theorem gen_mkFunc {f : Nat} {cs : Array Operand} (caps : Array Value) (hc : (cs.map (ev env)).toList = caps.toList) (h : K (.func (.func f) #[] caps) w) : GenK G.P { dst, op := .makeFunc (.func f) #[] cs, type := ty, pos, after := af, guard := gd } env w K := by
 have hc := Array.toList_inj.1 hc
 subst hc
 exact ⟨.inl ⟨.func (.func f) #[] (cs.map (ev env)), w, by simp [execOp, Instr.makeFunc], h⟩⟩
end gens
theorem inv_start : Inv startP := (valid_iff startP).1 (by decide +kernel)
theorem chk_start : inCheck startP = false := by decide +kernel
theorem fen_start : fenT startP = [114, 110, 98, 113, 107, 98, 110, 114, 47, 112, 112, 112, 112, 112, 112, 112, 112, 47, 56, 47, 56, 47, 56, 47, 56, 47, 80, 80, 80, 80, 80, 80, 80, 80, 47, 82, 78, 66, 81, 75, 66, 78, 82, 32, 119, 32, 75, 81, 107, 113, 32, 45, 32, 48, 32, 49] := by decide +kernel
theorem StartPos_c (w : World) (hT : Tabs w) (hS : Spc w) : Calls G.P 133 #[] w (fun r w' => Cl w w' ∧ ∃ P b, r = .returned (.pointer (some ⟨P, 0, none⟩)) ∧ w.heap.size ≤ P ∧ w.heap.size ≤ b ∧ PosM w' P b startP (.slice none 0 0)) := by
 have hd := decode_c inv_start zd zd w hT hS
 rw [fen_start] at hd
 refine zN Tryz.func133 ?_
 refine zR ?_
 refine callK hd ?_
 rintro e w1 ⟨c1, P, b, rfl, sP, sb, hP, hB⟩
 refine ⟨_, rfl, ?_⟩
 refine zR ?_
 exact ⟨c1, P, b, rfl, sP, sb, by rw [chk_start]; exact hP, hB, .inl rfl⟩
def rootNd (P : Nat) : Nd := { pmNd ⟨⟨0, 0, 0⟩, 0⟩ with pos := .pointer (some ⟨P, 0, none⟩) }
def freshGm (P R tb : Nat) : Gm := ⟨P, star, .map (some tb), R, R, .slice none 0 0, 0⟩
set_option maxHeartbeats 1000000 in
theorem FEN1_c {p : Pos} (hI : Inv p) (hle : (macStd p).length ≤ 218) {G0 M P b c P0 tb : Nat} (w : World) (hT : Tabs w) (hb : w.heap[G0]? = some (.cells (gmA (freshGm P0 M tb)) 131 (0, 0))) (hM : w.heap[M]? = some (.cells (ndA (rootNd P0)) 141 (0, 0)))
  (hP : w.heap[P]? = some (.cells (hdA b (hdOf p false) (.slice none 0 0)) 173 (0, 0))) (hB : w.heap[b]? = some (.cells (mbA (mbOf p)) 237 (0, 0))) (hc : w.heap[c]? = some (.cells #[.pointer (some ⟨P, 0, none⟩)] 83 (0, 0))) :
  Calls G.P 136 #[.pointer (some ⟨G0, 0, none⟩), .pointer (some ⟨c, 0, none⟩)] w (fun r w' => r = .returned (.tuple #[]) ∧ ∃ g' z, GameAt w' G0 g' [] z ∧ z.p = p ∧ z.M = M ∧ z.P = P ∧ ((g'.meth : Int), g'.out) = ending [p] p (0, star) ∧ Fr [P, G0, M] w w') := by
 have hGP := ty_ne hb hP zd
 have hMP := ty_ne hM hP zd
 have hbP := ty_ne hB hP zd
 have hcP := ty_ne hc hP zd
 have hcG := ty_ne hc hb zd
 have hcM := ty_ne hc hM zd
 have hGM := ty_ne hb hM zd
 have hbG := ty_ne hB hb zd
 have hbM := ty_ne hB hM zd
 have hic := fun (w' : World) (h : Cl w w') => isInCheck_c (h := hdOf p false) (B := mbOf p) (by have := hI.turn; show p.turn + 1 = 1 ∨ p.turn + 1 = 2; omega) (kingAt_range p 0).1 (kingAt_range p 0).2 (kingAt_range p 1).1 (kingAt_range p 1).2 w' (hT.cl h) (h.blk hP) (h.blk hB)
 have hic2 : (mbOf p).chk (hdOf p false).turn = inCheck p := in_check hI
 rw [hic2] at hic
 refine zN Tryz.func136 ?_
 refine zR ?_
 refine zK 5 ?_
 refine zR ?_
 refine loadQ _ (fun w' hw => ldB (v := .pointer (some ⟨P, 0, none⟩)) (hw.blk hc) rfl rfl) (zR ?_)
 refine loadQ _ (fun w' hw => ldB (v := .pointer (some ⟨P, 0, none⟩)) (hw.blk hc) rfl rfl) (zR ?_)
 refine callQ _ (fun _ _ h => h.trans) (fun w' hw => hic w' hw) (zR ?_)
 intro w1 c1
 refine zR ?_
 refine zT (c1.blk hP) [.bool (inCheck p)] fun w2 u2 => ?_
 have hP2 : w2.heap[P]? = some (.cells (hdA b (hdOf p (inCheck p)) (.slice none 0 0)) 173 (0, 0)) := u2.at_
 have f2 : Fr [P, G0, M] w w2 := (Fr.cl c1).trans (Fr.upd u2 (by simp))
 have hb2 := (Tn.upd u2).blk (c1.blk hb) hGP
 have hc2 := (Tn.upd u2).blk (c1.blk hc) hcP
 have hM2 := (Tn.upd u2).blk (c1.blk hM) hMP
 have hB2 := (Tn.upd u2).blk (c1.blk hB) hbP
 refine zR ?_
 refine loadK _ (ldB (v := .pointer (some ⟨P, 0, none⟩)) hc2 rfl rfl) (zR ?_)
 refine zT hb2 [.pointer (some ⟨P, 0, none⟩)] fun w3 u3 => ?_
 have hb3 : w3.heap[G0]? = some (.cells (gmA (freshGm P M tb)) 131 (0, 0)) := u3.at_
 have f3 := f2.trans (Fr.upd u3 (by simp))
 have hP3 := (Tn.upd u3).blk hP2 (Ne.symm hGP)
 have hc3 := (Tn.upd u3).blk hc2 hcG
 have hM3 := (Tn.upd u3).blk hM2 (Ne.symm hGM)
 have hB3 := (Tn.upd u3).blk hB2 hbG
 refine zR ?_
 refine zK 7 ?_
 refine zR ?_
 refine loadQ _ (fun w' hw => ldGroot (hw.blk hb3)) (zR ?_)
 refine loadQ _ (fun w' hw => ldB (v := .pointer (some ⟨P, 0, none⟩)) (hw.blk hc3) rfl rfl) (zR ?_)
 intro w4 c4
 refine zR ?_
 refine zT (c4.blk hM3) [.pointer (some ⟨P, 0, none⟩)] fun w5 u5 => ?_
 have hM5 : w5.heap[M]? = some (.cells (ndA (rootNd P)) 141 (0, 0)) := u5.at_
 have f5 := (f3.trans (Fr.cl c4)).trans (Fr.upd (b := M) u5 (by simp))
 have hb5 := (Tn.upd u5).blk (c4.blk hb3) hGM
 have hP5 := (Tn.upd u5).blk (c4.blk hP3) (Ne.symm hMP)
 have hB5 := (Tn.upd u5).blk (c4.blk hB3) hbM
 have hPM : PosM w5 P b p (.slice none 0 0) := ⟨hP5, hB5, .inl rfl⟩
 have hT5 : Tabs w5 := hT.fr f5 fun k hk cs t fz hh => by
  simp only [List.mem_cons, List.not_mem_nil, or_false] at hk
  rcases hk with e | e | e
  ·rw [e] at hh; rw [← (Obj.cells.inj (Option.some.inj (hP.symm.trans hh))).2.1]; decide
  ·rw [e] at hh; rw [← (Obj.cells.inj (Option.some.inj (hb.symm.trans hh))).2.1]; decide
  ·rw [e] at hh; rw [← (Obj.cells.inj (Option.some.inj (hM.symm.trans hh))).2.1]; decide
 obtain ⟨z, hz⟩ : ∃ z : Nde, z = ⟨M, rootNd P, P, b, p, .slice none 0 0⟩ := ⟨_, rfl⟩
 have hch : Chn w5 [z] := by rw [hz]; exact ⟨hM5, rfl, rfl, hPM, trivial⟩
 have hev := evalPos_c (g := freshGm P M tb) (n := z) (l := []) hI hle (suff_c hI b) (by simp) (by intro x hx; rw [List.mem_singleton.1 hx, hz]; exact hI) w5 hT5 hb5 (by rw [hz]; rfl) hch hPM (Ne.symm hGP) hbG (fun _ => rfl)
 refine zR ?_
 refine callK hev ?_
 rintro e w6 ⟨rfl, m', o', hend, hgb, hfr⟩
 refine ⟨_, rfl, ?_⟩
 refine zR ?_
 have hend : ((m' : Int), o') = ending [p] p (((0 : Nat) : Int), star) := by rw [hz] at hend; exact hend
 have kG : Kp [] w5 w6 := Kp.fr hfr fun k hk => by rw [List.mem_singleton.1 hk]; exact .inr ⟨_, _, hb5⟩
 refine ⟨rfl, { freshGm P M tb with out := o', meth := m' }, z, ⟨hgb, by rw [hz]; rfl, by rw [hz]; rfl, ⟨z, [], rfl, by rw [hz]; rfl⟩, Chn.kp kG hch fun n _ => n.off_nil, (by rw [hz]; rfl), fun n hn => (by cases hn), (by rw [hz]; intro e; cases e), fun n hn => (by cases hn), ending_mo hend fun _ => rfl⟩, by rw [hz], by rw [hz], by rw [hz], hend, f5.trans (hfr.mono (by simp))⟩
theorem uFn : ∃ a b c, G.P.underlying 122 = some (.func a b c) := by
 have h : (match G.P.underlying 122 with | some (.func ..) => true | _ => false) = true := by kernel_rfl
 split at h
 ·rename_i a b c e; exact ⟨a, b, c, e⟩
 ·cases h
theorem ldFn {w : World} {b i : Nat} {v : Value} {cs : Array Value} {u : Nat} {fz : Nat × Nat} (hb : w.heap[b]? = some (.cells cs u fz)) (hi : cs[i]? = some v) : LoadsTo G.P w 122 ⟨b, i, none⟩ v := by
 obtain ⟨e1, e2, e3, he⟩ := uFn
 have ha : (isAgg 122).run G.P w = .ok false w := by unfold isAgg; simp [run_underlying he]
 unfold LoadsTo Instr.loadAt loadVar
 simp [Instr.sureAddr, ha, cell_of_blk hb, hi]
theorem cmp_fn (f : Fn) (a c : Array Value) : Cmp 122 (.func f a c) .nilFunc false := by
 obtain ⟨e1, e2, e3, he⟩ := uFn
 refine cmp_of (fun d w => ?_) (fun w => by simp [binOp]) (fun w => by simp [binOp]) (fun op a v w => by unfold eqGuard; cases op <;> rfl)
 simp [Op.equalIn, run_underlying he]
theorem elFn : ElemOk 181 122 1 8 := elem_of zk
structure Begun (w w' : World) (G0 : Nat) (p : Pos) (looked : Bool) : Prop where
 ex : ∃ g z, GameAt w' G0 g [] z ∧ z.p = p ∧ w.heap.size ≤ z.M ∧ w.heap.size ≤ z.P ∧ ((g.meth : Int), g.out) = (if looked then ending [p] p (0, star) else (0, star))
 cl : Cl w w'
 new : w.heap.size ≤ G0
set_option maxHeartbeats 1000000 in
theorem NewGame0_c (w : World) (hT : Tabs w) (hS : Spc w) : Calls G.P 97 #[.slice none 0 0] w (fun r w' => ∃ G0, r = .returned (.pointer (some ⟨G0, 0, none⟩)) ∧ Begun w w' G0 startP false) := by
 refine zN Tryz.func97 ?_
 refine zR ?_
 refine callK (StartPos_c w hT hS) ?_
 rintro e w1 ⟨c1, P, b, rfl, sP, sb, hPM⟩
 refine ⟨_, rfl, ?_⟩
 refine zR ?_
 refine gen_build (ndA (rootNd P)) zk (zR ?_)
 have c2 := c1.trans (Cl.alloc w1 (.cells (ndA (rootNd P)) 141))
 have hPM2 := hPM.step (Cl.alloc w1 (.cells (ndA (rootNd P)) 141))
 have nR := alloc_new w1 (.cells (ndA (rootNd P)) 141)
 have s2 := alloc_size w1 (.cells (ndA (rootNd P)) 141)
 have s1 := c1.size
 obtain ⟨R, hR⟩ : ∃ R, R = w1.heap.size := ⟨_, rfl⟩
 rw [← hR] at nR ⊢
 generalize w1.alloc (.cells (ndA (rootNd P)) 141) = w2 at *
 refine gen_mkMap ?_
 have c3 := c2.trans (Cl.alloc w2 (.map #[] 0))
 have hPM3 := hPM2.step (Cl.alloc w2 (.map #[] 0))
 have nR3 := (Cl.alloc w2 (.map #[] 0)).blk nR
 have s3 := alloc_size w2 (.map #[] 0)
 generalize w2.alloc (.map #[] 0) = w3 at *
 refine zR ?_
 refine gen_build (gmA (freshGm P R w2.heap.size)) zk (zR ?_)
 have c4 := c3.trans (Cl.alloc w3 (.cells (gmA (freshGm P R w2.heap.size)) 131))
 have hPM4 := hPM3.step (Cl.alloc w3 (.cells (gmA (freshGm P R w2.heap.size)) 131))
 have nR4 := (Cl.alloc w3 (.cells (gmA (freshGm P R w2.heap.size)) 131)).blk nR3
 have nG := alloc_new w3 (.cells (gmA (freshGm P R w2.heap.size)) 131)
 have s4 := alloc_size w3 (.cells (gmA (freshGm P R w2.heap.size)) 131)
 generalize w3.alloc (.cells (gmA (freshGm P R w2.heap.size)) 131) = w4 at *
 refine loopU 1 (zR ?_)
 refine ⟨_, rfl, ⟨freshGm P R w2.heap.size, ⟨R, rootNd P, P, b, startP, .slice none 0 0⟩, ⟨nG, rfl, rfl, ⟨_, [], rfl, rfl⟩, ⟨nR4, rfl, rfl, hPM4, trivial⟩, rfl, fun n hn => (by cases hn), fun e => (by cases e), fun n hn => (by cases hn), fun _ => rfl⟩, rfl, (show w.heap.size ≤ R by omega), sP, rfl⟩, c4, zo⟩
set_option maxHeartbeats 1000000 in
theorem NewGame1_c {p : Pos} (hI : Inv p) (hle : (macStd p).length ≤ 218) {P b c O k : Nat} (w : World) (hT : Tabs w) (hS : Spc w)
  (hP : w.heap[P]? = some (.cells (hdA b (hdOf p false) (.slice none 0 0)) 173 (0, 0))) (hB : w.heap[b]? = some (.cells (mbA (mbOf p)) 237 (0, 0))) (hc : w.heap[c]? = some (.cells #[.pointer (some ⟨P, 0, none⟩)] 83 (0, 0)))
  (hO : w.heap[O]? = some (.cells #[.func (.func 136) #[] #[.pointer (some ⟨c, 0, none⟩)]] 122 (0, 0))) :
  Calls G.P 97 #[.slice (some ⟨O, 0, none⟩) 1 k] w (fun r w' => ∃ G0 g z, r = .returned (.pointer (some ⟨G0, 0, none⟩)) ∧ w.heap.size ≤ G0 ∧ GameAt w' G0 g [] z ∧ z.p = p ∧ w.heap.size ≤ z.M ∧ z.P = P ∧ ((g.meth : Int), g.out) = ending [p] p (0, star) ∧ Tn P w w') := by
 refine zN Tryz.func97 ?_
 refine zR ?_
 refine callK (StartPos_c w hT hS) ?_
 rintro e w1 ⟨c1, P0, b0, rfl, sP, sb, hPM⟩
 refine ⟨_, rfl, ?_⟩
 refine zR ?_
 refine gen_build (ndA (rootNd P0)) zk (zR ?_)
 have c2 := c1.trans (Cl.alloc w1 (.cells (ndA (rootNd P0)) 141))
 have nR := alloc_new w1 (.cells (ndA (rootNd P0)) 141)
 have s2 := alloc_size w1 (.cells (ndA (rootNd P0)) 141)
 have s1 := c1.size
 obtain ⟨R, hR⟩ : ∃ R, R = w1.heap.size := ⟨_, rfl⟩
 rw [← hR] at nR ⊢
 generalize w1.alloc (.cells (ndA (rootNd P0)) 141) = w2 at *
 refine gen_mkMap ?_
 have c3 := c2.trans (Cl.alloc w2 (.map #[] 0))
 have nR3 := (Cl.alloc w2 (.map #[] 0)).blk nR
 have s3 := alloc_size w2 (.map #[] 0)
 generalize w2.alloc (.map #[] 0) = w3 at *
 refine zR ?_
 refine gen_build (gmA (freshGm P0 R w2.heap.size)) zk (zR ?_)
 have c4 := c3.trans (Cl.alloc w3 (.cells (gmA (freshGm P0 R w2.heap.size)) 131))
 have nR4 := (Cl.alloc w3 (.cells (gmA (freshGm P0 R w2.heap.size)) 131)).blk nR3
 have nG := alloc_new w3 (.cells (gmA (freshGm P0 R w2.heap.size)) 131)
 have s4 := alloc_size w3 (.cells (gmA (freshGm P0 R w2.heap.size)) 131)
 obtain ⟨G0, hG0⟩ : ∃ G0, G0 = w3.heap.size := ⟨_, rfl⟩
 rw [← hG0] at nG ⊢
 generalize w3.alloc (.cells (gmA (freshGm P0 R w2.heap.size)) 131) = w4 at *
 refine loopU 2 (zR ?_)
 refine loadK _ (ldFn (v := .func (.func 136) #[] #[.pointer (some ⟨c, 0, none⟩)]) (c4.blk hO) rfl) (zR ?_)
 refine gen_neN false (cmp_fn _ _ _) (zR ?_)
 refine gen_callV #[.pointer (some ⟨G0, 0, none⟩), .pointer (some ⟨c, 0, none⟩)] rfl rfl (by rw [Array.toList_map]; rfl) ?_
 refine (FEN1_c hI hle w4 (hT.cl c4) nG nR4 (c4.blk hP) (c4.blk hB) (c4.blk hc)).mono ?_
 rintro e w5 ⟨rfl, g', z, hg, hz, hzM, hzP, hend, f5⟩
 refine ⟨_, rfl, ?_⟩
 refine zR ?_
 have hPl := heap_lt hP
 refine ⟨G0, g', z, rfl, zo, hg, hz, by rw [hzM]; omega, hzP, hend, ⟨f5.os.trans c4.os, f5.tape.trans c4.tape, f5.output.trans c4.output, Nat.le_trans c4.size f5.size, fun k hk hne => ?_⟩⟩
 rw [f5.else_ k zo (by simp only [List.mem_cons, List.not_mem_nil, or_false]; omega)]
 exact c4.block k hk
set_option maxHeartbeats 1000000 in
theorem begun_c {p : Pos} (hI : Inv p) (hle : (macStd p).length ≤ 218) (hh : p.half < 10000000) (hf : p.full < 10000000) (usual : Bool) (hu : usual = true → p = startP) (w : World) (hT : Tabs w) (hS : Spc w) :
  Calls G.P 42 #[txV (if usual then [] else fenT p)] w (fun r w' => ∃ G0, r = .returned (.tuple #[.pointer (some ⟨G0, 0, none⟩), .nilIface]) ∧ Begun w w' G0 p (!usual)) := by
 cases usual with
 | true =>
  have := hu rfl
  subst this
  rw [if_pos rfl]
  refine zN Tryz.func42 ?_
  refine zR ?_
  first | (refine E.dtrue rfl ?_; refine zR ?_) | skip
  refine callK (NewGame0_c w hT hS) ?_
  rintro e w1 ⟨G0, rfl, h⟩
  refine ⟨_, rfl, ?_⟩
  refine zR ?_
  exact ⟨G0, rfl, h⟩
 | false =>
  rw [if_neg zd]
  have hne : ¬ tx (fenT p) = tx [] := fun h => by
   have := tx_inj.1 h
   unfold fenT at this
   simp at this
  have hd := fun w hT hS => decode_c hI hh hf w hT hS
  generalize fenT p = T at *
  have hFEN : ∀ w, Tabs w → Spc w → Calls G.P 98 #[txV T] w (fun r w' => Cl w w' ∧ ∃ P b c, r = .returned (.tuple #[.func (.func 136) #[] #[.pointer (some ⟨c, 0, none⟩)], .nilIface]) ∧ w.heap.size ≤ P ∧ w'.heap[P]? = some (.cells (hdA b (hdOf p false) (.slice none 0 0)) 173 (0, 0))
    ∧ w'.heap[b]? = some (.cells (mbA (mbOf p)) 237 (0, 0)) ∧ w'.heap[c]? = some (.cells #[.pointer (some ⟨P, 0, none⟩)] 83 (0, 0))) := by
   intro w hT hS
   refine zN Tryz.func98 ?_
   refine zR ?_
   refine callK (hd w hT hS) ?_
   rintro e w1 ⟨c1, P, b, rfl, sP, sb, hP, hB⟩
   refine ⟨_, rfl, ?_⟩
   refine zR ?_
   refine gen_alloc (.pointer none) zk ?_
   have c2 := Cl.alloc w1 (.cells (Value.pointer none).cells 83)
   have n2 := alloc_new w1 (.cells (Value.pointer none).cells 83)
   have s1 := c1.size
   generalize w1.alloc (.cells (Value.pointer none).cells 83) = w2 at *
   refine zR ?_
   refine zT n2 [.pointer (some ⟨P, 0, none⟩)] fun w3 u3 => ?_
   have n3 : w3.heap[w1.heap.size]? = some (.cells #[.pointer (some ⟨P, 0, none⟩)] 83 (0, 0)) := u3.at_
   refine zR ?_
   refine gen_neN true (cmp_nilIface rfl) (zR ?_)
   refine loadK _ (ldB (v := .pointer (some ⟨P, 0, none⟩)) n3 rfl rfl) (zR ?_)
   refine gen_eqN false (cmp_ptr rfl _) (zR ?_)
   refine gen_mkFunc #[.pointer (some ⟨w1.heap.size, 0, none⟩)] (by rw [Array.toList_map]; rfl) (zR ?_)
   have hP2 := c2.blk hP
   have hB2 := c2.blk hB
   exact ⟨u3.cl (c1.trans c2) s1, P, b, _, rfl, sP, (Tn.upd u3).blk hP2 (by have := heap_lt hP; omega), (Tn.upd u3).blk hB2 (by have := heap_lt hB; omega), n3⟩
  refine zN Tryz.func42 ?_
  refine zR ?_
  refine E.dfalse hne (zR ?_)
  refine callK (hFEN w hT hS) ?_
  rintro e w1 ⟨c1, P, b, c, rfl, sP, hP, hB, hc⟩
  refine ⟨_, rfl, ?_⟩
  refine zR ?_
  refine gen_neN true (cmp_nilIface rfl) (zR ?_)
  refine gen_bs elFn [.func (.func 136) #[] #[.pointer (some ⟨c, 0, none⟩)]] (by rw [Array.toList_map]; rfl) (by simp [Value.cells]) rfl zd zd ?_
  have c2 := Cl.alloc w1 (.cells (([.func (.func 136) #[] #[.pointer (some ⟨c, 0, none⟩)]] : List Value).flatMap fun v => v.cells.toList).toArray 122)
  have n2 : (w1.alloc (.cells (([.func (.func 136) #[] #[.pointer (some ⟨c, 0, none⟩)]] : List Value).flatMap fun v => v.cells.toList).toArray 122)).heap[w1.heap.size]? = some (.cells #[.func (.func 136) #[] #[.pointer (some ⟨c, 0, none⟩)]] 122 (0, 0)) := alloc_new w1 _
  generalize w1.alloc (.cells (([.func (.func 136) #[] #[.pointer (some ⟨c, 0, none⟩)]] : List Value).flatMap fun v => v.cells.toList).toArray 122) = w2 at *
  have c02 := c1.trans c2
  refine zR ?_
  refine callK (NewGame1_c hI hle w2 (hT.cl c02) (hS.cl c02) (c2.blk hP) (c2.blk hB) (c2.blk hc) n2) ?_
  rintro e w3 ⟨G0, g, z, rfl, sG, hg, hz, hzM, hzP, hend, n3⟩
  refine ⟨_, rfl, ?_⟩
  refine zR ?_
  refine ⟨G0, rfl, ⟨?_, n3.toCl c02 sP, Nat.le_trans c02.size sG⟩⟩
  refine ⟨g, z, hg, hz, Nat.le_trans c02.size hzM, by rw [hzP]; exact sP, ?_⟩
  rw [if_pos (show (!false) = true from rfl)]
  exact hend
theorem status_wrap (p : Pos) : IntKind.i64.wrap (statusOf p) = statusOf p := by
 have : statusOf p = 0 ∨ statusOf p = 1 ∨ statusOf p = 4 := by
  unfold statusOf; split
  ·exact .inl rfl
  ·split
   ·exact .inr (.inl rfl)
   ·exact .inr (.inr rfl)
 rcases this with e | e | e <;> (rw [e]; rfl)
set_option maxHeartbeats 2000000 in
theorem step_c {p : Pos} (hI : Inv p) (hN : Nums p) (hle : (macStd p).length ≤ 218) {P b P2 b2 M G0 n0 k0 : Nat} {ad : Addr} {d : Nd} {g : Gm} {cv2 : Value} (hm : d.mv ∈ legal p) (htg : (d.tags : Int) = told p d.mv) (hI2 : Inv (made p d.mv)) (hN2 : Nums (made p d.mv)) (hle2 : (macStd (made p d.mv)).length ≤ 218)
  (hgm : g.meth < 256) (w : World) (hT : Tabs w) (hw : Pow w) (hP : PosM w P b p (.slice (some ad) n0 k0)) (hM : w.heap[M]? = some (.cells (ndA d) 141 (0, 0))) (hb : w.heap[G0]? = some (.cells (gmA g) 131 (0, 0))) (hgP : g.P = P2) (hP2 : PosM w P2 b2 (made p d.mv) cv2) :
  Calls G.P 46 #[.pointer (some ⟨P, 0, none⟩), .pointer (some ⟨M, 0, none⟩), .pointer (some ⟨G0, 0, none⟩)] w (Ret (stV (stepOf p d.mv ((g.meth : Int), g.out))) w) := by
 obtain ⟨f0, f1, t0, t1, hpm⟩ := legal_range hI hm
 obtain ⟨_, _, h64⟩ := told_bits2 htg
 have hbt := builtSt ⟨d.mv, told p d.mv, sanT p d.mv, lanT p d.mv, uciT d.mv, fenT (made p d.mv), xfenT (made p d.mv), made p d.mv, g.out, (g.meth : Int), statusOf (made p d.mv)⟩
 have hun : stepOf p d.mv ((g.meth : Int), g.out) = ⟨d.mv, told p d.mv, sanT p d.mv, lanT p d.mv, uciT d.mv, fenT (made p d.mv), xfenT (made p d.mv), made p d.mv, g.out, (g.meth : Int), statusOf (made p d.mv)⟩ := by unfold stepOf; rfl
 have hst : stV (stepOf p d.mv ((g.meth : Int), g.out)) = .agg (stL ⟨d.mv, told p d.mv, sanT p d.mv, lanT p d.mv, uciT d.mv, fenT (made p d.mv), xfenT (made p d.mv), made p d.mv, g.out, (g.meth : Int), statusOf (made p d.mv)⟩).toArray := by rw [hun]; rfl
 have hone := one_st (stepOf p d.mv ((g.meth : Int), g.out))
 have hlen := stL_len (stepOf p d.mv ((g.meth : Int), g.out))
 rw [hun] at hone hlen
 rw [hst]
 clear hst hun
 have etag : IntKind.i64.wrap (d.tags : Int) = told p d.mv := by rw [← htg]; exact w64_in zo zo
 have emeth : IntKind.i64.wrap (g.meth : Int) = (g.meth : Int) := w64_in zo zo
 have estat := status_wrap (made p d.mv)
 have q1 := fun w' (c : Cl w w') => plainMove_c (c.blk hM) zo zo zo zo zo zo
 have q2 := fun w' (c : Cl w w') => DoorTags_c (c.blk hM)
 have q3 := fun w' (c : Cl w w') => SanEncode_c hI hN hle ⟨hI2, hle2⟩ hm htg w' (hT.cl c) (hP.step c) (c.blk hM)
 have q4 := fun w' (c : Cl w w') => LanEncode_c hI hN hle ⟨hI2, hle2⟩ hm htg w' (hT.cl c) (hP.step c) (c.blk hM)
 rw [sanM_eq hI hm htg] at q3
 rw [lanM_eq htg] at q4
 have q5 := fun w' (c : Cl w w') => UciEncode_c (P := P) f0 f1 t0 t1 ⟨zo, zo⟩ w' (c.blk hM) _ rfl
 have q6 := fun w' (c : Cl w w') => GFen_c (c.blk hb) hI2 hN2 (hT.cl c) (hw.cl c) (by rw [hgP]; exact c.blk hP2.hd) (c.blk hP2.bd)
 have q7 := fun w' (c : Cl w w') => XFENString_c hI2 hN2 w' (hT.cl c) (hw.cl c) (c.blk hP2.hd) (c.blk hP2.bd)
 have q8 := fun w' (c : Cl w w') => plain_c hI2 w' (hT.cl c) (c.blk hP2.hd) (c.blk hP2.bd)
 have q9 := fun w' (c : Cl w w') => Status_c' hI2 hle2 w' (hT.cl c) (hP2.step c)
 obtain ⟨zs, hzs, hz81⟩ := zSt
 generalize stL ⟨d.mv, told p d.mv, sanT p d.mv, lanT p d.mv, uciT d.mv, fenT (made p d.mv), xfenT (made p d.mv), made p d.mv, g.out, (g.meth : Int), statusOf (made p d.mv)⟩ = S at *
 generalize made p d.mv = q at *
 generalize told p d.mv = Q1 at *
 generalize sanT p d.mv = Q2 at *
 generalize lanT p d.mv = Q3 at *
 generalize uciT d.mv = Q4 at *
 generalize fenT q = Q5 at *
 generalize xfenT q = Q6 at *
 generalize statusOf q = Q7 at *
 refine zN Tryz.func46 ?_
 refine zR ?_
 refine gen_alloc zs hzs ?_
 have c1 := Cl.alloc w (.cells zs.cells 39)
 have nB := alloc_new w (.cells zs.cells 39)
 generalize w.alloc (.cells zs.cells 39) = w1 at *
 refine zR ?_
 refine callS (GPos_c (c1.blk hb)) ?_
 rw [hgP]
 refine zR ?_
 refine callR (q1 w1 c1) fun w2 c2 => ?_
 have c02 := c1.trans c2
 have nB := c2.blk nB
 refine zR ?_
 refine callS (q2 w2 c02) (zR ?_)
 rw [etag]
 refine gen_build #[] zk (zR ?_)
 refine callR (q3 w2 c02) fun w3 c3 => ?_
 have c03 := c02.trans c3
 have nB := c3.blk nB
 refine zR ?_
 refine gen_build #[] zk (zR ?_)
 refine callR (q4 w3 c03) fun w4 c4 => ?_
 have c04 := c03.trans c4
 have nB := c4.blk nB
 refine zR ?_
 refine gen_build #[] zk (zR ?_)
 refine callR (q5 w4 c04) fun w5 c5 => ?_
 have c05 := c04.trans c5
 have nB := c5.blk nB
 refine zR ?_
 refine callR (q6 w5 c05) fun w6 c6 => ?_
 have c06 := c05.trans c6
 have nB := c6.blk nB
 refine zR ?_
 refine callR (q7 w6 c06) fun w7 c7 => ?_
 have c07 := c06.trans c7
 have nB := c7.blk nB
 refine zR ?_
 refine callR (q8 w7 c07) fun w8 c8 => ?_
 have c08 := c07.trans c8
 have nB := c8.blk nB
 refine zR ?_
 refine callS (GOut_c (c08.blk hb)) (zR ?_)
 refine callS (GMeth_c (c08.blk hb)) (zR ?_)
 rw [emeth]
 refine callR (q9 w8 c08) fun w9 c9 => ?_
 have c09 := c08.trans c9
 have nB := c9.blk nB
 refine zR ?_
 rw [estat]
 refine gen_build S.toArray hbt (zR ?_)
 refine stK nB S rfl szSt hlen hone (by rw [hz81]; omega) (fun w10 u10 => ?_)
 have hR : w10.heap[w.heap.size]? = some (.cells S.toArray 39 (0, 0)) := by
  rw [u10.at_, over_all _ _ (by rw [hlen, hz81])]
 refine zR ?_
 refine loadK (.agg S.toArray) ?_ ?_
 ·have := ldA (t := 39) (o := 0) (z := 81) hR rfl (by simp [hlen])
  rw [show S.toArray.extract 0 (0 + 81) = S.toArray by
   have : S.toArray.size = 81 := by simp [hlen]
   rw [← this]; simp] at this
  exact this
 refine zR ?_
 exact ⟨rfl, u10.cl c09 (Nat.le_refl _)⟩
end
end Go.Proofs.YtpclhlhcegcflaaGreatDoor
