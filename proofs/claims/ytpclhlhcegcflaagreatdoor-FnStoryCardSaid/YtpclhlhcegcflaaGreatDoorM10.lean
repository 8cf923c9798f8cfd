/- One part of the proof: Txt Sp15 Sp16 Sp17 Sp18 Sp19 Sp20 Sp21. -/
import Derived.Laws.Strings2
import Derived.Laws.Small
import Derived.Laws.IdiomStrings
import Derived.Test.YtpclhlhcegcflaaGreatDoorM1
import Derived.Test.YtpclhlhcegcflaaGreatDoorM3
import Derived.Test.YtpclhlhcegcflaaGreatDoorM9
namespace Go.Proofs.YtpclhlhcegcflaaGreatDoor
set_option maxRecDepth 100000
set_option linter.unusedSimpArgs false
set_option linter.unusedVariables false
section
abbrev Tx := List UInt8
namespace Ch
def fileT (s : Int) : Tx := [UInt8.ofNat (97 + (s % 8).toNat)]
def rankT (s : Int) : Tx := [UInt8.ofNat (49 + (s / 8).toNat)]
def sqT (s : Int) : Tx := if s < 0 ∨ s > 63 then [] else fileT s ++ rankT s
def letter (k : Int) : Tx := if k = 1 then [75] else if k = 2 then [81] else if k = 3 then [82] else if k = 4 then [66] else if k = 5 then [78] else []
def small (k : Int) : Tx := if k = 1 then [107] else if k = 2 then [113] else if k = 3 then [114] else if k = 4 then [98] else if k = 5 then [110] else if k = 6 then [112] else []
def promoT (m : Mv) : Tx := if m.promo = 0 then [] else 61 :: letter m.promo
def signT (p : Pos) (m : Mv) : Tx := if !inCheck (made p m) then [] else if (legal (made p m)).isEmpty then [35] else [43]
def rivals (p : Pos) (m : Mv) : List Mv := (legal p).filter fun x => decide (x.to = m.to) && !decide (x.fr = m.fr) && decide (sq p x.fr = sq p m.fr)
def apart (p : Pos) (m : Mv) : Tx :=
 if (rivals p m).isEmpty then []
 else if !(rivals p m).any fun x => decide (x.fr % 8 = m.fr % 8) then fileT m.fr
 else if !(rivals p m).any fun x => decide (x.fr / 8 = m.fr / 8) then rankT m.fr
 else sqT m.fr
def takeT (p : Pos) (m : Mv) : Tx := if takes p m then [120] else []
def body (p : Pos) (m : Mv) : Tx :=
 if castleKind p m = 1 then [79, 45, 79]
 else if castleKind p m = 2 then [79, 45, 79, 45, 79]
 else if kindOf (sq p m.fr) = 6 then (if takes p m then fileT m.fr ++ [120] else []) ++ sqT m.to ++ promoT m
 else letter (kindOf (sq p m.fr)) ++ apart p m ++ takeT p m ++ sqT m.to
def sanT (p : Pos) (m : Mv) : Tx := body p m ++ signT p m
def lanT (p : Pos) (m : Mv) : Tx := if 0 < castleKind p m then sanT p m else letter (kindOf (sq p m.fr)) ++ sqT m.fr ++ takeT p m ++ sqT m.to ++ promoT m ++ signT p m
def uciT (m : Mv) : Tx := sqT m.fr ++ sqT m.to ++ (if 0 < m.promo ∧ m.promo < 7 then small m.promo else [])
def dec (n : Nat) : Tx := if h : n < 10 then [UInt8.ofNat (48 + n)] else dec (n / 10) ++ [UInt8.ofNat (48 + n % 10)]
 termination_by n
 decreasing_by omega
def pcT (x : Int) : Tx := if x = 1 then [75] else if x = 2 then [81] else if x = 3 then [82] else if x = 4 then [66] else if x = 5 then [78] else if x = 6 then [80] else
 if x = 7 then [107] else if x = 8 then [113] else if x = 9 then [114] else if x = 10 then [98] else if x = 11 then [110] else if x = 12 then [112] else []
def cntT (e : Nat) : Tx := if e = 0 then [] else dec e
def rowT (g : Nat → Int) : Nat → Nat → Nat → Tx
 | 0, _, e => cntT e
 | n + 1, f, e => if g f < 1 ∨ g f > 12 then rowT g n (f + 1) (e + 1) else cntT e ++ pcT (g f) ++ rowT g n (f + 1) 0
def boardT (p : Pos) : Nat → Tx
 | 0 => []
 | r + 1 => rowT (fun f => sq p (8 * (r : Int) + f)) 8 0 0 ++ (if r = 0 then [] else [47]) ++ boardT p r
def castT (c : Int) : Tx := let t : Tx := (if bit c 0 then [75] else []) ++ (if bit c 1 then [81] else []) ++ (if bit c 2 then [107] else []) ++ (if bit c 3 then [113] else [])
 if t.isEmpty then [45] else t
def epT (e : Int) : Tx := if 0 ≤ e ∧ e < 64 then fileT e ++ rankT e else [45]
def turnT (t : Int) : Tx := if t = 1 then [98] else [119]
def fenT (p : Pos) : Tx := boardT p 8 ++ [32] ++ turnT p.turn ++ [32] ++ castT p.castle ++ [32] ++ epT p.ep ++ [32] ++ dec p.half.toNat ++ [32] ++ dec p.full.toNat
def beside (p : Pos) : Bool :=
 let r := rank p.ep - up p.turn
 [(-1 : Int), 1].any fun d => decide (0 ≤ at' (file p.ep + d) r) && decide (sq p (at' (file p.ep + d) r) = 6 + 6 * p.turn)
def xfenT (p : Pos) : Tx := if p.ep < 0 ∨ beside p = true then fenT p else fenT { p with ep := -1 }
def alike (p q : Pos) : Bool := decide (p.board = q.board) && decide (p.turn = q.turn) && decide (p.castle = q.castle) && decide (p.ep = q.ep)
def times (l : List Pos) (p : Pos) : Nat := (l.filter fun q => alike q p).length
def dead (p : Pos) : Bool :=
 if anyN (fun i => decide (kindOf (sq p i) = 2) || decide (kindOf (sq p i) = 3) || decide (kindOf (sq p i) = 6)) 64 then false
 else
  let kn := cntN (fun i => decide (kindOf (sq p i) = 5)) 64
  let b0 := cntN (fun i => decide (kindOf (sq p i) = 4) && decide ((file i + rank i) % 2 = 0)) 64
  let b1 := cntN (fun i => decide (kindOf (sq p i) = 4) && decide ((file i + rank i) % 2 = 1)) 64
  if 0 < kn then decide (kn = 1) && decide (b0 + b1 = 0) else decide (b0 = 0) || decide (b1 = 0)
def star : Tx := [42]
def drawT : Tx := [49, 47, 50, 45, 49, 47, 50]
def wonT (turn : Int) : Tx := if turn = 0 then [48, 45, 49] else [49, 45, 48]
def ending (l : List Pos) (p : Pos) (mo : Int × Tx) : Int × Tx :=
 if (legal p).isEmpty then (if !inCheck p then (4, drawT) else (1, wonT p.turn))
 else if mo.2 ≠ star then mo
 else
  let a := if 5 ≤ times l p then (6, drawT) else mo
  let b := if 150 ≤ p.half then (8, drawT) else a
  if dead p then (9, drawT) else b
def statusOf (p : Pos) : Int := if !(legal p).isEmpty then 0 else if inCheck p then 1 else 4
structure Step where
 mv : Mv
 tags : Int
 san : Tx
 lan : Tx
 uci : Tx
 fen : Tx
 xfen : Tx
 pos : Pos
 outcome : Tx
 method : Int
 status : Int
def stepOf (p : Pos) (m : Mv) (mo : Int × Tx) : Step :=
 { mv := m, tags := told p m, san := sanT p m, lan := lanT p m, uci := uciT m, fen := fenT (made p m), xfen := xfenT (made p m), pos := made p m, outcome := mo.2, method := mo.1, status := statusOf (made p m) }
def story (l : List Pos) (p : Pos) (mo : Int × Tx) : List Mv → List Step
 | [] => []
 | m :: r => if isLegal p m then
   let q := made p m
   let mo' := ending (l ++ [q]) q mo
   stepOf p m mo' :: story (l ++ [q]) q mo' r
  else []
def storyOf (p : Pos) (looked : Bool) (ms : List Mv) : List Step := story [p] p (if looked then ending [p] p (0, star) else (0, star)) ms
def sanTold (p : Pos) (m : Mv) : Bool := [2, 3, 4, 5].all fun k => !(decide (k < m.promo) && inCheck (made p ⟨m.fr, m.to, k⟩) && !inCheck (made p m))
def quiet (p : Pos) : List Mv → Bool
 | [] => decide ((legal p).length ≤ 218)
 | m :: r => decide ((legal p).length ≤ 218) && (!isLegal p m || (sanTold p m && quiet (made p m) r))
end Ch
end
section
open Go Go.RowKit
open E
def status (p : Pos) : Int := if !(Ch.legal p).isEmpty then 0 else if Ch.inCheck p then 1 else 2
theorem len_empty {α : Type} (l : List α) : l.isEmpty = decide (l.length = 0) := by cases l <;> simp
theorem legal_len (p : Pos) : (Ch.legal p).length ≤ 14338 := Nat.le_trans (List.length_filter_le _ _) (pseudo_len p)
theorem Status_c (p : Pos) (hI : Ch.Inv p) (hN : Nums p) (w : World) : Calls G.P 132 #[posV p] w (Ret (.int .i64 (status p)) w) := by
 have ht := hI.turn
 refine zN Tryz.func132 ?_
 refine zG ?_
 refine zR ?_
 generalize hW : w.alloc (.cells (posA p) 24) = W0
 have hP : ∀ w', Cl W0 w' → w'.heap[w.heap.size]? = some (.cells (posA p) 24 (0, 0)) := fun w' h => (hW ▸ h : Cl (w.alloc (.cells (posA p) 24)) w').blk (alloc_new _ _)
 have hE : ∀ w', Cl W0 w' → Cl w w' := fun w' h => (Cl.alloc _ _).trans (hW ▸ h)
 refine zR ?_
 refine loadK _ (ldPos (hP _ (Cl.refl _))) (zR ?_)
 refine callK (Legal_c p hI hN _) ?_
 rintro r w1 ⟨v, l, rfl, hlp, hl, c1⟩
 refine ⟨_, rfl, ?_⟩
 obtain ⟨al, cl, rfl, hal⟩ := hl.form
 have hlen := hlp.length_eq
 refine zR ?_
 apply E.dsplit<;>intro h
 ·refine zR ?_
  exact ⟨by unfold status; rw [len_empty, decide_eq_false zo]; rfl, hE _ c1⟩
 ·have he : (Ch.legal p).isEmpty = true := by rw [len_empty]; exact decide_eq_true zo
  refine zR ?_
  refine loadK _ (ldPos (hP _ c1)) (zR ?_)
  refine callR (InCheck_c p hI.pc _ zo zo) fun w2 c2 => ?_
  cases hc : Ch.inCheck p
  ·refine zR ?_
   exact ⟨by unfold status; rw [he, hc]; rfl, hE _ (c1.trans c2)⟩
  ·refine zR ?_
   exact ⟨by unfold status; rw [he, hc]; rfl, hE _ (c1.trans c2)⟩
theorem StatusOf_c (p : Pos) (hI : Ch.Inv p) (hN : Nums p) (w : World) : Calls G.P 96 #[posV p] w (Ret (.int .i64 (Ch.statusOf p)) w) := by
 refine zN Tryz.func96 ?_
 refine zG ?_
 refine zR ?_
 generalize hW : w.alloc (.cells (posA p) 24) = W0
 have hP : ∀ w', Cl W0 w' → w'.heap[w.heap.size]? = some (.cells (posA p) 24 (0, 0)) := fun w' h => (hW ▸ h : Cl (w.alloc (.cells (posA p) 24)) w').blk (alloc_new _ _)
 have hE : ∀ w', Cl W0 w' → Cl w w' := fun w' h => (Cl.alloc _ _).trans (hW ▸ h)
 refine zR ?_
 refine zL elInt [.int .i64 0, .int .i64 1, .int .i64 4] ?_
 have hr := row_new encInt_len W0 [0, 1, 4] zd [.int .i64 0, .int .i64 1, .int .i64 4] rfl (e := 3) (z := 1)
 have c1 := Cl.alloc W0 (.cells (([.int .i64 0, .int .i64 1, .int .i64 4] : List Value).flatMap fun v => v.cells.toList).toArray 3)
 generalize W0.alloc (.cells (([.int .i64 0, .int .i64 1, .int .i64 4] : List Value).flatMap fun v => v.cells.toList).toArray 3) = w1 at *
 refine zR ?_
 refine loadK _ (ldPos (hP _ c1)) (zR ?_)
 refine callR (Status_c p hI hN _) fun w2 c2 => ?_
 have hs : status p = 0 ∧ Ch.statusOf p = 0 ∨ status p = 1 ∧ Ch.statusOf p = 1 ∨ status p = 2 ∧ Ch.statusOf p = 4 := by
  unfold status Ch.statusOf; split <;> (try split) <;> simp
 have hr2 := hr.step c2
 have L0 : LoadsTo G.P w2 3 ⟨W0.heap.size, 0, none⟩ (.int .i64 0) := ldRow hr2 encInt_len 0 0 zd zd rfl rfl rfl
 have L1 : LoadsTo G.P w2 3 ⟨W0.heap.size, 1, none⟩ (.int .i64 1) := ldRow hr2 encInt_len 1 0 zd zd rfl rfl rfl
 have L2 : LoadsTo G.P w2 3 ⟨W0.heap.size, 2, none⟩ (.int .i64 4) := ldRow hr2 encInt_len 2 0 zd zd rfl rfl rfl
 have hc2 := hE _ (c1.trans c2)
 clear hr hr2
 have hL : LoadsTo G.P w2 3 ⟨W0.heap.size, (status p).toNat, none⟩ (.int .i64 (Ch.statusOf p)) := by
  rcases hs with ⟨e1, e2⟩ | ⟨e1, e2⟩ | ⟨e1, e2⟩ <;> rw [e1, e2]
  ·exact L0
  ·exact L1
  ·exact L2
 have hb : 0 ≤ status p ∧ status p < 3 := by omega
 generalize status p = st at *
 refine zR ?_
 refine E.ctrue (inB_iff.2 ⟨hb.1, hb.2⟩) (zR ?_)
 refine loadK (.int .i64 (Ch.statusOf p)) ?_ ?_
 ·simpa [E.offZ_eq] using hL
 refine zR ?_
 exact ⟨rfl, hc2⟩
def bigAt (p : Pos) (i : Nat) : Bool := decide (Ch.kindOf (Ch.sq p i) = 2) || decide (Ch.kindOf (Ch.sq p i) = 3) || decide (Ch.kindOf (Ch.sq p i) = 6)
def knTo (p : Pos) (n : Nat) : Nat := Ch.cntN (fun i => decide (Ch.kindOf (Ch.sq p i) = 5)) n
def bsTo (p : Pos) (c : Int) (n : Nat) : Nat := Ch.cntN (fun i => decide (Ch.kindOf (Ch.sq p i) = 4) && decide ((Ch.file i + Ch.rank i) % 2 = c)) n
theorem dead_eq (p : Pos) : Ch.dead p = if Ch.anyN (bigAt p) 64 then false else if 0 < knTo p 64 then decide (knTo p 64 = 1) && decide (bsTo p 0 64 + bsTo p 1 64 = 0) else decide (bsTo p 0 64 = 0) || decide (bsTo p 1 64 = 0) := rfl
theorem zArr2 : (G.P.info? 180).bind (·.zero) = some (.agg #[.int .i64 0, .int .i64 0]) := by kernel_rfl
theorem Dead_c (p : Pos) (hp : Pc p) (w : World) : Calls G.P 90 #[posV p] w (Ret (.bool (Ch.dead p)) w) := by
 refine zN Tryz.func90 ?_
 refine zG ?_
 refine zR ?_
 generalize hW : w.alloc (.cells (posA p) 24) = W0
 have hP : ∀ w', Cl W0 w' → w'.heap[w.heap.size]? = some (.cells (posA p) 24 (0, 0)) := fun w' h => (hW ▸ h : Cl (w.alloc (.cells (posA p) 24)) w').blk (alloc_new _ _)
 have hE : ∀ w', Cl W0 w' → Cl w w' := fun w' h => (Cl.alloc _ _).trans (hW ▸ h)
 refine zR ?_
 refine gen_alloc _ zArr2 ?_
 have hb0 : (W0.alloc (.cells #[.int .i64 0, .int .i64 0] 180)).heap[W0.heap.size]? = some (.cells #[.int .i64 0, .int .i64 0] 180 (0, 0)) := alloc_new _ _
 have c1 := Cl.alloc W0 (.cells #[.int .i64 0, .int .i64 0] 180)
 simp only [Value.cells]
 generalize W0.alloc (.cells #[.int .i64 0, .int .i64 0] 180) = w1 at *
 refine zR ?_
 refine loopK (σ := Nat) [2, 3, 5] 6 (fun a => [(3, .int .i64 (knTo p a)), (5, .int .i64 a)]) (fun a w' => a ≤ 64 ∧ Ch.anyN (bigAt p) a = false ∧ w'.heap[W0.heap.size]? = some (.cells #[.int .i64 (bsTo p 0 a), .int .i64 (bsTo p 1 a)] 180 (0, 0)) ∧ Cl W0 w') (fun a => 64 - a) zk 0
  ⟨zo, rfl, hb0, c1⟩ ⟨rfl, rfl, trivial⟩ ?_
 rintro i j w2 ⟨hi, hno, hblk, hcl⟩
 have hkn : knTo p i ≤ 64 := Nat.le_trans (Ch.cntN_le _ _) hi
 have hbs : ∀ c, bsTo p c i ≤ 64 := fun c => Nat.le_trans (Ch.cntN_le _ _) hi
 refine zR ?_
 apply E.dsplit<;>intro h
 ·have hi64 : i < 64 := by omega
  clear h
  have ni : IntKind.i64.wrap ((i : Int) + 1) = ((i + 1 : Nat) : Int) := by rw [w64_in zo zo]; push_cast; omega
  have a1 : Ch.anyN (bigAt p) (i + 1) = (Ch.anyN (bigAt p) i || (decide (Ch.kindOf (Ch.sq p i) = 2) || decide (Ch.kindOf (Ch.sq p i) = 3) || decide (Ch.kindOf (Ch.sq p i) = 6))) := rfl
  have a2 : knTo p (i + 1) = knTo p i + (if decide (Ch.kindOf (Ch.sq p i) = 5) = true then 1 else 0) := rfl
  have a3 : ∀ c, bsTo p c (i + 1) = bsTo p c i + (if (decide (Ch.kindOf (Ch.sq p i) = 4) && decide ((Ch.file i + Ch.rank i) % 2 = c)) = true then 1 else 0) := fun c => rfl
  have hbig : bigAt p i = true → Ch.dead p = false := fun h => by
   rw [dead_eq, if_pos (Ch.anyN_of (i := i) hi64 h)]
  unfold bigAt at hbig
  refine zR ?_
  refine zC ?_
  refine zR ?_
  refine loadK _ (ldSq' (hP _ hcl) _ zo zo) (zR ?_)
  refine callS (KindOf_c _ _ (Pc.lo hp _) (Pc.hi hp _)) ?_
  generalize Ch.kindOf (Ch.sq p i) = k at *
  have fin : (k = 2 ∨ k = 3 ∨ k = 6) → Ch.dead p = false := fun h => hbig (by rcases h with rfl | rfl | rfl <;> rfl)
  refine zR ?_
  apply E.dsplit<;>intro h
  ·subst h
   refine zR ?_
   exact ⟨ret_bool (fin (.inl rfl)).symm, hE _ hcl⟩
  have k2 := h; clear h
  refine zR ?_
  apply E.dsplit<;>intro h
  ·subst h
   refine zR ?_
   exact ⟨ret_bool (fin (.inr (.inl rfl))).symm, hE _ hcl⟩
  have k3 := h; clear h
  refine zR ?_
  apply E.dsplit<;>intro h
  ·subst h
   refine zR ?_
   exact ⟨ret_bool (fin (.inr (.inr rfl))).symm, hE _ hcl⟩
  have k6 := h; clear h
  have hno' : (Ch.anyN (bigAt p) i || (decide (k = 2) || decide (k = 3) || decide (k = 6))) = false := by rw [hno]; simp [k2, k3, k6]
  refine zR ?_
  apply E.dsplit<;>intro h
  ·subst h
   refine zR ?_
   refine ⟨i + 1, ⟨int_eq ?_, int_eq ni, trivial⟩, ⟨zo, by rw [a1]; exact hno', ?_, hcl⟩, zo⟩
   ·rw [w64_in zo zo, a2]; simp
   ·rw [a3, a3]; simpa using hblk
  have k5 := h; clear h
  have hkn1 : knTo p (i + 1) = knTo p i := by rw [a2]; simp [k5]
  refine zR ?_
  apply E.dsplit<;>intro h
  ·subst h
   have fr : 0 ≤ Ch.file i ∧ Ch.file i ≤ 7 ∧ 0 ≤ Ch.rank i ∧ Ch.rank i ≤ 7 := by unfold Ch.file Ch.rank; omega
   have m1 : IntKind.i64.wrap (Ch.file i + Ch.rank i) = Ch.file i + Ch.rank i := w64_in zo zo
   have m2 : Int.tmod (Ch.file i + Ch.rank i) 2 = (Ch.file i + Ch.rank i) % 2 := Int.tmod_eq_emod_of_nonneg zo
   refine zR ?_
   refine callS (File_c _ _ zo) (zR ?_)
   refine callS (Rank_c _ _ zo zo) (zR ?_)
   simp only [m1, m2]
   generalize hC : (Ch.file i + Ch.rank i) % 2 = c at *
   have hc01 : c = 0 ∨ c = 1 := by omega
   have hld : LoadsTo G.P w2 3 ⟨W0.heap.size, c.toNat, none⟩ (.int .i64 (bsTo p c i)) := by
    rcases hc01 with rfl | rfl
    ·exact ldB hblk rfl rfl
    ·exact ldB hblk rfl rfl
   refine zC ?_
   refine zR ?_
   refine loadK (.int .i64 (bsTo p c i)) ?_ ?_
   ·simpa [E.offZ_eq] using hld
   refine zR ?_
   refine zC ?_
   refine zR ?_
   have hb1 := hbs c
   refine stK hblk [.int .i64 (IntKind.i64.wrap ((bsTo p c i : Int) + 1))] rfl szInt rfl (by simp [Value.oneCell']) (by simp [E.offZ_eq]; omega) (fun w3 u3 => zR ?_)
   refine ⟨i + 1, ⟨int_eq (by rw [hkn1]), int_eq ni, trivial⟩, ⟨zo, by rw [a1]; exact hno', ?_, u3.cl hcl (Nat.le_refl _)⟩, zo⟩
   rw [u3.at_, E.offZ_eq, a3, a3, w64_in zo zo]
   rcases hc01 with rfl | rfl <;> simp [over]
  ·have k4 := h; clear h
   refine zR ?_
   refine ⟨i + 1, ⟨int_eq (by rw [hkn1]), int_eq ni, trivial⟩, ⟨zo, by rw [a1]; exact hno', ?_, hcl⟩, zo⟩
   rw [a3, a3]; simpa [k4] using hblk
 ·have hi64 : i = 64 := by omega
  subst hi64
  have hd : Ch.dead p = if 0 < knTo p 64 then decide (knTo p 64 = 1) && decide (bsTo p 0 64 + bsTo p 1 64 = 0) else decide (bsTo p 0 64 = 0) || decide (bsTo p 1 64 = 0) := by
   rw [dead_eq, hno]; rfl
  have L0 : LoadsTo G.P w2 3 ⟨W0.heap.size, 0, none⟩ (.int .i64 (bsTo p 0 64)) := ldB hblk rfl rfl
  have L1 : LoadsTo G.P w2 3 ⟨W0.heap.size, 1, none⟩ (.int .i64 (bsTo p 1 64)) := ldB hblk rfl rfl
  have hb0 := hbs 0; have hb1 := hbs 1
  generalize bsTo p 0 64 = b0 at *
  generalize bsTo p 1 64 = b1 at *
  generalize knTo p 64 = kn at *
  refine zR ?_
  apply E.dsplit<;>intro h
  ·rw [if_pos zo] at hd
   refine zR ?_
   apply E.dsplit<;>intro h
   ·refine zR ?_
    refine loadK _ L0 (zR ?_)
    refine loadK _ L1 (zR ?_)
    refine ⟨ret_bool ?_, hE _ hcl⟩
    rw [hd, w64_in zo zo]
    rw [decide_eq_true (show kn = 1 by omega)]
    simp only [Bool.true_and]
    exact decide_eq_decide.2 zo
   ·refine zR ?_
    refine ⟨ret_bool ?_, hE _ hcl⟩
    rw [hd, decide_eq_false (show ¬ kn = 1 by omega)]; rfl
  ·rw [if_neg zo] at hd
   refine zR ?_
   refine loadK _ L0 (zR ?_)
   apply E.dsplit<;>intro h
   ·refine zR ?_
    refine ⟨ret_bool ?_, hE _ hcl⟩
    rw [hd, decide_eq_true (show b0 = 0 by omega)]; rfl
   ·refine zR ?_
    refine loadK _ L1 (zR ?_)
    refine ⟨ret_bool ?_, hE _ hcl⟩
    rw [hd, decide_eq_false (show ¬ b0 = 0 by omega)]
    simp only [Bool.false_or]
    exact decide_eq_decide.2 zo
structure PosR (p : Pos) : Prop where
 sq : ∀ x ∈ p.board, I64 x
 turn : I64 p.turn
 castle : I64 p.castle
 ep : I64 p.ep
 half : I64 p.half
 full : I64 p.full
def bdA (p : Pos) : Array Value := (posA p).extract 0 64
theorem bdA_list (p : Pos) : (bdA p).toList = p.board.map (Value.int .i64) := by
 simp only [bdA, posA, posL, Array.toList_extract, List.extract_eq_take_drop]
 rw [List.drop_zero, List.take_left' (by simp [p.len])]
theorem okBd (l : List Int) (h : ∀ x ∈ l, I64 x) : okL (List.replicate l.length (some .i64)) (l.map (Value.int .i64)) = true := by
 induction l with
 | nil => rfl
 | cons x r ih =>
  simp only [List.length_cons, List.replicate_succ, List.map_cons, okL, Bool.and_eq_true]
  exact ⟨by simp [okV, wf64 (h x (List.mem_cons_self))], ih fun y hy => h y (List.mem_cons_of_mem _ hy)⟩
theorem gdBd : G.P.eqGuardType G.P.depth 22 = false := by kernel_rfl
theorem bd_formed (p : Pos) : (Value.agg (bdA p)).formed G.P 22 = true := by
 have h : (bdA p).size = 64 := by simp [bdA, posA_size]
 have : (G.P.info? 22).map (·.size) = some 64 := by kernel_rfl
 have hu : G.P.underlying 22 = some (.array 64 3) := by kernel_rfl
 unfold Value.formed
 simp [h, Program.cellsOf, this, hu]
theorem eqBd {p q : Pos} (hp : PosR p) (hq : PosR q) (w : World) : (Op.equalIn 10000 22 (.agg (bdA p)) (.agg (bdA q))).run G.P w = .ok (decide (p.board = q.board)) w := by
 refine run_eqA (m := 2) (D := 2) (ks := List.replicate 64 (some .i64)) zk zd gdBd zk (bd_formed p) (bd_formed q) ?_ ?_ _ ?_ w
 ·rw [bdA_list]; have := okBd p.board hp.sq; rwa [p.len] at this
 ·rw [bdA_list]; have := okBd q.board hq.sq; rwa [q.len] at this
 ·rw [decide_eq_true_eq, bdA_list, bdA_list, List.map_map, List.map_map]
  constructor
  ·intro h; rw [h]
  ·intro h
   have : ∀ (a b : List Int), a.map (toLit ∘ Value.int .i64) = b.map (toLit ∘ Value.int .i64) → a = b := by
    intro a
    induction a with
    | nil => intro b h; cases b with
     | nil => rfl
     | cons => cases h
    | cons x r ih => intro b h; cases b with
     | nil => cases h
     | cons y s =>
      simp only [List.map_cons, Function.comp, toLit, List.cons.injEq, Lit.int.injEq, true_and] at h
      rw [h.1, ih s h.2]
   exact this _ _ h
theorem ldBd {p : Pos} {w : World} {b u : Nat} {fz : Nat × Nat} (hb : w.heap[b]? = some (.cells (posA p) u fz)) : LoadsTo G.P w 22 ⟨b, 0, none⟩ (.agg (bdA p)) :=
 ldA (t := 22) (o := 0) (z := 64) hb rfl (by rw [posA_size]; decide)
theorem Alike_c (p q : Pos) (hp : PosR p) (hq : PosR q) (w : World) : Calls G.P 17 #[posV p, posV q] w (Ret (.bool (Ch.alike p q)) w) := by
 refine zN Tryz.func17 ?_
 refine zG ?_
 generalize hW : (w.alloc (.cells (posA p) 24)).alloc (.cells (posA q) 24) = W0
 have hP : ∀ w', Cl W0 w' → w'.heap[w.heap.size]? = some (.cells (posA p) 24 (0, 0)) := fun w' h => (((Cl.alloc _ _).trans (hW ▸ h : Cl ((w.alloc (.cells (posA p) 24)).alloc (.cells (posA q) 24)) w')).blk (alloc_new _ _))
 have hQ : ∀ w', Cl W0 w' → w'.heap[(w.alloc (.cells (posA p) 24)).heap.size]? = some (.cells (posA q) 24 (0, 0)) := fun w' h => (hW ▸ h : Cl ((w.alloc (.cells (posA p) 24)).alloc (.cells (posA q) 24)) w').blk (alloc_new _ _)
 have hE : ∀ w', Cl W0 w' → Cl w w' := fun w' h => hE2 (hW ▸ h)
 have z := Cl.refl W0
 refine zR ?_
 refine loadK _ (ldBd (hP _ z)) (zR ?_)
 refine loadK _ (ldBd (hQ _ z)) (zR ?_)
 refine gen_eqA gdBd (eqBd hp hq) rfl rfl ?_
 have ha : Ch.alike p q = (decide (p.board = q.board) && decide (p.turn = q.turn) && decide (p.castle = q.castle) && decide (p.ep = q.ep)) := rfl
 generalize decide (p.board = q.board) = e1 at *
 cases e1
 ·refine zR ?_
  exact ⟨ret_bool (by rw [ha]; rfl), hE _ z⟩
 refine zR ?_
 refine loadK _ (ldTurn (hP _ z)) (zR ?_)
 refine loadK _ (ldTurn (hQ _ z)) ?_
 generalize ht : decide (p.turn = q.turn) = e2 at *
 refine zR ?_
 simp only [ht]
 cases e2
 ·refine zR ?_
  exact ⟨ret_bool (by rw [ha]; rfl), hE _ z⟩
 refine zR ?_
 refine loadK _ (ldCastle (hP _ z)) (zR ?_)
 refine loadK _ (ldCastle (hQ _ z)) (zR ?_)
 generalize decide (p.castle = q.castle) = e3 at *
 cases e3
 ·refine zR ?_
  exact ⟨ret_bool (by rw [ha]; rfl), hE _ z⟩
 refine zR ?_
 refine loadK _ (ldEp (hP _ z)) (zR ?_)
 refine loadK _ (ldEp (hQ _ z)) (zR ?_)
 exact ⟨ret_bool (by rw [ha]; simp), hE _ z⟩
theorem elPos : ElemOk 73 24 69 552 := elem_of zk
theorem encPos_len (p : Pos) : (posL p).length = 69 := by simp [posL, p.len]
theorem Times_c (l : List Pos) (q : Pos) (hl : ∀ p ∈ l, PosR p) (hq : l.getLast? = some q) (hn : l.length ≤ 100000) {b0 : Nat} {v : Value} (w : World) (hrow : Row 24 69 posL b0 w v l) : Calls G.P 89 #[v] w (Ret (.int .i64 (Ch.times l q)) w) := by
 obtain ⟨al, cl, rfl, hal⟩ := hrow.form
 have hpos : 0 < l.length := by
  cases l with
  | nil => cases hq
  | cons => simp
 obtain ⟨g, rfl⟩ := hal hpos
 have hlast : l[l.length - 1]'zo = q := by
  rw [List.getLast?_eq_getElem?, List.getElem?_eq_getElem zo] at hq
  exact Option.some.inj hq
 refine zN Tryz.func89 ?_
 refine zG ?_
 refine zR ?_
 refine loopK (σ := Nat) [3, 4] 5 (fun a => [(3, .int .i64 (Ch.times (l.take a) q)), (4, .int .i64 a)]) (fun a w' => a ≤ l.length ∧ Cl w w') (fun a => l.length - a) zk 0
  ⟨zo, Cl.refl _⟩ ⟨rfl, rfl, trivial⟩ ?_
 rintro i j w2 ⟨hi, hcl⟩
 refine zR ?_
 apply E.dsplit<;>intro h
 ·have hil : i < l.length := by omega
  clear h
  have ni : IntKind.i64.wrap ((i : Int) + 1) = ((i + 1 : Nat) : Int) := by rw [w64_in zo zo]; push_cast; omega
  have hcnt : Ch.times (l.take i) q ≤ i := by
   unfold Ch.times
   exact Nat.le_trans (List.length_filter_le _ _) (by rw [List.length_take]; omega)
  have hnx : Ch.times (l.take (i + 1)) q = Ch.times (l.take i) q + (if Ch.alike l[i] q = true then 1 else 0) := by
   unfold Ch.times
   rw [List.take_succ_eq_append_getElem hil, List.filter_append, List.length_append]
   by_cases h : Ch.alike l[i] q = true <;> simp [h]
  have hlm : IntKind.i64.wrap ((l.length : Int) - 1) = ((l.length - 1 : Nat) : Int) := by rw [w64_in zo zo]; omega
  refine zR ?_
  refine zK 11 ?_
  refine zR ?_
  refine zC ?_
  refine zR ?_
  refine loadQ (posV l[i]) (fun w hw => ldRowA (hrow.step (hcl.trans hw)) encPos_len i hil rfl ?_ rfl) ?_
  ·simp [E.offZ_eq]
  refine zR ?_
  refine zC ?_
  refine zR ?_
  refine loadQ (posV q) (fun w hw => ldRowA (hrow.step (hcl.trans hw)) encPos_len (l.length - 1) zo rfl ?_ (by rw [hlast]; rfl)) ?_
  ·simp [E.offZ_eq, hlm]
  refine zR ?_
  have hA : ∀ w, Calls G.P 17 #[posV l[i], posV q] w (Ret (.bool (Ch.alike l[i] q)) w) := fun w => Alike_c l[i] q (hl _ (List.getElem_mem hil)) (hl _ (List.mem_of_getLast? hq)) w
  show CallQ G.P (Cl w2) 17 #[posV l[i], posV q] _
  refine callQ _ (fun _ _ h => h.trans) (fun w _ => hA w) (zR ?_)
  intro w3 c3
  generalize hA : Ch.alike l[i] q = al at *
  refine zR ?_
  cases al
  ·refine zR ?_
   exact ⟨i + 1, ⟨int_eq (by rw [hnx]; simp), int_eq ni, trivial⟩, ⟨zo, hcl.trans c3⟩, zo⟩
  ·refine zR ?_
   exact ⟨i + 1, ⟨int_eq (by rw [hnx, w64_in zo zo]; simp), int_eq ni, trivial⟩, ⟨zo, hcl.trans c3⟩, zo⟩
 ·have hil : i = l.length := by omega
  subst hil
  refine zR ?_
  exact ⟨ret_int (by rw [List.take_length]), hcl⟩
def tx (l : Tx) : ByteArray := ⟨l.toArray⟩
def txV (l : Tx) : Value := .string (tx l)
theorem tx_size (l : Tx) : (tx l).size = l.length := by simp [tx, ByteArray.size]
theorem tx_app (a b : Tx) : tx a ++ tx b = tx (a ++ b) := by
 apply ByteArray.ext; simp [tx]
theorem tx_inj {a b : Tx} : tx a = tx b ↔ a = b := by
 constructor
 ·intro h; have := congrArg (fun x : ByteArray => x.data.toList) h; simpa [tx] using this
 ·intro h; rw [h]
theorem mk_tx (a : Array UInt8) : (⟨a⟩ : ByteArray) = tx a.toList := rfl
theorem fits_of {x y : ByteArray} (h : x.size + y.size ≤ 9223372036854775807) : E.fits2 x y = true := decide_eq_true h
theorem fits_tx {x y : Tx} (h : x.length + y.length ≤ 9223372036854775807) : E.fits2 (tx x) (tx y) = true := decide_eq_true (by rw [tx_size, tx_size]; exact h)
theorem uStr : G.P.underlying 9 = some .string := by kernel_rfl
theorem run_cut {w : World} {l r : Tx} {s : ByteArray} {k k' : IntKind} {a b : Int} (hs : s = tx l) (h0 : 0 ≤ a) (h1 : a ≤ b) (h2 : b ≤ l.length) (hr : (l.drop a.toNat).take (b.toNat - a.toNat) = r) :
  (Instr.slice 9 (.string s) (some (.int k a)) (some (.int k' b)) none).run G.P w = .ok (txV r) w := by
 subst hs
 rw [run_slice_string (P := G.P) w 9 _ _ _ _ _ uStr h0 h1 (by rw [tx_size]; exact h2), tx, ByteArray.extract_mk, hr]; rfl
theorem gen_cut {l : Tx} {s : ByteArray} {k k' : IntKind} {a b : Int} {x lo hi : Operand} {dst : Option Nat} {ty : Nat} {pos : String} {af : Array Edge} {gd : Option (Nat × Bool)} {env : Env} {w : World} {K : Value → World → Prop}
  (r' : Tx) (hx : ev env x = .string s) (hlo : ev env lo = .int k a) (hhi : ev env hi = .int k' b) (hs : s = tx l) (h0 : 0 ≤ a) (h1 : a ≤ b) (h2 : b ≤ l.length) (hr : (l.drop a.toNat).take (b.toNat - a.toNat) = r') (h : K (txV r') w) :
  GenK G.P { dst, op := .slice 9 x (some lo) (some hi) none, type := ty, pos, after := af, guard := gd } env w K := by
 refine ⟨.inl ⟨_, w, ?_, h⟩⟩
 show (do pure (Next.value (← Instr.slice 9 (ev env x) (some (ev env lo)) (some (ev env hi)) none)) : Sem Next).run G.P w = _
 rw [hx, hlo, hhi, Sem.run_bind, run_cut hs h0 h1 h2 hr]; rfl
theorem genQ_cut {C : World → Prop} {l : Tx} {s : ByteArray} {k k' : IntKind} {a b : Int} {x lo hi : Operand} {dst : Option Nat} {ty : Nat} {pos : String} {af : Array Edge} {gd : Option (Nat × Bool)} {env : Env} {K : Value → Prop}
  (r' : Tx) (hx : ev env x = .string s) (hlo : ev env lo = .int k a) (hhi : ev env hi = .int k' b) (hs : s = tx l) (h0 : 0 ≤ a) (h1 : a ≤ b) (h2 : b ≤ l.length) (hr : (l.drop a.toNat).take (b.toNat - a.toNat) = r') (h : K (txV r')) :
  GenQ G.P C { dst, op := .slice 9 x (some lo) (some hi) none, type := ty, pos, after := af, guard := gd } env K := by
 refine ⟨_, fun w _ => ?_, h⟩
 show (do pure (Next.value (← Instr.slice 9 (ev env x) (some (ev env lo)) (some (ev env hi)) none)) : Sem Next).run G.P w = _
 rw [hx, hlo, hhi, Sem.run_bind, run_cut hs h0 h1 h2 hr]; rfl
theorem ret_tx {x : ByteArray} {l : Tx} (h : x = tx l) : Ending.returned (.string x) = .returned (txV l) := by rw [h]; rfl
theorem cutF : ∀ i < 8, (([97, 98, 99, 100, 101, 102, 103, 104] : Tx).drop i).take 1 = [UInt8.ofNat (97 + i)] := by decide
theorem cutR : ∀ i < 8, (([49, 50, 51, 52, 53, 54, 55, 56] : Tx).drop i).take 1 = [UInt8.ofNat (49 + i)] := by decide
theorem cutD : ∀ i < 10, (([48, 49, 50, 51, 52, 53, 54, 55, 56, 57] : Tx).drop i).take 1 = [UInt8.ofNat (48 + i)] := by decide
theorem tmod_nn {n m : Int} (h : 0 ≤ n) : n.tmod m = n % m := Int.tmod_eq_emod_of_nonneg h
theorem tdiv_nn {n m : Int} (h : 0 ≤ n) : n.tdiv m = n / m := Int.tdiv_eq_ediv_of_nonneg h
theorem FenSquare_c (n : Int) (h0 : 0 ≤ n) (h1 : n ≤ 63) (w : World) : Calls G.P 47 #[.int .i64 n] w (Ret (txV (Ch.fileT n ++ Ch.rankT n)) w) := by
 refine zN Tryz.func47 ?_
 refine zG ?_
 refine zR ?_
 refine zK 14 ?_
 have e1 : n.tmod 8 = n % 8 := tmod_nn h0
 have e2 : n.tdiv 8 = n / 8 := tdiv_nn h0
 have e3 : IntKind.i64.wrap (n % 8 + 1) = n % 8 + 1 := w64_in zo zo
 have e4 : IntKind.i64.wrap (n / 8) = n / 8 := w64_in zo zo
 have e5 : IntKind.i64.wrap (n / 8 + 1) = n / 8 + 1 := w64_in zo zo
 refine zR ?_
 refine genQ_cut (Ch.fileT n) rfl rfl rfl (mk_tx _) ?_ ?_ ?_ ?_ ?_
 ·rw [e1]; omega
 ·rw [e1, e3]; omega
 ·rw [e1, e3]; simp; omega
 ·rw [e1, e3, show (n % 8 + 1).toNat - (n % 8).toNat = 1 by omega]; exact cutF _ zo
 refine zR ?_
 refine genQ_cut (Ch.rankT n) rfl rfl rfl (mk_tx _) ?_ ?_ ?_ ?_ ?_
 ·rw [e2, e4]; omega
 ·rw [e2, e4, e5]; omega
 ·rw [e2, e4, e5]; simp; omega
 ·rw [e2, e4, e5, show (n / 8 + 1).toNat - (n / 8).toNat = 1 by omega]; exact cutR _ zo
 refine zR ?_
 intro w1 c1
 refine zR ?_
 exact ⟨ret_tx (tx_app _ _), c1⟩
theorem dec_len : ∀ (k n : Nat), 0 < k → n < 10 ^ k → (Ch.dec n).length ≤ k := by
 intro k
 induction k with
 | zero => intro n h; omega
 | succ k ih =>
  intro n _ h
  rw [Ch.dec]
  split
  ·simp
  ·rename_i h10
   have hk : 0 < k := by
    rcases Nat.eq_zero_or_pos k with h0 | h0
    ·subst h0; simp at h; omega
    ·exact h0
   have := ih (n / 10) hk (by rw [Nat.pow_succ] at h; omega)
   simp; exact this
theorem dec_len20 {n : Nat} (h : n < 9223372036854775808) : (Ch.dec n).length ≤ 19 := dec_len 19 n zd zo
theorem fenDecimal_c : ∀ (n : Nat) (w : World), n < 9223372036854775808 → Calls G.P 50 #[.int .i64 n] w (Ret (txV (Ch.dec n)) w) := by
 intro n
 induction n using Nat.strongRecOn with
 | _ n ih =>
 intro w hn
 refine zN Tryz.func50 ?_
 refine zG ?_
 refine zR ?_
 apply E.dsplit<;>intro h
 ·have e1 : IntKind.i64.wrap ((n : Int) + 1) = n + 1 := w64_in zo zo
  refine zR ?_
  refine gen_cut (Ch.dec n) rfl rfl rfl (mk_tx _) ?_ ?_ ?_ ?_ ?_
  ·omega
  ·rw [e1]; omega
  ·rw [e1]; simp; omega
  ·rw [e1, show ((n : Int) + 1).toNat - (n : Int).toNat = 1 by omega, Ch.dec, dif_pos zo]; exact cutD _ zo
  refine zR ?_
  exact ⟨rfl, Cl.refl _⟩
 ·have e1 : (n : Int).tmod 10 = ((n % 10 : Nat) : Int) := by rw [tmod_nn zo]; omega
  have e2 : IntKind.i64.wrap ((n : Int).tdiv 10) = ((n / 10 : Nat) : Int) := by rw [tdiv_nn zo, w64_in zo zo]; omega
  have e3 : IntKind.i64.wrap (((n % 10 : Nat) : Int) + 1) = ((n % 10 + 1 : Nat) : Int) := by rw [w64_in zo zo]; omega
  refine zR ?_
  refine zK 11 ?_
  refine zR ?_
  refine callQ (txV (Ch.dec (n / 10))) (fun _ _ h => h.trans) (fun w _ => ?_) ?_
  ·have := ih (n / 10) zo w zo
   rw [← e2] at this; exact this
  refine zR ?_
  refine genQ_cut [UInt8.ofNat (48 + n % 10)] rfl rfl rfl (mk_tx _) ?_ ?_ ?_ ?_ ?_
  ·rw [e1]; omega
  ·rw [e1, e3]; omega
  ·rw [e1, e3]; simp; omega
  ·rw [e1, e3, show ((n % 10 + 1 : Nat) : Int).toNat - ((n % 10 : Nat) : Int).toNat = 1 by omega]; exact cutD _ zo
  refine zR ?_
  have hl := dec_len20 (n := n / 10) zo
  refine E.ctrue (fits_tx (by simp; omega)) (zR ?_)
  intro w1 c1
  refine zR ?_
  refine ⟨ret_tx ?_, c1⟩
  rw [tx_app, Ch.dec.eq_def n, dif_neg zo]
theorem bdA_sq (p : Pos) (i : Nat) (h : i < 64) : (bdA p)[i]? = some (.int .i64 (Ch.sq p i)) := by
 have := posA_sq p i h
 simp only [bdA, Array.getElem?_extract]
 rw [if_pos (by rw [posA_size]; omega), Nat.zero_add, this]
theorem ldBq {p : Pos} {w : World} {b t i : Nat} {fz : Nat × Nat} (hb : w.heap[b]? = some (.cells (bdA p) t fz)) (m : Int) (h0 : 0 ≤ m) (h1 : m < 64) (hi : i = m.toNat) :
  LoadsTo G.P w 3 ⟨b, i, none⟩ (.int .i64 (Ch.sq p m)) := by
 subst hi
 refine ldB hb ?_ rfl
 rw [bdA_sq p _ zo, Int.toNat_of_nonneg h0]
theorem cntT_len {e : Nat} (h : e ≤ 100) : (Ch.cntT e).length ≤ 3 := by
 unfold Ch.cntT
 split
 ·simp
 ·exact dec_len 3 e zd zo
theorem pcT_len (x : Int) : (Ch.pcT x).length ≤ 1 := by
                               unfold Ch.pcT; iterate 12 (split; · simp)
                               simp
theorem rowT_len (g : Nat → Int) : ∀ (n f e : Nat), e + n ≤ 100 → (Ch.rowT g n f e).length ≤ 4 * n + 3 := by
 intro n
 induction n with
 | zero => intro f e h; exact cntT_len zo
 | succ n ih =>
  intro f e h
  rw [Ch.rowT]
  split
  ·have := ih (f + 1) (e + 1) zo; omega
  ·have := ih (f + 1) 0 zo; have := cntT_len (e := e) zo; have := pcT_len (g f)
   simp; omega
theorem boardT_len (p : Pos) : ∀ r, (Ch.boardT p r).length ≤ 36 * r := by
 intro r
 induction r with
 | zero => simp [Ch.boardT]
 | succ r ih =>
  rw [Ch.boardT]
  have := rowT_len (fun f => Ch.sq p (8 * (r : Int) + f)) 8 0 0 zo
  simp only [List.length_append]
  split <;> simp <;> omega
theorem cutP : ∀ i < 12, (([75, 81, 82, 66, 78, 80, 107, 113, 114, 98, 110, 112] : Tx).drop i).take 1 = Ch.pcT ((i : Int) + 1) := by decide
theorem FenBoard_c (p : Pos) (hp : Pc p) (w : World) : Calls G.P 48 #[.agg (bdA p)] w (Ret (txV (Ch.boardT p 8)) w) := by
 refine zN Tryz.func48 ?_
 refine zG ?_
 generalize hW : w.alloc (.cells (bdA p) 22) = W0
 have hP : ∀ w', Cl W0 w' → w'.heap[w.heap.size]? = some (.cells (bdA p) 22 (0, 0)) := fun w' h => (hW ▸ h : Cl (w.alloc (.cells (bdA p) 22)) w').blk (alloc_new _ _)
 have hE : ∀ w', Cl W0 w' → Cl w w' := fun w' h => (Cl.alloc _ _).trans (hW ▸ h)
 have hT := boardT_len p 8
 refine zR ?_
 refine loopK (σ := Nat × Tx) [3, 4, 5, 6, 7] 8 (fun a => [(3, txV a.2), (4, .int .i64 ((a.1 : Int) - 1))]) (fun a w' => a.1 ≤ 8 ∧ a.2 ++ Ch.boardT p a.1 = Ch.boardT p 8 ∧ Cl W0 w') (fun a => a.1) zk (8, [])
  ⟨by simp, rfl, Cl.refl _⟩ ⟨rfl, rfl, trivial⟩ ?_
 rintro ⟨r, X⟩ j w1 ⟨hr, hX, hcl⟩
 simp only at hr hX ⊢
 refine zR ?_
 apply E.dsplit<;>intro h
 ·obtain ⟨r', rfl⟩ : ∃ r', r = r' + 1 := ⟨r - 1, zo⟩
  clear h
  rw [show (((r' + 1 : Nat) : Int) - 1) = (r' : Int) by omega]
  have nr : IntKind.i64.wrap ((r' : Int) - 1) = (r' : Int) - 1 := w64_in zo zo
  have n8 : IntKind.i64.wrap (8 * (r' : Int)) = 8 * (r' : Int) := w64_in zo zo
  have hb1 : Ch.boardT p (r' + 1) = Ch.rowT (fun f => Ch.sq p (8 * (r' : Int) + f)) 8 0 0 ++ (if r' = 0 then [] else [47]) ++ Ch.boardT p r' := rfl
  generalize hg : (fun f : Nat => Ch.sq p (8 * (r' : Int) + f)) = g at *
  have hXl : X.length + (Ch.rowT g 8 0 0).length ≤ 288 := by
   have := congrArg List.length hX
   rw [hb1] at this
   simp only [List.length_append] at this
   omega
  refine zR ?_
  refine loopK (σ := Nat × Nat × Tx) [3, 5, 6, 7] 8 (fun a => [(3, txV (X ++ a.2.2)), (5, .int .i64 a.2.1), (6, .int .i64 a.1)]) (fun a w' => a.1 ≤ 8 ∧ a.2.1 ≤ a.1 ∧ a.2.2 ++ Ch.rowT g (8 - a.1) a.1 a.2.1 = Ch.rowT g 8 0 0 ∧ Cl W0 w') (fun a => 8 - a.1) zk (0, 0, [])
   ⟨by simp, by simp, rfl, hcl⟩ ⟨by simp only [List.append_nil]; rfl, rfl, rfl, trivial⟩ ?_
  rintro ⟨f, e, Y⟩ j2 w2 ⟨hf, he, hY, hcl2⟩
  simp only at hf he hY ⊢
  have hYl : X.length + Y.length ≤ 288 := by
   have := congrArg List.length hY
   simp only [List.length_append] at this
   omega
  refine zR ?_
  apply E.dsplit<;>intro h
  ·have hf8 : f < 8 := by omega
   clear h
   have nf : IntKind.i64.wrap ((f : Int) + 1) = ((f + 1 : Nat) : Int) := by rw [w64_in zo zo]; omega
   have ne : IntKind.i64.wrap ((e : Int) + 1) = ((e + 1 : Nat) : Int) := by rw [w64_in zo zo]; omega
   have ns : IntKind.i64.wrap (8 * (r' : Int) + f) = 8 * (r' : Int) + f := w64_in zo zo
   have hrow : Ch.rowT g (8 - f) f e = if g f < 1 ∨ g f > 12 then Ch.rowT g (8 - (f + 1)) (f + 1) (e + 1) else Ch.cntT e ++ Ch.pcT (g f) ++ Ch.rowT g (8 - (f + 1)) (f + 1) 0 := by
    rw [show 8 - f = (8 - (f + 1)) + 1 by omega]; rfl
   refine zR ?_
   simp only [n8, ns]
   refine zC ?_
   refine zR ?_
   refine loadK (.int .i64 (g f)) ?_ ?_
   ·rw [← hg]; exact ldBq (hP _ hcl2) _ zo zo (by simp [E.offZ_eq])
   have hgb : 0 ≤ g f ∧ g f ≤ 12 := by rw [← hg]; exact hp _
   generalize hk : g f = k at *
   refine zR ?_
   apply E.dsplit<;>intro h
   ·refine zR ?_
    refine ⟨(f + 1, e + 1, Y), ⟨rfl, int_eq ne, int_eq nf, trivial⟩, ⟨by simp; omega, by simp; omega, ?_, hcl2⟩, by simp; omega⟩
    simp only
    rw [hrow, if_pos (.inl h)] at hY; exact hY
   ·have h1 := h; clear h
    refine zR ?_
    apply E.dsplit<;>intro h
    ·omega
    ·rw [hrow, if_neg zo] at hY
     have nk : IntKind.i64.wrap (k - 1) = k - 1 := w64_in zo zo
     clear h
     refine zR ?_
     apply E.dsplit<;>intro h
     ·have hce : Ch.cntT e = Ch.dec e := by unfold Ch.cntT; rw [if_neg zo]
      have hdl := dec_len 2 e zd zo
      refine zR ?_
      refine callR (fenDecimal_c e _ zo) fun w3 c3 => zR ?_
      refine E.ctrue (fits_tx (by rw [List.length_append]; omega)) ?_
      rw [tx_app]
      refine zR ?_
      simp only [nk]
      refine gen_cut (Ch.pcT k) rfl rfl rfl (mk_tx _) zo zo (by simp; omega) ?_ ?_
      ·rw [show k.toNat - (k - 1).toNat = 1 by omega, cutP _ zo]; congr 1; omega
      refine zR ?_
      have hpl := pcT_len k
      refine E.ctrue (fits_tx (by simp only [List.length_append]; omega)) ?_
      rw [tx_app]
      refine zR ?_
      refine ⟨(f + 1, 0, Y ++ Ch.dec e ++ Ch.pcT k), ⟨?_, rfl, int_eq nf, trivial⟩, ⟨by simp; omega, by simp, ?_, hcl2.trans c3⟩, by simp; omega⟩
      ·show Value.string _ = Value.string _
       simp only [List.append_assoc]
      ·simp only; rw [← hY, hce]; simp only [List.append_assoc]
     ·have he0 : e = 0 := by omega
      subst he0
      refine zR ?_
      simp only [nk]
      refine gen_cut (Ch.pcT k) rfl rfl rfl (mk_tx _) zo zo (by simp; omega) ?_ ?_
      ·rw [show k.toNat - (k - 1).toNat = 1 by omega, cutP _ zo]; congr 1; omega
      refine zR ?_
      have hpl := pcT_len k
      refine E.ctrue (fits_tx (by simp only [List.length_append]; omega)) ?_
      rw [tx_app]
      refine zR ?_
      refine ⟨(f + 1, 0, Y ++ Ch.pcT k), ⟨?_, rfl, int_eq nf, trivial⟩, ⟨by simp; omega, by simp, ?_, hcl2⟩, by simp; omega⟩
      ·show Value.string _ = Value.string _
       simp only [List.append_assoc]
      ·simp only; rw [← hY]; simp [Ch.cntT, List.append_assoc]
  ·have hf8 : f = 8 := by omega
   subst hf8
   clear h
   have hend : Y ++ Ch.cntT e = Ch.rowT g 8 0 0 := hY
   have hout : ∀ T : Tx, X ++ Y ++ Ch.cntT e ++ (if r' = 0 then [] else [47]) = T → T ++ Ch.boardT p r' = Ch.boardT p 8 := by
    intro T hT; rw [← hT, ← hX, hb1, ← hend]; simp only [List.append_assoc]
   refine zR ?_
   apply E.dsplit<;>intro h
   ·have hce : Ch.cntT e = Ch.dec e := by unfold Ch.cntT; rw [if_neg zo]
    have hdl := dec_len 2 e zd zo
    rw [hce] at hout
    refine zR ?_
    refine callR (fenDecimal_c e _ zo) fun w3 c3 => zR ?_
    refine E.ctrue (fits_tx (by rw [List.length_append]; omega)) ?_
    rw [tx_app]
    refine zR ?_
    apply E.dsplit<;>intro h
    ·refine zR ?_
     refine E.ctrue (fits_of (by simp only [tx_size, List.length_append]; simp [ByteArray.size]; omega)) ?_
     rw [mk_tx, tx_app]
     refine zR ?_
     refine ⟨(r', X ++ Y ++ Ch.dec e ++ [47]), ⟨rfl, int_eq nr, trivial⟩, ⟨by simp; omega, ?_, hcl2.trans c3⟩, by simp⟩
     simp only
     exact hout _ (by rw [if_neg zo])
    ·refine zR ?_
     refine ⟨(r', X ++ Y ++ Ch.dec e), ⟨rfl, int_eq nr, trivial⟩, ⟨by simp; omega, ?_, hcl2.trans c3⟩, by simp⟩
     simp only
     exact hout _ (by rw [if_pos zo, List.append_nil])
   ·have hce : Ch.cntT e = [] := by unfold Ch.cntT; rw [if_pos zo]
    rw [hce] at hout
    refine zR ?_
    apply E.dsplit<;>intro h
    ·refine zR ?_
     refine E.ctrue (fits_of (by simp only [tx_size, List.length_append]; simp [ByteArray.size]; omega)) ?_
     rw [mk_tx, tx_app]
     refine zR ?_
     refine ⟨(r', X ++ Y ++ [47]), ⟨rfl, int_eq nr, trivial⟩, ⟨by simp; omega, ?_, hcl2⟩, by simp⟩
     simp only
     exact hout _ (by rw [if_neg zo, List.append_nil])
    ·refine zR ?_
     refine ⟨(r', X ++ Y), ⟨rfl, int_eq nr, trivial⟩, ⟨by simp; omega, ?_, hcl2⟩, by simp⟩
     simp only
     exact hout _ (by rw [if_pos zo, List.append_nil, List.append_nil])
 ·have hr0 : r = 0 := by omega
  subst hr0
  refine zR ?_
  refine ⟨ret_tx ?_, hE _ hcl⟩
  rw [tx_inj, ← hX]; simp [Ch.boardT]
def rightT (n : Nat) : Tx := if n = 0 then [75] else if n = 1 then [81] else if n = 2 then [107] else [113]
def castTo (c : Int) : Nat → Tx
 | 0 => []
 | n + 1 => castTo c n ++ (if Ch.bit c n = true then rightT n else [])
theorem castTo_len (c : Int) : ∀ n, (castTo c n).length ≤ n := by
 intro n
 induction n with
 | zero => simp [castTo]
 | succ n ih =>
  rw [castTo, List.length_append]
  have : (if Ch.bit c n = true then rightT n else []).length ≤ 1 := by
   split
   ·unfold rightT; repeat' split
    all_goals simp
   ·simp
  omega
theorem castT_eq (c : Int) : Ch.castT c = if castTo c 4 = [] then [45] else castTo c 4 := by
 unfold Ch.castT
 simp only [castTo, rightT, List.nil_append]
 cases Ch.bit c 0 <;> cases Ch.bit c 1 <;> cases Ch.bit c 2 <;> cases Ch.bit c 3 <;> rfl
theorem cutC : ∀ i < 4, (([75, 81, 107, 113] : Tx).drop i).take 1 = rightT i := by decide
theorem FenCastle_c (c : Int) (h0 : 0 ≤ c) (h1 : c ≤ 15) (w : World) : Calls G.P 49 #[.int .i64 c] w (RetS (txV (Ch.castT c)) w) := by
 refine zN Tryz.func49 ?_
 refine zG ?_
 refine zR ?_
 refine loopK (σ := Nat) [3, 4] 5 (fun a => [(3, txV (castTo c a)), (4, .int .i64 a)]) (fun a w' => a ≤ 4 ∧ w' = w) (fun a => 4 - a) zk 0
  ⟨zo, rfl⟩ ⟨rfl, rfl, trivial⟩ ?_
 rintro n j w2 ⟨hn, hw⟩
 subst hw
 have hl := castTo_len c n
 refine zR ?_
 apply E.dsplit<;>intro h
 ·have hn4 : n < 4 := by omega
  clear h
  have nn : IntKind.i64.wrap ((n : Int) + 1) = ((n + 1 : Nat) : Int) := by rw [w64_in zo zo]; omega
  refine zR ?_
  intro r2 hr2
  have hbi := bit_iff h0 h1 hn4
  refine zR ?_
  intro r3 hr3
  rw [← hr2, ← hr3] at hbi
  clear hr2 hr3
  refine zR ?_
  apply E.dsplit<;>intro h
  ·have hb := hbi.1 h
   refine zR ?_
   refine gen_cut (rightT n) rfl rfl rfl (mk_tx _) zo (by rw [nn]; omega) (by rw [nn]; simp only [Array.length_toList]; show ((n + 1 : Nat) : Int) ≤ 4; omega) ?_ ?_
   ·rw [nn, show ((n + 1 : Nat) : Int).toNat - (n : Int).toNat = 1 by omega]; exact cutC _ zo
   refine zR ?_
   have hr : (rightT n).length ≤ 1 := by
    unfold rightT; repeat' split
    all_goals simp
   refine E.ctrue (fits_tx zo) ?_
   rw [tx_app]
   refine zR ?_
   exact ⟨n + 1, ⟨by rw [castTo, if_pos hb]; rfl, int_eq nn, trivial⟩, ⟨zo, rfl⟩, zo⟩
  ·have hb : Ch.bit c n = false := by
    cases hh : Ch.bit c n
    ·rfl
    ·exact absurd (hbi.2 hh) h
   refine zR ?_
   exact ⟨n + 1, ⟨by rw [castTo, hb]; simp only [List.append_nil, Bool.false_eq_true, if_false]; rfl, int_eq nn, trivial⟩, ⟨zo, rfl⟩, zo⟩
 ·have hn4 : n = 4 := by omega
  subst hn4
  clear h
  refine zR ?_
  apply E.dsplit<;>intro h
  ·have he : castTo c 4 = [] := by rw [mk_tx] at h; exact tx_inj.1 h
   refine zR ?_
   exact ⟨ret_tx (by rw [castT_eq, if_pos he]; rfl), rfl⟩
  ·have he : castTo c 4 ≠ [] := fun e => h (by rw [mk_tx, e])
   refine zR ?_
   exact ⟨ret_tx (by rw [castT_eq, if_neg he]), rfl⟩
theorem tx_lit (l a : Tx) : tx a ++ (⟨l.toArray⟩ : ByteArray) = tx (a ++ l) := tx_app a l
theorem castT_len (c : Int) : (Ch.castT c).length ≤ 4 := by
 rw [castT_eq]; split
 ·simp
 ·exact castTo_len c 4
theorem epT_len (e : Int) : (Ch.epT e).length ≤ 2 := by
 unfold Ch.epT; split
 ·simp [Ch.fileT, Ch.rankT]
 ·simp
theorem turnT_len (e : Int) : (Ch.turnT e).length = 1 := by unfold Ch.turnT; split <;> rfl
theorem genQ_max0 {C : World → Prop} {n : Int} (h0 : 0 ≤ n) {k k' : IntKind} {x y : Operand} {ts : Array Nat} {dst : Option Nat} {ty : Nat} {pos : String} {af : Array Edge} {gd : Option (Nat × Bool)} {env : Env} {K : Value → Prop}
  (hx : ev env x = .int k n) (hy : ev env y = .int k' 0) (h : K (.int k n)) :
  GenQ G.P C { dst, op := .call { callee := .builtin .max, args := #[x, y], argTypes := ts }, type := ty, pos, after := af, guard := gd } env K := by
 refine ⟨_, fun w _ => ?_, h⟩
 simp only [execOp, resolve, invoke, builtin, Sem.run_bind, Sem.run_pure, Result.andThen_ok, List.map_toArray, List.map_cons, List.map_nil, hx, hy]
 rw [run_max_int2, if_neg zo]; rfl
structure Fen (p : Pos) : Prop where
 pc : Pc p
 c0 : 0 ≤ p.castle
 c1 : p.castle ≤ 15
 h0 : 0 ≤ p.half
 h1 : p.half < 9223372036854775808
 f0 : 0 ≤ p.full
 f1 : p.full < 9223372036854775808
theorem FenText_c (p : Pos) (hp : Fen p) (w : World) : Calls G.P 18 #[posV p] w (Ret (txV (Ch.fenT p)) w) := by
 refine zN Tryz.func18 ?_
 refine zG ?_
 generalize hW : w.alloc (.cells (posA p) 24) = W0
 have hP : ∀ w', Cl W0 w' → w'.heap[w.heap.size]? = some (.cells (posA p) 24 (0, 0)) := fun w' h => (hW ▸ h : Cl (w.alloc (.cells (posA p) 24)) w').blk (alloc_new _ _)
 have hE : ∀ w', Cl W0 w' → Cl w w' := fun w' h => (Cl.alloc _ _).trans (hW ▸ h)
 obtain ⟨hpc, c0, c1, hh0, hh1, hf0, hf1⟩ := hp
 have hbl := boardT_len p 8
 have hcl := castT_len p.castle
 have hel := epT_len p.ep
 have htl := turnT_len p.turn
 have hhl := dec_len20 (n := p.half.toNat) zo
 have hfl := dec_len20 (n := p.full.toNat) zo
 have hsq : ∀ w, 0 ≤ p.ep → p.ep < 64 → Calls G.P 47 #[.int .i64 p.ep] w (Ret (txV (Ch.epT p.ep)) w) := fun w h h' => by
  have := FenSquare_c p.ep h zo w
  unfold Ch.epT; rw [if_pos ⟨h, h'⟩]; exact this
 have hT : Ch.fenT p = Ch.boardT p 8 ++ [32] ++ Ch.turnT p.turn ++ [32] ++ Ch.castT p.castle ++ [32] ++ Ch.epT p.ep ++ [32] ++ Ch.dec p.half.toNat ++ [32] ++ Ch.dec p.full.toNat := rfl
 rw [hT]
 clear hT
 refine Nx.mk (zG ?_)
 refine joinK (σ := Unit) [3, 5, 6, 7] 8 (fun _ => [(3, txV (Ch.turnT p.turn))]) (fun _ w' => w' = W0) zk ?_ (fun _ j w3 h => ?_)
 ·refine zR ?_
  refine loadK _ (ldTurn (hP _ (Cl.refl _))) (zR ?_)
  apply E.dsplit<;>intro h
  ·refine zR ?_
   exact ⟨(), ⟨by unfold Ch.turnT; rw [if_pos h]; rfl, trivial⟩, rfl⟩
  ·refine zR ?_
   exact ⟨(), ⟨by unfold Ch.turnT; rw [if_neg h]; rfl, trivial⟩, rfl⟩
 subst h
 refine joinK (σ := Unit) [4, 8, 9, 10, 11, 12, 13, 14, 15, 16, 17, 18] 19 (fun _ => [(4, txV (Ch.epT p.ep))]) (fun _ w' => Cl w3 w') zk ?_ (fun _ j w4 c4 => ?_)
 ·refine zR ?_
  refine loadK _ (ldEp (hP _ (Cl.refl _))) (zR ?_)
  apply E.dsplit<;>intro h
  ·have e0 := h; clear h
   refine zR ?_
   refine loadK _ (ldEp (hP _ (Cl.refl _))) (zR ?_)
   apply E.dsplit<;>intro h
   ·refine zR ?_
    refine loadK _ (ldEp (hP _ (Cl.refl _))) (zR ?_)
    refine callR (hsq _ e0 h) fun w4 c4 => zR ?_
    exact ⟨(), ⟨rfl, trivial⟩, c4⟩
   ·refine zR ?_
    exact ⟨(), ⟨by unfold Ch.epT; rw [if_neg zo]; rfl, trivial⟩, Cl.refl _⟩
  ·refine zR ?_
   exact ⟨(), ⟨by unfold Ch.epT; rw [if_neg zo]; rfl, trivial⟩, Cl.refl _⟩
 generalize hb : Ch.boardT p 8 = B at *
 generalize Ch.turnT p.turn = T1 at *
 generalize hc : Ch.castT p.castle = T2 at *
 generalize Ch.epT p.ep = T3 at *
 refine zR ?_
 refine zK 27 ?_
 refine zR ?_
 refine loadQ (.agg (bdA p)) (fun w hw => ldBd (hP _ (c4.trans hw))) (zR ?_)
 refine callQ (txV B) (fun _ _ h => h.trans) (fun w _ => ?_) ?_
 ·rw [← hb]; exact FenBoard_c p hpc w
 refine zR ?_
 refine E.ctrue (fits_of (by simp only [tx_size]; simp [ByteArray.size]; omega)) ?_
 rw [tx_lit [32]]
 refine zR ?_
 refine E.ctrue (fits_tx (by simp only [List.length_append]; simp; omega)) ?_
 rw [tx_app]
 refine zR ?_
 refine E.ctrue (fits_of (by simp only [tx_size]; simp [ByteArray.size]; omega)) ?_
 rw [tx_lit [32]]
 refine zR ?_
 refine loadQ _ (fun w hw => ldCastle (hP _ (c4.trans hw))) (zR ?_)
 refine callQs (txV T2) (fun w _ => ?_) ?_
 ·rw [← hc]; exact FenCastle_c p.castle c0 c1 w
 refine zR ?_
 refine E.ctrue (fits_tx (by simp only [List.length_append]; simp; omega)) ?_
 rw [tx_app]
 refine zR ?_
 refine E.ctrue (fits_of (by simp only [tx_size]; simp [ByteArray.size]; omega)) ?_
 rw [tx_lit [32]]
 refine zR ?_
 refine E.ctrue (fits_tx (by simp only [List.length_append]; simp; omega)) ?_
 rw [tx_app]
 refine zR ?_
 refine E.ctrue (fits_of (by simp only [tx_size]; simp [ByteArray.size]; omega)) ?_
 rw [tx_lit [32]]
 refine zR ?_
 refine loadQ _ (fun w hw => ldHalf (hP _ (c4.trans hw))) (zR ?_)
 refine genQ_max0 hh0 rfl rfl (zR ?_)
 refine callQ (txV (Ch.dec p.half.toNat)) (fun _ _ h => h.trans) (fun w _ => ?_) ?_
 ·have := fenDecimal_c p.half.toNat w zo
  rw [Int.toNat_of_nonneg hh0] at this; exact this
 refine zR ?_
 generalize Ch.dec p.half.toNat = T4 at *
 refine E.ctrue (fits_tx (by simp only [List.length_append]; simp; omega)) ?_
 rw [tx_app]
 refine zR ?_
 refine E.ctrue (fits_of (by simp only [tx_size]; simp [ByteArray.size]; omega)) ?_
 rw [tx_lit [32]]
 refine zR ?_
 refine loadQ _ (fun w hw => ldFull (hP _ (c4.trans hw))) (zR ?_)
 refine genQ_max0 hf0 rfl rfl (zR ?_)
 refine callQ (txV (Ch.dec p.full.toNat)) (fun _ _ h => h.trans) (fun w _ => ?_) ?_
 ·have := fenDecimal_c p.full.toNat w zo
  rw [Int.toNat_of_nonneg hf0] at this; exact this
 refine zR ?_
 generalize Ch.dec p.full.toNat = T5 at *
 refine E.ctrue (fits_tx (by simp only [List.length_append]; simp; omega)) ?_
 rw [tx_app]
 refine zR ?_
 intro w5 c5
 refine zR ?_
 exact ⟨rfl, hE _ (c4.trans c5)⟩
theorem elByte : ElemOk 157 5 1 1 := elem_of zk
theorem elStr : ElemOk 42 9 1 16 := elem_of zk
def encTx (t : Tx) : List Value := [txV t]
theorem encTx_len (t : Tx) : (encTx t).length = 1 := rfl
theorem uByte : G.P.underlying 5 = some (.int .u8) := by kernel_rfl
theorem uBytes : G.P.underlying 157 = some (.slice 5) := by kernel_rfl
theorem gen_text (l : Tx) {b : Nat} {n c : Nat} {cs : Array Value} {u : Nat} {fz : Nat × Nat} {x : Operand} {dst : Option Nat} {ty : Nat} {pos : String} {af : Array Edge} {gd : Option (Nat × Bool)} {env : Env} {w : World} {K : Value → World → Prop}
  (hx : ev env x = .slice (some ⟨b, 0, none⟩) n c) (hn : n = l.length) (hb : w.heap[b]? = some (.cells cs u fz)) (hc : ∀ j (hj : j < l.length), cs[j]? = some (.int .u8 (l[j].toNat : Int)))
  (h : K (txV l) w) : GenK G.P { dst, op := .convert 157 9 x, type := ty, pos, after := af, guard := gd } env w K := by
 subst hn
 refine ⟨.inl ⟨_, w, ?_, h⟩⟩
 show (do pure (Next.value (← convert _ _ (ev env x))) : Sem Next).run G.P w = _
 rw [hx, Sem.run_bind, run_convert_bytes_back (P := G.P) w 157 9 5 ⟨b, 0, none⟩ c l uBytes uByte uStr (fun j hj => by rw [addr_add, Nat.zero_add, cell_of_blk hb]; exact hc j hj)]
 rfl
theorem sanFile_c (n : Int) (h0 : 0 ≤ n) (h1 : n ≤ 63) (w : World) : Calls G.P 62 #[.int .i64 n] w (Ret (txV (Ch.fileT n)) w) := by
 refine zN Tryz.func62 ?_
 refine zG ?_
 refine zR ?_
 refine gen_bs elByte [.int .u8 (97 + n % 8)] ?_ (by simp [Value.cells]) rfl zd zd ?_
 ·rw [Array.toList_map]
  have e1 : IntKind.u8.wrap (IntKind.i64.wrap (97 + n.tmod 8)) = 97 + n % 8 := by
   rw [tmod_nn h0, w64_in zo zo]
   simp [IntKind.wrap, IntKind.bits, IntKind.signed]; omega
  rw [← e1]; rfl
 refine zR ?_
 refine gen_text (Ch.fileT n) rfl rfl (alloc_new _ _) ?_ ?_
 ·intro j hj
  have : j = 0 := by simp [Ch.fileT] at hj; omega
  subst this
  simp [Value.cells, Ch.fileT]; omega
 refine zR ?_
 exact ⟨rfl, Cl.alloc _ _⟩
theorem sanRank_c (n : Int) (h0 : 0 ≤ n) (h1 : n ≤ 63) (w : World) : Calls G.P 63 #[.int .i64 n] w (Ret (txV (Ch.rankT n)) w) := by
 refine zN Tryz.func63 ?_
 refine zG ?_
 refine zR ?_
 refine gen_bs elByte [.int .u8 (49 + n / 8)] ?_ (by simp [Value.cells]) rfl zd zd ?_
 ·rw [Array.toList_map]
  have e1 : IntKind.u8.wrap (IntKind.i64.wrap (49 + IntKind.i64.wrap (n.tdiv 8))) = 49 + n / 8 := by
   rw [tdiv_nn h0, w64_in (n := n / 8) zo zo, w64_in zo zo]
   simp [IntKind.wrap, IntKind.bits, IntKind.signed]; omega
  rw [← e1]; rfl
 refine zR ?_
 refine gen_text (Ch.rankT n) rfl rfl (alloc_new _ _) ?_ ?_
 ·intro j hj
  have : j = 0 := by simp [Ch.rankT] at hj; omega
  subst this
  simp [Value.cells, Ch.rankT]; omega
 refine zR ?_
 exact ⟨rfl, Cl.alloc _ _⟩
theorem SanSquare_c (n : Int) (h0 : -1000 ≤ n) (h1 : n ≤ 1000) (w : World) : Calls G.P 61 #[.int .i64 n] w (Ret (txV (Ch.sqT n)) w) := by
 refine zN Tryz.func61 ?_
 refine zG ?_
 refine zR ?_
 apply E.dsplit<;>intro h
 ·refine zR ?_
  exact ⟨ret_tx (by unfold Ch.sqT; rw [if_pos (.inl h)]; rfl), Cl.refl _⟩
 ·have a := h; clear h
  refine zR ?_
  apply E.dsplit<;>intro h
  ·refine zR ?_
   exact ⟨ret_tx (by unfold Ch.sqT; rw [if_pos (.inr h)]; rfl), Cl.refl _⟩
  ·refine zR ?_
   refine callR (sanFile_c n zo zo _) fun w1 c1 => zR ?_
   refine callR (sanRank_c n zo zo _) fun w2 c2 => zR ?_
   exact ⟨ret_tx (by unfold Ch.sqT; rw [if_neg zo]; exact tx_app _ _), c1.trans c2⟩
theorem sqT_len (n : Int) : (Ch.sqT n).length ≤ 2 := by
 unfold Ch.sqT; split
 ·simp
 ·simp [Ch.fileT, Ch.rankT]
theorem letter_len (n : Int) : (Ch.letter n).length ≤ 1 := by
 unfold Ch.letter; iterate 5 (split; · simp)
 simp
theorem letter_out {k : Int} (h : k < 0 ∨ 6 < k) : Ch.letter k = [] := by
 unfold Ch.letter
 rw [if_neg zo, if_neg zo, if_neg zo, if_neg zo, if_neg zo]
theorem sanLetter_c (k : Int) (w : World) : Calls G.P 64 #[.int .i64 k] w (Ret (txV (Ch.letter k)) w) := by
 refine zN Tryz.func64 ?_
 refine zG ?_
 refine zR ?_
 refine gen_bs elStr [txV [], txV [75], txV [81], txV [82], txV [66], txV [78], txV []] (by rw [Array.toList_map]; rfl) (by simp [Value.cells, txV]) rfl zd zd ?_
 have hr := row_new encTx_len w [[], [75], [81], [82], [66], [78], []] zd [txV [], txV [75], txV [81], txV [82], txV [66], txV [78], txV []] rfl (e := 9) (z := 1)
 have c1 := Cl.alloc w (.cells (([txV [], txV [75], txV [81], txV [82], txV [66], txV [78], txV []] : List Value).flatMap fun v => v.cells.toList).toArray 9)
 generalize w.alloc (.cells (([txV [], txV [75], txV [81], txV [82], txV [66], txV [78], txV []] : List Value).flatMap fun v => v.cells.toList).toArray 9) = w1 at *
 refine zR ?_
 apply E.dsplit<;>intro h
 ·refine zR ?_
  exact ⟨ret_tx (by rw [letter_out zo]; rfl), c1⟩
 ·have a := h; clear h
  refine zR ?_
  apply E.dsplit<;>intro h
  ·refine zR ?_
   exact ⟨ret_tx (by rw [letter_out zo]; rfl), c1⟩
  ·have hL : LoadsTo G.P w1 9 ⟨w.heap.size, k.toNat, none⟩ (txV (Ch.letter k)) := by
    have hk : k = 0 ∨ k = 1 ∨ k = 2 ∨ k = 3 ∨ k = 4 ∨ k = 5 ∨ k = 6 := by omega
    rcases hk with rfl | rfl | rfl | rfl | rfl | rfl | rfl
    ·exact ldRow hr encTx_len 0 0 zd zd rfl rfl rfl
    ·exact ldRow hr encTx_len 1 0 zd zd rfl rfl rfl
    ·exact ldRow hr encTx_len 2 0 zd zd rfl rfl rfl
    ·exact ldRow hr encTx_len 3 0 zd zd rfl rfl rfl
    ·exact ldRow hr encTx_len 4 0 zd zd rfl rfl rfl
    ·exact ldRow hr encTx_len 5 0 zd zd rfl rfl rfl
    ·exact ldRow hr encTx_len 6 0 zd zd rfl rfl rfl
   refine zR ?_
   refine zC ?_
   refine zR ?_
   refine loadK (txV (Ch.letter k)) ?_ ?_
   ·simpa [E.offZ_eq] using hL
   refine zR ?_
   exact ⟨rfl, c1⟩
theorem sanPromotes_c (m : Mv) (w : World) : Calls G.P 113 #[mvV m] w (Ret (txV (Ch.promoT m)) w) := by
 refine zN Tryz.func113 ?_
 refine zG ?_
 generalize hW : w.alloc (.cells (mvA m) 36) = W0
 have hM : ∀ w', Cl W0 w' → w'.heap[w.heap.size]? = some (.cells (mvA m) 36 (0, 0)) := fun w' h => (hW ▸ h : Cl (w.alloc (.cells (mvA m) 36)) w').blk (alloc_new _ _)
 have hE : ∀ w', Cl W0 w' → Cl w w' := fun w' h => (Cl.alloc _ _).trans (hW ▸ h)
 refine zR ?_
 refine loadK _ (ldPromo (hM _ (Cl.refl _))) (zR ?_)
 apply E.dsplit<;>intro h
 ·refine zR ?_
  exact ⟨ret_tx (by unfold Ch.promoT; rw [if_pos h]; rfl), hE _ (Cl.refl _)⟩
 ·refine zR ?_
  refine loadK _ (ldPromo (hM _ (Cl.refl _))) (zR ?_)
  refine callR (sanLetter_c m.promo _) fun w1 c1 => ?_
  have := letter_len m.promo
  refine zR ?_
  refine E.ctrue (fits_of (by simp only [tx_size]; simp [ByteArray.size]; omega)) (zR ?_)
  exact ⟨ret_tx (by unfold Ch.promoT; rw [if_neg h]; exact tx_app [61] _), hE _ c1⟩
theorem UciText_c (m : Mv) (hm : MvOk m) (w : World) : Calls G.P 70 #[mvV m] w (Ret (txV (Ch.uciT m)) w) := by
 obtain ⟨⟨a0, a1⟩, ⟨b0, b1⟩, d0, d1⟩ := hm
 refine zN Tryz.func70 ?_
 refine zG ?_
 generalize hW : w.alloc (.cells (mvA m) 36) = W0
 have hM : ∀ w', Cl W0 w' → w'.heap[w.heap.size]? = some (.cells (mvA m) 36 (0, 0)) := fun w' h => (hW ▸ h : Cl (w.alloc (.cells (mvA m) 36)) w').blk (alloc_new _ _)
 have hE : ∀ w', Cl W0 w' → Cl w w' := fun w' h => (Cl.alloc _ _).trans (hW ▸ h)
 refine zR ?_
 refine gen_bs elStr [txV [], txV [107], txV [113], txV [114], txV [98], txV [110], txV [112]] (by rw [Array.toList_map]; rfl) (by simp [Value.cells, txV]) rfl zd zd ?_
 have hr := row_new encTx_len W0 [[], [107], [113], [114], [98], [110], [112]] zd [txV [], txV [107], txV [113], txV [114], txV [98], txV [110], txV [112]] rfl (e := 9) (z := 1)
 have c1 := Cl.alloc W0 (.cells (([txV [], txV [107], txV [113], txV [114], txV [98], txV [110], txV [112]] : List Value).flatMap fun v => v.cells.toList).toArray 9)
 generalize W0.alloc (.cells (([txV [], txV [107], txV [113], txV [114], txV [98], txV [110], txV [112]] : List Value).flatMap fun v => v.cells.toList).toArray 9) = w1 at *
 refine zR ?_
 refine zK 8 ?_
 refine zR ?_
 refine loadQ _ (fun w hw => ldFr (hM _ (c1.trans hw))) (zR ?_)
 refine callQ (txV (Ch.sqT m.fr)) (fun _ _ h => h.trans) (fun w _ => SanSquare_c m.fr zo zo w) (zR ?_)
 refine loadQ _ (fun w hw => ldTo (hM _ (c1.trans hw))) (zR ?_)
 refine callQ (txV (Ch.sqT m.to)) (fun _ _ h => h.trans) (fun w _ => SanSquare_c m.to zo zo w) ?_
 have l1 := sqT_len m.fr
 have l2 := sqT_len m.to
 refine zR ?_
 refine E.ctrue (fits_tx zo) ?_
 rw [tx_app]
 refine zR ?_
 intro w2 c2
 have c12 := c1.trans c2
 have hT : Ch.uciT m = Ch.sqT m.fr ++ Ch.sqT m.to ++ (if 0 < m.promo ∧ m.promo < 7 then Ch.small m.promo else []) := rfl
 generalize Ch.sqT m.fr = A at *
 generalize Ch.sqT m.to = B at *
 refine zR ?_
 refine loadK _ (ldPromo (hM _ c12)) (zR ?_)
 apply E.dsplit<;>intro h
 ·have p0 := h; clear h
  refine zR ?_
  refine loadK _ (ldPromo (hM _ c12)) (zR ?_)
  apply E.dsplit<;>intro h
  ·have p7 : m.promo < 7 := h
   clear h
   rw [if_pos ⟨p0, p7⟩] at hT
   have hL : LoadsTo G.P w2 9 ⟨W0.heap.size, m.promo.toNat, none⟩ (txV (Ch.small m.promo)) := by
    have hk : m.promo = 1 ∨ m.promo = 2 ∨ m.promo = 3 ∨ m.promo = 4 ∨ m.promo = 5 ∨ m.promo = 6 := by omega
    have hr := hr.step c2
    rcases hk with e | e | e | e | e | e <;> rw [e]
    ·exact ldRow hr encTx_len 1 0 zd zd rfl rfl rfl
    ·exact ldRow hr encTx_len 2 0 zd zd rfl rfl rfl
    ·exact ldRow hr encTx_len 3 0 zd zd rfl rfl rfl
    ·exact ldRow hr encTx_len 4 0 zd zd rfl rfl rfl
    ·exact ldRow hr encTx_len 5 0 zd zd rfl rfl rfl
    ·exact ldRow hr encTx_len 6 0 zd zd rfl rfl rfl
   have hsl : (Ch.small m.promo).length ≤ 1 := by
    unfold Ch.small; iterate 6 (split; · simp)
    simp
   refine zR ?_
   refine loadK _ (ldPromo (hM _ c12)) (zR ?_)
   refine zC ?_
   refine zR ?_
   refine loadK (txV (Ch.small m.promo)) ?_ ?_
   ·simpa [E.offZ_eq] using hL
   refine zR ?_
   refine E.ctrue (fits_tx (by simp only [List.length_append]; omega)) ?_
   rw [tx_app]
   refine zR ?_
   exact ⟨ret_tx (by rw [hT]), hE _ c12⟩
  ·rw [if_neg (by have : ¬ m.promo < 7 := h; omega), List.append_nil] at hT
   refine zR ?_
   exact ⟨ret_tx (by rw [hT]), hE _ c12⟩
 ·rw [if_neg zo, List.append_nil] at hT
  refine zR ?_
  exact ⟨ret_tx (by rw [hT]), hE _ c12⟩
end
end Go.Proofs.YtpclhlhcegcflaaGreatDoor
