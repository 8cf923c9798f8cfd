/- One part of the proof: Two Mva Pk51. -/
import Derived.KernelRfl
import Derived.ArgAppend
import Derived.Deep.Upon
import Derived.Test.YtpclhlhcegcflaaGreatDoorM1
import Derived.Test.YtpclhlhcegcflaaGreatDoorM3
import Derived.Test.YtpclhlhcegcflaaGreatDoorM10
import Derived.Test.YtpclhlhcegcflaaGreatDoorM13
import Derived.Test.YtpclhlhcegcflaaGreatDoorM26
namespace Go.Proofs.YtpclhlhcegcflaaGreatDoor
set_option maxRecDepth 100000
set_option linter.unusedSimpArgs false
set_option linter.unusedVariables false
section
open Go
namespace Ch
def rn (p : k8) (h f : Int) : k8 := { p with half := h, full := f }
variable (p : k8) (h f : Int)
theorem b7p (i : Int) : sq (rn p h f) i = sq p i := rfl
theorem a7Q (m : Mv) : takes (rn p h f) m = takes p m := by kernel_rfl
theorem b2S (m : Mv) : D8 (rn p h f) m = D8 p m := by kernel_rfl
theorem b12 (m : Mv) : N7 (rn p h f) m = N7 p m := by kernel_rfl
theorem b2T (m : Mv) : E3 (rn p h f) m = E3 p m := by kernel_rfl
theorem b13 (s c : Int) : z7 (rn p h f) s c = z7 p s c := by kernel_rfl
theorem b5k (c : Int) : kingAt (rn p h f) c = kingAt p c := by kernel_rfl
theorem a4o : inCheck (rn p h f) = inCheck p := by kernel_rfl
theorem b5l : a1g (rn p h f) = a1g p := by kernel_rfl
theorem b5m (m : Mv) : a1h (rn p h f) m = rn (a1h p m) h f := by
 unfold a1h; rw [a7Q, b2S]; split <;> rfl
theorem b5n (m : Mv) : a1i (rn p h f) m = rn (a1i p m) h f := by
 unfold a1i; rw [b5m, b7p]; rfl
theorem b5o (m : Mv) : Z6 (rn p h f) m = rn (Z6 p m) h f := by
 unfold Z6; rw [b5n]; split <;> rfl
theorem b5p (m : Mv) : H6 (rn p h f) m = rn (H6 p m) h f := by
 unfold H6; rw [b5o, b12]; split <;> rfl
theorem a5b (m : Mv) : ∃ h' f', made (rn p h f) m = rn (made p m) h' f' := by
 refine ⟨(made (rn p h f) m).half, (made (rn p h f) m).full, ?_⟩
 unfold made
 rw [b5p, b2T]
 rfl
theorem b9h (m : Mv) : a2L (rn p h f) m = a2L p m := by
 obtain ⟨h', f', e⟩ := a5b p h f m
 have ht : (rn p h f).turn = p.turn := rfl
 unfold a2L
 rw [e, ht, b5k]
 simp only [b13]
theorem a5c : y8 (rn p h f) = y8 p := by
 unfold y8; rw [b5l]; congr 1; funext m; exact b9h p h f m
theorem b2U (m : Mv) : G6 (rn p h f) m = G6 p m := by unfold G6; rw [a5c]
theorem b14 : statusOf (rn p h f) = statusOf p := by unfold statusOf; rw [a5c, a4o]
theorem b15 (m : Mv) : F6 (rn p h f) m = F6 p m := by kernel_rfl
theorem b9i (m : Mv) : told (rn p h f) m = told p m := by
 obtain ⟨h', f', e⟩ := a5b p h f m
 unfold told; rw [b15, e, a4o]
theorem a3N (m : Mv) : castleKind (rn p h f) m = castleKind p m := by kernel_rfl
theorem b5q (m : Mv) : Q9 (rn p h f) m = Q9 p m := by
 unfold Q9; rw [a5c]; rfl
theorem b7q (m : Mv) : apart (rn p h f) m = apart p m := by unfold apart; rw [b5q]
theorem b16 (m : Mv) : S9 (rn p h f) m = S9 p m := by unfold S9; rw [a7Q]
theorem b17 (m : Mv) : a04 (rn p h f) m = a04 p m := by
 obtain ⟨h', f', e⟩ := a5b p h f m
 unfold a04; rw [e, a4o, a5c]
theorem b9j (m : Mv) : body (rn p h f) m = body p m := by
 unfold body; rw [a3N, b7q, b16, a7Q, b7p]
theorem b3W (m : Mv) : sanT (rn p h f) m = sanT p m := by unfold sanT; rw [b9j, b17]
theorem b9k (m : Mv) : lanT (rn p h f) m = lanT p m := by
 unfold lanT; rw [a3N, b3W, b16, b17, b7p]
theorem b7r {p q : k8} (h : Y8 p q = true) : q = rn p q.half q.full := by
 unfold Y8 at h
 simp only [Bool.and_eq_true, decide_eq_true_eq] at h
 obtain ⟨⟨⟨h1, h2⟩, h3⟩, h4⟩ := h
 cases p; cases q
 simp only at h1 h2 h3 h4
 subst h1 h2 h3 h4
 rfl
def Same (s t : a0A) : Prop := t.san = s.san ∧ t.lan = s.lan ∧ t.uci = s.uci ∧ t.tags = s.tags ∧ t.status = s.status ∧ ∃ h f, t.pos = rn s.pos h f
inductive b18 : List a0A → List a0A → Prop
 | nil : b18 [] []
 | cons {s t : a0A} {l k : List a0A} (h : Same s t) (h' : b18 l k) : b18 (s :: l) (t :: k)
theorem b18.len {l k : List a0A} (h : b18 l k) : l.length = k.length := by
 induction h with
 | nil => rfl
 | cons _ _ ih => simp [ih]
theorem b18.at_ {l k : List a0A} (h : b18 l k) : ∀ (i : Nat) (s t : a0A), l[i]? = some s → k[i]? = some t → Same s t := by
 induction h with
 | nil => intro i s t ha _; simp at ha
 | cons h1 _ ih =>
  intro i s t ha hb
  cases i with
  | zero =>
   simp only [List.getElem?_cons_zero, Option.some.injEq] at ha hb
   subst ha hb
   exact h1
  | succ i =>
   simp only [List.getElem?_cons_succ] at ha hb
   exact ih i s t ha hb
theorem b5r (p : k8) (h f : Int) (m : Mv) (mo mo' : Int × Tx) : Same (stepOf p m mo) (stepOf (rn p h f) m mo') := by
 obtain ⟨h', f', e⟩ := a5b p h f m
 unfold Same stepOf
 dsimp only
 refine ⟨b3W p h f m, b9k p h f m, rfl, b9i p h f m, ?_, h', f', e⟩
 rw [e, b14]
theorem a5F (l : List k8) (p : k8) (mo : Int × Tx) (m : Mv) (r : List Mv) : story l p mo (m :: r) = if G6 p m then stepOf p m (ending (l ++ [made p m]) (made p m) mo) :: story (l ++ [made p m]) (made p m) (ending (l ++ [made p m]) (made p m) mo) r else [] := rfl
theorem a38 (l : List k8) (p : k8) (mo : Int × Tx) : story l p mo [] = [] := rfl
theorem b7s (p : k8) (m : Mv) (mo : Int × Tx) : (stepOf p m mo).pos = made p m := rfl
attribute [local irreducible] story G6 made ending stepOf
theorem b7t : ∀ (ms : List Mv) (l l' : List k8) (p : k8) (h f : Int) (mo mo' : Int × Tx), b18 (story l p mo ms) (story l' (rn p h f) mo' ms) := by
 intro ms
 induction ms with
 | nil => intro l l' p h f mo mo'; rw [a38, a38]; exact .nil
 | cons m r ih =>
  intro l l' p h f mo mo'
  have e1 := a5F l p mo m r
  have e2 := a5F l' (rn p h f) mo' m r
  rw [b2U] at e2
  obtain ⟨h', f', e⟩ := a5b p h f m
  rw [e1, e2]
  by_cases hm : G6 p m = true
  ·rw [if_pos hm, if_pos hm]
   generalize ending (l ++ [made p m]) (made p m) mo = k1
   generalize ending (l' ++ [made (rn p h f) m]) (made (rn p h f) m) mo' = k2
   refine .cons (b5r p h f m k1 k2) ?_
   rw [e]
   exact ih (l ++ [made p m]) (l' ++ [rn (made p m) h' f']) (made p m) h' f' k1 k2
  ·rw [if_neg hm, if_neg hm]; exact .nil
theorem a8X : ∀ (a : List Mv) (l : List k8) (p : k8) (mo : Int × Tx) (r : List Mv), (story l p mo a).length = a.length →
  ∃ l' mo', story l p mo (a ++ r) = story l p mo a ++ story l' (a.foldl made p) mo' r ∧ ∀ s, (story l p mo a).getLast? = some s → s.pos = a.foldl made p := by
 intro a
 induction a with
 | nil => intro l p mo r _; exact ⟨l, mo, by rw [a38]; rfl, fun s hs => by rw [a38] at hs; cases hs⟩
 | cons m a ih =>
  intro l p mo r hl
  have e := a5F l p mo m
  rw [e] at hl
  split at hl
  ·rename_i hm
   simp only [List.length_cons, Nat.add_right_cancel_iff] at hl
   obtain ⟨l', mo', h1, h2⟩ := ih _ _ _ r hl
   rw [List.cons_append, e, e, if_pos hm, if_pos hm, List.foldl_cons]
   refine ⟨l', mo', by rw [h1]; rfl, fun s hs => ?_⟩
   cases hk : story (l ++ [made p m]) (made p m) (ending (l ++ [made p m]) (made p m) mo) a with
   | nil =>
    rw [hk] at hs hl
    have ha : a = [] := List.eq_nil_of_length_eq_zero (by simpa using hl.symm)
    subst ha
    rw [List.getLast?_singleton] at hs
    obtain rfl := Option.some.inj hs
    rw [b7s]; rfl
   | cons x k =>
    rw [hk, List.getLast?_cons_cons] at hs
    exact h2 s (by rw [hk]; exact hs)
  ·simp at hl
theorem c1e (p : k8) (a b r : List Mv) (ha : (storyOf p true a).length = a.length) (hb : (storyOf p true b).length = b.length) (a4 : a.length = 4) (b4 : b.length = 4) {s t : a0A} (hs : (storyOf p true a)[3]? = some s) (ht : (storyOf p true b)[3]? = some t) (hal : Y8 s.pos t.pos = true) :
  (storyOf p true (a ++ r)).length = (storyOf p true (b ++ r)).length ∧ 4 ≤ (storyOf p true (a ++ r)).length ∧ ∀ (i : Nat) (x y : a0A), 3 ≤ i → (storyOf p true (a ++ r))[i]? = some x → (storyOf p true (b ++ r))[i]? = some y → (∃ h f, y.pos = rn x.pos h f) ∧ (3 < i → Same x y) := by
 have e : ∀ k, storyOf p true k = story [p] p (ending [p] p (0, star)) k := fun k => by unfold storyOf; rw [if_pos rfl]
 rw [e] at ha hb hs ht
 obtain ⟨l1, m1, h1, g1⟩ := a8X a _ _ _ r ha
 obtain ⟨l2, m2, h2, g2⟩ := a8X b _ _ _ r hb
 rw [e, e, h1, h2]
 generalize story [p] p (ending [p] p (0, star)) a = X at *
 generalize story [p] p (ending [p] p (0, star)) b = Y at *
 rw [a4] at ha
 rw [b4] at hb
 have q1 := g1 s (by rw [List.getLast?_eq_getElem?, ha]; exact hs)
 have q2 := g2 t (by rw [List.getLast?_eq_getElem?, hb]; exact ht)
 have hr := b7r hal
 rw [← q1, ← q2]
 rw [hr]
 have hS := b7t r l1 l2 s.pos t.pos.half t.pos.full m1 m2
 have hl := hS.len
 refine ⟨by rw [List.length_append, List.length_append, ha, hb, hl], by rw [List.length_append, ha]; omega, fun i x y hi hx hy => ?_⟩
 by_cases h3 : i = 3
 ·subst h3
  rw [List.getElem?_append_left zo] at hx hy
  obtain rfl := Option.some.inj (hs.symm.trans hx)
  obtain rfl := Option.some.inj (ht.symm.trans hy)
  exact ⟨⟨_, _, hr⟩, fun h => (Nat.lt_irrefl _ h).elim⟩
 ·rw [List.getElem?_append_right zo] at hx hy
  rw [ha] at hx
  rw [hb] at hy
  have := hS.at_ _ _ _ hx hy
  exact ⟨this.2.2.2.2.2, fun _ => this⟩
end Ch
end
section
open Go Go.RowKit
open E
theorem a2a.cells {w : World} {g o n c : Nat} {ms : List Mv} (h : a2a w (.slice (some ⟨g, o, none⟩) n c) ms) : ∀ (j : Nat) (u : Value), (ms.flatMap E9)[j]? = some u → w.cell? ⟨g, o + j, none⟩ = some u := by
 intro j u hj
 have hlt : j < ms.length * 3 := by
  have := (List.getElem?_eq_some_iff.1 hj).1
  rw [F3 B0] at this; exact this
 obtain ⟨a, c', e, h⟩ := h
 obtain ⟨g', o', cs, t, fz, e2, hb, h2⟩ := h zo
 injection e with e1 _ _
 rw [e2] at e1
 injection e1 with e1; injection e1 with e1 e3 _
 subst e1 e3
 have hi : j / 3 < ms.length := by omega
 obtain ⟨h3, h4⟩ := h2 (j / 3) hi
 have hk := a1P B0 ms (j / 3) (j % 3) hi zo
 have hjj : j / 3 * 3 + j % 3 = j := by omega
 rw [hjj, hj] at hk
 rw [C8 hb]
 have h5 : (cs.extract (o + j / 3 * 3) (o + j / 3 * 3 + 3))[j % 3]? = (E9 ms[j / 3])[j % 3]? := by
  rw [h4]; simp [K2, E9]
 rw [← hk, Array.getElem?_extract] at h5
 split at h5
 ·rw [← h5]; congr 1; omega
 ·cases h5
theorem Row.mvIn {e b0 : Nat} {w : World} {v : Value} {l : List Mv} (h : Row e 3 E9 b0 w v l) : a2a w v l := by
 obtain ⟨a, c, rfl, ha⟩ := h.form
 refine ⟨a, c, rfl, fun h0 => ?_⟩
 obtain ⟨g, rfl⟩ := ha h0
 obtain ⟨cur, hb, _⟩ := h.getAll B0 0 h0
 refine ⟨g, 0, cur, e, _, rfl, hb, fun i hi => ?_⟩
 obtain ⟨cur', hb', h1, h2⟩ := h.getAll B0 i hi
 rw [hb] at hb'
 obtain rfl := Obj.cells.inj (Option.some.inj hb') |>.1
 rw [Nat.zero_add]
 exact ⟨h1, h2⟩
theorem a5G {w : World} {g u : Nat} {fz : Nat × Nat} {cs : Array Value} {l : List Mv} (hb : w.heap[g]? = some (.cells cs u fz)) (hcs : cs.toList = l.flatMap E9) : a2a w (.slice (some ⟨g, 0, none⟩) l.length l.length) l := by
 refine ⟨_, _, rfl, fun _ => ⟨g, 0, cs, u, fz, rfl, hb, fun i hi => ?_⟩⟩
 have hcl : cs.size = l.length * 3 := by rw [← Array.length_toList, hcs, F3 B0]
 refine ⟨zo, ?_⟩
 apply Array.ext
 ·simp [K2]; omega
 ·intro k h1 h2
  have hk : k < 3 := by simpa [K2] using h2
  rw [Array.getElem_extract]
  have hf := a1P B0 l i k hi hk
  rw [← hcs, Array.getElem?_toList] at hf
  have e2 : (E9 l[i])[k]? = some ((K2 l[i])[k]) := by
   have h3 : k = 0 ∨ k = 1 ∨ k = 2 := by omega
   rcases h3 with rfl | rfl | rfl <;> rfl
  rw [e2, Array.getElem?_eq_some_iff] at hf
  obtain ⟨_, hf⟩ := hf
  simp only [Nat.zero_add]; exact hf
theorem a39 {dst : Option Nat} {s x : Operand} {ty : Nat} {pos : String} {af : Array Edge} {gd : Option (Nat × Bool)} {env : C0} {w : World} {K : Value → World → Prop} {g u : Nat} {fz : Nat × Nat} {cs : Array Value} {l ms : List Mv} {vx : Value}
  (hs : ev env s = .slice (some ⟨g, 0, none⟩) l.length l.length) (hb : w.heap[g]? = some (.cells cs u fz)) (hcs : cs.toList = l.flatMap E9) (hx : ev env x = vx) (hm : a2a w vx ms) (hlen : l.length + ms.length ≤ 100000)
  (h : ∀ v' w', a2a w' v' (l ++ ms) → Cl w w' → K v' w') :
  L5 G.P { dst, op := .call { callee := .builtin .append, args := #[s, x], argTypes := #[25, 25] }, type := ty, pos, after := af, guard := gd } env w K := by
 obtain ⟨i, zv, hi, hzv, hsz, hby, hzs⟩ := elMv.info
 have hcell : ∀ (j : Nat) (u : Value), (l.flatMap E9)[j]? = some u → w.cell? ((⟨g, 0, none⟩ : Addr).add j) = some u := fun j u hj => by
  rw [G8, C8 hb, Nat.zero_add, ← Array.getElem?_toList, hcs]; exact hj
 obtain ⟨a, c, rfl, ha⟩ := hm.form
 by_cases h0 : ms = []
 ·subst h0
  have hrun : (Builtin.append_ #[25, 25] ty #[.slice (some ⟨g, 0, none⟩) l.length l.length, .slice a 0 c]).run G.P w = .ok (.slice (some ⟨g, 0, none⟩) l.length l.length) w := by
   refine run_append_nothing w _ _ ty _ i elMv.ty hi _ _ _ (Nat.le_refl _) _ ⟨.inl ⟨_, elMv.ty⟩, fun w' => rfl, ?_, ?_, by simp, by simp⟩
   ·cases a <;> simp [Builtin.firstCells, loadCells, loadCellsFrom]
   ·cases a <;> simp [Builtin.firstCells, loadCells, loadCellsFrom]
  refine ⟨.inl ⟨.slice (some ⟨g, 0, none⟩) l.length l.length, w, ?_, h _ _ ?_ (Cl.refl _)⟩⟩
  ·simp only [execOp, resolve, invoke, builtin, Sem.run_bind, Sem.run_pure, Result.andThen_ok, List.map_toArray, List.map_cons, List.map_nil, hs, hx, List.length_nil] at hrun ⊢
   rw [hrun]
   rfl
  ·rw [List.append_nil]
   exact a5G hb hcs
 ·have hp : 0 < ms.length := List.length_pos_iff.2 h0
  obtain ⟨g2, o2, rfl⟩ := ha hp
  obtain ⟨v', w', h1, h2, h3⟩ := run_append_arg_grows (P := G.P) w _ ty _ i zv 3 24 elMv.ty hi hzv hsz hby hzs zd ⟨g, 0, none⟩ l.length l.length (l.flatMap E9) (F3 B0 l) hcell ⟨g2, o2, none⟩ ms.length c (ms.flatMap E9) (F3 B0 ms)
   (fun j u hj => by rw [G8]; exact hm.cells j u hj) zo (by unfold maxLen; omega) zo
  have hrow : Row 36 3 E9 w.heap.size w' v' (l ++ ms) := by
   unfold Row
   rw [List.length_append, List.flatMap_append]
   exact h2
  refine ⟨.inl ⟨v', w', ?_, h v' w' hrow.mvIn (Below.grown (Cl.refl _) h3 (Nat.le_refl _) (fun k hk => by cases hk))⟩⟩
  simp only [execOp, resolve, invoke, builtin, Sem.run_bind, Sem.run_pure, Result.andThen_ok, List.map_toArray, List.map_cons, List.map_nil, hs, hx, h1]
end
section
open Go Go.RowKit
open E
open Ch Bb
theorem b7u : G.P.eqGuardType G.P.depth 24 = false := by kernel_rfl
theorem a7R (p : k8) : (Value.agg (o9 p)).formed G.P 24 = true := by
 have h := r7 p
 obtain ⟨f, hu, _⟩ := a0m (G.tab 24 _ (show P1 G.T 24 = some (.struct 69 _) from rfl))
 unfold Value.formed
 simp [h, Program.cellsOf, a13, hu]
theorem b9G {p : k8} (h : a4b p) (w : World) : (Op.equalIn 10000 24 (.agg (o9 p)) (.agg (o9 p))).run G.P w = .ok true w :=
 a9q (m := 4) (D := 4) (ks := List.replicate 69 (some .i64)) zk zd b7u zk (a7R p) (a7R p) (b9E h) (b9E h) true (by simp) w
theorem nT {p : Prop} [Decidable p] {A B : Prop} (h : ¬ p) (h1 : A) : bif !decide p then A else B := by rw [decide_eq_false h]; exact h1
theorem nF {p : Prop} [Decidable p] {A B : Prop} (h : p) (h1 : B) : bif !decide p then A else B := by rw [decide_eq_true h]; exact h1
theorem b9l (s : a0A) : ((stL s).toArray).extract 9 78 = o9 s.pos := by
 unfold stL o9
 apply Array.ext'
 simp only [Array.toList_extract, List.extract_eq_take_drop]
 rw [List.drop_left' (by rfl), List.take_left' (by rw [B6])]
theorem a6H {w : World} {b0 g n c i o : Nat} {l : List a0A} (h : Row 39 81 stL b0 w (.slice (some ⟨g, 0, none⟩) n c) l) (hi : i < l.length) (ho : o = i * 81 + 9) : l8 G.P w 24 ⟨g, o, none⟩ (C4 l[i].pos) := by
 subst ho
 obtain ⟨cur, h1, h2, h3⟩ := h.getAll U8 i hi
 have := ldA (t := 24) (o := i * 81 + 9) (z := 69) h1 rfl zo
 have e : cur.extract (i * 81 + 9) (i * 81 + 9 + 69) = o9 l[i].pos := by
  rw [← b9l, ← h3, Array.extract_extract]
  congr 1 <;> omega
 rw [e] at this
 exact this
theorem a7S {p : k8} (hI : B7 p) (hh : p.half ≤ 1000000) (hf : p.full ≤ 1000000) (ms : List Mv) (hms : ∀ m ∈ ms, MvR m) (hq : quiet p ms = true) (hn : ms.length ≤ 80) {v : Value} (w : World) (hT : C1 w) (hS : Spc w) (hw : Pow w) (hrow : a2a w v ms) :
  Calls G.P 14 #[s8 (fenT p), v] w (fun r w' => ∃ u, r = .returned (.tuple #[u, .int .i64 ((storyOf p true ms).length : Nat), .bool true]) ∧ Row 39 81 stL w.heap.size w' u (storyOf p true ms) ∧ Cl w w') := by
 have h := b1z hI hh hf ms hms hq hn false (fun h => by cases h) w hT hS hw hrow
 rw [if_neg (by decide : ¬ (false = true)), Bool.not_false] at h
 exact h
theorem a24 (s : a0A) : (stL s)[80]? = some (.int .i64 s.status) := by
 unfold stL
 rw [List.getElem?_append_right (by simp), List.getElem?_append_right (by rw [B6]; simp), B6]
 rfl
set_option maxHeartbeats 4000000 in
theorem a9Q (s : k8) (a b c d : Mv) (ra : MvR a) (rb : MvR b) (rc : MvR c) (rd : MvR d) (ms : List Mv) (hms : ∀ m ∈ ms, MvR m) {v : Value} (w : World) (hT : C1 w) (hS : Spc w) (hw : Pow w) (hrow : a2a w v ms) :
  Calls G.P 4 #[C4 s, G5 a, G5 b, G5 c, G5 d, v] w (K4 (.bool true) w) := by
 obtain ⟨al, cl, rfl, hal⟩ := hrow.form
 have r1 : ∀ m ∈ [a, b, c, d] ++ ms, MvR m := fun m hm => by
  simp only [List.mem_append, List.mem_cons, List.mem_nil_iff, or_false] at hm
  rcases hm with (rfl | rfl | rfl | rfl) | hm <;> first | assumption | exact hms _ hm
 have r2 : ∀ m ∈ [c, b, a, d] ++ ms, MvR m := fun m hm => by
  simp only [List.mem_append, List.mem_cons, List.mem_nil_iff, or_false] at hm
  rcases hm with (rfl | rfl | rfl | rfl) | hm <;> first | assumption | exact hms _ hm
 refine zN Tryz.func4 ?_
 refine zG ?_
 have c0 := Cl.alloc w (.cells (o9 s) 24)
 have n0 : (w.alloc (.cells (o9 s) 24)).heap[w.heap.size]? = some (.cells (o9 s) 24 (0, 0)) := d8 _ _
 generalize w.alloc (.cells (o9 s) 24) = w0 at *
 have k1 := Cl.alloc w0 (.cells (K2 a) 36)
 have n1 : (w0.alloc (.cells (K2 a) 36)).heap[w0.heap.size]? = some (.cells (K2 a) 36 (0, 0)) := d8 _ _
 generalize w0.alloc (.cells (K2 a) 36) = w1 at *
 have n0 := k1.blk n0
 have k2 := Cl.alloc w1 (.cells (K2 b) 36)
 have n2 : (w1.alloc (.cells (K2 b) 36)).heap[w1.heap.size]? = some (.cells (K2 b) 36 (0, 0)) := d8 _ _
 generalize w1.alloc (.cells (K2 b) 36) = w2 at *
 have n0 := k2.blk n0
 have n1 := k2.blk n1
 have k3 := Cl.alloc w2 (.cells (K2 c) 36)
 have n3 : (w2.alloc (.cells (K2 c) 36)).heap[w2.heap.size]? = some (.cells (K2 c) 36 (0, 0)) := d8 _ _
 generalize w2.alloc (.cells (K2 c) 36) = w3 at *
 have n0 := k3.blk n0
 have n1 := k3.blk n1
 have n2 := k3.blk n2
 have k4 := Cl.alloc w3 (.cells (K2 d) 36)
 have n4 : (w3.alloc (.cells (K2 d) 36)).heap[w3.heap.size]? = some (.cells (K2 d) 36 (0, 0)) := d8 _ _
 generalize w3.alloc (.cells (K2 d) 36) = w4 at *
 have n0 := k4.blk n0
 have n1 := k4.blk n1
 have n2 := k4.blk n2
 have n3 := k4.blk n3
 have c4 := (((c0.trans k1).trans k2).trans k3).trans k4
 clear c0 k1 k2 k3 k4
 refine zR ?_
 apply E.b7<;>intro h
 ·refine zR ?_
  exact ⟨rfl, c4⟩
 have hlen := h; clear h
 refine zR ?_
 refine b5 _ (P9 n1) (zR ?_)
 refine b5 _ (P9 n2) (zR ?_)
 refine b5 _ (P9 n3) (zR ?_)
 refine b5 _ (P9 n4) (zR ?_)
 refine E6 elMv [G5 a, G5 b, G5 c, G5 d] (by rw [Array.toList_map]; rfl) (by simp [G5, K2, Value.cells]) rfl zd zd ?_
 have c5 := Cl.alloc w4 (.cells (([G5 a, G5 b, G5 c, G5 d] : List Value).flatMap fun v => v.cells.toList).toArray 36)
 have n5 : (w4.alloc (.cells (([G5 a, G5 b, G5 c, G5 d] : List Value).flatMap fun v => v.cells.toList).toArray 36)).heap[w4.heap.size]? = some (.cells (([G5 a, G5 b, G5 c, G5 d] : List Value).flatMap fun v => v.cells.toList).toArray 36 (0, 0)) := d8 _ _
 generalize w4.alloc (.cells (([G5 a, G5 b, G5 c, G5 d] : List Value).flatMap fun v => v.cells.toList).toArray 36) = w5 at *
 have n0 := c5.blk n0
 have n1 := c5.blk n1
 have n2 := c5.blk n2
 have n3 := c5.blk n3
 have n4 := c5.blk n4
 refine zR ?_
 refine b5 _ (P9 n3) (zR ?_)
 refine b5 _ (P9 n2) (zR ?_)
 refine b5 _ (P9 n1) (zR ?_)
 refine b5 _ (P9 n4) (zR ?_)
 refine E6 elMv [G5 c, G5 b, G5 a, G5 d] (by rw [Array.toList_map]; rfl) (by simp [G5, K2, Value.cells]) rfl zd zd ?_
 have c6 := Cl.alloc w5 (.cells (([G5 c, G5 b, G5 a, G5 d] : List Value).flatMap fun v => v.cells.toList).toArray 36)
 have n6 : (w5.alloc (.cells (([G5 c, G5 b, G5 a, G5 d] : List Value).flatMap fun v => v.cells.toList).toArray 36)).heap[w5.heap.size]? = some (.cells (([G5 c, G5 b, G5 a, G5 d] : List Value).flatMap fun v => v.cells.toList).toArray 36 (0, 0)) := d8 _ _
 generalize w5.alloc (.cells (([G5 c, G5 b, G5 a, G5 d] : List Value).flatMap fun v => v.cells.toList).toArray 36) = w6 at *
 have n0 := c6.blk n0
 have n5 := c6.blk n5
 have cw := c4.trans (c5.trans c6)
 have e5 : (([G5 a, G5 b, G5 c, G5 d] : List Value).flatMap fun v => v.cells.toList).toArray.toList = [a, b, c, d].flatMap E9 := rfl
 have e6 : (([G5 c, G5 b, G5 a, G5 d] : List Value).flatMap fun v => v.cells.toList).toArray.toList = [c, b, a, d].flatMap E9 := rfl
 generalize (([G5 a, G5 b, G5 c, G5 d] : List Value).flatMap fun v => v.cells.toList).toArray = A5 at *
 generalize (([G5 c, G5 b, G5 a, G5 d] : List Value).flatMap fun v => v.cells.toList).toArray = A6 at *
 clear n1 n2 n3 n4 c4 c5 c6
 have ln1 : ([a, b, c, d] ++ ms).length = ms.length + 4 := by simp
 have ln2 : ([c, b, a, d] ++ ms).length = ms.length + 4 := by simp
 refine zG ?_
 refine A4 (σ := Unit) [12] 26 (fun _ => [(12, .bool false)]) (fun _ w' => Cl w6 w' ∧ ms.length ≤ 20 ∧ a6k s ([a, b, c, d] ++ ms) = true ∧ a6k s ([c, b, a, d] ++ ms) = true) zk ?_ (fun _ j w9 h9 => ?_)
 rotate_left
 ·obtain ⟨c9, h20, q1, q2⟩ := h9
  obtain ⟨hI, hh, hf, _, hqu1⟩ := b10 q1
  obtain ⟨_, _, _, _, hqu2⟩ := b10 q2
  have hh0 := hI.h0
  have hf1 := hI.f1
  have cw := cw.trans c9
  have n0 := c9.blk n0
  have n5 := c9.blk n5
  have n6 := c9.blk n6
  clear c9 hlen
  refine zR ?_
  refine I8.mk3 (Cl w9) [0, 1, 3, 4] (.cons 2 (.cons 5 (.cons 6 (.cons 7 .done .nil) .nil) .nil) .nil) (Cl.drew (Cl.refl _)) zk (zR ?_)
  refine g9 (C4 s) (fun w hw => y7 (hw.blk n0)) (zR ?_)
  refine g9 (C4 s) (fun w hw => y7 (hw.blk n0)) ?_
  have cS : Cl w9 w9.drew := Cl.drew (Cl.refl _)
  refine zE ?_
  refine o8 (b3V s hI ⟨zo, zo⟩ true [a, b, c, d] (fun m hm => r1 m (List.mem_append_left _ hm)) (by simp) _ (a5G (cS.blk n5) e5)) ?_
  rintro _ w10 ⟨v10, rfl, x10, c10⟩
  have c10 := cS.trans c10
  refine ⟨_, rfl, ?_⟩
  have k1 := a5E [a, b, c, d] [s] s (if true = true then ending [s] s (0, star) else (0, star))
  have k2 := a5E [c, b, a, d] [s] s (if true = true then ending [s] s (0, star) else (0, star))
  have hX := a23 hI hh hf (ms := [a, b, c, d]) (by simp) (fun m hm => r1 m (List.mem_append_left _ hm)) true
  have hY := a23 hI hh hf (ms := [c, b, a, d]) (by simp) (fun m hm => r2 m (List.mem_append_left _ hm)) true
  have htwo := c1e s [a, b, c, d] [c, b, a, d] ms
  have k1 : (storyOf s true [a, b, c, d]).length ≤ 4 := k1
  have k2 : (storyOf s true [c, b, a, d]).length ≤ 4 := k2
  have hSt2 := fun w h => b3V s hI ⟨zo, zo⟩ true [c, b, a, d] (fun m hm => r2 m (List.mem_append_left _ hm)) (by simp) (v := .slice (some ⟨w5.heap.size, 0, none⟩) 4 4) w h
  generalize storyOf s true [a, b, c, d] = X at *
  generalize storyOf s true [c, b, a, d] = Y at *
  obtain ⟨ax, kx, rfl, hax⟩ := x10.form
  refine zR ?_
  refine And.intro c10 (zE ?_)
  refine o8 (hSt2 w10 (a5G (c10.blk n6) e6)) ?_
  rintro _ w11 ⟨v11, rfl, y11, c11⟩
  refine ⟨_, rfl, ?_⟩
  obtain ⟨ay, ky, rfl, hay⟩ := y11.form
  have x11 := x10.step c11
  have c11 := c10.trans c11
  refine zR ?_
  repeat (first | (with_reducible refine And.intro c11 ?_; refine zR ?_) | (refine And.intro ?_ trivial; refine zR ?_))
  have cw := cw.trans c11
  have n0 := c11.blk n0
  have n5 := c11.blk n5
  have n6 := c11.blk n6
  clear x10 c10 c11 hSt2 cS
  refine zR ?_
  refine zK 20 ?_
  refine zR ?_
  apply E.r9<;>intro h
  ·refine zR ?_
   (repeat (refine nT h ?_; refine zR ?_))
   intro w' c'
   refine zR ?_
   (repeat (refine nT h ?_; refine zR ?_))
   exact ⟨rfl, cw.trans c'⟩
  have hx4 := h; clear h
  refine zR ?_
  apply E.r9<;>intro h
  ·refine zR ?_
   (repeat (first | (refine nF hx4 ?_; refine zR ?_) | (refine nT h ?_; refine zR ?_)))
   intro w' c'
   refine zR ?_
   (repeat (first | (refine nF hx4 ?_; refine zR ?_) | (refine nT h ?_; refine zR ?_)))
   exact ⟨rfl, cw.trans c'⟩
  have hy4 := h; clear h
  have x3 : 3 < X.length := by omega
  have y3 : 3 < Y.length := by omega
  obtain ⟨gx, rfl⟩ := hax zo
  obtain ⟨gy, rfl⟩ := hay zo
  refine zR ?_
  (repeat (first | (refine nF hx4 ?_; refine zR ?_) | (refine nF hy4 ?_; refine zR ?_)))
  refine zC ?_
  refine zR ?_
  (repeat (first | (refine nF hx4 ?_; refine zR ?_) | (refine nF hy4 ?_; refine zR ?_)))
  refine g9 (C4 X[3].pos) (fun w hw => a6H (x11.step hw) x3 (by rfl)) (zR ?_)
  (repeat (first | (refine nF hx4 ?_; refine zR ?_) | (refine nF hy4 ?_; refine zR ?_)))
  refine zC ?_
  refine zR ?_
  (repeat (first | (refine nF hx4 ?_; refine zR ?_) | (refine nF hy4 ?_; refine zR ?_)))
  refine g9 (C4 Y[3].pos) (fun w hw => a6H (y11.step hw) y3 (by rfl)) (zR ?_)
  (repeat (first | (refine nF hx4 ?_; refine zR ?_) | (refine nF hy4 ?_; refine zR ?_)))
  have hAl := fun w => b3v X[3].pos Y[3].pos (hX _ (List.getElem_mem x3)).pos (hY _ (List.getElem_mem y3)).pos w
  generalize hal : Y8 X[3].pos Y[3].pos = qa at *
  refine C7 _ (fun _ _ h => h.trans) (fun w hw => hAl w) ?_
  cases qa
  ·refine zR ?_
   (repeat (first | (refine nF hx4 ?_; refine zR ?_) | (refine nF hy4 ?_; refine zR ?_)))
   intro w' c'
   refine zR ?_
   (repeat (first | (refine nF hx4 ?_; refine zR ?_) | (refine nF hy4 ?_; refine zR ?_)))
   exact ⟨rfl, cw.trans c'⟩
  obtain ⟨tn, t4, t5⟩ := htwo (by simp; omega) (by simp; omega) rfl rfl (List.getElem?_eq_getElem x3) (List.getElem?_eq_getElem y3) hal
  clear htwo hAl hX hY k1 k2
  refine zR ?_
  (repeat (first | (refine nF hx4 ?_; refine zR ?_) | (refine nF hy4 ?_; refine zR ?_)))
  intro w12 c12
  refine zR ?_
  (repeat (first | (refine nF hx4 ?_; refine zR ?_) | (refine nF hy4 ?_; refine zR ?_)))
  have cw := cw.trans c12
  have n0 := c12.blk n0
  have n5 := c12.blk n5
  have n6 := c12.blk n6
  clear x11 y11 hx4 hy4 hax hay hal
  refine b5 _ (y7 n0) (zR ?_)
  refine m9 (a0Z s (a9P hI ⟨zo, zo⟩) _) fun w13 c13 => ?_
  have cw := cw.trans c13
  have n0 := c13.blk n0
  have n5 := c13.blk n5
  have n6 := c13.blk n6
  refine zR ?_
  refine a39 (l := [a, b, c, d]) rfl n5 e5 rfl (hrow.step cw) (by simp; omega) fun v14 w14 m14 c14 => ?_
  have cw := cw.trans c14
  have n0 := c14.blk n0
  have n6 := c14.blk n6
  refine zR ?_
  refine o8 (a7S hI hh hf ([a, b, c, d] ++ ms) r1 hqu1 zo w14 (hT.cl cw) (hS.cl cw) (hw.cl cw) m14) ?_
  rintro _ w15 ⟨v15, rfl, x15, c15⟩
  refine ⟨_, rfl, ?_⟩
  have cw := cw.trans c15
  have n0 := c15.blk n0
  have n6 := c15.blk n6
  obtain ⟨ax, kx, rfl, hax⟩ := x15.form
  have hX := a23 hI hh hf (ms := [a, b, c, d] ++ ms) zo r1 true
  have hY := a23 hI hh hf (ms := [c, b, a, d] ++ ms) zo r2 true
  have k1 : (storyOf s true ([a, b, c, d] ++ ms)).length ≤ ([a, b, c, d] ++ ms).length := a5E _ _ _ _
  have hIm := fun v w h1 h2 h3 h4 => a7S hI hh hf ([c, b, a, d] ++ ms) r2 hqu2 zo (v := v) w h1 h2 h3 h4
  generalize storyOf s true ([a, b, c, d] ++ ms) = L at *
  generalize storyOf s true ([c, b, a, d] ++ ms) = M at *
  refine zR ?_
  refine b5 _ (y7 n0) (zR ?_)
  refine m9 (a0Z s (a9P hI ⟨zo, zo⟩) _) fun w16 c16 => ?_
  have cw := cw.trans c16
  have n6 := c16.blk n6
  refine zR ?_
  refine a39 (l := [c, b, a, d]) rfl n6 e6 rfl (hrow.step cw) (by simp; omega) fun v17 w17 m17 c17 => ?_
  have cw := cw.trans c17
  refine zR ?_
  refine o8 (hIm v17 w17 (hT.cl cw) (hS.cl cw) (hw.cl cw) m17) ?_
  rintro _ w18 ⟨v18, rfl, y18, c18⟩
  refine ⟨_, rfl, ?_⟩
  have cw := cw.trans c18
  have x18 := x15.step ((c16.trans c17).trans c18)
  obtain ⟨ay, ky, rfl, hay⟩ := y18.form
  obtain ⟨gx, rfl⟩ := hax zo
  obtain ⟨gy, rfl⟩ := hay zo
  have hlL : L.length ≤ 1000 := by omega
  clear hIm x15 c16 c17 c18 m17 m14 n6 hax hay k1
  refine zR ?_
  (repeat (first | (refine nF zo ?_; refine zR ?_) | (refine E.o7 zo ?_; refine zR ?_)))
  refine A9 (σ := Nat) [12, 23, 24, 25] 26 (fun i => [(23, .int .i64 i)]) (fun i w' => 3 ≤ i ∧ i ≤ L.length ∧ Cl w18 w') (fun i => L.length - i) zk 3 ⟨zo, zo, Cl.refl _⟩ ⟨rfl, trivial⟩ ?_
  rintro i j w19 ⟨i3, iL, c19⟩
  have cw := cw.trans c19
  refine zR ?_
  apply E.b7<;>intro h
  rotate_left
  ·refine zR ?_
   exact ⟨rfl, cw⟩
  have hil : i < L.length := by omega
  have him : i < M.length := by omega
  clear h
  have ni : IntKind.i64.wrap ((i : Int) + 1) = ((i + 1 : Nat) : Int) := by rw [g7 zo zo]; push_cast; omega
  have x19 := x18.step c19
  have y19 := y18.step c19
  obtain ⟨⟨hq, fq, hpq⟩, hsame⟩ := t5 i L[i] M[i] i3 (List.getElem?_eq_getElem hil) (List.getElem?_eq_getElem him)
  have hsL := hX _ (List.getElem_mem hil)
  have hsM := hY _ (List.getElem_mem him)
  have lp : ∀ w', Cl w19 w' → l8 G.P w' 24 ⟨gx, E.W6 0 ((i : Int)).toNat 81 + 9, none⟩ (C4 L[i].pos) := fun w' h' => a6H (x19.step h') hil (by simp [E.z6])
  have lq : ∀ w', Cl w19 w' → l8 G.P w' 24 ⟨gy, E.W6 0 ((i : Int)).toNat 81 + 9, none⟩ (C4 M[i].pos) := fun w' h' => a6H (y19.step h') him (by simp [E.z6])
  have lx : ∀ w', Cl w19 w' → ∀ (k t : Nat) (v : Value), k < 81 → (stL L[i])[k]? = some v → a41 (P1 G.T t) = true → l8 G.P w' t ⟨gx, E.W6 0 ((i : Int)).toNat 81 + k, none⟩ v := fun w' h' k t v hk hv ht => J8 (x19.step h') U8 i k hil hk hv (by simp [E.z6]) ht
  have ly : ∀ w', Cl w19 w' → ∀ (k t : Nat) (v : Value), k < 81 → (stL M[i])[k]? = some v → a41 (P1 G.T t) = true → l8 G.P w' t ⟨gy, E.W6 0 ((i : Int)).toNat 81 + k, none⟩ v := fun w' h' k t v hk hv ht => J8 (y19.step h') U8 i k him hk hv (by simp [E.z6]) ht
  clear t5 x18 y18 x19 y19 hX hY
  generalize L[i] = sx at *
  generalize M[i] = sy at *
  refine zR ?_
  obtain ⟨zp, hzp, hz69⟩ := b1P
  have cS : Cl w19 w19.drew := Cl.drew (Cl.refl _)
  refine I8.mk3 (Cl w19) [0, 1, 2, 3, 4, 5, 6, 7, 8, 9] (.cons 10 (.cons 11 (.cons 12 (.cons 13 .done .nil) .nil) .nil) (.cons 11 (.cons 10 (.cons 12 (.cons 13 .done .nil) .nil) .nil) .nil)) cS zk (zR ?_)
  refine zC ?_
  refine zR ?_
  refine g9 (C4 sx.pos) (fun w hw => lp w hw) (zR ?_)
  refine zC ?_
  refine zR ?_
  refine g9 (C4 sy.pos) (fun w hw => lq w hw) (zR ?_)
  have hP0 : a4b (rn sx.pos 0 0) := ⟨hsL.pos.sq, hsL.pos.turn, hsL.pos.castle, hsL.pos.ep, ⟨by show _ ≤ (0 : Int); omega, by show (0 : Int) ≤ _; omega⟩, ⟨by show _ ≤ (0 : Int); omega, by show (0 : Int) ≤ _; omega⟩⟩
  refine And.intro ?_ (And.intro ?_ trivial)
  ·refine zR ?_
   refine t7 zp hzp ?_
   have a1 : (w19.drew.alloc (.cells zp.cells 24)).heap[w19.drew.heap.size]? = some (.cells zp.cells 24 (0, 0)) := d8 _ _
   have s1 := y9 w19.drew (.cells zp.cells 24)
   have ca := cS.trans (Cl.alloc w19.drew (.cells zp.cells 24))
   generalize w19.drew.alloc (.cells zp.cells 24) = wa at *
   refine zR ?_
   refine And.intro ca (zE ?_)
   refine t7 zp hzp ?_
   have a2 : (wa.alloc (.cells zp.cells 24)).heap[wa.heap.size]? = some (.cells zp.cells 24 (0, 0)) := d8 _ _
   have cb := ca.trans (Cl.alloc wa (.cells zp.cells 24))
   have a1 := (Cl.alloc wa (.cells zp.cells 24)).blk a1
   generalize wa.alloc (.cells zp.cells 24) = wb at *
   refine zR ?_
   refine And.intro cb (zE ?_)
   refine J6 a1 (X0 sx.pos) rfl a13 (B6 _) (one_pos _) (by rw [hz69]; omega) (fun wc uc => ?_)
   have hA := uc.at_
   rw [C5 _ _ (by rw [B6, hz69])] at hA
   have hB := (Tn.upd uc).blk a2 (by rw [s1]; exact Nat.succ_ne_self _)
   have cc := uc.cl cb (Nat.le_refl _)
   refine zR ?_
   refine And.intro cc (zE ?_)
   refine J6 hB (X0 sy.pos) rfl a13 (B6 _) (one_pos _) (by rw [hz69]; omega) (fun wd ud => ?_)
   have hA := (Tn.upd ud).blk hA (by rw [s1]; exact (Nat.succ_ne_self _).symm)
   have hB := ud.at_
   rw [C5 _ _ (by rw [B6, hz69])] at hB
   have cd := ud.cl cc (by rw [s1]; exact Nat.le_succ _)
   refine zR ?_
   refine And.intro cd (zR ?_)
   refine J6 (cs := o9 sx.pos) hA [.int .i64 0] rfl N8 rfl (H5 _ _) (by rw [r7]; decide) (fun we ue => ?_)
   have hA : we.heap[_]? = some (Obj.cells (E4 (o9 sx.pos) 67 [.int .i64 0]) 24 (0, 0)) := ue.at_
   rw [D2 sx.pos (rn sx.pos 0 sx.pos.full) 67 0 zo rfl rfl] at hA
   have hB := (Tn.upd ue).blk hB (by rw [s1]; exact Nat.succ_ne_self _)
   have ce := ue.cl cd (Nat.le_refl _)
   refine zR ?_
   refine J6 hA [.int .i64 0] rfl N8 rfl (H5 _ _) (by rw [r7]; decide) (fun wf uf => ?_)
   have hA : wf.heap[_]? = some (Obj.cells (E4 (o9 (rn sx.pos 0 sx.pos.full)) 68 [.int .i64 0]) 24 (0, 0)) := uf.at_
   rw [D2 (rn sx.pos 0 sx.pos.full) (rn sx.pos 0 0) 68 0 zo rfl rfl] at hA
   have hB := (Tn.upd uf).blk hB (by rw [s1]; exact Nat.succ_ne_self _)
   have cf := uf.cl ce (Nat.le_refl _)
   refine zR ?_
   refine J6 (cs := o9 sy.pos) hB [.int .i64 0] rfl N8 rfl (H5 _ _) (by rw [r7]; decide) (fun wg ug => ?_)
   have hA := (Tn.upd ug).blk hA (by rw [s1]; exact (Nat.succ_ne_self _).symm)
   have hB : wg.heap[_]? = some (Obj.cells (E4 (o9 sy.pos) 67 [.int .i64 0]) 24 (0, 0)) := ug.at_
   rw [D2 sy.pos (rn sy.pos 0 sy.pos.full) 67 0 zo rfl rfl] at hB
   have cg := ug.cl cf (by rw [s1]; exact Nat.le_succ _)
   refine zR ?_
   refine J6 hB [.int .i64 0] rfl N8 rfl (H5 _ _) (by rw [r7]; decide) (fun wh uh => ?_)
   have hA := (Tn.upd uh).blk hA (by rw [s1]; exact (Nat.succ_ne_self _).symm)
   have hB : wh.heap[_]? = some (Obj.cells (E4 (o9 (rn sy.pos 0 sy.pos.full)) 68 [.int .i64 0]) 24 (0, 0)) := uh.at_
   rw [D2 (rn sy.pos 0 sy.pos.full) (rn sx.pos 0 0) 68 0 zo (by rw [hpq]; rfl) (by rw [hpq]; rfl)] at hB
   have ch := uh.cl cg (by rw [s1]; exact Nat.le_succ _)
   clear uc ud ue uf ug uh cc cd ce cf cg cb a1 a2 ca
   refine zR ?_
   refine zK 72 ?_
   refine zR ?_
   refine g9 (C4 (rn sx.pos 0 0)) (fun w hw => y7 (hw.blk hA)) (zR ?_)
   refine g9 (C4 (rn sx.pos 0 0)) (fun w hw => y7 (hw.blk hB)) (zR ?_)
   refine b1w b7u (b9G hP0) rfl rfl (zR ?_)
   apply E.b7<;>intro h
   rotate_left
   ·refine zR ?_
    (repeat (refine E.o7 h ?_; refine zR ?_))
    intro w' c'
    refine zR ?_
    (repeat (refine E.o7 h ?_; refine zR ?_))
    exact ⟨i + 1, ⟨d6 ni, trivial⟩, ⟨zo, zo, c19.trans (ch.trans c')⟩, zo⟩
   ·obtain ⟨e1, e2, e3, e4, e5, _⟩ := hsame zo
    have h3 := h; clear h
    refine zR ?_
    repeat (first | (refine nF rfl ?_; refine zR ?_) | (refine E.v6 h3 ?_; refine zR ?_) | (refine zC ?_; refine zR ?_) | (refine g9 (s8 sx.san) (fun w hw => lx w (ch.trans hw) 4 9 _ zd rfl rfl) ?_; refine zR ?_) | (refine g9 (s8 sx.san) (fun w hw => ly w (ch.trans hw) 4 9 _ zd (by rw [← e1]; rfl) rfl) ?_; refine zR ?_) | (refine g9 (s8 sx.lan) (fun w hw => lx w (ch.trans hw) 5 9 _ zd rfl rfl) ?_; refine zR ?_) | (refine g9 (s8 sx.lan) (fun w hw => ly w (ch.trans hw) 5 9 _ zd (by rw [← e2]; rfl) rfl) ?_; refine zR ?_) | (refine g9 (s8 sx.uci) (fun w hw => lx w (ch.trans hw) 6 9 _ zd rfl rfl) ?_; refine zR ?_) | (refine g9 (s8 sx.uci) (fun w hw => ly w (ch.trans hw) 6 9 _ zd (by rw [← e3]; rfl) rfl) ?_; refine zR ?_) | (refine g9 (.int .i64 sx.tags) (fun w hw => lx w (ch.trans hw) 3 3 _ zd rfl rfl) ?_; refine zR ?_) | (refine g9 (.int .i64 sx.tags) (fun w hw => ly w (ch.trans hw) 3 3 _ zd (by rw [← e4]; rfl) rfl) ?_; refine zR ?_) | (refine g9 (.int .i64 sx.status) (fun w hw => lx w (ch.trans hw) 80 3 _ zd (a24 _) rfl) ?_; refine zR ?_) | (refine g9 (.int .i64 sx.status) (fun w hw => ly w (ch.trans hw) 80 3 _ zd (by rw [← e5]; exact a24 _) rfl) ?_; refine zR ?_))
    intro w' c'
    refine zR ?_
    (repeat (first | (refine nF rfl ?_; refine zR ?_) | (refine E.v6 h3 ?_; refine zR ?_)))
    exact ⟨i + 1, ⟨d6 ni, trivial⟩, ⟨zo, zo, c19.trans (ch.trans c')⟩, zo⟩
  ·refine zR ?_
   refine t7 zp hzp ?_
   have a1 : (w19.drew.alloc (.cells zp.cells 24)).heap[w19.drew.heap.size]? = some (.cells zp.cells 24 (0, 0)) := d8 _ _
   have s1 := y9 w19.drew (.cells zp.cells 24)
   have ca := cS.trans (Cl.alloc w19.drew (.cells zp.cells 24))
   generalize w19.drew.alloc (.cells zp.cells 24) = wa at *
   refine zR ?_
   refine And.intro ca (zE ?_)
   refine t7 zp hzp ?_
   have a2 : (wa.alloc (.cells zp.cells 24)).heap[wa.heap.size]? = some (.cells zp.cells 24 (0, 0)) := d8 _ _
   have cb := ca.trans (Cl.alloc wa (.cells zp.cells 24))
   have a1 := (Cl.alloc wa (.cells zp.cells 24)).blk a1
   generalize wa.alloc (.cells zp.cells 24) = wb at *
   refine zR ?_
   refine And.intro cb (zE ?_)
   refine J6 a2 (X0 sx.pos) rfl a13 (B6 _) (one_pos _) (by rw [hz69]; omega) (fun wc uc => ?_)
   have hA := uc.at_
   rw [C5 _ _ (by rw [B6, hz69])] at hA
   have hB := (Tn.upd uc).blk a1 (by rw [s1]; exact (Nat.succ_ne_self _).symm)
   have cc := uc.cl cb (by rw [s1]; exact Nat.le_succ _)
   refine zR ?_
   refine And.intro cc (zE ?_)
   refine J6 hB (X0 sy.pos) rfl a13 (B6 _) (one_pos _) (by rw [hz69]; omega) (fun wd ud => ?_)
   have hA := (Tn.upd ud).blk hA (by rw [s1]; exact Nat.succ_ne_self _)
   have hB := ud.at_
   rw [C5 _ _ (by rw [B6, hz69])] at hB
   have cd := ud.cl cc (Nat.le_refl _)
   refine zR ?_
   refine And.intro cd (zR ?_)
   refine J6 (cs := o9 sx.pos) hA [.int .i64 0] rfl N8 rfl (H5 _ _) (by rw [r7]; decide) (fun we ue => ?_)
   have hA : we.heap[_]? = some (Obj.cells (E4 (o9 sx.pos) 67 [.int .i64 0]) 24 (0, 0)) := ue.at_
   rw [D2 sx.pos (rn sx.pos 0 sx.pos.full) 67 0 zo rfl rfl] at hA
   have hB := (Tn.upd ue).blk hB (by rw [s1]; exact (Nat.succ_ne_self _).symm)
   have ce := ue.cl cd (by rw [s1]; exact Nat.le_succ _)
   refine zR ?_
   refine J6 hA [.int .i64 0] rfl N8 rfl (H5 _ _) (by rw [r7]; decide) (fun wf uf => ?_)
   have hA : wf.heap[_]? = some (Obj.cells (E4 (o9 (rn sx.pos 0 sx.pos.full)) 68 [.int .i64 0]) 24 (0, 0)) := uf.at_
   rw [D2 (rn sx.pos 0 sx.pos.full) (rn sx.pos 0 0) 68 0 zo rfl rfl] at hA
   have hB := (Tn.upd uf).blk hB (by rw [s1]; exact (Nat.succ_ne_self _).symm)
   have cf := uf.cl ce (by rw [s1]; exact Nat.le_succ _)
   refine zR ?_
   refine J6 (cs := o9 sy.pos) hB [.int .i64 0] rfl N8 rfl (H5 _ _) (by rw [r7]; decide) (fun wg ug => ?_)
   have hA := (Tn.upd ug).blk hA (by rw [s1]; exact Nat.succ_ne_self _)
   have hB : wg.heap[_]? = some (Obj.cells (E4 (o9 sy.pos) 67 [.int .i64 0]) 24 (0, 0)) := ug.at_
   rw [D2 sy.pos (rn sy.pos 0 sy.pos.full) 67 0 zo rfl rfl] at hB
   have cg := ug.cl cf (Nat.le_refl _)
   refine zR ?_
   refine J6 hB [.int .i64 0] rfl N8 rfl (H5 _ _) (by rw [r7]; decide) (fun wh uh => ?_)
   have hA := (Tn.upd uh).blk hA (by rw [s1]; exact Nat.succ_ne_self _)
   have hB : wh.heap[_]? = some (Obj.cells (E4 (o9 (rn sy.pos 0 sy.pos.full)) 68 [.int .i64 0]) 24 (0, 0)) := uh.at_
   rw [D2 (rn sy.pos 0 sy.pos.full) (rn sx.pos 0 0) 68 0 zo (by rw [hpq]; rfl) (by rw [hpq]; rfl)] at hB
   have ch := uh.cl cg (Nat.le_refl _)
   clear uc ud ue uf ug uh cc cd ce cf cg cb a1 a2 ca
   refine zR ?_
   refine zK 72 ?_
   refine zR ?_
   refine g9 (C4 (rn sx.pos 0 0)) (fun w hw => y7 (hw.blk hA)) (zR ?_)
   refine g9 (C4 (rn sx.pos 0 0)) (fun w hw => y7 (hw.blk hB)) (zR ?_)
   refine b1w b7u (b9G hP0) rfl rfl (zR ?_)
   apply E.b7<;>intro h
   rotate_left
   ·refine zR ?_
    (repeat (refine E.o7 h ?_; refine zR ?_))
    intro w' c'
    refine zR ?_
    (repeat (refine E.o7 h ?_; refine zR ?_))
    exact ⟨i + 1, ⟨d6 ni, trivial⟩, ⟨zo, zo, c19.trans (ch.trans c')⟩, zo⟩
   ·obtain ⟨e1, e2, e3, e4, e5, _⟩ := hsame zo
    have h3 := h; clear h
    refine zR ?_
    repeat (first | (refine nF rfl ?_; refine zR ?_) | (refine E.v6 h3 ?_; refine zR ?_) | (refine zC ?_; refine zR ?_) | (refine g9 (s8 sx.san) (fun w hw => lx w (ch.trans hw) 4 9 _ zd rfl rfl) ?_; refine zR ?_) | (refine g9 (s8 sx.san) (fun w hw => ly w (ch.trans hw) 4 9 _ zd (by rw [← e1]; rfl) rfl) ?_; refine zR ?_) | (refine g9 (s8 sx.lan) (fun w hw => lx w (ch.trans hw) 5 9 _ zd rfl rfl) ?_; refine zR ?_) | (refine g9 (s8 sx.lan) (fun w hw => ly w (ch.trans hw) 5 9 _ zd (by rw [← e2]; rfl) rfl) ?_; refine zR ?_) | (refine g9 (s8 sx.uci) (fun w hw => lx w (ch.trans hw) 6 9 _ zd rfl rfl) ?_; refine zR ?_) | (refine g9 (s8 sx.uci) (fun w hw => ly w (ch.trans hw) 6 9 _ zd (by rw [← e3]; rfl) rfl) ?_; refine zR ?_) | (refine g9 (.int .i64 sx.tags) (fun w hw => lx w (ch.trans hw) 3 3 _ zd rfl rfl) ?_; refine zR ?_) | (refine g9 (.int .i64 sx.tags) (fun w hw => ly w (ch.trans hw) 3 3 _ zd (by rw [← e4]; rfl) rfl) ?_; refine zR ?_) | (refine g9 (.int .i64 sx.status) (fun w hw => lx w (ch.trans hw) 80 3 _ zd (a24 _) rfl) ?_; refine zR ?_) | (refine g9 (.int .i64 sx.status) (fun w hw => ly w (ch.trans hw) 80 3 _ zd (by rw [← e5]; exact a24 _) rfl) ?_; refine zR ?_))
    intro w' c'
    refine zR ?_
    (repeat (first | (refine nF rfl ?_; refine zR ?_) | (refine E.v6 h3 ?_; refine zR ?_)))
    exact ⟨i + 1, ⟨d6 ni, trivial⟩, ⟨zo, zo, c19.trans (ch.trans c')⟩, zo⟩
 refine zR ?_
 by_cases h20 : 20 < ms.length
 ·refine zK 19 ?_
  refine zR ?_
  refine E.v6 zo (zR ?_)
  intro w' c'
  refine zR ?_
  exact ⟨rfl, cw.trans c'⟩
 ·refine I8.mk3 (Cl w6) [0, 1, 2, 3, 4, 5, 6] (.cons 7 (.cons 8 (.cons 9 (.cons 10 (.cons 11 (.cons 12 (.cons 13 (.cons 14 (.cons 15 (.cons 16 (.cons 17 (.cons 18 .done .nil) .nil) .nil) .nil) .nil) (.cons 14 (.cons 13 (.cons 15 (.cons 16 (.cons 17 (.cons 18 .done .nil) .nil) .nil) .nil) .nil) .nil)) (.cons 13 (.cons 12 (.cons 14 (.cons 15 (.cons 16 (.cons 17 (.cons 18 .done .nil) .nil) .nil) .nil) .nil) (.cons 14 (.cons 12 (.cons 15 (.cons 16 (.cons 17 (.cons 18 .done .nil) .nil) .nil) .nil) (.cons 15 (.cons 12 (.cons 16 (.cons 17 (.cons 18 .done .nil) .nil) .nil) .nil) .nil)) .nil)) (.cons 14 (.cons 12 (.cons 13 (.cons 15 (.cons 16 (.cons 17 (.cons 18 .done .nil) .nil) .nil) .nil) .nil) (.cons 13 (.cons 12 (.cons 15 (.cons 16 (.cons 17 (.cons 18 .done .nil) .nil) .nil) .nil) (.cons 15 (.cons 12 (.cons 16 (.cons 17 (.cons 18 .done .nil) .nil) .nil) .nil) .nil)) .nil)) .nil))) .nil) .nil) .nil) .nil) .nil) (Cl.drew (Cl.refl _)) zk (zR ?_)
  refine E.o7 zo (zR ?_)
  refine g9 (C4 s) (fun w hw => y7 (hw.blk n0)) ?_
  have cS : Cl w6 w6.drew := Cl.drew (Cl.refl _)
  refine zE ?_
  refine a39 (l := [a, b, c, d]) rfl (cS.blk n5) e5 rfl (hrow.step (cw.trans cS)) (by simp; omega) fun v7 w7 m7 c7 => ?_
  have c7 := cS.trans c7
  refine zR ?_
  refine And.intro c7 (zE ?_)
  refine m9 (a8V s ([a, b, c, d] ++ ms) r1 w7 m7) fun w8 c8 => ?_
  have c8 := c7.trans c8
  generalize hq1 : a6k s ([a, b, c, d] ++ ms) = q1
  cases q1
  ·refine zR ?_
   repeat' (first | (with_reducible refine And.intro c8 ?_; refine zR ?_) | (refine And.intro ?_ trivial; refine zR ?_) | (refine And.intro ?_ ?_ <;> (try refine zR ?_)))
   all_goals (refine zR ?_; exact ⟨rfl, cw.trans c8⟩)
  ·have n08 := c8.blk n0
   have n68 := c8.blk n6
   have m0 := hrow.step (cw.trans c8)
   have hle : [c, b, a, d].length + ms.length ≤ 100000 := by simp; omega
   refine zR ?_
   repeat' (first | (with_reducible refine And.intro c8 ?_; refine zR ?_) | (with_reducible refine And.intro cA ?_; refine zR ?_) | (with_reducible refine And.intro cB ?_; refine zR ?_) | (refine And.intro ?_ trivial; refine zR ?_) | (refine And.intro ?_ ?_ <;> (try refine zR ?_)) | (refine b5 _ (y7 n08) ?_; refine zR ?_) | (refine b5 _ (y7 n0A) ?_; refine zR ?_) | (refine a39 (l := [c, b, a, d]) rfl n68 e6 rfl m0 hle fun vA wA mA cA' => ?_; have cA := c8.trans cA'; have n0A := cA'.blk n08; refine zR ?_) | (refine m9 (a8V s ([c, b, a, d] ++ ms) r2 wA mA) fun wB cB' => ?_; have cB := cA.trans cB'; generalize hq2 : a6k s ([c, b, a, d] ++ ms) = q2; refine zR ?_))
   all_goals
    cases q2
    ·refine zR ?_
     exact ⟨rfl, cw.trans cB⟩
    ·refine zR ?_
     exact ⟨(), ⟨rfl, trivial⟩, cB, zo, rfl, rfl⟩
end
end Go.Proofs.YtpclhlhcegcflaaGreatDoor
