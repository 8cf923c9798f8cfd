/- One part of the proof: Sp11 Sp12 Clo Cas Clo2. -/
import Derived.Test.YtpclhlhcegcflaaGreatDoorM1
import Derived.Test.YtpclhlhcegcflaaGreatDoorM3
import Derived.Test.YtpclhlhcegcflaaGreatDoorM7
namespace Go.Proofs.YtpclhlhcegcflaaGreatDoor
set_option maxRecDepth 100000
set_option linter.unusedSimpArgs false
set_option linter.unusedVariables false
section
open Go Go.RowKit
open E
def beforeB (a b : Mv) : Bool := if a.fr ≠ b.fr then decide (a.fr < b.fr) else if a.to ≠ b.to then decide (a.to < b.to) else decide (a.promo < b.promo)
theorem before_c (a b : Mv) (w : World) : Calls G.P 218 #[mvV a, mvV b] w (Ret (.bool (beforeB a b)) w) := by
 refine zN Tryz.func218 ?_
 refine zG ?_
 generalize hW : (w.alloc (.cells (mvA a) 36)).alloc (.cells (mvA b) 36) = W0
 have hA : W0.heap[w.heap.size]? = some (.cells (mvA a) 36 (0, 0)) := hW ▸ (Cl.alloc _ _).blk (alloc_new _ _)
 have hB : W0.heap[(w.alloc (.cells (mvA a) 36)).heap.size]? = some (.cells (mvA b) 36 (0, 0)) := hW ▸ alloc_new _ _
 have hE : Cl w W0 := hW ▸ (Cl.alloc _ _).trans (Cl.alloc _ _)
 refine zR ?_
 refine loadK _ (ldFr hA) (zR ?_)
 refine loadK _ (ldFr hB) (zR ?_)
 apply E.ndsplit<;>intro h
 ·refine zR ?_
  refine loadK _ (ldFr hA) (zR ?_)
  refine loadK _ (ldFr hB) (zR ?_)
  exact ⟨by simp [beforeB, h], hE⟩
 have h1 := h; clear h
 refine zR ?_
 refine loadK _ (ldTo hA) (zR ?_)
 refine loadK _ (ldTo hB) (zR ?_)
 apply E.ndsplit<;>intro h
 ·refine zR ?_
  refine loadK _ (ldTo hA) (zR ?_)
  refine loadK _ (ldTo hB) (zR ?_)
  exact ⟨by simp [beforeB, h1, h], hE⟩
 refine zR ?_
 refine loadK _ (ldPromo hA) (zR ?_)
 refine loadK _ (ldPromo hB) (zR ?_)
 exact ⟨by simp [beforeB, h1, h], hE⟩
theorem ordered_c (l : List Mv) (v : Value) (w : World) (b1 : Nat) (hr : Row 36 3 encMv b1 w v l) (hl : l.length ≤ 50000) :
  Calls G.P 179 #[v] w (fun r w' => ∃ v l', r = .returned v ∧ l'.Perm l ∧ Row 36 3 encMv w.heap.size w' v l' ∧ Cl w w') := by
 obtain ⟨a, c, rfl, _⟩ := hr.form
 refine zN Tryz.func179 ?_
 refine zG ?_
 refine zR ?_
 refine gen_bs0 elMv ?_
 have r0 : Row 36 3 encMv w.heap.size (w.alloc (.cells #[] 36)) (.slice (some ⟨w.heap.size, 0, none⟩) 0 0) [] := row_new encMv_len w [] (by simp) [] rfl
 have hr1 := hr.step (Cl.alloc w (.cells #[] 36))
 generalize hW0 : w.alloc (.cells #[] 36) = W0 at *
 have c0 : Cl w W0 := hW0 ▸ Cl.alloc _ _
 refine zR ?_
 refine gen_appX (v := .slice (some ⟨w.heap.size, 0, none⟩) 0 0) elMv rfl r0 rfl hr1 encMv_len encMv_one (by simp; omega) zd c0.size (fun v' w1 hr2 hg => ?_)
 have c1 : Cl w w1 := hg.cl w rfl c0
 have hg2 : ∃ g c', v' = .slice (some ⟨g, 0, none⟩) l.length c' := by
  obtain ⟨a', c', rfl, _⟩ := hr2.form
  rcases hg.at_ with e | ⟨k, e, _⟩
  ·cases a' with
   | none => simp [Value.ownBlock] at e
   | some ad =>
    rcases hr2.2 with ⟨e1, _⟩ | ⟨g, cap, cur, e1, _⟩
    ·cases e1
    ·injection e1 with e1 _ _; injection e1 with e1; subst e1; exact ⟨g, c', by simp⟩
  ·cases a' with
   | none => simp [Value.ownBlock] at e
   | some ad =>
    rcases hr2.2 with ⟨e1, _⟩ | ⟨g, cap, cur, e1, _⟩
    ·cases e1
    ·injection e1 with e1 _ _; injection e1 with e1; subst e1; exact ⟨g, c', by simp⟩
 obtain ⟨g, c', rfl⟩ := hg2
 simp only [List.nil_append] at hr2
 clear hg
 refine zR ?_
 refine loopK (σ := Nat × List Mv) [4, 5] 6 (fun a => [(4, .int .i64 a.1)]) (fun a w' => 1 ≤ a.1 ∧ (a.1 ≤ l.length ∨ a.1 = 1) ∧ a.2.Perm l ∧ Row 36 3 encMv w.heap.size w' (.slice (some ⟨g, 0, none⟩) l.length c') a.2 ∧ Cl w w') (fun a => l.length - a.1) zk (1, l)
  ⟨Nat.le_refl _, .inr rfl, List.Perm.refl _, hr2, c1⟩ ⟨rfl, trivial⟩ ?_
 rintro ⟨i, l1⟩ j w2 ⟨hi1, hi2, hp, hrow, hcl⟩
 simp only at hi1 hi2 hp hrow
 refine zR ?_
 apply E.dsplit<;>intro h
 ·have hil : i < l.length := by simp only at h; omega
  clear h
  refine zR ?_
  refine loopK (σ := Nat × List Mv) [5] 6 (fun a => [(5, .int .i64 a.1)]) (fun a w' => a.1 ≤ i ∧ a.2.Perm l ∧ Row 36 3 encMv w.heap.size w' (.slice (some ⟨g, 0, none⟩) l.length c') a.2 ∧ Cl w w') (fun a => a.1) zk (i, l1)
   ⟨Nat.le_refl _, hp, hrow, hcl⟩ ⟨rfl, trivial⟩ ?_
  rintro ⟨k, l2⟩ j2 w3 ⟨hk, hp2, hrow, hcl⟩
  simp only at hk hp2 hrow
  have hlen := hp2.length_eq
  have ldK : ∀ w', Cl w3 w' → ∀ m (hm : m < l2.length) o, o = m * 3 → LoadsTo G.P w' 36 ⟨g, o, none⟩ (mvV l2[m]) := fun w' hw m hm o ho => ldRowA (hrow.step hw) encMv_len m hm rfl ho rfl
  refine zR ?_
  refine zK 14 ?_
  refine zR ?_
  apply E.dsplit<;>intro h
  ·have hk0 : 0 < k := by simp only at h; omega
   have hk2 : k < l2.length := by omega
   clear h
   obtain ⟨k1, rfl⟩ : ∃ k1, k = k1 + 1 := ⟨k - 1, zo⟩
   have m1 : IntKind.i64.wrap (((k1 + 1 : Nat) : Int) - 1) = (k1 : Int) := by rw [w64_in zo zo]; omega
   refine zR ?_
   refine zC ?_
   refine zR ?_
   refine loadQ _ (fun w hw => ldK w hw (k1 + 1) hk2 _ ?_) ?_
   ·simp [E.offZ_eq]
   refine zR ?_
   simp only [m1]
   refine zC ?_
   refine zR ?_
   refine loadQ _ (fun w hw => ldK w hw k1 zo _ ?_) ?_
   ·simp [E.offZ_eq]
   refine zR ?_
   refine callQ _ (fun _ _ h => h.trans) (fun w _ => before_c _ _ _) ?_
   cases hT : beforeB l2[k1 + 1] l2[k1]
   ·refine zR ?_
    intro w4 c4
    refine zR ?_
    refine ⟨(i + 1, l2), ⟨int_eq (by rw [w64_in zo zo]; push_cast; omega), trivial⟩, ⟨by simp only; omega, by simp only; omega, hp2, hrow.step c4, hcl.trans c4⟩, by simp only; omega⟩
   ·refine zR ?_
    intro w4 c4
    have hrow4 := hrow.step c4
    have hcl4 := hcl.trans c4
    have ldK4 : ∀ w', Cl w4 w' → ∀ m (hm : m < l2.length) o, o = m * 3 → LoadsTo G.P w' 36 ⟨g, o, none⟩ (mvV l2[m]) := fun w' hw m hm => ldK w' (c4.trans hw) m hm
    refine zR ?_
    refine DrawK.mk2 [0, 1, 2, 3, 4, 5, 6, 7, 8, 10, 11, 12] (.cons 9 (.cons 13 (.cons 14 (.cons 15 (.cons 16 (.cons 17 .done .nil) .nil) .nil) .nil) .nil) (.cons 13 (.cons 9 (.cons 14 (.cons 15 (.cons 16 (.cons 17 .done .nil) .nil) .nil) .nil) .nil) .nil)) zk (zR ?_)
    simp only [m1]
    refine zC ?_
    refine zR ?_
    refine zC ?_
    refine zR ?_
    have cd : Cl w4 w4.drew := Cl.drew (Cl.refl _)
    have hcd : Cl w w4.drew := hcl4.trans cd
    obtain ⟨cs, g1, g2, g3, t1⟩ := (hrow4.step cd).turn encMv_len (k1 + 1) hk2 l2[k1]
    refine And.intro ?_ (And.intro ?_ trivial)
    ·refine zR ?_
     refine loadK _ (ldK4 _ cd k1 zo _ (by simp [E.offZ_eq])) (zE ?_)
     refine loadK _ (ldK4 _ cd (k1 + 1) hk2 _ (by simp [E.offZ_eq])) (zE ?_)
     refine zC ?_
     refine zE ?_
     refine stK g1 (encMv l2[k1]) rfl szMv rfl (encMv_one _) (by rw [E.offZ_eq]; omega) (fun w5 u5 => ?_)
     have hr5 := t1 w5 (by rw [E.offZ_eq] at u5; simpa using u5)
     have hc5 : Cl w w5 := u5.cl hcd g3
     obtain ⟨cs2, q1, q2, q3, q4⟩ := hr5.turn encMv_len k1 (by rw [List.length_set]; omega) l2[k1 + 1]
     refine zE ?_
     simp only [m1]
     refine zC ?_
     refine zE ?_
     refine stK q1 (encMv l2[k1 + 1]) rfl szMv rfl (encMv_one _) (by rw [E.offZ_eq]; omega) (fun w6 u6 => ?_)
     have hr6 := q4 w6 (by rw [E.offZ_eq] at u6; simpa using u6)
     have hc6 : Cl w w6 := u6.cl hc5 q3
     refine zR ?_
     refine ⟨(k1, (l2.set (k1 + 1) l2[k1]).set k1 l2[k1 + 1]), ⟨int_eq m1, trivial⟩, ⟨by simp only; omega, (swap_perm l2 k1 hk2).trans hp2, hr6, hc6⟩, by simp only; omega⟩
    ·refine zR ?_
     refine loadK _ (ldK4 _ cd (k1 + 1) hk2 _ (by simp [E.offZ_eq])) (zE ?_)
     refine loadK _ (ldK4 _ cd k1 zo _ (by simp [E.offZ_eq])) (zE ?_)
     refine zC ?_
     refine zE ?_
     refine stK g1 (encMv l2[k1]) rfl szMv rfl (encMv_one _) (by rw [E.offZ_eq]; omega) (fun w5 u5 => ?_)
     have hr5 := t1 w5 (by rw [E.offZ_eq] at u5; simpa using u5)
     have hc5 : Cl w w5 := u5.cl hcd g3
     obtain ⟨cs2, q1, q2, q3, q4⟩ := hr5.turn encMv_len k1 (by rw [List.length_set]; omega) l2[k1 + 1]
     refine zE ?_
     simp only [m1]
     refine zC ?_
     refine zE ?_
     refine stK q1 (encMv l2[k1 + 1]) rfl szMv rfl (encMv_one _) (by rw [E.offZ_eq]; omega) (fun w6 u6 => ?_)
     have hr6 := q4 w6 (by rw [E.offZ_eq] at u6; simpa using u6)
     have hc6 : Cl w w6 := u6.cl hc5 q3
     refine zR ?_
     refine ⟨(k1, (l2.set (k1 + 1) l2[k1]).set k1 l2[k1 + 1]), ⟨int_eq m1, trivial⟩, ⟨by simp only; omega, (swap_perm l2 k1 hk2).trans hp2, hr6, hc6⟩, by simp only; omega⟩
  ·refine zR ?_
   intro w4 c4
   refine zR ?_
   refine ⟨(i + 1, l2), ⟨int_eq (by rw [w64_in zo zo]; push_cast; omega), trivial⟩, ⟨by simp only; omega, by simp only; omega, hp2, hrow.step c4, hcl.trans c4⟩, by simp only; omega⟩
 ·have hil : l.length ≤ i := by simp only at h; omega
  refine zR ?_
  exact ⟨_, l1, rfl, hp, hrow, hcl⟩
theorem movesTo_len (p : Pos) (a b : Int) : (Ch.movesTo p a b).length ≤ 4 := by
 unfold Ch.movesTo Ch.promos
 repeat' split
 all_goals simp
theorem goals_len (p : Pos) (a : Int) : (Ch.goals p a).length ≤ 56 := by
 unfold Ch.goals
 split
 ·unfold Ch.pawnSteps
  have h1 := pawnGoes_len p a (Ch.sideOf (Ch.sq p a))
  have h2 := pawnHits_len a (Ch.sideOf (Ch.sq p a))
  have h3 := List.length_filter_le (Ch.pawnTakes p (Ch.sideOf (Ch.sq p a))) (Ch.pawnHits a (Ch.sideOf (Ch.sq p a)))
  simp only [List.length_append]; omega
 ·unfold Ch.reach
  have h1 := flat_le (fun d : Int × Int => Ch.ray p a d.1 d.2 (Ch.far (Ch.kindOf (Ch.sq p a))) 7 1) 7 (fun d => ray_len _ _ _ _ _ _ _) (Ch.ways (Ch.kindOf (Ch.sq p a)))
  have h2 := (ways_bound (Ch.kindOf (Ch.sq p a))).1
  have h3 : (Ch.ways (Ch.kindOf (Ch.sq p a))).length * 7 ≤ 8 * 7 := Nat.mul_le_mul_right _ h2
  exact Nat.le_trans h1 (Nat.le_trans h3 zd)
theorem movesFrom_len (p : Pos) (a : Int) : (Ch.movesFrom p a).length ≤ 224 := by
 unfold Ch.movesFrom
 split
 ·simp
 ·have h1 := flat_le (Ch.movesTo p a) 4 (movesTo_len p a) (Ch.goals p a)
  have h2 : (Ch.goals p a).length * 4 ≤ 56 * 4 := Nat.mul_le_mul_right _ (goals_len p a)
  omega
theorem movesUpto_len (p : Pos) : ∀ n, (Ch.movesUpto p n).length ≤ n * 224 := by
 intro n
 induction n with
 | zero => simp [Ch.movesUpto]
 | succ n ih => simp only [Ch.movesUpto, List.length_append]; have := movesFrom_len p n; omega
theorem Pseudo_c (p : Pos) (hI : Ch.Inv p) (w : World) :
  Calls G.P 115 #[posV p] w (fun r w' => ∃ v l', r = .returned v ∧ l'.Perm (Ch.pseudo p) ∧ Row 36 3 encMv w.heap.size w' v l' ∧ Cl w w') := by
 have ht := hI.turn
 have hp : Pc p := hI.pc
 have hep : -1 ≤ p.ep ∧ p.ep ≤ 63 := ⟨(Ch.passed_ep hI.pass).1, (Ch.passed_ep hI.pass).2.1⟩
 refine zN Tryz.func115 ?_
 refine zG ?_
 refine zR ?_
 generalize hW : w.alloc (.cells (posA p) 24) = W0
 have hP : ∀ w', Cl W0 w' → w'.heap[w.heap.size]? = some (.cells (posA p) 24 (0, 0)) := fun w' h => (hW ▸ h : Cl (w.alloc (.cells (posA p) 24)) w').blk (alloc_new _ _)
 have hE : ∀ w', Cl W0 w' → Cl w w' := fun w' h => (Cl.alloc _ _).trans (hW ▸ h)
 have q1 : IntKind.i64.wrap (7 * p.turn) = 7 * p.turn := w64_in zo zo
 have q2 : IntKind.i64.wrap (7 - 7 * p.turn) = 7 - 7 * p.turn := w64_in zo zo
 refine zR ?_
 refine loopK (σ := Nat × Value) [3, 4, 5, 6, 7, 8, 9] 10 (fun a => [(3, a.2), (4, .int .i64 a.1)]) (fun a w' => a.1 ≤ 64 ∧ Row 36 3 encMv W0.heap.size w' a.2 (Ch.movesUpto p a.1) ∧ Cl W0 w') (fun a => 64 - a.1) zk (0, .slice none 0 0)
  ⟨zo, Row.nil _ _, Cl.refl _⟩ ⟨rfl, rfl, trivial⟩ ?_
 rintro ⟨n, v⟩ j w1 ⟨hn, hrow, hcl⟩
 simp only at hn hrow
 obtain ⟨a, c, rfl, _⟩ := hrow.form
 have hlen := movesUpto_len p n
 refine zR ?_
 apply E.dsplit<;>intro h
 ·have hn64 : n < 64 := by simp only at h; omega
  clear h
  have hstep : Ch.movesUpto p (n + 1) = Ch.movesUpto p n ++ Ch.movesFrom p n := rfl
  generalize hM : Ch.movesUpto p n = M at *
  have nx : IntKind.i64.wrap ((n : Int) + 1) = ((n + 1 : Nat) : Int) := by rw [w64_in zo zo]; push_cast; omega
  refine zR ?_
  refine zC ?_
  refine zR ?_
  refine loadK _ (ldSq' (hP _ hcl) _ zo zo) (zR ?_)
  refine zK 9 ?_
  refine zR ?_
  have skip : (Ch.sq p n = 0 ∨ Ch.sideOf (Ch.sq p n) ≠ p.turn) → Ch.movesFrom p n = [] := fun h => by unfold Ch.movesFrom; rw [if_pos h]
  apply E.dsplit<;>intro h
  ·rw [skip (.inl h), List.append_nil] at hstep
   refine zR ?_
   intro w2 c2
   refine zR ?_
   exact ⟨(n + 1, _), ⟨rfl, int_eq nx, trivial⟩, ⟨by simp only; omega, by simp only [hstep]; exact hrow.step c2, hcl.trans c2⟩, by simp only; omega⟩
  have hz := h; clear h
  refine zR ?_
  refine callQs _ (fun w _ => SideOf_c _ _) (zR ?_)
  refine loadQ _ (fun w hw => ldTurn (hP _ (hcl.trans hw))) (zR ?_)
  intro w2 c2
  have hrow2 := hrow.step c2
  have hcl2 := hcl.trans c2
  refine zR ?_
  apply E.ndsplit<;>intro h
  ·rw [skip (.inr h), List.append_nil] at hstep
   refine zR ?_
   exact ⟨(n + 1, _), ⟨rfl, int_eq nx, trivial⟩, ⟨by simp only; omega, by simp only [hstep]; exact hrow2, hcl2⟩, by simp only; omega⟩
  have hs := h; clear h
  have hfrom : Ch.movesFrom p n = (Ch.goals p n).flatMap (Ch.movesTo p n) := by unfold Ch.movesFrom; rw [if_neg (by rintro (e | e); exact hz e; exact e hs)]
  rw [hfrom] at hstep
  have hgr : ∀ x ∈ Ch.goals p n, 0 ≤ x ∧ x ≤ 63 := fun x hx => Ch.goals_range hx
  have hgl := goals_len p n
  refine zG ?_
  refine Nx.mk (zG ?_)
  refine joinK (σ := Value) [6] 10 (fun v => [(6, v)]) (fun v w' => Row 3 1 encInt w2.heap.size w' v (Ch.goals p n) ∧ Cl w2 w') zk ?_ (fun v j w3 h => ?_)
  ·refine zR ?_
   refine callS (KindOf_c _ _ (Pc.lo hp _) (Pc.hi hp _)) (zR ?_)
   apply E.dsplit<;>intro h
   ·have hg : Ch.goals p n = Ch.pawnSteps p n := by unfold Ch.goals; rw [if_pos h]
    rw [hg]
    refine zR ?_
    refine loadK _ (ldPos (hP _ hcl2)) (zR ?_)
    refine callL (steps_c p n hp _ zo zo zo zo) fun v w3 h3 c3 => ?_
    obtain ⟨a3, cc3, rfl, _⟩ := h3.form
    refine zR ?_
    exact ⟨_, ⟨rfl, trivial⟩, h3, c3⟩
   ·have hg : Ch.goals p n = Ch.reach p n := by unfold Ch.goals; rw [if_neg h]
    rw [hg]
    refine zR ?_
    refine loadK _ (ldPos (hP _ hcl2)) (zR ?_)
    refine callL (Reach_c p n hp _ zo zo) fun v w3 h3 c3 => ?_
    obtain ⟨a3, cc3, rfl, _⟩ := h3.form
    refine zR ?_
    exact ⟨_, ⟨rfl, trivial⟩, h3, c3⟩
  obtain ⟨hgo, c3⟩ := h
  obtain ⟨ag, cg, rfl, hag⟩ := hgo.form
  generalize hgoals : Ch.goals p n = gs at *
  refine zR ?_
  refine loopK (σ := Nat × Value) [3, 7, 8, 9] 10 (fun a => [(3, a.2), (7, .int .i64 a.1)]) (fun a w' => a.1 ≤ gs.length ∧ Row 36 3 encMv W0.heap.size w' a.2 (M ++ (gs.take a.1).flatMap (Ch.movesTo p n)) ∧ Row 3 1 encInt w2.heap.size w' (.slice ag gs.length cg) gs ∧ (∀ g, ag = some ⟨g, 0, none⟩ → a.2.ownBlock ≠ some g) ∧ Cl W0 w') (fun a => gs.length - a.1) zk (0, .slice a M.length c)
   ⟨zo, by simpa using hrow2.step c3, hgo, fun g e e2 => by subst e; have h1 := hgo.lt; have h2 := World.ownsRow.lt hrow2 g e2; omega, hcl2.trans c3⟩ ⟨rfl, rfl, trivial⟩ ?_
  rintro ⟨i, v⟩ j w4 ⟨hi, hrow, hgo, hne, hcl⟩
  simp only at hi hrow hne
  obtain ⟨a4, c4, rfl, _⟩ := hrow.form
  refine zR ?_
  apply E.dsplit<;>intro h
  ·have hil : i < gs.length := by simp only at h; omega
   clear h
   obtain ⟨g, rfl⟩ := hag zo
   have hst2 := take_flat (Ch.movesTo p n) gs i hil
   generalize hx : gs[i] = x at hst2
   obtain ⟨x0, x1⟩ := hgr x (hx ▸ List.getElem_mem hil)
   have ni : IntKind.i64.wrap ((i : Int) + 1) = ((i + 1 : Nat) : Int) := by rw [w64_in zo zo]; push_cast; omega
   have hcur : (M ++ (gs.take i).flatMap (Ch.movesTo p n)).length ≤ 20000 := by
    have h1 := flat_le (Ch.movesTo p n) 4 (movesTo_len p n) (gs.take i)
    rw [List.length_append]
    have h2 : (gs.take i).length ≤ 56 := by rw [List.length_take]; omega
    omega
   generalize hC : M ++ (gs.take i).flatMap (Ch.movesTo p n) = cur at *
   have hst3 : M ++ (gs.take (i + 1)).flatMap (Ch.movesTo p n) = cur ++ Ch.movesTo p n x := by rw [hst2, ← List.append_assoc, hC]
   refine zR ?_
   refine zC ?_
   refine zR ?_
   refine loadK (.int .i64 x) (ldRow hgo encInt_len i 0 hil zd (by rw [hx]; rfl) (by simp [E.offZ_eq]) rfl) (zG ?_)
   refine Nx.mk ?_
   refine E.cK_seq ?_
   refine (joinK (σ := Unit) [46, 47, 48, 49, 50, 51, 52, 53, 54, 55, 56, 57, 58, 59, 60] 61 (fun _ => [(60, .bool (!decide (Ch.sq p x = 0) && decide (Ch.sideOf (Ch.sq p x) = p.turn)))]) (fun _ w' => Cl w4 w') zk ?_ (fun _ j w5 c5 => ?_)).go
   ·refine zR ?_
    refine zK 15 ?_
    refine zR ?_
    refine E.ctrue (inB_iff.2 ⟨x0, zo⟩) (zR ?_)
    refine loadQ _ (fun w hw => ldSq' (hP _ (hcl.trans hw)) _ x0 zo) (zR ?_)
    apply E.ndsplit<;>intro h
    ·refine zR ?_
     refine E.ctrue (inB_iff.2 ⟨x0, zo⟩) (zR ?_)
     refine loadQ _ (fun w hw => ldSq' (hP _ (hcl.trans hw)) _ x0 zo) (zR ?_)
     refine callQs _ (fun w _ => SideOf_c _ _) (zR ?_)
     refine loadQ _ (fun w hw => ldTurn (hP _ (hcl.trans hw))) (zR ?_)
     intro w5 c5
     exact ⟨(), ⟨congrArg Value.bool (by rw [decide_eq_false h]; rfl), trivial⟩, c5⟩
    ·refine zR ?_
     intro w5 c5
     exact ⟨(), ⟨congrArg Value.bool (by rw [decide_eq_true h]; rfl), trivial⟩, c5⟩
   have hrow5 := hrow.step c5
   have hgo5 := hgo.step c5
   have hcl5 := hcl.trans c5
   clear hrow hgo hcl
   cases hown : (!decide (Ch.sq p x = 0) && decide (Ch.sideOf (Ch.sq p x) = p.turn))
   rotate_left
   ·have hmt : Ch.movesTo p n x = [] := by
     unfold Ch.movesTo; rw [if_pos]
     simp only [Bool.and_eq_true, Bool.not_eq_true', decide_eq_true_eq, decide_eq_false_iff_not] at hown
     exact hown
    rw [hmt, List.append_nil] at hst3
    refine zR ?_
    exact ⟨(i + 1, _), ⟨rfl, int_eq ni, trivial⟩, ⟨by simp only; omega, by simp only [hst3]; exact hrow5, hgo5, hne, hcl5⟩, by simp only; omega⟩
   have hmt : Ch.movesTo p n x = if Ch.kindOf (Ch.sq p n) ≠ 6 ∨ Ch.rank x ≠ 7 - 7 * p.turn then [⟨n, x, 0⟩] else Ch.promos n x := by
    unfold Ch.movesTo; rw [if_neg]
    rintro ⟨e1, e2⟩
    simp [e1, e2] at hown
   clear hown
   refine Nx.mk (zG ?_)
   refine Nx.mk ?_
   refine E.cK_seq ?_
   refine (joinK (σ := Unit) [61, 62, 63, 64, 65, 66, 67, 68, 69, 70, 71, 72] 73 (fun _ => [(72, .bool (!decide (Ch.kindOf (Ch.sq p n) = 6) || !decide (Ch.rank x = 7 - 7 * p.turn)))]) (fun _ w' => Cl w5 w') zk ?_ (fun _ j w6 c6 => ?_)).go
   ·refine zR ?_
    refine zK 12 ?_
    refine zR ?_
    refine callQs _ (fun w _ => KindOf_c _ _ (Pc.lo hp _) (Pc.hi hp _)) (zR ?_)
    apply E.ndsplit<;>intro h
    ·refine zR ?_
     intro w6 c6
     exact ⟨(), ⟨congrArg Value.bool (by rw [decide_eq_false h]; rfl), trivial⟩, c6⟩
    ·refine zR ?_
     refine callQs _ (fun w _ => Rank_c _ _ zo zo) (zR ?_)
     refine loadQ _ (fun w hw => ldTurn (hP _ (hcl5.trans hw))) (zR ?_)
     intro w6 c6
     exact ⟨(), ⟨congrArg Value.bool (by rw [decide_eq_true h, q1, q2]; rfl), trivial⟩, c6⟩
   have hrow6 := hrow5.step c6
   have hgo6 := hgo5.step c6
   have hcl6 := hcl5.trans c6
   clear hrow5 hgo5 hcl5
   cases hpr : (!decide (Ch.kindOf (Ch.sq p n) = 6) || !decide (Ch.rank x = 7 - 7 * p.turn))
   rotate_left
   ·rw [if_pos (by simp only [Bool.or_eq_true, Bool.not_eq_true', decide_eq_false_iff_not] at hpr; exact hpr)] at hmt
    rw [hmt] at hst3
    refine zR ?_
    refine gen_build #[.int .i64 n, .int .i64 x, .int .i64 0] zk (zR ?_)
    refine gen_bs elMv [.agg #[.int .i64 n, .int .i64 x, .int .i64 0]] (by rw [Array.toList_map]; rfl) (by simp [Value.cells]) rfl zd zd (zR ?_)
    refine gen_push (enc := encMv) elMv ⟨n, x, 0⟩ rfl hrow6 rfl rfl rfl encMv_len encMv_one zo zd hcl6.size (fun v' w7 hr hc => ?_)
    obtain ⟨a7, cc7, rfl, _⟩ := hr.form
    refine zR ?_
    exact ⟨(i + 1, _), ⟨rfl, int_eq ni, trivial⟩, ⟨by simp only; omega, by simp only [hst3]; exact hr, hgo6.keep fun o ho => hc.keep _ o ho (hne _ rfl), fun g' e => hc.ne (by injection e with e; injection e with e; subst e; exact hgo6.lt.2) (hne g' e), hc.cl W0 rfl hcl6⟩, by simp only; omega⟩
   rw [if_neg (by simp only [Bool.or_eq_false_iff, Bool.not_eq_false', decide_eq_true_eq] at hpr; rintro (e | e); exact e hpr.1; exact e hpr.2)] at hmt
   rw [hmt] at hst3
   refine zR ?_
   refine loopK (σ := Nat × Value) [3, 9] 10 (fun a => [(3, a.2), (9, .int .i64 (2 + (a.1 : Int)))]) (fun a w' => a.1 ≤ 4 ∧ Row 36 3 encMv W0.heap.size w' a.2 (cur ++ (Ch.promos n x).take a.1) ∧ Row 3 1 encInt w2.heap.size w' (.slice (some ⟨g, 0, none⟩) gs.length cg) gs ∧ (a.2.ownBlock ≠ some g) ∧ Cl W0 w') (fun a => 4 - a.1) zk (0, .slice a4 cur.length c4)
    ⟨zo, by simpa using hrow6, hgo6, hne g rfl, hcl6⟩ ⟨rfl, rfl, trivial⟩ ?_
   rintro ⟨k, v⟩ j w7 ⟨hk, hrow7, hgo7, hne7, hcl7⟩
   simp only at hk hrow7 hne7
   obtain ⟨a8, c8, rfl, _⟩ := hrow7.form
   have hl8 : (cur ++ (Ch.promos n x).take k).length ≤ 20004 := by
    rw [List.length_append, List.length_take]; omega
   refine zR ?_
   apply E.dsplit<;>intro h
   ·have hk4 : k < 4 := by simp only at h; omega
    have hpk : (Ch.promos n x).take (k + 1) = (Ch.promos n x).take k ++ [⟨n, x, 2 + (k : Int)⟩] := by
     have : k = 0 ∨ k = 1 ∨ k = 2 ∨ k = 3 := by omega
     rcases this with rfl | rfl | rfl | rfl <;> rfl
    refine zR ?_
    refine gen_build #[.int .i64 n, .int .i64 x, .int .i64 (2 + (k : Int))] zk (zR ?_)
    refine gen_bs elMv [.agg #[.int .i64 n, .int .i64 x, .int .i64 (2 + (k : Int))]] (by rw [Array.toList_map]; rfl) (by simp [Value.cells]) rfl zd zd (zR ?_)
    refine gen_push (enc := encMv) elMv ⟨n, x, 2 + (k : Int)⟩ rfl hrow7 rfl rfl rfl encMv_len encMv_one zo zd hcl7.size (fun v' w8 hr hc => ?_)
    obtain ⟨a9, cc9, rfl, _⟩ := hr.form
    refine zR ?_
    exact ⟨(k + 1, _), ⟨rfl, int_eq (by rw [w64_in zo zo]; push_cast; omega), trivial⟩, ⟨by simp only; omega, by simp only [hpk, ← List.append_assoc]; exact hr, hgo7.keep fun o ho => hc.keep _ o ho hne7, hc.ne hgo7.lt.2 hne7, hc.cl W0 rfl hcl7⟩, by simp only; omega⟩
   ·have hk4 : k = 4 := by simp only at h; omega
    subst hk4
    refine zR ?_
    exact ⟨(i + 1, _), ⟨rfl, int_eq ni, trivial⟩, ⟨by simp only; omega, by simp only [hst3]; exact hrow7, hgo7, fun g' e => by injection e with e; injection e with e; subst e; exact hne7, hcl7⟩, by simp only; omega⟩
  ·have hil : i = gs.length := by simp only at h; omega
   subst hil
   refine zR ?_
   refine ⟨(n + 1, _), ⟨rfl, int_eq nx, trivial⟩, ⟨by simp only; omega, by simp only [hstep, List.take_length] at hrow ⊢; exact hrow, hcl⟩, by simp only; omega⟩
 ·have hn2 : n = 64 := by simp only at h; omega
  subst hn2
  refine zR ?_
  refine loadK _ (ldPos (hP _ hcl)) (zR ?_)
  refine callL (Castles_c p hI _) fun v w2 h2 c2 => ?_
  obtain ⟨a2, cc2, rfl, _⟩ := h2.form
  have hcas : (Ch.castles p).length ≤ 2 := by
   unfold Ch.castles Ch.castleOne; rw [List.length_append]; split <;> split <;> simp
  refine zR ?_
  refine gen_appX (v := .slice a (Ch.movesUpto p 64).length c) elMv rfl (hrow.step c2) rfl h2 encMv_len encMv_one zo zd (hcl.trans c2).size (fun v' w3 hr hc => ?_)
  have hcl3 : Cl W0 w3 := hc.cl W0 rfl (hcl.trans c2)
  obtain ⟨a3, cc3, rfl, _⟩ := hr.form
  refine zR ?_
  refine callK (ordered_c _ _ _ _ hr (by rw [List.length_append]; omega)) ?_
  rintro r w4 ⟨v4, l4, rfl, hp4, hr4, c4⟩
  refine ⟨_, rfl, ?_⟩
  obtain ⟨a4, cc4, rfl, _⟩ := hr4.form
  refine zR ?_
  exact ⟨_, l4, rfl, hp4, hr4.mono (by have := (hE _ hcl3).size; omega), hE _ (hcl3.trans c4)⟩
end
section
namespace Ch
open Bb
theorem kind_own {p : Pos} (hI : Inv p) {i : Int} (h : sq p i ≠ 0) (ho : sideOf (sq p i) = p.turn) : 1 ≤ kindOf (sq p i) ∧ kindOf (sq p i) ≤ 6 ∧ sq p i = kindOf (sq p i) + 6 * p.turn := by
 have := kind_side (hI.pc i).1 (hI.pc i).2 h
 rw [ho] at this; exact this
theorem no_king {p : Pos} (hI : Inv p) {fr to : Int} (f0 : 0 ≤ fr) (f1 : fr ≤ 63) (hx : sq p fr ≠ 0) (ho : sideOf (sq p fr) = p.turn) (h : to ∈ goals p fr) : sq p to ≠ 1 + 6 * (1 - p.turn) := by
 intro hk
 have hK := hI.king (1 - p.turn) (by have := hI.turn; omega)
 have hq := hI.quiet
 obtain ⟨t0, t1⟩ := goals_range h
 have e : to = kingAt p (1 - p.turn) := hK.2.2.2 to t0 t1 hk
 have hh : hits p fr to = true := by
  rcases goal_cases hI f0 f1 hx ho h with ⟨_, h2⟩ | ⟨_, h2, _⟩ | ⟨_, _, _, h2, _⟩
  ·exact h2
  ·exfalso; rw [hk] at h2; have := hI.turn; omega
  ·exact h2
 have : attacked p to p.turn = true := by
  refine anyN_of (i := fr.toNat) zo ?_
  unfold hitBy
  rw [Int.toNat_of_nonneg f0]
  simp [hx, ho, hh]
 rw [e, hq] at this; cases this
def newPc (p : Pos) (m : Mv) : Int := if m.promo ≠ 0 then m.promo + 6 * p.turn else sq p m.fr
theorem plain_noCastle {p : Pos} (hI : Inv p) {m : Mv} (h : Plain p m) : isCastle p m = false := by
 unfold isCastle
 by_cases hk : kindOf (sq p m.fr) = 1
 ·have hh : hits p m.fr m.to = true := by
   rcases goal_cases hI h.f0 h.f1 h.there h.own h.goal with ⟨_, h2⟩ | ⟨h2, _⟩ | ⟨h2, _⟩
   ·exact h2
   ·rw [hk] at h2; omega
   ·rw [hk] at h2; omega
  obtain ⟨a, ha⟩ := Int.eq_ofNat_of_zero_le h.f0
  obtain ⟨b, hb⟩ := Int.eq_ofNat_of_zero_le h.t0
  rw [ha, hb] at hh
  rw [hits_K, ← ha, hk] at hh
  simp only [hitK, if_true, Bool.and_eq_true, decide_eq_true_eq] at hh
  obtain ⟨_, _, h3, h4⟩ := hh
  have l1 : ∀ x : Int, x * x ≤ 1 → -1 ≤ x ∧ x ≤ 1 := by
   intro x hx
   constructor
   ·refine Classical.byContradiction fun hn => ?_
    have : 2 * 2 ≤ (-x) * (-x) := Int.mul_le_mul zo zo zo zo
    rw [Int.neg_mul_neg] at this; omega
   ·refine Classical.byContradiction fun hn => ?_
    have : 2 * 2 ≤ x * x := Int.mul_le_mul zo zo zo zo
    omega
  have h5 := l1 _ h3
  have h6 := l1 _ h4
  simp only [dF, dR, file, rank] at h5 h6
  have : ¬ (m.to = m.fr + 2) ∧ ¬ (m.to = m.fr - 2) := by omega
  simp [this.1, this.2]
 ·simp [hk]
theorem plain_passing {p : Pos} (hI : Inv p) {m : Mv} (h : Plain p m) (hz : sq p m.to = 0) (ht : takes p m = true) :
  m.to = p.ep ∧ 0 ≤ at' (file m.to) (rank m.fr) ∧ sq p (at' (file m.to) (rank m.fr)) = 6 + 6 * (1 - p.turn) ∧ (rank m.fr = 3 ∨ rank m.fr = 4) ∧ kindOf (sq p m.fr) = 6 ∧ at' (file m.to) (rank m.fr) = m.to - 8 * up p.turn := by
 unfold takes at ht
 simp only [hz, decide_true, Bool.not_true, Bool.false_or, Bool.and_eq_true, Bool.not_eq_true', decide_eq_true_eq, decide_eq_false_iff_not] at ht
 have h0 := h.f0; have h1 := h.f1; have h2 := h.t0; have h3 := h.t1
 rcases goal_cases hI h.f0 h.f1 h.there h.own h.goal with ⟨g, _⟩ | ⟨_, _, g, _⟩ | ⟨gk, gf, gr, _, ge⟩
 ·exact absurd ht.1 g
 ·exact absurd g.symm ht.2
 ·have e := ge hz
  obtain ⟨_, _, hp⟩ := passed_ep hI.pass
  obtain ⟨p1, p2, p3, p4⟩ := hp zo
  rw [← e] at p1 p3
  have hr : rank m.to - (1 - 2 * p.turn) = rank m.fr := by unfold up at gr; omega
  rw [hr] at p3
  have hturn := hI.turn
  have hin : 0 ≤ file m.to ∧ file m.to ≤ 7 ∧ 0 ≤ rank m.fr ∧ rank m.fr ≤ 7 := by simp only [file, rank] at *; omega
  have hat := at_of hin.1 hin.2.1 hin.2.2.1 hin.2.2.2
  refine ⟨e, by rw [hat]; omega, p3, zo, gk, ?_⟩
  rw [hat]; simp only [up, file, rank] at *; omega
theorem sq_made {p : Pos} (hI : Inv p) {m : Mv} (h : Plain p m) {j : Int} (j0 : 0 ≤ j) :
  sq (made p m) j = if j = m.to then newPc p m else if j = m.fr then 0 else if takes p m = true ∧ j = takenAt p m then 0 else sq p j := by
 have e : sq (made p m) j = sq (board3 p m) j := by
  show sq (board4 p m) j = _
  unfold board4; rw [plain_noCastle hI h]; rfl
 rw [e]
 have f0 := h.f0; have f1 := h.f1; have t0 := h.t0; have t1 := h.t1
 have s2 : sq (board2 p m) j = if j = m.to then sq p m.fr else if j = m.fr then 0 else sq (board1 p m) j := by
  unfold board2
  rw [sq_put _ _ _ _ h.t0 zo j0, sq_put _ _ _ _ h.f0 zo j0]
  by_cases a : m.to = j
  ·rw [if_pos a, if_pos a.symm]
  ·rw [if_neg a, if_neg (show ¬ j = m.to from fun e => a e.symm)]
   by_cases b : m.fr = j
   ·rw [if_pos b, if_pos b.symm]
   ·rw [if_neg b, if_neg (show ¬ j = m.fr from fun e => b e.symm)]
 have s3 : sq (board3 p m) j = if j = m.to then newPc p m else sq (board2 p m) j := by
  unfold board3 newPc
  by_cases hp : m.promo ≠ 0
  ·rw [if_pos hp, if_pos hp, sq_put _ _ _ _ h.t0 zo j0]
   by_cases a : m.to = j
   ·rw [if_pos a, if_pos a.symm]
   ·rw [if_neg a, if_neg (show ¬ j = m.to from fun e => a e.symm)]
  ·rw [if_neg hp, if_neg hp]
   by_cases a : j = m.to
   ·rw [if_pos a, s2, if_pos a]
   ·rw [if_neg a]
 rw [s3]
 by_cases a : j = m.to
 ·rw [if_pos a, if_pos a]
 rw [if_neg a, if_neg a, s2, if_neg a]
 by_cases b : j = m.fr
 ·rw [if_pos b, if_pos b]
 rw [if_neg b, if_neg b]
 unfold board1
 cases ht : takes p m
 ·simp
 ·simp only [if_true, true_and]
  have hr : 0 ≤ takenAt p m ∧ takenAt p m < 64 := by
   unfold takenAt
   split
   ·omega
   ·rename_i hz
    have := plain_passing hI h zo ht
    exact ⟨this.2.1, by have := (at_range (file m.to) (rank m.fr)).2; omega⟩
  rw [sq_put _ _ _ _ hr.1 hr.2 j0]
  by_cases c : takenAt p m = j
  ·rw [if_pos c, if_pos c.symm]
  ·rw [if_neg c, if_neg (fun e => c e.symm)]
theorem plain_taken {p : Pos} (hI : Inv p) {m : Mv} (h : Plain p m) (ht : takes p m = true) : takenAt p m = m.to ∧ sq p m.to ≠ 0 ∨ (sq p (takenAt p m) = 6 + 6 * (1 - p.turn) ∧ 0 ≤ takenAt p m ∧ takenAt p m ≤ 63 ∧ (rank (takenAt p m) = 3 ∨ rank (takenAt p m) = 4)) := by
 unfold takenAt
 split
 ·rename_i hz; exact .inl ⟨rfl, hz⟩
 ·rename_i hz
  obtain ⟨_, h2, h3, h4, _, _⟩ := plain_passing hI h zo ht
  have g := at_nonneg _ _ h2
  refine .inr ⟨h3, h2, (at_range _ _).2, ?_⟩
  rw [g.2.2.2.2]; simp only [rank, file] at *; omega
theorem newPc_king {p : Pos} (hI : Inv p) {m : Mv} (h : Plain p m) : (newPc p m = 1 + 6 * p.turn ↔ sq p m.fr = 1 + 6 * p.turn) ∧ newPc p m ≠ 1 + 6 * (1 - p.turn) ∧ 1 + 6 * p.turn ≤ newPc p m ∧ newPc p m ≤ 6 + 6 * p.turn := by
 obtain ⟨k1, k6, kx⟩ := kind_own hI h.there h.own
 have ht := hI.turn
 unfold newPc
 rcases h.promo with ⟨h1, _⟩ | ⟨h1, h2, h3, _⟩
 ·rw [if_neg zo]
  refine ⟨Iff.rfl, ?_, zo, zo⟩
  rw [kx]; omega
 ·rw [if_pos zo]
  refine ⟨?_, zo, zo, zo⟩
  rw [kx, h3]; omega
theorem king_own {p : Pos} (hI : Inv p) {m : Mv} (h : Plain p m) : KingIs (made p m) p.turn (if m.fr = kingAt p p.turn then m.to else kingAt p p.turn) := by
 have ht := hI.turn
 have hK := hI.king p.turn ht
 obtain ⟨nk1, nk2, nk3, nk4⟩ := newPc_king hI h
 have f0 := h.f0; have f1 := h.f1; have t0 := h.t0; have t1 := h.t1
 have hto : sq p m.to ≠ 1 + 6 * p.turn := by
  rcases h.other with e | e
  ·rw [e]; omega
  ·intro e2; apply e; rw [e2]; exact sideOf_of zd zd ht
 have htk : ∀ j, takes p m = true → j = takenAt p m → j ≠ m.to → sq p j ≠ 1 + 6 * p.turn := by
  intro j h1 h2 h3
  rcases plain_taken hI h h1 with ⟨e, _⟩ | ⟨e, _⟩
  ·exact absurd (h2.trans e) h3
  ·rw [h2, e]; omega
 by_cases hf : m.fr = kingAt p p.turn
 ·rw [if_pos hf]
  refine ⟨t0, t1, ?_, fun j j0 j1 hj => ?_⟩
  ·rw [sq_made hI h t0, if_pos rfl, nk1, hf]; exact hK.2.2.1
  ·rw [sq_made hI h j0] at hj
   by_cases a : j = m.to
   ·exact a
   rw [if_neg a] at hj
   by_cases b : j = m.fr
   ·rw [if_pos b] at hj; omega
   rw [if_neg b] at hj
   split at hj
   ·omega
   ·have := hK.2.2.2 j j0 j1 hj; omega
 ·rw [if_neg hf]
  have hnk : sq p m.fr ≠ 1 + 6 * p.turn := fun e => hf (hK.2.2.2 _ f0 f1 e)
  refine ⟨hK.1, hK.2.1, ?_, fun j j0 j1 hj => ?_⟩
  ·rw [sq_made hI h hK.1, if_neg (fun e => hto (by rw [← e]; exact hK.2.2.1)), if_neg (fun e => hf e.symm)]
   split
   ·rename_i hh
    exact absurd hK.2.2.1 (htk _ hh.1 hh.2 (fun e => hto (by rw [← e]; exact hK.2.2.1)))
   ·exact hK.2.2.1
  ·rw [sq_made hI h j0] at hj
   by_cases a : j = m.to
   ·rw [if_pos a] at hj; exact absurd (nk1.1 hj) hnk
   rw [if_neg a] at hj
   by_cases b : j = m.fr
   ·rw [if_pos b] at hj; omega
   rw [if_neg b] at hj
   split at hj
   ·omega
   ·exact hK.2.2.2 j j0 j1 hj
theorem king_other {p : Pos} (hI : Inv p) {m : Mv} (h : Plain p m) : KingIs (made p m) (1 - p.turn) (kingAt p (1 - p.turn)) := by
 have ht := hI.turn
 have hK := hI.king (1 - p.turn) zo
 obtain ⟨nk1, nk2, nk3, nk4⟩ := newPc_king hI h
 have f0 := h.f0; have f1 := h.f1; have t0 := h.t0; have t1 := h.t1
 have hto := no_king hI h.f0 h.f1 h.there h.own h.goal
 have hfr : sq p m.fr ≠ 1 + 6 * (1 - p.turn) := by
  intro e; have := h.own; rw [e, sideOf_of zd zd zo] at this; omega
 refine ⟨hK.1, hK.2.1, ?_, fun j j0 j1 hj => ?_⟩
 ·rw [sq_made hI h hK.1, if_neg (fun e => hto (by rw [← e]; exact hK.2.2.1)), if_neg (fun e => hfr (by rw [← e]; exact hK.2.2.1))]
  split
  ·rename_i hh
   exfalso
   rcases plain_taken hI h hh.1 with ⟨e, _⟩ | ⟨e, _⟩
   ·apply hto; rw [← e, ← hh.2]; exact hK.2.2.1
   ·rw [← hh.2, hK.2.2.1] at e; omega
  ·exact hK.2.2.1
 ·rw [sq_made hI h j0] at hj
  by_cases a : j = m.to
  ·rw [if_pos a] at hj; exact absurd hj nk2
  rw [if_neg a] at hj
  by_cases b : j = m.fr
  ·rw [if_pos b] at hj; omega
  rw [if_neg b] at hj
  split at hj
  ·omega
  ·exact hK.2.2.2 j j0 j1 hj
end Ch
namespace Ch
open Bb
structure Castle (p : Pos) (m : Mv) (K w R : Int) : Prop where
 k : K = 4 + 56 * p.turn
 way : (w = 1 ∧ R = K + 3) ∨ (w = -1 ∧ R = K - 4 ∧ sq p (K - 3) = 0)
 mv : m = ⟨K, K + 2 * w, 0⟩
 king : sq p K = 1 + 6 * p.turn
 rook : sq p R = 3 + 6 * p.turn
 mid : sq p (K + w) = 0
 to : sq p (K + 2 * w) = 0
 a0 : attacked p K (1 - p.turn) = false
 a1 : attacked p (K + w) (1 - p.turn) = false
theorem castle_of {p : Pos} (hI : Inv p) {r : Nat} {m : Mv} (h : Castling p r m) : r < 4 ∧ (r : Int) / 2 = p.turn ∧ bit p.castle r = true ∧ Castle p m (homeK r) (if homeR r < homeK r then -1 else 1) (homeR r) := by
 have ht := hI.turn
 have hr : r < 4 ∧ (r : Int) / 2 = p.turn := by
  rcases h.right with e | e <;> rcases ht with t | t <;> rw [t] at e ⊢ <;> subst e <;> decide
 have hm := h.may
 unfold castleMay castleFree at hm
 rw [hI.rights] at hm
 simp only [Bool.and_eq_true, Bool.not_eq_true'] at hm
 obtain ⟨⟨hb, h0⟩, h1, hf⟩ := hm
 obtain ⟨s1, s2⟩ := hI.right r hr.1 hb
 rw [hr.2] at s1 s2
 refine ⟨hr.1, hr.2, hb, ?_⟩
 rw [free_iff] at hf
 have hm := h.is
 unfold castleMv at hm
 have hrr : r = 0 ∨ r = 1 ∨ r = 2 ∨ r = 3 := by omega
 rcases hrr with rfl | rfl | rfl | rfl
 ·have t : p.turn = 0 := by rw [← hr.2]; decide
  have m1 := hf 0 zd; have m2 := hf 1 zd
  exact ⟨by rw [t]; decide, .inl ⟨zd, zd⟩, hm, s1, s2, m1, m2, h0, h1⟩
 ·have t : p.turn = 0 := by rw [← hr.2]; decide
  have m1 := hf 0 zd; have m2 := hf 1 zd; have m3 := hf 2 zd
  exact ⟨by rw [t]; decide, .inr ⟨zd, zd, m3⟩, hm, s1, s2, m1, m2, h0, h1⟩
 ·have t : p.turn = 1 := by rw [← hr.2]; decide
  have m1 := hf 0 zd; have m2 := hf 1 zd
  exact ⟨by rw [t]; decide, .inl ⟨zd, zd⟩, hm, s1, s2, m1, m2, h0, h1⟩
 ·have t : p.turn = 1 := by rw [← hr.2]; decide
  have m1 := hf 0 zd; have m2 := hf 1 zd; have m3 := hf 2 zd
  exact ⟨by rw [t]; decide, .inr ⟨zd, zd, m3⟩, hm, s1, s2, m1, m2, h0, h1⟩
theorem kind_king {p : Pos} (hI : Inv p) : kindOf (1 + 6 * p.turn) = 1 := kindOf_of zd zd hI.turn
theorem castle_is {p : Pos} (hI : Inv p) {m : Mv} {K w R : Int} (h : Castle p m K w R) : isCastle p m = true := by
 unfold isCastle
 rw [h.mv]; simp only [h.king, kind_king hI]
 rcases h.way with ⟨e, _⟩ | ⟨e, _⟩ <;> rw [e]
 ·simp
 ·have : K + 2 * -1 = K - 2 := by omega
  rw [this]; simp
theorem castle_takes {p : Pos} (hI : Inv p) {m : Mv} {K w R : Int} (h : Castle p m K w R) : takes p m = false := by
 unfold takes
 rw [h.mv]; simp only [h.king, kind_king hI, h.to]; simp
theorem sq_castle {p : Pos} (hI : Inv p) {m : Mv} {K w R : Int} (h : Castle p m K w R) {j : Int} (j0 : 0 ≤ j) :
  sq (made p m) j = if j = K + w then 3 + 6 * p.turn else if j = R then 0 else if j = K + 2 * w then 1 + 6 * p.turn else if j = K then 0 else sq p j := by
 have ht := hI.turn
 have hk := h.k
 have hw : (w = 1 ∧ R = K + 3) ∨ (w = -1 ∧ R = K - 4) := by rcases h.way with h | h; exact .inl h; exact .inr ⟨h.1, h.2.1⟩
 show sq (board4 p m) j = _
 unfold board4
 rw [castle_is hI h, if_pos rfl]
 have e3 : board3 p m = put (put p K 0) (K + 2 * w) (1 + 6 * p.turn) := by
  unfold board3 board2 board1
  rw [castle_takes hI h, h.mv]
  simp only [ne_eq, not_true_eq_false, if_false, h.king]
  rfl
 have ec : (if m.to < m.fr then at' 0 (rank m.fr) else at' 7 (rank m.fr)) = R := by
  rw [h.mv]; show (if K + 2 * w < K then at' 0 (rank K) else at' 7 (rank K)) = R
  have hk4 : K = 4 ∨ K = 60 := by omega
  clear hk
  rcases hk4 with rfl | rfl <;> rcases hw with ⟨rfl, rfl⟩ | ⟨rfl, rfl⟩ <;> decide
 have em : (m.fr + m.to) / 2 = K + w := by rw [h.mv]; show (K + (K + 2 * w)) / 2 = K + w; omega
 rw [e3, ec, em]
 have r1 : 0 ≤ R ∧ R < 64 ∧ 0 ≤ K ∧ K < 64 ∧ 0 ≤ K + w ∧ K + w < 64 ∧ 0 ≤ K + 2 * w ∧ K + 2 * w < 64 := by omega
 rw [sq_put _ _ _ _ r1.2.2.2.2.1 r1.2.2.2.2.2.1 j0, sq_put _ _ _ _ r1.1 r1.2.1 j0, sq_put _ _ _ _ r1.2.2.2.2.2.2.1 r1.2.2.2.2.2.2.2 j0, sq_put _ _ _ _ r1.2.2.1 r1.2.2.2.1 j0]
 simp only [@eq_comm _ j]
theorem castle_own {p : Pos} (hI : Inv p) {m : Mv} {K w R : Int} (h : Castle p m K w R) : KingIs (made p m) p.turn m.to ∧ m.fr = kingAt p p.turn := by
 have ht := hI.turn
 have hk := h.k
 have hw : (w = 1 ∧ R = K + 3) ∨ (w = -1 ∧ R = K - 4) := by rcases h.way with h | h; exact .inl h; exact .inr ⟨h.1, h.2.1⟩
 have hK := hI.king p.turn ht
 have e : K = kingAt p p.turn := hK.2.2.2 K zo zo h.king
 have hm := h.mv
 refine ⟨?_, by rw [hm]; exact e⟩
 rw [hm]; simp only
 refine ⟨zo, zo, ?_, fun j j0 j1 hj => ?_⟩
 ·rw [← hm, sq_castle hI h zo, if_neg zo, if_neg zo, if_pos rfl]
 ·rw [← hm, sq_castle hI h j0] at hj
  split at hj
  ·omega
  split at hj
  ·omega
  split at hj
  ·assumption
  split at hj
  ·omega
  ·have := hK.2.2.2 j j0 j1 hj; omega
theorem castle_other {p : Pos} (hI : Inv p) {m : Mv} {K w R : Int} (h : Castle p m K w R) : KingIs (made p m) (1 - p.turn) (kingAt p (1 - p.turn)) := by
 have ht := hI.turn
 have hk := h.k
 have hw : (w = 1 ∧ R = K + 3) ∨ (w = -1 ∧ R = K - 4) := by rcases h.way with h | h; exact .inl h; exact .inr ⟨h.1, h.2.1⟩
 have hK := hI.king (1 - p.turn) zo
 have n1 : ∀ x, sq p x ≠ 1 + 6 * (1 - p.turn) → kingAt p (1 - p.turn) ≠ x := by
  intro x hx e; apply hx; rw [← e]; exact hK.2.2.1
 have e1 := n1 (K + w) (by rw [h.mid]; omega)
 have e2 := n1 R (by rw [h.rook]; omega)
 have e3 := n1 (K + 2 * w) (by rw [h.to]; omega)
 have e4 := n1 K (by rw [h.king]; omega)
 refine ⟨hK.1, hK.2.1, ?_, fun j j0 j1 hj => ?_⟩
 ·rw [sq_castle hI h hK.1, if_neg e1, if_neg e2, if_neg e3, if_neg e4]; exact hK.2.2.1
 ·rw [sq_castle hI h j0] at hj
  split at hj
  ·omega
  split at hj
  ·omega
  split at hj
  ·omega
  split at hj
  ·omega
  ·exact hK.2.2.2 j j0 j1 hj
theorem castle_pc {p : Pos} (hI : Inv p) {m : Mv} {K w R : Int} (h : Castle p m K w R) (i : Int) : 0 ≤ sq (made p m) i ∧ sq (made p m) i ≤ 12 := by
 refine pc_all (fun i _ => ?_) i
 rw [sq_castle hI h zo]
 have ht := hI.turn
 repeat' split
 all_goals first | omega | exact hI.pc _
theorem off_row {K w R : Int} {s b : Nat} (hKK : K = 4 ∨ K = 60) (hR : (w = 1 ∧ R = K + 3) ∨ (w = -1 ∧ R = K - 4)) (hb : (b : Int) = K + 2 * w) (hrow : s / 8 ≠ b / 8) : (s : Int) ≠ K + w ∧ (s : Int) ≠ R ∧ (s : Int) ≠ K + 2 * w ∧ (s : Int) ≠ K := by omega
theorem row_line {k s b : Nat} (e0 : ¬ k = 0) (k4 : k < 4) (hsb : lineP k b s = true) (hne : s ≠ b) : s / 8 ≠ b / 8 := by
 have hkk : k = 1 ∨ k = 2 ∨ k = 3 := by omega
 rcases hkk with rfl | rfl | rfl <;> simp only [lineP, Nat.beq_eq] at hsb <;> omega
theorem row_btw {K w R : Int} {i b : Nat} (hKK : K = 4 ∨ K = 60) (hR : (w = 1 ∧ R = K + 3) ∨ (w = -1 ∧ R = K - 4)) (hb : (b : Int) = K + 2 * w) (hrow : i / 8 = b / 8) (hne : (i : Int) ≠ K + w ∧ (i : Int) ≠ R ∧ (i : Int) ≠ K + 2 * w ∧ (i : Int) ≠ K) (hq : w = -1 → (i : Int) ≠ K - 3) :
  ((K + w).toNat < 64 ∧ i / 8 = (K + w).toNat / 8 ∧ (i < (K + w).toNat ∧ (K + w).toNat < b ∨ b < (K + w).toNat ∧ (K + w).toNat < i)) ∧ (K.toNat < 64 ∧ i / 8 = K.toNat / 8 ∧ (i < K.toNat ∧ K.toNat < b ∨ b < K.toNat ∧ K.toNat < i)) := by omega
theorem castle_free {p : Pos} (hI : Inv p) {m : Mv} {K w R : Int} (h : Castle p m K w R) {b : Nat} (hb : m.to = b) (hb64 : b < 64) {i : Nat} (hi : i < 64) (hne : (i : Int) ≠ K + w ∧ (i : Int) ≠ R ∧ (i : Int) ≠ K + 2 * w ∧ (i : Int) ≠ K) (hq : w = -1 → (i : Int) ≠ K - 3) (hl : dF i b = 0 ∨ dR i b = 0 ∨ dF i b = dR i b ∨ dF i b = -dR i b) :
  free (made p m) i (wy i b) (ds i b) = free p i (wy i b) (ds i b) := by
 have hbK : (b : Int) = K + 2 * w := by rw [← hb, h.mv]
 have hKK : K = 4 ∨ K = 60 := by have := h.k; have := hI.turn; omega
 have hR : (w = 1 ∧ R = K + 3) ∨ (w = -1 ∧ R = K - 4) := by rcases h.way with h | h; exact .inl h; exact .inr ⟨h.1, h.2.1⟩
 have hib : i ≠ b := by rintro rfl; exact hne.2.2.1 hbK
 have hline : ∃ k, k < 4 ∧ lineP k i b = true := by
  rcases hl with hh | hh | hh | hh
  ·exact ⟨1, zd, (lineP1 i b).2 hh⟩
  ·exact ⟨0, zd, (lineP0 i b).2 hh⟩
  ·exact ⟨2, zd, (lineP2 i b).2 hh⟩
  ·exact ⟨3, zd, (lineP3 i b).2 hh⟩
 obtain ⟨k, k4, hlp⟩ := hline
 rw [Bool.eq_iff_iff, free_line _ k4 hi hb64 hlp hib, free_line _ k4 hi hb64 hlp hib]
 by_cases e0 : k = 0
 ·subst e0
  have l0 : ∀ s : Nat, lineP 0 i s = true ↔ i / 8 = s / 8 := fun s => by simp [lineP]
  have hrow : i / 8 = b / 8 := (l0 b).1 hlp
  obtain ⟨⟨a1, a2, a3⟩, ⟨a4, a5, a6⟩⟩ := row_btw hKK hR hbK hrow hne hq
  have ht := hI.turn
  constructor
  ·intro hh; exfalso
   have hs := hh (K + w).toNat a1 ((l0 _).2 a2) a3
   rw [sq_castle hI h (Int.natCast_nonneg _), if_pos zo] at hs
   omega
  ·intro hh; exfalso
   have hs := hh K.toNat a4 ((l0 _).2 a5) a6
   rw [Int.toNat_of_nonneg zo, h.king] at hs
   omega
 ·have hoff : ∀ s : Nat, s < 64 → lineP k i s = true → (i < s ∧ s < b ∨ b < s ∧ s < i) → sq (made p m) s = sq p s := by
   intro s hs hl2 hbt
   have hsb : lineP k b s = true := by rw [← lineP_trans hlp]; exact hl2
   obtain ⟨q1, q2, q3, q4⟩ := off_row hKK hR hbK (row_line e0 k4 hsb zo)
   rw [sq_castle hI h (Int.natCast_nonneg s), if_neg q1, if_neg q2, if_neg q3, if_neg q4]
  constructor
  ·intro hh s hs h1 h2; rw [← hoff s hs h1 h2]; exact hh s hs h1 h2
  ·intro hh s hs h1 h2; rw [hoff s hs h1 h2]; exact hh s hs h1 h2
theorem castle_att {p : Pos} (hI : Inv p) {m : Mv} {K w R : Int} (h : Castle p m K w R) : attacked (made p m) m.to (1 - p.turn) = attacked p m.to (1 - p.turn) := by
 have ht := hI.turn
 have hk := h.k
 have hw : (w = 1 ∧ R = K + 3) ∨ (w = -1 ∧ R = K - 4 ∧ sq p (K - 3) = 0) := h.way
 have hto : m.to = K + 2 * w := by rw [h.mv]
 obtain ⟨b, hb⟩ := Int.eq_ofNat_of_zero_le (show 0 ≤ m.to by omega)
 have hb64 : b < 64 := by omega
 have same : ∀ (k : Int) (i : Nat), 1 ≤ k → k ≤ 6 → (sq (made p m) i = k + 6 * (1 - p.turn) ↔ sq p i = k + 6 * (1 - p.turn)) ∧ (sq p i = k + 6 * (1 - p.turn) → (i : Int) ≠ K + w ∧ (i : Int) ≠ R ∧ (i : Int) ≠ K + 2 * w ∧ (i : Int) ≠ K) := by
  intro k i k1 k6
  have hne : sq p i = k + 6 * (1 - p.turn) → (i : Int) ≠ K + w ∧ (i : Int) ≠ R ∧ (i : Int) ≠ K + 2 * w ∧ (i : Int) ≠ K := by
   intro e
   refine ⟨?_, ?_, ?_, ?_⟩ <;> intro e2 <;> rw [e2] at e
   ·rw [h.mid] at e; omega
   ·rw [h.rook] at e; omega
   ·rw [h.to] at e; omega
   ·rw [h.king] at e; omega
  refine ⟨⟨fun e => ?_, fun e => ?_⟩, hne⟩
  ·rw [sq_castle hI h zo] at e
   split at e
   ·omega
   split at e
   ·omega
   split at e
   ·omega
   split at e
   ·omega
   ·exact e
  ·obtain ⟨n1, n2, n3, n4⟩ := hne e
   rw [sq_castle hI h zo, if_neg n1, if_neg n2, if_neg n3, if_neg n4]; exact e
 have hfree := fun i hi hne hq hl => castle_free hI h (i := i) hb hb64 hi hne hq hl
 have hitSame : ∀ (k : Int) (i : Nat), 1 ≤ k → k ≤ 6 → i < 64 → sq p i = k + 6 * (1 - p.turn) → hitK (made p m) k (1 - p.turn) i b = hitK p k (1 - p.turn) i b := by
  intro k i k1 k6 hi hx
  have hne := (same k i k1 k6).2 hx
  unfold hitK
  by_cases a1 : k = 1
  ·rw [if_pos a1, if_pos a1]
  rw [if_neg a1, if_neg a1]
  by_cases a5 : k = 5
  ·rw [if_pos a5, if_pos a5]
  rw [if_neg a5, if_neg a5]
  by_cases a6 : k = 6
  ·rw [if_pos a6, if_pos a6]
  rw [if_neg a6, if_neg a6]
  by_cases hl : dF i b = 0 ∨ dR i b = 0 ∨ dF i b = dR i b ∨ dF i b = -dR i b
  ·rw [hfree i hi hne (by
    intro e e2
    rcases hw with ⟨e3, _⟩ | ⟨_, _, e3⟩
    ·omega
    ·rw [← e2, hx] at e3; omega) hl]
  ·rw [decide_eq_false (fun h => hl (.inl h)), decide_eq_false (fun h => hl (.inr (.inl h))), decide_eq_false (fun h => hl (.inr (.inr (.inl h)))), decide_eq_false (fun h => hl (.inr (.inr (.inr h))))]
   simp
 rw [hb, Bool.eq_iff_iff]
 rw [attacked_iff (made p m) (castle_pc hI h) zo, attacked_iff p hI.pc zo]
 constructor
 ·rintro ⟨k, k1, k6, i, hi, hx, hh⟩
  have hx' := (same k i k1 k6).1.1 hx
  exact ⟨k, k1, k6, i, hi, hx', by rw [← hitSame k i k1 k6 hi hx']; exact hh⟩
 ·rintro ⟨k, k1, k6, i, hi, hx, hh⟩
  exact ⟨k, k1, k6, i, hi, (same k i k1 k6).1.2 hx, by rw [hitSame k i k1 k6 hi hx]; exact hh⟩
end Ch
namespace Ch
open Bb
theorem legal_iff {p : Pos} (hI : Inv p) (m : Mv) : m ∈ legal p ↔ (Plain p m ∧ attacked (made p m) (kingAt (made p m) p.turn) (1 - p.turn) = false) ∨ (∃ r, Castling p r m ∧ attacked p m.to (1 - p.turn) = false) := by
 unfold legal
 rw [List.mem_filter, pseudo_cases hI]
 have hK := hI.king p.turn hI.turn
 constructor
 ·rintro ⟨h | ⟨r, h⟩, hs⟩
  ·left
   refine ⟨h, ?_⟩
   rw [(king_own hI h).at]
   unfold safe at hs
   simp only [Bool.or_eq_true, decide_eq_true_eq, Bool.not_eq_true'] at hs
   rcases hs with hs | hs
   ·have := h.t0; have := hK.1; split at hs <;> omega
   ·exact hs
  ·right
   refine ⟨r, h, ?_⟩
   obtain ⟨_, _, _, hc⟩ := castle_of hI h
   rw [← castle_att hI hc]
   unfold safe at hs
   simp only [Bool.or_eq_true, decide_eq_true_eq, Bool.not_eq_true'] at hs
   rw [if_pos (castle_own hI hc).2] at hs
   rcases hs with hs | hs
   ·have := (castle_own hI hc).1.1; omega
   ·exact hs
 ·rintro (⟨h, hs⟩ | ⟨r, h, hs⟩)
  ·refine ⟨.inl h, ?_⟩
   rw [(king_own hI h).at] at hs
   unfold safe
   simp only [Bool.or_eq_true, decide_eq_true_eq, Bool.not_eq_true']
   exact .inr hs
  ·refine ⟨.inr ⟨r, h⟩, ?_⟩
   obtain ⟨_, _, _, hc⟩ := castle_of hI h
   rw [← castle_att hI hc] at hs
   unfold safe
   simp only [Bool.or_eq_true, decide_eq_true_eq, Bool.not_eq_true']
   rw [if_pos (castle_own hI hc).2]
   exact .inr hs
theorem home_rank : ∀ n : Nat, n < 4 → (0 ≤ homeK n ∧ homeK n ≤ 63 ∧ (rank (homeK n) = 0 ∨ rank (homeK n) = 7)) ∧ (0 ≤ homeR n ∧ homeR n ≤ 63 ∧ (rank (homeR n) = 0 ∨ rank (homeR n) = 7)) := by decide
theorem pawn_to {p : Pos} (hI : Inv p) {m : Mv} (h : Plain p m) (hk : kindOf (sq p m.fr) = 6) : rank m.to ≠ 7 * p.turn := by
 have ht := hI.turn
 have hr := hI.pawn m.fr h.f0 h.f1 hk
 have f0 := h.f0; have f1 := h.f1
 have hb : 0 ≤ rank m.fr ∧ rank m.fr ≤ 7 := by simp only [rank]; omega
 rcases goal_cases hI h.f0 h.f1 h.there h.own h.goal with ⟨g, _⟩ | ⟨_, _, _, g⟩ | ⟨_, _, g, _⟩
 ·exact absurd hk g
 ·unfold up at g; omega
 ·unfold up at g; omega
theorem made_pc {p : Pos} (hI : Inv p) {m : Mv} (h : Plain p m) (i : Int) : 0 ≤ sq (made p m) i ∧ sq (made p m) i ≤ 12 := by
 refine pc_all (fun i _ => ?_) i
 obtain ⟨_, _, n1, n2⟩ := newPc_king hI h
 have ht := hI.turn
 rw [sq_made hI h zo]
 repeat' split
 ·omega
 ·omega
 ·omega
 ·exact hI.pc _
theorem two_iff {p : Pos} (hI : Inv p) {m : Mv} (h : Plain p m) (h2 : twoStep p m = true) :
  kindOf (sq p m.fr) = 6 ∧ m.to = m.fr + 16 * up p.turn ∧ rank m.fr = 1 + 5 * p.turn ∧ sq p m.to = 0 ∧ sq p (m.fr + 8 * up p.turn) = 0 := by
 unfold twoStep at h2
 simp only [Bool.and_eq_true, Bool.or_eq_true, decide_eq_true_eq] at h2
 have ht := hI.turn
 have f0 := h.f0; have f1 := h.f1
 rcases goal_cases hI h.f0 h.f1 h.there h.own h.goal with ⟨g, _⟩ | ⟨_, g0, gf, g⟩ | ⟨_, gf, g, _⟩
 ·exact absurd h2.1 g
 ·rcases g with g | ⟨g, g2, g3⟩
  ·exfalso; simp only [file, rank, up] at *; omega
  ·have e : at' (file m.fr) (rank m.fr + up p.turn) = m.fr + 8 * up p.turn := by
    rw [at_of] <;> simp only [file, rank, up] at * <;> omega
   rw [e] at g3
   refine ⟨h2.1, ?_, g2, g0, g3⟩
   simp only [file, rank, up] at *; omega
 ·exfalso; simp only [file, rank, up] at *; omega
theorem passed_none {p : Pos} (h : p.ep = -1) : passed p = true := by
 unfold passed; rw [if_pos zo, h]; rfl
theorem twoStep_castle {p : Pos} (hI : Inv p) {m : Mv} {K w R : Int} (h : Castle p m K w R) : twoStep p m = false := by
 unfold twoStep; rw [h.mv]; simp only [h.king, kind_king hI]; simp
theorem made_passed {p : Pos} (hI : Inv p) {m : Mv} (h : Plain p m) : passed (made p m) = true := by
 cases h2 : twoStep p m
 ·exact passed_none (by show (if twoStep p m then _ else (-1 : Int)) = -1; rw [h2]; rfl)
 ·obtain ⟨hk, hto, hr, hz, hmid⟩ := two_iff hI h h2
  have ht := hI.turn
  have f0 := h.f0; have f1 := h.f1; have t0 := h.t0; have t1 := h.t1
  have hep : (made p m).ep = m.fr + 8 * up p.turn := by
   show (if twoStep p m then (m.fr + m.to) / 2 else (-1 : Int)) = _
   rw [h2, hto, if_pos rfl]; omega
  have htu : (made p m).turn = 1 - p.turn := rfl
  unfold passed
  rw [hep, htu]
  have hep1 : ¬ (m.fr + 8 * up p.turn < 0 ∨ 63 < m.fr + 8 * up p.turn) := by simp only [rank, up] at *; omega
  rw [if_neg hep1]
  have hf : file (m.fr + 8 * up p.turn) = file m.fr := by simp only [file, up] at *; omega
  have hrr : rank (m.fr + 8 * up p.turn) = rank m.fr + up p.turn := by simp only [rank, up] at *; omega
  have hpawn : sq p m.fr = 6 + 6 * p.turn := by have := kind_own hI h.there h.own; rw [hk] at this; exact this.2.2
  have hnp : newPc p m = 6 + 6 * p.turn := by
   unfold newPc
   rcases h.promo with ⟨e, _⟩ | ⟨_, _, _, e⟩
   ·rw [if_neg zo]; exact hpawn
   ·exfalso; rw [hto] at e; simp only [rank, up] at *; omega
  have hnt : takes p m = false := by
   unfold takes; rw [hz, hk]
   have : file m.fr = file m.to := by rw [hto]; simp only [file, up] at *; omega
   simp [this]
  have hsq : ∀ j : Int, 0 ≤ j → sq (made p m) j = if j = m.to then 6 + 6 * p.turn else if j = m.fr then 0 else sq p j := by
   intro j j0; rw [sq_made hI h j0, hnp, hnt]; simp
  have e1 : at' (file m.fr) (rank m.fr + up p.turn - (1 - 2 * (1 - p.turn))) = m.to := by
   rw [at_of] <;> simp only [file, rank, up] at * <;> omega
  have e2 : at' (file m.fr) (rank m.fr + up p.turn + (1 - 2 * (1 - p.turn))) = m.fr := by
   rw [at_of] <;> simp only [file, rank, up] at * <;> omega
  simp only [hf, hrr, e1, e2]
  rw [if_neg]
  ·rw [hsq _ t0, hsq _ f0, if_pos rfl, if_neg h.ne, if_pos rfl]
   simp only [Bool.and_eq_true, decide_eq_true_eq]
   exact ⟨zo, trivial⟩
  ·rintro (e | e)
   ·apply e; simp only [rank, up] at *; omega
   ·apply e
    rw [hsq _ (by simp only [rank, up] at *; omega), if_neg (by simp only [rank, up] at *; omega), if_neg (by simp only [rank, up] at *; omega)]; exact hmid
theorem Inv.made {p : Pos} (hI : Inv p) {m : Mv} (hm : m ∈ legal p) : Inv (made p m) := by
 have ht := hI.turn
 have htu : (Ch.made p m).turn = 1 - p.turn := rfl
 obtain ⟨l0, l1, lb⟩ := left_bit hI.c0 hI.c1 m
 have hh0 : 0 ≤ (Ch.made p m).half := by
  show 0 ≤ (if takes p m || decide (kindOf (sq p m.fr) = 6) then 0 else p.half + 1)
  have := hI.h0; split <;> omega
 have hf1 : 1 ≤ (Ch.made p m).full := by show 1 ≤ p.full + p.turn; have := hI.f1; omega
 rcases (legal_iff hI m).1 hm with ⟨h, hq⟩ | ⟨r, hr, hq⟩
 ·have ko := king_own hI h
  have kn := king_other hI h
  refine ⟨made_pc hI h, ?_, by rw [htu]; omega, l0, l1, hh0, hf1, ?_, ?_, made_passed hI h, ?_⟩
  ·intro i i0 i1 hk
   rw [sq_made hI h i0] at hk
   split at hk
   ·rename_i e
    rw [e]
    unfold newPc at hk
    have hrt : 0 ≤ rank m.to ∧ rank m.to ≤ 7 := by have := h.t0; have := h.t1; simp only [rank]; omega
    rcases h.promo with ⟨e1, e2⟩ | ⟨e1, e2, _, _⟩
    ·rw [if_neg zo] at hk
     have := pawn_to hI h hk
     have e3 : rank m.to ≠ 7 - 7 * p.turn := fun e3 => e2 ⟨hk, e3⟩
     omega
    ·rw [if_pos zo, kindOf_of zo zo ht] at hk; omega
   ·split at hk
    ·exact absurd hk zd
    ·split at hk
     ·exact absurd hk zd
     ·exact hI.pawn i i0 i1 hk
  ·intro c hc
   have : c = p.turn ∨ c = 1 - p.turn := by omega
   rcases this with rfl | rfl
   ·rw [ko.at]; exact ko
   ·rw [kn.at]; exact kn
  ·intro n hn hb
   have hb' : bit (left p.castle m) n = true := hb
   rw [lb n hn] at hb'
   simp only [Bool.and_eq_true, Bool.not_eq_true'] at hb'
   obtain ⟨b1, b2⟩ := hb'
   unfold touch at b2
   simp only [Bool.or_eq_false_iff, decide_eq_false_iff_not] at b2
   obtain ⟨⟨⟨q1, q2⟩, q3⟩, q4⟩ := b2
   obtain ⟨⟨k0, k1, k2⟩, ⟨r0, r1, r2⟩⟩ := home_rank n hn
   obtain ⟨s1, s2⟩ := hI.right n hn b1
   have hnt : ∀ x, (rank x = 0 ∨ rank x = 7) → x ≠ m.to → ¬ (takes p m = true ∧ x = takenAt p m) := by
    rintro x hx hne ⟨e1, e2⟩
    rcases plain_taken hI h e1 with ⟨e3, _⟩ | ⟨_, _, _, e3⟩
    ·exact hne (e2.trans e3)
    ·rw [← e2] at e3; omega
   rw [sq_made hI h k0, sq_made hI h r0, if_neg (fun e => q3 e.symm), if_neg (fun e => q1 e.symm), if_neg (hnt _ k2 (fun e => q3 e.symm)), if_neg (fun e => q4 e.symm), if_neg (fun e => q2 e.symm), if_neg (hnt _ r2 (fun e => q4 e.symm))]
   exact ⟨s1, s2⟩
  ·rw [htu, show (1 - (1 - p.turn)) = p.turn by omega]; exact hq
 ·obtain ⟨r4, rt, rb, hc⟩ := castle_of hI hr
  have ko := (castle_own hI hc).1
  have kn := castle_other hI hc
  have hk := hc.k
  have hw : (if homeR r < homeK r then (-1 : Int) else 1) = 1 ∧ homeR r = homeK r + 3 ∨ (if homeR r < homeK r then (-1 : Int) else 1) = -1 ∧ homeR r = homeK r - 4 := by rcases hc.way with h | h; exact .inl h; exact .inr ⟨h.1, h.2.1⟩
  refine ⟨castle_pc hI hc, ?_, by rw [htu]; omega, l0, l1, hh0, hf1, ?_, ?_, passed_none (by show (if twoStep p m then _ else (-1 : Int)) = -1; rw [twoStep_castle hI hc]; rfl), ?_⟩
  ·intro i i0 i1 hk2
   have hs := sq_castle hI hc i0
   generalize (if homeR ↑r < homeK ↑r then (-1 : Int) else 1) = w at hs
   rw [hs] at hk2
   split at hk2
   ·rw [kindOf_of zd zd ht] at hk2; omega
   split at hk2
   ·exact absurd hk2 zd
   split at hk2
   ·rw [kindOf_of zd zd ht] at hk2; omega
   split at hk2
   ·exact absurd hk2 zd
   ·exact hI.pawn i i0 i1 hk2
  ·intro c hc2
   have : c = p.turn ∨ c = 1 - p.turn := by omega
   rcases this with rfl | rfl
   ·rw [ko.at]; exact ko
   ·rw [kn.at]; exact kn
  ·intro n hn hb
   have hb' : bit (left p.castle m) n = true := hb
   rw [lb n hn] at hb'
   simp only [Bool.and_eq_true, Bool.not_eq_true'] at hb'
   obtain ⟨b1, b2⟩ := hb'
   unfold touch at b2
   simp only [Bool.or_eq_false_iff, decide_eq_false_iff_not] at b2
   obtain ⟨⟨⟨q1, q2⟩, q3⟩, q4⟩ := b2
   obtain ⟨⟨k0, k1, k2⟩, ⟨r0, r1, r2⟩⟩ := home_rank n hn
   obtain ⟨s1, s2⟩ := hI.right n hn b1
   have hfr : m.fr = homeK r := by rw [hc.mv]
   rw [hfr] at q1
   have far : ∀ x, (x = homeK n ∨ x = homeR n) → x ≠ homeK r + (if homeR r < homeK r then -1 else 1) ∧ x ≠ homeR r ∧ x ≠ homeK r + 2 * (if homeR r < homeK r then -1 else 1) ∧ x ≠ homeK r := by
    have hall : ∀ n r : Nat, n < 4 → r < 4 → homeK r ≠ homeK n → ∀ x ∈ [homeK n, homeR n], x ≠ homeK r + (if homeR r < homeK r then -1 else 1) ∧ x ≠ homeR r ∧ x ≠ homeK r + 2 * (if homeR r < homeK r then -1 else 1) ∧ x ≠ homeK r := by
     intro n r hn hr
     have e1 : n = 0 ∨ n = 1 ∨ n = 2 ∨ n = 3 := by omega
     have e2 : r = 0 ∨ r = 1 ∨ r = 2 ∨ r = 3 := by omega
     rcases e1 with rfl | rfl | rfl | rfl <;> rcases e2 with rfl | rfl | rfl | rfl <;> decide
    intro x hx
    exact hall n r hn r4 q1 x (by simp; exact hx)
   obtain ⟨a1, a2, a3, a4⟩ := far _ (.inl rfl)
   obtain ⟨c1, c2, c3, c4⟩ := far _ (.inr rfl)
   rw [sq_castle hI hc k0, sq_castle hI hc r0, if_neg a1, if_neg a2, if_neg a3, if_neg a4, if_neg c1, if_neg c2, if_neg c3, if_neg c4]
   exact ⟨s1, s2⟩
  ·rw [htu, show (1 - (1 - p.turn)) = p.turn by omega, ko.at, castle_att hI hc]; exact hq
end Ch
end
end Go.Proofs.YtpclhlhcegcflaaGreatDoor
