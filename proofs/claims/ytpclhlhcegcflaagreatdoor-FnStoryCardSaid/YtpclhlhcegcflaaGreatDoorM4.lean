/- One part of the proof: Sp1 Sp2 Sp3 Sp4. -/
import Derived.Test.YtpclhlhcegcflaaGreatDoorM1
import Derived.Test.YtpclhlhcegcflaaGreatDoorM3
namespace Go.Proofs.YtpclhlhcegcflaaGreatDoor
set_option maxRecDepth 100000
set_option linter.unusedSimpArgs false
set_option linter.unusedVariables false
section
open Go Go.RowKit
open E
theorem w64_in {n : Int} (h0 : -9223372036854775808 ≤ n) (h1 : n ≤ 9223372036854775807) : IntKind.i64.wrap n = n := by
 unfold IntKind.wrap; simp [IntKind.bits, IntKind.signed]; omega
theorem wrap64 (n : Int) : IntKind.i64.wrap n = (n + 9223372036854775808) % 18446744073709551616 - 9223372036854775808 := by
 unfold IntKind.wrap; simp [IntKind.bits, IntKind.signed]; omega
theorem int_eq {k : IntKind} {a b : Int} (h : a = b) : Value.int k a = Value.int k b := by rw [h]
theorem ret_int {k : IntKind} {a b : Int} (h : a = b) : Ending.returned (.int k a) = .returned (.int k b) := by rw [h]
theorem ret_tup2 {a b c d : Value} (h1 : a = c) (h2 : b = d) : Ending.returned (.tuple #[a, b]) = .returned (.tuple #[c, d]) := by rw [h1, h2]
theorem bool_eq {a b : Bool} (h : a = b) : Value.bool a = Value.bool b := by rw [h]
theorem ret_bool {a b : Bool} (h : a = b) : Ending.returned (.bool a) = .returned (.bool b) := by rw [h]
theorem File_c (s : Int) (w : World) (h0 : 0 ≤ s) : Calls G.P 127 #[.int .i64 s] w (RetS (.int .i64 (Ch.file s)) w) := by
 refine zN Tryz.func127 ?_
 refine zR ?_
 exact ⟨by rw [Int.tmod_eq_emod_of_nonneg h0]; rfl, rfl⟩
theorem Rank_c (s : Int) (w : World) (h0 : 0 ≤ s) (h1 : s < 9223372036854775807) : Calls G.P 81 #[.int .i64 s] w (RetS (.int .i64 (Ch.rank s)) w) := by
 refine zN Tryz.func81 ?_
 refine zR ?_
 exact ⟨by rw [Int.tdiv_eq_ediv_of_nonneg h0, w64_in zo zo]; rfl, rfl⟩
theorem KindOf_c (x : Int) (w : World) (h0 : -1000 ≤ x) (h1 : x ≤ 1000) : Calls G.P 57 #[.int .i64 x] w (RetS (.int .i64 (Ch.kindOf x)) w) := by
 refine zN Tryz.func57 ?_
 repeat' (refine zR ?_; apply E.dsplit<;>intro h)
 all_goals (try refine zR ?_)
 all_goals (refine ⟨ret_int ?_, rfl⟩; simp only [Ch.kindOf])
 ·rw [if_pos zo, w64_in zo zo]
 ·rw [if_neg zo]
theorem SideOf_c (x : Int) (w : World) : Calls G.P 128 #[.int .i64 x] w (RetS (.int .i64 (Ch.sideOf x)) w) := by
 refine zN Tryz.func128 ?_
 repeat' (refine zR ?_; apply E.dsplit<;>intro h)
 all_goals (try refine zR ?_)
 all_goals (refine ⟨ret_int ?_, rfl⟩; simp only [Ch.sideOf])
 ·rw [if_pos zo]
 ·rw [if_neg zo]
theorem Of_c (k s : Int) (w : World) (h0 : -1000 ≤ k) (h1 : k ≤ 1000) (h2 : -1000 ≤ s) (h3 : s ≤ 1000) : Calls G.P 79 #[.int .i64 k, .int .i64 s] w (RetS (.int .i64 (k + 6 * s)) w) := by
 refine zN Tryz.func79 ?_
 refine zR ?_
 exact ⟨by rw [w64_in (n := 6 * s) zo zo, w64_in zo zo], rfl⟩
theorem At_c (f r : Int) (w : World) (h0 : -1000 ≤ f) (h1 : f ≤ 1000) (h2 : -1000 ≤ r) (h3 : r ≤ 1000) : Calls G.P 80 #[.int .i64 f, .int .i64 r] w (RetS (.int .i64 (Ch.at' f r)) w) := by
 refine zN Tryz.func80 ?_
 repeat' (refine zR ?_; apply E.dsplit<;>intro h)
 all_goals (try refine zR ?_)
 all_goals (refine ⟨ret_int ?_, rfl⟩; simp only [Ch.at'])
 all_goals first
  | rw [if_pos zo]
  | rw [if_neg zo, w64_in (n := 8 * r) zo zo, w64_in zo zo]
theorem up_c (s : Int) (w : World) (h0 : -1000 ≤ s) (h1 : s ≤ 1000) : Calls G.P 131 #[.int .i64 s] w (RetS (.int .i64 (Ch.up s)) w) := by
 refine zN Tryz.func131 ?_
 refine zR ?_
 exact ⟨by rw [w64_in (n := 2 * s) zo zo, w64_in zo zo]; rfl, rfl⟩
theorem sign_c (n : Int) (w : World) : Calls G.P 188 #[.int .i64 n] w (RetS (.int .i64 (Ch.sign n)) w) := by
 refine zN Tryz.func188 ?_
 repeat' (refine zR ?_; apply E.dsplit<;>intro h)
 all_goals (try refine zR ?_)
 all_goals (refine ⟨ret_int ?_, rfl⟩; simp only [Ch.sign])
 ·rw [if_pos zo]
 ·rw [if_neg zo, if_pos zo]
 ·rw [if_neg zo, if_neg zo]
def Pc (p : Pos) : Prop := ∀ i : Int, 0 ≤ Ch.sq p i ∧ Ch.sq p i ≤ 12
theorem Hits_c (p : Pos) (hp : Pc p) (f t : Int) (w : World) (h0 : 0 ≤ f) (h1 : f ≤ 63) (h2 : 0 ≤ t) (h3 : t ≤ 63) :
  Calls G.P 129 #[posV p, .int .i64 f, .int .i64 t] w (Ret (.bool (Ch.hits p f t)) w) := by
 refine E.enter (G := G) Tryz.func129 rfl (by simp [Tryz.ntmps129]) zk ?_
 refine W_seq (W_vc ?_)
 refine zG ?_
 refine W_quiet (Cl _) (Cl.refl _) (fun _ => Cl.drew) zk ?_
 have hC : ∀ w', Cl (w.alloc (.cells (posA p) 24)) w' → w'.heap[w.heap.size]? = some (.cells (posA p) 24 (0, 0)) := fun w' h => h.blk (alloc_new _ _)
 have hE : ∀ w', Cl (w.alloc (.cells (posA p) 24)) w' → Cl w w' := fun w' h => (Cl.alloc w _).trans h
 refine zG ?_
 refine callQs _ (fun w _ => File_c _ _ h2) (zG ?_)
 refine callQs _ (fun w _ => File_c _ _ h0) ?_
 have hf : IntKind.i64.wrap (Ch.file t - Ch.file f) = Ch.file t - Ch.file f := w64_in (by unfold Ch.file; omega) (by unfold Ch.file; omega)
 have hr : IntKind.i64.wrap (Ch.rank t - Ch.rank f) = Ch.rank t - Ch.rank f := w64_in (by unfold Ch.rank; omega) (by unfold Ch.rank; omega)
 refine zG ?_
 rw [hf]
 refine zR ?_
 refine callQs _ (fun w _ => Rank_c _ _ h2 zo) (zR ?_)
 refine callQs _ (fun w _ => Rank_c _ _ h0 zo) (zG ?_)
 rw [hr]
 generalize hF : Ch.file t - Ch.file f = F
 generalize hR : Ch.rank t - Ch.rank f = R
 refine zR ?_
 apply E.dsplit<;>intro h
 ·refine zR ?_
  intro w' hw'
  refine zG ?_
  exact ⟨ret_bool (by simp [Ch.hits, h]), hE w' hw'⟩
 have hne := h; clear h
 refine zR ?_
 refine E.ctrue (inB_iff.2 ⟨h0, zo⟩) (zR ?_)
 refine loadQ _ (fun w hw => ldSq (hC w hw) _ h0 zo rfl) (zR ?_)
 apply E.dsplit<;>intro h
 ·refine zR ?_
  intro w' hw'
  refine zG ?_
  exact ⟨ret_bool (by simp [Ch.hits, h]), hE w' hw'⟩
 have hnz := h; clear h
 refine zG ?_
 refine join1 9 13 (.bool (decide (F = 0) || decide (R = 0))) zk ?_ (fun j => ?_)
 ·refine zR ?_
  apply E.dsplit<;>intro h
  ·refine zR ?_
   exact congrArg Value.bool (by simp [h])
  ·refine zR ?_
   exact congrArg Value.bool (by simp [h])
 have hneg : IntKind.i64.wrap (0 - R) = -R := by rw [w64_in (by subst hR; unfold Ch.rank; omega) (by subst hR; unfold Ch.rank; omega)]; omega
 refine join1 10 13 (.bool (decide (F = R) || decide (F = -R))) zk ?_ (fun j => ?_)
 ·refine zR ?_
  apply E.dsplit<;>intro h
  ·refine zR ?_
   exact congrArg Value.bool (by simp [h])
  ·refine zR ?_
   exact congrArg Value.bool (by rw [hneg]; simp [h])
 obtain ⟨K, hK⟩ : ∃ K, Ch.kindOf (Ch.sq p f) = K := ⟨_, rfl⟩
 have bF : -7 ≤ F ∧ F ≤ 7 := by subst hF; unfold Ch.file; omega
 have bR : -7 ≤ R ∧ R ≤ 7 := by subst hR; unfold Ch.rank; omega
 have hFF : IntKind.i64.wrap (F * F) = F * F := by have := sq49 bF.1 bF.2; exact w64_in zo zo
 have hRR : IntKind.i64.wrap (R * R) = R * R := by have := sq49 bR.1 bR.2; exact w64_in zo zo
 have hFR : IntKind.i64.wrap (F * F + R * R) = F * F + R * R := by have := sq49 bF.1 bF.2; have := sq49 bR.1 bR.2; exact w64_in zo zo
 have hans : ∀ b : Bool, Ch.hits p f t = b → ∀ w', Cl (w.alloc (.cells (posA p) 24)) w' → Ret (.bool (Ch.hits p f t)) w (.returned (.bool b)) w' := fun b hb w' hw' => ⟨by rw [hb], hE w' hw'⟩
 have hdef : Ch.hits p f t = (if K = 1 then decide (F * F ≤ 1) && decide (R * R ≤ 1)
   else if K = 5 then decide (F * F + R * R = 5)
   else if K = 6 then decide (F * F = 1) && decide (R = Ch.up (Ch.sideOf (Ch.sq p f)))
   else if !((decide (F = 0) || decide (R = 0)) && !decide (K = 4)) && !((decide (F = R) || decide (F = -R)) && !decide (K = 3)) then false
   else Ch.free p f (Ch.sign F + 8 * Ch.sign R) (Ch.dist F R)) := by
  simp only [Ch.hits, hF, hR, hK, hne, hnz, or_self, if_false]
 refine joinC (σ := Unit) [6, 9, 10] 13 (fun _ => [(9, .bool ((decide (F = 0) || decide (R = 0)) && !decide (K = 4))), (10, .bool ((decide (F = R) || decide (F = -R)) && !decide (K = 3)))])
  (fun _ => K ≠ 1 ∧ K ≠ 5 ∧ K ≠ 6) zk ?_ (fun _ j hk => ?_)
 ·refine zR ?_
  refine E.ctrue (inB_iff.2 ⟨h0, zo⟩) (zR ?_)
  refine loadQ _ (fun w hw => ldSq (hC w hw) _ h0 zo rfl) (zR ?_)
  refine callQs _ (fun w _ => KindOf_c _ _ (by have := hp f; omega) (by have := hp f; omega)) ?_
  rw [hK]
  refine zR ?_
  apply E.dsplit<;>intro h
  ·subst h
   refine zR ?_
   rw [hFF]
   apply E.dsplit<;>intro h
   ·refine zR ?_
    intro w' hw'
    refine zG ?_
    exact hans _ (by rw [hdef]; simp [h, hRR]) w' hw'
   ·refine zR ?_
    intro w' hw'
    refine zG ?_
    exact hans _ (by rw [hdef]; simp [h]) w' hw'
  have k1 := h; clear h
  refine zR ?_
  apply E.dsplit<;>intro h
  ·subst h
   refine zR ?_
   intro w' hw'
   refine zG ?_
   exact hans _ (by rw [hdef, hFF, hRR, hFR]; simp) w' hw'
  have k5 := h; clear h
  refine zR ?_
  apply E.dsplit<;>intro h
  ·subst h
   refine zR ?_
   rw [hFF]
   apply E.dsplit<;>intro h
   ·refine zR ?_
    refine E.ctrue (inB_iff.2 ⟨h0, zo⟩) (zR ?_)
    refine loadQ _ (fun w hw => ldSq (hC w hw) _ h0 zo rfl) (zR ?_)
    refine callQs _ (fun w _ => SideOf_c _ _) (zR ?_)
    refine callQs _ (fun w _ => up_c _ _ (by unfold Ch.sideOf; split <;> omega) (by unfold Ch.sideOf; split <;> omega)) (zR ?_)
    intro w' hw'
    refine zG ?_
    exact hans _ (by rw [hdef]; simp [h]) w' hw'
   ·refine zR ?_
    intro w' hw'
    refine zG ?_
    exact hans _ (by rw [hdef]; simp [h]) w' hw'
  have k6 := h; clear h
  refine zR ?_
  apply E.dsplit<;>intro h
  ·subst h
   refine zR ?_
   exact ⟨(), ⟨congrArg Value.bool (by simp), congrArg Value.bool (by simp), trivial⟩, k1, k5, k6⟩
  have k3 := h; clear h
  refine zR ?_
  apply E.dsplit<;>intro h
  ·subst h
   refine zR ?_
   exact ⟨(), ⟨congrArg Value.bool (by simp), congrArg Value.bool (by simp), trivial⟩, k1, k5, k6⟩
  refine zR ?_
  exact ⟨(), ⟨congrArg Value.bool (by simp [h]), congrArg Value.bool (by simp [k3]), trivial⟩, k1, k5, k6⟩
 rw [if_neg hk.1, if_neg hk.2.1, if_neg hk.2.2] at hdef
 generalize hST : ((decide (F = 0) || decide (R = 0)) && !decide (K = 4)) = ST at hdef
 generalize hSL : ((decide (F = R) || decide (F = -R)) && !decide (K = 3)) = SL at hdef
 refine joinC (σ := Unit) [6] 13 (fun _ => []) (fun _ => ST = true ∨ SL = true) zk ?_ (fun _ j hl => ?_)
 ·refine zR ?_
  apply E.csplit<;>intro h
  ·refine zR ?_
   apply E.csplit<;>intro h
   ·refine zR ?_
    intro w' hw'
    refine zG ?_
    exact hans _ (by rw [hdef]; simp_all) w' hw'
   ·refine zR ?_
    exact ⟨(), trivial, .inr (by simpa using h)⟩
  ·refine zR ?_
   exact ⟨(), trivial, .inl (by simpa using h)⟩
 have hdef2 : Ch.hits p f t = Ch.free p f (Ch.sign F + 8 * Ch.sign R) (Ch.dist F R) := by rw [hdef]; rcases hl with h | h <;> simp [h]
 have hline : F = 0 ∨ R = 0 ∨ F = R ∨ F = -R := by
  rcases hl with h | h
  ·rw [← hST] at h; simp at h; rcases h.1 with h | h <;> simp [h]
  ·rw [← hSL] at h; simp at h; rcases h.1 with h | h <;> simp [h]
 obtain ⟨hto, hW0, hin⟩ := line_of h0 h1 h2 h3 hne (by rw [hF, hR]; exact hline)
 rw [hF, hR] at hto hW0 hin
 have hs : ∀ n : Int, -1 ≤ Ch.sign n ∧ Ch.sign n ≤ 1 := fun n => by unfold Ch.sign; split <;> (try split) <;> omega
 have hsF := hs F
 have hsR := hs R
 refine zR ?_
 refine callQs _ (fun w _ => sign_c _ _) (zR ?_)
 refine callQs _ (fun w _ => sign_c _ _) (zG ?_)
 rw [w64_in (n := 8 * Ch.sign R) zo zo, w64_in (n := Ch.sign F + 8 * Ch.sign R) zo zo]
 generalize Ch.sign F + 8 * Ch.sign R = W at *
 generalize Ch.dist F R = n at *
 refine zR ?_
 have g0 := hin 0 zo
 refine loopC [6, 12] 13 (fun k : Nat => [(12, .int .i64 (f + ((k : Int) + 1) * W))]) (fun k => k ≤ n ∧ Ch.hits p f t = Ch.free p (f + (k : Int) * W) W (n - k)) (fun k => n - k) zk 0 ⟨zo, by rw [hdef2]; simp⟩
  ⟨int_eq (by rw [w64_in zo zo]; omega), trivial⟩ ?_
 intro k j ⟨hkn, hh⟩
 have gk := hin k hkn
 refine zR ?_
 apply E.ndsplit<;>intro h
 ·have hkn' : k < n := by
   rcases Nat.lt_or_ge k n with h' | h'
   ·exact h'
   ·exfalso; apply h; rw [hto]; congr 2; omega
  rw [free_step p f W n k hkn'] at hh
  have gk1 := hin (k + 1) zo
  have e1 : f + ((k : Int) + 1) * W + W = f + (((k + 1 : Nat) : Int) + 1) * W := by
   rw [Int.add_mul ((k + 1 : Nat) : Int)]; push_cast; omega
  refine zR ?_
  refine E.ctrue (inB_iff.2 ⟨gk.1, zo⟩) (zR ?_)
  refine loadQ _ (fun w hw => ldSq (hC w hw) _ gk.1 zo rfl) (zR ?_)
  apply E.ndsplit<;>intro h
  ·refine zR ?_
   intro w' hw'
   refine zG ?_
   exact hans _ (by rw [hh]; simp [h]) w' hw'
  ·refine zR ?_
   refine ⟨k + 1, ⟨int_eq (by rw [e1, w64_in zo zo]), trivial⟩, ⟨zo, by rw [hh]; simp [h]⟩, zo⟩
 ·have hkn' : n - k = 0 := by
   have : ((k : Int) + 1) * W = ((n : Int) + 1) * W := by omega
   have := Int.eq_of_mul_eq_mul_right hW0 this
   omega
  refine zR ?_
  intro w' hw'
  refine zG ?_
  exact hans _ (by rw [hh, hkn']; rfl) w' hw'
theorem hCl {p : Pos} {w w' : World} (h : Cl (w.alloc (.cells (posA p) 24)) w') : w'.heap[w.heap.size]? = some (.cells (posA p) 24 (0, 0)) := h.blk (alloc_new _ _)
theorem hEx {w w' : World} {o : Obj} (h : Cl (w.alloc o) w') : Cl w w' := (Cl.alloc w _).trans h
theorem Pc.lo {p : Pos} (h : Pc p) (i : Int) : -1000 ≤ Ch.sq p i := by have := h i; omega
theorem Pc.hi {p : Pos} (h : Pc p) (i : Int) : Ch.sq p i ≤ 1000 := by have := h i; omega
theorem side_lo (x : Int) : -1000 ≤ Ch.sideOf x := by unfold Ch.sideOf; split <;> omega
theorem side_hi (x : Int) : Ch.sideOf x ≤ 1000 := by unfold Ch.sideOf; split <;> omega
theorem zO {A : Prop} (e : A := by (first | omega | exact Pc.lo hp _ | exact Pc.hi hp _ | exact side_lo _ | exact side_hi _ | (simp only [wrap64, Ch.file, Ch.rank, Ch.up] at *; omega))) : A := e
theorem Count_c (p : Pos) (k s : Int) (w : World) (h0 : -1000 ≤ k) (h1 : k ≤ 1000) (h2 : -1000 ≤ s) (h3 : s ≤ 1000) :
  Calls G.P 82 #[posV p, .int .i64 k, .int .i64 s] w (Ret (.int .i64 (Ch.count p k s)) w) := by
 refine E.enter (G := G) Tryz.func82 rfl (by simp [Tryz.ntmps82]) zk ?_
 refine W_seq (W_vc ?_)
 refine zG ?_
 refine W_quiet (Cl _) (Cl.refl _) (fun _ => Cl.drew) zk (zR ?_)
 refine loopC [7, 8] 9 (fun n : Nat => [(7, .int .i64 (Ch.cntN (fun i => decide (Ch.sq p i = k + 6 * s)) n)), (8, .int .i64 n)]) (fun n => n ≤ 64) (fun n => 64 - n) zk 0 zo ⟨rfl, rfl, trivial⟩ ?_
 intro n j hn
 have hb := Ch.cntN_le (fun i => decide (Ch.sq p i = k + 6 * s)) n
 refine zR ?_
 apply E.dsplit<;>intro h
 ·refine zR ?_
  refine zC ?_
  refine zR ?_
  refine loadQ _ (fun w hw => ldSq (hCl hw) (n : Int) zo zo rfl) (zR ?_)
  refine callQs _ (fun w _ => Of_c _ _ _ h0 h1 h2 h3) (zR ?_)
  apply E.dsplit<;>intro h
  ·refine zR ?_
   exact ⟨n + 1, ⟨int_eq (by rw [w64_in zo zo]; simp [Ch.cntN, h]), int_eq (by rw [w64_in zo zo]; rfl), trivial⟩, zo, zo⟩
  ·refine zR ?_
   exact ⟨n + 1, ⟨int_eq (by simp [Ch.cntN, h]), int_eq (by rw [w64_in zo zo]; rfl), trivial⟩, zo, zo⟩
 ·refine zR ?_
  intro w' hw'
  refine zG ?_
  have : n = 64 := by omega
  subst this
  exact ⟨rfl, hEx hw'⟩
theorem KingAt_c (p : Pos) (s : Int) (w : World) (h2 : -1000 ≤ s) (h3 : s ≤ 1000) :
  Calls G.P 86 #[posV p, .int .i64 s] w (Ret (.int .i64 (Ch.kingAt p s)) w) := by
 refine E.enter (G := G) Tryz.func86 rfl (by simp [Tryz.ntmps86]) zk ?_
 refine W_seq (W_vc ?_)
 refine zG ?_
 refine W_quiet (Cl _) (Cl.refl _) (fun _ => Cl.drew) zk (zR ?_)
 refine loopC [4, 5] 6 (fun n : Nat => [(5, .int .i64 n)]) (fun n => n ≤ 64 ∧ Ch.firstN (fun i => decide (Ch.sq p i = 1 + 6 * s)) n = none) (fun n => 64 - n) zk 0 ⟨zo, rfl⟩ ⟨rfl, trivial⟩ ?_
 intro n j ⟨hn, hf⟩
 refine zR ?_
 apply E.dsplit<;>intro h
 ·refine zR ?_
  refine zC ?_
  refine zR ?_
  refine loadQ _ (fun w hw => ldSq (hCl hw) (n : Int) zo zo rfl) (zR ?_)
  refine callQs _ (fun w _ => Of_c _ _ _ zo zo h2 h3) (zR ?_)
  apply E.dsplit<;>intro h
  ·refine zR ?_
   intro w' hw'
   refine zG ?_
   exact ⟨ret_int (by unfold Ch.kingAt; rw [Ch.firstN_of hf (by simp [h]) zo]), hEx hw'⟩
  ·refine zR ?_
   exact ⟨n + 1, ⟨int_eq (by rw [w64_in zo zo]; rfl), trivial⟩, ⟨zo, by unfold Ch.firstN; rw [hf]; simp [h]⟩, zo⟩
 ·refine zR ?_
  intro w' hw'
  refine zG ?_
  have : n = 64 := by omega
  subst this
  exact ⟨ret_int (by unfold Ch.kingAt; rw [hf]), hEx hw'⟩
theorem Attacked_c (p : Pos) (hp : Pc p) (q s : Int) (w : World) (h0 : 0 ≤ q) (h1 : q ≤ 63) :
  Calls G.P 85 #[posV p, .int .i64 q, .int .i64 s] w (Ret (.bool (Ch.attacked p q s)) w) := by
 refine E.enter (G := G) Tryz.func85 rfl (by simp [Tryz.ntmps85]) zk ?_
 refine W_seq (W_vc ?_)
 refine zG ?_
 refine W_quiet (Cl _) (Cl.refl _) (fun _ => Cl.drew) zk (zR ?_)
 refine loopC [6, 7] 8 (fun n : Nat => [(7, .int .i64 n)]) (fun n => n ≤ 64 ∧ Ch.anyN (Ch.hitBy p q s) n = false) (fun n => 64 - n) zk 0 ⟨zo, rfl⟩ ⟨rfl, trivial⟩ ?_
 intro n j ⟨hn, hf⟩
 refine zR ?_
 apply E.dsplit<;>intro h
 ·have hi : n < 64 := by omega
  refine zG ?_
  refine joinC (σ := Unit) [6] 8 (fun _ => []) (fun _ => Ch.hitBy p q s n = false) zk ?_ (fun _ j hk => ?_)
  ·have no : ∀ b : Bool, Ch.hitBy p q s n = b → b = false → Ch.hitBy p q s n = false := fun b h h' => by rw [h, h']
   refine zR ?_
   refine zC ?_
   refine zR ?_
   refine loadQ _ (fun w hw => ldSq (hCl hw) (n : Int) zo zo rfl) (zR ?_)
   apply E.ndsplit<;>intro h
   ·refine zR ?_
    refine zC ?_
    refine zR ?_
    refine loadQ _ (fun w hw => ldSq (hCl hw) (n : Int) zo zo rfl) (zR ?_)
    refine callQs _ (fun w _ => SideOf_c _ _) (zR ?_)
    rename_i hz
    apply E.dsplit<;>intro h
    ·refine zR ?_
     refine loadQ _ (fun w hw => ldPos (hCl hw)) (zR ?_)
     refine callQ _ (fun _ _ h => h.trans) (fun w _ => Hits_c p hp _ _ _ zo zo h0 h1) (zR ?_)
     apply E.csplit<;>intro h
     ·refine zR ?_
      intro w' hw'
      refine zG ?_
      refine ⟨ret_bool ?_, hEx hw'⟩
      exact (Ch.anyN_of hi (by simp_all [Ch.hitBy])).symm
     ·refine zR ?_
      exact ⟨(), trivial, by simp_all [Ch.hitBy]⟩
    ·refine zR ?_
     exact ⟨(), trivial, by simp_all [Ch.hitBy]⟩
   ·refine zR ?_
    exact ⟨(), trivial, by simp_all [Ch.hitBy]⟩
  ·refine zR ?_
   exact ⟨n + 1, ⟨int_eq (by rw [w64_in zo zo]; rfl), trivial⟩, ⟨zo, by simp [Ch.anyN, hf, hk]⟩, zo⟩
 ·refine zR ?_
  intro w' hw'
  refine zG ?_
  have : n = 64 := by omega
  subst this
  exact ⟨ret_bool hf.symm, hEx hw'⟩
theorem Checked_c (p : Pos) (hp : Pc p) (s : Int) (w : World) (h2 : -1000 ≤ s) (h3 : s ≤ 1000) :
  Calls G.P 130 #[posV p, .int .i64 s] w (Ret (.bool (Ch.checked p s)) w) := by
 refine E.enter (G := G) Tryz.func130 rfl (by simp [Tryz.ntmps130]) zk ?_
 refine W_seq (W_vc ?_)
 refine zG ?_
 refine W_quiet (Cl _) (Cl.refl _) (fun _ => Cl.drew) zk ?_
 have hk := Ch.kingAt_range p s
 refine zR ?_
 refine loadQ _ (fun w hw => ldPos (hCl hw)) (zR ?_)
 refine callQ _ (fun _ _ h => h.trans) (fun w _ => KingAt_c p _ _ h2 h3) (zR ?_)
 apply E.dsplit<;>intro h
 ·refine zR ?_
  refine loadQ _ (fun w hw => ldPos (hCl hw)) (zR ?_)
  rw [w64_in (n := 1 - s) zo zo]
  refine callQ _ (fun _ _ h => h.trans) (fun w _ => Attacked_c p hp _ _ _ h zo) (zR ?_)
  intro w' hw'
  refine zG ?_
  exact ⟨ret_bool (by simp [Ch.checked, h]), hEx hw'⟩
 ·refine zR ?_
  intro w' hw'
  refine zG ?_
  exact ⟨ret_bool (by simp [Ch.checked, h]), hEx hw'⟩
theorem InCheck_c (p : Pos) (hp : Pc p) (w : World) (h2 : -1000 ≤ p.turn) (h3 : p.turn ≤ 1000) :
  Calls G.P 88 #[posV p] w (Ret (.bool (Ch.inCheck p)) w) := by
 refine E.enter (G := G) Tryz.func88 rfl (by simp [Tryz.ntmps88]) zk ?_
 refine W_seq (W_vc ?_)
 refine zG ?_
 refine W_quiet (Cl _) (Cl.refl _) (fun _ => Cl.drew) zk (zR ?_)
 refine loadQ _ (fun w hw => ldPos (hCl hw)) (zR ?_)
 refine loadQ _ (fun w hw => ldTurn (hCl hw)) (zR ?_)
 refine callQ _ (fun _ _ h => h.trans) (fun w _ => Checked_c p hp _ _ h2 h3) (zR ?_)
 intro w' hw'
 refine zG ?_
 exact ⟨rfl, hEx hw'⟩
theorem bit_all : (∀ c : Fin 16, ∀ n : Fin 4, decide (bitv .and .i64 (Int.fdiv (c.val : Int) (2 ^ (min (Int.toNat (n.val : Int)) IntKind.i64.bits))) 1 = 1) = Ch.bit (c.val : Int) n.val) := by decide +kernel
theorem bit_iff {c : Int} {n : Nat} (h0 : 0 ≤ c) (h1 : c ≤ 15) (hn : n < 4) : (bitv .and .i64 (Int.fdiv c (2 ^ (min (Int.toNat (n : Int)) IntKind.i64.bits))) 1 = 1) ↔ Ch.bit c n = true := by
 have := bit_all ⟨c.toNat, zo⟩ ⟨n, hn⟩
 simp only [Int.toNat_of_nonneg h0] at this
 rw [← this]; simp
theorem pow_all : ∀ n : Fin 4, IntKind.i64.wrap (1 * 2 ^ (min (Int.toNat (n.val : Int)) IntKind.i64.bits)) = (2 : Int) ^ n.val := by decide +kernel
theorem pow_le : ∀ n : Fin 4, (2 : Int) ^ n.val ≤ 8 ∧ 0 < (2 : Int) ^ n.val := by decide +kernel
theorem home_c (r : Int) (w : World) (h0 : 0 ≤ r) (h1 : r ≤ 3) : Calls G.P 126 #[.int .i64 r] w (RetS (.tuple #[.int .i64 (Ch.homeK r), .int .i64 (Ch.homeR r)]) w) := by
 refine zN Tryz.func126 ?_
 have hd : IntKind.i64.wrap (r.tdiv 2) = r / 2 := by rw [Int.tdiv_eq_ediv_of_nonneg h0, w64_in zo zo]
 have hm : r.tmod 2 = r % 2 := Int.tmod_eq_emod_of_nonneg h0
 have h7 : IntKind.i64.wrap (7 * (r / 2)) = 7 * (r / 2) := w64_in zo zo
 refine zR ?_
 rw [hm]
 apply E.dsplit<;>intro h
 all_goals
  refine zR ?_
  refine callS (At_c _ _ _ zo zo (by rw [hd, h7]; omega) (by rw [hd, h7]; omega)) (zR ?_)
  refine callS (At_c _ _ _ zo zo (by rw [hd, h7]; omega) (by rw [hd, h7]; omega)) (zR ?_)
  refine ⟨ret_tup2 (int_eq ?_) (int_eq ?_), rfl⟩
  ·rw [hd, h7]; simp [Ch.homeK]
  ·rw [hd, h7]; simp [Ch.homeR, h]
theorem homes (n : Nat) (h : n < 4) : (0 ≤ Ch.homeK n ∧ Ch.homeK n ≤ 63) ∧ (0 ≤ Ch.homeR n ∧ Ch.homeR n ≤ 63) := by
 have : n = 0 ∨ n = 1 ∨ n = 2 ∨ n = 3 := by omega
 rcases this with rfl | rfl | rfl | rfl <;> decide
theorem rights_le (p : Pos) (n : Nat) (h : n ≤ 4) : 0 ≤ Ch.rightsTo p n ∧ Ch.rightsTo p n ≤ 8 * n := by
 induction n with
 | zero => simp [Ch.rightsTo]
 | succ n ih =>
  have h1 := ih zo
  have h2 := pow_le ⟨n, zo⟩
  simp only [Ch.rightsTo] at h2 ⊢
  split <;> omega
theorem Rights_c (p : Pos) (w : World) (h0 : 0 ≤ p.castle) (h1 : p.castle ≤ 15) : Calls G.P 83 #[posV p] w (Ret (.int .i64 (Ch.rights p)) w) := by
 refine E.enter (G := G) Tryz.func83 rfl (by simp [Tryz.ntmps83]) zk ?_
 refine W_seq (W_vc ?_)
 refine zG ?_
 refine W_quiet (Cl _) (Cl.refl _) (fun _ => Cl.drew) zk ?_
 have hP := fun w' (h : Cl (w.alloc (.cells (posA p) 24)) w') => hCl h
 refine zR ?_
 refine loopC [3, 4, 5, 6] 7 (fun n : Nat => [(3, .int .i64 (Ch.rightsTo p n)), (4, .int .i64 n)]) (fun n => n ≤ 4) (fun n => 4 - n) zk 0 zo ⟨rfl, rfl, trivial⟩ ?_
 intro n j hn
 have hle := rights_le p n hn
 refine zR ?_
 apply E.dsplit<;>intro h
 ·have hn4 : n < 4 := by omega
  have hh := homes n hn4
  have hp2 := pow_le ⟨n, hn4⟩
  have hpw := pow_all ⟨n, hn4⟩
  simp only at hp2 hpw
  have hd : IntKind.i64.wrap (Int.tdiv (n : Int) 2) = (n : Int) / 2 := by rw [Int.tdiv_eq_ediv_of_nonneg zo, w64_in zo zo]
  have fin : ∀ b : Bool, (b = (Ch.bit p.castle n && decide (Ch.sq p (Ch.homeK n) = 1 + 6 * ((n : Int) / 2)) && decide (Ch.sq p (Ch.homeR n) = 3 + 6 * ((n : Int) / 2)))) → Ch.rightsTo p (n + 1) = Ch.rightsTo p n + (if b then (2 : Int) ^ n else 0) := fun b hb => by subst hb; simp only [Ch.rightsTo]
  refine zR ?_
  refine callQs _ (fun w _ => home_c _ _ zo zo) ?_
  generalize Ch.homeK (n : Int) = K at *
  generalize Ch.homeR (n : Int) = R at *
  refine zR ?_
  refine loadQ _ (fun w hw => ldCastle (hP _ hw)) (zR ?_)
  intro r1 hr1
  refine zR ?_
  intro r2 hr2
  have hbi := bit_iff h0 h1 hn4
  rw [← hr1, ← hr2] at hbi
  clear hr1 hr2
  refine zR ?_
  refine E.dsplit (fun hb => ?_) (fun hb => ?_)
  ·have hb' := hbi.1 hb
   refine zR ?_
   refine zC ?_
   refine zR ?_
   refine loadQ _ (fun w hw => ldSq' (hP _ hw) _ zo zo) (zR ?_)
   refine callQs _ (fun w _ => Of_c _ _ _ zo zo (by rw [hd]; omega) (by rw [hd]; omega)) (zR ?_)
   rw [hd]
   refine E.dsplit (fun hk => ?_) (fun hk => ?_)
   ·refine zR ?_
    refine zC ?_
    refine zR ?_
    refine loadQ _ (fun w hw => ldSq' (hP _ hw) _ zo zo) (zR ?_)
    refine callQs _ (fun w _ => Of_c _ _ _ zo zo (by rw [hd]; omega) (by rw [hd]; omega)) (zR ?_)
    rw [hd]
    refine E.dsplit (fun hr => ?_) (fun hr => ?_)
    ·refine zR ?_
     intro r3 hr3
     have hr4 : r3 = (2 : Int) ^ n := hr3.trans hpw
     clear hr3
     refine zR ?_
     refine ⟨n + 1, ⟨int_eq ?_, int_eq (by rw [w64_in zo zo]; rfl), trivial⟩, zo, zo⟩
     rw [fin true (by simp [hb', hk, hr]), hr4, w64_in zo zo]; simp
    ·refine zR ?_
     refine ⟨n + 1, ⟨int_eq ?_, int_eq (by rw [w64_in zo zo]; rfl), trivial⟩, zo, zo⟩
     rw [fin false (by simp [hr])]; simp
   ·refine zR ?_
    refine ⟨n + 1, ⟨int_eq ?_, int_eq (by rw [w64_in zo zo]; rfl), trivial⟩, zo, zo⟩
    rw [fin false (by simp [hk])]; simp
  ·have hb' : Ch.bit p.castle n = false := by
    cases hx : Ch.bit p.castle n with
    | false => rfl
    | true => exact absurd (hbi.2 hx) hb
   refine zR ?_
   refine ⟨n + 1, ⟨int_eq ?_, int_eq (by rw [w64_in zo zo]; rfl), trivial⟩, zo, zo⟩
   rw [fin false (by simp [hb'])]; simp
 ·refine zR ?_
  intro w' hw'
  refine zG ?_
  have : n = 4 := by omega
  subst this
  exact ⟨rfl, hEx hw'⟩
theorem left_bounds (c : Int) (m : Mv) (n : Nat) (h0 : 0 ≤ c) (h1 : c ≤ 15) (hn : n ≤ 4) : 0 ≤ Ch.leftTo c m n ∧ Ch.leftTo c m n ≤ 15 := by
 induction n with
 | zero => exact ⟨h0, h1⟩
 | succ n ih =>
  have h2 := ih zo
  have h3 := pow_le ⟨n, zo⟩
  simp only [Ch.leftTo] at h3 ⊢
  split
  ·rename_i hb
   simp only [Bool.and_eq_true] at hb
   have hb := hb.1
   have key : ∀ c : Fin 16, ∀ n : Fin 4, Ch.bit (c.val : Int) n.val = true → (2 : Int) ^ n.val ≤ c.val := by decide +kernel
   have := key ⟨(Ch.leftTo c m n).toNat, zo⟩ ⟨n, zo⟩ (by simp only [Int.toNat_of_nonneg h2.1]; exact hb)
   simp only [Int.toNat_of_nonneg h2.1] at this
   omega
  ·exact h2
theorem zA {A B : Prop} (h : B) (e : PLift B → A := by (intro h; (first | (refine E.ctrue (inB_iff.2 ⟨?_, ?_⟩) ?_; (· exact zO); (· exact zO); refine zR ?_) | (refine loadQ _ (fun w hw => ldTurn (hP _ hw)) ?_; refine zR ?_) | (refine loadQ _ (fun w hw => ldCastle (hP _ hw)) ?_; refine zR ?_) | (refine loadQ _ (fun w hw => ldEp (hP _ hw)) ?_; refine zR ?_) | (refine loadQ _ (fun w hw => ldHalf (hP _ hw)) ?_; refine zR ?_) | (refine loadQ _ (fun w hw => ldFull (hP _ hw)) ?_; refine zR ?_) | (refine loadQ _ (fun w hw => ldPos (hP _ hw)) ?_; refine zR ?_) | (refine loadQ _ (fun w hw => ldFr (hM _ hw)) ?_; refine zR ?_) | (refine loadQ _ (fun w hw => ldTo (hM _ hw)) ?_; refine zR ?_) | (refine loadQ _ (fun w hw => ldPromo (hM _ hw)) ?_; refine zR ?_) | (refine loadQ _ (fun w hw => ldMv (hM _ hw)) ?_; refine zR ?_) | (refine loadQ _ (fun w hw => ldSq' (hP _ hw) _ ?_ ?_) ?_; (· exact zO); (· exact zO); refine zR ?_) | (refine callQs _ (fun w _ => File_c _ _ ?_) ?_; (· exact zO); refine zR ?_) | (refine callQs _ (fun w _ => Rank_c _ _ ?_ ?_) ?_; (· exact zO); (· exact zO); refine zR ?_) | (refine callQs _ (fun w _ => KindOf_c _ _ ?_ ?_) ?_; (· exact zO); (· exact zO); refine zR ?_) | (refine callQs _ (fun w _ => SideOf_c _ _) ?_; refine zR ?_) | (refine callQs _ (fun w _ => Of_c _ _ _ ?_ ?_ ?_ ?_) ?_; (· exact zO); (· exact zO); (· exact zO); (· exact zO); refine zR ?_) | (refine callQs _ (fun w _ => At_c _ _ _ ?_ ?_ ?_ ?_) ?_; (· exact zO); (· exact zO); (· exact zO); (· exact zO); refine zR ?_) | (refine callQs _ (fun w _ => up_c _ _ ?_ ?_) ?_; (· exact zO); (· exact zO); refine zR ?_)); exact h.down)) : A := e ⟨h⟩
theorem left_c (c : Int) (m : Mv) (w : World) (h0 : 0 ≤ c) (h1 : c ≤ 15) : Calls G.P 92 #[.int .i64 c, mvV m] w (Ret (.int .i64 (Ch.left c m)) w) := by
 refine E.enter (G := G) Tryz.func92 rfl (by simp [Tryz.ntmps92]) zk ?_
 refine W_seq (W_vc ?_)
 refine zG ?_
 refine W_quiet (Cl _) (Cl.refl _) (fun _ => Cl.drew) zk ?_
 have hM : ∀ w', Cl (w.alloc (.cells (mvA m) 36)) w' → w'.heap[w.heap.size]? = some (.cells (mvA m) 36 (0, 0)) := fun w' h => h.blk (alloc_new _ _)
 refine zR ?_
 refine loopC [0, 5, 6, 7] 8 (fun n : Nat => [(0, .int .i64 (Ch.leftTo c m n)), (5, .int .i64 n)]) (fun n => n ≤ 4) (fun n => 4 - n) zk 0 zo ⟨rfl, rfl, trivial⟩ ?_
 intro n j hn
 have hle := left_bounds c m n h0 h1 hn
 refine zR ?_
 apply E.dsplit<;>intro h
 ·have hn4 : n < 4 := by omega
  have hp2 := pow_le ⟨n, hn4⟩
  have hpw := pow_all ⟨n, hn4⟩
  simp only at hp2 hpw
  have fin : ∀ b : Bool, (b = (Ch.bit (Ch.leftTo c m n) n && (decide (m.fr = Ch.homeK n) || decide (m.fr = Ch.homeR n) || decide (m.to = Ch.homeK n) || decide (m.to = Ch.homeR n)))) → Ch.leftTo c m (n + 1) = (if b then Ch.leftTo c m n - (2 : Int) ^ n else Ch.leftTo c m n) := fun b hb => by subst hb; simp only [Ch.leftTo]
  refine zR ?_
  refine callQs _ (fun w _ => home_c _ _ zo zo) (zR ?_)
  intro r1 hr1
  refine zR ?_
  intro r2 hr2
  have hbi := bit_iff hle.1 hle.2 hn4
  rw [← hr1, ← hr2] at hbi
  clear hr1 hr2
  (refine zR ?_); (repeat' (first | refine zA ?_ | (refine E.dsplit (fun _ => ?_) (fun _ => ?_) <;> (refine zR ?_)) | (refine E.ndsplit (fun _ => ?_) (fun _ => ?_) <;> (refine zR ?_)) | (fail) | (refine E.csplit (fun _ => ?_) (fun _ => ?_) <;> (refine zR ?_))))
  all_goals first
   | (intro r3 hr3
      have hr4 : r3 = (2 : Int) ^ n := hr3.trans hpw
      clear hr3
      refine zR ?_
      have hx : Ch.bit (Ch.leftTo c m n) n = true := hbi.1 ‹_›
      have hlow := left_bounds c m (n + 1) h0 h1 zo
      rw [fin true (by simp [hx, *])] at hlow
      simp only [if_true] at hlow
      refine ⟨n + 1, ⟨int_eq ?_, int_eq (by rw [w64_in zo zo]; rfl), trivial⟩, zo, zo⟩
      rw [fin true (by simp [hx, *]), hr4, w64_in zo zo]; simp)
   | (refine ⟨n + 1, ⟨int_eq ?_, int_eq (by rw [w64_in zo zo]; rfl), trivial⟩, zo, zo⟩
      rw [fin false (by simp [*]; try (intro hb; exact absurd (hbi.2 hb) ‹_›))]; simp)
 ·refine zR ?_
  intro w' hw'
  refine zG ?_
  have : n = 4 := by omega
  subst this
  exact ⟨rfl, hEx hw'⟩
theorem hP2 {p : Pos} {m : Mv} {w w' : World} (h : Cl ((w.alloc (.cells (posA p) 24)).alloc (.cells (mvA m) 36)) w') : w'.heap[w.heap.size]? = some (.cells (posA p) 24 (0, 0)) :=
 h.blk ((Cl.alloc _ _).blk (alloc_new _ _))
theorem hM2 {p : Pos} {m : Mv} {w w' : World} (h : Cl ((w.alloc (.cells (posA p) 24)).alloc (.cells (mvA m) 36)) w') : w'.heap[(w.alloc (.cells (posA p) 24)).heap.size]? = some (.cells (mvA m) 36 (0, 0)) :=
 h.blk (alloc_new _ _)
theorem hE2 {w w' : World} {o o' : Obj} (h : Cl ((w.alloc o).alloc o') w') : Cl w w' := ((Cl.alloc w _).trans (Cl.alloc _ _)).trans h
def MvOk (m : Mv) : Prop := (0 ≤ m.fr ∧ m.fr ≤ 63) ∧ (0 ≤ m.to ∧ m.to ≤ 63) ∧ (0 ≤ m.promo ∧ m.promo ≤ 6)
theorem Takes_c (p : Pos) (m : Mv) (hp : Pc p) (hm : MvOk m) (w : World) : Calls G.P 91 #[posV p, mvV m] w (Ret (.tuple #[.int .i64 (Ch.takenAt p m), .bool (Ch.takes p m)]) w) := by
 obtain ⟨⟨f0, f1⟩, ⟨t0, t1⟩, _, _⟩ := hm
 refine E.enter (G := G) Tryz.func91 rfl (by simp [Tryz.ntmps91]) zk ?_
 refine W_seq (W_vc ?_)
 refine zG ?_
 refine W_quiet (Cl _) (Cl.refl _) (fun _ => Cl.drew) zk ?_
 have hP := fun w' (h : Cl ((w.alloc (.cells (posA p) 24)).alloc (.cells (mvA m) 36)) w') => hP2 h
 have hM := fun w' (h : Cl ((w.alloc (.cells (posA p) 24)).alloc (.cells (mvA m) 36)) w') => hM2 h
 (refine zR ?_); (repeat' (first | refine zA ?_ | (refine E.dsplit (fun _ => ?_) (fun _ => ?_) <;> (refine zR ?_)) | (refine E.ndsplit (fun _ => ?_) (fun _ => ?_) <;> (refine zR ?_)) | (fail) | (refine E.csplit (fun _ => ?_) (fun _ => ?_) <;> (refine zR ?_))))
 all_goals
  intro w' hw'
  refine zG ?_
  exact ⟨ret_tup2 (int_eq (by simp [Ch.takenAt, Ch.takes, *])) (bool_eq (by simp [Ch.takes, *])), hE2 hw'⟩
theorem at_in {f r : Int} (h0 : 0 ≤ f) (h1 : f ≤ 7) (h2 : 0 ≤ r) (h3 : r ≤ 7) : Ch.at' f r = 8 * r + f := by unfold Ch.at'; rw [if_neg zo]
theorem Passed_c (p : Pos) (w : World) (ht : p.turn = 0 ∨ p.turn = 1) : Calls G.P 84 #[posV p] w (Ret (.bool (Ch.passed p)) w) := by
 refine E.enter (G := G) Tryz.func84 rfl (by simp [Tryz.ntmps84]) zk ?_
 refine W_seq (W_vc ?_)
 refine zG ?_
 refine W_quiet (Cl _) (Cl.refl _) (fun _ => Cl.drew) zk ?_
 have hP := fun w' (h : Cl (w.alloc (.cells (posA p) 24)) w') => hCl h
 have hend : ∀ b w', Ch.passed p = b → Cl (w.alloc (.cells (posA p) 24)) w' → Ret (.bool (Ch.passed p)) w (.returned (.bool b)) w' := fun b w' h h' => ⟨by rw [h], hEx h'⟩
 refine zR ?_
 refine loadQ _ (fun w hw => ldEp (hP _ hw)) (zR ?_)
 apply E.dsplit<;>intro h
 ·(refine zR ?_); (repeat' (first | refine zA ?_ | (refine E.dsplit (fun _ => ?_) (fun _ => ?_) <;> (refine zR ?_)) | (refine E.ndsplit (fun _ => ?_) (fun _ => ?_) <;> (refine zR ?_)) | (fail) | (refine E.csplit (fun _ => ?_) (fun _ => ?_) <;> (refine zR ?_))))
  all_goals (intro w' hw'; refine zG ?_; exact hend _ _ (by simp [Ch.passed, *]) hw')
 have h1 := h; clear h
 refine zR ?_
 refine loadQ _ (fun w hw => ldEp (hP _ hw)) (zR ?_)
 apply E.dsplit<;>intro h
 ·(refine zR ?_); (repeat' (first | refine zA ?_ | (refine E.dsplit (fun _ => ?_) (fun _ => ?_) <;> (refine zR ?_)) | (refine E.ndsplit (fun _ => ?_) (fun _ => ?_) <;> (refine zR ?_)) | (fail) | (refine E.csplit (fun _ => ?_) (fun _ => ?_) <;> (refine zR ?_))))
  all_goals (intro w' hw'; refine zG ?_; exact hend _ _ (by simp [Ch.passed, *]) hw')
 have hr : 0 ≤ Ch.rank p.ep ∧ Ch.rank p.ep ≤ 7 := by unfold Ch.rank; omega
 have hf : 0 ≤ Ch.file p.ep ∧ Ch.file p.ep ≤ 7 := by unfold Ch.file; omega
 have hd : Ch.passed p = if Ch.rank p.ep ≠ 5 - 3 * p.turn ∨ Ch.sq p p.ep ≠ 0 then false else
  decide (Ch.sq p (Ch.at' (Ch.file p.ep) (Ch.rank p.ep - (1 - 2 * p.turn))) = 6 + 6 * (1 - p.turn)) && decide (Ch.sq p (Ch.at' (Ch.file p.ep) (Ch.rank p.ep + (1 - 2 * p.turn))) = 0) := by
  unfold Ch.passed; rw [if_neg zo]
 have hp3 : IntKind.i64.wrap (3 * p.turn) = 3 * p.turn := w64_in zo zo
 have h53 : IntKind.i64.wrap (5 - 3 * p.turn) = 5 - 3 * p.turn := w64_in zo zo
 have h2t : IntKind.i64.wrap (2 * p.turn) = 2 * p.turn := w64_in zo zo
 have h12 : IntKind.i64.wrap (1 - 2 * p.turn) = 1 - 2 * p.turn := w64_in zo zo
 have h1t : IntKind.i64.wrap (1 - p.turn) = 1 - p.turn := w64_in zo zo
 have hm : IntKind.i64.wrap (Ch.rank p.ep - (1 - 2 * p.turn)) = Ch.rank p.ep - (1 - 2 * p.turn) := w64_in zo zo
 have ha : IntKind.i64.wrap (Ch.rank p.ep + (1 - 2 * p.turn)) = Ch.rank p.ep + (1 - 2 * p.turn) := w64_in zo zo
 have h2 := h; clear h
 have hl : 0 ≤ p.ep := by omega
 refine zR ?_
 refine loadQ _ (fun w hw => ldTurn (hP _ hw)) (zR ?_)
 refine loadQ _ (fun w hw => ldEp (hP _ hw)) (zR ?_)
 refine callQs _ (fun w _ => File_c _ _ hl) (zR ?_)
 refine loadQ _ (fun w hw => ldEp (hP _ hw)) (zR ?_)
 refine callQs _ (fun w _ => Rank_c _ _ hl zo) ?_
 rw [h2t, h12]
 refine zR ?_
 refine loadQ _ (fun w hw => ldTurn (hP _ hw)) (zR ?_)
 rw [hp3, h53]
 refine E.ndsplit (fun hx => ?_) (fun hx => ?_)
 ·(refine zR ?_); (repeat' (first | refine zA ?_ | (refine E.dsplit (fun _ => ?_) (fun _ => ?_) <;> (refine zR ?_)) | (refine E.ndsplit (fun _ => ?_) (fun _ => ?_) <;> (refine zR ?_)) | (fail) | (refine E.csplit (fun _ => ?_) (fun _ => ?_) <;> (refine zR ?_))))
  all_goals (intro w' hw'; refine zG ?_; exact hend _ _ (by rw [hd]; simp [*]) hw')
 refine zR ?_
 refine loadQ _ (fun w hw => ldEp (hP _ hw)) (zR ?_)
 refine zC ?_
 refine zR ?_
 refine loadQ _ (fun w hw => ldSq' (hP _ hw) _ zo zo) (zR ?_)
 refine E.ndsplit (fun hy => ?_) (fun hy => ?_)
 ·(refine zR ?_); (repeat' (first | refine zA ?_ | (refine E.dsplit (fun _ => ?_) (fun _ => ?_) <;> (refine zR ?_)) | (refine E.ndsplit (fun _ => ?_) (fun _ => ?_) <;> (refine zR ?_)) | (fail) | (refine E.csplit (fun _ => ?_) (fun _ => ?_) <;> (refine zR ?_))))
  all_goals (intro w' hw'; refine zG ?_; exact hend _ _ (by rw [hd]; simp [*]) hw')
 have a1 : Ch.at' (Ch.file p.ep) (Ch.rank p.ep - (1 - 2 * p.turn)) = 8 * (Ch.rank p.ep - (1 - 2 * p.turn)) + Ch.file p.ep := at_in hf.1 hf.2 zo zo
 have a2 : Ch.at' (Ch.file p.ep) (Ch.rank p.ep + (1 - 2 * p.turn)) = 8 * (Ch.rank p.ep + (1 - 2 * p.turn)) + Ch.file p.ep := at_in hf.1 hf.2 zo zo
 rw [if_neg zo] at hd
 refine zR ?_
 rw [hm]
 refine callQs _ (fun w _ => At_c _ _ _ zo zo zo zo) (zR ?_)
 refine zC ?_
 refine zR ?_
 refine loadQ _ (fun w hw => ldSq' (hP _ hw) _ zo zo) (zR ?_)
 refine loadQ _ (fun w hw => ldTurn (hP _ hw)) (zR ?_)
 rw [h1t]
 refine callQs _ (fun w _ => Of_c _ _ _ zo zo zo zo) (zR ?_)
 refine E.dsplit (fun hz => ?_) (fun hz => ?_)
 ·refine zR ?_
  rw [ha]
  refine callQs _ (fun w _ => At_c _ _ _ zo zo zo zo) (zR ?_)
  refine zC ?_
  refine zR ?_
  refine loadQ _ (fun w hw => ldSq' (hP _ hw) _ zo zo) (zR ?_)
  intro w' hw'
  refine zG ?_
  exact hend _ _ (by rw [hd]; simp [hz]) hw'
 ·refine zR ?_
  intro w' hw'
  refine zG ?_
  exact hend _ _ (by rw [hd]; simp [hz]) hw'
theorem pc_of {p : Pos} (h : Ch.anyN (fun i => !Ch.pieceOk p i) 64 = false) : Pc p := by
 intro i
 by_cases hi : i.toNat < 64
 ·have h1 : ¬ (∃ j, j < 64 ∧ (!Ch.pieceOk p j) = true) := fun hx => by rw [(Ch.anyN_iff _ _).2 hx] at h; cases h
  have h2 : Ch.pieceOk p i.toNat = true := by
   cases hb : Ch.pieceOk p i.toNat with
   | true => rfl
   | false => exact absurd ⟨i.toNat, hi, by simp [hb]⟩ h1
  have e : Ch.sq p ((i.toNat : Nat) : Int) = Ch.sq p i := by unfold Ch.sq; rw [Int.toNat_natCast]
  rw [← e]
  unfold Ch.pieceOk at h2
  generalize Ch.sq p ((i.toNat : Nat) : Int) = x at *
  simp at h2
  omega
 ·unfold Ch.sq
  rw [List.getD_eq_getElem?_getD, List.getElem?_eq_none (by rw [p.len]; omega)]
  decide
theorem cnt_none {f : Nat → Bool} : ∀ n, Ch.firstN f n = none → Ch.cntN f n = 0
 | 0, _ => rfl
 | n + 1, h => by
  unfold Ch.firstN at h
  split at h
  ·cases h
  ·rename_i h1
   split at h
   ·cases h
   ·rename_i h2; simp [Ch.cntN, cnt_none n h1, h2]
theorem king_there {p : Pos} {s : Int} (h : Ch.count p 1 s = 1) : 0 ≤ Ch.kingAt p s := by
 unfold Ch.kingAt
 split
 ·omega
 ·rename_i h1
  have := cnt_none _ h1
  unfold Ch.count at h
  omega
theorem Valid_c (p : Pos) (w : World) : Calls G.P 36 #[posV p] w (Ret (.bool (Ch.valid p)) w) := by
 refine E.enter (G := G) Tryz.func36 rfl (by simp [Tryz.ntmps36]) zk ?_
 refine W_seq (W_vc ?_)
 refine zG ?_
 refine W_quiet (Cl _) (Cl.refl _) (fun _ => Cl.drew) zk ?_
 have hP := fun w' (h : Cl (w.alloc (.cells (posA p) 24)) w') => hCl h
 have hend : ∀ b w', Ch.valid p = b → Cl (w.alloc (.cells (posA p) 24)) w' → Ret (.bool (Ch.valid p)) w (.returned (.bool b)) w' := fun b w' h h' => ⟨by rw [h], hEx h'⟩
 refine zR ?_
 refine loopC [2, 3, 4] 5 (fun n : Nat => [(3, .int .i64 n)]) (fun n => n ≤ 64 ∧ Ch.anyN (fun i => !Ch.pieceOk p i) n = false) (fun n => 64 - n) zk 0 ⟨zo, rfl⟩ ⟨rfl, trivial⟩ ?_
 intro n j ⟨hn, hf⟩
 refine zR ?_
 apply E.dsplit<;>intro h
 ·have hi : n < 64 := by omega
  have hbad : Ch.pieceOk p n = false → Ch.valid p = false := fun h => by
   have : Ch.anyN (fun i => !Ch.pieceOk p i) 64 = true := Ch.anyN_of hi (by simp [h])
   simp [Ch.valid, this]
  have hgood : Ch.pieceOk p n = true → Ch.anyN (fun i => !Ch.pieceOk p i) (n + 1) = false := fun h => by simp [Ch.anyN, hf, h]
  refine zR ?_
  refine zC ?_
  refine zR ?_
  refine loadQ _ (fun w hw => ldSq' (hP _ hw) (n : Int) zo zo) ?_
  (refine zR ?_); (repeat' (first | refine zA ?_ | (refine E.dsplit (fun _ => ?_) (fun _ => ?_) <;> (refine zR ?_)) | (refine E.ndsplit (fun _ => ?_) (fun _ => ?_) <;> (refine zR ?_)) | (fail) | (refine E.csplit (fun _ => ?_) (fun _ => ?_) <;> (refine zR ?_))))
  all_goals first
   | (intro w' hw'; refine zG ?_; exact hend _ _ (hbad (by simp [Ch.pieceOk, *])) hw')
   | exact ⟨n + 1, ⟨int_eq (by rw [w64_in zo zo]; rfl), trivial⟩, ⟨zo, hgood (by simp [Ch.pieceOk, *])⟩, zo⟩
   | (refine ⟨n + 1, ⟨int_eq (by rw [w64_in zo zo]; rfl), trivial⟩, ⟨zo, hgood (by simp_all [Ch.pieceOk]; try omega)⟩, zo⟩)
 ·have : n = 64 := by omega
  subst this
  have hp := pc_of hf
  have hv : Ch.valid p = (!((!decide (p.turn = 0) && !decide (p.turn = 1)) || decide (p.castle < 0) || decide (15 < p.castle) || decide (p.half < 0) || decide (p.full < 1)) &&
   !(!decide (Ch.count p 1 0 = 1) || !decide (Ch.count p 1 1 = 1) || !decide (Ch.rights p = p.castle) || !Ch.passed p) && !Ch.attacked p (Ch.kingAt p (1 - p.turn)) p.turn) := by
   unfold Ch.valid; rw [hf]; simp
  refine zG ?_
  refine joinC (σ := Unit) [2] 5 (fun _ => []) (fun _ => (p.turn = 0 ∨ p.turn = 1) ∧ 0 ≤ p.castle ∧ p.castle ≤ 15 ∧ 0 ≤ p.half ∧ 1 ≤ p.full) zk ?_ (fun _ j hk => ?_)
  ·(refine zR ?_); (repeat' (first | refine zA ?_ | (refine E.dsplit (fun _ => ?_) (fun _ => ?_) <;> (refine zR ?_)) | (refine E.ndsplit (fun _ => ?_) (fun _ => ?_) <;> (refine zR ?_)) | (fail) | (refine E.csplit (fun _ => ?_) (fun _ => ?_) <;> (refine zR ?_))))
   all_goals first
    | (intro w' hw'; refine zG ?_; exact hend _ _ (by rw [hv]; simp [*]) hw')
    | exact ⟨(), trivial, zo, zo, zo, zo, zo⟩
  obtain ⟨k1, k2, k3, k4, k5⟩ := hk
  refine joinC (σ := Unit) [2] 5 (fun _ => []) (fun _ => Ch.count p 1 0 = 1 ∧ Ch.count p 1 1 = 1 ∧ Ch.rights p = p.castle ∧ Ch.passed p = true) zk ?_ (fun _ j hk => ?_)
  ·(refine zR ?_); (repeat' (first | refine zA ?_ | (refine E.dsplit (fun _ => ?_) (fun _ => ?_) <;> (refine zR ?_)) | (refine E.ndsplit (fun _ => ?_) (fun _ => ?_) <;> (refine zR ?_)) | (refine callQ _ (fun _ _ h => h.trans) (fun w _ => Count_c _ _ _ _ ?_ ?_ ?_ ?_) ?_; (· exact zO); (· exact zO); (· exact zO); (· exact zO); refine zR ?_) | (refine callQ _ (fun _ _ h => h.trans) (fun w _ => Rights_c _ _ ?_ ?_) ?_; (· exact zO); (· exact zO); refine zR ?_) | (refine callQ _ (fun _ _ h => h.trans) (fun w _ => Passed_c _ _ ?_) ?_; (· exact zO); refine zR ?_) | (refine E.csplit (fun _ => ?_) (fun _ => ?_) <;> (refine zR ?_))))
   all_goals first
    | (intro w' hw'; refine zG ?_; exact hend _ _ (by rw [hv]; simp_all; try omega) hw')
    | exact ⟨(), trivial, zo, zo, zo, by simp_all⟩
  obtain ⟨c0, c1, c2, c3⟩ := hk
  have h1t : IntKind.i64.wrap (1 - p.turn) = 1 - p.turn := w64_in zo zo
  have hkr := Ch.kingAt_range p (1 - p.turn)
  have hkt : 0 ≤ Ch.kingAt p (1 - p.turn) := king_there (by rcases k1 with h | h <;> rw [h] <;> assumption)
  refine zR ?_
  refine loadQ _ (fun w hw => ldPos (hP _ hw)) (zR ?_)
  refine loadQ _ (fun w hw => ldPos (hP _ hw)) (zR ?_)
  refine loadQ _ (fun w hw => ldTurn (hP _ hw)) (zR ?_)
  rw [h1t]
  refine callQ _ (fun _ _ h => h.trans) (fun w _ => KingAt_c p _ _ zo zo) (zR ?_)
  refine loadQ _ (fun w hw => ldTurn (hP _ hw)) (zR ?_)
  refine callQ _ (fun _ _ h => h.trans) (fun w _ => Attacked_c p hp _ _ _ hkt zo) (zR ?_)
  intro w' hw'
  refine zG ?_
  exact hend _ _ (by
   have e1 : decide (p.castle < 0) = false := decide_eq_false zo
   have e2 : decide (15 < p.castle) = false := decide_eq_false zo
   have e3 : decide (p.half < 0) = false := decide_eq_false zo
   have e4 : decide (p.full < 1) = false := decide_eq_false zo
   rw [hv, e1, e2, e3, e4]
   rcases k1 with h | h <;> simp [h, c0, c1, c2, c3]) hw'
end
end Go.Proofs.YtpclhlhcegcflaaGreatDoor
