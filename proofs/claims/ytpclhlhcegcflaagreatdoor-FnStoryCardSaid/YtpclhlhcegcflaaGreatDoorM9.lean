/- One part of the proof: Sp13 Law5 Sp14 Mac Mac2. -/
import Derived.DeepKeys
import Derived.Laws.StructEq
import Derived.Test.YtpclhlhcegcflaaGreatDoorM1
import Derived.Test.YtpclhlhcegcflaaGreatDoorM3
import Derived.Test.YtpclhlhcegcflaaGreatDoorM8
namespace Go.Proofs.YtpclhlhcegcflaaGreatDoor
set_option maxRecDepth 100000
set_option linter.unusedSimpArgs false
set_option linter.unusedVariables false
section
open Go Go.RowKit
open E
def Nums (p : Pos) : Prop := p.half < 4611686018427387904 ∧ p.full < 4611686018427387904
theorem pseudo_ok {p : Pos} (hI : Ch.Inv p) {m : Mv} (h : m ∈ Ch.pseudo p) : MvOk m := by
 rcases (Ch.pseudo_cases hI m).1 h with h | ⟨r, hr⟩
 ·refine ⟨⟨h.f0, h.f1⟩, ⟨h.t0, h.t1⟩, ?_⟩
  rcases h.promo with ⟨e, _⟩ | ⟨e1, e2, _⟩ <;> omega
 ·obtain ⟨r4, _, _, hc⟩ := Ch.castle_of hI hr
  obtain ⟨⟨k0, k1, _⟩, _⟩ := Ch.home_rank r r4
  have hk := hc.k; have ht := hI.turn
  have hw : (if Ch.homeR r < Ch.homeK r then (-1 : Int) else 1) = 1 ∨ (if Ch.homeR r < Ch.homeK r then (-1 : Int) else 1) = -1 := by split <;> simp
  rw [hc.mv]
  generalize (if Ch.homeR r < Ch.homeK r then (-1 : Int) else 1) = w at hw
  exact ⟨⟨k0, k1⟩, ⟨by simp only; omega, by simp only; omega⟩, by simp only; omega, by simp only; omega⟩
theorem pseudo_len (p : Pos) : (Ch.pseudo p).length ≤ 14338 := by
 unfold Ch.pseudo
 have h1 := movesUpto_len p 64
 have hcas : (Ch.castles p).length ≤ 2 := by
  unfold Ch.castles Ch.castleOne; rw [List.length_append]; split <;> split <;> simp
 rw [List.length_append]; omega
theorem made_pcs {p : Pos} (hI : Ch.Inv p) {m : Mv} (h : m ∈ Ch.pseudo p) : Pc (Ch.made p m) := by
 rcases (Ch.pseudo_cases hI m).1 h with h | ⟨r, hr⟩
 ·exact Ch.made_pc hI h
 ·obtain ⟨_, _, _, hc⟩ := Ch.castle_of hI hr
  exact Ch.castle_pc hI hc
theorem Legal_c (p : Pos) (hI : Ch.Inv p) (hN : Nums p) (w : World) :
  Calls G.P 68 #[posV p] w (fun r w' => ∃ v l', r = .returned v ∧ l'.Perm (Ch.legal p) ∧ Row 36 3 encMv w.heap.size w' v l' ∧ Cl w w') := by
 have ht := hI.turn
 have hp : Pc p := hI.pc
 obtain ⟨n1, n2⟩ := hN
 refine zN Tryz.func68 ?_
 refine zG ?_
 refine zR ?_
 generalize hW : w.alloc (.cells (posA p) 24) = W0
 have hP : ∀ w', Cl W0 w' → w'.heap[w.heap.size]? = some (.cells (posA p) 24 (0, 0)) := fun w' h => (hW ▸ h : Cl (w.alloc (.cells (posA p) 24)) w').blk (alloc_new _ _)
 have hE : ∀ w', Cl W0 w' → Cl w w' := fun w' h => (Cl.alloc _ _).trans (hW ▸ h)
 have q1 : IntKind.i64.wrap (1 - p.turn) = 1 - p.turn := w64_in zo zo
 refine zR ?_
 refine loadK _ (ldPos (hP _ (Cl.refl _))) (zR ?_)
 refine callK (Pseudo_c p hI _) ?_
 rintro r w1 ⟨v, l, rfl, hlp, hl, c1⟩
 refine ⟨_, rfl, ?_⟩
 obtain ⟨al, cl, rfl, hal⟩ := hl.form
 have hll : l.length ≤ 14338 := by rw [hlp.length_eq]; exact pseudo_len p
 refine zR ?_
 refine loadK _ (ldPos (hP _ c1)) (zR ?_)
 refine loadK _ (ldTurn (hP _ c1)) (zR ?_)
 refine callR (KingAt_c p p.turn _ zo zo) fun w2 c2 => ?_
 have hl2 := hl.step c2
 have hcl2 := c1.trans c2
 have hK := hI.king p.turn ht
 generalize hKK : Ch.kingAt p p.turn = K at *
 have hK0 := hK.1
 have hK1 := hK.2.1
 refine zR ?_
 refine loopK (σ := Nat × Value) [3, 6, 7] 8 (fun a => [(3, a.2), (6, .int .i64 a.1)]) (fun a w' => a.1 ≤ l.length ∧ Row 36 3 encMv w2.heap.size w' a.2 ((l.take a.1).filter (Ch.safe p)) ∧ Cl w2 w') (fun a => l.length - a.1) zk (0, .slice none 0 0)
  ⟨zo, Row.nil _ _, Cl.refl _⟩ ⟨rfl, rfl, trivial⟩ ?_
 rintro ⟨i, v⟩ j w3 ⟨hi, hrow, hcl⟩
 simp only at hi hrow
 obtain ⟨a3, c3, rfl, _⟩ := hrow.form
 have hlen : ((l.take i).filter (Ch.safe p)).length ≤ 14338 := by
  have := List.length_filter_le (Ch.safe p) (l.take i)
  rw [List.length_take] at this; omega
 refine zR ?_
 apply E.dsplit<;>intro h
 ·have hil : i < l.length := by simp only at h; omega
  clear h
  obtain ⟨g, rfl⟩ := hal zo
  have hst := take_filter (Ch.safe p) l i hil
  generalize hx : l[i] = m at hst
  have hmp : m ∈ Ch.pseudo p := hlp.subset (hx ▸ List.getElem_mem hil)
  have hok := pseudo_ok hI hmp
  have hok' := hok
  obtain ⟨⟨a0, a1⟩, ⟨b0, b1⟩, ⟨d0, d1⟩⟩ := hok'
  have ni : IntKind.i64.wrap ((i : Int) + 1) = ((i + 1 : Nat) : Int) := by rw [w64_in zo zo]; push_cast; omega
  have hl3 : ∀ w', Cl w3 w' → Row 36 3 encMv W0.heap.size w' (.slice (some ⟨g, 0, none⟩) l.length cl) l := fun w' h => hl2.step (hcl.trans h)
  have hP3 : ∀ w', Cl w3 w' → w'.heap[w.heap.size]? = some (.cells (posA p) 24 (0, 0)) := fun w' h => hP w' (hcl2.trans (hcl.trans h))
  generalize hat : (if m.fr = K then m.to else K) = at_
  have hat0 : 0 ≤ at_ ∧ at_ ≤ 63 := by rw [← hat]; split <;> omega
  refine zG ?_
  refine Nx.mk (zG ?_)
  refine joinK (σ := Unit) [7] 8 (fun _ => [(7, .int .i64 at_)]) (fun _ w' => w' = w3) zk ?_ (fun _ j w4 e4 => ?_)
  ·refine zR ?_
   refine zC ?_
   refine zR ?_
   refine loadK (.int .i64 m.fr) (ldRow (hl3 _ (Cl.refl _)) encMv_len i 0 hil zd (by rw [hx]; rfl) ?_ rfl) ?_
   ·simp [E.offZ_eq]
   refine zR ?_
   apply E.dsplit<;>intro h
   ·rw [if_pos h] at hat
    refine zR ?_
    refine zC ?_
    refine zR ?_
    refine loadK (.int .i64 m.to) (ldRow (hl3 _ (Cl.refl _)) encMv_len i 1 hil zd (by rw [hx]; rfl) ?_ rfl) ?_
    ·simp [E.offZ_eq]; rfl
    refine zR ?_
    exact ⟨(), ⟨int_eq hat, trivial⟩, rfl⟩
   ·rw [if_neg h] at hat
    refine zR ?_
    exact ⟨(), ⟨int_eq hat, trivial⟩, rfl⟩
  subst e4
  have hsafe : Ch.safe p m = (decide (at_ < 0) || !Ch.attacked (Ch.made p m) at_ (1 - p.turn)) := by
   unfold Ch.safe; rw [hKK, hat]
  have hmp' := made_pcs hI hmp
  refine Nx.mk ?_
  refine (joinK (σ := Unit) [33, 34, 35, 36, 37, 38, 39, 40, 41, 42, 43, 44, 45, 46, 47, 48] 49 (fun _ => [(48, .bool (Ch.safe p m))]) (fun _ w' => Cl w4 w') zk ?_ (fun _ j w5 c5 => ?_)).go
  ·refine zR ?_
   refine zK 16 ?_
   refine zR ?_
   apply E.dsplit<;>intro h
   ·omega
   refine zR ?_
   refine loadQ _ (fun w hw => ldPos (hP3 _ hw)) (zR ?_)
   refine zC ?_
   refine zR ?_
   refine loadQ (mvV m) (fun w hw => ldRowA (hl3 _ hw) encMv_len i hil rfl ?_ (by rw [hx]; rfl)) ?_
   ·simp [E.offZ_eq]
   refine zR ?_
   refine callQ _ (fun _ _ h => h.trans) (fun w _ => Made_c p m hp hok ht hI.c0 hI.c1 hI.h0 n1 (by have := hI.f1; omega) n2 w) (zR ?_)
   refine loadQ _ (fun w hw => ldTurn (hP3 _ hw)) (zR ?_)
   simp only [q1]
   refine callQ _ (fun _ _ h => h.trans) (fun w _ => Attacked_c (Ch.made p m) hmp' at_ (1 - p.turn) w hat0.1 hat0.2) (zR ?_)
   intro w5 c5
   exact ⟨(), ⟨congrArg Value.bool (by rw [hsafe, decide_eq_false zo]; rfl), trivial⟩, c5⟩
  have hrow5 := hrow.step c5
  have hcl5 := hcl.trans c5
  cases hsf : Ch.safe p m
  ·rw [hsf] at hst
   simp only [Bool.false_eq_true, if_false, List.append_nil] at hst
   refine zR ?_
   exact ⟨(i + 1, _), ⟨rfl, int_eq ni, trivial⟩, ⟨by simp only; omega, by simp only [hst]; exact hrow5, hcl5⟩, by simp only; omega⟩
  ·rw [hsf] at hst
   simp only [if_true] at hst
   refine zR ?_
   refine zC ?_
   refine zR ?_
   refine loadK (mvV m) (ldRowA (hl3 _ c5) encMv_len i hil rfl ?_ (by rw [hx]; rfl)) ?_
   ·simp [E.offZ_eq]
   refine zR ?_
   refine gen_bs elMv [mvV m] (by rw [Array.toList_map]; rfl) (by simp [mvV, mvA, Value.cells]) rfl zd zd (zR ?_)
   refine gen_push (enc := encMv) elMv m rfl hrow5 rfl rfl rfl encMv_len encMv_one zo zd hcl5.size (fun v' w7 hr hc => ?_)
   obtain ⟨a7, cc7, rfl, _⟩ := hr.form
   refine zR ?_
   exact ⟨(i + 1, _), ⟨rfl, int_eq ni, trivial⟩, ⟨by simp only; omega, by simp only [hst]; exact hr, hc.cl w2 rfl hcl5⟩, by simp only; omega⟩
 ·have hil : i = l.length := by simp only at h; omega
  subst hil
  refine zR ?_
  refine ⟨_, l.filter (Ch.safe p), rfl, hlp.filter _, ?_, hE _ (hcl2.trans hcl)⟩
  simp only [List.take_length] at hrow ⊢
  exact hrow.mono (by have := (hE _ hcl2).size; omega)
def flatFs (f : TypeId → Option (List (Option IntKind))) (P : Program) : List Field → Nat → Option (List (Option IntKind))
 | [], _ => some []
 | x :: r, o => match f x.type, flatFs f P r (o + P.cellsOf x.type) with
  | some l, some m => if x.offset = o ∧ l.length = P.cellsOf x.type then some (l ++ m) else none
  | _, _ => none
def flatTy (P : Program) : Nat → TypeId → Option (List (Option IntKind))
 | 0, _ => none
 | d + 1, t => match P.underlying t with
  | some (.int q) => some [some q]
  | some .string => some [none]
  | some (.array n e) => match flatTy P d e with
   | some l => if l.length = P.cellsOf e ∧ n * l.length = P.cellsOf t then some (List.replicate n l).flatten else none
   | none => none
  | some (.struct fs) => match flatFs (flatTy P d) P fs.toList 0 with
   | some l => if l.length = P.cellsOf t ∧ fs.all (·.name != "_") = true then some l else none
   | none => none
  | _ => none
def toLit : Value → Lit
 | .int q n => .int q n
 | .string s => .string s.data.toList
 | _ => .bool false
def okV : Option IntKind → Value → Bool
 | some q, .int q' n => decide (q' = q) && (Lit.int q n).wf
 | none, .string s => decide (s.size ≤ maxLen)
 | _, _ => false
def okL : List (Option IntKind) → List Value → Bool
 | [], [] => true
 | k :: ks, c :: cs => okV k c && okL ks cs
 | _, _ => false
theorem okL_len : ∀ {ks : List (Option IntKind)} {cs : List Value}, okL ks cs = true → cs.length = ks.length := by
 intro ks
 induction ks with
 | nil => intro cs h; cases cs with
  | nil => rfl
  | cons => simp [okL] at h
 | cons k ks ih => intro cs h; cases cs with
  | nil => simp [okL] at h
  | cons c cs => simp only [okL, Bool.and_eq_true] at h; simp [ih h.2]
theorem okL_app : ∀ {a b : List (Option IntKind)} {cs : List Value}, okL (a ++ b) cs = true → okL a (cs.take a.length) = true ∧ okL b (cs.drop a.length) = true := by
 intro a
 induction a with
 | nil => intro b cs h; exact ⟨by simp [okL], by simpa using h⟩
 | cons k a ih =>
  intro b cs h
  cases cs with
  | nil => simp [okL] at h
  | cons c cs =>
   simp only [List.cons_append, okL, Bool.and_eq_true] at h
   have := ih h.2
   exact ⟨by simp only [List.length_cons, List.take_succ_cons, okL, Bool.and_eq_true]; exact ⟨h.1, this.1⟩, by simpa using this.2⟩
theorem chunks (P : Program) (d e : Nat) (l : List (Option IntKind)) (hd : ∀ cs, okL l cs = true → P.keyLits d e cs = some (cs.map toLit)) : ∀ (n s : Nat) (cs : List Value), okL (List.replicate n l).flatten (cs.drop (s * l.length)) = true →
  ((List.range' s n).mapM fun i => P.keyLits d e ((cs.drop (i * l.length)).take l.length)).map List.flatten = some ((cs.drop (s * l.length)).map toLit) := by
 intro n
 induction n with
 | zero =>
  intro s cs h
  have := okL_len h
  simp only [List.replicate_zero, List.flatten_nil, List.length_nil] at this
  rw [List.eq_nil_of_length_eq_zero this]; rfl
 | succ n ih =>
  intro s cs h
  rw [List.replicate_succ, List.flatten_cons] at h
  obtain ⟨h1, h2⟩ := okL_app h
  rw [List.drop_drop, show s * l.length + l.length = (s + 1) * l.length by rw [Nat.succ_mul]] at h2
  have h3 := ih (s + 1) cs h2
  rw [List.range'_succ, List.mapM_cons, hd _ h1]
  simp only [Option.pure_def, Option.bind_eq_bind, Option.bind_some]
  cases hm : (List.range' (s + 1) n).mapM (fun i => P.keyLits d e ((cs.drop (i * l.length)).take l.length)) with
  | none => rw [hm] at h3; cases h3
  | some x =>
   rw [hm] at h3
   simp only [Option.map_some, Option.some.injEq] at h3
   simp only [Option.bind_some, Option.map_some, List.flatten_cons, h3, Option.some.injEq]
   rw [← List.map_append]
   congr 1
   rw [show (s + 1) * l.length = s * l.length + l.length by rw [Nat.succ_mul], ← List.drop_drop, List.take_append_drop]
theorem flds (P : Program) (d : Nat) (hd : ∀ t ks, flatTy P d t = some ks → ∀ cs, okL ks cs = true → P.keyLits d t cs = some (cs.map toLit)) : ∀ (fs : List Field) (o : Nat) (ks : List (Option IntKind)) (cs : List Value), flatFs (flatTy P d) P fs o = some ks → okL ks (cs.drop o) = true →
  (fs.mapM fun f => P.keyLits d f.type ((cs.drop f.offset).take (P.cellsOf f.type))).map List.flatten = some ((cs.drop o).map toLit) := by
 intro fs
 induction fs with
 | nil =>
  intro o ks cs h hk
  simp only [flatFs, Option.some.injEq] at h
  subst h
  have := okL_len hk
  rw [List.eq_nil_of_length_eq_zero this]; rfl
 | cons f r ih =>
  intro o ks cs h hk
  simp only [flatFs] at h
  split at h
  ·rename_i l m h1 h2
   split at h
   ·rename_i hc
    cases h
    obtain ⟨k1, k2⟩ := okL_app hk
    rw [List.drop_drop, hc.2] at k2
    have h3 := ih _ _ _ h2 k2
    rw [hc.2] at k1
    rw [List.mapM_cons, hc.1, hd _ _ h1 _ k1]
    simp only [Option.pure_def, Option.bind_eq_bind, Option.bind_some]
    cases hm : r.mapM (fun f => P.keyLits d f.type ((cs.drop f.offset).take (P.cellsOf f.type))) with
    | none => rw [hm] at h3; cases h3
    | some x =>
     rw [hm] at h3
     simp only [Option.map_some, Option.some.injEq] at h3
     simp only [Option.bind_some, Option.map_some, List.flatten_cons, h3, Option.some.injEq]
     rw [← List.map_append]
     congr 1
     rw [← List.drop_drop, List.take_append_drop]
   ·cases h
  ·cases h
theorem flat_lits (P : Program) : ∀ (d t : Nat) (ks : List (Option IntKind)), flatTy P d t = some ks → ∀ cs, okL ks cs = true → P.keyLits d t cs = some (cs.map toLit) := by
 intro d
 induction d with
 | zero => intro t ks h; cases h
 | succ d ih =>
  intro t ks h cs hk
  simp only [flatTy] at h
  cases hu : P.underlying t with
  | none => rw [hu] at h; cases h
  | some td =>
   rw [hu] at h
   cases td with
   | int q =>
    simp only [Option.some.injEq] at h; subst h
    cases cs with
    | nil => simp [okL] at hk
    | cons c r => cases r with
     | cons => simp [okL] at hk
     | nil =>
      simp only [okL, Bool.and_true] at hk
      cases c <;> simp [okV] at hk
      obtain ⟨rfl, hw⟩ := hk
      simp [Program.keyLits, hu, hw, toLit]
   | string =>
    simp only [Option.some.injEq] at h; subst h
    cases cs with
    | nil => simp [okL] at hk
    | cons c r => cases r with
     | cons => simp [okL] at hk
     | nil =>
      simp only [okL, Bool.and_true] at hk
      cases c <;> simp [okV] at hk
      simp [Program.keyLits, hu, hk, toLit]
   | array n e =>
    simp only at h
    split at h
    ·rename_i l hl
     split at h
     ·rename_i hc
      cases h
      have hlen := okL_len hk
      have := chunks P d e l (ih e l hl) n 0 cs (by simpa using hk)
      simp only [Nat.zero_mul, List.drop_zero] at this
      rw [← List.range_eq_range'] at this
      have hcl : cs.length = P.cellsOf t := by rw [hlen, ← hc.2]; simp
      rw [hc.1] at this
      simp only [Program.keyLits, hu]
      rw [if_pos hcl]; exact this
     ·cases h
    ·cases h
   | struct fs =>
    simp only at h
    split at h
    ·rename_i l hl
     split at h
     ·rename_i hc
      cases h
      have hlen := okL_len hk
      have := flds P d ih fs.toList 0 ks cs hl (by simpa using hk)
      simp only [List.drop_zero] at this
      have hcl : cs.length = P.cellsOf t ∧ (fs.all fun x => x.name != "_") = true := ⟨by rw [hlen]; exact hc.1, hc.2⟩
      simp only [Program.keyLits, hu]
      rw [if_pos hcl]; exact this
     ·cases h
    ·cases h
   | _ => simp at h
theorem run_eqA {t m D : Nat} {ks : List (Option IntKind)} (hk : G.P.keyTypeAt m t = true) (hm : m ≤ 10000) (hg : G.P.eqGuardType G.P.depth t = false) (hf : flatTy G.P D t = some ks) {xs ys : Array Value}
  (fx : (Value.agg xs).formed G.P t = true) (fy : (Value.agg ys).formed G.P t = true) (hx : okL ks xs.toList = true) (hy : okL ks ys.toList = true) (b : Bool) (hb : b = true ↔ xs.toList.map toLit = ys.toList.map toLit) (w : World) :
  (Op.equalIn 10000 t (.agg xs) (.agg ys)).run G.P w = .ok b w := by
 obtain ⟨r, hr, hiff⟩ := run_equalIn_deep (P := G.P) (10000 - m) m t hk w D D (.agg xs) (.agg ys) _ _ fx fy (flat_lits G.P D t ks hf _ hx) (flat_lits G.P D t ks hf _ hy)
 rw [show 10000 - m + m = 10000 by omega] at hr
 have hrb : r = b := by rw [Bool.eq_iff_iff, hiff, hb]; exact Iff.rfl
 rw [hr, hrb]
theorem genQ_eqA {C : World → Prop} {t : Nat} {xs ys : Array Value} {b : Bool} (hg : G.P.eqGuardType G.P.depth t = false) (hr : ∀ w, (Op.equalIn 10000 t (.agg xs) (.agg ys)).run G.P w = .ok b w) {x y : Operand} {dst : Option Nat} {yt ty : Nat} {pos : String} {af : Array Edge} {gd : Option (Nat × Bool)} {env : Env} {K : Value → Prop} (hx : ev env x = .agg xs) (hy : ev env y = .agg ys)
  (h : K (.bool b)) : GenQ G.P C { dst, op := .binOp .eql t x y yt, type := ty, pos, after := af, guard := gd } env K := by
 refine ⟨_, fun w _ => ?_, h⟩
 show (do pure (Next.value (← (do eqGuard .eql _ x y (ev env x) (ev env y); binOp .eql _ (ev env x) (ev env y)))) : Sem Next).run G.P w = _
 have e1 : (eqGuard .eql t x y (.agg xs) (.agg ys)).run G.P w = .ok () w := by simp [eqGuard, hg]
 rw [hx, hy, Sem.run_bind, Sem.run_bind, e1, Result.andThen_ok, run_eql_struct, hr]; rfl
theorem gen_eqA {t : Nat} {xs ys : Array Value} {b : Bool} (hg : G.P.eqGuardType G.P.depth t = false) (hr : ∀ w, (Op.equalIn 10000 t (.agg xs) (.agg ys)).run G.P w = .ok b w) {x y : Operand} {dst : Option Nat} {yt ty : Nat} {pos : String} {af : Array Edge} {gd : Option (Nat × Bool)} {env : Env} {w : World} {K : Value → World → Prop} (hx : ev env x = .agg xs) (hy : ev env y = .agg ys)
  (h : K (.bool b) w) : GenK G.P { dst, op := .binOp .eql t x y yt, type := ty, pos, after := af, guard := gd } env w K := by
 refine ⟨.inl ⟨_, w, ?_, h⟩⟩
 show (do pure (Next.value (← (do eqGuard .eql _ x y (ev env x) (ev env y); binOp .eql _ (ev env x) (ev env y)))) : Sem Next).run G.P w = _
 have e1 : (eqGuard .eql t x y (.agg xs) (.agg ys)).run G.P w = .ok () w := by simp [eqGuard, hg]
 rw [hx, hy, Sem.run_bind, Sem.run_bind, e1, Result.andThen_ok, run_eql_struct, hr]; rfl
def I64 (n : Int) : Prop := -9223372036854775808 ≤ n ∧ n ≤ 9223372036854775807
theorem wf64 {n : Int} (h : I64 n) : (Lit.int .i64 n).wf = true := by
 have := h.1; have := h.2
 have e1 : IntKind.i64.min = -9223372036854775808 := by decide
 have e2 : IntKind.i64.max = 9223372036854775807 := by decide
 simp [Lit.wf, e1, e2]
 omega
def MvR (m : Mv) : Prop := I64 m.fr ∧ I64 m.to ∧ I64 m.promo
theorem gdMv : G.P.eqGuardType G.P.depth 36 = false := by kernel_rfl
theorem eqMv {a b : Mv} (ha : MvR a) (hb : MvR b) (w : World) : (Op.equalIn 10000 36 (.agg (mvA a)) (.agg (mvA b))).run G.P w = .ok (decide (a = b)) w := by
 have ok : ∀ m : Mv, MvR m → okL [some .i64, some .i64, some .i64] (mvA m).toList = true := fun m h => by
  show (okV (some .i64) (.int .i64 m.fr) && (okV (some .i64) (.int .i64 m.to) && (okV (some .i64) (.int .i64 m.promo) && true))) = true
  simp [okV, wf64 h.1, wf64 h.2.1, wf64 h.2.2]
 refine run_eqA (m := 2) (D := 2) (ks := [some .i64, some .i64, some .i64]) zk zd gdMv zk zk zk (ok a ha) (ok b hb) _ ?_ w
 rw [decide_eq_true_eq]
 cases a; cases b; simp [mvA, toLit]
theorem mvR_ok {m : Mv} (h : MvOk m) : MvR m := by
 obtain ⟨⟨a, b⟩, ⟨c, d⟩, e, f⟩ := h
 exact ⟨⟨zo, zo⟩, ⟨zo, zo⟩, ⟨zo, zo⟩⟩
theorem Is_c (p : Pos) (hI : Ch.Inv p) (hN : Nums p) (m : Mv) (hm : MvR m) (w : World) :
  Calls G.P 26 #[posV p, mvV m] w (Ret (.bool (Ch.isLegal p m)) w) := by
 refine zN Tryz.func26 ?_
 refine zG ?_
 generalize hW : (w.alloc (.cells (posA p) 24)).alloc (.cells (mvA m) 36) = W0
 have hP : ∀ w', Cl W0 w' → w'.heap[w.heap.size]? = some (.cells (posA p) 24 (0, 0)) := fun w' h => hP2 (hW ▸ h)
 have hM : ∀ w', Cl W0 w' → w'.heap[(w.alloc (.cells (posA p) 24)).heap.size]? = some (.cells (mvA m) 36 (0, 0)) := fun w' h => hM2 (hW ▸ h)
 have hE : ∀ w', Cl W0 w' → Cl w w' := fun w' h => hE2 (hW ▸ h)
 refine zR ?_
 refine loadK _ (ldPos (hP _ (Cl.refl _))) (zR ?_)
 refine callK (Legal_c p hI hN _) ?_
 rintro r w1 ⟨v, l, rfl, hlp, hl, c1⟩
 refine ⟨_, rfl, ?_⟩
 obtain ⟨al, cl, rfl, hal⟩ := hl.form
 have hll : l.length ≤ 14338 := by
  rw [hlp.length_eq]; exact Nat.le_trans (List.length_filter_le _ _) (pseudo_len p)
 have hans : Ch.isLegal p m = decide (m ∈ l) := by unfold Ch.isLegal; exact decide_eq_decide.2 (hlp.mem_iff).symm
 refine zR ?_
 refine loopK (σ := Nat) [4, 6] 7 (fun a => [(6, .int .i64 a)]) (fun a w' => a ≤ l.length ∧ (∀ x ∈ l.take a, x ≠ m) ∧ Cl w1 w') (fun a => l.length - a) zk 0
  ⟨zo, by simp, Cl.refl _⟩ ⟨rfl, trivial⟩ ?_
 rintro i j w2 ⟨hi, hno, hcl⟩
 refine zR ?_
 apply E.dsplit<;>intro h
 ·have hil : i < l.length := by omega
  clear h
  obtain ⟨g, rfl⟩ := hal zo
  have ni : IntKind.i64.wrap ((i : Int) + 1) = ((i + 1 : Nat) : Int) := by rw [w64_in zo zo]; push_cast; omega
  refine zR ?_
  refine zK 6 ?_
  refine zR ?_
  refine zC ?_
  refine zR ?_
  refine loadQ (mvV l[i]) (fun w hw => ldRowA (hl.step (hcl.trans hw)) encMv_len i hil rfl ?_ rfl) ?_
  ·simp [E.offZ_eq]
  refine zR ?_
  refine loadQ (mvV m) (fun w hw => ldMv (hM _ (c1.trans (hcl.trans hw)))) (zR ?_)
  refine genQ_eqA gdMv (eqMv (mvR_ok (pseudo_ok hI ((List.mem_filter.1 (hlp.subset (List.getElem_mem hil))).1))) hm) rfl rfl (zR ?_)
  intro w3 c3
  refine zR ?_
  apply E.dsplit<;>intro h
  ·refine zR ?_
   refine ⟨ret_bool (by rw [hans, decide_eq_true (h ▸ List.getElem_mem hil)]), hE _ (c1.trans (hcl.trans c3))⟩
  ·refine zR ?_
   refine ⟨i + 1, ⟨int_eq ni, trivial⟩, ⟨zo, ?_, hcl.trans c3⟩, zo⟩
   intro x hx
   rw [List.take_succ_eq_append_getElem hil, List.mem_append, List.mem_singleton] at hx
   rcases hx with hx | rfl
   ·exact hno x hx
   ·exact h
 ·have hil : i = l.length := by omega
  subst hil
  rw [List.take_length] at hno
  refine zR ?_
  refine ⟨ret_bool (by rw [hans, decide_eq_false (fun h => hno m h rfl)]), hE _ (c1.trans hcl)⟩
end
section
structure PM where
 mv : Mv
 tags : Nat
namespace Ch
open Bb
theorem free_congr {p q : Pos} (h : ∀ i : Int, sq p i = 0 ↔ sq q i = 0) (w : Int) : ∀ (n : Nat) (i : Int), free p i w n = free q i w n := by
 intro n
 induction n with
 | zero => intro i; rfl
 | succ n ih =>
  intro i
  simp only [free, ih]
  congr 1
  rw [Bool.eq_iff_iff, beq_iff_eq, beq_iff_eq]; exact h _
theorem att_congr {p q : Pos} (hp : ∀ i : Int, 0 ≤ sq p i ∧ sq p i ≤ 12) (hq : ∀ i : Int, 0 ≤ sq q i ∧ sq q i ≤ 12) {c : Int} (hc : c = 0 ∨ c = 1) (hz : ∀ i : Int, sq p i = 0 ↔ sq q i = 0)
  (hs : ∀ (i : Int) (k : Int), 1 ≤ k → k ≤ 6 → (sq p i = k + 6 * c ↔ sq q i = k + 6 * c)) {s : Int} (s0 : 0 ≤ s) : attacked p s c = attacked q s c := by
 obtain ⟨a, rfl⟩ := Int.eq_ofNat_of_zero_le s0
 rw [Bool.eq_iff_iff, attacked_iff p hp hc, attacked_iff q hq hc]
 have hk : ∀ k i, hitK p k c i a = hitK q k c i a := by
  intro k i; unfold hitK; rw [free_congr hz]
 simp only [hk]
 constructor
 ·rintro ⟨k, k1, k6, i, hi, hx, hh⟩; exact ⟨k, k1, k6, i, hi, (hs i k k1 k6).1 hx, hh⟩
 ·rintro ⟨k, k1, k6, i, hi, hx, hh⟩; exact ⟨k, k1, k6, i, hi, (hs i k k1 k6).2 hx, hh⟩
def safeB (p : Pos) (m : Mv) : Bool := !attacked (made p m) (kingAt (made p m) p.turn) (1 - p.turn)
def capTag (p : Pos) (m : Mv) : Nat := if sq p m.to ≠ 0 then 4 else if m.to = p.ep ∧ kindOf (sq p m.fr) = 6 then 8 else 0
def casTag (p : Pos) (m : Mv) : Nat :=
 if (sq p m.fr = 1 ∧ m.fr = 4) ∨ (sq p m.fr = 7 ∧ m.fr = 60) then (if m.to = 2 ∨ m.to = 58 then 2 else if m.to = 6 ∨ m.to = 62 then 1 else 0) else 0
def tg (p : Pos) (m : Mv) : Nat := ((capTag p m ||| casTag p m) ||| (if safeB p m then 0 else 32)) ||| (if inCheck (made p m) then 16 else 0)
def promoFold (p : Pos) (fr to : Int) : List Int → Nat → List PM
 | [], _ => []
 | k :: ks, t => (if (t ||| tg p ⟨fr, to, k⟩).testBit 5 then [] else [⟨⟨fr, to, k⟩, t ||| tg p ⟨fr, to, k⟩⟩]) ++ promoFold p fr to ks (t ||| tg p ⟨fr, to, k⟩)
def macTo (p : Pos) (fr to : Int) : List PM :=
 if kindOf (sq p fr) = 6 ∧ rank to = 7 - 7 * p.turn then promoFold p fr to [2, 3, 4, 5] 0
 else if (tg p ⟨fr, to, 0⟩).testBit 5 then [] else [⟨⟨fr, to, 0⟩, tg p ⟨fr, to, 0⟩⟩]
def macFrom (p : Pos) (k : Int) (fr : Nat) : List PM := if sq p fr = k + 6 * p.turn then (List.range 64).flatMap fun to => if (goB p k fr).testBit (63 - to) then macTo p fr to else [] else []
def macStd (p : Pos) : List PM := [1, 2, 3, 4, 5, 6].flatMap fun k => (List.range 64).flatMap fun fr => macFrom p k fr
def macMay (p : Pos) (r : Nat) : Bool :=
 let K := homeK r
 let w : Int := if homeR r < homeK r then -1 else 1
 bit p.castle r && decide (sq p (K + w) = 0) && decide (sq p (K + 2 * w) = 0) && (decide (w = 1) || decide (sq p (K - 3) = 0)) && !attacked p (K + w) (1 - p.turn) && !attacked p (K + 2 * w) (1 - p.turn) && !inCheck p
def macCas (p : Pos) : List PM :=
 (if macMay p (2 * p.turn).toNat then [⟨castleMv (2 * p.turn).toNat, 1 ||| tg p (castleMv (2 * p.turn).toNat)⟩] else []) ++
 (if macMay p ((2 * p.turn).toNat + 1) then [⟨castleMv ((2 * p.turn).toNat + 1 : Nat), 2 ||| tg p (castleMv ((2 * p.turn).toNat + 1 : Nat))⟩] else [])
def mac (p : Pos) : List PM := macStd p ++ macCas p
def checkAcc (p : Pos) (m : Mv) : Bool :=
 if m.promo = 0 then inCheck (made p m) else [2, 3, 4, 5].any fun k => decide (k ≤ m.promo) && inCheck (made p ⟨m.fr, m.to, k⟩)
def castleKind (p : Pos) (m : Mv) : Int := if kindOf (sq p m.fr) ≠ 1 then 0 else if m.to - m.fr = 2 then 1 else if m.to - m.fr = -2 then 2 else 0
def toldBase (p : Pos) (m : Mv) : Int := castleKind p m + (if sq p m.to ≠ 0 then 4 else if takes p m then 8 else 0)
def tagsAcc (p : Pos) (m : Mv) : Int := toldBase p m + (if checkAcc p m then 16 else 0)
def told (p : Pos) (m : Mv) : Int := toldBase p m + (if inCheck (made p m) then 16 else 0)
theorem bit5_tg (p : Pos) (m : Mv) : (tg p m).testBit 5 = !safeB p m := by
 unfold tg capTag casTag
 simp only [Nat.testBit_or]
 have a : (if sq p m.to ≠ 0 then 4 else if m.to = p.ep ∧ kindOf (sq p m.fr) = 6 then 8 else 0 : Nat).testBit 5 = false := by (repeat' split) <;> decide
 have b : (if (sq p m.fr = 1 ∧ m.fr = 4) ∨ (sq p m.fr = 7 ∧ m.fr = 60) then (if m.to = 2 ∨ m.to = 58 then 2 else if m.to = 6 ∨ m.to = 62 then 1 else 0) else 0 : Nat).testBit 5 = false := by (repeat' split) <;> decide
 have c : (if inCheck (made p m) then 16 else 0 : Nat).testBit 5 = false := by split <;> decide
 rw [a, b, c]
 cases safeB p m <;> decide
theorem safe_promo {p : Pos} (hI : Inv p) {fr to k k' : Int} (h : Plain p ⟨fr, to, k⟩) (h' : Plain p ⟨fr, to, k'⟩) (hk : k ≠ 0) (hk' : k' ≠ 0) : safeB p ⟨fr, to, k⟩ = safeB p ⟨fr, to, k'⟩ := by
 have ht := hI.turn
 unfold safeB
 rw [(king_own hI h).at, (king_own hI h').at]
 have pr := h.promo; have pr' := h'.promo
 simp only at pr pr'
 have e : ∀ i : Int, 0 ≤ i → i ≤ 63 → (sq (made p ⟨fr, to, k⟩) i = 0 ↔ sq (made p ⟨fr, to, k'⟩) i = 0) ∧ ∀ x, 1 ≤ x → x ≤ 6 → (sq (made p ⟨fr, to, k⟩) i = x + 6 * (1 - p.turn) ↔ sq (made p ⟨fr, to, k'⟩) i = x + 6 * (1 - p.turn)) := by
  intro i i0 i1
  rw [sq_made hI h i0, sq_made hI h' i0]
  have hn := (newPc_king hI h).2.2; have hn' := (newPc_king hI h').2.2
  simp only
  by_cases a : i = to
  ·rw [if_pos a, if_pos a]
   refine ⟨zo, fun x x1 x6 => ?_⟩
   constructor <;> intro e <;> exfalso <;> omega
  ·rw [if_neg a, if_neg a]
   exact ⟨Iff.rfl, fun _ _ _ => Iff.rfl⟩
 have e' : ∀ i : Int, (sq (made p ⟨fr, to, k⟩) i = 0 ↔ sq (made p ⟨fr, to, k'⟩) i = 0) ∧ ∀ x, 1 ≤ x → x ≤ 6 → (sq (made p ⟨fr, to, k⟩) i = x + 6 * (1 - p.turn) ↔ sq (made p ⟨fr, to, k'⟩) i = x + 6 * (1 - p.turn)) := by
  intro i
  by_cases h0 : i < 0
  ·have q : ∀ q : Pos, sq q i = sq q 0 := fun q => by unfold sq; rw [show i.toNat = 0 by omega]; rfl
   rw [q, q]; exact e 0 zo zo
  by_cases h1 : 63 < i
  ·have q : ∀ q : Pos, sq q i = 0 := fun q => by unfold sq; rw [List.getD_eq_getElem?_getD, List.getElem?_eq_none (by rw [q.len]; omega)]; rfl
   rw [q, q]; exact ⟨Iff.rfl, fun _ _ _ => Iff.rfl⟩
  ·exact e i zo zo
 have hat : 0 ≤ (if fr = kingAt p p.turn then to else kingAt p p.turn) := by
  have := (hI.king p.turn ht).1; have := h.t0; split <;> assumption
 simp only
 rw [att_congr (made_pc hI h) (made_pc hI h') zo (fun i => (e' i).1) (fun i x => (e' i).2 x) hat]
theorem legal_plain {p : Pos} (hI : Inv p) {m : Mv} (h : Plain p m) : m ∈ legal p ↔ safeB p m = true := by
 rw [legal_iff hI]
 unfold safeB
 rw [Bool.not_eq_true']
 constructor
 ·rintro (⟨_, h2⟩ | ⟨r, hr, _⟩)
  ·exact h2
  ·exfalso
   obtain ⟨_, _, _, hc⟩ := castle_of hI hr
   have := plain_noCastle hI h
   rw [castle_is hI hc] at this; cases this
 ·intro h2; exact .inl ⟨h, h2⟩
theorem plain_iff {p : Pos} (hI : Inv p) {k : Int} (k1 : 1 ≤ k) (k6 : k ≤ 6) {fr to : Nat} (hf : fr < 64) (ht : to < 64) (hs : sq p fr = k + 6 * p.turn) (pr : Int)
  (hpr : (pr = 0 ∧ ¬ (k = 6 ∧ rank to = 7 - 7 * p.turn)) ∨ (2 ≤ pr ∧ pr ≤ 5 ∧ k = 6 ∧ rank to = 7 - 7 * p.turn)) :
  Plain p ⟨fr, to, pr⟩ ↔ (goB p k fr).testBit (63 - to) = true := by
 rw [goB_bit hI.pc hI.turn hI.pass hf ht k1 k6 hs]
 have hk : kindOf (sq p fr) = k := by rw [hs]; exact kindOf_of k1 k6 hI.turn
 have hsd : sideOf (sq p fr) = p.turn := by rw [hs]; exact sideOf_of k1 k6 hI.turn
 have hnz : sq p fr ≠ 0 := by rw [hs]; have := hI.turn; omega
 constructor
 ·intro h
  refine ⟨h.goal, fun e => ?_⟩
  rcases h.other with h2 | h2
  ·exact e.1 h2
  ·exact h2 e.2
 ·rintro ⟨h1, h2⟩
  have ho : sq p to = 0 ∨ sideOf (sq p to) ≠ p.turn := by
   by_cases e : sq p to = 0
   ·exact .inl e
   ·exact .inr fun e2 => h2 ⟨e, e2⟩
  refine ⟨Int.natCast_nonneg _, by simp only; omega, Int.natCast_nonneg _, by simp only; omega, ?_, hnz, hsd, h1, ho, by rw [hk]; exact hpr⟩
  intro e
  simp only at e
  rw [← e] at ho
  rcases ho with h3 | h3
  ·exact hnz h3
  ·exact h3 hsd
theorem capTag_eq {p : Pos} (hI : Inv p) {m : Mv} (h : Plain p m) : (capTag p m : Int) = if sq p m.to ≠ 0 then 4 else if takes p m then 8 else 0 := by
 unfold capTag
 by_cases h0 : sq p m.to ≠ 0
 ·rw [if_pos h0, if_pos h0]; rfl
 rw [if_neg h0, if_neg h0]
 have hz : sq p m.to = 0 := by omega
 have f0 := h.f0; have f1 := h.f1; have t0 := h.t0; have t1 := h.t1; have htn := hI.turn
 by_cases he : m.to = p.ep ∧ kindOf (sq p m.fr) = 6
 ·rw [if_pos he]
  have : takes p m = true := by
   unfold takes
   simp only [hz, decide_true, Bool.not_true, Bool.false_or, Bool.and_eq_true, decide_eq_true_eq, Bool.not_eq_true', decide_eq_false_iff_not]
   refine ⟨he.2, ?_⟩
   intro hfile
   obtain ⟨_, _, hp⟩ := passed_ep hI.pass
   obtain ⟨p1, p2, p3, p4⟩ := hp zo
   rw [← he.1] at p1 p3
   rcases goal_cases hI h.f0 h.f1 h.there h.own h.goal with ⟨g, _⟩ | ⟨_, _, gf, g⟩ | ⟨_, gf, _, _⟩
   ·exact absurd he.2 g
   ·rcases g with g | ⟨g, g2, _⟩
    ·have e : at' (file m.to) (rank m.to - (1 - 2 * p.turn)) = m.fr := by
      rw [at_of] <;> simp only [file, rank, up] at * <;> omega
     rw [e] at p3
     have := kind_own hI h.there h.own
     rw [he.2] at this; omega
    ·simp only [file, rank, up] at *; omega
   ·omega
  rw [this]; rfl
 ·rw [if_neg he]
  cases ht : takes p m
  ·rfl
  ·exfalso
   have := plain_passing hI h hz ht
   exact he ⟨this.1, this.2.2.2.2.1⟩
theorem casTag_plain {p : Pos} (hI : Inv p) {m : Mv} (h : Plain p m) : casTag p m = 0 ∧ castleKind p m = 0 := by
 have hn := plain_noCastle hI h
 unfold isCastle at hn
 have hck : castleKind p m = 0 := by
  unfold castleKind
  by_cases hk : kindOf (sq p m.fr) = 1
  ·rw [hk] at hn
   simp only [decide_true, Bool.true_and, Bool.or_eq_false_iff, decide_eq_false_iff_not] at hn
   rw [if_neg (by simp [hk]), if_neg zo, if_neg zo]
  ·rw [if_pos hk]
 refine ⟨?_, hck⟩
 unfold casTag
 split
 ·rename_i hh
  have hk : kindOf (sq p m.fr) = 1 := by rcases hh with ⟨e, _⟩ | ⟨e, _⟩ <;> rw [e] <;> decide
  rw [hk] at hn
  simp only [decide_true, Bool.true_and, Bool.or_eq_false_iff, decide_eq_false_iff_not] at hn
  have hb : hits p m.fr m.to = true := by
   rcases goal_cases hI h.f0 h.f1 h.there h.own h.goal with ⟨_, h2⟩ | ⟨h2, _⟩ | ⟨h2, _⟩
   ·exact h2
   ·rw [hk] at h2; omega
   ·rw [hk] at h2; omega
  obtain ⟨a, ha⟩ := Int.eq_ofNat_of_zero_le h.f0
  obtain ⟨b, hb'⟩ := Int.eq_ofNat_of_zero_le h.t0
  rw [ha, hb', hits_K, ← ha, hk] at hb
  simp only [hitK, if_true, Bool.and_eq_true, decide_eq_true_eq] at hb
  have hfin : ∀ a ∈ [4, 60], ∀ b ∈ [2, 58, 6, 62], dF a b * dF a b ≤ 1 → dR a b * dR a b ≤ 1 → False := by decide
  have hnot : ∀ b0 ∈ [2, 58, 6, 62], b ≠ b0 := by
   rintro b0 hb0 rfl
   have ha' : a = 4 ∨ a = 60 := by omega
   exact hfin a (by rcases ha' with rfl | rfl <;> decide) b hb0 hb.2.2.1 hb.2.2.2
  have n1 := hnot 2 zd; have n2 := hnot 58 zd; have n3 := hnot 6 zd; have n4 := hnot 62 zd
  rw [if_neg zo, if_neg zo]
 ·rfl
theorem lor_parts (a b c : Nat) (ha : a = 0 ∨ a = 4 ∨ a = 8) (hb : b = 0 ∨ b = 1 ∨ b = 2) (hc : c = 0 ∨ c = 16) : ((a ||| b) ||| 0) ||| c = a + b + c := by
 rcases ha with rfl | rfl | rfl <;> rcases hb with rfl | rfl | rfl <;> rcases hc with rfl | rfl <;> decide
theorem capTag_cases (p : Pos) (m : Mv) : capTag p m = 0 ∨ capTag p m = 4 ∨ capTag p m = 8 := by unfold capTag; (repeat' split) <;> simp
theorem casTag_cases (p : Pos) (m : Mv) : casTag p m = 0 ∨ casTag p m = 1 ∨ casTag p m = 2 := by unfold casTag; (repeat' split) <;> simp
theorem tg_plain {p : Pos} (hI : Inv p) {m : Mv} (h : Plain p m) (hs : safeB p m = true) : (tg p m : Int) = told p m := by
 have h16 : (if inCheck (made p m) then 16 else 0 : Nat) = 0 ∨ (if inCheck (made p m) then 16 else 0 : Nat) = 16 := by split <;> simp
 have : tg p m = capTag p m + casTag p m + (if inCheck (made p m) then 16 else 0) := by
  unfold tg; rw [hs, if_pos rfl]; exact lor_parts _ _ _ (capTag_cases p m) (casTag_cases p m) h16
 rw [this, (casTag_plain hI h).1]
 unfold told toldBase
 rw [(casTag_plain hI h).2, ← capTag_eq hI h]
 split <;> omega
theorem lor16 (a : Nat) (h : a = 0 ∨ a = 4 ∨ a = 8) (b c : Bool) : (a + (if b then 16 else 0)) ||| (a + (if c then 16 else 0)) = a + (if b || c then 16 else 0) := by
 rcases h with rfl | rfl | rfl <;> cases b <;> cases c <;> decide
theorem promo_all {p : Pos} (hI : Inv p) {fr to : Int} (h : ∀ k, 2 ≤ k → k ≤ 5 → Plain p ⟨fr, to, k⟩) :
  ∃ t2 t3 t4 t5 : Nat, (promoFold p fr to [2, 3, 4, 5] 0 = if safeB p ⟨fr, to, 2⟩ then [⟨⟨fr, to, 2⟩, t2⟩, ⟨⟨fr, to, 3⟩, t3⟩, ⟨⟨fr, to, 4⟩, t4⟩, ⟨⟨fr, to, 5⟩, t5⟩] else []) ∧
   (safeB p ⟨fr, to, 2⟩ = true → (t2 : Int) = tagsAcc p ⟨fr, to, 2⟩ ∧ (t3 : Int) = tagsAcc p ⟨fr, to, 3⟩ ∧ (t4 : Int) = tagsAcc p ⟨fr, to, 4⟩ ∧ (t5 : Int) = tagsAcc p ⟨fr, to, 5⟩) := by
 have s3 : safeB p ⟨fr, to, 3⟩ = safeB p ⟨fr, to, 2⟩ := safe_promo hI (h 3 zd zd) (h 2 zd zd) zd zd
 have s4 : safeB p ⟨fr, to, 4⟩ = safeB p ⟨fr, to, 2⟩ := safe_promo hI (h 4 zd zd) (h 2 zd zd) zd zd
 have s5 : safeB p ⟨fr, to, 5⟩ = safeB p ⟨fr, to, 2⟩ := safe_promo hI (h 5 zd zd) (h 2 zd zd) zd zd
 refine ⟨0 ||| tg p ⟨fr, to, 2⟩, 0 ||| tg p ⟨fr, to, 2⟩ ||| tg p ⟨fr, to, 3⟩, 0 ||| tg p ⟨fr, to, 2⟩ ||| tg p ⟨fr, to, 3⟩ ||| tg p ⟨fr, to, 4⟩, 0 ||| tg p ⟨fr, to, 2⟩ ||| tg p ⟨fr, to, 3⟩ ||| tg p ⟨fr, to, 4⟩ ||| tg p ⟨fr, to, 5⟩, ?_, ?_⟩
 ·simp only [promoFold, Nat.testBit_or, bit5_tg, s3, s4, s5, Nat.zero_testBit, Bool.false_or, Bool.or_self]
  cases safeB p ⟨fr, to, 2⟩ <;> rfl
 ·intro hs
  have e : ∀ k, 2 ≤ k → k ≤ 5 → safeB p ⟨fr, to, k⟩ = true → tg p ⟨fr, to, k⟩ = capTag p ⟨fr, to, 2⟩ + (if inCheck (made p ⟨fr, to, k⟩) then 16 else 0) := by
   intro k k2 k5 hs
   have h16 : (if inCheck (made p ⟨fr, to, k⟩) then 16 else 0 : Nat) = 0 ∨ (if inCheck (made p ⟨fr, to, k⟩) then 16 else 0 : Nat) = 16 := by split <;> simp
   have e1 : tg p ⟨fr, to, k⟩ = capTag p ⟨fr, to, k⟩ + casTag p ⟨fr, to, k⟩ + (if inCheck (made p ⟨fr, to, k⟩) then 16 else 0) := by
    unfold tg; rw [hs, if_pos rfl]; exact lor_parts _ _ _ (capTag_cases p _) (casTag_cases p _) h16
   rw [e1, (casTag_plain hI (h k k2 k5)).1]; rfl
  rw [e 2 zd zd hs, e 3 zd zd (by rw [s3]; exact hs), e 4 zd zd (by rw [s4]; exact hs), e 5 zd zd (by rw [s5]; exact hs), Nat.zero_or,
   lor16 _ (capTag_cases p _), lor16 _ (capTag_cases p _), lor16 _ (capTag_cases p _)]
  have hb : ∀ k, toldBase p ⟨fr, to, k⟩ = capTag p ⟨fr, to, 2⟩ := by
   intro k
   rw [capTag_eq hI (h 2 zd zd)]
   show castleKind p ⟨fr, to, 2⟩ + _ = _
   rw [(casTag_plain hI (h 2 zd zd)).2, Int.zero_add]; rfl
  have hc : ∀ (a : Nat) (b : Bool), ((a + (if b then 16 else 0) : Nat) : Int) = (a : Int) + (if b then 16 else 0) := by intro a b; cases b <;> simp
  unfold tagsAcc
  simp only [hb, hc]
  refine ⟨?_, ?_, ?_, ?_⟩ <;> congr 1 <;> simp [checkAcc, or_assoc]
theorem mem_macTo {p : Pos} (hI : Inv p) {k : Int} (k1 : 1 ≤ k) (k6 : k ≤ 6) {fr to : Nat} (hf : fr < 64) (ht : to < 64) (hs : sq p fr = k + 6 * p.turn) (hb : (goB p k fr).testBit (63 - to) = true) :
  (∀ x ∈ macTo p fr to, x.mv ∈ legal p ∧ Plain p x.mv ∧ x.mv.fr = fr ∧ x.mv.to = to ∧ (x.tags : Int) = tagsAcc p x.mv) ∧ (∀ m : Mv, m.fr = fr → m.to = to → Plain p m → m ∈ legal p → ∃ x ∈ macTo p fr to, x.mv = m) ∧ ((macTo p fr to).map PM.mv).Nodup := by
 have hk : kindOf (sq p fr) = k := by rw [hs]; exact kindOf_of k1 k6 hI.turn
 unfold macTo
 rw [hk]
 by_cases hpr : k = 6 ∧ rank to = 7 - 7 * p.turn
 ·rw [if_pos hpr]
  have hP : ∀ k', 2 ≤ k' → k' ≤ 5 → Plain p ⟨fr, to, k'⟩ := fun k' h2 h5 => (plain_iff hI k1 k6 hf ht hs k' (.inr ⟨h2, h5, hpr⟩)).2 hb
  obtain ⟨t2, t3, t4, t5, e, hT⟩ := promo_all hI hP
  rw [e]
  have s3 : safeB p ⟨fr, to, 3⟩ = safeB p ⟨fr, to, 2⟩ := safe_promo hI (hP 3 zd zd) (hP 2 zd zd) zd zd
  have s4 : safeB p ⟨fr, to, 4⟩ = safeB p ⟨fr, to, 2⟩ := safe_promo hI (hP 4 zd zd) (hP 2 zd zd) zd zd
  have s5 : safeB p ⟨fr, to, 5⟩ = safeB p ⟨fr, to, 2⟩ := safe_promo hI (hP 5 zd zd) (hP 2 zd zd) zd zd
  have hL : ∀ k', 2 ≤ k' → k' ≤ 5 → ((⟨fr, to, k'⟩ : Mv) ∈ legal p ↔ safeB p ⟨fr, to, k'⟩ = true) := fun k' h2 h5 => legal_plain hI (hP k' h2 h5)
  cases hsf : safeB p ⟨fr, to, 2⟩
  ·refine ⟨by simp, ?_, by simp⟩
   rintro ⟨a, b, c⟩ ha hb' hpl hm
   simp only at ha hb'; subst ha; subst hb'
   exfalso
   have hc : 2 ≤ c ∧ c ≤ 5 := by
    rcases hpl.promo with ⟨_, h2⟩ | ⟨h2, h3, _⟩
    ·exfalso; apply h2; simp only [hk]; exact hpr
    ·exact ⟨h2, h3⟩
   have := (hL c hc.1 hc.2).1 hm
   have hcc : c = 2 ∨ c = 3 ∨ c = 4 ∨ c = 5 := by omega
   rcases hcc with rfl | rfl | rfl | rfl
   ·rw [hsf] at this; cases this
   ·rw [s3, hsf] at this; cases this
   ·rw [s4, hsf] at this; cases this
   ·rw [s5, hsf] at this; cases this
  ·obtain ⟨e2, e3, e4, e5⟩ := hT hsf
   rw [if_pos rfl]
   refine ⟨?_, ?_, ?_⟩
   ·intro x hx
    simp only [List.mem_cons, List.not_mem_nil, or_false] at hx
    rcases hx with rfl | rfl | rfl | rfl
    ·exact ⟨(hL 2 zd zd).2 hsf, hP 2 zd zd, rfl, rfl, e2⟩
    ·exact ⟨(hL 3 zd zd).2 (by rw [s3]; exact hsf), hP 3 zd zd, rfl, rfl, e3⟩
    ·exact ⟨(hL 4 zd zd).2 (by rw [s4]; exact hsf), hP 4 zd zd, rfl, rfl, e4⟩
    ·exact ⟨(hL 5 zd zd).2 (by rw [s5]; exact hsf), hP 5 zd zd, rfl, rfl, e5⟩
   ·rintro ⟨a, b, c⟩ ha hb' hpl _
    simp only at ha hb'; subst ha; subst hb'
    have hc : 2 ≤ c ∧ c ≤ 5 := by
     rcases hpl.promo with ⟨_, h2⟩ | ⟨h2, h3, _⟩
     ·exfalso; apply h2; simp only [hk]; exact hpr
     ·exact ⟨h2, h3⟩
    have hcc : c = 2 ∨ c = 3 ∨ c = 4 ∨ c = 5 := by omega
    rcases hcc with rfl | rfl | rfl | rfl <;> simp
   ·simp
 ·rw [if_neg hpr]
  have hP : Plain p ⟨fr, to, 0⟩ := (plain_iff hI k1 k6 hf ht hs 0 (.inl ⟨rfl, hpr⟩)).2 hb
  rw [bit5_tg]
  cases hsf : safeB p ⟨fr, to, 0⟩
  ·simp only [Bool.not_false, if_true]
   refine ⟨by simp, ?_, by simp⟩
   rintro ⟨a, b, c⟩ ha hb' hpl hm
   simp only at ha hb'; subst ha; subst hb'
   exfalso
   have hc : c = 0 := by
    rcases hpl.promo with ⟨h2, _⟩ | ⟨_, _, h2, h3⟩
    ·exact h2
    ·exfalso; apply hpr; simp only [hk] at h2; exact ⟨h2, h3⟩
   subst hc
   have := (legal_plain hI hP).1 hm
   rw [hsf] at this; cases this
  ·simp only [Bool.not_true, Bool.false_eq_true, if_false]
   refine ⟨?_, ?_, by simp⟩
   ·intro x hx
    rw [List.mem_singleton] at hx; subst hx
    refine ⟨(legal_plain hI hP).2 hsf, hP, rfl, rfl, ?_⟩
    rw [tg_plain hI hP hsf]
    unfold told tagsAcc checkAcc; rfl
   ·rintro ⟨a, b, c⟩ ha hb' hpl _
    simp only at ha hb'; subst ha; subst hb'
    have hc : c = 0 := by
     rcases hpl.promo with ⟨h2, _⟩ | ⟨_, _, h2, h3⟩
     ·exact h2
     ·exfalso; apply hpr; simp only [hk] at h2; exact ⟨h2, h3⟩
    subst hc; simp
end Ch
namespace Ch
open Bb
theorem may_iff {p : Pos} (hI : Inv p) {r : Nat} (hr : r = (2 * p.turn).toNat ∨ r = (2 * p.turn).toNat + 1) :
  macMay p r = true ↔ castleMay p r = true ∧ attacked p (castleMv r).to (1 - p.turn) = false := by
 have ht := hI.turn
 have hr4 : r < 4 ∧ (r : Int) / 2 = p.turn := by
  rcases hr with e | e <;> rcases ht with t | t <;> rw [t] at e ⊢ <;> subst e <;> decide
 unfold macMay castleMay castleFree
 rw [hI.rights]
 simp only [Bool.and_eq_true, Bool.or_eq_true, Bool.not_eq_true', decide_eq_true_eq]
 rw [free_iff]
 have hto : (castleMv r).to = homeK r + 2 * (if homeR r < homeK r then -1 else 1) := rfl
 rw [hto]
 have hchk : bit p.castle r = true → (inCheck p = attacked p (homeK r) (1 - p.turn)) := by
  intro hb
  obtain ⟨s1, _⟩ := hI.right r hr4.1 hb
  obtain ⟨⟨k0, k1, _⟩, _⟩ := home_rank r hr4.1
  rw [hr4.2] at s1
  have hK := hI.king p.turn ht
  have e := hK.2.2.2 _ k0 k1 s1
  unfold inCheck checked
  rw [← e, decide_eq_true k0]; rfl
 have hrr : r = 0 ∨ r = 1 ∨ r = 2 ∨ r = 3 := by omega
 rcases hrr with rfl | rfl | rfl | rfl
 all_goals
  first
  | (have hw : (if homeR ((0 : Nat) : Int) < homeK ((0 : Nat) : Int) then (-1 : Int) else 1) = 1 := by decide
     have hd : dist (homeR ((0 : Nat) : Int) - homeK ((0 : Nat) : Int)) 0 = 2 := by decide
     rw [hw, hd]
     constructor
     ·rintro ⟨⟨⟨⟨⟨⟨h1, h2⟩, h3⟩, _⟩, h5⟩, h6⟩, h7⟩
      rw [hchk h1] at h7
      exact ⟨⟨⟨h1, h7⟩, h5, fun j hj => by
        have : j = 0 ∨ j = 1 := by omega
        rcases this with rfl | rfl
        ·exact h2
        ·exact h3⟩, h6⟩
     ·rintro ⟨⟨⟨h1, h7⟩, h5, hf⟩, h6⟩
      rw [hchk h1]
      exact ⟨⟨⟨⟨⟨⟨h1, hf 0 zd⟩, hf 1 zd⟩, .inl rfl⟩, h5⟩, h6⟩, h7⟩)
  | (have hw : (if homeR ((2 : Nat) : Int) < homeK ((2 : Nat) : Int) then (-1 : Int) else 1) = 1 := by decide
     have hd : dist (homeR ((2 : Nat) : Int) - homeK ((2 : Nat) : Int)) 0 = 2 := by decide
     rw [hw, hd]
     constructor
     ·rintro ⟨⟨⟨⟨⟨⟨h1, h2⟩, h3⟩, _⟩, h5⟩, h6⟩, h7⟩
      rw [hchk h1] at h7
      exact ⟨⟨⟨h1, h7⟩, h5, fun j hj => by
        have : j = 0 ∨ j = 1 := by omega
        rcases this with rfl | rfl
        ·exact h2
        ·exact h3⟩, h6⟩
     ·rintro ⟨⟨⟨h1, h7⟩, h5, hf⟩, h6⟩
      rw [hchk h1]
      exact ⟨⟨⟨⟨⟨⟨h1, hf 0 zd⟩, hf 1 zd⟩, .inl rfl⟩, h5⟩, h6⟩, h7⟩)
  | (have hw : (if homeR ((1 : Nat) : Int) < homeK ((1 : Nat) : Int) then (-1 : Int) else 1) = -1 := by decide
     have hd : dist (homeR ((1 : Nat) : Int) - homeK ((1 : Nat) : Int)) 0 = 3 := by decide
     rw [hw, hd]
     constructor
     ·rintro ⟨⟨⟨⟨⟨⟨h1, h2⟩, h3⟩, h4⟩, h5⟩, h6⟩, h7⟩
      rw [hchk h1] at h7
      exact ⟨⟨⟨h1, h7⟩, h5, fun j hj => by
        have : j = 0 ∨ j = 1 ∨ j = 2 := by omega
        rcases this with rfl | rfl | rfl
        ·exact h2
        ·exact h3
        ·rcases h4 with h4 | h4
         ·exact absurd h4 zd
         ·exact h4⟩, h6⟩
     ·rintro ⟨⟨⟨h1, h7⟩, h5, hf⟩, h6⟩
      rw [hchk h1]
      exact ⟨⟨⟨⟨⟨⟨h1, hf 0 zd⟩, hf 1 zd⟩, .inr (hf 2 zd)⟩, h5⟩, h6⟩, h7⟩)
  | (have hw : (if homeR ((3 : Nat) : Int) < homeK ((3 : Nat) : Int) then (-1 : Int) else 1) = -1 := by decide
     have hd : dist (homeR ((3 : Nat) : Int) - homeK ((3 : Nat) : Int)) 0 = 3 := by decide
     rw [hw, hd]
     constructor
     ·rintro ⟨⟨⟨⟨⟨⟨h1, h2⟩, h3⟩, h4⟩, h5⟩, h6⟩, h7⟩
      rw [hchk h1] at h7
      exact ⟨⟨⟨h1, h7⟩, h5, fun j hj => by
        have : j = 0 ∨ j = 1 ∨ j = 2 := by omega
        rcases this with rfl | rfl | rfl
        ·exact h2
        ·exact h3
        ·rcases h4 with h4 | h4
         ·exact absurd h4 zd
         ·exact h4⟩, h6⟩
     ·rintro ⟨⟨⟨h1, h7⟩, h5, hf⟩, h6⟩
      rw [hchk h1]
      exact ⟨⟨⟨⟨⟨⟨h1, hf 0 zd⟩, hf 1 zd⟩, .inr (hf 2 zd)⟩, h5⟩, h6⟩, h7⟩)
theorem tg_castle {p : Pos} (hI : Inv p) {r : Nat} (h : Castling p r (castleMv r)) (ha : attacked p (castleMv r).to (1 - p.turn) = false) :
  (((if r % 2 = 0 then 1 else 2) ||| tg p (castleMv r) : Nat) : Int) = tagsAcc p (castleMv r) := by
 obtain ⟨r4, rt, rb, hc⟩ := castle_of hI h
 have hto0 : sq p (castleMv r).to = 0 := by rw [hc.mv]; exact hc.to
 have hking : sq p (castleMv r).fr = 1 + 6 * p.turn := by rw [hc.mv]; exact hc.king
 have hs : safeB p (castleMv r) = true := by
  unfold safeB; rw [(castle_own hI hc).1.at, castle_att hI hc, ha]; rfl
 have hcap : capTag p (castleMv r) = 0 := by
  unfold capTag
  rw [if_neg (by simp [hto0]), if_neg]
  rw [hking, kind_king hI]; omega
 have htb : toldBase p (castleMv r) = castleKind p (castleMv r) := by
  unfold toldBase
  rw [if_neg (by simp [hto0]), castle_takes hI hc]; simp
 have hk1 : ¬ kindOf (sq p (castleMv r).fr) ≠ 1 := by rw [hking, kind_king hI]; simp
 have hchk : checkAcc p (castleMv r) = inCheck (made p (castleMv r)) := by
  unfold checkAcc; rw [if_pos (by rw [hc.mv])]
 unfold tagsAcc tg
 rw [htb, hchk, hs, hcap, if_pos rfl]
 unfold castleKind casTag
 rw [if_neg hk1]
 have hrr : r = 0 ∨ r = 1 ∨ r = 2 ∨ r = 3 := by omega
 have htn := hI.turn
 rcases hrr with rfl | rfl | rfl | rfl
 ·have t : p.turn = 0 := by rw [← rt]; decide
  rw [hking, t]
  cases inCheck (made p (castleMv 0)) <;> decide
 ·have t : p.turn = 0 := by rw [← rt]; decide
  rw [hking, t]
  cases inCheck (made p (castleMv 1)) <;> decide
 ·have t : p.turn = 1 := by rw [← rt]; decide
  rw [hking, t]
  cases inCheck (made p (castleMv 2)) <;> decide
 ·have t : p.turn = 1 := by rw [← rt]; decide
  rw [hking, t]
  cases inCheck (made p (castleMv 3)) <;> decide
theorem mem_macCas {p : Pos} (hI : Inv p) : (∀ x ∈ macCas p, x.mv ∈ legal p ∧ (x.tags : Int) = tagsAcc p x.mv) ∧ (∀ m r, Castling p r m → m ∈ legal p → ∃ x ∈ macCas p, x.mv = m) := by
 have hmod : (2 * p.turn).toNat % 2 = 0 ∧ ((2 * p.turn).toNat + 1) % 2 = 1 := by
  have := hI.turn; omega
 constructor
 ·intro x hx
  unfold macCas at hx
  rw [List.mem_append] at hx
  rcases hx with hx | hx
  ·split at hx
   ·rename_i hm
    obtain ⟨h1, h2⟩ := (may_iff hI (.inl rfl)).1 hm
    rw [List.mem_singleton] at hx; subst hx
    have hc : Castling p (2 * p.turn).toNat (castleMv (2 * p.turn).toNat) := ⟨.inl rfl, h1, rfl⟩
    refine ⟨(legal_iff hI _).2 (.inr ⟨_, hc, h2⟩), ?_⟩
    have := tg_castle hI hc h2
    rw [if_pos hmod.1] at this; exact this
   ·cases hx
  ·split at hx
   ·rename_i hm
    obtain ⟨h1, h2⟩ := (may_iff hI (.inr rfl)).1 hm
    rw [List.mem_singleton] at hx; subst hx
    have hc : Castling p ((2 * p.turn).toNat + 1) (castleMv ((2 * p.turn).toNat + 1 : Nat)) := ⟨.inr rfl, h1, rfl⟩
    refine ⟨(legal_iff hI _).2 (.inr ⟨_, hc, h2⟩), ?_⟩
    have := tg_castle hI hc h2
    rw [if_neg zo] at this; exact this
   ·cases hx
 ·intro m r hc hm
  have ha : attacked p m.to (1 - p.turn) = false := by
   rcases (legal_iff hI m).1 hm with ⟨h, _⟩ | ⟨_, _, h⟩
   ·exfalso
    obtain ⟨_, _, _, hcc⟩ := castle_of hI hc
    have := plain_noCastle hI h
    rw [castle_is hI hcc] at this; cases this
   ·exact h
  have e := hc.is
  have hmay : macMay p r = true := (may_iff hI hc.right).2 ⟨hc.may, by rw [← e]; exact ha⟩
  unfold macCas
  rcases hc.right with rfl | rfl
  ·exact ⟨_, List.mem_append.2 (.inl (by rw [if_pos hmay]; exact List.mem_singleton.2 rfl)), e.symm⟩
  ·exact ⟨_, List.mem_append.2 (.inr (by rw [if_pos hmay]; exact List.mem_singleton.2 rfl)), e.symm⟩
theorem mem_macFrom {p : Pos} {k : Int} {fr : Nat} {x : PM} : x ∈ macFrom p k fr ↔ sq p fr = k + 6 * p.turn ∧ ∃ to, to < 64 ∧ (goB p k fr).testBit (63 - to) = true ∧ x ∈ macTo p fr to := by
 unfold macFrom
 split
 ·rename_i h
  simp only [List.mem_flatMap, List.mem_range]
  constructor
  ·rintro ⟨to, h1, h2⟩
   split at h2
   ·exact ⟨h, to, h1, by assumption, h2⟩
   ·cases h2
  ·rintro ⟨_, to, h1, h2, h3⟩
   exact ⟨to, h1, by rw [if_pos h2]; exact h3⟩
 ·rename_i h
  simp only [List.not_mem_nil, false_iff]
  rintro ⟨h1, _⟩; exact h h1
theorem mem_mac {p : Pos} (hI : Inv p) : (∀ x ∈ mac p, x.mv ∈ legal p ∧ (x.tags : Int) = tagsAcc p x.mv) ∧ (∀ m ∈ legal p, ∃ x ∈ mac p, x.mv = m) := by
 have hstd : ∀ x, x ∈ macStd p ↔ ∃ k : Int, 1 ≤ k ∧ k ≤ 6 ∧ ∃ fr, fr < 64 ∧ x ∈ macFrom p k fr := by
  intro x
  unfold macStd
  simp only [List.mem_flatMap, List.mem_range]
  constructor
  ·rintro ⟨k, h1, h2⟩
   simp only [List.mem_cons, List.not_mem_nil, or_false] at h1
   exact ⟨k, zo, zo, h2⟩
  ·rintro ⟨k, h1, h2, h3⟩
   exact ⟨k, by simp only [List.mem_cons, List.not_mem_nil, or_false]; omega, h3⟩
 constructor
 ·intro x hx
  unfold mac at hx
  rcases List.mem_append.1 hx with hx | hx
  ·obtain ⟨k, k1, k6, fr, hf, h⟩ := (hstd x).1 hx
   obtain ⟨hs, to, ht, hb, h⟩ := mem_macFrom.1 h
   have := (mem_macTo hI k1 k6 hf ht hs hb).1 x h
   exact ⟨this.1, this.2.2.2.2⟩
  ·exact (mem_macCas hI).1 x hx
 ·intro m hm
  unfold mac
  rcases (legal_iff hI m).1 hm with ⟨h, _⟩ | ⟨r, hc, _⟩
  ·have hown := kind_own hI h.there h.own
   have f0 := h.f0; have t0 := h.t0
   obtain ⟨fr, hfr⟩ := Int.eq_ofNat_of_zero_le h.f0
   obtain ⟨to, hto⟩ := Int.eq_ofNat_of_zero_le h.t0
   have hf : fr < 64 := by have := h.f1; omega
   have ht : to < 64 := by have := h.t1; omega
   rw [hfr] at hown
   have e : m = ⟨fr, to, m.promo⟩ := by rw [← hfr, ← hto]
   have hpr := h.promo
   rw [hfr, hto] at hpr
   have hb : (goB p (kindOf (sq p fr)) fr).testBit (63 - to) = true := (plain_iff hI hown.1 hown.2.1 hf ht hown.2.2 m.promo hpr).1 (by rw [← e]; exact h)
   obtain ⟨x, hx, hxm⟩ := (mem_macTo hI hown.1 hown.2.1 hf ht hown.2.2 hb).2.1 m hfr hto h hm
   exact ⟨x, List.mem_append.2 (.inl ((hstd x).2 ⟨_, hown.1, hown.2.1, fr, hf, mem_macFrom.2 ⟨hown.2.2, to, ht, hb, hx⟩⟩)), hxm⟩
  ·obtain ⟨x, hx, hxm⟩ := (mem_macCas hI).2 m r hc hm
   exact ⟨x, List.mem_append.2 (.inr hx), hxm⟩
theorem nodup_len {α : Type} [DecidableEq α] : ∀ (a b : List α), a.Nodup → (∀ x ∈ a, x ∈ b) → a.length ≤ b.length := by
 intro a
 induction a with
 | nil => intro b _ _; simp
 | cons x r ih =>
  intro b hn hs
  rw [List.nodup_cons] at hn
  have hx := hs x (by simp)
  have := ih (b.erase x) hn.2 (fun y hy => by
   have hne : y ≠ x := by rintro rfl; exact hn.1 hy
   exact (List.mem_erase_of_ne hne).2 (hs y (by simp [hy])))
  rw [List.length_erase_of_mem hx] at this
  have hpos : 0 < b.length := List.length_pos_of_mem hx
  simp only [List.length_cons]; omega
theorem nodup_flatMap {α β : Type} (f : α → List β) : ∀ (l : List α), l.Nodup → (∀ a ∈ l, (f a).Nodup) → (∀ a ∈ l, ∀ b ∈ l, a ≠ b → ∀ x, x ∈ f a → x ∈ f b → False) → (l.flatMap f).Nodup := by
 intro l
 induction l with
 | nil => intros; simp
 | cons a r ih =>
  intro hn h1 h2
  rw [List.nodup_cons] at hn
  rw [List.flatMap_cons, List.nodup_append]
  refine ⟨h1 a (by simp), ih hn.2 (fun b hb => h1 b (by simp [hb])) (fun b hb c hc => h2 b (by simp [hb]) c (by simp [hc])), ?_⟩
  intro x hx y hy e
  subst e
  obtain ⟨b, hb, hxb⟩ := List.mem_flatMap.1 hy
  exact h2 a (by simp) b (by simp [hb]) (by rintro rfl; exact hn.1 hb) x hx hxb
theorem macStd_nodup {p : Pos} (hI : Inv p) : ((macStd p).map PM.mv).Nodup := by
 unfold macStd
 rw [List.map_flatMap]
 have hmem : ∀ {k : Int} {fr : Nat} {m : Mv}, 1 ≤ k → k ≤ 6 → fr < 64 → m ∈ (macFrom p k fr).map PM.mv → m.fr = fr ∧ sq p fr = k + 6 * p.turn := by
  intro k fr m k1 k6 hf h
  obtain ⟨x, hx, rfl⟩ := List.mem_map.1 h
  obtain ⟨hs, to, ht, hb, hx⟩ := mem_macFrom.1 hx
  exact ⟨((mem_macTo hI k1 k6 hf ht hs hb).1 x hx).2.2.1, hs⟩
 refine nodup_flatMap _ _ zd ?_ ?_
 ·intro k hk
  have hkr : 1 ≤ k ∧ k ≤ 6 := by simp only [List.mem_cons, List.not_mem_nil, or_false] at hk; omega
  rw [List.map_flatMap]
  refine nodup_flatMap _ _ List.nodup_range ?_ ?_
  ·intro fr hfr
   have hf := List.mem_range.1 hfr
   unfold macFrom
   split
   ·rename_i hs
    rw [List.map_flatMap]
    refine nodup_flatMap _ _ List.nodup_range ?_ ?_
    ·intro to hto
     split
     ·rename_i hb
      exact (mem_macTo hI hkr.1 hkr.2 hf (List.mem_range.1 hto) hs hb).2.2
     ·simp
    ·intro a ha b hb hne m h1 h2
     split at h1
     ·rename_i hb1
      split at h2
      ·rename_i hb2
       obtain ⟨x, hx, rfl⟩ := List.mem_map.1 h1
       obtain ⟨y, hy, hxy⟩ := List.mem_map.1 h2
       have e1 := ((mem_macTo hI hkr.1 hkr.2 hf (List.mem_range.1 ha) hs hb1).1 x hx).2.2.2.1
       have e2 := ((mem_macTo hI hkr.1 hkr.2 hf (List.mem_range.1 hb) hs hb2).1 y hy).2.2.2.1
       rw [hxy, e1] at e2
       exact hne zo
      ·simp at h2
     ·simp at h1
   ·simp
  ·intro a ha b hb hne m h1 h2
   have e1 := (hmem hkr.1 hkr.2 (List.mem_range.1 ha) h1).1
   have e2 := (hmem hkr.1 hkr.2 (List.mem_range.1 hb) h2).1
   rw [e1] at e2; exact hne zo
 ·intro a ha b hb hne m h1 h2
  have har : 1 ≤ a ∧ a ≤ 6 := by simp only [List.mem_cons, List.not_mem_nil, or_false] at ha; omega
  have hbr : 1 ≤ b ∧ b ≤ 6 := by simp only [List.mem_cons, List.not_mem_nil, or_false] at hb; omega
  rw [List.map_flatMap] at h1 h2
  obtain ⟨f1, hf1, h1⟩ := List.mem_flatMap.1 h1
  obtain ⟨f2, hf2, h2⟩ := List.mem_flatMap.1 h2
  obtain ⟨e1, s1⟩ := hmem har.1 har.2 (List.mem_range.1 hf1) h1
  obtain ⟨e2, s2⟩ := hmem hbr.1 hbr.2 (List.mem_range.1 hf2) h2
  have : f1 = f2 := by omega
  subst this
  omega
theorem macStd_len {p : Pos} (hI : Inv p) : (macStd p).length ≤ (legal p).length := by
 have := nodup_len ((macStd p).map PM.mv) (legal p) (macStd_nodup hI) (fun m hm => by
  obtain ⟨x, hx, rfl⟩ := List.mem_map.1 hm
  exact ((mem_mac hI).1 x (List.mem_append.2 (.inl hx))).1)
 rwa [List.length_map] at this
end Ch
end
end Go.Proofs.YtpclhlhcegcflaaGreatDoor
