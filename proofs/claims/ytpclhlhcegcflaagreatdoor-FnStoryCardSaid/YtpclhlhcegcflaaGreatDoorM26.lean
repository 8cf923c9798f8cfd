/- One part of the proof: Dfr Pk49 Pk50. -/
import Derived.Defers
import Derived.Recover
import Derived.Test.YtpclhlhcegcflaaGreatDoorM1
import Derived.Test.YtpclhlhcegcflaaGreatDoorM3
import Derived.Test.YtpclhlhcegcflaaGreatDoorM25
namespace Go.Proofs.YtpclhlhcegcflaaGreatDoor
set_option maxRecDepth 100000
set_option linter.unusedSimpArgs false
set_option linter.unusedVariables false
section
open Go Go.RowKit
open E
structure Res3 (w : World) (e : Env) (t1 t2 t3 : Nat) (y1 y2 y3 : Nat) (v1 v2 v3 : Value) : Prop where
 a : ∃ a, e t1 = .pointer (some a) ∧ LoadsTo G.P w y1 a v1
 b : ∃ a, e t2 = .pointer (some a) ∧ LoadsTo G.P w y2 a v2
 c : ∃ a, e t3 = .pointer (some a) ∧ LoadsTo G.P w y3 a v3
theorem loads_var {w : World} {t : Nat} {a : Addr} {v : Value} (h : LoadsTo G.P w t a v) : (loadVar t a).run G.P w = .ok v w := by
 unfold LoadsTo Instr.loadAt at h
 simp [Instr.sureAddr] at h
 exact h
theorem results_cell3 {fn : Func} {t1 t2 t3 y1 y2 y3 : Nat} (hr : fn.results = #[.cell t1 y1, .cell t2 y2, .cell t3 y3]) {a : Act} {w : World} {v1 v2 v3 : Value} (h : Res3 w (envOf a) t1 t2 t3 y1 y2 y3 v1 v2 v3) :
  (results fn a.tmps).run G.P w = .ok (.tuple #[v1, v2, v3]) w := by
 obtain ⟨⟨a1, e1, l1⟩, ⟨a2, e2, l2⟩, a3, e3, l3⟩ := h
 have e1 : a.tmps[t1]?.getD undef = .pointer (some a1) := by rw [← Array.getD_eq_getD_getElem?]; exact e1
 have e2 : a.tmps[t2]?.getD undef = .pointer (some a2) := by rw [← Array.getD_eq_getD_getElem?]; exact e2
 have e3 : a.tmps[t3]?.getD undef = .pointer (some a3) := by rw [← Array.getD_eq_getD_getElem?]; exact e3
 simp [results, hr, e1, e2, e3, asAddr, loads_var l1, loads_var l2, loads_var l3]
def Idle (f : Nat) (cap : Array Value) : Prop := ∀ w, CallsD G.P f cap .returning w fun e u' w' => e = .returned (.tuple #[]) ∧ u' = .returning ∧ w' = w
theorem enter_defer {f : Nat} {fn : Func} {A B : Code} {i : Nat} {mk df : Oper} {args : List Value} {w : World} {R : Ending → World → Prop} {fc t t1 t2 t3 y1 y2 y3 : Nat} {caps : Array Operand}
  (hf : G.P.funcs[f]? = some fn) (hb : fn.body = some (.seq A (.seq (.region i #[mk, df] false) B))) (hn : args.length ≤ fn.ntmps) (hkA : codeOk fn.ntmps A = true) (hkB : codeOk fn.ntmps B = true) (ht : t < fn.ntmps)
  (hmg : mk.guard = none) (hmo : mk.op = .makeFunc (.func fc) #[] caps) (hmd : mk.dst = some t) (hdg : df.guard = none) (hdo : df.op = .defer { callee := .value (.tmp t), args := #[], argTypes := #[] }) (hdd : df.dst = none)
  (hfc : G.fn fc = true) (hid : ∀ a b c, Idle fc #[a, b, c]) (hr : fn.results = #[.cell t1 y1, .cell t2 y2, .cell t3 y3])
  (h : vc G A (args0 args) w (fun x e w1 => x = .normal ∧ ∃ a b c : Value, (caps.map (ev e)).toList = [a, b, c] ∧ vc G B (upd e t (.func (.func fc) #[] #[a, b, c])) w1 (fun x e w2 => (x = .normal ∨ x = .ret) ∧ ∃ v1 v2 v3, Res3 w2 e t1 t2 t3 y1 y2 y3 v1 v2 v3 ∧ R (.returned (.tuple #[v1, v2, v3])) w2))) :
  Calls G.P f args.toArray w R := by
 refine calls_of_wp_defers hf hb ?_
 have hsz : (args.toArray ++ Array.replicate (fn.ntmps - args.toArray.size) undef).size = fn.ntmps := by simp; omega
 have henv : envOf { tmps := args.toArray ++ Array.replicate (fn.ntmps - args.toArray.size) undef, defers := [] } = args0 args := by
  funext t
  unfold envOf args0
  rw [nthV_eq]
  simp only [Array.getD_eq_getD_getElem?, List.getD_eq_getElem?_getD]
  by_cases ht : t < args.length
  ·rw [Array.getElem?_append_left (by simpa using ht)]; simp
  ·rw [Array.getElem?_append_right (by simpa using ht)]
   rw [List.getElem?_eq_none zo]
   simp only [Option.getD_none]
   cases hx : (Array.replicate (fn.ntmps - args.toArray.size) undef)[t - args.toArray.size]? with
   | none => rfl
   | some v =>
    have := Array.getElem?_eq_some_iff.1 hx
    obtain ⟨h1, h2⟩ := this
    simp at h2
    simp [h2]
 refine wp_seq ?_
 refine vc_sound (G := G) (N := fn.ntmps) (ds := []) A _ _ ?_ hkA _ w hsz rfl (by rw [henv]; exact h)
 rintro x a w1 hs hd ⟨rfl, q1, q2, q3, hcap, hB⟩
 show Code.wp G.P (.seq (.region i #[mk, df] false) B) _ a w1
 refine wp_seq (wp_region_list ?_)
 have hcap : caps.map (ev (envOf a)) = #[q1, q2, q3] := Array.toList_inj.1 hcap
 obtain ⟨fnc, c1, c2, c3⟩ := G.enters fc hfc
 have hmx : (execOp a.eval mk).run G.P w1 = .ok (.value (.func (.func fc) #[] (caps.map (ev (envOf a))))) w1 := by
  obtain ⟨d, o, ty, ps, af, g⟩ := mk
  simp only at hmo hmg hmd
  subst hmo
  rw [eval_envOf]
  simp [execOp, Instr.makeFunc]
 obtain ⟨a1, ha1⟩ : ∃ a1 : Act, a1 = a.put (some t) (.func (.func fc) #[] (caps.map (ev (envOf a)))) := ⟨_, rfl⟩
 have hs1 : a1.tmps.size = fn.ntmps := by rw [ha1, put_size, hs]
 have hd1 : a1.defers = [] := by rw [ha1, put_defers, hd]
 have he1 : envOf a1 = upd (envOf a) t (.func (.func fc) #[] (caps.map (ev (envOf a)))) := by rw [ha1]; exact envOf_put _ (by rw [hs]; exact ht)
 have hdx : (execOp a1.eval df).run G.P w1 = .ok (.defer { target := .fn (.func fc) (caps.map (ev (envOf a))), args := #[] }) w1 := by
  obtain ⟨d, o, ty, ps, af, g⟩ := df
  simp only at hdo hdg hdd
  subst hdo
  rw [eval_envOf, he1]
  simp [execOp, resolve, ev, upd_self, Deferred.ofValue]
 have hw1 : Region.wanted mk (yielded #[mk, df] a.tmps) = true := by unfold Region.wanted; rw [hmg]
 have hw2 : Region.wanted df (yielded #[mk, df] a1.tmps) = true := by unfold Region.wanted; rw [hdg]
 show wpList G.P #[mk, df] _ [mk, df] a w1
 unfold wpList
 rw [if_pos hw1]
 refine .inl ?_
 unfold Oper.wp
 rw [hmx, Oper.upon_value, hmd, ← ha1]
 unfold wpList
 rw [if_pos hw2]
 refine .inl ?_
 unfold Oper.wp
 rw [hdx, Oper.upon_defer, hdd]
 unfold wpList
 have hs2 : ({ a1 with defers := { target := .fn (.func fc) (caps.map (ev (envOf a))), args := #[] } :: a1.defers } : Act).put none undef = { a1 with defers := [{ target := .fn (.func fc) (caps.map (ev (envOf a))), args := #[] }] } := by rw [hd1]; rfl
 rw [hs2]
 show Code.wp G.P B _ _ w1
 refine vc_sound (G := G) (N := fn.ntmps) (ds := [{ target := .fn (.func fc) (caps.map (ev (envOf a))), args := #[] }]) B _ _ ?_ hkB _ w1 hs1 rfl (by
  have : envOf { a1 with defers := [{ target := .fn (.func fc) (caps.map (ev (envOf a))), args := #[] }] } = envOf a1 := rfl
  rw [this, he1, hcap]; exact hB)
 rintro x a' w2 hs' hd' ⟨hx, v1, v2, v3, h3, hR⟩
 have hL : Leaves G.P fn a'.tmps R a'.defers .returning w2 := by
  rw [hd']
  refine leaves_cons (f := fc) (args := #[] ++ caps.map (ev (envOf a))) (by simp) ?_ ?_
  ·simp [invoke, callFunc, c1, c3]
   cases hbd : fnc.body with
   | none => rw [hbd] at c2; cases c2
   | some c => simp
  ·rw [Array.empty_append]
   rw [hcap]
   refine (hid _ _ _ w2).mono ?_
   rintro e u' w3 ⟨rfl, rfl, rfl⟩
   exact ⟨_, results_cell3 hr h3, hR⟩
 rcases hx with rfl | rfl
 ·exact hL
 ·exact hL
end
section
open Go Go.RowKit
open E
open Ch Bb
theorem idle_story (a b c : Value) : Idle 41 #[a, b, c] := by
 intro w
 refine callsD_of_wpS (P := Tryz.prog) Tryz.func41 rfl fun c₀ cs hu => ?_
 apply wpS_seq
 apply wpS_region
 simp [wpOpsS, go_sem, recoverD, hu, Tryz.ntmps41, Exit.thenS]
 refine wpS_cond (t := false) (by simp [Act.eval, Array.replicate]) ?_
 simp only [Bool.false_eq_true, if_false]
 refine wpS_of_wp (wp_skip ?_)
 cases c₀
 simp_all [bodyPostS, results, Tryz.results41]
theorem Row.frT {α : Type} {enc : α → List Value} {e z b0 : Nat} {S : List Nat} {w w' : World} {v : Value} {l : List α} (h : Row e z enc b0 w v l) (hf : Fr S w w') (hS : ∀ k ∈ S, ∃ cs t fz, w.heap[k]? = some (.cells cs t fz) ∧ e ≠ t) : Row e z enc b0 w' v l := by
 refine ⟨h.1, ?_⟩
 rcases h.2 with h2 | ⟨g, cap, cur, h1, h2, h3, h4⟩
 ·exact .inl h2
 ·refine .inr ⟨g, cap, cur, h1, h2, hf.blk h3 fun hm => ?_, h4⟩
  obtain ⟨cs, t, fz, hb, hne⟩ := hS g hm
  exact ty_ne h3 hb hne rfl
theorem Fr.toCl {S : List Nat} {w0 w w' : World} (h : Fr S w w') (hS : ∀ k ∈ S, w0.heap.size ≤ k) (c : Cl w0 w) : Cl w0 w' :=
 ⟨h.os.trans c.os, h.tape.trans c.tape, h.output.trans c.output, Nat.le_trans c.size h.size, fun k hk => (h.else_ k (Nat.lt_of_lt_of_le hk c.size) (fun hm => by have := hS k hm; omega)).trans (c.block k hk)⟩
def KT (T : Nat) (w w' : World) : Prop := ∀ (k : Nat) (cs : Array Value) (t : Nat), t ≠ T → w.heap[k]? = some (.cells cs t (0, 0)) → w'.heap[k]? = some (.cells cs t (0, 0))
section kt
variable {T : Nat} {w w' : World} (hk : KT T w w')
include hk
theorem KT.row {α : Type} {enc : α → List Value} {e z b0 : Nat} {v : Value} {l : List α} (h : Row e z enc b0 w v l) (he : e ≠ T) : Row e z enc b0 w' v l := by
 refine ⟨h.1, ?_⟩
 rcases h.2 with h2 | ⟨g, cap, cur, h1, h2, h3, h4⟩
 ·exact .inl h2
 ·exact .inr ⟨g, cap, cur, h1, h2, hk _ _ _ he h3, h4⟩
theorem KT.posM {P b : Nat} {p : Pos} {cv : Value} (h : PosM w P b p cv) (h1 : 173 ≠ T) (h2 : 237 ≠ T) (h3 : 141 ≠ T) : PosM w' P b p cv :=
 ⟨hk _ _ _ h1 h.hd, hk _ _ _ h2 h.bd, h.ca.elim .inl fun h => .inr (hk.row h h3)⟩
theorem KT.chn (h1 : 173 ≠ T) (h2 : 237 ≠ T) (h3 : 141 ≠ T) (h4 : 85 ≠ T) : ∀ {l : List Nde}, Chn w l → Chn w' l
 | [], _ => trivial
 | n :: l, ⟨a1, a2, a3, a4, a5⟩ => by
  refine ⟨hk _ _ _ h3 a1, a2, ?_, hk.posM a4 h1 h2 h3, KT.chn h1 h2 h3 h4 a5⟩
  cases l with
  | nil => exact a3
  | cons m r => exact hk.row (show Row 85 1 encPtr 0 w n.d.kids [m.M] from a3) h4
theorem KT.game {G0 : Nat} {g : Gm} {L : List Nde} {z : Nde} (h : GameAt w G0 g L z) (h0 : 131 ≠ T) (h1 : 173 ≠ T) (h2 : 237 ≠ T) (h3 : 141 ≠ T) (h4 : 85 ≠ T) : GameAt w' G0 g L z :=
 ⟨hk _ _ _ h0 h.hb, h.cur, h.pos, h.root, hk.chn h1 h2 h3 h4 h.chn, h.kids, h.off, h.zcv, h.dis, h.mo⟩
end kt
theorem KT.upd {T b : Nat} {o : Obj} {w w' : World} {cs : Array Value} {fz : Nat × Nat} (u : Upd w b o w') (hb : w.heap[b]? = some (.cells cs T fz)) : KT T w w' := fun k c t ht h => (Tn.upd u).blk h (ty_ne h hb ht)
theorem KT.grow {α : Type} {enc : α → List Value} {e z b0 b1 : Nat} {w w' : World} {v v' : Value} {l : List α} (hr : Row e z enc b1 w v l) (hg : Grow b0 w v w' v') : KT e w w' := fun k c t ht h => by
 refine hg.keep _ _ h fun hv => ?_
 rcases hr.2 with ⟨h1, _⟩ | ⟨g, cap, cur, h1, h2, h3, h4⟩
 ·rw [h1] at hv; cases hv
 ·rw [h1] at hv; injection hv with hv; subst hv
  exact ht (Obj.cells.inj (Option.some.inj (h.symm.trans h3))).2.1
theorem quiet_head {p : Pos} {ms : List Mv} (h : quiet p ms = true) : (legal p).length ≤ 218 := by
 cases ms with
 | nil => exact of_decide_eq_true h
 | cons m r =>
  unfold quiet at h
  simp only [Bool.and_eq_true] at h
  exact of_decide_eq_true h.1
theorem quiet_cons {p : Pos} {m : Mv} {r : List Mv} (h : quiet p (m :: r) = true) (hl : isLegal p m = true) : sanTold p m = true ∧ quiet (made p m) r = true := by
 unfold quiet at h
 rw [hl] at h
 simp only [Bool.and_eq_true, Bool.not_true, Bool.false_or] at h
 exact h.2
theorem ending_nine {l : List Pos} {p : Pos} {m0 m : Nat} {o0 o : Tx} (h : ((m : Int), o) = ending l p ((m0 : Int), o0)) (h0 : m0 ≤ 9) : m ≤ 9 := by
 have e := congrArg Prod.fst h
 have : 0 ≤ (ending l p ((m0 : Int), o0)).1 ∧ (ending l p ((m0 : Int), o0)).1 ≤ 9 := by
  unfold ending
  simp only
  repeat' split
  all_goals exact ⟨by simp only; omega, by simp only; omega⟩
 simp only at e
 omega
theorem Chn.mem {w : World} : ∀ {l : List Nde}, Chn w l → ∀ n ∈ l, PosM w n.P n.b n.p n.cv
 | [], _, _, h => by cases h
 | n :: l, ⟨_, _, _, h4, h5⟩, x, hx => by
  rcases List.mem_cons.1 hx with e | hx
  ·rw [e]; exact h4
  ·exact Chn.mem h5 x hx
set_option maxHeartbeats 4000000 in
theorem implStory_c {p : Pos} (hI : Inv p) (hh : p.half ≤ 1000000) (hf : p.full ≤ 1000000) (ms : List Mv) (hms : ∀ m ∈ ms, MvR m) (hq : quiet p ms = true) (hn : ms.length ≤ 80) (usual : Bool) (hu : usual = true → p = startP) {v : Value} (w : World) (hT : Tabs w) (hS : Spc w) (hw : Pow w) (hrow : MvIn w v ms) :
  Calls G.P 14 #[txV (if usual then [] else fenT p), v] w (fun r w' => ∃ u, r = .returned (.tuple #[u, .int .i64 ((storyOf p (!usual) ms).length : Nat), .bool true]) ∧ Row 39 81 stL w.heap.size w' u (storyOf p (!usual) ms) ∧ Cl w w') := by
 obtain ⟨al, cl, rfl, hal⟩ := hrow.form
 obtain ⟨zm, hzm, hzm3⟩ := zMvI
 have hle := macStd_len hI
 have hq0 := quiet_head hq
 have hbg := fun w hT hS => begun_c hI zo zo zo usual hu w hT hS
 have hst0 : storyOf p (!usual) ms = story [p] p (if (!usual) = true then ending [p] p (0, star) else (0, star)) ms := rfl
 generalize storyOf p (!usual) ms = S at *
 generalize (if usual then ([] : Tx) else fenT p) = T at *
 refine enter_defer (fc := 41) (t := 13) (t1 := 4) (t2 := 5) (t3 := 6) (y1 := 28) (y2 := 3) (y3 := 4) (args := [txV T, .slice al ms.length cl]) Tryz.func14 rfl (by simp [Tryz.ntmps14]) zk zk (by simp [Tryz.ntmps14]) rfl rfl rfl rfl rfl rfl zk idle_story rfl (zR ?_)
 refine gen_alloc (.slice none 0 0) zk ?_
 have ca := Cl.alloc w (.cells (Value.slice none 0 0).cells 28)
 have na : (w.alloc (.cells (Value.slice none 0 0).cells 28)).heap[w.heap.size]? = some (.cells #[.slice none 0 0] 28 (0, 0)) := alloc_new w _
 have sa := alloc_size w (.cells (Value.slice none 0 0).cells 28)
 generalize w.alloc (.cells (Value.slice none 0 0).cells 28) = w1 at *
 refine zR ?_
 refine gen_alloc (.int .i64 0) zk ?_
 have cb := ca.trans (Cl.alloc w1 (.cells (Value.int .i64 0).cells 3))
 have na := (Cl.alloc w1 (.cells (Value.int .i64 0).cells 3)).blk na
 have nb : (w1.alloc (.cells (Value.int .i64 0).cells 3)).heap[w1.heap.size]? = some (.cells #[.int .i64 0] 3 (0, 0)) := alloc_new w1 _
 have sb := alloc_size w1 (.cells (Value.int .i64 0).cells 3)
 generalize w1.alloc (.cells (Value.int .i64 0).cells 3) = w2 at *
 refine zR ?_
 refine gen_alloc (.bool false) zk ?_
 have cc := cb.trans (Cl.alloc w2 (.cells (Value.bool false).cells 4))
 have na := (Cl.alloc w2 (.cells (Value.bool false).cells 4)).blk na
 have nb := (Cl.alloc w2 (.cells (Value.bool false).cells 4)).blk nb
 have nc : (w2.alloc (.cells (Value.bool false).cells 4)).heap[w2.heap.size]? = some (.cells #[.bool false] 4 (0, 0)) := alloc_new w2 _
 have sc := alloc_size w2 (.cells (Value.bool false).cells 4)
 generalize w2.alloc (.cells (Value.bool false).cells 4) = w3 at *
 obtain ⟨Ra, hRa⟩ : ∃ R, R = w.heap.size := ⟨_, rfl⟩
 obtain ⟨Rb, hRb⟩ : ∃ R, R = w1.heap.size := ⟨_, rfl⟩
 obtain ⟨Rc, hRc⟩ : ∃ R, R = w2.heap.size := ⟨_, rfl⟩
 have hab : Ra < Rb := by omega
 have hbc : Rb < Rc := by omega
 rw [← hRa] at na
 rw [← hRb] at nb
 rw [← hRc] at nc
 rw [← hRa, ← hRb, ← hRc]
 clear ca cb sa sb sc
 refine zR ?_
 refine ⟨rfl, .pointer (some ⟨Ra, 0, none⟩), .pointer (some ⟨Rb, 0, none⟩), .pointer (some ⟨Rc, 0, none⟩), by rw [Array.toList_map]; rfl, ?_⟩
 refine zR ?_
 refine callK (hbg w3 (hT.cl cc) (hS.cl cc)) ?_
 rintro e w4 ⟨G0, rfl, ⟨⟨g, z, hG, hzp, hzM, hzP, hmo⟩, c4, sG⟩⟩
 refine ⟨_, rfl, ?_⟩
 have c04 := cc.trans c4
 have s3 := cc.size
 have na := c4.blk na
 have nb := c4.blk nb
 have nc := c4.blk nc
 rw [← hmo] at hst0
 have hst1 : ([] : List Ch.Step) ++ story (([] ++ [z]).map Nde.p) z.p ((g.meth : Int), g.out) (ms.drop 0) = S := by rw [hst0, ← hzp]; rfl
 have hm9 : g.meth ≤ 9 := by
  have e := congrArg Prod.fst hmo
  simp only at e
  cases usual with
  | true => rw [if_neg zd] at e; simp only at e; omega
  | false =>
   rw [if_pos (by rfl)] at e
   have := ending_nine (l := [p]) (p := p) (m0 := 0) (o0 := star) (m := g.meth) (o := (ending [p] p (0, star)).2) (by
    show ((g.meth : Int), (ending [p] p (0, star)).2) = ending [p] p (0, star)
    rw [e]) zo
   exact this
 have hIz : Ch.Inv z.p := by rw [hzp]; exact hI
 have hNz : Ng z.p 0 := by rw [hzp]; exact ⟨zo, zo⟩
 have hqz : quiet z.p (ms.drop 0) = true := by rw [hzp]; exact hq
 clear hst0 hmo hbg hzp hle hq0 hq hh hf hu hI hS
 refine zR ?_
 refine gen_neN true (cmp_nilIface rfl) (zR ?_)
 refine loopK (σ := Nat × List Nde × Nde × Gm × List Ch.Step × Value) [10, 11, 12, 23] 24 (fun s => [(23, .int .i64 s.1)])
  (fun s w' => s.1 ≤ ms.length ∧ GameAt w' G0 s.2.2.2.1 s.2.1 s.2.2.1 ∧ s.2.1.length = s.1 ∧ Ch.Inv s.2.2.1.p ∧ Ng s.2.2.1.p s.1 ∧ quiet s.2.2.1.p (ms.drop s.1) = true ∧ (∀ n ∈ s.2.1 ++ [s.2.2.1], Ch.Inv n.p) ∧ w.heap.size ≤ s.2.2.1.M ∧ w.heap.size ≤ s.2.2.1.P ∧ s.2.2.2.1.meth ≤ 9
   ∧ s.2.2.2.2.1 ++ story ((s.2.1 ++ [s.2.2.1]).map Nde.p) s.2.2.1.p ((s.2.2.2.1.meth : Int), s.2.2.2.1.out) (ms.drop s.1) = S ∧ s.2.2.2.2.1.length = s.1 ∧ Row 39 81 stL w.heap.size w' s.2.2.2.2.2 s.2.2.2.2.1
   ∧ w'.heap[Ra]? = some (.cells #[s.2.2.2.2.2] 28 (0, 0)) ∧ w'.heap[Rb]? = some (.cells #[.int .i64 0] 3 (0, 0)) ∧ w'.heap[Rc]? = some (.cells #[.bool false] 4 (0, 0)) ∧ Cl w w') (fun s => ms.length - s.1) zk
  (0, [], z, g, [], .slice none 0 0) ⟨Nat.zero_le _, hG, rfl, hIz, hNz, hqz, fun n hn => by rw [List.mem_singleton.1 hn]; exact hIz, Nat.le_trans s3 hzM, Nat.le_trans s3 hzP, hm9, hst1, rfl, Row.nil _ _, na, nb, nc, c04⟩ ⟨rfl, trivial⟩ ?_
 clear hG hIz hNz hqz hzM hzP hm9 hst1 na nb nc c04 c4
 rintro ⟨i, L, z, g, O, vr⟩ j w5 ⟨hi, hG, hLl, hIz, hNz, hqz, hJ, hzM, hzP, hm9, hst, hOl, hR, na, nb, nc, c5⟩
 simp only at hi hG hLl hIz hNz hqz hJ hzM hzP hm9 hst hOl hR na nb nc c5 ⊢
 obtain ⟨av, kv, rfl, _⟩ := hR.form
 have ni := i_succ (i := i) zo
 refine zR ?_
 apply E.dsplit<;>intro h
 ·have hil : i < ms.length := by omega
  clear h
  obtain ⟨gm, og, rfl⟩ := hal zo
  rw [List.drop_eq_getElem_cons hil] at hst hqz
  rw [story_cons] at hst
  have hmr := hms _ (List.getElem_mem hil)
  have hld : ∀ w', Cl w w' → LoadsTo G.P w' 36 ⟨gm, E.offZ og ((i : Int)).toNat 3, none⟩ (mvV ms[i]) := fun w' h' => (hrow.step h').ld i hil
  generalize ms[i] = m at *
  have hN := (hNz.nm zo).nums
  have hle := macStd_len hIz
  have hq0 := quiet_head hqz
  have hle : (macStd z.p).length ≤ 218 := by omega
  have hpos := hG.pos
  refine zR ?_
  refine zC ?_
  refine zR ?_
  refine loadK _ (hld _ c5) (zR ?_)
  refine gen_alloc zm hzm ?_
  have d1 := Cl.alloc w5 (.cells zm.cells 36)
  have nm1 := alloc_new w5 (.cells zm.cells 36)
  generalize w5.alloc (.cells zm.cells 36) = w6 at *
  refine zR ?_
  refine stK nm1 (encMv m) rfl szMv rfl (encMv_one _) (by rw [hzm3]; decide) (fun w7 u7 => ?_)
  have nm7 : w7.heap[w5.heap.size]? = some (.cells (mvA m) 36 (0, 0)) := by rw [u7.at_, over_all _ _ (by rw [hzm3]; rfl)]; rfl
  have d7 : Cl w5 w7 := u7.cl d1 (Nat.le_refl _)
  clear nm1 u7 d1
  have c7 := c5.trans d7
  have hG7 := hG.step d7
  refine zR ?_
  refine callS (GPos_c hG7.hb) (zR ?_)
  refine loadK _ (ldMv nm7) (zR ?_)
  refine callK (find_c hIz hle hmr w7 (hT.cl c7) hG7.posM) ?_
  rintro r w8 ⟨cv', hP8, n8, hr8, hfound, hown⟩
  rw [hpos] at n8 hP8
  have c8 := n8.toCl c7 hzP
  have hzb := hG7.chn.last.2.2.hd
  have na7 := d7.blk na
  have nb7 := d7.blk nb
  have nc7 := d7.blk nc
  have na8 := n8.blk na7 (ty_ne na7 hzb zd)
  have nb8 := n8.blk nb7 (ty_ne nb7 hzb zd)
  have nc8 := n8.blk nc7 (ty_ne nc7 hzb zd)
  have hR8 := (hR.step d7).tnT n8 hzb zd
  have hlt := hG7.chn.lt
  have hG8 := hG7.recv n8 hP8 (fun k hk => (hown k hk).1)
  rcases hfound with ⟨hno, rfl⟩ | ⟨M, x, hx, hxm, rfl, hMs, hM8⟩
  ·refine ⟨_, rfl, ?_⟩
   rw [if_neg (by simp [isLegal, hno])] at hst
   have hO : O = S := by rw [← hst, List.append_nil]
   refine zR ?_
   refine gen_eqN true (cmp_ptr rfl _) (zR ?_)
   refine loadK _ (ldB (v := .slice av O.length kv) na8 rfl rfl) (zR ?_)
   refine loadK _ (ldB (v := .slice av O.length kv) na8 rfl rfl) (zR ?_)
   refine zT na8 [.slice av O.length kv] fun w9 u9 => ?_
   refine zR ?_
   refine zT ((Tn.upd u9).blk nb8 zo) [.int .i64 O.length] fun w10 u10 => ?_
   refine zR ?_
   refine stK ((Tn.upd u10).blk ((Tn.upd u9).blk nc8 zo) zo) [.bool true] rfl zk rfl (by intro v hv; simp at hv; subst hv; rfl) (Nat.le_of_ble_eq_true rfl) fun w11 u11 => zR ?_
   have ka : w11.heap[Ra]? = some (.cells #[.slice av O.length kv] 28 (0, 0)) := (Tn.upd u11).blk ((Tn.upd u10).blk u9.at_ zo) zo
   have kb : w11.heap[Rb]? = some (.cells #[.int .i64 O.length] 3 (0, 0)) := (Tn.upd u11).blk u10.at_ zo
   have kc : w11.heap[Rc]? = some (.cells #[.bool true] 4 (0, 0)) := u11.at_
   have hR11 := ((hR8.updT u9 na8 zd).updT u10 ((Tn.upd u9).blk nb8 zo) zd).updT u11 ((Tn.upd u10).blk ((Tn.upd u9).blk nc8 zo) zo) zd
   have c11 := u11.cl (u10.cl (u9.cl c8 zo) zo) zo
   refine ⟨.inr rfl, .slice av O.length kv, .int .i64 O.length, .bool true, ⟨⟨_, rfl, ldB ka rfl rfl⟩, ⟨_, rfl, ldB kb rfl rfl⟩, _, rfl, ldB kc rfl rfl⟩, .slice av O.length kv, ?_, ?_, c11⟩
   ·rw [← hO]
   ·rw [← hO, hRa]; exact hR11
  ·refine ⟨_, rfl, ?_⟩
   have hml := ((mem_mac hIz).1 x hx).1
   have htx := ((mem_mac hIz).1 x hx).2
   rw [hxm] at hml htx
   have hleg : isLegal z.p m = true := decide_eq_true hml
   rw [if_pos hleg] at hst
   obtain ⟨hsan, hq2⟩ := quiet_cons hqz hleg
   have hrg := legal_range hIz hml
   have htold : (x.tags : Int) = told z.p m := by rw [htx]; exact sanTold_acc (by have := hrg.2.2.2.2; omega) hsan
   have hI2 := Ch.Inv.made hIz hml
   have hq20 := quiet_head hq2
   have hle2 : (macStd (made z.p m)).length ≤ 218 := by have := macStd_len hI2; omega
   have hN2 := hNz.made hIz m
   have hMl : ∀ n ∈ L ++ [z], n.off [M] := fun n hn => (hlt n hn).off (fun k hk => by rw [List.mem_singleton.1 hk]; exact hMs)
   have hoff : ∀ n ∈ L ++ [{ z with cv := cv' }], n.off [M] := fun n hn => by
    rcases List.mem_append.1 hn with hn | hn
    ·exact hMl n (List.mem_append_left _ hn)
    ·have o := hMl z (by simp)
     rw [List.mem_singleton.1 hn]
     exact ⟨o.M, o.P, o.b, fun k hk e => (hown k e).2 (by rw [List.mem_singleton.1 hk]), o.kids⟩
   have hJ2 : ∀ n ∈ L ++ [{ z with cv := cv' }], Ch.Inv n.p := fun n hn => by
    rcases List.mem_append.1 hn with hn | hn
    ·exact hJ n (List.mem_append_left _ hn)
    ·rw [List.mem_singleton.1 hn]; exact hIz
   have hmv : (pmNd x).mv = m := hxm
   have hGM := GMove_c (d := pmNd x) (hT.cl c8) hG8 hIz hN hle (by rw [hmv]; exact hml) (by rw [hmv]; exact htold) rfl hM8 hoff (by rw [hmv]; exact hI2) (by rw [hmv]; exact hle2) hJ2 zo
   refine zR ?_
   refine gen_eqN false (cmp_ptr rfl _) (zR ?_)
   refine callK hGM ?_
   rintro e w9 ⟨rfl, g', z', y, hsame, ⟨ad, n1, k1, hkc⟩, hG9, y1, y2, y3, y4, y5, hend, f9⟩
   refine ⟨_, rfl, ?_⟩
   have hydm : y.d.mv = m := y2.trans hmv
   have hyp : y.p = made z.p m := by rw [y4, hmv]
   have hydt : (y.d.tags : Int) = told z.p m := by rw [y3]; exact htold
   have hw7 : w.heap.size ≤ w7.heap.size := c7.size
   have hw8 := n8.size
   have hkS : ∀ k ∈ [M, z.M, z.P, G0], w.heap.size ≤ k := fun k hk => by
    simp only [List.mem_cons, List.not_mem_nil, or_false] at hk
    omega
   have f9 : Fr [M, z.M, z.P, G0] w8 w9 := f9
   have c9 : Cl w w9 := f9.toCl hkS c8
   have hnd8 := hG8.node
   have hps8 := hG8.chn.last.2.2.hd
   have hgb8 := hG8.hb
   have off9 : ∀ {k : Nat} {cs : Array Value} {t : Nat} {fz : Nat × Nat}, w8.heap[k]? = some (.cells cs t fz) → t ≠ 141 → t ≠ 173 → t ≠ 131 → w9.heap[k]? = some (.cells cs t fz) := fun {k cs t fz} h h1 h2 h3 => f9.blk h fun hm => by
    simp only [List.mem_cons, List.not_mem_nil, or_false] at hm
    rcases hm with e | e | e | e
    ·exact ty_ne h hM8 h1 e
    ·exact ty_ne h hnd8 h1 e
    ·exact ty_ne h hps8 h2 e
    ·exact ty_ne h hgb8 h3 e
   have na9 := off9 na8 zd zd zd
   have nb9 := off9 nb8 zd zd zd
   have nc9 := off9 nc8 zd zd zd
   have hR9 : Row 39 81 stL w.heap.size w9 (.slice av O.length kv) O := hR8.frT f9 fun k hk => by
    simp only [List.mem_cons, List.not_mem_nil, or_false] at hk
    rcases hk with e | e | e | e
    ·rw [e]; exact ⟨_, _, _, hM8, zd⟩
    ·rw [e]; exact ⟨_, _, _, hnd8, zd⟩
    ·rw [e]; exact ⟨_, _, _, hps8, zd⟩
    ·rw [e]; exact ⟨_, _, _, hgb8, zd⟩
   have hPz := hG9.chn.mem z' (by simp)
   rw [hsame.p, hsame.P, hkc, ← hpos] at hPz
   have hPy := hG9.posM
   rw [hyp, hG9.pos] at hPy
   have hNode := hG9.node
   rw [y1] at hNode
   have hg9 := ending_nine hend hm9
   have hstep := fun w' (c : Cl w9 w') => step_c hIz hN hle (d := y.d) (by rw [hydm]; exact hml) (by rw [hydm]; exact hydt) (by rw [hydm]; exact hI2) (by rw [hydm]; exact (hN2.nm zo).nums) (by rw [hydm]; exact hle2) (show g'.meth < 256 by omega) w' ((hT.cl c9).cl c) ((hw.cl c9).cl c) (hPz.step c) (c.blk hNode) (c.blk hG9.hb) hG9.pos (by rw [hydm]; exact hPy.step c)
   rw [hydm] at hstep
   have hmap : (L ++ [{ z with cv := cv' }]).map Nde.p = (L ++ [z]).map Nde.p := by simp
   have hmap2 : ((L ++ [z']) ++ [y]).map Nde.p = (L ++ [z]).map Nde.p ++ [made z.p m] := by simp [hsame.p, hyp]
   rw [hmap, hyp] at hend
   rw [← hend] at hst
   have hlenS : (stL (stepOf z.p m ((g'.meth : Int), g'.out))).length = 81 := stL_len _
   have hst2 : (O ++ [stepOf z.p m ((g'.meth : Int), g'.out)]) ++ story (((L ++ [z']) ++ [y]).map Nde.p) y.p ((g'.meth : Int), g'.out) (ms.drop (i + 1)) = S := by rw [hmap2, hyp, ← hst]; simp
   have hJ9 : ∀ n ∈ (L ++ [z']) ++ [y], Ch.Inv n.p := fun n hn => by
    rcases List.mem_append.1 hn with hn | hn
    ·rcases List.mem_append.1 hn with hn | hn
     ·exact hJ n (List.mem_append_left _ hn)
     ·rw [List.mem_singleton.1 hn, hsame.p]; exact hIz
    ·rw [List.mem_singleton.1 hn, hyp]; exact hI2
   generalize stepOf z.p m ((g'.meth : Int), g'.out) = SV at *
   refine zR ?_
   refine gen_neN true (cmp_nilIface rfl) (zR ?_)
   have fin : ∀ w10 w11 w12 v', Cl w9 w10 → Grow w.heap.size w10 (.slice av O.length kv) w11 v' → Row 39 81 stL w.heap.size w11 v' (O ++ [SV]) → Upd w11 Ra (.cells #[v'] 28 (0, 0)) w12 →
     i + 1 ≤ ms.length ∧ GameAt w12 G0 g' (L ++ [z']) y ∧ (L ++ [z']).length = i + 1 ∧ Ch.Inv y.p ∧ Ng y.p (i + 1) ∧ quiet y.p (ms.drop (i + 1)) = true ∧ (∀ n ∈ (L ++ [z']) ++ [y], Ch.Inv n.p) ∧ w.heap.size ≤ y.M ∧ w.heap.size ≤ y.P ∧ g'.meth ≤ 9
     ∧ (O ++ [SV]) ++ story (((L ++ [z']) ++ [y]).map Nde.p) y.p ((g'.meth : Int), g'.out) (ms.drop (i + 1)) = S ∧ (O ++ [SV]).length = i + 1 ∧ Row 39 81 stL w.heap.size w12 v' (O ++ [SV])
     ∧ w12.heap[Ra]? = some (.cells #[v'] 28 (0, 0)) ∧ w12.heap[Rb]? = some (.cells #[.int .i64 0] 3 (0, 0)) ∧ w12.heap[Rc]? = some (.cells #[.bool false] 4 (0, 0)) ∧ Cl w w12 := by
    intro w10 w11 w12 v' c10 hg hr' u12
    have c010 := c9.trans c10
    have kg : KT 39 w10 w11 := KT.grow (hR9.step c10) hg
    have na11 := kg _ _ _ zd (c10.blk na9)
    have ku : KT 28 w11 w12 := KT.upd u12 na11
    refine ⟨hil, ku.game (kg.game (hG9.step c10) zd zd zd zd zd) zd zd zd zd zd, by rw [List.length_append, hLl]; rfl, by rw [hyp]; exact hI2, by rw [hyp]; exact hN2, by rw [hyp]; exact hq2, hJ9,
     by rw [y1]; omega, zo, hg9, hst2, by rw [List.length_append, hOl]; rfl, ku.row hr' zd, u12.at_, ku _ _ _ zd (kg _ _ _ zd (c10.blk nb9)), ku _ _ _ zd (kg _ _ _ zd (c10.blk nc9)), u12.cl (hg.toCl rfl c010) zo⟩
   have cD : Cl w9 w9.drew := Cl.drew (Cl.refl _)
   have hOn : O.length + 1 ≤ 1000 := by omega
   clear hst hst2 hJ9 hend hmap hmap2 hG8 hnd8 hps8 hgb8 off9 hPz hPy hNode hkS f9
   refine DrawK.mk2 [1, 2, 3] (.cons 0 (.cons 4 (.cons 5 (.cons 6 (.cons 7 .done .nil) .nil) .nil) .nil) (.cons 4 (.cons 0 (.cons 5 (.cons 6 (.cons 7 .done .nil) .nil) .nil) (.cons 5 (.cons 0 (.cons 6 (.cons 7 .done .nil) .nil) .nil) .nil)) .nil)) zk (zR ?_)
   refine And.intro ?_ (And.intro ?_ trivial)
   ·refine zR ?_
    refine loadK _ (ldB (v := .slice av O.length kv) (cD.blk na9) rfl rfl) (zE ?_)
    refine callR (hstep _ cD) fun w10 c10 => ?_
    have c10 := cD.trans c10
    refine zE ?_
    refine gen_bs elSt [stV SV] (by rw [Array.toList_map]; rfl) (by simp [stV, Value.cells, hlenS]) rfl zd zd (zE ?_)
    refine gen_push elSt SV rfl (hR9.step c10) rfl rfl (by simp [stV, Value.cells]) stL_len one_st zo zd (c9.trans c10).size ?_
    intro v' w11 hr' hg
    have na11 := (KT.grow (hR9.step c10) hg) _ _ _ zd (c10.blk na9)
    obtain ⟨a9, k9, rfl, _⟩ := hr'.form
    refine zE ?_
    refine stK na11 [.slice a9 (O ++ [SV]).length k9] rfl zk rfl (by intro v hv; simp at hv; subst hv; rfl) (Nat.le_of_ble_eq_true rfl) fun w12 u12 => zR ?_
    exact ⟨(i + 1, L ++ [z'], y, g', O ++ [SV], .slice a9 (O ++ [SV]).length k9), ⟨int_eq ni, trivial⟩, fin w10 w11 w12 _ c10 hg hr' u12, by show ms.length - (i + 1) < ms.length - i; omega⟩
   ·refine zR ?_
    refine callR (hstep _ cD) fun w10 c10 => ?_
    have c10 := cD.trans c10
    refine zR ?_
    refine And.intro ?_ (And.intro ?_ trivial)
    ·refine zR ?_
     refine loadK _ (ldB (v := .slice av O.length kv) (c10.blk na9) rfl rfl) (zE ?_)
     refine gen_bs elSt [stV SV] (by rw [Array.toList_map]; rfl) (by simp [stV, Value.cells, hlenS]) rfl zd zd (zE ?_)
     refine gen_push elSt SV rfl (hR9.step c10) rfl rfl (by simp [stV, Value.cells]) stL_len one_st zo zd (c9.trans c10).size ?_
     intro v' w11 hr' hg
     have na11 := (KT.grow (hR9.step c10) hg) _ _ _ zd (c10.blk na9)
     obtain ⟨a9, k9, rfl, _⟩ := hr'.form
     refine zE ?_
     refine stK na11 [.slice a9 (O ++ [SV]).length k9] rfl zk rfl (by intro v hv; simp at hv; subst hv; rfl) (Nat.le_of_ble_eq_true rfl) fun w12 u12 => zR ?_
     exact ⟨(i + 1, L ++ [z'], y, g', O ++ [SV], .slice a9 (O ++ [SV]).length k9), ⟨int_eq ni, trivial⟩, fin w10 w11 w12 _ c10 hg hr' u12, by show ms.length - (i + 1) < ms.length - i; omega⟩
    ·refine zR ?_
     refine gen_bs elSt [stV SV] (by rw [Array.toList_map]; rfl) (by simp [stV, Value.cells, hlenS]) rfl zd zd (zE ?_)
     refine loadK _ (ldB (v := .slice av O.length kv) ((c10.trans (Cl.alloc _ _)).blk na9) rfl rfl) (zE ?_)
     refine gen_push elSt SV rfl (hR9.step c10) rfl rfl (by simp [stV, Value.cells]) stL_len one_st zo zd (c9.trans c10).size ?_
     intro v' w11 hr' hg
     have na11 := (KT.grow (hR9.step c10) hg) _ _ _ zd (c10.blk na9)
     obtain ⟨a9, k9, rfl, _⟩ := hr'.form
     refine zE ?_
     refine stK na11 [.slice a9 (O ++ [SV]).length k9] rfl zk rfl (by intro v hv; simp at hv; subst hv; rfl) (Nat.le_of_ble_eq_true rfl) fun w12 u12 => zR ?_
     exact ⟨(i + 1, L ++ [z'], y, g', O ++ [SV], .slice a9 (O ++ [SV]).length k9), ⟨int_eq ni, trivial⟩, fin w10 w11 w12 _ c10 hg hr' u12, by show ms.length - (i + 1) < ms.length - i; omega⟩
 ·have e : i = ms.length := by omega
  have hO : O = S := by rw [← hst, e, List.drop_length]; show O = O ++ []; rw [List.append_nil]
  refine zR ?_
  refine loadK _ (ldB (v := .slice av O.length kv) na rfl rfl) (zR ?_)
  refine loadK _ (ldB (v := .slice av O.length kv) na rfl rfl) (zR ?_)
  refine zT na [.slice av O.length kv] fun w6 u6 => ?_
  refine zR ?_
  refine zT ((Tn.upd u6).blk nb zo) [.int .i64 O.length] fun w7 u7 => ?_
  refine zR ?_
  refine stK ((Tn.upd u7).blk ((Tn.upd u6).blk nc zo) zo) [.bool true] rfl zk rfl (by intro v hv; simp at hv; subst hv; rfl) (Nat.le_of_ble_eq_true rfl) fun w8 u8 => zR ?_
  have ka : w8.heap[Ra]? = some (.cells #[.slice av O.length kv] 28 (0, 0)) := (Tn.upd u8).blk ((Tn.upd u7).blk u6.at_ zo) zo
  have kb : w8.heap[Rb]? = some (.cells #[.int .i64 O.length] 3 (0, 0)) := (Tn.upd u8).blk u7.at_ zo
  have kc : w8.heap[Rc]? = some (.cells #[.bool true] 4 (0, 0)) := u8.at_
  have hR8 := ((hR.updT u6 na zd).updT u7 ((Tn.upd u6).blk nb zo) zd).updT u8 ((Tn.upd u7).blk ((Tn.upd u6).blk nc zo) zo) zd
  have c8 := u8.cl (u7.cl (u6.cl c5 zo) zo) zo
  refine ⟨.inr rfl, .slice av O.length kv, .int .i64 O.length, .bool true, ⟨⟨_, rfl, ldB ka rfl rfl⟩, ⟨_, rfl, ldB kb rfl rfl⟩, _, rfl, ldB kc rfl rfl⟩, .slice av O.length kv, ?_, ?_, c8⟩
  ·rw [← hO]
  ·rw [← hO, hRa]; exact hR8
theorem asked_of {p : Pos} {ms : List Mv} (h : asked p ms = true) : Inv p ∧ p.half ≤ 1000000 ∧ p.full ≤ 1000000 ∧ ms.length ≤ 80 ∧ quiet p ms = true := by
 unfold asked at h
 simp only [Bool.and_eq_true, decide_eq_true_eq] at h
 obtain ⟨⟨⟨⟨h1, h2⟩, h3⟩, h4⟩, h5⟩ := h
 exact ⟨(valid_iff p).1 h1, h2, h3, h4, h5⟩
theorem ending_ok {l : List Pos} {p : Pos} {mo : Int × Tx} (h0 : 0 ≤ mo.1) (h9 : mo.1 ≤ 9) (hl : mo.2.length ≤ 1000) : 0 ≤ (ending l p mo).1 ∧ (ending l p mo).1 ≤ 9 ∧ (ending l p mo).2.length ≤ 1000 := by
 have hd : drawT.length ≤ 1000 := by decide
 have hw : (wonT p.turn).length ≤ 1000 := by unfold wonT; split <;> decide
 unfold ending
 simp only
 repeat' split
 all_goals first
  | exact ⟨h0, h9, hl⟩
  | exact ⟨by simp only; omega, by simp only; omega, hd⟩
  | exact ⟨by simp only; omega, by simp only; omega, hw⟩
theorem uciT_len (m : Mv) : (uciT m).length ≤ 5 := by
 have h1 := sqT_len m.fr
 have h2 := sqT_len m.to
 have h3 := small_len m.promo
 unfold uciT
 rw [List.length_append, List.length_append]
 split
 ·omega
 ·simp only [List.length_nil]; omega
theorem lanT_len (p : Pos) (m : Mv) : (lanT p m).length ≤ 11 := by
 unfold lanT
 split
 ·exact sanT_len p m
 ·have h1 := sqT_len m.fr
  have h2 := sqT_len m.to
  have h3 := letter_len (kindOf (sq p m.fr))
  have h4 := takeT_len p m
  have h5 := promoT_len m
  have h6 := signT_len p m
  simp only [List.length_append]
  omega
theorem told_ok (p : Pos) (m : Mv) : 0 ≤ told p m ∧ told p m ≤ 100 := by
 unfold told toldBase castleKind
 repeat' split
 all_goals omega
theorem xfenT_len {p : Pos} (hh : p.half.toNat < 10000000) (hf : p.full.toNat < 10000000) : (xfenT p).length ≤ 1000 := by
 unfold xfenT
 split
 ·exact fenT_len hh hf
 ·exact fenT_len (p := { p with ep := -1 }) hh hf
theorem stR_of {p : Pos} (hI : Inv p) (hh : p.half ≤ 5000000) (hf : p.full ≤ 5000000) {m : Mv} (hm : m ∈ legal p) (hr : MvR m) {mo : Int × Tx} (h0 : 0 ≤ mo.1) (h9 : mo.1 ≤ 9) (hl : mo.2.length ≤ 1000) : StR (stepOf p m mo) := by
 have hI2 := hI.made hm
 have a1 := made_half hI m
 have a2 := made_full hI m
 have a3 := told_ok p m
 have a4 := sanT_len p m
 have a5 := lanT_len p m
 have a6 := uciT_len m
 have a7 : PosR (made p m) := posR_of hI2 ⟨zo, zo⟩
 have a8 : (fenT (made p m)).length ≤ 1000 := fenT_len zo zo
 have a9 : (xfenT (made p m)).length ≤ 1000 := xfenT_len zo zo
 have b1 : I64 (told p m) := ⟨zo, zo⟩
 have b2 : I64 mo.1 := ⟨zo, zo⟩
 have b3 : I64 (statusOf (made p m)) := by
  unfold statusOf
  repeat' split
  all_goals exact ⟨zo, zo⟩
 unfold stepOf
 generalize told p m = x1 at *
 generalize sanT p m = x2 at *
 generalize lanT p m = x3 at *
 generalize uciT m = x4 at *
 generalize fenT (made p m) = x5 at *
 generalize xfenT (made p m) = x6 at *
 generalize statusOf (made p m) = x7 at *
 generalize made p m = q at *
 exact ⟨hr, b1, by simp only; omega, by simp only; omega, by simp only; omega, a8, a9, a7, hl, b2, b3⟩
theorem story_ok : ∀ (ms : List Mv) (l : List Pos) (p : Pos) (mo : Int × Tx), Inv p → p.half + ms.length ≤ 5000000 → p.full + ms.length ≤ 5000000 → (∀ m ∈ ms, MvR m) → 0 ≤ mo.1 → mo.1 ≤ 9 → mo.2.length ≤ 1000 → ∀ s ∈ story l p mo ms, StR s := by
 intro ms
 induction ms with
 | nil => intro l p mo _ _ _ _ _ _ _ s hs; cases hs
 | cons m r ih =>
  intro l p mo hI hh hf hms h0 h9 hl s hs
  rw [story_cons] at hs
  split at hs
  ·rename_i hm
   have hm : m ∈ legal p := of_decide_eq_true hm
   have a1 := made_half hI m
   have a2 := made_full hI m
   have a3 := hI.h0
   have a4 := hI.f1
   simp only [List.length_cons] at hh hf
   obtain ⟨b0, b9, bl⟩ := ending_ok (l := l ++ [made p m]) (p := made p m) h0 h9 hl
   rcases List.mem_cons.1 hs with e | hs
   ·subst e
    exact stR_of hI zo zo hm (hms m List.mem_cons_self) b0 b9 bl
   ·exact ih _ _ _ (hI.made hm) zo zo (fun x hx => hms x (List.mem_cons_of_mem _ hx)) b0 b9 bl s hs
  ·cases hs
theorem story_len : ∀ (ms : List Mv) (l : List Pos) (p : Pos) (mo : Int × Tx), (story l p mo ms).length ≤ ms.length := by
 intro ms
 induction ms with
 | nil => intro l p mo; exact Nat.le_refl _
 | cons m r ih =>
  intro l p mo
  rw [story_cons]
  split
  ·have := ih (l ++ [made p m]) (made p m) (ending (l ++ [made p m]) (made p m) mo)
   simp only [List.length_cons]; omega
  ·simp
theorem storyOf_ok {p : Pos} (hI : Inv p) (hh : p.half ≤ 1000000) (hf : p.full ≤ 1000000) {ms : List Mv} (hn : ms.length ≤ 80) (hms : ∀ m ∈ ms, MvR m) (looked : Bool) : ∀ s ∈ storyOf p looked ms, StR s := by
 have hs : star.length ≤ 1000 := by decide
 have h0 : (0 : Int) ≤ ((0 : Int), star).1 := Int.le_refl 0
 have h9 : ((0 : Int), star).1 ≤ 9 := show (0 : Int) ≤ 9 by omega
 obtain ⟨b0, b9, bl⟩ := ending_ok (l := [p]) (p := p) h0 h9 hs
 have e : storyOf p looked ms = story [p] p (if looked then ending [p] p (0, star) else (0, star)) ms := rfl
 rw [e]
 split
 ·exact story_ok ms _ _ _ hI zo zo hms b0 b9 bl
 ·exact story_ok ms _ _ _ hI zo zo hms h0 h9 hs
theorem FnStory_c (s : Pos) (usual : Bool) (ms : List Mv) (hms : ∀ m ∈ ms, MvR m) {v : Value} (w : World) (hT : Tabs w) (hS : Spc w) (hw : Pow w) (hrow : MvIn w v ms) : Calls G.P 3 #[posV s, .bool usual, v] w (Ret (.bool true) w) := by
 obtain ⟨al, cl, rfl, hal⟩ := hrow.form
 have hst := fun w => stFrom_c s usual w
 have hu : usual = true → (if usual then startP else s) = startP := fun h => by rw [if_pos h]
 have hfe := fun (hI : Inv (if usual then startP else s)) (hN : Nums (if usual then startP else s)) w => stFen_c s usual (fun h => fen_of (p := s) (by simpa [h] using hI) (by simpa [h] using hN)) w
 have htx : (if usual then ([] : Tx) else fenT s) = (if usual then [] else fenT (if usual then startP else s)) := by cases usual <;> simp
 have hnn : usual = false → s = (if usual then startP else s) := fun h => by rw [if_neg (by simp [h])]
 rw [htx] at hfe
 generalize (if usual then startP else s) = p at *
 have hP := posA_size p
 refine zN Tryz.func3 ?_
 refine zG ?_
 generalize hW : w.alloc (.cells (posA s) 24) = W0
 have hP0 : W0.heap[w.heap.size]? = some (.cells (posA s) 24 (0, 0)) := by rw [← hW]; exact alloc_new _ _
 have hE : Cl w W0 := by rw [← hW]; exact Cl.alloc _ _
 clear hW
 refine zR ?_
 apply E.dsplit<;>intro h
 ·refine zR ?_
  exact ⟨rfl, hE⟩
 have hlen := h; clear h
 refine zR ?_
 refine loadK _ (ldPos hP0) (zR ?_)
 refine callR (hst _) fun w2 c2 => zR ?_
 obtain ⟨zp, hzp, hz69⟩ := zPos
 refine gen_alloc zp hzp ?_
 have hB0 : (w2.alloc (.cells zp.cells 24)).heap[w2.heap.size]? = some (.cells zp.cells 24 (0, 0)) := alloc_new _ _
 have c3 : Cl w2 (w2.alloc (.cells zp.cells 24)) := Cl.alloc _ _
 have hP1 := (c2.trans c3).blk hP0
 have c3 := hE.trans (c2.trans c3)
 generalize w2.alloc (.cells zp.cells 24) = w3 at *
 refine zR ?_
 refine stK hB0 (posL p) rfl szPos (posL_len _) (one_pos _) (by rw [hz69]; omega) (fun w4 u4 => ?_)
 have hB1 : w4.heap[w2.heap.size]? = some (.cells (posA p) 24 (0, 0)) := by rw [u4.at_, over_all _ _ (by rw [posL_len, hz69])]; rfl
 have hs2 : w.heap.size < w2.heap.size := by have := (c2.blk hP0); exact (Array.getElem?_eq_some_iff.1 this).1
 have hP4 : w4.heap[w.heap.size]? = some (.cells (posA s) 24 (0, 0)) := (Tn.upd u4).blk hP1 zo
 have c4 : Cl w w4 := u4.cl c3 zo
 clear hB0 u4 hP1 c3 hP0
 refine zR ?_
 refine loadK _ (ldPos hB1) (zR ?_)
 refine callR (stAsked_c p ms hms _ (hrow.step c4)) fun w5 c5 => ?_
 have c5' := c4.trans c5
 have hask := @asked_of p ms
 generalize asked p ms = aq at *
 cases aq
 ·refine zR ?_
  exact ⟨rfl, c5'⟩
 obtain ⟨hI, hh, hf, hn, hq⟩ := hask rfl
 have hb0 := hI.h0
 have hb1 := hI.f1
 have hB5 := c5.blk hB1
 have hP5 := c5.blk hP4
 refine zR ?_
 refine loadK _ (ldPos hB5) (zR ?_)
 refine callK (Story_c p hI ⟨zo, zo⟩ (!usual) ms hms zo w5 (hrow.step c5')) ?_
 rintro _ w6 ⟨vw, rfl, hW6, c6⟩
 have cw := c5'.trans c6
 have hst := storyOf_ok hI hh hf hn hms (!usual)
 have hsl : (storyOf p (!usual) ms).length ≤ 100000 := by
  have : (storyOf p (!usual) ms).length ≤ ms.length := story_len ms _ _ _
  omega
 have hfe := hfe hI ⟨zo, zo⟩
 have him := fun w hT hS hw hrow => implStory_c hI hh hf ms hms hq hn usual hu (v := .slice al ms.length cl) w hT hS hw hrow
 generalize storyOf p (!usual) ms = S at *
 generalize (if usual then ([] : Tx) else fenT p) = T at *
 obtain ⟨aw, kw, rfl, _⟩ := hW6.form
 refine ⟨_, rfl, ?_⟩
 refine zR ?_
 refine loadK _ (ldPos (c6.blk hP5)) (zR ?_)
 refine callR (hfe _) fun w7 c7 => ?_
 have cw := cw.trans c7
 refine zR ?_
 refine callK (him w7 (hT.cl cw) (hS.cl cw) (hw.cl cw) (hrow.step cw)) ?_
 rintro _ w8 ⟨vi, rfl, hW8, c8⟩
 have cw := cw.trans c8
 refine ⟨_, rfl, ?_⟩
 have hW6 := hW6.step (c7.trans c8)
 obtain ⟨ai, ki, rfl, _⟩ := hW8.form
 refine zR ?_
 (repeat (refine E.dtrue rfl ?_; refine zR ?_))
 refine callR (SameStory_c S hst hsl w8 hW8 hW6) fun w9 c9 => zR ?_
 (repeat (refine E.dtrue rfl ?_; refine zR ?_))
 exact ⟨rfl, cw.trans c9⟩
end
end Go.Proofs.YtpclhlhcegcflaaGreatDoor
