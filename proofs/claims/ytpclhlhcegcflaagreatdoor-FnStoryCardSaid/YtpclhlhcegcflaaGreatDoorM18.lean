/- One part of the proof: Pk15 Law9 TxM Fac Pk16. -/
import Derived.Laws.BytesArg
import Derived.Lib.AppendStr
import Derived.Test.YtpclhlhcegcflaaGreatDoorM1
import Derived.Test.YtpclhlhcegcflaaGreatDoorM3
import Derived.Test.YtpclhlhcegcflaaGreatDoorM10
import Derived.Test.YtpclhlhcegcflaaGreatDoorM17
namespace Go.Proofs.YtpclhlhcegcflaaGreatDoor
set_option maxRecDepth 100000
set_option linter.unusedSimpArgs false
set_option linter.unusedVariables false
section
open Go Go.RowKit
open E
open Ch Bb
theorem Grow.toCl {b0 : Nat} {w0 w w' : World} {v v' : Value} (h : Grow b0 w v w' v') (hb : w0.heap.size = b0) (hc : Cl w0 w) : Cl w0 w' := h.cl w0 hb hc
theorem mac_len {p : Pos} (hI : Inv p) (hle : (macStd p).length ≤ 218) : (mac p).length ≤ 220 := by
 unfold mac
 rw [List.length_append]
 have : (macCas p).length ≤ 2 := by unfold macCas; split <;> split <;> simp
 omega
theorem run_append_none {P : Program} (w : World) (t ty e : TypeId) (i : TypeInfo) (ht : P.underlying t = some (.slice e)) (hi : P.info? e = some i) (b a : Addr) (sLen sCap c : Nat) (h : sLen ≤ sCap) :
  (Builtin.append_ #[t, t] ty #[.slice (some b) sLen sCap, .slice (some a) 0 c]).run P w = .ok (.slice (some b) sLen sCap) w := by
 have hf := run_firstCells_some (P := P) w i.size 0 a 0 c [] (by simp) (by simp)
 simp [Builtin.append_, run_underlying ht, sizeOf, typeInfo, hi, Builtin.lenOf, h, hf, storeCells]
theorem gen_appT {α : Type} {t e z b : Nat} (E1 : ElemOk t e z b) {enc : α → List Value} {l news : List α} {dst : Option Nat} {s x : Operand} {ty : Nat} {pos : String} {af : Array Edge} {gd : Option (Nat × Bool)} {env : Env} {w : World} {K : Value → World → Prop}
  {g0 g c : Nat} (hs : ev env s = .slice (some ⟨g0, 0, none⟩) l.length l.length) (hA : ∀ (j : Nat) (u : Value), (l.flatMap enc)[j]? = some u → w.cell? ⟨g0, j, none⟩ = some u)
  (hx : ev env x = .slice (some ⟨g, 0, none⟩) news.length c) (hB : ∀ (j : Nat) (u : Value), (news.flatMap enc)[j]? = some u → w.cell? ⟨g, j, none⟩ = some u) (henc : ∀ x, (enc x).length = z)
  (hlen : l.length + news.length ≤ 1000) (hbz : b ≤ 1000)
  (h : ∀ a c w', Cl w w' → K (.slice (some a) (l.length + news.length) c) w') :
  GenK G.P { dst, op := .call { callee := .builtin .append, args := #[s, x], argTypes := #[t, t] }, type := ty, pos, after := af, guard := gd } env w K := by
 obtain ⟨i, zv, hi, hzv, hsz, hby, hzs⟩ := E1.info
 by_cases hn : news.length = 0
 ·have h1 := run_append_none (P := G.P) w t ty e i E1.ty hi ⟨g0, 0, none⟩ ⟨g, 0, none⟩ l.length l.length c (Nat.le_refl _)
  refine ⟨.inl ⟨_, w, ?_, by have := h ⟨g0, 0, none⟩ l.length w (Cl.refl _); rw [hn, Nat.add_zero] at this; exact this⟩⟩
  simp only [execOp, resolve, invoke, builtin, Sem.run_bind, Sem.run_pure, Result.andThen_ok, List.map_toArray, List.map_cons, List.map_nil, hs, hx, hn, h1]
 ·have hcap : Builtin.nextslicecap (l.length + news.length) l.length ≤ 4 * (l.length + news.length) + 64 := by
   have := nextslicecap_le (need := l.length + news.length) (old := l.length) zo; omega
  have h1 := run_append_grow (P := G.P) w t ty e i zv E1.ty hi hzv ⟨g0, 0, none⟩ l.length l.length (l.flatMap enc) (by rw [flat_len henc, hsz]) (fun j v hv => by rw [addr_add, Nat.zero_add]; exact hA j v hv) ⟨g, 0, none⟩ news.length c (news.flatMap enc) (by rw [flat_len henc, hsz]) (fun j v hv => by rw [addr_add, Nat.zero_add]; exact hB j v hv)
   zo zo (by
    have : Builtin.nextslicecap (l.length + news.length) l.length * i.bytes ≤ 5000 * 1000 := Nat.mul_le_mul zo zo
    omega)
  have hc := (Cl.drew (Cl.refl w)).trans (Cl.alloc w.drew (.cells ((l.flatMap enc).toArray ++ (news.flatMap enc).toArray ++ Builtin.zeroCells zv.cells (grownCap w (l.length + news.length) l.length e - (l.length + news.length))) e))
  generalize w.drew.alloc (.cells ((l.flatMap enc).toArray ++ (news.flatMap enc).toArray ++ Builtin.zeroCells zv.cells (grownCap w (l.length + news.length) l.length e - (l.length + news.length))) e) = w2 at *
  refine ⟨.inl ⟨.slice (some ⟨w.heap.size, 0, none⟩) (l.length + news.length) (grownCap w (l.length + news.length) l.length e), w2, ?_, h _ _ _ hc⟩⟩
  simp only [execOp, resolve, invoke, builtin, Sem.run_bind, Sem.run_pure, Result.andThen_ok, List.map_toArray, List.map_cons, List.map_nil, hs, hx, h1]
theorem CalcMoves_c {p : Pos} (hI : Inv p) (hle : (macStd p).length ≤ 218) (first : Bool) {P b : Nat} {cv : Value} (w : World) (hT : Tabs w)
  (hP : w.heap[P]? = some (.cells (hdA b (hdOf p (inCheck p)) cv) 173 (0, 0))) (hB : w.heap[b]? = some (.cells (mbA (mbOf p)) 237 (0, 0))) :
  Calls G.P 139 #[.agg #[], .pointer (some ⟨P, 0, none⟩), .bool first] w (fun r w' => Cl w w' ∧ ∃ v, r = .returned v ∧ if first = true then ∃ a n c, v = .slice a n c ∧ (0 < n ↔ mac p ≠ []) else Row 141 11 encPM w.heap.size w' v (mac p)) := by
 refine zN Tryz.func139 ?_
 refine zR ?_
 have hPs : P < w.heap.size := (Array.getElem?_eq_some_iff.1 hP).1
 have hbx := Cl.alloc w (.cells #[] 186)
 generalize w.alloc (.cells #[] 186) = w0 at *
 have hst := standard_c hI hle first w0 (hT.cl hbx) (hbx.blk hP) (hbx.blk hB)
 refine callK hst ?_
 rintro r w1 ⟨c1, v, rfl, hv⟩
 have c1' := hbx.trans c1
 obtain ⟨av, nv, kv, rfl⟩ : ∃ a n c, v = .slice a n c := by
  cases first
  ·rw [if_neg zd] at hv
   obtain ⟨a, c, e, _⟩ := hv.form
   exact ⟨_, _, _, e⟩
  ·rw [if_pos rfl] at hv
   rcases hv with ⟨_, hv⟩ | ⟨_, g, y, u, e, _⟩
   ·obtain ⟨a, c, e, _⟩ := hv.form
    exact ⟨_, _, _, e⟩
   ·exact ⟨_, _, _, e⟩
 refine ⟨_, rfl, ?_⟩
 refine zR ?_
 refine callK (castle_c hI w1 (hT.cl c1') (c1'.blk hP) (c1'.blk hB)) ?_
 rintro r w2 ⟨c2, g, rfl, hg, hgc⟩
 have c2' := c1'.trans c2
 have hm2 : (macCas p).length ≤ 2 := by unfold macCas; split <;> split <;> simp
 have hmac : mac p = macStd p ++ macCas p := rfl
 refine ⟨_, rfl, ?_⟩
 refine zR ?_
 have s0 : w0.heap.size ≤ w2.heap.size := (c1.trans c2).size
 cases first
 ·rw [if_neg zd] at hv
  refine gen_appG elPM (v := .slice av nv kv) (l := macStd p) (news := macCas p) rfl (hv.step c2) rfl hgc encPM_len encPM_one zo zd s0 fun v' w' hr hgr => ?_
  obtain ⟨a9, c9, rfl, _⟩ := hr.form
  refine zR ?_
  refine ⟨hgr.toCl rfl ((Cl.refl _).trans (c1.trans c2)) |> hbx.trans, _, rfl, ?_⟩
  rw [if_neg zd, hmac]
  exact hr.mono hbx.size
 ·rw [if_pos rfl] at hv
  rcases hv with ⟨h0, hv⟩ | ⟨h0, g1, y, u, e1, hy⟩
  ·refine gen_appG elPM (v := .slice av nv kv) (l := []) (news := macCas p) rfl (hv.step c2) rfl hgc encPM_len encPM_one (by simp; omega) zd s0 fun v' w' hr hgr => ?_
   obtain ⟨a9, c9, rfl, _⟩ := hr.form
   refine zR ?_
   refine ⟨hgr.toCl rfl ((Cl.refl _).trans (c1.trans c2)) |> hbx.trans, _, rfl, ?_⟩
   rw [if_pos rfl, hmac, h0]
   exact ⟨_, _, _, rfl, List.length_pos_iff⟩
  ·injection e1 with e1 e2 e3
   subst e1 e2 e3
   refine gen_appT elPM (l := [y]) (news := macCas p) rfl (fun j x hx => ?_) rfl hgc encPM_len (by simp; omega) zd fun a c w' c3 => ?_
   ·rw [cell_of_blk (c2.blk hy)]
    simp only [List.flatMap_cons, List.flatMap_nil, List.append_nil] at hx
    rw [← hx]; simp [ndA, encPM]
   refine zR ?_
   refine ⟨c2'.trans c3, _, rfl, ?_⟩
   rw [if_pos rfl, hmac]
   exact ⟨_, _, _, rfl, fun _ e => h0 (List.append_eq_nil_iff.1 e).1, fun _ => Nat.add_pos_left Nat.one_pos _⟩
structure PosM (w : World) (P b : Nat) (p : Pos) (cv : Value) : Prop where
 hd : w.heap[P]? = some (.cells (hdA b (hdOf p (inCheck p)) cv) 173 (0, 0))
 bd : w.heap[b]? = some (.cells (mbA (mbOf p)) 237 (0, 0))
 ca : cv = .slice none 0 0 ∨ Row 141 11 encPM 0 w cv (mac p)
theorem PosM.step {w w' : World} {P b : Nat} {p : Pos} {cv : Value} (h : PosM w P b p cv) (c : Cl w w') : PosM w' P b p cv :=
 ⟨c.blk h.hd, c.blk h.bd, h.ca.elim .inl fun h => .inr (h.step c)⟩
theorem PosM.form {w : World} {P b : Nat} {p : Pos} {cv : Value} (h : PosM w P b p cv) : ∃ a n c, cv = .slice a n c := by
 rcases h.ca with e | e
 ·exact ⟨_, _, _, e⟩
 ·obtain ⟨a, c, e, _⟩ := e.form
  exact ⟨_, _, _, e⟩
theorem PosM.keep {w w' : World} {P b : Nat} {p : Pos} {cv : Value} (h : PosM w P b p cv) (hk : ∀ (k : Nat) (cs : Array Value) (t : Nat), t ≠ 131 → w.heap[k]? = some (.cells cs t (0, 0)) → w'.heap[k]? = some (.cells cs t (0, 0))) : PosM w' P b p cv := by
 refine ⟨hk _ _ _ zd h.hd, hk _ _ _ zd h.bd, h.ca.elim .inl fun h => .inr ?_⟩
 refine ⟨h.1, ?_⟩
 rcases h.2 with h2 | ⟨g, cap, cur, h1, h2, h3, h4⟩
 ·exact .inl h2
 ·exact .inr ⟨g, cap, cur, h1, h2, hk _ _ _ zd h3, h4⟩
theorem stHcv {w : World} {P b u : Nat} {h : Hd} {cv : Value} {K : World → Prop} (hP : w.heap[P]? = some (.cells (hdA b h cv) u (0, 0))) (a : Option Addr) (n c : Nat) (hk : ∀ w', Upd w P (.cells (hdA b h (.slice a n c)) u (0, 0)) w' → K w') : StoreK G.P w 132 ⟨P, 2, none⟩ (.slice a n c) K :=
 zT hP [.slice a n c] (fun w2 u2 => hk w2 u2)
theorem PosM.turn {w w' : World} {P b : Nat} {p : Pos} {cv cv' : Value} (h : PosM w P b p cv) (u : Upd w P (.cells (hdA b (hdOf p (inCheck p)) cv') 173 (0, 0)) w') (hne : b ≠ P) {b0 : Nat} (hr : Row 141 11 encPM b0 w cv' (mac p)) : PosM w' P b p cv' := by
 refine ⟨u.at_, (Tn.upd u).blk h.bd hne, .inr ?_⟩
 have hr := hr.mono (Nat.zero_le b0)
 refine ⟨hr.1, ?_⟩
 rcases hr.2 with h2 | ⟨g, cap, cur, h1, h2, h3, h4⟩
 ·exact .inl h2
 ·refine .inr ⟨g, cap, cur, h1, h2, (Tn.upd u).blk h3 (fun e => ?_), h4⟩
  subst e
  rw [h.hd] at h3
  injection h3 with h3; injection h3 with _ h3 _
  exact absurd h3 zd
theorem PosM.ne {w : World} {P b : Nat} {p : Pos} {cv : Value} (h : PosM w P b p cv) : b ≠ P := by
 intro e
 have := h.bd
 rw [e, h.hd] at this
 injection this with this; injection this with _ this _
 exact absurd this zd
theorem Row.own {α : Type} {enc : α → List Value} {e z b0 k : Nat} {w : World} {v : Value} {l : List α} (h : Row e z enc b0 w v l) (hk : v.ownBlock = some k) : b0 ≤ k ∧ k < w.heap.size := by
 rcases h.2 with ⟨e1, _⟩ | ⟨g, cap, cur, e1, e2, e3, _⟩
 ·rw [e1] at hk; cases hk
 ·rw [e1] at hk; injection hk with hk; subst hk; exact ⟨e2, (Array.getElem?_eq_some_iff.1 e3).1⟩
theorem ValidMoves_c {p : Pos} (hI : Inv p) (hle : (macStd p).length ≤ 218) {P b : Nat} {cv : Value} (w : World) (hT : Tabs w) (hM : PosM w P b p cv) :
  Calls G.P 99 #[.pointer (some ⟨P, 0, none⟩)] w (fun r w' => ∃ v cv', r = .returned v ∧ Row 141 11 encPM w.heap.size w' v (mac p) ∧ PosM w' P b p cv' ∧ Tn P w w' ∧ Row 141 11 encPM 0 w' cv' (mac p) ∧ ∀ k, cv'.ownBlock = some k → cv.ownBlock = some k ∨ w.heap.size ≤ k) := by
 have hl := mac_len hI hle
 obtain ⟨a0, n0, c0, rfl⟩ := hM.form
 have hP := hM.hd
 have hPs : P < w.heap.size := (Array.getElem?_eq_some_iff.1 hP).1
 refine zN Tryz.func99 ?_
 refine zR ?_
 refine loadK _ (ldHcv hP) (zR ?_)
 refine gen_neN _ (cmp_slice rfl a0 n0 c0) ?_
 cases a0 with
 | some ad =>
  refine zR ?_
  refine loadK _ (ldHcv hP) (zR ?_)
  have hr : Row 141 11 encPM 0 w (.slice (some ad) n0 c0) (mac p) := hM.ca.elim (fun e => by cases e) id
  refine gen_appX elPM (l := []) (news := mac p) rfl (Row.nil w w.heap.size) rfl hr encPM_len encPM_one (by simp; omega) zd (Nat.le_refl _) fun v' w' hr' hg => ?_
  rw [List.nil_append] at hr'
  obtain ⟨a9, c9, rfl, _⟩ := hr'.form
  have hc : Cl w w' := hg.toCl rfl (Cl.refl _)
  refine zR ?_
  exact ⟨_, _, rfl, hr', hM.step hc, Tn.cl hc, hr.step hc, fun k h => .inl h⟩
 | none =>
  refine zR ?_
  refine gen_build #[] zk (zR ?_)
  refine callK (CalcMoves_c hI hle false w hT hP hM.bd) ?_
  rintro r w1 ⟨c1, v, rfl, hv⟩
  rw [if_neg zd] at hv
  obtain ⟨a, c, rfl, _⟩ := hv.form
  refine ⟨_, rfl, ?_⟩
  have hM1 := hM.step c1
  refine zR ?_
  refine stHcv hM1.hd a _ c fun w2 u2 => ?_
  have hM2 := hM1.turn u2 hM.ne hv
  have n2 : Tn P w w2 := (Tn.cl c1).trans (Tn.upd u2)
  refine zR ?_
  refine loadK _ (ldHcv hM2.hd) (zR ?_)
  have hr : Row 141 11 encPM 0 w2 (.slice a (mac p).length c) (mac p) := hM2.ca.elim (fun e => by
   injection e with e1 e2 e3
   subst e1 e3
   have : mac p = [] := List.length_eq_zero_iff.1 e2
   rw [this]; exact Row.nil _ _) id
  refine gen_appX elPM (l := []) (news := mac p) rfl (Row.nil w2 w2.heap.size) rfl hr encPM_len encPM_one (by simp; omega) zd (Nat.le_refl _) fun v' w' hr' hg => ?_
  rw [List.nil_append] at hr'
  obtain ⟨a9, c9, rfl, _⟩ := hr'.form
  have hc : Cl w2 w' := hg.toCl rfl (Cl.refl _)
  refine zR ?_
  exact ⟨_, _, rfl, hr'.mono n2.size, hM2.step hc, n2.trans (Tn.cl hc), hr.step hc, fun k h => .inr (hv.own h).1⟩
theorem engineStatus_c {p : Pos} (hI : Inv p) (hle : (macStd p).length ≤ 218) {P b : Nat} {cv : Value} (w : World) (hT : Tabs w) (hM : PosM w P b p cv) :
  Calls G.P 176 #[.agg #[], .pointer (some ⟨P, 0, none⟩)] w (Ret (.int .u8 (statusOf p)) w) := by
 obtain ⟨a0, n0, c0, rfl⟩ := hM.form
 have hne : (0 < (mac p).length) ↔ (legal p).isEmpty = false := by
  obtain ⟨m1, m2⟩ := mem_mac hI
  constructor
  ·intro h
   obtain ⟨x, hx⟩ := List.exists_mem_of_length_pos h
   cases e : (legal p).isEmpty
   ·rfl
   ·rw [List.isEmpty_iff] at e
    have := (m1 x hx).1
    rw [e] at this; cases this
  ·intro h
   cases e : legal p with
   | nil => rw [e] at h; cases h
   | cons m r =>
    obtain ⟨x, hx, _⟩ := m2 m (by rw [e]; exact List.mem_cons_self)
    exact List.length_pos_of_mem hx
 have hb : ∀ n : Nat, (0 < n ↔ (legal p).isEmpty = false) → decide ((n : Int) > 0) = !(legal p).isEmpty := by
  intro n h
  cases e : (legal p).isEmpty
  ·exact decide_eq_true (by have := h.2 e; omega)
  ·exact decide_eq_false (fun h2 => by have := h.1 zo; rw [e] at this; cases this)
 have hst : statusOf p = if !(legal p).isEmpty then 0 else if inCheck p then 1 else 4 := rfl
 refine zN Tryz.func176 ?_
 refine zG ?_
 have cb := Cl.alloc w (.cells #[] 186)
 have hM := hM.step cb
 have hT := hT.cl cb
 generalize w.alloc (.cells #[] 186) = w0 at *
 have hP := hM.hd
 refine Nx.mk (zG ?_)
 refine joinK (σ := Unit) [5] 6 (fun _ => [(5, .bool (!(legal p).isEmpty))]) (fun _ w' => Cl w0 w') zk ?_ (fun _ j w1 c1 => ?_)
 ·refine zR ?_
  refine loadK _ (ldHcv hP) (zR ?_)
  refine gen_neN _ (cmp_slice rfl a0 n0 c0) ?_
  cases a0 with
  | some ad =>
   have hr : Row 141 11 encPM 0 w0 (.slice (some ad) n0 c0) (mac p) := hM.ca.elim (fun e => by cases e) id
   obtain ⟨a, c, e, _⟩ := hr.form
   injection e with e1 e2 e3
   subst e2
   refine zR ?_
   refine loadK _ (ldHcv hP) (zR ?_)
   exact ⟨(), ⟨bool_eq (hb _ hne), trivial⟩, Cl.refl _⟩
  | none =>
   refine zR ?_
   refine gen_build #[] zk (zR ?_)
   refine callK (CalcMoves_c hI hle true w0 hT hP hM.bd) ?_
   rintro r w1 ⟨c1, v, rfl, hv⟩
   rw [if_pos rfl] at hv
   obtain ⟨a, n, c, rfl, hn⟩ := hv
   refine ⟨_, rfl, ?_⟩
   refine zR ?_
   exact ⟨(), ⟨bool_eq (hb n (hn.trans (by rw [← hne]; exact List.length_pos_iff.symm))), trivial⟩, c1⟩
 have hM1 := hM.step c1
 have hP := hM1.hd
 generalize (legal p).isEmpty = LE at *
 obtain ⟨ck, hck⟩ : ∃ ck, ck = inCheck p := ⟨_, rfl⟩
 rw [← hck] at hP hst
 have cc := cb.trans c1
 refine zR ?_
 refine kHchk hP ?_
 cases LE <;> cases ck
 ·refine zR ?_
  refine kHchk hP (zR ?_)
  exact ⟨ret_int hst.symm, cc⟩
 ·refine zR ?_
  refine kHchk hP (zR ?_)
  exact ⟨ret_int hst.symm, cc⟩
 ·refine zR ?_
  exact ⟨ret_int hst.symm, cc⟩
 ·refine zR ?_
  refine kHchk hP (zR ?_)
  exact ⟨ret_int hst.symm, cc⟩
theorem Status_c' {p : Pos} (hI : Inv p) (hle : (macStd p).length ≤ 218) {P b : Nat} {cv : Value} (w : World) (hT : Tabs w) (hM : PosM w P b p cv) :
  Calls G.P 112 #[.pointer (some ⟨P, 0, none⟩)] w (Ret (.int .u8 (statusOf p)) w) := by
 refine zN Tryz.func112 ?_
 refine zR ?_
 refine gen_build #[] zk (zR ?_)
 refine callR (engineStatus_c hI hle w hT hM) fun w1 c1 => zR ?_
 exact ⟨rfl, c1⟩
end
section
open Go Go.RowKit
open E
def encB (c : UInt8) : List Value := [.int .u8 (c.toNat : Int)]
theorem encB_len (c : UInt8) : (encB c).length = 1 := rfl
theorem encB_one (c : UInt8) : ∀ v ∈ encB c, v.oneCell' = true := by intro v hv; simp [encB] at hv; subst hv; rfl
theorem flatB (l : Tx) : l.flatMap encB = Lib.byteCells l := by
 induction l with
 | nil => rfl
 | cons c r ih => rw [List.flatMap_cons, ih]; rfl
theorem infoByte : ∃ i, G.P.info? 5 = some i ∧ i.zero = some (.int .u8 0) ∧ i.size = 1 ∧ i.bytes = 1 := by
 have h : (G.P.info? 5).map (fun i => (i.zero, i.size, i.bytes)) = some (some (.int .u8 0), 1, 1) := by kernel_rfl
 cases e : G.P.info? 5 with
 | none => rw [e] at h; cases h
 | some i =>
  rw [e] at h
  injection h with h; injection h with h1 h2; injection h2 with h2 h3
  exact ⟨i, rfl, h1, h2, h3⟩
section
variable {dst : Option Nat} {ty : Nat} {pos : String} {af : Array Edge} {gd : Option (Nat × Bool)} {env : Env} {w : World} {K : Value → World → Prop}
theorem gen_appS {b0 : Nat} {v : Value} {l s : Tx} {x y : Operand} (hs : ev env x = v) (hrow : Row 5 1 encB b0 w v l) (hx : ev env y = .string (tx s)) (hlen : l.length + s.length ≤ 1000000) (hb0 : b0 ≤ w.heap.size)
  (h : ∀ v' w', Row 5 1 encB b0 w' v' (l ++ s) → (∀ w0, w0.heap.size = b0 → Cl w0 w → Cl w0 w') → K v' w') :
  GenK G.P { dst, op := .call { callee := .builtin .append, args := #[x, y], argTypes := #[157, 9] }, type := ty, pos, after := af, guard := gd } env w K := by
 obtain ⟨i, hi, hz, hsz, hby⟩ := infoByte
 obtain ⟨v', w', h1, h2, h3, _⟩ := Lib.run_append_own_string (P := G.P) w b0 157 9 ty 5 i uBytes uStr hi hz hsz hby v l.length (l.flatMap encB) hrow (tx s) (by rw [tx_size]; unfold maxLen; omega) (by rw [tx_size]; omega) hb0
 have e : l.flatMap encB ++ Lib.strCells (tx s) = (l ++ s).flatMap encB := by rw [List.flatMap_append, flatB s]; rfl
 rw [e, tx_size] at h2
 refine ⟨.inl ⟨v', w', ?_, h v' w' ?_ (fun w0 hw0 hc => ?_)⟩⟩
 ·simp only [execOp, resolve, invoke, builtin, Sem.run_bind, Sem.run_pure, Result.andThen_ok, List.map_toArray, List.map_cons, List.map_nil, hs, hx, h1]
 ·unfold Row; rw [List.length_append]; exact h2
 ·subst hw0
  refine Below.grown hc h3 hb0 fun k hk => ?_
  rcases hrow.2 with ⟨e1, _⟩ | ⟨g, cap, cur, e1, e2, _⟩
  ·rw [e1] at hk; cases hk
  ·rw [e1] at hk; injection hk with hk; subst hk; exact e2
theorem gen_textR (l : Tx) {b0 : Nat} {v : Value} {x : Operand} (hx : ev env x = v) (hr : Row 5 1 encB b0 w v l) (h : K (txV l) w) :
  GenK G.P { dst, op := .convert 157 9 x, type := ty, pos, after := af, guard := gd } env w K := by
 obtain ⟨a, c, rfl, ha⟩ := hr.form
 cases a with
 | none =>
  have hl : l = [] := by
   cases l with
   | nil => rfl
   | cons y r => obtain ⟨g, e⟩ := ha (by simp); cases e
  subst hl
  refine ⟨.inl ⟨_, w, ?_, h⟩⟩
  show (do pure (Next.value (← convert _ _ (ev env x))) : Sem Next).run G.P w = _
  rw [hx, Sem.run_bind, run_convert_bytes_nil (P := G.P) w 157 5 uBytes uByte _ _ _ uStr]; rfl
 | some ad =>
  rcases hr.2 with ⟨e1, _⟩ | ⟨g, cap, cur, e1, e2, e3, e4, e5, e6, e7⟩
  ·cases e1
  ·injection e1 with e1 e8 e9
   injection e1 with e1; subst e1
   refine (gen_text l hx rfl e3 (fun j hj => ?_) h)
   rw [Nat.mul_one] at e7
   have e10 : (cur.toList.take l.length)[j]? = (l.flatMap encB)[j]? := by rw [e7]
   rw [List.getElem?_take, if_pos hj, Array.getElem?_toList, flatB] at e10
   rw [e10, Lib.byteCells, List.getElem?_map, List.getElem?_eq_getElem hj]; rfl
theorem gen_cutH {l : Tx} {s : ByteArray} {k : IntKind} {b : Int} {x hi : Operand} (r : Tx) (hx : ev env x = .string s) (hh : ev env hi = .int k b) (hs : s = tx l) (h0 : 0 ≤ b) (h2 : b ≤ l.length) (hr : l.take b.toNat = r) (h : K (txV r) w) :
  GenK G.P { dst, op := .slice 9 x none (some hi) none, type := ty, pos, after := af, guard := gd } env w K := by
 subst hs
 refine ⟨.inl ⟨_, w, ?_, h⟩⟩
 show (do pure (Next.value (← Instr.slice 9 (ev env x) none (some (ev env hi)) none)) : Sem Next).run G.P w = _
 rw [hx, hh, Sem.run_bind, run_slice_string_h (P := G.P) w 9 _ uStr _ _ h0 (by rw [tx_size]; exact h2), tx, ByteArray.extract_mk]
 rw [← hr, List.drop_zero, Nat.sub_zero]; rfl
theorem gen_cutL {l : Tx} {s : ByteArray} {k : IntKind} {a : Int} {x lo : Operand} (r : Tx) (hx : ev env x = .string s) (hh : ev env lo = .int k a) (hs : s = tx l) (h0 : 0 ≤ a) (h2 : a ≤ l.length) (hr : l.drop a.toNat = r) (h : K (txV r) w) :
  GenK G.P { dst, op := .slice 9 x (some lo) none none, type := ty, pos, after := af, guard := gd } env w K := by
 subst hs
 refine ⟨.inl ⟨_, w, ?_, h⟩⟩
 show (do pure (Next.value (← Instr.slice 9 (ev env x) (some (ev env lo)) none none)) : Sem Next).run G.P w = _
 rw [hx, hh, Sem.run_bind, run_slice_string_l (P := G.P) w 9 _ uStr _ _ h0 (by rw [tx_size]; exact h2), tx, ByteArray.extract_mk]
 rw [← hr, show (⟨l.toArray⟩ : ByteArray).size = l.length from tx_size l, List.take_of_length_le (by simp)]; rfl
end
end
section
namespace Ch
def rivM (p : Pos) (l : List PM) (m : Mv) : List PM := l.filter fun x => !decide (x.mv.fr = m.fr) && decide (x.mv.to = m.to) && decide (sq p m.fr = sq p x.mv.fr)
def s1M (p : Pos) (l : List PM) (m : Mv) : Tx :=
 if kindOf (sq p m.fr) = 6 then []
 else
  let req := !(rivM p l m).isEmpty
  let rankReq := (rivM p l m).any fun x => decide (x.mv.fr % 8 = m.fr % 8)
  let fileReq := (rivM p l m).any fun x => decide (x.mv.fr / 8 = m.fr / 8)
  (if fileReq || (!rankReq && req) then fileT m.fr else []) ++ (if rankReq then rankT m.fr else [])
theorem any_congr {p : Pos} (hI : Inv p) (m : Mv) (f : Int → Bool) : ((rivM p (mac p) m).any fun x => f x.mv.fr) = ((rivals p m).any fun x => f x.fr) := by
 obtain ⟨h1, h2⟩ := mem_mac hI
 rw [Bool.eq_iff_iff, List.any_eq_true, List.any_eq_true]
 unfold rivM rivals
 constructor
 ·rintro ⟨x, hx, hf⟩
  obtain ⟨ha, hb⟩ := List.mem_filter.1 hx
  simp only [Bool.and_eq_true, Bool.not_eq_true', decide_eq_true_eq, decide_eq_false_iff_not] at hb
  refine ⟨x.mv, List.mem_filter.2 ⟨(h1 x ha).1, ?_⟩, hf⟩
  simp only [Bool.and_eq_true, Bool.not_eq_true', decide_eq_true_eq, decide_eq_false_iff_not]
  exact ⟨⟨hb.1.2, hb.1.1⟩, hb.2.symm⟩
 ·rintro ⟨y, hy, hf⟩
  obtain ⟨ha, hb⟩ := List.mem_filter.1 hy
  simp only [Bool.and_eq_true, Bool.not_eq_true', decide_eq_true_eq, decide_eq_false_iff_not] at hb
  obtain ⟨x, hx, e⟩ := h2 y ha
  refine ⟨x, List.mem_filter.2 ⟨hx, ?_⟩, by rw [e]; exact hf⟩
  rw [e]
  simp only [Bool.and_eq_true, Bool.not_eq_true', decide_eq_true_eq, decide_eq_false_iff_not]
  exact ⟨⟨hb.1.2, hb.1.1⟩, hb.2.symm⟩
theorem isEmpty_any {α : Type} (l : List α) : l.isEmpty = !(l.any fun _ => true) := by cases l <;> rfl
theorem s1M_eq {p : Pos} (hI : Inv p) (m : Mv) (f0 : 0 ≤ m.fr) (f1 : m.fr ≤ 63) (hk : kindOf (sq p m.fr) ≠ 6) : s1M p (mac p) m = apart p m := by
 unfold s1M apart
 rw [if_neg hk]
 have e1 := any_congr hI m (fun f => decide (f % 8 = m.fr % 8))
 have e2 := any_congr hI m (fun f => decide (f / 8 = m.fr / 8))
 have e3 := any_congr hI m (fun _ => true)
 simp only [isEmpty_any, e1, e2, e3]
 have i1 : ((rivals p m).any fun x => decide (x.fr % 8 = m.fr % 8)) = true → ((rivals p m).any fun _ => true) = true := by
  intro h; obtain ⟨x, hx, _⟩ := List.any_eq_true.1 h; exact List.any_eq_true.2 ⟨x, hx, rfl⟩
 have i2 : ((rivals p m).any fun x => decide (x.fr / 8 = m.fr / 8)) = true → ((rivals p m).any fun _ => true) = true := by
  intro h; obtain ⟨x, hx, _⟩ := List.any_eq_true.1 h; exact List.any_eq_true.2 ⟨x, hx, rfl⟩
 have hs : sqT m.fr = fileT m.fr ++ rankT m.fr := by unfold sqT; rw [if_neg zo]
 generalize ((rivals p m).any fun x => decide (x.fr % 8 = m.fr % 8)) = a at *
 generalize ((rivals p m).any fun x => decide (x.fr / 8 = m.fr / 8)) = b at *
 generalize ((rivals p m).any fun _ => true) = c at *
 cases a <;> cases b <;> cases c <;> simp at * <;> simp [hs]
def signM (p : Pos) (m : Mv) (t : Nat) : Tx := if t.testBit 4 then (if (legal (made p m)).isEmpty then [35] else [43]) else []
def sanM (p : Pos) (m : Mv) (t : Nat) : Tx :=
 if t.testBit 0 then [79, 45, 79] ++ signM p m t
 else if t.testBit 1 then [79, 45, 79, 45, 79] ++ signM p m t
 else letter (kindOf (sq p m.fr)) ++ s1M p (mac p) m ++ (if t.testBit 2 || t.testBit 3 then (if kindOf (sq p m.fr) = 6 then fileT m.fr else []) ++ [120] else []) ++ sqT m.to ++ (if m.promo = 0 then [] else [61] ++ letter m.promo) ++ signM p m t
def lanM (p : Pos) (m : Mv) (t : Nat) : Tx :=
 if t.testBit 0 then [79, 45, 79] ++ signM p m t
 else if t.testBit 1 then [79, 45, 79, 45, 79] ++ signM p m t
 else letter (kindOf (sq p m.fr)) ++ sqT m.fr ++ (if t.testBit 2 || t.testBit 3 then [120] else []) ++ sqT m.to ++ (if m.promo = 0 then [] else [61] ++ letter m.promo) ++ signM p m t
theorem castleKind_cases (p : Pos) (m : Mv) : castleKind p m = 0 ∨ castleKind p m = 1 ∨ castleKind p m = 2 := by
 unfold castleKind; (repeat' split) <;> simp
theorem told_bits {p : Pos} {m : Mv} {t : Nat} (h : (t : Int) = told p m) : t.testBit 0 = decide (castleKind p m = 1) ∧ t.testBit 1 = decide (castleKind p m = 2) ∧ (t.testBit 2 || t.testBit 3) = takes p m ∧ t.testBit 4 = inCheck (made p m) := by
 have hx : (if sq p m.to ≠ 0 then (4 : Int) else if takes p m then 8 else 0) = 0 ∧ takes p m = false ∨ (if sq p m.to ≠ 0 then (4 : Int) else if takes p m then 8 else 0) = 4 ∧ takes p m = true ∨ (if sq p m.to ≠ 0 then (4 : Int) else if takes p m then 8 else 0) = 8 ∧ takes p m = true := by
  by_cases h0 : sq p m.to ≠ 0
  ·right; left; rw [if_pos h0]; refine ⟨rfl, ?_⟩; unfold takes; simp [h0]
  ·rw [if_neg h0]; cases takes p m
   ·left; exact ⟨rfl, rfl⟩
   ·right; right; exact ⟨rfl, rfl⟩
 unfold told toldBase at h
 rcases castleKind_cases p m with hc | hc | hc <;> rw [hc] at h ⊢ <;> rcases hx with ⟨e, e2⟩ | ⟨e, e2⟩ | ⟨e, e2⟩ <;> rw [e] at h <;> rw [e2] <;> cases hi : inCheck (made p m) <;> rw [hi] at h
 ·rw [show t = 0 + 0 + 0 by simp at h; omega]; decide
 ·rw [show t = 0 + 0 + 16 by simp at h; omega]; decide
 ·rw [show t = 0 + 4 + 0 by simp at h; omega]; decide
 ·rw [show t = 0 + 4 + 16 by simp at h; omega]; decide
 ·rw [show t = 0 + 8 + 0 by simp at h; omega]; decide
 ·rw [show t = 0 + 8 + 16 by simp at h; omega]; decide
 ·rw [show t = 1 + 0 + 0 by simp at h; omega]; decide
 ·rw [show t = 1 + 0 + 16 by simp at h; omega]; decide
 ·rw [show t = 1 + 4 + 0 by simp at h; omega]; decide
 ·rw [show t = 1 + 4 + 16 by simp at h; omega]; decide
 ·rw [show t = 1 + 8 + 0 by simp at h; omega]; decide
 ·rw [show t = 1 + 8 + 16 by simp at h; omega]; decide
 ·rw [show t = 2 + 0 + 0 by simp at h; omega]; decide
 ·rw [show t = 2 + 0 + 16 by simp at h; omega]; decide
 ·rw [show t = 2 + 4 + 0 by simp at h; omega]; decide
 ·rw [show t = 2 + 4 + 16 by simp at h; omega]; decide
 ·rw [show t = 2 + 8 + 0 by simp at h; omega]; decide
 ·rw [show t = 2 + 8 + 16 by simp at h; omega]; decide
theorem signM_eq {p : Pos} {m : Mv} {t : Nat} (h : (t : Int) = told p m) : signM p m t = signT p m := by
 unfold signM signT
 rw [(told_bits h).2.2.2]
 cases inCheck (made p m) <;> simp
theorem legal_range {p : Pos} (hI : Inv p) {m : Mv} (h : m ∈ legal p) : 0 ≤ m.fr ∧ m.fr ≤ 63 ∧ 0 ≤ m.to ∧ m.to ≤ 63 ∧ (m.promo = 0 ∨ 2 ≤ m.promo ∧ m.promo ≤ 5 ∧ kindOf (sq p m.fr) = 6) := by
 rcases (legal_iff hI m).1 h with ⟨h, _⟩ | ⟨r, hr, _⟩
 ·refine ⟨h.f0, h.f1, h.t0, h.t1, ?_⟩
  rcases h.promo with ⟨e, _⟩ | ⟨e1, e2, e3, _⟩
  ·exact .inl e
  ·exact .inr ⟨e1, e2, e3⟩
 ·obtain ⟨r4, _, _, hc⟩ := castle_of hI hr
  obtain ⟨⟨k0, k1, _⟩, _⟩ := home_rank r r4
  have hk := hc.k; have ht := hI.turn
  have hw : (if homeR r < homeK r then (-1 : Int) else 1) = 1 ∨ (if homeR r < homeK r then (-1 : Int) else 1) = -1 := by split <;> simp
  rw [hc.mv]; simp only
  generalize (if homeR r < homeK r then (-1 : Int) else 1) = w at hw
  exact ⟨k0, k1, zo, zo, .inl trivial⟩
theorem promoT_eq (m : Mv) : (if m.promo = 0 then ([] : Tx) else [61] ++ letter m.promo) = promoT m := by unfold promoT; split <;> rfl
theorem sanM_eq {p : Pos} (hI : Inv p) {m : Mv} (hm : m ∈ legal p) {t : Nat} (h : (t : Int) = told p m) : sanM p m t = sanT p m := by
 obtain ⟨b0, b1, b2, b3⟩ := told_bits h
 obtain ⟨f0, f1, t0, t1, hp⟩ := legal_range hI hm
 unfold sanM sanT body
 rw [b0, b1, b2, signM_eq h]
 rcases castleKind_cases p m with hc | hc | hc
 ·rw [hc, promoT_eq]
  have d1 : decide ((0 : Int) = 1) = false := rfl
  have d2 : decide ((0 : Int) = 2) = false := rfl
  rw [d1, d2, if_neg (show ¬ (0 : Int) = 1 by decide), if_neg (show ¬ (0 : Int) = 2 by decide), if_neg Bool.false_ne_true, if_neg Bool.false_ne_true]
  by_cases hk : kindOf (sq p m.fr) = 6
  ·rw [if_pos hk, if_pos hk, hk]
   unfold s1M; rw [if_pos hk]
   cases takes p m <;> simp [letter]
  ·rw [if_neg hk, if_neg hk, s1M_eq hI m f0 f1 hk]
   have hp0 : m.promo = 0 := by
    rcases hp with e | ⟨_, _, e⟩
    ·exact e
    ·exact absurd e hk
   unfold takeT promoT
   rw [if_pos hp0]
   cases takes p m <;> simp
 ·rw [hc]; simp
 ·rw [hc]; simp
theorem lanM_eq {p : Pos} {m : Mv} {t : Nat} (h : (t : Int) = told p m) : lanM p m t = lanT p m := by
 obtain ⟨b0, b1, b2, b3⟩ := told_bits h
 unfold lanM lanT sanT body
 rw [b0, b1, b2, signM_eq h, promoT_eq]
 rcases castleKind_cases p m with hc | hc | hc
 ·rw [hc]; simp [takeT]
 ·rw [hc]; simp
 ·rw [hc]; simp
end Ch
namespace Ch
def suffM (p : Pos) : Bool :=
 if anyN (fun i => decide (kindOf (sq p i) = 2) || decide (kindOf (sq p i) = 3) || decide (kindOf (sq p i) = 6)) 64 then true
 else
  let n := cntN (fun i => decide (kindOf (sq p i) = 5)) 64
  let b := cntN (fun i => decide (kindOf (sq p i) = 4)) 64
  let b0 := cntN (fun i => decide (kindOf (sq p i) = 4) && decide ((file i + rank i) % 2 = 0)) 64
  let b1 := cntN (fun i => decide (kindOf (sq p i) = 4) && decide ((file i + rank i) % 2 = 1)) 64
  if b = 0 ∧ n = 0 then false else if b = 1 ∧ n = 0 then false else if b = 0 ∧ n = 1 then false
  else if n = 0 then (if b1 = 0 ∨ b0 = 0 then false else true) else true
theorem cnt_split (f g : Nat → Bool) (n : Nat) : cntN f n = cntN (fun i => f i && g i) n + cntN (fun i => f i && !g i) n := by
 induction n with
 | zero => rfl
 | succ n ih =>
  simp only [cntN, ih]
  by_cases hf : f n = true <;> by_cases hg : g n = true <;> simp [hf, hg] <;> omega
theorem cnt_congr {f g : Nat → Bool} (n : Nat) (h : ∀ i, i < n → f i = g i) : cntN f n = cntN g n := by
 induction n with
 | zero => rfl
 | succ n ih => simp only [cntN]; rw [ih (fun i hi => h i zo), h n zo]
theorem suffM_eq (p : Pos) : suffM p = !dead p := by
 unfold suffM dead
 split
 ·rfl
 ·have hs := cnt_split (fun i => decide (kindOf (sq p i) = 4)) (fun i => decide ((file i + rank i) % 2 = 0)) 64
  have hb : cntN (fun i => decide (kindOf (sq p i) = 4) && !decide ((file i + rank i) % 2 = 0)) 64 = cntN (fun i => decide (kindOf (sq p i) = 4) && decide ((file i + rank i) % 2 = 1)) 64 := by
   apply cnt_congr
   intro i _
   congr 1
   by_cases h : (file i + rank i) % 2 = 0
   ·simp [h]
   ·have : (file i + rank i) % 2 = 1 := by omega
    simp [this]
  rw [hb] at hs
  generalize cntN (fun i => decide (kindOf (sq p i) = 5)) 64 = n at *
  generalize cntN (fun i => decide (kindOf (sq p i) = 4)) 64 = b at *
  generalize cntN (fun i => decide (kindOf (sq p i) = 4) && decide ((file i + rank i) % 2 = 0)) 64 = b0 at *
  generalize cntN (fun i => decide (kindOf (sq p i) = 4) && decide ((file i + rank i) % 2 = 1)) 64 = b1 at *
  simp only
  by_cases h1 : b = 0 ∧ n = 0
  ·rw [if_pos h1, if_neg zo]; simp; omega
  rw [if_neg h1]
  by_cases h2 : b = 1 ∧ n = 0
  ·rw [if_pos h2, if_neg zo]; simp; omega
  rw [if_neg h2]
  by_cases h3 : b = 0 ∧ n = 1
  ·rw [if_pos h3, if_pos zo]; simp; omega
  rw [if_neg h3]
  by_cases h4 : n = 0
  ·rw [if_pos h4, if_neg (show ¬ 0 < n by omega)]
   by_cases h5 : b1 = 0 ∨ b0 = 0
   ·rw [if_pos h5]; simp; omega
   ·rw [if_neg h5]; simp; omega
  ·rw [if_neg h4, if_pos zo]; simp; omega
theorem sanTold_acc {p : Pos} {m : Mv} (hp : m.promo = 0 ∨ 2 ≤ m.promo ∧ m.promo ≤ 5) (h : sanTold p m = true) : tagsAcc p m = told p m := by
 unfold tagsAcc told
 congr 1
 have : checkAcc p m = inCheck (made p m) := by
  unfold checkAcc
  rcases hp with e | ⟨e1, e2⟩
  ·rw [if_pos e]
  ·rw [if_neg zo, Bool.eq_iff_iff, List.any_eq_true]
   constructor
   ·rintro ⟨k, hk, hc⟩
    simp only [Bool.and_eq_true, decide_eq_true_eq] at hc
    by_cases e : k = m.promo
    ·subst e; exact hc.2
    ·have := List.all_eq_true.1 h k hk
     simp only [Bool.not_eq_true', Bool.and_eq_false_iff, Bool.not_eq_false', decide_eq_false_iff_not] at this
     rcases this with (h1 | h1) | h1
     ·omega
     ·rw [h1] at hc; cases hc.2
     ·exact h1
   ·intro hc
    refine ⟨m.promo, ?_, ?_⟩
    ·have : m.promo = 2 ∨ m.promo = 3 ∨ m.promo = 4 ∨ m.promo = 5 := by omega
     rcases this with e | e | e | e <;> rw [e] <;> decide
    ·simp only [Bool.and_eq_true, decide_eq_true_eq]; exact ⟨zo, hc⟩
 rw [this]
def epM (p : Pos) (m : Mv) : Int :=
 if kindOf (sq p m.fr) ≠ 6 then -1
 else if p.turn = 0 ∧ rank m.fr = 1 ∧ rank m.to = 3 then m.to - 8
 else if p.turn = 1 ∧ rank m.fr = 6 ∧ rank m.to = 4 then m.to + 8
 else -1
theorem epM_eq {p : Pos} (hI : Inv p) {m : Mv} (hm : m ∈ legal p) : epM p m = (made p m).ep := by
 show _ = if twoStep p m then (m.fr + m.to) / 2 else -1
 have ht := hI.turn
 rcases (legal_iff hI m).1 hm with ⟨h, _⟩ | ⟨r, hr, _⟩
 ·unfold epM
  have f0 := h.f0; have f1 := h.f1
  cases h2 : twoStep p m
  ·simp only [Bool.false_eq_true, if_false]
   by_cases hk : kindOf (sq p m.fr) = 6
   ·rw [if_neg (by simp [hk])]
    unfold twoStep at h2
    rw [hk] at h2
    simp only [decide_true, Bool.true_and, Bool.or_eq_false_iff, decide_eq_false_iff_not] at h2
    rcases goal_cases hI h.f0 h.f1 h.there h.own h.goal with ⟨g, _⟩ | ⟨_, _, gf, g⟩ | ⟨_, gf, g, _⟩
    ·exact absurd hk g
    ·rw [if_neg, if_neg] <;> (simp only [file, rank, up] at *; omega)
    ·rw [if_neg, if_neg] <;> (simp only [file, rank, up] at *; omega)
   ·rw [if_pos hk]
  ·obtain ⟨hk, hto, hrk, _, _⟩ := two_iff hI h h2
   rw [if_neg (by simp [hk]), if_pos rfl]
   rcases ht with t | t
   ·have hfr : rank m.fr = 1 := by rw [hrk, t]; decide
    have hto' : m.to = m.fr + 16 := by rw [hto, t]; unfold up; omega
    rw [if_pos ⟨t, hfr, by simp only [rank] at *; omega⟩]; omega
   ·have hfr : rank m.fr = 6 := by rw [hrk, t]; decide
    have hto' : m.to = m.fr - 16 := by rw [hto, t]; unfold up; omega
    rw [if_neg zo, if_pos ⟨t, hfr, by simp only [rank] at *; omega⟩]; omega
 ·obtain ⟨_, _, _, hc⟩ := castle_of hI hr
  rw [twoStep_castle hI hc]
  unfold epM
  rw [if_pos]
  ·rfl
  ·rw [hc.mv]; simp only [hc.king, kind_king hI]; decide
def strip (t : Tx) (b : UInt8) : Tx := t.filter fun x => x != b
def dash (t : Tx) : Tx := if t.isEmpty then [45] else t
def crM (t : Tx) (f0 f1 f2 f3 : Bool) : Tx :=
 let t := if f0 then strip t 75 else t
 let t := if f1 then strip t 81 else t
 let t := if f2 then strip t 107 else t
 let t := if f3 then strip t 113 else t
 dash t
theorem crM_sub {c : Int} (h0 : 0 ≤ c) (h1 : c ≤ 15) (f0 f1 f2 f3 : Bool) : crM (castT c) f0 f1 f2 f3 = castT (subB c f0 f1 f2 f3) := by
 rcases bits16 h0 h1 with rfl | rfl | rfl | rfl | rfl | rfl | rfl | rfl | rfl | rfl | rfl | rfl | rfl | rfl | rfl | rfl <;> revert f0 f1 f2 f3 <;> decide
theorem sumB_congr (c : Int) {a0 a1 a2 a3 b0 b1 b2 b3 : Bool} (h0 : bit c 0 = true → a0 = b0) (h1 : bit c 1 = true → a1 = b1) (h2 : bit c 2 = true → a2 = b2) (h3 : bit c 3 = true → a3 = b3) :
  sumB c a0 a1 a2 a3 = sumB c b0 b1 b2 b3 := by
 have q : ∀ (a b x : Bool), (x = true → a = b) → (x && a) = (x && b) := by intro a b x h; cases x <;> simp at *; exact h
 unfold sumB
 rw [q _ _ _ h0, q _ _ _ h1, q _ _ _ h2, q _ _ _ h3]
def crF (p : Pos) (m : Mv) (n : Nat) : Bool :=
 if n = 0 then decide (sq p m.fr = 1) || decide (m.fr = 7) || decide (m.to = 7)
 else if n = 1 then decide (sq p m.fr = 1) || decide (m.fr = 0) || decide (m.to = 0)
 else if n = 2 then decide (sq p m.fr = 7) || decide (m.fr = 63) || decide (m.to = 63)
 else decide (sq p m.fr = 7) || decide (m.fr = 56) || decide (m.to = 56)
theorem no_king_own {p : Pos} (hI : Inv p) {m : Mv} (hm : m ∈ legal p) (c : Int) (hc : c = 0 ∨ c = 1) : sq p m.to ≠ 1 + 6 * c := by
 have ht := hI.turn
 rcases (legal_iff hI m).1 hm with ⟨h, _⟩ | ⟨r, hr, _⟩
 ·by_cases e : c = p.turn
  ·subst e
   rcases h.other with e | e
   ·rw [e]; omega
   ·intro e2; apply e; rw [e2]; exact sideOf_of zd zd ht
  ·have : c = 1 - p.turn := by omega
   subst this
   exact no_king hI h.f0 h.f1 h.there h.own h.goal
 ·obtain ⟨_, _, _, hcc⟩ := castle_of hI hr
  rw [hcc.mv]; simp only; rw [hcc.to]; omega
theorem crF_eq {p : Pos} (hI : Inv p) {m : Mv} (hm : m ∈ legal p) (n : Nat) (hn : n < 4) (hb : bit p.castle n = true) : crF p m n = touch m n := by
 obtain ⟨s1, s2⟩ := hI.right n hn hb
 obtain ⟨f0, f1, _, _, _⟩ := legal_range hI hm
 have hside : (n : Int) / 2 = 0 ∨ (n : Int) / 2 = 1 := by omega
 have hK := hI.king _ hside
 obtain ⟨⟨k0, k1, _⟩, _⟩ := home_rank n hn
 have e1 : sq p m.fr = 1 + 6 * ((n : Int) / 2) ↔ m.fr = homeK n := by
  constructor
  ·intro h; rw [hK.2.2.2 _ f0 f1 h, hK.2.2.2 _ k0 k1 s1]
  ·intro h; rw [h]; exact s1
 have e2 : ¬ m.to = homeK n := by intro h; exact no_king_own hI hm _ hside (by rw [h]; exact s1)
 unfold touch crF
 rw [decide_eq_false e2, Bool.or_false]
 have hnn : n = 0 ∨ n = 1 ∨ n = 2 ∨ n = 3 := by omega
 rcases hnn with rfl | rfl | rfl | rfl
 ·rw [if_pos rfl, show decide (sq p m.fr = 1) = decide (m.fr = homeK ((0 : Nat) : Int)) from decide_eq_decide.2 e1]; rfl
 ·rw [if_neg zd, if_pos rfl, show decide (sq p m.fr = 1) = decide (m.fr = homeK ((1 : Nat) : Int)) from decide_eq_decide.2 e1]; rfl
 ·rw [if_neg zd, if_neg zd, if_pos rfl, show decide (sq p m.fr = 7) = decide (m.fr = homeK ((2 : Nat) : Int)) from decide_eq_decide.2 e1]; rfl
 ·rw [if_neg zd, if_neg zd, if_neg zd, show decide (sq p m.fr = 7) = decide (m.fr = homeK ((3 : Nat) : Int)) from decide_eq_decide.2 e1]; rfl
theorem crM_eq {p : Pos} (hI : Inv p) {m : Mv} (hm : m ∈ legal p) : crM (castT p.castle) (crF p m 0) (crF p m 1) (crF p m 2) (crF p m 3) = castT (made p m).castle := by
 rw [crM_sub hI.c0 hI.c1]
 show _ = castT (left p.castle m)
 rw [left_sub, subB_eq hI.c0 hI.c1, subB_eq hI.c0 hI.c1]
 congr 1
 exact sumB_congr _ (fun h => by rw [crF_eq hI hm 0 zd h]; rfl) (fun h => by rw [crF_eq hI hm 1 zd h]; rfl) (fun h => by rw [crF_eq hI hm 2 zd h]; rfl) (fun h => by rw [crF_eq hI hm 3 zd h]; rfl)
def expC (c : UInt8) : List Int :=
 if 49 ≤ c ∧ c ≤ 56 then List.replicate (c.toNat - 48) 0 else if c = 75 then [1] else if c = 81 then [2] else if c = 82 then [3] else if c = 66 then [4] else if c = 78 then [5] else if c = 80 then [6]
 else if c = 107 then [7] else if c = 113 then [8] else if c = 114 then [9] else if c = 98 then [10] else if c = 110 then [11] else if c = 112 then [12] else []
def expT (t : Tx) : List Int := t.flatMap expC
theorem expT_append (a b : Tx) : expT (a ++ b) = expT a ++ expT b := List.flatMap_append
theorem expT_cnt {e : Nat} (h : e ≤ 8) : expT (cntT e) = List.replicate e 0 := by
 have : e = 0 ∨ e = 1 ∨ e = 2 ∨ e = 3 ∨ e = 4 ∨ e = 5 ∨ e = 6 ∨ e = 7 ∨ e = 8 := by omega
 rcases this with rfl | rfl | rfl | rfl | rfl | rfl | rfl | rfl | rfl <;> (unfold cntT; first | rfl | (rw [if_neg zd]; unfold dec; rw [dif_pos zd]; rfl))
theorem expT_pc {x : Int} (h0 : 1 ≤ x) (h1 : x ≤ 12) : expT (pcT x) = [x] := by
 have : x = 1 ∨ x = 2 ∨ x = 3 ∨ x = 4 ∨ x = 5 ∨ x = 6 ∨ x = 7 ∨ x = 8 ∨ x = 9 ∨ x = 10 ∨ x = 11 ∨ x = 12 := by omega
 rcases this with rfl | rfl | rfl | rfl | rfl | rfl | rfl | rfl | rfl | rfl | rfl | rfl <;> rfl
def seqG (g : Nat → Int) : Nat → Nat → List Int
 | 0, _ => []
 | n + 1, f => g f :: seqG g n (f + 1)
theorem expT_row (g : Nat → Int) (hg : ∀ f, 0 ≤ g f ∧ g f ≤ 12) : ∀ (n f e : Nat), e + n ≤ 8 → expT (rowT g n f e) = List.replicate e 0 ++ seqG g n f := by
 intro n
 induction n with
 | zero => intro f e h; simp only [rowT, seqG, List.append_nil]; exact expT_cnt zo
 | succ n ih =>
  intro f e h
  simp only [rowT, seqG]
  have hgf := hg f
  by_cases h0 : g f < 1 ∨ g f > 12
  ·rw [if_pos h0, ih (f + 1) (e + 1) zo]
   have : g f = 0 := by omega
   rw [this, List.replicate_succ', List.append_assoc]; rfl
  ·rw [if_neg h0, expT_append, expT_append, expT_cnt zo, expT_pc zo zo, ih (f + 1) 0 zo]
   simp
def boardL (p : Pos) : Nat → List Int
 | 0 => []
 | r + 1 => seqG (fun f => sq p (8 * (r : Int) + f)) 8 0 ++ boardL p r
theorem expT_board {p : Pos} (hp : ∀ i : Int, 0 ≤ sq p i ∧ sq p i ≤ 12) : ∀ r, expT (boardT p r) = boardL p r := by
 intro r
 induction r with
 | zero => rfl
 | succ r ih =>
  simp only [boardT, boardL, expT_append, ih]
  rw [expT_row _ (fun f => hp _) 8 0 0 zo]
  have : expT (if r = 0 then [] else [47]) = [] := by split <;> rfl
  rw [this]; simp
theorem boardL_inj {p q : Pos} : ∀ r, boardL p r = boardL q r → ∀ k f : Nat, k < r → f < 8 → sq p (8 * (k : Int) + f) = sq q (8 * (k : Int) + f) := by
 intro r
 induction r with
 | zero => intro _ k f h; omega
 | succ r ih =>
  intro h k f hk hf
  simp only [boardL] at h
  have hl : ∀ g n s, (seqG g n s).length = n := by
   intro g n; induction n with
   | zero => intro s; rfl
   | succ n ih => intro s; simp [seqG, ih]
  obtain ⟨h1, h2⟩ := List.append_inj h (by rw [hl, hl])
  by_cases e : k = r
  ·subst e
   simp only [seqG, List.cons.injEq, and_true] at h1
   obtain ⟨a0, a1, a2, a3, a4, a5, a6, a7⟩ := h1
   have : f = 0 ∨ f = 1 ∨ f = 2 ∨ f = 3 ∨ f = 4 ∨ f = 5 ∨ f = 6 ∨ f = 7 := by omega
   rcases this with rfl | rfl | rfl | rfl | rfl | rfl | rfl | rfl <;> assumption
  ·exact ih h2 k f zo hf
theorem boardT_inj {p q : Pos} (hp : ∀ i : Int, 0 ≤ sq p i ∧ sq p i ≤ 12) (hq : ∀ i : Int, 0 ≤ sq q i ∧ sq q i ≤ 12) : boardT p 8 = boardT q 8 ↔ p.board = q.board := by
 constructor
 ·intro h
  have h2 : boardL p 8 = boardL q 8 := by rw [← expT_board hp, ← expT_board hq, h]
  apply List.ext_getElem (by rw [p.len, q.len])
  intro i hi1 hi2
  have hi : i < 64 := by rw [← p.len]; exact hi1
  have := boardL_inj 8 h2 (i / 8) (i % 8) zo zo
  have e : (8 * ((i / 8 : Nat) : Int) + ((i % 8 : Nat) : Int)) = (i : Int) := by omega
  rw [e] at this
  unfold sq at this
  simp only [Int.toNat_natCast, List.getD_eq_getElem?_getD] at this
  rw [List.getElem?_eq_getElem hi1, List.getElem?_eq_getElem hi2] at this
  exact this
 ·intro h
  have hs : ∀ i, sq p i = sq q i := by intro i; unfold sq; rw [h]
  have : ∀ r, boardT p r = boardT q r := by
   intro r; induction r with
   | zero => rfl
   | succ r ih => simp only [boardT, ih, hs]
  exact this 8
end Ch
end
section
open Go Go.RowKit
open E
open Ch Bb
theorem ix_neg {c : UInt8} {s : Tx} : ixZ c s < 0 ↔ c ∉ s := by
 unfold ixZ; by_cases h : c ∈ s
 ·rw [if_pos h]; constructor
  ·intro h2; omega
  ·intro h2; exact absurd h h2
 ·rw [if_neg h]; exact ⟨fun _ => h, fun _ => by decide⟩
theorem strip_no {c : UInt8} {s : Tx} (h : c ∉ s) : strip s c = s := by
 unfold strip
 rw [List.filter_eq_self]
 intro x hx
 simp only [bne_iff_ne, ne_eq]
 intro e; subst e; exact h hx
theorem strip_at {c : UInt8} : ∀ {s : Tx}, c ∈ s → strip s c = s.take (s.idxOf c) ++ strip (s.drop (s.idxOf c + 1)) c ∧ s.idxOf c < s.length := by
 intro s
 induction s with
 | nil => intro h; cases h
 | cons x r ih =>
  intro h
  by_cases e : x = c
  ·subst e
   simp [strip]
  ·have h2 : c ∈ r := by
    rcases List.mem_cons.1 h with h | h
    ·exact absurd h.symm e
    ·exact h
   obtain ⟨h3, h4⟩ := ih h2
   have e1 : (x :: r).idxOf c = r.idxOf c + 1 := by
    rw [List.idxOf_cons, show (x == c) = false by simpa using e]; rfl
   rw [e1]
   refine ⟨?_, by simp; omega⟩
   rw [List.take_succ_cons, List.drop_succ_cons, List.cons_append, ← h3]
   simp [strip, e]
theorem zzReplaceAll_c (c : UInt8) (s : Tx) (hs : s.length ≤ 1000) (w : World) : Calls G.P 287 #[txV s, txV [c], txV []] w (Ret (txV (strip s c)) w) := by
 have h1 : (tx [c]).size = 1 := tx_size _
 refine zN Tryz.func287 ?_
 refine zR ?_
 refine loopK (σ := Tx × Tx × Value) [0, 6, 7, 10] 11 (fun t => [(0, txV t.1), (7, t.2.2)]) (fun t w' => t.1.length + t.2.1.length ≤ 1000 ∧ strip s c = t.2.1 ++ strip t.1 c ∧ Cl w w' ∧ Row 5 1 encB w.heap.size w' t.2.2 t.2.1) (fun t => t.1.length) zk (s, [], .slice none 0 0) ⟨by simpa using hs, rfl, Cl.refl _, Row.nil _ _⟩ ⟨rfl, rfl, trivial⟩ ?_
 rintro ⟨r, l, v⟩ j w2 ⟨hl, hst, c2, hr⟩
 simp only at hl hst hr ⊢
 obtain ⟨a, k, rfl, _⟩ := hr.form
 refine zR ?_
 refine callS (zzIndex_c c r zo w2) (zR ?_)
 apply E.dsplit<;>intro h
 ·refine zR ?_
  refine gen_appS rfl hr rfl zo c2.size fun v' w' hr' hc' => ?_
  obtain ⟨a9, c9, rfl, _⟩ := hr'.form
  refine zR ?_
  refine gen_textR _ rfl hr' (zR ?_)
  exact ⟨by rw [hst, strip_no (ix_neg.1 h)]; rfl, hc' w rfl c2⟩
 ·have hm : c ∈ r := Classical.byContradiction fun h2 => h (ix_neg.2 h2)
  obtain ⟨hsp, hlt⟩ := strip_at hm
  have ei : ixZ c r = (r.idxOf c : Int) := by unfold ixZ; rw [if_pos hm]
  have ni := i_succ (i := r.idxOf c) zo
  refine zR ?_
  refine gen_cutH (r.take (r.idxOf c)) rfl rfl rfl (by rw [ei]; omega) (by rw [ei]; omega) (by rw [ei]; rfl) (zR ?_)
  refine gen_appS rfl hr rfl (by rw [List.length_take]; omega) c2.size fun v' w' hr' hc' => ?_
  obtain ⟨a9, c9, rfl, _⟩ := hr'.form
  have c3 := hc' w rfl c2
  refine zR ?_
  refine gen_appS (s := []) rfl hr' rfl (by rw [List.length_append, List.length_take]; simp; omega) c3.size fun v2 w3 hr2 hc2 => ?_
  rw [List.append_nil] at hr2
  obtain ⟨a8, c8, rfl, _⟩ := hr2.form
  have c4 := hc2 w rfl c3
  refine zR ?_
  rw [h1, ei, show ((1 : Nat) : Int) = 1 from rfl, ni]
  refine gen_cutL (r.drop (r.idxOf c + 1)) rfl rfl rfl zo zo rfl (zR ?_)
  refine ⟨(r.drop (r.idxOf c + 1), l ++ r.take (r.idxOf c), _), ⟨rfl, rfl, trivial⟩, ⟨?_, ?_, c4, hr2⟩, ?_⟩
  ·show (r.drop (r.idxOf c + 1)).length + (l ++ r.take (r.idxOf c)).length ≤ 1000
   rw [List.length_drop, List.length_append, List.length_take]; omega
  ·show strip s c = (l ++ r.take (r.idxOf c)) ++ strip (r.drop (r.idxOf c + 1)) c
   rw [hst, hsp, List.append_assoc]
  ·show (r.drop (r.idxOf c + 1)).length < r.length
   rw [List.length_drop]; omega
theorem strip_len (t : Tx) (c : UInt8) : (strip t c).length ≤ t.length := List.length_filter_le _ _
theorem updateCastleRights_c {p : Pos} (hI : Inv p) {P b M : Nat} {cv : Value} {c : Bool} {d : Nd} (f0 : 0 ≤ d.mv.fr) (f1 : d.mv.fr ≤ 63) (w : World) (hT : Tabs w)
  (hP : w.heap[P]? = some (.cells (hdA b (hdOf p c) cv) 173 (0, 0))) (hB : w.heap[b]? = some (.cells (mbA (mbOf p)) 237 (0, 0))) (hM : w.heap[M]? = some (.cells (ndA d) 141 (0, 0))) :
  Calls G.P 256 #[.pointer (some ⟨P, 0, none⟩), .pointer (some ⟨M, 0, none⟩)] w (Ret (txV (crM (castT p.castle) (crF p d.mv 0) (crF p d.mv 1) (crF p d.mv 2) (crF p d.mv 3))) w) := by
 have hM0 := hM
 obtain ⟨fr, hfr⟩ := Int.eq_ofNat_of_zero_le f0
 have hf64 : fr < 64 := by omega
 have hlen0 : (castT p.castle).length ≤ 4 := castT_len _
 have hcr : crM (castT p.castle) (crF p d.mv 0) (crF p d.mv 1) (crF p d.mv 2) (crF p d.mv 3) = dash (if crF p d.mv 3 then strip (if crF p d.mv 2 then strip (if crF p d.mv 1 then strip (if crF p d.mv 0 then strip (castT p.castle) 75 else castT p.castle) 81 else (if crF p d.mv 0 then strip (castT p.castle) 75 else castT p.castle)) 107 else (if crF p d.mv 1 then strip (if crF p d.mv 0 then strip (castT p.castle) 75 else castT p.castle) 81 else (if crF p d.mv 0 then strip (castT p.castle) 75 else castT p.castle))) 113 else (if crF p d.mv 2 then strip (if crF p d.mv 1 then strip (if crF p d.mv 0 then strip (castT p.castle) 75 else castT p.castle) 81 else (if crF p d.mv 0 then strip (castT p.castle) 75 else castT p.castle)) 107 else (if crF p d.mv 1 then strip (if crF p d.mv 0 then strip (castT p.castle) 75 else castT p.castle) 81 else (if crF p d.mv 0 then strip (castT p.castle) 75 else castT p.castle)))) := rfl
 rw [hcr]
 clear hcr
 have pc := fun w hT hB => Piece_c (mbOf p) b (t := 237) (fz := (0, 0)) fr hf64 w hT hB
 rw [at_of' hI.pc hf64] at pc
 obtain ⟨T, hTT⟩ : ∃ T, castT p.castle = T := ⟨_, rfl⟩
 rw [hTT] at hlen0 ⊢
 refine zN Tryz.func256 ?_
 refine zR ?_
 refine loadK _ (ldHcas hP) ?_
 have hcas : (hdOf p c).cas = T := hTT
 rw [hcas]
 refine zR ?_
 refine zK 9 ?_
 refine zR ?_
 refine qHb hP (zR ?_)
 refine qNfr hM ?_
 rw [hfr]
 refine zR ?_
 refine callQs _ (fun w hw => pc w (hT.cl hw) (hw.blk hB)) (zG ?_)
 intro wS cw
 refine zG ?_
 rw [← hfr]
 refine joinK (σ := Unit) [5] 7 (fun _ => [(5, txV (if crF p d.mv 0 then strip T 75 else T))]) (fun _ w' => Cl w w') zk ?_ (fun _ j w0 c0 => ?_)
 ·have hM := cw.blk hM0
  have hc : crF p d.mv 0 = (decide (sq p d.mv.fr = 1) || decide (d.mv.fr = 7) || decide (d.mv.to = 7)) := rfl
  have hl := hlen0
  refine zR ?_
  apply E.dsplit<;>intro h
  ·have hy : crF p d.mv 0 = true := by rw [hc, decide_eq_true h]; rfl
   refine zR ?_
   refine callR (zzReplaceAll_c 75 T zo _) fun w9 c9 => zR ?_
   exact ⟨(), ⟨by rw [hy]; rfl, trivial⟩, cw.trans c9⟩
  ·have h1 := h
   clear h
   refine zR ?_
   refine kNfr hM (zR ?_)
   apply E.dsplit<;>intro h
   ·have hy : crF p d.mv 0 = true := by rw [hc, decide_eq_true h, Bool.or_true]; rfl
    refine zR ?_
    try (refine E.dtrue h ?_; refine zR ?_)
    refine callR (zzReplaceAll_c 75 T zo _) fun w9 c9 => zR ?_
    exact ⟨(), ⟨by rw [hy]; rfl, trivial⟩, cw.trans c9⟩
   ·have h2 := h
    clear h
    refine zR ?_
    refine kNto hM (zR ?_)
    apply E.dsplit<;>intro h
    ·have hy : crF p d.mv 0 = true := by rw [hc, decide_eq_true h, Bool.or_true]
     refine zR ?_
     refine callR (zzReplaceAll_c 75 T zo _) fun w9 c9 => zR ?_
     exact ⟨(), ⟨by rw [hy]; rfl, trivial⟩, cw.trans c9⟩
    ·have hy : crF p d.mv 0 = false := by rw [hc, decide_eq_false h1, decide_eq_false h2, decide_eq_false h]; rfl
     refine zR ?_
     exact ⟨(), ⟨by rw [hy]; rfl, trivial⟩, cw⟩
 obtain ⟨T0, hT0⟩ : ∃ T', (if crF p d.mv 0 then strip T 75 else T) = T' := ⟨_, rfl⟩
 have hlen1 : T0.length ≤ 4 := by rw [← hT0]; split; exact Nat.le_trans (strip_len _ _) hlen0; exact hlen0
 rw [hT0]
 refine joinK (σ := Unit) [5] 7 (fun _ => [(5, txV (if crF p d.mv 1 then strip T0 81 else T0))]) (fun _ w' => Cl w w') zk ?_ (fun _ j w1 c1 => ?_)
 ·have hM := c0.blk hM0
  have hc : crF p d.mv 1 = (decide (sq p d.mv.fr = 1) || decide (d.mv.fr = 0) || decide (d.mv.to = 0)) := rfl
  have hl := hlen1
  refine zR ?_
  apply E.dsplit<;>intro h
  ·have hy : crF p d.mv 1 = true := by rw [hc, decide_eq_true h]; rfl
   refine zR ?_
   refine callR (zzReplaceAll_c 81 T0 zo _) fun w9 c9 => zR ?_
   exact ⟨(), ⟨by rw [hy]; rfl, trivial⟩, c0.trans c9⟩
  ·have h1 := h
   clear h
   refine zR ?_
   refine kNfr hM (zR ?_)
   apply E.dsplit<;>intro h
   ·have hy : crF p d.mv 1 = true := by rw [hc, decide_eq_true h, Bool.or_true]; rfl
    refine zR ?_
    try (refine E.dtrue h ?_; refine zR ?_)
    refine callR (zzReplaceAll_c 81 T0 zo _) fun w9 c9 => zR ?_
    exact ⟨(), ⟨by rw [hy]; rfl, trivial⟩, c0.trans c9⟩
   ·have h2 := h
    clear h
    refine zR ?_
    refine kNto hM (zR ?_)
    apply E.dsplit<;>intro h
    ·have hy : crF p d.mv 1 = true := by rw [hc, decide_eq_true h, Bool.or_true]
     refine zR ?_
     refine callR (zzReplaceAll_c 81 T0 zo _) fun w9 c9 => zR ?_
     exact ⟨(), ⟨by rw [hy]; rfl, trivial⟩, c0.trans c9⟩
    ·have hy : crF p d.mv 1 = false := by rw [hc, decide_eq_false h1, decide_eq_false h2, decide_eq_false h]; rfl
     refine zR ?_
     exact ⟨(), ⟨by rw [hy]; rfl, trivial⟩, c0⟩
 obtain ⟨T1, hT1⟩ : ∃ T', (if crF p d.mv 1 then strip T0 81 else T0) = T' := ⟨_, rfl⟩
 have hlen2 : T1.length ≤ 4 := by rw [← hT1]; split; exact Nat.le_trans (strip_len _ _) hlen1; exact hlen1
 rw [hT1]
 refine joinK (σ := Unit) [5] 7 (fun _ => [(5, txV (if crF p d.mv 2 then strip T1 107 else T1))]) (fun _ w' => Cl w w') zk ?_ (fun _ j w2 c2 => ?_)
 ·have hM := c1.blk hM0
  have hc : crF p d.mv 2 = (decide (sq p d.mv.fr = 7) || decide (d.mv.fr = 63) || decide (d.mv.to = 63)) := rfl
  have hl := hlen2
  refine zR ?_
  apply E.dsplit<;>intro h
  ·have hy : crF p d.mv 2 = true := by rw [hc, decide_eq_true h]; rfl
   refine zR ?_
   refine callR (zzReplaceAll_c 107 T1 zo _) fun w9 c9 => zR ?_
   exact ⟨(), ⟨by rw [hy]; rfl, trivial⟩, c1.trans c9⟩
  ·have h1 := h
   clear h
   refine zR ?_
   refine kNfr hM (zR ?_)
   apply E.dsplit<;>intro h
   ·have hy : crF p d.mv 2 = true := by rw [hc, decide_eq_true h, Bool.or_true]; rfl
    refine zR ?_
    try (refine E.dtrue h ?_; refine zR ?_)
    refine callR (zzReplaceAll_c 107 T1 zo _) fun w9 c9 => zR ?_
    exact ⟨(), ⟨by rw [hy]; rfl, trivial⟩, c1.trans c9⟩
   ·have h2 := h
    clear h
    refine zR ?_
    refine kNto hM (zR ?_)
    apply E.dsplit<;>intro h
    ·have hy : crF p d.mv 2 = true := by rw [hc, decide_eq_true h, Bool.or_true]
     refine zR ?_
     refine callR (zzReplaceAll_c 107 T1 zo _) fun w9 c9 => zR ?_
     exact ⟨(), ⟨by rw [hy]; rfl, trivial⟩, c1.trans c9⟩
    ·have hy : crF p d.mv 2 = false := by rw [hc, decide_eq_false h1, decide_eq_false h2, decide_eq_false h]; rfl
     refine zR ?_
     exact ⟨(), ⟨by rw [hy]; rfl, trivial⟩, c1⟩
 obtain ⟨T2, hT2⟩ : ∃ T', (if crF p d.mv 2 then strip T1 107 else T1) = T' := ⟨_, rfl⟩
 have hlen3 : T2.length ≤ 4 := by rw [← hT2]; split; exact Nat.le_trans (strip_len _ _) hlen2; exact hlen2
 rw [hT2]
 refine joinK (σ := Unit) [5] 7 (fun _ => [(5, txV (if crF p d.mv 3 then strip T2 113 else T2))]) (fun _ w' => Cl w w') zk ?_ (fun _ j w3 c3 => ?_)
 ·have hM := c2.blk hM0
  have hc : crF p d.mv 3 = (decide (sq p d.mv.fr = 7) || decide (d.mv.fr = 56) || decide (d.mv.to = 56)) := rfl
  have hl := hlen3
  refine zR ?_
  apply E.dsplit<;>intro h
  ·have hy : crF p d.mv 3 = true := by rw [hc, decide_eq_true h]; rfl
   refine zR ?_
   refine callR (zzReplaceAll_c 113 T2 zo _) fun w9 c9 => zR ?_
   exact ⟨(), ⟨by rw [hy]; rfl, trivial⟩, c2.trans c9⟩
  ·have h1 := h
   clear h
   refine zR ?_
   refine kNfr hM (zR ?_)
   apply E.dsplit<;>intro h
   ·have hy : crF p d.mv 3 = true := by rw [hc, decide_eq_true h, Bool.or_true]; rfl
    refine zR ?_
    try (refine E.dtrue h ?_; refine zR ?_)
    refine callR (zzReplaceAll_c 113 T2 zo _) fun w9 c9 => zR ?_
    exact ⟨(), ⟨by rw [hy]; rfl, trivial⟩, c2.trans c9⟩
   ·have h2 := h
    clear h
    refine zR ?_
    refine kNto hM (zR ?_)
    apply E.dsplit<;>intro h
    ·have hy : crF p d.mv 3 = true := by rw [hc, decide_eq_true h, Bool.or_true]
     refine zR ?_
     refine callR (zzReplaceAll_c 113 T2 zo _) fun w9 c9 => zR ?_
     exact ⟨(), ⟨by rw [hy]; rfl, trivial⟩, c2.trans c9⟩
    ·have hy : crF p d.mv 3 = false := by rw [hc, decide_eq_false h1, decide_eq_false h2, decide_eq_false h]; rfl
     refine zR ?_
     exact ⟨(), ⟨by rw [hy]; rfl, trivial⟩, c2⟩
 obtain ⟨T3, hT3⟩ : ∃ T', (if crF p d.mv 3 then strip T2 113 else T2) = T' := ⟨_, rfl⟩
 have hlen4 : T3.length ≤ 4 := by rw [← hT3]; split; exact Nat.le_trans (strip_len _ _) hlen3; exact hlen3
 rw [hT3]
 refine zR ?_
 unfold dash
 cases e : T3 with
 | nil =>
  refine zR ?_
  exact ⟨rfl, c3⟩
 | cons x r =>
  refine zR ?_
  exact ⟨rfl, c3⟩
theorem rk1 : ∀ s : Nat, s < 64 → (sqb s &&& 71776119061217280 = 0 ↔ ¬ (s / 8 = 1)) := by decide
theorem rk3 : ∀ s : Nat, s < 64 → (sqb s &&& 1095216660480 = 0 ↔ ¬ (s / 8 = 3)) := by decide
theorem rk6 : ∀ s : Nat, s < 64 → (sqb s &&& 65280 = 0 ↔ ¬ (s / 8 = 6)) := by decide
theorem rk4 : ∀ s : Nat, s < 64 → (sqb s &&& 4278190080 = 0 ↔ ¬ (s / 8 = 4)) := by decide
theorem updateEp_c {p : Pos} (hI : Inv p) {P b M : Nat} {cv : Value} {c : Bool} {d : Nd} (f0 : 0 ≤ d.mv.fr) (f1 : d.mv.fr ≤ 63) (t0 : 0 ≤ d.mv.to) (t1 : d.mv.to ≤ 63) (w : World) (hT : Tabs w)
  (hP : w.heap[P]? = some (.cells (hdA b (hdOf p c) cv) 173 (0, 0))) (hB : w.heap[b]? = some (.cells (mbA (mbOf p)) 237 (0, 0))) (hM : w.heap[M]? = some (.cells (ndA d) 141 (0, 0))) :
  Calls G.P 258 #[.pointer (some ⟨P, 0, none⟩), .pointer (some ⟨M, 0, none⟩)] w (Ret (.int .i8 (epM p d.mv)) w) := by
 have hP0 := hP
 have hM0 := hM
 obtain ⟨fr, hfr⟩ := Int.eq_ofNat_of_zero_le f0
 obtain ⟨to, hto⟩ := Int.eq_ofNat_of_zero_le t0
 have hf64 : fr < 64 := by omega
 have ht64 : to < 64 := by omega
 have pc := fun w hT hB => Piece_c (mbOf p) b (t := 237) (fz := (0, 0)) fr hf64 w hT hB
 rw [at_of' hI.pc hf64] at pc
 have hpr := hI.pc fr
 have ht := hI.turn
 have ety := fun w => Type_c (sq p fr) hpr.1 hpr.2 w
 have bf := fun w => bbForSquare_c fr hf64 w
 have bt := fun w => bbForSquare_c to ht64 w
 have hep : epM p d.mv = if kindOf (sq p fr) ≠ 6 then -1 else if p.turn = 0 ∧ fr / 8 = 1 ∧ to / 8 = 3 then (to : Int) - 8 else if p.turn = 1 ∧ fr / 8 = 6 ∧ to / 8 = 4 then (to : Int) + 8 else -1 := by
  unfold epM
  rw [hfr, hto]
  have r1 : (rank (fr : Int) = 1) ↔ fr / 8 = 1 := by unfold rank; omega
  have r3 : (rank (to : Int) = 3) ↔ to / 8 = 3 := by unfold rank; omega
  have r6 : (rank (fr : Int) = 6) ↔ fr / 8 = 6 := by unfold rank; omega
  have r4 : (rank (to : Int) = 4) ↔ to / 8 = 4 := by unfold rank; omega
  simp only [r1, r3, r6, r4]
 rw [hep]
 clear hep
 refine zN Tryz.func258 ?_
 refine zR ?_
 refine zK 9 ?_
 refine zR ?_
 refine qHb hP (zR ?_)
 refine qNfr hM ?_
 rw [hfr]
 refine zR ?_
 refine callQs _ (fun w hw => pc w (hT.cl hw) (hw.blk hB)) (zR ?_)
 intro w1 c1
 have hP := c1.blk hP0
 have hM := c1.blk hM0
 have a1 := rk1 fr hf64
 have a3 := rk3 to ht64
 have a6 := rk6 fr hf64
 have a4 := rk4 to ht64
 refine zR ?_
 refine callS (ety _) (zR ?_)
 apply E.ndsplit<;>intro h
 ·rw [if_pos h]
  refine zR ?_
  exact ⟨rfl, c1⟩
 rw [if_neg (fun e => e h)]
 clear h
 have hturn : (hdOf p c).turn = p.turn + 1 := rfl
 refine zR ?_
 refine kHt hP ?_
 rw [hturn]
 refine zR ?_
 apply E.dsplit<;>intro h
 ·have h0 : p.turn = 0 := by omega
  clear h
  refine zR ?_
  refine kNfr hM ?_
  rw [hfr]
  refine zR ?_
  refine callS (bf _) (zB ?_)
  apply E.ndsplit<;>intro h
  ·have q1 : fr / 8 = 1 := Classical.byContradiction fun e => nz h (a1.2 e)
   clear h
   refine zR ?_
   refine kNto hM ?_
   rw [hto]
   refine zR ?_
   refine callS (bt _) (zB ?_)
   apply E.ndsplit<;>intro h
   ·have q2 : to / 8 = 3 := Classical.byContradiction fun e => nz h (a3.2 e)
    clear h
    refine zR ?_
    refine kNto hM ?_
    rw [hto]
    refine zR ?_
    exact ⟨ret_int (by rw [if_pos ⟨h0, q1, q2⟩]; exact w8_in zo zo), c1⟩
   ·have q2 : ¬ to / 8 = 3 := a3.1 (n0 h)
    clear h
    refine zR ?_
    refine kHt hP ?_
    rw [hturn]
    refine zR ?_
    refine E.dfalse zo (zR ?_)
    exact ⟨ret_int (by rw [if_neg zo, if_neg zo]), c1⟩
  ·have q1 : ¬ fr / 8 = 1 := a1.1 (n0 h)
   clear h
   refine zR ?_
   refine kHt hP ?_
   rw [hturn]
   refine zR ?_
   refine E.dfalse zo (zR ?_)
   exact ⟨ret_int (by rw [if_neg zo, if_neg zo]), c1⟩
 ·have h0 : p.turn = 1 := by omega
  clear h
  refine zR ?_
  refine kHt hP ?_
  rw [hturn]
  refine zR ?_
  refine E.dtrue zo (zR ?_)
  refine kNfr hM ?_
  rw [hfr]
  refine zR ?_
  refine callS (bf _) (zB ?_)
  apply E.ndsplit<;>intro h
  ·have q1 : fr / 8 = 6 := Classical.byContradiction fun e => nz h (a6.2 e)
   clear h
   refine zR ?_
   refine kNto hM ?_
   rw [hto]
   refine zR ?_
   refine callS (bt _) (zB ?_)
   apply E.ndsplit<;>intro h
   ·have q2 : to / 8 = 4 := Classical.byContradiction fun e => nz h (a4.2 e)
    clear h
    refine zR ?_
    refine kNto hM ?_
    rw [hto]
    refine zR ?_
    exact ⟨ret_int (by rw [if_neg zo, if_pos ⟨h0, q1, q2⟩]; exact w8_in zo zo), c1⟩
   ·have q2 : ¬ to / 8 = 4 := a4.1 (n0 h)
    clear h
    refine zR ?_
    exact ⟨ret_int (by rw [if_neg zo, if_neg zo]), c1⟩
  ·have q1 : ¬ fr / 8 = 6 := a6.1 (n0 h)
   clear h
   refine zR ?_
   exact ⟨ret_int (by rw [if_neg zo, if_neg zo]), c1⟩
end
end Go.Proofs.YtpclhlhcegcflaaGreatDoor
