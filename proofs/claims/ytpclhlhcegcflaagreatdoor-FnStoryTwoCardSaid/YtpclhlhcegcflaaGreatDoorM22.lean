/- One part of the proof: Pk33 Pk34 Pk35 Pk36 Law10. -/
import Derived.Maps.RangeRun
import Derived.MapKept
import Derived.Test.YtpclhlhcegcflaaGreatDoorM1
import Derived.Test.YtpclhlhcegcflaaGreatDoorM3
import Derived.Test.YtpclhlhcegcflaaGreatDoorM21
namespace Go.Proofs.YtpclhlhcegcflaaGreatDoor
set_option maxRecDepth 100000
set_option linter.unusedSimpArgs false
set_option linter.unusedVariables false
section
open Go Go.RowKit
open E
open Ch Bb
def c0Q (p : k8) (b : Nat) : Prop := ∀ w', C1 w' → w'.heap[b]? = some (.cells (G1 (mbOf p)) 237 (0, 0)) →
 Calls G.P 198 #[.pointer (some ⟨b, 0, none⟩)] w' (K4 (.bool (!a3B p)) w')
set_option maxHeartbeats 1000000 in
theorem a8N {p : k8} (hI : B7 p) (hle : (z8 p).length ≤ 218) {G0 b : Nat} {g : Gm} {cv : Value} {n : O4} {l : List O4} (hsuf : c0Q p b) (hl : (n :: l).length ≤ 100000) (hJ : ∀ x ∈ n :: l, B7 x.p) (w : World) (hT : C1 w) (hb : w.heap[G0]? = some (.cells (gmA g) 131 (0, 0))) (hr : g.root = n.M)
  (hc : Chn w (n :: l)) (hP : H0 w g.P b p cv) (hGP : g.P ≠ G0) (hGb : b ≠ G0) (hmo : g.out = star → g.meth = 0) :
  Calls G.P 138 #[.pointer (some ⟨G0, 0, none⟩)] w (fun r w' => r = .returned (.tuple #[]) ∧ ∃ (m' : Nat) (o' : Tx), ((m' : Int), o') = ending ((n :: l).map O4.p) p ((g.meth : Int), g.out)
   ∧ w'.heap[G0]? = some (.cells (gmA { g with out := o', meth := m' }) 131 (0, 0)) ∧ Fr [G0] w w') := by
 have hS := a8E hI w hT hP
 have hstat : statusOf p = if !(y8 p).isEmpty then 0 else if inCheck p then 1 else 4 := rfl
 have hend : ending ((n :: l).map O4.p) p ((g.meth : Int), g.out) = if (y8 p).isEmpty then (if !inCheck p then (4, drawT) else (1, a1X p.turn))
   else if g.out ≠ star then ((g.meth : Int), g.out)
   else
    let a := if 5 ≤ times ((n :: l).map O4.p) p then (6, drawT) else ((g.meth : Int), g.out)
    let b := if 150 ≤ p.half then (8, drawT) else a
    if a3B p then (9, drawT) else b := rfl
 have hnr := fun w hT hb hc hP => b6V hI hl hJ (g := g) (G0 := G0) (t := 131) (fz := (0, 0)) (b := b) (cv := cv) w hT hb hr hc hP
 rw [hend]
 clear hend
 have hfix : ∀ k ∈ [G0], ∀ cs t fz, w.heap[k]? = some (.cells cs t fz) → a1J t = false := fun k hk cs t fz h => by
  have e := List.mem_singleton.1 hk
  rw [e] at h
  have h2 := Obj.cells.inj (Option.some.inj (hb.symm.trans h))
  rw [← h2.2.1]; decide
 have hTf : ∀ {w'}, Fr [G0] w w' → C1 w' := fun c => hT.fr c hfix
 have hPf : ∀ {w'}, Fr [G0] w w' → w'.heap[g.P]? = some (.cells (hdA b (A8 p (inCheck p)) cv) 173 (0, 0)) := fun c => c.blk hP.hd (fun e => hGP (List.mem_singleton.1 e))
 have hBf : ∀ {w'}, Fr [G0] w w' → w'.heap[b]? = some (.cells (G1 (mbOf p)) 237 (0, 0)) := fun c => c.blk hP.bd (fun e => hGb (List.mem_singleton.1 e))
 have htm := b1h ((n :: l).map O4.p) p
 rw [List.length_map] at htm
 have htm := Nat.le_trans htm hl
 generalize times ((n :: l).map O4.p) p = tm at *
 refine zN Tryz.func138 ?_
 refine zR ?_
 refine b5 _ (a4T hb) (zR ?_)
 rw [hstat] at hS
 clear hstat
 generalize (y8 p).isEmpty = em at *
 have hPc := hP.hd
 generalize inCheck p = ck at *
 cases em with
 | true =>
  rw [if_pos rfl]
  cases ck with
  | false =>
   refine m9 hS fun w1 c1 => zR ?_
   refine zT (c1.blk hb) [.int .u8 4] fun w2 u2 => ?_
   refine zR ?_
   refine J6 u2.at_ [s8 drawT] rfl zk rfl (by intro v hv; simp at hv; subst hv; rfl) (Nat.le_of_ble_eq_true rfl) fun w3 u3 => zR ?_
   refine b5 _ (a7D (g := { g with out := drawT, meth := 4 }) u3.at_) (zR ?_)
   exact ⟨rfl, 4, drawT, rfl, u3.at_, ((Fr.cl c1).trans (Fr.upd u2 (by simp))).trans (Fr.upd u3 (by simp))⟩
  | true =>
   refine m9 hS fun w1 c1 => zR ?_
   refine zT (c1.blk hb) [.int .u8 1] fun w2 u2 => ?_
   refine zR ?_
   refine J6 u2.at_ [s8 [49, 45, 48]] rfl zk rfl (by intro v hv; simp at hv; subst hv; rfl) (Nat.le_of_ble_eq_true rfl) fun w3 u3 => zR ?_
   have c3 := ((Fr.cl c1).trans (Fr.upd u2 (by simp))).trans (Fr.upd (S := [G0]) u3 (by simp))
   refine b5 _ (a4T (g := { g with out := [49, 45, 48], meth := 1 }) u3.at_) (zR ?_)
   refine d9 (a4d w3 (hPf c3)) (zR ?_)
   apply E.b7<;>intro h
   ·have h0 : p.turn = 0 := by have h2 : p.turn + 1 = 1 := h; omega
    clear h
    refine zR ?_
    refine J6 u3.at_ [s8 [48, 45, 49]] rfl zk rfl (by intro v hv; simp at hv; subst hv; rfl) (Nat.le_of_ble_eq_true rfl) fun w4 u4 => zR ?_
    refine b5 _ (a7D (g := { g with out := [48, 45, 49], meth := 1 }) u4.at_) (zR ?_)
    exact ⟨rfl, 1, [48, 45, 49], by unfold a1X; rw [if_pos h0]; rfl, u4.at_, c3.trans (Fr.upd u4 (by simp))⟩
   ·have h0 : ¬ p.turn = 0 := fun e => h (by show p.turn + 1 = 1; omega)
    clear h
    refine zR ?_
    refine b5 _ (a7D (g := { g with out := [49, 45, 48], meth := 1 }) u3.at_) (zR ?_)
    exact ⟨rfl, 1, [49, 45, 48], by unfold a1X; rw [if_neg h0]; rfl, u3.at_, c3⟩
 | false =>
  rw [if_neg Bool.false_ne_true]
  refine m9 hS fun w1 c1 => zR ?_
  refine b5 _ (a7D (c1.blk hb)) (zR ?_)
  apply E.r9<;>intro h
  ·have h0 : g.out ≠ star := fun e => h (by rw [e]; rfl)
   rw [if_pos h0]
   refine zR ?_
   exact ⟨rfl, g.meth, g.out, rfl, c1.blk hb, Fr.cl c1⟩
  ·have h0 : g.out = star := of_decide_eq_true ((b3A g.out).symm.trans (decide_eq_true h))
   rw [if_neg (show ¬ (g.out ≠ star) from fun e => e h0)]
   have hm0 := hmo h0
   clear h
   refine zR ?_
   refine b5 _ (a4k (c1.blk hb)) (zR ?_)
   refine m9 (hnr w1 (hT.cl c1) (c1.blk hb) (hc.step c1) (hP.step c1)) fun w2 c2 => ?_
   have c02 := Fr.cl (S := [G0]) (c1.trans c2)
   have hb2 := (c1.trans c2).blk hb
   refine zR ?_
   apply E.b7<;>intro h
   ·have h5 : 5 ≤ tm := by have h2 : (5 : Int) ≤ (tm : Int) := h; omega
    clear h
    refine zR ?_
    refine zT hb2 [s8 drawT] fun w3 u3 => ?_
    refine zR ?_
    refine J6 u3.at_ [.int .u8 6] rfl zk rfl (by intro v hv; simp at hv; subst hv; rfl) (Nat.le_of_ble_eq_true rfl) fun w4 u4 => zR ?_
    have c04 := (c02.trans (Fr.upd (S := [G0]) u3 (by simp))).trans (Fr.upd u4 (by simp))
    refine b5 _ (a4k (g := { g with out := drawT, meth := 6 }) u4.at_) (zR ?_)
    refine b5 _ (a4T (g := { g with out := drawT, meth := 6 }) u4.at_) (zR ?_)
    refine b5 _ (a2u (hPf c04)) (zR ?_)
    apply E.b7<;>intro h
    ·have h150 : 150 ≤ p.half := h
     clear h
     refine zR ?_
     repeat (refine E.v6 h150 ?_; refine zR ?_)
     refine b5 _ (a9F (g := { g with out := drawT, meth := 6 }) u4.at_) (zR ?_)
     repeat (refine E.v6 h150 ?_; refine zR ?_)
     refine J6 u4.at_ [s8 drawT] rfl zk rfl (by intro v hv; simp at hv; subst hv; rfl) (Nat.le_of_ble_eq_true rfl) fun w5 u5 => zR ?_
     refine J6 u5.at_ [.int .u8 8] rfl zk rfl (by intro v hv; simp at hv; subst hv; rfl) (Nat.le_of_ble_eq_true rfl) fun w6 u6 => zR ?_
     have c06 := ((c04).trans (Fr.upd (S := [G0]) u5 (by simp))).trans (Fr.upd u6 (by simp))
     refine b5 _ (a4k (g := { g with out := drawT, meth := 8 }) u6.at_) (zR ?_)
     refine b5 _ (a4T (g := { g with out := drawT, meth := 8 }) u6.at_) (zR ?_)
     refine b5 _ (a7o (hPf c06)) (zR ?_)
     refine m9 (hsuf w6 (hTf c06) (hBf c06)) fun w7 c7 => ?_
     have hb7 := c7.blk u6.at_
     have c07 := (c06).trans (Fr.cl c7)
     cases hd : a3B p with
     | true =>
      refine zR ?_
      refine zT hb7 [s8 drawT] fun w8 u8 => ?_
      refine zR ?_
      refine J6 u8.at_ [.int .u8 9] rfl zk rfl (by intro v hv; simp at hv; subst hv; rfl) (Nat.le_of_ble_eq_true rfl) fun w9 u9 => zR ?_
      exact ⟨rfl, 9, drawT, by simp only [if_pos h5]; simp only [if_pos h150]; rfl, u9.at_, (c07.trans (Fr.upd u8 (by simp))).trans (Fr.upd u9 (by simp))⟩
     | false =>
      refine zR ?_
      exact ⟨rfl, 8, drawT, by simp only [if_pos h5]; simp only [if_pos h150]; rfl, hb7, c07⟩
    ·have h150 : ¬ 150 ≤ p.half := h
     clear h
     refine zR ?_
     repeat (refine E.o7 h150 ?_; refine zR ?_)
     refine b5 _ (a4k (g := { g with out := drawT, meth := 6 }) u4.at_) (zR ?_)
     refine b5 _ (a4T (g := { g with out := drawT, meth := 6 }) u4.at_) (zR ?_)
     refine b5 _ (a7o (hPf c04)) (zR ?_)
     refine m9 (hsuf w4 (hTf c04) (hBf c04)) fun w7 c7 => ?_
     have hb7 := c7.blk u4.at_
     have c07 := (c04).trans (Fr.cl c7)
     cases hd : a3B p with
     | true =>
      refine zR ?_
      refine zT hb7 [s8 drawT] fun w8 u8 => ?_
      refine zR ?_
      refine J6 u8.at_ [.int .u8 9] rfl zk rfl (by intro v hv; simp at hv; subst hv; rfl) (Nat.le_of_ble_eq_true rfl) fun w9 u9 => zR ?_
      exact ⟨rfl, 9, drawT, by simp only [if_pos h5]; simp only [if_neg h150]; rfl, u9.at_, (c07.trans (Fr.upd u8 (by simp))).trans (Fr.upd u9 (by simp))⟩
     | false =>
      refine zR ?_
      exact ⟨rfl, 6, drawT, by simp only [if_pos h5]; simp only [if_neg h150]; rfl, hb7, c07⟩
   ·have h5 : ¬ 5 ≤ tm := fun e => h (by show (5 : Int) ≤ (tm : Int); omega)
    clear h
    refine zR ?_
    refine b5 _ (a4k (g := g) hb2) (zR ?_)
    refine b5 _ (a4T (g := g) hb2) (zR ?_)
    refine b5 _ (a2u (hPf c02)) (zR ?_)
    apply E.b7<;>intro h
    ·have h150 : 150 ≤ p.half := h
     clear h
     refine zR ?_
     repeat (refine E.v6 h150 ?_; refine zR ?_)
     refine b5 _ (a9F (g := g) hb2) (zR ?_)
     repeat (refine E.v6 h150 ?_; refine zR ?_)
     apply E.r9<;>intro h
     rotate_left
     ·exact absurd (show ((g.meth : Nat) : Int) = 1 from h) zo
     refine zR ?_
     refine zT hb2 [s8 drawT] fun w5 u5 => ?_
     refine zR ?_
     refine J6 u5.at_ [.int .u8 8] rfl zk rfl (by intro v hv; simp at hv; subst hv; rfl) (Nat.le_of_ble_eq_true rfl) fun w6 u6 => zR ?_
     have c06 := ((c02).trans (Fr.upd (S := [G0]) u5 (by simp))).trans (Fr.upd u6 (by simp))
     refine b5 _ (a4k (g := { g with out := drawT, meth := 8 }) u6.at_) (zR ?_)
     refine b5 _ (a4T (g := { g with out := drawT, meth := 8 }) u6.at_) (zR ?_)
     refine b5 _ (a7o (hPf c06)) (zR ?_)
     refine m9 (hsuf w6 (hTf c06) (hBf c06)) fun w7 c7 => ?_
     have hb7 := c7.blk u6.at_
     have c07 := (c06).trans (Fr.cl c7)
     cases hd : a3B p with
     | true =>
      refine zR ?_
      refine zT hb7 [s8 drawT] fun w8 u8 => ?_
      refine zR ?_
      refine J6 u8.at_ [.int .u8 9] rfl zk rfl (by intro v hv; simp at hv; subst hv; rfl) (Nat.le_of_ble_eq_true rfl) fun w9 u9 => zR ?_
      exact ⟨rfl, 9, drawT, by simp only [if_neg h5]; simp only [if_pos h150]; rfl, u9.at_, (c07.trans (Fr.upd u8 (by simp))).trans (Fr.upd u9 (by simp))⟩
     | false =>
      refine zR ?_
      exact ⟨rfl, 8, drawT, by simp only [if_neg h5]; simp only [if_pos h150]; rfl, hb7, c07⟩
    ·have h150 : ¬ 150 ≤ p.half := h
     clear h
     refine zR ?_
     repeat (refine E.o7 h150 ?_; refine zR ?_)
     refine b5 _ (a4k (g := g) hb2) (zR ?_)
     refine b5 _ (a4T (g := g) hb2) (zR ?_)
     refine b5 _ (a7o (hPf c02)) (zR ?_)
     refine m9 (hsuf w2 (hTf c02) (hBf c02)) fun w7 c7 => ?_
     have hb7 := c7.blk hb2
     have c07 := (c02).trans (Fr.cl c7)
     cases hd : a3B p with
     | true =>
      refine zR ?_
      refine zT hb7 [s8 drawT] fun w8 u8 => ?_
      refine zR ?_
      refine J6 u8.at_ [.int .u8 9] rfl zk rfl (by intro v hv; simp at hv; subst hv; rfl) (Nat.le_of_ble_eq_true rfl) fun w9 u9 => zR ?_
      exact ⟨rfl, 9, drawT, by simp only [if_neg h5]; simp only [if_neg h150]; rfl, u9.at_, (c07.trans (Fr.upd u8 (by simp))).trans (Fr.upd u9 (by simp))⟩
     | false =>
      refine zR ?_
      exact ⟨rfl, g.meth, g.out, by simp only [if_neg h5]; simp only [if_neg h150]; rfl, hb7, c07⟩
def Kp (X : List Nat) (w w' : World) : Prop := ∀ (k : Nat) (cs : Array Value) (t : Nat), k ∉ X → t ≠ 131 → w.heap[k]? = some (.cells cs t (0, 0)) → w'.heap[k]? = some (.cells cs t (0, 0))
theorem Kp.row {α : Type} {enc : α → List Value} {e z b0 : Nat} {X : List Nat} {w w' : World} {v : Value} {l : List α} (hk : Kp X w w') (h : Row e z enc b0 w v l) (he : e ≠ 131) (hv : ∀ k ∈ X, v.ownBlock ≠ some k) : Row e z enc b0 w' v l := by
 refine ⟨h.1, ?_⟩
 rcases h.2 with h2 | ⟨g, cap, cur, h1, h2, h3, h4⟩
 ·exact .inl h2
 ·refine .inr ⟨g, cap, cur, h1, h2, hk _ _ _ (fun hm => hv g hm (by rw [h1]; rfl)) he h3, h4⟩
structure O4.off (X : List Nat) (n : O4) : Prop where
 M : n.M ∉ X
 P : n.P ∉ X
 b : n.b ∉ X
 cv : ∀ k ∈ X, n.cv.ownBlock ≠ some k
 kids : ∀ k ∈ X, n.d.kids.ownBlock ≠ some k
theorem H0.kp {X : List Nat} {w w' : World} {P b : Nat} {p : k8} {cv : Value} (hk : Kp X w w') (h : H0 w P b p cv) (hP : P ∉ X) (hb : b ∉ X) (hv : ∀ k ∈ X, cv.ownBlock ≠ some k) : H0 w' P b p cv :=
 ⟨hk _ _ _ hP zd h.hd, hk _ _ _ hb zd h.bd, h.ca.elim .inl fun h => .inr (hk.row h zd hv)⟩
theorem a4m.kp {X : List Nat} {w w' : World} {k : Value} {l : List O4} (hk : Kp X w w') (h : a4m w k l) (hv : ∀ j ∈ X, k.ownBlock ≠ some j) : a4m w' k l := by
 cases l with
 | nil => exact h
 | cons m l => exact hk.row h zd hv
theorem Chn.kp {X : List Nat} {w w' : World} (hk : Kp X w w') : ∀ {l : List O4}, Chn w l → (∀ n ∈ l, n.off X) → Chn w' l
 | [], _, _ => trivial
 | n :: l, ⟨h1, h2, h3, h4, h5⟩, ho => by
  have o := ho n (List.mem_cons_self ..)
  exact ⟨hk _ _ _ o.M zd h1, h2, h3.kp hk o.kids, h4.kp hk o.P o.b o.cv, Chn.kp hk h5 fun x hx => ho x (List.mem_cons_of_mem _ hx)⟩
theorem Chn.snoc {w w' : World} {z y : O4} {kv : Value} : ∀ {l : List O4}, Kp [z.M, y.M] w w' → Chn w (l ++ [z]) → (∀ n ∈ l, n.off [z.M, y.M]) → z.P ∉ [z.M, y.M] → z.b ∉ [z.M, y.M] → (∀ k ∈ [z.M, y.M], z.cv.ownBlock ≠ some k)
  → w'.heap[z.M]? = some (.cells (F0 { z.d with kids := kv }) 141 (0, 0)) → Row 85 1 O8 0 w' kv [y.M] → Chn w' [y] → Chn w' (l ++ [{ z with d := { z.d with kids := kv } }, y])
 | [], hk, ⟨h1, h2, h3, h4, _⟩, _, hP, hb, hv, hz, hr, hy => ⟨hz, h2, hr, h4.kp hk hP hb hv, hy⟩
 | n :: l, hk, ⟨h1, h2, h3, h4, h5⟩, ho, hP, hb, hv, hz, hr, hy => by
  have o := ho n (List.mem_cons_self ..)
  refine ⟨hk _ _ _ o.M zd h1, h2, ?_, h4.kp hk o.P o.b o.cv, Chn.snoc hk h5 (fun x hx => ho x (List.mem_cons_of_mem _ hx)) hP hb hv hz hr hy⟩
  cases l with
  | nil => exact hk.row h3 zd o.kids
  | cons m l => exact hk.row h3 zd o.kids
theorem Kp.fr {X S : List Nat} {w w' : World} (h : Fr S w w') (hS : ∀ k ∈ S, k ∈ X ∨ ∃ cs fz, w.heap[k]? = some (.cells cs 131 fz)) : Kp X w w' := by
 intro k cs t hk ht hb
 refine h.blk hb fun hm => ?_
 rcases hS k hm with e | ⟨cs', fz, e⟩
 ·exact hk e
 ·exact ht (Obj.cells.inj (Option.some.inj (hb.symm.trans e))).2.1
theorem Kp.trans {X : List Nat} {w w1 w2 : World} (h : Kp X w w1) (h' : Kp X w1 w2) : Kp X w w2 := fun k cs t hk ht hb => h' k cs t hk ht (h k cs t hk ht hb)
structure b3L (w : World) (G0 M : Nat) (g : Gm) (dc d : Nd) (q : k8) (P' b' : Nat) (kv : Value) (w' : World) : Prop where
 P : w.heap.size ≤ P'
 b : w.heap.size ≤ b'
 pos : H0 w' P' b' q (.slice none 0 0)
 row : Row 85 1 O8 w.heap.size w' kv [M]
 cur : w'.heap[g.cur]? = some (.cells (F0 { dc with kids := kv }) 141 (0, 0))
 new : w'.heap[M]? = some (.cells (F0 { d with par := .pointer (some ⟨g.cur, 0, none⟩), pos := .pointer (some ⟨P', 0, none⟩) }) 141 (0, 0))
 game : w'.heap[G0]? = some (.cells (gmA { g with P := P', cur := M }) 131 (0, 0))
 fr : Fr [M, g.cur, G0] w w'
theorem b6W {p : k8} (hI : B7 p) (hN : a1z p) {G0 M b O to : Nat} {fo : Nat × Nat} {g : Gm} {cv : Value} {dc d : Nd} (hm : d.mv ∈ y8 p) (htg : (d.tags : Int) = told p d.mv) (w : World) (hT : C1 w) (hP : H0 w g.P b p cv)
  (hb : w.heap[G0]? = some (.cells (gmA g) 131 (0, 0))) (hc : w.heap[g.cur]? = some (.cells (F0 dc) 141 (0, 0))) (hk : dc.kids = .slice none 0 0) (hM : w.heap[M]? = some (.cells (F0 d) 141 (0, 0)))
  (hO : w.heap[O]? = some (.cells #[.bool false] to fo)) (hcM : g.cur ≠ M) (hPM : g.P ≠ M) (hPc : g.P ≠ g.cur) (hbM : b ≠ M) (hbc : b ≠ g.cur) (hvM : ∀ k ∈ [M, g.cur], cv.ownBlock ≠ some k) (hOM : O ≠ M) {R : Nat → Nat → Value → World → World → Prop}
  (hev : ∀ P' b' kv w3, b3L w G0 M g dc d (made p d.mv) P' b' kv w3 → Calls G.P 138 #[.pointer (some ⟨G0, 0, none⟩)] w3 (fun r w' => r = .returned (.tuple #[]) ∧ R P' b' kv w3 w')) :
  Calls G.P 102 #[.pointer (some ⟨G0, 0, none⟩), .pointer (some ⟨M, 0, none⟩), .pointer (some ⟨O, 0, none⟩)] w (fun r w' => r = .returned .nilIface ∧ ∃ P' b' kv w3, b3L w G0 M g dc d (made p d.mv) P' b' kv w3 ∧ R P' b' kv w3 w') := by
 have hGM : G0 ≠ M := fun e => by rw [e] at hb; have := (Obj.cells.inj (Option.some.inj (hb.symm.trans hM))).2.1; revert this; decide
 have hGc : G0 ≠ g.cur := fun e => by rw [e] at hb; have := (Obj.cells.inj (Option.some.inj (hb.symm.trans hc))).2.1; revert this; decide
 refine zN Tryz.func102 ?_
 refine zR ?_
 refine W3 false (N1 rfl _) (zR ?_)
 refine d9 (b6S _ ⟨_, rfl⟩ hb hc hk) (zR ?_)
 refine b5 _ (W1 (v := .bool false) hO rfl rfl) (zR ?_)
 refine o8 (b8M hGc hGM hcM hb hc hk hM) ?_
 rintro e w1 ⟨rfl, kv, hr1, hc1, hM1, f1⟩
 refine ⟨_, rfl, ?_⟩
 have k1 : Kp [M, g.cur] w w1 := Kp.fr f1 fun k hk => .inl hk
 have hP1 : H0 w1 g.P b p cv := hP.kp k1 (by simp [hPM, hPc]) (by simp [hbM, hbc]) hvM
 have hb1 := f1.blk hb (by simp [hGM, hGc])
 have hT1 : C1 w1 := hT.fr f1 fun k hk cs t fz h => by
  rcases List.mem_cons.1 hk with e | e
  ·rw [e] at h; rw [← (Obj.cells.inj (Option.some.inj (hM.symm.trans h))).2.1]; decide
  ·rw [List.mem_singleton.1 e] at h; rw [← (Obj.cells.inj (Option.some.inj (hc.symm.trans h))).2.1]; decide
 refine zR ?_
 refine o8 (b6U (d := { d with par := .pointer (some ⟨g.cur, 0, none⟩) }) hI hN hm htg w1 hT1 hP1 hM1 hGM hb1) ?_
 rintro e w2 ⟨rfl, P', b', s1, s2, hP2, hb2, hM2, f2⟩
 refine ⟨_, rfl, ?_⟩
 refine zR ?_
 refine zT hb2 [.pointer (some ⟨M, 0, none⟩)] fun w3 u3 => ?_
 refine zR ?_
 have f3 : Fr [M, g.cur, G0] w w3 := ((f1.mono (by simp)).trans (f2.mono (by simp))).trans (Fr.upd u3 (by simp))
 have hcw2 := f2.blk hc1 (by simp [Ne.symm hGc, hcM])
 have sz := f1.size
 have hGs : G0 < w.heap.size := (Array.getElem?_eq_some_iff.1 hb).1
 have hMs : M < w.heap.size := (Array.getElem?_eq_some_iff.1 hM).1
 have k3 : Kp [M] w1 w3 := Kp.fr (f2.trans (Fr.upd u3 (by simp))) fun k hk => by
  rcases List.mem_cons.1 hk with e | e
  ·exact .inr ⟨_, _, by rw [e]; exact hb1⟩
  ·exact .inl e
 have hown : ∀ k ∈ [M], kv.ownBlock ≠ some k := fun k hk e => by
  rw [List.mem_singleton.1 hk] at e
  rcases hr1.2 with ⟨h1, _⟩ | ⟨ga, cap, cur, h1, h2, _⟩
  ·rw [h1] at e; cases e
  ·rw [h1] at e; injection e with e; have e2 : ga = M := e; omega
 have mv : b3L w G0 M g dc d (made p d.mv) P' b' kv w3 := ⟨zo, zo, ⟨(Tn.upd u3).blk hP2.hd zo, (Tn.upd u3).blk hP2.bd zo, .inl rfl⟩, k3.row hr1 zd hown, (Tn.upd u3).blk hcw2 (Ne.symm hGc), (Tn.upd u3).blk hM2 (Ne.symm hGM), u3.at_, f3⟩
 refine o8 (hev _ _ _ _ mv) ?_
 rintro e w4 ⟨rfl, hR⟩
 refine ⟨_, rfl, ?_⟩
 refine zR ?_
 exact ⟨rfl, _, _, _, _, mv, hR⟩
theorem a8O {l : List k8} {p : k8} {m0 m : Nat} {o0 o : Tx} (h : ((m : Int), o) = ending l p ((m0 : Int), o0)) (h0 : o0 = star → m0 = 0) : o = star → m = 0 := by
 intro e
 subst e
 have hsd : star ≠ drawT := by decide
 have key : ∀ {a : Int}, ((m : Int), star) = (a, drawT) → False := fun h => hsd (congrArg Prod.snd h)
 have same : ((m : Int), star) = ((m0 : Int), o0) → m = 0 := fun h => by
  have h1 := congrArg Prod.fst h
  have h2 := h0 (congrArg Prod.snd h).symm
  simp only at h1; omega
 unfold ending at h
 simp only at h
 split at h
 ·split at h
  ·exact (key h).elim
  ·have := congrArg Prod.snd h
   unfold a1X at this
   simp only at this
   split at this <;> exact absurd this zd
 ·split at h
  ·exact same h
  ·split at h
   ·exact (key h).elim
   ·split at h
    ·exact (key h).elim
    ·split at h
     ·exact (key h).elim
     ·exact same h
theorem N2 {w : World} {k : Nat} {o : Obj} (h : w.heap[k]? = some o) : k < w.heap.size := (Array.getElem?_eq_some_iff.1 h).1
theorem J4 {w : World} {j k : Nat} {c1 c2 : Array Value} {t1 t2 : Nat} {f1 f2 : Nat × Nat} (h1 : w.heap[j]? = some (.cells c1 t1 f1)) (h2 : w.heap[k]? = some (.cells c2 t2 f2)) (ht : t1 ≠ t2) : j ≠ k := fun e => by
 rw [e] at h1
 exact ht (Obj.cells.inj (Option.some.inj (h1.symm.trans h2))).2.1
structure O4.lt (B : Nat) (n : O4) : Prop where
 M : n.M < B
 P : n.P < B
 b : n.b < B
 cv : ∀ k, n.cv.ownBlock = some k → k < B
 kids : ∀ k, n.d.kids.ownBlock = some k → k < B
theorem O4.lt.off {B : Nat} {n : O4} {X : List Nat} (h : n.lt B) (hX : ∀ k ∈ X, B ≤ k) : n.off X :=
 ⟨fun hm => by have := hX _ hm; have := h.M; omega, fun hm => by have := hX _ hm; have := h.P; omega, fun hm => by have := hX _ hm; have := h.b; omega,
  fun k hk e => by have := hX _ hk; have := h.cv _ e; omega, fun k hk e => by have := hX _ hk; have := h.kids _ e; omega⟩
theorem O4.off.two {n : O4} {a b : Nat} (h : n.off [a]) (h' : n.off [b]) : n.off [a, b] := by
 have e : ∀ {p : Nat → Prop}, (∀ k ∈ [a], p k) → (∀ k ∈ [b], p k) → ∀ k ∈ [a, b], p k := fun h1 h2 k hk => by
  rcases List.mem_cons.1 hk with e | hk
  ·exact h1 k (by rw [e]; exact List.mem_singleton.2 rfl)
  ·exact h2 k hk
 have e2 : ∀ {x : Nat}, x ∉ [a] → x ∉ [b] → x ∉ [a, b] := fun h1 h2 hm => by
  rcases List.mem_cons.1 hm with e | hm
  ·exact h1 (by rw [e]; exact List.mem_singleton.2 rfl)
  ·exact h2 hm
 exact ⟨e2 h.M h'.M, e2 h.P h'.P, e2 h.b h'.b, e h.cv h'.cv, e h.kids h'.kids⟩
theorem O4.off_nil (n : O4) : n.off [] := ⟨by simp, by simp, by simp, by simp, by simp⟩
theorem H0.cvlt {w : World} {P b k : Nat} {p : k8} {cv : Value} (h : H0 w P b p cv) (hk : cv.ownBlock = some k) : k < w.heap.size := by
 rcases h.ca with e | hr
 ·rw [e] at hk; cases hk
 ·exact (hr.own hk).2
theorem Chn.lt {w : World} : ∀ {l : List O4}, Chn w l → ∀ n ∈ l, n.lt w.heap.size
 | [], _, _, h => by cases h
 | n :: l, ⟨h1, h2, h3, h4, h5⟩, x, hx => by
  rcases List.mem_cons.1 hx with e | hx
  ·subst e
   refine ⟨N2 h1, N2 h4.hd, N2 h4.bd, fun k hk => h4.cvlt hk, fun k hk => ?_⟩
   cases l with
   | nil =>
    have h3 : x.d.kids = .slice none 0 0 := h3
    rw [h3] at hk; cases hk
   | cons m r => exact (Row.own (show Row 85 1 O8 0 w x.d.kids [m.M] from h3) hk).2
  ·exact Chn.lt h5 x hx
theorem Chn.last {w : World} {z : O4} : ∀ {L : List O4}, Chn w (L ++ [z]) → w.heap[z.M]? = some (.cells (F0 z.d) 141 (0, 0)) ∧ z.d.pos = .pointer (some ⟨z.P, 0, none⟩) ∧ H0 w z.P z.b z.p z.cv
 | [], ⟨h1, h2, _, h4, _⟩ => ⟨h1, h2, h4⟩
 | _ :: L, ⟨_, _, _, _, h5⟩ => Chn.last h5
theorem Row.tnT {α : Type} {enc : α → List Value} {e z b0 b t : Nat} {w w' : World} {v : Value} {l : List α} {cs : Array Value} {fz : Nat × Nat} (h : Row e z enc b0 w v l) (ht : Tn b w w') (hb : w.heap[b]? = some (.cells cs t fz)) (hne : e ≠ t) : Row e z enc b0 w' v l := by
 refine ⟨h.1, ?_⟩
 rcases h.2 with h2 | ⟨g, cap, cur, h1, h2, h3, h4⟩
 ·exact .inl h2
 ·exact .inr ⟨g, cap, cur, h1, h2, ht.blk h3 (J4 h3 hb hne), h4⟩
theorem Chn.recv {w w' : World} {z : O4} {cv' : Value} {A : Array Value} (ht : Tn z.P w w') (hz : w.heap[z.P]? = some (.cells A 173 (0, 0))) (hp : H0 w' z.P z.b z.p cv') :
  ∀ {L : List O4}, Chn w (L ++ [z]) → (∀ n ∈ L, n.P ≠ z.P) → Chn w' (L ++ [{ z with cv := cv' }])
 | [], ⟨h1, h2, h3, h4, _⟩, _ => ⟨ht.blk h1 (J4 h1 hz zd), h2, h3, hp, trivial⟩
 | n :: L, ⟨h1, h2, h3, h4, h5⟩, hd => by
  refine ⟨ht.blk h1 (J4 h1 hz zd), h2, ?_, ⟨ht.blk h4.hd (hd n (List.mem_cons_self ..)), ht.blk h4.bd (J4 h4.bd hz zd), h4.ca.elim .inl fun h => .inr (h.tnT ht hz zd)⟩, Chn.recv ht hz hp h5 fun x hx => hd x (List.mem_cons_of_mem _ hx)⟩
  cases L with
  | nil => exact Row.tnT (show Row 85 1 O8 0 w n.d.kids [z.M] from h3) ht hz zd
  | cons m r => exact Row.tnT (show Row 85 1 O8 0 w n.d.kids [m.M] from h3) ht hz zd
structure K3 (w : World) (G0 : Nat) (g : Gm) (L : List O4) (z : O4) : Prop where
 hb : w.heap[G0]? = some (.cells (gmA g) 131 (0, 0))
 cur : g.cur = z.M
 pos : g.P = z.P
 root : ∃ n l, L ++ [z] = n :: l ∧ g.root = n.M
 chn : Chn w (L ++ [z])
 kids : z.d.kids = .slice none 0 0
 off : ∀ n ∈ L, n.off [z.M]
 zcv : z.cv.ownBlock ≠ some z.M
 dis : ∀ n ∈ L, n.P ≠ z.P
 mo : g.out = star → g.meth = 0
section gameAt
variable {w w' : World} {G0 : Nat} {g : Gm} {L : List O4} {z : O4}
theorem K3.posM (h : K3 w G0 g L z) : H0 w g.P z.b z.p z.cv := by rw [h.pos]; exact h.chn.last.2.2
theorem K3.node (h : K3 w G0 g L z) : w.heap[z.M]? = some (.cells (F0 z.d) 141 (0, 0)) := h.chn.last.1
theorem K3.step (h : K3 w G0 g L z) (c : Cl w w') : K3 w' G0 g L z := ⟨c.blk h.hb, h.cur, h.pos, h.root, h.chn.step c, h.kids, h.off, h.zcv, h.dis, h.mo⟩
theorem K3.recv (h : K3 w G0 g L z) {cv' : Value} (ht : Tn z.P w w') (hp : H0 w' z.P z.b z.p cv') (ho : ∀ k, cv'.ownBlock = some k → z.cv.ownBlock = some k ∨ w.heap.size ≤ k) : K3 w' G0 g L { z with cv := cv' } := by
 have hz := h.chn.last.2.2.hd
 refine ⟨ht.blk h.hb (J4 h.hb hz zd), h.cur, h.pos, ?_, Chn.recv ht hz hp h.chn h.dis, h.kids, h.off, fun e => ?_, h.dis, h.mo⟩
 ·obtain ⟨n, l, e, hr⟩ := h.root
  cases L with
  | nil =>
   simp only [List.nil_append, List.cons.injEq] at e
   exact ⟨_, _, rfl, by rw [hr, ← e.1]⟩
  | cons m r =>
   simp only [List.cons_append, List.cons.injEq] at e
   exact ⟨_, _, rfl, by rw [hr, ← e.1]⟩
 ·rcases ho _ e with e | e
  ·exact h.zcv e
  ·have := N2 h.node; exact absurd (show w.heap.size ≤ z.M from e) zo
end gameAt
def O4.led (z : O4) (kv : Value) : O4 := { z with d := { z.d with kids := kv } }
theorem b29 {w : World} {G0 M O to : Nat} {fo : Nat × Nat} {g : Gm} {L : List O4} {z : O4} {d : Nd} (hT : C1 w) (h : K3 w G0 g L z) (hI : B7 z.p) (hN : a1z z.p) (hm : d.mv ∈ y8 z.p) (htg : (d.tags : Int) = told z.p d.mv) (hk : d.kids = .slice none 0 0)
  (hM : w.heap[M]? = some (.cells (F0 d) 141 (0, 0))) (hoff : ∀ n ∈ L ++ [z], n.off [M]) (hO : w.heap[O]? = some (.cells #[.bool false] to fo)) (hOM : O ≠ M) (hI' : B7 (made z.p d.mv)) (hle' : (z8 (made z.p d.mv)).length ≤ 218)
  (hsuf : ∀ b, c0Q (made z.p d.mv) b) (hJ : ∀ n ∈ L ++ [z], B7 n.p) (hlen : L.length + 2 ≤ 100000) :
  Calls G.P 102 #[.pointer (some ⟨G0, 0, none⟩), .pointer (some ⟨M, 0, none⟩), .pointer (some ⟨O, 0, none⟩)] w (fun r w' => r = .returned .nilIface ∧ ∃ g' kv y, K3 w' G0 g' (L ++ [z.led kv]) y ∧ y.M = M ∧ y.d.mv = d.mv ∧ y.d.tags = d.tags
   ∧ y.p = made z.p d.mv ∧ w.heap.size ≤ y.P ∧ y.cv = .slice none 0 0 ∧ ((g'.meth : Int), g'.out) = ending ((L ++ [z]).map O4.p ++ [y.p]) y.p ((g.meth : Int), g.out) ∧ Fr [M, z.M, G0] w w') := by
 have hz : z.off [M] := hoff z (by simp)
 have hcur := h.cur
 have hpos := h.pos
 have hnode : w.heap[g.cur]? = some (.cells (F0 z.d) 141 (0, 0)) := by rw [hcur]; exact h.node
 have hP := h.posM
 have hcM : g.cur ≠ M := fun e => hz.M (by rw [← hcur, e]; exact List.mem_singleton.2 rfl)
 have hzc : z.cv.ownBlock ≠ some g.cur := by rw [hcur]; exact h.zcv
 have hMl := N2 hM
 have hGl := N2 h.hb
 have hev : ∀ P' b' kv w3, b3L w G0 M g z.d d (made z.p d.mv) P' b' kv w3 → Calls G.P 138 #[.pointer (some ⟨G0, 0, none⟩)] w3 (fun r w' => r = .returned (.tuple #[]) ∧
   ∃ g' y, K3 w' G0 g' (L ++ [z.led kv]) y ∧ y.M = M ∧ y.d.mv = d.mv ∧ y.d.tags = d.tags ∧ y.p = made z.p d.mv ∧ w.heap.size ≤ y.P ∧ y.cv = .slice none 0 0 ∧ ((g'.meth : Int), g'.out) = ending ((L ++ [z]).map O4.p ++ [y.p]) y.p ((g.meth : Int), g.out) ∧ Fr [M, z.M, G0] w w') := by
  intro P' b' kv w3 mv
  have sP := mv.P
  have sb := mv.b
  obtain ⟨y, hy⟩ : ∃ y : O4, y = ⟨M, { d with par := .pointer (some ⟨g.cur, 0, none⟩), pos := .pointer (some ⟨P', 0, none⟩) }, P', b', made z.p d.mv, .slice none 0 0⟩ := ⟨_, rfl⟩
  have hyM : y.M = M := by rw [hy]
  have hyP : y.P = P' := by rw [hy]
  have hyp : y.p = made z.p d.mv := by rw [hy]
  have hykid : y.d.kids = .slice none 0 0 := by rw [hy]; exact hk
  have hnew : Chn w3 [y] := by rw [hy]; exact ⟨mv.new, rfl, hk, mv.pos, trivial⟩
  have k3 : Kp [z.M, y.M] w w3 := Kp.fr mv.fr fun k hk => by
   rw [hyM, ← hcur]
   simp only [List.mem_cons, List.not_mem_nil, or_false] at hk ⊢
   rcases hk with e | e | e
   ·exact .inl (.inr e)
   ·exact .inl (.inl e)
   ·exact .inr ⟨_, _, by rw [e]; exact h.hb⟩
  have hoffL : ∀ n ∈ L, n.off [z.M, y.M] := fun n hn => (h.off n hn).two (by rw [hyM]; exact hoff n (List.mem_append_left _ hn))
  have hne2 : ∀ {a : Nat}, a ≠ z.M → a ∉ [M] → a ∉ [z.M, y.M] := fun h1 h2 hm => by
   rw [hyM] at hm
   rcases List.mem_cons.1 hm with e | e
   ·exact h1 e
   ·exact h2 e
  have hPm := h.chn.last.2.2
  have hch : Chn w3 (L ++ [z.led kv, y]) := Chn.snoc k3 h.chn hoffL (hne2 (J4 hPm.hd h.node zd) hz.P) (hne2 (J4 hPm.bd h.node zd) hz.b)
   (fun k hk => by
    rw [hyM] at hk
    rcases List.mem_cons.1 hk with e | e
    ·rw [e]; exact h.zcv
    ·exact hz.cv k e)
   (by rw [← hcur]; exact mv.cur) (by rw [hyM]; exact mv.row.mono (Nat.zero_le _)) hnew
  have hroot : ∃ n l, L ++ [z.led kv, y] = n :: l ∧ g.root = n.M := by
   obtain ⟨n, l, e, hr⟩ := h.root
   cases L with
   | nil =>
    simp only [List.nil_append, List.cons.injEq] at e
    exact ⟨_, _, rfl, by rw [hr, ← e.1]; rfl⟩
   | cons m r =>
    simp only [List.cons_append, List.cons.injEq] at e
    exact ⟨_, _, rfl, by rw [hr, ← e.1]⟩
  obtain ⟨n, l, enl, hrt⟩ := hroot
  have hpos' : (L ++ [z.led kv, y]).map O4.p = (L ++ [z]).map O4.p ++ [y.p] := by simp [O4.led]
  have hT3 : C1 w3 := hT.fr mv.fr fun k hk cs t fz hh => by
   simp only [List.mem_cons, List.not_mem_nil, or_false] at hk
   rcases hk with e | e | e
   ·rw [e] at hh; rw [← (Obj.cells.inj (Option.some.inj (hM.symm.trans hh))).2.1]; decide
   ·rw [e] at hh; rw [← (Obj.cells.inj (Option.some.inj (hnode.symm.trans hh))).2.1]; decide
   ·rw [e] at hh; rw [← (Obj.cells.inj (Option.some.inj (h.hb.symm.trans hh))).2.1]; decide
  have hlen' : (n :: l).length ≤ 100000 := by rw [← enl]; simp; omega
  have hJ' : ∀ x ∈ n :: l, B7 x.p := fun x hx => by
   rw [← enl] at hx
   rcases List.mem_append.1 hx with hx | hx
   ·exact hJ x (List.mem_append_left _ hx)
   ·simp only [List.mem_cons, List.not_mem_nil, or_false] at hx
    rcases hx with e | e
    ·rw [e]; exact hJ z (by simp)
    ·rw [e, hyp]; exact hI'
  have hch2 := hch
  rw [enl] at hch
  have H := a8N (p := made z.p d.mv) (g := { g with P := P', cur := M }) (G0 := G0) (b := b') (cv := .slice none 0 0) hI' hle' (hsuf b') hlen' hJ' w3 hT3 mv.game hrt hch mv.pos (by show P' ≠ G0; omega) zo h.mo
  refine H.mono fun r w' hr => ?_
  obtain ⟨hr, m', o', hend, hgb, hfr⟩ := hr
  rw [← enl, hpos', hyp] at hend
  have kG : Kp [] w3 w' := Kp.fr hfr fun k hk => by rw [List.mem_singleton.1 hk]; exact .inr ⟨_, _, mv.game⟩
  have hlt := h.chn.lt
  refine ⟨hr, { g with P := P', cur := M, out := o', meth := m' }, y, ⟨hgb, hyM.symm, hyP.symm, ?_, ?_, hykid, ?_, ?_, ?_, ?_⟩, hyM, by rw [hy], by rw [hy], hyp, by rw [hyP]; exact sP, by rw [hy], by rw [hyp]; exact hend, ?_⟩
  ·exact ⟨n, l, by rw [List.append_assoc]; exact enl, hrt⟩
  ·rw [List.append_assoc]; exact Chn.kp kG hch2 fun n _ => n.off_nil
  ·intro x hx
   rw [hyM]
   rcases List.mem_append.1 hx with hx | hx
   ·exact hoff x (List.mem_append_left _ hx)
   ·rw [List.mem_singleton.1 hx]
    refine ⟨hz.M, hz.P, hz.b, hz.cv, fun k hk e => ?_⟩
    have := (mv.row.own e).1
    rw [List.mem_singleton.1 hk] at this
    omega
  ·rw [hy]; intro e; cases e
  ·intro x hx
   rw [hyP]
   rcases List.mem_append.1 hx with hx | hx
   ·have := (hlt x (List.mem_append_left _ hx)).P; omega
   ·rw [List.mem_singleton.1 hx]
    have : z.P < w.heap.size := (hlt z (by simp)).P
    show z.P ≠ P'
    omega
  ·exact a8O hend h.mo
  ·rw [← hcur]; exact mv.fr.trans (hfr.mono (by simp))
 refine Go.Calls.mono (b6W hI hN hm htg w hT hP h.hb hnode h.kids hM hO hcM ?_ ?_ ?_ ?_ ?_ hOM hev) ?_
 ·intro e; exact hz.P (by rw [← hpos, e]; exact List.mem_singleton.2 rfl)
 ·exact J4 hP.hd hnode zd
 ·intro e; exact hz.b (by rw [e]; exact List.mem_singleton.2 rfl)
 ·exact J4 hP.bd hnode zd
 ·intro k hk
  rcases List.mem_cons.1 hk with e | e
  ·rw [e]; exact hz.cv M (List.mem_singleton.2 rfl)
  ·rw [List.mem_singleton.1 e]; exact hzc
 ·rintro r w' ⟨hr, P', b', kv, w3, mv, g', y, hh⟩
  exact ⟨hr, g', kv, y, hh⟩
end
section
open Go Go.RowKit
open E
structure En where
 k : Int
 v : Int
 n : Nat
def enE (qk qe : IntKind) (x : En) : MapEntry := ⟨.int qk x.k, .int qe x.v, x.n⟩
def mpO (qk qe : IntKind) (l : List En) (c : Nat) : Obj := .map (l.map (enE qk qe)).toArray c
structure a1y (t k e : Nat) (qk qe : IntKind) : Prop where
 ty : G.P.underlying t = some (.map k e)
 kt : G.P.underlying k = some (.int qk)
 zt : (G.P.info? e).bind (·.zero) = some (.int qe 0)
noncomputable def c2l (t k e : Nat) (qk qe : IntKind) : Bool :=
 (match G.P.underlying t with | some (.map k' e') => Nat.beq k' k && Nat.beq e' e | _ => false) && (match G.P.underlying k with | some (.int q) => decide (q = qk) | _ => false) && (match (G.P.info? e).bind (·.zero) with | some (.int q 0) => decide (q = qe) | _ => false)
theorem a7F {t k e : Nat} {qk qe : IntKind} (h : c2l t k e qk qe = true) : a1y t k e qk qe := by
 simp only [c2l, Bool.and_eq_true] at h
 obtain ⟨⟨h1, h2⟩, h3⟩ := h
 refine ⟨?_, ?_, ?_⟩
 ·split at h1
  ·rename_i k' e' he
   simp only [Bool.and_eq_true] at h1
   rw [he, Nat.eq_of_beq_eq_true h1.1, Nat.eq_of_beq_eq_true h1.2]
  ·cases h1
 ·split at h2
  ·rename_i q he; rw [he, of_decide_eq_true h2]
  ·cases h2
 ·split at h3
  ·rename_i q he; rw [he, of_decide_eq_true h3]
  ·cases h3
def a1L (key : Int) : List En → Nat → Option (Nat × Int)
 | [], _ => none
 | x :: r, i => if key = x.k then some (i, x.v) else a1L key r (i + 1)
def getV (l : List En) (key : Int) : Option Int := (a1L key l 0).map (·.2)
def a9G (key v : Int) : List En → List En
 | [] => []
 | x :: r => if key = x.k then ⟨key, v, x.n⟩ :: r else x :: a9G key v r
def a4U (key : Int) : List En → List En
 | [] => []
 | x :: r => if key = x.k then r else x :: a4U key r
def a7G (l : List En) (key v : Int) (c : Nat) : List En := if (getV l key).isSome then a9G key v l else l ++ [⟨key, v, c⟩]
def b2A (l : List En) (key : Int) (c : Nat) : Nat := if (getV l key).isSome then c else c + 1
theorem a3e (key : Int) : ∀ (l : List En) (i : Nat), a1L key l i = (a1L key l 0).map fun y => (i + y.1, y.2)
 | [], _ => rfl
 | x :: r, i => by
  by_cases h : key = x.k
  ·simp [a1L, h]
  ·simp only [a1L, if_neg h]
   rw [a3e key r (i + 1), a3e key r (0 + 1), Option.map_map]
   congr 1; funext y; simp only [Function.comp]; rw [show i + (0 + 1 + y.1) = i + 1 + y.1 by omega]
theorem a4V (key : Int) : getV [] key = none := rfl
theorem V0 (x : En) (r : List En) (key : Int) : getV (x :: r) key = if key = x.k then some x.v else getV r key := by
 unfold getV
 by_cases h : key = x.k
 ·simp [a1L, h]
 ·simp only [a1L, if_neg h]
  rw [a3e key r (0 + 1), Option.map_map]
  rfl
theorem b1i (key k v : Int) (c : Nat) : ∀ l : List En, getV (l ++ [⟨k, v, c⟩]) key = (getV l key).or (if key = k then some v else none)
 | [] => by rw [List.nil_append, V0, a4V]; rfl
 | x :: r => by
  rw [List.cons_append, V0, V0]
  split
  ·rfl
  ·exact b1i key k v c r
theorem b1j (key v k : Int) : ∀ l : List En, (getV l key).isSome = true → getV (a9G key v l) k = if k = key then some v else getV l k
 | [], h => by cases h
 | x :: r, h => by
  rw [V0] at h
  rw [a9G]
  by_cases hx : key = x.k
  ·rw [if_pos hx, V0, V0]
   by_cases hk : k = key
   ·rw [if_pos hk, if_pos hk]
   ·rw [if_neg hk, if_neg hk, if_neg (by rw [← hx]; exact hk)]
  ·rw [if_neg hx] at h ⊢
   rw [V0, V0, b1j key v k r h]
   by_cases hk : k = key
   ·subst hk; rw [if_neg hx, if_pos rfl, if_pos rfl]
   ·simp only [if_neg hk]
theorem a7H (l : List En) (key v : Int) (c : Nat) (k : Int) : getV (a7G l key v c) k = if k = key then some v else getV l k := by
 unfold a7G
 split
 ·rename_i h; exact b1j key v k l h
 ·rename_i h
  rw [b1i]
  by_cases hk : k = key
  ·have : getV l key = none := by cases e : getV l key with | none => rfl | some _ => rw [e] at h; exact absurd rfl h
   subst hk; rw [this, if_pos rfl]; rfl
  ·rw [if_neg hk, if_neg hk]; cases getV l k <;> rfl
theorem a8P {key : Int} : ∀ {l : List En}, (∀ x ∈ l, x.k ≠ key) → getV l key = none
 | [], _ => rfl
 | x :: r, h => by rw [V0, if_neg (fun e => h x (List.mem_cons_self ..) e.symm)]; exact a8P fun y hy => h y (List.mem_cons_of_mem _ hy)
theorem b1k {l : List En} {key v : Int} {c : Nat} (h : getV l key = none) : a7G l key v c = l ++ [⟨key, v, c⟩] ∧ b2A l key c = c + 1 := by
 unfold a7G b2A; rw [h]; exact ⟨rfl, rfl⟩
theorem a0N (qk qe : IntKind) (key : Int) : ∀ (l : List En) (i : Nat), Instr.findNow (.int qk) (.int qk key) (l.map (enE qk qe)) i = some ((a1L key l i).map fun y => (y.1, Value.int qe y.2))
 | [], _ => rfl
 | x :: r, i => by
  by_cases h : key = x.k
  ·simp [Instr.findNow, Instr.sameNow, enE, a1L, h]
  ·have hb : (key == x.k) = false := by simp [h]
   simp only [List.map_cons, Instr.findNow, Instr.sameNow, enE, if_true, hb, a1L, if_neg h]
   exact a0N qk qe key r (i + 1)
theorem a7I {qk qe : IntKind} {key : Int} : ∀ {l : List En} {i : Nat} {u : Int}, a1L key l 0 = some (i, u) → (l.map (enE qk qe))[i]?.map (·.key) = some (.int qk key) ∧
   (∀ v : Int, (l.map (enE qk qe)).modify i (fun e => { e with key := .int qk key, val := .int qe v }) = (a9G key v l).map (enE qk qe)) ∧ (l.map (enE qk qe)).eraseIdx i = (a4U key l).map (enE qk qe)
 | [], _, _, h => by cases h
 | x :: r, i, u, h => by
  by_cases hk : key = x.k
  ·simp only [a1L, if_pos hk] at h
   injection h with h; injection h with h1 h2
   subst h1
   refine ⟨by simp [enE, hk], fun v => ?_, ?_⟩
   ·simp [a9G, hk, enE]
   ·simp [a4U, hk]
  ·simp only [a1L, if_neg hk] at h
   rw [a3e] at h
   cases hl : a1L key r 0 with
   | none => rw [hl] at h; cases h
   | some y =>
    obtain ⟨j, u'⟩ := y
    rw [hl] at h
    injection h with h; injection h with h1 h2
    obtain ⟨a1, a2, a3⟩ := a7I (qk := qk) (qe := qe) hl
    have h1 : i = j + 1 := by omega
    subst h1
    refine ⟨by simpa using a1, fun v => ?_, ?_⟩
    ·rw [List.map_cons, List.modify_succ_cons, a2 v, a9G, if_neg hk, List.map_cons]
    ·rw [List.map_cons, List.eraseIdx_cons_succ, a3, a4U, if_neg hk, List.map_cons]
theorem a6E {w : World} {b : Nat} {o0 : Obj} (hb : w.heap[b]? = some o0) (o : Obj) : Upd w b o { w with heap := w.heap.setIfInBounds b o } :=
 ⟨rfl, rfl, rfl, by simp, (MapKept.heap_set hb).1, (MapKept.heap_set hb).2⟩
section runs
variable {t k e : Nat} {qk qe : IntKind} {w : World} {l : List En} {c b : Nat} {key : Int}
theorem a9H (M : a1y t k e qk qe) (em : Bool) : (Instr.checkKey em 10000 k (.int qk key)).run G.P w = .ok () w :=
 MapKept.run_checkKey (n := 9999) M.kt (by simp [MapKept.IsKey]) em
theorem b1l (M : a1y t k e qk qe) (ok : Bool) (hb : w.heap[b]? = some (mpO qk qe l c)) :
  (Instr.lookup t (.map (some b)) (.int qk key) ok).run G.P w = .ok (if ok then .tuple #[.int qe ((getV l key).getD 0), .bool (getV l key).isSome] else .int qe ((getV l key).getD 0)) w := by
 have h1 := a9H (w := w) (key := key) M
 have h2 := MapKept.run_findKey (w := w) M.kt (a0N qk qe key l 0)
 have h3 : (zeroValue e).run G.P w = .ok (.int qe 0) w := by
  have hz := M.zt
  cases hi : G.P.info? e with
  | none => rw [hi] at hz; cases hz
  | some i => rw [hi] at hz; unfold zeroValue typeInfo; simp at hz; simp [hi, hz]
 unfold Instr.lookup getV
 cases hl : a1L key l 0 with
 | none =>
  rw [hl] at h2
  simp [run_underlying M.ty, MapKept.run_getObj_map hb, h1, h2, h3]
 | some y =>
  rw [hl] at h2
  simp [run_underlying M.ty, MapKept.run_getObj_map hb, h1, h2]
theorem b8N (M : a1y t k e qk qe) (v : Int) (hb : w.heap[b]? = some (mpO qk qe l c)) :
  ∃ w', (Instr.mapUpdate t (.map (some b)) (.int qk key) (.int qe v)).run G.P w = .ok () w' ∧ Upd w b (mpO qk qe (a7G l key v c) (b2A l key c)) w' := by
 have h1 := a9H (w := w) (key := key) M
 have h2 := MapKept.run_findKey (w := w) M.kt (a0N qk qe key l 0)
 refine ⟨_, ?_, a6E hb _⟩
 unfold Instr.mapUpdate a7G b2A getV
 cases hl : a1L key l 0 with
 | none =>
  rw [hl] at h2
  simp [run_underlying M.ty, MapKept.run_getObj_map hb, h1, h2, MapKept.run_setObj_map _ hb, mpO, enE]
 | some y =>
  obtain ⟨i, u⟩ := y
  rw [hl] at h2
  obtain ⟨a1, a2, _⟩ := a7I (qk := qk) (qe := qe) hl
  have hs : (Instr.keyThatStays (.int qk key) (.int qk key)).run G.P w = .ok (.int qk key) w := by
   unfold Instr.keyThatStays
   rw [show Instr.sameBits 10000 (.int qk key) (.int qk key) = true by simp [Instr.sameBits]]
   rfl
  have a2 := a2 v
  have hb : w.heap[b]? = some (.map (l.map (enE qk qe)).toArray c) := hb
  have hgoal : mpO qk qe (a9G key v l) c = .map ((a9G key v l).map (enE qk qe)).toArray c := rfl
  rw [← a2] at hgoal
  generalize l.map (enE qk qe) = E at *
  have hk : (Option.map (fun x => x.key) E[i]?).getD (.int qk key) = .int qk key := by rw [a1]; rfl
  simp [run_underlying M.ty, MapKept.run_getObj_map hb, h1, h2, hk, hs, MapKept.run_setObj_map _ hb, hgoal]
theorem b8O (M : a1y t k e qk qe) (ty : Nat) (hb : w.heap[b]? = some (mpO qk qe l c)) :
  ∃ w', (Builtin.delete_ #[t, k] ty #[.map (some b), .int qk key]).run G.P w = .ok (.tuple #[]) w' ∧ Upd w b (mpO qk qe (a4U key l) c) w' := by
 have h1 := a9H (w := w) (key := key) M
 have h2 := MapKept.run_findKey (w := w) M.kt (a0N qk qe key l 0)
 refine ⟨_, ?_, a6E hb _⟩
 unfold Builtin.delete_
 cases hl : a1L key l 0 with
 | none =>
  have hd : ∀ l : List En, a1L key l 0 = none → a4U key l = l := by
   intro l
   induction l with
   | nil => intro _; rfl
   | cons x r ih =>
    intro h
    by_cases hk : key = x.k
    ·simp [a1L, hk] at h
    ·simp only [a1L, if_neg hk] at h
     rw [a3e, Option.map_eq_none_iff] at h
     rw [a4U, if_neg hk, ih h]
  rw [hl] at h2
  simp [run_underlying M.ty, MapKept.run_getObj_map hb, h1, h2, MapKept.run_setObj_map _ hb, mpO, hd l hl]
 | some y =>
  obtain ⟨i, u⟩ := y
  rw [hl] at h2
  obtain ⟨_, _, a3⟩ := a7I (qk := qk) (qe := qe) hl
  have hb : w.heap[b]? = some (.map (l.map (enE qk qe)).toArray c) := hb
  have hgoal : mpO qk qe (a4U key l) c = .map ((a4U key l).map (enE qk qe)).toArray c := rfl
  rw [← a3] at hgoal
  generalize l.map (enE qk qe) = E at *
  simp [run_underlying M.ty, MapKept.run_getObj_map hb, h1, h2, MapKept.run_setObj_map _ hb, hgoal]
end runs
structure Itr (qk qe : IntKind) (w : World) (b r : Nat) (l : List En) (c : Nat) (rem : List En) : Prop where
 hb : w.heap[b]? = some (mpO qk qe l c)
 hr : ∃ seen s c0, w.heap[r]? = some (.mapIter (some b) s seen c0) ∧ rem = l.filter (fun x => !seen.contains x.n) ∧ (∀ x ∈ l, x.n < s) ∧ s ≤ c0 ∧ s ≤ c
 nd : (l.map (·.n)).Nodup
structure Ent (qk qe : IntKind) (w : World) (b r : Nat) (l : List En) (c : Nat) (x : En) : Prop where
 hb : w.heap[b]? = some (mpO qk qe l c)
 hr : ∃ (seen : Array Nat) (s : Nat), w.heap[r]? = some (.mapIter (some b) s (seen.push x.n) c)
 nd : (l.map (·.n)).Nodup
 mem : x ∈ l
theorem Itr.kp {qk qe : IntKind} {w w' : World} {b r c : Nat} {l rem : List En} (h : Itr qk qe w b r l c rem) (h1 : ∀ o, w.heap[b]? = some o → w'.heap[b]? = some o) (h2 : ∀ o, w.heap[r]? = some o → w'.heap[r]? = some o) : Itr qk qe w' b r l c rem := by
 obtain ⟨hb, ⟨seen, s, c0, hr, h3⟩, nd⟩ := h
 exact ⟨h1 _ hb, ⟨seen, s, c0, h2 _ hr, h3⟩, nd⟩
theorem Ent.kp {qk qe : IntKind} {w w' : World} {b r c : Nat} {l : List En} {x : En} (h : Ent qk qe w b r l c x) (h1 : ∀ o, w.heap[b]? = some o → w'.heap[b]? = some o) (h2 : ∀ o, w.heap[r]? = some o → w'.heap[r]? = some o) : Ent qk qe w' b r l c x := by
 obtain ⟨hb, ⟨seen, s, hr⟩, nd, hm⟩ := h
 exact ⟨h1 _ hb, ⟨seen, s, h2 _ hr⟩, nd, hm⟩
theorem Itr.step {qk qe : IntKind} {w w' : World} {b r c : Nat} {l rem : List En} (h : Itr qk qe w b r l c rem) (hc : Cl w w') : Itr qk qe w' b r l c rem := h.kp (fun _ h => hc.blk h) (fun _ h => hc.blk h)
theorem a9J {P : Nat → Bool} {l : List En} (hn : (l.map (·.n)).Nodup) {x : En} (hx : x ∈ l.filter fun y => P y.n) :
  ∃ r1 r2, l.filter (fun y => P y.n) = r1 ++ x :: r2 ∧ l.filter (fun y => P y.n && !(y.n == x.n)) = r1 ++ r2 := by
 obtain ⟨r1, r2, h⟩ := List.append_of_mem hx
 refine ⟨r1, r2, h, ?_⟩
 have hn2 : ((l.filter fun y => P y.n).map (·.n)).Nodup := (List.Sublist.map _ List.filter_sublist).nodup hn
 have e : l.filter (fun y => P y.n && !(y.n == x.n)) = (l.filter fun y => P y.n).filter fun y => !(y.n == x.n) := by
  rw [List.filter_filter]; congr 1; funext y; exact Bool.and_comm _ _
 rw [e, h]
 rw [h, List.map_append, List.map_cons, List.nodup_append] at hn2
 obtain ⟨a1, a2, a3⟩ := hn2
 rw [List.nodup_cons] at a2
 rw [List.filter_append, List.filter_cons]
 have k1 : r1.filter (fun y => !(y.n == x.n)) = r1 := List.filter_eq_self.2 fun y hy => by
  have := a3 y.n (List.mem_map.2 ⟨y, hy, rfl⟩) x.n (List.mem_cons_self ..)
  simp [this]
 have k2 : r2.filter (fun y => !(y.n == x.n)) = r2 := List.filter_eq_self.2 fun y hy => by
  have : y.n ≠ x.n := fun e => a2.1 (by rw [← e]; exact List.mem_map.2 ⟨y, hy, rfl⟩)
  simp [this]
 rw [k1, k2]; simp
section gens
variable {t k e : Nat} {qk qe : IntKind} {w : World} {l : List En} {c b : Nat} {dst : Option Nat} {ty : Nat} {pos : String} {af : Array Edge} {gd : Option (Nat × Bool)} {env : C0} {K : Value → World → Prop}
theorem a32 {t : Nat} (h : K (.map (some w.heap.size)) (w.alloc (.map #[] 0))) : L5 G.P { dst, op := .makeMap t none, type := ty, pos, after := af, guard := gd } env w K := by
 refine ⟨.inl ⟨_, _, ?_, h⟩⟩
 show (do pure (Next.value (← Instr.makeMap t none)) : Sem Next).run G.P w = _
 simp [Instr.makeMap]
theorem a7J (M : a1y t k e qk qe) {x : Operand} {q : IntKind} {n : Int} (hx : ev env x = .int q n) (h : K (.map (some w.heap.size)) (w.alloc (.map #[] 0))) : L5 G.P { dst, op := .makeMap t (some x), type := ty, pos, after := af, guard := gd } env w K := by
 refine ⟨.inl ⟨_, _, ?_, h⟩⟩
 show (do pure (Next.value (← Instr.makeMap t (some (ev env x)))) : Sem Next).run G.P w = _
 rw [hx]
 simp [Instr.makeMap, run_underlying M.ty, asInt, asIntOf]
theorem b8P (M : a1y t k e qk qe) {m x : Operand} {key : Int} (hm : ev env m = .map (some b)) (hx : ev env x = .int qk key) (hb : w.heap[b]? = some (mpO qk qe l c)) (h : K (.tuple #[.int qe ((getV l key).getD 0), .bool (getV l key).isSome]) w) :
  L5 G.P { dst, op := .lookup t m x true, type := ty, pos, after := af, guard := gd } env w K := by
 refine ⟨.inl ⟨_, _, ?_, h⟩⟩
 show (do pure (Next.value (← Instr.lookup t (ev env m) (ev env x) true)) : Sem Next).run G.P w = _
 rw [hm, hx, Sem.run_bind, b1l M true hb]; rfl
theorem b3M (M : a1y t k e qk qe) {m x : Operand} {key : Int} (hm : ev env m = .map (some b)) (hx : ev env x = .int qk key) (hb : w.heap[b]? = some (mpO qk qe l c)) (h : K (.int qe ((getV l key).getD 0)) w) :
  L5 G.P { dst, op := .lookup t m x false, type := ty, pos, after := af, guard := gd } env w K := by
 refine ⟨.inl ⟨_, _, ?_, h⟩⟩
 show (do pure (Next.value (← Instr.lookup t (ev env m) (ev env x) false)) : Sem Next).run G.P w = _
 rw [hm, hx, Sem.run_bind, b1l M false hb]; rfl
theorem R9 (M : a1y t k e qk qe) {m x : Operand} {key : Int} (v : Int) (hm : ev env m = .map (some b)) (hx : ev env x = .int qk key) (hb : w.heap[b]? = some (mpO qk qe l c)) (hv : (getV l key).getD 0 = v) (h : K (.int qe v) w) :
  L5 G.P { dst, op := .lookup t m x false, type := ty, pos, after := af, guard := gd } env w K := by subst hv; exact b3M M hm hx hb h
theorem a4W (M : a1y t k e qk qe) {m x y : Operand} {key v : Int} (hm : ev env m = .map (some b)) (hx : ev env x = .int qk key) (hy : ev env y = .int qe v) (hb : w.heap[b]? = some (mpO qk qe l c))
  (h : ∀ w', Upd w b (mpO qk qe (a7G l key v c) (b2A l key c)) w' → K undef w') : L5 G.P { dst, op := .mapUpdate t m x y, type := ty, pos, after := af, guard := gd } env w K := by
 obtain ⟨w', h1, h2⟩ := b8N M (key := key) v hb
 refine ⟨.inr (.inl ⟨_, ?_, h w' h2⟩)⟩
 show (do Instr.mapUpdate t (ev env m) (ev env x) (ev env y); pure Next.skip : Sem Next).run G.P w = _
 rw [hm, hx, hy, Sem.run_bind, h1]; rfl
theorem b3N (M : a1y t k e qk qe) {m x : Operand} {key : Int} (hm : ev env m = .map (some b)) (hx : ev env x = .int qk key) (hb : w.heap[b]? = some (mpO qk qe l c))
  (h : ∀ w', Upd w b (mpO qk qe (a4U key l) c) w' → K (.tuple #[]) w') : L5 G.P { dst, op := .call { callee := .builtin .delete, args := #[m, x], argTypes := #[t, k] }, type := ty, pos, after := af, guard := gd } env w K := by
 obtain ⟨w', h1, h2⟩ := b8O M (key := key) ty hb
 refine ⟨.inl ⟨_, w', ?_, h w' h2⟩⟩
 simp only [execOp, resolve, invoke, builtin, Sem.run_bind, Sem.run_pure, Result.andThen_ok, List.map_toArray, List.map_cons, List.map_nil, hm, hx, h1]
theorem a2c (M : a1y t k e qk qe) {m : Operand} (hm : ev env m = .map (some b)) (hb : w.heap[b]? = some (mpO qk qe l c)) (hn : (l.map (·.n)).Nodup) (hc : ∀ x ∈ l, x.n < c)
  (h : ∀ w', Cl w w' → w'.heap.size = w.heap.size + 1 → Itr qk qe w' b w.heap.size l c l → K (.pointer (some ⟨w.heap.size, 0, none⟩)) w') : L5 G.P { dst, op := .range t m, type := ty, pos, after := af, guard := gd } env w K := by
 have h1 := run_range_map (P := G.P) w t k e b _ _ M.ty hb
 refine ⟨.inl ⟨_, _, ?_, h _ (Cl.alloc w _) (y9 _ _) ⟨(Cl.alloc w _).blk hb, ⟨#[], c, c, d8 _ _, (List.filter_eq_self.2 (fun x _ => by simp)).symm, hc, Nat.le_refl _, Nat.le_refl _⟩, hn⟩⟩⟩
 show (do pure (Next.value (← Instr.range t (ev env m))) : Sem Next).run G.P w = _
 rw [hm, Sem.run_bind, h1]; rfl
theorem a3f {it : Operand} {r : Nat} {rem : List En} (hit : ev env it = .pointer (some ⟨r, 0, none⟩)) (hI : Itr qk qe w b r l c rem)
  (h0 : rem = [] → K (.tuple #[.bool false]) w)
  (h1 : ∀ r1 x r2 w', rem = r1 ++ x :: r2 → Tn r w w' → Itr qk qe w' b r l c (r1 ++ r2) → Ent qk qe w' b r l c x → K (.tuple #[.bool true, .int qk x.k, .int qe x.v]) w') :
  L5 G.P { dst, op := .next it false, type := ty, pos, after := af, guard := gd } env w K := by
 obtain ⟨hb, ⟨seen, s, c0, hr, hrem, hold, hs, hsc⟩, nd⟩ := hI
 have hmem : ∀ x ∈ (l.map (enE qk qe)).toArray.toList, x.born < s := fun x hx => by
  obtain ⟨y, hy, rfl⟩ := List.mem_map.1 (by simpa using hx)
  exact hold y hy
 have hleft : (leftOf (l.map (enE qk qe)).toArray seen).toList = rem.map (enE qk qe) := by
  rw [hrem]
  simp only [leftOf, List.filter_toArray, List.filter_map]
  rfl
 have hne : r ≠ b := fun e => by rw [e, hb] at hr; cases hr
 rcases run_next_at (P := G.P) w ty r b s c0 seen _ c hr hb hmem hs with ⟨hz, hrun⟩ | ⟨y, hy, w1, hw1, hrun⟩
 ·have : rem = [] := by
   have := congrArg List.length hleft
   rw [Array.length_toList, hz, List.length_map] at this
   exact List.length_eq_zero_iff.1 this.symm
  refine ⟨.inl ⟨_, _, ?_, h0 this⟩⟩
  show (do pure (Next.value (← Instr.next (ev env it) false ty)) : Sem Next).run G.P w = _
  rw [hit, Sem.run_bind, hrun]; rfl
 ·rw [hleft] at hy
  obtain ⟨x, hx, rfl⟩ := List.mem_map.1 hy
  have hx2 := hx
  rw [hrem] at hx2
  obtain ⟨r1, r2, e1, e2⟩ := a9J (P := fun n => !seen.contains n) nd hx2
  have hr1 : w1.heap[r]? = some (.mapIter (some b) s seen c0) := by rcases hw1 with rfl | rfl <;> exact hr
  have hb1 : w1.heap[b]? = some (mpO qk qe l c) := by rcases hw1 with rfl | rfl <;> exact hb
  have u := a6E hr1 (.mapIter (some b) s (seen.push x.n) c)
  have tn : Tn r w (ChangeMaps.setBlock w1 r (.mapIter (some b) s (seen.push x.n) c)) := by
   have t1 : Tn r w w1 := by
    rcases hw1 with rfl | rfl
    ·exact Tn.refl _ _
    ·exact Tn.cl (Cl.drew (Cl.refl _))
   exact t1.trans (Tn.upd u)
  refine ⟨.inl ⟨_, _, ?_, h1 r1 x r2 _ (hrem.trans e1) tn ⟨(Tn.upd u).blk hb1 (Ne.symm hne), ⟨seen.push x.n, s, c, u.at_, ?_, hold, hsc, hsc⟩, nd⟩ ⟨(Tn.upd u).blk hb1 (Ne.symm hne), ⟨seen, s, u.at_⟩, nd, (List.mem_filter.1 hx2).1⟩⟩⟩
  ·show (do pure (Next.value (← Instr.next (ev env it) false ty)) : Sem Next).run G.P w = _
   rw [hit, Sem.run_bind, hrun]; rfl
  ·rw [← e2]
   congr 1
   funext y
   by_cases h : y.n = x.n <;> simp [Array.contains_push, h]
theorem a2d {it : Operand} {r : Nat} {x : En} (hit : ev env it = .pointer (some ⟨r, 0, none⟩)) (hE : Ent qk qe w b r l c x) (h : K (.tuple #[.int qk x.k, .int qe x.v]) w) :
  L5 G.P { dst, op := .entry it, type := ty, pos, after := af, guard := gd } env w K := by
 obtain ⟨hb, ⟨seen, s, hr⟩, nd, hm⟩ := hE
 have h1 := run_entry_at (P := G.P) w r b s seen _ c (enE qk qe x) hr hb (by simpa using List.mem_map.2 ⟨x, hm, rfl⟩) (by
  have e : ((l.map (enE qk qe)).toArray.toList.map (·.born)) = l.map (·.n) := by simp [enE, Function.comp_def]
  rw [e]; exact nd)
 refine ⟨.inl ⟨_, _, ?_, h⟩⟩
 show (do pure (Next.value (← Instr.entry (ev env it))) : Sem Next).run G.P w = _
 rw [hit, Sem.run_bind, h1]; rfl
end gens
end
end Go.Proofs.YtpclhlhcegcflaaGreatDoor
