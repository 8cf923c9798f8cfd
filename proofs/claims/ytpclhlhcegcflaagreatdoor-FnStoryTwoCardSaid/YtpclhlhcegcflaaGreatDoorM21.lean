/- One part of the proof: Pk26 Pk27 Pk28 Pk29 Pk30 Pk31 Pk32. -/
import Derived.Test.YtpclhlhcegcflaaGreatDoorM1
import Derived.Test.YtpclhlhcegcflaaGreatDoorM3
import Derived.Test.YtpclhlhcegcflaaGreatDoorM9
import Derived.Test.YtpclhlhcegcflaaGreatDoorM20
namespace Go.Proofs.YtpclhlhcegcflaaGreatDoor
set_option maxRecDepth 100000
set_option linter.unusedSimpArgs false
set_option linter.unusedVariables false
section
open Go Go.RowKit
open E
open Ch Bb
theorem c2h : ∃ z, (G.P.info? 36).bind (·.zero) = some z ∧ z.cells.size = 3 := a0H zk
theorem a6e {M t : Nat} {d : Nd} {w : World} {fz : Nat × Nat} (hM : w.heap[M]? = some (.cells (F0 d) t fz)) (f0 : -128 ≤ d.mv.fr) (f1 : d.mv.fr ≤ 127) (t0 : -128 ≤ d.mv.to) (t1 : d.mv.to ≤ 127) (p0 : -128 ≤ d.mv.promo) (p1 : d.mv.promo ≤ 127) :
  Calls G.P 100 #[.pointer (some ⟨M, 0, none⟩)] w (K4 (.agg (K2 d.mv)) w) := by
 have e1 : IntKind.i64.wrap d.mv.fr = d.mv.fr := g7 zo zo
 have e2 : IntKind.i64.wrap d.mv.to = d.mv.to := g7 zo zo
 have e3 : IntKind.i64.wrap d.mv.promo = d.mv.promo := g7 zo zo
 refine zN Tryz.func100 ?_
 refine zR ?_
 obtain ⟨z, hz, hzs⟩ := c2h
 refine t7 z hz ?_
 have cA := Cl.alloc w (.cells z.cells 36)
 have nA := d8 w (.cells z.cells 36)
 generalize w.alloc (.cells z.cells 36) = w1 at *
 have hM1 := cA.blk hM
 refine zR ?_
 refine d9 (b8C hM1) (zR ?_)
 rw [e1]
 refine d9 (c2g hM1) (zR ?_)
 rw [e2]
 refine d9 (a98 hM1) (zR ?_)
 rw [e3]
 refine s9 (K2 d.mv) zk (zR ?_)
 refine J6 nA (E9 d.mv) rfl b1M rfl (I3 _) (by rw [hzs]; decide) (fun w2 u2 => zR ?_)
 have h2 := u2.at_
 rw [C5 _ _ (by rw [hzs]; rfl)] at h2
 refine b5 _ (P9 h2) (zR ?_)
 exact ⟨rfl, u2.cl cA (Nat.le_refl _)⟩
theorem H0.kept {w : World} {P b : Nat} {p : k8} {a : Option Addr} {n c : Nat} (h : H0 w P b p (.slice a n c)) (hr : Row 141 11 C6 0 w (.slice a n c) (N0 p)) (hne : N0 p ≠ []) : ∃ ad, a = some ad := by
 obtain ⟨a', c', e, ha⟩ := hr.form
 injection e with e1 e2 e3
 obtain ⟨g, hg⟩ := ha (List.length_pos_iff.2 hne)
 exact ⟨_, by rw [e1, hg]⟩
def c2i (w w' : World) (p : k8) (m : Mv) (r : Ending) : Prop :=
 (m ∉ y8 p ∧ r = .returned (.pointer none)) ∨ (∃ M x, x ∈ N0 p ∧ x.mv = m ∧ r = .returned (.pointer (some ⟨M, 0, none⟩)) ∧ w.heap.size ≤ M ∧ w'.heap[M]? = some (.cells (F0 (D3 x)) 141 (0, 0)))
set_option maxHeartbeats 1000000 in
theorem c0J {p : k8} (hI : B7 p) (hle : (z8 p).length ≤ 218) {P b : Nat} {cv : Value} {m : Mv} (hm : MvR m) (w : World) (hT : C1 w) (hM : H0 w P b p cv) :
  Calls G.P 44 #[.pointer (some ⟨P, 0, none⟩), .agg (K2 m)] w (fun r w' => ∃ cv', H0 w' P b p cv' ∧ Tn P w w' ∧ Row 141 11 C6 0 w' cv' (N0 p) ∧ c2i w w' p m r ∧ ∀ k, cv'.ownBlock = some k → (cv.ownBlock = some k ∨ w.heap.size ≤ k) ∧ r ≠ .returned (.pointer (some ⟨k, 0, none⟩))) := by
 obtain ⟨mm1, mm2⟩ := a0I hI
 have hlen := a4O hI hle
 refine zN Tryz.func44 ?_
 refine zG ?_
 have cb := Cl.alloc w (.cells (K2 m) 36)
 have nb := d8 w (.cells (K2 m) 36)
 have sb := y9 w (.cells (K2 m) 36)
 generalize w.alloc (.cells (K2 m) 36) = w1 at *
 have hPw : P < w.heap.size := (Array.getElem?_eq_some_iff.1 hM.hd).1
 refine zR ?_
 refine o8 (a4P hI hle w1 (hT.cl cb) (hM.step cb)) ?_
 rintro r w2 ⟨v, cv', rfl, hr, hM2, n2, hr0, hown⟩
 obtain ⟨av, kv, rfl, hav⟩ := hr.form
 have hown2 : ∀ k, cv'.ownBlock = some k → (cv.ownBlock = some k ∨ w.heap.size ≤ k) ∧ k < w2.heap.size := fun k h => ⟨(hown k h).imp id (Nat.le_trans cb.size), (hr0.own h).2⟩
 clear hown
 refine ⟨_, rfl, ?_⟩
 have nb2 := n2.blk nb zo
 have ntw := (Tn.cl (b := P) cb).trans n2
 have hcr : ∀ w', Cl w2 w' → Row 141 11 C6 0 w' cv' (N0 p) := fun w' hc => hr0.step hc
 refine zR ?_
 refine A9 (σ := Nat) [4, 6, 10] 11 (fun i => [(10, .int .i64 i)]) (fun i w' => i ≤ (N0 p).length ∧ Cl w2 w' ∧ ∀ x ∈ (N0 p).take i, x.mv ≠ m) (fun i => (N0 p).length - i) zk 0 ⟨Nat.zero_le _, Cl.refl _, fun x hx => by simp at hx⟩ ⟨rfl, trivial⟩ ?_
 rintro i j w3 ⟨hi, c3, hno⟩
 have ni := C2 (i := i) zo
 refine zR ?_
 apply E.b7<;>intro h
 ·have hi2 : i < (N0 p).length := by omega
  clear h
  obtain ⟨g, rfl⟩ := hav zo
  have hld := fun {o : Nat} (ho : o = i * 11) => a97 (hr.step c3) i hi2 ho
  have hxm := List.getElem_mem hi2
  have htk : (N0 p).take (i + 1) = (N0 p).take i ++ [(N0 p)[i]] := List.take_succ_eq_append_getElem hi2
  generalize (N0 p)[i] = x at *
  have hxl := (mm1 x hxm).1
  have hxr := L4 hI hxl
  refine zR ?_
  refine zC ?_
  refine zR ?_
  refine b5 _ (hld (a0y _ _)) (zR ?_)
  refine t7 _ a6b ?_
  have cB := Cl.alloc w3 (.cells (Value.agg (F0 (D3 ⟨⟨0, 0, 0⟩, 0⟩))).cells 141)
  have nB := d8 w3 (.cells (Value.agg (F0 (D3 ⟨⟨0, 0, 0⟩, 0⟩))).cells 141)
  generalize w3.alloc (.cells (Value.agg (F0 (D3 ⟨⟨0, 0, 0⟩, 0⟩))).cells 141) = w4 at *
  refine zR ?_
  refine J6 nB (C6 x) rfl a1x rfl (F1 x) (Nat.le_of_ble_eq_true rfl) fun w5 u5 => ?_
  have hX : w5.heap[w3.heap.size]? = some (.cells (F0 (D3 x)) 141 (0, 0)) := by have h7 := u5.at_; rw [C5 _ _ (by rw [I7]; rfl)] at h7; exact h7
  have c5 : Cl w3 w5 := (Tn.upd u5).toCl cB (Nat.le_refl _)
  have c25 := c3.trans c5
  have hxR : MvR x.mv := b6g ⟨⟨hxr.1, hxr.2.1⟩, ⟨hxr.2.2.1, hxr.2.2.2.1⟩, by have := hxr.2.2.2.2; omega⟩
  refine zR ?_
  refine zK 3 ?_
  refine zR ?_
  refine C7 _ (fun _ _ h => h.trans) (fun w' h' => a6e (h'.blk hX) (by show -128 ≤ x.mv.fr; omega) (by show x.mv.fr ≤ 127; omega) (by show -128 ≤ x.mv.to; omega) (by show x.mv.to ≤ 127; omega) (by show -128 ≤ x.mv.promo; have := hxr.2.2.2.2; omega) (by show x.mv.promo ≤ 127; have := hxr.2.2.2.2; omega)) (zR ?_)
  refine g9 _ (fun w' h' => P9 ((c25.trans h').blk nb2)) (zR ?_)
  refine b0u c0b (c1x hxR hm) rfl rfl (zR ?_)
  intro w6 c6
  have c26 := c25.trans c6
  refine zR ?_
  apply E.b7<;>intro h
  ·refine zR ?_
   exact ⟨cv', hM2.step c26, ntw.trans (Tn.cl c26), hcr _ c26, .inr ⟨_, x, hxm, h, rfl, by have := ntw.size; have := c3.size; omega, c6.blk hX⟩, fun k hk => ⟨(hown2 k hk).1, fun e => by have := (hown2 k hk).2; have := c3.size; simp at e <;> omega⟩⟩
  ·refine zR ?_
   refine ⟨i + 1, ⟨d6 ni, trivial⟩, ⟨zo, c26, fun y hy => ?_⟩, zo⟩
   rw [htk] at hy
   rcases List.mem_append.1 hy with hy | hy
   ·exact hno y hy
   ·rw [List.mem_singleton] at hy; rw [hy]; exact h
 ·have e : i = (N0 p).length := by omega
  subst e
  rw [List.take_length] at hno
  refine zR ?_
  exact ⟨cv', hM2.step c3, ntw.trans (Tn.cl c3), hcr _ c3, .inl ⟨fun hl => by obtain ⟨x, hx, e⟩ := mm2 m hl; exact hno x hx e, rfl⟩, fun k hk => ⟨(hown2 k hk).1, fun e => by simp at e⟩⟩
theorem c0K : ∃ z, (G.P.info? 22).bind (·.zero) = some z ∧ z.cells.size = 64 := a0H zk
def sqL (p : k8) : List Value := p.board.map (Value.int .i64)
theorem W4 (p : k8) : (sqL p).length = 64 := by simp [sqL, p.len]
theorem b6Q (p : k8) {i : Nat} (h : i < 64) : (sqL p)[i]'(by rw [W4]; exact h) = .int .i64 (sq p i) := by
 have h2 : i < p.board.length := by rw [p.len]; exact h
 simp [sqL, sq, List.getD_eq_getElem?_getD, h2]
theorem szI : (G.P.info? 3).map (·.size) = some 1 := by kernel_rfl
theorem a9E {p : k8} (hp : ∀ i : Int, 0 ≤ sq p i ∧ sq p i ≤ 12) {b t : Nat} {fz : Nat × Nat} (w : World) (hT : C1 w) (hB : w.heap[b]? = some (.cells (G1 (mbOf p)) t fz)) :
  Calls G.P 170 #[.pointer (some ⟨b, 0, none⟩)] w (K4 (.agg (sqL p).toArray) w) := by
 obtain ⟨z, hz, hzs⟩ := c0K
 refine zN Tryz.func170 ?_
 refine zR ?_
 refine t7 z hz ?_
 have cA := Cl.alloc w (.cells z.cells 22)
 have nA := d8 w (.cells z.cells 22)
 have sA := y9 w (.cells z.cells 22)
 generalize w.alloc (.cells z.cells 22) = w1 at *
 refine zR ?_
 refine t7 z hz ?_
 have cB := Cl.alloc w1 (.cells z.cells 22)
 have nB := d8 w1 (.cells z.cells 22)
 generalize w1.alloc (.cells z.cells 22) = w2 at *
 have nA2 := cB.blk nA
 refine zR ?_
 refine A9 (σ := Nat) [4, 5] 6 (fun i => [(5, .int .i64 i)]) (fun i w' => i ≤ 64 ∧ w'.heap[w1.heap.size]? = some (.cells (E4 z.cells 0 ((sqL p).take i)) 22 (0, 0)) ∧ w'.heap[w.heap.size]? = some (.cells z.cells 22 (0, 0)) ∧ Cl w w') (fun i => 64 - i) zk 0 ⟨zd, nB, nA2, cA.trans cB⟩ ⟨rfl, trivial⟩ ?_
 rintro i j w3 ⟨hi, hO, hA, c3⟩
 have ni := C2 (i := i) zo
 refine zR ?_
 apply E.b7<;>intro h
 ·have hi2 : i < 64 := by omega
  clear h
  have ei : IntKind.i8.wrap (i : Int) = i := V3 zo zo
  have hX := hp i
  have ex : IntKind.i64.wrap (sq p i) = sq p i := g7 zo zo
  have pc := W2 (mbOf p) b (t := t) (fz := fz) i hi2 w3 (hT.cl c3) (c3.blk hB)
  rw [T8 hp hi2] at pc
  refine zR ?_
  rw [ei]
  refine d9 pc (zR ?_)
  rw [ex]
  refine zC ?_
  refine zR ?_
  refine J6 hO [.int .i64 (sq p i)] rfl szI rfl (H5 _ _) (by rw [D6, hzs, z6]; omega) fun w4 u4 => zR ?_
  have hO4 := u4.at_
  have e : E4 (E4 z.cells 0 ((sqL p).take i)) (W6 0 (Int.toNat i) 1) [.int .i64 (sq p i)] = E4 z.cells 0 ((sqL p).take (i + 1)) := by
   rw [List.take_succ_eq_append_getElem (by rw [W4]; exact hi2), a4J, b6Q p hi2, List.length_take, W4, z6]
   congr 1
   simp; omega
  rw [e] at hO4
  exact ⟨i + 1, ⟨d6 ni, trivial⟩, ⟨zo, hO4, (Tn.upd u4).blk hA zo, (Tn.upd u4).toCl c3 zo⟩, zo⟩
 ·have e64 : i = 64 := by omega
  subst e64
  rw [List.take_of_length_le (by rw [W4]; exact Nat.le_refl _), C5 _ _ (by rw [W4, hzs])] at hO
  have hl := ldA (t := 22) (o := 0) (z := 64) hO rfl (by simp [W4])
  have ee : ((sqL p).toArray.extract 0 (0 + 64)) = (sqL p).toArray := by
   have := W4 p
   simp [List.take_of_length_le (Nat.le_of_eq this)]
  rw [ee] at hl
  refine zR ?_
  refine b5 _ hl (zR ?_)
  refine J6 hA (sqL p) rfl zk (W4 p) (fun v hv => by simp [sqL] at hv; obtain ⟨a, _, rfl⟩ := hv; rfl) (by rw [hzs]; decide) fun w4 u4 => ?_
  have h4 := u4.at_
  rw [C5 _ _ (by rw [W4, hzs])] at h4
  have hl4 := ldA (t := 22) (o := 0) (z := 64) h4 rfl (by simp [W4])
  rw [ee] at hl4
  refine zR ?_
  refine b5 _ hl4 (zR ?_)
  exact ⟨rfl, (Tn.upd u4).toCl c3 (Nat.le_refl _)⟩
theorem b22 (l : List Value) : ∀ (cs : Array Value) (o k : Nat), (l.zipIdx k).foldl (fun cs (x : Value × Nat) => cs.setIfInBounds (o + x.2) x.1) cs = E4 cs (o + k) l := by
 induction l with
 | nil => intros; rfl
 | cons v r ih =>
  intro cs o k
  rw [List.zipIdx_cons, List.foldl_cons, ih]; rfl
theorem a4S {place : Nat → Option (Nat × Nat)} {cells : Array Value} {i off size : Nat} {v : Value} {rest : List (Nat × Value)} (hp : place i = some (off, size)) (hs : v.cells.size = size) (ho : off + size ≤ cells.size) :
  Instr.fill place cells ((i, v) :: rest) = Instr.fill place (E4 cells off v.cells.toList) rest := by
 have e := b22 v.cells.toList cells off 0
 rw [Nat.add_zero] at e
 rw [Instr.fill, hp]
 simp only [hs, ne_eq, not_true_eq_false, decide_false, Bool.false_or]
 rw [if_neg (by simp; omega), ← e]
 congr 1
 rw [← Array.foldl_toList]
 simp
theorem b8H : (G.P.info? 24).bind (·.zero) = some (.agg (Array.replicate 69 (.int .i64 0))) := by kernel_rfl
theorem b23 : ∃ fs, G.P.underlying 24 = some (.struct fs) ∧ fs.toList.mapM (fun f => (G.P.info? f.type).map fun i => (f.offset, i.size)) = some [(0, 64), (64, 1), (65, 1), (66, 1), (67, 1), (68, 1)] := by
 have h : (match G.P.underlying 24 with | some (.struct fs) => fs.toList.mapM (fun f => (G.P.info? f.type).map fun i => (f.offset, i.size)) | _ => none) = some [(0, 64), (64, 1), (65, 1), (66, 1), (67, 1), (68, 1)] := by kernel_rfl
 split at h
 ·exact ⟨_, by assumption, h⟩
 ·cases h
theorem b4M (p : k8) (a b c : Int) : G.P.built 24 [(0, .agg (sqL p).toArray), (3, .int .i64 a), (4, .int .i64 b), (5, .int .i64 c)] = some (E4 (E4 (E4 (E4 (Array.replicate 69 (.int .i64 0)) 0 (sqL p)) 66 [.int .i64 a]) 67 [.int .i64 b]) 68 [.int .i64 c]) := by
 obtain ⟨fs, h1, h2⟩ := b23
 obtain ⟨it, h3, h4⟩ := Option.bind_eq_some_iff.1 b8H
 unfold Program.built
 rw [h3, h1]
 simp only [h4, h2]
 rw [a4S (off := 0) (size := 64) rfl (by show (sqL p).toArray.size = 64; simp [W4]) (by show 64 ≤ (Array.replicate 69 _).size; simp)]
 rw [a4S (off := 66) (size := 1) rfl rfl (by rw [D6]; show 67 ≤ (Array.replicate 69 _).size; simp)]
 rw [a4S (off := 67) (size := 1) rfl rfl (by rw [D6, D6]; show 68 ≤ (Array.replicate 69 _).size; simp)]
 rw [a4S (off := 68) (size := 1) rfl rfl (by rw [D6, D6, D6]; show 69 ≤ (Array.replicate 69 _).size; simp)]
 rfl
theorem b24 (p : k8) : E4 (E4 (E4 (E4 (Array.replicate 69 (.int .i64 0)) 0 (sqL p)) 66 [.int .i64 p.ep]) 67 [.int .i64 p.half]) 68 [.int .i64 p.full] = o9 { p with turn := 0, castle := 0 } := by
 have h := W4 p
 apply Array.ext_getElem?
 intro k
 have z : (Array.replicate 69 (Value.int .i64 0)).size = 69 := by simp
 rw [J0 _ _ _ _ (by rw [D6, D6, D6, z]; exact (by decide : 68 + 1 ≤ 69)), J0 _ _ _ _ (by rw [D6, D6, z]; exact (by decide : 67 + 1 ≤ 69)), J0 _ _ _ _ (by rw [D6, z]; exact (by decide : 66 + 1 ≤ 69)), J0 _ _ _ _ (by rw [z, h]; decide)]
 rw [h]
 simp only [List.length_cons, List.length_nil]
 by_cases k1 : k < 64
 ·rw [if_neg zo, if_neg zo, if_neg zo, if_pos zo, Z4 _ _ k1, Nat.sub_zero, List.getElem?_eq_getElem zo, b6Q p k1]; rfl
 ·by_cases k2 : k < 69
  ·rcases (by omega : k = 64 ∨ k = 65 ∨ k = 66 ∨ k = 67 ∨ k = 68) with rfl | rfl | rfl | rfl | rfl <;> rw [E2 _ _ zd] <;> simp
  ·rw [if_neg zo, if_neg zo, if_neg zo, if_neg zo, Array.getElem?_eq_none (by rw [z]; omega), Array.getElem?_eq_none (by rw [r7]; omega)]
theorem Y2.tnO {w w' : World} {g n b : Nat} {f : Nat → Value} (h : Y2 w g n f) (hc : Tn b w w') (hne : g ≠ b) : Y2 w' g n f := by
 obtain ⟨cs, t, fz, h1, h2, h3⟩ := h
 exact ⟨cs, t, fz, hc.blk h1 hne, h2, h3⟩
theorem b4N (p : k8) (x : Int) : E4 (o9 p) 64 [.int .i64 x] = o9 { p with turn := x } := by
 apply Array.ext_getElem?
 intro k
 rw [J0 _ _ _ _ (by rw [r7]; exact (by decide : 64 + 1 ≤ 69))]
 simp only [List.length_cons, List.length_nil]
 by_cases k1 : k < 64
 ·rw [if_neg zo, Z4 _ _ k1, Z4 _ _ k1]; rfl
 ·by_cases k2 : k = 64
  ·subst k2; rw [if_pos zd, E2 _ _ zd]; rfl
  ·rw [if_neg zo, E2 _ _ zo, E2 _ _ zo]
   obtain ⟨q, rfl⟩ : ∃ q, k = q + 65 := ⟨k - 65, zo⟩
   rw [show q + 65 - 64 = q + 1 by omega]; rfl
theorem b1e (p : k8) (x : Int) : E4 (o9 p) 65 [.int .i64 x] = o9 { p with castle := x } := by
 apply Array.ext_getElem?
 intro k
 rw [J0 _ _ _ _ (by rw [r7]; exact (by decide : 65 + 1 ≤ 69))]
 simp only [List.length_cons, List.length_nil]
 by_cases k1 : k < 64
 ·rw [if_neg zo, Z4 _ _ k1, Z4 _ _ k1]; rfl
 ·by_cases k2 : k = 64
  ·subst k2; rw [if_neg zd, E2 _ _ zd, E2 _ _ zd]; rfl
  ·by_cases k3 : k = 65
   ·subst k3; rw [if_pos zd, E2 _ _ zd]; rfl
   ·rw [if_neg zo, E2 _ _ zo, E2 _ _ zo]
    obtain ⟨q, rfl⟩ : ∃ q, k = q + 66 := ⟨k - 66, zo⟩
    rw [show q + 66 - 64 = q + 2 by omega]; rfl
theorem b8I : G2 209 171 1 1 := R0 zk
theorem c2Y (w : World) : Y2 (w.alloc (.cells (([.int .i8 1, .int .i8 1, .int .i8 2, .int .i8 2] : List Value).flatMap fun v => v.cells.toList).toArray 171)) w.heap.size 4 (fun i => .int .i8 ((i : Int) / 2 + 1)) :=
 ⟨_, 171, (0, 0), d8 _ _, rfl, fun i hi => by
  rcases (by omega : i = 0 ∨ i = 1 ∨ i = 2 ∨ i = 3) with rfl | rfl | rfl | rfl <;> rfl⟩
theorem c0L : ∀ c : Nat, c < 16 → ∀ i : Nat, i < 4 → c.testBit i = true → ((c % 2 ^ i ||| 2 ^ i : Nat)) = c % 2 ^ (i + 1) := by decide
theorem c0M : ∀ c : Nat, c < 16 → ∀ i : Nat, i < 4 → c.testBit i = false → c % 2 ^ i = c % 2 ^ (i + 1) := by decide
theorem c2j : ∀ a : Nat, a < 16 → ∀ b : Nat, b < 16 → a0f .or .i64 (a : Int) (b : Int) = ((a ||| b : Nat) : Int) := by decide
theorem c2k : ∀ i : Nat, i < 4 → IntKind.i64.wrap (1 * 2 ^ min ((i : Int)).toNat IntKind.i64.bits) = ((2 ^ i : Nat) : Int) := by decide
theorem b1f (cr : Int) (h0 : 0 ≤ cr) (h1 : cr ≤ 15) (i : Nat) (hi : i < 4) (a b : Int) (ha : a = (i : Int) / 2 + 1) (hb : b = (i : Int) % 2 + 1) (w : World) :
  Calls G.P 175 #[s8 (Ch.castT cr), .int .i8 a, .int .i64 b] w (K4 (.bool (Ch.P8 cr i)) w) := by
 have := a6c cr h0 h1 ((i : Int) / 2) zo ((i : Int) % 2 + 1) zo w
 rw [show (2 * ((i : Int) / 2) + ((i : Int) % 2 + 1 - 1)).toNat = i by omega] at this
 rw [ha, hb]; exact this
theorem b8J {p : k8} (hI : B7 p) {P b : Nat} {cv : Value} {c : Bool} (w : World) (hT : C1 w)
  (hP : w.heap[P]? = some (.cells (hdA b (A8 p c) cv) 173 (0, 0))) (hB : w.heap[b]? = some (.cells (G1 (mbOf p)) 237 (0, 0))) :
  Calls G.P 109 #[.pointer (some ⟨P, 0, none⟩)] w (K4 (C4 p) w) := by
 have hep := I4 hI.pass
 obtain ⟨zv, hz, hz69⟩ := b1P
 have ht := hI.turn
 refine zN Tryz.func109 ?_
 refine zR ?_
 refine t7 zv hz ?_
 have cA := Cl.alloc w (.cells zv.cells 24)
 have nA := d8 w (.cells zv.cells 24)
 have sA := y9 w (.cells zv.cells 24)
 generalize w.alloc (.cells zv.cells 24) = w1 at *
 refine zR ?_
 refine d9 (a99 (cA.blk hP)) (zR ?_)
 refine m9 (a9E hI.pc w1 (hT.cl cA) (cA.blk hB)) fun w2 c2 => ?_
 have c12 := cA.trans c2
 have hP2 := c12.blk hP
 refine zR ?_
 refine d9 (c2V hP2) ?_
 rw [show (A8 p c).ep = p.ep from rfl]
 refine zR ?_
 rw [g7 (show -9223372036854775808 ≤ p.ep by omega) zo]
 refine d9 (c0G hP2) ?_
 rw [show (A8 p c).half = p.half from rfl]
 refine zR ?_
 refine d9 (c0H hP2) ?_
 rw [show (A8 p c).full = p.full from rfl]
 refine zR ?_
 refine s9 (o9 { p with turn := 0, castle := 0 }) ?_ ?_
 ·rw [← b24]; exact b4M p p.ep p.half p.full
 refine zR ?_
 refine t7 zv hz ?_
 have cB := Cl.alloc w2 (.cells zv.cells 24)
 have nB := d8 w2 (.cells zv.cells 24)
 generalize w2.alloc (.cells zv.cells 24) = w3 at *
 have s12 := c2.size
 have nA3 := cB.blk (c2.blk nA)
 refine zR ?_
 refine J6 nB (X0 { p with turn := 0, castle := 0 }) rfl a13 (B6 _) (one_pos _) (by rw [hz69]; exact (by decide : 0 + 69 ≤ 69)) (fun w4 u4 => ?_)
 have hQ : w4.heap[w2.heap.size]? = some (.cells (o9 { p with turn := 0, castle := 0 }) 24 (0, 0)) := by
  rw [u4.at_, C5 _ _ (by rw [B6, hz69])]; rfl
 have sw2 := c12.size
 have c4 : Cl w w4 := (Tn.upd u4).toCl (c12.trans cB) zo
 have nA4 := (Tn.upd u4).blk nA3 zo
 clear u4 nB
 refine zG ?_
 refine A4 (σ := Unit) [] 6 (fun _ => []) (fun _ w' => w'.heap[w2.heap.size]? = some (.cells (o9 { p with castle := 0 }) 24 (0, 0)) ∧ Cl w w' ∧ w'.heap[w.heap.size]? = some (.cells zv.cells 24 (0, 0))) zk ?_ (fun _ j w5 h5 => ?_)
 ·refine zR ?_
  refine d9 (a4d w4 (c4.blk hP)) ?_
  rw [show (A8 p c).turn = p.turn + 1 from rfl]
  refine zR ?_
  apply E.b7<;>intro h
  ·have e1 : p.turn = 1 := by omega
   refine zR ?_
   refine J6 hQ [.int .i64 1] rfl szI rfl (H5 _ _) (by rw [r7]; exact (by decide : 64 + 1 ≤ 69)) fun w5 u5 => zR ?_
   refine ⟨(), trivial, ?_, (Tn.upd u5).toCl c4 zo, (Tn.upd u5).blk nA4 zo⟩
   rw [u5.at_, show (bif Nat.beq 64 0 then 0 else 0 + 64) = 64 from rfl, b4N]; simp only [e1]
  ·have e0 : p.turn = 0 := by omega
   refine zR ?_
   refine ⟨(), trivial, ?_, c4, nA4⟩
   rw [hQ]; simp only [e0]
 obtain ⟨hQ5, c5, nA5⟩ := h5
 refine zR ?_
 refine zL b8I [.int .i8 1, .int .i8 1, .int .i8 2, .int .i8 2] ?_
 have hbx := c2Y w5
 have cC := Cl.alloc w5 (.cells (([.int .i8 1, .int .i8 1, .int .i8 2, .int .i8 2] : List Value).flatMap fun v => v.cells.toList).toArray 171)
 have g5 : w2.heap.size < w5.heap.size := (Array.getElem?_eq_some_iff.1 hQ5).1
 generalize w5.alloc (.cells (([.int .i8 1, .int .i8 1, .int .i8 2, .int .i8 2] : List Value).flatMap fun v => v.cells.toList).toArray 171) = w6 at *
 refine zR ?_
 have hc16 : p.castle.toNat < 16 := by have := hI.c0; have := hI.c1; omega
 refine A9 (σ := Nat) [4, 5, 23] 24 (fun i => [(23, .int .i64 i)]) (fun i w' => i ≤ 4 ∧ w'.heap[w2.heap.size]? = some (.cells (o9 { p with castle := ((p.castle.toNat % 2 ^ i : Nat) : Int) }) 24 (0, 0)) ∧ w'.heap[w.heap.size]? = some (.cells zv.cells 24 (0, 0)) ∧ Cl w w' ∧ Y2 w' w5.heap.size 4 (fun i => .int .i8 ((i : Int) / 2 + 1))) (fun i => 4 - i) zk 0
  ⟨zd, by have := cC.blk hQ5; simpa [Nat.mod_one] using this, cC.blk nA5, c5.trans cC, hbx⟩ ⟨rfl, trivial⟩ ?_
 rintro i j w7 ⟨hi, hQ7, hA7, c7, hbx7⟩
 have ni := C2 (i := i) zo
 refine zR ?_
 apply E.b7<;>intro h
 ·have hi2 : i < 4 := by omega
  clear h
  have hcc := b1f p.castle hI.c0 hI.c1 i hi2 ((i : Int) / 2 + 1) (IntKind.i64.wrap ((i : Int).tmod 2 + 1)) rfl (by rw [a19 zo, g7 zo zo])
  have hor := c0L p.castle.toNat hc16 i hi2
  have hno := c0M p.castle.toNat hc16 i hi2
  have hbit : P8 p.castle i = p.castle.toNat.testBit i := rfl
  refine zR ?_
  refine zC ?_
  refine zR ?_
  refine b5 _ (I0 (t := 171) hbx7 (i := i) hi2 rfl rfl) (zR ?_)
  refine d9 (b4L (c7.blk hP)) ?_
  rw [show (A8 p c).cas = castT p.castle from rfl]
  refine zR ?_
  refine m9 (hcc _) fun w8 c8 => ?_
  have hQ8 := c8.blk hQ7
  have hA8 := c8.blk hA7
  have c78 := c7.trans c8
  have hbx8 := hbx7.cl c8
  rw [hbit]
  cases hb : p.castle.toNat.testBit i
  ·rw [hno hb] at hQ8
   refine zR ?_
   exact ⟨i + 1, ⟨d6 ni, trivial⟩, ⟨zo, hQ8, hA8, c78, hbx8⟩, zo⟩
  ·have hor := hor hb
   refine zR ?_
   refine zK 6 ?_
   refine zR ?_
   refine g9 _ (fun w hw => a1f (hw.blk hQ8)) (zR ?_)
   intro r hr
   rw [c2k i hi2] at hr
   subst hr
   refine zR ?_
   intro r hr
   rw [c2j _ (Nat.lt_of_le_of_lt (Nat.mod_le _ _) hc16) _ (show 2 ^ i < 16 from Nat.pow_lt_pow_right (n := 4) zd hi2), hor] at hr
   subst hr
   refine zR ?_
   intro w9 c9
   refine zR ?_
   refine J6 (c9.blk hQ8) [.int .i64 ((p.castle.toNat % 2 ^ (i + 1) : Nat) : Int)] rfl szI rfl (H5 _ _) (by rw [r7]; exact (by decide : 65 + 1 ≤ 69)) fun w10 u10 => ?_
   have hQ10 := u10.at_
   rw [show (bif Nat.beq 65 0 then 0 else 0 + 65) = 65 from rfl, b1e] at hQ10
   refine zR ?_
   have c89 := c78.trans c9
   exact ⟨i + 1, ⟨d6 ni, trivial⟩, ⟨zo, hQ10, (Tn.upd u10).blk (c9.blk hA8) zo, (Tn.upd u10).toCl c89 zo, (hbx8.cl c9).tnO (Tn.upd u10) zo⟩, zo⟩
 ·have e4 : i = 4 := by omega
  subst e4
  rw [Nat.mod_eq_of_lt (show p.castle.toNat < 2 ^ 4 by omega), Int.toNat_of_nonneg hI.c0] at hQ7
  refine zR ?_
  refine b5 _ (y7 hQ7) (zR ?_)
  refine J6 hA7 (X0 p) rfl a13 (B6 _) (one_pos _) (by rw [hz69]; exact (by decide : 0 + 69 ≤ 69)) (fun w8 u8 => ?_)
  have h8 : w8.heap[w.heap.size]? = some (.cells (o9 p) 24 (0, 0)) := by rw [u8.at_, C5 _ _ (by rw [B6, hz69])]; rfl
  refine zR ?_
  refine b5 _ (y7 h8) (zR ?_)
  exact ⟨rfl, (Tn.upd u8).toCl c7 (Nat.le_refl _)⟩
theorem b4O : ∀ a : Nat, a < 16 → ∀ b : Nat, b < 16 → (castT (a : Int) = castT (b : Int) ↔ a = b) := by decide
theorem b25 {a b : Int} (a0 : 0 ≤ a) (a1 : a ≤ 15) (b0 : 0 ≤ b) (b1 : b ≤ 15) : castT a = castT b ↔ a = b := by
 obtain ⟨x, rfl⟩ := Int.eq_ofNat_of_zero_le a0
 obtain ⟨y, rfl⟩ := Int.eq_ofNat_of_zero_le b0
 rw [b4O x zo y zo]; omega
theorem a7C {p q : k8} (hI : B7 p) (hJ : B7 q) {P b P' b' : Nat} {cv cv' : Value} {c c' : Bool} (w : World) (hT : C1 w)
  (hP : w.heap[P]? = some (.cells (hdA b (A8 p c) cv) 173 (0, 0))) (hB : w.heap[b]? = some (.cells (G1 (mbOf p)) 237 (0, 0)))
  (hP' : w.heap[P']? = some (.cells (hdA b' (A8 q c') cv') 173 (0, 0))) (hB' : w.heap[b']? = some (.cells (G1 (mbOf q)) 237 (0, 0))) :
  Calls G.P 249 #[.pointer (some ⟨P, 0, none⟩), .pointer (some ⟨P', 0, none⟩)] w (K4 (.bool (Y8 p q)) w) := by
 have hbi := b2y hI.pc hJ.pc
 have hci := b25 hI.c0 hI.c1 hJ.c0 hJ.c1
 have hal : Y8 p q = (decide (p.board = q.board) && decide (p.turn = q.turn) && decide (p.castle = q.castle) && decide (p.ep = q.ep)) := rfl
 rw [hal]
 clear hal
 have hs1 := fun w hT hB => a0z (p := p) (b := b) (t := 237) (fz := (0, 0)) hI.pc w hT hB
 have hs2 := fun w hT hB => a0z (p := q) (b := b') (t := 237) (fz := (0, 0)) hJ.pc w hT hB
 generalize boardT p 8 = X at *
 generalize boardT q 8 = Y at *
 refine zN Tryz.func249 ?_
 refine zR ?_
 refine zK 47 ?_
 refine zR ?_
 refine qHb hP (zR ?_)
 refine C7 _ (fun _ _ h => h.trans) (fun w' h' => hs1 w' (hT.cl h') (h'.blk hB)) (zR ?_)
 refine qHb hP' (zR ?_)
 refine C7 _ (fun _ _ h => h.trans) (fun w' h' => hs2 w' (hT.cl h') (h'.blk hB')) (zR ?_)
 by_cases h1 : X = Y
 ·have k1 : tx X = tx Y := by rw [h1]
  rw [decide_eq_true (hbi.1 h1), Bool.true_and]
  refine E.v6 k1 (zR ?_)
  repeat (refine E.v6 k1 ?_; refine zR ?_)
  refine qHt hP ?_
  rw [show (A8 p c).turn = p.turn + 1 from rfl]
  refine zR ?_
  repeat (refine E.v6 k1 ?_; refine zR ?_)
  refine qHt hP' ?_
  rw [show (A8 q c').turn = q.turn + 1 from rfl]
  refine zR ?_
  repeat (refine E.v6 k1 ?_; refine zR ?_)
  by_cases h2 : p.turn = q.turn
  ·have k2 : p.turn + 1 = q.turn + 1 := by omega
   rw [decide_eq_true h2, Bool.true_and]
   repeat (refine E.v6 k2 ?_; refine zR ?_)
   refine g9 _ (fun w hw => a2X (hw.blk hP)) ?_
   rw [show (A8 p c).cas = castT p.castle from rfl]
   refine zR ?_
   repeat (refine E.v6 k2 ?_; refine zR ?_)
   refine l7 _ (fun w hw => a0e _ w) (zR ?_)
   repeat (refine E.v6 k2 ?_; refine zR ?_)
   refine g9 _ (fun w hw => a2X (hw.blk hP')) ?_
   rw [show (A8 q c').cas = castT q.castle from rfl]
   refine zR ?_
   repeat (refine E.v6 k2 ?_; refine zR ?_)
   refine l7 _ (fun w hw => a0e _ w) (zR ?_)
   repeat (refine E.v6 k2 ?_; refine zR ?_)
   by_cases h3 : castT p.castle = castT q.castle
   ·have k3 : tx (castT p.castle) = tx (castT q.castle) := by rw [h3]
    rw [decide_eq_true (hci.1 h3), Bool.true_and]
    repeat (refine E.v6 k3 ?_; refine zR ?_)
    refine b8h hP ?_
    rw [show (A8 p c).ep = p.ep from rfl]
    refine zR ?_
    repeat (refine E.v6 k3 ?_; refine zR ?_)
    refine b8h hP' ?_
    rw [show (A8 q c').ep = q.ep from rfl]
    refine zR ?_
    repeat (refine E.v6 k3 ?_; refine zR ?_)
    intro w9 c9
    refine zR ?_
    exact ⟨rfl, c9⟩
   ·have k3 : ¬ tx (castT p.castle) = tx (castT q.castle) := fun e => h3 (a0p.1 e)
    repeat (refine E.o7 k3 ?_; refine zR ?_)
    intro w9 c9
    refine zR ?_
    exact ⟨m8 (by rw [decide_eq_false (fun e => h3 (hci.2 e))]; rfl), c9⟩
  ·have k2 : ¬ p.turn + 1 = q.turn + 1 := by omega
   repeat (refine E.o7 k2 ?_; refine zR ?_)
   intro w9 c9
   refine zR ?_
   exact ⟨m8 (by rw [decide_eq_false h2]; rfl), c9⟩
 ·have k1 : ¬ tx X = tx Y := fun e => h1 (a0p.1 e)
  repeat (refine E.o7 k1 ?_; refine zR ?_)
  intro w9 c9
  refine zR ?_
  exact ⟨m8 (by rw [decide_eq_false (fun e => h1 (hbi.2 e))]; rfl), c9⟩
structure Gm where
 P : Nat
 out : Tx
 tags : Value
 root : Nat
 cur : Nat
 com : Value
 meth : Nat
def gmL (g : Gm) : List Value := [.pointer (some ⟨g.P, 0, none⟩), s8 g.out, g.tags, .pointer (some ⟨g.root, 0, none⟩), .pointer (some ⟨g.cur, 0, none⟩), g.com, .int .u8 g.meth, .bool false]
def gmA (g : Gm) : Array Value := (gmL g).toArray
section gm
variable {G0 t : Nat} {g : Gm} {w : World} {fz : Nat × Nat} (hb : w.heap[G0]? = some (.cells (gmA g) t fz))
include hb
theorem a4T : l8 G.P w 83 ⟨G0, 0, none⟩ (.pointer (some ⟨g.P, 0, none⟩)) := W1 hb rfl rfl
theorem a7D : l8 G.P w 125 ⟨G0, 1, none⟩ (s8 g.out) := W1 hb rfl rfl
theorem b3K : l8 G.P w 85 ⟨G0, 3, none⟩ (.pointer (some ⟨g.root, 0, none⟩)) := W1 hb rfl rfl
theorem a7E : l8 G.P w 85 ⟨G0, 4, none⟩ (.pointer (some ⟨g.cur, 0, none⟩)) := W1 hb rfl rfl
theorem a9F : l8 G.P w 129 ⟨G0, 6, none⟩ (.int .u8 g.meth) := W1 hb rfl rfl
theorem a4k : l8 G.P w 4 ⟨G0, 7, none⟩ (.bool false) := W1 hb rfl rfl
theorem b6R : Calls G.P 43 #[.pointer (some ⟨G0, 0, none⟩)] w (D5 (.pointer (some ⟨g.P, 0, none⟩)) w) := by
 refine zN Tryz.func43 ?_
 refine zR ?_
 refine b5 _ (a4T hb) (zR ?_)
 exact ⟨rfl, rfl⟩
theorem c0N : Calls G.P 110 #[.pointer (some ⟨G0, 0, none⟩)] w (D5 (s8 g.out) w) := by
 refine zN Tryz.func110 ?_
 refine zR ?_
 refine b5 _ (a7D hb) (zR ?_)
 exact ⟨rfl, rfl⟩
theorem b8K : Calls G.P 111 #[.pointer (some ⟨G0, 0, none⟩)] w (D5 (.int .u8 g.meth) w) := by
 refine zN Tryz.func111 ?_
 refine zR ?_
 refine b5 _ (a9F hb) (zR ?_)
 exact ⟨rfl, rfl⟩
theorem c0O {p : k8} (hI : B7 p) (hN : a1z p) {b : Nat} {cv : Value} {c : Bool} (hT : C1 w) (hw : Pow w)
  (hP : w.heap[g.P]? = some (.cells (hdA b (A8 p c) cv) 173 (0, 0))) (hB : w.heap[b]? = some (.cells (G1 (mbOf p)) 237 (0, 0))) : Calls G.P 107 #[.pointer (some ⟨G0, 0, none⟩)] w (K4 (s8 (fenT p)) w) := by
 refine zN Tryz.func107 ?_
 refine zR ?_
 refine b5 _ (a4T hb) (zR ?_)
 refine m9 (b1d hI hN w hT hw hP hB) fun w1 c1 => zR ?_
 exact ⟨rfl, c1⟩
end gm
structure Fr (S : List Nat) (w w' : World) : Prop where
 os : w'.os = w.os
 tape : w'.tape = w.tape
 output : w'.output = w.output
 size : w.heap.size ≤ w'.heap.size
 else_ : ∀ k, k < w.heap.size → k ∉ S → w'.heap[k]? = w.heap[k]?
section fr
variable {S S' : List Nat} {w w1 w2 : World}
theorem Fr.blk (h : Fr S w w1) {k : Nat} {o : Obj} (hk : w.heap[k]? = some o) (hn : k ∉ S) : w1.heap[k]? = some o := by
 rw [h.else_ k (Array.getElem?_eq_some_iff.1 hk).1 hn]; exact hk
theorem Fr.refl : Fr S w w := ⟨rfl, rfl, rfl, Nat.le_refl _, fun _ _ _ => rfl⟩
theorem Fr.trans (h : Fr S w w1) (h' : Fr S w1 w2) : Fr S w w2 :=
 ⟨h'.os.trans h.os, h'.tape.trans h.tape, h'.output.trans h.output, Nat.le_trans h.size h'.size, fun k hk hn => (h'.else_ k (Nat.lt_of_lt_of_le hk h.size) hn).trans (h.else_ k hk hn)⟩
theorem Fr.cl (h : Cl w w1) : Fr S w w1 := ⟨h.os, h.tape, h.output, h.size, fun k hk _ => h.block k hk⟩
theorem Fr.tn {b : Nat} (h : Tn b w w1) (hb : b ∈ S ∨ w.heap.size ≤ b) : Fr S w w1 :=
 ⟨h.os, h.tape, h.output, h.size, fun k hk hn => h.else_ k hk (fun e => by subst e; rcases hb with hb | hb; exact hn hb; omega)⟩
theorem Fr.upd {b : Nat} {o : Obj} (h : Upd w b o w1) (hb : b ∈ S) : Fr S w w1 := Fr.tn (Tn.upd h) (.inl hb)
theorem Fr.mono (h : Fr S w w1) (hs : ∀ k ∈ S, k ∈ S') : Fr S' w w1 := ⟨h.os, h.tape, h.output, h.size, fun k hk hn => h.else_ k hk (fun e => hn (hs k e))⟩
theorem Y2.fr {g n : Nat} {f : Nat → Value} (h : Y2 w g n f) (c : Fr S w w1) (hS : ∀ k ∈ S, ∀ cs t fz, w.heap[k]? = some (.cells cs t fz) → a1J t = false) : Y2 w1 g n f := by
 obtain ⟨cs, t, fz, h1, h2, h3⟩ := h
 exact ⟨cs, t, fz, c.blk h1 (fun e => by have := hS _ e _ _ _ h1; rw [h2] at this; cases this), h2, h3⟩
theorem a6q.fr {g o n : Nat} {f : Nat → Value} (h : a6q w g o n f) (c : Fr S w w1) (hS : ∀ k ∈ S, ∀ cs t fz, w.heap[k]? = some (.cells cs t fz) → a1J t = false) : a6q w1 g o n f := by
 obtain ⟨cs, t, fz, h1, h2, h3⟩ := h
 exact ⟨cs, t, fz, c.blk h1 (fun e => by have := hS _ e _ _ _ h1; rw [h2] at this; cases this), h2, h3⟩
theorem a6r.fr {g n : Nat} {f : Nat → Value} (h : a6r w g n f) (c : Fr S w w1) (hS : ∀ k ∈ S, ∀ cs t fz, w.heap[k]? = some (.cells cs t fz) → a1J t = false) : a6r w1 g n f := by
 obtain ⟨k, o, c', h1, h2⟩ := h
 exact ⟨k, o, c', h1.fr c hS, h2.fr c hS⟩
theorem C1.fr (h : C1 w) (c : Fr S w w1) (hS : ∀ k ∈ S, ∀ cs t fz, w.heap[k]? = some (.cells cs t fz) → a1J t = false) : C1 w1 :=
 ⟨h.dia.fr c hS, h.anti.fr c hS, h.ranks.fr c hS, h.files.fr c hS, h.kn.fr c hS, h.kg.fr c hS, h.all.fr c hS, h.promo.fr c hS, h.wfen.fr c hS, h.bfen.fr c hS, h.fen.fr c hS⟩
end fr
def O8 (M : Nat) : List Value := [.pointer (some ⟨M, 0, none⟩)]
theorem T9 (M : Nat) : (O8 M).length = 1 := rfl
theorem a4l (M : Nat) : ∀ v ∈ O8 M, v.oneCell' = true := by intro v hv; simp [O8] at hv; subst hv; rfl
theorem b8L : G2 134 85 1 8 := R0 zk
theorem b6S {G0 t t' : Nat} {g : Gm} {w : World} {fz fz' : Nat × Nat} {dc : Nd} (x : Value) (hx : ∃ a, x = .pointer (some a)) (hb : w.heap[G0]? = some (.cells (gmA g) t fz)) (hc : w.heap[g.cur]? = some (.cells (F0 dc) t' fz')) (hk : dc.kids = .slice none 0 0) :
  Calls G.P 143 #[.pointer (some ⟨G0, 0, none⟩), x] w (D5 (.pointer none) w) := by
 obtain ⟨a, rfl⟩ := hx
 have hl : l8 G.P w 134 ⟨g.cur, 5, none⟩ (.slice none 0 0) := by
  have : l8 G.P w 134 ⟨g.cur, 5, none⟩ dc.kids := W1 hc rfl rfl
  rwa [hk] at this
 refine zN Tryz.func143 ?_
 refine zR ?_
 refine b5 _ (a7E hb) (zR ?_)
 refine W3 false (N1 rfl _) (zR ?_)
 refine b5 _ (a7E hb) (zR ?_)
 refine b5 _ hl (zR ?_)
 refine a7n 1 (zR ?_)
 exact ⟨rfl, rfl⟩
theorem b6T {G0 t M : Nat} {g : Gm} (hne : G0 ≠ g.cur) {w : World} {fz : Nat × Nat} {dc : Nd} (hb : w.heap[G0]? = some (.cells (gmA g) t fz)) (hc : w.heap[g.cur]? = some (.cells (F0 dc) 141 (0, 0))) (hk : dc.kids = .slice none 0 0) :
  Calls G.P 202 #[.pointer (some ⟨G0, 0, none⟩), .pointer (some ⟨M, 0, none⟩), .bool false] w (fun r w' => r = .returned (.tuple #[]) ∧ ∃ v, Row 85 1 O8 w.heap.size w' v [M] ∧ w'.heap[g.cur]? = some (.cells (F0 { dc with kids := v }) 141 (0, 0)) ∧ Tn g.cur w w') := by
 refine zN Tryz.func202 ?_
 refine zR ?_
 have cS : Cl w w.drew := Cl.drew (Cl.refl _)
 have hl : ∀ w', Cl w w' → l8 G.P w' 134 ⟨g.cur, 5, none⟩ (.slice none 0 0) := fun w' hw => by
  have : l8 G.P w' 134 ⟨g.cur, 5, none⟩ dc.kids := W1 (hw.blk hc) rfl rfl
  rwa [hk] at this
 refine I8.mk3 (Tn g.cur w) [0, 1, 2, 3, 4, 5, 6, 7, 8, 9, 11] (.cons 10 (.cons 12 (.cons 13 (.cons 14 (.cons 15 (.cons 16 .done .nil) .nil) .nil) .nil) .nil) (.cons 12 (.cons 10 (.cons 13 (.cons 14 (.cons 15 (.cons 16 .done .nil) .nil) .nil) .nil) .nil) .nil)) (Tn.cl cS) zk (zR ?_)
 refine g9 _ (fun w' hw => a7E (hw.blk hb hne)) (zR ?_)
 refine g9 _ (fun w' hw => a7E (hw.blk hb hne)) (zR ?_)
 refine ⟨?_, ?_, trivial⟩
 ·refine zR ?_
  refine b5 _ (hl _ cS) (zR ?_)
  refine And.intro (Tn.cl cS) (zE ?_)
  refine zL b8L [.pointer (some ⟨M, 0, none⟩)] ?_
  have cB := cS.trans (Cl.alloc w.drew (.cells (([.pointer (some ⟨M, 0, none⟩)] : List Value).flatMap fun v => v.cells.toList).toArray 85))
  have hbx : Row 85 1 O8 w.drew.heap.size (w.drew.alloc (.cells (([.pointer (some ⟨M, 0, none⟩)] : List Value).flatMap fun v => v.cells.toList).toArray 85)) (.slice (some ⟨w.drew.heap.size, 0, none⟩) 1 1) [M] := F4 T9 w.drew [M] (by exact Nat.le_of_ble_eq_true rfl) [.pointer (some ⟨M, 0, none⟩)] rfl
  generalize w.drew.alloc (.cells (([.pointer (some ⟨M, 0, none⟩)] : List Value).flatMap fun v => v.cells.toList).toArray 85) = w1 at *
  refine zR ?_
  refine And.intro (Tn.cl cB) (zE ?_)
  refine J2 b8L (l := []) (news := [M]) rfl (Row.nil w1 w.heap.size) rfl hbx T9 a4l (by exact Nat.le_of_ble_eq_true rfl) zd cB.size fun v' w2 hr hg => ?_
  rw [List.nil_append] at hr
  have c2 : Cl w w2 := hg.toCl rfl cB
  obtain ⟨a9, c9, rfl, _⟩ := hr.form
  refine zR ?_
  refine And.intro (Tn.cl c2) (zE ?_)
  refine And.intro (Tn.cl c2) (zE ?_)
  refine And.intro (Tn.cl c2) (zE ?_)
  refine zT (c2.blk hc) [.slice a9 1 c9] fun w3 u3 => ?_
  have n3 : Tn g.cur w w3 := (Tn.cl c2).trans (Tn.upd u3)
  refine zR ?_
  refine And.intro n3 (zR ?_)
  exact ⟨rfl, _, hr.updT u3 (c2.blk hc) zd, u3.at_, n3⟩
 ·refine zR ?_
  refine zL b8L [.pointer (some ⟨M, 0, none⟩)] ?_
  have cB := cS.trans (Cl.alloc w.drew (.cells (([.pointer (some ⟨M, 0, none⟩)] : List Value).flatMap fun v => v.cells.toList).toArray 85))
  have hbx : Row 85 1 O8 w.drew.heap.size (w.drew.alloc (.cells (([.pointer (some ⟨M, 0, none⟩)] : List Value).flatMap fun v => v.cells.toList).toArray 85)) (.slice (some ⟨w.drew.heap.size, 0, none⟩) 1 1) [M] := F4 T9 w.drew [M] (by exact Nat.le_of_ble_eq_true rfl) [.pointer (some ⟨M, 0, none⟩)] rfl
  generalize w.drew.alloc (.cells (([.pointer (some ⟨M, 0, none⟩)] : List Value).flatMap fun v => v.cells.toList).toArray 85) = w1 at *
  refine zR ?_
  refine And.intro (Tn.cl cB) (zE ?_)
  refine b5 _ (hl _ cB) (zR ?_)
  refine And.intro (Tn.cl cB) (zE ?_)
  refine J2 b8L (l := []) (news := [M]) rfl (Row.nil w1 w.heap.size) rfl hbx T9 a4l (by exact Nat.le_of_ble_eq_true rfl) zd cB.size fun v' w2 hr hg => ?_
  rw [List.nil_append] at hr
  have c2 : Cl w w2 := hg.toCl rfl cB
  obtain ⟨a9, c9, rfl, _⟩ := hr.form
  refine zR ?_
  refine And.intro (Tn.cl c2) (zE ?_)
  refine And.intro (Tn.cl c2) (zE ?_)
  refine And.intro (Tn.cl c2) (zE ?_)
  refine zT (c2.blk hc) [.slice a9 1 c9] fun w3 u3 => ?_
  have n3 : Tn g.cur w w3 := (Tn.cl c2).trans (Tn.upd u3)
  refine zR ?_
  refine And.intro n3 (zR ?_)
  exact ⟨rfl, _, hr.updT u3 (c2.blk hc) zd, u3.at_, n3⟩
theorem b8M {G0 t M : Nat} {g : Gm} (hne : G0 ≠ g.cur) (hGM : G0 ≠ M) (hcM : g.cur ≠ M) {w : World} {fz : Nat × Nat} {dc d : Nd} (hb : w.heap[G0]? = some (.cells (gmA g) t fz)) (hc : w.heap[g.cur]? = some (.cells (F0 dc) 141 (0, 0))) (hk : dc.kids = .slice none 0 0)
  (hM : w.heap[M]? = some (.cells (F0 d) 141 (0, 0))) :
  Calls G.P 144 #[.pointer (some ⟨G0, 0, none⟩), .pointer (some ⟨M, 0, none⟩), .pointer none, .bool false] w (fun r w' => r = .returned (.tuple #[]) ∧ ∃ v, Row 85 1 O8 w.heap.size w' v [M]
   ∧ w'.heap[g.cur]? = some (.cells (F0 { dc with kids := v }) 141 (0, 0)) ∧ w'.heap[M]? = some (.cells (F0 { d with par := .pointer (some ⟨g.cur, 0, none⟩) }) 141 (0, 0)) ∧ Fr [M, g.cur] w w') := by
 refine zN Tryz.func144 ?_
 refine zR ?_
 refine b5 _ (a7E hb) (zR ?_)
 refine zT hM [.pointer (some ⟨g.cur, 0, none⟩)] fun w1 u1 => ?_
 refine zR ?_
 refine I1 true (N1 rfl _) (zR ?_)
 refine o8 (b6T hne ((Tn.upd u1).blk hb hGM) ((Tn.upd u1).blk hc hcM) hk) ?_
 rintro e w2 ⟨rfl, v, hr, h2, n2⟩
 refine ⟨_, rfl, ?_⟩
 refine zR ?_
 have hr' := hr.mono (by rw [u1.size]; exact Nat.le_refl _ : w.heap.size ≤ w1.heap.size)
 exact ⟨rfl, v, hr', h2, n2.blk u1.at_ (Ne.symm hcM), (Fr.upd u1 (by simp)).trans (Fr.tn n2 (.inl (by simp)))⟩
theorem b6U {p : k8} (hI : B7 p) (hN : a1z p) {G0 b M : Nat} {g : Gm} {cv : Value} {d : Nd} (hm : d.mv ∈ y8 p) (htg : (d.tags : Int) = told p d.mv) (w : World) (hT : C1 w) (hP : H0 w g.P b p cv)
  (hM : w.heap[M]? = some (.cells (F0 d) 141 (0, 0))) (hGM : G0 ≠ M) (hb : w.heap[G0]? = some (.cells (gmA g) 131 (0, 0))) :
  Calls G.P 145 #[.pointer (some ⟨G0, 0, none⟩), .pointer (some ⟨M, 0, none⟩)] w (fun r w' => r = .returned (.tuple #[]) ∧ ∃ P' b', w.heap.size ≤ P' ∧ w.heap.size ≤ b' ∧ H0 w' P' b' (made p d.mv) (.slice none 0 0)
   ∧ w'.heap[G0]? = some (.cells (gmA { g with P := P' }) 131 (0, 0)) ∧ w'.heap[M]? = some (.cells (F0 { d with pos := .pointer (some ⟨P', 0, none⟩) }) 141 (0, 0)) ∧ Fr [G0, M] w w') := by
 have hGs : G0 < w.heap.size := (Array.getElem?_eq_some_iff.1 hb).1
 have hMs : M < w.heap.size := (Array.getElem?_eq_some_iff.1 hM).1
 refine zN Tryz.func145 ?_
 refine zR ?_
 refine b5 _ (a4T hb) (zR ?_)
 refine o8 (b0W hI hN hm htg w hT hP hM) ?_
 rintro e w1 ⟨P', b', rfl, s1, s2, hH', hB', c1⟩
 refine ⟨_, rfl, ?_⟩
 refine zR ?_
 refine I1 false (N1 rfl _) (zR ?_)
 refine zT (c1.blk hb) [.pointer (some ⟨P', 0, none⟩)] fun w2 u2 => ?_
 refine zR ?_
 refine J6 ((Tn.upd u2).blk (c1.blk hM) (Ne.symm hGM)) [.pointer (some ⟨P', 0, none⟩)] rfl zk rfl (by intro v hv; simp at hv; subst hv; rfl) (Nat.le_of_ble_eq_true rfl) fun w3 u3 => zR ?_
 have k2 : ∀ {k : Nat} {o : Obj}, w1.heap[k]? = some o → k ≠ G0 → k ≠ M → w3.heap[k]? = some o := fun h n1 n2 => (Tn.upd u3).blk ((Tn.upd u2).blk h n1) n2
 exact ⟨rfl, P', b', s1, s2, ⟨k2 hH' zo zo, k2 hB' zo zo, .inl rfl⟩, (Tn.upd u3).blk u2.at_ hGM, u3.at_, ((Fr.cl c1).trans (Fr.upd u2 (by simp))).trans (Fr.upd u3 (by simp))⟩
structure O4 where
 M : Nat
 d : Nd
 P : Nat
 b : Nat
 p : k8
 cv : Value
def a4m (w : World) (k : Value) : List O4 → Prop
 | [] => k = .slice none 0 0
 | m :: _ => Row 85 1 O8 0 w k [m.M]
def Chn (w : World) : List O4 → Prop
 | [] => True
 | n :: l => w.heap[n.M]? = some (.cells (F0 n.d) 141 (0, 0)) ∧ n.d.pos = .pointer (some ⟨n.P, 0, none⟩) ∧ a4m w n.d.kids l ∧ H0 w n.P n.b n.p n.cv ∧ Chn w l
theorem a4m.step {w w' : World} {k : Value} {l : List O4} (h : a4m w k l) (c : Cl w w') : a4m w' k l := by
 cases l with
 | nil => exact h
 | cons m l => exact Row.step h c
theorem Chn.step {w w' : World} : ∀ {l : List O4}, Chn w l → Cl w w' → Chn w' l
 | [], _, _ => trivial
 | n :: l, ⟨h1, h2, h3, h4, h5⟩, c => ⟨c.blk h1, h2, h3.step c, h4.step c, Chn.step h5 c⟩
theorem c0P : G2 285 83 1 8 := R0 zk
set_option maxHeartbeats 1000000 in
theorem b1g {G0 t : Nat} {g : Gm} {fz : Nat × Nat} {n : O4} {l : List O4} (hl : (n :: l).length ≤ 100000) (w : World) (hb : w.heap[G0]? = some (.cells (gmA g) t fz)) (hr : g.root = n.M) (hc : Chn w (n :: l)) :
  Calls G.P 248 #[.pointer (some ⟨G0, 0, none⟩)] w (fun r w' => ∃ v, r = .returned v ∧ Row 83 1 O8 w.heap.size w' v ((n :: l).map O4.P) ∧ Cl w w') := by
 refine zN Tryz.func248 ?_
 refine zR ?_
 refine a8M c0P 0 rfl rfl zd zd fun cs hcs => ?_
 have ca := Cl.alloc w (.cells cs 83)
 have hr0 : Row 83 1 O8 w.heap.size (w.alloc (.cells cs 83)) (.slice (some ⟨w.heap.size, 0, none⟩) 0 0) ([] : List Nat) := Row.zero (Nat.le_refl _) (d8 _ _) hcs zd
 generalize w.alloc (.cells cs 83) = w1 at *
 refine zR ?_
 refine b5 _ (b3K (ca.blk hb)) ?_
 rw [hr]
 refine zR ?_
 refine A9 (σ := List Nat × Value × O4 × List O4) [3, 4] 5 (fun s => [(3, s.2.1), (4, .pointer (some ⟨s.2.2.1.M, 0, none⟩))]) (fun s w' => Cl w w' ∧ Row 83 1 O8 w.heap.size w' s.2.1 s.1 ∧ Chn w (s.2.2.1 :: s.2.2.2) ∧ s.1 ++ (s.2.2.1 :: s.2.2.2).map O4.P = (n :: l).map O4.P) (fun s => s.2.2.2.length) zk
  ([], _, n, l) ⟨ca, hr0, hc, rfl⟩ ⟨rfl, rfl, trivial⟩ ?_
 rintro ⟨dn, v, m, k⟩ j w2 ⟨c2, hrw, hch, he⟩
 simp only at c2 hrw hch he ⊢
 obtain ⟨a, kk, rfl, _⟩ := hrw.form
 obtain ⟨hm, hp, hk, hP, hrest⟩ := hch
 have hm0 := hm
 have hm := c2.blk hm0
 have hlen := congrArg List.length he
 simp only [List.length_append, List.length_map, List.length_cons] at hlen hl
 have hlp : ∀ w', Cl w2 w' → l8 G.P w' 83 ⟨m.M, 1, none⟩ (.pointer (some ⟨m.P, 0, none⟩)) := fun w' c => by
  have : l8 G.P w' 83 ⟨m.M, 1, none⟩ m.d.pos := c0m (c.blk hm)
  rwa [hp] at this
 have hlk : ∀ w', Cl w2 w' → l8 G.P w' 134 ⟨m.M, 5, none⟩ m.d.kids := fun w' c => W1 (c.blk hm) rfl rfl
 refine zR ?_
 refine I1 false (N1 rfl _) (zR ?_)
 refine b5 _ (hlp _ (Cl.refl _)) (zR ?_)
 refine I1 false (N1 rfl _) (zR ?_)
 refine b5 _ (hlp _ (Cl.refl _)) (zR ?_)
 refine zL c0P [.pointer (some ⟨m.P, 0, none⟩)] ?_
 have cb := Cl.alloc w2 (.cells (([.pointer (some ⟨m.P, 0, none⟩)] : List Value).flatMap fun v => v.cells.toList).toArray 83)
 have hbx : Row 83 1 O8 w2.heap.size (w2.alloc (.cells (([.pointer (some ⟨m.P, 0, none⟩)] : List Value).flatMap fun v => v.cells.toList).toArray 83)) (.slice (some ⟨w2.heap.size, 0, none⟩) 1 1) [m.P] := F4 T9 w2 [m.P] (by exact Nat.le_of_ble_eq_true rfl) [.pointer (some ⟨m.P, 0, none⟩)] rfl
 generalize w2.alloc (.cells (([.pointer (some ⟨m.P, 0, none⟩)] : List Value).flatMap fun v => v.cells.toList).toArray 83) = w3 at *
 refine zR ?_
 refine J2 c0P (l := dn) (news := [m.P]) rfl (hrw.step cb) rfl hbx T9 a4l (by simp only [List.length_cons, List.length_nil]; omega) zd (c2.trans cb).size fun v' w4 hr' hg => ?_
 have c04 : Cl w w4 := hg.toCl rfl (c2.trans cb)
 have hlk4 : l8 G.P w4 134 ⟨m.M, 5, none⟩ m.d.kids := W1 (c04.blk hm0) rfl rfl
 obtain ⟨a9, c9, rfl, _⟩ := hr'.form
 refine zR ?_
 refine b5 _ hlk4 ?_
 cases k with
 | nil =>
  have e0 : m.d.kids = .slice none 0 0 := hk
  rw [e0]
  refine zR ?_
  exact ⟨_, rfl, by rw [← he]; exact hr', c04⟩
 | cons m2 k =>
  have hk2 : Row 85 1 O8 0 w m.d.kids [m2.M] := hk
  obtain ⟨ak, ck, ek, hak⟩ := hk2.form
  obtain ⟨gk, rfl⟩ := hak Nat.zero_lt_one
  rw [ek] at hk2 hlk4 ⊢
  have hk4 := hk2.step c04
  refine zR ?_
  refine b5 _ hlk4 (zR ?_)
  refine b5 _ (J8 hk4 T9 0 0 Nat.zero_lt_one zd rfl rfl rfl) (zR ?_)
  exact ⟨(dn ++ [m.P], _, m2, k), ⟨rfl, rfl, trivial⟩, ⟨c04, hr', hrest, by rw [← he]; simp⟩, by simp⟩
theorem Chn.get {w : World} : ∀ {l : List O4}, Chn w l → ∀ (i : Nat) (hi : i < l.length), H0 w l[i].P l[i].b l[i].p l[i].cv
 | n :: l, ⟨_, _, _, h4, h5⟩, 0, _ => h4
 | n :: l, ⟨_, _, _, h4, h5⟩, i + 1, hi => Chn.get h5 i (Nat.lt_of_succ_lt_succ hi)
theorem b26 (p q : k8) : Y8 p q = Y8 q p := by
 unfold Y8
 have e : ∀ {α : Type} [DecidableEq α] (a b : α), decide (a = b) = decide (b = a) := fun a b => by
  by_cases h : a = b
  ·subst h; rfl
  ·rw [decide_eq_false h, decide_eq_false (Ne.symm h)]
 rw [e p.board, e p.turn, e p.castle, e p.ep]
theorem b27 (l : List k8) (q p : k8) : times (l ++ [q]) p = times l p + (if Y8 p q then 1 else 0) := by
 unfold times
 rw [List.filter_append, List.length_append, List.filter_cons, b26 q p]
 cases Y8 p q <;> rfl
theorem b1h (l : List k8) (p : k8) : times l p ≤ l.length := List.length_filter_le _ _
theorem b6V {p : k8} (hI : B7 p) {G0 b t : Nat} {g : Gm} {fz : Nat × Nat} {cv : Value} {n : O4} {l : List O4} (hl : (n :: l).length ≤ 100000) (hJ : ∀ x ∈ n :: l, B7 x.p) (w : World) (hT : C1 w) (hb : w.heap[G0]? = some (.cells (gmA g) t fz)) (hr : g.root = n.M)
  (hc : Chn w (n :: l)) (hP : H0 w g.P b p cv) :
  Calls G.P 197 #[.pointer (some ⟨G0, 0, none⟩)] w (K4 (.int .i64 (times ((n :: l).map O4.p) p)) w) := by
 refine zN Tryz.func197 ?_
 refine zR ?_
 refine o8 (b1g hl w hb hr hc) ?_
 rintro e w1 ⟨v, rfl, hrw, c1⟩
 refine ⟨_, rfl, ?_⟩
 obtain ⟨a, k, rfl, ha⟩ := hrw.form
 generalize hxs : n :: l = xs at *
 have hlm : (xs.map O4.P).length = xs.length := List.length_map _
 rw [hlm] at hrw ha ⊢
 refine zR ?_
 refine A9 (σ := Nat) [3, 5, 9] 10 (fun i => [(3, .int .i64 (times ((xs.take i).map O4.p) p)), (9, .int .i64 i)]) (fun i w' => i ≤ xs.length ∧ Cl w1 w') (fun i => xs.length - i) zk 0 ⟨Nat.zero_le _, Cl.refl _⟩ ⟨rfl, rfl, trivial⟩ ?_
 rintro i j w2 ⟨hi, c2⟩
 have ni := C2 (i := i) zo
 have c02 := c1.trans c2
 have htl := b1h ((xs.take i).map O4.p) p
 rw [List.length_map, List.length_take] at htl
 have nt := C2 (i := times ((xs.take i).map O4.p) p) zo
 refine zR ?_
 apply E.b7<;>intro h
 ·have hi2 : i < xs.length := by omega
  clear h
  obtain ⟨gk, rfl⟩ := ha zo
  have htk : xs.take (i + 1) = xs.take i ++ [xs[i]] := List.take_succ_eq_append_getElem hi2
  have hts : times ((xs.take (i + 1)).map O4.p) p = times ((xs.take i).map O4.p) p + (if Y8 p xs[i].p then 1 else 0) := by rw [htk, List.map_append]; exact b27 _ _ _
  have hx := hc.get i hi2
  have hxJ := hJ _ (List.getElem_mem hi2)
  have hld := fun {o : Nat} (ho : o = i * 1 + 0) => J8 (t := 83) (v := .pointer (some ⟨xs[i].P, 0, none⟩)) (hrw.step c2) T9 i 0 (by rw [hlm]; exact hi2) zd (by rw [List.getElem_map]; rfl) ho rfl
  generalize xs[i] = x at *
  refine zR ?_
  refine zC ?_
  refine zR ?_
  refine b5 _ (hld (a0y _ _)) (zR ?_)
  refine W3 false (N1 rfl _) (zR ?_)
  refine b5 _ (a4T (c02.blk hb)) (zR ?_)
  refine m9 (a7C hI hxJ w2 (hT.cl c02) (c02.blk hP.hd) (c02.blk hP.bd) (c02.blk hx.hd) (c02.blk hx.bd)) fun w3 c3 => zR ?_
  cases hal : Y8 p x.p with
  | true =>
   rw [hal] at hts
   refine zR ?_
   refine ⟨i + 1, ⟨?_, d6 ni, trivial⟩, ⟨zo, c2.trans c3⟩, zo⟩
   rw [hts]; exact d6 nt
  | false =>
   rw [hal] at hts
   refine zR ?_
   refine ⟨i + 1, ⟨?_, d6 ni, trivial⟩, ⟨zo, c2.trans c3⟩, zo⟩
   rw [hts]; rfl
 ·have e : i = xs.length := by omega
  subst e
  rw [List.take_length]
  refine zR ?_
  exact ⟨rfl, c02⟩
set_option maxHeartbeats 1000000 in
theorem b28 {p : k8} (hI : B7 p) (hle : (z8 p).length ≤ 218) {G0 t M b : Nat} {g : Gm} {fz : Nat × Nat} {cv : Value} {d : Nd} (hm : d.mv ∈ y8 p) (w : World) (hT : C1 w) (hb : w.heap[G0]? = some (.cells (gmA g) t fz)) (hP : H0 w g.P b p cv)
  (hM : w.heap[M]? = some (.cells (F0 d) 141 (0, 0))) (hGP : G0 ≠ g.P) (hMP : M ≠ g.P) :
  Calls G.P 101 #[.pointer (some ⟨G0, 0, none⟩), .pointer (some ⟨M, 0, none⟩)] w (fun r w' => r = .returned .nilIface ∧ ∃ cv', H0 w' g.P b p cv' ∧ Tn g.P w w' ∧ Row 141 11 C6 0 w' cv' (N0 p) ∧ ∀ k, cv'.ownBlock = some k → cv.ownBlock = some k ∨ w.heap.size ≤ k) := by
 obtain ⟨mm1, mm2⟩ := a0I hI
 have hlen := a4O hI hle
 refine zN Tryz.func101 ?_
 refine zR ?_
 refine W3 false (N1 rfl _) (zR ?_)
 refine b5 _ (a4T hb) (zR ?_)
 refine W3 false (N1 rfl _) (zR ?_)
 refine b5 _ (a4T hb) (zR ?_)
 refine o8 (a4P hI hle w hT hP) ?_
 rintro r w2 ⟨v, cv', rfl, hr, hP2, n2, hr0, hown⟩
 obtain ⟨av, kv, rfl, hav⟩ := hr.form
 refine ⟨_, rfl, ?_⟩
 have hM2 := n2.blk hM hMP
 refine zR ?_
 refine A9 (σ := Nat) [4, 7, 24] 25 (fun i => [(4, .nilIface), (24, .int .i64 i)]) (fun i w' => i ≤ (N0 p).length ∧ Cl w2 w' ∧ ∀ x ∈ (N0 p).take i, x.mv ≠ d.mv) (fun i => (N0 p).length - i) zk 0 ⟨Nat.zero_le _, Cl.refl _, fun x hx => by simp at hx⟩ ⟨rfl, rfl, trivial⟩ ?_
 rintro i j w3 ⟨hi, c3, hno⟩
 have ni := C2 (i := i) zo
 refine zR ?_
 apply E.b7<;>intro h
 ·have hi2 : i < (N0 p).length := by omega
  clear h
  obtain ⟨ga, rfl⟩ := hav zo
  have hld := fun {o : Nat} (ho : o = i * 11) => a97 (hr.step c3) i hi2 ho
  have hxm := List.getElem_mem hi2
  have htk : (N0 p).take (i + 1) = (N0 p).take i ++ [(N0 p)[i]] := List.take_succ_eq_append_getElem hi2
  generalize (N0 p)[i] = x at *
  refine zR ?_
  refine zC ?_
  refine zR ?_
  refine b5 _ (hld (a0y _ _)) (zR ?_)
  refine t7 _ a6b ?_
  have cB := Cl.alloc w3 (.cells (Value.agg (F0 (D3 ⟨⟨0, 0, 0⟩, 0⟩))).cells 141)
  have nB := d8 w3 (.cells (Value.agg (F0 (D3 ⟨⟨0, 0, 0⟩, 0⟩))).cells 141)
  generalize w3.alloc (.cells (Value.agg (F0 (D3 ⟨⟨0, 0, 0⟩, 0⟩))).cells 141) = w4 at *
  refine zR ?_
  refine J6 nB (C6 x) rfl a1x rfl (F1 x) (Nat.le_of_ble_eq_true rfl) fun w5 u5 => ?_
  have hX : w5.heap[w3.heap.size]? = some (.cells (F0 (D3 x)) 141 (0, 0)) := by have h7 := u5.at_; rw [C5 _ _ (by rw [I7]; rfl)] at h7; exact h7
  have c5 : Cl w3 w5 := (Tn.upd u5).toCl cB (Nat.le_refl _)
  have c25 := c3.trans c5
  have hD := c25.blk hM2
  have hxe : ∀ w6, Cl w5 w6 → x.mv ≠ d.mv → i + 1 ≤ (N0 p).length ∧ Cl w2 w6 ∧ ∀ y ∈ (N0 p).take (i + 1), y.mv ≠ d.mv := fun w6 c6 hne => ⟨hi2, c25.trans c6, fun y hy => by
   rw [htk] at hy
   rcases List.mem_append.1 hy with hy | hy
   ·exact hno y hy
   ·rw [List.mem_singleton] at hy; rw [hy]; exact hne⟩
  refine zR ?_
  refine zK 25 ?_
  refine zR ?_
  refine a2Y hX (zR ?_)
  refine a2Y hD (zR ?_)
  apply E.b7<;>intro h
  ·have h1 : x.mv.fr = d.mv.fr := h
   clear h
   refine zR ?_
   repeat (refine E.v6 h1 ?_; refine zR ?_)
   refine a9x hX (zR ?_)
   repeat (refine E.v6 h1 ?_; refine zR ?_)
   refine a9x hD (zR ?_)
   repeat (refine E.v6 h1 ?_; refine zR ?_)
   apply E.b7<;>intro h
   ·have h2 : x.mv.to = d.mv.to := h
    clear h
    refine zR ?_
    repeat (refine E.v6 h2 ?_; refine zR ?_)
    refine a6A hX (zR ?_)
    repeat (refine E.v6 h2 ?_; refine zR ?_)
    refine a6A hD (zR ?_)
    repeat (refine E.v6 h2 ?_; refine zR ?_)
    intro w6 c6
    refine zR ?_
    repeat (refine E.v6 h2 ?_; refine zR ?_)
    apply E.b7<;>intro h
    ·refine zR ?_
     have c26 := c25.trans c6
     exact ⟨rfl, cv', hP2.step c26, n2.trans (Tn.cl c26), hr0.step c26, hown⟩
    ·refine zR ?_
     exact ⟨i + 1, ⟨rfl, d6 ni, trivial⟩, hxe _ c6 (fun e => h (by rw [← e]; rfl)), zo⟩
   ·have h2 : ¬ x.mv.to = d.mv.to := h
    clear h
    refine zR ?_
    repeat (refine E.o7 h2 ?_; refine zR ?_)
    intro w6 c6
    refine zR ?_
    repeat (refine E.o7 h2 ?_; refine zR ?_)
    exact ⟨i + 1, ⟨rfl, d6 ni, trivial⟩, hxe _ c6 (fun e => h2 (by rw [← e])), zo⟩
  ·have h1 : ¬ x.mv.fr = d.mv.fr := h
   clear h
   refine zR ?_
   repeat (refine E.o7 h1 ?_; refine zR ?_)
   intro w6 c6
   refine zR ?_
   repeat (refine E.o7 h1 ?_; refine zR ?_)
   exact ⟨i + 1, ⟨rfl, d6 ni, trivial⟩, hxe _ c6 (fun e => h1 (by rw [← e])), zo⟩
 ·have e : i = (N0 p).length := by omega
  subst e
  rw [List.take_length] at hno
  obtain ⟨x, hx, e⟩ := mm2 _ hm
  exact absurd e (hno x hx)
end
end Go.Proofs.YtpclhlhcegcflaaGreatDoor
