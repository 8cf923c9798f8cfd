/- One part of the proof: Pk37 Pk38 Fen Pk39 Pk40. -/
import Derived.Test.YtpclhlhcegcflaaGreatDoorM1
import Derived.Test.YtpclhlhcegcflaaGreatDoorM3
import Derived.Test.YtpclhlhcegcflaaGreatDoorM18
import Derived.Test.YtpclhlhcegcflaaGreatDoorM22
namespace Go.Proofs.YtpclhlhcegcflaaGreatDoor
set_option maxRecDepth 100000
set_option linter.unusedSimpArgs false
set_option linter.unusedVariables false
section
open Go Go.RowKit
open E
open Ch Bb
theorem mSP : a1y 271 138 194 .i8 .i8 := a7F zk
theorem mPI : a1y 287 139 3 .i8 .i64 := a7F zk
def enG (g : Nat → Int) (c0 : Nat) : Nat → List En
 | 0 => []
 | n + 1 => if g n = 0 then enG g c0 n else enG g c0 n ++ [⟨n, g n, c0 + (enG g c0 n).length⟩]
theorem a33 (g : Nat → Int) (c0 : Nat) : ∀ n, ∀ x ∈ enG g c0 n, ∃ i : Nat, i < n ∧ x.k = (i : Int) ∧ x.v = g i ∧ g i ≠ 0
 | 0, x, h => by cases h
 | n + 1, x, h => by
  rw [enG] at h
  split at h
  ·obtain ⟨i, hi, h2⟩ := a33 g c0 n x h; exact ⟨i, zo, h2⟩
  ·rename_i h0
   rcases List.mem_append.1 h with h | h
   ·obtain ⟨i, hi, h2⟩ := a33 g c0 n x h; exact ⟨i, zo, h2⟩
   ·rw [List.mem_singleton.1 h]; exact ⟨n, zo, rfl, rfl, h0⟩
theorem b3O (g : Nat → Int) (c0 : Nat) : ∀ n i : Nat, i < n → g i ≠ 0 → ∃ x ∈ enG g c0 n, x.k = (i : Int)
 | n + 1, i, hi, h0 => by
  rw [enG]
  by_cases e : i = n
  ·subst e
   rw [if_neg h0]; exact ⟨_, List.mem_append_right _ (List.mem_singleton.2 rfl), rfl⟩
  ·obtain ⟨x, hx, h2⟩ := b3O g c0 n i zo h0
   split
   ·exact ⟨x, hx, h2⟩
   ·exact ⟨x, List.mem_append_left _ hx, h2⟩
theorem b3P (g : Nat → Int) (c0 n : Nat) : getV (enG g c0 n) (n : Int) = none := a8P fun x hx => by
 obtain ⟨i, hi, e, _⟩ := a33 g c0 n x hx
 rw [e]; omega
theorem a34 (g : Nat → Int) (c0 : Nat) : ∀ n, (enG g c0 n).map (·.n) = List.range' c0 (enG g c0 n).length
 | 0 => rfl
 | n + 1 => by
  rw [enG]
  split
  ·exact a34 g c0 n
  ·rw [List.map_append, a34 g c0 n, List.length_append, List.length_singleton, List.range'_concat]; simp
theorem b2B (g : Nat → Int) (c0 n : Nat) : ((enG g c0 n).map (·.n)).Nodup := by rw [a34]; exact List.nodup_range'
theorem b2C (g : Nat → Int) (c0 n : Nat) : ∀ x ∈ enG g c0 n, x.n < c0 + (enG g c0 n).length := fun x hx => by
 have : x.n ∈ (enG g c0 n).map (·.n) := List.mem_map.2 ⟨x, hx, rfl⟩
 rw [a34, List.mem_range'_1] at this
 exact this.2
theorem a7K (g : Nat → Int) (c0 : Nat) : ∀ n, ((enG g c0 n).map (·.k)).Nodup
 | 0 => List.nodup_nil
 | n + 1 => by
  rw [enG]
  split
  ·exact a7K g c0 n
  ·rw [List.map_append, List.nodup_append]
   refine ⟨a7K g c0 n, by simp, fun a ha b hb => ?_⟩
   obtain ⟨x, hx, rfl⟩ := List.mem_map.1 ha
   obtain ⟨i, hi, e, _⟩ := a33 g c0 n x hx
   simp only [List.map_cons, List.map_nil, List.mem_singleton] at hb
   rw [e, hb]; omega
theorem a59 (g : Nat → Int) (c0 : Nat) (P : Int → Int → Bool) : ∀ n, (enG g c0 n).countP (fun x => P x.k x.v) = cntN (fun i => !decide (g i = 0) && P i (g i)) n
 | 0 => rfl
 | n + 1 => by
  rw [enG, cntN]
  by_cases h0 : g n = 0
  ·rw [if_pos h0, a59 g c0 P n]; simp [h0]
  ·rw [if_neg h0, List.countP_append, a59 g c0 P n]; simp [h0, List.countP_cons]
theorem b1m (g : Nat → Int) (c0 n : Nat) : ∀ k, (∀ i, n ≤ i → i < n + k → g i = 0) → enG g c0 (n + k) = enG g c0 n
 | 0, _ => rfl
 | k + 1, h => by
  rw [← Nat.add_assoc, enG, if_pos (h (n + k) zo zo)]
  exact b1m g c0 n k fun i h1 h2 => h i h1 zo
def sqE (p : k8) (n : Nat) : List En := enG (fun i => sq p i) 0 n
theorem b8Q (p : k8) (n : Nat) : ∀ x ∈ sqE p n, ∃ i : Nat, i < n ∧ x.k = (i : Int) ∧ x.v = sq p i ∧ sq p i ≠ 0 := a33 _ _ n
theorem b8R (p : k8) (n : Nat) : getV (sqE p n) (n : Int) = none := b3P _ _ n
theorem c0R (p : k8) (n : Nat) : ((sqE p n).map (·.n)).Nodup := b2B _ _ n
theorem c0S (p : k8) (n : Nat) : ∀ x ∈ sqE p n, x.n < (sqE p n).length := fun x hx => by have := b2C _ 0 n x hx; rwa [Nat.zero_add] at this
theorem a2e (p : k8) (P : Int → Int → Bool) (n : Nat) : (sqE p n).countP (fun x => P x.k x.v) = cntN (fun i => !decide (sq p i = 0) && P i (sq p i)) n := a59 _ 0 P n
theorem b1n (p : k8) (n : Nat) : sqE p (n + 1) = if sq p n = 0 then sqE p n else sqE p n ++ [⟨n, sq p n, (sqE p n).length⟩] := by
 unfold sqE; rw [enG, Nat.zero_add]
theorem a9K (f : Nat → Bool) : ∀ n, cntN f n ≤ n
 | 0 => Nat.le_refl _
 | n + 1 => by rw [cntN]; have := a9K f n; split <;> omega
theorem b8S (i : Nat) (hi : i < 64) (w : World) : Calls G.P 251 #[.int .i8 i] w (D5 (.int .i8 (if (l9 i + g8 i) % 2 = 0 then 2 else 1)) w) := by
 have e1 : IntKind.i8.wrap ((i : Int).tdiv 8) = ((i / 8 : Nat) : Int) := by rw [show ((i : Int).tdiv 8) = ((i / 8 : Nat) : Int) from rfl]; exact V3 zo zo
 refine zN Tryz.func251 ?_
 refine zR ?_
 rw [e1]
 apply E.b7<;>intro h
 ·have h : (((i / 8 : Nat) : Int).tmod 2) = ((i : Int).tmod 2) := h
  have h2 : (i / 8) % 2 = i % 2 := by
   have e2 : (((i / 8 : Nat) : Int).tmod 2) = ((i / 8 % 2 : Nat) : Int) := rfl
   have e3 : ((i : Int).tmod 2) = ((i % 2 : Nat) : Int) := rfl
   rw [e2, e3] at h; omega
  rw [if_pos (by unfold l9 g8; omega)]
  refine zR ?_
  exact ⟨rfl, rfl⟩
 ·have h : ¬ (((i / 8 : Nat) : Int).tmod 2) = ((i : Int).tmod 2) := h
  have h2 : ¬ (i / 8) % 2 = i % 2 := by
   have e2 : (((i / 8 : Nat) : Int).tmod 2) = ((i / 8 % 2 : Nat) : Int) := rfl
   have e3 : ((i : Int).tmod 2) = ((i % 2 : Nat) : Int) := rfl
   rw [e2, e3] at h; omega
  rw [if_neg (by unfold l9 g8; omega)]
  refine zR ?_
  exact ⟨rfl, rfl⟩
theorem b1o {p : k8} (hp : ∀ i : Int, 0 ≤ sq p i ∧ sq p i ≤ 12) {b t : Nat} {fz : Nat × Nat} (w : World) (hT : C1 w) (hb : w.heap[b]? = some (.cells (G1 (mbOf p)) t fz)) :
  Calls G.P 250 #[.pointer (some ⟨b, 0, none⟩)] w (fun r w' => Cl w w' ∧ ∃ m, r = .returned (.map (some m)) ∧ w.heap.size ≤ m ∧ w'.heap[m]? = some (mpO .i8 .i8 (sqE p 64) (sqE p 64).length)) := by
 refine zN Tryz.func250 ?_
 refine zR ?_
 refine a32 ?_
 have ca := Cl.alloc w (.map #[] 0)
 have na : (w.alloc (.map #[] 0)).heap[w.heap.size]? = some (mpO .i8 .i8 (sqE p 0) (sqE p 0).length) := d8 w (.map #[] 0)
 generalize w.alloc (.map #[] 0) = w1 at *
 refine zR ?_
 refine A9 (σ := Nat) [4, 5, 7] 8 (fun i => [(7, .int .i64 i)]) (fun i w' => i ≤ 64 ∧ Cl w w' ∧ w'.heap[w.heap.size]? = some (mpO .i8 .i8 (sqE p i) (sqE p i).length)) (fun i => 64 - i) zk 0 ⟨zo, ca, na⟩ ⟨rfl, trivial⟩ ?_
 rintro i j w2 ⟨hi, c2, hm⟩
 have ni := C2 (i := i) zo
 refine zR ?_
 apply E.b7<;>intro h
 ·have hi2 : i < 64 := by omega
  clear h
  have ei : IntKind.i8.wrap (i : Int) = (i : Int) := V3 zo zo
  have hpi := T8 hp hi2
  refine zR ?_
  rw [ei]
  refine d9 (W2 (mbOf p) b i hi2 w2 (hT.cl c2) (c2.blk hb)) ?_
  rw [hpi]
  refine zR ?_
  apply E.r9<;>intro h
  ·have h0 : ¬ sq p i = 0 := h
   refine zR ?_
   rw [ei]
   refine a4W mSP rfl rfl rfl hm fun w3 u3 => zR ?_
   refine ⟨i + 1, ⟨d6 ni, trivial⟩, ⟨zo, u3.cl c2 (Nat.le_refl _), ?_⟩, zo⟩
   obtain ⟨e1, e2⟩ := b1k (v := sq p i) (c := (sqE p i).length) (b8R p i)
   rw [u3.at_, e1, e2, b1n, if_neg h0, List.length_append]; rfl
  ·have h0 : sq p i = 0 := h
   refine zR ?_
   refine ⟨i + 1, ⟨d6 ni, trivial⟩, ⟨zo, c2, ?_⟩, zo⟩
   rw [hm, b1n, if_pos h0]
 ·have e : i = 64 := by omega
  subst e
  refine zR ?_
  exact ⟨c2, _, rfl, Nat.le_refl _, hm⟩
theorem c0T {p : k8} (hp : ∀ i : Int, 0 ≤ sq p i ∧ sq p i ≤ 12) : (0 : Int) < (((mbOf p).f 1 ||| (mbOf p).f 2 ||| (mbOf p).f 5 ||| (mbOf p).f 7 ||| (mbOf p).f 8 ||| (mbOf p).f 11 : Nat) : Int)
  ↔ anyN (fun i => decide (kindOf (sq p i) = 2) || decide (kindOf (sq p i) = 3) || decide (kindOf (sq p i) = 6)) 64 = true := by
 have e : (mbOf p).f 1 ||| (mbOf p).f 2 ||| (mbOf p).f 5 ||| (mbOf p).f 7 ||| (mbOf p).f 8 ||| (mbOf p).f 11 = bb (fun s => decide (kindOf (sq p s) = 2) || decide (kindOf (sq p s) = 3) || decide (kindOf (sq p s) = 6)) := by
  rw [a0d p 1 zd, a0d p 2 zd, a0d p 5 zd, a0d p 7 zd, a0d p 8 zd, a0d p 11 zd]
  unfold bbf
  rw [a0D, a0D, a0D, a0D, a0D]
  refine a01 fun s _ => ?_
  have h := hp s
  show (decide (sq p s = 2) || decide (sq p s = 3) || decide (sq p s = 6) || decide (sq p s = 8) || decide (sq p s = 9) || decide (sq p s = 12)) = _
  generalize sq p s = x at *
  rcases (by omega : x = 0 ∨ x = 1 ∨ x = 2 ∨ x = 3 ∨ x = 4 ∨ x = 5 ∨ x = 6 ∨ x = 7 ∨ x = 8 ∨ x = 9 ∨ x = 10 ∨ x = 11 ∨ x = 12) with rfl | rfl | rfl | rfl | rfl | rfl | rfl | rfl | rfl | rfl | rfl | rfl | rfl <;> rfl
 rw [e]
 constructor
 ·intro h
  cases ha : anyN (fun i => decide (kindOf (sq p i) = 2) || decide (kindOf (sq p i) = 3) || decide (kindOf (sq p i) = 6)) 64 with
  | true => rfl
  | false =>
   have : bb (fun s => decide (kindOf (sq p s) = 2) || decide (kindOf (sq p s) = 3) || decide (kindOf (sq p s) = 6)) = 0 := (a61 _).2 fun s hs => by
    cases hx : (decide (kindOf (sq p s) = 2) || decide (kindOf (sq p s) = 3) || decide (kindOf (sq p s) = 6)) with
    | false => rfl
    | true => rw [a3m hs hx] at ha; cases ha
   rw [this] at h; exact absurd h zd
 ·intro h
  obtain ⟨s, hs, hx⟩ := (a2H _ _).1 h
  rcases Nat.eq_zero_or_pos (bb (fun s => decide (kindOf (sq p s) = 2) || decide (kindOf (sq p s) = 3) || decide (kindOf (sq p s) = 6))) with e0 | e0
  ·have := (a61 _).1 e0 s hs
   rw [hx] at this; cases this
  ·omega
theorem b3Q {p : k8} (hI : B7 p) {c : Int} (hc : c = 0 ∨ c = 1) {i : Nat} (hi : i < 12) (hx : (i : Int) + 1 = 1 + 6 * c) : ¬ (((mbOf p).f i : Nat) : Int) = 0 := by
 intro e
 have e : (mbOf p).f i = 0 := by omega
 rw [a0d p i hi] at e
 unfold bbf at e
 obtain ⟨k0, k1, e2, _⟩ := hI.king c hc
 have : decide (sq p ((kingAt p c).toNat : Int) = (i : Int) + 1) = false := (a61 _).1 e (kingAt p c).toNat zo
 rw [Int.toNat_of_nonneg k0, hx, decide_eq_true e2] at this; cases this
set_option maxHeartbeats 1000000 in
theorem b6X {p : k8} (hI : B7 p) (b : Nat) : c0Q p b := by
 intro w hT hb
 rw [← b6K]
 have hp := hI.pc
 have hbig := c0T hp
 have hk0 := b3Q hI (.inl rfl) (i := 0) zd rfl
 have hk6 := b3Q hI (.inr rfl) (i := 6) zd rfl
 have hSM := fun w (hT : C1 w) hb => b1o hp (b := b) (t := 237) (fz := (0, 0)) w hT hb
 have hS : suffM p = if anyN (fun i => decide (kindOf (sq p i) = 2) || decide (kindOf (sq p i) = 3) || decide (kindOf (sq p i) = 6)) 64 then true
  else
   let n := cntN (fun i => decide (kindOf (sq p i) = 5)) 64
   let b := cntN (fun i => decide (kindOf (sq p i) = 4)) 64
   let b0 := cntN (fun i => decide (kindOf (sq p i) = 4) && decide ((l9 i + g8 i) % 2 = 0)) 64
   let b1 := cntN (fun i => decide (kindOf (sq p i) = 4) && decide ((l9 i + g8 i) % 2 = 1)) 64
   if b = 0 ∧ n = 0 then false else if b = 1 ∧ n = 0 then false else if b = 0 ∧ n = 1 then false
   else if n = 0 then (if b1 = 0 ∨ b0 = 0 then false else true) else true := rfl
 have hzero : ∀ t : Int, t ≠ 0 → ∀ P : Int → Bool, cntN (fun i => !decide (sq p i = 0) && (decide (kindOf (sq p i) = t) && P i)) 64 = cntN (fun i => decide (kindOf (sq p i) = t) && P i) 64 := fun t ht P => a8H 64 fun i _ => by
  by_cases h : sq p i = 0
  ·rw [h]; rw [decide_eq_false (show ¬ kindOf 0 = t from fun e => ht e.symm)]; rfl
  ·simp [h]
 have h5 : ((sqE p 64).countP fun x => decide (kindOf x.v = 5)) = cntN (fun i => decide (kindOf (sq p i) = 5)) 64 := by
  have := hzero 5 zd (fun _ => true)
  simp only [Bool.and_true] at this
  rw [← this]; exact a2e p (fun _ v => decide (kindOf v = 5)) 64
 have h4 : ((sqE p 64).countP fun x => decide (kindOf x.v = 4)) = cntN (fun i => decide (kindOf (sq p i) = 4)) 64 := by
  have := hzero 4 zd (fun _ => true)
  simp only [Bool.and_true] at this
  rw [← this]; exact a2e p (fun _ v => decide (kindOf v = 4)) 64
 have h40 : ((sqE p 64).countP fun x => decide (kindOf x.v = 4) && decide ((l9 x.k + g8 x.k) % 2 = 0)) = cntN (fun i => decide (kindOf (sq p i) = 4) && decide ((l9 i + g8 i) % 2 = 0)) 64 := by
  rw [← hzero 4 zd (fun i => decide ((l9 i + g8 i) % 2 = 0))]; exact a2e p (fun k v => decide (kindOf v = 4) && decide ((l9 k + g8 k) % 2 = 0)) 64
 have h41 : ((sqE p 64).countP fun x => decide (kindOf x.v = 4) && decide ((l9 x.k + g8 x.k) % 2 = 1)) = cntN (fun i => decide (kindOf (sq p i) = 4) && decide ((l9 i + g8 i) % 2 = 1)) 64 := by
  rw [← hzero 4 zd (fun i => decide ((l9 i + g8 i) % 2 = 1))]; exact a2e p (fun k v => decide (kindOf v = 4) && decide ((l9 k + g8 k) % 2 = 1)) 64
 have l5 := a9K (fun i => decide (kindOf (sq p i) = 5)) 64
 have l4 := a9K (fun i => decide (kindOf (sq p i) = 4)) 64
 have hnd := c0R p 64
 have hlt := c0S p 64
 have hmem : ∀ x ∈ sqE p 64, ∃ i : Nat, i < 64 ∧ x.k = (i : Int) ∧ 0 ≤ x.v ∧ x.v ≤ 12 := fun x hx => by
  obtain ⟨i, hi, e1, e2, _⟩ := b8Q p 64 x hx
  exact ⟨i, hi, e1, by rw [e2]; exact (hp i).1, by rw [e2]; exact (hp i).2⟩
 have hlen : (sqE p 64).length ≤ 64 := by
  have := a2e p (fun _ _ => true) 64
  simp only [List.countP_true] at this
  rw [this]; exact a9K _ 64
 rw [← h5, ← h4, ← h40, ← h41] at hS
 clear h5 h4 h40 h41 l5 l4 hzero
 have hok : (mbOf p).Ok := inferInstance
 generalize (sqE p 64) = l at *
 generalize mbOf p = B at *
 generalize anyN (fun i => decide (kindOf (sq p i) = 2) || decide (kindOf (sq p i) = 3) || decide (kindOf (sq p i) = 6)) 64 = A at *
 generalize suffM p = V at *
 have hB := hb
 refine zN Tryz.func198 ?_
 refine zR ?_
 refine zK 30 ?_
 refine zQ ?_
 intro w1 c1
 refine zR ?_
 apply E.b7<;>intro h
 ·have hA := hbig.1 h
  rw [if_pos hA] at hS
  refine zR ?_
  exact ⟨m8 hS.symm, c1⟩
 have hA : ¬ A = true := fun e => h (hbig.2 e)
 rw [if_neg hA] at hS
 simp only at hS
 clear h hbig hA
 have hB := c1.blk hb
 refine zB ?_
 refine E.o7 hk0 (zB ?_)
 refine E.o7 hk6 (zR ?_)
 repeat (refine E.o7 hk0 ?_; refine zR ?_)
 repeat (refine E.o7 hk6 ?_; refine zR ?_)
 refine a32 ?_
 have c2 := c1.trans (Cl.alloc w1 (.map #[] 0))
 have nC : (w1.alloc (.map #[] 0)).heap[w1.heap.size]? = some (mpO .i8 .i64 [] 0) := d8 w1 (.map #[] 0)
 have s1 := c1.size
 have s2 := y9 w1 (.map #[] 0)
 obtain ⟨C, hC⟩ : ∃ C, C = w1.heap.size := ⟨_, rfl⟩
 rw [← hC] at nC ⊢
 generalize w1.alloc (.map #[] 0) = w2 at *
 refine zR ?_
 refine o8 (hSM w2 (hT.cl c2) (c2.blk hb)) ?_
 rintro e w3 ⟨c3, m, rfl, sm, hm⟩
 refine ⟨_, rfl, ?_⟩
 have nC3 := c3.blk nC
 have c03 := c2.trans c3
 have hml := N2 hm
 refine zR ?_
 refine a2c mSP rfl hm hnd hlt fun w4 c4 s4 hI4 => ?_
 have nC4 := c4.blk nC3
 have c04 := c03.trans c4
 have hCm : C ≠ m := by omega
 have hCr : C ≠ w3.heap.size := by omega
 have hmr : m ≠ w3.heap.size := by omega
 have h0r : w.heap.size ≤ w3.heap.size := c03.size
 have h0C : w.heap.size ≤ C := by omega
 generalize w3.heap.size = r at *
 refine zR ?_
 refine A9 (σ := List En × List En × Nat) [6] 58 (fun _ => []) (fun s w' => Cl w w' ∧ Itr .i8 .i8 w' m r l l.length s.1 ∧ w'.heap[C]? = some (mpO .i8 .i64 s.2.1 s.2.2) ∧ (∀ x ∈ s.1, x ∈ l) ∧ (∀ t : Int, 0 ≤ (getV s.2.1 t).getD 0) ∧ ∀ t : Int, (getV s.2.1 t).getD 0 + (s.1.countP fun x => decide (kindOf x.v = t) : Nat) = (l.countP fun x => decide (kindOf x.v = t) : Nat)) (fun s => s.1.length) zk
  (l, [], 0) ⟨c04, hI4, nC4, fun x hx => hx, fun t => by rw [a4V]; simp, fun t => by rw [a4V]; simp⟩ trivial ?_
 rintro ⟨rem, cm, cc⟩ j w5 ⟨c5, hI5, nC5, hsub, hnn, hcnt⟩
 simp only at c5 hI5 nC5 hsub hnn hcnt ⊢
 refine zR ?_
 refine a3f rfl hI5 (fun e => ?_) (fun r1 x r2 w6 e n6 hI6 hE => ?_)
 rotate_left
 ·subst e
  have hxl : x ∈ l := hsub x (by simp)
  obtain ⟨i, hi, ek, v0, v1⟩ := hmem x hxl
  have hx := hcnt (kindOf x.v)
  have hb1 : (l.countP fun y => decide (kindOf y.v = kindOf x.v)) ≤ l.length := List.countP_le_length
  have hb2 : 1 ≤ ((r1 ++ x :: r2).countP fun y => decide (kindOf y.v = kindOf x.v)) := by
   rw [List.countP_append, List.countP_cons]; simp; omega
  have hz := hnn (kindOf x.v)
  have hcb : IntKind.i64.wrap ((getV cm (kindOf x.v)).getD 0 + 1) = (getV cm (kindOf x.v)).getD 0 + 1 := g7 zo zo
  have c6 := n6.toCl c5 h0r
  have nC6 := n6.blk nC5 hCr
  refine zR ?_
  refine a2d rfl hE (zR ?_)
  refine d9 (a0C x.v v0 v1 _) (zR ?_)
  refine b3M mPI rfl rfl nC6 (zR ?_)
  rw [hcb]
  refine a4W mPI rfl rfl rfl nC6 fun w7 u7 => zR ?_
  refine ⟨(r1 ++ r2, a7G cm (kindOf x.v) ((getV cm (kindOf x.v)).getD 0 + 1) cc, b2A cm (kindOf x.v) cc), trivial, ⟨u7.cl c6 h0C, hI6.kp (fun o h => (Tn.upd u7).blk h (Ne.symm hCm)) (fun o h => (Tn.upd u7).blk h (Ne.symm hCr)), u7.at_, fun y hy => hsub y ?_, fun t => ?_, fun t => ?_⟩, by simp⟩
  ·rcases List.mem_append.1 hy with hy | hy
   ·exact List.mem_append_left _ hy
   ·exact List.mem_append_right _ (List.mem_cons_of_mem _ hy)
  ·show 0 ≤ (getV (a7G cm (kindOf x.v) ((getV cm (kindOf x.v)).getD 0 + 1) cc) t).getD 0
   rw [a7H]
   split
   ·simp only [Option.getD_some]; omega
   ·exact hnn t
  ·have ht := hcnt t
   show (getV (a7G cm (kindOf x.v) ((getV cm (kindOf x.v)).getD 0 + 1) cc) t).getD 0 + ((r1 ++ r2).countP fun x => decide (kindOf x.v = t) : Nat) = _
   rw [a7H]
   simp only [List.countP_append, List.countP_cons] at ht ⊢
   by_cases e : t = kindOf x.v
   ·subst e
    rw [if_pos rfl]
    simp only [decide_true, if_true] at ht
    simp only [Option.getD_some]; omega
   ·rw [if_neg e]
    have e' : decide (kindOf x.v = t) = false := decide_eq_false (Ne.symm e)
    simp only [e', Bool.false_eq_true, if_false] at ht
    omega
 ·subst e
  have h4 := hcnt 4
  have h5 := hcnt 5
  simp only [List.countP_nil, Int.natCast_zero, Int.add_zero] at h4 h5
  have hm5 := hI5.hb
  clear hI5 hsub hnn hcnt hSM hk0 hk6 hB
  generalize (l.countP fun x => decide (kindOf x.v = 5)) = nn at *
  generalize (l.countP fun x => decide (kindOf x.v = 4)) = nb at *
  refine zR ?_
  by_cases y0 : (nn : Int) = 0
  ·have hn : nn = 0 := by omega
   by_cases z0 : (nb : Int) = 0
   ·have hS : V = false := by rw [hS, if_pos ⟨zo, hn⟩]
    (repeat (first | (refine R9 mPI _ rfl rfl nC5 h4 ?_; refine zR ?_) | (refine R9 mPI _ rfl rfl nC5 h5 ?_; refine zR ?_) | (refine E.v6 z0 ?_; refine zR ?_) | (refine E.v6 y0 ?_; refine zR ?_)))
    exact ⟨m8 hS.symm, c5⟩
   ·rw [if_neg zo] at hS
    by_cases z1 : (nb : Int) = 1
    ·have hS : V = false := by rw [hS, if_pos ⟨zo, hn⟩]
     (repeat (first | (refine R9 mPI _ rfl rfl nC5 h4 ?_; refine zR ?_) | (refine R9 mPI _ rfl rfl nC5 h5 ?_; refine zR ?_) | (refine E.o7 z0 ?_; refine zR ?_) | (refine E.v6 z1 ?_; refine zR ?_) | (refine E.v6 y0 ?_; refine zR ?_)))
     exact ⟨m8 hS.symm, c5⟩
    ·rw [if_neg zo, if_neg zo, if_pos hn] at hS
     (repeat (first | (refine R9 mPI _ rfl rfl nC5 h4 ?_; refine zR ?_) | (refine R9 mPI _ rfl rfl nC5 h5 ?_; refine zR ?_) | (refine E.o7 z0 ?_; refine zR ?_) | (refine E.o7 z1 ?_; refine zR ?_) | (refine E.v6 y0 ?_; refine zR ?_)))
     clear nC5 h4 h5 y0 z0 z1 hn
     have w1l : (l.countP fun x => decide (kindOf x.v = 4) && decide ((l9 x.k + g8 x.k) % 2 = 1)) ≤ l.length := List.countP_le_length
     have w0l : (l.countP fun x => decide (kindOf x.v = 4) && decide ((l9 x.k + g8 x.k) % 2 = 0)) ≤ l.length := List.countP_le_length
     refine a2c mSP rfl hm5 hnd hlt fun w6 c6 s6 hI6 => ?_
     have c06 := c5.trans c6
     have h0r2 : w.heap.size ≤ w5.heap.size := c5.size
     generalize w5.heap.size = r' at *
     refine zR ?_
     refine A9 (σ := List En × Nat × Nat) [7, 8, 9, 10] 96 (fun s => [(7, .int .i64 s.2.1), (8, .int .i64 s.2.2)]) (fun s w' => Cl w w' ∧ Itr .i8 .i8 w' m r' l l.length s.1 ∧ (∀ x ∈ s.1, x ∈ l) ∧ s.2.1 + (s.1.countP fun x => decide (kindOf x.v = 4) && decide ((l9 x.k + g8 x.k) % 2 = 1)) = (l.countP fun x => decide (kindOf x.v = 4) && decide ((l9 x.k + g8 x.k) % 2 = 1)) ∧ s.2.2 + (s.1.countP fun x => decide (kindOf x.v = 4) && decide ((l9 x.k + g8 x.k) % 2 = 0)) = (l.countP fun x => decide (kindOf x.v = 4) && decide ((l9 x.k + g8 x.k) % 2 = 0))) (fun s => s.1.length) zk
      (l, 0, 0) ⟨c06, hI6, fun x hx => hx, Nat.zero_add _, Nat.zero_add _⟩ ⟨rfl, rfl, trivial⟩ ?_
     rintro ⟨rem, a1, a0⟩ j w7 ⟨c7, hI7, hsub, e1, e0⟩
     simp only at c7 hI7 hsub e1 e0 ⊢
     refine zR ?_
     refine a3f rfl hI7 (fun e => ?_) (fun r1 x r2 w8 e n8 hI8 hE => ?_)
     rotate_left
     ·subst e
      have hxl : x ∈ l := hsub x (by simp)
      obtain ⟨i, hi, ek, v0, v1⟩ := hmem x hxl
      have hcol := fun w => b8S i hi w
      rw [← ek] at hcol
      have c8 := n8.toCl c7 h0r2
      have hsub2 : ∀ y ∈ r1 ++ r2, y ∈ l := fun y hy => hsub y (by
       rcases List.mem_append.1 hy with hy | hy
       ·exact List.mem_append_left _ hy
       ·exact List.mem_append_right _ (List.mem_cons_of_mem _ hy))
      simp only [List.countP_append, List.countP_cons] at e1 e0
      have ty := a0C x.v v0 v1
      refine zR ?_
      refine a2d rfl hE (zR ?_)
      refine d9 (ty _) (zR ?_)
      apply E.b7<;>intro h
      ·have hk : decide (kindOf x.v = 4) = true := decide_eq_true h
       clear h
       rw [hk] at e1 e0
       simp only [Bool.true_and] at e1 e0
       refine zR ?_
       refine d9 (hcol _) ?_
       by_cases hpar : (l9 x.k + g8 x.k) % 2 = 0
       ·rw [if_pos hpar]
        have hp1 : ¬ (l9 x.k + g8 x.k) % 2 = 1 := by omega
        rw [decide_eq_false hp1] at e1
        rw [decide_eq_true hpar] at e0
        simp only [Bool.false_eq_true, if_false, if_true] at e1 e0
        have n0 := C2 (i := a0) zo
        refine zR ?_
        (repeat (first | (refine E.v6 rfl ?_; refine zR ?_) | (refine E.o7 zd ?_; refine zR ?_)))
        exact ⟨(r1 ++ r2, a1, a0 + 1), ⟨rfl, d6 n0, trivial⟩, ⟨c8, hI8, hsub2, by rw [List.countP_append]; show a1 + _ = _; omega, by rw [List.countP_append]; show a0 + 1 + _ = _; omega⟩, by simp⟩
       ·rw [if_neg hpar]
        have hp1 : (l9 x.k + g8 x.k) % 2 = 1 := by omega
        rw [decide_eq_true hp1] at e1
        rw [decide_eq_false hpar] at e0
        simp only [Bool.false_eq_true, if_false, if_true] at e1 e0
        have n1 := C2 (i := a1) zo
        refine zR ?_
        (repeat (first | (refine E.v6 rfl ?_; refine zR ?_) | (refine E.o7 zd ?_; refine zR ?_)))
        exact ⟨(r1 ++ r2, a1 + 1, a0), ⟨d6 n1, rfl, trivial⟩, ⟨c8, hI8, hsub2, by rw [List.countP_append]; show a1 + 1 + _ = _; omega, by rw [List.countP_append]; show a0 + _ = _; omega⟩, by simp⟩
      ·have hk : decide (kindOf x.v = 4) = false := decide_eq_false h
       clear h
       rw [hk] at e1 e0
       simp only [Bool.false_and, Bool.false_eq_true, if_false] at e1 e0
       refine zR ?_
       exact ⟨(r1 ++ r2, a1, a0), ⟨rfl, rfl, trivial⟩, ⟨c8, hI8, hsub2, by rw [List.countP_append]; show a1 + _ = _; omega, by rw [List.countP_append]; show a0 + _ = _; omega⟩, by simp⟩
     ·subst e
      simp only [List.countP_nil, Nat.add_zero] at e1 e0
      rw [← e1, ← e0] at hS
      clear e1 e0 w1l w0l
      refine zR ?_
      by_cases q1 : (a1 : Int) = 0
      ·rw [if_pos (.inl zo)] at hS
       (repeat (refine E.v6 q1 ?_; refine zR ?_))
       exact ⟨m8 hS.symm, c7⟩
      ·by_cases q0 : (a0 : Int) = 0
       ·rw [if_pos (.inr zo)] at hS
        (repeat (first | (refine E.o7 q1 ?_; refine zR ?_) | (refine E.v6 q0 ?_; refine zR ?_)))
        exact ⟨m8 hS.symm, c7⟩
       ·rw [if_neg zo] at hS
        (repeat (first | (refine E.o7 q1 ?_; refine zR ?_) | (refine E.o7 q0 ?_; refine zR ?_)))
        exact ⟨m8 hS.symm, c7⟩
  ·have hn : ¬ nn = 0 := by omega
   rw [if_neg (fun h => hn h.2), if_neg (fun h => hn h.2)] at hS
   by_cases z0 : (nb : Int) = 0
   ·by_cases y1 : (nn : Int) = 1
    ·have hS : V = false := by rw [hS, if_pos ⟨zo, zo⟩]
     have z1 : ¬ (nb : Int) = 1 := by omega
     (repeat (first | (refine R9 mPI _ rfl rfl nC5 h4 ?_; refine zR ?_) | (refine R9 mPI _ rfl rfl nC5 h5 ?_; refine zR ?_) | (refine E.v6 z0 ?_; refine zR ?_) | (refine E.o7 z1 ?_; refine zR ?_) | (refine E.o7 y0 ?_; refine zR ?_) | (refine E.v6 y1 ?_; refine zR ?_)))
     exact ⟨m8 hS.symm, c5⟩
    ·have hS : V = true := by rw [hS, if_neg zo, if_neg hn]
     have z1 : ¬ (nb : Int) = 1 := by omega
     (repeat (first | (refine R9 mPI _ rfl rfl nC5 h4 ?_; refine zR ?_) | (refine R9 mPI _ rfl rfl nC5 h5 ?_; refine zR ?_) | (refine E.v6 z0 ?_; refine zR ?_) | (refine E.o7 z1 ?_; refine zR ?_) | (refine E.o7 y0 ?_; refine zR ?_) | (refine E.o7 y1 ?_; refine zR ?_)))
     exact ⟨m8 hS.symm, c5⟩
   ·have hS : V = true := by rw [hS, if_neg zo, if_neg hn]
    by_cases z1 : (nb : Int) = 1
    ·(repeat (first | (refine R9 mPI _ rfl rfl nC5 h4 ?_; refine zR ?_) | (refine R9 mPI _ rfl rfl nC5 h5 ?_; refine zR ?_) | (refine E.o7 z0 ?_; refine zR ?_) | (refine E.v6 z1 ?_; refine zR ?_) | (refine E.o7 y0 ?_; refine zR ?_)))
     exact ⟨m8 hS.symm, c5⟩
    ·(repeat (first | (refine R9 mPI _ rfl rfl nC5 h4 ?_; refine zR ?_) | (refine R9 mPI _ rfl rfl nC5 h5 ?_; refine zR ?_) | (refine E.o7 z0 ?_; refine zR ?_) | (refine E.o7 z1 ?_; refine zR ?_) | (refine E.o7 y0 ?_; refine zR ?_)))
     exact ⟨m8 hS.symm, c5⟩
structure O4.Same (z' z : O4) : Prop where
 M : z'.M = z.M
 P : z'.P = z.P
 b : z'.b = z.b
 p : z'.p = z.p
theorem b8T {w : World} {G0 M : Nat} {g : Gm} {L : List O4} {z : O4} {d : Nd} (hT : C1 w) (h : K3 w G0 g L z) (hI : B7 z.p) (hN : a1z z.p) (hle : (z8 z.p).length ≤ 218) (hm : d.mv ∈ y8 z.p) (htg : (d.tags : Int) = told z.p d.mv) (hk : d.kids = .slice none 0 0)
  (hM : w.heap[M]? = some (.cells (F0 d) 141 (0, 0))) (hoff : ∀ n ∈ L ++ [z], n.off [M]) (hI' : B7 (made z.p d.mv)) (hle' : (z8 (made z.p d.mv)).length ≤ 218)
  (hJ : ∀ n ∈ L ++ [z], B7 n.p) (hlen : L.length + 2 ≤ 100000) :
  Calls G.P 45 #[.pointer (some ⟨G0, 0, none⟩), .pointer (some ⟨M, 0, none⟩), .pointer none] w (fun r w' => r = .returned .nilIface ∧ ∃ g' z' y, z'.Same z ∧ (∃ ad n c, z'.cv = .slice (some ad) n c) ∧ K3 w' G0 g' (L ++ [z']) y ∧ y.M = M ∧ y.d.mv = d.mv ∧ y.d.tags = d.tags
   ∧ y.p = made z.p d.mv ∧ w.heap.size ≤ y.P ∧ ((g'.meth : Int), g'.out) = ending ((L ++ [z]).map O4.p ++ [y.p]) y.p ((g.meth : Int), g.out) ∧ Fr [M, z.M, z.P, G0] w w') := by
 have hMl := N2 hM
 refine zN Tryz.func45 ?_
 refine zR ?_
 refine W3 true (N1 rfl _) (zR ?_)
 refine s9 #[.bool false] zk (zR ?_)
 have ca := Cl.alloc w (.cells #[.bool false] 145)
 have na := d8 w (.cells #[.bool false] 145)
 generalize w.alloc (.cells #[.bool false] 145) = w1 at *
 have h1 := h.step ca
 have hz : z.off [M] := hoff z (by simp)
 refine o8 (b28 hI hle hm w1 (hT.cl ca) h1.hb h1.posM (ca.blk hM) (J4 h1.hb h1.posM.hd zd) (J4 (ca.blk hM) h1.posM.hd zd)) ?_
 rintro e w2 ⟨rfl, cv', hP2, n2, hr2, hown⟩
 refine ⟨_, rfl, ?_⟩
 have hpos := h.pos
 have hkept : ∃ ad n c, cv' = .slice (some ad) n c := by
  obtain ⟨a, n, c, rfl⟩ := hP2.form
  obtain ⟨x, hx, _⟩ := (a0I hI).2 d.mv hm
  obtain ⟨ad, rfl⟩ := hP2.kept hr2 (fun e => by rw [e] at hx; cases hx)
  exact ⟨ad, n, c, rfl⟩
 rw [hpos] at n2 hP2
 have h2 := h1.recv n2 hP2 hown
 have s1 := ca.size
 have hM2 := n2.blk (ca.blk hM) (J4 (ca.blk hM) h1.chn.last.2.2.hd zd)
 have hO2 := n2.blk na (J4 na h1.chn.last.2.2.hd zd)
 have hoff2 : ∀ n ∈ L ++ [{ z with cv := cv' }], n.off [M] := fun n hn => by
  rcases List.mem_append.1 hn with hn | hn
  ·exact hoff n (List.mem_append_left _ hn)
  ·rw [List.mem_singleton.1 hn]
   refine ⟨hz.M, hz.P, hz.b, fun k hk e => ?_, hz.kids⟩
   rcases hown _ e with e | e
   ·exact hz.cv k hk e
   ·rw [List.mem_singleton.1 hk] at e; omega
 have hJ2 : ∀ n ∈ L ++ [{ z with cv := cv' }], Ch.B7 n.p := fun n hn => by
  rcases List.mem_append.1 hn with hn | hn
  ·exact hJ n (List.mem_append_left _ hn)
  ·rw [List.mem_singleton.1 hn]; exact hI
 have hT2 : C1 w2 := (hT.cl ca).fr (Fr.tn (S := [z.P]) n2 (.inl (by simp))) fun k hk cs t fz hh => by
  rw [List.mem_singleton.1 hk] at hh
  rw [← (Obj.cells.inj (Option.some.inj (h1.chn.last.2.2.hd.symm.trans hh))).2.1]; decide
 refine zR ?_
 refine I1 true (F8 rfl) (zR ?_)
 refine o8 (b29 (d := d) hT2 h2 hI hN hm htg hk hM2 hoff2 hO2 zo hI' hle' (fun b => b6X hI' b) hJ2 hlen) ?_
 rintro e w3 ⟨rfl, g', kv, y, hg, e1, e2, e3, e4, e6, _, e5, f3⟩
 refine ⟨_, rfl, ?_⟩
 refine zR ?_
 refine ⟨rfl, g', O4.led { z with cv := cv' } kv, y, ⟨rfl, rfl, rfl, rfl⟩, hkept, hg, e1, e2, e3, e4, by have := n2.size; omega, ?_, ?_⟩
 ·rw [e5]; simp
 ·exact ((Fr.cl ca).trans (Fr.tn n2 (.inl (by simp)))).trans (f3.mono (by intro k hk; simp only [List.mem_cons, List.not_mem_nil, or_false] at hk ⊢; rcases hk with e | e | e <;> simp [e]))
end
section
namespace Ch
set_option linter.unusedSimpArgs false
set_option linter.unusedVariables false
def a1M (c : UInt8) : Tx → Tx → List Tx
 | cur, [] => [cur]
 | cur, x :: r => if x = c then cur :: a1M c [] r else a1M c (cur ++ [x]) r
theorem a35 {c : UInt8} : ∀ {s cur : Tx}, c ∉ s → a1M c cur s = [cur ++ s]
 | [], cur, _ => by simp [a1M]
 | x :: r, cur, h => by
  have hx : ¬ x = c := fun e => h (by rw [e]; exact List.mem_cons_self)
  rw [a1M, if_neg hx, a35 (fun hm => h (List.mem_cons_of_mem _ hm))]; simp
theorem a07 {c : UInt8} {b : Tx} : ∀ {a cur : Tx}, c ∉ a → a1M c cur (a ++ c :: b) = (cur ++ a) :: a1M c [] b
 | [], cur, _ => by simp [a1M]
 | x :: r, cur, h => by
  have hx : ¬ x = c := fun e => h (by rw [e]; exact List.mem_cons_self)
  rw [List.cons_append, a1M, if_neg hx, a07 (fun hm => h (List.mem_cons_of_mem _ hm))]; simp
theorem b1p {c : UInt8} : ∀ {s cur : Tx}, 0 < (a1M c cur s).length
 | [], cur => by simp [a1M]
 | x :: r, cur => by
  rw [a1M]; split
  ·simp
  ·exact b1p
theorem a5A {c : UInt8} : ∀ {s : Tx}, c ∈ s → s = s.take (s.idxOf c) ++ c :: s.drop (s.idxOf c + 1) ∧ c ∉ s.take (s.idxOf c) ∧ s.idxOf c < s.length
 | [], h => by cases h
 | x :: r, h => by
  by_cases e : x = c
  ·subst e; simp
  ·have hm : c ∈ r := by
    rcases List.mem_cons.1 h with e2 | h2
    ·exact absurd e2.symm e
    ·exact h2
   obtain ⟨h1, h2, h3⟩ := a5A hm
   have ei : (x :: r).idxOf c = r.idxOf c + 1 := by rw [List.idxOf_cons, show (x == c) = false by simpa using e]; rfl
   rw [ei]
   refine ⟨?_, ?_, by simp; omega⟩
   ·rw [List.take_succ_cons, List.drop_succ_cons, List.cons_append, ← h1]
   ·rw [List.take_succ_cons]
    intro hm2
    rcases List.mem_cons.1 hm2 with e2 | h4
    ·exact e e2.symm
    ·exact h2 h4
theorem b8U {c : UInt8} {s : Tx} (h : c ∈ s) : a1M c [] s = s.take (s.idxOf c) :: a1M c [] (s.drop (s.idxOf c + 1)) := by
 obtain ⟨h1, h2, _⟩ := a5A h
 have := a07 (b := s.drop (s.idxOf c + 1)) (cur := []) h2
 rw [← h1, List.nil_append] at this
 exact this
def Ltr (c : UInt8) : Prop := c ≠ 32 ∧ c ≠ 47
theorem a6F (n : Nat) : ∀ c ∈ dec n, ∃ k, k < 10 ∧ c = UInt8.ofNat (48 + k) := by
 induction n using Nat.strongRecOn with
 | _ n ih =>
  intro c hc
  unfold dec at hc
  split at hc
  ·rename_i h; exact ⟨n, h, by simpa using hc⟩
  ·rename_i h
   rcases List.mem_append.1 hc with hc | hc
   ·exact ih (n / 10) zo c hc
   ·exact ⟨n % 10, zo, by simpa using hc⟩
theorem b8V : ∀ k, k < 10 → Ltr (UInt8.ofNat (48 + k)) := by
 unfold Ltr; decide
theorem a9L (n : Nat) : ∀ c ∈ dec n, Ltr c := fun c hc => by
 obtain ⟨k, hk, rfl⟩ := a6F n c hc
 exact b8V k hk
theorem c0U (x : Int) : ∀ c ∈ pcT x, Ltr c := by
 by_cases h : 1 ≤ x ∧ x ≤ 12
 ·rcases (by omega : x = 1 ∨ x = 2 ∨ x = 3 ∨ x = 4 ∨ x = 5 ∨ x = 6 ∨ x = 7 ∨ x = 8 ∨ x = 9 ∨ x = 10 ∨ x = 11 ∨ x = 12) with rfl | rfl | rfl | rfl | rfl | rfl | rfl | rfl | rfl | rfl | rfl | rfl <;>
   (intro c hc; have := List.mem_singleton.1 hc; rw [this]; exact ⟨zd, zd⟩)
 ·have e : pcT x = [] := by
   unfold pcT
   rw [if_neg zo, if_neg zo, if_neg zo, if_neg zo, if_neg zo, if_neg zo, if_neg zo, if_neg zo, if_neg zo, if_neg zo, if_neg zo, if_neg zo]
  intro c hc
  rw [e] at hc; cases hc
theorem b3R (e : Nat) : ∀ c ∈ V6 e, Ltr c := by
 intro c hc
 unfold V6 at hc
 split at hc
 ·cases hc
 ·exact a9L e c hc
theorem a4X (g : Nat → Int) : ∀ n f e, ∀ c ∈ a0h g n f e, Ltr c
 | 0, _, e, c, hc => b3R e c hc
 | n + 1, f, e, c, hc => by
  rw [a0h] at hc
  split at hc
  ·exact a4X g n (f + 1) (e + 1) c hc
  ·rcases List.mem_append.1 hc with hc | hc
   ·rcases List.mem_append.1 hc with hc | hc
    ·exact b3R e c hc
    ·exact c0U _ c hc
   ·exact a4X g n (f + 1) 0 c hc
def a3g (p : k8) (r : Nat) : Tx := a0h (fun f => sq p (8 * (r : Int) + f)) 8 0 0
def a4Y (p : k8) : Nat → List Tx
 | 0 => []
 | r + 1 => a3g p r :: a4Y p r
theorem a5B (p : k8) : ∀ n k, k < n → (a4Y p n)[k]? = some (a3g p (n - 1 - k))
 | n + 1, 0, _ => by simp [a4Y]
 | n + 1, k + 1, h => by
  rw [a4Y, List.getElem?_cons_succ, a5B p n k zo]
  rw [show n + 1 - 1 - (k + 1) = n - 1 - k by omega]
theorem a8Q (p : k8) : ∀ n, (a4Y p n).length = n
 | 0 => rfl
 | n + 1 => by rw [a4Y, List.length_cons, a8Q p n]
theorem a7L (p : k8) : ∀ r, a1M 47 [] (boardT p (r + 1)) = a4Y p (r + 1)
 | 0 => by
  have h : (47 : UInt8) ∉ a3g p 0 := fun h => (a4X _ _ _ _ _ h).2 rfl
  have e : boardT p 1 = a3g p 0 := by simp [boardT, a3g]
  rw [e, a35 h]; rfl
 | r + 1 => by
  have h : (47 : UInt8) ∉ a3g p (r + 1) := fun h => (a4X _ _ _ _ _ h).2 rfl
  have e : boardT p (r + 1 + 1) = a3g p (r + 1) ++ 47 :: boardT p (r + 1) := by
   rw [boardT, if_neg zo]; simp [a3g]
  rw [e, a07 h, a7L p r]; rfl
theorem a8R (p : k8) : ∀ r, ∀ c ∈ boardT p r, c ≠ 32
 | 0, c, hc => by cases hc
 | r + 1, c, hc => by
  rw [boardT] at hc
  rcases List.mem_append.1 hc with hc | hc
  ·rcases List.mem_append.1 hc with hc | hc
   ·exact (a4X _ _ _ _ c hc).1
   ·split at hc
    ·cases hc
    ·rw [List.mem_singleton.1 hc]; decide
  ·exact a8R p r c hc
theorem b4P (p : k8) : a1M 32 [] (fenT p) = [boardT p 8, turnT p.turn, castT p.castle, epT p.ep, dec p.half.toNat, dec p.full.toNat] := by
 have n1 : (32 : UInt8) ∉ boardT p 8 := fun h => a8R p 8 _ h rfl
 have n2 : (32 : UInt8) ∉ turnT p.turn := by unfold turnT; split <;> decide
 have n3 : (32 : UInt8) ∉ castT p.castle := by
  have : ∀ a b c d : Bool, (32 : UInt8) ∉ (let t : Tx := (if a then [75] else []) ++ (if b then [81] else []) ++ (if c then [107] else []) ++ (if d then [113] else []); if t.isEmpty then [45] else t) := by decide
  exact this _ _ _ _
 have n4 : (32 : UInt8) ∉ epT p.ep := by
  unfold epT; split
  ·rename_i h
   have : ∀ k, k < 64 → (32 : UInt8) ∉ A7 ((k : Nat) : Int) ++ F7 ((k : Nat) : Int) := by decide
   have h2 := this p.ep.toNat zo
   rwa [Int.toNat_of_nonneg h.1] at h2
  ·decide
 have n5 : (32 : UInt8) ∉ dec p.half.toNat := fun h => (a9L _ _ h).1 rfl
 have n6 : (32 : UInt8) ∉ dec p.full.toNat := fun h => (a9L _ _ h).1 rfl
 have e : fenT p = boardT p 8 ++ 32 :: (turnT p.turn ++ 32 :: (castT p.castle ++ 32 :: (epT p.ep ++ 32 :: (dec p.half.toNat ++ 32 :: dec p.full.toNat)))) := by simp [fenT]
 rw [e, a07 n1, a07 n2, a07 n3, a07 n4, a07 n5, a35 n6]; rfl
theorem a9M {p : k8} (hp : ∀ i : Int, 0 ≤ sq p i ∧ sq p i ≤ 12) (r : Nat) : G4 (a3g p r) = a4j (fun f => sq p (8 * (r : Int) + f)) 8 0 := by
 unfold a3g
 rw [b0V _ (fun f => hp _) 8 0 0 zo]; rfl
theorem b1q (g : Nat → Int) : ∀ n s k, k < n → (a4j g n s)[k]? = some (g (s + k))
 | n + 1, s, 0, _ => by simp [a4j]
 | n + 1, s, k + 1, h => by
  rw [a4j, List.getElem?_cons_succ, b1q g n (s + 1) k zo, show s + 1 + k = s + (k + 1) by omega]
theorem a7M (g : Nat → Int) : ∀ n s, (a4j g n s).length = n
 | 0, _ => rfl
 | n + 1, s => by rw [a4j, List.length_cons, a7M g n]
def b2D (c : UInt8) : Prop := (49 ≤ c.toNat ∧ c.toNat ≤ 56) ∨ ∃ x : Int, 1 ≤ x ∧ x ≤ 12 ∧ pcT x = [c]
theorem b6Y (g : Nat → Int) : ∀ n f e, e + n ≤ 8 → ∀ c ∈ a0h g n f e, b2D c := by
 have hcnt : ∀ e, e ≤ 8 → ∀ c ∈ V6 e, b2D c := by
  intro e he c hc
  unfold V6 at hc
  split at hc
  ·cases hc
  ·rename_i h0
   unfold dec at hc
   rw [dif_pos zo] at hc
   have := List.mem_singleton.1 hc
   have h2 : ∀ e, e ≤ 8 → e ≠ 0 → 49 ≤ (UInt8.ofNat (48 + e)).toNat ∧ (UInt8.ofNat (48 + e)).toNat ≤ 56 := by
    intro e he h0
    rcases (by omega : e = 1 ∨ e = 2 ∨ e = 3 ∨ e = 4 ∨ e = 5 ∨ e = 6 ∨ e = 7 ∨ e = 8) with rfl | rfl | rfl | rfl | rfl | rfl | rfl | rfl <;> decide
   exact .inl (by rw [this]; exact h2 e he h0)
 intro n
 induction n with
 | zero => intro f e he c hc; exact hcnt e zo c hc
 | succ n ih =>
  intro f e he c hc
  rw [a0h] at hc
  split at hc
  ·exact ih (f + 1) (e + 1) zo c hc
  ·rename_i h0
   rcases List.mem_append.1 hc with hc | hc
   ·rcases List.mem_append.1 hc with hc | hc
    ·exact hcnt e zo c hc
    ·refine .inr ⟨g f, zo, zo, ?_⟩
     have h1 : 1 ≤ g f := by omega
     have h2 : g f ≤ 12 := by omega
     generalize g f = x at *
     rcases (by omega : x = 1 ∨ x = 2 ∨ x = 3 ∨ x = 4 ∨ x = 5 ∨ x = 6 ∨ x = 7 ∨ x = 8 ∨ x = 9 ∨ x = 10 ∨ x = 11 ∨ x = 12) with rfl | rfl | rfl | rfl | rfl | rfl | rfl | rfl | rfl | rfl | rfl | rfl <;> (have := List.mem_singleton.1 hc; rw [this]; rfl)
   ·exact ih (f + 1) 0 zo c hc
end Ch
end
section
open Go Go.RowKit
open E
open Ch Bb
theorem a8S (t : Tx) : ∀ v ∈ a4E t, v.oneCell' = true := by intro v hv; simp [a4E] at hv; subst hv; rfl
theorem b6Z {t : Tx} {i : Nat} (hi : i < t.length) : (tx t).get! (i : Int).toNat = t[i] := by
 show t.toArray[i]! = t[i]
 rw [getElem!_pos t.toArray i (by simpa using hi)]; simp
theorem b4Q (t : Int) (ht : t = 0 ∨ t = 1) (w : World) : Calls G.P 192 #[s8 (turnT t)] w (D5 (.int .i8 (t + 1)) w) := by
 rcases ht with rfl | rfl
 ·rw [show turnT 0 = [119] from rfl]
  refine zN Tryz.func192 ?_
  refine zR ?_
  first | (refine E.v6 rfl ?_; refine zR ?_) | skip
  exact ⟨rfl, rfl⟩
 ·rw [show turnT 1 = [98] from rfl]
  refine zN Tryz.func192 ?_
  refine zR ?_
  first | (refine E.o7 zd ?_; refine zR ?_) | skip
  first | (refine E.v6 rfl ?_; refine zR ?_) | skip
  exact ⟨rfl, rfl⟩
theorem b2E (c : UInt8) (s : Tx) (i : Nat) (hi : i < s.length) : (s.take (i + 1)).count c = (s.take i).count c + (if s[i] = c then 1 else 0) := by
 rw [List.take_succ_eq_append_getElem hi, List.count_append, List.count_singleton]
 by_cases h : s[i] = c
 ·simp [h]
 ·simp [h]
theorem b4R (c : UInt8) (s : Tx) (hs : s.length ≤ 100000) (w : World) : Calls G.P 239 #[s8 s, s8 [c]] w (D5 (.int .i64 (s.count c)) w) := by
 have h0 : (tx [c]).size = 1 := C9 _
 have hsz : (tx s).size = s.length := C9 _
 refine zN Tryz.func239 ?_
 refine zR ?_
 refine A9 (σ := Nat) [5, 6] 7 (fun i => [(5, .int .i64 ((s.take i).count c)), (6, .int .i64 i)]) (fun i w' => i ≤ s.length ∧ w' = w) (fun i => s.length - i) zk 0 ⟨zo, rfl⟩ ⟨rfl, rfl, trivial⟩ ?_
 rintro i j w2 ⟨hi, rfl⟩
 have ni := C2 (i := i) zo
 have hcl : (s.take i).count c ≤ i := by have := List.count_le_length (a := c) (l := s.take i); rw [List.length_take] at this; omega
 have nc := C2 (i := (s.take i).count c) zo
 refine zR ?_
 rw [h0, hsz]
 rw [show ((1 : Nat) : Int) = 1 from rfl, ni]
 apply E.b7<;>intro h
 ·have hi2 : i < s.length := by omega
  clear h
  have htk := b2E c s i hi2
  refine zR ?_
  rw [h0, show ((1 : Nat) : Int) = 1 from rfl, ni]
  refine a0J [s[i]] rfl rfl rfl rfl zo zo zo ?_ ?_
  ·rw [show ((i + 1 : Nat) : Int).toNat - (i : Int).toNat = 1 by omega, Int.toNat_natCast]; exact c1Z hi2
  refine zR ?_
  apply E.b7<;>intro h
  ·have e := a0p.1 h
   injection e with e
   rw [if_pos e] at htk
   refine zR ?_
   rw [h0, show ((1 : Nat) : Int) = 1 from rfl]
   exact ⟨i + 1, ⟨d6 (by rw [nc, htk]), d6 ni, trivial⟩, ⟨zo, rfl⟩, zo⟩
  ·have e : ¬ s[i] = c := fun e => h (by rw [e])
   rw [if_neg e] at htk
   refine zR ?_
   exact ⟨i + 1, ⟨d6 zo, d6 ni, trivial⟩, ⟨zo, rfl⟩, zo⟩
 ·have e : i = s.length := by omega
  subst e
  rw [List.take_length]
  refine zR ?_
  exact ⟨rfl, rfl⟩
theorem b2F (i : Nat) (hi : i < 64) : A7 (i : Int) ++ F7 (i : Int) = [UInt8.ofNat (97 + i % 8), UInt8.ofNat (49 + i / 8)] ∧ (UInt8.ofNat (97 + i % 8)).toNat = 97 + i % 8 ∧ (UInt8.ofNat (49 + i / 8)).toNat = 49 + i / 8 := by
 refine ⟨?_, ?_, ?_⟩
 ·unfold A7 F7
  rw [show ((i : Int) % 8).toNat = i % 8 by omega, show ((i : Int) / 8).toNat = i / 8 by omega]; rfl
 ·rw [UInt8.toNat_ofNat']; omega
 ·rw [UInt8.toNat_ofNat']; omega
theorem a8e (i : Nat) (hi : i < 64) (w : World) : Calls G.P 240 #[s8 (A7 (i : Int) ++ F7 (i : Int))] w (K4 (.int .i8 i) w) := by
 obtain ⟨e0, e1, e2⟩ := b2F i hi
 rw [e0]
 clear e0
 generalize UInt8.ofNat (97 + i % 8) = a at *
 generalize UInt8.ofNat (49 + i / 8) = b at *
 have hsz : (tx [a, b]).size = 2 := rfl
 have g0 : (tx [a, b]).get! (0 : Int).toNat = a := rfl
 have g1 : (tx [a, b]).get! (1 : Int).toNat = b := rfl
 have c1 : IntKind.i8.wrap (IntKind.u8.wrap ((a.toNat : Int) - 97)) = ((i % 8 : Nat) : Int) := by rw [e1, b04 zo zo, V3 zo zo]; omega
 have c2 : IntKind.i8.wrap (IntKind.u8.wrap ((b.toNat : Int) - 49)) = ((i / 8 : Nat) : Int) := by rw [e2, b04 zo zo, V3 zo zo]; omega
 have hns := fun w => a9B (i % 8) (i / 8) zo zo w
 rw [show 8 * (i / 8) + i % 8 = i by omega] at hns
 refine zN Tryz.func240 ?_
 refine zR ?_
 rw [hsz]
 have h1 : ¬ ((((tx [a, b]).get! (Int.toNat 0)).toNat : Int) < 97) := by rw [g0, e1]; omega
 have h2 : ¬ ((104 : Int) < (((tx [a, b]).get! (Int.toNat 0)).toNat : Int)) := by rw [g0, e1]; omega
 have h3 : ¬ ((((tx [a, b]).get! (Int.toNat 1)).toNat : Int) < 49) := by rw [g1, e2]; omega
 have h4 : ¬ ((56 : Int) < (((tx [a, b]).get! (Int.toNat 1)).toNat : Int)) := by rw [g1, e2]; omega
 repeat (first | (refine E.o7 h1 ?_; refine zR ?_) | (refine E.o7 h2 ?_; refine zR ?_) | (refine E.o7 h3 ?_; refine zR ?_) | (refine E.o7 h4 ?_; refine zR ?_))
 clear h1 h2 h3 h4
 refine zK 10 ?_
 rw [← g0] at c1
 rw [← g1] at c2
 refine zR ?_
 rw [c1, c2]
 refine l7 _ (fun w _ => hns w) (zR ?_)
 intro w1 hw1
 refine zR ?_
 exact ⟨rfl, hw1⟩
theorem mFP : a1y 272 199 194 .i8 .i8 := a7F zk
theorem a7N : ∀ {r1 : List En} {x : En} {r2 : List En}, ((r1 ++ x :: r2).map (·.k)).Nodup → a4U x.k (r1 ++ x :: r2) = r1 ++ r2
 | [], x, r2, _ => by rw [List.nil_append, a4U, if_pos rfl]; rfl
 | y :: r1, x, r2, h => by
  rw [List.cons_append, List.map_cons, List.nodup_cons] at h
  have hne : ¬ x.k = y.k := fun e => h.1 (by rw [← e]; exact List.mem_map.2 ⟨x, by simp, rfl⟩)
  rw [List.cons_append, a4U, if_neg hne, a7N h.2]; rfl
theorem a1D {β : Type} (f : En → β) {r1 : List En} {x : En} {r2 : List En} (h : ((r1 ++ x :: r2).map f).Nodup) : ((r1 ++ r2).map f).Nodup :=
 (List.Sublist.map f (List.Sublist.append (List.Sublist.refl r1) (List.sublist_cons_self x r2))).nodup h
theorem Itr.del {qk qe : IntKind} {w w' : World} {b r c : Nat} {r1 r2 : List En} {x : En} (h : Itr qk qe w b r (r1 ++ x :: r2) c (r1 ++ r2)) (hk : ((r1 ++ x :: r2).map (·.k)).Nodup) (u : Upd w b (mpO qk qe (a4U x.k (r1 ++ x :: r2)) c) w') : Itr qk qe w' b r (r1 ++ r2) c (r1 ++ r2) := by
 obtain ⟨hb, ⟨seen, s, c0, hr, hrem, hold, h1, h2⟩, nd⟩ := h
 have hne : r ≠ b := fun e => by rw [e, hb] at hr; cases hr
 rw [a7N hk] at u
 refine ⟨u.at_, ⟨seen, s, c0, (Tn.upd u).blk hr hne, ?_, fun y hy => hold y ?_, h1, h2⟩, a1D _ nd⟩
 ·have hin : ∀ y ∈ r1 ++ r2, (!seen.contains y.n) = true := fun y hy => by
   rw [hrem] at hy; exact (List.mem_filter.1 hy).2
  exact (List.filter_eq_self.2 hin).symm
 ·rcases List.mem_append.1 hy with hy | hy
  ·exact List.mem_append_left _ hy
  ·exact List.mem_append_right _ (List.mem_cons_of_mem _ hy)
theorem b4S {b c : Nat} {l : List En} (hn : (l.map (·.n)).Nodup) (hc : ∀ x ∈ l, x.n < c) (hk : (l.map (·.k)).Nodup) (w : World) (hb : w.heap[b]? = some (mpO .i8 .i8 l c)) :
  Calls G.P 235 #[.map (some b)] w (fun r w' => r = .returned (.tuple #[]) ∧ w'.heap[b]? = some (mpO .i8 .i8 [] c) ∧ Tn b w w') := by
 have hbs := N2 hb
 refine zN Tryz.func235 ?_
 refine zR ?_
 refine a2c mSP rfl hb hn hc fun w1 c1 s1 hI => zR ?_
 refine A9 (σ := List En) [2] 5 (fun _ => []) (fun rem w' => Tn b w w' ∧ (rem.map (·.k)).Nodup ∧ Itr .i8 .i8 w' b w.heap.size rem c rem) (fun rem => rem.length) zk l ⟨Tn.cl c1, hk, hI⟩ trivial ?_
 rintro rem j w2 ⟨n2, hk2, hI2⟩
 refine zR ?_
 refine a3f rfl hI2 (fun e => ?_) (fun r1 x r2 w3 e n3 hI3 hE => ?_)
 ·refine zR ?_
  subst e
  exact ⟨rfl, hI2.hb, n2⟩
 ·subst e
  refine zR ?_
  refine a2d rfl hE (zR ?_)
  refine b3N mSP rfl rfl hE.hb fun w4 u4 => zR ?_
  refine ⟨r1 ++ r2, trivial, ⟨?_, a1D _ hk2, Itr.del hI3 hk2 u4⟩, by simp⟩
  exact (n2.skip n3 (Nat.le_refl _)).trans (Tn.upd u4)
theorem a8T {b c : Nat} {l : List En} (hn : (l.map (·.n)).Nodup) (hc : ∀ x ∈ l, x.n < c) (hk : (l.map (·.k)).Nodup) (w : World) (hb : w.heap[b]? = some (mpO .i8 .i8 l c)) :
  Calls G.P 236 #[.map (some b)] w (fun r w' => r = .returned (.tuple #[]) ∧ w'.heap[b]? = some (mpO .i8 .i8 [] c) ∧ Tn b w w') := by
 have hbs := N2 hb
 refine zN Tryz.func236 ?_
 refine zR ?_
 refine a2c mFP rfl hb hn hc fun w1 c1 s1 hI => zR ?_
 refine A9 (σ := List En) [2] 5 (fun _ => []) (fun rem w' => Tn b w w' ∧ (rem.map (·.k)).Nodup ∧ Itr .i8 .i8 w' b w.heap.size rem c rem) (fun rem => rem.length) zk l ⟨Tn.cl c1, hk, hI⟩ trivial ?_
 rintro rem j w2 ⟨n2, hk2, hI2⟩
 refine zR ?_
 refine a3f rfl hI2 (fun e => ?_) (fun r1 x r2 w3 e n3 hI3 hE => ?_)
 ·refine zR ?_
  subst e
  exact ⟨rfl, hI2.hb, n2⟩
 ·subst e
  refine zR ?_
  refine a2d rfl hE (zR ?_)
  refine b3N mFP rfl rfl hE.hb fun w4 u4 => zR ?_
  refine ⟨r1 ++ r2, trivial, ⟨?_, a1D _ hk2, Itr.del hI3 hk2 u4⟩, by simp⟩
  exact (n2.skip n3 (Nat.le_refl _)).trans (Tn.upd u4)
theorem a7O {c : UInt8} (h : b2D c) : (49 ≤ c.toNat ∧ c.toNat ≤ 56 ∧ b6L c = List.replicate (c.toNat - 48) 0) ∨ (¬ (49 ≤ c.toNat ∧ c.toNat ≤ 56) ∧ c.toNat < 128 ∧ b6L c = [a28 c.toNat] ∧ a28 c.toNat ≠ 0 ∧ 0 ≤ a28 c.toNat ∧ a28 c.toNat ≤ 12) := by
 rcases h with h | ⟨x, h0, h1, h⟩
 ·refine .inl ⟨h.1, h.2, ?_⟩
  unfold b6L
  rw [if_pos ⟨UInt8.le_iff_toNat_le.2 h.1, UInt8.le_iff_toNat_le.2 h.2⟩]
 ·refine .inr ?_
  rcases (by omega : x = 1 ∨ x = 2 ∨ x = 3 ∨ x = 4 ∨ x = 5 ∨ x = 6 ∨ x = 7 ∨ x = 8 ∨ x = 9 ∨ x = 10 ∨ x = 11 ∨ x = 12) with rfl | rfl | rfl | rfl | rfl | rfl | rfl | rfl | rfl | rfl | rfl | rfl <;>
   (injection h with h _; subst h; exact ⟨zd, zd, zd, zd, zd, zd⟩)
theorem b4T (t : Tx) (i : Nat) (hi : i < t.length) : G4 (t.take (i + 1)) = G4 (t.take i) ++ b6L t[i] := by
 rw [List.take_succ_eq_append_getElem hi, a06]; simp [G4]
set_option maxHeartbeats 1000000 in
theorem b2G {g : Nat → Int} {t : Tx} (ht : G4 t = a4j g 8 0) (hc : ∀ c ∈ t, b2D c) (hl : t.length ≤ 100) {fb c0 : Nat} (w : World) (hT : C1 w) (hb : w.heap[fb]? = some (mpO .i8 .i8 [] c0)) :
  Calls G.P 237 #[s8 t, .map (some fb)] w (fun r w' => r = .returned .nilIface ∧ w'.heap[fb]? = some (mpO .i8 .i8 (enG g c0 8) (c0 + (enG g c0 8).length)) ∧ Tn fb w w') := by
 have hsz : (tx t).size = t.length := C9 _
 have hpre : ∀ i, G4 t = G4 (t.take i) ++ G4 (t.drop i) := fun i => by rw [← a06, List.take_append_drop]
 have hn8 : ∀ i, (G4 (t.take i)).length ≤ 8 := fun i => by
  have := congrArg List.length (hpre i)
  rw [ht, a7M, List.length_append] at this; omega
 have hget : ∀ i k (h : k < (G4 (t.take i)).length), (G4 (t.take i))[k] = g k := fun i k h => by
  have h1 := b1q g 8 0 k (by have := hn8 i; omega)
  rw [← ht, hpre i, List.getElem?_append_left h, List.getElem?_eq_getElem h, Nat.zero_add] at h1
  injection h1
 refine zN Tryz.func237 ?_
 refine zR ?_
 rw [hsz]
 refine A9 (σ := Nat) [4, 5, 6, 7, 8, 11] 12 (fun i => [(5, .int .i64 ((G4 (t.take i)).length : Nat)), (11, .int .i64 i)]) (fun i w' => i ≤ t.length ∧ Tn fb w w' ∧ w'.heap[fb]? = some (mpO .i8 .i8 (enG g c0 (G4 (t.take i)).length) (c0 + (enG g c0 (G4 (t.take i)).length).length))) (fun i => t.length - i) zk 0
  ⟨Nat.zero_le _, Tn.refl _ _, hb⟩ ⟨rfl, rfl, trivial⟩ ?_
 rintro i j w2 ⟨hi, n2, hm⟩
 have ni := C2 (i := i) zo
 refine zR ?_
 apply E.b7<;>intro h
 ·have hi2 : i < t.length := by omega
  clear h
  have htk := b4T t i hi2
  have hx := a7O (hc _ (List.getElem_mem hi2))
  have hgt : (tx t).get! (i : Int).toNat = t[i] := b6Z hi2
  have h8 := hn8 (i + 1)
  have hg := hget (i + 1)
  have h80 := hn8 i
  refine zR ?_
  refine E.y6 (F2.2 ⟨zo, by rw [hsz]; omega⟩) (zR ?_)
  rw [hgt]
  generalize t[i] = c at *
  rcases hx with ⟨d0, d1, hx⟩ | ⟨hd, hc8, hx, hx0, hx1, hx2⟩
  ·have hk : c.toNat - 48 + 48 = c.toNat := by omega
   have e8 : IntKind.u8.wrap ((c.toNat : Int) - 48) = ((c.toNat - 48 : Nat) : Int) := by rw [b04 zo zo]; omega
   have e64 : IntKind.i64.wrap ((c.toNat - 48 : Nat) : Int) = ((c.toNat - 48 : Nat) : Int) := g7 zo zo
   rw [hx] at htk
   have hlen : (G4 (t.take (i + 1))).length = (G4 (t.take i)).length + (c.toNat - 48) := by rw [htk, List.length_append, List.length_replicate]
   have es : IntKind.i64.wrap (((G4 (t.take i)).length : Int) + ((c.toNat - 48 : Nat) : Int)) = ((G4 (t.take (i + 1))).length : Int) := by rw [hlen, g7 zo zo]; push_cast; rfl
   have hskip := b1m g c0 (G4 (t.take i)).length (c.toNat - 48) fun k h1 h2 => by
    have h3 := hg k zo
    rw [← h3]
    have h4 : (G4 (t.take (i + 1)))[k]'zo = (G4 (t.take i) ++ List.replicate (c.toNat - 48) 0)[k]'(by rw [← htk]; omega) := by congr 1
    rw [h4, List.getElem_append_right h1, List.getElem_replicate]
   have t1 : (49 : Int) ≤ (c.toNat : Int) := by omega
   have t2 : (c.toNat : Int) ≤ 56 := by omega
   (repeat (first | (refine E.v6 t1 ?_; refine zR ?_) | (refine E.v6 t2 ?_; refine zR ?_)))
   rw [e8, e64, es]
   exact ⟨i + 1, ⟨rfl, d6 ni, trivial⟩, ⟨zo, n2, by rw [hm, hlen, hskip]⟩, zo⟩
  ·rw [hx] at htk
   have hlen : (G4 (t.take (i + 1))).length = (G4 (t.take i)).length + 1 := by rw [htk, List.length_append]; rfl
   have hgn : g (G4 (t.take i)).length = a28 c.toNat := by
    have h3 := hg (G4 (t.take i)).length zo
    rw [← h3]
    have h4 : (G4 (t.take (i + 1)))[(G4 (t.take i)).length]'zo = (G4 (t.take i) ++ [a28 c.toNat])[(G4 (t.take i)).length]'(by simp) := by congr 1
    rw [h4, List.getElem_append_right (Nat.le_refl _)]; simp
   have hnew := b3P g c0 (G4 (t.take i)).length
   have hsu : enG g c0 ((G4 (t.take i)).length + 1) = enG g c0 (G4 (t.take i)).length ++ [⟨((G4 (t.take i)).length : Nat), a28 c.toNat, c0 + (enG g c0 (G4 (t.take i)).length).length⟩] := by
    rw [enG, hgn, if_neg hx0]
   rw [← hlen] at hsu
   have e8 : IntKind.i8.wrap ((G4 (t.take i)).length : Int) = ((G4 (t.take i)).length : Int) := V3 zo zo
   have es : IntKind.i64.wrap (((G4 (t.take i)).length : Int) + 1) = ((G4 (t.take (i + 1))).length : Int) := by rw [hlen, g7 zo zo]; push_cast; rfl
   have hT2 : C1 w2 := hT.fr (Fr.tn (S := [fb]) n2 (.inl (by simp))) fun k hk cs u fz hh => by
    rw [List.mem_singleton.1 hk, hb] at hh; cases hh
   have fin : ∀ w3, Upd w2 fb (mpO .i8 .i8 (a7G (enG g c0 (G4 (t.take i)).length) ((G4 (t.take i)).length : Int) (a28 c.toNat) (c0 + (enG g c0 (G4 (t.take i)).length).length)) (b2A (enG g c0 (G4 (t.take i)).length) ((G4 (t.take i)).length : Int) (c0 + (enG g c0 (G4 (t.take i)).length).length))) w3 →
     i + 1 ≤ t.length ∧ Tn fb w w3 ∧ w3.heap[fb]? = some (mpO .i8 .i8 (enG g c0 (G4 (t.take (i + 1))).length) (c0 + (enG g c0 (G4 (t.take (i + 1))).length).length)) := fun w3 u3 => by
    obtain ⟨q1, q2⟩ := b1k (v := a28 c.toNat) (c := c0 + (enG g c0 (G4 (t.take i)).length).length) hnew
    refine ⟨hi2, n2.trans (Tn.upd u3), ?_⟩
    rw [u3.at_, q1, q2, hsu, List.length_append]; rfl
   clear hsu hgn hnew hg htk hlen
   have ldp : l8 G.P w2 194 ⟨8, c.toNat, none⟩ (.int .i8 (a28 c.toNat)) := I0 hT2.fen (i := c.toNat) hc8 rfl rfl
   by_cases t1 : (49 : Int) ≤ (c.toNat : Int)
   ·have t2 : ¬ (c.toNat : Int) ≤ 56 := by omega
    (repeat (first | (refine E.v6 t1 ?_; refine zR ?_) | (refine E.o7 t2 ?_; refine zR ?_)))
    refine zC ?_
    refine zR ?_
    refine b5 _ ldp (zR ?_)
    refine E.o7 hx0 (zR ?_)
    rw [e8]
    refine a4W mFP rfl rfl rfl hm fun w3 u3 => zR ?_
    rw [es]
    exact ⟨i + 1, ⟨rfl, d6 ni, trivial⟩, fin w3 u3, zo⟩
   ·(repeat (first | (refine E.o7 t1 ?_; refine zR ?_)))
    refine zC ?_
    refine zR ?_
    refine b5 _ ldp (zR ?_)
    refine E.o7 hx0 (zR ?_)
    rw [e8]
    refine a4W mFP rfl rfl rfl hm fun w3 u3 => zR ?_
    rw [es]
    exact ⟨i + 1, ⟨rfl, d6 ni, trivial⟩, fin w3 u3, zo⟩
 ·have e : i = t.length := by omega
  subst e
  rw [List.take_length] at hm
  have h8 : (G4 t).length = 8 := by rw [ht, a7M]
  rw [h8] at hm
  rw [List.take_length, h8]
  refine zR ?_
  exact ⟨rfl, hm, n2⟩
end
end Go.Proofs.YtpclhlhcegcflaaGreatDoor
