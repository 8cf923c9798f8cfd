/- One part of the proof: Pk46 Pk47 Pk48 Dfr Pk49 Pk50. -/
import Derived.Defers
import Derived.Recover
import Derived.Test.YtpclhlhcegcflaaGreatDoorM1
import Derived.Test.YtpclhlhcegcflaaGreatDoorM3
import Derived.Test.YtpclhlhcegcflaaGreatDoorM25
namespace Go.Proofs.YtpclhlhcegcflaaGreatDoor
set_option maxRecDepth 100000
set_option linter.unusedSimpArgs false
set_option linter.unusedVariables false
section
open Go Go.RowKit
open E
open Ch Bb
section gens
variable {w : World} {dst : Option Nat} {ty : Nat} {pos : String} {af : Array Edge} {gd : Option (Nat × Bool)} {env : C0} {K : Value → World → Prop}
theorem b5f {fo : Operand} {args : Array Operand} {argTypes : Array Nat} {f : Nat} {cap : Array Value} (vs : Array Value) (hf : ev env fo = .func (.func f) #[] cap) (hfn : G.fn f = true) (ha : (args.map (ev env)).toList ++ cap.toList = vs.toList)
  (h : Calls G.P f vs w (fun r w' => ∃ v, r = .returned v ∧ K v w')) : L5 G.P { dst, op := .call { callee := .value fo, args, argTypes }, type := ty, pos, after := af, guard := gd } env w K := by
 obtain ⟨x, h1, h2, h3⟩ := G.enters f hfn
 have ha : args.map (ev env) ++ cap = vs := Array.toList_inj.1 (by rw [Array.toList_append]; exact ha)
 subst ha
 refine ⟨.inr (.inr ⟨f, (args.map (ev env)) ++ cap, ?_, h⟩)⟩
 simp [execOp, resolve, hf, Deferred.ofValue, invoke, callFunc, h1, h3]
 cases hb : x.body with
 | none => rw [hb] at h2; cases h2
 | some c => simp
theorem b2N {f : Nat} {cs : Array Operand} (caps : Array Value) (hc : (cs.map (ev env)).toList = caps.toList) (h : K (.func (.func f) #[] caps) w) : L5 G.P { dst, op := .makeFunc (.func f) #[] cs, type := ty, pos, after := af, guard := gd } env w K := by
 have hc := Array.toList_inj.1 hc
 subst hc
 exact ⟨.inl ⟨.func (.func f) #[] (cs.map (ev env)), w, by simp [execOp, Instr.makeFunc], h⟩⟩
end gens
theorem b5g : B7 a22 := (a5p a22).1 (by decide +kernel)
theorem b5h : inCheck a22 = false := by decide +kernel
theorem b5i : fenT a22 = [114, 110, 98, 113, 107, 98, 110, 114, 47, 112, 112, 112, 112, 112, 112, 112, 112, 47, 56, 47, 56, 47, 56, 47, 56, 47, 80, 80, 80, 80, 80, 80, 80, 80, 47, 82, 78, 66, 81, 75, 66, 78, 82, 32, 119, 32, 75, 81, 107, 113, 32, 45, 32, 48, 32, 49] := by decide +kernel
theorem a7P (w : World) (hT : C1 w) (hS : Spc w) : Calls G.P 133 #[] w (fun r w' => Cl w w' ∧ ∃ P b, r = .returned (.pointer (some ⟨P, 0, none⟩)) ∧ w.heap.size ≤ P ∧ w.heap.size ≤ b ∧ H0 w' P b a22 (.slice none 0 0)) := by
 have hd := b1u b5g zd zd w hT hS
 rw [b5i] at hd
 refine zN Tryz.func133 ?_
 refine zR ?_
 refine o8 hd ?_
 rintro e w1 ⟨c1, P, b, rfl, sP, sb, hP, hB⟩
 refine ⟨_, rfl, ?_⟩
 refine zR ?_
 exact ⟨c1, P, b, rfl, sP, sb, by rw [b5h]; exact hP, hB, .inl rfl⟩
def Y3 (P : Nat) : Nd := { D3 ⟨⟨0, 0, 0⟩, 0⟩ with pos := .pointer (some ⟨P, 0, none⟩) }
def J7 (P R tb : Nat) : Gm := ⟨P, star, .map (some tb), R, R, .slice none 0 0, 0⟩
set_option maxHeartbeats 1000000 in
theorem c1a {p : k8} (hI : B7 p) (hle : (z8 p).length ≤ 218) {G0 M P b c P0 tb : Nat} (w : World) (hT : C1 w) (hb : w.heap[G0]? = some (.cells (gmA (J7 P0 M tb)) 131 (0, 0))) (hM : w.heap[M]? = some (.cells (F0 (Y3 P0)) 141 (0, 0)))
  (hP : w.heap[P]? = some (.cells (hdA b (A8 p false) (.slice none 0 0)) 173 (0, 0))) (hB : w.heap[b]? = some (.cells (G1 (mbOf p)) 237 (0, 0))) (hc : w.heap[c]? = some (.cells #[.pointer (some ⟨P, 0, none⟩)] 83 (0, 0))) :
  Calls G.P 136 #[.pointer (some ⟨G0, 0, none⟩), .pointer (some ⟨c, 0, none⟩)] w (fun r w' => r = .returned (.tuple #[]) ∧ ∃ g' z, K3 w' G0 g' [] z ∧ z.p = p ∧ z.M = M ∧ z.P = P ∧ ((g'.meth : Int), g'.out) = ending [p] p (0, star) ∧ Fr [P, G0, M] w w') := by
 have hGP := J4 hb hP zd
 have hMP := J4 hM hP zd
 have hbP := J4 hB hP zd
 have hcP := J4 hc hP zd
 have hcG := J4 hc hb zd
 have hcM := J4 hc hM zd
 have hGM := J4 hb hM zd
 have hbG := J4 hB hb zd
 have hbM := J4 hB hM zd
 have hic := fun (w' : World) (h : Cl w w') => a5W (h := A8 p false) (B := mbOf p) (by have := hI.turn; show p.turn + 1 = 1 ∨ p.turn + 1 = 2; omega) (U1 p 0).1 (U1 p 0).2 (U1 p 1).1 (U1 p 1).2 w' (hT.cl h) (h.blk hP) (h.blk hB)
 have hic2 : (mbOf p).chk (A8 p false).turn = inCheck p := b60 hI
 rw [hic2] at hic
 refine zN Tryz.func136 ?_
 refine zR ?_
 refine zK 5 ?_
 refine zR ?_
 refine g9 _ (fun w' hw => W1 (v := .pointer (some ⟨P, 0, none⟩)) (hw.blk hc) rfl rfl) (zR ?_)
 refine g9 _ (fun w' hw => W1 (v := .pointer (some ⟨P, 0, none⟩)) (hw.blk hc) rfl rfl) (zR ?_)
 refine C7 _ (fun _ _ h => h.trans) (fun w' hw => hic w' hw) (zR ?_)
 intro w1 c1
 refine zR ?_
 refine zT (c1.blk hP) [.bool (inCheck p)] fun w2 u2 => ?_
 have hP2 : w2.heap[P]? = some (.cells (hdA b (A8 p (inCheck p)) (.slice none 0 0)) 173 (0, 0)) := u2.at_
 have f2 : Fr [P, G0, M] w w2 := (Fr.cl c1).trans (Fr.upd u2 (by simp))
 have hb2 := (Tn.upd u2).blk (c1.blk hb) hGP
 have hc2 := (Tn.upd u2).blk (c1.blk hc) hcP
 have hM2 := (Tn.upd u2).blk (c1.blk hM) hMP
 have hB2 := (Tn.upd u2).blk (c1.blk hB) hbP
 refine zR ?_
 refine b5 _ (W1 (v := .pointer (some ⟨P, 0, none⟩)) hc2 rfl rfl) (zR ?_)
 refine zT hb2 [.pointer (some ⟨P, 0, none⟩)] fun w3 u3 => ?_
 have hb3 : w3.heap[G0]? = some (.cells (gmA (J7 P M tb)) 131 (0, 0)) := u3.at_
 have f3 := f2.trans (Fr.upd u3 (by simp))
 have hP3 := (Tn.upd u3).blk hP2 (Ne.symm hGP)
 have hc3 := (Tn.upd u3).blk hc2 hcG
 have hM3 := (Tn.upd u3).blk hM2 (Ne.symm hGM)
 have hB3 := (Tn.upd u3).blk hB2 hbG
 refine zR ?_
 refine zK 7 ?_
 refine zR ?_
 refine g9 _ (fun w' hw => b3K (hw.blk hb3)) (zR ?_)
 refine g9 _ (fun w' hw => W1 (v := .pointer (some ⟨P, 0, none⟩)) (hw.blk hc3) rfl rfl) (zR ?_)
 intro w4 c4
 refine zR ?_
 refine zT (c4.blk hM3) [.pointer (some ⟨P, 0, none⟩)] fun w5 u5 => ?_
 have hM5 : w5.heap[M]? = some (.cells (F0 (Y3 P)) 141 (0, 0)) := u5.at_
 have f5 := (f3.trans (Fr.cl c4)).trans (Fr.upd (b := M) u5 (by simp))
 have hb5 := (Tn.upd u5).blk (c4.blk hb3) hGM
 have hP5 := (Tn.upd u5).blk (c4.blk hP3) (Ne.symm hMP)
 have hB5 := (Tn.upd u5).blk (c4.blk hB3) hbM
 have hPM : H0 w5 P b p (.slice none 0 0) := ⟨hP5, hB5, .inl rfl⟩
 have hT5 : C1 w5 := hT.fr f5 fun k hk cs t fz hh => by
  simp only [List.mem_cons, List.not_mem_nil, or_false] at hk
  rcases hk with e | e | e
  ·rw [e] at hh; rw [← (Obj.cells.inj (Option.some.inj (hP.symm.trans hh))).2.1]; decide
  ·rw [e] at hh; rw [← (Obj.cells.inj (Option.some.inj (hb.symm.trans hh))).2.1]; decide
  ·rw [e] at hh; rw [← (Obj.cells.inj (Option.some.inj (hM.symm.trans hh))).2.1]; decide
 obtain ⟨z, hz⟩ : ∃ z : O4, z = ⟨M, Y3 P, P, b, p, .slice none 0 0⟩ := ⟨_, rfl⟩
 have hch : Chn w5 [z] := by rw [hz]; exact ⟨hM5, rfl, rfl, hPM, trivial⟩
 have hev := a8N (g := J7 P M tb) (n := z) (l := []) hI hle (b6X hI b) (by simp) (by intro x hx; rw [List.mem_singleton.1 hx, hz]; exact hI) w5 hT5 hb5 (by rw [hz]; rfl) hch hPM (Ne.symm hGP) hbG (fun _ => rfl)
 refine zR ?_
 refine o8 hev ?_
 rintro e w6 ⟨rfl, m', o', hend, hgb, hfr⟩
 refine ⟨_, rfl, ?_⟩
 refine zR ?_
 have hend : ((m' : Int), o') = ending [p] p (((0 : Nat) : Int), star) := by rw [hz] at hend; exact hend
 have kG : Kp [] w5 w6 := Kp.fr hfr fun k hk => by rw [List.mem_singleton.1 hk]; exact .inr ⟨_, _, hb5⟩
 refine ⟨rfl, { J7 P M tb with out := o', meth := m' }, z, ⟨hgb, by rw [hz]; rfl, by rw [hz]; rfl, ⟨z, [], rfl, by rw [hz]; rfl⟩, Chn.kp kG hch fun n _ => n.off_nil, (by rw [hz]; rfl), fun n hn => (by cases hn), (by rw [hz]; intro e; cases e), fun n hn => (by cases hn), a8O hend fun _ => rfl⟩, by rw [hz], by rw [hz], by rw [hz], hend, f5.trans (hfr.mono (by simp))⟩
theorem uFn : ∃ a b c, G.P.underlying 122 = some (.func a b c) := by
 have h : (match G.P.underlying 122 with | some (.func ..) => true | _ => false) = true := by kernel_rfl
 split at h
 ·rename_i a b c e; exact ⟨a, b, c, e⟩
 ·cases h
theorem c3a {w : World} {b i : Nat} {v : Value} {cs : Array Value} {u : Nat} {fz : Nat × Nat} (hb : w.heap[b]? = some (.cells cs u fz)) (hi : cs[i]? = some v) : l8 G.P w 122 ⟨b, i, none⟩ v := by
 obtain ⟨e1, e2, e3, he⟩ := uFn
 have ha : (isAgg 122).run G.P w = .ok false w := by unfold isAgg; simp [run_underlying he]
 unfold l8 Instr.loadAt loadVar
 simp [Instr.sureAddr, ha, C8 hb, hi]
theorem c1b (f : Fn) (a c : Array Value) : Cmp 122 (.func f a c) .nilFunc false := by
 obtain ⟨e1, e2, e3, he⟩ := uFn
 refine a9z (fun d w => ?_) (fun w => by simp [binOp]) (fun w => by simp [binOp]) (fun op a v w => by unfold eqGuard; cases op <;> rfl)
 simp [Op.equalIn, run_underlying he]
theorem c3b : G2 181 122 1 8 := R0 zk
structure b9F (w w' : World) (G0 : Nat) (p : k8) (looked : Bool) : Prop where
 ex : ∃ g z, K3 w' G0 g [] z ∧ z.p = p ∧ w.heap.size ≤ z.M ∧ w.heap.size ≤ z.P ∧ ((g.meth : Int), g.out) = (if looked then ending [p] p (0, star) else (0, star))
 cl : Cl w w'
 new : w.heap.size ≤ G0
set_option maxHeartbeats 1000000 in
theorem b2O (w : World) (hT : C1 w) (hS : Spc w) : Calls G.P 97 #[.slice none 0 0] w (fun r w' => ∃ G0, r = .returned (.pointer (some ⟨G0, 0, none⟩)) ∧ b9F w w' G0 a22 false) := by
 refine zN Tryz.func97 ?_
 refine zR ?_
 refine o8 (a7P w hT hS) ?_
 rintro e w1 ⟨c1, P, b, rfl, sP, sb, hPM⟩
 refine ⟨_, rfl, ?_⟩
 refine zR ?_
 refine s9 (F0 (Y3 P)) zk (zR ?_)
 have c2 := c1.trans (Cl.alloc w1 (.cells (F0 (Y3 P)) 141))
 have hPM2 := hPM.step (Cl.alloc w1 (.cells (F0 (Y3 P)) 141))
 have nR := d8 w1 (.cells (F0 (Y3 P)) 141)
 have s2 := y9 w1 (.cells (F0 (Y3 P)) 141)
 have s1 := c1.size
 obtain ⟨R, hR⟩ : ∃ R, R = w1.heap.size := ⟨_, rfl⟩
 rw [← hR] at nR ⊢
 generalize w1.alloc (.cells (F0 (Y3 P)) 141) = w2 at *
 refine a32 ?_
 have c3 := c2.trans (Cl.alloc w2 (.map #[] 0))
 have hPM3 := hPM2.step (Cl.alloc w2 (.map #[] 0))
 have nR3 := (Cl.alloc w2 (.map #[] 0)).blk nR
 have s3 := y9 w2 (.map #[] 0)
 generalize w2.alloc (.map #[] 0) = w3 at *
 refine zR ?_
 refine s9 (gmA (J7 P R w2.heap.size)) zk (zR ?_)
 have c4 := c3.trans (Cl.alloc w3 (.cells (gmA (J7 P R w2.heap.size)) 131))
 have hPM4 := hPM3.step (Cl.alloc w3 (.cells (gmA (J7 P R w2.heap.size)) 131))
 have nR4 := (Cl.alloc w3 (.cells (gmA (J7 P R w2.heap.size)) 131)).blk nR3
 have nG := d8 w3 (.cells (gmA (J7 P R w2.heap.size)) 131)
 have s4 := y9 w3 (.cells (gmA (J7 P R w2.heap.size)) 131)
 generalize w3.alloc (.cells (gmA (J7 P R w2.heap.size)) 131) = w4 at *
 refine a7n 1 (zR ?_)
 refine ⟨_, rfl, ⟨J7 P R w2.heap.size, ⟨R, Y3 P, P, b, a22, .slice none 0 0⟩, ⟨nG, rfl, rfl, ⟨_, [], rfl, rfl⟩, ⟨nR4, rfl, rfl, hPM4, trivial⟩, rfl, fun n hn => (by cases hn), fun e => (by cases e), fun n hn => (by cases hn), fun _ => rfl⟩, rfl, (show w.heap.size ≤ R by omega), sP, rfl⟩, c4, zo⟩
set_option maxHeartbeats 1000000 in
theorem b2P {p : k8} (hI : B7 p) (hle : (z8 p).length ≤ 218) {P b c O k : Nat} (w : World) (hT : C1 w) (hS : Spc w)
  (hP : w.heap[P]? = some (.cells (hdA b (A8 p false) (.slice none 0 0)) 173 (0, 0))) (hB : w.heap[b]? = some (.cells (G1 (mbOf p)) 237 (0, 0))) (hc : w.heap[c]? = some (.cells #[.pointer (some ⟨P, 0, none⟩)] 83 (0, 0)))
  (hO : w.heap[O]? = some (.cells #[.func (.func 136) #[] #[.pointer (some ⟨c, 0, none⟩)]] 122 (0, 0))) :
  Calls G.P 97 #[.slice (some ⟨O, 0, none⟩) 1 k] w (fun r w' => ∃ G0 g z, r = .returned (.pointer (some ⟨G0, 0, none⟩)) ∧ w.heap.size ≤ G0 ∧ K3 w' G0 g [] z ∧ z.p = p ∧ w.heap.size ≤ z.M ∧ z.P = P ∧ ((g.meth : Int), g.out) = ending [p] p (0, star) ∧ Tn P w w') := by
 refine zN Tryz.func97 ?_
 refine zR ?_
 refine o8 (a7P w hT hS) ?_
 rintro e w1 ⟨c1, P0, b0, rfl, sP, sb, hPM⟩
 refine ⟨_, rfl, ?_⟩
 refine zR ?_
 refine s9 (F0 (Y3 P0)) zk (zR ?_)
 have c2 := c1.trans (Cl.alloc w1 (.cells (F0 (Y3 P0)) 141))
 have nR := d8 w1 (.cells (F0 (Y3 P0)) 141)
 have s2 := y9 w1 (.cells (F0 (Y3 P0)) 141)
 have s1 := c1.size
 obtain ⟨R, hR⟩ : ∃ R, R = w1.heap.size := ⟨_, rfl⟩
 rw [← hR] at nR ⊢
 generalize w1.alloc (.cells (F0 (Y3 P0)) 141) = w2 at *
 refine a32 ?_
 have c3 := c2.trans (Cl.alloc w2 (.map #[] 0))
 have nR3 := (Cl.alloc w2 (.map #[] 0)).blk nR
 have s3 := y9 w2 (.map #[] 0)
 generalize w2.alloc (.map #[] 0) = w3 at *
 refine zR ?_
 refine s9 (gmA (J7 P0 R w2.heap.size)) zk (zR ?_)
 have c4 := c3.trans (Cl.alloc w3 (.cells (gmA (J7 P0 R w2.heap.size)) 131))
 have nR4 := (Cl.alloc w3 (.cells (gmA (J7 P0 R w2.heap.size)) 131)).blk nR3
 have nG := d8 w3 (.cells (gmA (J7 P0 R w2.heap.size)) 131)
 have s4 := y9 w3 (.cells (gmA (J7 P0 R w2.heap.size)) 131)
 obtain ⟨G0, hG0⟩ : ∃ G0, G0 = w3.heap.size := ⟨_, rfl⟩
 rw [← hG0] at nG ⊢
 generalize w3.alloc (.cells (gmA (J7 P0 R w2.heap.size)) 131) = w4 at *
 refine a7n 2 (zR ?_)
 refine b5 _ (c3a (v := .func (.func 136) #[] #[.pointer (some ⟨c, 0, none⟩)]) (c4.blk hO) rfl) (zR ?_)
 refine I1 false (c1b _ _ _) (zR ?_)
 refine b5f #[.pointer (some ⟨G0, 0, none⟩), .pointer (some ⟨c, 0, none⟩)] rfl rfl (by rw [Array.toList_map]; rfl) ?_
 refine (c1a hI hle w4 (hT.cl c4) nG nR4 (c4.blk hP) (c4.blk hB) (c4.blk hc)).mono ?_
 rintro e w5 ⟨rfl, g', z, hg, hz, hzM, hzP, hend, f5⟩
 refine ⟨_, rfl, ?_⟩
 refine zR ?_
 have hPl := N2 hP
 refine ⟨G0, g', z, rfl, zo, hg, hz, by rw [hzM]; omega, hzP, hend, ⟨f5.os.trans c4.os, f5.tape.trans c4.tape, f5.output.trans c4.output, Nat.le_trans c4.size f5.size, fun k hk hne => ?_⟩⟩
 rw [f5.else_ k zo (by simp only [List.mem_cons, List.not_mem_nil, or_false]; omega)]
 exact c4.block k hk
set_option maxHeartbeats 1000000 in
theorem b9f {p : k8} (hI : B7 p) (hle : (z8 p).length ≤ 218) (hh : p.half < 10000000) (hf : p.full < 10000000) (usual : Bool) (hu : usual = true → p = a22) (w : World) (hT : C1 w) (hS : Spc w) :
  Calls G.P 42 #[s8 (if usual then [] else fenT p)] w (fun r w' => ∃ G0, r = .returned (.tuple #[.pointer (some ⟨G0, 0, none⟩), .nilIface]) ∧ b9F w w' G0 p (!usual)) := by
 cases usual with
 | true =>
  have := hu rfl
  subst this
  rw [if_pos rfl]
  refine zN Tryz.func42 ?_
  refine zR ?_
  first | (refine E.v6 rfl ?_; refine zR ?_) | skip
  refine o8 (b2O w hT hS) ?_
  rintro e w1 ⟨G0, rfl, h⟩
  refine ⟨_, rfl, ?_⟩
  refine zR ?_
  exact ⟨G0, rfl, h⟩
 | false =>
  rw [if_neg zd]
  have hne : ¬ tx (fenT p) = tx [] := fun h => by
   have := a0p.1 h
   unfold fenT at this
   simp at this
  have hd := fun w hT hS => b1u hI hh hf w hT hS
  generalize fenT p = T at *
  have hFEN : ∀ w, C1 w → Spc w → Calls G.P 98 #[s8 T] w (fun r w' => Cl w w' ∧ ∃ P b c, r = .returned (.tuple #[.func (.func 136) #[] #[.pointer (some ⟨c, 0, none⟩)], .nilIface]) ∧ w.heap.size ≤ P ∧ w'.heap[P]? = some (.cells (hdA b (A8 p false) (.slice none 0 0)) 173 (0, 0))
    ∧ w'.heap[b]? = some (.cells (G1 (mbOf p)) 237 (0, 0)) ∧ w'.heap[c]? = some (.cells #[.pointer (some ⟨P, 0, none⟩)] 83 (0, 0))) := by
   intro w hT hS
   refine zN Tryz.func98 ?_
   refine zR ?_
   refine o8 (hd w hT hS) ?_
   rintro e w1 ⟨c1, P, b, rfl, sP, sb, hP, hB⟩
   refine ⟨_, rfl, ?_⟩
   refine zR ?_
   refine t7 (.pointer none) zk ?_
   have c2 := Cl.alloc w1 (.cells (Value.pointer none).cells 83)
   have n2 := d8 w1 (.cells (Value.pointer none).cells 83)
   have s1 := c1.size
   generalize w1.alloc (.cells (Value.pointer none).cells 83) = w2 at *
   refine zR ?_
   refine zT n2 [.pointer (some ⟨P, 0, none⟩)] fun w3 u3 => ?_
   have n3 : w3.heap[w1.heap.size]? = some (.cells #[.pointer (some ⟨P, 0, none⟩)] 83 (0, 0)) := u3.at_
   refine zR ?_
   refine I1 true (F8 rfl) (zR ?_)
   refine b5 _ (W1 (v := .pointer (some ⟨P, 0, none⟩)) n3 rfl rfl) (zR ?_)
   refine W3 false (N1 rfl _) (zR ?_)
   refine b2N #[.pointer (some ⟨w1.heap.size, 0, none⟩)] (by rw [Array.toList_map]; rfl) (zR ?_)
   have hP2 := c2.blk hP
   have hB2 := c2.blk hB
   exact ⟨u3.cl (c1.trans c2) s1, P, b, _, rfl, sP, (Tn.upd u3).blk hP2 (by have := N2 hP; omega), (Tn.upd u3).blk hB2 (by have := N2 hB; omega), n3⟩
  refine zN Tryz.func42 ?_
  refine zR ?_
  refine E.o7 hne (zR ?_)
  refine o8 (hFEN w hT hS) ?_
  rintro e w1 ⟨c1, P, b, c, rfl, sP, hP, hB, hc⟩
  refine ⟨_, rfl, ?_⟩
  refine zR ?_
  refine I1 true (F8 rfl) (zR ?_)
  refine E6 c3b [.func (.func 136) #[] #[.pointer (some ⟨c, 0, none⟩)]] (by rw [Array.toList_map]; rfl) (by simp [Value.cells]) rfl zd zd ?_
  have c2 := Cl.alloc w1 (.cells (([.func (.func 136) #[] #[.pointer (some ⟨c, 0, none⟩)]] : List Value).flatMap fun v => v.cells.toList).toArray 122)
  have n2 : (w1.alloc (.cells (([.func (.func 136) #[] #[.pointer (some ⟨c, 0, none⟩)]] : List Value).flatMap fun v => v.cells.toList).toArray 122)).heap[w1.heap.size]? = some (.cells #[.func (.func 136) #[] #[.pointer (some ⟨c, 0, none⟩)]] 122 (0, 0)) := d8 w1 _
  generalize w1.alloc (.cells (([.func (.func 136) #[] #[.pointer (some ⟨c, 0, none⟩)]] : List Value).flatMap fun v => v.cells.toList).toArray 122) = w2 at *
  have c02 := c1.trans c2
  refine zR ?_
  refine o8 (b2P hI hle w2 (hT.cl c02) (hS.cl c02) (c2.blk hP) (c2.blk hB) (c2.blk hc) n2) ?_
  rintro e w3 ⟨G0, g, z, rfl, sG, hg, hz, hzM, hzP, hend, n3⟩
  refine ⟨_, rfl, ?_⟩
  refine zR ?_
  refine ⟨G0, rfl, ⟨?_, n3.toCl c02 sP, Nat.le_trans c02.size sG⟩⟩
  refine ⟨g, z, hg, hz, Nat.le_trans c02.size hzM, by rw [hzP]; exact sP, ?_⟩
  rw [if_pos (show (!false) = true from rfl)]
  exact hend
theorem b1x (p : k8) : IntKind.i64.wrap (statusOf p) = statusOf p := by
 have : statusOf p = 0 ∨ statusOf p = 1 ∨ statusOf p = 4 := by
  unfold statusOf; split
  ·exact .inl rfl
  ·split
   ·exact .inr (.inl rfl)
   ·exact .inr (.inr rfl)
 rcases this with e | e | e <;> (rw [e]; rfl)
set_option maxHeartbeats 2000000 in
theorem c1c {p : k8} (hI : B7 p) (hN : a1z p) (hle : (z8 p).length ≤ 218) {P b P2 b2 M G0 n0 k0 : Nat} {ad : Addr} {d : Nd} {g : Gm} {cv2 : Value} (hm : d.mv ∈ y8 p) (htg : (d.tags : Int) = told p d.mv) (hI2 : B7 (made p d.mv)) (hN2 : a1z (made p d.mv)) (hle2 : (z8 (made p d.mv)).length ≤ 218)
  (hgm : g.meth < 256) (w : World) (hT : C1 w) (hw : Pow w) (hP : H0 w P b p (.slice (some ad) n0 k0)) (hM : w.heap[M]? = some (.cells (F0 d) 141 (0, 0))) (hb : w.heap[G0]? = some (.cells (gmA g) 131 (0, 0))) (hgP : g.P = P2) (hP2 : H0 w P2 b2 (made p d.mv) cv2) :
  Calls G.P 46 #[.pointer (some ⟨P, 0, none⟩), .pointer (some ⟨M, 0, none⟩), .pointer (some ⟨G0, 0, none⟩)] w (K4 (stV (stepOf p d.mv ((g.meth : Int), g.out))) w) := by
 obtain ⟨f0, f1, t0, t1, hpm⟩ := L4 hI hm
 obtain ⟨_, _, h64⟩ := a0s htg
 have hbt := b3B ⟨d.mv, told p d.mv, sanT p d.mv, lanT p d.mv, uciT d.mv, fenT (made p d.mv), xfenT (made p d.mv), made p d.mv, g.out, (g.meth : Int), statusOf (made p d.mv)⟩
 have hun : stepOf p d.mv ((g.meth : Int), g.out) = ⟨d.mv, told p d.mv, sanT p d.mv, lanT p d.mv, uciT d.mv, fenT (made p d.mv), xfenT (made p d.mv), made p d.mv, g.out, (g.meth : Int), statusOf (made p d.mv)⟩ := by unfold stepOf; rfl
 have hst : stV (stepOf p d.mv ((g.meth : Int), g.out)) = .agg (stL ⟨d.mv, told p d.mv, sanT p d.mv, lanT p d.mv, uciT d.mv, fenT (made p d.mv), xfenT (made p d.mv), made p d.mv, g.out, (g.meth : Int), statusOf (made p d.mv)⟩).toArray := by rw [hun]; rfl
 have hone := a4g (stepOf p d.mv ((g.meth : Int), g.out))
 have hlen := U8 (stepOf p d.mv ((g.meth : Int), g.out))
 rw [hun] at hone hlen
 rw [hst]
 clear hst hun
 have etag : IntKind.i64.wrap (d.tags : Int) = told p d.mv := by rw [← htg]; exact g7 zo zo
 have emeth : IntKind.i64.wrap (g.meth : Int) = (g.meth : Int) := g7 zo zo
 have estat := b1x (made p d.mv)
 have q1 := fun w' (c : Cl w w') => a6e (c.blk hM) zo zo zo zo zo zo
 have q2 := fun w' (c : Cl w w') => b21 (c.blk hM)
 have q3 := fun w' (c : Cl w w') => b0X hI hN hle hm id htg w' (hT.cl c) (hP.step c) (c.blk hM)
 have q4 := fun w' (c : Cl w w') => b1b hI hN hle hm id htg w' (hT.cl c) (hP.step c) (c.blk hM)
 rw [b88 hI hm htg] at q3
 rw [b89 hI hm htg] at q4
 have q5 := fun w' (c : Cl w w') => b1a (P := P) f0 f1 t0 t1 ⟨zo, zo⟩ w' (c.blk hM) _ rfl
 have q6 := fun w' (c : Cl w w') => c0O (c.blk hb) hI2 hN2 (hT.cl c) (hw.cl c) (by rw [hgP]; exact c.blk hP2.hd) (c.blk hP2.bd)
 have q7 := fun w' (c : Cl w w') => a9D hI2 hN2 w' (hT.cl c) (hw.cl c) (c.blk hP2.hd) (c.blk hP2.bd)
 have q8 := fun w' (c : Cl w w') => b8J hI2 w' (hT.cl c) (c.blk hP2.hd) (c.blk hP2.bd)
 have q9 := fun w' (c : Cl w w') => a8E hI2 w' (hT.cl c) (hP2.step c)
 obtain ⟨zs, hzs, hz81⟩ := zSt
 generalize stL ⟨d.mv, told p d.mv, sanT p d.mv, lanT p d.mv, uciT d.mv, fenT (made p d.mv), xfenT (made p d.mv), made p d.mv, g.out, (g.meth : Int), statusOf (made p d.mv)⟩ = S at *
 generalize made p d.mv = q at *
 generalize told p d.mv = Q1 at *
 generalize sanT p d.mv = Q2 at *
 generalize lanT p d.mv = Q3 at *
 generalize uciT d.mv = Q4 at *
 generalize fenT q = Q5 at *
 generalize xfenT q = Q6 at *
 generalize statusOf q = Q7 at *
 refine zN Tryz.func46 ?_
 refine zR ?_
 refine t7 zs hzs ?_
 have c1 := Cl.alloc w (.cells zs.cells 39)
 have nB := d8 w (.cells zs.cells 39)
 generalize w.alloc (.cells zs.cells 39) = w1 at *
 refine zR ?_
 refine d9 (b6R (c1.blk hb)) ?_
 rw [hgP]
 refine zR ?_
 refine m9 (q1 w1 c1) fun w2 c2 => ?_
 have c02 := c1.trans c2
 have nB := c2.blk nB
 refine zR ?_
 refine d9 (q2 w2 c02) (zR ?_)
 rw [etag]
 refine s9 #[] zk (zR ?_)
 refine m9 (q3 w2 c02) fun w3 c3 => ?_
 have c03 := c02.trans c3
 have nB := c3.blk nB
 refine zR ?_
 refine s9 #[] zk (zR ?_)
 refine m9 (q4 w3 c03) fun w4 c4 => ?_
 have c04 := c03.trans c4
 have nB := c4.blk nB
 refine zR ?_
 refine s9 #[] zk (zR ?_)
 refine m9 (q5 w4 c04) fun w5 c5 => ?_
 have c05 := c04.trans c5
 have nB := c5.blk nB
 refine zR ?_
 refine m9 (q6 w5 c05) fun w6 c6 => ?_
 have c06 := c05.trans c6
 have nB := c6.blk nB
 refine zR ?_
 refine m9 (q7 w6 c06) fun w7 c7 => ?_
 have c07 := c06.trans c7
 have nB := c7.blk nB
 refine zR ?_
 refine m9 (q8 w7 c07) fun w8 c8 => ?_
 have c08 := c07.trans c8
 have nB := c8.blk nB
 refine zR ?_
 refine d9 (c0N (c08.blk hb)) (zR ?_)
 refine d9 (b8K (c08.blk hb)) (zR ?_)
 rw [emeth]
 refine m9 (q9 w8 c08) fun w9 c9 => ?_
 have c09 := c08.trans c9
 have nB := c9.blk nB
 refine zR ?_
 rw [estat]
 refine s9 S.toArray hbt (zR ?_)
 refine J6 nB S rfl c1T hlen hone (by rw [hz81]; omega) (fun w10 u10 => ?_)
 have hR : w10.heap[w.heap.size]? = some (.cells S.toArray 39 (0, 0)) := by
  rw [u10.at_, C5 _ _ (by rw [hlen, hz81])]
 refine zR ?_
 refine b5 (.agg S.toArray) ?_ ?_
 ·have := ldA (t := 39) (o := 0) (z := 81) hR rfl (by simp [hlen])
  rw [show S.toArray.extract 0 (0 + 81) = S.toArray by
   have : S.toArray.size = 81 := by simp [hlen]
   rw [← this]; simp] at this
  exact this
 refine zR ?_
 exact ⟨rfl, u10.cl c09 (Nat.le_refl _)⟩
end
section
open Go Go.RowKit
open E
structure c2u (w : World) (e : C0) (t1 t2 t3 : Nat) (y1 y2 y3 : Nat) (v1 v2 v3 : Value) : Prop where
 a : ∃ a, e t1 = .pointer (some a) ∧ l8 G.P w y1 a v1
 b : ∃ a, e t2 = .pointer (some a) ∧ l8 G.P w y2 a v2
 c : ∃ a, e t3 = .pointer (some a) ∧ l8 G.P w y3 a v3
theorem a5D {w : World} {t : Nat} {a : Addr} {v : Value} (h : l8 G.P w t a v) : (loadVar t a).run G.P w = .ok v w := by
 unfold l8 Instr.loadAt at h
 simp [Instr.sureAddr] at h
 exact h
theorem a8g {fn : Func} {t1 t2 t3 y1 y2 y3 : Nat} (hr : fn.results = #[.cell t1 y1, .cell t2 y2, .cell t3 y3]) {a : Act} {w : World} {v1 v2 v3 : Value} (h : c2u w (s7 a) t1 t2 t3 y1 y2 y3 v1 v2 v3) :
  (results fn a.tmps).run G.P w = .ok (.tuple #[v1, v2, v3]) w := by
 obtain ⟨⟨a1, e1, l1⟩, ⟨a2, e2, l2⟩, a3, e3, l3⟩ := h
 have e1 : a.tmps[t1]?.getD undef = .pointer (some a1) := by rw [← Array.getD_eq_getD_getElem?]; exact e1
 have e2 : a.tmps[t2]?.getD undef = .pointer (some a2) := by rw [← Array.getD_eq_getD_getElem?]; exact e2
 have e3 : a.tmps[t3]?.getD undef = .pointer (some a3) := by rw [← Array.getD_eq_getD_getElem?]; exact e3
 simp [results, hr, e1, e2, e3, asAddr, a5D l1, a5D l2, a5D l3]
def c2v (f : Nat) (cap : Array Value) : Prop := ∀ w, CallsD G.P f cap .returning w fun e u' w' => e = .returned (.tuple #[]) ∧ u' = .returning ∧ w' = w
theorem b1y {f : Nat} {fn : Func} {A B : Code} {i : Nat} {mk df : Oper} {args : List Value} {w : World} {R : Ending → World → Prop} {fc t t1 t2 t3 y1 y2 y3 : Nat} {caps : Array Operand}
  (hf : G.P.funcs[f]? = some fn) (hb : fn.body = some (.seq A (.seq (.region i #[mk, df] false) B))) (hn : args.length ≤ fn.ntmps) (hkA : P7 fn.ntmps A = true) (hkB : P7 fn.ntmps B = true) (ht : t < fn.ntmps)
  (hmg : mk.guard = none) (hmo : mk.op = .makeFunc (.func fc) #[] caps) (hmd : mk.dst = some t) (hdg : df.guard = none) (hdo : df.op = .defer { callee := .value (.tmp t), args := #[], argTypes := #[] }) (hdd : df.dst = none)
  (hfc : G.fn fc = true) (hid : ∀ a b c, c2v fc #[a, b, c]) (hr : fn.results = #[.cell t1 y1, .cell t2 y2, .cell t3 y3])
  (h : vc G A (a8o args) w (fun x e w1 => x = .normal ∧ ∃ a b c : Value, (caps.map (ev e)).toList = [a, b, c] ∧ vc G B (upd e t (.func (.func fc) #[] #[a, b, c])) w1 (fun x e w2 => (x = .normal ∨ x = .ret) ∧ ∃ v1 v2 v3, c2u w2 e t1 t2 t3 y1 y2 y3 v1 v2 v3 ∧ R (.returned (.tuple #[v1, v2, v3])) w2))) :
  Calls G.P f args.toArray w R := by
 refine calls_of_wp_defers hf hb ?_
 have hsz : (args.toArray ++ Array.replicate (fn.ntmps - args.toArray.size) undef).size = fn.ntmps := by simp; omega
 have henv : s7 { tmps := args.toArray ++ Array.replicate (fn.ntmps - args.toArray.size) undef, defers := [] } = a8o args := by
  funext t
  unfold s7 a8o
  rw [b3f]
  simp only [Array.getD_eq_getD_getElem?, List.getD_eq_getElem?_getD]
  by_cases ht : t < args.length
  ·rw [Array.getElem?_append_left (by simpa using ht)]; simp
  ·rw [Array.getElem?_append_right (by simpa using ht)]
   rw [List.getElem?_eq_none zo]
   simp only [Option.getD_none]
   cases hx : (Array.replicate (fn.ntmps - args.toArray.size) undef)[t - args.toArray.size]? with
   | none => rfl
   | some v =>
    have := Array.getElem?_eq_some_iff.1 hx
    obtain ⟨h1, h2⟩ := this
    simp at h2
    simp [h2]
 refine wp_seq ?_
 refine a6R (G := G) (N := fn.ntmps) (ds := []) A _ _ ?_ hkA _ w hsz rfl (by rw [henv]; exact h)
 rintro x a w1 hs hd ⟨rfl, q1, q2, q3, hcap, hB⟩
 show Code.wp G.P (.seq (.region i #[mk, df] false) B) _ a w1
 refine wp_seq (wp_region_list ?_)
 have hcap : caps.map (ev (s7 a)) = #[q1, q2, q3] := Array.toList_inj.1 hcap
 obtain ⟨fnc, c1, c2, c3⟩ := G.enters fc hfc
 have hmx : (execOp a.eval mk).run G.P w1 = .ok (.value (.func (.func fc) #[] (caps.map (ev (s7 a))))) w1 := by
  obtain ⟨d, o, ty, ps, af, g⟩ := mk
  simp only at hmo hmg hmd
  subst hmo
  rw [S0]
  simp [execOp, Instr.makeFunc]
 obtain ⟨a1, ha1⟩ : ∃ a1 : Act, a1 = a.put (some t) (.func (.func fc) #[] (caps.map (ev (s7 a)))) := ⟨_, rfl⟩
 have hs1 : a1.tmps.size = fn.ntmps := by rw [ha1, a1e, hs]
 have hd1 : a1.defers = [] := by rw [ha1, W5, hd]
 have he1 : s7 a1 = upd (s7 a) t (.func (.func fc) #[] (caps.map (ev (s7 a)))) := by rw [ha1]; exact a8i _ (by rw [hs]; exact ht)
 have hdx : (execOp a1.eval df).run G.P w1 = .ok (.defer { target := .fn (.func fc) (caps.map (ev (s7 a))), args := #[] }) w1 := by
  obtain ⟨d, o, ty, ps, af, g⟩ := df
  simp only at hdo hdg hdd
  subst hdo
  rw [S0, he1]
  simp [execOp, resolve, ev, b5y, Deferred.ofValue]
 have hw1 : Region.wanted mk (yielded #[mk, df] a.tmps) = true := by unfold Region.wanted; rw [hmg]
 have hw2 : Region.wanted df (yielded #[mk, df] a1.tmps) = true := by unfold Region.wanted; rw [hdg]
 show wpList G.P #[mk, df] _ [mk, df] a w1
 unfold wpList
 rw [if_pos hw1]
 refine .inl ?_
 unfold Oper.wp
 rw [hmx, Oper.upon_value, hmd, ← ha1]
 unfold wpList
 rw [if_pos hw2]
 refine .inl ?_
 unfold Oper.wp
 rw [hdx, Oper.upon_defer, hdd]
 unfold wpList
 have hs2 : ({ a1 with defers := { target := .fn (.func fc) (caps.map (ev (s7 a))), args := #[] } :: a1.defers } : Act).put none undef = { a1 with defers := [{ target := .fn (.func fc) (caps.map (ev (s7 a))), args := #[] }] } := by rw [hd1]; rfl
 rw [hs2]
 show Code.wp G.P B _ _ w1
 refine a6R (G := G) (N := fn.ntmps) (ds := [{ target := .fn (.func fc) (caps.map (ev (s7 a))), args := #[] }]) B _ _ ?_ hkB _ w1 hs1 rfl (by
  have : s7 { a1 with defers := [{ target := .fn (.func fc) (caps.map (ev (s7 a))), args := #[] }] } = s7 a1 := rfl
  rw [this, he1, hcap]; exact hB)
 rintro x a' w2 hs' hd' ⟨hx, v1, v2, v3, h3, hR⟩
 have hL : Leaves G.P fn a'.tmps R a'.defers .returning w2 := by
  rw [hd']
  refine leaves_cons (f := fc) (args := #[] ++ caps.map (ev (s7 a))) (by simp) ?_ ?_
  ·simp [invoke, callFunc, c1, c3]
   cases hbd : fnc.body with
   | none => rw [hbd] at c2; cases c2
   | some c => simp
  ·rw [Array.empty_append]
   rw [hcap]
   refine (hid _ _ _ w2).mono ?_
   rintro e u' w3 ⟨rfl, rfl, rfl⟩
   exact ⟨_, a8g hr h3, hR⟩
 rcases hx with rfl | rfl
 ·exact hL
 ·exact hL
end
section
open Go Go.RowKit
open E
open Ch Bb
theorem b2Q (a b c : Value) : c2v 41 #[a, b, c] := by
 intro w
 refine callsD_of_wpS (P := Tryz.prog) Tryz.func41 rfl fun c₀ cs hu => ?_
 apply wpS_seq
 apply wpS_region
 simp [wpOpsS, go_sem, recoverD, hu, Tryz.ntmps41, Exit.thenS]
 refine wpS_cond (t := false) (by simp [Act.eval, Array.replicate]) ?_
 simp only [Bool.false_eq_true, if_false]
 refine wpS_of_wp (wp_skip ?_)
 cases c₀
 simp_all [bodyPostS, results, Tryz.results41]
theorem Row.frT {α : Type} {enc : α → List Value} {e z b0 : Nat} {S : List Nat} {w w' : World} {v : Value} {l : List α} (h : Row e z enc b0 w v l) (hf : Fr S w w') (hS : ∀ k ∈ S, ∃ cs t fz, w.heap[k]? = some (.cells cs t fz) ∧ e ≠ t) : Row e z enc b0 w' v l := by
 refine ⟨h.1, ?_⟩
 rcases h.2 with h2 | ⟨g, cap, cur, h1, h2, h3, h4⟩
 ·exact .inl h2
 ·refine .inr ⟨g, cap, cur, h1, h2, hf.blk h3 fun hm => ?_, h4⟩
  obtain ⟨cs, t, fz, hb, hne⟩ := hS g hm
  exact J4 h3 hb hne rfl
theorem Fr.toCl {S : List Nat} {w0 w w' : World} (h : Fr S w w') (hS : ∀ k ∈ S, w0.heap.size ≤ k) (c : Cl w0 w) : Cl w0 w' :=
 ⟨h.os.trans c.os, h.tape.trans c.tape, h.output.trans c.output, Nat.le_trans c.size h.size, fun k hk => (h.else_ k (Nat.lt_of_lt_of_le hk c.size) (fun hm => by have := hS k hm; omega)).trans (c.block k hk)⟩
def KT (T : Nat) (w w' : World) : Prop := ∀ (k : Nat) (cs : Array Value) (t : Nat), t ≠ T → w.heap[k]? = some (.cells cs t (0, 0)) → w'.heap[k]? = some (.cells cs t (0, 0))
section kt
variable {T : Nat} {w w' : World} (hk : KT T w w')
include hk
theorem KT.row {α : Type} {enc : α → List Value} {e z b0 : Nat} {v : Value} {l : List α} (h : Row e z enc b0 w v l) (he : e ≠ T) : Row e z enc b0 w' v l := by
 refine ⟨h.1, ?_⟩
 rcases h.2 with h2 | ⟨g, cap, cur, h1, h2, h3, h4⟩
 ·exact .inl h2
 ·exact .inr ⟨g, cap, cur, h1, h2, hk _ _ _ he h3, h4⟩
theorem KT.posM {P b : Nat} {p : k8} {cv : Value} (h : H0 w P b p cv) (h1 : 173 ≠ T) (h2 : 237 ≠ T) (h3 : 141 ≠ T) : H0 w' P b p cv :=
 ⟨hk _ _ _ h1 h.hd, hk _ _ _ h2 h.bd, h.ca.elim .inl fun h => .inr (hk.row h h3)⟩
theorem KT.chn (h1 : 173 ≠ T) (h2 : 237 ≠ T) (h3 : 141 ≠ T) (h4 : 85 ≠ T) : ∀ {l : List O4}, Chn w l → Chn w' l
 | [], _ => trivial
 | n :: l, ⟨a1, a2, a3, a4, a5⟩ => by
  refine ⟨hk _ _ _ h3 a1, a2, ?_, hk.posM a4 h1 h2 h3, KT.chn h1 h2 h3 h4 a5⟩
  cases l with
  | nil => exact a3
  | cons m r => exact hk.row (show Row 85 1 O8 0 w n.d.kids [m.M] from a3) h4
theorem KT.game {G0 : Nat} {g : Gm} {L : List O4} {z : O4} (h : K3 w G0 g L z) (h0 : 131 ≠ T) (h1 : 173 ≠ T) (h2 : 237 ≠ T) (h3 : 141 ≠ T) (h4 : 85 ≠ T) : K3 w' G0 g L z :=
 ⟨hk _ _ _ h0 h.hb, h.cur, h.pos, h.root, hk.chn h1 h2 h3 h4 h.chn, h.kids, h.off, h.zcv, h.dis, h.mo⟩
end kt
theorem KT.upd {T b : Nat} {o : Obj} {w w' : World} {cs : Array Value} {fz : Nat × Nat} (u : Upd w b o w') (hb : w.heap[b]? = some (.cells cs T fz)) : KT T w w' := fun k c t ht h => (Tn.upd u).blk h (J4 h hb ht)
theorem KT.grow {α : Type} {enc : α → List Value} {e z b0 b1 : Nat} {w w' : World} {v v' : Value} {l : List α} (hr : Row e z enc b1 w v l) (hg : a8b b0 w v w' v') : KT e w w' := fun k c t ht h => by
 refine hg.keep _ _ h fun hv => ?_
 rcases hr.2 with ⟨h1, _⟩ | ⟨g, cap, cur, h1, h2, h3, h4⟩
 ·rw [h1] at hv; cases hv
 ·rw [h1] at hv; injection hv with hv; subst hv
  exact ht (Obj.cells.inj (Option.some.inj (h.symm.trans h3))).2.1
theorem a4n {p : k8} {ms : List Mv} (h : quiet p ms = true) : (y8 p).length ≤ 218 := by
 cases ms with
 | nil => exact of_decide_eq_true h
 | cons m r =>
  unfold quiet at h
  simp only [Bool.and_eq_true] at h
  exact of_decide_eq_true h.1
theorem b2R {p : k8} {m : Mv} {r : List Mv} (h : quiet p (m :: r) = true) (hl : G6 p m = true) : a0v p m = true ∧ quiet (made p m) r = true := by
 unfold quiet at h
 rw [hl] at h
 simp only [Bool.and_eq_true, Bool.not_true, Bool.false_or] at h
 exact h.2
theorem a6l {l : List k8} {p : k8} {m0 m : Nat} {o0 o : Tx} (h : ((m : Int), o) = ending l p ((m0 : Int), o0)) (h0 : m0 ≤ 9) : m ≤ 9 := by
 have e := congrArg Prod.fst h
 have : 0 ≤ (ending l p ((m0 : Int), o0)).1 ∧ (ending l p ((m0 : Int), o0)).1 ≤ 9 := by
  unfold ending
  simp only
  repeat' split
  all_goals exact ⟨by simp only; omega, by simp only; omega⟩
 simp only at e
 omega
theorem Chn.mem {w : World} : ∀ {l : List O4}, Chn w l → ∀ n ∈ l, H0 w n.P n.b n.p n.cv
 | [], _, _, h => by cases h
 | n :: l, ⟨_, _, _, h4, h5⟩, x, hx => by
  rcases List.mem_cons.1 hx with e | hx
  ·rw [e]; exact h4
  ·exact Chn.mem h5 x hx
set_option maxHeartbeats 4000000 in
theorem b1z {p : k8} (hI : B7 p) (hh : p.half ≤ 1000000) (hf : p.full ≤ 1000000) (ms : List Mv) (hms : ∀ m ∈ ms, MvR m) (hq : quiet p ms = true) (hn : ms.length ≤ 80) (usual : Bool) (hu : usual = true → p = a22) {v : Value} (w : World) (hT : C1 w) (hS : Spc w) (hw : Pow w) (hrow : a2a w v ms) :
  Calls G.P 14 #[s8 (if usual then [] else fenT p), v] w (fun r w' => ∃ u, r = .returned (.tuple #[u, .int .i64 ((storyOf p (!usual) ms).length : Nat), .bool true]) ∧ Row 39 81 stL w.heap.size w' u (storyOf p (!usual) ms) ∧ Cl w w') := by
 obtain ⟨al, cl, rfl, hal⟩ := hrow.form
 obtain ⟨zm, hzm, hzm3⟩ := c2h
 have hle := a4a hI
 have hq0 := a4n hq
 have hbg := fun w hT hS => b9f hI zo zo zo usual hu w hT hS
 have hst0 : storyOf p (!usual) ms = story [p] p (if (!usual) = true then ending [p] p (0, star) else (0, star)) ms := rfl
 generalize storyOf p (!usual) ms = S at *
 generalize (if usual then ([] : Tx) else fenT p) = T at *
 refine b1y (fc := 41) (t := 13) (t1 := 4) (t2 := 5) (t3 := 6) (y1 := 28) (y2 := 3) (y3 := 4) (args := [s8 T, .slice al ms.length cl]) Tryz.func14 rfl (by simp [Tryz.ntmps14]) zk zk (by simp [Tryz.ntmps14]) rfl rfl rfl rfl rfl rfl zk b2Q rfl (zR ?_)
 refine t7 (.slice none 0 0) zk ?_
 have ca := Cl.alloc w (.cells (Value.slice none 0 0).cells 28)
 have na : (w.alloc (.cells (Value.slice none 0 0).cells 28)).heap[w.heap.size]? = some (.cells #[.slice none 0 0] 28 (0, 0)) := d8 w _
 have sa := y9 w (.cells (Value.slice none 0 0).cells 28)
 generalize w.alloc (.cells (Value.slice none 0 0).cells 28) = w1 at *
 refine zR ?_
 refine t7 (.int .i64 0) zk ?_
 have cb := ca.trans (Cl.alloc w1 (.cells (Value.int .i64 0).cells 3))
 have na := (Cl.alloc w1 (.cells (Value.int .i64 0).cells 3)).blk na
 have nb : (w1.alloc (.cells (Value.int .i64 0).cells 3)).heap[w1.heap.size]? = some (.cells #[.int .i64 0] 3 (0, 0)) := d8 w1 _
 have sb := y9 w1 (.cells (Value.int .i64 0).cells 3)
 generalize w1.alloc (.cells (Value.int .i64 0).cells 3) = w2 at *
 refine zR ?_
 refine t7 (.bool false) zk ?_
 have cc := cb.trans (Cl.alloc w2 (.cells (Value.bool false).cells 4))
 have na := (Cl.alloc w2 (.cells (Value.bool false).cells 4)).blk na
 have nb := (Cl.alloc w2 (.cells (Value.bool false).cells 4)).blk nb
 have nc : (w2.alloc (.cells (Value.bool false).cells 4)).heap[w2.heap.size]? = some (.cells #[.bool false] 4 (0, 0)) := d8 w2 _
 have sc := y9 w2 (.cells (Value.bool false).cells 4)
 generalize w2.alloc (.cells (Value.bool false).cells 4) = w3 at *
 obtain ⟨Ra, hRa⟩ : ∃ R, R = w.heap.size := ⟨_, rfl⟩
 obtain ⟨Rb, hRb⟩ : ∃ R, R = w1.heap.size := ⟨_, rfl⟩
 obtain ⟨Rc, hRc⟩ : ∃ R, R = w2.heap.size := ⟨_, rfl⟩
 have hab : Ra < Rb := by omega
 have hbc : Rb < Rc := by omega
 rw [← hRa] at na
 rw [← hRb] at nb
 rw [← hRc] at nc
 rw [← hRa, ← hRb, ← hRc]
 clear ca cb sa sb sc
 refine zR ?_
 refine ⟨rfl, .pointer (some ⟨Ra, 0, none⟩), .pointer (some ⟨Rb, 0, none⟩), .pointer (some ⟨Rc, 0, none⟩), by rw [Array.toList_map]; rfl, ?_⟩
 refine zR ?_
 refine o8 (hbg w3 (hT.cl cc) (hS.cl cc)) ?_
 rintro e w4 ⟨G0, rfl, ⟨⟨g, z, hG, hzp, hzM, hzP, hmo⟩, c4, sG⟩⟩
 refine ⟨_, rfl, ?_⟩
 have c04 := cc.trans c4
 have s3 := cc.size
 have na := c4.blk na
 have nb := c4.blk nb
 have nc := c4.blk nc
 rw [← hmo] at hst0
 have hst1 : ([] : List Ch.a0A) ++ story (([] ++ [z]).map O4.p) z.p ((g.meth : Int), g.out) (ms.drop 0) = S := by rw [hst0, ← hzp]; rfl
 have hm9 : g.meth ≤ 9 := by
  have e := congrArg Prod.fst hmo
  simp only at e
  cases usual with
  | true => rw [if_neg zd] at e; simp only at e; omega
  | false =>
   rw [if_pos (by rfl)] at e
   have := a6l (l := [p]) (p := p) (m0 := 0) (o0 := star) (m := g.meth) (o := (ending [p] p (0, star)).2) (by
    show ((g.meth : Int), (ending [p] p (0, star)).2) = ending [p] p (0, star)
    rw [e]) zo
   exact this
 have hIz : Ch.B7 z.p := by rw [hzp]; exact hI
 have hNz : Ng z.p 0 := by rw [hzp]; exact ⟨zo, zo⟩
 have hqz : quiet z.p (ms.drop 0) = true := by rw [hzp]; exact hq
 clear hst0 hmo hbg hzp hle hq0 hq hh hf hu hI hS
 refine zR ?_
 refine I1 true (F8 rfl) (zR ?_)
 refine A9 (σ := Nat × List O4 × O4 × Gm × List Ch.a0A × Value) [10, 11, 12, 23] 24 (fun s => [(23, .int .i64 s.1)])
  (fun s w' => s.1 ≤ ms.length ∧ K3 w' G0 s.2.2.2.1 s.2.1 s.2.2.1 ∧ s.2.1.length = s.1 ∧ Ch.B7 s.2.2.1.p ∧ Ng s.2.2.1.p s.1 ∧ quiet s.2.2.1.p (ms.drop s.1) = true ∧ (∀ n ∈ s.2.1 ++ [s.2.2.1], Ch.B7 n.p) ∧ w.heap.size ≤ s.2.2.1.M ∧ w.heap.size ≤ s.2.2.1.P ∧ s.2.2.2.1.meth ≤ 9
   ∧ s.2.2.2.2.1 ++ story ((s.2.1 ++ [s.2.2.1]).map O4.p) s.2.2.1.p ((s.2.2.2.1.meth : Int), s.2.2.2.1.out) (ms.drop s.1) = S ∧ s.2.2.2.2.1.length = s.1 ∧ Row 39 81 stL w.heap.size w' s.2.2.2.2.2 s.2.2.2.2.1
   ∧ w'.heap[Ra]? = some (.cells #[s.2.2.2.2.2] 28 (0, 0)) ∧ w'.heap[Rb]? = some (.cells #[.int .i64 0] 3 (0, 0)) ∧ w'.heap[Rc]? = some (.cells #[.bool false] 4 (0, 0)) ∧ Cl w w') (fun s => ms.length - s.1) zk
  (0, [], z, g, [], .slice none 0 0) ⟨Nat.zero_le _, hG, rfl, hIz, hNz, hqz, fun n hn => by rw [List.mem_singleton.1 hn]; exact hIz, Nat.le_trans s3 hzM, Nat.le_trans s3 hzP, hm9, hst1, rfl, Row.nil _ _, na, nb, nc, c04⟩ ⟨rfl, trivial⟩ ?_
 clear hG hIz hNz hqz hzM hzP hm9 hst1 na nb nc c04 c4
 rintro ⟨i, L, z, g, O, vr⟩ j w5 ⟨hi, hG, hLl, hIz, hNz, hqz, hJ, hzM, hzP, hm9, hst, hOl, hR, na, nb, nc, c5⟩
 simp only at hi hG hLl hIz hNz hqz hJ hzM hzP hm9 hst hOl hR na nb nc c5 ⊢
 obtain ⟨av, kv, rfl, _⟩ := hR.form
 have ni := C2 (i := i) zo
 refine zR ?_
 apply E.b7<;>intro h
 ·have hil : i < ms.length := by omega
  clear h
  obtain ⟨gm, og, rfl⟩ := hal zo
  rw [List.drop_eq_getElem_cons hil] at hst hqz
  rw [a2z] at hst
  have hmr := hms _ (List.getElem_mem hil)
  have hld : ∀ w', Cl w w' → l8 G.P w' 36 ⟨gm, E.W6 og ((i : Int)).toNat 3, none⟩ (G5 ms[i]) := fun w' h' => (hrow.step h').ld i hil
  generalize ms[i] = m at *
  have hN := (hNz.nm zo).nums
  have hle := a4a hIz
  have hq0 := a4n hqz
  have hle : (z8 z.p).length ≤ 218 := by omega
  have hpos := hG.pos
  refine zR ?_
  refine zC ?_
  refine zR ?_
  refine b5 _ (hld _ c5) (zR ?_)
  refine t7 zm hzm ?_
  have d1 := Cl.alloc w5 (.cells zm.cells 36)
  have nm1 := d8 w5 (.cells zm.cells 36)
  generalize w5.alloc (.cells zm.cells 36) = w6 at *
  refine zR ?_
  refine J6 nm1 (E9 m) rfl b1M rfl (I3 _) (by rw [hzm3]; decide) (fun w7 u7 => ?_)
  have nm7 : w7.heap[w5.heap.size]? = some (.cells (K2 m) 36 (0, 0)) := by rw [u7.at_, C5 _ _ (by rw [hzm3]; rfl)]; rfl
  have d7 : Cl w5 w7 := u7.cl d1 (Nat.le_refl _)
  clear nm1 u7 d1
  have c7 := c5.trans d7
  have hG7 := hG.step d7
  refine zR ?_
  refine d9 (b6R hG7.hb) (zR ?_)
  refine b5 _ (P9 nm7) (zR ?_)
  refine o8 (c0J hIz hle hmr w7 (hT.cl c7) hG7.posM) ?_
  rintro r w8 ⟨cv', hP8, n8, hr8, hfound, hown⟩
  rw [hpos] at n8 hP8
  have c8 := n8.toCl c7 hzP
  have hzb := hG7.chn.last.2.2.hd
  have na7 := d7.blk na
  have nb7 := d7.blk nb
  have nc7 := d7.blk nc
  have na8 := n8.blk na7 (J4 na7 hzb zd)
  have nb8 := n8.blk nb7 (J4 nb7 hzb zd)
  have nc8 := n8.blk nc7 (J4 nc7 hzb zd)
  have hR8 := (hR.step d7).tnT n8 hzb zd
  have hlt := hG7.chn.lt
  have hG8 := hG7.recv n8 hP8 (fun k hk => (hown k hk).1)
  rcases hfound with ⟨hno, rfl⟩ | ⟨M, x, hx, hxm, rfl, hMs, hM8⟩
  ·refine ⟨_, rfl, ?_⟩
   rw [if_neg (by simp [G6, hno])] at hst
   have hO : O = S := by rw [← hst, List.append_nil]
   refine zR ?_
   refine W3 true (N1 rfl _) (zR ?_)
   refine b5 _ (W1 (v := .slice av O.length kv) na8 rfl rfl) (zR ?_)
   refine b5 _ (W1 (v := .slice av O.length kv) na8 rfl rfl) (zR ?_)
   refine zT na8 [.slice av O.length kv] fun w9 u9 => ?_
   refine zR ?_
   refine zT ((Tn.upd u9).blk nb8 zo) [.int .i64 O.length] fun w10 u10 => ?_
   refine zR ?_
   refine J6 ((Tn.upd u10).blk ((Tn.upd u9).blk nc8 zo) zo) [.bool true] rfl zk rfl (by intro v hv; simp at hv; subst hv; rfl) (Nat.le_of_ble_eq_true rfl) fun w11 u11 => zR ?_
   have ka : w11.heap[Ra]? = some (.cells #[.slice av O.length kv] 28 (0, 0)) := (Tn.upd u11).blk ((Tn.upd u10).blk u9.at_ zo) zo
   have kb : w11.heap[Rb]? = some (.cells #[.int .i64 O.length] 3 (0, 0)) := (Tn.upd u11).blk u10.at_ zo
   have kc : w11.heap[Rc]? = some (.cells #[.bool true] 4 (0, 0)) := u11.at_
   have hR11 := ((hR8.updT u9 na8 zd).updT u10 ((Tn.upd u9).blk nb8 zo) zd).updT u11 ((Tn.upd u10).blk ((Tn.upd u9).blk nc8 zo) zo) zd
   have c11 := u11.cl (u10.cl (u9.cl c8 zo) zo) zo
   refine ⟨.inr rfl, .slice av O.length kv, .int .i64 O.length, .bool true, ⟨⟨_, rfl, W1 ka rfl rfl⟩, ⟨_, rfl, W1 kb rfl rfl⟩, _, rfl, W1 kc rfl rfl⟩, .slice av O.length kv, ?_, ?_, c11⟩
   ·rw [← hO]
   ·rw [← hO, hRa]; exact hR11
  ·refine ⟨_, rfl, ?_⟩
   have hml := ((a0I hIz).1 x hx).1
   have htx := ((a0I hIz).1 x hx).2
   rw [hxm] at hml htx
   have hleg : G6 z.p m = true := decide_eq_true hml
   rw [if_pos hleg] at hst
   obtain ⟨hsan, hq2⟩ := b2R hqz hleg
   have hrg := L4 hIz hml
   have htold : (x.tags : Int) = told z.p m := by rw [htx]; exact b0S (by have := hrg.2.2.2.2; omega) hsan
   have hI2 := Ch.B7.made hIz hml
   have hq20 := a4n hq2
   have hle2 : (z8 (made z.p m)).length ≤ 218 := by have := a4a hI2; omega
   have hN2 := hNz.made hIz m
   have hMl : ∀ n ∈ L ++ [z], n.off [M] := fun n hn => (hlt n hn).off (fun k hk => by rw [List.mem_singleton.1 hk]; exact hMs)
   have hoff : ∀ n ∈ L ++ [{ z with cv := cv' }], n.off [M] := fun n hn => by
    rcases List.mem_append.1 hn with hn | hn
    ·exact hMl n (List.mem_append_left _ hn)
    ·have o := hMl z (by simp)
     rw [List.mem_singleton.1 hn]
     exact ⟨o.M, o.P, o.b, fun k hk e => (hown k e).2 (by rw [List.mem_singleton.1 hk]), o.kids⟩
   have hJ2 : ∀ n ∈ L ++ [{ z with cv := cv' }], Ch.B7 n.p := fun n hn => by
    rcases List.mem_append.1 hn with hn | hn
    ·exact hJ n (List.mem_append_left _ hn)
    ·rw [List.mem_singleton.1 hn]; exact hIz
   have hmv : (D3 x).mv = m := hxm
   have hGM := b8T (d := D3 x) (hT.cl c8) hG8 hIz hN hle (by rw [hmv]; exact hml) (by rw [hmv]; exact htold) rfl hM8 hoff (by rw [hmv]; exact hI2) (by rw [hmv]; exact hle2) hJ2 zo
   refine zR ?_
   refine W3 false (N1 rfl _) (zR ?_)
   refine o8 hGM ?_
   rintro e w9 ⟨rfl, g', z', y, hsame, ⟨ad, n1, k1, hkc⟩, hG9, y1, y2, y3, y4, y5, hend, f9⟩
   refine ⟨_, rfl, ?_⟩
   have hydm : y.d.mv = m := y2.trans hmv
   have hyp : y.p = made z.p m := by rw [y4, hmv]
   have hydt : (y.d.tags : Int) = told z.p m := by rw [y3]; exact htold
   have hw7 : w.heap.size ≤ w7.heap.size := c7.size
   have hw8 := n8.size
   have hkS : ∀ k ∈ [M, z.M, z.P, G0], w.heap.size ≤ k := fun k hk => by
    simp only [List.mem_cons, List.not_mem_nil, or_false] at hk
    omega
   have f9 : Fr [M, z.M, z.P, G0] w8 w9 := f9
   have c9 : Cl w w9 := f9.toCl hkS c8
   have hnd8 := hG8.node
   have hps8 := hG8.chn.last.2.2.hd
   have hgb8 := hG8.hb
   have off9 : ∀ {k : Nat} {cs : Array Value} {t : Nat} {fz : Nat × Nat}, w8.heap[k]? = some (.cells cs t fz) → t ≠ 141 → t ≠ 173 → t ≠ 131 → w9.heap[k]? = some (.cells cs t fz) := fun {k cs t fz} h h1 h2 h3 => f9.blk h fun hm => by
    simp only [List.mem_cons, List.not_mem_nil, or_false] at hm
    rcases hm with e | e | e | e
    ·exact J4 h hM8 h1 e
    ·exact J4 h hnd8 h1 e
    ·exact J4 h hps8 h2 e
    ·exact J4 h hgb8 h3 e
   have na9 := off9 na8 zd zd zd
   have nb9 := off9 nb8 zd zd zd
   have nc9 := off9 nc8 zd zd zd
   have hR9 : Row 39 81 stL w.heap.size w9 (.slice av O.length kv) O := hR8.frT f9 fun k hk => by
    simp only [List.mem_cons, List.not_mem_nil, or_false] at hk
    rcases hk with e | e | e | e
    ·rw [e]; exact ⟨_, _, _, hM8, zd⟩
    ·rw [e]; exact ⟨_, _, _, hnd8, zd⟩
    ·rw [e]; exact ⟨_, _, _, hps8, zd⟩
    ·rw [e]; exact ⟨_, _, _, hgb8, zd⟩
   have hPz := hG9.chn.mem z' (by simp)
   rw [hsame.p, hsame.P, hkc, ← hpos] at hPz
   have hPy := hG9.posM
   rw [hyp, hG9.pos] at hPy
   have hNode := hG9.node
   rw [y1] at hNode
   have hg9 := a6l hend hm9
   have hstep := fun w' (c : Cl w9 w') => c1c hIz hN hle (d := y.d) (by rw [hydm]; exact hml) (by rw [hydm]; exact hydt) (by rw [hydm]; exact hI2) (by rw [hydm]; exact (hN2.nm zo).nums) (by rw [hydm]; exact hle2) (show g'.meth < 256 by omega) w' ((hT.cl c9).cl c) ((hw.cl c9).cl c) (hPz.step c) (c.blk hNode) (c.blk hG9.hb) hG9.pos (by rw [hydm]; exact hPy.step c)
   rw [hydm] at hstep
   have hmap : (L ++ [{ z with cv := cv' }]).map O4.p = (L ++ [z]).map O4.p := by simp
   have hmap2 : ((L ++ [z']) ++ [y]).map O4.p = (L ++ [z]).map O4.p ++ [made z.p m] := by simp [hsame.p, hyp]
   rw [hmap, hyp] at hend
   rw [← hend] at hst
   have hlenS : (stL (stepOf z.p m ((g'.meth : Int), g'.out))).length = 81 := U8 _
   have hst2 : (O ++ [stepOf z.p m ((g'.meth : Int), g'.out)]) ++ story (((L ++ [z']) ++ [y]).map O4.p) y.p ((g'.meth : Int), g'.out) (ms.drop (i + 1)) = S := by rw [hmap2, hyp, ← hst]; simp
   have hJ9 : ∀ n ∈ (L ++ [z']) ++ [y], Ch.B7 n.p := fun n hn => by
    rcases List.mem_append.1 hn with hn | hn
    ·rcases List.mem_append.1 hn with hn | hn
     ·exact hJ n (List.mem_append_left _ hn)
     ·rw [List.mem_singleton.1 hn, hsame.p]; exact hIz
    ·rw [List.mem_singleton.1 hn, hyp]; exact hI2
   generalize stepOf z.p m ((g'.meth : Int), g'.out) = SV at *
   refine zR ?_
   refine I1 true (F8 rfl) (zR ?_)
   have fin : ∀ w10 w11 w12 v', Cl w9 w10 → a8b w.heap.size w10 (.slice av O.length kv) w11 v' → Row 39 81 stL w.heap.size w11 v' (O ++ [SV]) → Upd w11 Ra (.cells #[v'] 28 (0, 0)) w12 →
     i + 1 ≤ ms.length ∧ K3 w12 G0 g' (L ++ [z']) y ∧ (L ++ [z']).length = i + 1 ∧ Ch.B7 y.p ∧ Ng y.p (i + 1) ∧ quiet y.p (ms.drop (i + 1)) = true ∧ (∀ n ∈ (L ++ [z']) ++ [y], Ch.B7 n.p) ∧ w.heap.size ≤ y.M ∧ w.heap.size ≤ y.P ∧ g'.meth ≤ 9
     ∧ (O ++ [SV]) ++ story (((L ++ [z']) ++ [y]).map O4.p) y.p ((g'.meth : Int), g'.out) (ms.drop (i + 1)) = S ∧ (O ++ [SV]).length = i + 1 ∧ Row 39 81 stL w.heap.size w12 v' (O ++ [SV])
     ∧ w12.heap[Ra]? = some (.cells #[v'] 28 (0, 0)) ∧ w12.heap[Rb]? = some (.cells #[.int .i64 0] 3 (0, 0)) ∧ w12.heap[Rc]? = some (.cells #[.bool false] 4 (0, 0)) ∧ Cl w w12 := by
    intro w10 w11 w12 v' c10 hg hr' u12
    have c010 := c9.trans c10
    have kg : KT 39 w10 w11 := KT.grow (hR9.step c10) hg
    have na11 := kg _ _ _ zd (c10.blk na9)
    have ku : KT 28 w11 w12 := KT.upd u12 na11
    refine ⟨hil, ku.game (kg.game (hG9.step c10) zd zd zd zd zd) zd zd zd zd zd, by rw [List.length_append, hLl]; rfl, by rw [hyp]; exact hI2, by rw [hyp]; exact hN2, by rw [hyp]; exact hq2, hJ9,
     by rw [y1]; omega, zo, hg9, hst2, by rw [List.length_append, hOl]; rfl, ku.row hr' zd, u12.at_, ku _ _ _ zd (kg _ _ _ zd (c10.blk nb9)), ku _ _ _ zd (kg _ _ _ zd (c10.blk nc9)), u12.cl (hg.toCl rfl c010) zo⟩
   have cD : Cl w9 w9.drew := Cl.drew (Cl.refl _)
   have hOn : O.length + 1 ≤ 1000 := by omega
   clear hst hst2 hJ9 hend hmap hmap2 hG8 hnd8 hps8 hgb8 off9 hPz hPy hNode hkS f9
   refine I8.mk2 [1, 2, 3] (.cons 0 (.cons 4 (.cons 5 (.cons 6 (.cons 7 .done .nil) .nil) .nil) .nil) (.cons 4 (.cons 0 (.cons 5 (.cons 6 (.cons 7 .done .nil) .nil) .nil) (.cons 5 (.cons 0 (.cons 6 (.cons 7 .done .nil) .nil) .nil) .nil)) .nil)) zk (zR ?_)
   refine And.intro ?_ (And.intro ?_ trivial)
   ·refine zR ?_
    refine b5 _ (W1 (v := .slice av O.length kv) (cD.blk na9) rfl rfl) (zE ?_)
    refine m9 (hstep _ cD) fun w10 c10 => ?_
    have c10 := cD.trans c10
    refine zE ?_
    refine E6 a8d [stV SV] (by rw [Array.toList_map]; rfl) (by simp [stV, Value.cells, hlenS]) rfl zd zd (zE ?_)
    refine P3 a8d SV rfl (hR9.step c10) rfl rfl (by simp [stV, Value.cells]) U8 a4g zo zd (c9.trans c10).size ?_
    intro v' w11 hr' hg
    have na11 := (KT.grow (hR9.step c10) hg) _ _ _ zd (c10.blk na9)
    obtain ⟨a9, k9, rfl, _⟩ := hr'.form
    refine zE ?_
    refine J6 na11 [.slice a9 (O ++ [SV]).length k9] rfl zk rfl (by intro v hv; simp at hv; subst hv; rfl) (Nat.le_of_ble_eq_true rfl) fun w12 u12 => zR ?_
    exact ⟨(i + 1, L ++ [z'], y, g', O ++ [SV], .slice a9 (O ++ [SV]).length k9), ⟨d6 ni, trivial⟩, fin w10 w11 w12 _ c10 hg hr' u12, by show ms.length - (i + 1) < ms.length - i; omega⟩
   ·refine zR ?_
    refine m9 (hstep _ cD) fun w10 c10 => ?_
    have c10 := cD.trans c10
    refine zR ?_
    refine And.intro ?_ (And.intro ?_ trivial)
    ·refine zR ?_
     refine b5 _ (W1 (v := .slice av O.length kv) (c10.blk na9) rfl rfl) (zE ?_)
     refine E6 a8d [stV SV] (by rw [Array.toList_map]; rfl) (by simp [stV, Value.cells, hlenS]) rfl zd zd (zE ?_)
     refine P3 a8d SV rfl (hR9.step c10) rfl rfl (by simp [stV, Value.cells]) U8 a4g zo zd (c9.trans c10).size ?_
     intro v' w11 hr' hg
     have na11 := (KT.grow (hR9.step c10) hg) _ _ _ zd (c10.blk na9)
     obtain ⟨a9, k9, rfl, _⟩ := hr'.form
     refine zE ?_
     refine J6 na11 [.slice a9 (O ++ [SV]).length k9] rfl zk rfl (by intro v hv; simp at hv; subst hv; rfl) (Nat.le_of_ble_eq_true rfl) fun w12 u12 => zR ?_
     exact ⟨(i + 1, L ++ [z'], y, g', O ++ [SV], .slice a9 (O ++ [SV]).length k9), ⟨d6 ni, trivial⟩, fin w10 w11 w12 _ c10 hg hr' u12, by show ms.length - (i + 1) < ms.length - i; omega⟩
    ·refine zR ?_
     refine E6 a8d [stV SV] (by rw [Array.toList_map]; rfl) (by simp [stV, Value.cells, hlenS]) rfl zd zd (zE ?_)
     refine b5 _ (W1 (v := .slice av O.length kv) ((c10.trans (Cl.alloc _ _)).blk na9) rfl rfl) (zE ?_)
     refine P3 a8d SV rfl (hR9.step c10) rfl rfl (by simp [stV, Value.cells]) U8 a4g zo zd (c9.trans c10).size ?_
     intro v' w11 hr' hg
     have na11 := (KT.grow (hR9.step c10) hg) _ _ _ zd (c10.blk na9)
     obtain ⟨a9, k9, rfl, _⟩ := hr'.form
     refine zE ?_
     refine J6 na11 [.slice a9 (O ++ [SV]).length k9] rfl zk rfl (by intro v hv; simp at hv; subst hv; rfl) (Nat.le_of_ble_eq_true rfl) fun w12 u12 => zR ?_
     exact ⟨(i + 1, L ++ [z'], y, g', O ++ [SV], .slice a9 (O ++ [SV]).length k9), ⟨d6 ni, trivial⟩, fin w10 w11 w12 _ c10 hg hr' u12, by show ms.length - (i + 1) < ms.length - i; omega⟩
 ·have e : i = ms.length := by omega
  have hO : O = S := by rw [← hst, e, List.drop_length]; show O = O ++ []; rw [List.append_nil]
  refine zR ?_
  refine b5 _ (W1 (v := .slice av O.length kv) na rfl rfl) (zR ?_)
  refine b5 _ (W1 (v := .slice av O.length kv) na rfl rfl) (zR ?_)
  refine zT na [.slice av O.length kv] fun w6 u6 => ?_
  refine zR ?_
  refine zT ((Tn.upd u6).blk nb zo) [.int .i64 O.length] fun w7 u7 => ?_
  refine zR ?_
  refine J6 ((Tn.upd u7).blk ((Tn.upd u6).blk nc zo) zo) [.bool true] rfl zk rfl (by intro v hv; simp at hv; subst hv; rfl) (Nat.le_of_ble_eq_true rfl) fun w8 u8 => zR ?_
  have ka : w8.heap[Ra]? = some (.cells #[.slice av O.length kv] 28 (0, 0)) := (Tn.upd u8).blk ((Tn.upd u7).blk u6.at_ zo) zo
  have kb : w8.heap[Rb]? = some (.cells #[.int .i64 O.length] 3 (0, 0)) := (Tn.upd u8).blk u7.at_ zo
  have kc : w8.heap[Rc]? = some (.cells #[.bool true] 4 (0, 0)) := u8.at_
  have hR8 := ((hR.updT u6 na zd).updT u7 ((Tn.upd u6).blk nb zo) zd).updT u8 ((Tn.upd u7).blk ((Tn.upd u6).blk nc zo) zo) zd
  have c8 := u8.cl (u7.cl (u6.cl c5 zo) zo) zo
  refine ⟨.inr rfl, .slice av O.length kv, .int .i64 O.length, .bool true, ⟨⟨_, rfl, W1 ka rfl rfl⟩, ⟨_, rfl, W1 kb rfl rfl⟩, _, rfl, W1 kc rfl rfl⟩, .slice av O.length kv, ?_, ?_, c8⟩
  ·rw [← hO]
  ·rw [← hO, hRa]; exact hR8
theorem b10 {p : k8} {ms : List Mv} (h : a6k p ms = true) : B7 p ∧ p.half ≤ 1000000 ∧ p.full ≤ 1000000 ∧ ms.length ≤ 80 ∧ quiet p ms = true := by
 unfold a6k at h
 simp only [Bool.and_eq_true, decide_eq_true_eq] at h
 obtain ⟨⟨⟨⟨h1, h2⟩, h3⟩, h4⟩, h5⟩ := h
 exact ⟨(a5p p).1 h1, h2, h3, h4, h5⟩
theorem a8W {l : List k8} {p : k8} {mo : Int × Tx} (h0 : 0 ≤ mo.1) (h9 : mo.1 ≤ 9) (hl : mo.2.length ≤ 1000) : 0 ≤ (ending l p mo).1 ∧ (ending l p mo).1 ≤ 9 ∧ (ending l p mo).2.length ≤ 1000 := by
 have hd : drawT.length ≤ 1000 := by decide
 have hw : (a1X p.turn).length ≤ 1000 := by unfold a1X; split <;> decide
 unfold ending
 simp only
 repeat' split
 all_goals first
  | exact ⟨h0, h9, hl⟩
  | exact ⟨by simp only; omega, by simp only; omega, hd⟩
  | exact ⟨by simp only; omega, by simp only; omega, hw⟩
theorem b7n (m : Mv) : (uciT m).length ≤ 5 := by
 have h1 := a0a m.fr
 have h2 := a0a m.to
 have h3 := a8L m.promo
 unfold uciT
 rw [List.length_append, List.length_append]
 split
 ·omega
 ·simp only [List.length_nil]; omega
theorem b7o (p : k8) (m : Mv) : (lanT p m).length ≤ 11 := by
 unfold lanT
 split
 ·exact b0C p m
 ·have h1 := a0a m.fr
  have h2 := a0a m.to
  have h3 := L7 (kindOf (sq p m.fr))
  have h4 := a30 p m
  have h5 := a2w m
  have h6 := a3y p m
  simp only [List.length_append]
  omega
theorem b9g (p : k8) (m : Mv) : 0 ≤ told p m ∧ told p m ≤ 100 := by
 unfold told F6 castleKind
 repeat' split
 all_goals omega
theorem b5j {p : k8} (hh : p.half.toNat < 10000000) (hf : p.full.toNat < 10000000) : (xfenT p).length ≤ 1000 := by
 unfold xfenT
 split
 ·exact a5a hh hf
 ·exact a5a (p := { p with ep := -1 }) hh hf
theorem c1d {p : k8} (hI : B7 p) (hh : p.half ≤ 5000000) (hf : p.full ≤ 5000000) {m : Mv} (hm : m ∈ y8 p) (hr : MvR m) {mo : Int × Tx} (h0 : 0 ≤ mo.1) (h9 : mo.1 ≤ 9) (hl : mo.2.length ≤ 1000) : StR (stepOf p m mo) := by
 have hI2 := hI.made hm
 have a1 := a3v hI m
 have a2 := a3w hI m
 have a3 := b9g p m
 have a4 := b0C p m
 have a5 := b7o p m
 have a6 := b7n m
 have a7 : a4b (made p m) := a6G hI2 ⟨zo, zo⟩
 have a8 : (fenT (made p m)).length ≤ 1000 := a5a zo zo
 have a9 : (xfenT (made p m)).length ≤ 1000 := b5j zo zo
 have b1 : I64 (told p m) := ⟨zo, zo⟩
 have b2 : I64 mo.1 := ⟨zo, zo⟩
 have b3 : I64 (statusOf (made p m)) := by
  unfold statusOf
  repeat' split
  all_goals exact ⟨zo, zo⟩
 unfold stepOf
 generalize told p m = x1 at *
 generalize sanT p m = x2 at *
 generalize lanT p m = x3 at *
 generalize uciT m = x4 at *
 generalize fenT (made p m) = x5 at *
 generalize xfenT (made p m) = x6 at *
 generalize statusOf (made p m) = x7 at *
 generalize made p m = q at *
 exact ⟨hr, b1, by simp only; omega, by simp only; omega, by simp only; omega, a8, a9, a7, hl, b2, b3⟩
theorem b11 : ∀ (ms : List Mv) (l : List k8) (p : k8) (mo : Int × Tx), B7 p → p.half + ms.length ≤ 5000000 → p.full + ms.length ≤ 5000000 → (∀ m ∈ ms, MvR m) → 0 ≤ mo.1 → mo.1 ≤ 9 → mo.2.length ≤ 1000 → ∀ s ∈ story l p mo ms, StR s := by
 intro ms
 induction ms with
 | nil => intro l p mo _ _ _ _ _ _ _ s hs; cases hs
 | cons m r ih =>
  intro l p mo hI hh hf hms h0 h9 hl s hs
  rw [a2z] at hs
  split at hs
  ·rename_i hm
   have hm : m ∈ y8 p := of_decide_eq_true hm
   have a1 := a3v hI m
   have a2 := a3w hI m
   have a3 := hI.h0
   have a4 := hI.f1
   simp only [List.length_cons] at hh hf
   obtain ⟨b0, b9, bl⟩ := a8W (l := l ++ [made p m]) (p := made p m) h0 h9 hl
   rcases List.mem_cons.1 hs with e | hs
   ·subst e
    exact c1d hI zo zo hm (hms m List.mem_cons_self) b0 b9 bl
   ·exact ih _ _ _ (hI.made hm) zo zo (fun x hx => hms x (List.mem_cons_of_mem _ hx)) b0 b9 bl s hs
  ·cases hs
theorem a5E : ∀ (ms : List Mv) (l : List k8) (p : k8) (mo : Int × Tx), (story l p mo ms).length ≤ ms.length := by
 intro ms
 induction ms with
 | nil => intro l p mo; exact Nat.le_refl _
 | cons m r ih =>
  intro l p mo
  rw [a2z]
  split
  ·have := ih (l ++ [made p m]) (made p m) (ending (l ++ [made p m]) (made p m) mo)
   simp only [List.length_cons]; omega
  ·simp
theorem a23 {p : k8} (hI : B7 p) (hh : p.half ≤ 1000000) (hf : p.full ≤ 1000000) {ms : List Mv} (hn : ms.length ≤ 80) (hms : ∀ m ∈ ms, MvR m) (looked : Bool) : ∀ s ∈ storyOf p looked ms, StR s := by
 have hs : star.length ≤ 1000 := by decide
 have h0 : (0 : Int) ≤ ((0 : Int), star).1 := Int.le_refl 0
 have h9 : ((0 : Int), star).1 ≤ 9 := show (0 : Int) ≤ 9 by omega
 obtain ⟨b0, b9, bl⟩ := a8W (l := [p]) (p := p) h0 h9 hs
 have e : storyOf p looked ms = story [p] p (if looked then ending [p] p (0, star) else (0, star)) ms := rfl
 rw [e]
 split
 ·exact b11 ms _ _ _ hI zo zo hms b0 b9 bl
 ·exact b11 ms _ _ _ hI zo zo hms h0 h9 hs
end
end Go.Proofs.YtpclhlhcegcflaaGreatDoor
