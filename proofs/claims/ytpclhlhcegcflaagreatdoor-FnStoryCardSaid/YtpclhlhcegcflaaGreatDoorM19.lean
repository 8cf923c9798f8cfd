/- One part of the proof: Pk17 Pk18 Pk19 Pk20 Pk21 Pk22. -/
import Derived.Test.YtpclhlhcegcflaaGreatDoorM1
import Derived.Test.YtpclhlhcegcflaaGreatDoorM3
import Derived.Test.YtpclhlhcegcflaaGreatDoorM18
namespace Go.Proofs.YtpclhlhcegcflaaGreatDoor
set_option maxRecDepth 100000
set_option linter.unusedSimpArgs false
set_option linter.unusedVariables false
section
open Go Go.RowKit
open E
open Ch Bb
theorem told_bits2 {p : Pos} {m : Mv} {t : Nat} (h : (t : Int) = told p m) : t.testBit 2 = decide (sq p m.to ≠ 0) ∧ t.testBit 3 = (decide (sq p m.to = 0) && takes p m) ∧ t < 64 := by
 unfold told toldBase at h
 have e := congrArg Int.toNat h
 rw [Int.toNat_natCast] at e
 clear h
 subst e
 generalize takes p m = tk at *
 generalize inCheck (made p m) = ck at *
 have hk := castleKind_cases p m
 generalize castleKind p m = c at *
 by_cases h0 : sq p m.to = 0
 ·have e1 : decide (sq p m.to ≠ 0) = false := decide_eq_false (fun e => e h0)
  rw [e1, decide_eq_true h0, if_neg (fun e => e h0)]
  cases tk <;> cases ck <;> rcases hk with rfl | rfl | rfl <;> decide
 ·have e1 : decide (sq p m.to ≠ 0) = true := decide_eq_true h0
  rw [e1, decide_eq_false h0, if_pos h0]
  cases ck <;> rcases hk with rfl | rfl | rfl <;> cases tk <;> decide
theorem upd_board {p : Pos} (hI : Inv p) {m : Mv} (hm : m ∈ legal p) {t : Nat} (h : (t : Int) = told p m) : (mbOf p).move m t = mbOf (made p m) := by
 obtain ⟨b0, b1, _, _⟩ := told_bits h
 obtain ⟨_, b3, _⟩ := told_bits2 h
 rcases (legal_iff hI m).1 hm with ⟨hp, _⟩ | ⟨r, hr, _⟩
 ·have hck := (casTag_plain hI hp).2
  refine move_plain hI hp ?_ (by rw [b0, hck]; rfl) (by rw [b1, hck]; rfl)
  rw [b3]
  have := capTag_eq hI hp
  by_cases h0 : sq p m.to = 0
  ·rw [if_neg (fun e => e h0)] at this
   rw [decide_eq_true h0, Bool.true_and]
   cases e : takes p m
   ·rw [e] at this; exact (decide_eq_false (by simp at this; omega)).symm
   ·rw [e] at this; exact (decide_eq_true (by simp at this; omega)).symm
  ·rw [if_pos h0] at this
   rw [decide_eq_false h0, Bool.false_and]
   exact (decide_eq_false zo).symm
 ·obtain ⟨r4, rt, rb, hc⟩ := castle_of hI hr
  have hto := hc.to
  have hmv := hc.mv
  have htk := castle_takes hI hc
  have hw : (if homeR (r : Int) < homeK r then (-1 : Int) else 1) = 1 ∨ (if homeR (r : Int) < homeK r then (-1 : Int) else 1) = -1 := by split <;> simp
  generalize (if homeR (r : Int) < homeK r then (-1 : Int) else 1) = w at *
  generalize homeK (r : Int) = K at *
  have hking := hc.king
  have ek : castleKind p m = if w = 1 then 1 else 2 := by
   unfold castleKind
   rw [hmv]
   simp only [hking, kind_king hI]
   rcases hw with rfl | rfl
   ·rw [if_neg zd, if_pos zo, if_pos rfl]
   ·rw [if_neg zd, if_neg zo, if_pos zo, if_neg zd]
  refine move_castle hI hc (by rw [b3, htk, Bool.and_false]) ?_ ?_
  ·rw [b0, ek]; rcases hw with rfl | rfl <;> decide
  ·rw [b1, ek]; rcases hw with rfl | rfl <;> decide
theorem kind_capture {p : Pos} {m : Mv} (h : kindOf (sq p m.fr) ≠ 6) : takes p m = decide (sq p m.to ≠ 0) := by
 unfold takes
 rw [decide_eq_false h, Bool.false_and, Bool.or_false]
 by_cases e : sq p m.to = 0 <;> simp [e]
theorem Update_c {p : Pos} (hI : Inv p) (hN : Nums p) {P b M : Nat} {cv : Value} {d : Nd} (hm : d.mv ∈ legal p) (htg : (d.tags : Int) = told p d.mv) (w : World) (hT : Tabs w) (hP : PosM w P b p cv)
  (hM : w.heap[M]? = some (.cells (ndA d) 141 (0, 0))) :
  Calls G.P 203 #[.pointer (some ⟨P, 0, none⟩), .pointer (some ⟨M, 0, none⟩)] w (fun r w' => ∃ P' b', r = .returned (.pointer (some ⟨P', 0, none⟩)) ∧ w.heap.size ≤ P' ∧ w.heap.size ≤ b' ∧ PosM w' P' b' (made p d.mv) (.slice none 0 0) ∧ Cl w w') := by
 obtain ⟨f0, f1, t0, t1, hpm⟩ := legal_range hI hm
 obtain ⟨_, _, _, hb4⟩ := told_bits htg
 obtain ⟨hb2, _, h64⟩ := told_bits2 htg
 have hub := upd_board hI hm htg
 have hcr := crM_eq hI hm
 have hep := epM_eq hI hm
 obtain ⟨fr, hfr⟩ := Int.eq_ofNat_of_zero_le f0
 have hf64 : fr < 64 := by omega
 have pc := fun w hT hB => Piece_c (mbOf p) b (t := 237) (fz := (0, 0)) fr hf64 w hT hB
 rw [at_of' hI.pc hf64, ← hfr] at pc
 have hpr := hI.pc d.mv.fr
 have ht := hI.turn
 have ety := fun w => Type_c (sq p d.mv.fr) hpr.1 hpr.2 w
 have hcap := kind_capture (p := p) (m := d.mv)
 refine zN Tryz.func203 ?_
 have hP0 := hP.hd
 have hPs : P < w.heap.size := (Array.getElem?_eq_some_iff.1 hP0).1
 have hbs : b < w.heap.size := (Array.getElem?_eq_some_iff.1 hP.bd).1
 have hMs : M < w.heap.size := (Array.getElem?_eq_some_iff.1 hM).1
 have hfull : (made p d.mv).full = p.full + p.turn := rfl
 have hhalf : (made p d.mv).half = if takes p d.mv || decide (kindOf (sq p d.mv.fr) = 6) then 0 else p.half + 1 := rfl
 have hturn : (hdOf p (inCheck p)).turn = p.turn + 1 := rfl
 have n1 := hN.1; have n2 := hN.2
 have h0 := hI.h0; have hf1 := hI.f1
 refine zG ?_
 refine Nx.mk (zR ?_)
 refine loadK _ (ldHfull hP0) ?_
 have ef : (hdOf p (inCheck p)).full = p.full := rfl
 rw [ef]
 refine zG ?_
 refine joinK (σ := Unit) [5] 6 (fun _ => [(5, .int .i64 (made p d.mv).full)]) (fun _ w' => w' = w) zk ?_ (fun _ j w1 e1 => ?_)
 ·refine zR ?_
  refine kHt hP0 ?_
  rw [hturn]
  refine zR ?_
  apply E.dsplit<;>intro h
  ·refine zR ?_
   exact ⟨(), ⟨int_eq (by rw [w64_in zo zo, hfull]; omega), trivial⟩, rfl⟩
  ·refine zR ?_
   exact ⟨(), ⟨int_eq (by rw [hfull]; omega), trivial⟩, rfl⟩
 subst e1
 refine zR ?_
 refine gen_eqN false (cmp_ptr rfl _) (zR ?_)
 refine callR (updateCastleRights_c hI f0 f1 w1 hT hP0 hP.bd hM) fun w2 c2 => ?_
 rw [hcr]
 have hP2 := hP.step c2
 have hM2 := c2.blk hM
 have hT2 := hT.cl c2
 refine zR ?_
 refine zK 9 ?_
 refine zR ?_
 refine qHb hP2.hd (zR ?_)
 refine qNfr hM2 (zR ?_)
 refine callQs _ (fun w hw => pc w (hT2.cl hw) (hw.blk hP2.bd)) (zR ?_)
 intro w3 c3
 have c3' := c2.trans c3
 have hP3 := hP.step c3'
 have hM3 := c3'.blk hM
 refine zR ?_
 refine loadK _ (ldHhalf hP3.hd) ?_
 have eh : (hdOf p (inCheck p)).half = p.half := rfl
 rw [eh]
 refine zG ?_
 refine joinK (σ := Unit) [8] 9 (fun _ => [(8, .int .i64 (made p d.mv).half)]) (fun _ w' => w' = w3) zk ?_ (fun _ j w4 e4 => ?_)
 ·refine zR ?_
  refine callS (ety _) (zR ?_)
  apply E.dsplit<;>intro h
  ·refine zR ?_
   exact ⟨(), ⟨int_eq (by rw [hhalf, decide_eq_true h, Bool.or_true]; rfl), trivial⟩, rfl⟩
  ·have htag : Calls G.P 147 #[.pointer (some ⟨M, 0, none⟩), .int .u16 4] w3 (RetS (.bool (d.tags.testBit 2)) w3) := HasTag_c (k := 2) zd zo w3 hM3
   rw [hb2, ← hcap h] at htag
   have hk := decide_eq_false h
   refine zR ?_
   refine callS htag ?_
   cases htk : takes p d.mv
   ·refine zR ?_
    exact ⟨(), ⟨int_eq (by rw [hhalf, htk, hk, w64_in zo zo]; rfl), trivial⟩, rfl⟩
   ·refine zR ?_
    exact ⟨(), ⟨int_eq (by rw [hhalf, htk]; rfl), trivial⟩, rfl⟩
 subst e4
 refine zR ?_
 refine kHb hP3.hd (zR ?_)
 refine callK (BoardCopy_c (mbOf p) b w4 hP3.bd) ?_
 rintro r w5 ⟨b', rfl, hb', hB5, c5⟩
 refine ⟨_, rfl, ?_⟩
 have c5' := c3'.trans c5
 have hP5 := hP.step c5'
 have hM5 := c5'.blk hM
 have s3 := c3'.size
 have s5 := c5'.size
 refine zR ?_
 refine callK (update_c (d := d) f0 f1 t0 t1 zo (by rw [hfr, Int.toNat_natCast, at_of' hI.pc hf64, ← hfr]; rcases hpm with e | ⟨e1, e2, e3⟩; exact .inl e; exact .inr ⟨zo, zo, fun e => by rw [e] at e3; exact absurd e3 zd⟩) zo w5 (hT.cl c5') hB5 hM5) ?_
 rintro r w6 ⟨rfl, hB6, n6⟩
 refine ⟨_, rfl, ?_⟩
 rw [hub] at hB6
 have c6 : Cl w1 w6 := n6.toCl c5' zo
 have hP6 := hP.step c6
 have hM6 := c6.blk hM
 have hT6 := hT.cl c6
 refine zR ?_
 refine kHt hP6.hd ?_
 rw [hturn]
 refine zR ?_
 refine callS (Other_c (p.turn + 1) zo _) (zR ?_)
 refine callR (updateEp_c hI f0 f1 t0 t1 w6 hT6 hP6.hd hP6.bd hM6) fun w7 c7 => ?_
 rw [hep]
 have c7' := c6.trans c7
 have hM7 := c7'.blk hM
 have htag : Calls G.P 147 #[.pointer (some ⟨M, 0, none⟩), .int .u16 16] w7 (RetS (.bool (d.tags.testBit 4)) w7) := HasTag_c (k := 4) zd zo w7 hM7
 rw [hb4] at htag
 refine zR ?_
 refine callS htag (zR ?_)
 have e3 : 3 - (p.turn + 1) = (made p d.mv).turn + 1 := by show 3 - (p.turn + 1) = (1 - p.turn) + 1; omega
 rw [e3]
 refine gen_build (hdA b' (hdOf (made p d.mv) (inCheck (made p d.mv))) (.slice none 0 0)) zk (zR ?_)
 exact ⟨_, _, rfl, c7'.size, zo, ⟨alloc_new _ _, (Cl.alloc _ _).blk (c7.blk hB6), .inl rfl⟩, c7'.trans (Cl.alloc _ _)⟩
theorem in8 {n : Int} (h0 : 0 ≤ n) (h1 : n ≤ 7) : n = 0 ∨ n = 1 ∨ n = 2 ∨ n = 3 ∨ n = 4 ∨ n = 5 ∨ n = 6 ∨ n = 7 := by omega
theorem fStr_c (f : Int) (h0 : 0 ≤ f) (h1 : f ≤ 7) (w : World) : Calls G.P 156 #[.int .i8 f] w (RetS (txV [UInt8.ofNat (97 + f.toNat)]) w) := by
 refine zN Tryz.func156 ?_
 have e1 : IntKind.i8.wrap (f + 1) = f + 1 := w8_in zo zo
 refine zR ?_
 rw [e1]
 refine gen_cut [UInt8.ofNat (97 + f.toNat)] rfl rfl rfl (mk_tx _) h0 zo (by simp; omega) ?_ ?_
 ·rw [show (f + 1).toNat - f.toNat = 1 by omega]; exact cutF _ zo
 refine zR ?_
 exact ⟨rfl, rfl⟩
theorem rStr_c (f : Int) (h0 : 0 ≤ f) (h1 : f ≤ 7) (w : World) : Calls G.P 210 #[.int .i8 f] w (RetS (txV [UInt8.ofNat (49 + f.toNat)]) w) := by
 refine zN Tryz.func210 ?_
 have e1 : IntKind.i8.wrap (f + 1) = f + 1 := w8_in zo zo
 refine zR ?_
 rw [e1]
 refine gen_cut [UInt8.ofNat (49 + f.toNat)] rfl rfl rfl (mk_tx _) h0 zo (by simp; omega) ?_ ?_
 ·rw [show (f + 1).toNat - f.toNat = 1 by omega]; exact cutR _ zo
 refine zR ?_
 exact ⟨rfl, rfl⟩
theorem fileT_len (s : Int) : (fileT s).length = 1 := rfl
theorem sqStr_c (s : Int) (h0 : 0 ≤ s) (h1 : s ≤ 63) (w : World) : Calls G.P 157 #[.int .i8 s] w (RetS (txV (fileT s ++ rankT s)) w) := by
 refine zN Tryz.func157 ?_
 refine zR ?_
 refine callS (sFile_c s h0 h1 _) (zR ?_)
 refine callS (fStr_c (s % 8) zo zo _) (zR ?_)
 refine callS (sRank_c s h0 h1 _) (zR ?_)
 refine callS (rStr_c (s / 8) zo zo _) (zR ?_)
 exact ⟨by rw [tx_app]; rfl, rfl⟩
theorem fByte_c (f : Int) (h0 : 0 ≤ f) (h1 : f ≤ 7) (w : World) : Calls G.P 208 #[.int .i8 f] w (RetS (.int .u8 ((UInt8.ofNat (97 + f.toNat)).toNat : Int)) w) := by
 refine zN Tryz.func208 ?_
 rcases in8 h0 h1 with rfl | rfl | rfl | rfl | rfl | rfl | rfl | rfl <;> (refine zR ?_) <;> exact ⟨rfl, rfl⟩
theorem rByte_c (f : Int) (h0 : 0 ≤ f) (h1 : f ≤ 7) (w : World) : Calls G.P 209 #[.int .i8 f] w (RetS (.int .u8 ((UInt8.ofNat (49 + f.toNat)).toNat : Int)) w) := by
 refine zN Tryz.func209 ?_
 rcases in8 h0 h1 with rfl | rfl | rfl | rfl | rfl | rfl | rfl | rfl <;> (refine zR ?_) <;> exact ⟨rfl, rfl⟩
theorem kinds {k : Int} (h0 : 0 ≤ k) (h1 : k ≤ 6) : k = 0 ∨ k = 1 ∨ k = 2 ∨ k = 3 ∨ k = 4 ∨ k = 5 ∨ k = 6 := by omega
theorem letter_c (k : Int) (h0 : 0 ≤ k) (h1 : k ≤ 6) (w : World) : Calls G.P 151 #[.int .i8 k] w (RetS (txV (letter k)) w) := by
 refine zN Tryz.func151 ?_
 rcases kinds h0 h1 with rfl | rfl | rfl | rfl | rfl | rfl | rfl <;> (refine zR ?_) <;> exact ⟨rfl, rfl⟩
theorem charForPromo_c (k : Int) (h : k = 0 ∨ (2 ≤ k ∧ k ≤ 5)) (w : World) : Calls G.P 158 #[.int .i8 k] w (RetS (txV (if k = 0 then [] else [61] ++ letter k)) w) := by
 have hl := fun w => letter_c k zo zo w
 refine zN Tryz.func158 ?_
 refine zR ?_
 refine callS (hl _) ?_
 have hk : k = 0 ∨ k = 2 ∨ k = 3 ∨ k = 4 ∨ k = 5 := by omega
 rcases hk with rfl | rfl | rfl | rfl | rfl <;> (refine zR ?_) <;> exact ⟨rfl, rfl⟩
theorem sqBytes_c (s : Int) (h0 : 0 ≤ s) (h1 : s ≤ 63) (w : World) : Calls G.P 161 #[.int .i8 s] w (fun r w' => ∃ v, r = .returned v ∧ Row 5 1 encB w.heap.size w' v (fileT s ++ rankT s) ∧ Cl w w') := by
 refine zN Tryz.func161 ?_
 refine zR ?_
 refine callS (sFile_c s h0 h1 _) (zR ?_)
 refine callS (fByte_c (s % 8) zo zo _) (zR ?_)
 refine callS (sRank_c s h0 h1 _) (zR ?_)
 refine callS (rByte_c (s / 8) zo zo _) (zR ?_)
 refine zL elByte [.int .u8 ((UInt8.ofNat (97 + (s % 8).toNat)).toNat : Int), .int .u8 ((UInt8.ofNat (49 + (s / 8).toNat)).toNat : Int)] ?_
 have hr := row_new encB_len w (fileT s ++ rankT s) (by simp [fileT, rankT]) [.int .u8 ((UInt8.ofNat (97 + (s % 8).toNat)).toNat : Int), .int .u8 ((UInt8.ofNat (49 + (s / 8).toNat)).toNat : Int)] rfl (e := 5) (z := 1)
 refine zR ?_
 exact ⟨_, rfl, hr, Cl.alloc _ _⟩
theorem ptBytes_c (k : Int) (h0 : 0 ≤ k) (h1 : k ≤ 6) (w : World) : Calls G.P 162 #[.int .i8 k] w (fun r w' => ∃ v, r = .returned v ∧ Row 5 1 encB w.heap.size w' v (small k) ∧ Cl w w') := by
 refine zN Tryz.func162 ?_
 rcases kinds h0 h1 with rfl | rfl | rfl | rfl | rfl | rfl | rfl
 ·refine zR ?_
  refine gen_bs0 elByte (zR ?_)
  exact ⟨_, rfl, Row.blk (l := []) encB_len zd (Nat.le_refl _) (alloc_new _ _), Cl.alloc _ _⟩
 ·refine zR ?_
  refine zL elByte [.int .u8 107] ?_
  have hr := row_new encB_len w [107] zd [.int .u8 107] rfl (e := 5) (z := 1)
  refine zR ?_
  exact ⟨_, rfl, hr, Cl.alloc _ _⟩
 ·refine zR ?_
  refine zL elByte [.int .u8 113] ?_
  have hr := row_new encB_len w [113] zd [.int .u8 113] rfl (e := 5) (z := 1)
  refine zR ?_
  exact ⟨_, rfl, hr, Cl.alloc _ _⟩
 ·refine zR ?_
  refine zL elByte [.int .u8 114] ?_
  have hr := row_new encB_len w [114] zd [.int .u8 114] rfl (e := 5) (z := 1)
  refine zR ?_
  exact ⟨_, rfl, hr, Cl.alloc _ _⟩
 ·refine zR ?_
  refine zL elByte [.int .u8 98] ?_
  have hr := row_new encB_len w [98] zd [.int .u8 98] rfl (e := 5) (z := 1)
  refine zR ?_
  exact ⟨_, rfl, hr, Cl.alloc _ _⟩
 ·refine zR ?_
  refine zL elByte [.int .u8 110] ?_
  have hr := row_new encB_len w [110] zd [.int .u8 110] rfl (e := 5) (z := 1)
  refine zR ?_
  exact ⟨_, rfl, hr, Cl.alloc _ _⟩
 ·refine zR ?_
  refine zL elByte [.int .u8 112] ?_
  have hr := row_new encB_len w [112] zd [.int .u8 112] rfl (e := 5) (z := 1)
  refine zR ?_
  exact ⟨_, rfl, hr, Cl.alloc _ _⟩
theorem fenChar_c (x : Int) (h0 : 1 ≤ x) (h1 : x ≤ 12) (c : UInt8) (hc : pcT x = [c]) (w : World) (hT : Tabs w) : Calls G.P 212 #[.int .i8 x] w (RetS (.int .u8 (c.toNat : Int)) w) := by
 have ct := fun w => Type_c x zo h1 w
 have cc := fun w => Color_c x zo h1 w
 refine zN Tryz.func212 ?_
 have tw := hT.wfen
 have tb := hT.bfen
 rcases (by omega : x = 1 ∨ x = 2 ∨ x = 3 ∨ x = 4 ∨ x = 5 ∨ x = 6 ∨ x = 7 ∨ x = 8 ∨ x = 9 ∨ x = 10 ∨ x = 11 ∨ x = 12) with rfl | rfl | rfl | rfl | rfl | rfl | rfl | rfl | rfl | rfl | rfl | rfl
 ·have e : ([75] : Tx) = [c] := hc
  injection e with e
  subst e
  refine zR ?_
  refine callS (ct _) (zR ?_)
  refine callS (cc _) (zR ?_)
  refine loadK _ (ldTab tw (i := 1) zd rfl rfl) (zR ?_)
  exact ⟨rfl, rfl⟩
 ·have e : ([81] : Tx) = [c] := hc
  injection e with e
  subst e
  refine zR ?_
  refine callS (ct _) (zR ?_)
  refine callS (cc _) (zR ?_)
  refine loadK _ (ldTab tw (i := 2) zd rfl rfl) (zR ?_)
  exact ⟨rfl, rfl⟩
 ·have e : ([82] : Tx) = [c] := hc
  injection e with e
  subst e
  refine zR ?_
  refine callS (ct _) (zR ?_)
  refine callS (cc _) (zR ?_)
  refine loadK _ (ldTab tw (i := 3) zd rfl rfl) (zR ?_)
  exact ⟨rfl, rfl⟩
 ·have e : ([66] : Tx) = [c] := hc
  injection e with e
  subst e
  refine zR ?_
  refine callS (ct _) (zR ?_)
  refine callS (cc _) (zR ?_)
  refine loadK _ (ldTab tw (i := 4) zd rfl rfl) (zR ?_)
  exact ⟨rfl, rfl⟩
 ·have e : ([78] : Tx) = [c] := hc
  injection e with e
  subst e
  refine zR ?_
  refine callS (ct _) (zR ?_)
  refine callS (cc _) (zR ?_)
  refine loadK _ (ldTab tw (i := 5) zd rfl rfl) (zR ?_)
  exact ⟨rfl, rfl⟩
 ·have e : ([80] : Tx) = [c] := hc
  injection e with e
  subst e
  refine zR ?_
  refine callS (ct _) (zR ?_)
  refine callS (cc _) (zR ?_)
  refine loadK _ (ldTab tw (i := 6) zd rfl rfl) (zR ?_)
  exact ⟨rfl, rfl⟩
 ·have e : ([107] : Tx) = [c] := hc
  injection e with e
  subst e
  refine zR ?_
  refine callS (ct _) (zR ?_)
  refine callS (cc _) (zR ?_)
  refine loadK _ (ldTab tb (i := 1) zd rfl rfl) (zR ?_)
  exact ⟨rfl, rfl⟩
 ·have e : ([113] : Tx) = [c] := hc
  injection e with e
  subst e
  refine zR ?_
  refine callS (ct _) (zR ?_)
  refine callS (cc _) (zR ?_)
  refine loadK _ (ldTab tb (i := 2) zd rfl rfl) (zR ?_)
  exact ⟨rfl, rfl⟩
 ·have e : ([114] : Tx) = [c] := hc
  injection e with e
  subst e
  refine zR ?_
  refine callS (ct _) (zR ?_)
  refine callS (cc _) (zR ?_)
  refine loadK _ (ldTab tb (i := 3) zd rfl rfl) (zR ?_)
  exact ⟨rfl, rfl⟩
 ·have e : ([98] : Tx) = [c] := hc
  injection e with e
  subst e
  refine zR ?_
  refine callS (ct _) (zR ?_)
  refine callS (cc _) (zR ?_)
  refine loadK _ (ldTab tb (i := 4) zd rfl rfl) (zR ?_)
  exact ⟨rfl, rfl⟩
 ·have e : ([110] : Tx) = [c] := hc
  injection e with e
  subst e
  refine zR ?_
  refine callS (ct _) (zR ?_)
  refine callS (cc _) (zR ?_)
  refine loadK _ (ldTab tb (i := 5) zd rfl rfl) (zR ?_)
  exact ⟨rfl, rfl⟩
 ·have e : ([112] : Tx) = [c] := hc
  injection e with e
  subst e
  refine zR ?_
  refine callS (ct _) (zR ?_)
  refine callS (cc _) (zR ?_)
  refine loadK _ (ldTab tb (i := 6) zd rfl rfl) (zR ?_)
  exact ⟨rfl, rfl⟩
theorem getCheckChar_c {p : Pos} (hI : Inv p) (hN : Nums p) {d : Nd} (hle : Inv (made p d.mv) ∧ (macStd (made p d.mv)).length ≤ 218) {P b M : Nat} {cv : Value} (hm : d.mv ∈ legal p) (htg : (d.tags : Int) = told p d.mv) (w : World) (hT : Tabs w) (hP : PosM w P b p cv)
  (hM : w.heap[M]? = some (.cells (ndA d) 141 (0, 0))) :
  Calls G.P 146 #[.pointer (some ⟨P, 0, none⟩), .pointer (some ⟨M, 0, none⟩)] w (Ret (txV (signM p d.mv d.tags)) w) := by
 obtain ⟨_, _, _, hb4⟩ := told_bits htg
 obtain ⟨_, _, h64⟩ := told_bits2 htg
 obtain ⟨hI2, hle2⟩ := hle
 have htag : Calls G.P 147 #[.pointer (some ⟨M, 0, none⟩), .int .u16 16] w (RetS (.bool (d.tags.testBit 4)) w) := HasTag_c (k := 4) zd zo w hM
 have hs : signM p d.mv d.tags = if d.tags.testBit 4 then (if (legal (made p d.mv)).isEmpty then [35] else [43]) else [] := rfl
 rw [hs]
 refine zN Tryz.func146 ?_
 refine zR ?_
 refine callS htag ?_
 cases hb : d.tags.testBit 4
 ·refine zR ?_
  exact ⟨rfl, Cl.refl _⟩
 ·rw [hb] at hb4
  refine zR ?_
  refine callK (Update_c hI hN hm htg w hT hP hM) ?_
  rintro r w1 ⟨P', b', rfl, hP', hb', hM1, c1⟩
  refine ⟨_, rfl, ?_⟩
  refine zR ?_
  refine callR (Status_c' hI2 hle2 w1 (hT.cl c1) hM1) fun w2 c2 => ?_
  have hst : statusOf (made p d.mv) = if !(legal (made p d.mv)).isEmpty then 0 else if inCheck (made p d.mv) then 1 else 4 := rfl
  rw [← hb4] at hst
  rw [hst]
  cases (legal (made p d.mv)).isEmpty
  ·refine zR ?_
   exact ⟨rfl, c1.trans c2⟩
  ·refine zR ?_
   exact ⟨rfl, c1.trans c2⟩
theorem ValidMoves_k {p : Pos} (hI : Inv p) (hle : (macStd p).length ≤ 218) {P b : Nat} {ad : Addr} {n0 c0 : Nat} (w : World) (hT : Tabs w) (hM : PosM w P b p (.slice (some ad) n0 c0)) :
  Calls G.P 99 #[.pointer (some ⟨P, 0, none⟩)] w (fun r w' => ∃ v, r = .returned v ∧ Row 141 11 encPM w.heap.size w' v (mac p) ∧ Cl w w') := by
 have hl := mac_len hI hle
 have hP := hM.hd
 refine zN Tryz.func99 ?_
 refine zR ?_
 refine loadK _ (ldHcv hP) (zR ?_)
 refine gen_neN _ (cmp_slice rfl (some ad) n0 c0) (zR ?_)
 refine loadK _ (ldHcv hP) (zR ?_)
 have hr : Row 141 11 encPM 0 w (.slice (some ad) n0 c0) (mac p) := hM.ca.elim (fun e => by cases e) id
 refine gen_appX elPM (l := []) (news := mac p) rfl (Row.nil w w.heap.size) rfl hr encPM_len encPM_one (by simp; omega) zd (Nat.le_refl _) fun v' w' hr' hg => ?_
 rw [List.nil_append] at hr'
 obtain ⟨a9, c9, rfl, _⟩ := hr'.form
 have hc : Cl w w' := hg.toCl rfl (Cl.refl _)
 refine zR ?_
 exact ⟨_, rfl, hr', hc⟩
theorem Reset_c {w : World} {b : Nat} (hk : w.heap[b]? = some (.cells #[.pointer none, .slice none 0 0] 160 (0, 0))) :
  Calls G.P 148 #[.pointer (some ⟨b, 0, none⟩)] w (fun r w' => r = .returned (.tuple #[]) ∧ Upd w b (.cells #[.pointer none, .slice none 0 0] 160 (0, 0)) w') := by
 refine zN Tryz.func148 ?_
 refine zR ?_
 refine zT hk [.pointer none] fun w2 u2 => ?_
 refine zR ?_
 refine stK u2.at_ [.slice none 0 0] rfl zk rfl (by intro v hv; simp at hv; subst hv; rfl) (Nat.le_of_ble_eq_true rfl) fun w3 u3 => zR ?_
 exact ⟨rfl, u2.trans u3⟩
theorem Bld.fresh {w0 w : World} {b : Nat} (hc : Cl w0 w) (hb : w0.heap.size ≤ b) (hk : w.heap[b]? = some (.cells #[.pointer none, .slice none 0 0] 160 (0, 0))) : Bld w0 b [] w :=
 ⟨.inl ⟨hb, .slice none 0 0, hk, ⟨rfl, .inl ⟨rfl, rfl⟩⟩, by simp [Value.ownBlock]⟩, hc⟩
theorem ldRowPM {w : World} {b0 g n c : Nat} {l : List PM} (hr : Row 141 11 encPM b0 w (.slice (some ⟨g, 0, none⟩) n c) l) (i : Nat) (hi : i < l.length) {o : Nat} (ho : o = i * 11) : LoadsTo G.P w 141 ⟨g, o, none⟩ (.agg (ndA (pmNd l[i]))) := by
 subst ho
 obtain ⟨cur, h1, h2, h3⟩ := hr.getAll encPM_len i hi
 have := ldA (t := 141) (o := i * 11) (z := 11) h1 rfl h2
 rw [h3] at this; exact this
theorem rivM_snoc (p : Pos) (l : List PM) (m : Mv) {i : Nat} (hi : i < l.length) : rivM p (l.take (i + 1)) m = rivM p (l.take i) m ++ (if !decide (l[i].mv.fr = m.fr) && decide (l[i].mv.to = m.to) && decide (sq p m.fr = sq p l[i].mv.fr) then [l[i]] else []) := by
 unfold rivM
 rw [List.take_succ_eq_append_getElem hi, List.filter_append]
 congr 1
 rw [List.filter_cons]; rfl
set_option maxHeartbeats 2000000 in
theorem formS1_c {p : Pos} (hI : Inv p) (hle : (macStd p).length ≤ 218) {P b M t : Nat} {fz : Nat × Nat} {ad : Addr} {n0 c0 : Nat} {d : Nd} (f0 : 0 ≤ d.mv.fr) (f1 : d.mv.fr ≤ 63) (w : World) (hT : Tabs w) (hM : PosM w P b p (.slice (some ad) n0 c0))
  (hD : w.heap[M]? = some (.cells (ndA d) t fz)) :
  Calls G.P 153 #[.pointer (some ⟨P, 0, none⟩), .pointer (some ⟨M, 0, none⟩)] w (Ret (txV (s1M p (mac p) d.mv)) w) := by
 obtain ⟨fr, hfr⟩ := Int.eq_ofNat_of_zero_le f0
 have hf64 : fr < 64 := by omega
 have pcs := fun (s : Nat) (hs : s < 64) w hT hB => Piece_c (mbOf p) b (t := 237) (fz := (0, 0)) s hs w hT hB
 have pc := pcs fr hf64
 rw [at_of' hI.pc hf64, ← hfr] at pc
 have hpr := hI.pc d.mv.fr
 have ety := fun w => Type_c (sq p d.mv.fr) hpr.1 hpr.2 w
 have hs1 : s1M p (mac p) d.mv = if kindOf (sq p d.mv.fr) = 6 then [] else (if ((rivM p (mac p) d.mv).any fun x => decide (x.mv.fr / 8 = d.mv.fr / 8)) || (!((rivM p (mac p) d.mv).any fun x => decide (x.mv.fr % 8 = d.mv.fr % 8)) && !(rivM p (mac p) d.mv).isEmpty) then fileT d.mv.fr else []) ++ (if ((rivM p (mac p) d.mv).any fun x => decide (x.mv.fr % 8 = d.mv.fr % 8)) then rankT d.mv.fr else []) := rfl
 rw [hs1]
 clear hs1
 obtain ⟨mm1, _⟩ := mem_mac hI
 refine zN Tryz.func153 ?_
 refine zR ?_
 refine zK 9 ?_
 refine zR ?_
 refine qHb hM.hd (zR ?_)
 refine qNfr hD (zR ?_)
 refine callQs _ (fun w hw => pc w (hT.cl hw) (hw.blk hM.bd)) (zR ?_)
 intro w1 c1
 refine zR ?_
 refine callS (ety _) (zR ?_)
 apply E.dsplit<;>intro h
 ·rw [if_pos h]
  refine zR ?_
  exact ⟨rfl, c1⟩
 rw [if_neg h]
 clear h
 refine zR ?_
 refine gen_alloc _ zBld ?_
 have cA := Cl.alloc w1 (.cells (Value.agg #[.pointer none, .slice none 0 0]).cells 160)
 have nA := alloc_new w1 (.cells (Value.agg #[.pointer none, .slice none 0 0]).cells 160)
 have sA := alloc_size w1 (.cells (Value.agg #[.pointer none, .slice none 0 0]).cells 160)
 generalize w1.alloc (.cells (Value.agg #[.pointer none, .slice none 0 0]).cells 160) = w2 at *
 refine zR ?_
 refine callK (Reset_c nA) ?_
 rintro r w3 ⟨rfl, u3⟩
 refine ⟨_, rfl, ?_⟩
 have c3 : Cl w w3 := c1.trans ((Tn.upd u3).toCl cA (Nat.le_refl _))
 have c13 : Cl w1 w3 := (Tn.upd u3).toCl cA (Nat.le_refl _)
 refine zR ?_
 refine callK (ValidMoves_k hI hle w3 (hT.cl c3) (hM.step c3)) ?_
 rintro r w4 ⟨v, rfl, hr, c4⟩
 have hb4 := c4.blk u3.at_
 have c14 := c13.trans c4
 obtain ⟨av, cv, rfl, hav⟩ := hr.form
 refine ⟨_, rfl, ?_⟩
 have hlen := mac_len hI hle
 refine zR ?_
 refine loopK (σ := Nat) [6, 7, 8, 11, 30] 31 (fun i => [(6, .bool (!(rivM p ((mac p).take i) d.mv).isEmpty)), (7, .bool ((rivM p ((mac p).take i) d.mv).any fun x => decide (x.mv.fr / 8 = d.mv.fr / 8))), (8, .bool ((rivM p ((mac p).take i) d.mv).any fun x => decide (x.mv.fr % 8 = d.mv.fr % 8))), (30, .int .i64 i)])
  (fun i w' => i ≤ (mac p).length ∧ Cl w4 w') (fun i => (mac p).length - i) zk 0 ⟨Nat.zero_le _, Cl.refl _⟩ ⟨rfl, rfl, rfl, rfl, trivial⟩ ?_
 rintro i j w5 ⟨hi, c5⟩
 have ni := i_succ (i := i) zo
 refine zR ?_
 apply E.dsplit<;>intro h
 ·have hi2 : i < (mac p).length := by omega
  clear h
  refine zG ?_
  refine joinK (σ := Unit) [6, 7, 8, 11] 31 (fun _ => [(6, .bool (!(rivM p ((mac p).take (i + 1)) d.mv).isEmpty)), (7, .bool ((rivM p ((mac p).take (i + 1)) d.mv).any fun x => decide (x.mv.fr / 8 = d.mv.fr / 8))), (8, .bool ((rivM p ((mac p).take (i + 1)) d.mv).any fun x => decide (x.mv.fr % 8 = d.mv.fr % 8)))])
   (fun _ w' => Cl w4 w') zk ?_ (fun _ j w8 c8 => ?_)
  ·obtain ⟨g, rfl⟩ := hav zo
   have hsn := rivM_snoc p (mac p) d.mv hi2
   have hld := fun {o : Nat} (ho : o = i * 11) => ldRowPM (hr.step c5) i hi2 ho
   have hxl := (mm1 (mac p)[i] (List.getElem_mem hi2)).1
   generalize (mac p)[i] = x at *
   have hxr := legal_range hI hxl
   obtain ⟨xf, hxf⟩ := Int.eq_ofNat_of_zero_le hxr.1
   have hxf64 : xf < 64 := by omega
   have pcx := pcs xf hxf64
   rw [at_of' hI.pc hxf64, ← hxf] at pcx
   refine zR ?_
   refine zC ?_
   refine zR ?_
   refine loadK _ (hld (off_mul _ _)) (zR ?_)
   refine gen_alloc _ zMove ?_
   have cB := Cl.alloc w5 (.cells (Value.agg (ndA (pmNd ⟨⟨0, 0, 0⟩, 0⟩))).cells 141)
   have nB := alloc_new w5 (.cells (Value.agg (ndA (pmNd ⟨⟨0, 0, 0⟩, 0⟩))).cells 141)
   generalize w5.alloc (.cells (Value.agg (ndA (pmNd ⟨⟨0, 0, 0⟩, 0⟩))).cells 141) = w6 at *
   refine zR ?_
   refine stK nB (encPM x) rfl szMove rfl (encPM_one x) (Nat.le_of_ble_eq_true rfl) fun w7 u7 => ?_
   have hX : w7.heap[w5.heap.size]? = some (.cells (ndA (pmNd x)) 141 (0, 0)) := by have h7 := u7.at_; rw [over_all _ _ (by rw [encPM_len]; rfl)] at h7; exact h7
   have c7 : Cl w5 w7 := (Tn.upd u7).toCl cB (Nat.le_refl _)
   have c17 := c14.trans (c5.trans c7)
   have cw7 := c1.trans c17
   have hM7 := hM.step cw7
   have hD7 := cw7.blk hD
   have c47 := c5.trans c7
   generalize rivM p ((mac p).take (i + 1)) d.mv = A' at *
   generalize rivM p ((mac p).take i) d.mv = A at *
   refine zR ?_
   refine zK 27 ?_
   refine zR ?_
   refine qNfr hX (zR ?_)
   refine qNfr hD7 (zR ?_)
   apply E.ndsplit<;>intro h
   ·have h1 : ¬ x.mv.fr = d.mv.fr := h
    clear h
    refine zR ?_
    refine qNto hX (zR ?_)
    refine qNto hD7 (zR ?_)
    apply E.dsplit<;>intro h
    ·have h2 : x.mv.to = d.mv.to := h
     clear h
     refine zR ?_
     refine qHb hM7.hd (zR ?_)
     refine qNfr hX (zR ?_)
     refine callQs _ (fun w hw => pcx w ((hT.cl cw7).cl hw) (hw.blk hM7.bd)) (zR ?_)
     intro w8 c8
     refine zG ?_
     refine zR ?_
     apply E.dsplit<;>intro h
     ·have hyes : A' = A ++ [x] := by rw [hsn, decide_eq_false h1, decide_eq_true h2, decide_eq_true h]; rfl
      clear h
      refine zR ?_
      refine zK 9 ?_
      refine zR ?_
      refine qNfr (c8.blk hX) (zR ?_)
      refine callQs _ (fun w hw => sFile_c x.mv.fr hxr.1 hxr.2.1 w) (zR ?_)
      refine qNfr (c8.blk hD7) (zR ?_)
      refine callQs _ (fun w hw => sFile_c d.mv.fr f0 f1 w) (zR ?_)
      intro w9 c9
      have c79 := c8.trans c9
      refine zR ?_
      apply E.dsplit<;>intro h
      ·have hf := h
       clear h
       refine zR ?_
       refine zK 9 ?_
       refine zR ?_
       refine qNfr (c79.blk hX) (zR ?_)
       refine callQs _ (fun w hw => sRank_c x.mv.fr hxr.1 hxr.2.1 w) (zR ?_)
       refine qNfr (c79.blk hD7) (zR ?_)
       refine callQs _ (fun w hw => sRank_c d.mv.fr f0 f1 w) (zR ?_)
       intro w10 c10
       have c410 := (c47.trans c79).trans c10
       refine zR ?_
       apply E.dsplit<;>intro h
       ·refine zR ?_
        exact ⟨(), ⟨bool_eq (by rw [hyes]; simp), bool_eq (by rw [hyes]; simp [h]), bool_eq (by rw [hyes]; simp [hf]), trivial⟩, c410⟩
       ·refine zR ?_
        exact ⟨(), ⟨bool_eq (by rw [hyes]; simp), bool_eq (by rw [hyes]; simp [h]), bool_eq (by rw [hyes]; simp [hf]), trivial⟩, c410⟩
      ·have hf := h
       clear h
       refine zR ?_
       refine zK 9 ?_
       refine zR ?_
       refine qNfr (c79.blk hX) (zR ?_)
       refine callQs _ (fun w hw => sRank_c x.mv.fr hxr.1 hxr.2.1 w) (zR ?_)
       refine qNfr (c79.blk hD7) (zR ?_)
       refine callQs _ (fun w hw => sRank_c d.mv.fr f0 f1 w) (zR ?_)
       intro w10 c10
       have c410 := (c47.trans c79).trans c10
       refine zR ?_
       apply E.dsplit<;>intro h
       ·refine zR ?_
        exact ⟨(), ⟨bool_eq (by rw [hyes]; simp), bool_eq (by rw [hyes]; simp [h]), bool_eq (by rw [hyes]; simp [hf]), trivial⟩, c410⟩
       ·refine zR ?_
        exact ⟨(), ⟨bool_eq (by rw [hyes]; simp), bool_eq (by rw [hyes]; simp [h]), bool_eq (by rw [hyes]; simp [hf]), trivial⟩, c410⟩
     ·have hno : A' = A := by rw [hsn, decide_eq_false h, Bool.and_false]; simp
      refine zR ?_
      exact ⟨(), ⟨bool_eq (by rw [hno]), bool_eq (by rw [hno]), bool_eq (by rw [hno]), trivial⟩, c47.trans c8⟩
    ·have hno : A' = A := by rw [hsn, show decide (x.mv.to = d.mv.to) = false from decide_eq_false h, Bool.and_false, Bool.false_and]; simp
     refine zR ?_
     repeat (refine E.dfalse h ?_; refine zR ?_)
     intro w8 c8
     refine zR ?_
     exact ⟨(), ⟨bool_eq (by rw [hno]), bool_eq (by rw [hno]), bool_eq (by rw [hno]), trivial⟩, c47.trans c8⟩
   ·have hno : A' = A := by rw [hsn, show decide (x.mv.fr = d.mv.fr) = true from decide_eq_true h]; simp
    refine zR ?_
    intro w8 c8
    refine zR ?_
    exact ⟨(), ⟨bool_eq (by rw [hno]), bool_eq (by rw [hno]), bool_eq (by rw [hno]), trivial⟩, c47.trans c8⟩
  ·refine zR ?_
   exact ⟨i + 1, ⟨rfl, rfl, rfl, int_eq ni, trivial⟩, ⟨zo, c8⟩, zo⟩
 ·have e : i = (mac p).length := by omega
  subst e
  rw [List.take_length]
  have c15 := c14.trans c5
  have hbl : Bld w1 w1.heap.size [] w5 := Bld.fresh c15 (Nat.le_refl _) (c5.blk hb4)
  have hD5 := (c1.trans c15).blk hD
  generalize ((rivM p (mac p) d.mv).any fun x => decide (x.mv.fr / 8 = d.mv.fr / 8)) = FQ at *
  generalize ((rivM p (mac p) d.mv).any fun x => decide (x.mv.fr % 8 = d.mv.fr % 8)) = RQ at *
  generalize (rivM p (mac p) d.mv).isEmpty = RE at *
  refine zG ?_
  refine joinK (σ := Unit) [] 31 (fun _ => []) (fun _ w' => Bld w1 w1.heap.size (if (FQ || (!RQ && !RE)) = true then fileT d.mv.fr else []) w') zk ?_ (fun _ j w6 h6 => ?_)
  ·cases FQ <;> cases RQ <;> cases RE <;> (refine zR ?_) <;> first
    | exact ⟨(), trivial, hbl⟩
    | (refine kNfr hD5 ?_
       refine zR ?_
       refine callS (sFile_c d.mv.fr f0 f1 _) (zR ?_)
       refine callS (fByte_c (d.mv.fr % 8) zo zo _) (zR ?_)
       refine callK (WriteByte_c (UInt8.ofNat (97 + (d.mv.fr % 8).toNat)) hbl zd) ?_
       rintro r w6 ⟨rfl, h6⟩
       refine ⟨_, rfl, ?_⟩
       refine zR ?_
       exact ⟨(), trivial, h6⟩)
  have hD6 := (c1.trans h6.cl).blk hD
  have hl6 : (if (FQ || (!RQ && !RE)) = true then fileT d.mv.fr else []).length < 1000000 := by split <;> simp [fileT]
  generalize (if (FQ || (!RQ && !RE)) = true then fileT d.mv.fr else []) = L at *
  cases RQ
  ·refine zR ?_
   refine callK (String_c h6) ?_
   rintro r w7 ⟨rfl, c7⟩
   refine ⟨_, rfl, ?_⟩
   refine zR ?_
   exact ⟨by simp; rfl, c1.trans c7⟩
  ·refine zR ?_
   refine kNfr hD6 (zR ?_)
   refine callS (sRank_c d.mv.fr f0 f1 _) (zR ?_)
   refine callS (rByte_c (d.mv.fr / 8) zo zo _) (zR ?_)
   refine callK (WriteByte_c (UInt8.ofNat (49 + (d.mv.fr / 8).toNat)) h6 hl6) ?_
   rintro r w7 ⟨rfl, h7⟩
   refine ⟨_, rfl, ?_⟩
   refine zR ?_
   refine callK (String_c h7) ?_
   rintro r w8 ⟨rfl, c8⟩
   refine ⟨_, rfl, ?_⟩
   refine zR ?_
   exact ⟨rfl, c1.trans c8⟩
section nd
variable {M t : Nat} {d : Nd} {w : World} {fz : Nat × Nat} (hM : w.heap[M]? = some (.cells (ndA d) t fz))
include hM
theorem S1_c : Calls G.P 140 #[.pointer (some ⟨M, 0, none⟩)] w (RetS (.int .i8 d.mv.fr) w) := by
 refine zN Tryz.func140 ?_
 refine zR ?_
 refine loadK _ (ldNfr hM) (zR ?_)
 exact ⟨rfl, rfl⟩
theorem S2_c : Calls G.P 141 #[.pointer (some ⟨M, 0, none⟩)] w (RetS (.int .i8 d.mv.to) w) := by
 refine zN Tryz.func141 ?_
 refine zR ?_
 refine loadK _ (ldNto hM) (zR ?_)
 exact ⟨rfl, rfl⟩
theorem Promo_c : Calls G.P 142 #[.pointer (some ⟨M, 0, none⟩)] w (RetS (.int .i8 d.mv.promo) w) := by
 refine zN Tryz.func142 ?_
 refine zR ?_
 refine loadK _ (ldNpromo hM) (zR ?_)
 exact ⟨rfl, rfl⟩
theorem DoorTags_c : Calls G.P 103 #[.pointer (some ⟨M, 0, none⟩)] w (RetS (.int .u16 d.tags) w) := by
 refine zN Tryz.func103 ?_
 refine zR ?_
 refine loadK _ (ldNtags hM) (zR ?_)
 exact ⟨rfl, rfl⟩
end nd
section hd
variable {b P t : Nat} {h : Hd} {cv : Value} {w : World} {fz : Nat × Nat} (hP : w.heap[P]? = some (.cells (hdA b h cv) t fz))
include hP
theorem Board_c : Calls G.P 149 #[.pointer (some ⟨P, 0, none⟩)] w (RetS (.pointer (some ⟨b, 0, none⟩)) w) := by
 refine zN Tryz.func149 ?_
 refine zR ?_
 refine loadK _ (ldHb hP) (zR ?_)
 exact ⟨rfl, rfl⟩
theorem Ep_c : Calls G.P 171 #[.pointer (some ⟨P, 0, none⟩)] w (RetS (.int .i8 h.ep) w) := by
 refine zN Tryz.func171 ?_
 refine zR ?_
 refine loadK _ (ldHep hP) (zR ?_)
 exact ⟨rfl, rfl⟩
theorem Half_c : Calls G.P 172 #[.pointer (some ⟨P, 0, none⟩)] w (RetS (.int .i64 h.half) w) := by
 refine zN Tryz.func172 ?_
 refine zR ?_
 refine loadK _ (ldHhalf hP) (zR ?_)
 exact ⟨rfl, rfl⟩
theorem Full_c : Calls G.P 173 #[.pointer (some ⟨P, 0, none⟩)] w (RetS (.int .i64 h.full) w) := by
 refine zN Tryz.func173 ?_
 refine zR ?_
 refine loadK _ (ldHfull hP) (zR ?_)
 exact ⟨rfl, rfl⟩
theorem Rights_c2 : Calls G.P 174 #[.pointer (some ⟨P, 0, none⟩)] w (RetS (txV h.cas) w) := by
 refine zN Tryz.func174 ?_
 refine zR ?_
 refine loadK _ (ldHcas hP) (zR ?_)
 exact ⟨rfl, rfl⟩
end hd
theorem s1M_len (p : Pos) (l : List PM) (m : Mv) : (s1M p l m).length ≤ 2 := by
 unfold s1M
 split
 ·simp
 ·simp only [List.length_append]; split <;> split <;> simp [fileT, rankT]
theorem signM_len (p : Pos) (m : Mv) (t : Nat) : (signM p m t).length ≤ 1 := by unfold signM; (repeat' split) <;> simp
theorem small_tag {M t : Nat} {d : Nd} {w : World} {fz : Nat × Nat} (hM : w.heap[M]? = some (.cells (ndA d) t fz)) (h64 : d.tags < 64) (k : Nat) (hk : k < 6) (n : Int) (hn : n = ((2 ^ k : Nat) : Int)) : Calls G.P 147 #[.pointer (some ⟨M, 0, none⟩), .int .u16 n] w (RetS (.bool (d.tags.testBit k)) w) := by
 rw [hn]; exact HasTag_c zo zo w hM
set_option maxHeartbeats 2000000 in
theorem SanEncode_c {p : Pos} (hI : Inv p) (hN : Nums p) (hle : (macStd p).length ≤ 218) {d : Nd} (hle2 : Inv (made p d.mv) ∧ (macStd (made p d.mv)).length ≤ 218) {P b M : Nat} {ad : Addr} {n0 c0 : Nat} (hm : d.mv ∈ legal p) (htg : (d.tags : Int) = told p d.mv) (w : World) (hT : Tabs w) (hP : PosM w P b p (.slice (some ad) n0 c0))
  (hM : w.heap[M]? = some (.cells (ndA d) 141 (0, 0))) :
  Calls G.P 104 #[.agg #[], .pointer (some ⟨P, 0, none⟩), .pointer (some ⟨M, 0, none⟩)] w (Ret (txV (sanM p d.mv d.tags)) w) := by
 obtain ⟨_, _, h64⟩ := told_bits2 htg
 obtain ⟨f0, f1, t0, t1, hpm⟩ := legal_range hI hm
 obtain ⟨fr, hfr⟩ := Int.eq_ofNat_of_zero_le f0
 have hf64 : fr < 64 := by omega
 have pc := fun w hT hB => Piece_c (mbOf p) b (t := 237) (fz := (0, 0)) fr hf64 w hT hB
 rw [at_of' hI.pc hf64, ← hfr] at pc
 have hpr := hI.pc d.mv.fr
 have ety := fun w => Type_c (sq p d.mv.fr) hpr.1 hpr.2 w
 have hchk := fun (w : World) hT hP hM => getCheckChar_c hI hN hle2 (P := P) (b := b) (M := M) (cv := .slice (some ad) n0 c0) (d := d) hm htg w hT hP hM
 have hfs := fun (w : World) hT hP hM => formS1_c hI hle (P := P) (b := b) (M := M) (t := 141) (fz := (0, 0)) (ad := ad) (n0 := n0) (c0 := c0) (d := d) f0 f1 w hT hP hM
 have htoT : sqT d.mv.to = fileT d.mv.to ++ rankT d.mv.to := by unfold sqT; rw [if_neg zo]
 have hk0 : 0 ≤ kindOf (sq p d.mv.fr) ∧ kindOf (sq p d.mv.fr) ≤ 6 := by unfold kindOf; split <;> omega
 have hs6 : kindOf (sq p d.mv.fr) = 6 → s1M p (mac p) d.mv = [] := fun h => by unfold s1M; rw [if_pos h]
 have hsan : sanM p d.mv d.tags = if d.tags.testBit 0 then [79, 45, 79] ++ signM p d.mv d.tags else if d.tags.testBit 1 then [79, 45, 79, 45, 79] ++ signM p d.mv d.tags
  else letter (kindOf (sq p d.mv.fr)) ++ s1M p (mac p) d.mv ++ (if d.tags.testBit 2 || d.tags.testBit 3 then (if kindOf (sq p d.mv.fr) = 6 then fileT d.mv.fr else []) ++ [120] else []) ++ sqT d.mv.to ++ (if d.mv.promo = 0 then [] else [61] ++ letter d.mv.promo) ++ signM p d.mv d.tags := rfl
 rw [hsan]
 clear hsan
 have gl := signM_len p d.mv d.tags
 have sl := s1M_len p (mac p) d.mv
 have ll : (letter (kindOf (sq p d.mv.fr))).length ≤ 1 := letter_len _
 have pl : (letter d.mv.promo).length ≤ 1 := letter_len _
 have el := fun w => letter_c (kindOf (sq p d.mv.fr)) hk0.1 hk0.2 w
 have ep := fun w => letter_c d.mv.promo zo zo w
 generalize signM p d.mv d.tags = SG at *
 generalize s1M p (mac p) d.mv = S1 at *
 generalize kindOf (sq p d.mv.fr) = KD at *
 refine zN Tryz.func104 ?_
 refine zR ?_
 have cb := Cl.alloc w (.cells #[] 149)
 generalize w.alloc (.cells #[] 149) = wb at *
 refine callR (hchk wb (hT.cl cb) (hP.step cb) (cb.blk hM)) fun w1 c1 => ?_
 have cw1 := cb.trans c1
 have hM1 := cw1.blk hM
 refine zR ?_
 refine callS (small_tag hM1 h64 0 zd _ rfl) ?_
 cases hb0 : d.tags.testBit 0
 rotate_left
 ·refine zR ?_
  refine E.ctrue (fits_tx (x := [79, 45, 79]) (y := SG) (by simp; omega)) (zR ?_)
  exact ⟨ret_tx (tx_app [79, 45, 79] SG), cw1⟩
 refine zR ?_
 refine callS (small_tag hM1 h64 1 zd _ rfl) ?_
 cases hb1 : d.tags.testBit 1
 rotate_left
 ·refine zR ?_
  refine E.ctrue (fits_tx (x := [79, 45, 79, 45, 79]) (y := SG) (by simp; omega)) (zR ?_)
  exact ⟨ret_tx (tx_app [79, 45, 79, 45, 79] SG), cw1⟩
 refine zR ?_
 refine gen_alloc _ zBld ?_
 have cA := Cl.alloc w1 (.cells (Value.agg #[.pointer none, .slice none 0 0]).cells 160)
 have nA := alloc_new w1 (.cells (Value.agg #[.pointer none, .slice none 0 0]).cells 160)
 generalize w1.alloc (.cells (Value.agg #[.pointer none, .slice none 0 0]).cells 160) = w2 at *
 refine zR ?_
 refine callK (Reset_c nA) ?_
 rintro r w3 ⟨rfl, u3⟩
 refine ⟨_, rfl, ?_⟩
 have hb3 : Bld w1 w1.heap.size [] w3 := Bld.fresh ((Tn.upd u3).toCl cA (Nat.le_refl _)) (Nat.le_refl _) u3.at_
 have cw3 := cw1.trans hb3.cl
 refine zR ?_
 refine callS (Board_c (hP.step cw3).hd) (zR ?_)
 refine callS (S1_c (cw3.blk hM)) (zR ?_)
 refine callS (pc _ (hT.cl cw3) (hP.step cw3).bd) (zG ?_)
 refine joinK (σ := Unit) [10] 12 (fun _ => []) (fun _ w' => Bld w1 w1.heap.size (letter KD) w') zk ?_ (fun _ j w4 h4 => ?_)
 ·refine zR ?_
  refine callS (ety _) (zR ?_)
  refine callS (el _) ?_
  rcases kinds hk0.1 hk0.2 with rfl | rfl | rfl | rfl | rfl | rfl | rfl <;> (refine zR ?_) <;> first
   | exact ⟨(), trivial, hb3⟩
   | (refine callK (WriteString_c (letter _) hb3 zd (by rw [letter]; decide)) ?_
      rintro r w4 ⟨rfl, h4⟩
      refine ⟨_, rfl, ?_⟩
      refine zR ?_
      exact ⟨(), trivial, h4⟩)
 have cw4 := cw1.trans h4.cl
 refine joinK (σ := Unit) [11] 12 (fun _ => []) (fun _ w' => Bld w1 w1.heap.size (letter KD ++ S1) w') zk ?_ (fun _ j w5 h5 => ?_)
 ·refine zR ?_
  refine callR (hfs _ (hT.cl cw4) (hP.step cw4) (cw4.blk hM)) fun w5 c5 => ?_
  have h5 := h4.step c5
  refine zR ?_
  apply E.ndsplit<;>intro h
  ·refine zR ?_
   refine callK (WriteString_c S1 h5 zo zo) ?_
   rintro r w6 ⟨rfl, h6⟩
   refine ⟨_, rfl, ?_⟩
   refine zR ?_
   exact ⟨(), trivial, h6⟩
  ·have e : S1 = [] := by rw [mk_tx] at h; exact tx_inj.1 h
   refine zR ?_
   exact ⟨(), trivial, by rw [e, List.append_nil]; exact h5⟩
 have cw5 := cw1.trans h5.cl
 have hM5 := cw5.blk hM
 have hl5 : (letter KD ++ S1).length ≤ 3 := by rw [List.length_append]; omega
 refine joinK (σ := Unit) [] 12 (fun _ => []) (fun _ w' => Bld w1 w1.heap.size ((letter KD ++ S1) ++ (if d.tags.testBit 2 || d.tags.testBit 3 then (if KD = 6 then fileT d.mv.fr else []) ++ [120] else [])) w') zk ?_ (fun _ j w6 h6 => ?_)
 ·have tg2 := small_tag hM5 h64 2 zd 4 rfl
  have tg3 := small_tag hM5 h64 3 zd 8 rfl
  cases hb2 : d.tags.testBit 2
  ·rw [hb2] at tg2
   refine zR ?_
   refine callS tg2 (zR ?_)
   cases hb3' : d.tags.testBit 3
   ·rw [hb3'] at tg3
    refine callS tg3 (zR ?_)
    exact ⟨(), trivial, by simpa using h5⟩
   ·rw [hb3'] at tg3
    refine callS tg3 (zR ?_)
    refine callS (ety _) ?_
    by_cases hk : KD = 6
    ·subst hk
     have e : letter 6 ++ S1 = [] := by rw [hs6 rfl]; rfl
     rw [e] at h5 ⊢
     refine zR ?_
     refine callS (Len_c h5) (zR ?_)
     refine kNfr hM5 (zR ?_)
     refine callS (sFile_c d.mv.fr f0 f1 _) (zR ?_)
     refine callS (fStr_c (d.mv.fr % 8) zo zo _) (zR ?_)
     refine callK (WriteString_c (fileT d.mv.fr) h5 zd (by rw [fileT_len]; decide)) ?_
     rintro r w6 ⟨rfl, h6⟩
     refine ⟨_, rfl, ?_⟩
     refine zR ?_
     refine callK (WriteString_c [120] h6 (by simp [fileT]) zd) ?_
     rintro r w7 ⟨rfl, h7⟩
     refine ⟨_, rfl, ?_⟩
     refine zR ?_
     exact ⟨(), trivial, h7⟩
    ·refine zR ?_
     refine E.dfalse hk (zR ?_)
     repeat (refine E.dfalse hk ?_; refine zR ?_)
     refine callK (WriteString_c [120] h5 zo zd) ?_
     rintro r w7 ⟨rfl, h7⟩
     refine ⟨_, rfl, ?_⟩
     refine zR ?_
     exact ⟨(), trivial, by rw [if_neg hk]; exact h7⟩
  ·rw [hb2] at tg2
   refine zR ?_
   refine callS tg2 (zR ?_)
   refine callS (ety _) ?_
   by_cases hk : KD = 6
   ·subst hk
    have e : letter 6 ++ S1 = [] := by rw [hs6 rfl]; rfl
    rw [e] at h5 ⊢
    refine zR ?_
    refine callS (Len_c h5) (zR ?_)
    refine kNfr hM5 (zR ?_)
    refine callS (sFile_c d.mv.fr f0 f1 _) (zR ?_)
    refine callS (fStr_c (d.mv.fr % 8) zo zo _) (zR ?_)
    refine callK (WriteString_c (fileT d.mv.fr) h5 zd (by rw [fileT_len]; decide)) ?_
    rintro r w6 ⟨rfl, h6⟩
    refine ⟨_, rfl, ?_⟩
    refine zR ?_
    refine callK (WriteString_c [120] h6 (by simp [fileT]) zd) ?_
    rintro r w7 ⟨rfl, h7⟩
    refine ⟨_, rfl, ?_⟩
    refine zR ?_
    exact ⟨(), trivial, h7⟩
   ·refine zR ?_
    refine E.dfalse hk (zR ?_)
    repeat (refine E.dfalse hk ?_; refine zR ?_)
    refine callK (WriteString_c [120] h5 zo zd) ?_
    rintro r w7 ⟨rfl, h7⟩
    refine ⟨_, rfl, ?_⟩
    refine zR ?_
    exact ⟨(), trivial, by rw [if_neg hk]; exact h7⟩
 have cw6 := cw1.trans h6.cl
 have hM6 := cw6.blk hM
 have hl6 : ((letter KD ++ S1) ++ (if d.tags.testBit 2 || d.tags.testBit 3 then (if KD = 6 then fileT d.mv.fr else []) ++ [120] else [])).length ≤ 5 := by
  rw [List.length_append]
  have : (if d.tags.testBit 2 || d.tags.testBit 3 then (if KD = 6 then fileT d.mv.fr else []) ++ [120] else []).length ≤ 2 := by (repeat' split) <;> simp [fileT]
  omega
 generalize (letter KD ++ S1) ++ (if d.tags.testBit 2 || d.tags.testBit 3 then (if KD = 6 then fileT d.mv.fr else []) ++ [120] else []) = L at *
 refine zR ?_
 refine kNto hM6 (zR ?_)
 refine callS (sqStr_c d.mv.to t0 t1 _) (zR ?_)
 refine callK (WriteString_c (fileT d.mv.to ++ rankT d.mv.to) h6 zo (by simp [fileT, rankT])) ?_
 rintro r w7 ⟨rfl, h7⟩
 rw [← htoT] at h7
 refine ⟨_, rfl, ?_⟩
 have hl7 : (L ++ sqT d.mv.to).length ≤ 7 := by rw [List.length_append, htoT]; simp [fileT, rankT]; omega
 have hM7 := (cw1.trans h7.cl).blk hM
 refine zG ?_
 refine joinK (σ := Unit) [] 12 (fun _ => []) (fun _ w' => Bld w1 w1.heap.size (L ++ sqT d.mv.to ++ (if d.mv.promo = 0 then [] else [61] ++ letter d.mv.promo)) w') zk ?_ (fun _ j w8 h8 => ?_)
 ·refine zR ?_
  refine kNpromo hM7 (zR ?_)
  apply E.ndsplit<;>intro h
  ·refine zR ?_
   refine callK (WriteString_c [61] h7 zo zd) ?_
   rintro r w8 ⟨rfl, h8⟩
   refine ⟨_, rfl, ?_⟩
   have hM8 := (cw1.trans h8.cl).blk hM
   refine zR ?_
   refine kNpromo hM8 (zR ?_)
   refine callS (ep _) (zR ?_)
   refine callK (WriteString_c (letter d.mv.promo) h8 (by rw [List.length_append, List.length_singleton]; omega) zo) ?_
   rintro r w9 ⟨rfl, h9⟩
   refine ⟨_, rfl, ?_⟩
   refine zR ?_
   exact ⟨(), trivial, by rw [if_neg h, ← List.append_assoc]; exact h9⟩
  ·refine zR ?_
   exact ⟨(), trivial, by rw [if_pos h, List.append_nil]; exact h7⟩
 have cw8 := cw1.trans h8.cl
 have hl8 : (L ++ sqT d.mv.to ++ (if d.mv.promo = 0 then [] else [61] ++ letter d.mv.promo)).length ≤ 9 := by
  rw [List.length_append]
  have : (if d.mv.promo = 0 then [] else [61] ++ letter d.mv.promo).length ≤ 2 := by split <;> simp; omega
  omega
 refine zR ?_
 refine callR (hchk _ (hT.cl cw8) (hP.step cw8) (cw8.blk hM)) fun w9 c9 => zR ?_
 refine callK (WriteString_c SG (h8.step c9) zo zo) ?_
 rintro r w10 ⟨rfl, h10⟩
 refine ⟨_, rfl, ?_⟩
 refine zR ?_
 refine callK (String_c h10) ?_
 rintro r w11 ⟨rfl, c11⟩
 refine ⟨_, rfl, ?_⟩
 refine zR ?_
 exact ⟨rfl, cw1.trans c11⟩
theorem copyCheck_c {w : World} {b : Nat} {p v : Value} (hp : p = .pointer none ∨ p = .pointer (some ⟨b, 0, none⟩)) (hk : w.heap[b]? = some (.cells #[p, v] 160 (0, 0))) :
  Calls G.P 183 #[.pointer (some ⟨b, 0, none⟩)] w (fun r w' => r = .returned (.tuple #[]) ∧ Upd w b (.cells #[.pointer (some ⟨b, 0, none⟩), v] 160 (0, 0)) w') := by
 rcases hp with rfl | rfl
 ·refine (Any.Builder_copyCheck_fresh Tryz.lays240 Tryz.Builder_Extra_240.toX72 b w (by rw [cell_of_blk hk]; rfl) (by simp [World.shape?, hk]; rfl) (by simp [World.frozen?, hk])).mono ?_
  rintro r w' ⟨h1, h2⟩
  refine ⟨h1, ?_⟩
  rw [h2]
  exact upd_cells [.pointer (some ⟨b, 0, none⟩)] w b 0 _ _ _ hk
 ·refine (Any.Builder_copyCheck_used Tryz.lays240 Tryz.Builder_Extra_240.toX72 b w (by rw [cell_of_blk hk]; rfl)).mono ?_
  rintro r w' ⟨h1, h2⟩
  subst h2
  exact ⟨h1, rfl, rfl, rfl, rfl, hk, fun _ _ => rfl⟩
theorem bytesRow {b0 : Nat} {w : World} {v : Value} {l : Tx} : Row 5 1 encB b0 w v l ↔ w.ownsRow b0 5 1 v (Lib.byteCells l).length (Lib.byteCells l) := by
 unfold Row; rw [flatB, Lib.byteCells_length]
theorem Row.updT {α : Type} {enc : α → List Value} {e z b0 b T : Nat} {w w' : World} {v : Value} {l : List α} {o : Obj} {cs : Array Value} {fz : Nat × Nat} (h : Row e z enc b0 w v l) (u : Upd w b o w') (hb : w.heap[b]? = some (.cells cs T fz)) (hT : T ≠ e) : Row e z enc b0 w' v l := by
 refine ⟨h.1, ?_⟩
 rcases h.2 with h2 | ⟨g, cap, cur, h1, h2, h3, h4⟩
 ·exact .inl h2
 ·refine .inr ⟨g, cap, cur, h1, h2, (Tn.upd u).blk h3 (fun e => ?_), h4⟩
  subst e
  rw [hb] at h3
  injection h3 with h3; injection h3 with _ h3 _
  exact hT h3
theorem Write_c {w0 w : World} {b b1 : Nat} {l s : Tx} {vs : Value} (h : Bld w0 b l w) (hr : Row 5 1 encB b1 w vs s) (hl : l.length + s.length ≤ 100000) :
  Calls G.P 160 #[.pointer (some ⟨b, 0, none⟩), vs] w (fun r w' => r = .returned (.tuple #[.int .i64 s.length, .nilIface]) ∧ Bld w0 b (l ++ s) w') := by
 obtain ⟨p, hp, hB, v, hk, hown, hne⟩ : ∃ p, (p = .pointer none ∨ p = .pointer (some ⟨b, 0, none⟩)) ∧ Lib.BuilderAt 160 5 w0.heap.size b p (Lib.byteCells l) w := by
  rcases h.is with h | h
  ·exact ⟨_, .inl rfl, h⟩
  ·exact ⟨_, .inr rfl, h⟩
 obtain ⟨a, c, rfl, ha⟩ := hr.form
 refine zN Tryz.func160 ?_
 refine zR ?_
 refine callK (copyCheck_c hp hk) ?_
 rintro r w1 ⟨rfl, u1⟩
 refine ⟨_, rfl, ?_⟩
 have hv0 : Row 5 1 encB w0.heap.size w v l := bytesRow.2 hown
 have hv : Row 5 1 encB w0.heap.size w1 v l := hv0.updT u1 hk zd
 have hs : Row 5 1 encB b1 w1 (.slice a s.length c) s := hr.updT u1 hk zd
 obtain ⟨av, cv, rfl, hav⟩ := hv.form
 refine zR ?_
 refine loadK _ (ldB u1.at_ rfl rfl) (zR ?_)
 refine gen_appX elByte (l := l) (news := s) rfl hv rfl hs encB_len encB_one hl zd (by rw [u1.size]; exact h.cl.size) fun v' w2 hr2 hg => ?_
 obtain ⟨a9, c9, rfl, _⟩ := hr2.form
 have hk2 : w2.heap[b]? = some (.cells #[.pointer (some ⟨b, 0, none⟩), .slice av l.length cv] 160 (0, 0)) := hg.keep b _ u1.at_ hne
 refine zR ?_
 refine zT hk2 [.slice a9 (l ++ s).length c9] fun w3 u3 => ?_
 refine zR ?_
 have hbl : b < w1.heap.size := (Array.getElem?_eq_some_iff.1 u1.at_).1
 have c1 : Cl w0 w1 := (Tn.upd u1).toCl h.cl hB
 have c2 : Cl w0 w2 := hg.cl w0 rfl c1
 exact ⟨rfl, .inr ⟨hB, _, u3.at_, by have := bytesRow.1 (hr2.updT u3 hk2 zd); rwa [Lib.byteCells_length] at this ⊢, hg.ne hbl hne⟩, (Tn.upd u3).toCl c2 hB⟩
theorem small_len (k : Int) : (small k).length ≤ 1 := by unfold small; (repeat' split) <;> simp
theorem UciEncode_c {P M t : Nat} {d : Nd} {fz : Nat × Nat} (f0 : 0 ≤ d.mv.fr) (f1 : d.mv.fr ≤ 63) (t0 : 0 ≤ d.mv.to) (t1 : d.mv.to ≤ 63) (hp : 0 ≤ d.mv.promo ∧ d.mv.promo ≤ 6) (w : World) (hM : w.heap[M]? = some (.cells (ndA d) t fz)) (x : Value) (hx : x = .pointer (some ⟨P, 0, none⟩)) :
  Calls G.P 106 #[.agg #[], x, .pointer (some ⟨M, 0, none⟩)] w (Ret (txV (uciT d.mv)) w) := by
 subst hx
 have htoT : sqT d.mv.to = fileT d.mv.to ++ rankT d.mv.to := by unfold sqT; rw [if_neg zo]
 have hfrT : sqT d.mv.fr = fileT d.mv.fr ++ rankT d.mv.fr := by unfold sqT; rw [if_neg zo]
 have hu : uciT d.mv = sqT d.mv.fr ++ sqT d.mv.to ++ (if d.mv.promo = 0 then [] else small d.mv.promo) := by
  unfold uciT
  by_cases e : d.mv.promo = 0
  ·rw [if_pos e, if_neg zo]
  ·rw [if_neg e, if_pos zo]
 rw [hu]
 clear hu
 have sl := small_len d.mv.promo
 refine zN Tryz.func106 ?_
 refine zR ?_
 have cb := Cl.alloc w (.cells #[] 151)
 generalize w.alloc (.cells #[] 151) = w1 at *
 refine gen_alloc _ zBld ?_
 have cA := Cl.alloc w1 (.cells (Value.agg #[.pointer none, .slice none 0 0]).cells 160)
 have nA := alloc_new w1 (.cells (Value.agg #[.pointer none, .slice none 0 0]).cells 160)
 generalize w1.alloc (.cells (Value.agg #[.pointer none, .slice none 0 0]).cells 160) = w2 at *
 refine zR ?_
 refine callK (Reset_c nA) ?_
 rintro r w3 ⟨rfl, u3⟩
 refine ⟨_, rfl, ?_⟩
 refine zR ?_
 refine callK (Grow_c (w0 := w1) 5 zd ((Tn.upd u3).toCl cA (Nat.le_refl _)) (Nat.le_refl _) u3.at_) ?_
 rintro r w4 ⟨rfl, h4⟩
 refine ⟨_, rfl, ?_⟩
 refine zR ?_
 refine callS (S1_c ((cb.trans h4.cl).blk hM)) (zR ?_)
 refine callK (sqBytes_c d.mv.fr f0 f1 _) ?_
 rintro r w5 ⟨v5, rfl, hr5, c5⟩
 obtain ⟨a5, k5, rfl, _⟩ := hr5.form
 refine ⟨_, rfl, ?_⟩
 refine zR ?_
 refine callK (Write_c (h4.step c5) hr5 (by simp [fileT, rankT])) ?_
 rintro r w6 ⟨rfl, h6⟩
 refine ⟨_, rfl, ?_⟩
 rw [List.nil_append, ← hfrT] at h6
 refine zR ?_
 refine callS (S2_c ((cb.trans h6.cl).blk hM)) (zR ?_)
 refine callK (sqBytes_c d.mv.to t0 t1 _) ?_
 rintro r w7 ⟨v7, rfl, hr7, c7⟩
 obtain ⟨a7, k7, rfl, _⟩ := hr7.form
 refine ⟨_, rfl, ?_⟩
 refine zR ?_
 refine callK (Write_c (h6.step c7) hr7 (by rw [hfrT]; simp [fileT, rankT])) ?_
 rintro r w8 ⟨rfl, h8⟩
 refine ⟨_, rfl, ?_⟩
 rw [← htoT] at h8
 have hM8 := (cb.trans h8.cl).blk hM
 refine zR ?_
 refine callS (Promo_c hM8) (zR ?_)
 apply E.ndsplit<;>intro h
 ·refine zR ?_
  refine callS (Promo_c hM8) (zR ?_)
  refine callK (ptBytes_c d.mv.promo hp.1 hp.2 _) ?_
  rintro r w9 ⟨v9, rfl, hr9, c9⟩
  obtain ⟨a9, k9, rfl, _⟩ := hr9.form
  refine ⟨_, rfl, ?_⟩
  refine zR ?_
  refine callK (Write_c (h8.step c9) hr9 (by rw [hfrT, htoT]; simp [fileT, rankT]; omega)) ?_
  rintro r w10 ⟨rfl, h10⟩
  refine ⟨_, rfl, ?_⟩
  refine zR ?_
  refine callK (String_c h10) ?_
  rintro r w11 ⟨rfl, c11⟩
  refine ⟨_, rfl, ?_⟩
  refine zR ?_
  exact ⟨by rw [if_neg h]; rfl, cb.trans c11⟩
 ·refine zR ?_
  refine callK (String_c h8) ?_
  rintro r w11 ⟨rfl, c11⟩
  refine ⟨_, rfl, ?_⟩
  refine zR ?_
  exact ⟨by rw [if_pos h, List.append_nil]; rfl, cb.trans c11⟩
set_option maxHeartbeats 2000000 in
theorem LanEncode_c {p : Pos} (hI : Inv p) (hN : Nums p) (hle : (macStd p).length ≤ 218) {d : Nd} (hle2 : Inv (made p d.mv) ∧ (macStd (made p d.mv)).length ≤ 218) {P b M : Nat} {ad : Addr} {n0 c0 : Nat} (hm : d.mv ∈ legal p) (htg : (d.tags : Int) = told p d.mv) (w : World) (hT : Tabs w) (hP : PosM w P b p (.slice (some ad) n0 c0))
  (hM : w.heap[M]? = some (.cells (ndA d) 141 (0, 0))) :
  Calls G.P 105 #[.agg #[], .pointer (some ⟨P, 0, none⟩), .pointer (some ⟨M, 0, none⟩)] w (Ret (txV (lanM p d.mv d.tags)) w) := by
 obtain ⟨_, _, h64⟩ := told_bits2 htg
 obtain ⟨f0, f1, t0, t1, hpm⟩ := legal_range hI hm
 obtain ⟨fr, hfr⟩ := Int.eq_ofNat_of_zero_le f0
 have hf64 : fr < 64 := by omega
 have pc := fun w hT hB => Piece_c (mbOf p) b (t := 237) (fz := (0, 0)) fr hf64 w hT hB
 rw [at_of' hI.pc hf64, ← hfr] at pc
 have hpr := hI.pc d.mv.fr
 have ety := fun w => Type_c (sq p d.mv.fr) hpr.1 hpr.2 w
 have hchk := fun (w : World) hT hP hM => getCheckChar_c hI hN hle2 (P := P) (b := b) (M := M) (cv := .slice (some ad) n0 c0) (d := d) hm htg w hT hP hM
 have hfrT : sqT d.mv.fr = fileT d.mv.fr ++ rankT d.mv.fr := by unfold sqT; rw [if_neg zo]
 have htoT : sqT d.mv.to = fileT d.mv.to ++ rankT d.mv.to := by unfold sqT; rw [if_neg zo]
 have hk0 : 0 ≤ kindOf (sq p d.mv.fr) ∧ kindOf (sq p d.mv.fr) ≤ 6 := by unfold kindOf; split <;> omega
 have hsan : lanM p d.mv d.tags = if d.tags.testBit 0 then [79, 45, 79] ++ signM p d.mv d.tags else if d.tags.testBit 1 then [79, 45, 79, 45, 79] ++ signM p d.mv d.tags
  else letter (kindOf (sq p d.mv.fr)) ++ sqT d.mv.fr ++ (if d.tags.testBit 2 || d.tags.testBit 3 then [120] else []) ++ sqT d.mv.to ++ (if d.mv.promo = 0 then [] else [61] ++ letter d.mv.promo) ++ signM p d.mv d.tags := rfl
 rw [hsan]
 clear hsan
 have gl := signM_len p d.mv d.tags
 have ll : (letter (kindOf (sq p d.mv.fr))).length ≤ 1 := letter_len _
 have pl : (letter d.mv.promo).length ≤ 1 := letter_len _
 have el := fun w => letter_c (kindOf (sq p d.mv.fr)) hk0.1 hk0.2 w
 have ep := fun w => charForPromo_c d.mv.promo zo w
 generalize signM p d.mv d.tags = SG at *
 generalize kindOf (sq p d.mv.fr) = KD at *
 refine zN Tryz.func105 ?_
 refine zR ?_
 have cb := Cl.alloc w (.cells #[] 150)
 generalize w.alloc (.cells #[] 150) = wb at *
 refine callR (hchk wb (hT.cl cb) (hP.step cb) (cb.blk hM)) fun w1 c1 => ?_
 have cw1 := cb.trans c1
 have hM1 := cw1.blk hM
 refine zR ?_
 refine callS (small_tag hM1 h64 0 zd _ rfl) ?_
 cases hb0 : d.tags.testBit 0
 rotate_left
 ·refine zR ?_
  refine E.ctrue (fits_tx (x := [79, 45, 79]) (y := SG) (by simp; omega)) (zR ?_)
  exact ⟨ret_tx (tx_app [79, 45, 79] SG), cw1⟩
 refine zR ?_
 refine callS (small_tag hM1 h64 1 zd _ rfl) ?_
 cases hb1 : d.tags.testBit 1
 rotate_left
 ·refine zR ?_
  refine E.ctrue (fits_tx (x := [79, 45, 79, 45, 79]) (y := SG) (by simp; omega)) (zR ?_)
  exact ⟨ret_tx (tx_app [79, 45, 79, 45, 79] SG), cw1⟩
 refine zR ?_
 refine callS (Board_c (hP.step cw1).hd) (zR ?_)
 refine callS (S1_c hM1) (zR ?_)
 refine callS (pc _ (hT.cl cw1) (hP.step cw1).bd) (zR ?_)
 refine callS (ety _) (zR ?_)
 refine callS (el _) (zR ?_)
 refine kNfr hM1 (zR ?_)
 refine callS (sqStr_c d.mv.fr f0 f1 _) ?_
 rw [← hfrT]
 refine zG ?_
 refine Nx.mk (zG ?_)
 refine joinK (σ := Unit) [11] 13 (fun _ => [(11, txV (if d.tags.testBit 2 || d.tags.testBit 3 then [120] else []))]) (fun _ w' => w' = w1) zk ?_ (fun _ j w2 e2 => ?_)
 ·have tg2 := small_tag hM1 h64 2 zd 4 rfl
  have tg3 := small_tag hM1 h64 3 zd 8 rfl
  have hne : ¬ (tx (sqT d.mv.fr) = ⟨#[]⟩) := by
   intro e
   rw [mk_tx, tx_inj, hfrT] at e
   cases e
  cases hb2 : d.tags.testBit 2
  ·rw [hb2] at tg2
   refine zR ?_
   refine callS tg2 (zR ?_)
   cases hb3' : d.tags.testBit 3
   ·rw [hb3'] at tg3
    refine callS tg3 (zR ?_)
    exact ⟨(), ⟨rfl, trivial⟩, rfl⟩
   ·rw [hb3'] at tg3
    refine callS tg3 (zR ?_)
    refine callS (ety _) (zR ?_)
    apply E.dsplit<;>intro h
    ·have hk := h
     refine zR ?_
     refine E.dfalse hne (zR ?_)
     exact ⟨(), ⟨rfl, trivial⟩, rfl⟩
    ·refine zR ?_
     repeat (refine E.dfalse h ?_; refine zR ?_)
     exact ⟨(), ⟨rfl, trivial⟩, rfl⟩
  ·rw [hb2] at tg2
   refine zR ?_
   refine callS tg2 (zR ?_)
   refine callS (ety _) (zR ?_)
   apply E.dsplit<;>intro h
   ·have hk := h
    refine zR ?_
    refine E.dfalse hne (zR ?_)
    exact ⟨(), ⟨rfl, trivial⟩, rfl⟩
   ·refine zR ?_
    repeat (refine E.dfalse h ?_; refine zR ?_)
    exact ⟨(), ⟨rfl, trivial⟩, rfl⟩
 subst e2
 have xl : (if d.tags.testBit 2 || d.tags.testBit 3 then ([120] : Tx) else []).length ≤ 1 := by split <;> simp
 generalize (if d.tags.testBit 2 || d.tags.testBit 3 then ([120] : Tx) else []) = XC at *
 refine zR ?_
 refine kNpromo hM1 (zR ?_)
 refine callS (ep _) ?_
 have prl : (if d.mv.promo = 0 then [] else [61] ++ letter d.mv.promo).length ≤ 2 := by split <;> simp; omega
 generalize (if d.mv.promo = 0 then [] else [61] ++ letter d.mv.promo) = PR at *
 have q1 : (sqT d.mv.fr).length = 2 := by rw [hfrT]; rfl
 have q2 : (sqT d.mv.to).length = 2 := by rw [htoT]; rfl
 refine zR ?_
 refine E.ctrue (fits_tx (x := letter KD) (y := sqT d.mv.fr) zo) ?_
 rw [tx_app]
 refine zR ?_
 refine E.ctrue (fits_tx (x := letter KD ++ sqT d.mv.fr) (y := XC) (by rw [List.length_append]; omega)) ?_
 rw [tx_app]
 refine zR ?_
 refine kNto hM1 (zR ?_)
 refine callS (sqStr_c d.mv.to t0 t1 _) ?_
 rw [← htoT]
 refine zR ?_
 refine E.ctrue (fits_tx (x := letter KD ++ sqT d.mv.fr ++ XC) (y := sqT d.mv.to) (by simp only [List.length_append]; omega)) ?_
 rw [tx_app]
 refine zR ?_
 refine E.ctrue (fits_tx (x := letter KD ++ sqT d.mv.fr ++ XC ++ sqT d.mv.to) (y := PR) (by simp only [List.length_append]; omega)) ?_
 rw [tx_app]
 refine zR ?_
 refine E.ctrue (fits_tx (x := letter KD ++ sqT d.mv.fr ++ XC ++ sqT d.mv.to ++ PR) (y := SG) (by simp only [List.length_append]; omega)) ?_
 rw [tx_app]
 refine zR ?_
 exact ⟨rfl, cw1⟩
end
end Go.Proofs.YtpclhlhcegcflaaGreatDoor
