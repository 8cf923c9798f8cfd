/- One part of the proof: Lid Arg Opn Pk45 Sp28 Sp29 Sp30 Sp31. -/
import Derived.Lib.LaidU8
import Derived.LaidMore
import Derived.OpenShut
import Derived.Handed
import Derived.Deep.Slices
import Derived.ProofKit
import Derived.Test.YtpclhlhcegcflaaGreatDoorM1
import Derived.Test.YtpclhlhcegcflaaGreatDoorM3
import Derived.Test.YtpclhlhcegcflaaGreatDoorM9
import Derived.Test.YtpclhlhcegcflaaGreatDoorM13
import Derived.Test.YtpclhlhcegcflaaGreatDoorM14
import Derived.Test.YtpclhlhcegcflaaGreatDoorM24
namespace Go.Proofs.YtpclhlhcegcflaaGreatDoor
set_option maxRecDepth 100000
set_option linter.unusedSimpArgs false
set_option linter.unusedVariables false
section
open Go Go.RowKit
open E
open Ch Bb
def b3T (P : Program) : Nat → Nat → Bool
 | 0, _ => true
 | d + 1, e => match P.underlying e with
  | some (.struct fs) => fs.all fun f => b3T P d f.type
  | some (.array _ _) => false
  | _ => true
theorem b5a {P : Program} {fits : TypeId → Bool} : ∀ (d e n off : Nat), b3T P d e = true → 2 ≤ n → rowAt P fits d e 1 off n = false := by
 intro d
 induction d with
 | zero => intro e n off _ _; rfl
 | succ d ih =>
  intro e n off h hn
  unfold b3T at h
  unfold rowAt
  simp only
  split
  ·rfl
  rw [Bool.or_eq_false_iff]
  constructor
  ·rw [decide_eq_false (show ¬ off / P.cellsOf e + n ≤ 1 by generalize off / P.cellsOf e = q; omega)]; simp
  ·rw [Bool.and_eq_false_iff]
   right
   split at h
   ·rename_i fs hu
    simp only [hu]
    rw [Bool.and_eq_false_iff]
    right
    rw [Array.any_eq_false]
    intro i hi hc
    rw [Array.all_eq_true] at h
    have := ih fs[i].type n (off % P.cellsOf e - fs[i].offset) (h i hi) hn
    rw [this] at hc
    simp at hc
   ·cases h
   ·rename_i h1 h2
    split
    ·rename_i fs hu; exact absurd hu (h1 fs)
    ·rename_i m e' hu; exact absurd hu (h2 m e')
    ·rfl
def a6i (P : Program) (fits : TypeId → Bool) : Nat → Nat → Bool
 | 0, _ => true
 | d + 1, e => !fits e && match P.underlying e with
  | some (.struct fs) => fs.all fun f => b3T P d f.type
  | some (.array _ _) => false
  | _ => true
theorem b5b {P : Program} {fits : TypeId → Bool} (d e n c off : Nat) (h : a6i P fits d e = true) (hn : 2 ≤ n) : rowAt P fits d e c off n = false := by
 cases d with
 | zero => rfl
 | succ d =>
  unfold a6i at h
  rw [Bool.and_eq_true] at h
  obtain ⟨h0, h⟩ := h
  have h0 : fits e = false := by simpa using h0
  unfold rowAt
  simp only
  split
  ·rfl
  rw [Bool.or_eq_false_iff]
  constructor
  ·rw [h0]; simp
  ·rw [Bool.and_eq_false_iff]
   right
   split at h
   ·rename_i fs hu
    simp only [hu]
    rw [Bool.and_eq_false_iff]
    right
    rw [Array.any_eq_false]
    intro i hi hc
    rw [Array.all_eq_true] at h
    have := b5a (fits := fits) d fs[i].type n (off % P.cellsOf e - fs[i].offset) (h i hi) hn
    rw [this] at hc
    simp at hc
   ·cases h
   ·rename_i h1 h2
    split
    ·rename_i fs hu; exact absurd hu (h1 fs)
    ·rename_i m e' hu; exact absurd hu (h2 m e')
    ·rfl
theorem b2K {P : Program} (D e u n c off : Nat) (h : a6i P (fun t => sameLayout P P.depth t u) P.depth e = true) (hu : ∀ m u', P.underlying u ≠ some (.array m u')) (hn : 2 ≤ n) : liesAt P D e c off u n = false := by
 cases D with
 | zero => rfl
 | succ D =>
  unfold liesAt
  rw [b5b _ _ _ _ _ h hn, Bool.false_or]
  split
  ·rename_i m u' he; exact absurd he (hu m u')
  ·rfl
theorem b7j {W : World} (hS : W.ShapedOpen G.P) {g ty : Nat} (hlt : g < G.P.globals.size) (h0 : (((begin G.P (fun _ _ => 0) default).world.heap[g]?).bind Obj.row?).map (·.2) = some ty) :
  ∃ cs, W.heap[g]? = some (.cells cs ty (0, 0)) ∧ (G.P.buildable ty = true → Row.ok G.P W .any 0 ty cs) := by
 cases h1 : ((begin G.P (fun _ _ => 0) default).world.heap[g]?).bind Obj.row? with
 | none => rw [h1] at h0; cases h0
 | some x =>
  obtain ⟨zero, t⟩ := x
  rw [h1] at h0
  obtain rfl : t = ty := Option.some.inj h0
  obtain ⟨cs, h2, _, h3⟩ := hS.1 g zero t hlt h1
  exact ⟨cs, h2, h3⟩
theorem b7k {W : World} {name : String} {g ty : Nat} {cs cs' : Array Value} (hg : G.P.globalNamed name = some g) (hb : W.heap[g]? = some (.cells cs ty (0, 0))) (hv : W.var? G.P name = some cs') : cs' = cs := by
 unfold World.var? at hv
 rw [hg] at hv
 simp only [Option.bind_some, hb] at hv
 exact (Option.some.inj hv).symm
theorem a0O {W : World} (hS : W.ShapedOpen G.P) {name : String} {g t n e ty : Nat} {k : IntKind} {z : Nat → Int} (hg : G.P.globalNamed name = some g) (hlt : g < G.P.globals.size) (h0 : (((begin G.P (fun _ _ => 0) default).world.heap[g]?).bind Obj.row?).map (·.2) = some ty)
  (hf : a1J ty = true) (hty : (G.P.globals[g]?).map (·.type) = some t) (ht : G.P.underlying t = some (.array n e)) (he : G.P.underlying e = some (.int k)) (hce : G.P.cellsOf e = 1) (hct : G.P.cellsOf t = n)
  (hr : Lib.VarReads G.P W name (Lib.tabData k ((List.range n).map z))) : Y2 W g n (fun i => .int k (z i)) := by
 obtain ⟨g', t', cs', fuel, p, hg', ht', hv, hd⟩ := hr
 obtain rfl := Option.some.inj (hg.symm.trans hg')
 obtain rfl := Option.some.inj (hty.symm.trans ht')
 obtain ⟨cs, hb, _⟩ := b7j hS hlt h0
 have e1 := Lib.cells_of_tab ht he hce hct hd
 rw [b7k hg hb hv] at e1
 refine ⟨cs, ty, _, hb, hf, fun i hi => ?_⟩
 have e2 : cs.toList[i]? = some (Value.int k (z i)) := by
  rw [e1]
  simp [List.getElem?_map, List.getElem?_range hi]
 simpa using e2
theorem b1t {W : World} {name : String} {g t n e : Nat} {k : IntKind} {zs : List Int} (hg : G.P.globalNamed name = some g) (hty : (G.P.globals[g]?).map (·.type) = some t) (ht : G.P.underlying t = some (.array n e)) (he : G.P.underlying e = some (.int k)) (hce : G.P.cellsOf e = 1) (hct : G.P.cellsOf t = n)
  (hr : Lib.VarReads G.P W name (Lib.tabData k zs)) : Lib.TabIs G.P W name k zs := by
 obtain ⟨g', t', cs', fuel, p, hg', ht', hv, hd⟩ := hr
 obtain rfl := Option.some.inj (hg.symm.trans hg')
 obtain rfl := Option.some.inj (hty.symm.trans ht')
 unfold Lib.TabIs
 rw [hv, ← Lib.cells_of_tab ht he hce hct hd]
theorem b3U {W : World} (hS : W.ShapedOpen G.P) {name : String} {g t n e ty : Nat} {k : IntKind} {z : Nat → Int} (hg : G.P.globalNamed name = some g) (hlt : g < G.P.globals.size) (h0 : (((begin G.P (fun _ _ => 0) default).world.heap[g]?).bind Obj.row?).map (·.2) = some ty)
  (hf : a1J ty = true) (hbu : G.P.buildable ty = true) (hct : G.P.cellTypes G.P.depth ty = some [t]) (hty : (G.P.globals[g]?).map (·.type) = some t) (ht : G.P.underlying t = some (.slice e)) (he : G.P.underlying e = some (.int k)) (hce : G.P.cellsOf e = 1)
  (hn : 2 ≤ n) (hno : ∀ row, a1J row = false → a6i G.P (fun t => sameLayout G.P G.P.depth t e) G.P.depth row = true)
  (hr : Lib.VarReads G.P W name (.slice ((List.range n).map fun i => .lit (.int k (z i))) [])) : a6r W g n (fun i => .int k (z i)) := by
 obtain ⟨g', t', cs', fuel, p, hg', ht', hv, hd⟩ := hr
 obtain rfl := Option.some.inj (hg.symm.trans hg')
 obtain rfl := Option.some.inj (hty.symm.trans ht')
 obtain ⟨cs, hb, hok⟩ := b7j hS hlt h0
 rw [b7k hg hb hv] at hd
 obtain ⟨a, cap, e1, hcap, hcells⟩ := open_row ht hce hd
 have hl : ((List.range n).map fun i => (DataW.lit (.int k (z i)) : DataW Unit)).length = n := by simp
 rw [hl] at e1 hcap
 have e2 : cs = #[.slice (some a) n cap] := by rw [← Array.toList_inj]; exact e1
 subst e2
 obtain ⟨ts, hts, _, hall⟩ := hok hbu
 obtain rfl := Option.some.inj (hct.symm.trans hts)
 obtain ⟨u, hu, hc⟩ := hall 0 _ rfl
 obtain rfl : t = u := Option.some.inj hu
 unfold Cell.ok at hc
 rw [ht] at hc
 obtain ⟨_, _, _, hsp, row, cells, hsh, hlie⟩ := hc
 obtain ⟨b, o, sp⟩ := a
 have hsp : sp = none := hsp
 subst hsp
 unfold World.shape? at hsh
 have hcell0 := hcells
 cases hbb : W.heap[b]? with
 | none => simp only [hbb] at hsh; cases hsh
 | some ob =>
  cases ob with
  | cells cs2 el fz =>
   simp only [hbb] at hsh
   obtain ⟨rfl, rfl⟩ := Prod.mk.inj (Option.some.inj hsh)
   refine ⟨b, o, cap, ⟨_, _, _, hb, hf, fun i hi => ?_⟩, cs2, el, fz, hbb, ?_, fun i hi => ?_⟩
   ·obtain rfl : i = 0 := by omega
    rfl
   ·cases hfx : a1J el with
    | true => rfl
    | false =>
     have hu : ∀ m u', G.P.underlying e ≠ some (.array m u') := fun m u' h => by rw [he] at h; cases h
     rw [b2K _ _ _ _ _ _ (hno el hfx) hu zo] at hlie
     cases hlie
   ·obtain ⟨v, m, q, hv1, hv2⟩ := hcells i (.lit (.int k (z i))) (by simp [List.getElem?_map, List.getElem?_range hi])
    obtain ⟨z', h3, h4, _⟩ := DataW.trod_int he hv2
    injection h3 with h3
    injection h4 with h4
    injection h4 with h4
    injection h4 with _ h4
    rw [G8] at hv1
    unfold World.cell? at hv1
    simp only [hbb] at hv1
    rw [h3, ← h4] at hv1
    simpa using hv1
  | _ => simp only [hbb] at hsh; cases hsh
theorem c2q (P : Nat → Prop) (h0 : P 173) (h1 : P 237) (h2 : P 141) (h3 : P 131) : ∀ row, a1J row = false → P row := by
 intro row h
 unfold a1J at h
 have h : (Nat.beq row 173 || Nat.beq row 237 || Nat.beq row 141 || Nat.beq row 131) = true := by
  revert h
  generalize (Nat.beq row 173 || Nat.beq row 237 || Nat.beq row 141 || Nat.beq row 131) = q
  cases q <;> decide
 simp only [Bool.or_eq_true] at h
 rcases h with ((h | h) | h) | h
 ·obtain rfl := Nat.eq_of_beq_eq_true h; exact h0
 ·obtain rfl := Nat.eq_of_beq_eq_true h; exact h1
 ·obtain rfl := Nat.eq_of_beq_eq_true h; exact h2
 ·obtain rfl := Nat.eq_of_beq_eq_true h; exact h3
theorem c2r : ∀ row, a1J row = false → a6i G.P (fun t => sameLayout G.P G.P.depth t 194) G.P.depth row = true :=
 c2q (fun row => a6i G.P (fun t => sameLayout G.P G.P.depth t 194) G.P.depth row = true) zk zk zk zk
theorem c2s : ∀ row, a1J row = false → a6i G.P (fun t => sameLayout G.P G.P.depth t 139) G.P.depth row = true :=
 c2q (fun row => a6i G.P (fun t => sameLayout G.P G.P.depth t 139) G.P.depth row = true) zk zk zk zk
theorem b5c {W : World} (hS : W.ShapedOpen G.P) {l : List (String × DataW Unit)} (h : laidMet G.P l W)
  (dia : ("pub-tabiya/pub/chess.bbDiagonals", Lib.tabData .u64 ((List.range 64).map fun i => ((Bb.mask 2 i : Nat) : Int))) ∈ l)
  (anti : ("pub-tabiya/pub/chess.bbAntiDiagonals", Lib.tabData .u64 ((List.range 64).map fun i => ((Bb.mask 3 i : Nat) : Int))) ∈ l)
  (ranks : ("pub-tabiya/pub/chess.bbRanks", Lib.tabData .u64 ((List.range 8).map fun i => ((Bb.mask 0 (8 * i) : Nat) : Int))) ∈ l)
  (files : ("pub-tabiya/pub/chess.bbFiles", Lib.tabData .u64 ((List.range 8).map fun i => ((Bb.mask 1 i : Nat) : Int))) ∈ l)
  (kn : ("pub-tabiya/pub/chess.bbKnightMoves", Lib.tabData .u64 ((List.range 64).map fun i => ((Ch.kn i : Nat) : Int))) ∈ l)
  (kg : ("pub-tabiya/pub/chess.bbKingMoves", Lib.tabData .u64 ((List.range 64).map fun i => ((Ch.kg i : Nat) : Int))) ∈ l)
  (all : ("pub-tabiya/pub/chess.allPieces", .slice ((List.range 12).map fun (i : Nat) => .lit (.int .i8 ((i : Int) + 1))) []) ∈ l)
  (promo : ("pub-tabiya/pub/chess.promoPieceTypes", .slice ((List.range 4).map fun (i : Nat) => .lit (.int .i8 ((i : Int) + 2))) []) ∈ l)
  (wfen : ("pub-tabiya/pub/chess.whitePiecesToFEN", Lib.tabData .u8 ((List.range 7).map fun i => ((wfenL.getD i 0 : Nat) : Int))) ∈ l)
  (bfen : ("pub-tabiya/pub/chess.blackPiecesToFEN", Lib.tabData .u8 ((List.range 7).map fun i => ((bfenL.getD i 0 : Nat) : Int))) ∈ l)
  (fen : ("pub-tabiya/pub/chess.fenCharToPiece", Lib.tabData .i8 ((List.range 128).map fun i => (a28 i))) ∈ l)
  (spc : ("strings.asciiSpace", Lib.tabData .u8 Lib.asciiSpaceTab) ∈ l) (pow : ("internal/strconv.uint64pow10", Lib.tabData .u64 Lib.pow10Tab) ∈ l) : C1 W ∧ Spc W ∧ Pow W := by
 refine ⟨⟨?_, ?_, ?_, ?_, ?_, ?_, ?_, ?_, ?_, ?_, ?_⟩, ?_, ?_⟩
 ·exact a0O hS (ty := 282) (t := 282) (e := 235) zk (Nat.le_of_ble_eq_true zk) zk rfl zk zk zk zk zk (Lib.laidMet.reads h dia)
 ·exact a0O hS (ty := 282) (t := 282) (e := 235) zk (Nat.le_of_ble_eq_true zk) zk rfl zk zk zk zk zk (Lib.laidMet.reads h anti)
 ·exact a0O hS (ty := 326) (t := 326) (e := 235) zk (Nat.le_of_ble_eq_true zk) zk rfl zk zk zk zk zk (Lib.laidMet.reads h ranks)
 ·exact a0O hS (ty := 326) (t := 326) (e := 235) zk (Nat.le_of_ble_eq_true zk) zk rfl zk zk zk zk zk (Lib.laidMet.reads h files)
 ·exact a0O hS (ty := 282) (t := 282) (e := 235) zk (Nat.le_of_ble_eq_true zk) zk rfl zk zk zk zk zk (Lib.laidMet.reads h kn)
 ·exact a0O hS (ty := 282) (t := 282) (e := 235) zk (Nat.le_of_ble_eq_true zk) zk rfl zk zk zk zk zk (Lib.laidMet.reads h kg)
 ·exact b3U hS (ty := 243) (t := 243) (e := 194) zk (Nat.le_of_ble_eq_true zk) zk rfl zk zk zk zk zk zk zd c2r (Lib.laidMet.reads h all)
 ·exact b3U hS (ty := 291) (t := 291) (e := 139) zk (Nat.le_of_ble_eq_true zk) zk rfl zk zk zk zk zk zk zd c2s (Lib.laidMet.reads h promo)
 ·exact a0O hS (ty := 300) (t := 300) (e := 5) zk (Nat.le_of_ble_eq_true zk) zk rfl zk zk zk zk zk (Lib.laidMet.reads h wfen)
 ·exact a0O hS (ty := 300) (t := 300) (e := 5) zk (Nat.le_of_ble_eq_true zk) zk rfl zk zk zk zk zk (Lib.laidMet.reads h bfen)
 ·exact a0O hS (ty := 316) (t := 316) (e := 194) zk (Nat.le_of_ble_eq_true zk) zk rfl zk zk zk zk zk (Lib.laidMet.reads h fen)
 ·exact b1t (g := 1) (t := 269) (n := 256) (e := 5) zk zk zk zk zk zk (Lib.laidMet.reads h spc)
 ·exact b1t (g := 16) (t := 354) (n := 20) (e := 234) zk zk zk zk zk zk (Lib.laidMet.reads h pow)
theorem a8f {H : Type} {enc : TypeId × Value → H} {a : Assume} {C : Checked} {os : Os} {f : FuncId} {fn : Func} {s : ChangeSpec} {conds : List PathCond} {apart fresh handsOn again : Bool} {X : World → Array Value → Prop}
  (hX : ∀ (w w' : World) (args : Array Value), w.heap = w'.heap → X w args → X w' args)
  (own : ownKnob C.prog.godebug = none) (started : os.Started) (noInit : C.prog.inits.idxOf? f = none) (hfn : C.prog.funcs[f]? = some fn)
  (witness : ∃ (w : World) (tape : Tape) (i : Input), w.os = os ∧ (w.forCall tape i).Shaped C.prog ∧ i.vars = [] ∧ Input.okWide C.prog (w.forCall tape i) .any w.heap.size f i ∧
   ((s.pre enc C.prog fn conds apart (w.forCall tape i).memory i.args ∧ X (w.forCall tape i).memory i.args) ∧ sizedMet enc C.prog fn (OpenSpec.ofChange s) apart (w.forCall tape i).memory i.args) ∧ a.holds C.prog (lone (Frame.enter C.prog f i.args .normal) [] (w.forCall tape i)))
  (contract : ∀ (W : World) (base : Nat) (args : Array Value) (ds gs : List (DataW H)) (before : List MemPlace), W.ShapedOpen C.prog →
   (∀ (j : Nat) t v, fn.params[j]? = some t → args[j]? = some v → Value.okWide C.prog W .any base t v) →
   DataW.Whole enc C.prog fn.params.toList s.vars apart W args.toList ds gs before → X W args →
   Calls C.prog f args W fun e W' => ∃ v, e = .returned v ∧ s.post enc C.prog fn apart fresh handsOn again W args v W') :
  ReturnsInHanded a C os f .any (fun w args => (s.pre enc C.prog fn conds apart w args ∧ X w args) ∧ sizedMet enc C.prog fn (OpenSpec.ofChange s) apart w args) (s.post enc C.prog fn apart fresh handsOn again) := by
 refine returnsInHanded_of_calls own started noInit witness ?_
 intro w tape i _ hsh _ hok hpre _
 obtain ⟨_, _, _, fn', hfn', _, _, _, _, hval⟩ := hok
 have e : fn' = fn := Option.some.inj (hfn'.symm.trans hfn)
 subst e
 obtain ⟨⟨⟨ds, gs, before, hw, _⟩, hx⟩, _⟩ := hpre
 have hw' := DataW.Whole.of_heap (w' := w.forCall tape i) (by rfl) hw
 refine (contract (w.forCall tape i) w.heap.size i.args ds gs before hsh hval hw' (hX _ _ _ (by rfl) hx)).mono fun e W' ⟨v, he, hp⟩ => ?_
 subst he
 exact ChangeSpec.post_blind hp
end
section
open Go Go.RowKit Go.Deep Go.ChangeShapes Go.WideShapes
open E
theorem a8U {W : World} {r : Reach} {b t : Nat} {k : IntKind} {v : Value} (ht : G.P.underlying t = some (.int k)) (h : Cell.okWide G.P W r b t v) : ∃ n, v = .int k n ∧ k.has n := by
 unfold Cell.okWide Cell.ok at h
 cases v <;> simp [ht] at h
 rename_i k' n
 obtain ⟨rfl, h⟩ := h
 exact ⟨n, rfl, h⟩
theorem b9a {l : List Value} {k : IntKind} : (∀ (i : Nat) (v : Value), l[i]? = some v → ∃ n, v = Value.int k n) → ∃ zs : List Int, l = zs.map (Value.int k) := by
 induction l with
 | nil => intro _; exact ⟨[], rfl⟩
 | cons v r ih =>
  intro h
  obtain ⟨n, rfl⟩ := h 0 v rfl
  obtain ⟨zs, rfl⟩ := ih (fun i v hv => h (i + 1) v (by simpa using hv))
  exact ⟨n :: zs, rfl⟩
theorem b9b {n : Int} (h : IntKind.i64.has n) : I64 n := by
 have e1 : IntKind.i64.min = -9223372036854775808 := by decide
 have e2 : IntKind.i64.max = 9223372036854775807 := by decide
 obtain ⟨h1, h2⟩ := h
 rw [e1] at h1; rw [e2] at h2
 exact ⟨h1, h2⟩
theorem b9c {zs : List Int} (h : zs.length = 69) : ∃ s : k8, (zs.map (Value.int .i64)).toArray = o9 s := by
 refine ⟨{ board := zs.take 64, len := by simp [h], turn := zs.getD 64 0, castle := zs.getD 65 0, ep := zs.getD 66 0, half := zs.getD 67 0, full := zs.getD 68 0 }, ?_⟩
 unfold o9 X0
 congr 1
 have : zs = zs.take 64 ++ [zs.getD 64 0, zs.getD 65 0, zs.getD 66 0, zs.getD 67 0, zs.getD 68 0] := by
  apply List.ext_getElem
  ·simp [h]
  ·intro i h1 h2
   by_cases hi : i < 64
   ·rw [List.getElem_append_left (by simp [h]; exact hi)]
    simp
   ·rw [List.getElem_append_right (by simp [h]; omega)]
    have hh : (zs.take 64).length = 64 := by simp [h]
    simp only [hh]
    have : i = 64 ∨ i = 65 ∨ i = 66 ∨ i = 67 ∨ i = 68 := by omega
    rcases this with rfl | rfl | rfl | rfl | rfl <;> simp [List.getD_eq_getElem?_getD, h1]
 conv => lhs; rw [this]
 rw [List.map_append]
 rfl
theorem b7l {W : World} {r : Reach} {b : Nat} {v : Value} (h : Value.okWide G.P W r b 24 v) : ∃ s : k8, v = C4 s := by
 obtain ⟨f, hu, _⟩ := a0m (G.tab 24 _ (show P1 G.T 24 = some (.struct 69 _) from rfl))
 unfold Value.okWide at h
 rw [hu] at h
 obtain ⟨cs, rfl, hs, ts, hts, _, hall⟩ := h
 have e1 : G.P.cellTypes G.P.depth 24 = some (List.replicate 69 3) := by kernel_rfl
 obtain rfl := Option.some.inj (e1.symm.trans hts)
 have e2 : G.P.cellsOf 24 = 69 := by kernel_rfl
 have e3 : G.P.underlying 3 = some (.int .i64) := by kernel_rfl
 rw [e2] at hs
 obtain ⟨zs, hz⟩ := b9a (l := cs.toList) (k := .i64) (fun i v hv => by
  obtain ⟨u, hu, hc⟩ := hall i v (by simpa using hv)
  rw [List.getElem?_replicate] at hu
  split at hu
  ·obtain rfl := Option.some.inj hu
   obtain ⟨n, h1, _⟩ := a8U e3 hc
   exact ⟨n, h1⟩
  ·cases hu)
 obtain ⟨s, hs2⟩ := b9c (zs := zs) (by have := congrArg List.length hz; simpa [hs] using this.symm)
 refine ⟨s, ?_⟩
 unfold C4
 rw [← hs2, ← hz]
theorem c0Y {n : Int} (h : (Lit.int .i64 n).wf = true) : I64 n := by
 have e1 : IntKind.i64.min = -9223372036854775808 := by decide
 have e2 : IntKind.i64.max = 9223372036854775807 := by decide
 simp [Lit.wf, e1, e2] at h
 exact ⟨zo, zo⟩
theorem b2L {H : Type} {enc : TypeId × Value → H} {W : World} {b base : Nat} {sp : Nat → Bool} {hd : Bool} {v : Value} {d : DataW H} {ps : List MemPlace} (h : Value.okWide G.P W .any b 25 v) (hr : DataW.Trod enc G.P W base sp hd 25 v d ps) :
  ∃ ms : List Mv, a2a W v ms ∧ ∀ m ∈ ms, MvR m := by
 have e1 : G.P.underlying 25 = some (.slice 36) := by kernel_rfl
 have e2 : G.P.cellsOf 36 = 3 := by kernel_rfl
 have e3 : G.P.underlying 3 = some (.int .i64) := by kernel_rfl
 have e4 : G.P.cellsOf 3 = 1 := by kernel_rfl
 obtain ⟨f, hu, _, hf, _⟩ := a0m (G.tab 36 _ (show P1 G.T 36 = some (.struct 3 _) from rfl))
 have hf2 : f.toList.map (fun x => (x.type, x.offset)) = [(3, 0), (3, 1), (3, 2)] := hf
 have hfs : f.size = 3 := by have := congrArg List.length hf2; simpa using this
 have hfi : ∀ i (hi : i < 3), f[i].type = 3 ∧ f[i].offset = i := fun i hi => by
  have := congrArg (fun l => l[i]?) hf2
  simp only [List.getElem?_map] at this
  rw [List.getElem?_eq_getElem (by simp [hfs]; exact hi)] at this
  simp only [Option.map_some, Array.getElem_toList] at this
  have h3 : i = 0 ∨ i = 1 ∨ i = 2 := by omega
  rcases h3 with rfl | rfl | rfl <;> simpa using this
 obtain ⟨fuel, hr⟩ := hr
 unfold Value.okWide at h
 rw [e1] at h
 have hv : ∃ oa len cap, v = .slice oa len cap := by
  unfold Cell.okWide Cell.ok at h
  cases v <;> simp [e1] at h
  exact ⟨_, _, _, rfl⟩
 obtain ⟨oa, len, cap, rfl⟩ := hv
 rcases open_slice e1 hr with ⟨h1, _⟩ | ⟨a, len', cap', m, n, D, Pl, h1, _, hl, hm, hmm, _, hx⟩
 ·obtain ⟨rfl, rfl, rfl⟩ : oa = none ∧ len = 0 ∧ cap = 0 := by simpa [Value.cells] using h1
  exact ⟨[], ⟨none, 0, rfl, fun h => absurd h zd⟩, fun m hm => by cases hm⟩
 ·obtain ⟨rfl, rfl, rfl⟩ : oa = some a ∧ len = len' ∧ cap = cap' := by simpa [Value.cells] using h1
  unfold Cell.okWide Cell.ok at h
  rw [e1] at h
  obtain ⟨_, _, _, hsp, row, cells, hsh, _⟩ := h
  obtain ⟨g, o, spo⟩ := a
  obtain rfl : spo = none := hsp
  unfold World.shape? at hsh
  cases hbb : W.heap[g]? with
  | none => simp only [hbb] at hsh; cases hsh
  | some ob =>
   cases ob with
   | cells cs2 el fz =>
    have hlm : len ≤ m := by rw [hmm]; split <;> omega
    have key : ∀ i, i < len → ∃ mv : Mv, MvR mv ∧ o + i * 3 + 3 ≤ cs2.size ∧ cs2.extract (o + i * 3) (o + i * 3 + 3) = K2 mv := by
     intro i hi
     obtain ⟨cs', hc1, hc2⟩ := hx i zo
     obtain ⟨_, hlen, hcell⟩ := World.cells?_some hc1
     rw [e2] at hlen hcell
     obtain ⟨xs, n', _, _, _, hxl, hall⟩ := DataW.trod_struct hu hc2
     have hz : ∀ j, j < 3 → ∃ z, cs2[o + i * 3 + j]? = some (Value.int .i64 z) ∧ I64 z := by
      intro j hj
      obtain ⟨t1, t2⟩ := hfi j hj
      have h2 := hall j f[j] (by simp [hfs, hj])
      rw [t1, t2, e4, List.getElem?_eq_getElem zo] at h2
      obtain ⟨z, h3, _, h4⟩ := DataW.trod_int e3 h2
      have h5 : cs'[j]? = some (Value.int .i64 z) := by
       have := congrArg (·[0]?) h3
       simpa [List.getElem?_take, List.getElem?_drop] using this
      have h6 := hcell j hj
      rw [h5, G8, G8] at h6
      unfold World.cell? at h6
      simp only [hbb] at h6
      exact ⟨z, by simpa using h6, c0Y h4⟩
     obtain ⟨z0, p0, r0⟩ := hz 0 zd
     obtain ⟨z1, p1, r1⟩ := hz 1 zd
     obtain ⟨z2, p2, r2⟩ := hz 2 zd
     have hsz := (Array.getElem?_eq_some_iff.1 p2).1
     refine ⟨⟨z0, z1, z2⟩, ⟨r0, r1, r2⟩, zo, ?_⟩
     apply Array.ext
     ·simp [K2]; omega
     ·intro j h1 h2
      have h3 : j = 0 ∨ j = 1 ∨ j = 2 := by simp [K2] at h2; omega
      rw [Array.getElem_extract]
      rcases h3 with rfl | rfl | rfl
      ·exact (Array.getElem?_eq_some_iff.1 p0).2
      ·exact (Array.getElem?_eq_some_iff.1 p1).2
      ·exact (Array.getElem?_eq_some_iff.1 p2).2
    have : Inhabited Mv := ⟨⟨0, 0, 0⟩⟩
    obtain ⟨F, hF⟩ := choose_lt key
    refine ⟨(List.range len).map F, ⟨some ⟨g, o, none⟩, cap, by simp, fun _ => ⟨g, o, cs2, el, fz, rfl, hbb, fun i hi => ?_⟩⟩, fun mv hmv => ?_⟩
    ·have hi2 : i < len := by simpa using hi
     obtain ⟨_, h7, h8⟩ := hF i hi2
     exact ⟨h7, by simpa using h8⟩
    ·obtain ⟨i, hi, rfl⟩ := List.mem_map.1 hmv
     exact (hF i (List.mem_range.1 hi)).1
   | _ => simp only [hbb] at hsh; cases hsh
theorem a36 {W : World} {r : Reach} {b : Nat} {v : Value} (h : Value.okWide G.P W r b 36 v) : ∃ m : Mv, v = G5 m ∧ MvR m := by
 obtain ⟨f, hu, _⟩ := a0m (G.tab 36 _ (show P1 G.T 36 = some (.struct 3 _) from rfl))
 unfold Value.okWide at h
 rw [hu] at h
 obtain ⟨cs, rfl, hs, ts, hts, _, hall⟩ := h
 have e1 : G.P.cellTypes G.P.depth 36 = some (List.replicate 3 3) := by kernel_rfl
 obtain rfl := Option.some.inj (e1.symm.trans hts)
 have e2 : G.P.cellsOf 36 = 3 := by kernel_rfl
 have e3 : G.P.underlying 3 = some (.int .i64) := by kernel_rfl
 rw [e2] at hs
 have key : ∀ i, i < 3 → ∃ n, cs[i]? = some (.int .i64 n) ∧ I64 n := fun i hi => by
  obtain ⟨u, hu, hc⟩ := hall i cs[i] (by rw [Array.getElem?_eq_getElem])
  rw [List.getElem?_replicate] at hu
  obtain rfl : 3 = u := by
   split at hu
   ·exact Option.some.inj hu
   ·cases hu
  obtain ⟨n, h1, h2⟩ := a8U e3 hc
  exact ⟨n, by rw [Array.getElem?_eq_getElem zo, h1], b9b h2⟩
 obtain ⟨a, ha, ra⟩ := key 0 zd
 obtain ⟨b, hb, rb⟩ := key 1 zd
 obtain ⟨c, hc, rc⟩ := key 2 zd
 refine ⟨⟨a, b, c⟩, ?_, ra, rb, rc⟩
 unfold G5 K2
 congr 1
 apply Array.ext_getElem?
 intro i
 by_cases hi : i < 3
 ·rcases (by omega : i = 0 ∨ i = 1 ∨ i = 2) with rfl | rfl | rfl
  ·rw [ha]; rfl
  ·rw [hb]; rfl
  ·rw [hc]; rfl
 ·rw [Array.getElem?_eq_none zo, Array.getElem?_eq_none (by simp; omega)]
end
section
open Go Go.RowKit
open E
open Ch Bb
set_option maxHeartbeats 1000000 in
theorem b5d (s0 : Tx) (hs : s0.length ≤ 1000) (w : World) : Calls G.P 190 #[s8 s0, s8 [32]] w (fun r w' => ∃ v, r = .returned v ∧ Row 9 1 a4E w.heap.size w' v (a1M 32 [] s0) ∧ Cl w w') := by
 have h1 : (tx [32]).size = 1 := C9 _
 refine zN Tryz.func190 ?_
 refine zR ?_
 refine A9 (σ := List Tx × Value × Tx) [0, 4, 5, 8] 9 (fun s => [(0, s8 s.2.2), (5, s.2.1)]) (fun s w' => Cl w w' ∧ Row 9 1 a4E w.heap.size w' s.2.1 s.1 ∧ s.1 ++ a1M 32 [] s.2.2 = a1M 32 [] s0 ∧ s.1.length + s.2.2.length ≤ 1000) (fun s => s.2.2.length) zk
  ([], .slice none 0 0, s0) ⟨Cl.refl _, Row.nil _ _, rfl, by simpa using hs⟩ ⟨rfl, rfl, trivial⟩ ?_
 rintro ⟨l, v, s⟩ j w1 ⟨c1, hr, he, hl⟩
 simp only at c1 hr he hl ⊢
 obtain ⟨a, c, rfl, _⟩ := hr.form
 refine zR ?_
 refine d9 (a56 32 s zo _) (zR ?_)
 by_cases hm : (32 : UInt8) ∈ s
 ·have hix : ixZ 32 s = (s.idxOf 32 : Int) := if_pos hm
  obtain ⟨e1, e2, e3⟩ := a5A hm
  rw [b8U hm] at he
  rw [hix]
  refine zR ?_
  refine b0P (l := s) (s.take (s.idxOf 32)) rfl rfl rfl zo zo (by rw [Int.toNat_natCast]) (zR ?_)
  refine E6 a27 [s8 (s.take (s.idxOf 32))] (by rw [Array.toList_map]; rfl) (by simp [Value.cells, s8]) rfl zd zd ?_
  have cb := Cl.alloc w1 (.cells (([s8 (s.take (s.idxOf 32))] : List Value).flatMap fun v => v.cells.toList).toArray 9)
  have hbx : Row 9 1 a4E w1.heap.size (w1.alloc (.cells (([s8 (s.take (s.idxOf 32))] : List Value).flatMap fun v => v.cells.toList).toArray 9)) (.slice (some ⟨w1.heap.size, 0, none⟩) 1 1) [s.take (s.idxOf 32)] := F4 B5 w1 [s.take (s.idxOf 32)] (Nat.le_of_ble_eq_true rfl) _ rfl
  generalize w1.alloc (.cells (([s8 (s.take (s.idxOf 32))] : List Value).flatMap fun v => v.cells.toList).toArray 9) = w2 at *
  refine zR ?_
  refine J2 a27 (l := l) (news := [s.take (s.idxOf 32)]) rfl (hr.step cb) rfl hbx B5 a8S (by simp only [List.length_cons, List.length_nil]; omega) zd (c1.trans cb).size fun v' w3 hr' hg => ?_
  have c3 : Cl w w3 := hg.toCl rfl (c1.trans cb)
  obtain ⟨a9, c9, rfl, _⟩ := hr'.form
  refine zR ?_
  rw [h1]
  have en : IntKind.i64.wrap ((s.idxOf 32 : Int) + ((1 : Nat) : Int)) = ((s.idxOf 32 + 1 : Nat) : Int) := by rw [g7 zo zo]; push_cast; rfl
  rw [en]
  refine a79 (l := s) (s.drop (s.idxOf 32 + 1)) rfl rfl rfl zo zo (by rw [Int.toNat_natCast]) (zR ?_)
  exact ⟨(l ++ [s.take (s.idxOf 32)], _, s.drop (s.idxOf 32 + 1)), ⟨rfl, rfl, trivial⟩, ⟨c3, hr', by simpa using he, by simp; omega⟩, by simp; omega⟩
 ·have hix : ixZ 32 s = -1 := if_neg hm
  rw [a35 hm, List.nil_append] at he
  rw [hix]
  refine zR ?_
  refine E6 a27 [s8 s] (by rw [Array.toList_map]; rfl) (by simp [Value.cells, s8]) rfl zd zd ?_
  have cb := Cl.alloc w1 (.cells (([s8 s] : List Value).flatMap fun v => v.cells.toList).toArray 9)
  have hbx : Row 9 1 a4E w1.heap.size (w1.alloc (.cells (([s8 s] : List Value).flatMap fun v => v.cells.toList).toArray 9)) (.slice (some ⟨w1.heap.size, 0, none⟩) 1 1) [s] := F4 B5 w1 [s] (Nat.le_of_ble_eq_true rfl) _ rfl
  generalize w1.alloc (.cells (([s8 s] : List Value).flatMap fun v => v.cells.toList).toArray 9) = w2 at *
  refine zR ?_
  refine J2 a27 (l := l) (news := [s]) rfl (hr.step cb) rfl hbx B5 a8S (by simp only [List.length_cons, List.length_nil]; omega) zd (c1.trans cb).size fun v' w3 hr' hg => ?_
  have c3 : Cl w w3 := hg.toCl rfl (c1.trans cb)
  obtain ⟨a9, c9, rfl, _⟩ := hr'.form
  refine zR ?_
  exact ⟨_, rfl, by rw [← he]; exact hr', c3⟩
theorem a5a {p : k8} (hh : p.half.toNat < 10000000) (hf : p.full.toNat < 10000000) : (fenT p).length ≤ 1000 := by
 have h1 := Y0 p 8
 have h2 := a3s p.turn
 have h3 := a0Y p.castle
 have h4 := a68 p.ep
 have h5 := a2t 7 p.half.toNat zd zo
 have h6 := a2t 7 p.full.toNat zd zo
 unfold fenT
 simp only [List.length_append, List.length_cons, List.length_nil]
 omega
set_option maxHeartbeats 1000000 in
theorem b1u {p : k8} (hI : B7 p) (hh : p.half < 10000000) (hf : p.full < 10000000) (w : World) (hT : C1 w) (hS : Spc w) :
  Calls G.P 134 #[s8 (fenT p)] w (fun r w' => Cl w w' ∧ ∃ P b, r = .returned (.tuple #[.pointer (some ⟨P, 0, none⟩), .nilIface]) ∧ w.heap.size ≤ P ∧ w.heap.size ≤ b
   ∧ w'.heap[P]? = some (.cells (hdA b (A8 p false) (.slice none 0 0)) 173 (0, 0)) ∧ w'.heap[b]? = some (.cells (G1 (mbOf p)) 237 (0, 0))) := by
 have hh0 := hI.h0
 have hf1 := hI.f1
 have hlen := a5a (p := p) zo zo
 have hparts := b4P p
 have hep := c2p hI.pass
 have ht := hI.turn
 have hA1 := fun w => b7g p.half.toNat zo w
 have hA2 := fun w => b7g p.full.toNat zo w
 rw [Int.toNat_of_nonneg hh0] at hA1
 rw [Int.toNat_of_nonneg (by omega : 0 ≤ p.full)] at hA2
 have hTr := b4Z hI.pc zo w hS
 generalize fenT p = T at *
 refine zN Tryz.func134 ?_
 refine zR ?_
 refine m9 hTr fun w1 c1 => zR ?_
 refine o8 (b5d T hlen w1) ?_
 rintro e w2 ⟨v, rfl, hr, c2⟩
 refine ⟨_, rfl, ?_⟩
 rw [hparts] at hr
 obtain ⟨a, c, rfl, ha⟩ := hr.form
 obtain ⟨g, rfl⟩ := ha (by simp)
 have c02 := c1.trans c2
 have hld := fun (i : Nat) (hi : i < 6) (w' : World) (hc : Cl w2 w') {v : Value} (hv : (a4E ([boardT p 8, turnT p.turn, castT p.castle, epT p.ep, dec p.half.toNat, dec p.full.toNat][i]'(by simpa using hi)))[0]? = some v) => J8 (t := 9) (hr.step hc) B5 i 0 (by simpa using hi) zd hv (show i = i * 1 + 0 by omega) rfl
 have hl0 := fun w' hc => hld 0 zd w' hc (v := s8 (boardT p 8)) rfl
 have hl1 := fun w' hc => hld 1 zd w' hc (v := s8 (turnT p.turn)) rfl
 have hl2 := fun w' hc => hld 2 zd w' hc (v := s8 (castT p.castle)) rfl
 have hl3 := fun w' hc => hld 3 zd w' hc (v := s8 (epT p.ep)) rfl
 have hl4 := fun w' hc => hld 4 zd w' hc (v := s8 (dec p.half.toNat)) rfl
 have hl5 := fun w' hc => hld 5 zd w' hc (v := s8 (dec p.full.toNat)) rfl
 clear hld hr hparts ha
 refine zR ?_
 refine b5 _ (hl0 _ (Cl.refl _)) (zR ?_)
 refine o8 (b2I hI w2 (hT.cl c02)) ?_
 rintro e w3 ⟨c3, b, rfl, sb, hB⟩
 refine ⟨_, rfl, ?_⟩
 refine zR ?_
 refine I1 true (F8 rfl) (zR ?_)
 refine b5 _ (hl1 _ c3) (zR ?_)
 refine d9 (b4Q p.turn ht _) (zR ?_)
 refine E.o7 zo (zR ?_)
 refine b5 _ (hl2 _ c3) (zR ?_)
 refine m9 (a9O p.castle hI.c0 hI.c1 w3) fun w4 c4 => ?_
 have c24 := c3.trans c4
 refine zR ?_
 refine I1 true (F8 rfl) (zR ?_)
 refine b5 _ (hl3 _ c24) (zR ?_)
 refine m9 (b7e p.ep (by rcases hep with h | h; exact .inl h; exact .inr ⟨h.1, h.2.1, zo⟩) _) fun w4 c4' => ?_
 have c24 := c24.trans c4'
 have c4 := c4.trans c4'
 refine zR ?_
 refine I1 true (F8 rfl) (zR ?_)
 refine b5 _ (hl4 _ c24) (zR ?_)
 refine m9 (hA1 w4) fun w5 c5 => ?_
 have c25 := c24.trans c5
 refine zR ?_
 refine I1 true (F8 rfl) (zR ?_)
 refine E.o7 zo (zR ?_)
 repeat (refine E.o7 (show ¬ p.half < 0 by omega) ?_; refine zR ?_)
 refine b5 _ (hl5 _ c25) (zR ?_)
 refine m9 (hA2 w5) fun w6 c6 => ?_
 have c26 := c25.trans c6
 refine zR ?_
 refine I1 true (F8 rfl) (zR ?_)
 refine E.o7 zo (zR ?_)
 repeat (refine E.o7 (show ¬ p.full < 1 by omega) ?_; refine zR ?_)
 refine s9 (hdA b (A8 p false) (.slice none 0 0)) zk (zR ?_)
 have cF := Cl.alloc w6 (.cells (hdA b (A8 p false) (.slice none 0 0)) 173)
 have s06 := (c02.trans c26).size
 exact ⟨(c02.trans c26).trans cF, _, b, rfl, s06, by have := c02.size; omega, d8 _ _, cF.blk (c6.blk (c5.blk (c4.blk hB)))⟩
end
section
open Go Go.RowKit
open E
theorem a9P {p : k8} (hI : Ch.B7 p) (hN : a1z p) : Fen p := ⟨hI.pc, hI.c0, hI.c1, hI.h0, by have := hN.1; omega, by have := hI.f1; omega, by have := hN.2; omega⟩
theorem b9d {p : k8} (hI : Ch.B7 p) {m : Mv} (hm : m ∈ Ch.y8 p) : (Ch.made p m).ep ≤ 63 := by
 have hmo := a0x hI hm
 obtain ⟨⟨a0, a1⟩, ⟨b0, b1⟩, d0, d1⟩ := hmo
 show (if Ch.E3 p m then (m.fr + m.to) / 2 else -1) ≤ 63
 split <;> omega
theorem b7m (p : k8) (hI : Ch.B7 p) (hN : Nm p) (m : Mv) (hm : m ∈ Ch.y8 p) (me : Int) (ou : Tx) (w : World) : Calls G.P 40 #[C4 p, G5 m, .int .i64 me, s8 ou] w (K4 (stV (Ch.stepOf p m (me, ou))) w) := by
 have hmo := a0x hI hm
 have hI2 := Ch.B7.made hI hm
 have hN2 := hN.made hI m
 have hep := b9d hI hm
 have hbt := b3B ⟨m, Ch.told p m, Ch.sanT p m, Ch.lanT p m, Ch.uciT m, Ch.fenT (Ch.made p m), Ch.xfenT (Ch.made p m), Ch.made p m, ou, me, Ch.statusOf (Ch.made p m)⟩
 have hun : Ch.stepOf p m (me, ou) = ⟨m, Ch.told p m, Ch.sanT p m, Ch.lanT p m, Ch.uciT m, Ch.fenT (Ch.made p m), Ch.xfenT (Ch.made p m), Ch.made p m, ou, me, Ch.statusOf (Ch.made p m)⟩ := by unfold Ch.stepOf; rfl
 have hst : stV (Ch.stepOf p m (me, ou)) = .agg (stL ⟨m, Ch.told p m, Ch.sanT p m, Ch.lanT p m, Ch.uciT m, Ch.fenT (Ch.made p m), Ch.xfenT (Ch.made p m), Ch.made p m, ou, me, Ch.statusOf (Ch.made p m)⟩).toArray := by rw [hun]; rfl
 have hone := a4g (Ch.stepOf p m (me, ou))
 have hlen := U8 (Ch.stepOf p m (me, ou))
 refine zN Tryz.func40 ?_
 refine zG ?_
 generalize hW : (w.alloc (.cells (o9 p) 24)).alloc (.cells (K2 m) 36) = W0
 have hP : ∀ w', Cl W0 w' → w'.heap[w.heap.size]? = some (.cells (o9 p) 24 (0, 0)) := fun w' h => hP2 (hW ▸ h)
 have hM : ∀ w', Cl W0 w' → w'.heap[(w.alloc (.cells (o9 p) 24)).heap.size]? = some (.cells (K2 m) 36 (0, 0)) := fun w' h => hM2 (hW ▸ h)
 have hE : ∀ w', Cl W0 w' → Cl w w' := fun w' h => hE2 (hW ▸ h)
 have z := Cl.refl W0
 obtain ⟨zs, hzs, hz81⟩ := zSt
 obtain ⟨zp, hzp, hz69⟩ := b1P
 refine t7 zs hzs ?_
 have hB : ∀ w', Cl (W0.alloc (.cells zs.cells 39)) w' → w'.heap[W0.heap.size]? = some (.cells zs.cells 39 (0, 0)) := fun w' h => h.blk (d8 _ _)
 have c1 : Cl W0 (W0.alloc (.cells zs.cells 39)) := Cl.alloc _ _
 generalize W0.alloc (.cells zs.cells 39) = w1 at *
 refine zR ?_
 refine b5 _ (y7 (hP _ c1)) (zR ?_)
 refine b5 _ (P9 (hM _ c1)) (zR ?_)
 refine m9 (a5l p m hI.pc hmo hI.turn hI.c0 hI.c1 hI.h0 hN.nums.1 (by have := hI.f1; omega) hN.nums.2 _) fun w2 c2 => zR ?_
 refine t7 zp hzp (zR ?_)
 refine J6 (d8 _ _) (X0 (Ch.made p m)) rfl a13 (B6 _) (one_pos _) (by rw [hz69]; omega) (fun w3 u3 => ?_)
 have hQ : w3.heap[w2.heap.size]? = some (.cells (o9 (Ch.made p m)) 24 (0, 0)) := by
  rw [u3.at_, C5 _ _ (by rw [B6, hz69])]; rfl
 have c13 : Cl w1 w3 := u3.cl (c2.trans (Cl.alloc _ _)) c2.size
 have c3 : Cl W0 w3 := c1.trans c13
 clear u3
 have hB3 := hB _ c13
 have q1 := fun w => c0r p hI hN m hm w
 have q2 := fun w => a88 p hI hN m hm w
 have q3 := fun w => b45 p hI hN m hm w
 have q4 := fun w => b40 m hmo w
 have q5 := fun w => a0Z _ (a9P hI2 hN2) w
 have q6 := fun w => b2n _ (a9P hI2 hN2) hI2.turn hep w
 have q7 := fun w => b2d _ hI2 hN2 w
 have hbig : W0.heap.size < w2.heap.size := by
  have := (Array.getElem?_eq_some_iff.1 (hB _ c2)).1
  exact this
 rw [hun] at hone hlen
 simp only at hbt
 clear hun
 generalize stL ⟨m, Ch.told p m, Ch.sanT p m, Ch.lanT p m, Ch.uciT m, Ch.fenT (Ch.made p m), Ch.xfenT (Ch.made p m), Ch.made p m, ou, me, Ch.statusOf (Ch.made p m)⟩ = S at *
 generalize Ch.made p m = q at *
 generalize Ch.told p m = Q1 at *
 generalize Ch.sanT p m = Q2 at *
 generalize Ch.lanT p m = Q3 at *
 generalize Ch.uciT m = Q4 at *
 generalize Ch.fenT q = Q5 at *
 generalize Ch.xfenT q = Q6 at *
 generalize Ch.statusOf q = Q7 at *
 refine zR ?_
 refine zK 22 ?_
 refine zR ?_
 refine g9 _ (fun w hw => P9 (hM _ (c3.trans hw))) (zR ?_)
 refine g9 _ (fun w hw => y7 (hP _ (c3.trans hw))) (zR ?_)
 refine g9 _ (fun w hw => P9 (hM _ (c3.trans hw))) (zR ?_)
 refine C7 (.int .i64 Q1) (fun _ _ h => h.trans) (fun w _ => q1 w) (zR ?_)
 refine g9 _ (fun w hw => y7 (hP _ (c3.trans hw))) (zR ?_)
 refine g9 _ (fun w hw => P9 (hM _ (c3.trans hw))) (zR ?_)
 refine C7 (s8 Q2) (fun _ _ h => h.trans) (fun w _ => q2 w) (zR ?_)
 refine g9 _ (fun w hw => y7 (hP _ (c3.trans hw))) (zR ?_)
 refine g9 _ (fun w hw => P9 (hM _ (c3.trans hw))) (zR ?_)
 refine C7 (s8 Q3) (fun _ _ h => h.trans) (fun w _ => q3 w) (zR ?_)
 refine g9 _ (fun w hw => P9 (hM _ (c3.trans hw))) (zR ?_)
 refine C7 (s8 Q4) (fun _ _ h => h.trans) (fun w _ => q4 w) (zR ?_)
 refine g9 _ (fun w hw => y7 (hw.blk hQ)) (zR ?_)
 refine C7 (s8 Q5) (fun _ _ h => h.trans) (fun w _ => q5 w) (zR ?_)
 refine g9 _ (fun w hw => y7 (hw.blk hQ)) (zR ?_)
 refine C7 (s8 Q6) (fun _ _ h => h.trans) (fun w _ => q6 w) (zR ?_)
 refine g9 _ (fun w hw => y7 (hw.blk hQ)) (zR ?_)
 refine g9 _ (fun w hw => y7 (hw.blk hQ)) (zR ?_)
 refine C7 (.int .i64 Q7) (fun _ _ h => h.trans) (fun w _ => q7 w) (zR ?_)
 refine b1Q S.toArray hbt (zR ?_)
 intro w4 c4
 refine zR ?_
 refine J6 (c4.blk hB3) S rfl c1T hlen hone (by rw [hz81]; omega) (fun w5 u5 => ?_)
 have hR : w5.heap[W0.heap.size]? = some (.cells S.toArray 39 (0, 0)) := by
  rw [u5.at_, C5 _ _ (by rw [hlen, hz81])]
 have c5 : Cl w w5 := u5.cl (hE _ (c3.trans c4)) (hE _ z).size
 refine zR ?_
 refine b5 (.agg S.toArray) ?_ ?_
 ·have := ldA (t := 39) (o := 0) (z := 81) hR rfl (by simp [hlen])
  rw [show S.toArray.extract 0 (0 + 81) = S.toArray by
   have : S.toArray.size = 81 := by simp [hlen]
   rw [← this]; simp] at this
  exact this
 refine zR ?_
 exact ⟨by rw [hst], c5⟩
def a6j (u v : Value) : Prop := ∀ g, u.ownBlock = some g → v.ownBlock ≠ some g
theorem b5e (v : Value) : a6j (.slice none 0 0) v := fun g h => by cases h
theorem a6j.symm {u v : Value} (h : a6j u v) : a6j v u := fun g h1 h2 => h g h2 h1
theorem Row.keepG {α : Type} {e z b0 b1 : Nat} {enc : α → List Value} {w w' : World} {u v v' : Value} {l : List α} (h : Row e z enc b1 w u l) (hg : a8b b0 w v w' v') (hne : a6j u v) : Row e z enc b1 w' u l ∧ a6j u v' := by
 rcases h.2 with ⟨e1, e2⟩ | ⟨g, cap, cur, e1, e2, e3, e4⟩
 ·subst e1
  exact ⟨⟨h.1, .inl ⟨rfl, e2⟩⟩, fun g hg => by cases hg⟩
 ·subst e1
  have hn := hne g rfl
  refine ⟨⟨h.1, .inr ⟨g, cap, cur, rfl, e2, hg.keep _ _ e3 hn, e4⟩⟩, fun g' hg' => ?_⟩
  injection hg' with hg'; subst hg'
  exact hg.ne (Array.getElem?_eq_some_iff.1 e3).1 hn
theorem a6G {p : k8} (hI : Ch.B7 p) (hN : a1z p) : a4b p := by
 have he := Ch.I4 hI.pass
 have ht := hI.turn; have := hI.c0; have := hI.c1; have := hI.h0; have := hI.f1; have := hN.1; have := hN.2
 refine ⟨fun x hx => ?_, ⟨zo, zo⟩, ⟨zo, zo⟩, ⟨zo, zo⟩, ⟨zo, zo⟩, ⟨zo, zo⟩⟩
 obtain ⟨i, hi, rfl⟩ := List.mem_iff_getElem.1 hx
 have : Ch.sq p (i : Int) = p.board[i] := by
  unfold Ch.sq
  rw [Int.toNat_natCast, List.getD_eq_getElem?_getD, List.getElem?_eq_getElem hi]; rfl
 have h2 := hI.pc (i : Int)
 rw [this] at h2
 exact ⟨zo, zo⟩
theorem a2z (l : List k8) (p : k8) (mo : Int × Tx) (m : Mv) (r : List Mv) : Ch.story l p mo (m :: r) = if Ch.G6 p m then
   Ch.stepOf p m (Ch.ending (l ++ [Ch.made p m]) (Ch.made p m) mo) :: Ch.story (l ++ [Ch.made p m]) (Ch.made p m) (Ch.ending (l ++ [Ch.made p m]) (Ch.made p m) mo) r else [] := rfl
theorem b3V (p : k8) (hI : Ch.B7 p) (hN : Ng p 0) (looked : Bool) (ms : List Mv) (hms : ∀ m ∈ ms, MvR m) (hn : ms.length ≤ 90000) {v : Value} (w : World) (hrow : a2a w v ms) :
  Calls G.P 13 #[C4 p, .bool looked, v] w (fun r w' => ∃ v, r = .returned v ∧ Row 39 81 stL w.heap.size w' v (Ch.storyOf p looked ms) ∧ Cl w w') := by
 obtain ⟨al, cl, rfl, hal⟩ := hrow.form
 obtain ⟨zp, hzp, hz69⟩ := b1P
 refine zN Tryz.func13 ?_
 refine zG ?_
 generalize hW : w.alloc (.cells (o9 p) 24) = W0
 have hP0 : W0.heap[w.heap.size]? = some (.cells (o9 p) 24 (0, 0)) := by rw [← hW]; exact d8 _ _
 have hE : Cl w W0 := by rw [← hW]; exact Cl.alloc _ _
 clear hW
 refine zR ?_
 refine b5 _ (y7 hP0) (zR ?_)
 refine E6 b0x [C4 p] (by rw [Array.toList_map]; rfl) (by simp [C4, Value.cells, r7]) rfl zd zd ?_
 have hr := (F4 T6 W0 [p] (by simp) [C4 p] (by simp [C4, Value.cells, o9]) (e := 24) (z := 69)).mono hE.size
 have c1 := hE.trans (Cl.alloc W0 (.cells (([C4 p] : List Value).flatMap fun v => v.cells.toList).toArray 24))
 generalize W0.alloc (.cells (([C4 p] : List Value).flatMap fun v => v.cells.toList).toArray 24) = w1 at *
 generalize W0.heap.size = B1 at *
 have hmo0 : Ch.storyOf p looked ms = Ch.story [p] p (if looked then Ch.ending [p] p (0, Ch.star) else (0, Ch.star)) ms := rfl
 have hnm0 := (hN.nm zo).nums
 refine zG ?_
 refine Nx.mk (zG ?_)
 refine A4 (σ := Unit) [9, 10, 15, 16, 17, 18, 19, 20, 21, 22] 23 (fun _ => [(9, .int .i64 (if looked then Ch.ending [p] p (0, Ch.star) else (0, Ch.star)).1), (10, s8 (if looked then Ch.ending [p] p (0, Ch.star) else (0, Ch.star)).2)]) (fun _ w' => Cl w1 w') zk ?_ (fun _ j w2 c2 => ?_)
 ·cases looked
  ·refine zR ?_
   exact ⟨(), ⟨rfl, rfl, trivial⟩, Cl.refl _⟩
  ·have hEnd := b0D [p] p (fun x hx => by rw [List.mem_singleton.1 hx]; exact a6G hI hnm0) rfl (by simp) hI hnm0 0 Ch.star w1 hr
   generalize Ch.ending [p] p (0, Ch.star) = R at *
   refine zR ?_
   refine m9 hEnd fun w2 c2 => zR ?_
   exact ⟨(), ⟨rfl, rfl, trivial⟩, c2⟩
 generalize (if looked then Ch.ending [p] p (0, Ch.star) else (0, Ch.star)) = mo0 at *
 have hr2 := hr.step c2
 refine zR ?_
 refine A9 (σ := Nat × List Ch.a0A × List k8 × k8 × (Int × Tx) × Value × Value) [6, 7, 8, 9, 10, 11, 12] 13 (fun a => [(7, a.2.2.2.2.2.1), (8, a.2.2.2.2.2.2), (9, .int .i64 a.2.2.2.2.1.1), (10, s8 a.2.2.2.2.1.2), (11, .int .i64 a.1)])
  (fun a w' => a.1 ≤ ms.length ∧ Ch.storyOf p looked ms = a.2.1 ++ Ch.story a.2.2.1 a.2.2.2.1 a.2.2.2.2.1 (ms.drop a.1) ∧ a.2.1.length = a.1 ∧ a.2.2.1.length = a.1 + 1 ∧ a.2.2.1.getLast? = some a.2.2.2.1 ∧ (∀ q ∈ a.2.2.1, a4b q) ∧ Ch.B7 a.2.2.2.1 ∧ Ng a.2.2.2.1 a.1 ∧
   Row 39 81 stL w.heap.size w' a.2.2.2.2.2.1 a.2.1 ∧ Row 24 69 X0 w.heap.size w' a.2.2.2.2.2.2 a.2.2.1 ∧ a6j a.2.2.2.2.2.1 a.2.2.2.2.2.2 ∧ Cl w w') (fun a => ms.length - a.1) zk (0, [], [p], p, mo0, .slice none 0 0, .slice (some ⟨B1, 0, none⟩) 1 1)
  ⟨by simp, by rw [hmo0]; rfl, rfl, rfl, rfl, fun x hx => by rw [List.mem_singleton.1 hx]; exact a6G hI hnm0, hI, hN, Row.nil _ _, hr2, b5e _, c1.trans c2⟩ ⟨rfl, rfl, rfl, rfl, rfl, trivial⟩ ?_
 rintro ⟨i, O, L, q, ⟨me, ou⟩, vo, vl⟩ j3 w3 ⟨hi, hst, hOl, hLl, hLq, hLr, hIq, hNq, hro, hrl, hap, hcl⟩
 simp only at hi hst hOl hLl hLq hLr hIq hNq hro hrl hap ⊢
 clear hr2 hr hP0 c1 c2 hmo0 hE
 have hnm := hNq.nm zo
 obtain ⟨ao, co, rfl, hao⟩ := hro.form
 obtain ⟨al2, cl2, rfl, hal2⟩ := hrl.form
 obtain ⟨gl, rfl⟩ := hal2 zo
 refine zR ?_
 apply E.b7<;>intro h
 ·have hil : i < ms.length := by omega
  clear h
  obtain ⟨g, o, rfl⟩ := hal zo
  have ni : IntKind.i64.wrap ((i : Int) + 1) = ((i + 1 : Nat) : Int) := by rw [g7 zo zo]; push_cast; omega
  rw [List.drop_eq_getElem_cons hil] at hst
  rw [a2z] at hst
  have hmr := hms _ (List.getElem_mem hil)
  have hld : ∀ w', Cl w w' → l8 G.P w' 36 ⟨g, E.W6 o ((i : Int)).toNat 3, none⟩ (G5 ms[i]) := fun w' h' => (hrow.step h').ld i hil
  generalize ms[i] = m at *
  have hlast : L[L.length - 1]'zo = q := by
   rw [List.getLast?_eq_getElem?, List.getElem?_eq_getElem zo] at hLq
   exact Option.some.inj hLq
  have hlm : IntKind.i64.wrap ((L.length : Int) - 1) = ((L.length - 1 : Nat) : Int) := by rw [g7 zo zo]; omega
  refine zR ?_
  refine zC ?_
  refine zR ?_
  refine b5 (C4 q) (a2n hrl T6 (L.length - 1) zo rfl ?_ (by rw [hlast]; rfl)) ?_
  ·simp [E.z6, hlm]
  refine zR ?_
  refine t7 zp hzp (zR ?_)
  refine J6 (d8 _ _) (X0 q) rfl a13 (B6 _) (one_pos _) (by rw [hz69]; omega) (fun w4 u4 => ?_)
  have hQ : w4.heap[w3.heap.size]? = some (.cells (o9 q) 24 (0, 0)) := by
   rw [u4.at_, C5 _ _ (by rw [B6, hz69])]; rfl
  have c34 : Cl w3 w4 := u4.cl (Cl.alloc _ _) (Nat.le_refl _)
  clear u4
  have hLegal : ∀ w, Calls G.P 26 #[C4 q, G5 m] w (K4 (.bool (Ch.G6 q m)) w) := fun w => c1y q hIq hnm.nums m hmr w
  refine zR ?_
  refine zK 7 ?_
  refine zR ?_
  refine g9 _ (fun w hw => y7 (hw.blk hQ)) (zR ?_)
  refine zC ?_
  refine zR ?_
  refine g9 (G5 m) (fun w hw => hld w (hcl.trans (c34.trans hw))) (zR ?_)
  refine C7 (.bool (Ch.G6 q m)) (fun _ _ h => h.trans) (fun w _ => hLegal w) (zR ?_)
  intro w5 c5
  have c35 := c34.trans c5
  have hQ5 := c5.blk hQ
  have hro5 := hro.step c35
  have hrl5 := hrl.step c35
  have hcl5 := hcl.trans c35
  generalize hlb : Ch.G6 q m = lb at *
  refine zR ?_
  cases lb
  ·refine zR ?_
   refine ⟨_, rfl, ?_, hcl5⟩
   rw [hst]
   simp only [Bool.false_eq_true, if_false, List.append_nil]
   exact hro5
  ·have hmem : m ∈ Ch.y8 q := of_decide_eq_true hlb
   have hmo := a0x hIq hmem
   have hI2 := Ch.B7.made hIq hmem
   have hN2 := hNq.made hIq m
   have hMade : ∀ w, Calls G.P 39 #[C4 q, G5 m] w (K4 (C4 (Ch.made q m)) w) := fun w => a5l q m hIq.pc hmo hIq.turn hIq.c0 hIq.c1 hIq.h0 hnm.nums.1 (by have := hIq.f1; omega) hnm.nums.2 w
   have hStep := fun me ou w => b7m q hIq hnm m hmem me ou w
   have hrR : a4b (Ch.made q m) := a6G hI2 (hN2.nm zo).nums
   simp only [if_true] at hst
   have hL2 : ∀ x ∈ L ++ [Ch.made q m], a4b x := fun x hx => by
    rcases List.mem_append.1 hx with hx | hx
    ·exact hLr x hx
    ·rw [List.mem_singleton.1 hx]; exact hrR
   have hL2n : (L ++ [Ch.made q m]).length = i + 2 := by rw [List.length_append, hLl]; rfl
   have hL2q : (L ++ [Ch.made q m]).getLast? = some (Ch.made q m) := by simp
   generalize Ch.made q m = q2 at *
   refine zG ?_
   refine A4 (σ := Value) [8, 43, 44, 45, 46, 47, 48, 49, 50, 51] 52 (fun v => [(8, v)]) (fun v w' => Row 24 69 X0 w.heap.size w' v (L ++ [q2]) ∧ Row 39 81 stL w.heap.size w' (.slice ao O.length co) O ∧ a6j (.slice ao O.length co) v ∧ w'.heap[w3.heap.size]? = some (.cells (o9 q) 24 (0, 0)) ∧ Cl w w') zk ?_ (fun v7 j7 w7 hh7 => ?_)
   ·refine zR ?_
    refine I8.mk2 [0, 2, 3, 4] (.cons 1 (.cons 5 (.cons 6 (.cons 7 (.cons 8 (.cons 9 .done .nil) .nil) .nil) .nil) .nil) (.cons 5 (.cons 1 (.cons 6 (.cons 7 (.cons 8 (.cons 9 .done .nil) .nil) .nil) .nil) .nil) .nil)) zk (zR ?_)
    refine zC ?_
    refine zR ?_
    have cd : Cl w5 w5.drew := Cl.drew (Cl.refl _)
    refine And.intro ?_ (And.intro ?_ trivial)
    ·refine zR ?_
     refine b5 _ (y7 (cd.blk hQ5)) (zE ?_)
     refine b5 (G5 m) (hld _ (hcl5.trans cd)) (zE ?_)
     refine m9 (hMade _) fun w6 c6 => ?_
     have hro6 := hro5.step (cd.trans c6)
     have hrl6 := hrl5.step (cd.trans c6)
     have hcl6 := hcl5.trans (cd.trans c6)
     have hQ6 := (cd.trans c6).blk hQ5
     refine zE ?_
     refine E6 b0x [C4 q2] (by rw [Array.toList_map]; rfl) (by simp [C4, Value.cells, r7]) rfl zd zd (zE ?_)
     refine P3 b0x q2 rfl hrl6 rfl rfl (by simp [C4, Value.cells, o9]) T6 one_pos zo zd hcl6.size ?_
     intro v7 w7 hrl7 hg7
     have hcl7 := hg7.cl w rfl hcl6
     obtain ⟨hro7, hap7⟩ := hro6.keepG hg7 hap
     have hQ7 : w7.heap[w3.heap.size]? = some (.cells (o9 q) 24 (0, 0)) := hg7.keep _ _ hQ6 (by
      intro e; injection e with e
      have h1 := (hrl.lt).2
      have : gl = w3.heap.size := e
      omega)
     obtain ⟨al7, cl7, rfl, hal7⟩ := hrl7.form
     refine zE ?_
     exact ⟨_, ⟨rfl, trivial⟩, hrl7, hro7, hap7, hQ7, hcl7⟩
    ·refine zR ?_
     refine b5 (G5 m) (hld _ (hcl5.trans cd)) (zE ?_)
     refine b5 _ (y7 (cd.blk hQ5)) (zE ?_)
     refine m9 (hMade _) fun w6 c6 => ?_
     have hro6 := hro5.step (cd.trans c6)
     have hrl6 := hrl5.step (cd.trans c6)
     have hcl6 := hcl5.trans (cd.trans c6)
     have hQ6 := (cd.trans c6).blk hQ5
     refine zE ?_
     refine E6 b0x [C4 q2] (by rw [Array.toList_map]; rfl) (by simp [C4, Value.cells, r7]) rfl zd zd (zE ?_)
     refine P3 b0x q2 rfl hrl6 rfl rfl (by simp [C4, Value.cells, o9]) T6 one_pos zo zd hcl6.size ?_
     intro v7 w7 hrl7 hg7
     have hcl7 := hg7.cl w rfl hcl6
     obtain ⟨hro7, hap7⟩ := hro6.keepG hg7 hap
     have hQ7 : w7.heap[w3.heap.size]? = some (.cells (o9 q) 24 (0, 0)) := hg7.keep _ _ hQ6 (by
      intro e; injection e with e
      have h1 := (hrl.lt).2
      have : gl = w3.heap.size := e
      omega)
     obtain ⟨al7, cl7, rfl, hal7⟩ := hrl7.form
     refine zE ?_
     exact ⟨_, ⟨rfl, trivial⟩, hrl7, hro7, hap7, hQ7, hcl7⟩
   obtain ⟨hrl7, hro7, hap7, hQ7, hcl7⟩ := hh7
   obtain ⟨al7, cl7, rfl, hal7⟩ := hrl7.form
   obtain ⟨gl7, rfl⟩ := hal7 zo
   have hEnd := b0D (L ++ [q2]) q2 hL2 hL2q zo hI2 (hN2.nm zo).nums me ou w7 hrl7
   generalize Ch.ending (L ++ [q2]) q2 (me, ou) = R at *
   obtain ⟨me2, ou2⟩ := R
   refine zR ?_
   refine m9 hEnd fun w8 c8 => ?_
   have hro8 := hro7.step c8
   have hrl8 := hrl7.step c8
   have hcl8 := hcl7.trans c8
   have hQ8 := c8.blk hQ7
   have hStep := fun w => hStep me2 ou2 w
   generalize hSS : Ch.stepOf q m (me2, ou2) = S at *
   refine zR ?_
   refine I8.mk2 [0, 2, 3, 4, 6, 7] (.cons 1 (.cons 5 (.cons 8 (.cons 9 (.cons 10 (.cons 11 .done .nil) .nil) .nil) .nil) .nil) (.cons 5 (.cons 1 (.cons 8 (.cons 9 (.cons 10 (.cons 11 .done .nil) .nil) .nil) .nil) .nil) .nil)) zk (zR ?_)
   refine zC ?_
   refine zR ?_
   have cd : Cl w8 w8.drew := Cl.drew (Cl.refl _)
   refine And.intro ?_ (And.intro ?_ trivial)
   ·refine zR ?_
    refine b5 _ (y7 (cd.blk hQ8)) (zE ?_)
    refine b5 (G5 m) (hld _ (hcl8.trans cd)) (zE ?_)
    refine m9 (hStep _) fun w9 c9 => ?_
    have hro9 := hro8.step (cd.trans c9)
    have hrl9 := hrl8.step (cd.trans c9)
    have hcl9 := hcl8.trans (cd.trans c9)
    refine zE ?_
    refine E6 a8d [stV S] (by rw [Array.toList_map]; rfl) (by simp [stV, Value.cells, U8]) rfl zd zd (zE ?_)
    refine P3 a8d S rfl hro9 rfl rfl (by simp [stV, Value.cells]) U8 a4g zo zd hcl9.size ?_
    intro v10 w10 hro10 hg10
    have hcl10 := hg10.cl w rfl hcl9
    obtain ⟨hrl10, hap10⟩ := hrl9.keepG hg10 hap7.symm
    obtain ⟨ao10, co10, rfl, hao10⟩ := hro10.form
    refine zE ?_
    exact ⟨(i + 1, O ++ [S], L ++ [q2], q2, (me2, ou2), _, _), ⟨rfl, rfl, rfl, rfl, d6 ni, trivial⟩,
     ⟨by simp; omega, by rw [hst]; simp, by simp [hOl], by simp [hLl], hL2q, hL2, hI2, hN2, hro10, hrl10, hap10.symm, hcl10⟩, by simp; omega⟩
   ·refine zR ?_
    refine b5 (G5 m) (hld _ (hcl8.trans cd)) (zE ?_)
    refine b5 _ (y7 (cd.blk hQ8)) (zE ?_)
    refine m9 (hStep _) fun w9 c9 => ?_
    have hro9 := hro8.step (cd.trans c9)
    have hrl9 := hrl8.step (cd.trans c9)
    have hcl9 := hcl8.trans (cd.trans c9)
    refine zE ?_
    refine E6 a8d [stV S] (by rw [Array.toList_map]; rfl) (by simp [stV, Value.cells, U8]) rfl zd zd (zE ?_)
    refine P3 a8d S rfl hro9 rfl rfl (by simp [stV, Value.cells]) U8 a4g zo zd hcl9.size ?_
    intro v10 w10 hro10 hg10
    have hcl10 := hg10.cl w rfl hcl9
    obtain ⟨hrl10, hap10⟩ := hrl9.keepG hg10 hap7.symm
    obtain ⟨ao10, co10, rfl, hao10⟩ := hro10.form
    refine zE ?_
    exact ⟨(i + 1, O ++ [S], L ++ [q2], q2, (me2, ou2), _, _), ⟨rfl, rfl, rfl, rfl, d6 ni, trivial⟩,
     ⟨by simp; omega, by rw [hst]; simp, by simp [hOl], by simp [hLl], hL2q, hL2, hI2, hN2, hro10, hrl10, hap10.symm, hcl10⟩, by simp; omega⟩
 ·have hil : i = ms.length := by omega
  subst hil
  rw [List.drop_length] at hst
  refine zR ?_
  refine ⟨_, rfl, ?_, hcl⟩
  rw [hst]
  show Row _ _ _ _ _ _ (O ++ [])
  rw [List.append_nil]
  exact hro
def firstL : List Int := [3, 5, 4, 2, 1, 4, 5, 3]
def c2t (i : Nat) : Int := firstL.getD i 0
def sqS (f i : Nat) : Int := if i % 8 < f then (if i / 8 = 0 then c2t (i % 8) else if i / 8 = 1 then 6 else if i / 8 = 6 then 12 else if i / 8 = 7 then c2t (i % 8) + 6 else 0) else 0
def b9e (f : Nat) : k8 := ⟨(List.range 64).map (sqS f), by simp, 0, 15, -1, 0, 1⟩
def a22 : k8 := b9e 8
structure StR (s : Ch.a0A) : Prop where
 mv : MvR s.mv
 tags : I64 s.tags
 san : s.san.length ≤ 1000
 lan : s.lan.length ≤ 1000
 uci : s.uci.length ≤ 1000
 fen : s.fen.length ≤ 1000
 xfen : s.xfen.length ≤ 1000
 pos : a4b s.pos
 outcome : s.outcome.length ≤ 1000
 method : I64 s.method
 status : I64 s.status
theorem b2M : ∀ {a b : List (Option IntKind)} {x y : List Value}, okL a x = true → okL b y = true → okL (a ++ b) (x ++ y) = true := by
 intro a
 induction a with
 | nil => intro b x y h1 h2; cases x with
  | nil => simpa using h2
  | cons => simp [okL] at h1
 | cons k a ih => intro b x y h1 h2; cases x with
  | nil => simp [okL] at h1
  | cons c x =>
   simp only [okL, Bool.and_eq_true] at h1
   simp only [List.cons_append, okL, Bool.and_eq_true]
   exact ⟨h1.1, ih h1.2 h2⟩
theorem b1v {n : Int} (h : I64 n) : okV (some .i64) (.int .i64 n) = true := by simp [okV, b6f h]
theorem b9E {p : k8} (h : a4b p) : okL (List.replicate 69 (some .i64)) (X0 p) = true := by
 have h1 := c0d p.board h.sq
 rw [p.len] at h1
 have h2 : okL (List.replicate 5 (some .i64)) [.int .i64 p.turn, .int .i64 p.castle, .int .i64 p.ep, .int .i64 p.half, .int .i64 p.full] = true := by
  simp only [List.replicate, okL, b1v h.turn, b1v h.castle, b1v h.ep, b1v h.half, b1v h.full, Bool.and_self]
 exact b2M h1 h2
theorem b1w {C : World → Prop} {t : Nat} {xs ys : Array Value} {b : Bool} (hg : G.P.eqGuardType G.P.depth t = false) (hr : ∀ w, (Op.equalIn 10000 t (.agg xs) (.agg ys)).run G.P w = .ok b w) {x y : Operand} {dst : Option Nat} {yt ty : Nat} {pos : String} {af : Array Edge} {gd : Option (Nat × Bool)} {env : C0} {K : Value → Prop} (hx : ev env x = .agg xs) (hy : ev env y = .agg ys)
  (h : K (.bool (!b))) : b3X G.P C { dst, op := .binOp .neq t x y yt, type := ty, pos, after := af, guard := gd } env K := by
 refine ⟨_, fun w _ => ?_, h⟩
 show (do pure (Next.value (← (do eqGuard .neq _ x y (ev env x) (ev env y); binOp .neq _ (ev env x) (ev env y)))) : Sem Next).run G.P w = _
 have e1 : (eqGuard .neq t x y (.agg xs) (.agg ys)).run G.P w = .ok () w := by simp [eqGuard, hg]
 rw [hx, hy, Sem.run_bind, Sem.run_bind, e1, Result.andThen_ok, run_neq_struct, hr]; rfl
def a6k (p : k8) (ms : List Mv) : Bool := Ch.valid p && decide (p.half ≤ 1000000) && decide (p.full ≤ 1000000) && decide (ms.length ≤ 80) && Ch.quiet p ms
theorem a8V (p : k8) (ms : List Mv) (hms : ∀ m ∈ ms, MvR m) {v : Value} (w : World) (hrow : a2a w v ms) : Calls G.P 12 #[C4 p, v] w (K4 (.bool (a6k p ms)) w) := by
 obtain ⟨al, cl, rfl, hal⟩ := hrow.form
 refine zN Tryz.func12 ?_
 refine zG ?_
 generalize hW : w.alloc (.cells (o9 p) 24) = W0
 have hP0 : W0.heap[w.heap.size]? = some (.cells (o9 p) 24 (0, 0)) := by rw [← hW]; exact d8 _ _
 have hE : Cl w W0 := by rw [← hW]; exact Cl.alloc _ _
 clear hW
 have hA : a6k p ms = (Ch.valid p && decide (p.half ≤ 1000000) && decide (p.full ≤ 1000000) && decide (ms.length ≤ 80) && Ch.quiet p ms) := rfl
 have hiff := Ch.a5p p
 refine zR ?_
 refine b5 _ (y7 hP0) (zR ?_)
 refine m9 (b7M p _) fun w2 c2 => ?_
 have hP2 := c2.blk hP0
 generalize Ch.valid p = b at *
 cases b
 ·refine zR ?_
  exact ⟨m8 (by rw [hA]; rfl), hE.trans c2⟩
 have hI := hiff.1 rfl
 refine zR ?_
 refine b5 _ (a6U hP2) (zR ?_)
 apply E.b7<;>intro h
 ·have h1 := h; clear h
  refine zR ?_
  refine b5 _ (a9i hP2) (zR ?_)
  apply E.b7<;>intro h
  ·have h2 := h; clear h
   refine zR ?_
   apply E.b7<;>intro h
   ·have h3 : ms.length ≤ 80 := by omega
    clear h
    refine zR ?_
    refine b5 _ (y7 hP2) (zR ?_)
    refine m9 (b8p p hI ⟨zo, zo⟩ ms hms zo _ (hrow.step (hE.trans c2))) fun w3 c3 => ?_
    generalize Ch.quiet p ms = qb at *
    refine zR ?_
    exact ⟨m8 (by rw [hA, decide_eq_true h1, decide_eq_true h2, decide_eq_true h3]; simp), hE.trans (c2.trans c3)⟩
   ·refine zR ?_
    exact ⟨m8 (by rw [hA, decide_eq_false (show ¬ ms.length ≤ 80 by omega)]; simp), hE.trans c2⟩
  ·refine zR ?_
   exact ⟨m8 (by rw [hA, decide_eq_false h]; simp), hE.trans c2⟩
 ·refine zR ?_
  exact ⟨m8 (by rw [hA, decide_eq_false h]; simp), hE.trans c2⟩
end
end Go.Proofs.YtpclhlhcegcflaaGreatDoor
