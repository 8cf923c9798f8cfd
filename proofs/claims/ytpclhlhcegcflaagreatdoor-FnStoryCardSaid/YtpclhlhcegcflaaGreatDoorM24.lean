/- One part of the proof: Shl2 Pk44 Lid Arg Pk45 Sp28. -/
import Derived.Shelf.Strings.TrimSpace
import Derived.Shelf.Strconv.Atoi
import Derived.Lib.LaidU8
import Derived.LaidMore
import Derived.OpenShut
import Derived.Handed
import Derived.Deep.Slices
import Derived.ProofKit
import Derived.Test.YtpclhlhcegcflaaGreatDoorM1
import Derived.Test.YtpclhlhcegcflaaGreatDoorM3
import Derived.Test.YtpclhlhcegcflaaGreatDoorM9
import Derived.Test.YtpclhlhcegcflaaGreatDoorM13
import Derived.Test.YtpclhlhcegcflaaGreatDoorM14
import Derived.Test.YtpclhlhcegcflaaGreatDoorM23
namespace Go.Proofs.YtpclhlhcegcflaaGreatDoor
set_option maxRecDepth 100000
set_option linter.unusedSimpArgs false
set_option linter.unusedVariables false
section
open Go.Shelf
def Tryz.lays163_ren : Go.Shelf.Ren := ⟨fun | 163 => 189 | 237 => 231 | 199 => 232 | 238 => 233 | 272 => 272 | 261 => 273 | 273 => 274 | 197 => 275 | 315 => 297 | 311 => 298 | 312 => 299 | 271 => 300 | 260 => 301 | 120 => 311 | n => n, fun | 9 => 9 | 37 => 157 | 3 => 3 | 0 => 0 | 5 => 5 | 4 => 4 | 40 => 268 | 119 => 269 | 21 => 21 | 51 => 262 | 141 => 312 | 105 => 314 | 196 => 341 | 193 => 338 | 198 => 343 | 49 => 135 | 194 => 339 | 201 => 346 | 226 => 361 | 46 => 52 | 227 => 362 | 139 => 366 | 138 => 365 | n => n, fun | 0 => 1 | 6 => 7 | 3 => 18 | 4 => 19 | n => n⟩
theorem Tryz.lays163 : Go.Proofs.Lays.n163 Tryz.prog Tryz.lays163_ren := {
 mixed := by kernel_rfl
 f120 := Tryz.func311.trans (congrArg some zk)
 f163 := Tryz.func189.trans (congrArg some zk)
 f197 := Tryz.func275.trans (congrArg some zk)
 f199 := Tryz.func232.trans (congrArg some zk)
 f237 := Tryz.func231.trans (congrArg some zk)
 f238 := Tryz.func233.trans (congrArg some zk)
 f260 := Tryz.func301.trans (congrArg some zk)
 f261 := Tryz.func273.trans (congrArg some zk)
 f271 := Tryz.func300.trans (congrArg some zk)
 f272 := Tryz.func272.trans (congrArg some zk)
 f273 := Tryz.func274.trans (congrArg some zk)
 f311 := Tryz.func298.trans (congrArg some zk)
 f312 := Tryz.func299.trans (congrArg some zk)
 f315 := Tryz.func297.trans (congrArg some zk)
 t0 := Tryz.underlying0
 a0 := Tryz.isAgg0
 z0 := Tryz.sizeOf0
 v0 := Tryz.zeroValue0
 t3 := Tryz.underlying3
 a3 := Tryz.isAgg3
 z3 := Tryz.sizeOf3
 v3 := Tryz.zeroValue3
 t4 := Tryz.underlying4
 a4 := Tryz.isAgg4
 z4 := Tryz.sizeOf4
 v4 := Tryz.zeroValue4
 t5 := Tryz.underlying5
 a5 := Tryz.isAgg5
 z5 := Tryz.sizeOf5
 v5 := Tryz.zeroValue5
 t9 := Tryz.underlying9
 a9 := Tryz.isAgg9
 z9 := Tryz.sizeOf9
 v9 := Tryz.zeroValue9
 t21 := Tryz.underlying21
 a21 := Tryz.isAgg21
 z21 := Tryz.sizeOf21
 v21 := Tryz.zeroValue21
 t37 := Tryz.underlying157
 a37 := Tryz.isAgg157
 z37 := Tryz.sizeOf157
 v37 := Tryz.zeroValue157
 t40 := Tryz.underlying268
 a40 := Tryz.isAgg268
 z40 := Tryz.sizeOf268
 v40 := Tryz.zeroValue268
 t46 := Tryz.underlying52
 a46 := Tryz.isAgg52
 z46 := Tryz.sizeOf52
 v46 := Tryz.zeroValue52
 t49 := Tryz.underlying135
 a49 := Tryz.isAgg135
 z49 := Tryz.sizeOf135
 v49 := Tryz.zeroValue135
 t51 := Tryz.underlying262
 a51 := Tryz.isAgg262
 z51 := Tryz.sizeOf262
 v51 := Tryz.zeroValue262
 t105 := Tryz.underlying314
 a105 := Tryz.isAgg314
 z105 := Tryz.sizeOf314
 v105 := Tryz.zeroValue314
 t119 := Tryz.underlying269
 a119 := Tryz.isAgg269
 z119 := Tryz.sizeOf269
 t138 := Tryz.underlying365
 a138 := Tryz.isAgg365
 z138 := Tryz.sizeOf365
 v138 := Tryz.zeroValue365
 t139 := Tryz.underlying366
 a139 := Tryz.isAgg366
 z139 := Tryz.sizeOf366
 v139 := Tryz.zeroValue366
 t141 := Tryz.underlying312
 a141 := Tryz.isAgg312
 z141 := Tryz.sizeOf312
 v141 := Tryz.zeroValue312
 t193 := Tryz.underlying338
 a193 := Tryz.isAgg338
 z193 := Tryz.sizeOf338
 v193 := Tryz.zeroValue338
 t194 := Tryz.underlying339
 a194 := Tryz.isAgg339
 z194 := Tryz.sizeOf339
 v194 := Tryz.zeroValue339
 t196 := Tryz.underlying341
 a196 := Tryz.isAgg341
 z196 := Tryz.sizeOf341
 v196 := Tryz.zeroValue341
 t198 := Tryz.underlying343
 a198 := Tryz.isAgg343
 z198 := Tryz.sizeOf343
 v198 := Tryz.zeroValue343
 t201 := Tryz.underlying346
 a201 := Tryz.isAgg346
 z201 := Tryz.sizeOf346
 v201 := Tryz.zeroValue346
 t226 := Tryz.underlying361
 a226 := Tryz.isAgg361
 z226 := Tryz.sizeOf361
 v226 := Tryz.zeroValue361
 t227 := Tryz.underlying362
 a227 := Tryz.isAgg362
 z227 := Tryz.sizeOf362
 v227 := Tryz.zeroValue362
 g0 := by kernel_rfl
 g3 := by kernel_rfl
 g4 := by kernel_rfl
 g6 := by kernel_rfl }
theorem Tryz.Space_Extra_163 : Space.Extra Tryz.prog Tryz.lays163_ren := {
 gNamed := by kernel_rfl }
open Go.RowKit in
theorem Tryz.strings_TrimSpace (s : ByteArray) (w : World) (hs : s.size ≤ 9223372036854775807) (hascii : ∀ (j : Nat) b, s.data.toList[j]? = some b → b.toNat < 128) (htab : Lib.TabIs Tryz.prog w "strings.asciiSpace" .u8 Lib.asciiSpaceTab) :
  Calls Tryz.prog 189 #[.string s] w fun e w' => e = .returned (.string ⟨(Lib.trimSpace s.data.toList).toArray⟩) ∧ w' = Lib.bytesWorld w 5 s := Any.strings_TrimSpace Tryz.lays163 Tryz.Space_Extra_163 s w hs hascii htab
def Tryz.lays172_ren : Go.Shelf.Ren := ⟨fun | 172 => 195 | 244 => 241 | 245 => 242 | 247 => 278 | 279 => 279 | 280 => 280 | 281 => 281 | 282 => 282 | 287 => 302 | 316 => 303 | 171 => 169 | 205 => 135 | 321 => 312 | 322 => 313 | 243 => 213 | 246 => 261 | 283 => 288 | 284 => 289 | 285 => 290 | 286 => 291 | 129 => 228 | 317 => 305 | 318 => 306 | 319 => 307 | 320 => 308 | 337 => 315 | 338 => 316 | n => n, fun | 9 => 9 | 3 => 3 | 75 => 80 | 76 => 166 | 4 => 4 | 5 => 5 | 167 => 319 | 37 => 157 | 0 => 0 | 85 => 320 | 2 => 2 | 168 => 322 | 53 => 234 | 175 => 348 | 46 => 52 | 210 => 351 | 127 => 221 | 145 => 233 | 143 => 231 | 21 => 21 | 171 => 329 | 173 => 331 | 212 => 354 | 51 => 262 | 20 => 20 | 213 => 355 | 232 => 373 | 233 => 374 | 80 => 109 | n => n, fun | 15 => 14 | 16 => 15 | 17 => 16 | 18 => 20 | 19 => 21 | n => n⟩
theorem Tryz.lays172 : Go.Proofs.Lays.n172 Tryz.prog Tryz.lays172_ren := {
 mixed := by kernel_rfl
 f129 := Tryz.func228.trans (congrArg some zk)
 f171 := Tryz.func169.trans (congrArg some zk)
 f172 := Tryz.func195.trans (congrArg some zk)
 f205 := Tryz.func135.trans (congrArg some zk)
 f243 := Tryz.func213.trans (congrArg some zk)
 f244 := Tryz.func241.trans (congrArg some zk)
 f245 := Tryz.func242.trans (congrArg some zk)
 f246 := Tryz.func261.trans (congrArg some zk)
 f247 := Tryz.func278.trans (congrArg some zk)
 f279 := Tryz.func279.trans (congrArg some zk)
 f280 := Tryz.func280.trans (congrArg some zk)
 f281 := Tryz.func281.trans (congrArg some zk)
 f282 := Tryz.func282.trans (congrArg some zk)
 f283 := Tryz.func288.trans (congrArg some zk)
 f284 := Tryz.func289.trans (congrArg some zk)
 f285 := Tryz.func290.trans (congrArg some zk)
 f286 := Tryz.func291.trans (congrArg some zk)
 f287 := Tryz.func302.trans (congrArg some zk)
 f316 := Tryz.func303.trans (congrArg some zk)
 f317 := Tryz.func305.trans (congrArg some zk)
 f318 := Tryz.func306.trans (congrArg some zk)
 f319 := Tryz.func307.trans (congrArg some zk)
 f320 := Tryz.func308.trans (congrArg some zk)
 f321 := Tryz.func312.trans (congrArg some zk)
 f322 := Tryz.func313.trans (congrArg some zk)
 f337 := Tryz.func315.trans (congrArg some zk)
 f338 := Tryz.func316.trans (congrArg some zk)
 t0 := Tryz.underlying0
 a0 := Tryz.isAgg0
 z0 := Tryz.sizeOf0
 v0 := Tryz.zeroValue0
 t2 := Tryz.underlying2
 a2 := Tryz.isAgg2
 z2 := Tryz.sizeOf2
 v2 := Tryz.zeroValue2
 t3 := Tryz.underlying3
 a3 := Tryz.isAgg3
 z3 := Tryz.sizeOf3
 v3 := Tryz.zeroValue3
 t4 := Tryz.underlying4
 a4 := Tryz.isAgg4
 z4 := Tryz.sizeOf4
 v4 := Tryz.zeroValue4
 t5 := Tryz.underlying5
 a5 := Tryz.isAgg5
 z5 := Tryz.sizeOf5
 v5 := Tryz.zeroValue5
 t9 := Tryz.underlying9
 a9 := Tryz.isAgg9
 z9 := Tryz.sizeOf9
 v9 := Tryz.zeroValue9
 t20 := Tryz.underlying20
 a20 := Tryz.isAgg20
 z20 := Tryz.sizeOf20
 v20 := Tryz.zeroValue20
 t21 := Tryz.underlying21
 a21 := Tryz.isAgg21
 z21 := Tryz.sizeOf21
 v21 := Tryz.zeroValue21
 t37 := Tryz.underlying157
 a37 := Tryz.isAgg157
 z37 := Tryz.sizeOf157
 v37 := Tryz.zeroValue157
 t46 := Tryz.underlying52
 a46 := Tryz.isAgg52
 z46 := Tryz.sizeOf52
 v46 := Tryz.zeroValue52
 t51 := Tryz.underlying262
 a51 := Tryz.isAgg262
 z51 := Tryz.sizeOf262
 v51 := Tryz.zeroValue262
 t53 := Tryz.underlying234
 a53 := Tryz.isAgg234
 z53 := Tryz.sizeOf234
 v53 := Tryz.zeroValue234
 t75 := Tryz.underlying80
 a75 := Tryz.isAgg80
 z75 := Tryz.sizeOf80
 v75 := Tryz.zeroValue80
 t76 := Tryz.underlying166
 a76 := Tryz.isAgg166
 z76 := Tryz.sizeOf166
 v76 := Tryz.zeroValue166
 t85 := Tryz.underlying320
 a85 := Tryz.isAgg320
 z85 := Tryz.sizeOf320
 v85 := Tryz.zeroValue320
 t127 := Tryz.underlying221
 a127 := Tryz.isAgg221
 z127 := Tryz.sizeOf221
 v127 := Tryz.zeroValue221
 t143 := Tryz.underlying231
 a143 := Tryz.isAgg231
 z143 := Tryz.sizeOf231
 v143 := Tryz.zeroValue231
 t145 := Tryz.underlying233
 a145 := Tryz.isAgg233
 z145 := Tryz.sizeOf233
 v145 := Tryz.zeroValue233
 t167 := Tryz.underlying319
 a167 := Tryz.isAgg319
 z167 := Tryz.sizeOf319
 v167 := Tryz.zeroValue319
 t168 := Tryz.underlying322
 a168 := Tryz.isAgg322
 z168 := Tryz.sizeOf322
 v168 := Tryz.zeroValue322
 t171 := Tryz.underlying329
 a171 := Tryz.isAgg329
 z171 := Tryz.sizeOf329
 v171 := Tryz.zeroValue329
 t173 := Tryz.underlying331
 a173 := Tryz.isAgg331
 z173 := Tryz.sizeOf331
 v173 := Tryz.zeroValue331
 t175 := Tryz.underlying348
 a175 := Tryz.isAgg348
 z175 := Tryz.sizeOf348
 v175 := Tryz.zeroValue348
 t210 := Tryz.underlying351
 a210 := Tryz.isAgg351
 z210 := Tryz.sizeOf351
 v210 := Tryz.zeroValue351
 t212 := Tryz.underlying354
 a212 := Tryz.isAgg354
 z212 := Tryz.sizeOf354
 v212 := Tryz.zeroValue354
 t213 := Tryz.underlying355
 a213 := Tryz.isAgg355
 z213 := Tryz.sizeOf355
 t232 := Tryz.underlying373
 a232 := Tryz.isAgg373
 z232 := Tryz.sizeOf373
 v232 := Tryz.zeroValue373
 t233 := Tryz.underlying374
 a233 := Tryz.isAgg374
 z233 := Tryz.sizeOf374
 v233 := Tryz.zeroValue374
 g15 := by kernel_rfl
 g16 := by kernel_rfl
 g17 := by kernel_rfl
 g18 := by kernel_rfl
 g19 := by kernel_rfl }
open Go.RowKit in
theorem Tryz.strconv_Atoi (s : ByteArray) (n : Int) (hl : s.size ≤ 18) (h : Lib.atoi s.data.toList = some n) (w : World) :
  Calls Tryz.prog 195 #[.string s] w fun e w' => e = .returned (.tuple #[.int .i64 n, .nilIface]) ∧ ∃ t, w' = Lib.bytesWorld w 5 t := Any.strconv_Atoi Tryz.lays172 s n hl h w
end
section
open Go Go.RowKit
open E
open Ch Bb
theorem Cl.bytes (w : World) (e : Nat) (s : ByteArray) : Cl w (Lib.bytesWorld w e s) := ⟨rfl, rfl, rfl, by rw [Lib.bytesWorld_size]; omega, fun k hk => Lib.bytesWorld_at_old w e s k hk⟩
def Spc (w : World) : Prop := Lib.TabIs G.P w "strings.asciiSpace" .u8 Lib.asciiSpaceTab
theorem Spc.cl {w w' : World} (h : Spc w) (c : Cl w w') : Spc w' := by
 unfold Spc Lib.TabIs World.var? at *
 cases hg : G.P.globalNamed "strings.asciiSpace" with
 | none => rw [hg] at h; cases h
 | some g =>
  rw [hg] at h
  simp only [Option.bind_some] at h ⊢
  cases hb : w.heap[g]? with
  | none => rw [hb] at h; cases h
  | some o =>
   rw [c.blk hb]; rw [hb] at h; exact h
theorem decFrom_app : ∀ (a : Tx) (acc : Nat) (b : Tx), Lib.decFrom acc (a ++ b) = (Lib.decFrom acc a).bind fun x => Lib.decFrom x b
 | [], _, _ => rfl
 | x :: r, acc, b => by
  rw [List.cons_append, Lib.decFrom, Lib.decFrom]
  cases Lib.digitVal x with
  | none => rfl
  | some d => exact decFrom_app r _ b
theorem digitVal_of : ∀ k, k < 10 → Lib.digitVal (UInt8.ofNat (48 + k)) = some k := by decide
theorem decFrom_dec (n : Nat) : Lib.decFrom 0 (dec n) = some n := by
 induction n using Nat.strongRecOn with
 | _ n ih =>
  unfold dec
  by_cases h : n < 10
  ·rw [dif_pos h, Lib.decFrom, digitVal_of n h]; simp [Lib.decFrom]
  ·rw [dif_neg h, decFrom_app, ih (n / 10) zo, Option.bind_some, Lib.decFrom, digitVal_of (n % 10) zo]
   simp only [Lib.decFrom]; congr 1; omega
theorem dec_cons (n : Nat) : ∃ b r, dec n = b :: r := by
 cases h : dec n with
 | nil => have := decFrom_dec n; unfold dec at h; split at h <;> simp at h
 | cons b r => exact ⟨b, r, rfl⟩
theorem atoi_dec (n : Nat) : Lib.atoi (dec n) = some (n : Int) := by
 obtain ⟨b, r, e⟩ := dec_cons n
 obtain ⟨k, hk, hb⟩ := dec_mem n b (by rw [e]; exact List.mem_cons_self)
 have h1 : ∀ k, k < 10 → (UInt8.ofNat (48 + k) == 45) = false ∧ (UInt8.ofNat (48 + k) == 43) = false := by decide
 have hn : Lib.decNat (dec n) = some n := by unfold Lib.decNat; rw [if_neg (by rw [e]; simp)]; exact decFrom_dec n
 rw [e] at hn ⊢
 unfold Lib.atoi
 rw [hb] at hn ⊢
 simp only [(h1 k hk).1, (h1 k hk).2, hn]; rfl
theorem Atoi_c (n : Nat) (hn : n < 10000000) (w : World) : Calls G.P 195 #[txV (dec n)] w (Ret (.tuple #[.int .i64 n, .nilIface]) w) := by
 have hl := dec_len 7 n zd zo
 refine (Tryz.strconv_Atoi (tx (dec n)) n (by rw [tx_size]; omega) (by show Lib.atoi ((dec n).toArray.toList) = _; exact atoi_dec n) w).mono ?_
 rintro r w' ⟨h1, t, h2⟩
 exact ⟨h1, by rw [h2]; exact Cl.bytes w _ t⟩
theorem isSp_row {c : UInt8} (h : RowC c) : Lib.isSp c = false := by
 have h49 : 49 ≤ c.toNat := by
  rcases h with h | ⟨x, h0, h1, h⟩
  ·exact h.1
  ·rcases (by omega : x = 1 ∨ x = 2 ∨ x = 3 ∨ x = 4 ∨ x = 5 ∨ x = 6 ∨ x = 7 ∨ x = 8 ∨ x = 9 ∨ x = 10 ∨ x = 11 ∨ x = 12) with rfl | rfl | rfl | rfl | rfl | rfl | rfl | rfl | rfl | rfl | rfl | rfl <;> (injection h with h _; subst h; decide)
 unfold Lib.isSp
 have : ∀ k : UInt8, k.toNat < 49 → (c == k) = false := fun k hk => by
  rw [beq_eq_false_iff_ne]; intro e; rw [e] at h49; omega
 rw [this 9 zd, this 10 zd, this 11 zd, this 12 zd, this 13 zd, this 32 zd]; rfl
theorem trim_of {a : UInt8} {r l : Tx} {b : UInt8} (h : a :: r = l ++ [b]) (ha : Lib.isSp a = false) (hb : Lib.isSp b = false) : Lib.trimSpace (a :: r) = a :: r := by
 unfold Lib.trimSpace
 rw [List.dropWhile_cons, if_neg (by rw [ha]; decide), h, List.reverse_append, List.reverse_singleton, List.singleton_append, List.dropWhile_cons, if_neg (by rw [hb]; decide)]
 simp
theorem row_ne (p : Pos) (hp : ∀ i : Int, 0 ≤ sq p i ∧ sq p i ≤ 12) (r : Nat) : ∃ c t, rowL p r = c :: t := by
 cases h : rowL p r with
 | nil => have := row_exp hp r; rw [h] at this; cases this
 | cons c t => exact ⟨c, t, rfl⟩
theorem fen_trim {p : Pos} (hp : ∀ i : Int, 0 ≤ sq p i ∧ sq p i ≤ 12) : Lib.trimSpace (fenT p) = fenT p := by
 obtain ⟨c, t, e⟩ := row_ne p hp 7
 have hc : RowC c := row_c (fun f => sq p (8 * ((7 : Nat) : Int) + f)) 8 0 0 zo c (by show c ∈ rowL p 7; rw [e]; exact List.mem_cons_self)
 have e1 : fenT p = c :: (t ++ [47] ++ boardT p 7 ++ [32] ++ turnT p.turn ++ [32] ++ castT p.castle ++ [32] ++ epT p.ep ++ [32] ++ dec p.half.toNat ++ [32] ++ dec p.full.toNat) := by
  have : boardT p 8 = rowL p 7 ++ [47] ++ boardT p 7 := rfl
  unfold fenT; rw [this, e]; simp
 obtain ⟨x, r, e2⟩ := dec_cons p.full.toNat
 have hne : dec p.full.toNat ≠ [] := by rw [e2]; simp
 have hl := List.dropLast_concat_getLast hne
 obtain ⟨k, hk, hk2⟩ := dec_mem p.full.toNat _ (List.getLast_mem hne)
 have h3 : ∀ k, k < 10 → Lib.isSp (UInt8.ofNat (48 + k)) = false := by decide
 have e4 : fenT p = (boardT p 8 ++ [32] ++ turnT p.turn ++ [32] ++ castT p.castle ++ [32] ++ epT p.ep ++ [32] ++ dec p.half.toNat ++ [32] ++ (dec p.full.toNat).dropLast) ++ [(dec p.full.toNat).getLast hne] := by
  rw [List.append_assoc _ (dec p.full.toNat).dropLast, hl]; rfl
 rw [e1]
 exact trim_of (e1.symm.trans e4) (isSp_row hc) (by rw [hk2]; exact h3 k hk)
theorem fen_ascii {p : Pos} (hp : ∀ i : Int, 0 ≤ sq p i ∧ sq p i ≤ 12) : ∀ c ∈ fenT p, c.toNat < 128 := by
 have hdec : ∀ n, ∀ c ∈ dec n, c.toNat < 128 := fun n c hc => by
  obtain ⟨k, hk, rfl⟩ := dec_mem n c hc
  have : ∀ k, k < 10 → (UInt8.ofNat (48 + k)).toNat < 128 := by decide
  exact this k hk
 have hrow : ∀ c, RowC c → c.toNat < 128 := fun c h => by
  rcases rowC_cases h with h | h
  ·omega
  ·exact h.2.1
 have hboard : ∀ r, ∀ c ∈ boardT p r, c.toNat < 128 := by
  intro r
  induction r with
  | zero => intro c hc; cases hc
  | succ r ih =>
   intro c hc
   rw [boardT] at hc
   rcases List.mem_append.1 hc with hc | hc
   ·rcases List.mem_append.1 hc with hc | hc
    ·exact hrow c (row_c _ 8 0 0 zo c hc)
    ·split at hc
     ·cases hc
     ·rw [List.mem_singleton.1 hc]; decide
   ·exact ih c hc
 have h32 : ∀ c ∈ ([32] : Tx), c.toNat < 128 := by decide
 have hturn : ∀ c ∈ turnT p.turn, c.toNat < 128 := by unfold turnT; split <;> decide
 have hcast : ∀ c ∈ castT p.castle, c.toNat < 128 := by
  have : ∀ a b c d : Bool, ∀ x ∈ (let t : Tx := (if a then [75] else []) ++ (if b then [81] else []) ++ (if c then [107] else []) ++ (if d then [113] else []); if t.isEmpty then [45] else t), x.toNat < 128 := by decide
  exact this _ _ _ _
 have hep : ∀ c ∈ epT p.ep, c.toNat < 128 := by
  unfold epT; split
  ·rename_i h
   have : ∀ k, k < 64 → ∀ c ∈ fileT ((k : Nat) : Int) ++ rankT ((k : Nat) : Int), c.toNat < 128 := by decide
   have h2 := this p.ep.toNat zo
   rwa [Int.toNat_of_nonneg h.1] at h2
  ·decide
 intro c hc
 unfold fenT at hc
 simp only [List.mem_append] at hc
 rcases hc with (((((((((h | h) | h) | h) | h) | h) | h) | h) | h) | h) | h
 ·exact hboard _ c h
 ·exact h32 c h
 ·exact hturn c h
 ·exact h32 c h
 ·exact hcast c h
 ·exact h32 c h
 ·exact hep c h
 ·exact h32 c h
 ·exact hdec _ c h
 ·exact h32 c h
 ·exact hdec _ c h
theorem TrimFen_c {p : Pos} (hp : ∀ i : Int, 0 ≤ sq p i ∧ sq p i ≤ 12) (hl : (fenT p).length ≤ 100000) (w : World) (hs : Spc w) : Calls G.P 189 #[txV (fenT p)] w (Ret (txV (fenT p)) w) := by
 refine (Tryz.strings_TrimSpace (tx (fenT p)) w (by rw [tx_size]; omega) (fun j b hb => ?_) hs).mono ?_
 ·have hb : (fenT p)[j]? = some b := hb
  exact fen_ascii hp b (List.mem_of_getElem? hb)
 ·rintro r w' ⟨h1, h2⟩
  refine ⟨?_, by rw [h2]; exact Cl.bytes w _ _⟩
  rw [h1]
  show Ending.returned (.string ⟨(Lib.trimSpace (fenT p)).toArray⟩) = _
  rw [fen_trim hp]; rfl
def noSub (P : Program) : Nat → Nat → Bool
 | 0, _ => true
 | d + 1, e => match P.underlying e with
  | some (.struct fs) => fs.all fun f => noSub P d f.type
  | some (.array _ _) => false
  | _ => true
theorem noSub_row {P : Program} {fits : TypeId → Bool} : ∀ (d e n off : Nat), noSub P d e = true → 2 ≤ n → rowAt P fits d e 1 off n = false := by
 intro d
 induction d with
 | zero => intro e n off _ _; rfl
 | succ d ih =>
  intro e n off h hn
  unfold noSub at h
  unfold rowAt
  simp only
  split
  ·rfl
  rw [Bool.or_eq_false_iff]
  constructor
  ·rw [decide_eq_false (show ¬ off / P.cellsOf e + n ≤ 1 by generalize off / P.cellsOf e = q; omega)]; simp
  ·rw [Bool.and_eq_false_iff]
   right
   split at h
   ·rename_i fs hu
    simp only [hu]
    rw [Bool.and_eq_false_iff]
    right
    rw [Array.any_eq_false]
    intro i hi hc
    rw [Array.all_eq_true] at h
    have := ih fs[i].type n (off % P.cellsOf e - fs[i].offset) (h i hi) hn
    rw [this] at hc
    simp at hc
   ·cases h
   ·rename_i h1 h2
    split
    ·rename_i fs hu; exact absurd hu (h1 fs)
    ·rename_i m e' hu; exact absurd hu (h2 m e')
    ·rfl
def noTop (P : Program) (fits : TypeId → Bool) : Nat → Nat → Bool
 | 0, _ => true
 | d + 1, e => !fits e && match P.underlying e with
  | some (.struct fs) => fs.all fun f => noSub P d f.type
  | some (.array _ _) => false
  | _ => true
theorem noTop_row {P : Program} {fits : TypeId → Bool} (d e n c off : Nat) (h : noTop P fits d e = true) (hn : 2 ≤ n) : rowAt P fits d e c off n = false := by
 cases d with
 | zero => rfl
 | succ d =>
  unfold noTop at h
  rw [Bool.and_eq_true] at h
  obtain ⟨h0, h⟩ := h
  have h0 : fits e = false := by simpa using h0
  unfold rowAt
  simp only
  split
  ·rfl
  rw [Bool.or_eq_false_iff]
  constructor
  ·rw [h0]; simp
  ·rw [Bool.and_eq_false_iff]
   right
   split at h
   ·rename_i fs hu
    simp only [hu]
    rw [Bool.and_eq_false_iff]
    right
    rw [Array.any_eq_false]
    intro i hi hc
    rw [Array.all_eq_true] at h
    have := noSub_row (fits := fits) d fs[i].type n (off % P.cellsOf e - fs[i].offset) (h i hi) hn
    rw [this] at hc
    simp at hc
   ·cases h
   ·rename_i h1 h2
    split
    ·rename_i fs hu; exact absurd hu (h1 fs)
    ·rename_i m e' hu; exact absurd hu (h2 m e')
    ·rfl
theorem noTop_lies {P : Program} (D e u n c off : Nat) (h : noTop P (fun t => sameLayout P P.depth t u) P.depth e = true) (hu : ∀ m u', P.underlying u ≠ some (.array m u')) (hn : 2 ≤ n) : liesAt P D e c off u n = false := by
 cases D with
 | zero => rfl
 | succ D =>
  unfold liesAt
  rw [noTop_row _ _ _ _ _ h hn, Bool.false_or]
  split
  ·rename_i m u' he; exact absurd he (hu m u')
  ·rfl
theorem blk_of {W : World} (hS : W.ShapedOpen G.P) {g ty : Nat} (hlt : g < G.P.globals.size) (h0 : (((begin G.P (fun _ _ => 0) default).world.heap[g]?).bind Obj.row?).map (·.2) = some ty) :
  ∃ cs, W.heap[g]? = some (.cells cs ty (0, 0)) ∧ (G.P.buildable ty = true → Row.ok G.P W .any 0 ty cs) := by
 cases h1 : ((begin G.P (fun _ _ => 0) default).world.heap[g]?).bind Obj.row? with
 | none => rw [h1] at h0; cases h0
 | some x =>
  obtain ⟨zero, t⟩ := x
  rw [h1] at h0
  obtain rfl : t = ty := Option.some.inj h0
  obtain ⟨cs, h2, _, h3⟩ := hS.1 g zero t hlt h1
  exact ⟨cs, h2, h3⟩
theorem var_of {W : World} {name : String} {g ty : Nat} {cs cs' : Array Value} (hg : G.P.globalNamed name = some g) (hb : W.heap[g]? = some (.cells cs ty (0, 0))) (hv : W.var? G.P name = some cs') : cs' = cs := by
 unfold World.var? at hv
 rw [hg] at hv
 simp only [Option.bind_some, hb] at hv
 exact (Option.some.inj hv).symm
theorem tabN_of {W : World} (hS : W.ShapedOpen G.P) {name : String} {g t n e ty : Nat} {k : IntKind} {z : Nat → Int} (hg : G.P.globalNamed name = some g) (hlt : g < G.P.globals.size) (h0 : (((begin G.P (fun _ _ => 0) default).world.heap[g]?).bind Obj.row?).map (·.2) = some ty)
  (hf : fixT ty = true) (hty : (G.P.globals[g]?).map (·.type) = some t) (ht : G.P.underlying t = some (.array n e)) (he : G.P.underlying e = some (.int k)) (hce : G.P.cellsOf e = 1) (hct : G.P.cellsOf t = n)
  (hr : Lib.VarReads G.P W name (Lib.tabData k ((List.range n).map z))) : TabN W g n (fun i => .int k (z i)) := by
 obtain ⟨g', t', cs', fuel, p, hg', ht', hv, hd⟩ := hr
 obtain rfl := Option.some.inj (hg.symm.trans hg')
 obtain rfl := Option.some.inj (hty.symm.trans ht')
 obtain ⟨cs, hb, _⟩ := blk_of hS hlt h0
 have e1 := Lib.cells_of_tab ht he hce hct hd
 rw [var_of hg hb hv] at e1
 refine ⟨cs, ty, _, hb, hf, fun i hi => ?_⟩
 have e2 : cs.toList[i]? = some (Value.int k (z i)) := by
  rw [e1]
  simp [List.getElem?_map, List.getElem?_range hi]
 simpa using e2
theorem tabIs_of {W : World} {name : String} {g t n e : Nat} {k : IntKind} {zs : List Int} (hg : G.P.globalNamed name = some g) (hty : (G.P.globals[g]?).map (·.type) = some t) (ht : G.P.underlying t = some (.array n e)) (he : G.P.underlying e = some (.int k)) (hce : G.P.cellsOf e = 1) (hct : G.P.cellsOf t = n)
  (hr : Lib.VarReads G.P W name (Lib.tabData k zs)) : Lib.TabIs G.P W name k zs := by
 obtain ⟨g', t', cs', fuel, p, hg', ht', hv, hd⟩ := hr
 obtain rfl := Option.some.inj (hg.symm.trans hg')
 obtain rfl := Option.some.inj (hty.symm.trans ht')
 unfold Lib.TabIs
 rw [hv, ← Lib.cells_of_tab ht he hce hct hd]
theorem tabS_of {W : World} (hS : W.ShapedOpen G.P) {name : String} {g t n e ty : Nat} {k : IntKind} {z : Nat → Int} (hg : G.P.globalNamed name = some g) (hlt : g < G.P.globals.size) (h0 : (((begin G.P (fun _ _ => 0) default).world.heap[g]?).bind Obj.row?).map (·.2) = some ty)
  (hf : fixT ty = true) (hbu : G.P.buildable ty = true) (hct : G.P.cellTypes G.P.depth ty = some [t]) (hty : (G.P.globals[g]?).map (·.type) = some t) (ht : G.P.underlying t = some (.slice e)) (he : G.P.underlying e = some (.int k)) (hce : G.P.cellsOf e = 1)
  (hn : 2 ≤ n) (hno : ∀ row, fixT row = false → noTop G.P (fun t => sameLayout G.P G.P.depth t e) G.P.depth row = true)
  (hr : Lib.VarReads G.P W name (.slice ((List.range n).map fun i => .lit (.int k (z i))) [])) : TabS W g n (fun i => .int k (z i)) := by
 obtain ⟨g', t', cs', fuel, p, hg', ht', hv, hd⟩ := hr
 obtain rfl := Option.some.inj (hg.symm.trans hg')
 obtain rfl := Option.some.inj (hty.symm.trans ht')
 obtain ⟨cs, hb, hok⟩ := blk_of hS hlt h0
 rw [var_of hg hb hv] at hd
 obtain ⟨a, cap, e1, hcap, hcells⟩ := open_row ht hce hd
 have hl : ((List.range n).map fun i => (DataW.lit (.int k (z i)) : DataW Unit)).length = n := by simp
 rw [hl] at e1 hcap
 have e2 : cs = #[.slice (some a) n cap] := by rw [← Array.toList_inj]; exact e1
 subst e2
 obtain ⟨ts, hts, _, hall⟩ := hok hbu
 obtain rfl := Option.some.inj (hct.symm.trans hts)
 obtain ⟨u, hu, hc⟩ := hall 0 _ rfl
 obtain rfl : t = u := Option.some.inj hu
 unfold Cell.ok at hc
 rw [ht] at hc
 obtain ⟨_, _, _, hsp, row, cells, hsh, hlie⟩ := hc
 obtain ⟨b, o, sp⟩ := a
 have hsp : sp = none := hsp
 subst hsp
 unfold World.shape? at hsh
 have hcell0 := hcells
 cases hbb : W.heap[b]? with
 | none => simp only [hbb] at hsh; cases hsh
 | some ob =>
  cases ob with
  | cells cs2 el fz =>
   simp only [hbb] at hsh
   obtain ⟨rfl, rfl⟩ := Prod.mk.inj (Option.some.inj hsh)
   refine ⟨b, o, cap, ⟨_, _, _, hb, hf, fun i hi => ?_⟩, cs2, el, fz, hbb, ?_, fun i hi => ?_⟩
   ·obtain rfl : i = 0 := by omega
    rfl
   ·cases hfx : fixT el with
    | true => rfl
    | false =>
     have hu : ∀ m u', G.P.underlying e ≠ some (.array m u') := fun m u' h => by rw [he] at h; cases h
     rw [noTop_lies _ _ _ _ _ _ (hno el hfx) hu zo] at hlie
     cases hlie
   ·obtain ⟨v, m, q, hv1, hv2⟩ := hcells i (.lit (.int k (z i))) (by simp [List.getElem?_map, List.getElem?_range hi])
    obtain ⟨z', h3, h4, _⟩ := DataW.trod_int he hv2
    injection h3 with h3
    injection h4 with h4
    injection h4 with h4
    injection h4 with _ h4
    rw [addr_add] at hv1
    unfold World.cell? at hv1
    simp only [hbb] at hv1
    rw [h3, ← h4] at hv1
    simpa using hv1
  | _ => simp only [hbb] at hsh; cases hsh
theorem row4 (P : Nat → Prop) (h0 : P 173) (h1 : P 237) (h2 : P 141) (h3 : P 131) : ∀ row, fixT row = false → P row := by
 intro row h
 unfold fixT at h
 have h : (Nat.beq row 173 || Nat.beq row 237 || Nat.beq row 141 || Nat.beq row 131) = true := by
  revert h
  generalize (Nat.beq row 173 || Nat.beq row 237 || Nat.beq row 141 || Nat.beq row 131) = q
  cases q <;> decide
 simp only [Bool.or_eq_true] at h
 rcases h with ((h | h) | h) | h
 ·obtain rfl := Nat.eq_of_beq_eq_true h; exact h0
 ·obtain rfl := Nat.eq_of_beq_eq_true h; exact h1
 ·obtain rfl := Nat.eq_of_beq_eq_true h; exact h2
 ·obtain rfl := Nat.eq_of_beq_eq_true h; exact h3
theorem no194 : ∀ row, fixT row = false → noTop G.P (fun t => sameLayout G.P G.P.depth t 194) G.P.depth row = true :=
 row4 (fun row => noTop G.P (fun t => sameLayout G.P G.P.depth t 194) G.P.depth row = true) zk zk zk zk
theorem no139 : ∀ row, fixT row = false → noTop G.P (fun t => sameLayout G.P G.P.depth t 139) G.P.depth row = true :=
 row4 (fun row => noTop G.P (fun t => sameLayout G.P G.P.depth t 139) G.P.depth row = true) zk zk zk zk
theorem laid_tabs {W : World} (hS : W.ShapedOpen G.P) {l : List (String × DataW Unit)} (h : laidMet G.P l W)
  (dia : ("pub-tabiya/pub/chess.bbDiagonals", Lib.tabData .u64 ((List.range 64).map fun i => ((Bb.mask 2 i : Nat) : Int))) ∈ l)
  (anti : ("pub-tabiya/pub/chess.bbAntiDiagonals", Lib.tabData .u64 ((List.range 64).map fun i => ((Bb.mask 3 i : Nat) : Int))) ∈ l)
  (ranks : ("pub-tabiya/pub/chess.bbRanks", Lib.tabData .u64 ((List.range 8).map fun i => ((Bb.mask 0 (8 * i) : Nat) : Int))) ∈ l)
  (files : ("pub-tabiya/pub/chess.bbFiles", Lib.tabData .u64 ((List.range 8).map fun i => ((Bb.mask 1 i : Nat) : Int))) ∈ l)
  (kn : ("pub-tabiya/pub/chess.bbKnightMoves", Lib.tabData .u64 ((List.range 64).map fun i => ((Ch.kn i : Nat) : Int))) ∈ l)
  (kg : ("pub-tabiya/pub/chess.bbKingMoves", Lib.tabData .u64 ((List.range 64).map fun i => ((Ch.kg i : Nat) : Int))) ∈ l)
  (all : ("pub-tabiya/pub/chess.allPieces", .slice ((List.range 12).map fun (i : Nat) => .lit (.int .i8 ((i : Int) + 1))) []) ∈ l)
  (promo : ("pub-tabiya/pub/chess.promoPieceTypes", .slice ((List.range 4).map fun (i : Nat) => .lit (.int .i8 ((i : Int) + 2))) []) ∈ l)
  (wfen : ("pub-tabiya/pub/chess.whitePiecesToFEN", Lib.tabData .u8 ((List.range 7).map fun i => ((wfenL.getD i 0 : Nat) : Int))) ∈ l)
  (bfen : ("pub-tabiya/pub/chess.blackPiecesToFEN", Lib.tabData .u8 ((List.range 7).map fun i => ((bfenL.getD i 0 : Nat) : Int))) ∈ l)
  (fen : ("pub-tabiya/pub/chess.fenCharToPiece", Lib.tabData .i8 ((List.range 128).map fun i => (fenPc i))) ∈ l)
  (spc : ("strings.asciiSpace", Lib.tabData .u8 Lib.asciiSpaceTab) ∈ l) (pow : ("internal/strconv.uint64pow10", Lib.tabData .u64 Lib.pow10Tab) ∈ l) : Tabs W ∧ Spc W ∧ Pow W := by
 refine ⟨⟨?_, ?_, ?_, ?_, ?_, ?_, ?_, ?_, ?_, ?_, ?_⟩, ?_, ?_⟩
 ·exact tabN_of hS (ty := 282) (t := 282) (e := 235) zk (Nat.le_of_ble_eq_true zk) zk rfl zk zk zk zk zk (Lib.laidMet.reads h dia)
 ·exact tabN_of hS (ty := 282) (t := 282) (e := 235) zk (Nat.le_of_ble_eq_true zk) zk rfl zk zk zk zk zk (Lib.laidMet.reads h anti)
 ·exact tabN_of hS (ty := 326) (t := 326) (e := 235) zk (Nat.le_of_ble_eq_true zk) zk rfl zk zk zk zk zk (Lib.laidMet.reads h ranks)
 ·exact tabN_of hS (ty := 326) (t := 326) (e := 235) zk (Nat.le_of_ble_eq_true zk) zk rfl zk zk zk zk zk (Lib.laidMet.reads h files)
 ·exact tabN_of hS (ty := 282) (t := 282) (e := 235) zk (Nat.le_of_ble_eq_true zk) zk rfl zk zk zk zk zk (Lib.laidMet.reads h kn)
 ·exact tabN_of hS (ty := 282) (t := 282) (e := 235) zk (Nat.le_of_ble_eq_true zk) zk rfl zk zk zk zk zk (Lib.laidMet.reads h kg)
 ·exact tabS_of hS (ty := 243) (t := 243) (e := 194) zk (Nat.le_of_ble_eq_true zk) zk rfl zk zk zk zk zk zk zd no194 (Lib.laidMet.reads h all)
 ·exact tabS_of hS (ty := 291) (t := 291) (e := 139) zk (Nat.le_of_ble_eq_true zk) zk rfl zk zk zk zk zk zk zd no139 (Lib.laidMet.reads h promo)
 ·exact tabN_of hS (ty := 300) (t := 300) (e := 5) zk (Nat.le_of_ble_eq_true zk) zk rfl zk zk zk zk zk (Lib.laidMet.reads h wfen)
 ·exact tabN_of hS (ty := 300) (t := 300) (e := 5) zk (Nat.le_of_ble_eq_true zk) zk rfl zk zk zk zk zk (Lib.laidMet.reads h bfen)
 ·exact tabN_of hS (ty := 316) (t := 316) (e := 194) zk (Nat.le_of_ble_eq_true zk) zk rfl zk zk zk zk zk (Lib.laidMet.reads h fen)
 ·exact tabIs_of (g := 1) (t := 269) (n := 256) (e := 5) zk zk zk zk zk zk (Lib.laidMet.reads h spc)
 ·exact tabIs_of (g := 16) (t := 354) (n := 20) (e := 234) zk zk zk zk zk zk (Lib.laidMet.reads h pow)
theorem handed_shaped {H : Type} {enc : TypeId × Value → H} {a : Assume} {C : Checked} {os : Os} {f : FuncId} {fn : Func} {s : ChangeSpec} {conds : List PathCond} {apart fresh handsOn again : Bool} {X : World → Array Value → Prop}
  (hX : ∀ (w w' : World) (args : Array Value), w.heap = w'.heap → X w args → X w' args)
  (own : ownKnob C.prog.godebug = none) (started : os.Started) (noInit : C.prog.inits.idxOf? f = none) (hfn : C.prog.funcs[f]? = some fn)
  (witness : ∃ (w : World) (tape : Tape) (i : Input), w.os = os ∧ (w.forCall tape i).Shaped C.prog ∧ i.vars = [] ∧ Input.okWide C.prog (w.forCall tape i) .any w.heap.size f i ∧
   ((s.pre enc C.prog fn conds apart (w.forCall tape i).memory i.args ∧ X (w.forCall tape i).memory i.args) ∧ sizedMet enc C.prog fn (OpenSpec.ofChange s) apart (w.forCall tape i).memory i.args) ∧ a.holds C.prog (lone (Frame.enter C.prog f i.args .normal) [] (w.forCall tape i)))
  (contract : ∀ (W : World) (base : Nat) (args : Array Value) (ds gs : List (DataW H)) (before : List MemPlace), W.ShapedOpen C.prog →
   (∀ (j : Nat) t v, fn.params[j]? = some t → args[j]? = some v → Value.okWide C.prog W .any base t v) →
   DataW.Whole enc C.prog fn.params.toList s.vars apart W args.toList ds gs before → X W args →
   Calls C.prog f args W fun e W' => ∃ v, e = .returned v ∧ s.post enc C.prog fn apart fresh handsOn again W args v W') :
  ReturnsInHanded a C os f .any (fun w args => (s.pre enc C.prog fn conds apart w args ∧ X w args) ∧ sizedMet enc C.prog fn (OpenSpec.ofChange s) apart w args) (s.post enc C.prog fn apart fresh handsOn again) := by
 refine returnsInHanded_of_calls own started noInit witness ?_
 intro w tape i _ hsh _ hok hpre _
 obtain ⟨_, _, _, fn', hfn', _, _, _, _, hval⟩ := hok
 have e : fn' = fn := Option.some.inj (hfn'.symm.trans hfn)
 subst e
 obtain ⟨⟨⟨ds, gs, before, hw, _⟩, hx⟩, _⟩ := hpre
 have hw' := DataW.Whole.of_heap (w' := w.forCall tape i) (by rfl) hw
 refine (contract (w.forCall tape i) w.heap.size i.args ds gs before hsh hval hw' (hX _ _ _ (by rfl) hx)).mono fun e W' ⟨v, he, hp⟩ => ?_
 subst he
 exact ChangeSpec.post_blind hp
end
section
open Go Go.RowKit Go.Deep Go.ChangeShapes Go.WideShapes
open E
theorem int_of_ok {W : World} {r : Reach} {b t : Nat} {k : IntKind} {v : Value} (ht : G.P.underlying t = some (.int k)) (h : Cell.okWide G.P W r b t v) : ∃ n, v = .int k n ∧ k.has n := by
 unfold Cell.okWide Cell.ok at h
 cases v <;> simp [ht] at h
 rename_i k' n
 obtain ⟨rfl, h⟩ := h
 exact ⟨n, rfl, h⟩
theorem list_of {l : List Value} {k : IntKind} : (∀ (i : Nat) (v : Value), l[i]? = some v → ∃ n, v = Value.int k n) → ∃ zs : List Int, l = zs.map (Value.int k) := by
 induction l with
 | nil => intro _; exact ⟨[], rfl⟩
 | cons v r ih =>
  intro h
  obtain ⟨n, rfl⟩ := h 0 v rfl
  obtain ⟨zs, rfl⟩ := ih (fun i v hv => h (i + 1) v (by simpa using hv))
  exact ⟨n :: zs, rfl⟩
theorem posV_of {zs : List Int} (h : zs.length = 69) : ∃ s : Pos, (zs.map (Value.int .i64)).toArray = posA s := by
 refine ⟨{ board := zs.take 64, len := by simp [h], turn := zs.getD 64 0, castle := zs.getD 65 0, ep := zs.getD 66 0, half := zs.getD 67 0, full := zs.getD 68 0 }, ?_⟩
 unfold posA posL
 congr 1
 have : zs = zs.take 64 ++ [zs.getD 64 0, zs.getD 65 0, zs.getD 66 0, zs.getD 67 0, zs.getD 68 0] := by
  apply List.ext_getElem
  ·simp [h]
  ·intro i h1 h2
   by_cases hi : i < 64
   ·rw [List.getElem_append_left (by simp [h]; exact hi)]
    simp
   ·rw [List.getElem_append_right (by simp [h]; omega)]
    have hh : (zs.take 64).length = 64 := by simp [h]
    simp only [hh]
    have : i = 64 ∨ i = 65 ∨ i = 66 ∨ i = 67 ∨ i = 68 := by omega
    rcases this with rfl | rfl | rfl | rfl | rfl <;> simp [List.getD_eq_getElem?_getD, h1]
 conv => lhs; rw [this]
 rw [List.map_append]
 rfl
theorem open_pos {W : World} {r : Reach} {b : Nat} {v : Value} (h : Value.okWide G.P W r b 24 v) : ∃ s : Pos, v = posV s := by
 obtain ⟨f, hu, _⟩ := okD_struct (G.tab 24 _ (show tyOf G.T 24 = some (.struct 69 _) from rfl))
 unfold Value.okWide at h
 rw [hu] at h
 obtain ⟨cs, rfl, hs, ts, hts, _, hall⟩ := h
 have e1 : G.P.cellTypes G.P.depth 24 = some (List.replicate 69 3) := by kernel_rfl
 obtain rfl := Option.some.inj (e1.symm.trans hts)
 have e2 : G.P.cellsOf 24 = 69 := by kernel_rfl
 have e3 : G.P.underlying 3 = some (.int .i64) := by kernel_rfl
 rw [e2] at hs
 obtain ⟨zs, hz⟩ := list_of (l := cs.toList) (k := .i64) (fun i v hv => by
  obtain ⟨u, hu, hc⟩ := hall i v (by simpa using hv)
  rw [List.getElem?_replicate] at hu
  split at hu
  ·obtain rfl := Option.some.inj hu
   obtain ⟨n, h1, _⟩ := int_of_ok e3 hc
   exact ⟨n, h1⟩
  ·cases hu)
 obtain ⟨s, hs2⟩ := posV_of (zs := zs) (by have := congrArg List.length hz; simpa [hs] using this.symm)
 refine ⟨s, ?_⟩
 unfold posV
 rw [← hs2, ← hz]
theorem wf_i64 {n : Int} (h : (Lit.int .i64 n).wf = true) : I64 n := by
 have e1 : IntKind.i64.min = -9223372036854775808 := by decide
 have e2 : IntKind.i64.max = 9223372036854775807 := by decide
 simp [Lit.wf, e1, e2] at h
 exact ⟨zo, zo⟩
theorem open_moves {H : Type} {enc : TypeId × Value → H} {W : World} {b base : Nat} {sp : Nat → Bool} {hd : Bool} {v : Value} {d : DataW H} {ps : List MemPlace} (h : Value.okWide G.P W .any b 25 v) (hr : DataW.Trod enc G.P W base sp hd 25 v d ps) :
  ∃ ms : List Mv, MvIn W v ms ∧ ∀ m ∈ ms, MvR m := by
 have e1 : G.P.underlying 25 = some (.slice 36) := by kernel_rfl
 have e2 : G.P.cellsOf 36 = 3 := by kernel_rfl
 have e3 : G.P.underlying 3 = some (.int .i64) := by kernel_rfl
 have e4 : G.P.cellsOf 3 = 1 := by kernel_rfl
 obtain ⟨f, hu, _, hf, _⟩ := okD_struct (G.tab 36 _ (show tyOf G.T 36 = some (.struct 3 _) from rfl))
 have hf2 : f.toList.map (fun x => (x.type, x.offset)) = [(3, 0), (3, 1), (3, 2)] := hf
 have hfs : f.size = 3 := by have := congrArg List.length hf2; simpa using this
 have hfi : ∀ i (hi : i < 3), f[i].type = 3 ∧ f[i].offset = i := fun i hi => by
  have := congrArg (fun l => l[i]?) hf2
  simp only [List.getElem?_map] at this
  rw [List.getElem?_eq_getElem (by simp [hfs]; exact hi)] at this
  simp only [Option.map_some, Array.getElem_toList] at this
  have h3 : i = 0 ∨ i = 1 ∨ i = 2 := by omega
  rcases h3 with rfl | rfl | rfl <;> simpa using this
 obtain ⟨fuel, hr⟩ := hr
 unfold Value.okWide at h
 rw [e1] at h
 have hv : ∃ oa len cap, v = .slice oa len cap := by
  unfold Cell.okWide Cell.ok at h
  cases v <;> simp [e1] at h
  exact ⟨_, _, _, rfl⟩
 obtain ⟨oa, len, cap, rfl⟩ := hv
 rcases open_slice e1 hr with ⟨h1, _⟩ | ⟨a, len', cap', m, n, D, Pl, h1, _, hl, hm, hmm, _, hx⟩
 ·obtain ⟨rfl, rfl, rfl⟩ : oa = none ∧ len = 0 ∧ cap = 0 := by simpa [Value.cells] using h1
  exact ⟨[], ⟨none, 0, rfl, fun h => absurd h zd⟩, fun m hm => by cases hm⟩
 ·obtain ⟨rfl, rfl, rfl⟩ : oa = some a ∧ len = len' ∧ cap = cap' := by simpa [Value.cells] using h1
  unfold Cell.okWide Cell.ok at h
  rw [e1] at h
  obtain ⟨_, _, _, hsp, row, cells, hsh, _⟩ := h
  obtain ⟨g, o, spo⟩ := a
  obtain rfl : spo = none := hsp
  unfold World.shape? at hsh
  cases hbb : W.heap[g]? with
  | none => simp only [hbb] at hsh; cases hsh
  | some ob =>
   cases ob with
   | cells cs2 el fz =>
    have hlm : len ≤ m := by rw [hmm]; split <;> omega
    have key : ∀ i, i < len → ∃ mv : Mv, MvR mv ∧ o + i * 3 + 3 ≤ cs2.size ∧ cs2.extract (o + i * 3) (o + i * 3 + 3) = mvA mv := by
     intro i hi
     obtain ⟨cs', hc1, hc2⟩ := hx i zo
     obtain ⟨_, hlen, hcell⟩ := World.cells?_some hc1
     rw [e2] at hlen hcell
     obtain ⟨xs, n', _, _, _, hxl, hall⟩ := DataW.trod_struct hu hc2
     have hz : ∀ j, j < 3 → ∃ z, cs2[o + i * 3 + j]? = some (Value.int .i64 z) ∧ I64 z := by
      intro j hj
      obtain ⟨t1, t2⟩ := hfi j hj
      have h2 := hall j f[j] (by simp [hfs, hj])
      rw [t1, t2, e4, List.getElem?_eq_getElem zo] at h2
      obtain ⟨z, h3, _, h4⟩ := DataW.trod_int e3 h2
      have h5 : cs'[j]? = some (Value.int .i64 z) := by
       have := congrArg (·[0]?) h3
       simpa [List.getElem?_take, List.getElem?_drop] using this
      have h6 := hcell j hj
      rw [h5, addr_add, addr_add] at h6
      unfold World.cell? at h6
      simp only [hbb] at h6
      exact ⟨z, by simpa using h6, wf_i64 h4⟩
     obtain ⟨z0, p0, r0⟩ := hz 0 zd
     obtain ⟨z1, p1, r1⟩ := hz 1 zd
     obtain ⟨z2, p2, r2⟩ := hz 2 zd
     have hsz := (Array.getElem?_eq_some_iff.1 p2).1
     refine ⟨⟨z0, z1, z2⟩, ⟨r0, r1, r2⟩, zo, ?_⟩
     apply Array.ext
     ·simp [mvA]; omega
     ·intro j h1 h2
      have h3 : j = 0 ∨ j = 1 ∨ j = 2 := by simp [mvA] at h2; omega
      rw [Array.getElem_extract]
      rcases h3 with rfl | rfl | rfl
      ·exact (Array.getElem?_eq_some_iff.1 p0).2
      ·exact (Array.getElem?_eq_some_iff.1 p1).2
      ·exact (Array.getElem?_eq_some_iff.1 p2).2
    have : Inhabited Mv := ⟨⟨0, 0, 0⟩⟩
    obtain ⟨F, hF⟩ := choose_lt key
    refine ⟨(List.range len).map F, ⟨some ⟨g, o, none⟩, cap, by simp, fun _ => ⟨g, o, cs2, el, fz, rfl, hbb, fun i hi => ?_⟩⟩, fun mv hmv => ?_⟩
    ·have hi2 : i < len := by simpa using hi
     obtain ⟨_, h7, h8⟩ := hF i hi2
     exact ⟨h7, by simpa using h8⟩
    ·obtain ⟨i, hi, rfl⟩ := List.mem_map.1 hmv
     exact (hF i (List.mem_range.1 hi)).1
   | _ => simp only [hbb] at hsh; cases hsh
end
section
open Go Go.RowKit
open E
open Ch Bb
set_option maxHeartbeats 1000000 in
theorem zzSplit_c (s0 : Tx) (hs : s0.length ≤ 1000) (w : World) : Calls G.P 190 #[txV s0, txV [32]] w (fun r w' => ∃ v, r = .returned v ∧ Row 9 1 encTx w.heap.size w' v (splC 32 [] s0) ∧ Cl w w') := by
 have h1 : (tx [32]).size = 1 := tx_size _
 refine zN Tryz.func190 ?_
 refine zR ?_
 refine loopK (σ := List Tx × Value × Tx) [0, 4, 5, 8] 9 (fun s => [(0, txV s.2.2), (5, s.2.1)]) (fun s w' => Cl w w' ∧ Row 9 1 encTx w.heap.size w' s.2.1 s.1 ∧ s.1 ++ splC 32 [] s.2.2 = splC 32 [] s0 ∧ s.1.length + s.2.2.length ≤ 1000) (fun s => s.2.2.length) zk
  ([], .slice none 0 0, s0) ⟨Cl.refl _, Row.nil _ _, rfl, by simpa using hs⟩ ⟨rfl, rfl, trivial⟩ ?_
 rintro ⟨l, v, s⟩ j w1 ⟨c1, hr, he, hl⟩
 simp only at c1 hr he hl ⊢
 obtain ⟨a, c, rfl, _⟩ := hr.form
 refine zR ?_
 refine callS (zzIndex_c 32 s zo _) (zR ?_)
 by_cases hm : (32 : UInt8) ∈ s
 ·have hix : ixZ 32 s = (s.idxOf 32 : Int) := if_pos hm
  obtain ⟨e1, e2, e3⟩ := idx_split hm
  rw [splC_ix hm] at he
  rw [hix]
  refine zR ?_
  refine gen_cutH (l := s) (s.take (s.idxOf 32)) rfl rfl rfl zo zo (by rw [Int.toNat_natCast]) (zR ?_)
  refine gen_bs elStr [txV (s.take (s.idxOf 32))] (by rw [Array.toList_map]; rfl) (by simp [Value.cells, txV]) rfl zd zd ?_
  have cb := Cl.alloc w1 (.cells (([txV (s.take (s.idxOf 32))] : List Value).flatMap fun v => v.cells.toList).toArray 9)
  have hbx : Row 9 1 encTx w1.heap.size (w1.alloc (.cells (([txV (s.take (s.idxOf 32))] : List Value).flatMap fun v => v.cells.toList).toArray 9)) (.slice (some ⟨w1.heap.size, 0, none⟩) 1 1) [s.take (s.idxOf 32)] := row_new encTx_len w1 [s.take (s.idxOf 32)] (Nat.le_of_ble_eq_true rfl) _ rfl
  generalize w1.alloc (.cells (([txV (s.take (s.idxOf 32))] : List Value).flatMap fun v => v.cells.toList).toArray 9) = w2 at *
  refine zR ?_
  refine gen_appX elStr (l := l) (news := [s.take (s.idxOf 32)]) rfl (hr.step cb) rfl hbx encTx_len encTx_one (by simp only [List.length_cons, List.length_nil]; omega) zd (c1.trans cb).size fun v' w3 hr' hg => ?_
  have c3 : Cl w w3 := hg.toCl rfl (c1.trans cb)
  obtain ⟨a9, c9, rfl, _⟩ := hr'.form
  refine zR ?_
  rw [h1]
  have en : IntKind.i64.wrap ((s.idxOf 32 : Int) + ((1 : Nat) : Int)) = ((s.idxOf 32 + 1 : Nat) : Int) := by rw [w64_in zo zo]; push_cast; rfl
  rw [en]
  refine gen_cutL (l := s) (s.drop (s.idxOf 32 + 1)) rfl rfl rfl zo zo (by rw [Int.toNat_natCast]) (zR ?_)
  exact ⟨(l ++ [s.take (s.idxOf 32)], _, s.drop (s.idxOf 32 + 1)), ⟨rfl, rfl, trivial⟩, ⟨c3, hr', by simpa using he, by simp; omega⟩, by simp; omega⟩
 ·have hix : ixZ 32 s = -1 := if_neg hm
  rw [splC_none hm, List.nil_append] at he
  rw [hix]
  refine zR ?_
  refine gen_bs elStr [txV s] (by rw [Array.toList_map]; rfl) (by simp [Value.cells, txV]) rfl zd zd ?_
  have cb := Cl.alloc w1 (.cells (([txV s] : List Value).flatMap fun v => v.cells.toList).toArray 9)
  have hbx : Row 9 1 encTx w1.heap.size (w1.alloc (.cells (([txV s] : List Value).flatMap fun v => v.cells.toList).toArray 9)) (.slice (some ⟨w1.heap.size, 0, none⟩) 1 1) [s] := row_new encTx_len w1 [s] (Nat.le_of_ble_eq_true rfl) _ rfl
  generalize w1.alloc (.cells (([txV s] : List Value).flatMap fun v => v.cells.toList).toArray 9) = w2 at *
  refine zR ?_
  refine gen_appX elStr (l := l) (news := [s]) rfl (hr.step cb) rfl hbx encTx_len encTx_one (by simp only [List.length_cons, List.length_nil]; omega) zd (c1.trans cb).size fun v' w3 hr' hg => ?_
  have c3 : Cl w w3 := hg.toCl rfl (c1.trans cb)
  obtain ⟨a9, c9, rfl, _⟩ := hr'.form
  refine zR ?_
  exact ⟨_, rfl, by rw [← he]; exact hr', c3⟩
theorem fenT_len {p : Pos} (hh : p.half.toNat < 10000000) (hf : p.full.toNat < 10000000) : (fenT p).length ≤ 1000 := by
 have h1 := boardT_len p 8
 have h2 := turnT_len p.turn
 have h3 := castT_len p.castle
 have h4 := epT_len p.ep
 have h5 := dec_len 7 p.half.toNat zd zo
 have h6 := dec_len 7 p.full.toNat zd zo
 unfold fenT
 simp only [List.length_append, List.length_cons, List.length_nil]
 omega
set_option maxHeartbeats 1000000 in
theorem decode_c {p : Pos} (hI : Inv p) (hh : p.half < 10000000) (hf : p.full < 10000000) (w : World) (hT : Tabs w) (hS : Spc w) :
  Calls G.P 134 #[txV (fenT p)] w (fun r w' => Cl w w' ∧ ∃ P b, r = .returned (.tuple #[.pointer (some ⟨P, 0, none⟩), .nilIface]) ∧ w.heap.size ≤ P ∧ w.heap.size ≤ b
   ∧ w'.heap[P]? = some (.cells (hdA b (hdOf p false) (.slice none 0 0)) 173 (0, 0)) ∧ w'.heap[b]? = some (.cells (mbA (mbOf p)) 237 (0, 0))) := by
 have hh0 := hI.h0
 have hf1 := hI.f1
 have hlen := fenT_len (p := p) zo zo
 have hparts := fen_parts p
 have hep := ep_of hI.pass
 have ht := hI.turn
 have hA1 := fun w => Atoi_c p.half.toNat zo w
 have hA2 := fun w => Atoi_c p.full.toNat zo w
 rw [Int.toNat_of_nonneg hh0] at hA1
 rw [Int.toNat_of_nonneg (by omega : 0 ≤ p.full)] at hA2
 have hTr := TrimFen_c hI.pc zo w hS
 generalize fenT p = T at *
 refine zN Tryz.func134 ?_
 refine zR ?_
 refine callR hTr fun w1 c1 => zR ?_
 refine callK (zzSplit_c T hlen w1) ?_
 rintro e w2 ⟨v, rfl, hr, c2⟩
 refine ⟨_, rfl, ?_⟩
 rw [hparts] at hr
 obtain ⟨a, c, rfl, ha⟩ := hr.form
 obtain ⟨g, rfl⟩ := ha (by simp)
 have c02 := c1.trans c2
 have hld := fun (i : Nat) (hi : i < 6) (w' : World) (hc : Cl w2 w') {v : Value} (hv : (encTx ([boardT p 8, turnT p.turn, castT p.castle, epT p.ep, dec p.half.toNat, dec p.full.toNat][i]'(by simpa using hi)))[0]? = some v) => ldRow (t := 9) (hr.step hc) encTx_len i 0 (by simpa using hi) zd hv (show i = i * 1 + 0 by omega) rfl
 have hl0 := fun w' hc => hld 0 zd w' hc (v := txV (boardT p 8)) rfl
 have hl1 := fun w' hc => hld 1 zd w' hc (v := txV (turnT p.turn)) rfl
 have hl2 := fun w' hc => hld 2 zd w' hc (v := txV (castT p.castle)) rfl
 have hl3 := fun w' hc => hld 3 zd w' hc (v := txV (epT p.ep)) rfl
 have hl4 := fun w' hc => hld 4 zd w' hc (v := txV (dec p.half.toNat)) rfl
 have hl5 := fun w' hc => hld 5 zd w' hc (v := txV (dec p.full.toNat)) rfl
 clear hld hr hparts ha
 refine zR ?_
 refine loadK _ (hl0 _ (Cl.refl _)) (zR ?_)
 refine callK (fenBoard_c hI w2 (hT.cl c02)) ?_
 rintro e w3 ⟨c3, b, rfl, sb, hB⟩
 refine ⟨_, rfl, ?_⟩
 refine zR ?_
 refine gen_neN true (cmp_nilIface rfl) (zR ?_)
 refine loadK _ (hl1 _ c3) (zR ?_)
 refine callS (fenTurn_c p.turn ht _) (zR ?_)
 refine E.dfalse zo (zR ?_)
 refine loadK _ (hl2 _ c3) (zR ?_)
 refine callR (formCastle_c p.castle hI.c0 hI.c1 w3) fun w4 c4 => ?_
 have c24 := c3.trans c4
 refine zR ?_
 refine gen_neN true (cmp_nilIface rfl) (zR ?_)
 refine loadK _ (hl3 _ c24) (zR ?_)
 refine callR (formEp_c p.ep (by rcases hep with h | h; exact .inl h; exact .inr ⟨h.1, h.2.1, zo⟩) _) fun w4 c4' => ?_
 have c24 := c24.trans c4'
 have c4 := c4.trans c4'
 refine zR ?_
 refine gen_neN true (cmp_nilIface rfl) (zR ?_)
 refine loadK _ (hl4 _ c24) (zR ?_)
 refine callR (hA1 w4) fun w5 c5 => ?_
 have c25 := c24.trans c5
 refine zR ?_
 refine gen_neN true (cmp_nilIface rfl) (zR ?_)
 refine E.dfalse zo (zR ?_)
 repeat (refine E.dfalse (show ¬ p.half < 0 by omega) ?_; refine zR ?_)
 refine loadK _ (hl5 _ c25) (zR ?_)
 refine callR (hA2 w5) fun w6 c6 => ?_
 have c26 := c25.trans c6
 refine zR ?_
 refine gen_neN true (cmp_nilIface rfl) (zR ?_)
 refine E.dfalse zo (zR ?_)
 repeat (refine E.dfalse (show ¬ p.full < 1 by omega) ?_; refine zR ?_)
 refine gen_build (hdA b (hdOf p false) (.slice none 0 0)) zk (zR ?_)
 have cF := Cl.alloc w6 (.cells (hdA b (hdOf p false) (.slice none 0 0)) 173)
 have s06 := (c02.trans c26).size
 exact ⟨(c02.trans c26).trans cF, _, b, rfl, s06, by have := c02.size; omega, alloc_new _ _, cF.blk (c6.blk (c5.blk (c4.blk hB)))⟩
end
section
open Go Go.RowKit
open E
theorem fen_of {p : Pos} (hI : Ch.Inv p) (hN : Nums p) : Fen p := ⟨hI.pc, hI.c0, hI.c1, hI.h0, by have := hN.1; omega, by have := hI.f1; omega, by have := hN.2; omega⟩
theorem made_ep {p : Pos} (hI : Ch.Inv p) {m : Mv} (hm : m ∈ Ch.legal p) : (Ch.made p m).ep ≤ 63 := by
 have hmo := mvOk_of hI hm
 obtain ⟨⟨a0, a1⟩, ⟨b0, b1⟩, d0, d1⟩ := hmo
 show (if Ch.twoStep p m then (m.fr + m.to) / 2 else -1) ≤ 63
 split <;> omega
theorem StepOf_c (p : Pos) (hI : Ch.Inv p) (hN : Nm p) (m : Mv) (hm : m ∈ Ch.legal p) (me : Int) (ou : Tx) (w : World) : Calls G.P 40 #[posV p, mvV m, .int .i64 me, txV ou] w (Ret (stV (Ch.stepOf p m (me, ou))) w) := by
 have hmo := mvOk_of hI hm
 have hI2 := Ch.Inv.made hI hm
 have hN2 := hN.made hI m
 have hep := made_ep hI hm
 have hbt := builtSt ⟨m, Ch.told p m, Ch.sanT p m, Ch.lanT p m, Ch.uciT m, Ch.fenT (Ch.made p m), Ch.xfenT (Ch.made p m), Ch.made p m, ou, me, Ch.statusOf (Ch.made p m)⟩
 have hun : Ch.stepOf p m (me, ou) = ⟨m, Ch.told p m, Ch.sanT p m, Ch.lanT p m, Ch.uciT m, Ch.fenT (Ch.made p m), Ch.xfenT (Ch.made p m), Ch.made p m, ou, me, Ch.statusOf (Ch.made p m)⟩ := by unfold Ch.stepOf; rfl
 have hst : stV (Ch.stepOf p m (me, ou)) = .agg (stL ⟨m, Ch.told p m, Ch.sanT p m, Ch.lanT p m, Ch.uciT m, Ch.fenT (Ch.made p m), Ch.xfenT (Ch.made p m), Ch.made p m, ou, me, Ch.statusOf (Ch.made p m)⟩).toArray := by rw [hun]; rfl
 have hone := one_st (Ch.stepOf p m (me, ou))
 have hlen := stL_len (Ch.stepOf p m (me, ou))
 refine zN Tryz.func40 ?_
 refine zG ?_
 generalize hW : (w.alloc (.cells (posA p) 24)).alloc (.cells (mvA m) 36) = W0
 have hP : ∀ w', Cl W0 w' → w'.heap[w.heap.size]? = some (.cells (posA p) 24 (0, 0)) := fun w' h => hP2 (hW ▸ h)
 have hM : ∀ w', Cl W0 w' → w'.heap[(w.alloc (.cells (posA p) 24)).heap.size]? = some (.cells (mvA m) 36 (0, 0)) := fun w' h => hM2 (hW ▸ h)
 have hE : ∀ w', Cl W0 w' → Cl w w' := fun w' h => hE2 (hW ▸ h)
 have z := Cl.refl W0
 obtain ⟨zs, hzs, hz81⟩ := zSt
 obtain ⟨zp, hzp, hz69⟩ := zPos
 refine gen_alloc zs hzs ?_
 have hB : ∀ w', Cl (W0.alloc (.cells zs.cells 39)) w' → w'.heap[W0.heap.size]? = some (.cells zs.cells 39 (0, 0)) := fun w' h => h.blk (alloc_new _ _)
 have c1 : Cl W0 (W0.alloc (.cells zs.cells 39)) := Cl.alloc _ _
 generalize W0.alloc (.cells zs.cells 39) = w1 at *
 refine zR ?_
 refine loadK _ (ldPos (hP _ c1)) (zR ?_)
 refine loadK _ (ldMv (hM _ c1)) (zR ?_)
 refine callR (Made_c p m hI.pc hmo hI.turn hI.c0 hI.c1 hI.h0 hN.nums.1 (by have := hI.f1; omega) hN.nums.2 _) fun w2 c2 => zR ?_
 refine gen_alloc zp hzp (zR ?_)
 refine stK (alloc_new _ _) (posL (Ch.made p m)) rfl szPos (posL_len _) (one_pos _) (by rw [hz69]; omega) (fun w3 u3 => ?_)
 have hQ : w3.heap[w2.heap.size]? = some (.cells (posA (Ch.made p m)) 24 (0, 0)) := by
  rw [u3.at_, over_all _ _ (by rw [posL_len, hz69])]; rfl
 have c13 : Cl w1 w3 := u3.cl (c2.trans (Cl.alloc _ _)) c2.size
 have c3 : Cl W0 w3 := c1.trans c13
 clear u3
 have hB3 := hB _ c13
 have q1 := fun w => Told_c p hI hN m hm w
 have q2 := fun w => SanText_c p hI hN m hm w
 have q3 := fun w => LanText_c p hI hN m hm w
 have q4 := fun w => UciText_c m hmo w
 have q5 := fun w => FenText_c _ (fen_of hI2 hN2) w
 have q6 := fun w => XfenText_c _ (fen_of hI2 hN2) hI2.turn hep w
 have q7 := fun w => StatusOf_c _ hI2 hN2 w
 have hbig : W0.heap.size < w2.heap.size := by
  have := (Array.getElem?_eq_some_iff.1 (hB _ c2)).1
  exact this
 rw [hun] at hone hlen
 simp only at hbt
 clear hun
 generalize stL ⟨m, Ch.told p m, Ch.sanT p m, Ch.lanT p m, Ch.uciT m, Ch.fenT (Ch.made p m), Ch.xfenT (Ch.made p m), Ch.made p m, ou, me, Ch.statusOf (Ch.made p m)⟩ = S at *
 generalize Ch.made p m = q at *
 generalize Ch.told p m = Q1 at *
 generalize Ch.sanT p m = Q2 at *
 generalize Ch.lanT p m = Q3 at *
 generalize Ch.uciT m = Q4 at *
 generalize Ch.fenT q = Q5 at *
 generalize Ch.xfenT q = Q6 at *
 generalize Ch.statusOf q = Q7 at *
 refine zR ?_
 refine zK 22 ?_
 refine zR ?_
 refine loadQ _ (fun w hw => ldMv (hM _ (c3.trans hw))) (zR ?_)
 refine loadQ _ (fun w hw => ldPos (hP _ (c3.trans hw))) (zR ?_)
 refine loadQ _ (fun w hw => ldMv (hM _ (c3.trans hw))) (zR ?_)
 refine callQ (.int .i64 Q1) (fun _ _ h => h.trans) (fun w _ => q1 w) (zR ?_)
 refine loadQ _ (fun w hw => ldPos (hP _ (c3.trans hw))) (zR ?_)
 refine loadQ _ (fun w hw => ldMv (hM _ (c3.trans hw))) (zR ?_)
 refine callQ (txV Q2) (fun _ _ h => h.trans) (fun w _ => q2 w) (zR ?_)
 refine loadQ _ (fun w hw => ldPos (hP _ (c3.trans hw))) (zR ?_)
 refine loadQ _ (fun w hw => ldMv (hM _ (c3.trans hw))) (zR ?_)
 refine callQ (txV Q3) (fun _ _ h => h.trans) (fun w _ => q3 w) (zR ?_)
 refine loadQ _ (fun w hw => ldMv (hM _ (c3.trans hw))) (zR ?_)
 refine callQ (txV Q4) (fun _ _ h => h.trans) (fun w _ => q4 w) (zR ?_)
 refine loadQ _ (fun w hw => ldPos (hw.blk hQ)) (zR ?_)
 refine callQ (txV Q5) (fun _ _ h => h.trans) (fun w _ => q5 w) (zR ?_)
 refine loadQ _ (fun w hw => ldPos (hw.blk hQ)) (zR ?_)
 refine callQ (txV Q6) (fun _ _ h => h.trans) (fun w _ => q6 w) (zR ?_)
 refine loadQ _ (fun w hw => ldPos (hw.blk hQ)) (zR ?_)
 refine loadQ _ (fun w hw => ldPos (hw.blk hQ)) (zR ?_)
 refine callQ (.int .i64 Q7) (fun _ _ h => h.trans) (fun w _ => q7 w) (zR ?_)
 refine genQ_build S.toArray hbt (zR ?_)
 intro w4 c4
 refine zR ?_
 refine stK (c4.blk hB3) S rfl szSt hlen hone (by rw [hz81]; omega) (fun w5 u5 => ?_)
 have hR : w5.heap[W0.heap.size]? = some (.cells S.toArray 39 (0, 0)) := by
  rw [u5.at_, over_all _ _ (by rw [hlen, hz81])]
 have c5 : Cl w w5 := u5.cl (hE _ (c3.trans c4)) (hE _ z).size
 refine zR ?_
 refine loadK (.agg S.toArray) ?_ ?_
 ·have := ldA (t := 39) (o := 0) (z := 81) hR rfl (by simp [hlen])
  rw [show S.toArray.extract 0 (0 + 81) = S.toArray by
   have : S.toArray.size = 81 := by simp [hlen]
   rw [← this]; simp] at this
  exact this
 refine zR ?_
 exact ⟨by rw [hst], c5⟩
end
end Go.Proofs.YtpclhlhcegcflaaGreatDoor
