/- One part of the proof: Prg Lem Mod PosV Law Mod2 Law2 Sho Geo Sp1 Sp2 Sp3 Sp4. -/
import Derived.Test.YtpclhlhcegcflaaGreatDoorProg
import Derived.Laws.AppendOwn
import Derived.Great.BuildSlice
import Derived.Laws.IdiomCopy
import Derived.Test.YtpclhlhcegcflaaGreatDoorM2
namespace Go.Proofs.YtpclhlhcegcflaaGreatDoor
open Go.Proofs.Tryz
set_option maxRecDepth 100000
set_option linter.unusedSimpArgs false
set_option linter.unusedVariables false
section
open Go
def tab:E.Tab:=[
 (2,.int .i64),
 (3,.int .i64),
 (4,.bool),
 (5,.int .u8),
 (6,.int .u8),
 (7,.struct 4 [(2,0,1),(3,1,1),(4,2,1),(6,3,1)]),
 (8,.struct 4 [(2,0,1),(3,1,1),(4,2,1),(6,3,1)]),
 (9,.string),
 (10,.string),
 (11,.string),
 (12,.int .u64),
 (13,.struct 2 [(9,0,1),(12,1,1)]),
 (14,.struct 2 [(9,0,1),(12,1,1)]),
 (15,.pointer),
 (16,.pointer),
 (17,.pointer),
 (18,.struct 1 [(17,0,1)]),
 (19,.struct 1 [(17,0,1)]),
 (20,.iface),
 (21,.int .i32),
 (22,.array 64 3 1),
 (23,.struct 69 [(22,0,64),(3,64,1),(3,65,1),(3,66,1),(3,67,1),(3,68,1)]),
 (24,.struct 69 [(22,0,64),(3,64,1),(3,65,1),(3,66,1),(3,67,1),(3,68,1)]),
 (25,.slice 36 3),
 (28,.slice 39 81),
 (35,.struct 3 [(3,0,1),(3,1,1),(3,2,1)]),
 (36,.struct 3 [(3,0,1),(3,1,1),(3,2,1)]),
 (38,.struct 81 [(36,0,3),(3,3,1),(9,4,1),(9,5,1),(9,6,1),(9,7,1),(9,8,1),(24,9,69),(9,78,1),(3,79,1),(3,80,1)]),
 (39,.struct 81 [(36,0,3),(3,3,1),(9,4,1),(9,5,1),(9,6,1),(9,7,1),(9,8,1),(24,9,69),(9,78,1),(3,79,1),(3,80,1)]),
 (42,.slice 9 1),
 (43,.slice 3 1),
 (50,.slice 4 1),
 (52,.int .u64),
 (60,.slice 104 2),
 (73,.slice 24 69),
 (78,.pointer),
 (79,.iface),
 (80,.iface),
 (83,.pointer),
 (85,.pointer),
 (92,.iface),
 (93,.iface),
 (103,.struct 2 [(9,0,1),(9,1,1)]),
 (104,.struct 2 [(9,0,1),(9,1,1)]),
 (111,.array 8 3 1),
 (125,.string),
 (126,.map),
 (127,.map),
 (128,.slice 42 1),
 (129,.int .u8),
 (130,.struct 8 [(83,0,1),(125,1,1),(127,2,1),(85,3,1),(85,4,1),(128,5,1),(129,6,1),(4,7,1)]),
 (131,.struct 8 [(83,0,1),(125,1,1),(127,2,1),(85,3,1),(85,4,1),(128,5,1),(129,6,1),(4,7,1)]),
 (132,.slice 141 11),
 (134,.slice 85 1),
 (135,.int .u16),
 (136,.int .u16),
 (137,.int .i8),
 (138,.int .i8),
 (139,.int .i8),
 (140,.struct 11 [(85,0,1),(83,1,1),(9,2,1),(9,3,1),(126,4,1),(134,5,1),(52,6,1),(136,7,1),(138,8,1),(138,9,1),(139,10,1)]),
 (141,.struct 11 [(85,0,1),(83,1,1),(9,2,1),(9,3,1),(126,4,1),(134,5,1),(52,6,1),(136,7,1),(138,8,1),(138,9,1),(139,10,1)]),
 (143,.pointer),
 (144,.struct 1 [(4,0,1)]),
 (145,.struct 1 [(4,0,1)]),
 (148,.struct 0 []),
 (149,.struct 0 []),
 (150,.struct 0 []),
 (151,.struct 0 []),
 (157,.slice 5 1),
 (158,.pointer),
 (159,.struct 2 [(158,0,1),(157,1,1)]),
 (160,.struct 2 [(158,0,1),(157,1,1)]),
 (161,.slice 163 2),
 (162,.struct 2 [(9,0,1),(9,1,1)]),
 (163,.struct 2 [(9,0,1),(9,1,1)]),
 (169,.pointer),
 (170,.string),
 (171,.int .i8),
 (172,.struct 8 [(169,0,1),(170,1,1),(132,2,1),(3,3,1),(3,4,1),(171,5,1),(138,6,1),(4,7,1)]),
 (173,.struct 8 [(169,0,1),(170,1,1),(132,2,1),(3,3,1),(3,4,1),(171,5,1),(138,6,1),(4,7,1)]),
 (180,.array 2 3 1),
 (181,.slice 122 1),
 (186,.struct 0 []),
 (194,.int .i8),
 (199,.int .i8),
 (204,.int .i8),
 (205,.slice 199 1),
 (209,.slice 171 1),
 (212,.int .i64),
 (221,.pointer),
 (231,.pointer),
 (232,.struct 1 [(9,0,1)]),
 (233,.struct 1 [(9,0,1)]),
 (234,.int .u64),
 (235,.int .u64),
 (236,.struct 17 [(235,0,1),(235,1,1),(235,2,1),(235,3,1),(235,4,1),(235,5,1),(235,6,1),(235,7,1),(235,8,1),(235,9,1),(235,10,1),(235,11,1),(235,12,1),(235,13,1),(235,14,1),(138,15,1),(138,16,1)]),
 (237,.struct 17 [(235,0,1),(235,1,1),(235,2,1),(235,3,1),(235,4,1),(235,5,1),(235,6,1),(235,7,1),(235,8,1),(235,9,1),(235,10,1),(235,11,1),(235,12,1),(235,13,1),(235,14,1),(138,15,1),(138,16,1)]),
 (243,.slice 194 1),
 (250,.slice 180 2),
 (255,.int .i64),
 (262,.int .u32),
 (269,.array 256 5 1),
 (271,.map),
 (272,.map),
 (273,.array 8 9 1),
 (280,.slice 138 1),
 (282,.array 64 235 1),
 (285,.slice 83 1),
 (287,.map),
 (289,.array 218 141 11),
 (291,.slice 139 1),
 (293,.array 1 141 11),
 (294,.array 2 141 11),
 (300,.array 7 5 1),
 (305,.int .u64),
 (309,.pointer),
 (312,.pointer),
 (316,.array 128 194 1),
 (319,.int .i64),
 (322,.pointer),
 (326,.array 8 235 1),
 (329,.array 24 5 1),
 (336,.pointer),
 (338,.slice 343 3),
 (339,.slice 346 3),
 (340,.struct 3 [(338,0,1),(339,1,1),(3,2,1)]),
 (341,.struct 3 [(338,0,1),(339,1,1),(3,2,1)]),
 (342,.struct 3 [(135,0,1),(135,1,1),(135,2,1)]),
 (343,.struct 3 [(135,0,1),(135,1,1),(135,2,1)]),
 (345,.struct 3 [(262,0,1),(262,1,1),(262,2,1)]),
 (346,.struct 3 [(262,0,1),(262,1,1),(262,2,1)]),
 (350,.struct 3 [(9,0,1),(9,1,1),(80,2,1)]),
 (351,.struct 3 [(9,0,1),(9,1,1),(80,2,1)]),
 (354,.array 20 234 1),
 (355,.array 65 5 1),
 (360,.slice 378 5),
 (361,.pointer),
 (362,.pointer),
 (364,.struct 2 [(5,0,1),(5,1,1)]),
 (365,.struct 2 [(5,0,1),(5,1,1)]),
 (366,.array 16 365 2),
 (370,.pointer),
 (373,.array 32 5 1),
 (374,.array 64 5 1),
 (375,.array 3 21 1),
 (376,.array 3 21 1),
 (377,.struct 5 [(262,0,1),(262,1,1),(376,2,3)]),
 (378,.struct 5 [(262,0,1),(262,1,1),(376,2,3)]),
 (379,.pointer),
 (380,.pointer),
 (381,.struct 4 [(17,0,1),(17,1,1),(17,2,1),(9,3,1)]),
 (382,.struct 4 [(17,0,1),(17,1,1),(17,2,1),(9,3,1)]),
 (383,.array 0 16 1),
 (386,.int .u8),
 (387,.int .u8),
 (389,.int .i32),
 (390,.int .i32),
 (391,.struct 11 [(12,0,1),(12,1,1),(262,2,1),(386,3,1),(5,4,1),(5,5,1),(387,6,1),(388,7,1),(221,8,1),(389,9,1),(390,10,1)]),
 (392,.struct 11 [(12,0,1),(12,1,1),(262,2,1),(386,3,1),(5,4,1),(5,5,1),(387,6,1),(388,7,1),(221,8,1),(389,9,1),(390,10,1)]),
 (393,.struct 8 [(9,0,1),(9,1,1),(9,2,1),(9,3,1),(9,4,1),(9,5,1),(9,6,1),(9,7,1)]),
 (394,.struct 8 [(9,0,1),(9,1,1),(9,2,1),(9,3,1),(9,4,1),(9,5,1),(9,6,1),(9,7,1)]),
 (399,.pointer),
 (402,.array 256 139 1),
 (403,.struct 2 [(9,0,1),(80,1,1)]),
 (404,.struct 2 [(9,0,1),(80,1,1)]),
 (405,.slice 80 1),
 (406,.struct 2 [(9,0,1),(405,1,1)]),
 (407,.struct 2 [(9,0,1),(405,1,1)])]
def a7x (f:Nat):Bool:=(Nat.ble 2 f&&Nat.blt f 229)||(Nat.ble 230 f&&Nat.blt f 260)||(Nat.ble 261 f&&Nat.blt f 321)||(Nat.ble 341 f&&Nat.blt f 342)||(Nat.ble 343 f&&Nat.blt f 350)||(Nat.ble 351 f&&Nat.blt f 352)
theorem c0f:tab.all (fun x=>E.okD Tryz.prog x.1 x.2)=true:=by kernel_rfl
noncomputable def b77 (f:Nat):Bool:=match Tryz.prog.funcs[f]? with
 | some x=>x.body.isSome && !decide (x.name = "runtime.NumGoroutine")
 | none=>false
theorem b78:(List.range 365).all (fun f=>!a7x f||b77 f)=true:=by kernel_rfl
theorem b79:Tryz.prog.follows .mixedOrders=true:=by kernel_rfl
theorem b3n (f:Nat) (h:a7x f=true):f<365:=by
 unfold a7x at h;simp only [zj,zP,Nat.ble_eq,Nat.blt_eq] at h;omega
noncomputable def G:E.Prg where
 P:=Tryz.prog
 T:=tab
 fn:=a7x
 tab:=E.Tab.ok_of _ _ c0f
 mixed:=b79
 enters:=by
  intro f hf;have h:=zl.1 b78 f (yl.2 (b3n f hf));simp only [hf,xw,xc] at h;unfold b77 at h;split at h
  ·rename_i x hx;simp only [zP,zc,zZ] at h;exact ⟨x,hx,h.1,h.2⟩
  ·cases h
end
section
open Go Go.RowKit
open E
def Cl (w1 w:World):Prop:=Below w1.heap.size w1 w
theorem Cl.refl (w:World):Cl w w:=Below.refl _ _
theorem Cl.drew {w1 w:World} (h:Cl w1 w):Cl w1 w.drew:=Below.drew h
theorem Cl.step {w1 w w':World} (h:Cl w1 w) (h':Below w.heap.size w w'):Cl w1 w':=Below.trans h (h'.mono h.size)
theorem Cl.trans {w1 w w':World} (h:Cl w1 w) (h':Cl w w'):Cl w1 w':=h.step h'
theorem Cl.blk {w1 w:World} (h:Cl w1 w) {b:Nat} {o:Obj} (hb:w1.heap[b]?=some o):w.heap[b]?=some o:=by
 rw [h.block b ((yh.1 hb).1),hb]
theorem d9 (w:World) (o:Obj):(w.alloc o).heap[w.heap.size]?=some o:=by
 show (w.heap.push o)[w.heap.size]?=some o;simp
theorem B0 (w:World) (o:Obj):(w.alloc o).heap.size=w.heap.size+1:=by
 show (w.heap.push o).size=_;simp
theorem Cl.alloc (w:World) (o:Obj):Cl w (w.alloc o):=(Below.refl _ _).alloc (yJ _) o
def N2 (v:Value) (w:World):Ending→World→Prop:=fun e w'=>e = .returned v∧Cl w w'
def E5 (v:Value) (w:World):Ending→World→Prop:=fun e w'=>e = .returned v∧w'=w
theorem N2.of {v:Value} {w:World} {e:Ending} {w':World} (h:E5 v w e w'):N2 v w e w':=⟨h.1,by rw [h.2];exact Cl.refl _⟩
theorem E2 {C:World→Prop} {f:Nat} {args:Array Value} {K:Value→Prop} (v:Value) (hC:∀ w w',C w→Cl w w'→C w')
  (h:∀ w,C w→Calls G.P f args w (N2 v w)) (hk:q8 v K):b4E G.P C f args (fun v=>q8 v K) :=
 ⟨v,fun w hw=>(h w hw).mono fun _ _ hr=>⟨hr.1,hC _ _ hw hr.2⟩,hk⟩
theorem m8 {C:World→Prop} {f:Nat} {args:Array Value} {K:Value→Prop} (v:Value)
  (h:∀ w,C w→Calls G.P f args w (E5 v w)) (hk:q8 v K):b4E G.P C f args (fun v=>q8 v K) :=
 ⟨v,fun w hw=>(h w hw).mono fun _ _ hr=>⟨hr.1,by rw [hr.2];exact hw⟩,hk⟩
theorem m7 {C:World→Prop} {t:Nat} {a:Addr} {K:Value→Prop} (v:Value) (h:∀ w,C w→g8 G.P w t a v) (hk:q8 v K):O8 G.P C t a (fun v=>q8 v K) :=
 ⟨v,h,hk⟩
theorem o7 {w:World} {f:Nat} {args:Array Value} {K:Value→World→Prop} {R:Ending→World→Prop} (h:Calls G.P f args w R) (hk:∀ e w',R e w'→∃ v,e = .returned v∧K v w'):b1w G.P f args w K :=
 ⟨h.mono hk⟩
theorem o9 {w:World} {f:Nat} {args:Array Value} {K:Value→World→Prop} {v:Value} (h:Calls G.P f args w (N2 v w)) (hk:∀ w',Cl w w'→K v w'):b1w G.P f args w K :=
 ⟨h.mono fun _ w' hr=>⟨v,hr.1,hk w' hr.2⟩⟩
theorem l8 {w:World} {f:Nat} {args:Array Value} {K:Value→World→Prop} {v:Value} (h:Calls G.P f args w (E5 v w)) (hk:K v w):b1w G.P f args w K :=
 ⟨h.mono fun _ w' hr=>⟨v,hr.1,by rw [hr.2];exact hk⟩⟩
def a7X:Option D→Bool
 | some (.array ..)|some (.struct ..)|none=>false
 | _=>true
theorem c0g {t:Nat} {d:D} (hd:U5 G.T t=some d) (h1:a7X (some d)=true) (w:World):(isAgg t).run G.P w = .ok false w:=by
 have h:=G.tab _ _ hd;unfold isAgg;cases d<;>simp [a7X] at h1<;>simp only [okD] at h
 case slice=>obtain ⟨h,_⟩:=a3S (G.tab _ _ hd);simp [run_underlying h]
 all_goals
  split at h
  ·rename_i hu;simp [run_underlying hu]
  ·cases h
theorem C9 {w:World} {b i:Nat} {cs:Array Value} {t:Nat} {fz:Nat×Nat} (hb:w.heap[b]?=some (.cells cs t fz)):w.cell? ⟨b,i,none⟩=cs[i]?:=by
 simp [World.cell?,hb]
theorem ld1 {w:World} {t b i:Nat} {v:Value} (ht:a7X (U5 G.T t)=true) (hc:w.cell? ⟨b,i,none⟩=some v):g8 G.P w t ⟨b,i,none⟩ v:=by
 cases hd:U5 G.T t with
 | none=>rw [hd] at ht;cases ht
 | some d =>
  rw [hd] at ht;unfold g8 Instr.loadAt loadVar;simp [Instr.sureAddr,c0g hd ht w,hc]
theorem L5 {w:World} {t b i:Nat} {v:Value} {cs:Array Value} {u:Nat} {fz:Nat×Nat} (hb:w.heap[b]?=some (.cells cs u fz)) (hi:cs[i]?=some v) (ht:a7X (U5 G.T t)=true):g8 G.P w t ⟨b,i,none⟩ v :=
 ld1 ht (by rw [C9 hb,hi])
end
section
structure l9 where
 board:List Int
 len:board.length=64
 turn:Int
 castle:Int
 ep:Int
 half:Int
 full:Int
structure Mv where
 fr:Int
 to:Int
 promo:Int
 deriving DecidableEq
namespace Ch
def d6 (x:Int):Int:=if x>6 then x-6 else x
def y9 (x:Int):Int:=if x>6 then 1 else 0
def o4 (s:Int):Int:=s%8
def k9 (s:Int):Int:=s/8
def I9 (f r:Int):Int:=if f<0∨f>7∨r<0∨r>7 then -1 else 8*r+f
def up (s:Int):Int:=1-2*s
def sign (n:Int):Int:=if n<0 then -1 else if n>0 then 1 else 0
def sq (p:l9) (i:Int):Int:=p.board.getD i.toNat 0
def free (p:l9) (i way:Int):Nat→Bool
 | 0=>true
 | n+1=>sq p (i+way)==0&&free p (i+way) way n
def a5Y (f r:Int):Nat:=(max f.natAbs r.natAbs)-1
def a3q (p:l9) (fr to:Int):Bool :=
 let f:=o4 to-o4 fr;let r:=k9 to-k9 fr;let k:=d6 (sq p fr)
 if fr=to∨sq p fr=0 then false
 else if k=1 then decide (f*f≤1)&&decide (r*r≤1)
 else if k=5 then decide (f*f+r*r=5)
 else if k=6 then decide (f*f=1)&&decide (r=up (y9 (sq p fr)))
 else
  let straight:=(decide (f=0)||decide (r=0)) && !decide (k=4)
  let slanting:=(decide (f=r)||decide (f=-r)) && !decide (k=3)
  if !straight && !slanting then false else free p fr (sign f+8*sign r) (a5Y f r)
def a04 (f:Nat→Bool):Nat→Bool
 | 0=>false
 | n+1=>a04 f n||f n
def H1 (f:Nat→Bool):Nat→Nat
 | 0=>0
 | n+1=>H1 f n+(if f n then 1 else 0)
def Z2 (f:Nat→Bool):Nat→Option Nat
 | 0=>none
 | n+1=>match Z2 f n with
  | some i=>some i
  | none=>if f n then some n else none
theorem a3r (f:Nat→Bool) (n:Nat):a04 f n=true↔∃ i,i<n∧f i=true:=by
 induction n with
 | zero=>simp [a04]
 | succ n ih =>
  simp only [a04,zj,ih];constructor
  ·rintro (⟨i,h1,h2⟩|h)
   ·exact ⟨i,zo,h2⟩
   ·exact ⟨n,zo,h⟩
  ·rintro ⟨i,h1,h2⟩;by_cases hi:i=n
   ·subst hi;exact .inr h2
   ·exact .inl ⟨i,zo,h2⟩
theorem a3X {f:Nat→Bool} {n i:Nat} (h:i<n) (hf:f i=true):a04 f n=true:=(a3r f n).2 ⟨i,h,hf⟩
theorem b05 (f:Nat→Bool) (n:Nat):H1 f n≤n:=by
 induction n with
 | zero=>simp [H1]
 | succ n ih=>simp only [H1];split<;>omega
theorem a94 {f:Nat→Bool} {n i:Nat} (h:Z2 f n=some i):i<n∧f i=true:=by
 induction n with
 | zero=>cases h
 | succ n ih =>
  unfold Z2 at h;split at h
  ·rename_i j hj;cases h;have:=ih hj;exact ⟨zo,this.2⟩
  ·split at h
   ·cases h;rename_i hf;exact ⟨zo,hf⟩
   ·cases h
theorem b5J {f:Nat→Bool} {k n:Nat} (h:Z2 f k=none) (hf:f k=true) (hk:k<n):Z2 f n=some k:=by
 induction n with
 | zero=>omega
 | succ n ih =>
  unfold Z2;by_cases hkn:k=n
  ·subst hkn;simp [h,hf]
  ·rw [ih zo]
def count (p:l9) (kind side:Int):Nat:=H1 (fun i=>decide (sq p i=kind+6*side)) 64
def z8 (p:l9) (side:Int):Int:=match Z2 (fun i=>decide (sq p i=1+6*side)) 64 with
 | some i=>i
 | none=>-1
theorem W2 (p:l9) (side:Int):-1≤z8 p side∧z8 p side≤63:=by
 unfold z8;split
 ·rename_i i hi;have:=(a94 hi).1;omega
 ·omega
def a3f (p:l9) (s:Int) (by':Int) (i:Nat):Bool:=!decide (sq p i=0)&&decide (y9 (sq p i)=by')&&a3q p i s
def B7 (p:l9) (s:Int) (by':Int):Bool:=a04 (a3f p s by') 64
def checked (p:l9) (side:Int):Bool:=decide (0≤z8 p side)&&B7 p (z8 p side) (1-side)
def o5 (p:l9):Bool:=checked p p.turn
def A2 (right:Int):Int:=I9 4 (7*(right/2))
def C0 (right:Int):Int:=if right%2=0 then I9 7 (7*(right/2)) else I9 0 (7*(right/2))
def U2 (n:Int) (i:Nat):Bool:=n.toNat.testBit i
def U9 (p:l9):Nat→Int
 | 0=>0
 | n+1=>U9 p n+(if U2 p.castle n&&decide (sq p (A2 n)=1+6*((n:Int)/2))&&decide (sq p (C0 n)=3+6*((n:Int)/2)) then (2:Int)^n else 0)
def rights (p:l9):Int:=U9 p 4
def L6 (p:l9):Bool :=
 if p.ep<0∨63<p.ep then decide (p.ep=-1) else
 let up:=1-2*p.turn;let f:=o4 p.ep;let r:=k9 p.ep
 if r≠5-3*p.turn∨sq p p.ep≠0 then false else
 decide (sq p (I9 f (r-up))=6+6*(1-p.turn))&&decide (sq p (I9 f (r+up))=0)
def I4 (p:l9) (i:Nat):Bool:=!(decide (sq p i<0)||decide (12<sq p i)||(decide (d6 (sq p i)=6) && !decide (sq p i=0)&&(decide (k9 i=0)||decide (k9 i=7))))
def valid (p:l9):Bool :=
 !a04 (fun i=>!I4 p i) 64 &&
 !((!decide (p.turn=0) && !decide (p.turn=1))||decide (p.castle<0)||decide (15<p.castle)||decide (p.half<0)||decide (p.full<1)) &&
 !(!decide (count p 1 0=1) || !decide (count p 1 1=1) || !decide (rights p=p.castle) || !L6 p) &&
 !B7 p (z8 p (1-p.turn)) p.turn
end Ch
end
section
open Go Go.RowKit
open E
def V0 (p:l9):List Value:=p.board.map (Value.int .i64)++[.int .i64 p.turn,.int .i64 p.castle,.int .i64 p.ep,.int .i64 p.half,.int .i64 p.full]
def s7 (p:l9):Array Value:=(V0 p).toArray
def D3 (p:l9):Value:=.agg (s7 p)
def S8 (m:Mv):Array Value:=#[.int .i64 m.fr,.int .i64 m.to,.int .i64 m.promo]
def mvV (m:Mv):Value:=.agg (S8 m)
theorem A0 (p:l9):(s7 p).size=69:=by simp [s7,V0,p.len]
theorem a3Y (p:l9) (i:Nat) (h:i<64):(s7 p)[i]?=some (.int .i64 (Ch.sq p i)):=by
 have hl:i<(p.board.map (Value.int .i64)).length:=by simp [p.len,h]
 have h2:i<p.board.length:=by rw [p.len];exact h
 simp only [s7,V0,List.getElem?_toArray];rw [List.getElem?_append_left hl,List.getElem?_map];simp [Ch.sq,yr,h2]
theorem W3 (p:l9) (i:Nat) (h:64≤i):(s7 p)[i]?=([.int .i64 p.turn,.int .i64 p.castle,.int .i64 p.ep,.int .i64 p.half,.int .i64 p.full]:List Value)[i-64]?:=by
 simp only [s7,V0,List.getElem?_toArray];rw [List.getElem?_append_right (by simp [p.len];exact h)]
 simp [p.len]
theorem b06 {p:l9} {w:World} {b t i:Nat} {fz:Nat×Nat} (hb:w.heap[b]?=some (.cells (s7 p) t fz)) (m:Int) (h0:0≤m) (h1:m<64) (hi:i=m.toNat) :
  g8 G.P w 3 ⟨b,i,none⟩ (.int .i64 (Ch.sq p m)):=by
 subst hi;refine L5 hb ?_ rfl;rw [a3Y p _ zo,zi h0]
theorem O4 {p:l9} {w:World} {b t:Nat} {fz:Nat×Nat} (hb:w.heap[b]?=some (.cells (s7 p) t fz)) (m:Int) (h0:0≤m) (h1:m<64) :
  g8 G.P w 3 ⟨b,E.J0 0 m.toNat 1,none⟩ (.int .i64 (Ch.sq p m)):=b06 hb m h0 h1 rfl
theorem E9 {p:l9} {w:World} {b t:Nat} {fz:Nat×Nat} (hb:w.heap[b]?=some (.cells (s7 p) t fz)):g8 G.P w 3 ⟨b,64,none⟩ (.int .i64 p.turn):=L5 hb (by rw [W3 p _ zd];rfl) rfl
theorem a2w {p:l9} {w:World} {b t:Nat} {fz:Nat×Nat} (hb:w.heap[b]?=some (.cells (s7 p) t fz)):g8 G.P w 3 ⟨b,65,none⟩ (.int .i64 p.castle):=L5 hb (by rw [W3 p _ zd];rfl) rfl
theorem a4G {p:l9} {w:World} {b t:Nat} {fz:Nat×Nat} (hb:w.heap[b]?=some (.cells (s7 p) t fz)):g8 G.P w 3 ⟨b,66,none⟩ (.int .i64 p.ep):=L5 hb (by rw [W3 p _ zd];rfl) rfl
theorem a7Y {p:l9} {w:World} {b t:Nat} {fz:Nat×Nat} (hb:w.heap[b]?=some (.cells (s7 p) t fz)):g8 G.P w 3 ⟨b,67,none⟩ (.int .i64 p.half):=L5 hb (by rw [W3 p _ zd];rfl) rfl
theorem a5Z {p:l9} {w:World} {b t:Nat} {fz:Nat×Nat} (hb:w.heap[b]?=some (.cells (s7 p) t fz)):g8 G.P w 3 ⟨b,68,none⟩ (.int .i64 p.full):=L5 hb (by rw [W3 p _ zd];rfl) rfl
theorem a9o {w:World} {b:Nat} {cs:Array Value} {u:Nat} {fz:Nat×Nat} (hb:w.heap[b]?=some (.cells cs u fz)) :
  ∀ (n i o:Nat) (acc:Array Value),o+i+n≤cs.size→(loadCellsFrom ⟨b,o,none⟩ i n acc).run G.P w = .ok (acc++cs.extract (o+i) (o+i+n)) w:=by
 intro n
 induction n with
 | zero=>intro i o acc _;simp [loadCellsFrom];omega
 | succ n ih =>
  intro i o acc h;unfold loadCellsFrom;have hc:w.cell? ((⟨b,o,none⟩:Addr).add i)=some cs[o+i]:=by
   rw [E3,C9 hb,wJ]
  simp only [yj,run_load,hc,yp];rw [ih (i+1) o _ zo];congr 1;rw [Array.push_eq_append,Array.append_assoc];congr 1;have:cs.extract (o+i) (o+i+(n+1))=#[cs[o+i]]++cs.extract (o+i+1) (o+i+(n+1)):=by
   apply Array.ext
   ·simp;omega
   ·intro j h1 h2;cases j with
    | zero=>simp
    | succ j=>simp;congr 1;omega
  rw [this];congr 2<;>omega
theorem ldA {w:World} {t b o z:Nat} {cs:Array Value} {u:Nat} {fz:Nat×Nat} (hb:w.heap[b]?=some (.cells cs u fz)) (ht:(match U5 G.T t with|some (.struct z' _)=>decide (z'=z)|some (.array n _ z')=>decide (n*z'=z)|_=>false)=true) (hz:o+z≤cs.size) :
  g8 G.P w t ⟨b,o,none⟩ (.agg (cs.extract o (o+z))):=by
 unfold g8 Instr.loadAt loadVar;have h:(isAgg t).run G.P w = .ok true w∧(sizeOf t).run G.P w = .ok z w:=by
  split at ht
  ·rename_i z' fs hd;obtain ⟨f,h1,h2,_⟩:=a1z (G.tab _ _ hd);rw [yB ht] at h2;exact ⟨by unfold isAgg;simp [run_underlying h1],E.U6 h2⟩
  ·rename_i n el z' hd;obtain ⟨h1,_,h3⟩:=a3T (G.tab _ _ hd);rw [yB ht] at h3;exact ⟨by unfold isAgg;simp [run_underlying h1],E.U6 h3⟩
  ·cases ht
 have:=a9o hb z 0 o #[] zo;simp only [Nat.add_zero,Array.empty_append] at this;simp [Instr.sureAddr,h.1,h.2,loadCells,this]
theorem A3 {p:l9} {w:World} {b:Nat} {u:Nat} {fz:Nat×Nat} (hb:w.heap[b]?=some (.cells (s7 p) u fz)):g8 G.P w 24 ⟨b,0,none⟩ (D3 p):=by
 have:=ldA (t:=24) (o:=0) (z:=69) hb rfl (by rw [A0];decide)
 rw [show (s7 p).extract 0 (0+69)=s7 p by rw [← A0 p];simp] at this
 exact this
theorem a0f {m:Mv} {w:World} {b:Nat} {u:Nat} {fz:Nat×Nat} (hb:w.heap[b]?=some (.cells (S8 m) u fz)):g8 G.P w 36 ⟨b,0,none⟩ (mvV m):=by
 have:=ldA (t:=36) (o:=0) (z:=3) hb rfl (by simp [S8])
 exact this
theorem N7 {m:Mv} {w:World} {b t:Nat} {fz:Nat×Nat} (hb:w.heap[b]?=some (.cells (S8 m) t fz)):g8 G.P w 3 ⟨b,0,none⟩ (.int .i64 m.fr):=L5 hb rfl rfl
theorem a0w {m:Mv} {w:World} {b t:Nat} {fz:Nat×Nat} (hb:w.heap[b]?=some (.cells (S8 m) t fz)):g8 G.P w 3 ⟨b,1,none⟩ (.int .i64 m.to):=L5 hb rfl rfl
theorem a0k {m:Mv} {w:World} {b t:Nat} {fz:Nat×Nat} (hb:w.heap[b]?=some (.cells (S8 m) t fz)):g8 G.P w 3 ⟨b,2,none⟩ (.int .i64 m.promo):=L5 hb rfl rfl
structure F0 (t e size bytes:Nat):Prop where
 ty:G.P.underlying t=some (.slice e)
 info:∃ i z,G.P.info? e=some i∧i.zero=some z∧i.size=size∧i.bytes=bytes∧z.cells.size=size
 pos:0<size
noncomputable def c2c (t e size bytes:Nat):Bool :=
 (match G.P.underlying t with|some (.slice e')=>Nat.beq e' e|_=>false) &&
 (match G.P.info? e with|some i=>(match i.zero with|some z=>Nat.beq i.size size&&Nat.beq i.bytes bytes&&Nat.beq z.cells.size size|none=>false)|none=>false)&&Nat.blt 0 size
theorem T7 {t e size bytes:Nat} (h:c2c t e size bytes=true):F0 t e size bytes:=by
 simp only [c2c,zP] at h;obtain ⟨⟨h1,h2⟩,h3⟩:=h;refine ⟨?_,?_,by simpa using h3⟩
 ·split at h1
  ·rename_i e' he;rw [he,zu h1]
  ·cases h1
 ·split at h2
  ·rename_i i hi;split at h2
   ·rename_i z hz;simp only [zP] at h2;exact ⟨i,z,hi,hz,zu h2.1.1,zu h2.1.2,zu h2.2⟩
   ·cases h2
  ·cases h2
theorem a3s:F0 43 3 1 8:=T7 zk
theorem a7Z:F0 25 36 3 24:=T7 zk
def Row {α:Type} (e z:Nat) (enc:α→List Value) (b0:Nat) (w:World) (v:Value) (l:List α):Prop :=
 w.ownsRow b0 e z v l.length (l.flatMap enc)
def P1 (n:Int):List Value:=[.int .i64 n]
def J3 (m:Mv):List Value:=[.int .i64 m.fr,.int .i64 m.to,.int .i64 m.promo]
section row
variable {α:Type} {e z b0:Nat} {enc:α→List Value} {w w':World} {v:Value} {l:List α}
theorem Row.nil (w:World) (b0:Nat):Row e z enc b0 w (.slice none 0 0) []:=⟨by simp,.inl ⟨rfl,rfl⟩⟩
theorem Row.step (h:Row e z enc b0 w v l) (hc:Cl w w'):Row e z enc b0 w' v l:=by
 refine ⟨h.1,?_⟩;rcases h.2 with h2|⟨g,cap,cur,h1,h2,h3,h4⟩
 ·exact .inl h2
 ·exact .inr ⟨g,cap,cur,h1,h2,hc.blk h3,h4⟩
theorem Row.mono (h:Row e z enc b0 w v l) {b1:Nat} (hb:b1≤b0):Row e z enc b1 w v l:=by
 refine ⟨h.1,?_⟩;rcases h.2 with h2|⟨g,cap,cur,h1,h2,h3,h4⟩
 ·exact .inl h2
 ·exact .inr ⟨g,cap,cur,h1,zo,h3,h4⟩
theorem a3t (henc:∀ x,(enc x).length=z):∀ (l:List α) (i k:Nat) (hi:i<l.length),k<z→(l.flatMap enc)[i*z+k]?=(enc l[i])[k]?:=by
 intro l
 induction l with
 | nil=>intro i k hi;simp at hi
 | cons x r ih =>
  intro i k hi hk;rw [xZ];cases i with
  | zero=>rw [List.getElem?_append_left (by rw [henc];omega)];simp
  | succ i =>
   rw [List.getElem?_append_right (by rw [henc,wA];omega)]
   rw [henc,show (i+1)*z+k-z=i*z+k by rw [wA];omega]
   rw [ih i k (by simpa using hi) hk];simp
theorem Row.form (h:Row e z enc b0 w v l):∃ a c,v = .slice a l.length c∧(0<l.length→∃ g,a=some ⟨g,0,none⟩):=by
 rcases h.2 with ⟨h1,h2⟩|⟨g,cap,cur,h1,_⟩
 ·exact ⟨none,0,by rw [h1,h2],zo⟩
 ·exact ⟨_,cap,h1,fun _=>⟨g,rfl⟩⟩
theorem Row.get {g c n:Nat} (h:Row e z enc b0 w (.slice (some ⟨g,0,none⟩) n c) l) (henc:∀ x,(enc x).length=z) (i k:Nat) (hi:i<l.length) (hk:k<z) :
  ∃ cur,w.heap[g]?=some (.cells cur e (0,0))∧cur[i*z+k]?=(enc l[i])[k]?:=by
 rcases h.2 with ⟨h1,h2⟩|⟨g',cap,cur,h1,h2,h3,h4,h5,h6,h7⟩
 ·cases h1
 ·injection h1 with e1 e2 e3;injection e1 with e1;injection e1 with e1 _ _;subst e1;subst e3;refine ⟨cur,h3,?_⟩;rw [← a3t henc l i k hi hk,← h7,xe,zM,xB];have:(i+1)*z≤l.length*z:=xQ _ zo;rw [wA] at this;omega
theorem Row.getAll {g c n:Nat} (h:Row e z enc b0 w (.slice (some ⟨g,0,none⟩) n c) l) (henc:∀ x,(enc x).length=z) (i:Nat) (hi:i<l.length) :
  ∃ cur,w.heap[g]?=some (.cells cur e (0,0))∧i*z+z≤cur.size∧cur.extract (i*z) (i*z+z)=(enc l[i]).toArray:=by
 rcases h.2 with ⟨h1,h2⟩|⟨g',cap,cur,h1,h2,h3,h4,h5,h6,h7⟩
 ·cases h1
 ·injection h1 with e1 e2 e3;injection e1 with e1;injection e1 with e1 _ _;subst e1;subst e3;have hle:(i+1)*z≤l.length*z:=xQ _ zo;rw [wA] at hle;have hsz:l.length*z≤cur.size:=by rw [h6];exact xQ _ h4
  refine ⟨cur,h3,zo,?_⟩;apply xP.1;apply List.ext_getElem?;intro k;by_cases hk:k<z
  ·rw [← a3t henc l i k hi hk,← h7,xe,zM zo];simp [xB,hk]
  ·rw [xH (by simp;omega),xH (by simp [henc];omega)]
end row
theorem G2 {t e z b:Nat} (E1:F0 t e z b) (vs:List Value) {dst:Option Nat} {parts:Array (Nat×Operand)} {n ty:Nat} {pos:String} {af:Array Edge} {gd:Option (Nat×Bool)} {env:C8} {w:World} {K:Value→World→Prop}
  (hp:(parts.map fun (i,x)=>(i,ev env x)).toList=(vs.zipIdx 0).map fun x=>(x.2,x.1)) (hz:∀ v∈vs,v.cells.size=z) (hl:vs.length=n) (hn:0<n) (hb:n*z≤1000)
  (h:K (.slice (some ⟨w.heap.size,0,none⟩) n n) (w.alloc (.cells (vs.flatMap fun v=>v.cells.toList).toArray e))) :
  H4 G.P { dst,op:=.buildSlice t n parts,type:=ty,pos,after:=af,guard:=gd } env w K:=by
 refine ⟨.inl ⟨_,_,?_,h⟩⟩;obtain ⟨i,zv,hi,hzv,hsz,hby,hzs⟩:=E1.info;have hpz:=E1.pos;subst hsz;have hne:n*i.size≠0:=Nat.mul_ne_zero zo zo;show (do pure (Next.value (← Instr.buildSlice t n (parts.map fun (i,x)=>(i,ev env x)))):Sem Next).run G.P w=_
 have h2:=run_buildSlice (P:=G.P) w t e n (parts.map fun (i,x)=>(i,ev env x)) _ i zv E1.ty hi hzv zo hne (by rw [hp];exact Go.Great.fill_whole hpz vs _ hz (by simp [hl]))
 rw [yj,h2];rfl
theorem c0h {α:Type} {t e z b:Nat} (E1:F0 t e z b) {enc:α→List Value} {b0:Nat} {v:Value} {l news:List α} {dst:Option Nat} {s x:Operand} {ty:Nat} {pos:String} {af:Array Edge} {gd:Option (Nat×Bool)} {env:C8} {w:World} {K:Value→World→Prop}
  {B c:Nat} {fz:Nat×Nat} {u:Nat} {cs:Array Value}
  (hs:ev env s=v) (hrow:Row e z enc b0 w v l) (hx:ev env x = .slice (some ⟨B,0,none⟩) news.length c) (hB:w.heap[B]?=some (.cells cs u fz)) (hcs:cs.toList=news.flatMap enc) (henc:∀ x,(enc x).length=z)
  (hone:∀ x,∀ u∈enc x,u.oneCell'=true) (hlen:l.length+news.length≤100000) (hbz:b≤1000) (hb0:b0≤w.heap.size)
  (h:∀ v' w',Row e z enc b0 w' v' (l++news)→(∀ w0,w0.heap.size=b0→Cl w0 w→Cl w0 w')→K v' w') :
  H4 G.P { dst,op:=.call { callee:=.builtin .append,args:=#[s,x],argTypes:=#[t,t] },type:=ty,pos,after:=af,guard:=gd } env w K:=by
 obtain ⟨i,zv,hi,hzv,hsz,hby,hzs⟩:=E1.info;obtain ⟨v',w',h1,h2,h3,_⟩:=run_append_own (P:=G.P) w b0 t ty e i zv z b E1.ty hi hzv hsz hby hzs E1.pos v l.length (l.flatMap enc) hrow ⟨B,0,none⟩ news.length c (news.flatMap enc)
  (by clear hcs hx h hlen;induction news with
   | nil=>simp
   | cons x r ih=>rw [xZ,zF,henc,ih,zh,wA];omega)
  (fun j u' hu=>by
   rw [E3,C9 hB,yW,← xB,hcs];exact hu)
  (fun u hu=>by obtain ⟨x,_,hx⟩:=xM.1 hu;exact hone x u hx)
  (by unfold maxLen;omega) (by
   have:(l.length+news.length)*b≤100000*1000:=Nat.mul_le_mul hlen hbz;omega) hb0
 refine ⟨.inl ⟨v',w',?_,h v' w' ⟨h2.1 |> fun _=>?_,?_⟩ fun w0 hw0 hc=>?_⟩⟩
 ·simp only [execOp,resolve,invoke,builtin,yj,xY,yp,xO,yQ,xb,hs,hx,h1]
 ·have:=h2.1;simpa using this
 ·have:=h2.2;simpa using this
 ·subst hw0;refine Below.grown hc h3 hb0 fun k hk=>?_;rcases hrow.2 with ⟨e1,_⟩|⟨g,cap,cur,e1,e2,_⟩
  ·rw [e1] at hk;cases hk
  ·rw [e1] at hk;injection hk with hk;subst hk;exact e2
end
section
namespace Ch
def put (p:l9) (i x:Int):l9:={ p with board:=p.board.set i.toNat x,len:=by simp [p.len] }
@[simp] theorem c4d (p:l9) (i x:Int):(put p i x).turn=p.turn:=rfl
@[simp] theorem c2E (p:l9) (i x:Int):(put p i x).castle=p.castle:=rfl
@[simp] theorem c5x (p:l9) (i x:Int):(put p i x).ep=p.ep:=rfl
@[simp] theorem c4e (p:l9) (i x:Int):(put p i x).half=p.half:=rfl
@[simp] theorem c4f (p:l9) (i x:Int):(put p i x).full=p.full:=rfl
theorem a2J (p:l9) (i x j:Int) (h0:0≤i) (h1:i<64) (h2:0≤j):sq (put p i x) j=if i=j then x else sq p j:=by
 unfold sq put;simp only [yr,List.getElem?_set];by_cases h:i=j
 ·subst h;rw [zM rfl,zM rfl,zM (by rw [p.len];omega)];rfl
 ·rw [zJ zo,zJ h]
def straight:List (Int×Int):=[(0,1),(1,0),(0,-1),(-1,0)]
def slanting:List (Int×Int):=[(1,1),(1,-1),(-1,-1),(-1,1)]
def jumps:List (Int×Int):=[(1,2),(2,1),(2,-1),(1,-2),(-1,-2),(-2,-1),(-2,1),(-1,2)]
def a7i (k:Int):List (Int×Int):=if k=1∨k=2 then straight++slanting else if k=3 then straight else if k=4 then slanting else jumps
def far (k:Int):Bool:=decide (k=2)||decide (k=3)||decide (k=4)
def ray (p:l9) (fr dx dy:Int) (far:Bool):Nat→Nat→List Int
 | 0,_=>[]
 | k+1,n =>
  let to:=I9 (o4 fr+n*dx) (k9 fr+n*dy)
  if to<0 then [] else if !far || !decide (sq p to=0) then [to] else to::ray p fr dx dy far k (n+1)
def a5r (p:l9) (fr:Int):List Int:=(a7i (d6 (sq p fr))).flatMap fun d=>ray p fr d.1 d.2 (far (d6 (sq p fr))) 7 1
def a1T (fr side d:Int):List Int:=if 0≤I9 (o4 fr+d) (k9 fr+up side) then [I9 (o4 fr+d) (k9 fr+up side)] else []
def K2 (fr side:Int):List Int:=a1T fr side (-1)++a1T fr side 1
def I5 (p:l9) (side to:Int):Bool :=
 (!decide (sq p to=0) && !decide (y9 (sq p to)=side))||(decide (sq p to=0)&&decide (to=p.ep)&&decide (k9 to=5-3*side))
def V3 (p:l9) (fr side:Int):List Int :=
 let one:=I9 (o4 fr) (k9 fr+up side)
 if 0≤one∧sq p one=0 then
  let two:=I9 (o4 fr) (k9 fr+2*up side)
  if k9 fr=1+5*side∧sq p two=0 then [one,two] else [one]
 else []
def S3 (p:l9) (fr:Int):List Int :=
 let side:=y9 (sq p fr)
 V3 p fr side++(K2 fr side).filter (I5 p side)
def a2K (p:l9) (right:Int):Bool :=
 let k:=A2 right;let r:=C0 right;let way:Int:=if r<k then -1 else 1
 !B7 p (k+way) (1-p.turn)&&free p k way (a5Y (r-k) 0)
def a1p (p:l9) (right:Nat):Bool :=
 U2 (rights p) right && !B7 p (A2 right) (1-p.turn)&&a2K p right
def p8 (right:Int):Mv:=⟨A2 right,A2 right+2*(if C0 right<A2 right then -1 else 1),0⟩
def S4 (p:l9) (right:Nat):List Mv:=if a1p p right then [p8 right] else []
def a1c (p:l9):List Mv:=S4 p (2*p.turn).toNat++S4 p ((2*p.turn).toNat+1)
def a3u (fr to:Int):List Mv:=[⟨fr,to,2⟩,⟨fr,to,3⟩,⟨fr,to,4⟩,⟨fr,to,5⟩]
def K8 (p:l9) (fr to:Int):List Mv :=
 if sq p to≠0∧y9 (sq p to)=p.turn then []
 else if d6 (sq p fr)≠6∨k9 to≠7-7*p.turn then [⟨fr,to,0⟩] else a3u fr to
def Y0 (p:l9) (fr:Int):List Int:=if d6 (sq p fr)=6 then S3 p fr else a5r p fr
def P2 (p:l9) (fr:Int):List Mv:=if sq p fr=0∨y9 (sq p fr)≠p.turn then [] else (Y0 p fr).flatMap (K8 p fr)
def J5 (p:l9):Nat→List Mv
 | 0=>[]
 | n+1=>J5 p n++P2 p n
def a2L (p:l9):List Mv:=J5 p 64++a1c p
def C1 (p:l9) (m:Mv):Bool:=!decide (sq p m.to=0)||(decide (d6 (sq p m.fr)=6) && !decide (o4 m.fr=o4 m.to))
def F3 (p:l9) (m:Mv):Int:=if sq p m.to≠0 then m.to else if C1 p m then I9 (o4 m.to) (k9 m.fr) else -1
def V4 (p:l9) (m:Mv):Bool:=decide (d6 (sq p m.fr)=1)&&(decide (m.to=m.fr+2)||decide (m.to=m.fr-2))
def X4 (castle:Int) (m:Mv):Nat→Int
 | 0=>castle
 | n+1=>if U2 (X4 castle m n) n&&(decide (m.fr=A2 n)||decide (m.fr=C0 n)||decide (m.to=A2 n)||decide (m.to=C0 n)) then X4 castle m n-(2:Int)^n else X4 castle m n
def left (castle:Int) (m:Mv):Int:=X4 castle m 4
def a3v (p:l9) (m:Mv):l9:=if C1 p m then put p (F3 p m) 0 else p
def a3w (p:l9) (m:Mv):l9:=put (put (a3v p m) m.fr 0) m.to (sq p m.fr)
def a10 (p:l9) (m:Mv):l9:=if m.promo≠0 then put (a3w p m) m.to (m.promo+6*p.turn) else a3w p m
def L7 (p:l9) (m:Mv):l9 :=
 if V4 p m then put (put (a10 p m) (if m.to<m.fr then I9 0 (k9 m.fr) else I9 7 (k9 m.fr)) 0) ((m.fr+m.to)/2) (3+6*p.turn) else a10 p m
def G3 (p:l9) (m:Mv):Bool:=decide (d6 (sq p m.fr)=6)&&(decide (m.to=m.fr+16)||decide (m.to=m.fr-16))
def made (p:l9) (m:Mv):l9 :=
 { L7 p m with
  castle:=left p.castle m
  ep:=if G3 p m then (m.fr+m.to)/2 else -1
  half:=if C1 p m||decide (d6 (sq p m.fr)=6) then 0 else p.half+1
  full:=p.full+p.turn
  turn:=1-p.turn }
def a5s (p:l9) (m:Mv):Bool :=
 let at_:=if m.fr=z8 p p.turn then m.to else z8 p p.turn
 decide (at_<0) || !B7 (made p m) at_ (1-p.turn)
def A1 (p:l9):List Mv:=(a2L p).filter (a5s p)
def N3 (p:l9) (m:Mv):Bool:=decide (m∈A1 p)
end Ch
end
section
open Go Go.RowKit
open E
theorem R9:(G.P.info? 3).map (·.size)=some 1:=by kernel_rfl
theorem c4g:(G.P.info? 9).map (·.size)=some 1:=by kernel_rfl
theorem a0I:(G.P.info? 24).map (·.size)=some 69:=by kernel_rfl
theorem b3o:(G.P.info? 36).map (·.size)=some 3:=by kernel_rfl
structure Upd (w:World) (b:Nat) (o:Obj) (w':World):Prop where
 os:w'.os=w.os
 tape:w'.tape=w.tape
 output:w'.output=w.output
 size:w'.heap.size=w.heap.size
 at_:w'.heap[b]?=some o
 else_:∀ k,k≠b→w'.heap[k]?=w.heap[k]?
theorem Upd.cl {w0 w w':World} {b:Nat} {o:Obj} (h:Upd w b o w') (hc:Cl w0 w) (hb:w0.heap.size≤b):Cl w0 w' :=
 Below.trans hc ⟨h.os,h.tape,h.output,by rw [h.size];exact yJ _,fun k hk=>h.else_ k zo⟩
theorem Upd.trans {w w1 w2:World} {b:Nat} {o o':Obj} (h:Upd w b o w1) (h':Upd w1 b o' w2):Upd w b o' w2 :=
 ⟨h'.os.trans h.os,h'.tape.trans h.tape,h'.output.trans h.output,h'.size.trans h.size,h'.at_,fun k hk=>(h'.else_ k hk).trans (h.else_ k hk)⟩
def L8 (cs:Array Value):Nat→List Value→Array Value
 | _,[]=>cs
 | o,v::r=>L8 (cs.setIfInBounds o v) (o+1) r
theorem a0a (l:List Value):∀ (cs:Array Value) (o:Nat),(L8 cs o l).size=cs.size:=by
 induction l with
 | nil=>intros;rfl
 | cons v r ih=>intro cs o;simp [L8,ih]
theorem S0 (l:List Value):∀ (cs:Array Value) (o k:Nat),o+l.length≤cs.size→(L8 cs o l)[k]?=if o≤k∧k<o+l.length then l[k-o]? else cs[k]?:=by
 induction l with
 | nil=>intro cs o k _;simp [L8];omega
 | cons v r ih =>
  intro cs o k h;simp only [zh] at h;rw [L8,ih _ _ _ (by simp;omega)]
  simp only [zh];by_cases h1:k=o
  ·subst h1;rw [zJ zo,zM zo,Array.getElem?_setIfInBounds_self_of_lt zo];simp
  ·by_cases h2:o+1≤k∧k<o+1+r.length
   ·rw [zM h2,zM zo];obtain ⟨j,hj⟩:∃ j,k-o=j+1:=⟨k-o-1,zo⟩;rw [hj,show k-(o+1)=j by omega];simp
   ·rw [zJ h2,zJ zo,Array.getElem?_setIfInBounds_ne (wG h1)]
theorem C6 (cs:Array Value) (l:List Value) (h:l.length=cs.size):L8 cs 0 l=l.toArray:=by
 apply xv;intro k;rw [S0 l cs 0 k zo];by_cases hk:k<l.length
 ·rw [zM zo];simp
 ·rw [zJ zo,xj zo,xj (by simpa using hk)]
theorem a6a (l:List Value):∀ (w:World) (b o:Nat) (cs:Array Value) (u:Nat) (fz:Nat×Nat),w.heap[b]?=some (.cells cs u fz)→Upd w b (.cells (L8 cs o l) u fz) (w.setCells b o l):=by
 induction l with
 | nil=>intro w b o cs u fz h;exact ⟨rfl,rfl,rfl,rfl,h,fun _ _=>rfl⟩
 | cons v r ih =>
  intro w b o cs u fz h;have h1:Upd w b (.cells (cs.setIfInBounds o v) u fz) (w.setCell ⟨b,o,none⟩ v):=by
   refine ⟨rfl,rfl,rfl,by simp [World.setCell],?_,fun k hk=>Below.heap_setCell _ _ _ _ hk⟩
   simp [World.setCell,Array.getElem?_modify,h]
  exact h1.trans (ih _ b (o+1) _ u fz h1.at_)
theorem K9 {w:World} {t b o z:Nat} {v:Value} {cs:Array Value} {u:Nat} {K:World→Prop} (hb:w.heap[b]?=some (.cells cs u (0,0))) (cs':List Value) (hv:v.cells.toList=cs') (hz:(G.P.info? t).map (·.size)=some z) (hl:cs'.length=z)
  (h1:∀ v∈cs',v.oneCell'=true) (ho:o+z≤cs.size) (h:∀ w',Upd w b (.cells (L8 cs o cs') u (0,0)) w'→K w'):a0i G.P w t ⟨b,o,none⟩ v K:=by
 refine ⟨w.setCells b o cs',?_,h _ (a6a _ _ _ _ _ _ _ hb)⟩;have hc:∀ j,j<cs'.length→(w.cell? ⟨b,o+0+j,none⟩).isSome=true:=fun j hj=>by
  rw [C9 hb,wJ zo];rfl
 have hf:∀ j,j<cs'.length→w.frozen? ⟨b,o+0+j,none⟩=false:=fun j hj=>by
  simp [World.frozen?,hb]
 have:=run_storeCells_cells (P:=G.P) b o cs' 0 w hc hf h1;unfold a7T Instr.storeAt storeVar;have hs:=E.U6 (w:=w) hz;have hvs:v.cells.size=z:=by rw [← hl,← hv];simp
 simp only [Nat.add_zero] at this;simp [Instr.sureAddr,hs,hvs,hv,this]
theorem v8 {t:Nat} (z:Value) (hz:(G.P.info? t).bind (·.zero)=some z) {dst:Option Nat} {ty:Nat} {pos:String} {af:Array Edge} {gd:Option (Nat×Bool)} {env:C8} {w:World} {K:Value→World→Prop}
  (h:K (.pointer (some ⟨w.heap.size,0,none⟩)) (w.alloc (.cells z.cells t))):H4 G.P { dst,op:=.alloc t,type:=ty,pos,after:=af,guard:=gd } env w K:=by
 refine ⟨.inl ⟨_,_,?_,h⟩⟩;cases hi:G.P.info? t with
 | none=>rw [hi] at hz;cases hz
 | some i =>
  rw [hi] at hz;have e1:(zeroValue t).run G.P w = .ok z w:=by unfold zeroValue typeInfo;simp at hz;simp [hi,hz]
  show (do pure (Next.value (← Instr.alloc t true (.tuple #[]))):Sem Next).run G.P w=_
  simp [Instr.alloc,e1,newVar,newRow]
theorem T8 (p:l9) (i x:Int) (h0:0≤i) (h1:i<64):L8 (s7 p) i.toNat [.int .i64 x]=s7 (Ch.put p i x):=by
 apply xv;intro k;rw [S0 _ _ _ _ (by rw [A0];simp;omega)]
 simp only [zh,za];by_cases hk:k<64
 ·rw [a3Y _ _ hk,a3Y _ _ hk,Ch.a2J p i x k h0 h1 zo];by_cases h:k=i.toNat
  ·rw [zM zo,zM zo];simp [h]
  ·rw [zJ zo,zJ zo]
 ·rw [zJ zo,W3 _ _ zo,W3 _ _ zo];rfl
theorem zC {m:Int} {n:Nat} {A B:Prop} (k:A) (a:0≤m:=by omega) (b:m<(n:Int):=by omega):bif inB m n then A else B:=E.A8 (F2.2 ⟨a,b⟩) k
theorem zN {f:Nat} {fn:Func} {c:Code} {args:List Value} {w:World} {R:Ending→World→Prop} (hf:G.P.funcs[f]?=some fn) (h:vc G c (a5q args) w (c4a G.P fn.results.toList R))
  (hb:fn.body=some c:=by exact rfl) (hn:args.length≤fn.ntmps:=by exact (zU (by kernel_rfl))) (hk:P9 fn.ntmps c=true:=by kernel_rfl):Calls G.P f args.toArray w R :=
 E.enter (G:=G) hf hb hn hk (a5V h)
theorem zK {ops:List Oper} {e:C8} {w:World} {K:C8→World→Prop} (n:Nat) (h:vcQ G (Cl w) ops (ops.take n) e (fun e'=>∀ w',Cl w w'→U7 G ops (ops.drop n) e' w' K)) (ht:(a7Q n ops.toArray||(Nat.beq n ops.length&&Region.lexB .any ops.toArray))=true:=by kernel_rfl):J2 G ops e w K :=
 J2.mk1 ⟨n,Cl w,Cl.drew (Cl.refl _),ht,h⟩
theorem zE {A B:Prop} (h:B) (e:B→A:=by (intro h;refine zR ?_;refine And.intro ?_ trivial;refine zR ?_;exact h)):A:=e h
theorem zL {t e z b:Nat} (E1:F0 t e z b) (vs:List Value) {dst:Option Nat} {parts:Array (Nat×Operand)} {n ty:Nat} {pos:String} {af:Array Edge} {gd:Option (Nat×Bool)} {env:C8} {w:World} {K:Value→World→Prop}
  (h:K (.slice (some ⟨w.heap.size,0,none⟩) n n) (w.alloc (.cells (vs.flatMap fun v=>v.cells.toList).toArray e)))
  (hp:(parts.map fun (i,x)=>(i,ev env x)).toList=(vs.zipIdx 0).map (fun x=>(x.2,x.1)):=by (rw [zb];rfl)) (hz:∀ v∈vs,v.cells.size=z:=by simp [Value.cells]) (hl:vs.length=n:=by exact rfl) (hn:0<n:=by decide) (hb:n*z≤1000:=by decide) :
  H4 G.P { dst,op:=.buildSlice t n parts,type:=ty,pos,after:=af,guard:=gd } env w K:=G2 E1 vs hp hz hl hn hb h
theorem zT {w:World} {t b o z:Nat} {v:Value} {cs:Array Value} {u:Nat} {K:World→Prop} (hb:w.heap[b]?=some (.cells cs u (0,0))) (cs':List Value) (h:∀ w',Upd w b (.cells (L8 cs o cs') u (0,0)) w'→K w') (hv:v.cells.toList=cs':=by exact rfl) (hz:(G.P.info? t).map (·.size)=some z:=by kernel_rfl) (hl:cs'.length=z:=by exact rfl)
  (h1:∀ v∈cs',v.oneCell'=true:=by (intro v hv;simp at hv;subst hv;rfl)) (ho:o+z≤cs.size:=by exact (zU rfl)):a0i G.P w t ⟨b,o,none⟩ v K:=K9 hb cs' hv hz hl h1 ho h
end
section
theorem b7A {n:Int} (h0:-7≤n) (h1:n≤7):0≤n*n∧n*n≤49:=by
 have:n=-7∨n=-6∨n=-5∨n=-4∨n=-3∨n=-2∨n=-1∨n=0∨n=1∨n=2∨n=3∨n=4∨n=5∨n=6∨n=7:=by omega
 rcases this with rfl|rfl|rfl|rfl|rfl|rfl|rfl|rfl|rfl|rfl|rfl|rfl|rfl|rfl|rfl<;>decide
def c2d (f t:Int):Bool :=
 let F:=Ch.o4 t-Ch.o4 f;let R:=Ch.k9 t-Ch.k9 f;let W:=Ch.sign F+8*Ch.sign R;let n:=Ch.a5Y F R
 f==t || !(F==0||R==0||F==R||F==-R)||(t==f+((n:Int)+1)*W&&W != 0&&(List.range (n+1)).all fun k=>decide (0≤f+((k:Int)+1)*W)&&decide (f+((k:Int)+1)*W≤63))
theorem b5L:(List.range 64).all (fun f=>(List.range 64).all fun t=>c2d f t)=true:=by decide +kernel
theorem c0i {f t:Int} (h0:0≤f) (h1:f≤63) (h2:0≤t) (h3:t≤63) (hne:f≠t)
  (hl:Ch.o4 t-Ch.o4 f=0∨Ch.k9 t-Ch.k9 f=0∨Ch.o4 t-Ch.o4 f=Ch.k9 t-Ch.k9 f∨Ch.o4 t-Ch.o4 f=-(Ch.k9 t-Ch.k9 f)) :
  let W:=Ch.sign (Ch.o4 t-Ch.o4 f)+8*Ch.sign (Ch.k9 t-Ch.k9 f);let n:=Ch.a5Y (Ch.o4 t-Ch.o4 f) (Ch.k9 t-Ch.k9 f)
  t=f+((n:Int)+1)*W∧W≠0∧∀ k:Nat,k≤n→0≤f+((k:Int)+1)*W∧f+((k:Int)+1)*W≤63:=by
 have h:=zl.1 (zl.1 b5L f.toNat (yl.2 zo)) t.toNat (yl.2 zo);rw [zi h0,zi h2] at h;simp only [c2d,zj,beq_iff_eq,zc,zP,zl,yl,zW,bne_iff_ne] at h;rcases h with (h|h)|h
 ·exact absurd h hne
 ·exfalso;simp only [yA,beq_eq_false_iff_ne] at h;rcases hl with hl|hl|hl|hl
  ·exact h.1.1.1 hl
  ·exact h.1.1.2 hl
  ·exact h.1.2 hl
  ·exact h.2 hl
 ·exact ⟨h.1.1,h.1.2,fun k hk=>h.2 k zo⟩
theorem b5M (p:l9) (i W:Int) (n k:Nat) (hk:k<n):Ch.free p (i+(k:Int)*W) W (n-k)=(decide (Ch.sq p (i+((k:Int)+1)*W)=0)&&Ch.free p (i+((k:Int)+1)*W) W (n-(k+1))):=by
 obtain ⟨m,hm⟩:∃ m,n-k=m+1:=⟨n-k-1,zo⟩;have h2:n-(k+1)=m:=by omega
 have e:i+(k:Int)*W+W=i+((k:Int)+1)*W:=by rw [Int.add_mul];omega
 rw [hm,h2];simp only [Ch.free,e];congr 1
end
section
open Go Go.RowKit
open E
theorem g9 {n:Int} (h0:-9223372036854775808≤n) (h1:n≤9223372036854775807):IntKind.i64.wrap n=n:=by
 unfold IntKind.wrap;simp [IntKind.bits,IntKind.signed];omega
theorem c2F (n:Int):IntKind.i64.wrap n=(n+9223372036854775808)%18446744073709551616-9223372036854775808:=by
 unfold IntKind.wrap;simp [IntKind.bits,IntKind.signed];omega
theorem d8 {k:IntKind} {a b:Int} (h:a=b):Value.int k a=Value.int k b:=by rw [h]
theorem C2 {k:IntKind} {a b:Int} (h:a=b):Ending.returned (.int k a) = .returned (.int k b):=by rw [h]
theorem b15 {a b c d:Value} (h1:a=c) (h2:b=d):Ending.returned (.tuple #[a,b]) = .returned (.tuple #[c,d]):=by rw [h1,h2]
theorem t8 {a b:Bool} (h:a=b):Value.bool a=Value.bool b:=by rw [h]
theorem o8 {a b:Bool} (h:a=b):Ending.returned (.bool a) = .returned (.bool b):=by rw [h]
theorem a2j (s:Int) (w:World) (h0:0≤s):Calls G.P 127 #[.int .i64 s] w (E5 (.int .i64 (Ch.o4 s)) w):=by
 refine zN func127 ?_;refine zR ?_;exact ⟨by rw [xl h0];rfl,rfl⟩
theorem X5 (s:Int) (w:World) (h0:0≤s) (h1:s<9223372036854775807):Calls G.P 81 #[.int .i64 s] w (E5 (.int .i64 (Ch.k9 s)) w):=by
 refine zN func81 ?_;refine zR ?_;exact ⟨by rw [xa h0,g9 zo zo];rfl,rfl⟩
theorem P3 (x:Int) (w:World) (h0:-1000≤x) (h1:x≤1000):Calls G.P 57 #[.int .i64 x] w (E5 (.int .i64 (Ch.d6 x)) w):=by
 refine zN func57 ?_;repeat' (refine zR ?_;apply E.b9<;>intro h)
 all_goals (try refine zR ?_)
 all_goals (refine ⟨C2 ?_,rfl⟩;simp only [Ch.d6])
 ·rw [zM zo,g9 zo zo]
 ·rw [zJ zo]
theorem a11 (x:Int) (w:World):Calls G.P 128 #[.int .i64 x] w (E5 (.int .i64 (Ch.y9 x)) w):=by
 refine zN func128 ?_;repeat' (refine zR ?_;apply E.b9<;>intro h)
 all_goals (try refine zR ?_)
 all_goals (refine ⟨C2 ?_,rfl⟩;simp only [Ch.y9])
 ·rw [zM zo]
 ·rw [zJ zo]
theorem a4u (k s:Int) (w:World) (h0:-1000≤k) (h1:k≤1000) (h2:-1000≤s) (h3:s≤1000):Calls G.P 79 #[.int .i64 k,.int .i64 s] w (E5 (.int .i64 (k+6*s)) w):=by
 refine zN func79 ?_;refine zR ?_;exact ⟨by rw [g9 (n:=6*s) zo zo,g9 zo zo],rfl⟩
theorem a2M (f r:Int) (w:World) (h0:-1000≤f) (h1:f≤1000) (h2:-1000≤r) (h3:r≤1000):Calls G.P 80 #[.int .i64 f,.int .i64 r] w (E5 (.int .i64 (Ch.I9 f r)) w):=by
 refine zN func80 ?_;repeat' (refine zR ?_;apply E.b9<;>intro h)
 all_goals (try refine zR ?_)
 all_goals (refine ⟨C2 ?_,rfl⟩;simp only [Ch.I9])
 all_goals first
  | rw [zM zo]
  | rw [zJ zo,g9 (n:=8*r) zo zo,g9 zo zo]
theorem b5N (s:Int) (w:World) (h0:-1000≤s) (h1:s≤1000):Calls G.P 131 #[.int .i64 s] w (E5 (.int .i64 (Ch.up s)) w):=by
 refine zN func131 ?_;refine zR ?_;exact ⟨by rw [g9 (n:=2*s) zo zo,g9 zo zo];rfl,rfl⟩
theorem b7B (n:Int) (w:World):Calls G.P 188 #[.int .i64 n] w (E5 (.int .i64 (Ch.sign n)) w):=by
 refine zN func188 ?_;repeat' (refine zR ?_;apply E.b9<;>intro h)
 all_goals (try refine zR ?_)
 all_goals (refine ⟨C2 ?_,rfl⟩;simp only [Ch.sign])
 ·rw [zM zo]
 ·rw [zJ zo,zM zo]
 ·rw [zJ zo,zJ zo]
def Pc (p:l9):Prop:=∀ i:Int,0≤Ch.sq p i∧Ch.sq p i≤12
theorem c2G (p:l9) (hp:Pc p) (f t:Int) (w:World) (h0:0≤f) (h1:f≤63) (h2:0≤t) (h3:t≤63) :
  Calls G.P 129 #[D3 p,.int .i64 f,.int .i64 t] w (N2 (.bool (Ch.a3q p f t)) w):=by
 refine E.enter (G:=G) func129 rfl (by simp [ntmps129]) zk ?_
 refine a3o (a5V ?_);refine zG ?_;refine W1 (Cl _) (Cl.refl _) (fun _=>Cl.drew) zk ?_;have hC:∀ w',Cl (w.alloc (.cells (s7 p) 24)) w'→w'.heap[w.heap.size]?=some (.cells (s7 p) 24 (0,0)):=fun w' h=>h.blk (d9 _ _);have hE:∀ w',Cl (w.alloc (.cells (s7 p) 24)) w'→Cl w w':=fun w' h=>(Cl.alloc w _).trans h;refine zG ?_;refine m8 _ (fun w _=>a2j _ _ h2) (zG ?_);refine m8 _ (fun w _=>a2j _ _ h0) ?_;have hf:IntKind.i64.wrap (Ch.o4 t-Ch.o4 f)=Ch.o4 t-Ch.o4 f:=g9 (by unfold Ch.o4;omega) (by unfold Ch.o4;omega)
 have hr:IntKind.i64.wrap (Ch.k9 t-Ch.k9 f)=Ch.k9 t-Ch.k9 f:=g9 (by unfold Ch.k9;omega) (by unfold Ch.k9;omega)
 refine zG ?_;rw [hf];refine zR ?_;refine m8 _ (fun w _=>X5 _ _ h2 zo) (zR ?_);refine m8 _ (fun w _=>X5 _ _ h0 zo) (zG ?_);rw [hr];generalize hF:Ch.o4 t-Ch.o4 f=F;generalize hR:Ch.k9 t-Ch.k9 f=R;refine zR ?_;apply E.b9<;>intro h
 ·refine zR ?_;intro w' hw';refine zG ?_;exact ⟨o8 (by simp [Ch.a3q,h]),hE w' hw'⟩
 have hne:=h;clear h;refine zR ?_;refine E.A8 (F2.2 ⟨h0,zo⟩) (zR ?_);refine m7 _ (fun w hw=>b06 (hC w hw) _ h0 zo rfl) (zR ?_);apply E.b9<;>intro h
 ·refine zR ?_;intro w' hw';refine zG ?_;exact ⟨o8 (by simp [Ch.a3q,h]),hE w' hw'⟩
 have hnz:=h;clear h;refine zG ?_;refine c2b 9 13 (.bool (decide (F=0)||decide (R=0))) zk ?_ (fun j=>?_)
 ·refine zR ?_;apply E.b9<;>intro h
  ·refine zR ?_;exact yH Value.bool (by simp [h])
  ·refine zR ?_;exact yH Value.bool (by simp [h])
 have hneg:IntKind.i64.wrap (0-R)=-R:=by rw [g9 (by subst hR;unfold Ch.k9;omega) (by subst hR;unfold Ch.k9;omega)];omega
 refine c2b 10 13 (.bool (decide (F=R)||decide (F=-R))) zk ?_ (fun j=>?_)
 ·refine zR ?_;apply E.b9<;>intro h
  ·refine zR ?_;exact yH Value.bool (by simp [h])
  ·refine zR ?_;exact yH Value.bool (by rw [hneg];simp [h])
 obtain ⟨K,hK⟩:∃ K,Ch.d6 (Ch.sq p f)=K:=⟨_,rfl⟩;have bF:-7≤F∧F≤7:=by subst hF;unfold Ch.o4;omega
 have bR:-7≤R∧R≤7:=by subst hR;unfold Ch.k9;omega
 have hFF:IntKind.i64.wrap (F*F)=F*F:=by have:=b7A bF.1 bF.2;exact g9 zo zo
 have hRR:IntKind.i64.wrap (R*R)=R*R:=by have:=b7A bR.1 bR.2;exact g9 zo zo
 have hFR:IntKind.i64.wrap (F*F+R*R)=F*F+R*R:=by have:=b7A bF.1 bF.2;have:=b7A bR.1 bR.2;exact g9 zo zo
 have hans:∀ b:Bool,Ch.a3q p f t=b→∀ w',Cl (w.alloc (.cells (s7 p) 24)) w'→N2 (.bool (Ch.a3q p f t)) w (.returned (.bool b)) w':=fun b hb w' hw'=>⟨by rw [hb],hE w' hw'⟩
 have hdef:Ch.a3q p f t=(if K=1 then decide (F*F≤1)&&decide (R*R≤1)
   else if K=5 then decide (F*F+R*R=5)
   else if K=6 then decide (F*F=1)&&decide (R=Ch.up (Ch.y9 (Ch.sq p f)))
   else if !((decide (F=0)||decide (R=0)) && !decide (K=4)) && !((decide (F=R)||decide (F=-R)) && !decide (K=3)) then false
   else Ch.free p f (Ch.sign F+8*Ch.sign R) (Ch.a5Y F R)):=by
  simp only [Ch.a3q,hF,hR,hK,hne,hnz,or_self,xh]
 refine a93 (σ:=Unit) [6,9,10] 13 (fun _=>[(9,.bool ((decide (F=0)||decide (R=0)) && !decide (K=4))),(10,.bool ((decide (F=R)||decide (F=-R)) && !decide (K=3)))])
  (fun _=>K≠1∧K≠5∧K≠6) zk ?_ (fun _ j hk=>?_)
 ·refine zR ?_;refine E.A8 (F2.2 ⟨h0,zo⟩) (zR ?_);refine m7 _ (fun w hw=>b06 (hC w hw) _ h0 zo rfl) (zR ?_);refine m8 _ (fun w _=>P3 _ _ (by have:=hp f;omega) (by have:=hp f;omega)) ?_
  rw [hK];refine zR ?_;apply E.b9<;>intro h
  ·subst h;refine zR ?_;rw [hFF];apply E.b9<;>intro h
   ·refine zR ?_;intro w' hw';refine zG ?_;exact hans _ (by rw [hdef];simp [h,hRR]) w' hw'
   ·refine zR ?_;intro w' hw';refine zG ?_;exact hans _ (by rw [hdef];simp [h]) w' hw'
  have k1:=h;clear h;refine zR ?_;apply E.b9<;>intro h
  ·subst h;refine zR ?_;intro w' hw';refine zG ?_;exact hans _ (by rw [hdef,hFF,hRR,hFR];simp) w' hw'
  have k5:=h;clear h;refine zR ?_;apply E.b9<;>intro h
  ·subst h;refine zR ?_;rw [hFF];apply E.b9<;>intro h
   ·refine zR ?_;refine E.A8 (F2.2 ⟨h0,zo⟩) (zR ?_);refine m7 _ (fun w hw=>b06 (hC w hw) _ h0 zo rfl) (zR ?_);refine m8 _ (fun w _=>a11 _ _) (zR ?_);refine m8 _ (fun w _=>b5N _ _ (by unfold Ch.y9;split<;>omega) (by unfold Ch.y9;split<;>omega)) (zR ?_)
    intro w' hw';refine zG ?_;exact hans _ (by rw [hdef];simp [h]) w' hw'
   ·refine zR ?_;intro w' hw';refine zG ?_;exact hans _ (by rw [hdef];simp [h]) w' hw'
  have k6:=h;clear h;refine zR ?_;apply E.b9<;>intro h
  ·subst h;refine zR ?_;exact ⟨(),⟨yH Value.bool (by simp),yH Value.bool (by simp),trivial⟩,k1,k5,k6⟩
  have k3:=h;clear h;refine zR ?_;apply E.b9<;>intro h
  ·subst h;refine zR ?_;exact ⟨(),⟨yH Value.bool (by simp),yH Value.bool (by simp),trivial⟩,k1,k5,k6⟩
  refine zR ?_;exact ⟨(),⟨yH Value.bool (by simp [h]),yH Value.bool (by simp [k3]),trivial⟩,k1,k5,k6⟩
 rw [zJ hk.1,zJ hk.2.1,zJ hk.2.2] at hdef;generalize hST:((decide (F=0)||decide (R=0)) && !decide (K=4))=ST at hdef
 generalize hSL:((decide (F=R)||decide (F=-R)) && !decide (K=3))=SL at hdef
 refine a93 (σ:=Unit) [6] 13 (fun _=>[]) (fun _=>ST=true∨SL=true) zk ?_ (fun _ j hl=>?_)
 ·refine zR ?_;apply E.S7<;>intro h
  ·refine zR ?_;apply E.S7<;>intro h
   ·refine zR ?_;intro w' hw';refine zG ?_;exact hans _ (by rw [hdef];simp_all) w' hw'
   ·refine zR ?_;exact ⟨(),trivial,.inr (by simpa using h)⟩
  ·refine zR ?_;exact ⟨(),trivial,.inl (by simpa using h)⟩
 have hdef2:Ch.a3q p f t=Ch.free p f (Ch.sign F+8*Ch.sign R) (Ch.a5Y F R):=by rw [hdef];rcases hl with h|h<;>simp [h]
 have hline:F=0∨R=0∨F=R∨F=-R:=by
  rcases hl with h|h
  ·rw [← hST] at h;simp at h;rcases h.1 with h|h<;>simp [h]
  ·rw [← hSL] at h;simp at h;rcases h.1 with h|h<;>simp [h]
 obtain ⟨hto,hW0,hin⟩:=c0i h0 h1 h2 h3 hne (by rw [hF,hR];exact hline)
 rw [hF,hR] at hto hW0 hin;have hs:∀ n:Int,-1≤Ch.sign n∧Ch.sign n≤1:=fun n=>by unfold Ch.sign;split<;>(try split)<;>omega
 have hsF:=hs F;have hsR:=hs R;refine zR ?_;refine m8 _ (fun w _=>b7B _ _) (zR ?_);refine m8 _ (fun w _=>b7B _ _) (zG ?_);rw [g9 (n:=8*Ch.sign R) zo zo,g9 (n:=Ch.sign F+8*Ch.sign R) zo zo];generalize Ch.sign F+8*Ch.sign R=W at *;generalize Ch.a5Y F R=n at *;refine zR ?_;have g0:=hin 0 zo;refine a5p [6,12] 13 (fun k:Nat=>[(12,.int .i64 (f+((k:Int)+1)*W))]) (fun k=>k≤n∧Ch.a3q p f t=Ch.free p (f+(k:Int)*W) W (n-k)) (fun k=>n-k) zk 0 ⟨zo,by rw [hdef2];simp⟩
  ⟨d8 (by rw [g9 zo zo];omega),trivial⟩ ?_
 intro k j ⟨hkn,hh⟩;have gk:=hin k hkn;refine zR ?_;apply E.y6<;>intro h
 ·have hkn':k<n:=by
   rcases wO k n with h'|h'
   ·exact h'
   ·exfalso;apply h;rw [hto];congr 2;omega
  rw [b5M p f W n k hkn'] at hh;have gk1:=hin (k+1) zo;have e1:f+((k:Int)+1)*W+W=f+(((k+1:Nat):Int)+1)*W:=by
   rw [Int.add_mul ((k+1:Nat):Int)];push_cast;omega
  refine zR ?_;refine E.A8 (F2.2 ⟨gk.1,zo⟩) (zR ?_);refine m7 _ (fun w hw=>b06 (hC w hw) _ gk.1 zo rfl) (zR ?_);apply E.y6<;>intro h
  ·refine zR ?_;intro w' hw';refine zG ?_;exact hans _ (by rw [hh];simp [h]) w' hw'
  ·refine zR ?_;refine ⟨k+1,⟨d8 (by rw [e1,g9 zo zo]),trivial⟩,⟨zo,by rw [hh];simp [h]⟩,zo⟩
 ·have hkn':n-k=0:=by
   have:((k:Int)+1)*W=((n:Int)+1)*W:=by omega
   have:=Int.eq_of_mul_eq_mul_right hW0 this;omega
  refine zR ?_;intro w' hw';refine zG ?_;exact hans _ (by rw [hh,hkn'];rfl) w' hw'
theorem hCl {p:l9} {w w':World} (h:Cl (w.alloc (.cells (s7 p) 24)) w'):w'.heap[w.heap.size]?=some (.cells (s7 p) 24 (0,0)):=h.blk (d9 _ _)
theorem hEx {w w':World} {o:Obj} (h:Cl (w.alloc o) w'):Cl w w':=(Cl.alloc w _).trans h
theorem Pc.lo {p:l9} (h:Pc p) (i:Int):-1000≤Ch.sq p i:=by have:=h i;omega
theorem Pc.hi {p:l9} (h:Pc p) (i:Int):Ch.sq p i≤1000:=by have:=h i;omega
theorem c0j (x:Int):-1000≤Ch.y9 x:=by unfold Ch.y9;split<;>omega
theorem c0k (x:Int):Ch.y9 x≤1000:=by unfold Ch.y9;split<;>omega
theorem zO {A:Prop} (e:A:=by (first|omega|exact Pc.lo hp _|exact Pc.hi hp _|exact c0j _|exact c0k _|(simp only [c2F,Ch.o4,Ch.k9,Ch.up] at *;omega))):A:=e
theorem c0l (p:l9) (k s:Int) (w:World) (h0:-1000≤k) (h1:k≤1000) (h2:-1000≤s) (h3:s≤1000) :
  Calls G.P 82 #[D3 p,.int .i64 k,.int .i64 s] w (N2 (.int .i64 (Ch.count p k s)) w):=by
 refine E.enter (G:=G) func82 rfl (by simp [ntmps82]) zk ?_
 refine a3o (a5V ?_);refine zG ?_;refine W1 (Cl _) (Cl.refl _) (fun _=>Cl.drew) zk (zR ?_);refine a5p [7,8] 9 (fun n:Nat=>[(7,.int .i64 (Ch.H1 (fun i=>decide (Ch.sq p i=k+6*s)) n)),(8,.int .i64 n)]) (fun n=>n≤64) (fun n=>64-n) zk 0 zo ⟨rfl,rfl,trivial⟩ ?_;intro n j hn;have hb:=Ch.b05 (fun i=>decide (Ch.sq p i=k+6*s)) n;refine zR ?_;apply E.b9<;>intro h
 ·refine zR ?_;refine zC ?_;refine zR ?_;refine m7 _ (fun w hw=>b06 (hCl hw) (n:Int) zo zo rfl) (zR ?_);refine m8 _ (fun w _=>a4u _ _ _ h0 h1 h2 h3) (zR ?_);apply E.b9<;>intro h
  ·refine zR ?_;exact ⟨n+1,⟨d8 (by rw [g9 zo zo];simp [Ch.H1,h]),d8 (by rw [g9 zo zo];rfl),trivial⟩,zo,zo⟩
  ·refine zR ?_;exact ⟨n+1,⟨d8 (by simp [Ch.H1,h]),d8 (by rw [g9 zo zo];rfl),trivial⟩,zo,zo⟩
 ·refine zR ?_;intro w' hw';refine zG ?_;have:n=64:=by omega
  subst this;exact ⟨rfl,hEx hw'⟩
theorem a8a (p:l9) (s:Int) (w:World) (h2:-1000≤s) (h3:s≤1000) :
  Calls G.P 86 #[D3 p,.int .i64 s] w (N2 (.int .i64 (Ch.z8 p s)) w):=by
 refine E.enter (G:=G) func86 rfl (by simp [ntmps86]) zk ?_
 refine a3o (a5V ?_);refine zG ?_;refine W1 (Cl _) (Cl.refl _) (fun _=>Cl.drew) zk (zR ?_);refine a5p [4,5] 6 (fun n:Nat=>[(5,.int .i64 n)]) (fun n=>n≤64∧Ch.Z2 (fun i=>decide (Ch.sq p i=1+6*s)) n=none) (fun n=>64-n) zk 0 ⟨zo,rfl⟩ ⟨rfl,trivial⟩ ?_;intro n j ⟨hn,hf⟩;refine zR ?_;apply E.b9<;>intro h
 ·refine zR ?_;refine zC ?_;refine zR ?_;refine m7 _ (fun w hw=>b06 (hCl hw) (n:Int) zo zo rfl) (zR ?_);refine m8 _ (fun w _=>a4u _ _ _ zo zo h2 h3) (zR ?_);apply E.b9<;>intro h
  ·refine zR ?_;intro w' hw';refine zG ?_;exact ⟨C2 (by unfold Ch.z8;rw [Ch.b5J hf (by simp [h]) zo]),hEx hw'⟩
  ·refine zR ?_;exact ⟨n+1,⟨d8 (by rw [g9 zo zo];rfl),trivial⟩,⟨zo,by unfold Ch.Z2;rw [hf];simp [h]⟩,zo⟩
 ·refine zR ?_;intro w' hw';refine zG ?_;have:n=64:=by omega
  subst this;exact ⟨C2 (by unfold Ch.z8;rw [hf]),hEx hw'⟩
theorem a12 (p:l9) (hp:Pc p) (q s:Int) (w:World) (h0:0≤q) (h1:q≤63) :
  Calls G.P 85 #[D3 p,.int .i64 q,.int .i64 s] w (N2 (.bool (Ch.B7 p q s)) w):=by
 refine E.enter (G:=G) func85 rfl (by simp [ntmps85]) zk ?_
 refine a3o (a5V ?_);refine zG ?_;refine W1 (Cl _) (Cl.refl _) (fun _=>Cl.drew) zk (zR ?_);refine a5p [6,7] 8 (fun n:Nat=>[(7,.int .i64 n)]) (fun n=>n≤64∧Ch.a04 (Ch.a3f p q s) n=false) (fun n=>64-n) zk 0 ⟨zo,rfl⟩ ⟨rfl,trivial⟩ ?_;intro n j ⟨hn,hf⟩;refine zR ?_;apply E.b9<;>intro h
 ·have hi:n<64:=by omega
  refine zG ?_;refine a93 (σ:=Unit) [6] 8 (fun _=>[]) (fun _=>Ch.a3f p q s n=false) zk ?_ (fun _ j hk=>?_)
  ·have no:∀ b:Bool,Ch.a3f p q s n=b→b=false→Ch.a3f p q s n=false:=fun b h h'=>by rw [h,h']
   refine zR ?_;refine zC ?_;refine zR ?_;refine m7 _ (fun w hw=>b06 (hCl hw) (n:Int) zo zo rfl) (zR ?_);apply E.y6<;>intro h
   ·refine zR ?_;refine zC ?_;refine zR ?_;refine m7 _ (fun w hw=>b06 (hCl hw) (n:Int) zo zo rfl) (zR ?_);refine m8 _ (fun w _=>a11 _ _) (zR ?_);rename_i hz;apply E.b9<;>intro h
    ·refine zR ?_;refine m7 _ (fun w hw=>A3 (hCl hw)) (zR ?_);refine E2 _ (fun _ _ h=>h.trans) (fun w _=>c2G p hp _ _ _ zo zo h0 h1) (zR ?_);apply E.S7<;>intro h
     ·refine zR ?_;intro w' hw';refine zG ?_;refine ⟨o8 ?_,hEx hw'⟩;exact (Ch.a3X hi (by simp_all [Ch.a3f])).symm
     ·refine zR ?_;exact ⟨(),trivial,by simp_all [Ch.a3f]⟩
    ·refine zR ?_;exact ⟨(),trivial,by simp_all [Ch.a3f]⟩
   ·refine zR ?_;exact ⟨(),trivial,by simp_all [Ch.a3f]⟩
  ·refine zR ?_;exact ⟨n+1,⟨d8 (by rw [g9 zo zo];rfl),trivial⟩,⟨zo,by simp [Ch.a04,hf,hk]⟩,zo⟩
 ·refine zR ?_;intro w' hw';refine zG ?_;have:n=64:=by omega
  subst this;exact ⟨o8 hf.symm,hEx hw'⟩
theorem b5O (p:l9) (hp:Pc p) (s:Int) (w:World) (h2:-1000≤s) (h3:s≤1000) :
  Calls G.P 130 #[D3 p,.int .i64 s] w (N2 (.bool (Ch.checked p s)) w):=by
 refine E.enter (G:=G) func130 rfl (by simp [ntmps130]) zk ?_
 refine a3o (a5V ?_);refine zG ?_;refine W1 (Cl _) (Cl.refl _) (fun _=>Cl.drew) zk ?_;have hk:=Ch.W2 p s;refine zR ?_;refine m7 _ (fun w hw=>A3 (hCl hw)) (zR ?_);refine E2 _ (fun _ _ h=>h.trans) (fun w _=>a8a p _ _ h2 h3) (zR ?_);apply E.b9<;>intro h
 ·refine zR ?_;refine m7 _ (fun w hw=>A3 (hCl hw)) (zR ?_);rw [g9 (n:=1-s) zo zo];refine E2 _ (fun _ _ h=>h.trans) (fun w _=>a12 p hp _ _ _ h zo) (zR ?_);intro w' hw';refine zG ?_;exact ⟨o8 (by simp [Ch.checked,h]),hEx hw'⟩
 ·refine zR ?_;intro w' hw';refine zG ?_;exact ⟨o8 (by simp [Ch.checked,h]),hEx hw'⟩
theorem a3Z (p:l9) (hp:Pc p) (w:World) (h2:-1000≤p.turn) (h3:p.turn≤1000) :
  Calls G.P 88 #[D3 p] w (N2 (.bool (Ch.o5 p)) w):=by
 refine E.enter (G:=G) func88 rfl (by simp [ntmps88]) zk ?_
 refine a3o (a5V ?_);refine zG ?_;refine W1 (Cl _) (Cl.refl _) (fun _=>Cl.drew) zk (zR ?_);refine m7 _ (fun w hw=>A3 (hCl hw)) (zR ?_);refine m7 _ (fun w hw=>E9 (hCl hw)) (zR ?_);refine E2 _ (fun _ _ h=>h.trans) (fun w _=>b5O p hp _ _ h2 h3) (zR ?_);intro w' hw';refine zG ?_;exact ⟨rfl,hEx hw'⟩
theorem c0m:(∀ c:Fin 16,∀ n:Fin 4,decide (a02 .and .i64 (Int.fdiv (c.val:Int) (2^(min (Int.toNat (n.val:Int)) IntKind.i64.bits))) 1=1)=Ch.U2 (c.val:Int) n.val):=by decide +kernel
theorem b07 {c:Int} {n:Nat} (h0:0≤c) (h1:c≤15) (hn:n<4):(a02 .and .i64 (Int.fdiv c (2^(min (Int.toNat (n:Int)) IntKind.i64.bits))) 1=1)↔Ch.U2 c n=true:=by
 have:=c0m ⟨c.toNat,zo⟩ ⟨n,hn⟩;simp only [zi h0] at this;rw [← this];simp
theorem b4H:∀ n:Fin 4,IntKind.i64.wrap (1*2^(min (Int.toNat (n.val:Int)) IntKind.i64.bits))=(2:Int)^n.val:=by decide +kernel
theorem b08:∀ n:Fin 4,(2:Int)^n.val≤8∧0<(2:Int)^n.val:=by decide +kernel
theorem b3p (r:Int) (w:World) (h0:0≤r) (h1:r≤3):Calls G.P 126 #[.int .i64 r] w (E5 (.tuple #[.int .i64 (Ch.A2 r),.int .i64 (Ch.C0 r)]) w):=by
 refine zN func126 ?_;have hd:IntKind.i64.wrap (r.tdiv 2)=r/2:=by rw [xa h0,g9 zo zo]
 have hm:r.tmod 2=r%2:=xl h0;have h7:IntKind.i64.wrap (7*(r/2))=7*(r/2):=g9 zo zo;refine zR ?_;rw [hm];apply E.b9<;>intro h;all_goals
  refine zR ?_;refine l8 (a2M _ _ _ zo zo (by rw [hd,h7];omega) (by rw [hd,h7];omega)) (zR ?_)
  refine l8 (a2M _ _ _ zo zo (by rw [hd,h7];omega) (by rw [hd,h7];omega)) (zR ?_)
  refine ⟨b15 (d8 ?_) (d8 ?_),rfl⟩
  ·rw [hd,h7];simp [Ch.A2]
  ·rw [hd,h7];simp [Ch.C0,h]
theorem c4h (n:Nat) (h:n<4):(0≤Ch.A2 n∧Ch.A2 n≤63)∧(0≤Ch.C0 n∧Ch.C0 n≤63):=by
 have:n=0∨n=1∨n=2∨n=3:=by omega
 rcases this with rfl|rfl|rfl|rfl<;>decide
theorem b5P (p:l9) (n:Nat) (h:n≤4):0≤Ch.U9 p n∧Ch.U9 p n≤8*n:=by
 induction n with
 | zero=>simp [Ch.U9]
 | succ n ih =>
  have h1:=ih zo;have h2:=b08 ⟨n,zo⟩;simp only [Ch.U9] at h2 ⊢;split<;>omega
theorem b16 (p:l9) (w:World) (h0:0≤p.castle) (h1:p.castle≤15):Calls G.P 83 #[D3 p] w (N2 (.int .i64 (Ch.rights p)) w):=by
 refine E.enter (G:=G) func83 rfl (by simp [ntmps83]) zk ?_
 refine a3o (a5V ?_);refine zG ?_;refine W1 (Cl _) (Cl.refl _) (fun _=>Cl.drew) zk ?_;have hP:=fun w' (h:Cl (w.alloc (.cells (s7 p) 24)) w')=>hCl h;refine zR ?_;refine a5p [3,4,5,6] 7 (fun n:Nat=>[(3,.int .i64 (Ch.U9 p n)),(4,.int .i64 n)]) (fun n=>n≤4) (fun n=>4-n) zk 0 zo ⟨rfl,rfl,trivial⟩ ?_;intro n j hn;have hle:=b5P p n hn;refine zR ?_;apply E.b9<;>intro h
 ·have hn4:n<4:=by omega
  have hh:=c4h n hn4;have hp2:=b08 ⟨n,hn4⟩;have hpw:=b4H ⟨n,hn4⟩;simp only at hp2 hpw;have hd:IntKind.i64.wrap (Int.tdiv (n:Int) 2)=(n:Int)/2:=by rw [xa zo,g9 zo zo]
  have fin:∀ b:Bool,(b=(Ch.U2 p.castle n&&decide (Ch.sq p (Ch.A2 n)=1+6*((n:Int)/2))&&decide (Ch.sq p (Ch.C0 n)=3+6*((n:Int)/2))))→Ch.U9 p (n+1)=Ch.U9 p n+(if b then (2:Int)^n else 0):=fun b hb=>by subst hb;simp only [Ch.U9]
  refine zR ?_;refine m8 _ (fun w _=>b3p _ _ zo zo) ?_;generalize Ch.A2 (n:Int)=K at *;generalize Ch.C0 (n:Int)=R at *;refine zR ?_;refine m7 _ (fun w hw=>a2w (hP _ hw)) (zR ?_);intro r1 hr1;refine zR ?_;intro r2 hr2;have hbi:=b07 h0 h1 hn4;rw [← hr1,← hr2] at hbi;clear hr1 hr2;refine zR ?_;refine E.b9 (fun hb=>?_) (fun hb=>?_)
  ·have hb':=hbi.1 hb;refine zR ?_;refine zC ?_;refine zR ?_;refine m7 _ (fun w hw=>O4 (hP _ hw) _ zo zo) (zR ?_);refine m8 _ (fun w _=>a4u _ _ _ zo zo (by rw [hd];omega) (by rw [hd];omega)) (zR ?_)
   rw [hd];refine E.b9 (fun hk=>?_) (fun hk=>?_)
   ·refine zR ?_;refine zC ?_;refine zR ?_;refine m7 _ (fun w hw=>O4 (hP _ hw) _ zo zo) (zR ?_);refine m8 _ (fun w _=>a4u _ _ _ zo zo (by rw [hd];omega) (by rw [hd];omega)) (zR ?_)
    rw [hd];refine E.b9 (fun hr=>?_) (fun hr=>?_)
    ·refine zR ?_;intro r3 hr3;have hr4:r3=(2:Int)^n:=hr3.trans hpw;clear hr3;refine zR ?_;refine ⟨n+1,⟨d8 ?_,d8 (by rw [g9 zo zo];rfl),trivial⟩,zo,zo⟩
     rw [fin true (by simp [hb',hk,hr]),hr4,g9 zo zo];simp
    ·refine zR ?_;refine ⟨n+1,⟨d8 ?_,d8 (by rw [g9 zo zo];rfl),trivial⟩,zo,zo⟩
     rw [fin false (by simp [hr])];simp
   ·refine zR ?_;refine ⟨n+1,⟨d8 ?_,d8 (by rw [g9 zo zo];rfl),trivial⟩,zo,zo⟩
    rw [fin false (by simp [hk])];simp
  ·have hb':Ch.U2 p.castle n=false:=by
    cases hx:Ch.U2 p.castle n with
    | false=>rfl
    | true=>exact absurd (hbi.2 hx) hb
   refine zR ?_;refine ⟨n+1,⟨d8 ?_,d8 (by rw [g9 zo zo];rfl),trivial⟩,zo,zo⟩
   rw [fin false (by simp [hb'])];simp
 ·refine zR ?_;intro w' hw';refine zG ?_;have:n=4:=by omega
  subst this;exact ⟨rfl,hEx hw'⟩
theorem a6G (c:Int) (m:Mv) (n:Nat) (h0:0≤c) (h1:c≤15) (hn:n≤4):0≤Ch.X4 c m n∧Ch.X4 c m n≤15:=by
 induction n with
 | zero=>exact ⟨h0,h1⟩
 | succ n ih =>
  have h2:=ih zo;have h3:=b08 ⟨n,zo⟩;simp only [Ch.X4] at h3 ⊢;split
  ·rename_i hb;simp only [zP] at hb;have hb:=hb.1;have key:∀ c:Fin 16,∀ n:Fin 4,Ch.U2 (c.val:Int) n.val=true→(2:Int)^n.val≤c.val:=by decide +kernel
   have:=key ⟨(Ch.X4 c m n).toNat,zo⟩ ⟨n,zo⟩ (by simp only [zi h2.1];exact hb)
   simp only [zi h2.1] at this;omega
  ·exact h2
theorem zA {A B:Prop} (h:B) (e:PLift B→A:=by (intro h;(first|(refine E.A8 (F2.2 ⟨?_,?_⟩) ?_;(· exact zO);(· exact zO);refine zR ?_)|(refine m7 _ (fun w hw=>E9 (hP _ hw)) ?_;refine zR ?_)|(refine m7 _ (fun w hw=>a2w (hP _ hw)) ?_;refine zR ?_)|(refine m7 _ (fun w hw=>a4G (hP _ hw)) ?_;refine zR ?_)|(refine m7 _ (fun w hw=>a7Y (hP _ hw)) ?_;refine zR ?_)|(refine m7 _ (fun w hw=>a5Z (hP _ hw)) ?_;refine zR ?_)|(refine m7 _ (fun w hw=>A3 (hP _ hw)) ?_;refine zR ?_)|(refine m7 _ (fun w hw=>N7 (hM _ hw)) ?_;refine zR ?_)|(refine m7 _ (fun w hw=>a0w (hM _ hw)) ?_;refine zR ?_)|(refine m7 _ (fun w hw=>a0k (hM _ hw)) ?_;refine zR ?_)|(refine m7 _ (fun w hw=>a0f (hM _ hw)) ?_;refine zR ?_)|(refine m7 _ (fun w hw=>O4 (hP _ hw) _ ?_ ?_) ?_;(· exact zO);(· exact zO);refine zR ?_)|(refine m8 _ (fun w _=>a2j _ _ ?_) ?_;(· exact zO);refine zR ?_)|(refine m8 _ (fun w _=>X5 _ _ ?_ ?_) ?_;(· exact zO);(· exact zO);refine zR ?_)|(refine m8 _ (fun w _=>P3 _ _ ?_ ?_) ?_;(· exact zO);(· exact zO);refine zR ?_)|(refine m8 _ (fun w _=>a11 _ _) ?_;refine zR ?_)|(refine m8 _ (fun w _=>a4u _ _ _ ?_ ?_ ?_ ?_) ?_;(· exact zO);(· exact zO);(· exact zO);(· exact zO);refine zR ?_)|(refine m8 _ (fun w _=>a2M _ _ _ ?_ ?_ ?_ ?_) ?_;(· exact zO);(· exact zO);(· exact zO);(· exact zO);refine zR ?_)|(refine m8 _ (fun w _=>b5N _ _ ?_ ?_) ?_;(· exact zO);(· exact zO);refine zR ?_));exact h.down)):A:=e ⟨h⟩
theorem c2H (c:Int) (m:Mv) (w:World) (h0:0≤c) (h1:c≤15):Calls G.P 92 #[.int .i64 c,mvV m] w (N2 (.int .i64 (Ch.left c m)) w):=by
 refine E.enter (G:=G) func92 rfl (by simp [ntmps92]) zk ?_
 refine a3o (a5V ?_);refine zG ?_;refine W1 (Cl _) (Cl.refl _) (fun _=>Cl.drew) zk ?_;have hM:∀ w',Cl (w.alloc (.cells (S8 m) 36)) w'→w'.heap[w.heap.size]?=some (.cells (S8 m) 36 (0,0)):=fun w' h=>h.blk (d9 _ _);refine zR ?_;refine a5p [0,5,6,7] 8 (fun n:Nat=>[(0,.int .i64 (Ch.X4 c m n)),(5,.int .i64 n)]) (fun n=>n≤4) (fun n=>4-n) zk 0 zo ⟨rfl,rfl,trivial⟩ ?_;intro n j hn;have hle:=a6G c m n h0 h1 hn;refine zR ?_;apply E.b9<;>intro h
 ·have hn4:n<4:=by omega
  have hp2:=b08 ⟨n,hn4⟩;have hpw:=b4H ⟨n,hn4⟩;simp only at hp2 hpw;have fin:∀ b:Bool,(b=(Ch.U2 (Ch.X4 c m n) n&&(decide (m.fr=Ch.A2 n)||decide (m.fr=Ch.C0 n)||decide (m.to=Ch.A2 n)||decide (m.to=Ch.C0 n))))→Ch.X4 c m (n+1)=(if b then Ch.X4 c m n-(2:Int)^n else Ch.X4 c m n):=fun b hb=>by subst hb;simp only [Ch.X4]
  refine zR ?_;refine m8 _ (fun w _=>b3p _ _ zo zo) (zR ?_);intro r1 hr1;refine zR ?_;intro r2 hr2;have hbi:=b07 hle.1 hle.2 hn4;rw [← hr1,← hr2] at hbi;clear hr1 hr2;(refine zR ?_);(repeat' (first|refine zA ?_|(refine E.b9 (fun _=>?_) (fun _=>?_)<;>(refine zR ?_))|(refine E.y6 (fun _=>?_) (fun _=>?_)<;>(refine zR ?_))|(fail)|(refine E.S7 (fun _=>?_) (fun _=>?_)<;>(refine zR ?_))))
  all_goals first
   | (intro r3 hr3
      have hr4:r3=(2:Int)^n:=hr3.trans hpw;clear hr3;refine zR ?_;have hx:Ch.U2 (Ch.X4 c m n) n=true:=hbi.1 ‹_›;have hlow:=a6G c m (n+1) h0 h1 zo;rw [fin true (by simp [hx, *])] at hlow
      simp only [xy] at hlow;refine ⟨n+1,⟨d8 ?_,d8 (by rw [g9 zo zo];rfl),trivial⟩,zo,zo⟩
      rw [fin true (by simp [hx, *]),hr4,g9 zo zo];simp)
   | (refine ⟨n+1,⟨d8 ?_,d8 (by rw [g9 zo zo];rfl),trivial⟩,zo,zo⟩
      rw [fin false (by simp [*];try (intro hb;exact absurd (hbi.2 hb) ‹_›))];simp)
 ·refine zR ?_;intro w' hw';refine zG ?_;have:n=4:=by omega
  subst this;exact ⟨rfl,hEx hw'⟩
theorem hP2 {p:l9} {m:Mv} {w w':World} (h:Cl ((w.alloc (.cells (s7 p) 24)).alloc (.cells (S8 m) 36)) w'):w'.heap[w.heap.size]?=some (.cells (s7 p) 24 (0,0)) :=
 h.blk ((Cl.alloc _ _).blk (d9 _ _))
theorem hM2 {p:l9} {m:Mv} {w w':World} (h:Cl ((w.alloc (.cells (s7 p) 24)).alloc (.cells (S8 m) 36)) w'):w'.heap[(w.alloc (.cells (s7 p) 24)).heap.size]?=some (.cells (S8 m) 36 (0,0)) :=
 h.blk (d9 _ _)
theorem hE2 {w w':World} {o o':Obj} (h:Cl ((w.alloc o).alloc o') w'):Cl w w':=((Cl.alloc w _).trans (Cl.alloc _ _)).trans h
def b17 (m:Mv):Prop:=(0≤m.fr∧m.fr≤63)∧(0≤m.to∧m.to≤63)∧(0≤m.promo∧m.promo≤6)
theorem c0n (p:l9) (m:Mv) (hp:Pc p) (hm:b17 m) (w:World):Calls G.P 91 #[D3 p,mvV m] w (N2 (.tuple #[.int .i64 (Ch.F3 p m),.bool (Ch.C1 p m)]) w):=by
 obtain ⟨⟨f0,f1⟩,⟨t0,t1⟩,_,_⟩:=hm;refine E.enter (G:=G) func91 rfl (by simp [ntmps91]) zk ?_
 refine a3o (a5V ?_);refine zG ?_;refine W1 (Cl _) (Cl.refl _) (fun _=>Cl.drew) zk ?_;have hP:=fun w' (h:Cl ((w.alloc (.cells (s7 p) 24)).alloc (.cells (S8 m) 36)) w')=>hP2 h;have hM:=fun w' (h:Cl ((w.alloc (.cells (s7 p) 24)).alloc (.cells (S8 m) 36)) w')=>hM2 h;(refine zR ?_);(repeat' (first|refine zA ?_|(refine E.b9 (fun _=>?_) (fun _=>?_)<;>(refine zR ?_))|(refine E.y6 (fun _=>?_) (fun _=>?_)<;>(refine zR ?_))|(fail)|(refine E.S7 (fun _=>?_) (fun _=>?_)<;>(refine zR ?_))))
 all_goals
  intro w' hw';refine zG ?_;exact ⟨b15 (d8 (by simp [Ch.F3,Ch.C1, *])) (t8 (by simp [Ch.C1, *])),hE2 hw'⟩
theorem a95 {f r:Int} (h0:0≤f) (h1:f≤7) (h2:0≤r) (h3:r≤7):Ch.I9 f r=8*r+f:=by unfold Ch.I9;rw [zJ zo]
theorem b7C (p:l9) (w:World) (ht:p.turn=0∨p.turn=1):Calls G.P 84 #[D3 p] w (N2 (.bool (Ch.L6 p)) w):=by
 refine E.enter (G:=G) func84 rfl (by simp [ntmps84]) zk ?_
 refine a3o (a5V ?_);refine zG ?_;refine W1 (Cl _) (Cl.refl _) (fun _=>Cl.drew) zk ?_;have hP:=fun w' (h:Cl (w.alloc (.cells (s7 p) 24)) w')=>hCl h;have hend:∀ b w',Ch.L6 p=b→Cl (w.alloc (.cells (s7 p) 24)) w'→N2 (.bool (Ch.L6 p)) w (.returned (.bool b)) w':=fun b w' h h'=>⟨by rw [h],hEx h'⟩
 refine zR ?_;refine m7 _ (fun w hw=>a4G (hP _ hw)) (zR ?_);apply E.b9<;>intro h
 ·(refine zR ?_);(repeat' (first|refine zA ?_|(refine E.b9 (fun _=>?_) (fun _=>?_)<;>(refine zR ?_))|(refine E.y6 (fun _=>?_) (fun _=>?_)<;>(refine zR ?_))|(fail)|(refine E.S7 (fun _=>?_) (fun _=>?_)<;>(refine zR ?_))))
  all_goals (intro w' hw';refine zG ?_;exact hend _ _ (by simp [Ch.L6, *]) hw')
 have h1:=h;clear h;refine zR ?_;refine m7 _ (fun w hw=>a4G (hP _ hw)) (zR ?_);apply E.b9<;>intro h
 ·(refine zR ?_);(repeat' (first|refine zA ?_|(refine E.b9 (fun _=>?_) (fun _=>?_)<;>(refine zR ?_))|(refine E.y6 (fun _=>?_) (fun _=>?_)<;>(refine zR ?_))|(fail)|(refine E.S7 (fun _=>?_) (fun _=>?_)<;>(refine zR ?_))))
  all_goals (intro w' hw';refine zG ?_;exact hend _ _ (by simp [Ch.L6, *]) hw')
 have hr:0≤Ch.k9 p.ep∧Ch.k9 p.ep≤7:=by unfold Ch.k9;omega
 have hf:0≤Ch.o4 p.ep∧Ch.o4 p.ep≤7:=by unfold Ch.o4;omega
 have hd:Ch.L6 p=if Ch.k9 p.ep≠5-3*p.turn∨Ch.sq p p.ep≠0 then false else
  decide (Ch.sq p (Ch.I9 (Ch.o4 p.ep) (Ch.k9 p.ep-(1-2*p.turn)))=6+6*(1-p.turn))&&decide (Ch.sq p (Ch.I9 (Ch.o4 p.ep) (Ch.k9 p.ep+(1-2*p.turn)))=0):=by
  unfold Ch.L6;rw [zJ zo]
 have hp3:IntKind.i64.wrap (3*p.turn)=3*p.turn:=g9 zo zo;have h53:IntKind.i64.wrap (5-3*p.turn)=5-3*p.turn:=g9 zo zo;have h2t:IntKind.i64.wrap (2*p.turn)=2*p.turn:=g9 zo zo;have h12:IntKind.i64.wrap (1-2*p.turn)=1-2*p.turn:=g9 zo zo;have h1t:IntKind.i64.wrap (1-p.turn)=1-p.turn:=g9 zo zo;have hm:IntKind.i64.wrap (Ch.k9 p.ep-(1-2*p.turn))=Ch.k9 p.ep-(1-2*p.turn):=g9 zo zo;have ha:IntKind.i64.wrap (Ch.k9 p.ep+(1-2*p.turn))=Ch.k9 p.ep+(1-2*p.turn):=g9 zo zo;have h2:=h;clear h;have hl:0≤p.ep:=by omega
 refine zR ?_;refine m7 _ (fun w hw=>E9 (hP _ hw)) (zR ?_);refine m7 _ (fun w hw=>a4G (hP _ hw)) (zR ?_);refine m8 _ (fun w _=>a2j _ _ hl) (zR ?_);refine m7 _ (fun w hw=>a4G (hP _ hw)) (zR ?_);refine m8 _ (fun w _=>X5 _ _ hl zo) ?_;rw [h2t,h12];refine zR ?_;refine m7 _ (fun w hw=>E9 (hP _ hw)) (zR ?_);rw [hp3,h53];refine E.y6 (fun hx=>?_) (fun hx=>?_)
 ·(refine zR ?_);(repeat' (first|refine zA ?_|(refine E.b9 (fun _=>?_) (fun _=>?_)<;>(refine zR ?_))|(refine E.y6 (fun _=>?_) (fun _=>?_)<;>(refine zR ?_))|(fail)|(refine E.S7 (fun _=>?_) (fun _=>?_)<;>(refine zR ?_))))
  all_goals (intro w' hw';refine zG ?_;exact hend _ _ (by rw [hd];simp [*]) hw')
 refine zR ?_;refine m7 _ (fun w hw=>a4G (hP _ hw)) (zR ?_);refine zC ?_;refine zR ?_;refine m7 _ (fun w hw=>O4 (hP _ hw) _ zo zo) (zR ?_);refine E.y6 (fun hy=>?_) (fun hy=>?_)
 ·(refine zR ?_);(repeat' (first|refine zA ?_|(refine E.b9 (fun _=>?_) (fun _=>?_)<;>(refine zR ?_))|(refine E.y6 (fun _=>?_) (fun _=>?_)<;>(refine zR ?_))|(fail)|(refine E.S7 (fun _=>?_) (fun _=>?_)<;>(refine zR ?_))))
  all_goals (intro w' hw';refine zG ?_;exact hend _ _ (by rw [hd];simp [*]) hw')
 have a1:Ch.I9 (Ch.o4 p.ep) (Ch.k9 p.ep-(1-2*p.turn))=8*(Ch.k9 p.ep-(1-2*p.turn))+Ch.o4 p.ep:=a95 hf.1 hf.2 zo zo;have a2:Ch.I9 (Ch.o4 p.ep) (Ch.k9 p.ep+(1-2*p.turn))=8*(Ch.k9 p.ep+(1-2*p.turn))+Ch.o4 p.ep:=a95 hf.1 hf.2 zo zo;rw [zJ zo] at hd;refine zR ?_;rw [hm];refine m8 _ (fun w _=>a2M _ _ _ zo zo zo zo) (zR ?_);refine zC ?_;refine zR ?_;refine m7 _ (fun w hw=>O4 (hP _ hw) _ zo zo) (zR ?_);refine m7 _ (fun w hw=>E9 (hP _ hw)) (zR ?_);rw [h1t];refine m8 _ (fun w _=>a4u _ _ _ zo zo zo zo) (zR ?_);refine E.b9 (fun hz=>?_) (fun hz=>?_)
 ·refine zR ?_;rw [ha];refine m8 _ (fun w _=>a2M _ _ _ zo zo zo zo) (zR ?_);refine zC ?_;refine zR ?_;refine m7 _ (fun w hw=>O4 (hP _ hw) _ zo zo) (zR ?_);intro w' hw';refine zG ?_;exact hend _ _ (by rw [hd];simp [hz]) hw'
 ·refine zR ?_;intro w' hw';refine zG ?_;exact hend _ _ (by rw [hd];simp [hz]) hw'
theorem c4i {p:l9} (h:Ch.a04 (fun i=>!Ch.I4 p i) 64=false):Pc p:=by
 intro i;by_cases hi:i.toNat<64
 ·have h1:¬ (∃ j,j<64∧(!Ch.I4 p j)=true):=fun hx=>by rw [(Ch.a3r _ _).2 hx] at h;cases h
  have h2:Ch.I4 p i.toNat=true:=by
   cases hb:Ch.I4 p i.toNat with
   | true=>rfl
   | false=>exact absurd ⟨i.toNat,hi,by simp [hb]⟩ h1
  have e:Ch.sq p ((i.toNat:Nat):Int)=Ch.sq p i:=by unfold Ch.sq;rw [zg]
  rw [← e];unfold Ch.I4 at h2;generalize Ch.sq p ((i.toNat:Nat):Int)=x at *;simp at h2;omega
 ·unfold Ch.sq;rw [yr,xH (by rw [p.len];omega)]
  decide
theorem b18 {f:Nat→Bool}:∀ n,Ch.Z2 f n=none→Ch.H1 f n=0
 | 0,_=>rfl
 | n+1,h=>by
  unfold Ch.Z2 at h;split at h
  ·cases h
  ·rename_i h1;split at h
   ·cases h
   ·rename_i h2;simp [Ch.H1,b18 n h1,h2]
theorem b3q {p:l9} {s:Int} (h:Ch.count p 1 s=1):0≤Ch.z8 p s:=by
 unfold Ch.z8;split
 ·omega
 ·rename_i h1;have:=b18 _ h1;unfold Ch.count at h;omega
theorem c0o (p:l9) (w:World):Calls G.P 36 #[D3 p] w (N2 (.bool (Ch.valid p)) w):=by
 refine E.enter (G:=G) func36 rfl (by simp [ntmps36]) zk ?_
 refine a3o (a5V ?_);refine zG ?_;refine W1 (Cl _) (Cl.refl _) (fun _=>Cl.drew) zk ?_;have hP:=fun w' (h:Cl (w.alloc (.cells (s7 p) 24)) w')=>hCl h;have hend:∀ b w',Ch.valid p=b→Cl (w.alloc (.cells (s7 p) 24)) w'→N2 (.bool (Ch.valid p)) w (.returned (.bool b)) w':=fun b w' h h'=>⟨by rw [h],hEx h'⟩
 refine zR ?_;refine a5p [2,3,4] 5 (fun n:Nat=>[(3,.int .i64 n)]) (fun n=>n≤64∧Ch.a04 (fun i=>!Ch.I4 p i) n=false) (fun n=>64-n) zk 0 ⟨zo,rfl⟩ ⟨rfl,trivial⟩ ?_;intro n j ⟨hn,hf⟩;refine zR ?_;apply E.b9<;>intro h
 ·have hi:n<64:=by omega
  have hbad:Ch.I4 p n=false→Ch.valid p=false:=fun h=>by
   have:Ch.a04 (fun i=>!Ch.I4 p i) 64=true:=Ch.a3X hi (by simp [h])
   simp [Ch.valid,this]
  have hgood:Ch.I4 p n=true→Ch.a04 (fun i=>!Ch.I4 p i) (n+1)=false:=fun h=>by simp [Ch.a04,hf,h]
  refine zR ?_;refine zC ?_;refine zR ?_;refine m7 _ (fun w hw=>O4 (hP _ hw) (n:Int) zo zo) ?_;(refine zR ?_);(repeat' (first|refine zA ?_|(refine E.b9 (fun _=>?_) (fun _=>?_)<;>(refine zR ?_))|(refine E.y6 (fun _=>?_) (fun _=>?_)<;>(refine zR ?_))|(fail)|(refine E.S7 (fun _=>?_) (fun _=>?_)<;>(refine zR ?_))))
  all_goals first
   | (intro w' hw';refine zG ?_;exact hend _ _ (hbad (by simp [Ch.I4, *])) hw')
   | exact ⟨n+1,⟨d8 (by rw [g9 zo zo];rfl),trivial⟩,⟨zo,hgood (by simp [Ch.I4, *])⟩,zo⟩
   | (refine ⟨n+1,⟨d8 (by rw [g9 zo zo];rfl),trivial⟩,⟨zo,hgood (by simp_all [Ch.I4];try omega)⟩,zo⟩)
 ·have:n=64:=by omega
  subst this;have hp:=c4i hf;have hv:Ch.valid p=(!((!decide (p.turn=0) && !decide (p.turn=1))||decide (p.castle<0)||decide (15<p.castle)||decide (p.half<0)||decide (p.full<1)) &&
   !(!decide (Ch.count p 1 0=1) || !decide (Ch.count p 1 1=1) || !decide (Ch.rights p=p.castle) || !Ch.L6 p) && !Ch.B7 p (Ch.z8 p (1-p.turn)) p.turn):=by
   unfold Ch.valid;rw [hf];simp
  refine zG ?_;refine a93 (σ:=Unit) [2] 5 (fun _=>[]) (fun _=>(p.turn=0∨p.turn=1)∧0≤p.castle∧p.castle≤15∧0≤p.half∧1≤p.full) zk ?_ (fun _ j hk=>?_)
  ·(refine zR ?_);(repeat' (first|refine zA ?_|(refine E.b9 (fun _=>?_) (fun _=>?_)<;>(refine zR ?_))|(refine E.y6 (fun _=>?_) (fun _=>?_)<;>(refine zR ?_))|(fail)|(refine E.S7 (fun _=>?_) (fun _=>?_)<;>(refine zR ?_))))
   all_goals first
    | (intro w' hw';refine zG ?_;exact hend _ _ (by rw [hv];simp [*]) hw')
    | exact ⟨(),trivial,zo,zo,zo,zo,zo⟩
  obtain ⟨k1,k2,k3,k4,k5⟩:=hk;refine a93 (σ:=Unit) [2] 5 (fun _=>[]) (fun _=>Ch.count p 1 0=1∧Ch.count p 1 1=1∧Ch.rights p=p.castle∧Ch.L6 p=true) zk ?_ (fun _ j hk=>?_)
  ·(refine zR ?_);(repeat' (first|refine zA ?_|(refine E.b9 (fun _=>?_) (fun _=>?_)<;>(refine zR ?_))|(refine E.y6 (fun _=>?_) (fun _=>?_)<;>(refine zR ?_))|(refine E2 _ (fun _ _ h=>h.trans) (fun w _=>c0l _ _ _ _ ?_ ?_ ?_ ?_) ?_;(· exact zO);(· exact zO);(· exact zO);(· exact zO);refine zR ?_)|(refine E2 _ (fun _ _ h=>h.trans) (fun w _=>b16 _ _ ?_ ?_) ?_;(· exact zO);(· exact zO);refine zR ?_)|(refine E2 _ (fun _ _ h=>h.trans) (fun w _=>b7C _ _ ?_) ?_;(· exact zO);refine zR ?_)|(refine E.S7 (fun _=>?_) (fun _=>?_)<;>(refine zR ?_))))
   all_goals first
    | (intro w' hw';refine zG ?_;exact hend _ _ (by rw [hv];simp_all;try omega) hw')
    | exact ⟨(),trivial,zo,zo,zo,by simp_all⟩
  obtain ⟨c0,c1,c2,c3⟩:=hk;have h1t:IntKind.i64.wrap (1-p.turn)=1-p.turn:=g9 zo zo;have hkr:=Ch.W2 p (1-p.turn);have hkt:0≤Ch.z8 p (1-p.turn):=b3q (by rcases k1 with h|h<;>rw [h]<;>assumption)
  refine zR ?_;refine m7 _ (fun w hw=>A3 (hP _ hw)) (zR ?_);refine m7 _ (fun w hw=>A3 (hP _ hw)) (zR ?_);refine m7 _ (fun w hw=>E9 (hP _ hw)) (zR ?_);rw [h1t];refine E2 _ (fun _ _ h=>h.trans) (fun w _=>a8a p _ _ zo zo) (zR ?_);refine m7 _ (fun w hw=>E9 (hP _ hw)) (zR ?_);refine E2 _ (fun _ _ h=>h.trans) (fun w _=>a12 p hp _ _ _ hkt zo) (zR ?_);intro w' hw';refine zG ?_;exact hend _ _ (by
   have e1:decide (p.castle<0)=false:=zV zo;have e2:decide (15<p.castle)=false:=zV zo;have e3:decide (p.half<0)=false:=zV zo;have e4:decide (p.full<1)=false:=zV zo;rw [hv,e1,e2,e3,e4];rcases k1 with h|h<;>simp [h,c0,c1,c2,c3]) hw'
end
