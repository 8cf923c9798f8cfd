/- One part of the proof: Prg Lem Mod PosV Law Mod2 Law2 Sho Geo Sp1 Sp2 Sp3 Sp4. -/
import Derived.Test.YtpclhlhcegcflaaGreatDoorProg
import Derived.Laws.AppendOwn
import Derived.Great.BuildSlice
import Derived.Laws.IdiomCopy
import Derived.Test.YtpclhlhcegcflaaGreatDoorM2
namespace Go.Proofs.YtpclhlhcegcflaaGreatDoor
open Go.Proofs.Tryz
set_option maxRecDepth 100000
set_option linter.unusedSimpArgs false
set_option linter.unusedVariables false
section
open Go
def tab:E.Tab:=[
 (2,.int .i64),
 (3,.int .i64),
 (4,.bool),
 (5,.int .u8),
 (6,.int .u8),
 (7,.struct 4 [(2,0,1),(3,1,1),(4,2,1),(6,3,1)]),
 (8,.struct 4 [(2,0,1),(3,1,1),(4,2,1),(6,3,1)]),
 (9,.string),
 (10,.string),
 (11,.string),
 (12,.int .u64),
 (13,.struct 2 [(9,0,1),(12,1,1)]),
 (14,.struct 2 [(9,0,1),(12,1,1)]),
 (15,.pointer),
 (16,.pointer),
 (17,.pointer),
 (18,.struct 1 [(17,0,1)]),
 (19,.struct 1 [(17,0,1)]),
 (20,.iface),
 (21,.int .i32),
 (22,.array 64 3 1),
 (23,.struct 69 [(22,0,64),(3,64,1),(3,65,1),(3,66,1),(3,67,1),(3,68,1)]),
 (24,.struct 69 [(22,0,64),(3,64,1),(3,65,1),(3,66,1),(3,67,1),(3,68,1)]),
 (25,.slice 36 3),
 (28,.slice 39 81),
 (35,.struct 3 [(3,0,1),(3,1,1),(3,2,1)]),
 (36,.struct 3 [(3,0,1),(3,1,1),(3,2,1)]),
 (38,.struct 81 [(36,0,3),(3,3,1),(9,4,1),(9,5,1),(9,6,1),(9,7,1),(9,8,1),(24,9,69),(9,78,1),(3,79,1),(3,80,1)]),
 (39,.struct 81 [(36,0,3),(3,3,1),(9,4,1),(9,5,1),(9,6,1),(9,7,1),(9,8,1),(24,9,69),(9,78,1),(3,79,1),(3,80,1)]),
 (42,.slice 9 1),
 (43,.slice 3 1),
 (50,.slice 4 1),
 (52,.int .u64),
 (60,.slice 104 2),
 (73,.slice 24 69),
 (78,.pointer),
 (79,.iface),
 (80,.iface),
 (83,.pointer),
 (85,.pointer),
 (92,.iface),
 (93,.iface),
 (103,.struct 2 [(9,0,1),(9,1,1)]),
 (104,.struct 2 [(9,0,1),(9,1,1)]),
 (111,.array 8 3 1),
 (125,.string),
 (126,.map),
 (127,.map),
 (128,.slice 42 1),
 (129,.int .u8),
 (130,.struct 8 [(83,0,1),(125,1,1),(127,2,1),(85,3,1),(85,4,1),(128,5,1),(129,6,1),(4,7,1)]),
 (131,.struct 8 [(83,0,1),(125,1,1),(127,2,1),(85,3,1),(85,4,1),(128,5,1),(129,6,1),(4,7,1)]),
 (132,.slice 141 11),
 (134,.slice 85 1),
 (135,.int .u16),
 (136,.int .u16),
 (137,.int .i8),
 (138,.int .i8),
 (139,.int .i8),
 (140,.struct 11 [(85,0,1),(83,1,1),(9,2,1),(9,3,1),(126,4,1),(134,5,1),(52,6,1),(136,7,1),(138,8,1),(138,9,1),(139,10,1)]),
 (141,.struct 11 [(85,0,1),(83,1,1),(9,2,1),(9,3,1),(126,4,1),(134,5,1),(52,6,1),(136,7,1),(138,8,1),(138,9,1),(139,10,1)]),
 (143,.pointer),
 (144,.struct 1 [(4,0,1)]),
 (145,.struct 1 [(4,0,1)]),
 (148,.struct 0 []),
 (149,.struct 0 []),
 (150,.struct 0 []),
 (151,.struct 0 []),
 (157,.slice 5 1),
 (158,.pointer),
 (159,.struct 2 [(158,0,1),(157,1,1)]),
 (160,.struct 2 [(158,0,1),(157,1,1)]),
 (161,.slice 163 2),
 (162,.struct 2 [(9,0,1),(9,1,1)]),
 (163,.struct 2 [(9,0,1),(9,1,1)]),
 (169,.pointer),
 (170,.string),
 (171,.int .i8),
 (172,.struct 8 [(169,0,1),(170,1,1),(132,2,1),(3,3,1),(3,4,1),(171,5,1),(138,6,1),(4,7,1)]),
 (173,.struct 8 [(169,0,1),(170,1,1),(132,2,1),(3,3,1),(3,4,1),(171,5,1),(138,6,1),(4,7,1)]),
 (180,.array 2 3 1),
 (181,.slice 122 1),
 (186,.struct 0 []),
 (194,.int .i8),
 (199,.int .i8),
 (204,.int .i8),
 (205,.slice 199 1),
 (209,.slice 171 1),
 (212,.int .i64),
 (221,.pointer),
 (231,.pointer),
 (232,.struct 1 [(9,0,1)]),
 (233,.struct 1 [(9,0,1)]),
 (234,.int .u64),
 (235,.int .u64),
 (236,.struct 17 [(235,0,1),(235,1,1),(235,2,1),(235,3,1),(235,4,1),(235,5,1),(235,6,1),(235,7,1),(235,8,1),(235,9,1),(235,10,1),(235,11,1),(235,12,1),(235,13,1),(235,14,1),(138,15,1),(138,16,1)]),
 (237,.struct 17 [(235,0,1),(235,1,1),(235,2,1),(235,3,1),(235,4,1),(235,5,1),(235,6,1),(235,7,1),(235,8,1),(235,9,1),(235,10,1),(235,11,1),(235,12,1),(235,13,1),(235,14,1),(138,15,1),(138,16,1)]),
 (243,.slice 194 1),
 (250,.slice 180 2),
 (255,.int .i64),
 (262,.int .u32),
 (269,.array 256 5 1),
 (271,.map),
 (272,.map),
 (273,.array 8 9 1),
 (280,.slice 138 1),
 (282,.array 64 235 1),
 (285,.slice 83 1),
 (287,.map),
 (289,.array 218 141 11),
 (291,.slice 139 1),
 (293,.array 1 141 11),
 (294,.array 2 141 11),
 (300,.array 7 5 1),
 (305,.int .u64),
 (309,.pointer),
 (312,.pointer),
 (316,.array 128 194 1),
 (319,.int .i64),
 (322,.pointer),
 (326,.array 8 235 1),
 (329,.array 24 5 1),
 (336,.pointer),
 (338,.slice 343 3),
 (339,.slice 346 3),
 (340,.struct 3 [(338,0,1),(339,1,1),(3,2,1)]),
 (341,.struct 3 [(338,0,1),(339,1,1),(3,2,1)]),
 (342,.struct 3 [(135,0,1),(135,1,1),(135,2,1)]),
 (343,.struct 3 [(135,0,1),(135,1,1),(135,2,1)]),
 (345,.struct 3 [(262,0,1),(262,1,1),(262,2,1)]),
 (346,.struct 3 [(262,0,1),(262,1,1),(262,2,1)]),
 (350,.struct 3 [(9,0,1),(9,1,1),(80,2,1)]),
 (351,.struct 3 [(9,0,1),(9,1,1),(80,2,1)]),
 (354,.array 20 234 1),
 (355,.array 65 5 1),
 (360,.slice 378 5),
 (361,.pointer),
 (362,.pointer),
 (364,.struct 2 [(5,0,1),(5,1,1)]),
 (365,.struct 2 [(5,0,1),(5,1,1)]),
 (366,.array 16 365 2),
 (370,.pointer),
 (373,.array 32 5 1),
 (374,.array 64 5 1),
 (375,.array 3 21 1),
 (376,.array 3 21 1),
 (377,.struct 5 [(262,0,1),(262,1,1),(376,2,3)]),
 (378,.struct 5 [(262,0,1),(262,1,1),(376,2,3)]),
 (379,.pointer),
 (380,.pointer),
 (381,.struct 4 [(17,0,1),(17,1,1),(17,2,1),(9,3,1)]),
 (382,.struct 4 [(17,0,1),(17,1,1),(17,2,1),(9,3,1)]),
 (383,.array 0 16 1),
 (386,.int .u8),
 (387,.int .u8),
 (389,.int .i32),
 (390,.int .i32),
 (391,.struct 11 [(12,0,1),(12,1,1),(262,2,1),(386,3,1),(5,4,1),(5,5,1),(387,6,1),(388,7,1),(221,8,1),(389,9,1),(390,10,1)]),
 (392,.struct 11 [(12,0,1),(12,1,1),(262,2,1),(386,3,1),(5,4,1),(5,5,1),(387,6,1),(388,7,1),(221,8,1),(389,9,1),(390,10,1)]),
 (393,.struct 8 [(9,0,1),(9,1,1),(9,2,1),(9,3,1),(9,4,1),(9,5,1),(9,6,1),(9,7,1)]),
 (394,.struct 8 [(9,0,1),(9,1,1),(9,2,1),(9,3,1),(9,4,1),(9,5,1),(9,6,1),(9,7,1)]),
 (399,.pointer),
 (402,.array 256 139 1),
 (403,.struct 2 [(9,0,1),(80,1,1)]),
 (404,.struct 2 [(9,0,1),(80,1,1)]),
 (405,.slice 80 1),
 (406,.struct 2 [(9,0,1),(405,1,1)]),
 (407,.struct 2 [(9,0,1),(405,1,1)])]
def a8a (f:Nat):Bool:=(Nat.ble 2 f&&Nat.blt f 229)||(Nat.ble 230 f&&Nat.blt f 260)||(Nat.ble 261 f&&Nat.blt f 321)||(Nat.ble 341 f&&Nat.blt f 342)||(Nat.ble 343 f&&Nat.blt f 350)||(Nat.ble 351 f&&Nat.blt f 352)
theorem c0R:tab.all (fun x=>E.okD Tryz.prog x.1 x.2)=true:=by kernel_rfl
noncomputable def b8r (f:Nat):Bool:=match Tryz.prog.funcs[f]? with
 | some x=>x.body.isSome && !decide (x.name = "runtime.NumGoroutine")
 | none=>false
theorem b8s:(List.range 365).all (fun f=>!a8a f||b8r f)=true:=by kernel_rfl
theorem b8t:Tryz.prog.follows .mixedOrders=true:=by kernel_rfl
theorem b4f (f:Nat) (h:a8a f=true):f<365:=by
 unfold a8a at h;simp only [zj,zP,Nat.ble_eq,Nat.blt_eq] at h;omega
noncomputable def G:E.Prg where
 P:=Tryz.prog
 T:=tab
 fn:=a8a
 tab:=E.Tab.ok_of _ _ c0R
 mixed:=b8t
 enters:=by
  intro f hf;have h:=zl.1 b8s f (yr.2 (b4f f hf));simp only [hf,wJ,xp] at h;unfold b8r at h;split at h
  ·rename_i x hx;simp only [zP,zc,zZ] at h;exact ⟨x,hx,h.1,h.2⟩
  ·cases h
end
section
open Go Go.RowKit
open E
def Cl (w1 w:World):Prop:=Below w1.heap.size w1 w
theorem Cl.refl (w:World):Cl w w:=Below.refl _ _
theorem Cl.drew {w1 w:World} (h:Cl w1 w):Cl w1 w.drew:=Below.drew h
theorem Cl.step {w1 w w':World} (h:Cl w1 w) (h':Below w.heap.size w w'):Cl w1 w':=Below.trans h (h'.mono h.size)
theorem Cl.trans {w1 w w':World} (h:Cl w1 w) (h':Cl w w'):Cl w1 w':=h.step h'
theorem Cl.blk {w1 w:World} (h:Cl w1 w) {b:Nat} {o:Obj} (hb:w1.heap[b]?=some o):w.heap[b]?=some o:=by
 rw [h.block b ((yn.1 hb).1),hb]
theorem d8 (w:World) (o:Obj):(w.alloc o).heap[w.heap.size]?=some o:=by
 show (w.heap.push o)[w.heap.size]?=some o;simp
theorem C0 (w:World) (o:Obj):(w.alloc o).heap.size=w.heap.size+1:=by
 show (w.heap.push o).size=_;simp
theorem Cl.alloc (w:World) (o:Obj):Cl w (w.alloc o):=(Below.refl _ _).alloc (yO _) o
def N0 (v:Value) (w:World):Ending→World→Prop:=fun e w'=>e = .returned v∧Cl w w'
def E8 (v:Value) (w:World):Ending→World→Prop:=fun e w'=>e = .returned v∧w'=w
theorem N0.of {v:Value} {w:World} {e:Ending} {w':World} (h:E8 v w e w'):N0 v w e w':=⟨h.1,by rw [h.2];exact Cl.refl _⟩
theorem D6 {C:World→Prop} {f:Nat} {args:Array Value} {K:Value→Prop} (v:Value) (hC:∀ w w',C w→Cl w w'→C w')
  (h:∀ w,C w→Calls G.P f args w (N0 v w)) (hk:t7 v K):b5D G.P C f args (fun v=>t7 v K) :=
 ⟨v,fun w hw=>(h w hw).mono fun _ _ hr=>⟨hr.1,hC _ _ hw hr.2⟩,hk⟩
theorem o4 {C:World→Prop} {f:Nat} {args:Array Value} {K:Value→Prop} (v:Value)
  (h:∀ w,C w→Calls G.P f args w (E8 v w)) (hk:t7 v K):b5D G.P C f args (fun v=>t7 v K) :=
 ⟨v,fun w hw=>(h w hw).mono fun _ _ hr=>⟨hr.1,by rw [hr.2];exact hw⟩,hk⟩
theorem l9 {C:World→Prop} {t:Nat} {a:Addr} {K:Value→Prop} (v:Value) (h:∀ w,C w→m9 G.P w t a v) (hk:t7 v K):S3 G.P C t a (fun v=>t7 v K) :=
 ⟨v,h,hk⟩
theorem m8 {w:World} {f:Nat} {args:Array Value} {K:Value→World→Prop} {R:Ending→World→Prop} (h:Calls G.P f args w R) (hk:∀ e w',R e w'→∃ v,e = .returned v∧K v w'):b2p G.P f args w K :=
 ⟨h.mono hk⟩
theorem o7 {w:World} {f:Nat} {args:Array Value} {K:Value→World→Prop} {v:Value} (h:Calls G.P f args w (N0 v w)) (hk:∀ w',Cl w w'→K v w'):b2p G.P f args w K :=
 ⟨h.mono fun _ w' hr=>⟨v,hr.1,hk w' hr.2⟩⟩
theorem g7 {w:World} {f:Nat} {args:Array Value} {K:Value→World→Prop} {v:Value} (h:Calls G.P f args w (E8 v w)) (hk:K v w):b2p G.P f args w K :=
 ⟨h.mono fun _ w' hr=>⟨v,hr.1,by rw [hr.2];exact hk⟩⟩
def a8B:Option D→Bool
 | some (.array ..)|some (.struct ..)|none=>false
 | _=>true
theorem c0S {t:Nat} {d:D} (hd:X0 G.T t=some d) (h1:a8B (some d)=true) (w:World):(isAgg t).run G.P w = .ok false w:=by
 have h:=G.tab _ _ hd;unfold isAgg;cases d<;>simp [a8B] at h1<;>simp only [okD] at h
 case slice=>obtain ⟨h,_⟩:=a4n (G.tab _ _ hd);simp [run_underlying h]
 all_goals
  split at h
  ·rename_i hu;simp [run_underlying hu]
  ·cases h
theorem D2 {w:World} {b i:Nat} {cs:Array Value} {t:Nat} {fz:Nat×Nat} (hb:w.heap[b]?=some (.cells cs t fz)):w.cell? ⟨b,i,none⟩=cs[i]?:=by
 simp [World.cell?,hb]
theorem ld1 {w:World} {t b i:Nat} {v:Value} (ht:a8B (X0 G.T t)=true) (hc:w.cell? ⟨b,i,none⟩=some v):m9 G.P w t ⟨b,i,none⟩ v:=by
 cases hd:X0 G.T t with
 | none=>rw [hd] at ht;cases ht
 | some d =>
  rw [hd] at ht;unfold m9 Instr.loadAt loadVar;simp [Instr.sureAddr,c0S hd ht w,hc]
theorem D9 {w:World} {t b i:Nat} {v:Value} {cs:Array Value} {u:Nat} {fz:Nat×Nat} (hb:w.heap[b]?=some (.cells cs u fz)) (hi:cs[i]?=some v) (ht:a8B (X0 G.T t)=true):m9 G.P w t ⟨b,i,none⟩ v :=
 ld1 ht (by rw [D2 hb,hi])
end
section
structure g9 where
 board:List Int
 len:board.length=64
 turn:Int
 castle:Int
 ep:Int
 half:Int
 full:Int
structure Mv where
 fr:Int
 to:Int
 promo:Int
 deriving DecidableEq
namespace Ch
def a0B (x:Int):Int:=if x>6 then x-6 else x
def A2 (x:Int):Int:=if x>6 then 1 else 0
def o5 (s:Int):Int:=s%8
def l8 (s:Int):Int:=s/8
def K7 (f r:Int):Int:=if f<0∨f>7∨r<0∨r>7 then -1 else 8*r+f
def up (s:Int):Int:=1-2*s
def sign (n:Int):Int:=if n<0 then -1 else if n>0 then 1 else 0
def sq (p:g9) (i:Int):Int:=p.board.getD i.toNat 0
def free (p:g9) (i way:Int):Nat→Bool
 | 0=>true
 | n+1=>sq p (i+way)==0&&free p (i+way) way n
def a6C (f r:Int):Nat:=(max f.natAbs r.natAbs)-1
def hits (p:g9) (fr to:Int):Bool :=
 let f:=o5 to-o5 fr;let r:=l8 to-l8 fr;let k:=a0B (sq p fr)
 if fr=to∨sq p fr=0 then false
 else if k=1 then decide (f*f≤1)&&decide (r*r≤1)
 else if k=5 then decide (f*f+r*r=5)
 else if k=6 then decide (f*f=1)&&decide (r=up (A2 (sq p fr)))
 else
  let straight:=(decide (f=0)||decide (r=0)) && !decide (k=4)
  let slanting:=(decide (f=r)||decide (f=-r)) && !decide (k=3)
  if !straight && !slanting then false else free p fr (sign f+8*sign r) (a6C f r)
def b30 (f:Nat→Bool):Nat→Bool
 | 0=>false
 | n+1=>b30 f n||f n
def a67 (f:Nat→Bool):Nat→Nat
 | 0=>0
 | n+1=>a67 f n+(if f n then 1 else 0)
def a0u (f:Nat→Bool):Nat→Option Nat
 | 0=>none
 | n+1=>match a0u f n with
  | some i=>some i
  | none=>if f n then some n else none
theorem a3I (f:Nat→Bool) (n:Nat):b30 f n=true↔∃ i,i<n∧f i=true:=by
 induction n with
 | zero=>simp [b30]
 | succ n ih =>
  simp only [b30,zj,ih];constructor
  ·rintro (⟨i,h1,h2⟩|h)
   ·exact ⟨i,zo,h2⟩
   ·exact ⟨n,zo,h⟩
  ·rintro ⟨i,h1,h2⟩;by_cases hi:i=n
   ·subst hi;exact .inr h2
   ·exact .inl ⟨i,zo,h2⟩
theorem a4s {f:Nat→Bool} {n i:Nat} (h:i<n) (hf:f i=true):b30 f n=true:=(a3I f n).2 ⟨i,h,hf⟩
theorem b1n (f:Nat→Bool) (n:Nat):a67 f n≤n:=by
 induction n with
 | zero=>simp [a67]
 | succ n ih=>simp only [a67];split<;>omega
theorem b0n {f:Nat→Bool} {n i:Nat} (h:a0u f n=some i):i<n∧f i=true:=by
 induction n with
 | zero=>cases h
 | succ n ih =>
  unfold a0u at h;split at h
  ·rename_i j hj;cases h;have:=ih hj;exact ⟨zo,this.2⟩
  ·split at h
   ·cases h;rename_i hf;exact ⟨zo,hf⟩
   ·cases h
theorem b6M {f:Nat→Bool} {k n:Nat} (h:a0u f k=none) (hf:f k=true) (hk:k<n):a0u f n=some k:=by
 induction n with
 | zero=>omega
 | succ n ih =>
  unfold a0u;by_cases hkn:k=n
  ·subst hkn;simp [h,hf]
  ·rw [ih zo]
def count (p:g9) (kind side:Int):Nat:=a67 (fun i=>decide (sq p i=kind+6*side)) 64
def a2J (p:g9) (side:Int):Int:=match a0u (fun i=>decide (sq p i=1+6*side)) 64 with
 | some i=>i
 | none=>-1
theorem D1 (p:g9) (side:Int):-1≤a2J p side∧a2J p side≤63:=by
 unfold a2J;split
 ·rename_i i hi;have:=(b0n hi).1;omega
 ·omega
def a36 (p:g9) (s:Int) (by':Int) (i:Nat):Bool:=!decide (sq p i=0)&&decide (A2 (sq p i)=by')&&hits p i s
def C2 (p:g9) (s:Int) (by':Int):Bool:=b30 (a36 p s by') 64
def checked (p:g9) (side:Int):Bool:=decide (0≤a2J p side)&&C2 p (a2J p side) (1-side)
def a1i (p:g9):Bool:=checked p p.turn
def a2s (right:Int):Int:=K7 4 (7*(right/2))
def A9 (right:Int):Int:=if right%2=0 then K7 7 (7*(right/2)) else K7 0 (7*(right/2))
def W3 (n:Int) (i:Nat):Bool:=n.toNat.testBit i
def Y2 (p:g9):Nat→Int
 | 0=>0
 | n+1=>Y2 p n+(if W3 p.castle n&&decide (sq p (a2s n)=1+6*((n:Int)/2))&&decide (sq p (A9 n)=3+6*((n:Int)/2)) then (2:Int)^n else 0)
def rights (p:g9):Int:=Y2 p 4
def P8 (p:g9):Bool :=
 if p.ep<0∨63<p.ep then decide (p.ep=-1) else
 let up:=1-2*p.turn;let f:=o5 p.ep;let r:=l8 p.ep
 if r≠5-3*p.turn∨sq p p.ep≠0 then false else
 decide (sq p (K7 f (r-up))=6+6*(1-p.turn))&&decide (sq p (K7 f (r+up))=0)
def L4 (p:g9) (i:Nat):Bool:=!(decide (sq p i<0)||decide (12<sq p i)||(decide (a0B (sq p i)=6) && !decide (sq p i=0)&&(decide (l8 i=0)||decide (l8 i=7))))
def valid (p:g9):Bool :=
 !b30 (fun i=>!L4 p i) 64 &&
 !((!decide (p.turn=0) && !decide (p.turn=1))||decide (p.castle<0)||decide (15<p.castle)||decide (p.half<0)||decide (p.full<1)) &&
 !(!decide (count p 1 0=1) || !decide (count p 1 1=1) || !decide (rights p=p.castle) || !P8 p) &&
 !C2 p (a2J p (1-p.turn)) p.turn
end Ch
end
section
open Go Go.RowKit
open E
def Z2 (p:g9):List Value:=p.board.map (Value.int .i64)++[.int .i64 p.turn,.int .i64 p.castle,.int .i64 p.ep,.int .i64 p.half,.int .i64 p.full]
def t8 (p:g9):Array Value:=(Z2 p).toArray
def F5 (p:g9):Value:=.agg (t8 p)
def Z3 (m:Mv):Array Value:=#[.int .i64 m.fr,.int .i64 m.to,.int .i64 m.promo]
def mvV (m:Mv):Value:=.agg (Z3 m)
theorem z8 (p:g9):(t8 p).size=69:=by simp [t8,Z2,p.len]
theorem a0G (p:g9) (i:Nat) (h:i<64):(t8 p)[i]?=some (.int .i64 (Ch.sq p i)):=by
 have hl:i<(p.board.map (Value.int .i64)).length:=by simp [p.len,h]
 have h2:i<p.board.length:=by rw [p.len];exact h
 simp only [t8,Z2,List.getElem?_toArray];rw [List.getElem?_append_left hl,List.getElem?_map];simp [Ch.sq,xA,h2]
theorem H5 (p:g9) (i:Nat) (h:64≤i):(t8 p)[i]?=([.int .i64 p.turn,.int .i64 p.castle,.int .i64 p.ep,.int .i64 p.half,.int .i64 p.full]:List Value)[i-64]?:=by
 simp only [t8,Z2,List.getElem?_toArray];rw [List.getElem?_append_right (by simp [p.len];exact h)]
 simp [p.len]
theorem b1o {p:g9} {w:World} {b t i:Nat} {fz:Nat×Nat} (hb:w.heap[b]?=some (.cells (t8 p) t fz)) (m:Int) (h0:0≤m) (h1:m<64) (hi:i=m.toNat) :
  m9 G.P w 3 ⟨b,i,none⟩ (.int .i64 (Ch.sq p m)):=by
 subst hi;refine D9 hb ?_ rfl;rw [a0G p _ zo,zi h0]
theorem P5 {p:g9} {w:World} {b t:Nat} {fz:Nat×Nat} (hb:w.heap[b]?=some (.cells (t8 p) t fz)) (m:Int) (h0:0≤m) (h1:m<64) :
  m9 G.P w 3 ⟨b,E.U0 0 m.toNat 1,none⟩ (.int .i64 (Ch.sq p m)):=b1o hb m h0 h1 rfl
theorem I0 {p:g9} {w:World} {b t:Nat} {fz:Nat×Nat} (hb:w.heap[b]?=some (.cells (t8 p) t fz)):m9 G.P w 3 ⟨b,64,none⟩ (.int .i64 p.turn):=D9 hb (by rw [H5 p _ zd];rfl) rfl
theorem a2b {p:g9} {w:World} {b t:Nat} {fz:Nat×Nat} (hb:w.heap[b]?=some (.cells (t8 p) t fz)):m9 G.P w 3 ⟨b,65,none⟩ (.int .i64 p.castle):=D9 hb (by rw [H5 p _ zd];rfl) rfl
theorem a5l {p:g9} {w:World} {b t:Nat} {fz:Nat×Nat} (hb:w.heap[b]?=some (.cells (t8 p) t fz)):m9 G.P w 3 ⟨b,66,none⟩ (.int .i64 p.ep):=D9 hb (by rw [H5 p _ zd];rfl) rfl
theorem a8C {p:g9} {w:World} {b t:Nat} {fz:Nat×Nat} (hb:w.heap[b]?=some (.cells (t8 p) t fz)):m9 G.P w 3 ⟨b,67,none⟩ (.int .i64 p.half):=D9 hb (by rw [H5 p _ zd];rfl) rfl
theorem b1p {p:g9} {w:World} {b t:Nat} {fz:Nat×Nat} (hb:w.heap[b]?=some (.cells (t8 p) t fz)):m9 G.P w 3 ⟨b,68,none⟩ (.int .i64 p.full):=D9 hb (by rw [H5 p _ zd];rfl) rfl
theorem a9V {w:World} {b:Nat} {cs:Array Value} {u:Nat} {fz:Nat×Nat} (hb:w.heap[b]?=some (.cells cs u fz)) :
  ∀ (n i o:Nat) (acc:Array Value),o+i+n≤cs.size→(loadCellsFrom ⟨b,o,none⟩ i n acc).run G.P w = .ok (acc++cs.extract (o+i) (o+i+n)) w:=by
 intro n
 induction n with
 | zero=>intro i o acc _;simp [loadCellsFrom];omega
 | succ n ih =>
  intro i o acc h;unfold loadCellsFrom;have hc:w.cell? ((⟨b,o,none⟩:Addr).add i)=some cs[o+i]:=by
   rw [H6,D2 hb,we]
  simp only [yq,run_load,hc,yx];rw [ih (i+1) o _ zo];congr 1;rw [Array.push_eq_append,Array.append_assoc];congr 1;have:cs.extract (o+i) (o+i+(n+1))=#[cs[o+i]]++cs.extract (o+i+1) (o+i+(n+1)):=by
   apply Array.ext
   ·simp;omega
   ·intro j h1 h2;cases j with
    | zero=>simp
    | succ j=>simp;congr 1;omega
  rw [this];congr 2<;>omega
theorem ldA {w:World} {t b o z:Nat} {cs:Array Value} {u:Nat} {fz:Nat×Nat} (hb:w.heap[b]?=some (.cells cs u fz)) (ht:(match X0 G.T t with|some (.struct z' _)=>decide (z'=z)|some (.array n _ z')=>decide (n*z'=z)|_=>false)=true) (hz:o+z≤cs.size) :
  m9 G.P w t ⟨b,o,none⟩ (.agg (cs.extract o (o+z))):=by
 unfold m9 Instr.loadAt loadVar;have h:(isAgg t).run G.P w = .ok true w∧(sizeOf t).run G.P w = .ok z w:=by
  split at ht
  ·rename_i z' fs hd;obtain ⟨f,h1,h2,_⟩:=a2a (G.tab _ _ hd);rw [yF ht] at h2;exact ⟨by unfold isAgg;simp [run_underlying h1],E.X9 h2⟩
  ·rename_i n el z' hd;obtain ⟨h1,_,h3⟩:=a4o (G.tab _ _ hd);rw [yF ht] at h3;exact ⟨by unfold isAgg;simp [run_underlying h1],E.X9 h3⟩
  ·cases ht
 have:=a9V hb z 0 o #[] zo;simp only [Nat.add_zero,Array.empty_append] at this;simp [Instr.sureAddr,h.1,h.2,loadCells,this]
theorem A4 {p:g9} {w:World} {b:Nat} {u:Nat} {fz:Nat×Nat} (hb:w.heap[b]?=some (.cells (t8 p) u fz)):m9 G.P w 24 ⟨b,0,none⟩ (F5 p):=by
 have:=ldA (t:=24) (o:=0) (z:=69) hb rfl (by rw [z8];decide)
 rw [show (t8 p).extract 0 (0+69)=t8 p by rw [← z8 p];simp] at this
 exact this
theorem V5 {m:Mv} {w:World} {b:Nat} {u:Nat} {fz:Nat×Nat} (hb:w.heap[b]?=some (.cells (Z3 m) u fz)):m9 G.P w 36 ⟨b,0,none⟩ (mvV m):=by
 have:=ldA (t:=36) (o:=0) (z:=3) hb rfl (by simp [Z3])
 exact this
theorem O1 {m:Mv} {w:World} {b t:Nat} {fz:Nat×Nat} (hb:w.heap[b]?=some (.cells (Z3 m) t fz)):m9 G.P w 3 ⟨b,0,none⟩ (.int .i64 m.fr):=D9 hb rfl rfl
theorem a0v {m:Mv} {w:World} {b t:Nat} {fz:Nat×Nat} (hb:w.heap[b]?=some (.cells (Z3 m) t fz)):m9 G.P w 3 ⟨b,1,none⟩ (.int .i64 m.to):=D9 hb rfl rfl
theorem U4 {m:Mv} {w:World} {b t:Nat} {fz:Nat×Nat} (hb:w.heap[b]?=some (.cells (Z3 m) t fz)):m9 G.P w 3 ⟨b,2,none⟩ (.int .i64 m.promo):=D9 hb rfl rfl
structure H0 (t e size bytes:Nat):Prop where
 ty:G.P.underlying t=some (.slice e)
 info:∃ i z,G.P.info? e=some i∧i.zero=some z∧i.size=size∧i.bytes=bytes∧z.cells.size=size
 pos:0<size
noncomputable def c2Y (t e size bytes:Nat):Bool :=
 (match G.P.underlying t with|some (.slice e')=>Nat.beq e' e|_=>false) &&
 (match G.P.info? e with|some i=>(match i.zero with|some z=>Nat.beq i.size size&&Nat.beq i.bytes bytes&&Nat.beq z.cells.size size|none=>false)|none=>false)&&Nat.blt 0 size
theorem U5 {t e size bytes:Nat} (h:c2Y t e size bytes=true):H0 t e size bytes:=by
 simp only [c2Y,zP] at h;obtain ⟨⟨h1,h2⟩,h3⟩:=h;refine ⟨?_,?_,by simpa using h3⟩
 ·split at h1
  ·rename_i e' he;rw [he,zu h1]
  ·cases h1
 ·split at h2
  ·rename_i i hi;split at h2
   ·rename_i z hz;simp only [zP] at h2;exact ⟨i,z,hi,hz,zu h2.1.1,zu h2.1.2,zu h2.2⟩
   ·cases h2
  ·cases h2
theorem O2:H0 43 3 1 8:=U5 zk
theorem a8D:H0 25 36 3 24:=U5 zk
def Row {α:Type} (e z:Nat) (enc:α→List Value) (b0:Nat) (w:World) (v:Value) (l:List α):Prop :=
 w.ownsRow b0 e z v l.length (l.flatMap enc)
def S5 (n:Int):List Value:=[.int .i64 n]
def N3 (m:Mv):List Value:=[.int .i64 m.fr,.int .i64 m.to,.int .i64 m.promo]
section row
variable {α:Type} {e z b0:Nat} {enc:α→List Value} {w w':World} {v:Value} {l:List α}
theorem Row.nil (w:World) (b0:Nat):Row e z enc b0 w (.slice none 0 0) []:=⟨by simp,.inl ⟨rfl,rfl⟩⟩
theorem Row.step (h:Row e z enc b0 w v l) (hc:Cl w w'):Row e z enc b0 w' v l:=by
 refine ⟨h.1,?_⟩;rcases h.2 with h2|⟨g,cap,cur,h1,h2,h3,h4⟩
 ·exact .inl h2
 ·exact .inr ⟨g,cap,cur,h1,h2,hc.blk h3,h4⟩
theorem Row.mono (h:Row e z enc b0 w v l) {b1:Nat} (hb:b1≤b0):Row e z enc b1 w v l:=by
 refine ⟨h.1,?_⟩;rcases h.2 with h2|⟨g,cap,cur,h1,h2,h3,h4⟩
 ·exact .inl h2
 ·exact .inr ⟨g,cap,cur,h1,zo,h3,h4⟩
theorem a3J (henc:∀ x,(enc x).length=z):∀ (l:List α) (i k:Nat) (hi:i<l.length),k<z→(l.flatMap enc)[i*z+k]?=(enc l[i])[k]?:=by
 intro l
 induction l with
 | nil=>intro i k hi;simp at hi
 | cons x r ih =>
  intro i k hi hk;rw [xj];cases i with
  | zero=>rw [List.getElem?_append_left (by rw [henc];omega)];simp
  | succ i =>
   rw [List.getElem?_append_right (by rw [henc,wV];omega)]
   rw [henc,show (i+1)*z+k-z=i*z+k by rw [wV];omega]
   rw [ih i k (by simpa using hi) hk];simp
theorem Row.form (h:Row e z enc b0 w v l):∃ a c,v = .slice a l.length c∧(0<l.length→∃ g,a=some ⟨g,0,none⟩):=by
 rcases h.2 with ⟨h1,h2⟩|⟨g,cap,cur,h1,_⟩
 ·exact ⟨none,0,by rw [h1,h2],zo⟩
 ·exact ⟨_,cap,h1,fun _=>⟨g,rfl⟩⟩
theorem Row.get {g c n:Nat} (h:Row e z enc b0 w (.slice (some ⟨g,0,none⟩) n c) l) (henc:∀ x,(enc x).length=z) (i k:Nat) (hi:i<l.length) (hk:k<z) :
  ∃ cur,w.heap[g]?=some (.cells cur e (0,0))∧cur[i*z+k]?=(enc l[i])[k]?:=by
 rcases h.2 with ⟨h1,h2⟩|⟨g',cap,cur,h1,h2,h3,h4,h5,h6,h7⟩
 ·cases h1
 ·injection h1 with e1 e2 e3;injection e1 with e1;injection e1 with e1 _ _;subst e1;subst e3;refine ⟨cur,h3,?_⟩;rw [← a3J henc l i k hi hk,← h7,xq,zM,xM];have:(i+1)*z≤l.length*z:=xY _ zo;rw [wV] at this;omega
theorem Row.getAll {g c n:Nat} (h:Row e z enc b0 w (.slice (some ⟨g,0,none⟩) n c) l) (henc:∀ x,(enc x).length=z) (i:Nat) (hi:i<l.length) :
  ∃ cur,w.heap[g]?=some (.cells cur e (0,0))∧i*z+z≤cur.size∧cur.extract (i*z) (i*z+z)=(enc l[i]).toArray:=by
 rcases h.2 with ⟨h1,h2⟩|⟨g',cap,cur,h1,h2,h3,h4,h5,h6,h7⟩
 ·cases h1
 ·injection h1 with e1 e2 e3;injection e1 with e1;injection e1 with e1 _ _;subst e1;subst e3;have hle:(i+1)*z≤l.length*z:=xY _ zo;rw [wV] at hle;have hsz:l.length*z≤cur.size:=by rw [h6];exact xY _ h4
  refine ⟨cur,h3,zo,?_⟩;apply xX.1;apply List.ext_getElem?;intro k;by_cases hk:k<z
  ·rw [← a3J henc l i k hi hk,← h7,xq,zM zo];simp [xM,hk]
  ·rw [xS (by simp;omega),xS (by simp [henc];omega)]
end row
theorem A8 {t e z b:Nat} (E1:H0 t e z b) (vs:List Value) {dst:Option Nat} {parts:Array (Nat×Operand)} {n ty:Nat} {pos:String} {af:Array Edge} {gd:Option (Nat×Bool)} {env:C9} {w:World} {K:Value→World→Prop}
  (hp:(parts.map fun (i,x)=>(i,ev env x)).toList=(vs.zipIdx 0).map fun x=>(x.2,x.1)) (hz:∀ v∈vs,v.cells.size=z) (hl:vs.length=n) (hn:0<n) (hb:n*z≤1000)
  (h:K (.slice (some ⟨w.heap.size,0,none⟩) n n) (w.alloc (.cells (vs.flatMap fun v=>v.cells.toList).toArray e))) :
  L6 G.P { dst,op:=.buildSlice t n parts,type:=ty,pos,after:=af,guard:=gd } env w K:=by
 refine ⟨.inl ⟨_,_,?_,h⟩⟩;obtain ⟨i,zv,hi,hzv,hsz,hby,hzs⟩:=E1.info;have hpz:=E1.pos;subst hsz;have hne:n*i.size≠0:=Nat.mul_ne_zero zo zo;show (do pure (Next.value (← Instr.buildSlice t n (parts.map fun (i,x)=>(i,ev env x)))):Sem Next).run G.P w=_
 have h2:=run_buildSlice (P:=G.P) w t e n (parts.map fun (i,x)=>(i,ev env x)) _ i zv E1.ty hi hzv zo hne (by rw [hp];exact Go.Great.fill_whole hpz vs _ hz (by simp [hl]))
 rw [yq,h2];rfl
theorem c0T {α:Type} {t e z b:Nat} (E1:H0 t e z b) {enc:α→List Value} {b0:Nat} {v:Value} {l news:List α} {dst:Option Nat} {s x:Operand} {ty:Nat} {pos:String} {af:Array Edge} {gd:Option (Nat×Bool)} {env:C9} {w:World} {K:Value→World→Prop}
  {B c:Nat} {fz:Nat×Nat} {u:Nat} {cs:Array Value}
  (hs:ev env s=v) (hrow:Row e z enc b0 w v l) (hx:ev env x = .slice (some ⟨B,0,none⟩) news.length c) (hB:w.heap[B]?=some (.cells cs u fz)) (hcs:cs.toList=news.flatMap enc) (henc:∀ x,(enc x).length=z)
  (hone:∀ x,∀ u∈enc x,u.oneCell'=true) (hlen:l.length+news.length≤100000) (hbz:b≤1000) (hb0:b0≤w.heap.size)
  (h:∀ v' w',Row e z enc b0 w' v' (l++news)→(∀ w0,w0.heap.size=b0→Cl w0 w→Cl w0 w')→K v' w') :
  L6 G.P { dst,op:=.call { callee:=.builtin .append,args:=#[s,x],argTypes:=#[t,t] },type:=ty,pos,after:=af,guard:=gd } env w K:=by
 obtain ⟨i,zv,hi,hzv,hsz,hby,hzs⟩:=E1.info;obtain ⟨v',w',h1,h2,h3,_⟩:=run_append_own (P:=G.P) w b0 t ty e i zv z b E1.ty hi hzv hsz hby hzs E1.pos v l.length (l.flatMap enc) hrow ⟨B,0,none⟩ news.length c (news.flatMap enc)
  (by clear hcs hx h hlen;induction news with
   | nil=>simp
   | cons x r ih=>rw [xj,zF,henc,ih,zh,wV];omega)
  (fun j u' hu=>by
   rw [H6,D2 hB,yZ,← xM,hcs];exact hu)
  (fun u hu=>by obtain ⟨x,_,hx⟩:=xV.1 hu;exact hone x u hx)
  (by unfold maxLen;omega) (by
   have:(l.length+news.length)*b≤100000*1000:=Nat.mul_le_mul hlen hbz;omega) hb0
 refine ⟨.inl ⟨v',w',?_,h v' w' ⟨h2.1 |> fun _=>?_,?_⟩ fun w0 hw0 hc=>?_⟩⟩
 ·simp only [execOp,resolve,invoke,builtin,yq,xi,yx,xW,yU,xn,hs,hx,h1]
 ·have:=h2.1;simpa using this
 ·have:=h2.2;simpa using this
 ·subst hw0;refine Below.grown hc h3 hb0 fun k hk=>?_;rcases hrow.2 with ⟨e1,_⟩|⟨g,cap,cur,e1,e2,_⟩
  ·rw [e1] at hk;cases hk
  ·rw [e1] at hk;injection hk with hk;subst hk;exact e2
end
section
namespace Ch
def put (p:g9) (i x:Int):g9:={ p with board:=p.board.set i.toNat x,len:=by simp [p.len] }
@[simp] theorem c5e (p:g9) (i x:Int):(put p i x).turn=p.turn:=rfl
@[simp] theorem c38 (p:g9) (i x:Int):(put p i x).castle=p.castle:=rfl
@[simp] theorem c66 (p:g9) (i x:Int):(put p i x).ep=p.ep:=rfl
@[simp] theorem c5f (p:g9) (i x:Int):(put p i x).half=p.half:=rfl
@[simp] theorem c5g (p:g9) (i x:Int):(put p i x).full=p.full:=rfl
theorem a3k (p:g9) (i x j:Int) (h0:0≤i) (h1:i<64) (h2:0≤j):sq (put p i x) j=if i=j then x else sq p j:=by
 unfold sq put;simp only [xA,List.getElem?_set];by_cases h:i=j
 ·subst h;rw [zM rfl,zM rfl,zM (by rw [p.len];omega)];rfl
 ·rw [zJ zo,zJ h]
def straight:List (Int×Int):=[(0,1),(1,0),(0,-1),(-1,0)]
def slanting:List (Int×Int):=[(1,1),(1,-1),(-1,-1),(-1,1)]
def jumps:List (Int×Int):=[(1,2),(2,1),(2,-1),(1,-2),(-1,-2),(-2,-1),(-2,1),(-1,2)]
def a7O (k:Int):List (Int×Int):=if k=1∨k=2 then straight++slanting else if k=3 then straight else if k=4 then slanting else jumps
def far (k:Int):Bool:=decide (k=2)||decide (k=3)||decide (k=4)
def ray (p:g9) (fr dx dy:Int) (far:Bool):Nat→Nat→List Int
 | 0,_=>[]
 | k+1,n =>
  let to:=K7 (o5 fr+n*dx) (l8 fr+n*dy)
  if to<0 then [] else if !far || !decide (sq p to=0) then [to] else to::ray p fr dx dy far k (n+1)
def a5L (p:g9) (fr:Int):List Int:=(a7O (a0B (sq p fr))).flatMap fun d=>ray p fr d.1 d.2 (far (a0B (sq p fr))) 7 1
def a2w (fr side d:Int):List Int:=if 0≤K7 (o5 fr+d) (l8 fr+up side) then [K7 (o5 fr+d) (l8 fr+up side)] else []
def O3 (fr side:Int):List Int:=a2w fr side (-1)++a2w fr side 1
def L5 (p:g9) (side to:Int):Bool :=
 (!decide (sq p to=0) && !decide (A2 (sq p to)=side))||(decide (sq p to=0)&&decide (to=p.ep)&&decide (l8 to=5-3*side))
def Y3 (p:g9) (fr side:Int):List Int :=
 let one:=K7 (o5 fr) (l8 fr+up side)
 if 0≤one∧sq p one=0 then
  let two:=K7 (o5 fr) (l8 fr+2*up side)
  if l8 fr=1+5*side∧sq p two=0 then [one,two] else [one]
 else []
def W1 (p:g9) (fr:Int):List Int :=
 let side:=A2 (sq p fr)
 Y3 p fr side++(O3 fr side).filter (L5 p side)
def a3l (p:g9) (right:Int):Bool :=
 let k:=a2s right;let r:=A9 right;let way:Int:=if r<k then -1 else 1
 !C2 p (k+way) (1-p.turn)&&free p k way (a6C (r-k) 0)
def a1L (p:g9) (right:Nat):Bool :=
 W3 (rights p) right && !C2 p (a2s right) (1-p.turn)&&a3l p right
def s9 (right:Int):Mv:=⟨a2s right,a2s right+2*(if A9 right<a2s right then -1 else 1),0⟩
def W2 (p:g9) (right:Nat):List Mv:=if a1L p right then [s9 right] else []
def a1A (p:g9):List Mv:=W2 p (2*p.turn).toNat++W2 p ((2*p.turn).toNat+1)
def a3K (fr to:Int):List Mv:=[⟨fr,to,2⟩,⟨fr,to,3⟩,⟨fr,to,4⟩,⟨fr,to,5⟩]
def P1 (p:g9) (fr to:Int):List Mv :=
 if sq p to≠0∧A2 (sq p to)=p.turn then []
 else if a0B (sq p fr)≠6∨l8 to≠7-7*p.turn then [⟨fr,to,0⟩] else a3K fr to
def a0i (p:g9) (fr:Int):List Int:=if a0B (sq p fr)=6 then W1 p fr else a5L p fr
def S6 (p:g9) (fr:Int):List Mv:=if sq p fr=0∨A2 (sq p fr)≠p.turn then [] else (a0i p fr).flatMap (P1 p fr)
def N5 (p:g9):Nat→List Mv
 | 0=>[]
 | n+1=>N5 p n++S6 p n
def a3m (p:g9):List Mv:=N5 p 64++a1A p
def a1r (p:g9) (m:Mv):Bool:=!decide (sq p m.to=0)||(decide (a0B (sq p m.fr)=6) && !decide (o5 m.fr=o5 m.to))
def H9 (p:g9) (m:Mv):Int:=if sq p m.to≠0 then m.to else if a1r p m then K7 (o5 m.to) (l8 m.fr) else -1
def Y4 (p:g9) (m:Mv):Bool:=decide (a0B (sq p m.fr)=1)&&(decide (m.to=m.fr+2)||decide (m.to=m.fr-2))
def a0e (castle:Int) (m:Mv):Nat→Int
 | 0=>castle
 | n+1=>if W3 (a0e castle m n) n&&(decide (m.fr=a2s n)||decide (m.fr=A9 n)||decide (m.to=a2s n)||decide (m.to=A9 n)) then a0e castle m n-(2:Int)^n else a0e castle m n
def left (castle:Int) (m:Mv):Int:=a0e castle m 4
def a3L (p:g9) (m:Mv):g9:=if a1r p m then put p (H9 p m) 0 else p
def a3M (p:g9) (m:Mv):g9:=put (put (a3L p m) m.fr 0) m.to (sq p m.fr)
def a2c (p:g9) (m:Mv):g9:=if m.promo≠0 then put (a3M p m) m.to (m.promo+6*p.turn) else a3M p m
def P9 (p:g9) (m:Mv):g9 :=
 if Y4 p m then put (put (a2c p m) (if m.to<m.fr then K7 0 (l8 m.fr) else K7 7 (l8 m.fr)) 0) ((m.fr+m.to)/2) (3+6*p.turn) else a2c p m
def I7 (p:g9) (m:Mv):Bool:=decide (a0B (sq p m.fr)=6)&&(decide (m.to=m.fr+16)||decide (m.to=m.fr-16))
def made (p:g9) (m:Mv):g9 :=
 { P9 p m with
  castle:=left p.castle m
  ep:=if I7 p m then (m.fr+m.to)/2 else -1
  half:=if a1r p m||decide (a0B (sq p m.fr)=6) then 0 else p.half+1
  full:=p.full+p.turn
  turn:=1-p.turn }
def a5M (p:g9) (m:Mv):Bool :=
 let at_:=if m.fr=a2J p p.turn then m.to else a2J p p.turn
 decide (at_<0) || !C2 (made p m) at_ (1-p.turn)
def p9 (p:g9):List Mv:=(a3m p).filter (a5M p)
def a66 (p:g9) (m:Mv):Bool:=decide (m∈p9 p)
end Ch
end
section
open Go Go.RowKit
open E
theorem V6:(G.P.info? 3).map (·.size)=some 1:=by kernel_rfl
theorem a14:(G.P.info? 24).map (·.size)=some 69:=by kernel_rfl
theorem b4g:(G.P.info? 36).map (·.size)=some 3:=by kernel_rfl
structure Upd (w:World) (b:Nat) (o:Obj) (w':World):Prop where
 os:w'.os=w.os
 tape:w'.tape=w.tape
 output:w'.output=w.output
 size:w'.heap.size=w.heap.size
 at_:w'.heap[b]?=some o
 else_:∀ k,k≠b→w'.heap[k]?=w.heap[k]?
theorem Upd.cl {w0 w w':World} {b:Nat} {o:Obj} (h:Upd w b o w') (hc:Cl w0 w) (hb:w0.heap.size≤b):Cl w0 w' :=
 Below.trans hc ⟨h.os,h.tape,h.output,by rw [h.size];exact yO _,fun k hk=>h.else_ k zo⟩
theorem Upd.trans {w w1 w2:World} {b:Nat} {o o':Obj} (h:Upd w b o w1) (h':Upd w1 b o' w2):Upd w b o' w2 :=
 ⟨h'.os.trans h.os,h'.tape.trans h.tape,h'.output.trans h.output,h'.size.trans h.size,h'.at_,fun k hk=>(h'.else_ k hk).trans (h.else_ k hk)⟩
def J3 (cs:Array Value):Nat→List Value→Array Value
 | _,[]=>cs
 | o,v::r=>J3 (cs.setIfInBounds o v) (o+1) r
theorem F8 (l:List Value):∀ (cs:Array Value) (o:Nat),(J3 cs o l).size=cs.size:=by
 induction l with
 | nil=>intros;rfl
 | cons v r ih=>intro cs o;simp [J3,ih]
theorem O4 (l:List Value):∀ (cs:Array Value) (o k:Nat),o+l.length≤cs.size→(J3 cs o l)[k]?=if o≤k∧k<o+l.length then l[k-o]? else cs[k]?:=by
 induction l with
 | nil=>intro cs o k _;simp [J3];omega
 | cons v r ih =>
  intro cs o k h;simp only [zh] at h;rw [J3,ih _ _ _ (by simp;omega)]
  simp only [zh];by_cases h1:k=o
  ·subst h1;rw [zJ zo,zM zo,Array.getElem?_setIfInBounds_self_of_lt zo];simp
  ·by_cases h2:o+1≤k∧k<o+1+r.length
   ·rw [zM h2,zM zo];obtain ⟨j,hj⟩:∃ j,k-o=j+1:=⟨k-o-1,zo⟩;rw [hj,show k-(o+1)=j by omega];simp
   ·rw [zJ h2,zJ zo,Array.getElem?_setIfInBounds_ne (wY h1)]
theorem B5 (cs:Array Value) (l:List Value) (h:l.length=cs.size):J3 cs 0 l=l.toArray:=by
 apply wH;intro k;rw [O4 l cs 0 k zo];by_cases hk:k<l.length
 ·rw [zM zo];simp
 ·rw [zJ zo,xx zo,xx (by simpa using hk)]
theorem a6D (l:List Value):∀ (w:World) (b o:Nat) (cs:Array Value) (u:Nat) (fz:Nat×Nat),w.heap[b]?=some (.cells cs u fz)→Upd w b (.cells (J3 cs o l) u fz) (w.setCells b o l):=by
 induction l with
 | nil=>intro w b o cs u fz h;exact ⟨rfl,rfl,rfl,rfl,h,fun _ _=>rfl⟩
 | cons v r ih =>
  intro w b o cs u fz h;have h1:Upd w b (.cells (cs.setIfInBounds o v) u fz) (w.setCell ⟨b,o,none⟩ v):=by
   refine ⟨rfl,rfl,rfl,by simp [World.setCell],?_,fun k hk=>Below.heap_setCell _ _ _ _ hk⟩
   simp [World.setCell,Array.getElem?_modify,h]
  exact h1.trans (ih _ b (o+1) _ u fz h1.at_)
theorem K2 {w:World} {t b o z:Nat} {v:Value} {cs:Array Value} {u:Nat} {K:World→Prop} (hb:w.heap[b]?=some (.cells cs u (0,0))) (cs':List Value) (hv:v.cells.toList=cs') (hz:(G.P.info? t).map (·.size)=some z) (hl:cs'.length=z)
  (h1:∀ v∈cs',v.oneCell'=true) (ho:o+z≤cs.size) (h:∀ w',Upd w b (.cells (J3 cs o cs') u (0,0)) w'→K w'):a0D G.P w t ⟨b,o,none⟩ v K:=by
 refine ⟨w.setCells b o cs',?_,h _ (a6D _ _ _ _ _ _ _ hb)⟩;have hc:∀ j,j<cs'.length→(w.cell? ⟨b,o+0+j,none⟩).isSome=true:=fun j hj=>by
  rw [D2 hb,we zo];rfl
 have hf:∀ j,j<cs'.length→w.frozen? ⟨b,o+0+j,none⟩=false:=fun j hj=>by
  simp [World.frozen?,hb]
 have:=run_storeCells_cells (P:=G.P) b o cs' 0 w hc hf h1;unfold a83 Instr.storeAt storeVar;have hs:=E.X9 (w:=w) hz;have hvs:v.cells.size=z:=by rw [← hl,← hv];simp
 simp only [Nat.add_zero] at this;simp [Instr.sureAddr,hs,hvs,hv,this]
theorem s7 {t:Nat} (z:Value) (hz:(G.P.info? t).bind (·.zero)=some z) {dst:Option Nat} {ty:Nat} {pos:String} {af:Array Edge} {gd:Option (Nat×Bool)} {env:C9} {w:World} {K:Value→World→Prop}
  (h:K (.pointer (some ⟨w.heap.size,0,none⟩)) (w.alloc (.cells z.cells t))):L6 G.P { dst,op:=.alloc t,type:=ty,pos,after:=af,guard:=gd } env w K:=by
 refine ⟨.inl ⟨_,_,?_,h⟩⟩;cases hi:G.P.info? t with
 | none=>rw [hi] at hz;cases hz
 | some i =>
  rw [hi] at hz;have e1:(zeroValue t).run G.P w = .ok z w:=by unfold zeroValue typeInfo;simp at hz;simp [hi,hz]
  show (do pure (Next.value (← Instr.alloc t true (.tuple #[]))):Sem Next).run G.P w=_
  simp [Instr.alloc,e1,newVar,newRow]
theorem W5 (p:g9) (i x:Int) (h0:0≤i) (h1:i<64):J3 (t8 p) i.toNat [.int .i64 x]=t8 (Ch.put p i x):=by
 apply wH;intro k;rw [O4 _ _ _ _ (by rw [z8];simp;omega)]
 simp only [zh,za];by_cases hk:k<64
 ·rw [a0G _ _ hk,a0G _ _ hk,Ch.a3k p i x k h0 h1 zo];by_cases h:k=i.toNat
  ·rw [zM zo,zM zo];simp [h]
  ·rw [zJ zo,zJ zo]
 ·rw [zJ zo,H5 _ _ zo,H5 _ _ zo];rfl
theorem zC {m:Int} {n:Nat} {A B:Prop} (k:A) (a:0≤m:=by omega) (b:m<(n:Int):=by omega):bif inB m n then A else B:=E.A1 (F6.2 ⟨a,b⟩) k
theorem zN {f:Nat} {fn:Func} {c:Code} {args:List Value} {w:World} {R:Ending→World→Prop} (hf:G.P.funcs[f]?=some fn) (h:vc G c (a7n args) w (c5b G.P fn.results.toList R))
  (hb:fn.body=some c:=by exact rfl) (hn:args.length≤fn.ntmps:=by exact (zU (by kernel_rfl))) (hk:U3 fn.ntmps c=true:=by kernel_rfl):Calls G.P f args.toArray w R :=
 E.enter (G:=G) hf hb hn hk (a4R h)
theorem zK {ops:List Oper} {e:C9} {w:World} {K:C9→World→Prop} (n:Nat) (h:vcQ G (Cl w) ops (ops.take n) e (fun e'=>∀ w',Cl w w'→Y0 G ops (ops.drop n) e' w' K)) (ht:(a80 n ops.toArray||(Nat.beq n ops.length&&Region.lexB .any ops.toArray))=true:=by kernel_rfl):H7 G ops e w K :=
 H7.mk1 ⟨n,Cl w,Cl.drew (Cl.refl _),ht,h⟩
theorem zE {A B:Prop} (h:B) (e:B→A:=by (intro h;refine zR ?_;refine And.intro ?_ trivial;refine zR ?_;exact h)):A:=e h
theorem zL {t e z b:Nat} (E1:H0 t e z b) (vs:List Value) {dst:Option Nat} {parts:Array (Nat×Operand)} {n ty:Nat} {pos:String} {af:Array Edge} {gd:Option (Nat×Bool)} {env:C9} {w:World} {K:Value→World→Prop}
  (h:K (.slice (some ⟨w.heap.size,0,none⟩) n n) (w.alloc (.cells (vs.flatMap fun v=>v.cells.toList).toArray e)))
  (hp:(parts.map fun (i,x)=>(i,ev env x)).toList=(vs.zipIdx 0).map (fun x=>(x.2,x.1)):=by (rw [zb];rfl)) (hz:∀ v∈vs,v.cells.size=z:=by simp [Value.cells]) (hl:vs.length=n:=by exact rfl) (hn:0<n:=by decide) (hb:n*z≤1000:=by decide) :
  L6 G.P { dst,op:=.buildSlice t n parts,type:=ty,pos,after:=af,guard:=gd } env w K:=A8 E1 vs hp hz hl hn hb h
theorem zT {w:World} {t b o z:Nat} {v:Value} {cs:Array Value} {u:Nat} {K:World→Prop} (hb:w.heap[b]?=some (.cells cs u (0,0))) (cs':List Value) (h:∀ w',Upd w b (.cells (J3 cs o cs') u (0,0)) w'→K w') (hv:v.cells.toList=cs':=by exact rfl) (hz:(G.P.info? t).map (·.size)=some z:=by kernel_rfl) (hl:cs'.length=z:=by exact rfl)
  (h1:∀ v∈cs',v.oneCell'=true:=by (intro v hv;simp at hv;subst hv;rfl)) (ho:o+z≤cs.size:=by exact (zU rfl)):a0D G.P w t ⟨b,o,none⟩ v K:=K2 hb cs' hv hz hl h1 ho h
end
section
theorem b8u {n:Int} (h0:-7≤n) (h1:n≤7):0≤n*n∧n*n≤49:=by
 have:n=-7∨n=-6∨n=-5∨n=-4∨n=-3∨n=-2∨n=-1∨n=0∨n=1∨n=2∨n=3∨n=4∨n=5∨n=6∨n=7:=by omega
 rcases this with rfl|rfl|rfl|rfl|rfl|rfl|rfl|rfl|rfl|rfl|rfl|rfl|rfl|rfl|rfl<;>decide
def c2Z (f t:Int):Bool :=
 let F:=Ch.o5 t-Ch.o5 f;let R:=Ch.l8 t-Ch.l8 f;let W:=Ch.sign F+8*Ch.sign R;let n:=Ch.a6C F R
 f==t || !(F==0||R==0||F==R||F==-R)||(t==f+((n:Int)+1)*W&&W != 0&&(List.range (n+1)).all fun k=>decide (0≤f+((k:Int)+1)*W)&&decide (f+((k:Int)+1)*W≤63))
theorem b6N:(List.range 64).all (fun f=>(List.range 64).all fun t=>c2Z f t)=true:=by decide +kernel
theorem c0U {f t:Int} (h0:0≤f) (h1:f≤63) (h2:0≤t) (h3:t≤63) (hne:f≠t)
  (hl:Ch.o5 t-Ch.o5 f=0∨Ch.l8 t-Ch.l8 f=0∨Ch.o5 t-Ch.o5 f=Ch.l8 t-Ch.l8 f∨Ch.o5 t-Ch.o5 f=-(Ch.l8 t-Ch.l8 f)) :
  let W:=Ch.sign (Ch.o5 t-Ch.o5 f)+8*Ch.sign (Ch.l8 t-Ch.l8 f);let n:=Ch.a6C (Ch.o5 t-Ch.o5 f) (Ch.l8 t-Ch.l8 f)
  t=f+((n:Int)+1)*W∧W≠0∧∀ k:Nat,k≤n→0≤f+((k:Int)+1)*W∧f+((k:Int)+1)*W≤63:=by
 have h:=zl.1 (zl.1 b6N f.toNat (yr.2 zo)) t.toNat (yr.2 zo);rw [zi h0,zi h2] at h;simp only [c2Z,zj,beq_iff_eq,zc,zP,zl,yr,zW,bne_iff_ne] at h;rcases h with (h|h)|h
 ·exact absurd h hne
 ·exfalso;simp only [yD,beq_eq_false_iff_ne] at h;rcases hl with hl|hl|hl|hl
  ·exact h.1.1.1 hl
  ·exact h.1.1.2 hl
  ·exact h.1.2 hl
  ·exact h.2 hl
 ·exact ⟨h.1.1,h.1.2,fun k hk=>h.2 k zo⟩
theorem b6O (p:g9) (i W:Int) (n k:Nat) (hk:k<n):Ch.free p (i+(k:Int)*W) W (n-k)=(decide (Ch.sq p (i+((k:Int)+1)*W)=0)&&Ch.free p (i+((k:Int)+1)*W) W (n-(k+1))):=by
 obtain ⟨m,hm⟩:∃ m,n-k=m+1:=⟨n-k-1,zo⟩;have h2:n-(k+1)=m:=by omega
 have e:i+(k:Int)*W+W=i+((k:Int)+1)*W:=by rw [Int.add_mul];omega
 rw [hm,h2];simp only [Ch.free,e];congr 1
end
section
open Go Go.RowKit
open E
theorem g8 {n:Int} (h0:-9223372036854775808≤n) (h1:n≤9223372036854775807):IntKind.i64.wrap n=n:=by
 unfold IntKind.wrap;simp [IntKind.bits,IntKind.signed];omega
theorem c39 (n:Int):IntKind.i64.wrap n=(n+9223372036854775808)%18446744073709551616-9223372036854775808:=by
 unfold IntKind.wrap;simp [IntKind.bits,IntKind.signed];omega
theorem d9 {k:IntKind} {a b:Int} (h:a=b):Value.int k a=Value.int k b:=by rw [h]
theorem D4 {k:IntKind} {a b:Int} (h:a=b):Ending.returned (.int k a) = .returned (.int k b):=by rw [h]
theorem b2x {a b c d:Value} (h1:a=c) (h2:b=d):Ending.returned (.tuple #[a,b]) = .returned (.tuple #[c,d]):=by rw [h1,h2]
theorem z7 {a b:Bool} (h:a=b):Value.bool a=Value.bool b:=by rw [h]
theorem p8 {a b:Bool} (h:a=b):Ending.returned (.bool a) = .returned (.bool b):=by rw [h]
theorem a2E (s:Int) (w:World) (h0:0≤s):Calls G.P 127 #[.int .i64 s] w (E8 (.int .i64 (Ch.o5 s)) w):=by
 refine zN func127 ?_;refine zR ?_;exact ⟨by rw [xy h0];rfl,rfl⟩
theorem a0f (s:Int) (w:World) (h0:0≤s) (h1:s<9223372036854775807):Calls G.P 81 #[.int .i64 s] w (E8 (.int .i64 (Ch.l8 s)) w):=by
 refine zN func81 ?_;refine zR ?_;exact ⟨by rw [xm h0,g8 zo zo];rfl,rfl⟩
theorem O5 (x:Int) (w:World) (h0:-1000≤x) (h1:x≤1000):Calls G.P 57 #[.int .i64 x] w (E8 (.int .i64 (Ch.a0B x)) w):=by
 refine zN func57 ?_;repeat' (refine zR ?_;apply E.d7<;>intro h)
 all_goals (try refine zR ?_)
 all_goals (refine ⟨D4 ?_,rfl⟩;simp only [Ch.a0B])
 ·rw [zM zo,g8 zo zo]
 ·rw [zJ zo]
theorem a2d (x:Int) (w:World):Calls G.P 128 #[.int .i64 x] w (E8 (.int .i64 (Ch.A2 x)) w):=by
 refine zN func128 ?_;repeat' (refine zR ?_;apply E.d7<;>intro h)
 all_goals (try refine zR ?_)
 all_goals (refine ⟨D4 ?_,rfl⟩;simp only [Ch.A2])
 ·rw [zM zo]
 ·rw [zJ zo]
theorem a4S (k s:Int) (w:World) (h0:-1000≤k) (h1:k≤1000) (h2:-1000≤s) (h3:s≤1000):Calls G.P 79 #[.int .i64 k,.int .i64 s] w (E8 (.int .i64 (k+6*s)) w):=by
 refine zN func79 ?_;refine zR ?_;exact ⟨by rw [g8 (n:=6*s) zo zo,g8 zo zo],rfl⟩
theorem a3n (f r:Int) (w:World) (h0:-1000≤f) (h1:f≤1000) (h2:-1000≤r) (h3:r≤1000):Calls G.P 80 #[.int .i64 f,.int .i64 r] w (E8 (.int .i64 (Ch.K7 f r)) w):=by
 refine zN func80 ?_;repeat' (refine zR ?_;apply E.d7<;>intro h)
 all_goals (try refine zR ?_)
 all_goals (refine ⟨D4 ?_,rfl⟩;simp only [Ch.K7])
 all_goals first
  | rw [zM zo]
  | rw [zJ zo,g8 (n:=8*r) zo zo,g8 zo zo]
theorem b6P (s:Int) (w:World) (h0:-1000≤s) (h1:s≤1000):Calls G.P 131 #[.int .i64 s] w (E8 (.int .i64 (Ch.up s)) w):=by
 refine zN func131 ?_;refine zR ?_;exact ⟨by rw [g8 (n:=2*s) zo zo,g8 zo zo];rfl,rfl⟩
theorem b8v (n:Int) (w:World):Calls G.P 188 #[.int .i64 n] w (E8 (.int .i64 (Ch.sign n)) w):=by
 refine zN func188 ?_;repeat' (refine zR ?_;apply E.d7<;>intro h)
 all_goals (try refine zR ?_)
 all_goals (refine ⟨D4 ?_,rfl⟩;simp only [Ch.sign])
 ·rw [zM zo]
 ·rw [zJ zo,zM zo]
 ·rw [zJ zo,zJ zo]
def Pc (p:g9):Prop:=∀ i:Int,0≤Ch.sq p i∧Ch.sq p i≤12
theorem c3A (p:g9) (hp:Pc p) (f t:Int) (w:World) (h0:0≤f) (h1:f≤63) (h2:0≤t) (h3:t≤63) :
  Calls G.P 129 #[F5 p,.int .i64 f,.int .i64 t] w (N0 (.bool (Ch.hits p f t)) w):=by
 refine E.enter (G:=G) func129 rfl (by simp [ntmps129]) zk ?_
 refine a3H (a4R ?_);refine zG ?_;refine Z1 (Cl _) (Cl.refl _) (fun _=>Cl.drew) zk ?_;have hC:∀ w',Cl (w.alloc (.cells (t8 p) 24)) w'→w'.heap[w.heap.size]?=some (.cells (t8 p) 24 (0,0)):=fun w' h=>h.blk (d8 _ _);have hE:∀ w',Cl (w.alloc (.cells (t8 p) 24)) w'→Cl w w':=fun w' h=>(Cl.alloc w _).trans h;refine zG ?_;refine o4 _ (fun w _=>a2E _ _ h2) (zG ?_);refine o4 _ (fun w _=>a2E _ _ h0) ?_;have hf:IntKind.i64.wrap (Ch.o5 t-Ch.o5 f)=Ch.o5 t-Ch.o5 f:=g8 (by unfold Ch.o5;omega) (by unfold Ch.o5;omega)
 have hr:IntKind.i64.wrap (Ch.l8 t-Ch.l8 f)=Ch.l8 t-Ch.l8 f:=g8 (by unfold Ch.l8;omega) (by unfold Ch.l8;omega)
 refine zG ?_;rw [hf];refine zR ?_;refine o4 _ (fun w _=>a0f _ _ h2 zo) (zR ?_);refine o4 _ (fun w _=>a0f _ _ h0 zo) (zG ?_);rw [hr];generalize hF:Ch.o5 t-Ch.o5 f=F;generalize hR:Ch.l8 t-Ch.l8 f=R;refine zR ?_;apply E.d7<;>intro h
 ·refine zR ?_;intro w' hw';refine zG ?_;exact ⟨p8 (by simp [Ch.hits,h]),hE w' hw'⟩
 have hne:=h;clear h;refine zR ?_;refine E.A1 (F6.2 ⟨h0,zo⟩) (zR ?_);refine l9 _ (fun w hw=>b1o (hC w hw) _ h0 zo rfl) (zR ?_);apply E.d7<;>intro h
 ·refine zR ?_;intro w' hw';refine zG ?_;exact ⟨p8 (by simp [Ch.hits,h]),hE w' hw'⟩
 have hnz:=h;clear h;refine zG ?_;refine c2X 9 13 (.bool (decide (F=0)||decide (R=0))) zk ?_ (fun j=>?_)
 ·refine zR ?_;apply E.d7<;>intro h
  ·refine zR ?_;exact yM Value.bool (by simp [h])
  ·refine zR ?_;exact yM Value.bool (by simp [h])
 have hneg:IntKind.i64.wrap (0-R)=-R:=by rw [g8 (by subst hR;unfold Ch.l8;omega) (by subst hR;unfold Ch.l8;omega)];omega
 refine c2X 10 13 (.bool (decide (F=R)||decide (F=-R))) zk ?_ (fun j=>?_)
 ·refine zR ?_;apply E.d7<;>intro h
  ·refine zR ?_;exact yM Value.bool (by simp [h])
  ·refine zR ?_;exact yM Value.bool (by rw [hneg];simp [h])
 obtain ⟨K,hK⟩:∃ K,Ch.a0B (Ch.sq p f)=K:=⟨_,rfl⟩;have bF:-7≤F∧F≤7:=by subst hF;unfold Ch.o5;omega
 have bR:-7≤R∧R≤7:=by subst hR;unfold Ch.l8;omega
 have hFF:IntKind.i64.wrap (F*F)=F*F:=by have:=b8u bF.1 bF.2;exact g8 zo zo
 have hRR:IntKind.i64.wrap (R*R)=R*R:=by have:=b8u bR.1 bR.2;exact g8 zo zo
 have hFR:IntKind.i64.wrap (F*F+R*R)=F*F+R*R:=by have:=b8u bF.1 bF.2;have:=b8u bR.1 bR.2;exact g8 zo zo
 have hans:∀ b:Bool,Ch.hits p f t=b→∀ w',Cl (w.alloc (.cells (t8 p) 24)) w'→N0 (.bool (Ch.hits p f t)) w (.returned (.bool b)) w':=fun b hb w' hw'=>⟨by rw [hb],hE w' hw'⟩
 have hdef:Ch.hits p f t=(if K=1 then decide (F*F≤1)&&decide (R*R≤1)
   else if K=5 then decide (F*F+R*R=5)
   else if K=6 then decide (F*F=1)&&decide (R=Ch.up (Ch.A2 (Ch.sq p f)))
   else if !((decide (F=0)||decide (R=0)) && !decide (K=4)) && !((decide (F=R)||decide (F=-R)) && !decide (K=3)) then false
   else Ch.free p f (Ch.sign F+8*Ch.sign R) (Ch.a6C F R)):=by
  simp only [Ch.hits,hF,hR,hK,hne,hnz,or_self,xv]
 refine b0m (σ:=Unit) [6,9,10] 13 (fun _=>[(9,.bool ((decide (F=0)||decide (R=0)) && !decide (K=4))),(10,.bool ((decide (F=R)||decide (F=-R)) && !decide (K=3)))])
  (fun _=>K≠1∧K≠5∧K≠6) zk ?_ (fun _ j hk=>?_)
 ·refine zR ?_;refine E.A1 (F6.2 ⟨h0,zo⟩) (zR ?_);refine l9 _ (fun w hw=>b1o (hC w hw) _ h0 zo rfl) (zR ?_);refine o4 _ (fun w _=>O5 _ _ (by have:=hp f;omega) (by have:=hp f;omega)) ?_
  rw [hK];refine zR ?_;apply E.d7<;>intro h
  ·subst h;refine zR ?_;rw [hFF];apply E.d7<;>intro h
   ·refine zR ?_;intro w' hw';refine zG ?_;exact hans _ (by rw [hdef];simp [h,hRR]) w' hw'
   ·refine zR ?_;intro w' hw';refine zG ?_;exact hans _ (by rw [hdef];simp [h]) w' hw'
  have k1:=h;clear h;refine zR ?_;apply E.d7<;>intro h
  ·subst h;refine zR ?_;intro w' hw';refine zG ?_;exact hans _ (by rw [hdef,hFF,hRR,hFR];simp) w' hw'
  have k5:=h;clear h;refine zR ?_;apply E.d7<;>intro h
  ·subst h;refine zR ?_;rw [hFF];apply E.d7<;>intro h
   ·refine zR ?_;refine E.A1 (F6.2 ⟨h0,zo⟩) (zR ?_);refine l9 _ (fun w hw=>b1o (hC w hw) _ h0 zo rfl) (zR ?_);refine o4 _ (fun w _=>a2d _ _) (zR ?_);refine o4 _ (fun w _=>b6P _ _ (by unfold Ch.A2;split<;>omega) (by unfold Ch.A2;split<;>omega)) (zR ?_)
    intro w' hw';refine zG ?_;exact hans _ (by rw [hdef];simp [h]) w' hw'
   ·refine zR ?_;intro w' hw';refine zG ?_;exact hans _ (by rw [hdef];simp [h]) w' hw'
  have k6:=h;clear h;refine zR ?_;apply E.d7<;>intro h
  ·subst h;refine zR ?_;exact ⟨(),⟨yM Value.bool (by simp),yM Value.bool (by simp),trivial⟩,k1,k5,k6⟩
  have k3:=h;clear h;refine zR ?_;apply E.d7<;>intro h
  ·subst h;refine zR ?_;exact ⟨(),⟨yM Value.bool (by simp),yM Value.bool (by simp),trivial⟩,k1,k5,k6⟩
  refine zR ?_;exact ⟨(),⟨yM Value.bool (by simp [h]),yM Value.bool (by simp [k3]),trivial⟩,k1,k5,k6⟩
 rw [zJ hk.1,zJ hk.2.1,zJ hk.2.2] at hdef;generalize hST:((decide (F=0)||decide (R=0)) && !decide (K=4))=ST at hdef
 generalize hSL:((decide (F=R)||decide (F=-R)) && !decide (K=3))=SL at hdef
 refine b0m (σ:=Unit) [6] 13 (fun _=>[]) (fun _=>ST=true∨SL=true) zk ?_ (fun _ j hl=>?_)
 ·refine zR ?_;apply E.a0E<;>intro h
  ·refine zR ?_;apply E.a0E<;>intro h
   ·refine zR ?_;intro w' hw';refine zG ?_;exact hans _ (by rw [hdef];simp_all) w' hw'
   ·refine zR ?_;exact ⟨(),trivial,.inr (by simpa using h)⟩
  ·refine zR ?_;exact ⟨(),trivial,.inl (by simpa using h)⟩
 have hdef2:Ch.hits p f t=Ch.free p f (Ch.sign F+8*Ch.sign R) (Ch.a6C F R):=by rw [hdef];rcases hl with h|h<;>simp [h]
 have hline:F=0∨R=0∨F=R∨F=-R:=by
  rcases hl with h|h
  ·rw [← hST] at h;simp at h;rcases h.1 with h|h<;>simp [h]
  ·rw [← hSL] at h;simp at h;rcases h.1 with h|h<;>simp [h]
 obtain ⟨hto,hW0,hin⟩:=c0U h0 h1 h2 h3 hne (by rw [hF,hR];exact hline)
 rw [hF,hR] at hto hW0 hin;have hs:∀ n:Int,-1≤Ch.sign n∧Ch.sign n≤1:=fun n=>by unfold Ch.sign;split<;>(try split)<;>omega
 have hsF:=hs F;have hsR:=hs R;refine zR ?_;refine o4 _ (fun w _=>b8v _ _) (zR ?_);refine o4 _ (fun w _=>b8v _ _) (zG ?_);rw [g8 (n:=8*Ch.sign R) zo zo,g8 (n:=Ch.sign F+8*Ch.sign R) zo zo];generalize Ch.sign F+8*Ch.sign R=W at *;generalize Ch.a6C F R=n at *;refine zR ?_;have g0:=hin 0 zo;refine a5K [6,12] 13 (fun k:Nat=>[(12,.int .i64 (f+((k:Int)+1)*W))]) (fun k=>k≤n∧Ch.hits p f t=Ch.free p (f+(k:Int)*W) W (n-k)) (fun k=>n-k) zk 0 ⟨zo,by rw [hdef2];simp⟩
  ⟨d9 (by rw [g8 zo zo];omega),trivial⟩ ?_
 intro k j ⟨hkn,hh⟩;have gk:=hin k hkn;refine zR ?_;apply E.y8<;>intro h
 ·have hkn':k<n:=by
   rcases wh k n with h'|h'
   ·exact h'
   ·exfalso;apply h;rw [hto];congr 2;omega
  rw [b6O p f W n k hkn'] at hh;have gk1:=hin (k+1) zo;have e1:f+((k:Int)+1)*W+W=f+(((k+1:Nat):Int)+1)*W:=by
   rw [Int.add_mul ((k+1:Nat):Int)];push_cast;omega
  refine zR ?_;refine E.A1 (F6.2 ⟨gk.1,zo⟩) (zR ?_);refine l9 _ (fun w hw=>b1o (hC w hw) _ gk.1 zo rfl) (zR ?_);apply E.y8<;>intro h
  ·refine zR ?_;intro w' hw';refine zG ?_;exact hans _ (by rw [hh];simp [h]) w' hw'
  ·refine zR ?_;refine ⟨k+1,⟨d9 (by rw [e1,g8 zo zo]),trivial⟩,⟨zo,by rw [hh];simp [h]⟩,zo⟩
 ·have hkn':n-k=0:=by
   have:((k:Int)+1)*W=((n:Int)+1)*W:=by omega
   have:=Int.eq_of_mul_eq_mul_right hW0 this;omega
  refine zR ?_;intro w' hw';refine zG ?_;exact hans _ (by rw [hh,hkn'];rfl) w' hw'
theorem hCl {p:g9} {w w':World} (h:Cl (w.alloc (.cells (t8 p) 24)) w'):w'.heap[w.heap.size]?=some (.cells (t8 p) 24 (0,0)):=h.blk (d8 _ _)
theorem hEx {w w':World} {o:Obj} (h:Cl (w.alloc o) w'):Cl w w':=(Cl.alloc w _).trans h
theorem Pc.lo {p:g9} (h:Pc p) (i:Int):-1000≤Ch.sq p i:=by have:=h i;omega
theorem Pc.hi {p:g9} (h:Pc p) (i:Int):Ch.sq p i≤1000:=by have:=h i;omega
theorem c0V (x:Int):-1000≤Ch.A2 x:=by unfold Ch.A2;split<;>omega
theorem c0W (x:Int):Ch.A2 x≤1000:=by unfold Ch.A2;split<;>omega
theorem zO {A:Prop} (e:A:=by (first|omega|exact Pc.lo hp _|exact Pc.hi hp _|exact c0V _|exact c0W _|(simp only [c39,Ch.o5,Ch.l8,Ch.up] at *;omega))):A:=e
theorem c0X (p:g9) (k s:Int) (w:World) (h0:-1000≤k) (h1:k≤1000) (h2:-1000≤s) (h3:s≤1000) :
  Calls G.P 82 #[F5 p,.int .i64 k,.int .i64 s] w (N0 (.int .i64 (Ch.count p k s)) w):=by
 refine E.enter (G:=G) func82 rfl (by simp [ntmps82]) zk ?_
 refine a3H (a4R ?_);refine zG ?_;refine Z1 (Cl _) (Cl.refl _) (fun _=>Cl.drew) zk (zR ?_);refine a5K [7,8] 9 (fun n:Nat=>[(7,.int .i64 (Ch.a67 (fun i=>decide (Ch.sq p i=k+6*s)) n)),(8,.int .i64 n)]) (fun n=>n≤64) (fun n=>64-n) zk 0 zo ⟨rfl,rfl,trivial⟩ ?_;intro n j hn;have hb:=Ch.b1n (fun i=>decide (Ch.sq p i=k+6*s)) n;refine zR ?_;apply E.d7<;>intro h
 ·refine zR ?_;refine zC ?_;refine zR ?_;refine l9 _ (fun w hw=>b1o (hCl hw) (n:Int) zo zo rfl) (zR ?_);refine o4 _ (fun w _=>a4S _ _ _ h0 h1 h2 h3) (zR ?_);apply E.d7<;>intro h
  ·refine zR ?_;exact ⟨n+1,⟨d9 (by rw [g8 zo zo];simp [Ch.a67,h]),d9 (by rw [g8 zo zo];rfl),trivial⟩,zo,zo⟩
  ·refine zR ?_;exact ⟨n+1,⟨d9 (by simp [Ch.a67,h]),d9 (by rw [g8 zo zo];rfl),trivial⟩,zo,zo⟩
 ·refine zR ?_;intro w' hw';refine zG ?_;have:n=64:=by omega
  subst this;exact ⟨rfl,hEx hw'⟩
theorem a8E (p:g9) (s:Int) (w:World) (h2:-1000≤s) (h3:s≤1000) :
  Calls G.P 86 #[F5 p,.int .i64 s] w (N0 (.int .i64 (Ch.a2J p s)) w):=by
 refine E.enter (G:=G) func86 rfl (by simp [ntmps86]) zk ?_
 refine a3H (a4R ?_);refine zG ?_;refine Z1 (Cl _) (Cl.refl _) (fun _=>Cl.drew) zk (zR ?_);refine a5K [4,5] 6 (fun n:Nat=>[(5,.int .i64 n)]) (fun n=>n≤64∧Ch.a0u (fun i=>decide (Ch.sq p i=1+6*s)) n=none) (fun n=>64-n) zk 0 ⟨zo,rfl⟩ ⟨rfl,trivial⟩ ?_;intro n j ⟨hn,hf⟩;refine zR ?_;apply E.d7<;>intro h
 ·refine zR ?_;refine zC ?_;refine zR ?_;refine l9 _ (fun w hw=>b1o (hCl hw) (n:Int) zo zo rfl) (zR ?_);refine o4 _ (fun w _=>a4S _ _ _ zo zo h2 h3) (zR ?_);apply E.d7<;>intro h
  ·refine zR ?_;intro w' hw';refine zG ?_;exact ⟨D4 (by unfold Ch.a2J;rw [Ch.b6M hf (by simp [h]) zo]),hEx hw'⟩
  ·refine zR ?_;exact ⟨n+1,⟨d9 (by rw [g8 zo zo];rfl),trivial⟩,⟨zo,by unfold Ch.a0u;rw [hf];simp [h]⟩,zo⟩
 ·refine zR ?_;intro w' hw';refine zG ?_;have:n=64:=by omega
  subst this;exact ⟨D4 (by unfold Ch.a2J;rw [hf]),hEx hw'⟩
theorem a2e (p:g9) (hp:Pc p) (q s:Int) (w:World) (h0:0≤q) (h1:q≤63) :
  Calls G.P 85 #[F5 p,.int .i64 q,.int .i64 s] w (N0 (.bool (Ch.C2 p q s)) w):=by
 refine E.enter (G:=G) func85 rfl (by simp [ntmps85]) zk ?_
 refine a3H (a4R ?_);refine zG ?_;refine Z1 (Cl _) (Cl.refl _) (fun _=>Cl.drew) zk (zR ?_);refine a5K [6,7] 8 (fun n:Nat=>[(7,.int .i64 n)]) (fun n=>n≤64∧Ch.b30 (Ch.a36 p q s) n=false) (fun n=>64-n) zk 0 ⟨zo,rfl⟩ ⟨rfl,trivial⟩ ?_;intro n j ⟨hn,hf⟩;refine zR ?_;apply E.d7<;>intro h
 ·have hi:n<64:=by omega
  refine zG ?_;refine b0m (σ:=Unit) [6] 8 (fun _=>[]) (fun _=>Ch.a36 p q s n=false) zk ?_ (fun _ j hk=>?_)
  ·have no:∀ b:Bool,Ch.a36 p q s n=b→b=false→Ch.a36 p q s n=false:=fun b h h'=>by rw [h,h']
   refine zR ?_;refine zC ?_;refine zR ?_;refine l9 _ (fun w hw=>b1o (hCl hw) (n:Int) zo zo rfl) (zR ?_);apply E.y8<;>intro h
   ·refine zR ?_;refine zC ?_;refine zR ?_;refine l9 _ (fun w hw=>b1o (hCl hw) (n:Int) zo zo rfl) (zR ?_);refine o4 _ (fun w _=>a2d _ _) (zR ?_);rename_i hz;apply E.d7<;>intro h
    ·refine zR ?_;refine l9 _ (fun w hw=>A4 (hCl hw)) (zR ?_);refine D6 _ (fun _ _ h=>h.trans) (fun w _=>c3A p hp _ _ _ zo zo h0 h1) (zR ?_);apply E.a0E<;>intro h
     ·refine zR ?_;intro w' hw';refine zG ?_;refine ⟨p8 ?_,hEx hw'⟩;exact (Ch.a4s hi (by simp_all [Ch.a36])).symm
     ·refine zR ?_;exact ⟨(),trivial,by simp_all [Ch.a36]⟩
    ·refine zR ?_;exact ⟨(),trivial,by simp_all [Ch.a36]⟩
   ·refine zR ?_;exact ⟨(),trivial,by simp_all [Ch.a36]⟩
  ·refine zR ?_;exact ⟨n+1,⟨d9 (by rw [g8 zo zo];rfl),trivial⟩,⟨zo,by simp [Ch.b30,hf,hk]⟩,zo⟩
 ·refine zR ?_;intro w' hw';refine zG ?_;have:n=64:=by omega
  subst this;exact ⟨p8 hf.symm,hEx hw'⟩
theorem b6Q (p:g9) (hp:Pc p) (s:Int) (w:World) (h2:-1000≤s) (h3:s≤1000) :
  Calls G.P 130 #[F5 p,.int .i64 s] w (N0 (.bool (Ch.checked p s)) w):=by
 refine E.enter (G:=G) func130 rfl (by simp [ntmps130]) zk ?_
 refine a3H (a4R ?_);refine zG ?_;refine Z1 (Cl _) (Cl.refl _) (fun _=>Cl.drew) zk ?_;have hk:=Ch.D1 p s;refine zR ?_;refine l9 _ (fun w hw=>A4 (hCl hw)) (zR ?_);refine D6 _ (fun _ _ h=>h.trans) (fun w _=>a8E p _ _ h2 h3) (zR ?_);apply E.d7<;>intro h
 ·refine zR ?_;refine l9 _ (fun w hw=>A4 (hCl hw)) (zR ?_);rw [g8 (n:=1-s) zo zo];refine D6 _ (fun _ _ h=>h.trans) (fun w _=>a2e p hp _ _ _ h zo) (zR ?_);intro w' hw';refine zG ?_;exact ⟨p8 (by simp [Ch.checked,h]),hEx hw'⟩
 ·refine zR ?_;intro w' hw';refine zG ?_;exact ⟨p8 (by simp [Ch.checked,h]),hEx hw'⟩
theorem a4t (p:g9) (hp:Pc p) (w:World) (h2:-1000≤p.turn) (h3:p.turn≤1000) :
  Calls G.P 88 #[F5 p] w (N0 (.bool (Ch.a1i p)) w):=by
 refine E.enter (G:=G) func88 rfl (by simp [ntmps88]) zk ?_
 refine a3H (a4R ?_);refine zG ?_;refine Z1 (Cl _) (Cl.refl _) (fun _=>Cl.drew) zk (zR ?_);refine l9 _ (fun w hw=>A4 (hCl hw)) (zR ?_);refine l9 _ (fun w hw=>I0 (hCl hw)) (zR ?_);refine D6 _ (fun _ _ h=>h.trans) (fun w _=>b6Q p hp _ _ h2 h3) (zR ?_);intro w' hw';refine zG ?_;exact ⟨rfl,hEx hw'⟩
theorem c0Y:(∀ c:Fin 16,∀ n:Fin 4,decide (a0S .and .i64 (Int.fdiv (c.val:Int) (2^(min (Int.toNat (n.val:Int)) IntKind.i64.bits))) 1=1)=Ch.W3 (c.val:Int) n.val):=by decide +kernel
theorem b1q {c:Int} {n:Nat} (h0:0≤c) (h1:c≤15) (hn:n<4):(a0S .and .i64 (Int.fdiv c (2^(min (Int.toNat (n:Int)) IntKind.i64.bits))) 1=1)↔Ch.W3 c n=true:=by
 have:=c0Y ⟨c.toNat,zo⟩ ⟨n,hn⟩;simp only [zi h0] at this;rw [← this];simp
theorem b5G:∀ n:Fin 4,IntKind.i64.wrap (1*2^(min (Int.toNat (n.val:Int)) IntKind.i64.bits))=(2:Int)^n.val:=by decide +kernel
theorem b1r:∀ n:Fin 4,(2:Int)^n.val≤8∧0<(2:Int)^n.val:=by decide +kernel
theorem b4h (r:Int) (w:World) (h0:0≤r) (h1:r≤3):Calls G.P 126 #[.int .i64 r] w (E8 (.tuple #[.int .i64 (Ch.a2s r),.int .i64 (Ch.A9 r)]) w):=by
 refine zN func126 ?_;have hd:IntKind.i64.wrap (r.tdiv 2)=r/2:=by rw [xm h0,g8 zo zo]
 have hm:r.tmod 2=r%2:=xy h0;have h7:IntKind.i64.wrap (7*(r/2))=7*(r/2):=g8 zo zo;refine zR ?_;rw [hm];apply E.d7<;>intro h;all_goals
  refine zR ?_;refine g7 (a3n _ _ _ zo zo (by rw [hd,h7];omega) (by rw [hd,h7];omega)) (zR ?_)
  refine g7 (a3n _ _ _ zo zo (by rw [hd,h7];omega) (by rw [hd,h7];omega)) (zR ?_)
  refine ⟨b2x (d9 ?_) (d9 ?_),rfl⟩
  ·rw [hd,h7];simp [Ch.a2s]
  ·rw [hd,h7];simp [Ch.A9,h]
theorem c5h (n:Nat) (h:n<4):(0≤Ch.a2s n∧Ch.a2s n≤63)∧(0≤Ch.A9 n∧Ch.A9 n≤63):=by
 have:n=0∨n=1∨n=2∨n=3:=by omega
 rcases this with rfl|rfl|rfl|rfl<;>decide
theorem b6R (p:g9) (n:Nat) (h:n≤4):0≤Ch.Y2 p n∧Ch.Y2 p n≤8*n:=by
 induction n with
 | zero=>simp [Ch.Y2]
 | succ n ih =>
  have h1:=ih zo;have h2:=b1r ⟨n,zo⟩;simp only [Ch.Y2] at h2 ⊢;split<;>omega
theorem b2y (p:g9) (w:World) (h0:0≤p.castle) (h1:p.castle≤15):Calls G.P 83 #[F5 p] w (N0 (.int .i64 (Ch.rights p)) w):=by
 refine E.enter (G:=G) func83 rfl (by simp [ntmps83]) zk ?_
 refine a3H (a4R ?_);refine zG ?_;refine Z1 (Cl _) (Cl.refl _) (fun _=>Cl.drew) zk ?_;have hP:=fun w' (h:Cl (w.alloc (.cells (t8 p) 24)) w')=>hCl h;refine zR ?_;refine a5K [3,4,5,6] 7 (fun n:Nat=>[(3,.int .i64 (Ch.Y2 p n)),(4,.int .i64 n)]) (fun n=>n≤4) (fun n=>4-n) zk 0 zo ⟨rfl,rfl,trivial⟩ ?_;intro n j hn;have hle:=b6R p n hn;refine zR ?_;apply E.d7<;>intro h
 ·have hn4:n<4:=by omega
  have hh:=c5h n hn4;have hp2:=b1r ⟨n,hn4⟩;have hpw:=b5G ⟨n,hn4⟩;simp only at hp2 hpw;have hd:IntKind.i64.wrap (Int.tdiv (n:Int) 2)=(n:Int)/2:=by rw [xm zo,g8 zo zo]
  have fin:∀ b:Bool,(b=(Ch.W3 p.castle n&&decide (Ch.sq p (Ch.a2s n)=1+6*((n:Int)/2))&&decide (Ch.sq p (Ch.A9 n)=3+6*((n:Int)/2))))→Ch.Y2 p (n+1)=Ch.Y2 p n+(if b then (2:Int)^n else 0):=fun b hb=>by subst hb;simp only [Ch.Y2]
  refine zR ?_;refine o4 _ (fun w _=>b4h _ _ zo zo) ?_;generalize Ch.a2s (n:Int)=K at *;generalize Ch.A9 (n:Int)=R at *;refine zR ?_;refine l9 _ (fun w hw=>a2b (hP _ hw)) (zR ?_);intro r1 hr1;refine zR ?_;intro r2 hr2;have hbi:=b1q h0 h1 hn4;rw [← hr1,← hr2] at hbi;clear hr1 hr2;refine zR ?_;refine E.d7 (fun hb=>?_) (fun hb=>?_)
  ·have hb':=hbi.1 hb;refine zR ?_;refine zC ?_;refine zR ?_;refine l9 _ (fun w hw=>P5 (hP _ hw) _ zo zo) (zR ?_);refine o4 _ (fun w _=>a4S _ _ _ zo zo (by rw [hd];omega) (by rw [hd];omega)) (zR ?_)
   rw [hd];refine E.d7 (fun hk=>?_) (fun hk=>?_)
   ·refine zR ?_;refine zC ?_;refine zR ?_;refine l9 _ (fun w hw=>P5 (hP _ hw) _ zo zo) (zR ?_);refine o4 _ (fun w _=>a4S _ _ _ zo zo (by rw [hd];omega) (by rw [hd];omega)) (zR ?_)
    rw [hd];refine E.d7 (fun hr=>?_) (fun hr=>?_)
    ·refine zR ?_;intro r3 hr3;have hr4:r3=(2:Int)^n:=hr3.trans hpw;clear hr3;refine zR ?_;refine ⟨n+1,⟨d9 ?_,d9 (by rw [g8 zo zo];rfl),trivial⟩,zo,zo⟩
     rw [fin true (by simp [hb',hk,hr]),hr4,g8 zo zo];simp
    ·refine zR ?_;refine ⟨n+1,⟨d9 ?_,d9 (by rw [g8 zo zo];rfl),trivial⟩,zo,zo⟩
     rw [fin false (by simp [hr])];simp
   ·refine zR ?_;refine ⟨n+1,⟨d9 ?_,d9 (by rw [g8 zo zo];rfl),trivial⟩,zo,zo⟩
    rw [fin false (by simp [hk])];simp
  ·have hb':Ch.W3 p.castle n=false:=by
    cases hx:Ch.W3 p.castle n with
    | false=>rfl
    | true=>exact absurd (hbi.2 hx) hb
   refine zR ?_;refine ⟨n+1,⟨d9 ?_,d9 (by rw [g8 zo zo];rfl),trivial⟩,zo,zo⟩
   rw [fin false (by simp [hb'])];simp
 ·refine zR ?_;intro w' hw';refine zG ?_;have:n=4:=by omega
  subst this;exact ⟨rfl,hEx hw'⟩
theorem a7o (c:Int) (m:Mv) (n:Nat) (h0:0≤c) (h1:c≤15) (hn:n≤4):0≤Ch.a0e c m n∧Ch.a0e c m n≤15:=by
 induction n with
 | zero=>exact ⟨h0,h1⟩
 | succ n ih =>
  have h2:=ih zo;have h3:=b1r ⟨n,zo⟩;simp only [Ch.a0e] at h3 ⊢;split
  ·rename_i hb;simp only [zP] at hb;have hb:=hb.1;have key:∀ c:Fin 16,∀ n:Fin 4,Ch.W3 (c.val:Int) n.val=true→(2:Int)^n.val≤c.val:=by decide +kernel
   have:=key ⟨(Ch.a0e c m n).toNat,zo⟩ ⟨n,zo⟩ (by simp only [zi h2.1];exact hb)
   simp only [zi h2.1] at this;omega
  ·exact h2
theorem zA {A B:Prop} (h:B) (e:PLift B→A:=by (intro h;(first|(refine E.A1 (F6.2 ⟨?_,?_⟩) ?_;(· exact zO);(· exact zO);refine zR ?_)|(refine l9 _ (fun w hw=>I0 (hP _ hw)) ?_;refine zR ?_)|(refine l9 _ (fun w hw=>a2b (hP _ hw)) ?_;refine zR ?_)|(refine l9 _ (fun w hw=>a5l (hP _ hw)) ?_;refine zR ?_)|(refine l9 _ (fun w hw=>a8C (hP _ hw)) ?_;refine zR ?_)|(refine l9 _ (fun w hw=>b1p (hP _ hw)) ?_;refine zR ?_)|(refine l9 _ (fun w hw=>A4 (hP _ hw)) ?_;refine zR ?_)|(refine l9 _ (fun w hw=>O1 (hM _ hw)) ?_;refine zR ?_)|(refine l9 _ (fun w hw=>a0v (hM _ hw)) ?_;refine zR ?_)|(refine l9 _ (fun w hw=>U4 (hM _ hw)) ?_;refine zR ?_)|(refine l9 _ (fun w hw=>V5 (hM _ hw)) ?_;refine zR ?_)|(refine l9 _ (fun w hw=>P5 (hP _ hw) _ ?_ ?_) ?_;(· exact zO);(· exact zO);refine zR ?_)|(refine o4 _ (fun w _=>a2E _ _ ?_) ?_;(· exact zO);refine zR ?_)|(refine o4 _ (fun w _=>a0f _ _ ?_ ?_) ?_;(· exact zO);(· exact zO);refine zR ?_)|(refine o4 _ (fun w _=>O5 _ _ ?_ ?_) ?_;(· exact zO);(· exact zO);refine zR ?_)|(refine o4 _ (fun w _=>a2d _ _) ?_;refine zR ?_)|(refine o4 _ (fun w _=>a4S _ _ _ ?_ ?_ ?_ ?_) ?_;(· exact zO);(· exact zO);(· exact zO);(· exact zO);refine zR ?_)|(refine o4 _ (fun w _=>a3n _ _ _ ?_ ?_ ?_ ?_) ?_;(· exact zO);(· exact zO);(· exact zO);(· exact zO);refine zR ?_)|(refine o4 _ (fun w _=>b6P _ _ ?_ ?_) ?_;(· exact zO);(· exact zO);refine zR ?_));exact h.down)):A:=e ⟨h⟩
theorem c3B (c:Int) (m:Mv) (w:World) (h0:0≤c) (h1:c≤15):Calls G.P 92 #[.int .i64 c,mvV m] w (N0 (.int .i64 (Ch.left c m)) w):=by
 refine E.enter (G:=G) func92 rfl (by simp [ntmps92]) zk ?_
 refine a3H (a4R ?_);refine zG ?_;refine Z1 (Cl _) (Cl.refl _) (fun _=>Cl.drew) zk ?_;have hM:∀ w',Cl (w.alloc (.cells (Z3 m) 36)) w'→w'.heap[w.heap.size]?=some (.cells (Z3 m) 36 (0,0)):=fun w' h=>h.blk (d8 _ _);refine zR ?_;refine a5K [0,5,6,7] 8 (fun n:Nat=>[(0,.int .i64 (Ch.a0e c m n)),(5,.int .i64 n)]) (fun n=>n≤4) (fun n=>4-n) zk 0 zo ⟨rfl,rfl,trivial⟩ ?_;intro n j hn;have hle:=a7o c m n h0 h1 hn;refine zR ?_;apply E.d7<;>intro h
 ·have hn4:n<4:=by omega
  have hp2:=b1r ⟨n,hn4⟩;have hpw:=b5G ⟨n,hn4⟩;simp only at hp2 hpw;have fin:∀ b:Bool,(b=(Ch.W3 (Ch.a0e c m n) n&&(decide (m.fr=Ch.a2s n)||decide (m.fr=Ch.A9 n)||decide (m.to=Ch.a2s n)||decide (m.to=Ch.A9 n))))→Ch.a0e c m (n+1)=(if b then Ch.a0e c m n-(2:Int)^n else Ch.a0e c m n):=fun b hb=>by subst hb;simp only [Ch.a0e]
  refine zR ?_;refine o4 _ (fun w _=>b4h _ _ zo zo) (zR ?_);intro r1 hr1;refine zR ?_;intro r2 hr2;have hbi:=b1q hle.1 hle.2 hn4;rw [← hr1,← hr2] at hbi;clear hr1 hr2;(refine zR ?_);(repeat' (first|refine zA ?_|(refine E.d7 (fun _=>?_) (fun _=>?_)<;>(refine zR ?_))|(refine E.y8 (fun _=>?_) (fun _=>?_)<;>(refine zR ?_))|(fail)|(refine E.a0E (fun _=>?_) (fun _=>?_)<;>(refine zR ?_))))
  all_goals first
   | (intro r3 hr3
      have hr4:r3=(2:Int)^n:=hr3.trans hpw;clear hr3;refine zR ?_;have hx:Ch.W3 (Ch.a0e c m n) n=true:=hbi.1 ‹_›;have hlow:=a7o c m (n+1) h0 h1 zo;rw [fin true (by simp [hx, *])] at hlow
      simp only [wO] at hlow;refine ⟨n+1,⟨d9 ?_,d9 (by rw [g8 zo zo];rfl),trivial⟩,zo,zo⟩
      rw [fin true (by simp [hx, *]),hr4,g8 zo zo];simp)
   | (refine ⟨n+1,⟨d9 ?_,d9 (by rw [g8 zo zo];rfl),trivial⟩,zo,zo⟩
      rw [fin false (by simp [*];try (intro hb;exact absurd (hbi.2 hb) ‹_›))];simp)
 ·refine zR ?_;intro w' hw';refine zG ?_;have:n=4:=by omega
  subst this;exact ⟨rfl,hEx hw'⟩
theorem hP2 {p:g9} {m:Mv} {w w':World} (h:Cl ((w.alloc (.cells (t8 p) 24)).alloc (.cells (Z3 m) 36)) w'):w'.heap[w.heap.size]?=some (.cells (t8 p) 24 (0,0)) :=
 h.blk ((Cl.alloc _ _).blk (d8 _ _))
theorem hM2 {p:g9} {m:Mv} {w w':World} (h:Cl ((w.alloc (.cells (t8 p) 24)).alloc (.cells (Z3 m) 36)) w'):w'.heap[(w.alloc (.cells (t8 p) 24)).heap.size]?=some (.cells (Z3 m) 36 (0,0)) :=
 h.blk (d8 _ _)
theorem hE2 {w w':World} {o o':Obj} (h:Cl ((w.alloc o).alloc o') w'):Cl w w':=((Cl.alloc w _).trans (Cl.alloc _ _)).trans h
def b1s (m:Mv):Prop:=(0≤m.fr∧m.fr≤63)∧(0≤m.to∧m.to≤63)∧(0≤m.promo∧m.promo≤6)
theorem c0Z (p:g9) (m:Mv) (hp:Pc p) (hm:b1s m) (w:World):Calls G.P 91 #[F5 p,mvV m] w (N0 (.tuple #[.int .i64 (Ch.H9 p m),.bool (Ch.a1r p m)]) w):=by
 obtain ⟨⟨f0,f1⟩,⟨t0,t1⟩,_,_⟩:=hm;refine E.enter (G:=G) func91 rfl (by simp [ntmps91]) zk ?_
 refine a3H (a4R ?_);refine zG ?_;refine Z1 (Cl _) (Cl.refl _) (fun _=>Cl.drew) zk ?_;have hP:=fun w' (h:Cl ((w.alloc (.cells (t8 p) 24)).alloc (.cells (Z3 m) 36)) w')=>hP2 h;have hM:=fun w' (h:Cl ((w.alloc (.cells (t8 p) 24)).alloc (.cells (Z3 m) 36)) w')=>hM2 h;(refine zR ?_);(repeat' (first|refine zA ?_|(refine E.d7 (fun _=>?_) (fun _=>?_)<;>(refine zR ?_))|(refine E.y8 (fun _=>?_) (fun _=>?_)<;>(refine zR ?_))|(fail)|(refine E.a0E (fun _=>?_) (fun _=>?_)<;>(refine zR ?_))))
 all_goals
  intro w' hw';refine zG ?_;exact ⟨b2x (d9 (by simp [Ch.H9,Ch.a1r, *])) (z7 (by simp [Ch.a1r, *])),hE2 hw'⟩
theorem b0o {f r:Int} (h0:0≤f) (h1:f≤7) (h2:0≤r) (h3:r≤7):Ch.K7 f r=8*r+f:=by unfold Ch.K7;rw [zJ zo]
theorem b8w (p:g9) (w:World) (ht:p.turn=0∨p.turn=1):Calls G.P 84 #[F5 p] w (N0 (.bool (Ch.P8 p)) w):=by
 refine E.enter (G:=G) func84 rfl (by simp [ntmps84]) zk ?_
 refine a3H (a4R ?_);refine zG ?_;refine Z1 (Cl _) (Cl.refl _) (fun _=>Cl.drew) zk ?_;have hP:=fun w' (h:Cl (w.alloc (.cells (t8 p) 24)) w')=>hCl h;have hend:∀ b w',Ch.P8 p=b→Cl (w.alloc (.cells (t8 p) 24)) w'→N0 (.bool (Ch.P8 p)) w (.returned (.bool b)) w':=fun b w' h h'=>⟨by rw [h],hEx h'⟩
 refine zR ?_;refine l9 _ (fun w hw=>a5l (hP _ hw)) (zR ?_);apply E.d7<;>intro h
 ·(refine zR ?_);(repeat' (first|refine zA ?_|(refine E.d7 (fun _=>?_) (fun _=>?_)<;>(refine zR ?_))|(refine E.y8 (fun _=>?_) (fun _=>?_)<;>(refine zR ?_))|(fail)|(refine E.a0E (fun _=>?_) (fun _=>?_)<;>(refine zR ?_))))
  all_goals (intro w' hw';refine zG ?_;exact hend _ _ (by simp [Ch.P8, *]) hw')
 have h1:=h;clear h;refine zR ?_;refine l9 _ (fun w hw=>a5l (hP _ hw)) (zR ?_);apply E.d7<;>intro h
 ·(refine zR ?_);(repeat' (first|refine zA ?_|(refine E.d7 (fun _=>?_) (fun _=>?_)<;>(refine zR ?_))|(refine E.y8 (fun _=>?_) (fun _=>?_)<;>(refine zR ?_))|(fail)|(refine E.a0E (fun _=>?_) (fun _=>?_)<;>(refine zR ?_))))
  all_goals (intro w' hw';refine zG ?_;exact hend _ _ (by simp [Ch.P8, *]) hw')
 have hr:0≤Ch.l8 p.ep∧Ch.l8 p.ep≤7:=by unfold Ch.l8;omega
 have hf:0≤Ch.o5 p.ep∧Ch.o5 p.ep≤7:=by unfold Ch.o5;omega
 have hd:Ch.P8 p=if Ch.l8 p.ep≠5-3*p.turn∨Ch.sq p p.ep≠0 then false else
  decide (Ch.sq p (Ch.K7 (Ch.o5 p.ep) (Ch.l8 p.ep-(1-2*p.turn)))=6+6*(1-p.turn))&&decide (Ch.sq p (Ch.K7 (Ch.o5 p.ep) (Ch.l8 p.ep+(1-2*p.turn)))=0):=by
  unfold Ch.P8;rw [zJ zo]
 have hp3:IntKind.i64.wrap (3*p.turn)=3*p.turn:=g8 zo zo;have h53:IntKind.i64.wrap (5-3*p.turn)=5-3*p.turn:=g8 zo zo;have h2t:IntKind.i64.wrap (2*p.turn)=2*p.turn:=g8 zo zo;have h12:IntKind.i64.wrap (1-2*p.turn)=1-2*p.turn:=g8 zo zo;have h1t:IntKind.i64.wrap (1-p.turn)=1-p.turn:=g8 zo zo;have hm:IntKind.i64.wrap (Ch.l8 p.ep-(1-2*p.turn))=Ch.l8 p.ep-(1-2*p.turn):=g8 zo zo;have ha:IntKind.i64.wrap (Ch.l8 p.ep+(1-2*p.turn))=Ch.l8 p.ep+(1-2*p.turn):=g8 zo zo;have h2:=h;clear h;have hl:0≤p.ep:=by omega
 refine zR ?_;refine l9 _ (fun w hw=>I0 (hP _ hw)) (zR ?_);refine l9 _ (fun w hw=>a5l (hP _ hw)) (zR ?_);refine o4 _ (fun w _=>a2E _ _ hl) (zR ?_);refine l9 _ (fun w hw=>a5l (hP _ hw)) (zR ?_);refine o4 _ (fun w _=>a0f _ _ hl zo) ?_;rw [h2t,h12];refine zR ?_;refine l9 _ (fun w hw=>I0 (hP _ hw)) (zR ?_);rw [hp3,h53];refine E.y8 (fun hx=>?_) (fun hx=>?_)
 ·(refine zR ?_);(repeat' (first|refine zA ?_|(refine E.d7 (fun _=>?_) (fun _=>?_)<;>(refine zR ?_))|(refine E.y8 (fun _=>?_) (fun _=>?_)<;>(refine zR ?_))|(fail)|(refine E.a0E (fun _=>?_) (fun _=>?_)<;>(refine zR ?_))))
  all_goals (intro w' hw';refine zG ?_;exact hend _ _ (by rw [hd];simp [*]) hw')
 refine zR ?_;refine l9 _ (fun w hw=>a5l (hP _ hw)) (zR ?_);refine zC ?_;refine zR ?_;refine l9 _ (fun w hw=>P5 (hP _ hw) _ zo zo) (zR ?_);refine E.y8 (fun hy=>?_) (fun hy=>?_)
 ·(refine zR ?_);(repeat' (first|refine zA ?_|(refine E.d7 (fun _=>?_) (fun _=>?_)<;>(refine zR ?_))|(refine E.y8 (fun _=>?_) (fun _=>?_)<;>(refine zR ?_))|(fail)|(refine E.a0E (fun _=>?_) (fun _=>?_)<;>(refine zR ?_))))
  all_goals (intro w' hw';refine zG ?_;exact hend _ _ (by rw [hd];simp [*]) hw')
 have a1:Ch.K7 (Ch.o5 p.ep) (Ch.l8 p.ep-(1-2*p.turn))=8*(Ch.l8 p.ep-(1-2*p.turn))+Ch.o5 p.ep:=b0o hf.1 hf.2 zo zo;have a2:Ch.K7 (Ch.o5 p.ep) (Ch.l8 p.ep+(1-2*p.turn))=8*(Ch.l8 p.ep+(1-2*p.turn))+Ch.o5 p.ep:=b0o hf.1 hf.2 zo zo;rw [zJ zo] at hd;refine zR ?_;rw [hm];refine o4 _ (fun w _=>a3n _ _ _ zo zo zo zo) (zR ?_);refine zC ?_;refine zR ?_;refine l9 _ (fun w hw=>P5 (hP _ hw) _ zo zo) (zR ?_);refine l9 _ (fun w hw=>I0 (hP _ hw)) (zR ?_);rw [h1t];refine o4 _ (fun w _=>a4S _ _ _ zo zo zo zo) (zR ?_);refine E.d7 (fun hz=>?_) (fun hz=>?_)
 ·refine zR ?_;rw [ha];refine o4 _ (fun w _=>a3n _ _ _ zo zo zo zo) (zR ?_);refine zC ?_;refine zR ?_;refine l9 _ (fun w hw=>P5 (hP _ hw) _ zo zo) (zR ?_);intro w' hw';refine zG ?_;exact hend _ _ (by rw [hd];simp [hz]) hw'
 ·refine zR ?_;intro w' hw';refine zG ?_;exact hend _ _ (by rw [hd];simp [hz]) hw'
theorem c5i {p:g9} (h:Ch.b30 (fun i=>!Ch.L4 p i) 64=false):Pc p:=by
 intro i;by_cases hi:i.toNat<64
 ·have h1:¬ (∃ j,j<64∧(!Ch.L4 p j)=true):=fun hx=>by rw [(Ch.a3I _ _).2 hx] at h;cases h
  have h2:Ch.L4 p i.toNat=true:=by
   cases hb:Ch.L4 p i.toNat with
   | true=>rfl
   | false=>exact absurd ⟨i.toNat,hi,by simp [hb]⟩ h1
  have e:Ch.sq p ((i.toNat:Nat):Int)=Ch.sq p i:=by unfold Ch.sq;rw [zg]
  rw [← e];unfold Ch.L4 at h2;generalize Ch.sq p ((i.toNat:Nat):Int)=x at *;simp at h2;omega
 ·unfold Ch.sq;rw [xA,xS (by rw [p.len];omega)]
  decide
theorem b2z {f:Nat→Bool}:∀ n,Ch.a0u f n=none→Ch.a67 f n=0
 | 0,_=>rfl
 | n+1,h=>by
  unfold Ch.a0u at h;split at h
  ·cases h
  ·rename_i h1;split at h
   ·cases h
   ·rename_i h2;simp [Ch.a67,b2z n h1,h2]
theorem b4j {p:g9} {s:Int} (h:Ch.count p 1 s=1):0≤Ch.a2J p s:=by
 unfold Ch.a2J;split
 ·omega
 ·rename_i h1;have:=b2z _ h1;unfold Ch.count at h;omega
theorem c1a (p:g9) (w:World):Calls G.P 36 #[F5 p] w (N0 (.bool (Ch.valid p)) w):=by
 refine E.enter (G:=G) func36 rfl (by simp [ntmps36]) zk ?_
 refine a3H (a4R ?_);refine zG ?_;refine Z1 (Cl _) (Cl.refl _) (fun _=>Cl.drew) zk ?_;have hP:=fun w' (h:Cl (w.alloc (.cells (t8 p) 24)) w')=>hCl h;have hend:∀ b w',Ch.valid p=b→Cl (w.alloc (.cells (t8 p) 24)) w'→N0 (.bool (Ch.valid p)) w (.returned (.bool b)) w':=fun b w' h h'=>⟨by rw [h],hEx h'⟩
 refine zR ?_;refine a5K [2,3,4] 5 (fun n:Nat=>[(3,.int .i64 n)]) (fun n=>n≤64∧Ch.b30 (fun i=>!Ch.L4 p i) n=false) (fun n=>64-n) zk 0 ⟨zo,rfl⟩ ⟨rfl,trivial⟩ ?_;intro n j ⟨hn,hf⟩;refine zR ?_;apply E.d7<;>intro h
 ·have hi:n<64:=by omega
  have hbad:Ch.L4 p n=false→Ch.valid p=false:=fun h=>by
   have:Ch.b30 (fun i=>!Ch.L4 p i) 64=true:=Ch.a4s hi (by simp [h])
   simp [Ch.valid,this]
  have hgood:Ch.L4 p n=true→Ch.b30 (fun i=>!Ch.L4 p i) (n+1)=false:=fun h=>by simp [Ch.b30,hf,h]
  refine zR ?_;refine zC ?_;refine zR ?_;refine l9 _ (fun w hw=>P5 (hP _ hw) (n:Int) zo zo) ?_;(refine zR ?_);(repeat' (first|refine zA ?_|(refine E.d7 (fun _=>?_) (fun _=>?_)<;>(refine zR ?_))|(refine E.y8 (fun _=>?_) (fun _=>?_)<;>(refine zR ?_))|(fail)|(refine E.a0E (fun _=>?_) (fun _=>?_)<;>(refine zR ?_))))
  all_goals first
   | (intro w' hw';refine zG ?_;exact hend _ _ (hbad (by simp [Ch.L4, *])) hw')
   | exact ⟨n+1,⟨d9 (by rw [g8 zo zo];rfl),trivial⟩,⟨zo,hgood (by simp [Ch.L4, *])⟩,zo⟩
   | (refine ⟨n+1,⟨d9 (by rw [g8 zo zo];rfl),trivial⟩,⟨zo,hgood (by simp_all [Ch.L4];try omega)⟩,zo⟩)
 ·have:n=64:=by omega
  subst this;have hp:=c5i hf;have hv:Ch.valid p=(!((!decide (p.turn=0) && !decide (p.turn=1))||decide (p.castle<0)||decide (15<p.castle)||decide (p.half<0)||decide (p.full<1)) &&
   !(!decide (Ch.count p 1 0=1) || !decide (Ch.count p 1 1=1) || !decide (Ch.rights p=p.castle) || !Ch.P8 p) && !Ch.C2 p (Ch.a2J p (1-p.turn)) p.turn):=by
   unfold Ch.valid;rw [hf];simp
  refine zG ?_;refine b0m (σ:=Unit) [2] 5 (fun _=>[]) (fun _=>(p.turn=0∨p.turn=1)∧0≤p.castle∧p.castle≤15∧0≤p.half∧1≤p.full) zk ?_ (fun _ j hk=>?_)
  ·(refine zR ?_);(repeat' (first|refine zA ?_|(refine E.d7 (fun _=>?_) (fun _=>?_)<;>(refine zR ?_))|(refine E.y8 (fun _=>?_) (fun _=>?_)<;>(refine zR ?_))|(fail)|(refine E.a0E (fun _=>?_) (fun _=>?_)<;>(refine zR ?_))))
   all_goals first
    | (intro w' hw';refine zG ?_;exact hend _ _ (by rw [hv];simp [*]) hw')
    | exact ⟨(),trivial,zo,zo,zo,zo,zo⟩
  obtain ⟨k1,k2,k3,k4,k5⟩:=hk;refine b0m (σ:=Unit) [2] 5 (fun _=>[]) (fun _=>Ch.count p 1 0=1∧Ch.count p 1 1=1∧Ch.rights p=p.castle∧Ch.P8 p=true) zk ?_ (fun _ j hk=>?_)
  ·(refine zR ?_);(repeat' (first|refine zA ?_|(refine E.d7 (fun _=>?_) (fun _=>?_)<;>(refine zR ?_))|(refine E.y8 (fun _=>?_) (fun _=>?_)<;>(refine zR ?_))|(refine D6 _ (fun _ _ h=>h.trans) (fun w _=>c0X _ _ _ _ ?_ ?_ ?_ ?_) ?_;(· exact zO);(· exact zO);(· exact zO);(· exact zO);refine zR ?_)|(refine D6 _ (fun _ _ h=>h.trans) (fun w _=>b2y _ _ ?_ ?_) ?_;(· exact zO);(· exact zO);refine zR ?_)|(refine D6 _ (fun _ _ h=>h.trans) (fun w _=>b8w _ _ ?_) ?_;(· exact zO);refine zR ?_)|(refine E.a0E (fun _=>?_) (fun _=>?_)<;>(refine zR ?_))))
   all_goals first
    | (intro w' hw';refine zG ?_;exact hend _ _ (by rw [hv];simp_all;try omega) hw')
    | exact ⟨(),trivial,zo,zo,zo,by simp_all⟩
  obtain ⟨c0,c1,c2,c3⟩:=hk;have h1t:IntKind.i64.wrap (1-p.turn)=1-p.turn:=g8 zo zo;have hkr:=Ch.D1 p (1-p.turn);have hkt:0≤Ch.a2J p (1-p.turn):=b4j (by rcases k1 with h|h<;>rw [h]<;>assumption)
  refine zR ?_;refine l9 _ (fun w hw=>A4 (hP _ hw)) (zR ?_);refine l9 _ (fun w hw=>A4 (hP _ hw)) (zR ?_);refine l9 _ (fun w hw=>I0 (hP _ hw)) (zR ?_);rw [h1t];refine D6 _ (fun _ _ h=>h.trans) (fun w _=>a8E p _ _ zo zo) (zR ?_);refine l9 _ (fun w hw=>I0 (hP _ hw)) (zR ?_);refine D6 _ (fun _ _ h=>h.trans) (fun w _=>a2e p hp _ _ _ hkt zo) (zR ?_);intro w' hw';refine zG ?_;exact hend _ _ (by
   have e1:decide (p.castle<0)=false:=zV zo;have e2:decide (15<p.castle)=false:=zV zo;have e3:decide (p.half<0)=false:=zV zo;have e4:decide (p.full<1)=false:=zV zo;rw [hv,e1,e2,e3,e4];rcases k1 with h|h<;>simp [h,c0,c1,c2,c3]) hw'
end
