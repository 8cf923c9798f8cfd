/- One part of the proof: Sp31 Pk46 Pk47 Pk53 Pk54 Pk48 Dfr Pk49. -/
import Derived.Lib.UnsafeStr
import Derived.Defers
import Derived.Recover
import Derived.Test.YtpclhlhcegcflaaGreatDoorM1
import Derived.Test.YtpclhlhcegcflaaGreatDoorM3
import Derived.Test.YtpclhlhcegcflaaGreatDoorM13
import Derived.Test.YtpclhlhcegcflaaGreatDoorM16
namespace Go.Proofs.YtpclhlhcegcflaaGreatDoor
set_option maxRecDepth 100000
set_option linter.unusedSimpArgs false
set_option linter.unusedVariables false
section
open Go Go.RowKit
open E
structure StR (s:Ch.a0n):Prop where
 mv:MvR s.mv
 tags:I64 s.tags
 san:s.san.length≤1000
 lan:s.lan.length≤1000
 uci:s.uci.length≤1000
 fen:s.fen.length≤1000
 xfen:s.xfen.length≤1000
 pos:a6p s.pos
 outcome:s.outcome.length≤1000
 method:I64 s.method
 status:I64 s.status
def c4R:List (Option IntKind):=[some .i64,some .i64,some .i64,some .i64,none,none,none,none,none]++(List.replicate 69 (some .i64)++[none,some .i64,some .i64])
theorem a5e:∀ {a b:List (Option IntKind)} {x y:List Value},okL a x=true→okL b y=true→okL (a++b) (x++y)=true:=by
 intro a
 induction a with
 | nil=>intro b x y h1 h2;cases x with
  | nil=>simpa using h2
  | cons=>simp [okL] at h1
 | cons k a ih=>intro b x y h1 h2;cases x with
  | nil=>simp [okL] at h1
  | cons c x =>
   simp only [okL,zP] at h1;simp only [yS,okL,zP];exact ⟨h1.1,ih h1.2 h2⟩
theorem a3N {n:Int} (h:I64 n):okV (some .i64) (.int .i64 n)=true:=by simp [okV,b7J h]
theorem b6F {t:Tx} (h:t.length≤1000):okV none (m9 t)=true:=by
 have:(tx t).size≤maxLen:=by rw [C3];unfold maxLen;omega
 simp [m9,okV,this]
theorem c4S {p:l9} (h:a6p p):okL (List.replicate 69 (some .i64)) (Y9 p)=true:=by
 have h1:=c2E p.board h.sq;rw [p.len] at h1;have h2:okL (List.replicate 5 (some .i64)) [.int .i64 p.turn,.int .i64 p.castle,.int .i64 p.ep,.int .i64 p.half,.int .i64 p.full]=true:=by
  simp only [List.replicate,okL,a3N h.turn,a3N h.castle,a3N h.ep,a3N h.half,a3N h.full,Bool.and_self]
 exact a5e h1 h2
theorem c4T {s:Ch.a0n} (h:StR s):okL c4R (stL s)=true:=by
 refine a5e ?_ (a5e (c4S h.pos) ?_)
 ·simp only [okL,a3N h.mv.1,a3N h.mv.2.1,a3N h.mv.2.2,a3N h.tags,b6F h.san,b6F h.lan,b6F h.uci,b6F h.fen,b6F h.xfen,Bool.and_self]
 ·simp only [okL,b6F h.outcome,a3N h.method,a3N h.status,Bool.and_self]
theorem c4U:G.P.eqGuardType G.P.depth 39=false:=by kernel_rfl
theorem b0j (s:Ch.a0n):(Value.agg (stL s).toArray).formed G.P 39=true:=by
 have h:(stL s).toArray.size=81:=by simp [I7]
 obtain ⟨f,hu,_⟩:=a1G (G.tab 39 _ (show W1 G.T 39=some (.struct 81 _) from rfl));unfold Value.formed;simp [h,Program.cellsOf,b7Z,hu]
theorem c5K {s:Ch.a0n} (h:StR s) (w:World):(Op.equalIn 10000 39 (.agg (stL s).toArray) (.agg (stL s).toArray)).run G.P w = .ok true w :=
 b07 (m:=4) (D:=4) (ks:=c4R) zk zd c4U zk (b0j s) (b0j s) (c4T h) (c4T h) true (by simp) w
theorem b8V {C:World→Prop} {t:Nat} {xs ys:Array Value} {b:Bool} (hg:G.P.eqGuardType G.P.depth t=false) (hr:∀ w,(Op.equalIn 10000 t (.agg xs) (.agg ys)).run G.P w = .ok b w) {x y:Operand} {dst:Option Nat} {yt ty:Nat} {pos:String} {af:Array Edge} {gd:Option (Nat×Bool)} {env:C8} {K:Value→Prop} (hx:ev env x = .agg xs) (hy:ev env y = .agg ys)
  (h:K (.bool (!b))):a9r G.P C { dst,op:=.binOp .neq t x y yt,type:=ty,pos,after:=af,guard:=gd } env K:=by
 refine ⟨_,fun w _=>?_,h⟩;show (do pure (Next.value (← (do eqGuard .neq _ x y (ev env x) (ev env y);binOp .neq _ (ev env x) (ev env y)))):Sem Next).run G.P w=_
 have e1:(eqGuard .neq t x y (.agg xs) (.agg ys)).run G.P w = .ok () w:=by simp [eqGuard,hg]
 rw [hx,hy,Sem.run_bind,Sem.run_bind,e1,Result.andThen_ok,run_neq_struct,hr];rfl
theorem b8W (p:l9) (usual:Bool) (w:World):Calls G.P 11 #[E2 p,.bool usual] w (L4 (E2 (if usual then P9 else p)) w):=by
 obtain ⟨zp,hzp,hz69⟩:=b01;refine zN Tryz.func11 ?_;refine zG ?_;generalize hW:w.alloc (.cells (v8 p) 24)=W0;have hP0:W0.heap[w.heap.size]?=some (.cells (v8 p) 24 (0,0)):=by rw [← hW];exact g7 _ _
 have hE:Cl w W0:=by rw [← hW];exact Cl.alloc _ _
 clear hW;refine t7 zp hzp ?_;have hB0:(W0.alloc (.cells zp.cells 24)).heap[W0.heap.size]?=some (.cells zp.cells 24 (0,0)):=g7 _ _;have c1:Cl W0 (W0.alloc (.cells zp.cells 24)):=Cl.alloc _ _;have hP1:=c1.blk hP0;generalize W0.alloc (.cells zp.cells 24)=w1 at *;cases usual
 ·refine zR ?_;refine d9 _ (A3 hP1) (zR ?_);refine J6 hB0 (Y9 p) rfl a1J (C4 _) (one_pos _) (by rw [hz69];omega) (fun w2 u2=>zR ?_)
  refine d9 _ (A3 (p:=p) (by rw [u2.at_,B7 _ _ (by rw [C4,hz69])];rfl)) (zR ?_)
  exact ⟨rfl,u2.cl (hE.trans c1) hE.size⟩
 ·refine zR ?_;refine o8 (c1s _) fun w2 c2=>zR ?_;refine J6 (c2.blk hB0) (Y9 P9) rfl a1J (C4 _) (one_pos _) (by rw [hz69];omega) (fun w3 u3=>zR ?_)
  refine d9 _ (A3 (p:=P9) (by rw [u3.at_,B7 _ _ (by rw [C4,hz69])];rfl)) (zR ?_)
  exact ⟨rfl,u3.cl (hE.trans (c1.trans c2)) hE.size⟩
theorem c1t (p:l9) (usual:Bool) (hp:usual=false→Fen p) (w:World):Calls G.P 15 #[E2 p,.bool usual] w (L4 (m9 (if usual then [] else Ch.fenT p)) w):=by
 refine zN Tryz.func15 ?_;refine zG ?_;generalize hW:w.alloc (.cells (v8 p) 24)=W0;have hP0:W0.heap[w.heap.size]?=some (.cells (v8 p) 24 (0,0)):=by rw [← hW];exact g7 _ _
 have hE:Cl w W0:=by rw [← hW];exact Cl.alloc _ _
 clear hW;cases usual
 ·refine zR ?_;refine d9 _ (A3 hP0) (zR ?_);refine o8 (a29 p (hp rfl) _) fun w2 c2=>zR ?_;exact ⟨rfl,hE.trans c2⟩
 ·refine zR ?_;exact ⟨rfl,hE⟩
def asked (p:l9) (ms:List Mv):Bool:=Ch.valid p&&decide (p.half≤1000000)&&decide (p.full≤1000000)&&decide (ms.length≤80)&&Ch.quiet p ms
theorem b6G (p:l9) (ms:List Mv) (hms:∀ m∈ms,MvR m) {v:Value} (w:World) (hrow:a4R w v ms):Calls G.P 12 #[E2 p,v] w (L4 (.bool (asked p ms)) w):=by
 obtain ⟨al,cl,rfl,hal⟩:=hrow.form;refine zN Tryz.func12 ?_;refine zG ?_;generalize hW:w.alloc (.cells (v8 p) 24)=W0;have hP0:W0.heap[w.heap.size]?=some (.cells (v8 p) 24 (0,0)):=by rw [← hW];exact g7 _ _
 have hE:Cl w W0:=by rw [← hW];exact Cl.alloc _ _
 clear hW;have hA:asked p ms=(Ch.valid p&&decide (p.half≤1000000)&&decide (p.full≤1000000)&&decide (ms.length≤80)&&Ch.quiet p ms):=rfl;have hiff:=Ch.a6k p;refine zR ?_;refine d9 _ (A3 hP0) (zR ?_);refine o8 (b9P p _) fun w2 c2=>?_;have hP2:=c2.blk hP0;generalize Ch.valid p=b at *;cases b
 ·refine zR ?_;exact ⟨o9 (by rw [hA];rfl),hE.trans c2⟩
 have hI:=hiff.1 rfl;refine zR ?_;refine d9 _ (a8f hP2) (zR ?_);apply E.d6<;>intro h
 ·have h1:=h;clear h;refine zR ?_;refine d9 _ (b0y hP2) (zR ?_);apply E.d6<;>intro h
  ·have h2:=h;clear h;refine zR ?_;apply E.d6<;>intro h
   ·have h3:ms.length≤80:=by omega
    clear h;refine zR ?_;refine d9 _ (A3 hP2) (zR ?_);refine o8 (c0t p hI ⟨zo,zo⟩ ms hms zo _ (hrow.step (hE.trans c2))) fun w3 c3=>?_;generalize Ch.quiet p ms=qb at *;refine zR ?_;exact ⟨o9 (by rw [hA,zX h1,zX h2,zX h3];simp),hE.trans (c2.trans c3)⟩
   ·refine zR ?_;exact ⟨o9 (by rw [hA,zV (show ¬ ms.length≤80 by omega)];simp),hE.trans c2⟩
  ·refine zR ?_;exact ⟨o9 (by rw [hA,zV h];simp),hE.trans c2⟩
 ·refine zR ?_;exact ⟨o9 (by rw [hA,zV h];simp),hE.trans c2⟩
end
section
open Go Go.RowKit
open E
open Ch Bb
section gens
variable {w:World} {dst:Option Nat} {ty:Nat} {pos:String} {af:Array Edge} {gd:Option (Nat×Bool)} {env:C8} {K:Value→World→Prop}
theorem b0k {fo:Operand} {args:Array Operand} {argTypes:Array Nat} {f:Nat} {cap:Array Value} (vs:Array Value) (hf:ev env fo = .func (.func f) #[] cap) (hfn:G.fn f=true) (ha:(args.map (ev env)).toList++cap.toList=vs.toList)
  (h:Calls G.P f vs w (fun r w'=>∃ v,r = .returned v∧K v w')):L5 G.P { dst,op:=.call { callee:=.value fo,args,argTypes },type:=ty,pos,after:=af,guard:=gd } env w K:=by
 obtain ⟨x,h1,h2,h3⟩:=G.enters f hfn;have ha:args.map (ev env)++cap=vs:=Array.toList_inj.1 (by rw [Array.toList_append];exact ha)
 subst ha;refine ⟨.inr (.inr ⟨f,(args.map (ev env))++cap,?_,h⟩)⟩;simp [execOp,resolve,hf,Deferred.ofValue,invoke,callFunc,h1,h3];cases hb:x.body with
 | none=>rw [hb] at h2;cases h2
 | some c=>simp
theorem a9i {f:Nat} {cs:Array Operand} (caps:Array Value) (hc:(cs.map (ev env)).toList=caps.toList) (h:K (.func (.func f) #[] caps) w):L5 G.P { dst,op:=.makeFunc (.func f) #[] cs,type:=ty,pos,after:=af,guard:=gd } env w K:=by
 have hc:=Array.toList_inj.1 hc;subst hc;exact ⟨.inl ⟨.func (.func f) #[] (cs.map (ev env)),w,by simp [execOp,Instr.makeFunc],h⟩⟩
end gens
theorem b6H:B9 P9:=(a6k P9).1 (by decide +kernel)
theorem b6I:inCheck P9=false:=by decide +kernel
theorem b6J:fenT P9=[114,110,98,113,107,98,110,114,47,112,112,112,112,112,112,112,112,47,56,47,56,47,56,47,56,47,80,80,80,80,80,80,80,80,47,82,78,66,81,75,66,78,82,32,119,32,75,81,107,113,32,45,32,48,32,49]:=by decide +kernel
theorem a9j (w:World) (hT:C9 w) (hS:Spc w):Calls G.P 133 #[] w (fun r w'=>Cl w w'∧∃ P b,r = .returned (.pointer (some ⟨P,0,none⟩))∧w.heap.size≤P∧w.heap.size≤b∧H9 w' P b P9 (.slice none 0 0)):=by
 have hd:=b2E b6H zd zd w hT hS;rw [b6J] at hd;refine zN Tryz.func133 ?_;refine zR ?_;refine m8 hd ?_;rintro e w1 ⟨c1,P,b,rfl,sP,sb,hP,hB⟩;refine ⟨_,rfl,?_⟩;refine zR ?_;exact ⟨c1,P,b,rfl,sP,sb,by rw [b6I];exact hP,hB,.inl rfl⟩
def a0r (P:Nat):Nd:={ C2 ⟨⟨0,0,0⟩,0⟩ with pos:=.pointer (some ⟨P,0,none⟩) }
def N8 (P R tb:Nat):Gm:=⟨P,star,.map (some tb),R,R,.slice none 0 0,0⟩
set_option maxHeartbeats 1000000 in
theorem c37 {p:l9} (hI:B9 p) (hle:(A5 p).length≤218) {G0 M P b c P0 tb:Nat} (w:World) (hT:C9 w) (hb:w.heap[G0]?=some (.cells (gmA (N8 P0 M tb)) 131 (0,0))) (hM:w.heap[M]?=some (.cells (F6 (a0r P0)) 141 (0,0)))
  (hP:w.heap[P]?=some (.cells (hdA b (C7 p false) (.slice none 0 0)) 173 (0,0))) (hB:w.heap[b]?=some (.cells (I4 (mbOf p)) 237 (0,0))) (hc:w.heap[c]?=some (.cells #[.pointer (some ⟨P,0,none⟩)] 83 (0,0))) :
  Calls G.P 136 #[.pointer (some ⟨G0,0,none⟩),.pointer (some ⟨c,0,none⟩)] w (fun r w'=>r = .returned (.tuple #[])∧∃ g' z,K9 w' G0 g' [] z∧z.p=p∧z.M=M∧z.P=P∧((g'.meth:Int),g'.out)=C6 [p] p (0,star)∧Fr [P,G0,M] w w'):=by
 have hGP:=O1 hb hP zd;have hMP:=O1 hM hP zd;have hbP:=O1 hB hP zd;have hcP:=O1 hc hP zd;have hcG:=O1 hc hb zd;have hcM:=O1 hc hM zd;have hGM:=O1 hb hM zd;have hbG:=O1 hB hb zd;have hbM:=O1 hB hM zd;have hic:=fun (w':World) (h:Cl w w')=>a6S (h:=C7 p false) (B:=mbOf p) (by have:=hI.turn;show p.turn+1=1∨p.turn+1=2;omega) (E6 p 0).1 (E6 p 0).2 (E6 p 1).1 (E6 p 1).2 w' (hT.cl h) (h.blk hP) (h.blk hB)
 have hic2:(mbOf p).chk (C7 p false).turn=inCheck p:=b8c hI;rw [hic2] at hic;refine zN Tryz.func136 ?_;refine zR ?_;refine zK 5 ?_;refine zR ?_;refine m7 _ (fun w' hw=>D8 (v:=.pointer (some ⟨P,0,none⟩)) (hw.blk hc) rfl rfl) (zR ?_);refine m7 _ (fun w' hw=>D8 (v:=.pointer (some ⟨P,0,none⟩)) (hw.blk hc) rfl rfl) (zR ?_);refine D4 _ (fun _ _ h=>h.trans) (fun w' hw=>hic w' hw) (zR ?_);intro w1 c1;refine zR ?_;refine zT (c1.blk hP) [.bool (inCheck p)] fun w2 u2=>?_;have hP2:w2.heap[P]?=some (.cells (hdA b (C7 p (inCheck p)) (.slice none 0 0)) 173 (0,0)):=u2.at_;have f2:Fr [P,G0,M] w w2:=(Fr.cl c1).trans (Fr.upd u2 (by simp))
 have hb2:=(Tn.upd u2).blk (c1.blk hb) hGP;have hc2:=(Tn.upd u2).blk (c1.blk hc) hcP;have hM2:=(Tn.upd u2).blk (c1.blk hM) hMP;have hB2:=(Tn.upd u2).blk (c1.blk hB) hbP;refine zR ?_;refine d9 _ (D8 (v:=.pointer (some ⟨P,0,none⟩)) hc2 rfl rfl) (zR ?_);refine zT hb2 [.pointer (some ⟨P,0,none⟩)] fun w3 u3=>?_;have hb3:w3.heap[G0]?=some (.cells (gmA (N8 P M tb)) 131 (0,0)):=u3.at_;have f3:=f2.trans (Fr.upd u3 (by simp))
 have hP3:=(Tn.upd u3).blk hP2 (Ne.symm hGP);have hc3:=(Tn.upd u3).blk hc2 hcG;have hM3:=(Tn.upd u3).blk hM2 (Ne.symm hGM);have hB3:=(Tn.upd u3).blk hB2 hbG;refine zR ?_;refine zK 7 ?_;refine zR ?_;refine m7 _ (fun w' hw=>b5d (hw.blk hb3)) (zR ?_);refine m7 _ (fun w' hw=>D8 (v:=.pointer (some ⟨P,0,none⟩)) (hw.blk hc3) rfl rfl) (zR ?_);intro w4 c4;refine zR ?_;refine zT (c4.blk hM3) [.pointer (some ⟨P,0,none⟩)] fun w5 u5=>?_;have hM5:w5.heap[M]?=some (.cells (F6 (a0r P)) 141 (0,0)):=u5.at_;have f5:=(f3.trans (Fr.cl c4)).trans (Fr.upd (b:=M) u5 (by simp))
 have hb5:=(Tn.upd u5).blk (c4.blk hb3) hGM;have hP5:=(Tn.upd u5).blk (c4.blk hP3) (Ne.symm hMP);have hB5:=(Tn.upd u5).blk (c4.blk hB3) hbM;have hPM:H9 w5 P b p (.slice none 0 0):=⟨hP5,hB5,.inl rfl⟩;have hT5:C9 w5:=hT.fr f5 fun k hk cs t fz hh=>by
  simp only [yQ,zx,or_false] at hk;rcases hk with e | e | e
  ·rw [e] at hh;rw [← (Obj.cells.inj (Option.some.inj (hP.symm.trans hh))).2.1];decide
  ·rw [e] at hh;rw [← (Obj.cells.inj (Option.some.inj (hb.symm.trans hh))).2.1];decide
  ·rw [e] at hh;rw [← (Obj.cells.inj (Option.some.inj (hM.symm.trans hh))).2.1];decide
 obtain ⟨z,hz⟩:∃ z:Q8,z=⟨M,a0r P,P,b,p,.slice none 0 0⟩:=⟨_,rfl⟩;have hch:Chn w5 [z]:=by rw [hz];exact ⟨hM5,rfl,rfl,hPM,trivial⟩
 have hev:=b0b (g:=N8 P M tb) (n:=z) (l:=[]) hI hle (b88 hI b) (by simp) (by intro x hx;rw [zY.1 hx,hz];exact hI) w5 hT5 hb5 (by rw [hz];rfl) hch hPM (Ne.symm hGP) hbG (fun _=>rfl)
 refine zR ?_;refine m8 hev ?_;rintro e w6 ⟨rfl,m',o',hend,hgb,hfr⟩;refine ⟨_,rfl,?_⟩;refine zR ?_;have hend:((m':Int),o')=C6 [p] p (((0:Nat):Int),star):=by rw [hz] at hend;exact hend
 have kG:Kp [] w5 w6:=Kp.fr hfr fun k hk=>by rw [zY.1 hk];exact .inr ⟨_,_,hb5⟩
 refine ⟨rfl,{ N8 P M tb with out:=o',meth:=m' },z,⟨hgb,by rw [hz];rfl,by rw [hz];rfl,⟨z,[],rfl,by rw [hz];rfl⟩,Chn.kp kG hch fun n _=>n.off_nil,(by rw [hz];rfl),fun n hn=>(by cases hn),(by rw [hz];intro e;cases e),fun n hn=>(by cases hn),b0c hend fun _=>rfl⟩,by rw [hz],by rw [hz],by rw [hz],hend,f5.trans (hfr.mono (by simp))⟩
theorem uFn:∃ a b c,G.P.underlying 122=some (.func a b c):=by
 have h:(match G.P.underlying 122 with | some (.func ..)=>true | _=>false)=true:=by kernel_rfl
 split at h
 ·rename_i a b c e;exact ⟨a,b,c,e⟩
 ·cases h
theorem c5L {w:World} {b i:Nat} {v:Value} {cs:Array Value} {u:Nat} {fz:Nat×Nat} (hb:w.heap[b]?=some (.cells cs u fz)) (hi:cs[i]?=some v):o4 G.P w 122 ⟨b,i,none⟩ v:=by
 obtain ⟨e1,e2,e3,he⟩:=uFn;have ha:(isAgg 122).run G.P w = .ok false w:=by unfold isAgg;simp [run_underlying he]
 unfold o4 Instr.loadAt loadVar;simp [Instr.sureAddr,ha,D2 hb,hi]
theorem c38 (f:Fn) (a c:Array Value):Cmp 122 (.func f a c) .nilFunc false:=by
 obtain ⟨e1,e2,e3,he⟩:=uFn;refine b0G (fun d w=>?_) (fun w=>by simp [binOp]) (fun w=>by simp [binOp]) (fun op a v w=>by unfold eqGuard;cases op<;>rfl)
 simp [Op.equalIn,run_underlying he]
theorem c5M:H6 181 122 1 8:=S9 zk
structure c2m (w w':World) (G0:Nat) (p:l9) (looked:Bool):Prop where
 ex:∃ g z,K9 w' G0 g [] z∧z.p=p∧w.heap.size≤z.M∧w.heap.size≤z.P∧((g.meth:Int),g.out)=(if looked then C6 [p] p (0,star) else (0,star))
 cl:Cl w w'
 new:w.heap.size≤G0
set_option maxHeartbeats 1000000 in
theorem b4j (w:World) (hT:C9 w) (hS:Spc w):Calls G.P 97 #[.slice none 0 0] w (fun r w'=>∃ G0,r = .returned (.pointer (some ⟨G0,0,none⟩))∧c2m w w' G0 P9 false):=by
 refine zN Tryz.func97 ?_;refine zR ?_;refine m8 (a9j w hT hS) ?_;rintro e w1 ⟨c1,P,b,rfl,sP,sb,hPM⟩;refine ⟨_,rfl,?_⟩;refine zR ?_;refine s7 (F6 (a0r P)) zk (zR ?_);have c2:=c1.trans (Cl.alloc w1 (.cells (F6 (a0r P)) 141));have hPM2:=hPM.step (Cl.alloc w1 (.cells (F6 (a0r P)) 141));have nR:=g7 w1 (.cells (F6 (a0r P)) 141);have s2:=A8 w1 (.cells (F6 (a0r P)) 141);have s1:=c1.size;obtain ⟨R,hR⟩:∃ R,R=w1.heap.size:=⟨_,rfl⟩;rw [← hR] at nR ⊢;generalize w1.alloc (.cells (F6 (a0r P)) 141)=w2 at *;refine a4j ?_;have c3:=c2.trans (Cl.alloc w2 (.map #[] 0));have hPM3:=hPM2.step (Cl.alloc w2 (.map #[] 0));have nR3:=(Cl.alloc w2 (.map #[] 0)).blk nR;have s3:=A8 w2 (.map #[] 0);generalize w2.alloc (.map #[] 0)=w3 at *;refine zR ?_;refine s7 (gmA (N8 P R w2.heap.size)) zk (zR ?_);have c4:=c3.trans (Cl.alloc w3 (.cells (gmA (N8 P R w2.heap.size)) 131));have hPM4:=hPM3.step (Cl.alloc w3 (.cells (gmA (N8 P R w2.heap.size)) 131));have nR4:=(Cl.alloc w3 (.cells (gmA (N8 P R w2.heap.size)) 131)).blk nR3;have nG:=g7 w3 (.cells (gmA (N8 P R w2.heap.size)) 131);have s4:=A8 w3 (.cells (gmA (N8 P R w2.heap.size)) 131);generalize w3.alloc (.cells (gmA (N8 P R w2.heap.size)) 131)=w4 at *;refine a52 1 (zR ?_);refine ⟨_,rfl,⟨N8 P R w2.heap.size,⟨R,a0r P,P,b,P9,.slice none 0 0⟩,⟨nG,rfl,rfl,⟨_,[],rfl,rfl⟩,⟨nR4,rfl,rfl,hPM4,trivial⟩,rfl,fun n hn=>(by cases hn),fun e=>(by cases e),fun n hn=>(by cases hn),fun _=>rfl⟩,rfl,(show w.heap.size≤R by omega),sP,rfl⟩,c4,zo⟩
set_option maxHeartbeats 1000000 in
theorem b4k {p:l9} (hI:B9 p) (hle:(A5 p).length≤218) {P b c O k:Nat} (w:World) (hT:C9 w) (hS:Spc w)
  (hP:w.heap[P]?=some (.cells (hdA b (C7 p false) (.slice none 0 0)) 173 (0,0))) (hB:w.heap[b]?=some (.cells (I4 (mbOf p)) 237 (0,0))) (hc:w.heap[c]?=some (.cells #[.pointer (some ⟨P,0,none⟩)] 83 (0,0)))
  (hO:w.heap[O]?=some (.cells #[.func (.func 136) #[] #[.pointer (some ⟨c,0,none⟩)]] 122 (0,0))) :
  Calls G.P 97 #[.slice (some ⟨O,0,none⟩) 1 k] w (fun r w'=>∃ G0 g z,r = .returned (.pointer (some ⟨G0,0,none⟩))∧w.heap.size≤G0∧K9 w' G0 g [] z∧z.p=p∧w.heap.size≤z.M∧z.P=P∧((g.meth:Int),g.out)=C6 [p] p (0,star)∧Tn P w w'):=by
 refine zN Tryz.func97 ?_;refine zR ?_;refine m8 (a9j w hT hS) ?_;rintro e w1 ⟨c1,P0,b0,rfl,sP,sb,hPM⟩;refine ⟨_,rfl,?_⟩;refine zR ?_;refine s7 (F6 (a0r P0)) zk (zR ?_);have c2:=c1.trans (Cl.alloc w1 (.cells (F6 (a0r P0)) 141));have nR:=g7 w1 (.cells (F6 (a0r P0)) 141);have s2:=A8 w1 (.cells (F6 (a0r P0)) 141);have s1:=c1.size;obtain ⟨R,hR⟩:∃ R,R=w1.heap.size:=⟨_,rfl⟩;rw [← hR] at nR ⊢;generalize w1.alloc (.cells (F6 (a0r P0)) 141)=w2 at *;refine a4j ?_;have c3:=c2.trans (Cl.alloc w2 (.map #[] 0));have nR3:=(Cl.alloc w2 (.map #[] 0)).blk nR;have s3:=A8 w2 (.map #[] 0);generalize w2.alloc (.map #[] 0)=w3 at *;refine zR ?_;refine s7 (gmA (N8 P0 R w2.heap.size)) zk (zR ?_);have c4:=c3.trans (Cl.alloc w3 (.cells (gmA (N8 P0 R w2.heap.size)) 131));have nR4:=(Cl.alloc w3 (.cells (gmA (N8 P0 R w2.heap.size)) 131)).blk nR3;have nG:=g7 w3 (.cells (gmA (N8 P0 R w2.heap.size)) 131);have s4:=A8 w3 (.cells (gmA (N8 P0 R w2.heap.size)) 131);obtain ⟨G0,hG0⟩:∃ G0,G0=w3.heap.size:=⟨_,rfl⟩;rw [← hG0] at nG ⊢;generalize w3.alloc (.cells (gmA (N8 P0 R w2.heap.size)) 131)=w4 at *;refine a52 2 (zR ?_);refine d9 _ (c5L (v:=.func (.func 136) #[] #[.pointer (some ⟨c,0,none⟩)]) (c4.blk hO) rfl) (zR ?_);refine I8 false (c38 _ _ _) (zR ?_);refine b0k #[.pointer (some ⟨G0,0,none⟩),.pointer (some ⟨c,0,none⟩)] rfl rfl (by rw [zb];rfl) ?_
 refine (c37 hI hle w4 (hT.cl c4) nG nR4 (c4.blk hP) (c4.blk hB) (c4.blk hc)).mono ?_;rintro e w5 ⟨rfl,g',z,hg,hz,hzM,hzP,hend,f5⟩;refine ⟨_,rfl,?_⟩;refine zR ?_;have hPl:=C5 hP;refine ⟨G0,g',z,rfl,zo,hg,hz,by rw [hzM];omega,hzP,hend,⟨f5.os.trans c4.os,f5.tape.trans c4.tape,f5.output.trans c4.output,zu c4.size f5.size,fun k hk hne=>?_⟩⟩
 rw [f5.else_ k zo (by simp only [yQ,zx,or_false];omega)]
 exact c4.block k hk
set_option maxHeartbeats 1000000 in
theorem c1u {p:l9} (hI:B9 p) (hle:(A5 p).length≤218) (hh:p.half<10000000) (hf:p.full<10000000) (usual:Bool) (hu:usual=true→p=P9) (w:World) (hT:C9 w) (hS:Spc w) :
  Calls G.P 42 #[m9 (if usual then [] else fenT p)] w (fun r w'=>∃ G0,r = .returned (.tuple #[.pointer (some ⟨G0,0,none⟩),.nilIface])∧c2m w w' G0 p (!usual)):=by
 cases usual with
 | true =>
  have:=hu rfl;subst this;rw [zM rfl];refine zN Tryz.func42 ?_;refine zR ?_;first | (refine E.A0 rfl ?_;refine zR ?_) | skip
  refine m8 (b4j w hT hS) ?_;rintro e w1 ⟨G0,rfl,h⟩;refine ⟨_,rfl,?_⟩;refine zR ?_;exact ⟨G0,rfl,h⟩
 | false =>
  rw [zJ zd];have hne:¬ tx (fenT p)=tx []:=fun h=>by
   have:=N5.1 h;unfold fenT at this;simp at this
  have hd:=fun w hT hS=>b2E hI hh hf w hT hS;generalize fenT p=T at *;have hFEN:∀ w,C9 w→Spc w→Calls G.P 98 #[m9 T] w (fun r w'=>Cl w w'∧∃ P b c,r = .returned (.tuple #[.func (.func 136) #[] #[.pointer (some ⟨c,0,none⟩)],.nilIface])∧w.heap.size≤P∧w'.heap[P]?=some (.cells (hdA b (C7 p false) (.slice none 0 0)) 173 (0,0))
   ∧w'.heap[b]?=some (.cells (I4 (mbOf p)) 237 (0,0))∧w'.heap[c]?=some (.cells #[.pointer (some ⟨P,0,none⟩)] 83 (0,0))):=by
   intro w hT hS;refine zN Tryz.func98 ?_;refine zR ?_;refine m8 (hd w hT hS) ?_;rintro e w1 ⟨c1,P,b,rfl,sP,sb,hP,hB⟩;refine ⟨_,rfl,?_⟩;refine zR ?_;refine t7 (.pointer none) zk ?_;have c2:=Cl.alloc w1 (.cells (Value.pointer none).cells 83);have n2:=g7 w1 (.cells (Value.pointer none).cells 83);have s1:=c1.size;generalize w1.alloc (.cells (Value.pointer none).cells 83)=w2 at *;refine zR ?_;refine zT n2 [.pointer (some ⟨P,0,none⟩)] fun w3 u3=>?_;have n3:w3.heap[w1.heap.size]?=some (.cells #[.pointer (some ⟨P,0,none⟩)] 83 (0,0)):=u3.at_;refine zR ?_;refine I8 true (E7 rfl) (zR ?_);refine d9 _ (D8 (v:=.pointer (some ⟨P,0,none⟩)) n3 rfl rfl) (zR ?_);refine a0c false (Q9 rfl _) (zR ?_);refine a9i #[.pointer (some ⟨w1.heap.size,0,none⟩)] (by rw [zb];rfl) (zR ?_)
   have hP2:=c2.blk hP;have hB2:=c2.blk hB;exact ⟨u3.cl (c1.trans c2) s1,P,b,_,rfl,sP,(Tn.upd u3).blk hP2 (by have:=C5 hP;omega),(Tn.upd u3).blk hB2 (by have:=C5 hB;omega),n3⟩
  refine zN Tryz.func42 ?_;refine zR ?_;refine E.p8 hne (zR ?_);refine m8 (hFEN w hT hS) ?_;rintro e w1 ⟨c1,P,b,c,rfl,sP,hP,hB,hc⟩;refine ⟨_,rfl,?_⟩;refine zR ?_;refine I8 true (E7 rfl) (zR ?_);refine B6 c5M [.func (.func 136) #[] #[.pointer (some ⟨c,0,none⟩)]] (by rw [zb];rfl) (by simp [Value.cells]) rfl zd zd ?_
  have c2:=Cl.alloc w1 (.cells (([.func (.func 136) #[] #[.pointer (some ⟨c,0,none⟩)]]:List Value).flatMap fun v=>v.cells.toList).toArray 122);have n2:(w1.alloc (.cells (([.func (.func 136) #[] #[.pointer (some ⟨c,0,none⟩)]]:List Value).flatMap fun v=>v.cells.toList).toArray 122)).heap[w1.heap.size]?=some (.cells #[.func (.func 136) #[] #[.pointer (some ⟨c,0,none⟩)]] 122 (0,0)):=g7 w1 _;generalize w1.alloc (.cells (([.func (.func 136) #[] #[.pointer (some ⟨c,0,none⟩)]]:List Value).flatMap fun v=>v.cells.toList).toArray 122)=w2 at *;have c02:=c1.trans c2;refine zR ?_;refine m8 (b4k hI hle w2 (hT.cl c02) (hS.cl c02) (c2.blk hP) (c2.blk hB) (c2.blk hc) n2) ?_;rintro e w3 ⟨G0,g,z,rfl,sG,hg,hz,hzM,hzP,hend,n3⟩;refine ⟨_,rfl,?_⟩;refine zR ?_;refine ⟨G0,rfl,⟨?_,n3.toCl c02 sP,zu c02.size sG⟩⟩;refine ⟨g,z,hg,hz,zu c02.size hzM,by rw [hzP];exact sP,?_⟩
  rw [zM (show (!false)=true from rfl)];exact hend
theorem b6K {C:World→Prop} {l:Tx} {s:ByteArray} {k:IntKind} {b:Int} {x hi:Operand} {dst:Option Nat} {ty:Nat} {pos:String} {af:Array Edge} {gd:Option (Nat×Bool)} {env:C8} {K:Value→Prop}
  (r:Tx) (hx:ev env x = .string s) (hh:ev env hi = .int k b) (hs:s=tx l) (h0:0≤b) (h2:b≤l.length) (hr:l.take b.toNat=r) (h:K (m9 r)) :
  a9r G.P C { dst,op:=.slice 9 x none (some hi) none,type:=ty,pos,after:=af,guard:=gd } env K:=by
 subst hs;refine ⟨_,fun w _=>?_,h⟩;show (do pure (Next.value (← Instr.slice 9 (ev env x) none (some (ev env hi)) none)):Sem Next).run G.P w=_
 rw [hx,hh,Sem.run_bind,run_slice_string_h (P:=G.P) w 9 _ b09 _ _ h0 (by rw [C3];exact h2),tx,ByteArray.extract_mk]
 rw [← hr,List.drop_zero,Nat.sub_zero];rfl
theorem a0w {w:World} {dst:Option Nat} {ty:Nat} {pos:String} {af:Array Edge} {gd:Option (Nat×Bool)} {env:C8} {K:Value→World→Prop} {fo:Operand} {args:Array Operand} {argTypes:Array Nat} {f:Nat} {cap:Array Value} {v:Value} (vs:Array Value) (h:Calls G.P f vs w (L4 v w)) (hf:ev env fo = .func (.func f) #[] cap) (hfn:G.fn f=true) (ha:(args.map (ev env)).toList++cap.toList=vs.toList)
  (hk:∀ w',Cl w w'→K v w'):L5 G.P { dst,op:=.call { callee:=.value fo,args,argTypes },type:=ty,pos,after:=af,guard:=gd } env w K :=
 b0k vs hf hfn ha (h.mono fun _ w' hr=>⟨v,hr.1,hk w' hr.2⟩)
def orE (x y:Option D5):Option D5:=match x with
 | some a=>some a
 | none=>y
theorem a1B (f:Nat→Option D5) (n:Nat):a1v f (n+1)=orE (f n) (a1v f n):=by
 rw [a1v];unfold orE;cases f n<;>rfl
theorem a4o (x y z:Option D5):orE (orE x y) z=orE x (orE y z):=by cases x<;>rfl
theorem b8X (x:Option D5):orE none x=x:=rfl
theorem b2G (a:D5) (x:Option D5):orE (some a) x=some a:=rfl
def a1j (s:Tx) (q:D5):List Tx:=[s,q.pc,q.fo,q.ro,q.ca,q.fi,q.ra,q.pr,q.cs,[]]
def zzL (s:Tx):List Tx:=match zzP s with
 | some q=>a1j s q
 | none=>[]
theorem b4l {s set:Tx} {i:Nat} (h:inS s i set=true):i<s.length:=by
 refine yf fun hn=>?_;rw [b5t zo] at h;cases h
theorem a7O (s set:Tx) (i:Nat):oneN s i set≤1:=by unfold oneN;split<;>omega
theorem b0l {k:Nat} (h:k≤100):IntKind.i64.wrap ((k:Int)-1)=(k:Int)-1:=g9 zo zo
theorem b5v {a b:Nat} (h:a+b≤1000000):IntKind.i64.wrap ((a:Int)+(b:Int))=((a+b:Nat):Int):=by rw [g9 zo zo];push_cast;rfl
theorem a9k {s:Tx} {q:D5} (h:zzP s=some q):zzL s=a1j s q:=by unfold zzL;rw [h]
theorem b8Y {s:Tx} (h:zzP s=none):zzL s=[]:=by unfold zzL;rw [h]
def ooR (s:Tx) (i:Nat):Option D5:=if i=0∧s.take 5=oooS∧H4 (s.drop 5)=true then some (a5T oooS) else if i≤1∧s.take 3=ooS∧H4 (s.drop 3)=true then some (a5T ooS) else none
theorem c4V {s:Tx} (h:a3I s=none):ooR s 0=zzP s:=by
 unfold zzP ooR;rw [h];simp
set_option maxHeartbeats 4000000 in
theorem c1w (s:Tx) (hs:s.length≤1000) (w:World):Calls G.P 346 #[m9 s] w (fun r w'=>Cl w w'∧∃ v,r = .returned v∧Row 9 1 H2 w.heap.size w' v (zzL s)):=by
 have hsz:(tx s).size=s.length:=C3 _;refine zN Tryz.func346 ?_;refine zG ?_;obtain ⟨b,hb0⟩:∃ b,b=w.heap.size:=⟨_,rfl⟩;have cA:=Cl.alloc w (.cells #[m9 s] 9);have hb:(w.alloc (.cells #[m9 s] 9)).heap[b]?=some (.cells #[m9 s] 9 (0,0)):=by rw [hb0];exact g7 _ _
 rw [← hb0];obtain ⟨W0,hW0⟩:∃ W0,W0=w.alloc (.cells #[m9 s] 9):=⟨_,rfl⟩;rw [← hW0] at cA hb;rw [show w.alloc (.cells #[Value.string (tx s)] 9)=W0 from hW0.symm];clear hW0;have one:=fun {w':World} (i:Nat) (hi:i≤100000) (set:Tx) (hset:set.length≤1000) (h:Cl W0 w')=>c4P (s:=s) (set:=set) (i:=i) (b:=b) hi zo hset w' (h.blk hb);refine zR ?_;refine a9i #[.pointer (some ⟨b,0,none⟩)] (by rw [zb];rfl) (zR ?_)
 refine a0w #[.int .i64 (0:Nat),m9 H3,.pointer (some ⟨b,0,none⟩)] (one 0 zd H3 zd (Cl.refl _)) rfl rfl (by rw [zb];rfl) fun w1 c1=>?_
 have l1:=a7O s H3 0;refine zR ?_;refine A9 (σ:=Nat) [2,4,5,6,7,8,9,10] 13 (fun n=>[(4,.int .i64 ((n:Int)-1))]) (fun n w'=>n≤2∧a1v (b8O s) n=a3I s∧Cl W0 w') (fun n=>n) zk (oneN s 0 H3+1) ⟨zo,rfl,c1⟩ ⟨d7 (by push_cast;omega),trivial⟩ ?_
 clear l1;rintro na ja wa ⟨hna,hA,ca⟩;cases na with
 | zero =>
  have hc0:=c4V hA.symm;have s0:=cA.size;refine zR ?_;refine B6 elStr [m9 oooS,m9 ooS] (by rw [zb];rfl) (by simp [Value.cells,m9]) rfl zd zd ?_
  have cB:=ca.trans (Cl.alloc wa (.cells (([m9 oooS,m9 ooS]:List Value).flatMap fun v=>v.cells.toList).toArray 9));have hg:(wa.alloc (.cells (([m9 oooS,m9 ooS]:List Value).flatMap fun v=>v.cells.toList).toArray 9)).heap[wa.heap.size]?=some (.cells #[m9 oooS,m9 ooS] 9 (0,0)):=g7 _ _;generalize wa.alloc (.cells (([m9 oooS,m9 ooS]:List Value).flatMap fun v=>v.cells.toList).toArray 9)=wB at *;generalize wa.heap.size=g at *;refine zR ?_;refine A9 (σ:=Nat) [2,12,134] 135 (fun i=>[(134,.int .i64 i)]) (fun i w'=>i≤2∧ooR s i=zzP s∧Cl wB w') (fun i=>2-i) zk 0 ⟨zo,hc0,Cl.refl _⟩ ⟨rfl,trivial⟩ ?_;rintro i jc w2 ⟨hi,hc,c2⟩;have ni:=C0 (i:=i) zo;have hg:=c2.blk hg;have c02:=cB.trans c2;have hb:=c02.blk hb;have fin:∀ q,zzP s=some q→Row 9 1 H2 b (w2.alloc (.cells (((a1j s q).map m9).flatMap fun v=>v.cells.toList).toArray 9)) (.slice (some ⟨w2.heap.size,0,none⟩) 10 10) (zzL s):=fun q hq=>by
   rw [a9k hq];exact (C1 p9 w2 (a1j s q) (zU rfl) _ rfl).mono (by rw [hb0];exact zu s0 c02.size)
  rcases (by omega:i=0∨i=1∨i=2) with rfl | rfl | rfl
  ·have nx:¬ (s.take 5=oooS∧H4 (s.drop 5)=true)→ooR s 1=zzP s:=fun h=>by
    rw [← hc];unfold ooR;simp [h]
   refine zR ?_;refine d9 _ (D8 hg rfl rfl) (zR ?_);refine d9 _ (D8 hb rfl rfl) (zR ?_);rw [hsz,show (tx oooS).size=5 from rfl];apply E.d6<;>intro h
   ·have hlen:5≤s.length:=by omega
    clear h;refine zR ?_;refine d9 _ (D8 hb rfl rfl) (zR ?_);rw [show (tx oooS).size=5 from rfl];refine a5I (l:=s) (s.take 5) rfl rfl rfl zo zo rfl (zR ?_);apply E.d6<;>intro h
    ·have e:=N5.1 h;clear h;refine zR ?_;refine d9 _ (D8 hb rfl rfl) (zR ?_);rw [show (tx oooS).size=5 from rfl];refine g8 (a9h (s:=s) (i:=5) hlen zo w2) ?_;cases et:H4 (s.drop 5)
     ·refine zR ?_;exact ⟨1,⟨d7 ni,trivial⟩,⟨zo,nx (fun h=>by rw [et] at h;cases h.2),c2⟩,zo⟩
     ·have hz:zzP s=some (a5T oooS):=by rw [← hc];unfold ooR;simp [e,et]
      refine zR ?_;refine d9 _ (D8 hb rfl rfl) (zR ?_);refine B6 elStr ((a1j s (a5T oooS)).map m9) (by rw [zb];rfl) (by simp [a1j,Value.cells,m9]) rfl zd zd (zR ?_)
      exact ⟨(cA.trans c02).trans (Cl.alloc _ _),_,rfl,fin _ hz⟩
    ·have e:¬ s.take 5=oooS:=fun e=>h (by rw [e])
     refine zR ?_;exact ⟨1,⟨d7 ni,trivial⟩,⟨zo,nx (fun h=>e h.1),c2⟩,zo⟩
   ·have e:¬ s.take 5=oooS:=fun e=>by
     have:=yG List.length e;rw [yc] at this;have e2:oooS.length=5:=rfl;omega
    refine zR ?_;exact ⟨1,⟨d7 ni,trivial⟩,⟨zo,nx (fun h=>e h.1),c2⟩,zo⟩
  ·have nx:¬ (s.take 3=ooS∧H4 (s.drop 3)=true)→ooR s 2=zzP s:=fun h=>by
    rw [← hc];unfold ooR;simp [h]
   refine zR ?_;refine d9 _ (D8 hg rfl rfl) (zR ?_);refine d9 _ (D8 hb rfl rfl) (zR ?_);rw [hsz,show (tx ooS).size=3 from rfl];apply E.d6<;>intro h
   ·have hlen:3≤s.length:=by omega
    clear h;refine zR ?_;refine d9 _ (D8 hb rfl rfl) (zR ?_);rw [show (tx ooS).size=3 from rfl];refine a5I (l:=s) (s.take 3) rfl rfl rfl zo zo rfl (zR ?_);apply E.d6<;>intro h
    ·have e:=N5.1 h;clear h;refine zR ?_;refine d9 _ (D8 hb rfl rfl) (zR ?_);rw [show (tx ooS).size=3 from rfl];refine g8 (a9h (s:=s) (i:=3) hlen zo w2) ?_;cases et:H4 (s.drop 3)
     ·refine zR ?_;exact ⟨2,⟨d7 ni,trivial⟩,⟨zo,nx (fun h=>by rw [et] at h;cases h.2),c2⟩,zo⟩
     ·have hz:zzP s=some (a5T ooS):=by rw [← hc];unfold ooR;simp [e,et,ooS,oooS]
      refine zR ?_;refine d9 _ (D8 hb rfl rfl) (zR ?_);refine B6 elStr ((a1j s (a5T ooS)).map m9) (by rw [zb];rfl) (by simp [a1j,Value.cells,m9]) rfl zd zd (zR ?_)
      exact ⟨(cA.trans c02).trans (Cl.alloc _ _),_,rfl,fin _ hz⟩
    ·have e:¬ s.take 3=ooS:=fun e=>h (by rw [e])
     refine zR ?_;exact ⟨2,⟨d7 ni,trivial⟩,⟨zo,nx (fun h=>e h.1),c2⟩,zo⟩
   ·have e:¬ s.take 3=ooS:=fun e=>by
     have:=yG List.length e;rw [yc] at this;have e2:ooS.length=3:=rfl;omega
    refine zR ?_;exact ⟨2,⟨d7 ni,trivial⟩,⟨zo,nx (fun h=>e h.1),c2⟩,zo⟩
  ·have hn:zzP s=none:=hc.symm;refine zR ?_;exact ⟨cA.trans c02,_,rfl,by rw [b8Y hn];exact Row.nil _ _⟩
 | succ a =>
  rw [a1B] at hA;rw [show ((a+1:Nat):Int)-1=(a:Int) by omega]
  refine zR ?_;refine a0w #[.int .i64 (a:Nat),m9 O4,.pointer (some ⟨b,0,none⟩)] (one a zo O4 zd ca) rfl rfl (by rw [zb];rfl) fun w1 c1=>?_
  have l1:=a7O s O4 a;refine zR ?_;refine A9 (σ:=Nat) [2,5,6,7,8,9,10] 13 (fun n=>[(5,.int .i64 ((n:Int)-1))]) (fun n w'=>n≤2∧orE (a1v (b8N s a) n) (a1v (b8O s) a)=a3I s∧Cl W0 w') (fun n=>n) zk (oneN s a O4+1) ⟨zo,hA,ca.trans c1⟩ ⟨d7 (by push_cast;omega),trivial⟩ ?_
  clear l1 c1 hA ca;generalize hRA:a1v (b8O s) a=RA at *;rintro nb jb wb ⟨hnb,hB,cb⟩;cases nb with
  | zero =>
   refine zR ?_;exact ⟨a,⟨d7 (b0l zo),trivial⟩,⟨zo,hRA.trans hB,cb⟩,zo⟩
  | succ bb =>
   rw [a1B,a4o] at hB;rw [show ((bb+1:Nat):Int)-1=(bb:Int) by omega]
   have eab:=b5v (a:=a) (b:=bb) zo;refine zR ?_;rw [eab];refine a0w #[.int .i64 (a+bb:Nat),m9 I9,.pointer (some ⟨b,0,none⟩)] (one (a+bb) zo I9 zd cb) rfl rfl (by rw [zb];rfl) fun w1 c1=>?_
   have l1:=a7O s I9 (a+bb);refine zR ?_;refine A9 (σ:=Nat) [2,6,7,8,9,10] 13 (fun n=>[(6,.int .i64 ((n:Int)-1))]) (fun n w'=>n≤2∧orE (a1v (b8M s a bb) n) (orE (a1v (b8N s a) bb) RA)=a3I s∧Cl W0 w') (fun n=>n) zk (oneN s (a+bb) I9+1) ⟨zo,hB,cb.trans c1⟩ ⟨d7 (by push_cast;omega),trivial⟩ ?_
   clear l1 c1 hB cb;generalize hRB:orE (a1v (b8N s a) bb) RA=RB at *;rintro nc jc wc ⟨hnc,hC,cc⟩;cases nc with
   | zero =>
    refine zR ?_;exact ⟨bb,⟨d7 (b0l zo),trivial⟩,⟨zo,hRB.trans hC,cc⟩,zo⟩
   | succ c =>
    rw [a1B,a4o] at hC;rw [show ((c+1:Nat):Int)-1=(c:Int) by omega]
    have eabc:=b5v (a:=a+bb) (b:=c) zo;refine zR ?_;rw [eab,eabc];refine a0w #[.int .i64 (a+bb+c:Nat),m9 [120],.pointer (some ⟨b,0,none⟩)] (one (a+bb+c) zo [120] zd cc) rfl rfl (by rw [zb];rfl) fun w1 c1=>?_
    have l1:=a7O s [120] (a+bb+c);refine zR ?_;refine A9 (σ:=Nat) [2,7,8,9,10] 13 (fun n=>[(7,.int .i64 ((n:Int)-1))]) (fun n w'=>n≤2∧orE (a1v (b68 s a bb c) n) (orE (a1v (b8M s a bb) c) RB)=a3I s∧Cl W0 w') (fun n=>n) zk (oneN s (a+bb+c) [120]+1) ⟨zo,hC,cc.trans c1⟩ ⟨d7 (by push_cast;omega),trivial⟩ ?_
    clear l1 c1 hC cc;generalize hRC:orE (a1v (b8M s a bb) c) RB=RC at *;rintro nd jd wd ⟨hnd,hD,cd⟩;cases nd with
    | zero =>
     refine zR ?_;exact ⟨c,⟨d7 (b0l zo),trivial⟩,⟨zo,hRC.trans hD,cd⟩,zo⟩
    | succ d =>
     rw [a1B,a4o] at hD;rw [show ((d+1:Nat):Int)-1=(d:Int) by omega]
     have eabcd:=b5v (a:=a+bb+c) (b:=d) zo;refine zR ?_;rw [eab,eabc,eabcd];obtain ⟨T,hT⟩:∃ T,T=a+bb+c+d:=⟨_,rfl⟩;have hT4:T≤4:=by omega
     have hE:b68 s a bb c d=if inS s T O4&&inS s (T+1) I9 then a1v (b67 s a bb c d) (if a9b s T then 2 else 1) else none:=by rw [hT];rfl
     rw [hE] at hD;rw [← hT];clear hE;generalize hRD:orE (a1v (b68 s a bb c) d) RC=RD at *;have n1:=C0 (i:=T) zo;have n2:IntKind.i64.wrap ((T:Int)+2)=((T+2:Nat):Int):=by rw [g9 zo zo];push_cast;omega
     refine a0w #[.int .i64 T,m9 O4,.pointer (some ⟨b,0,none⟩)] (one T zo O4 zd cd) rfl rfl (by rw [zb];rfl) fun w1 c1=>?_
     have c1:=cd.trans c1;cases hF:inS s T O4
     ·rw [a6B hF];rw [hF] at hD;refine zR ?_;exact ⟨d,⟨d7 (b0l zo),trivial⟩,⟨zo,hRD.trans hD,c1⟩,zo⟩
     rw [a5W hF];rw [hF] at hD;refine zR ?_;rw [n1];refine a0w #[.int .i64 (T+1:Nat),m9 I9,.pointer (some ⟨b,0,none⟩)] (one (T+1) zo I9 zd c1) rfl rfl (by rw [zb];rfl) fun w2 c2=>?_
     have c2:=c1.trans c2;cases hG:inS s (T+1) I9
     ·rw [a6B hG];rw [hG] at hD;refine zR ?_;exact ⟨d,⟨d7 (b0l zo),trivial⟩,⟨zo,hRD.trans hD,c2⟩,zo⟩
     rw [a5W hG];rw [hG,Bool.and_true,zM rfl] at hD;have hl2:=b4l hG;clear c1 cd;refine zG ?_;refine Nx.mk (zG ?_);refine Nx.mk (zG ?_);refine Nx.mk (zG ?_);have n3:=C0 (i:=T+2) zo;rw [n2];refine B0 (σ:=Unit) [10] 67 (fun _=>[(10,.int .i64 (if a9b s T then 2 else 0))]) (fun _ w'=>Cl W0 w') zk ?_ (fun _ j w4 c4=>?_)
     ·refine zR ?_;refine a0w #[.int .i64 (T+2:Nat),m9 [61],.pointer (some ⟨b,0,none⟩)] (one (T+2) zo [61] zd c2) rfl rfl (by rw [zb];rfl) fun w5 c5=>?_
      have c5:=c2.trans c5;cases hP:inS s (T+2) [61]
      ·have e:a9b s T=false:=by unfold a9b;rw [hP];rfl
       rw [a6B hP];refine zR ?_;exact ⟨(),⟨by rw [e];rfl,trivial⟩,c5⟩
      rw [a5W hP];refine zR ?_;rw [n3];refine a0w #[.int .i64 (T+2+1:Nat),m9 b4d,.pointer (some ⟨b,0,none⟩)] (one (T+2+1) zo b4d zd c5) rfl rfl (by rw [zb];rfl) fun w6 c6=>?_
      have c6:=c5.trans c6;have e:a9b s T=inS s (T+2+1) b4d:=by unfold a9b;rw [hP];rfl
      rw [e];cases hQ:inS s (T+2+1) b4d
      ·rw [a6B hQ];refine zR ?_;exact ⟨(),⟨rfl,trivial⟩,c6⟩
      ·rw [a5W hQ];refine zR ?_;exact ⟨(),⟨rfl,trivial⟩,c6⟩
     clear c2;have hp4:a9b s T=true→T+4≤s.length:=fun h=>by
      unfold a9b at h;rw [zP] at h;have:=b4l h.2;omega
     refine zR ?_;refine A9 (σ:=Nat) [2,10] 13 (fun n=>[(10,.int .i64 (2*(n:Int)-2))]) (fun n w'=>n≤2∧orE (a1v (b67 s a bb c d) n) RD=a3I s∧(0<n→T+2*n≤s.length)∧Cl W0 w') (fun n=>n) zk (if a9b s T then 2 else 1) ⟨by split<;>omega,hD,fun _=>by split;exact hp4 (by assumption);omega,c4⟩ ⟨d7 (by split<;>rfl),trivial⟩ ?_
     clear hD hp4 c4;rintro np jp wp ⟨hnp,hK,hlp,cp⟩;cases np with
     | zero =>
      refine zR ?_;exact ⟨d,⟨d7 (b0l zo),trivial⟩,⟨zo,hRD.trans hK,cp⟩,zo⟩
     | succ k =>
      rw [a1B,a4o] at hK;have hlk:T+2+2*k≤s.length:=by have:=hlp zo;omega
      have epk:=b5v (a:=T+2) (b:=2*k) zo;have hb6:=cp.blk hb;rw [show 2*((k+1:Nat):Int)-2=((2*k:Nat):Int) by push_cast;omega]
      have hKK:b67 s a bb c d k=if H4 (s.drop (T+2+2*k)) then some (b66 s a bb c d k) else none:=by rw [hT];rfl
      rw [hKK] at hK;clear hKK;refine zR ?_;refine d9 _ (D8 hb6 rfl rfl) (zR ?_);rw [epk];refine g8 (a9h (s:=s) (i:=T+2+2*k) hlk zo wp) ?_;cases et:H4 (s.drop (T+2+2*k))
      ·rw [et] at hK;refine zR ?_;exact ⟨k,⟨d7 (by rw [g9 (by push_cast;omega) (by push_cast;omega)];push_cast;rfl),trivial⟩,⟨zo,hK,fun _=>by omega,cp⟩,zo⟩
      ·rw [et,zM rfl,b2G] at hK;have hz:zzP s=some (b66 s a bb c d k):=by unfold zzP;rw [← hK]
       have s0:=cA.size;refine zR ?_;refine zK 44 ?_;refine zR ?_;refine m7 _ (fun w' hw=>D8 (hw.blk hb6) rfl rfl) (zR ?_);refine m7 _ (fun w' hw=>D8 (hw.blk hb6) rfl rfl) (zR ?_);refine b6K (l:=s) (X8 s 0 a) rfl rfl rfl zo zo (by rw [zg];simp [X8]) (zR ?_)
       refine m7 _ (fun w' hw=>D8 (hw.blk hb6) rfl rfl) (zR ?_);rw [eab];refine a07 (l:=s) (X8 s (a) (a+bb)) rfl rfl rfl rfl zo zo zo (by rw [zg,zg];rfl) (zR ?_)
       refine m7 _ (fun w' hw=>D8 (hw.blk hb6) rfl rfl) (zR ?_);rw [eab,eabc];refine a07 (l:=s) (X8 s (a+bb) (a+bb+c)) rfl rfl rfl rfl zo zo zo (by rw [zg,zg];rfl) (zR ?_)
       refine m7 _ (fun w' hw=>D8 (hw.blk hb6) rfl rfl) (zR ?_);rw [eab,eabc];refine a07 (l:=s) (X8 s (a+bb+c) (T)) rfl rfl rfl rfl zo zo zo (by rw [zg,zg];rfl) (zR ?_)
       refine m7 _ (fun w' hw=>D8 (hw.blk hb6) rfl rfl) (zR ?_);rw [n1];refine a07 (l:=s) (X8 s (T) (T+1)) rfl rfl rfl rfl zo zo zo (by rw [zg,zg];rfl) (zR ?_)
       refine m7 _ (fun w' hw=>D8 (hw.blk hb6) rfl rfl) (zR ?_);rw [n1];refine a07 (l:=s) (X8 s (T+1) (T+2)) rfl rfl rfl rfl zo zo zo (by rw [zg,zg];rfl) (zR ?_)
       refine m7 _ (fun w' hw=>D8 (hw.blk hb6) rfl rfl) (zR ?_);rw [epk];refine a07 (l:=s) (X8 s (T+2) (T+2+2*k)) rfl rfl rfl rfl zo zo zo (by rw [zg,zg];rfl) (zR ?_)
       intro w7 c7;refine zR ?_;have hq:b66 s a bb c d k=⟨X8 s 0 a,X8 s a (a+bb),X8 s (a+bb) (a+bb+c),X8 s (a+bb+c) T,X8 s T (T+1),X8 s (T+1) (T+2),X8 s (T+2) (T+2+2*k),[]⟩:=by rw [hT];rfl
       rw [hq] at hz;refine B6 elStr ((a1j s ⟨X8 s 0 a,X8 s a (a+bb),X8 s (a+bb) (a+bb+c),X8 s (a+bb+c) T,X8 s T (T+1),X8 s (T+1) (T+2),X8 s (T+2) (T+2+2*k),[]⟩).map m9) (by rw [zb];rfl) (by simp [a1j,Value.cells,m9]) rfl zd zd (zR ?_)
       refine ⟨(cA.trans (cp.trans c7)).trans (Cl.alloc _ _),_,rfl,?_⟩;rw [a9k hz];exact (C1 p9 w7 (a1j s _) (zU rfl) _ rfl).mono (by rw [hb0];exact zu s0 (cp.trans c7).size)
structure Nb (b B:Nat) (w w':World):Prop where
 os:w'.os=w.os
 tape:w'.tape=w.tape
 output:w'.output=w.output
 size:B≤w'.heap.size
 else_:∀ k,k<B→k≠b→w'.heap[k]?=w.heap[k]?
section nb
variable {b B:Nat} {w w' w2:World}
theorem Nb.refl (b:Nat) (hB:B≤w.heap.size):Nb b B w w:=⟨rfl,rfl,rfl,hB,fun _ _ _=>rfl⟩
theorem Nb.trans (h:Nb b B w w') (h2:Nb b B w' w2):Nb b B w w2 :=
 ⟨h2.os.trans h.os,h2.tape.trans h.tape,h2.output.trans h.output,h2.size,fun k hk hn=>(h2.else_ k hk hn).trans (h.else_ k hk hn)⟩
theorem Nb.upd {o:Obj} (u:Upd w b o w') (hB:B≤w.heap.size):Nb b B w w':=⟨u.os,u.tape,u.output,by rw [u.size];exact hB,fun k _ hn=>u.else_ k hn⟩
theorem Nb.cl (h:Cl w w') (hB:B≤w.heap.size):Nb b B w w':=⟨h.os,h.tape,h.output,zu hB h.size,fun k hk _=>h.block k (Nat.lt_of_lt_of_le hk hB)⟩
theorem Nb.blk (h:Nb b B w w') {k:Nat} {o:Obj} (hk:w.heap[k]?=some o) (hB:k<B) (hn:k≠b):w'.heap[k]?=some o:=by rw [h.else_ k hB hn];exact hk
theorem Nb.of (h:∀ w0:World,w0.heap.size=B→Cl w0 w→Cl w0 w') (hB:B≤w.heap.size):Nb b B w w':=by
 have e:(w.heap.extract 0 B).size=B:=by simp;omega
 have hc:Cl { w with heap:=w.heap.extract 0 B } w:=by
  refine ⟨rfl,rfl,rfl,?_,fun k hk=>?_⟩
  ·show (w.heap.extract 0 B).size≤_;omega
  ·have hk:k<(w.heap.extract 0 B).size:=hk;show w.heap[k]?=(w.heap.extract 0 B)[k]?;rw [Array.getElem?_extract,zM zo];simp
 have h2:=h _ e hc;refine ⟨h2.os,h2.tape,h2.output,by rw [← e];exact h2.size,fun k hk _=>?_⟩
 have:=h2.block k (by show k<(w.heap.extract 0 B).size;omega)
 rw [this];show (w.heap.extract 0 B)[k]?=_;rw [Array.getElem?_extract,zM zo];simp
end nb
structure Bw (b:Nat) (wr w:World) (l:Tx):Prop where
 is:∃ p v,(p = .pointer none∨p = .pointer (some ⟨b,0,none⟩))∧w.heap[b]?=some (.cells #[p,v] 160 (0,0))∧Row 5 1 a0G wr.heap.size w v l
 nb:Nb b wr.heap.size wr w
 lt:b<wr.heap.size
section bw
variable {b:Nat} {wr w w':World} {l:Tx}
theorem Bw.fresh (hk:w.heap[b]?=some (.cells #[.pointer none,.slice none 0 0] 160 (0,0))):Bw b w w []:=⟨⟨_,_,.inl rfl,hk,Row.nil _ _⟩,Nb.refl _ (yH _),C5 hk⟩
theorem Bw.step (h:Bw b wr w l) (c:Cl w w'):Bw b wr w' l:=by
 obtain ⟨p,v,hp,hk,hr⟩:=h.is;exact ⟨⟨p,v,hp,c.blk hk,hr.step c⟩,h.nb.trans (Nb.cl c h.nb.size),h.lt⟩
theorem a4p {p v:Value} (hk:w.heap[b]?=some (.cells #[p,v] 160 (0,0))) :
  Calls G.P 148 #[.pointer (some ⟨b,0,none⟩)] w (fun r w'=>r = .returned (.tuple #[])∧Upd w b (.cells #[.pointer none,.slice none 0 0] 160 (0,0)) w'):=by
 refine zN Tryz.func148 ?_;refine zR ?_;refine zT hk [.pointer none] fun w2 u2=>?_;refine zR ?_;refine J6 u2.at_ [.slice none 0 0] rfl zk rfl (by intro v hv;simp at hv;subst hv;rfl) (zU rfl) fun w3 u3=>zR ?_
 exact ⟨rfl,u2.trans u3⟩
theorem r7 (s:Tx) (h:Bw b wr w l) (hl:l.length+s.length≤1000000) :
  Calls G.P 118 #[.pointer (some ⟨b,0,none⟩),m9 s] w (fun r w'=>r = .returned (.tuple #[.int .i64 s.length,.nilIface])∧Bw b wr w' (l++s)):=by
 obtain ⟨p,v,hp,hk,hr⟩:=h.is;have hs:(tx s).size=s.length:=C3 _;have hB:=h.nb.size;refine zN Tryz.func118 ?_;refine zR ?_;refine m8 (a7b hp hk) ?_;rintro r w1 ⟨rfl,u1⟩;refine ⟨_,rfl,?_⟩;have hv:=hr.updT u1 hk zd;obtain ⟨av,cv,rfl,hav⟩:=hv.form;have hB1:wr.heap.size≤w1.heap.size:=by rw [u1.size];exact hB
 refine zR ?_;refine d9 _ (D8 u1.at_ rfl rfl) (zR ?_);refine a5H rfl hv rfl hl hB1 fun v' w2 hr2 hc2=>?_;have n2:Nb b wr.heap.size w1 w2:=Nb.of hc2 hB1;obtain ⟨a9,c9,rfl,_⟩:=hr2.form;have hk2:w2.heap[b]?=some (.cells #[.pointer (some ⟨b,0,none⟩),.slice av l.length cv] 160 (0,0)):=(Nb.of (b:=wr.heap.size) hc2 hB1).blk u1.at_ h.lt (Nat.ne_of_lt h.lt);refine zR ?_;refine zT hk2 [.slice a9 (l++s).length c9] fun w3 u3=>?_;refine zR ?_;rw [hs];exact ⟨rfl,⟨_,_,.inr rfl,u3.at_,hr2.updT u3 hk2 zd⟩,((h.nb.trans (Nb.upd u1 hB)).trans n2).trans (Nb.upd u3 n2.size),h.lt⟩
end bw
section gens
variable {dst:Option Nat} {ty:Nat} {pos:String} {af:Array Edge} {gd:Option (Nat×Bool)} {env:C8}
theorem b8Z {C:World→Prop} {K:Value→Prop} {x:Operand} {ts:Array Nat} {a:Addr} {n c:Nat} (hx:ev env x = .slice (some a) n c) (hc:c≠0) (h:K (.pointer (some a))) :
  a9r G.P C { dst,op:=.call { callee:=.builtin .unsafeSliceData,args:=#[x],argTypes:=ts },type:=ty,pos,after:=af,guard:=gd } env K:=by
 refine ⟨_,fun w _=>?_,h⟩;simp only [execOp,resolve,invoke,builtin,Sem.run_bind,Sem.run_pure,Result.andThen_ok,List.map_toArray,yP,List.map_nil,hx,Lib.run_unsafeSliceData_row _ _ _ _ _ _ hc]
theorem c4W:G.P.underlying 221=some (.pointer 5):=by kernel_rfl
theorem c39 {w:World} {K:Value→World→Prop} {x y:Operand} {g:Nat} {l:Tx} {cur:Array Value} {fz:Nat×Nat} (hx:ev env x = .pointer (some ⟨g,0,none⟩)) (hy:ev env y = .int .i64 l.length) (hl:l≠[]) (h6:l.length≤1000000) (hg:w.heap[g]?=some (.cells cur 5 fz)) (hlen:l.length≤cur.size) (hc:∀ (j:Nat) (x:UInt8),l[j]?=some x→cur[j]?=some (Value.int .u8 x.toNat)) (h:K (m9 l) (w.freeze ⟨g,0,none⟩ l.length)) :
  L5 G.P { dst,op:=.call { callee:=.builtin .unsafeString,args:=#[x,y],argTypes:=#[221,3] },type:=ty,pos,after:=af,guard:=gd } env w K:=by
 have h1:(Builtin.unsafeString_ #[221,3] ty #[.pointer (some ⟨g,0,none⟩),.int .i64 l.length]).run G.P w = .ok (.string ⟨l.toArray⟩) (w.freeze ⟨g,0,none⟩ l.length):=by
  refine Lib.run_unsafeString_row w 221 3 ty 5 c4W zk g cur.size (by simp [World.shape?,hg]) l hl hlen zo ?_
  intro j x hx;rw [H5,yV,D2 hg];exact hc j x hx
 refine ⟨.inl ⟨_,_,?_,h⟩⟩;simp only [execOp,resolve,invoke,builtin,Sem.run_bind,Sem.run_pure,Result.andThen_ok,List.map_toArray,yP,List.map_nil,hx,hy,h1];rfl
end gens
theorem b6L {w:World} {g n:Nat} {cur:Array Value} {t:Nat} {fz:Nat×Nat} (hg:w.heap[g]?=some (.cells cur t fz)):∃ fz',(w.freeze ⟨g,0,none⟩ n).heap[g]?=some (.cells cur t fz'):=by
 unfold World.freeze;split
 ·exact ⟨_,hg⟩
 ·obtain ⟨lo,hi⟩:=fz;simp [Array.getElem?_modify,hg]
theorem b9a {b:Nat} {wr w:World} {l:Tx} (h:Bw b wr w l) (hl:l≠[]) (h6:l.length≤1000000):∃ C:World→Prop,C w∧C w.drew∧(∀ w',C w'→Below wr.heap.size w w')∧∀ w',C w'→Calls G.P 124 #[.pointer (some ⟨b,0,none⟩)] w' (fun r w2=>r = .returned (m9 l)∧C w2):=by
 obtain ⟨p,v,hp,hk,hr⟩:=h.is;have hpos:0<l.length:=List.length_pos_iff.2 hl;obtain ⟨g,cap,cur,rfl,hg,hcap,hgb,hlc,hcc⟩:∃ g cap cur,v = .slice (some ⟨g,0,none⟩) l.length cap∧wr.heap.size≤g∧l.length≤cap∧w.heap[g]?=some (.cells cur 5 (0,0))∧l.length≤cur.size∧∀ (j:Nat) (x:UInt8),l[j]?=some x→cur[j]?=some (Value.int .u8 x.toNat):=by
  have hown:=a8L.1 hr;rcases hr.2 with ⟨_,e⟩ | ⟨g,cap,cur,e,hg,hb,hle,_,hsz,_⟩
  ·omega
  ·subst e;refine ⟨g,cap,cur,rfl,hg,hle,hb,zo,fun j x hx=>?_⟩;have:=hown.cells (g:=g) rfl j (.int .u8 x.toNat) (by simp [Lib.byteCells,hx])
   rw [H5,yV,D2 hb] at this;exact this
 refine ⟨fun w'=>Below wr.heap.size w w'∧∃ fz,w'.heap[g]?=some (.cells cur 5 fz),⟨Below.refl _ _,_,hgb⟩,⟨Below.drew (Below.refl _ _),_,hgb⟩,fun w' hw=>hw.1,?_⟩;rintro w' ⟨hb',fz,hg'⟩;have hk':w'.heap[b]?=_:=(hb'.block b h.lt).trans hk;refine zN Tryz.func124 ?_;refine zR ?_;refine I5.mk1 ⟨10,Cl w',Cl.drew (Cl.refl _),zk,?_⟩;refine zR ?_;refine m7 _ (fun w' hw=>D8 (hw.blk hk') rfl rfl) (zR ?_);refine b8Z rfl zo (zR ?_);refine m7 _ (fun w' hw=>D8 (hw.blk hk') rfl rfl) (zR ?_);intro w2 c2;refine zR ?_;refine c39 rfl rfl hl h6 (c2.blk hg') hlc hcc (zR ?_);have hs':wr.heap.size≤w'.heap.size:=zu h.nb.size hb'.size;exact ⟨rfl,Lib.below_freeze (hb'.trans (c2.mono hs')) hg _,b6L (c2.blk hg')⟩
theorem X9 {b:Nat} {wr w:World} {l:Tx} (h:Bw b wr w l) (hl:l≠[]) (h6:l.length≤1000000):Calls G.P 124 #[.pointer (some ⟨b,0,none⟩)] w (fun r w'=>r = .returned (m9 l)∧Below wr.heap.size w w'):=by
 obtain ⟨C,h0,_,h2,h3⟩:=b9a h hl h6;exact (h3 w h0).mono fun _ _ hr=>⟨hr.1,h2 _ hr.2⟩
theorem b2H (p:l9):IntKind.i64.wrap (statusOf p)=statusOf p:=by
 have:statusOf p=0∨statusOf p=1∨statusOf p=4:=by
  unfold statusOf;split
  ·exact .inl rfl
  ·split
   ·exact .inr (.inl rfl)
   ·exact .inr (.inr rfl)
 rcases this with e | e | e<;>(rw [e];rfl)
end
section
open Go Go.RowKit
open E
structure c4X (w:World) (e:C8) (t1 t2 t3:Nat) (y1 y2 y3:Nat) (v1 v2 v3:Value):Prop where
 a:∃ a,e t1 = .pointer (some a)∧o4 G.P w y1 a v1
 b:∃ a,e t2 = .pointer (some a)∧o4 G.P w y2 a v2
 c:∃ a,e t3 = .pointer (some a)∧o4 G.P w y3 a v3
theorem a6D {w:World} {t:Nat} {a:Addr} {v:Value} (h:o4 G.P w t a v):(loadVar t a).run G.P w = .ok v w:=by
 unfold o4 Instr.loadAt at h;simp [Instr.sureAddr] at h;exact h
theorem a9x {fn:Func} {t1 t2 t3 y1 y2 y3:Nat} (hr:fn.results=#[.cell t1 y1,.cell t2 y2,.cell t3 y3]) {a:Act} {w:World} {v1 v2 v3:Value} (h:c4X w (y9 a) t1 t2 t3 y1 y2 y3 v1 v2 v3) :
  (results fn a.tmps).run G.P w = .ok (.tuple #[v1,v2,v3]) w:=by
 obtain ⟨⟨a1,e1,l1⟩,⟨a2,e2,l2⟩,a3,e3,l3⟩:=h;have e1:a.tmps[t1]?.getD undef = .pointer (some a1):=by rw [← Array.getD_eq_getD_getElem?];exact e1
 have e2:a.tmps[t2]?.getD undef = .pointer (some a2):=by rw [← Array.getD_eq_getD_getElem?];exact e2
 have e3:a.tmps[t3]?.getD undef = .pointer (some a3):=by rw [← Array.getD_eq_getD_getElem?];exact e3
 simp [results,hr,e1,e2,e3,asAddr,a6D l1,a6D l2,a6D l3]
def c4Y (f:Nat) (cap:Array Value):Prop:=∀ w,CallsD G.P f cap .returning w fun e u' w'=>e = .returned (.tuple #[])∧u' = .returning∧w'=w
theorem b2I {f:Nat} {fn:Func} {A B:Code} {i:Nat} {mk df:Oper} {args:List Value} {w:World} {R:Ending→World→Prop} {fc t t1 t2 t3 y1 y2 y3:Nat} {caps:Array Operand}
  (hf:G.P.funcs[f]?=some fn) (hb:fn.body=some (.seq A (.seq (.region i #[mk,df] false) B))) (hn:args.length≤fn.ntmps) (hkA:S8 fn.ntmps A=true) (hkB:S8 fn.ntmps B=true) (ht:t<fn.ntmps)
  (hmg:mk.guard=none) (hmo:mk.op = .makeFunc (.func fc) #[] caps) (hmd:mk.dst=some t) (hdg:df.guard=none) (hdo:df.op = .defer { callee:=.value (.tmp t),args:=#[],argTypes:=#[] }) (hdd:df.dst=none)
  (hfc:G.fn fc=true) (hid:∀ a b c,c4Y fc #[a,b,c]) (hr:fn.results=#[.cell t1 y1,.cell t2 y2,.cell t3 y3])
  (h:vc G A (a6G args) w (fun x e w1=>x = .normal∧∃ a b c:Value,(caps.map (ev e)).toList=[a,b,c]∧vc G B (upd e t (.func (.func fc) #[] #[a,b,c])) w1 (fun x e w2=>(x = .normal∨x = .ret)∧∃ v1 v2 v3,c4X w2 e t1 t2 t3 y1 y2 y3 v1 v2 v3∧R (.returned (.tuple #[v1,v2,v3])) w2))) :
  Calls G.P f args.toArray w R:=by
 refine calls_of_wp_defers hf hb ?_;have hsz:(args.toArray++Array.replicate (fn.ntmps-args.toArray.size) undef).size=fn.ntmps:=by simp;omega
 have henv:y9 { tmps:=args.toArray++Array.replicate (fn.ntmps-args.toArray.size) undef,defers:=[] }=a6G args:=by
  funext t;unfold y9 a6G;rw [b0v];simp only [Array.getD_eq_getD_getElem?,List.getD_eq_getElem?_getD];by_cases ht:t<args.length
  ·rw [Array.getElem?_append_left (by simpa using ht)];simp
  ·rw [Array.getElem?_append_right (by simpa using ht)]
   rw [List.getElem?_eq_none zo];simp only [Option.getD_none];cases hx:(Array.replicate (fn.ntmps-args.toArray.size) undef)[t-args.toArray.size]? with
   | none=>rfl
   | some v =>
    have:=Array.getElem?_eq_some_iff.1 hx;obtain ⟨h1,h2⟩:=this;simp at h2;simp [h2]
 refine wp_seq ?_;refine a7Z (G:=G) (N:=fn.ntmps) (ds:=[]) A _ _ ?_ hkA _ w hsz rfl (by rw [henv];exact h)
 rintro x a w1 hs hd ⟨rfl,q1,q2,q3,hcap,hB⟩;show Code.wp G.P (.seq (.region i #[mk,df] false) B) _ a w1;refine wp_seq (wp_region_list ?_);have hcap:caps.map (ev (y9 a))=#[q1,q2,q3]:=Array.toList_inj.1 hcap;obtain ⟨fnc,c1,c2,c3⟩:=G.enters fc hfc;have hmx:(execOp a.eval mk).run G.P w1 = .ok (.value (.func (.func fc) #[] (caps.map (ev (y9 a))))) w1:=by
  obtain ⟨d,o,ty,ps,af,g⟩:=mk;simp only at hmo hmg hmd;subst hmo;rw [V9];simp [execOp,Instr.makeFunc]
 obtain ⟨a1,ha1⟩:∃ a1:Act,a1=a.put (some t) (.func (.func fc) #[] (caps.map (ev (y9 a)))):=⟨_,rfl⟩;have hs1:a1.tmps.size=fn.ntmps:=by rw [ha1,a1F,hs]
 have hd1:a1.defers=[]:=by rw [ha1,a0g,hd]
 have he1:y9 a1=upd (y9 a) t (.func (.func fc) #[] (caps.map (ev (y9 a)))):=by rw [ha1];exact a90 _ (by rw [hs];exact ht)
 have hdx:(execOp a1.eval df).run G.P w1 = .ok (.defer { target:=.fn (.func fc) (caps.map (ev (y9 a))),args:=#[] }) w1:=by
  obtain ⟨d,o,ty,ps,af,g⟩:=df;simp only at hdo hdg hdd;subst hdo;rw [V9,he1];simp [execOp,resolve,ev,b7b,Deferred.ofValue]
 have hw1:Region.wanted mk (yielded #[mk,df] a.tmps)=true:=by unfold Region.wanted;rw [hmg]
 have hw2:Region.wanted df (yielded #[mk,df] a1.tmps)=true:=by unfold Region.wanted;rw [hdg]
 show wpList G.P #[mk,df] _ [mk,df] a w1;unfold wpList;rw [zM hw1];refine .inl ?_;unfold Oper.wp;rw [hmx,Oper.upon_value,hmd,← ha1];unfold wpList;rw [zM hw2];refine .inl ?_;unfold Oper.wp;rw [hdx,Oper.upon_defer,hdd];unfold wpList;have hs2:({ a1 with defers:={ target:=.fn (.func fc) (caps.map (ev (y9 a))),args:=#[] }::a1.defers }:Act).put none undef={ a1 with defers:=[{ target:=.fn (.func fc) (caps.map (ev (y9 a))),args:=#[] }] }:=by rw [hd1];rfl
 rw [hs2];show Code.wp G.P B _ _ w1;refine a7Z (G:=G) (N:=fn.ntmps) (ds:=[{ target:=.fn (.func fc) (caps.map (ev (y9 a))),args:=#[] }]) B _ _ ?_ hkB _ w1 hs1 rfl (by
  have:y9 { a1 with defers:=[{ target:=.fn (.func fc) (caps.map (ev (y9 a))),args:=#[] }] }=y9 a1:=rfl;rw [this,he1,hcap];exact hB)
 rintro x a' w2 hs' hd' ⟨hx,v1,v2,v3,h3,hR⟩;have hL:Leaves G.P fn a'.tmps R a'.defers .returning w2:=by
  rw [hd'];refine leaves_cons (f:=fc) (args:=#[]++caps.map (ev (y9 a))) (by simp) ?_ ?_
  ·simp [invoke,callFunc,c1,c3];cases hbd:fnc.body with
   | none=>rw [hbd] at c2;cases c2
   | some c=>simp
  ·rw [Array.empty_append];rw [hcap];refine (hid _ _ _ w2).mono ?_;rintro e u' w3 ⟨rfl,rfl,rfl⟩;exact ⟨_,a9x hr h3,hR⟩
 rcases hx with rfl | rfl
 ·exact hL
 ·exact hL
end
section
open Go Go.RowKit
open E
open Ch Bb
theorem Row.frT {α:Type} {enc:α→List Value} {e z b0:Nat} {S:List Nat} {w w':World} {v:Value} {l:List α} (h:Row e z enc b0 w v l) (hf:Fr S w w') (hS:∀ k∈S,∃ cs t fz,w.heap[k]?=some (.cells cs t fz)∧e≠t):Row e z enc b0 w' v l:=by
 refine ⟨h.1,?_⟩;rcases h.2 with h2 | ⟨g,cap,cur,h1,h2,h3,h4⟩
 ·exact .inl h2
 ·refine .inr ⟨g,cap,cur,h1,h2,hf.blk h3 fun hm=>?_,h4⟩;obtain ⟨cs,t,fz,hb,hne⟩:=hS g hm;exact O1 h3 hb hne rfl
theorem Fr.toCl {S:List Nat} {w0 w w':World} (h:Fr S w w') (hS:∀ k∈S,w0.heap.size≤k) (c:Cl w0 w):Cl w0 w' :=
 ⟨h.os.trans c.os,h.tape.trans c.tape,h.output.trans c.output,zu c.size h.size,fun k hk=>(h.else_ k (Nat.lt_of_lt_of_le hk c.size) (fun hm=>by have:=hS k hm;omega)).trans (c.block k hk)⟩
def KT (T:Nat) (w w':World):Prop:=∀ (k:Nat) (cs:Array Value) (t:Nat),t≠T→w.heap[k]?=some (.cells cs t (0,0))→w'.heap[k]?=some (.cells cs t (0,0))
section kt
variable {T:Nat} {w w':World} (hk:KT T w w')
include hk
theorem KT.row {α:Type} {enc:α→List Value} {e z b0:Nat} {v:Value} {l:List α} (h:Row e z enc b0 w v l) (he:e≠T):Row e z enc b0 w' v l:=by
 refine ⟨h.1,?_⟩;rcases h.2 with h2 | ⟨g,cap,cur,h1,h2,h3,h4⟩
 ·exact .inl h2
 ·exact .inr ⟨g,cap,cur,h1,h2,hk _ _ _ he h3,h4⟩
theorem KT.posM {P b:Nat} {p:l9} {cv:Value} (h:H9 w P b p cv) (h1:173≠T) (h2:237≠T) (h3:141≠T):H9 w' P b p cv :=
 ⟨hk _ _ _ h1 h.hd,hk _ _ _ h2 h.bd,h.ca.elim .inl fun h=>.inr (hk.row h h3)⟩
theorem KT.chn (h1:173≠T) (h2:237≠T) (h3:141≠T) (h4:85≠T):∀ {l:List Q8},Chn w l→Chn w' l
 | [],_=>trivial
 | n::l,⟨a1,a2,a3,a4,a5⟩=>by
  refine ⟨hk _ _ _ h3 a1,a2,?_,hk.posM a4 h1 h2 h3,KT.chn h1 h2 h3 h4 a5⟩;cases l with
  | nil=>exact a3
  | cons m r=>exact hk.row (show Row 85 1 T9 0 w n.d.kids [m.M] from a3) h4
theorem KT.game {G0:Nat} {g:Gm} {L:List Q8} {z:Q8} (h:K9 w G0 g L z) (h0:131≠T) (h1:173≠T) (h2:237≠T) (h3:141≠T) (h4:85≠T):K9 w' G0 g L z :=
 ⟨hk _ _ _ h0 h.hb,h.cur,h.pos,h.root,hk.chn h1 h2 h3 h4 h.chn,h.kids,h.off,h.zcv,h.dis,h.mo⟩
end kt
theorem KT.upd {T b:Nat} {o:Obj} {w w':World} {cs:Array Value} {fz:Nat×Nat} (u:Upd w b o w') (hb:w.heap[b]?=some (.cells cs T fz)):KT T w w':=fun k c t ht h=>(Tn.upd u).blk h (O1 h hb ht)
theorem KT.grow {α:Type} {enc:α→List Value} {e z b0 b1:Nat} {w w':World} {v v':Value} {l:List α} (hr:Row e z enc b1 w v l) (hg:a7s b0 w v w' v'):KT e w w':=fun k c t ht h=>by
 refine hg.keep _ _ h fun hv=>?_;rcases hr.2 with ⟨h1,_⟩ | ⟨g,cap,cur,h1,h2,h3,h4⟩
 ·rw [h1] at hv;cases hv
 ·rw [h1] at hv;injection hv with hv;subst hv;exact ht (Obj.cells.inj (Option.some.inj (h.symm.trans h3))).2.1
theorem a5f {p:l9} {ms:List Mv} (h:quiet p ms=true):(s8 p).length≤218:=by
 cases ms with
 | nil=>exact yA h
 | cons m r =>
  unfold quiet at h;simp only [zP] at h;exact yA h.1
theorem b4m {p:l9} {m:Mv} {r:List Mv} (h:quiet p (m::r)=true) (hl:O8 p m=true):K8 p m=true∧quiet (made p m) r=true:=by
 unfold quiet at h;rw [hl] at h;simp only [zP,Bool.not_true,Bool.false_or] at h;exact h.2
theorem a7l {l:List l9} {p:l9} {m0 m:Nat} {o0 o:Tx} (h:((m:Int),o)=C6 l p ((m0:Int),o0)) (h0:m0≤9):m≤9:=by
 have e:=yG Prod.fst h;have:0≤(C6 l p ((m0:Int),o0)).1∧(C6 l p ((m0:Int),o0)).1≤9:=by
  unfold C6;simp only
  repeat' split
  all_goals exact ⟨by simp only;omega,by simp only;omega⟩
 simp only at e;omega
theorem Chn.mem {w:World}:∀ {l:List Q8},Chn w l→∀ n∈l,H9 w n.P n.b n.p n.cv
 | [],_,_,h=>by cases h
 | n::l,⟨_,_,_,h4,h5⟩,x,hx=>by
  rcases yQ.1 hx with e | hx
  ·rw [e];exact h4
  ·exact Chn.mem h5 x hx
end
end Go.Proofs.YtpclhlhcegcflaaGreatDoor
