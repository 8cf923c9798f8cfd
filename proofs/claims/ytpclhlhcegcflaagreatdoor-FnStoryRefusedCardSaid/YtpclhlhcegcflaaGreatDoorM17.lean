/- One part of the proof: Sp31 Pk46 Pk47 Pk53 San3 Pk82 Pk54 Pk48. -/
import Derived.Lib.UnsafeStr
import Derived.Test.YtpclhlhcegcflaaGreatDoorM16
namespace Go.Proofs.YtpclhlhcegcflaaGreatDoor
open Go.Proofs.Tryz
set_option maxRecDepth 100000
set_option linter.unusedSimpArgs false
set_option linter.unusedVariables false
section
open Go Go.RowKit
open E
structure StR (s:Ch.V9):Prop where
 mv:MvR s.mv
 tags:I64 s.tags
 san:s.san.length≤1000
 lan:s.lan.length≤1000
 uci:s.uci.length≤1000
 fen:s.fen.length≤1000
 xfen:s.xfen.length≤1000
 pos:a6N s.pos
 outcome:s.outcome.length≤1000
 method:I64 s.method
 status:I64 s.status
def c6c:List (Option IntKind):=[some .i64,some .i64,some .i64,some .i64,none,none,none,none,none]++(List.replicate 69 (some .i64)++[none,some .i64,some .i64])
theorem a58:∀ {a b:List (Option IntKind)} {x y:List Value},okL a x=true→okL b y=true→okL (a++b) (x++y)=true:=by
 intro a
 induction a with
 | nil=>intro b x y h1 h2;cases x with
  | nil=>simpa using h2
  | cons=>simp [okL] at h1
 | cons k a ih=>intro b x y h1 h2;cases x with
  | nil=>simp [okL] at h1
  | cons c x =>
   simp only [okL,zP] at h1;simp only [yX,okL,zP];exact ⟨h1.1,ih h1.2 h2⟩
theorem a4k {n:Int} (h:I64 n):okV (some .i64) (.int .i64 n)=true:=by simp [okV,b8T h]
theorem b7L {t:Tx} (h:t.length≤1000):okV none (m7 t)=true:=by
 have:(tx t).size≤maxLen:=by rw [C5];unfold maxLen;omega
 simp [m7,okV,this]
theorem c6d {p:g9} (h:a6N p):okL (List.replicate 69 (some .i64)) (Z2 p)=true:=by
 have h1:=c3P p.board h.sq;rw [p.len] at h1;have h2:okL (List.replicate 5 (some .i64)) [.int .i64 p.turn,.int .i64 p.castle,.int .i64 p.ep,.int .i64 p.half,.int .i64 p.full]=true:=by
  simp only [List.replicate,okL,a4k h.turn,a4k h.castle,a4k h.ep,a4k h.half,a4k h.full,Bool.and_self]
 exact a58 h1 h2
theorem c6e {s:Ch.V9} (h:StR s):okL c6c (stL s)=true:=by
 refine a58 ?_ (a58 (c6d h.pos) ?_)
 ·simp only [okL,a4k h.mv.1,a4k h.mv.2.1,a4k h.mv.2.2,a4k h.tags,b7L h.san,b7L h.lan,b7L h.uci,b7L h.fen,b7L h.xfen,Bool.and_self]
 ·simp only [okL,b7L h.outcome,a4k h.method,a4k h.status,Bool.and_self]
theorem c6f:G.P.eqGuardType G.P.depth 39=false:=by kernel_rfl
theorem b0V (s:Ch.V9):(Value.agg (stL s).toArray).formed G.P 39=true:=by
 have h:(stL s).toArray.size=81:=by simp [J7]
 obtain ⟨f,hu,_⟩:=a2a (G.tab 39 _ (show X0 G.T 39=some (.struct 81 _) from rfl));unfold Value.formed;simp [h,Program.cellsOf,b9k,hu]
theorem c7c {s:Ch.V9} (h:StR s) (w:World):(Op.equalIn 10000 39 (.agg (stL s).toArray) (.agg (stL s).toArray)).run G.P w = .ok true w :=
 b1z (m:=4) (D:=4) (ks:=c6c) zk zd c6f zk (b0V s) (b0V s) (c6e h) (c6e h) true (by simp) w
theorem c0f {C:World→Prop} {t:Nat} {xs ys:Array Value} {b:Bool} (hg:G.P.eqGuardType G.P.depth t=false) (hr:∀ w,(Op.equalIn 10000 t (.agg xs) (.agg ys)).run G.P w = .ok b w) {x y:Operand} {dst:Option Nat} {yt ty:Nat} {pos:String} {af:Array Edge} {gd:Option (Nat×Bool)} {env:C9} {K:Value→Prop} (hx:ev env x = .agg xs) (hy:ev env y = .agg ys)
  (h:K (.bool (!b))):a68 G.P C { dst,op:=.binOp .neq t x y yt,type:=ty,pos,after:=af,guard:=gd } env K:=by
 refine ⟨_,fun w _=>?_,h⟩;show (do pure (Next.value (← (do eqGuard .neq _ x y (ev env x) (ev env y);binOp .neq _ (ev env x) (ev env y)))):Sem Next).run G.P w=_
 have e1:(eqGuard .neq t x y (.agg xs) (.agg ys)).run G.P w = .ok () w:=by simp [eqGuard,hg]
 rw [hx,hy,yq,yq,e1,yx,run_neq_struct,hr];rfl
theorem c0g (p:g9) (usual:Bool) (w:World):Calls G.P 11 #[F5 p,.bool usual] w (N0 (F5 (if usual then H1 else p)) w):=by
 obtain ⟨zp,hzp,hz69⟩:=b1t;refine zN func11 ?_;refine zG ?_;generalize hW:w.alloc (.cells (t8 p) 24)=W0;have hP0:W0.heap[w.heap.size]?=some (.cells (t8 p) 24 (0,0)):=by rw [← hW];exact d8 _ _
 have hE:Cl w W0:=by rw [← hW];exact Cl.alloc _ _
 clear hW;refine s7 zp hzp ?_;have hB0:(W0.alloc (.cells zp.cells 24)).heap[W0.heap.size]?=some (.cells zp.cells 24 (0,0)):=d8 _ _;have c1:Cl W0 (W0.alloc (.cells zp.cells 24)):=Cl.alloc _ _;have hP1:=c1.blk hP0;generalize W0.alloc (.cells zp.cells 24)=w1 at *;cases usual
 ·refine zR ?_;refine b7 _ (A4 hP1) (zR ?_);refine K2 hB0 (Z2 p) rfl a14 (C8 _) (one_pos _) (by rw [hz69];omega) (fun w2 u2=>zR ?_)
  refine b7 _ (A4 (p:=p) (by rw [u2.at_,B5 _ _ (by rw [C8,hz69])];rfl)) (zR ?_)
  exact ⟨rfl,u2.cl (hE.trans c1) hE.size⟩
 ·refine zR ?_;refine o7 (c2A _) fun w2 c2=>zR ?_;refine K2 (c2.blk hB0) (Z2 H1) rfl a14 (C8 _) (one_pos _) (by rw [hz69];omega) (fun w3 u3=>zR ?_)
  refine b7 _ (A4 (p:=H1) (by rw [u3.at_,B5 _ _ (by rw [C8,hz69])];rfl)) (zR ?_)
  exact ⟨rfl,u3.cl (hE.trans (c1.trans c2)) hE.size⟩
theorem c2B (p:g9) (usual:Bool) (hp:usual=false→Fen p) (w:World):Calls G.P 15 #[F5 p,.bool usual] w (N0 (m7 (if usual then [] else Ch.a7q p)) w):=by
 refine zN func15 ?_;refine zG ?_;generalize hW:w.alloc (.cells (t8 p) 24)=W0;have hP0:W0.heap[w.heap.size]?=some (.cells (t8 p) 24 (0,0)):=by rw [← hW];exact d8 _ _
 have hE:Cl w W0:=by rw [← hW];exact Cl.alloc _ _
 clear hW;cases usual
 ·refine zR ?_;refine b7 _ (A4 hP0) (zR ?_);refine o7 (a2X p (hp rfl) _) fun w2 c2=>zR ?_;exact ⟨rfl,hE.trans c2⟩
 ·refine zR ?_;exact ⟨rfl,hE⟩
def c5m (p:g9) (ms:List Mv):Bool:=Ch.valid p&&decide (p.half≤1000000)&&decide (p.full≤1000000)&&decide (ms.length≤80)&&Ch.quiet p ms
theorem b7M (p:g9) (ms:List Mv) (hms:∀ m∈ms,MvR m) {v:Value} (w:World) (hrow:a5x w v ms):Calls G.P 12 #[F5 p,v] w (N0 (.bool (c5m p ms)) w):=by
 obtain ⟨al,cl,rfl,hal⟩:=hrow.form;refine zN func12 ?_;refine zG ?_;generalize hW:w.alloc (.cells (t8 p) 24)=W0;have hP0:W0.heap[w.heap.size]?=some (.cells (t8 p) 24 (0,0)):=by rw [← hW];exact d8 _ _
 have hE:Cl w W0:=by rw [← hW];exact Cl.alloc _ _
 clear hW;have hA:c5m p ms=(Ch.valid p&&decide (p.half≤1000000)&&decide (p.full≤1000000)&&decide (ms.length≤80)&&Ch.quiet p ms):=rfl;have hiff:=Ch.a6I p;refine zR ?_;refine b7 _ (A4 hP0) (zR ?_);refine o7 (c1a p _) fun w2 c2=>?_;have hP2:=c2.blk hP0;generalize Ch.valid p=b at *;cases b
 ·refine zR ?_;exact ⟨p8 (by rw [hA];rfl),hE.trans c2⟩
 have hI:=hiff.1 rfl;refine zR ?_;refine b7 _ (a8C hP2) (zR ?_);apply E.d7<;>intro h
 ·have h1:=h;clear h;refine zR ?_;refine b7 _ (b1p hP2) (zR ?_);apply E.d7<;>intro h
  ·have h2:=h;clear h;refine zR ?_;apply E.d7<;>intro h
   ·have h3:ms.length≤80:=by omega
    clear h;refine zR ?_;refine b7 _ (A4 hP2) (zR ?_);refine o7 (c1E p hI ⟨zo,zo⟩ ms hms zo _ (hrow.step (hE.trans c2))) fun w3 c3=>?_;generalize Ch.quiet p ms=qb at *;refine zR ?_;exact ⟨p8 (by rw [hA,zX h1,zX h2,zX h3];simp),hE.trans (c2.trans c3)⟩
   ·refine zR ?_;exact ⟨p8 (by rw [hA,zV (show ¬ ms.length≤80 by omega)];simp),hE.trans c2⟩
  ·refine zR ?_;exact ⟨p8 (by rw [hA,zV h];simp),hE.trans c2⟩
 ·refine zR ?_;exact ⟨p8 (by rw [hA,zV h];simp),hE.trans c2⟩
end
section
open Go Go.RowKit
open E
open Ch Bb
section gens
variable {w:World} {dst:Option Nat} {ty:Nat} {pos:String} {af:Array Edge} {gd:Option (Nat×Bool)} {env:C9} {K:Value→World→Prop}
theorem b0W {fo:Operand} {args:Array Operand} {argTypes:Array Nat} {f:Nat} {cap:Array Value} (vs:Array Value) (hf:ev env fo = .func (.func f) #[] cap) (hfn:G.fn f=true) (ha:(args.map (ev env)).toList++cap.toList=vs.toList)
  (h:Calls G.P f vs w (fun r w'=>∃ v,r = .returned v∧K v w')):L6 G.P { dst,op:=.call { callee:=.value fo,args,argTypes },type:=ty,pos,after:=af,guard:=gd } env w K:=by
 obtain ⟨x,h1,h2,h3⟩:=G.enters f hfn;have ha:args.map (ev env)++cap=vs:=xX.1 (by rw [Array.toList_append];exact ha)
 subst ha;refine ⟨.inr (.inr ⟨f,(args.map (ev env))++cap,?_,h⟩)⟩;simp [execOp,resolve,hf,Deferred.ofValue,invoke,callFunc,h1,h3];cases hb:x.body with
 | none=>rw [hb] at h2;cases h2
 | some c=>simp
theorem a9G {f:Nat} {cs:Array Operand} (caps:Array Value) (hc:(cs.map (ev env)).toList=caps.toList) (h:K (.func (.func f) #[] caps) w):L6 G.P { dst,op:=.makeFunc (.func f) #[] cs,type:=ty,pos,after:=af,guard:=gd } env w K:=by
 have hc:=xX.1 hc;subst hc;exact ⟨.inl ⟨.func (.func f) #[] (cs.map (ev env)),w,by simp [execOp,Instr.makeFunc],h⟩⟩
end gens
theorem a7i:B7 H1:=(a6I H1).1 (by decide +kernel)
theorem b7N:a1i H1=false:=by decide +kernel
theorem b7O:a7q H1=[114,110,98,113,107,98,110,114,47,112,112,112,112,112,112,112,112,47,56,47,56,47,56,47,56,47,80,80,80,80,80,80,80,80,47,82,78,66,81,75,66,78,82,32,119,32,75,81,107,113,32,45,32,48,32,49]:=by decide +kernel
theorem a9H (w:World) (hT:C6 w) (hS:Spc w):Calls G.P 133 #[] w (fun r w'=>Cl w w'∧∃ P b,r = .returned (.pointer (some ⟨P,0,none⟩))∧w.heap.size≤P∧w.heap.size≤b∧G8 w' P b H1 (.slice none 0 0)):=by
 have hd:=b39 a7i zd zd w hT hS;rw [b7O] at hd;refine zN func133 ?_;refine zR ?_;refine m8 hd ?_;rintro e w1 ⟨c1,P,b,rfl,sP,sb,hP,hB⟩;refine ⟨_,rfl,zR ?_⟩;exact ⟨c1,P,b,rfl,sP,sb,by rw [b7N];exact hP,hB,.inl rfl⟩
def a02 (P:Nat):Nd:={ C3 ⟨⟨0,0,0⟩,0⟩ with pos:=.pointer (some ⟨P,0,none⟩) }
def P4 (P R tb:Nat):Gm:=⟨P,star,.map (some tb),R,R,.slice none 0 0,0⟩
set_option maxHeartbeats 1000000 in
theorem c4E {p:g9} (hI:B7 p) (hle:(A5 p).length≤218) {G0 M P b c P0 tb:Nat} (w:World) (hT:C6 w) (hb:w.heap[G0]?=some (.cells (gmA (P4 P0 M tb)) 131 (0,0))) (hM:w.heap[M]?=some (.cells (F7 (a02 P0)) 141 (0,0)))
  (hP:w.heap[P]?=some (.cells (hdA b (D0 p false) (.slice none 0 0)) 173 (0,0))) (hB:w.heap[b]?=some (.cells (J4 (a1s p)) 237 (0,0))) (hc:w.heap[c]?=some (.cells #[.pointer (some ⟨P,0,none⟩)] 83 (0,0))) :
  Calls G.P 136 #[.pointer (some ⟨G0,0,none⟩),.pointer (some ⟨c,0,none⟩)] w (fun r w'=>r = .returned (.tuple #[])∧∃ g' z,J0 w' G0 g' [] z∧z.p=p∧z.M=M∧z.P=P∧((g'.meth:Int),g'.out)=D5 [p] p (0,star)∧Fr [P,G0,M] w w'):=by
 have hGP:=G9 hb hP zd;have hMP:=G9 hM hP zd;have hbP:=G9 hB hP zd;have hcP:=G9 hc hP zd;have hcG:=G9 hc hb zd;have hcM:=G9 hc hM zd;have hGM:=G9 hb hM zd;have hbG:=G9 hB hb zd;have hbM:=G9 hB hM zd;have hic:=fun (w':World) (h:Cl w w')=>a7z (h:=D0 p false) (B:=a1s p) (by have:=hI.turn;show p.turn+1=1∨p.turn+1=2;omega) (D1 p 0).1 (D1 p 0).2 (D1 p 1).1 (D1 p 1).2 w' (hT.cl h) (h.blk hP) (h.blk hB)
 have hic2:(a1s p).chk (D0 p false).turn=a1i p:=b9n hI;rw [hic2] at hic;refine zN func136 ?_;refine zR ?_;refine zK 5 ?_;refine zR ?_;refine l9 _ (fun w' hw=>D9 (v:=.pointer (some ⟨P,0,none⟩)) (hw.blk hc) rfl rfl) (zR ?_);refine l9 _ (fun w' hw=>D9 (v:=.pointer (some ⟨P,0,none⟩)) (hw.blk hc) rfl rfl) (zR ?_);refine D6 _ (fun _ _ h=>h.trans) (fun w' hw=>hic w' hw) (zR ?_);intro w1 c1;refine zR ?_;refine zT (c1.blk hP) [.bool (a1i p)] fun w2 u2=>?_;have hP2:w2.heap[P]?=some (.cells (hdA b (D0 p (a1i p)) (.slice none 0 0)) 173 (0,0)):=u2.at_;have f2:Fr [P,G0,M] w w2:=(Fr.cl c1).trans (Fr.upd u2 (by simp))
 have hb2:=(Tn.upd u2).blk (c1.blk hb) hGP;have hc2:=(Tn.upd u2).blk (c1.blk hc) hcP;have hM2:=(Tn.upd u2).blk (c1.blk hM) hMP;have hB2:=(Tn.upd u2).blk (c1.blk hB) hbP;refine zR ?_;refine b7 _ (D9 (v:=.pointer (some ⟨P,0,none⟩)) hc2 rfl rfl) (zR ?_);refine zT hb2 [.pointer (some ⟨P,0,none⟩)] fun w3 u3=>?_;have hb3:w3.heap[G0]?=some (.cells (gmA (P4 P M tb)) 131 (0,0)):=u3.at_;have f3:=f2.trans (Fr.upd u3 (by simp))
 have hP3:=(Tn.upd u3).blk hP2 (wY hGP);have hc3:=(Tn.upd u3).blk hc2 hcG;have hM3:=(Tn.upd u3).blk hM2 (wY hGM);have hB3:=(Tn.upd u3).blk hB2 hbG;refine zR ?_;refine zK 7 ?_;refine zR ?_;refine l9 _ (fun w' hw=>b6q (hw.blk hb3)) (zR ?_);refine l9 _ (fun w' hw=>D9 (v:=.pointer (some ⟨P,0,none⟩)) (hw.blk hc3) rfl rfl) (zR ?_);intro w4 c4;refine zR ?_;refine zT (c4.blk hM3) [.pointer (some ⟨P,0,none⟩)] fun w5 u5=>?_;have hM5:w5.heap[M]?=some (.cells (F7 (a02 P)) 141 (0,0)):=u5.at_;have f5:=(f3.trans (Fr.cl c4)).trans (Fr.upd (b:=M) u5 (by simp))
 have hb5:=(Tn.upd u5).blk (c4.blk hb3) hGM;have hP5:=(Tn.upd u5).blk (c4.blk hP3) (wY hMP);have hB5:=(Tn.upd u5).blk (c4.blk hB3) hbM;have hPM:G8 w5 P b p (.slice none 0 0):=⟨hP5,hB5,.inl rfl⟩;have hT5:C6 w5:=hT.fr f5 fun k hk cs t fz hh=>by
  simp only [yV,zy,xH] at hk;rcases hk with e|e|e
  ·rw [e] at hh;rw [← (xP (yp (hP.symm.trans hh))).2.1];decide
  ·rw [e] at hh;rw [← (xP (yp (hb.symm.trans hh))).2.1];decide
  ·rw [e] at hh;rw [← (xP (yp (hM.symm.trans hh))).2.1];decide
 obtain ⟨z,hz⟩:∃ z:O0,z=⟨M,a02 P,P,b,p,.slice none 0 0⟩:=⟨_,rfl⟩;have hch:Chn w5 [z]:=by rw [hz];exact ⟨hM5,rfl,rfl,hPM,trivial⟩
 have hev:=b0L (g:=P4 P M tb) (n:=z) (l:=[]) hI hle (b9I hI b) (by simp) (by intro x hx;rw [zY.1 hx,hz];exact hI) w5 hT5 hb5 (by rw [hz];rfl) hch hPM (wY hGP) hbG (fun _=>rfl)
 refine zR ?_;refine m8 hev ?_;rintro e w6 ⟨rfl,m',o',hend,hgb,hfr⟩;refine ⟨_,rfl,zR ?_⟩;have hend:((m':Int),o')=D5 [p] p (((0:Nat):Int),star):=by rw [hz] at hend;exact hend
 have kG:Kp [] w5 w6:=Kp.fr hfr fun k hk=>by rw [zY.1 hk];exact .inr ⟨_,_,hb5⟩
 refine ⟨rfl,{ P4 P M tb with out:=o',meth:=m' },z,⟨hgb,by rw [hz];rfl,by rw [hz];rfl,⟨z,[],rfl,by rw [hz];rfl⟩,Chn.kp kG hch fun n _=>n.off_nil,(by rw [hz];rfl),fun n hn=>(by cases hn),(by rw [hz];intro e;cases e),fun n hn=>(by cases hn),b0M hend fun _=>rfl⟩,by rw [hz],by rw [hz],by rw [hz],hend,f5.trans (hfr.mono (by simp))⟩
theorem uFn:∃ a b c,G.P.underlying 122=some (.func a b c):=by
 have h:(match G.P.underlying 122 with|some (.func ..)=>true|_=>false)=true:=by kernel_rfl
 split at h
 ·rename_i a b c e;exact ⟨a,b,c,e⟩
 ·cases h
theorem c7d {w:World} {b i:Nat} {v:Value} {cs:Array Value} {u:Nat} {fz:Nat×Nat} (hb:w.heap[b]?=some (.cells cs u fz)) (hi:cs[i]?=some v):m9 G.P w 122 ⟨b,i,none⟩ v:=by
 obtain ⟨e1,e2,e3,he⟩:=uFn;have ha:(isAgg 122).run G.P w = .ok false w:=by unfold isAgg;simp [run_underlying he]
 unfold m9 Instr.loadAt loadVar;simp [Instr.sureAddr,ha,D2 hb,hi]
theorem c4F (f:Fn) (a c:Array Value):Cmp 122 (.func f a c) .nilFunc false:=by
 obtain ⟨e1,e2,e3,he⟩:=uFn;refine a9g (fun d w=>?_) (fun w=>by simp [binOp]) (fun w=>by simp [binOp]) (fun op a v w=>by unfold eqGuard;cases op<;>rfl)
 simp [Op.equalIn,run_underlying he]
theorem c7e:H0 181 122 1 8:=U5 zk
structure c30 (w w':World) (G0:Nat) (p:g9) (looked:Bool):Prop where
 ex:∃ g z,J0 w' G0 g [] z∧z.p=p∧w.heap.size≤z.M∧w.heap.size≤z.P∧((g.meth:Int),g.out)=(if looked then D5 [p] p (0,star) else (0,star))
 cl:Cl w w'
 new:w.heap.size≤G0
set_option maxHeartbeats 1000000 in
theorem b5j (w:World) (hT:C6 w) (hS:Spc w):Calls G.P 97 #[.slice none 0 0] w (fun r w'=>∃ G0,r = .returned (.pointer (some ⟨G0,0,none⟩))∧c30 w w' G0 H1 false):=by
 refine zN func97 ?_;refine zR ?_;refine m8 (a9H w hT hS) ?_;rintro e w1 ⟨c1,P,b,rfl,sP,sb,hPM⟩;refine ⟨_,rfl,zR ?_⟩;refine r7 (F7 (a02 P)) zk (zR ?_);have c2:=c1.trans (Cl.alloc w1 (.cells (F7 (a02 P)) 141));have hPM2:=hPM.step (Cl.alloc w1 (.cells (F7 (a02 P)) 141));have nR:=d8 w1 (.cells (F7 (a02 P)) 141);have s2:=C0 w1 (.cells (F7 (a02 P)) 141);have s1:=c1.size;obtain ⟨R,hR⟩:∃ R,R=w1.heap.size:=⟨_,rfl⟩;rw [← hR] at nR ⊢;generalize w1.alloc (.cells (F7 (a02 P)) 141)=w2 at *;refine a4G ?_;have c3:=c2.trans (Cl.alloc w2 (.map #[] 0));have hPM3:=hPM2.step (Cl.alloc w2 (.map #[] 0));have nR3:=(Cl.alloc w2 (.map #[] 0)).blk nR;have s3:=C0 w2 (.map #[] 0);generalize w2.alloc (.map #[] 0)=w3 at *;refine zR ?_;refine r7 (gmA (P4 P R w2.heap.size)) zk (zR ?_);have c4:=c3.trans (Cl.alloc w3 (.cells (gmA (P4 P R w2.heap.size)) 131));have hPM4:=hPM3.step (Cl.alloc w3 (.cells (gmA (P4 P R w2.heap.size)) 131));have nR4:=(Cl.alloc w3 (.cells (gmA (P4 P R w2.heap.size)) 131)).blk nR3;have nG:=d8 w3 (.cells (gmA (P4 P R w2.heap.size)) 131);have s4:=C0 w3 (.cells (gmA (P4 P R w2.heap.size)) 131);generalize w3.alloc (.cells (gmA (P4 P R w2.heap.size)) 131)=w4 at *;refine a5e 1 (zR ?_);refine ⟨_,rfl,⟨P4 P R w2.heap.size,⟨R,a02 P,P,b,H1,.slice none 0 0⟩,⟨nG,rfl,rfl,⟨_,[],rfl,rfl⟩,⟨nR4,rfl,rfl,hPM4,trivial⟩,rfl,fun n hn=>(by cases hn),fun e=>(by cases e),fun n hn=>(by cases hn),fun _=>rfl⟩,rfl,(show w.heap.size≤R by omega),sP,rfl⟩,c4,zo⟩
set_option maxHeartbeats 1000000 in
theorem b5k {p:g9} (hI:B7 p) (hle:(A5 p).length≤218) {P b c O k:Nat} (w:World) (hT:C6 w) (hS:Spc w)
  (hP:w.heap[P]?=some (.cells (hdA b (D0 p false) (.slice none 0 0)) 173 (0,0))) (hB:w.heap[b]?=some (.cells (J4 (a1s p)) 237 (0,0))) (hc:w.heap[c]?=some (.cells #[.pointer (some ⟨P,0,none⟩)] 83 (0,0)))
  (hO:w.heap[O]?=some (.cells #[.func (.func 136) #[] #[.pointer (some ⟨c,0,none⟩)]] 122 (0,0))) :
  Calls G.P 97 #[.slice (some ⟨O,0,none⟩) 1 k] w (fun r w'=>∃ G0 g z,r = .returned (.pointer (some ⟨G0,0,none⟩))∧w.heap.size≤G0∧J0 w' G0 g [] z∧z.p=p∧w.heap.size≤z.M∧z.P=P∧((g.meth:Int),g.out)=D5 [p] p (0,star)∧Tn P w w'):=by
 refine zN func97 ?_;refine zR ?_;refine m8 (a9H w hT hS) ?_;rintro e w1 ⟨c1,P0,b0,rfl,sP,sb,hPM⟩;refine ⟨_,rfl,zR ?_⟩;refine r7 (F7 (a02 P0)) zk (zR ?_);have c2:=c1.trans (Cl.alloc w1 (.cells (F7 (a02 P0)) 141));have nR:=d8 w1 (.cells (F7 (a02 P0)) 141);have s2:=C0 w1 (.cells (F7 (a02 P0)) 141);have s1:=c1.size;obtain ⟨R,hR⟩:∃ R,R=w1.heap.size:=⟨_,rfl⟩;rw [← hR] at nR ⊢;generalize w1.alloc (.cells (F7 (a02 P0)) 141)=w2 at *;refine a4G ?_;have c3:=c2.trans (Cl.alloc w2 (.map #[] 0));have nR3:=(Cl.alloc w2 (.map #[] 0)).blk nR;have s3:=C0 w2 (.map #[] 0);generalize w2.alloc (.map #[] 0)=w3 at *;refine zR ?_;refine r7 (gmA (P4 P0 R w2.heap.size)) zk (zR ?_);have c4:=c3.trans (Cl.alloc w3 (.cells (gmA (P4 P0 R w2.heap.size)) 131));have nR4:=(Cl.alloc w3 (.cells (gmA (P4 P0 R w2.heap.size)) 131)).blk nR3;have nG:=d8 w3 (.cells (gmA (P4 P0 R w2.heap.size)) 131);have s4:=C0 w3 (.cells (gmA (P4 P0 R w2.heap.size)) 131);obtain ⟨G0,hG0⟩:∃ G0,G0=w3.heap.size:=⟨_,rfl⟩;rw [← hG0] at nG ⊢;generalize w3.alloc (.cells (gmA (P4 P0 R w2.heap.size)) 131)=w4 at *;refine a5e 2 (zR ?_);refine b7 _ (c7d (v:=.func (.func 136) #[] #[.pointer (some ⟨c,0,none⟩)]) (c4.blk hO) rfl) (zR ?_);refine G7 false (c4F _ _ _) (zR ?_);refine b0W #[.pointer (some ⟨G0,0,none⟩),.pointer (some ⟨c,0,none⟩)] rfl rfl (by rw [zb];rfl) ?_
 refine (c4E hI hle w4 (hT.cl c4) nG nR4 (c4.blk hP) (c4.blk hB) (c4.blk hc)).mono ?_;rintro e w5 ⟨rfl,g',z,hg,hz,hzM,hzP,hend,f5⟩;refine ⟨_,rfl,zR ?_⟩;have hPl:=A7 hP;refine ⟨G0,g',z,rfl,zo,hg,hz,by rw [hzM];omega,hzP,hend,⟨f5.os.trans c4.os,f5.tape.trans c4.tape,f5.output.trans c4.output,zw c4.size f5.size,fun k hk hne=>?_⟩⟩
 rw [f5.else_ k zo (by simp only [yV,zy,xH];omega)]
 exact c4.block k hk
set_option maxHeartbeats 1000000 in
theorem c2C {p:g9} (hI:B7 p) (hle:(A5 p).length≤218) (hh:p.half<10000000) (hf:p.full<10000000) (usual:Bool) (hu:usual=true→p=H1) (w:World) (hT:C6 w) (hS:Spc w) :
  Calls G.P 42 #[m7 (if usual then [] else a7q p)] w (fun r w'=>∃ G0,r = .returned (.tuple #[.pointer (some ⟨G0,0,none⟩),.nilIface])∧c30 w w' G0 p (!usual)):=by
 cases usual with
 | true =>
  have:=hu rfl;subst this;rw [zM rfl];refine zN func42 ?_;refine zR ?_;first|(refine E.A0 rfl ?_;refine zR ?_)|skip
  refine m8 (b5j w hT hS) ?_;rintro e w1 ⟨G0,rfl,h⟩;refine ⟨_,rfl,zR ?_⟩;exact ⟨G0,rfl,h⟩
 | false =>
  rw [zJ zd];have hne:¬ tx (a7q p)=tx []:=fun h=>by
   have:=Q0.1 h;unfold a7q at this;simp at this
  have hd:=fun w hT hS=>b39 hI hh hf w hT hS;generalize a7q p=T at *;have hFEN:∀ w,C6 w→Spc w→Calls G.P 98 #[m7 T] w (fun r w'=>Cl w w'∧∃ P b c,r = .returned (.tuple #[.func (.func 136) #[] #[.pointer (some ⟨c,0,none⟩)],.nilIface])∧w.heap.size≤P∧w'.heap[P]?=some (.cells (hdA b (D0 p false) (.slice none 0 0)) 173 (0,0))
   ∧w'.heap[b]?=some (.cells (J4 (a1s p)) 237 (0,0))∧w'.heap[c]?=some (.cells #[.pointer (some ⟨P,0,none⟩)] 83 (0,0))):=by
   intro w hT hS;refine zN func98 ?_;refine zR ?_;refine m8 (hd w hT hS) ?_;rintro e w1 ⟨c1,P,b,rfl,sP,sb,hP,hB⟩;refine ⟨_,rfl,zR ?_⟩;refine s7 (.pointer none) zk ?_;have c2:=Cl.alloc w1 (.cells (Value.pointer none).cells 83);have n2:=d8 w1 (.cells (Value.pointer none).cells 83);have s1:=c1.size;generalize w1.alloc (.cells (Value.pointer none).cells 83)=w2 at *;refine zR ?_;refine zT n2 [.pointer (some ⟨P,0,none⟩)] fun w3 u3=>?_;have n3:w3.heap[w1.heap.size]?=some (.cells #[.pointer (some ⟨P,0,none⟩)] 83 (0,0)):=u3.at_;refine zR ?_;refine G7 true (E6 rfl) (zR ?_);refine b7 _ (D9 (v:=.pointer (some ⟨P,0,none⟩)) n3 rfl rfl) (zR ?_);refine V0 false (N2 rfl _) (zR ?_);refine a9G #[.pointer (some ⟨w1.heap.size,0,none⟩)] (by rw [zb];rfl) (zR ?_)
   have hP2:=c2.blk hP;have hB2:=c2.blk hB;exact ⟨u3.cl (c1.trans c2) s1,P,b,_,rfl,sP,(Tn.upd u3).blk hP2 (by have:=A7 hP;omega),(Tn.upd u3).blk hB2 (by have:=A7 hB;omega),n3⟩
  refine zN func42 ?_;refine zR ?_;refine E.o9 hne (zR ?_);refine m8 (hFEN w hT hS) ?_;rintro e w1 ⟨c1,P,b,c,rfl,sP,hP,hB,hc⟩;refine ⟨_,rfl,zR ?_⟩;refine G7 true (E6 rfl) (zR ?_);refine A8 c7e [.func (.func 136) #[] #[.pointer (some ⟨c,0,none⟩)]] (by rw [zb];rfl) (by simp [Value.cells]) rfl zd zd ?_
  have c2:=Cl.alloc w1 (.cells (([.func (.func 136) #[] #[.pointer (some ⟨c,0,none⟩)]]:List Value).flatMap fun v=>v.cells.toList).toArray 122);have n2:(w1.alloc (.cells (([.func (.func 136) #[] #[.pointer (some ⟨c,0,none⟩)]]:List Value).flatMap fun v=>v.cells.toList).toArray 122)).heap[w1.heap.size]?=some (.cells #[.func (.func 136) #[] #[.pointer (some ⟨c,0,none⟩)]] 122 (0,0)):=d8 w1 _;generalize w1.alloc (.cells (([.func (.func 136) #[] #[.pointer (some ⟨c,0,none⟩)]]:List Value).flatMap fun v=>v.cells.toList).toArray 122)=w2 at *;have c02:=c1.trans c2;refine zR ?_;refine m8 (b5k hI hle w2 (hT.cl c02) (hS.cl c02) (c2.blk hP) (c2.blk hB) (c2.blk hc) n2) ?_;rintro e w3 ⟨G0,g,z,rfl,sG,hg,hz,hzM,hzP,hend,n3⟩;refine ⟨_,rfl,zR ?_⟩;refine ⟨G0,rfl,⟨?_,n3.toCl c02 sP,zw c02.size sG⟩⟩;refine ⟨g,z,hg,hz,zw c02.size hzM,by rw [hzP];exact sP,?_⟩
  rw [zM (show (!false)=true from rfl)];exact hend
theorem b0X {C:World→Prop} {l:Tx} {s:ByteArray} {k:IntKind} {b:Int} {x hi:Operand} {dst:Option Nat} {ty:Nat} {pos:String} {af:Array Edge} {gd:Option (Nat×Bool)} {env:C9} {K:Value→Prop}
  (r:Tx) (hx:ev env x = .string s) (hh:ev env hi = .int k b) (hs:s=tx l) (h0:0≤b) (h2:b≤l.length) (hr:l.take b.toNat=r) (h:K (m7 r)) :
  a68 G.P C { dst,op:=.slice 9 x none (some hi) none,type:=ty,pos,after:=af,guard:=gd } env K:=by
 subst hs;refine ⟨_,fun w _=>?_,h⟩;show (do pure (Next.value (← Instr.slice 9 (ev env x) none (some (ev env hi)) none)):Sem Next).run G.P w=_
 rw [hx,hh,yq,run_slice_string_h (P:=G.P) w 9 _ a9X _ _ h0 (by rw [C5];exact h2),tx,ByteArray.extract_mk]
 rw [← hr,List.drop_zero,Nat.sub_zero];rfl
theorem a09 {w:World} {dst:Option Nat} {ty:Nat} {pos:String} {af:Array Edge} {gd:Option (Nat×Bool)} {env:C9} {K:Value→World→Prop} {fo:Operand} {args:Array Operand} {argTypes:Array Nat} {f:Nat} {cap:Array Value} {v:Value} (vs:Array Value) (h:Calls G.P f vs w (N0 v w)) (hf:ev env fo = .func (.func f) #[] cap) (hfn:G.fn f=true) (ha:(args.map (ev env)).toList++cap.toList=vs.toList)
  (hk:∀ w',Cl w w'→K v w'):L6 G.P { dst,op:=.call { callee:=.value fo,args,argTypes },type:=ty,pos,after:=af,guard:=gd } env w K :=
 b0W vs hf hfn ha (h.mono fun _ w' hr=>⟨v,hr.1,hk w' hr.2⟩)
def orE (x y:Option E0):Option E0:=match x with
 | some a=>some a
 | none=>y
theorem a1V (f:Nat→Option E0) (n:Nat):a0V f (n+1)=orE (f n) (a0V f n):=by
 rw [a0V];unfold orE;cases f n<;>rfl
theorem a4N (x y z:Option E0):orE (orE x y) z=orE x (orE y z):=by cases x<;>rfl
theorem c0h (x:Option E0):orE none x=x:=rfl
theorem b3B (a:E0) (x:Option E0):orE (some a) x=some a:=rfl
def a13 (s:Tx) (q:E0):List Tx:=[s,q.pc,q.fo,q.ro,q.ca,q.fi,q.ra,q.pr,q.cs,[]]
def zzL (s:Tx):List Tx:=match zzP s with
 | some q=>a13 s q
 | none=>[]
theorem b5l {s set:Tx} {i:Nat} (h:inS s i set=true):i<s.length:=by
 refine yl fun hn=>?_;rw [b62 zo] at h;cases h
theorem a8r (s set:Tx) (i:Nat):oneN s i set≤1:=by unfold oneN;split<;>omega
theorem b0Y {k:Nat} (h:k≤100):IntKind.i64.wrap ((k:Int)-1)=(k:Int)-1:=g8 zo zo
theorem b64 {a b:Nat} (h:a+b≤1000000):IntKind.i64.wrap ((a:Int)+(b:Int))=((a+b:Nat):Int):=by rw [g8 zo zo];push_cast;rfl
theorem a9I {s:Tx} {q:E0} (h:zzP s=some q):zzL s=a13 s q:=by unfold zzL;rw [h]
theorem b3C {s:Tx} (h:zzP s=none):zzL s=[]:=by unfold zzL;rw [h]
def ooR (s:Tx) (i:Nat):Option E0:=if i=0∧s.take 5=oooS∧G5 (s.drop 5)=true then some (a6x oooS) else if i≤1∧s.take 3=ooS∧G5 (s.drop 3)=true then some (a6x ooS) else none
theorem c6g {s:Tx} (h:a0Q s=none):ooR s 0=zzP s:=by
 unfold zzP ooR;rw [h];simp
set_option maxHeartbeats 4000000 in
theorem b65 (s:Tx) (hs:s.length≤1000) (w:World):Calls G.P 346 #[m7 s] w (fun r w'=>Cl w w'∧∃ v,r = .returned v∧Row 9 1 J5 w.heap.size w' v (zzL s)):=by
 have hsz:(tx s).size=s.length:=C5 _;refine zN func346 ?_;refine zG ?_;obtain ⟨b,hb0⟩:∃ b,b=w.heap.size:=⟨_,rfl⟩;have cA:=Cl.alloc w (.cells #[m7 s] 9);have hb:(w.alloc (.cells #[m7 s] 9)).heap[b]?=some (.cells #[m7 s] 9 (0,0)):=by rw [hb0];exact d8 _ _
 rw [← hb0];obtain ⟨W0,hW0⟩:∃ W0,W0=w.alloc (.cells #[m7 s] 9):=⟨_,rfl⟩;rw [← hW0] at cA hb;rw [show w.alloc (.cells #[Value.string (tx s)] 9)=W0 from hW0.symm];clear hW0;have one:=fun {w':World} (i:Nat) (hi:i≤100000) (set:Tx) (hset:set.length≤1000) (h:Cl W0 w')=>c6a (s:=s) (set:=set) (i:=i) (b:=b) hi zo hset w' (h.blk hb);refine zR ?_;refine a9G #[.pointer (some ⟨b,0,none⟩)] (by rw [zb];rfl) (zR ?_)
 refine a09 #[.int .i64 (0:Nat),m7 G2,.pointer (some ⟨b,0,none⟩)] (one 0 zd G2 zd (Cl.refl _)) rfl rfl (by rw [zb];rfl) fun w1 c1=>?_
 have l1:=a8r s G2 0;refine zR ?_;refine C1 (σ:=Nat) [2,4,5,6,7,8,9,10] 13 (fun n=>[(4,.int .i64 ((n:Int)-1))]) (fun n w'=>n≤2∧a0V (b2b s) n=a0Q s∧Cl W0 w') (fun n=>n) zk (oneN s 0 G2+1) ⟨zo,rfl,c1⟩ ⟨d9 (by push_cast;omega),trivial⟩ ?_
 clear l1;rintro na ja wa ⟨hna,hA,ca⟩;cases na with
 | zero =>
  have hc0:=c6g hA.symm;have s0:=cA.size;refine zR ?_;refine A8 elStr [m7 oooS,m7 ooS] (by rw [zb];rfl) (by simp [Value.cells,m7]) rfl zd zd ?_
  have cB:=ca.trans (Cl.alloc wa (.cells (([m7 oooS,m7 ooS]:List Value).flatMap fun v=>v.cells.toList).toArray 9));have hg:(wa.alloc (.cells (([m7 oooS,m7 ooS]:List Value).flatMap fun v=>v.cells.toList).toArray 9)).heap[wa.heap.size]?=some (.cells #[m7 oooS,m7 ooS] 9 (0,0)):=d8 _ _;generalize wa.alloc (.cells (([m7 oooS,m7 ooS]:List Value).flatMap fun v=>v.cells.toList).toArray 9)=wB at *;generalize wa.heap.size=g at *;refine zR ?_;refine C1 (σ:=Nat) [2,12,134] 135 (fun i=>[(134,.int .i64 i)]) (fun i w'=>i≤2∧ooR s i=zzP s∧Cl wB w') (fun i=>2-i) zk 0 ⟨zo,hc0,Cl.refl _⟩ ⟨rfl,trivial⟩ ?_;rintro i jc w2 ⟨hi,hc,c2⟩;have ni:=C4 (i:=i) zo;have hg:=c2.blk hg;have c02:=cB.trans c2;have hb:=c02.blk hb;have fin:∀ q,zzP s=some q→Row 9 1 J5 b (w2.alloc (.cells (((a13 s q).map m7).flatMap fun v=>v.cells.toList).toArray 9)) (.slice (some ⟨w2.heap.size,0,none⟩) 10 10) (zzL s):=fun q hq=>by
   rw [a9I hq];exact (C7 o8 w2 (a13 s q) (zU rfl) _ rfl).mono (by rw [hb0];exact zw s0 c02.size)
  rcases (by omega:i=0∨i=1∨i=2) with rfl|rfl|rfl
  ·have nx:¬ (s.take 5=oooS∧G5 (s.drop 5)=true)→ooR s 1=zzP s:=fun h=>by
    rw [← hc];unfold ooR;simp [h]
   refine zR ?_;refine b7 _ (D9 hg rfl rfl) (zR ?_);refine b7 _ (D9 hb rfl rfl) (zR ?_);rw [hsz,show (tx oooS).size=5 from rfl];apply E.d7<;>intro h
   ·have hlen:5≤s.length:=by omega
    clear h;refine zR ?_;refine b7 _ (D9 hb rfl rfl) (zR ?_);rw [show (tx oooS).size=5 from rfl];refine a6l (l:=s) (s.take 5) rfl rfl rfl zo zo rfl (zR ?_);apply E.d7<;>intro h
    ·have e:=Q0.1 h;clear h;refine zR ?_;refine b7 _ (D9 hb rfl rfl) (zR ?_);rw [show (tx oooS).size=5 from rfl];refine g7 (a9F (s:=s) (i:=5) hlen zo w2) ?_;cases et:G5 (s.drop 5)
     ·refine zR ?_;exact ⟨1,⟨d9 ni,trivial⟩,⟨zo,nx (fun h=>by rw [et] at h;cases h.2),c2⟩,zo⟩
     ·have hz:zzP s=some (a6x oooS):=by rw [← hc];unfold ooR;simp [e,et]
      refine zR ?_;refine b7 _ (D9 hb rfl rfl) (zR ?_);refine A8 elStr ((a13 s (a6x oooS)).map m7) (by rw [zb];rfl) (by simp [a13,Value.cells,m7]) rfl zd zd (zR ?_)
      exact ⟨(cA.trans c02).trans (Cl.alloc _ _),_,rfl,fin _ hz⟩
    ·have e:¬ s.take 5=oooS:=fun e=>h (by rw [e])
     refine zR ?_;exact ⟨1,⟨d9 ni,trivial⟩,⟨zo,nx (fun h=>e h.1),c2⟩,zo⟩
   ·have e:¬ s.take 5=oooS:=fun e=>by
     have:=yM List.length e;rw [yh] at this;have e2:oooS.length=5:=rfl;omega
    refine zR ?_;exact ⟨1,⟨d9 ni,trivial⟩,⟨zo,nx (fun h=>e h.1),c2⟩,zo⟩
  ·have nx:¬ (s.take 3=ooS∧G5 (s.drop 3)=true)→ooR s 2=zzP s:=fun h=>by
    rw [← hc];unfold ooR;simp [h]
   refine zR ?_;refine b7 _ (D9 hg rfl rfl) (zR ?_);refine b7 _ (D9 hb rfl rfl) (zR ?_);rw [hsz,show (tx ooS).size=3 from rfl];apply E.d7<;>intro h
   ·have hlen:3≤s.length:=by omega
    clear h;refine zR ?_;refine b7 _ (D9 hb rfl rfl) (zR ?_);rw [show (tx ooS).size=3 from rfl];refine a6l (l:=s) (s.take 3) rfl rfl rfl zo zo rfl (zR ?_);apply E.d7<;>intro h
    ·have e:=Q0.1 h;clear h;refine zR ?_;refine b7 _ (D9 hb rfl rfl) (zR ?_);rw [show (tx ooS).size=3 from rfl];refine g7 (a9F (s:=s) (i:=3) hlen zo w2) ?_;cases et:G5 (s.drop 3)
     ·refine zR ?_;exact ⟨2,⟨d9 ni,trivial⟩,⟨zo,nx (fun h=>by rw [et] at h;cases h.2),c2⟩,zo⟩
     ·have hz:zzP s=some (a6x ooS):=by rw [← hc];unfold ooR;simp [e,et,ooS,oooS]
      refine zR ?_;refine b7 _ (D9 hb rfl rfl) (zR ?_);refine A8 elStr ((a13 s (a6x ooS)).map m7) (by rw [zb];rfl) (by simp [a13,Value.cells,m7]) rfl zd zd (zR ?_)
      exact ⟨(cA.trans c02).trans (Cl.alloc _ _),_,rfl,fin _ hz⟩
    ·have e:¬ s.take 3=ooS:=fun e=>h (by rw [e])
     refine zR ?_;exact ⟨2,⟨d9 ni,trivial⟩,⟨zo,nx (fun h=>e h.1),c2⟩,zo⟩
   ·have e:¬ s.take 3=ooS:=fun e=>by
     have:=yM List.length e;rw [yh] at this;have e2:ooS.length=3:=rfl;omega
    refine zR ?_;exact ⟨2,⟨d9 ni,trivial⟩,⟨zo,nx (fun h=>e h.1),c2⟩,zo⟩
  ·have hn:zzP s=none:=hc.symm;refine zR ?_;exact ⟨cA.trans c02,_,rfl,by rw [b3C hn];exact Row.nil _ _⟩
 | succ a =>
  rw [a1V] at hA;rw [show ((a+1:Nat):Int)-1=(a:Int) by omega]
  refine zR ?_;refine a09 #[.int .i64 (a:Nat),m7 K6,.pointer (some ⟨b,0,none⟩)] (one a zo K6 zd ca) rfl rfl (by rw [zb];rfl) fun w1 c1=>?_
  have l1:=a8r s K6 a;refine zR ?_;refine C1 (σ:=Nat) [2,5,6,7,8,9,10] 13 (fun n=>[(5,.int .i64 ((n:Int)-1))]) (fun n w'=>n≤2∧orE (a0V (b2a s a) n) (a0V (b2b s) a)=a0Q s∧Cl W0 w') (fun n=>n) zk (oneN s a K6+1) ⟨zo,hA,ca.trans c1⟩ ⟨d9 (by push_cast;omega),trivial⟩ ?_
  clear l1 c1 hA ca;generalize hRA:a0V (b2b s) a=RA at *;rintro nb jb wb ⟨hnb,hB,cb⟩;cases nb with
  | zero =>
   refine zR ?_;exact ⟨a,⟨d9 (b0Y zo),trivial⟩,⟨zo,hRA.trans hB,cb⟩,zo⟩
  | succ bb =>
   rw [a1V,a4N] at hB;rw [show ((bb+1:Nat):Int)-1=(bb:Int) by omega]
   have eab:=b64 (a:=a) (b:=bb) zo;refine zR ?_;rw [eab];refine a09 #[.int .i64 (a+bb:Nat),m7 H4,.pointer (some ⟨b,0,none⟩)] (one (a+bb) zo H4 zd cb) rfl rfl (by rw [zb];rfl) fun w1 c1=>?_
   have l1:=a8r s H4 (a+bb);refine zR ?_;refine C1 (σ:=Nat) [2,6,7,8,9,10] 13 (fun n=>[(6,.int .i64 ((n:Int)-1))]) (fun n w'=>n≤2∧orE (a0V (b1Z s a bb) n) (orE (a0V (b2a s a) bb) RA)=a0Q s∧Cl W0 w') (fun n=>n) zk (oneN s (a+bb) H4+1) ⟨zo,hB,cb.trans c1⟩ ⟨d9 (by push_cast;omega),trivial⟩ ?_
   clear l1 c1 hB cb;generalize hRB:orE (a0V (b2a s a) bb) RA=RB at *;rintro nc jc wc ⟨hnc,hC,cc⟩;cases nc with
   | zero =>
    refine zR ?_;exact ⟨bb,⟨d9 (b0Y zo),trivial⟩,⟨zo,hRB.trans hC,cc⟩,zo⟩
   | succ c =>
    rw [a1V,a4N] at hC;rw [show ((c+1:Nat):Int)-1=(c:Int) by omega]
    have eabc:=b64 (a:=a+bb) (b:=c) zo;refine zR ?_;rw [eab,eabc];refine a09 #[.int .i64 (a+bb+c:Nat),m7 [120],.pointer (some ⟨b,0,none⟩)] (one (a+bb+c) zo [120] zd cc) rfl rfl (by rw [zb];rfl) fun w1 c1=>?_
    have l1:=a8r s [120] (a+bb+c);refine zR ?_;refine C1 (σ:=Nat) [2,7,8,9,10] 13 (fun n=>[(7,.int .i64 ((n:Int)-1))]) (fun n w'=>n≤2∧orE (a0V (b0a s a bb c) n) (orE (a0V (b1Z s a bb) c) RB)=a0Q s∧Cl W0 w') (fun n=>n) zk (oneN s (a+bb+c) [120]+1) ⟨zo,hC,cc.trans c1⟩ ⟨d9 (by push_cast;omega),trivial⟩ ?_
    clear l1 c1 hC cc;generalize hRC:orE (a0V (b1Z s a bb) c) RB=RC at *;rintro nd jd wd ⟨hnd,hD,cd⟩;cases nd with
    | zero =>
     refine zR ?_;exact ⟨c,⟨d9 (b0Y zo),trivial⟩,⟨zo,hRC.trans hD,cd⟩,zo⟩
    | succ d =>
     rw [a1V,a4N] at hD;rw [show ((d+1:Nat):Int)-1=(d:Int) by omega]
     have eabcd:=b64 (a:=a+bb+c) (b:=d) zo;refine zR ?_;rw [eab,eabc,eabcd];obtain ⟨T,hT⟩:∃ T,T=a+bb+c+d:=⟨_,rfl⟩;have hT4:T≤4:=by omega
     have hE:b0a s a bb c d=if inS s T K6&&inS s (T+1) H4 then a0V (b1Y s a bb c d) (if a6w s T then 2 else 1) else none:=by rw [hT];rfl
     rw [hE] at hD;rw [← hT];clear hE;generalize hRD:orE (a0V (b0a s a bb c) d) RC=RD at *;have n1:=C4 (i:=T) zo;have n2:IntKind.i64.wrap ((T:Int)+2)=((T+2:Nat):Int):=by rw [g8 zo zo];push_cast;omega
     refine a09 #[.int .i64 T,m7 K6,.pointer (some ⟨b,0,none⟩)] (one T zo K6 zd cd) rfl rfl (by rw [zb];rfl) fun w1 c1=>?_
     have c1:=cd.trans c1;cases hF:inS s T K6
     ·rw [a7g hF];rw [hF] at hD;refine zR ?_;exact ⟨d,⟨d9 (b0Y zo),trivial⟩,⟨zo,hRD.trans hD,c1⟩,zo⟩
     rw [a6z hF];rw [hF] at hD;refine zR ?_;rw [n1];refine a09 #[.int .i64 (T+1:Nat),m7 H4,.pointer (some ⟨b,0,none⟩)] (one (T+1) zo H4 zd c1) rfl rfl (by rw [zb];rfl) fun w2 c2=>?_
     have c2:=c1.trans c2;cases hG:inS s (T+1) H4
     ·rw [a7g hG];rw [hG] at hD;refine zR ?_;exact ⟨d,⟨d9 (b0Y zo),trivial⟩,⟨zo,hRD.trans hD,c2⟩,zo⟩
     rw [a6z hG];rw [hG,Bool.and_true,zM rfl] at hD;have hl2:=b5l hG;clear c1 cd;refine zG ?_;refine Nx.mk (zG ?_);refine Nx.mk (zG ?_);refine Nx.mk (zG ?_);have n3:=C4 (i:=T+2) zo;rw [n2];refine B0 (σ:=Unit) [10] 67 (fun _=>[(10,.int .i64 (if a6w s T then 2 else 0))]) (fun _ w'=>Cl W0 w') zk ?_ (fun _ j w4 c4=>?_)
     ·refine zR ?_;refine a09 #[.int .i64 (T+2:Nat),m7 [61],.pointer (some ⟨b,0,none⟩)] (one (T+2) zo [61] zd c2) rfl rfl (by rw [zb];rfl) fun w5 c5=>?_
      have c5:=c2.trans c5;cases hP:inS s (T+2) [61]
      ·have e:a6w s T=false:=by unfold a6w;rw [hP];rfl
       rw [a7g hP];refine zR ?_;exact ⟨(),⟨by rw [e];rfl,trivial⟩,c5⟩
      rw [a6z hP];refine zR ?_;rw [n3];refine a09 #[.int .i64 (T+2+1:Nat),m7 a7W,.pointer (some ⟨b,0,none⟩)] (one (T+2+1) zo a7W zd c5) rfl rfl (by rw [zb];rfl) fun w6 c6=>?_
      have c6:=c5.trans c6;have e:a6w s T=inS s (T+2+1) a7W:=by unfold a6w;rw [hP];rfl
      rw [e];cases hQ:inS s (T+2+1) a7W
      ·rw [a7g hQ];refine zR ?_;exact ⟨(),⟨rfl,trivial⟩,c6⟩
      ·rw [a6z hQ];refine zR ?_;exact ⟨(),⟨rfl,trivial⟩,c6⟩
     clear c2;have hp4:a6w s T=true→T+4≤s.length:=fun h=>by
      unfold a6w at h;rw [zP] at h;have:=b5l h.2;omega
     refine zR ?_;refine C1 (σ:=Nat) [2,10] 13 (fun n=>[(10,.int .i64 (2*(n:Int)-2))]) (fun n w'=>n≤2∧orE (a0V (b1Y s a bb c d) n) RD=a0Q s∧(0<n→T+2*n≤s.length)∧Cl W0 w') (fun n=>n) zk (if a6w s T then 2 else 1) ⟨by split<;>omega,hD,fun _=>by split;exact hp4 (by assumption);omega,c4⟩ ⟨d9 (by split<;>rfl),trivial⟩ ?_
     clear hD hp4 c4;rintro np jp wp ⟨hnp,hK,hlp,cp⟩;cases np with
     | zero =>
      refine zR ?_;exact ⟨d,⟨d9 (b0Y zo),trivial⟩,⟨zo,hRD.trans hK,cp⟩,zo⟩
     | succ k =>
      rw [a1V,a4N] at hK;have hlk:T+2+2*k≤s.length:=by have:=hlp zo;omega
      have epk:=b64 (a:=T+2) (b:=2*k) zo;have hb6:=cp.blk hb;rw [show 2*((k+1:Nat):Int)-2=((2*k:Nat):Int) by push_cast;omega]
      have hKK:b1Y s a bb c d k=if G5 (s.drop (T+2+2*k)) then some (b5e s a bb c d k) else none:=by rw [hT];rfl
      rw [hKK] at hK;clear hKK;refine zR ?_;refine b7 _ (D9 hb6 rfl rfl) (zR ?_);rw [epk];refine g7 (a9F (s:=s) (i:=T+2+2*k) hlk zo wp) ?_;cases et:G5 (s.drop (T+2+2*k))
      ·rw [et] at hK;refine zR ?_;exact ⟨k,⟨d9 (by rw [g8 (by push_cast;omega) (by push_cast;omega)];push_cast;rfl),trivial⟩,⟨zo,hK,fun _=>by omega,cp⟩,zo⟩
      ·rw [et,zM rfl,b3B] at hK;have hz:zzP s=some (b5e s a bb c d k):=by unfold zzP;rw [← hK]
       have s0:=cA.size;refine zR ?_;refine zK 44 ?_;refine zR ?_;refine l9 _ (fun w' hw=>D9 (hw.blk hb6) rfl rfl) (zR ?_);refine l9 _ (fun w' hw=>D9 (hw.blk hb6) rfl rfl) (zR ?_);refine b0X (l:=s) (X7 s 0 a) rfl rfl rfl zo zo (by rw [zg];simp [X7]) (zR ?_)
       refine l9 _ (fun w' hw=>D9 (hw.blk hb6) rfl rfl) (zR ?_);rw [eab];refine a0J (l:=s) (X7 s (a) (a+bb)) rfl rfl rfl rfl zo zo zo (by rw [zg,zg];rfl) (zR ?_)
       refine l9 _ (fun w' hw=>D9 (hw.blk hb6) rfl rfl) (zR ?_);rw [eab,eabc];refine a0J (l:=s) (X7 s (a+bb) (a+bb+c)) rfl rfl rfl rfl zo zo zo (by rw [zg,zg];rfl) (zR ?_)
       refine l9 _ (fun w' hw=>D9 (hw.blk hb6) rfl rfl) (zR ?_);rw [eab,eabc];refine a0J (l:=s) (X7 s (a+bb+c) (T)) rfl rfl rfl rfl zo zo zo (by rw [zg,zg];rfl) (zR ?_)
       refine l9 _ (fun w' hw=>D9 (hw.blk hb6) rfl rfl) (zR ?_);rw [n1];refine a0J (l:=s) (X7 s (T) (T+1)) rfl rfl rfl rfl zo zo zo (by rw [zg,zg];rfl) (zR ?_)
       refine l9 _ (fun w' hw=>D9 (hw.blk hb6) rfl rfl) (zR ?_);rw [n1];refine a0J (l:=s) (X7 s (T+1) (T+2)) rfl rfl rfl rfl zo zo zo (by rw [zg,zg];rfl) (zR ?_)
       refine l9 _ (fun w' hw=>D9 (hw.blk hb6) rfl rfl) (zR ?_);rw [epk];refine a0J (l:=s) (X7 s (T+2) (T+2+2*k)) rfl rfl rfl rfl zo zo zo (by rw [zg,zg];rfl) (zR ?_)
       intro w7 c7;refine zR ?_;have hq:b5e s a bb c d k=⟨X7 s 0 a,X7 s a (a+bb),X7 s (a+bb) (a+bb+c),X7 s (a+bb+c) T,X7 s T (T+1),X7 s (T+1) (T+2),X7 s (T+2) (T+2+2*k),[]⟩:=by rw [hT];rfl
       rw [hq] at hz;refine A8 elStr ((a13 s ⟨X7 s 0 a,X7 s a (a+bb),X7 s (a+bb) (a+bb+c),X7 s (a+bb+c) T,X7 s T (T+1),X7 s (T+1) (T+2),X7 s (T+2) (T+2+2*k),[]⟩).map m7) (by rw [zb];rfl) (by simp [a13,Value.cells,m7]) rfl zd zd (zR ?_)
       refine ⟨(cA.trans (cp.trans c7)).trans (Cl.alloc _ _),_,rfl,?_⟩;rw [a9I hz];exact (C7 o8 w7 (a13 s _) (zU rfl) _ rfl).mono (by rw [hb0];exact zw s0 (cp.trans c7).size)
end
section
namespace Ch
def Bad (p:g9) (t:Tx):Prop:=∀ q,zzP t=some q→∀ x∈p9 p,¬ fits q (body p x)
theorem a0k {p:g9} {t:Tx} (h:zzP t=none):Bad p t:=fun q e=>by rw [h] at e;cases e
theorem a4l {p:g9} {t:Tx} {q:E0} (h:zzP t=some q) (hx:∀ x∈p9 p,¬ fits q (body p x)):Bad p t:=fun q2 e=>by
 rw [h] at e;cases e;exact hx
theorem c0i {p:g9} (hI:B7 p) {t:Tx} {q:E0} (h:Bad p t) (e:zzP t=some q):b0d p q=none:=by
 obtain ⟨h1,_⟩:=a1l hI;unfold b0d;rw [List.find?_eq_none];intro x hx hf;exact h q e x.mv (h1 x hx).1 (a1U.1 hf)
theorem b7P {k:Int} (k1:1≤k) (k5:k≤5):∃ c,a2t k=[c]∧c≠80:=by
 rcases (by omega:k=1∨k=2∨k=3∨k=4∨k=5) with rfl|rfl|rfl|rfl|rfl<;>exact ⟨_,rfl,zd⟩
theorem b2f {o:Tx} {c:UInt8} (hn:c≠120) (h:o=[]∨o=[c]):(120:UInt8)∉o:=by
 rcases h with rfl|rfl
 ·simp
 ·simp only [zY];exact fun e=>hn e.symm
theorem a2B {p:g9} {m:Mv} (hk:a0B (sq p m.fr)≠6):a1r p m = !decide (sq p m.to=0):=by
 unfold a1r;rw [zV hk];simp
theorem b5m {p:g9} (hI:B7 p) {x:Mv} (hx:x∈p9 p) {k to_:Int} (k1:1≤k) (k5:k≤5) (t0:0≤to_) (t1:to_≤63) {A tk:Tx} (hA:(120:UInt8)∉A) (htk:tk=[]∨tk=[120])
  (h:body p x=a2t k++A++tk++(v8 to_++B6 to_)):a0B (sq p x.fr)≠6∧x.to=to_∧E7 p x=tk:=by
 obtain ⟨g0,g1,s0,s1,_⟩:=A3 hI hx;obtain ⟨c,ec,l1,_,l3,l4⟩:=a1q k1 k5;obtain ⟨d,r,ed,hd⟩:=a4K hI hx;have hcd:c=d:=by rw [ed,ec] at h;exact (yv h).1.symm
 subst hcd;rcases hd with ⟨e,_⟩|⟨e,_⟩|⟨_,_,hcx,hk6⟩
 ·exact absurd e l4
 ·exact (a6y l1 e).elim
 rcases a2A hI hx with ⟨k',hk,hh⟩|⟨_,_,hk⟩|⟨_,hq,q1,q5,q0⟩
 ·omega
 ·exact absurd hk hk6
 rw [a2r hcx hk6 g0 g1 s0 s1] at h;obtain ⟨h2,h3⟩:=List.append_inj' h (by simp [v8,B6])
 obtain ⟨h4,h5⟩:=List.append_inj h3 (by simp [v8])
 have hto:x.to=to_:=by
  have e1:=a3f h4;have e2:=a4g s0 s1 t0 t1 h5;omega
 refine ⟨hk6,hto,?_⟩;obtain ⟨c2,ec2,_,_,l5,_⟩:=a1q q1 q5;obtain ⟨c3,ec3,F3⟩:=U2 x.fr;obtain ⟨c4,ec4,F4⟩:=a10 g0 g1;have n1:(120:UInt8)∉apF p x:=b2f F3.nx (by rw [← ec3];exact b34 p x)
 have n2:(120:UInt8)∉apR p x:=b2f F4.nx (by rw [← ec4];exact b35 p x)
 have key:(120:UInt8)∈E7 p x↔(120:UInt8)∈tk:=by
  have:=yM (fun l=>(120:UInt8)∈l) h2;simp only [zr,ec,ec2,zY] at this;have l3':¬ (120:UInt8)=c:=fun e=>l3 e.symm;have l5':¬ (120:UInt8)=c2:=fun e=>l5 e.symm;simp only [n1,n2,hA,l3',l5',false_or] at this;exact this▸Iff.rfl
 rcases b0T p x with e|e<;>rcases htk with f|f<;>rw [e,f] at key ⊢
 ·simp at key
 ·simp at key
theorem b0Z {p:g9} (hI:B7 p) {k:Int} {m:Mv} (k1:1≤k) (k5:k≤5) (f0:0≤m.fr) (f1:m.fr≤63) (t0:0≤m.to) (t1:m.to≤63) {fo ro tk:Tx} (hf:fo=[]∨fo=v8 m.fr) (hr:ro=[]∨ro=B6 m.fr) (htk:tk=[]∨tk=[120])
  (hne:∀ x∈p9 p,x.to=m.to→a0B (sq p x.fr)≠6→E7 p x≠tk):Bad p (a2t k++(fo++ro)++tk++sqT m.to):=by
 obtain ⟨c,ec,l1,_,l3,l4⟩:=a1q k1 k5;obtain ⟨f,ef,F⟩:=U2 m.to;obtain ⟨r,er,R⟩:=a10 t0 t1;obtain ⟨c3,ec3,F3⟩:=U2 m.fr;obtain ⟨c4,ec4,F4⟩:=a10 f0 f1;have n1:(120:UInt8)∉fo:=b2f F3.nx (by rw [← ec3];exact hf)
 have n2:(120:UInt8)∉ro:=b2f F4.nx (by rw [← ec4];exact hr)
 have hz:=a33 (o1:=a2t k) (o2:=fo) (o3:=ro) (x:=tk) (pr:=[]) (sg:=[]) (.inr ⟨c,ec,l1⟩) (b2c hf) (b2d f0 f1 hr) htk F R (.inl rfl) T9;refine a4l (q:=⟨a2t k,fo,ro,tk,[f],[r],[],[]⟩) (by rw [sq2 t0 t1,ef,er];simpa using hz) fun x hx h=>?_
 have like:=fun {A:Tx} hA h=>b5m (A:=A) hI hx k1 k5 t0 t1 hA htk h;have fin:∀ {A:Tx},(120:UInt8)∉A→body p x=a2t k++A++tk++(v8 m.to++B6 m.to)→False:=fun hA h=>by
  obtain ⟨a,b,c⟩:=like hA h;exact hne x hx b a c
 rw [ef,er] at fin;unfold fits a0C at h;rw [zM (show a2t k≠[] by rw [ec];simp)] at h
 unfold N4 at h;simp only [zn,yV,zy,xH] at h;rcases h with h|h|h|h
 ·exact fin (A:=fo++ro) (by simp [n1,n2]) (by rw [← h];simp)
 ·exact fin (A:=[]) (by simp) (by rw [h];simp)
 ·exact fin (A:=ro) n2 (by rw [h];simp)
 ·exact fin (A:=fo) n1 (by rw [h];simp)
theorem c6h {p:g9} (hI:B7 p) {fo ro tk pr:Tx} {f r:UInt8} (h2:fo=[]∨∃ c,fo=[c]∧a1z c) (h3:ro=[]∨∃ c,ro=[c]∧b0b c) (hx:tk=[]∨tk=[120]) (hf:a1z f) (hr:b0b r) (hp:pr=[]∨∃ c,pr=[61,c]∧E2 a7W c=true):Bad p ([80]++fo++ro++tk++[f]++[r]++pr):=by
 have hz:=a33 (o1:=[80]) (sg:=[]) (.inr ⟨80,rfl,zd⟩) h2 h3 hx hf hr hp T9;rw [zn] at hz;refine a4l hz fun x hx h=>?_;have hd:∃ z,body p x=80::z:=by
  unfold fits a0C at h;rw [zM (show ([80]:Tx)≠[] by simp)] at h
  unfold N4 at h;simp only [yV,zy,xH] at h;rcases h with h|h|h|h
  ·exact ⟨_,h.symm⟩
  ·exact ⟨_,h⟩
  ·exact ⟨_,h⟩
  ·exact ⟨_,h⟩
 obtain ⟨z,hz⟩:=hd;obtain ⟨g0,g1,s0,s1,_⟩:=A3 hI hx;rcases a2A hI hx with ⟨k,hk,e⟩|⟨e,hp,hk⟩|⟨e,hp,k1,k5,_⟩
 ·rw [a4j hk e] at hz;split at hz<;>cases hz
 ·obtain ⟨c,r,ed,hd⟩:=a4K hI hx;have hc:c=80:=by rw [ed] at hz;exact (yv hz).1
  subst hc;rcases hd with ⟨e,_⟩|⟨e,_⟩|⟨_,_,_,e⟩
  ·cases e
  ·exact absurd e.f zd
  ·exact absurd hk e
 ·rw [a2r e zo g0 g1 s0 s1] at hz;obtain ⟨c,ec,hc⟩:=b7P k1 k5;rw [ec] at hz;exact hc (yv hz).1
theorem a4O {p:g9} (hI:B7 p) {x:Mv} (hx:x∈p9 p) {c:UInt8} {z:Tx} (hc:a1z c) (h:body p x=c::z):a0U p x=0∧a0B (sq p x.fr)=6∧H3 p x:=by
 obtain ⟨d,r,ed,hd⟩:=a4K hI hx;have hcd:d=c:=by rw [ed] at h;exact (yv h).1
 subst hcd;rcases hd with ⟨e,_⟩|⟨_,h1,h2⟩|⟨e,_⟩
 ·subst e;exact absurd hc.f zd
 ·refine ⟨h1,h2,?_⟩;rcases a2A hI hx with ⟨k,hk,hh⟩|⟨_,hq,_⟩|⟨_,hq,_⟩
  ·omega
  ·exact hq
  ·exact hq
 ·exact (a6y e hc).elim
theorem b2g {p:g9} (hI:B7 p) {m:Mv} (t0:0≤m.to) (t1:m.to≤63) (hp:a5C m=[]∨∃ c,a5C m=[61,c]∧E2 a7W c=true):Bad p (v8 m.fr++sqT m.to++a5C m):=by
 obtain ⟨f,ef,F⟩:=U2 m.to;obtain ⟨r,er,R⟩:=a10 t0 t1;obtain ⟨c3,ec3,F3⟩:=U2 m.fr;have hz:=a33 (o1:=[]) (o2:=[c3]) (o3:=[]) (x:=[]) (sg:=[]) (.inl rfl) (.inr ⟨c3,rfl,F3⟩) (.inl rfl) (.inl rfl) F R hp T9;refine a4l (q:=⟨[],[c3],[],[],[f],[r],a5C m,[]⟩) (by rw [sq2 t0 t1,ef,er,ec3];simpa using hz) fun x hx h=>?_
 have h:body p x=c3::f::r::a5C m:=by
  unfold fits a0C at h;rw [zJ (by simp),zJ (by simp),zJ (by simp)] at h
  unfold N4 at h;simpa [eq_comm] using h
 obtain ⟨g0,g1,s0,s1,_⟩:=A3 hI hx;obtain ⟨h1,h2,_⟩:=a4O hI hx F3 h;rw [a08 h1 h2 s0 s1] at h;obtain ⟨d,ed,D⟩:=U2 x.to;obtain ⟨e,ee,E⟩:=a10 s0 s1;obtain ⟨d3,ed3,D3⟩:=U2 x.fr;rw [ed,ee,ed3] at h;split at h
 ·exact F.nx (yv (yv h).2).1.symm
 ·have:=(yv (yv h).2).1;subst this;exact absurd (E.f.symm.trans F.f) zd
theorem a4m {p:g9} (hI:B7 p) {m:Mv} (hm:m∈p9 p) (hpr:0<m.promo):Bad p ((if a1r p m then v8 m.fr++[120] else [])++sqT m.to):=by
 obtain ⟨f0,f1,t0,t1,hpm⟩:=A3 hI hm;have hmP:a0B (sq p m.fr)=6∧l8 m.to=7-7*p.turn:=by
  rcases a2A hI hm with ⟨k,hk,h⟩|⟨h,hp,hk⟩|⟨h,hp,k1,k5,h0⟩
  ·rcases hpm with e|⟨_,_,e⟩
   ·omega
   ·unfold a0U at h;rw [zM zo] at h;omega
  ·rcases hp.promo with ⟨e,_⟩|⟨_,_,e1,e2⟩
   ·omega
   ·exact ⟨e1,e2⟩
  ·omega
 obtain ⟨f,ef,F⟩:=U2 m.to;obtain ⟨r,er,R⟩:=a10 t0 t1;obtain ⟨c3,ec3,F3⟩:=U2 m.fr;have key:∀ x∈p9 p,body p x≠(if a1r p m then v8 m.fr++[120] else [])++sqT m.to:=by
  intro x hx h;obtain ⟨g0,g1,s0,s1,hpx⟩:=A3 hI hx;have hq:a0U p x=0∧a0B (sq p x.fr)=6∧H3 p x:=by
   rw [sq2 t0 t1,ef,er,ec3] at h;split at h
   ·exact a4O hI hx F3 h
   ·exact a4O hI hx F h
  obtain ⟨h1,h2,hP⟩:=hq;obtain ⟨d,ed,D⟩:=U2 x.to;obtain ⟨e,ee,E⟩:=a10 s0 s1;obtain ⟨d3,ed3,D3⟩:=U2 x.fr;have hto:d=f→e=r→x.to=m.to:=fun a b=>by
   have q1:=a3f (a:=x.to) (b:=m.to) (by rw [ed,ef,a])
   have q2:=a4g s0 s1 t0 t1 (by rw [ee,er,b])
   omega
  have hpz:x.to=m.to→a5C x=[]→False:=fun a b=>by
   rcases hP.promo with ⟨_,h⟩|⟨e1,_⟩
   ·exact h ⟨h2,by rw [a];exact hmP.2⟩
   ·unfold a5C at b;rw [zJ zo] at b;cases b
  rw [a08 h1 h2 s0 s1,sq2 t0 t1,ef,er,ec3,ed,ee,ed3] at h;by_cases tm:a1r p m=true<;>by_cases tx:a1r p x=true
  ·rw [zM tm,zM tx] at h;simp only [yX,yP,xB,true_and] at h;exact hpz (hto h.2.1 h.2.2.1) h.2.2.2
  ·rw [zM tm,zJ tx] at h;simp only [yX,yP,xB] at h;exact E.nx h.2.1
  ·rw [zJ tm,zM tx] at h;simp only [yX,yP,xB] at h;exact R.nx h.2.1.symm
  ·rw [zJ tm,zJ tx] at h;simp only [yX,yP,xB] at h;exact hpz (hto h.1 h.2.1) h.2.2
 by_cases tm:a1r p m=true
 ·rw [zM tm] at key ⊢;have hz:=a33 (o1:=[]) (o2:=[c3]) (o3:=[]) (x:=[120]) (pr:=[]) (sg:=[]) (.inl rfl) (.inr ⟨c3,rfl,F3⟩) (.inl rfl) (.inr rfl) F R (.inl rfl) T9;refine a4l (q:=⟨[],[c3],[],[120],[f],[r],[],[]⟩) (by rw [sq2 t0 t1,ef,er,ec3];simpa using hz) fun x hx h=>key x hx ?_
  rw [sq2 t0 t1,ef,er,ec3];unfold fits a0C at h;rw [zJ (by simp),zM (by simp),zJ (by simp)] at h
  unfold N4 at h;simpa [eq_comm] using h
 ·rw [zJ tm] at key ⊢;have hz:=a33 (o1:=[]) (o2:=[]) (o3:=[]) (x:=[]) (pr:=[]) (sg:=[]) (.inl rfl) (.inl rfl) (.inl rfl) (.inl rfl) F R (.inl rfl) T9;refine a4l (q:=⟨[],[],[],[],[f],[r],[],[]⟩) (by rw [sq2 t0 t1,ef,er];simpa using hz) fun x hx h=>key x hx ?_
  rw [sq2 t0 t1,ef,er];unfold fits a0C at h;rw [zJ (by simp),zJ (by simp),zJ (by simp)] at h
  unfold N4 at h;simpa [eq_comm] using h
theorem b67 {c:UInt8} {t:Tx} (h1:E2 G2 c=false) (h2:E2 K6 c=false) (h3:E2 H4 c=false) (h4:E2 [120] c=false) (h5:c≠79):zzP (c::t)=none:=by
 have hf:a0Q (c::t)=none:=by simp [a0Q,b2b,b2a,b1Z,b0a,a0V,oneN, *]
 unfold zzP;rw [hf];have n5:¬ ((c::t).take 5=oooS∧G5 ((c::t).drop 5)=true):=fun h=>h5 (yv h.1).1;have n3:¬ ((c::t).take 3=ooS∧G5 ((c::t).drop 3)=true):=fun h=>h5 (yv h.1).1;simp only [zJ n5,zJ n3]
theorem a9J {c:UInt8} {t:Tx} (h:E2 a7G c=false) (h2:c≠101):G5 (c::t)=false:=by
 rw [G5,h,zJ (by simp),zJ]
 intro e;rw [xh] at e;exact h2 (yv e).1
theorem c2E:∀ c∈a7W,E2 a7G c=false∧c≠101∧c≠120∧E2 K6 c=false∧E2 H4 c=false∧E2 [120] c=false∧E2 [61] c=false:=by decide
theorem b3D {pre:Tx} {f r c:UInt8} (hpre:pre=[]∨∃ d,pre=[d,120]∧a1z d) (hf:a1z f) (hr:b0b r) (hc:E2 a7W c=true):zzP (pre++[f,r,c])=none:=by
 obtain ⟨y1,y2,y0,y3,y4,y5,y6⟩:=c2E c (a3e.1 hc);have ht:=a9J (t:=[]) y1 y2;have hff:=hf.f;have hfl:=hf.l;have hfd:=hf.d;have hfx:=hf.x;have hfe:=hf.e;have hrf:=hr.f;have hrl:=hr.l;have hrd:=hr.d;have hrx:=hr.x;have hre:=hr.e;have k1:E2 K6 120=false:=by decide
 have k2:E2 H4 120=false:=by decide
 have k3:E2 G2 120=false:=by decide
 have k7:E2 [120] 120=true:=by decide
 have f79:f≠79:=fun e=>by subst e;exact absurd hf.f zd
 rcases hpre with rfl|⟨d,rfl,D⟩
 ·have hz:a0Q ([]++[f,r,c])=none:=by simp [a0Q,b2b,b2a,b1Z,b0a,b1Y,a0V,oneN,a6w, *]
  unfold zzP;rw [hz];have n5:¬ (([]++[f,r,c]:Tx).take 5=oooS∧G5 (([]++[f,r,c]:Tx).drop 5)=true):=fun h=>f79 (yv h.1).1;have n3:¬ (([]++[f,r,c]:Tx).take 3=ooS∧G5 (([]++[f,r,c]:Tx).drop 3)=true):=fun h=>f79 (yv h.1).1;simp only [zJ n5,zJ n3]
 ·have d79:d≠79:=fun e=>by subst e;exact absurd D.f zd
  have hdf:=D.f;have hdl:=D.l;have hdd:=D.d;have hdx:=D.x;have hz:a0Q ([d,120]++[f,r,c])=none:=by simp [a0Q,b2b,b2a,b1Z,b0a,b1Y,a0V,oneN,a6w, *]
  unfold zzP;rw [hz];have n5:¬ (([d,120]++[f,r,c]:Tx).take 5=oooS∧G5 (([d,120]++[f,r,c]:Tx).drop 5)=true):=fun h=>d79 (yv h.1).1;have n3:¬ (([d,120]++[f,r,c]:Tx).take 3=ooS∧G5 (([d,120]++[f,r,c]:Tx).drop 3)=true):=fun h=>d79 (yv h.1).1;simp only [zJ n5,zJ n3]
def b66 (p:g9) (m:Mv) (k:Int):Tx :=
 if k=0 then (if a1r p m&&decide (a0B (sq p m.fr)=6) then v8 m.fr++sqT m.to++a5C m else if a1r p m then a2t (a0B (sq p m.fr))++apart p m++sqT m.to else [])
 else if k=1 then (if !a1r p m && !decide (a0B (sq p m.fr)=6)&&decide (a0U p m=0) then a2t (a0B (sq p m.fr))++apart p m++[120]++sqT m.to else [])
 else if k=2 then (if decide (0<m.promo)&&a1r p m then v8 m.fr++[120]++sqT m.to else if 0<m.promo then sqT m.to else [])
 else if k=3 then (if a0U p m=1 then [48,45,48] else if a0U p m=2 then [48,45,48,45,48] else [])
 else if k=4 then (if a0B (sq p m.fr)=6 then 80::body p m else [])
 else if k=5 then (if 0<m.promo then (body p m).take ((body p m).length-2)++(body p m).drop ((body p m).length-1) else [])
 else if k=6 then (if !decide (a0B (sq p m.fr)=6) && !decide (a0B (sq p m.fr)=4)&&decide (a0U p m=0) then a16 (a0B (sq p m.fr))++apart p m++sqT m.to else [])
 else []
def a9U (i:Nat):Tx:=if i=0 then [] else if i=1 then [101,57] else if i=2 then [90,102,51] else if i=3 then [78,102] else if i=4 then [79,45,79,45,79,45,79] else if i=5 then [46,46] else [49,45,48]
theorem a1H {p:g9}:Bad p []:=a0k zd
theorem b7Q {p:g9} (hI:B7 p) {m:Mv} (hm:m∈p9 p) (k:Int):Bad p (b66 p m k):=by
 obtain ⟨f0,f1,t0,t1,hpm⟩:=A3 hI hm;have hpro:=c0a hI hm;have kd:1≤a0B (sq p m.fr)∧a0B (sq p m.fr)≤6:=by
  rcases a2A hI hm with ⟨k,hk,h⟩|⟨h,hp,hk⟩|⟨h,hp,k1,k5,h0⟩
  ·have:a0B (sq p m.fr)=1:=yl fun e=>by unfold a0U at h;rw [zM e] at h;omega
   omega
  ·omega
  ·omega
 have pawn_of:0<m.promo→a0U p m=0∧a0B (sq p m.fr)=6:=fun h0=>by
  have hk:a0B (sq p m.fr)=6:=by rcases hpm with e|⟨_,_,e⟩<;>omega
  exact ⟨by unfold a0U;rw [zM zo],hk⟩
 unfold b66;split
 ·split
  ·exact b2g hI t0 t1 hpro
  ·rename_i h6;split
   ·rename_i tm;have h6:a0B (sq p m.fr)≠6:=fun e=>h6 (by rw [tm,zX e];rfl)
    have:=b0Z hI (k:=a0B (sq p m.fr)) (m:=m) kd.1 zo f0 f1 t0 t1 (tk:=[]) (b34 p m) (b35 p m) (.inl rfl) (fun x _ hto hk e=>by
     have h1:=a2B hk;rw [hto,← a2B h6,tm] at h1;unfold E7 at e;rw [zM h1] at e;cases e)
    rw [a4h f0 f1];simpa using this
   ·exact a1H
 ·split
  ·split
   ·rename_i h;simp only [zP,zc,zZ] at h;obtain ⟨⟨tm,h6⟩,_⟩:=h;have:=b0Z hI (k:=a0B (sq p m.fr)) (m:=m) kd.1 zo f0 f1 t0 t1 (tk:=[120]) (b34 p m) (b35 p m) (.inr rfl) (fun x _ hto hk e=>by
     have h1:=a2B hk;rw [hto,← a2B h6,tm] at h1;unfold E7 at e;rw [zJ (by rw [h1];simp)] at e;cases e)
    rw [a4h f0 f1];exact this
   ·exact a1H
  ·split
   ·split
    ·rename_i h;simp only [zP,zW] at h;have:=a4m hI hm h.1;rw [zM h.2] at this;exact this
    ·rename_i h;split
     ·rename_i h0;have:=a4m hI hm h0;rw [zJ (fun e=>h (by rw [e,zX h0];rfl))] at this
      exact this
     ·exact a1H
   ·split
    ·split
     ·exact a0k zd
     ·split
      ·exact a0k zd
      ·exact a1H
    ·split
     ·split
      ·rename_i hk;have hc:a0U p m=0:=by unfold a0U;rw [zM zo]
       obtain ⟨f,ef,F⟩:=U2 m.to;obtain ⟨r,er,R⟩:=a10 t0 t1;obtain ⟨c3,ec3,F3⟩:=U2 m.fr;have:=c6h hI (fo:=if a1r p m then [c3] else []) (ro:=[]) (tk:=E7 p m) (by split<;>simp [F3]) (.inl rfl) (b0T p m) F R hpro
       rw [a08 hc hk t0 t1,ef,er,ec3];unfold E7 at this;cases tm:a1r p m<;>rw [tm] at this<;>simpa using this
      ·exact a1H
     ·split
      ·split
       ·rename_i h0;obtain ⟨hc,hk⟩:=pawn_of h0;obtain ⟨f,ef,F⟩:=U2 m.to;obtain ⟨r,er,R⟩:=a10 t0 t1;obtain ⟨c3,ec3,F3⟩:=U2 m.fr;obtain ⟨c,ec,C⟩:∃ c,a5C m=[61,c]∧E2 a7W c=true:=by
         rcases hpro with e|e
         ·unfold a5C at e;rw [zJ zo] at e;cases e
         ·exact e
        rw [a08 hc hk t0 t1,ef,er,ec3,ec];have:=a0k (p:=p) (b3D (pre:=if a1r p m then [c3,120] else []) (by split<;>simp [F3]) F R C)
        cases tm:a1r p m<;>rw [tm] at this<;>simpa using this
       ·exact a1H
      ·split
       ·split
        ·rename_i h;simp only [zP,zc,zZ] at h;obtain ⟨⟨h6,h4⟩,_⟩:=h;refine a0k ?_;rcases (by omega:a0B (sq p m.fr)=1∨a0B (sq p m.fr)=2∨a0B (sq p m.fr)=3∨a0B (sq p m.fr)=5) with e|e|e|e<;>rw [e]<;>exact b67 zd zd zd zd zd
        ·exact a1H
       ·exact a1H
theorem c2F {p:g9} (hI:B7 p) (i:Nat):Bad p (a9U i):=by
 unfold a9U;split
 ·exact a1H
 ·split
  ·intro q hq x hx h;have hz:zzP [101,57]=some ⟨[],[],[],[],[101],[57],[],[]⟩:=by
    have:G5 []=true:=T9;simp [zzP,a0Q,b2b,b2a,b1Z,b0a,b1Y,a0V,oneN,a6w,b5e,X7,E2,K6,H4,G2,this]
   rw [hz] at hq;cases hq;have h:body p x=[101,57]:=by
    unfold fits a0C at h;rw [zJ (by simp),zJ (by simp),zJ (by simp)] at h
    unfold N4 at h;simpa [eq_comm] using h
   obtain ⟨g0,g1,s0,s1,_⟩:=A3 hI hx;obtain ⟨h1,h2,_⟩:=a4O hI hx (b0S 4 zd) h;rw [a08 h1 h2 s0 s1] at h;split at h
   ·have:=(yv (yv h).2).1;cases this
   ·have h3:=(yv (yv h).2).1;have:=a7f (b:=57) zo zd h3;omega
  ·split
   ·exact a0k (b67 zd zd zd zd zd)
   ·split
    ·exact a0k zd
    ·split
     ·refine a0k ?_;have hf:a0Q [79,45,79,45,79,45,79]=none:=by decide
      have t1:G5 [45,79]=false:=a9J zd zd;have t2:G5 [45,79,45,79]=false:=a9J zd zd;unfold zzP;rw [hf];simp [t1,t2]
     ·split
      ·exact a0k zd
      ·exact a0k zd
end Ch
end
section
open Go Go.RowKit
open E
open Ch
theorem b7R {C:World→Prop} {l:Tx} {s:ByteArray} {k:IntKind} {a:Int} {x lo:Operand} {dst:Option Nat} {ty:Nat} {pos:String} {af:Array Edge} {gd:Option (Nat×Bool)} {env:C9} {K:Value→Prop}
  (r:Tx) (hx:ev env x = .string s) (hh:ev env lo = .int k a) (hs:s=tx l) (h0:0≤a) (h2:a≤l.length) (hr:l.drop a.toNat=r) (h:K (m7 r)) :
  a68 G.P C { dst,op:=.slice 9 x (some lo) none none,type:=ty,pos,after:=af,guard:=gd } env K:=by
 subst hs;refine ⟨_,fun w _=>?_,h⟩;show (do pure (Next.value (← Instr.slice 9 (ev env x) (some (ev env lo)) none none)):Sem Next).run G.P w=_
 rw [hx,hh,yq,run_slice_string_l (P:=G.P) w 9 _ a9X _ _ h0 (by rw [C5];exact h2),tx,ByteArray.extract_mk]
 rw [← hr,show (⟨l.toArray⟩:ByteArray).size=l.length from C5 l,wW (by simp)];rfl
theorem c6i (a:Tx):tx a++(⟨#[120]⟩:ByteArray)=tx (a++[120]):=A6 a [120]
theorem b3E (k:Int):(a16 k).length≤1:=by unfold a16;(repeat' split)<;>simp
theorem b5n (p:g9) (m:Mv) (k:Int):(b66 p m k).length≤20:=by
 have h1:=W8 m.fr;have h2:=W8 m.to;have h3:=L7 (a0B (sq p m.fr));have h4:=a4C p m;have h5:=a1g m;have h6:=b3E (a0B (sq p m.fr));have h7:=a6b p m;have h8:(v8 m.fr).length=1:=rfl;unfold b66;(repeat' split)<;>(try simp only [zF,zh,za,yh,yj])<;>(try omega)<;>exact xJ _
theorem b5o (p:g9) (m:Mv) (hI:Ch.B7 p) (hm:m∈Ch.p9 p):1≤a0B (sq p m.fr)∧a0B (sq p m.fr)≤6:=by
 rcases Ch.a2A hI hm with ⟨k,hk,h⟩|⟨h,hp,hk⟩|⟨h,hp,k1,k5,h0⟩
 ·have:a0B (sq p m.fr)=1:=yl fun e=>by unfold a0U at h;rw [zM e] at h;omega
  omega
 ·omega
 ·omega
set_option maxHeartbeats 2000000 in
theorem b5p (p:g9) (hI:Ch.B7 p) (hN:Nm p) (m:Mv) (hm:m∈Ch.p9 p) (k:Int) (k0:0≤k) (k6:k≤6) (w:World):Calls G.P 69 #[F5 p,mvV m,.int .i64 k] w (N0 (m7 (b66 p m k)) w):=by
 have hmo:=a0n hI hm;have hpc:=hI.pc;have hmo':=hmo;obtain ⟨⟨a0,a1⟩,⟨b0,b1⟩,d0,d1⟩:=hmo';refine zN func69 ?_;refine zG ?_;generalize hW:(w.alloc (.cells (t8 p) 24)).alloc (.cells (Z3 m) 36)=W0;have hP:∀ w',Cl W0 w'→w'.heap[w.heap.size]?=some (.cells (t8 p) 24 (0,0)):=fun w' h=>hP2 (hW▸h);have hM:∀ w',Cl W0 w'→w'.heap[(w.alloc (.cells (t8 p) 24)).heap.size]?=some (.cells (Z3 m) 36 (0,0)):=fun w' h=>hM2 (hW▸h);have hE:∀ w',Cl W0 w'→Cl w w':=fun w' h=>hE2 (hW▸h);have z:=Cl.refl W0;refine zR ?_;refine b7 _ (O1 (hM _ z)) (zR ?_);refine zC ?_;refine zR ?_;refine b7 _ (P5 (hP _ z) _ zo zo) (zR ?_);refine g7 (O5 _ _ (Pc.lo hpc _) (Pc.hi hpc _)) ?_;have q1:=fun w=>a1D p hpc m hmo w;have q2:=fun w=>a3z p hpc m hmo w;have q3:=fun w=>U1 m.to zo zo w;have q4:=fun w=>a9f p hI hN m hm w;have q5:=fun w=>b05 p hI hN m hm w;have q6:=fun w=>a2H m w;have q7:=fun w=>a41 _ a0 a1 w;have q8:=fun w=>a25 (a0B (sq p m.fr)) w;have hl1:=a4C p m;have hl3:=a1g m;have hl4:=W8 m.to;have hl5:=L7 (a0B (sq p m.fr));have hl6:(v8 m.fr).length=1:=rfl;have hl7:=a6b p m;have hl8:=b3E (a0B (sq p m.fr));have kd:=b5o p m hI hm;have bl:0<m.promo→2≤(body p m).length:=fun h=>by
  have:=(A3 hI hm).2.2.2.2;have hk:a0B (sq p m.fr)=6:=by omega
  have hs:(sqT m.to).length=2:=by rw [sq2 b0 b1];rfl
  unfold body a0U;rw [zM (show a0B (sq p m.fr)≠1 by omega),zJ zd,zJ zd,zM hk]
  simp only [zF];omega
 have hB:b66 p m k=if k=0 then (if a1r p m&&decide (a0B (sq p m.fr)=6) then v8 m.fr++sqT m.to++a5C m else if a1r p m then a2t (a0B (sq p m.fr))++apart p m++sqT m.to else [])
  else if k=1 then (if !a1r p m && !decide (a0B (sq p m.fr)=6)&&decide (a0U p m=0) then a2t (a0B (sq p m.fr))++apart p m++[120]++sqT m.to else [])
  else if k=2 then (if decide (0<m.promo)&&a1r p m then v8 m.fr++[120]++sqT m.to else if 0<m.promo then sqT m.to else [])
  else if k=3 then (if a0U p m=1 then [48,45,48] else if a0U p m=2 then [48,45,48,45,48] else [])
  else if k=4 then (if a0B (sq p m.fr)=6 then 80::body p m else [])
  else if k=5 then (if 0<m.promo then (body p m).take ((body p m).length-2)++(body p m).drop ((body p m).length-1) else [])
  else if k=6 then (if !decide (a0B (sq p m.fr)=6) && !decide (a0B (sq p m.fr)=4)&&decide (a0U p m=0) then a16 (a0B (sq p m.fr))++apart p m++sqT m.to else [])
  else []:=rfl
 generalize b66 p m k=WT at *;generalize a0B (sq p m.fr)=K at *;generalize a0U p m=C at *;generalize a1r p m=tk at *;generalize body p m=B at *;generalize apart p m=A at *;generalize a2t K=L at *;generalize sqT m.to=S at *;generalize a5C m=Q at *;refine zR ?_;refine zK 6 ?_;refine zR ?_;refine l9 _ (fun w hw=>A4 (hP _ hw)) (zR ?_);refine l9 _ (fun w hw=>V5 (hM _ hw)) (zR ?_);refine D6 (.int .i64 C) (fun _ _ h=>h.trans) (fun w _=>q1 w) (zR ?_);refine l9 _ (fun w hw=>A4 (hP _ hw)) (zR ?_);refine l9 _ (fun w hw=>V5 (hM _ hw)) (zR ?_);refine D6 (.bool tk) (fun _ _ h=>h.trans) (fun w _=>q2 w) (zR ?_);intro w1 c1;refine zR ?_;refine b7 _ (a0v (hM _ c1)) (zR ?_);refine o7 (q3 _) fun w2 c2=>?_;have c2:=c1.trans c2;rcases (by omega:k=0∨k=1∨k=2∨k=3∨k=4∨k=5∨k=6) with rfl|rfl|rfl|rfl|rfl|rfl|rfl
 ·rw [zM rfl] at hB;cases tk
  ·refine zR ?_;exact ⟨B9 (by rw [hB];rfl),hE _ c2⟩
  refine zR ?_;apply E.d7<;>intro h
  ·rw [zX h] at hB;clear h;refine zR ?_;refine zK 8 ?_;refine zR ?_;refine l9 _ (fun w hw=>O1 (hM _ (c2.trans hw))) (zR ?_);refine D6 _ (fun _ _ h=>h.trans) (fun w _=>q7 w) (zR ?_);refine E.A1 (y9 zo) ?_;rw [A6];refine zR ?_;refine l9 _ (fun w hw=>V5 (hM _ (c2.trans hw))) (zR ?_);refine D6 (m7 Q) (fun _ _ h=>h.trans) (fun w _=>q6 w) (zR ?_);refine E.A1 (y9 (by rw [zF];omega)) ?_
   rw [A6];refine zR ?_;intro w4 c4;refine zR ?_;exact ⟨B9 (by rw [hB];rfl),hE _ (c2.trans c4)⟩
  ·rw [zV h] at hB;clear h;refine zR ?_;refine zK 8 ?_;refine zR ?_;refine D6 (m7 L) (fun _ _ h=>h.trans) (fun w _=>q8 w) (zR ?_);refine l9 _ (fun w hw=>A4 (hP _ (c2.trans hw))) (zR ?_);refine l9 _ (fun w hw=>V5 (hM _ (c2.trans hw))) (zR ?_);refine D6 (m7 A) (fun _ _ h=>h.trans) (fun w _=>q4 w) (zR ?_);refine E.A1 (y9 zo) ?_;rw [A6];refine zR ?_;refine E.A1 (y9 (by rw [zF];omega)) ?_
   rw [A6];refine zR ?_;intro w4 c4;refine zR ?_;exact ⟨B9 (by rw [hB];rfl),hE _ (c2.trans c4)⟩
 ·rw [zJ zd,zM rfl] at hB;cases tk;rotate_left
  ·refine zR ?_;exact ⟨B9 (by rw [hB];rfl),hE _ c2⟩
  refine zR ?_;apply E.y8<;>intro h;rotate_left
  ·rw [zX h] at hB;refine zR ?_;exact ⟨B9 (by rw [hB];rfl),hE _ c2⟩
  rw [zV h] at hB;clear h;refine zR ?_;apply E.d7<;>intro h
  ·rw [zX h] at hB;clear h;refine zR ?_;refine zK 9 ?_;refine zR ?_;refine D6 (m7 L) (fun _ _ h=>h.trans) (fun w _=>q8 w) (zR ?_);refine l9 _ (fun w hw=>A4 (hP _ (c2.trans hw))) (zR ?_);refine l9 _ (fun w hw=>V5 (hM _ (c2.trans hw))) (zR ?_);refine D6 (m7 A) (fun _ _ h=>h.trans) (fun w _=>q4 w) (zR ?_);refine E.A1 (y9 zo) ?_;rw [A6];refine zR ?_;refine E.A1 (y9 (y:=[120]) (by simp only [zF,zh,za];omega)) ?_
   rw [c6i];refine zR ?_;refine E.A1 (y9 (x:=L++A++[120]) (by simp only [zF,zh,za];omega)) (zR ?_)
   intro w4 c4;refine zR ?_;exact ⟨B9 (by rw [hB];simp only [A6];rfl),hE _ (c2.trans c4)⟩
  ·rw [zV h] at hB;refine zR ?_;exact ⟨B9 (by rw [hB];rfl),hE _ c2⟩
 ·rw [zJ zd,zJ zd,zM rfl] at hB;refine zR ?_;refine b7 _ (U4 (hM _ c2)) (zR ?_);apply E.d7<;>intro h
  ·rw [zX h,zM h] at hB;have h0:=h;clear h;cases tk
   ·refine zR ?_;(repeat (refine E.A0 h0 ?_;refine zR ?_))
    refine b7 _ (U4 (hM _ c2)) (zR ?_);(repeat (refine E.A0 h0 ?_;refine zR ?_))
    exact ⟨B9 (by rw [hB];rfl),hE _ c2⟩
   ·refine zR ?_;(repeat (refine E.A0 h0 ?_;refine zR ?_))
    refine b7 _ (O1 (hM _ c2)) (zR ?_);refine o7 (q7 _) fun w3 c3=>?_;have c3:=c2.trans c3;refine zR ?_;rw [c6i];refine E.A1 (y9 (x:=v8 m.fr++[120]) (by simp only [zF,zh,za];omega)) (zR ?_)
    exact ⟨B9 (by rw [hB];simp only [A6];rfl),hE _ c3⟩
  ·rw [zV h,zJ h] at hB;have h0:=h;clear h;refine zR ?_;(repeat (refine E.o9 h0 ?_;refine zR ?_))
   refine b7 _ (U4 (hM _ c2)) (zR ?_);(repeat (refine E.o9 h0 ?_;refine zR ?_))
   exact ⟨B9 (by rw [hB];rfl),hE _ c2⟩
 ·rw [zJ zd,zJ zd,zJ zd,zM rfl] at hB;refine zR ?_;apply E.d7<;>intro h
  ·rw [zM h] at hB;refine zR ?_;exact ⟨B9 (by rw [hB];rfl),hE _ c2⟩
  rw [zJ h] at hB;clear h;refine zR ?_;apply E.d7<;>intro h
  ·rw [zM h] at hB;refine zR ?_;exact ⟨B9 (by rw [hB];rfl),hE _ c2⟩
  rw [zJ h] at hB;refine zR ?_;exact ⟨B9 (by rw [hB];rfl),hE _ c2⟩
 ·rw [zJ zd,zJ zd,zJ zd,zJ zd,zM rfl] at hB;refine zR ?_;apply E.d7<;>intro h
  ·rw [zM h] at hB;refine zR ?_;refine b7 _ (A4 (hP _ c2)) (zR ?_);refine b7 _ (V5 (hM _ c2)) (zR ?_);refine o7 (q5 _) fun w3 c3=>zR ?_;refine E.A1 (y9 (x:=[80]) (y:=B) (by simp;omega)) (zR ?_)
   exact ⟨B9 (by rw [hB];show tx [80]++tx B=_;rw [A6];rfl),hE _ (c2.trans c3)⟩
  rw [zJ h] at hB;refine zR ?_;exact ⟨B9 (by rw [hB];rfl),hE _ c2⟩
 ·rw [zJ zd,zJ zd,zJ zd,zJ zd,zJ zd,zM rfl] at hB;refine zR ?_;refine b7 _ (U4 (hM _ c2)) (zR ?_);apply E.d7<;>intro h
  ·rw [zM h] at hB;have hbl:=bl h;refine zR ?_;refine b7 _ (A4 (hP _ c2)) (zR ?_);refine b7 _ (V5 (hM _ c2)) (zR ?_);refine o7 (q5 _) fun w3 c3=>?_;have c3:=c2.trans c3;refine zR ?_;refine zK 11 ?_;have hsz:(tx B).size=B.length:=C5 _;refine zR ?_;rw [hsz];refine b0X (B.take (B.length-2)) rfl rfl rfl (by rw [g8 zo zo];omega) (by rw [g8 zo zo];omega) (by rw [g8 zo zo];congr 1;omega) (zR ?_)
   refine b7R (B.drop (B.length-1)) rfl rfl rfl (by rw [g8 zo zo];omega) (by rw [g8 zo zo];omega) (by rw [g8 zo zo];congr 1;omega) (zR ?_)
   refine E.A1 (y9 (by simp only [yh,yj];omega)) ?_
   rw [A6];refine zR ?_;intro w4 c4;refine zR ?_;exact ⟨B9 (by rw [hB]),hE _ (c3.trans c4)⟩
  rw [zJ h] at hB;refine zR ?_;exact ⟨B9 (by rw [hB];rfl),hE _ c2⟩
 ·rw [zJ zd,zJ zd,zJ zd,zJ zd,zJ zd,zJ zd,zM rfl] at hB;refine zR ?_;apply E.y8<;>intro h;rotate_left
  ·rw [zX h] at hB;refine zR ?_;exact ⟨B9 (by rw [hB];rfl),hE _ c2⟩
  rw [zV h] at hB;have h6:=h;clear h;refine zR ?_;(repeat (refine E.o9 h6 ?_;refine zR ?_))
  apply E.y8<;>intro h;rotate_left
  ·rw [zX h] at hB;refine zR ?_;exact ⟨B9 (by rw [hB];rfl),hE _ c2⟩
  rw [zV h] at hB;have h4:=h;clear h;refine zR ?_;(repeat (refine E.o9 h4 ?_;refine zR ?_))
  apply E.d7<;>intro h
  ·rw [zX h] at hB;clear h;rcases (by omega:K=1∨K=2∨K=3∨K=5) with rfl|rfl|rfl|rfl<;>(
   refine zR ?_;refine H7.mk3 (fun w'=>Cl w2 w') [1,4,5,8] (.cons 0 (.cons 2 (.cons 3 (.cons 6 (.cons 7 (.cons 9 (.cons 10 .done .nil) .nil) .nil) .nil) (.cons 6 (.cons 3 (.cons 7 (.cons 9 (.cons 10 .done .nil) .nil) .nil) .nil) .nil)) (.cons 6 (.cons 2 (.cons 3 (.cons 7 (.cons 9 (.cons 10 .done .nil) .nil) .nil) .nil) .nil) .nil)) (.cons 6 (.cons 0 (.cons 2 (.cons 3 (.cons 7 (.cons 9 (.cons 10 .done .nil) .nil) .nil) .nil) .nil) .nil) .nil)) (Cl.drew (Cl.refl _)) zk (zR ?_);refine l9 _ (fun w hw=>A4 (hP _ (c2.trans hw))) (zR ?_);refine l9 _ (fun w hw=>V5 (hM _ (c2.trans hw))) (zR ?_);have cD:Cl w2 w2.drew:=Cl.drew (Cl.refl _);iterate 40 (all_goals (first
    | exact trivial
    | refine And.intro c7 ?_
    | refine And.intro c6 ?_
    | refine And.intro c5 ?_
    | refine And.intro c4 ?_
    | exact ⟨B9 (by rw [hB];rfl),hE _ (c2.trans c7)⟩
    | exact ⟨B9 (by rw [hB];rfl),hE _ (c2.trans c6)⟩
    | refine And.intro ?_ ?_
    | (refine A8 elStr [m7 [],m7 [107],m7 [113],m7 [114],m7 [98],m7 [110]] (by rw [zb];rfl) (by intro v hv;simp only [yV,zy,xH] at hv;rcases hv with rfl|rfl|rfl|rfl|rfl|rfl<;>rfl) rfl zd zd ?_
       have n7:=d8 w4 (.cells (([m7 [],m7 [107],m7 [113],m7 [114],m7 [98],m7 [110]]:List Value).flatMap fun v=>v.cells.toList).toArray 9);have c7:=c4.trans (Cl.alloc w4 (.cells (([m7 [],m7 [107],m7 [113],m7 [114],m7 [98],m7 [110]]:List Value).flatMap fun v=>v.cells.toList).toArray 9));generalize w4.alloc (.cells (([m7 [],m7 [107],m7 [113],m7 [114],m7 [98],m7 [110]]:List Value).flatMap fun v=>v.cells.toList).toArray 9)=w7 at *)
    | (refine A8 elStr [m7 [],m7 [107],m7 [113],m7 [114],m7 [98],m7 [110]] (by rw [zb];rfl) (by intro v hv;simp only [yV,zy,xH] at hv;rcases hv with rfl|rfl|rfl|rfl|rfl|rfl<;>rfl) rfl zd zd ?_
       have n5:=d8 w2.drew (.cells (([m7 [],m7 [107],m7 [113],m7 [114],m7 [98],m7 [110]]:List Value).flatMap fun v=>v.cells.toList).toArray 9);have c5:=cD.trans (Cl.alloc w2.drew (.cells (([m7 [],m7 [107],m7 [113],m7 [114],m7 [98],m7 [110]]:List Value).flatMap fun v=>v.cells.toList).toArray 9));generalize w2.drew.alloc (.cells (([m7 [],m7 [107],m7 [113],m7 [114],m7 [98],m7 [110]]:List Value).flatMap fun v=>v.cells.toList).toArray 9)=w5 at *)
    | (refine o7 (q4 w5) fun w6 d6=>?_
       have n6:=d6.blk n5;have c6:=c5.trans d6)
    | (refine o7 (q4 w2.drew) fun w4 d4=>?_
       have c4:=cD.trans d4)
    | refine b7 _ (D9 n7 rfl rfl) ?_
    | refine b7 _ (D9 n6 rfl rfl) ?_
    | refine b7 _ (D9 n5 rfl rfl) ?_
    | (refine E.A1 (y9 (y:=A) (by simp only [zh,za];omega)) ?_
       rw [A6])
    | (refine E.A1 (y9 (y:=S) (by simp only [zF,zh,za];omega)) ?_
       rw [A6])
    | refine zR ?_)))
  ·rw [zV h] at hB;refine zR ?_;exact ⟨B9 (by rw [hB,Bool.and_false];rfl),hE _ c2⟩
end
section
open Go Go.RowKit
open E
open Ch Bb
structure Nb (b B:Nat) (w w':World):Prop where
 os:w'.os=w.os
 tape:w'.tape=w.tape
 output:w'.output=w.output
 size:B≤w'.heap.size
 else_:∀ k,k<B→k≠b→w'.heap[k]?=w.heap[k]?
section nb
variable {b B:Nat} {w w' w2:World}
theorem Nb.refl (b:Nat) (hB:B≤w.heap.size):Nb b B w w:=⟨rfl,rfl,rfl,hB,fun _ _ _=>rfl⟩
theorem Nb.trans (h:Nb b B w w') (h2:Nb b B w' w2):Nb b B w w2 :=
 ⟨h2.os.trans h.os,h2.tape.trans h.tape,h2.output.trans h.output,h2.size,fun k hk hn=>(h2.else_ k hk hn).trans (h.else_ k hk hn)⟩
theorem Nb.upd {o:Obj} (u:Upd w b o w') (hB:B≤w.heap.size):Nb b B w w':=⟨u.os,u.tape,u.output,by rw [u.size];exact hB,fun k _ hn=>u.else_ k hn⟩
theorem Nb.cl (h:Cl w w') (hB:B≤w.heap.size):Nb b B w w':=⟨h.os,h.tape,h.output,zw hB h.size,fun k hk _=>h.block k (xe hk hB)⟩
theorem Nb.blk (h:Nb b B w w') {k:Nat} {o:Obj} (hk:w.heap[k]?=some o) (hB:k<B) (hn:k≠b):w'.heap[k]?=some o:=by rw [h.else_ k hB hn];exact hk
theorem Nb.of (h:∀ w0:World,w0.heap.size=B→Cl w0 w→Cl w0 w') (hB:B≤w.heap.size):Nb b B w w':=by
 have e:(w.heap.extract 0 B).size=B:=by simp;omega
 have hc:Cl { w with heap:=w.heap.extract 0 B } w:=by
  refine ⟨rfl,rfl,rfl,?_,fun k hk=>?_⟩
  ·show (w.heap.extract 0 B).size≤_;omega
  ·have hk:k<(w.heap.extract 0 B).size:=hk;show w.heap[k]?=(w.heap.extract 0 B)[k]?;rw [Array.getElem?_extract,zM zo];simp
 have h2:=h _ e hc;refine ⟨h2.os,h2.tape,h2.output,by rw [← e];exact h2.size,fun k hk _=>?_⟩
 have:=h2.block k (by show k<(w.heap.extract 0 B).size;omega)
 rw [this];show (w.heap.extract 0 B)[k]?=_;rw [Array.getElem?_extract,zM zo];simp
end nb
structure Bw (b:Nat) (wr w:World) (l:Tx):Prop where
 is:∃ p v,(p = .pointer none∨p = .pointer (some ⟨b,0,none⟩))∧w.heap[b]?=some (.cells #[p,v] 160 (0,0))∧Row 5 1 a01 wr.heap.size w v l
 nb:Nb b wr.heap.size wr w
 lt:b<wr.heap.size
section bw
variable {b:Nat} {wr w w':World} {l:Tx}
theorem Bw.fresh (hk:w.heap[b]?=some (.cells #[.pointer none,.slice none 0 0] 160 (0,0))):Bw b w w []:=⟨⟨_,_,.inl rfl,hk,Row.nil _ _⟩,Nb.refl _ (yO _),A7 hk⟩
theorem Bw.step (h:Bw b wr w l) (c:Cl w w'):Bw b wr w' l:=by
 obtain ⟨p,v,hp,hk,hr⟩:=h.is;exact ⟨⟨p,v,hp,c.blk hk,hr.step c⟩,h.nb.trans (Nb.cl c h.nb.size),h.lt⟩
theorem a4P {p v:Value} (hk:w.heap[b]?=some (.cells #[p,v] 160 (0,0))) :
  Calls G.P 148 #[.pointer (some ⟨b,0,none⟩)] w (fun r w'=>r = .returned (.tuple #[])∧Upd w b (.cells #[.pointer none,.slice none 0 0] 160 (0,0)) w'):=by
 refine zN func148 ?_;refine zR ?_;refine zT hk [.pointer none] fun w2 u2=>?_;refine zR ?_;refine K2 u2.at_ [.slice none 0 0] rfl zk rfl (by intro v hv;simp at hv;subst hv;rfl) (zU rfl) fun w3 u3=>zR ?_
 exact ⟨rfl,u2.trans u3⟩
theorem r9 (s:Tx) (h:Bw b wr w l) (hl:l.length+s.length≤1000000) :
  Calls G.P 118 #[.pointer (some ⟨b,0,none⟩),m7 s] w (fun r w'=>r = .returned (.tuple #[.int .i64 s.length,.nilIface])∧Bw b wr w' (l++s)):=by
 obtain ⟨p,v,hp,hk,hr⟩:=h.is;have hs:(tx s).size=s.length:=C5 _;have hB:=h.nb.size;refine zN func118 ?_;refine zR ?_;refine m8 (a7B hp hk) ?_;rintro r w1 ⟨rfl,u1⟩;refine ⟨_,rfl,?_⟩;have hv:=hr.updT u1 hk zd;obtain ⟨av,cv,rfl,hav⟩:=hv.form;have hB1:wr.heap.size≤w1.heap.size:=by rw [u1.size];exact hB
 refine zR ?_;refine b7 _ (D9 u1.at_ rfl rfl) (zR ?_);refine a6k rfl hv rfl hl hB1 fun v' w2 hr2 hc2=>?_;have n2:Nb b wr.heap.size w1 w2:=Nb.of hc2 hB1;obtain ⟨a9,c9,rfl,_⟩:=hr2.form;have hk2:w2.heap[b]?=some (.cells #[.pointer (some ⟨b,0,none⟩),.slice av l.length cv] 160 (0,0)):=(Nb.of (b:=wr.heap.size) hc2 hB1).blk u1.at_ h.lt (Nat.ne_of_lt h.lt);refine zR ?_;refine zT hk2 [.slice a9 (l++s).length c9] fun w3 u3=>?_;refine zR ?_;rw [hs];exact ⟨rfl,⟨_,_,.inr rfl,u3.at_,hr2.updT u3 hk2 zd⟩,((h.nb.trans (Nb.upd u1 hB)).trans n2).trans (Nb.upd u3 n2.size),h.lt⟩
end bw
section gens
variable {dst:Option Nat} {ty:Nat} {pos:String} {af:Array Edge} {gd:Option (Nat×Bool)} {env:C9}
theorem c0j {C:World→Prop} {K:Value→Prop} {x:Operand} {ts:Array Nat} {a:Addr} {n c:Nat} (hx:ev env x = .slice (some a) n c) (hc:c≠0) (h:K (.pointer (some a))) :
  a68 G.P C { dst,op:=.call { callee:=.builtin .unsafeSliceData,args:=#[x],argTypes:=ts },type:=ty,pos,after:=af,guard:=gd } env K:=by
 refine ⟨_,fun w _=>?_,h⟩;simp only [execOp,resolve,invoke,builtin,yq,xi,yx,xW,yU,xn,hx,Lib.run_unsafeSliceData_row _ _ _ _ _ _ hc]
theorem c6j:G.P.underlying 221=some (.pointer 5):=by kernel_rfl
theorem c4G {w:World} {K:Value→World→Prop} {x y:Operand} {g:Nat} {l:Tx} {cur:Array Value} {fz:Nat×Nat} (hx:ev env x = .pointer (some ⟨g,0,none⟩)) (hy:ev env y = .int .i64 l.length) (hl:l≠[]) (h6:l.length≤1000000) (hg:w.heap[g]?=some (.cells cur 5 fz)) (hlen:l.length≤cur.size) (hc:∀ (j:Nat) (x:UInt8),l[j]?=some x→cur[j]?=some (Value.int .u8 x.toNat)) (h:K (m7 l) (w.freeze ⟨g,0,none⟩ l.length)) :
  L6 G.P { dst,op:=.call { callee:=.builtin .unsafeString,args:=#[x,y],argTypes:=#[221,3] },type:=ty,pos,after:=af,guard:=gd } env w K:=by
 have h1:(Builtin.unsafeString_ #[221,3] ty #[.pointer (some ⟨g,0,none⟩),.int .i64 l.length]).run G.P w = .ok (.string ⟨l.toArray⟩) (w.freeze ⟨g,0,none⟩ l.length):=by
  refine Lib.run_unsafeString_row w 221 3 ty 5 c6j zk g cur.size (by simp [World.shape?,hg]) l hl hlen zo ?_
  intro j x hx;rw [H6,yZ,D2 hg];exact hc j x hx
 refine ⟨.inl ⟨_,_,?_,h⟩⟩;simp only [execOp,resolve,invoke,builtin,yq,xi,yx,xW,yU,xn,hx,hy,h1];rfl
end gens
theorem b7S {w:World} {g n:Nat} {cur:Array Value} {t:Nat} {fz:Nat×Nat} (hg:w.heap[g]?=some (.cells cur t fz)):∃ fz',(w.freeze ⟨g,0,none⟩ n).heap[g]?=some (.cells cur t fz'):=by
 unfold World.freeze;split
 ·exact ⟨_,hg⟩
 ·obtain ⟨lo,hi⟩:=fz;simp [Array.getElem?_modify,hg]
theorem c0k {b:Nat} {wr w:World} {l:Tx} (h:Bw b wr w l) (hl:l≠[]) (h6:l.length≤1000000):∃ C:World→Prop,C w∧C w.drew∧(∀ w',C w'→Below wr.heap.size w w')∧∀ w',C w'→Calls G.P 124 #[.pointer (some ⟨b,0,none⟩)] w' (fun r w2=>r = .returned (m7 l)∧C w2):=by
 obtain ⟨p,v,hp,hk,hr⟩:=h.is;have hpos:0<l.length:=List.length_pos_iff.2 hl;obtain ⟨g,cap,cur,rfl,hg,hcap,hgb,hlc,hcc⟩:∃ g cap cur,v = .slice (some ⟨g,0,none⟩) l.length cap∧wr.heap.size≤g∧l.length≤cap∧w.heap[g]?=some (.cells cur 5 (0,0))∧l.length≤cur.size∧∀ (j:Nat) (x:UInt8),l[j]?=some x→cur[j]?=some (Value.int .u8 x.toNat):=by
  have hown:=a9u.1 hr;rcases hr.2 with ⟨_,e⟩|⟨g,cap,cur,e,hg,hb,hle,_,hsz,_⟩
  ·omega
  ·subst e;refine ⟨g,cap,cur,rfl,hg,hle,hb,zo,fun j x hx=>?_⟩;have:=hown.cells (g:=g) rfl j (.int .u8 x.toNat) (by simp [Lib.byteCells,hx])
   rw [H6,yZ,D2 hb] at this;exact this
 refine ⟨fun w'=>Below wr.heap.size w w'∧∃ fz,w'.heap[g]?=some (.cells cur 5 fz),⟨Below.refl _ _,_,hgb⟩,⟨Below.drew (Below.refl _ _),_,hgb⟩,fun w' hw=>hw.1,?_⟩;rintro w' ⟨hb',fz,hg'⟩;have hk':w'.heap[b]?=_:=(hb'.block b h.lt).trans hk;refine zN func124 ?_;refine zR ?_;refine H7.mk1 ⟨10,Cl w',Cl.drew (Cl.refl _),zk,?_⟩;refine zR ?_;refine l9 _ (fun w' hw=>D9 (hw.blk hk') rfl rfl) (zR ?_);refine c0j rfl zo (zR ?_);refine l9 _ (fun w' hw=>D9 (hw.blk hk') rfl rfl) (zR ?_);intro w2 c2;refine zR ?_;refine c4G rfl rfl hl h6 (c2.blk hg') hlc hcc (zR ?_);have hs':wr.heap.size≤w'.heap.size:=zw h.nb.size hb'.size;exact ⟨rfl,Lib.below_freeze (hb'.trans (c2.mono hs')) hg _,b7S (c2.blk hg')⟩
theorem Z0 {b:Nat} {wr w:World} {l:Tx} (h:Bw b wr w l) (hl:l≠[]) (h6:l.length≤1000000):Calls G.P 124 #[.pointer (some ⟨b,0,none⟩)] w (fun r w'=>r = .returned (m7 l)∧Below wr.heap.size w w'):=by
 obtain ⟨C,h0,_,h2,h3⟩:=c0k h hl h6;exact (h3 w h0).mono fun _ _ hr=>⟨hr.1,h2 _ hr.2⟩
theorem b3F (p:g9):IntKind.i64.wrap (a5G p)=a5G p:=by
 have:a5G p=0∨a5G p=1∨a5G p=4:=by
  unfold a5G;split
  ·exact .inl rfl
  ·split
   ·exact .inr (.inl rfl)
   ·exact .inr (.inr rfl)
 rcases this with e|e|e<;>(rw [e];rfl)
set_option maxHeartbeats 2000000 in
theorem c4H {p:g9} (hI:B7 p) (hN:Y6 p) (hle:(A5 p).length≤218) {P b P2 b2 M G0 n0 k0:Nat} {ad:Addr} {d:Nd} {g:Gm} {cv2:Value} (hm:d.mv∈p9 p) (htg:(d.tags:Int)=a8N p d.mv) (hI2:B7 (made p d.mv)) (hN2:Y6 (made p d.mv)) (hle2:(A5 (made p d.mv)).length≤218)
  (hgm:g.meth<256) (w:World) (hT:C6 w) (hw:Pow w) (hP:G8 w P b p (.slice (some ad) n0 k0)) (hM:w.heap[M]?=some (.cells (F7 d) 141 (0,0))) (hb:w.heap[G0]?=some (.cells (gmA g) 131 (0,0))) (hgP:g.P=P2) (hP2:G8 w P2 b2 (made p d.mv) cv2) :
  Calls G.P 46 #[.pointer (some ⟨P,0,none⟩),.pointer (some ⟨M,0,none⟩),.pointer (some ⟨G0,0,none⟩)] w (N0 (stV (a6g p d.mv ((g.meth:Int),g.out))) w):=by
 obtain ⟨f0,f1,t0,t1,hpm⟩:=A3 hI hm;obtain ⟨_,_,h64⟩:=a1h htg;have hbt:=b6h ⟨d.mv,a8N p d.mv,b3X p d.mv,b3A p d.mv,b1R d.mv,a7q (made p d.mv),b16 (made p d.mv),made p d.mv,g.out,(g.meth:Int),a5G (made p d.mv)⟩;have hun:a6g p d.mv ((g.meth:Int),g.out)=⟨d.mv,a8N p d.mv,b3X p d.mv,b3A p d.mv,b1R d.mv,a7q (made p d.mv),b16 (made p d.mv),made p d.mv,g.out,(g.meth:Int),a5G (made p d.mv)⟩:=by unfold a6g;rfl
 have hst:stV (a6g p d.mv ((g.meth:Int),g.out)) = .agg (stL ⟨d.mv,a8N p d.mv,b3X p d.mv,b3A p d.mv,b1R d.mv,a7q (made p d.mv),b16 (made p d.mv),made p d.mv,g.out,(g.meth:Int),a5G (made p d.mv)⟩).toArray:=by rw [hun];rfl
 have hone:=a5y (a6g p d.mv ((g.meth:Int),g.out));have hlen:=J7 (a6g p d.mv ((g.meth:Int),g.out));rw [hun] at hone hlen;rw [hst];clear hst hun;have etag:IntKind.i64.wrap (d.tags:Int)=a8N p d.mv:=by rw [← htg];exact g8 zo zo
 have emeth:IntKind.i64.wrap (g.meth:Int)=(g.meth:Int):=g8 zo zo;have estat:=b3F (made p d.mv);have q1:=fun w' (c:Cl w w')=>b3k (c.blk hM) zo zo zo zo zo zo;have q2:=fun w' (c:Cl w w')=>b4J (c.blk hM);have q3:=fun w' (c:Cl w w')=>a7A hI hN hle hm id htg w' (hT.cl c) (hP.step c) (c.blk hM);have q4:=fun w' (c:Cl w w')=>b3h hI hN hle hm id htg w' (hT.cl c) (hP.step c) (c.blk hM);rw [c1U hI hm htg] at q3;rw [c1V hI hm htg] at q4;have q5:=fun w' (c:Cl w w')=>b3g (P:=P) f0 f1 t0 t1 ⟨zo,zo⟩ w' (c.blk hM) _ rfl;have q6:=fun w' (c:Cl w w')=>c40 (c.blk hb) hI2 hN2 (hT.cl c) (hw.cl c) (by rw [hgP];exact c.blk hP2.hd) (c.blk hP2.bd)
 have q7:=fun w' (c:Cl w w')=>b1M hI2 hN2 w' (hT.cl c) (hw.cl c) (c.blk hP2.hd) (c.blk hP2.bd);have q8:=fun w' (c:Cl w w')=>c2f hI2 w' (hT.cl c) (c.blk hP2.hd) (c.blk hP2.bd);have q9:=fun w' (c:Cl w w')=>b0C hI2 w' (hT.cl c) (hP2.step c);obtain ⟨zs,hzs,hz81⟩:=zSt;generalize stL ⟨d.mv,a8N p d.mv,b3X p d.mv,b3A p d.mv,b1R d.mv,a7q (made p d.mv),b16 (made p d.mv),made p d.mv,g.out,(g.meth:Int),a5G (made p d.mv)⟩=S at *;generalize made p d.mv=q at *;generalize a8N p d.mv=Q1 at *;generalize b3X p d.mv=Q2 at *;generalize b3A p d.mv=Q3 at *;generalize b1R d.mv=Q4 at *;generalize a7q q=Q5 at *;generalize b16 q=Q6 at *;generalize a5G q=Q7 at *;refine zN func46 ?_;refine zR ?_;refine s7 zs hzs ?_;have c1:=Cl.alloc w (.cells zs.cells 39);have nB:=d8 w (.cells zs.cells 39);generalize w.alloc (.cells zs.cells 39)=w1 at *;refine zR ?_;refine g7 (b4P (c1.blk hb)) ?_;rw [hgP];refine zR ?_;refine o7 (q1 w1 c1) fun w2 c2=>?_;have c02:=c1.trans c2;have nB:=c2.blk nB;refine zR ?_;refine g7 (q2 w2 c02) (zR ?_);rw [etag];refine r7 #[] zk (zR ?_);refine o7 (q3 w2 c02) fun w3 c3=>?_;have c03:=c02.trans c3;have nB:=c3.blk nB;refine zR ?_;refine r7 #[] zk (zR ?_);refine o7 (q4 w3 c03) fun w4 c4=>?_;have c04:=c03.trans c4;have nB:=c4.blk nB;refine zR ?_;refine r7 #[] zk (zR ?_);refine o7 (q5 w4 c04) fun w5 c5=>?_;have c05:=c04.trans c5;have nB:=c5.blk nB;refine zR ?_;refine o7 (q6 w5 c05) fun w6 c6=>?_;have c06:=c05.trans c6;have nB:=c6.blk nB;refine zR ?_;refine o7 (q7 w6 c06) fun w7 c7=>?_;have c07:=c06.trans c7;have nB:=c7.blk nB;refine zR ?_;refine o7 (q8 w7 c07) fun w8 c8=>?_;have c08:=c07.trans c8;have nB:=c8.blk nB;refine zR ?_;refine g7 (c4z (c08.blk hb)) (zR ?_);refine g7 (c2g (c08.blk hb)) (zR ?_);rw [emeth];refine o7 (q9 w8 c08) fun w9 c9=>?_;have c09:=c08.trans c9;have nB:=c9.blk nB;refine zR ?_;rw [estat];refine r7 S.toArray hbt (zR ?_);refine K2 nB S rfl b9k hlen hone (by rw [hz81];omega) (fun w10 u10=>?_)
 have hR:w10.heap[w.heap.size]?=some (.cells S.toArray 39 (0,0)):=by
  rw [u10.at_,B5 _ _ (by rw [hlen,hz81])]
 refine zR ?_;refine b7 (.agg S.toArray) ?_ ?_
 ·have:=ldA (t:=39) (o:=0) (z:=81) hR rfl (by simp [hlen])
  rw [show S.toArray.extract 0 (0+81)=S.toArray by
   have:S.toArray.size=81:=by simp [hlen]
   rw [← this];simp] at this
  exact this
 refine zR ?_;exact ⟨rfl,u10.cl c09 (yO _)⟩
end
