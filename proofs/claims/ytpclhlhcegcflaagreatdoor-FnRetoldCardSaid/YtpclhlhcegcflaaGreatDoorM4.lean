/- One part of the proof: Sp1 Sp2 Sp3 Sp4. -/
import Derived.Test.YtpclhlhcegcflaaGreatDoorM1
import Derived.Test.YtpclhlhcegcflaaGreatDoorM3
namespace Go.Proofs.YtpclhlhcegcflaaGreatDoor
set_option maxRecDepth 100000
set_option linter.unusedSimpArgs false
set_option linter.unusedVariables false
section
open Go Go.RowKit
open E
theorem g7 {n:Int} (h0:-9223372036854775808≤n) (h1:n≤9223372036854775807):IntKind.i64.wrap n=n:=by
 unfold IntKind.wrap;simp [IntKind.bits,IntKind.signed];omega
theorem b9M (n:Int):IntKind.i64.wrap n=(n+9223372036854775808)%18446744073709551616-9223372036854775808:=by
 unfold IntKind.wrap;simp [IntKind.bits,IntKind.signed];omega
theorem m7 {k:IntKind} {a b:Int} (h:a=b):Value.int k a=Value.int k b:=by rw [h]
theorem C3 {k:IntKind} {a b:Int} (h:a=b):Ending.returned (.int k a) = .returned (.int k b):=by rw [h]
theorem b0f {a b c d:Value} (h1:a=c) (h2:b=d):Ending.returned (.tuple #[a,b]) = .returned (.tuple #[c,d]):=by rw [h1,h2]
theorem p9 {a b:Bool} (h:a=b):Value.bool a=Value.bool b:=by rw [h]
theorem m8 {a b:Bool} (h:a=b):Ending.returned (.bool a) = .returned (.bool b):=by rw [h]
theorem a1G (s:Int) (w:World) (h0:0≤s):Calls G.P 127 #[.int .i64 s] w (D5 (.int .i64 (Ch.l9 s)) w):=by
 refine zN Tryz.func127 ?_;refine zR ?_;exact ⟨by rw [Int.tmod_eq_emod_of_nonneg h0];rfl,rfl⟩
theorem V5 (s:Int) (w:World) (h0:0≤s) (h1:s<9223372036854775807):Calls G.P 81 #[.int .i64 s] w (D5 (.int .i64 (Ch.g8 s)) w):=by
 refine zN Tryz.func81 ?_;refine zR ?_;exact ⟨by rw [Int.tdiv_eq_ediv_of_nonneg h0,g7 zo zo];rfl,rfl⟩
theorem N9 (x:Int) (w:World) (h0:-1000≤x) (h1:x≤1000):Calls G.P 57 #[.int .i64 x] w (D5 (.int .i64 (Ch.kindOf x)) w):=by
 refine zN Tryz.func57 ?_;repeat' (refine zR ?_;apply E.b7<;>intro h)
 all_goals (try refine zR ?_)
 all_goals (refine ⟨C3 ?_,rfl⟩;simp only [Ch.kindOf])
 ·rw [if_pos zo,g7 zo zo]
 ·rw [if_neg zo]
theorem a1j (x:Int) (w:World):Calls G.P 128 #[.int .i64 x] w (D5 (.int .i64 (Ch.t8 x)) w):=by
 refine zN Tryz.func128 ?_;repeat' (refine zR ?_;apply E.b7<;>intro h)
 all_goals (try refine zR ?_)
 all_goals (refine ⟨C3 ?_,rfl⟩;simp only [Ch.t8])
 ·rw [if_pos zo]
 ·rw [if_neg zo]
theorem a8a (k s:Int) (w:World) (h0:-1000≤k) (h1:k≤1000) (h2:-1000≤s) (h3:s≤1000):Calls G.P 79 #[.int .i64 k,.int .i64 s] w (D5 (.int .i64 (k+6*s)) w):=by
 refine zN Tryz.func79 ?_;refine zR ?_;exact ⟨by rw [g7 (n:=6*s) zo zo,g7 zo zo],rfl⟩
theorem a5k (f r:Int) (w:World) (h0:-1000≤f) (h1:f≤1000) (h2:-1000≤r) (h3:r≤1000):Calls G.P 80 #[.int .i64 f,.int .i64 r] w (D5 (.int .i64 (Ch.H2 f r)) w):=by
 refine zN Tryz.func80 ?_;repeat' (refine zR ?_;apply E.b7<;>intro h)
 all_goals (try refine zR ?_)
 all_goals (refine ⟨C3 ?_,rfl⟩;simp only [Ch.H2])
 all_goals first
  | rw [if_pos zo]
  | rw [if_neg zo,g7 (n:=8*r) zo zo,g7 zo zo]
theorem b4j (s:Int) (w:World) (h0:-1000≤s) (h1:s≤1000):Calls G.P 131 #[.int .i64 s] w (D5 (.int .i64 (Ch.up s)) w):=by
 refine zN Tryz.func131 ?_;refine zR ?_;exact ⟨by rw [g7 (n:=2*s) zo zo,g7 zo zo];rfl,rfl⟩
theorem b58 (n:Int) (w:World):Calls G.P 188 #[.int .i64 n] w (D5 (.int .i64 (Ch.sign n)) w):=by
 refine zN Tryz.func188 ?_;repeat' (refine zR ?_;apply E.b7<;>intro h)
 all_goals (try refine zR ?_)
 all_goals (refine ⟨C3 ?_,rfl⟩;simp only [Ch.sign])
 ·rw [if_pos zo]
 ·rw [if_neg zo,if_pos zo]
 ·rw [if_neg zo,if_neg zo]
def Pc (p:A3):Prop:=∀ i:Int,0≤Ch.sq p i∧Ch.sq p i≤12
theorem b9N (p:A3) (hp:Pc p) (f t:Int) (w:World) (h0:0≤f) (h1:f≤63) (h2:0≤t) (h3:t≤63) :
  Calls G.P 129 #[C4 p,.int .i64 f,.int .i64 t] w (K4 (.bool (Ch.a2G p f t)) w):=by
 refine E.enter (G:=G) Tryz.func129 rfl (by simp [Tryz.ntmps129]) zk ?_
 refine a2F (a4x ?_);refine zG ?_;refine U0 (Cl _) (Cl.refl _) (fun _=>Cl.drew) zk ?_;have hC:∀ w',Cl (w.alloc (.cells (o9 p) 24)) w'→w'.heap[w.heap.size]?=some (.cells (o9 p) 24 (0,0)):=fun w' h=>h.blk (q8 _ _);have hE:∀ w',Cl (w.alloc (.cells (o9 p) 24)) w'→Cl w w':=fun w' h=>(Cl.alloc w _).trans h;refine zG ?_;refine A5 _ (fun w _=>a1G _ _ h2) (zG ?_);refine A5 _ (fun w _=>a1G _ _ h0) ?_;have hf:IntKind.i64.wrap (Ch.l9 t-Ch.l9 f)=Ch.l9 t-Ch.l9 f:=g7 (by unfold Ch.l9;omega) (by unfold Ch.l9;omega)
 have hr:IntKind.i64.wrap (Ch.g8 t-Ch.g8 f)=Ch.g8 t-Ch.g8 f:=g7 (by unfold Ch.g8;omega) (by unfold Ch.g8;omega)
 refine zG ?_;rw [hf];refine zR ?_;refine A5 _ (fun w _=>V5 _ _ h2 zo) (zR ?_);refine A5 _ (fun w _=>V5 _ _ h0 zo) (zG ?_);rw [hr];generalize hF:Ch.l9 t-Ch.l9 f=F;generalize hR:Ch.g8 t-Ch.g8 f=R;refine zR ?_;apply E.b7<;>intro h
 ·refine zR ?_;intro w' hw';refine zG ?_;exact ⟨m8 (by simp [Ch.a2G,h]),hE w' hw'⟩
 have hne:=h;clear h;refine zR ?_;refine E.y6 (P2.2 ⟨h0,zo⟩) (zR ?_);refine g9 _ (fun w hw=>a9h (hC w hw) _ h0 zo rfl) (zR ?_);apply E.b7<;>intro h
 ·refine zR ?_;intro w' hw';refine zG ?_;exact ⟨m8 (by simp [Ch.a2G,h]),hE w' hw'⟩
 have hnz:=h;clear h;refine zG ?_;refine b9o 9 13 (.bool (decide (F=0)||decide (R=0))) zk ?_ (fun j=>?_)
 ·refine zR ?_;apply E.b7<;>intro h
  ·refine zR ?_;exact congrArg Value.bool (by simp [h])
  ·refine zR ?_;exact congrArg Value.bool (by simp [h])
 have hneg:IntKind.i64.wrap (0-R)=-R:=by rw [g7 (by subst hR;unfold Ch.g8;omega) (by subst hR;unfold Ch.g8;omega)];omega
 refine b9o 10 13 (.bool (decide (F=R)||decide (F=-R))) zk ?_ (fun j=>?_)
 ·refine zR ?_;apply E.b7<;>intro h
  ·refine zR ?_;exact congrArg Value.bool (by simp [h])
  ·refine zR ?_;exact congrArg Value.bool (by rw [hneg];simp [h])
 obtain ⟨K,hK⟩:∃ K,Ch.kindOf (Ch.sq p f)=K:=⟨_,rfl⟩;have bF:-7≤F∧F≤7:=by subst hF;unfold Ch.l9;omega
 have bR:-7≤R∧R≤7:=by subst hR;unfold Ch.g8;omega
 have hFF:IntKind.i64.wrap (F*F)=F*F:=by have:=b57 bF.1 bF.2;exact g7 zo zo
 have hRR:IntKind.i64.wrap (R*R)=R*R:=by have:=b57 bR.1 bR.2;exact g7 zo zo
 have hFR:IntKind.i64.wrap (F*F+R*R)=F*F+R*R:=by have:=b57 bF.1 bF.2;have:=b57 bR.1 bR.2;exact g7 zo zo
 have hans:∀ b:Bool,Ch.a2G p f t=b→∀ w',Cl (w.alloc (.cells (o9 p) 24)) w'→K4 (.bool (Ch.a2G p f t)) w (.returned (.bool b)) w':=fun b hb w' hw'=>⟨by rw [hb],hE w' hw'⟩
 have hdef:Ch.a2G p f t=(if K=1 then decide (F*F≤1)&&decide (R*R≤1)
   else if K=5 then decide (F*F+R*R=5)
   else if K=6 then decide (F*F=1)&&decide (R=Ch.up (Ch.t8 (Ch.sq p f)))
   else if !((decide (F=0)||decide (R=0)) && !decide (K=4)) && !((decide (F=R)||decide (F=-R)) && !decide (K=3)) then false
   else Ch.free p f (Ch.sign F+8*Ch.sign R) (Ch.a5i F R)):=by
  simp only [Ch.a2G,hF,hR,hK,hne,hnz,or_self,if_false]
 refine a8n (σ:=Unit) [6,9,10] 13 (fun _=>[(9,.bool ((decide (F=0)||decide (R=0)) && !decide (K=4))),(10,.bool ((decide (F=R)||decide (F=-R)) && !decide (K=3)))])
  (fun _=>K≠1∧K≠5∧K≠6) zk ?_ (fun _ j hk=>?_)
 ·refine zR ?_;refine E.y6 (P2.2 ⟨h0,zo⟩) (zR ?_);refine g9 _ (fun w hw=>a9h (hC w hw) _ h0 zo rfl) (zR ?_);refine A5 _ (fun w _=>N9 _ _ (by have:=hp f;omega) (by have:=hp f;omega)) ?_
  rw [hK];refine zR ?_;apply E.b7<;>intro h
  ·subst h;refine zR ?_;rw [hFF];apply E.b7<;>intro h
   ·refine zR ?_;intro w' hw';refine zG ?_;exact hans _ (by rw [hdef];simp [h,hRR]) w' hw'
   ·refine zR ?_;intro w' hw';refine zG ?_;exact hans _ (by rw [hdef];simp [h]) w' hw'
  have k1:=h;clear h;refine zR ?_;apply E.b7<;>intro h
  ·subst h;refine zR ?_;intro w' hw';refine zG ?_;exact hans _ (by rw [hdef,hFF,hRR,hFR];simp) w' hw'
  have k5:=h;clear h;refine zR ?_;apply E.b7<;>intro h
  ·subst h;refine zR ?_;rw [hFF];apply E.b7<;>intro h
   ·refine zR ?_;refine E.y6 (P2.2 ⟨h0,zo⟩) (zR ?_);refine g9 _ (fun w hw=>a9h (hC w hw) _ h0 zo rfl) (zR ?_);refine A5 _ (fun w _=>a1j _ _) (zR ?_);refine A5 _ (fun w _=>b4j _ _ (by unfold Ch.t8;split<;>omega) (by unfold Ch.t8;split<;>omega)) (zR ?_)
    intro w' hw';refine zG ?_;exact hans _ (by rw [hdef];simp [h]) w' hw'
   ·refine zR ?_;intro w' hw';refine zG ?_;exact hans _ (by rw [hdef];simp [h]) w' hw'
  have k6:=h;clear h;refine zR ?_;apply E.b7<;>intro h
  ·subst h;refine zR ?_;exact ⟨(),⟨congrArg Value.bool (by simp),congrArg Value.bool (by simp),trivial⟩,k1,k5,k6⟩
  have k3:=h;clear h;refine zR ?_;apply E.b7<;>intro h
  ·subst h;refine zR ?_;exact ⟨(),⟨congrArg Value.bool (by simp),congrArg Value.bool (by simp),trivial⟩,k1,k5,k6⟩
  refine zR ?_;exact ⟨(),⟨congrArg Value.bool (by simp [h]),congrArg Value.bool (by simp [k3]),trivial⟩,k1,k5,k6⟩
 rw [if_neg hk.1,if_neg hk.2.1,if_neg hk.2.2] at hdef;generalize hST:((decide (F=0)||decide (R=0)) && !decide (K=4))=ST at hdef
 generalize hSL:((decide (F=R)||decide (F=-R)) && !decide (K=3))=SL at hdef
 refine a8n (σ:=Unit) [6] 13 (fun _=>[]) (fun _=>ST=true∨SL=true) zk ?_ (fun _ j hl=>?_)
 ·refine zR ?_;apply E.Z2<;>intro h
  ·refine zR ?_;apply E.Z2<;>intro h
   ·refine zR ?_;intro w' hw';refine zG ?_;exact hans _ (by rw [hdef];simp_all) w' hw'
   ·refine zR ?_;exact ⟨(),trivial,.inr (by simpa using h)⟩
  ·refine zR ?_;exact ⟨(),trivial,.inl (by simpa using h)⟩
 have hdef2:Ch.a2G p f t=Ch.free p f (Ch.sign F+8*Ch.sign R) (Ch.a5i F R):=by rw [hdef];rcases hl with h | h<;>simp [h]
 have hline:F=0∨R=0∨F=R∨F=-R:=by
  rcases hl with h | h
  ·rw [← hST] at h;simp at h;rcases h.1 with h | h<;>simp [h]
  ·rw [← hSL] at h;simp at h;rcases h.1 with h | h<;>simp [h]
 obtain ⟨hto,hW0,hin⟩:=b7G h0 h1 h2 h3 hne (by rw [hF,hR];exact hline)
 rw [hF,hR] at hto hW0 hin;have hs:∀ n:Int,-1≤Ch.sign n∧Ch.sign n≤1:=fun n=>by unfold Ch.sign;split<;>(try split)<;>omega
 have hsF:=hs F;have hsR:=hs R;refine zR ?_;refine A5 _ (fun w _=>b58 _ _) (zR ?_);refine A5 _ (fun w _=>b58 _ _) (zG ?_);rw [g7 (n:=8*Ch.sign R) zo zo,g7 (n:=Ch.sign F+8*Ch.sign R) zo zo];generalize Ch.sign F+8*Ch.sign R=W at *;generalize Ch.a5i F R=n at *;refine zR ?_;have g0:=hin 0 zo;refine a4z [6,12] 13 (fun k:Nat=>[(12,.int .i64 (f+((k:Int)+1)*W))]) (fun k=>k≤n∧Ch.a2G p f t=Ch.free p (f+(k:Int)*W) W (n-k)) (fun k=>n-k) zk 0 ⟨zo,by rw [hdef2];simp⟩
  ⟨m7 (by rw [g7 zo zo];omega),trivial⟩ ?_
 intro k j ⟨hkn,hh⟩;have gk:=hin k hkn;refine zR ?_;apply E.r9<;>intro h
 ·have hkn':k<n:=by
   rcases Nat.lt_or_ge k n with h' | h'
   ·exact h'
   ·exfalso;apply h;rw [hto];congr 2;omega
  rw [b4i p f W n k hkn'] at hh;have gk1:=hin (k+1) zo;have e1:f+((k:Int)+1)*W+W=f+(((k+1:Nat):Int)+1)*W:=by
   rw [Int.add_mul ((k+1:Nat):Int)];push_cast;omega
  refine zR ?_;refine E.y6 (P2.2 ⟨gk.1,zo⟩) (zR ?_);refine g9 _ (fun w hw=>a9h (hC w hw) _ gk.1 zo rfl) (zR ?_);apply E.r9<;>intro h
  ·refine zR ?_;intro w' hw';refine zG ?_;exact hans _ (by rw [hh];simp [h]) w' hw'
  ·refine zR ?_;refine ⟨k+1,⟨m7 (by rw [e1,g7 zo zo]),trivial⟩,⟨zo,by rw [hh];simp [h]⟩,zo⟩
 ·have hkn':n-k=0:=by
   have:((k:Int)+1)*W=((n:Int)+1)*W:=by omega
   have:=Int.eq_of_mul_eq_mul_right hW0 this;omega
  refine zR ?_;intro w' hw';refine zG ?_;exact hans _ (by rw [hh,hkn'];rfl) w' hw'
theorem hCl {p:A3} {w w':World} (h:Cl (w.alloc (.cells (o9 p) 24)) w'):w'.heap[w.heap.size]?=some (.cells (o9 p) 24 (0,0)):=h.blk (q8 _ _)
theorem hEx {w w':World} {o:Obj} (h:Cl (w.alloc o) w'):Cl w w':=(Cl.alloc w _).trans h
theorem Pc.lo {p:A3} (h:Pc p) (i:Int):-1000≤Ch.sq p i:=by have:=h i;omega
theorem Pc.hi {p:A3} (h:Pc p) (i:Int):Ch.sq p i≤1000:=by have:=h i;omega
theorem b7H (x:Int):-1000≤Ch.t8 x:=by unfold Ch.t8;split<;>omega
theorem b7I (x:Int):Ch.t8 x≤1000:=by unfold Ch.t8;split<;>omega
theorem zO {A:Prop} (e:A:=by (first | omega | exact Pc.lo hp _ | exact Pc.hi hp _ | exact b7H _ | exact b7I _ | (simp only [b9M,Ch.l9,Ch.g8,Ch.up] at *;omega))):A:=e
theorem b7J (p:A3) (k s:Int) (w:World) (h0:-1000≤k) (h1:k≤1000) (h2:-1000≤s) (h3:s≤1000) :
  Calls G.P 82 #[C4 p,.int .i64 k,.int .i64 s] w (K4 (.int .i64 (Ch.count p k s)) w):=by
 refine E.enter (G:=G) Tryz.func82 rfl (by simp [Tryz.ntmps82]) zk ?_
 refine a2F (a4x ?_);refine zG ?_;refine U0 (Cl _) (Cl.refl _) (fun _=>Cl.drew) zk (zR ?_);refine a4z [7,8] 9 (fun n:Nat=>[(7,.int .i64 (Ch.cntN (fun i=>decide (Ch.sq p i=k+6*s)) n)),(8,.int .i64 n)]) (fun n=>n≤64) (fun n=>64-n) zk 0 zo ⟨rfl,rfl,trivial⟩ ?_;intro n j hn;have hb:=Ch.a9g (fun i=>decide (Ch.sq p i=k+6*s)) n;refine zR ?_;apply E.b7<;>intro h
 ·refine zR ?_;refine zC ?_;refine zR ?_;refine g9 _ (fun w hw=>a9h (hCl hw) (n:Int) zo zo rfl) (zR ?_);refine A5 _ (fun w _=>a8a _ _ _ h0 h1 h2 h3) (zR ?_);apply E.b7<;>intro h
  ·refine zR ?_;exact ⟨n+1,⟨m7 (by rw [g7 zo zo];simp [Ch.cntN,h]),m7 (by rw [g7 zo zo];rfl),trivial⟩,zo,zo⟩
  ·refine zR ?_;exact ⟨n+1,⟨m7 (by simp [Ch.cntN,h]),m7 (by rw [g7 zo zo];rfl),trivial⟩,zo,zo⟩
 ·refine zR ?_;intro w' hw';refine zG ?_;have:n=64:=by omega
  subst this;exact ⟨rfl,hEx hw'⟩
theorem a6W (p:A3) (s:Int) (w:World) (h2:-1000≤s) (h3:s≤1000) :
  Calls G.P 86 #[C4 p,.int .i64 s] w (K4 (.int .i64 (Ch.kingAt p s)) w):=by
 refine E.enter (G:=G) Tryz.func86 rfl (by simp [Tryz.ntmps86]) zk ?_
 refine a2F (a4x ?_);refine zG ?_;refine U0 (Cl _) (Cl.refl _) (fun _=>Cl.drew) zk (zR ?_);refine a4z [4,5] 6 (fun n:Nat=>[(5,.int .i64 n)]) (fun n=>n≤64∧Ch.W9 (fun i=>decide (Ch.sq p i=1+6*s)) n=none) (fun n=>64-n) zk 0 ⟨zo,rfl⟩ ⟨rfl,trivial⟩ ?_;intro n j ⟨hn,hf⟩;refine zR ?_;apply E.b7<;>intro h
 ·refine zR ?_;refine zC ?_;refine zR ?_;refine g9 _ (fun w hw=>a9h (hCl hw) (n:Int) zo zo rfl) (zR ?_);refine A5 _ (fun w _=>a8a _ _ _ zo zo h2 h3) (zR ?_);apply E.b7<;>intro h
  ·refine zR ?_;intro w' hw';refine zG ?_;exact ⟨C3 (by unfold Ch.kingAt;rw [Ch.b4f hf (by simp [h]) zo]),hEx hw'⟩
  ·refine zR ?_;exact ⟨n+1,⟨m7 (by rw [g7 zo zo];rfl),trivial⟩,⟨zo,by unfold Ch.W9;rw [hf];simp [h]⟩,zo⟩
 ·refine zR ?_;intro w' hw';refine zG ?_;have:n=64:=by omega
  subst this;exact ⟨C3 (by unfold Ch.kingAt;rw [hf]),hEx hw'⟩
theorem a1k (p:A3) (hp:Pc p) (q s:Int) (w:World) (h0:0≤q) (h1:q≤63) :
  Calls G.P 85 #[C4 p,.int .i64 q,.int .i64 s] w (K4 (.bool (Ch.z7 p q s)) w):=by
 refine E.enter (G:=G) Tryz.func85 rfl (by simp [Tryz.ntmps85]) zk ?_
 refine a2F (a4x ?_);refine zG ?_;refine U0 (Cl _) (Cl.refl _) (fun _=>Cl.drew) zk (zR ?_);refine a4z [6,7] 8 (fun n:Nat=>[(7,.int .i64 n)]) (fun n=>n≤64∧Ch.anyN (Ch.a25 p q s) n=false) (fun n=>64-n) zk 0 ⟨zo,rfl⟩ ⟨rfl,trivial⟩ ?_;intro n j ⟨hn,hf⟩;refine zR ?_;apply E.b7<;>intro h
 ·have hi:n<64:=by omega
  refine zG ?_;refine a8n (σ:=Unit) [6] 8 (fun _=>[]) (fun _=>Ch.a25 p q s n=false) zk ?_ (fun _ j hk=>?_)
  ·have no:∀ b:Bool,Ch.a25 p q s n=b→b=false→Ch.a25 p q s n=false:=fun b h h'=>by rw [h,h']
   refine zR ?_;refine zC ?_;refine zR ?_;refine g9 _ (fun w hw=>a9h (hCl hw) (n:Int) zo zo rfl) (zR ?_);apply E.r9<;>intro h
   ·refine zR ?_;refine zC ?_;refine zR ?_;refine g9 _ (fun w hw=>a9h (hCl hw) (n:Int) zo zo rfl) (zR ?_);refine A5 _ (fun w _=>a1j _ _) (zR ?_);rename_i hz;apply E.b7<;>intro h
    ·refine zR ?_;refine g9 _ (fun w hw=>y7 (hCl hw)) (zR ?_);refine C7 _ (fun _ _ h=>h.trans) (fun w _=>b9N p hp _ _ _ zo zo h0 h1) (zR ?_);apply E.Z2<;>intro h
     ·refine zR ?_;intro w' hw';refine zG ?_;refine ⟨m8 ?_,hEx hw'⟩;exact (Ch.a3m hi (by simp_all [Ch.a25])).symm
     ·refine zR ?_;exact ⟨(),trivial,by simp_all [Ch.a25]⟩
    ·refine zR ?_;exact ⟨(),trivial,by simp_all [Ch.a25]⟩
   ·refine zR ?_;exact ⟨(),trivial,by simp_all [Ch.a25]⟩
  ·refine zR ?_;exact ⟨n+1,⟨m7 (by rw [g7 zo zo];rfl),trivial⟩,⟨zo,by simp [Ch.anyN,hf,hk]⟩,zo⟩
 ·refine zR ?_;intro w' hw';refine zG ?_;have:n=64:=by omega
  subst this;exact ⟨m8 hf.symm,hEx hw'⟩
theorem b4k (p:A3) (hp:Pc p) (s:Int) (w:World) (h2:-1000≤s) (h3:s≤1000) :
  Calls G.P 130 #[C4 p,.int .i64 s] w (K4 (.bool (Ch.checked p s)) w):=by
 refine E.enter (G:=G) Tryz.func130 rfl (by simp [Tryz.ntmps130]) zk ?_
 refine a2F (a4x ?_);refine zG ?_;refine U0 (Cl _) (Cl.refl _) (fun _=>Cl.drew) zk ?_;have hk:=Ch.U1 p s;refine zR ?_;refine g9 _ (fun w hw=>y7 (hCl hw)) (zR ?_);refine C7 _ (fun _ _ h=>h.trans) (fun w _=>a6W p _ _ h2 h3) (zR ?_);apply E.b7<;>intro h
 ·refine zR ?_;refine g9 _ (fun w hw=>y7 (hCl hw)) (zR ?_);rw [g7 (n:=1-s) zo zo];refine C7 _ (fun _ _ h=>h.trans) (fun w _=>a1k p hp _ _ _ h zo) (zR ?_);intro w' hw';refine zG ?_;exact ⟨m8 (by simp [Ch.checked,h]),hEx hw'⟩
 ·refine zR ?_;intro w' hw';refine zG ?_;exact ⟨m8 (by simp [Ch.checked,h]),hEx hw'⟩
theorem a3n (p:A3) (hp:Pc p) (w:World) (h2:-1000≤p.turn) (h3:p.turn≤1000) :
  Calls G.P 88 #[C4 p] w (K4 (.bool (Ch.inCheck p)) w):=by
 refine E.enter (G:=G) Tryz.func88 rfl (by simp [Tryz.ntmps88]) zk ?_
 refine a2F (a4x ?_);refine zG ?_;refine U0 (Cl _) (Cl.refl _) (fun _=>Cl.drew) zk (zR ?_);refine g9 _ (fun w hw=>y7 (hCl hw)) (zR ?_);refine g9 _ (fun w hw=>E5 (hCl hw)) (zR ?_);refine C7 _ (fun _ _ h=>h.trans) (fun w _=>b4k p hp _ _ h2 h3) (zR ?_);intro w' hw';refine zG ?_;exact ⟨rfl,hEx hw'⟩
theorem b7K:(∀ c:Fin 16,∀ n:Fin 4,decide (a0f .and .i64 (Int.fdiv (c.val:Int) (2^(min (Int.toNat (n.val:Int)) IntKind.i64.bits))) 1=1)=Ch.P8 (c.val:Int) n.val):=by decide +kernel
theorem a9j {c:Int} {n:Nat} (h0:0≤c) (h1:c≤15) (hn:n<4):(a0f .and .i64 (Int.fdiv c (2^(min (Int.toNat (n:Int)) IntKind.i64.bits))) 1=1)↔Ch.P8 c n=true:=by
 have:=b7K ⟨c.toNat,zo⟩ ⟨n,hn⟩;simp only [Int.toNat_of_nonneg h0] at this;rw [← this];simp
theorem b3g:∀ n:Fin 4,IntKind.i64.wrap (1*2^(min (Int.toNat (n.val:Int)) IntKind.i64.bits))=(2:Int)^n.val:=by decide +kernel
theorem a9k:∀ n:Fin 4,(2:Int)^n.val≤8∧0<(2:Int)^n.val:=by decide +kernel
theorem b1N (r:Int) (w:World) (h0:0≤r) (h1:r≤3):Calls G.P 126 #[.int .i64 r] w (D5 (.tuple #[.int .i64 (Ch.homeK r),.int .i64 (Ch.A0 r)]) w):=by
 refine zN Tryz.func126 ?_;have hd:IntKind.i64.wrap (r.tdiv 2)=r/2:=by rw [Int.tdiv_eq_ediv_of_nonneg h0,g7 zo zo]
 have hm:r.tmod 2=r%2:=Int.tmod_eq_emod_of_nonneg h0;have h7:IntKind.i64.wrap (7*(r/2))=7*(r/2):=g7 zo zo;refine zR ?_;rw [hm];apply E.b7<;>intro h;all_goals
  refine zR ?_;refine d9 (a5k _ _ _ zo zo (by rw [hd,h7];omega) (by rw [hd,h7];omega)) (zR ?_)
  refine d9 (a5k _ _ _ zo zo (by rw [hd,h7];omega) (by rw [hd,h7];omega)) (zR ?_)
  refine ⟨b0f (m7 ?_) (m7 ?_),rfl⟩
  ·rw [hd,h7];simp [Ch.homeK]
  ·rw [hd,h7];simp [Ch.A0,h]
theorem c1r (n:Nat) (h:n<4):(0≤Ch.homeK n∧Ch.homeK n≤63)∧(0≤Ch.A0 n∧Ch.A0 n≤63):=by
 have:n=0∨n=1∨n=2∨n=3:=by omega
 rcases this with rfl | rfl | rfl | rfl<;>decide
theorem b4l (p:A3) (n:Nat) (h:n≤4):0≤Ch.S5 p n∧Ch.S5 p n≤8*n:=by
 induction n with
 | zero=>simp [Ch.S5]
 | succ n ih =>
  have h1:=ih zo;have h2:=a9k ⟨n,zo⟩;simp only [Ch.S5] at h2 ⊢;split<;>omega
theorem b0g (p:A3) (w:World) (h0:0≤p.castle) (h1:p.castle≤15):Calls G.P 83 #[C4 p] w (K4 (.int .i64 (Ch.rights p)) w):=by
 refine E.enter (G:=G) Tryz.func83 rfl (by simp [Tryz.ntmps83]) zk ?_
 refine a2F (a4x ?_);refine zG ?_;refine U0 (Cl _) (Cl.refl _) (fun _=>Cl.drew) zk ?_;have hP:=fun w' (h:Cl (w.alloc (.cells (o9 p) 24)) w')=>hCl h;refine zR ?_;refine a4z [3,4,5,6] 7 (fun n:Nat=>[(3,.int .i64 (Ch.S5 p n)),(4,.int .i64 n)]) (fun n=>n≤4) (fun n=>4-n) zk 0 zo ⟨rfl,rfl,trivial⟩ ?_;intro n j hn;have hle:=b4l p n hn;refine zR ?_;apply E.b7<;>intro h
 ·have hn4:n<4:=by omega
  have hh:=c1r n hn4;have hp2:=a9k ⟨n,hn4⟩;have hpw:=b3g ⟨n,hn4⟩;simp only at hp2 hpw;have hd:IntKind.i64.wrap (Int.tdiv (n:Int) 2)=(n:Int)/2:=by rw [Int.tdiv_eq_ediv_of_nonneg zo,g7 zo zo]
  have fin:∀ b:Bool,(b=(Ch.P8 p.castle n&&decide (Ch.sq p (Ch.homeK n)=1+6*((n:Int)/2))&&decide (Ch.sq p (Ch.A0 n)=3+6*((n:Int)/2))))→Ch.S5 p (n+1)=Ch.S5 p n+(if b then (2:Int)^n else 0):=fun b hb=>by subst hb;simp only [Ch.S5]
  refine zR ?_;refine A5 _ (fun w _=>b1N _ _ zo zo) ?_;generalize Ch.homeK (n:Int)=K at *;generalize Ch.A0 (n:Int)=R at *;refine zR ?_;refine g9 _ (fun w hw=>a1f (hP _ hw)) (zR ?_);intro r1 hr1;refine zR ?_;intro r2 hr2;have hbi:=a9j h0 h1 hn4;rw [← hr1,← hr2] at hbi;clear hr1 hr2;refine zR ?_;refine E.b7 (fun hb=>?_) (fun hb=>?_)
  ·have hb':=hbi.1 hb;refine zR ?_;refine zC ?_;refine zR ?_;refine g9 _ (fun w hw=>L9 (hP _ hw) _ zo zo) (zR ?_);refine A5 _ (fun w _=>a8a _ _ _ zo zo (by rw [hd];omega) (by rw [hd];omega)) (zR ?_)
   rw [hd];refine E.b7 (fun hk=>?_) (fun hk=>?_)
   ·refine zR ?_;refine zC ?_;refine zR ?_;refine g9 _ (fun w hw=>L9 (hP _ hw) _ zo zo) (zR ?_);refine A5 _ (fun w _=>a8a _ _ _ zo zo (by rw [hd];omega) (by rw [hd];omega)) (zR ?_)
    rw [hd];refine E.b7 (fun hr=>?_) (fun hr=>?_)
    ·refine zR ?_;intro r3 hr3;have hr4:r3=(2:Int)^n:=hr3.trans hpw;clear hr3;refine zR ?_;refine ⟨n+1,⟨m7 ?_,m7 (by rw [g7 zo zo];rfl),trivial⟩,zo,zo⟩
     rw [fin true (by simp [hb',hk,hr]),hr4,g7 zo zo];simp
    ·refine zR ?_;refine ⟨n+1,⟨m7 ?_,m7 (by rw [g7 zo zo];rfl),trivial⟩,zo,zo⟩
     rw [fin false (by simp [hr])];simp
   ·refine zR ?_;refine ⟨n+1,⟨m7 ?_,m7 (by rw [g7 zo zo];rfl),trivial⟩,zo,zo⟩
    rw [fin false (by simp [hk])];simp
  ·have hb':Ch.P8 p.castle n=false:=by
    cases hx:Ch.P8 p.castle n with
    | false=>rfl
    | true=>exact absurd (hbi.2 hx) hb
   refine zR ?_;refine ⟨n+1,⟨m7 ?_,m7 (by rw [g7 zo zo];rfl),trivial⟩,zo,zo⟩
   rw [fin false (by simp [hb'])];simp
 ·refine zR ?_;intro w' hw';refine zG ?_;have:n=4:=by omega
  subst this;exact ⟨rfl,hEx hw'⟩
theorem a5J (c:Int) (m:Mv) (n:Nat) (h0:0≤c) (h1:c≤15) (hn:n≤4):0≤Ch.V4 c m n∧Ch.V4 c m n≤15:=by
 induction n with
 | zero=>exact ⟨h0,h1⟩
 | succ n ih =>
  have h2:=ih zo;have h3:=a9k ⟨n,zo⟩;simp only [Ch.V4] at h3 ⊢;split
  ·rename_i hb;simp only [Bool.and_eq_true] at hb;have hb:=hb.1;have key:∀ c:Fin 16,∀ n:Fin 4,Ch.P8 (c.val:Int) n.val=true→(2:Int)^n.val≤c.val:=by decide +kernel
   have:=key ⟨(Ch.V4 c m n).toNat,zo⟩ ⟨n,zo⟩ (by simp only [Int.toNat_of_nonneg h2.1];exact hb)
   simp only [Int.toNat_of_nonneg h2.1] at this;omega
  ·exact h2
theorem zA {A B:Prop} (h:B) (e:PLift B→A:=by (intro h;(first | (refine E.y6 (P2.2 ⟨?_,?_⟩) ?_;(· exact zO);(· exact zO);refine zR ?_) | (refine g9 _ (fun w hw=>E5 (hP _ hw)) ?_;refine zR ?_) | (refine g9 _ (fun w hw=>a1f (hP _ hw)) ?_;refine zR ?_) | (refine g9 _ (fun w hw=>a3R (hP _ hw)) ?_;refine zR ?_) | (refine g9 _ (fun w hw=>a6U (hP _ hw)) ?_;refine zR ?_) | (refine g9 _ (fun w hw=>a9i (hP _ hw)) ?_;refine zR ?_) | (refine g9 _ (fun w hw=>y7 (hP _ hw)) ?_;refine zR ?_) | (refine g9 _ (fun w hw=>L6 (hM _ hw)) ?_;refine zR ?_) | (refine g9 _ (fun w hw=>a0g (hM _ hw)) ?_;refine zR ?_) | (refine g9 _ (fun w hw=>Z5 (hM _ hw)) ?_;refine zR ?_) | (refine g9 _ (fun w hw=>P9 (hM _ hw)) ?_;refine zR ?_) | (refine g9 _ (fun w hw=>L9 (hP _ hw) _ ?_ ?_) ?_;(· exact zO);(· exact zO);refine zR ?_) | (refine A5 _ (fun w _=>a1G _ _ ?_) ?_;(· exact zO);refine zR ?_) | (refine A5 _ (fun w _=>V5 _ _ ?_ ?_) ?_;(· exact zO);(· exact zO);refine zR ?_) | (refine A5 _ (fun w _=>N9 _ _ ?_ ?_) ?_;(· exact zO);(· exact zO);refine zR ?_) | (refine A5 _ (fun w _=>a1j _ _) ?_;refine zR ?_) | (refine A5 _ (fun w _=>a8a _ _ _ ?_ ?_ ?_ ?_) ?_;(· exact zO);(· exact zO);(· exact zO);(· exact zO);refine zR ?_) | (refine A5 _ (fun w _=>a5k _ _ _ ?_ ?_ ?_ ?_) ?_;(· exact zO);(· exact zO);(· exact zO);(· exact zO);refine zR ?_) | (refine A5 _ (fun w _=>b4j _ _ ?_ ?_) ?_;(· exact zO);(· exact zO);refine zR ?_));exact h.down)):A:=e ⟨h⟩
theorem b9O (c:Int) (m:Mv) (w:World) (h0:0≤c) (h1:c≤15):Calls G.P 92 #[.int .i64 c,G5 m] w (K4 (.int .i64 (Ch.left c m)) w):=by
 refine E.enter (G:=G) Tryz.func92 rfl (by simp [Tryz.ntmps92]) zk ?_
 refine a2F (a4x ?_);refine zG ?_;refine U0 (Cl _) (Cl.refl _) (fun _=>Cl.drew) zk ?_;have hM:∀ w',Cl (w.alloc (.cells (K2 m) 36)) w'→w'.heap[w.heap.size]?=some (.cells (K2 m) 36 (0,0)):=fun w' h=>h.blk (q8 _ _);refine zR ?_;refine a4z [0,5,6,7] 8 (fun n:Nat=>[(0,.int .i64 (Ch.V4 c m n)),(5,.int .i64 n)]) (fun n=>n≤4) (fun n=>4-n) zk 0 zo ⟨rfl,rfl,trivial⟩ ?_;intro n j hn;have hle:=a5J c m n h0 h1 hn;refine zR ?_;apply E.b7<;>intro h
 ·have hn4:n<4:=by omega
  have hp2:=a9k ⟨n,hn4⟩;have hpw:=b3g ⟨n,hn4⟩;simp only at hp2 hpw;have fin:∀ b:Bool,(b=(Ch.P8 (Ch.V4 c m n) n&&(decide (m.fr=Ch.homeK n)||decide (m.fr=Ch.A0 n)||decide (m.to=Ch.homeK n)||decide (m.to=Ch.A0 n))))→Ch.V4 c m (n+1)=(if b then Ch.V4 c m n-(2:Int)^n else Ch.V4 c m n):=fun b hb=>by subst hb;simp only [Ch.V4]
  refine zR ?_;refine A5 _ (fun w _=>b1N _ _ zo zo) (zR ?_);intro r1 hr1;refine zR ?_;intro r2 hr2;have hbi:=a9j hle.1 hle.2 hn4;rw [← hr1,← hr2] at hbi;clear hr1 hr2;(refine zR ?_);(repeat' (first | refine zA ?_ | (refine E.b7 (fun _=>?_) (fun _=>?_)<;>(refine zR ?_)) | (refine E.r9 (fun _=>?_) (fun _=>?_)<;>(refine zR ?_)) | (fail) | (refine E.Z2 (fun _=>?_) (fun _=>?_)<;>(refine zR ?_))))
  all_goals first
   | (intro r3 hr3
      have hr4:r3=(2:Int)^n:=hr3.trans hpw;clear hr3;refine zR ?_;have hx:Ch.P8 (Ch.V4 c m n) n=true:=hbi.1 ‹_›;have hlow:=a5J c m (n+1) h0 h1 zo;rw [fin true (by simp [hx, *])] at hlow
      simp only [if_true] at hlow;refine ⟨n+1,⟨m7 ?_,m7 (by rw [g7 zo zo];rfl),trivial⟩,zo,zo⟩
      rw [fin true (by simp [hx, *]),hr4,g7 zo zo];simp)
   | (refine ⟨n+1,⟨m7 ?_,m7 (by rw [g7 zo zo];rfl),trivial⟩,zo,zo⟩
      rw [fin false (by simp [*];try (intro hb;exact absurd (hbi.2 hb) ‹_›))];simp)
 ·refine zR ?_;intro w' hw';refine zG ?_;have:n=4:=by omega
  subst this;exact ⟨rfl,hEx hw'⟩
theorem hP2 {p:A3} {m:Mv} {w w':World} (h:Cl ((w.alloc (.cells (o9 p) 24)).alloc (.cells (K2 m) 36)) w'):w'.heap[w.heap.size]?=some (.cells (o9 p) 24 (0,0)) :=
 h.blk ((Cl.alloc _ _).blk (q8 _ _))
theorem hM2 {p:A3} {m:Mv} {w w':World} (h:Cl ((w.alloc (.cells (o9 p) 24)).alloc (.cells (K2 m) 36)) w'):w'.heap[(w.alloc (.cells (o9 p) 24)).heap.size]?=some (.cells (K2 m) 36 (0,0)) :=
 h.blk (q8 _ _)
theorem hE2 {w w':World} {o o':Obj} (h:Cl ((w.alloc o).alloc o') w'):Cl w w':=((Cl.alloc w _).trans (Cl.alloc _ _)).trans h
def b0h (m:Mv):Prop:=(0≤m.fr∧m.fr≤63)∧(0≤m.to∧m.to≤63)∧(0≤m.promo∧m.promo≤6)
theorem b7L (p:A3) (m:Mv) (hp:Pc p) (hm:b0h m) (w:World):Calls G.P 91 #[C4 p,G5 m] w (K4 (.tuple #[.int .i64 (Ch.D8 p m),.bool (Ch.takes p m)]) w):=by
 obtain ⟨⟨f0,f1⟩,⟨t0,t1⟩,_,_⟩:=hm;refine E.enter (G:=G) Tryz.func91 rfl (by simp [Tryz.ntmps91]) zk ?_
 refine a2F (a4x ?_);refine zG ?_;refine U0 (Cl _) (Cl.refl _) (fun _=>Cl.drew) zk ?_;have hP:=fun w' (h:Cl ((w.alloc (.cells (o9 p) 24)).alloc (.cells (K2 m) 36)) w')=>hP2 h;have hM:=fun w' (h:Cl ((w.alloc (.cells (o9 p) 24)).alloc (.cells (K2 m) 36)) w')=>hM2 h;(refine zR ?_);(repeat' (first | refine zA ?_ | (refine E.b7 (fun _=>?_) (fun _=>?_)<;>(refine zR ?_)) | (refine E.r9 (fun _=>?_) (fun _=>?_)<;>(refine zR ?_)) | (fail) | (refine E.Z2 (fun _=>?_) (fun _=>?_)<;>(refine zR ?_))))
 all_goals
  intro w' hw';refine zG ?_;exact ⟨b0f (m7 (by simp [Ch.D8,Ch.takes, *])) (p9 (by simp [Ch.takes, *])),hE2 hw'⟩
theorem a8q {f r:Int} (h0:0≤f) (h1:f≤7) (h2:0≤r) (h3:r≤7):Ch.H2 f r=8*r+f:=by unfold Ch.H2;rw [if_neg zo]
theorem b59 (p:A3) (w:World) (ht:p.turn=0∨p.turn=1):Calls G.P 84 #[C4 p] w (K4 (.bool (Ch.J9 p)) w):=by
 refine E.enter (G:=G) Tryz.func84 rfl (by simp [Tryz.ntmps84]) zk ?_
 refine a2F (a4x ?_);refine zG ?_;refine U0 (Cl _) (Cl.refl _) (fun _=>Cl.drew) zk ?_;have hP:=fun w' (h:Cl (w.alloc (.cells (o9 p) 24)) w')=>hCl h;have hend:∀ b w',Ch.J9 p=b→Cl (w.alloc (.cells (o9 p) 24)) w'→K4 (.bool (Ch.J9 p)) w (.returned (.bool b)) w':=fun b w' h h'=>⟨by rw [h],hEx h'⟩
 refine zR ?_;refine g9 _ (fun w hw=>a3R (hP _ hw)) (zR ?_);apply E.b7<;>intro h
 ·(refine zR ?_);(repeat' (first | refine zA ?_ | (refine E.b7 (fun _=>?_) (fun _=>?_)<;>(refine zR ?_)) | (refine E.r9 (fun _=>?_) (fun _=>?_)<;>(refine zR ?_)) | (fail) | (refine E.Z2 (fun _=>?_) (fun _=>?_)<;>(refine zR ?_))))
  all_goals (intro w' hw';refine zG ?_;exact hend _ _ (by simp [Ch.J9, *]) hw')
 have h1:=h;clear h;refine zR ?_;refine g9 _ (fun w hw=>a3R (hP _ hw)) (zR ?_);apply E.b7<;>intro h
 ·(refine zR ?_);(repeat' (first | refine zA ?_ | (refine E.b7 (fun _=>?_) (fun _=>?_)<;>(refine zR ?_)) | (refine E.r9 (fun _=>?_) (fun _=>?_)<;>(refine zR ?_)) | (fail) | (refine E.Z2 (fun _=>?_) (fun _=>?_)<;>(refine zR ?_))))
  all_goals (intro w' hw';refine zG ?_;exact hend _ _ (by simp [Ch.J9, *]) hw')
 have hr:0≤Ch.g8 p.ep∧Ch.g8 p.ep≤7:=by unfold Ch.g8;omega
 have hf:0≤Ch.l9 p.ep∧Ch.l9 p.ep≤7:=by unfold Ch.l9;omega
 have hd:Ch.J9 p=if Ch.g8 p.ep≠5-3*p.turn∨Ch.sq p p.ep≠0 then false else
  decide (Ch.sq p (Ch.H2 (Ch.l9 p.ep) (Ch.g8 p.ep-(1-2*p.turn)))=6+6*(1-p.turn))&&decide (Ch.sq p (Ch.H2 (Ch.l9 p.ep) (Ch.g8 p.ep+(1-2*p.turn)))=0):=by
  unfold Ch.J9;rw [if_neg zo]
 have hp3:IntKind.i64.wrap (3*p.turn)=3*p.turn:=g7 zo zo;have h53:IntKind.i64.wrap (5-3*p.turn)=5-3*p.turn:=g7 zo zo;have h2t:IntKind.i64.wrap (2*p.turn)=2*p.turn:=g7 zo zo;have h12:IntKind.i64.wrap (1-2*p.turn)=1-2*p.turn:=g7 zo zo;have h1t:IntKind.i64.wrap (1-p.turn)=1-p.turn:=g7 zo zo;have hm:IntKind.i64.wrap (Ch.g8 p.ep-(1-2*p.turn))=Ch.g8 p.ep-(1-2*p.turn):=g7 zo zo;have ha:IntKind.i64.wrap (Ch.g8 p.ep+(1-2*p.turn))=Ch.g8 p.ep+(1-2*p.turn):=g7 zo zo;have h2:=h;clear h;have hl:0≤p.ep:=by omega
 refine zR ?_;refine g9 _ (fun w hw=>E5 (hP _ hw)) (zR ?_);refine g9 _ (fun w hw=>a3R (hP _ hw)) (zR ?_);refine A5 _ (fun w _=>a1G _ _ hl) (zR ?_);refine g9 _ (fun w hw=>a3R (hP _ hw)) (zR ?_);refine A5 _ (fun w _=>V5 _ _ hl zo) ?_;rw [h2t,h12];refine zR ?_;refine g9 _ (fun w hw=>E5 (hP _ hw)) (zR ?_);rw [hp3,h53];refine E.r9 (fun hx=>?_) (fun hx=>?_)
 ·(refine zR ?_);(repeat' (first | refine zA ?_ | (refine E.b7 (fun _=>?_) (fun _=>?_)<;>(refine zR ?_)) | (refine E.r9 (fun _=>?_) (fun _=>?_)<;>(refine zR ?_)) | (fail) | (refine E.Z2 (fun _=>?_) (fun _=>?_)<;>(refine zR ?_))))
  all_goals (intro w' hw';refine zG ?_;exact hend _ _ (by rw [hd];simp [*]) hw')
 refine zR ?_;refine g9 _ (fun w hw=>a3R (hP _ hw)) (zR ?_);refine zC ?_;refine zR ?_;refine g9 _ (fun w hw=>L9 (hP _ hw) _ zo zo) (zR ?_);refine E.r9 (fun hy=>?_) (fun hy=>?_)
 ·(refine zR ?_);(repeat' (first | refine zA ?_ | (refine E.b7 (fun _=>?_) (fun _=>?_)<;>(refine zR ?_)) | (refine E.r9 (fun _=>?_) (fun _=>?_)<;>(refine zR ?_)) | (fail) | (refine E.Z2 (fun _=>?_) (fun _=>?_)<;>(refine zR ?_))))
  all_goals (intro w' hw';refine zG ?_;exact hend _ _ (by rw [hd];simp [*]) hw')
 have a1:Ch.H2 (Ch.l9 p.ep) (Ch.g8 p.ep-(1-2*p.turn))=8*(Ch.g8 p.ep-(1-2*p.turn))+Ch.l9 p.ep:=a8q hf.1 hf.2 zo zo;have a2:Ch.H2 (Ch.l9 p.ep) (Ch.g8 p.ep+(1-2*p.turn))=8*(Ch.g8 p.ep+(1-2*p.turn))+Ch.l9 p.ep:=a8q hf.1 hf.2 zo zo;rw [if_neg zo] at hd;refine zR ?_;rw [hm];refine A5 _ (fun w _=>a5k _ _ _ zo zo zo zo) (zR ?_);refine zC ?_;refine zR ?_;refine g9 _ (fun w hw=>L9 (hP _ hw) _ zo zo) (zR ?_);refine g9 _ (fun w hw=>E5 (hP _ hw)) (zR ?_);rw [h1t];refine A5 _ (fun w _=>a8a _ _ _ zo zo zo zo) (zR ?_);refine E.b7 (fun hz=>?_) (fun hz=>?_)
 ·refine zR ?_;rw [ha];refine A5 _ (fun w _=>a5k _ _ _ zo zo zo zo) (zR ?_);refine zC ?_;refine zR ?_;refine g9 _ (fun w hw=>L9 (hP _ hw) _ zo zo) (zR ?_);intro w' hw';refine zG ?_;exact hend _ _ (by rw [hd];simp [hz]) hw'
 ·refine zR ?_;intro w' hw';refine zG ?_;exact hend _ _ (by rw [hd];simp [hz]) hw'
theorem c1s {p:A3} (h:Ch.anyN (fun i=>!Ch.H3 p i) 64=false):Pc p:=by
 intro i;by_cases hi:i.toNat<64
 ·have h1:¬ (∃ j,j<64∧(!Ch.H3 p j)=true):=fun hx=>by rw [(Ch.a2H _ _).2 hx] at h;cases h
  have h2:Ch.H3 p i.toNat=true:=by
   cases hb:Ch.H3 p i.toNat with
   | true=>rfl
   | false=>exact absurd ⟨i.toNat,hi,by simp [hb]⟩ h1
  have e:Ch.sq p ((i.toNat:Nat):Int)=Ch.sq p i:=by unfold Ch.sq;rw [Int.toNat_natCast]
  rw [← e];unfold Ch.H3 at h2;generalize Ch.sq p ((i.toNat:Nat):Int)=x at *;simp at h2;omega
 ·unfold Ch.sq;rw [List.getD_eq_getElem?_getD,List.getElem?_eq_none (by rw [p.len];omega)]
  decide
theorem b0i {f:Nat→Bool}:∀ n,Ch.W9 f n=none→Ch.cntN f n=0
 | 0,_=>rfl
 | n+1,h=>by
  unfold Ch.W9 at h;split at h
  ·cases h
  ·rename_i h1;split at h
   ·cases h
   ·rename_i h2;simp [Ch.cntN,b0i n h1,h2]
theorem b1O {p:A3} {s:Int} (h:Ch.count p 1 s=1):0≤Ch.kingAt p s:=by
 unfold Ch.kingAt;split
 ·omega
 ·rename_i h1;have:=b0i _ h1;unfold Ch.count at h;omega
theorem b7M (p:A3) (w:World):Calls G.P 36 #[C4 p] w (K4 (.bool (Ch.valid p)) w):=by
 refine E.enter (G:=G) Tryz.func36 rfl (by simp [Tryz.ntmps36]) zk ?_
 refine a2F (a4x ?_);refine zG ?_;refine U0 (Cl _) (Cl.refl _) (fun _=>Cl.drew) zk ?_;have hP:=fun w' (h:Cl (w.alloc (.cells (o9 p) 24)) w')=>hCl h;have hend:∀ b w',Ch.valid p=b→Cl (w.alloc (.cells (o9 p) 24)) w'→K4 (.bool (Ch.valid p)) w (.returned (.bool b)) w':=fun b w' h h'=>⟨by rw [h],hEx h'⟩
 refine zR ?_;refine a4z [2,3,4] 5 (fun n:Nat=>[(3,.int .i64 n)]) (fun n=>n≤64∧Ch.anyN (fun i=>!Ch.H3 p i) n=false) (fun n=>64-n) zk 0 ⟨zo,rfl⟩ ⟨rfl,trivial⟩ ?_;intro n j ⟨hn,hf⟩;refine zR ?_;apply E.b7<;>intro h
 ·have hi:n<64:=by omega
  have hbad:Ch.H3 p n=false→Ch.valid p=false:=fun h=>by
   have:Ch.anyN (fun i=>!Ch.H3 p i) 64=true:=Ch.a3m hi (by simp [h])
   simp [Ch.valid,this]
  have hgood:Ch.H3 p n=true→Ch.anyN (fun i=>!Ch.H3 p i) (n+1)=false:=fun h=>by simp [Ch.anyN,hf,h]
  refine zR ?_;refine zC ?_;refine zR ?_;refine g9 _ (fun w hw=>L9 (hP _ hw) (n:Int) zo zo) ?_;(refine zR ?_);(repeat' (first | refine zA ?_ | (refine E.b7 (fun _=>?_) (fun _=>?_)<;>(refine zR ?_)) | (refine E.r9 (fun _=>?_) (fun _=>?_)<;>(refine zR ?_)) | (fail) | (refine E.Z2 (fun _=>?_) (fun _=>?_)<;>(refine zR ?_))))
  all_goals first
   | (intro w' hw';refine zG ?_;exact hend _ _ (hbad (by simp [Ch.H3, *])) hw')
   | exact ⟨n+1,⟨m7 (by rw [g7 zo zo];rfl),trivial⟩,⟨zo,hgood (by simp [Ch.H3, *])⟩,zo⟩
   | (refine ⟨n+1,⟨m7 (by rw [g7 zo zo];rfl),trivial⟩,⟨zo,hgood (by simp_all [Ch.H3];try omega)⟩,zo⟩)
 ·have:n=64:=by omega
  subst this;have hp:=c1s hf;have hv:Ch.valid p=(!((!decide (p.turn=0) && !decide (p.turn=1))||decide (p.castle<0)||decide (15<p.castle)||decide (p.half<0)||decide (p.full<1)) &&
   !(!decide (Ch.count p 1 0=1) || !decide (Ch.count p 1 1=1) || !decide (Ch.rights p=p.castle) || !Ch.J9 p) && !Ch.z7 p (Ch.kingAt p (1-p.turn)) p.turn):=by
   unfold Ch.valid;rw [hf];simp
  refine zG ?_;refine a8n (σ:=Unit) [2] 5 (fun _=>[]) (fun _=>(p.turn=0∨p.turn=1)∧0≤p.castle∧p.castle≤15∧0≤p.half∧1≤p.full) zk ?_ (fun _ j hk=>?_)
  ·(refine zR ?_);(repeat' (first | refine zA ?_ | (refine E.b7 (fun _=>?_) (fun _=>?_)<;>(refine zR ?_)) | (refine E.r9 (fun _=>?_) (fun _=>?_)<;>(refine zR ?_)) | (fail) | (refine E.Z2 (fun _=>?_) (fun _=>?_)<;>(refine zR ?_))))
   all_goals first
    | (intro w' hw';refine zG ?_;exact hend _ _ (by rw [hv];simp [*]) hw')
    | exact ⟨(),trivial,zo,zo,zo,zo,zo⟩
  obtain ⟨k1,k2,k3,k4,k5⟩:=hk;refine a8n (σ:=Unit) [2] 5 (fun _=>[]) (fun _=>Ch.count p 1 0=1∧Ch.count p 1 1=1∧Ch.rights p=p.castle∧Ch.J9 p=true) zk ?_ (fun _ j hk=>?_)
  ·(refine zR ?_);(repeat' (first | refine zA ?_ | (refine E.b7 (fun _=>?_) (fun _=>?_)<;>(refine zR ?_)) | (refine E.r9 (fun _=>?_) (fun _=>?_)<;>(refine zR ?_)) | (refine C7 _ (fun _ _ h=>h.trans) (fun w _=>b7J _ _ _ _ ?_ ?_ ?_ ?_) ?_;(· exact zO);(· exact zO);(· exact zO);(· exact zO);refine zR ?_) | (refine C7 _ (fun _ _ h=>h.trans) (fun w _=>b0g _ _ ?_ ?_) ?_;(· exact zO);(· exact zO);refine zR ?_) | (refine C7 _ (fun _ _ h=>h.trans) (fun w _=>b59 _ _ ?_) ?_;(· exact zO);refine zR ?_) | (refine E.Z2 (fun _=>?_) (fun _=>?_)<;>(refine zR ?_))))
   all_goals first
    | (intro w' hw';refine zG ?_;exact hend _ _ (by rw [hv];simp_all;try omega) hw')
    | exact ⟨(),trivial,zo,zo,zo,by simp_all⟩
  obtain ⟨c0,c1,c2,c3⟩:=hk;have h1t:IntKind.i64.wrap (1-p.turn)=1-p.turn:=g7 zo zo;have hkr:=Ch.U1 p (1-p.turn);have hkt:0≤Ch.kingAt p (1-p.turn):=b1O (by rcases k1 with h | h<;>rw [h]<;>assumption)
  refine zR ?_;refine g9 _ (fun w hw=>y7 (hP _ hw)) (zR ?_);refine g9 _ (fun w hw=>y7 (hP _ hw)) (zR ?_);refine g9 _ (fun w hw=>E5 (hP _ hw)) (zR ?_);rw [h1t];refine C7 _ (fun _ _ h=>h.trans) (fun w _=>a6W p _ _ zo zo) (zR ?_);refine g9 _ (fun w hw=>E5 (hP _ hw)) (zR ?_);refine C7 _ (fun _ _ h=>h.trans) (fun w _=>a1k p hp _ _ _ hkt zo) (zR ?_);intro w' hw';refine zG ?_;exact hend _ _ (by
   have e1:decide (p.castle<0)=false:=decide_eq_false zo;have e2:decide (15<p.castle)=false:=decide_eq_false zo;have e3:decide (p.half<0)=false:=decide_eq_false zo;have e4:decide (p.full<1)=false:=decide_eq_false zo;rw [hv,e1,e2,e3,e4];rcases k1 with h | h<;>simp [h,c0,c1,c2,c3]) hw'
end
end Go.Proofs.YtpclhlhcegcflaaGreatDoor
