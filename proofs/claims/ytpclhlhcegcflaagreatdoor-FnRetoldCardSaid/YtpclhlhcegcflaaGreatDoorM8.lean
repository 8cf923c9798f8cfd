/- One part of the proof: Sp11 Sp12 Clo Cas Clo2. -/
import Derived.Test.YtpclhlhcegcflaaGreatDoorM1
import Derived.Test.YtpclhlhcegcflaaGreatDoorM3
import Derived.Test.YtpclhlhcegcflaaGreatDoorM7
namespace Go.Proofs.YtpclhlhcegcflaaGreatDoor
set_option maxRecDepth 100000
set_option linter.unusedSimpArgs false
set_option linter.unusedVariables false
section
open Go Go.RowKit
open E
def a4A (a b:Mv):Bool:=if a.fr≠b.fr then decide (a.fr<b.fr) else if a.to≠b.to then decide (a.to<b.to) else decide (a.promo<b.promo)
theorem b6b (a b:Mv) (w:World):Calls G.P 218 #[G5 a,G5 b] w (K4 (.bool (a4A a b)) w):=by
 refine zN Tryz.func218 ?_;refine zG ?_;generalize hW:(w.alloc (.cells (K2 a) 36)).alloc (.cells (K2 b) 36)=W0;have hA:W0.heap[w.heap.size]?=some (.cells (K2 a) 36 (0,0)):=hW▸(Cl.alloc _ _).blk (q8 _ _);have hB:W0.heap[(w.alloc (.cells (K2 a) 36)).heap.size]?=some (.cells (K2 b) 36 (0,0)):=hW▸q8 _ _;have hE:Cl w W0:=hW▸(Cl.alloc _ _).trans (Cl.alloc _ _);refine zR ?_;refine d7 _ (L6 hA) (zR ?_);refine d7 _ (L6 hB) (zR ?_);apply E.r9<;>intro h
 ·refine zR ?_;refine d7 _ (L6 hA) (zR ?_);refine d7 _ (L6 hB) (zR ?_);exact ⟨by simp [a4A,h],hE⟩
 have h1:=h;clear h;refine zR ?_;refine d7 _ (a0g hA) (zR ?_);refine d7 _ (a0g hB) (zR ?_);apply E.r9<;>intro h
 ·refine zR ?_;refine d7 _ (a0g hA) (zR ?_);refine d7 _ (a0g hB) (zR ?_);exact ⟨by simp [a4A,h1,h],hE⟩
 refine zR ?_;refine d7 _ (Z5 hA) (zR ?_);refine d7 _ (Z5 hB) (zR ?_);exact ⟨by simp [a4A,h1,h],hE⟩
theorem b4v (l:List Mv) (v:Value) (w:World) (b1:Nat) (hr:Row 36 3 E9 b1 w v l) (hl:l.length≤50000) :
  Calls G.P 179 #[v] w (fun r w'=>∃ v l',r = .returned v∧l'.Perm l∧Row 36 3 E9 w.heap.size w' v l'∧Cl w w'):=by
 obtain ⟨a,c,rfl,_⟩:=hr.form;refine zN Tryz.func179 ?_;refine zG ?_;refine zR ?_;refine b3p c3d ?_;have r0:Row 36 3 E9 w.heap.size (w.alloc (.cells #[] 36)) (.slice (some ⟨w.heap.size,0,none⟩) 0 0) []:=H9 B0 w [] (by simp) [] rfl
 have hr1:=hr.step (Cl.alloc w (.cells #[] 36));generalize hW0:w.alloc (.cells #[] 36)=W0 at *;have c0:Cl w W0:=hW0▸Cl.alloc _ _;refine zR ?_;refine J2 (v:=.slice (some ⟨w.heap.size,0,none⟩) 0 0) c3d rfl r0 rfl hr1 B0 I3 (by simp;omega) zd c0.size (fun v' w1 hr2 hg=>?_)
 have c1:Cl w w1:=hg.cl w rfl c0;have hg2:∃ g c',v' = .slice (some ⟨g,0,none⟩) l.length c':=by
  obtain ⟨a',c',rfl,_⟩:=hr2.form;rcases hg.at_ with e | ⟨k,e,_⟩
  ·cases a' with
   | none=>simp [Value.ownBlock] at e
   | some ad =>
    rcases hr2.2 with ⟨e1,_⟩ | ⟨g,cap,cur,e1,_⟩
    ·cases e1
    ·injection e1 with e1 _ _;injection e1 with e1;subst e1;exact ⟨g,c',by simp⟩
  ·cases a' with
   | none=>simp [Value.ownBlock] at e
   | some ad =>
    rcases hr2.2 with ⟨e1,_⟩ | ⟨g,cap,cur,e1,_⟩
    ·cases e1
    ·injection e1 with e1 _ _;injection e1 with e1;subst e1;exact ⟨g,c',by simp⟩
 obtain ⟨g,c',rfl⟩:=hg2;simp only [List.nil_append] at hr2;clear hg;refine zR ?_;refine A9 (σ:=Nat×List Mv) [4,5] 6 (fun a=>[(4,.int .i64 a.1)]) (fun a w'=>1≤a.1∧(a.1≤l.length∨a.1=1)∧a.2.Perm l∧Row 36 3 E9 w.heap.size w' (.slice (some ⟨g,0,none⟩) l.length c') a.2∧Cl w w') (fun a=>l.length-a.1) zk (1,l)
  ⟨Nat.le_refl _,.inr rfl,List.Perm.refl _,hr2,c1⟩ ⟨rfl,trivial⟩ ?_
 rintro ⟨i,l1⟩ j w2 ⟨hi1,hi2,hp,hrow,hcl⟩;simp only at hi1 hi2 hp hrow;refine zR ?_;apply E.b7<;>intro h
 ·have hil:i<l.length:=by simp only at h;omega
  clear h;refine zR ?_;refine A9 (σ:=Nat×List Mv) [5] 6 (fun a=>[(5,.int .i64 a.1)]) (fun a w'=>a.1≤i∧a.2.Perm l∧Row 36 3 E9 w.heap.size w' (.slice (some ⟨g,0,none⟩) l.length c') a.2∧Cl w w') (fun a=>a.1) zk (i,l1)
   ⟨Nat.le_refl _,hp,hrow,hcl⟩ ⟨rfl,trivial⟩ ?_
  rintro ⟨k,l2⟩ j2 w3 ⟨hk,hp2,hrow,hcl⟩;simp only at hk hp2 hrow;have hlen:=hp2.length_eq;have ldK:∀ w',Cl w3 w'→∀ m (hm:m<l2.length) o,o=m*3→l8 G.P w' 36 ⟨g,o,none⟩ (G5 l2[m]):=fun w' hw m hm o ho=>a2n (hrow.step hw) B0 m hm rfl ho rfl;refine zR ?_;refine zK 14 ?_;refine zR ?_;apply E.b7<;>intro h
  ·have hk0:0<k:=by simp only at h;omega
   have hk2:k<l2.length:=by omega
   clear h;obtain ⟨k1,rfl⟩:∃ k1,k=k1+1:=⟨k-1,zo⟩;have m1:IntKind.i64.wrap (((k1+1:Nat):Int)-1)=(k1:Int):=by rw [g7 zo zo];omega
   refine zR ?_;refine zC ?_;refine zR ?_;refine g9 _ (fun w hw=>ldK w hw (k1+1) hk2 _ ?_) ?_
   ·simp [E.z6]
   refine zR ?_;simp only [m1];refine zC ?_;refine zR ?_;refine g9 _ (fun w hw=>ldK w hw k1 zo _ ?_) ?_
   ·simp [E.z6]
   refine zR ?_;refine C7 _ (fun _ _ h=>h.trans) (fun w _=>b6b _ _ _) ?_;cases hT:a4A l2[k1+1] l2[k1]
   ·refine zR ?_;intro w4 c4;refine zR ?_;refine ⟨(i+1,l2),⟨m7 (by rw [g7 zo zo];push_cast;omega),trivial⟩,⟨by simp only;omega,by simp only;omega,hp2,hrow.step c4,hcl.trans c4⟩,by simp only;omega⟩
   ·refine zR ?_;intro w4 c4;have hrow4:=hrow.step c4;have hcl4:=hcl.trans c4;have ldK4:∀ w',Cl w4 w'→∀ m (hm:m<l2.length) o,o=m*3→l8 G.P w' 36 ⟨g,o,none⟩ (G5 l2[m]):=fun w' hw m hm=>ldK w' (c4.trans hw) m hm;refine zR ?_;refine I8.mk2 [0,1,2,3,4,5,6,7,8,10,11,12] (.cons 9 (.cons 13 (.cons 14 (.cons 15 (.cons 16 (.cons 17 .done .nil) .nil) .nil) .nil) .nil) (.cons 13 (.cons 9 (.cons 14 (.cons 15 (.cons 16 (.cons 17 .done .nil) .nil) .nil) .nil) .nil) .nil)) zk (zR ?_);simp only [m1];refine zC ?_;refine zR ?_;refine zC ?_;refine zR ?_;have cd:Cl w4 w4.drew:=Cl.drew (Cl.refl _);have hcd:Cl w w4.drew:=hcl4.trans cd;obtain ⟨cs,g1,g2,g3,t1⟩:=(hrow4.step cd).turn B0 (k1+1) hk2 l2[k1];refine And.intro ?_ (And.intro ?_ trivial)
    ·refine zR ?_;refine d7 _ (ldK4 _ cd k1 zo _ (by simp [E.z6])) (zE ?_)
     refine d7 _ (ldK4 _ cd (k1+1) hk2 _ (by simp [E.z6])) (zE ?_)
     refine zC ?_;refine zE ?_;refine J6 g1 (E9 l2[k1]) rfl b1M rfl (I3 _) (by rw [E.z6];omega) (fun w5 u5=>?_)
     have hr5:=t1 w5 (by rw [E.z6] at u5;simpa using u5)
     have hc5:Cl w w5:=u5.cl hcd g3;obtain ⟨cs2,q1,q2,q3,q4⟩:=hr5.turn B0 k1 (by rw [List.length_set];omega) l2[k1+1]
     refine zE ?_;simp only [m1];refine zC ?_;refine zE ?_;refine J6 q1 (E9 l2[k1+1]) rfl b1M rfl (I3 _) (by rw [E.z6];omega) (fun w6 u6=>?_)
     have hr6:=q4 w6 (by rw [E.z6] at u6;simpa using u6)
     have hc6:Cl w w6:=u6.cl hc5 q3;refine zR ?_;refine ⟨(k1,(l2.set (k1+1) l2[k1]).set k1 l2[k1+1]),⟨m7 m1,trivial⟩,⟨by simp only;omega,(a8v l2 k1 hk2).trans hp2,hr6,hc6⟩,by simp only;omega⟩
    ·refine zR ?_;refine d7 _ (ldK4 _ cd (k1+1) hk2 _ (by simp [E.z6])) (zE ?_)
     refine d7 _ (ldK4 _ cd k1 zo _ (by simp [E.z6])) (zE ?_)
     refine zC ?_;refine zE ?_;refine J6 g1 (E9 l2[k1]) rfl b1M rfl (I3 _) (by rw [E.z6];omega) (fun w5 u5=>?_)
     have hr5:=t1 w5 (by rw [E.z6] at u5;simpa using u5)
     have hc5:Cl w w5:=u5.cl hcd g3;obtain ⟨cs2,q1,q2,q3,q4⟩:=hr5.turn B0 k1 (by rw [List.length_set];omega) l2[k1+1]
     refine zE ?_;simp only [m1];refine zC ?_;refine zE ?_;refine J6 q1 (E9 l2[k1+1]) rfl b1M rfl (I3 _) (by rw [E.z6];omega) (fun w6 u6=>?_)
     have hr6:=q4 w6 (by rw [E.z6] at u6;simpa using u6)
     have hc6:Cl w w6:=u6.cl hc5 q3;refine zR ?_;refine ⟨(k1,(l2.set (k1+1) l2[k1]).set k1 l2[k1+1]),⟨m7 m1,trivial⟩,⟨by simp only;omega,(a8v l2 k1 hk2).trans hp2,hr6,hc6⟩,by simp only;omega⟩
  ·refine zR ?_;intro w4 c4;refine zR ?_;refine ⟨(i+1,l2),⟨m7 (by rw [g7 zo zo];push_cast;omega),trivial⟩,⟨by simp only;omega,by simp only;omega,hp2,hrow.step c4,hcl.trans c4⟩,by simp only;omega⟩
 ·have hil:l.length≤i:=by simp only at h;omega
  refine zR ?_;exact ⟨_,l1,rfl,hp,hrow,hcl⟩
theorem a5S (p:A3) (a b:Int):(Ch.J5 p a b).length≤4:=by
 unfold Ch.J5 Ch.a2K;repeat' split
 all_goals simp
theorem a8w (p:A3) (a:Int):(Ch.V8 p a).length≤56:=by
 unfold Ch.V8;split
 ·unfold Ch.P4;have h1:=a47 p a (Ch.t8 (Ch.sq p a));have h2:=a45 a (Ch.t8 (Ch.sq p a));have h3:=List.length_filter_le (Ch.H4 p (Ch.t8 (Ch.sq p a))) (Ch.I9 a (Ch.t8 (Ch.sq p a)));simp only [List.length_append];omega
 ·unfold Ch.a42;have h1:=a60 (fun d:Int×Int=>Ch.ray p a d.1 d.2 (Ch.far (Ch.kindOf (Ch.sq p a))) 7 1) 7 (fun d=>b3i _ _ _ _ _ _ _) (Ch.a6o (Ch.kindOf (Ch.sq p a)));have h2:=(a6Y (Ch.kindOf (Ch.sq p a))).1;have h3:(Ch.a6o (Ch.kindOf (Ch.sq p a))).length*7≤8*7:=Nat.mul_le_mul_right _ h2;exact Nat.le_trans h1 (Nat.le_trans h3 zd)
theorem a8c (p:A3) (a:Int):(Ch.N6 p a).length≤224:=by
 unfold Ch.N6;split
 ·simp
 ·have h1:=a60 (Ch.J5 p a) 4 (a5S p a) (Ch.V8 p a);have h2:(Ch.V8 p a).length*4≤56*4:=Nat.mul_le_mul_right _ (a8w p a);omega
theorem a3I (p:A3):∀ n,(Ch.a26 p n).length≤n*224:=by
 intro n
 induction n with
 | zero=>simp [Ch.a26]
 | succ n ih=>simp only [Ch.a26,List.length_append];have:=a8c p n;omega
theorem b6c (p:A3) (hI:Ch.B7 p) (w:World) :
  Calls G.P 115 #[C4 p] w (fun r w'=>∃ v l',r = .returned v∧l'.Perm (Ch.a1g p)∧Row 36 3 E9 w.heap.size w' v l'∧Cl w w'):=by
 have ht:=hI.turn;have hp:Pc p:=hI.pc;have hep:-1≤p.ep∧p.ep≤63:=⟨(Ch.I4 hI.pass).1,(Ch.I4 hI.pass).2.1⟩;refine zN Tryz.func115 ?_;refine zG ?_;refine zR ?_;generalize hW:w.alloc (.cells (o9 p) 24)=W0;have hP:∀ w',Cl W0 w'→w'.heap[w.heap.size]?=some (.cells (o9 p) 24 (0,0)):=fun w' h=>(hW▸h:Cl (w.alloc (.cells (o9 p) 24)) w').blk (q8 _ _);have hE:∀ w',Cl W0 w'→Cl w w':=fun w' h=>(Cl.alloc _ _).trans (hW▸h);have q1:IntKind.i64.wrap (7*p.turn)=7*p.turn:=g7 zo zo;have q2:IntKind.i64.wrap (7-7*p.turn)=7-7*p.turn:=g7 zo zo;refine zR ?_;refine A9 (σ:=Nat×Value) [3,4,5,6,7,8,9] 10 (fun a=>[(3,a.2),(4,.int .i64 a.1)]) (fun a w'=>a.1≤64∧Row 36 3 E9 W0.heap.size w' a.2 (Ch.a26 p a.1)∧Cl W0 w') (fun a=>64-a.1) zk (0,.slice none 0 0)
  ⟨zo,Row.nil _ _,Cl.refl _⟩ ⟨rfl,rfl,trivial⟩ ?_
 rintro ⟨n,v⟩ j w1 ⟨hn,hrow,hcl⟩;simp only at hn hrow;obtain ⟨a,c,rfl,_⟩:=hrow.form;have hlen:=a3I p n;refine zR ?_;apply E.b7<;>intro h
 ·have hn64:n<64:=by simp only at h;omega
  clear h;have hstep:Ch.a26 p (n+1)=Ch.a26 p n++Ch.N6 p n:=rfl;generalize hM:Ch.a26 p n=M at *;have nx:IntKind.i64.wrap ((n:Int)+1)=((n+1:Nat):Int):=by rw [g7 zo zo];push_cast;omega
  refine zR ?_;refine zC ?_;refine zR ?_;refine d7 _ (L9 (hP _ hcl) _ zo zo) (zR ?_);refine zK 9 ?_;refine zR ?_;have skip:(Ch.sq p n=0∨Ch.t8 (Ch.sq p n)≠p.turn)→Ch.N6 p n=[]:=fun h=>by unfold Ch.N6;rw [if_pos h]
  apply E.b7<;>intro h
  ·rw [skip (.inl h),List.append_nil] at hstep;refine zR ?_;intro w2 c2;refine zR ?_;exact ⟨(n+1,_),⟨rfl,m7 nx,trivial⟩,⟨by simp only;omega,by simp only [hstep];exact hrow.step c2,hcl.trans c2⟩,by simp only;omega⟩
  have hz:=h;clear h;refine zR ?_;refine A5 _ (fun w _=>a1j _ _) (zR ?_);refine g9 _ (fun w hw=>E5 (hP _ (hcl.trans hw))) (zR ?_);intro w2 c2;have hrow2:=hrow.step c2;have hcl2:=hcl.trans c2;refine zR ?_;apply E.r9<;>intro h
  ·rw [skip (.inr h),List.append_nil] at hstep;refine zR ?_;exact ⟨(n+1,_),⟨rfl,m7 nx,trivial⟩,⟨by simp only;omega,by simp only [hstep];exact hrow2,hcl2⟩,by simp only;omega⟩
  have hs:=h;clear h;have hfrom:Ch.N6 p n=(Ch.V8 p n).flatMap (Ch.J5 p n):=by unfold Ch.N6;rw [if_neg (by rintro (e | e);exact hz e;exact e hs)]
  rw [hfrom] at hstep;have hgr:∀ x∈Ch.V8 p n,0≤x∧x≤63:=fun x hx=>Ch.a16 hx;have hgl:=a8w p n;refine zG ?_;refine Nx.mk (zG ?_);refine A4 (σ:=Value) [6] 10 (fun v=>[(6,v)]) (fun v w'=>Row 3 1 N5 w2.heap.size w' v (Ch.V8 p n)∧Cl w2 w') zk ?_ (fun v j w3 h=>?_)
  ·refine zR ?_;refine d9 (N9 _ _ (Pc.lo hp _) (Pc.hi hp _)) (zR ?_);apply E.b7<;>intro h
   ·have hg:Ch.V8 p n=Ch.P4 p n:=by unfold Ch.V8;rw [if_pos h]
    rw [hg];refine zR ?_;refine d7 _ (y7 (hP _ hcl2)) (zR ?_);refine a2M (b7Q p n hp _ zo zo zo zo) fun v w3 h3 c3=>?_;obtain ⟨a3,cc3,rfl,_⟩:=h3.form;refine zR ?_;exact ⟨_,⟨rfl,trivial⟩,h3,c3⟩
   ·have hg:Ch.V8 p n=Ch.a42 p n:=by unfold Ch.V8;rw [if_neg h]
    rw [hg];refine zR ?_;refine d7 _ (y7 (hP _ hcl2)) (zR ?_);refine a2M (b7O p n hp _ zo zo) fun v w3 h3 c3=>?_;obtain ⟨a3,cc3,rfl,_⟩:=h3.form;refine zR ?_;exact ⟨_,⟨rfl,trivial⟩,h3,c3⟩
  obtain ⟨hgo,c3⟩:=h;obtain ⟨ag,cg,rfl,hag⟩:=hgo.form;generalize hgoals:Ch.V8 p n=gs at *;refine zR ?_;refine A9 (σ:=Nat×Value) [3,7,8,9] 10 (fun a=>[(3,a.2),(7,.int .i64 a.1)]) (fun a w'=>a.1≤gs.length∧Row 36 3 E9 W0.heap.size w' a.2 (M++(gs.take a.1).flatMap (Ch.J5 p n))∧Row 3 1 N5 w2.heap.size w' (.slice ag gs.length cg) gs∧(∀ g,ag=some ⟨g,0,none⟩→a.2.ownBlock≠some g)∧Cl W0 w') (fun a=>gs.length-a.1) zk (0,.slice a M.length c)
   ⟨zo,by simpa using hrow2.step c3,hgo,fun g e e2=>by subst e;have h1:=hgo.lt;have h2:=World.ownsRow.lt hrow2 g e2;omega,hcl2.trans c3⟩ ⟨rfl,rfl,trivial⟩ ?_
  rintro ⟨i,v⟩ j w4 ⟨hi,hrow,hgo,hne,hcl⟩;simp only at hi hrow hne;obtain ⟨a4,c4,rfl,_⟩:=hrow.form;refine zR ?_;apply E.b7<;>intro h
  ·have hil:i<gs.length:=by simp only at h;omega
   clear h;obtain ⟨g,rfl⟩:=hag zo;have hst2:=a8r (Ch.J5 p n) gs i hil;generalize hx:gs[i]=x at hst2;obtain ⟨x0,x1⟩:=hgr x (hx▸List.getElem_mem hil);have ni:IntKind.i64.wrap ((i:Int)+1)=((i+1:Nat):Int):=by rw [g7 zo zo];push_cast;omega
   have hcur:(M++(gs.take i).flatMap (Ch.J5 p n)).length≤20000:=by
    have h1:=a60 (Ch.J5 p n) 4 (a5S p n) (gs.take i);rw [List.length_append];have h2:(gs.take i).length≤56:=by rw [List.length_take];omega
    omega
   generalize hC:M++(gs.take i).flatMap (Ch.J5 p n)=cur at *;have hst3:M++(gs.take (i+1)).flatMap (Ch.J5 p n)=cur++Ch.J5 p n x:=by rw [hst2,← List.append_assoc,hC]
   refine zR ?_;refine zC ?_;refine zR ?_;refine d7 (.int .i64 x) (J8 hgo J1 i 0 hil zd (by rw [hx];rfl) (by simp [E.z6]) rfl) (zG ?_)
   refine Nx.mk ?_;refine E.a9f ?_;refine (A4 (σ:=Unit) [46,47,48,49,50,51,52,53,54,55,56,57,58,59,60] 61 (fun _=>[(60,.bool (!decide (Ch.sq p x=0)&&decide (Ch.t8 (Ch.sq p x)=p.turn)))]) (fun _ w'=>Cl w4 w') zk ?_ (fun _ j w5 c5=>?_)).go
   ·refine zR ?_;refine zK 15 ?_;refine zR ?_;refine E.y6 (P2.2 ⟨x0,zo⟩) (zR ?_);refine g9 _ (fun w hw=>L9 (hP _ (hcl.trans hw)) _ x0 zo) (zR ?_);apply E.r9<;>intro h
    ·refine zR ?_;refine E.y6 (P2.2 ⟨x0,zo⟩) (zR ?_);refine g9 _ (fun w hw=>L9 (hP _ (hcl.trans hw)) _ x0 zo) (zR ?_);refine A5 _ (fun w _=>a1j _ _) (zR ?_);refine g9 _ (fun w hw=>E5 (hP _ (hcl.trans hw))) (zR ?_);intro w5 c5;exact ⟨(),⟨congrArg Value.bool (by rw [decide_eq_false h];rfl),trivial⟩,c5⟩
    ·refine zR ?_;intro w5 c5;exact ⟨(),⟨congrArg Value.bool (by rw [decide_eq_true h];rfl),trivial⟩,c5⟩
   have hrow5:=hrow.step c5;have hgo5:=hgo.step c5;have hcl5:=hcl.trans c5;clear hrow hgo hcl;cases hown:(!decide (Ch.sq p x=0)&&decide (Ch.t8 (Ch.sq p x)=p.turn));rotate_left
   ·have hmt:Ch.J5 p n x=[]:=by
     unfold Ch.J5;rw [if_pos];simp only [Bool.and_eq_true,Bool.not_eq_true',decide_eq_true_eq,decide_eq_false_iff_not] at hown;exact hown
    rw [hmt,List.append_nil] at hst3;refine zR ?_;exact ⟨(i+1,_),⟨rfl,m7 ni,trivial⟩,⟨by simp only;omega,by simp only [hst3];exact hrow5,hgo5,hne,hcl5⟩,by simp only;omega⟩
   have hmt:Ch.J5 p n x=if Ch.kindOf (Ch.sq p n)≠6∨Ch.g8 x≠7-7*p.turn then [⟨n,x,0⟩] else Ch.a2K n x:=by
    unfold Ch.J5;rw [if_neg];rintro ⟨e1,e2⟩;simp [e1,e2] at hown
   clear hown;refine Nx.mk (zG ?_);refine Nx.mk ?_;refine E.a9f ?_;refine (A4 (σ:=Unit) [61,62,63,64,65,66,67,68,69,70,71,72] 73 (fun _=>[(72,.bool (!decide (Ch.kindOf (Ch.sq p n)=6) || !decide (Ch.g8 x=7-7*p.turn)))]) (fun _ w'=>Cl w5 w') zk ?_ (fun _ j w6 c6=>?_)).go
   ·refine zR ?_;refine zK 12 ?_;refine zR ?_;refine A5 _ (fun w _=>N9 _ _ (Pc.lo hp _) (Pc.hi hp _)) (zR ?_);apply E.r9<;>intro h
    ·refine zR ?_;intro w6 c6;exact ⟨(),⟨congrArg Value.bool (by rw [decide_eq_false h];rfl),trivial⟩,c6⟩
    ·refine zR ?_;refine A5 _ (fun w _=>V5 _ _ zo zo) (zR ?_);refine g9 _ (fun w hw=>E5 (hP _ (hcl5.trans hw))) (zR ?_);intro w6 c6;exact ⟨(),⟨congrArg Value.bool (by rw [decide_eq_true h,q1,q2];rfl),trivial⟩,c6⟩
   have hrow6:=hrow5.step c6;have hgo6:=hgo5.step c6;have hcl6:=hcl5.trans c6;clear hrow5 hgo5 hcl5;cases hpr:(!decide (Ch.kindOf (Ch.sq p n)=6) || !decide (Ch.g8 x=7-7*p.turn))
   rotate_left
   ·rw [if_pos (by simp only [Bool.or_eq_true,Bool.not_eq_true',decide_eq_false_iff_not] at hpr;exact hpr)] at hmt
    rw [hmt] at hst3;refine zR ?_;refine s9 #[.int .i64 n,.int .i64 x,.int .i64 0] zk (zR ?_);refine E6 c3d [.agg #[.int .i64 n,.int .i64 x,.int .i64 0]] (by rw [Array.toList_map];rfl) (by simp [Value.cells]) rfl zd zd (zR ?_)
    refine P3 (enc:=E9) c3d ⟨n,x,0⟩ rfl hrow6 rfl rfl rfl B0 I3 zo zd hcl6.size (fun v' w7 hr hc=>?_);obtain ⟨a7,cc7,rfl,_⟩:=hr.form;refine zR ?_;exact ⟨(i+1,_),⟨rfl,m7 ni,trivial⟩,⟨by simp only;omega,by simp only [hst3];exact hr,hgo6.keep fun o ho=>hc.keep _ o ho (hne _ rfl),fun g' e=>hc.ne (by injection e with e;injection e with e;subst e;exact hgo6.lt.2) (hne g' e),hc.cl W0 rfl hcl6⟩,by simp only;omega⟩
   rw [if_neg (by simp only [Bool.or_eq_false_iff,Bool.not_eq_false',decide_eq_true_eq] at hpr;rintro (e | e);exact e hpr.1;exact e hpr.2)] at hmt
   rw [hmt] at hst3;refine zR ?_;refine A9 (σ:=Nat×Value) [3,9] 10 (fun a=>[(3,a.2),(9,.int .i64 (2+(a.1:Int)))]) (fun a w'=>a.1≤4∧Row 36 3 E9 W0.heap.size w' a.2 (cur++(Ch.a2K n x).take a.1)∧Row 3 1 N5 w2.heap.size w' (.slice (some ⟨g,0,none⟩) gs.length cg) gs∧(a.2.ownBlock≠some g)∧Cl W0 w') (fun a=>4-a.1) zk (0,.slice a4 cur.length c4)
    ⟨zo,by simpa using hrow6,hgo6,hne g rfl,hcl6⟩ ⟨rfl,rfl,trivial⟩ ?_
   rintro ⟨k,v⟩ j w7 ⟨hk,hrow7,hgo7,hne7,hcl7⟩;simp only at hk hrow7 hne7;obtain ⟨a8,c8,rfl,_⟩:=hrow7.form;have hl8:(cur++(Ch.a2K n x).take k).length≤20004:=by
    rw [List.length_append,List.length_take];omega
   refine zR ?_;apply E.b7<;>intro h
   ·have hk4:k<4:=by simp only at h;omega
    have hpk:(Ch.a2K n x).take (k+1)=(Ch.a2K n x).take k++[⟨n,x,2+(k:Int)⟩]:=by
     have:k=0∨k=1∨k=2∨k=3:=by omega
     rcases this with rfl | rfl | rfl | rfl<;>rfl
    refine zR ?_;refine s9 #[.int .i64 n,.int .i64 x,.int .i64 (2+(k:Int))] zk (zR ?_);refine E6 c3d [.agg #[.int .i64 n,.int .i64 x,.int .i64 (2+(k:Int))]] (by rw [Array.toList_map];rfl) (by simp [Value.cells]) rfl zd zd (zR ?_)
    refine P3 (enc:=E9) c3d ⟨n,x,2+(k:Int)⟩ rfl hrow7 rfl rfl rfl B0 I3 zo zd hcl7.size (fun v' w8 hr hc=>?_);obtain ⟨a9,cc9,rfl,_⟩:=hr.form;refine zR ?_;exact ⟨(k+1,_),⟨rfl,m7 (by rw [g7 zo zo];push_cast;omega),trivial⟩,⟨by simp only;omega,by simp only [hpk,← List.append_assoc];exact hr,hgo7.keep fun o ho=>hc.keep _ o ho hne7,hc.ne hgo7.lt.2 hne7,hc.cl W0 rfl hcl7⟩,by simp only;omega⟩
   ·have hk4:k=4:=by simp only at h;omega
    subst hk4;refine zR ?_;exact ⟨(i+1,_),⟨rfl,m7 ni,trivial⟩,⟨by simp only;omega,by simp only [hst3];exact hrow7,hgo7,fun g' e=>by injection e with e;injection e with e;subst e;exact hne7,hcl7⟩,by simp only;omega⟩
  ·have hil:i=gs.length:=by simp only at h;omega
   subst hil;refine zR ?_;refine ⟨(n+1,_),⟨rfl,m7 nx,trivial⟩,⟨by simp only;omega,by simp only [hstep,List.take_length] at hrow ⊢;exact hrow,hcl⟩,by simp only;omega⟩
 ·have hn2:n=64:=by simp only at h;omega
  subst hn2;refine zR ?_;refine d7 _ (y7 (hP _ hcl)) (zR ?_);refine a2M (b4u p hI _) fun v w2 h2 c2=>?_;obtain ⟨a2,cc2,rfl,_⟩:=h2.form;have hcas:(Ch.a0G p).length≤2:=by
   unfold Ch.a0G Ch.P5;rw [List.length_append];split<;>split<;>simp
  refine zR ?_;refine J2 (v:=.slice a (Ch.a26 p 64).length c) c3d rfl (hrow.step c2) rfl h2 B0 I3 zo zd (hcl.trans c2).size (fun v' w3 hr hc=>?_);have hcl3:Cl W0 w3:=hc.cl W0 rfl (hcl.trans c2);obtain ⟨a3,cc3,rfl,_⟩:=hr.form;refine zR ?_;refine o8 (b4v _ _ _ _ hr (by rw [List.length_append];omega)) ?_
  rintro r w4 ⟨v4,l4,rfl,hp4,hr4,c4⟩;refine ⟨_,rfl,?_⟩;obtain ⟨a4,cc4,rfl,_⟩:=hr4.form;refine zR ?_;exact ⟨_,l4,rfl,hp4,hr4.mono (by have:=(hE _ hcl3).size;omega),hE _ (hcl3.trans c4)⟩
end
section
namespace Ch
open Bb
theorem a2R {p:A3} (hI:B7 p) {i:Int} (h:sq p i≠0) (ho:t8 (sq p i)=p.turn):1≤kindOf (sq p i)∧kindOf (sq p i)≤6∧sq p i=kindOf (sq p i)+6*p.turn:=by
 have:=a8u (hI.pc i).1 (hI.pc i).2 h;rw [ho] at this;exact this
theorem b3q {p:A3} (hI:B7 p) {fr to:Int} (f0:0≤fr) (f1:fr≤63) (hx:sq p fr≠0) (ho:t8 (sq p fr)=p.turn) (h:to∈V8 p fr):sq p to≠1+6*(1-p.turn):=by
 intro hk;have hK:=hI.king (1-p.turn) (by have:=hI.turn;omega)
 have hq:=hI.quiet;obtain ⟨t0,t1⟩:=a16 h;have e:to=kingAt p (1-p.turn):=hK.2.2.2 to t0 t1 hk;have hh:a2G p fr to=true:=by
  rcases S7 hI f0 f1 hx ho h with ⟨_,h2⟩ | ⟨_,h2,_⟩ | ⟨_,_,_,h2,_⟩
  ·exact h2
  ·exfalso;rw [hk] at h2;have:=hI.turn;omega
  ·exact h2
 have:z7 p to p.turn=true:=by
  refine a3m (i:=fr.toNat) zo ?_;unfold a25;rw [Int.toNat_of_nonneg f0];simp [hx,ho,hh]
 rw [e,hq] at this;cases this
def a1p (p:A3) (m:Mv):Int:=if m.promo≠0 then m.promo+6*p.turn else sq p m.fr
theorem Z8 {p:A3} (hI:B7 p) {m:Mv} (h:H8 p m):N7 p m=false:=by
 unfold N7;by_cases hk:kindOf (sq p m.fr)=1
 ·have hh:a2G p m.fr m.to=true:=by
   rcases S7 hI h.f0 h.f1 h.there h.own h.goal with ⟨_,h2⟩ | ⟨h2,_⟩ | ⟨h2,_⟩
   ·exact h2
   ·rw [hk] at h2;omega
   ·rw [hk] at h2;omega
  obtain ⟨a,ha⟩:=Int.eq_ofNat_of_zero_le h.f0;obtain ⟨b,hb⟩:=Int.eq_ofNat_of_zero_le h.t0;rw [ha,hb] at hh;rw [a5n,← ha,hk] at hh;simp only [K7,if_true,Bool.and_eq_true,decide_eq_true_eq] at hh;obtain ⟨_,_,h3,h4⟩:=hh;have l1:∀ x:Int,x*x≤1→-1≤x∧x≤1:=by
   intro x hx;constructor
   ·refine Classical.byContradiction fun hn=>?_;have:2*2≤(-x)*(-x):=Int.mul_le_mul zo zo zo zo;rw [Int.neg_mul_neg] at this;omega
   ·refine Classical.byContradiction fun hn=>?_;have:2*2≤x*x:=Int.mul_le_mul zo zo zo zo;omega
  have h5:=l1 _ h3;have h6:=l1 _ h4;simp only [dF,dR,l9,g8] at h5 h6;have:¬ (m.to=m.fr+2)∧¬ (m.to=m.fr-2):=by omega
  simp [this.1,this.2]
 ·simp [hk]
theorem a0u {p:A3} (hI:B7 p) {m:Mv} (h:H8 p m) (hz:sq p m.to=0) (ht:takes p m=true) :
  m.to=p.ep∧0≤H2 (l9 m.to) (g8 m.fr)∧sq p (H2 (l9 m.to) (g8 m.fr))=6+6*(1-p.turn)∧(g8 m.fr=3∨g8 m.fr=4)∧kindOf (sq p m.fr)=6∧H2 (l9 m.to) (g8 m.fr)=m.to-8*up p.turn:=by
 unfold takes at ht;simp only [hz,decide_true,Bool.not_true,Bool.false_or,Bool.and_eq_true,Bool.not_eq_true',decide_eq_true_eq,decide_eq_false_iff_not] at ht;have h0:=h.f0;have h1:=h.f1;have h2:=h.t0;have h3:=h.t1;rcases S7 hI h.f0 h.f1 h.there h.own h.goal with ⟨g,_⟩ | ⟨_,_,g,_⟩ | ⟨gk,gf,gr,_,ge⟩
 ·exact absurd ht.1 g
 ·exact absurd g.symm ht.2
 ·have e:=ge hz;obtain ⟨_,_,hp⟩:=I4 hI.pass;obtain ⟨p1,p2,p3,p4⟩:=hp zo;rw [← e] at p1 p3;have hr:g8 m.to-(1-2*p.turn)=g8 m.fr:=by unfold up at gr;omega
  rw [hr] at p3;have hturn:=hI.turn;have hin:0≤l9 m.to∧l9 m.to≤7∧0≤g8 m.fr∧g8 m.fr≤7:=by simp only [l9,g8] at *;omega
  have hat:=a5N hin.1 hin.2.1 hin.2.2.1 hin.2.2.2;refine ⟨e,by rw [hat];omega,p3,zo,gk,?_⟩
  rw [hat];simp only [up,l9,g8] at *;omega
theorem R8 {p:A3} (hI:B7 p) {m:Mv} (h:H8 p m) {j:Int} (j0:0≤j) :
  sq (made p m) j=if j=m.to then a1p p m else if j=m.fr then 0 else if takes p m=true∧j=D8 p m then 0 else sq p j:=by
 have e:sq (made p m) j=sq (Z6 p m) j:=by
  show sq (H6 p m) j=_;unfold H6;rw [Z8 hI h];rfl
 rw [e];have f0:=h.f0;have f1:=h.f1;have t0:=h.t0;have t1:=h.t1;have s2:sq (a1i p m) j=if j=m.to then sq p m.fr else if j=m.fr then 0 else sq (a1h p m) j:=by
  unfold a1i;rw [a2i _ _ _ _ h.t0 zo j0,a2i _ _ _ _ h.f0 zo j0];by_cases a:m.to=j
  ·rw [if_pos a,if_pos a.symm]
  ·rw [if_neg a,if_neg (show ¬ j=m.to from fun e=>a e.symm)];by_cases b:m.fr=j
   ·rw [if_pos b,if_pos b.symm]
   ·rw [if_neg b,if_neg (show ¬ j=m.fr from fun e=>b e.symm)]
 have s3:sq (Z6 p m) j=if j=m.to then a1p p m else sq (a1i p m) j:=by
  unfold Z6 a1p;by_cases hp:m.promo≠0
  ·rw [if_pos hp,if_pos hp,a2i _ _ _ _ h.t0 zo j0];by_cases a:m.to=j
   ·rw [if_pos a,if_pos a.symm]
   ·rw [if_neg a,if_neg (show ¬ j=m.to from fun e=>a e.symm)]
  ·rw [if_neg hp,if_neg hp];by_cases a:j=m.to
   ·rw [if_pos a,s2,if_pos a]
   ·rw [if_neg a]
 rw [s3];by_cases a:j=m.to
 ·rw [if_pos a,if_pos a]
 rw [if_neg a,if_neg a,s2,if_neg a];by_cases b:j=m.fr
 ·rw [if_pos b,if_pos b]
 rw [if_neg b,if_neg b];unfold a1h;cases ht:takes p m
 ·simp
 ·simp only [if_true,true_and];have hr:0≤D8 p m∧D8 p m<64:=by
   unfold D8;split
   ·omega
   ·rename_i hz;have:=a0u hI h zo ht;exact ⟨this.2.1,by have:=(at_range (l9 m.to) (g8 m.fr)).2;omega⟩
  rw [a2i _ _ _ _ hr.1 hr.2 j0];by_cases c:D8 p m=j
  ·rw [if_pos c,if_pos c.symm]
  ·rw [if_neg c,if_neg (fun e=>c e.symm)]
theorem a17 {p:A3} (hI:B7 p) {m:Mv} (h:H8 p m) (ht:takes p m=true):D8 p m=m.to∧sq p m.to≠0∨(sq p (D8 p m)=6+6*(1-p.turn)∧0≤D8 p m∧D8 p m≤63∧(g8 (D8 p m)=3∨g8 (D8 p m)=4)):=by
 unfold D8;split
 ·rename_i hz;exact .inl ⟨rfl,hz⟩
 ·rename_i hz;obtain ⟨_,h2,h3,h4,_,_⟩:=a0u hI h zo ht;have g:=U2 _ _ h2;refine .inr ⟨h3,h2,(at_range _ _).2,?_⟩;rw [g.2.2.2.2];simp only [g8,l9] at *;omega
theorem a1q {p:A3} (hI:B7 p) {m:Mv} (h:H8 p m):(a1p p m=1+6*p.turn↔sq p m.fr=1+6*p.turn)∧a1p p m≠1+6*(1-p.turn)∧1+6*p.turn≤a1p p m∧a1p p m≤6+6*p.turn:=by
 obtain ⟨k1,k6,kx⟩:=a2R hI h.there h.own;have ht:=hI.turn;unfold a1p;rcases h.promo with ⟨h1,_⟩ | ⟨h1,h2,h3,_⟩
 ·rw [if_neg zo];refine ⟨Iff.rfl,?_,zo,zo⟩;rw [kx];omega
 ·rw [if_pos zo];refine ⟨?_,zo,zo,zo⟩;rw [kx,h3];omega
theorem a1r {p:A3} (hI:B7 p) {m:Mv} (h:H8 p m):Q0 (made p m) p.turn (if m.fr=kingAt p p.turn then m.to else kingAt p p.turn):=by
 have ht:=hI.turn;have hK:=hI.king p.turn ht;obtain ⟨nk1,nk2,nk3,nk4⟩:=a1q hI h;have f0:=h.f0;have f1:=h.f1;have t0:=h.t0;have t1:=h.t1;have hto:sq p m.to≠1+6*p.turn:=by
  rcases h.other with e | e
  ·rw [e];omega
  ·intro e2;apply e;rw [e2];exact O1 zd zd ht
 have htk:∀ j,takes p m=true→j=D8 p m→j≠m.to→sq p j≠1+6*p.turn:=by
  intro j h1 h2 h3;rcases a17 hI h h1 with ⟨e,_⟩ | ⟨e,_⟩
  ·exact absurd (h2.trans e) h3
  ·rw [h2,e];omega
 by_cases hf:m.fr=kingAt p p.turn
 ·rw [if_pos hf];refine ⟨t0,t1,?_,fun j j0 j1 hj=>?_⟩
  ·rw [R8 hI h t0,if_pos rfl,nk1,hf];exact hK.2.2.1
  ·rw [R8 hI h j0] at hj;by_cases a:j=m.to
   ·exact a
   rw [if_neg a] at hj;by_cases b:j=m.fr
   ·rw [if_pos b] at hj;omega
   rw [if_neg b] at hj;split at hj
   ·omega
   ·have:=hK.2.2.2 j j0 j1 hj;omega
 ·rw [if_neg hf];have hnk:sq p m.fr≠1+6*p.turn:=fun e=>hf (hK.2.2.2 _ f0 f1 e);refine ⟨hK.1,hK.2.1,?_,fun j j0 j1 hj=>?_⟩
  ·rw [R8 hI h hK.1,if_neg (fun e=>hto (by rw [← e];exact hK.2.2.1)),if_neg (fun e=>hf e.symm)]
   split
   ·rename_i hh;exact absurd hK.2.2.1 (htk _ hh.1 hh.2 (fun e=>hto (by rw [← e];exact hK.2.2.1)))
   ·exact hK.2.2.1
  ·rw [R8 hI h j0] at hj;by_cases a:j=m.to
   ·rw [if_pos a] at hj;exact absurd (nk1.1 hj) hnk
   rw [if_neg a] at hj;by_cases b:j=m.fr
   ·rw [if_pos b] at hj;omega
   rw [if_neg b] at hj;split at hj
   ·omega
   ·exact hK.2.2.2 j j0 j1 hj
theorem a3X {p:A3} (hI:B7 p) {m:Mv} (h:H8 p m):Q0 (made p m) (1-p.turn) (kingAt p (1-p.turn)):=by
 have ht:=hI.turn;have hK:=hI.king (1-p.turn) zo;obtain ⟨nk1,nk2,nk3,nk4⟩:=a1q hI h;have f0:=h.f0;have f1:=h.f1;have t0:=h.t0;have t1:=h.t1;have hto:=b3q hI h.f0 h.f1 h.there h.own h.goal;have hfr:sq p m.fr≠1+6*(1-p.turn):=by
  intro e;have:=h.own;rw [e,O1 zd zd zo] at this;omega
 refine ⟨hK.1,hK.2.1,?_,fun j j0 j1 hj=>?_⟩
 ·rw [R8 hI h hK.1,if_neg (fun e=>hto (by rw [← e];exact hK.2.2.1)),if_neg (fun e=>hfr (by rw [← e];exact hK.2.2.1))]
  split
  ·rename_i hh;exfalso;rcases a17 hI h hh.1 with ⟨e,_⟩ | ⟨e,_⟩
   ·apply hto;rw [← e,← hh.2];exact hK.2.2.1
   ·rw [← hh.2,hK.2.2.1] at e;omega
  ·exact hK.2.2.1
 ·rw [R8 hI h j0] at hj;by_cases a:j=m.to
  ·rw [if_pos a] at hj;exact absurd hj nk2
  rw [if_neg a] at hj;by_cases b:j=m.fr
  ·rw [if_pos b] at hj;omega
  rw [if_neg b] at hj;split at hj
  ·omega
  ·exact hK.2.2.2 j j0 j1 hj
end Ch
namespace Ch
open Bb
structure a08 (p:A3) (m:Mv) (K w R:Int):Prop where
 k:K=4+56*p.turn
 way:(w=1∧R=K+3)∨(w=-1∧R=K-4∧sq p (K-3)=0)
 mv:m=⟨K,K+2*w,0⟩
 king:sq p K=1+6*p.turn
 rook:sq p R=3+6*p.turn
 mid:sq p (K+w)=0
 to:sq p (K+2*w)=0
 a0:z7 p K (1-p.turn)=false
 a1:z7 p (K+w) (1-p.turn)=false
theorem I5 {p:A3} (hI:B7 p) {r:Nat} {m:Mv} (h:a1o p r m):r<4∧(r:Int)/2=p.turn∧P8 p.castle r=true∧a08 p m (homeK r) (if A0 r<homeK r then -1 else 1) (A0 r):=by
 have ht:=hI.turn;have hr:r<4∧(r:Int)/2=p.turn:=by
  rcases h.right with e | e<;>rcases ht with t | t<;>rw [t] at e ⊢ <;> subst e<;>decide
 have hm:=h.may;unfold a0R a2j at hm;rw [hI.rights] at hm;simp only [Bool.and_eq_true,Bool.not_eq_true'] at hm;obtain ⟨⟨hb,h0⟩,h1,hf⟩:=hm;obtain ⟨s1,s2⟩:=hI.right r hr.1 hb;rw [hr.2] at s1 s2;refine ⟨hr.1,hr.2,hb,?_⟩;rw [a1Q] at hf;have hm:=h.is;unfold o4 at hm;have hrr:r=0∨r=1∨r=2∨r=3:=by omega
 rcases hrr with rfl | rfl | rfl | rfl
 ·have t:p.turn=0:=by rw [← hr.2];decide
  have m1:=hf 0 zd;have m2:=hf 1 zd;exact ⟨by rw [t];decide,.inl ⟨zd,zd⟩,hm,s1,s2,m1,m2,h0,h1⟩
 ·have t:p.turn=0:=by rw [← hr.2];decide
  have m1:=hf 0 zd;have m2:=hf 1 zd;have m3:=hf 2 zd;exact ⟨by rw [t];decide,.inr ⟨zd,zd,m3⟩,hm,s1,s2,m1,m2,h0,h1⟩
 ·have t:p.turn=1:=by rw [← hr.2];decide
  have m1:=hf 0 zd;have m2:=hf 1 zd;exact ⟨by rw [t];decide,.inl ⟨zd,zd⟩,hm,s1,s2,m1,m2,h0,h1⟩
 ·have t:p.turn=1:=by rw [← hr.2];decide
  have m1:=hf 0 zd;have m2:=hf 1 zd;have m3:=hf 2 zd;exact ⟨by rw [t];decide,.inr ⟨zd,zd,m3⟩,hm,s1,s2,m1,m2,h0,h1⟩
theorem Y6 {p:A3} (hI:B7 p):kindOf (1+6*p.turn)=1:=K5 zd zd hI.turn
theorem a5q {p:A3} (hI:B7 p) {m:Mv} {K w R:Int} (h:a08 p m K w R):N7 p m=true:=by
 unfold N7;rw [h.mv];simp only [h.king,Y6 hI];rcases h.way with ⟨e,_⟩ | ⟨e,_⟩<;>rw [e]
 ·simp
 ·have:K+2 * -1=K-2:=by omega
  rw [this];simp
theorem a2o {p:A3} (hI:B7 p) {m:Mv} {K w R:Int} (h:a08 p m K w R):takes p m=false:=by
 unfold takes;rw [h.mv];simp only [h.king,Y6 hI,h.to];simp
theorem I6 {p:A3} (hI:B7 p) {m:Mv} {K w R:Int} (h:a08 p m K w R) {j:Int} (j0:0≤j) :
  sq (made p m) j=if j=K+w then 3+6*p.turn else if j=R then 0 else if j=K+2*w then 1+6*p.turn else if j=K then 0 else sq p j:=by
 have ht:=hI.turn;have hk:=h.k;have hw:(w=1∧R=K+3)∨(w=-1∧R=K-4):=by rcases h.way with h | h;exact .inl h;exact .inr ⟨h.1,h.2.1⟩
 show sq (H6 p m) j=_;unfold H6;rw [a5q hI h,if_pos rfl];have e3:Z6 p m=put (put p K 0) (K+2*w) (1+6*p.turn):=by
  unfold Z6 a1i a1h;rw [a2o hI h,h.mv];simp only [ne_eq,not_true_eq_false,if_false,h.king];rfl
 have ec:(if m.to<m.fr then H2 0 (g8 m.fr) else H2 7 (g8 m.fr))=R:=by
  rw [h.mv];show (if K+2*w<K then H2 0 (g8 K) else H2 7 (g8 K))=R
  have hk4:K=4∨K=60:=by omega
  clear hk;rcases hk4 with rfl | rfl<;>rcases hw with ⟨rfl,rfl⟩ | ⟨rfl,rfl⟩<;>decide
 have em:(m.fr+m.to)/2=K+w:=by rw [h.mv];show (K+(K+2*w))/2=K+w;omega
 rw [e3,ec,em];have r1:0≤R∧R<64∧0≤K∧K<64∧0≤K+w∧K+w<64∧0≤K+2*w∧K+2*w<64:=by omega
 rw [a2i _ _ _ _ r1.2.2.2.2.1 r1.2.2.2.2.2.1 j0,a2i _ _ _ _ r1.1 r1.2.1 j0,a2i _ _ _ _ r1.2.2.2.2.2.2.1 r1.2.2.2.2.2.2.2 j0,a2i _ _ _ _ r1.2.2.1 r1.2.2.2.1 j0];simp only [@eq_comm _ j]
theorem X8 {p:A3} (hI:B7 p) {m:Mv} {K w R:Int} (h:a08 p m K w R):Q0 (made p m) p.turn m.to∧m.fr=kingAt p p.turn:=by
 have ht:=hI.turn;have hk:=h.k;have hw:(w=1∧R=K+3)∨(w=-1∧R=K-4):=by rcases h.way with h | h;exact .inl h;exact .inr ⟨h.1,h.2.1⟩
 have hK:=hI.king p.turn ht;have e:K=kingAt p p.turn:=hK.2.2.2 K zo zo h.king;have hm:=h.mv;refine ⟨?_,by rw [hm];exact e⟩
 rw [hm];simp only
 refine ⟨zo,zo,?_,fun j j0 j1 hj=>?_⟩
 ·rw [← hm,I6 hI h zo,if_neg zo,if_neg zo,if_pos rfl]
 ·rw [← hm,I6 hI h j0] at hj;split at hj
  ·omega
  split at hj
  ·omega
  split at hj
  ·assumption
  split at hj
  ·omega
  ·have:=hK.2.2.2 j j0 j1 hj;omega
theorem a2p {p:A3} (hI:B7 p) {m:Mv} {K w R:Int} (h:a08 p m K w R):Q0 (made p m) (1-p.turn) (kingAt p (1-p.turn)):=by
 have ht:=hI.turn;have hk:=h.k;have hw:(w=1∧R=K+3)∨(w=-1∧R=K-4):=by rcases h.way with h | h;exact .inl h;exact .inr ⟨h.1,h.2.1⟩
 have hK:=hI.king (1-p.turn) zo;have n1:∀ x,sq p x≠1+6*(1-p.turn)→kingAt p (1-p.turn)≠x:=by
  intro x hx e;apply hx;rw [← e];exact hK.2.2.1
 have e1:=n1 (K+w) (by rw [h.mid];omega)
 have e2:=n1 R (by rw [h.rook];omega)
 have e3:=n1 (K+2*w) (by rw [h.to];omega)
 have e4:=n1 K (by rw [h.king];omega)
 refine ⟨hK.1,hK.2.1,?_,fun j j0 j1 hj=>?_⟩
 ·rw [I6 hI h hK.1,if_neg e1,if_neg e2,if_neg e3,if_neg e4];exact hK.2.2.1
 ·rw [I6 hI h j0] at hj;split at hj
  ·omega
  split at hj
  ·omega
  split at hj
  ·omega
  split at hj
  ·omega
  ·exact hK.2.2.2 j j0 j1 hj
theorem a0V {p:A3} (hI:B7 p) {m:Mv} {K w R:Int} (h:a08 p m K w R) (i:Int):0≤sq (made p m) i∧sq (made p m) i≤12:=by
 refine b2b (fun i _=>?_) i;rw [I6 hI h zo];have ht:=hI.turn;repeat' split
 all_goals first | omega | exact hI.pc _
theorem b7Z {K w R:Int} {s b:Nat} (hKK:K=4∨K=60) (hR:(w=1∧R=K+3)∨(w=-1∧R=K-4)) (hb:(b:Int)=K+2*w) (hrow:s/8≠b/8):(s:Int)≠K+w∧(s:Int)≠R∧(s:Int)≠K+2*w∧(s:Int)≠K:=by omega
theorem b6d {k s b:Nat} (e0:¬ k=0) (k4:k<4) (hsb:F5 k b s=true) (hne:s≠b):s/8≠b/8:=by
 have hkk:k=1∨k=2∨k=3:=by omega
 rcases hkk with rfl | rfl | rfl<;>simp only [F5,Nat.beq_eq] at hsb<;>omega
theorem b8a {K w R:Int} {i b:Nat} (hKK:K=4∨K=60) (hR:(w=1∧R=K+3)∨(w=-1∧R=K-4)) (hb:(b:Int)=K+2*w) (hrow:i/8=b/8) (hne:(i:Int)≠K+w∧(i:Int)≠R∧(i:Int)≠K+2*w∧(i:Int)≠K) (hq:w=-1→(i:Int)≠K-3) :
  ((K+w).toNat<64∧i/8=(K+w).toNat/8∧(i<(K+w).toNat∧(K+w).toNat<b∨b<(K+w).toNat∧(K+w).toNat<i))∧(K.toNat<64∧i/8=K.toNat/8∧(i<K.toNat∧K.toNat<b∨b<K.toNat∧K.toNat<i)):=by omega
theorem b0s {p:A3} (hI:B7 p) {m:Mv} {K w R:Int} (h:a08 p m K w R) {b:Nat} (hb:m.to=b) (hb64:b<64) {i:Nat} (hi:i<64) (hne:(i:Int)≠K+w∧(i:Int)≠R∧(i:Int)≠K+2*w∧(i:Int)≠K) (hq:w=-1→(i:Int)≠K-3) (hl:dF i b=0∨dR i b=0∨dF i b=dR i b∨dF i b=-dR i b) :
  free (made p m) i (wy i b) (ds i b)=free p i (wy i b) (ds i b):=by
 have hbK:(b:Int)=K+2*w:=by rw [← hb,h.mv]
 have hKK:K=4∨K=60:=by have:=h.k;have:=hI.turn;omega
 have hR:(w=1∧R=K+3)∨(w=-1∧R=K-4):=by rcases h.way with h | h;exact .inl h;exact .inr ⟨h.1,h.2.1⟩
 have hib:i≠b:=by rintro rfl;exact hne.2.2.1 hbK
 have hline:∃ k,k<4∧F5 k i b=true:=by
  rcases hl with hh | hh | hh | hh
  ·exact ⟨1,zd,(b1V i b).2 hh⟩
  ·exact ⟨0,zd,(b1U i b).2 hh⟩
  ·exact ⟨2,zd,(b1W i b).2 hh⟩
  ·exact ⟨3,zd,(b1X i b).2 hh⟩
 obtain ⟨k,k4,hlp⟩:=hline;rw [Bool.eq_iff_iff,a0T _ k4 hi hb64 hlp hib,a0T _ k4 hi hb64 hlp hib];by_cases e0:k=0
 ·subst e0;have l0:∀ s:Nat,F5 0 i s=true↔i/8=s/8:=fun s=>by simp [F5]
  have hrow:i/8=b/8:=(l0 b).1 hlp;obtain ⟨⟨a1,a2,a3⟩,⟨a4,a5,a6⟩⟩:=b8a hKK hR hbK hrow hne hq;have ht:=hI.turn;constructor
  ·intro hh;exfalso;have hs:=hh (K+w).toNat a1 ((l0 _).2 a2) a3;rw [I6 hI h (Int.natCast_nonneg _),if_pos zo] at hs;omega
  ·intro hh;exfalso;have hs:=hh K.toNat a4 ((l0 _).2 a5) a6;rw [Int.toNat_of_nonneg zo,h.king] at hs;omega
 ·have hoff:∀ s:Nat,s<64→F5 k i s=true→(i<s∧s<b∨b<s∧s<i)→sq (made p m) s=sq p s:=by
   intro s hs hl2 hbt;have hsb:F5 k b s=true:=by rw [← a2P hlp];exact hl2
   obtain ⟨q1,q2,q3,q4⟩:=b7Z hKK hR hbK (b6d e0 k4 hsb zo);rw [I6 hI h (Int.natCast_nonneg s),if_neg q1,if_neg q2,if_neg q3,if_neg q4]
  constructor
  ·intro hh s hs h1 h2;rw [← hoff s hs h1 h2];exact hh s hs h1 h2
  ·intro hh s hs h1 h2;rw [hoff s hs h1 h2];exact hh s hs h1 h2
theorem a2q {p:A3} (hI:B7 p) {m:Mv} {K w R:Int} (h:a08 p m K w R):z7 (made p m) m.to (1-p.turn)=z7 p m.to (1-p.turn):=by
 have ht:=hI.turn;have hk:=h.k;have hw:(w=1∧R=K+3)∨(w=-1∧R=K-4∧sq p (K-3)=0):=h.way;have hto:m.to=K+2*w:=by rw [h.mv]
 obtain ⟨b,hb⟩:=Int.eq_ofNat_of_zero_le (show 0≤m.to by omega)
 have hb64:b<64:=by omega
 have same:∀ (k:Int) (i:Nat),1≤k→k≤6→(sq (made p m) i=k+6*(1-p.turn)↔sq p i=k+6*(1-p.turn))∧(sq p i=k+6*(1-p.turn)→(i:Int)≠K+w∧(i:Int)≠R∧(i:Int)≠K+2*w∧(i:Int)≠K):=by
  intro k i k1 k6;have hne:sq p i=k+6*(1-p.turn)→(i:Int)≠K+w∧(i:Int)≠R∧(i:Int)≠K+2*w∧(i:Int)≠K:=by
   intro e;refine ⟨?_,?_,?_,?_⟩<;>intro e2<;>rw [e2] at e
   ·rw [h.mid] at e;omega
   ·rw [h.rook] at e;omega
   ·rw [h.to] at e;omega
   ·rw [h.king] at e;omega
  refine ⟨⟨fun e=>?_,fun e=>?_⟩,hne⟩
  ·rw [I6 hI h zo] at e;split at e
   ·omega
   split at e
   ·omega
   split at e
   ·omega
   split at e
   ·omega
   ·exact e
  ·obtain ⟨n1,n2,n3,n4⟩:=hne e;rw [I6 hI h zo,if_neg n1,if_neg n2,if_neg n3,if_neg n4];exact e
 have hfree:=fun i hi hne hq hl=>b0s hI h (i:=i) hb hb64 hi hne hq hl;have hitSame:∀ (k:Int) (i:Nat),1≤k→k≤6→i<64→sq p i=k+6*(1-p.turn)→K7 (made p m) k (1-p.turn) i b=K7 p k (1-p.turn) i b:=by
  intro k i k1 k6 hi hx;have hne:=(same k i k1 k6).2 hx;unfold K7;by_cases a1:k=1
  ·rw [if_pos a1,if_pos a1]
  rw [if_neg a1,if_neg a1];by_cases a5:k=5
  ·rw [if_pos a5,if_pos a5]
  rw [if_neg a5,if_neg a5];by_cases a6:k=6
  ·rw [if_pos a6,if_pos a6]
  rw [if_neg a6,if_neg a6];by_cases hl:dF i b=0∨dR i b=0∨dF i b=dR i b∨dF i b=-dR i b
  ·rw [hfree i hi hne (by
    intro e e2;rcases hw with ⟨e3,_⟩ | ⟨_,_,e3⟩
    ·omega
    ·rw [← e2,hx] at e3;omega) hl]
  ·rw [decide_eq_false (fun h=>hl (.inl h)),decide_eq_false (fun h=>hl (.inr (.inl h))),decide_eq_false (fun h=>hl (.inr (.inr (.inl h)))),decide_eq_false (fun h=>hl (.inr (.inr (.inr h))))];simp
 rw [hb,Bool.eq_iff_iff];rw [O5 (made p m) (a0V hI h) zo,O5 p hI.pc zo];constructor
 ·rintro ⟨k,k1,k6,i,hi,hx,hh⟩;have hx':=(same k i k1 k6).1.1 hx;exact ⟨k,k1,k6,i,hi,hx',by rw [← hitSame k i k1 k6 hi hx'];exact hh⟩
 ·rintro ⟨k,k1,k6,i,hi,hx,hh⟩;exact ⟨k,k1,k6,i,hi,(same k i k1 k6).1.2 hx,by rw [hitSame k i k1 k6 hi hx];exact hh⟩
end Ch
namespace Ch
open Bb
theorem P6 {p:A3} (hI:B7 p) (m:Mv):m∈y8 p↔(H8 p m∧z7 (made p m) (kingAt (made p m) p.turn) (1-p.turn)=false)∨(∃ r,a1o p r m∧z7 p m.to (1-p.turn)=false):=by
 unfold y8;rw [List.mem_filter,Z7 hI];have hK:=hI.king p.turn hI.turn;constructor
 ·rintro ⟨h | ⟨r,h⟩,hs⟩
  ·left;refine ⟨h,?_⟩;rw [(a1r hI h).at];unfold a2L at hs;simp only [Bool.or_eq_true,decide_eq_true_eq,Bool.not_eq_true'] at hs;rcases hs with hs | hs
   ·have:=h.t0;have:=hK.1;split at hs<;>omega
   ·exact hs
  ·right;refine ⟨r,h,?_⟩;obtain ⟨_,_,_,hc⟩:=I5 hI h;rw [← a2q hI hc];unfold a2L at hs;simp only [Bool.or_eq_true,decide_eq_true_eq,Bool.not_eq_true'] at hs;rw [if_pos (X8 hI hc).2] at hs;rcases hs with hs | hs
   ·have:=(X8 hI hc).1.1;omega
   ·exact hs
 ·rintro (⟨h,hs⟩ | ⟨r,h,hs⟩)
  ·refine ⟨.inl h,?_⟩;rw [(a1r hI h).at] at hs;unfold a2L;simp only [Bool.or_eq_true,decide_eq_true_eq,Bool.not_eq_true'];exact .inr hs
  ·refine ⟨.inr ⟨r,h⟩,?_⟩;obtain ⟨_,_,_,hc⟩:=I5 hI h;rw [← a2q hI hc] at hs;unfold a2L;simp only [Bool.or_eq_true,decide_eq_true_eq,Bool.not_eq_true'];rw [if_pos (X8 hI hc).2];exact .inr hs
theorem a0W:∀ n:Nat,n<4→(0≤homeK n∧homeK n≤63∧(g8 (homeK n)=0∨g8 (homeK n)=7))∧(0≤A0 n∧A0 n≤63∧(g8 (A0 n)=0∨g8 (A0 n)=7)):=by decide
theorem b8b {p:A3} (hI:B7 p) {m:Mv} (h:H8 p m) (hk:kindOf (sq p m.fr)=6):g8 m.to≠7*p.turn:=by
 have ht:=hI.turn;have hr:=hI.pawn m.fr h.f0 h.f1 hk;have f0:=h.f0;have f1:=h.f1;have hb:0≤g8 m.fr∧g8 m.fr≤7:=by simp only [g8];omega
 rcases S7 hI h.f0 h.f1 h.there h.own h.goal with ⟨g,_⟩ | ⟨_,_,_,g⟩ | ⟨_,_,g,_⟩
 ·exact absurd hk g
 ·unfold up at g;omega
 ·unfold up at g;omega
theorem a2r {p:A3} (hI:B7 p) {m:Mv} (h:H8 p m) (i:Int):0≤sq (made p m) i∧sq (made p m) i≤12:=by
 refine b2b (fun i _=>?_) i;obtain ⟨_,_,n1,n2⟩:=a1q hI h;have ht:=hI.turn;rw [R8 hI h zo];repeat' split
 ·omega
 ·omega
 ·omega
 ·exact hI.pc _
theorem b3r {p:A3} (hI:B7 p) {m:Mv} (h:H8 p m) (h2:a0i p m=true) :
  kindOf (sq p m.fr)=6∧m.to=m.fr+16*up p.turn∧g8 m.fr=1+5*p.turn∧sq p m.to=0∧sq p (m.fr+8*up p.turn)=0:=by
 unfold a0i at h2;simp only [Bool.and_eq_true,Bool.or_eq_true,decide_eq_true_eq] at h2;have ht:=hI.turn;have f0:=h.f0;have f1:=h.f1;rcases S7 hI h.f0 h.f1 h.there h.own h.goal with ⟨g,_⟩ | ⟨_,g0,gf,g⟩ | ⟨_,gf,g,_⟩
 ·exact absurd h2.1 g
 ·rcases g with g | ⟨g,g2,g3⟩
  ·exfalso;simp only [l9,g8,up] at *;omega
  ·have e:H2 (l9 m.fr) (g8 m.fr+up p.turn)=m.fr+8*up p.turn:=by
    rw [a5N]<;>simp only [l9,g8,up] at * <;> omega
   rw [e] at g3;refine ⟨h2.1,?_,g2,g0,g3⟩;simp only [l9,g8,up] at *;omega
 ·exfalso;simp only [l9,g8,up] at *;omega
theorem a5T {p:A3} (h:p.ep=-1):J9 p=true:=by
 unfold J9;rw [if_pos zo,h];rfl
theorem a2S {p:A3} (hI:B7 p) {m:Mv} {K w R:Int} (h:a08 p m K w R):a0i p m=false:=by
 unfold a0i;rw [h.mv];simp only [h.king,Y6 hI];simp
theorem b0t {p:A3} (hI:B7 p) {m:Mv} (h:H8 p m):J9 (made p m)=true:=by
 cases h2:a0i p m
 ·exact a5T (by show (if a0i p m then _ else (-1:Int))=-1;rw [h2];rfl)
 ·obtain ⟨hk,hto,hr,hz,hmid⟩:=b3r hI h h2;have ht:=hI.turn;have f0:=h.f0;have f1:=h.f1;have t0:=h.t0;have t1:=h.t1;have hep:(made p m).ep=m.fr+8*up p.turn:=by
   show (if a0i p m then (m.fr+m.to)/2 else (-1:Int))=_
   rw [h2,hto,if_pos rfl];omega
  have htu:(made p m).turn=1-p.turn:=rfl;unfold J9;rw [hep,htu];have hep1:¬ (m.fr+8*up p.turn<0∨63<m.fr+8*up p.turn):=by simp only [g8,up] at *;omega
  rw [if_neg hep1];have hf:l9 (m.fr+8*up p.turn)=l9 m.fr:=by simp only [l9,up] at *;omega
  have hrr:g8 (m.fr+8*up p.turn)=g8 m.fr+up p.turn:=by simp only [g8,up] at *;omega
  have hpawn:sq p m.fr=6+6*p.turn:=by have:=a2R hI h.there h.own;rw [hk] at this;exact this.2.2
  have hnp:a1p p m=6+6*p.turn:=by
   unfold a1p;rcases h.promo with ⟨e,_⟩ | ⟨_,_,_,e⟩
   ·rw [if_neg zo];exact hpawn
   ·exfalso;rw [hto] at e;simp only [g8,up] at *;omega
  have hnt:takes p m=false:=by
   unfold takes;rw [hz,hk];have:l9 m.fr=l9 m.to:=by rw [hto];simp only [l9,up] at *;omega
   simp [this]
  have hsq:∀ j:Int,0≤j→sq (made p m) j=if j=m.to then 6+6*p.turn else if j=m.fr then 0 else sq p j:=by
   intro j j0;rw [R8 hI h j0,hnp,hnt];simp
  have e1:H2 (l9 m.fr) (g8 m.fr+up p.turn-(1-2*(1-p.turn)))=m.to:=by
   rw [a5N]<;>simp only [l9,g8,up] at * <;> omega
  have e2:H2 (l9 m.fr) (g8 m.fr+up p.turn+(1-2*(1-p.turn)))=m.fr:=by
   rw [a5N]<;>simp only [l9,g8,up] at * <;> omega
  simp only [hf,hrr,e1,e2];rw [if_neg]
  ·rw [hsq _ t0,hsq _ f0,if_pos rfl,if_neg h.ne,if_pos rfl];simp only [Bool.and_eq_true,decide_eq_true_eq];exact ⟨zo,trivial⟩
  ·rintro (e | e)
   ·apply e;simp only [g8,up] at *;omega
   ·apply e;rw [hsq _ (by simp only [g8,up] at *;omega),if_neg (by simp only [g8,up] at *;omega),if_neg (by simp only [g8,up] at *;omega)];exact hmid
theorem B7.made {p:A3} (hI:B7 p) {m:Mv} (hm:m∈y8 p):B7 (made p m):=by
 have ht:=hI.turn;have htu:(Ch.made p m).turn=1-p.turn:=rfl;obtain ⟨l0,l1,lb⟩:=b5W hI.c0 hI.c1 m;have hh0:0≤(Ch.made p m).half:=by
  show 0≤(if takes p m||decide (kindOf (sq p m.fr)=6) then 0 else p.half+1)
  have:=hI.h0;split<;>omega
 have hf1:1≤(Ch.made p m).full:=by show 1≤p.full+p.turn;have:=hI.f1;omega
 rcases (P6 hI m).1 hm with ⟨h,hq⟩ | ⟨r,hr,hq⟩
 ·have ko:=a1r hI h;have kn:=a3X hI h;refine ⟨a2r hI h,?_,by rw [htu];omega,l0,l1,hh0,hf1,?_,?_,b0t hI h,?_⟩
  ·intro i i0 i1 hk;rw [R8 hI h i0] at hk;split at hk
   ·rename_i e;rw [e];unfold a1p at hk;have hrt:0≤g8 m.to∧g8 m.to≤7:=by have:=h.t0;have:=h.t1;simp only [g8];omega
    rcases h.promo with ⟨e1,e2⟩ | ⟨e1,e2,_,_⟩
    ·rw [if_neg zo] at hk;have:=b8b hI h hk;have e3:g8 m.to≠7-7*p.turn:=fun e3=>e2 ⟨hk,e3⟩;omega
    ·rw [if_pos zo,K5 zo zo ht] at hk;omega
   ·split at hk
    ·exact absurd hk zd
    ·split at hk
     ·exact absurd hk zd
     ·exact hI.pawn i i0 i1 hk
  ·intro c hc;have:c=p.turn∨c=1-p.turn:=by omega
   rcases this with rfl | rfl
   ·rw [ko.at];exact ko
   ·rw [kn.at];exact kn
  ·intro n hn hb;have hb':P8 (left p.castle m) n=true:=hb;rw [lb n hn] at hb';simp only [Bool.and_eq_true,Bool.not_eq_true'] at hb';obtain ⟨b1,b2⟩:=hb';unfold a15 at b2;simp only [Bool.or_eq_false_iff,decide_eq_false_iff_not] at b2;obtain ⟨⟨⟨q1,q2⟩,q3⟩,q4⟩:=b2;obtain ⟨⟨k0,k1,k2⟩,⟨r0,r1,r2⟩⟩:=a0W n hn;obtain ⟨s1,s2⟩:=hI.right n hn b1;have hnt:∀ x,(g8 x=0∨g8 x=7)→x≠m.to→¬ (takes p m=true∧x=D8 p m):=by
    rintro x hx hne ⟨e1,e2⟩;rcases a17 hI h e1 with ⟨e3,_⟩ | ⟨_,_,_,e3⟩
    ·exact hne (e2.trans e3)
    ·rw [← e2] at e3;omega
   rw [R8 hI h k0,R8 hI h r0,if_neg (fun e=>q3 e.symm),if_neg (fun e=>q1 e.symm),if_neg (hnt _ k2 (fun e=>q3 e.symm)),if_neg (fun e=>q4 e.symm),if_neg (fun e=>q2 e.symm),if_neg (hnt _ r2 (fun e=>q4 e.symm))];exact ⟨s1,s2⟩
  ·rw [htu,show (1-(1-p.turn))=p.turn by omega];exact hq
 ·obtain ⟨r4,rt,rb,hc⟩:=I5 hI hr;have ko:=(X8 hI hc).1;have kn:=a2p hI hc;have hk:=hc.k;have hw:(if A0 r<homeK r then (-1:Int) else 1)=1∧A0 r=homeK r+3∨(if A0 r<homeK r then (-1:Int) else 1)=-1∧A0 r=homeK r-4:=by rcases hc.way with h | h;exact .inl h;exact .inr ⟨h.1,h.2.1⟩
  refine ⟨a0V hI hc,?_,by rw [htu];omega,l0,l1,hh0,hf1,?_,?_,a5T (by show (if a0i p m then _ else (-1:Int))=-1;rw [a2S hI hc];rfl),?_⟩
  ·intro i i0 i1 hk2;have hs:=I6 hI hc i0;generalize (if A0 ↑r<homeK ↑r then (-1:Int) else 1)=w at hs
   rw [hs] at hk2;split at hk2
   ·rw [K5 zd zd ht] at hk2;omega
   split at hk2
   ·exact absurd hk2 zd
   split at hk2
   ·rw [K5 zd zd ht] at hk2;omega
   split at hk2
   ·exact absurd hk2 zd
   ·exact hI.pawn i i0 i1 hk2
  ·intro c hc2;have:c=p.turn∨c=1-p.turn:=by omega
   rcases this with rfl | rfl
   ·rw [ko.at];exact ko
   ·rw [kn.at];exact kn
  ·intro n hn hb;have hb':P8 (left p.castle m) n=true:=hb;rw [lb n hn] at hb';simp only [Bool.and_eq_true,Bool.not_eq_true'] at hb';obtain ⟨b1,b2⟩:=hb';unfold a15 at b2;simp only [Bool.or_eq_false_iff,decide_eq_false_iff_not] at b2;obtain ⟨⟨⟨q1,q2⟩,q3⟩,q4⟩:=b2;obtain ⟨⟨k0,k1,k2⟩,⟨r0,r1,r2⟩⟩:=a0W n hn;obtain ⟨s1,s2⟩:=hI.right n hn b1;have hfr:m.fr=homeK r:=by rw [hc.mv]
   rw [hfr] at q1;have far:∀ x,(x=homeK n∨x=A0 n)→x≠homeK r+(if A0 r<homeK r then -1 else 1)∧x≠A0 r∧x≠homeK r+2*(if A0 r<homeK r then -1 else 1)∧x≠homeK r:=by
    have hall:∀ n r:Nat,n<4→r<4→homeK r≠homeK n→∀ x∈[homeK n,A0 n],x≠homeK r+(if A0 r<homeK r then -1 else 1)∧x≠A0 r∧x≠homeK r+2*(if A0 r<homeK r then -1 else 1)∧x≠homeK r:=by
     intro n r hn hr;have e1:n=0∨n=1∨n=2∨n=3:=by omega
     have e2:r=0∨r=1∨r=2∨r=3:=by omega
     rcases e1 with rfl | rfl | rfl | rfl<;>rcases e2 with rfl | rfl | rfl | rfl<;>decide
    intro x hx;exact hall n r hn r4 q1 x (by simp;exact hx)
   obtain ⟨a1,a2,a3,a4⟩:=far _ (.inl rfl);obtain ⟨c1,c2,c3,c4⟩:=far _ (.inr rfl);rw [I6 hI hc k0,I6 hI hc r0,if_neg a1,if_neg a2,if_neg a3,if_neg a4,if_neg c1,if_neg c2,if_neg c3,if_neg c4];exact ⟨s1,s2⟩
  ·rw [htu,show (1-(1-p.turn))=p.turn by omega,ko.at,a2q hI hc];exact hq
end Ch
end
end Go.Proofs.YtpclhlhcegcflaaGreatDoor
