/- One part of the proof: Pgn9 Pgn10 Pgn11 Pgn8 Pgn12 Pgn13 Pgn14 Pgn15 Opn4. -/
import Derived.Test.YtpclhlhcegcflaaGreatDoorM17
namespace Go.Proofs.YtpclhlhcegcflaaGreatDoor
set_option maxRecDepth 100000
set_option linter.unusedSimpArgs false
set_option linter.unusedVariables false
section
open Go Go.RowKit
open E
open Ch Bb
theorem a9c:F0 60 104 2 32:=T7 zk
theorem N0 (x:Tg):(F5 x).length=2:=rfl
theorem a6D (x:Tg):∀ v∈F5 x,v.oneCell'=true:=by
 intro v hv;simp [F5] at hv;rcases hv with rfl|rfl<;>rfl
section
variable {w w':World} {b0 g n c:Nat} {l:List Tg}
theorem Row.ldk (h:Row 104 2 F5 b0 w (.slice (some ⟨g,0,none⟩) n c) l) {i:Nat} (hi:i<l.length):g8 G.P w 9 ⟨g,E.J0 0 ((i:Int)).toNat 2,none⟩ (m9 l[i].k):=by
 obtain ⟨cur,hb,h2⟩:=Row.get h N0 i 0 hi zd;exact L5 hb (by rw [E.r9,zg,yW];exact h2) rfl
theorem Row.ldv (h:Row 104 2 F5 b0 w (.slice (some ⟨g,0,none⟩) n c) l) {i:Nat} (hi:i<l.length):g8 G.P w 9 ⟨g,E.J0 0 ((i:Int)).toNat 2+1,none⟩ (m9 l[i].v):=by
 obtain ⟨cur,hb,h2⟩:=Row.get h N0 i 1 hi zd;exact L5 hb (by rw [E.r9,zg,yW];exact h2) rfl
theorem Row.val (h:Row 104 2 F5 b0 w (.slice (some ⟨g,0,none⟩) n c) l) {i:Nat} (hi:i<l.length) (V:Tx) :
  ∃ cur,w.heap[g]?=some (.cells cur 104 (0,0))∧i*2+1<cur.size∧∀ w',Upd w g (.cells (L8 cur (i*2+1) [m9 V]) 104 (0,0)) w'→Row 104 2 F5 b0 w' (.slice (some ⟨g,0,none⟩) n c) (l.set i ⟨l[i].k,V⟩):=by
 obtain ⟨cur0,hb0,hk⟩:=Row.get h N0 i 0 hi zd;obtain ⟨cs,h1,h2,h3,h4⟩:=Row.turn h N0 i hi ⟨l[i].k,V⟩;have e:=(xF (yi (h1.symm.trans hb0))).1;rw [Nat.add_zero,← e] at hk;refine ⟨cs,h1,zo,fun w' u=>h4 w' ?_⟩;have e2:L8 cs (i*2+1) [m9 V]=L8 cs (i*2) (F5 ⟨l[i].k,V⟩):=by
  apply xv;intro j;rw [S0 _ _ _ _ (by simp only [zh,za];omega),S0 _ _ _ _ (by rw [N0];exact h2),N0]
  simp only [zh,za];by_cases e1:j=i*2
  ·subst e1;rw [zJ zo,zM zo,hk,Nat.sub_self];rfl
  ·by_cases e3:j=i*2+1
   ·subst e3;rw [zM zo,zM zo,show i*2+1-i*2=1 by omega,Nat.sub_self];rfl
   ·rw [zJ zo,zJ zo]
 rw [← e2];exact u
end
theorem b7f (x:Tg) (l:List Tg) {k:Nat} (hk:k<l.length):Y4 x (l.take (k+1))++l.drop (k+1)=if l[k].k=x.k then (Y4 x (l.take k)++l.drop k).set k ⟨l[k].k,x.v⟩ else Y4 x (l.take k)++l.drop k:=by
 have hl:(Y4 x (l.take k)).length=k:=by simp [Y4];omega
 rw [zx hk,xU hk];have e:Y4 x (l.take k++[l[k]])=Y4 x (l.take k)++[if l[k].k=x.k then ⟨l[k].k,x.v⟩ else l[k]]:=by unfold Y4;rw [List.map_append];rfl
 rw [e,yG];by_cases h:l[k].k=x.k
 ·rw [zM h,zM h,List.set_append_right _ _ zo,hl,Nat.sub_self];rfl
 ·rw [zJ h,zJ h];rfl
theorem b0r (k:Tx) (y:Tg):∀ (l:List Tg) (i a:Nat),a3O k (l++[y]) i a=if G1 y.k k=true then i+l.length+1 else a3O k l i a
 | [],i,a=>rfl
 | z::r,i,a=>by
  rw [yU,a3O,b0r k y r,a3O,zh];split
  ·omega
  ·rfl
theorem b7g (x y:Tg) (l:List Tg):a5M x (l++[y])=(a5M x l||decide (y.k=x.k)):=by simp [a5M]
theorem c3Q (x:Tg) (l:List Tg) {k:Nat} (hk:k<l.length):(Y4 x (l.take k)++l.drop k)[k]?=some l[k]:=by
 have hl:(Y4 x (l.take k)).length=k:=by simp [Y4];omega
 rw [List.getElem?_append_right zo,hl,Nat.sub_self,xU hk];rfl
theorem b7h (x:Tg) (l:List Tg):(Y4 x l).map (·.k)=l.map (·.k):=by
 unfold Y4;rw [List.map_map];apply List.map_congr_left;intro y _;simp only [Function.comp];split<;>rfl
theorem b7i {x:Tg} {l:List Tg} (h:a5M x l=false):Y4 x l=l:=by
 unfold Y4;conv=>rhs;rw [← List.map_id l]
 apply List.map_congr_left;intro y hy;rw [zJ]
 ·rfl
 ·intro e;have:a5M x l=true:=by unfold a5M;rw [xD];exact ⟨y,hy,zX e⟩
  rw [h] at this;cases this
theorem b9D {t e z b:Nat} {dst:Option Nat} {ty:Nat} {pos:String} {af:Array Edge} {gd:Option (Nat×Bool)} {env:C8} {w:World} (E1:F0 t e z b) {K:Value→World→Prop} {x hi:Operand} {a:Option Addr} {n c h:Nat} (hx:ev env x = .slice a n c) (hh:ev env hi = .int .i64 h) (h2:h≤c) (hk:K (.slice (if c=0 then a else a.map (·.add (0*z))) h c) w) :
  H4 G.P { dst,op:=.slice t x none (some hi) none,type:=ty,pos,after:=af,guard:=gd } env w K:=by
 obtain ⟨v,h1,h3⟩:=b9B E1 (C:=fun w'=>w'=w) (K:=fun v=>v = .slice (if c=0 then a else a.map (·.add (0*z))) h c) (dst:=dst) (ty:=ty) (pos:=pos) (af:=af) (gd:=gd) hx hh h2 rfl
 subst h3;exact ⟨.inl ⟨_,w,h1 w rfl,hk⟩⟩
theorem c1X {e z b0:Nat} {α:Type} {enc:α→List Value} {w:World} {l:List α} {a:Option Addr} {n c:Nat} (h:Row e z enc b0 w (.slice a n c) l):n≤c:=by
 rcases h.2 with ⟨h1,h2⟩|⟨g,cap,cur,e1,e2,e3,e4,_⟩
 ·injection h1 with h1 h3 h4;omega
 ·injection e1 with e1 e8 e9;omega
theorem b9E (x:Tg) (l:List Tg) (j:Nat):(Y4 x (l.take j)++l.drop j).map (·.k)=l.map (·.k):=by
 rw [List.map_append,b7h,← List.map_append,xm]
theorem b2W (l:List Tg) (x:Tg):I7 (l++[x])=a0G (I7 l) x:=by simp [I7,List.foldl_append]
theorem b2X (l:List Tg) (x:Tg):(a0G l x).length≤l.length+1:=by
 unfold a0G;split
 ·simp [Y4]
 ·rw [zF,zh,yb,ye];omega
theorem b5B (k:Tx):∀ (l:List Tg) (i a:Nat),a≤i→a3O k l i a≤i+l.length
 | [],i,a,h=>by rw [a3O,za];omega
 | y::r,i,a,h=>by
  rw [a3O,zh];have:=b5B k r (i+1) (if G1 y.k k=true then i+1 else a) (by split<;>omega)
  omega
set_option maxHeartbeats 2000000 in
theorem b9F (l:List Tg) (hl:l.length≤1000) {vl:Value} (w:World) (htag:a0e w vl l):Calls G.P 78 #[vl] w (fun r w'=>∃ u,r = .returned u∧Row 104 2 F5 w.heap.size w' u (I7 l)∧Cl w w'):=by
 obtain ⟨al,cl,rfl,hal⟩:=htag.form;refine zN Tryz.func78 ?_;refine zR ?_;refine B6 (σ:=Nat×List Tg×Value) [3,4,5,6,7,8,9,10] 11 (fun s=>[(3,s.2.2),(4,.int .i64 s.1)]) (fun s w'=>s.1≤l.length∧s.2.1=I7 (l.take s.1)∧s.2.1.length≤s.1∧Row 104 2 F5 w.heap.size w' s.2.2 s.2.1∧Cl w w') (fun s=>l.length-s.1) zk
  (0,[],.slice none 0 0) ⟨xA _,by simp [I7],yJ _,Row.nil _ _,Cl.refl _⟩ ⟨rfl,rfl,trivial⟩ ?_
 rintro ⟨i,O,v⟩ j w1 ⟨hi,hO,hOl,hR,c1⟩;simp only at hi hO hOl hR c1 ⊢;obtain ⟨av,kv,rfl,hav⟩:=hR.form;have ni:=C7 (i:=i) zo;refine zR ?_;apply E.b9<;>intro h
 ·have hil:i<l.length:=by omega
  clear h;obtain ⟨gl,og,rfl⟩:=hal zo;have hnext:=b2W (l.take i) l[i];rw [← hO,← zx hil] at hnext;have hlk:=fun w' (c:Cl w w')=>(htag.step c).ldk i hil;have hlv:=fun w' (c:Cl w w')=>(htag.step c).ldv i hil;have hll:=fun w' (c:Cl w w')=>(htag.step c).ld i hil;generalize l[i]=x at *;refine zR ?_;refine B6 (σ:=Nat) [5,6,7,8,9] 11 (fun k=>[(5,.int .i64 (a3O x.k (O.take k) 0 0:Nat)),(6,.bool (a5M x (O.take k))),(7,.int .i64 k)]) (fun k w'=>k≤O.length∧Row 104 2 F5 w.heap.size w' (.slice av O.length kv) (Y4 x (O.take k)++O.drop k)∧Cl w w') (fun k=>O.length-k) zk
   0 ⟨xA _,hR,c1⟩ ⟨rfl,rfl,rfl,trivial⟩ ?_
  rintro k j w2 ⟨hk,hR2,c2⟩;have nk:=C7 (i:=k) zo;refine zR ?_;apply E.b9<;>intro h
  ·have hkl:k<O.length:=by omega
   clear h;obtain ⟨g,rfl⟩:=hav zo;have hmid:=c3Q x O hkl;have hml:(Y4 x (O.take k)++O.drop k).length=O.length:=by simp [Y4];omega
   have hst:=b7f x O hkl;have hat2:=b0r x.k O[k] (O.take k) 0 0;have hhs:=b7g x O[k] (O.take k);rw [← zx hkl] at hat2 hhs;rw [yb,Nat.min_eq_left zo,yW] at hat2;have hmk:(Y4 x (O.take k)++O.drop k)[k]'(by rw [hml];exact hkl)=O[k]:=by
    have:=hmid;rw [ym (by rw [hml];exact hkl)] at this
    exact yi this
   have hrk:=fun w' (c:Cl w2 w')=>(hR2.step c).ldk (i:=k) (by rw [hml];exact hkl)
   have hrv:=fun w' (c:Cl w2 w')=>(hR2.step c).val (i:=k) (by rw [hml];exact hkl) x.v
   rw [hmk] at hrk hrv;generalize (Y4 x (O.take k)++O.drop k)=M at *;obtain ⟨y,hy⟩:∃ y,y=O[k]:=⟨_,rfl⟩;rw [← hy] at hst hat2 hhs hrk hrv;refine zG ?_;refine Nx.mk ?_;refine a4F ?_;refine a3p ?_;refine Nx.go ?_;refine C3 (σ:=Unit) [6] 11 (fun _=>[(6,.bool (a5M x (O.take (k+1))))]) (fun _ w'=>Row 104 2 F5 w.heap.size w' (.slice (some ⟨g,0,none⟩) O.length kv) (Y4 x (O.take (k+1))++O.drop (k+1))∧Cl w w') zk ?_ (fun _ j w3 h3=>?_)
   ·refine zR ?_;refine zK 11 ?_;refine zR ?_;refine zC ?_;refine zR ?_;refine m7 _ (fun w' hw=>hrk _ hw) (zR ?_);refine zC ?_;refine zR ?_;refine m7 _ (fun w' hw=>hlk _ (c2.trans hw)) (zR ?_);intro w3 c3;refine zR ?_;have c03:=c2.trans c3;apply E.b9<;>intro h
    ·have q:=P8.1 h;clear h;rw [zM q] at hst;rw [hhs,zX q,Bool.or_true,hst];obtain ⟨cur,hb,hcz,hset⟩:=hrv w3 c3;have hw3:w.heap.size≤g:=(Row.lt hR2).1;refine zR ?_;refine zC ?_;refine zR ?_;refine b7 _ (hlv _ c03) (zR ?_);refine zC ?_;refine zR ?_;have eo:E.J0 0 ((k:Int)).toNat 2+1=k*2+1:=by rw [E.r9,zg,yW]
     refine K9 (o:=E.J0 0 ((k:Int)).toNat 2+1) hb [m9 x.v] rfl c4g rfl (by intro v hv;simp at hv;subst hv;rfl) (by rw [eo];omega) fun w4 u4=>?_
     rw [eo] at u4;refine zR ?_;exact ⟨(),⟨rfl,trivial⟩,hset _ u4,u4.cl c03 hw3⟩
    ·have q:y.k≠x.k:=fun e=>h (by rw [e])
     rw [zJ q] at hst;rw [hhs,zV q,Bool.or_false,hst];clear h;refine zR ?_;exact ⟨(),⟨rfl,trivial⟩,hR2.step c3,c03⟩
   obtain ⟨hR3,c3⟩:=h3;have hk3:(Y4 x (O.take (k+1))++O.drop (k+1)).length=O.length:=by simp [Y4];omega
   have hrk3:∀ w',Cl w3 w'→g8 G.P w' 9 ⟨g,E.J0 0 ((k:Int)).toNat 2,none⟩ (m9 y.k):=fun w' c=>by
    have:=(hR3.step c).ldk (i:=k) (by rw [hk3];exact hkl)
    have e:((Y4 x (O.take (k+1))++O.drop (k+1))[k]'(by rw [hk3];exact hkl)).k=y.k:=by
     have h1:=yH (fun l:List Tx=>l[k]?) (b9E x O (k+1));simp only [List.getElem?_map] at h1;rw [ym (by rw [hk3];exact hkl),ym hkl,← hy] at h1
     exact yi h1
    rwa [e] at this
   clear hst hrk hrv hhs hmk hml hmid;refine zR ?_;refine zK 14 ?_;refine zR ?_;refine zC ?_;refine zR ?_;refine m7 _ (fun w' hw=>hrk3 _ hw) (zR ?_);refine E2 _ (fun _ _ h=>h.trans) (fun w' _=>a8W y.k w') (zR ?_);refine zC ?_;refine zR ?_;refine m7 _ (fun w' hw=>hlk _ (c3.trans hw)) (zR ?_);refine E2 _ (fun _ _ h=>h.trans) (fun w' _=>a8W x.k w') (zR ?_);intro w4 c4;have c04:=c3.trans c4;have hR4:=hR3.step c4;refine zR ?_;refine zK 21 ?_;have hlt:∀ x y:Tx,Op.bytesLess (tx x).toList (tx y).toList=Op.bytesLess x y:=fun x y=>by rw [ByteArray.toList_eq,ByteArray.toList_eq];rfl
   have hrk4:=fun w' (c:Cl w4 w')=>hrk3 w' (c4.trans c);have hlk4:=fun w' (c:Cl w4 w')=>hlk w' (c04.trans c);have htl:G1 y.k x.k=(decide (rankT y.k<rankT x.k)||(decide (rankT y.k=rankT x.k)&&Op.bytesLess y.k x.k)):=rfl
   rw [htl] at hat2;clear htl;generalize rankT y.k=ra at *;generalize rankT x.k=rb at *;refine zR ?_;apply E.b9<;>intro h
   ·have q:ra<rb:=by omega
    have h0:=h;clear h;refine zR ?_;(repeat (refine E.z6 h0 ?_;refine zR ?_))
    intro w5 c5;refine zR ?_;(repeat (refine E.z6 h0 ?_;refine zR ?_))
    exact ⟨k+1,⟨d8 (nk.trans (by rw [hat2,zM (by rw [zX q];rfl)])),rfl,d8 nk,trivial⟩,⟨hkl,hR4.step c5,c04.trans c5⟩,zo⟩
   have q:¬ ra<rb:=by omega
   have h0:=h;clear h;refine zR ?_;(repeat (refine E.p9 h0 ?_;refine zR ?_))
   apply E.b9<;>intro h
   ·have q2:ra=rb:=by omega
    have h1:=h;clear h;refine zR ?_;(repeat (first|(refine E.p9 h0 ?_;refine zR ?_)|(refine E.z6 h1 ?_;refine zR ?_)|(refine zC ?_;refine zR ?_)|(refine m7 _ (fun w' hw=>hrk4 _ hw) ?_;refine zR ?_)|(refine m7 _ (fun w' hw=>hlk4 _ hw) ?_;refine zR ?_)))
    intro w5 c5;refine zR ?_;(repeat (first|(refine E.p9 h0 ?_;refine zR ?_)|(refine E.z6 h1 ?_;refine zR ?_)))
    rw [hlt];cases hbl:Op.bytesLess y.k x.k
    ·refine zR ?_;exact ⟨k+1,⟨d8 (by rw [hat2,zJ (by rw [zV q,hbl,Bool.and_false];exact Bool.false_ne_true)]),rfl,d8 nk,trivial⟩,⟨hkl,hR4.step c5,c04.trans c5⟩,zo⟩
    ·refine zR ?_;exact ⟨k+1,⟨d8 (nk.trans (by rw [hat2,zM (by rw [zX q2,hbl,Bool.and_true,Bool.or_true])])),rfl,d8 nk,trivial⟩,⟨hkl,hR4.step c5,c04.trans c5⟩,zo⟩
   ·have q2:¬ ra=rb:=by omega
    have h1:=h;clear h;refine zR ?_;(repeat (first|(refine E.p9 h0 ?_;refine zR ?_)|(refine E.p9 h1 ?_;refine zR ?_)))
    intro w5 c5;refine zR ?_;(repeat (first|(refine E.p9 h0 ?_;refine zR ?_)|(refine E.p9 h1 ?_;refine zR ?_)))
    exact ⟨k+1,⟨d8 (by rw [hat2,zJ (by rw [zV q,zV q2];exact Bool.false_ne_true)]),rfl,d8 nk,trivial⟩,⟨hkl,hR4.step c5,c04.trans c5⟩,zo⟩
  have e:k=O.length:=by omega
  rw [e,yZ,List.drop_length,zn] at hR2;rw [e,yZ];clear h nk e hk;unfold a0G at hnext;have hal2:a3O x.k O 0 0≤O.length:=by have:=b5B x.k O 0 0 (yJ _);omega
  have hsv:a5M x O=false→Y4 x O=O:=b7i;generalize a3O x.k O 0 0=A at *;generalize a5M x O=H at *;cases H
  ·rw [zJ zd] at hnext;refine zR ?_;rw [hsv rfl] at hR2;have hcap:=c1X hR2;have sT:=hR2.srcT N0 A hal2;have sD:=hR2.srcD N0 A hal2 rfl;have cD:Cl w2 w2.drew:=Cl.drew (Cl.refl _);refine J2.mk3 (Cl w2) [0,1,2,3,5,6,7] (.cons 4 (.cons 8 (.cons 9 .done .nil) .nil) .nil) cD zk (zR ?_);refine zC ?_;refine zR ?_;refine m7 _ (fun w' hw=>hll _ (c2.trans hw)) (zR ?_);refine b9C a9c (h:=A) rfl rfl hal2 (zE ?_);refine G2 a9c [.agg #[m9 x.k,m9 x.v]] (by rw [zb];rfl) (by simp [Value.cells]) rfl zd zd ?_
   have r3:Row 104 2 F5 w2.drew.heap.size (w2.drew.alloc (.cells (([.agg #[m9 x.k,m9 x.v]]:List Value).flatMap fun v=>v.cells.toList).toArray 104)) (.slice (some ⟨w2.drew.heap.size,0,none⟩) 1 1) [x]:=L4 N0 w2.drew [x] (by exact zU rfl) [.agg #[m9 x.k,m9 x.v]] rfl
   have r3:=r3.mono cD.size;have c3:=cD.trans (Cl.alloc w2.drew (.cells (([.agg #[m9 x.k,m9 x.v]]:List Value).flatMap fun v=>v.cells.toList).toArray 104));generalize w2.drew.alloc (.cells (([.agg #[m9 x.k,m9 x.v]]:List Value).flatMap fun v=>v.cells.toList).toArray 104)=w3 at *;refine zR ?_;refine And.intro c3 (And.intro ?_ trivial);refine zR ?_;refine b2V a9c rfl r3 rfl (sD.step c3) N0 a6D (by simp only [ye,zh,za];omega) zd c3.size fun v4 w4 r4 g4=>?_
   have c4:Cl w2 w4:=g4.toCl rfl c3;obtain ⟨a4,k4,rfl,_⟩:=r4.form;refine zR ?_;refine And.intro c4 (And.intro ?_ trivial);refine zR ?_;refine And.intro c4 (zR ?_);refine b4N a9c ?_;have r5:=(c1W (e:=104) (z:=2) (enc:=F5) w4).mono c4.size;have c5:=c4.trans (Cl.alloc w4 (.cells #[] 104));have hap:a5N (.slice a4 ([x]++O.drop A).length k4) (.slice (some ⟨w4.heap.size,0,none⟩) 0 0):=fun g h1 h2=>by
    have:=(Row.own r4 h1).2;have e:w4.heap.size=g:=yi h2;omega
   have r4:=r4.step (Cl.alloc w4 (.cells #[] 104));have z5:=F4 (d9 w4 (.cells #[] 104));generalize w4.alloc (.cells #[] 104)=w5 at *;refine zR ?_;refine b9D a9c (h:=A) rfl rfl zo (zR ?_);refine b2V a9c rfl r5 rfl (sT.step c5) N0 a6D (by simp only [yb,zh,za];omega) zd c5.size fun v6 w6 r6 g6=>?_
   have c6:Cl w2 w6:=g6.toCl rfl c5;have r46:=(r4.keepG g6 hap).1;obtain ⟨a6,k6,rfl,_⟩:=r6.form;refine zR ?_;refine K4 a9c rfl r6 rfl r46 N0 a6D (by simp only [zF,yb,ye,zh,za];omega) zd c6.size fun v7 w7 r7 g7=>?_
   have c7:Cl w2 w7:=g7.toCl rfl c6;have e7:[]++O.take A++([x]++O.drop A)=O.take A++x::O.drop A:=rfl;rw [e7,← hnext] at r7;have hl7:(I7 (l.take (i+1))).length≤i+1:=by rw [hnext,zF,zh,yb,ye];omega
   obtain ⟨a7,k7,rfl,_⟩:=r7.form;refine zR ?_;exact ⟨(i+1,I7 (l.take (i+1)),.slice a7 (I7 (l.take (i+1))).length k7),⟨rfl,d8 ni,trivial⟩,⟨hil,rfl,hl7,r7.mono c2.size,c2.trans c7⟩,by show l.length-(i+1)<l.length-i;omega⟩
  ·rw [zM rfl] at hnext;refine zR ?_;exact ⟨(i+1,Y4 x O,.slice av O.length kv),⟨rfl,d8 ni,trivial⟩,⟨hil,hnext.symm,by simp [Y4];omega,hR2,c2⟩,zo⟩
 ·have e:i=l.length:=by omega
  refine zR ?_;exact ⟨_,rfl,by rw [e,yZ] at hO;rw [← hO];exact hR,c1⟩
def a1P:l9→Bool→List (Ch.U3×Tx)→Tx
 | _,_,[]=>[]
 | p,f,x::r=>a6B p f++x.1.san++a3P x.2++[32]++a1P x.1.pos false r
def a0Y:List Ch.U3→List Tx→List (Ch.U3×Tx)
 | [],_=>[]
 | s::r,[]=>(s,[])::a0Y r []
 | s::r,c::cs=>(s,c)::a0Y r cs
theorem a3R:∀ (ms:List Ch.U3) (cs:List Tx),(a0Y ms cs).length=ms.length
 | [],_=>by rw [a0Y];rfl
 | m::r,[]=>by rw [a0Y,zh,a3R r [],zh]
 | m::r,c::cs=>by rw [a0Y,zh,a3R r cs,zh]
theorem b1n:∀ (ms:List Ch.U3) (cs:List Tx) (i:Nat) (h:i<ms.length),(a0Y ms cs)[i]'(by rw [a3R];exact h)=(ms[i],(cs[i]?).getD [])
 | m::r,[],0,_=>rfl
 | m::r,c::cs,0,_=>rfl
 | m::r,[],i+1,h=>by
  have:=b1n r [] i (by simpa using h)
  simp only [a0Y,List.getElem_cons_succ];rw [this];simp
 | m::r,c::cs,i+1,h=>by
  have:=b1n r cs i (by simpa using h)
  simp only [a0Y,List.getElem_cons_succ];rw [this];simp
theorem b7j (ms:List Ch.U3) (cs:List Tx) (i:Nat) (h:i<ms.length):(a0Y ms cs).drop i=(ms[i],(cs[i]?).getD [])::(a0Y ms cs).drop (i+1):=by
 rw [xU (by rw [a3R];exact h),b1n]
section
variable {w:World} {b0 g n c:Nat} {l:List Ch.U3}
theorem b7k (h:Row 39 81 stL b0 w (.slice (some ⟨g,0,none⟩) n c) l) {i:Nat} (hi:i<l.length):g8 G.P w 9 ⟨g,E.J0 0 ((i:Int)).toNat 81+4,none⟩ (m9 l[i].san):=by
 obtain ⟨cur,hb,h2⟩:=Row.get h a1g i 4 hi zd;exact L5 hb (by rw [E.r9,zg,yW];exact h2) rfl
theorem b9G (s:Ch.U3):(stL s)[78]?=some (m9 s.outcome):=by
 unfold stL;rw [List.getElem?_append_right (by simp),List.getElem?_append_right (by rw [A7];simp),A7]
 rfl
theorem b9H (s:Ch.U3):(stL s)[79]?=some (.int .i64 s.method):=by
 unfold stL;rw [List.getElem?_append_right (by simp),List.getElem?_append_right (by rw [A7];simp),A7]
 rfl
theorem b7l (h:Row 39 81 stL b0 w (.slice (some ⟨g,0,none⟩) n c) l) {i:Nat} (hi:i<l.length):g8 G.P w 9 ⟨g,E.J0 0 ((i:Int)).toNat 81+78,none⟩ (m9 l[i].outcome):=by
 obtain ⟨cur,hb,h2⟩:=Row.get h a1g i 78 hi zd;have e:=h2.trans (b9G l[i]);exact L5 hb (by rw [E.r9,zg,yW];exact e) rfl
theorem b4y (h:Row 39 81 stL b0 w (.slice (some ⟨g,0,none⟩) n c) l) {i:Nat} (hi:i<l.length):g8 G.P w 3 ⟨g,E.J0 0 ((i:Int)).toNat 81+79,none⟩ (.int .i64 l[i].method):=by
 obtain ⟨cur,hb,h2⟩:=Row.get h a1g i 79 hi zd;have e:=h2.trans (b9H l[i]);exact L5 hb (by rw [E.r9,zg,yW];exact e) rfl
theorem b7m (h:Row 39 81 stL b0 w (.slice (some ⟨g,0,none⟩) n c) l) {i:Nat} (hi:i<l.length):g8 G.P w 24 ⟨g,E.J0 0 ((i:Int)).toNat 81+9,none⟩ (D3 l[i].pos):=by
 obtain ⟨cur,h1,h2,h3⟩:=h.getAll a1g i hi;have:=ldA (t:=24) (o:=i*81+9) (z:=69) h1 rfl zo;have e0:((stL l[i]).toArray).extract 9 78=s7 l[i].pos:=by
  unfold stL s7;apply Array.ext';simp only [Array.toList_extract,List.extract_eq_take_drop];rw [List.drop_left' (by rfl),List.take_left' (by rw [A7])]
 have e:cur.extract (i*81+9) (i*81+9+69)=s7 l[i].pos:=by
  rw [← e0,← h3,Array.extract_extract];congr 1<;>omega
 rw [e] at this;rw [E.r9,zg,yW];exact this
end
theorem a9d (l:List Tg):(I7 l).length≤l.length:=by
 have:∀ (l out:List Tg),(l.foldl a0G out).length≤out.length+l.length:=by
  intro l
  induction l with
  | nil=>intro out;exact yJ _
  | cons x r ih =>
   intro out;rw [List.foldl_cons,zh];have:=ih (a0G out x);have:=b2X out x;omega
 have:=this l [];rw [za,yW] at this;exact this
def b9I (tg:List Tg) (p:l9) (zs:List (Ch.U3×Tx)) (out:Tx):Tx:=X3 tg++(if tg=[] then [] else [10])++a1P p true zs++out
set_option maxHeartbeats 4000000 in
theorem b7n {p:l9} (S:List Ch.U3) (hS:S.length≤1000) (hf1:1≤p.full∧p.full≤4611686018427387900) (hfS:∀ s∈S,1≤s.pos.full∧s.pos.full≤4611686018427387900) (ls:List Tg) (hls:ls.length≤1000) (cs:List Tx) (out:Tx) {b0:Nat} {v vl vc:Value} (w:World) (hrow:Row 39 81 stL b0 w v S) (htag:a0e w vl ls) (hcom:a6C w vc cs)
  (hlen:(b9I (I7 ls) p (a0Y S cs) out).length≤1000000) :
  Calls G.P 34 #[D3 p,v,vl,vc,m9 out] w (N2 (m9 (b9I (I7 ls) p (a0Y S cs) out)) w):=by
 obtain ⟨ac,cc,rfl,hac⟩:=hcom.form;obtain ⟨ax,kx,rfl,hax⟩:=hrow.form;obtain ⟨al,kl,rfl,_⟩:=htag.form;have hLab:=fun w' (c:Cl w w')=>b9F ls hls w' (htag.step c);have htl:(I7 ls).length≤1000:=zw (a9d ls) hls;generalize I7 ls=TG at *;unfold b9I at hlen ⊢;refine zN Tryz.func34 ?_;refine zR ?_;have c1:=Cl.alloc w (.cells (s7 p) 24);have n1:=d9 w (.cells (s7 p) 24);generalize w.alloc (.cells (s7 p) 24)=w1 at *;obtain ⟨kp,hkp⟩:∃ k,k=w.heap.size:=⟨_,rfl⟩;rw [← hkp] at n1 ⊢;refine o7 (hLab _ c1) ?_;rintro r w2 ⟨u,rfl,hRt,c2⟩;refine ⟨_,rfl,?_⟩;obtain ⟨ag,kg,rfl,hag⟩:=hRt.form;have n2:=c2.blk n1;have c02:=c1.trans c2;refine zR ?_;refine B6 (σ:=Nat×Tx) [11,13] 16 (fun s=>[(11,m9 s.2),(13,.int .i64 s.1)]) (fun s w'=>s.1≤TG.length∧s.2=X3 (TG.take s.1)∧Cl w2 w') (fun s=>TG.length-s.1) zk
  (0,[]) ⟨xA _,by simp [X3],Cl.refl _⟩ ⟨rfl,rfl,trivial⟩ ?_
 rintro ⟨i,T⟩ j w3 ⟨hi,hT,c3⟩;simp only at hi hT c3 ⊢;refine zR ?_;apply E.b9<;>intro h
 ·have hil:i<TG.length:=by omega
  clear h;obtain ⟨g,rfl⟩:=hag zo;have ni:=C7 (i:=i) zo;have etk:X3 (TG.take (i+1))=X3 (TG.take i)++([91]++TG[i].k++[32,34]++TG[i].v++[34,93,10]):=by
   unfold X3;rw [zx hil,x9,List.flatMap_singleton]
  have hlen3:(X3 (TG.take (i+1))).length≤1000000:=by
   refine zw ?_ hlen;unfold X3;conv=>rhs;rw [← xm (i+1) TG,x9]
   simp only [zF];omega
  rw [etk,← hT] at hlen3;rw [← hT] at etk;rw [zF] at hlen3;simp only [zF,zh,za] at hlen3;have hk:=fun w' (c:Cl w2 w')=>(hRt.step c).ldk hil;have hv:=fun w' (c:Cl w2 w')=>(hRt.step c).ldv hil;generalize TG[i].k=KK at *;generalize TG[i].v=VV at *;refine zR ?_;refine zK 17 ?_;refine zR ?_;refine zC ?_;refine zR ?_;refine m7 _ (fun w' hw=>hk _ (c3.trans hw)) (zR ?_);refine E.A8 (A5 (x:=[91]) (y:=KK) (by simp;omega)) ?_
  rw [J4,A9];refine zR ?_;refine E.A8 (A5 (x:=[91]++KK) (y:=[32,34]) (by simp;omega)) ?_
  rw [J4,A9];refine zR ?_;refine zC ?_;refine zR ?_;refine m7 _ (fun w' hw=>hv _ (c3.trans hw)) (zR ?_);refine E.A8 (A5 (x:=[91]++KK++[32,34]) (y:=VV) (by simp;omega)) ?_
  rw [A9];refine zR ?_;refine E.A8 (A5 (x:=[91]++KK++[32,34]++VV) (y:=[34,93,10]) (by simp;omega)) ?_
  rw [J4,A9];refine zR ?_;refine E.A8 (A5 (x:=T) (y:=[91]++KK++[32,34]++VV++[34,93,10]) (by simp;omega)) ?_
  rw [A9];refine zR ?_;intro w4 c4;refine zR ?_;refine ⟨(i+1,T++([91]++KK++[32,34]++VV++[34,93,10])),⟨rfl,d8 ni,trivial⟩,⟨hil,etk.symm,c3.trans c4⟩,by show TG.length-(i+1)<TG.length-i;omega⟩
 have ei:i=TG.length:=by omega
 clear h;rw [ei,yZ] at hT;have hne:(if TG=[] then ([]:Tx) else [10])=if 0<TG.length then [10] else []:=by
  cases TG<;>simp
 rw [hne,← hT] at hlen ⊢;have c03:=c02.trans c3;have n3:=c3.blk n2;clear hne hT ei hi n2 n1 hLab hRt hag hkp c1 c2;refine zG ?_;refine C3 (σ:=Unit) [11] 16 (fun _=>[(11,m9 (T++if 0<TG.length then [10] else []))]) (fun _ w'=>w'=w3) zk ?_ (fun _ j w4 e4=>?_)
 ·refine zR ?_;apply E.b9<;>intro h
  ·have q:0<TG.length:=by omega
   clear h;rw [zM q] at hlen ⊢;simp only [zF,zh,za] at hlen;refine zR ?_;refine E.A8 (A5 (x:=T) (y:=[10]) (by simp;omega)) ?_
   rw [J4,A9];refine zR ?_;exact ⟨(),⟨rfl,trivial⟩,rfl⟩
  ·have q:¬ 0<TG.length:=by omega
   clear h;refine zR ?_;rw [zJ q,zn];exact ⟨(),⟨rfl,trivial⟩,rfl⟩
 subst e4;generalize (T++if 0<TG.length then [10] else [])=T1 at *
 obtain ⟨zp,hzp,hz69⟩:=a9p;refine zR ?_;refine b7 _ (A3 n3) (zR ?_);refine v8 zp hzp (zR ?_);refine K9 (d9 _ _) (V0 p) rfl a0I (A7 _) (one_pos _) (by rw [hz69];omega) (fun w5 u5=>?_)
 have hQ:w5.heap[w4.heap.size]?=some (.cells (s7 p) 24 (0,0)):=by
  rw [u5.at_,C6 _ _ (by rw [A7,hz69])];rfl
 have c45:Cl w4 w5:=u5.cl (Cl.alloc _ _) (yJ _);clear u5 n3;have c05:=c03.trans c45;have hb4:w.heap.size≤w4.heap.size:=c03.size;generalize w4.heap.size=bp at *;refine zR ?_;refine B6 (σ:=Nat×Tx×l9) [11,15] 16 (fun s=>[(11,m9 s.2.1),(15,.int .i64 s.1)]) (fun s w'=>s.1≤S.length∧s.2.1++a1P s.2.2 (decide (s.1=0)) ((a0Y S cs).drop s.1)=T1++a1P p true (a0Y S cs)∧1≤s.2.2.full∧s.2.2.full≤4611686018427387900∧w'.heap[bp]?=some (.cells (s7 s.2.2) 24 (0,0))∧Cl w w') (fun s=>S.length-s.1) zk
  (0,T1,p) ⟨xA _,rfl,hf1.1,hf1.2,hQ,c05⟩ ⟨rfl,rfl,trivial⟩ ?_
 clear hQ c05 c45 c03 c3 c02;rintro ⟨i,T2,q⟩ j w6 ⟨hi,hT,hq1,hq2,hQ,c6⟩;simp only at hi hT hq1 hq2 hQ c6 ⊢;refine zR ?_;apply E.b9<;>intro h
 ·have hil:i<S.length:=by omega
  clear h;have ni:=C7 (i:=i) zo;obtain ⟨g,rfl⟩:=hax zo;rw [b7j S cs i hil] at hT;have hsan:=fun w' (c:Cl w w')=>b7k (hrow.step c) hil;have hpos:=fun w' (c:Cl w w')=>b7m (hrow.step c) hil;have hfs:=hfS _ (yO hil);have hTT:T2++a1P q (decide (i=0)) ((S[i],(cs[i]?).getD [])::(a0Y S cs).drop (i+1))=(T2++(a6B q (decide (i=0))++S[i].san++a3P ((cs[i]?).getD [])++[32]))++a1P S[i].pos (decide (i+1=0)) ((a0Y S cs).drop (i+1)):=by
   rw [a1P,zV (by omega:¬ i+1=0)]
   simp only [yG]
  rw [hTT] at hT;clear hTT;have hlen2:(T2++(a6B q (decide (i=0))++S[i].san++a3P ((cs[i]?).getD [])++[32])).length≤1000000:=by
   have:=yH List.length hT;simp only [zF] at this hlen ⊢;omega
  simp only [zF,zh,za] at hlen2;generalize S[i].san=SN at *;generalize S[i].pos=q2 at *;obtain ⟨n,hn⟩:=ze (show 0≤q.full by omega)
  have hdec:=fun w'=>a0o n w' zo;have hnT:a6B q (decide (i=0))=if q.turn=0 then X8 n++[46,32] else if i=0 then X8 n++[46,46,46,32] else []:=by
   unfold a6B;rw [hn,zg];by_cases h0:i=0<;>simp [h0]
  rw [hnT] at hT hlen2;clear hnT;generalize X8 n=D at *;refine zG ?_;refine Nx.mk ?_;refine a4F ?_;refine a3p ?_;refine Nx.go ?_;refine C3 (σ:=Unit) [11] 16 (fun _=>[(11,m9 (T2++if q.turn=0 then D++[46,32] else if i=0 then D++[46,46,46,32] else []))]) (fun _ w'=>Cl w6 w') zk ?_ (fun _ j w7 c7=>?_)
  ·refine zR ?_;refine b7 _ (E9 hQ) (zR ?_);apply E.b9<;>intro h
   ·have h0:q.turn=0:=by omega
    clear h;rw [zM h0] at hlen2 ⊢;simp only [zF,zh,za] at hlen2;refine zR ?_;refine b7 _ (a5Z hQ) ?_;rw [hn];refine zR ?_;refine o9 (hdec w6) fun w7 c7=>zR ?_;refine E.A8 (A5 (x:=D) (y:=[46,32]) (by simp;omega)) ?_
    rw [J4,A9];refine zR ?_;refine E.A8 (A5 (x:=T2) (y:=D++[46,32]) (by simp;omega)) ?_
    rw [A9];refine zR ?_;exact ⟨(),⟨rfl,trivial⟩,c7⟩
   ·have h0:¬ q.turn=0:=by omega
    clear h;rw [zJ h0] at hlen2 ⊢;refine zR ?_;apply E.b9<;>intro h
    ·have h1:i=0:=by omega
     clear h;rw [zM h1] at hlen2 ⊢;simp only [zF,zh,za] at hlen2;refine zR ?_;refine b7 _ (a5Z hQ) ?_;rw [hn];refine zR ?_;refine o9 (hdec w6) fun w7 c7=>zR ?_;refine E.A8 (A5 (x:=D) (y:=[46,46,46,32]) (by simp;omega)) ?_
     rw [J4,A9];refine zR ?_;refine E.A8 (A5 (x:=T2) (y:=D++[46,46,46,32]) (by simp;omega)) ?_
     rw [A9];refine zR ?_;exact ⟨(),⟨rfl,trivial⟩,c7⟩
    ·have h1:¬ i=0:=by omega
     clear h;rw [zJ h1,zn];refine zR ?_;exact ⟨(),⟨rfl,trivial⟩,Cl.refl _⟩
  rw [← yG,← yG,← yG] at hT;rw [Nat.add_assoc,Nat.add_assoc,← Nat.add_assoc,← zF] at hlen2;generalize (T2++if q.turn=0 then D++[46,32] else if i=0 then D++[46,46,46,32] else [])=T3 at *
  have c07:=c6.trans c7;have hQ7:=c7.blk hQ;refine zR ?_;refine zC ?_;refine zR ?_;refine b7 _ (hsan _ c07) (zR ?_);refine E.A8 (A5 (x:=T3) (y:=SN) zo) ?_;rw [A9];refine zG ?_;rw [← Nat.add_assoc,← zF] at hlen2;generalize hT4:T3++SN=T4 at *;have hgc:(i<cs.length)→∃ gc oc,ac=some ⟨gc,oc,none⟩:=fun h=>hac zo;refine C3 (σ:=Unit) [11] 16 (fun _=>[(11,m9 (T4++a3P ((cs[i]?).getD [])))]) (fun _ w'=>w'=w7) zk ?_ (fun _ j w8 e8=>?_)
  ·refine zR ?_;apply E.b9<;>intro h
   ·have hcl:i<cs.length:=by omega
    have h0:=h;clear h;obtain ⟨gc,oc,rfl⟩:=hgc hcl;rw [ym hcl,Option.getD_some] at hlen2 ⊢;have hlc:g8 G.P w7 9 ⟨gc,E.J0 oc ((i:Int)).toNat 1,none⟩ (m9 cs[i]):=(hcom.step c07).ld i hcl;generalize cs[i]=CT at *;refine zR ?_;(repeat (first|(refine E.z6 h0 ?_;refine zR ?_)|(refine zC ?_;refine zR ?_)|(refine b7 _ hlc ?_;refine zR ?_)))
    apply E.y6<;>intro h
    ·have q5:CT≠[]:=fun e=>h (by rw [e];rfl)
     have ec:a3P CT=[32,123]++CT++[125]:=by unfold a3P;rw [zJ q5]
     rw [ec] at hlen2 ⊢;simp only [zF,zh,za] at hlen2;clear h;refine zR ?_;refine zC ?_;refine zR ?_;refine b7 _ hlc (zR ?_);refine E.A8 (A5 (x:=[32,123]) (y:=CT) (by simp;omega)) ?_
     rw [J4,A9];refine zR ?_;refine E.A8 (A5 (x:=[32,123]++CT) (y:=[125]) (by simp;omega)) ?_
     rw [J4,A9];refine zR ?_;refine E.A8 (A5 (x:=T4) (y:=[32,123]++CT++[125]) (by simp;omega)) ?_
     rw [A9];refine zR ?_;exact ⟨(),⟨rfl,trivial⟩,rfl⟩
    ·have q5:CT=[]:=P8.1 h;clear h;refine zR ?_;exact ⟨(),⟨by rw [q5,show a3P []=[] from rfl,zn];rfl,trivial⟩,rfl⟩
   ·have hcl:¬ i<cs.length:=by omega
    have h0:=h;clear h;rw [xH zo,Option.getD_none];refine zR ?_;(repeat (refine E.p9 h0 ?_;refine zR ?_))
    exact ⟨(),⟨by rw [show a3P []=[] from rfl,zn];rfl,trivial⟩,rfl⟩
  subst e8;generalize a3P ((cs[i]?).getD [])=CC at *;refine zR ?_;refine E.A8 (A5 (x:=T4++CC) (y:=[32]) (by simp;omega)) ?_
  rw [J4,A9];refine zR ?_;refine zC ?_;refine zR ?_;refine b7 _ (hpos _ c07) (zR ?_);refine K9 hQ7 (V0 q2) rfl a0I (A7 _) (one_pos _) (by rw [A0];omega) (fun w9 u9=>?_)
  have hQ9:w9.heap[bp]?=some (.cells (s7 q2) 24 (0,0)):=by
   rw [u9.at_,C6 _ _ (by rw [A7,A0])];rfl
  refine zR ?_;exact ⟨(i+1,T4++CC++[32],q2),⟨rfl,d8 ni,trivial⟩,⟨hil,hT,hfs.1,hfs.2,hQ9,u9.cl c07 hb4⟩,by show S.length-(i+1)<S.length-i;omega⟩
 have ei:i=S.length:=by omega
 clear h;rw [ei,List.drop_of_length_le (by rw [a3R];exact yJ _)] at hT
 have hT:T2=T1++a1P p true (a0Y S cs):=by
  rw [← hT];show T2=T2++[];rw [zn]
 rw [← hT] at hlen ⊢;rw [zF] at hlen;refine zR ?_;refine E.A8 (A5 (x:=T2) (y:=out) zo) ?_;rw [A9];refine zR ?_;exact ⟨rfl,c6⟩
theorem b2Y {i:Nat} (h:i<2147483648):IntKind.i64.wrap ((i:Int)+1)=((i+1:Nat):Int):=by rw [g9 zo zo];push_cast;rfl
theorem a9e (s:Tx) (name:Bool) (hs:s.length≤2147483647) (w:World):Calls G.P 72 #[m9 s,.bool name] w (fun r w'=>(∃ b,r = .returned (.bool b)∧(b=true→s.length≤60))∧w'=w):=by
 have hsz:(tx s).size=s.length:=C5 s;refine zN Tryz.func72 ?_;refine zR ?_;refine B6 (σ:=Nat) [4,5,6,7] 8 (fun i=>[(5,.int .i64 i)]) (fun i w'=>i≤s.length∧w'=w) (fun i=>s.length-i) zk 0 ⟨xA _,rfl⟩ ⟨rfl,trivial⟩ ?_;rintro i j w1 ⟨hi,rfl⟩;refine zR ?_;rw [hsz];apply E.b9<;>intro h
 ·have hil:i<s.length:=by omega
  have ni:=b2Y (i:=i) zo;clear h;refine zR ?_;refine E.A8 (F2.2 ⟨zo,by rw [hsz];omega⟩) ?_
  generalize ((tx s).get! ((i:Int)).toNat).toNat=c;refine zG ?_;refine C3 (σ:=Bool) [7] 8 (fun b=>[(7,.bool b)]) (fun _ w'=>w'=w1) zk ?_ (fun b j w2 e=>?_)
  ·refine zR ?_;repeat' (first
    | exact ⟨_,⟨rfl,trivial⟩,rfl⟩
    | (apply E.b9<;>intro h<;>refine zR ?_)
    | (apply E.S7<;>intro h<;>refine zR ?_))
  subst e;cases name<;>cases b<;>(
   refine zR ?_;repeat' (first
    | exact ⟨⟨false,rfl,fun e=>by cases e⟩,rfl⟩
    | exact ⟨i+1,⟨d8 ni,trivial⟩,⟨hil,rfl⟩,by show s.length-(i+1)<s.length-i;omega⟩
    | (apply E.b9<;>intro h<;>refine zR ?_)
    | (apply E.y6<;>intro h<;>refine zR ?_)
    | (apply E.S7<;>intro h<;>refine zR ?_)))
 ·clear h;refine zR ?_;rw [hsz];apply E.b9<;>intro h
  ·have q:s.length≤60:=by omega
   refine zR ?_;repeat' (first
    | exact ⟨⟨_,rfl,fun _=>q⟩,rfl⟩
    | (apply E.b9<;>intro h<;>refine zR ?_)
    | (apply E.y6<;>intro h<;>refine zR ?_)
    | (apply E.S7<;>intro h<;>refine zR ?_))
  ·refine zR ?_;repeat' (first
    | exact ⟨⟨false,rfl,fun e=>by cases e⟩,rfl⟩
    | (refine E.p9 (by assumption) ?_;refine zR ?_))
theorem b9J (a b:Value):c5c 73 #[a,b]:=by
 intro w;refine callsD_of_wpS (P:=Tryz.prog) Tryz.func73 rfl fun c₀ cs hu=>?_;apply wpS_seq;apply wpS_region;simp [wpOpsS,go_sem,recoverD,hu,Tryz.ntmps73,Exit.thenS];refine wpS_cond (t:=false) (by simp [Act.eval,Array.replicate]) ?_
 simp only [yD,xh];refine wpS_of_wp (wp_skip ?_);cases c₀;simp_all [bodyPostS,results,Tryz.results73]
theorem a9f (x:Tg) (k:Tx):∀ l:List Tg,X2 (l++[x]) k=if k=x.k then some x.v else X2 l k
 | []=>by simp [X2]
 | y::r=>by
  rw [yU,X2,a9f x k r,X2];by_cases h:k=x.k<;>simp [h]
theorem a5g {w:World} {k m:Nat} {cs:Array Value} {t:Nat} {fz:Nat×Nat} {es:List EnT} {c:Nat} (h1:w.heap[k]?=some (.cells cs t fz)) (h2:w.heap[m]?=some (a1M es c)):k≠m:=fun e=>by
 rw [e,h2] at h1;cases h1
theorem KT.map {w w':World} {m:Nat} {es:List EnT} {c:Nat} {o:Obj} (u:Upd w m o w') (h:w.heap[m]?=some (a1M es c)):KT 0 w w':=fun k cs t _ hk=>(Tn.upd u).blk hk (a5g hk h)
theorem b9K:∃ z,(G.P.info? 104).bind (·.zero)=some z∧z.cells.size=2:=a0C zk
theorem b4z:(G.P.info? 104).map (·.size)=some 2:=by kernel_rfl
set_option maxHeartbeats 4000000 in
theorem b7o {p:l9} (hI:Ch.D0 p) (hh:p.half≤1000000) (hf:p.full≤1000000) (ms:List Mv) (hms:∀ m∈ms,MvR m) (hq:quiet p ms=true) (hleg:a0A p ms) (hn:ms.length≤80) (usual:Bool) (hu:usual=true→p=I2) (ls:List Tg) (hls:ls.length≤12) (cs:List Tx) {FE:Int×Tx} (hFE:FE=a0u [p] (if (!usual)=true then C4 [p] p (0,star) else (0,star)) p ms) (hFN:FE.2≠[]) {v vl vc:Value} (w:World) (hT:D5 w) (hS:Spc w) (hw:Pow w) (hrow:a3E w v ms) (htag:a0e w vl ls) (hcom:a6C w vc cs)
  (hlen:(a7t (I7 ls) p (a0R ms cs) FE.2).length≤1000000) :
  Calls G.P 33 #[m9 (if usual then [] else O0 p),v,vl,vc] w (N2 (.tuple #[m9 (a7t (I7 ls) p (a0R ms cs) FE.2),.bool true]) w):=by
 obtain ⟨am,cm,rfl,ham⟩:=hrow.form;obtain ⟨I9,ct,rfl,hat⟩:=htag.form;obtain ⟨ac,cc,rfl,hac⟩:=hcom.form;obtain ⟨zm,hzm,hzm3⟩:=c4Q;obtain ⟨zt,hzt,hzt2⟩:=b9K;have hle:=a4P hI;have hq0:=a5e hq;have hbg:=fun w hT hS=>c1P hI zo zo zo usual hu w hT hS;generalize (if usual then ([]:Tx) else O0 p)=T0 at *
 have hlab:=b0n ls;generalize I7 ls=TG at *;refine c3O (fc:=73) (t:=16) (args:=[m9 T0,.slice am ms.length cm,.slice I9 ls.length ct,.slice ac cs.length cc]) (c5k 8 9 9 4) Tryz.func33 rfl (by simp [Tryz.ntmps33]) zk zk (by simp [Tryz.ntmps33]) rfl rfl rfl rfl rfl rfl zk (fun a w v h=>a9w rfl a w v h) (zR ?_)
 refine v8 (m9 []) zk ?_;have ca:=Cl.alloc w (.cells (m9 []).cells 9);have na:(w.alloc (.cells (m9 []).cells 9)).heap[w.heap.size]?=some (.cells #[m9 []] 9 (0,0)):=d9 w _;have sa:=B0 w (.cells (m9 []).cells 9);generalize w.alloc (.cells (m9 []).cells 9)=w1 at *;refine zR ?_;refine v8 (.bool false) zk ?_;have cb:=ca.trans (Cl.alloc w1 (.cells (Value.bool false).cells 4));have na:=(Cl.alloc w1 (.cells (Value.bool false).cells 4)).blk na;have nb:(w1.alloc (.cells (Value.bool false).cells 4)).heap[w1.heap.size]?=some (.cells #[.bool false] 4 (0,0)):=d9 w1 _;have sb:=B0 w1 (.cells (Value.bool false).cells 4);generalize w1.alloc (.cells (Value.bool false).cells 4)=w2 at *;obtain ⟨Ra,hRa⟩:∃ R,R=w.heap.size:=⟨_,rfl⟩;obtain ⟨Rb,hRb⟩:∃ R,R=w1.heap.size:=⟨_,rfl⟩;have hab:Ra<Rb:=by omega
 rw [← hRa] at na;rw [← hRb] at nb;rw [← hRa,← hRb];clear ca sa sb;refine zR ?_;refine ⟨rfl,#[.pointer (some ⟨Ra,0,none⟩),.pointer (some ⟨Rb,0,none⟩)],by rw [zb];rfl,b9J _ _,?_⟩
 refine zR ?_;refine o7 (hbg w2 (hT.cl cb) (hS.cl cb)) ?_;rintro e w4 ⟨G0,rfl,⟨⟨g,z,hG,hzp,hzM,hzP,hmo,hzc,m,hgt,hmm,hm4⟩,c4,sG⟩⟩;refine ⟨_,rfl,?_⟩;have c04:=cb.trans c4;have s3:=cb.size;have na:=c4.blk na;have nb:=c4.blk nb;have hIz:Ch.D0 z.p:=by rw [hzp];exact hI
 have hNz:Ng z.p 0:=by rw [hzp];exact ⟨zo,zo⟩
 have hqz:quiet z.p (ms.drop 0)=true:=by rw [hzp];exact hq
 have hlz:a0A z.p (ms.drop 0):=by rw [hzp];exact hleg
 have hez:a0u (([]++[z]).map H0.p) ((g.meth:Int),g.out) z.p (ms.drop 0)=FE:=by rw [hFE,hmo,← hzp];rfl
 have hln:Ln [] z p ((a0R ms cs).take 0):=⟨⟨z,[],rfl,hzc,hzp,by simp [prs]⟩,trivial⟩
 have hM4:w4.heap[m]?=some (a1M [] 0):=hm4;clear hmo hbg hzp hle hq0 hq hleg hu hI hFE hm4 hzc;refine zR ?_;refine H6 true (G7 rfl) (zR ?_);refine B6 (σ:=Nat×List EnT×Nat) [13,26] 27 (fun s=>[(26,.int .i64 s.1)])
  (fun s w'=>s.1≤ls.length∧w'.heap[m]?=some (a1M s.2.1 s.2.2)∧b6N (X2 (ls.take s.1)) s.2.1 s.2.2∧s.2.1.length≤s.1∧I1 w' G0 g [] z∧w'.heap[Ra]?=some (.cells #[m9 []] 9 (0,0))∧w'.heap[Rb]?=some (.cells #[.bool false] 4 (0,0))∧Cl w w') (fun s=>ls.length-s.1) zk
  (0,[],0) ⟨xA _,hM4,⟨by simp,by simp,by simp,fun k=>rfl⟩,yJ _,hG,na,nb,c04⟩ ⟨rfl,trivial⟩ ?_
 clear hG na nb hM4 c04 c4;rintro ⟨i,es,c⟩ j w5 ⟨hi,hM5,hE,hel,hG,na,nb,c5⟩;simp only at hi hM5 hE hel hG na nb c5 ⊢;have ni:=C7 (i:=i) zo;refine zR ?_;apply E.b9<;>intro h
 ·have hil:i<ls.length:=by omega
  clear h;obtain ⟨gl,og,rfl⟩:=hat zo;have hld:g8 G.P w5 104 ⟨gl,E.J0 og ((i:Int)).toNat 2,none⟩ (.agg #[m9 ls[i].k,m9 ls[i].v]):=(htag.step c5).ld i hil;have htk:X2 (ls.take (i+1))=fun k=>if k=ls[i].k then some ls[i].v else X2 (ls.take i) k:=by
   funext k;rw [zx hil,a9f]
  have hE2:=hE.put ls[i];rw [← htk] at hE2;have hel2:=b9v es ls[i].k ls[i].v c;generalize ls[i].k=KK at *;generalize ls[i].v=VV at *;refine zR ?_;refine zC ?_;refine zR ?_;refine b7 _ hld (zR ?_);refine v8 zt hzt ?_;have d1:=Cl.alloc w5 (.cells zt.cells 104);have nx:=d9 w5 (.cells zt.cells 104);generalize w5.alloc (.cells zt.cells 104)=w6 at *;refine zR ?_;refine K9 nx [m9 KK,m9 VV] rfl b4z rfl (by intro v hv;simp at hv;rcases hv with rfl|rfl<;>rfl) (by rw [hzt2];decide) fun w7 u7=>?_
  have nx7:w7.heap[w5.heap.size]?=some (.cells #[m9 KK,m9 VV] 104 (0,0)):=by rw [u7.at_,C6 _ _ (by rw [hzt2];rfl)]
  have d7:Cl w5 w7:=u7.cl d1 (yJ _);refine zR ?_;refine b7 _ (L5 nx7 rfl rfl) (zR ?_);refine b7 _ (L5 nx7 rfl rfl) (zR ?_);have hM7:=d7.blk hM5;have hG7:=hG.step d7;refine o7 (b92 KK VV hG7.hb hgt hM7) ?_;rintro r w8 ⟨⟨bb,rfl⟩,u8⟩;refine ⟨_,rfl,?_⟩;have k8:=KT.map u8 hM7;refine zR ?_;exact ⟨(i+1,a1O es KK VV c,a4A es KK c),⟨d8 ni,trivial⟩,⟨zo,u8.at_,hE2,zw hel2 (Nat.succ_le_succ hel),k8.game hG7 zd zd zd zd zd,k8 _ _ _ zd (d7.blk na),k8 _ _ _ zd (d7.blk nb),u8.cl (c5.trans d7) zo⟩,by show ls.length-(i+1)<ls.length-i;omega⟩
 have ei:i=ls.length:=by omega
 clear h ni;rw [ei,yZ] at hE;have hel:es.length≤12:=zw hel zo;clear ei hi htag hat;refine zR ?_;refine B6 (σ:=Nat×List H0×H0×Gm) [14,15,39] 40 (fun s=>[(39,.int .i64 s.1)])
  (fun s w'=>s.1≤ms.length∧I1 w' G0 s.2.2.2 s.2.1 s.2.2.1∧s.2.1.length=s.1∧Ch.D0 s.2.2.1.p∧Ng s.2.2.1.p s.1∧quiet s.2.2.1.p (ms.drop s.1)=true∧a0A s.2.2.1.p (ms.drop s.1)∧(∀ n∈s.2.1++[s.2.2.1],Ch.D0 n.p)∧w.heap.size≤s.2.2.1.M∧w.heap.size≤s.2.2.1.P
  ∧a0u ((s.2.1++[s.2.2.1]).map H0.p) ((s.2.2.2.meth:Int),s.2.2.2.out) s.2.2.1.p (ms.drop s.1)=FE∧Ln s.2.1 s.2.2.1 p ((a0R ms cs).take s.1)∧s.2.2.2.tags = .map (some m)∧w'.heap[m]?=some (a1M es c)
  ∧w'.heap[Ra]?=some (.cells #[m9 []] 9 (0,0))∧w'.heap[Rb]?=some (.cells #[.bool false] 4 (0,0))∧Cl w w') (fun s=>ms.length-s.1) zk
  (0,[],z,g) ⟨xA _,hG,rfl,hIz,hNz,hqz,hlz,fun n hn=>by rw [zY.1 hn];exact hIz,zw s3 hzM,zw s3 hzP,hez,hln,hgt,hM5,na,nb,c5⟩ ⟨rfl,trivial⟩ ?_
 clear hG hIz hNz hqz hlz hzM hzP hez hln hgt hM5 na nb c5;rintro ⟨i,L,z,g⟩ j w5 ⟨hi,hG,hLl,hIz,hNz,hqz,hlz,hJ,hzM,hzP,hez,hln,hgt,hM5,na,nb,c5⟩;simp only at hi hG hLl hIz hNz hqz hlz hJ hzM hzP hez hln hgt hM5 na nb c5 ⊢;have ni:=C7 (i:=i) zo;refine zR ?_;apply E.b9<;>intro h
 ·have hil:i<ms.length:=by omega
  clear h;obtain ⟨gm,og,rfl⟩:=ham zo;have hzt:=b7b ms cs i hil;rw [xU hil] at hez hqz hlz;have hmr:=hms _ (yO hil);have hld:∀ w',Cl w w'→g8 G.P w' 36 ⟨gm,E.J0 og ((i:Int)).toNat 3,none⟩ (mvV ms[i]):=fun w' h'=>(hrow.step h').ld i hil;generalize ms[i]=mm at *;have hN:=(hNz.nm zo).nums;have hle:=a4P hIz;have hq0:=a5e hqz;have hle:(B5 z.p).length≤218:=by omega
  have hpos:=hG.pos;obtain ⟨hml,hlz2⟩:=hlz;have hleg:N3 z.p mm=true:=zX hml;obtain ⟨hsan,hq2⟩:=b4t hqz hleg;have hrg:=V9 hIz hml;have hI2:=Ch.D0.made hIz hml;have hq20:=a5e hq2;have hle2:(B5 (made z.p mm)).length≤218:=by have:=a4P hI2;omega
  have hN2:=hNz.made hIz mm;refine zR ?_;refine zC ?_;refine zR ?_;refine b7 _ (hld _ c5) (zR ?_);refine v8 zm hzm ?_;have d1:=Cl.alloc w5 (.cells zm.cells 36);have nm1:=d9 w5 (.cells zm.cells 36);generalize w5.alloc (.cells zm.cells 36)=w6 at *;refine zR ?_;refine K9 nm1 (J3 mm) rfl b3o rfl (J6 _) (by rw [hzm3];decide) (fun w7 u7=>?_)
  have nm7:w7.heap[w5.heap.size]?=some (.cells (S8 mm) 36 (0,0)):=by rw [u7.at_,C6 _ _ (by rw [hzm3];rfl)];rfl
  have d7:Cl w5 w7:=u7.cl d1 (yJ _);clear nm1 u7 d1;have c7:=c5.trans d7;have hG7:=hG.step d7;have hM7:=d7.blk hM5;refine zR ?_;obtain ⟨kb,hkb⟩:∃ k,k=w5.heap.size:=⟨_,rfl⟩;rw [← hkb] at nm7 ⊢;refine J2.mk3 (fun w'=>w'.heap[kb]?=some (.cells (S8 mm) 36 (0,0))) [0,1,3] (.cons 2 (.cons 4 (.cons 5 (.cons 6 .done .nil) .nil) .nil) .nil) nm7 zk (zR ?_);refine m7 _ (fun w' hw=>a0f hw) (zR ?_);refine And.intro ?_ trivial;have hpt:w7.drew.heap[kb]?=some (.cells (S8 mm) 36 (0,0)):=nm7;have cD:Cl w7 w7.drew:=Cl.drew (Cl.refl _);have hGD:=hG7.step cD;have hMD:=cD.blk hM7;have cD0:=c7.trans cD;have naD:=(d7.trans cD).blk na;have nbD:=(d7.trans cD).blk nb;generalize w7.drew=wD at *;refine zR ?_;refine l8 (c30 hGD.hb) (zR ?_);refine And.intro hpt (zE ?_);refine o7 (c1R hIz hle hmr hml wD (hT.cl cD0) hGD.posM) ?_;rintro r w8 ⟨cv',M,x,hP8,n8,hr8,hx,hxm,rfl,hMs,hM8,hown⟩;refine ⟨_,rfl,?_⟩;rw [hpos] at n8 hP8;have c8:=n8.toCl cD0 hzP;have hzb:=hGD.chn.last.2.2.hd;have na8:=n8.blk naD (F9 naD hzb zd);have nb8:=n8.blk nbD (F9 nbD hzb zd);have np8:=n8.blk hpt (F9 hpt hzb zd);have hmp8:w8.heap[m]?=some (a1M es c):=n8.blk hMD (a5g hzb hMD).symm;have hlt:=hGD.chn.lt;have hG8:=hGD.recv n8 hP8 (fun k hk=>(hown k hk).1);have htx:=((a1X hIz).1 x hx).2;rw [hxm] at htx;have htold:(x.tags:Int)=a0W z.p mm:=by rw [htx];exact b2t (by have:=hrg.2.2.2.2;omega) hsan
  have hMl:∀ n∈L++[z],n.off [M]:=fun n hn=>(hlt n hn).off (fun k hk=>by rw [zY.1 hk];exact hMs)
  have hoff:∀ n∈L++[{ z with cv:=cv' }],n.off [M]:=fun n hn=>by
   rcases zr.1 hn with hn|hn
   ·exact hMl n (yP _ hn)
   ·have o:=hMl z (by simp)
    rw [zY.1 hn];exact ⟨o.M,o.P,o.b,fun k hk e=>(hown k e).2 (zY.1 hk),o.kids⟩
  have hJ2:∀ n∈L++[{ z with cv:=cv' }],Ch.D0 n.p:=fun n hn=>by
   rcases zr.1 hn with hn|hn
   ·exact hJ n (yP _ hn)
   ·rw [zY.1 hn];exact hIz
  have hmv:(E0 x).mv=mm:=hxm;have hGM:=c1A (d:=E0 x) (hT.cl c8) hG8 hIz hN hle (by rw [hmv];exact hml) (by rw [hmv];exact htold) rfl hM8 hoff (by rw [hmv];exact hI2) (by rw [hmv];exact hle2) hJ2 zo
  refine zR ?_;refine And.intro np8 (zE ?_);refine o7 hGM ?_;rintro e w9 ⟨rfl,g',z',y,hsame,hkept,hG9,y1,y2,y3,y4,y5,hend,f9,g7,z7,y8⟩;refine ⟨_,rfl,?_⟩;have f9:Fr [M,z.M,z.P,G0] w8 w9:=f9;have hDs:w.heap.size≤wD.heap.size:=cD0.size;have hw8:=n8.size;have hkS:∀ k∈[M,z.M,z.P,G0],w.heap.size≤k:=fun k hk=>by
   simp only [yS,zy,yy] at hk;omega
  have c9:Cl w w9:=f9.toCl hkS c8;have hnd8:=hG8.node;have hps8:=hG8.chn.last.2.2.hd;have hgb8:=hG8.hb;have off9:∀ {k:Nat} {cs:Array Value} {t:Nat} {fz:Nat×Nat},w8.heap[k]?=some (.cells cs t fz)→t≠141→t≠173→t≠131→w9.heap[k]?=some (.cells cs t fz):=fun {k cs t fz} h h1 h2 h3=>f9.blk h fun hm=>by
   simp only [yS,zy,yy] at hm;rcases hm with e|e|e|e
   ·exact F9 h hM8 h1 e
   ·exact F9 h hnd8 h1 e
   ·exact F9 h hps8 h2 e
   ·exact F9 h hgb8 h3 e
  have na9:=off9 na8 zd zd zd;have nb9:=off9 nb8 zd zd zd;have np9:=off9 np8 zd zd zd;have hmp9:w9.heap[m]?=some (a1M es c):=f9.blk hmp8 fun hm=>by
   simp only [yS,zy,yy] at hm;rcases hm with e|e|e|e
   ·exact a5g hM8 hmp8 e.symm
   ·exact a5g hnd8 hmp8 e.symm
   ·exact a5g hps8 hmp8 e.symm
   ·exact a5g hgb8 hmp8 e.symm
  have hsame:z'.Same z:=⟨hsame.M,hsame.P,hsame.b,hsame.p⟩;have z7:z'.d={ z.d with kids:=z'.d.kids }:=z7;have hydm:y.d.mv=mm:=y2.trans hmv;have hyp:y.p=made z.p mm:=by rw [y4,hmv]
  have hydt:(y.d.tags:Int)=a0W z.p mm:=by rw [y3];exact htold
  have hyc:y.d.com=[]:=y8;have hln9:Ln (L++[z']) y p ((a0R ms cs).take i++[(y.d.mv,y.d.com)]):=hln.snoc hsame z7 hkept (by rw [hydm];exact hml) (by rw [hydm];exact hydt) (by rw [hydm];exact hyp) hIz hN hle (by have:=hNz.2;omega)
  have hln8:=hln9;rw [hydm,hyc] at hln9;have hmap:(L++[{ z with cv:=cv' }]).map H0.p=(L++[z]).map H0.p:=by simp
  have hmap2:((L++[z'])++[y]).map H0.p=(L++[z]).map H0.p++[made z.p mm]:=by simp [hsame.p,hyp]
  rw [hmap,hyp] at hend;have hez2:a0u (((L++[z'])++[y]).map H0.p) ((g'.meth:Int),g'.out) y.p (ms.drop (i+1))=FE:=by
   rw [hmap2,hyp,hend];exact hez
  have hJ9:∀ n∈(L++[z'])++[y],Ch.D0 n.p:=fun n hn=>by
   rcases zr.1 hn with hn|hn
   ·rcases zr.1 hn with hn|hn
    ·exact hJ n (yP _ hn)
    ·rw [zY.1 hn,hsame.p];exact hIz
   ·rw [zY.1 hn,hyp];exact hI2
  have hgt9:g'.tags = .map (some m):=g7.trans hgt;have hLl9:(L++[z']).length=i+1:=by rw [zF,hLl];rfl
  have hyM:w.heap.size≤y.M:=by rw [y1];omega
  have hyP:w.heap.size≤y.P:=by omega
  refine zR ?_;refine And.intro np9 (zE ?_);refine H6 true (G7 rfl) (zR ?_);refine And.intro np9 (zR ?_);apply E.b9<;>intro h
  ·have hcl:i<cs.length:=by omega
   clear h;obtain ⟨gc,oc,rfl⟩:=hac zo;rw [ym hcl,Option.getD_some] at hzt;have hlc:∀ w',Cl w w'→g8 G.P w' 9 ⟨gc,E.J0 oc ((i:Int)).toNat 1,none⟩ (m9 cs[i]):=fun w' c=>(hcom.step c).ld i hcl;generalize cs[i]=CT at *;refine zR ?_;refine J2.mk3 (Cl w) [0,2,3,4,5] (.cons 1 (.cons 6 .done .nil) .nil) (c9.trans (Cl.drew (Cl.refl _))) zk (zR ?_);refine zC ?_;refine zR ?_;refine m7 _ (fun w' hw=>hlc w' hw) (zR ?_);refine And.intro ?_ trivial;have cE:Cl w9 w9.drew:=Cl.drew (Cl.refl _);have hGE:=hG9.step cE;have cE0:=c9.trans cE;have naE:=cE.blk na9;have nbE:=cE.blk nb9;have hmE:=cE.blk hmp9;generalize w9.drew=wE at *;refine zR ?_;refine l8 (b99 hGE.hb) ?_;rw [hGE.cur];refine zR ?_;refine And.intro cE0 (zE ?_);refine o7 (b93 CT hGE.node) ?_;rintro e w10 ⟨rfl,u10⟩;refine ⟨_,rfl,?_⟩;have c10:Cl w w10:=u10.cl cE0 hyM;have hG10:I1 w10 G0 g' (L++[z']) (y.say CT):=hGE.com u10;have hln10:=hln8.say (T:=CT) (by simp)
   rw [hydm] at hln10;rw [← hzt] at hln10;have hnE:=hGE.node;refine zR ?_;refine And.intro c10 (zR ?_);exact ⟨(i+1,L++[z'],y.say CT,g'),⟨d8 ni,trivial⟩,⟨hil,hG10,hLl9,by show Ch.D0 y.p;rw [hyp];exact hI2,by show Ng y.p (i+1);rw [hyp];exact hN2,by show quiet y.p _=true;rw [hyp];exact hq2,by show a0A y.p _;rw [hyp];exact hlz2,fun n hn=>by
     rcases zr.1 hn with hn|hn
     ·exact hJ9 n (yP _ hn)
     ·rw [zY.1 hn];show Ch.D0 y.p;rw [hyp];exact hI2,hyM,hyP,by
     have e:((L++[z'])++[y.say CT]).map H0.p=((L++[z'])++[y]).map H0.p:=by simp [H0.say]
     simp only
     rw [e];exact hez2,hln10,hgt9,(Tn.upd u10).blk hmE (a5g hnE hmE).symm,(Tn.upd u10).blk naE (F9 naE hnE zd),(Tn.upd u10).blk nbE (F9 nbE hnE zd),c10⟩,by show ms.length-(i+1)<ms.length-i;omega⟩
  ·have hcl:¬ i<cs.length:=by omega
   clear h;rw [xH zo,Option.getD_none] at hzt;rw [← hzt] at hln9;refine zR ?_;exact ⟨(i+1,L++[z'],y,g'),⟨d8 ni,trivial⟩,⟨hil,hG9,hLl9,by show Ch.D0 y.p;rw [hyp];exact hI2,by show Ng y.p (i+1);rw [hyp];exact hN2,by show quiet y.p _=true;rw [hyp];exact hq2,by show a0A y.p _;rw [hyp];exact hlz2,hJ9,hyM,hyP,hez2,hln9,hgt9,hmp9,na9,nb9,c9⟩,by show ms.length-(i+1)<ms.length-i;omega⟩
 have ei:i=ms.length:=by omega
 clear h ni;rw [ei,List.drop_length] at hez;have hez:((g.meth:Int),g.out)=FE:=hez;rw [ei,List.take_of_length_le (by rw [a3Q];exact yJ _)] at hln
 obtain ⟨n,l,enl,hnc,hnp,hpr⟩:=hln.is;have htld:=hln.tld;have hchn:=hG.chn;obtain ⟨n2,l2,enl2,hgr⟩:=hG.root;rw [enl] at htld hchn enl2;obtain ⟨rfl,rfl⟩:=List.cons.inj enl2;rw [← hez] at hFN hlen ⊢;simp only at hFN hlen ⊢;rw [← hnp,← hpr] at hlen ⊢;have hgs:=b7a (hT.cl c5) (hw.cl c5) hG.hb hgt hM5 hE hel hlab hgr hchn htld hnc hFN hlen;generalize a7t TG n.p (prs l) g.out=TX at *;refine zR ?_;refine o9 hgs fun w6 c6=>?_;have c06:=c5.trans c6;refine zR ?_;refine zT (c6.blk na) [m9 TX] fun w7 u7=>?_;refine zR ?_;refine K9 ((Tn.upd u7).blk (c6.blk nb) zo) [.bool true] rfl zk rfl (by intro v hv;simp at hv;subst hv;rfl) (zU rfl) fun w8 u8=>zR ?_
 have ka:w8.heap[Ra]?=some (.cells #[m9 TX] 9 (0,0)):=(Tn.upd u8).blk u7.at_ zo;have kb:w8.heap[Rb]?=some (.cells #[.bool true] 4 (0,0)):=u8.at_;refine ⟨.inr rfl,.tuple #[m9 TX,.bool true],⟨_,_,rfl,⟨_,rfl,L5 ka rfl rfl⟩,_,rfl,L5 kb rfl rfl⟩,rfl,u8.cl (u7.cl c06 zo) zo⟩
theorem a1m {α:Type} {l:List α} {i:Nat} (h:i<l.length) (x:α):x∈l.take (i+1)↔x∈l.take i∨x=l[i]:=by
 rw [zx h,zr,zY]
theorem b7p (k v:Tx) (w:World):Calls G.P 71 #[.agg #[m9 k,m9 v]] w (fun r w'=>(∃ b,r = .returned (.bool b)∧(b=true→k.length≤2147483647∧v.length≤2147483647))∧Cl w w'):=by
 have hk:(tx k).size=k.length:=C5 k;have hv:(tx v).size=v.length:=C5 v;refine zN Tryz.func71 ?_;refine zR ?_;have c1:=Cl.alloc w (.cells #[m9 k,m9 v] 104);have n1:=d9 w (.cells #[m9 k,m9 v] 104);generalize w.alloc (.cells #[m9 k,m9 v] 104)=w1 at *;refine b7 _ (L5 n1 rfl rfl) (zR ?_);apply E.b9<;>intro h
 ·refine zR ?_;exact ⟨⟨false,rfl,fun e=>by cases e⟩,c1⟩
 rw [hk] at h;have q:=h;clear h;refine zR ?_;refine b7 _ (L5 n1 rfl rfl) (zR ?_);apply E.b9<;>intro h
 ·refine zR ?_;exact ⟨⟨false,rfl,fun e=>by cases e⟩,c1⟩
 rw [hv] at h;refine zR ?_;exact ⟨⟨true,rfl,fun _=>⟨zo,zo⟩⟩,c1⟩
theorem b7q (l:List Tg) {vl:Value} (w:World) (htag:a0e w vl l):Calls G.P 27 #[vl] w (fun r w'=>(∃ b,r = .returned (.bool b)∧(b=true→l.length≤2147483647∧∀ x∈l,x.k.length≤2147483647∧x.v.length≤2147483647))∧Cl w w'):=by
 obtain ⟨al,cl,rfl,hal⟩:=htag.form;obtain ⟨zt,hzt,hzt2⟩:=b9K;refine zN Tryz.func27 ?_;refine zR ?_;apply E.b9<;>intro h
 ·refine zR ?_;exact ⟨⟨false,rfl,fun e=>by cases e⟩,Cl.refl _⟩
 have hl:l.length≤2147483647:=by omega
 clear h;refine zR ?_;refine B6 (σ:=Nat) [2,4,10] 11 (fun i=>[(10,.int .i64 i)]) (fun i w'=>i≤l.length∧(∀ x∈l.take i,x.k.length≤2147483647∧x.v.length≤2147483647)∧Cl w w') (fun i=>l.length-i) zk 0 ⟨xA _,by simp,Cl.refl _⟩ ⟨rfl,trivial⟩ ?_
 rintro i j w1 ⟨hi,hx,c1⟩;refine zR ?_;apply E.b9<;>intro h
 ·have hil:i<l.length:=by omega
  have ni:=b2Y (i:=i) zo;clear h;obtain ⟨gl,og,rfl⟩:=hal zo;have hld:g8 G.P w1 104 ⟨gl,E.J0 og ((i:Int)).toNat 2,none⟩ (.agg #[m9 l[i].k,m9 l[i].v]):=(htag.step c1).ld i hil;have htk:∀ x,x∈l.take (i+1)↔x∈l.take i∨x=l[i]:=a1m hil;obtain ⟨x,hxe⟩:∃ x,x=l[i]:=⟨_,rfl⟩;rw [← hxe] at hld htk;clear hxe;obtain ⟨KK,VV⟩:=x;simp only at hld htk;refine zR ?_;refine zC ?_;refine zR ?_;refine b7 _ hld (zR ?_);refine v8 zt hzt ?_;have d1:=Cl.alloc w1 (.cells zt.cells 104);have nx:=d9 w1 (.cells zt.cells 104);generalize w1.alloc (.cells zt.cells 104)=w2 at *;refine zR ?_;refine K9 nx [m9 KK,m9 VV] rfl b4z rfl (by intro v hv;simp at hv;rcases hv with rfl|rfl<;>rfl) (by rw [hzt2];decide) fun w3 u3=>?_
  have nx3:w3.heap[w1.heap.size]?=some (.cells #[m9 KK,m9 VV] 104 (0,0)):=by rw [u3.at_,C6 _ _ (by rw [hzt2];rfl)]
  have d3:Cl w1 w3:=u3.cl d1 (yJ _);have hld3:g8 G.P w3 104 ⟨w1.heap.size,0,none⟩ (.agg #[m9 KK,m9 VV]):=by
   have:=ldA (t:=104) (o:=0) (z:=2) nx3 rfl (by simp)
   exact this
  generalize w1.heap.size=kb at *;refine zR ?_;refine b7 _ hld3 (zR ?_);refine o7 (b7p KK VV w3) ?_;rintro r w4 ⟨⟨b,rfl,hb⟩,c4⟩;refine ⟨_,rfl,?_⟩;have c04:=(c1.trans d3).trans c4;cases b
  ·refine zR ?_;exact ⟨⟨false,rfl,fun e=>by cases e⟩,c04⟩
  ·have hb:=hb rfl;refine zR ?_;exact ⟨i+1,⟨d8 ni,trivial⟩,⟨hil,fun y hy=>by
    rcases (htk y).1 hy with h|h
    ·exact hx y h
    ·rw [h];exact hb,c04⟩,by show l.length-(i+1)<l.length-i;omega⟩
 ·have e:i=l.length:=by omega
  rw [e,yZ] at hx;refine zR ?_;exact ⟨⟨true,rfl,fun _=>⟨hl,hx⟩⟩,c1⟩
theorem b7r (l:List Tx) {vl:Value} (w:World) (hcom:a6C w vl l):Calls G.P 28 #[vl] w (fun r w'=>(∃ b,r = .returned (.bool b)∧(b=true→l.length≤2147483647∧∀ x∈l,x.length≤2147483647))∧Cl w w'):=by
 obtain ⟨al,cl,rfl,hal⟩:=hcom.form;refine zN Tryz.func28 ?_;refine zR ?_;apply E.b9<;>intro h
 ·refine zR ?_;exact ⟨⟨false,rfl,fun e=>by cases e⟩,Cl.refl _⟩
 have hl:l.length≤2147483647:=by omega
 clear h;refine zR ?_;refine B6 (σ:=Nat) [2,4,10] 11 (fun i=>[(10,.int .i64 i)]) (fun i w'=>i≤l.length∧(∀ x∈l.take i,x.length≤2147483647)∧w'=w) (fun i=>l.length-i) zk 0 ⟨xA _,by simp,rfl⟩ ⟨rfl,trivial⟩ ?_
 rintro i j w1 ⟨hi,hx,rfl⟩;refine zR ?_;apply E.b9<;>intro h
 ·have hil:i<l.length:=by omega
  have ni:=b2Y (i:=i) zo;clear h;obtain ⟨gl,og,rfl⟩:=hal zo;have hld:g8 G.P w1 9 ⟨gl,E.J0 og ((i:Int)).toNat 1,none⟩ (m9 l[i]):=hcom.ld i hil;have htk:∀ x,x∈l.take (i+1)↔x∈l.take i∨x=l[i]:=a1m hil;generalize l[i]=KK at *;have hk:(tx KK).size=KK.length:=C5 KK;refine zR ?_;refine zC ?_;refine zR ?_;refine b7 _ hld (zR ?_);apply E.b9<;>intro h
  ·refine zR ?_;exact ⟨⟨false,rfl,fun e=>by cases e⟩,Cl.refl _⟩
  ·rw [hk] at h;have q:=h;clear h;refine zR ?_;exact ⟨i+1,⟨d8 ni,trivial⟩,⟨hil,fun y hy=>by
    rcases (htk y).1 hy with h|h
    ·exact hx y h
    ·rw [h];omega,rfl⟩,by show l.length-(i+1)<l.length-i;omega⟩
 ·have e:i=l.length:=by omega
  rw [e,yZ] at hx;refine zR ?_;exact ⟨⟨true,rfl,fun _=>⟨hl,hx⟩⟩,Cl.refl _⟩
theorem b1o (l:List Tx) (hl:l.length≤2147483647) (hx0:∀ x∈l,x.length≤2147483647) {vl:Value} (w:World) (hcom:a6C w vl l):Calls G.P 31 #[vl] w (fun r w'=>(∃ b,r = .returned (.bool b)∧(b=true→l.length≤80∧∀ x∈l,x.length≤60))∧Cl w w'):=by
 obtain ⟨al,cl,rfl,hal⟩:=hcom.form;refine zN Tryz.func31 ?_;refine zR ?_;refine B6 (σ:=Nat) [2,4,7] 8 (fun i=>[(7,.int .i64 i)]) (fun i w'=>i≤l.length∧(∀ x∈l.take i,x.length≤60)∧w'=w) (fun i=>l.length-i) zk 0 ⟨xA _,by simp,rfl⟩ ⟨rfl,trivial⟩ ?_
 rintro i j w1 ⟨hi,hx,rfl⟩;refine zR ?_;apply E.b9<;>intro h
 ·have hil:i<l.length:=by omega
  have ni:=b2Y (i:=i) zo;clear h;obtain ⟨gl,og,rfl⟩:=hal zo;have hld:g8 G.P w1 9 ⟨gl,E.J0 og ((i:Int)).toNat 1,none⟩ (m9 l[i]):=hcom.ld i hil;have htk:∀ x,x∈l.take (i+1)↔x∈l.take i∨x=l[i]:=a1m hil;have hki:=hx0 _ (yO hil);generalize l[i]=KK at *;refine zR ?_;refine zC ?_;refine zR ?_;refine b7 _ hld (zR ?_);refine o7 (a9e KK false hki w1) ?_;rintro r w2 ⟨⟨b,rfl,hb⟩,rfl⟩;refine ⟨_,rfl,?_⟩;cases b
  ·refine zR ?_;exact ⟨⟨false,rfl,fun e=>by cases e⟩,Cl.refl _⟩
  ·have hb:=hb rfl;refine zR ?_;exact ⟨i+1,⟨d8 ni,trivial⟩,⟨hil,fun y hy=>by
    rcases (htk y).1 hy with h|h
    ·exact hx y h
    ·rw [h];exact hb,rfl⟩,by show l.length-(i+1)<l.length-i;omega⟩
 ·have e:i=l.length:=by omega
  rw [e,yZ] at hx;clear h;refine zR ?_;exact ⟨⟨_,rfl,fun e=>⟨by have:=yB e;omega,hx⟩⟩,Cl.refl _⟩
theorem b40 (l:List Tg) (hl:l.length≤2147483647) (hx0:∀ x∈l,x.k.length≤2147483647∧x.v.length≤2147483647) {vl:Value} (w:World) (htag:a0e w vl l):Calls G.P 30 #[vl] w (fun r w'=>(∃ b,r = .returned (.bool b)∧(b=true→l.length≤12∧∀ x∈l,x.k.length≤60∧x.v.length≤60))∧Cl w w'):=by
 obtain ⟨al,cl,rfl,hal⟩:=htag.form;obtain ⟨zt,hzt,hzt2⟩:=b9K;refine zN Tryz.func30 ?_;refine zR ?_;refine B6 (σ:=Nat) [2,4,7] 8 (fun i=>[(7,.int .i64 i)]) (fun i w'=>i≤l.length∧(∀ x∈l.take i,x.k.length≤60∧x.v.length≤60)∧Cl w w') (fun i=>l.length-i) zk 0 ⟨xA _,by simp,Cl.refl _⟩ ⟨rfl,trivial⟩ ?_
 rintro i j w1 ⟨hi,hx,c1⟩;refine zR ?_;apply E.b9<;>intro h
 ·have hil:i<l.length:=by omega
  have ni:=b2Y (i:=i) zo;clear h;obtain ⟨gl,og,rfl⟩:=hal zo;have hld:g8 G.P w1 104 ⟨gl,E.J0 og ((i:Int)).toNat 2,none⟩ (.agg #[m9 l[i].k,m9 l[i].v]):=(htag.step c1).ld i hil;have htk:∀ x,x∈l.take (i+1)↔x∈l.take i∨x=l[i]:=a1m hil;have hki:=hx0 _ (yO hil);obtain ⟨x,hxe⟩:∃ x,x=l[i]:=⟨_,rfl⟩;rw [← hxe] at hld htk hki;clear hxe;obtain ⟨KK,VV⟩:=x;simp only at hld htk hki;refine zR ?_;refine zC ?_;refine zR ?_;refine b7 _ hld (zR ?_);refine v8 zt hzt ?_;have d1:=Cl.alloc w1 (.cells zt.cells 104);have nx:=d9 w1 (.cells zt.cells 104);generalize w1.alloc (.cells zt.cells 104)=w2 at *;refine zR ?_;refine K9 nx [m9 KK,m9 VV] rfl b4z rfl (by intro v hv;simp at hv;rcases hv with rfl|rfl<;>rfl) (by rw [hzt2];decide) fun w3 u3=>?_
  have nx3:w3.heap[w1.heap.size]?=some (.cells #[m9 KK,m9 VV] 104 (0,0)):=by rw [u3.at_,C6 _ _ (by rw [hzt2];rfl)]
  have d3:Cl w w3:=c1.trans (u3.cl d1 (yJ _));generalize w1.heap.size=kb at *;refine zR ?_;refine b7 _ (L5 nx3 rfl rfl) (zR ?_);refine o7 (a9e KK true hki.1 w3) ?_;rintro r w4 ⟨⟨b,rfl,hb⟩,rfl⟩;refine ⟨_,rfl,?_⟩;cases b
  ·refine zR ?_;exact ⟨⟨false,rfl,fun e=>by cases e⟩,d3⟩
  have hb:=hb rfl;refine zR ?_;refine b7 _ (L5 nx3 rfl rfl) (zR ?_);refine o7 (a9e VV false hki.2 w4) ?_;rintro r w5 ⟨⟨b2,rfl,hb2⟩,rfl⟩;refine ⟨_,rfl,?_⟩;cases b2
  ·refine zR ?_;exact ⟨⟨false,rfl,fun e=>by cases e⟩,d3⟩
  have hb2:=hb2 rfl;refine zR ?_;refine b7 _ (L5 nx3 rfl rfl) (zR ?_);apply E.b9<;>intro h
  ·refine zR ?_;(repeat (refine E.z6 (by assumption) ?_;refine zR ?_))
   exact ⟨⟨false,rfl,fun e=>by cases e⟩,d3⟩
  have h0:=h;clear h;refine zR ?_;(repeat (refine E.p9 h0 ?_;refine zR ?_))
  refine b7 _ (L5 nx3 rfl rfl) (zR ?_);apply E.b9<;>intro h
  ·refine zR ?_;(repeat (refine E.z6 (by assumption) ?_;refine zR ?_))
   exact ⟨⟨false,rfl,fun e=>by cases e⟩,d3⟩
  have h1:=h;clear h;refine zR ?_;(repeat (refine E.p9 h1 ?_;refine zR ?_))
  exact ⟨i+1,⟨d8 ni,trivial⟩,⟨hil,fun y hy=>by
    rcases (htk y).1 hy with h|h
    ·exact hx y h
    ·rw [h];exact ⟨hb,hb2⟩,d3⟩,by show l.length-(i+1)<l.length-i;omega⟩
 ·have e:i=l.length:=by omega
  rw [e,yZ] at hx;clear h;refine zR ?_;exact ⟨⟨_,rfl,fun e=>⟨by have:=yB e;omega,hx⟩⟩,c1⟩
theorem c3R {f:Nat} {fn:Func} {c:Code} {args:List Value} {w:World} {R:Ending→World→Prop} (RES:C8→World→Value→Prop)
  (hf:G.P.funcs[f]?=some fn) (hb:fn.body=some c) (hn:args.length≤fn.ntmps) (hk:P9 fn.ntmps c=true) (hres:∀ (a:Act) w v,RES (s9 a) w v→(results fn a.tmps).run G.P w = .ok v w)
  (h:vc G c (a5q args) w (fun x e w2=>(x = .normal∨x = .ret)∧∃ v,RES e w2 v∧R (.returned v) w2)):Calls G.P f args.toArray w R:=by
 refine calls_of_wp hf hb ?_;have hsz:(args.toArray++Array.replicate (fn.ntmps-args.toArray.size) undef).size=fn.ntmps:=by simp;omega
 have henv:s9 { tmps:=args.toArray++Array.replicate (fn.ntmps-args.toArray.size) undef,defers:=[] }=a5q args:=by
  funext t;unfold s9 a5q;rw [b04];simp only [yw,yr];by_cases ht:t<args.length
  ·rw [Array.getElem?_append_left (by simpa using ht)];simp
  ·rw [Array.getElem?_append_right (by simpa using ht)]
   rw [xH zo];simp only [Option.getD_none];cases hx:(Array.replicate (fn.ntmps-args.toArray.size) undef)[t-args.toArray.size]? with
   | none=>rfl
   | some v =>
    have:=yh.1 hx;obtain ⟨h1,h2⟩:=this;simp at h2;simp [h2]
 refine a5n (G:=G) (N:=fn.ntmps) (ds:=[]) c _ _ ?_ hk _ w hsz rfl (by rw [henv];exact h)
 rintro x a w' hs hd ⟨hx,v,h3,hR⟩;rcases hx with rfl|rfl
 ·exact ⟨hd,_,hres _ _ _ h3,hR⟩
 ·exact ⟨hd,_,hres _ _ _ h3,hR⟩
structure Rs3 (t1 y1 t2 t3:Nat) (e:C8) (w:World) (v:Value):Prop where
 ex:∃ v1,v = .tuple #[v1,e t2,e t3]∧∃ a,e t1 = .pointer (some a)∧g8 G.P w y1 a v1
theorem b41 {fn:Func} {t1 y1 t2 t3:Nat} (hr:fn.results=#[.cell t1 y1,.tmp t2,.tmp t3]) (a:Act) (w:World) (v:Value) (h:Rs3 t1 y1 t2 t3 (s9 a) w v):(results fn a.tmps).run G.P w = .ok v w:=by
 obtain ⟨v1,rfl,a1,e1,l1⟩:=h.ex;have e1:a.tmps[t1]?.getD undef = .pointer (some a1):=by rw [← yw];exact e1
 simp [results,hr,e1,asAddr,a6A l1,s9,yw]
theorem b42 (s:l9) (usual:Bool) (ms:List Mv) (hms:∀ m∈ms,MvR m) {v:Value} (w:World) (hrow:a3E w v ms) :
  Calls G.P 29 #[D3 s,.bool usual,v] w (fun r w'=>∃ u b,r = .returned (.tuple #[D3 (if usual then I2 else s),u,.bool b])∧(∃ a n c,u = .slice a n c)∧(b=true→b0p (if usual then I2 else s) ms=true∧Row 39 81 stL w.heap.size w' u (W9 (if usual then I2 else s) (!usual) ms)∧(W9 (if usual then I2 else s) (!usual) ms).length=ms.length)∧Cl w w'):=by
 obtain ⟨al,cl,rfl,hal⟩:=hrow.form;obtain ⟨zp,hzp,hz69⟩:=a9p;have hst:=fun w=>b91 s usual w;generalize (if usual then I2 else s)=p at *
 have has:=fun w' (c:Cl w w')=>b6T p ms hms w' (hrow.step c);have hsy:=fun (hI:Ch.D0 p) (hN:Ng p 0) (hn:ms.length≤90000) w' (c:Cl w w')=>c1L p hI hN (!usual) ms hms hn w' (hrow.step c);refine c3R (Rs3 6 24 7 8) (args:=[D3 s,.bool usual,.slice al ms.length cl]) Tryz.func29 rfl (by simp [Tryz.ntmps29]) zk (fun a w v h=>b41 rfl a w v h) (zR ?_)
 have c1:=Cl.alloc w (.cells (s7 s) 24);have n1:=d9 w (.cells (s7 s) 24);generalize w.alloc (.cells (s7 s) 24)=w1 at *;have hk1:w.heap.size≤w1.heap.size:=c1.size;obtain ⟨k0,hk0⟩:∃ k,k=w.heap.size:=⟨_,rfl⟩;rw [← hk0] at n1 hk1 ⊢;refine v8 zp hzp ?_;have c2:=c1.trans (Cl.alloc w1 (.cells zp.cells 24));have n2:(w1.alloc (.cells zp.cells 24)).heap[w1.heap.size]?=some (.cells zp.cells 24 (0,0)):=d9 _ _;have n1:=(Cl.alloc w1 (.cells zp.cells 24)).blk n1;generalize w1.alloc (.cells zp.cells 24)=w2 at *;refine zR ?_;refine b7 _ (A3 n1) (zR ?_);refine o9 (hst w2) fun w3 c3=>?_;have c3':=c2.trans c3;have n2:=c3.blk n2;refine zR ?_;refine v8 zp hzp (zR ?_);refine K9 (d9 _ _) (V0 p) rfl a0I (A7 _) (one_pos _) (by rw [hz69];omega) (fun w4 u4=>?_)
 have hQ:w4.heap[w3.heap.size]?=some (.cells (s7 p) 24 (0,0)):=by
  rw [u4.at_,C6 _ _ (by rw [A7,hz69])];rfl
 have c34:Cl w3 w4:=u4.cl (Cl.alloc _ _) (yJ _);clear u4;have n2:=c34.blk n2;have c4:=c3'.trans c34;obtain ⟨kp,hkp⟩:∃ k,k=w3.heap.size:=⟨_,rfl⟩;obtain ⟨kr,hkr⟩:∃ k,k=w1.heap.size:=⟨_,rfl⟩;rw [← hkp] at hQ ⊢;rw [← hkr] at n2 hk1 ⊢;refine zR ?_;refine b7 _ (A3 hQ) (zR ?_);refine o9 (has w4 c4) fun w5 c5=>?_;have c5':=c4.trans c5;have hQ5:=c5.blk hQ;have n5:=c5.blk n2;cases hb:b0p p ms
 ·refine zR ?_;refine b7 _ (A3 hQ5) (zR ?_);refine K9 n5 (V0 p) rfl a0I (A7 _) (one_pos _) (by rw [hz69];omega) (fun w6 u6=>?_)
  have hR6:w6.heap[kr]?=some (.cells (s7 p) 24 (0,0)):=by
   rw [u6.at_,C6 _ _ (by rw [A7,hz69])];rfl
  refine zR ?_;exact ⟨.inr rfl,_,⟨_,rfl,_,rfl,A3 hR6⟩,_,false,rfl,⟨_,_,_,rfl⟩,fun e=>(by cases e),u6.cl c5' zo⟩
 ·obtain ⟨hI,hh,hf,hn,hq⟩:=b2U hb;have hsz5:=c5'.size;refine zR ?_;refine b7 _ (A3 hQ5) (zR ?_);refine o7 (hsy hI ⟨zo,zo⟩ zo w5 c5') ?_;rintro r w6 ⟨u,rfl,hR,c6⟩;refine ⟨_,rfl,?_⟩;have c6':=c5'.trans c6;obtain ⟨a6,k6,rfl,_⟩:=hR.form;have hQ6:=c6.blk hQ5;have n6:=c6.blk n5;have hsl:=b7c ms [p] p (if (!usual)=true then C4 [p] p (0,star) else (0,star))
  have e0:W9 p (!usual) ms=a1C [p] p (if (!usual)=true then C4 [p] p (0,star) else (0,star)) ms:=rfl
  rw [← e0] at hsl;generalize W9 p (!usual) ms=S at *;refine zR ?_;refine b7 _ (A3 hQ6) (zR ?_);refine K9 n6 (V0 p) rfl a0I (A7 _) (one_pos _) (by rw [hz69];omega) (fun w7 u7=>?_)
  have hR7:w7.heap[kr]?=some (.cells (s7 p) 24 (0,0)):=by
   rw [u7.at_,C6 _ _ (by rw [A7,hz69])];rfl
  have hS7:=(hR.mono (show k0≤w5.heap.size by omega)).updT u7 n6 zd
  refine zR ?_;exact ⟨.inr rfl,_,⟨_,rfl,_,rfl,A3 hR7⟩,_,decide ((S.length:Int)=(ms.length:Int)),rfl,⟨_,_,_,rfl⟩,fun e=>⟨rfl,hS7,by have:=yB e;omega⟩,u7.cl c6' zo⟩
def a9g (p:l9) (usual:Bool) (S:List Ch.U3):Int×Tx:=match S.getLast? with
 | some s=>(s.method,s.outcome)
 | none=>if usual=true then (0,star) else C4 [p] p (0,star)
theorem b2Z {p:l9} (hI:Ch.D0 p) (hN:a1A p) (usual:Bool) (S:List Ch.U3) (hS:S.length≤1000) {b0:Nat} {v:Value} (w:World) (hrow:Row 39 81 stL b0 w v S) :
  Calls G.P 32 #[D3 p,.bool usual,v] w (N2 (.tuple #[m9 (a9g p usual S).2,.int .i64 (a9g p usual S).1]) w):=by
 obtain ⟨ax,kx,rfl,hax⟩:=hrow.form;refine zN Tryz.func32 ?_;refine zR ?_;have c1:=Cl.alloc w (.cells (s7 p) 24);have n1:=d9 w (.cells (s7 p) 24);generalize w.alloc (.cells (s7 p) 24)=w1 at *;generalize w.heap.size=kp at *;apply E.b9<;>intro h
 ·have hS0:0<S.length:=by omega
  clear h;obtain ⟨g,rfl⟩:=hax hS0;have hil:S.length-1<S.length:=by omega
  have wS:IntKind.i64.wrap ((S.length:Int)-1)=((S.length-1:Nat):Int):=by rw [g9 zo zo];omega
  have ho:=fun w' (c:Cl w w')=>b7l (hrow.step c) hil;have hm:=fun w' (c:Cl w w')=>b4y (hrow.step c) hil;have e:a9g p usual S=(S[S.length-1].method,S[S.length-1].outcome):=by
   unfold a9g;rw [List.getLast?_eq_getElem?,ym hil]
  rw [e];simp only
  generalize S[S.length-1].method=MM at *;generalize S[S.length-1].outcome=OO at *;refine zR ?_;refine zK 16 ?_;refine zR ?_;rw [wS];refine zC ?_;refine zR ?_;refine m7 _ (fun w' hw=>ho _ (c1.trans hw)) (zR ?_);rw [wS];refine zC ?_;refine zR ?_;refine m7 _ (fun w' hw=>hm _ (c1.trans hw)) (zR ?_);intro w2 c2;refine zR ?_;exact ⟨rfl,c1.trans c2⟩
 have hS0:S=[]:=xx zo;clear h;subst hS0;have e:a9g p usual []=if usual=true then (0,star) else C4 [p] p (0,star):=rfl
 rw [e];cases usual
 ·rw [zJ zd];have hE:=fun (w:World) b0 v hrow=>a88 [p] p (fun x hx=>by rw [zY.1 hx];exact a7K hI hN) rfl (by simp) hI hN 0 star (b0:=b0) (v:=v) w hrow
  generalize C4 [p] p (0,star)=EE at *;obtain ⟨e1,e2⟩:=EE;simp only at hE ⊢;refine zR ?_;refine b7 _ (A3 n1) (zR ?_);refine G2 a9I [D3 p] (by rw [zb];rfl) (by intro v hv;rw [zY.1 hv];exact (show (s7 p).size=69 from A0 p)) rfl zd zd ?_
  have r2:Row 24 69 V0 w1.heap.size (w1.alloc (.cells (([D3 p]:List Value).flatMap fun v=>v.cells.toList).toArray 24)) (.slice (some ⟨w1.heap.size,0,none⟩) 1 1) [p]:=L4 A7 w1 [p] (by exact zU rfl) [D3 p] (by simp [D3,s7,Value.cells])
  have c2:=c1.trans (Cl.alloc w1 (.cells (([D3 p]:List Value).flatMap fun v=>v.cells.toList).toArray 24));have hE:=hE _ _ _ r2;generalize w1.alloc (.cells (([D3 p]:List Value).flatMap fun v=>v.cells.toList).toArray 24)=w2 at *;refine zR ?_;refine o9 hE fun w3 c3=>zR ?_;exact ⟨rfl,c2.trans c3⟩
 ·rw [zM rfl];refine zR ?_;exact ⟨rfl,c1⟩
theorem b7s (s:Ch.U3) (r:List Ch.U3) (cs:List Tx):a0Y (s::r) cs=(s,cs.headD [])::a0Y r cs.tail:=by
 cases cs<;>simp [a0Y]
theorem b0s (s:Mv) (r:List Mv) (cs:List Tx):a0R (s::r) cs=(s,cs.headD [])::a0R r cs.tail:=by
 cases cs<;>simp [a0R]
theorem b7t:∀ (ms:List Mv) (l:List l9) (p:l9) (mo:Int×Tx),(a1C l p mo ms).length=ms.length→a0A p ms:=by
 intro ms
 induction ms with
 | nil=>intro _ _ _ _;exact True.intro
 | cons m r ih =>
  intro l p mo h;rw [a09] at h;split at h
  ·rename_i hl;rw [zh,zh] at h;exact ⟨yB hl,ih _ _ _ (Nat.succ.inj h)⟩
  ·rw [za,zh] at h;exact absurd h zo
theorem b43:∀ (ms:List Mv) (l:List l9) (p:l9) (mo:Int×Tx) (f:Bool) (cs:List Tx),a0A p ms→a1P p f (a0Y (a1C l p mo ms) cs)=Z9 p f (a0R ms cs):=by
 intro ms
 induction ms with
 | nil=>intro l p mo f cs _;show a1P p f (a0Y [] cs)=_;rw [a0Y,a0R];rfl
 | cons m r ih =>
  intro l p mo f cs h;have hl:N3 p m=true:=zX h.1;rw [a09,zM hl,b7s,b0s,a1P,Z9];have e1:(X7 p m (C4 (l++[made p m]) (made p m) mo)).san=a28 p m:=rfl;have e2:(X7 p m (C4 (l++[made p m]) (made p m) mo)).pos=made p m:=rfl;simp only [e1,e2];rw [ih _ _ _ _ _ h.2];rfl
def b3a (mo:Int×Tx) (S:List Ch.U3):Int×Tx:=match S.getLast? with
 | some s=>(s.method,s.outcome)
 | none=>mo
theorem b44 (mo mo':Int×Tx) (s:Ch.U3) (S:List Ch.U3) (h:(s.method,s.outcome)=mo'):b3a mo (s::S)=b3a mo' S:=by
 unfold b3a;rw [List.getLast?_cons];cases S.getLast? with
 | none=>exact h
 | some _=>rfl
theorem b45:∀ (ms:List Mv) (l:List l9) (p:l9) (mo:Int×Tx),a0A p ms→b3a mo (a1C l p mo ms)=a0u l mo p ms:=by
 intro ms
 induction ms with
 | nil=>intro l p mo _;rfl
 | cons m r ih =>
  intro l p mo h;have hl:N3 p m=true:=zX h.1;rw [a09,zM hl,a0u,← ih _ _ _ h.2];generalize C4 (l++[made p m]) (made p m) mo=E;have e:((X7 p m E).method,(X7 p m E).outcome)=E:=by unfold X7;rfl
  exact b44 mo E (X7 p m E) _ e
theorem b9L {p:l9} {usual:Bool} {ms:List Mv} (h:a0A p ms):a9g p usual (W9 p (!usual) ms)=a0u [p] (if (!usual)=true then C4 [p] p (0,star) else (0,star)) p ms:=by
 rw [← b45 ms [p] p _ h];have e:W9 p (!usual) ms=a1C [p] p (if (!usual)=true then C4 [p] p (0,star) else (0,star)) ms:=rfl
 rw [e];generalize a1C [p] p (if (!usual)=true then C4 [p] p (0,star) else (0,star)) ms=S
 unfold a9g b3a;cases usual<;>rfl
theorem c3S {p:l9} {usual:Bool} {ms:List Mv} (h:a0A p ms) (ls:List Tg) (cs:List Tx) (o:Tx):b9I (I7 ls) p (a0Y (W9 p (!usual) ms) cs) o=a7t (I7 ls) p (a0R ms cs) o:=by
 unfold b9I a7t W9;rw [b43 ms _ _ _ _ _ h]
theorem b0t {l:List l9} {p:l9} {mo:Int×Tx} (h:mo.2≠[]):(C4 l p mo).2≠[]:=by
 unfold C4;simp only
 repeat' split
 all_goals first
  | exact h
  | (unfold a2m;simp only;split<;>decide)
  | decide
theorem a9h:∀ (ms:List Mv) (l:List l9) (mo:Int×Tx) (p:l9),mo.2≠[]→(a0u l mo p ms).2≠[]
 | [],_,_,_,h=>h
 | m::r,l,mo,p,h=>a9h r _ _ _ (b0t h)
theorem a7f:∀ (ms:List Mv) (l:List l9) (mo:Int×Tx) (p:l9),0≤mo.1→mo.1≤9→mo.2.length≤1000→(a0u l mo p ms).2.length≤1000
 | [],_,_,_,_,_,h=>h
 | m::r,l,mo,p,h0,h9,h=>by
  obtain ⟨a,b,c⟩:=b0q (l:=l++[made p m]) (p:=made p m) h0 h9 h;exact a7f r _ _ _ a b c
theorem a9i:∀ (ms:List Mv) (l:List l9) (p:l9) (mo:Int×Tx),Ch.D0 p→p.full+ms.length≤4611686018427387900→∀ s∈a1C l p mo ms,1≤s.pos.full∧s.pos.full≤4611686018427387900
 | [],_,_,_,_,_,s,hs=>by cases hs
 | m::r,l,p,mo,hI,hf,s,hs=>by
  rw [a09] at hs;split at hs
  ·rename_i hm;have hm:m∈A1 p:=yB hm;have a2:=a4h hI m;have hI2:=Ch.D0.made hI hm;rw [zh] at hf;rcases yS.1 hs with e|hs
   ·rw [e];show 1≤(made p m).full∧(made p m).full≤_;exact ⟨hI2.f1,by push_cast at hf;omega⟩
   ·exact a9i r _ _ _ hI2 (by push_cast at hf;omega) s hs
  ·cases hs
theorem b0u:∀ {l:List Tg} {k v:Tx},X2 l k=some v→∃ x∈l,x.k=k∧x.v=v
 | [],_,_,h=>by cases h
 | y::r,k,v,h=>by
  rw [X2] at h;cases e:X2 r k with
  | some u =>
   rw [e] at h;obtain ⟨x,hx,h1,h2⟩:=b0u e;exact ⟨x,yY _ hx,h1,h2.trans (yi h)⟩
  | none =>
   rw [e,Option.none_or] at h;by_cases hk:k=y.k
   ·rw [zM hk] at h;exact ⟨y,yX ..,hk.symm,yi h⟩
   ·rw [zJ hk] at h;cases h
theorem b0v:∀ (l:List Tg),(∀ x∈l,x.k.length≤60∧x.v.length≤60)→(X3 l).length≤l.length*200
 | [],_=>by simp [X3]
 | x::r,h=>by
  have h1:=h x (yX ..);have h2:=b0v r fun y hy=>h y (yY _ hy);have e:X3 (x::r)=([91]++x.k++[32,34]++x.v++[34,93,10])++X3 r:=rfl;rw [e];simp only [zF,zh,za];omega
theorem b0w:∀ (ms:List Mv) (cs:List Tx) (p:l9) (f:Bool),a0A p ms→Ch.D0 p→p.full+ms.length≤4611686018427387900→(∀ x∈cs,x.length≤60)→(Z9 p f (a0R ms cs)).length≤ms.length*200
 | [],_,_,_,_,_,_,_=>by simp [a0R,Z9]
 | m::r,cs,p,f,h,hI,hf,hc=>by
  have a1:=hI.f1;have a2:=a4h hI m;rw [zh] at hf ⊢;push_cast at hf;have h2:=b0w r cs.tail (made p m) false h.2 (Ch.D0.made hI h.1) zo (fun x hx=>hc x (List.mem_of_mem_tail hx));have hd:(cs.headD []).length≤60:=by
   cases cs with
   | nil=>exact xA _
   | cons c cs=>exact hc c (yX ..)
  have hs:=b80 p m;have hD:=a4e (n:=p.full.toNat) zo;rw [b0s,Z9,mvT];simp only
  have hn:(a6B p f).length≤23:=by
   unfold a6B;split
   ·simp only [zF,zh,za];omega
   ·split
    ·simp only [zF,zh,za];omega
    ·exact xA _
  have hcm:(a3P (cs.headD [])).length≤63:=by
   unfold a3P;split
   ·exact xA _
   ·simp only [zF,zh,za];omega
  simp only [zF,zh,za];omega
theorem b1p {ls:List Tg} (h:∀ x∈ls,x.k.length≤60∧x.v.length≤60):∀ x∈I7 ls,x.k.length≤60∧x.v.length≤60:=fun x hx=>by
 obtain ⟨y,hy,h1,h2⟩:=b0u (((b0n ls).me x).1 hx);have:=h y hy;rw [h1,h2] at this;exact this
theorem c1Y {p:l9} (hI:Ch.D0 p) (hf:p.full≤1000000) {ms:List Mv} (hn:ms.length≤80) (hleg:a0A p ms) {ls:List Tg} (hl:ls.length≤12) (hls:∀ x∈ls,x.k.length≤60∧x.v.length≤60) {cs:List Tx} (hcs:∀ x∈cs,x.length≤60) {o:Tx} (ho:o.length≤1000):(a7t (I7 ls) p (a0R ms cs) o).length≤1000000:=by
 have h1:=b0v (I7 ls) (b1p hls);have h2:=a9d ls;have h3:=b0w ms cs p true hleg hI zo hcs;unfold a7t;have h4:(if I7 ls=[] then ([]:Tx) else [10]).length≤1:=by split<;>simp
 simp only [zF];omega
set_option maxHeartbeats 2000000 in
theorem b1q (s:l9) (usual:Bool) (ms:List Mv) (hms:∀ m∈ms,MvR m) (ls:List Tg) (cs:List Tx) {v vl vc:Value} (w:World) (hT:D5 w) (hS:Spc w) (hw:Pow w) (hrow:a3E w v ms) (htag:a0e w vl ls) (hcom:a6C w vc cs):Calls G.P 10 #[D3 s,.bool usual,v,vl,vc] w (N2 (.bool true) w):=by
 have hpl:=fun w' (c:Cl w w')=>b42 s usual ms hms w' (hrow.step c);have hz3:=fun w' (c:Cl w w')=>b7q ls w' (htag.step c);have hz5:=fun w' (c:Cl w w')=>b7r cs w' (hcom.step c);have hsl:=fun h1 h2 w' (c:Cl w w')=>b40 ls h1 h2 w' (htag.step c);have hsc:=fun h1 h2 w' (c:Cl w w')=>b1o cs h1 h2 w' (hcom.step c);have hu:usual=true→(if usual then I2 else s)=I2:=fun h=>by rw [zM h]
 have hfe:=fun (hI:D0 (if usual then I2 else s)) (hN:a1A (if usual then I2 else s)) w=>c1O s usual (fun h=>b4o (p:=s) (by simpa [h] using hI) (by simpa [h] using hN)) w
 have htx:(if usual then ([]:Tx) else O0 s)=(if usual then [] else O0 (if usual then I2 else s)):=by cases usual<;>simp
 rw [htx] at hfe;obtain ⟨am,cm,rfl,ham⟩:=hrow.form;obtain ⟨al,cl,rfl,hal⟩:=htag.form;obtain ⟨ac,cc,rfl,hac⟩:=hcom.form;obtain ⟨zp,hzp,hz69⟩:=a9p;generalize (if usual then I2 else s)=p at *
 refine zN Tryz.func10 ?_;refine zR ?_;have c1:=Cl.alloc w (.cells (s7 s) 24);have n1:=d9 w (.cells (s7 s) 24);generalize w.alloc (.cells (s7 s) 24)=w1 at *;obtain ⟨k0,hk0⟩:∃ k,k=w.heap.size:=⟨_,rfl⟩;rw [← hk0] at n1 ⊢;apply E.b9<;>intro h
 ·have h0:=h;clear h;refine zR ?_;(repeat (refine E.z6 h0 ?_;refine zR ?_))
  exact ⟨rfl,c1⟩
 have h0:=h;clear h;refine zR ?_;(repeat (refine E.p9 h0 ?_;refine zR ?_))
 refine o7 (hz3 w1 c1) ?_;rintro r w2 ⟨⟨b1,rfl,hb1⟩,c2⟩;refine ⟨_,rfl,?_⟩;have c2':=c1.trans c2;cases b1
 ·refine zR ?_;exact ⟨rfl,c2'⟩
 obtain ⟨hl1,hl2⟩:=hb1 rfl;refine zR ?_;refine o7 (hz5 w2 c2') ?_;rintro r w3 ⟨⟨b2,rfl,hb2⟩,c3⟩;refine ⟨_,rfl,?_⟩;have c3':=c2'.trans c3;cases b2
 ·refine zR ?_;exact ⟨rfl,c3'⟩
 obtain ⟨hc1,hc2⟩:=hb2 rfl;have n3:=(c2.trans c3).blk n1;refine zR ?_;refine b7 _ (A3 n3) (zR ?_);refine o7 (hpl w3 c3') ?_;rintro r w4 ⟨u,b3,rfl,⟨ua,un,uc,rfl⟩,hb3,c4⟩;refine ⟨_,rfl,?_⟩;have c4':=c3'.trans c4;have n4:=c4.blk n3;have hk4:k0<w4.heap.size:=F4 n4;refine zR ?_;refine v8 zp hzp (zR ?_);refine K9 (d9 _ _) (V0 p) rfl a0I (A7 _) (one_pos _) (by rw [hz69];omega) (fun w5 u5=>?_)
 have hQ:w5.heap[w4.heap.size]?=some (.cells (s7 p) 24 (0,0)):=by
  rw [u5.at_,C6 _ _ (by rw [A7,hz69])];rfl
 have d5:Cl w4 w5:=u5.cl (Cl.alloc _ _) (yJ _);clear u5;have c5:=c4'.trans d5;have n5:=d5.blk n4;generalize w4.heap.size=kp at *;cases b3
 ·refine zR ?_;exact ⟨rfl,c5⟩
 obtain ⟨hask,hR,hlS⟩:=hb3 rfl;have hR:=hR.step d5;obtain ⟨hI,hh,hf,hn,hq⟩:=b2U hask;have hleg:=b7t ms [p] p (if (!usual)=true then C4 [p] p (0,star) else (0,star)) hlS
 have hsw:=hsl hl1 hl2;have hcw:=hsc hc1 hc2;refine zR ?_;refine o7 (hsw w5 c5) ?_;rintro r w6 ⟨⟨b4,rfl,hb4⟩,c6⟩;refine ⟨_,rfl,?_⟩;have c6':=c5.trans c6;cases b4
 ·refine zR ?_;exact ⟨rfl,c6'⟩
 obtain ⟨hls,hlx⟩:=hb4 rfl;refine zR ?_;refine o7 (hcw w6 c6') ?_;rintro r w7 ⟨⟨b5,rfl,hb5⟩,c7⟩;refine ⟨_,rfl,?_⟩;have c7':=c6'.trans c7;cases b5
 ·refine zR ?_;exact ⟨rfl,c7'⟩
 obtain ⟨hcs,hcx⟩:=hb5 rfl;have n7:=(c6.trans c7).blk n5;have hQ7:=(c6.trans c7).blk hQ;have hR7:=hR.step (c6.trans c7);have hNum:a1A p:=⟨zo,zo⟩;have ho:=fun w' (c:Cl w7 w')=>b2Z hI hNum usual (W9 p (!usual) ms) zo w' (hR7.step c);obtain ⟨FE,hFE⟩:∃ x,x=a0u [p] (if (!usual)=true then C4 [p] p (0,star) else (0,star)) p ms:=⟨_,rfl⟩
 rw [b9L hleg,← hFE] at ho;have hs5:star.length≤1000:=by decide
 have hE5:∀ (mo:Int×Tx),mo=(if (!usual)=true then C4 [p] p (0,star) else (0,star))→0≤mo.1∧mo.1≤9∧mo.2.length≤1000∧mo.2≠[]:=fun mo e=>by
  rw [e];split
  ·obtain ⟨x1,x2,x3⟩:=b0q (l:=[p]) (p:=p) (mo:=(0,star)) (Int.le_refl 0) (show (0:Int)≤9 by omega) hs5
   exact ⟨x1,x2,x3,b0t zd⟩
  ·exact ⟨Int.le_refl 0,(show (0:Int)≤9 by omega),hs5,zd⟩
 obtain ⟨e0,e9,el,en⟩:=hE5 _ rfl;have hFl:FE.2.length≤1000:=by rw [hFE];exact a7f ms _ _ _ e0 e9 el
 have hFn:FE.2≠[]:=by rw [hFE];exact a9h ms _ _ _ en
 have hlen:=c1Y hI hf hn hleg hls hlx hcx hFl;have him:=fun w' (c:Cl w w') hT hS hw=>b7o hI hh hf ms hms hq hleg hn usual hu ls hls cs hFE hFn w' hT hS hw (hrow.step c) (htag.step c) (hcom.step c) hlen;have hfull:=a9i ms [p] p (if (!usual)=true then C4 [p] p (0,star) else (0,star)) hI zo
 have heq:=c3S (usual:=usual) hleg ls cs FE.2;have hsp:=fun w' (c:Cl w7 w')=>b7n (p:=p) (W9 p (!usual) ms) zo ⟨hI.f1,zo⟩ hfull ls zo cs FE.2 w' (hR7.step c) (htag.step (c7'.trans c)) (hcom.step (c7'.trans c)) (by rw [heq];exact hlen)
 rw [heq] at hsp;have hfe:=hfe hI hNum;clear heq hfull hlen hE5 hFE hleg hlS hsw hcw hpl hz3 hz5 hsl hsc hb1 hb2 hb3 hb4 hb5;generalize a7t (I7 ls) p (a0R ms cs) FE.2=TX at *;generalize (if usual then ([]:Tx) else O0 p)=TF at *
 obtain ⟨FM,FO⟩:=FE;simp only at ho hsp him hFl hFn;refine zR ?_;refine b7 _ (A3 hQ7) (zR ?_);refine o9 (ho w7 (Cl.refl _)) fun w8 c8=>?_;have c8':=c7'.trans c8;have n8:=c8.blk n7;have hQ8:=c8.blk hQ7;refine zR ?_;refine b7 _ (A3 n8) (zR ?_);refine o9 (hfe w8) fun w9 c9=>?_;have c9':=c8'.trans c9;refine zR ?_;refine o9 (him w9 c9' (hT.cl c9') (hS.cl c9') (hw.cl c9')) fun w10 c10=>?_;have c10':=c9'.trans c10;have hQ10:=(c9.trans c10).blk hQ8;refine zR ?_;refine b7 _ (A3 hQ10) (zR ?_);refine o9 (hsp w10 (c8.trans (c9.trans c10))) fun w11 c11=>zR ?_;exact ⟨o8 (zX rfl),c10'.trans c11⟩
end
section
open Go Go.RowKit Go.Deep Go.ChangeShapes Go.WideShapes
open E
theorem b9M (s:ByteArray):Value.string s=m9 s.data.toList:=by
 show _=Value.string (tx _);rw [← J4]
theorem b46 {H:Type} {enc:TypeId×Value→H} {W:World} {b base:Nat} {sp:Nat→Bool} {hd:Bool} {v:Value} {d:DataW H} {ps:List MemPlace} (h:Value.okWide G.P W .any b 42 v) (hr:DataW.Trod enc G.P W base sp hd 42 v d ps) :
  ∃ ns:List Tx,a6C W v ns:=by
 have e1:G.P.underlying 42=some (.slice 9):=by kernel_rfl
 have e3:G.P.underlying 9=some .string:=by kernel_rfl
 have e4:G.P.cellsOf 9=1:=by kernel_rfl
 obtain ⟨fuel,hr⟩:=hr;unfold Value.okWide at h;rw [e1] at h;have hv:∃ oa len cap,v = .slice oa len cap:=by
  unfold Cell.okWide Cell.ok at h;cases v<;>simp [e1] at h;exact ⟨_,_,_,rfl⟩
 obtain ⟨oa,len,cap,rfl⟩:=hv;rcases open_slice e1 hr with ⟨h1,_⟩|⟨a,len',cap',m,n,D,Pl,h1,_,hl,hm,hmm,_,hx⟩
 ·obtain ⟨rfl,rfl,rfl⟩:oa=none∧len=0∧cap=0:=by simpa [Value.cells] using h1
  exact ⟨[],none,0,rfl,fun h=>absurd h zd⟩
 ·obtain ⟨rfl,rfl,rfl⟩:oa=some a∧len=len'∧cap=cap':=by simpa [Value.cells] using h1
  unfold Cell.okWide Cell.ok at h;rw [e1] at h;obtain ⟨_,_,_,hsp,row,cells,hsh,_⟩:=h;obtain ⟨g,o,spo⟩:=a;obtain rfl:spo=none:=hsp;unfold World.shape? at hsh;cases hbb:W.heap[g]? with
  | none=>simp only [hbb] at hsh;cases hsh
  | some ob =>
   cases ob with
   | cells cs2 el fz =>
    have hlm:len≤m:=by rw [hmm];split<;>omega
    have key:∀ i,i<len→∃ z:Tx,cs2[o+i]?=some (m9 z):=by
     intro i hi;obtain ⟨cs',hc1,hc2⟩:=hx i zo;obtain ⟨_,hlen,hcell⟩:=World.cells?_some hc1;rw [e4] at hlen hcell;obtain ⟨z,h3,_⟩:=DataW.trod_string e3 hc2;have h5:cs'[0]?=some (Value.string z):=by rw [h3];rfl
     have h6:=hcell 0 zd;rw [h5,E3,E3] at h6;unfold World.cell? at h6;simp only [hbb] at h6;exact ⟨z.data.toList,by rw [← b9M];simpa using h6⟩
    have:Inhabited Tx:=⟨[]⟩;obtain ⟨F,hF⟩:=choose_lt key;refine ⟨(List.range len).map F,some ⟨g,o,none⟩,cap,by simp,fun _=>⟨g,o,cs2,el,fz,rfl,hbb,fun i hi=>?_⟩⟩
    have hi2:i<len:=by simpa using hi
    simpa using hF i hi2
   | _=>simp only [hbb] at hsh;cases hsh
theorem b7u {H:Type} {enc:TypeId×Value→H} {W:World} {b base:Nat} {sp:Nat→Bool} {hd:Bool} {v:Value} {d:DataW H} {ps:List MemPlace} (h:Value.okWide G.P W .any b 60 v) (hr:DataW.Trod enc G.P W base sp hd 60 v d ps) :
  ∃ l:List Tg,a0e W v l:=by
 have e1:G.P.underlying 60=some (.slice 104):=by kernel_rfl
 have e2:G.P.cellsOf 104=2:=by kernel_rfl
 have e3:G.P.underlying 9=some .string:=by kernel_rfl
 have e4:G.P.cellsOf 9=1:=by kernel_rfl
 obtain ⟨f,hu,_,hf,_⟩:=a1z (G.tab 104 _ (show U5 G.T 104=some (.struct 2 _) from rfl));have hf2:f.toList.map (fun x=>(x.type,x.offset))=[(9,0),(9,1)]:=hf;have hfs:f.size=2:=by have:=yH List.length hf2;simpa using this
 have hfi:∀ i (hi:i<2),f[i].type=9∧f[i].offset=i:=fun i hi=>by
  have:=yH (fun l=>l[i]?) hf2;simp only [List.getElem?_map] at this;rw [ym (by simp [hfs];exact hi)] at this
  simp only [wM,Array.getElem_toList] at this;have h3:i=0∨i=1:=by omega
  rcases h3 with rfl|rfl<;>simpa using this
 obtain ⟨fuel,hr⟩:=hr;unfold Value.okWide at h;rw [e1] at h;have hv:∃ oa len cap,v = .slice oa len cap:=by
  unfold Cell.okWide Cell.ok at h;cases v<;>simp [e1] at h;exact ⟨_,_,_,rfl⟩
 obtain ⟨oa,len,cap,rfl⟩:=hv;rcases open_slice e1 hr with ⟨h1,_⟩|⟨a,len',cap',m,n,D,Pl,h1,_,hl,hm,hmm,_,hx⟩
 ·obtain ⟨rfl,rfl,rfl⟩:oa=none∧len=0∧cap=0:=by simpa [Value.cells] using h1
  exact ⟨[],none,0,rfl,fun h=>absurd h zd⟩
 ·obtain ⟨rfl,rfl,rfl⟩:oa=some a∧len=len'∧cap=cap':=by simpa [Value.cells] using h1
  unfold Cell.okWide Cell.ok at h;rw [e1] at h;obtain ⟨_,_,_,hsp,row,cells,hsh,_⟩:=h;obtain ⟨g,o,spo⟩:=a;obtain rfl:spo=none:=hsp;unfold World.shape? at hsh;cases hbb:W.heap[g]? with
  | none=>simp only [hbb] at hsh;cases hsh
  | some ob =>
   cases ob with
   | cells cs2 el fz =>
    have hlm:len≤m:=by rw [hmm];split<;>omega
    have key:∀ i,i<len→∃ t:Tg,cs2[o+i*2]?=some (m9 t.k)∧cs2[o+i*2+1]?=some (m9 t.v):=by
     intro i hi;obtain ⟨cs',hc1,hc2⟩:=hx i zo;obtain ⟨_,hlen,hcell⟩:=World.cells?_some hc1;rw [e2] at hlen hcell;obtain ⟨xs,n',_,_,_,hxl,hall⟩:=DataW.trod_struct hu hc2;have hz:∀ j,j<2→∃ z:Tx,cs2[o+i*2+j]?=some (m9 z):=by
      intro j hj;obtain ⟨t1,t2⟩:=hfi j hj;have h2:=hall j f[j] (by simp [hfs,hj])
      rw [t1,t2,e4,ym zo] at h2;obtain ⟨z,h3,_⟩:=DataW.trod_string e3 h2;have h5:cs'[j]?=some (Value.string z):=by
       have:=yH (·[0]?) h3;simpa [xe,List.getElem?_drop] using this
      have h6:=hcell j hj;rw [h5,E3,E3] at h6;unfold World.cell? at h6;simp only [hbb] at h6;exact ⟨z.data.toList,by rw [← b9M];simpa using h6⟩
     obtain ⟨z0,p0⟩:=hz 0 zd;obtain ⟨z1,p1⟩:=hz 1 zd;exact ⟨⟨z0,z1⟩,p0,p1⟩
    obtain ⟨F,hF⟩:=choose_lt key;refine ⟨(List.range len).map F,some ⟨g,o,none⟩,cap,by simp,fun _=>⟨g,o,cs2,el,fz,rfl,hbb,fun i hi=>?_⟩⟩
    have hi2:i<len:=by simpa using hi
    simpa using hF i hi2
   | _=>simp only [hbb] at hsh;cases hsh
end
