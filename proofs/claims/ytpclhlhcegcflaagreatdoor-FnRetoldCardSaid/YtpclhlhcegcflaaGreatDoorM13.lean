/- One part of the proof: PkM Sp22 Min Sp23 Sp24 Sp25. -/
import Derived.Test.YtpclhlhcegcflaaGreatDoorM1
import Derived.Test.YtpclhlhcegcflaaGreatDoorM3
import Derived.Test.YtpclhlhcegcflaaGreatDoorM7
import Derived.Test.YtpclhlhcegcflaaGreatDoorM9
import Derived.Test.YtpclhlhcegcflaaGreatDoorM10
import Derived.Test.YtpclhlhcegcflaaGreatDoorM12
namespace Go.Proofs.YtpclhlhcegcflaaGreatDoor
set_option maxRecDepth 100000
set_option linter.unusedSimpArgs false
set_option linter.unusedVariables false
section
open Ch Bb
theorem b2l (B:MB) (fr to:Nat) {i:Nat} (hi:12≤i):(B.m1 fr to 12).f i=B.f i:=by
 show (if i<12 then _ else _)=_
 rw [if_neg zo]
theorem c0p (B:MB) {x y:Int} (to:Nat) (x1:1≤x) (x2:x≤12) (y1:1≤y) (y2:y≤12) {i:Nat} (hi:12≤i):(B.m2 x y to).f i=B.f i:=by
 unfold MB.m2;rw [a29,if_neg zo,a29,if_neg zo]
theorem c0q (B:MB) (c:Int) (to:Nat) {i:Nat} (hi:12≤i):(B.m3 c to).f i=B.f i:=by
 unfold MB.m3;split<;>rw [a29,if_neg zo]
theorem a7v (p:A3) {i:Nat} (hi:15≤i):(mbOf p).f i=0:=by
 show (if i<12 then _ else _)=_
 rw [if_neg zo,if_neg zo,if_neg zo,if_neg zo]
theorem a4H (B:MB) (c:Int) (to:Nat):(B.m3 c to).wk=B.wk∧(B.m3 c to).bk=B.bk:=by unfold MB.m3;split<;>exact ⟨rfl,rfl⟩
theorem b07 (B:MB) (c:Int) (a b:Bool):(B.m4 c a b).wk=B.wk∧(B.m4 c a b).bk=B.bk:=by
 unfold MB.m4;repeat' split
 all_goals exact ⟨rfl,rfl⟩
theorem b37 {p:A3} (hI:B7 p) {i:Int} (h:sq p i≠0) (ho:t8 (sq p i)=p.turn):colM (sq p i)=p.turn+1:=by
 unfold colM;rw [if_neg h,ho]
theorem b6t {p q:A3} (hI:B7 p) {m:Mv} {A:MB} (hw:A.wk=kingAt p 0) (hb:A.bk=kingAt p 1) (ho:t8 (sq p m.fr)=p.turn) (hx:sq p m.fr≠0)
  (h1:Q0 q p.turn (if m.fr=kingAt p p.turn then m.to else kingAt p p.turn)) (h2:Q0 q (1-p.turn) (kingAt p (1-p.turn))):(A.kings m.fr m.to).wk=kingAt q 0∧(A.kings m.fr m.to).bk=kingAt q 1∧(A.kings m.fr m.to).f=A.f:=by
 unfold MB.kings;rw [hw,hb];have e1:=h1.at;have e2:=h2.at;rcases hI.turn with ht | ht
 ·rw [ht] at e1 e2 ho;simp only [show (1:Int)-0=1 from rfl] at e2;by_cases hk:m.fr=kingAt p 0
  ·rw [if_pos hk];rw [if_pos hk] at e1;exact ⟨e1.symm,by rw [e2],rfl⟩
  ·rw [if_neg hk] at e1;rw [if_neg hk];have hne:m.fr≠kingAt p 1:=fun e=>by
    have:=(hI.king 1 (.inr rfl)).2.2.1;rw [← e] at this;rw [this] at ho;revert ho;decide
   rw [if_neg hne];exact ⟨by rw [e1];exact hw,by rw [e2];exact hb,rfl⟩
 ·rw [ht] at e1 e2 ho;simp only [show (1:Int)-1=0 from rfl] at e2;have hne:m.fr≠kingAt p 0:=fun e=>by
   have:=(hI.king 0 (.inl rfl)).2.2.1;rw [← e] at this;rw [this] at ho;revert ho;decide
  rw [if_neg hne];by_cases hk:m.fr=kingAt p 1
  ·rw [if_pos hk];rw [if_pos hk] at e1;exact ⟨by rw [e2],e1.symm,rfl⟩
  ·rw [if_neg hk] at e1;rw [if_neg hk];exact ⟨by rw [e2];exact hw,by rw [e1];exact hb,rfl⟩
theorem a7w (A:MB):A.sums.wk=A.wk∧A.sums.bk=A.bk:=⟨rfl,rfl⟩
theorem a7x {p q:A3} (hI:B7 p) {m:Mv} {A:MB} (hq:∀ i:Int,0≤sq q i∧sq q i≤12) (hA:A.Is (fun s=>sq q s)) (hz:∀ i,15≤i→A.f i=0) (hw:A.wk=kingAt p 0) (hb:A.bk=kingAt p 1) (ho:t8 (sq p m.fr)=p.turn) (hx:sq p m.fr≠0)
  (h1:Q0 q p.turn (if m.fr=kingAt p p.turn then m.to else kingAt p p.turn)) (h2:Q0 q (1-p.turn) (kingAt p (1-p.turn))):A.sums.kings m.fr m.to=mbOf q:=by
 obtain ⟨k1,k2,k3⟩:=b6t (A:=A.sums) hI hw hb ho hx h1 h2;exact a5z (fun i=>by rw [k3];exact b36 hq hA hz i) k1 k2
theorem a7y {p:A3} (hI:B7 p) {m:Mv} (h:H8 p m) {tags:Nat} (h3:tags.testBit 3=decide (capTag p m=8)) (h0:tags.testBit 0=false) (h1:tags.testBit 1=false):(mbOf p).move m tags=mbOf (made p m):=by
 have ht:=hI.turn;have f0:=h.f0;have f1:=h.f1;have t0:=h.t0;have t1:=h.t1;have hsq:=fun j=>R8 hI h (j:=j);have hcap:=a3r hI h;have hko:=a1r hI h;have hkt:=a3X hI h;have hpc:=a2r hI h;have hne:=h.ne;have hpr:=h.promo;have hpass:=a0u hI h;have htk:=a17 hI h;have hown:=a2R hI h.there h.own;have hcol:=b37 hI h.there h.own;have hth:=h.there;have hside:=h.own;have hnew:a1p p m=if m.promo≠0 then m.promo+6*p.turn else sq p m.fr:=rfl
 obtain ⟨fr,to,pr⟩:=m;simp only at f0 f1 t0 t1 hne hpr hown hcol hth hside hnew ⊢;obtain ⟨f,rfl⟩:=Int.eq_ofNat_of_zero_le f0;obtain ⟨t,rfl⟩:=Int.eq_ofNat_of_zero_le t0;have hf:f<64:=by omega
 have htt:t<64:=by omega
 have hft:f≠t:=fun e=>hne (by rw [e])
 unfold MB.move;simp only [Int.toNat_natCast,T8 hI.pc hf,hcol,h0,h1];have e4:∀ B:MB,B.m4 (p.turn+1) false false=B:=fun B=>by unfold MB.m4;simp
 rw [e4];have i1:=b97 (a0d p) hf htt hft;have i2:(if pr=0 then (mbOf p).m1 f t 12 else ((mbOf p).m1 f t 12).m2 (sq p f) (pr+6*(p.turn+1-1)) t).Is (fun s=>if s=t then a1p p ⟨f,t,pr⟩ else if s=f then 0 else sq p s):=by
  by_cases hp:pr=0
  ·rw [if_pos hp];have:a1p p ⟨(f:Int),t,pr⟩=sq p f:=by rw [hnew,if_neg (by simpa using hp)]
   rw [this];exact i1
  ·rw [if_neg hp];have hk:kindOf (sq p f)=6:=by rcases hpr with ⟨e,_⟩ | ⟨_,_,e,_⟩;exact absurd e hp;exact e
   have hb:2≤pr∧pr≤5:=by rcases hpr with ⟨e,_⟩ | ⟨e,e',_,_⟩;exact absurd e hp;exact ⟨e,e'⟩
   have hx:sq p f=6+6*p.turn:=by rw [hown.2.2,hk]
   have hn:a1p p ⟨(f:Int),t,pr⟩=pr+6*(p.turn+1-1):=by rw [hnew,if_pos hp];omega
   rw [hn];have:=c1R i1 (x:=sq p f) (y:=pr+6*(p.turn+1-1)) htt zo zo zo zo (by simp) zo
   intro i hi;rw [this i hi];refine a1Z fun s _=>?_;by_cases e:s=t
   ·simp [e]
   ·simp [e]
 have z2:∀ i,15≤i→(if pr=0 then (mbOf p).m1 f t 12 else ((mbOf p).m1 f t 12).m2 (sq p f) (pr+6*(p.turn+1-1)) t).f i=0:=fun i hi=>by
  split
  ·rw [b2l _ _ _ zo,a7v p hi]
  ·rename_i hp;have hb:2≤pr∧pr≤5:=by rcases hpr with ⟨e,_⟩ | ⟨e,e',_,_⟩;exact absurd e hp;exact ⟨e,e'⟩
   rw [c0p _ _ zo zo zo zo zo,b2l _ _ _ zo,a7v p hi]
 have k2:(if pr=0 then (mbOf p).m1 f t 12 else ((mbOf p).m1 f t 12).m2 (sq p f) (pr+6*(p.turn+1-1)) t).wk=kingAt p 0∧(if pr=0 then (mbOf p).m1 f t 12 else ((mbOf p).m1 f t 12).m2 (sq p f) (pr+6*(p.turn+1-1)) t).bk=kingAt p 1:=by
  split<;>exact ⟨rfl,rfl⟩
 generalize (if pr=0 then (mbOf p).m1 f t 12 else ((mbOf p).m1 f t 12).m2 (sq p f) (pr+6*(p.turn+1-1)) t)=B2 at *
 rw [h3];by_cases hc8:capTag p ⟨f,t,pr⟩=8
 ·rw [if_pos (by simpa using hc8)]
  rw [hc8] at hcap;have hz:sq p t=0:=by
   by_cases e:sq p t=0
   ·exact e
   ·rw [if_pos e] at hcap;exact absurd hcap zd
  rw [if_neg (by simpa using hz)] at hcap
  have htk':takes p ⟨f,t,pr⟩=true:=by
   by_cases e:takes p ⟨f,t,pr⟩=true
   ·exact e
   ·rw [if_neg e] at hcap;exact absurd hcap zd
  obtain ⟨p1,p2,p3,p4,p5,p6⟩:=hpass hz htk';have hta:D8 p ⟨f,t,pr⟩=H2 (l9 t) (g8 f):=by
   unfold D8;simp only;rw [if_neg (by simpa using hz),if_pos htk']
  simp only at p2 p3 p4 p5 p6;obtain ⟨q,hq⟩:=Int.eq_ofNat_of_zero_le p2;have hq64:H2 (l9 t) (g8 f)≤63:=(at_range _ _).2;have hqq:(q:Int)=t-8*(3-2*(p.turn+1)):=by rw [← hq,p6];unfold up;omega
  have hqn:q≠t∧q≠f:=by
   constructor
   ·intro e;omega
   ·intro e;rw [hq,e] at p3;rw [p3] at hown;omega
  have i3:=c1S i2 (c:=p.turn+1) zo (to:=t) (q:=q) htt zo hqq (by
   simp only [if_neg hqn.1,if_neg hqn.2];rw [← hq,p3];rcases ht with e | e<;>rw [e]<;>rfl)
  refine a7x (m:=⟨f,t,pr⟩) hI hpc (fun i hi=>?_) (fun i hi=>by rw [c0q _ _ _ zo];exact z2 i hi) (by rw [(a4H _ _ _).1];exact k2.1) (by rw [(a4H _ _ _).2];exact k2.2) hside hth hko hkt
  rw [i3 i hi];refine a1Z fun s _=>?_;have:=hsq s zo;simp only [hta,hq,htk',true_and] at this;rw [this];by_cases e1:s=q
  ·subst e1;rw [if_pos rfl,if_neg zo,if_neg zo,if_pos rfl]
  ·rw [if_neg e1];by_cases e2:s=t
   ·rw [if_pos e2,if_pos (by rw [e2])]
   ·by_cases e3:s=f
    ·rw [if_neg e2,if_pos e3,if_neg zo,if_pos (by rw [e3])]
    ·rw [if_neg e2,if_neg e3,if_neg zo,if_neg zo,if_neg zo]
 ·rw [if_neg (by simpa using hc8)]
  refine a7x (m:=⟨f,t,pr⟩) hI hpc (fun i hi=>?_) z2 k2.1 k2.2 hside hth hko hkt;rw [i2 i hi];refine a1Z fun s _=>?_;have:=hsq s zo;simp only at this;rw [this];have hno:¬ (takes p ⟨f,t,pr⟩=true∧(s:Int)=D8 p ⟨f,t,pr⟩)∨(s:Int)=t:=by
   by_cases e:takes p ⟨f,t,pr⟩=true
   ·by_cases ez:sq p t=0
    ·rw [if_neg (by simpa using ez),if_pos e] at hcap
     exact absurd (by exact_mod_cast hcap) hc8
    ·have:D8 p ⟨f,t,pr⟩=t:=by unfold D8;simp only;rw [if_pos ez]
     rw [this];by_cases e2:(s:Int)=t
     ·exact .inr e2
     ·exact .inl fun h=>e2 h.2
   ·exact .inl fun h=>e h.1
  by_cases e2:s=t
  ·rw [if_pos e2,if_pos (by rw [e2])]
  ·have hno':=hno.resolve_right zo;by_cases e3:s=f
   ·rw [if_neg e2,if_pos e3,if_neg zo,if_pos (by rw [e3])]
   ·rw [if_neg e2,if_neg e3,if_neg zo,if_neg zo,if_neg hno']
theorem a5X {p:A3} (hI:B7 p) {m:Mv} {K w R:Int} (h:a08 p m K w R) {tags:Nat} (h3:tags.testBit 3=false) (h0:tags.testBit 0=decide (w=1)) (h1:tags.testBit 1=decide (w=-1)):(mbOf p).move m tags=mbOf (made p m):=by
 have ht:=hI.turn;have hsq:=fun j=>I6 hI h (j:=j);obtain ⟨hko,hkf⟩:=X8 hI h;have hkt:=a2p hI h;have hpc:=a0V hI h;have hko':Q0 (made p m) p.turn (if m.fr=kingAt p p.turn then m.to else kingAt p p.turn):=by rw [if_pos hkf];exact hko
 have hK:=h.k;have hking:=h.king;have hrook:=h.rook;have hmid:=h.mid;have hmv:=h.mv;have hth:sq p m.fr≠0:=by rw [hmv];simp only [hking];omega
 have hside:t8 (sq p m.fr)=p.turn:=by rw [hmv];simp only [hking];exact O1 zd zd ht
 have hcol:colM (sq p K)=p.turn+1:=b37 hI (by rw [hking];omega) (by rw [hking];exact O1 zd zd ht)
 have key:∀ (k t rr ff i:Nat),k<64→t<64→rr<64→ff<64→i<12→(k:Int)=K→(t:Int)=K+2*w→(rr:Int)=R→(ff:Int)=K+w→(i:Int)+1=3+6*p.turn→k≠t→rr≠k→rr≠t→ff≠k→ff≠t→rr≠ff →
   (∀ B:MB,B.m4 (p.turn+1) (decide (w=1)) (decide (w=-1))=B.set i ((B.f i &&& Bb.not (D0 rr)) ||| D0 ff))→(mbOf p).move m tags=mbOf (made p m):=by
  intro k t rr ff i hk64 ht64 hr64 hf64 hi12 ek et er ef ei n1 n2 n3 n4 n5 n6 e4;have efr:m.fr.toNat=k:=by rw [hmv];simp only;omega
  have eto:m.to.toNat=t:=by rw [hmv];simp only;omega
  have epr:m.promo=0:=by rw [hmv]
  have i1:=b97 (a0d p) hk64 ht64 n1;unfold MB.move;simp only [efr,eto,epr,if_true,T8 hI.pc hk64,ek,hcol,h3,h0,h1,e4,Bool.false_eq_true,if_false];refine a7x (p:=p) hI hpc (fun j hj=>?_) (fun j hj=>?_) rfl rfl hside hth hko' hkt
  ·have:=b8o i1 (i:=i) (R:=rr) (F:=ff) hi12 hr64 hf64 (by simp only [if_neg n3,if_neg n2];rw [er,hrook,ei]) (by simp only [if_neg n5,if_neg n4];rw [ef,hmid]) n6
   rw [this j hj];refine a1Z fun s _=>?_;have hs:=hsq s zo;rw [hs];by_cases e1:s=ff
   ·rw [if_pos e1,if_pos (show (s:Int)=K+w by omega),ei]
   ·rw [if_neg e1,if_neg (show ¬ (s:Int)=K+w by omega)]
    by_cases e2:s=rr
    ·rw [if_pos e2,if_pos (show (s:Int)=R by omega)]
    ·rw [if_neg e2,if_neg (show ¬ (s:Int)=R by omega)]
     by_cases e3:s=t
     ·rw [if_pos e3,if_pos (show (s:Int)=K+2*w by omega),ek,hking]
     ·rw [if_neg e3,if_neg (show ¬ (s:Int)=K+2*w by omega)]
      by_cases e5:s=k
      ·rw [if_pos e5,if_pos (show (s:Int)=K by omega)]
      ·rw [if_neg e5,if_neg (show ¬ (s:Int)=K by omega)]
  ·rw [a29,if_neg zo,b2l _ _ _ zo,a7v p hj]
 rcases h.way with ⟨hw,hR⟩ | ⟨hw,hR,_⟩<;>rcases ht with e | e
 ·exact key 4 6 7 5 2 zd zd zd zd zd zo zo zo zo zo zd zd zd zd zd zd (fun B=>by rw [e,hw];rfl)
 ·exact key 60 62 63 61 8 zd zd zd zd zd zo zo zo zo zo zd zd zd zd zd zd (fun B=>by rw [e,hw];rfl)
 ·exact key 4 2 0 3 2 zd zd zd zd zd zo zo zo zo zo zd zd zd zd zd zd (fun B=>by rw [e,hw];rfl)
 ·exact key 60 58 56 59 8 zd zd zd zd zd zo zo zo zo zo zd zd zd zd zd zd (fun B=>by rw [e,hw];rfl)
end
section
open Go Go.RowKit
open E
theorem a2v (p:A3) (hp:Pc p) (m:Mv) (hm:b0h m) (w:World):Calls G.P 58 #[C4 p,G5 m] w (K4 (.int .i64 (Ch.castleKind p m)) w):=by
 obtain ⟨⟨a0,a1⟩,⟨b0,b1⟩,d0,d1⟩:=hm;refine zN Tryz.func58 ?_;refine zG ?_;generalize hW:(w.alloc (.cells (o9 p) 24)).alloc (.cells (K2 m) 36)=W0;have hP:∀ w',Cl W0 w'→w'.heap[w.heap.size]?=some (.cells (o9 p) 24 (0,0)):=fun w' h=>hP2 (hW▸h);have hM:∀ w',Cl W0 w'→w'.heap[(w.alloc (.cells (o9 p) 24)).heap.size]?=some (.cells (K2 m) 36 (0,0)):=fun w' h=>hM2 (hW▸h);have hE:∀ w',Cl W0 w'→Cl w w':=fun w' h=>hE2 (hW▸h);have z:=Cl.refl W0;have e1:IntKind.i64.wrap (m.to-m.fr)=m.to-m.fr:=g7 zo zo;refine zR ?_;refine d7 _ (L6 (hM _ z)) (zR ?_);refine zC ?_;refine zR ?_;refine d7 _ (L9 (hP _ z) _ zo zo) (zR ?_);refine d9 (N9 _ _ (Pc.lo hp _) (Pc.hi hp _)) (zR ?_);apply E.r9<;>intro h
 ·refine zR ?_;exact ⟨C3 (by unfold Ch.castleKind;rw [if_pos h]),hE _ z⟩
 ·have hk:=h;clear h;have hc:Ch.castleKind p m=if m.to-m.fr=2 then 1 else if m.to-m.fr=-2 then 2 else 0:=by unfold Ch.castleKind;rw [if_neg (fun hn=>hn hk)]
  refine zR ?_;refine d7 _ (a0g (hM _ z)) (zR ?_);refine d7 _ (L6 (hM _ z)) (zR ?_);simp only [e1];apply E.b7<;>intro h
  ·refine zR ?_;exact ⟨C3 (by rw [hc,if_pos h]),hE _ z⟩
  ·have h2:=h;clear h;refine zR ?_;apply E.b7<;>intro h
   ·refine zR ?_;exact ⟨C3 (by rw [hc,if_neg h2,if_pos h]),hE _ z⟩
   ·refine zR ?_;exact ⟨C3 (by rw [hc,if_neg h2,if_neg h]),hE _ z⟩
theorem a4f (p:A3) (hp:Pc p) (m:Mv) (hm:b0h m) (w:World):Calls G.P 59 #[C4 p,G5 m] w (K4 (.bool (Ch.takes p m)) w):=by
 obtain ⟨⟨a0,a1⟩,⟨b0,b1⟩,d0,d1⟩:=hm;refine zN Tryz.func59 ?_;refine zG ?_;generalize hW:(w.alloc (.cells (o9 p) 24)).alloc (.cells (K2 m) 36)=W0;have hP:∀ w',Cl W0 w'→w'.heap[w.heap.size]?=some (.cells (o9 p) 24 (0,0)):=fun w' h=>hP2 (hW▸h);have hM:∀ w',Cl W0 w'→w'.heap[(w.alloc (.cells (o9 p) 24)).heap.size]?=some (.cells (K2 m) 36 (0,0)):=fun w' h=>hM2 (hW▸h);have hE:∀ w',Cl W0 w'→Cl w w':=fun w' h=>hE2 (hW▸h);have z:=Cl.refl W0;have e1:m.fr.tmod 8=m.fr%8:=a19 a0;have e2:m.to.tmod 8=m.to%8:=a19 b0;have hT:Ch.takes p m=(!decide (Ch.sq p m.to=0)||(decide (Ch.kindOf (Ch.sq p m.fr)=6) && !decide (m.fr%8=m.to%8))):=rfl
 refine zR ?_;refine d7 _ (a0g (hM _ z)) (zR ?_);refine zC ?_;refine zR ?_;refine d7 _ (L9 (hP _ z) _ zo zo) (zR ?_);apply E.r9<;>intro h
 ·refine zR ?_;exact ⟨m8 (by rw [hT,decide_eq_false h];simp),hE _ z⟩
 ·have h1:=h;clear h;rw [decide_eq_true h1] at hT;refine zR ?_;refine d7 _ (L6 (hM _ z)) (zR ?_);refine zC ?_;refine zR ?_;refine d7 _ (L9 (hP _ z) _ zo zo) (zR ?_);refine d9 (N9 _ _ (Pc.lo hp _) (Pc.hi hp _)) (zR ?_);apply E.b7<;>intro h
  ·refine zR ?_;refine d7 _ (L6 (hM _ z)) (zR ?_);refine d7 _ (a0g (hM _ z)) (zR ?_);exact ⟨m8 (by rw [hT,decide_eq_true h,e1,e2];simp),hE _ z⟩
  ·refine zR ?_;exact ⟨m8 (by rw [hT,decide_eq_false h];simp),hE _ z⟩
def Nm (p:A3):Prop:=p.half<2305843009213693952∧p.full<2305843009213693952
theorem Nm.nums {p:A3} (h:Nm p):a1z p:=⟨by have:=h.1;omega,by have:=h.2;omega⟩
theorem a3v {p:A3} (hI:Ch.B7 p) (m:Mv):0≤(Ch.made p m).half∧(Ch.made p m).half≤p.half+1:=by
 show 0≤(if Ch.takes p m||decide (Ch.kindOf (Ch.sq p m.fr)=6) then 0 else p.half+1)∧_≤p.half+1
 have:=hI.h0;constructor
 ·split<;>omega
 ·show (if Ch.takes p m||decide (Ch.kindOf (Ch.sq p m.fr)=6) then 0 else p.half+1)≤_
  split<;>omega
theorem a3w {p:A3} (hI:Ch.B7 p) (m:Mv):p.full≤(Ch.made p m).full∧(Ch.made p m).full≤p.full+1:=by
 have e:(Ch.made p m).full=p.full+p.turn:=rfl;have:=hI.turn;omega
theorem Nm.made {p:A3} (h:Nm p) (hI:Ch.B7 p) (m:Mv):a1z (Ch.made p m):=by
 have:=a3v hI m;have:=a3w hI m;have:=h.1;have:=h.2;exact ⟨zo,zo⟩
theorem a0x {p:A3} (hI:Ch.B7 p) {m:Mv} (hm:m∈Ch.y8 p):b0h m:=a5r hI (List.mem_filter.1 hm).1
theorem a3x (p:A3) (hI:Ch.B7 p) (hN:Nm p) (m:Mv) (hm:m∈Ch.y8 p) (w:World):Calls G.P 65 #[C4 p,G5 m] w (K4 (s8 (Ch.a04 p m)) w):=by
 have hmo:=a0x hI hm;have hI2:=Ch.B7.made hI hm;have hN2:=hN.made hI m;refine zN Tryz.func65 ?_;refine zG ?_;generalize hW:(w.alloc (.cells (o9 p) 24)).alloc (.cells (K2 m) 36)=W0;have hP:∀ w',Cl W0 w'→w'.heap[w.heap.size]?=some (.cells (o9 p) 24 (0,0)):=fun w' h=>hP2 (hW▸h);have hM:∀ w',Cl W0 w'→w'.heap[(w.alloc (.cells (o9 p) 24)).heap.size]?=some (.cells (K2 m) 36 (0,0)):=fun w' h=>hM2 (hW▸h);have hE:∀ w',Cl W0 w'→Cl w w':=fun w' h=>hE2 (hW▸h);have z:=Cl.refl W0;obtain ⟨zv,hz,hz69⟩:=b1P;refine zR ?_;refine d7 _ (y7 (hP _ z)) (zR ?_);refine d7 _ (P9 (hM _ z)) (zR ?_);refine m9 (a5l p m hI.pc hmo hI.turn hI.c0 hI.c1 hI.h0 hN.nums.1 (by have:=hI.f1;omega) hN.nums.2 _) fun w1 c1=>zR ?_
 refine t7 zv hz (zR ?_);refine J6 (q8 _ _) (X0 (Ch.made p m)) rfl a13 (B6 _) (one_pos _) (by rw [hz69];omega) (fun w3 u3=>?_)
 have hQ:w3.heap[w1.heap.size]?=some (.cells (o9 (Ch.made p m)) 24 (0,0)):=by
  rw [u3.at_,C5 _ _ (by rw [B6,hz69])];rfl
 have c3:Cl W0 w3:=u3.cl (c1.trans (Cl.alloc _ _)) c1.size;clear u3;have hS:Ch.a04 p m=if !Ch.inCheck (Ch.made p m) then [] else if (Ch.y8 (Ch.made p m)).isEmpty then [35] else [43]:=rfl
 generalize Ch.made p m=q at *;have ht:=hI2.turn;refine zR ?_;refine d7 _ (y7 hQ) (zR ?_);refine m9 (a3n q hI2.pc _ zo zo) fun w4 c4=>?_;generalize hb:Ch.inCheck q=b at *;refine zR ?_;cases b
 ·refine zR ?_;exact ⟨D9 (by rw [hS];rfl),hE _ (c3.trans c4)⟩
 ·refine zR ?_;refine d7 _ (y7 (c4.blk hQ)) (zR ?_);refine o8 (a2s q hI2 hN2 _) ?_;rintro r w5 ⟨v,l,rfl,hlp,hl,c5⟩;refine ⟨_,rfl,?_⟩;obtain ⟨al,cl,rfl,hal⟩:=hl.form;have hlen:=hlp.length_eq;refine zR ?_;apply E.b7<;>intro h
  ·refine zR ?_;exact ⟨D9 (by rw [hS,a0o,decide_eq_true zo];rfl),hE _ (c3.trans (c4.trans c5))⟩
  ·refine zR ?_;exact ⟨D9 (by rw [hS,a0o,decide_eq_false zo];rfl),hE _ (c3.trans (c4.trans c5))⟩
theorem a3y (p:A3) (m:Mv):(Ch.a04 p m).length≤1:=by
 unfold Ch.a04;repeat' split
 all_goals simp
theorem a3z (p:A3) (m:Mv):Ch.a04 p m=[]↔Ch.inCheck (Ch.made p m)=false:=by
 unfold Ch.a04;cases Ch.inCheck (Ch.made p m)
 ·simp
 ·simp;split<;>simp
theorem c0r (p:A3) (hI:Ch.B7 p) (hN:Nm p) (m:Mv) (hm:m∈Ch.y8 p) (w:World):Calls G.P 93 #[C4 p,G5 m] w (K4 (.int .i64 (Ch.a6V p m)) w):=by
 have hmo:=a0x hI hm;have hI2:=Ch.B7.made hI hm;have hN2:=hN.made hI m;have hmo':=hmo;obtain ⟨⟨a0,a1⟩,⟨b0,b1⟩,d0,d1⟩:=hmo';refine zN Tryz.func93 ?_;refine zG ?_;generalize hW:(w.alloc (.cells (o9 p) 24)).alloc (.cells (K2 m) 36)=W0;have hP:∀ w',Cl W0 w'→w'.heap[w.heap.size]?=some (.cells (o9 p) 24 (0,0)):=fun w' h=>hP2 (hW▸h);have hM:∀ w',Cl W0 w'→w'.heap[(w.alloc (.cells (o9 p) 24)).heap.size]?=some (.cells (K2 m) 36 (0,0)):=fun w' h=>hM2 (hW▸h);have hE:∀ w',Cl W0 w'→Cl w w':=fun w' h=>hE2 (hW▸h);have z:=Cl.refl W0;have hck:0≤Ch.castleKind p m∧Ch.castleKind p m≤2:=by unfold Ch.castleKind;(repeat' split)<;>omega
 have hT:Ch.a6V p m=Ch.castleKind p m+(if Ch.sq p m.to≠0 then 4 else if Ch.takes p m then 8 else 0)+(if Ch.inCheck (Ch.made p m) then 16 else 0):=rfl
 refine zR ?_;refine d7 _ (y7 (hP _ z)) (zR ?_);refine d7 _ (P9 (hM _ z)) (zR ?_);refine m9 (a2v p hI.pc m hmo _) fun w1 c1=>?_;generalize Ch.castleKind p m=ck at *;refine zG ?_;refine A4 (σ:=Unit) [5,9,10,11,12,13,14,15,16,17,18,19,20,21] 22 (fun _=>[(5,.int .i64 (ck+(if Ch.sq p m.to≠0 then 4 else if Ch.takes p m then 8 else 0)))]) (fun _ w'=>Cl W0 w') zk ?_ (fun _ j w2 c2=>?_)
 ·refine zR ?_;refine d7 _ (a0g (hM _ c1)) (zR ?_);refine zC ?_;refine zR ?_;refine d7 _ (L9 (hP _ c1) _ zo zo) (zR ?_);apply E.r9<;>intro h
  ·refine zR ?_;exact ⟨(),⟨m7 (by rw [if_pos h,g7 zo zo]),trivial⟩,c1⟩
  ·refine zR ?_;refine d7 _ (y7 (hP _ c1)) (zR ?_);refine d7 _ (P9 (hM _ c1)) (zR ?_);refine m9 (a4f p hI.pc m hmo _) fun w2 c2=>?_;cases ht:Ch.takes p m
   ·refine zR ?_;exact ⟨(),⟨m7 (by rw [if_neg (fun hn=>hn h)];simp),trivial⟩,c1.trans c2⟩
   ·refine zR ?_;exact ⟨(),⟨m7 (by rw [if_neg (fun hn=>hn h),g7 zo zo];simp),trivial⟩,c1.trans c2⟩
 generalize hX:(if Ch.sq p m.to≠0 then 4 else if Ch.takes p m then 8 else 0:Int)=X at *
 have hXb:0≤X∧X≤8:=by rw [← hX];(repeat' split)<;>omega
 refine zR ?_;refine d7 _ (y7 (hP _ c2)) (zR ?_);refine d7 _ (P9 (hM _ c2)) (zR ?_);refine m9 (a5l p m hI.pc hmo hI.turn hI.c0 hI.c1 hI.h0 hN.nums.1 (by have:=hI.f1;omega) hN.nums.2 _) fun w3 c3=>?_
 have ht:=hI2.turn;refine zR ?_;refine m9 (a3n _ hI2.pc _ zo zo) fun w4 c4=>?_;cases hb:Ch.inCheck (Ch.made p m)
 ·refine zR ?_;exact ⟨C3 (by rw [hT,hb];simp),hE _ (c2.trans (c3.trans c4))⟩
 ·refine zR ?_;exact ⟨C3 (by rw [hT,hb,g7 zo zo];simp),hE _ (c2.trans (c3.trans c4))⟩
def a2a (w:World) (v:Value) (ms:List Mv):Prop:=∃ a c,v = .slice a ms.length c∧(0<ms.length→∃ g o cs t fz,a=some ⟨g,o,none⟩∧w.heap[g]?=some (.cells cs t fz)∧∀ i (h:i<ms.length),o+i*3+3≤cs.size∧cs.extract (o+i*3) (o+i*3+3)=K2 ms[i])
section mvIn
variable {w w':World} {v:Value} {ms:List Mv}
theorem a2a.form (h:a2a w v ms):∃ a c,v = .slice a ms.length c∧(0<ms.length→∃ g o,a=some ⟨g,o,none⟩):=by
 obtain ⟨a,c,e,h⟩:=h;exact ⟨a,c,e,fun h0=>by obtain ⟨g,o,_,_,_,e,_⟩:=h h0;exact ⟨g,o,e⟩⟩
theorem a2a.step (h:a2a w v ms) (hc:Cl w w'):a2a w' v ms:=by
 obtain ⟨a,c,e,h⟩:=h;exact ⟨a,c,e,fun h0=>by obtain ⟨g,o,cs,t,fz,e,hb,h2⟩:=h h0;exact ⟨g,o,cs,t,fz,e,hc.blk hb,h2⟩⟩
theorem a2a.ld {g o n c:Nat} (h:a2a w (.slice (some ⟨g,o,none⟩) n c) ms) (i:Nat) (hi:i<ms.length):l8 G.P w 36 ⟨g,E.W6 o ((i:Int)).toNat 3,none⟩ (G5 ms[i]):=by
 obtain ⟨a,c',e,h⟩:=h;obtain ⟨g',o',cs,t,fz,e2,hb,h2⟩:=h zo;injection e with e1 _ _;rw [e2] at e1;injection e1 with e1;injection e1 with e1 e3 _;subst e1 e3;obtain ⟨h3,h4⟩:=h2 i hi;have:=ldA (t:=36) (o:=o+i*3) (z:=3) hb rfl h3;rw [h4] at this;rw [E.z6,Int.toNat_natCast];exact this
end mvIn
theorem b08 {p:A3} (hI:Ch.B7 p) {m:Mv} (hm:m∈Ch.y8 p) (h:m.promo≠0) {k:Int} (k2:2≤k) (k5:k≤5):(⟨m.fr,m.to,k⟩:Mv)∈Ch.y8 p:=by
 obtain ⟨fr,to,pr⟩:=m;simp only at h ⊢;rcases (Ch.Z7 hI _).1 (List.mem_filter.1 hm).1 with hp | ⟨r,hr⟩
 ·have hp':Ch.H8 p ⟨fr,to,k⟩:=⟨hp.f0,hp.f1,hp.t0,hp.t1,hp.ne,hp.there,hp.own,hp.goal,hp.other,.inr ⟨k2,k5,by
   rcases hp.promo with ⟨e,_⟩ | ⟨_,_,e⟩
   ·exact absurd e h
   ·exact e⟩⟩
  rw [Ch.a03 hI hp'];rw [← Ch.X9 hI hp hp' h zo];exact (Ch.a03 hI hp).1 hm
 ·exfalso;have:=congrArg Mv.promo hr.is;exact h this
theorem b2m {p:A3} (hI:Ch.B7 p) {m:Mv} (hm:m∈Ch.y8 p):m.promo=0∨2≤m.promo∧m.promo≤5:=by
 rcases (Ch.Z7 hI _).1 (List.mem_filter.1 hm).1 with hp | ⟨r,hr⟩
 ·rcases hp.promo with ⟨e,_⟩ | ⟨e,e',_⟩
  ·exact .inl e
  ·exact .inr ⟨e,e'⟩
 ·exact .inl (congrArg Mv.promo hr.is)
def b09 (p:A3) (m:Mv) (k:Int):Bool:=Ch.inCheck (Ch.made p ⟨m.fr,m.to,k⟩) && !Ch.inCheck (Ch.made p m)
theorem b0A {p:A3} {m:Mv} (h:m.promo≤5):Ch.a0v p m=true↔∀ k:Int,2≤k→k<m.promo→b09 p m k=false:=by
 unfold Ch.a0v b09;rw [List.all_eq_true];constructor
 ·intro hk k k2 k5;have:=hk k (by simp;omega)
  simp only [decide_eq_true k5,Bool.true_and,Bool.not_eq_true'] at this;exact this
 ·intro hk k hk';simp only [List.mem_cons,List.not_mem_nil,or_false] at hk';by_cases hl:k<m.promo
  ·have:=hk k zo hl;simp only [decide_eq_true hl,Bool.true_and,this,Bool.not_false]
  ·simp [hl]
theorem b43 (p:A3) (hI:Ch.B7 p) (hN:Nm p) (m:Mv) (hm:m∈Ch.y8 p) (w:World):Calls G.P 87 #[C4 p,G5 m] w (K4 (.bool (Ch.a0v p m)) w):=by
 have hkd:=b2m hI hm;have hiff:=b0A (p:=p) (m:=m) zo;refine zN Tryz.func87 ?_;refine zG ?_;generalize hW:(w.alloc (.cells (o9 p) 24)).alloc (.cells (K2 m) 36)=W0;have hP:∀ w',Cl W0 w'→w'.heap[w.heap.size]?=some (.cells (o9 p) 24 (0,0)):=fun w' h=>hP2 (hW▸h);have hM:∀ w',Cl W0 w'→w'.heap[(w.alloc (.cells (o9 p) 24)).heap.size]?=some (.cells (K2 m) 36 (0,0)):=fun w' h=>hM2 (hW▸h);have hE:∀ w',Cl W0 w'→Cl w w':=fun w' h=>hE2 (hW▸h);have z:=Cl.refl W0;refine zR ?_;refine A9 (σ:=Nat) [4,5] 6 (fun a=>[(5,.int .i64 ((a:Int)+2))]) (fun a w'=>(a:Int)≤4∧(∀ k:Int,2≤k→k<(a:Int)+2→k<m.promo→b09 p m k=false)∧Cl W0 w') (fun a=>10-a) zk 0
  ⟨zo,by intro k;omega,z⟩ ⟨rfl,trivial⟩ ?_
 rintro a j w1 ⟨ha,hno,hcl⟩;refine zR ?_;refine d7 _ (Z5 (hM _ hcl)) (zR ?_);apply E.b7<;>intro h
 ·have na:IntKind.i64.wrap ((a:Int)+2+1)=((a+1:Nat):Int)+2:=by rw [g7 zo zo];omega
  have hm':=b08 hI hm zo (k:=(a:Int)+2) zo zo;have hnx:b09 p m ((a:Int)+2)=false→∀ k:Int,2≤k→k<((a+1:Nat):Int)+2→k<m.promo→b09 p m k=false:=fun h0 k k2 k3 k4=>by
   by_cases e:k=(a:Int)+2
   ·rw [e];exact h0
   ·exact hno k k2 zo k4
  refine zR ?_;refine d7 _ (y7 (hP _ hcl)) (zR ?_);refine d7 _ (L6 (hM _ hcl)) (zR ?_);refine d7 _ (a0g (hM _ hcl)) (zR ?_);refine s9 (K2 ⟨m.fr,m.to,(a:Int)+2⟩) zk (zR ?_);refine m9 (a3x p hI hN ⟨m.fr,m.to,(a:Int)+2⟩ hm' _) fun w2 c2=>zR ?_;apply E.r9<;>intro h
  ·have b1:Ch.inCheck (Ch.made p ⟨m.fr,m.to,(a:Int)+2⟩)=true:=by
    cases hb:Ch.inCheck (Ch.made p ⟨m.fr,m.to,(a:Int)+2⟩)
    ·exfalso;apply h;rw [(a3z _ _).2 hb];rfl
    ·rfl
   clear h;refine zR ?_;refine d7 _ (y7 (hP _ (hcl.trans c2))) (zR ?_);refine d7 _ (P9 (hM _ (hcl.trans c2))) (zR ?_);refine m9 (a3x p hI hN m hm _) fun w3 c3=>zR ?_;apply E.b7<;>intro h
   ·have b2:Ch.inCheck (Ch.made p m)=false:=(a3z _ _).1 (a0p.1 (by rw [h];rfl))
    refine zR ?_;refine ⟨m8 ?_,hE _ (hcl.trans (c2.trans c3))⟩;symm;cases ht:Ch.a0v p m
    ·rfl
    ·have:=hiff.1 ht ((a:Int)+2) zo zo;unfold b09 at this;rw [b1,b2] at this;cases this
   ·have b2:Ch.inCheck (Ch.made p m)=true:=by
     cases hb:Ch.inCheck (Ch.made p m)
     ·exfalso;apply h;rw [(a3z _ _).2 hb];rfl
     ·rfl
    refine zR ?_;exact ⟨a+1,⟨m7 na,trivial⟩,⟨zo,hnx (by unfold b09;rw [b2];simp),hcl.trans (c2.trans c3)⟩,zo⟩
  ·have b1:Ch.inCheck (Ch.made p ⟨m.fr,m.to,(a:Int)+2⟩)=false:=(a3z _ _).1 (a0p.1 (by rw [h];rfl))
   refine zR ?_;exact ⟨a+1,⟨m7 na,trivial⟩,⟨zo,hnx (by unfold b09;rw [b1];simp),hcl.trans c2⟩,zo⟩
 ·refine zR ?_;exact ⟨m8 (hiff.2 fun k k2 k3=>hno k k2 zo k3).symm,hE _ hcl⟩
def Ng (p:A3) (k:Nat):Prop:=p.half≤1152921504606846976+(k:Int)∧p.full≤1152921504606846976+(k:Int)
theorem Ng.nm {p:A3} {k:Nat} (h:Ng p k) (hk:k≤1000000):Nm p:=⟨by have:=h.1;omega,by have:=h.2;omega⟩
theorem Ng.made {p:A3} {k:Nat} (h:Ng p k) (hI:Ch.B7 p) (m:Mv):Ng (Ch.made p m) (k+1):=by
 have:=a3v hI m;have:=a3w hI m;have:=h.1;have:=h.2;exact ⟨zo,zo⟩
theorem b8p (p:A3) (hI:Ch.B7 p) (hN:Ng p 0) (ms:List Mv) (hms:∀ m∈ms,MvR m) (hn:ms.length≤100000) {v:Value} (w:World) (hrow:a2a w v ms) :
  Calls G.P 37 #[C4 p,v] w (K4 (.bool (Ch.quiet p ms)) w):=by
 obtain ⟨al,cl,rfl,hal⟩:=hrow.form;refine zN Tryz.func37 ?_;refine zG ?_;generalize hW:w.alloc (.cells (o9 p) 24)=W0;have hP0:W0.heap[w.heap.size]?=some (.cells (o9 p) 24 (0,0)):=by rw [← hW];exact q8 _ _
 have hE:Cl w W0:=by rw [← hW];exact Cl.alloc _ _
 clear hW;refine zR ?_;refine A9 (σ:=Nat×A3) [4,5] 6 (fun a=>[(5,.int .i64 a.1)]) (fun a w'=>a.1≤ms.length∧Ch.quiet p ms=Ch.quiet a.2 (ms.drop a.1)∧Ch.B7 a.2∧Ng a.2 a.1∧w'.heap[w.heap.size]?=some (.cells (o9 a.2) 24 (0,0))∧Cl w w') (fun a=>ms.length-a.1) zk (0,p)
  ⟨by simp,rfl,hI,hN,hP0,hE⟩ ⟨rfl,trivial⟩ ?_
 rintro ⟨i,q⟩ j w1 ⟨hi,hqu,hIq,hNq,hP,hcl⟩;simp only at hi hqu hIq hNq hP ⊢;have hnm:=hNq.nm zo;have hpc:=hIq.pc;refine zR ?_;apply E.b7<;>intro h
 ·have hil:i<ms.length:=by omega
  clear h;obtain ⟨g,o,rfl⟩:=hal zo;have ni:IntKind.i64.wrap ((i:Int)+1)=((i+1:Nat):Int):=by rw [g7 zo zo];push_cast;omega
  rw [List.drop_eq_getElem_cons hil] at hqu;have hmr:=hms _ (List.getElem_mem hil);have hld:∀ w',Cl w w'→l8 G.P w' 36 ⟨g,E.W6 o ((i:Int)).toNat 3,none⟩ (G5 ms[i]):=fun w' h'=>(hrow.step h').ld i hil;have hqq:Ch.quiet q (ms[i]::ms.drop (i+1))=(decide ((Ch.y8 q).length≤218)&&(!Ch.G6 q ms[i]||(Ch.a0v q ms[i]&&Ch.quiet (Ch.made q ms[i]) (ms.drop (i+1))))):=rfl
  rw [hqq] at hqu;clear hqq;generalize ms[i]=m at *;refine zR ?_;refine d7 _ (y7 hP) (zR ?_);refine o8 (a2s q hIq hnm.nums _) ?_;rintro r w2 ⟨v2,l2,rfl,hlp,hl2,c2⟩;refine ⟨_,rfl,?_⟩;obtain ⟨al2,cl2,rfl,hal2⟩:=hl2.form;have hlen:=hlp.length_eq;clear hal2 hl2;refine zR ?_;apply E.b7<;>intro h
  ·refine zR ?_;exact ⟨m8 (by rw [hqu,decide_eq_false zo];rfl),hcl.trans c2⟩
  ·rw [decide_eq_true (show (Ch.y8 q).length≤218 by omega),Bool.true_and] at hqu
   clear h;refine zR ?_;refine zK 7 ?_;refine zR ?_;refine g9 _ (fun w hw=>y7 ((c2.trans hw).blk hP)) (zR ?_);refine zC ?_;refine zR ?_;refine g9 (G5 m) (fun w hw=>hld w (hcl.trans (c2.trans hw))) (zR ?_);refine C7 (.bool (Ch.G6 q m)) (fun _ _ h=>h.trans) (fun w _=>c1y q hIq hnm.nums m hmr w) (zR ?_);intro w3 c3;have c23:=c2.trans c3;generalize hL:Ch.G6 q m=lb at *;refine zR ?_;cases lb
   ·refine zR ?_;exact ⟨m8 (by rw [hqu];rfl),hcl.trans c23⟩
   ·have hmem:m∈Ch.y8 q:=of_decide_eq_true hL;have hmo:=a0x hIq hmem;refine zR ?_;refine zK 7 ?_;refine zR ?_;refine g9 _ (fun w hw=>y7 ((c23.trans hw).blk hP)) (zR ?_);refine zC ?_;refine zR ?_;refine g9 (G5 m) (fun w hw=>hld w (hcl.trans (c23.trans hw))) (zR ?_);refine C7 (.bool (Ch.a0v q m)) (fun _ _ h=>h.trans) (fun w _=>b43 q hIq hnm m hmem w) (zR ?_);intro w4 c4;have c24:=c23.trans c4;generalize hT:Ch.a0v q m=tb at *;refine zR ?_;cases tb
    ·refine zR ?_;exact ⟨m8 (by rw [hqu];rfl),hcl.trans c24⟩
    ·refine zR ?_;refine zK 6 ?_;refine zR ?_;refine g9 _ (fun w hw=>y7 ((c24.trans hw).blk hP)) (zR ?_);refine zC ?_;refine zR ?_;refine g9 (G5 m) (fun w hw=>hld w (hcl.trans (c24.trans hw))) (zR ?_);refine C7 (C4 (Ch.made q m)) (fun _ _ h=>h.trans) (fun w _=>a5l q m hIq.pc hmo hIq.turn hIq.c0 hIq.c1 hIq.h0 hnm.nums.1 (by have:=hIq.f1;omega) hnm.nums.2 w) (zR ?_)
     intro w5 c5;have hP5:=(c24.trans c5).blk hP;refine zR ?_;refine J6 hP5 (X0 (Ch.made q m)) rfl a13 (B6 _) (one_pos _) (by rw [r7];omega) (fun w6 u6=>?_)
     have hQ:w6.heap[w.heap.size]?=some (.cells (o9 (Ch.made q m)) 24 (0,0)):=by
      rw [u6.at_,C5 _ _ (by rw [B6,r7])];rfl
     have c6:Cl w w6:=u6.cl (hcl.trans (c24.trans c5)) (Nat.le_refl _);clear u6;refine zR ?_;exact ⟨(i+1,Ch.made q m),⟨m7 ni,trivial⟩,⟨by simp;omega,by rw [hqu];rfl,Ch.B7.made hIq hmem,hNq.made hIq m,hQ,c6⟩,by simp;omega⟩
 ·have hil:i=ms.length:=by omega
  subst hil;rw [List.drop_length] at hqu;refine zR ?_;refine d7 _ (y7 hP) (zR ?_);refine o8 (a2s q hIq hnm.nums _) ?_;rintro r w2 ⟨v2,l2,rfl,hlp,hl2,c2⟩;refine ⟨_,rfl,?_⟩;obtain ⟨al2,cl2,rfl,hal2⟩:=hl2.form;have hlen:=hlp.length_eq;refine zR ?_;refine ⟨m8 ?_,hcl.trans c2⟩;rw [hqu];show _=decide ((Ch.y8 q).length≤218);exact decide_eq_decide.2 zo
def B9 (p:A3) (d:Int):Bool:=decide (0≤Ch.H2 (Ch.l9 p.ep+d) (Ch.g8 p.ep-Ch.up p.turn))&&decide (Ch.sq p (Ch.H2 (Ch.l9 p.ep+d) (Ch.g8 p.ep-Ch.up p.turn))=6+6*p.turn)
theorem a50 (p:A3):Ch.a5t p=(B9 p (-1)||B9 p 1):=by
 unfold Ch.a5t B9;simp only [List.any_cons,List.any_nil,Bool.or_false]
theorem b2n (p:A3) (hp:Fen p) (ht:p.turn=0∨p.turn=1) (he:p.ep≤63) (w:World):Calls G.P 95 #[C4 p] w (K4 (s8 (Ch.b7w p)) w):=by
 have hpc:=hp.pc;refine zN Tryz.func95 ?_;refine zG ?_;generalize hW:w.alloc (.cells (o9 p) 24)=W0;have hP:∀ w',Cl W0 w'→w'.heap[w.heap.size]?=some (.cells (o9 p) 24 (0,0)):=fun w' h=>(hW▸h:Cl (w.alloc (.cells (o9 p) 24)) w').blk (q8 _ _);have hE:∀ w',Cl W0 w'→Cl w w':=fun w' h=>(Cl.alloc _ _).trans (hW▸h);have hsz:w.heap.size≤w.heap.size:=Nat.le_refl _;have z:=Cl.refl W0;refine zR ?_;refine d7 _ (a3R (hP _ z)) (zR ?_);apply E.b7<;>intro h
 ·refine zR ?_;refine d7 _ (y7 (hP _ z)) (zR ?_);refine m9 (a0Z p hp _) fun w1 c1=>zR ?_;exact ⟨D9 (by unfold Ch.b7w;rw [if_pos (.inl h)]),hE _ c1⟩
 ·have e0:0≤p.ep:=by omega
  clear h;have hf:0≤Ch.l9 p.ep∧Ch.l9 p.ep≤7∧0≤Ch.g8 p.ep∧Ch.g8 p.ep≤7:=by unfold Ch.l9 Ch.g8;omega
  have hu:Ch.up p.turn=1∨Ch.up p.turn=-1:=by unfold Ch.up;omega
  have e1:IntKind.i64.wrap (Ch.g8 p.ep-Ch.up p.turn)=Ch.g8 p.ep-Ch.up p.turn:=g7 zo zo;have hX:Ch.b7w p=if B9 p (-1)||B9 p 1 then Ch.fenT p else Ch.fenT { p with ep:=-1 }:=by
   unfold Ch.b7w;rw [a50];by_cases hb:(B9 p (-1)||B9 p 1)=true
   ·rw [if_pos (.inr hb),if_pos hb]
   ·rw [if_neg (by rintro (h | h);· omega
                   exact hb h),if_neg hb]
  refine zR ?_;refine zK 8 ?_;refine zR ?_;refine g9 _ (fun w hw=>a3R (hP _ hw)) (zR ?_);refine A5 _ (fun w _=>V5 _ w e0 zo) (zR ?_);refine g9 _ (fun w hw=>E5 (hP _ hw)) (zR ?_);refine A5 _ (fun w _=>b4j _ w zo zo) (zR ?_);simp only [e1];intro w1 c1;generalize hR:Ch.g8 p.ep-Ch.up p.turn=R at *;refine zR ?_;refine A9 (σ:=Nat) [2,4,5] 6 (fun a=>[(4,.int .i64 (2*(a:Int)-1))]) (fun a w'=>a≤2∧(1≤a→B9 p (-1)=false)∧(2≤a→B9 p 1=false)∧Cl W0 w') (fun a=>3-a) zk 0
   ⟨zo,zo,zo,c1⟩ ⟨rfl,trivial⟩ ?_
  rintro a j w2 ⟨ha,hb1,hb2,hcl⟩;refine zR ?_;apply E.b7<;>intro h
  ·have ha2:a<2:=by omega
   clear h;have na:IntKind.i64.wrap (2*(a:Int)-1+2)=2*((a+1:Nat):Int)-1:=by rw [g7 zo zo];omega
   have e2:IntKind.i64.wrap (Ch.l9 p.ep+(2*(a:Int)-1))=Ch.l9 p.ep+(2*(a:Int)-1):=g7 zo zo;have hbd:B9 p (2*(a:Int)-1)=(decide (0≤Ch.H2 (Ch.l9 p.ep+(2*(a:Int)-1)) R)&&decide (Ch.sq p (Ch.H2 (Ch.l9 p.ep+(2*(a:Int)-1)) R)=6+6*p.turn)):=by unfold B9;rw [hR]
   have hnx:B9 p (2*(a:Int)-1)=false→(1≤a+1→B9 p (-1)=false)∧(2≤a+1→B9 p 1=false):=fun h=>by
    have:a=0∨a=1:=by omega
    rcases this with rfl | rfl
    ·exact ⟨fun _=>by simpa using h,zo⟩
    ·exact ⟨fun _=>hb1 zo,fun _=>by simpa using h⟩
   have hyes:B9 p (2*(a:Int)-1)=true→(B9 p (-1)||B9 p 1)=true:=fun h=>by
    have:a=0∨a=1:=by omega
    rcases this with rfl | rfl
    ·rw [show B9 p (-1)=true by simpa using h];rfl
    ·rw [show B9 p 1=true by simpa using h];simp
   have hat:Ch.H2 (Ch.l9 p.ep+(2*(a:Int)-1)) R≤63:=by unfold Ch.H2;split<;>omega
   refine zR ?_;refine d7 _ (a3R (hP _ hcl)) (zR ?_);refine d9 (a1G _ _ e0) (zR ?_);refine d9 (a5k _ _ _ (by rw [e2];omega) (by rw [e2];omega) zo zo) ?_
   rw [e2];generalize Ch.H2 (Ch.l9 p.ep+(2*(a:Int)-1)) R=A at *;refine zR ?_;refine zK 12 ?_;refine zR ?_;apply E.b7<;>intro h
   ·have hA:=h;clear h;refine zR ?_;refine zC ?_;refine zR ?_;refine g9 _ (fun w hw=>L9 (hP _ (hcl.trans hw)) _ hA zo) (zR ?_);refine g9 _ (fun w hw=>E5 (hP _ (hcl.trans hw))) (zR ?_);refine A5 _ (fun w _=>a8a 6 _ w zo zo zo zo) (zR ?_);intro w3 c3;refine zR ?_;apply E.b7<;>intro h
    ·refine zR ?_;refine d7 _ (y7 (hP _ (hcl.trans c3))) (zR ?_);refine m9 (a0Z p hp _) fun w4 c4=>zR ?_;refine ⟨D9 ?_,hE _ (hcl.trans (c3.trans c4))⟩;rw [hX,if_pos (hyes (by rw [hbd,decide_eq_true hA,decide_eq_true h];rfl))]
    ·refine zR ?_;have hn:=hnx (by rw [hbd,decide_eq_false h];simp)
     exact ⟨a+1,⟨m7 na,trivial⟩,⟨zo,hn.1,hn.2,hcl.trans c3⟩,zo⟩
   ·refine zR ?_;intro w3 c3;refine zR ?_;have hn:=hnx (by rw [hbd,decide_eq_false h];simp)
    exact ⟨a+1,⟨m7 na,trivial⟩,⟨zo,hn.1,hn.2,hcl.trans c3⟩,zo⟩
  ·have ha2:a=2:=by omega
   subst ha2;refine zR ?_;have hb:w2.heap[w.heap.size]?=some (.cells (o9 p) 24 (0,0)):=hP _ hcl;refine J6 hb [.int .i64 (-1)] rfl N8 rfl (by simp [Value.oneCell']) (by rw [r7];decide) (fun w3 u3=>?_)
   have hQ:w3.heap[w.heap.size]?=some (.cells (o9 { p with ep:=-1 }) 24 (0,0)):=by
    rw [u3.at_,show a4M (o9 p) (bif Nat.beq 66 0 then 0 else 0+66) [.int .i64 (-1)]=o9 { p with ep:=-1 } from D2 p { p with ep:=-1 } 66 (-1) zo rfl rfl]
   have c3:Cl w w3:=u3.cl (hE _ hcl) (Nat.le_refl _);clear u3;refine zR ?_;refine d7 _ (y7 hQ) (zR ?_);refine m9 (a0Z { p with ep:=-1 } ⟨hpc,hp.c0,hp.c1,hp.h0,hp.h1,hp.f0,hp.f1⟩ _) fun w4 c4=>zR ?_;refine ⟨D9 ?_,c3.trans c4⟩;rw [hX,hb1 zo,hb2 zo];rfl
theorem c2Q:∃ z,(G.P.info? 36).bind (·.zero)=some z∧z.cells.size=3:=a0H zk
def a4I (p:A3) (m x:Mv):Bool:=decide (x.to=m.to) && !decide (x.fr=m.fr)&&decide (Ch.sq p x.fr=Ch.sq p m.fr)
def riv (p:A3) (m:Mv) (l:List Mv):List Mv:=l.filter (a4I p m)
def a6s (p:A3) (m:Mv) (l:List Mv):List Mv:=(riv p m l).filter fun x=>decide (x.fr%8=m.fr%8)
def a6t (p:A3) (m:Mv) (l:List Mv):List Mv:=(riv p m l).filter fun x=>decide (x.fr/8=m.fr/8)
theorem b6u (p:A3) (m:Mv) (l:List Mv) (x:Mv):(riv p m (l++[x])).length=(riv p m l).length+(if a4I p m x then 1 else 0) ∧
  (a6s p m (l++[x])).length=(a6s p m l).length+(if a4I p m x&&decide (x.fr%8=m.fr%8) then 1 else 0) ∧
  (a6t p m (l++[x])).length=(a6t p m l).length+(if a4I p m x&&decide (x.fr/8=m.fr/8) then 1 else 0):=by
 unfold a6s a6t riv;cases h:a4I p m x<;>simp [List.filter_append,h];constructor<;>split<;>simp_all
theorem b8q (p:A3) (m:Mv) (l:List Mv):(riv p m l).length≤l.length∧(a6s p m l).length≤l.length∧(a6t p m l).length≤l.length:=by
 have h:=List.length_filter_le (a4I p m) l;exact ⟨h,Nat.le_trans (List.length_filter_le _ _) h,Nat.le_trans (List.length_filter_le _ _) h⟩
theorem b39 {α:Type} (f:α→Bool) (l:List α):l.any f = !decide ((l.filter f).length=0):=by
 induction l with
 | nil=>rfl
 | cons x r ih =>
  rw [List.any_cons,List.filter_cons];cases h:f x
  ·simpa using ih
  ·simp
theorem b6v {p:A3} {m:Mv} {l:List Mv} (h:l.Perm (Ch.y8 p)):Ch.apart p m=if (riv p m l).length=0 then [] else if (a6s p m l).length=0 then Ch.A7 m.fr else if (a6t p m l).length=0 then Ch.F7 m.fr else Ch.Y7 m.fr:=by
 have hr:(riv p m l).Perm (Ch.Q9 p m):=h.filter _;have e1:=hr.length_eq;have e2:(a6s p m l).length=((Ch.Q9 p m).filter fun x=>decide (x.fr%8=m.fr%8)).length:=(hr.filter _).length_eq;have e3:(a6t p m l).length=((Ch.Q9 p m).filter fun x=>decide (x.fr/8=m.fr/8)).length:=(hr.filter _).length_eq;unfold Ch.apart;rw [a0o,b39,b39,e1,e2,e3];simp
theorem b2o (p:A3) (hI:Ch.B7 p) (hN:Nm p) (m:Mv) (hm:m∈Ch.y8 p) (w:World):Calls G.P 60 #[C4 p,G5 m] w (K4 (s8 (Ch.apart p m)) w):=by
 have hmo:=a0x hI hm;obtain ⟨⟨a0,a1⟩,⟨b0,b1⟩,d0,d1⟩:=hmo;refine zN Tryz.func60 ?_;refine zG ?_;generalize hW:(w.alloc (.cells (o9 p) 24)).alloc (.cells (K2 m) 36)=W0;have hP:∀ w',Cl W0 w'→w'.heap[w.heap.size]?=some (.cells (o9 p) 24 (0,0)):=fun w' h=>hP2 (hW▸h);have hM:∀ w',Cl W0 w'→w'.heap[(w.alloc (.cells (o9 p) 24)).heap.size]?=some (.cells (K2 m) 36 (0,0)):=fun w' h=>hM2 (hW▸h);have hE:∀ w',Cl W0 w'→Cl w w':=fun w' h=>hE2 (hW▸h);have z:=Cl.refl W0;obtain ⟨zv,hz,hz3⟩:=c2Q;refine zR ?_;refine d7 _ (y7 (hP _ z)) (zR ?_);refine o8 (a2s p hI hN.nums _) ?_;rintro r w1 ⟨v,l,rfl,hlp,hl,c1⟩;refine ⟨_,rfl,?_⟩;obtain ⟨al,cl,rfl,hal⟩:=hl.form;have hlen:=hlp.length_eq;have hll:=b4z p;have hap:=b6v (m:=m) hlp;refine zR ?_;refine A9 (σ:=Nat) [5,6,7,9,13] 14 (fun a=>[(5,.int .i64 (riv p m (l.take a)).length),(6,.int .i64 (a6s p m (l.take a)).length),(7,.int .i64 (a6t p m (l.take a)).length),(13,.int .i64 a)]) (fun a w'=>a≤l.length∧Cl w1 w') (fun a=>l.length-a) zk 0
  ⟨zo,Cl.refl _⟩ ⟨rfl,rfl,rfl,rfl,trivial⟩ ?_
 rintro i j w2 ⟨hi,hcl⟩;have hr3:=b8q p m (l.take i);rw [List.length_take,Nat.min_eq_left hi] at hr3;refine zR ?_;apply E.b7<;>intro h
 ·have hil:i<l.length:=by omega
  clear h;obtain ⟨g,rfl⟩:=hal zo;have ni:IntKind.i64.wrap ((i:Int)+1)=((i+1:Nat):Int):=by rw [g7 zo zo];push_cast;omega
  have hx:l[i]∈Ch.y8 p:=hlp.subset (List.getElem_mem hil);have hsn:=b6u p m (l.take i) l[i];rw [← List.take_succ_eq_append_getElem hil] at hsn;have hld:=a2n (t:=36) (hl.step hcl) B0 i hil rfl (o:=E.W6 0 ((i:Int)).toNat 3) (by simp [E.z6]) (v:=G5 l[i]) rfl
  generalize hX:l[i]=x at *;obtain ⟨⟨x0,x1⟩,⟨y0,y1⟩,g0,g1⟩:=a0x hI hx;have t1:IntKind.i64.wrap (((riv p m (l.take i)).length:Int)+1)=(((riv p m (l.take i)).length+1:Nat):Int):=by rw [g7 zo zo];omega
  have t2:IntKind.i64.wrap (((a6s p m (l.take i)).length:Int)+1)=(((a6s p m (l.take i)).length+1:Nat):Int):=by rw [g7 zo zo];omega
  have t3:IntKind.i64.wrap (((a6t p m (l.take i)).length:Int)+1)=(((a6t p m (l.take i)).length+1:Nat):Int):=by rw [g7 zo zo];omega
  generalize (riv p m (l.take i)).length=n1 at *;generalize (a6s p m (l.take i)).length=n2 at *;generalize (a6t p m (l.take i)).length=n3 at *;generalize hk1:(riv p m (l.take (i+1))).length=k1 at hsn;generalize hk2:(a6s p m (l.take (i+1))).length=k2 at hsn;generalize hk3:(a6t p m (l.take (i+1))).length=k3 at hsn;have hno:a4I p m x=false→∃ s:Nat,(Value.int .i64 n1 = .int .i64 (riv p m (l.take (i+1))).length∧Value.int .i64 n2 = .int .i64 (a6s p m (l.take (i+1))).length∧Value.int .i64 n3 = .int .i64 (a6t p m (l.take (i+1))).length):=fun h=>by
   rw [h] at hsn;simp only [Bool.false_and,Bool.false_eq_true,if_false,Nat.add_zero] at hsn;exact ⟨0,by rw [hk1,hsn.1],by rw [hk2,hsn.2.1],by rw [hk3,hsn.2.2]⟩
  have hR:a4I p m x=(decide (x.to=m.to) && !decide (x.fr=m.fr)&&decide (Ch.sq p x.fr=Ch.sq p m.fr)):=rfl;have f1:x.fr.tmod 8=x.fr%8:=a19 x0;have f2:m.fr.tmod 8=m.fr%8:=a19 a0;have f3:IntKind.i64.wrap (x.fr.tdiv 8)=x.fr/8:=by rw [a4D x0,g7 zo zo]
  have f4:IntKind.i64.wrap (m.fr.tdiv 8)=m.fr/8:=by rw [a4D a0,g7 zo zo]
  refine zR ?_;refine zC ?_;refine zR ?_;refine d7 (G5 x) hld (zR ?_);refine t7 zv hz (zR ?_);refine J6 (q8 _ _) (E9 x) rfl b1M rfl (I3 _) (by rw [hz3];omega) (fun w3 u3=>?_)
  have hQ:w3.heap[w2.heap.size]?=some (.cells (K2 x) 36 (0,0)):=by
   rw [u3.at_,C5 _ _ (by rw [hz3];rfl)];rfl
  have c23:Cl w2 w3:=u3.cl (Cl.alloc _ _) (Nat.le_refl _);clear u3;have c3:=c1.trans (hcl.trans c23);refine zR ?_;refine zK 25 ?_;refine zR ?_;refine g9 _ (fun w hw=>a0g (hw.blk hQ)) (zR ?_);refine g9 _ (fun w hw=>a0g (hM _ (c3.trans hw))) (zR ?_);apply E.r9<;>intro h
  ·refine zR ?_;intro w4 c4;refine zR ?_;obtain ⟨_,q1,q2,q3⟩:=hno (by rw [hR,decide_eq_false h];rfl)
   exact ⟨i+1,⟨q1,q2,q3,m7 ni,trivial⟩,⟨zo,hcl.trans (c23.trans c4)⟩,zo⟩
  have h1:=h;clear h;refine zR ?_;refine g9 _ (fun w hw=>L6 (hw.blk hQ)) (zR ?_);refine g9 _ (fun w hw=>L6 (hM _ (c3.trans hw))) (zR ?_);apply E.b7<;>intro h
  ·refine zR ?_;intro w4 c4;refine zR ?_;obtain ⟨_,q1,q2,q3⟩:=hno (by rw [hR,decide_eq_true h];simp)
   exact ⟨i+1,⟨q1,q2,q3,m7 ni,trivial⟩,⟨zo,hcl.trans (c23.trans c4)⟩,zo⟩
  have h2:=h;clear h;refine zR ?_;refine g9 _ (fun w hw=>L6 (hw.blk hQ)) (zR ?_);refine zC ?_;refine zR ?_;refine g9 _ (fun w hw=>L9 (hP _ (c3.trans hw)) _ x0 zo) (zR ?_);refine g9 _ (fun w hw=>L6 (hM _ (c3.trans hw))) (zR ?_);refine zC ?_;refine zR ?_;refine g9 _ (fun w hw=>L9 (hP _ (c3.trans hw)) _ a0 zo) (zR ?_);intro w4 c4;have c4':=c3.trans c4;have hQ4:=c4.blk hQ;have cc:=hcl.trans (c23.trans c4);refine zR ?_;apply E.r9<;>intro h
  ·refine zR ?_;obtain ⟨_,q1,q2,q3⟩:=hno (by rw [hR,decide_eq_false h];simp)
   exact ⟨i+1,⟨q1,q2,q3,m7 ni,trivial⟩,⟨zo,cc⟩,zo⟩
  have hyes:a4I p m x=true:=by rw [hR,decide_eq_true h1,decide_eq_false h2,decide_eq_true h];rfl
  clear h;rw [hyes] at hsn;simp only [Bool.true_and,decide_eq_true_eq,if_true] at hsn;obtain ⟨s1,s2,s3⟩:=hsn;refine zR ?_;refine d7 _ (L6 hQ4) (zR ?_);refine d7 _ (L6 (hM _ c4')) (zR ?_);apply E.b7<;>intro h
  ·rw [f1,f2] at h;rw [if_pos h] at s2;clear h;refine zR ?_;refine d7 _ (L6 hQ4) (zR ?_);refine d7 _ (L6 (hM _ c4')) (zR ?_);apply E.b7<;>intro h
   ·rw [f3,f4] at h;rw [if_pos h] at s3;refine zR ?_;exact ⟨i+1,⟨m7 (by rw [t1,hk1,s1]),m7 (by rw [t2,hk2,s2]),m7 (by rw [t3,hk3,s3]),m7 ni,trivial⟩,⟨zo,cc⟩,zo⟩
   ·rw [f3,f4] at h;rw [if_neg h] at s3;refine zR ?_;exact ⟨i+1,⟨m7 (by rw [t1,hk1,s1]),m7 (by rw [t2,hk2,s2]),m7 (by rw [hk3,s3];rfl),m7 ni,trivial⟩,⟨zo,cc⟩,zo⟩
  ·rw [f1,f2] at h;rw [if_neg h] at s2;clear h;refine zR ?_;refine d7 _ (L6 hQ4) (zR ?_);refine d7 _ (L6 (hM _ c4')) (zR ?_);apply E.b7<;>intro h
   ·rw [f3,f4] at h;rw [if_pos h] at s3;refine zR ?_;exact ⟨i+1,⟨m7 (by rw [t1,hk1,s1]),m7 (by rw [hk2,s2];rfl),m7 (by rw [t3,hk3,s3]),m7 ni,trivial⟩,⟨zo,cc⟩,zo⟩
   ·rw [f3,f4] at h;rw [if_neg h] at s3;refine zR ?_;exact ⟨i+1,⟨m7 (by rw [t1,hk1,s1]),m7 (by rw [hk2,s2];rfl),m7 (by rw [hk3,s3];rfl),m7 ni,trivial⟩,⟨zo,cc⟩,zo⟩
 ·have hil:i=l.length:=by omega
  subst hil;rw [List.take_length] at *;have c2:=c1.trans hcl;refine zR ?_;apply E.b7<;>intro h
  ·refine zR ?_;exact ⟨D9 (by rw [hap,if_pos zo];rfl),hE _ c2⟩
  ·rw [if_neg zo] at hap;clear h;refine zR ?_;apply E.b7<;>intro h
   ·refine zR ?_;refine d7 _ (L6 (hM _ c2)) (zR ?_);refine m9 (a5u _ a0 a1 _) fun w3 c3=>zR ?_;exact ⟨D9 (by rw [hap,if_pos zo]),hE _ (c2.trans c3)⟩
   ·rw [if_neg zo] at hap;clear h;refine zR ?_;apply E.b7<;>intro h
    ·refine zR ?_;refine d7 _ (L6 (hM _ c2)) (zR ?_);refine m9 (a83 _ a0 a1 _) fun w3 c3=>zR ?_;exact ⟨D9 (by rw [hap,if_pos zo]),hE _ (c2.trans c3)⟩
    ·rw [if_neg zo] at hap;refine zR ?_;refine d7 _ (L6 (hM _ c2)) (zR ?_);refine m9 (T7 _ zo zo _) fun w3 c3=>zR ?_;exact ⟨D9 (by rw [hap]),hE _ (c2.trans c3)⟩
end
end Go.Proofs.YtpclhlhcegcflaaGreatDoor
