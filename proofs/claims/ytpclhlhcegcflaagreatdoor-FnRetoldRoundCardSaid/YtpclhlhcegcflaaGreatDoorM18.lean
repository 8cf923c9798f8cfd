/- One part of the proof: Pk63 Pk50 Pk64 Pk65 Pk66. -/
import Derived.Test.YtpclhlhcegcflaaGreatDoorM1
import Derived.Test.YtpclhlhcegcflaaGreatDoorM3
import Derived.Test.YtpclhlhcegcflaaGreatDoorM16
import Derived.Test.YtpclhlhcegcflaaGreatDoorM17
namespace Go.Proofs.YtpclhlhcegcflaaGreatDoor
set_option maxRecDepth 100000
set_option linter.unusedSimpArgs false
set_option linter.unusedVariables false
section
open Go Go.RowKit
open E
open Ch Bb
def c3u (n:Nat):A3→List (Mv×Tx)→Prop
 | p,[]=>(y8 p).length≤218
 | p,x::r=>(y8 p).length≤218∧x.1∈y8 p∧a0v p x.1=true∧c5j p x.1 n x.2∧c3u n (made p x.1) r
theorem c3u.head {n:Nat} {p:A3}:∀ {l:List (Mv×Tx)},c3u n p l→(y8 p).length≤218
 | [],h=>h
 | _::_,h=>h.1
def b1E (k:Nat):A3→List Mv→List Tx
 | _,[]=>[]
 | p,m::r=>ntText k p m::b1E k (made p m) r
set_option maxHeartbeats 4000000 in
theorem c38 {p:A3} (hI:B7 p) (hh:p.half≤1000000) (hf:p.full≤1000000) {n k:Nat} (hn:n<3) (hk:k<3) (l:List (Mv×Tx)) (hl:c3u n p l) (hlen:l.length≤80) (usual:Bool) (hu:usual=true→p=a22) {v:Value} {b0:Nat} (w:World) (hT:C1 w) (hS:Spc w) (hrow:Row 9 1 a4E b0 w v (l.map Prod.snd)) :
  Calls G.P 20 #[s8 (if usual then [] else fenT p),v,.int .i64 n,.int .i64 k] w (fun r w'=>∃ u,r = .returned (.tuple #[u,.bool true])∧Row 9 1 a4E w.heap.size w' u (b1E k p (l.map Prod.fst))∧Cl w w'):=by
 obtain ⟨al,cl,rfl,hal⟩:=hrow.form;rw [List.length_map] at hal ⊢;have hle:=a4a hI;have hq0:=hl.head;have hbg:=fun w hT hS=>b9f hI zo zo zo usual hu w hT hS;obtain ⟨S,hst0⟩:∃ S,S=b1E k p (l.map Prod.fst):=⟨_,rfl⟩;rw [← hst0];generalize (if usual then ([]:Tx) else fenT p)=T0 at *
 refine c5W (fc:=51) (t:=15) (args:=[s8 T0,.slice al l.length cl,.int .i64 n,.int .i64 k]) (c6t 8 9 42 4) Tryz.func20 rfl (by simp [Tryz.ntmps20]) zk zk (by simp [Tryz.ntmps20]) rfl rfl rfl rfl rfl rfl zk (fun a w v h=>c3t rfl a w v h) (zR ?_)
 refine t7 (.slice none 0 0) zk ?_;have ca:=Cl.alloc w (.cells (Value.slice none 0 0).cells 42);have na:(w.alloc (.cells (Value.slice none 0 0).cells 42)).heap[w.heap.size]?=some (.cells #[.slice none 0 0] 42 (0,0)):=d8 w _;have sa:=y9 w (.cells (Value.slice none 0 0).cells 42);generalize w.alloc (.cells (Value.slice none 0 0).cells 42)=w1 at *;refine zR ?_;refine t7 (.bool false) zk ?_;have cb:=ca.trans (Cl.alloc w1 (.cells (Value.bool false).cells 4));have na:=(Cl.alloc w1 (.cells (Value.bool false).cells 4)).blk na;have nb:(w1.alloc (.cells (Value.bool false).cells 4)).heap[w1.heap.size]?=some (.cells #[.bool false] 4 (0,0)):=d8 w1 _;have sb:=y9 w1 (.cells (Value.bool false).cells 4);generalize w1.alloc (.cells (Value.bool false).cells 4)=w2 at *;obtain ⟨Ra,hRa⟩:∃ R,R=w.heap.size:=⟨_,rfl⟩;obtain ⟨Rb,hRb⟩:∃ R,R=w1.heap.size:=⟨_,rfl⟩;have hab:Ra<Rb:=by omega
 rw [← hRa] at na;rw [← hRb] at nb;rw [← hRa,← hRb];clear ca sa sb;refine zR ?_;refine ⟨rfl,#[.pointer (some ⟨Ra,0,none⟩),.pointer (some ⟨Rb,0,none⟩)],by rw [Array.toList_map];rfl,c3P _ _,?_⟩
 refine zR ?_;refine o8 (hbg w2 (hT.cl cb) (hS.cl cb)) ?_;rintro e w4 ⟨G0,rfl,⟨⟨g,z,hG,hzp,hzM,hzP,hmo⟩,c4,sG⟩⟩;refine ⟨_,rfl,?_⟩;have c04:=cb.trans c4;have s3:=cb.size;have na:=c4.blk na;have nb:=c4.blk nb;have hst1:([]:List Tx)++b1E k z.p ((l.drop 0).map Prod.fst)=S:=by rw [hst0,hzp];rfl
 have hIz:Ch.B7 z.p:=by rw [hzp];exact hI
 have hNz:Ng z.p 0:=by rw [hzp];exact ⟨zo,zo⟩
 have hlz:c3u n z.p (l.drop 0):=by rw [hzp];exact hl
 clear hst0 hmo hbg hzp hle hq0 hl hh hf hu hI hS;refine zR ?_;refine I1 true (F8 rfl) (zR ?_);refine A9 (σ:=Nat×List O4×O4×Gm×List Tx×Value) [13,14,25] 26 (fun s=>[(25,.int .i64 s.1)])
  (fun s w'=>s.1≤l.length∧K3 w' G0 s.2.2.2.1 s.2.1 s.2.2.1∧s.2.1.length=s.1∧Ch.B7 s.2.2.1.p∧Ng s.2.2.1.p s.1∧c3u n s.2.2.1.p (l.drop s.1)∧(∀ n∈s.2.1++[s.2.2.1],Ch.B7 n.p)∧w.heap.size≤s.2.2.1.M∧w.heap.size≤s.2.2.1.P
  ∧s.2.2.2.2.1++b1E k s.2.2.1.p ((l.drop s.1).map Prod.fst)=S∧s.2.2.2.2.1.length=s.1∧Row 9 1 a4E w.heap.size w' s.2.2.2.2.2 s.2.2.2.2.1
  ∧w'.heap[Ra]?=some (.cells #[s.2.2.2.2.2] 42 (0,0))∧w'.heap[Rb]?=some (.cells #[.bool false] 4 (0,0))∧Cl w w') (fun s=>l.length-s.1) zk
  (0,[],z,g,[],.slice none 0 0) ⟨Nat.zero_le _,hG,rfl,hIz,hNz,hlz,fun n hn=>by rw [List.mem_singleton.1 hn];exact hIz,Nat.le_trans s3 hzM,Nat.le_trans s3 hzP,hst1,rfl,Row.nil _ _,na,nb,c04⟩ ⟨rfl,trivial⟩ ?_
 clear hG hIz hNz hlz hzM hzP hst1 na nb c04 c4;rintro ⟨i,L,z,g,O,vr⟩ j w5 ⟨hi,hG,hLl,hIz,hNz,hlz,hJ,hzM,hzP,hst,hOl,hR,na,nb,c5⟩;simp only at hi hG hLl hIz hNz hlz hJ hzM hzP hst hOl hR na nb c5 ⊢;obtain ⟨av,kv,rfl,_⟩:=hR.form;have ni:=C2 (i:=i) zo;refine zR ?_;apply E.b7<;>intro h
 ·have hil:i<l.length:=by omega
  clear h;obtain ⟨gm,rfl⟩:=hal zo;rw [List.drop_eq_getElem_cons hil] at hst hlz;have hld:∀ w',Cl w w'→l8 G.P w' 9 ⟨gm,E.W6 0 ((i:Int)).toNat 1,none⟩ (s8 (l[i]).2):=fun w' c=>by
   obtain ⟨cur,h1,h2⟩:=(hrow.step c).get B5 i 0 (by rw [List.length_map];exact hil) zd
   refine W1 h1 ?_ rfl;rw [E.z6,Int.toNat_natCast,Nat.zero_add];rw [List.getElem_map] at h2;exact h2
  generalize l[i]=mt at *;obtain ⟨m,T⟩:=mt;obtain ⟨hq0,hml,hsan,hsay,hlz2⟩:=hlz;have hst:O++ntText k z.p m::b1E k (made z.p m) ((l.drop (i+1)).map Prod.fst)=S:=hst;simp only at hld hml hsan hsay hlz2;have hN:=(hNz.nm zo).nums;have hle:=a4a hIz;have hle:(z8 z.p).length≤218:=by omega
  have hgp:=b6R hG.hb;rw [hG.pos] at hgp;have hI2:=Ch.B7.made hIz hml;have hle2:(z8 (made z.p m)).length≤218:=by have:=a4a hI2;have:=hlz2.head;omega
  have hN2:=hNz.made hIz m;refine zR ?_;refine zC ?_;refine zR ?_;refine d6 _ (hld _ c5) (zR ?_);refine d9 hgp (zR ?_);refine d9 (a7e n hn _) (zR ?_);refine o8 (c5V (hT.cl c5) hG hIz hN hle hml hsan hsay hI2 hle2 hJ zo) ?_;rintro e w9 ⟨rfl,g',z',y,hsame,⟨ad,n1,k1,hkc⟩,hG9,y1,y2,y3,y4,y5,hend,f9⟩;refine ⟨_,rfl,?_⟩;have hnd:=hG.node;have hps:=hG.chn.last.2.2.hd;have hgb:=hG.hb;have s5:=c5.size;have hkS:∀ k∈[z.M,z.P,G0],w.heap.size≤k:=fun k hk=>by
   simp only [List.mem_cons,List.not_mem_nil,or_false] at hk;omega
  have c9:Cl w w9:=f9.toCl hkS c5;have off9:∀ {k:Nat} {cs:Array Value} {t:Nat} {fz:Nat×Nat},w5.heap[k]?=some (.cells cs t fz)→t≠141→t≠173→t≠131→w9.heap[k]?=some (.cells cs t fz):=fun {k cs t fz} h h1 h2 h3=>f9.blk h fun hm=>by
   simp only [List.mem_cons,List.not_mem_nil,or_false] at hm;rcases hm with e | e | e
   ·exact J4 h hnd h1 e
   ·exact J4 h hps h2 e
   ·exact J4 h hgb h3 e
  have na9:=off9 na zd zd zd;have nb9:=off9 nb zd zd zd;have hR9:Row 9 1 a4E w.heap.size w9 (.slice av O.length kv) O:=hR.frT f9 fun k hk=>by
   simp only [List.mem_cons,List.not_mem_nil,or_false] at hk;rcases hk with e | e | e
   ·rw [e];exact ⟨_,_,_,hnd,zd⟩
   ·rw [e];exact ⟨_,_,_,hps,zd⟩
   ·rw [e];exact ⟨_,_,_,hgb,zd⟩
  have hPz:=hG9.chn.mem z' (by simp)
  rw [hsame.p,hsame.P,hkc] at hPz;have hNode:=hG9.node;have hcur:=hG9.cur;obtain ⟨f,hd,hfn,hec⟩:=c5l (P:=z.P) (b:=z'.b) (M:=y.M) (ad:=ad) (n0:=n1) (c0:=k1) hIz hN hle (d:=y.d) (by rw [y2];exact hml) (by rw [y2];exact y3) hk
  rw [y2] at hec;have hJ9:∀ n∈(L++[z'])++[y],Ch.B7 n.p:=fun n hn=>by
   rcases List.mem_append.1 hn with hn | hn
   ·rcases List.mem_append.1 hn with hn | hn
    ·exact hJ n (List.mem_append_left _ hn)
    ·rw [List.mem_singleton.1 hn,hsame.p];exact hIz
   ·rw [List.mem_singleton.1 hn,y4];exact hI2
  have hst2:(O++[ntText k z.p m])++b1E k y.p ((l.drop (i+1)).map Prod.fst)=S:=by rw [y4,← hst];simp
  have hnt:=fun w=>a7e k hk w;unfold ntV at hnt;have hdc:=c3s ((Cl.drew (Cl.refl w9)).blk hG9.hb);have hec:=hec w9.drew (hT.cl (c9.trans (Cl.drew (Cl.refl w9)))) (hPz.step (Cl.drew (Cl.refl w9))) ((Cl.drew (Cl.refl w9)).blk hNode);generalize ntText k z.p m=TV at *;refine zR ?_;refine I1 true (F8 rfl) (zR ?_);have fin:∀ w10 w11 w12 v',Cl w9 w10→a8b w.heap.size w10 (.slice av O.length kv) w11 v'→Row 9 1 a4E w.heap.size w11 v' (O++[TV])→Upd w11 Ra (.cells #[v'] 42 (0,0)) w12 →
    i+1≤l.length∧K3 w12 G0 g' (L++[z']) y∧(L++[z']).length=i+1∧Ch.B7 y.p∧Ng y.p (i+1)∧c3u n y.p (l.drop (i+1))∧(∀ n∈(L++[z'])++[y],Ch.B7 n.p)∧w.heap.size≤y.M∧w.heap.size≤y.P
   ∧(O++[TV])++b1E k y.p ((l.drop (i+1)).map Prod.fst)=S∧(O++[TV]).length=i+1∧Row 9 1 a4E w.heap.size w12 v' (O++[TV])
   ∧w12.heap[Ra]?=some (.cells #[v'] 42 (0,0))∧w12.heap[Rb]?=some (.cells #[.bool false] 4 (0,0))∧Cl w w12:=by
   intro w10 w11 w12 v' c10 hg hr' u12;have c010:=c9.trans c10;have kg:KT 9 w10 w11:=KT.grow (hR9.step c10) hg;have na11:=kg _ _ _ zd (c10.blk na9);have ku:KT 42 w11 w12:=KT.upd u12 na11;refine ⟨hil,ku.game (kg.game (hG9.step c10) zd zd zd zd zd) zd zd zd zd zd,by rw [List.length_append,hLl];rfl,by rw [y4];exact hI2,by rw [y4];exact hN2,by rw [y4];exact hlz2,hJ9,
    by omega,zo,hst2,by rw [List.length_append,hOl];rfl,ku.row hr' zd,u12.at_,ku _ _ _ zd (kg _ _ _ zd (c10.blk nb9)),u12.cl (hg.toCl rfl c010) zo⟩
  have cD:Cl w9 w9.drew:=Cl.drew (Cl.refl _);have hOn:O.length+1≤1000:=by omega
  rw [hcur] at hdc;clear hst hst2 hJ9 hend hPz hNode hkS f9 hnd hps hgb off9 hsay hlz2 hld;refine I8.mk2 [1,3,4] (.cons 0 (.cons 2 (.cons 5 (.cons 6 (.cons 7 (.cons 8 (.cons 9 (.cons 10 (.cons 11 (.cons 12 .done .nil) .nil) .nil) .nil) .nil) .nil) .nil) (.cons 6 (.cons 5 (.cons 7 (.cons 8 (.cons 9 (.cons 10 (.cons 11 (.cons 12 .done .nil) .nil) .nil) .nil) .nil) .nil) (.cons 7 (.cons 5 (.cons 8 (.cons 9 (.cons 10 (.cons 11 (.cons 12 .done .nil) .nil) .nil) .nil) .nil) (.cons 8 (.cons 5 (.cons 9 (.cons 10 (.cons 11 (.cons 12 .done .nil) .nil) .nil) .nil) .nil) .nil)) .nil)) .nil)) .nil) (.cons 2 (.cons 0 (.cons 5 (.cons 6 (.cons 7 (.cons 8 (.cons 9 (.cons 10 (.cons 11 (.cons 12 .done .nil) .nil) .nil) .nil) .nil) .nil) .nil) (.cons 6 (.cons 5 (.cons 7 (.cons 8 (.cons 9 (.cons 10 (.cons 11 (.cons 12 .done .nil) .nil) .nil) .nil) .nil) .nil) (.cons 7 (.cons 5 (.cons 8 (.cons 9 (.cons 10 (.cons 11 (.cons 12 .done .nil) .nil) .nil) .nil) .nil) (.cons 8 (.cons 5 (.cons 9 (.cons 10 (.cons 11 (.cons 12 .done .nil) .nil) .nil) .nil) .nil) .nil)) .nil)) .nil)) (.cons 5 (.cons 0 (.cons 6 (.cons 7 (.cons 8 (.cons 9 (.cons 10 (.cons 11 (.cons 12 .done .nil) .nil) .nil) .nil) .nil) .nil) .nil) (.cons 6 (.cons 0 (.cons 7 (.cons 8 (.cons 9 (.cons 10 (.cons 11 (.cons 12 .done .nil) .nil) .nil) .nil) .nil) .nil) (.cons 7 (.cons 0 (.cons 8 (.cons 9 (.cons 10 (.cons 11 (.cons 12 .done .nil) .nil) .nil) .nil) .nil) (.cons 8 (.cons 0 (.cons 9 (.cons 10 (.cons 11 (.cons 12 .done .nil) .nil) .nil) .nil) (.cons 9 (.cons 0 (.cons 10 (.cons 11 (.cons 12 .done .nil) .nil) .nil) (.cons 10 (.cons 0 (.cons 11 (.cons 12 .done .nil) .nil) .nil) .nil)) .nil)) .nil)) .nil)) .nil)) (.cons 6 (.cons 0 (.cons 5 (.cons 7 (.cons 8 (.cons 9 (.cons 10 (.cons 11 (.cons 12 .done .nil) .nil) .nil) .nil) .nil) .nil) (.cons 7 (.cons 5 (.cons 8 (.cons 9 (.cons 10 (.cons 11 (.cons 12 .done .nil) .nil) .nil) .nil) .nil) (.cons 8 (.cons 5 (.cons 9 (.cons 10 (.cons 11 (.cons 12 .done .nil) .nil) .nil) .nil) .nil) .nil)) .nil)) (.cons 5 (.cons 0 (.cons 7 (.cons 8 (.cons 9 (.cons 10 (.cons 11 (.cons 12 .done .nil) .nil) .nil) .nil) .nil) .nil) (.cons 7 (.cons 0 (.cons 8 (.cons 9 (.cons 10 (.cons 11 (.cons 12 .done .nil) .nil) .nil) .nil) .nil) (.cons 8 (.cons 0 (.cons 9 (.cons 10 (.cons 11 (.cons 12 .done .nil) .nil) .nil) .nil) (.cons 9 (.cons 0 (.cons 10 (.cons 11 (.cons 12 .done .nil) .nil) .nil) (.cons 10 (.cons 0 (.cons 11 (.cons 12 .done .nil) .nil) .nil) .nil)) .nil)) .nil)) .nil)) (.cons 7 (.cons 0 (.cons 5 (.cons 8 (.cons 9 (.cons 10 (.cons 11 (.cons 12 .done .nil) .nil) .nil) .nil) .nil) (.cons 8 (.cons 5 (.cons 9 (.cons 10 (.cons 11 (.cons 12 .done .nil) .nil) .nil) .nil) .nil) .nil)) (.cons 5 (.cons 0 (.cons 8 (.cons 9 (.cons 10 (.cons 11 (.cons 12 .done .nil) .nil) .nil) .nil) .nil) (.cons 8 (.cons 0 (.cons 9 (.cons 10 (.cons 11 (.cons 12 .done .nil) .nil) .nil) .nil) (.cons 9 (.cons 0 (.cons 10 (.cons 11 (.cons 12 .done .nil) .nil) .nil) (.cons 10 (.cons 0 (.cons 11 (.cons 12 .done .nil) .nil) .nil) .nil)) .nil)) .nil)) (.cons 8 (.cons 0 (.cons 5 (.cons 9 (.cons 10 (.cons 11 (.cons 12 .done .nil) .nil) .nil) .nil) .nil) (.cons 5 (.cons 0 (.cons 9 (.cons 10 (.cons 11 (.cons 12 .done .nil) .nil) .nil) .nil) (.cons 9 (.cons 0 (.cons 10 (.cons 11 (.cons 12 .done .nil) .nil) .nil) (.cons 10 (.cons 0 (.cons 11 (.cons 12 .done .nil) .nil) .nil) .nil)) .nil)) .nil)) .nil))) .nil))) .nil))) .nil)) zk (zR ?_);iterate 60 (all_goals (first
   | exact trivial
   | refine And.intro ?_ ?_
   | refine d6 _ (W1 (v:=.slice av O.length kv) (cD.blk na9) rfl rfl) ?_
   | refine d9 (hnt _) ?_
   | refine d9 hdc ?_
   | refine c5E ?_
   | refine c5m rfl hd ?_
   | (refine c4w #[.agg #[],.pointer (some ⟨z.P,0,none⟩),.pointer (some ⟨y.M,0,none⟩)] rfl hd hfn (by rw [Array.toList_map];rfl) ?_
      refine hec.mono ?_;rintro r w10 ⟨rfl,c10⟩;have c10:=cD.trans c10;refine ⟨_,rfl,?_⟩)
   | refine E6 elStr [s8 TV] (by rw [Array.toList_map];rfl) (by intro v hv;rw [List.mem_singleton.1 hv];rfl) rfl zd zd ?_
   | refine d6 _ (W1 (v:=.slice av O.length kv) (c10.blk na9) rfl rfl) ?_
   | refine d6 _ (W1 (v:=.slice av O.length kv) ((c10.trans (Cl.alloc _ _)).blk na9) rfl rfl) ?_
   | (refine P3 elStr TV rfl (hR9.step c10) rfl rfl rfl B5 (by intro x u hu;rw [List.mem_singleton.1 hu];rfl) zo zd (c9.trans c10).size ?_
      intro v' w11 hr' hg;have na11:=(KT.grow (hR9.step c10) hg) _ _ _ zd (c10.blk na9);obtain ⟨a9,k9,rfl,_⟩:=hr'.form)
   | refine J6 na11 [.slice a9 (O++[TV]).length k9] rfl zk rfl (by intro v hv;simp at hv;subst hv;rfl) (Nat.le_of_ble_eq_true rfl) fun w12 u12=>?_
   | exact ⟨(i+1,L++[z'],y,g',O++[TV],.slice a9 (O++[TV]).length k9),⟨m7 ni,trivial⟩,fin _ _ _ _ c10 hg hr' u12,by show l.length-(i+1)<l.length-i;omega⟩
   | refine zR ?_))
 ·have e:i=l.length:=by omega
  have hO:O=S:=by rw [← hst,e,List.drop_length];show O=O++[];rw [List.append_nil]
  refine zR ?_;refine d6 _ (W1 (v:=.slice av O.length kv) na rfl rfl) (zR ?_);refine zT na [.slice av O.length kv] fun w6 u6=>?_;refine zR ?_;refine zT ((Tn.upd u6).blk nb zo) [.bool true] fun w7 u7=>?_;refine zR ?_;have ka:w7.heap[Ra]?=some (.cells #[.slice av O.length kv] 42 (0,0)):=(Tn.upd u7).blk u6.at_ zo;have kb:w7.heap[Rb]?=some (.cells #[.bool true] 4 (0,0)):=u7.at_;have hR7:=(hR.updT u6 na zd).updT u7 ((Tn.upd u6).blk nb zo) zd;have c7:=u7.cl (u6.cl c5 zo) zo;refine ⟨.inr rfl,_,⟨.slice av O.length kv,.bool true,rfl,⟨_,rfl,W1 ka rfl rfl⟩,_,rfl,W1 kb rfl rfl⟩,.slice av O.length kv,?_,?_,c7⟩
  ·rfl
  ·rw [← hO,hRa];exact hR7
theorem b10 {p:A3} {ms:List Mv} (h:asked p ms=true):B7 p∧p.half≤1000000∧p.full≤1000000∧ms.length≤80∧quiet p ms=true:=by
 unfold asked at h;simp only [Bool.and_eq_true,decide_eq_true_eq] at h;obtain ⟨⟨⟨⟨h1,h2⟩,h3⟩,h4⟩,h5⟩:=h;exact ⟨(a5p p).1 h1,h2,h3,h4,h5⟩
theorem b7o (p:A3) (m:Mv):(lanT p m).length≤11:=by
 unfold lanT;split
 ·exact b0C p m
 ·have h1:=a0a m.fr;have h2:=a0a m.to;have h3:=L7 (kindOf (sq p m.fr));have h4:=a30 p m;have h5:=a2w m;have h6:=a3y p m;simp only [List.length_append];omega
theorem a5E:∀ (ms:List Mv) (l:List A3) (p:A3) (mo:Int×Tx),(story l p mo ms).length≤ms.length:=by
 intro ms
 induction ms with
 | nil=>intro l p mo;exact Nat.le_refl _
 | cons m r ih =>
  intro l p mo;rw [a2z];split
  ·have:=ih (l++[made p m]) (made p m) (a0k (l++[made p m]) (made p m) mo);simp only [List.length_cons];omega
  ·simp
def b5w (w:World) (v:Value) (ns:List Int):Prop:=∃ a c,v = .slice a ns.length c∧(0<ns.length→∃ g o cs t fz,a=some ⟨g,o,none⟩∧w.heap[g]?=some (.cells cs t fz)∧∀ i (h:i<ns.length),cs[o+i]?=some (.int .i64 ns[i]))
section intIn
variable {w w':World} {v:Value} {ns:List Int}
theorem b5w.form (h:b5w w v ns):∃ a c,v = .slice a ns.length c∧(0<ns.length→∃ g o,a=some ⟨g,o,none⟩):=by
 obtain ⟨a,c,e,h⟩:=h;exact ⟨a,c,e,fun h0=>by obtain ⟨g,o,_,_,_,e,_⟩:=h h0;exact ⟨g,o,e⟩⟩
theorem b5w.step (h:b5w w v ns) (hc:Cl w w'):b5w w' v ns:=by
 obtain ⟨a,c,e,h⟩:=h;exact ⟨a,c,e,fun h0=>by obtain ⟨g,o,cs,t,fz,e,hb,h2⟩:=h h0;exact ⟨g,o,cs,t,fz,e,hc.blk hb,h2⟩⟩
theorem b5w.ld {g o n c:Nat} (h:b5w w (.slice (some ⟨g,o,none⟩) n c) ns) (i:Nat) (hi:i<ns.length):l8 G.P w 3 ⟨g,E.W6 o ((i:Int)).toNat 1,none⟩ (.int .i64 ns[i]):=by
 obtain ⟨a,c',e,h⟩:=h;obtain ⟨g',o',cs,t,fz,e2,hb,h2⟩:=h zo;injection e with e1 _ _;rw [e2] at e1;injection e1 with e1;injection e1 with e1 e3 _;subst e1 e3;exact W1 hb (by rw [E.z6,Int.toNat_natCast,Nat.mul_one];exact h2 i hi) rfl
end intIn
def c5n (n:Int):List Value:=[.int .i64 n]
theorem c3Q (n:Int):(c5n n).length=1:=rfl
theorem c5o (n:Int):∀ u∈c5n n,u.oneCell'=true:=fun u hu=>by rw [List.mem_singleton.1 hu];rfl
def nOf (x:Int):Nat:=(IntKind.u64.wrap x%3).toNat
def nAt (ns:List Int) (i:Nat):Nat:=match ns[i%ns.length]? with
 | some x=>nOf x
 | none=>0
theorem c39 (x:Int):nOf x<3:=by unfold nOf;omega
theorem c5X (ns:List Int) (i:Nat):nAt ns i<3:=by
 unfold nAt;split
 ·exact c39 _
 ·decide
theorem c5Y (x:Int):IntKind.i64.wrap ((IntKind.u64.wrap x).tmod 3)=(nOf x:Int):=by
 have h:0≤IntKind.u64.wrap x:=by
  show 0≤x%_;exact Int.emod_nonneg _ zd
 unfold nOf;rw [Int.toNat_of_nonneg (Int.emod_nonneg _ zd),Int.tmod_eq_emod_of_nonneg h,g7 zo zo]
def stTxt (n:Nat) (s:Ch.a0A):Tx:=if n=0 then s.san else if n=1 then s.lan else s.uci
def a8W (ns:List Int):Nat→List Ch.a0A→List Tx
 | _,[]=>[]
 | i,s::r=>stTxt (nAt ns i) s::a8W ns (i+1) r
def b8H (ns:List Int):Nat→List Ch.a0A→List Int
 | _,[]=>[]
 | i,s::r=>(nAt ns i:Int)::b8H ns (i+1) r
theorem c5p (l:List Tx) (hn:l.length≤100000) {b0 b1:Nat} {u v:Value} (w:World) (hu:Row 9 1 a4E b0 w u l) (hv:Row 9 1 a4E b1 w v l):Calls G.P 21 #[u,v] w (K4 (.bool true) w):=by
 obtain ⟨au,cu,rfl,hau⟩:=hu.form;obtain ⟨av,cv,rfl,hav⟩:=hv.form;refine zN Tryz.func21 ?_;refine zG ?_;refine zR ?_;apply E.r9<;>intro h
 ·omega
 refine zR ?_;refine A9 (σ:=Nat) [4,5,13] 14 (fun a=>[(13,.int .i64 a)]) (fun a w'=>a≤l.length∧Cl w w') (fun a=>l.length-a) zk 0
  ⟨zo,Cl.refl _⟩ ⟨rfl,trivial⟩ ?_
 rintro i j w2 ⟨hi,hcl⟩;refine zR ?_;apply E.b7<;>intro h
 ·have hil:i<l.length:=by omega
  obtain ⟨gu,rfl⟩:=hau zo;obtain ⟨gv,rfl⟩:=hav zo;have ni:=C2 (i:=i) zo;have l1:∀ w',Cl w w'→l8 G.P w' 9 ⟨gu,E.W6 0 ((i:Int)).toNat 1,none⟩ (s8 l[i]):=fun w' c=>by
   obtain ⟨cur,h1,h2⟩:=(hu.step c).get B5 i 0 hil zd;exact W1 h1 (by rw [E.z6,Int.toNat_natCast,Nat.zero_add];exact h2) rfl
  have l2:∀ w',Cl w w'→l8 G.P w' 9 ⟨gv,E.W6 0 ((i:Int)).toNat 1,none⟩ (s8 l[i]):=fun w' c=>by
   obtain ⟨cur,h1,h2⟩:=(hv.step c).get B5 i 0 hil zd;exact W1 h1 (by rw [E.z6,Int.toNat_natCast,Nat.zero_add];exact h2) rfl
  generalize l[i]=s at *;refine zR ?_;refine zK 9 ?_;refine zR ?_;refine zC ?_;refine zR ?_;refine g9 (s8 s) (fun w hw=>l1 w (hcl.trans hw)) (zR ?_);refine zC ?_;refine zR ?_;refine g9 (s8 s) (fun w hw=>l2 w (hcl.trans hw)) (zR ?_);intro w3 c3;refine zR ?_;apply E.r9<;>intro h
  ·exact absurd rfl h
  refine zR ?_;exact ⟨i+1,⟨m7 ni,trivial⟩,⟨zo,hcl.trans c3⟩,zo⟩
 ·refine zR ?_;exact ⟨rfl,hcl⟩
set_option maxHeartbeats 2000000 in
theorem c3z (S:List Ch.a0A) (hS:S.length≤1000) (ns:List Int) (hns:ns.length≤1000) {b0:Nat} {u v:Value} (w:World) (hu:Row 39 81 stL b0 w u S) (hv:b5w w v ns) :
  Calls G.P 19 #[u,v] w (fun r w'=>∃ a b,r = .returned (.tuple #[a,b])∧Row 9 1 a4E w.heap.size w' a (a8W ns 0 S)∧Row 3 1 c5n w.heap.size w' b (b8H ns 0 S)∧Cl w w'):=by
 obtain ⟨au,cu,rfl,hau⟩:=hu.form;obtain ⟨av,cv,rfl,hav⟩:=hv.form;obtain ⟨zs,hzs,hz81⟩:=zSt;obtain ⟨A,hA⟩:∃ A,A=a8W ns 0 S:=⟨_,rfl⟩;obtain ⟨B,hB⟩:∃ A,A=b8H ns 0 S:=⟨_,rfl⟩;rw [← hA,← hB];refine zN Tryz.func19 ?_;refine zR ?_;refine A9 (σ:=Nat×List Tx×List Int×Value×Value) [6,7,8,9,10,13] 14 (fun s=>[(6,s.2.2.2.1),(7,s.2.2.2.2),(13,.int .i64 s.1)])
  (fun s w'=>s.1≤S.length∧s.2.1++a8W ns s.1 (S.drop s.1)=A∧s.2.2.1++b8H ns s.1 (S.drop s.1)=B∧s.2.1.length=s.1∧s.2.2.1.length=s.1∧Row 9 1 a4E w.heap.size w' s.2.2.2.1 s.2.1∧Row 3 1 c5n w.heap.size w' s.2.2.2.2 s.2.2.1∧Cl w w') (fun a=>S.length-a.1) zk (0,[],[],.slice none 0 0,.slice none 0 0)
  ⟨zo,by rw [hA];rfl,by rw [hB];rfl,rfl,rfl,Row.nil _ _,Row.nil _ _,Cl.refl _⟩ ⟨rfl,rfl,rfl,trivial⟩ ?_
 rintro ⟨i,O,N,va,vb⟩ j w2 ⟨hi,hO,hN,hOl,hNl,hra,hrb,c2⟩;simp only at hi hO hN hOl hNl hra hrb c2 ⊢;obtain ⟨aa,ka,rfl,_⟩:=hra.form;obtain ⟨ab,kb,rfl,_⟩:=hrb.form;have ni:=C2 (i:=i) zo;refine zR ?_;apply E.b7<;>intro h
 ·have hil:i<S.length:=by omega
  clear h;obtain ⟨gu,rfl⟩:=hau zo;rw [List.drop_eq_getElem_cons hil] at hO hN;have l1:∀ w',Cl w w'→l8 G.P w' 39 ⟨gu,E.W6 0 ((i:Int)).toNat 81,none⟩ (stV S[i]):=fun w' h'=>a2n (hu.step h') U8 i hil rfl (by simp [E.z6]) rfl
  generalize S[i]=s at *;have hO:O++stTxt (nAt ns i) s::a8W ns (i+1) (S.drop (i+1))=A:=hO;have hN:N++(nAt ns i:Int)::b8H ns (i+1) (S.drop (i+1))=B:=hN;have hnl:=c5X ns i;refine zR ?_;refine zC ?_;refine zR ?_;refine d6 _ (l1 _ c2) (zR ?_);refine t7 zs hzs ?_;have d1:=Cl.alloc w2 (.cells zs.cells 39);have n1:=d8 w2 (.cells zs.cells 39);generalize w2.alloc (.cells zs.cells 39)=w3 at *;refine zR ?_;refine J6 n1 (stL s) rfl c1T (U8 _) (a4g _) (by rw [hz81];decide) (fun w4 u4=>?_)
  have n4:w4.heap[w2.heap.size]?=some (.cells (stL s).toArray 39 (0,0)):=by rw [u4.at_,C5 _ _ (by rw [hz81,U8])]
  have d4:Cl w2 w4:=u4.cl d1 (Nat.le_refl _);clear n1 u4 d1;have c4:=c2.trans d4;have hra:=hra.step d4;have hrb:=hrb.step d4;refine zG ?_;refine Nx.mk (zG ?_);refine A4 (σ:=Unit) [10,18,19,20,21,22,23,24,25,26,27,28,29,30] 31 (fun _=>[(10,.int .i64 (nAt ns i:Nat))]) (fun _ w'=>w'=w4) zk ?_ (fun _ j w5 h5=>?_)
  ·refine zR ?_;apply E.b7<;>intro h
   ·have h0:0<ns.length:=by omega
    obtain ⟨gv,ov,rfl⟩:=hav h0;have him:i%ns.length<ns.length:=Nat.mod_lt _ h0;have hld:=(hv.step c4).ld (i%ns.length) him;have hnA:nAt ns i=nOf ns[i%ns.length]:=by unfold nAt;rw [List.getElem?_eq_getElem him]
    rw [hnA];clear h;refine zR ?_;refine E.o7 zo (zR ?_);have htm:((i:Int)).tmod (ns.length:Int)=((i%ns.length:Nat):Int):=rfl;rw [htm];refine zC ?_;refine zR ?_;refine d6 _ hld (zR ?_);exact ⟨(),⟨m7 (c5Y _),trivial⟩,rfl⟩
   ·have h0:ns=[]:=List.eq_nil_of_length_eq_zero zo;refine zR ?_;exact ⟨(),⟨by subst h0;rfl,trivial⟩,rfl⟩
  subst h5;generalize nAt ns i=n at *;refine zR ?_;refine d6 (s8 s.san) (W1 n4 rfl rfl) (zR ?_);refine d6 (s8 s.lan) (W1 n4 rfl rfl) (zR ?_);refine d6 (s8 s.uci) (W1 n4 rfl rfl) (zR ?_);refine E6 elStr [s8 s.san,s8 s.lan,s8 s.uci] (by rw [Array.toList_map];rfl) (by intro v hv;simp at hv;rcases hv with rfl | rfl | rfl<;>rfl) rfl zd zd ?_
  have d5:=Cl.alloc w5 (.cells (([s8 s.san,s8 s.lan,s8 s.uci]:List Value).flatMap fun v=>v.cells.toList).toArray 9);have n5:(w5.alloc (.cells (([s8 s.san,s8 s.lan,s8 s.uci]:List Value).flatMap fun v=>v.cells.toList).toArray 9)).heap[w5.heap.size]?=some (.cells (([s8 s.san,s8 s.lan,s8 s.uci]:List Value).flatMap fun v=>v.cells.toList).toArray 9 (0,0)):=d8 _ _;have hcs:(([s8 s.san,s8 s.lan,s8 s.uci]:List Value).flatMap fun v=>v.cells.toList).toArray[n]?=some (s8 (stTxt n s)):=by
   rcases (by omega:n=0∨n=1∨n=2) with rfl | rfl | rfl<;>rfl
  generalize (([s8 s.san,s8 s.lan,s8 s.uci]:List Value).flatMap fun v=>v.cells.toList).toArray=cs5 at *;generalize w5.alloc (.cells cs5 9)=w6 at *;have c6:=c4.trans d5;have hra:=hra.step d5;have hrb:=hrb.step d5;generalize stTxt n s=T at *;refine zR ?_;refine zC ?_;refine zR ?_;refine d6 (s8 T) (W1 n5 (by rw [E.z6,Int.toNat_natCast,Nat.zero_add,Nat.mul_one];exact hcs) rfl) (zR ?_)
  refine E6 elStr [s8 T] (by rw [Array.toList_map];rfl) (by intro v hv;rw [List.mem_singleton.1 hv];rfl) rfl zd zd (zR ?_)
  refine P3 elStr T rfl hra rfl rfl rfl B5 a8S zo zd c6.size ?_;intro va' w7 hra' hg;have c7:=hg.toCl rfl c6;have kg:=KT.grow hra hg;have hrb:=kg.row hrb zd;obtain ⟨a9,k9,rfl,_⟩:=hra'.form;refine zR ?_;refine E6 a2I [.int .i64 (n:Nat)] (by rw [Array.toList_map];rfl) (by intro v hv;rw [List.mem_singleton.1 hv];rfl) rfl zd zd (zR ?_)
  refine P3 a2I (n:Int) rfl hrb rfl rfl rfl c3Q c5o zo zd c7.size ?_;intro vb' w8 hrb' hg';have c8:=hg'.toCl rfl c7;have hra':=(KT.grow hrb hg').row hra' zd;obtain ⟨b9,q9,rfl,_⟩:=hrb'.form;refine zR ?_;exact ⟨(i+1,O++[T],N++[(n:Int)],_,_),⟨rfl,rfl,m7 ni,trivial⟩,⟨hil,by rw [← hO];simp,by rw [← hN];simp,by rw [List.length_append,hOl];rfl,by rw [List.length_append,hNl];rfl,hra',hrb',c8⟩,by show S.length-(i+1)<S.length-i;omega⟩
 ·have e:i=S.length:=by omega
  have hOA:O=A:=by rw [← hO,e,List.drop_length];show O=O++[];rw [List.append_nil]
  have hNB:N=B:=by rw [← hN,e,List.drop_length];show N=N++[];rw [List.append_nil]
  refine zR ?_;exact ⟨_,_,rfl,by rw [← hOA];exact hra,by rw [← hNB];exact hrb,c2⟩
theorem c4f (p:A3) (m:Mv):a1K (a04 p m)=true:=by
 unfold a04;split
 ·exact b1F
 ·split<;>(rw [b5z,if_pos zd];exact b1F)
theorem c4E {p:A3} (hI:B7 p) {m:Mv} (hm:m∈y8 p) {n:Nat} (hn:n<3):c5j p m n (ntText n p m):=by
 have hs:=c4f p m;have l1:=b0C p m;have l2:=b7o p m;have own:∃ q,zzP (sanT p m)=some q∧b7x p m q:=⟨_,c4q hI hm hs,.own⟩;rcases (by omega:n=0∨n=1∨n=2) with rfl | rfl | rfl
 ·exact .inl ⟨zd,by show (sanT p m).length≤1000;omega,own⟩
 ·refine .inl ⟨zd,by show (lanT p m).length≤1000;omega,?_⟩
  show ∃ q,zzP (lanT p m)=some q∧b7x p m q;obtain ⟨f0,f1,t0,t1,_⟩:=L4 hI hm;rcases Ch.c2m hI hm with ⟨k,hk,h⟩ | ⟨h,hp,hk⟩ | ⟨h,hp,k1,k5,h0⟩
  ·have e:lanT p m=sanT p m:=by unfold lanT;rw [if_pos zo]
   rw [e];exact own
  ·have e:lanT p m=a5d (b1Z p m (A7 m.fr) (F7 m.fr))++a04 p m:=by
    unfold lanT a5d b1Z;rw [if_neg zo,hk,sq2 f0 f1,sq2 t0 t1,show A1 6=[] from rfl];simp
   rw [e];exact ⟨_,c4p hI hm (.inr rfl) (.inr rfl) hs,.pawn h hk⟩
  ·have e:lanT p m=a5d (a6v p m (A7 m.fr) (F7 m.fr))++a04 p m:=by
    unfold lanT a5d a6v;rw [if_neg zo,sq2 f0 f1,sq2 t0 t1,show Z9 m=[] by unfold Z9;rw [if_pos h0]]
    simp
   rw [e];refine ⟨_,c3G hI hm k1 k5 (.inr rfl) (.inr rfl) hs,.piece h zo _ _ (.inr rfl) (.inr rfl) ?_⟩;unfold apart;rw [sq2 f0 f1];(repeat' split)<;>simp
 ·exact .inr ⟨rfl,rfl⟩
theorem c3o (n:Nat) (p:A3) (m:Mv) (mo:Int×Tx):stTxt n (stepOf p m mo)=ntText n p m:=rfl
theorem c4F {n:Nat} {p:A3} {m:Mv} {mo:Int×Tx} {R:List Ch.a0A} (h1:(y8 p).length≤218) (h2:m∈y8 p) (h3:a0v p m=true) (h4:c5j p m n (ntText n p m)) (h5:c3u n (made p m) (R.map fun s=>(s.mv,stTxt n s))):c3u n p ((stepOf p m mo::R).map fun s=>(s.mv,stTxt n s)):=by
 rw [List.map_cons,c3o];generalize R.map (fun s:Ch.a0A=>(s.mv,stTxt n s))=X at *;generalize ntText n p m=Y at *;have e:(stepOf p m mo).mv=m:=rfl;rw [e];exact ⟨h1,h2,h3,h4,h5⟩
theorem c4g {n:Nat} (hn:n<3):∀ (ms:List Mv) (l:List A3) (p:A3) (mo:Int×Tx),B7 p→quiet p ms=true→c3u n p ((story l p mo ms).map fun s=>(s.mv,stTxt n s)):=by
 intro ms
 induction ms with
 | nil=>intro l p mo _ hq;exact a4n hq
 | cons m r ih =>
  intro l p mo hI hq;have e:=a2z l p mo m r;generalize story l p mo (m::r)=X at e ⊢;by_cases hl:isLegal p m=true
  ·rw [if_pos hl] at e;have hm:m∈y8 p:=of_decide_eq_true hl;obtain ⟨h1,h2⟩:=b2R hq hl;rw [e];exact c4F (a4n hq) hm h1 (c4E hI hm hn) (ih _ _ _ (hI.made hm) h2)
  ·rw [if_neg hl] at e;rw [e];exact a4n hq
theorem c3A (k:Nat):∀ (ms:List Mv) (l:List A3) (p:A3) (mo:Int×Tx),b1E k p ((story l p mo ms).map fun s=>s.mv)=(story l p mo ms).map (stTxt k):=by
 intro ms
 induction ms with
 | nil=>intro l p mo;rfl
 | cons m r ih =>
  intro l p mo;rw [a2z];by_cases hl:isLegal p m=true
  ·rw [if_pos hl];have h3:=ih (l++[made p m]) (made p m) (a0k (l++[made p m]) (made p m) mo);rw [List.map_cons,List.map_cons,c3o,← h3];rfl
  ·rw [if_neg hl];rfl
theorem c4x (x:Int) (i:Nat):nAt [x] i=nOf x:=by unfold nAt;simp [Nat.mod_one]
theorem b3m (x:Int):∀ (i:Nat) (S:List Ch.a0A),a8W [x] i S=S.map (stTxt (nOf x))
 | _,[]=>rfl
 | i,s::r=>by
  show stTxt (nAt [x] i) s::a8W [x] (i+1) r=_;rw [c4x,b3m x (i+1) r];rfl
theorem c30 {w:World} {g:Nat} {x:Int} {t:Nat} {fz:Nat×Nat} (h:w.heap[g]?=some (.cells #[.int .i64 x] t fz)):b5w w (.slice (some ⟨g,0,none⟩) 1 1) [x] :=
 ⟨_,_,rfl,fun _=>⟨g,0,_,_,_,rfl,h,fun i hi=>by
  have e:i=0:=by simpa using hi
  subst e;rfl⟩⟩
theorem b12 {p:A3} (hI:B7 p) (hh:p.half≤1000000) (hf:p.full≤1000000) {ms:List Mv} (hq:quiet p ms=true) (hlen:ms.length≤80) (usual:Bool) (hu:usual=true→p=a22) {n k:Nat} (hn:n<3) (hk:k<3) {v:Value} {b0:Nat} (w:World) (hT:C1 w) (hS:Spc w) (hrow:Row 9 1 a4E b0 w v ((storyOf p (!usual) ms).map (stTxt n))) :
  Calls G.P 20 #[s8 (if usual then [] else fenT p),v,.int .i64 n,.int .i64 k] w (fun r w'=>∃ u,r = .returned (.tuple #[u,.bool true])∧Row 9 1 a4E w.heap.size w' u ((storyOf p (!usual) ms).map (stTxt k))∧Cl w w'):=by
 have hline:=c4g hn ms [p] p (if (!usual)=true then a0k [p] p (0,a5e) else (0,a5e)) hI hq
 have hret:=c3A k ms [p] p (if (!usual)=true then a0k [p] p (0,a5e) else (0,a5e))
 have eS:story [p] p (if (!usual)=true then a0k [p] p (0,a5e) else (0,a5e)) ms=storyOf p (!usual) ms:=rfl
 rw [eS] at hline hret;have hsl:(storyOf p (!usual) ms).length≤ms.length:=a5E ms _ _ _;generalize storyOf p (!usual) ms=S at *;have m1:(S.map fun s=>(s.mv,stTxt n s)).map Prod.snd=S.map (stTxt n):=by rw [List.map_map];rfl
 have m2:b1E k p ((S.map fun s=>(s.mv,stTxt n s)).map Prod.fst)=S.map (stTxt k):=by rw [List.map_map,← hret];rfl
 rw [← m1] at hrow;rw [← m2];exact c38 hI hh hf hn hk _ hline (by rw [List.length_map];omega) usual hu w hT hS hrow
theorem b5q {n:Nat} (h:n<3):nOf (n:Int)=n:=by
 unfold nOf;rw [show IntKind.u64.wrap (n:Int)=(n:Int) from a9t zo];omega
theorem b5r {m:Mv} {r:List Mv} {p:A3} {looked:Bool} (h:isLegal p m=true):0<(storyOf p looked (m::r)).length:=by
 have e:storyOf p looked (m::r)=story [p] p (if looked then a0k [p] p (0,a5e) else (0,a5e)) (m::r):=rfl
 have e2:=a2z [p] p (if looked then a0k [p] p (0,a5e) else (0,a5e)) m r
 rw [if_pos h] at e2;rw [e,e2];exact Nat.succ_pos _
set_option maxHeartbeats 4000000 in
theorem a9D (s:A3) (usual:Bool) (ms:List Mv) (hms:∀ m∈ms,MvR m) (a b c:Int) {v:Value} (w:World) (hT:C1 w) (hS:Spc w) (hw:Pow w) (hrow:a2a w v ms):Calls G.P 9 #[C4 s,.bool usual,v,.int .i64 a,.int .i64 b,.int .i64 c] w (K4 (.bool true) w):=by
 obtain ⟨al,cl,rfl,hal⟩:=hrow.form;have hst:=fun w=>c4W s usual w;have hu:usual=true→(if usual then a22 else s)=a22:=fun h=>by rw [if_pos h]
 have hfe:=fun (hI:B7 (if usual then a22 else s)) (hN:a1z (if usual then a22 else s)) w=>c55 s usual (fun h=>a9P (p:=s) (by simpa [h] using hI) (by simpa [h] using hN)) w
 have htx:(if usual then ([]:Tx) else fenT s)=(if usual then [] else fenT (if usual then a22 else s)):=by cases usual<;>simp
 rw [htx] at hfe;generalize (if usual then a22 else s)=p at *
 have hP:=r7 p;have ea:=c5Y a;have eb:=c5Y b;have ec:=c5Y c;have la:=c39 a;have lb:=c39 b;have lc:=c39 c;generalize nOf a=A at *;generalize nOf b=B at *;generalize nOf c=C at *;refine zN Tryz.func9 ?_;refine zG ?_;generalize hW:w.alloc (.cells (o9 s) 24)=W0;have hP0:W0.heap[w.heap.size]?=some (.cells (o9 s) 24 (0,0)):=by rw [← hW];exact d8 _ _
 have hE:Cl w W0:=by rw [← hW];exact Cl.alloc _ _
 clear hW;refine zR ?_;apply E.b7<;>intro h
 ·refine zR ?_;exact ⟨rfl,hE⟩
 have hlen:=h;clear h;refine zR ?_;refine d6 _ (y7 hP0) (zR ?_);refine m9 (hst _) fun w2 c2=>zR ?_;obtain ⟨zp,hzp,hz69⟩:=b1P;refine t7 zp hzp ?_;have hB0:(w2.alloc (.cells zp.cells 24)).heap[w2.heap.size]?=some (.cells zp.cells 24 (0,0)):=d8 _ _;have c3:Cl w2 (w2.alloc (.cells zp.cells 24)):=Cl.alloc _ _;have hP1:=(c2.trans c3).blk hP0;have c3:=hE.trans (c2.trans c3);generalize w2.alloc (.cells zp.cells 24)=w3 at *;refine zR ?_;refine J6 hB0 (X0 p) rfl a13 (B6 _) (one_pos _) (by rw [hz69];omega) (fun w4 u4=>?_)
 have hB1:w4.heap[w2.heap.size]?=some (.cells (o9 p) 24 (0,0)):=by rw [u4.at_,C5 _ _ (by rw [B6,hz69])];rfl
 have hs2:w.heap.size<w2.heap.size:=by have:=(c2.blk hP0);exact (Array.getElem?_eq_some_iff.1 this).1
 have hP4:w4.heap[w.heap.size]?=some (.cells (o9 s) 24 (0,0)):=(Tn.upd u4).blk hP1 zo;have c4:Cl w w4:=u4.cl c3 zo;clear hB0 u4 hP1 c3 hP0;refine zR ?_;have hask:=@b10 p ms;have hasc:=fun w' (c:Cl w4 w')=>a8V p ms hms w' (hrow.step (c4.trans c));generalize asked p ms=aq at *;refine zK 17 ?_;refine zR ?_;refine g9 _ (fun w hw=>y7 (hw.blk hB1)) (zR ?_);refine C7 _ (fun w w' h h'=>h.trans h') (fun w hw=>hasc w hw) ?_;cases aq
 ·refine zR ?_;intro w' c';refine zR ?_;exact ⟨rfl,c4.trans c'⟩
 obtain ⟨hI,hh,hf,hn,hq⟩:=hask rfl;have hb0:=hI.h0;have hb1:=hI.f1;refine zR ?_;apply E.b7<;>intro h
 ·refine zR ?_;(repeat (refine E.D4 h ?_;refine zR ?_))
  intro w' c';refine zR ?_;(repeat (refine E.D4 h ?_;refine zR ?_))
  exact ⟨rfl,c4.trans c'⟩
 have hl0:0<ms.length:=by omega
 have hne:=h;clear h;obtain ⟨gm,og,rfl⟩:=hal hl0;have hm0:=fun w' (c:Cl w w')=>(hrow.step c).ld 0 hl0;have hr0:=hms _ (List.getElem_mem hl0);obtain ⟨m0,r,rfl⟩:∃ m r,ms=m::r:=by
  cases ms with
  | nil=>exact absurd hl0 zd
  | cons m r=>exact ⟨m,r,rfl⟩
 have hsp:=@b5r m0 r p (!usual);have hm0:∀ w',Cl w w'→l8 G.P w' 36 ⟨gm,E.W6 og (Int.toNat 0) 3,none⟩ (G5 m0):=hm0;have hr0:MvR m0:=hr0;have his:=fun w=>c1y p hI ⟨zo,zo⟩ m0 hr0 w;generalize isLegal p m0=lg at *;refine zR ?_;(repeat (refine E.o7 hne ?_;refine zR ?_))
 refine g9 _ (fun w hw=>y7 (hw.blk hB1)) (zR ?_);refine zC ?_;refine zR ?_;refine g9 (G5 m0) (fun w hw=>hm0 w (c4.trans hw)) (zR ?_);refine C7 _ (fun w w' h h'=>h.trans h') (fun w hw=>his w) ?_;cases lg
 ·refine zR ?_;(repeat (refine E.o7 hne ?_;refine zR ?_))
  intro w' c';refine zR ?_;(repeat (refine E.o7 hne ?_;refine zR ?_))
  exact ⟨rfl,c4.trans c'⟩
 have hsp:=hsp rfl;refine zR ?_;(repeat (refine E.o7 hne ?_;refine zR ?_))
 intro w5 c5;refine zR ?_;(repeat (refine E.o7 hne ?_;refine zR ?_))
 have cw:=c4.trans c5;have hP5:=c5.blk hP4;have hfe:=hfe hI ⟨zo,zo⟩;have him:=fun w hT hS hw hrow=>b23 hI hh hf (m0::r) hms hq hn usual hu (v:=.slice (some ⟨gm,og,none⟩) (m0::r).length cl) w hT hS hw hrow;have hr1:=fun {v:Value} {b0:Nat} w hT hS hr=>b12 hI hh hf hq hn usual hu la lb (v:=v) (b0:=b0) w hT hS hr;have hr2:=fun {v:Value} {b0:Nat} w hT hS hr=>b12 hI hh hf hq hn usual hu lb lc (v:=v) (b0:=b0) w hT hS hr;have hr3:=fun {v:Value} {b0:Nat} w hT hS hr=>b12 hI hh hf hq hn usual hu lc la (v:=v) (b0:=b0) w hT hS hr;have hsl:(storyOf p (!usual) (m0::r)).length≤80:=by
  have:(storyOf p (!usual) (m0::r)).length≤(m0::r).length:=a5E _ _ _ _;omega
 generalize storyOf p (!usual) (m0::r)=S at *;generalize (if usual then ([]:Tx) else fenT p)=T at *
 rw [ea,eb,ec];refine d6 _ (y7 hP5) (zR ?_);refine m9 (hfe _) fun w6 c6=>?_;have cw:=cw.trans c6;refine zR ?_;refine o8 (him w6 (hT.cl cw) (hS.cl cw) (hw.cl cw) (hrow.step cw)) ?_;rintro _ w7 ⟨vi,rfl,hW7,c7⟩;have cw:=cw.trans c7;obtain ⟨ai,ki,rfl,_⟩:=hW7.form;refine ⟨_,rfl,?_⟩;have hA1:a8W [(A:Int)] 0 S=S.map (stTxt A):=by rw [b3m,b5q la]
 have ht1:=fun {b0:Nat} {u v:Value} w hu hv=>c3z S zo [(A:Int)] (Nat.le_of_ble_eq_true rfl) (b0:=b0) (u:=u) (v:=v) w hu hv;rw [hA1] at ht1;refine zR ?_;refine E6 a2I [.int .i64 (A:Nat)] (by rw [Array.toList_map];rfl) (by intro v hv;rw [List.mem_singleton.1 hv];rfl) rfl zd zd ?_
 have d7:=Cl.alloc w7 (.cells (([.int .i64 (A:Nat)]:List Value).flatMap fun v=>v.cells.toList).toArray 3);have i7:b5w (w7.alloc (.cells (([.int .i64 (A:Nat)]:List Value).flatMap fun v=>v.cells.toList).toArray 3)) (.slice (some ⟨w7.heap.size,0,none⟩) 1 1) [(A:Int)]:=c30 (d8 _ _);generalize w7.alloc (.cells (([.int .i64 (A:Nat)]:List Value).flatMap fun v=>v.cells.toList).toArray 3)=w8 at *;refine zR ?_;refine o8 (ht1 w8 (hW7.step d7) i7) ?_;rintro _ w9 ⟨va,vb,rfl,hA9,hNA,c9⟩;refine ⟨_,rfl,?_⟩;have cw:=cw.trans (d7.trans c9);obtain ⟨a1,k1,rfl,_⟩:=hA9.form;obtain ⟨a2,k2,rfl,hg2⟩:=hNA.form;refine zR ?_;refine o8 (hr1 w9 (hT.cl cw) (hS.cl cw) hA9) ?_;rintro _ w10 ⟨v1,rfl,h10,c10⟩;obtain ⟨x1,y1,rfl,_⟩:=h10.form;have cw:=cw.trans c10;refine ⟨_,rfl,?_⟩;refine zR ?_;refine o8 (hr2 w10 (hT.cl cw) (hS.cl cw) h10) ?_;rintro _ w11 ⟨v2,rfl,h11,c11⟩;obtain ⟨x2,y2,rfl,_⟩:=h11.form;have cw:=cw.trans c11;refine ⟨_,rfl,?_⟩;refine zR ?_;refine o8 (hr3 w11 (hT.cl cw) (hS.cl cw) h11) ?_;rintro _ w12 ⟨v3,rfl,h12,c12⟩;obtain ⟨b1,q1,rfl,_⟩:=h12.form;have cw:=cw.trans c12;have hA12:=hA9.step (c10.trans (c11.trans c12));have hml:(S.map (stTxt A)).length=S.length:=List.length_map ..;generalize S.map (stTxt A)=TA at *;refine ⟨_,rfl,?_⟩;refine zR ?_;(repeat (first | (refine E.D4 rfl ?_;refine zR ?_) | (refine E.D4 zo ?_;refine zR ?_)))
 refine m9 (c5p TA zo w12 h12 hA12) fun w13 c13=>zR ?_;(repeat (first | (refine E.D4 rfl ?_;refine zR ?_) | (refine E.D4 zo ?_;refine zR ?_)))
 exact ⟨rfl,cw.trans c13⟩
end
end Go.Proofs.YtpclhlhcegcflaaGreatDoor
