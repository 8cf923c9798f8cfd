/- One part of the proof: Pk77 Opn3. -/
import Derived.Test.YtpclhlhcegcflaaGreatDoorM1
import Derived.Test.YtpclhlhcegcflaaGreatDoorM3
import Derived.Test.YtpclhlhcegcflaaGreatDoorM19
namespace Go.Proofs.YtpclhlhcegcflaaGreatDoor
set_option maxRecDepth 100000
set_option linter.unusedSimpArgs false
set_option linter.unusedVariables false
section
open Go Go.RowKit
open E
open Ch Bb
def a6a (w:World) (v:Value) (ns:List Bool):Prop:=∃ a c,v = .slice a ns.length c∧(0<ns.length→∃ g o cs t fz,a=some ⟨g,o,none⟩∧w.heap[g]?=some (.cells cs t fz)∧∀ i (h:i<ns.length),cs[o+i]?=some (.bool ns[i]))
section
variable {w w':World} {v:Value} {ns:List Bool}
theorem a6a.form (h:a6a w v ns):∃ a c,v = .slice a ns.length c∧(0<ns.length→∃ g o,a=some ⟨g,o,none⟩):=by
 obtain ⟨a,c,e,h⟩:=h;exact ⟨a,c,e,fun h0=>by obtain ⟨g,o,_,_,_,e,_⟩:=h h0;exact ⟨g,o,e⟩⟩
theorem a6a.step (h:a6a w v ns) (hc:Cl w w'):a6a w' v ns:=by
 obtain ⟨a,c,e,h⟩:=h;exact ⟨a,c,e,fun h0=>by obtain ⟨g,o,cs,t,fz,e,hb,h2⟩:=h h0;exact ⟨g,o,cs,t,fz,e,hc.blk hb,h2⟩⟩
theorem a6a.ld {g o n c:Nat} (h:a6a w (.slice (some ⟨g,o,none⟩) n c) ns) (i:Nat) (hi:i<ns.length):o4 G.P w 4 ⟨g,E.U7 o ((i:Int)).toNat 1,none⟩ (.bool ns[i]):=by
 obtain ⟨a,c',e,h⟩:=h;obtain ⟨g',o',cs,t,fz,e2,hb,h2⟩:=h zo;injection e with e1 _ _;rw [e2] at e1;injection e1 with e1;injection e1 with e1 e3 _;subst e1 e3;exact D8 hb (by rw [E.y6,zg,Nat.mul_one];exact h2 i hi) rfl
end
def a7r (ns:List Int):Nat→List Ch.a0n→List It
 | _,[]=>[]
 | i,s::r=>⟨s.mv,stTxt (nAt ns i) s,nAt ns i⟩::a7r ns (i+1) r
theorem b9U (ns:List Int):∀ (S:List Ch.a0n) (i:Nat),(a7r ns i S).map It.tx=txsOf ns i S
 | [],_=>rfl
 | s::r,i=>yG (stTxt (nAt ns i) s::·) (b9U ns r (i+1))
theorem c5l (ns:List Int):∀ (S:List Ch.a0n) (i:Nat),((a7r ns i S).map fun x=>(x.nt:Int))=nsOf ns i S
 | [],_=>rfl
 | s::r,i=>yG ((nAt ns i:Int)::·) (c5l ns r (i+1))
theorem c5m (ns:List Int):∀ (S:List Ch.a0n) (i:Nat),(a7r ns i S).map It.mv=S.map fun s=>s.mv
 | [],_=>rfl
 | s::r,i=>yG (s.mv::·) (c5m ns r (i+1))
theorem b2U (ns:List Int):∀ (S:List Ch.a0n) (i:Nat),(a7r ns i S).length=S.length
 | [],_=>rfl
 | s::r,i=>yG (· + 1) (b2U ns r (i+1))
theorem c50 {ns:List Int} {i:Nat} {p:l9} {m:Mv} {mo:Int×Tx} {R:List Ch.a0n} (h1:(s8 p).length≤218) (h2:m∈s8 p) (h3:K8 p m=true) (h4:b2N p m (nAt ns i) (b9z (nAt ns i) p m)) (h5:a48 (made p m) (a7r ns (i+1) R)):a48 p (a7r ns i (stepOf p m mo::R)):=by
 have e:(stepOf p m mo).mv=m:=rfl;show (s8 p).length≤218∧(stepOf p m mo).mv∈s8 p∧K8 p (stepOf p m mo).mv=true∧nAt ns i<3∧b2N p (stepOf p m mo).mv (nAt ns i) (stTxt (nAt ns i) (stepOf p m mo))∧a48 (made p (stepOf p m mo).mv) (a7r ns (i+1) R);rw [e,b91];exact ⟨h1,h2,h3,b90 ns i,h4,h5⟩
theorem c3z {ns:List Int}:∀ (ms:List Mv) (i:Nat) (l:List l9) (p:l9) (mo:Int×Tx),B9 p→quiet p ms=true→a48 p (a7r ns i (story l p mo ms)):=by
 intro ms
 induction ms with
 | nil=>intro i l p mo _ hq;exact a5f hq
 | cons m r ih =>
  intro i l p mo hI hq;have e:=a0q l p mo m r;generalize story l p mo (m::r)=X at e ⊢;by_cases hl:O8 p m=true
  ·rw [zM hl] at e;have hm:m∈s8 p:=yA hl;obtain ⟨h1,h2⟩:=b4m hq hl;rw [e];exact c50 (a5f hq) hm h1 (c2O hI hm (b90 ns i)) (ih _ _ _ _ (hI.made hm) h2)
  ·rw [zJ hl] at e;rw [e];exact a5f hq
theorem c3I {b0 g:Nat} {w:World} {cs:Array Value} {bs:List Bool} (hb:b0≤g) (h:w.heap[g]?=some (.cells cs 4 (0,0))) (e:cs.toList=bs.map Value.bool) (hn:bs.length≤100000):Row 4 1 b9p b0 w (.slice (some ⟨g,0,none⟩) bs.length bs.length) bs:=by
 refine Row.blk b2Q hn hb ?_;have e2:bs.flatMap b9p=bs.map Value.bool:=by
  clear e hn
  induction bs with
  | nil=>rfl
  | cons b r ih=>rw [List.flatMap_cons,ih];rfl
 rw [e2,← e];exact h
set_option maxHeartbeats 4000000 in
theorem b2X (s:l9) (usual:Bool) (ms:List Mv) (hms:∀ m∈ms,MvR m) (fs:List Int) (us:List Bool) {v vf vu:Value} (w:World) (hT:C9 w) (hS:Spc w) (hw:Pow w) (hrow:a4R w v ms) (hfs:a5Z w vf fs) (hus:a6a w vu us):Calls G.P 8 #[E2 s,.bool usual,v,vf,vu] w (L4 (.bool true) w):=by
 obtain ⟨al,cl,rfl,hal⟩:=hrow.form;obtain ⟨af,cf,rfl,haf⟩:=hfs.form;obtain ⟨au,cu,rfl,hau⟩:=hus.form;have hst:=fun w=>b8W s usual w;have hu:usual=true→(if usual then P9 else s)=P9:=fun h=>by rw [zM h]
 have hfe:=fun (hI:B9 (if usual then P9 else s)) (hN:a06 (if usual then P9 else s)) w=>c1t s usual (fun h=>b4h (p:=s) (by simpa [h] using hI) (by simpa [h] using hN)) w
 have htx:(if usual then ([]:Tx) else fenT s)=(if usual then [] else fenT (if usual then P9 else s)):=by cases usual<;>simp
 rw [htx] at hfe;generalize (if usual then P9 else s)=p at *
 have hP:=z7 p;refine zN Tryz.func8 ?_;refine zG ?_;generalize hW:w.alloc (.cells (v8 s) 24)=W0;have hP0:W0.heap[w.heap.size]?=some (.cells (v8 s) 24 (0,0)):=by rw [← hW];exact g7 _ _
 have hE:Cl w W0:=by rw [← hW];exact Cl.alloc _ _
 clear hW;refine zR ?_;apply E.d6<;>intro h
 ·refine zR ?_;(repeat (refine E.A0 h ?_;refine zR ?_))
  exact ⟨rfl,hE⟩
 have hlen:=h;clear h;refine zR ?_;(repeat (refine E.p8 hlen ?_;refine zR ?_))
 apply E.d6<;>intro h
 ·refine zR ?_;(repeat (refine E.A0 h ?_;refine zR ?_))
  exact ⟨rfl,hE⟩
 have hlf:=h;clear h;refine zR ?_;(repeat (first | (refine E.p8 hlf ?_;refine zR ?_) | (refine E.p8 hlen ?_;refine zR ?_)))
 apply E.d6<;>intro h
 ·refine zR ?_;(repeat (refine E.A0 h ?_;refine zR ?_))
  exact ⟨rfl,hE⟩
 have hlu:=h;clear h;refine zR ?_;(repeat (first | (refine E.p8 hlu ?_;refine zR ?_) | (refine E.p8 hlf ?_;refine zR ?_) | (refine E.p8 hlen ?_;refine zR ?_)))
 refine d9 _ (A3 hP0) (zR ?_);refine o8 (hst _) fun w2 c2=>zR ?_;obtain ⟨zp,hzp,hz69⟩:=b01;refine t7 zp hzp ?_;have hB0:(w2.alloc (.cells zp.cells 24)).heap[w2.heap.size]?=some (.cells zp.cells 24 (0,0)):=g7 _ _;have c3:Cl w2 (w2.alloc (.cells zp.cells 24)):=Cl.alloc _ _;have hP1:=(c2.trans c3).blk hP0;have c3:=hE.trans (c2.trans c3);generalize w2.alloc (.cells zp.cells 24)=w3 at *;refine zR ?_;refine J6 hB0 (Y9 p) rfl a1J (C4 _) (one_pos _) (by rw [hz69];omega) (fun w4 u4=>?_)
 have hB1:w4.heap[w2.heap.size]?=some (.cells (v8 p) 24 (0,0)):=by rw [u4.at_,B7 _ _ (by rw [C4,hz69])];rfl
 have hs2:w.heap.size<w2.heap.size:=by have:=(c2.blk hP0);exact (Array.getElem?_eq_some_iff.1 this).1
 have hP4:w4.heap[w.heap.size]?=some (.cells (v8 s) 24 (0,0)):=(Tn.upd u4).blk hP1 zo;have c4:Cl w w4:=u4.cl c3 zo;clear hB0 u4 hP1 c3 hP0;refine zR ?_;refine d9 _ (A3 hB1) (zR ?_);refine o8 (b6G p ms hms _ (hrow.step c4)) fun w5 c5=>?_;have c5':=c4.trans c5;have hask:=@b9k p ms;generalize asked p ms=aq at *;cases aq
 ·refine zR ?_;exact ⟨rfl,c5'⟩
 obtain ⟨hI,hh,hf,hn,hq⟩:=hask rfl;have hb0:=hI.h0;have hb1:=hI.f1;have hB5:=c5.blk hB1;have hP5:=c5.blk hP4;refine zR ?_;apply E.d6<;>intro h
 ·refine zR ?_;(repeat (refine E.A0 h ?_;refine zR ?_))
  exact ⟨rfl,c5'⟩
 have hf80:=h;clear h;refine zR ?_;(repeat (refine E.p8 hf80 ?_;refine zR ?_))
 apply E.d6<;>intro h
 ·refine zR ?_;(repeat (refine E.A0 h ?_;refine zR ?_))
  exact ⟨rfl,c5'⟩
 have hu80:=h;clear h;refine zR ?_;(repeat (first | (refine E.p8 hu80 ?_;refine zR ?_) | (refine E.p8 hf80 ?_;refine zR ?_)))
 refine d9 _ (A3 hB5) (zR ?_);refine m8 (c1q p hI ⟨zo,zo⟩ (!usual) ms hms zo w5 (hrow.step c5')) ?_;rintro _ w6 ⟨vw,rfl,hW6,c6⟩;have cw:=c5'.trans c6;have hsl:(storyOf p (!usual) ms).length≤80:=by
  have:(storyOf p (!usual) ms).length≤ms.length:=b6R ms _ _ _;omega
 have hso:=b4p hI hh hf hn hms (!usual);have hfe:=hfe hI ⟨zo,zo⟩;have hits:=c3z (ns:=fs) ms 0 [p] p (if (!usual)=true then C6 [p] p (0,star) else (0,star)) hI hq
 have hag:=b2S ms [p] p (if (!usual)=true then C6 [p] p (0,star) else (0,star))
 have eS:∀ ms,story [p] p (if (!usual)=true then C6 [p] p (0,star) else (0,star)) ms=storyOf p (!usual) ms:=fun _=>rfl
 rw [eS] at hits;simp only [eS] at hag;have him:=fun {v1 v2 v3:Value} {b1 b2 b3:Nat} bs hbl w hT hS hw h1 h2 h3=>b4T hI hh hf (a7r fs 0 (storyOf p (!usual) ms)) hits (by rw [b2U];exact hsl) usual hu (v1:=v1) (v2:=v2) (v3:=v3) (b1:=b1) (b2:=b2) (b3:=b3) bs hbl w hT hS hw h1 h2 h3
 rw [c5m,hag] at him;simp only [b9U,c5l,b2U] at him;have hTXc:=fun {b0:Nat} {u v:Value} w hu hv=>c2g (storyOf p (!usual) ms) zo fs zo (b0:=b0) (u:=u) (v:=v) w hu hv;have ltx:(txsOf fs 0 (storyOf p (!usual) ms)).length=(storyOf p (!usual) ms).length:=by rw [← b9U,ye,b2U]
 clear hits hag eS;generalize txsOf fs 0 (storyOf p (!usual) ms)=TX at *;generalize nsOf fs 0 (storyOf p (!usual) ms)=NS at *;generalize storyOf p (!usual) ms=S at *;generalize (if usual then ([]:Tx) else fenT p)=T at *
 obtain ⟨aw,kw,rfl,haw⟩:=hW6.form;refine ⟨_,rfl,?_⟩;have hP6:=c6.blk hP5;refine zR ?_;refine m8 (hTXc w6 hW6 (hfs.step cw)) ?_;rintro _ w7 ⟨va,vb,rfl,hA7,hN7,c7⟩;have cw:=cw.trans c7;obtain ⟨xa,ya,rfl,_⟩:=hA7.form;obtain ⟨xb,yb,rfl,_⟩:=hN7.form;refine ⟨_,rfl,?_⟩;have hP7:=c7.blk hP6;have hW7:=hW6.step c7;rw [ltx] at hA7;rw [ltx];refine zR ?_;refine b8i b9r S.length rfl rfl zo zd fun cs hcs=>?_;have hcs:cs.size=S.length:=by omega
 have d8:=Cl.alloc w7 (.cells cs 4);have n8:=g7 w7 (.cells cs 4);generalize w7.alloc (.cells cs 4)=w8 at *;have hA8:=hA7.step d8;have hN8:=hN7.step d8;have hP8:=d8.blk hP7;have hW8:=hW7.step d8;have cw:=cw.trans d8;have sg:=hW7.step d8;have hg6:w6.heap.size≤w7.heap.size:=c7.size;have hg5:w.heap.size≤w7.heap.size:=(c5'.trans (c6.trans c7)).size;have hPl:=C5 hP7;clear hA7 hN7 hP7 hW7 hW6 hP6 sg;refine zR ?_;refine A9 (σ:=Nat×Array Value×List Bool) [16,66] 67 (fun x=>[(66,.int .i64 x.1)]) (fun x w'=>x.1≤S.length∧x.2.1.size=S.length∧x.2.1.toList.take x.1=x.2.2.map Value.bool∧w'.heap[w7.heap.size]?=some (.cells x.2.1 4 (0,0))
  ∧Row 9 1 H2 w6.heap.size w' (.slice xa S.length ya) TX∧Row 3 1 b9n w6.heap.size w' (.slice xb NS.length yb) NS∧w'.heap[w.heap.size]?=some (.cells (v8 s) 24 (0,0))∧Row 39 81 stL w5.heap.size w' (.slice aw S.length kw) S∧Cl w w') (fun x=>S.length-x.1) zk
  (0,cs,[]) ⟨Nat.zero_le _,hcs,rfl,n8,hA8,hN8,hP8,hW8,cw⟩ ⟨rfl,trivial⟩ ?_
 clear hA8 hN8 hP8 hW8 cw n8 hcs;rintro ⟨i,cs,bs⟩ j w9 ⟨hi,hcs,hbs,n9,hA9,hN9,hP9,hW9,cw⟩;simp only at hi hcs hbs n9 hA9 hN9 hP9 hW9 cw ⊢;have ni:=C0 (i:=i) zo;refine zR ?_;apply E.d6<;>intro h
 ·have hil:i<S.length:=by omega
  clear h;have fin:∀ (b:Bool) w',Upd w9 w7.heap.size (.cells (cs.setIfInBounds i (.bool b)) 4 (0,0)) w'→(i+1≤S.length∧(cs.setIfInBounds i (.bool b)).size=S.length∧(cs.setIfInBounds i (.bool b)).toList.take (i+1)=(bs++[b]).map Value.bool∧w'.heap[w7.heap.size]?=some (.cells (cs.setIfInBounds i (.bool b)) 4 (0,0))
  ∧Row 9 1 H2 w6.heap.size w' (.slice xa S.length ya) TX∧Row 3 1 b9n w6.heap.size w' (.slice xb NS.length yb) NS∧w'.heap[w.heap.size]?=some (.cells (v8 s) 24 (0,0))∧Row 39 81 stL w5.heap.size w' (.slice aw S.length kw) S∧Cl w w'):=by
   intro b w' u;have ku:KT 4 w9 w':=KT.upd u n9;refine ⟨hil,by simpa using hcs,?_,u.at_,ku.row hA9 zd,ku.row hN9 zd,(Tn.upd u).blk hP9 zo,ku.row hW9 zd,u.cl cw hg5⟩
   rw [List.map_append,← hbs,Array.toList_setIfInBounds,zw (by rw [List.length_set,Array.length_toList];omega),List.take_set_of_le (yH _),List.getElem_set_self]
   rfl
  have hst:∀ (b:Bool) {K:World→Prop},(∀ w',Upd w9 w7.heap.size (.cells (cs.setIfInBounds i (.bool b)) 4 (0,0)) w'→K w')→a0y G.P w9 4 ⟨w7.heap.size,E.U7 0 ((i:Int)).toNat 1,none⟩ (.bool b) K:=by
   intro b K hK;refine J6 n9 [.bool b] rfl zk rfl (by intro v hv;simp at hv;subst hv;rfl) (by rw [E.y6,zg];simp;omega) fun w' u=>hK w' ?_
   have e:I3 cs (E.U7 0 ((i:Int)).toNat 1) [.bool b]=cs.setIfInBounds i (.bool b):=by
    rw [E.y6,zg,yV,Nat.mul_one];rfl
   rw [← e];exact u
  refine zR ?_;apply E.d6<;>intro h
  ·have h0:0<us.length:=by omega
   clear h;obtain ⟨gu,ou,rfl⟩:=hau h0;have him:i%us.length<us.length:=Nat.mod_lt _ h0;have hld:=(hus.step cw).ld (i%us.length) him;have htm:((i:Int)).tmod (us.length:Int)=((i%us.length:Nat):Int):=rfl;generalize us[i%us.length]=x at *;refine zR ?_;(repeat (refine E.A0 zo ?_;refine zR ?_))
   refine E.p8 zo (zR ?_);(repeat (refine E.A0 zo ?_;refine zR ?_))
   rw [htm];refine d9 _ hld (zR ?_);(repeat (refine E.A0 zo ?_;refine zR ?_))
   refine hst x fun w' u=>zR ?_;exact ⟨(i+1,cs.setIfInBounds i (.bool x),bs++[x]),⟨d7 ni,trivial⟩,fin x _ u,by show S.length-(i+1)<S.length-i;omega⟩
  ·refine zR ?_;(repeat (refine E.p8 zo ?_;refine zR ?_))
   refine zC ?_;refine zR ?_;(repeat (refine E.p8 zo ?_;refine zR ?_))
   refine hst false fun w' u=>zR ?_;exact ⟨(i+1,cs.setIfInBounds i (.bool false),bs++[false]),⟨d7 ni,trivial⟩,fin false _ u,by show S.length-(i+1)<S.length-i;omega⟩
 ·have e:i=S.length:=by omega
  have hbs:cs.toList=bs.map Value.bool:=by rw [← hbs,List.take_of_length_le (by rw [Array.length_toList];omega)]
  have hbl:bs.length=S.length:=by have:=yG List.length hbs;simpa [hcs] using this.symm
  have hrb:=c3I (b0:=0) (Nat.zero_le _) n9 hbs zo;rw [hbl] at hrb;refine zR ?_;refine d9 _ (A3 hP9) (zR ?_);refine o8 (hfe _) fun w10 c10=>?_;have cw:=cw.trans c10;refine zR ?_;refine m8 (him bs hbl w10 (hT.cl cw) (hS.cl cw) (hw.cl cw) (hA9.step c10) (hN9.step c10) (hrb.step c10)) ?_;rintro _ w11 ⟨vi,rfl,hW11,c11⟩;have cw:=cw.trans c11;refine ⟨_,rfl,?_⟩;have hW9:=hW9.step (c10.trans c11);obtain ⟨ai,ki,rfl,_⟩:=hW11.form;refine zR ?_;(repeat (refine E.A0 rfl ?_;refine zR ?_))
  refine o8 (b9u S hso zo w11 hW11 hW9) fun w12 c12=>zR ?_;(repeat (refine E.A0 rfl ?_;refine zR ?_))
  exact ⟨rfl,cw.trans c12⟩
end
section
open Go Go.RowKit Go.Deep Go.ChangeShapes Go.WideShapes
open E
theorem b9V {H:Type} {enc:TypeId×Value→H} {W:World} {b base:Nat} {sp:Nat→Bool} {hd:Bool} {v:Value} {d:DataW H} {ps:List MemPlace} (h:Value.okWide G.P W .any b 50 v) (hr:DataW.Trod enc G.P W base sp hd 50 v d ps) :
  ∃ ns:List Bool,a6a W v ns:=by
 have e1:G.P.underlying 50=some (.slice 4):=by kernel_rfl
 have e3:G.P.underlying 4=some .bool:=by kernel_rfl
 have e4:G.P.cellsOf 4=1:=by kernel_rfl
 obtain ⟨fuel,hr⟩:=hr;unfold Value.okWide at h;rw [e1] at h;have hv:∃ oa len cap,v = .slice oa len cap:=by
  unfold Cell.okWide Cell.ok at h;cases v<;>simp [e1] at h;exact ⟨_,_,_,rfl⟩
 obtain ⟨oa,len,cap,rfl⟩:=hv;rcases open_slice e1 hr with ⟨h1,_⟩ | ⟨a,len',cap',m,n,D,Pl,h1,_,hl,hm,hmm,_,hx⟩
 ·obtain ⟨rfl,rfl,rfl⟩:oa=none∧len=0∧cap=0:=by simpa [Value.cells] using h1
  exact ⟨[],none,0,rfl,fun h=>absurd h zd⟩
 ·obtain ⟨rfl,rfl,rfl⟩:oa=some a∧len=len'∧cap=cap':=by simpa [Value.cells] using h1
  unfold Cell.okWide Cell.ok at h;rw [e1] at h;obtain ⟨_,_,_,hsp,row,cells,hsh,_⟩:=h;obtain ⟨g,o,spo⟩:=a;obtain rfl:spo=none:=hsp;unfold World.shape? at hsh;cases hbb:W.heap[g]? with
  | none=>simp only [hbb] at hsh;cases hsh
  | some ob =>
   cases ob with
   | cells cs2 el fz =>
    have hlm:len≤m:=by rw [hmm];split<;>omega
    have key:∀ i,i<len→∃ z:Bool,cs2[o+i]?=some (Value.bool z):=by
     intro i hi;obtain ⟨cs',hc1,hc2⟩:=hx i zo;obtain ⟨_,hlen,hcell⟩:=World.cells?_some hc1;rw [e4] at hlen hcell;obtain ⟨z,h3,_⟩:=DataW.trod_bool e3 hc2;have h5:cs'[0]?=some (Value.bool z):=by rw [h3];rfl
     have h6:=hcell 0 zd;rw [h5,H5,H5] at h6;unfold World.cell? at h6;simp only [hbb] at h6;exact ⟨z,by simpa using h6⟩
    have:Inhabited Bool:=⟨false⟩;obtain ⟨F,hF⟩:=choose_lt key;refine ⟨(List.range len).map F,some ⟨g,o,none⟩,cap,by simp,fun _=>⟨g,o,cs2,el,fz,rfl,hbb,fun i hi=>?_⟩⟩
    have hi2:i<len:=by simpa using hi
    simpa using hF i hi2
   | _=>simp only [hbb] at hsh;cases hsh
end
end Go.Proofs.YtpclhlhcegcflaaGreatDoor
