/- One part of the proof: Pk85 Pk86 Pk87. -/
import Derived.Test.YtpclhlhcegcflaaGreatDoorM19
namespace Go.Proofs.YtpclhlhcegcflaaGreatDoor
set_option maxRecDepth 100000
set_option linter.unusedSimpArgs false
set_option linter.unusedVariables false
section
open Ch
def e4:Mv:=⟨12,28,0⟩
set_option maxRecDepth 100000 in
theorem b3S:a66 H1 e4=true:=by kernel_rfl
set_option maxRecDepth 100000 in
theorem c4Q:Nat.ble (p9 H1).length 218=true:=by kernel_rfl
set_option maxRecDepth 100000 in
theorem c2R:Nat.ble (p9 (made H1 e4)).length 218=true:=by kernel_rfl
set_option maxRecDepth 100000 in
theorem c2S:body H1 e4=[101,52]:=by kernel_rfl
theorem b1d:∀ {D R:List It} {p:g9},a18 p (D++R)→a18 p D∧a18 (b9a p D) R
 | [],R,p,h=>⟨h.head,h⟩
 | x::D,R,p,h=>by
  obtain ⟨h1,h2,h3,h4,h5,h6⟩:=h;obtain ⟨h7,h8⟩:=b1d h6;exact ⟨⟨h1,h2,h3,h4,h5,h7⟩,h8⟩
theorem b6E:∀ {L:List It} {p:g9} {n:Nat},B7 p→Ng p n→a18 p L→B7 (b9a p L)∧Ng (b9a p L) (n+L.length)
 | [],p,n,h1,h2,_=>⟨h1,h2⟩
 | x::L,p,n,h1,h2,h=>by
  obtain ⟨_,h4,_,_,_,h6⟩:=h;have:=b6E (h1.made h4) (h2.made h1 x.mv) h6;rw [zh];have e:n+(L.length+1)=n+1+L.length:=by omega
  rw [e];exact this
theorem c4R (ns:List Int):∀ (ms:List Mv) (i:Nat) (l:List g9) (p:g9) (mo:Int×Tx) (k:Nat) (hk:k<(a8m l p mo ms).length),b9a p ((b5Z ns i (a8m l p mo ms)).take (k+1))=((a8m l p mo ms)[k]).pos:=by
 intro ms
 induction ms with
 | nil=>intro i l p mo k hk;exact absurd hk (Nat.not_lt_zero k)
 | cons m r ih =>
  intro i l p mo k hk;have e:=V3 l p mo m r;generalize a8m l p mo (m::r)=X at e hk ⊢;by_cases hl:a66 p m=true
  ·rw [zM hl] at e;subst e;cases k with
   | zero=>rfl
   | succ k=>exact ih (i+1) _ _ _ k (Nat.lt_of_succ_lt_succ hk)
  ·rw [zJ hl] at e;subst e;exact absurd hk (Nat.not_lt_zero k)
theorem b53:∀ (ms:List Mv) (l:List g9) (p:g9) (mo:Int×Tx) (k:Nat),a8m l p mo (((a8m l p mo ms).map fun s=>s.mv).take k)=(a8m l p mo ms).take k:=by
 intro ms
 induction ms with
 | nil=>intro l p mo k;cases k<;>rfl
 | cons m r ih =>
  intro l p mo k;have e:=V3 l p mo m r;generalize a8m l p mo (m::r)=X at e ⊢;by_cases hl:a66 p m=true
  ·rw [zM hl] at e;subst e;cases k with
   | zero=>rfl
   | succ k =>
    rw [yU,xh,xh];have e1:∀ x,(a6g p m x).mv=m:=fun _=>rfl;rw [e1,V3,zM hl,ih]
  ·rw [zJ hl] at e;subst e;cases k<;>rfl
end
section
open Go Go.RowKit
open E
open Ch Bb
section
variable {α:Type} {t e z b b0:Nat} {enc:α→List Value} {dst:Option Nat} {ty:Nat} {pos:String} {af:Array Edge} {gd:Option (Nat×Bool)} {env:C9} {w:World}
theorem Row.cap_le {l:List α} {a:Option Addr} {n c:Nat} (h:Row e z enc b0 w (.slice a n c) l):n≤c:=by
 rcases h.2 with ⟨h1,h2⟩|⟨g,cap,cur,e1,e2,e3,e4,_⟩
 ·injection h1 with h1 h3 h4;omega
 ·injection e1 with e1 e8 e9;omega
theorem c2T (E1:H0 t e z b) {K:Value→World→Prop} {x hi:Operand} {a:Option Addr} {n c h:Nat} (hx:ev env x = .slice a n c) (hh:ev env hi = .int .i64 h) (h2:h≤c) (hk:K (.slice (if c=0 then a else a.map (·.add (0*z))) h c) w) :
  L6 G.P { dst,op:=.slice t x none (some hi) none,type:=ty,pos,after:=af,guard:=gd } env w K:=by
 obtain ⟨v,h1,h3⟩:=a9O E1 (C:=fun w'=>w'=w) (K:=fun v=>v = .slice (if c=0 then a else a.map (·.add (0*z))) h c) (dst:=dst) (ty:=ty) (pos:=pos) (af:=af) (gd:=gd) hx hh h2 rfl
 subst h3;exact ⟨.inl ⟨_,w,h1 w rfl,hk⟩⟩
theorem Row.pre {l:List α} {a:Option Addr} {n c:Nat} (h:Row e z enc b0 w (.slice a n c) l) (henc:∀ x,(enc x).length=z) (k:Nat) (hk:k≤l.length):Row e z enc b0 w (.slice (if c=0 then a else a.map (·.add (0*z))) k c) (l.take k):=by
 have hl:(l.take k).length=k:=by rw [yh,Nat.min_eq_left hk]
 rcases h.2 with ⟨h1,h2⟩|⟨g,cap,cur,e1,e2,e3,e4,e5,e6,e7⟩
 ·injection h1 with h1 h3 h4;subst h1 h3 h4;have hl0:l=[]:=wM h2;subst hl0;have hk0:k=0:=by simpa using hk
  subst hk0;exact Row.nil _ _
 ·injection e1 with e1 e8 e9;subst e1 e8 e9;have ea:(if c=0 then some (⟨g,0,none⟩:Addr) else (some (⟨g,0,none⟩:Addr)).map (·.add (0*z)))=some ⟨g,0,none⟩:=by
   split
   ·rfl
   ·rw [wg,H6];simp
  rw [ea];unfold Row;rw [hl];refine ⟨by rw [H8 henc,hl],.inr ⟨g,c,cur,rfl,e2,e3,zo,e5,e6,?_⟩⟩
  have e8:l.flatMap enc=(l.take k).flatMap enc++(l.drop k).flatMap enc:=by rw [← wU,x8]
  have e9:((l.take k).flatMap enc).length=k*z:=by rw [H8 henc,hl]
  have e10:k*z≤l.length*z:=xY _ hk;have:=yM (List.take (k*z)) e7;rw [List.take_take,Nat.min_eq_left e10,e8,List.take_left' e9] at this;exact this
end
theorem b54 (n:Nat):(List.replicate n false).flatMap a9N=List.replicate n (Value.bool false):=by
 induction n with
 | zero=>rfl
 | succ n ih=>rw [List.replicate_succ,xj,ih];rfl
theorem b1e {l c:Operand} {dst:Option Nat} {ty:Nat} {pos:String} {af:Array Edge} {gd:Option (Nat×Bool)} {env:C9} {w:World} {K:Value→World→Prop} (n:Nat) (hl:ev env l = .int .i64 n) (hc:ev env c = .int .i64 n) (hn:n≤100000)
  (hk:∀ w',Cl w w'→Row 4 1 a9N w.heap.size w' (.slice (some ⟨w.heap.size,0,none⟩) n n) (List.replicate n false)→K (.slice (some ⟨w.heap.size,0,none⟩) n n) w'):L6 G.P { dst,op:=.makeSlice 50 l c,type:=ty,pos,after:=af,guard:=gd } env w K:=by
 obtain ⟨i,zv,hi,hzv,hsz,hby,hzs⟩:=elBool.info;have hz:(G.P.info? 4).bind (·.zero)=some (.bool false):=by kernel_rfl
 rw [hi] at hz;have hz:i.zero=some (.bool false):=hz;obtain rfl:=yp (hzv.symm.trans hz);have hbb:(i.bytes:Int)*(n:Int)≤281474976710656:=by rw [hby];omega
 have:=run_make (P:=G.P) w 50 4 i (.bool false) elBool.ty hi hzv .i64 .i64 n n zo zo hbb zo;simp only [zg] at this;refine ⟨.inl ⟨_,_,?_,hk (w.alloc (.cells (madeCells (Value.bool false).cells (n*i.size)) 4)) (Cl.alloc _ _) ?_⟩⟩
 ·show (do pure (Next.value (← Instr.makeSlice 50 (ev env l) (ev env c))):Sem Next).run G.P w=_
  rw [hl,hc,yq,this];rfl
 ·have e1:(madeCells (Value.bool false).cells (n*i.size))=((List.replicate n false).flatMap a9N).toArray:=by
   rw [hsz,wX];apply Array.ext
   ·rw [size_madeCells];simp [a9N]
   ·intro k h1 h2;rw [size_madeCells] at h1;have e2:=b54 n;simp only [e2,List.getElem_toArray,List.getElem_replicate];unfold madeCells;simp [Value.cells,Nat.mod_one]
  rw [e1];have:=Row.blk (e:=4) (enc:=a9N) (l:=List.replicate n false) (b0:=w.heap.size) (g:=w.heap.size) a63 (by simpa using hn) (yO _) (d8 w (.cells ((List.replicate n false).flatMap a9N).toArray 4))
  simpa using this
theorem c2U:a18 H1 [⟨e4,[101,52],0⟩]:=by
 have hm:e4∈p9 H1:=yF b3S;have hz:=b2e a7i hm (sg:=[]) T9;rw [zn,c2S] at hz;exact ⟨zU c4Q,hm,rfl,zd,.inl ⟨zd,zd,_,hz,.own⟩,zU c2R⟩
theorem c00:(a5B H1 (!true) [e4]).length=1:=by
 show (a8m [H1] H1 (0,star) [e4]).length=1;rw [V3,zM b3S];rfl
theorem b55 {p:g9} (hI:B7 p) (hh:p.half≤1000000) (hf:p.full≤1000000) {ms:List Mv} (hq:quiet p ms=true) (hn:ms.length≤80) (usual:Bool) (hu:usual=true→p=H1) (ns:List Int) (k:Nat) (hk:k≤(a5B p (!usual) ms).length) :
  ∃ EP,B7 EP∧Ng EP k∧(p9 EP).length≤218∧(k=0→EP=p)∧(∀ j (h:j<(a5B p (!usual) ms).length),k=j+1→EP=((a5B p (!usual) ms)[j]).pos) ∧
  ∀ (T:Tx) (n:Nat),n<3→a34 EP n T→∀ (v1 v2 v3:Value) (b1 b2 b3:Nat) (w:World),C6 w→Spc w→Pow w →
   Row 9 1 J5 b1 w v1 ((b8f ns 0 (a5B p (!usual) ms)).take k++[T]++(b8f ns 0 (a5B p (!usual) ms)).drop k) →
   Row 3 1 a9M b2 w v2 ((c4P ns 0 (a5B p (!usual) ms)).take k++[(n:Int)]++(c4P ns 0 (a5B p (!usual) ms)).drop k) →
   Row 4 1 a9N b3 w v3 (List.replicate ((a5B p (!usual) ms).length+1) false) →
   Calls G.P 23 #[m7 (if usual then [] else a7q p),v1,v2,v3] w (fun r w'=>∃ u,r = .returned (.tuple #[u,.int .i64 (k:Nat),.bool true])∧Row 39 81 stL w.heap.size w' u ((a5B p (!usual) ms).take k)∧Cl w w'):=by
 have hsl:(a5B p (!usual) ms).length≤80:=by
  have:(a5B p (!usual) ms).length≤ms.length:=b1c ms _ _ _;omega
 have hits:=b8d (ns:=ns) ms 0 [p] p (if (!usual)=true then D5 [p] p (0,star) else (0,star)) hI hq
 have hend:∀ k (hk:k<(a5B p (!usual) ms).length),b9a p ((b5Z ns 0 (a5B p (!usual) ms)).take (k+1))=((a5B p (!usual) ms)[k]).pos:=c4R ns ms 0 [p] p (if (!usual)=true then D5 [p] p (0,star) else (0,star))
 have htk:=b53 ms [p] p (if (!usual)=true then D5 [p] p (0,star) else (0,star)) k
 have eS:∀ ms,a8m [p] p (if (!usual)=true then D5 [p] p (0,star) else (0,star)) ms=a5B p (!usual) ms:=fun _=>rfl
 rw [eS] at hits;simp only [eS] at htk;clear eS;have e1:=b51 ns (a5B p (!usual) ms) 0;have e2:=b52 ns (a5B p (!usual) ms) 0;have e3:=c0y ns (a5B p (!usual) ms) 0;have e4:=a8v ns (a5B p (!usual) ms) 0;rw [← e3] at htk;have him:=fun D X h1 h2 h3 h4=>@a64 p hI hh hf D X h1 h2 h3 h4 usual hu;generalize b5Z ns 0 (a5B p (!usual) ms)=L at *;rw [← e1,← e2];clear e1 e2 e3;generalize a5B p (!usual) ms=S at *;have hL:L=L.take k++L.drop k:=(x8 k L).symm;rw [hL] at hits;obtain ⟨hD,hR⟩:=b1d hits;have hDl:(L.take k).length=k:=by rw [yh,e4];omega
 obtain ⟨hIE,hNE⟩:=b6E hI (n:=0) ⟨zo,zo⟩ hD;rw [yZ,hDl] at hNE;refine ⟨b9a p (L.take k),hIE,hNE,hR.head,fun h=>by subst h;rfl,fun j hj h=>by subst h;exact hend j hj,?_⟩
 intro T n hn3 href v1 v2 v3 b1 b2 b3 w hT hS hw h1 h2 h3;have:=@him (L.take k) ((T,n)::(L.drop k).map fun x=>(x.tx,x.nt)) hD (fun _ _ _ e=>by cases e;exact ⟨hn3,href⟩) zo (by rw [zh,yi,yj,e4];omega) v1 v2 v3 b1 b2 b3 (List.replicate (S.length+1) false) (by rw [List.length_replicate,zh,yi,yj,hDl,e4];omega) (fun b hb=>List.eq_of_mem_replicate hb) w hT hS hw
  (by
   have e:((L.take k).map It.tx++((T,n)::(L.drop k).map fun x=>(x.tx,x.nt)).map fun x=>x.1)=(L.map It.tx).take k++[T]++(L.map It.tx).drop k:=by
    rw [yU,List.map_map,← List.map_take,← List.map_drop];simp;rfl
   rw [e];exact h1)
  (by
   have e:(((L.take k).map fun x=>(x.nt:Int))++((T,n)::(L.drop k).map fun x=>(x.tx,x.nt)).map fun x=>(x.2:Int))=(L.map fun x=>(x.nt:Int)).take k++[(n:Int)]++(L.map fun x=>(x.nt:Int)).drop k:=by
    rw [yU,List.map_map,← List.map_take,← List.map_drop];simp;rfl
   rw [e];exact h2)
  h3
 rw [hDl,List.map_take,htk] at this;exact this
theorem c4S {v1 v2 v3:Value} {b1 b2 b3:Nat} (w:World) (hT:C6 w) (hS:Spc w) (hw:Pow w) (h1:Row 9 1 J5 b1 w v1 [[101,52]]) (h2:Row 3 1 a9M b2 w v2 [0]) (h3:Row 4 1 a9N b3 w v3 [false]) :
  Calls G.P 23 #[m7 [],v1,v2,v3] w (fun r w'=>∃ u,r = .returned (.tuple #[u,.int .i64 1,.bool true])∧Row 39 81 stL w.heap.size w' u (a5B H1 (!true) [e4])∧Cl w w') :=
 a64 a7i zd zd [⟨e4,[101,52],0⟩] [] c2U (fun _ _ _ h=>by cases h) zd zd true (fun _=>rfl) [false] rfl (by simp) w hT hS hw h1 h2 h3
set_option maxHeartbeats 4000000 in
theorem a7k (s:g9) (usual:Bool) (ms:List Mv) (hms:∀ m∈ms,MvR m) (at_ which how:Int) {v:Value} (w:World) (hT:C6 w) (hS:Spc w) (hw:Pow w) (hrow:a5x w v ms):Calls G.P 7 #[F5 s,.bool usual,v,.int .i64 at_,.int .i64 which,.int .i64 how] w (N0 (.bool true) w):=by
 obtain ⟨al,cl,rfl,hal⟩:=hrow.form;have hst:=fun w=>c0g s usual w;have hu:usual=true→(if usual then H1 else s)=H1:=fun h=>by rw [zM h]
 have hfe:=fun (hI:B7 (if usual then H1 else s)) (hN:Y6 (if usual then H1 else s)) w=>c2B s usual (fun h=>b5h (p:=s) (by simpa [h] using hI) (by simpa [h] using hN)) w
 have htx:(if usual then ([]:Tx) else a7q s)=(if usual then [] else a7q (if usual then H1 else s)):=by cases usual<;>simp
 rw [htx] at hfe;generalize (if usual then H1 else s)=p at *
 have hP:=z8 p;refine zN Tryz.func7 ?_;refine zG ?_;generalize hW:w.alloc (.cells (t8 s) 24)=W0;have hP0:W0.heap[w.heap.size]?=some (.cells (t8 s) 24 (0,0)):=by rw [← hW];exact d8 _ _
 have hE:Cl w W0:=by rw [← hW];exact Cl.alloc _ _
 clear hW;refine zR ?_;apply E.d7<;>intro h
 ·refine zR ?_;(repeat (refine E.A0 h ?_;refine zR ?_))
  exact ⟨rfl,hE⟩
 have hlen:=h;clear h;refine zR ?_;(repeat (refine E.o9 hlen ?_;refine zR ?_))
 refine b7 _ (A4 hP0) (zR ?_);refine o7 (hst _) fun w2 c2=>zR ?_;obtain ⟨zp,hzp,hz69⟩:=b1t;refine s7 zp hzp ?_;have hB0:(w2.alloc (.cells zp.cells 24)).heap[w2.heap.size]?=some (.cells zp.cells 24 (0,0)):=d8 _ _;have c3:Cl w2 (w2.alloc (.cells zp.cells 24)):=Cl.alloc _ _;have hP1:=(c2.trans c3).blk hP0;have c3:=hE.trans (c2.trans c3);generalize w2.alloc (.cells zp.cells 24)=w3 at *;refine zR ?_;refine K2 hB0 (Z2 p) rfl a14 (C8 _) (one_pos _) (by rw [hz69];omega) (fun w4 u4=>?_)
 have hB1:w4.heap[w2.heap.size]?=some (.cells (t8 p) 24 (0,0)):=by rw [u4.at_,B5 _ _ (by rw [C8,hz69])];rfl
 have hs2:w.heap.size<w2.heap.size:=by have:=(c2.blk hP0);exact (yn.1 this).1
 have hP4:w4.heap[w.heap.size]?=some (.cells (t8 s) 24 (0,0)):=(Tn.upd u4).blk hP1 zo;have c4:Cl w w4:=u4.cl c3 zo;clear hB0 u4 hP1 c3 hP0;refine zR ?_;refine b7 _ (A4 hB1) (zR ?_);refine o7 (b7M p ms hms _ (hrow.step c4)) fun w5 c5=>?_;have c5':=c4.trans c5;have hask:=@c0u p ms;generalize c5m p ms=aq at *;cases aq
 ·refine zR ?_;exact ⟨rfl,c5'⟩
 obtain ⟨hI,hh,hf,hn,hq⟩:=hask rfl;have hb0:=hI.h0;have hb1:=hI.f1;have hB5:=c5.blk hB1;have hP5:=c5.blk hP4;refine zR ?_;refine b7 _ (A4 hB5) (zR ?_);refine m8 (c28 p hI ⟨zo,zo⟩ (!usual) ms hms zo w5 (hrow.step c5')) ?_;rintro _ w6 ⟨vw,rfl,hW6,c6⟩;have cw:=c5'.trans c6;have hsl:(a5B p (!usual) ms).length≤80:=by
  have:(a5B p (!usual) ms).length≤ms.length:=b1c ms _ _ _;omega
 have hso:=b5v hI hh hf hn hms (!usual);have hfe:=hfe hI ⟨zo,zo⟩;obtain ⟨k,hk,ek⟩:=kOf at_ (n:=(a5B p (!usual) ms).length+1) zo zo
 obtain ⟨EP,hIE,hNE,hqE,hE0,hEj,him⟩:=b55 hI hh hf hq hn usual hu [which,how,(k:Int)] k zo;have hTXc:=fun {b0:Nat} {u v:Value} w hu hv=>b7Z (a5B p (!usual) ms) zo [which,how,(k:Int)] (by simp) (b0:=b0) (u:=u) (v:=v) w hu hv
 have ltx:(b8f [which,how,(k:Int)] 0 (a5B p (!usual) ms)).length=(a5B p (!usual) ms).length:=by rw [← b51,yi,a8v]
 have lns:(c4P [which,how,(k:Int)] 0 (a5B p (!usual) ms)).length=(a5B p (!usual) ms).length:=by rw [← b52,yi,a8v]
 generalize b8f [which,how,(k:Int)] 0 (a5B p (!usual) ms)=TX at *;generalize c4P [which,how,(k:Int)] 0 (a5B p (!usual) ms)=NS at *;generalize a5B p (!usual) ms=S at *;generalize (if usual then ([]:Tx) else a7q p)=T0 at *
 obtain ⟨aw,kw,rfl,haw⟩:=hW6.form;refine ⟨_,rfl,?_⟩;have hP6:=c6.blk hP5;have hB6:=c6.blk hB5;have hs1:=C4 (i:=S.length) zo;have hPE:=z8 EP;refine zR ?_;rw [hs1];refine E.o9 (by rw [a3y zo];omega) (zR ?_)
 refine b7 _ (A4 hB6) (zR ?_);refine s7 zp hzp ?_;have c7:=cw.trans (Cl.alloc w6 (.cells zp.cells 24));have n7:=d8 w6 (.cells zp.cells 24);have hP7:=(Cl.alloc w6 (.cells zp.cells 24)).blk hP6;have hW7:=hW6.step (Cl.alloc w6 (.cells zp.cells 24));have hg6:w.heap.size≤w6.heap.size:=cw.size;have hPl:=A7 hP6;obtain ⟨H,hH⟩:∃ H,H=w6.heap.size:=⟨_,rfl⟩;rw [← hH] at n7 hg6 hPl ⊢;generalize w6.alloc (.cells zp.cells 24)=w7 at *;refine zR ?_;refine K2 n7 (Z2 p) rfl a14 (C8 _) (one_pos _) (by rw [hz69];omega) (fun w8 u8=>?_)
 have n8:w8.heap[H]?=some (.cells (t8 p) 24 (0,0)):=by rw [u8.at_,B5 _ _ (by rw [C8,hz69])];rfl
 have hP8:=(Tn.upd u8).blk hP7 zo;have hW8:Row 39 81 stL w5.heap.size w8 (.slice aw S.length kw) S:=(KT.upd u8 n7).row hW7 zd;have c8:Cl w w8:=u8.cl c7 hg6;clear n7 hP7 hW7 c7 u8 hW6 hP6 hB6 hB5 hP5 hB1 hP4;refine zG ?_;refine B0 (σ:=Unit) [3] 27 (fun _=>[(3,.int .i64 (k:Nat))]) (fun _ w'=>w'.heap[H]?=some (.cells (t8 EP) 24 (0,0))∧w'.heap[w.heap.size]?=some (.cells (t8 s) 24 (0,0))∧Row 39 81 stL w5.heap.size w' (.slice aw S.length kw) S∧Cl w w') zk ?_ (fun _ j w9 h9=>?_)
 ·refine zR ?_;rw [ek];refine zR ?_;apply E.d7<;>intro h
  ·have h0:0<k:=by omega
   clear h;obtain ⟨j,rfl⟩:∃ j,k=j+1:=⟨k-1,zo⟩;obtain ⟨gw,rfl⟩:=haw zo;have hj:j<S.length:=by omega
   have e1:IntKind.i64.wrap (((j+1:Nat):Int)-1)=(j:Int):=by rw [g8 zo zo];omega
   have hE1:=hEj j hj rfl;refine zR ?_;rw [e1];refine zC ?_;refine zR ?_;refine b7 _ (c2O hW8 hj (by simp only [E.s8,zg,yZ];rfl)) ?_
   rw [← hE1];refine zR ?_;refine K2 n8 (Z2 EP) rfl a14 (C8 _) (one_pos _) (by rw [hP];decide) (fun w9 u9=>zR ?_)
   exact ⟨(),⟨rfl,trivial⟩,by rw [u9.at_,B5 _ _ (by rw [C8,hP])];rfl,(Tn.upd u9).blk hP8 zo,(KT.upd u9 n8).row hW8 zd,u9.cl c8 hg6⟩
  ·have h0:=hE0 zo;refine zR ?_;exact ⟨(),⟨rfl,trivial⟩,by rw [h0];exact n8,hP8,hW8,c8⟩
 obtain ⟨n9,hP9,hW9,cw⟩:=h9;have hbd:=c2Q EP hIE (hNE.nm zo) hqE which how;refine zR ?_;refine b7 _ (A4 n9) (zR ?_);refine m8 (hbd w9) ?_;rintro _ w10 ⟨T,n,b,rfl,href,c10⟩;refine ⟨_,rfl,?_⟩;have hP10:=c10.blk hP9;have hW10:=hW9.step c10;have cw:=cw.trans c10;clear n9 hP9 hW9 c10 n8 hP8 hW8 c8;cases b
 ·refine zR ?_;exact ⟨rfl,cw⟩
 obtain ⟨hn3,href⟩:=href rfl;refine zR ?_;refine A8 O2 [.int .i64 which,.int .i64 how,.int .i64 k] (by rw [zb];rfl) (by intro v hv;simp only [yV,zy,xH] at hv;rcases hv with rfl|rfl|rfl<;>rfl) rfl zd zd ?_
 have n11:=d8 w10 (.cells (([.int .i64 which,.int .i64 how,.int .i64 k]:List Value).flatMap fun v=>v.cells.toList).toArray 3);have c11:=Cl.alloc w10 (.cells (([.int .i64 which,.int .i64 how,.int .i64 k]:List Value).flatMap fun v=>v.cells.toList).toArray 3);have hin:a62 (w10.alloc (.cells (([.int .i64 which,.int .i64 how,.int .i64 k]:List Value).flatMap fun v=>v.cells.toList).toArray 3)) (.slice (some ⟨w10.heap.size,0,none⟩) 3 3) [which,how,(k:Int)]:=⟨_,_,rfl,fun _=>⟨_,_,_,_,_,rfl,n11,fun i hi=>by
  rcases (by simp at hi;omega:i=0∨i=1∨i=2) with rfl|rfl|rfl<;>rfl⟩⟩
 generalize w10.alloc (.cells (([.int .i64 which,.int .i64 how,.int .i64 k]:List Value).flatMap fun v=>v.cells.toList).toArray 3)=w11 at *;have hP11:=c11.blk hP10;have hW11:=hW10.step c11;have cw:=cw.trans c11;refine zR ?_;refine m8 (hTXc w11 hW11 hin) ?_;rintro _ w12 ⟨va,vb,rfl,hA,hB,c12⟩;obtain ⟨xa,ya,rfl,_⟩:=hA.form;obtain ⟨xb,yb,rfl,_⟩:=hB.form;refine ⟨_,rfl,?_⟩;have hP12:=c12.blk hP11;have hW12:=hW11.step c12;have cw:=cw.trans c12;have s12:=cw.size;rw [ltx] at hA;rw [lns] at hB;rw [ltx,lns];clear hP10 hW10 n11 c11 hin hP11 hW11 c12 hTXc hbd;have yA:=hA.cap_le;have yB:=hB.cap_le;refine zG ?_;refine B0 (σ:=Value) [19] 27 (fun v=>[(19,v)]) (fun v w'=>Row 9 1 J5 w12.heap.size w' v (TX.take k++[T]++TX.drop k)∧Cl w12 w') zk ?_ (fun v1 j wA h13=>?_)
 ·refine zR ?_;have sT:=hA.srcT o8 k zo;have sD:=hA.srcD o8 k zo ltx.symm;have cD:Cl w12 w12.drew:=Cl.drew (Cl.refl _);refine H7.mk3 (fun w'=>Cl w12 w') [1,2,3,5,8,9,10] (.cons 0 (.cons 4 (.cons 6 (.cons 7 (.cons 11 (.cons 12 .done .nil) .nil) .nil) .nil) (.cons 6 (.cons 4 (.cons 7 (.cons 11 (.cons 12 .done .nil) .nil) .nil) .nil) .nil)) (.cons 6 (.cons 0 (.cons 4 (.cons 7 (.cons 11 (.cons 12 .done .nil) .nil) .nil) .nil) .nil) .nil)) cD zk (zR ?_);refine a9O elStr (h:=k) rfl rfl zo (zR ?_);refine b3R elStr (h:=k) rfl rfl zo (zR ?_);refine And.intro ?_ (And.intro ?_ trivial);refine zR ?_;refine a4x elStr ?_;have r13:=(a8u (e:=9) (z:=1) (enc:=J5) w12.drew).mono cD.size;have c13:=cD.trans (Cl.alloc w12.drew (.cells #[] 9));have z13:=A7 (d8 w12.drew (.cells #[] 9));generalize w12.drew.alloc (.cells #[] 9)=w13 at *;refine zR ?_;refine And.intro c13 (And.intro ?_ (And.intro ?_ trivial));refine zR ?_;refine J9 elStr rfl r13 rfl (sT.step c13) o8 I6 (by simp only [zF,yh,yj,zh,za];omega) zd c13.size fun v14 w14 r14 g14=>?_
  have c14:=g14.cl w12 rfl c13;obtain ⟨a4,k4,rfl,_⟩:=r14.form;refine zR ?_;refine And.intro c14 (And.intro ?_ trivial);refine zR ?_;refine A8 elStr [m7 T] (by rw [zb];rfl) (by intro v hv;rw [zY.1 hv];rfl) rfl zd zd ?_
  have n15:=d8 w14 (.cells (([m7 T]:List Value).flatMap fun v=>v.cells.toList).toArray 9);have c15:=c14.trans (Cl.alloc w14 (.cells (([m7 T]:List Value).flatMap fun v=>v.cells.toList).toArray 9));have r15:=r14.step (Cl.alloc w14 (.cells (([m7 T]:List Value).flatMap fun v=>v.cells.toList).toArray 9));generalize w14.alloc (.cells (([m7 T]:List Value).flatMap fun v=>v.cells.toList).toArray 9)=w15 at *;refine zR ?_;refine And.intro c15 (And.intro ?_ trivial);rotate_left;refine zR ?_;refine A8 elStr [m7 T] (by rw [zb];rfl) (by intro v hv;rw [zY.1 hv];rfl) rfl zd zd ?_
  have n14:=d8 w13 (.cells (([m7 T]:List Value).flatMap fun v=>v.cells.toList).toArray 9);have c14:=c13.trans (Cl.alloc w13 (.cells (([m7 T]:List Value).flatMap fun v=>v.cells.toList).toArray 9));have r14:=r13.step (Cl.alloc w13 (.cells (([m7 T]:List Value).flatMap fun v=>v.cells.toList).toArray 9));generalize w13.alloc (.cells (([m7 T]:List Value).flatMap fun v=>v.cells.toList).toArray 9)=w14 at *;refine zR ?_;refine And.intro c14 (And.intro ?_ trivial);refine zR ?_;refine J9 elStr rfl r14 rfl (sT.step c14) o8 I6 (by simp only [zF,yh,yj,zh,za];omega) zd c14.size fun v15 w15 r15 g15=>?_
  have c15:=g15.cl w12 rfl c14;have n15:=g15.keep _ _ n14 (fun e=>absurd (show w12.drew.heap.size=w13.heap.size from yp e) zo);obtain ⟨a4,k4,rfl,_⟩:=r15.form;refine zR ?_;refine And.intro c15 (And.intro ?_ trivial);rotate_left;refine zR ?_;refine A8 elStr [m7 T] (by rw [zb];rfl) (by intro v hv;rw [zY.1 hv];rfl) rfl zd zd ?_
  have n13:=d8 w12.drew (.cells (([m7 T]:List Value).flatMap fun v=>v.cells.toList).toArray 9);have c13:=cD.trans (Cl.alloc w12.drew (.cells (([m7 T]:List Value).flatMap fun v=>v.cells.toList).toArray 9));have z13:=A7 n13;generalize w12.drew.alloc (.cells (([m7 T]:List Value).flatMap fun v=>v.cells.toList).toArray 9)=w13 at *;refine zR ?_;refine And.intro c13 (And.intro ?_ trivial);refine zR ?_;refine a4x elStr ?_;have r14:=(a8u (e:=9) (z:=1) (enc:=J5) w13).mono c13.size;have c14:=c13.trans (Cl.alloc w13 (.cells #[] 9));have n14:=(Cl.alloc w13 (.cells #[] 9)).blk n13;generalize w13.alloc (.cells #[] 9)=w14 at *;refine zR ?_;refine And.intro c14 (And.intro ?_ trivial);refine zR ?_;refine J9 elStr rfl r14 rfl (sT.step c14) o8 I6 (by simp only [zF,yh,yj,zh,za];omega) zd c14.size fun v15 w15 r15 g15=>?_
  have c15:=g15.cl w12 rfl c14;have n15:=g15.keep _ _ n14 (fun e=>absurd (show w13.heap.size=w12.drew.heap.size from yp e) zo);obtain ⟨a4,k4,rfl,_⟩:=r15.form;refine zR ?_;refine And.intro c15 (And.intro ?_ trivial);all_goals (
   refine zR ?_;refine J9 elStr rfl r15 rfl (a4Q n15 rfl) o8 I6 (by simp only [zF,yh,yj,zh,za];omega) zd c15.size fun v16 w16 r16 g16=>?_
   have c16:=g16.cl w12 rfl c15;obtain ⟨a6,k6,rfl,_⟩:=r16.form;refine zR ?_;refine And.intro c16 (And.intro ?_ trivial);refine zR ?_;refine J9 elStr rfl r16 rfl (sD.step c16) o8 I6 (by simp only [zF,yh,yj,zh,za];omega) zd c16.size fun v17 w17 r17 g17=>?_
   have c17:=g17.cl w12 rfl c16;obtain ⟨a7,k7,rfl,_⟩:=r17.form;refine zR ?_;refine And.intro c17 (And.intro ?_ trivial);refine zR ?_;refine And.intro c17 (zR ?_);exact ⟨_,⟨rfl,trivial⟩,r17,c17⟩)
 obtain ⟨hTX,c13⟩:=h13;obtain ⟨x1,y1,rfl,_⟩:=hTX.form;have hl1:(TX.take k++[T]++TX.drop k).length=S.length+1:=by simp only [zF,yh,yj,zh,za];omega
 rw [hl1] at hTX ⊢;have hB:=hB.step c13;refine B0 (σ:=Value) [20] 27 (fun v=>[(20,v)]) (fun v w'=>Row 3 1 a9M wA.heap.size w' v (NS.take k++[(n:Int)]++NS.drop k)∧Cl wA w') zk ?_ (fun v2 j w14 h14=>?_)
 ·refine zR ?_;have sT:=hB.srcT O9 k zo;have sD:=hB.srcD O9 k zo lns.symm;have cD:Cl wA wA.drew:=Cl.drew (Cl.refl _);refine H7.mk3 (fun w'=>Cl wA w') [1,2,3,5,8,9,10] (.cons 0 (.cons 4 (.cons 6 (.cons 7 (.cons 11 (.cons 12 .done .nil) .nil) .nil) .nil) (.cons 6 (.cons 4 (.cons 7 (.cons 11 (.cons 12 .done .nil) .nil) .nil) .nil) .nil)) (.cons 6 (.cons 0 (.cons 4 (.cons 7 (.cons 11 (.cons 12 .done .nil) .nil) .nil) .nil) .nil) .nil)) cD zk (zR ?_);refine a9O O2 (h:=k) rfl rfl zo (zR ?_);refine b3R O2 (h:=k) rfl rfl zo (zR ?_);refine And.intro ?_ (And.intro ?_ trivial);refine zR ?_;refine a4x O2 ?_;have r13:=(a8u (e:=3) (z:=1) (enc:=a9M) wA.drew).mono cD.size;have c13:=cD.trans (Cl.alloc wA.drew (.cells #[] 3));have z13:=A7 (d8 wA.drew (.cells #[] 3));generalize wA.drew.alloc (.cells #[] 3)=w13 at *;refine zR ?_;refine And.intro c13 (And.intro ?_ (And.intro ?_ trivial));refine zR ?_;refine J9 O2 rfl r13 rfl (sT.step c13) O9 a0l (by simp only [zF,yh,yj,zh,za];omega) zd c13.size fun v14 w14 r14 g14=>?_
  have c14:=g14.cl wA rfl c13;obtain ⟨a4,k4,rfl,_⟩:=r14.form;refine zR ?_;refine And.intro c14 (And.intro ?_ trivial);refine zR ?_;refine A8 O2 [.int .i64 (n:Nat)] (by rw [zb];rfl) (by intro v hv;rw [zY.1 hv];rfl) rfl zd zd ?_
  have n15:=d8 w14 (.cells (([.int .i64 (n:Nat)]:List Value).flatMap fun v=>v.cells.toList).toArray 3);have c15:=c14.trans (Cl.alloc w14 (.cells (([.int .i64 (n:Nat)]:List Value).flatMap fun v=>v.cells.toList).toArray 3));have r15:=r14.step (Cl.alloc w14 (.cells (([.int .i64 (n:Nat)]:List Value).flatMap fun v=>v.cells.toList).toArray 3));generalize w14.alloc (.cells (([.int .i64 (n:Nat)]:List Value).flatMap fun v=>v.cells.toList).toArray 3)=w15 at *;refine zR ?_;refine And.intro c15 (And.intro ?_ trivial);rotate_left;refine zR ?_;refine A8 O2 [.int .i64 (n:Nat)] (by rw [zb];rfl) (by intro v hv;rw [zY.1 hv];rfl) rfl zd zd ?_
  have n14:=d8 w13 (.cells (([.int .i64 (n:Nat)]:List Value).flatMap fun v=>v.cells.toList).toArray 3);have c14:=c13.trans (Cl.alloc w13 (.cells (([.int .i64 (n:Nat)]:List Value).flatMap fun v=>v.cells.toList).toArray 3));have r14:=r13.step (Cl.alloc w13 (.cells (([.int .i64 (n:Nat)]:List Value).flatMap fun v=>v.cells.toList).toArray 3));generalize w13.alloc (.cells (([.int .i64 (n:Nat)]:List Value).flatMap fun v=>v.cells.toList).toArray 3)=w14 at *;refine zR ?_;refine And.intro c14 (And.intro ?_ trivial);refine zR ?_;refine J9 O2 rfl r14 rfl (sT.step c14) O9 a0l (by simp only [zF,yh,yj,zh,za];omega) zd c14.size fun v15 w15 r15 g15=>?_
  have c15:=g15.cl wA rfl c14;have n15:=g15.keep _ _ n14 (fun e=>absurd (show wA.drew.heap.size=w13.heap.size from yp e) zo);obtain ⟨a4,k4,rfl,_⟩:=r15.form;refine zR ?_;refine And.intro c15 (And.intro ?_ trivial);rotate_left;refine zR ?_;refine A8 O2 [.int .i64 (n:Nat)] (by rw [zb];rfl) (by intro v hv;rw [zY.1 hv];rfl) rfl zd zd ?_
  have n13:=d8 wA.drew (.cells (([.int .i64 (n:Nat)]:List Value).flatMap fun v=>v.cells.toList).toArray 3);have c13:=cD.trans (Cl.alloc wA.drew (.cells (([.int .i64 (n:Nat)]:List Value).flatMap fun v=>v.cells.toList).toArray 3));have z13:=A7 n13;generalize wA.drew.alloc (.cells (([.int .i64 (n:Nat)]:List Value).flatMap fun v=>v.cells.toList).toArray 3)=w13 at *;refine zR ?_;refine And.intro c13 (And.intro ?_ trivial);refine zR ?_;refine a4x O2 ?_;have r14:=(a8u (e:=3) (z:=1) (enc:=a9M) w13).mono c13.size;have c14:=c13.trans (Cl.alloc w13 (.cells #[] 3));have n14:=(Cl.alloc w13 (.cells #[] 3)).blk n13;generalize w13.alloc (.cells #[] 3)=w14 at *;refine zR ?_;refine And.intro c14 (And.intro ?_ trivial);refine zR ?_;refine J9 O2 rfl r14 rfl (sT.step c14) O9 a0l (by simp only [zF,yh,yj,zh,za];omega) zd c14.size fun v15 w15 r15 g15=>?_
  have c15:=g15.cl wA rfl c14;have n15:=g15.keep _ _ n14 (fun e=>absurd (show w13.heap.size=wA.drew.heap.size from yp e) zo);obtain ⟨a4,k4,rfl,_⟩:=r15.form;refine zR ?_;refine And.intro c15 (And.intro ?_ trivial);all_goals (
   refine zR ?_;refine J9 O2 rfl r15 rfl (a4Q n15 rfl) O9 a0l (by simp only [zF,yh,yj,zh,za];omega) zd c15.size fun v16 w16 r16 g16=>?_
   have c16:=g16.cl wA rfl c15;obtain ⟨a6,k6,rfl,_⟩:=r16.form;refine zR ?_;refine And.intro c16 (And.intro ?_ trivial);refine zR ?_;refine J9 O2 rfl r16 rfl (sD.step c16) O9 a0l (by simp only [zF,yh,yj,zh,za];omega) zd c16.size fun v17 w17 r17 g17=>?_
   have c17:=g17.cl wA rfl c16;obtain ⟨a7,k7,rfl,_⟩:=r17.form;refine zR ?_;refine And.intro c17 (And.intro ?_ trivial);refine zR ?_;refine And.intro c17 (zR ?_);exact ⟨_,⟨rfl,trivial⟩,r17,c17⟩)
 obtain ⟨hNS,c14⟩:=h14;obtain ⟨x2,y2,rfl,_⟩:=hNS.form;have hTX:=hTX.step c14;have c214:=c13.trans c14;have hP14:=c214.blk hP12;have hW14:=hW12.step c214;have cw:=cw.trans c214;clear hA hB hP12 hW12 c13 c14 c214;refine zR ?_;refine A8 elStr [m7 [101,52]] (by rw [zb];rfl) (by intro v hv;rw [zY.1 hv];rfl) rfl zd zd ?_
 have n15:=Row.blk (enc:=J5) (e:=9) (z:=1) (l:=[[101,52]]) (b0:=0) o8 zd (xJ _) (d8 w14 (.cells (([m7 [101,52]]:List Value).flatMap fun v=>v.cells.toList).toArray 9));have c15:=Cl.alloc w14 (.cells (([m7 [101,52]]:List Value).flatMap fun v=>v.cells.toList).toArray 9);generalize w14.alloc (.cells (([m7 [101,52]]:List Value).flatMap fun v=>v.cells.toList).toArray 9)=w15 at *;refine zR ?_;refine A8 O2 [.int .i64 0] (by rw [zb];rfl) (by intro v hv;rw [zY.1 hv];rfl) rfl zd zd ?_
 have n16:=Row.blk (enc:=a9M) (e:=3) (z:=1) (l:=[0]) (b0:=0) O9 zd (xJ _) (d8 w15 (.cells (([.int .i64 0]:List Value).flatMap fun v=>v.cells.toList).toArray 3));have d16:=Cl.alloc w15 (.cells (([.int .i64 0]:List Value).flatMap fun v=>v.cells.toList).toArray 3);generalize w15.alloc (.cells (([.int .i64 0]:List Value).flatMap fun v=>v.cells.toList).toArray 3)=w16 at *;have n15:=n15.step d16;have c16:=c15.trans d16;refine zR ?_;refine A8 elBool [.bool false] (by rw [zb];rfl) (by intro v hv;rw [zY.1 hv];rfl) rfl zd zd ?_
 have n17:=Row.blk (enc:=a9N) (e:=4) (z:=1) (l:=[false]) (b0:=0) a63 zd (xJ _) (d8 w16 (.cells (([.bool false]:List Value).flatMap fun v=>v.cells.toList).toArray 4));have d17:=Cl.alloc w16 (.cells (([.bool false]:List Value).flatMap fun v=>v.cells.toList).toArray 4);generalize w16.alloc (.cells (([.bool false]:List Value).flatMap fun v=>v.cells.toList).toArray 4)=w17 at *;have c17:=c16.trans d17;have cw7:=cw.trans c17;refine zR ?_;refine m8 (c4S w17 (hT.cl cw7) (hS.cl cw7) (hw.cl cw7) (n15.step d17) (n16.step d17) n17) ?_;rintro _ w18 ⟨vU,rfl,hU,c18⟩;refine ⟨_,rfl,?_⟩;have hUl:=c00;generalize a5B H1 (!true) [e4]=U at *;obtain ⟨aU,kU,rfl,_⟩:=hU.form;rw [hUl];have c18:=c17.trans c18;have hP18:=c18.blk hP14;have hW18:=hW14.step c18;have hTX:=hTX.step c18;have hNS:=hNS.step c18;have cw:=cw.trans c18;clear n15 c15 n16 d16 c16 n17 d17 c17 cw7 hP14 hW14 c18 hU;refine zG ?_;refine B0 (σ:=Value) [24,25,26] 27 (fun v=>[(24,v),(25,.int .i64 (k:Nat)),(26,.bool true)]) (fun v w'=>Row 39 81 stL 0 w' v (S.take k)∧Cl w18 w') zk ?_ (fun v3 j w19 h19=>?_)
 ·have cD:Cl w18 w18.drew:=Cl.drew (Cl.refl _);refine zR ?_;refine H7.mk3 (fun w'=>Cl w18 w') [0,1,3,4,5,6] (.cons 2 (.cons 7 (.cons 8 (.cons 9 (.cons 10 (.cons 11 (.cons 12 (.cons 13 (.cons 14 (.cons 15 .done .nil) .nil) .nil) (.cons 13 (.cons 12 (.cons 14 (.cons 15 .done .nil) .nil) (.cons 14 (.cons 12 (.cons 15 .done .nil) .nil) .nil)) .nil)) (.cons 12 (.cons 11 (.cons 13 (.cons 14 (.cons 15 .done .nil) .nil) .nil) (.cons 13 (.cons 11 (.cons 14 (.cons 15 .done .nil) .nil) .nil) .nil)) (.cons 13 (.cons 11 (.cons 12 (.cons 14 (.cons 15 .done .nil) .nil) (.cons 14 (.cons 12 (.cons 15 .done .nil) .nil) .nil)) (.cons 12 (.cons 11 (.cons 14 (.cons 15 .done .nil) .nil) .nil) .nil)) .nil))) (.cons 11 (.cons 10 (.cons 12 (.cons 13 (.cons 14 (.cons 15 .done .nil) .nil) .nil) (.cons 13 (.cons 12 (.cons 14 (.cons 15 .done .nil) .nil) (.cons 14 (.cons 12 (.cons 15 .done .nil) .nil) .nil)) .nil)) (.cons 12 (.cons 10 (.cons 13 (.cons 14 (.cons 15 .done .nil) .nil) .nil) .nil) .nil)) (.cons 12 (.cons 10 (.cons 11 (.cons 13 (.cons 14 (.cons 15 .done .nil) .nil) .nil) (.cons 13 (.cons 11 (.cons 14 (.cons 15 .done .nil) .nil) .nil) .nil)) (.cons 11 (.cons 10 (.cons 13 (.cons 14 (.cons 15 .done .nil) .nil) .nil) .nil) .nil)) .nil))) .nil) .nil) .nil) (.cons 7 (.cons 2 (.cons 8 (.cons 9 (.cons 10 (.cons 11 (.cons 12 (.cons 13 (.cons 14 (.cons 15 .done .nil) .nil) .nil) (.cons 13 (.cons 12 (.cons 14 (.cons 15 .done .nil) .nil) (.cons 14 (.cons 12 (.cons 15 .done .nil) .nil) .nil)) .nil)) (.cons 12 (.cons 11 (.cons 13 (.cons 14 (.cons 15 .done .nil) .nil) .nil) (.cons 13 (.cons 11 (.cons 14 (.cons 15 .done .nil) .nil) .nil) .nil)) (.cons 13 (.cons 11 (.cons 12 (.cons 14 (.cons 15 .done .nil) .nil) (.cons 14 (.cons 12 (.cons 15 .done .nil) .nil) .nil)) (.cons 12 (.cons 11 (.cons 14 (.cons 15 .done .nil) .nil) .nil) .nil)) .nil))) (.cons 11 (.cons 10 (.cons 12 (.cons 13 (.cons 14 (.cons 15 .done .nil) .nil) .nil) (.cons 13 (.cons 12 (.cons 14 (.cons 15 .done .nil) .nil) (.cons 14 (.cons 12 (.cons 15 .done .nil) .nil) .nil)) .nil)) (.cons 12 (.cons 10 (.cons 13 (.cons 14 (.cons 15 .done .nil) .nil) .nil) .nil) .nil)) (.cons 12 (.cons 10 (.cons 11 (.cons 13 (.cons 14 (.cons 15 .done .nil) .nil) .nil) (.cons 13 (.cons 11 (.cons 14 (.cons 15 .done .nil) .nil) .nil) .nil)) (.cons 11 (.cons 10 (.cons 13 (.cons 14 (.cons 15 .done .nil) .nil) .nil) .nil) .nil)) .nil))) .nil) .nil) .nil) .nil)) cD zk (zR ?_);refine l9 _ (fun w' hw=>A4 (hw.blk hP18)) (zR ?_);refine And.intro ?_ (And.intro ?_ trivial)
  ·refine zR ?_;refine o7 (hfe w18.drew) fun w20 c20=>?_;have c20:=cD.trans c20;refine zR ?_;refine And.intro c20 (And.intro ?_ trivial);refine zR ?_;refine b1e (S.length+1) rfl rfl zo fun w21 c21 rF=>?_;have c21:=c20.trans c21;refine zR ?_;refine And.intro c21 (And.intro ?_ trivial);have cw1:=cw.trans c21;refine zR ?_;refine m8 (him T n hn3 href _ _ _ _ _ _ w21 (hT.cl cw1) (hS.cl cw1) (hw.cl cw1) (hTX.step c21) (hNS.step c21) rF) ?_;rintro _ w22 ⟨vR,rfl,hR,c22⟩;refine ⟨_,rfl,?_⟩;have c22:=c21.trans c22;have hR:=hR.mono (xJ _);obtain ⟨a8,k8,rfl,_⟩:=hR.form;iterate 40 (all_goals (first|exact trivial|exact ⟨_,⟨rfl,rfl,rfl,trivial⟩,hR,c22⟩|refine And.intro c22 ?_|refine And.intro ?_ ?_|refine zR ?_))
  ·refine zR ?_;refine b1e (S.length+1) rfl rfl zo fun w20 c20 rF=>?_;have c20:=cD.trans c20;refine zR ?_;refine And.intro c20 (And.intro ?_ trivial);refine zR ?_;refine o7 (hfe w20) fun w21 c21=>?_;have rF:=rF.step c21;have c21:=c20.trans c21;refine zR ?_;refine And.intro c21 (And.intro ?_ trivial);have cw1:=cw.trans c21;refine zR ?_;refine m8 (him T n hn3 href _ _ _ _ _ _ w21 (hT.cl cw1) (hS.cl cw1) (hw.cl cw1) (hTX.step c21) (hNS.step c21) rF) ?_;rintro _ w22 ⟨vR,rfl,hR,c22⟩;refine ⟨_,rfl,?_⟩;have c22:=c21.trans c22;have hR:=hR.mono (xJ _);obtain ⟨a8,k8,rfl,_⟩:=hR.form;iterate 40 (all_goals (first|exact trivial|exact ⟨_,⟨rfl,rfl,rfl,trivial⟩,hR,c22⟩|refine And.intro c22 ?_|refine And.intro ?_ ?_|refine zR ?_))
 obtain ⟨hF,c19⟩:=h19;obtain ⟨a9,k9,rfl,_⟩:=hF.form;have hW19:=hW18.step c19;have yW:=hW19.cap_le;refine zR ?_;(repeat (refine E.A0 rfl ?_;refine zR ?_))
 refine c2T b4B (h:=k) rfl rfl zo (zR ?_);(repeat (refine E.A0 rfl ?_;refine zR ?_))
 refine o7 (c0x (S.take k) (fun s hs=>hso s (List.mem_of_mem_take hs)) (by rw [yh];omega) w19 hF (hW19.pre J7 k zo)) fun w20 c20=>zR ?_
 (repeat (refine E.A0 rfl ?_;refine zR ?_))
 exact ⟨rfl,cw.trans (c19.trans c20)⟩
end
