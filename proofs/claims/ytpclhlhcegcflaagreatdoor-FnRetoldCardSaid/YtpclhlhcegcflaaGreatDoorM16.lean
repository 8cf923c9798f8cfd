/- One part of the proof: Pk11 Pk13. -/
import Derived.Test.YtpclhlhcegcflaaGreatDoorM1
import Derived.Test.YtpclhlhcegcflaaGreatDoorM3
import Derived.Test.YtpclhlhcegcflaaGreatDoorM11
import Derived.Test.YtpclhlhcegcflaaGreatDoorM15
namespace Go.Proofs.YtpclhlhcegcflaaGreatDoor
set_option maxRecDepth 100000
set_option linter.unusedSimpArgs false
set_option linter.unusedVariables false
section
open Go Go.RowKit
open E
open Ch Bb
theorem c0y {i:Nat} (h:i<12):colM ((i:Int)+1)=(i:Int)/6+1:=by
 unfold colM Ch.t8;rw [if_neg zo];split<;>omega
theorem c2U {p:A3} {i:Nat} (h:i<12):(mbOf p).of ((i:Int)+1)=pcs p ((i:Int)+1):=by
 unfold MB.of;rw [if_neg zo,show ((i:Int)+1).toNat-1=i by omega,a0d p i h];rfl
theorem b99 (p:A3) (m:Mv):tg p m<64:=by
 unfold tg;refine b2r (b2r (b2r ?_ ?_) ?_) ?_
 ·unfold capTag;(repeat' split)<;>decide
 ·unfold Q8;(repeat' split)<;>decide
 ·split<;>decide
 ·split<;>decide
theorem b83 {p:A3} (hI:B7 p) {fr to:Nat} {k:Int} (h:H8 p ⟨fr,to,k⟩) (hr:g8 to=7-7*p.turn) :
  (tg p ⟨fr,to,k⟩).testBit 0=false∧(tg p ⟨fr,to,k⟩).testBit 1=false∧(tg p ⟨fr,to,k⟩).testBit 3=false:=by
 have hc:=(O7 hI h).1;have hep:(to:Int)≠p.ep:=by
  intro e;obtain ⟨_,_,h3⟩:=I4 hI.pass;have h4:=(h3 zo).1;rw [← e] at h4;have:=hI.turn;omega
 have hcap:capTag p ⟨fr,to,k⟩=if sq p to≠0 then 4 else 0:=by
  unfold capTag;by_cases e:sq p to=0
  ·rw [if_neg (fun e2=>e2 e),if_neg (fun e2=>hep e2.1),if_neg (fun e2=>e2 e)]
  ·rw [if_pos e,if_pos e]
 unfold tg;rw [hc,hcap];simp only [Nat.testBit_or];split<;>cases G9 p ⟨fr,to,k⟩<;>cases inCheck (made p ⟨fr,to,k⟩)<;>decide
theorem a71 {p:A3} (hI:B7 p) {m:Mv} (h:H8 p m) {t:Nat} (h64:t<64) (h0:t.testBit 0=false) (h1:t.testBit 1=false) (h3:t.testBit 3=false)
  {w0 w:World} {P b M A:Nat} {c:Bool} {cv:Value} {Z:Array Value} {l:List PM} (hS:SmI w0 P b M A (A8 p c) cv (mbOf p) Z ⟨m,t⟩ l w) :
  Calls G.P 253 #[.pointer (some ⟨M,0,none⟩),.pointer (some ⟨P,0,none⟩)] w (fun r w'=>r = .returned (.tuple #[])∧SmI w0 P b M A (A8 p c) cv (mbOf p) Z ⟨m,t ||| tg p m⟩ l w'):=by
 have k0:=hI.king 0 (.inl rfl);have k1:=hI.king 1 (.inr rfl);have e0:(mbOf p).wk=kingAt p 0:=rfl;have e1:(mbOf p).bk=kingAt p 1:=rfl;have ht:=hI.turn;have hf:=h.f0;have hf1:=h.f1;have hat:(mbOf p).at m.fr.toNat=sq p m.fr:=by
  rw [T8 hI.pc zo,Int.toNat_of_nonneg hf]
 refine (a89 (d:=D3 ⟨m,t⟩) (h:=A8 p c) (by show p.turn+1=1∨p.turn+1=2;omega) (by rw [e0];have:=k0.1;omega) (by rw [e0];exact k0.2.1) (by rw [e1];have:=k1.1;omega) (by rw [e1];exact k1.2.1) hf hf1 h.t0 h.t1 h64 ?_ w hS.at).mono ?_
 ·show m.promo=0∨(1≤m.promo∧m.promo≤6∧(mbOf p).at m.fr.toNat≠0);rw [hat];rcases h.promo with e | e
  ·exact .inl e.1
  ·exact .inr ⟨zo,zo,h.there⟩
 ·rintro r w' ⟨hr,h2⟩;refine ⟨hr,hS.back ?_⟩;have:=b2t hI h h0 h1 h3;rw [← this];exact h2
theorem b4E (l:List Value) (cs:Array Value) (h:l.length≤cs.size):(a4M cs 0 l).extract 0 l.length=l.toArray:=by
 apply Array.ext_getElem?;intro k;rw [Array.getElem?_extract];rw [D6,J0 l cs 0 _ zo];by_cases hk:k<l.length
 ·rw [if_pos zo,if_pos zo];simp
 ·rw [if_neg zo,Array.getElem?_eq_none (by simpa using hk)]
theorem b68 {w0 w:World} {P b M A o:Nat} {h:Hd} {cv:Value} {B:MB} {Z:Array Value} {x:PM} {l:List PM} {K:World→Prop} (hS:SmI w0 P b M A h cv B Z x l w) (hz:Z.size=2398) (hl:l.length<218) (ho:o=l.length*11)
  (hk:∀ w',SmI w0 P b M A h cv B Z x (l++[x]) w'→K w'):Z1 G.P w 141 ⟨A,o,none⟩ (.agg (F0 (D3 x))) K:=by
 subst ho;exact J6 hS.arr (C6 x) rfl a1x rfl (X3 x) (by rw [D6,hz];omega) fun w' u=>hk w' (hS.push u)
theorem b3F {w0 w:World} {P b M A:Nat} {h:Hd} {cv:Value} {B:MB} {Z:Array Value} {x y:PM} (hS:SmI w0 P b M A h cv B Z x [y] w) (hz:Z.size=2398):l8 G.P w 141 ⟨A,0,none⟩ (.agg (F0 (D3 y))):=by
 have h1:=ldA (t:=141) (o:=0) (z:=11) hS.arr rfl (by rw [D6,hz];decide)
 have e:(a4M Z 0 ([y].flatMap C6)).extract 0 11=F0 (D3 y):=by
  have:=b4E (C6 y) Z (by rw [hz];show 11≤2398;decide)
  rw [show [y].flatMap C6=C6 y by simp,← show (C6 y).length=11 from rfl,this];rfl
 rw [← e];exact h1
theorem Row.blk {α:Type} {enc:α→List Value} {e z b0 g:Nat} {w:World} {l:List α} (henc:∀ x,(enc x).length=z) (hm:l.length≤100000) (hb:b0≤g) (h:w.heap[g]?=some (.cells (l.flatMap enc).toArray e (0,0))) :
  Row e z enc b0 w (.slice (some ⟨g,0,none⟩) l.length l.length) l:=by
 refine ⟨a2J henc l,.inr ⟨g,l.length,_,rfl,hb,h,Nat.le_refl _,by unfold maxLen;omega,by simp [a2J henc],?_⟩⟩
 simp only [List.toList_toArray];rw [List.take_of_length_le (by rw [a2J henc];exact Nat.le_refl _)]
theorem b84 {p:A3} {fr to:Int} {i t:Nat} (h:i<4):O2 p fr to (([2,3,4,5]:List Int).drop i) t =
  (if (t ||| tg p ⟨fr,to,(i:Int)+2⟩).testBit 5 then [] else [⟨⟨fr,to,(i:Int)+2⟩,t ||| tg p ⟨fr,to,(i:Int)+2⟩⟩])++O2 p fr to (([2,3,4,5]:List Int).drop (i+1)) (t ||| tg p ⟨fr,to,(i:Int)+2⟩):=by
 rcases (by omega:i=0∨i=1∨i=2∨i=3) with rfl | rfl | rfl | rfl<;>rfl
theorem a2y {a s:Nat}:a &&& D0 s=0↔a.testBit (63-s)=false:=by
 rw [Nat.and_comm];show 2^(63-s) &&& a=0↔_;rw [b3C];have:=Nat.two_pow_pos (63-s);cases a.testBit (63-s)<;>simp
theorem a0y (n k:Nat):W6 0 n k=n*k:=by rw [z6,Nat.zero_add]
theorem nz {a:Nat} (h:¬ ((a:Nat):Int)=0):a≠0:=by omega
set_option maxHeartbeats 2000000 in
theorem b2u {p:A3} (hI:B7 p) (first:Bool) (hle:first=false→(z8 p).length≤218) {P b:Nat} {c:Bool} {cv:Value} (w:World) (hT:C1 w)
  (hP:w.heap[P]?=some (.cells (hdA b (A8 p c) cv) 173 (0,0))) (hB:w.heap[b]?=some (.cells (mbA (mbOf p)) 237 (0,0))) :
  Calls G.P 199 #[.pointer (some ⟨P,0,none⟩),.bool first] w (fun r w'=>Cl w w'∧∃ v,r = .returned v∧if first=true then (z8 p=[]∧Row 141 11 C6 w.heap.size w' v [])∨(z8 p≠[]∧∃ g y u,v = .slice (some ⟨g,0,none⟩) 1 1∧w'.heap[g]?=some (.cells (F0 (D3 y)) u (0,0))) else Row 141 11 C6 w.heap.size w' v (z8 p)):=by
 have hPs:P<w.heap.size:=(Array.getElem?_eq_some_iff.1 hP).1;have hbs:b<w.heap.size:=(Array.getElem?_eq_some_iff.1 hB).1;have ht:=hI.turn;have tc:∀ w':World,w'.heap[P]?=some (.cells (hdA b (A8 p c) cv) 173 (0,0))→Calls G.P 121 #[.pointer (some ⟨P,0,none⟩)] w' (D5 (.int .i8 (p.turn+1)) w'):=fun w' h=>a4d w' h;obtain ⟨g,og,cp,ha1,ha2⟩:=hT.all;obtain ⟨g2,og2,cp2,hp1,hp2⟩:=hT.promo;obtain ⟨z,hz,hzs⟩:=c2T;refine zN Tryz.func199 ?_;refine zR ?_;refine t7 z hz (zR ?_);refine t7 _ a6b (zR ?_);have hS:SmI w P b (w.heap.size+1) w.heap.size (A8 p c) cv (mbOf p) z.cells ⟨⟨0,0,0⟩,0⟩ [] ((w.alloc (.cells z.cells 289)).alloc (.cells (Value.agg (F0 (D3 ⟨⟨0,0,0⟩,0⟩))).cells 141)):=by
  have c1:=Cl.alloc w (.cells z.cells 289);have n1:=q8 w (.cells z.cells 289);have s1:=y9 w (.cells z.cells 289);generalize w.alloc (.cells z.cells 289)=w1 at *;have c2:=Cl.alloc w1 (.cells (Value.agg (F0 (D3 ⟨⟨0,0,0⟩,0⟩))).cells 141);have n2:=q8 w1 (.cells (Value.agg (F0 (D3 ⟨⟨0,0,0⟩,0⟩))).cells 141);rw [s1] at n2;exact ⟨c2.blk (c1.blk hP),c2.blk (c1.blk hB),n2,c2.blk n1,c1.trans c2,hT,hPs,hbs,zo,zo,zo⟩
 have eA:(w.alloc (.cells z.cells 289)).heap.size=w.heap.size+1:=y9 _ _;simp only [eA];generalize (w.alloc (.cells z.cells 289)).alloc (.cells (Value.agg (F0 (D3 ⟨⟨0,0,0⟩,0⟩))).cells 141)=w1 at *;clear eA;have hP:=hS.hd;have hB:=hS.bd;refine zH ?_;refine A4 (σ:=Unit) [8] 28 (fun _=>[(8,.int .u64 (Bb.not (side p p.turn):Nat))]) (fun _ w'=>w'=w1) zk ?_ (fun _ j w2 e2=>?_)
 ·refine zR ?_;refine d9 (tc _ hP) (zR ?_);rcases ht with ht | ht
  ·rw [ht];refine zR ?_;exact ⟨(),⟨rfl,trivial⟩,rfl⟩
  ·rw [ht];refine zB ?_;exact ⟨(),⟨rfl,trivial⟩,rfl⟩
 subst e2;have hTw:=hS.tab;have lSd:L64 (side p p.turn):=⟨O0 _⟩;have lS:L64 (Bb.not (side p p.turn)):=inferInstance;refine zR ?_;refine d7 _ (I0 (ha1.cl hS.cl) (i:=0) zd rfl rfl) (zR ?_);refine A9 (σ:=Nat×List PM×PM) [4,6,10,11,12,13,14,16,17,18,41] 42 (fun s=>[(6,.int .i64 s.2.1.length),(41,.int .i64 s.1)]) (fun s w'=>s.1≤12∧s.2.1++a4h p s.1=z8 p∧(first=true→s.2.1=[])∧SmI w P b (w.heap.size+1) w.heap.size (A8 p c) cv (mbOf p) z.cells s.2.2 s.2.1 w') (fun s=>12-s.1) zk (0,[],⟨⟨0,0,0⟩,0⟩) ⟨zd,by rw [List.nil_append];exact b65 hI.turn,fun _=>rfl,hS⟩ ⟨rfl,rfl,trivial⟩ ?_
 rintro ⟨i,l,x⟩ j1 w2 ⟨hi,hrem,hfst,hS2⟩;simp only at hi hrem hfst hS2 ⊢;clear hTw hS hP hB;refine zR ?_;apply E.b7<;>intro h
 ·have hi2:i<12:=by omega
  have ni:=C2 (i:=i) zo;clear h;have hcol:=c0y hi2;have hcc:=a4G ((i:Int)+1) zo zo w2;rw [hcol] at hcc;refine zR ?_;refine zC ?_;refine zR ?_;refine d7 _ (a5y (ha2.cl hS2.cl) (i:=i) hi2 rfl rfl) (zR ?_);refine d9 (tc _ hS2.hd) (zR ?_);refine d9 hcc (zR ?_);apply E.r9<;>intro h
  ·refine zR ?_;exact ⟨(i+1,l,x),⟨rfl,m7 ni,trivial⟩,⟨by show i+1≤12;omega,by rw [← hrem,a8B hi2,if_neg zo];rfl,hfst,hS2⟩,by show 12-(i+1)<12-i;omega⟩
  have htt:(i:Int)/6=p.turn:=by omega
  clear h;rw [a8B hi2,if_pos htt] at hrem;obtain ⟨k,hk⟩:∃ k:Int,(i:Int)+1=k+6*p.turn:=⟨(i:Int)+1-6*p.turn,zo⟩;rw [show (i:Int)+1-6*p.turn=k by omega] at hrem
  have k1:1≤k:=by omega
  have k6:k≤6:=by omega
  have hkind:kindOf ((i:Int)+1)=k:=by rw [hk];exact K5 k1 k6 ht
  have hty:=fun w=>a0C ((i:Int)+1) zo zo w;have hbp:=fun w' hb=>K8 (mbOf p) b (t:=237) (fz:=(0,0)) ((i:Int)+1) zo zo w' hb;rw [c2U hi2] at hbp;simp only [hkind] at hty;have hone:a2B p k 0=[]→l++a4h p (i+1)=z8 p:=fun e=>by rw [← hrem,e];rfl
  have hP:=hS2.hd;refine zB ?_;refine d9 (hbp _ hS2.bd) (zR ?_);apply E.b7<;>intro h
  ·refine zR ?_;have h':pcs p ((i:Int)+1)=0:=n0 h;rw [hk] at h';exact ⟨(i+1,l,x),⟨rfl,m7 ni,trivial⟩,⟨by show i+1≤12;omega,hone (b4B h'),hfst,hS2⟩,by show 12-(i+1)<12-i;omega⟩
  have lP:L64 (pcs p ((i:Int)+1)):=⟨O0 _⟩;clear h;refine zR ?_;refine A9 (σ:=Nat×List PM×PM) [4,6,12,13,14,16,17,18,58] 59 (fun s=>[(6,.int .i64 s.2.1.length),(58,.int .i64 s.1)]) (fun s w'=>s.1≤64∧s.2.1++(a2B p k s.1++a4h p (i+1))=z8 p∧(first=true→s.2.1=[])∧SmI w P b (w.heap.size+1) w.heap.size (A8 p c) cv (mbOf p) z.cells s.2.2 s.2.1 w') (fun s=>64-s.1) zk (0,l,x) ⟨Nat.zero_le _,hrem,hfst,hS2⟩ ⟨rfl,rfl,trivial⟩ ?_
  clear hrem hfst hS2 hone hP;rintro ⟨fr,l2,x2⟩ j2 w3 ⟨hf,hrem,hfst,hS3⟩;simp only at hf hrem hfst hS3 ⊢;refine zR ?_;apply E.b7<;>intro h
  ·have hf2:fr<64:=by omega
   have nf:=C2 (i:=fr) zo;clear h;have e8:IntKind.i8.wrap (fr:Int)=fr:=V3 zo zo;rw [b4A hf2] at hrem;have hskip:U4 p k fr=[]→l2++(a2B p k (fr+1)++a4h p (i+1))=z8 p:=fun e=>by rw [← hrem,e];rfl
   have hbs:=fun w=>p8 fr hf2 w;refine zR ?_;rw [e8];refine d9 (hbs _) (zB ?_);apply E.b7<;>intro h
   ·refine zR ?_;have h':=a2y.1 (n0 h);have hne:sq p fr≠k+6*p.turn:=by
     intro e;rw [a3p _ _ hf2,decide_eq_false_iff_not] at h';exact h' (by rw [hk];exact e)
    exact ⟨(fr+1,l2,x2),⟨rfl,m7 nf,trivial⟩,⟨by show fr+1≤64;omega,hskip (a7z hne),hfst,hS3⟩,by show 64-(fr+1)<64-fr;omega⟩
   have hsq:sq p fr=k+6*p.turn:=by
    have h':¬ _:=fun e=>nz h (a2y.2 e);rw [a3p _ _ hf2,Bool.not_eq_false,decide_eq_true_eq] at h';rw [h',hk]
   clear h hbs;rw [b0J hsq] at hrem hskip;refine zR ?_;refine d9 (hty _) (zR ?_);rw [e8];refine m9 (b2j (h:=A8 p c) fr hf2 k k1 k6 (by show p.turn+1=1∨p.turn+1=2;omega) (I4 hI.pass).1 (I4 hI.pass).2.1 _ hS3.tab hS3.hd hS3.bd) fun w4 c4=>?_
   have hS4:=hS3.step c4;have eP:(mbOf p).poss (A8 p c).turn (epN (A8 p c).ep) k fr=a5Q p k fr:=b8n p ht k fr;have lQ:L64 (a5Q p k fr):=⟨b5T _ _ _⟩;rw [eP];clear hS3;have eG:a5Q p k fr &&& Bb.not (side p p.turn)=goB p k fr:=rfl;have lG:L64 (goB p k fr):=by rw [← eG];infer_instance
   refine zB ?_;rw [eG];apply E.b7<;>intro h
   ·refine zR ?_;exact ⟨(fr+1,l2,x2),⟨rfl,m7 nf,trivial⟩,⟨by show fr+1≤64;omega,hskip (b4C (n0 h)),hfst,hS4⟩,by show 64-(fr+1)<64-fr;omega⟩
   clear h hskip;refine zR ?_;refine A9 (σ:=Nat×List PM×PM) [4,6,14,16,17,18,77] 78 (fun s=>[(6,.int .i64 s.2.1.length),(77,.int .i64 s.1)]) (fun s w'=>s.1≤64∧s.2.1++(a55 p k fr s.1++a2B p k (fr+1)++a4h p (i+1))=z8 p∧(first=true→s.2.1=[])∧SmI w P b (w.heap.size+1) w.heap.size (A8 p c) cv (mbOf p) z.cells s.2.2 s.2.1 w') (fun s=>64-s.1) zk (0,l2,x2) ⟨Nat.zero_le _,hrem,hfst,hS4⟩ ⟨rfl,rfl,trivial⟩ ?_
   clear hrem hfst hS4 c4;rintro ⟨to,l3,x3⟩ j3 w5 ⟨hto,hrem,hfst,hS5⟩;simp only at hto hrem hfst hS5 ⊢;refine zR ?_;apply E.b7<;>intro h
   ·have ht2:to<64:=by omega
    have nt:=C2 (i:=to) zo;clear h;have e8t:IntKind.i8.wrap (to:Int)=to:=V3 zo zo;rw [b49 ht2] at hrem;have hskip:(if (goB p k fr).testBit (63-to) then a1W p fr to else [])=[]→l3++(a55 p k fr (to+1)++a2B p k (fr+1)++a4h p (i+1))=z8 p:=fun e=>by rw [← hrem,e];rfl
    have hbs:=fun w=>p8 to ht2 w;refine zR ?_;rw [e8t];refine d9 (hbs _) (zB ?_);apply E.b7<;>intro h
    ·refine zR ?_;have h':=a2y.1 (n0 h);exact ⟨(to+1,l3,x3),⟨rfl,m7 nt,trivial⟩,⟨by show to+1≤64;omega,hskip (by rw [h'];rfl),hfst,hS5⟩,by show 64-(to+1)<64-to;omega⟩
    have hbit:(goB p k fr).testBit (63-to)=true:=by
     have h':¬ _:=fun e=>nz h (a2y.2 e);simpa using h'
    clear h hbs hskip;rw [hbit,if_pos rfl] at hrem;refine zR ?_;rw [e8];refine c1X hS5.nd _ fun w6 u6=>?_;have hS6:=hS5.upd u6;clear hS5 u6;refine zR ?_;rw [e8t];refine c1Y hS6.nd _ fun w7 u7=>?_;have hS7:=hS6.upd u7;clear hS6 u7;refine zR ?_;refine b82 hS7.nd 0 fun w8 u8=>?_;have hS8:=hS7.upd u8;clear hS7 u8;simp only at hS8;refine zG ?_;have hrk:g8 (to:Int)=(to:Int)/8:=rfl;have hsr:=fun w=>a0w (to:Int) zo zo w;obtain ⟨PR,hPR⟩:∃ PR:Bool,PR=decide (k=6∧g8 (to:Int)=7-7*p.turn):=⟨_,rfl⟩;refine A4 (σ:=Unit) [93,94,95,96,97,98,99,100,101,102,103,104,105,106,107,108,109,110] 111 (fun _=>[(110,.bool PR)]) (fun _ w'=>w'=w8) zk ?_ (fun _ j w9 e9=>?_)
    ·refine zR ?_;apply E.b7<;>intro h
     ·refine zR ?_;rw [e8t];refine d9 (hsr _) (zR ?_);apply E.b7<;>intro h
      ·refine zR ?_;exact ⟨(),⟨p9 (hPR.trans (decide_eq_true zo)).symm,trivial⟩,rfl⟩
      ·refine zR ?_;refine E.o7 zo (zR ?_);exact ⟨(),⟨p9 (hPR.trans (decide_eq_false zo)).symm,trivial⟩,rfl⟩
     ·refine zR ?_;apply E.b7<;>intro h
      ·refine zR ?_;rw [e8t];refine d9 (hsr _) (zR ?_);exact ⟨(),⟨p9 (hPR.trans (decide_eq_decide.2 zo)).symm,trivial⟩,rfl⟩
      ·refine zR ?_;exact ⟨(),⟨p9 (hPR.trans (decide_eq_false zo)).symm,trivial⟩,rfl⟩
    subst e9;clear hsr;have hkp:kindOf (sq p fr)=k:=by rw [hsq];exact K5 k1 k6 ht
    have hLen:∀ {a b:List PM} {y:PM},a++([y]++b)=z8 p→(first=true→a=[])→a.length<218:=fun {a b y} e hf=>by
     cases first
     rotate_left
     ·rw [hf rfl];decide
     have hle:=hle rfl;have:=congrArg List.length e;simp only [List.length_append,List.length_cons,List.length_nil] at this;omega
    generalize hR:a55 p k fr (to+1)++a2B p k (fr+1)++a4h p (i+1)=R;have hRa:∀ a b:List PM,a++(b++a55 p k fr (to+1)++a2B p k (fr+1)++a4h p (i+1))=a++(b++R):=fun a b=>by rw [← hR];simp only [List.append_assoc]
    cases PR
    ·have h:=of_decide_eq_false hPR.symm;clear hPR;have hpl:H8 p ⟨fr,to,0⟩:=a6a hI k1 k6 hf2 ht2 hsq hbit (.inl ⟨rfl,h⟩);have hmt:a1W p fr to=if (tg p ⟨fr,to,0⟩).testBit 5 then [] else [⟨⟨fr,to,0⟩,tg p ⟨fr,to,0⟩⟩]:=by unfold a1W;rw [if_neg (by rw [hkp];exact h)]
     rw [hmt] at hrem;clear h hmt;rw [hRa] at hrem;refine zR ?_;refine b0N hS8.nd 0 fun w11 u11=>?_;have hS11:=hS8.upd u11;clear hS8 u11;refine zR ?_;refine o8 (a71 (t:=0) hI hpl zd zd zd zd hS11) ?_;rintro r w12 ⟨rfl,hS12⟩;refine ⟨_,rfl,?_⟩;rw [Nat.zero_or] at hS12;have o64:tg p ⟨fr,to,0⟩<64:=b99 _ _;generalize tg p ⟨fr,to,0⟩=T at *;have hht:=a1w (k:=5) (d:=D3 ⟨⟨fr,to,0⟩,T⟩) zd (by show T<65536;omega) w12 hS12.nd
     clear hS11;refine zR ?_;have hht':Calls G.P 147 #[.pointer (some ⟨w.heap.size+1,0,none⟩),.int .u16 32] w12 (D5 (.bool (T.testBit 5)) w12):=hht;cases hb5:T.testBit 5
     ·rw [hb5] at hht' hrem;refine d9 hht' ?_;rw [if_neg zd] at hrem;have hlt:=hLen (a:=l3) (y:=⟨⟨fr,to,0⟩,T⟩) (b:=R) hrem hfst;have n4:=C2 (i:=l3.length) zo;have hrem':(l3++[⟨⟨fr,to,0⟩,T⟩])++R=z8 p:=by rw [← hrem];simp only [List.append_assoc]
      refine zR ?_;refine d7 _ (b4D hS12.nd) (zR ?_);refine zC ?_;refine zR ?_;refine b68 hS12 hzs hlt (a0y _ _) fun w13 hS13=>zR ?_;cases first
      ·refine zR ?_;exact ⟨(to+1,_,_),⟨m7 (n4.trans (by rw [List.length_append];rfl)),m7 nt,trivial⟩,⟨by show to+1≤64;omega,by rw [← hrem',← hR],fun e=>(by cases e),hS13⟩,by show 64-(to+1)<64-to;omega⟩
      ·have hl0:=hfst rfl;subst hl0;obtain ⟨z1v,hz1,hz1s⟩:=z1;refine zR ?_;refine t7 z1v hz1 ?_;have ca:=Cl.alloc w13 (.cells z1v.cells 293);have na:=q8 w13 (.cells z1v.cells 293);have hge:=hS13.cl.size;generalize w13.alloc (.cells z1v.cells 293)=w14 at *;have hS14:=hS13.step ca;refine zR ?_;refine d7 _ (b3F hS14 hzs) (zR ?_);refine J6 na (C6 ⟨⟨fr,to,0⟩,T⟩) rfl a1x rfl (X3 _) (by rw [hz1s];decide) fun w15 u15=>zR ?_
       refine b0L (n:=1) (el:=141) (z:=11) rfl rfl (zR ?_);exact ⟨(Tn.upd u15).toCl hS14.cl zo,_,rfl,.inr ⟨fun e=>by rw [e] at hrem';simp at hrem',_,⟨⟨fr,to,0⟩,T⟩,_,rfl,by have h15:=u15.at_;rw [show W6 0 (Int.toNat 0) 11=0 from rfl,C5 _ _ (by rw [hz1s];rfl)] at h15;exact h15⟩⟩
     ·rw [hb5] at hht' hrem;refine d9 hht' (zR ?_);exact ⟨(to+1,_,_),⟨rfl,m7 nt,trivial⟩,⟨by show to+1≤64;omega,by rw [← hrem,← hR];simp,hfst,hS12⟩,by show 64-(to+1)<64-to;omega⟩
    ·have h:=of_decide_eq_true hPR.symm;clear hPR;have hpl:∀ pr:Int,2≤pr→pr≤5→H8 p ⟨fr,to,pr⟩:=fun pr h2 h5=>a6a hI k1 k6 hf2 ht2 hsq hbit (.inr ⟨h2,h5,h.1,h.2⟩);have hrt:=h.2;have hmt:a1W p fr to=O2 p fr to (([2,3,4,5]:List Int).drop 0) 0:=by unfold a1W;rw [if_pos (by rw [hkp];exact h)];rfl
     rw [hmt] at hrem;clear h hmt;rw [hRa] at hrem;refine zR ?_;refine d7 _ (I0 (hp1.cl hS8.cl) (i:=0) zd rfl rfl) (zR ?_);refine A9 (σ:=Nat×List PM×Int×Nat) [4,6,16,17,113] 114 (fun s=>[(6,.int .i64 s.2.1.length),(113,.int .i64 s.1)]) (fun s w'=>s.1≤4∧s.2.1++(O2 p fr to (([2,3,4,5]:List Int).drop s.1) s.2.2.2++R)=z8 p∧(first=true→s.2.1=[]) ∧
      SmI w P b (w.heap.size+1) w.heap.size (A8 p c) cv (mbOf p) z.cells ⟨⟨fr,to,s.2.2.1⟩,s.2.2.2⟩ s.2.1 w'∧s.2.2.2<64∧s.2.2.2.testBit 0=false∧s.2.2.2.testBit 1=false∧s.2.2.2.testBit 3=false) (fun s=>4-s.1) zk (0,l3,x3.mv.promo,0) ⟨Nat.zero_le _,hrem,hfst,hS8,show 0<64 by decide,show (0:Nat).testBit 0=false by decide,show (0:Nat).testBit 1=false by decide,show (0:Nat).testBit 3=false by decide⟩ ⟨rfl,rfl,trivial⟩ ?_
     clear hrem hfst hS8;rintro ⟨q,l4,pr,tt⟩ j4 w10 ⟨hq,hrem,hfst,hS10,htt64,tb0,tb1,tb3⟩;simp only at hq hrem hfst hS10 htt64 tb0 tb1 tb3 ⊢;refine zR ?_;apply E.b7<;>intro h
     ·have hq2:q<4:=by omega
      have nq:=C2 (i:=q) zo;clear h;have hpq:=hpl ((q:Int)+2) zo zo;obtain ⟨g0,g1,g3⟩:=b83 hI hpq hrt;rw [b84 hq2] at hrem;refine zR ?_;refine zC ?_;refine zR ?_;refine d7 _ (a5y (hp2.cl hS10.cl) (i:=q) hq2 rfl rfl) (zR ?_);refine b0N hS10.nd _ fun w11 u11=>?_;have hS11:=hS10.upd u11;clear hS10 u11;refine zR ?_;refine o8 (a71 hI hpq htt64 tb0 tb1 tb3 hS11) ?_;rintro r w12 ⟨rfl,hS12⟩;refine ⟨_,rfl,?_⟩;have o64:tt ||| tg p ⟨fr,to,(q:Int)+2⟩<64:=b2r htt64 (b99 _ _)
      have o0:(tt ||| tg p ⟨fr,to,(q:Int)+2⟩).testBit 0=false:=by rw [Nat.testBit_or,tb0,g0];rfl
      have o1:(tt ||| tg p ⟨fr,to,(q:Int)+2⟩).testBit 1=false:=by rw [Nat.testBit_or,tb1,g1];rfl
      have o3:(tt ||| tg p ⟨fr,to,(q:Int)+2⟩).testBit 3=false:=by rw [Nat.testBit_or,tb3,g3];rfl
      generalize tt ||| tg p ⟨fr,to,(q:Int)+2⟩=T at *
      have hht:=a1w (k:=5) (d:=D3 ⟨⟨fr,to,(q:Int)+2⟩,T⟩) zd (by show T<65536;omega) w12 hS12.nd
      clear hS11;refine zR ?_;have hht':Calls G.P 147 #[.pointer (some ⟨w.heap.size+1,0,none⟩),.int .u16 32] w12 (D5 (.bool (T.testBit 5)) w12):=hht;cases hb5:T.testBit 5
      ·rw [hb5] at hht' hrem;refine d9 hht' ?_;rw [if_neg zd] at hrem;have hlt:=hLen (a:=l4) (y:=⟨⟨fr,to,(q:Int)+2⟩,T⟩) (b:=O2 p fr to (([2,3,4,5]:List Int).drop (q+1)) T++R) (by rw [← hrem];simp only [List.append_assoc]) hfst
       have n4:=C2 (i:=l4.length) zo;have hrem':(l4++[⟨⟨fr,to,(q:Int)+2⟩,T⟩])++(O2 p fr to (([2,3,4,5]:List Int).drop (q+1)) T++R)=z8 p:=by rw [← hrem];simp only [List.append_assoc]
       refine zR ?_;refine d7 _ (b4D hS12.nd) (zR ?_);refine zC ?_;refine zR ?_;refine b68 hS12 hzs hlt (a0y _ _) fun w13 hS13=>zR ?_;cases first
       ·refine zR ?_;exact ⟨(q+1,_,(q:Int)+2,_),⟨m7 (n4.trans (by rw [List.length_append];rfl)),m7 nq,trivial⟩,⟨by show q+1≤4;omega,hrem',fun e=>(by cases e),hS13,o64,o0,o1,o3⟩,by show 4-(q+1)<4-q;omega⟩
       ·have hl0:=hfst rfl;subst hl0;obtain ⟨z1v,hz1,hz1s⟩:=z1;refine zR ?_;refine t7 z1v hz1 ?_;have ca:=Cl.alloc w13 (.cells z1v.cells 293);have na:=q8 w13 (.cells z1v.cells 293);have hge:=hS13.cl.size;generalize w13.alloc (.cells z1v.cells 293)=w14 at *;have hS14:=hS13.step ca;refine zR ?_;refine d7 _ (b3F hS14 hzs) (zR ?_);refine J6 na (C6 ⟨⟨fr,to,(q:Int)+2⟩,T⟩) rfl a1x rfl (X3 _) (by rw [hz1s];decide) fun w15 u15=>zR ?_
        refine b0L (n:=1) (el:=141) (z:=11) rfl rfl (zR ?_);exact ⟨(Tn.upd u15).toCl hS14.cl zo,_,rfl,.inr ⟨fun e=>by rw [e] at hrem';simp at hrem',_,⟨⟨fr,to,(q:Int)+2⟩,T⟩,_,rfl,by have h15:=u15.at_;rw [show W6 0 (Int.toNat 0) 11=0 from rfl,C5 _ _ (by rw [hz1s];rfl)] at h15;exact h15⟩⟩
      ·rw [hb5] at hht' hrem;refine d9 hht' (zR ?_);exact ⟨(q+1,_,(q:Int)+2,_),⟨rfl,m7 nq,trivial⟩,⟨by show q+1≤4;omega,hrem,hfst,hS12,o64,o0,o1,o3⟩,by show 4-(q+1)<4-q;omega⟩
     ·have hq4:q=4:=by omega
      subst hq4;refine zR ?_;exact ⟨(to+1,_,_),⟨rfl,m7 nt,trivial⟩,⟨by show to+1≤64;omega,by rw [← hrem,← hR];simp [O2],hfst,hS10⟩,by show 64-(to+1)<64-to;omega⟩
   ·have e64:to=64:=by omega
    subst e64;rw [b61] at hrem;refine zR ?_;exact ⟨(fr+1,_,_),⟨rfl,m7 nf,trivial⟩,⟨by show fr+1≤64;omega,hrem,hfst,hS5⟩,by show 64-(fr+1)<64-fr;omega⟩
  ·have e64:fr=64:=by omega
   subst e64;rw [b62] at hrem;refine zR ?_;exact ⟨(i+1,_,_),⟨rfl,m7 ni,trivial⟩,⟨by show i+1≤12;omega,hrem,hfst,hS3⟩,by show 12-(i+1)<12-i;omega⟩
 ·have e12:i=12:=by omega
  subst e12;rw [b63,List.append_nil] at hrem;subst hrem;have hle:(z8 p).length≤218:=by
   cases first
   ·exact hle rfl
   ·rw [hfst rfl];decide
  refine zR ?_;refine b66 b0M (z8 p).length rfl rfl zo zd fun cs hcs=>?_;have ca:=Cl.alloc w2 (.cells cs 141);have na:=q8 w2 (.cells cs 141);have hge:=hS2.cl.size;generalize w2.alloc (.cells cs 141)=w3 at *;have hS3:=hS2.step ca;refine zR ?_;refine b0K (n:=218) (el:=141) (z:=11) (z8 p).length rfl rfl rfl hle (zR ?_);have fl:=a2x (z8 p);refine b67 b0M (cs:=(z8 p).flatMap C6) (n:=(z8 p).length) rfl rfl na fl hcs (fun jj v hv=>?_) (fun v hv=>?_) fun w4 u4=>?_
  ·rw [C8 hS3.arr,J0 _ _ _ _ (by rw [fl,hzs];omega),if_pos ⟨Nat.zero_le _,by rw [Nat.zero_add];exact (List.getElem?_eq_some_iff.1 hv).1⟩];exact hv
  ·obtain ⟨y,_,hy⟩:=List.mem_flatMap.1 hv;exact X3 y v hy
  have hc4:Cl w w4:=(Tn.upd u4).toCl hS3.cl zo;refine zR ?_;refine ⟨hc4,_,rfl,?_⟩;cases first
  ·rw [if_neg zd];exact Row.blk I7 zo hge u4.at_
  ·rw [if_pos rfl];exact .inl ⟨hfst rfl,by have:=Row.blk (w:=w4) I7 zo hge u4.at_;rw [hfst rfl] at this ⊢;exact this⟩
end
section
open Go Go.RowKit
open E
def ixZ (c:UInt8) (s:Tx):Int:=if c∈s then (s.idxOf c:Int) else -1
theorem c0z {c:UInt8}:∀ {s:Tx} {i:Nat},s[i]?=some c→(∀ j,j<i→s[j]?≠some c)→c∈s∧s.idxOf c=i:=by
 intro s
 induction s with
 | nil=>intro i h;simp at h
 | cons x r ih =>
  intro i h hj;by_cases e:x=c
  ·subst e;cases i with
   | zero=>exact ⟨List.mem_cons_self,by simp⟩
   | succ i=>exact absurd (by simp) (hj 0 zo)
  ·cases i with
   | zero=>simp at h;exact absurd h e
   | succ i =>
    obtain ⟨h1,h2⟩:=ih (i:=i) (by simpa using h) (fun j hlt=>by have:=hj (j+1) zo;simpa using this)
    refine ⟨List.mem_cons_of_mem _ h1,?_⟩;rw [List.idxOf_cons,show (x==c)=false by simpa using e,h2];rfl
theorem c00 {c:UInt8} {s:Tx} (h:∀ j,j<s.length→s[j]?≠some c):c∉s:=by
 intro hm;obtain ⟨j,hj⟩:=List.mem_iff_getElem?.1 hm;exact h j (List.getElem?_eq_some_iff.1 hj).1 hj
theorem c01 {c:UInt8} {s:Tx} {i:Nat} (h:s[i]?=some c) (hj:∀ j,j<i→s[j]?≠some c):ixZ c s=i:=by
 obtain ⟨h1,h2⟩:=c0z h hj;unfold ixZ;rw [if_pos h1,h2]
theorem b85 {c:UInt8} {s:Tx} (h:∀ j,j<s.length→s[j]?≠some c):ixZ c s=-1:=by
 unfold ixZ;rw [if_neg (c00 h)]
theorem c1Z {s:Tx} {i:Nat} (h:i<s.length):(s.drop i).take 1=[s[i]]:=by
 rw [List.drop_eq_getElem_cons h];rfl
theorem a56 (c:UInt8) (s:Tx) (hs:s.length≤100000) (w:World):Calls G.P 234 #[s8 s,s8 [c]] w (D5 (.int .i64 (ixZ c s)) w):=by
 have h0:(tx [c]).size=1:=C9 _;have hsz:(tx s).size=s.length:=C9 _;refine zN Tryz.func234 ?_;refine zR ?_;refine A9 (σ:=Nat) [4,5] 6 (fun i=>[(5,.int .i64 i)]) (fun i w'=>i≤s.length∧w'=w∧∀ j,j<i→s[j]?≠some c) (fun i=>s.length-i) zk 0 ⟨zo,rfl,fun j h=>by omega⟩ ⟨rfl,trivial⟩ ?_
 rintro i j w2 ⟨hi,rfl,hj⟩;have ni:=C2 (i:=i) zo;refine zR ?_;rw [h0,hsz];rw [show ((1:Nat):Int)=1 from rfl,ni];apply E.b7<;>intro h
 ·have hi2:i<s.length:=by omega
  clear h;refine zR ?_;rw [h0,show ((1:Nat):Int)=1 from rfl,ni];refine a0J [s[i]] rfl rfl rfl rfl zo zo zo ?_ ?_
  ·rw [show ((i+1:Nat):Int).toNat-(i:Int).toNat=1 by omega,Int.toNat_natCast];exact c1Z hi2
  refine zR ?_;apply E.b7<;>intro h
  ·have e:=a0p.1 h;refine zR ?_;exact ⟨C3 (c01 (by rw [List.getElem?_eq_getElem hi2];simpa using e) hj).symm,rfl⟩
  ·refine zR ?_;refine ⟨i+1,⟨m7 ni,trivial⟩,⟨zo,rfl,fun j h2=>?_⟩,zo⟩;by_cases e:j<i
   ·exact hj j e
   ·have:j=i:=by omega
    subst this;rw [List.getElem?_eq_getElem hi2];intro e2;injection e2 with e2;exact h (by rw [e2])
 ·refine zR ?_;exact ⟨C3 (b85 (fun j h2=>hj j zo)).symm,rfl⟩
theorem a0M (c:UInt8) (s:Tx) (hs:s.length≤100000) (w:World):Calls G.P 215 #[s8 s,s8 [c]] w (D5 (.bool (decide (c∈s))) w):=by
 refine zN Tryz.func215 ?_;refine zR ?_;refine d9 (a56 c s hs w) (zR ?_);refine ⟨m8 ?_,rfl⟩;unfold ixZ;by_cases h:c∈s
 ·rw [if_pos h];rw [decide_eq_true h];exact decide_eq_true zo
 ·rw [if_neg h];rw [decide_eq_false h];exact decide_eq_false zo
def b69 (n:Nat):UInt8:=[75,81,107,113].getD n 0
theorem b6A:∀ n:Nat,n<4→∀ c:Nat,c<16→decide (b69 n∈Ch.castT (c:Int))=Ch.P8 (c:Int) n:=by decide
theorem a6c (cr:Int) (h0:0≤cr) (h1:cr≤15) (t:Int) (ht:t=0∨t=1) (sd:Int) (hsd:sd=1∨sd=2) (w:World) :
  Calls G.P 175 #[s8 (Ch.castT cr),.int .i8 (t+1),.int .i64 sd] w (K4 (.bool (Ch.P8 cr (2*t+(sd-1)).toNat)) w):=by
 have hl:=a0Y cr;have key:∀ n:Nat,n<4→decide (b69 n∈Ch.castT cr)=Ch.P8 cr n:=fun n hn=>by
  have:=b6A n hn cr.toNat zo
  rwa [Int.toNat_of_nonneg h0] at this
 have e1:(0:Int)+1=1:=rfl;have e2:(1:Int)+1=2:=rfl;rcases ht with rfl | rfl<;>rcases hsd with rfl | rfl<;>simp only [e1,e2]<;>(refine E.enter (G:=G) Tryz.func175 rfl (by simp [Tryz.ntmps175]) zk ?_)<;>refine a4x ?_
 ·refine zR ?_;refine m9 (a84 107 (.inl rfl) w) fun w1 c1=>zR ?_;refine d9 (a0M 75 (Ch.castT cr) zo w1) (zR ?_);exact ⟨m8 (key 0 zd),c1⟩
 ·refine zR ?_;refine m9 (a84 113 (.inr rfl) w) fun w1 c1=>zR ?_;refine d9 (a0M 81 (Ch.castT cr) zo w1) (zR ?_);exact ⟨m8 (key 1 zd),c1⟩
 ·refine zR ?_;refine d9 (a0M 107 (Ch.castT cr) zo w) (zR ?_);exact ⟨m8 (key 2 zd),Cl.refl _⟩
 ·refine zR ?_;refine d9 (a0M 113 (Ch.castT cr) zo w) (zR ?_);exact ⟨m8 (key 3 zd),Cl.refl _⟩
end
end Go.Proofs.YtpclhlhcegcflaaGreatDoor
