/- One part of the proof: Fen Pk39 Pk40 Pk41 Pk42 Law11 Pk43 Shl2 Pk44 Lid. -/
import Derived.Laws.RangeString
import Derived.Shelf.Strings.TrimSpace
import Derived.Shelf.Strconv.Atoi
import Derived.Lib.LaidU8
import Derived.LaidMore
import Derived.OpenShut
import Derived.Handed
import Derived.Test.YtpclhlhcegcflaaGreatDoorM1
import Derived.Test.YtpclhlhcegcflaaGreatDoorM3
import Derived.Test.YtpclhlhcegcflaaGreatDoorM12
import Derived.Test.YtpclhlhcegcflaaGreatDoorM14
namespace Go.Proofs.YtpclhlhcegcflaaGreatDoor
set_option maxRecDepth 100000
set_option linter.unusedSimpArgs false
set_option linter.unusedVariables false
section
namespace Ch
set_option linter.unusedSimpArgs false
set_option linter.unusedVariables false
def a2u (c:UInt8):Tx→Tx→List Tx
 | cur,[]=>[cur]
 | cur,x::r=>if x=c then cur::a2u c [] r else a2u c (cur++[x]) r
theorem a4m {c:UInt8}:∀ {s cur:Tx},c∉s→a2u c cur s=[cur++s]
 | [],cur,_=>by simp [a2u]
 | x::r,cur,h=>by
  have hx:¬ x=c:=fun e=>h (by rw [e];exact yW)
  rw [a2u,zJ hx,a4m (fun hm=>h (yX _ hm))];simp
theorem a1d {c:UInt8} {b:Tx}:∀ {a cur:Tx},c∉a→a2u c cur (a++c::b)=(cur++a)::a2u c [] b
 | [],cur,_=>by simp [a2u]
 | x::r,cur,h=>by
  have hx:¬ x=c:=fun e=>h (by rw [e];exact yW)
  rw [yS,a2u,zJ hx,a1d (fun hm=>h (yX _ hm))];simp
theorem b23 {c:UInt8}:∀ {s cur:Tx},0<(a2u c cur s).length
 | [],cur=>by simp [a2u]
 | x::r,cur=>by
  rw [a2u];split
  ·simp
  ·exact b23
theorem a67 {c:UInt8}:∀ {s:Tx},c∈s→s=s.take (s.idxOf c)++c::s.drop (s.idxOf c+1)∧c∉s.take (s.idxOf c)∧s.idxOf c<s.length
 | [],h=>by cases h
 | x::r,h=>by
  by_cases e:x=c
  ·subst e;simp
  ·have hm:c∈r:=by
    rcases yQ.1 h with e2 | h2
    ·exact absurd e2.symm e
    ·exact h2
   obtain ⟨h1,h2,h3⟩:=a67 hm;have ei:(x::r).idxOf c=r.idxOf c+1:=by rw [List.idxOf_cons,show (x==c)=false by simpa using e];rfl
   rw [ei];refine ⟨?_,?_,by simp;omega⟩
   ·rw [List.take_succ_cons,List.drop_succ_cons,yS,← h1]
   ·rw [List.take_succ_cons];intro hm2;rcases yQ.1 hm2 with e2 | h4
    ·exact e e2.symm
    ·exact h2 h4
theorem c1g {c:UInt8} {s:Tx} (h:c∈s):a2u c [] s=s.take (s.idxOf c)::a2u c [] (s.drop (s.idxOf c+1)):=by
 obtain ⟨h1,h2,_⟩:=a67 h;have:=a1d (b:=s.drop (s.idxOf c+1)) (cur:=[]) h2;rw [← h1,yJ] at this;exact this
def Ltr (c:UInt8):Prop:=c≠32∧c≠47
theorem a7M (n:Nat):∀ c∈dec n,∃ k,k<10∧c=UInt8.ofNat (48+k):=by
 induction n using Nat.strongRecOn with
 | _ n ih =>
  intro c hc;unfold dec at hc;split at hc
  ·rename_i h;exact ⟨n,h,by simpa using hc⟩
  ·rename_i h;rcases zq.1 hc with hc | hc
   ·exact ih (n/10) zo c hc
   ·exact ⟨n%10,zo,by simpa using hc⟩
theorem c1h:∀ k,k<10→Ltr (UInt8.ofNat (48+k)):=by
 unfold Ltr;decide
theorem b1e (n:Nat):∀ c∈dec n,Ltr c:=fun c hc=>by
 obtain ⟨k,hk,rfl⟩:=a7M n c hc;exact c1h k hk
theorem c3x (x:Int):∀ c∈pcT x,Ltr c:=by
 by_cases h:1≤x∧x≤12
 ·rcases (by omega:x=1∨x=2∨x=3∨x=4∨x=5∨x=6∨x=7∨x=8∨x=9∨x=10∨x=11∨x=12) with rfl | rfl | rfl | rfl | rfl | rfl | rfl | rfl | rfl | rfl | rfl | rfl <;>
   (intro c hc;have:=zY.1 hc;rw [this];exact ⟨zd,zd⟩)
 ·have e:pcT x=[]:=by
   unfold pcT;rw [zJ zo,zJ zo,zJ zo,zJ zo,zJ zo,zJ zo,zJ zo,zJ zo,zJ zo,zJ zo,zJ zo,zJ zo]
  intro c hc;rw [e] at hc;cases hc
theorem b5k (e:Nat):∀ c∈Z4 e,Ltr c:=by
 intro c hc;unfold Z4 at hc;split at hc
 ·cases hc
 ·exact b1e e c hc
theorem a5Q (g:Nat→Int):∀ n f e,∀ c∈a0F g n f e,Ltr c
 | 0,_,e,c,hc=>b5k e c hc
 | n+1,f,e,c,hc=>by
  rw [a0F] at hc;split at hc
  ·exact a5Q g n (f+1) (e+1) c hc
  ·rcases zq.1 hc with hc | hc
   ·rcases zq.1 hc with hc | hc
    ·exact b5k e c hc
    ·exact c3x _ c hc
   ·exact a5Q g n (f+1) 0 c hc
def a3G (p:l9) (r:Nat):Tx:=a0F (fun f=>sq p (8*(r:Int)+f)) 8 0 0
def a5R (p:l9):Nat→List Tx
 | 0=>[]
 | r+1=>a3G p r::a5R p r
theorem a68 (p:l9):∀ n k,k<n→(a5R p n)[k]?=some (a3G p (n-1-k))
 | n+1,0,_=>by simp [a5R]
 | n+1,k+1,h=>by
  rw [a5R,List.getElem?_cons_succ,a68 p n k zo];rw [show n+1-1-(k+1)=n-1-k by omega]
theorem b0e (p:l9):∀ n,(a5R p n).length=n
 | 0=>rfl
 | n+1=>by rw [a5R,zh,b0e p n]
theorem a8V (p:l9):∀ r,a2u 47 [] (boardT p (r+1))=a5R p (r+1)
 | 0=>by
  have h:(47:UInt8)∉a3G p 0:=fun h=>(a5Q _ _ _ _ _ h).2 rfl;have e:boardT p 1=a3G p 0:=by simp [boardT,a3G]
  rw [e,a4m h];rfl
 | r+1=>by
  have h:(47:UInt8)∉a3G p (r+1):=fun h=>(a5Q _ _ _ _ _ h).2 rfl;have e:boardT p (r+1+1)=a3G p (r+1)++47::boardT p (r+1):=by
   rw [boardT,zJ zo];simp [a3G]
  rw [e,a1d h,a8V p r];rfl
theorem b0f (p:l9):∀ r,∀ c∈boardT p r,c≠32
 | 0,c,hc=>by cases hc
 | r+1,c,hc=>by
  rw [boardT] at hc;rcases zq.1 hc with hc | hc
  ·rcases zq.1 hc with hc | hc
   ·exact (a5Q _ _ _ _ c hc).1
   ·split at hc
    ·cases hc
    ·rw [zY.1 hc];decide
  ·exact b0f p r c hc
theorem b6r (p:l9):a2u 32 [] (fenT p)=[boardT p 8,turnT p.turn,castT p.castle,epT p.ep,dec p.half.toNat,dec p.full.toNat]:=by
 have n1:(32:UInt8)∉boardT p 8:=fun h=>b0f p 8 _ h rfl;have n2:(32:UInt8)∉turnT p.turn:=by unfold turnT;split<;>decide
 have n3:(32:UInt8)∉castT p.castle:=by
  have:∀ a b c d:Bool,(32:UInt8)∉(let t:Tx:=(if a then [75] else [])++(if b then [81] else [])++(if c then [107] else [])++(if d then [113] else []);if t.isEmpty then [45] else t):=by decide
  exact this _ _ _ _
 have n4:(32:UInt8)∉epT p.ep:=by
  unfold epT;split
  ·rename_i h;have:∀ k,k<64→(32:UInt8)∉r9 ((k:Nat):Int)++a0K ((k:Nat):Int):=by decide
   have h2:=this p.ep.toNat zo
   rwa [zi h.1] at h2
  ·decide
 have n5:(32:UInt8)∉dec p.half.toNat:=fun h=>(b1e _ _ h).1 rfl;have n6:(32:UInt8)∉dec p.full.toNat:=fun h=>(b1e _ _ h).1 rfl;have e:fenT p=boardT p 8++32::(turnT p.turn++32::(castT p.castle++32::(epT p.ep++32::(dec p.half.toNat++32::dec p.full.toNat)))):=by simp [fenT]
 rw [e,a1d n1,a1d n2,a1d n3,a1d n4,a1d n5,a4m n6];rfl
theorem b1f {p:l9} (hp:∀ i:Int,0≤sq p i∧sq p i≤12) (r:Nat):J0 (a3G p r)=a4W (fun f=>sq p (8*(r:Int)+f)) 8 0:=by
 unfold a3G;rw [b2l _ (fun f=>hp _) 8 0 0 zo];rfl
theorem b24 (g:Nat→Int):∀ n s k,k<n→(a4W g n s)[k]?=some (g (s+k))
 | n+1,s,0,_=>by simp [a4W]
 | n+1,s,k+1,h=>by
  rw [a4W,List.getElem?_cons_succ,b24 g n (s+1) k zo,show s+1+k=s+(k+1) by omega]
theorem a8W (g:Nat→Int):∀ n s,(a4W g n s).length=n
 | 0,_=>rfl
 | n+1,s=>by rw [a4W,zh,a8W g n]
def b3U (c:UInt8):Prop:=(49≤c.toNat∧c.toNat≤56)∨∃ x:Int,1≤x∧x≤12∧pcT x=[c]
theorem b89 (g:Nat→Int):∀ n f e,e+n≤8→∀ c∈a0F g n f e,b3U c:=by
 have hcnt:∀ e,e≤8→∀ c∈Z4 e,b3U c:=by
  intro e he c hc;unfold Z4 at hc;split at hc
  ·cases hc
  ·rename_i h0;unfold dec at hc;rw [dif_pos zo] at hc;have:=zY.1 hc;have h2:∀ e,e≤8→e≠0→49≤(UInt8.ofNat (48+e)).toNat∧(UInt8.ofNat (48+e)).toNat≤56:=by
    intro e he h0;rcases (by omega:e=1∨e=2∨e=3∨e=4∨e=5∨e=6∨e=7∨e=8) with rfl | rfl | rfl | rfl | rfl | rfl | rfl | rfl<;>decide
   exact .inl (by rw [this];exact h2 e he h0)
 intro n
 induction n with
 | zero=>intro f e he c hc;exact hcnt e zo c hc
 | succ n ih =>
  intro f e he c hc;rw [a0F] at hc;split at hc
  ·exact ih (f+1) (e+1) zo c hc
  ·rename_i h0;rcases zq.1 hc with hc | hc
   ·rcases zq.1 hc with hc | hc
    ·exact hcnt e zo c hc
    ·refine .inr ⟨g f,zo,zo,?_⟩;have h1:1≤g f:=by omega
     have h2:g f≤12:=by omega
     generalize g f=x at *;rcases (by omega:x=1∨x=2∨x=3∨x=4∨x=5∨x=6∨x=7∨x=8∨x=9∨x=10∨x=11∨x=12) with rfl | rfl | rfl | rfl | rfl | rfl | rfl | rfl | rfl | rfl | rfl | rfl<;>(have:=zY.1 hc;rw [this];rfl)
   ·exact ih (f+1) 0 zo c hc
end Ch
end
section
open Go Go.RowKit
open E
open Ch Bb
theorem U6 (t:Tx):∀ v∈H2 t,v.oneCell'=true:=by intro v hv;simp [H2] at hv;subst hv;rfl
theorem a8X {t:Tx} {i:Nat} (hi:i<t.length):(tx t).get! (i:Int).toNat=t[i]:=by
 show t.toArray[i]! = t[i];rw [getElem!_pos t.toArray i (by simpa using hi)];simp
theorem b6s (t:Int) (ht:t=0∨t=1) (w:World):Calls G.P 192 #[m9 (turnT t)] w (D9 (.int .i8 (t+1)) w):=by
 rcases ht with rfl | rfl
 ·rw [show turnT 0=[119] from rfl];refine zN Tryz.func192 ?_;refine zR ?_;first | (refine E.A0 rfl ?_;refine zR ?_) | skip
  exact ⟨rfl,rfl⟩
 ·rw [show turnT 1=[98] from rfl];refine zN Tryz.func192 ?_;refine zR ?_;first | (refine E.p8 zd ?_;refine zR ?_) | skip
  first | (refine E.A0 rfl ?_;refine zR ?_) | skip
  exact ⟨rfl,rfl⟩
theorem b3V (c:UInt8) (s:Tx) (i:Nat) (hi:i<s.length):(s.take (i+1)).count c=(s.take i).count c+(if s[i]=c then 1 else 0):=by
 rw [zw hi,List.count_append,List.count_singleton];by_cases h:s[i]=c
 ·simp [h]
 ·simp [h]
theorem b6t (c:UInt8) (s:Tx) (hs:s.length≤100000) (w:World):Calls G.P 239 #[m9 s,m9 [c]] w (D9 (.int .i64 (s.count c)) w):=by
 have h0:(tx [c]).size=1:=C3 _;have hsz:(tx s).size=s.length:=C3 _;refine zN Tryz.func239 ?_;refine zR ?_;refine A9 (σ:=Nat) [5,6] 7 (fun i=>[(5,.int .i64 ((s.take i).count c)),(6,.int .i64 i)]) (fun i w'=>i≤s.length∧w'=w) (fun i=>s.length-i) zk 0 ⟨zo,rfl⟩ ⟨rfl,rfl,trivial⟩ ?_;rintro i j w2 ⟨hi,rfl⟩;have ni:=C0 (i:=i) zo;have hcl:(s.take i).count c≤i:=by have:=List.count_le_length (a:=c) (l:=s.take i);rw [yc] at this;omega
 have nc:=C0 (i:=(s.take i).count c) zo;refine zR ?_;rw [h0,hsz];rw [show ((1:Nat):Int)=1 from rfl,ni];apply E.d6<;>intro h
 ·have hi2:i<s.length:=by omega
  clear h;have htk:=b3V c s i hi2;refine zR ?_;rw [h0,show ((1:Nat):Int)=1 from rfl,ni];refine a0U [s[i]] rfl rfl rfl rfl zo zo zo ?_ ?_
  ·rw [show ((i+1:Nat):Int).toNat-(i:Int).toNat=1 by omega,zg];exact c43 hi2
  refine zR ?_;apply E.d6<;>intro h
  ·have e:=N5.1 h;injection e with e;rw [zM e] at htk;refine zR ?_;rw [h0,show ((1:Nat):Int)=1 from rfl];exact ⟨i+1,⟨d7 (by rw [nc,htk]),d7 ni,trivial⟩,⟨zo,rfl⟩,zo⟩
  ·have e:¬ s[i]=c:=fun e=>h (by rw [e])
   rw [zJ e] at htk;refine zR ?_;exact ⟨i+1,⟨d7 zo,d7 ni,trivial⟩,⟨zo,rfl⟩,zo⟩
 ·have e:i=s.length:=by omega
  subst e;rw [yY];refine zR ?_;exact ⟨rfl,rfl⟩
theorem a5b (i:Nat) (hi:i<64):r9 (i:Int)++a0K (i:Int)=[UInt8.ofNat (97+i%8),UInt8.ofNat (49+i/8)]∧(UInt8.ofNat (97+i%8)).toNat=97+i%8∧(UInt8.ofNat (49+i/8)).toNat=49+i/8:=by
 refine ⟨?_,?_,?_⟩
 ·unfold r9 a0K;rw [show ((i:Int)%8).toNat=i%8 by omega,show ((i:Int)/8).toNat=i/8 by omega];rfl
 ·rw [UInt8.toNat_ofNat'];omega
 ·rw [UInt8.toNat_ofNat'];omega
theorem a9v (i:Nat) (hi:i<64) (w:World):Calls G.P 240 #[m9 (r9 (i:Int)++a0K (i:Int))] w (L4 (.int .i8 i) w):=by
 obtain ⟨e0,e1,e2⟩:=a5b i hi;rw [e0];clear e0;generalize UInt8.ofNat (97+i%8)=a at *;generalize UInt8.ofNat (49+i/8)=b at *;have hsz:(tx [a,b]).size=2:=rfl;have g0:(tx [a,b]).get! (0:Int).toNat=a:=rfl;have g1:(tx [a,b]).get! (1:Int).toNat=b:=rfl;have c1:IntKind.i8.wrap (IntKind.u8.wrap ((a.toNat:Int)-97))=((i%8:Nat):Int):=by rw [e1,b1P zo zo,Y8 zo zo];omega
 have c2:IntKind.i8.wrap (IntKind.u8.wrap ((b.toNat:Int)-49))=((i/8:Nat):Int):=by rw [e2,b1P zo zo,Y8 zo zo];omega
 have hns:=fun w=>b0U (i%8) (i/8) zo zo w;rw [show 8*(i/8)+i%8=i by omega] at hns
 refine zN Tryz.func240 ?_;refine zR ?_;rw [hsz];have h1:¬ ((((tx [a,b]).get! (Int.toNat 0)).toNat:Int)<97):=by rw [g0,e1];omega
 have h2:¬ ((104:Int)<(((tx [a,b]).get! (Int.toNat 0)).toNat:Int)):=by rw [g0,e1];omega
 have h3:¬ ((((tx [a,b]).get! (Int.toNat 1)).toNat:Int)<49):=by rw [g1,e2];omega
 have h4:¬ ((56:Int)<(((tx [a,b]).get! (Int.toNat 1)).toNat:Int)):=by rw [g1,e2];omega
 repeat (first | (refine E.p8 h1 ?_;refine zR ?_) | (refine E.p8 h2 ?_;refine zR ?_) | (refine E.p8 h3 ?_;refine zR ?_) | (refine E.p8 h4 ?_;refine zR ?_))
 clear h1 h2 h3 h4;refine zK 10 ?_;rw [← g0] at c1;rw [← g1] at c2;refine zR ?_;rw [c1,c2];refine o5 _ (fun w _=>hns w) (zR ?_);intro w1 hw1;refine zR ?_;exact ⟨rfl,hw1⟩
theorem mFP:a1X 272 199 194 .i8 .i8:=a8P zk
theorem a8Y:∀ {r1:List En} {x:En} {r2:List En},((r1++x::r2).map (·.k)).Nodup→a5N x.k (r1++x::r2)=r1++r2
 | [],x,r2,_=>by rw [yJ,a5N,zM rfl];rfl
 | y::r1,x,r2,h=>by
  rw [yS,yP,List.nodup_cons] at h;have hne:¬ x.k=y.k:=fun e=>h.1 (by rw [← e];exact List.mem_map.2 ⟨x,by simp,rfl⟩)
  rw [yS,a5N,zJ hne,a8Y h.2];rfl
theorem a2l {β:Type} (f:En→β) {r1:List En} {x:En} {r2:List En} (h:((r1++x::r2).map f).Nodup):((r1++r2).map f).Nodup :=
 (List.Sublist.map f (List.Sublist.append (List.Sublist.refl r1) (List.sublist_cons_self x r2))).nodup h
theorem Itr.del {qk qe:IntKind} {w w':World} {b r c:Nat} {r1 r2:List En} {x:En} (h:Itr qk qe w b r (r1++x::r2) c (r1++r2)) (hk:((r1++x::r2).map (·.k)).Nodup) (u:Upd w b (mpO qk qe (a5N x.k (r1++x::r2)) c) w'):Itr qk qe w' b r (r1++r2) c (r1++r2):=by
 obtain ⟨hb,⟨seen,s,c0,hr,hrem,hold,h1,h2⟩,nd⟩:=h;have hne:r≠b:=fun e=>by rw [e,hb] at hr;cases hr
 rw [a8Y hk] at u;refine ⟨u.at_,⟨seen,s,c0,(Tn.upd u).blk hr hne,?_,fun y hy=>hold y ?_,h1,h2⟩,a2l _ nd⟩
 ·have hin:∀ y∈r1++r2,(!seen.contains y.n)=true:=fun y hy=>by
   rw [hrem] at hy;exact (List.mem_filter.1 hy).2
  exact (List.filter_eq_self.2 hin).symm
 ·rcases zq.1 hy with hy | hy
  ·exact yO _ hy
  ·exact List.mem_append_right _ (yX _ hy)
theorem b6u {b c:Nat} {l:List En} (hn:(l.map (·.n)).Nodup) (hc:∀ x∈l,x.n<c) (hk:(l.map (·.k)).Nodup) (w:World) (hb:w.heap[b]?=some (mpO .i8 .i8 l c)) :
  Calls G.P 235 #[.map (some b)] w (fun r w'=>r = .returned (.tuple #[])∧w'.heap[b]?=some (mpO .i8 .i8 [] c)∧Tn b w w'):=by
 have hbs:=C5 hb;refine zN Tryz.func235 ?_;refine zR ?_;refine a2D mSP rfl hb hn hc fun w1 c1 s1 hI=>zR ?_;refine A9 (σ:=List En) [2] 5 (fun _=>[]) (fun rem w'=>Tn b w w'∧(rem.map (·.k)).Nodup∧Itr .i8 .i8 w' b w.heap.size rem c rem) (fun rem=>rem.length) zk l ⟨Tn.cl c1,hk,hI⟩ trivial ?_;rintro rem j w2 ⟨n2,hk2,hI2⟩;refine zR ?_;refine a3F rfl hI2 (fun e=>?_) (fun r1 x r2 w3 e n3 hI3 hE=>?_)
 ·refine zR ?_;subst e;exact ⟨rfl,hI2.hb,n2⟩
 ·subst e;refine zR ?_;refine a2E rfl hE (zR ?_);refine b5g mSP rfl rfl hE.hb fun w4 u4=>zR ?_;refine ⟨r1++r2,trivial,⟨?_,a2l _ hk2,Itr.del hI3 hk2 u4⟩,by simp⟩
  exact (n2.skip n3 (yH _)).trans (Tn.upd u4)
theorem b0g {b c:Nat} {l:List En} (hn:(l.map (·.n)).Nodup) (hc:∀ x∈l,x.n<c) (hk:(l.map (·.k)).Nodup) (w:World) (hb:w.heap[b]?=some (mpO .i8 .i8 l c)) :
  Calls G.P 236 #[.map (some b)] w (fun r w'=>r = .returned (.tuple #[])∧w'.heap[b]?=some (mpO .i8 .i8 [] c)∧Tn b w w'):=by
 have hbs:=C5 hb;refine zN Tryz.func236 ?_;refine zR ?_;refine a2D mFP rfl hb hn hc fun w1 c1 s1 hI=>zR ?_;refine A9 (σ:=List En) [2] 5 (fun _=>[]) (fun rem w'=>Tn b w w'∧(rem.map (·.k)).Nodup∧Itr .i8 .i8 w' b w.heap.size rem c rem) (fun rem=>rem.length) zk l ⟨Tn.cl c1,hk,hI⟩ trivial ?_;rintro rem j w2 ⟨n2,hk2,hI2⟩;refine zR ?_;refine a3F rfl hI2 (fun e=>?_) (fun r1 x r2 w3 e n3 hI3 hE=>?_)
 ·refine zR ?_;subst e;exact ⟨rfl,hI2.hb,n2⟩
 ·subst e;refine zR ?_;refine a2E rfl hE (zR ?_);refine b5g mFP rfl rfl hE.hb fun w4 u4=>zR ?_;refine ⟨r1++r2,trivial,⟨?_,a2l _ hk2,Itr.del hI3 hk2 u4⟩,by simp⟩
  exact (n2.skip n3 (yH _)).trans (Tn.upd u4)
theorem a8Z {c:UInt8} (h:b3U c):(49≤c.toNat∧c.toNat≤56∧b8w c=List.replicate (c.toNat-48) 0)∨(¬ (49≤c.toNat∧c.toNat≤56)∧c.toNat<128∧b8w c=[a3h c.toNat]∧a3h c.toNat≠0∧0≤a3h c.toNat∧a3h c.toNat≤12):=by
 rcases h with h | ⟨x,h0,h1,h⟩
 ·refine .inl ⟨h.1,h.2,?_⟩;unfold b8w;rw [zM ⟨UInt8.le_iff_toNat_le.2 h.1,UInt8.le_iff_toNat_le.2 h.2⟩]
 ·refine .inr ?_;rcases (by omega:x=1∨x=2∨x=3∨x=4∨x=5∨x=6∨x=7∨x=8∨x=9∨x=10∨x=11∨x=12) with rfl | rfl | rfl | rfl | rfl | rfl | rfl | rfl | rfl | rfl | rfl | rfl <;>
   (injection h with h _;subst h;exact ⟨zd,zd,zd,zd,zd,zd⟩)
theorem b6v (t:Tx) (i:Nat) (hi:i<t.length):J0 (t.take (i+1))=J0 (t.take i)++b8w t[i]:=by
 rw [zw hi,a1c];simp [J0]
set_option maxHeartbeats 1000000 in
theorem b3W {g:Nat→Int} {t:Tx} (ht:J0 t=a4W g 8 0) (hc:∀ c∈t,b3U c) (hl:t.length≤100) {fb c0:Nat} (w:World) (hT:C9 w) (hb:w.heap[fb]?=some (mpO .i8 .i8 [] c0)) :
  Calls G.P 237 #[m9 t,.map (some fb)] w (fun r w'=>r = .returned .nilIface∧w'.heap[fb]?=some (mpO .i8 .i8 (enG g c0 8) (c0+(enG g c0 8).length))∧Tn fb w w'):=by
 have hsz:(tx t).size=t.length:=C3 _;have hpre:∀ i,J0 t=J0 (t.take i)++J0 (t.drop i):=fun i=>by rw [← a1c,List.take_append_drop]
 have hn8:∀ i,(J0 (t.take i)).length≤8:=fun i=>by
  have:=yG List.length (hpre i);rw [ht,a8W,zF] at this;omega
 have hget:∀ i k (h:k<(J0 (t.take i)).length),(J0 (t.take i))[k]=g k:=fun i k h=>by
  have h1:=b24 g 8 0 k (by have:=hn8 i;omega)
  rw [← ht,hpre i,List.getElem?_append_left h,List.getElem?_eq_getElem h,yV] at h1;injection h1
 refine zN Tryz.func237 ?_;refine zR ?_;rw [hsz];refine A9 (σ:=Nat) [4,5,6,7,8,11] 12 (fun i=>[(5,.int .i64 ((J0 (t.take i)).length:Nat)),(11,.int .i64 i)]) (fun i w'=>i≤t.length∧Tn fb w w'∧w'.heap[fb]?=some (mpO .i8 .i8 (enG g c0 (J0 (t.take i)).length) (c0+(enG g c0 (J0 (t.take i)).length).length))) (fun i=>t.length-i) zk 0
  ⟨Nat.zero_le _,Tn.refl _ _,hb⟩ ⟨rfl,rfl,trivial⟩ ?_
 rintro i j w2 ⟨hi,n2,hm⟩;have ni:=C0 (i:=i) zo;refine zR ?_;apply E.d6<;>intro h
 ·have hi2:i<t.length:=by omega
  clear h;have htk:=b6v t i hi2;have hx:=a8Z (hc _ (yM hi2));have hgt:(tx t).get! (i:Int).toNat=t[i]:=a8X hi2;have h8:=hn8 (i+1);have hg:=hget (i+1);have h80:=hn8 i;refine zR ?_;refine E.A2 (E5.2 ⟨zo,by rw [hsz];omega⟩) (zR ?_)
  rw [hgt];generalize t[i]=c at *;rcases hx with ⟨d0,d1,hx⟩ | ⟨hd,hc8,hx,hx0,hx1,hx2⟩
  ·have hk:c.toNat-48+48=c.toNat:=by omega
   have e8:IntKind.u8.wrap ((c.toNat:Int)-48)=((c.toNat-48:Nat):Int):=by rw [b1P zo zo];omega
   have e64:IntKind.i64.wrap ((c.toNat-48:Nat):Int)=((c.toNat-48:Nat):Int):=g9 zo zo;rw [hx] at htk;have hlen:(J0 (t.take (i+1))).length=(J0 (t.take i)).length+(c.toNat-48):=by rw [htk,zF,List.length_replicate]
   have es:IntKind.i64.wrap (((J0 (t.take i)).length:Int)+((c.toNat-48:Nat):Int))=((J0 (t.take (i+1))).length:Int):=by rw [hlen,g9 zo zo];push_cast;rfl
   have hskip:=b20 g c0 (J0 (t.take i)).length (c.toNat-48) fun k h1 h2=>by
    have h3:=hg k zo;rw [← h3];have h4:(J0 (t.take (i+1)))[k]'zo=(J0 (t.take i)++List.replicate (c.toNat-48) 0)[k]'(by rw [← htk];omega):=by congr 1
    rw [h4,List.getElem_append_right h1,List.getElem_replicate]
   have t1:(49:Int)≤(c.toNat:Int):=by omega
   have t2:(c.toNat:Int)≤56:=by omega
   (repeat (first | (refine E.A0 t1 ?_;refine zR ?_) | (refine E.A0 t2 ?_;refine zR ?_)))
   rw [e8,e64,es];exact ⟨i+1,⟨rfl,d7 ni,trivial⟩,⟨zo,n2,by rw [hm,hlen,hskip]⟩,zo⟩
  ·rw [hx] at htk;have hlen:(J0 (t.take (i+1))).length=(J0 (t.take i)).length+1:=by rw [htk,zF];rfl
   have hgn:g (J0 (t.take i)).length=a3h c.toNat:=by
    have h3:=hg (J0 (t.take i)).length zo;rw [← h3];have h4:(J0 (t.take (i+1)))[(J0 (t.take i)).length]'zo=(J0 (t.take i)++[a3h c.toNat])[(J0 (t.take i)).length]'(by simp):=by congr 1
    rw [h4,List.getElem_append_right (yH _)];simp
   have hnew:=b5i g c0 (J0 (t.take i)).length;have hsu:enG g c0 ((J0 (t.take i)).length+1)=enG g c0 (J0 (t.take i)).length++[⟨((J0 (t.take i)).length:Nat),a3h c.toNat,c0+(enG g c0 (J0 (t.take i)).length).length⟩]:=by
    rw [enG,hgn,zJ hx0]
   rw [← hlen] at hsu;have e8:IntKind.i8.wrap ((J0 (t.take i)).length:Int)=((J0 (t.take i)).length:Int):=Y8 zo zo;have es:IntKind.i64.wrap (((J0 (t.take i)).length:Int)+1)=((J0 (t.take (i+1))).length:Int):=by rw [hlen,g9 zo zo];push_cast;rfl
   have hT2:C9 w2:=hT.fr (Fr.tn (S:=[fb]) n2 (.inl (by simp))) fun k hk cs u fz hh=>by
    rw [zY.1 hk,hb] at hh;cases hh
   have fin:∀ w3,Upd w2 fb (mpO .i8 .i8 (a8Q (enG g c0 (J0 (t.take i)).length) ((J0 (t.take i)).length:Int) (a3h c.toNat) (c0+(enG g c0 (J0 (t.take i)).length).length)) (b3R (enG g c0 (J0 (t.take i)).length) ((J0 (t.take i)).length:Int) (c0+(enG g c0 (J0 (t.take i)).length).length))) w3 →
     i+1≤t.length∧Tn fb w w3∧w3.heap[fb]?=some (mpO .i8 .i8 (enG g c0 (J0 (t.take (i+1))).length) (c0+(enG g c0 (J0 (t.take (i+1))).length).length)):=fun w3 u3=>by
    obtain ⟨q1,q2⟩:=b2y (v:=a3h c.toNat) (c:=c0+(enG g c0 (J0 (t.take i)).length).length) hnew;refine ⟨hi2,n2.trans (Tn.upd u3),?_⟩;rw [u3.at_,q1,q2,hsu,zF];rfl
   clear hsu hgn hnew hg htk hlen;have ldp:o4 G.P w2 194 ⟨8,c.toNat,none⟩ (.int .i8 (a3h c.toNat)):=K6 hT2.fen (i:=c.toNat) hc8 rfl rfl;by_cases t1:(49:Int)≤(c.toNat:Int)
   ·have t2:¬ (c.toNat:Int)≤56:=by omega
    (repeat (first | (refine E.A0 t1 ?_;refine zR ?_) | (refine E.p8 t2 ?_;refine zR ?_)))
    refine zC ?_;refine zR ?_;refine d9 _ ldp (zR ?_);refine E.p8 hx0 (zR ?_);rw [e8];refine a5P mFP rfl rfl rfl hm fun w3 u3=>zR ?_;rw [es];exact ⟨i+1,⟨rfl,d7 ni,trivial⟩,fin w3 u3,zo⟩
   ·(repeat (first | (refine E.p8 t1 ?_;refine zR ?_)))
    refine zC ?_;refine zR ?_;refine d9 _ ldp (zR ?_);refine E.p8 hx0 (zR ?_);rw [e8];refine a5P mFP rfl rfl rfl hm fun w3 u3=>zR ?_;rw [es];exact ⟨i+1,⟨rfl,d7 ni,trivial⟩,fin w3 u3,zo⟩
 ·have e:i=t.length:=by omega
  subst e;rw [yY] at hm;have h8:(J0 t).length=8:=by rw [ht,a8W]
  rw [h8] at hm;rw [yY,h8];refine zR ?_;exact ⟨rfl,hm,n2⟩
def accB (f:Nat→Bool):Nat→Nat
 | 0=>0
 | n+1=>bif f n then Ch.shl (accB f n) 1 ||| 1 else Ch.shl (accB f n) 1
instance accB_ok (f:Nat→Bool) (n:Nat):I6 (accB f n):=⟨by
 cases n with
 | zero=>show (0:Nat)<2^64;decide
 | succ n =>
  rw [accB];cases f n
  ·exact Ch.a8p _ _
  ·exact b7N (Ch.a8p _ _) zd⟩
theorem b8A (a j:Nat):(Ch.shl a 1).testBit j=(decide (j<64)&&(decide (1≤j)&&a.testBit (j-1))):=by
 unfold Ch.shl;rw [Nat.testBit_mod_two_pow,Nat.testBit_shiftLeft]
theorem c1i (k:Nat):(1:Nat).testBit (k+1)=false:=by
 rw [Nat.testBit_succ];simp
theorem b25 (f:Nat→Bool):∀ n,n≤64→∀ j,(accB f n).testBit j=(decide (j<n)&&f (n-1-j))
 | 0,_,j=>by simp [accB]
 | n+1,hn,j=>by
  have ih:=b25 f n zo;have hs:(accB f (n+1)).testBit j=((Ch.shl (accB f n) 1).testBit j||(f n&&(1:Nat).testBit j)):=by
   rw [accB];cases f n
   ·simp
   ·simp [yD]
  rw [hs,b8A];cases j with
  | zero=>simp
  | succ k =>
   rw [c1i,Bool.and_false,Bool.or_false,show k+1-1=k from rfl,ih k,show n+1-1-(k+1)=n-1-k by omega]
   by_cases hk:k<n
   ·rw [zX (show k+1<64 by omega),zX hk,zX (show k+1<n+1 by omega)];simp
   ·rw [zV hk,zV (show ¬ k+1<n+1 by omega)];simp
theorem b8B (f:Nat→Bool):accB f 64=bb f:=a99 (accB_ok f 64).lt fun s hs=>by
 rw [b25 f 64 (yH _),zX (show 63-s<64 by omega),show 64-1-(63-s)=s by omega];rfl
def kn1 (K:Int) (i:Nat):Int:=if K<i then K else -1
theorem b5l {K:Int} {i:Nat} (h:K=i):kn1 K (i+1)=i:=by unfold kn1;rw [zM zo,h]
theorem a5S {K:Int} {i:Nat} (h:¬ K=i):kn1 K (i+1)=kn1 K i:=by
 unfold kn1;by_cases h2:K<i
 ·rw [zM h2,zM zo]
 ·rw [zJ h2,zJ zo]
def kb (S:MB) (a c:Int):MB:={ S with wk:=a,bk:=c }
instance kb_ok {S:MB} [h:S.Ok] {a c:Int}:(kb S a c).Ok:=⟨h.lt⟩
set_option maxHeartbeats 1000000 in
theorem b6x {p:l9} (hI:B9 p) {B:MB} [hO:B.Ok] (hA:B.Is (fun s=>sq p s)) (hz:∀ i,15≤i→B.f i=0) {b:Nat} (w:World) (hB:w.heap[b]?=some (.cells (I4 B) 237 (0,0))) :
  Calls G.P 277 #[.pointer (some ⟨b,0,none⟩),.pointer none] w (fun r w'=>r = .returned (.tuple #[])∧w'.heap[b]?=some (.cells (I4 (mbOf p)) 237 (0,0))∧Tn b w w'):=by
 obtain ⟨a0,a1,a2,a3⟩:=hI.king 0 (.inl rfl);obtain ⟨b0,b1,b2,b3⟩:=hI.king 1 (.inr rfl);have hfin:I4 (kb B.sums (kingAt p 0) (kingAt p 1))=I4 (mbOf p):=by
  congr 1;exact a6v (fun i=>b4R hI.pc hA hz i) rfl rfl
 have t0:∀ s:Nat,s<64→(B.f 0).testBit (63-s)=decide (kingAt p 0=(s:Int)):=fun s hs=>by
  rw [hA 0 zd,a09 _ _ hs];refine yZ.2 ⟨fun h=>(a3 s zo zo h).symm,fun h=>?_⟩;rw [← h];exact a2
 have t6:∀ s:Nat,s<64→(B.f 6).testBit (63-s)=decide (kingAt p 1=(s:Int)):=fun s hs=>by
  rw [hA 6 zd,a09 _ _ hs];refine yZ.2 ⟨fun h=>(b3 s zo zo h).symm,fun h=>?_⟩;rw [← h];exact b2
 have hne:kingAt p 0≠kingAt p 1:=fun e=>by rw [e,b2] at a2;exact absurd a2 zd
 generalize kingAt p 0=K0 at *;generalize kingAt p 1=K1 at *;rw [← hfin];clear hfin a2 a3 b2 b3;have eW:B.whites=B.f 0 ||| B.f 1 ||| B.f 2 ||| B.f 3 ||| B.f 4 ||| B.f 5:=rfl
 have eK:B.blacks=B.f 6 ||| B.f 7 ||| B.f 8 ||| B.f 9 ||| B.f 10 ||| B.f 11:=rfl
 have lW:I6 B.whites:=inferInstance;have lK:I6 B.blacks:=inferInstance;have eS:B.sums=((B.set 12 B.whites).set 13 B.blacks).set 14 (Bb.not (B.whites ||| B.blacks)):=rfl
 have s0:B.sums.f 0=B.f 0:=rfl;have s6:B.sums.f 6=B.f 6:=rfl;have hSO:B.sums.Ok:=inferInstance;rw [← s0] at t0;rw [← s6] at t6;clear s0 s6;refine zN Tryz.func277 ?_;refine zR ?_;refine zK 30 ?_;refine zQ ?_;intro w1 c1;have hB1:=c1.blk hB;refine zR ?_;refine zK 30 ?_;clear hB;have hB:=hB1;refine zQ ?_;intro w2 c2;have hB2:=c2.blk hB1;have n2:Tn b w w2:=Tn.cl (c1.trans c2);clear hB hB1 c1 c2;rw [← eW,← eK];clear eW eK;generalize B.whites=W at *;generalize B.blacks=K at *;have hB:=hB2;refine zB ?_;refine a60 hB 12 zd _ (fun w3 u3=>?_);have n3:=n2.trans (Tn.upd u3);have hB:=u3.at_;refine zB ?_;refine a60 hB 13 zd _ (fun w4 u4=>?_);have n4:=n3.trans (Tn.upd u4);have hB:=u4.at_;refine zB ?_;refine a60 hB 14 zd _ (fun w5 u5=>?_);have n5:=n4.trans (Tn.upd u5);have hB:=u5.at_;rw [← eS] at hB;clear eS u3 u4 u5 n3 n4 n2 hB2 lW lK;generalize B.sums=S at *;refine zB ?_;refine a0c true (Q9 rfl _) (zB ?_);refine c2U hB _ (fun w6 u6=>?_);have n6:=n5.trans (Tn.upd u6);have hB:=u6.at_;refine zB ?_;refine c2V hB _ (fun w7 u7=>?_);have n7:=n6.trans (Tn.upd u7);have hB7:w7.heap[b]?=some (.cells (I4 (kb S (kn1 K0 0) (kn1 K1 0))) 237 (0,0)):=by
  have e0:kn1 K0 0=-1:=zJ zo;have e1:kn1 K1 0=-1:=zJ zo;rw [e0,e1];exact u7.at_
 clear hB u6 u7 n5 n6;refine zR ?_;refine A9 (σ:=Nat) [7,8,92] 93 (fun i=>[(92,.int .i64 i)]) (fun i w'=>i≤64∧Tn b w w'∧w'.heap[b]?=some (.cells (I4 (kb S (kn1 K0 i) (kn1 K1 i))) 237 (0,0))) (fun i=>64-i) zk 0 ⟨zo,n7,hB7⟩ ⟨rfl,trivial⟩ ?_;rintro i j w8 ⟨hi,n8,hB⟩;have ni:=C0 (i:=i) zo;refine zR ?_;apply E.d6<;>intro h
 ·have hi2:i<64:=by omega
  clear h;have ei:IntKind.i8.wrap (i:Int)=(i:Int):=Y8 zo zo;have h0:=t0 i hi2;have h6:=t6 i hi2;have o0:=fun w=>a1U (S.f 0) i hi2 w;have o6:=fun w=>a1U (S.f 6) i hi2 w;rw [h0] at o0;rw [h6] at o6;have ld0:o4 G.P w8 235 ⟨b,0,none⟩ (.int .u64 (S.f 0)):=Y5 hB 0 zd;have ld6:o4 G.P w8 235 ⟨b,6,none⟩ (.int .u64 (S.f 6)):=Y5 hB 6 zd;refine zR ?_;refine d9 _ ld0 (zR ?_);rw [ei];refine g8 (o0 _) (zR ?_);apply E.d6<;>intro h
  ·refine zR ?_;refine c2U hB _ (fun w9 u9=>zR ?_);refine ⟨i+1,⟨d7 ni,trivial⟩,⟨zo,n8.trans (Tn.upd u9),?_⟩,zo⟩;rw [b5l h,a5S (fun e=>hne (h.trans e.symm))];exact u9.at_
  ·have hn0:=h;clear h;refine zR ?_;refine d9 _ ld6 (zR ?_);refine g8 (o6 _) (zR ?_);apply E.d6<;>intro h
   ·refine zR ?_;refine c2V hB _ (fun w9 u9=>zR ?_);refine ⟨i+1,⟨d7 ni,trivial⟩,⟨zo,n8.trans (Tn.upd u9),?_⟩,zo⟩;rw [b5l h,a5S hn0];exact u9.at_
   ·refine zR ?_;refine ⟨i+1,⟨d7 ni,trivial⟩,⟨zo,n8,?_⟩,zo⟩;rw [a5S h,a5S hn0];exact hB
 ·have e:i=64:=by omega
  subst e;refine zR ?_;refine ⟨rfl,?_,n8⟩;have e0:kn1 K0 64=K0:=zM zo;have e1:kn1 K1 64=K1:=zM zo;rw [hB,e0,e1]
def bdI (p:l9) (i:Nat):MB:=⟨fun k=>if k<i then bbf (fun s=>sq p s) k else 0,0,0⟩
instance bdI_ok (p:l9) (i:Nat):(bdI p i).Ok:=⟨fun k=>by
 show (if k<i then _ else _)<_
 split
 ·exact a4Q _ _
 ·decide⟩
theorem c1j (p:l9) (i:Nat):(bdI p i).set i (bbf (fun s=>sq p s) i)=bdI p (i+1):=by
 refine a6v (fun k=>?_) rfl rfl;show (if k=i then _ else if k<i then _ else _)=if k<i+1 then _ else _
 by_cases h:k=i
 ·subst h;rw [zM rfl,zM zo]
 ·rw [zJ h];by_cases h2:k<i
  ·rw [zM h2,zM zo]
  ·rw [zJ h2,zJ zo]
def nzO (x:Int):Option Int:=if x=0 then none else some x
theorem c3y (x y:Int) (hy:y≠0):(nzO x).isSome=true∧y=(nzO x).getD 0↔x=y:=by
 unfold nzO;by_cases h:x=0
 ·rw [zM h];constructor
  ·intro h;cases h.1
  ·intro e;exact absurd (h.symm.trans e).symm hy
 ·rw [zJ h];constructor
  ·intro h;exact h.2.symm
  ·intro e;exact ⟨rfl,e.symm⟩
set_option maxHeartbeats 1000000 in
theorem b3X {p:l9} (hI:B9 p) {m c:Nat} {l:List En} (hl:∀ i:Nat,i<64→getV l (i:Int)=nzO (sq p i)) (w:World) (hT:C9 w) (hm:w.heap[m]?=some (mpO .i8 .i8 l c)) :
  Calls G.P 238 #[.map (some m)] w (fun r w'=>Cl w w'∧∃ b,r = .returned (.pointer (some ⟨b,0,none⟩))∧w.heap.size≤b∧w'.heap[b]?=some (.cells (I4 (mbOf p)) 237 (0,0))):=by
 obtain ⟨ga,oga,cp,ha1,ha2⟩:=hT.all;have hbd0:I4 (bdI p 0)=I4 ⟨fun _=>0,0,0⟩:=by congr 1
 refine zN Tryz.func238 ?_;refine zR ?_;refine s7 (I4 ⟨fun _=>0,0,0⟩) zk (zR ?_);have ca:=Cl.alloc w (.cells (I4 ⟨fun _=>0,0,0⟩) 237);have na:=g7 w (.cells (I4 ⟨fun _=>0,0,0⟩) 237);generalize w.alloc (.cells (I4 ⟨fun _=>0,0,0⟩) 237)=w1 at *;rw [← hbd0] at na;clear hbd0;refine d9 _ (K6 (ha1.cl ca) (i:=0) zd rfl rfl) (zR ?_);refine A9 (σ:=Nat) [5,6,7,8,9,14] 15 (fun i=>[(14,.int .i64 i)]) (fun i w'=>i≤12∧Cl w w'∧w'.heap[w.heap.size]?=some (.cells (I4 (bdI p i)) 237 (0,0))) (fun i=>12-i) zk 0 ⟨zo,ca,na⟩ ⟨rfl,trivial⟩ ?_;rintro i j w2 ⟨hi,c2,hB⟩;have ni:=C0 (i:=i) zo;refine zR ?_;apply E.d6<;>intro h
 ·have hi2:i<12:=by omega
  clear h;refine zR ?_;refine zC ?_;refine zR ?_;refine d9 _ (a6u (ha2.cl c2) (i:=i) hi2 rfl rfl) (zR ?_);refine A9 (σ:=Nat) [6,7,8,9,18] 19 (fun k=>[(6,.int .u64 (accB (fun s=>decide (sq p s=(i:Int)+1)) k:Nat)),(18,.int .i64 k)]) (fun k w'=>k≤64∧w'=w2) (fun k=>64-k) zk 0 ⟨zo,rfl⟩ ⟨rfl,rfl,trivial⟩ ?_;rintro k j2 w3 ⟨hk,rfl⟩;have nk:=C0 (i:=k) zo;refine zR ?_;apply E.d6<;>intro h
  ·have hk2:k<64:=by omega
   clear h;have ek:IntKind.i8.wrap (k:Int)=(k:Int):=Y8 zo zo;have hX:I6 (accB (fun s=>decide (sq p s=(i:Int)+1)) k):=inferInstance;have hXs:accB (fun s=>decide (sq p s=(i:Int)+1)) (k+1)=bif decide (sq p k=(i:Int)+1) then Ch.shl (accB (fun s=>decide (sq p s=(i:Int)+1)) k) 1 ||| 1 else Ch.shl (accB (fun s=>decide (sq p s=(i:Int)+1)) k) 1:=rfl
   have hv:=c3y (sq p k) ((i:Int)+1) zo;rw [← hl k hk2] at hv;generalize accB (fun s=>decide (sq p s=(i:Int)+1)) k=X at *;refine zS ?_;rw [ek];refine c1b mSP rfl rfl (c2.blk hm) ?_;have hs0:∀ x:Option Int,(x.isSome=true∧(i:Int)+1=x.getD 0↔sq p k=(i:Int)+1)→accB (fun s=>decide (sq p s=(i:Int)+1)) (k+1)=if x.isSome=true∧(i:Int)+1=x.getD 0 then Ch.shl X 1 ||| 1 else Ch.shl X 1:=fun x hx=>by
    rw [hXs];by_cases e:sq p k=(i:Int)+1
    ·rw [zX e,zM (hx.2 e)];rfl
    ·rw [zV e,zJ (fun h=>e (hx.1 h))];rfl
   have hs:=hs0 _ hv;clear hs0 hv hXs;generalize getV l (k:Int)=x at *;have hS:I6 (Ch.shl X 1):=inferInstance;generalize Ch.shl X 1=Y at *;cases x with
   | none =>
    rw [zJ (fun h=>by cases h.1)] at hs
    refine zR ?_;exact ⟨k+1,⟨by rw [hs];rfl,d7 nk,trivial⟩,⟨zo,rfl⟩,zo⟩
   | some y =>
    refine zR ?_;apply E.d6<;>intro h
    ·rw [zM ⟨rfl,h⟩] at hs;refine zR ?_;refine bOr (a:=Y) (b:=1) hS.lt zd (zR ?_);exact ⟨k+1,⟨by rw [hs];rfl,d7 nk,trivial⟩,⟨zo,rfl⟩,zo⟩
    ·rw [zJ (fun h2=>h h2.2)] at hs;refine zR ?_;exact ⟨k+1,⟨by rw [hs];rfl,d7 nk,trivial⟩,⟨zo,rfl⟩,zo⟩
  ·have e:k=64:=by omega
   subst e;have hset:=c1j p i;rw [b8B,show bb (fun s=>decide (sq p s=(i:Int)+1))=bbf (fun s=>sq p s) i from rfl];refine zR ?_;refine m8 (a5C (bdI p i) w.heap.size ((i:Int)+1) zo zo _ _ hB) ?_;rintro e w4 ⟨rfl,u4⟩;rw [show ((i:Int)+1).toNat-1=i by omega,hset] at u4
   refine ⟨_,rfl,?_⟩;refine zR ?_;exact ⟨i+1,⟨d7 ni,trivial⟩,⟨zo,u4.cl c2 (yH _),u4.at_⟩,zo⟩
 ·have e:i=12:=by omega
  subst e;have hA:(bdI p 12).Is (fun s=>sq p s):=fun i hi=>zM hi;have hz:∀ i,15≤i→(bdI p 12).f i=0:=fun i hi=>zJ zo;refine zR ?_;refine m8 (b6x hI hA hz w2 hB) ?_;rintro e w3 ⟨rfl,hB3,n3⟩;refine ⟨_,rfl,?_⟩;refine zR ?_;exact ⟨n3.toCl c2 (yH _),_,rfl,yH _,hB3⟩
def fmF (p:l9) (i:Nat) (k:Int):Option Int:=if 8*(8-(i:Int))≤k∧k<64 then nzO (sq p k) else none
def fmR (p:l9) (i:Nat) (rem:List En) (k:Int):Option Int :=
 if 8*(8-(i:Int))≤k∧k<64 then nzO (sq p k) else if 8*(7-(i:Int))≤k∧k<8*(8-(i:Int))∧(rem.all fun x=>!decide (x.k=k-8*(7-(i:Int))))=true then nzO (sq p k) else none
theorem b6y (p:l9) (i:Nat) (hi:i<8) (c0:Nat) (k:Int):fmF p i k=fmR p i (enG (fun f=>sq p (8*((7-i:Nat):Int)+f)) c0 8) k:=by
 unfold fmF fmR;by_cases h1:8*(8-(i:Int))≤k∧k<64
 ·rw [zM h1,zM h1]
 ·rw [zJ h1,zJ h1];by_cases h2:8*(7-(i:Int))≤k∧k<8*(8-(i:Int))∧((enG (fun f=>sq p (8*((7-i:Nat):Int)+f)) c0 8).all fun x=>!decide (x.k=k-8*(7-(i:Int))))=true
  ·rw [zM h2];obtain ⟨a,b,h3⟩:=h2;by_cases h0:sq p k=0
   ·rw [h0];rfl
   ·have e:8*((7-i:Nat):Int)+((k-8*(7-(i:Int))).toNat:Int)=k:=by omega
    obtain ⟨x,hx,hk⟩:=b5h (fun f=>sq p (8*((7-i:Nat):Int)+f)) c0 8 (k-8*(7-(i:Int))).toNat zo (by show sq p _≠0;rw [e];exact h0)
    have:=zl.1 h3 x hx;rw [zX (show x.k=k-8*(7-(i:Int)) by omega)] at this;cases this
  ·rw [zJ h2]
theorem c1k (p:l9) (i:Nat) (hi:i<8) (k:Int):fmR p i [] k=fmF p (i+1) k:=by
 unfold fmF fmR;by_cases h1:8*(8-(i:Int))≤k∧k<64
 ·rw [zM h1,zM ⟨zo,h1.2⟩]
 ·rw [zJ h1];by_cases h2:8*(7-(i:Int))≤k∧k<8*(8-(i:Int))
  ·rw [zM ⟨h2.1,h2.2,rfl⟩,zM ⟨zo,zo⟩]
  ·rw [zJ (fun h=>h2 ⟨h.1,h.2.1⟩),zJ zo]
theorem b8C {p:l9} {i:Nat} (hi:i<8) {r1 r2:List En} {x:En} (hk:((r1++x::r2).map (·.k)).Nodup) {f:Nat} (hf:f<8) (ex:x.k=(f:Int)) (ev:x.v=sq p (8*((7-i:Nat):Int)+f)) (h0:x.v≠0) (k:Int) :
  (if k=((8*(7-i)+f:Nat):Int) then some x.v else fmR p i (r1++x::r2) k)=fmR p i (r1++r2) k:=by
 by_cases e:k=((8*(7-i)+f:Nat):Int)
 ·rw [zM e];unfold fmR;rw [zJ zo,zM]
  ·have e2:8*((7-i:Nat):Int)+f=k:=by omega
   rw [e2] at ev;unfold nzO;rw [zJ (by rw [← ev];exact h0),ev]
  ·refine ⟨zo,zo,zl.2 fun y hy=>?_⟩;rw [List.map_append,yP,List.nodup_append] at hk;obtain ⟨_,k2,k3⟩:=hk;rw [List.nodup_cons] at k2;have hne:y.k≠x.k:=by
    rcases zq.1 hy with hy | hy
    ·exact k3 y.k (List.mem_map.2 ⟨y,hy,rfl⟩) x.k (yW ..)
    ·exact fun e=>k2.1 (by rw [← e];exact List.mem_map.2 ⟨y,hy,rfl⟩)
   rw [zV (show ¬ y.k=k-8*(7-(i:Int)) by omega)];rfl
 ·rw [zJ e];unfold fmR;have:((r1++x::r2).all fun x=>!decide (x.k=k-8*(7-(i:Int))))=((r1++r2).all fun x=>!decide (x.k=k-8*(7-(i:Int)))):=by
   rw [List.all_append,List.all_append,List.all_cons,zV (show ¬ x.k=k-8*(7-(i:Int)) by omega)];rfl
  rw [this]
theorem c4G:∃ z,(G.P.info? 273).bind (·.zero)=some z∧z.cells.size=8:=a0a zk
def a69 (w:World) (A:Nat) (rs:List Tx):Prop:=∃ cs,w.heap[A]?=some (.cells cs 273 (0,0))∧cs.size=8∧∀ k (h:k<rs.length),cs[k]?=some (m9 rs[k])
theorem a69.put {w w':World} {A:Nat} {rs:List Tx} {t:Tx} {cs:Array Value} (hs:cs.size=8) (hr:∀ k (h:k<rs.length),cs[k]?=some (m9 rs[k])) (hl:rs.length<8) (u:Upd w A (.cells (I3 cs rs.length [m9 t]) 273 (0,0)) w'):a69 w' A (rs++[t]):=by
 refine ⟨_,u.at_,by rw [E8,hs],fun k h=>?_⟩
 rw [zF,List.length_singleton] at h;rw [N3 _ _ _ _ (by rw [hs];exact hl)]
 simp only [List.length_singleton];by_cases e:k=rs.length
 ·subst e;rw [zM zo,List.getElem_append_right (yH _)];simp
 ·rw [zJ zo,List.getElem_append_left zo];exact hr k zo
set_option maxHeartbeats 2000000 in
theorem b3Y {p:l9} (hI:B9 p) (w:World) (hT:C9 w) :
  Calls G.P 191 #[m9 (boardT p 8)] w (fun r w'=>Cl w w'∧∃ b,r = .returned (.tuple #[.pointer (some ⟨b,0,none⟩),.nilIface])∧w.heap.size≤b∧w'.heap[b]?=some (.cells (I4 (mbOf p)) 237 (0,0))):=by
 have hsz:(tx (boardT p 8)).size=(boardT p 8).length:=C3 _;have hsp:=a8V p 7;have hlen:=a0o p 8;have hrl:=b0e p 8;generalize hT8:boardT p 8=T at *;refine zN Tryz.func191 ?_;refine zR ?_;refine a8T mSP rfl ?_;have ca:=Cl.alloc w (.map #[] 0);have na:(w.alloc (.map #[] 0)).heap[w.heap.size]?=some (mpO .i8 .i8 [] 0):=g7 w (.map #[] 0);have sa:=A8 w (.map #[] 0);generalize w.alloc (.map #[] 0)=w1 at *;refine zR ?_;refine a8T mFP rfl ?_;have cb:=ca.trans (Cl.alloc w1 (.map #[] 0));have nM:=(Cl.alloc w1 (.map #[] 0)).blk na;have nF:(w1.alloc (.map #[] 0)).heap[w1.heap.size]?=some (mpO .i8 .i8 [] 0):=g7 w1 (.map #[] 0);have sb:=A8 w1 (.map #[] 0);generalize w1.alloc (.map #[] 0)=w2 at *;refine zR ?_;obtain ⟨z,hz,hzs⟩:=c4G;refine t7 z hz ?_;have cc:=cb.trans (Cl.alloc w2 (.cells z.cells 273));have nM:=(Cl.alloc w2 (.cells z.cells 273)).blk nM;have nF:=(Cl.alloc w2 (.cells z.cells 273)).blk nF;have nA:=g7 w2 (.cells z.cells 273);have sc:=A8 w2 (.cells z.cells 273);generalize w2.alloc (.cells z.cells 273)=w3 at *;obtain ⟨M,hM⟩:∃ M,M=w.heap.size:=⟨_,rfl⟩;obtain ⟨F,hF⟩:∃ F,F=w1.heap.size:=⟨_,rfl⟩;obtain ⟨A,hA⟩:∃ A,A=w2.heap.size:=⟨_,rfl⟩;rw [← hM] at nM ⊢;rw [← hF] at nF ⊢;rw [← hA] at nA ⊢;have o1:M<F:=by omega
 have o2:F<A:=by omega
 refine zR ?_;refine m8 (b6u (l:=[]) List.nodup_nil (fun x hx=>by cases hx) List.nodup_nil w3 nM) ?_
 rintro e w4 ⟨rfl,nM4,n4⟩;refine ⟨_,rfl,?_⟩;have c4:=n4.toCl cc zo;have nF4:=n4.blk nF zo;have nA4:=n4.blk nA zo;refine zR ?_;refine m8 (b0g (l:=[]) List.nodup_nil (fun x hx=>by cases hx) List.nodup_nil w4 nF4) ?_
 rintro e w5 ⟨rfl,nF5,n5⟩;refine ⟨_,rfl,?_⟩;have c5:=n5.toCl c4 zo;have nM5:=n5.blk nM4 zo;have nA5:=n5.blk nA4 zo;clear c4 nF4 nA4 n4 nM4 cc nM nF nA n5;have hch:∀ {pre r:Tx} {c:UInt8},T=pre++c::r→(tx T).get! ((pre.length:Nat):Int).toNat=c:=fun {pre r c} e=>by
  have hi:pre.length<T.length:=by rw [e];simp
  rw [a8X hi];have:T[pre.length]?=some c:=by rw [e];simp
  rw [List.getElem?_eq_getElem hi] at this;injection this
 have hA0:a69 w5 A []:=⟨z.cells,nA5,hzs,fun k h=>absurd h (Nat.not_lt_zero _)⟩;clear nA5;have hlen:T.length≤1000:=by omega
 refine zR ?_;rw [hsz];refine A9 (σ:=Tx×List Tx×Tx×Tx) [2,3,7,8,9,23] 24 (fun s=>[(7,.int .i64 (s.2.1.length:Nat)),(8,.int .i64 (s.1.length:Nat)),(23,.int .i64 ((s.1.length+s.2.2.1.length:Nat):Int))])
  (fun s w'=>Cl w w'∧T=s.1++s.2.2.1++s.2.2.2∧s.2.1++a2u 47 s.2.2.1 s.2.2.2=a5R p 8∧a69 w' A s.2.1∧w'.heap[M]?=some (mpO .i8 .i8 [] 0)∧w'.heap[F]?=some (mpO .i8 .i8 [] 0)) (fun s=>s.2.2.2.length) zk
  ([],[],[],T) ⟨c5,rfl,by rw [yJ];exact hsp,hA0,nM5,nF5⟩ ⟨rfl,rfl,rfl,trivial⟩ ?_
 clear nM5 nF5 hA0 c5;rintro ⟨pre,rs,cur,rest⟩ j w6 ⟨c6,eT,hrs,⟨cs,hAc,hcs,hcr⟩,nM6,nF6⟩;simp only at c6 eT hrs hcs hcr nM6 nF6 ⊢;have eTl:=yG List.length eT;simp only [zF] at eTl;cases rest with
 | cons ch rest =>
  simp only [zh] at eTl;have ni:=C0 (i:=pre.length+cur.length) zo;have hg:=hch (pre:=pre++cur) (r:=rest) (c:=ch) eT;rw [zF] at hg;rw [a2u] at hrs;refine zR ?_;refine E.A0 zo (zR ?_);rw [hsz];refine zC ?_;refine zR ?_;rw [hg];apply E.d6<;>intro h
  ·have e47:ch=47:=by
    have h:(ch.toNat:Int)=47:=h;have h2:ch.toNat=(47:UInt8).toNat:=by show ch.toNat=47;omega
    exact UInt8.toNat_inj.1 h2
   clear h;rw [zM e47] at hrs;have hl8:=yG List.length hrs;rw [hrl,zF,zh] at hl8;have hpos:=b23 (c:=47) (s:=rest) (cur:=[]);have nr:=C0 (i:=rs.length) zo;have hoff:U7 0 ((rs.length:Nat):Int).toNat 1=rs.length:=by rw [y6,zg];omega
   refine zR ?_;refine E.p8 zo (zR ?_);refine a0U (l:=T) cur rfl rfl rfl rfl zo zo zo ?_ ?_
   ·rw [eT,zg,zg,yF,List.drop_left,show pre.length+cur.length-pre.length=cur.length by omega,List.take_left]
   refine zR ?_;refine zC ?_;refine zR ?_;refine J6 hAc [m9 cur] rfl zk rfl (by intro v hv;simp at hv;subst hv;rfl) (by rw [hcs,hoff];show rs.length+1≤8;omega) fun w7 u7=>?_
   rw [hoff] at u7;refine zR ?_;have e1:(pre++cur++[47]).length=pre.length+cur.length+1:=by rw [zF,zF];rfl
   refine ⟨(pre++cur++[47],rs++[cur],[],rest),⟨?_,?_,?_,trivial⟩,⟨u7.cl c6 zo,by rw [eT,e47];simp,by rw [← hrs];simp,a69.put hcs hcr zo u7,(Tn.upd u7).blk nM6 zo,(Tn.upd u7).blk nF6 zo⟩,by simp⟩
   ·exact d7 (by rw [nr,zF];rfl)
   ·exact d7 (by rw [ni,e1])
   ·exact d7 (by rw [ni,e1];rfl)
  ·have n47:¬ ch=47:=fun e=>h (by rw [e];rfl)
   clear h;rw [zJ n47] at hrs;refine zR ?_;refine ⟨(pre,rs,cur++[ch],rest),⟨rfl,rfl,?_,trivial⟩,⟨c6,by rw [eT];simp,hrs,⟨cs,hAc,hcs,hcr⟩,nM6,nF6⟩,by simp⟩
   exact d7 (by rw [ni,zF];rfl)
 | nil =>
  have hrs:rs++[cur]=a5R p 8:=hrs;have hl8:=yG List.length hrs;rw [hrl,zF,List.length_singleton] at hl8;have hr7:rs.length=7:=by omega
  have hcur:cur=a3G p 0:=by
   have h7:=a68 p 8 7 zo;rw [← hrs,List.getElem?_append_right zo,hr7] at h7;simpa using h7
  have hne:cur≠[]:=fun e=>by
   have:=b1f hI.pc 0;rw [← hcur,e] at this;cases this
  have hcl:=List.length_pos_iff.2 hne;simp only [za] at eTl;have hoff:U7 0 ((rs.length:Nat):Int).toNat 1=rs.length:=by rw [y6,zg];omega
  refine zR ?_;refine E.p8 zo (zR ?_);rw [hsz];refine E.A0 zo (zR ?_);refine E.p8 zo (zR ?_);refine a8I (l:=T) cur rfl rfl rfl zo zo (by rw [eT,zg,zm,List.drop_left]) (zR ?_)
  refine zC ?_;refine zR ?_;refine J6 hAc [m9 cur] rfl zk rfl (by intro v hv;simp at hv;subst hv;rfl) (by rw [hcs,hoff];show rs.length+1≤8;omega) fun w7 u7=>?_
  rw [hoff] at u7;have c7:=u7.cl c6 zo;have hR:=a69.put hcs hcr zo u7;rw [hrs] at hR;obtain ⟨cs8,hA8,hs8,hr8⟩:=hR;have nM7:=(Tn.upd u7).blk nM6 zo;have nF7:=(Tn.upd u7).blk nF6 zo;have nr:=C0 (i:=rs.length) zo;clear u7 hcr hAc nM6 nF6 c6;refine zR ?_;rw [nr];refine E.y8 (fun h=>absurd (show ((rs.length+1:Nat):Int)=8 by omega) h) (fun _=>?_)
  clear nr hrs hcur hne hcl hr7 hl8 eT eTl hsp hch hsz hlen hoff;refine zR ?_;refine A9 (σ:=Nat) [2,3,10,11,12,13,14,61] 62 (fun i=>[(61,.int .i64 i)]) (fun i w'=>i≤8∧Cl w w'∧w'.heap[A]?=some (.cells cs8 273 (0,0))
  ∧(∃ l c,w'.heap[F]?=some (mpO .i8 .i8 l c)∧(l.map (·.n)).Nodup∧(∀ x∈l,x.n<c)∧(l.map (·.k)).Nodup)∧∃ l c,w'.heap[M]?=some (mpO .i8 .i8 l c)∧∀ k,getV l k=fmF p i k) (fun i=>8-i) zk
   0 ⟨zo,c7,hA8,⟨[],0,nF7,List.nodup_nil,fun x hx=>(by cases hx),List.nodup_nil⟩,[],0,nM7,fun k=>?_⟩ ⟨rfl,trivial⟩ ?_
  ·rw [a5O];unfold fmF;rw [zJ zo]
  clear nM7 nF7 hA8 c7;rintro i j2 w8 ⟨hi,c8,hA8,⟨lF,cF,hF8,f1,f2,f3⟩,lM,cM,hM8,hgM⟩;have ni:=C0 (i:=i) zo;refine zR ?_;apply E.d6<;>intro h
  ·have hi2:i<8:=by omega
   clear h;have e7:IntKind.i8.wrap (IntKind.i64.wrap (7-(i:Int)))=((7-i:Nat):Int):=by rw [g9 zo zo,Y8 zo zo];omega
   have hoff:U7 0 ((i:Nat):Int).toNat 1=i:=by rw [y6,zg];omega
   have hrow:cs8[i]?=some (m9 (a3G p (7-i))):=by
    have h1:=hr8 i (by rw [hrl];exact hi2)
    rw [h1];have h2:=a68 p 8 i hi2;rw [List.getElem?_eq_getElem (by rw [hrl];exact hi2)] at h2
    injection h2 with h2;rw [h2]
   refine zR ?_;rw [e7];refine m8 (b0g f1 f2 f3 w8 hF8) ?_;rintro e w9 ⟨rfl,hF9,n9⟩;refine ⟨_,rfl,?_⟩;have c9:=n9.toCl c8 zo;have hA9:=n9.blk hA8 zo;have hM9:=n9.blk hM8 zo;refine zR ?_;refine zC ?_;refine zR ?_;refine d9 _ (D8 (v:=m9 (a3G p (7-i))) hA9 (by rw [hoff];exact hrow) rfl) (zR ?_)
   refine m8 (b3W (g:=fun f=>sq p (8*((7-i:Nat):Int)+f)) (b1f hI.pc (7-i)) (fun c hc=>b89 _ 8 0 0 zo c hc) ?_ w9 (hT.cl c9) hF9) ?_
   ·have:=b1M (fun f=>sq p (8*((7-i:Nat):Int)+f)) 8 0 0 zo;show (a0F _ 8 0 0).length≤100;omega
   rintro e w10 ⟨rfl,hF10,n10⟩;refine ⟨_,rfl,?_⟩;have c10:=n10.toCl c9 zo;have hA10:=n10.blk hA9 zo;have hM10:=n10.blk hM9 zo;refine zR ?_;refine I8 true (E7 rfl) (zR ?_);refine a2D mFP rfl hF10 (b3S _ _ 8) (b3T _ _ 8) fun w11 c11 s11 hI11=>?_;have hA11:=c11.blk hA10;have hM11:=c11.blk hM10;have c011:=c10.trans c11;have hMr:M≠w10.heap.size:=by have:=C5 hM10;omega
   have hFr:F≠w10.heap.size:=by have:=C5 hF10;omega
   have hAr:A≠w10.heap.size:=by have:=C5 hA10;omega
   have h0r:w.heap.size≤w10.heap.size:=c10.size;have hkeys:=a8U (fun f=>sq p (8*((7-i:Nat):Int)+f)) cF 8;have hmem:=a4k (fun f=>sq p (8*((7-i:Nat):Int)+f)) cF 8;have hgM2:∀ k,getV lM k=fmR p i (enG (fun f=>sq p (8*((7-i:Nat):Int)+f)) cF 8) k:=fun k=>by rw [hgM k];exact b6y p i hi2 cF k
   have hfin:=b3S (fun f=>sq p (8*((7-i:Nat):Int)+f)) cF 8;have hfin2:=b3T (fun f=>sq p (8*((7-i:Nat):Int)+f)) cF 8;generalize enG (fun f=>sq p (8*((7-i:Nat):Int)+f)) cF 8=LF at *;generalize cF+LF.length=CF at *;generalize w10.heap.size=R at *;clear hgM hF10 hF9 hF8 hA10 hA9 hA8 hM10 hM9 hM8 n10 n9 c10 c9 c8;refine zR ?_;refine A9 (σ:=List En) [13,14] 79 (fun _=>[]) (fun rem w'=>Cl w w'∧w'.heap[A]?=some (.cells cs8 273 (0,0))∧Itr .i8 .i8 w' F R LF CF rem∧(rem.map (·.k)).Nodup∧(∀ x∈rem,x∈LF)∧∃ l c,w'.heap[M]?=some (mpO .i8 .i8 l c)∧∀ k,getV l k=fmR p i rem k) (fun rem=>rem.length) zk
    LF ⟨c011,hA11,hI11,hkeys,fun x hx=>hx,lM,cM,hM11,hgM2⟩ trivial ?_
   clear c011 hA11 hI11 hM11 hgM2 c11;rintro rem j3 w12 ⟨c12,hA12,hI12,hk12,hs12,l12,cc12,hM12,hg12⟩;refine zR ?_;refine a3F rfl hI12 (fun e=>?_) (fun r1 x r2 w13 e n13 hI13 hE=>?_)
   ·subst e;refine zR ?_;exact ⟨i+1,⟨d7 ni,trivial⟩,⟨zo,c12,hA12,⟨LF,CF,hI12.hb,hfin,hfin2,hkeys⟩,l12,cc12,hM12,fun k=>by rw [hg12 k];exact c1k p i hi2 k⟩,zo⟩
   ·subst e;obtain ⟨f,hf,ek,ev,h0⟩:=hmem x (hs12 x (by simp))
    have c13:=n13.toCl c12 h0r;have hA13:=n13.blk hA12 hAr;have hM13:=n13.blk hM12 hMr;have hns:=fun w=>b0U f (7-i) hf zo w;rw [← ek] at hns;have hst:=b8C hi2 hk12 hf ek ev (by rw [ev];exact h0)
    refine zR ?_;refine a2E rfl hE (zR ?_);refine g8 (hns _) (zR ?_);refine a5P mSP rfl rfl rfl hM13 fun w14 u14=>zR ?_;refine ⟨r1++r2,trivial,⟨u14.cl c13 zo,(Tn.upd u14).blk hA13 zo,hI13.kp (fun o h=>(Tn.upd u14).blk h zo) (fun o h=>(Tn.upd u14).blk h (Ne.symm hMr)),a2l _ hk12,fun y hy=>hs12 y ?_,_,_,u14.at_,fun k=>?_⟩,by simp⟩
    ·rcases zq.1 hy with hy | hy
     ·exact yO _ hy
     ·exact List.mem_append_right _ (yX _ hy)
    ·rw [a8R,hg12 k];exact hst k
  ·have e:i=8:=by omega
   subst e;refine zR ?_;refine m8 (b3X hI (l:=lM) (c:=cM) (fun s hs=>?_) w8 (hT.cl c8) hM8) ?_
   ·rw [hgM];unfold fmF;rw [zM zo]
   rintro e w9 ⟨c9,b,rfl,sb,hB⟩;refine ⟨_,rfl,?_⟩;refine zR ?_;exact ⟨c8.trans c9,b,rfl,by have:=c8.size;omega,hB⟩
end
section
open Go Go.RowKit
open E
section gens
variable {w:World} {dst:Option Nat} {ty:Nat} {pos:String} {af:Array Edge} {gd:Option (Nat×Bool)} {env:C8} {K:Value→World→Prop}
theorem b3Z {x:Operand} {s:ByteArray} (hx:ev env x = .string s) (h:K (.pointer (some ⟨w.heap.size,0,none⟩)) (w.alloc (.stringIter s 0))):L5 G.P { dst,op:=.range 9 x,type:=ty,pos,after:=af,guard:=gd } env w K:=by
 refine ⟨.inl ⟨_,_,?_,h⟩⟩;show (do pure (Next.value (← Instr.range 9 (ev env x))):Sem Next).run G.P w=_
 rw [hx,Sem.run_bind,run_range_string (P:=G.P) w _ s b09];rfl
theorem b6z {it:Operand} {r i:Nat} {s:Tx} (hit:ev env it = .pointer (some ⟨r,0,none⟩)) (hr:w.heap[r]?=some (.stringIter (tx s) i)) (ha:∀ c∈s,c.toNat<128)
  (h0:s.length≤i→K (.tuple #[.bool false]) w)
  (h1:∀ (hi:i<s.length) w',Upd w r (.stringIter (tx s) (i+1)) w'→K (.tuple #[.bool true,.int .i64 i,.int .i32 (s[i].toNat:Nat)]) w') :
  L5 G.P { dst,op:=.next it true,type:=ty,pos,after:=af,guard:=gd } env w K:=by
 by_cases hi:i<s.length
 ·have hi2:i<(tx s).size:=by rw [C3];exact hi
  have hg:(tx s)[i]'hi2=s[i]:=rfl;have hd:=decode_ascii (tx s) i hi2 (by rw [hg];exact ha _ (yM hi))
  rw [hg] at hd;refine ⟨.inl ⟨_,{ w with heap:=w.heap.setIfInBounds r (.stringIter (tx s) (i+1)) },?_,h1 hi _ (a7L hr _)⟩⟩;show (do pure (Next.value (← Instr.next (ev env it) true ty)):Sem Next).run G.P w=_
  rw [hit];simp [Instr.next,getObj,setObj,Sem.run,hr,hi2,hd,goInt];rfl
 ·have hi2:¬ i<(tx s).size:=by rw [C3];exact hi
  refine ⟨.inl ⟨_,w,?_,h0 zo⟩⟩;show (do pure (Next.value (← Instr.next (ev env it) true ty)):Sem Next).run G.P w=_
  rw [hit];simp [Instr.next,getObj,Sem.run,hr,hi2]
theorem b8D {x:Operand} {sx:Nat} (c:UInt8) (hu:G.P.underlying sx=some (.int .i32)) (hc:c.toNat<128) (hx:ev env x = .int .i32 (c.toNat:Nat)) (h:K (m9 [c]) w):L5 G.P { dst,op:=.convert sx 9 x,type:=ty,pos,after:=af,guard:=gd } env w K:=by
 refine ⟨.inl ⟨_,w,?_,h⟩⟩;show (do pure (Next.value (← convert sx 9 (ev env x))):Sem Next).run G.P w=_
 have e:Utf8.encode (c.toNat:Int)=tx [c]:=by
  have hv:Utf8.valid (c.toNat:Int)=true:=by unfold Utf8.valid;simp;omega
  unfold Utf8.encode;simp only [hv,if_true,zg,zM hc];simp [tx]
 rw [hx];unfold convert;simp [run_underlying hu,run_underlying b09,Conv.intToString,e,m9]
end gens
end
section
open Go Go.RowKit
open E
open Ch Bb
theorem b1g:∀ n:Nat,n<16→(castT (n:Int)).all (fun c=>c==75||c==81||c==107||c==113||c==45)=true∧(castT (n:Int)).length≤4∧(castT (n:Int)).count 75≤1∧(castT (n:Int)).count 81≤1∧(castT (n:Int)).count 107≤1∧(castT (n:Int)).count 113≤1∧(castT (n:Int)).count 45≤1:=by decide
def rightsL:List Tx:=[[75],[81],[107],[113],[45]]
theorem c4H:G.P.underlying 21=some (.int .i32):=by kernel_rfl
theorem b1h (cr:Int) (h0:0≤cr) (h1:cr≤15) (w:World) :
  Calls G.P 193 #[m9 (castT cr)] w (L4 (.tuple #[m9 (castT cr),.nilIface]) w):=by
 have hl:=b1g cr.toNat zo;rw [zi h0] at hl;generalize castT cr=s at *;obtain ⟨ha,hlen,k1,k2,k3,k4,k5⟩:=hl;have hL:∀ i (hi:i<rightsL.length),∃ c,rightsL[i]=[c]∧s.count c≤1:=by
  intro i hi;rcases (by have:rightsL.length=5:=rfl;omega:i=0∨i=1∨i=2∨i=3∨i=4) with rfl | rfl | rfl | rfl | rfl
  ·exact ⟨75,rfl,k1⟩
  ·exact ⟨81,rfl,k2⟩
  ·exact ⟨107,rfl,k3⟩
  ·exact ⟨113,rfl,k4⟩
  ·exact ⟨45,rfl,k5⟩
 have hc:∀ i (hi:i<s.length),s[i]=75∨s[i]=81∨s[i]=107∨s[i]=113∨s[i]=45:=fun i hi=>by
  have:=zl.1 ha _ (yM hi);simpa [or_assoc] using this
 have hasc:∀ c∈s,c.toNat<128:=fun c hc'=>by
  have:=zl.1 ha _ hc';simp only [zj,beq_iff_eq] at this;rcases this with (((e | e) | e) | e) | e<;>(rw [e];decide)
 refine zN Tryz.func193 ?_;refine zR ?_;refine B6 elStr [m9 [75],m9 [81],m9 [107],m9 [113],m9 [45]] (by rw [zb];rfl) (by simp [Value.cells,m9]) rfl zd zd ?_
 have ca:=Cl.alloc w (.cells (([m9 [75],m9 [81],m9 [107],m9 [113],m9 [45]]:List Value).flatMap fun v=>v.cells.toList).toArray 9);have hr:Row 9 1 H2 w.heap.size (w.alloc (.cells (([m9 [75],m9 [81],m9 [107],m9 [113],m9 [45]]:List Value).flatMap fun v=>v.cells.toList).toArray 9)) (.slice (some ⟨w.heap.size,0,none⟩) 5 5) rightsL:=C1 p9 w rightsL zd _ rfl;generalize w.alloc (.cells (([m9 [75],m9 [81],m9 [107],m9 [113],m9 [45]]:List Value).flatMap fun v=>v.cells.toList).toArray 9)=w1 at *;have hl5:rightsL.length=5:=rfl;generalize rightsL=RL at *;refine zR ?_;refine A9 (σ:=Nat) [2,3,5,11] 12 (fun i=>[(11,.int .i64 i)]) (fun i w'=>i≤5∧w'=w1) (fun i=>5-i) zk 0 ⟨zo,rfl⟩ ⟨rfl,trivial⟩ ?_;rintro i j w2 ⟨hi,rfl⟩;have ni:=C0 (i:=i) zo;refine zR ?_;apply E.d6<;>intro h
 ·have hi2:i<RL.length:=by omega
  clear h;obtain ⟨c,ec,hcc⟩:=hL i hi2;have hz:=b6t c s zo;have hld:=fun {o:Nat} (ho:o=i*1+0)=>N9 (t:=9) (v:=m9 [c]) hr p9 i 0 hi2 zd (by rw [ec];rfl) ho rfl
  refine zR ?_;refine zC ?_;refine zR ?_;refine d9 _ (hld (a0W _ _)) (zR ?_);refine g8 (hz _) (zR ?_);refine E.p8 zo (zR ?_);exact ⟨i+1,⟨d7 ni,trivial⟩,⟨zo,rfl⟩,zo⟩
 ·clear h;refine zR ?_;refine b3Z rfl ?_;have cb:=ca.trans (Cl.alloc w2 (.stringIter (tx s) 0));have nb:=g7 w2 (.stringIter (tx s) 0);have hws:w.heap.size≤w2.heap.size:=ca.size;generalize w2.alloc (.stringIter (tx s) 0)=w3 at *;refine zR ?_;refine A9 (σ:=Nat) [2,3,7,8] 23 (fun i=>[]) (fun i w'=>i≤s.length∧Cl w w'∧w'.heap[w2.heap.size]?=some (.stringIter (tx s) i)) (fun i=>s.length-i) zk 0 ⟨Nat.zero_le _,cb,nb⟩ trivial ?_;rintro i j w4 ⟨hi,c4,hit⟩;refine zR ?_;refine b6z rfl hit hasc (fun h=>?_) (fun hi2 w5 u5=>?_)
  ·refine zR ?_;exact ⟨rfl,c4⟩
  ·have c5:=u5.cl c4 hws;have hx:=hc i hi2;have hx8:=hasc _ (yM hi2);have fin:∀ w',w'=w5→i+1≤s.length∧Cl w w'∧w'.heap[w2.heap.size]?=some (.stringIter (tx s) (i+1)):=fun w' e=>by rw [e];exact ⟨hi2,c5,u5.at_⟩
   generalize s[i]=c at *;refine zR ?_;refine b8D c c4H hx8 rfl (zR ?_);apply E.d6<;>intro h
   ·refine zR ?_;(repeat (refine E.A0 h ?_;refine zR ?_))
    exact ⟨i+1,trivial,fin _ rfl,zo⟩
   have q1:=h;clear h;refine zR ?_;apply E.d6<;>intro h
   ·refine zR ?_;(repeat (refine E.A0 h ?_;refine zR ?_))
    exact ⟨i+1,trivial,fin _ rfl,zo⟩
   have q2:=h;clear h;refine zR ?_;apply E.d6<;>intro h
   ·refine zR ?_;(repeat (refine E.A0 h ?_;refine zR ?_))
    exact ⟨i+1,trivial,fin _ rfl,zo⟩
   have q3:=h;clear h;refine zR ?_;apply E.d6<;>intro h
   ·refine zR ?_;(repeat (refine E.A0 h ?_;refine zR ?_))
    exact ⟨i+1,trivial,fin _ rfl,zo⟩
   have q4:=h;clear h;refine zR ?_;apply E.d6<;>intro h
   ·refine zR ?_;(repeat (refine E.A0 h ?_;refine zR ?_))
    exact ⟨i+1,trivial,fin _ rfl,zo⟩
   have q5:=h;clear h;exfalso;rcases hx with rfl | rfl | rfl | rfl | rfl
   ·exact q1 rfl
   ·exact q2 rfl
   ·exact q3 rfl
   ·exact q4 rfl
   ·exact q5 rfl
theorem c4I {p:l9} (h:O2 p=true):p.ep=-1∨(0≤p.ep∧p.ep≤63∧p.ep/8=5-3*p.turn):=by
 unfold O2 at h;split at h
 ·exact .inl (yA h)
 ·rename_i h1;simp only at h;split at h
  ·cases h
  ·rename_i h2;refine .inr ⟨zo,zo,?_⟩;have:l8 p.ep=5-3*p.turn:=yf fun e=>h2 (.inl e);exact this
theorem b8E (e:Int) (he:e=-1∨(0≤e∧e≤63∧(e/8=2∨e/8=5))) (w:World) :
  Calls G.P 194 #[m9 (epT e)] w (L4 (.tuple #[.int .i8 e,.nilIface]) w):=by
 rcases he with rfl | ⟨h0,h1,h2⟩
 ·rw [show epT (-1)=[45] from rfl];refine zN Tryz.func194 ?_;refine zR ?_;first | (refine E.A0 rfl ?_;refine zR ?_) | skip
  exact ⟨rfl,Cl.refl _⟩
 ·have e1:epT e=r9 e++a0K e:=by unfold epT;rw [zM ⟨h0,zo⟩]
  have hs:=fun w=>a9v e.toNat zo w;rw [zi h0,← e1] at hs;have hne:¬ tx (epT e)=tx [45]:=fun h=>by
   have:=yG List.length (N5.1 h);rw [e1] at this;simp [r9,a0K] at this
  have hr:=fun w=>a0V e h0 h1 w;generalize epT e=T at *;refine zN Tryz.func194 ?_;refine zR ?_;refine E.p8 hne (zR ?_);refine o8 (hs _) fun w1 c1=>zR ?_;refine E.p8 zo (zR ?_);repeat (refine E.p8 (show ¬ e=-1 by omega) ?_;refine zR ?_)
  refine g8 (hr _) ?_;rcases h2 with h2 | h2
  ·rw [h2];refine zR ?_;repeat (refine E.p8 (show ¬ e=-1 by omega) ?_;refine zR ?_)
   exact ⟨rfl,c1⟩
  ·rw [h2];refine zR ?_;repeat (refine E.p8 (show ¬ e=-1 by omega) ?_;refine zR ?_)
   refine g8 (hr _) ?_;rw [h2];refine zR ?_;repeat (refine E.p8 (show ¬ e=-1 by omega) ?_;refine zR ?_)
   exact ⟨rfl,c1⟩
end
section
open Go.Shelf
def Tryz.lays163_ren:Go.Shelf.Ren:=⟨fun | 163=>189 | 237=>231 | 199=>232 | 238=>233 | 272=>272 | 261=>273 | 273=>274 | 197=>275 | 315=>297 | 311=>298 | 312=>299 | 271=>300 | 260=>301 | 120=>311 | n=>n,fun | 9=>9 | 37=>157 | 3=>3 | 0=>0 | 5=>5 | 4=>4 | 40=>268 | 119=>269 | 21=>21 | 51=>262 | 141=>312 | 105=>314 | 196=>341 | 193=>338 | 198=>343 | 49=>135 | 194=>339 | 201=>346 | 226=>361 | 46=>52 | 227=>362 | 139=>366 | 138=>365 | n=>n,fun | 0=>1 | 6=>7 | 3=>18 | 4=>19 | n=>n⟩
theorem Tryz.lays163:Go.Proofs.Lays.n163 Tryz.prog Tryz.lays163_ren:={
 mixed:=by kernel_rfl
 f120:=Tryz.func311.trans (yG some zk)
 f163:=Tryz.func189.trans (yG some zk)
 f197:=Tryz.func275.trans (yG some zk)
 f199:=Tryz.func232.trans (yG some zk)
 f237:=Tryz.func231.trans (yG some zk)
 f238:=Tryz.func233.trans (yG some zk)
 f260:=Tryz.func301.trans (yG some zk)
 f261:=Tryz.func273.trans (yG some zk)
 f271:=Tryz.func300.trans (yG some zk)
 f272:=Tryz.func272.trans (yG some zk)
 f273:=Tryz.func274.trans (yG some zk)
 f311:=Tryz.func298.trans (yG some zk)
 f312:=Tryz.func299.trans (yG some zk)
 f315:=Tryz.func297.trans (yG some zk)
 t0:=Tryz.underlying0
 a0:=Tryz.isAgg0
 z0:=Tryz.sizeOf0
 v0:=Tryz.zeroValue0
 t3:=Tryz.underlying3
 a3:=Tryz.isAgg3
 z3:=Tryz.sizeOf3
 v3:=Tryz.zeroValue3
 t4:=Tryz.underlying4
 a4:=Tryz.isAgg4
 z4:=Tryz.sizeOf4
 v4:=Tryz.zeroValue4
 t5:=Tryz.underlying5
 a5:=Tryz.isAgg5
 z5:=Tryz.sizeOf5
 v5:=Tryz.zeroValue5
 t9:=Tryz.underlying9
 a9:=Tryz.isAgg9
 z9:=Tryz.sizeOf9
 v9:=Tryz.zeroValue9
 t21:=Tryz.underlying21
 a21:=Tryz.isAgg21
 z21:=Tryz.sizeOf21
 v21:=Tryz.zeroValue21
 t37:=Tryz.underlying157
 a37:=Tryz.isAgg157
 z37:=Tryz.sizeOf157
 v37:=Tryz.zeroValue157
 t40:=Tryz.underlying268
 a40:=Tryz.isAgg268
 z40:=Tryz.sizeOf268
 v40:=Tryz.zeroValue268
 t46:=Tryz.underlying52
 a46:=Tryz.isAgg52
 z46:=Tryz.sizeOf52
 v46:=Tryz.zeroValue52
 t49:=Tryz.underlying135
 a49:=Tryz.isAgg135
 z49:=Tryz.sizeOf135
 v49:=Tryz.zeroValue135
 t51:=Tryz.underlying262
 a51:=Tryz.isAgg262
 z51:=Tryz.sizeOf262
 v51:=Tryz.zeroValue262
 t105:=Tryz.underlying314
 a105:=Tryz.isAgg314
 z105:=Tryz.sizeOf314
 v105:=Tryz.zeroValue314
 t119:=Tryz.underlying269
 a119:=Tryz.isAgg269
 z119:=Tryz.sizeOf269
 t138:=Tryz.underlying365
 a138:=Tryz.isAgg365
 z138:=Tryz.sizeOf365
 v138:=Tryz.zeroValue365
 t139:=Tryz.underlying366
 a139:=Tryz.isAgg366
 z139:=Tryz.sizeOf366
 v139:=Tryz.zeroValue366
 t141:=Tryz.underlying312
 a141:=Tryz.isAgg312
 z141:=Tryz.sizeOf312
 v141:=Tryz.zeroValue312
 t193:=Tryz.underlying338
 a193:=Tryz.isAgg338
 z193:=Tryz.sizeOf338
 v193:=Tryz.zeroValue338
 t194:=Tryz.underlying339
 a194:=Tryz.isAgg339
 z194:=Tryz.sizeOf339
 v194:=Tryz.zeroValue339
 t196:=Tryz.underlying341
 a196:=Tryz.isAgg341
 z196:=Tryz.sizeOf341
 v196:=Tryz.zeroValue341
 t198:=Tryz.underlying343
 a198:=Tryz.isAgg343
 z198:=Tryz.sizeOf343
 v198:=Tryz.zeroValue343
 t201:=Tryz.underlying346
 a201:=Tryz.isAgg346
 z201:=Tryz.sizeOf346
 v201:=Tryz.zeroValue346
 t226:=Tryz.underlying361
 a226:=Tryz.isAgg361
 z226:=Tryz.sizeOf361
 v226:=Tryz.zeroValue361
 t227:=Tryz.underlying362
 a227:=Tryz.isAgg362
 z227:=Tryz.sizeOf362
 v227:=Tryz.zeroValue362
 g0:=by kernel_rfl
 g3:=by kernel_rfl
 g4:=by kernel_rfl
 g6:=by kernel_rfl }
theorem Tryz.Space_Extra_163:Space.Extra Tryz.prog Tryz.lays163_ren:={
 gNamed:=by kernel_rfl }
open Go.RowKit in
theorem Tryz.strings_TrimSpace (s:ByteArray) (w:World) (hs:s.size≤9223372036854775807) (hascii:∀ (j:Nat) b,s.data.toList[j]?=some b→b.toNat<128) (htab:Lib.TabIs Tryz.prog w "strings.asciiSpace" .u8 Lib.asciiSpaceTab) :
  Calls Tryz.prog 189 #[.string s] w fun e w'=>e = .returned (.string ⟨(Lib.trimSpace s.data.toList).toArray⟩)∧w'=Lib.bytesWorld w 5 s:=Any.strings_TrimSpace Tryz.lays163 Tryz.Space_Extra_163 s w hs hascii htab
def Tryz.lays172_ren:Go.Shelf.Ren:=⟨fun | 172=>195 | 244=>241 | 245=>242 | 247=>278 | 279=>279 | 280=>280 | 281=>281 | 282=>282 | 287=>302 | 316=>303 | 171=>169 | 205=>135 | 321=>312 | 322=>313 | 243=>213 | 246=>261 | 283=>288 | 284=>289 | 285=>290 | 286=>291 | 129=>228 | 317=>305 | 318=>306 | 319=>307 | 320=>308 | 337=>315 | 338=>316 | n=>n,fun | 9=>9 | 3=>3 | 75=>80 | 76=>166 | 4=>4 | 5=>5 | 167=>319 | 37=>157 | 0=>0 | 85=>320 | 2=>2 | 168=>322 | 53=>234 | 175=>348 | 46=>52 | 210=>351 | 127=>221 | 145=>233 | 143=>231 | 21=>21 | 171=>329 | 173=>331 | 212=>354 | 51=>262 | 20=>20 | 213=>355 | 232=>373 | 233=>374 | 80=>109 | n=>n,fun | 15=>14 | 16=>15 | 17=>16 | 18=>20 | 19=>21 | n=>n⟩
theorem Tryz.lays172:Go.Proofs.Lays.n172 Tryz.prog Tryz.lays172_ren:={
 mixed:=by kernel_rfl
 f129:=Tryz.func228.trans (yG some zk)
 f171:=Tryz.func169.trans (yG some zk)
 f172:=Tryz.func195.trans (yG some zk)
 f205:=Tryz.func135.trans (yG some zk)
 f243:=Tryz.func213.trans (yG some zk)
 f244:=Tryz.func241.trans (yG some zk)
 f245:=Tryz.func242.trans (yG some zk)
 f246:=Tryz.func261.trans (yG some zk)
 f247:=Tryz.func278.trans (yG some zk)
 f279:=Tryz.func279.trans (yG some zk)
 f280:=Tryz.func280.trans (yG some zk)
 f281:=Tryz.func281.trans (yG some zk)
 f282:=Tryz.func282.trans (yG some zk)
 f283:=Tryz.func288.trans (yG some zk)
 f284:=Tryz.func289.trans (yG some zk)
 f285:=Tryz.func290.trans (yG some zk)
 f286:=Tryz.func291.trans (yG some zk)
 f287:=Tryz.func302.trans (yG some zk)
 f316:=Tryz.func303.trans (yG some zk)
 f317:=Tryz.func305.trans (yG some zk)
 f318:=Tryz.func306.trans (yG some zk)
 f319:=Tryz.func307.trans (yG some zk)
 f320:=Tryz.func308.trans (yG some zk)
 f321:=Tryz.func312.trans (yG some zk)
 f322:=Tryz.func313.trans (yG some zk)
 f337:=Tryz.func315.trans (yG some zk)
 f338:=Tryz.func316.trans (yG some zk)
 t0:=Tryz.underlying0
 a0:=Tryz.isAgg0
 z0:=Tryz.sizeOf0
 v0:=Tryz.zeroValue0
 t2:=Tryz.underlying2
 a2:=Tryz.isAgg2
 z2:=Tryz.sizeOf2
 v2:=Tryz.zeroValue2
 t3:=Tryz.underlying3
 a3:=Tryz.isAgg3
 z3:=Tryz.sizeOf3
 v3:=Tryz.zeroValue3
 t4:=Tryz.underlying4
 a4:=Tryz.isAgg4
 z4:=Tryz.sizeOf4
 v4:=Tryz.zeroValue4
 t5:=Tryz.underlying5
 a5:=Tryz.isAgg5
 z5:=Tryz.sizeOf5
 v5:=Tryz.zeroValue5
 t9:=Tryz.underlying9
 a9:=Tryz.isAgg9
 z9:=Tryz.sizeOf9
 v9:=Tryz.zeroValue9
 t20:=Tryz.underlying20
 a20:=Tryz.isAgg20
 z20:=Tryz.sizeOf20
 v20:=Tryz.zeroValue20
 t21:=Tryz.underlying21
 a21:=Tryz.isAgg21
 z21:=Tryz.sizeOf21
 v21:=Tryz.zeroValue21
 t37:=Tryz.underlying157
 a37:=Tryz.isAgg157
 z37:=Tryz.sizeOf157
 v37:=Tryz.zeroValue157
 t46:=Tryz.underlying52
 a46:=Tryz.isAgg52
 z46:=Tryz.sizeOf52
 v46:=Tryz.zeroValue52
 t51:=Tryz.underlying262
 a51:=Tryz.isAgg262
 z51:=Tryz.sizeOf262
 v51:=Tryz.zeroValue262
 t53:=Tryz.underlying234
 a53:=Tryz.isAgg234
 z53:=Tryz.sizeOf234
 v53:=Tryz.zeroValue234
 t75:=Tryz.underlying80
 a75:=Tryz.isAgg80
 z75:=Tryz.sizeOf80
 v75:=Tryz.zeroValue80
 t76:=Tryz.underlying166
 a76:=Tryz.isAgg166
 z76:=Tryz.sizeOf166
 v76:=Tryz.zeroValue166
 t85:=Tryz.underlying320
 a85:=Tryz.isAgg320
 z85:=Tryz.sizeOf320
 v85:=Tryz.zeroValue320
 t127:=Tryz.underlying221
 a127:=Tryz.isAgg221
 z127:=Tryz.sizeOf221
 v127:=Tryz.zeroValue221
 t143:=Tryz.underlying231
 a143:=Tryz.isAgg231
 z143:=Tryz.sizeOf231
 v143:=Tryz.zeroValue231
 t145:=Tryz.underlying233
 a145:=Tryz.isAgg233
 z145:=Tryz.sizeOf233
 v145:=Tryz.zeroValue233
 t167:=Tryz.underlying319
 a167:=Tryz.isAgg319
 z167:=Tryz.sizeOf319
 v167:=Tryz.zeroValue319
 t168:=Tryz.underlying322
 a168:=Tryz.isAgg322
 z168:=Tryz.sizeOf322
 v168:=Tryz.zeroValue322
 t171:=Tryz.underlying329
 a171:=Tryz.isAgg329
 z171:=Tryz.sizeOf329
 v171:=Tryz.zeroValue329
 t173:=Tryz.underlying331
 a173:=Tryz.isAgg331
 z173:=Tryz.sizeOf331
 v173:=Tryz.zeroValue331
 t175:=Tryz.underlying348
 a175:=Tryz.isAgg348
 z175:=Tryz.sizeOf348
 v175:=Tryz.zeroValue348
 t210:=Tryz.underlying351
 a210:=Tryz.isAgg351
 z210:=Tryz.sizeOf351
 v210:=Tryz.zeroValue351
 t212:=Tryz.underlying354
 a212:=Tryz.isAgg354
 z212:=Tryz.sizeOf354
 v212:=Tryz.zeroValue354
 t213:=Tryz.underlying355
 a213:=Tryz.isAgg355
 z213:=Tryz.sizeOf355
 t232:=Tryz.underlying373
 a232:=Tryz.isAgg373
 z232:=Tryz.sizeOf373
 v232:=Tryz.zeroValue373
 t233:=Tryz.underlying374
 a233:=Tryz.isAgg374
 z233:=Tryz.sizeOf374
 v233:=Tryz.zeroValue374
 g15:=by kernel_rfl
 g16:=by kernel_rfl
 g17:=by kernel_rfl
 g18:=by kernel_rfl
 g19:=by kernel_rfl }
open Go.RowKit in
theorem Tryz.strconv_Atoi (s:ByteArray) (n:Int) (hl:s.size≤18) (h:Lib.atoi s.data.toList=some n) (w:World) :
  Calls Tryz.prog 195 #[.string s] w fun e w'=>e = .returned (.tuple #[.int .i64 n,.nilIface])∧∃ t,w'=Lib.bytesWorld w 5 t:=Any.strconv_Atoi Tryz.lays172 s n hl h w
end
section
open Go Go.RowKit
open E
open Ch Bb
theorem Cl.bytes (w:World) (e:Nat) (s:ByteArray):Cl w (Lib.bytesWorld w e s):=⟨rfl,rfl,rfl,by rw [Lib.bytesWorld_size];omega,fun k hk=>Lib.bytesWorld_at_old w e s k hk⟩
def Spc (w:World):Prop:=Lib.TabIs G.P w "strings.asciiSpace" .u8 Lib.asciiSpaceTab
theorem Spc.cl {w w':World} (h:Spc w) (c:Cl w w'):Spc w':=by
 unfold Spc Lib.TabIs World.var? at *;cases hg:G.P.globalNamed "strings.asciiSpace" with
 | none=>rw [hg] at h;cases h
 | some g =>
  rw [hg] at h;simp only [Option.bind_some] at h ⊢;cases hb:w.heap[g]? with
  | none=>rw [hb] at h;cases h
  | some o =>
   rw [c.blk hb];rw [hb] at h;exact h
theorem a7c:∀ (a:Tx) (acc:Nat) (b:Tx),Lib.decFrom acc (a++b)=(Lib.decFrom acc a).bind fun x=>Lib.decFrom x b
 | [],_,_=>rfl
 | x::r,acc,b=>by
  rw [yS,Lib.decFrom,Lib.decFrom];cases Lib.digitVal x with
  | none=>rfl
  | some d=>exact a7c r _ b
theorem a7d:∀ k,k<10→Lib.digitVal (UInt8.ofNat (48+k))=some k:=by decide
theorem a7e (n:Nat):Lib.decFrom 0 (dec n)=some n:=by
 induction n using Nat.strongRecOn with
 | _ n ih =>
  unfold dec;by_cases h:n<10
  ·rw [dif_pos h,Lib.decFrom,a7d n h];simp [Lib.decFrom]
  ·rw [dif_neg h,a7c,ih (n/10) zo,Option.bind_some,Lib.decFrom,a7d (n%10) zo];simp only [Lib.decFrom];congr 1;omega
theorem b26 (n:Nat):∃ b r,dec n=b::r:=by
 cases h:dec n with
 | nil=>have:=a7e n;unfold dec at h;split at h<;>simp at h
 | cons b r=>exact ⟨b,r,rfl⟩
theorem b8F (n:Nat):Lib.atoi (dec n)=some (n:Int):=by
 obtain ⟨b,r,e⟩:=b26 n;obtain ⟨k,hk,hb⟩:=a7M n b (by rw [e];exact yW)
 have h1:∀ k,k<10→(UInt8.ofNat (48+k)==45)=false∧(UInt8.ofNat (48+k)==43)=false:=by decide
 have hn:Lib.decNat (dec n)=some n:=by unfold Lib.decNat;rw [zJ (by rw [e];simp)];exact a7e n
 rw [e] at hn ⊢;unfold Lib.atoi;rw [hb] at hn ⊢;simp only [(h1 k hk).1,(h1 k hk).2,hn];rfl
theorem b8G (n:Nat) (hn:n<10000000) (w:World):Calls G.P 195 #[m9 (dec n)] w (L4 (.tuple #[.int .i64 n,.nilIface]) w):=by
 have hl:=a2Y 7 n zd zo;refine (Tryz.strconv_Atoi (tx (dec n)) n (by rw [C3];omega) (by show Lib.atoi ((dec n).toArray.toList)=_;exact b8F n) w).mono ?_
 rintro r w' ⟨h1,t,h2⟩;exact ⟨h1,by rw [h2];exact Cl.bytes w _ t⟩
theorem b8H {c:UInt8} (h:b3U c):Lib.isSp c=false:=by
 have h49:49≤c.toNat:=by
  rcases h with h | ⟨x,h0,h1,h⟩
  ·exact h.1
  ·rcases (by omega:x=1∨x=2∨x=3∨x=4∨x=5∨x=6∨x=7∨x=8∨x=9∨x=10∨x=11∨x=12) with rfl | rfl | rfl | rfl | rfl | rfl | rfl | rfl | rfl | rfl | rfl | rfl<;>(injection h with h _;subst h;decide)
 unfold Lib.isSp;have:∀ k:UInt8,k.toNat<49→(c==k)=false:=fun k hk=>by
  rw [beq_eq_false_iff_ne];intro e;rw [e] at h49;omega
 rw [this 9 zd,this 10 zd,this 11 zd,this 12 zd,this 13 zd,this 32 zd];rfl
theorem c1l {a:UInt8} {r l:Tx} {b:UInt8} (h:a::r=l++[b]) (ha:Lib.isSp a=false) (hb:Lib.isSp b=false):Lib.trimSpace (a::r)=a::r:=by
 unfold Lib.trimSpace;rw [List.dropWhile_cons,zJ (by rw [ha];decide),h,List.reverse_append,List.reverse_singleton,List.singleton_append,List.dropWhile_cons,zJ (by rw [hb];decide)]
 simp
theorem c30 (p:l9) (hp:∀ i:Int,0≤sq p i∧sq p i≤12) (r:Nat):∃ c t,a3G p r=c::t:=by
 cases h:a3G p r with
 | nil=>have:=b1f hp r;rw [h] at this;cases this
 | cons c t=>exact ⟨c,t,rfl⟩
theorem b8I {p:l9} (hp:∀ i:Int,0≤sq p i∧sq p i≤12):Lib.trimSpace (fenT p)=fenT p:=by
 obtain ⟨c,t,e⟩:=c30 p hp 7;have hc:b3U c:=b89 (fun f=>sq p (8*((7:Nat):Int)+f)) 8 0 0 zo c (by show c∈a3G p 7;rw [e];exact yW)
 have e1:fenT p=c::(t++[47]++boardT p 7++[32]++turnT p.turn++[32]++castT p.castle++[32]++epT p.ep++[32]++dec p.half.toNat++[32]++dec p.full.toNat):=by
  have:boardT p 8=a3G p 7++[47]++boardT p 7:=rfl;unfold fenT;rw [this,e];simp
 obtain ⟨x,r,e2⟩:=b26 p.full.toNat;have hne:dec p.full.toNat≠[]:=by rw [e2];simp
 have hl:=List.dropLast_concat_getLast hne;obtain ⟨k,hk,hk2⟩:=a7M p.full.toNat _ (List.getLast_mem hne);have h3:∀ k,k<10→Lib.isSp (UInt8.ofNat (48+k))=false:=by decide
 have e4:fenT p=(boardT p 8++[32]++turnT p.turn++[32]++castT p.castle++[32]++epT p.ep++[32]++dec p.half.toNat++[32]++(dec p.full.toNat).dropLast)++[(dec p.full.toNat).getLast hne]:=by
  rw [yF _ (dec p.full.toNat).dropLast,hl];rfl
 rw [e1];exact c1l (e1.symm.trans e4) (b8H hc) (by rw [hk2];exact h3 k hk)
theorem b60 {p:l9} (hp:∀ i:Int,0≤sq p i∧sq p i≤12):∀ c∈fenT p,c.toNat<128:=by
 have hdec:∀ n,∀ c∈dec n,c.toNat<128:=fun n c hc=>by
  obtain ⟨k,hk,rfl⟩:=a7M n c hc;have:∀ k,k<10→(UInt8.ofNat (48+k)).toNat<128:=by decide
  exact this k hk
 have hrow:∀ c,b3U c→c.toNat<128:=fun c h=>by
  rcases a8Z h with h | h
  ·omega
  ·exact h.2.1
 have hboard:∀ r,∀ c∈boardT p r,c.toNat<128:=by
  intro r
  induction r with
  | zero=>intro c hc;cases hc
  | succ r ih =>
   intro c hc;rw [boardT] at hc;rcases zq.1 hc with hc | hc
   ·rcases zq.1 hc with hc | hc
    ·exact hrow c (b89 _ 8 0 0 zo c hc)
    ·split at hc
     ·cases hc
     ·rw [zY.1 hc];decide
   ·exact ih c hc
 have h32:∀ c∈([32]:Tx),c.toNat<128:=by decide
 have hturn:∀ c∈turnT p.turn,c.toNat<128:=by unfold turnT;split<;>decide
 have hcast:∀ c∈castT p.castle,c.toNat<128:=by
  have:∀ a b c d:Bool,∀ x∈(let t:Tx:=(if a then [75] else [])++(if b then [81] else [])++(if c then [107] else [])++(if d then [113] else []);if t.isEmpty then [45] else t),x.toNat<128:=by decide
  exact this _ _ _ _
 have hep:∀ c∈epT p.ep,c.toNat<128:=by
  unfold epT;split
  ·rename_i h;have:∀ k,k<64→∀ c∈r9 ((k:Nat):Int)++a0K ((k:Nat):Int),c.toNat<128:=by decide
   have h2:=this p.ep.toNat zo
   rwa [zi h.1] at h2
  ·decide
 intro c hc;unfold fenT at hc;simp only [zq] at hc;rcases hc with (((((((((h | h) | h) | h) | h) | h) | h) | h) | h) | h) | h
 ·exact hboard _ c h
 ·exact h32 c h
 ·exact hturn c h
 ·exact h32 c h
 ·exact hcast c h
 ·exact h32 c h
 ·exact hep c h
 ·exact h32 c h
 ·exact hdec _ c h
 ·exact h32 c h
 ·exact hdec _ c h
theorem b61 {p:l9} (hp:∀ i:Int,0≤sq p i∧sq p i≤12) (hl:(fenT p).length≤100000) (w:World) (hs:Spc w):Calls G.P 189 #[m9 (fenT p)] w (L4 (m9 (fenT p)) w):=by
 refine (Tryz.strings_TrimSpace (tx (fenT p)) w (by rw [C3];omega) (fun j b hb=>?_) hs).mono ?_
 ·have hb:(fenT p)[j]?=some b:=hb;exact b60 hp b (yg hb)
 ·rintro r w' ⟨h1,h2⟩;refine ⟨?_,by rw [h2];exact Cl.bytes w _ _⟩
  rw [h1];show Ending.returned (.string ⟨(Lib.trimSpace (fenT p)).toArray⟩)=_;rw [b8I hp];rfl
def b5m (P:Program):Nat→Nat→Bool
 | 0,_=>true
 | d+1,e=>match P.underlying e with
  | some (.struct fs)=>fs.all fun f=>b5m P d f.type
  | some (.array _ _)=>false
  | _=>true
theorem b62 {P:Program} {fits:TypeId→Bool}:∀ (d e n off:Nat),b5m P d e=true→2≤n→rowAt P fits d e 1 off n=false:=by
 intro d
 induction d with
 | zero=>intro e n off _ _;rfl
 | succ d ih =>
  intro e n off h hn;unfold b5m at h;unfold rowAt;simp only
  split
  ·rfl
  rw [zy];constructor
  ·rw [zV (show ¬ off/P.cellsOf e+n≤1 by generalize off/P.cellsOf e=q;omega)];simp
  ·rw [Bool.and_eq_false_iff];right;split at h
   ·rename_i fs hu;simp only [hu];rw [Bool.and_eq_false_iff];right;rw [Array.any_eq_false];intro i hi hc;rw [Array.all_eq_true] at h;have:=ih fs[i].type n (off%P.cellsOf e-fs[i].offset) (h i hi) hn;rw [this] at hc;simp at hc
   ·cases h
   ·rename_i h1 h2;split
    ·rename_i fs hu;exact absurd hu (h1 fs)
    ·rename_i m e' hu;exact absurd hu (h2 m e')
    ·rfl
def a7f (P:Program) (fits:TypeId→Bool):Nat→Nat→Bool
 | 0,_=>true
 | d+1,e=>!fits e&&match P.underlying e with
  | some (.struct fs)=>fs.all fun f=>b5m P d f.type
  | some (.array _ _)=>false
  | _=>true
theorem b63 {P:Program} {fits:TypeId→Bool} (d e n c off:Nat) (h:a7f P fits d e=true) (hn:2≤n):rowAt P fits d e c off n=false:=by
 cases d with
 | zero=>rfl
 | succ d =>
  unfold a7f at h;rw [zP] at h;obtain ⟨h0,h⟩:=h;have h0:fits e=false:=by simpa using h0
  unfold rowAt;simp only
  split
  ·rfl
  rw [zy];constructor
  ·rw [h0];simp
  ·rw [Bool.and_eq_false_iff];right;split at h
   ·rename_i fs hu;simp only [hu];rw [Bool.and_eq_false_iff];right;rw [Array.any_eq_false];intro i hi hc;rw [Array.all_eq_true] at h;have:=b62 (fits:=fits) d fs[i].type n (off%P.cellsOf e-fs[i].offset) (h i hi) hn;rw [this] at hc;simp at hc
   ·cases h
   ·rename_i h1 h2;split
    ·rename_i fs hu;exact absurd hu (h1 fs)
    ·rename_i m e' hu;exact absurd hu (h2 m e')
    ·rfl
theorem b4b {P:Program} (D e u n c off:Nat) (h:a7f P (fun t=>sameLayout P P.depth t u) P.depth e=true) (hu:∀ m u',P.underlying u≠some (.array m u')) (hn:2≤n):liesAt P D e c off u n=false:=by
 cases D with
 | zero=>rfl
 | succ D =>
  unfold liesAt;rw [b63 _ _ _ _ _ h hn,Bool.false_or];split
  ·rename_i m u' he;exact absurd he (hu m u')
  ·rfl
theorem b8J {W:World} (hS:W.ShapedOpen G.P) {g ty:Nat} (hlt:g<G.P.globals.size) (h0:(((begin G.P (fun _ _=>0) default).world.heap[g]?).bind Obj.row?).map (·.2)=some ty) :
  ∃ cs,W.heap[g]?=some (.cells cs ty (0,0))∧(G.P.buildable ty=true→Row.ok G.P W .any 0 ty cs):=by
 cases h1:((begin G.P (fun _ _=>0) default).world.heap[g]?).bind Obj.row? with
 | none=>rw [h1] at h0;cases h0
 | some x =>
  obtain ⟨zero,t⟩:=x;rw [h1] at h0;obtain rfl:t=ty:=Option.some.inj h0;obtain ⟨cs,h2,_,h3⟩:=hS.1 g zero t hlt h1;exact ⟨cs,h2,h3⟩
theorem b8K {W:World} {name:String} {g ty:Nat} {cs cs':Array Value} (hg:G.P.globalNamed name=some g) (hb:W.heap[g]?=some (.cells cs ty (0,0))) (hv:W.var? G.P name=some cs'):cs'=cs:=by
 unfold World.var? at hv;rw [hg] at hv;simp only [Option.bind_some,hb] at hv;exact (Option.some.inj hv).symm
theorem a1u {W:World} (hS:W.ShapedOpen G.P) {name:String} {g t n e ty:Nat} {k:IntKind} {z:Nat→Int} (hg:G.P.globalNamed name=some g) (hlt:g<G.P.globals.size) (h0:(((begin G.P (fun _ _=>0) default).world.heap[g]?).bind Obj.row?).map (·.2)=some ty)
  (hf:a2r ty=true) (hty:(G.P.globals[g]?).map (·.type)=some t) (ht:G.P.underlying t=some (.array n e)) (he:G.P.underlying e=some (.int k)) (hce:G.P.cellsOf e=1) (hct:G.P.cellsOf t=n)
  (hr:Lib.VarReads G.P W name (Lib.tabData k ((List.range n).map z))):Z5 W g n (fun i=>.int k (z i)):=by
 obtain ⟨g',t',cs',fuel,p,hg',ht',hv,hd⟩:=hr;obtain rfl:=Option.some.inj (hg.symm.trans hg');obtain rfl:=Option.some.inj (hty.symm.trans ht');obtain ⟨cs,hb,_⟩:=b8J hS hlt h0;have e1:=Lib.cells_of_tab ht he hce hct hd;rw [b8K hg hb hv] at e1;refine ⟨cs,ty,_,hb,hf,fun i hi=>?_⟩;have e2:cs.toList[i]?=some (Value.int k (z i)):=by
  rw [e1];simp [List.getElem?_map,List.getElem?_range hi]
 simpa using e2
theorem b27 {W:World} {name:String} {g t n e:Nat} {k:IntKind} {zs:List Int} (hg:G.P.globalNamed name=some g) (hty:(G.P.globals[g]?).map (·.type)=some t) (ht:G.P.underlying t=some (.array n e)) (he:G.P.underlying e=some (.int k)) (hce:G.P.cellsOf e=1) (hct:G.P.cellsOf t=n)
  (hr:Lib.VarReads G.P W name (Lib.tabData k zs)):Lib.TabIs G.P W name k zs:=by
 obtain ⟨g',t',cs',fuel,p,hg',ht',hv,hd⟩:=hr;obtain rfl:=Option.some.inj (hg.symm.trans hg');obtain rfl:=Option.some.inj (hty.symm.trans ht');unfold Lib.TabIs;rw [hv,← Lib.cells_of_tab ht he hce hct hd]
theorem b5n {W:World} (hS:W.ShapedOpen G.P) {name:String} {g t n e ty:Nat} {k:IntKind} {z:Nat→Int} (hg:G.P.globalNamed name=some g) (hlt:g<G.P.globals.size) (h0:(((begin G.P (fun _ _=>0) default).world.heap[g]?).bind Obj.row?).map (·.2)=some ty)
  (hf:a2r ty=true) (hbu:G.P.buildable ty=true) (hct:G.P.cellTypes G.P.depth ty=some [t]) (hty:(G.P.globals[g]?).map (·.type)=some t) (ht:G.P.underlying t=some (.slice e)) (he:G.P.underlying e=some (.int k)) (hce:G.P.cellsOf e=1)
  (hn:2≤n) (hno:∀ row,a2r row=false→a7f G.P (fun t=>sameLayout G.P G.P.depth t e) G.P.depth row=true)
  (hr:Lib.VarReads G.P W name (.slice ((List.range n).map fun i=>.lit (.int k (z i))) [])):a7u W g n (fun i=>.int k (z i)):=by
 obtain ⟨g',t',cs',fuel,p,hg',ht',hv,hd⟩:=hr;obtain rfl:=Option.some.inj (hg.symm.trans hg');obtain rfl:=Option.some.inj (hty.symm.trans ht');obtain ⟨cs,hb,hok⟩:=b8J hS hlt h0;rw [b8K hg hb hv] at hd;obtain ⟨a,cap,e1,hcap,hcells⟩:=open_row ht hce hd;have hl:((List.range n).map fun i=>(DataW.lit (.int k (z i)):DataW Unit)).length=n:=by simp
 rw [hl] at e1 hcap;have e2:cs=#[.slice (some a) n cap]:=by rw [← Array.toList_inj];exact e1
 subst e2;obtain ⟨ts,hts,_,hall⟩:=hok hbu;obtain rfl:=Option.some.inj (hct.symm.trans hts);obtain ⟨u,hu,hc⟩:=hall 0 _ rfl;obtain rfl:t=u:=Option.some.inj hu;unfold Cell.ok at hc;rw [ht] at hc;obtain ⟨_,_,_,hsp,row,cells,hsh,hlie⟩:=hc;obtain ⟨b,o,sp⟩:=a;have hsp:sp=none:=hsp;subst hsp;unfold World.shape? at hsh;have hcell0:=hcells;cases hbb:W.heap[b]? with
 | none=>simp only [hbb] at hsh;cases hsh
 | some ob =>
  cases ob with
  | cells cs2 el fz =>
   simp only [hbb] at hsh;obtain ⟨rfl,rfl⟩:=Prod.mk.inj (Option.some.inj hsh);refine ⟨b,o,cap,⟨_,_,_,hb,hf,fun i hi=>?_⟩,cs2,el,fz,hbb,?_,fun i hi=>?_⟩
   ·obtain rfl:i=0:=by omega
    rfl
   ·cases hfx:a2r el with
    | true=>rfl
    | false =>
     have hu:∀ m u',G.P.underlying e≠some (.array m u'):=fun m u' h=>by rw [he] at h;cases h
     rw [b4b _ _ _ _ _ _ (hno el hfx) hu zo] at hlie;cases hlie
   ·obtain ⟨v,m,q,hv1,hv2⟩:=hcells i (.lit (.int k (z i))) (by simp [List.getElem?_map,List.getElem?_range hi])
    obtain ⟨z',h3,h4,_⟩:=DataW.trod_int he hv2;injection h3 with h3;injection h4 with h4;injection h4 with h4;injection h4 with _ h4;rw [H5] at hv1;unfold World.cell? at hv1;simp only [hbb] at hv1;rw [h3,← h4] at hv1;simpa using hv1
  | _=>simp only [hbb] at hsh;cases hsh
theorem c4J (P:Nat→Prop) (h0:P 173) (h1:P 237) (h2:P 141) (h3:P 131):∀ row,a2r row=false→P row:=by
 intro row h;unfold a2r at h;have h:(Nat.beq row 173||Nat.beq row 237||Nat.beq row 141||Nat.beq row 131)=true:=by
  revert h;generalize (Nat.beq row 173||Nat.beq row 237||Nat.beq row 141||Nat.beq row 131)=q
  cases q<;>decide
 simp only [zj] at h;rcases h with ((h | h) | h) | h
 ·obtain rfl:=zr h;exact h0
 ·obtain rfl:=zr h;exact h1
 ·obtain rfl:=zr h;exact h2
 ·obtain rfl:=zr h;exact h3
theorem c4K:∀ row,a2r row=false→a7f G.P (fun t=>sameLayout G.P G.P.depth t 194) G.P.depth row=true :=
 c4J (fun row=>a7f G.P (fun t=>sameLayout G.P G.P.depth t 194) G.P.depth row=true) zk zk zk zk
theorem c4L:∀ row,a2r row=false→a7f G.P (fun t=>sameLayout G.P G.P.depth t 139) G.P.depth row=true :=
 c4J (fun row=>a7f G.P (fun t=>sameLayout G.P G.P.depth t 139) G.P.depth row=true) zk zk zk zk
theorem c31 {W:World} (hS:W.ShapedOpen G.P):∃ f:Nat→Tx,Z5 W 23 8 (fun i=>m9 (f i)):=by
 have h0:(match ((begin G.P (fun _ _=>0) default).world.heap[23]?).bind Obj.row? with | some x=>Nat.beq x.1.size 8&&Nat.beq x.2 394 | none=>false)=true:=by kernel_rfl
 have hbu:G.P.buildable 394=true:=by kernel_rfl
 have hct:G.P.cellTypes G.P.depth 394=some (List.replicate 8 9):=by kernel_rfl
 have hus:G.P.underlying 9=some .string:=by kernel_rfl
 cases h1:((begin G.P (fun _ _=>0) default).world.heap[23]?).bind Obj.row? with
 | none=>rw [h1] at h0;cases h0
 | some x =>
  obtain ⟨zero,t⟩:=x;rw [h1] at h0;simp only [zP] at h0;obtain ⟨cs,h2,h3,hok⟩:=hS.1 _ zero t (zU zk) h1;have e1:=zr h0.1;obtain rfl:=zr h0.2;obtain ⟨ts,hts,_,hall⟩:=hok hbu;obtain rfl:=Option.some.inj (hct.symm.trans hts);have key:∀ i,i<8→∃ T:Tx,cs[i]?=some (m9 T):=by
   intro i hi;have hi2:i<cs.size:=by omega
   obtain ⟨u,hu,hc⟩:=hall i cs[i] (Array.getElem?_eq_getElem hi2);rw [List.length_replicate,Nat.mod_eq_of_lt hi,List.getElem?_replicate,zM hi] at hu;obtain rfl:=Option.some.inj hu;unfold Cell.ok at hc;rw [hus] at hc;cases hv:cs[i] with
   | string s =>
    refine ⟨s.data.toList,?_⟩;rw [Array.getElem?_eq_getElem hi2,hv];rfl
   | _=>rw [hv] at hc;exact hc.elim
  refine ⟨fun i=>if h:i<8 then (key i h).choose else [],cs,_,(0,0),h2,rfl,fun i hi=>?_⟩
  simp only [dif_pos hi];exact (key i hi).choose_spec
theorem b64 {W:World} (hS:W.ShapedOpen G.P) {l:List (String×DataW Unit)} (h:laidMet G.P l W)
  (dia:("pub-tabiya/pub/chess.bbDiagonals",Lib.tabData .u64 ((List.range 64).map fun i=>((Bb.mask 2 i:Nat):Int)))∈l)
  (anti:("pub-tabiya/pub/chess.bbAntiDiagonals",Lib.tabData .u64 ((List.range 64).map fun i=>((Bb.mask 3 i:Nat):Int)))∈l)
  (ranks:("pub-tabiya/pub/chess.bbRanks",Lib.tabData .u64 ((List.range 8).map fun i=>((Bb.mask 0 (8*i):Nat):Int)))∈l)
  (files:("pub-tabiya/pub/chess.bbFiles",Lib.tabData .u64 ((List.range 8).map fun i=>((Bb.mask 1 i:Nat):Int)))∈l)
  (kn:("pub-tabiya/pub/chess.bbKnightMoves",Lib.tabData .u64 ((List.range 64).map fun i=>((Ch.kn i:Nat):Int)))∈l)
  (kg:("pub-tabiya/pub/chess.bbKingMoves",Lib.tabData .u64 ((List.range 64).map fun i=>((Ch.kg i:Nat):Int)))∈l)
  (all:("pub-tabiya/pub/chess.allPieces",.slice ((List.range 12).map fun (i:Nat)=>.lit (.int .i8 ((i:Int)+1))) [])∈l)
  (promo:("pub-tabiya/pub/chess.promoPieceTypes",.slice ((List.range 4).map fun (i:Nat)=>.lit (.int .i8 ((i:Int)+2))) [])∈l)
  (wfen:("pub-tabiya/pub/chess.whitePiecesToFEN",Lib.tabData .u8 ((List.range 7).map fun i=>((wfenL.getD i 0:Nat):Int)))∈l)
  (bfen:("pub-tabiya/pub/chess.blackPiecesToFEN",Lib.tabData .u8 ((List.range 7).map fun i=>((bfenL.getD i 0:Nat):Int)))∈l)
  (fen:("pub-tabiya/pub/chess.fenCharToPiece",Lib.tabData .i8 ((List.range 128).map fun i=>(a3h i)))∈l)
  (spc:("strings.asciiSpace",Lib.tabData .u8 Lib.asciiSpaceTab)∈l) (pow:("internal/strconv.uint64pow10",Lib.tabData .u64 Lib.pow10Tab)∈l):C9 W∧Spc W∧Pow W:=by
 refine ⟨⟨?_,?_,?_,?_,?_,?_,?_,?_,?_,?_,?_,c31 hS⟩,?_,?_⟩
 ·exact a1u hS (ty:=282) (t:=282) (e:=235) zk (zU zk) zk rfl zk zk zk zk zk (Lib.laidMet.reads h dia)
 ·exact a1u hS (ty:=282) (t:=282) (e:=235) zk (zU zk) zk rfl zk zk zk zk zk (Lib.laidMet.reads h anti)
 ·exact a1u hS (ty:=326) (t:=326) (e:=235) zk (zU zk) zk rfl zk zk zk zk zk (Lib.laidMet.reads h ranks)
 ·exact a1u hS (ty:=326) (t:=326) (e:=235) zk (zU zk) zk rfl zk zk zk zk zk (Lib.laidMet.reads h files)
 ·exact a1u hS (ty:=282) (t:=282) (e:=235) zk (zU zk) zk rfl zk zk zk zk zk (Lib.laidMet.reads h kn)
 ·exact a1u hS (ty:=282) (t:=282) (e:=235) zk (zU zk) zk rfl zk zk zk zk zk (Lib.laidMet.reads h kg)
 ·exact b5n hS (ty:=243) (t:=243) (e:=194) zk (zU zk) zk rfl zk zk zk zk zk zk zd c4K (Lib.laidMet.reads h all)
 ·exact b5n hS (ty:=291) (t:=291) (e:=139) zk (zU zk) zk rfl zk zk zk zk zk zk zd c4L (Lib.laidMet.reads h promo)
 ·exact a1u hS (ty:=300) (t:=300) (e:=5) zk (zU zk) zk rfl zk zk zk zk zk (Lib.laidMet.reads h wfen)
 ·exact a1u hS (ty:=300) (t:=300) (e:=5) zk (zU zk) zk rfl zk zk zk zk zk (Lib.laidMet.reads h bfen)
 ·exact a1u hS (ty:=316) (t:=316) (e:=194) zk (zU zk) zk rfl zk zk zk zk zk (Lib.laidMet.reads h fen)
 ·exact b27 (g:=1) (t:=269) (n:=256) (e:=5) zk zk zk zk zk zk (Lib.laidMet.reads h spc)
 ·exact b27 (g:=16) (t:=354) (n:=20) (e:=234) zk zk zk zk zk zk (Lib.laidMet.reads h pow)
theorem a9w {H:Type} {enc:TypeId×Value→H} {a:Assume} {C:Checked} {os:Os} {f:FuncId} {fn:Func} {s:ChangeSpec} {conds:List PathCond} {apart fresh handsOn again:Bool} {X:World→Array Value→Prop}
  (hX:∀ (w w':World) (args:Array Value),w.heap=w'.heap→X w args→X w' args)
  (own:ownKnob C.prog.godebug=none) (started:os.Started) (noInit:C.prog.inits.idxOf? f=none) (hfn:C.prog.funcs[f]?=some fn)
  (witness:∃ (w:World) (tape:Tape) (i:Input),w.os=os∧(w.forCall tape i).Shaped C.prog∧i.vars=[]∧Input.okWide C.prog (w.forCall tape i) .any w.heap.size f i ∧
   ((s.pre enc C.prog fn conds apart (w.forCall tape i).memory i.args∧X (w.forCall tape i).memory i.args)∧sizedMet enc C.prog fn (OpenSpec.ofChange s) apart (w.forCall tape i).memory i.args)∧a.holds C.prog (lone (Frame.enter C.prog f i.args .normal) [] (w.forCall tape i)))
  (contract:∀ (W:World) (base:Nat) (args:Array Value) (ds gs:List (DataW H)) (before:List MemPlace),W.ShapedOpen C.prog →
   (∀ (j:Nat) t v,fn.params[j]?=some t→args[j]?=some v→Value.okWide C.prog W .any base t v) →
   DataW.Whole enc C.prog fn.params.toList s.vars apart W args.toList ds gs before→X W args →
   Calls C.prog f args W fun e W'=>∃ v,e = .returned v∧s.post enc C.prog fn apart fresh handsOn again W args v W') :
  ReturnsInHanded a C os f .any (fun w args=>(s.pre enc C.prog fn conds apart w args∧X w args)∧sizedMet enc C.prog fn (OpenSpec.ofChange s) apart w args) (s.post enc C.prog fn apart fresh handsOn again):=by
 refine returnsInHanded_of_calls own started noInit witness ?_;intro w tape i _ hsh _ hok hpre _;obtain ⟨_,_,_,fn',hfn',_,_,_,_,hval⟩:=hok;have e:fn'=fn:=Option.some.inj (hfn'.symm.trans hfn);subst e;obtain ⟨⟨⟨ds,gs,before,hw,_⟩,hx⟩,_⟩:=hpre;have hw':=DataW.Whole.of_heap (w':=w.forCall tape i) (by rfl) hw
 refine (contract (w.forCall tape i) w.heap.size i.args ds gs before hsh hval hw' (hX _ _ _ (by rfl) hx)).mono fun e W' ⟨v,he,hp⟩=>?_
 subst he;exact ChangeSpec.post_blind hp
end
end Go.Proofs.YtpclhlhcegcflaaGreatDoor
