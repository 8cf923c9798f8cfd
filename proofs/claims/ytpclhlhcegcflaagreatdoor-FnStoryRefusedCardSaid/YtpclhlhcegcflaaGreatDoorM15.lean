/- One part of the proof: Fen Pk39 Pk40 Pk41 Pk42 Law11 Pk43 Shl2 Pk44 Lid. -/
import Derived.Laws.RangeString
import Derived.Shelf.Strings.TrimSpace
import Derived.Shelf.Strconv.Atoi
import Derived.Lib.LaidU8
import Derived.LaidMore
import Derived.OpenShut
import Derived.Handed
import Derived.Test.YtpclhlhcegcflaaGreatDoorM14
namespace Go.Proofs.YtpclhlhcegcflaaGreatDoor
open Go.Proofs.Tryz
set_option maxRecDepth 100000
set_option linter.unusedSimpArgs false
set_option linter.unusedVariables false
section
namespace Ch
set_option linter.unusedSimpArgs false
set_option linter.unusedVariables false
def a2L (c:UInt8):Tx→Tx→List Tx
 | cur,[]=>[cur]
 | cur,x::r=>if x=c then cur::a2L c [] r else a2L c (cur++[x]) r
theorem a4J {c:UInt8}:∀ {s cur:Tx},c∉s→a2L c cur s=[cur++s]
 | [],cur,_=>by simp [a2L]
 | x::r,cur,h=>by
  have hx:¬ x=c:=fun e=>h (by rw [e];exact yc)
  rw [a2L,zJ hx,a4J (fun hm=>h (ye _ hm))];simp
theorem a1y {c:UInt8} {b:Tx}:∀ {a cur:Tx},c∉a→a2L c cur (a++c::b)=(cur++a)::a2L c [] b
 | [],cur,_=>by simp [a2L]
 | x::r,cur,h=>by
  have hx:¬ x=c:=fun e=>h (by rw [e];exact yc)
  rw [yX,a2L,zJ hx,a1y (fun hm=>h (ye _ hm))];simp
theorem b3x {c:UInt8}:∀ {s cur:Tx},0<(a2L c cur s).length
 | [],cur=>by simp [a2L]
 | x::r,cur=>by
  rw [a2L];split
  ·simp
  ·exact b3x
theorem a7c {c:UInt8}:∀ {s:Tx},c∈s→s=s.take (s.idxOf c)++c::s.drop (s.idxOf c+1)∧c∉s.take (s.idxOf c)∧s.idxOf c<s.length
 | [],h=>by cases h
 | x::r,h=>by
  by_cases e:x=c
  ·subst e;simp
  ·have hm:c∈r:=by
    rcases yV.1 h with e2|h2
    ·exact absurd e2.symm e
    ·exact h2
   obtain ⟨h1,h2,h3⟩:=a7c hm;have ei:(x::r).idxOf c=r.idxOf c+1:=by rw [List.idxOf_cons,show (x==c)=false by simpa using e];rfl
   rw [ei];refine ⟨?_,?_,by simp;omega⟩
   ·rw [xh,List.drop_succ_cons,yX,← h1]
   ·rw [xh];intro hm2;rcases yV.1 hm2 with e2|h4
    ·exact e e2.symm
    ·exact h2 h4
theorem c2r {c:UInt8} {s:Tx} (h:c∈s):a2L c [] s=s.take (s.idxOf c)::a2L c [] (s.drop (s.idxOf c+1)):=by
 obtain ⟨h1,h2,_⟩:=a7c h;have:=a1y (b:=s.drop (s.idxOf c+1)) (cur:=[]) h2;rw [← h1,yP] at this;exact this
def Ltr (c:UInt8):Prop:=c≠32∧c≠47
theorem a8p (n:Nat):∀ c∈dec n,∃ k,k<10∧c=UInt8.ofNat (48+k):=by
 induction n using Nat.strongRecOn with
 | _ n ih =>
  intro c hc;unfold dec at hc;split at hc
  ·rename_i h;exact ⟨n,h,by simpa using hc⟩
  ·rename_i h;rcases zr.1 hc with hc|hc
   ·exact ih (n/10) zo c hc
   ·exact ⟨n%10,zo,by simpa using hc⟩
theorem c2s:∀ k,k<10→Ltr (UInt8.ofNat (48+k)):=by
 unfold Ltr;decide
theorem b1U (n:Nat):∀ c∈dec n,Ltr c:=fun c hc=>by
 obtain ⟨k,hk,rfl⟩:=a8p n c hc;exact c2s k hk
theorem c46 (x:Int):∀ c∈pcT x,Ltr c:=by
 by_cases h:1≤x∧x≤12
 ·rcases (by omega:x=1∨x=2∨x=3∨x=4∨x=5∨x=6∨x=7∨x=8∨x=9∨x=10∨x=11∨x=12) with rfl|rfl|rfl|rfl|rfl|rfl|rfl|rfl|rfl|rfl|rfl|rfl <;>
   (intro c hc;have:=zY.1 hc;rw [this];exact ⟨zd,zd⟩)
 ·have e:pcT x=[]:=by
   unfold pcT;rw [zJ zo,zJ zo,zJ zo,zJ zo,zJ zo,zJ zo,zJ zo,zJ zo,zJ zo,zJ zo,zJ zo,zJ zo]
  intro c hc;rw [e] at hc;cases hc
theorem b6x (e:Nat):∀ c∈a0g e,Ltr c:=by
 intro c hc;unfold a0g at hc;split at hc
 ·cases hc
 ·exact b1U e c hc
theorem a6t (g:Nat→Int):∀ n f e,∀ c∈a0T g n f e,Ltr c
 | 0,_,e,c,hc=>b6x e c hc
 | n+1,f,e,c,hc=>by
  rw [a0T] at hc;split at hc
  ·exact a6t g n (f+1) (e+1) c hc
  ·rcases zr.1 hc with hc|hc
   ·rcases zr.1 hc with hc|hc
    ·exact b6x e c hc
    ·exact c46 _ c hc
   ·exact a6t g n (f+1) 0 c hc
def a4f (p:g9) (r:Nat):Tx:=a0T (fun f=>sq p (8*(r:Int)+f)) 8 0 0
def a6u (p:g9):Nat→List Tx
 | 0=>[]
 | r+1=>a4f p r::a6u p r
theorem a7d (p:g9):∀ n k,k<n→(a6u p n)[k]?=some (a4f p (n-1-k))
 | n+1,0,_=>by simp [a6u]
 | n+1,k+1,h=>by
  rw [a6u,List.getElem?_cons_succ,a7d p n k zo];rw [show n+1-1-(k+1)=n-1-k by omega]
theorem b0O (p:g9):∀ n,(a6u p n).length=n
 | 0=>rfl
 | n+1=>by rw [a6u,zh,b0O p n]
theorem a96 (p:g9):∀ r,a2L 47 [] (a2U p (r+1))=a6u p (r+1)
 | 0=>by
  have h:(47:UInt8)∉a4f p 0:=fun h=>(a6t _ _ _ _ _ h).2 rfl;have e:a2U p 1=a4f p 0:=by simp [a2U,a4f]
  rw [e,a4J h];rfl
 | r+1=>by
  have h:(47:UInt8)∉a4f p (r+1):=fun h=>(a6t _ _ _ _ _ h).2 rfl;have e:a2U p (r+1+1)=a4f p (r+1)++47::a2U p (r+1):=by
   rw [a2U,zJ zo];simp [a4f]
  rw [e,a1y h,a96 p r];rfl
theorem b0P (p:g9):∀ r,∀ c∈a2U p r,c≠32
 | 0,c,hc=>by cases hc
 | r+1,c,hc=>by
  rw [a2U] at hc;rcases zr.1 hc with hc|hc
  ·rcases zr.1 hc with hc|hc
   ·exact (a6t _ _ _ _ c hc).1
   ·split at hc
    ·cases hc
    ·rw [zY.1 hc];decide
  ·exact b0P p r c hc
theorem b72 (p:g9):a2L 32 [] (a7q p)=[a2U p 8,a8n p.turn,a4V p.castle,epT p.ep,dec p.half.toNat,dec p.full.toNat]:=by
 have n1:(32:UInt8)∉a2U p 8:=fun h=>b0P p 8 _ h rfl;have n2:(32:UInt8)∉a8n p.turn:=by unfold a8n;split<;>decide
 have n3:(32:UInt8)∉a4V p.castle:=by
  have:∀ a b c d:Bool,(32:UInt8)∉(let t:Tx:=(if a then [75] else [])++(if b then [81] else [])++(if c then [107] else [])++(if d then [113] else []);if t.isEmpty then [45] else t):=by decide
  exact this _ _ _ _
 have n4:(32:UInt8)∉epT p.ep:=by
  unfold epT;split
  ·rename_i h;have:∀ k,k<64→(32:UInt8)∉v8 ((k:Nat):Int)++B6 ((k:Nat):Int):=by decide
   have h2:=this p.ep.toNat zo
   rwa [zi h.1] at h2
  ·decide
 have n5:(32:UInt8)∉dec p.half.toNat:=fun h=>(b1U _ _ h).1 rfl;have n6:(32:UInt8)∉dec p.full.toNat:=fun h=>(b1U _ _ h).1 rfl;have e:a7q p=a2U p 8++32::(a8n p.turn++32::(a4V p.castle++32::(epT p.ep++32::(dec p.half.toNat++32::dec p.full.toNat)))):=by simp [a7q]
 rw [e,a1y n1,a1y n2,a1y n3,a1y n4,a1y n5,a4J n6];rfl
theorem b1V {p:g9} (hp:∀ i:Int,0≤sq p i∧sq p i≤12) (r:Nat):J8 (a4f p r)=a52 (fun f=>sq p (8*(r:Int)+f)) 8 0:=by
 unfold a4f;rw [b3f _ (fun f=>hp _) 8 0 0 zo];rfl
theorem b3y (g:Nat→Int):∀ n s k,k<n→(a52 g n s)[k]?=some (g (s+k))
 | n+1,s,0,_=>by simp [a52]
 | n+1,s,k+1,h=>by
  rw [a52,List.getElem?_cons_succ,b3y g n (s+1) k zo,show s+1+k=s+(k+1) by omega]
theorem a97 (g:Nat→Int):∀ n s,(a52 g n s).length=n
 | 0,_=>rfl
 | n+1,s=>by rw [a52,zh,a97 g n]
def b4W (c:UInt8):Prop:=(49≤c.toNat∧c.toNat≤56)∨∃ x:Int,1≤x∧x≤12∧pcT x=[c]
theorem b9J (g:Nat→Int):∀ n f e,e+n≤8→∀ c∈a0T g n f e,b4W c:=by
 have hcnt:∀ e,e≤8→∀ c∈a0g e,b4W c:=by
  intro e he c hc;unfold a0g at hc;split at hc
  ·cases hc
  ·rename_i h0;unfold dec at hc;rw [dif_pos zo] at hc;have:=zY.1 hc;have h2:∀ e,e≤8→e≠0→49≤(UInt8.ofNat (48+e)).toNat∧(UInt8.ofNat (48+e)).toNat≤56:=by
    intro e he h0;rcases (by omega:e=1∨e=2∨e=3∨e=4∨e=5∨e=6∨e=7∨e=8) with rfl|rfl|rfl|rfl|rfl|rfl|rfl|rfl<;>decide
   exact .inl (by rw [this];exact h2 e he h0)
 intro n
 induction n with
 | zero=>intro f e he c hc;exact hcnt e zo c hc
 | succ n ih =>
  intro f e he c hc;rw [a0T] at hc;split at hc
  ·exact ih (f+1) (e+1) zo c hc
  ·rename_i h0;rcases zr.1 hc with hc|hc
   ·rcases zr.1 hc with hc|hc
    ·exact hcnt e zo c hc
    ·refine .inr ⟨g f,zo,zo,?_⟩;have h1:1≤g f:=by omega
     have h2:g f≤12:=by omega
     generalize g f=x at *;rcases (by omega:x=1∨x=2∨x=3∨x=4∨x=5∨x=6∨x=7∨x=8∨x=9∨x=10∨x=11∨x=12) with rfl|rfl|rfl|rfl|rfl|rfl|rfl|rfl|rfl|rfl|rfl|rfl<;>(have:=zY.1 hc;rw [this];rfl)
   ·exact ih (f+1) 0 zo c hc
end Ch
end
section
open Go Go.RowKit
open E
open Ch Bb
theorem I6 (t:Tx):∀ v∈J5 t,v.oneCell'=true:=by intro v hv;simp [J5] at hv;subst hv;rfl
theorem a98 {t:Tx} {i:Nat} (hi:i<t.length):(tx t).get! (i:Int).toNat=t[i]:=by
 show t.toArray[i]! = t[i];rw [getElem!_pos t.toArray i (by simpa using hi)];simp
theorem b73 (t:Int) (ht:t=0∨t=1) (w:World):Calls G.P 192 #[m7 (a8n t)] w (E8 (.int .i8 (t+1)) w):=by
 rcases ht with rfl|rfl
 ·rw [show a8n 0=[119] from rfl];refine zN func192 ?_;refine zR ?_;first|(refine E.A0 rfl ?_;refine zR ?_)|skip
  exact ⟨rfl,rfl⟩
 ·rw [show a8n 1=[98] from rfl];refine zN func192 ?_;refine zR ?_;first|(refine E.o9 zd ?_;refine zR ?_)|skip
  first|(refine E.A0 rfl ?_;refine zR ?_)|skip
  exact ⟨rfl,rfl⟩
theorem b4X (c:UInt8) (s:Tx) (i:Nat) (hi:i<s.length):(s.take (i+1)).count c=(s.take i).count c+(if s[i]=c then 1 else 0):=by
 rw [zx hi,List.count_append,List.count_singleton];by_cases h:s[i]=c
 ·simp [h]
 ·simp [h]
theorem b74 (c:UInt8) (s:Tx) (hs:s.length≤100000) (w:World):Calls G.P 239 #[m7 s,m7 [c]] w (E8 (.int .i64 (s.count c)) w):=by
 have h0:(tx [c]).size=1:=C5 _;have hsz:(tx s).size=s.length:=C5 _;refine zN func239 ?_;refine zR ?_;refine C1 (σ:=Nat) [5,6] 7 (fun i=>[(5,.int .i64 ((s.take i).count c)),(6,.int .i64 i)]) (fun i w'=>i≤s.length∧w'=w) (fun i=>s.length-i) zk 0 ⟨zo,rfl⟩ ⟨rfl,rfl,trivial⟩ ?_;rintro i j w2 ⟨hi,rfl⟩;have ni:=C4 (i:=i) zo;have hcl:(s.take i).count c≤i:=by have:=List.count_le_length (a:=c) (l:=s.take i);rw [yh] at this;omega
 have nc:=C4 (i:=(s.take i).count c) zo;refine zR ?_;rw [h0,hsz];rw [show ((1:Nat):Int)=1 from rfl,ni];apply E.d7<;>intro h
 ·have hi2:i<s.length:=by omega
  clear h;have htk:=b4X c s i hi2;refine zR ?_;rw [h0,show ((1:Nat):Int)=1 from rfl,ni];refine a1m [s[i]] rfl rfl rfl rfl zo zo zo ?_ ?_
  ·rw [show ((i+1:Nat):Int).toNat-(i:Int).toNat=1 by omega,zg];exact c5E hi2
  refine zR ?_;apply E.d7<;>intro h
  ·have e:=Q0.1 h;injection e with e;rw [zM e] at htk;refine zR ?_;rw [h0,show ((1:Nat):Int)=1 from rfl];exact ⟨i+1,⟨d9 (by rw [nc,htk]),d9 ni,trivial⟩,⟨zo,rfl⟩,zo⟩
  ·have e:¬ s[i]=c:=fun e=>h (by rw [e])
   rw [zJ e] at htk;refine zR ?_;exact ⟨i+1,⟨d9 zo,d9 ni,trivial⟩,⟨zo,rfl⟩,zo⟩
 ·have e:i=s.length:=by omega
  subst e;rw [yf];refine zR ?_;exact ⟨rfl,rfl⟩
theorem a2q (i:Nat) (hi:i<64):v8 (i:Int)++B6 (i:Int)=[UInt8.ofNat (97+i%8),UInt8.ofNat (49+i/8)]∧(UInt8.ofNat (97+i%8)).toNat=97+i%8∧(UInt8.ofNat (49+i/8)).toNat=49+i/8:=by
 refine ⟨?_,?_,?_⟩
 ·unfold v8 B6;rw [show ((i:Int)%8).toNat=i%8 by omega,show ((i:Int)/8).toNat=i/8 by omega];rfl
 ·rw [UInt8.toNat_ofNat'];omega
 ·rw [UInt8.toNat_ofNat'];omega
theorem a9Y (i:Nat) (hi:i<64) (w:World):Calls G.P 240 #[m7 (v8 (i:Int)++B6 (i:Int))] w (N0 (.int .i8 i) w):=by
 obtain ⟨e0,e1,e2⟩:=a2q i hi;rw [e0];clear e0;generalize UInt8.ofNat (97+i%8)=a at *;generalize UInt8.ofNat (49+i/8)=b at *;have hsz:(tx [a,b]).size=2:=rfl;have g0:(tx [a,b]).get! (0:Int).toNat=a:=rfl;have g1:(tx [a,b]).get! (1:Int).toNat=b:=rfl;have c1:IntKind.i8.wrap (IntKind.u8.wrap ((a.toNat:Int)-97))=((i%8:Nat):Int):=by rw [e1,b2K zo zo,a0d zo zo];omega
 have c2:IntKind.i8.wrap (IntKind.u8.wrap ((b.toNat:Int)-49))=((i/8:Nat):Int):=by rw [e2,b2K zo zo,a0d zo zo];omega
 have hns:=fun w=>b1K (i%8) (i/8) zo zo w;rw [show 8*(i/8)+i%8=i by omega] at hns
 refine zN func240 ?_;refine zR ?_;rw [hsz];have h1:¬ ((((tx [a,b]).get! (Int.toNat 0)).toNat:Int)<97):=by rw [g0,e1];omega
 have h2:¬ ((104:Int)<(((tx [a,b]).get! (Int.toNat 0)).toNat:Int)):=by rw [g0,e1];omega
 have h3:¬ ((((tx [a,b]).get! (Int.toNat 1)).toNat:Int)<49):=by rw [g1,e2];omega
 have h4:¬ ((56:Int)<(((tx [a,b]).get! (Int.toNat 1)).toNat:Int)):=by rw [g1,e2];omega
 repeat (first|(refine E.o9 h1 ?_;refine zR ?_)|(refine E.o9 h2 ?_;refine zR ?_)|(refine E.o9 h3 ?_;refine zR ?_)|(refine E.o9 h4 ?_;refine zR ?_))
 clear h1 h2 h3 h4;refine zK 10 ?_;rw [← g0] at c1;rw [← g1] at c2;refine zR ?_;rw [c1,c2];refine o4 _ (fun w _=>hns w) (zR ?_);intro w1 hw1;refine zR ?_;exact ⟨rfl,hw1⟩
theorem mFP:a2p 272 199 194 .i8 .i8:=a90 zk
theorem a99:∀ {r1:List En} {x:En} {r2:List En},((r1++x::r2).map (·.k)).Nodup→a6q x.k (r1++x::r2)=r1++r2
 | [],x,r2,_=>by rw [yP,a6q,zM rfl];rfl
 | y::r1,x,r2,h=>by
  rw [yX,yU,List.nodup_cons] at h;have hne:¬ x.k=y.k:=fun e=>h.1 (by rw [← e];exact xU.2 ⟨x,by simp,rfl⟩)
  rw [yX,a6q,zJ hne,a99 h.2];rfl
theorem a29 {β:Type} (f:En→β) {r1:List En} {x:En} {r2:List En} (h:((r1++x::r2).map f).Nodup):((r1++r2).map f).Nodup :=
 (List.Sublist.map f (List.Sublist.append (List.Sublist.refl r1) (List.sublist_cons_self x r2))).nodup h
theorem Itr.del {qk qe:IntKind} {w w':World} {b r c:Nat} {r1 r2:List En} {x:En} (h:Itr qk qe w b r (r1++x::r2) c (r1++r2)) (hk:((r1++x::r2).map (·.k)).Nodup) (u:Upd w b (mpO qk qe (a6q x.k (r1++x::r2)) c) w'):Itr qk qe w' b r (r1++r2) c (r1++r2):=by
 obtain ⟨hb,⟨seen,s,c0,hr,hrem,hold,h1,h2⟩,nd⟩:=h;have hne:r≠b:=fun e=>by rw [e,hb] at hr;cases hr
 rw [a99 hk] at u;refine ⟨u.at_,⟨seen,s,c0,(Tn.upd u).blk hr hne,?_,fun y hy=>hold y ?_,h1,h2⟩,a29 _ nd⟩
 ·have hin:∀ y∈r1++r2,(!seen.contains y.n)=true:=fun y hy=>by
   rw [hrem] at hy;exact (xg.1 hy).2
  exact (List.filter_eq_self.2 hin).symm
 ·rcases zr.1 hy with hy|hy
  ·exact yS _ hy
  ·exact List.mem_append_right _ (ye _ hy)
theorem b75 {b c:Nat} {l:List En} (hn:(l.map (·.n)).Nodup) (hc:∀ x∈l,x.n<c) (hk:(l.map (·.k)).Nodup) (w:World) (hb:w.heap[b]?=some (mpO .i8 .i8 l c)) :
  Calls G.P 235 #[.map (some b)] w (fun r w'=>r = .returned (.tuple #[])∧w'.heap[b]?=some (mpO .i8 .i8 [] c)∧Tn b w w'):=by
 have hbs:=A7 hb;refine zN func235 ?_;refine zR ?_;refine a3b mSP rfl hb hn hc fun w1 c1 s1 hI=>zR ?_;refine C1 (σ:=List En) [2] 5 (fun _=>[]) (fun rem w'=>Tn b w w'∧(rem.map (·.k)).Nodup∧Itr .i8 .i8 w' b w.heap.size rem c rem) (fun rem=>rem.length) zk l ⟨Tn.cl c1,hk,hI⟩ trivial ?_;rintro rem j w2 ⟨n2,hk2,hI2⟩;refine zR ?_;refine a4e rfl hI2 (fun e=>?_) (fun r1 x r2 w3 e n3 hI3 hE=>?_)
 ·refine zR ?_;subst e;exact ⟨rfl,hI2.hb,n2⟩
 ·subst e;refine zR ?_;refine a3c rfl hE (zR ?_);refine b6t mSP rfl rfl hE.hb fun w4 u4=>zR ?_;refine ⟨r1++r2,trivial,⟨?_,a29 _ hk2,Itr.del hI3 hk2 u4⟩,by simp⟩
  exact (n2.skip n3 (yO _)).trans (Tn.upd u4)
theorem b0Q {b c:Nat} {l:List En} (hn:(l.map (·.n)).Nodup) (hc:∀ x∈l,x.n<c) (hk:(l.map (·.k)).Nodup) (w:World) (hb:w.heap[b]?=some (mpO .i8 .i8 l c)) :
  Calls G.P 236 #[.map (some b)] w (fun r w'=>r = .returned (.tuple #[])∧w'.heap[b]?=some (mpO .i8 .i8 [] c)∧Tn b w w'):=by
 have hbs:=A7 hb;refine zN func236 ?_;refine zR ?_;refine a3b mFP rfl hb hn hc fun w1 c1 s1 hI=>zR ?_;refine C1 (σ:=List En) [2] 5 (fun _=>[]) (fun rem w'=>Tn b w w'∧(rem.map (·.k)).Nodup∧Itr .i8 .i8 w' b w.heap.size rem c rem) (fun rem=>rem.length) zk l ⟨Tn.cl c1,hk,hI⟩ trivial ?_;rintro rem j w2 ⟨n2,hk2,hI2⟩;refine zR ?_;refine a4e rfl hI2 (fun e=>?_) (fun r1 x r2 w3 e n3 hI3 hE=>?_)
 ·refine zR ?_;subst e;exact ⟨rfl,hI2.hb,n2⟩
 ·subst e;refine zR ?_;refine a3c rfl hE (zR ?_);refine b6t mFP rfl rfl hE.hb fun w4 u4=>zR ?_;refine ⟨r1++r2,trivial,⟨?_,a29 _ hk2,Itr.del hI3 hk2 u4⟩,by simp⟩
  exact (n2.skip n3 (yO _)).trans (Tn.upd u4)
theorem a9A {c:UInt8} (h:b4W c):(49≤c.toNat∧c.toNat≤56∧b97 c=List.replicate (c.toNat-48) 0)∨(¬ (49≤c.toNat∧c.toNat≤56)∧c.toNat<128∧b97 c=[a38 c.toNat]∧a38 c.toNat≠0∧0≤a38 c.toNat∧a38 c.toNat≤12):=by
 rcases h with h|⟨x,h0,h1,h⟩
 ·refine .inl ⟨h.1,h.2,?_⟩;unfold b97;rw [zM ⟨UInt8.le_iff_toNat_le.2 h.1,UInt8.le_iff_toNat_le.2 h.2⟩]
 ·refine .inr ?_;rcases (by omega:x=1∨x=2∨x=3∨x=4∨x=5∨x=6∨x=7∨x=8∨x=9∨x=10∨x=11∨x=12) with rfl|rfl|rfl|rfl|rfl|rfl|rfl|rfl|rfl|rfl|rfl|rfl <;>
   (injection h with h _;subst h;exact ⟨zd,zd,zd,zd,zd,zd⟩)
theorem b76 (t:Tx) (i:Nat) (hi:i<t.length):J8 (t.take (i+1))=J8 (t.take i)++b97 t[i]:=by
 rw [zx hi,a1w];simp [J8]
set_option maxHeartbeats 1000000 in
theorem b4Y {g:Nat→Int} {t:Tx} (ht:J8 t=a52 g 8 0) (hc:∀ c∈t,b4W c) (hl:t.length≤100) {fb c0:Nat} (w:World) (hT:C6 w) (hb:w.heap[fb]?=some (mpO .i8 .i8 [] c0)) :
  Calls G.P 237 #[m7 t,.map (some fb)] w (fun r w'=>r = .returned .nilIface∧w'.heap[fb]?=some (mpO .i8 .i8 (enG g c0 8) (c0+(enG g c0 8).length))∧Tn fb w w'):=by
 have hsz:(tx t).size=t.length:=C5 _;have hpre:∀ i,J8 t=J8 (t.take i)++J8 (t.drop i):=fun i=>by rw [← a1w,x8]
 have hn8:∀ i,(J8 (t.take i)).length≤8:=fun i=>by
  have:=yM List.length (hpre i);rw [ht,a97,zF] at this;omega
 have hget:∀ i k (h:k<(J8 (t.take i)).length),(J8 (t.take i))[k]=g k:=fun i k h=>by
  have h1:=b3y g 8 0 k (by have:=hn8 i;omega)
  rw [← ht,hpre i,List.getElem?_append_left h,yu h,yZ] at h1;injection h1
 refine zN func237 ?_;refine zR ?_;rw [hsz];refine C1 (σ:=Nat) [4,5,6,7,8,11] 12 (fun i=>[(5,.int .i64 ((J8 (t.take i)).length:Nat)),(11,.int .i64 i)]) (fun i w'=>i≤t.length∧Tn fb w w'∧w'.heap[fb]?=some (mpO .i8 .i8 (enG g c0 (J8 (t.take i)).length) (c0+(enG g c0 (J8 (t.take i)).length).length))) (fun i=>t.length-i) zk 0
  ⟨xJ _,Tn.refl _ _,hb⟩ ⟨rfl,rfl,trivial⟩ ?_
 rintro i j w2 ⟨hi,n2,hm⟩;have ni:=C4 (i:=i) zo;refine zR ?_;apply E.d7<;>intro h
 ·have hi2:i<t.length:=by omega
  clear h;have htk:=b76 t i hi2;have hx:=a9A (hc _ (yQ hi2));have hgt:(tx t).get! (i:Int).toNat=t[i]:=a98 hi2;have h8:=hn8 (i+1);have hg:=hget (i+1);have h80:=hn8 i;refine zR ?_;refine E.A1 (F6.2 ⟨zo,by rw [hsz];omega⟩) (zR ?_)
  rw [hgt];generalize t[i]=c at *;rcases hx with ⟨d0,d1,hx⟩|⟨hd,hc8,hx,hx0,hx1,hx2⟩
  ·have hk:c.toNat-48+48=c.toNat:=by omega
   have e8:IntKind.u8.wrap ((c.toNat:Int)-48)=((c.toNat-48:Nat):Int):=by rw [b2K zo zo];omega
   have e64:IntKind.i64.wrap ((c.toNat-48:Nat):Int)=((c.toNat-48:Nat):Int):=g8 zo zo;rw [hx] at htk;have hlen:(J8 (t.take (i+1))).length=(J8 (t.take i)).length+(c.toNat-48):=by rw [htk,zF,List.length_replicate]
   have es:IntKind.i64.wrap (((J8 (t.take i)).length:Int)+((c.toNat-48:Nat):Int))=((J8 (t.take (i+1))).length:Int):=by rw [hlen,g8 zo zo];push_cast;rfl
   have hskip:=b3u g c0 (J8 (t.take i)).length (c.toNat-48) fun k h1 h2=>by
    have h3:=hg k zo;rw [← h3];have h4:(J8 (t.take (i+1)))[k]'zo=(J8 (t.take i)++List.replicate (c.toNat-48) 0)[k]'(by rw [← htk];omega):=by congr 1
    rw [h4,wZ h1,List.getElem_replicate]
   have t1:(49:Int)≤(c.toNat:Int):=by omega
   have t2:(c.toNat:Int)≤56:=by omega
   (repeat (first|(refine E.A0 t1 ?_;refine zR ?_)|(refine E.A0 t2 ?_;refine zR ?_)))
   rw [e8,e64,es];exact ⟨i+1,⟨rfl,d9 ni,trivial⟩,⟨zo,n2,by rw [hm,hlen,hskip]⟩,zo⟩
  ·rw [hx] at htk;have hlen:(J8 (t.take (i+1))).length=(J8 (t.take i)).length+1:=by rw [htk,zF];rfl
   have hgn:g (J8 (t.take i)).length=a38 c.toNat:=by
    have h3:=hg (J8 (t.take i)).length zo;rw [← h3];have h4:(J8 (t.take (i+1)))[(J8 (t.take i)).length]'zo=(J8 (t.take i)++[a38 c.toNat])[(J8 (t.take i)).length]'(by simp):=by congr 1
    rw [h4,wZ (yO _)];simp
   have hnew:=b6v g c0 (J8 (t.take i)).length;have hsu:enG g c0 ((J8 (t.take i)).length+1)=enG g c0 (J8 (t.take i)).length++[⟨((J8 (t.take i)).length:Nat),a38 c.toNat,c0+(enG g c0 (J8 (t.take i)).length).length⟩]:=by
    rw [enG,hgn,zJ hx0]
   rw [← hlen] at hsu;have e8:IntKind.i8.wrap ((J8 (t.take i)).length:Int)=((J8 (t.take i)).length:Int):=a0d zo zo;have es:IntKind.i64.wrap (((J8 (t.take i)).length:Int)+1)=((J8 (t.take (i+1))).length:Int):=by rw [hlen,g8 zo zo];push_cast;rfl
   have hT2:C6 w2:=hT.fr (Fr.tn (S:=[fb]) n2 (.inl (by simp))) fun k hk cs u fz hh=>by
    rw [zY.1 hk,hb] at hh;cases hh
   have fin:∀ w3,Upd w2 fb (mpO .i8 .i8 (a91 (enG g c0 (J8 (t.take i)).length) ((J8 (t.take i)).length:Int) (a38 c.toNat) (c0+(enG g c0 (J8 (t.take i)).length).length)) (b4T (enG g c0 (J8 (t.take i)).length) ((J8 (t.take i)).length:Int) (c0+(enG g c0 (J8 (t.take i)).length).length))) w3 →
     i+1≤t.length∧Tn fb w w3∧w3.heap[fb]?=some (mpO .i8 .i8 (enG g c0 (J8 (t.take (i+1))).length) (c0+(enG g c0 (J8 (t.take (i+1))).length).length)):=fun w3 u3=>by
    obtain ⟨q1,q2⟩:=b3s (v:=a38 c.toNat) (c:=c0+(enG g c0 (J8 (t.take i)).length).length) hnew;refine ⟨hi2,n2.trans (Tn.upd u3),?_⟩;rw [u3.at_,q1,q2,hsu,zF];rfl
   clear hsu hgn hnew hg htk hlen;have ldp:m9 G.P w2 194 ⟨8,c.toNat,none⟩ (.int .i8 (a38 c.toNat)):=L9 hT2.fen (i:=c.toNat) hc8 rfl rfl;by_cases t1:(49:Int)≤(c.toNat:Int)
   ·have t2:¬ (c.toNat:Int)≤56:=by omega
    (repeat (first|(refine E.A0 t1 ?_;refine zR ?_)|(refine E.o9 t2 ?_;refine zR ?_)))
    refine zC ?_;refine zR ?_;refine b7 _ ldp (zR ?_);refine E.o9 hx0 (zR ?_);rw [e8];refine a6s mFP rfl rfl rfl hm fun w3 u3=>zR ?_;rw [es];exact ⟨i+1,⟨rfl,d9 ni,trivial⟩,fin w3 u3,zo⟩
   ·(repeat (first|(refine E.o9 t1 ?_;refine zR ?_)))
    refine zC ?_;refine zR ?_;refine b7 _ ldp (zR ?_);refine E.o9 hx0 (zR ?_);rw [e8];refine a6s mFP rfl rfl rfl hm fun w3 u3=>zR ?_;rw [es];exact ⟨i+1,⟨rfl,d9 ni,trivial⟩,fin w3 u3,zo⟩
 ·have e:i=t.length:=by omega
  subst e;rw [yf] at hm;have h8:(J8 t).length=8:=by rw [ht,a97]
  rw [h8] at hm;rw [yf,h8];refine zR ?_;exact ⟨rfl,hm,n2⟩
def b6e (f:Nat→Bool):Nat→Nat
 | 0=>0
 | n+1=>bif f n then Ch.shl (b6e f n) 1 ||| 1 else Ch.shl (b6e f n) 1
instance accB_ok (f:Nat→Bool) (n:Nat):J6 (b6e f n):=⟨by
 cases n with
 | zero=>show (0:Nat)<2^64;decide
 | succ n =>
  rw [b6e];cases f n
  ·exact Ch.a8M _ _
  ·exact b8X (Ch.a8M _ _) zd⟩
theorem b9K (a j:Nat):(Ch.shl a 1).testBit j=(decide (j<64)&&(decide (1≤j)&&a.testBit (j-1))):=by
 unfold Ch.shl;rw [Nat.testBit_mod_two_pow,Nat.testBit_shiftLeft]
theorem c2t (k:Nat):(1:Nat).testBit (k+1)=false:=by
 rw [Nat.testBit_succ];simp
theorem b3z (f:Nat→Bool):∀ n,n≤64→∀ j,(b6e f n).testBit j=(decide (j<n)&&f (n-1-j))
 | 0,_,j=>by simp [b6e]
 | n+1,hn,j=>by
  have ih:=b3z f n zo;have hs:(b6e f (n+1)).testBit j=((Ch.shl (b6e f n) 1).testBit j||(f n&&(1:Nat).testBit j)):=by
   rw [b6e];cases f n
   ·simp
   ·simp [yH]
  rw [hs,b9K];cases j with
  | zero=>simp
  | succ k =>
   rw [c2t,Bool.and_false,Bool.or_false,show k+1-1=k from rfl,ih k,show n+1-1-(k+1)=n-1-k by omega]
   by_cases hk:k<n
   ·rw [zX (show k+1<64 by omega),zX hk,zX (show k+1<n+1 by omega)];simp
   ·rw [zV hk,zV (show ¬ k+1<n+1 by omega)];simp
theorem b9L (f:Nat→Bool):b6e f 64=bb f:=b0q (accB_ok f 64).lt fun s hs=>by
 rw [b3z f 64 (yO _),zX (show 63-s<64 by omega),show 64-1-(63-s)=s by omega];rfl
def kn1 (K:Int) (i:Nat):Int:=if K<i then K else -1
theorem b6y {K:Int} {i:Nat} (h:K=i):kn1 K (i+1)=i:=by unfold kn1;rw [zM zo,h]
theorem a6v {K:Int} {i:Nat} (h:¬ K=i):kn1 K (i+1)=kn1 K i:=by
 unfold kn1;by_cases h2:K<i
 ·rw [zM h2,zM zo]
 ·rw [zJ h2,zJ zo]
def kb (S:MB) (a c:Int):MB:={ S with wk:=a,bk:=c }
instance kb_ok {S:MB} [h:S.Ok] {a c:Int}:(kb S a c).Ok:=⟨h.lt⟩
set_option maxHeartbeats 1000000 in
theorem b78 {p:g9} (hI:B7 p) {B:MB} [hO:B.Ok] (hA:B.Is (fun s=>sq p s)) (hz:∀ i,15≤i→B.f i=0) {b:Nat} (w:World) (hB:w.heap[b]?=some (.cells (J4 B) 237 (0,0))) :
  Calls G.P 277 #[.pointer (some ⟨b,0,none⟩),.pointer none] w (fun r w'=>r = .returned (.tuple #[])∧w'.heap[b]?=some (.cells (J4 (a1s p)) 237 (0,0))∧Tn b w w'):=by
 obtain ⟨a0,a1,a2,a3⟩:=hI.king 0 (.inl rfl);obtain ⟨b0,b1,b2,b3⟩:=hI.king 1 (.inr rfl);have hfin:J4 (kb B.sums (a2J p 0) (a2J p 1))=J4 (a1s p):=by
  congr 1;exact a6S (fun i=>b6c hI.pc hA hz i) rfl rfl
 have t0:∀ s:Nat,s<64→(B.f 0).testBit (63-s)=decide (a2J p 0=(s:Int)):=fun s hs=>by
  rw [hA 0 zd,a0L _ _ hs];refine yg.2 ⟨fun h=>(a3 s zo zo h).symm,fun h=>?_⟩;rw [← h];exact a2
 have t6:∀ s:Nat,s<64→(B.f 6).testBit (63-s)=decide (a2J p 1=(s:Int)):=fun s hs=>by
  rw [hA 6 zd,a0L _ _ hs];refine yg.2 ⟨fun h=>(b3 s zo zo h).symm,fun h=>?_⟩;rw [← h];exact b2
 have hne:a2J p 0≠a2J p 1:=fun e=>by rw [e,b2] at a2;exact absurd a2 zd
 generalize a2J p 0=K0 at *;generalize a2J p 1=K1 at *;rw [← hfin];clear hfin a2 a3 b2 b3;have eW:B.whites=B.f 0 ||| B.f 1 ||| B.f 2 ||| B.f 3 ||| B.f 4 ||| B.f 5:=rfl
 have eK:B.blacks=B.f 6 ||| B.f 7 ||| B.f 8 ||| B.f 9 ||| B.f 10 ||| B.f 11:=rfl
 have lW:J6 B.whites:=inferInstance;have lK:J6 B.blacks:=inferInstance;have eS:B.sums=((B.set 12 B.whites).set 13 B.blacks).set 14 (Bb.not (B.whites ||| B.blacks)):=rfl
 have s0:B.sums.f 0=B.f 0:=rfl;have s6:B.sums.f 6=B.f 6:=rfl;have hSO:B.sums.Ok:=inferInstance;rw [← s0] at t0;rw [← s6] at t6;clear s0 s6;refine zN func277 ?_;refine zR ?_;refine zK 30 ?_;refine zQ ?_;intro w1 c1;have hB1:=c1.blk hB;refine zR ?_;refine zK 30 ?_;clear hB;have hB:=hB1;refine zQ ?_;intro w2 c2;have hB2:=c2.blk hB1;have n2:Tn b w w2:=Tn.cl (c1.trans c2);clear hB hB1 c1 c2;rw [← eW,← eK];clear eW eK;generalize B.whites=W at *;generalize B.blacks=K at *;have hB:=hB2;refine zB ?_;refine a6V hB 12 zd _ (fun w3 u3=>?_);have n3:=n2.trans (Tn.upd u3);have hB:=u3.at_;refine zB ?_;refine a6V hB 13 zd _ (fun w4 u4=>?_);have n4:=n3.trans (Tn.upd u4);have hB:=u4.at_;refine zB ?_;refine a6V hB 14 zd _ (fun w5 u5=>?_);have n5:=n4.trans (Tn.upd u5);have hB:=u5.at_;rw [← eS] at hB;clear eS u3 u4 u5 n3 n4 n2 hB2 lW lK;generalize B.sums=S at *;refine zB ?_;refine V0 true (N2 rfl _) (zB ?_);refine c4e hB _ (fun w6 u6=>?_);have n6:=n5.trans (Tn.upd u6);have hB:=u6.at_;refine zB ?_;refine c4f hB _ (fun w7 u7=>?_);have n7:=n6.trans (Tn.upd u7);have hB7:w7.heap[b]?=some (.cells (J4 (kb S (kn1 K0 0) (kn1 K1 0))) 237 (0,0)):=by
  have e0:kn1 K0 0=-1:=zJ zo;have e1:kn1 K1 0=-1:=zJ zo;rw [e0,e1];exact u7.at_
 clear hB u6 u7 n5 n6;refine zR ?_;refine C1 (σ:=Nat) [7,8,92] 93 (fun i=>[(92,.int .i64 i)]) (fun i w'=>i≤64∧Tn b w w'∧w'.heap[b]?=some (.cells (J4 (kb S (kn1 K0 i) (kn1 K1 i))) 237 (0,0))) (fun i=>64-i) zk 0 ⟨zo,n7,hB7⟩ ⟨rfl,trivial⟩ ?_;rintro i j w8 ⟨hi,n8,hB⟩;have ni:=C4 (i:=i) zo;refine zR ?_;apply E.d7<;>intro h
 ·have hi2:i<64:=by omega
  clear h;have ei:IntKind.i8.wrap (i:Int)=(i:Int):=a0d zo zo;have h0:=t0 i hi2;have h6:=t6 i hi2;have o0:=fun w=>a2n (S.f 0) i hi2 w;have o6:=fun w=>a2n (S.f 6) i hi2 w;rw [h0] at o0;rw [h6] at o6;have ld0:m9 G.P w8 235 ⟨b,0,none⟩ (.int .u64 (S.f 0)):=Z8 hB 0 zd;have ld6:m9 G.P w8 235 ⟨b,6,none⟩ (.int .u64 (S.f 6)):=Z8 hB 6 zd;refine zR ?_;refine b7 _ ld0 (zR ?_);rw [ei];refine g7 (o0 _) (zR ?_);apply E.d7<;>intro h
  ·refine zR ?_;refine c4e hB _ (fun w9 u9=>zR ?_);refine ⟨i+1,⟨d9 ni,trivial⟩,⟨zo,n8.trans (Tn.upd u9),?_⟩,zo⟩;rw [b6y h,a6v (fun e=>hne (h.trans e.symm))];exact u9.at_
  ·have hn0:=h;clear h;refine zR ?_;refine b7 _ ld6 (zR ?_);refine g7 (o6 _) (zR ?_);apply E.d7<;>intro h
   ·refine zR ?_;refine c4f hB _ (fun w9 u9=>zR ?_);refine ⟨i+1,⟨d9 ni,trivial⟩,⟨zo,n8.trans (Tn.upd u9),?_⟩,zo⟩;rw [b6y h,a6v hn0];exact u9.at_
   ·refine zR ?_;refine ⟨i+1,⟨d9 ni,trivial⟩,⟨zo,n8,?_⟩,zo⟩;rw [a6v h,a6v hn0];exact hB
 ·have e:i=64:=by omega
  subst e;refine zR ?_;refine ⟨rfl,?_,n8⟩;have e0:kn1 K0 64=K0:=zM zo;have e1:kn1 K1 64=K1:=zM zo;rw [hB,e0,e1]
def bdI (p:g9) (i:Nat):MB:=⟨fun k=>if k<i then bbf (fun s=>sq p s) k else 0,0,0⟩
instance bdI_ok (p:g9) (i:Nat):(bdI p i).Ok:=⟨fun k=>by
 show (if k<i then _ else _)<_
 split
 ·exact a5w _ _
 ·decide⟩
theorem c2u (p:g9) (i:Nat):(bdI p i).set i (bbf (fun s=>sq p s) i)=bdI p (i+1):=by
 refine a6S (fun k=>?_) rfl rfl;show (if k=i then _ else if k<i then _ else _)=if k<i+1 then _ else _
 by_cases h:k=i
 ·subst h;rw [zM rfl,zM zo]
 ·rw [zJ h];by_cases h2:k<i
  ·rw [zM h2,zM zo]
  ·rw [zJ h2,zJ zo]
def nzO (x:Int):Option Int:=if x=0 then none else some x
theorem c48 (x y:Int) (hy:y≠0):(nzO x).isSome=true∧y=(nzO x).getD 0↔x=y:=by
 unfold nzO;by_cases h:x=0
 ·rw [zM h];constructor
  ·intro h;cases h.1
  ·intro e;exact absurd (h.symm.trans e).symm hy
 ·rw [zJ h];constructor
  ·intro h;exact h.2.symm
  ·intro e;exact ⟨rfl,e.symm⟩
set_option maxHeartbeats 1000000 in
theorem b4Z {p:g9} (hI:B7 p) {m c:Nat} {l:List En} (hl:∀ i:Nat,i<64→a7P l (i:Int)=nzO (sq p i)) (w:World) (hT:C6 w) (hm:w.heap[m]?=some (mpO .i8 .i8 l c)) :
  Calls G.P 238 #[.map (some m)] w (fun r w'=>Cl w w'∧∃ b,r = .returned (.pointer (some ⟨b,0,none⟩))∧w.heap.size≤b∧w'.heap[b]?=some (.cells (J4 (a1s p)) 237 (0,0))):=by
 obtain ⟨ga,oga,cp,ha1,ha2⟩:=hT.all;have hbd0:J4 (bdI p 0)=J4 ⟨fun _=>0,0,0⟩:=by congr 1
 refine zN func238 ?_;refine zR ?_;refine r7 (J4 ⟨fun _=>0,0,0⟩) zk (zR ?_);have ca:=Cl.alloc w (.cells (J4 ⟨fun _=>0,0,0⟩) 237);have na:=d8 w (.cells (J4 ⟨fun _=>0,0,0⟩) 237);generalize w.alloc (.cells (J4 ⟨fun _=>0,0,0⟩) 237)=w1 at *;rw [← hbd0] at na;clear hbd0;refine b7 _ (L9 (ha1.cl ca) (i:=0) zd rfl rfl) (zR ?_);refine C1 (σ:=Nat) [5,6,7,8,9,14] 15 (fun i=>[(14,.int .i64 i)]) (fun i w'=>i≤12∧Cl w w'∧w'.heap[w.heap.size]?=some (.cells (J4 (bdI p i)) 237 (0,0))) (fun i=>12-i) zk 0 ⟨zo,ca,na⟩ ⟨rfl,trivial⟩ ?_;rintro i j w2 ⟨hi,c2,hB⟩;have ni:=C4 (i:=i) zo;refine zR ?_;apply E.d7<;>intro h
 ·have hi2:i<12:=by omega
  clear h;refine zR ?_;refine zC ?_;refine zR ?_;refine b7 _ (a6R (ha2.cl c2) (i:=i) hi2 rfl rfl) (zR ?_);refine C1 (σ:=Nat) [6,7,8,9,18] 19 (fun k=>[(6,.int .u64 (b6e (fun s=>decide (sq p s=(i:Int)+1)) k:Nat)),(18,.int .i64 k)]) (fun k w'=>k≤64∧w'=w2) (fun k=>64-k) zk 0 ⟨zo,rfl⟩ ⟨rfl,rfl,trivial⟩ ?_;rintro k j2 w3 ⟨hk,rfl⟩;have nk:=C4 (i:=k) zo;refine zR ?_;apply E.d7<;>intro h
  ·have hk2:k<64:=by omega
   clear h;have ek:IntKind.i8.wrap (k:Int)=(k:Int):=a0d zo zo;have hX:J6 (b6e (fun s=>decide (sq p s=(i:Int)+1)) k):=inferInstance;have hXs:b6e (fun s=>decide (sq p s=(i:Int)+1)) (k+1)=bif decide (sq p k=(i:Int)+1) then Ch.shl (b6e (fun s=>decide (sq p s=(i:Int)+1)) k) 1 ||| 1 else Ch.shl (b6e (fun s=>decide (sq p s=(i:Int)+1)) k) 1:=rfl
   have hv:=c48 (sq p k) ((i:Int)+1) zo;rw [← hl k hk2] at hv;generalize b6e (fun s=>decide (sq p s=(i:Int)+1)) k=X at *;refine zS ?_;rw [ek];refine c2m mSP rfl rfl (c2.blk hm) ?_;have hs0:∀ x:Option Int,(x.isSome=true∧(i:Int)+1=x.getD 0↔sq p k=(i:Int)+1)→b6e (fun s=>decide (sq p s=(i:Int)+1)) (k+1)=if x.isSome=true∧(i:Int)+1=x.getD 0 then Ch.shl X 1 ||| 1 else Ch.shl X 1:=fun x hx=>by
    rw [hXs];by_cases e:sq p k=(i:Int)+1
    ·rw [zX e,zM (hx.2 e)];rfl
    ·rw [zV e,zJ (fun h=>e (hx.1 h))];rfl
   have hs:=hs0 _ hv;clear hs0 hv hXs;generalize a7P l (k:Int)=x at *;have hS:J6 (Ch.shl X 1):=inferInstance;generalize Ch.shl X 1=Y at *;cases x with
   | none =>
    rw [zJ (fun h=>by cases h.1)] at hs
    refine zR ?_;exact ⟨k+1,⟨by rw [hs];rfl,d9 nk,trivial⟩,⟨zo,rfl⟩,zo⟩
   | some y =>
    refine zR ?_;apply E.d7<;>intro h
    ·rw [zM ⟨rfl,h⟩] at hs;refine zR ?_;refine bOr (a:=Y) (b:=1) hS.lt zd (zR ?_);exact ⟨k+1,⟨by rw [hs];rfl,d9 nk,trivial⟩,⟨zo,rfl⟩,zo⟩
    ·rw [zJ (fun h2=>h h2.2)] at hs;refine zR ?_;exact ⟨k+1,⟨by rw [hs];rfl,d9 nk,trivial⟩,⟨zo,rfl⟩,zo⟩
  ·have e:k=64:=by omega
   subst e;have hset:=c2u p i;rw [b9L,show bb (fun s=>decide (sq p s=(i:Int)+1))=bbf (fun s=>sq p s) i from rfl];refine zR ?_;refine m8 (a6f (bdI p i) w.heap.size ((i:Int)+1) zo zo _ _ hB) ?_;rintro e w4 ⟨rfl,u4⟩;rw [show ((i:Int)+1).toNat-1=i by omega,hset] at u4
   refine ⟨_,rfl,zR ?_⟩;exact ⟨i+1,⟨d9 ni,trivial⟩,⟨zo,u4.cl c2 (yO _),u4.at_⟩,zo⟩
 ·have e:i=12:=by omega
  subst e;have hA:(bdI p 12).Is (fun s=>sq p s):=fun i hi=>zM hi;have hz:∀ i,15≤i→(bdI p 12).f i=0:=fun i hi=>zJ zo;refine zR ?_;refine m8 (b78 hI hA hz w2 hB) ?_;rintro e w3 ⟨rfl,hB3,n3⟩;refine ⟨_,rfl,zR ?_⟩;exact ⟨n3.toCl c2 (yO _),_,rfl,yO _,hB3⟩
def fmF (p:g9) (i:Nat) (k:Int):Option Int:=if 8*(8-(i:Int))≤k∧k<64 then nzO (sq p k) else none
def fmR (p:g9) (i:Nat) (rem:List En) (k:Int):Option Int :=
 if 8*(8-(i:Int))≤k∧k<64 then nzO (sq p k) else if 8*(7-(i:Int))≤k∧k<8*(8-(i:Int))∧(rem.all fun x=>!decide (x.k=k-8*(7-(i:Int))))=true then nzO (sq p k) else none
theorem b79 (p:g9) (i:Nat) (hi:i<8) (c0:Nat) (k:Int):fmF p i k=fmR p i (enG (fun f=>sq p (8*((7-i:Nat):Int)+f)) c0 8) k:=by
 unfold fmF fmR;by_cases h1:8*(8-(i:Int))≤k∧k<64
 ·rw [zM h1,zM h1]
 ·rw [zJ h1,zJ h1];by_cases h2:8*(7-(i:Int))≤k∧k<8*(8-(i:Int))∧((enG (fun f=>sq p (8*((7-i:Nat):Int)+f)) c0 8).all fun x=>!decide (x.k=k-8*(7-(i:Int))))=true
  ·rw [zM h2];obtain ⟨a,b,h3⟩:=h2;by_cases h0:sq p k=0
   ·rw [h0];rfl
   ·have e:8*((7-i:Nat):Int)+((k-8*(7-(i:Int))).toNat:Int)=k:=by omega
    obtain ⟨x,hx,hk⟩:=b6u (fun f=>sq p (8*((7-i:Nat):Int)+f)) c0 8 (k-8*(7-(i:Int))).toNat zo (by show sq p _≠0;rw [e];exact h0)
    have:=zl.1 h3 x hx;rw [zX (show x.k=k-8*(7-(i:Int)) by omega)] at this;cases this
  ·rw [zJ h2]
theorem c2v (p:g9) (i:Nat) (hi:i<8) (k:Int):fmR p i [] k=fmF p (i+1) k:=by
 unfold fmF fmR;by_cases h1:8*(8-(i:Int))≤k∧k<64
 ·rw [zM h1,zM ⟨zo,h1.2⟩]
 ·rw [zJ h1];by_cases h2:8*(7-(i:Int))≤k∧k<8*(8-(i:Int))
  ·rw [zM ⟨h2.1,h2.2,rfl⟩,zM ⟨zo,zo⟩]
  ·rw [zJ (fun h=>h2 ⟨h.1,h.2.1⟩),zJ zo]
theorem b9M {p:g9} {i:Nat} (hi:i<8) {r1 r2:List En} {x:En} (hk:((r1++x::r2).map (·.k)).Nodup) {f:Nat} (hf:f<8) (ex:x.k=(f:Int)) (ev:x.v=sq p (8*((7-i:Nat):Int)+f)) (h0:x.v≠0) (k:Int) :
  (if k=((8*(7-i)+f:Nat):Int) then some x.v else fmR p i (r1++x::r2) k)=fmR p i (r1++r2) k:=by
 by_cases e:k=((8*(7-i)+f:Nat):Int)
 ·rw [zM e];unfold fmR;rw [zJ zo,zM]
  ·have e2:8*((7-i:Nat):Int)+f=k:=by omega
   rw [e2] at ev;unfold nzO;rw [zJ (by rw [← ev];exact h0),ev]
  ·refine ⟨zo,zo,zl.2 fun y hy=>?_⟩;rw [List.map_append,yU,List.nodup_append] at hk;obtain ⟨_,k2,k3⟩:=hk;rw [List.nodup_cons] at k2;have hne:y.k≠x.k:=by
    rcases zr.1 hy with hy|hy
    ·exact k3 y.k (xU.2 ⟨y,hy,rfl⟩) x.k (yc ..)
    ·exact fun e=>k2.1 (by rw [← e];exact xU.2 ⟨y,hy,rfl⟩)
   rw [zV (show ¬ y.k=k-8*(7-(i:Int)) by omega)];rfl
 ·rw [zJ e];unfold fmR;have:((r1++x::r2).all fun x=>!decide (x.k=k-8*(7-(i:Int))))=((r1++r2).all fun x=>!decide (x.k=k-8*(7-(i:Int)))):=by
   rw [List.all_append,List.all_append,List.all_cons,zV (show ¬ x.k=k-8*(7-(i:Int)) by omega)];rfl
  rw [this]
theorem c5R:∃ z,(G.P.info? 273).bind (·.zero)=some z∧z.cells.size=8:=a0m zk
def a7e (w:World) (A:Nat) (rs:List Tx):Prop:=∃ cs,w.heap[A]?=some (.cells cs 273 (0,0))∧cs.size=8∧∀ k (h:k<rs.length),cs[k]?=some (m7 rs[k])
theorem a7e.put {w w':World} {A:Nat} {rs:List Tx} {t:Tx} {cs:Array Value} (hs:cs.size=8) (hr:∀ k (h:k<rs.length),cs[k]?=some (m7 rs[k])) (hl:rs.length<8) (u:Upd w A (.cells (J3 cs rs.length [m7 t]) 273 (0,0)) w'):a7e w' A (rs++[t]):=by
 refine ⟨_,u.at_,by rw [F8,hs],fun k h=>?_⟩
 rw [zF,List.length_singleton] at h;rw [O4 _ _ _ _ (by rw [hs];exact hl)]
 simp only [List.length_singleton];by_cases e:k=rs.length
 ·subst e;rw [zM zo,wZ (yO _)];simp
 ·rw [zJ zo,List.getElem_append_left zo];exact hr k zo
set_option maxHeartbeats 2000000 in
theorem b5a {p:g9} (hI:B7 p) (w:World) (hT:C6 w) :
  Calls G.P 191 #[m7 (a2U p 8)] w (fun r w'=>Cl w w'∧∃ b,r = .returned (.tuple #[.pointer (some ⟨b,0,none⟩),.nilIface])∧w.heap.size≤b∧w'.heap[b]?=some (.cells (J4 (a1s p)) 237 (0,0))):=by
 have hsz:(tx (a2U p 8)).size=(a2U p 8).length:=C5 _;have hsp:=a96 p 7;have hlen:=a0z p 8;have hrl:=b0O p 8;generalize hT8:a2U p 8=T at *;refine zN func191 ?_;refine zR ?_;refine a94 mSP rfl ?_;have ca:=Cl.alloc w (.map #[] 0);have na:(w.alloc (.map #[] 0)).heap[w.heap.size]?=some (mpO .i8 .i8 [] 0):=d8 w (.map #[] 0);have sa:=C0 w (.map #[] 0);generalize w.alloc (.map #[] 0)=w1 at *;refine zR ?_;refine a94 mFP rfl ?_;have cb:=ca.trans (Cl.alloc w1 (.map #[] 0));have nM:=(Cl.alloc w1 (.map #[] 0)).blk na;have nF:(w1.alloc (.map #[] 0)).heap[w1.heap.size]?=some (mpO .i8 .i8 [] 0):=d8 w1 (.map #[] 0);have sb:=C0 w1 (.map #[] 0);generalize w1.alloc (.map #[] 0)=w2 at *;refine zR ?_;obtain ⟨z,hz,hzs⟩:=c5R;refine s7 z hz ?_;have cc:=cb.trans (Cl.alloc w2 (.cells z.cells 273));have nM:=(Cl.alloc w2 (.cells z.cells 273)).blk nM;have nF:=(Cl.alloc w2 (.cells z.cells 273)).blk nF;have nA:=d8 w2 (.cells z.cells 273);have sc:=C0 w2 (.cells z.cells 273);generalize w2.alloc (.cells z.cells 273)=w3 at *;obtain ⟨M,hM⟩:∃ M,M=w.heap.size:=⟨_,rfl⟩;obtain ⟨F,hF⟩:∃ F,F=w1.heap.size:=⟨_,rfl⟩;obtain ⟨A,hA⟩:∃ A,A=w2.heap.size:=⟨_,rfl⟩;rw [← hM] at nM ⊢;rw [← hF] at nF ⊢;rw [← hA] at nA ⊢;have o1:M<F:=by omega
 have o2:F<A:=by omega
 refine zR ?_;refine m8 (b75 (l:=[]) List.nodup_nil (fun x hx=>by cases hx) List.nodup_nil w3 nM) ?_
 rintro e w4 ⟨rfl,nM4,n4⟩;refine ⟨_,rfl,?_⟩;have c4:=n4.toCl cc zo;have nF4:=n4.blk nF zo;have nA4:=n4.blk nA zo;refine zR ?_;refine m8 (b0Q (l:=[]) List.nodup_nil (fun x hx=>by cases hx) List.nodup_nil w4 nF4) ?_
 rintro e w5 ⟨rfl,nF5,n5⟩;refine ⟨_,rfl,?_⟩;have c5:=n5.toCl c4 zo;have nM5:=n5.blk nM4 zo;have nA5:=n5.blk nA4 zo;clear c4 nF4 nA4 n4 nM4 cc nM nF nA n5;have hch:∀ {pre r:Tx} {c:UInt8},T=pre++c::r→(tx T).get! ((pre.length:Nat):Int).toNat=c:=fun {pre r c} e=>by
  have hi:pre.length<T.length:=by rw [e];simp
  rw [a98 hi];have:T[pre.length]?=some c:=by rw [e];simp
  rw [yu hi] at this;injection this
 have hA0:a7e w5 A []:=⟨z.cells,nA5,hzs,fun k h=>absurd h (Nat.not_lt_zero _)⟩;clear nA5;have hlen:T.length≤1000:=by omega
 refine zR ?_;rw [hsz];refine C1 (σ:=Tx×List Tx×Tx×Tx) [2,3,7,8,9,23] 24 (fun s=>[(7,.int .i64 (s.2.1.length:Nat)),(8,.int .i64 (s.1.length:Nat)),(23,.int .i64 ((s.1.length+s.2.2.1.length:Nat):Int))])
  (fun s w'=>Cl w w'∧T=s.1++s.2.2.1++s.2.2.2∧s.2.1++a2L 47 s.2.2.1 s.2.2.2=a6u p 8∧a7e w' A s.2.1∧w'.heap[M]?=some (mpO .i8 .i8 [] 0)∧w'.heap[F]?=some (mpO .i8 .i8 [] 0)) (fun s=>s.2.2.2.length) zk
  ([],[],[],T) ⟨c5,rfl,by rw [yP];exact hsp,hA0,nM5,nF5⟩ ⟨rfl,rfl,rfl,trivial⟩ ?_
 clear nM5 nF5 hA0 c5;rintro ⟨pre,rs,cur,rest⟩ j w6 ⟨c6,eT,hrs,⟨cs,hAc,hcs,hcr⟩,nM6,nF6⟩;simp only at c6 eT hrs hcs hcr nM6 nF6 ⊢;have eTl:=yM List.length eT;simp only [zF] at eTl;cases rest with
 | cons ch rest =>
  simp only [zh] at eTl;have ni:=C4 (i:=pre.length+cur.length) zo;have hg:=hch (pre:=pre++cur) (r:=rest) (c:=ch) eT;rw [zF] at hg;rw [a2L] at hrs;refine zR ?_;refine E.A0 zo (zR ?_);rw [hsz];refine zC ?_;refine zR ?_;rw [hg];apply E.d7<;>intro h
  ·have e47:ch=47:=by
    have h:(ch.toNat:Int)=47:=h;have h2:ch.toNat=(47:UInt8).toNat:=by show ch.toNat=47;omega
    exact UInt8.toNat_inj.1 h2
   clear h;rw [zM e47] at hrs;have hl8:=yM List.length hrs;rw [hrl,zF,zh] at hl8;have hpos:=b3x (c:=47) (s:=rest) (cur:=[]);have nr:=C4 (i:=rs.length) zo;have hoff:U0 0 ((rs.length:Nat):Int).toNat 1=rs.length:=by rw [s8,zg];omega
   refine zR ?_;refine E.o9 zo (zR ?_);refine a1m (l:=T) cur rfl rfl rfl rfl zo zo zo ?_ ?_
   ·rw [eT,zg,zg,yJ,List.drop_left,show pre.length+cur.length-pre.length=cur.length by omega,List.take_left]
   refine zR ?_;refine zC ?_;refine zR ?_;refine K2 hAc [m7 cur] rfl zk rfl (by intro v hv;simp at hv;subst hv;rfl) (by rw [hcs,hoff];show rs.length+1≤8;omega) fun w7 u7=>?_
   rw [hoff] at u7;refine zR ?_;have e1:(pre++cur++[47]).length=pre.length+cur.length+1:=by rw [zF,zF];rfl
   refine ⟨(pre++cur++[47],rs++[cur],[],rest),⟨?_,?_,?_,trivial⟩,⟨u7.cl c6 zo,by rw [eT,e47];simp,by rw [← hrs];simp,a7e.put hcs hcr zo u7,(Tn.upd u7).blk nM6 zo,(Tn.upd u7).blk nF6 zo⟩,by simp⟩
   ·exact d9 (by rw [nr,zF];rfl)
   ·exact d9 (by rw [ni,e1])
   ·exact d9 (by rw [ni,e1];rfl)
  ·have n47:¬ ch=47:=fun e=>h (by rw [e];rfl)
   clear h;rw [zJ n47] at hrs;refine zR ?_;refine ⟨(pre,rs,cur++[ch],rest),⟨rfl,rfl,?_,trivial⟩,⟨c6,by rw [eT];simp,hrs,⟨cs,hAc,hcs,hcr⟩,nM6,nF6⟩,by simp⟩
   exact d9 (by rw [ni,zF];rfl)
 | nil =>
  have hrs:rs++[cur]=a6u p 8:=hrs;have hl8:=yM List.length hrs;rw [hrl,zF,List.length_singleton] at hl8;have hr7:rs.length=7:=by omega
  have hcur:cur=a4f p 0:=by
   have h7:=a7d p 8 7 zo;rw [← hrs,List.getElem?_append_right zo,hr7] at h7;simpa using h7
  have hne:cur≠[]:=fun e=>by
   have:=b1V hI.pc 0;rw [← hcur,e] at this;cases this
  have hcl:=List.length_pos_iff.2 hne;simp only [za] at eTl;have hoff:U0 0 ((rs.length:Nat):Int).toNat 1=rs.length:=by rw [s8,zg];omega
  refine zR ?_;refine E.o9 zo (zR ?_);rw [hsz];refine E.A0 zo (zR ?_);refine E.o9 zo (zR ?_);refine a9q (l:=T) cur rfl rfl rfl zo zo (by rw [eT,zg,zn,List.drop_left]) (zR ?_)
  refine zC ?_;refine zR ?_;refine K2 hAc [m7 cur] rfl zk rfl (by intro v hv;simp at hv;subst hv;rfl) (by rw [hcs,hoff];show rs.length+1≤8;omega) fun w7 u7=>?_
  rw [hoff] at u7;have c7:=u7.cl c6 zo;have hR:=a7e.put hcs hcr zo u7;rw [hrs] at hR;obtain ⟨cs8,hA8,hs8,hr8⟩:=hR;have nM7:=(Tn.upd u7).blk nM6 zo;have nF7:=(Tn.upd u7).blk nF6 zo;have nr:=C4 (i:=rs.length) zo;clear u7 hcr hAc nM6 nF6 c6;refine zR ?_;rw [nr];refine E.y8 (fun h=>absurd (show ((rs.length+1:Nat):Int)=8 by omega) h) (fun _=>?_)
  clear nr hrs hcur hne hcl hr7 hl8 eT eTl hsp hch hsz hlen hoff;refine zR ?_;refine C1 (σ:=Nat) [2,3,10,11,12,13,14,61] 62 (fun i=>[(61,.int .i64 i)]) (fun i w'=>i≤8∧Cl w w'∧w'.heap[A]?=some (.cells cs8 273 (0,0))
  ∧(∃ l c,w'.heap[F]?=some (mpO .i8 .i8 l c)∧(l.map (·.n)).Nodup∧(∀ x∈l,x.n<c)∧(l.map (·.k)).Nodup)∧∃ l c,w'.heap[M]?=some (mpO .i8 .i8 l c)∧∀ k,a7P l k=fmF p i k) (fun i=>8-i) zk
   0 ⟨zo,c7,hA8,⟨[],0,nF7,List.nodup_nil,fun x hx=>(by cases hx),List.nodup_nil⟩,[],0,nM7,fun k=>?_⟩ ⟨rfl,trivial⟩ ?_
  ·rw [a6r];unfold fmF;rw [zJ zo]
  clear nM7 nF7 hA8 c7;rintro i j2 w8 ⟨hi,c8,hA8,⟨lF,cF,hF8,f1,f2,f3⟩,lM,cM,hM8,hgM⟩;have ni:=C4 (i:=i) zo;refine zR ?_;apply E.d7<;>intro h
  ·have hi2:i<8:=by omega
   clear h;have e7:IntKind.i8.wrap (IntKind.i64.wrap (7-(i:Int)))=((7-i:Nat):Int):=by rw [g8 zo zo,a0d zo zo];omega
   have hoff:U0 0 ((i:Nat):Int).toNat 1=i:=by rw [s8,zg];omega
   have hrow:cs8[i]?=some (m7 (a4f p (7-i))):=by
    have h1:=hr8 i (by rw [hrl];exact hi2)
    rw [h1];have h2:=a7d p 8 i hi2;rw [yu (by rw [hrl];exact hi2)] at h2
    injection h2 with h2;rw [h2]
   refine zR ?_;rw [e7];refine m8 (b0Q f1 f2 f3 w8 hF8) ?_;rintro e w9 ⟨rfl,hF9,n9⟩;refine ⟨_,rfl,?_⟩;have c9:=n9.toCl c8 zo;have hA9:=n9.blk hA8 zo;have hM9:=n9.blk hM8 zo;refine zR ?_;refine zC ?_;refine zR ?_;refine b7 _ (D9 (v:=m7 (a4f p (7-i))) hA9 (by rw [hoff];exact hrow) rfl) (zR ?_)
   refine m8 (b4Y (g:=fun f=>sq p (8*((7-i:Nat):Int)+f)) (b1V hI.pc (7-i)) (fun c hc=>b9J _ 8 0 0 zo c hc) ?_ w9 (hT.cl c9) hF9) ?_
   ·have:=b2H (fun f=>sq p (8*((7-i:Nat):Int)+f)) 8 0 0 zo;show (a0T _ 8 0 0).length≤100;omega
   rintro e w10 ⟨rfl,hF10,n10⟩;refine ⟨_,rfl,?_⟩;have c10:=n10.toCl c9 zo;have hA10:=n10.blk hA9 zo;have hM10:=n10.blk hM9 zo;refine zR ?_;refine G7 true (E6 rfl) (zR ?_);refine a3b mFP rfl hF10 (b4U _ _ 8) (b4V _ _ 8) fun w11 c11 s11 hI11=>?_;have hA11:=c11.blk hA10;have hM11:=c11.blk hM10;have c011:=c10.trans c11;have hMr:M≠w10.heap.size:=by have:=A7 hM10;omega
   have hFr:F≠w10.heap.size:=by have:=A7 hF10;omega
   have hAr:A≠w10.heap.size:=by have:=A7 hA10;omega
   have h0r:w.heap.size≤w10.heap.size:=c10.size;have hkeys:=a95 (fun f=>sq p (8*((7-i:Nat):Int)+f)) cF 8;have hmem:=a4H (fun f=>sq p (8*((7-i:Nat):Int)+f)) cF 8;have hgM2:∀ k,a7P lM k=fmR p i (enG (fun f=>sq p (8*((7-i:Nat):Int)+f)) cF 8) k:=fun k=>by rw [hgM k];exact b79 p i hi2 cF k
   have hfin:=b4U (fun f=>sq p (8*((7-i:Nat):Int)+f)) cF 8;have hfin2:=b4V (fun f=>sq p (8*((7-i:Nat):Int)+f)) cF 8;generalize enG (fun f=>sq p (8*((7-i:Nat):Int)+f)) cF 8=LF at *;generalize cF+LF.length=CF at *;generalize w10.heap.size=R at *;clear hgM hF10 hF9 hF8 hA10 hA9 hA8 hM10 hM9 hM8 n10 n9 c10 c9 c8;refine zR ?_;refine C1 (σ:=List En) [13,14] 79 (fun _=>[]) (fun rem w'=>Cl w w'∧w'.heap[A]?=some (.cells cs8 273 (0,0))∧Itr .i8 .i8 w' F R LF CF rem∧(rem.map (·.k)).Nodup∧(∀ x∈rem,x∈LF)∧∃ l c,w'.heap[M]?=some (mpO .i8 .i8 l c)∧∀ k,a7P l k=fmR p i rem k) (fun rem=>rem.length) zk
    LF ⟨c011,hA11,hI11,hkeys,fun x hx=>hx,lM,cM,hM11,hgM2⟩ trivial ?_
   clear c011 hA11 hI11 hM11 hgM2 c11;rintro rem j3 w12 ⟨c12,hA12,hI12,hk12,hs12,l12,cc12,hM12,hg12⟩;refine zR ?_;refine a4e rfl hI12 (fun e=>?_) (fun r1 x r2 w13 e n13 hI13 hE=>?_)
   ·subst e;refine zR ?_;exact ⟨i+1,⟨d9 ni,trivial⟩,⟨zo,c12,hA12,⟨LF,CF,hI12.hb,hfin,hfin2,hkeys⟩,l12,cc12,hM12,fun k=>by rw [hg12 k];exact c2v p i hi2 k⟩,zo⟩
   ·subst e;obtain ⟨f,hf,ek,ev,h0⟩:=hmem x (hs12 x (by simp))
    have c13:=n13.toCl c12 h0r;have hA13:=n13.blk hA12 hAr;have hM13:=n13.blk hM12 hMr;have hns:=fun w=>b1K f (7-i) hf zo w;rw [← ek] at hns;have hst:=b9M hi2 hk12 hf ek ev (by rw [ev];exact h0)
    refine zR ?_;refine a3c rfl hE (zR ?_);refine g7 (hns _) (zR ?_);refine a6s mSP rfl rfl rfl hM13 fun w14 u14=>zR ?_;refine ⟨r1++r2,trivial,⟨u14.cl c13 zo,(Tn.upd u14).blk hA13 zo,hI13.kp (fun o h=>(Tn.upd u14).blk h zo) (fun o h=>(Tn.upd u14).blk h (wY hMr)),a29 _ hk12,fun y hy=>hs12 y ?_,_,_,u14.at_,fun k=>?_⟩,by simp⟩
    ·rcases zr.1 hy with hy|hy
     ·exact yS _ hy
     ·exact List.mem_append_right _ (ye _ hy)
    ·rw [a92,hg12 k];exact hst k
  ·have e:i=8:=by omega
   subst e;refine zR ?_;refine m8 (b4Z hI (l:=lM) (c:=cM) (fun s hs=>?_) w8 (hT.cl c8) hM8) ?_
   ·rw [hgM];unfold fmF;rw [zM zo]
   rintro e w9 ⟨c9,b,rfl,sb,hB⟩;refine ⟨_,rfl,zR ?_⟩;exact ⟨c8.trans c9,b,rfl,by have:=c8.size;omega,hB⟩
end
section
open Go Go.RowKit
open E
section gens
variable {w:World} {dst:Option Nat} {ty:Nat} {pos:String} {af:Array Edge} {gd:Option (Nat×Bool)} {env:C9} {K:Value→World→Prop}
theorem b5b {x:Operand} {s:ByteArray} (hx:ev env x = .string s) (h:K (.pointer (some ⟨w.heap.size,0,none⟩)) (w.alloc (.stringIter s 0))):L6 G.P { dst,op:=.range 9 x,type:=ty,pos,after:=af,guard:=gd } env w K:=by
 refine ⟨.inl ⟨_,_,?_,h⟩⟩;show (do pure (Next.value (← Instr.range 9 (ev env x))):Sem Next).run G.P w=_
 rw [hx,yq,run_range_string (P:=G.P) w _ s a9X];rfl
theorem b7A {it:Operand} {r i:Nat} {s:Tx} (hit:ev env it = .pointer (some ⟨r,0,none⟩)) (hr:w.heap[r]?=some (.stringIter (tx s) i)) (ha:∀ c∈s,c.toNat<128)
  (h0:s.length≤i→K (.tuple #[.bool false]) w)
  (h1:∀ (hi:i<s.length) w',Upd w r (.stringIter (tx s) (i+1)) w'→K (.tuple #[.bool true,.int .i64 i,.int .i32 (s[i].toNat:Nat)]) w') :
  L6 G.P { dst,op:=.next it true,type:=ty,pos,after:=af,guard:=gd } env w K:=by
 by_cases hi:i<s.length
 ·have hi2:i<(tx s).size:=by rw [C5];exact hi
  have hg:(tx s)[i]'hi2=s[i]:=rfl;have hd:=decode_ascii (tx s) i hi2 (by rw [hg];exact ha _ (yQ hi))
  rw [hg] at hd;refine ⟨.inl ⟨_,{ w with heap:=w.heap.setIfInBounds r (.stringIter (tx s) (i+1)) },?_,h1 hi _ (a8o hr _)⟩⟩;show (do pure (Next.value (← Instr.next (ev env it) true ty)):Sem Next).run G.P w=_
  rw [hit];simp [Instr.next,getObj,setObj,Sem.run,hr,hi2,hd,goInt];rfl
 ·have hi2:¬ i<(tx s).size:=by rw [C5];exact hi
  refine ⟨.inl ⟨_,w,?_,h0 zo⟩⟩;show (do pure (Next.value (← Instr.next (ev env it) true ty)):Sem Next).run G.P w=_
  rw [hit];simp [Instr.next,getObj,Sem.run,hr,hi2]
theorem b9N {x:Operand} {sx:Nat} (c:UInt8) (hu:G.P.underlying sx=some (.int .i32)) (hc:c.toNat<128) (hx:ev env x = .int .i32 (c.toNat:Nat)) (h:K (m7 [c]) w):L6 G.P { dst,op:=.convert sx 9 x,type:=ty,pos,after:=af,guard:=gd } env w K:=by
 refine ⟨.inl ⟨_,w,?_,h⟩⟩;show (do pure (Next.value (← convert sx 9 (ev env x))):Sem Next).run G.P w=_
 have e:Utf8.encode (c.toNat:Int)=tx [c]:=by
  have hv:Utf8.valid (c.toNat:Int)=true:=by unfold Utf8.valid;simp;omega
  unfold Utf8.encode;simp only [hv,wO,zg,zM hc];simp [tx]
 rw [hx];unfold convert;simp [run_underlying hu,run_underlying a9X,Conv.intToString,e,m7]
end gens
end
section
open Go Go.RowKit
open E
open Ch Bb
theorem b1W:∀ n:Nat,n<16→(a4V (n:Int)).all (fun c=>c==75||c==81||c==107||c==113||c==45)=true∧(a4V (n:Int)).length≤4∧(a4V (n:Int)).count 75≤1∧(a4V (n:Int)).count 81≤1∧(a4V (n:Int)).count 107≤1∧(a4V (n:Int)).count 113≤1∧(a4V (n:Int)).count 45≤1:=by decide
def rightsL:List Tx:=[[75],[81],[107],[113],[45]]
theorem c5S:G.P.underlying 21=some (.int .i32):=by kernel_rfl
theorem b1X (cr:Int) (h0:0≤cr) (h1:cr≤15) (w:World) :
  Calls G.P 193 #[m7 (a4V cr)] w (N0 (.tuple #[m7 (a4V cr),.nilIface]) w):=by
 have hl:=b1W cr.toNat zo;rw [zi h0] at hl;generalize a4V cr=s at *;obtain ⟨ha,hlen,k1,k2,k3,k4,k5⟩:=hl;have hL:∀ i (hi:i<rightsL.length),∃ c,rightsL[i]=[c]∧s.count c≤1:=by
  intro i hi;rcases (by have:rightsL.length=5:=rfl;omega:i=0∨i=1∨i=2∨i=3∨i=4) with rfl|rfl|rfl|rfl|rfl
  ·exact ⟨75,rfl,k1⟩
  ·exact ⟨81,rfl,k2⟩
  ·exact ⟨107,rfl,k3⟩
  ·exact ⟨113,rfl,k4⟩
  ·exact ⟨45,rfl,k5⟩
 have hc:∀ i (hi:i<s.length),s[i]=75∨s[i]=81∨s[i]=107∨s[i]=113∨s[i]=45:=fun i hi=>by
  have:=zl.1 ha _ (yQ hi);simpa [or_assoc] using this
 have hasc:∀ c∈s,c.toNat<128:=fun c hc'=>by
  have:=zl.1 ha _ hc';simp only [zj,beq_iff_eq] at this;rcases this with (((e|e)|e)|e)|e<;>(rw [e];decide)
 refine zN func193 ?_;refine zR ?_;refine A8 elStr [m7 [75],m7 [81],m7 [107],m7 [113],m7 [45]] (by rw [zb];rfl) (by simp [Value.cells,m7]) rfl zd zd ?_
 have ca:=Cl.alloc w (.cells (([m7 [75],m7 [81],m7 [107],m7 [113],m7 [45]]:List Value).flatMap fun v=>v.cells.toList).toArray 9);have hr:Row 9 1 J5 w.heap.size (w.alloc (.cells (([m7 [75],m7 [81],m7 [107],m7 [113],m7 [45]]:List Value).flatMap fun v=>v.cells.toList).toArray 9)) (.slice (some ⟨w.heap.size,0,none⟩) 5 5) rightsL:=C7 o8 w rightsL zd _ rfl;generalize w.alloc (.cells (([m7 [75],m7 [81],m7 [107],m7 [113],m7 [45]]:List Value).flatMap fun v=>v.cells.toList).toArray 9)=w1 at *;have hl5:rightsL.length=5:=rfl;generalize rightsL=RL at *;refine zR ?_;refine C1 (σ:=Nat) [2,3,5,11] 12 (fun i=>[(11,.int .i64 i)]) (fun i w'=>i≤5∧w'=w1) (fun i=>5-i) zk 0 ⟨zo,rfl⟩ ⟨rfl,trivial⟩ ?_;rintro i j w2 ⟨hi,rfl⟩;have ni:=C4 (i:=i) zo;refine zR ?_;apply E.d7<;>intro h
 ·have hi2:i<RL.length:=by omega
  clear h;obtain ⟨c,ec,hcc⟩:=hL i hi2;have hz:=b74 c s zo;have hld:=fun {o:Nat} (ho:o=i*1+0)=>P6 (t:=9) (v:=m7 [c]) hr o8 i 0 hi2 zd (by rw [ec];rfl) ho rfl
  refine zR ?_;refine zC ?_;refine zR ?_;refine b7 _ (hld (a1o _ _)) (zR ?_);refine g7 (hz _) (zR ?_);refine E.o9 zo (zR ?_);exact ⟨i+1,⟨d9 ni,trivial⟩,⟨zo,rfl⟩,zo⟩
 ·clear h;refine zR ?_;refine b5b rfl ?_;have cb:=ca.trans (Cl.alloc w2 (.stringIter (tx s) 0));have nb:=d8 w2 (.stringIter (tx s) 0);have hws:w.heap.size≤w2.heap.size:=ca.size;generalize w2.alloc (.stringIter (tx s) 0)=w3 at *;refine zR ?_;refine C1 (σ:=Nat) [2,3,7,8] 23 (fun i=>[]) (fun i w'=>i≤s.length∧Cl w w'∧w'.heap[w2.heap.size]?=some (.stringIter (tx s) i)) (fun i=>s.length-i) zk 0 ⟨xJ _,cb,nb⟩ trivial ?_;rintro i j w4 ⟨hi,c4,hit⟩;refine zR ?_;refine b7A rfl hit hasc (fun h=>?_) (fun hi2 w5 u5=>?_)
  ·refine zR ?_;exact ⟨rfl,c4⟩
  ·have c5:=u5.cl c4 hws;have hx:=hc i hi2;have hx8:=hasc _ (yQ hi2);have fin:∀ w',w'=w5→i+1≤s.length∧Cl w w'∧w'.heap[w2.heap.size]?=some (.stringIter (tx s) (i+1)):=fun w' e=>by rw [e];exact ⟨hi2,c5,u5.at_⟩
   generalize s[i]=c at *;refine zR ?_;refine b9N c c5S hx8 rfl (zR ?_);apply E.d7<;>intro h
   ·refine zR ?_;(repeat (refine E.A0 h ?_;refine zR ?_))
    exact ⟨i+1,trivial,fin _ rfl,zo⟩
   have q1:=h;clear h;refine zR ?_;apply E.d7<;>intro h
   ·refine zR ?_;(repeat (refine E.A0 h ?_;refine zR ?_))
    exact ⟨i+1,trivial,fin _ rfl,zo⟩
   have q2:=h;clear h;refine zR ?_;apply E.d7<;>intro h
   ·refine zR ?_;(repeat (refine E.A0 h ?_;refine zR ?_))
    exact ⟨i+1,trivial,fin _ rfl,zo⟩
   have q3:=h;clear h;refine zR ?_;apply E.d7<;>intro h
   ·refine zR ?_;(repeat (refine E.A0 h ?_;refine zR ?_))
    exact ⟨i+1,trivial,fin _ rfl,zo⟩
   have q4:=h;clear h;refine zR ?_;apply E.d7<;>intro h
   ·refine zR ?_;(repeat (refine E.A0 h ?_;refine zR ?_))
    exact ⟨i+1,trivial,fin _ rfl,zo⟩
   have q5:=h;clear h;exfalso;rcases hx with rfl|rfl|rfl|rfl|rfl
   ·exact q1 rfl
   ·exact q2 rfl
   ·exact q3 rfl
   ·exact q4 rfl
   ·exact q5 rfl
theorem c5T {p:g9} (h:P8 p=true):p.ep=-1∨(0≤p.ep∧p.ep≤63∧p.ep/8=5-3*p.turn):=by
 unfold P8 at h;split at h
 ·exact .inl (yF h)
 ·rename_i h1;simp only at h;split at h
  ·cases h
  ·rename_i h2;refine .inr ⟨zo,zo,?_⟩;have:l8 p.ep=5-3*p.turn:=yl fun e=>h2 (.inl e);exact this
theorem b9O (e:Int) (he:e=-1∨(0≤e∧e≤63∧(e/8=2∨e/8=5))) (w:World) :
  Calls G.P 194 #[m7 (epT e)] w (N0 (.tuple #[.int .i8 e,.nilIface]) w):=by
 rcases he with rfl|⟨h0,h1,h2⟩
 ·rw [show epT (-1)=[45] from rfl];refine zN func194 ?_;refine zR ?_;first|(refine E.A0 rfl ?_;refine zR ?_)|skip
  exact ⟨rfl,Cl.refl _⟩
 ·have e1:epT e=v8 e++B6 e:=by unfold epT;rw [zM ⟨h0,zo⟩]
  have hs:=fun w=>a9Y e.toNat zo w;rw [zi h0,← e1] at hs;have hne:¬ tx (epT e)=tx [45]:=fun h=>by
   have:=yM List.length (Q0.1 h);rw [e1] at this;simp [v8,B6] at this
  have hr:=fun w=>a1n e h0 h1 w;generalize epT e=T at *;refine zN func194 ?_;refine zR ?_;refine E.o9 hne (zR ?_);refine o7 (hs _) fun w1 c1=>zR ?_;refine E.o9 zo (zR ?_);repeat (refine E.o9 (show ¬ e=-1 by omega) ?_;refine zR ?_)
  refine g7 (hr _) ?_;rcases h2 with h2|h2
  ·rw [h2];refine zR ?_;repeat (refine E.o9 (show ¬ e=-1 by omega) ?_;refine zR ?_)
   exact ⟨rfl,c1⟩
  ·rw [h2];refine zR ?_;repeat (refine E.o9 (show ¬ e=-1 by omega) ?_;refine zR ?_)
   refine g7 (hr _) ?_;rw [h2];refine zR ?_;repeat (refine E.o9 (show ¬ e=-1 by omega) ?_;refine zR ?_)
   exact ⟨rfl,c1⟩
end
section
open Go.Shelf
def Tryz.lays163_ren:Go.Shelf.Ren:=⟨fun|163=>189|237=>231|199=>232|238=>233|272=>272|261=>273|273=>274|197=>275|315=>297|311=>298|312=>299|271=>300|260=>301|120=>311|n=>n,fun|9=>9|37=>157|3=>3|0=>0|5=>5|4=>4|40=>268|119=>269|21=>21|51=>262|141=>312|105=>314|196=>341|193=>338|198=>343|49=>135|194=>339|201=>346|226=>361|46=>52|227=>362|139=>366|138=>365|n=>n,fun|0=>1|6=>7|3=>18|4=>19|n=>n⟩
theorem Tryz.lays163:Go.Proofs.Lays.n163 Tryz.prog Tryz.lays163_ren:={
 mixed:=by kernel_rfl
 f120:=func311.trans (yM some zk)
 f163:=func189.trans (yM some zk)
 f197:=func275.trans (yM some zk)
 f199:=func232.trans (yM some zk)
 f237:=func231.trans (yM some zk)
 f238:=func233.trans (yM some zk)
 f260:=func301.trans (yM some zk)
 f261:=func273.trans (yM some zk)
 f271:=func300.trans (yM some zk)
 f272:=func272.trans (yM some zk)
 f273:=func274.trans (yM some zk)
 f311:=func298.trans (yM some zk)
 f312:=func299.trans (yM some zk)
 f315:=func297.trans (yM some zk)
 t0:=underlying0
 a0:=isAgg0
 z0:=sizeOf0
 v0:=zeroValue0
 t3:=underlying3
 a3:=isAgg3
 z3:=sizeOf3
 v3:=zeroValue3
 t4:=underlying4
 a4:=isAgg4
 z4:=sizeOf4
 v4:=zeroValue4
 t5:=underlying5
 a5:=isAgg5
 z5:=sizeOf5
 v5:=zeroValue5
 t9:=underlying9
 a9:=isAgg9
 z9:=sizeOf9
 v9:=zeroValue9
 t21:=underlying21
 a21:=isAgg21
 z21:=sizeOf21
 v21:=zeroValue21
 t37:=underlying157
 a37:=isAgg157
 z37:=sizeOf157
 v37:=zeroValue157
 t40:=underlying268
 a40:=isAgg268
 z40:=sizeOf268
 v40:=zeroValue268
 t46:=underlying52
 a46:=isAgg52
 z46:=sizeOf52
 v46:=zeroValue52
 t49:=underlying135
 a49:=isAgg135
 z49:=sizeOf135
 v49:=zeroValue135
 t51:=underlying262
 a51:=isAgg262
 z51:=sizeOf262
 v51:=zeroValue262
 t105:=underlying314
 a105:=isAgg314
 z105:=sizeOf314
 v105:=zeroValue314
 t119:=underlying269
 a119:=isAgg269
 z119:=sizeOf269
 t138:=underlying365
 a138:=isAgg365
 z138:=sizeOf365
 v138:=zeroValue365
 t139:=underlying366
 a139:=isAgg366
 z139:=sizeOf366
 v139:=zeroValue366
 t141:=underlying312
 a141:=isAgg312
 z141:=sizeOf312
 v141:=zeroValue312
 t193:=underlying338
 a193:=isAgg338
 z193:=sizeOf338
 v193:=zeroValue338
 t194:=underlying339
 a194:=isAgg339
 z194:=sizeOf339
 v194:=zeroValue339
 t196:=underlying341
 a196:=isAgg341
 z196:=sizeOf341
 v196:=zeroValue341
 t198:=underlying343
 a198:=isAgg343
 z198:=sizeOf343
 v198:=zeroValue343
 t201:=underlying346
 a201:=isAgg346
 z201:=sizeOf346
 v201:=zeroValue346
 t226:=underlying361
 a226:=isAgg361
 z226:=sizeOf361
 v226:=zeroValue361
 t227:=underlying362
 a227:=isAgg362
 z227:=sizeOf362
 v227:=zeroValue362
 g0:=by kernel_rfl
 g3:=by kernel_rfl
 g4:=by kernel_rfl
 g6:=by kernel_rfl }
theorem Tryz.Space_Extra_163:Space.Extra Tryz.prog Tryz.lays163_ren:={
 gNamed:=by kernel_rfl }
open Go.RowKit in
theorem Tryz.strings_TrimSpace (s:ByteArray) (w:World) (hs:s.size≤9223372036854775807) (hascii:∀ (j:Nat) b,s.data.toList[j]?=some b→b.toNat<128) (htab:Lib.TabIs Tryz.prog w "strings.asciiSpace" .u8 Lib.asciiSpaceTab) :
  Calls Tryz.prog 189 #[.string s] w fun e w'=>e = .returned (.string ⟨(Lib.trimSpace s.data.toList).toArray⟩)∧w'=Lib.bytesWorld w 5 s:=Any.strings_TrimSpace Tryz.lays163 Tryz.Space_Extra_163 s w hs hascii htab
def Tryz.lays172_ren:Go.Shelf.Ren:=⟨fun|172=>195|244=>241|245=>242|247=>278|279=>279|280=>280|281=>281|282=>282|287=>302|316=>303|171=>169|205=>135|321=>312|322=>313|243=>213|246=>261|283=>288|284=>289|285=>290|286=>291|129=>228|317=>305|318=>306|319=>307|320=>308|337=>315|338=>316|n=>n,fun|9=>9|3=>3|75=>80|76=>166|4=>4|5=>5|167=>319|37=>157|0=>0|85=>320|2=>2|168=>322|53=>234|175=>348|46=>52|210=>351|127=>221|145=>233|143=>231|21=>21|171=>329|173=>331|212=>354|51=>262|20=>20|213=>355|232=>373|233=>374|80=>109|n=>n,fun|15=>14|16=>15|17=>16|18=>20|19=>21|n=>n⟩
theorem Tryz.lays172:Go.Proofs.Lays.n172 Tryz.prog Tryz.lays172_ren:={
 mixed:=by kernel_rfl
 f129:=func228.trans (yM some zk)
 f171:=func169.trans (yM some zk)
 f172:=func195.trans (yM some zk)
 f205:=func135.trans (yM some zk)
 f243:=func213.trans (yM some zk)
 f244:=func241.trans (yM some zk)
 f245:=func242.trans (yM some zk)
 f246:=func261.trans (yM some zk)
 f247:=func278.trans (yM some zk)
 f279:=func279.trans (yM some zk)
 f280:=func280.trans (yM some zk)
 f281:=func281.trans (yM some zk)
 f282:=func282.trans (yM some zk)
 f283:=func288.trans (yM some zk)
 f284:=func289.trans (yM some zk)
 f285:=func290.trans (yM some zk)
 f286:=func291.trans (yM some zk)
 f287:=func302.trans (yM some zk)
 f316:=func303.trans (yM some zk)
 f317:=func305.trans (yM some zk)
 f318:=func306.trans (yM some zk)
 f319:=func307.trans (yM some zk)
 f320:=func308.trans (yM some zk)
 f321:=func312.trans (yM some zk)
 f322:=func313.trans (yM some zk)
 f337:=func315.trans (yM some zk)
 f338:=func316.trans (yM some zk)
 t0:=underlying0
 a0:=isAgg0
 z0:=sizeOf0
 v0:=zeroValue0
 t2:=underlying2
 a2:=isAgg2
 z2:=sizeOf2
 v2:=zeroValue2
 t3:=underlying3
 a3:=isAgg3
 z3:=sizeOf3
 v3:=zeroValue3
 t4:=underlying4
 a4:=isAgg4
 z4:=sizeOf4
 v4:=zeroValue4
 t5:=underlying5
 a5:=isAgg5
 z5:=sizeOf5
 v5:=zeroValue5
 t9:=underlying9
 a9:=isAgg9
 z9:=sizeOf9
 v9:=zeroValue9
 t20:=underlying20
 a20:=isAgg20
 z20:=sizeOf20
 v20:=zeroValue20
 t21:=underlying21
 a21:=isAgg21
 z21:=sizeOf21
 v21:=zeroValue21
 t37:=underlying157
 a37:=isAgg157
 z37:=sizeOf157
 v37:=zeroValue157
 t46:=underlying52
 a46:=isAgg52
 z46:=sizeOf52
 v46:=zeroValue52
 t51:=underlying262
 a51:=isAgg262
 z51:=sizeOf262
 v51:=zeroValue262
 t53:=underlying234
 a53:=isAgg234
 z53:=sizeOf234
 v53:=zeroValue234
 t75:=underlying80
 a75:=isAgg80
 z75:=sizeOf80
 v75:=zeroValue80
 t76:=underlying166
 a76:=isAgg166
 z76:=sizeOf166
 v76:=zeroValue166
 t85:=underlying320
 a85:=isAgg320
 z85:=sizeOf320
 v85:=zeroValue320
 t127:=underlying221
 a127:=isAgg221
 z127:=sizeOf221
 v127:=zeroValue221
 t143:=underlying231
 a143:=isAgg231
 z143:=sizeOf231
 v143:=zeroValue231
 t145:=underlying233
 a145:=isAgg233
 z145:=sizeOf233
 v145:=zeroValue233
 t167:=underlying319
 a167:=isAgg319
 z167:=sizeOf319
 v167:=zeroValue319
 t168:=underlying322
 a168:=isAgg322
 z168:=sizeOf322
 v168:=zeroValue322
 t171:=underlying329
 a171:=isAgg329
 z171:=sizeOf329
 v171:=zeroValue329
 t173:=underlying331
 a173:=isAgg331
 z173:=sizeOf331
 v173:=zeroValue331
 t175:=underlying348
 a175:=isAgg348
 z175:=sizeOf348
 v175:=zeroValue348
 t210:=underlying351
 a210:=isAgg351
 z210:=sizeOf351
 v210:=zeroValue351
 t212:=underlying354
 a212:=isAgg354
 z212:=sizeOf354
 v212:=zeroValue354
 t213:=underlying355
 a213:=isAgg355
 z213:=sizeOf355
 t232:=underlying373
 a232:=isAgg373
 z232:=sizeOf373
 v232:=zeroValue373
 t233:=underlying374
 a233:=isAgg374
 z233:=sizeOf374
 v233:=zeroValue374
 g15:=by kernel_rfl
 g16:=by kernel_rfl
 g17:=by kernel_rfl
 g18:=by kernel_rfl
 g19:=by kernel_rfl }
open Go.RowKit in
theorem Tryz.strconv_Atoi (s:ByteArray) (n:Int) (hl:s.size≤18) (h:Lib.atoi s.data.toList=some n) (w:World) :
  Calls Tryz.prog 195 #[.string s] w fun e w'=>e = .returned (.tuple #[.int .i64 n,.nilIface])∧∃ t,w'=Lib.bytesWorld w 5 t:=Any.strconv_Atoi Tryz.lays172 s n hl h w
end
section
open Go Go.RowKit
open E
open Ch Bb
theorem Cl.bytes (w:World) (e:Nat) (s:ByteArray):Cl w (Lib.bytesWorld w e s):=⟨rfl,rfl,rfl,by rw [Lib.bytesWorld_size];omega,fun k hk=>Lib.bytesWorld_at_old w e s k hk⟩
def Spc (w:World):Prop:=Lib.TabIs G.P w "strings.asciiSpace" .u8 Lib.asciiSpaceTab
theorem Spc.cl {w w':World} (h:Spc w) (c:Cl w w'):Spc w':=by
 unfold Spc Lib.TabIs World.var? at *;cases hg:G.P.globalNamed "strings.asciiSpace" with
 | none=>rw [hg] at h;cases h
 | some g =>
  rw [hg] at h;simp only [wD] at h ⊢;cases hb:w.heap[g]? with
  | none=>rw [hb] at h;cases h
  | some o =>
   rw [c.blk hb];rw [hb] at h;exact h
theorem a7C:∀ (a:Tx) (acc:Nat) (b:Tx),Lib.decFrom acc (a++b)=(Lib.decFrom acc a).bind fun x=>Lib.decFrom x b
 | [],_,_=>rfl
 | x::r,acc,b=>by
  rw [yX,Lib.decFrom,Lib.decFrom];cases Lib.digitVal x with
  | none=>rfl
  | some d=>exact a7C r _ b
theorem a7D:∀ k,k<10→Lib.digitVal (UInt8.ofNat (48+k))=some k:=by decide
theorem a7E (n:Nat):Lib.decFrom 0 (dec n)=some n:=by
 induction n using Nat.strongRecOn with
 | _ n ih =>
  unfold dec;by_cases h:n<10
  ·rw [dif_pos h,Lib.decFrom,a7D n h];simp [Lib.decFrom]
  ·rw [dif_neg h,a7C,ih (n/10) zo,wD,Lib.decFrom,a7D (n%10) zo];simp only [Lib.decFrom];congr 1;omega
theorem b31 (n:Nat):∃ b r,dec n=b::r:=by
 cases h:dec n with
 | nil=>have:=a7E n;unfold dec at h;split at h<;>simp at h
 | cons b r=>exact ⟨b,r,rfl⟩
theorem b9P (n:Nat):Lib.atoi (dec n)=some (n:Int):=by
 obtain ⟨b,r,e⟩:=b31 n;obtain ⟨k,hk,hb⟩:=a8p n b (by rw [e];exact yc)
 have h1:∀ k,k<10→(UInt8.ofNat (48+k)==45)=false∧(UInt8.ofNat (48+k)==43)=false:=by decide
 have hn:Lib.decNat (dec n)=some n:=by unfold Lib.decNat;rw [zJ (by rw [e];simp)];exact a7E n
 rw [e] at hn ⊢;unfold Lib.atoi;rw [hb] at hn ⊢;simp only [(h1 k hk).1,(h1 k hk).2,hn];rfl
theorem b9Q (n:Nat) (hn:n<10000000) (w:World):Calls G.P 195 #[m7 (dec n)] w (N0 (.tuple #[.int .i64 n,.nilIface]) w):=by
 have hl:=a3x 7 n zd zo;refine (Tryz.strconv_Atoi (tx (dec n)) n (by rw [C5];omega) (by show Lib.atoi ((dec n).toArray.toList)=_;exact b9P n) w).mono ?_
 rintro r w' ⟨h1,t,h2⟩;exact ⟨h1,by rw [h2];exact Cl.bytes w _ t⟩
theorem b9R {c:UInt8} (h:b4W c):Lib.isSp c=false:=by
 have h49:49≤c.toNat:=by
  rcases h with h|⟨x,h0,h1,h⟩
  ·exact h.1
  ·rcases (by omega:x=1∨x=2∨x=3∨x=4∨x=5∨x=6∨x=7∨x=8∨x=9∨x=10∨x=11∨x=12) with rfl|rfl|rfl|rfl|rfl|rfl|rfl|rfl|rfl|rfl|rfl|rfl<;>(injection h with h _;subst h;decide)
 unfold Lib.isSp;have:∀ k:UInt8,k.toNat<49→(c==k)=false:=fun k hk=>by
  rw [beq_eq_false_iff_ne];intro e;rw [e] at h49;omega
 rw [this 9 zd,this 10 zd,this 11 zd,this 12 zd,this 13 zd,this 32 zd];rfl
theorem c2w {a:UInt8} {r l:Tx} {b:UInt8} (h:a::r=l++[b]) (ha:Lib.isSp a=false) (hb:Lib.isSp b=false):Lib.trimSpace (a::r)=a::r:=by
 unfold Lib.trimSpace;rw [List.dropWhile_cons,zJ (by rw [ha];decide),h,List.reverse_append,List.reverse_singleton,List.singleton_append,List.dropWhile_cons,zJ (by rw [hb];decide)]
 simp
theorem c4A (p:g9) (hp:∀ i:Int,0≤sq p i∧sq p i≤12) (r:Nat):∃ c t,a4f p r=c::t:=by
 cases h:a4f p r with
 | nil=>have:=b1V hp r;rw [h] at this;cases this
 | cons c t=>exact ⟨c,t,rfl⟩
theorem b9S {p:g9} (hp:∀ i:Int,0≤sq p i∧sq p i≤12):Lib.trimSpace (a7q p)=a7q p:=by
 obtain ⟨c,t,e⟩:=c4A p hp 7;have hc:b4W c:=b9J (fun f=>sq p (8*((7:Nat):Int)+f)) 8 0 0 zo c (by show c∈a4f p 7;rw [e];exact yc)
 have e1:a7q p=c::(t++[47]++a2U p 7++[32]++a8n p.turn++[32]++a4V p.castle++[32]++epT p.ep++[32]++dec p.half.toNat++[32]++dec p.full.toNat):=by
  have:a2U p 8=a4f p 7++[47]++a2U p 7:=rfl;unfold a7q;rw [this,e];simp
 obtain ⟨x,r,e2⟩:=b31 p.full.toNat;have hne:dec p.full.toNat≠[]:=by rw [e2];simp
 have hl:=List.dropLast_concat_getLast hne;obtain ⟨k,hk,hk2⟩:=a8p p.full.toNat _ (List.getLast_mem hne);have h3:∀ k,k<10→Lib.isSp (UInt8.ofNat (48+k))=false:=by decide
 have e4:a7q p=(a2U p 8++[32]++a8n p.turn++[32]++a4V p.castle++[32]++epT p.ep++[32]++dec p.half.toNat++[32]++(dec p.full.toNat).dropLast)++[(dec p.full.toNat).getLast hne]:=by
  rw [yJ _ (dec p.full.toNat).dropLast,hl];rfl
 rw [e1];exact c2w (e1.symm.trans e4) (b9R hc) (by rw [hk2];exact h3 k hk)
theorem b7B {p:g9} (hp:∀ i:Int,0≤sq p i∧sq p i≤12):∀ c∈a7q p,c.toNat<128:=by
 have hdec:∀ n,∀ c∈dec n,c.toNat<128:=fun n c hc=>by
  obtain ⟨k,hk,rfl⟩:=a8p n c hc;have:∀ k,k<10→(UInt8.ofNat (48+k)).toNat<128:=by decide
  exact this k hk
 have hrow:∀ c,b4W c→c.toNat<128:=fun c h=>by
  rcases a9A h with h|h
  ·omega
  ·exact h.2.1
 have hboard:∀ r,∀ c∈a2U p r,c.toNat<128:=by
  intro r
  induction r with
  | zero=>intro c hc;cases hc
  | succ r ih =>
   intro c hc;rw [a2U] at hc;rcases zr.1 hc with hc|hc
   ·rcases zr.1 hc with hc|hc
    ·exact hrow c (b9J _ 8 0 0 zo c hc)
    ·split at hc
     ·cases hc
     ·rw [zY.1 hc];decide
   ·exact ih c hc
 have h32:∀ c∈([32]:Tx),c.toNat<128:=by decide
 have hturn:∀ c∈a8n p.turn,c.toNat<128:=by unfold a8n;split<;>decide
 have hcast:∀ c∈a4V p.castle,c.toNat<128:=by
  have:∀ a b c d:Bool,∀ x∈(let t:Tx:=(if a then [75] else [])++(if b then [81] else [])++(if c then [107] else [])++(if d then [113] else []);if t.isEmpty then [45] else t),x.toNat<128:=by decide
  exact this _ _ _ _
 have hep:∀ c∈epT p.ep,c.toNat<128:=by
  unfold epT;split
  ·rename_i h;have:∀ k,k<64→∀ c∈v8 ((k:Nat):Int)++B6 ((k:Nat):Int),c.toNat<128:=by decide
   have h2:=this p.ep.toNat zo
   rwa [zi h.1] at h2
  ·decide
 intro c hc;unfold a7q at hc;simp only [zr] at hc;rcases hc with (((((((((h|h)|h)|h)|h)|h)|h)|h)|h)|h)|h
 ·exact hboard _ c h
 ·exact h32 c h
 ·exact hturn c h
 ·exact h32 c h
 ·exact hcast c h
 ·exact h32 c h
 ·exact hep c h
 ·exact h32 c h
 ·exact hdec _ c h
 ·exact h32 c h
 ·exact hdec _ c h
theorem b7C {p:g9} (hp:∀ i:Int,0≤sq p i∧sq p i≤12) (hl:(a7q p).length≤100000) (w:World) (hs:Spc w):Calls G.P 189 #[m7 (a7q p)] w (N0 (m7 (a7q p)) w):=by
 refine (Tryz.strings_TrimSpace (tx (a7q p)) w (by rw [C5];omega) (fun j b hb=>?_) hs).mono ?_
 ·have hb:(a7q p)[j]?=some b:=hb;exact b7B hp b (ym hb)
 ·rintro r w' ⟨h1,h2⟩;refine ⟨?_,by rw [h2];exact Cl.bytes w _ _⟩
  rw [h1];show Ending.returned (.string ⟨(Lib.trimSpace (a7q p)).toArray⟩)=_;rw [b9S hp];rfl
def b6z (P:Program):Nat→Nat→Bool
 | 0,_=>true
 | d+1,e=>match P.underlying e with
  | some (.struct fs)=>fs.all fun f=>b6z P d f.type
  | some (.array _ _)=>false
  | _=>true
theorem b7D {P:Program} {fits:TypeId→Bool}:∀ (d e n off:Nat),b6z P d e=true→2≤n→rowAt P fits d e 1 off n=false:=by
 intro d
 induction d with
 | zero=>intro e n off _ _;rfl
 | succ d ih =>
  intro e n off h hn;unfold b6z at h;unfold rowAt;simp only
  split
  ·rfl
  rw [yD];constructor
  ·rw [zV (show ¬ off/P.cellsOf e+n≤1 by generalize off/P.cellsOf e=q;omega)];simp
  ·rw [x9];right;split at h
   ·rename_i fs hu;simp only [hu];rw [x9];right;rw [Array.any_eq_false];intro i hi hc;rw [Array.all_eq_true] at h;have:=ih fs[i].type n (off%P.cellsOf e-fs[i].offset) (h i hi) hn;rw [this] at hc;simp at hc
   ·cases h
   ·rename_i h1 h2;split
    ·rename_i fs hu;exact absurd hu (h1 fs)
    ·rename_i m e' hu;exact absurd hu (h2 m e')
    ·rfl
def a7F (P:Program) (fits:TypeId→Bool):Nat→Nat→Bool
 | 0,_=>true
 | d+1,e=>!fits e&&match P.underlying e with
  | some (.struct fs)=>fs.all fun f=>b6z P d f.type
  | some (.array _ _)=>false
  | _=>true
theorem b7E {P:Program} {fits:TypeId→Bool} (d e n c off:Nat) (h:a7F P fits d e=true) (hn:2≤n):rowAt P fits d e c off n=false:=by
 cases d with
 | zero=>rfl
 | succ d =>
  unfold a7F at h;rw [zP] at h;obtain ⟨h0,h⟩:=h;have h0:fits e=false:=by simpa using h0
  unfold rowAt;simp only
  split
  ·rfl
  rw [yD];constructor
  ·rw [h0];simp
  ·rw [x9];right;split at h
   ·rename_i fs hu;simp only [hu];rw [x9];right;rw [Array.any_eq_false];intro i hi hc;rw [Array.all_eq_true] at h;have:=b7D (fits:=fits) d fs[i].type n (off%P.cellsOf e-fs[i].offset) (h i hi) hn;rw [this] at hc;simp at hc
   ·cases h
   ·rename_i h1 h2;split
    ·rename_i fs hu;exact absurd hu (h1 fs)
    ·rename_i m e' hu;exact absurd hu (h2 m e')
    ·rfl
theorem b5c {P:Program} (D e u n c off:Nat) (h:a7F P (fun t=>sameLayout P P.depth t u) P.depth e=true) (hu:∀ m u',P.underlying u≠some (.array m u')) (hn:2≤n):liesAt P D e c off u n=false:=by
 cases D with
 | zero=>rfl
 | succ D =>
  unfold liesAt;rw [b7E _ _ _ _ _ h hn,xp];split
  ·rename_i m u' he;exact absurd he (hu m u')
  ·rfl
theorem b9T {W:World} (hS:W.ShapedOpen G.P) {g ty:Nat} (hlt:g<G.P.globals.size) (h0:(((begin G.P (fun _ _=>0) default).world.heap[g]?).bind Obj.row?).map (·.2)=some ty) :
  ∃ cs,W.heap[g]?=some (.cells cs ty (0,0))∧(G.P.buildable ty=true→Row.ok G.P W .any 0 ty cs):=by
 cases h1:((begin G.P (fun _ _=>0) default).world.heap[g]?).bind Obj.row? with
 | none=>rw [h1] at h0;cases h0
 | some x =>
  obtain ⟨zero,t⟩:=x;rw [h1] at h0;obtain rfl:t=ty:=yp h0;obtain ⟨cs,h2,_,h3⟩:=hS.1 g zero t hlt h1;exact ⟨cs,h2,h3⟩
theorem b9U {W:World} {name:String} {g ty:Nat} {cs cs':Array Value} (hg:G.P.globalNamed name=some g) (hb:W.heap[g]?=some (.cells cs ty (0,0))) (hv:W.var? G.P name=some cs'):cs'=cs:=by
 unfold World.var? at hv;rw [hg] at hv;simp only [wD,hb] at hv;exact (yp hv).symm
theorem a1G {W:World} (hS:W.ShapedOpen G.P) {name:String} {g t n e ty:Nat} {k:IntKind} {z:Nat→Int} (hg:G.P.globalNamed name=some g) (hlt:g<G.P.globals.size) (h0:(((begin G.P (fun _ _=>0) default).world.heap[g]?).bind Obj.row?).map (·.2)=some ty)
  (hf:a2I ty=true) (hty:(G.P.globals[g]?).map (·.type)=some t) (ht:G.P.underlying t=some (.array n e)) (he:G.P.underlying e=some (.int k)) (hce:G.P.cellsOf e=1) (hct:G.P.cellsOf t=n)
  (hr:Lib.VarReads G.P W name (Lib.tabData k ((List.range n).map z))):Z9 W g n (fun i=>.int k (z i)):=by
 obtain ⟨g',t',cs',fuel,p,hg',ht',hv,hd⟩:=hr;obtain rfl:=yp (hg.symm.trans hg');obtain rfl:=yp (hty.symm.trans ht');obtain ⟨cs,hb,_⟩:=b9T hS hlt h0;have e1:=Lib.cells_of_tab ht he hce hct hd;rw [b9U hg hb hv] at e1;refine ⟨cs,ty,_,hb,hf,fun i hi=>?_⟩;have e2:cs.toList[i]?=some (Value.int k (z i)):=by
  rw [e1];simp [List.getElem?_map,List.getElem?_range hi]
 simpa using e2
theorem b32 {W:World} {name:String} {g t n e:Nat} {k:IntKind} {zs:List Int} (hg:G.P.globalNamed name=some g) (hty:(G.P.globals[g]?).map (·.type)=some t) (ht:G.P.underlying t=some (.array n e)) (he:G.P.underlying e=some (.int k)) (hce:G.P.cellsOf e=1) (hct:G.P.cellsOf t=n)
  (hr:Lib.VarReads G.P W name (Lib.tabData k zs)):Lib.TabIs G.P W name k zs:=by
 obtain ⟨g',t',cs',fuel,p,hg',ht',hv,hd⟩:=hr;obtain rfl:=yp (hg.symm.trans hg');obtain rfl:=yp (hty.symm.trans ht');unfold Lib.TabIs;rw [hv,← Lib.cells_of_tab ht he hce hct hd]
theorem b60 {W:World} (hS:W.ShapedOpen G.P) {name:String} {g t n e ty:Nat} {k:IntKind} {z:Nat→Int} (hg:G.P.globalNamed name=some g) (hlt:g<G.P.globals.size) (h0:(((begin G.P (fun _ _=>0) default).world.heap[g]?).bind Obj.row?).map (·.2)=some ty)
  (hf:a2I ty=true) (hbu:G.P.buildable ty=true) (hct:G.P.cellTypes G.P.depth ty=some [t]) (hty:(G.P.globals[g]?).map (·.type)=some t) (ht:G.P.underlying t=some (.slice e)) (he:G.P.underlying e=some (.int k)) (hce:G.P.cellsOf e=1)
  (hn:2≤n) (hno:∀ row,a2I row=false→a7F G.P (fun t=>sameLayout G.P G.P.depth t e) G.P.depth row=true)
  (hr:Lib.VarReads G.P W name (.slice ((List.range n).map fun i=>.lit (.int k (z i))) [])):a7R W g n (fun i=>.int k (z i)):=by
 obtain ⟨g',t',cs',fuel,p,hg',ht',hv,hd⟩:=hr;obtain rfl:=yp (hg.symm.trans hg');obtain rfl:=yp (hty.symm.trans ht');obtain ⟨cs,hb,hok⟩:=b9T hS hlt h0;rw [b9U hg hb hv] at hd;obtain ⟨a,cap,e1,hcap,hcells⟩:=open_row ht hce hd;have hl:((List.range n).map fun i=>(DataW.lit (.int k (z i)):DataW Unit)).length=n:=by simp
 rw [hl] at e1 hcap;have e2:cs=#[.slice (some a) n cap]:=by rw [← xX];exact e1
 subst e2;obtain ⟨ts,hts,_,hall⟩:=hok hbu;obtain rfl:=yp (hct.symm.trans hts);obtain ⟨u,hu,hc⟩:=hall 0 _ rfl;obtain rfl:t=u:=yp hu;unfold Cell.ok at hc;rw [ht] at hc;obtain ⟨_,_,_,hsp,row,cells,hsh,hlie⟩:=hc;obtain ⟨b,o,sp⟩:=a;have hsp:sp=none:=hsp;subst hsp;unfold World.shape? at hsh;have hcell0:=hcells;cases hbb:W.heap[b]? with
 | none=>simp only [hbb] at hsh;cases hsh
 | some ob =>
  cases ob with
  | cells cs2 el fz =>
   simp only [hbb] at hsh;obtain ⟨rfl,rfl⟩:=Prod.mk.inj (yp hsh);refine ⟨b,o,cap,⟨_,_,_,hb,hf,fun i hi=>?_⟩,cs2,el,fz,hbb,?_,fun i hi=>?_⟩
   ·obtain rfl:i=0:=by omega
    rfl
   ·cases hfx:a2I el with
    | true=>rfl
    | false =>
     have hu:∀ m u',G.P.underlying e≠some (.array m u'):=fun m u' h=>by rw [he] at h;cases h
     rw [b5c _ _ _ _ _ _ (hno el hfx) hu zo] at hlie;cases hlie
   ·obtain ⟨v,m,q,hv1,hv2⟩:=hcells i (.lit (.int k (z i))) (by simp [List.getElem?_map,List.getElem?_range hi])
    obtain ⟨z',h3,h4,_⟩:=DataW.trod_int he hv2;injection h3 with h3;injection h4 with h4;injection h4 with h4;injection h4 with _ h4;rw [H6] at hv1;unfold World.cell? at hv1;simp only [hbb] at hv1;rw [h3,← h4] at hv1;simpa using hv1
  | _=>simp only [hbb] at hsh;cases hsh
theorem c5U (P:Nat→Prop) (h0:P 173) (h1:P 237) (h2:P 141) (h3:P 131):∀ row,a2I row=false→P row:=by
 intro row h;unfold a2I at h;have h:(Nat.beq row 173||Nat.beq row 237||Nat.beq row 141||Nat.beq row 131)=true:=by
  revert h;generalize (Nat.beq row 173||Nat.beq row 237||Nat.beq row 141||Nat.beq row 131)=q
  cases q<;>decide
 simp only [zj] at h;rcases h with ((h|h)|h)|h
 ·obtain rfl:=zu h;exact h0
 ·obtain rfl:=zu h;exact h1
 ·obtain rfl:=zu h;exact h2
 ·obtain rfl:=zu h;exact h3
theorem c5V:∀ row,a2I row=false→a7F G.P (fun t=>sameLayout G.P G.P.depth t 194) G.P.depth row=true :=
 c5U (fun row=>a7F G.P (fun t=>sameLayout G.P G.P.depth t 194) G.P.depth row=true) zk zk zk zk
theorem c5W:∀ row,a2I row=false→a7F G.P (fun t=>sameLayout G.P G.P.depth t 139) G.P.depth row=true :=
 c5U (fun row=>a7F G.P (fun t=>sameLayout G.P G.P.depth t 139) G.P.depth row=true) zk zk zk zk
theorem c4B {W:World} (hS:W.ShapedOpen G.P):∃ f:Nat→Tx,Z9 W 23 8 (fun i=>m7 (f i)):=by
 have h0:(match ((begin G.P (fun _ _=>0) default).world.heap[23]?).bind Obj.row? with|some x=>Nat.beq x.1.size 8&&Nat.beq x.2 394|none=>false)=true:=by kernel_rfl
 have hbu:G.P.buildable 394=true:=by kernel_rfl
 have hct:G.P.cellTypes G.P.depth 394=some (List.replicate 8 9):=by kernel_rfl
 have hus:G.P.underlying 9=some .string:=by kernel_rfl
 cases h1:((begin G.P (fun _ _=>0) default).world.heap[23]?).bind Obj.row? with
 | none=>rw [h1] at h0;cases h0
 | some x =>
  obtain ⟨zero,t⟩:=x;rw [h1] at h0;simp only [zP] at h0;obtain ⟨cs,h2,h3,hok⟩:=hS.1 _ zero t (zU zk) h1;have e1:=zu h0.1;obtain rfl:=zu h0.2;obtain ⟨ts,hts,_,hall⟩:=hok hbu;obtain rfl:=yp (hct.symm.trans hts);have key:∀ i,i<8→∃ T:Tx,cs[i]?=some (m7 T):=by
   intro i hi;have hi2:i<cs.size:=by omega
   obtain ⟨u,hu,hc⟩:=hall i cs[i] (we hi2);rw [List.length_replicate,wF hi,List.getElem?_replicate,zM hi] at hu;obtain rfl:=yp hu;unfold Cell.ok at hc;rw [hus] at hc;cases hv:cs[i] with
   | string s =>
    refine ⟨s.data.toList,?_⟩;rw [we hi2,hv];rfl
   | _=>rw [hv] at hc;exact hc.elim
  refine ⟨fun i=>if h:i<8 then (key i h).choose else [],cs,_,(0,0),h2,rfl,fun i hi=>?_⟩
  simp only [dif_pos hi];exact (key i hi).choose_spec
theorem b7F {W:World} (hS:W.ShapedOpen G.P) {l:List (String×DataW Unit)} (h:laidMet G.P l W)
  (dia:("pub-tabiya/pub/chess.bbDiagonals",Lib.tabData .u64 ((List.range 64).map fun i=>((Bb.mask 2 i:Nat):Int)))∈l)
  (anti:("pub-tabiya/pub/chess.bbAntiDiagonals",Lib.tabData .u64 ((List.range 64).map fun i=>((Bb.mask 3 i:Nat):Int)))∈l)
  (ranks:("pub-tabiya/pub/chess.bbRanks",Lib.tabData .u64 ((List.range 8).map fun i=>((Bb.mask 0 (8*i):Nat):Int)))∈l)
  (files:("pub-tabiya/pub/chess.bbFiles",Lib.tabData .u64 ((List.range 8).map fun i=>((Bb.mask 1 i:Nat):Int)))∈l)
  (kn:("pub-tabiya/pub/chess.bbKnightMoves",Lib.tabData .u64 ((List.range 64).map fun i=>((Ch.kn i:Nat):Int)))∈l)
  (kg:("pub-tabiya/pub/chess.bbKingMoves",Lib.tabData .u64 ((List.range 64).map fun i=>((Ch.kg i:Nat):Int)))∈l)
  (all:("pub-tabiya/pub/chess.allPieces",.slice ((List.range 12).map fun (i:Nat)=>.lit (.int .i8 ((i:Int)+1))) [])∈l)
  (promo:("pub-tabiya/pub/chess.promoPieceTypes",.slice ((List.range 4).map fun (i:Nat)=>.lit (.int .i8 ((i:Int)+2))) [])∈l)
  (wfen:("pub-tabiya/pub/chess.whitePiecesToFEN",Lib.tabData .u8 ((List.range 7).map fun i=>((wfenL.getD i 0:Nat):Int)))∈l)
  (bfen:("pub-tabiya/pub/chess.blackPiecesToFEN",Lib.tabData .u8 ((List.range 7).map fun i=>((bfenL.getD i 0:Nat):Int)))∈l)
  (fen:("pub-tabiya/pub/chess.fenCharToPiece",Lib.tabData .i8 ((List.range 128).map fun i=>(a38 i)))∈l)
  (spc:("strings.asciiSpace",Lib.tabData .u8 Lib.asciiSpaceTab)∈l) (pow:("internal/strconv.uint64pow10",Lib.tabData .u64 Lib.pow10Tab)∈l):C6 W∧Spc W∧Pow W:=by
 refine ⟨⟨?_,?_,?_,?_,?_,?_,?_,?_,?_,?_,?_,c4B hS⟩,?_,?_⟩
 ·exact a1G hS (ty:=282) (t:=282) (e:=235) zk (zU zk) zk rfl zk zk zk zk zk (Lib.laidMet.reads h dia)
 ·exact a1G hS (ty:=282) (t:=282) (e:=235) zk (zU zk) zk rfl zk zk zk zk zk (Lib.laidMet.reads h anti)
 ·exact a1G hS (ty:=326) (t:=326) (e:=235) zk (zU zk) zk rfl zk zk zk zk zk (Lib.laidMet.reads h ranks)
 ·exact a1G hS (ty:=326) (t:=326) (e:=235) zk (zU zk) zk rfl zk zk zk zk zk (Lib.laidMet.reads h files)
 ·exact a1G hS (ty:=282) (t:=282) (e:=235) zk (zU zk) zk rfl zk zk zk zk zk (Lib.laidMet.reads h kn)
 ·exact a1G hS (ty:=282) (t:=282) (e:=235) zk (zU zk) zk rfl zk zk zk zk zk (Lib.laidMet.reads h kg)
 ·exact b60 hS (ty:=243) (t:=243) (e:=194) zk (zU zk) zk rfl zk zk zk zk zk zk zd c5V (Lib.laidMet.reads h all)
 ·exact b60 hS (ty:=291) (t:=291) (e:=139) zk (zU zk) zk rfl zk zk zk zk zk zk zd c5W (Lib.laidMet.reads h promo)
 ·exact a1G hS (ty:=300) (t:=300) (e:=5) zk (zU zk) zk rfl zk zk zk zk zk (Lib.laidMet.reads h wfen)
 ·exact a1G hS (ty:=300) (t:=300) (e:=5) zk (zU zk) zk rfl zk zk zk zk zk (Lib.laidMet.reads h bfen)
 ·exact a1G hS (ty:=316) (t:=316) (e:=194) zk (zU zk) zk rfl zk zk zk zk zk (Lib.laidMet.reads h fen)
 ·exact b32 (g:=1) (t:=269) (n:=256) (e:=5) zk zk zk zk zk zk (Lib.laidMet.reads h spc)
 ·exact b32 (g:=16) (t:=354) (n:=20) (e:=234) zk zk zk zk zk zk (Lib.laidMet.reads h pow)
theorem a9Z {H:Type} {enc:TypeId×Value→H} {a:Assume} {C:Checked} {os:Os} {f:FuncId} {fn:Func} {s:ChangeSpec} {conds:List PathCond} {apart fresh handsOn again:Bool} {X:World→Array Value→Prop}
  (hX:∀ (w w':World) (args:Array Value),w.heap=w'.heap→X w args→X w' args)
  (own:ownKnob C.prog.godebug=none) (started:os.Started) (noInit:C.prog.inits.idxOf? f=none) (hfn:C.prog.funcs[f]?=some fn)
  (witness:∃ (w:World) (tape:Tape) (i:Input),w.os=os∧(w.forCall tape i).Shaped C.prog∧i.vars=[]∧Input.okWide C.prog (w.forCall tape i) .any w.heap.size f i ∧
   ((s.pre enc C.prog fn conds apart (w.forCall tape i).memory i.args∧X (w.forCall tape i).memory i.args)∧sizedMet enc C.prog fn (OpenSpec.ofChange s) apart (w.forCall tape i).memory i.args)∧a.holds C.prog (lone (Frame.enter C.prog f i.args .normal) [] (w.forCall tape i)))
  (contract:∀ (W:World) (base:Nat) (args:Array Value) (ds gs:List (DataW H)) (before:List MemPlace),W.ShapedOpen C.prog →
   (∀ (j:Nat) t v,fn.params[j]?=some t→args[j]?=some v→Value.okWide C.prog W .any base t v) →
   DataW.Whole enc C.prog fn.params.toList s.vars apart W args.toList ds gs before→X W args →
   Calls C.prog f args W fun e W'=>∃ v,e = .returned v∧s.post enc C.prog fn apart fresh handsOn again W args v W') :
  ReturnsInHanded a C os f .any (fun w args=>(s.pre enc C.prog fn conds apart w args∧X w args)∧sizedMet enc C.prog fn (OpenSpec.ofChange s) apart w args) (s.post enc C.prog fn apart fresh handsOn again):=by
 refine returnsInHanded_of_calls own started noInit witness ?_;intro w tape i _ hsh _ hok hpre _;obtain ⟨_,_,_,fn',hfn',_,_,_,_,hval⟩:=hok;have e:fn'=fn:=yp (hfn'.symm.trans hfn);subst e;obtain ⟨⟨⟨ds,gs,before,hw,_⟩,hx⟩,_⟩:=hpre;have hw':=DataW.Whole.of_heap (w':=w.forCall tape i) (by rfl) hw
 refine (contract (w.forCall tape i) w.heap.size i.args ds gs before hsh hval hw' (hX _ _ _ (by rfl) hx)).mono fun e W' ⟨v,he,hp⟩=>?_
 subst he;exact ChangeSpec.post_blind hp
end
