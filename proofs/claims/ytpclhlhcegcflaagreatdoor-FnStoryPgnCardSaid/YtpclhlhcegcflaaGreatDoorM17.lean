/- One part of the proof: Pk54 Pk71 Pgn4 Pgn5 Pgn6 Dfr2 Pgn7 San3 Pk82 Pk55 Pk56 Pk57 Pk58 Pk59 Pk60 Pk61 Pk78 Pk79 Pk80 Pk62 Pk63 Pk50 Pk64 Pk65 Pk67 Pk68 Pk81 Pk69 Two Mva Pk51 Pk70 Pk83 Pk84. -/
import Derived.Lib.UnsafeStr
import Derived.ChangeKeysEq
import Derived.ArgAppend
import Derived.Deep.Upon
import Derived.Test.YtpclhlhcegcflaaGreatDoorM16
namespace Go.Proofs.YtpclhlhcegcflaaGreatDoor
set_option maxRecDepth 100000
set_option linter.unusedSimpArgs false
set_option linter.unusedVariables false
section
open Go Go.RowKit
open E
open Ch Bb
structure Nb (b B:Nat) (w w':World):Prop where
 os:w'.os=w.os
 tape:w'.tape=w.tape
 output:w'.output=w.output
 size:B≤w'.heap.size
 else_:∀ k,k<B→k≠b→w'.heap[k]?=w.heap[k]?
section nb
variable {b B:Nat} {w w' w2:World}
theorem Nb.refl (b:Nat) (hB:B≤w.heap.size):Nb b B w w:=⟨rfl,rfl,rfl,hB,fun _ _ _=>rfl⟩
theorem Nb.trans (h:Nb b B w w') (h2:Nb b B w' w2):Nb b B w w2 :=
 ⟨h2.os.trans h.os,h2.tape.trans h.tape,h2.output.trans h.output,h2.size,fun k hk hn=>(h2.else_ k hk hn).trans (h.else_ k hk hn)⟩
theorem Nb.upd {o:Obj} (u:Upd w b o w') (hB:B≤w.heap.size):Nb b B w w':=⟨u.os,u.tape,u.output,by rw [u.size];exact hB,fun k _ hn=>u.else_ k hn⟩
theorem Nb.cl (h:Cl w w') (hB:B≤w.heap.size):Nb b B w w':=⟨h.os,h.tape,h.output,zw hB h.size,fun k hk _=>h.block k (xV hk hB)⟩
theorem Nb.blk (h:Nb b B w w') {k:Nat} {o:Obj} (hk:w.heap[k]?=some o) (hB:k<B) (hn:k≠b):w'.heap[k]?=some o:=by rw [h.else_ k hB hn];exact hk
theorem Nb.of (h:∀ w0:World,w0.heap.size=B→Cl w0 w→Cl w0 w') (hB:B≤w.heap.size):Nb b B w w':=by
 have e:(w.heap.extract 0 B).size=B:=by simp;omega
 have hc:Cl { w with heap:=w.heap.extract 0 B } w:=by
  refine ⟨rfl,rfl,rfl,?_,fun k hk=>?_⟩
  ·show (w.heap.extract 0 B).size≤_;omega
  ·have hk:k<(w.heap.extract 0 B).size:=hk;show w.heap[k]?=(w.heap.extract 0 B)[k]?;rw [Array.getElem?_extract,zM zo];simp
 have h2:=h _ e hc;refine ⟨h2.os,h2.tape,h2.output,by rw [← e];exact h2.size,fun k hk _=>?_⟩
 have:=h2.block k (by show k<(w.heap.extract 0 B).size;omega)
 rw [this];show (w.heap.extract 0 B)[k]?=_;rw [Array.getElem?_extract,zM zo];simp
end nb
structure Bw (b:Nat) (wr w:World) (l:Tx):Prop where
 is:∃ p v,(p = .pointer none∨p = .pointer (some ⟨b,0,none⟩))∧w.heap[b]?=some (.cells #[p,v] 160 (0,0))∧Row 5 1 a0h wr.heap.size w v l
 nb:Nb b wr.heap.size wr w
 lt:b<wr.heap.size
section bw
variable {b:Nat} {wr w w':World} {l:Tx}
theorem Bw.fresh (hk:w.heap[b]?=some (.cells #[.pointer none,.slice none 0 0] 160 (0,0))):Bw b w w []:=⟨⟨_,_,.inl rfl,hk,Row.nil _ _⟩,Nb.refl _ (yJ _),F4 hk⟩
theorem Bw.step (h:Bw b wr w l) (c:Cl w w'):Bw b wr w' l:=by
 obtain ⟨p,v,hp,hk,hr⟩:=h.is;exact ⟨⟨p,v,hp,c.blk hk,hr.step c⟩,h.nb.trans (Nb.cl c h.nb.size),h.lt⟩
end bw
section gens
variable {dst:Option Nat} {ty:Nat} {pos:String} {af:Array Edge} {gd:Option (Nat×Bool)} {env:C8}
theorem b95 {C:World→Prop} {K:Value→Prop} {x:Operand} {ts:Array Nat} {a:Addr} {n c:Nat} (hx:ev env x = .slice (some a) n c) (hc:c≠0) (h:K (.pointer (some a))) :
  b1x G.P C { dst,op:=.call { callee:=.builtin .unsafeSliceData,args:=#[x],argTypes:=ts },type:=ty,pos,after:=af,guard:=gd } env K:=by
 refine ⟨_,fun w _=>?_,h⟩;simp only [execOp,resolve,invoke,builtin,yj,xY,yp,xO,yQ,xb,hx,Lib.run_unsafeSliceData_row _ _ _ _ _ _ hc]
theorem c5i:G.P.underlying 221=some (.pointer 5):=by kernel_rfl
theorem c3L {w:World} {K:Value→World→Prop} {x y:Operand} {g:Nat} {l:Tx} {cur:Array Value} {fz:Nat×Nat} (hx:ev env x = .pointer (some ⟨g,0,none⟩)) (hy:ev env y = .int .i64 l.length) (hl:l≠[]) (h6:l.length≤1000000) (hg:w.heap[g]?=some (.cells cur 5 fz)) (hlen:l.length≤cur.size) (hc:∀ (j:Nat) (x:UInt8),l[j]?=some x→cur[j]?=some (Value.int .u8 x.toNat)) (h:K (m9 l) (w.freeze ⟨g,0,none⟩ l.length)) :
  H4 G.P { dst,op:=.call { callee:=.builtin .unsafeString,args:=#[x,y],argTypes:=#[221,3] },type:=ty,pos,after:=af,guard:=gd } env w K:=by
 have h1:(Builtin.unsafeString_ #[221,3] ty #[.pointer (some ⟨g,0,none⟩),.int .i64 l.length]).run G.P w = .ok (.string ⟨l.toArray⟩) (w.freeze ⟨g,0,none⟩ l.length):=by
  refine Lib.run_unsafeString_row w 221 3 ty 5 c5i zk g cur.size (by simp [World.shape?,hg]) l hl hlen zo ?_
  intro j x hx;rw [E3,yW,C9 hg];exact hc j x hx
 refine ⟨.inl ⟨_,_,?_,h⟩⟩;simp only [execOp,resolve,invoke,builtin,yj,xY,yp,xO,yQ,xb,hx,hy,h1];rfl
end gens
structure Wb (b B:Nat) (w w':World):Prop where
 os:w'.os=w.os
 tape:w'.tape=w.tape
 output:w'.output=w.output
 size:B≤w'.heap.size
 low:∀ k,k<B→k≠b→w'.heap[k]?=w.heap[k]?
 typ:∀ (k:Nat) (cs:Array Value) (t:Nat) (fz:Nat×Nat),t≠5→t≠160→w.heap[k]?=some (.cells cs t fz)→w'.heap[k]?=some (.cells cs t fz)
section
variable {b B:Nat} {w w' w2:World} {l:Tx}
theorem Wb.refl (b:Nat) (h:B≤w.heap.size):Wb b B w w:=⟨rfl,rfl,rfl,h,fun _ _ _=>rfl,fun _ _ _ _ _ _ h=>h⟩
theorem Wb.trans (h:Wb b B w w') (h2:Wb b B w' w2):Wb b B w w2:=⟨h2.os.trans h.os,h2.tape.trans h.tape,h2.output.trans h.output,h2.size,fun k hk hn=>(h2.low k hk hn).trans (h.low k hk hn),fun k cs t fz h1 h3 hk=>h2.typ k cs t fz h1 h3 (h.typ k cs t fz h1 h3 hk)⟩
theorem Wb.upd {o:Obj} {cs:Array Value} {fz:Nat×Nat} (u:Upd w b o w') (hb:w.heap[b]?=some (.cells cs 160 fz)) (hB:B≤w.heap.size):Wb b B w w' :=
 ⟨u.os,u.tape,u.output,by rw [u.size];exact hB,fun k _ hn=>u.else_ k hn,fun k c t f h1 h2 hk=>(Tn.upd u).blk hk (F9 hk hb h2)⟩
theorem Wb.grown {b0:Nat} {v:Value} (h:w.grownBy w' v.ownBlock) (hr:Row 5 1 a0h B w v l) (hB:B≤w.heap.size):Wb b B w w':=by
 refine ⟨h.os,h.tape,h.output,zw hB h.size,fun k hk hn=>h.block k zo (fun e=>?_),fun k cs t fz h1 h2 hk=>?_⟩
 ·have:=(Row.own hr e.symm).1;omega
 ·rw [h.block k (F4 hk) (fun e=>?_)];exact hk;rcases hr.2 with ⟨e1,_⟩|⟨g,cap,cur,e1,_,e3,_⟩
  ·rw [e1] at e;cases e
  ·rw [e1] at e;have e4:k=g:=yi e;exact F9 hk e3 h1 e4
theorem Wb.cl (h:Cl w w') (hB:B≤w.heap.size):Wb b B w w':=⟨h.os,h.tape,h.output,zw hB h.size,fun k hk _=>h.block k zo,fun k cs t fz _ _ hk=>h.blk hk⟩
theorem Wb.grow {v v':Value} (h:a6c B w v w' v') (hr:Row 5 1 a0h B w v l) (hB:B≤w.heap.size):Wb b B w w':=by
 have n:=Nb.of (b:=B) h.cl hB;refine ⟨n.os,n.tape,n.output,n.size,fun k hk _=>n.else_ k hk zo,fun k cs t fz h1 h2 hk=>h.keep k _ hk fun e=>?_⟩;rcases hr.2 with ⟨e1,_⟩|⟨g,cap,cur,e1,_,e3,_⟩
 ·rw [e1] at e;cases e
 ·rw [e1] at e;have e4:g=k:=yi e;exact F9 hk e3 h1 e4.symm
structure Bq (b B:Nat) (w:World) (l:Tx):Prop where
 is:∃ p v,(p = .pointer none∨p = .pointer (some ⟨b,0,none⟩))∧w.heap[b]?=some (.cells #[p,v] 160 (0,0))∧Row 5 1 a0h B w v l
 lt:b<B
 le:B≤w.heap.size
theorem Bq.step (h:Bq b B w l) (c:Cl w w'):Bq b B w' l:=by
 obtain ⟨p,v,hp,hk,hr⟩:=h.is;exact ⟨⟨p,v,hp,c.blk hk,hr.step c⟩,h.lt,zw h.le c.size⟩
theorem Bq.tn {P:Nat} {cs:Array Value} {fz:Nat×Nat} (h:Bq b B w l) (n:Tn P w w') (hP:w.heap[P]?=some (.cells cs 173 fz)):Bq b B w' l:=by
 obtain ⟨p,v,hp,hk,hr⟩:=h.is;exact ⟨⟨p,v,hp,n.blk hk (F9 hk hP zd),hr.tnT n hP zd⟩,h.lt,zw h.le n.size⟩
theorem Bq.fresh (hk:w.heap[b]?=some (.cells #[.pointer none,.slice none 0 0] 160 (0,0))):Bq b w.heap.size w []:=⟨⟨_,_,.inl rfl,hk,Row.nil _ _⟩,F4 hk,yJ _⟩
end
section
variable {dst:Option Nat} {ty:Nat} {pos:String} {af:Array Edge} {gd:Option (Nat×Bool)} {env:C8} {w:World} {K:Value→World→Prop}
theorem b96 {b0:Nat} {v:Value} {l s:Tx} {x y:Operand} (hs:ev env x=v) (hrow:Row 5 1 a0h b0 w v l) (hx:ev env y = .string (tx s)) (hlen:l.length+s.length≤1000000) (hb0:b0≤w.heap.size)
  (h:∀ v' w',Row 5 1 a0h b0 w' v' (l++s)→w.grownBy w' v.ownBlock→K v' w') :
  H4 G.P { dst,op:=.call { callee:=.builtin .append,args:=#[x,y],argTypes:=#[157,9] },type:=ty,pos,after:=af,guard:=gd } env w K:=by
 obtain ⟨i,hi,hz,hsz,hby⟩:=infoByte;obtain ⟨v',w',h1,h2,h3,_⟩:=Lib.run_append_own_string (P:=G.P) w b0 157 9 ty 5 i b0I b0G hi hz hsz hby v l.length (l.flatMap a0h) hrow (tx s) (by rw [C5];unfold maxLen;omega) (by rw [C5];omega) hb0
 have e:l.flatMap a0h++Lib.strCells (tx s)=(l++s).flatMap a0h:=by rw [x9,b5r s];rfl
 rw [e,C5] at h2;refine ⟨.inl ⟨v',w',?_,h v' w' ?_ h3⟩⟩
 ·simp only [execOp,resolve,invoke,builtin,yj,xY,yp,xO,yQ,xb,hs,hx,h1]
 ·unfold Row;rw [zF];exact h2
end
section
variable {b B:Nat} {w:World} {l:Tx}
theorem a4B (s:Tx) (h:Bq b B w l) (hl:l.length+s.length≤1000000) :
  Calls G.P 118 #[.pointer (some ⟨b,0,none⟩),m9 s] w (fun r w'=>r = .returned (.tuple #[.int .i64 s.length,.nilIface])∧Bq b B w' (l++s)∧Wb b B w w'):=by
 obtain ⟨p,v,hp,hk,hr⟩:=h.is;have hs:(tx s).size=s.length:=C5 _;have hB:=h.le;refine zN Tryz.func118 ?_;refine zR ?_;refine o7 (b20 hp hk) ?_;rintro r w1 ⟨rfl,u1⟩;refine ⟨_,rfl,?_⟩;have hv:=hr.updT u1 hk zd;obtain ⟨av,cv,rfl,hav⟩:=hv.form;have hB1:B≤w1.heap.size:=by rw [u1.size];exact hB
 refine zR ?_;refine b7 _ (L5 u1.at_ rfl rfl) (zR ?_);refine b96 rfl hv rfl hl hB1 fun v' w2 hr2 hc2=>?_;have n2:Wb b B w1 w2:=Wb.grown (b0:=B) hc2 hv hB1;obtain ⟨a9,c9,rfl,_⟩:=hr2.form;have hk2:w2.heap[b]?=some (.cells #[.pointer (some ⟨b,0,none⟩),.slice av l.length cv] 160 (0,0)):=by
  rw [hc2.block b (F4 u1.at_) (fun e=>by have:=(Row.own hv e.symm).1;have:=h.lt;omega)];exact u1.at_
 refine zR ?_;refine zT hk2 [.slice a9 (l++s).length c9] fun w3 u3=>?_;refine zR ?_;rw [hs];exact ⟨rfl,⟨⟨_,_,.inr rfl,u3.at_,hr2.updT u3 hk2 zd⟩,h.lt,by rw [u3.size];exact n2.size⟩,((Wb.upd u1 hk hB).trans n2).trans (Wb.upd u3 hk2 n2.size)⟩
theorem b97 (h:Bq b B w l) (hl:l≠[]) (h6:l.length≤1000000):Calls G.P 124 #[.pointer (some ⟨b,0,none⟩)] w (fun r w'=>r = .returned (m9 l)∧Wb b B w w'):=by
 obtain ⟨p,v,hp,hk,hr⟩:=h.is;have hpos:0<l.length:=List.length_pos_iff.2 hl;obtain ⟨g,cap,cur,rfl,hg,hcap,hgb,hlc,hcc⟩:∃ g cap cur,v = .slice (some ⟨g,0,none⟩) l.length cap∧B≤g∧l.length≤cap∧w.heap[g]?=some (.cells cur 5 (0,0))∧l.length≤cur.size∧∀ (j:Nat) (x:UInt8),l[j]?=some x→cur[j]?=some (Value.int .u8 x.toNat):=by
  have hown:=b8U.1 hr;rcases hr.2 with ⟨_,e⟩|⟨g,cap,cur,e,hg,hb,hle,_,hsz,_⟩
  ·omega
  ·subst e;refine ⟨g,cap,cur,rfl,hg,hle,hb,zo,fun j x hx=>?_⟩;have:=hown.cells (g:=g) rfl j (.int .u8 x.toNat) (by simp [Lib.byteCells,hx])
   rw [E3,yW,C9 hb] at this;exact this
 refine zN Tryz.func124 ?_;refine zR ?_;refine zK 10 ?_;refine zR ?_;refine m7 _ (fun w' hw=>L5 (hw.blk hk) rfl rfl) (zR ?_);refine b95 rfl zo (zR ?_);refine m7 _ (fun w' hw=>L5 (hw.blk hk) rfl rfl) (zR ?_);intro w2 c2;refine zR ?_;refine c3L rfl rfl hl h6 (c2.blk hgb) hlc hcc (zR ?_);have n1:Wb b B w w2:=Wb.cl c2 h.le;refine ⟨rfl,n1.trans ?_⟩;have hg2:=c2.blk hgb;have hs2:B≤w2.heap.size:=n1.size;unfold World.freeze;split
 ·exact Wb.refl b hs2
 ·refine ⟨rfl,rfl,rfl,by simpa using hs2,fun k hk hn=>?_,fun k cs t fz h1 h2 hk=>?_⟩
  ·simp only [Array.getElem?_modify];rw [zJ zo]
  ·have hne:g≠k:=(F9 hk hg2 h1).symm;simp only [Array.getElem?_modify];rw [zJ hne];exact hk
end
def a6B (p:l9) (first:Bool):Tx:=if p.turn=0 then X8 p.full.toNat++[46,32] else if first=true then X8 p.full.toNat++[46,46,46,32] else []
def a3P (c:Tx):Tx:=if c=[] then [] else [32,123]++c++[125]
def mvT (p:l9) (first:Bool) (m:Mv) (c:Tx):Tx:=a6B p first++a28 p m++a3P c
def Z9:l9→Bool→List (Mv×Tx)→Tx
 | _,_,[]=>[]
 | p,f,x::r=>mvT p f x.1 x.2++[32]++Z9 (made p x.1) false r
def a2g:l9→Bool→List (Mv×Tx)→Tx
 | _,_,[]=>[]
 | p,f,x::r=>mvT p f x.1 x.2++(if r=[] then [] else [32]++a2g (made p x.1) false r)
theorem a8Z:∀ (x:Mv×Tx) (r:List (Mv×Tx)) (p:l9) (f:Bool),a2g p f (x::r)++[32]=Z9 p f (x::r)
 | x,[],p,f=>by simp [a2g,Z9]
 | x,y::r,p,f=>by
  rw [a2g,Z9,zJ (by simp),← a8Z y r]
  simp [yG]
structure Bs (w0:World) (b B:Nat) (w:World) (l:Tx):Prop where
 bq:Bq b B w l
 c:Cl w0 w
 hb:w0.heap.size≤b
section
variable {w0 w w':World} {b B:Nat} {l l':Tx}
theorem Bs.cl (h:Bs w0 b B w l) (c:Cl w w'):Bs w0 b B w' l:=⟨h.bq.step c,h.c.trans c,h.hb⟩
theorem Bs.wb (h:Bs w0 b B w l) (u:Wb b B w w') (q:Bq b B w' l'):Bs w0 b B w' l':=by
 have h1:=h.hb;have h2:=h.bq.lt;refine ⟨q,⟨u.os.trans h.c.os,u.tape.trans h.c.tape,u.output.trans h.c.output,zw zo u.size,fun k hk=>?_⟩,h1⟩;rw [u.low k zo zo];exact h.c.block k hk
theorem a0Q (s:Tx) (h:Bs w0 b B w l) (hl:l.length+s.length≤1000000):Calls G.P 118 #[.pointer (some ⟨b,0,none⟩),m9 s] w (fun r w'=>r = .returned (.tuple #[.int .i64 s.length,.nilIface])∧Bs w0 b B w' (l++s)) :=
 (a4B s h.bq hl).mono fun _ _ ⟨h1,h2,h3⟩=>⟨h1,h.wb h3 h2⟩
theorem a7s {M:Nat} {d:Nd} {t:Nat} {fz:Nat×Nat} (hS:Bs w0 b B w l) (hM:w0.heap[M]?=some (.cells (E8 d) t fz)) (hl:l.length+(a3P d.com).length≤1000000) :
  Calls G.P 122 #[.pointer (some ⟨M,0,none⟩),.pointer (some ⟨b,0,none⟩)] w (fun r w'=>r = .returned (.tuple #[])∧Bs w0 b B w' (l++a3P d.com)):=by
 have hl1:=fun w' (c:Cl w0 w')=>b38 (c.blk hM);unfold a3P at hl ⊢;generalize d.com=T at *;refine zN Tryz.func122 ?_;refine zR ?_;refine b7 _ (hl1 _ hS.c) (zR ?_);apply E.y6<;>intro h
 ·have q:T≠[]:=fun e=>h (by rw [e];rfl)
  clear h;rw [zJ q] at hl ⊢;simp only [zF,zh,za] at hl;refine zR ?_;refine b7 _ (hl1 _ hS.c) (zR ?_);refine E.A8 (A5 (x:=[32,123]) (y:=T) (by simp;omega)) ?_
  rw [J4,A9];refine zR ?_;refine E.A8 (A5 (x:=[32,123]++T) (y:=[125]) (by simp;omega)) ?_
  rw [J4,A9];refine zR ?_;refine o7 (a0Q ([32,123]++T++[125]) hS (by simp;omega)) ?_
  rintro r w2 ⟨rfl,h2⟩;refine ⟨_,rfl,zR ?_⟩;exact ⟨rfl,h2⟩
 ·have q:T=[]:=P8.1 h;refine zR ?_;rw [zM q,zn];exact ⟨rfl,hS⟩
theorem a9v {p:l9} (h1:1≤p.full) (h2:p.full≤4611686018427387900) (ht:p.turn=0∨p.turn=1) (f:Bool) (hw:Pow w0) (hS:Bs w0 b B w l) (hl:l.length+(a6B p f).length≤1000000) :
  Calls G.P 184 #[.int .i64 p.full,.bool (decide (p.turn=0)),.bool false,.bool false,.bool f,.pointer (some ⟨b,0,none⟩)] w (fun r w'=>r = .returned (.tuple #[])∧Bs w0 b B w' (l++a6B p f)):=by
 obtain ⟨n,hn⟩:=ze (show 0≤p.full by omega)
 unfold a6B at hl ⊢;rw [hn] at hl ⊢;rw [zg] at hl ⊢;have hit:=fun w' (c:Cl w0 w')=>c3y n zo w' (hw.cl c);generalize X8 n=D at *;refine zN Tryz.func184 ?_;refine zR ?_;rcases ht with ht|ht
 ·rw [ht] at hl ⊢;rw [zM rfl] at hl ⊢;simp only [zF,zh,za] at hl;refine zR ?_;refine o9 (hit _ hS.c) fun w1 c1=>zR ?_;refine E.A8 (A5 (x:=D) (y:=[46,32]) (by simp;omega)) ?_
  rw [J4,A9];refine zR ?_;refine o7 (a0Q (D++[46,32]) (hS.cl c1) (by simp;omega)) ?_
  rintro r w2 ⟨rfl,h2⟩;refine ⟨_,rfl,zR ?_⟩;exact ⟨rfl,h2⟩
 ·rw [ht] at hl ⊢;rw [zJ zd] at hl ⊢;cases f
  ·refine zR ?_;rw [zJ zd,zn];exact ⟨rfl,hS⟩
  ·rw [zM rfl] at hl ⊢;simp only [zF,zh,za] at hl;refine zR ?_;refine o9 (hit _ hS.c) fun w1 c1=>zR ?_;refine E.A8 (A5 (x:=D) (y:=[46,46,46,32]) (by simp;omega)) ?_
   rw [J4,A9];refine zR ?_;refine o7 (a0Q (D++[46,46,46,32]) (hS.cl c1) (by simp;omega)) ?_
   rintro r w2 ⟨rfl,h2⟩;refine ⟨_,rfl,zR ?_⟩;exact ⟨rfl,h2⟩
theorem b4v {M P:Nat} {d:Nd} {t:Nat} {fz:Nat×Nat} (hM:w.heap[M]?=some (.cells (E8 d) t fz)) (hp:d.pos = .pointer (some ⟨P,0,none⟩)):Calls G.P 120 #[.pointer (some ⟨M,0,none⟩)] w (E5 (.pointer (some ⟨P,0,none⟩)) w):=by
 have hl:g8 G.P w 83 ⟨M,1,none⟩ (.pointer (some ⟨P,0,none⟩)):=by
  have:=b8s hM
  rwa [hp] at this
 refine zN Tryz.func120 ?_;refine zR ?_;refine b7 _ hl (zR ?_);exact ⟨rfl,rfl⟩
section
variable {dst:Option Nat} {ty:Nat} {pos:String} {af:Array Edge} {gd:Option (Nat×Bool)} {env:C8} {K:Value→World→Prop} {t k e:Nat} {x:Operand}
theorem b6Z (ht:G.P.underlying t=some (.map k e)) (hx:ev env x = .map none) (h:K (.int .i64 0) w):H4 G.P { dst,op:=.call { callee:=.builtin .len,args:=#[x],argTypes:=#[t] },type:=ty,pos,after:=af,guard:=gd } env w K:=by
 refine ⟨.inl ⟨_,_,?_,h⟩⟩;have h1:(Builtin.len_ #[t] ty #[.map none]).run G.P w = .ok (.int .i64 0) w:=by simp [Builtin.len_,run_underlying ht,goInt]
 simp only [execOp,resolve,invoke,builtin,yj,xY,yp,xO,yQ,xb,hx,h1]
theorem b98 {m c:Nat} {es:Array MapEntry} (ht:G.P.underlying t=some (.map k e)) (hx:ev env x = .map (some m)) (hb:w.heap[m]?=some (.map es c)) (h:K (.int .i64 es.size) w):H4 G.P { dst,op:=.call { callee:=.builtin .len,args:=#[x],argTypes:=#[t] },type:=ty,pos,after:=af,guard:=gd } env w K:=by
 refine ⟨.inl ⟨_,_,?_,h⟩⟩;have h1:(Builtin.len_ #[t] ty #[.map (some m)]).run G.P w = .ok (.int .i64 es.size) w:=by simp [Builtin.len_,run_underlying ht,goInt,MapKept.run_getObj_map hb]
 simp only [execOp,resolve,invoke,builtin,yj,xY,yp,xO,yQ,xb,hx,h1]
end
theorem c3M:G.P.underlying 126=some (.map 9 9):=by kernel_rfl
theorem b4w {p:l9} (hI:Ch.D0 p) (hN:a1A p) (hle:(B5 p).length≤218) {P bb N M n0 k0:Nat} {ad:Addr} {d dn:Nd} (hm:d.mv∈A1 p) (htg:(d.tags:Int)=a0W p d.mv) (hT:D5 w0) (hP:I0 w0 P bb p (.slice (some ad) n0 k0))
  (hM:w0.heap[M]?=some (.cells (E8 d) 141 (0,0))) (hNd:w0.heap[N]?=some (.cells (E8 dn) 141 (0,0))) (hpos:dn.pos = .pointer (some ⟨P,0,none⟩)) (hS:Bs w0 b B w l) (hl:l.length+(a28 p d.mv).length≤1000000) :
  Calls G.P 185 #[.pointer (some ⟨N,0,none⟩),.pointer (some ⟨M,0,none⟩),.bool false,.pointer (some ⟨b,0,none⟩)] w (fun r w'=>r = .returned (.tuple #[])∧Bs w0 b B w' (l++a28 p d.mv)):=by
 have q:=fun w' (c:Cl w0 w')=>b2z hI hN hle hm id htg w' (hT.cl c) (hP.step c) (c.blk hM);rw [c1i hI hm htg] at q;generalize a28 p d.mv=T at *;refine zN Tryz.func185 ?_;refine zR ?_;refine y7 #[] zk (zR ?_);refine l8 (b4v (hS.c.blk hNd) hpos) (zR ?_);refine o9 (q _ hS.c) fun w1 c1=>zR ?_;refine o7 (a0Q T (hS.cl c1) hl) ?_;rintro r w2 ⟨rfl,h2⟩;refine ⟨_,rfl,zR ?_⟩;exact ⟨rfl,h2⟩
theorem b2O {M:Nat} {d:Nd} (hM:w.heap[M]?=some (.cells (E8 d) 141 (0,0))) :
  Calls G.P 186 #[.pointer (some ⟨M,0,none⟩),.pointer (some ⟨b,0,none⟩)] w (E5 (.tuple #[]) w):=by
 refine zN Tryz.func186 ?_;refine zR ?_;refine b7 _ (L5 (v:=.map none) hM rfl rfl) (zR ?_);refine b6Z c3M rfl (zR ?_);exact ⟨rfl,rfl⟩
theorem b2P {N n k:Nat} {ad:Option Addr} {d:Nd} (hN:w.heap[N]?=some (.cells (E8 d) 141 (0,0))) (hk:d.kids = .slice ad n k) (hn:n≤1) {x y:Value} :
  Calls G.P 187 #[.pointer (some ⟨N,0,none⟩),x,y,.pointer (some ⟨b,0,none⟩)] w (E5 (.bool false) w):=by
 have hl:g8 G.P w 134 ⟨N,5,none⟩ (.slice ad n k):=by
  have:g8 G.P w 134 ⟨N,5,none⟩ d.kids:=L5 hN rfl rfl
  rwa [hk] at this
 refine zN Tryz.func187 ?_;refine zR ?_;refine b7 _ hl (zR ?_);refine E.p9 zo (zR ?_);exact ⟨rfl,rfl⟩
end
def Tld:List H0→Prop
 | []=>True
 | [_]=>True
 | n::m::l=>(∃ ad n0 c0,n.cv = .slice (some ad) n0 c0)∧m.d.mv∈A1 n.p∧(m.d.tags:Int)=a0W n.p m.d.mv∧m.p=made n.p m.d.mv∧Ch.D0 n.p∧a1A n.p∧(B5 n.p).length≤218∧n.p.full≤4611686018427387900∧Tld (m::l)
def prs (l:List H0):List (Mv×Tx):=l.map fun n=>(n.d.mv,n.d.com)
theorem c3N {w:World} {m:H0} {g k c:Nat} (h:Row 85 1 J1 0 w (.slice (some ⟨g,0,none⟩) k c) [m.M]):g8 G.P w 85 ⟨g,0,none⟩ (.pointer (some ⟨m.M,0,none⟩)):=by
 obtain ⟨cur,hb,h2⟩:=Row.get h R0 0 0 (by simp) zd
 exact L5 hb (h2.trans rfl) rfl
def Wrt (w0:World) (b B:Nat) (n m:H0) (l:List H0) (f:Bool):Prop:=∀ (w:World) (T:Tx),Bs w0 b B w T→T.length+(a2g n.p f (prs (m::l))).length≤1000000 →
  Calls G.P 119 #[.pointer (some ⟨n.M,0,none⟩),.int .i64 n.p.full,.bool (decide (n.p.turn=0)),.pointer (some ⟨b,0,none⟩),.bool false,.bool false,.bool f] w (fun r w'=>r = .returned (.bool false)∧Bs w0 b B w' (T++a2g n.p f (prs (m::l))))
theorem b5A {w:World} {k:Value} {l:List H0} (h:a3J w k l):∃ a c,k = .slice a (if l=[] then 0 else 1) c:=by
 cases l with
 | nil=>exact ⟨none,0,h⟩
 | cons m r =>
  obtain ⟨a,c,e,_⟩:=(show Row 85 1 J1 0 w k [m.M] from h).form;exact ⟨a,c,by rw [zJ (by simp)];exact e⟩
set_option maxHeartbeats 1000000 in
theorem b2R {w0:World} {b B:Nat} (hT:D5 w0) (hw:Pow w0) (l:List H0) (n m:H0) (f:Bool) (hC:Chn w0 (n::m::l)) (hL:Tld (n::m::l)) (hf:f=true→n.d.com=[]) (ih:∀ m2 r,l=m2::r→Wrt w0 b B m m2 r false):Wrt w0 b B n m l f:=by
 intro w T hS hlen;obtain ⟨c1,c2,c3,c4,hC2⟩:=hC;obtain ⟨d1,d2,d3,d4,_⟩:=hC2;obtain ⟨⟨ad,n0,k0,hcv⟩,l1,l2,l3,l4,l5,l6,l7,hL2⟩:=hL;have e1:a2g n.p f (prs (m::l))=a6B n.p f++a28 n.p m.d.mv++a3P m.d.com++(if l=[] then [] else [32]++a2g m.p false (prs l)):=by
  show mvT n.p f m.d.mv m.d.com++(if prs l=[] then [] else [32]++a2g (made n.p m.d.mv) false (prs l))=_
  rw [← l3];cases l<;>rfl
 rw [e1] at hlen ⊢;have hfull:m.p.full=n.p.full+n.p.turn:=by rw [l3];rfl
 have hturn:m.p.turn=1-n.p.turn:=by rw [l3];rfl
 have ih:∀ m2 r,l=m2::r→∀ (w:World) (T:Tx),Bs w0 b B w T→T.length+(a2g m.p false (prs l)).length≤1000000 →
   Calls G.P 119 #[.pointer (some ⟨m.M,0,none⟩),.int .i64 (n.p.full+n.p.turn),.bool (decide (1-n.p.turn=0)),.pointer (some ⟨b,0,none⟩),.bool false,.bool false,.bool false] w (fun r w'=>r = .returned (.bool false)∧Bs w0 b B w' (T++a2g m.p false (prs l))):=fun m2 r e w T hS hl=>by
  have:=ih m2 r e w T hS (by rw [← e];exact hl)
  rw [← e,hfull,hturn] at this;exact this
 generalize a2g m.p false (prs l)=R at *;simp only [zF] at hlen;rw [hcv] at c4;have q1:=fun w T hS hl=>a9v (w:=w) (l:=T) (b:=b) (B:=B) l4.f1 l7 l4.turn f hw hS hl;have q2:=fun w T hS hl=>b4w (w:=w) (l:=T) (b:=b) (B:=B) l4 l5 l6 l1 l2 hT c4 d1 c1 c2 hS hl;have q3:=fun w T hS hl=>a7s (w:=w) (l:=T) (b:=b) (B:=B) hS d1 hl;generalize a6B n.p f=NT at *;generalize a28 n.p m.d.mv=ST at *;generalize a3P m.d.com=CT at *;have hkn:Row 85 1 J1 0 w0 n.d.kids [m.M]:=c3;obtain ⟨an,cn,ekn,han⟩:=hkn.form;obtain ⟨gn,rfl⟩:=han (by simp)
 obtain ⟨am,cm,ekm⟩:=b5A d3;rw [ekn] at hkn;have kn:=fun w' (c:Cl w0 w')=>c3N (m:=m) (hkn.step c);have ln:∀ w',Cl w0 w'→g8 G.P w' 134 ⟨n.M,5,none⟩ (.slice (some ⟨gn,0,none⟩) 1 cn):=fun w' c=>by
  have:g8 G.P w' 134 ⟨n.M,5,none⟩ n.d.kids:=b0N (c.blk c1)
  rwa [ekn] at this
 have lm:∀ w',Cl w0 w'→g8 G.P w' 134 ⟨m.M,5,none⟩ (.slice am (if l=[] then 0 else 1) cm):=fun w' c=>by
  have:g8 G.P w' 134 ⟨m.M,5,none⟩ m.d.kids:=b0N (c.blk d1)
  rwa [ekm] at this
 have lc:∀ w',Cl w0 w'→g8 G.P w' 9 ⟨n.M,3,none⟩ (m9 n.d.com):=fun w' c=>b38 (c.blk c1);have hv:=fun w' (c:Cl w0 w') x y=>b2P (b:=b) (x:=x) (y:=y) (c.blk c1) ekn (yJ _);have hcm:=fun w' (c:Cl w0 w')=>b2O (b:=b) (c.blk d1);generalize n.d.com=NC at *;have hf1:=l4.f1;have htu:=l4.turn;clear c1 c2 c3 c4 d1 d2 d3 d4 l1 l2 l3 l4 l5 l6 hL2 ekn ekm hkn hcv e1 hfull hturn han;generalize n.p.full=F at *;generalize n.p.turn=TU at *;generalize n.M=NM at *;generalize m.M=MM at *;refine zN Tryz.func119 ?_;refine zR ?_;refine Y7 false (N6 rfl _) (zG ?_);refine Nx.mk (zG ?_);refine C3 (σ:=Unit) [] 20 (fun _=>[]) (fun _ w'=>w'=w) zk ?_ (fun _ j w1 e=>?_)
 ·cases f
  ·refine zR ?_;exact ⟨(),trivial,rfl⟩
  ·rw [hf rfl] at lc;refine zR ?_;refine b7 _ (lc _ hS.c) (zR ?_);exact ⟨(),trivial,rfl⟩
 subst e;refine zR ?_;refine b7 _ (ln _ hS.c) (zR ?_);refine b7 _ (ln _ hS.c) (zR ?_);refine b7 _ (kn _ hS.c) (zR ?_);refine o7 (q1 _ _ hS zo) ?_;rintro e w2 ⟨rfl,h2⟩;refine ⟨_,rfl,zR ?_⟩;refine o7 (q2 _ _ h2 (by rw [zF];omega)) ?_
 rintro e w3 ⟨rfl,h3⟩;refine ⟨_,rfl,zR ?_⟩;refine o7 (q3 _ _ h3 (by rw [zF,zF];omega)) ?_
 rintro e w4 ⟨rfl,h4⟩;refine ⟨_,rfl,zR ?_⟩;refine l8 (hcm _ h4.c) (zR ?_);refine b7 _ (ln _ h4.c) (zR ?_);refine b7 _ (lm _ h4.c) ?_;rcases l with _|⟨m2,r⟩
 ·rw [zM rfl] at lm hlen ⊢;rw [zM rfl,zn];have e:T++NT++ST++CT=T++(NT++ST++CT):=by simp only [yG]
  rw [e] at h4;refine zR ?_;refine l8 (hv _ h4.c _ _) (zR ?_);refine b7 _ (lm _ h4.c) (zR ?_);exact ⟨rfl,h4⟩
 ·rw [zJ (by simp)] at lm hlen ⊢
  rw [zJ (by simp)]
  simp only [zF,zh,za] at hlen;refine zR ?_;refine o7 (a0Q [32] h4 (by simp only [zF,zh,za];omega)) ?_
  rintro e w5 ⟨rfl,h5⟩;refine ⟨_,rfl,zR ?_⟩;refine l8 (hv _ h5.c _ _) (zR ?_);refine b7 _ (lm _ h5.c) (zR ?_);have e:T++NT++ST++CT++[32]++R=T++(NT++ST++CT++([32]++R)):=by simp only [yG]
  have hh:=ih m2 r rfl _ _ h5 (by simp only [zF,zh,za];omega)
  rw [e] at hh;rcases htu with rfl|rfl
  ·refine zR ?_;rw [Int.add_zero] at hh;refine o7 hh ?_;rintro e w6 ⟨rfl,h6⟩;refine ⟨_,rfl,zR ?_⟩;exact ⟨rfl,h6⟩
  ·refine zR ?_;have wF:IntKind.i64.wrap (F+1)=F+1:=g9 zo zo;rw [← wF] at hh;refine o7 hh ?_;rintro e w6 ⟨rfl,h6⟩;refine ⟨_,rfl,zR ?_⟩;exact ⟨rfl,h6⟩
theorem a5P {w0:World} {b B:Nat} (hT:D5 w0) (hw:Pow w0):∀ (l:List H0) (n m:H0) (f:Bool),Chn w0 (n::m::l)→Tld (n::m::l)→(f=true→n.d.com=[])→Wrt w0 b B n m l f
 | [],n,m,f,hC,hL,hf=>b2R hT hw [] n m f hC hL hf fun _ _ e=>by cases e
 | m2::l,n,m,f,hC,hL,hf=>b2R hT hw (m2::l) n m f hC hL hf fun m3 r e=>by
  obtain ⟨rfl,rfl⟩:=List.cons.inj e;exact a5P hT hw l m m2 false hC.2.2.2.2 hL.2.2.2.2.2.2.2.2 (fun e=>by cases e)
def a7t (tg:List Tg) (p:l9) (ms:List (Mv×Tx)) (out:Tx):Tx:=X3 tg++(if tg=[] then [] else [10])++Z9 p true ms++out
theorem c6b:F0 161 163 2 32:=T7 zk
theorem Bs.tn {w0 w w':World} {b B P t:Nat} {l:Tx} {cs:Array Value} {fz:Nat×Nat} (h:Bs w0 b B w l) (n:Tn P w w') (hP:w.heap[P]?=some (.cells cs t fz)) (h1:160≠t) (h2:5≠t) (h0:w0.heap.size≤P):Bs w0 b B w' l:=by
 obtain ⟨p,v,hp,hk,hr⟩:=h.bq.is;exact ⟨⟨⟨p,v,hp,n.blk hk (F9 hk hP h1),hr.tnT n hP h2⟩,h.bq.lt,zw h.bq.le n.size⟩,n.toCl h.c h0,h.hb⟩
theorem zTg:(G.P.info? 163).bind (·.zero)=some (.agg #[m9 [],m9 []]):=by kernel_rfl
theorem c5j:(G.P.info? 163).map (·.size)=some 2:=by kernel_rfl
theorem b2S {dst:Option Nat} {ty:Nat} {pos:String} {af:Array Edge} {gd:Option (Nat×Bool)} {env:C8} {w:World} {K:Value→World→Prop} {t k e:Nat} {x:Operand} {m c:Nat} {l:List EnT} (ht:G.P.underlying t=some (.map k e)) (hx:ev env x = .map (some m)) (hb:w.heap[m]?=some (a1M l c)) (h:K (.int .i64 (l.length:Nat)) w) :
  H4 G.P { dst,op:=.call { callee:=.builtin .len,args:=#[x],argTypes:=#[t] },type:=ty,pos,after:=af,guard:=gd } env w K:=by
 refine b98 ht hx hb ?_;rw [show (l.map a3e).toArray.size=l.length by simp];exact h
def Pf (cs:Array Value) (D:List Tg) (n:Nat):Prop:=cs.size=n*2∧D.length≤n∧∀ j,j<D.length*2→cs[j]?=(D.flatMap F5)[j]?
theorem Pf.snoc {cs:Array Value} {D:List Tg} {n:Nat} (h:Pf cs D n) (x:Tg) (hl:D.length<n):Pf (L8 cs (D.length*2) [m9 x.k,m9 x.v]) (D++[x]) n:=by
 obtain ⟨h1,h2,h3⟩:=h;refine ⟨by rw [a0a];exact h1,by simp;omega,fun j hj=>?_⟩
 rw [zF,List.length_singleton] at hj;rw [S0 _ _ _ _ (by simp only [zh,za];omega),x9,List.flatMap_singleton]
 simp only [zh,za];by_cases e:j<D.length*2
 ·rw [zJ zo,h3 j e,List.getElem?_append_left (by rw [O2];exact e)]
 ·rw [zM zo,List.getElem?_append_right (by rw [O2];omega),O2];rfl
theorem Pf.full {cs:Array Value} {D:List Tg} {n:Nat} (h:Pf cs D n) (hl:D.length=n):cs=(D.flatMap F5).toArray:=by
 apply xv;intro j;by_cases e:j<D.length*2
 ·rw [h.2.2 j e,List.getElem?_toArray]
 ·rw [xj (by rw [h.1];omega),xj (by rw [List.size_toArray,O2];omega)]
theorem c6c {w:World} {k t:Nat} {fz:Nat×Nat} {l:List Tg} (hb:w.heap[k]?=some (.cells (l.flatMap F5).toArray t fz)) {i:Nat} (hi:i<l.length):g8 G.P w 163 ⟨k,E.J0 0 ((i:Int)).toNat 2,none⟩ (.agg #[m9 l[i].k,m9 l[i].v]):=by
 have e:(l.flatMap F5).toArray.extract (0+i*2) (0+i*2+2)=#[m9 l[i].k,m9 l[i].v]:=by
  apply xv;intro j;rw [Array.getElem?_extract,List.size_toArray,O2];by_cases hj:j<2
  ·rw [zM zo,show (l.flatMap F5).toArray[0+i*2+j]?=(l.flatMap F5)[0+i*2+j]? from List.getElem?_toArray ..,a68,dif_pos zo];have e1:(0+i*2+j)/2=i:=by omega
   have e2:(0+i*2+j)%2=j:=by omega
   simp only [e1,e2];simp [F5]
  ·rw [zJ zo,xj (by simp;omega)]
 have:=ldA (t:=163) (o:=0+i*2) (z:=2) hb rfl (by rw [List.size_toArray,O2];omega)
 rw [e] at this;rw [E.r9,zg];exact this
theorem c1V {i:Nat} (h:i≤1000):IntKind.u64.wrap ((i:Int)+1)=((i+1:Nat):Int):=by
 unfold IntKind.wrap;simp only [IntKind.signed,IntKind.bits];simp;omega
theorem b2T (T:Tx) (w:World):Calls G.P 123 #[m9 T] w (E5 (m9 T) w):=by
 refine zN Tryz.func123 ?_;refine zR ?_;exact ⟨rfl,rfl⟩
def b1l (x:EnT):Tg:=⟨x.k,x.v⟩
set_option maxHeartbeats 2000000 in
theorem b7a {w:World} {G0 m c:Nat} {g:Gm} {n:H0} {l:List H0} {es:List EnT} {f:Tx→Option Tx} {tg:List Tg} (hT:D5 w) (hw:Pow w) (hb:w.heap[G0]?=some (.cells (gmA g) 131 (0,0))) (hg:g.tags = .map (some m)) (hm:w.heap[m]?=some (a1M es c))
  (hE:b6N f es c) (h12:es.length≤12) (htg:a64 f tg) (hr:g.root=n.M) (hC:Chn w (n::l)) (hL:Tld (n::l)) (hn:n.d.com=[]) (ho:g.out≠[]) (hlen:(a7t tg n.p (prs l) g.out).length≤1000000) :
  Calls G.P 77 #[.pointer (some ⟨G0,0,none⟩)] w (N2 (m9 (a7t tg n.p (prs l) g.out)) w):=by
 have hl:∀ w',Cl w w'→g8 G.P w' 127 ⟨G0,2,none⟩ (.map (some m)):=fun w' c=>by
  have:g8 G.P w' 127 ⟨G0,2,none⟩ g.tags:=L5 (c.blk hb) rfl rfl
  rwa [hg] at this
 have hml:=F4 hm;refine zN Tryz.func77 ?_;refine zR ?_;refine v8 _ b8o ?_;have c1:=Cl.alloc w (.cells (Value.agg #[.pointer none,.slice none 0 0]).cells 160);have nb:=d9 w (.cells (Value.agg #[.pointer none,.slice none 0 0]).cells 160);have s1:=B0 w (.cells (Value.agg #[.pointer none,.slice none 0 0]).cells 160);generalize w.alloc (.cells (Value.agg #[.pointer none,.slice none 0 0]).cells 160)=w1 at *;obtain ⟨b,hbw⟩:∃ x,x=w.heap.size:=⟨_,rfl⟩;rw [← hbw] at nb ⊢;refine zR ?_;refine b7 _ (hl _ c1) (zR ?_);refine b2S mTags.ty rfl (c1.blk hm) (zR ?_);refine b2m c6b es.length rfl rfl zo zd fun cs hcs=>?_;have c2:=c1.trans (Cl.alloc w1 (.cells cs 163));have nt:=d9 w1 (.cells cs 163);have nb:=(Cl.alloc w1 (.cells cs 163)).blk nb;have s2:=B0 w1 (.cells cs 163);generalize w1.alloc (.cells cs 163)=w2 at *;obtain ⟨kt,hkt⟩:∃ x,x=w1.heap.size:=⟨_,rfl⟩;rw [← hkt] at nt ⊢;refine zR ?_;refine b7 _ (hl _ c2) (zR ?_);refine b4k mTags rfl (c2.blk hm) hE.nd hE.st fun w3 c3 s3 hI3=>?_;have nt:=c3.blk nt;have nb:=c3.blk nb;have c3:=c2.trans c3;obtain ⟨it,hit⟩:∃ x,x=w2.heap.size:=⟨_,rfl⟩;rw [← hit] at hI3 ⊢;refine zR ?_;refine B6 (σ:=List EnT×List Tg×Array Value) [5,6,7] 22 (fun s=>[(5,.int .u64 (s.2.1.length:Nat))]) (fun s w'=>Cl w w'∧a9t w' m it es c s.1∧w'.heap[b]?=some (.cells #[.pointer none,.slice none 0 0] 160 (0,0))∧w'.heap[kt]?=some (.cells s.2.2 163 (0,0))∧Pf s.2.2 s.2.1 es.length∧(s.2.1++s.1.map b1l).Perm (es.map b1l)) (fun s=>s.1.length) zk
  (es,[],cs) ⟨c3,hI3,nb,nt,⟨hcs,xA _,fun j hj=>absurd hj (by simp)⟩,List.Perm.refl _⟩ ⟨rfl,trivial⟩ ?_
 clear c3 hI3 nb nt;rintro ⟨rem,D,cs⟩ j w4 ⟨c4,hI4,nb,nt,hpf,hperm⟩;simp only at c4 hI4 nb nt hpf hperm ⊢;refine zR ?_;refine b6M rfl hI4 (fun e=>?_) (fun r1 x r2 w5 e n5 hI5 hE5=>?_);rotate_left
 ·subst e;refine zR ?_;refine b4l rfl hE5 (zR ?_);have hlen2:D.length+(r1.length+1+r2.length)=es.length:=by
   have:=hperm.length_eq;simp only [zF,yc,zh] at this;omega
  have wu:IntKind.u64.wrap ((D.length:Int)+1)=(((D++[b1l x]).length:Nat):Int):=by rw [zF,List.length_singleton];exact c1V zo
  have nb5:=n5.blk nb zo;have nt5:=n5.blk nt zo;have c5:=n5.toCl c4 zo;refine y7 #[m9 x.k,m9 x.v] zk (zR ?_);refine zC ?_;refine zR ?_;rw [E.r9,zg,yW];refine K9 nt5 [m9 x.k,m9 x.v] rfl c5j rfl (by intro v hv;simp at hv;rcases hv with rfl|rfl<;>rfl) (by rw [hpf.1];omega) fun w6 u6=>zR ?_
  refine ⟨(r1++r2,D++[b1l x],L8 cs (D.length*2) [m9 x.k,m9 x.v]),⟨d8 wu,trivial⟩,⟨u6.cl c5 zo,hI5.kp (fun o h=>(Tn.upd u6).blk h zo) (fun o h=>(Tn.upd u6).blk h zo),(Tn.upd u6).blk nb5 zo,u6.at_,hpf.snoc (b1l x) zo,?_⟩,by simp⟩
  ·refine List.Perm.trans ?_ hperm;rw [yG,List.map_append,List.map_append,yQ];refine List.Perm.append_left _ ?_;show (b1l x::(List.map b1l r1++List.map b1l r2)).Perm _;exact List.perm_middle.symm
 subst e;refine zR ?_;have hD:D.Perm (es.map b1l):=by rw [xb,zn] at hperm;exact hperm
 have hDl:D.length=es.length:=by have:=hD.length_eq;rwa [yc] at this
 rw [hpf.full hDl] at nt;have hso:=fun w hb=>c3G (l:=D) zo (g:=kt) (cap:=D.length) w hb;rw [hDl] at hso;refine o7 (hso w4 nt) ?_;rintro r w5 ⟨rfl,tg',hp',hs',nt5,n5⟩;refine ⟨_,rfl,?_⟩;obtain rfl:tg'=tg:=(b6O hE (hp'.trans hD) hs').uniq htg;have hlt:tg'.length=es.length:=by rw [hp'.length_eq,hDl]
 have nb5:=n5.blk nb zo;have c5:=n5.toCl c4 zo;have hBs:Bs w b w5.heap.size w5 []:=⟨Bq.fresh nb5,c5,zo⟩;obtain ⟨B,hB⟩:∃ x,x=w5.heap.size:=⟨_,rfl⟩;rw [← hB] at hBs;have hktB:kt<B:=by rw [hB];exact F4 nt5
 clear hso hpf nt nb hI4 hD hDl hp' hs' c4 n5 nb5 hperm;refine zR ?_;refine B6 (σ:=Nat) [9,39] 40 (fun i=>[(39,.int .i64 i)]) (fun i w'=>i≤tg'.length∧w'.heap[kt]?=some (.cells (tg'.flatMap F5).toArray 163 (0,0))∧Bs w b B w' (X3 (tg'.take i))) (fun i=>tg'.length-i) zk 0 ⟨xA _,nt5,hBs⟩ ⟨rfl,trivial⟩ ?_;rintro i j w6 ⟨hi,nt6,hS6⟩;refine zR ?_;rw [← hlt];apply E.b9<;>intro h
 ·have q:=h;clear h;have hi2:i<tg'.length:=by omega
  have hld:=fun w hb=>c6c (w:=w) (k:=kt) (t:=163) (fz:=(0,0)) (l:=tg') hb hi2;have etk:X3 (tg'.take (i+1))=X3 (tg'.take i)++([91]++tg'[i].k++[32,34]++tg'[i].v++[34,93,10]):=by
   unfold X3;rw [zx hi2,x9,List.flatMap_singleton]
  have hlen3:(X3 (tg'.take (i+1))).length≤1000000:=by
   refine zw ?_ hlen;unfold a7t X3;conv=>rhs;rw [← xm (i+1) tg',x9]
   simp only [zF];omega
  rw [etk] at hlen3;rw [zF] at hlen3;simp only [zF,zh,za] at hlen3;generalize tg'[i].k=KK at *;generalize tg'[i].v=VV at *;refine zR ?_;refine zC ?_;refine zR ?_;refine b7 _ (hld _ nt6) (zR ?_);refine v8 _ zTg ?_;have d1:=Cl.alloc w6 (.cells (Value.agg #[m9 [],m9 []]).cells 163);have nx:=d9 w6 (.cells (Value.agg #[m9 [],m9 []]).cells 163);have hS7:=hS6.cl d1;have nt7:=d1.blk nt6;have hxk:kt≠w6.heap.size:=by have:=F4 nt6;omega
  have hxB:B≤w6.heap.size:=hS6.bq.le;generalize w6.alloc (.cells (Value.agg #[m9 [],m9 []]).cells 163)=w7 at *;generalize w6.heap.size=kx at *;refine zR ?_;refine K9 nx [m9 KK,m9 VV] rfl c5j rfl (by intro v hv;simp at hv;rcases hv with rfl|rfl<;>rfl) zd fun w8 u8=>?_
  have nx8:w8.heap[kx]?=some (.cells #[m9 KK,m9 VV] 163 (0,0)):=u8.at_;have nt8:=(Tn.upd u8).blk nt7 hxk;have hS8:Bs w b B w8 (X3 (tg'.take i)):=hS7.tn (Tn.upd u8) nx zd zd zo;generalize X3 (tg'.take i)=TT at *;refine zR ?_;refine b7 _ (L5 nx8 rfl rfl) (zR ?_);refine E.A8 (A5 (x:=[91]) (y:=KK) (by simp;omega)) ?_
  rw [J4,A9];refine zR ?_;refine E.A8 (A5 (x:=[91]++KK) (y:=[32,34]) (by simp;omega)) ?_
  rw [J4,A9];refine zR ?_;refine b7 _ (L5 nx8 rfl rfl) (zR ?_);refine E.A8 (A5 (x:=[91]++KK++[32,34]) (y:=VV) (by simp;omega)) ?_
  rw [A9];refine zR ?_;refine E.A8 (A5 (x:=[91]++KK++[32,34]++VV) (y:=[34,93,10]) (by simp;omega)) ?_
  rw [J4,A9];refine zR ?_;refine o7 (a4B ([91]++KK++[32,34]++VV++[34,93,10]) hS8.bq (by simp;omega)) ?_
  rintro r w9 ⟨rfl,q9,u9⟩;refine ⟨_,rfl,?_⟩;have nt9:=u9.typ _ _ _ _ zd zd nt8;have hS9:=hS8.wb u9 q9;rw [← etk] at hS9;refine zR ?_;exact ⟨i+1,⟨d8 (C7 zo),trivial⟩,⟨zo,nt9,hS9⟩,zo⟩
 have q:=h;clear h;have ei:i=tg'.length:=by omega
 rw [ei,yZ] at hS6;clear hi nt6 q ei nt5 hBs hktB;have hne:(if tg'=[] then ([]:Tx) else [10])=if 0<tg'.length then [10] else []:=by
  cases tg'<;>simp
 unfold a7t at hlen ⊢;rw [hne] at hlen ⊢;clear hne;generalize X3 tg'=TT at *;refine zG ?_;refine C3 (σ:=Unit) [] 11 (fun _=>[]) (fun _ w'=>Bs w b B w' (TT++if 0<tg'.length then [10] else [])) zk ?_ (fun _ j w7 hS7=>?_)
 ·refine zR ?_;refine b7 _ (hl _ hS6.c) (zR ?_);refine b2S mTags.ty rfl (hS6.c.blk hm) ?_;rw [← hlt];refine zR ?_;apply E.b9<;>intro h
  ·have q:0<tg'.length:=by omega
   clear h;rw [zM q] at hlen ⊢;simp only [zF,zh,za] at hlen;refine zR ?_;refine o7 (a0Q [10] hS6 (by simp;omega)) ?_
   rintro r w7 ⟨rfl,h7⟩;refine ⟨_,rfl,zR ?_⟩;exact ⟨(),trivial,h7⟩
  ·have q:¬ 0<tg'.length:=by omega
   clear h;refine zR ?_;refine ⟨(),trivial,?_⟩;rw [zJ q,zn];exact hS6
 clear hS6;generalize (TT++if 0<tg'.length then [10] else [])=T1 at *
 have c1:=hC.1;have c2:=hC.2.1;have c3:=hC.2.2.1;have c4:=hC.2.2.2.1;obtain ⟨ak,ck,ek⟩:=b5A c3;have lr:∀ w',Cl w w'→g8 G.P w' 85 ⟨G0,3,none⟩ (.pointer (some ⟨n.M,0,none⟩)):=fun w' c=>by
  have:=b0X (c.blk hb)
  rwa [hr] at this
 have lk:∀ w',Cl w w'→g8 G.P w' 134 ⟨n.M,5,none⟩ (.slice ak (if l=[] then 0 else 1) ck):=fun w' c=>by
  have:g8 G.P w' 134 ⟨n.M,5,none⟩ n.d.kids:=b0N (c.blk c1)
  rwa [ek] at this
 have lc:∀ w',Cl w w'→g8 G.P w' 9 ⟨n.M,3,none⟩ (m9 []):=fun w' c=>by
  have:=b38 (c.blk c1)
  rwa [hn] at this
 refine Nx.mk (zG ?_);refine C3 (σ:=Tx×Bool) [10] 11 (fun s=>[(10,.bool s.2)]) (fun s w'=>Bs w b B w' s.1∧s.1++(if s.2=true then [32] else [])=T1++Z9 n.p true (prs l)) zk ?_ (fun s j w8 h8=>?_)
 ·refine zR ?_;refine b7 _ (lr _ hS7.c) (zR ?_);refine H6 false (N6 rfl _) (zR ?_);refine b7 _ (lr _ hS7.c) (zR ?_);refine b7 _ (lk _ hS7.c) ?_;rcases l with _|⟨m1,l⟩
  ·rw [zM rfl] at lk ⊢;refine zR ?_;refine b7 _ (lr _ hS7.c) (zR ?_);refine b7 _ (lc _ hS7.c) (zR ?_);exact ⟨(T1,false),⟨rfl,trivial⟩,hS7,by simp [prs,Z9]⟩
  ·rw [zJ (by simp)] at lk ⊢
   have hI:Ch.D0 n.p:=hL.2.2.2.2.1;have hbm:=a8Z (m1.d.mv,m1.d.com) (prs l) n.p true;have hwm:=fun w7 hS7=>a5P (b:=b) (B:=B) hT hw l n m1 true hC hL (fun _=>hn) w7 T1 hS7 (by
    rw [show Z9 n.p true (prs (m1::l))=_ from hbm.symm] at hlen;simp only [zF] at hlen;show T1.length+(a2g n.p true ((m1.d.mv,m1.d.com)::prs l)).length≤_;omega)
   have hld:=fun w' (c:Cl w w')=>b0M (c.blk c4.hd);have htn:=fun w' (c:Cl w w')=>a4S w' (c.blk c4.hd);rw [show (E6 n.p (o5 n.p)).full=n.p.full from rfl] at hld;rw [show (E6 n.p (o5 n.p)).turn=n.p.turn+1 from rfl] at htn;rw [← hbm.trans (show Z9 n.p true ((m1.d.mv,m1.d.com)::prs l)=Z9 n.p true (prs (m1::l)) from rfl)];rw [show prs (m1::l)=(m1.d.mv,m1.d.com)::prs l from rfl] at hwm;have htu:=hI.turn;generalize a2g n.p true ((m1.d.mv,m1.d.com)::prs l)=BT at *;generalize n.p.full=F at *;generalize n.p.turn=TU at *;refine zR ?_;refine zK 19 ?_;refine zR ?_;refine m7 _ (fun w' hw=>lr _ (hS7.c.trans hw)) (zR ?_);refine m7 _ (fun w' hw=>lr _ (hS7.c.trans hw)) (zR ?_);refine m8 _ (fun w' hw=>b4v ((hS7.c.trans hw).blk c1) c2) (zR ?_);refine m7 _ (fun w' hw=>hld _ (hS7.c.trans hw)) (zR ?_);refine m7 _ (fun w' hw=>lr _ (hS7.c.trans hw)) (zR ?_);refine m8 _ (fun w' hw=>b4v ((hS7.c.trans hw).blk c1) c2) (zR ?_);refine m8 _ (fun w' hw=>htn _ (hS7.c.trans hw)) (zR ?_);intro w8 c8;have hw8:=hwm w8 (hS7.cl c8);rcases htu with rfl|rfl<;>(
    refine zR ?_;refine o7 hw8 ?_;rintro r w9 ⟨rfl,h9⟩;refine ⟨_,rfl,zR ?_⟩;exact ⟨(T1++BT,true),⟨rfl,trivial⟩,h9,by rw [zM rfl,yG]⟩)
 clear hS7;obtain ⟨T2,bb⟩:=s;obtain ⟨h8,e8⟩:=h8;simp only at h8 e8 ⊢;rw [← e8] at hlen ⊢;clear e8;have hgo:=fun w' (c:Cl w w')=>c31 (c.blk hb);generalize g.out=OT at *;simp only [zF] at hlen;have hlo:0<OT.length:=List.length_pos_iff.2 ho;have fin:∀ w9 T3,Bs w b B w9 T3→T3.length+OT.length≤1000000→Calls G.P 118 #[.pointer (some ⟨b,0,none⟩),m9 OT] w9 (fun r w'=>r = .returned (.tuple #[.int .i64 OT.length,.nilIface])∧Bs w b B w' (T3++OT)):=fun w9 T3 h9 hl=>a0Q OT h9 hl;have stf:∀ w9 T3,Bs w b B w9 (T3++OT)→T3.length+OT.length≤1000000→Calls G.P 124 #[.pointer (some ⟨b,0,none⟩)] w9 (fun r w'=>r = .returned (m9 (T3++OT))∧Cl w w'):=fun w9 T3 h9 hl =>
  (b97 h9.bq (fun e=>ho (List.append_eq_nil_iff.1 e).2) (by rw [zF];omega)).mono fun _ w' hr=>⟨hr.1,by
   have u:=hr.2;have h1:=h9.hb;have h2:=h9.bq.lt;refine ⟨u.os.trans h9.c.os,u.tape.trans h9.c.tape,u.output.trans h9.c.output,zw zo u.size,fun k hk=>?_⟩;rw [u.low k zo zo];exact h9.c.block k hk⟩
 cases bb
 ·rw [zJ zd] at hlen ⊢;rw [zn];simp only [za] at hlen;refine zR ?_;refine l8 (hgo _ h8.c) (zR ?_);refine l8 (b2T OT _) (zR ?_);refine o7 (fin _ _ h8 zo) ?_;rintro r w9 ⟨rfl,h9⟩;refine ⟨_,rfl,zR ?_⟩;refine o7 (stf _ _ h9 zo) ?_;rintro r w10 ⟨rfl,h10⟩;refine ⟨_,rfl,zR ?_⟩;exact ⟨rfl,h10⟩
 ·rw [zM rfl] at hlen ⊢;simp only [zh,za] at hlen;refine zR ?_;refine o7 (a0Q [32] h8 (by simp only [zh,za];omega)) ?_
  rintro r w8' ⟨rfl,h8'⟩;refine ⟨_,rfl,zR ?_⟩;refine l8 (hgo _ h8'.c) (zR ?_);refine l8 (b2T OT _) (zR ?_);refine o7 (fin _ _ h8' (by simp only [zF,zh,za];omega)) ?_
  rintro r w9 ⟨rfl,h9⟩;refine ⟨_,rfl,zR ?_⟩;refine o7 (stf _ _ h9 (by simp only [zF,zh,za];omega)) ?_
  rintro r w10 ⟨rfl,h10⟩;refine ⟨_,rfl,zR ?_⟩;exact ⟨rfl,h10⟩
end
section
open Go Go.RowKit
open E
theorem c3O {f:Nat} {fn:Func} {A B:Code} {i:Nat} {mk df:Oper} {args:List Value} {w:World} {R:Ending→World→Prop} {fc t:Nat} {caps:Array Operand} (RES:C8→World→Value→Prop)
  (hf:G.P.funcs[f]?=some fn) (hb:fn.body=some (.seq A (.seq (.region i #[mk,df] false) B))) (hn:args.length≤fn.ntmps) (hkA:P9 fn.ntmps A=true) (hkB:P9 fn.ntmps B=true) (ht:t<fn.ntmps)
  (hmg:mk.guard=none) (hmo:mk.op = .makeFunc (.func fc) #[] caps) (hmd:mk.dst=some t) (hdg:df.guard=none) (hdo:df.op = .defer { callee:=.value (.tmp t),args:=#[],argTypes:=#[] }) (hdd:df.dst=none)
  (hfc:G.fn fc=true) (hres:∀ (a:Act) w v,RES (s9 a) w v→(results fn a.tmps).run G.P w = .ok v w)
  (h:vc G A (a5q args) w (fun x e w1=>x = .normal∧∃ cs:Array Value,(caps.map (ev e)).toList=cs.toList∧c5c fc cs∧vc G B (upd e t (.func (.func fc) #[] cs)) w1 (fun x e w2=>(x = .normal∨x = .ret)∧∃ v,RES e w2 v∧R (.returned v) w2))) :
  Calls G.P f args.toArray w R:=by
 refine calls_of_wp_defers hf hb ?_;have hsz:(args.toArray++Array.replicate (fn.ntmps-args.toArray.size) undef).size=fn.ntmps:=by simp;omega
 have henv:s9 { tmps:=args.toArray++Array.replicate (fn.ntmps-args.toArray.size) undef,defers:=[] }=a5q args:=by
  funext t;unfold s9 a5q;rw [b04];simp only [yw,yr];by_cases ht:t<args.length
  ·rw [Array.getElem?_append_left (by simpa using ht)];simp
  ·rw [Array.getElem?_append_right (by simpa using ht)]
   rw [xH zo];simp only [Option.getD_none];cases hx:(Array.replicate (fn.ntmps-args.toArray.size) undef)[t-args.toArray.size]? with
   | none=>rfl
   | some v =>
    have:=yh.1 hx;obtain ⟨h1,h2⟩:=this;simp at h2;simp [h2]
 refine wp_seq ?_;refine a5n (G:=G) (N:=fn.ntmps) (ds:=[]) A _ _ ?_ hkA _ w hsz rfl (by rw [henv];exact h)
 rintro x a w1 hs hd ⟨rfl,cs,hcap,hid,hB⟩;show Code.wp G.P (.seq (.region i #[mk,df] false) B) _ a w1;refine wp_seq (wp_region_list ?_);have hcap:caps.map (ev (s9 a))=cs:=xP.1 hcap;obtain ⟨fnc,c1,c2,c3⟩:=G.enters fc hfc;have hmx:(execOp a.eval mk).run G.P w1 = .ok (.value (.func (.func fc) #[] (caps.map (ev (s9 a))))) w1:=by
  obtain ⟨d,o,ty,ps,af,g⟩:=mk;simp only at hmo hmg hmd;subst hmo;rw [U4];simp [execOp,Instr.makeFunc]
 obtain ⟨a1,ha1⟩:∃ a1:Act,a1=a.put (some t) (.func (.func fc) #[] (caps.map (ev (s9 a)))):=⟨_,rfl⟩;have hs1:a1.tmps.size=fn.ntmps:=by rw [ha1,a1y,hs]
 have hd1:a1.defers=[]:=by rw [ha1,Y9,hd]
 have he1:s9 a1=upd (s9 a) t (.func (.func fc) #[] (caps.map (ev (s9 a)))):=by rw [ha1];exact a9y _ (by rw [hs];exact ht)
 have hdx:(execOp a1.eval df).run G.P w1 = .ok (.defer { target:=.fn (.func fc) (caps.map (ev (s9 a))),args:=#[] }) w1:=by
  obtain ⟨d,o,ty,ps,af,g⟩:=df;simp only at hdo hdg hdd;subst hdo;rw [U4,he1];simp [execOp,resolve,ev,b71,Deferred.ofValue]
 have hw1:Region.wanted mk (yielded #[mk,df] a.tmps)=true:=by unfold Region.wanted;rw [hmg]
 have hw2:Region.wanted df (yielded #[mk,df] a1.tmps)=true:=by unfold Region.wanted;rw [hdg]
 show wpList G.P #[mk,df] _ [mk,df] a w1;unfold wpList;rw [zM hw1];refine .inl ?_;unfold Oper.wp;rw [hmx,Oper.upon_value,hmd,← ha1];unfold wpList;rw [zM hw2];refine .inl ?_;unfold Oper.wp;rw [hdx,Oper.upon_defer,hdd];unfold wpList;have hs2:({ a1 with defers:={ target:=.fn (.func fc) (caps.map (ev (s9 a))),args:=#[] }::a1.defers }:Act).put none undef={ a1 with defers:=[{ target:=.fn (.func fc) (caps.map (ev (s9 a))),args:=#[] }] }:=by rw [hd1];rfl
 rw [hs2];show Code.wp G.P B _ _ w1;refine a5n (G:=G) (N:=fn.ntmps) (ds:=[{ target:=.fn (.func fc) (caps.map (ev (s9 a))),args:=#[] }]) B _ _ ?_ hkB _ w1 hs1 rfl (by
  have:s9 { a1 with defers:=[{ target:=.fn (.func fc) (caps.map (ev (s9 a))),args:=#[] }] }=s9 a1:=rfl;rw [this,he1,hcap];exact hB)
 rintro x a' w2 hs' hd' ⟨hx,v,h3,hR⟩;have hL:Leaves G.P fn a'.tmps R a'.defers .returning w2:=by
  rw [hd'];refine leaves_cons (f:=fc) (args:=#[]++caps.map (ev (s9 a))) (by simp) ?_ ?_
  ·simp [invoke,callFunc,c1,c3];cases hbd:fnc.body with
   | none=>rw [hbd] at c2;cases c2
   | some c=>simp
  ·rw [Array.empty_append];rw [hcap];refine (hid w2).mono ?_;rintro e u' w3 ⟨rfl,rfl,rfl⟩;exact ⟨_,hres _ _ _ h3,hR⟩
 rcases hx with rfl|rfl
 ·exact hL
 ·exact hL
structure c5k (t1 t2 y1 y2:Nat) (e:C8) (w:World) (v:Value):Prop where
 ex:∃ v1 v2,v = .tuple #[v1,v2]∧(∃ a,e t1 = .pointer (some a)∧g8 G.P w y1 a v1)∧∃ a,e t2 = .pointer (some a)∧g8 G.P w y2 a v2
theorem a9w {fn:Func} {t1 t2 y1 y2:Nat} (hr:fn.results=#[.cell t1 y1,.cell t2 y2]) (a:Act) (w:World) (v:Value) (h:c5k t1 t2 y1 y2 (s9 a) w v):(results fn a.tmps).run G.P w = .ok v w:=by
 obtain ⟨v1,v2,rfl,⟨a1,e1,l1⟩,a2,e2,l2⟩:=h.ex;have e1:a.tmps[t1]?.getD undef = .pointer (some a1):=by rw [← yw];exact e1
 have e2:a.tmps[t2]?.getD undef = .pointer (some a2):=by rw [← yw];exact e2
 simp [results,hr,e1,e2,asAddr,a6A l1,a6A l2]
end
section
open Go Go.RowKit
open E
open Ch Bb
def a0e (w:World) (v:Value) (l:List Tg):Prop:=∃ a c,v = .slice a l.length c∧(0<l.length→∃ g o cs t fz,a=some ⟨g,o,none⟩∧w.heap[g]?=some (.cells cs t fz)∧∀ i (h:i<l.length),cs[o+i*2]?=some (m9 l[i].k)∧cs[o+i*2+1]?=some (m9 l[i].v))
def a6C (w:World) (v:Value) (l:List Tx):Prop:=∃ a c,v = .slice a l.length c∧(0<l.length→∃ g o cs t fz,a=some ⟨g,o,none⟩∧w.heap[g]?=some (.cells cs t fz)∧∀ i (h:i<l.length),cs[o+i]?=some (m9 l[i]))
section
variable {w w':World} {v:Value} {l:List Tg} {ts:List Tx}
theorem a0e.form (h:a0e w v l):∃ a c,v = .slice a l.length c∧(0<l.length→∃ g o,a=some ⟨g,o,none⟩):=by
 obtain ⟨a,c,e,h⟩:=h;exact ⟨a,c,e,fun h0=>by obtain ⟨g,o,_,_,_,e,_⟩:=h h0;exact ⟨g,o,e⟩⟩
theorem a0e.step (h:a0e w v l) (hc:Cl w w'):a0e w' v l:=by
 obtain ⟨a,c,e,h⟩:=h;exact ⟨a,c,e,fun h0=>by obtain ⟨g,o,cs,t,fz,e,hb,h2⟩:=h h0;exact ⟨g,o,cs,t,fz,e,hc.blk hb,h2⟩⟩
theorem a0e.cell {g o n c:Nat} (h:a0e w (.slice (some ⟨g,o,none⟩) n c) l) (i:Nat) (hi:i<l.length):∃ cs t fz,w.heap[g]?=some (.cells cs t fz)∧cs[o+i*2]?=some (m9 l[i].k)∧cs[o+i*2+1]?=some (m9 l[i].v):=by
 obtain ⟨a,c',e,h⟩:=h;obtain ⟨g',o',cs,t,fz,e2,hb,h2⟩:=h zo;injection e with e1 _ _;rw [e2] at e1;injection e1 with e1;injection e1 with e1 e3 _;subst e1 e3;exact ⟨cs,t,fz,hb,h2 i hi⟩
theorem a0e.ldk {g o n c:Nat} (h:a0e w (.slice (some ⟨g,o,none⟩) n c) l) (i:Nat) (hi:i<l.length):g8 G.P w 9 ⟨g,E.J0 o ((i:Int)).toNat 2,none⟩ (m9 l[i].k):=by
 obtain ⟨cs,t,fz,hb,h1,_⟩:=h.cell i hi;exact L5 hb (by rw [E.r9,zg];exact h1) rfl
theorem a0e.ldv {g o n c:Nat} (h:a0e w (.slice (some ⟨g,o,none⟩) n c) l) (i:Nat) (hi:i<l.length):g8 G.P w 9 ⟨g,E.J0 o ((i:Int)).toNat 2+1,none⟩ (m9 l[i].v):=by
 obtain ⟨cs,t,fz,hb,_,h2⟩:=h.cell i hi;exact L5 hb (by rw [E.r9,zg];exact h2) rfl
theorem a0e.ld {g o n c:Nat} (h:a0e w (.slice (some ⟨g,o,none⟩) n c) l) (i:Nat) (hi:i<l.length):g8 G.P w 104 ⟨g,E.J0 o ((i:Int)).toNat 2,none⟩ (.agg #[m9 l[i].k,m9 l[i].v]):=by
 obtain ⟨cs,t,fz,hb,h1,h2⟩:=h.cell i hi;have hs:o+i*2+2≤cs.size:=by have:=(yh.1 h2).1;omega
 have e:cs.extract (o+i*2) (o+i*2+2)=#[m9 l[i].k,m9 l[i].v]:=by
  apply xv;intro j;rw [Array.getElem?_extract];by_cases hj:j<2
  ·rw [zM zo];rcases (by omega:j=0∨j=1) with rfl|rfl
   ·rw [Nat.add_zero,h1];rfl
   ·rw [h2];rfl
  ·rw [zJ zo,xj (by simp;omega)]
 have:=ldA (t:=104) (o:=o+i*2) (z:=2) hb rfl hs;rw [e] at this;rw [E.r9,zg];exact this
theorem a6C.form (h:a6C w v ts):∃ a c,v = .slice a ts.length c∧(0<ts.length→∃ g o,a=some ⟨g,o,none⟩):=by
 obtain ⟨a,c,e,h⟩:=h;exact ⟨a,c,e,fun h0=>by obtain ⟨g,o,_,_,_,e,_⟩:=h h0;exact ⟨g,o,e⟩⟩
theorem a6C.step (h:a6C w v ts) (hc:Cl w w'):a6C w' v ts:=by
 obtain ⟨a,c,e,h⟩:=h;exact ⟨a,c,e,fun h0=>by obtain ⟨g,o,cs,t,fz,e,hb,h2⟩:=h h0;exact ⟨g,o,cs,t,fz,e,hc.blk hb,h2⟩⟩
theorem a6C.ld {g o n c:Nat} (h:a6C w (.slice (some ⟨g,o,none⟩) n c) ts) (i:Nat) (hi:i<ts.length):g8 G.P w 9 ⟨g,E.J0 o ((i:Int)).toNat 1,none⟩ (m9 ts[i]):=by
 obtain ⟨a,c',e,h⟩:=h;obtain ⟨g',o',cs,t,fz,e2,hb,h2⟩:=h zo;injection e with e1 _ _;rw [e2] at e1;injection e1 with e1;injection e1 with e1 e3 _;subst e1 e3;exact L5 hb (by rw [E.r9,zg,wB];exact h2 i hi) rfl
end
def H0.say (z:H0) (T:Tx):H0:={ z with d:={ z.d with com:=T } }
theorem Chn.com {w w':World} {z:H0} {T:Tx} (k:Kp [z.M] w w') (hz:w'.heap[z.M]?=some (.cells (E8 (z.say T).d) 141 (0,0))) (h0:z.off [z.M]∨(z.P∉[z.M]∧z.b∉[z.M]∧∀ j∈[z.M],z.cv.ownBlock≠some j)) :
  ∀ {L:List H0},Chn w (L++[z])→(∀ n∈L,n.off [z.M])→Chn w' (L++[z.say T])
 | [],⟨h1,h2,h3,h4,_⟩,_=>by
  have hh:z.P∉[z.M]∧z.b∉[z.M]∧∀ j∈[z.M],z.cv.ownBlock≠some j:=h0.elim (fun o=>⟨o.P,o.b,o.cv⟩) id;exact ⟨hz,h2,h3,h4.kp k hh.1 hh.2.1 hh.2.2,trivial⟩
 | n::L,⟨h1,h2,h3,h4,h5⟩,ho=>by
  have o:=ho n (yX ..);refine ⟨k _ _ _ o.M zd h1,h2,?_,h4.kp k o.P o.b o.cv,Chn.com k hz h0 h5 fun x hx=>ho x (yY _ hx)⟩;cases L with
  | nil=>exact k.row (show Row 85 1 J1 0 w n.d.kids [z.M] from h3) zd o.kids
  | cons m r=>exact k.row (show Row 85 1 J1 0 w n.d.kids [m.M] from h3) zd o.kids
theorem I1.com {w w':World} {G0:Nat} {g:Gm} {L:List H0} {z:H0} {T:Tx} (h:I1 w G0 g L z) (u:Upd w z.M (.cells (E8 (z.say T).d) 141 (0,0)) w'):I1 w' G0 g L (z.say T):=by
 have hp:=h.chn.last.2.2;have hn:=h.node;have k:Kp [z.M] w w':=fun j cs t hj _ hb=>(Tn.upd u).blk hb (fun e=>hj (by rw [e];exact zY.2 rfl))
 refine ⟨(Tn.upd u).blk h.hb (F9 h.hb hn zd),h.cur,h.pos,?_,Chn.com k u.at_ (.inr ⟨fun e=>F9 hp.hd hn zd (zY.1 e),fun e=>F9 hp.bd hn zd (zY.1 e),fun j hj=>by rw [zY.1 hj];exact h.zcv⟩) h.chn h.off,h.kids,h.off,h.zcv,h.dis,h.mo⟩
 obtain ⟨n,l,e,hr⟩:=h.root;cases L with
 | nil =>
  simp only [yM,yu] at e;exact ⟨_,_,rfl,by rw [hr,← e.1];rfl⟩
 | cons m r =>
  simp only [yU,yu] at e;exact ⟨_,_,rfl,by rw [hr,← e.1]⟩
structure Ln (L:List H0) (z:H0) (p:l9) (q:List (Mv×Tx)):Prop where
 is:∃ n l,L++[z]=n::l∧n.d.com=[]∧n.p=p∧prs l=q
 tld:Tld (L++[z])
theorem Tld.snoc {z z' y:H0} (hs:z'.Same z) (hd:z'.d={ z.d with kids:=z'.d.kids }) (hcv:∃ ad n0 c0,z'.cv = .slice (some ad) n0 c0) (h1:y.d.mv∈A1 z.p) (h2:(y.d.tags:Int)=a0W z.p y.d.mv) (h3:y.p=made z.p y.d.mv) (h4:Ch.D0 z.p) (h5:a1A z.p) (h6:(B5 z.p).length≤218) (h7:z.p.full≤4611686018427387900) :
  ∀ {L:List H0},Tld (L++[z])→Tld ((L++[z'])++[y])
 | [],_=>by
  show Tld [z',y];refine ⟨hcv,?_,?_,?_,?_,?_,?_,?_,trivial⟩<;>rw [hs.p]<;>assumption
 | [n],h=>by
  obtain ⟨a1,a2,a3,a4,a5,a6,a7,a8,_⟩:=(show Tld [n,z] from h);show Tld [n,z',y];have e1:z'.d.mv=z.d.mv:=by rw [hd]
  have e2:z'.d.tags=z.d.tags:=by rw [hd]
  refine ⟨a1,by rw [e1];exact a2,by rw [e1,e2];exact a3,by rw [e1,hs.p];exact a4,a5,a6,a7,a8,hcv,?_,?_,?_,?_,?_,?_,?_,trivial⟩<;>rw [hs.p]<;>assumption
 | n::m::L,h=>by
  obtain ⟨a1,a2,a3,a4,a5,a6,a7,a8,a9⟩:=(show Tld (n::m::(L++[z])) from h);exact ⟨a1,a2,a3,a4,a5,a6,a7,a8,Tld.snoc hs hd hcv h1 h2 h3 h4 h5 h6 h7 (L:=m::L) a9⟩
theorem Ln.snoc {L:List H0} {z z' y:H0} {p:l9} {q:List (Mv×Tx)} (h:Ln L z p q) (hs:z'.Same z) (hd:z'.d={ z.d with kids:=z'.d.kids }) (hcv:∃ ad n0 c0,z'.cv = .slice (some ad) n0 c0) (h1:y.d.mv∈A1 z.p) (h2:(y.d.tags:Int)=a0W z.p y.d.mv) (h3:y.p=made z.p y.d.mv) (h4:Ch.D0 z.p) (h5:a1A z.p) (h6:(B5 z.p).length≤218) (h7:z.p.full≤4611686018427387900) :
  Ln (L++[z']) y p (q++[(y.d.mv,y.d.com)]):=by
 obtain ⟨n,l,e,c1,c2,c3⟩:=h.is;have e1:z'.d.mv=z.d.mv:=by rw [hd]
 have e2:z'.d.com=z.d.com:=by rw [hd]
 refine ⟨?_,Tld.snoc hs hd hcv h1 h2 h3 h4 h5 h6 h7 h.tld⟩;cases L with
 | nil =>
  simp only [yM,yu] at e;obtain ⟨rfl,rfl⟩:=e;exact ⟨z',[y],rfl,by rw [e2];exact c1,by rw [hs.p];exact c2,by rw [← c3];rfl⟩
 | cons m r =>
  simp only [yU,yu] at e;obtain ⟨rfl,rfl⟩:=e;refine ⟨m,r++[z']++[y],by simp,c1,c2,?_⟩
  rw [← c3];simp [prs,e1,e2]
theorem Ln.say {L:List H0} {z:H0} {p:l9} {q:List (Mv×Tx)} {T:Tx} (h:Ln L z p (q++[(z.d.mv,z.d.com)])) (hL:L≠[]):Ln L (z.say T) p (q++[(z.d.mv,T)]):=by
 obtain ⟨n,l,e,c1,c2,c3⟩:=h.is;have ht:=h.tld;cases L with
 | nil=>exact absurd rfl hL
 | cons m r =>
  simp only [yU,yu] at e;obtain ⟨rfl,rfl⟩:=e;refine ⟨⟨m,r++[z.say T],rfl,c1,c2,?_⟩,?_⟩
  ·simp only [prs,List.map_append,yQ,xb] at c3 ⊢;rw [(List.append_inj' c3 rfl).1];rfl
  ·clear c3 c1 c2 h hL;have:∀ (r:List H0) (m:H0),Tld (m::r++[z])→Tld (m::r++[z.say T]):=by
    intro r
    induction r with
    | nil=>intro m h;exact h
    | cons x r ih =>
     intro m h;obtain ⟨a1,a2,a3,a4,a5,a6,a7,a8,a9⟩:=(show Tld (m::x::(r++[z])) from h);exact ⟨a1,a2,a3,a4,a5,a6,a7,a8,ih x a9⟩
   exact this r m ht
def a0R:List Mv→List Tx→List (Mv×Tx)
 | [],_=>[]
 | m::r,[]=>(m,[])::a0R r []
 | m::r,c::cs=>(m,c)::a0R r cs
theorem a3Q:∀ (ms:List Mv) (cs:List Tx),(a0R ms cs).length=ms.length
 | [],_=>by rw [a0R];rfl
 | m::r,[]=>by rw [a0R,zh,a3Q r [],zh]
 | m::r,c::cs=>by rw [a0R,zh,a3Q r cs,zh]
theorem b1m:∀ (ms:List Mv) (cs:List Tx) (i:Nat) (h:i<ms.length),(a0R ms cs)[i]'(by rw [a3Q];exact h)=(ms[i],(cs[i]?).getD [])
 | m::r,[],0,_=>rfl
 | m::r,c::cs,0,_=>rfl
 | m::r,[],i+1,h=>by
  have:=b1m r [] i (by simpa using h)
  simp only [a0R,List.getElem_cons_succ];rw [this];simp
 | m::r,c::cs,i+1,h=>by
  have:=b1m r cs i (by simpa using h)
  simp only [a0R,List.getElem_cons_succ];rw [this];simp
theorem b7b (ms:List Mv) (cs:List Tx) (i:Nat) (h:i<ms.length):(a0R ms cs).take (i+1)=(a0R ms cs).take i++[(ms[i],(cs[i]?).getD [])]:=by
 rw [zx (by rw [a3Q];exact h),b1m]
def a0A:l9→List Mv→Prop
 | _,[]=>True
 | p,m::r=>m∈A1 p∧a0A (made p m) r
def a0u (l:List l9) (mo:Int×Tx):l9→List Mv→Int×Tx
 | _,[]=>mo
 | p,m::r=>a0u (l++[made p m]) (C4 (l++[made p m]) (made p m) mo) (made p m) r
theorem b99 {w:World} {G0:Nat} {g:Gm} (hb:w.heap[G0]?=some (.cells (gmA g) 131 (0,0))):Calls G.P 54 #[.pointer (some ⟨G0,0,none⟩)] w (E5 (.pointer (some ⟨g.cur,0,none⟩)) w):=by
 refine zN Tryz.func54 ?_;refine zR ?_;refine b7 _ (a6y hb) (zR ?_);exact ⟨rfl,rfl⟩
end
section
namespace Ch
end Ch
end
section
open Go Go.RowKit
open E
open Ch
end
section
open Go Go.RowKit
open E
open Ch Bb
def mcA (q:Y5):Array Value:=#[m9 q.pc,m9 q.fo,m9 q.ro,m9 q.ca,m9 q.fi,m9 q.ra,m9 q.pr,m9 q.cs]
structure PL (q:Y5):Prop where
 l:q.pc.length≤1000∧q.fo.length≤1000∧q.ro.length≤1000∧q.ca.length≤1000∧q.fi.length≤1000∧q.ra.length≤1000∧q.pr.length≤1000∧q.cs.length≤1000
 ne:c28 q≠[]
 fi:q.fo≠[]→q.fi≠[]
theorem Bw.done {b:Nat} {w0 wr w w':World} {l:Tx} (h:Bw b wr w l) (h4:Below wr.heap.size w w') (c:Cl w0 wr) (hb:w0.heap.size≤b):Cl w0 w' :=
 ⟨h4.os.trans (h.nb.os.trans c.os),h4.tape.trans (h.nb.tape.trans c.tape),h4.output.trans (h.nb.output.trans c.output),zw c.size (zw h.nb.size h4.size),fun k hk =>
  (h4.block k (xV hk c.size)).trans ((h.nb.else_ k (xV hk c.size) (Nat.ne_of_lt (xV hk hb))).trans (c.block k hk))⟩
structure a9a (w:World) (bx bo bs:Nat) (q:Y5) (wc:World) (vo:Value) (L:List Tx):Prop where
 hx:wc.heap[bx]?=some (.cells (mcA q) 394 (0,0))
 ho:wc.heap[bo]?=some (.cells #[vo] 42 (0,0))
 hk:∃ p v,wc.heap[bs]?=some (.cells #[p,v] 160 (0,0))
 hr:Row 9 1 a38 w.heap.size wc vo L
 cl:Cl w wc
 n1:w.heap.size≤bo
 n2:w.heap.size≤bs
 n3:bx≠bo
 n4:bx≠bs
 n5:bo≠bs
section opti
variable {w wc w2 w3 w4:World} {bx bo bs:Nat} {q:Y5} {vo v':Value} {L L':List Tx}
theorem a9a.step (I:a9a w bx bo bs q wc vo L) (c:Cl wc w2):a9a w bx bo bs q w2 vo L:=by
 obtain ⟨p,v,hk⟩:=I.hk;exact ⟨c.blk I.hx,c.blk I.ho,⟨p,v,c.blk hk⟩,I.hr.step c,I.cl.trans c,I.n1,I.n2,I.n3,I.n4,I.n5⟩
theorem a9a.upd (I:a9a w bx bo bs q wc vo L) {p v p2 v2:Value} (hk:wc.heap[bs]?=some (.cells #[p,v] 160 (0,0))) (u:Upd wc bs (.cells #[p2,v2] 160 (0,0)) w2):a9a w bx bo bs q w2 vo L :=
 ⟨(Tn.upd u).blk I.hx I.n4,(Tn.upd u).blk I.ho I.n5,⟨p2,v2,u.at_⟩,I.hr.updT u hk zd,u.cl I.cl I.n2,I.n1,I.n2,I.n3,I.n4,I.n5⟩
theorem a9a.gro (I:a9a w bx bo bs q wc vo L) (hg:a6c w.heap.size wc vo w2 v'):w2.heap[bo]?=some (.cells #[vo] 42 (0,0)):=KT.grow I.hr hg _ _ _ zd I.ho
theorem a9a.push (I:a9a w bx bo bs q wc vo L) (hg:a6c w.heap.size wc vo w2 v') (hr:Row 9 1 a38 w.heap.size w2 v' L') (u:Upd w2 bo (.cells #[v'] 42 (0,0)) w3):a9a w bx bo bs q w3 v' L':=by
 obtain ⟨p,v,hk⟩:=I.hk;have k:=KT.grow I.hr hg;exact ⟨(Tn.upd u).blk (k _ _ _ zd I.hx) I.n3,u.at_,⟨p,v,(Tn.upd u).blk (k _ _ _ zd hk) (wG I.n5)⟩,hr.updT u (I.gro hg) zd,u.cl (hg.toCl rfl I.cl) I.n1,I.n1,I.n2,I.n3,I.n4,I.n5⟩
end opti
section gens
variable {dst:Option Nat} {ty:Nat} {pos:String} {af:Array Edge} {gd:Option (Nat×Bool)} {env:C8}
end gens
def c5l (p:l9) (m:Mv) (n:Nat) (T:Tx):Prop:=(n<2∧T.length≤1000∧∃ q,zzP T=some q∧b59 p m q)∨(n=2∧T=b0F m)
structure Sqs (m:Mv):Prop where
 f0:0≤m.fr
 f1:m.fr≤63
 t0:0≤m.to
 t1:m.to≤63
 pr:m.promo=0
section gens
variable {dst:Option Nat} {ty:Nat} {pos:String} {af:Array Edge} {gd:Option (Nat×Bool)} {env:C8}
end gens
def c3P (n:Nat):l9→List (Mv×Tx)→Prop
 | p,[]=>(A1 p).length≤218
 | p,x::r=>(A1 p).length≤218∧x.1∈A1 p∧Y6 p x.1=true∧c5l p x.1 n x.2∧c3P n (made p x.1) r
theorem c3P.head {n:Nat} {p:l9}:∀ {l:List (Mv×Tx)},c3P n p l→(A1 p).length≤218
 | [],h=>h
 | _::_,h=>h.1
theorem b2U {p:l9} {ms:List Mv} (h:b0p p ms=true):D0 p∧p.half≤1000000∧p.full≤1000000∧ms.length≤80∧quiet p ms=true:=by
 unfold b0p at h;simp only [zP,zW] at h;obtain ⟨⟨⟨⟨h1,h2⟩,h3⟩,h4⟩,h5⟩:=h;exact ⟨(a6g p).1 h1,h2,h3,h4,h5⟩
theorem b0q {l:List l9} {p:l9} {mo:Int×Tx} (h0:0≤mo.1) (h9:mo.1≤9) (hl:mo.2.length≤1000):0≤(C4 l p mo).1∧(C4 l p mo).1≤9∧(C4 l p mo).2.length≤1000:=by
 have hd:drawT.length≤1000:=by decide
 have hw:(a2m p.turn).length≤1000:=by unfold a2m;split<;>decide
 unfold C4;simp only
 repeat' split
 all_goals first
  | exact ⟨h0,h9,hl⟩
  | exact ⟨by simp only;omega,by simp only;omega,hd⟩
  | exact ⟨by simp only;omega,by simp only;omega,hw⟩
theorem b7c:∀ (ms:List Mv) (l:List l9) (p:l9) (mo:Int×Tx),(a1C l p mo ms).length≤ms.length:=by
 intro ms
 induction ms with
 | nil=>intro l p mo;exact yJ _
 | cons m r ih =>
  intro l p mo;rw [a09];split
  ·have:=ih (l++[made p m]) (made p m) (C4 (l++[made p m]) (made p m) mo);simp only [zh];omega
  ·simp
def a9b (w:World) (v:Value) (ns:List Int):Prop:=∃ a c,v = .slice a ns.length c∧(0<ns.length→∃ g o cs t fz,a=some ⟨g,o,none⟩∧w.heap[g]?=some (.cells cs t fz)∧∀ i (h:i<ns.length),cs[o+i]?=some (.int .i64 ns[i]))
section intIn
variable {w w':World} {v:Value} {ns:List Int}
theorem a9b.form (h:a9b w v ns):∃ a c,v = .slice a ns.length c∧(0<ns.length→∃ g o,a=some ⟨g,o,none⟩):=by
 obtain ⟨a,c,e,h⟩:=h;exact ⟨a,c,e,fun h0=>by obtain ⟨g,o,_,_,_,e,_⟩:=h h0;exact ⟨g,o,e⟩⟩
theorem a9b.step (h:a9b w v ns) (hc:Cl w w'):a9b w' v ns:=by
 obtain ⟨a,c,e,h⟩:=h;exact ⟨a,c,e,fun h0=>by obtain ⟨g,o,cs,t,fz,e,hb,h2⟩:=h h0;exact ⟨g,o,cs,t,fz,e,hc.blk hb,h2⟩⟩
theorem a9b.ld {g o n c:Nat} (h:a9b w (.slice (some ⟨g,o,none⟩) n c) ns) (i:Nat) (hi:i<ns.length):g8 G.P w 3 ⟨g,E.J0 o ((i:Int)).toNat 1,none⟩ (.int .i64 ns[i]):=by
 obtain ⟨a,c',e,h⟩:=h;obtain ⟨g',o',cs,t,fz,e2,hb,h2⟩:=h zo;injection e with e1 _ _;rw [e2] at e1;injection e1 with e1;injection e1 with e1 e3 _;subst e1 e3;exact L5 hb (by rw [E.r9,zg,wB];exact h2 i hi) rfl
end intIn
structure It where
 mv:Mv
 tx:Tx
 nt:Nat
def b9A:l9→List It→Prop
 | p,[]=>(A1 p).length≤218
 | p,x::r=>(A1 p).length≤218∧x.mv∈A1 p∧Y6 p x.mv=true∧x.nt<3∧c5l p x.mv x.nt x.tx∧b9A (made p x.mv) r
theorem b9A.head {p:l9}:∀ {l:List It},b9A p l→(A1 p).length≤218
 | [],h=>h
 | _::_,h=>h.1
end
section
open Go
namespace Ch
def rn (p:l9) (h f:Int):l9:={ p with half:=h,full:=f }
variable (p:l9) (h f:Int)
def Same (s t:U3):Prop:=t.san=s.san∧t.lan=s.lan∧t.uci=s.uci∧t.tags=s.tags∧t.status=s.status∧∃ h f,t.pos=rn s.pos h f
inductive b4x:List U3→List U3→Prop
 | nil:b4x [] []
 | cons {s t:U3} {l k:List U3} (h:Same s t) (h':b4x l k):b4x (s::l) (t::k)
theorem b4x.len {l k:List U3} (h:b4x l k):l.length=k.length:=by
 induction h with
 | nil=>rfl
 | cons _ _ ih=>simp [ih]
theorem b4x.at_ {l k:List U3} (h:b4x l k):∀ (i:Nat) (s t:U3),l[i]?=some s→k[i]?=some t→Same s t:=by
 induction h with
 | nil=>intro i s t ha _;simp at ha
 | cons h1 _ ih =>
  intro i s t ha hb;cases i with
  | zero =>
   simp only [List.getElem?_cons_zero,x7] at ha hb;subst ha hb;exact h1
  | succ i =>
   simp only [List.getElem?_cons_succ] at ha hb;exact ih i s t ha hb
attribute [local irreducible] a1C N3 made C4 X7
end Ch
end
section
open Go Go.RowKit
open E
theorem a3E.cells {w:World} {g o n c:Nat} {ms:List Mv} (h:a3E w (.slice (some ⟨g,o,none⟩) n c) ms):∀ (j:Nat) (u:Value),(ms.flatMap J3)[j]?=some u→w.cell? ⟨g,o+j,none⟩=some u:=by
 intro j u hj;have hlt:j<ms.length*3:=by
  have:=(xS.1 hj).1;rw [G4 D9] at this;exact this
 obtain ⟨a,c',e,h⟩:=h;obtain ⟨g',o',cs,t,fz,e2,hb,h2⟩:=h zo;injection e with e1 _ _;rw [e2] at e1;injection e1 with e1;injection e1 with e1 e3 _;subst e1 e3;have hi:j/3<ms.length:=by omega
 obtain ⟨h3,h4⟩:=h2 (j/3) hi;have hk:=a3t D9 ms (j/3) (j%3) hi zo;have hjj:j/3*3+j%3=j:=by omega
 rw [hjj,hj] at hk;rw [C9 hb];have h5:(cs.extract (o+j/3*3) (o+j/3*3+3))[j%3]?=(J3 ms[j/3])[j%3]?:=by
  rw [h4];simp [S8,J3]
 rw [← hk,Array.getElem?_extract] at h5;split at h5
 ·rw [← h5];congr 1;omega
 ·cases h5
theorem Row.mvIn {e b0:Nat} {w:World} {v:Value} {l:List Mv} (h:Row e 3 J3 b0 w v l):a3E w v l:=by
 obtain ⟨a,c,rfl,ha⟩:=h.form;refine ⟨a,c,rfl,fun h0=>?_⟩;obtain ⟨g,rfl⟩:=ha h0;obtain ⟨cur,hb,_⟩:=h.getAll D9 0 h0;refine ⟨g,0,cur,e,_,rfl,hb,fun i hi=>?_⟩;obtain ⟨cur',hb',h1,h2⟩:=h.getAll D9 i hi;rw [hb] at hb';obtain rfl:=xF (yi hb') |>.1;rw [yW];exact ⟨h1,h2⟩
end
section
open Go Go.RowKit
open E
open Ch Bb
theorem nT {p:Prop} [Decidable p] {A B:Prop} (h:¬ p) (h1:A):bif !decide p then A else B:=by rw [zV h];exact h1
theorem nF {p:Prop} [Decidable p] {A B:Prop} (h:p) (h1:B):bif !decide p then A else B:=by rw [zX h];exact h1
end
section
open Go Go.RowKit
open E
def Src {α:Type} (enc:α→List Value) (w:World) (v:Value) (l:List α):Prop:=∃ a c,v = .slice a l.length c∧(0<l.length→∃ g o,a=some ⟨g,o,none⟩∧∀ (j:Nat) (u:Value),(l.flatMap enc)[j]?=some u→w.cell? ⟨g,o+j,none⟩=some u)
section src
variable {α:Type} {e z b0:Nat} {enc:α→List Value} {w w':World} {a:Option Addr} {n c:Nat} {l:List α}
theorem Src.step {v:Value} (h:Src enc w v l) (hc:Cl w w'):Src enc w' v l:=by
 obtain ⟨a,c,e1,h⟩:=h;refine ⟨a,c,e1,fun h0=>?_⟩;obtain ⟨g,o,e2,h3⟩:=h h0;refine ⟨g,o,e2,fun j u hu=>?_⟩;have h4:=h3 j u hu;unfold World.cell? at h4 ⊢;cases hb:w.heap[g]? with
 | none=>simp only [hb] at h4;cases h4
 | some ob=>simp only [hc.blk hb];simpa only [hb] using h4
theorem b7d (henc:∀ x,(enc x).length=z) (l:List α) {k j:Nat} {u:Value} (h:((l.take k).flatMap enc)[j]?=some u):(l.flatMap enc)[j]?=some u:=by
 have e:l.flatMap enc=(l.take k).flatMap enc++(l.drop k).flatMap enc:=by rw [← x9,xm]
 rw [e,List.getElem?_append_left (xS.1 h).1,h]
theorem b7e (henc:∀ x,(enc x).length=z) (l:List α) {k j:Nat} (hk:k≤l.length) {u:Value} (h:((l.drop k).flatMap enc)[j]?=some u):(l.flatMap enc)[k*z+j]?=some u:=by
 have e:l.flatMap enc=(l.take k).flatMap enc++(l.drop k).flatMap enc:=by rw [← x9,xm]
 have e2:((l.take k).flatMap enc).length=k*z:=by rw [G4 henc,yb,Nat.min_eq_left hk]
 rw [e,List.getElem?_append_right (by rw [e2];omega),e2,Nat.add_sub_cancel_left,h]
theorem Row.cells (h:Row e z enc b0 w (.slice a n c) l) (henc:∀ x,(enc x).length=z) (h0:0<l.length):n=l.length∧l.length≤c∧∃ g,a=some ⟨g,0,none⟩∧∀ (j:Nat) (u:Value),(l.flatMap enc)[j]?=some u→w.cell? ⟨g,j,none⟩=some u:=by
 rcases h.2 with ⟨_,h2⟩|⟨g,cap,cur,e1,_,e3,e4,_,_,e7⟩
 ·omega
 ·injection e1 with e1 e8 e9;subst e8 e9;refine ⟨rfl,e4,g,e1,fun j u hu=>?_⟩;have hj:j<l.length*z:=by
   have:=(xS.1 hu).1
   rwa [G4 henc] at this
  rw [C9 e3,← xB];rw [← e7,xe,zM hj] at hu;exact hu
theorem Row.srcT (h:Row e z enc b0 w (.slice a n c) l) (henc:∀ x,(enc x).length=z) (k:Nat) (hk:k≤l.length):Src enc w (.slice (if c=0 then a else a.map (·.add (0*z))) k c) (l.take k):=by
 refine ⟨_,_,by rw [yb,Nat.min_eq_left hk],fun h0=>?_⟩
 rw [yb] at h0;obtain ⟨rfl,h1,g,rfl,h2⟩:=h.cells henc zo;refine ⟨g,0,by rw [zJ zo,wM,E3];simp,fun j u hu=>?_⟩
 rw [yW];exact h2 j u (b7d henc l hu)
theorem Row.srcD (h:Row e z enc b0 w (.slice a n c) l) (henc:∀ x,(enc x).length=z) (k:Nat) (hk:k≤l.length) (hn:n=l.length):Src enc w (.slice (if c=k then a else a.map (·.add (k*z))) (n-k) (c-k)) (l.drop k):=by
 refine ⟨_,_,by rw [ye,hn],fun h0=>?_⟩
 rw [ye] at h0;obtain ⟨_,h1,g,rfl,h2⟩:=h.cells henc zo;refine ⟨g,k*z,by rw [zJ zo,wM,E3,yW],fun j u hu=>?_⟩
 exact h2 _ u (b7e henc l hk hu)
end src
section gens
variable {α:Type} {t e z b:Nat} {enc:α→List Value} {dst:Option Nat} {ty:Nat} {pos:String} {af:Array Edge} {gd:Option (Nat×Bool)} {env:C8}
theorem b9B (E1:F0 t e z b) {C:World→Prop} {K:Value→Prop} {x hi:Operand} {a:Option Addr} {n c h:Nat} (hx:ev env x = .slice a n c) (hh:ev env hi = .int .i64 h) (h2:h≤c) (hk:K (.slice (if c=0 then a else a.map (·.add (0*z))) h c)) :
  b1x G.P C { dst,op:=.slice t x none (some hi) none,type:=ty,pos,after:=af,guard:=gd } env K:=by
 obtain ⟨i,zv,hi2,hzv,hsz,hby,hzs⟩:=E1.info;have he:G.P.elem t=e:=by unfold Program.elem;rw [E1.ty]
 refine ⟨_,fun w _=>?_,hk⟩;show (do pure (Next.value (← Instr.sliceAt t (ev env x) none (some (ev env hi)) none)):Sem Next).run G.P w=_
 have e2:=run_sliceAt_slice (P:=G.P) (w:=w) t (.slice a n c) none (some (.int .i64 h)) none (by rw [he];exact E1.ty)
 rw [hx,hh,yj,e2,run_slice_h (P:=G.P) w t a n c (by rw [he];exact E1.ty) .i64 h zo zo,he]
 simp [sizeOf,typeInfo,hi2,sliced,hsz]
theorem b9C (E1:F0 t e z b) {C:World→Prop} {K:Value→Prop} {x lo:Operand} {a:Option Addr} {n c h:Nat} (hx:ev env x = .slice a n c) (hh:ev env lo = .int .i64 h) (h2:h≤n) (hk:K (.slice (if c=h then a else a.map (·.add (h*z))) (n-h) (c-h))) :
  b1x G.P C { dst,op:=.slice t x (some lo) none none,type:=ty,pos,after:=af,guard:=gd } env K:=by
 obtain ⟨i,zv,hi2,hzv,hsz,hby,hzs⟩:=E1.info;have he:G.P.elem t=e:=by unfold Program.elem;rw [E1.ty]
 refine ⟨_,fun w _=>?_,hk⟩;show (do pure (Next.value (← Instr.sliceAt t (ev env x) (some (ev env lo)) none none)):Sem Next).run G.P w=_
 have e2:=run_sliceAt_slice (P:=G.P) (w:=w) t (.slice a n c) (some (.int .i64 h)) none none (by rw [he];exact E1.ty)
 rw [hx,hh,yj,e2,run_slice_l (P:=G.P) w t a n c (by rw [he];exact E1.ty) .i64 h zo zo,he]
 simp [sizeOf,typeInfo,hi2,sliced,hsz]
theorem b2V (E1:F0 t e z b) {b0:Nat} {v vx:Value} {l news:List α} {s x:Operand} {w:World} {K:Value→World→Prop}
  (hs:ev env s=v) (hrow:Row e z enc b0 w v l) (hx:ev env x=vx) (hB:Src enc w vx news) (henc:∀ x,(enc x).length=z)
  (hone:∀ x,∀ u∈enc x,u.oneCell'=true) (hlen:l.length+news.length≤100000) (hbz:b≤1000) (hb0:b0≤w.heap.size)
  (h:∀ v' w',Row e z enc b0 w' v' (l++news)→a6c b0 w v w' v'→K v' w') :
  H4 G.P { dst,op:=.call { callee:=.builtin .append,args:=#[s,x],argTypes:=#[t,t] },type:=ty,pos,after:=af,guard:=gd } env w K:=by
 obtain ⟨i,zv,hi,hzv,hsz,hby,hzs⟩:=E1.info;obtain ⟨a,c,rfl,ha⟩:=hB;by_cases h0:0<news.length
 ·obtain ⟨g,o,rfl,hc⟩:=ha h0;obtain ⟨v',w',h1,h2,h3,_,h5⟩:=run_append_own_at (P:=G.P) w b0 t ty e i zv z b E1.ty hi hzv hsz hby hzs E1.pos v l.length (l.flatMap enc) hrow ⟨g,o,none⟩ news.length c (news.flatMap enc)
   (G4 henc news) (fun j u' hu=>by rw [E3];exact hc j u' hu)
   (fun u hu=>by obtain ⟨x,_,hx⟩:=xM.1 hu;exact hone x u hx)
   (by unfold maxLen;omega) (by
    have:(l.length+news.length)*b≤100000*1000:=Nat.mul_le_mul hlen hbz;omega) hb0
  refine ⟨.inl ⟨v',w',?_,h v' w' ⟨by simpa using h2.1,by simpa using h2.2⟩ ⟨fun w0 hw0 hc=>?_,fun k o hk hne=>?_,?_⟩⟩⟩
  ·simp only [execOp,resolve,invoke,builtin,yj,xY,yp,xO,yQ,xb,hs,hx,h1]
  ·subst hw0;refine Below.grown hc h3 hb0 fun k hk=>?_;rcases hrow.2 with ⟨e1,_⟩|⟨g,cap,cur,e1,e2,_⟩
   ·rw [e1] at hk;cases hk
   ·rw [e1] at hk;injection hk with hk;subst hk;exact e2
  ·rw [h3.block k (yh.1 hk).1 (fun e=>hne e.symm)];exact hk
  ·rcases h5 with h5|h5
   ·exact .inl h5
   ·exact .inr ⟨_,h5,yJ _⟩
 ·have hnn:=xx (Nat.eq_zero_of_not_pos h0);subst hnn;obtain ⟨a1,c1,rfl,_⟩:=hrow.form;have hle:l.length≤c1:=by
   rcases hrow.2 with ⟨e1,e2⟩|⟨g,cap,cur,e1,_,_,e4,_⟩
   ·injection e1 with _ _ e3;omega
   ·injection e1 with _ _ e3;omega
  refine ⟨.inl ⟨_,w,?_,h _ w (by rw [zn];exact hrow) ⟨fun _ _ hc=>hc,fun _ _ hk _=>hk,.inl rfl⟩⟩⟩
  have hr:(Builtin.append_ #[t,t] ty #[.slice a1 l.length c1,.slice a 0 c]).run G.P w = .ok (.slice a1 l.length c1) w:=by
   cases a1<;>cases a<;>simp [Builtin.append_,Go.run_underlying E1.ty,sizeOf,typeInfo,hi,Builtin.lenOf,Builtin.firstCells,loadCells,loadCellsFrom,hle,storeCells]
  simp only [execOp,resolve,invoke,builtin,yj,xY,yp,xO,yQ,xb,hs,hx];simp only [za] at hx ⊢;rw [hr];rfl
end gens
theorem c1W {α:Type} {e z:Nat} {enc:α→List Value} (w:World):Row e z enc w.heap.size (w.alloc (.cells #[] e)) (.slice (some ⟨w.heap.size,0,none⟩) 0 0) []:=World.ownsRow_made w #[] 0 (yJ _) (xA _) (by simp)
end
