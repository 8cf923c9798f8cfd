/- One part of the proof: Pk2 Pk3 Pk4 Pk5 PkL PkM Sp22 Min. -/
import Derived.Test.YtpclhlhcegcflaaGreatDoorM7
namespace Go.Proofs.YtpclhlhcegcflaaGreatDoor
open Go.Proofs.Tryz
set_option maxRecDepth 100000
set_option linter.unusedSimpArgs false
set_option linter.unusedVariables false
section
open Go Go.RowKit
open E
theorem a0q {n:Int} (h0:-128≤n) (h1:n≤127):IntKind.i8.wrap n=n:=by
 unfold IntKind.wrap;simp [IntKind.bits,IntKind.signed];omega
theorem b1U {n:Int} (h0:0≤n) (h1:n≤255):IntKind.u8.wrap n=n:=by
 unfold IntKind.wrap;simp [IntKind.bits,IntKind.signed];omega
theorem b8r {n:Int} (h0:0≤n) (h1:n<18446744073709551616):IntKind.u64.wrap n=n:=by
 unfold IntKind.wrap;simp [IntKind.bits,IntKind.signed];omega
structure MB where
 f:Nat→Nat
 wk:Int
 bk:Int
def MB.set (B:MB) (i x:Nat):MB:={ B with f:=fun j=>if j=i then x else B.f j }
def mbL (B:MB):List Value:=(List.range 15).map (fun i=>Value.int .u64 (B.f i))++[.int .i8 B.wk,.int .i8 B.bk]
def H3 (B:MB):Array Value:=(mbL B).toArray
theorem a2A (B:MB):(H3 B).size=17:=by simp [H3,mbL]
theorem b0L (B:MB) (i:Nat) (h:i<15):(H3 B)[i]?=some (.int .u64 (B.f i)):=by
 simp only [H3,mbL,List.getElem?_toArray];rw [List.getElem?_append_left (by simpa using h),List.getElem?_map,List.getElem?_range h];rfl
theorem c3b (B:MB):(H3 B)[15]?=some (.int .i8 B.wk):=rfl
theorem c3c (B:MB):(H3 B)[16]?=some (.int .i8 B.bk):=rfl
theorem X0 {B:MB} {w:World} {b t:Nat} {fz:Nat×Nat} (hb:w.heap[b]?=some (.cells (H3 B) t fz)) (i:Nat) (h:i<15):g8 G.P w 235 ⟨b,i,none⟩ (.int .u64 (B.f i)):=L5 hb (b0L B i h) rfl
theorem c0F {B:MB} {w:World} {b t:Nat} {fz:Nat×Nat} (hb:w.heap[b]?=some (.cells (H3 B) t fz)):g8 G.P w 138 ⟨b,15,none⟩ (.int .i8 B.wk):=L5 hb (c3b B) rfl
theorem c3d {B:MB} {w:World} {b t:Nat} {fz:Nat×Nat} (hb:w.heap[b]?=some (.cells (H3 B) t fz)):g8 G.P w 138 ⟨b,16,none⟩ (.int .i8 B.bk):=L5 hb (c3c B) rfl
theorem c0G (B:MB) (i x:Nat) (h:i<15):L8 (H3 B) i [.int .u64 x]=H3 (B.set i x):=by
 apply xv;intro k;rw [S0 _ _ _ _ (by rw [a2A];simp;omega)]
 simp only [zh,za];by_cases hk:k<15
 ·rw [b0L _ _ hk,b0L _ _ hk];by_cases e:k=i
  ·subst e;rw [zM zo];simp [MB.set]
  ·rw [zJ zo];simp [MB.set,e]
 ·rw [zJ zo];by_cases e:k=15
  ·subst e;rfl
  ·by_cases e2:k=16
   ·subst e2;rfl
   ·rw [xj (by rw [a2A];omega),xj (by rw [a2A];omega)]
structure Hd where
 cas:Tx
 half:Int
 full:Int
 turn:Int
 ep:Int
 chk:Bool
def hdL (b:Nat) (h:Hd) (cv:Value):List Value:=[.pointer (some ⟨b,0,none⟩),m9 h.cas,cv,.int .i64 h.half,.int .i64 h.full,.int .i8 h.turn,.int .i8 h.ep,.bool h.chk]
def hdA (b:Nat) (h:Hd) (cv:Value):Array Value:=(hdL b h cv).toArray
section hd
variable {b P t:Nat} {h:Hd} {cv:Value} {w:World} {fz:Nat×Nat} (hb:w.heap[P]?=some (.cells (hdA b h cv) t fz))
include hb
theorem a8v:g8 G.P w 169 ⟨P,0,none⟩ (.pointer (some ⟨b,0,none⟩)):=L5 hb rfl rfl
theorem a8w:g8 G.P w 170 ⟨P,1,none⟩ (m9 h.cas):=L5 hb rfl rfl
theorem a8x:g8 G.P w 132 ⟨P,2,none⟩ cv:=L5 hb rfl rfl
theorem a7B:g8 G.P w 3 ⟨P,3,none⟩ (.int .i64 h.half):=L5 hb rfl rfl
theorem b0M:g8 G.P w 3 ⟨P,4,none⟩ (.int .i64 h.full):=L5 hb rfl rfl
theorem a7C:g8 G.P w 171 ⟨P,5,none⟩ (.int .i8 h.turn):=L5 hb rfl rfl
theorem b1V:g8 G.P w 138 ⟨P,6,none⟩ (.int .i8 h.ep):=L5 hb rfl rfl
theorem b37:g8 G.P w 4 ⟨P,7,none⟩ (.bool h.chk):=L5 hb rfl rfl
end hd
structure Nd where
 par:Value
 pos:Value
 com:Tx
 kids:Value
 tags:Nat
 mv:Mv
def ndL (d:Nd):List Value:=[d.par,d.pos,m9 [],m9 d.com,.map none,d.kids,.int .u64 0,.int .u16 d.tags,.int .i8 d.mv.fr,.int .i8 d.mv.to,.int .i8 d.mv.promo]
def E8 (d:Nd):Array Value:=(ndL d).toArray
def E0 (x:PM):Nd:=⟨.pointer none,.pointer none,[],.slice none 0 0,x.tags,x.mv⟩
def D4 (x:PM):List Value:=ndL (E0 x)
section nd
variable {M t:Nat} {d:Nd} {w:World} {fz:Nat×Nat} (hb:w.heap[M]?=some (.cells (E8 d) t fz))
include hb
theorem b8s:g8 G.P w 83 ⟨M,1,none⟩ d.pos:=L5 hb rfl rfl
theorem b38:g8 G.P w 9 ⟨M,3,none⟩ (m9 d.com):=L5 hb rfl rfl
theorem b0N:g8 G.P w 134 ⟨M,5,none⟩ d.kids:=L5 hb rfl rfl
theorem b5a:g8 G.P w 136 ⟨M,7,none⟩ (.int .u16 d.tags):=L5 hb rfl rfl
theorem b5b:g8 G.P w 138 ⟨M,8,none⟩ (.int .i8 d.mv.fr):=L5 hb rfl rfl
theorem b5c:g8 G.P w 138 ⟨M,9,none⟩ (.int .i8 d.mv.to):=L5 hb rfl rfl
theorem a8y:g8 G.P w 139 ⟨M,10,none⟩ (.int .i8 d.mv.promo):=L5 hb rfl rfl
end nd
section steps
variable {B:MB} {w:World} {b P t:Nat} {fz:Nat×Nat} {h:Hd} {cv:Value} {K:Value→Prop}
theorem kb0 (hb:w.heap[b]?=some (.cells (H3 B) t fz)) (hk:q8 (.int .u64 (B.f 0)) K):N1 G.P w 235 ⟨b,0,none⟩ (fun v=>q8 v K):=b7 _ (X0 hb 0 zd) hk
theorem qb0 (hb:w.heap[b]?=some (.cells (H3 B) t fz)) (hk:q8 (.int .u64 (B.f 0)) K):O8 G.P (Cl w) 235 ⟨b,0,none⟩ (fun v=>q8 v K):=m7 _ (fun w' hw=>X0 (hw.blk hb) 0 zd) hk
theorem kb1 (hb:w.heap[b]?=some (.cells (H3 B) t fz)) (hk:q8 (.int .u64 (B.f 1)) K):N1 G.P w 235 ⟨b,1,none⟩ (fun v=>q8 v K):=b7 _ (X0 hb 1 zd) hk
theorem qb1 (hb:w.heap[b]?=some (.cells (H3 B) t fz)) (hk:q8 (.int .u64 (B.f 1)) K):O8 G.P (Cl w) 235 ⟨b,1,none⟩ (fun v=>q8 v K):=m7 _ (fun w' hw=>X0 (hw.blk hb) 1 zd) hk
theorem kb2 (hb:w.heap[b]?=some (.cells (H3 B) t fz)) (hk:q8 (.int .u64 (B.f 2)) K):N1 G.P w 235 ⟨b,2,none⟩ (fun v=>q8 v K):=b7 _ (X0 hb 2 zd) hk
theorem qb2 (hb:w.heap[b]?=some (.cells (H3 B) t fz)) (hk:q8 (.int .u64 (B.f 2)) K):O8 G.P (Cl w) 235 ⟨b,2,none⟩ (fun v=>q8 v K):=m7 _ (fun w' hw=>X0 (hw.blk hb) 2 zd) hk
theorem kb3 (hb:w.heap[b]?=some (.cells (H3 B) t fz)) (hk:q8 (.int .u64 (B.f 3)) K):N1 G.P w 235 ⟨b,3,none⟩ (fun v=>q8 v K):=b7 _ (X0 hb 3 zd) hk
theorem qb3 (hb:w.heap[b]?=some (.cells (H3 B) t fz)) (hk:q8 (.int .u64 (B.f 3)) K):O8 G.P (Cl w) 235 ⟨b,3,none⟩ (fun v=>q8 v K):=m7 _ (fun w' hw=>X0 (hw.blk hb) 3 zd) hk
theorem kb4 (hb:w.heap[b]?=some (.cells (H3 B) t fz)) (hk:q8 (.int .u64 (B.f 4)) K):N1 G.P w 235 ⟨b,4,none⟩ (fun v=>q8 v K):=b7 _ (X0 hb 4 zd) hk
theorem qb4 (hb:w.heap[b]?=some (.cells (H3 B) t fz)) (hk:q8 (.int .u64 (B.f 4)) K):O8 G.P (Cl w) 235 ⟨b,4,none⟩ (fun v=>q8 v K):=m7 _ (fun w' hw=>X0 (hw.blk hb) 4 zd) hk
theorem kb5 (hb:w.heap[b]?=some (.cells (H3 B) t fz)) (hk:q8 (.int .u64 (B.f 5)) K):N1 G.P w 235 ⟨b,5,none⟩ (fun v=>q8 v K):=b7 _ (X0 hb 5 zd) hk
theorem qb5 (hb:w.heap[b]?=some (.cells (H3 B) t fz)) (hk:q8 (.int .u64 (B.f 5)) K):O8 G.P (Cl w) 235 ⟨b,5,none⟩ (fun v=>q8 v K):=m7 _ (fun w' hw=>X0 (hw.blk hb) 5 zd) hk
theorem kb6 (hb:w.heap[b]?=some (.cells (H3 B) t fz)) (hk:q8 (.int .u64 (B.f 6)) K):N1 G.P w 235 ⟨b,6,none⟩ (fun v=>q8 v K):=b7 _ (X0 hb 6 zd) hk
theorem qb6 (hb:w.heap[b]?=some (.cells (H3 B) t fz)) (hk:q8 (.int .u64 (B.f 6)) K):O8 G.P (Cl w) 235 ⟨b,6,none⟩ (fun v=>q8 v K):=m7 _ (fun w' hw=>X0 (hw.blk hb) 6 zd) hk
theorem kb7 (hb:w.heap[b]?=some (.cells (H3 B) t fz)) (hk:q8 (.int .u64 (B.f 7)) K):N1 G.P w 235 ⟨b,7,none⟩ (fun v=>q8 v K):=b7 _ (X0 hb 7 zd) hk
theorem qb7 (hb:w.heap[b]?=some (.cells (H3 B) t fz)) (hk:q8 (.int .u64 (B.f 7)) K):O8 G.P (Cl w) 235 ⟨b,7,none⟩ (fun v=>q8 v K):=m7 _ (fun w' hw=>X0 (hw.blk hb) 7 zd) hk
theorem kb8 (hb:w.heap[b]?=some (.cells (H3 B) t fz)) (hk:q8 (.int .u64 (B.f 8)) K):N1 G.P w 235 ⟨b,8,none⟩ (fun v=>q8 v K):=b7 _ (X0 hb 8 zd) hk
theorem qb8 (hb:w.heap[b]?=some (.cells (H3 B) t fz)) (hk:q8 (.int .u64 (B.f 8)) K):O8 G.P (Cl w) 235 ⟨b,8,none⟩ (fun v=>q8 v K):=m7 _ (fun w' hw=>X0 (hw.blk hb) 8 zd) hk
theorem kb9 (hb:w.heap[b]?=some (.cells (H3 B) t fz)) (hk:q8 (.int .u64 (B.f 9)) K):N1 G.P w 235 ⟨b,9,none⟩ (fun v=>q8 v K):=b7 _ (X0 hb 9 zd) hk
theorem qb9 (hb:w.heap[b]?=some (.cells (H3 B) t fz)) (hk:q8 (.int .u64 (B.f 9)) K):O8 G.P (Cl w) 235 ⟨b,9,none⟩ (fun v=>q8 v K):=m7 _ (fun w' hw=>X0 (hw.blk hb) 9 zd) hk
theorem c4y (hb:w.heap[b]?=some (.cells (H3 B) t fz)) (hk:q8 (.int .u64 (B.f 10)) K):N1 G.P w 235 ⟨b,10,none⟩ (fun v=>q8 v K):=b7 _ (X0 hb 10 zd) hk
theorem c59 (hb:w.heap[b]?=some (.cells (H3 B) t fz)) (hk:q8 (.int .u64 (B.f 10)) K):O8 G.P (Cl w) 235 ⟨b,10,none⟩ (fun v=>q8 v K):=m7 _ (fun w' hw=>X0 (hw.blk hb) 10 zd) hk
theorem c4z (hb:w.heap[b]?=some (.cells (H3 B) t fz)) (hk:q8 (.int .u64 (B.f 11)) K):N1 G.P w 235 ⟨b,11,none⟩ (fun v=>q8 v K):=b7 _ (X0 hb 11 zd) hk
theorem c5A (hb:w.heap[b]?=some (.cells (H3 B) t fz)) (hk:q8 (.int .u64 (B.f 11)) K):O8 G.P (Cl w) 235 ⟨b,11,none⟩ (fun v=>q8 v K):=m7 _ (fun w' hw=>X0 (hw.blk hb) 11 zd) hk
theorem c40 (hb:w.heap[b]?=some (.cells (H3 B) t fz)) (hk:q8 (.int .u64 (B.f 12)) K):N1 G.P w 235 ⟨b,12,none⟩ (fun v=>q8 v K):=b7 _ (X0 hb 12 zd) hk
theorem c5B (hb:w.heap[b]?=some (.cells (H3 B) t fz)) (hk:q8 (.int .u64 (B.f 12)) K):O8 G.P (Cl w) 235 ⟨b,12,none⟩ (fun v=>q8 v K):=m7 _ (fun w' hw=>X0 (hw.blk hb) 12 zd) hk
theorem c41 (hb:w.heap[b]?=some (.cells (H3 B) t fz)) (hk:q8 (.int .u64 (B.f 13)) K):N1 G.P w 235 ⟨b,13,none⟩ (fun v=>q8 v K):=b7 _ (X0 hb 13 zd) hk
theorem c5C (hb:w.heap[b]?=some (.cells (H3 B) t fz)) (hk:q8 (.int .u64 (B.f 13)) K):O8 G.P (Cl w) 235 ⟨b,13,none⟩ (fun v=>q8 v K):=m7 _ (fun w' hw=>X0 (hw.blk hb) 13 zd) hk
theorem c42 (hb:w.heap[b]?=some (.cells (H3 B) t fz)) (hk:q8 (.int .u64 (B.f 14)) K):N1 G.P w 235 ⟨b,14,none⟩ (fun v=>q8 v K):=b7 _ (X0 hb 14 zd) hk
theorem c5D (hb:w.heap[b]?=some (.cells (H3 B) t fz)) (hk:q8 (.int .u64 (B.f 14)) K):O8 G.P (Cl w) 235 ⟨b,14,none⟩ (fun v=>q8 v K):=m7 _ (fun w' hw=>X0 (hw.blk hb) 14 zd) hk
theorem kWk (hb:w.heap[b]?=some (.cells (H3 B) t fz)) (hk:q8 (.int .i8 B.wk) K):N1 G.P w 138 ⟨b,15,none⟩ (fun v=>q8 v K):=b7 _ (c0F hb) hk
theorem qWk (hb:w.heap[b]?=some (.cells (H3 B) t fz)) (hk:q8 (.int .i8 B.wk) K):O8 G.P (Cl w) 138 ⟨b,15,none⟩ (fun v=>q8 v K):=m7 _ (fun w' hw=>c0F (hw.blk hb)) hk
theorem kBk (hb:w.heap[b]?=some (.cells (H3 B) t fz)) (hk:q8 (.int .i8 B.bk) K):N1 G.P w 138 ⟨b,16,none⟩ (fun v=>q8 v K):=b7 _ (c3d hb) hk
theorem qBk (hb:w.heap[b]?=some (.cells (H3 B) t fz)) (hk:q8 (.int .i8 B.bk) K):O8 G.P (Cl w) 138 ⟨b,16,none⟩ (fun v=>q8 v K):=m7 _ (fun w' hw=>c3d (hw.blk hb)) hk
theorem kHb (hb:w.heap[P]?=some (.cells (hdA b h cv) t fz)) (hk:q8 (.pointer (some ⟨b,0,none⟩)) K):N1 G.P w 169 ⟨P,0,none⟩ (fun v=>q8 v K):=b7 _ (a8v hb) hk
theorem qHb (hb:w.heap[P]?=some (.cells (hdA b h cv) t fz)) (hk:q8 (.pointer (some ⟨b,0,none⟩)) K):O8 G.P (Cl w) 169 ⟨P,0,none⟩ (fun v=>q8 v K):=m7 _ (fun w' hw=>a8v (hw.blk hb)) hk
theorem c2m (hb:w.heap[P]?=some (.cells (hdA b h cv) t fz)) (hk:q8 (m9 h.cas) K):O8 G.P (Cl w) 170 ⟨P,1,none⟩ (fun v=>q8 v K):=m7 _ (fun w' hw=>a8w (hw.blk hb)) hk
theorem kHt (hb:w.heap[P]?=some (.cells (hdA b h cv) t fz)) (hk:q8 (.int .i8 h.turn) K):N1 G.P w 171 ⟨P,5,none⟩ (fun v=>q8 v K):=b7 _ (a7C hb) hk
theorem qHt (hb:w.heap[P]?=some (.cells (hdA b h cv) t fz)) (hk:q8 (.int .i8 h.turn) K):O8 G.P (Cl w) 171 ⟨P,5,none⟩ (fun v=>q8 v K):=m7 _ (fun w' hw=>a7C (hw.blk hb)) hk
theorem c43 (hb:w.heap[P]?=some (.cells (hdA b h cv) t fz)) (hk:q8 (.int .i8 h.ep) K):N1 G.P w 138 ⟨P,6,none⟩ (fun v=>q8 v K):=b7 _ (b1V hb) hk
theorem c0I (hb:w.heap[P]?=some (.cells (hdA b h cv) t fz)) (hk:q8 (.int .i8 h.ep) K):O8 G.P (Cl w) 138 ⟨P,6,none⟩ (fun v=>q8 v K):=m7 _ (fun w' hw=>b1V (hw.blk hb)) hk
theorem a8z (hb:w.heap[P]?=some (.cells (hdA b h cv) t fz)) (hk:q8 (.bool h.chk) K):N1 G.P w 4 ⟨P,7,none⟩ (fun v=>q8 v K):=b7 _ (b37 hb) hk
theorem c44 (hb:w.heap[P]?=some (.cells (hdA b h cv) t fz)) (hk:q8 (.bool h.chk) K):O8 G.P (Cl w) 4 ⟨P,7,none⟩ (fun v=>q8 v K):=m7 _ (fun w' hw=>b37 (hw.blk hb)) hk
end steps
section steps
variable {d:Nd} {w:World} {M t:Nat} {fz:Nat×Nat} {K:Value→Prop}
theorem a4Q (hb:w.heap[M]?=some (.cells (E8 d) t fz)) (hk:q8 (.int .i8 d.mv.fr) K):N1 G.P w 138 ⟨M,8,none⟩ (fun v=>q8 v K):=b7 _ (b5b hb) hk
theorem a3C (hb:w.heap[M]?=some (.cells (E8 d) t fz)) (hk:q8 (.int .i8 d.mv.fr) K):O8 G.P (Cl w) 138 ⟨M,8,none⟩ (fun v=>q8 v K):=m7 _ (fun w' hw=>b5b (hw.blk hb)) hk
theorem a7k (hb:w.heap[M]?=some (.cells (E8 d) t fz)) (hk:q8 (.int .i8 d.mv.to) K):N1 G.P w 138 ⟨M,9,none⟩ (fun v=>q8 v K):=b7 _ (b5c hb) hk
theorem b0O (hb:w.heap[M]?=some (.cells (E8 d) t fz)) (hk:q8 (.int .i8 d.mv.to) K):O8 G.P (Cl w) 138 ⟨M,9,none⟩ (fun v=>q8 v K):=m7 _ (fun w' hw=>b5c (hw.blk hb)) hk
theorem a56 (hb:w.heap[M]?=some (.cells (E8 d) t fz)) (hk:q8 (.int .i8 d.mv.promo) K):N1 G.P w 139 ⟨M,10,none⟩ (fun v=>q8 v K):=b7 _ (a8y hb) hk
theorem a7D (hb:w.heap[M]?=some (.cells (E8 d) t fz)) (hk:q8 (.int .i8 d.mv.promo) K):O8 G.P (Cl w) 139 ⟨M,10,none⟩ (fun v=>q8 v K):=m7 _ (fun w' hw=>a8y (hw.blk hb)) hk
theorem c2n (hb:w.heap[M]?=some (.cells (E8 d) t fz)) {v:Int} (hv:d.mv.fr=v) (hk:q8 (.int .i8 v) K):N1 G.P w 138 ⟨M,8,none⟩ (fun v=>q8 v K):=by subst hv;exact b7 _ (b5b hb) hk
theorem c2o (hb:w.heap[M]?=some (.cells (E8 d) t fz)) {v:Int} (hv:d.mv.to=v) (hk:q8 (.int .i8 v) K):N1 G.P w 138 ⟨M,9,none⟩ (fun v=>q8 v K):=by subst hv;exact b7 _ (b5c hb) hk
end steps
theorem c46 (k:Nat):k &&& 63=k%64:=Nat.and_two_pow_sub_one_eq_mod k 6
theorem a80 (x k:Nat) [hx:G9 x] (hk:k≤64) (w:World):Calls G.P 259 #[.int .u64 x,.int .i64 k] w (E5 (.int .u64 (Ch.shl x (k%64) ||| x >>> (64-k%64):Nat)) w):=by
 have e1:IntKind.u64.wrap (k:Int)=k:=b8r zo zo;have hk2:k%64<64:=Nat.mod_lt _ zd;have e2:IntKind.u64.wrap (64-((k%64:Nat):Int))=((64-k%64:Nat):Int):=by rw [b8r zo zo];omega
 refine zN func259 ?_;refine zR ?_;rw [e1];refine c2Y (a:=k) (b:=63) zo zd ?_;rw [c46];generalize k%64=s at *;refine zR ?_;refine c2Z zo (zR ?_);rw [e2];refine c4x zo ?_;have h1:G9 (Ch.shl x s):=inferInstance;have h2:G9 (x >>> (64-s)):=inferInstance;generalize Ch.shl x s=a at *;generalize x >>> (64-s)=b at *;refine zS ?_;exact ⟨rfl,rfl⟩
theorem c0J (x s:Nat) (hx:x<2^64) (hs:s<64):((Ch.shl x ((s+1)%64) ||| x >>> (64-(s+1)%64)) &&& 1)=if x.testBit (63-s) then 1 else 0:=by
 have h:((Ch.shl x ((s+1)%64) ||| x >>> (64-(s+1)%64)) &&& 1).testBit 0=x.testBit (63-s):=by
  rw [zq,yF];simp only [Ch.shl,Nat.testBit_mod_two_pow,Nat.testBit_shiftLeft,Nat.testBit_shiftRight];by_cases e:s=63
  ·subst e;simp [Nat.testBit_lt_two_pow hx]
  ·rw [xq zo];simp only [show ¬ (0≥s+1) by omega,decide_false,Bool.and_false,xc]
   simp [show 64-(s+1)=63-s by omega]
 have h2:=Nat.and_one_is_mod (Ch.shl x ((s+1)%64) ||| x >>> (64-(s+1)%64))
 generalize hy:((Ch.shl x ((s+1)%64) ||| x >>> (64-(s+1)%64)) &&& 1)=y at *
 have hy2:y<2:=by rw [h2];exact Nat.mod_lt _ zd
 have hy3:y=0∨y=1:=by omega
 rcases hy3 with e|e
 ·subst e;simp at h;simp [← h]
 ·subst e;simp at h;simp [← h]
theorem a1F (x s:Nat) [hx:G9 x] (hs:s<64) (w:World):Calls G.P 205 #[.int .u64 x,.int .i8 s] w (E5 (.bool (x.testBit (63-s))) w):=by
 have e1:IntKind.i64.wrap (s:Int)=s:=g9 zo zo;have e2:IntKind.i64.wrap ((s:Int)+1)=((s+1:Nat):Int):=by rw [g9 zo zo];push_cast;rfl
 have hr:=c0J x s hx.lt hs;have hc:=fun w=>a80 x (s+1) zo w;have hl:G9 (Ch.shl x ((s+1)%64) ||| x >>> (64-(s+1)%64)):=inferInstance
 generalize (Ch.shl x ((s+1)%64) ||| x >>> (64-(s+1)%64))=R at *
 refine zN func205 ?_;refine zR ?_;rw [e1,e2];refine l8 (hc _) (zR ?_);refine zI ?_;rw [hr];generalize x.testBit (63-s)=t at *;cases t<;>(refine zR ?_)<;>exact ⟨rfl,rfl⟩
theorem s8 (s:Nat) (hs:s<64) (w:World):Calls G.P 247 #[.int .i8 s] w (E5 (.int .u64 (Bb.D6 s)) w):=by
 have e1:IntKind.u8.wrap (s:Int)=s:=b1U zo zo;have e2:IntKind.u8.wrap (63-(s:Int))=((63-s:Nat):Int):=by rw [b1U zo zo];omega
 have e3:Ch.shl 1 (63-s)=Bb.D6 s:=by
  unfold Ch.shl Bb.D6;rw [Nat.one_shiftLeft,xq (Nat.pow_lt_pow_right zd zo)]
 refine zN func247 ?_;refine zR ?_;refine E.p9 zo (zR ?_);rw [e1,e2];refine zR ?_;refine c2Z (a:=1) zo ?_;rw [e3];generalize Bb.D6 s=r;refine zR ?_;exact ⟨rfl,rfl⟩
theorem a2Z (s:Int) (h0:0≤s) (h1:s≤63) (w:World):Calls G.P 155 #[.int .i8 s] w (E5 (.int .i8 (s%8)) w):=by
 refine zN func155 ?_;refine zR ?_;exact ⟨C2 (by rw [xl h0]),rfl⟩
theorem a1e (s:Int) (h0:0≤s) (h1:s≤63) (w:World):Calls G.P 206 #[.int .i8 s] w (E5 (.int .i8 (s/8)) w):=by
 refine zN func206 ?_;refine zR ?_;exact ⟨C2 (by rw [xa h0,a0q zo zo]),rfl⟩
theorem b1W (f r:Int) (f0:0≤f) (f1:f≤7) (r0:0≤r) (r1:r≤7) (w:World):Calls G.P 167 #[.int .i8 f,.int .i8 r] w (E5 (.int .i8 (8*r+f)) w):=by
 refine zN func167 ?_;refine zR ?_;exact ⟨C2 (by rw [a0q (n:=r*8) zo zo,a0q zo zo];omega),rfl⟩
theorem a7E (c:Int) (hc:c=1∨c=2) (w:World):Calls G.P 243 #[.int .i8 c] w (E5 (.int .i8 (3-c)) w):=by
 refine zN func243 ?_;rcases hc with rfl|rfl<;>(refine zR ?_)<;>exact ⟨rfl,rfl⟩
theorem c3e {x:Int} (h0:0≤x) (h1:x≤12):x=0∨x=1∨x=2∨x=3∨x=4∨x=5∨x=6∨x=7∨x=8∨x=9∨x=10∨x=11∨x=12:=by omega
theorem a2n (x:Int) (h0:0≤x) (h1:x≤12) (w:World):Calls G.P 152 #[.int .i8 x] w (E5 (.int .i8 (Ch.d6 x)) w):=by
 refine zN func152 ?_;rcases c3e h0 h1 with rfl|rfl|rfl|rfl|rfl|rfl|rfl|rfl|rfl|rfl|rfl|rfl|rfl<;>(refine zR ?_)<;>exact ⟨rfl,rfl⟩
def O7 (x:Int):Int:=if x=0 then 0 else Ch.y9 x+1
theorem a7F (x:Int) (h0:0≤x) (h1:x≤12) (w:World):Calls G.P 168 #[.int .i8 x] w (E5 (.int .i8 (O7 x)) w):=by
 refine zN func168 ?_;rcases c3e h0 h1 with rfl|rfl|rfl|rfl|rfl|rfl|rfl|rfl|rfl|rfl|rfl|rfl|rfl<;>(refine zR ?_)<;>exact ⟨rfl,rfl⟩
class MB.Ok (B:MB):Prop where
 lt:∀ i,B.f i<2^64
instance {B:MB} {i:Nat} [h:B.Ok]:G9 (B.f i):=⟨h.lt i⟩
instance {B:MB} {i x:Nat} [h:B.Ok] [h':G9 x]:(B.set i x).Ok:=⟨fun j=>by show (if j=i then x else B.f j)<_;split;exact h'.lt;exact h.lt j⟩
def MB.of (B:MB) (x:Int):Nat:=if x=0 then 0 else B.f (x.toNat-1)
instance {B:MB} {x:Int} [h:B.Ok]:G9 (B.of x):=⟨by unfold MB.of;split;decide;exact h.lt _⟩
theorem N5 (B:MB) (b:Nat) {t:Nat} {fz:Nat×Nat} (x:Int) (h0:0≤x) (h1:x≤12) (w:World) (hb:w.heap[b]?=some (.cells (H3 B) t fz)) :
  Calls G.P 204 #[.pointer (some ⟨b,0,none⟩),.int .i8 x] w (E5 (.int .u64 (B.of x)) w):=by
 refine zN func204 ?_;rcases c3e h0 h1 with rfl|rfl|rfl|rfl|rfl|rfl|rfl|rfl|rfl|rfl|rfl|rfl|rfl
 ·refine zR ?_;exact ⟨rfl,rfl⟩
 all_goals
  refine zR ?_;refine b7 _ (X0 hb _ zd) (zR ?_);exact ⟨rfl,rfl⟩
theorem zB {A B:Prop} (h:B) (e:B→A:=by (intro h;((refine zR ?_);(repeat ((first|(with_reducible first|refine bA ?_|refine bB ?_|refine bO ?_|refine bX ?_|refine bN ?_|refine bL ?_|refine bR ?_)|refine kHb hP ?_|refine kHt hP ?_|refine c43 hP ?_|refine a8z hP ?_|refine a4Q hM ?_|refine a7k hM ?_|refine a56 hM ?_|refine kb0 hB ?_|refine kb1 hB ?_|refine kb2 hB ?_|refine kb3 hB ?_|refine kb4 hB ?_|refine kb5 hB ?_|refine kb6 hB ?_|refine kb7 hB ?_|refine kb8 hB ?_|refine kb9 hB ?_|refine c4y hB ?_|refine c4z hB ?_|refine c40 hB ?_|refine c41 hB ?_|refine c42 hB ?_|refine kWk hB ?_|refine kBk hB ?_);(refine zR ?_))));exact h)):A:=e h
theorem zQ {A B:Prop} (h:B) (e:B→A:=by (intro h;((refine zR ?_);(repeat ((first|(with_reducible first|refine bA ?_|refine bB ?_|refine bO ?_|refine bX ?_|refine bN ?_|refine bL ?_|refine bR ?_)|refine qHb hP ?_|refine qHt hP ?_|refine c0I hP ?_|refine c44 hP ?_|refine a3C hM ?_|refine b0O hM ?_|refine a7D hM ?_|refine qb0 hB ?_|refine qb1 hB ?_|refine qb2 hB ?_|refine qb3 hB ?_|refine qb4 hB ?_|refine qb5 hB ?_|refine qb6 hB ?_|refine qb7 hB ?_|refine qb8 hB ?_|refine qb9 hB ?_|refine c59 hB ?_|refine c5A hB ?_|refine c5B hB ?_|refine c5C hB ?_|refine c5D hB ?_|refine qWk hB ?_|refine qBk hB ?_);(refine zR ?_))));exact h)):A:=e h
theorem zH {A B:Prop} (h:B) (e:B→A:=by (intro h;((refine zG ?_);(repeat ((first|(with_reducible first|refine bA ?_|refine bB ?_|refine bO ?_|refine bX ?_|refine bN ?_|refine bL ?_|refine bR ?_)|refine kHb hP ?_|refine kHt hP ?_|refine c43 hP ?_|refine a8z hP ?_|refine a4Q hM ?_|refine a7k hM ?_|refine a56 hM ?_|refine kb0 hB ?_|refine kb1 hB ?_|refine kb2 hB ?_|refine kb3 hB ?_|refine kb4 hB ?_|refine kb5 hB ?_|refine kb6 hB ?_|refine kb7 hB ?_|refine kb8 hB ?_|refine kb9 hB ?_|refine c4y hB ?_|refine c4z hB ?_|refine c40 hB ?_|refine c41 hB ?_|refine c42 hB ?_|refine kWk hB ?_|refine kBk hB ?_);(refine zG ?_))));exact h)):A:=e h
def a2o (t:Nat):Bool:=!(Nat.beq t 173||Nat.beq t 237||Nat.beq t 141||Nat.beq t 131)
def a06 (w:World) (g n:Nat) (f:Nat→Value):Prop:=∃ cs t fz,w.heap[g]?=some (.cells cs t fz)∧a2o t=true∧∀ i,i<n→cs[i]?=some (f i)
theorem a06.cl {w w':World} {g n:Nat} {f:Nat→Value} (h:a06 w g n f) (hc:Cl w w'):a06 w' g n f:=by
 obtain ⟨cs,t,fz,h1,h2,h3⟩:=h;exact ⟨cs,t,fz,hc.blk h1,h2,h3⟩
theorem K6 {w:World} {g n i o t:Nat} {f:Nat→Value} (h:a06 w g n f) (hi:i<n) (ho:o=i) (ht:a7X (U5 G.T t)=true):g8 G.P w t ⟨g,o,none⟩ (f i):=by
 obtain ⟨cs,u,fz,h1,h2,h3⟩:=h;subst ho;exact L5 h1 (h3 _ hi) ht
def a7l (w:World) (g o n:Nat) (f:Nat→Value):Prop:=∃ cs t fz,w.heap[g]?=some (.cells cs t fz)∧a2o t=true∧∀ i,i<n→cs[o+i]?=some (f i)
theorem a7l.cl {w w':World} {g o n:Nat} {f:Nat→Value} (h:a7l w g o n f) (hc:Cl w w'):a7l w' g o n f:=by
 obtain ⟨cs,t,fz,h1,h2,h3⟩:=h;exact ⟨cs,t,fz,hc.blk h1,h2,h3⟩
theorem a6n {w:World} {g o n i a t:Nat} {f:Nat→Value} (h:a7l w g o n f) (hi:i<n) (ha:a=E.J0 o ((i:Int)).toNat 1) (ht:a7X (U5 G.T t)=true):g8 G.P w t ⟨g,a,none⟩ (f i):=by
 obtain ⟨cs,u,fz,h1,h2,h3⟩:=h;subst ha;rw [E.r9,zg,wB];exact L5 h1 (h3 _ hi) ht
def a7m (w:World) (g n:Nat) (f:Nat→Value):Prop:=∃ k o c,a06 w g 1 (fun _=>.slice (some ⟨k,o,none⟩) n c)∧a7l w k o n f
theorem a7m.cl {w w':World} {g n:Nat} {f:Nat→Value} (h:a7m w g n f) (hc:Cl w w'):a7m w' g n f:=by
 obtain ⟨k,o,c,h1,h2⟩:=h;exact ⟨k,o,c,h1.cl hc,h2.cl hc⟩
def wfenL:List Nat:=[0,75,81,82,66,78,80]
def bfenL:List Nat:=[0,107,113,114,98,110,112]
def a3g (c:Nat):Int:=if c=75 then 1 else if c=81 then 2 else if c=82 then 3 else if c=66 then 4 else if c=78 then 5 else if c=80 then 6
 else if c=107 then 7 else if c=113 then 8 else if c=114 then 9 else if c=98 then 10 else if c=110 then 11 else if c=112 then 12 else 0
structure D5 (w:World):Prop where
 dia:a06 w 9 64 (fun i=>.int .u64 (Bb.mask 2 i))
 anti:a06 w 10 64 (fun i=>.int .u64 (Bb.mask 3 i))
 ranks:a06 w 11 8 (fun i=>.int .u64 (Bb.mask 0 (8*i)))
 files:a06 w 12 8 (fun i=>.int .u64 (Bb.mask 1 i))
 kn:a06 w 2 64 (fun i=>.int .u64 (Ch.kn i))
 kg:a06 w 3 64 (fun i=>.int .u64 (Ch.kg i))
 all:a7m w 0 12 (fun i=>.int .i8 ((i:Int)+1))
 promo:a7m w 4 4 (fun i=>.int .i8 ((i:Int)+2))
 wfen:a06 w 5 7 (fun i=>.int .u8 (wfenL.getD i 0))
 bfen:a06 w 6 7 (fun i=>.int .u8 (bfenL.getD i 0))
 fen:a06 w 8 128 (fun i=>.int .i8 (a3g i))
 emp:∃ f:Nat→Tx,a06 w 23 8 (fun i=>m9 (f i))
theorem D5.cl {w w':World} (h:D5 w) (hc:Cl w w'):D5 w' :=
 ⟨h.dia.cl hc,h.anti.cl hc,h.ranks.cl hc,h.files.cl hc,h.kn.cl hc,h.kg.cl hc,h.all.cl hc,h.promo.cl hc,h.wfen.cl hc,h.bfen.cl hc,h.fen.cl hc,h.emp.imp fun _ e=>e.cl hc⟩
theorem C7 {i:Nat} (h:i<1000000):IntKind.i64.wrap ((i:Int)+1)=((i+1:Nat):Int):=by rw [g9 zo zo];push_cast;rfl
theorem K7 (t c:Int) (t1:1≤t) (t6:t≤6) (hc:c=1∨c=2) (w:World) (hT:D5 w):Calls G.P 246 #[.int .i8 t,.int .i8 c] w (E5 (.int .i8 (t+6*(c-1))) w):=by
 obtain ⟨g,og,cp,h1,h2⟩:=hT.all;refine zN func246 ?_;refine zR ?_;refine b7 _ (K6 h1 (i:=0) zd rfl rfl) (zR ?_);refine B6 (σ:=Nat) [4,6,9] 10 (fun i=>[(9,.int .i64 i)]) (fun i w'=>i≤12∧w'=w∧(i:Int)≤t+6*(c-1)-1) (fun i=>12-i) zk 0 ⟨zo,rfl,zo⟩ ⟨rfl,trivial⟩ ?_;rintro i j w2 ⟨hi,rfl,hlt⟩;have ni:=C7 (i:=i) zo;have hi2:i<12:=by omega
 refine zR ?_;refine E.z6 zo (zR ?_);refine zC ?_;refine zR ?_;refine b7 _ (a6n h2 (i:=i) hi2 rfl rfl) (zR ?_);refine l8 (a7F _ zo zo _) ?_;have hcol:O7 ((i:Int)+1)=if i<6 then 1 else 2:=by
  unfold O7 Ch.y9;rw [zJ zo];split<;>split<;>omega
 have htyp:Ch.d6 ((i:Int)+1)=if i<6 then (i:Int)+1 else (i:Int)-5:=by
  unfold Ch.d6;split<;>split<;>omega
 have hty:=a2n ((i:Int)+1) zo zo w2;generalize O7 ((i:Int)+1)=cc at *;generalize Ch.d6 ((i:Int)+1)=kk at *;refine zR ?_;apply E.b9<;>intro h
 ·have e1:=h;clear h;refine zR ?_;refine l8 hty (zR ?_);apply E.b9<;>intro h
  ·refine zR ?_;refine ⟨C2 ?_,rfl⟩;split at hcol<;>split at htyp<;>omega
  ·refine zR ?_;refine ⟨i+1,⟨d8 ni,trivial⟩,⟨zo,rfl,?_⟩,zo⟩;split at hcol<;>split at htyp<;>omega
 ·refine zR ?_;refine ⟨i+1,⟨d8 ni,trivial⟩,⟨zo,rfl,?_⟩,zo⟩;split at hcol<;>omega
def MB.from (B:MB) (s:Nat):Nat→Nat→Int
 | 0,_=>0
 | n+1,x=>if (B.f x).testBit (63-s) then (x:Int)+1 else B.from s n (x+1)
def MB.at (B:MB) (s:Nat):Int:=B.from s 12 0
theorem MB.from_range (B:MB) (s:Nat):∀ n x,x+n=12→0≤B.from s n x∧B.from s n x≤12:=by
 intro n
 induction n with
 | zero=>intro x _;simp [MB.from]
 | succ n ih =>
  intro x hx;unfold MB.from;split
  ·omega
  ·exact ih (x+1) zo
theorem MB.at_range (B:MB) (s:Nat):0≤B.at s∧B.at s≤12:=MB.from_range B s 12 0 rfl
theorem a1f (B:MB) [hO:B.Ok] (b:Nat) {t:Nat} {fz:Nat×Nat} (s:Nat) (hs:s<64) (w:World) (hT:D5 w) (hb:w.heap[b]?=some (.cells (H3 B) t fz)) :
  Calls G.P 150 #[.pointer (some ⟨b,0,none⟩),.int .i8 s] w (E5 (.int .i8 (B.at s)) w):=by
 obtain ⟨g,og,cp,h1,h2⟩:=hT.all;refine zN func150 ?_;refine zR ?_;refine b7 _ (K6 h1 (i:=0) zd rfl rfl) (zR ?_);refine B6 (σ:=Nat) [4,6,7,10] 11 (fun i=>[(10,.int .i64 i)]) (fun i w'=>i≤12∧w'=w∧B.at s=B.from s (12-i) i) (fun i=>12-i) zk 0 ⟨zo,rfl,rfl⟩ ⟨rfl,trivial⟩ ?_;rintro i j w2 ⟨hi,rfl,hat⟩;have ni:=C7 (i:=i) zo;refine zR ?_;apply E.b9<;>intro h
 ·have hi2:i<12:=by omega
  clear h;obtain ⟨k,hk⟩:∃ k,12-i=k+1:=⟨11-i,zo⟩;have hk2:12-(i+1)=k:=by omega
  rw [hk] at hat;unfold MB.from at hat;have hof:B.of ((i:Int)+1)=B.f i:=by unfold MB.of;rw [zJ zo];congr 1
  have hc1:=fun w h=>N5 B b (t:=t) (fz:=fz) ((i:Int)+1) zo zo w h;rw [hof] at hc1;have hc2:=fun w=>a1F (B.f i) s hs w;have hX:G9 (B.f i):=inferInstance;generalize B.f i=X at *;generalize hY:X.testBit (63-s)=Y at *;refine zR ?_;refine zC ?_;refine zR ?_;refine b7 _ (a6n h2 (i:=i) hi2 rfl rfl) (zR ?_);refine l8 (hc1 _ hb) (zR ?_);refine l8 (hc2 _) ?_;cases Y
  ·refine zR ?_;exact ⟨i+1,⟨d8 ni,trivial⟩,⟨zo,rfl,by rw [hat,hk2];rfl⟩,zo⟩
  ·refine zR ?_;exact ⟨C2 (by rw [hat];rfl),rfl⟩
 ·have hi2:i=12:=by omega
  subst hi2;refine zR ?_;exact ⟨C2 (by rw [hat];rfl),rfl⟩
theorem c48 (s:Nat):Bb.mask 0 (8*(s/8))=Bb.mask 0 s:=by
 unfold Bb.mask;congr 1;funext t;simp [Bb.G5]
theorem c49 (s:Nat):Bb.mask 1 (s%8)=Bb.mask 1 s:=by
 unfold Bb.mask;congr 1;funext t;simp [Bb.G5]
instance {k s:Nat}:G9 (Bb.mask k s):=⟨Bb.P4 _⟩
instance {o p m:Nat} [h:G9 m]:G9 (Bb.lin o p m):=⟨by unfold Bb.lin;exact b0K h.lt⟩
instance {o s:Nat}:G9 (Ch.di o s):=⟨Ch.b7J _ _⟩
instance {o s:Nat}:G9 (Ch.hv o s):=⟨Ch.b7I _ _⟩
instance {s:Nat}:G9 (Ch.kn s):=⟨Bb.P4 _⟩
instance {s:Nat}:G9 (Ch.kg s):=⟨Bb.P4 _⟩
theorem a3D (o s:Nat) [ho:G9 o] (hs:s<64) (w:World) (hT:D5 w):Calls G.P 244 #[.int .u64 o,.int .i8 s] w (E5 (.int .u64 (Ch.di o s)) w):=by
 have e:Ch.di o s=Bb.lin o (Bb.D6 s) (Bb.mask 2 s) ||| Bb.lin o (Bb.D6 s) (Bb.mask 3 s):=rfl
 have c1:=fun w=>s8 s hs w;have c2:=fun w=>a0p o (Bb.D6 s) (Bb.mask 2 s) w;have c3:=fun w=>a0p o (Bb.D6 s) (Bb.mask 3 s) w;have l2:G9 (Bb.lin o (Bb.D6 s) (Bb.mask 2 s)):=inferInstance;have l3:G9 (Bb.lin o (Bb.D6 s) (Bb.mask 3 s)):=inferInstance;have t2:=fun w (h:D5 w)=>K6 (t:=235) h.dia (o:=s) (i:=s) hs rfl rfl;have t3:=fun w (h:D5 w)=>K6 (t:=235) h.anti (o:=s) (i:=s) hs rfl rfl;rw [e];generalize Bb.lin o (Bb.D6 s) (Bb.mask 2 s)=L2 at *;generalize Bb.lin o (Bb.D6 s) (Bb.mask 3 s)=L3 at *;generalize Bb.mask 2 s=M2 at *;generalize Bb.mask 3 s=M3 at *;generalize Bb.D6 s=S at *;refine zN func244 ?_;refine zR ?_;refine l8 (c1 _) (zR ?_);refine zC ?_;refine zR ?_;refine b7 _ (t2 _ hT) (zR ?_);refine zC ?_;refine zR ?_;refine b7 _ (t3 _ hT) (zR ?_);refine l8 (c2 _) (zR ?_);refine l8 (c3 _) (zS ?_);exact ⟨rfl,rfl⟩
theorem a4R (o s:Nat) [ho:G9 o] (hs:s<64) (w:World) (hT:D5 w):Calls G.P 245 #[.int .u64 o,.int .i8 s] w (E5 (.int .u64 (Ch.hv o s)) w):=by
 have e:Ch.hv o s=Bb.lin o (Bb.D6 s) (Bb.mask 0 s) ||| Bb.lin o (Bb.D6 s) (Bb.mask 1 s):=rfl
 have c1:=fun w=>s8 s hs w;have c2:=fun w=>a0p o (Bb.D6 s) (Bb.mask 0 s) w;have c3:=fun w=>a0p o (Bb.D6 s) (Bb.mask 1 s) w;have l2:G9 (Bb.lin o (Bb.D6 s) (Bb.mask 0 s)):=inferInstance;have l3:G9 (Bb.lin o (Bb.D6 s) (Bb.mask 1 s)):=inferInstance;have t2:=fun w (h:D5 w)=>K6 (t:=235) h.ranks (o:=s/8) (i:=s/8) zo rfl rfl;have t3:=fun w (h:D5 w)=>K6 (t:=235) h.files (o:=s%8) (i:=s%8) zo rfl rfl;have d1:((s:Int)/8)=((s/8:Nat):Int):=by omega
 have d2:((s:Int)%8)=((s%8:Nat):Int):=by omega
 have c4:=fun w=>a1e (s:Int) zo zo w;have c5:=fun w=>a2Z (s:Int) zo zo w;rw [d1] at c4;rw [d2] at c5;have r8:s/8<8:=by omega
 have f8:s%8<8:=by omega
 rw [e];simp only [c48,c49] at t2 t3;generalize Bb.lin o (Bb.D6 s) (Bb.mask 0 s)=L2 at *;generalize Bb.lin o (Bb.D6 s) (Bb.mask 1 s)=L3 at *;generalize Bb.mask 0 s=M2 at *;generalize Bb.mask 1 s=M3 at *;generalize Bb.D6 s=S at *;generalize s/8=r at *;generalize s%8=f at *;refine zN func245 ?_;refine zR ?_;refine l8 (c1 _) (zR ?_);refine l8 (c4 _) (zR ?_);refine zC ?_;refine zR ?_;refine b7 _ (t2 _ hT) (zR ?_);refine l8 (c5 _) (zR ?_);refine zC ?_;refine zR ?_;refine b7 _ (t3 _ hT) (zR ?_);refine l8 (c2 _) (zR ?_);refine l8 (c3 _) (zS ?_);exact ⟨rfl,rfl⟩
theorem a4S {P b t:Nat} {h:Hd} {cv:Value} {fz:Nat×Nat} (w:World) (hP:w.heap[P]?=some (.cells (hdA b h cv) t fz)):Calls G.P 121 #[.pointer (some ⟨P,0,none⟩)] w (E5 (.int .i8 h.turn) w):=by
 refine zN func121 ?_;refine zR ?_;refine b7 _ (a7C hP) (zR ?_);exact ⟨rfl,rfl⟩
theorem b8t:Bb.not Ch.a2y=18374403900871474942:=by decide
theorem b8u:Bb.not Ch.a2z=9187201950435737471:=by decide
theorem c2p:Bb.not Ch.a15=72057594037927935:=by decide
theorem c2q:Bb.not Ch.a0K=18446744073709551360:=by decide
def MB.pawn (B:MB) (turn:Int) (E s:Nat):Nat :=
 if turn=1 then
  ((((s &&& 18374403900871474942) &&& 18446744073709551360) >>> 9) &&& (B.f 13 ||| E)) ||| ((((s &&& 9187201950435737471) &&& 18446744073709551360) >>> 7) &&& (B.f 13 ||| E)) ||| (((s &&& 18446744073709551360) >>> 8) &&& B.f 14) |||
   ((((((s &&& 18446744073709551360) >>> 8) &&& B.f 14) &&& 280375465082880) >>> 8) &&& B.f 14)
 else
  (Ch.shl ((s &&& 18374403900871474942) &&& 72057594037927935) 7 &&& (B.f 12 ||| E)) ||| (Ch.shl ((s &&& 9187201950435737471) &&& 72057594037927935) 9 &&& (B.f 12 ||| E)) ||| (Ch.shl (s &&& 72057594037927935) 8 &&& B.f 14) |||
   (Ch.shl ((Ch.shl (s &&& 72057594037927935) 8 &&& B.f 14) &&& 16711680) 8 &&& B.f 14)
def epN (e:Int):Nat:=if e=-1 then 0 else Bb.D6 e.toNat
theorem b1X {P b t u:Nat} {h:Hd} {cv:Value} {fz fy:Nat×Nat} {B:MB} [hO:B.Ok] (s:Nat) (hs:s<64) (ht:h.turn=1∨h.turn=2) (e0:-1≤h.ep) (e1:h.ep≤63) (w:World)
  (hP:w.heap[P]?=some (.cells (hdA b h cv) t fz)) (hB:w.heap[b]?=some (.cells (H3 B) u fy)) :
  Calls G.P 284 #[.pointer (some ⟨P,0,none⟩),.int .i8 s] w (E5 (.int .u64 (B.pawn h.turn (epN h.ep) (Bb.D6 s))) w):=by
 have c1:=fun w=>s8 s hs w;have l1:G9 (Bb.D6 s):=inferInstance;have tc:=a4S w hP;obtain ⟨cas,half,full,turn,ep,chk⟩:=h;simp only at ht e0 e1 tc ⊢;generalize Bb.D6 s=S at *;have lE:G9 (epN ep):=⟨by unfold epN;split;decide;exact Bb.a3y _⟩
 refine zN func284 ?_;refine zR ?_;refine l8 (c1 _) (zG ?_);refine Nx.mk (zG ?_);refine C3 (σ:=Unit) [6] 15 (fun _=>[(6,.int .u64 (epN ep))]) (fun _ w'=>w'=w) zk ?_ (fun _ j w2 hw2=>?_)
 ·refine zR ?_;refine b7 _ (b1V hP) (zR ?_);apply E.y6<;>intro h
  ·have h':¬ ep=-1:=h;clear h;refine zR ?_;refine b7 _ (b1V hP) ?_;obtain ⟨e,rfl⟩:=ze (show 0≤ep by omega)
   refine zR ?_;refine l8 (s8 e zo _) ?_;have:Bb.D6 e=epN (e:Int):=by unfold epN;rw [zJ zo];rfl
   rw [this];generalize epN (e:Int)=EE;refine zR ?_;exact ⟨(),⟨rfl,trivial⟩,rfl⟩
  ·have h':ep=-1:=h;clear h;refine zR ?_;subst h';exact ⟨(),⟨rfl,trivial⟩,rfl⟩
 subst hw2;generalize epN ep=E at *;rcases ht with rfl|rfl
 ·have hr:B.pawn 1 E S=((((S &&& 18374403900871474942) &&& 18446744073709551360) >>> 9) &&& (B.f 13 ||| E)) ||| ((((S &&& 9187201950435737471) &&& 18446744073709551360) >>> 7) &&& (B.f 13 ||| E)) ||| (((S &&& 18446744073709551360) >>> 8) &&& B.f 14) |||
   ((((((S &&& 18446744073709551360) >>> 8) &&& B.f 14) &&& 280375465082880) >>> 8) &&& B.f 14):=rfl
  generalize B.pawn 1 E S=R at *;refine zR ?_;refine l8 tc (zB ?_);exact ⟨C2 (by rw [hr]),rfl⟩
 ·have hr:B.pawn 2 E S=(Ch.shl ((S &&& 18374403900871474942) &&& 72057594037927935) 7 &&& (B.f 12 ||| E)) ||| (Ch.shl ((S &&& 9187201950435737471) &&& 72057594037927935) 9 &&& (B.f 12 ||| E)) ||| (Ch.shl (S &&& 72057594037927935) 8 &&& B.f 14) |||
   (Ch.shl ((Ch.shl (S &&& 72057594037927935) 8 &&& B.f 14) &&& 16711680) 8 &&& B.f 14):=rfl
  generalize B.pawn 2 E S=R at *;refine zR ?_;refine l8 tc (zB ?_);exact ⟨C2 (by rw [hr]),rfl⟩
def MB.poss (B:MB) (turn:Int) (E:Nat) (k:Int) (s:Nat):Nat :=
 if k=1 then Ch.kg s else if k=2 then Ch.di (Bb.not (B.f 14)) s ||| Ch.hv (Bb.not (B.f 14)) s else if k=3 then Ch.hv (Bb.not (B.f 14)) s else if k=4 then Ch.di (Bb.not (B.f 14)) s
 else if k=5 then Ch.kn s else if k=6 then B.pawn turn E (Bb.D6 s) else 0
theorem b39 {P b t u:Nat} {h:Hd} {cv:Value} {fz fy:Nat×Nat} {B:MB} [hO:B.Ok] (s:Nat) (hs:s<64) (k:Int) (k1:1≤k) (k6:k≤6) (ht:h.turn=1∨h.turn=2) (e0:-1≤h.ep) (e1:h.ep≤63) (w:World) (hT:D5 w)
  (hP:w.heap[P]?=some (.cells (hdA b h cv) t fz)) (hB:w.heap[b]?=some (.cells (H3 B) u fy)) :
  Calls G.P 252 #[.pointer (some ⟨P,0,none⟩),.int .i8 k,.int .i8 s] w (N2 (.int .u64 (B.poss h.turn (epN h.ep) k s)) w):=by
 have c1:=fun w' (hw:Cl w w')=>b1X s hs ht e0 e1 w' (hw.blk hP) (hw.blk hB);have c2:=fun w' (hw:Cl w w')=>a3D (Bb.not (B.f 14)) s hs w' (hT.cl hw);have c3:=fun w' (hw:Cl w w')=>a4R (Bb.not (B.f 14)) s hs w' (hT.cl hw);have l2:G9 (Ch.di (Bb.not (B.f 14)) s):=inferInstance;have l3:G9 (Ch.hv (Bb.not (B.f 14)) s):=inferInstance;have t1:=fun w' (hw:Cl w w')=>K6 (t:=235) (hT.cl hw).kg (o:=s) (i:=s) hs rfl rfl;have t2:=fun w' (hw:Cl w w')=>K6 (t:=235) (hT.cl hw).kn (o:=s) (i:=s) hs rfl rfl;have hk:k=1∨k=2∨k=3∨k=4∨k=5∨k=6:=by omega
 have r1:B.poss h.turn (epN h.ep) 1 s=Ch.kg s:=rfl;have r2:B.poss h.turn (epN h.ep) 2 s=Ch.di (Bb.not (B.f 14)) s ||| Ch.hv (Bb.not (B.f 14)) s:=rfl
 have r3:B.poss h.turn (epN h.ep) 3 s=Ch.hv (Bb.not (B.f 14)) s:=rfl;have r4:B.poss h.turn (epN h.ep) 4 s=Ch.di (Bb.not (B.f 14)) s:=rfl;have r5:B.poss h.turn (epN h.ep) 5 s=Ch.kn s:=rfl;have r6:B.poss h.turn (epN h.ep) 6 s=B.pawn h.turn (epN h.ep) (Bb.D6 s):=rfl;generalize B.pawn h.turn (epN h.ep) (Bb.D6 s)=R6 at *;generalize Ch.kg s=R1 at *;generalize Ch.kn s=R5 at *;generalize Ch.di (Bb.not (B.f 14)) s=R4 at *;generalize Ch.hv (Bb.not (B.f 14)) s=R3 at *;have hend:∀ w',Cl w w'→Cl w w':=fun _ h=>h;refine E.enter (G:=G) func252 rfl (by simp [ntmps252]) zk ?_
 refine W1 (Cl w) (Cl.refl _) (fun _=>Cl.drew) zk ?_;rcases hk with rfl|rfl|rfl|rfl|rfl|rfl
 ·rw [r1];refine zR ?_;refine zC ?_;refine zR ?_;refine m7 _ (fun w hw=>t1 w hw) (zR ?_);intro w' hw';refine zG ?_;exact ⟨rfl,hw'⟩
 ·rw [r2];refine zQ ?_;refine m8 _ (fun w hw=>c2 w hw) (zQ ?_);refine m8 _ (fun w hw=>c3 w hw) (zQ ?_);intro w' hw';refine zG ?_;exact ⟨rfl,hw'⟩
 ·rw [r3];refine zQ ?_;refine m8 _ (fun w hw=>c3 w hw) (zQ ?_);intro w' hw';refine zG ?_;exact ⟨rfl,hw'⟩
 ·rw [r4];refine zQ ?_;refine m8 _ (fun w hw=>c2 w hw) (zQ ?_);intro w' hw';refine zG ?_;exact ⟨rfl,hw'⟩
 ·rw [r5];refine zR ?_;refine zC ?_;refine zR ?_;refine m7 _ (fun w hw=>t2 w hw) (zR ?_);intro w' hw';refine zG ?_;exact ⟨rfl,hw'⟩
 ·rw [r6];refine zR ?_;refine m8 _ (fun w hw=>c1 w hw) (zR ?_);intro w' hw';refine zG ?_;exact ⟨rfl,hw'⟩
def MB.att (B:MB) (t:Int) (a:Nat):Bool :=
 let c:Nat:=if t=1 then 6 else 0
 if ((Ch.di (Bb.not (B.f 14)) a ||| Ch.hv (Bb.not (B.f 14)) a) &&& (if t=1 then B.f 13 else B.f 12)) ||| (Ch.kn a &&& (if t=1 then B.f 13 else B.f 12))=0 then false
 else if (Ch.di (Bb.not (B.f 14)) a ||| Ch.hv (Bb.not (B.f 14)) a) &&& B.f (c+1)≠0 then true
 else if Ch.hv (Bb.not (B.f 14)) a &&& B.f (c+2)≠0 then true
 else if Ch.di (Bb.not (B.f 14)) a &&& B.f (c+3)≠0 then true
 else if Ch.kn a &&& B.f (c+4)≠0 then true
 else if (if t=1 then Ch.shl ((B.f 11 &&& 18374403900871474942) &&& 72057594037927935) 7 ||| Ch.shl ((B.f 11 &&& 9187201950435737471) &&& 72057594037927935) 9
  else (((B.f 5 &&& 18374403900871474942) &&& 18446744073709551360) >>> 9) ||| (((B.f 5 &&& 9187201950435737471) &&& 18446744073709551360) >>> 7)) &&& Bb.D6 a≠0 then true
 else if Ch.kg a &&& B.f c≠0 then true
 else false
theorem n0 {a:Nat} (h:(a:Int)=0):a=0:=by omega
theorem n0' {a:Nat} (h:¬ (a:Int)=0):a≠0:=by omega
section ites
variable {c:Prop} [Decidable c] {x:Bool} {Q:Prop}
theorem q1 (no:(if c then false else x)=false→Q) (h:c):Q:=no (zM h)
theorem q2 (no:(if c then false else x)=false→Q) (h:¬ c):x=false→Q:=fun e=>no (by rw [zJ h];exact e)
theorem q3 (yes:(if c then false else x)=true→Q) (h:¬ c):x=true→Q:=fun e=>yes (by rw [zJ h];exact e)
theorem q4 (yes:(if c then true else x)=true→Q) (h:c):Q:=yes (zM h)
theorem q5 (no:(if c then true else x)=false→Q) (h:¬ c):x=false→Q:=fun e=>no (by rw [zJ h];exact e)
theorem q6 (yes:(if c then true else x)=true→Q) (h:¬ c):x=true→Q:=fun e=>yes (by rw [zJ h];exact e)
end ites
section one
variable {G':Nat}
def c0K (D H N K S s q r b n p k:Nat):Bool :=
 if ((D ||| H) &&& s) ||| (N &&& s)=0 then false
 else if (D ||| H) &&& q≠0 then true
 else if H &&& r≠0 then true
 else if D &&& b≠0 then true
 else if N &&& n≠0 then true
 else if p &&& S≠0 then true
 else if K &&& k≠0 then true
 else false
end one
theorem c2r (B:MB) (a:Nat):B.att 1 a=c0K (Ch.di (Bb.not (B.f 14)) a) (Ch.hv (Bb.not (B.f 14)) a) (Ch.kn a) (Ch.kg a) (Bb.D6 a) (B.f 13) (B.f 7) (B.f 8) (B.f 9) (B.f 10)
 (Ch.shl ((B.f 11 &&& 18374403900871474942) &&& 72057594037927935) 7 ||| Ch.shl ((B.f 11 &&& 9187201950435737471) &&& 72057594037927935) 9) (B.f 6):=rfl
theorem c2s (B:MB) (a:Nat):B.att 2 a=c0K (Ch.di (Bb.not (B.f 14)) a) (Ch.hv (Bb.not (B.f 14)) a) (Ch.kn a) (Ch.kg a) (Bb.D6 a) (B.f 12) (B.f 1) (B.f 2) (B.f 3) (B.f 4)
 ((((B.f 5 &&& 18374403900871474942) &&& 18446744073709551360) >>> 9) ||| (((B.f 5 &&& 9187201950435737471) &&& 18446744073709551360) >>> 7)) (B.f 0):=rfl
theorem b8v {l:List Nat} {f:Nat→Bool} {i:Nat} (hi:i<l.length) (h:f (l.getD i 0)=true):l.any f=true:=by
 rw [xD];refine ⟨l[i],yO hi,?_⟩;rw [yr,ym hi] at h;exact h
theorem b1Y {l:List Nat} {f:Nat→Bool} {i:Nat} (hi:i<l.length) (h0:(l.take i).any f=false) (h:f (l.getD i 0)=false):(l.take (i+1)).any f=false:=by
 rw [zx hi,List.any_append,h0];rw [yr,ym hi] at h;simpa using h
set_option maxHeartbeats 2000000 in
theorem a1G {P b t u:Nat} {h:Hd} {cv:Value} {fz fy:Nat×Nat} {B:MB} [hO:B.Ok] (ht:h.turn=1∨h.turn=2) (l:List Nat) (hl:∀ i,i<l.length→l.getD i 0<64) (hn:l.length≤1000) (g c:Nat) (w:World) (hT:D5 w)
  (hP:w.heap[P]?=some (.cells (hdA b h cv) t fz)) (hB:w.heap[b]?=some (.cells (H3 B) u fy)) (hS:a06 w g l.length (fun i=>.int .i8 (l.getD i 0:Nat))) :
  Calls G.P 196 #[.pointer (some ⟨P,0,none⟩),.slice (some ⟨g,0,none⟩) l.length c] w (N2 (.bool (l.any (B.att h.turn))) w):=by
 have tc:=fun w' (hw:Cl w w')=>a4S w' (hw.blk hP);obtain ⟨cas,half,full,turn,ep,chk⟩:=h;simp only at ht tc ⊢;refine E.enter (G:=G) func196 rfl (by simp [ntmps196]) zk ?_
 refine W1 (Cl w) (Cl.refl _) (fun _=>Cl.drew) zk ?_;rcases ht with rfl|rfl
 ·have cO:=fun w=>a7E 1 (.inl rfl) w;refine zR ?_;refine m8 _ (fun w hw=>tc w hw) (zR ?_);refine m8 _ (fun w hw=>cO w) (zQ ?_);refine a5p (σ:=Nat) [4,8,9,10,11,12,13,14,15,16,17,18,19,33] 34 (fun i=>[(33,.int .i64 i)]) (fun i=>i≤l.length∧(l.take i).any (B.att 1)=false) (fun i=>l.length-i) zk 0 ⟨zo,rfl⟩ ⟨rfl,trivial⟩ ?_;rintro i j ⟨hi,hf⟩;have ni:=C7 (i:=i) zo;refine zR ?_;apply E.b9<;>intro h
  ·have hi2:i<l.length:=by omega
   clear h;have hs:=hl i hi2;have ts:=fun w' (hw:Cl w w')=>K6 (t:=138) (hS.cl hw) (o:=i) (i:=i) hi2 rfl rfl;have yes:B.att 1 (l.getD i 0)=true→l.any (B.att 1)=true:=b8v hi2;have no:B.att 1 (l.getD i 0)=false→(l.take (i+1)).any (B.att 1)=false:=b1Y hi2 hf;generalize l.getD i 0=s at *;rw [c2r] at yes no;have c2:=fun w' (hw:Cl w w')=>a3D (Bb.not (B.f 14)) s hs w' (hT.cl hw);have c3:=fun w' (hw:Cl w w')=>a4R (Bb.not (B.f 14)) s hs w' (hT.cl hw);have c4:=fun w=>s8 s hs w;have l2:G9 (Ch.di (Bb.not (B.f 14)) s):=inferInstance;have l3:G9 (Ch.hv (Bb.not (B.f 14)) s):=inferInstance;have l4:G9 (Bb.D6 s):=inferInstance;have t1:=fun w' (hw:Cl w w')=>K6 (t:=235) (hT.cl hw).kg (o:=s) (i:=s) hs rfl rfl;have t2:=fun w' (hw:Cl w w')=>K6 (t:=235) (hT.cl hw).kn (o:=s) (i:=s) hs rfl rfl;have l5:G9 (Ch.kg s):=inferInstance;have l6:G9 (Ch.kn s):=inferInstance;have nq:=fun w' (hw:Cl w w')=>K7 2 2 zd zd (.inr rfl) w' (hT.cl hw);have nr:=fun w' (hw:Cl w w')=>K7 3 2 zd zd (.inr rfl) w' (hT.cl hw);have nb:=fun w' (hw:Cl w w')=>K7 4 2 zd zd (.inr rfl) w' (hT.cl hw);have nn:=fun w' (hw:Cl w w')=>K7 5 2 zd zd (.inr rfl) w' (hT.cl hw);have nk:=fun w' (hw:Cl w w')=>K7 1 2 zd zd (.inr rfl) w' (hT.cl hw);have bp:=fun x h0 h1 w' (hw:Cl w w')=>N5 B b x h0 h1 w' (hw.blk hB);generalize Ch.kg s=KG at *;generalize Ch.kn s=KN at *;generalize Ch.di (Bb.not (B.f 14)) s=D at *;generalize Ch.hv (Bb.not (B.f 14)) s=H at *;generalize Bb.D6 s=S at *;unfold c0K at yes no;refine zR ?_;refine zC ?_;refine zR ?_;refine m7 _ (fun w hw=>ts w hw) (zQ ?_);refine m8 _ (fun w hw=>tc w hw) (zQ ?_);refine m8 _ (fun w hw=>c2 w hw) (zR ?_);refine m8 _ (fun w hw=>c3 w hw) (zQ ?_);refine zC ?_;refine zR ?_;refine m7 _ (fun w hw=>t2 w hw) (zQ ?_);apply E.b9<;>intro h
   ·have no:=q1 no (n0 h);refine zR ?_;exact ⟨i+1,⟨d8 ni,trivial⟩,⟨zo,no⟩,zo⟩
   have no:=q2 no (n0' h);have yes:=q3 yes (n0' h);clear h;refine zQ ?_;refine m8 _ (fun w hw=>nq w hw) (zR ?_);refine m8 _ (fun w hw=>bp 8 zd zd w hw) (zR ?_);refine m8 _ (fun w hw=>c2 w hw) (zR ?_);refine m8 _ (fun w hw=>c3 w hw) (zQ ?_);apply E.y6<;>intro h
   ·have yes:=q4 yes (n0' h);refine zR ?_;intro w' hw';refine zG ?_;exact ⟨o8 yes.symm,hw'⟩
   have no:=q5 no (fun e=>e (n0 h));have yes:=q6 yes (fun e=>e (n0 h));clear h;refine zQ ?_;refine m8 _ (fun w hw=>nr w hw) (zR ?_);refine m8 _ (fun w hw=>bp 9 zd zd w hw) (zR ?_);refine m8 _ (fun w hw=>c3 w hw) (zQ ?_);apply E.y6<;>intro h
   ·have yes:=q4 yes (n0' h);refine zR ?_;intro w' hw';refine zG ?_;exact ⟨o8 yes.symm,hw'⟩
   have no:=q5 no (fun e=>e (n0 h));have yes:=q6 yes (fun e=>e (n0 h));clear h;refine zQ ?_;refine m8 _ (fun w hw=>nb w hw) (zR ?_);refine m8 _ (fun w hw=>bp 10 zd zd w hw) (zR ?_);refine m8 _ (fun w hw=>c2 w hw) (zQ ?_);apply E.y6<;>intro h
   ·have yes:=q4 yes (n0' h);refine zR ?_;intro w' hw';refine zG ?_;exact ⟨o8 yes.symm,hw'⟩
   have no:=q5 no (fun e=>e (n0 h));have yes:=q6 yes (fun e=>e (n0 h));clear h;refine zQ ?_;refine m8 _ (fun w hw=>nn w hw) (zR ?_);refine m8 _ (fun w hw=>bp 11 zd zd w hw) (zR ?_);refine zC ?_;refine zR ?_;refine m7 _ (fun w hw=>t2 w hw) (zQ ?_);apply E.y6<;>intro h
   ·have yes:=q4 yes (n0' h);refine zR ?_;intro w' hw';refine zG ?_;exact ⟨o8 yes.symm,hw'⟩
   have no:=q5 no (fun e=>e (n0 h));have yes:=q6 yes (fun e=>e (n0 h));clear h;refine zR ?_;refine m8 _ (fun w hw=>tc w hw) (zQ ?_);refine m8 _ (fun w hw=>c4 w) (zQ ?_);apply E.y6<;>intro h
   ·have yes:=q4 yes (n0' h);refine zR ?_;intro w' hw';refine zG ?_;exact ⟨o8 yes.symm,hw'⟩
   have no:=q5 no (fun e=>e (n0 h));have yes:=q6 yes (fun e=>e (n0 h));clear h;refine zQ ?_;refine m8 _ (fun w hw=>nk w hw) (zR ?_);refine m8 _ (fun w hw=>bp 7 zd zd w hw) (zR ?_);refine zC ?_;refine zR ?_;refine m7 _ (fun w hw=>t1 w hw) (zQ ?_);apply E.y6<;>intro h
   ·have yes:=q4 yes (n0' h);refine zR ?_;intro w' hw';refine zG ?_;exact ⟨o8 yes.symm,hw'⟩
   have no:=q5 no (fun e=>e (n0 h));have yes:=q6 yes (fun e=>e (n0 h));refine zR ?_;exact ⟨i+1,⟨d8 ni,trivial⟩,⟨zo,no rfl⟩,zo⟩
  ·have hi2:i=l.length:=by omega
   subst hi2;rw [yZ] at hf;refine zR ?_;intro w' hw';refine zG ?_;exact ⟨o8 hf.symm,hw'⟩
 ·have cO:=fun w=>a7E 2 (.inr rfl) w;refine zR ?_;refine m8 _ (fun w hw=>tc w hw) (zR ?_);refine m8 _ (fun w hw=>cO w) (zQ ?_);refine a5p (σ:=Nat) [4,8,9,10,11,12,13,14,15,16,17,18,19,33] 34 (fun i=>[(33,.int .i64 i)]) (fun i=>i≤l.length∧(l.take i).any (B.att 2)=false) (fun i=>l.length-i) zk 0 ⟨zo,rfl⟩ ⟨rfl,trivial⟩ ?_;rintro i j ⟨hi,hf⟩;have ni:=C7 (i:=i) zo;refine zR ?_;apply E.b9<;>intro h
  ·have hi2:i<l.length:=by omega
   clear h;have hs:=hl i hi2;have ts:=fun w' (hw:Cl w w')=>K6 (t:=138) (hS.cl hw) (o:=i) (i:=i) hi2 rfl rfl;have yes:B.att 2 (l.getD i 0)=true→l.any (B.att 2)=true:=b8v hi2;have no:B.att 2 (l.getD i 0)=false→(l.take (i+1)).any (B.att 2)=false:=b1Y hi2 hf;generalize l.getD i 0=s at *;rw [c2s] at yes no;have c2:=fun w' (hw:Cl w w')=>a3D (Bb.not (B.f 14)) s hs w' (hT.cl hw);have c3:=fun w' (hw:Cl w w')=>a4R (Bb.not (B.f 14)) s hs w' (hT.cl hw);have c4:=fun w=>s8 s hs w;have l2:G9 (Ch.di (Bb.not (B.f 14)) s):=inferInstance;have l3:G9 (Ch.hv (Bb.not (B.f 14)) s):=inferInstance;have l4:G9 (Bb.D6 s):=inferInstance;have t1:=fun w' (hw:Cl w w')=>K6 (t:=235) (hT.cl hw).kg (o:=s) (i:=s) hs rfl rfl;have t2:=fun w' (hw:Cl w w')=>K6 (t:=235) (hT.cl hw).kn (o:=s) (i:=s) hs rfl rfl;have l5:G9 (Ch.kg s):=inferInstance;have l6:G9 (Ch.kn s):=inferInstance;have nq:=fun w' (hw:Cl w w')=>K7 2 1 zd zd (.inl rfl) w' (hT.cl hw);have nr:=fun w' (hw:Cl w w')=>K7 3 1 zd zd (.inl rfl) w' (hT.cl hw);have nb:=fun w' (hw:Cl w w')=>K7 4 1 zd zd (.inl rfl) w' (hT.cl hw);have nn:=fun w' (hw:Cl w w')=>K7 5 1 zd zd (.inl rfl) w' (hT.cl hw);have nk:=fun w' (hw:Cl w w')=>K7 1 1 zd zd (.inl rfl) w' (hT.cl hw);have bp:=fun x h0 h1 w' (hw:Cl w w')=>N5 B b x h0 h1 w' (hw.blk hB);generalize Ch.kg s=KG at *;generalize Ch.kn s=KN at *;generalize Ch.di (Bb.not (B.f 14)) s=D at *;generalize Ch.hv (Bb.not (B.f 14)) s=H at *;generalize Bb.D6 s=S at *;unfold c0K at yes no;refine zR ?_;refine zC ?_;refine zR ?_;refine m7 _ (fun w hw=>ts w hw) (zQ ?_);refine m8 _ (fun w hw=>tc w hw) (zQ ?_);refine m8 _ (fun w hw=>c2 w hw) (zR ?_);refine m8 _ (fun w hw=>c3 w hw) (zQ ?_);refine zC ?_;refine zR ?_;refine m7 _ (fun w hw=>t2 w hw) (zQ ?_);apply E.b9<;>intro h
   ·have no:=q1 no (n0 h);refine zR ?_;exact ⟨i+1,⟨d8 ni,trivial⟩,⟨zo,no⟩,zo⟩
   have no:=q2 no (n0' h);have yes:=q3 yes (n0' h);clear h;refine zQ ?_;refine m8 _ (fun w hw=>nq w hw) (zR ?_);refine m8 _ (fun w hw=>bp 2 zd zd w hw) (zR ?_);refine m8 _ (fun w hw=>c2 w hw) (zR ?_);refine m8 _ (fun w hw=>c3 w hw) (zQ ?_);apply E.y6<;>intro h
   ·have yes:=q4 yes (n0' h);refine zR ?_;intro w' hw';refine zG ?_;exact ⟨o8 yes.symm,hw'⟩
   have no:=q5 no (fun e=>e (n0 h));have yes:=q6 yes (fun e=>e (n0 h));clear h;refine zQ ?_;refine m8 _ (fun w hw=>nr w hw) (zR ?_);refine m8 _ (fun w hw=>bp 3 zd zd w hw) (zR ?_);refine m8 _ (fun w hw=>c3 w hw) (zQ ?_);apply E.y6<;>intro h
   ·have yes:=q4 yes (n0' h);refine zR ?_;intro w' hw';refine zG ?_;exact ⟨o8 yes.symm,hw'⟩
   have no:=q5 no (fun e=>e (n0 h));have yes:=q6 yes (fun e=>e (n0 h));clear h;refine zQ ?_;refine m8 _ (fun w hw=>nb w hw) (zR ?_);refine m8 _ (fun w hw=>bp 4 zd zd w hw) (zR ?_);refine m8 _ (fun w hw=>c2 w hw) (zQ ?_);apply E.y6<;>intro h
   ·have yes:=q4 yes (n0' h);refine zR ?_;intro w' hw';refine zG ?_;exact ⟨o8 yes.symm,hw'⟩
   have no:=q5 no (fun e=>e (n0 h));have yes:=q6 yes (fun e=>e (n0 h));clear h;refine zQ ?_;refine m8 _ (fun w hw=>nn w hw) (zR ?_);refine m8 _ (fun w hw=>bp 5 zd zd w hw) (zR ?_);refine zC ?_;refine zR ?_;refine m7 _ (fun w hw=>t2 w hw) (zQ ?_);apply E.y6<;>intro h
   ·have yes:=q4 yes (n0' h);refine zR ?_;intro w' hw';refine zG ?_;exact ⟨o8 yes.symm,hw'⟩
   have no:=q5 no (fun e=>e (n0 h));have yes:=q6 yes (fun e=>e (n0 h));clear h;refine zR ?_;refine m8 _ (fun w hw=>tc w hw) (zQ ?_);refine m8 _ (fun w hw=>c4 w) (zQ ?_);apply E.y6<;>intro h
   ·have yes:=q4 yes (n0' h);refine zR ?_;intro w' hw';refine zG ?_;exact ⟨o8 yes.symm,hw'⟩
   have no:=q5 no (fun e=>e (n0 h));have yes:=q6 yes (fun e=>e (n0 h));clear h;refine zQ ?_;refine m8 _ (fun w hw=>nk w hw) (zR ?_);refine m8 _ (fun w hw=>bp 1 zd zd w hw) (zR ?_);refine zC ?_;refine zR ?_;refine m7 _ (fun w hw=>t1 w hw) (zQ ?_);apply E.y6<;>intro h
   ·have yes:=q4 yes (n0' h);refine zR ?_;intro w' hw';refine zG ?_;exact ⟨o8 yes.symm,hw'⟩
   have no:=q5 no (fun e=>e (n0 h));have yes:=q6 yes (fun e=>e (n0 h));refine zR ?_;exact ⟨i+1,⟨d8 ni,trivial⟩,⟨zo,no rfl⟩,zo⟩
  ·have hi2:i=l.length:=by omega
   subst hi2;rw [yZ] at hf;refine zR ?_;intro w' hw';refine zG ?_;exact ⟨o8 hf.symm,hw'⟩
theorem c4A {w:World} {v:Value} (hv:v.cells=#[v]) (t:Nat) (ht:a2o t=true):a06 (w.alloc (.cells (([v]:List Value).flatMap fun v=>v.cells.toList).toArray t)) w.heap.size 1 (fun _=>v) :=
 ⟨_,t,(0,0),d9 _ _,ht,fun i hi=>by
  have:i=0:=by omega
  subst this;simp [hv]⟩
theorem a0M:F0 280 138 1 1:=T7 zk
def MB.chk (B:MB) (t:Int):Bool :=
 let k:=if t=2 then B.bk else B.wk
 !decide (k=-1)&&B.att t k.toNat
theorem a6S {P b t u:Nat} {h:Hd} {cv:Value} {fz fy:Nat×Nat} {B:MB} [hO:B.Ok] (ht:h.turn=1∨h.turn=2) (w0:-1≤B.wk) (w1:B.wk≤63) (b0:-1≤B.bk) (b1:B.bk≤63) (w:World) (hT:D5 w)
  (hP:w.heap[P]?=some (.cells (hdA b h cv) t fz)) (hB:w.heap[b]?=some (.cells (H3 B) u fy)) :
  Calls G.P 137 #[.pointer (some ⟨P,0,none⟩)] w (N2 (.bool (B.chk h.turn)) w):=by
 have tc:=a4S w hP;have key:∀ k:Int,k=(if h.turn=2 then B.bk else B.wk)→k≠-1→∀ w',Cl w w'→∀ g c,a06 w' g 1 (fun _=>.int .i8 k)→Calls G.P 196 #[.pointer (some ⟨P,0,none⟩),.slice (some ⟨g,0,none⟩) 1 c] w' (N2 (.bool (B.chk h.turn)) w'):=by
  intro k hk hne w' hw g c hS;have k0:0≤k:=by split at hk<;>omega
  have k1:k≤63:=by split at hk<;>omega
  have hr:B.chk h.turn=[k.toNat].any (B.att h.turn):=by
   unfold MB.chk;simp only [← hk,List.any_cons,List.any_nil,Bool.or_false];rw [zV hne];rfl
  rw [hr];exact a1G ht [k.toNat] (fun i hi=>by
   have:i=0:=by simp at hi;omega
   subst this;simp;omega) (by simp) g c w' (hT.cl hw) (hw.blk hP) (hw.blk hB) (by
    obtain ⟨cs,t,fz,h1,h2,h3⟩:=hS;refine ⟨cs,t,fz,h1,h2,fun i hi=>?_⟩;have:i=0:=by simp at hi;omega
    subst this;rw [h3 0 zd];simp [zi k0])
 have no:(if h.turn=2 then B.bk else B.wk)=-1→B.chk h.turn=false:=fun e=>by unfold MB.chk;simp [e]
 generalize B.chk h.turn=R at *;obtain ⟨cas,half,full,turn,ep,chk⟩:=h;simp only at ht key no tc ⊢;refine zN func137 ?_;rcases ht with rfl|rfl
 ·rw [zJ zd] at no;rw [zJ zd] at key;refine zR ?_;refine b7 _ (a8v hP) (zR ?_);refine b7 _ (c0F hB) (zR ?_);refine l8 tc (zR ?_);generalize B.wk=k at *;apply E.b9<;>intro h
  ·refine zR ?_;exact ⟨o8 (no h).symm,Cl.refl _⟩
  ·refine zR ?_;refine zL a0M [.int .i8 k] ?_;have hc:=Cl.alloc w (.cells (([Value.int .i8 k]:List Value).flatMap fun v=>v.cells.toList).toArray 138);have hb:=c4A (w:=w) (v:=.int .i8 k) rfl 138 rfl;generalize w.alloc (.cells (([Value.int .i8 k]:List Value).flatMap fun v=>v.cells.toList).toArray 138)=w1 at *;refine zR ?_;refine o9 (key k rfl h w1 hc _ _ hb) fun w2 c2=>zR ?_;exact ⟨rfl,hc.trans c2⟩
 ·rw [zM rfl] at no;rw [zM rfl] at key;refine zR ?_;refine b7 _ (a8v hP) (zR ?_);refine b7 _ (c0F hB) (zR ?_);refine l8 tc (zR ?_);refine b7 _ (a8v hP) (zR ?_);refine b7 _ (c3d hB) (zR ?_);generalize B.bk=k at *;apply E.b9<;>intro h
  ·refine zR ?_;exact ⟨o8 (no h).symm,Cl.refl _⟩
  ·refine zR ?_;refine zL a0M [.int .i8 k] ?_;have hc:=Cl.alloc w (.cells (([Value.int .i8 k]:List Value).flatMap fun v=>v.cells.toList).toArray 138);have hb:=c4A (w:=w) (v:=.int .i8 k) rfl 138 rfl;generalize w.alloc (.cells (([Value.int .i8 k]:List Value).flatMap fun v=>v.cells.toList).toArray 138)=w1 at *;refine zR ?_;refine o9 (key k rfl h w1 hc _ _ hb) fun w2 c2=>zR ?_;exact ⟨rfl,hc.trans c2⟩
end
section
open Ch Bb
theorem not_not {a:Nat} (h:a<2^64):Bb.not (Bb.not a)=a:=by
 refine Bb.ext (not_lt (not_lt h)) h fun s hs=>?_;rw [E7 _ hs,E7 _ hs,Bool.not_not]
def bbf (g:Nat→Int) (i:Nat):Nat:=bb (fun s=>decide (g s=(i:Int)+1))
theorem a4T (g:Nat→Int) (i:Nat):bbf g i<2^64:=P4 _
theorem a0r (g:Nat→Int) (i:Nat) {s:Nat} (hs:s<64):(bbf g i).testBit (63-s)=decide (g s=(i:Int)+1):=F6 _ hs
theorem a2B {g g':Nat→Int} {i:Nat} (h:∀ s,s<64→(g s=(i:Int)+1↔g' s=(i:Int)+1)):bbf g i=bbf g' i:=a0J fun s hs=>ya.2 (h s hs)
theorem b8w {a:Nat} {g:Nat→Int} {i:Nat} (ha:a<2^64) (h:∀ s,s<64→(a.testBit (63-s)=true↔g s=(i:Int)+1)):a=bbf g i :=
 a97 ha fun s hs=>by rw [yv,h s hs,zW]
def MB.Is (B:MB) (g:Nat→Int):Prop:=∀ i,i<12→B.f i=bbf g i
def A4 (p:l9):MB:=⟨fun i=>if i<12 then pcs p ((i:Int)+1) else if i=12 then side p 0 else if i=13 then side p 1 else if i=14 then T9 p else 0,z8 p 0,z8 p 1⟩
theorem a0s (p:l9):(A4 p).Is (fun s=>sq p s):=fun i hi=>by
 show (if i<12 then _ else _)=_
 rw [zM hi];rfl
instance mbOf_ok (p:l9):(A4 p).Ok:=⟨fun i=>by
 show (if i<12 then _ else _)<_
 repeat' split
 ·exact P4 _
 ·exact P4 _
 ·exact P4 _
 ·exact not_lt (P4 _)
 ·decide⟩
theorem c0L (p:l9):(A4 p).f 14=T9 p:=rfl
theorem b3A (p:l9):Bb.not ((A4 p).f 14)=occ p:=not_not (P4 _)
theorem c0M {p:l9} (hp:∀ i:Int,0≤sq p i∧sq p i≤12) {s:Nat} (hs:s<64):∀ n x,x+n=12→(A4 p).from s n x=if (x:Int)<sq p s then sq p s else 0:=by
 intro n
 induction n with
 | zero=>intro x hx;have:=hp s;rw [zJ zo];rfl
 | succ n ih =>
  intro x hx;unfold MB.from;rw [a0s p x zo,a0r _ _ hs];by_cases h:sq p s=(x:Int)+1
  ·rw [zM (by simpa using h),zM zo,h]
  ·rw [zJ (by simpa using h),ih (x+1) zo]
   by_cases h2:((x+1:Nat):Int)<sq p s
   ·rw [zM h2,zM zo]
   ·rw [zJ h2,zJ zo]
theorem a0t {p:l9} (hp:∀ i:Int,0≤sq p i∧sq p i≤12) {s:Nat} (hs:s<64):(A4 p).at s=sq p s:=by
 unfold MB.at;rw [c0M hp hs 12 0 rfl];have:=hp s;split<;>omega
theorem a81 {p:l9} (hp:∀ i:Int,0≤sq p i∧sq p i≤12) {c:Int} (hc:c=0∨c=1) {a:Nat} (ha:a<64):(A4 p).att (c+1) a=B7 p a (1-c):=by
 rw [← c0x p hp ha (by omega:1-c=0∨1-c=1)]
 rcases hc with rfl|rfl
 ·rw [show (0:Int)+1=1 from rfl,c2r,b3A];unfold b7N a23;rw [b8t,b8u,c2p];rfl
 ·rw [show (1:Int)+1=2 from rfl,c2s,b3A];unfold b7N a23;rw [b8t,b8u,c2q];rfl
theorem c0N (p:l9) (ht:p.turn=0∨p.turn=1) (fr:Nat):(A4 p).pawn (p.turn+1) (epN p.ep) (D6 fr)=a6M p fr:=by
 unfold a6M MB.pawn;rw [b8t,b8u,c2p,c2q];rcases ht with h|h
 ·rw [h];rfl
 ·rw [h];rfl
theorem c0O (p:l9) (ht:p.turn=0∨p.turn=1) (k:Int) (fr:Nat):(A4 p).poss (p.turn+1) (epN p.ep) k fr=a6N p k fr:=by
 unfold MB.poss a6N;rw [b3A,c0N p ht]
def MB.m1 (B:MB) (fr to n:Nat):MB :=
 { B with f:=fun i=>if i<n then (if (B.f i).testBit (63-fr) then ((B.f i &&& Bb.not (D6 to)) &&& Bb.not (D6 fr)) ||| D6 to else B.f i &&& Bb.not (D6 to)) else B.f i }
def MB.m2 (B:MB) (x y:Int) (to:Nat):MB:=(B.set (x.toNat-1) (B.of x &&& Bb.not (D6 to))).set (y.toNat-1) ((B.set (x.toNat-1) (B.of x &&& Bb.not (D6 to))).of y ||| D6 to)
def MB.m3 (B:MB) (c:Int) (to:Nat):MB:=if c=1 then B.set 11 (Bb.not (shl (D6 to) 8) &&& B.f 11) else B.set 5 (Bb.not (D6 to >>> 8) &&& B.f 5)
def MB.m4 (B:MB) (c:Int) (t0 t1:Bool):MB :=
 if c=1∧t0=true then B.set 2 ((B.f 2 &&& Bb.not (D6 7)) ||| D6 5) else if c=1∧t1=true then B.set 2 ((B.f 2 &&& Bb.not (D6 0)) ||| D6 3)
 else if c=2∧t0=true then B.set 8 ((B.f 8 &&& Bb.not (D6 63)) ||| D6 61) else if c=2∧t1=true then B.set 8 ((B.f 8 &&& Bb.not (D6 56)) ||| D6 59) else B
def MB.whites (B:MB):Nat:=B.f 0 ||| B.f 1 ||| B.f 2 ||| B.f 3 ||| B.f 4 ||| B.f 5
def MB.blacks (B:MB):Nat:=B.f 6 ||| B.f 7 ||| B.f 8 ||| B.f 9 ||| B.f 10 ||| B.f 11
def MB.sums (B:MB):MB:=((B.set 12 B.whites).set 13 B.blacks).set 14 (Bb.not (B.whites ||| B.blacks))
def MB.kings (B:MB) (fr to:Int):MB:=if fr=B.wk then { B with wk:=to } else if fr=B.bk then { B with bk:=to } else B
def MB.move (B:MB) (m:Mv) (tags:Nat):MB :=
 let fr:=m.fr.toNat;let to:=m.to.toNat;let x:=B.at fr;let B1:=B.m1 fr to 12;let B2:=if m.promo=0 then B1 else B1.m2 x (m.promo+6*(O7 x-1)) to
 let B3:=if tags.testBit 3 then B2.m3 (O7 x) to else B2
 ((B3.m4 (O7 x) (tags.testBit 0) (tags.testBit 1)).sums).kings m.fr m.to
theorem a3h (B:MB) (i x j:Nat):(B.set i x).f j=if j=i then x else B.f j:=rfl
theorem c2t {B:MB} {g:Nat→Int} (h:B.Is g) {fr to:Nat} (hf:fr<64) (ht:to<64) (hne:fr≠to):(B.m1 fr to 12).Is (fun s=>if s=to then g fr else if s=fr then 0 else g s):=by
 intro i hi;show (if i<12 then _ else _)=_
 rw [zM hi,h i hi,a0r _ _ hf];have l1:=a4T g i;refine b8w ?_ fun s hs=>?_
 ·split
  ·exact yq (xu Nat.and_le_left (xu Nat.and_le_left l1)) (a3y _)
  ·exact xu Nat.and_le_left l1
 ·by_cases hg:g fr=(i:Int)+1
  ·rw [zM (by simpa using hg)]
   rw [yF,zq,zq,a0r _ _ hs,E7 _ hs,E7 _ hs,H5 ht hs,H5 hf hs];by_cases e1:s=to
   ·simp [e1,hg]
   ·by_cases e2:s=fr
    ·simp [e2,hne];omega
    ·simp [e1,e2]
  ·rw [zJ (by simpa using hg)]
   rw [zq,a0r _ _ hs,E7 _ hs,H5 ht hs];by_cases e1:s=to
   ·simp [e1,hg]
   ·by_cases e2:s=fr
    ·simp [e2,hne,hg];omega
    ·simp [e1,e2]
theorem a82 {B:MB} {g g':Nat→Int} (h:B.Is g) {i x:Nat} (hx:x<2^64) (h1:∀ s,s<64→(x.testBit (63-s)=true↔g' s=(i:Int)+1)) (h2:∀ j,j<12→j≠i→∀ s,s<64→(g s=(j:Int)+1↔g' s=(j:Int)+1)):(B.set i x).Is g':=by
 intro j hj;rw [a3h];by_cases e:j=i
 ·subst e;rw [zM rfl];exact b8w hx h1
 ·rw [zJ e,h j hj];exact a2B (h2 j hj e)
theorem b5e {B:MB} {g:Nat→Int} (h:B.Is g) {x:Int} (x1:1≤x) (x2:x≤12):B.of x=bbf g (x.toNat-1):=by
 unfold MB.of;rw [zJ zo];exact h _ zo
theorem b5f {a b:Nat} (h:a<2^64):a &&& b<2^64:=xu Nat.and_le_left h
theorem c4B {B:MB} {g:Nat→Int} (h:B.Is g) {x y:Int} {to:Nat} (ht:to<64) (x1:1≤x) (x2:x≤12) (y1:1≤y) (y2:y≤12) (hg:g to=x) (hne:x≠y):(B.m2 x y to).Is (fun s=>if s=to then y else g s):=by
 unfold MB.m2;have hA:(B.set (x.toNat-1) (B.of x &&& Bb.not (D6 to))).Is (fun s=>if s=to then 0 else g s):=by
  refine a82 h (b5f (by rw [b5e h x1 x2];exact a4T _ _)) (fun s hs=>?_) (fun j hj hji s hs=>?_)
  ·rw [b5e h x1 x2,zq,a0r _ _ hs,E7 _ hs,H5 ht hs];by_cases e:s=to
   ·simp [e];omega
   ·simp [e]
  ·by_cases e:s=to
   ·subst e;simp [hg];omega
   ·simp [e]
 refine a82 hA (yq (by rw [b5e hA y1 y2];exact a4T _ _) (a3y _)) (fun s hs=>?_) (fun j hj hji s hs=>?_)
 ·rw [b5e hA y1 y2,yF,a0r _ _ hs,H5 ht hs];by_cases e:s=to
  ·simp [e];omega
  ·simp [e]
 ·by_cases e:s=to
  ·subst e;simp;omega
  ·simp [e]
theorem c4C {B:MB} {g:Nat→Int} (h:B.Is g) {c:Int} (hc:c=1∨c=2) {to q:Nat} (ht:to<64) (hq:q<64) (hqt:(q:Int)=to-8*(3-2*c)) (hg:g q=if c=1 then 12 else 6):(B.m3 c to).Is (fun s=>if s=q then 0 else g s):=by
 unfold MB.m3;rcases hc with rfl|rfl
 ·rw [zM rfl];rw [zM rfl] at hg;refine a82 h (yn _ (by rw [h 11 zd];exact a4T _ _)) (fun s hs=>?_) (fun j hj hji s hs=>?_)
  ·rw [h 11 zd,zq,a0r _ _ hs,E7 _ hs,a2N _ _ hs];by_cases e:s=q
   ·subst e;have:s+8=to:=by omega
    rw [this,H5 ht ht];simp [ht]
   ·have hne:s+8≠to:=by omega
    by_cases h64:s+8<64
    ·rw [H5 ht h64];simp [e,hne]
    ·simp [e,h64]
  ·by_cases e:s=q
   ·subst e;simp [hg];omega
   ·simp [e]
 ·rw [zJ zd];rw [zJ zd] at hg;refine a82 h (yn _ (by rw [h 5 zd];exact a4T _ _)) (fun s hs=>?_) (fun j hj hji s hs=>?_)
  ·rw [h 5 zd,zq,a0r _ _ hs,E7 _ hs,a2O _ _ (a3y _) hs];by_cases e:s=q
   ·subst e;have:s-8=to:=by omega
    rw [this,H5 ht ht];simp [show 8≤s by omega]
   ·by_cases h8:8≤s
    ·have hne:s-8≠to:=by omega
     rw [H5 ht zo];simp [e,hne]
    ·simp [e,h8]
  ·by_cases e:s=q
   ·subst e;simp [hg];omega
   ·simp [e]
theorem c0P {B:MB} {g:Nat→Int} (h:B.Is g) {i R F:Nat} (hi:i<12) (hR:R<64) (hF:F<64) (gR:g R=(i:Int)+1) (gF:g F=0) (hne:R≠F):(B.set i ((B.f i &&& Bb.not (D6 R)) ||| D6 F)).Is (fun s=>if s=F then (i:Int)+1 else if s=R then 0 else g s):=by
 refine a82 h (yq (b5f (by rw [h i hi];exact a4T _ _)) (a3y _)) (fun s hs=>?_) (fun j hj hji s hs=>?_)
 ·rw [h i hi,yF,zq,a0r _ _ hs,E7 _ hs,H5 hR hs,H5 hF hs];by_cases e:s=F
  ·simp [e]
  ·by_cases e2:s=R
   ·simp [e2,hne];omega
   ·simp [e,e2]
 ·by_cases e:s=F
  ·subst e;simp [gF];omega
  ·by_cases e2:s=R
   ·subst e2;simp [hne,gR];omega
   ·simp [e,e2]
theorem a6o {A B:MB} (hf:∀ i,A.f i=B.f i) (h1:A.wk=B.wk) (h2:A.bk=B.bk):A=B:=by
 cases A;cases B;simp only [MB.mk.injEq];exact ⟨funext hf,h1,h2⟩
theorem b6f {B:MB} {g:Nat→Int} (h:B.Is g):B.whites=bb (fun s=>decide (1≤g s)&&decide (g s≤6)):=by
 unfold MB.whites;rw [h 0 zd,h 1 zd,h 2 zd,h 3 zd,h 4 zd,h 5 zd];unfold bbf;rw [a0Z,a0Z,a0Z,a0Z,a0Z];refine a0J fun s _=>?_;rw [yv];simp only [zj,zP,zW];omega
theorem b6g {B:MB} {g:Nat→Int} (h:B.Is g):B.blacks=bb (fun s=>decide (7≤g s)&&decide (g s≤12)):=by
 unfold MB.blacks;rw [h 6 zd,h 7 zd,h 8 zd,h 9 zd,h 10 zd,h 11 zd];unfold bbf;rw [a0Z,a0Z,a0Z,a0Z,a0Z];refine a0J fun s _=>?_;rw [yv];simp only [zj,zP,zW];omega
theorem b5g {B:MB} {p:l9} (hp:∀ i:Int,0≤sq p i∧sq p i≤12) (h:B.Is (fun s=>sq p s)) (hz:∀ i,15≤i→B.f i=0) (i:Nat):B.sums.f i=(A4 p).f i:=by
 have ew:B.whites=side p 0:=by
  rw [b6f h];refine a0J fun s _=>?_;have:=hp s;rw [yv];simp only [zP,zW,zc,zZ];unfold y9;by_cases h6:sq p s>6
  ·rw [zM h6];constructor<;>intro h<;>(try omega)
  ·rw [zJ h6];constructor<;>intro h<;>(try omega)
 have eb:B.blacks=side p 1:=by
  rw [b6g h];refine a0J fun s _=>?_;have:=hp s;rw [yv];simp only [zP,zW,zc,zZ];unfold y9;by_cases h6:sq p s>6
  ·rw [zM h6];constructor<;>intro h<;>(try omega)
  ·rw [zJ h6];constructor<;>intro h<;>(try omega)
 have eo:side p 0 ||| side p 1=occ p:=by
  unfold side occ;rw [a0Z];refine a0J fun s _=>?_;rcases c2S (sq p s) with e|e<;>simp [e]
 unfold MB.sums;rw [a3h,a3h,a3h,ew,eb,eo];show _=if i<12 then _ else _
 by_cases h14:i=14
 ·subst h14;rfl
 ·by_cases h13:i=13
  ·subst h13;rfl
  ·by_cases h12:i=12
   ·subst h12;rfl
   ·rw [zJ h14,zJ h13,zJ h12];by_cases hi:i<12
    ·rw [zM hi,h i hi];rfl
    ·rw [zJ hi,zJ h12,zJ h13,zJ h14,hz i zo]
theorem b3B (B:MB) (fr to:Nat) {i:Nat} (hi:12≤i):(B.m1 fr to 12).f i=B.f i:=by
 show (if i<12 then _ else _)=_
 rw [zJ zo]
theorem c3f (B:MB) {x y:Int} (to:Nat) (x1:1≤x) (x2:x≤12) (y1:1≤y) (y2:y≤12) {i:Nat} (hi:12≤i):(B.m2 x y to).f i=B.f i:=by
 unfold MB.m2;rw [a3h,zJ zo,a3h,zJ zo]
theorem c3g (B:MB) (c:Int) (to:Nat) {i:Nat} (hi:12≤i):(B.m3 c to).f i=B.f i:=by
 unfold MB.m3;split<;>rw [a3h,zJ zo]
theorem a83 (p:l9) {i:Nat} (hi:15≤i):(A4 p).f i=0:=by
 show (if i<12 then _ else _)=_
 rw [zJ zo,zJ zo,zJ zo,zJ zo]
theorem a57 (B:MB) (c:Int) (to:Nat):(B.m3 c to).wk=B.wk∧(B.m3 c to).bk=B.bk:=by unfold MB.m3;split<;>exact ⟨rfl,rfl⟩
theorem b1Z (B:MB) (c:Int) (a b:Bool):(B.m4 c a b).wk=B.wk∧(B.m4 c a b).bk=B.bk:=by
 unfold MB.m4;repeat' split
 all_goals exact ⟨rfl,rfl⟩
theorem b5h {p:l9} (hI:D0 p) {i:Int} (h:sq p i≠0) (ho:y9 (sq p i)=p.turn):O7 (sq p i)=p.turn+1:=by
 unfold O7;rw [zJ h,ho]
theorem b8x {p q:l9} (hI:D0 p) {m:Mv} {A:MB} (hw:A.wk=z8 p 0) (hb:A.bk=z8 p 1) (ho:y9 (sq p m.fr)=p.turn) (hx:sq p m.fr≠0)
  (h1:S9 q p.turn (if m.fr=z8 p p.turn then m.to else z8 p p.turn)) (h2:S9 q (1-p.turn) (z8 p (1-p.turn))):(A.kings m.fr m.to).wk=z8 q 0∧(A.kings m.fr m.to).bk=z8 q 1∧(A.kings m.fr m.to).f=A.f:=by
 unfold MB.kings;rw [hw,hb];have e1:=h1.at;have e2:=h2.at;rcases hI.turn with ht|ht
 ·rw [ht] at e1 e2 ho;simp only [show (1:Int)-0=1 from rfl] at e2;by_cases hk:m.fr=z8 p 0
  ·rw [zM hk];rw [zM hk] at e1;exact ⟨e1.symm,by rw [e2],rfl⟩
  ·rw [zJ hk] at e1;rw [zJ hk];have hne:m.fr≠z8 p 1:=fun e=>by
    have:=(hI.king 1 (.inr rfl)).2.2.1;rw [← e] at this;rw [this] at ho;revert ho;decide
   rw [zJ hne];exact ⟨by rw [e1];exact hw,by rw [e2];exact hb,rfl⟩
 ·rw [ht] at e1 e2 ho;simp only [show (1:Int)-1=0 from rfl] at e2;have hne:m.fr≠z8 p 0:=fun e=>by
   have:=(hI.king 0 (.inl rfl)).2.2.1;rw [← e] at this;rw [this] at ho;revert ho;decide
  rw [zJ hne];by_cases hk:m.fr=z8 p 1
  ·rw [zM hk];rw [zM hk] at e1;exact ⟨by rw [e2],e1.symm,rfl⟩
  ·rw [zJ hk] at e1;rw [zJ hk];exact ⟨by rw [e2];exact hw,by rw [e1];exact hb,rfl⟩
theorem a84 (A:MB):A.sums.wk=A.wk∧A.sums.bk=A.bk:=⟨rfl,rfl⟩
theorem a86 {p q:l9} (hI:D0 p) {m:Mv} {A:MB} (hq:∀ i:Int,0≤sq q i∧sq q i≤12) (hA:A.Is (fun s=>sq q s)) (hz:∀ i,15≤i→A.f i=0) (hw:A.wk=z8 p 0) (hb:A.bk=z8 p 1) (ho:y9 (sq p m.fr)=p.turn) (hx:sq p m.fr≠0)
  (h1:S9 q p.turn (if m.fr=z8 p p.turn then m.to else z8 p p.turn)) (h2:S9 q (1-p.turn) (z8 p (1-p.turn))):A.sums.kings m.fr m.to=A4 q:=by
 obtain ⟨k1,k2,k3⟩:=b8x (A:=A.sums) hI hw hb ho hx h1 h2;exact a6o (fun i=>by rw [k3];exact b5g hq hA hz i) k1 k2
theorem a87 {p:l9} (hI:D0 p) {m:Mv} (h:H7 p m) {tags:Nat} (h3:tags.testBit 3=decide (capTag p m=8)) (h0:tags.testBit 0=false) (h1:tags.testBit 1=false):(A4 p).move m tags=A4 (made p m):=by
 have ht:=hI.turn;have f0:=h.f0;have f1:=h.f1;have t0:=h.t0;have t1:=h.t1;have hsq:=fun j=>U0 hI h (j:=j);have hcap:=a4d hI h;have hko:=a19 hI h;have hkt:=a4M hI h;have hpc:=a2U hI h;have hne:=h.ne;have hpr:=h.promo;have hpass:=a0D hI h;have htk:=a1W hI h;have hown:=a32 hI h.there h.own;have hcol:=b5h hI h.there h.own;have hth:=h.there;have hside:=h.own;have hnew:a17 p m=if m.promo≠0 then m.promo+6*p.turn else sq p m.fr:=rfl
 obtain ⟨fr,to,pr⟩:=m;simp only at f0 f1 t0 t1 hne hpr hown hcol hth hside hnew ⊢;obtain ⟨f,rfl⟩:=ze f0;obtain ⟨t,rfl⟩:=ze t0;have hf:f<64:=by omega
 have htt:t<64:=by omega
 have hft:f≠t:=fun e=>hne (by rw [e])
 unfold MB.move;simp only [zg,a0t hI.pc hf,hcol,h0,h1];have e4:∀ B:MB,B.m4 (p.turn+1) false false=B:=fun B=>by unfold MB.m4;simp
 rw [e4];have i1:=c2t (a0s p) hf htt hft;have i2:(if pr=0 then (A4 p).m1 f t 12 else ((A4 p).m1 f t 12).m2 (sq p f) (pr+6*(p.turn+1-1)) t).Is (fun s=>if s=t then a17 p ⟨f,t,pr⟩ else if s=f then 0 else sq p s):=by
  by_cases hp:pr=0
  ·rw [zM hp];have:a17 p ⟨(f:Int),t,pr⟩=sq p f:=by rw [hnew,zJ (by simpa using hp)]
   rw [this];exact i1
  ·rw [zJ hp];have hk:d6 (sq p f)=6:=by rcases hpr with ⟨e,_⟩|⟨_,_,e,_⟩;exact absurd e hp;exact e
   have hb:2≤pr∧pr≤5:=by rcases hpr with ⟨e,_⟩|⟨e,e',_,_⟩;exact absurd e hp;exact ⟨e,e'⟩
   have hx:sq p f=6+6*p.turn:=by rw [hown.2.2,hk]
   have hn:a17 p ⟨(f:Int),t,pr⟩=pr+6*(p.turn+1-1):=by rw [hnew,zM hp];omega
   rw [hn];have:=c4B i1 (x:=sq p f) (y:=pr+6*(p.turn+1-1)) htt zo zo zo zo (by simp) zo
   intro i hi;rw [this i hi];refine a2B fun s _=>?_;by_cases e:s=t
   ·simp [e]
   ·simp [e]
 have z2:∀ i,15≤i→(if pr=0 then (A4 p).m1 f t 12 else ((A4 p).m1 f t 12).m2 (sq p f) (pr+6*(p.turn+1-1)) t).f i=0:=fun i hi=>by
  split
  ·rw [b3B _ _ _ zo,a83 p hi]
  ·rename_i hp;have hb:2≤pr∧pr≤5:=by rcases hpr with ⟨e,_⟩|⟨e,e',_,_⟩;exact absurd e hp;exact ⟨e,e'⟩
   rw [c3f _ _ zo zo zo zo zo,b3B _ _ _ zo,a83 p hi]
 have k2:(if pr=0 then (A4 p).m1 f t 12 else ((A4 p).m1 f t 12).m2 (sq p f) (pr+6*(p.turn+1-1)) t).wk=z8 p 0∧(if pr=0 then (A4 p).m1 f t 12 else ((A4 p).m1 f t 12).m2 (sq p f) (pr+6*(p.turn+1-1)) t).bk=z8 p 1:=by
  split<;>exact ⟨rfl,rfl⟩
 generalize (if pr=0 then (A4 p).m1 f t 12 else ((A4 p).m1 f t 12).m2 (sq p f) (pr+6*(p.turn+1-1)) t)=B2 at *
 rw [h3];by_cases hc8:capTag p ⟨f,t,pr⟩=8
 ·rw [zM (by simpa using hc8)]
  rw [hc8] at hcap;have hz:sq p t=0:=by
   by_cases e:sq p t=0
   ·exact e
   ·rw [zM e] at hcap;exact absurd hcap zd
  rw [zJ (by simpa using hz)] at hcap
  have htk':C1 p ⟨f,t,pr⟩=true:=by
   by_cases e:C1 p ⟨f,t,pr⟩=true
   ·exact e
   ·rw [zJ e] at hcap;exact absurd hcap zd
  obtain ⟨p1,p2,p3,p4,p5,p6⟩:=hpass hz htk';have hta:F3 p ⟨f,t,pr⟩=I9 (o4 t) (k9 f):=by
   unfold F3;simp only;rw [zJ (by simpa using hz),zM htk']
  simp only at p2 p3 p4 p5 p6;obtain ⟨q,hq⟩:=ze p2;have hq64:I9 (o4 t) (k9 f)≤63:=(at_range _ _).2;have hqq:(q:Int)=t-8*(3-2*(p.turn+1)):=by rw [← hq,p6];unfold up;omega
  have hqn:q≠t∧q≠f:=by
   constructor
   ·intro e;omega
   ·intro e;rw [hq,e] at p3;rw [p3] at hown;omega
  have i3:=c4C i2 (c:=p.turn+1) zo (to:=t) (q:=q) htt zo hqq (by
   simp only [zJ hqn.1,zJ hqn.2];rw [← hq,p3];rcases ht with e|e<;>rw [e]<;>rfl)
  refine a86 (m:=⟨f,t,pr⟩) hI hpc (fun i hi=>?_) (fun i hi=>by rw [c3g _ _ _ zo];exact z2 i hi) (by rw [(a57 _ _ _).1];exact k2.1) (by rw [(a57 _ _ _).2];exact k2.2) hside hth hko hkt
  rw [i3 i hi];refine a2B fun s _=>?_;have:=hsq s zo;simp only [hta,hq,htk',true_and] at this;rw [this];by_cases e1:s=q
  ·subst e1;rw [zM rfl,zJ zo,zJ zo,zM rfl]
  ·rw [zJ e1];by_cases e2:s=t
   ·rw [zM e2,zM (by rw [e2])]
   ·by_cases e3:s=f
    ·rw [zJ e2,zM e3,zJ zo,zM (by rw [e3])]
    ·rw [zJ e2,zJ e3,zJ zo,zJ zo,zJ zo]
 ·rw [zJ (by simpa using hc8)]
  refine a86 (m:=⟨f,t,pr⟩) hI hpc (fun i hi=>?_) z2 k2.1 k2.2 hside hth hko hkt;rw [i2 i hi];refine a2B fun s _=>?_;have:=hsq s zo;simp only at this;rw [this];have hno:¬ (C1 p ⟨f,t,pr⟩=true∧(s:Int)=F3 p ⟨f,t,pr⟩)∨(s:Int)=t:=by
   by_cases e:C1 p ⟨f,t,pr⟩=true
   ·by_cases ez:sq p t=0
    ·rw [zJ (by simpa using ez),zM e] at hcap
     exact absurd (by exact_mod_cast hcap) hc8
    ·have:F3 p ⟨f,t,pr⟩=t:=by unfold F3;simp only;rw [zM ez]
     rw [this];by_cases e2:(s:Int)=t
     ·exact .inr e2
     ·exact .inl fun h=>e2 h.2
   ·exact .inl fun h=>e h.1
  by_cases e2:s=t
  ·rw [zM e2,zM (by rw [e2])]
  ·have hno':=hno.resolve_right zo;by_cases e3:s=f
   ·rw [zJ e2,zM e3,zJ zo,zM (by rw [e3])]
   ·rw [zJ e2,zJ e3,zJ zo,zJ zo,zJ hno']
theorem a6T {p:l9} (hI:D0 p) {m:Mv} {K w R:Int} (h:a0U p m K w R) {tags:Nat} (h3:tags.testBit 3=false) (h0:tags.testBit 0=decide (w=1)) (h1:tags.testBit 1=decide (w=-1)):(A4 p).move m tags=A4 (made p m):=by
 have ht:=hI.turn;have hsq:=fun j=>J8 hI h (j:=j);obtain ⟨hko,hkf⟩:=Z4 hI h;have hkt:=a2S hI h;have hpc:=a1s hI h;have hko':S9 (made p m) p.turn (if m.fr=z8 p p.turn then m.to else z8 p p.turn):=by rw [zM hkf];exact hko
 have hK:=h.k;have hking:=h.king;have hrook:=h.rook;have hmid:=h.mid;have hmv:=h.mv;have hth:sq p m.fr≠0:=by rw [hmv];simp only [hking];omega
 have hside:y9 (sq p m.fr)=p.turn:=by rw [hmv];simp only [hking];exact P5 zd zd ht
 have hcol:O7 (sq p K)=p.turn+1:=b5h hI (by rw [hking];omega) (by rw [hking];exact P5 zd zd ht)
 have key:∀ (k t rr ff i:Nat),k<64→t<64→rr<64→ff<64→i<12→(k:Int)=K→(t:Int)=K+2*w→(rr:Int)=R→(ff:Int)=K+w→(i:Int)+1=3+6*p.turn→k≠t→rr≠k→rr≠t→ff≠k→ff≠t→rr≠ff →
   (∀ B:MB,B.m4 (p.turn+1) (decide (w=1)) (decide (w=-1))=B.set i ((B.f i &&& Bb.not (D6 rr)) ||| D6 ff))→(A4 p).move m tags=A4 (made p m):=by
  intro k t rr ff i hk64 ht64 hr64 hf64 hi12 ek et er ef ei n1 n2 n3 n4 n5 n6 e4;have efr:m.fr.toNat=k:=by rw [hmv];simp only;omega
  have eto:m.to.toNat=t:=by rw [hmv];simp only;omega
  have epr:m.promo=0:=by rw [hmv]
  have i1:=c2t (a0s p) hk64 ht64 n1;unfold MB.move;simp only [efr,eto,epr,xy,a0t hI.pc hk64,ek,hcol,h3,h0,h1,e4,yD,xh];refine a86 (p:=p) hI hpc (fun j hj=>?_) (fun j hj=>?_) rfl rfl hside hth hko' hkt
  ·have:=c0P i1 (i:=i) (R:=rr) (F:=ff) hi12 hr64 hf64 (by simp only [zJ n3,zJ n2];rw [er,hrook,ei]) (by simp only [zJ n5,zJ n4];rw [ef,hmid]) n6
   rw [this j hj];refine a2B fun s _=>?_;have hs:=hsq s zo;rw [hs];by_cases e1:s=ff
   ·rw [zM e1,zM (show (s:Int)=K+w by omega),ei]
   ·rw [zJ e1,zJ (show ¬ (s:Int)=K+w by omega)]
    by_cases e2:s=rr
    ·rw [zM e2,zM (show (s:Int)=R by omega)]
    ·rw [zJ e2,zJ (show ¬ (s:Int)=R by omega)]
     by_cases e3:s=t
     ·rw [zM e3,zM (show (s:Int)=K+2*w by omega),ek,hking]
     ·rw [zJ e3,zJ (show ¬ (s:Int)=K+2*w by omega)]
      by_cases e5:s=k
      ·rw [zM e5,zM (show (s:Int)=K by omega)]
      ·rw [zJ e5,zJ (show ¬ (s:Int)=K by omega)]
  ·rw [a3h,zJ zo,b3B _ _ _ zo,a83 p hj]
 rcases h.way with ⟨hw,hR⟩|⟨hw,hR,_⟩<;>rcases ht with e|e
 ·exact key 4 6 7 5 2 zd zd zd zd zd zo zo zo zo zo zd zd zd zd zd zd (fun B=>by rw [e,hw];rfl)
 ·exact key 60 62 63 61 8 zd zd zd zd zd zo zo zo zo zo zd zd zd zd zd zd (fun B=>by rw [e,hw];rfl)
 ·exact key 4 2 0 3 2 zd zd zd zd zd zo zo zo zo zo zd zd zd zd zd zd (fun B=>by rw [e,hw];rfl)
 ·exact key 60 58 56 59 8 zd zd zd zd zd zo zo zo zo zo zd zd zd zd zd zd (fun B=>by rw [e,hw];rfl)
end
section
open Go Go.RowKit
open E
theorem a3a (p:l9) (hp:Pc p) (m:Mv) (hm:b17 m) (w:World):Calls G.P 58 #[D3 p,mvV m] w (N2 (.int .i64 (Ch.t7 p m)) w):=by
 obtain ⟨⟨a0,a1⟩,⟨b0,b1⟩,d0,d1⟩:=hm;refine zN func58 ?_;refine zG ?_;generalize hW:(w.alloc (.cells (s7 p) 24)).alloc (.cells (S8 m) 36)=W0;have hP:∀ w',Cl W0 w'→w'.heap[w.heap.size]?=some (.cells (s7 p) 24 (0,0)):=fun w' h=>hP2 (hW▸h);have hM:∀ w',Cl W0 w'→w'.heap[(w.alloc (.cells (s7 p) 24)).heap.size]?=some (.cells (S8 m) 36 (0,0)):=fun w' h=>hM2 (hW▸h);have hE:∀ w',Cl W0 w'→Cl w w':=fun w' h=>hE2 (hW▸h);have z:=Cl.refl W0;have e1:IntKind.i64.wrap (m.to-m.fr)=m.to-m.fr:=g9 zo zo;refine zR ?_;refine b7 _ (N7 (hM _ z)) (zR ?_);refine zC ?_;refine zR ?_;refine b7 _ (O4 (hP _ z) _ zo zo) (zR ?_);refine l8 (P3 _ _ (Pc.lo hp _) (Pc.hi hp _)) (zR ?_);apply E.y6<;>intro h
 ·refine zR ?_;exact ⟨C2 (by unfold Ch.t7;rw [zM h]),hE _ z⟩
 ·have hk:=h;clear h;have hc:Ch.t7 p m=if m.to-m.fr=2 then 1 else if m.to-m.fr=-2 then 2 else 0:=by unfold Ch.t7;rw [zJ (fun hn=>hn hk)]
  refine zR ?_;refine b7 _ (a0w (hM _ z)) (zR ?_);refine b7 _ (N7 (hM _ z)) (zR ?_);simp only [e1];apply E.b9<;>intro h
  ·refine zR ?_;exact ⟨C2 (by rw [hc,zM h]),hE _ z⟩
  ·have h2:=h;clear h;refine zR ?_;apply E.b9<;>intro h
   ·refine zR ?_;exact ⟨C2 (by rw [hc,zJ h2,zM h]),hE _ z⟩
   ·refine zR ?_;exact ⟨C2 (by rw [hc,zJ h2,zJ h]),hE _ z⟩
theorem a4U (p:l9) (hp:Pc p) (m:Mv) (hm:b17 m) (w:World):Calls G.P 59 #[D3 p,mvV m] w (N2 (.bool (Ch.C1 p m)) w):=by
 obtain ⟨⟨a0,a1⟩,⟨b0,b1⟩,d0,d1⟩:=hm;refine zN func59 ?_;refine zG ?_;generalize hW:(w.alloc (.cells (s7 p) 24)).alloc (.cells (S8 m) 36)=W0;have hP:∀ w',Cl W0 w'→w'.heap[w.heap.size]?=some (.cells (s7 p) 24 (0,0)):=fun w' h=>hP2 (hW▸h);have hM:∀ w',Cl W0 w'→w'.heap[(w.alloc (.cells (s7 p) 24)).heap.size]?=some (.cells (S8 m) 36 (0,0)):=fun w' h=>hM2 (hW▸h);have hE:∀ w',Cl W0 w'→Cl w w':=fun w' h=>hE2 (hW▸h);have z:=Cl.refl W0;have e1:m.fr.tmod 8=m.fr%8:=a2W a0;have e2:m.to.tmod 8=m.to%8:=a2W b0;have hT:Ch.C1 p m=(!decide (Ch.sq p m.to=0)||(decide (Ch.d6 (Ch.sq p m.fr)=6) && !decide (m.fr%8=m.to%8))):=rfl
 refine zR ?_;refine b7 _ (a0w (hM _ z)) (zR ?_);refine zC ?_;refine zR ?_;refine b7 _ (O4 (hP _ z) _ zo zo) (zR ?_);apply E.y6<;>intro h
 ·refine zR ?_;exact ⟨o8 (by rw [hT,zV h];simp),hE _ z⟩
 ·have h1:=h;clear h;rw [zX h1] at hT;refine zR ?_;refine b7 _ (N7 (hM _ z)) (zR ?_);refine zC ?_;refine zR ?_;refine b7 _ (O4 (hP _ z) _ zo zo) (zR ?_);refine l8 (P3 _ _ (Pc.lo hp _) (Pc.hi hp _)) (zR ?_);apply E.b9<;>intro h
  ·refine zR ?_;refine b7 _ (N7 (hM _ z)) (zR ?_);refine b7 _ (a0w (hM _ z)) (zR ?_);exact ⟨o8 (by rw [hT,zX h,e1,e2];simp),hE _ z⟩
  ·refine zR ?_;exact ⟨o8 (by rw [hT,zV h];simp),hE _ z⟩
def Nm (p:l9):Prop:=p.half<2305843009213693952∧p.full<2305843009213693952
theorem Nm.nums {p:l9} (h:Nm p):a1A p:=⟨by have:=h.1;omega,by have:=h.2;omega⟩
theorem a9O {p:l9} (hI:Ch.D0 p) (m:Mv):0≤(Ch.made p m).half∧(Ch.made p m).half≤p.half+1:=by
 show 0≤(if Ch.C1 p m||decide (Ch.d6 (Ch.sq p m.fr)=6) then 0 else p.half+1)∧_≤p.half+1
 have:=hI.h0;constructor
 ·split<;>omega
 ·show (if Ch.C1 p m||decide (Ch.d6 (Ch.sq p m.fr)=6) then 0 else p.half+1)≤_
  split<;>omega
theorem a4h {p:l9} (hI:Ch.D0 p) (m:Mv):p.full≤(Ch.made p m).full∧(Ch.made p m).full≤p.full+1:=by
 have e:(Ch.made p m).full=p.full+p.turn:=rfl;have:=hI.turn;omega
theorem Nm.made {p:l9} (h:Nm p) (hI:Ch.D0 p) (m:Mv):a1A (Ch.made p m):=by
 have:=a9O hI m;have:=a4h hI m;have:=h.1;have:=h.2;exact ⟨zo,zo⟩
theorem a0E {p:l9} (hI:Ch.D0 p) {m:Mv} (hm:m∈Ch.A1 p):b17 m:=a6i hI (xW.1 hm).1
theorem a4i (p:l9) (hI:Ch.D0 p) (hN:Nm p) (m:Mv) (hm:m∈Ch.A1 p) (w:World):Calls G.P 65 #[D3 p,mvV m] w (N2 (m9 (Ch.a1Y p m)) w):=by
 have hmo:=a0E hI hm;have hI2:=Ch.D0.made hI hm;have hN2:=hN.made hI m;refine zN func65 ?_;refine zG ?_;generalize hW:(w.alloc (.cells (s7 p) 24)).alloc (.cells (S8 m) 36)=W0;have hP:∀ w',Cl W0 w'→w'.heap[w.heap.size]?=some (.cells (s7 p) 24 (0,0)):=fun w' h=>hP2 (hW▸h);have hM:∀ w',Cl W0 w'→w'.heap[(w.alloc (.cells (s7 p) 24)).heap.size]?=some (.cells (S8 m) 36 (0,0)):=fun w' h=>hM2 (hW▸h);have hE:∀ w',Cl W0 w'→Cl w w':=fun w' h=>hE2 (hW▸h);have z:=Cl.refl W0;obtain ⟨zv,hz,hz69⟩:=a9p;refine zR ?_;refine b7 _ (A3 (hP _ z)) (zR ?_);refine b7 _ (a0f (hM _ z)) (zR ?_);refine o9 (a6b p m hI.pc hmo hI.turn hI.c0 hI.c1 hI.h0 hN.nums.1 (by have:=hI.f1;omega) hN.nums.2 _) fun w1 c1=>zR ?_
 refine v8 zv hz (zR ?_);refine K9 (d9 _ _) (V0 (Ch.made p m)) rfl a0I (A7 _) (one_pos _) (by rw [hz69];omega) (fun w3 u3=>?_)
 have hQ:w3.heap[w1.heap.size]?=some (.cells (s7 (Ch.made p m)) 24 (0,0)):=by
  rw [u3.at_,C6 _ _ (by rw [A7,hz69])];rfl
 have c3:Cl W0 w3:=u3.cl (c1.trans (Cl.alloc _ _)) c1.size;clear u3;have hS:Ch.a1Y p m=if !Ch.o5 (Ch.made p m) then [] else if (Ch.A1 (Ch.made p m)).isEmpty then [35] else [43]:=rfl
 generalize Ch.made p m=q at *;have ht:=hI2.turn;refine zR ?_;refine b7 _ (A3 hQ) (zR ?_);refine o9 (a3Z q hI2.pc _ zo zo) fun w4 c4=>?_;generalize hb:Ch.o5 q=b at *;refine zR ?_;cases b
 ·refine zR ?_;exact ⟨F1 (by rw [hS];rfl),hE _ (c3.trans c4)⟩
 ·refine zR ?_;refine b7 _ (A3 (c4.blk hQ)) (zR ?_);refine o7 (a2V q hI2 hN2 _) ?_;rintro r w5 ⟨v,l,rfl,hlp,hl,c5⟩;refine ⟨_,rfl,?_⟩;obtain ⟨al,cl,rfl,hal⟩:=hl.form;have hlen:=hlp.length_eq;refine zR ?_;apply E.b9<;>intro h
  ·refine zR ?_;exact ⟨F1 (by rw [hS,a05,zX zo];rfl),hE _ (c3.trans (c4.trans c5))⟩
  ·refine zR ?_;exact ⟨F1 (by rw [hS,a05,zV zo];rfl),hE _ (c3.trans (c4.trans c5))⟩
theorem a6p (p:l9) (m:Mv):(Ch.a1Y p m).length≤1:=by
 unfold Ch.a1Y;repeat' split
 all_goals simp
theorem a4j (p:l9) (m:Mv):Ch.a1Y p m=[]↔Ch.o5 (Ch.made p m)=false:=by
 unfold Ch.a1Y;cases Ch.o5 (Ch.made p m)
 ·simp
 ·simp;split<;>simp
theorem c3h (p:l9) (hI:Ch.D0 p) (hN:Nm p) (m:Mv) (hm:m∈Ch.A1 p) (w:World):Calls G.P 93 #[D3 p,mvV m] w (N2 (.int .i64 (Ch.a0W p m)) w):=by
 have hmo:=a0E hI hm;have hI2:=Ch.D0.made hI hm;have hN2:=hN.made hI m;have hmo':=hmo;obtain ⟨⟨a0,a1⟩,⟨b0,b1⟩,d0,d1⟩:=hmo';refine zN func93 ?_;refine zG ?_;generalize hW:(w.alloc (.cells (s7 p) 24)).alloc (.cells (S8 m) 36)=W0;have hP:∀ w',Cl W0 w'→w'.heap[w.heap.size]?=some (.cells (s7 p) 24 (0,0)):=fun w' h=>hP2 (hW▸h);have hM:∀ w',Cl W0 w'→w'.heap[(w.alloc (.cells (s7 p) 24)).heap.size]?=some (.cells (S8 m) 36 (0,0)):=fun w' h=>hM2 (hW▸h);have hE:∀ w',Cl W0 w'→Cl w w':=fun w' h=>hE2 (hW▸h);have z:=Cl.refl W0;have hck:0≤Ch.t7 p m∧Ch.t7 p m≤2:=by unfold Ch.t7;(repeat' split)<;>omega
 have hT:Ch.a0W p m=Ch.t7 p m+(if Ch.sq p m.to≠0 then 4 else if Ch.C1 p m then 8 else 0)+(if Ch.o5 (Ch.made p m) then 16 else 0):=rfl
 refine zR ?_;refine b7 _ (A3 (hP _ z)) (zR ?_);refine b7 _ (a0f (hM _ z)) (zR ?_);refine o9 (a3a p hI.pc m hmo _) fun w1 c1=>?_;generalize Ch.t7 p m=ck at *;refine zG ?_;refine C3 (σ:=Unit) [5,9,10,11,12,13,14,15,16,17,18,19,20,21] 22 (fun _=>[(5,.int .i64 (ck+(if Ch.sq p m.to≠0 then 4 else if Ch.C1 p m then 8 else 0)))]) (fun _ w'=>Cl W0 w') zk ?_ (fun _ j w2 c2=>?_)
 ·refine zR ?_;refine b7 _ (a0w (hM _ c1)) (zR ?_);refine zC ?_;refine zR ?_;refine b7 _ (O4 (hP _ c1) _ zo zo) (zR ?_);apply E.y6<;>intro h
  ·refine zR ?_;exact ⟨(),⟨d8 (by rw [zM h,g9 zo zo]),trivial⟩,c1⟩
  ·refine zR ?_;refine b7 _ (A3 (hP _ c1)) (zR ?_);refine b7 _ (a0f (hM _ c1)) (zR ?_);refine o9 (a4U p hI.pc m hmo _) fun w2 c2=>?_;cases ht:Ch.C1 p m
   ·refine zR ?_;exact ⟨(),⟨d8 (by rw [zJ (fun hn=>hn h)];simp),trivial⟩,c1.trans c2⟩
   ·refine zR ?_;exact ⟨(),⟨d8 (by rw [zJ (fun hn=>hn h),g9 zo zo];simp),trivial⟩,c1.trans c2⟩
 generalize hX:(if Ch.sq p m.to≠0 then 4 else if Ch.C1 p m then 8 else 0:Int)=X at *
 have hXb:0≤X∧X≤8:=by rw [← hX];(repeat' split)<;>omega
 refine zR ?_;refine b7 _ (A3 (hP _ c2)) (zR ?_);refine b7 _ (a0f (hM _ c2)) (zR ?_);refine o9 (a6b p m hI.pc hmo hI.turn hI.c0 hI.c1 hI.h0 hN.nums.1 (by have:=hI.f1;omega) hN.nums.2 _) fun w3 c3=>?_
 have ht:=hI2.turn;refine zR ?_;refine o9 (a3Z _ hI2.pc _ zo zo) fun w4 c4=>?_;cases hb:Ch.o5 (Ch.made p m)
 ·refine zR ?_;exact ⟨C2 (by rw [hT,hb];simp),hE _ (c2.trans (c3.trans c4))⟩
 ·refine zR ?_;exact ⟨C2 (by rw [hT,hb,g9 zo zo];simp),hE _ (c2.trans (c3.trans c4))⟩
def a3E (w:World) (v:Value) (ms:List Mv):Prop:=∃ a c,v = .slice a ms.length c∧(0<ms.length→∃ g o cs t fz,a=some ⟨g,o,none⟩∧w.heap[g]?=some (.cells cs t fz)∧∀ i (h:i<ms.length),o+i*3+3≤cs.size∧cs.extract (o+i*3) (o+i*3+3)=S8 ms[i])
section mvIn
variable {w w':World} {v:Value} {ms:List Mv}
theorem a3E.form (h:a3E w v ms):∃ a c,v = .slice a ms.length c∧(0<ms.length→∃ g o,a=some ⟨g,o,none⟩):=by
 obtain ⟨a,c,e,h⟩:=h;exact ⟨a,c,e,fun h0=>by obtain ⟨g,o,_,_,_,e,_⟩:=h h0;exact ⟨g,o,e⟩⟩
theorem a3E.step (h:a3E w v ms) (hc:Cl w w'):a3E w' v ms:=by
 obtain ⟨a,c,e,h⟩:=h;exact ⟨a,c,e,fun h0=>by obtain ⟨g,o,cs,t,fz,e,hb,h2⟩:=h h0;exact ⟨g,o,cs,t,fz,e,hc.blk hb,h2⟩⟩
theorem a3E.ld {g o n c:Nat} (h:a3E w (.slice (some ⟨g,o,none⟩) n c) ms) (i:Nat) (hi:i<ms.length):g8 G.P w 36 ⟨g,E.J0 o ((i:Int)).toNat 3,none⟩ (mvV ms[i]):=by
 obtain ⟨a,c',e,h⟩:=h;obtain ⟨g',o',cs,t,fz,e2,hb,h2⟩:=h zo;injection e with e1 _ _;rw [e2] at e1;injection e1 with e1;injection e1 with e1 e3 _;subst e1 e3;obtain ⟨h3,h4⟩:=h2 i hi;have:=ldA (t:=36) (o:=o+i*3) (z:=3) hb rfl h3;rw [h4] at this;rw [E.r9,zg];exact this
end mvIn
end
