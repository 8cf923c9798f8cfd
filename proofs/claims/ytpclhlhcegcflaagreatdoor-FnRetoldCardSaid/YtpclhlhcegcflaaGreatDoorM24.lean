/- One part of the proof: Shl2 Pk44 Lid Arg Opn San. -/
import Derived.Shelf.Strings.TrimSpace
import Derived.Shelf.Strconv.Atoi
import Derived.Lib.LaidU8
import Derived.LaidMore
import Derived.OpenShut
import Derived.Handed
import Derived.Deep.Slices
import Derived.ProofKit
import Derived.Test.YtpclhlhcegcflaaGreatDoorM1
import Derived.Test.YtpclhlhcegcflaaGreatDoorM3
import Derived.Test.YtpclhlhcegcflaaGreatDoorM9
import Derived.Test.YtpclhlhcegcflaaGreatDoorM13
import Derived.Test.YtpclhlhcegcflaaGreatDoorM18
import Derived.Test.YtpclhlhcegcflaaGreatDoorM23
namespace Go.Proofs.YtpclhlhcegcflaaGreatDoor
set_option maxRecDepth 100000
set_option linter.unusedSimpArgs false
set_option linter.unusedVariables false
section
open Go.Shelf
def Tryz.lays163_ren:Go.Shelf.Ren:=⟨fun | 163=>189 | 237=>231 | 199=>232 | 238=>233 | 272=>272 | 261=>273 | 273=>274 | 197=>275 | 315=>297 | 311=>298 | 312=>299 | 271=>300 | 260=>301 | 120=>311 | n=>n,fun | 9=>9 | 37=>157 | 3=>3 | 0=>0 | 5=>5 | 4=>4 | 40=>268 | 119=>269 | 21=>21 | 51=>262 | 141=>312 | 105=>314 | 196=>341 | 193=>338 | 198=>343 | 49=>135 | 194=>339 | 201=>346 | 226=>361 | 46=>52 | 227=>362 | 139=>366 | 138=>365 | n=>n,fun | 0=>1 | 6=>7 | 3=>18 | 4=>19 | n=>n⟩
theorem Tryz.lays163:Go.Proofs.Lays.n163 Tryz.prog Tryz.lays163_ren:={
 mixed:=by kernel_rfl
 f120:=Tryz.func311.trans (congrArg some zk)
 f163:=Tryz.func189.trans (congrArg some zk)
 f197:=Tryz.func275.trans (congrArg some zk)
 f199:=Tryz.func232.trans (congrArg some zk)
 f237:=Tryz.func231.trans (congrArg some zk)
 f238:=Tryz.func233.trans (congrArg some zk)
 f260:=Tryz.func301.trans (congrArg some zk)
 f261:=Tryz.func273.trans (congrArg some zk)
 f271:=Tryz.func300.trans (congrArg some zk)
 f272:=Tryz.func272.trans (congrArg some zk)
 f273:=Tryz.func274.trans (congrArg some zk)
 f311:=Tryz.func298.trans (congrArg some zk)
 f312:=Tryz.func299.trans (congrArg some zk)
 f315:=Tryz.func297.trans (congrArg some zk)
 t0:=Tryz.underlying0
 a0:=Tryz.isAgg0
 z0:=Tryz.sizeOf0
 v0:=Tryz.zeroValue0
 t3:=Tryz.underlying3
 a3:=Tryz.isAgg3
 z3:=Tryz.sizeOf3
 v3:=Tryz.zeroValue3
 t4:=Tryz.underlying4
 a4:=Tryz.isAgg4
 z4:=Tryz.sizeOf4
 v4:=Tryz.zeroValue4
 t5:=Tryz.underlying5
 a5:=Tryz.isAgg5
 z5:=Tryz.sizeOf5
 v5:=Tryz.zeroValue5
 t9:=Tryz.underlying9
 a9:=Tryz.isAgg9
 z9:=Tryz.sizeOf9
 v9:=Tryz.zeroValue9
 t21:=Tryz.underlying21
 a21:=Tryz.isAgg21
 z21:=Tryz.sizeOf21
 v21:=Tryz.zeroValue21
 t37:=Tryz.underlying157
 a37:=Tryz.isAgg157
 z37:=Tryz.sizeOf157
 v37:=Tryz.zeroValue157
 t40:=Tryz.underlying268
 a40:=Tryz.isAgg268
 z40:=Tryz.sizeOf268
 v40:=Tryz.zeroValue268
 t46:=Tryz.underlying52
 a46:=Tryz.isAgg52
 z46:=Tryz.sizeOf52
 v46:=Tryz.zeroValue52
 t49:=Tryz.underlying135
 a49:=Tryz.isAgg135
 z49:=Tryz.sizeOf135
 v49:=Tryz.zeroValue135
 t51:=Tryz.underlying262
 a51:=Tryz.isAgg262
 z51:=Tryz.sizeOf262
 v51:=Tryz.zeroValue262
 t105:=Tryz.underlying314
 a105:=Tryz.isAgg314
 z105:=Tryz.sizeOf314
 v105:=Tryz.zeroValue314
 t119:=Tryz.underlying269
 a119:=Tryz.isAgg269
 z119:=Tryz.sizeOf269
 t138:=Tryz.underlying365
 a138:=Tryz.isAgg365
 z138:=Tryz.sizeOf365
 v138:=Tryz.zeroValue365
 t139:=Tryz.underlying366
 a139:=Tryz.isAgg366
 z139:=Tryz.sizeOf366
 v139:=Tryz.zeroValue366
 t141:=Tryz.underlying312
 a141:=Tryz.isAgg312
 z141:=Tryz.sizeOf312
 v141:=Tryz.zeroValue312
 t193:=Tryz.underlying338
 a193:=Tryz.isAgg338
 z193:=Tryz.sizeOf338
 v193:=Tryz.zeroValue338
 t194:=Tryz.underlying339
 a194:=Tryz.isAgg339
 z194:=Tryz.sizeOf339
 v194:=Tryz.zeroValue339
 t196:=Tryz.underlying341
 a196:=Tryz.isAgg341
 z196:=Tryz.sizeOf341
 v196:=Tryz.zeroValue341
 t198:=Tryz.underlying343
 a198:=Tryz.isAgg343
 z198:=Tryz.sizeOf343
 v198:=Tryz.zeroValue343
 t201:=Tryz.underlying346
 a201:=Tryz.isAgg346
 z201:=Tryz.sizeOf346
 v201:=Tryz.zeroValue346
 t226:=Tryz.underlying361
 a226:=Tryz.isAgg361
 z226:=Tryz.sizeOf361
 v226:=Tryz.zeroValue361
 t227:=Tryz.underlying362
 a227:=Tryz.isAgg362
 z227:=Tryz.sizeOf362
 v227:=Tryz.zeroValue362
 g0:=by kernel_rfl
 g3:=by kernel_rfl
 g4:=by kernel_rfl
 g6:=by kernel_rfl }
theorem Tryz.Space_Extra_163:Space.Extra Tryz.prog Tryz.lays163_ren:={
 gNamed:=by kernel_rfl }
open Go.RowKit in
theorem Tryz.strings_TrimSpace (s:ByteArray) (w:World) (hs:s.size≤9223372036854775807) (hascii:∀ (j:Nat) b,s.data.toList[j]?=some b→b.toNat<128) (htab:Lib.TabIs Tryz.prog w "strings.asciiSpace" .u8 Lib.asciiSpaceTab) :
  Calls Tryz.prog 189 #[.string s] w fun e w'=>e = .returned (.string ⟨(Lib.trimSpace s.data.toList).toArray⟩)∧w'=Lib.bytesWorld w 5 s:=Any.strings_TrimSpace Tryz.lays163 Tryz.Space_Extra_163 s w hs hascii htab
def Tryz.lays172_ren:Go.Shelf.Ren:=⟨fun | 172=>195 | 244=>241 | 245=>242 | 247=>278 | 279=>279 | 280=>280 | 281=>281 | 282=>282 | 287=>302 | 316=>303 | 171=>169 | 205=>135 | 321=>312 | 322=>313 | 243=>213 | 246=>261 | 283=>288 | 284=>289 | 285=>290 | 286=>291 | 129=>228 | 317=>305 | 318=>306 | 319=>307 | 320=>308 | 337=>315 | 338=>316 | n=>n,fun | 9=>9 | 3=>3 | 75=>80 | 76=>166 | 4=>4 | 5=>5 | 167=>319 | 37=>157 | 0=>0 | 85=>320 | 2=>2 | 168=>322 | 53=>234 | 175=>348 | 46=>52 | 210=>351 | 127=>221 | 145=>233 | 143=>231 | 21=>21 | 171=>329 | 173=>331 | 212=>354 | 51=>262 | 20=>20 | 213=>355 | 232=>373 | 233=>374 | 80=>109 | n=>n,fun | 15=>14 | 16=>15 | 17=>16 | 18=>20 | 19=>21 | n=>n⟩
theorem Tryz.lays172:Go.Proofs.Lays.n172 Tryz.prog Tryz.lays172_ren:={
 mixed:=by kernel_rfl
 f129:=Tryz.func228.trans (congrArg some zk)
 f171:=Tryz.func169.trans (congrArg some zk)
 f172:=Tryz.func195.trans (congrArg some zk)
 f205:=Tryz.func135.trans (congrArg some zk)
 f243:=Tryz.func213.trans (congrArg some zk)
 f244:=Tryz.func241.trans (congrArg some zk)
 f245:=Tryz.func242.trans (congrArg some zk)
 f246:=Tryz.func261.trans (congrArg some zk)
 f247:=Tryz.func278.trans (congrArg some zk)
 f279:=Tryz.func279.trans (congrArg some zk)
 f280:=Tryz.func280.trans (congrArg some zk)
 f281:=Tryz.func281.trans (congrArg some zk)
 f282:=Tryz.func282.trans (congrArg some zk)
 f283:=Tryz.func288.trans (congrArg some zk)
 f284:=Tryz.func289.trans (congrArg some zk)
 f285:=Tryz.func290.trans (congrArg some zk)
 f286:=Tryz.func291.trans (congrArg some zk)
 f287:=Tryz.func302.trans (congrArg some zk)
 f316:=Tryz.func303.trans (congrArg some zk)
 f317:=Tryz.func305.trans (congrArg some zk)
 f318:=Tryz.func306.trans (congrArg some zk)
 f319:=Tryz.func307.trans (congrArg some zk)
 f320:=Tryz.func308.trans (congrArg some zk)
 f321:=Tryz.func312.trans (congrArg some zk)
 f322:=Tryz.func313.trans (congrArg some zk)
 f337:=Tryz.func315.trans (congrArg some zk)
 f338:=Tryz.func316.trans (congrArg some zk)
 t0:=Tryz.underlying0
 a0:=Tryz.isAgg0
 z0:=Tryz.sizeOf0
 v0:=Tryz.zeroValue0
 t2:=Tryz.underlying2
 a2:=Tryz.isAgg2
 z2:=Tryz.sizeOf2
 v2:=Tryz.zeroValue2
 t3:=Tryz.underlying3
 a3:=Tryz.isAgg3
 z3:=Tryz.sizeOf3
 v3:=Tryz.zeroValue3
 t4:=Tryz.underlying4
 a4:=Tryz.isAgg4
 z4:=Tryz.sizeOf4
 v4:=Tryz.zeroValue4
 t5:=Tryz.underlying5
 a5:=Tryz.isAgg5
 z5:=Tryz.sizeOf5
 v5:=Tryz.zeroValue5
 t9:=Tryz.underlying9
 a9:=Tryz.isAgg9
 z9:=Tryz.sizeOf9
 v9:=Tryz.zeroValue9
 t20:=Tryz.underlying20
 a20:=Tryz.isAgg20
 z20:=Tryz.sizeOf20
 v20:=Tryz.zeroValue20
 t21:=Tryz.underlying21
 a21:=Tryz.isAgg21
 z21:=Tryz.sizeOf21
 v21:=Tryz.zeroValue21
 t37:=Tryz.underlying157
 a37:=Tryz.isAgg157
 z37:=Tryz.sizeOf157
 v37:=Tryz.zeroValue157
 t46:=Tryz.underlying52
 a46:=Tryz.isAgg52
 z46:=Tryz.sizeOf52
 v46:=Tryz.zeroValue52
 t51:=Tryz.underlying262
 a51:=Tryz.isAgg262
 z51:=Tryz.sizeOf262
 v51:=Tryz.zeroValue262
 t53:=Tryz.underlying234
 a53:=Tryz.isAgg234
 z53:=Tryz.sizeOf234
 v53:=Tryz.zeroValue234
 t75:=Tryz.underlying80
 a75:=Tryz.isAgg80
 z75:=Tryz.sizeOf80
 v75:=Tryz.zeroValue80
 t76:=Tryz.underlying166
 a76:=Tryz.isAgg166
 z76:=Tryz.sizeOf166
 v76:=Tryz.zeroValue166
 t85:=Tryz.underlying320
 a85:=Tryz.isAgg320
 z85:=Tryz.sizeOf320
 v85:=Tryz.zeroValue320
 t127:=Tryz.underlying221
 a127:=Tryz.isAgg221
 z127:=Tryz.sizeOf221
 v127:=Tryz.zeroValue221
 t143:=Tryz.underlying231
 a143:=Tryz.isAgg231
 z143:=Tryz.sizeOf231
 v143:=Tryz.zeroValue231
 t145:=Tryz.underlying233
 a145:=Tryz.isAgg233
 z145:=Tryz.sizeOf233
 v145:=Tryz.zeroValue233
 t167:=Tryz.underlying319
 a167:=Tryz.isAgg319
 z167:=Tryz.sizeOf319
 v167:=Tryz.zeroValue319
 t168:=Tryz.underlying322
 a168:=Tryz.isAgg322
 z168:=Tryz.sizeOf322
 v168:=Tryz.zeroValue322
 t171:=Tryz.underlying329
 a171:=Tryz.isAgg329
 z171:=Tryz.sizeOf329
 v171:=Tryz.zeroValue329
 t173:=Tryz.underlying331
 a173:=Tryz.isAgg331
 z173:=Tryz.sizeOf331
 v173:=Tryz.zeroValue331
 t175:=Tryz.underlying348
 a175:=Tryz.isAgg348
 z175:=Tryz.sizeOf348
 v175:=Tryz.zeroValue348
 t210:=Tryz.underlying351
 a210:=Tryz.isAgg351
 z210:=Tryz.sizeOf351
 v210:=Tryz.zeroValue351
 t212:=Tryz.underlying354
 a212:=Tryz.isAgg354
 z212:=Tryz.sizeOf354
 v212:=Tryz.zeroValue354
 t213:=Tryz.underlying355
 a213:=Tryz.isAgg355
 z213:=Tryz.sizeOf355
 t232:=Tryz.underlying373
 a232:=Tryz.isAgg373
 z232:=Tryz.sizeOf373
 v232:=Tryz.zeroValue373
 t233:=Tryz.underlying374
 a233:=Tryz.isAgg374
 z233:=Tryz.sizeOf374
 v233:=Tryz.zeroValue374
 g15:=by kernel_rfl
 g16:=by kernel_rfl
 g17:=by kernel_rfl
 g18:=by kernel_rfl
 g19:=by kernel_rfl }
open Go.RowKit in
theorem Tryz.strconv_Atoi (s:ByteArray) (n:Int) (hl:s.size≤18) (h:Lib.atoi s.data.toList=some n) (w:World) :
  Calls Tryz.prog 195 #[.string s] w fun e w'=>e = .returned (.tuple #[.int .i64 n,.nilIface])∧∃ t,w'=Lib.bytesWorld w 5 t:=Any.strconv_Atoi Tryz.lays172 s n hl h w
end
section
open Go Go.RowKit
open E
open Ch Bb
theorem Cl.bytes (w:World) (e:Nat) (s:ByteArray):Cl w (Lib.bytesWorld w e s):=⟨rfl,rfl,rfl,by rw [Lib.bytesWorld_size];omega,fun k hk=>Lib.bytesWorld_at_old w e s k hk⟩
def Spc (w:World):Prop:=Lib.TabIs G.P w "strings.asciiSpace" .u8 Lib.asciiSpaceTab
theorem Spc.cl {w w':World} (h:Spc w) (c:Cl w w'):Spc w':=by
 unfold Spc Lib.TabIs World.var? at *;cases hg:G.P.globalNamed "strings.asciiSpace" with
 | none=>rw [hg] at h;cases h
 | some g =>
  rw [hg] at h;simp only [Option.bind_some] at h ⊢;cases hb:w.heap[g]? with
  | none=>rw [hb] at h;cases h
  | some o =>
   rw [c.blk hb];rw [hb] at h;exact h
theorem a6f:∀ (a:Tx) (acc:Nat) (b:Tx),Lib.decFrom acc (a++b)=(Lib.decFrom acc a).bind fun x=>Lib.decFrom x b
 | [],_,_=>rfl
 | x::r,acc,b=>by
  rw [List.cons_append,Lib.decFrom,Lib.decFrom];cases Lib.digitVal x with
  | none=>rfl
  | some d=>exact a6f r _ b
theorem a6g:∀ k,k<10→Lib.digitVal (UInt8.ofNat (48+k))=some k:=by decide
theorem a6h (n:Nat):Lib.decFrom 0 (dec n)=some n:=by
 induction n using Nat.strongRecOn with
 | _ n ih =>
  unfold dec;by_cases h:n<10
  ·rw [dif_pos h,Lib.decFrom,a6g n h];simp [Lib.decFrom]
  ·rw [dif_neg h,a6f,ih (n/10) zo,Option.bind_some,Lib.decFrom,a6g (n%10) zo];simp only [Lib.decFrom];congr 1;omega
theorem b1s (n:Nat):∃ b r,dec n=b::r:=by
 cases h:dec n with
 | nil=>have:=a6h n;unfold dec at h;split at h<;>simp at h
 | cons b r=>exact ⟨b,r,rfl⟩
theorem b7f (n:Nat):Lib.atoi (dec n)=some (n:Int):=by
 obtain ⟨b,r,e⟩:=b1s n;obtain ⟨k,hk,hb⟩:=a6F n b (by rw [e];exact List.mem_cons_self)
 have h1:∀ k,k<10→(UInt8.ofNat (48+k)==45)=false∧(UInt8.ofNat (48+k)==43)=false:=by decide
 have hn:Lib.decNat (dec n)=some n:=by unfold Lib.decNat;rw [if_neg (by rw [e];simp)];exact a6h n
 rw [e] at hn ⊢;unfold Lib.atoi;rw [hb] at hn ⊢;simp only [(h1 k hk).1,(h1 k hk).2,hn];rfl
theorem b7g (n:Nat) (hn:n<10000000) (w:World):Calls G.P 195 #[s8 (dec n)] w (K4 (.tuple #[.int .i64 n,.nilIface]) w):=by
 have hl:=a2t 7 n zd zo;refine (Tryz.strconv_Atoi (tx (dec n)) n (by rw [C9];omega) (by show Lib.atoi ((dec n).toArray.toList)=_;exact b7f n) w).mono ?_
 rintro r w' ⟨h1,t,h2⟩;exact ⟨h1,by rw [h2];exact Cl.bytes w _ t⟩
theorem b7h {c:UInt8} (h:b2D c):Lib.isSp c=false:=by
 have h49:49≤c.toNat:=by
  rcases h with h | ⟨x,h0,h1,h⟩
  ·exact h.1
  ·rcases (by omega:x=1∨x=2∨x=3∨x=4∨x=5∨x=6∨x=7∨x=8∨x=9∨x=10∨x=11∨x=12) with rfl | rfl | rfl | rfl | rfl | rfl | rfl | rfl | rfl | rfl | rfl | rfl<;>(injection h with h _;subst h;decide)
 unfold Lib.isSp;have:∀ k:UInt8,k.toNat<49→(c==k)=false:=fun k hk=>by
  rw [beq_eq_false_iff_ne];intro e;rw [e] at h49;omega
 rw [this 9 zd,this 10 zd,this 11 zd,this 12 zd,this 13 zd,this 32 zd];rfl
theorem b8Z {a:UInt8} {r l:Tx} {b:UInt8} (h:a::r=l++[b]) (ha:Lib.isSp a=false) (hb:Lib.isSp b=false):Lib.trimSpace (a::r)=a::r:=by
 unfold Lib.trimSpace;rw [List.dropWhile_cons,if_neg (by rw [ha];decide),h,List.reverse_append,List.reverse_singleton,List.singleton_append,List.dropWhile_cons,if_neg (by rw [hb];decide)]
 simp
theorem c0X (p:A3) (hp:∀ i:Int,0≤sq p i∧sq p i≤12) (r:Nat):∃ c t,a3g p r=c::t:=by
 cases h:a3g p r with
 | nil=>have:=a9M hp r;rw [h] at this;cases this
 | cons c t=>exact ⟨c,t,rfl⟩
theorem b7i {p:A3} (hp:∀ i:Int,0≤sq p i∧sq p i≤12):Lib.trimSpace (fenT p)=fenT p:=by
 obtain ⟨c,t,e⟩:=c0X p hp 7;have hc:b2D c:=b6Y (fun f=>sq p (8*((7:Nat):Int)+f)) 8 0 0 zo c (by show c∈a3g p 7;rw [e];exact List.mem_cons_self)
 have e1:fenT p=c::(t++[47]++boardT p 7++[32]++a5Z p.turn++[32]++castT p.castle++[32]++epT p.ep++[32]++dec p.half.toNat++[32]++dec p.full.toNat):=by
  have:boardT p 8=a3g p 7++[47]++boardT p 7:=rfl;unfold fenT;rw [this,e];simp
 obtain ⟨x,r,e2⟩:=b1s p.full.toNat;have hne:dec p.full.toNat≠[]:=by rw [e2];simp
 have hl:=List.dropLast_concat_getLast hne;obtain ⟨k,hk,hk2⟩:=a6F p.full.toNat _ (List.getLast_mem hne);have h3:∀ k,k<10→Lib.isSp (UInt8.ofNat (48+k))=false:=by decide
 have e4:fenT p=(boardT p 8++[32]++a5Z p.turn++[32]++castT p.castle++[32]++epT p.ep++[32]++dec p.half.toNat++[32]++(dec p.full.toNat).dropLast)++[(dec p.full.toNat).getLast hne]:=by
  rw [List.append_assoc _ (dec p.full.toNat).dropLast,hl];rfl
 rw [e1];exact b8Z (e1.symm.trans e4) (b7h hc) (by rw [hk2];exact h3 k hk)
theorem b4Y {p:A3} (hp:∀ i:Int,0≤sq p i∧sq p i≤12):∀ c∈fenT p,c.toNat<128:=by
 have hdec:∀ n,∀ c∈dec n,c.toNat<128:=fun n c hc=>by
  obtain ⟨k,hk,rfl⟩:=a6F n c hc;have:∀ k,k<10→(UInt8.ofNat (48+k)).toNat<128:=by decide
  exact this k hk
 have hrow:∀ c,b2D c→c.toNat<128:=fun c h=>by
  rcases a7O h with h | h
  ·omega
  ·exact h.2.1
 have hboard:∀ r,∀ c∈boardT p r,c.toNat<128:=by
  intro r
  induction r with
  | zero=>intro c hc;cases hc
  | succ r ih =>
   intro c hc;rw [boardT] at hc;rcases List.mem_append.1 hc with hc | hc
   ·rcases List.mem_append.1 hc with hc | hc
    ·exact hrow c (b6Y _ 8 0 0 zo c hc)
    ·split at hc
     ·cases hc
     ·rw [List.mem_singleton.1 hc];decide
   ·exact ih c hc
 have h32:∀ c∈([32]:Tx),c.toNat<128:=by decide
 have hturn:∀ c∈a5Z p.turn,c.toNat<128:=by unfold a5Z;split<;>decide
 have hcast:∀ c∈castT p.castle,c.toNat<128:=by
  have:∀ a b c d:Bool,∀ x∈(let t:Tx:=(if a then [75] else [])++(if b then [81] else [])++(if c then [107] else [])++(if d then [113] else []);if t.isEmpty then [45] else t),x.toNat<128:=by decide
  exact this _ _ _ _
 have hep:∀ c∈epT p.ep,c.toNat<128:=by
  unfold epT;split
  ·rename_i h;have:∀ k,k<64→∀ c∈A7 ((k:Nat):Int)++F7 ((k:Nat):Int),c.toNat<128:=by decide
   have h2:=this p.ep.toNat zo
   rwa [Int.toNat_of_nonneg h.1] at h2
  ·decide
 intro c hc;unfold fenT at hc;simp only [List.mem_append] at hc;rcases hc with (((((((((h | h) | h) | h) | h) | h) | h) | h) | h) | h) | h
 ·exact hboard _ c h
 ·exact h32 c h
 ·exact hturn c h
 ·exact h32 c h
 ·exact hcast c h
 ·exact h32 c h
 ·exact hep c h
 ·exact h32 c h
 ·exact hdec _ c h
 ·exact h32 c h
 ·exact hdec _ c h
theorem b4Z {p:A3} (hp:∀ i:Int,0≤sq p i∧sq p i≤12) (hl:(fenT p).length≤100000) (w:World) (hs:Spc w):Calls G.P 189 #[s8 (fenT p)] w (K4 (s8 (fenT p)) w):=by
 refine (Tryz.strings_TrimSpace (tx (fenT p)) w (by rw [C9];omega) (fun j b hb=>?_) hs).mono ?_
 ·have hb:(fenT p)[j]?=some b:=hb;exact b4Y hp b (List.mem_of_getElem? hb)
 ·rintro r w' ⟨h1,h2⟩;refine ⟨?_,by rw [h2];exact Cl.bytes w _ _⟩
  rw [h1];show Ending.returned (.string ⟨(Lib.trimSpace (fenT p)).toArray⟩)=_;rw [b7i hp];rfl
def b3T (P:Program):Nat→Nat→Bool
 | 0,_=>true
 | d+1,e=>match P.underlying e with
  | some (.struct fs)=>fs.all fun f=>b3T P d f.type
  | some (.array _ _)=>false
  | _=>true
theorem b5a {P:Program} {fits:TypeId→Bool}:∀ (d e n off:Nat),b3T P d e=true→2≤n→rowAt P fits d e 1 off n=false:=by
 intro d
 induction d with
 | zero=>intro e n off _ _;rfl
 | succ d ih =>
  intro e n off h hn;unfold b3T at h;unfold rowAt;simp only
  split
  ·rfl
  rw [Bool.or_eq_false_iff];constructor
  ·rw [decide_eq_false (show ¬ off/P.cellsOf e+n≤1 by generalize off/P.cellsOf e=q;omega)];simp
  ·rw [Bool.and_eq_false_iff];right;split at h
   ·rename_i fs hu;simp only [hu];rw [Bool.and_eq_false_iff];right;rw [Array.any_eq_false];intro i hi hc;rw [Array.all_eq_true] at h;have:=ih fs[i].type n (off%P.cellsOf e-fs[i].offset) (h i hi) hn;rw [this] at hc;simp at hc
   ·cases h
   ·rename_i h1 h2;split
    ·rename_i fs hu;exact absurd hu (h1 fs)
    ·rename_i m e' hu;exact absurd hu (h2 m e')
    ·rfl
def a6i (P:Program) (fits:TypeId→Bool):Nat→Nat→Bool
 | 0,_=>true
 | d+1,e=>!fits e&&match P.underlying e with
  | some (.struct fs)=>fs.all fun f=>b3T P d f.type
  | some (.array _ _)=>false
  | _=>true
theorem b5b {P:Program} {fits:TypeId→Bool} (d e n c off:Nat) (h:a6i P fits d e=true) (hn:2≤n):rowAt P fits d e c off n=false:=by
 cases d with
 | zero=>rfl
 | succ d =>
  unfold a6i at h;rw [Bool.and_eq_true] at h;obtain ⟨h0,h⟩:=h;have h0:fits e=false:=by simpa using h0
  unfold rowAt;simp only
  split
  ·rfl
  rw [Bool.or_eq_false_iff];constructor
  ·rw [h0];simp
  ·rw [Bool.and_eq_false_iff];right;split at h
   ·rename_i fs hu;simp only [hu];rw [Bool.and_eq_false_iff];right;rw [Array.any_eq_false];intro i hi hc;rw [Array.all_eq_true] at h;have:=b5a (fits:=fits) d fs[i].type n (off%P.cellsOf e-fs[i].offset) (h i hi) hn;rw [this] at hc;simp at hc
   ·cases h
   ·rename_i h1 h2;split
    ·rename_i fs hu;exact absurd hu (h1 fs)
    ·rename_i m e' hu;exact absurd hu (h2 m e')
    ·rfl
theorem b2K {P:Program} (D e u n c off:Nat) (h:a6i P (fun t=>sameLayout P P.depth t u) P.depth e=true) (hu:∀ m u',P.underlying u≠some (.array m u')) (hn:2≤n):liesAt P D e c off u n=false:=by
 cases D with
 | zero=>rfl
 | succ D =>
  unfold liesAt;rw [b5b _ _ _ _ _ h hn,Bool.false_or];split
  ·rename_i m u' he;exact absurd he (hu m u')
  ·rfl
theorem b7j {W:World} (hS:W.ShapedOpen G.P) {g ty:Nat} (hlt:g<G.P.globals.size) (h0:(((begin G.P (fun _ _=>0) default).world.heap[g]?).bind Obj.row?).map (·.2)=some ty) :
  ∃ cs,W.heap[g]?=some (.cells cs ty (0,0))∧(G.P.buildable ty=true→Row.ok G.P W .any 0 ty cs):=by
 cases h1:((begin G.P (fun _ _=>0) default).world.heap[g]?).bind Obj.row? with
 | none=>rw [h1] at h0;cases h0
 | some x =>
  obtain ⟨zero,t⟩:=x;rw [h1] at h0;obtain rfl:t=ty:=Option.some.inj h0;obtain ⟨cs,h2,_,h3⟩:=hS.1 g zero t hlt h1;exact ⟨cs,h2,h3⟩
theorem b7k {W:World} {name:String} {g ty:Nat} {cs cs':Array Value} (hg:G.P.globalNamed name=some g) (hb:W.heap[g]?=some (.cells cs ty (0,0))) (hv:W.var? G.P name=some cs'):cs'=cs:=by
 unfold World.var? at hv;rw [hg] at hv;simp only [Option.bind_some,hb] at hv;exact (Option.some.inj hv).symm
theorem a0O {W:World} (hS:W.ShapedOpen G.P) {name:String} {g t n e ty:Nat} {k:IntKind} {z:Nat→Int} (hg:G.P.globalNamed name=some g) (hlt:g<G.P.globals.size) (h0:(((begin G.P (fun _ _=>0) default).world.heap[g]?).bind Obj.row?).map (·.2)=some ty)
  (hf:a1J ty=true) (hty:(G.P.globals[g]?).map (·.type)=some t) (ht:G.P.underlying t=some (.array n e)) (he:G.P.underlying e=some (.int k)) (hce:G.P.cellsOf e=1) (hct:G.P.cellsOf t=n)
  (hr:Lib.VarReads G.P W name (Lib.tabData k ((List.range n).map z))):Y2 W g n (fun i=>.int k (z i)):=by
 obtain ⟨g',t',cs',fuel,p,hg',ht',hv,hd⟩:=hr;obtain rfl:=Option.some.inj (hg.symm.trans hg');obtain rfl:=Option.some.inj (hty.symm.trans ht');obtain ⟨cs,hb,_⟩:=b7j hS hlt h0;have e1:=Lib.cells_of_tab ht he hce hct hd;rw [b7k hg hb hv] at e1;refine ⟨cs,ty,_,hb,hf,fun i hi=>?_⟩;have e2:cs.toList[i]?=some (Value.int k (z i)):=by
  rw [e1];simp [List.getElem?_map,List.getElem?_range hi]
 simpa using e2
theorem b1t {W:World} {name:String} {g t n e:Nat} {k:IntKind} {zs:List Int} (hg:G.P.globalNamed name=some g) (hty:(G.P.globals[g]?).map (·.type)=some t) (ht:G.P.underlying t=some (.array n e)) (he:G.P.underlying e=some (.int k)) (hce:G.P.cellsOf e=1) (hct:G.P.cellsOf t=n)
  (hr:Lib.VarReads G.P W name (Lib.tabData k zs)):Lib.TabIs G.P W name k zs:=by
 obtain ⟨g',t',cs',fuel,p,hg',ht',hv,hd⟩:=hr;obtain rfl:=Option.some.inj (hg.symm.trans hg');obtain rfl:=Option.some.inj (hty.symm.trans ht');unfold Lib.TabIs;rw [hv,← Lib.cells_of_tab ht he hce hct hd]
theorem b3U {W:World} (hS:W.ShapedOpen G.P) {name:String} {g t n e ty:Nat} {k:IntKind} {z:Nat→Int} (hg:G.P.globalNamed name=some g) (hlt:g<G.P.globals.size) (h0:(((begin G.P (fun _ _=>0) default).world.heap[g]?).bind Obj.row?).map (·.2)=some ty)
  (hf:a1J ty=true) (hbu:G.P.buildable ty=true) (hct:G.P.cellTypes G.P.depth ty=some [t]) (hty:(G.P.globals[g]?).map (·.type)=some t) (ht:G.P.underlying t=some (.slice e)) (he:G.P.underlying e=some (.int k)) (hce:G.P.cellsOf e=1)
  (hn:2≤n) (hno:∀ row,a1J row=false→a6i G.P (fun t=>sameLayout G.P G.P.depth t e) G.P.depth row=true)
  (hr:Lib.VarReads G.P W name (.slice ((List.range n).map fun i=>.lit (.int k (z i))) [])):a6r W g n (fun i=>.int k (z i)):=by
 obtain ⟨g',t',cs',fuel,p,hg',ht',hv,hd⟩:=hr;obtain rfl:=Option.some.inj (hg.symm.trans hg');obtain rfl:=Option.some.inj (hty.symm.trans ht');obtain ⟨cs,hb,hok⟩:=b7j hS hlt h0;rw [b7k hg hb hv] at hd;obtain ⟨a,cap,e1,hcap,hcells⟩:=open_row ht hce hd;have hl:((List.range n).map fun i=>(DataW.lit (.int k (z i)):DataW Unit)).length=n:=by simp
 rw [hl] at e1 hcap;have e2:cs=#[.slice (some a) n cap]:=by rw [← Array.toList_inj];exact e1
 subst e2;obtain ⟨ts,hts,_,hall⟩:=hok hbu;obtain rfl:=Option.some.inj (hct.symm.trans hts);obtain ⟨u,hu,hc⟩:=hall 0 _ rfl;obtain rfl:t=u:=Option.some.inj hu;unfold Cell.ok at hc;rw [ht] at hc;obtain ⟨_,_,_,hsp,row,cells,hsh,hlie⟩:=hc;obtain ⟨b,o,sp⟩:=a;have hsp:sp=none:=hsp;subst hsp;unfold World.shape? at hsh;have hcell0:=hcells;cases hbb:W.heap[b]? with
 | none=>simp only [hbb] at hsh;cases hsh
 | some ob =>
  cases ob with
  | cells cs2 el fz =>
   simp only [hbb] at hsh;obtain ⟨rfl,rfl⟩:=Prod.mk.inj (Option.some.inj hsh);refine ⟨b,o,cap,⟨_,_,_,hb,hf,fun i hi=>?_⟩,cs2,el,fz,hbb,?_,fun i hi=>?_⟩
   ·obtain rfl:i=0:=by omega
    rfl
   ·cases hfx:a1J el with
    | true=>rfl
    | false =>
     have hu:∀ m u',G.P.underlying e≠some (.array m u'):=fun m u' h=>by rw [he] at h;cases h
     rw [b2K _ _ _ _ _ _ (hno el hfx) hu zo] at hlie;cases hlie
   ·obtain ⟨v,m,q,hv1,hv2⟩:=hcells i (.lit (.int k (z i))) (by simp [List.getElem?_map,List.getElem?_range hi])
    obtain ⟨z',h3,h4,_⟩:=DataW.trod_int he hv2;injection h3 with h3;injection h4 with h4;injection h4 with h4;injection h4 with _ h4;rw [G8] at hv1;unfold World.cell? at hv1;simp only [hbb] at hv1;rw [h3,← h4] at hv1;simpa using hv1
  | _=>simp only [hbb] at hsh;cases hsh
theorem c2q (P:Nat→Prop) (h0:P 173) (h1:P 237) (h2:P 141) (h3:P 131):∀ row,a1J row=false→P row:=by
 intro row h;unfold a1J at h;have h:(Nat.beq row 173||Nat.beq row 237||Nat.beq row 141||Nat.beq row 131)=true:=by
  revert h;generalize (Nat.beq row 173||Nat.beq row 237||Nat.beq row 141||Nat.beq row 131)=q
  cases q<;>decide
 simp only [Bool.or_eq_true] at h;rcases h with ((h | h) | h) | h
 ·obtain rfl:=Nat.eq_of_beq_eq_true h;exact h0
 ·obtain rfl:=Nat.eq_of_beq_eq_true h;exact h1
 ·obtain rfl:=Nat.eq_of_beq_eq_true h;exact h2
 ·obtain rfl:=Nat.eq_of_beq_eq_true h;exact h3
theorem c2r:∀ row,a1J row=false→a6i G.P (fun t=>sameLayout G.P G.P.depth t 194) G.P.depth row=true :=
 c2q (fun row=>a6i G.P (fun t=>sameLayout G.P G.P.depth t 194) G.P.depth row=true) zk zk zk zk
theorem c2s:∀ row,a1J row=false→a6i G.P (fun t=>sameLayout G.P G.P.depth t 139) G.P.depth row=true :=
 c2q (fun row=>a6i G.P (fun t=>sameLayout G.P G.P.depth t 139) G.P.depth row=true) zk zk zk zk
theorem b5c {W:World} (hS:W.ShapedOpen G.P) {l:List (String×DataW Unit)} (h:laidMet G.P l W)
  (dia:("pub-tabiya/pub/chess.bbDiagonals",Lib.tabData .u64 ((List.range 64).map fun i=>((Bb.mask 2 i:Nat):Int)))∈l)
  (anti:("pub-tabiya/pub/chess.bbAntiDiagonals",Lib.tabData .u64 ((List.range 64).map fun i=>((Bb.mask 3 i:Nat):Int)))∈l)
  (ranks:("pub-tabiya/pub/chess.bbRanks",Lib.tabData .u64 ((List.range 8).map fun i=>((Bb.mask 0 (8*i):Nat):Int)))∈l)
  (files:("pub-tabiya/pub/chess.bbFiles",Lib.tabData .u64 ((List.range 8).map fun i=>((Bb.mask 1 i:Nat):Int)))∈l)
  (kn:("pub-tabiya/pub/chess.bbKnightMoves",Lib.tabData .u64 ((List.range 64).map fun i=>((Ch.kn i:Nat):Int)))∈l)
  (kg:("pub-tabiya/pub/chess.bbKingMoves",Lib.tabData .u64 ((List.range 64).map fun i=>((Ch.kg i:Nat):Int)))∈l)
  (all:("pub-tabiya/pub/chess.allPieces",.slice ((List.range 12).map fun (i:Nat)=>.lit (.int .i8 ((i:Int)+1))) [])∈l)
  (promo:("pub-tabiya/pub/chess.promoPieceTypes",.slice ((List.range 4).map fun (i:Nat)=>.lit (.int .i8 ((i:Int)+2))) [])∈l)
  (wfen:("pub-tabiya/pub/chess.whitePiecesToFEN",Lib.tabData .u8 ((List.range 7).map fun i=>((wfenL.getD i 0:Nat):Int)))∈l)
  (bfen:("pub-tabiya/pub/chess.blackPiecesToFEN",Lib.tabData .u8 ((List.range 7).map fun i=>((bfenL.getD i 0:Nat):Int)))∈l)
  (fen:("pub-tabiya/pub/chess.fenCharToPiece",Lib.tabData .i8 ((List.range 128).map fun i=>(a28 i)))∈l)
  (spc:("strings.asciiSpace",Lib.tabData .u8 Lib.asciiSpaceTab)∈l) (pow:("internal/strconv.uint64pow10",Lib.tabData .u64 Lib.pow10Tab)∈l):C1 W∧Spc W∧Pow W:=by
 refine ⟨⟨?_,?_,?_,?_,?_,?_,?_,?_,?_,?_,?_⟩,?_,?_⟩
 ·exact a0O hS (ty:=282) (t:=282) (e:=235) zk (Nat.le_of_ble_eq_true zk) zk rfl zk zk zk zk zk (Lib.laidMet.reads h dia)
 ·exact a0O hS (ty:=282) (t:=282) (e:=235) zk (Nat.le_of_ble_eq_true zk) zk rfl zk zk zk zk zk (Lib.laidMet.reads h anti)
 ·exact a0O hS (ty:=326) (t:=326) (e:=235) zk (Nat.le_of_ble_eq_true zk) zk rfl zk zk zk zk zk (Lib.laidMet.reads h ranks)
 ·exact a0O hS (ty:=326) (t:=326) (e:=235) zk (Nat.le_of_ble_eq_true zk) zk rfl zk zk zk zk zk (Lib.laidMet.reads h files)
 ·exact a0O hS (ty:=282) (t:=282) (e:=235) zk (Nat.le_of_ble_eq_true zk) zk rfl zk zk zk zk zk (Lib.laidMet.reads h kn)
 ·exact a0O hS (ty:=282) (t:=282) (e:=235) zk (Nat.le_of_ble_eq_true zk) zk rfl zk zk zk zk zk (Lib.laidMet.reads h kg)
 ·exact b3U hS (ty:=243) (t:=243) (e:=194) zk (Nat.le_of_ble_eq_true zk) zk rfl zk zk zk zk zk zk zd c2r (Lib.laidMet.reads h all)
 ·exact b3U hS (ty:=291) (t:=291) (e:=139) zk (Nat.le_of_ble_eq_true zk) zk rfl zk zk zk zk zk zk zd c2s (Lib.laidMet.reads h promo)
 ·exact a0O hS (ty:=300) (t:=300) (e:=5) zk (Nat.le_of_ble_eq_true zk) zk rfl zk zk zk zk zk (Lib.laidMet.reads h wfen)
 ·exact a0O hS (ty:=300) (t:=300) (e:=5) zk (Nat.le_of_ble_eq_true zk) zk rfl zk zk zk zk zk (Lib.laidMet.reads h bfen)
 ·exact a0O hS (ty:=316) (t:=316) (e:=194) zk (Nat.le_of_ble_eq_true zk) zk rfl zk zk zk zk zk (Lib.laidMet.reads h fen)
 ·exact b1t (g:=1) (t:=269) (n:=256) (e:=5) zk zk zk zk zk zk (Lib.laidMet.reads h spc)
 ·exact b1t (g:=16) (t:=354) (n:=20) (e:=234) zk zk zk zk zk zk (Lib.laidMet.reads h pow)
theorem a8f {H:Type} {enc:TypeId×Value→H} {a:Assume} {C:Checked} {os:Os} {f:FuncId} {fn:Func} {s:ChangeSpec} {conds:List PathCond} {apart fresh handsOn again:Bool} {X:World→Array Value→Prop}
  (hX:∀ (w w':World) (args:Array Value),w.heap=w'.heap→X w args→X w' args)
  (own:ownKnob C.prog.godebug=none) (started:os.Started) (noInit:C.prog.inits.idxOf? f=none) (hfn:C.prog.funcs[f]?=some fn)
  (witness:∃ (w:World) (tape:Tape) (i:Input),w.os=os∧(w.forCall tape i).Shaped C.prog∧i.vars=[]∧Input.okWide C.prog (w.forCall tape i) .any w.heap.size f i ∧
   ((s.pre enc C.prog fn conds apart (w.forCall tape i).memory i.args∧X (w.forCall tape i).memory i.args)∧sizedMet enc C.prog fn (OpenSpec.ofChange s) apart (w.forCall tape i).memory i.args)∧a.holds C.prog (lone (Frame.enter C.prog f i.args .normal) [] (w.forCall tape i)))
  (contract:∀ (W:World) (base:Nat) (args:Array Value) (ds gs:List (DataW H)) (before:List MemPlace),W.ShapedOpen C.prog →
   (∀ (j:Nat) t v,fn.params[j]?=some t→args[j]?=some v→Value.okWide C.prog W .any base t v) →
   DataW.Whole enc C.prog fn.params.toList s.vars apart W args.toList ds gs before→X W args →
   Calls C.prog f args W fun e W'=>∃ v,e = .returned v∧s.post enc C.prog fn apart fresh handsOn again W args v W') :
  ReturnsInHanded a C os f .any (fun w args=>(s.pre enc C.prog fn conds apart w args∧X w args)∧sizedMet enc C.prog fn (OpenSpec.ofChange s) apart w args) (s.post enc C.prog fn apart fresh handsOn again):=by
 refine returnsInHanded_of_calls own started noInit witness ?_;intro w tape i _ hsh _ hok hpre _;obtain ⟨_,_,_,fn',hfn',_,_,_,_,hval⟩:=hok;have e:fn'=fn:=Option.some.inj (hfn'.symm.trans hfn);subst e;obtain ⟨⟨⟨ds,gs,before,hw,_⟩,hx⟩,_⟩:=hpre;have hw':=DataW.Whole.of_heap (w':=w.forCall tape i) (by rfl) hw
 refine (contract (w.forCall tape i) w.heap.size i.args ds gs before hsh hval hw' (hX _ _ _ (by rfl) hx)).mono fun e W' ⟨v,he,hp⟩=>?_
 subst he;exact ChangeSpec.post_blind hp
end
section
open Go Go.RowKit Go.Deep Go.ChangeShapes Go.WideShapes
open E
theorem a8U {W:World} {r:Reach} {b t:Nat} {k:IntKind} {v:Value} (ht:G.P.underlying t=some (.int k)) (h:Cell.okWide G.P W r b t v):∃ n,v = .int k n∧k.has n:=by
 unfold Cell.okWide Cell.ok at h;cases v<;>simp [ht] at h;rename_i k' n;obtain ⟨rfl,h⟩:=h;exact ⟨n,rfl,h⟩
theorem b9a {l:List Value} {k:IntKind}:(∀ (i:Nat) (v:Value),l[i]?=some v→∃ n,v=Value.int k n)→∃ zs:List Int,l=zs.map (Value.int k):=by
 induction l with
 | nil=>intro _;exact ⟨[],rfl⟩
 | cons v r ih =>
  intro h;obtain ⟨n,rfl⟩:=h 0 v rfl;obtain ⟨zs,rfl⟩:=ih (fun i v hv=>h (i+1) v (by simpa using hv))
  exact ⟨n::zs,rfl⟩
theorem b9b {n:Int} (h:IntKind.i64.has n):I64 n:=by
 have e1:IntKind.i64.min=-9223372036854775808:=by decide
 have e2:IntKind.i64.max=9223372036854775807:=by decide
 obtain ⟨h1,h2⟩:=h;rw [e1] at h1;rw [e2] at h2;exact ⟨h1,h2⟩
theorem b9c {zs:List Int} (h:zs.length=69):∃ s:A3,(zs.map (Value.int .i64)).toArray=o9 s:=by
 refine ⟨{ board:=zs.take 64,len:=by simp [h],turn:=zs.getD 64 0,castle:=zs.getD 65 0,ep:=zs.getD 66 0,half:=zs.getD 67 0,full:=zs.getD 68 0 },?_⟩
 unfold o9 X0;congr 1;have:zs=zs.take 64++[zs.getD 64 0,zs.getD 65 0,zs.getD 66 0,zs.getD 67 0,zs.getD 68 0]:=by
  apply List.ext_getElem
  ·simp [h]
  ·intro i h1 h2;by_cases hi:i<64
   ·rw [List.getElem_append_left (by simp [h];exact hi)]
    simp
   ·rw [List.getElem_append_right (by simp [h];omega)]
    have hh:(zs.take 64).length=64:=by simp [h]
    simp only [hh];have:i=64∨i=65∨i=66∨i=67∨i=68:=by omega
    rcases this with rfl | rfl | rfl | rfl | rfl<;>simp [List.getD_eq_getElem?_getD,h1]
 conv=>lhs;rw [this]
 rw [List.map_append];rfl
theorem b7l {W:World} {r:Reach} {b:Nat} {v:Value} (h:Value.okWide G.P W r b 24 v):∃ s:A3,v=C4 s:=by
 obtain ⟨f,hu,_⟩:=a0m (G.tab 24 _ (show P1 G.T 24=some (.struct 69 _) from rfl));unfold Value.okWide at h;rw [hu] at h;obtain ⟨cs,rfl,hs,ts,hts,_,hall⟩:=h;have e1:G.P.cellTypes G.P.depth 24=some (List.replicate 69 3):=by kernel_rfl
 obtain rfl:=Option.some.inj (e1.symm.trans hts);have e2:G.P.cellsOf 24=69:=by kernel_rfl
 have e3:G.P.underlying 3=some (.int .i64):=by kernel_rfl
 rw [e2] at hs;obtain ⟨zs,hz⟩:=b9a (l:=cs.toList) (k:=.i64) (fun i v hv=>by
  obtain ⟨u,hu,hc⟩:=hall i v (by simpa using hv)
  rw [List.getElem?_replicate] at hu;split at hu
  ·obtain rfl:=Option.some.inj hu;obtain ⟨n,h1,_⟩:=a8U e3 hc;exact ⟨n,h1⟩
  ·cases hu)
 obtain ⟨s,hs2⟩:=b9c (zs:=zs) (by have:=congrArg List.length hz;simpa [hs] using this.symm)
 refine ⟨s,?_⟩;unfold C4;rw [← hs2,← hz]
theorem c0Y {n:Int} (h:(Lit.int .i64 n).wf=true):I64 n:=by
 have e1:IntKind.i64.min=-9223372036854775808:=by decide
 have e2:IntKind.i64.max=9223372036854775807:=by decide
 simp [Lit.wf,e1,e2] at h;exact ⟨zo,zo⟩
theorem b2L {H:Type} {enc:TypeId×Value→H} {W:World} {b base:Nat} {sp:Nat→Bool} {hd:Bool} {v:Value} {d:DataW H} {ps:List MemPlace} (h:Value.okWide G.P W .any b 25 v) (hr:DataW.Trod enc G.P W base sp hd 25 v d ps) :
  ∃ ms:List Mv,a2a W v ms∧∀ m∈ms,MvR m:=by
 have e1:G.P.underlying 25=some (.slice 36):=by kernel_rfl
 have e2:G.P.cellsOf 36=3:=by kernel_rfl
 have e3:G.P.underlying 3=some (.int .i64):=by kernel_rfl
 have e4:G.P.cellsOf 3=1:=by kernel_rfl
 obtain ⟨f,hu,_,hf,_⟩:=a0m (G.tab 36 _ (show P1 G.T 36=some (.struct 3 _) from rfl));have hf2:f.toList.map (fun x=>(x.type,x.offset))=[(3,0),(3,1),(3,2)]:=hf;have hfs:f.size=3:=by have:=congrArg List.length hf2;simpa using this
 have hfi:∀ i (hi:i<3),f[i].type=3∧f[i].offset=i:=fun i hi=>by
  have:=congrArg (fun l=>l[i]?) hf2;simp only [List.getElem?_map] at this;rw [List.getElem?_eq_getElem (by simp [hfs];exact hi)] at this
  simp only [Option.map_some,Array.getElem_toList] at this;have h3:i=0∨i=1∨i=2:=by omega
  rcases h3 with rfl | rfl | rfl<;>simpa using this
 obtain ⟨fuel,hr⟩:=hr;unfold Value.okWide at h;rw [e1] at h;have hv:∃ oa len cap,v = .slice oa len cap:=by
  unfold Cell.okWide Cell.ok at h;cases v<;>simp [e1] at h;exact ⟨_,_,_,rfl⟩
 obtain ⟨oa,len,cap,rfl⟩:=hv;rcases open_slice e1 hr with ⟨h1,_⟩ | ⟨a,len',cap',m,n,D,Pl,h1,_,hl,hm,hmm,_,hx⟩
 ·obtain ⟨rfl,rfl,rfl⟩:oa=none∧len=0∧cap=0:=by simpa [Value.cells] using h1
  exact ⟨[],⟨none,0,rfl,fun h=>absurd h zd⟩,fun m hm=>by cases hm⟩
 ·obtain ⟨rfl,rfl,rfl⟩:oa=some a∧len=len'∧cap=cap':=by simpa [Value.cells] using h1
  unfold Cell.okWide Cell.ok at h;rw [e1] at h;obtain ⟨_,_,_,hsp,row,cells,hsh,_⟩:=h;obtain ⟨g,o,spo⟩:=a;obtain rfl:spo=none:=hsp;unfold World.shape? at hsh;cases hbb:W.heap[g]? with
  | none=>simp only [hbb] at hsh;cases hsh
  | some ob =>
   cases ob with
   | cells cs2 el fz =>
    have hlm:len≤m:=by rw [hmm];split<;>omega
    have key:∀ i,i<len→∃ mv:Mv,MvR mv∧o+i*3+3≤cs2.size∧cs2.extract (o+i*3) (o+i*3+3)=K2 mv:=by
     intro i hi;obtain ⟨cs',hc1,hc2⟩:=hx i zo;obtain ⟨_,hlen,hcell⟩:=World.cells?_some hc1;rw [e2] at hlen hcell;obtain ⟨xs,n',_,_,_,hxl,hall⟩:=DataW.trod_struct hu hc2;have hz:∀ j,j<3→∃ z,cs2[o+i*3+j]?=some (Value.int .i64 z)∧I64 z:=by
      intro j hj;obtain ⟨t1,t2⟩:=hfi j hj;have h2:=hall j f[j] (by simp [hfs,hj])
      rw [t1,t2,e4,List.getElem?_eq_getElem zo] at h2;obtain ⟨z,h3,_,h4⟩:=DataW.trod_int e3 h2;have h5:cs'[j]?=some (Value.int .i64 z):=by
       have:=congrArg (·[0]?) h3;simpa [List.getElem?_take,List.getElem?_drop] using this
      have h6:=hcell j hj;rw [h5,G8,G8] at h6;unfold World.cell? at h6;simp only [hbb] at h6;exact ⟨z,by simpa using h6,c0Y h4⟩
     obtain ⟨z0,p0,r0⟩:=hz 0 zd;obtain ⟨z1,p1,r1⟩:=hz 1 zd;obtain ⟨z2,p2,r2⟩:=hz 2 zd;have hsz:=(Array.getElem?_eq_some_iff.1 p2).1;refine ⟨⟨z0,z1,z2⟩,⟨r0,r1,r2⟩,zo,?_⟩;apply Array.ext
     ·simp [K2];omega
     ·intro j h1 h2;have h3:j=0∨j=1∨j=2:=by simp [K2] at h2;omega
      rw [Array.getElem_extract];rcases h3 with rfl | rfl | rfl
      ·exact (Array.getElem?_eq_some_iff.1 p0).2
      ·exact (Array.getElem?_eq_some_iff.1 p1).2
      ·exact (Array.getElem?_eq_some_iff.1 p2).2
    have:Inhabited Mv:=⟨⟨0,0,0⟩⟩;obtain ⟨F,hF⟩:=choose_lt key;refine ⟨(List.range len).map F,⟨some ⟨g,o,none⟩,cap,by simp,fun _=>⟨g,o,cs2,el,fz,rfl,hbb,fun i hi=>?_⟩⟩,fun mv hmv=>?_⟩
    ·have hi2:i<len:=by simpa using hi
     obtain ⟨_,h7,h8⟩:=hF i hi2;exact ⟨h7,by simpa using h8⟩
    ·obtain ⟨i,hi,rfl⟩:=List.mem_map.1 hmv;exact (hF i (List.mem_range.1 hi)).1
   | _=>simp only [hbb] at hsh;cases hsh
theorem c3E {W:World} {r:Reach} {b:Nat} {v:Value} (h:Value.okWide G.P W r b 3 v):∃ n,v = .int .i64 n∧I64 n:=by
 have e3:G.P.underlying 3=some (.int .i64):=by kernel_rfl
 unfold Value.okWide at h;rw [e3] at h;obtain ⟨n,h1,h2⟩:=a8U e3 h;exact ⟨n,h1,b9b h2⟩
end
section
namespace Ch
def X5 (s:Tx) (c:UInt8):Bool:=s.contains c
theorem b5s {s:Tx} {c:UInt8}:X5 s c=true↔c∈s:=List.contains_iff_mem
def inS (t:Tx) (i:Nat) (s:Tx):Bool:=match t[i]? with
 | some c=>X5 s c
 | none=>false
def oneN (t:Tx) (i:Nat) (s:Tx):Nat:=if inS t i s then 1 else 0
def X6:Tx:=[82,78,66,81,75,80]
def a4q:Tx:=[97,98,99,100,101,102,103,104]
def a00:Tx:=[48,49,50,51,52,53,54,55,56,57]
def c3v:Tx:=[43,35,33,63]
def epS:Tx:=[101,46,112,46]
def c3X:Tx:=[81,82,66,78]
def ooS:Tx:=[79,45,79]
def oooS:Tx:=[79,45,79,45,79]
def a1K:Tx→Bool
 | []=>true
 | c::r=>if X5 c3v c then a1K r else if (c::r).take 4=epS then a1K (r.drop 3) else false
 termination_by t=>t.length
 decreasing_by all_goals (simp only [List.length_cons,List.length_drop];omega)
structure X1 where
 pc:Tx
 fo:Tx
 ro:Tx
 ca:Tx
 fi:Tx
 ra:Tx
 pr:Tx
 cs:Tx
def a9I {α:Type} (f:Nat→Option α):Nat→Option α
 | 0=>none
 | n+1=>match f n with
  | some x=>some x
  | none=>a9I f n
def a5L (t:Tx) (i j:Nat):Tx:=(t.drop i).take (j-i)
def c4z (t:Tx) (a b c d k:Nat):X1 :=
 ⟨a5L t 0 a,a5L t a (a+b),a5L t (a+b) (a+b+c),a5L t (a+b+c) (a+b+c+d),a5L t (a+b+c+d) (a+b+c+d+1),a5L t (a+b+c+d+1) (a+b+c+d+2),a5L t (a+b+c+d+2) (a+b+c+d+2+2*k),[]⟩
def c40 (t:Tx) (a b c d k:Nat):Option X1:=if a1K (t.drop (a+b+c+d+2+2*k)) then some (c4z t a b c d k) else none
def c3f (t:Tx) (at_:Nat):Bool:=inS t (at_+2) [61]&&inS t (at_+3) c3X
def c41 (t:Tx) (a b c d:Nat):Option X1 :=
 if inS t (a+b+c+d) a4q&&inS t (a+b+c+d+1) a00 then a9I (c40 t a b c d) (if c3f t (a+b+c+d) then 2 else 1) else none
def c4O (t:Tx) (a b c:Nat):Option X1:=a9I (c41 t a b c) (oneN t (a+b+c) [120]+1)
def c4P (t:Tx) (a b:Nat):Option X1:=a9I (c4O t a b) (oneN t (a+b) a00+1)
def c4Q (t:Tx) (a:Nat):Option X1:=a9I (c4P t a) (oneN t a a4q+1)
def b5t (t:Tx):Option X1:=a9I (c4Q t) (oneN t 0 X6+1)
def b9D (o:Tx):X1:=⟨[],[],[],[],[],[],[],o⟩
def zzP (t:Tx):Option X1:=match b5t t with
 | some q=>some q
 | none=>if t.take 5=oooS∧a1K (t.drop 5)=true then some (b9D oooS) else if t.take 3=ooS∧a1K (t.drop 3)=true then some (b9D ooS) else none
def a5d (q:X1):Tx:=q.pc++q.fo++q.ro++q.ca++q.fi++q.ra++q.pr++q.cs
def a9R (q:X1):List Tx :=
 if q.pc≠[] then [q.pc++q.ca++q.fi++q.ra++q.pr++q.cs,q.pc++q.ro++q.ca++q.fi++q.ra++q.pr++q.cs,q.pc++q.fo++q.ca++q.fi++q.ra++q.pr++q.cs]
 else (if q.ca≠[] then [q.fo++q.ca++q.fi++q.ra++q.pr] else [])++(if q.fo≠[]∧q.ro≠[] then [q.ca++q.fi++q.ra++q.pr] else [])
def fits (q:X1) (t:Tx):Prop:=a5d q=t∨t∈a9R q
instance (q:X1) (t:Tx):Decidable (fits q t):=by unfold fits;infer_instance
structure b3J (c:UInt8):Prop where
 l:X5 X6 c=false
 f:X5 a4q c=true
 d:X5 a00 c=false
 x:X5 [120] c=false
 e:X5 [61] c=false
 m:X5 [45] c=false
structure c3Y (c:UInt8):Prop where
 l:X5 X6 c=false
 f:X5 a4q c=false
 d:X5 a00 c=true
 x:X5 [120] c=false
 e:X5 [61] c=false
 m:X5 [45] c=false
theorem c42:∀ k:Nat,k<8→b3J (UInt8.ofNat (97+k)):=by
 intro k hk;rcases (by omega:k=0∨k=1∨k=2∨k=3∨k=4∨k=5∨k=6∨k=7) with rfl | rfl | rfl | rfl | rfl | rfl | rfl | rfl<;>exact ⟨zd,zd,zd,zd,zd,zd⟩
theorem c4R:∀ k:Nat,k<8→c3Y (UInt8.ofNat (49+k)):=by
 intro k hk;rcases (by omega:k=0∨k=1∨k=2∨k=3∨k=4∨k=5∨k=6∨k=7) with rfl | rfl | rfl | rfl | rfl | rfl | rfl | rfl<;>exact ⟨zd,zd,zd,zd,zd,zd⟩
theorem b5u (s:Int):∃ c,A7 s=[c]∧b3J c:=⟨_,rfl,c42 _ zo⟩
theorem c19 {s:Int} (h0:0≤s) (h1:s≤63):∃ c,F7 s=[c]∧c3Y c:=⟨_,rfl,c4R _ zo⟩
theorem c3w {a b:Nat} (ha:a<256) (hb:b<256) (h:UInt8.ofNat a=UInt8.ofNat b):a=b:=by
 have:=congrArg UInt8.toNat h;rw [UInt8.toNat_ofNat_of_lt' ha,UInt8.toNat_ofNat_of_lt' hb] at this;exact this
theorem c0n {a b:Int} (h:A7 a=A7 b):a%8=b%8:=by
 have:=c3w zo zo (List.cons.inj h).1;omega
theorem c3g {a b:Int} (a0:0≤a) (a1:a≤63) (b0:0≤b) (b1:b≤63) (h:F7 a=F7 b):a/8=b/8:=by
 have:=c3w zo zo (List.cons.inj h).1;omega
@[simp] theorem c3F (c:UInt8) (t s:Tx):inS (c::t) 0 s=X5 s c:=rfl
@[simp] theorem c6i (c:UInt8) (t s:Tx) (i:Nat):inS (c::t) (i+1) s=inS t i s:=rfl
@[simp] theorem c60 (s:Tx) (i:Nat):inS [] i s=false:=rfl
theorem b1F:a1K []=true:=by rw [a1K]
structure c6j (t:Tx):Prop where
 x:inS t 0 [120]=false
 e:inS t 0 [61]=false
 m:inS t 0 [45]=false
 d:inS t 0 a00=false
 fd:(inS t 0 a4q&&inS t 1 a00)=false
 l:inS t 0 X6=false
theorem c4S:∀ c∈c3v,X5 [120] c=false∧X5 [61] c=false∧X5 [45] c=false∧X5 a00 c=false∧X5 a4q c=false∧X5 X6 c=false:=by decide
theorem c5J {t:Tx} (h:a1K t=true):c6j t:=by
 cases t with
 | nil=>exact ⟨rfl,rfl,rfl,rfl,rfl,rfl⟩
 | cons c r =>
  rw [a1K] at h;by_cases hs:X5 c3v c=true
  ·obtain ⟨a1,a2,a3,a4,a5,a6⟩:=c4S c (b5s.1 hs);exact ⟨a1,a2,a3,a4,by rw [c3F,a5];rfl,a6⟩
  ·rw [if_neg hs] at h;by_cases h4:(c::r).take 4=epS
   ·rw [List.take_succ_cons] at h4;obtain ⟨e1,e2⟩:=List.cons.inj h4;subst e1;refine ⟨rfl,rfl,rfl,rfl,?_,rfl⟩;cases r with
    | nil=>cases e2
    | cons c2 r2 =>
     rw [List.take_succ_cons] at e2;have:=(List.cons.inj e2).1;subst this;rfl
   ·rw [if_neg h4] at h;cases h
theorem c4l {o1 o2 o3 x pr sg:Tx} {f r:UInt8} (h1:o1=[]∨∃ c,o1=[c]∧X5 X6 c=true) (h2:o2=[]∨∃ c,o2=[c]∧b3J c) (h3:o3=[]∨∃ c,o3=[c]∧c3Y c) (hx:x=[]∨x=[120]) (hf:b3J f) (hr:c3Y r) (hp:pr=[]∨∃ c,pr=[61,c]∧X5 c3X c=true) (hs:a1K sg=true) :
  zzP (o1++o2++o3++x++[f]++[r]++pr++sg)=some ⟨o1,o2,o3,x,[f],[r],pr,[]⟩:=by
 obtain ⟨x1,x2,x3,x4,x5,x6⟩:=c5J hs;have hff:=hf.f;have hfl:=hf.l;have hfd:=hf.d;have hfx:=hf.x;have hfe:=hf.e;have hrf:=hr.f;have hrl:=hr.l;have hrd:=hr.d;have hrx:=hr.x;have hre:=hr.e;have k1:X5 a4q 120=false:=by decide
 have k2:X5 a00 120=false:=by decide
 have k3:X5 X6 120=false:=by decide
 have k4:X5 a4q 61=false:=by decide
 have k5:X5 a00 61=false:=by decide
 have k7:X5 [120] 120=true:=by decide
 have k8:X5 [61] 61=true:=by decide
 have k9:X5 [120] 61=false:=by decide
 have k10:X5 [61] 120=false:=by decide
 have k6:∀ c,X5 X6 c=true→X5 a4q c=false∧X5 a00 c=false∧X5 [120] c=false:=by
  intro c hc;have:∀ c∈X6,X5 a4q c=false∧X5 a00 c=false∧X5 [120] c=false:=by decide
  exact this c (b5s.1 hc)
 have hz:∀ q,b5t (o1++o2++o3++x++[f]++[r]++pr++sg)=some q→zzP (o1++o2++o3++x++[f]++[r]++pr++sg)=some q:=fun q h=>by unfold zzP;rw [h]
 apply hz;clear hz;have h1':o1=[]∨∃ c,o1=[c]∧X5 X6 c=true∧X5 a4q c=false∧X5 a00 c=false∧X5 [120] c=false:=h1.imp id fun ⟨c,e,h⟩=>⟨c,e,h,k6 c h⟩;have h2':o2=[]∨∃ c,o2=[c]∧X5 a4q c=true∧X5 X6 c=false∧X5 a00 c=false∧X5 [120] c=false:=h2.imp id fun ⟨c,e,h⟩=>⟨c,e,h.f,h.l,h.d,h.x⟩;have h3':o3=[]∨∃ c,o3=[c]∧X5 a4q c=false∧X5 X6 c=false∧X5 a00 c=true∧X5 [120] c=false:=h3.imp id fun ⟨c,e,h⟩=>⟨c,e,h.f,h.l,h.d,h.x⟩;clear h1 h2 h3 hf hr;rcases h1' with rfl | ⟨c1,rfl,y1,y2,y3,y4⟩<;>rcases h2' with rfl | ⟨c2,rfl,z1,z2,z3,z4⟩<;>rcases h3' with rfl | ⟨c3,rfl,v1,v2,v3,v4⟩<;>rcases hx with rfl | rfl<;>rcases hp with rfl | ⟨c4,rfl,hc4⟩<;>simp [b5t,c4Q,c4P,c4O,c41,c40,a9I,oneN,c3f,c4z,a5L, *]
end Ch
end
end Go.Proofs.YtpclhlhcegcflaaGreatDoor
