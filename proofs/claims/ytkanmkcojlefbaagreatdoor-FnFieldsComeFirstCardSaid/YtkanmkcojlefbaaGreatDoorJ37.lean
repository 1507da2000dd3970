/-
  headerOf (38): its third part where there are no records, and the whole · What a header that goes out is to a Reader: its blocks, as next wants them · What a header of PAX or GNU that goes out is to a Reader · What a header of GNU that goes out is to a Reader; what any header that goes out is to a Reader · A header of the implementation (type 26), loaded and stored whole.
-/
import Derived.Test.YtkanmkcojlefbaaGreatDoorJ33
import Derived.Test.YtkanmkcojlefbaaGreatDoorJ34
import Derived.Test.YtkanmkcojlefbaaGreatDoorJ36
import Derived.Test.YtkanmkcojlefbaaGreatDoorJ21
import Derived.Test.YtkanmkcojlefbaaGreatDoorJ27
import Derived.Test.YtkanmkcojlefbaaGreatDoorJ28
import Derived.Test.YtkanmkcojlefbaaGreatDoorJ08
set_option linter.unusedVariables false
namespace Go.Proofs.YtkanmkcojlefbaaGreatDoor
open Go.RowKit
set_option maxRecDepth 100000 in
set_option maxHeartbeats 4000000 in
theorem headerOf_3n (hp ro ob:Nat) (th:TH) (A B:List Value) (w:World) (h18:th.recs=.map none) (hh:HdrB hp th w) (ho:OutB ob A B (.slice none 0 0) w) (Z:Array Value) (hZ:w.heap[ro]? =some (.cells Z 26 (0,0))) (hZs:Z.size=21) (hno:ro≠ob) (hB:B.length=1) (hA1:∀v∈A,v.oneCell'=true) (hB1:∀v∈B,v.oneCell'=true) (Qp:Ending→World→Prop) (hfin:∀(wr:World),Chg [ro,ob] w wr→Qp (.returned (.agg (A++.slice none 0 0::B).toArray)) wr)
  {u10 u11 u12 u13 u14 u15 u16 u17 u18 u19 u20 u21 u22 u23 u24 u25 u26 u27 u28 u29 u30 u31 u32 u33 u34 u35 u36 u37 u38 u39 u40 u41 u42 u43 u44 u45 u46 u47 u48 u49 u50 u51 u52 u53 u54 u55 u56 u57 u58 u59 u60 u61 u62 u63 u64 u65 u66 u67 u68 u69 u70 u71 u72 u73 u74 u75 u76 u77 u78 u79 u80 u81 u82 u83 u84 u85 u86 u87 u88 u89 u90 u91 u92 u144:Value}:Code.wp Tryz.prog (dropSeq 5 (Tryz.f38.body.getD .skip)) (bodyPost Tryz.prog Tryz.f38 Qp) ⟨#[.pointer (some ⟨hp,0,none⟩),undef,.pointer (some ⟨ro,0,none⟩),.pointer (some ⟨ob,0,none⟩),undef,undef,undef,.pointer (some ⟨hp,0,none⟩),.bool false,undef,u10,u11,u12,u13,u14,u15,u16,u17,u18,u19,u20,u21,u22,u23,u24,u25,u26,u27,u28,u29,u30,u31,u32,u33,u34,u35,u36,u37,u38,u39,u40,u41,u42,u43,u44,u45,u46,u47,u48,u49,u50,u51,u52,u53,u54,u55,u56,u57,u58,u59,u60,u61,u62,u63,u64,u65,u66,u67,u68,u69,u70,u71,u72,u73,u74,u75,u76,u77,u78,u79,u80,u81,u82,u83,u84,u85,u86,u87,u88,u89,u90,u91,u92,undef,undef,undef,undef,undef,undef,undef,undef,undef,undef,undef,undef,undef,undef,undef,undef,undef,undef,undef,undef,undef,undef,undef,undef,undef,undef,undef,undef,undef,undef,undef,undef,undef,undef,undef,undef,undef,undef,undef,undef,undef,undef,undef,undef,undef,undef,undef,undef,undef,undef,undef,u144],[]⟩ w:=by
 have c18:w.cell? ⟨hp,18,none⟩=some (.map none):=by rw [hh.c 18 _ rfl,h18]
 have hr0:=run_range_nilMap (P:=Tryz.prog) w 127 9 9 u127
 have hn0:=run_next_nilMap (P:=Tryz.prog) w 0 0 0 #[]
 have hcw:Chg [] w (w.alloc (.mapIter none 0 #[] 0)):=(Chg.refl _ w).alloc _
 have ho1:=ho.chg hcw (by simp)
 have hz1:=hcw.heap hZ (by simp)
 have hs26:∀x:Value,(Tryz.prog.info? 26).map (·.size)=some (A++x::B).toArray.size:=fun x=>by rw [show (A++x::B).toArray.size=21 by simp [ho.2,hB]];exact s26
 have HO:=Lib.hid ho1;have HZ:=Lib.hid hz1;have HFIN:=Lib.hid hfin;have HC:=Lib.hid hcw
 clear hh ho hZ hcw h18 ho1 hz1 hfin
 conv=>arg 2;whnf
 dsimp only
 go_wp2
 generalize w.alloc (.mapIter none 0 #[] 0)=w1 at*
 refine wp_loop_rounds 1 ?_
 rw [rounds_succ]
 go_upto_region 17 with (fail)
 refine wp_region_lit ?_
 refine wpList_load_row rfl 26 (.tmp 3) rfl ob rfl 26 _ (0,0) _ HO.out.1 Tryz.underlying26 rfl (hs26 _) ?_
 refine wpList_store_row rfl 26 (.tmp 2) (.tmp 144) rfl ro _ rfl rfl 26 Z HZ.out (hs26 _) (by rw [hZs];simp [HO.out.2,hB]) (HO.out.one hA1 hB1) ?_
 go_wp2
 refine bodyPost_ret (results_cell_row rfl _ _ ro _ _ _ _ rfl (setRow_heap _ _ _ _ _ _ HZ.out) Tryz.underlying26 rfl (hs26 _)) rfl ?_
 exact HFIN.out _ ((HC.out.mono (by simp)).setRow (.inl (by simp)) _)
def outOf (th:TH) (za zc:Bool) (fv:Int) (a:Option Addr) (n c:Nat):SH:=
 ⟨th.tf,th.name,th.link,th.size,th.mode,th.uid,th.gid,th.un,th.gn,th.ms,th.mn,!za,!zc,if za=true then 0 else th.ats,if za=true then 0 else th.atn,if zc=true then 0 else th.cts,if zc=true then 0 else th.ctn,th.dj,th.dn,a,n,c,fv⟩
def RecsM (th:TH) (w:World) (F:KV):Prop:=(th.recs=.map none∧∀k,F k=none)∨∃mb n,th.recs=.map (some mb)∧MapS mb n F w
theorem headerOf_any (hp:Nat) (th:TH) (F:KV) (ks:List ByteArray) (w:World) (h:HdrB hp th w) (hT:TimOk th) (hR:RecsM th w F) (hks:∀k v,F k=some v→k∈ks) (hkl:ks.length≤1048576) :
  Calls Tryz.prog 38 #[.pointer (some ⟨hp,0,none⟩)] w fun e w'=>∃fv a c l,e=.returned (.agg (outOf th (decide (th.ats=-62135596800∧th.atn=0)) (decide (th.cts=-62135596800∧th.ctn=0)) fv a (l:List (ByteArray×ByteArray)).length c).icells)∧RecsIn a l.length c l w'∧(∀ad:Addr,a=some ad→w.heap.size≤ad.block)∧l.length≤1048576∧(∀k v,k.size≤maxLen→((k,v)∈l↔F k=some v))∧Chg [] w w':=by
 generalize hza:decide (th.ats=-62135596800∧th.atn=0)=za
 generalize hzc:decide (th.cts=-62135596800∧th.ctn=0)=zc
 have hpl:=(Array.getElem?_eq_some_iff.1 h).1
 refine headerOf_1 hp th w h hT za zc hza hzc _ ?_
 intro ob fv w1
 intros
 rename_i hob hro hobv hh1 hc1
 refine headerOf_2 hp w.heap.size ob th za zc fv w1 hT.a hT.c (by omega) (by omega) hro hobv hh1 _ ?_
 intro w2
 intros
 rename_i hro2 hob2 hh2 hc2
 have hA:OutB ob [.int .u8 th.tf.toNat,.string th.name,.string th.link,.int .i64 th.size,.int .i64 th.mode,.int .i64 th.uid,.int .i64 th.gid,.string th.un,.string th.gn,.int .i64 th.ms,.int .i64 th.mn,.bool (!za),.int .i64 (if za=true then 0 else th.ats),.int .i64 (if za=true then (0:Int) else (th.atn:Int)),.bool (!zc),.int .i64 (if zc=true then 0 else th.cts),.int .i64 (if zc=true then (0:Int) else (th.ctn:Int)),.int .i64 th.dj,.int .i64 th.dn] [.int .i64 fv] (.slice none 0 0) w2:=⟨hob2,rfl⟩
 have hobs:ob < w2.heap.size:=(Array.getElem?_eq_some_iff.1 hob2).1
 have hsz2:w1.heap.size≤w2.heap.size:=hc2.size
 have hsz1:w.heap.size≤w1.heap.size:=hc1.size
 have hfr:∀wr,Chg [w.heap.size,ob] w2 wr→Chg [] w wr:=fun wr k=>
  (((hc1.mono (S':= [w.heap.size,ob]) (by simp)).trans (hc2.mono (by simp))).trans k).fresh (by
   intro j hj
   simp only [List.mem_cons,List.not_mem_nil,or_false] at hj
   exact .inr (by omega))
 rcases hR with ⟨hn,hF⟩ | ⟨mb,n,hm,hM⟩
 ·refine headerOf_3n hp w.heap.size ob th _ _ w2 hn hh2 hA _ hro2 rfl (by omega) rfl (by simp [Value.oneCell']) (by simp [Value.oneCell']) _ ?_
  intro wr k
  refine ⟨fv,none,0,[],rfl,⟨rfl,Nat.le_refl _,Nat.zero_le _,.inl rfl⟩,(fun ad e=>by cases e),Nat.zero_le _,?_,hfr wr k⟩
  intro k v _
  rw [hF k]
  simp
 ·have hM2:MapS mb n F w2:=((hM.chg hc1 (by simp)).chg hc2 (by have:=hM.lt;simp;omega))
  refine headerOf_3 hp w.heap.size ob mb n th F _ _ ks w2 hM2 hm hh2 hA (by have:=hM.lt;omega) (by omega) hks hkl _ hro2 rfl (by omega) rfl (by simp [Value.oneCell']) (by simp [Value.oneCell']) _ ?_
  intro a c L wr hr hfa hll hl k
  exact ⟨fv,a,c,L,rfl,hr,(fun ad e=>by have:=hfa ad e;omega),hll,hl,hfr wr k⟩
end Go.Proofs.YtkanmkcojlefbaaGreatDoor
namespace Go.Proofs.YtkanmkcojlefbaaGreatDoor
open Go.RowKit
theorem ba_toList (s:ByteArray):(⟨s.data.toList.toArray⟩:ByteArray)=s:=by simp
theorem strOf_txt {n:Nat} {s:ByteArray} (h0:has s.data.toList 0=false) (hs:s.size≤n):strOf (txt n s)=s:=by
 unfold strOf
 rw [cstr_txt n s (has_false.1 h0) hs,ba_toList]
theorem strOf_zero {n:Nat} (h:1≤n):strOf (List.replicate n 0)=⟨#[]⟩:=by
 unfold strOf
 obtain ⟨m,rfl⟩:∃m,n=m+1:=⟨n - 1,by omega⟩
 rw [List.replicate_succ,show cstr ((0:UInt8)::List.replicate m 0)= [] from cstr_some [] _ (by simp)]
theorem joinP_nil (s:ByteArray):joinP ⟨#[]⟩ s=s:=if_pos rfl
theorem has_txt_ascii {n:Nat} {s:ByteArray} (h:ascii s.data.toList=true):∀c∈txt n s,c.toNat < 128:=txt_ascii (ascii_lt h)
def NumA (n:Nat) (y:List UInt8) (z:Int):Prop:=ParsesN y z∧(∀c∈y,c.toNat < 128)∧y[n - 1]? =some 0
theorem octOut_A {n:Nat} {x:Int} {y:List UInt8} (h:OctOut n x y):∃z:Int,NumA n y z∧0≤z∧z < 1099511627776∧(fit8 n x→z=x):=by
 have ha:=octOut_ascii h
 obtain ⟨_,⟨z,hz,he⟩,hl⟩:=h
 have hb:z < 1099511627776:=by obtain ⟨_,_,_,_,_,_,_,h6⟩:=hz;exact h6
 exact ⟨z,⟨parses_oct hz,ha,hl⟩,by omega,by omega,he⟩
theorem blank_A (n:Nat) (hn:1≤n):NumA n (List.replicate n 0) 0:=⟨parses_blank n hn,rep_ascii n,by rw [List.getElem?_replicate,if_pos (by omega)]⟩
theorem posix_blk {b:HB} {tf:UInt8} {size mode uid gid ms dj dn:Int} (ok:b.Ok) (tl:b.tl=List.replicate 12 0) (htf:b.tf= [tf]) (h7:tf.toNat < 128) (n1:∀c∈b.nm,c.toNat < 128) (n2:∀c∈b.ln,c.toNat < 128) (n3:∀c∈b.un,c.toNat < 128) (n4:∀c∈b.gn,c.toNat < 128) (n5:∀c∈b.px,c.toNat < 128)
  (sz:NumA 12 b.sz size) (md:NumA 8 b.md mode) (ui:NumA 8 b.ui uid) (gi:NumA 8 b.gi gid) (mt:NumA 12 b.mt ms) (dj':NumA 8 b.dj dj) (dn':NumA 8 b.dn dn) (m1 : -4000000000000000000≤ms) (m2:ms≤4000000000000000000) :
  RdAny (sealB false b) (rdTH tf (joinP (strOf b.px) (strOf b.nm)) (strOf b.ln) size mode uid gid (strOf b.un) (strOf b.gn) ms (-62135596800) (-62135596800) dj dn 6):=by
 have k:=rdB_seal (gnu:=false) ok tl
 refine .inl ⟨tf,size,mode,uid,gid,ms,dj,dn,⟨k,htf,sz.1,md.1,ui.1,gi.1,mt.1,dj'.1,dn'.1,m1,m2⟩,⟨?_,sz.2.2,md.2.2,ui.2.2,gi.2.2,mt.2.2,dj'.2.2,dn'.2.2⟩,rfl⟩
 refine rdB_ascii k n1 md.2.1 ui.2.1 gi.2.1 sz.2.1 mt.2.1 ?_ n2 n3 n4 dj'.2.1 dn'.2.1 n5
 intro c hc
 rw [show (sealB false b).tf= [tf] from htf] at hc
 rw [List.mem_singleton.1 hc];exact h7
theorem gnu_blk {b:HB} {tf:UInt8} {size mode uid gid ms dj dn ats cts:Int} (ok:b.Ok) (tl:b.tl=List.replicate 12 0) (htf:b.tf= [tf])
  (sz:ParsesN b.sz size) (md:ParsesN b.md mode) (ui:ParsesN b.ui uid) (gi:ParsesN b.gi gid) (mt:ParsesN b.mt ms) (dj':ParsesN b.dj dj) (dn':ParsesN b.dn dn) (m1 : -4000000000000000000≤ms) (m2:ms≤4000000000000000000) (at':RdT (b.px.take 12) ats) (ct:RdT ((b.px.drop 12).take 12) cts) :
  RdAny (sealB true b) (rdTH tf (strOf b.nm) (strOf b.ln) size mode uid gid (strOf b.un) (strOf b.gn) ms ats cts dj dn 8):=
 .inr ⟨tf,size,mode,uid,gid,ms,dj,dn,ats,cts,⟨rdB_seal (gnu:=true) ok tl,htf,sz,md,ui,gi,mt,dj',dn',m1,m2⟩,⟨at',ct⟩,rfl⟩
theorem cut_mid (A B C:List UInt8):((A++B++C).drop A.length).take B.length=B:=by
 rw [List.append_assoc,List.drop_left,List.take_left]
theorem blkAt_of {gnu:Bool} {b:HB} {th:TH} {D:List UInt8} {p:Nat} (ok:b.Ok) (H:RdAny (sealB gnu b) th) (h0:0≤th.size) (h1:th.size≤9223372036854775807) (A C:List UInt8) (hD:D=A++sums (splice b.bytes 257 (magicOf gnu))++C) (hp:p=A.length):BlkAt D p th:=by
 subst hD hp
 refine ⟨sealB gnu b,?_,H,h0,h1⟩
 have hl:=H.len
 have:=cut_mid A (sealB gnu b).bytes C
 rw [hl] at this
 rw [seal_bytes ok];exact this
theorem datAt_of {D data:List UInt8} {p q:Nat} (A B C:List UInt8) (hb:B.length=512) (h0:0 < data.length) (h1:data.length≤1048576) (hD:D=A++B++data++List.replicate (padOf data.length) 0++C) (hp:p=A.length) (hq:q=p+512+data.length+padOf data.length):DatAt D p data q:=by
 subst hD hp hq
 refine ⟨?_,h0,h1,rfl,?_⟩
 ·have:=cut_mid (A++B) data (List.replicate (padOf data.length) 0++C)
  rw [List.length_append,hb] at this
  rw [List.append_assoc (A++B++data)]
  exact this
 ·simp only [List.length_append,List.length_replicate,hb]
  omega
theorem seal_len {gnu:Bool} {b:HB} {th:TH} (ok:b.Ok) (H:RdAny (sealB gnu b) th):(sums (splice b.bytes 257 (magicOf gnu))).length=512:=by rw [seal_bytes ok];exact H.len
theorem mainTf {tf:UInt8} (h:tf.toNat=48∨tf.toNat=49∨tf.toNat=50∨tf.toNat=51∨tf.toNat=52∨tf.toNat=53∨tf.toNat=54∨tf.toNat=55):MainTf tf∧tf.toNat < 128:=by
 refine ⟨⟨?_,?_,?_,?_,?_,?_⟩,by omega⟩
 all_goals
  rintro rfl
  revert h
  decide
def finOf (eff:TH) (f:Int):TH:={ eff with xa:=.map none,recs:=.map none,fmt:=f }
structure UsF (th:TH) (sp:Bool):Prop where
 nm:(ascii th.name.data.toList=true∧th.name.size≤100)∨sp=true
 ln:ascii th.link.data.toList=true∧th.link.size≤100
 un:ascii th.un.data.toList=true∧th.un.size≤32
 gn:ascii th.gn.data.toList=true∧th.gn.size≤32
 md:fit8 8 th.mode
 ui:fit8 8 th.uid
 gi:fit8 8 th.gid
 sz:fit8 12 th.size
 dj:fit8 8 th.dj
 dn:fit8 8 th.dn
 mt:timZ th.ms th.mn=true∨fit8 12 th.ms
 at':th.ats=-62135596800∧th.atn=0
 ct:th.cts=-62135596800∧th.ctn=0
theorem usF_of {th:TH} {sp:Bool} (h1:afU th sp=true):UsF th sp:=by
 unfold afU strU timU at h1
 simp only [Bool.and_eq_true,Bool.true_and,Bool.not_eq_true',Bool.and_eq_false_iff,Bool.or_eq_false_iff,Bool.not_false,Bool.not_eq_false',decide_eq_true_eq,decide_eq_false_iff_not,Bool.or_eq_true,Nat.not_lt,Bool.true_eq_false,or_false,Bool.false_and,Bool.false_eq_true] at h1
 obtain ⟨⟨⟨⟨⟨⟨⟨⟨⟨⟨⟨⟨a1,a2⟩,a3⟩,a4⟩,a5⟩,a6⟩,a7⟩,a8⟩,a9⟩,a10⟩,a11⟩,a12⟩,a13⟩:=h1
 exact ⟨a1,a2,a3,a4,a5,a6,a7,a8,a9,a10,a11,by simpa [timZ] using a12,by simpa [timZ] using a13⟩
set_option maxHeartbeats 1000000 in
theorem pend_U {eff:TH} {A C D:List UInt8} {pn qn:ByteArray} {sp:Bool} {b0:HB} {p q:ByteArray} (hU:UsBlk eff p q b0) (hs:SplitOk eff.name p q∨(p=⟨#[]⟩∧q=eff.name∧eff.name.size≤100)) (hF:FldOk eff) (htf:TfOk eff) (hsp:SplitC eff.name pn qn sp) (hu:UsF eff sp) (hmn:eff.mn=0) (hz:eff.ms≠-62135596800)
  (hD:D=A++sums (splice b0.bytes 257 (magicOf false))++C):∃th0,Pend D (finOf eff 6) none (A.length+512) A.length none ⟨#[]⟩ ⟨#[]⟩ th0:=by
 obtain ⟨hm,h7⟩:=mainTf htf
 have tm:=hU.tm
 have hmts:eff.mts=eff.ms:=if_neg (fun h=>hz h.1)
 have hmf:fit8 12 eff.ms:=by
  rcases hu.mt with h | h
  ·exact absurd (by simpa [timZ] using h) (fun h:eff.ms=-62135596800∧eff.mn=0=>hz h.1)
  ·exact h
 have hp155:p.size≤155:=by
  rcases hs with h | ⟨rfl,_⟩
  ·exact h.p2
  ·decide
 have hasc:ascii eff.name.data.toList=true:=by
  rcases hs with h | ⟨_,_,h⟩
  ·exact h.asc
  ·rcases hu.nm with h1 | h1
   ·exact h1.1
   ·exact (hsp.yes h1).asc
 have hpq:(∀c∈p.data.toList,c.toNat < 128)∧(∀c∈q.data.toList,c.toNat < 128)∧has p.data.toList 0=false∧has q.data.toList 0=false∧q.size≤100∧joinP p q=eff.name:=by
  rcases hs with h | ⟨rfl,rfl,h⟩
  ·have h1:=ascii_lt hasc
   have h2:=has_false.1 hF.z1
   rw [h.cat] at h1 h2
   refine ⟨fun c hc=>h1 c (by simp [hc]),fun c hc=>h1 c (by simp [hc]),has_false.2 (fun hc=>h2 (by simp [hc])),has_false.2 (fun hc=>h2 (by simp [hc])),h.q2,?_⟩
   unfold joinP
   rw [if_neg (by have:=h.p1;omega)]
   apply ByteArray.ext
   apply Array.ext'
   rw [h.cat]
   simp [ByteArray.data_append]
  ·exact ⟨fun c hc=>by simp at hc,ascii_lt hasc,rfl,hF.z1,h,joinP_nil _⟩
 obtain ⟨zs,s1,s2,s3,s4⟩:=octOut_A tm.sz
 obtain ⟨zm,m1,m2,m3,m4⟩:=octOut_A tm.md
 obtain ⟨zu,u1,u2,u3,u4⟩:=octOut_A tm.ui
 obtain ⟨zg,g1,g2,g3,g4⟩:=octOut_A tm.gi
 obtain ⟨zt,t1,t2,t3,t4⟩:=octOut_A tm.mt
 obtain ⟨zj,j1,j2,j3,j4⟩:=octOut_A tm.dj
 obtain ⟨zn,n1,n2,n3,n4⟩:=octOut_A tm.dn
 have e1:b0.nm=txt 100 q:=tm.nm
 have e2:b0.ln=txt 100 eff.link:=tm.ln
 have e3:b0.un=txt 32 eff.un:=tm.un
 have e4:b0.gn=txt 32 eff.gn:=tm.gn
 have e5:b0.px=txt 155 p:=hU.px
 have ok:=hU.ok hp155
 have H:=posix_blk (b:=b0) (tf:=eff.tf) ok tm.tl tm.tf h7 (by rw [e1];exact txt_ascii hpq.2.1) (by rw [e2];exact has_txt_ascii hu.ln.1) (by rw [e3];exact has_txt_ascii hu.un.1) (by rw [e4];exact has_txt_ascii hu.gn.1) (by rw [e5];exact txt_ascii hpq.1)
  s1 m1 u1 g1 t1 j1 n1 (by omega) (by omega)
 rw [e1,e2,e3,e4,e5,strOf_txt hpq.2.2.1 hp155,strOf_txt hpq.2.2.2.1 hpq.2.2.2.2.1,strOf_txt hF.z2 hu.ln.2,strOf_txt hF.z3 hu.un.2,strOf_txt hF.z4 hu.gn.2,hpq.2.2.2.2.2] at H
 have s5:zs=eff.size:=s4 hu.sz
 have m5:zm=eff.mode:=m4 hu.md
 have u5:zu=eff.uid:=u4 hu.ui
 have g5:zg=eff.gid:=g4 hu.gi
 have t5:zt=eff.ms:=(t4 (by show fit8 12 eff.mts;rw [hmts];exact hmf)).trans hmts
 have j5:zj=eff.dj:=j4 hu.dj
 have n5:zn=eff.dn:=n4 hu.dn
 subst s5 m5 u5 g5 t5 j5 n5
 have hf:finOf eff 6=rdTH eff.tf eff.name eff.link eff.size eff.mode eff.uid eff.gid eff.un eff.gn eff.ms (-62135596800) (-62135596800) eff.dj eff.dn 6:=by
  unfold finOf rdTH
  rw [←hu.at'.1,hmn,hu.at'.2,hu.ct.2]
  congr 1
  rw [hu.at'.1];exact hu.ct.1
 refine ⟨_,.done _ _ _ _ (blkAt_of ok H s2 (by show eff.size≤_;omega) A C hD rfl) hm ⟨_,.inl ⟨rfl,rfl⟩,?_⟩ rfl⟩
 exact hf
end Go.Proofs.YtkanmkcojlefbaaGreatDoor
namespace Go.Proofs.YtkanmkcojlefbaaGreatDoor
open Go.RowKit
theorem stepF_eq (key v:ByteArray) (c:Bool) (R F:KV):stepF key v c R F key=if c=true∨R key=some v then some v else F key:=if_pos rfl
theorem stepF_ne {k key v:ByteArray} {c:Bool} {R F:KV} (h:k≠key):stepF key v c R F k=F k:=if_neg h
theorem timF_ne {k key:ByteArray} {km:Bool} {s:Int} {ns:Nat} {R F:KV} (h:k≠key):timF key km s ns R F k=F k:=by
 unfold timF
 split
 ·rfl
 ·exact stepF_ne h
theorem timF_eq (key:ByteArray) (km:Bool) (s:Int) (ns:Nat) (R F:KV):timF key km s ns R F key=if timZ s ns=true then F key else if (!(km && decide (fit8 12 s)) || ((ns:Int) != 0))=true∨R key=some (timS s ns) then some (timS s ns) else F key:=by
 unfold timF
 split
 ·rfl
 ·exact stepF_eq _ _ _ _ _
theorem afF_kP (th:TH) (R:KV):afF th R kP=if (!ascii th.name.data.toList || decide (100 < th.name.size))=true∨R kP=some th.name then some th.name else none:=by
 unfold afF
 rw [timF_ne (by decide),timF_ne (by decide),timF_ne (by decide),stepF_ne (by decide),stepF_ne (by decide),stepF_ne (by decide),stepF_ne (by decide),stepF_ne (by decide),stepF_ne (by decide),stepF_eq]
theorem afF_kL (th:TH) (R:KV):afF th R kL=if (!ascii th.link.data.toList || decide (100 < th.link.size))=true∨R kL=some th.link then some th.link else none:=by
 unfold afF
 rw [timF_ne (by decide),timF_ne (by decide),timF_ne (by decide),stepF_ne (by decide),stepF_ne (by decide),stepF_ne (by decide),stepF_ne (by decide),stepF_ne (by decide),stepF_eq,stepF_ne (by decide)]
theorem afF_kUn (th:TH) (R:KV):afF th R kUn=if (!ascii th.un.data.toList || decide (32 < th.un.size))=true∨R kUn=some th.un then some th.un else none:=by
 unfold afF
 rw [timF_ne (by decide),timF_ne (by decide),timF_ne (by decide),stepF_ne (by decide),stepF_ne (by decide),stepF_ne (by decide),stepF_ne (by decide),stepF_eq,stepF_ne (by decide),stepF_ne (by decide)]
theorem afF_kGn (th:TH) (R:KV):afF th R kGn=if (!ascii th.gn.data.toList || decide (32 < th.gn.size))=true∨R kGn=some th.gn then some th.gn else none:=by
 unfold afF
 rw [timF_ne (by decide),timF_ne (by decide),timF_ne (by decide),stepF_ne (by decide),stepF_ne (by decide),stepF_ne (by decide),stepF_eq,stepF_ne (by decide),stepF_ne (by decide),stepF_ne (by decide)]
theorem afF_kUi (th:TH) (R:KV):afF th R kUi=if (!decide (fit8 8 th.uid))=true∨R kUi=some (itoaS th.uid) then some (itoaS th.uid) else none:=by
 unfold afF
 rw [timF_ne (by decide),timF_ne (by decide),timF_ne (by decide),stepF_ne (by decide),stepF_ne (by decide),stepF_eq,stepF_ne (by decide),stepF_ne (by decide),stepF_ne (by decide),stepF_ne (by decide)]
theorem afF_kGi (th:TH) (R:KV):afF th R kGi=if (!decide (fit8 8 th.gid))=true∨R kGi=some (itoaS th.gid) then some (itoaS th.gid) else none:=by
 unfold afF
 rw [timF_ne (by decide),timF_ne (by decide),timF_ne (by decide),stepF_ne (by decide),stepF_eq,stepF_ne (by decide),stepF_ne (by decide),stepF_ne (by decide),stepF_ne (by decide),stepF_ne (by decide)]
theorem afF_kSz (th:TH) (R:KV):afF th R kSz=if (!decide (fit8 12 th.size))=true∨R kSz=some (itoaS th.size) then some (itoaS th.size) else none:=by
 unfold afF
 rw [timF_ne (by decide),timF_ne (by decide),timF_ne (by decide),stepF_eq,stepF_ne (by decide),stepF_ne (by decide),stepF_ne (by decide),stepF_ne (by decide),stepF_ne (by decide),stepF_ne (by decide)]
theorem afF_kMt (th:TH) (R:KV):afF th R kMt=if timZ th.ms th.mn=true then none else if (!(true && decide (fit8 12 th.ms)) || ((th.mn:Int) != 0))=true∨R kMt=some (timS th.ms th.mn) then some (timS th.ms th.mn) else none:=by
 unfold afF
 rw [timF_ne (by decide),timF_ne (by decide),timF_eq,stepF_ne (by decide),stepF_ne (by decide),stepF_ne (by decide),stepF_ne (by decide),stepF_ne (by decide),stepF_ne (by decide),stepF_ne (by decide)]
theorem afF_kAt (th:TH) (R:KV):afF th R kAt=if timZ th.ats th.atn=true then none else some (timS th.ats th.atn):=by
 unfold afF
 rw [timF_ne (by decide),timF_eq,timF_ne (by decide),stepF_ne (by decide),stepF_ne (by decide),stepF_ne (by decide),stepF_ne (by decide),stepF_ne (by decide),stepF_ne (by decide),stepF_ne (by decide)]
 simp
theorem afF_kCt (th:TH) (R:KV):afF th R kCt=if timZ th.cts th.ctn=true then none else some (timS th.cts th.ctn):=by
 unfold afF
 rw [timF_eq,timF_ne (by decide),timF_ne (by decide),stepF_ne (by decide),stepF_ne (by decide),stepF_ne (by decide),stepF_ne (by decide),stepF_ne (by decide),stepF_ne (by decide),stepF_ne (by decide)]
 simp
theorem afF_other (th:TH) (R:KV) (k:ByteArray) (h:basicB k=false):afF th R k=none:=by
 have e:∀x:ByteArray,basicB x=true→k≠x:=fun x hx he=>by rw [he,hx] at h;cases h
 unfold afF
 rw [timF_ne (e _ (by decide)),timF_ne (e _ (by decide)),timF_ne (e _ (by decide)),stepF_ne (e _ (by decide)),stepF_ne (e _ (by decide)),stepF_ne (e _ (by decide)),stepF_ne (e _ (by decide)),stepF_ne (e _ (by decide)),stepF_ne (e _ (by decide)),stepF_ne (e _ (by decide))]
theorem mergeF_basic {F R:KV} {k:ByteArray} (h:basicB k=true):mergeF F R k=F k:=by
 unfold mergeF mergeL
 cases hf:F k with
 | some v=>rfl
 | none=>simp [okKey,h]
theorem basic_sparse {k:ByteArray} (h:basicB k=true):sparseB k=false:=by
 unfold basicB at h
 have h:=of_decide_eq_true h
 unfold sparseB
 simp only [List.mem_cons,List.not_mem_nil,or_false] at h
 rcases h with h | h | h | h | h | h | h | h | h | h<;>rw [h]<;>rfl
theorem mergeF_sparse {th:TH} {R:KV} {k v:ByteArray} (h:mergeF (afF th R) R k=some v):sparseB k=false:=by
 cases hb:basicB k with
 | true=>exact basic_sparse hb
 | false=>
  unfold mergeF mergeL at h
  rw [afF_other th R k hb] at h
  cases ho:sparseB k with
  | false=>rfl
  | true=>simp [okKey,ho] at h
theorem strV_of {n:Nat} {s:ByteArray} {x:List UInt8} {R:KV} {k:ByteArray} {o:Option ByteArray} (ho:o=if (!ascii s.data.toList || decide (n < s.size))=true∨R k=some s then some s else none) (hf:FitsA n s x) (hz:has s.data.toList 0=false):s=o.getD (strOf x):=by
 by_cases h:(!ascii s.data.toList || decide (n < s.size))=true∨R k=some s
 ·rw [ho,if_pos h];rfl
 ·rw [ho,if_neg h,Option.getD_none]
  have h1:=fun e=>h (.inl e)
  simp only [Bool.or_eq_true,Bool.not_eq_true',decide_eq_true_eq,imp_false,not_or,Bool.not_eq_false,Nat.not_lt] at h1
  rw [hf.2.2 h1.1 h1.2,strOf_txt hz h1.2]
theorem numV_of {n:Nat} {x z:Int} {F R:KV} {k:ByteArray} (ho:F k=if (!decide (fit8 n x))=true∨R k=some (itoaS x) then some (itoaS x) else none) (hz:fit8 n x→z=x) (h0 : -9223372036854775808≤x∧x < 9223372036854775808):NumV F k z x:=by
 by_cases h:(!decide (fit8 n x))=true∨R k=some (itoaS x)
 ·refine .inr ⟨itoaS x,by rw [ho,if_pos h],?_,?_⟩
  ·have:=parseInt_itoa x h0.1 h0.2
   simpa using this
  ·have:=Lib.itoa_length_le x h0.1 (by omega)
   show (Lib.itoa x).toArray.size≤_
   simp only [List.size_toArray]
   omega
 ·refine .inl ⟨by rw [ho,if_neg h],(hz ?_).symm⟩
  have h1:=fun e=>h (.inl e)
  simpa using h1
theorem timV_of {s:Int} {ns:Nat} {F:KV} {k:ByteArray} (ho:F k=if timZ s ns=true then none else some (timS s ns)) (hn:ns < 1000000000) (h1 : -2000000000000000000≤s) (h2:s≤2000000000000000000):TimV F k (-62135596800) 0 s ns:=by
 by_cases h:timZ s ns=true
 ·have e:s=-62135596800∧ns=0:=by simpa [timZ] using h
  exact .inl ⟨by rw [ho,if_pos h],e.1,e.2⟩
 ·exact .inr ⟨_,by rw [ho,if_neg h],parses_timS s ns hn h1 h2⟩
theorem timV_mt {s z:Int} {ns:Nat} {F R:KV} {k:ByteArray} (ho:F k=if timZ s ns=true then none else if (!(true && decide (fit8 12 s)) || ((ns:Int) != 0))=true∨R k=some (timS s ns) then some (timS s ns) else none) (hz:¬(s=-62135596800∧ns=0)) (he:fit8 12 s→z=s) (hn:ns < 1000000000) (h1 : -2000000000000000000≤s) (h2:s≤2000000000000000000):TimV F k z 0 s ns:=by
 rw [if_neg (by unfold timZ;rw [decide_eq_false hz];decide)] at ho
 by_cases h:(!(true && decide (fit8 12 s)) || ((ns:Int) != 0))=true∨R k=some (timS s ns)
 ·exact .inr ⟨_,by rw [ho,if_pos h],parses_timS s ns hn h1 h2⟩
 ·rw [if_neg h] at ho
  have h3:=fun e=>h (.inl e)
  simp only [Bool.true_and,Bool.or_eq_true,Bool.not_eq_true',decide_eq_false_iff_not,bne_iff_ne,ne_eq,imp_false,not_or,Classical.not_not] at h3
  exact .inl ⟨ho,(he h3.1).symm,by have:=h3.2;omega⟩
structure EffOk (eff:TH) (F:KV):Prop where
 fld:FldOk eff
 tf:TfOk eff
 sz:0≤eff.size
 mz:¬(eff.ms=-62135596800∧eff.mn=0)
 mb : -2000000000000000000≤eff.ms∧eff.ms≤2000000000000000000
 ab : -2000000000000000000≤eff.ats∧eff.ats≤2000000000000000000
 cb : -2000000000000000000≤eff.cts∧eff.cts≤2000000000000000000
 nm:eff.name.size≤1000000
 ln:eff.link.size≤1000000
 val:∀k v,F k=some v→RecOk k v∧0 < v.size∧Lib.hasPrefix k.data.toList [83,67,72,73,76,89,46,120,97,116,116,114,46]=false
 tot:∀ks:List ByteArray,ks.Nodup→(∀k∈ks,(F k).isSome=true)→(recsOf F ks).length≤1048576
set_option maxHeartbeats 1000000 in
theorem merge_P {eff:TH} {R F':KV} {b0:HB} (H:EffOk eff (mergeF (afF eff R) R)) (tm:TmOk FitsA OctOut eff b0) (hP:afP eff=true) (hF':∀k,k.size≤100→F' k=mergeF (afF eff R) R k) (hX:∀k v,F' k=some v→mergeF (afF eff R) R k=some v) :
  ∃th0,RdAny (sealB false b0) th0∧MergeOk F' th0 (finOf eff 6)∧0≤th0.size∧th0.size≤9223372036854775807∧th0.tf=eff.tf∧th0.recs=.map none:=by
 obtain ⟨hm,h7⟩:=mainTf H.tf
 have hF:=H.fld
 have hmts:eff.mts=eff.ms:=if_neg H.mz
 obtain ⟨zs,s1,s2,s3,s4⟩:=octOut_A tm.sz
 obtain ⟨zm,m1,m2,m3,m4⟩:=octOut_A tm.md
 obtain ⟨zu,u1,u2,u3,u4⟩:=octOut_A tm.ui
 obtain ⟨zg,g1,g2,g3,g4⟩:=octOut_A tm.gi
 obtain ⟨zt,t1,t2,t3,t4⟩:=octOut_A tm.mt
 obtain ⟨zj,j1,j2,j3,j4⟩:=octOut_A tm.dj
 obtain ⟨zn,n1,n2,n3,n4⟩:=octOut_A tm.dn
 rw [hmts] at t4
 have hP':=hP
 unfold afP at hP'
 simp only [Bool.and_eq_true,Bool.true_and,decide_eq_true_eq] at hP'
 obtain ⟨⟨p1,p2⟩,p3⟩:=hP'
 have m5:zm=eff.mode:=m4 p1
 have j5:zj=eff.dj:=j4 p2
 have n5:zn=eff.dn:=n4 p3
 subst m5 j5 n5
 have hp:b0.px=List.replicate 155 0:=tm.px
 have HR:=posix_blk (b:=b0) (tf:=eff.tf) tm.ok tm.tl tm.tf h7 tm.nm.2.1 tm.ln.2.1 tm.un.2.1 tm.gn.2.1 (by rw [hp];exact rep_ascii 155) s1 m1 u1 g1 t1 j1 n1 (by omega) (by omega)
 rw [hp,strOf_zero (by decide),joinP_nil] at HR
 have hb:∀k,k.size≤100→basicB k=true→F' k=afF eff R k:=fun k h1 h2=>by rw [hF' k h1,mergeF_basic h2]
 refine ⟨_,HR,?_,s2,by show zs≤_;omega,rfl,rfl⟩
 refine { tf:=rfl,mode:=rfl,dj:=rfl,dn:=rfl,xa:=rfl,fmt:=rfl,name:= ?_,link:= ?_,un:= ?_,gn:= ?_,uid:= ?_,gid:= ?_,size:= ?_,mt:= ?_,at':= ?_,ct:= ?_,ne:=fun k v h=>(H.val k v (hX k v h)).2.1,xt:=fun k v h=>(H.val k v (hX k v h)).2.2 }
 ·exact strV_of ((hb kP (by decide) (by decide)).trans (afF_kP eff R)) tm.nm hF.z1
 ·exact strV_of ((hb kL (by decide) (by decide)).trans (afF_kL eff R)) tm.ln hF.z2
 ·exact strV_of ((hb kUn (by decide) (by decide)).trans (afF_kUn eff R)) tm.un hF.z3
 ·exact strV_of ((hb kGn (by decide) (by decide)).trans (afF_kGn eff R)) tm.gn hF.z4
 ·exact numV_of ((hb kUi (by decide) (by decide)).trans (afF_kUi eff R)) u4 hF.ui
 ·exact numV_of ((hb kGi (by decide) (by decide)).trans (afF_kGi eff R)) g4 hF.gi
 ·exact numV_of ((hb kSz (by decide) (by decide)).trans (afF_kSz eff R)) s4 hF.sz
 ·exact timV_mt ((hb kMt (by decide) (by decide)).trans (afF_kMt eff R)) H.mz t4 hF.mt.1 H.mb.1 H.mb.2
 ·exact timV_of ((hb kAt (by decide) (by decide)).trans (afF_kAt eff R)) hF.at'.1 H.ab.1 H.ab.2
 ·exact timV_of ((hb kCt (by decide) (by decide)).trans (afF_kCt eff R)) hF.ct.1 H.cb.1 H.cb.2
theorem mergeOk_none {a b:TH} (h:MergeOk (fun _=>none) a b) (hr:a.recs=b.recs):a=b:=by
 have N:∀ {k x y},NumV (fun _=>none) k x y→y=x:=fun h=>by
  rcases h with ⟨_,h⟩ | ⟨_,h,_⟩
  ·exact h
  ·cases h
 have T:∀ {k s n s' n'},TimV (fun _=>none) k s n s' n'→s'=s∧n'=n:=fun h=>by
  rcases h with ⟨_,h⟩ | ⟨_,h,_⟩
  ·exact h
  ·cases h
 have e1:=h.tf;have e2:=h.mode;have e3:=h.dj;have e4:=h.dn;have e5:=h.xa;have e6:=h.fmt;have e7:=h.name;have e8:=h.link;have e9:=h.un;have e10:=h.gn
 have e11:=N h.uid;have e12:=N h.gid;have e13:=N h.size;have e14:=T h.mt;have e15:=T h.at';have e16:=T h.ct
 clear h N T
 obtain ⟨a1,a2,a3,a4,a5,a6,a7,a8,a9,a10,a11,a12,a13,a14,a15,a16,a17,a18,a19,a20⟩:=a
 obtain ⟨b1,b2,b3,b4,b5,b6,b7,b8,b9,b10,b11,b12,b13,b14,b15,b16,b17,b18,b19,b20⟩:=b
 simp only [Option.getD_none] at*
 obtain ⟨e14,e14'⟩:=e14
 obtain ⟨e15,e15'⟩:=e15
 obtain ⟨e16,e16'⟩:=e16
 subst e1 e2 e3 e4 e5 e6 e7 e8 e9 e10 e11 e12 e13 e14 e14' e15 e15' e16 e16' hr
 rfl
set_option maxHeartbeats 1000000 in
theorem pend_P0 {eff:TH} {R:KV} {A C D:List UInt8} {b0:HB} (H:EffOk eff (mergeF (afF eff R) R)) (tm:TmOk FitsA OctOut eff b0) (hP:afP eff=true) (h0:∀s:ByteArray,s.size≤maxLen→mergeF (afF eff R) R s=none)
  (hD:D=A++sums (splice b0.bytes 257 (magicOf false))++C):∃th0,Pend D (finOf eff 6) none (A.length+512) A.length none ⟨#[]⟩ ⟨#[]⟩ th0:=by
 obtain ⟨th0,h1,h2,h3,h4,h5,h6⟩:=merge_P (F':=fun _=>none) H tm hP (fun k hk=>(h0 k (Nat.le_trans hk (by decide))).symm) (fun k v h=>by cases h)
 have e:=mergeOk_none h2 h6
 subst e
 exact ⟨_,.done _ _ _ _ (blkAt_of tm.ok h1 h3 h4 A C hD rfl) (mainTf H.tf).1 ⟨_,.inl ⟨rfl,rfl⟩,rfl⟩ rfl⟩
theorem restr_eq {F:KV} {ks:List ByteArray} (hks:∀k:ByteArray,k∈ks↔k.size≤maxLen∧(F k).isSome=true) (k:ByteArray) (hk:k.size≤maxLen):restr F ks k=F k:=by
 unfold restr
 split
 ·rfl
 ·rename_i h
  rw [hks] at h
  cases e:F k with
  | none=>rfl
  | some v=>exact absurd ⟨hk,by rw [e];rfl⟩ h
theorem restr_some {F:KV} {ks:List ByteArray} {k v:ByteArray} (h:restr F ks k=some v):F k=some v:=by
 unfold restr at h
 split at h
 ·exact h
 ·cases h
theorem raw_posix {fl:UInt8} {n:Nat} {b:HB} (h:RawBlk fl n b) (h7:fl.toNat < 128) (hn:n≤1048577):∃th,RdAny (sealB false b) th∧th.tf=fl∧th.size=(n:Int):=by
 obtain ⟨zs,s1,s2,s3,s4⟩:=octOut_A h.sz
 obtain ⟨zm,m1,m2,m3,m4⟩:=octOut_A h.md
 obtain ⟨zu,u1,u2,u3,u4⟩:=octOut_A h.ui
 obtain ⟨zg,g1,g2,g3,g4⟩:=octOut_A h.gi
 obtain ⟨zt,t1,t2,t3,t4⟩:=octOut_A h.mt
 have hz:zs=(n:Int):=s4 ⟨by omega,by show (n:Int) < 8589934592;omega⟩
 subst hz
 exact ⟨_,posix_blk (b:=b) (tf:=fl) h.ok h.tl h.tf h7 h.nm (by rw [h.ln];exact rep_ascii _) (by rw [h.un];exact rep_ascii _) (by rw [h.gn];exact rep_ascii _) (by rw [h.px];exact rep_ascii _) s1 m1 u1 g1 t1 (by rw [h.dj];exact blank_A 8 (by decide)) (by rw [h.dn];exact blank_A 8 (by decide)) (by omega) (by omega),rfl,rfl⟩
set_option maxHeartbeats 1000000 in
theorem pend_P1 {eff:TH} {R:KV} {A C D:List UInt8} {b1 b0:HB} {ks:List ByteArray} {data:ByteArray} (H:EffOk eff (mergeF (afF eff R) R)) (tm:TmOk FitsA OctOut eff b0) (hP:afP eff=true)
  (hnd:ks.Nodup) (hne:ks≠ []) (hks:∀k:ByteArray,k∈ks↔k.size≤maxLen∧(mergeF (afF eff R) R k).isSome=true) (hdt:data.data.toList=recsOf (mergeF (afF eff R) R) ks) (hb1:RawBlk 120 data.size b1)
  (hD:D=A++sums (splice b1.bytes 257 (magicOf false))++data.data.toList++List.replicate (padOf data.size) 0++sums (splice b0.bytes 257 (magicOf false))++C) :
  ∃th0,Pend D (finOf eff 6) (some (mergeF (afF eff R) R,ks)) (A.length+512+data.size+padOf data.size+512) A.length none ⟨#[]⟩ ⟨#[]⟩ th0:=by
 obtain ⟨F,hFF⟩:∃F,mergeF (afF eff R) R=F:=⟨_,rfl⟩
 have hS:∀k v,F k=some v→sparseB k=false:=fun k v h=>mergeF_sparse (by rw [hFF];exact h)
 obtain ⟨th0,h1,h2,h3,h4,h5,h6⟩:=merge_P (F':=restr (mergeF (afF eff R) R) ks) H tm hP (fun k hk=>restr_eq hks k (Nat.le_trans hk (by decide))) (fun k v h=>restr_some h)
 rw [hFF] at H h2 hks hdt⊢
 have hsz:data.size=(recsOf F ks).length:=by rw [Lib.size_eq,hdt]
 have htot:=H.tot ks hnd (fun k hk=>((hks k).1 hk).2)
 have hpos:=recsOf_pos F ks hne
 obtain ⟨tx,x1,x2,x3⟩:=raw_posix hb1 (by decide) (by omega)
 have hno:∀k,sparseB k=true→restr F ks k=none:=fun k hk=>by
  cases e:restr F ks k with
  | none=>rfl
  | some v=>rw [hS k v (restr_some e)] at hk;cases hk
 rw [hdt] at hD
 rw [hsz] at hD hb1 x3⊢
 refine ⟨tx,.x A.length (A.length+512+(recsOf F ks).length+padOf (recsOf F ks).length) _ _ tx th0 F ks (blkAt_of hb1.ok x1 (by omega) (by omega) A (recsOf F ks++List.replicate (padOf (recsOf F ks).length) 0++sums (splice b0.bytes 257 (magicOf false))++C) (by rw [hD];simp only [List.append_assoc]) rfl) x2 x3
  (datAt_of A _ (sums (splice b0.bytes 257 (magicOf false))++C) (seal_len hb1.ok x1) hpos htot (by rw [hD];simp only [List.append_assoc]) rfl rfl) ?_ ?_⟩
 ·intro k hk
  have hs:=((hks k).1 hk).2
  cases e:F k with
  | none=>rw [e] at hs;cases hs
  | some v=>
   refine ⟨v,rfl,(H.val k v e).1,?_,?_⟩
   ·rintro rfl
    have:=hS _ v e
    revert this;decide
   ·rintro rfl
    have:=hS _ v e
    revert this;decide
 ·refine .done _ _ _ _ (blkAt_of tm.ok h1 h3 h4 (A++sums (splice b1.bytes 257 (magicOf false))++recsOf F ks++List.replicate (padOf (recsOf F ks).length) 0) C (by rw [hD]) ?_) (by rw [h5];exact (mainTf H.tf).1) ⟨_,.inr ⟨F,ks,rfl,h2,hno _ (by decide),hno _ (by decide),hno _ (by decide)⟩,rfl⟩ rfl
  simp only [List.length_append,List.length_replicate,seal_len hb1.ok x1]
end Go.Proofs.YtkanmkcojlefbaaGreatDoor
namespace Go.Proofs.YtkanmkcojlefbaaGreatDoor
open Go.RowKit
theorem rdT_of {l:List UInt8} {s:Int} {ns:Nat} (h:(s=-62135596800∧ns=0∧l=List.replicate 12 0)∨(¬(s=-62135596800∧ns=0)∧NumOut 12 s l)) (h1 : -4000000000000000000≤s) (h2:s≤4000000000000000000):RdT l s∧l.length=12:=by
 rcases h with ⟨hs,_,rfl⟩ | ⟨_,hN⟩
 ·exact ⟨.inl ⟨rfl,hs⟩,rfl⟩
 ·have hf:fitG 12 s:=by
   have e:(256:Int) ^ 11=309485009821345068724781056:=by decide
   show -((256:Int) ^ 11)≤s∧s < (256:Int) ^ 11
   rw [e];omega
  have hp:=numOut_parses (.inr rfl) hN hf (by omega) (by omega)
  refine ⟨.inr ?_,hN.1⟩
  rcases hN.2 with ⟨_,d,tl,hl,hd,hne,_⟩ | hb
  ·cases d with
   | nil=>exact absurd rfl hne
   | cons c r=>
    refine ⟨c,by rw [hl];rfl,?_,hp,h1,h2⟩
    rintro rfl
    have:=(hd 0 (by simp)).1
    exact absurd this (by decide)
  ·refine ⟨if s < 0 then 255 else 128,by rw [hb];rfl,?_,hp,h1,h2⟩
   split<;>decide
structure GnF (th:TH):Prop where
 un:th.un.size≤32
 gn:th.gn.size≤32
 md:fitG 8 th.mode
 ui:fitG 8 th.uid
 gi:fitG 8 th.gid
 sz:fitG 12 th.size
 dj:fitG 8 th.dj
 dn:fitG 8 th.dn
theorem gnF_of {th:TH} (h1:afG th=true):GnF th:=by
 unfold afG strG at h1
 simp only [Bool.and_eq_true,Bool.true_and,decide_eq_true_eq,Bool.not_eq_true',Bool.and_eq_false_iff,Bool.not_true,Bool.not_false,decide_eq_false_iff_not,Nat.not_lt,or_true,Bool.true_eq_false,or_false,and_true,true_and] at h1
 obtain ⟨⟨⟨⟨⟨⟨⟨a3,a4⟩,a5⟩,a6⟩,a7⟩,a8⟩,a9⟩,a10⟩:=h1
 exact ⟨a3,a4,a5,a6,a7,a8,a9,a10⟩
theorem raw_gnu {fl:UInt8} {n:Nat} {b:HB} (h:RawBlk fl n b) (hn:n≤1048577):∃th,RdAny (sealB true b) th∧th.tf=fl∧th.size=(n:Int):=by
 obtain ⟨zs,s1,s2,s3,s4⟩:=octOut_A h.sz
 obtain ⟨zm,m1,m2,m3,m4⟩:=octOut_A h.md
 obtain ⟨zu,u1,u2,u3,u4⟩:=octOut_A h.ui
 obtain ⟨zg,g1,g2,g3,g4⟩:=octOut_A h.gi
 obtain ⟨zt,t1,t2,t3,t4⟩:=octOut_A h.mt
 have hz:zs=(n:Int):=s4 ⟨by omega,by show (n:Int) < 8589934592;omega⟩
 subst hz
 exact ⟨_,gnu_blk (b:=b) (tf:=fl) (ats:=-62135596800) (cts:=-62135596800) h.ok h.tl h.tf s1.1 m1.1 u1.1 g1.1 t1.1 (by rw [h.dj];exact parses_blank 8 (by decide)) (by rw [h.dn];exact parses_blank 8 (by decide)) (by omega) (by omega) (.inl ⟨by rw [h.px];rfl,rfl⟩) (.inl ⟨by rw [h.px];rfl,rfl⟩),rfl,rfl⟩
theorem pend_l {fin:TH} {pf pax:Option Recs} {qe pad pad':Nat} {s lk:ByteArray} {bs bs' C D:List UInt8} {th':TH} (hL:LongW 76 s bs pad bs' pad') (hs:s.size≤1000000) (h0:has s.data.toList 0=false) (hD:D=bs'++List.replicate pad' 0++C) (hP:Pend D fin pf qe (bs'.length+pad') pax (if 100 < s.size then s else ⟨#[]⟩) lk th'):∃th,Pend D fin pf qe (bs.length+pad) pax ⟨#[]⟩ lk th:=by
 rcases hL with ⟨h1,rfl,rfl⟩ | ⟨h1,b,hb,rfl,rfl⟩
 ·rw [if_neg (by omega)] at hP;exact ⟨_,hP⟩
 ·rw [if_pos h1] at hP
  obtain ⟨tx,x1,x2,x3⟩:=raw_gnu hb (by omega)
  have hl:(s.data.toList++ [0]).length=s.size+1:=by rw [List.length_append,←Lib.size_eq];rfl
  have hsl:=seal_len hb.ok x1
  refine ⟨tx,.l (bs.length+pad) _ pax s lk tx th' (blkAt_of hb.ok x1 (by omega) (by omega) (bs++List.replicate pad 0) ((s.data.toList++ [0])++List.replicate (padOf (s.size+1)) 0++C) (by rw [hD];simp only [List.append_assoc]) (by simp)) x2 x3
   (datAt_of (bs++List.replicate pad 0) _ C hsl (by omega) (by omega) (by rw [hD,hl]) (by simp) rfl) (has_false.1 h0) ?_⟩
  have e:(bs++List.replicate pad 0++sums (splice b.bytes 257 (magicOf true))++(s.data.toList++ [0])).length+padOf (s.size+1)=bs.length+pad+512+(s.data.toList++ [0]).length+padOf (s.data.toList++ [0]).length:=by
   rw [hl,List.length_append,List.length_append,List.length_append,List.length_replicate,hsl,hl]
  rw [e] at hP
  exact hP
theorem pend_k {fin:TH} {pf pax:Option Recs} {qe pad pad':Nat} {s ln:ByteArray} {bs bs' C D:List UInt8} {th':TH} (hL:LongW 75 s bs pad bs' pad') (hs:s.size≤1000000) (h0:has s.data.toList 0=false) (hD:D=bs'++List.replicate pad' 0++C) (hP:Pend D fin pf qe (bs'.length+pad') pax ln (if 100 < s.size then s else ⟨#[]⟩) th'):∃th,Pend D fin pf qe (bs.length+pad) pax ln ⟨#[]⟩ th:=by
 rcases hL with ⟨h1,rfl,rfl⟩ | ⟨h1,b,hb,rfl,rfl⟩
 ·rw [if_neg (by omega)] at hP;exact ⟨_,hP⟩
 ·rw [if_pos h1] at hP
  obtain ⟨tx,x1,x2,x3⟩:=raw_gnu hb (by omega)
  have hl:(s.data.toList++ [0]).length=s.size+1:=by rw [List.length_append,←Lib.size_eq];rfl
  have hsl:=seal_len hb.ok x1
  refine ⟨tx,.k (bs.length+pad) _ pax ln s tx th' (blkAt_of hb.ok x1 (by omega) (by omega) (bs++List.replicate pad 0) ((s.data.toList++ [0])++List.replicate (padOf (s.size+1)) 0++C) (by rw [hD];simp only [List.append_assoc]) (by simp)) x2 x3
   (datAt_of (bs++List.replicate pad 0) _ C hsl (by omega) (by omega) (by rw [hD,hl]) (by simp) rfl) (has_false.1 h0) ?_⟩
  have e:(bs++List.replicate pad 0++sums (splice b.bytes 257 (magicOf true))++(s.data.toList++ [0])).length+padOf (s.size+1)=bs.length+pad+512+(s.data.toList++ [0]).length+padOf (s.data.toList++ [0]).length:=by
   rw [hl,List.length_append,List.length_append,List.length_append,List.length_replicate,hsl,hl]
  rw [e] at hP
  exact hP
theorem longW_pre {fl:UInt8} {s:ByteArray} {bs bs':List UInt8} {pad pad':Nat} (h:LongW fl s bs pad bs' pad') (C:List UInt8):∃E,bs'++List.replicate pad' 0++C=bs++List.replicate pad 0++E:=by
 rcases h with ⟨_,rfl,rfl⟩ | ⟨_,b,_,rfl,rfl⟩
 ·exact ⟨C,rfl⟩
 ·exact ⟨sums (splice b.bytes 257 (magicOf true))++(s.data.toList++ [0])++List.replicate (padOf (s.size+1)) 0++C,by simp only [List.append_assoc]⟩
set_option maxHeartbeats 1000000 in
theorem pend_G {eff:TH} {F:KV} {A bs' C:List UInt8} (H:EffOk eff F) (hg:GnF eff) (hmn:eff.mn=0∧eff.atn=0∧eff.ctn=0) (hO:OutG eff A bs'):∃th0,Pend (bs'++C) (finOf eff 8) none bs'.length A.length none ⟨#[]⟩ ⟨#[]⟩ th0:=by
 obtain ⟨bs1,pad1,bs2,pad2,b0,hL1,hL2,hB,rfl⟩:=hO
 have tm:=hB.tm
 have hF:=H.fld
 have hmts:eff.mts=eff.ms:=if_neg H.mz
 obtain ⟨at',ct',hpx,ha,hc⟩:=hB.px
 obtain ⟨ra,la⟩:=rdT_of ha (by have:=H.ab;omega) (by have:=H.ab;omega)
 obtain ⟨rc,lc⟩:=rdT_of hc (by have:=H.cb;omega) (by have:=H.cb;omega)
 have hmt:fitG 12 eff.mts:=by
  have e:(256:Int) ^ 11=309485009821345068724781056:=by decide
  have:=H.mb
  show -((256:Int) ^ 11)≤eff.mts∧eff.mts < (256:Int) ^ 11
  rw [e,hmts];omega
 have kmt:=numOut_parses (.inr rfl) tm.mt hmt (by rw [hmts];have:=H.mb;omega) (by rw [hmts];have:=H.mb;omega)
 rw [hmts] at kmt
 have HR:=gnu_blk (b:=b0) (tf:=eff.tf) (size:=eff.size) (mode:=eff.mode) (uid:=eff.uid) (gid:=eff.gid) (ms:=eff.ms) (dj:=eff.dj) (dn:=eff.dn) (ats:=eff.ats) (cts:=eff.cts) hB.ok tm.tl tm.tf (numOut_parses (.inr rfl) tm.sz hg.sz hF.sz.1 hF.sz.2) (numOut_parses (.inl rfl) tm.md hg.md hF.md.1 hF.md.2) (numOut_parses (.inl rfl) tm.ui hg.ui hF.ui.1 hF.ui.2)
  (numOut_parses (.inl rfl) tm.gi hg.gi hF.gi.1 hF.gi.2) kmt (numOut_parses (.inl rfl) tm.dj hg.dj hF.dj.1 hF.dj.2) (numOut_parses (.inl rfl) tm.dn hg.dn hF.dn.1 hF.dn.2) (by have:=H.mb;omega) (by have:=H.mb;omega)
  (by rw [hpx,List.append_assoc,List.take_left' la];exact ra) (by rw [hpx,List.append_assoc,List.drop_left' la,List.take_left' lc];exact rc)
 have e1:strOf b0.un=eff.un:=by
  rw [show b0.un=txt 32 eff.un from tm.un.2.2 hg.un,strOf_txt hF.z3 hg.un]
 have e2:strOf b0.gn=eff.gn:=by
  rw [show b0.gn=txt 32 eff.gn from tm.gn.2.2 hg.gn,strOf_txt hF.z4 hg.gn]
 rw [e1,e2] at HR
 have hsl:=seal_len hB.ok HR
 have en:(if 0 < (if 100 < eff.name.size then eff.name else ⟨#[]⟩:ByteArray).size then (if 100 < eff.name.size then eff.name else ⟨#[]⟩:ByteArray) else strOf b0.nm)=eff.name:=by
  by_cases h:100 < eff.name.size
  ·rw [if_pos h,if_pos (by omega)]
  ·rw [if_neg h,if_neg (by decide),show b0.nm=txt 100 eff.name from tm.nm.2.2 (by omega),strOf_txt hF.z1 (by omega)]
 have el:(if 0 < (if 100 < eff.link.size then eff.link else ⟨#[]⟩:ByteArray).size then (if 100 < eff.link.size then eff.link else ⟨#[]⟩:ByteArray) else strOf b0.ln)=eff.link:=by
  by_cases h:100 < eff.link.size
  ·rw [if_pos h,if_pos (by omega)]
  ·rw [if_neg h,if_neg (by decide),show b0.ln=txt 100 eff.link from tm.ln.2.2 (by omega),strOf_txt hF.z2 (by omega)]
 obtain ⟨D,hD⟩:∃D,bs2++List.replicate pad2 0++sums (splice b0.bytes 257 (magicOf true))++C=D:=⟨_,rfl⟩
 have hlast:Pend D (finOf eff 8) none (bs2++List.replicate pad2 0++sums (splice b0.bytes 257 (magicOf true))).length (bs2.length+pad2) none (if 100 < eff.name.size then eff.name else ⟨#[]⟩) (if 100 < eff.link.size then eff.link else ⟨#[]⟩) _:=
  .done _ _ _ _ (blkAt_of hB.ok HR H.sz (by have:=hF.sz;show eff.size≤_;omega) (bs2++List.replicate pad2 0) C hD.symm (by simp)) (mainTf H.tf).1 ⟨_,.inl ⟨rfl,rfl⟩,by
   unfold finOf rdTH
   simp only [en,el,hmn.1,hmn.2.1,hmn.2.2]⟩ (by simp only [List.length_append,List.length_replicate,hsl])
 rw [hD]
 have hD2:D=bs2++List.replicate pad2 0++(sums (splice b0.bytes 257 (magicOf true))++C):=by rw [←hD];simp only [List.append_assoc]
 obtain ⟨t2,hk⟩:=pend_k hL2 H.ln hF.z2 hD2 hlast
 obtain ⟨E,hE⟩:=longW_pre hL2 (sums (splice b0.bytes 257 (magicOf true))++C)
 obtain ⟨t1,hl⟩:=pend_l hL1 H.nm hF.z1 (hD2.trans hE) hk
 exact ⟨t1,hl⟩
theorem seal_len' {gnu:Bool} {b:HB} (k:b.Ok) (ht:b.tl=List.replicate 12 0):(sums (splice b.bytes 257 (magicOf gnu))).length=512:=by
 rw [seal_bytes k];exact (rdB_seal (gnu:=gnu) k ht).ok.length
theorem afP_of {P wu wp wg:Bool} (h:finP P wu wp wg=true):P=true:=by
 unfold finP at h
 cases P
 ·simp at h
 ·rfl
theorem afU_of {U PF hr wu wp wg:Bool} (h:finU U PF hr wu wp wg=true):U=true∧hr=false:=by
 unfold finU at h
 cases U<;>cases hr<;>simp at h⊢
theorem afG_of {G hr wu wp wg:Bool} (h:finG G hr wu wp wg=true):G=true∧hr=false:=by
 unfold finG at h
 cases G<;>cases hr<;>simp at h⊢
set_option maxHeartbeats 4000000 in
theorem pend_out {eff:TH} {R:KV} {A bs':List UInt8} {pn qn:ByteArray} {sp hr wu wp wg:Bool} (H:EffOk eff (mergeF (afF eff R) R)) (hsp:SplitC eff.name pn qn sp)
  (hmn:finU (afU eff sp) (afPF eff) hr wu wp wg=true∨finP (afP eff) wu wp wg=false→eff.mn=0∧eff.atn=0∧eff.ctn=0)
  (hO:OutH eff (mergeF (afF eff R) R) (finU (afU eff sp) (afPF eff) hr wu wp wg) (finP (afP eff) wu wp wg) (finG (afG eff) hr wu wp wg) A bs') (C:List UInt8) :
  ∃f pf th0,Pend (bs'++C) (finOf eff f) pf bs'.length A.length none ⟨#[]⟩ ⟨#[]⟩ th0∧((pf=none∧(hr=false∨∀k:ByteArray,k.size≤maxLen→mergeF (afF eff R) R k=none))∨∃ks,pf=some (mergeF (afF eff R) R,ks)∧∀k:ByteArray,k∈ks↔k.size≤maxLen∧(mergeF (afF eff R) R k).isSome=true):=by
 rcases hO with ⟨hu,p,q,b0,hU,hs,rfl⟩ | ⟨hu,hp,hP⟩ | ⟨hu,hp,hg,hG⟩
 ·obtain ⟨h1,h2⟩:=afU_of hu
  obtain ⟨th0,hth⟩:=pend_U (A:=A) (C:=C) hU hs H.fld H.tf hsp (usF_of h1) (hmn (.inl hu)).1 (fun e=>H.mz ⟨e,(hmn (.inl hu)).1⟩) rfl
  have e:(A++sums (splice b0.bytes 257 (magicOf false))).length=A.length+512:=by
   have k0:b0.Ok:=hU.ok (by
    rcases hs with h | ⟨rfl,_⟩
    ·exact h.p2
    ·decide)
   rw [List.length_append,seal_len' k0 hU.tm.tl]
  refine ⟨6,none,th0,?_,.inl ⟨rfl,.inl h2⟩⟩
  rw [e];exact hth
 ·have hp':=afP_of hp
  rcases hP with ⟨b0,h0,tm,rfl⟩ | ⟨ks,data,b1,b0,hnd,hne,hks,hdt,hb1,tm,rfl⟩
  ·obtain ⟨th0,hth⟩:=pend_P0 (A:=A) (C:=C) H tm hp' h0 rfl
   refine ⟨6,none,th0,?_,.inl ⟨rfl,.inr h0⟩⟩
   have e:(A++sums (splice b0.bytes 257 (magicOf false))).length=A.length+512:=by rw [List.length_append,seal_len' tm.ok tm.tl]
   rw [e];exact hth
  ·obtain ⟨th0,hth⟩:=pend_P1 (A:=A) (C:=C) H tm hp' hnd hne hks hdt hb1 rfl
   refine ⟨6,_,th0,?_,.inr ⟨ks,rfl,hks⟩⟩
   have e:(A++sums (splice b1.bytes 257 (magicOf false))++data.data.toList++List.replicate (padOf data.size) 0++sums (splice b0.bytes 257 (magicOf false))).length=A.length+512+data.size+padOf data.size+512:=by
    rw [List.length_append,List.length_append,List.length_append,List.length_append,List.length_replicate,seal_len' tm.ok tm.tl,seal_len' hb1.ok hb1.tl,←Lib.size_eq]
   rw [e];exact hth
 ·obtain ⟨h1,h2⟩:=afG_of hg
  obtain ⟨th0,hth⟩:=pend_G (A:=A) (C:=C) H (gnF_of h1) (hmn (.inr hp)) hG
  exact ⟨8,none,th0,hth,.inl ⟨rfl,.inl h2⟩⟩
end Go.Proofs.YtkanmkcojlefbaaGreatDoor
namespace Go.Proofs.YtkanmkcojlefbaaGreatDoor
open Go.RowKit
theorem ld26c (C:Array Value) (hs:C.size=21) (w:World) (g:Nat) (hg:w.heap[g]? =some (.cells C 26 (0,0))):(Instr.loadAt 26 (.pointer (some ⟨g,0,none⟩))).run Tryz.prog w=.ok (.agg C) w:=by
 simp only [Instr.loadAt,Instr.sureAddr,Sem.run_bind,Sem.run_pure,Result.andThen]
 exact run_loadVar_row w g 26 26 C (0,0) _ hg Tryz.underlying26 rfl (by rw [hs];exact s26)
theorem sto26 (C old:Array Value) (hs:C.size=21) (ho:old.size=21) (h1:C.all (·.oneCell')=true) (w:World) (g:Nat) (hg:w.heap[g]? =some (.cells old 26 (0,0))):(Instr.storeAt 26 (.pointer (some ⟨g,0,none⟩)) (.agg C)).run Tryz.prog w=.ok () (w.setRow g C):=by
 simp only [Instr.storeAt,Instr.sureAddr,Sem.run_bind,Sem.run_pure,Result.andThen]
 exact run_storeVar_row w g 26 26 old C hg (by rw [hs];exact s26) (by rw [hs,ho]) h1
theorem icells_one (h:SH):h.icells.all (·.oneCell')=true:=by simp [SH.icells,Value.oneCell']
theorem icells_size (h:SH):h.icells.size=21:=rfl
end Go.Proofs.YtkanmkcojlefbaaGreatDoor
