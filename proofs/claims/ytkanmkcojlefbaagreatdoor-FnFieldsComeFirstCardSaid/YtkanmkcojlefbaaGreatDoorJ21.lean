/-
  next (72): the header of the next file, with all that is told of it ahead.
-/
import Derived.Test.YtkanmkcojlefbaaGreatDoorJ20
set_option linter.unusedVariables false
namespace Go.Proofs.YtkanmkcojlefbaaGreatDoor
open Go.RowKit
def BlkAt (D:List UInt8) (p:Nat) (th:TH):Prop:=∃h:HB,(D.drop p).take 512=h.bytes∧RdAny h th∧0≤th.size∧th.size≤9223372036854775807
def DatAt (D:List UInt8) (p:Nat) (data:List UInt8) (q:Nat):Prop:=(D.drop (p+512)).take data.length=data∧0 < data.length∧data.length≤1048576∧q=p+512+data.length+padOf data.length∧q≤D.length
abbrev Recs:=KV×List ByteArray
def MainTf (tf:UInt8):Prop:=tf≠0∧tf≠120∧tf≠103∧tf≠76∧tf≠75∧tf≠83
def FinTH (pf:Option Recs) (ln lk:ByteArray) (th fin:TH):Prop:=
 ∃th1,((pf=none∧th1=th)∨∃F ks,pf=some (F,ks)∧MergeOk (restr F ks) th th1∧restr F ks kMaj=none∧restr F ks kMin=none∧restr F ks kMap=none)∧fin={ th1 with name:=if 0 < ln.size then ln else th1.name,link:=if 0 < lk.size then lk else th1.link }
inductive Pend (D:List UInt8) (fin:TH) (pf:Option Recs) (qe:Nat):Nat→Option Recs→ByteArray→ByteArray→TH→Prop
 | done (p:Nat) (ln lk:ByteArray) (th:TH) (h1:BlkAt D p th) (h2:MainTf th.tf) (h3:FinTH pf ln lk th fin) (h4:qe=p+512):Pend D fin pf qe p pf ln lk th
 | x (p q:Nat) (ln lk:ByteArray) (th th':TH) (F:KV) (ks:List ByteArray) (h1:BlkAt D p th) (h2:th.tf=120) (h3:th.size=((recsOf F ks).length:Nat)) (h4:DatAt D p (recsOf F ks) q) (h5:∀k∈ks,∃v,F k=some v∧RecOk k v∧k≠kOff∧k≠kNum)
   (h6:Pend D fin pf qe q (some (F,ks)) ln lk th'):Pend D fin pf qe p none ln lk th
 | l (p q:Nat) (pax:Option Recs) (s lk:ByteArray) (th th':TH) (h1:BlkAt D p th) (h2:th.tf=76) (h3:th.size=((s.size+1:Nat):Int)) (h4:DatAt D p (s.data.toList++ [0]) q) (h5:(0:UInt8)∉s.data.toList) (h6:Pend D fin pf qe q pax s lk th'):Pend D fin pf qe p pax ⟨#[]⟩ lk th
 | k (p q:Nat) (pax:Option Recs) (ln s:ByteArray) (th th':TH) (h1:BlkAt D p th) (h2:th.tf=75) (h3:th.size=((s.size+1:Nat):Int)) (h4:DatAt D p (s.data.toList++ [0]) q) (h5:(0:UInt8)∉s.data.toList) (h6:Pend D fin pf qe q pax ln s th'):Pend D fin pf qe p pax ln ⟨#[]⟩ th
def PaxS (B:Nat) (pax:Option Recs) (v:Value) (w:World):Prop:=(pax=none∧v=.map none)∨∃F ks mb n,pax=some (F,ks)∧v=.map (some mb)∧B≤mb∧MapS mb n (restr F ks) w
theorem PaxS.chg {B:Nat} {pax:Option Recs} {v:Value} {S:List Nat} {w w':World} (h:PaxS B pax v w) (k:Chg S w w') (hS:∀i∈S,i < B):PaxS B pax v w':=by
 rcases h with h | ⟨F,ks,mb,n,h1,h2,h3,h4⟩
 ·exact .inl h
 ·exact .inr ⟨F,ks,mb,n,h1,h2,h3,h4.chg k (fun hm=>by have:=hS mb hm;omega)⟩
theorem NoSp.chg {v:Value} {hp:Nat} {w w':World} (h:NoSp v w) (k:Chg [hp] w w') (hb:∃cs t fr,w.heap[hp]? =some (.cells cs t fr)):NoSp v w':=by
 rcases h with rfl | ⟨mb,n,F,rfl,hM,h1⟩
 ·exact .inl rfl
 ·obtain ⟨es,cl,ho⟩:=hM.obj
  obtain ⟨_,_,_,hb⟩:=hb
  refine .inr ⟨mb,n,F,rfl,hM.chg k (by
   intro hm
   rw [List.mem_singleton.1 hm,hb] at ho
   injection ho with ho
   cases ho),h1⟩
theorem PaxS.chgH {B:Nat} {pax:Option Recs} {v:Value} {hp:Nat} {w w':World} (h:PaxS B pax v w) (k:Chg [hp] w w') (hb:∃cs t fr,w.heap[hp]? =some (.cells cs t fr)):PaxS B pax v w':=by
 rcases h with h | ⟨F,ks,mb,n,h1,h2,h3,h4⟩
 ·exact .inl h
 ·obtain ⟨es,cl,ho⟩:=h4.obj
  obtain ⟨_,_,_,hb⟩:=hb
  exact .inr ⟨F,ks,mb,n,h1,h2,h3,h4.chg k (by
   intro hm
   rw [List.mem_singleton.1 hm,hb] at ho
   injection ho with ho
   cases ho)⟩
theorem PaxS.chg2 {B:Nat} {pax:Option Recs} {v:Value} {hp fb:Nat} {w w':World} (h:PaxS B pax v w) (k:Chg [hp,fb] w w') (hb:∃cs t fr,w.heap[hp]? =some (.cells cs t fr)) (hb2:∃cs t fr,w.heap[fb]? =some (.cells cs t fr)):PaxS B pax v w':=by
 rcases h with h | ⟨F,ks,mb,n,h1,h2,h3,h4⟩
 ·exact .inl h
 ·obtain ⟨es,cl,ho⟩:=h4.obj
  obtain ⟨_,_,_,hb⟩:=hb
  obtain ⟨_,_,_,hb2⟩:=hb2
  exact .inr ⟨F,ks,mb,n,h1,h2,h3,h4.chg k (by
   intro hm
   rcases List.mem_cons.1 hm with rfl | hm
   ·rw [hb] at ho;injection ho with ho;cases ho
   ·rw [List.mem_singleton.1 hm,hb2] at ho;injection ho with ho;cases ho)⟩
theorem TarAt.ex {tr br rr:Nat} {pad:Int} {cs:Array Value} {w:World} (h:TarAt tr br rr pad cs w):∃cs t fr,w.heap[tr]? =some (.cells cs t fr):=⟨_,_,_,h.heap⟩
theorem HdrB.ex {hp:Nat} {th:TH} {w:World} (h:HdrB hp th w):∃cs t fr,w.heap[hp]? =some (.cells cs t fr):=⟨_,_,_,h⟩
def posOf (br:Nat) (w:World):Nat:=match w.cell? ⟨br,1,none⟩ with | some (.int _ n)=>n.toNat | _=>0
theorem RdrAt.pos {br dr:Nat} {D:List UInt8} {i:Nat} {w:World} (h:RdrAt br dr D i w):posOf br w=i:=by
 obtain ⟨_,_,_,cap,pr,cur,hb,_⟩:=h
 unfold posOf
 rw [cell_heap hb]
 rfl
theorem RdrAt.le {br dr:Nat} {D:List UInt8} {i:Nat} {w:World} (h:RdrAt br dr D i w):i≤D.length:=h.2.2.1
theorem RdrAt.lt {br dr:Nat} {D:List UInt8} {i:Nat} {w:World} (h:RdrAt br dr D i w):br < w.heap.size∧dr < w.heap.size:=by
 obtain ⟨_,_,_,cap,pr,cur,hb,_,_,hd,_⟩:=h
 exact ⟨(Array.getElem?_eq_some_iff.1 hb).1,(Array.getElem?_eq_some_iff.1 hd).1⟩
theorem Pend.head {D:List UInt8} {fin:TH} {pf:Option Recs} {qe p:Nat} {pax:Option Recs} {ln lk:ByteArray} {th:TH} (h:Pend D fin pf qe p pax ln lk th):BlkAt D p th:=by
 cases h<;>assumption
theorem BlkAt.le {D:List UInt8} {p:Nat} {th:TH} (h:BlkAt D p th):p+512≤D.length:=by
 obtain ⟨b,h1,h2,_⟩:=h
 have:=congrArg List.length h1
 rw [h2.len,List.length_take,List.length_drop] at this
 omega
structure NxS (w:World) (tr br dr fb:Nat) (D:List UInt8) (fin:TH) (pf:Option Recs) (qe:Nat) (i pd rr:Nat) (cs:Array Value) (pax:Option Recs) (ln lk:ByteArray) (f:Int) (th:TH) (wr:World):Prop where
 pend:Pend D fin pf qe (i+pd) pax ln lk th
 hpd:pd≤511
 tar:TarAt tr br rr pd cs wr
 rdr:RdrAt br dr D i wr
 reg:RegAt rr br 0 wr
 fmt:wr.heap[fb]? =some (.cells #[.int .i64 f] 128 (0,0))
 chg:Chg [br,tr] w wr
 ne:rr≠br∧rr≠dr∧rr≠tr∧rr≠fb
set_option maxRecDepth 100000 in
set_option maxHeartbeats 8000000 in
theorem next_ok (tr br rr dr pd:Nat) (cs:Array Value) (D:List UInt8) (i:Nat) (eof:Addr) (fin th0:TH) (pf:Option Recs) (size qe:Nat) (w:World) (hT:TarAt tr br rr pd cs w) (hr:RdrAt br dr D i w) (hg:RegAt rr br 0 w) (hP:Pend D fin pf qe (i+pd) none ⟨#[]⟩ ⟨#[]⟩ th0) (hpd:pd≤511) (hs:fin.size=size) (hsz:size≤9223372036854775807)
  (htb:tr≠br) (htd:tr≠dr) (hrr:rr≠br∧rr≠dr∧rr≠tr) (he:Sent w 0 eof) (h0:0≠br∧0≠tr) :
  Calls Tryz.prog 72 #[.pointer (some ⟨tr,0,none⟩)] w fun e w'=>(∃hp rv f,e=.returned (.tuple #[.pointer (some ⟨hp,0,none⟩),.nilIface])∧HdrB hp { fin with recs:=rv,fmt:=f } w'∧PaxS w.heap.size pf rv w')∧
   RdrAt br dr D qe w'∧(∃rr' cs',TarAt tr br rr' (padOf (dataLen fin.tf size)) cs' w'∧RegAt rr' br (dataLen fin.tf size) w'∧w.heap.size≤rr')∧Chg [br,tr] w w':=by
 have hbl:=hr.lt
 have htl:tr < w.heap.size:=(Array.getElem?_eq_some_iff.1 hT.heap).1
 have hrl:rr < w.heap.size:=(Array.getElem?_eq_some_iff.1 hg).1
 have h0l:0 < w.heap.size:=World.block_lt_of_cell? w _ he
 have hk0:Chg [] w (w.alloc (.cells #[.int .i64 14] 128)):=(Chg.refl _ w).alloc _
 have hN:NxS w tr br dr w.heap.size D fin pf qe i pd rr cs none ⟨#[]⟩ ⟨#[]⟩ 14 th0 (w.alloc (.cells #[.int .i64 14] 128)):=
  ⟨hP,hpd,hT.chg hk0 (by simp),hr.chg' hk0 (by simp) (by simp),hg.chg hk0 (by simp),heap_alloc_new w _,hk0.mono (by simp),hrr.1,hrr.2.1,hrr.2.2,by omega⟩
 have HE:=Lib.hid he;have HS:=Lib.hid hs;have HN:=Lib.hid hN
 clear hT hr hg hP he hs hN hk0 hpd
 have hn35:=eql_nil
 go_enter Tryz.func72,Tryz.ntmps72
 go_wp2
 generalize hfb:w.heap.size=fb at*
 have HFB:=Lib.hid hfb
 clear hfb
 generalize w.alloc (.cells #[.int .i64 14] 128)=w0 at HN⊢
 go_loopw [4,5,6] (fun s4 s5 s6 wr=>∃i pd rr cs pax ln lk f th,PaxS (fb+1) pax s4 wr∧s5=.string ln∧s6=.string lk∧NxS w tr br dr fb D fin pf qe i pd rr cs pax ln lk f th wr) (fun _ _ _ wr=>D.length - posOf br wr)
 case atStart=>exact ⟨i,pd,rr,cs,none,_,_,14,th0,.inl ⟨rfl,rfl⟩,rfl,rfl,HN.out⟩
 case round=>
  obtain ⟨i,pd,rr,cs,pax,ln,lk,f,th,hpx,rfl,rfl,hN⟩:=hrel
  have hb:=hN.pend.head
  have hble:=hb.le
  have hpdl:=hN.hpd
  have hrn:=hN.ne
  have d0:wr.cell? ⟨tr,0,none⟩=some (.iface 84 (.pointer (some ⟨br,0,none⟩))):=hN.tar.cl 0 _ hN.tar.c0
  have d2:wr.cell? ⟨tr,2,none⟩=some (.iface 146 (.pointer (some ⟨rr,0,none⟩))):=hN.tar.cl 2 _ hN.tar.c2
  have e0:wr.cell? ⟨rr,0,none⟩=some (.iface 84 (.pointer (some ⟨br,0,none⟩))):=by rw [cell_heap hN.reg];rfl
  have e1:wr.cell? ⟨rr,1,none⟩=some (.int .i64 0):=by rw [cell_heap hN.reg];rfl
  have hmp:(method 511 146 (.pointer (some ⟨rr,0,none⟩)) "tapearchives/pub/gotar.physicalRemaining").run Tryz.prog wr.drew=.ok (348,.agg #[.iface 84 (.pointer (some ⟨br,0,none⟩)),.int .i64 0]) wr.drew:=meth_phys rr _ _ wr.drew e0 e1
  have hE:Sent wr 0 eof:=HE.out.chg hN.chg (by simp;exact h0)
  have HNX:=Lib.hid hN;have HPX:=Lib.hid hpx;have HE1:=Lib.hid hE
  obtain ⟨hbk,hb1,hb2,hb3,hb4⟩:=hb
  obtain ⟨sz,hsz0⟩:=Int.eq_ofNat_of_zero_le hb3
  have hszl:sz≤9223372036854775807:=by omega
  have HB1:=Lib.hid hb1;have HB2:=Lib.hid hb2;have HZ:=Lib.hid hsz0
  clear hN hpx hE hb1 hb2 hb3 hb4 hsz0
  go_wp2
  go_region_held3 (fun w'=>w'.cell? ⟨tr,0,none⟩=some (.iface 84 (.pointer (some ⟨br,0,none⟩)))∧w'.cell? ⟨tr,2,none⟩=some (.iface 146 (.pointer (some ⟨rr,0,none⟩)))∧(method 511 146 (.pointer (some ⟨rr,0,none⟩)) "tapearchives/pub/gotar.physicalRemaining").run Tryz.prog w'=.ok (348,.agg #[.iface 84 (.pointer (some ⟨br,0,none⟩)),.int .i64 0]) w'∧Chg [] wr w') (first | exact keep1 d0 d2 e0 e1 (Chg.refl _ _) | exact keep1 d0 d2 e0 e1 (Chg.refl _ _).drew | exact keep1 d0 d2 e0 e1 (by assumption)) ((first | (go_at_call 348;refine (phys_any rr br 0 _).mono ?_;rintro e w2 ⟨rfl,hp⟩;have hp1:Chg [] wr w2:=Chg.trans (last4 (by assumption)) hp;clear hp) | (go_at_call 146;refine (discard_none br eof _ (by exact HE1.out.chg (last4 (by assumption)) (by simp))).mono ?_;rintro e w3 ⟨rfl,hp2⟩;have hp3:Chg [] wr w3:=Chg.trans (last4 (by assumption)) hp2;clear hp2)))
  have hN3:=hp3
  have HP3:=Lib.hid hp3
  have t0:w3.cell? ⟨tr,0,none⟩=some (.iface 84 (.pointer (some ⟨br,0,none⟩))):=hp3.cell d0 (by simp)
  have t1:w3.cell? ⟨tr,1,none⟩=some (.int .i64 pd):=hp3.cell (HNX.out.tar.cl 1 _ HNX.out.tar.c1) (by simp)
  have hpd5:(pd:Int)≤512:=by omega
  have hE3:=Lib.hid (HE1.out.chg hp3 (by simp))
  clear d0 d2 e0 e1 hmp hp3 hN3
  go_wp2
  go_region_held3 (fun w'=>w'.cell? ⟨tr,0,none⟩=some (.iface 84 (.pointer (some ⟨br,0,none⟩)))∧w'.cell? ⟨tr,1,none⟩=some (.int .i64 pd)) (first | exact ⟨t0,t1⟩ | (repeat' (first | assumption | apply And.intro))) ((first | (go_at_call 147;refine (tryFull_pad tr br rr dr pd 512 pd cs D i eof _ (by exact HNX.out.tar.chg (HP3.out.trans (Chg.refl [] w3).drew) (by simp)) (by exact HNX.out.rdr.chg' (HP3.out.trans (Chg.refl [] w3).drew) (by simp) (by simp)) (by omega) (by omega) rfl (by exact hE3.out.chg (Chg.refl [] w3).drew (by simp)) htb htd h0).mono ?_;rintro e w4 ⟨rfl,g1,⟨cs4,g2⟩,g3⟩;have q0:=g2.cl 0 _ g2.c0;have q1:=g2.cl 1 _ g2.c1;have G1:=Lib.hid g1;have G2:=Lib.hid g2;have G3:=Lib.hid ((HP3.out.trans (Chg.refl [] w3).drew).mono (S':= [br,tr]) (by simp) |>.trans g3);clear g1 g2 g3)))
  have q1:w4.cell? ⟨tr,1,none⟩=some (.int .i64 pd):=G2.out.cl 1 _ G2.out.c1
  have fq1:w4.frozen? ⟨tr,1,none⟩=false:=frozen_heap G2.out.heap 1
  clear t0 t1
  go_upto_region 11 with (fail)
  have k5:=G2.out.setPad 0
  have c5:Chg [tr] w4 (w4.setCell ⟨tr,1,none⟩ (.int .i64 0)):=(Chg.refl _ _).setCell (.inl (by simp)) _
  have r5:=G1.out.chg' c5 (by simp;exact htb.symm) (by simp;exact htd.symm)
  have g5:=G3.out.trans (c5.mono (S':= [br,tr]) (by simp))
  generalize w4.setCell ⟨tr,1,none⟩ (.int .i64 0)=w5 at*
  have K5:=Lib.hid k5;have R5:=Lib.hid r5;have G5:=Lib.hid g5
  clear q0 q1 fq1 k5 c5 r5 g5 G1 G2 G3
  go_upto_region 14 with (go_at_call 148;refine (readHeader_any tr br rr dr 0 _ D (i+pd) hbk th _ K5.out R5.out HB1.out HB2.out htb htd).mono ?_;rintro e w6 ⟨⟨hp,rfl,hlo,hh⟩,r6,⟨cs6,k6⟩,g6⟩;have HH6:=Lib.hid hh;have R6:=Lib.hid r6;have K6:=Lib.hid k6;have G6:=Lib.hid (G5.out.trans g6);have HLO:=Lib.hid (Nat.le_trans G5.out.size hlo);clear hh r6 k6 g6 hlo)
  have hhp:wr.heap.size≤hp:=HLO.out
  have hwl:w.heap.size≤wr.heap.size:=HNX.out.chg.size
  have hfl:fb < wr.heap.size:=(Array.getElem?_eq_some_iff.1 HNX.out.fmt).1
  have hwfb:fb≤w.heap.size∧w.heap.size≤fb:=by have:=HFB.out;omega
  go_upto_region 17 with (go_at_call 149;refine (regular_any tr br rr hp sz 0 cs6 th _ K6.out HH6.out HZ.out hszl).mono ?_;rintro e w7 ⟨rfl,⟨rr7,cs7,hr7,k7,e7⟩,g7⟩;have K7:=Lib.hid k7;have E7:=Lib.hid e7;have HH7:=Lib.hid (HH6.out.chg g7 (by simp;omega));have R7:=Lib.hid (R6.out.chg' g7 (by simp;exact htb.symm) (by simp;exact htd.symm));have G7:=Lib.hid (G6.out.trans (g7.mono (S':= [br,tr]) (by simp)));have HR7:=Lib.hid (Nat.le_trans G6.out.size hr7);have HHR:=Lib.hid (Nat.lt_of_lt_of_le HH6.out.lt hr7);clear k7 e7 g7 hr7)
  have hrr7:wr.heap.size≤rr7:=HR7.out
  have hhr7:hp < rr7:=HHR.out
  have F7:w7.heap[fb]? =some (.cells #[.int .i64 f] 128 (0,0)):=G7.out.heap HNX.out.fmt (by simp;omega)
  have cf:w7.cell? ⟨fb,0,none⟩=some (.int .i64 f):=by rw [cell_heap F7];rfl
  have ff:w7.frozen? ⟨fb,0,none⟩=false:=frozen_heap F7 0
  have c19:=HH7.out.c 19 _ rfl
  have HF7:=Lib.hid F7
  clear F7
  go_upto_region 18 with (go_at_call 123;refine (only_gen fb f th.fmt _ cf ff).mono ?_;rintro e w8 ⟨rfl,hw8⟩;have g8:Chg [fb] w7 w8:=(by rw [hw8];exact (Chg.refl _ _).setCell (.inl (by simp)) _);have f8:w8.heap[fb]? =some (.cells #[.int .i64 (bits .and .i64 f th.fmt)] 128 (0,0)):=(by rw [hw8,heap_setCell_at HF7.out];rfl);have F8:=Lib.hid f8;have GF8:=Lib.hid g8;clear hw8 f8 g8)
  have K8:=Lib.hid (K7.out.chg GF8.out (by simp;omega));have E8:=Lib.hid (E7.out.chg GF8.out (by simp;omega));have HH8:=Lib.hid (HH7.out.chg GF8.out (by simp;omega));have R8:=Lib.hid (R7.out.chg' GF8.out (by simp;omega) (by simp;omega))
  have G8:Hid (Chg [br,tr,fb] wr w8):=Lib.hid ((G7.out.mono (by simp)).trans (GF8.out.mono (by simp)))
  have c0:=HH8.out.c 0 (.int .u8 th.tf.toNat) rfl
  clear cf ff c19 K7 E7 HH7 R7 G7 HF7 HB1 HB2 K6 HH6 R6 G6 K5 R5 G5 HP3 hE3 HR7 HLO HHR
  generalize bits .and .i64 f th.fmt=f8 at F8
  clear hp1
  have hEN:=Lib.hid (HE1.out.chg G8.out (by simp;omega))
  have hPN:=HNX.out.pend
  generalize hpp:i+pd=p at hPN R8 hble
  have HPP:=Lib.hid hpp
  have HCW:=Lib.hid HNX.out.chg
  have HPD:=Lib.hid HNX.out.rdr
  clear HNX hpp
  cases hPN with
  | x p q ln lk th th' F ks h1 h2 h3 h4 h5 h6=>
   obtain ⟨d1,d2,d3,d4,d5⟩:=h4
   obtain rfl:sz=(recsOf F ks).length:=by have:=HZ.out;omega
   have hdl:dataLen th.tf (recsOf F ks).length=(recsOf F ks).length:=by rw [h2];rfl
   have c0':w8.cell? ⟨hp,0,none⟩=some (.int .u8 120):=by rw [c0,h2];rfl
   have k8:=K8.out;have e8:=E8.out
   rw [hdl] at k8 e8
   have cf:w8.cell? ⟨fb,0,none⟩=some (.int .i64 f8):=by rw [cell_heap F8.out];rfl
   have ff:w8.frozen? ⟨fb,0,none⟩=false:=frozen_heap F8.out 0
   have K:=Lib.hid k8;have E:=Lib.hid e8;have D1:=Lib.hid d1;have D4:=Lib.hid d4;have H5:=Lib.hid h5;have H6:=Lib.hid h6
   clear c0 k8 e8 K8 E8 hdl h2 h3 h5 h6 d1 d4 HZ
   generalize hnb:(recsOf F ks).length=nb at*
   have HNB:=Lib.hid hnb
   clear hnb
   go_upto_region 43 with (go_at_call 123;refine (only_gen fb f8 4 _ cf ff).mono ?_;rintro e w9 ⟨rfl,hw9⟩;have g9:Chg [fb] w8 w9:=(by rw [hw9];exact (Chg.refl _ _).setCell (.inl (by simp)) _);have f9:w9.heap[fb]? =some (.cells #[.int .i64 (bits .and .i64 f8 4)] 128 (0,0)):=(by rw [hw9,heap_setCell_at F8.out];rfl);have F9:=Lib.hid f9;have G9:=Lib.hid g9;clear hw9 f9 g9)
   have K9:=Lib.hid (K.out.chg G9.out (by simp;omega));have E9:=Lib.hid (E.out.chg G9.out (by simp;omega));have R9:=Lib.hid (R8.out.chg' G9.out (by simp;omega) (by simp;omega));have EN9:=Lib.hid (hEN.out.chg G9.out (by simp;omega));have HH9:=Lib.hid (HH8.out.chg G9.out (by simp;omega))
   have c09:w9.cell? ⟨hp,0,none⟩=some (.int .u8 120):=G9.out.cell c0' (by simp;omega)
   clear c0' cf ff
   have HCALL:=Lib.hid (parsePAX_ok tr rr7 br dr D (p+512) nb eof F ks w9 R9.out E9.out (K9.out.cl 2 _ K9.out.c2) (K9.out.cl 515 _ K9.out.c515) (by have:=D4.out;omega) (by omega) (by omega) d2 d3 EN9.out ⟨h0.1,by omega⟩ ⟨htb,by omega⟩ D1.out H5.out)
   go_wp2_with (first | (go_at_call 150;refine HCALL.out.mono ?_;rintro e w10 ⟨⟨mb,rfl,hmb,hM⟩,r10,e10,g10⟩;have c010:w10.cell? ⟨hp,0,none⟩=some (.int .u8 120):=g10.cell c09 (by simp;omega);have HM:=Lib.hid hM;have R10:=Lib.hid r10;have E10:=Lib.hid e10;have G10:=Lib.hid g10;have HMB:=Lib.hid (Nat.le_trans G9.out.size hmb);clear hM r10 e10 g10 hmb c09))
   have hmb8:w8.heap.size≤mb:=HMB.out
   have hw8:wr.heap.size≤w8.heap.size:=G8.out.size
   have hcf:Chg [br,tr] w w10:=((((HCW.out.mono (S':= [br,tr,fb,rr7]) (by simp)).trans (G8.out.mono (by simp))).trans (G9.out.mono (by simp))).trans (G10.out.mono (by simp))).fresh (by simp;omega)
   refine ⟨⟨p+512+nb,padOf nb,rr7,cs7,some (F,ks),ln,lk,bits .and .i64 f8 4,th',.inr ⟨F,ks,mb,ks.length,rfl,rfl,by omega,HM.out⟩,rfl,rfl,?_⟩,?_⟩
   ·exact ⟨by rw [show p+512+nb+padOf nb=q from D4.out.symm];exact H6.out,by unfold padOf;omega,K9.out.chg G10.out (by simp;omega),R10.out,E10.out,G10.out.heap F9.out (by simp;omega),hcf,by omega,by omega,by omega,by omega⟩
   ·rw [R10.out.pos,HPD.out.pos]
    have:=HPP.out;have:=D4.out;omega
  | l p q pax s lk th th' h1 h2 h3 h4 h5 h6=>
   obtain ⟨d1,d2,d3,d4,d5⟩:=h4
   have hdn:(s.data.toList++ [0]).length=s.size+1:=by rw [List.length_append,←Lib.size_eq];rfl
   rw [hdn] at d1 d2 d3 d4
   obtain rfl:sz=s.size+1:=by have:=HZ.out;omega
   have hdl:dataLen th.tf (s.size+1)=s.size+1:=by rw [h2];rfl
   have c0':w8.cell? ⟨hp,0,none⟩=some (.int .u8 76):=by rw [c0,h2];rfl
   have k8:=K8.out;have e8:=E8.out
   rw [hdl] at k8 e8
   have cf:w8.cell? ⟨fb,0,none⟩=some (.int .i64 f8):=by rw [cell_heap F8.out];rfl
   have ff:w8.frozen? ⟨fb,0,none⟩=false:=frozen_heap F8.out 0
   have K:=Lib.hid k8;have E:=Lib.hid e8;have D1:=Lib.hid d1;have D4:=Lib.hid d4;have H5:=Lib.hid h5;have H6:=Lib.hid h6;have HDN:=Lib.hid hdn
   clear c0 k8 e8 K8 E8 hdl h2 h3 h5 h6 d1 d4 HZ hdn
   generalize hnb:s.size+1=nb at*
   have HNB:=Lib.hid hnb
   clear hnb
   go_upto_region 52 with (go_at_call 123;refine (only_gen fb f8 8 _ cf ff).mono ?_;rintro e w9 ⟨rfl,hw9⟩;have g9:Chg [fb] w8 w9:=(by rw [hw9];exact (Chg.refl _ _).setCell (.inl (by simp)) _);have f9:w9.heap[fb]? =some (.cells #[.int .i64 (bits .and .i64 f8 8)] 128 (0,0)):=(by rw [hw9,heap_setCell_at F8.out];rfl);have F9:=Lib.hid f9;have G9:=Lib.hid g9;clear hw9 f9 g9)
   have K9:=Lib.hid (K.out.chg G9.out (by simp;omega));have E9:=Lib.hid (E.out.chg G9.out (by simp;omega));have R9:=Lib.hid (R8.out.chg' G9.out (by simp;omega) (by simp;omega));have EN9:=Lib.hid (hEN.out.chg G9.out (by simp;omega));have HH9:=Lib.hid (HH8.out.chg G9.out (by simp;omega))
   have c09:w9.cell? ⟨hp,0,none⟩=some (.int .u8 76):=G9.out.cell c0' (by simp;omega)
   clear c0' cf ff
   have hcall:=special_ok tr rr7 br dr D (p+512) nb eof w9 R9.out E9.out (K9.out.cl 2 _ K9.out.c2) (K9.out.cl 515 _ K9.out.c515) (by have:=D4.out;omega) (by omega) (by omega) d2 d3 EN9.out ⟨h0.1,by omega⟩ ⟨htb,by omega⟩
   rw [D1.out] at hcall
   have HCALL:=Lib.hid hcall
   clear hcall
   go_upto_region 55 with (first | (go_at_call 152;refine HCALL.out.mono ?_;rintro e w10 ⟨⟨a10,cap10,rfl,ho⟩,r10,e10,g10⟩;have HO:=Lib.hid ho;have R10:=Lib.hid r10;have E10:=Lib.hid e10;have G10:=Lib.hid g10;clear ho r10 e10 g10))
   obtain ⟨g,rfl,hby,hnc,hcm⟩:=own_by HO.out (by omega) HDN.out
   have k11:Chg [] w10 (w10.alloc (.cells #[.nilIface] 231)):=(Chg.refl _ _).alloc _
   have c010:w10.cell? ⟨hp,0,none⟩=some (.int .u8 76):=G10.out.cell c09 (by simp;omega)
   have hby11:=hby.chg k11 (by simp)
   have c011:=k11.cell c010 (by simp)
   have HBY:=Lib.hid hby11;have K11:=Lib.hid k11
   clear hby c09 c010 k11 hby11
   go_upto_region 56 with (fail)
   generalize hpb:w10.heap.size=pb at*
   clear hpb
   generalize w10.alloc (.cells #[.nilIface] 231)=w11 at*
   go_wp2_with (go_at_call 153;refine (parseString_0 _ g nb cap10 s _ HBY.out HNB.out.symm hnc hcm H5.out).mono ?_;rintro e u ⟨rfl,rfl⟩)
   have hw8:wr.heap.size≤w8.heap.size:=G8.out.size
   have g1011:Chg [br,rr7] w9 w11:=G10.out.trans (K11.out.mono (by simp))
   have hcf:Chg [br,tr] w w11:=((((HCW.out.mono (S':= [br,tr,fb,rr7]) (by simp)).trans (G8.out.mono (by simp))).trans (G9.out.mono (by simp))).trans (g1011.mono (by simp))).fresh (by simp;omega)
   have hcx:Chg [br,tr,fb] wr w11:=(((G8.out.mono (S':= [br,tr,fb,rr7]) (by simp)).trans (G9.out.mono (by simp))).trans (g1011.mono (by simp))).fresh (by simp;omega)
   refine ⟨⟨p+512+nb,padOf nb,rr7,cs7,pax,s,lk,bits .and .i64 f8 8,th',HPX.out.chg hcx (by simp;omega),rfl,rfl,?_⟩,?_⟩
   ·exact ⟨by rw [show p+512+nb+padOf nb=q from D4.out.symm];exact H6.out,by unfold padOf;omega,K9.out.chg g1011 (by simp;omega),R10.out.chg' K11.out (by simp) (by simp),E10.out.chg K11.out (by simp),g1011.heap F9.out (by simp;omega),hcf,by omega,by omega,by omega,by omega⟩
   ·rw [(R10.out.chg' K11.out (by simp) (by simp)).pos,HPD.out.pos]
    have:=HPP.out;have:=D4.out;omega
  | k p q pax ln s th th' h1 h2 h3 h4 h5 h6=>
   obtain ⟨d1,d2,d3,d4,d5⟩:=h4
   have hdn:(s.data.toList++ [0]).length=s.size+1:=by rw [List.length_append,←Lib.size_eq];rfl
   rw [hdn] at d1 d2 d3 d4
   obtain rfl:sz=s.size+1:=by have:=HZ.out;omega
   have hdl:dataLen th.tf (s.size+1)=s.size+1:=by rw [h2];rfl
   have c0':w8.cell? ⟨hp,0,none⟩=some (.int .u8 75):=by rw [c0,h2];rfl
   have k8:=K8.out;have e8:=E8.out
   rw [hdl] at k8 e8
   have cf:w8.cell? ⟨fb,0,none⟩=some (.int .i64 f8):=by rw [cell_heap F8.out];rfl
   have ff:w8.frozen? ⟨fb,0,none⟩=false:=frozen_heap F8.out 0
   have K:=Lib.hid k8;have E:=Lib.hid e8;have D1:=Lib.hid d1;have D4:=Lib.hid d4;have H5:=Lib.hid h5;have H6:=Lib.hid h6;have HDN:=Lib.hid hdn
   clear c0 k8 e8 K8 E8 hdl h2 h3 h5 h6 d1 d4 HZ hdn
   generalize hnb:s.size+1=nb at*
   have HNB:=Lib.hid hnb
   clear hnb
   go_upto_region 52 with (go_at_call 123;refine (only_gen fb f8 8 _ cf ff).mono ?_;rintro e w9 ⟨rfl,hw9⟩;have g9:Chg [fb] w8 w9:=(by rw [hw9];exact (Chg.refl _ _).setCell (.inl (by simp)) _);have f9:w9.heap[fb]? =some (.cells #[.int .i64 (bits .and .i64 f8 8)] 128 (0,0)):=(by rw [hw9,heap_setCell_at F8.out];rfl);have F9:=Lib.hid f9;have G9:=Lib.hid g9;clear hw9 f9 g9)
   have K9:=Lib.hid (K.out.chg G9.out (by simp;omega));have E9:=Lib.hid (E.out.chg G9.out (by simp;omega));have R9:=Lib.hid (R8.out.chg' G9.out (by simp;omega) (by simp;omega));have EN9:=Lib.hid (hEN.out.chg G9.out (by simp;omega));have HH9:=Lib.hid (HH8.out.chg G9.out (by simp;omega))
   have c09:w9.cell? ⟨hp,0,none⟩=some (.int .u8 75):=G9.out.cell c0' (by simp;omega)
   clear c0' cf ff
   have hcall:=special_ok tr rr7 br dr D (p+512) nb eof w9 R9.out E9.out (K9.out.cl 2 _ K9.out.c2) (K9.out.cl 515 _ K9.out.c515) (by have:=D4.out;omega) (by omega) (by omega) d2 d3 EN9.out ⟨h0.1,by omega⟩ ⟨htb,by omega⟩
   rw [D1.out] at hcall
   have HCALL:=Lib.hid hcall
   clear hcall
   go_upto_region 55 with (first | (go_at_call 152;refine HCALL.out.mono ?_;rintro e w10 ⟨⟨a10,cap10,rfl,ho⟩,r10,e10,g10⟩;have HO:=Lib.hid ho;have R10:=Lib.hid r10;have E10:=Lib.hid e10;have G10:=Lib.hid g10;clear ho r10 e10 g10))
   obtain ⟨g,rfl,hby,hnc,hcm⟩:=own_by HO.out (by omega) HDN.out
   have k11:Chg [] w10 (w10.alloc (.cells #[.nilIface] 231)):=(Chg.refl _ _).alloc _
   have c010:w10.cell? ⟨hp,0,none⟩=some (.int .u8 75):=G10.out.cell c09 (by simp;omega)
   have hby11:=hby.chg k11 (by simp)
   have c011:=k11.cell c010 (by simp)
   have HBY:=Lib.hid hby11;have K11:=Lib.hid k11
   clear hby c09 c010 k11 hby11
   go_upto_region 56 with (fail)
   generalize hpb:w10.heap.size=pb at*
   clear hpb
   generalize w10.alloc (.cells #[.nilIface] 231)=w11 at*
   go_wp2_with (go_at_call 153;refine (parseString_0 _ g nb cap10 s _ HBY.out HNB.out.symm hnc hcm H5.out).mono ?_;rintro e u ⟨rfl,rfl⟩)
   have hw8:wr.heap.size≤w8.heap.size:=G8.out.size
   have g1011:Chg [br,rr7] w9 w11:=G10.out.trans (K11.out.mono (by simp))
   have hcf:Chg [br,tr] w w11:=((((HCW.out.mono (S':= [br,tr,fb,rr7]) (by simp)).trans (G8.out.mono (by simp))).trans (G9.out.mono (by simp))).trans (g1011.mono (by simp))).fresh (by simp;omega)
   have hcx:Chg [br,tr,fb] wr w11:=(((G8.out.mono (S':= [br,tr,fb,rr7]) (by simp)).trans (G9.out.mono (by simp))).trans (g1011.mono (by simp))).fresh (by simp;omega)
   refine ⟨⟨p+512+nb,padOf nb,rr7,cs7,pax,ln,s,bits .and .i64 f8 8,th',HPX.out.chg hcx (by simp;omega),rfl,rfl,?_⟩,?_⟩
   ·exact ⟨by rw [show p+512+nb+padOf nb=q from D4.out.symm];exact H6.out,by unfold padOf;omega,K9.out.chg g1011 (by simp;omega),R10.out.chg' K11.out (by simp) (by simp),E10.out.chg K11.out (by simp),g1011.heap F9.out (by simp;omega),hcf,by omega,by omega,by omega,by omega⟩
   ·rw [(R10.out.chg' K11.out (by simp) (by simp)).pos,HPD.out.pos]
    have:=HPP.out;have:=D4.out;omega
  | done p ln lk th h1 h2 h3 h4=>
   obtain ⟨m0,m120,m103,m76,m75,m83⟩:=h2
   have tne:∀c:UInt8,th.tf≠c→((th.tf.toNat:Int) == (c.toNat:Int))=false:=by
    intro c hc
    simp only [beq_eq_false_iff_ne,ne_eq]
    intro e
    exact hc (UInt8.toNat_inj.1 (by omega))
   have t0:((th.tf.toNat:Int) == 0)=false:=tne 0 m0
   have t120:((th.tf.toNat:Int) == 120)=false:=tne 120 m120
   have t103:((th.tf.toNat:Int) == 103)=false:=tne 103 m103
   have t76:((th.tf.toNat:Int) == 76)=false:=tne 76 m76
   have t75:((th.tf.toNat:Int) == 75)=false:=tne 75 m75
   obtain ⟨th1,hm,hfin⟩:=h3
   have htf1:th1.tf=th.tf:=by
    rcases hm with ⟨_,rfl⟩ | ⟨F,ks,_,hmo,_⟩
    ·rfl
    ·exact hmo.tf
   have hhf:hp≠fb:=by omega
   have hp8:hp < w8.heap.size:=HH8.out.lt
   have hmerge:Calls Tryz.prog 151 #[.pointer (some ⟨hp,0,none⟩),u4] w8 fun e w'=>e=.returned .nilIface∧HdrB hp { th1 with recs:=u4 } w'∧NoSp u4 w'∧PaxS w.heap.size pf u4 w'∧Chg [hp] w8 w':=by
    rcases hm with ⟨rfl,rfl⟩ | ⟨F,ks,rfl,hmo,hk1,hk2,hk3⟩
    ·rcases HPX.out with ⟨_,rfl⟩ | ⟨_,_,_,_,hx,_⟩
     ·refine (merge_nil hp _ w8 HH8.out).mono ?_
      rintro e w' ⟨rfl,g1,g2⟩
      exact ⟨rfl,g1,.inl rfl,.inl ⟨rfl,rfl⟩,g2⟩
     ·cases hx
    ·rcases HPX.out with ⟨hx,_⟩ | ⟨F',ks',mb,n,hx,rfl,hmb,hM⟩
     ·cases hx
     ·injection hx with hx
      injection hx with e1 e2
      subst e1;subst e2
      have hmlt:=hM.lt
      have hM8:=hM.chg G8.out (by simp;omega)
      refine (merge_any hp mb n _ _ _ w8 HH8.out hM8 (by omega) hmo).mono ?_
      rintro e w' ⟨rfl,g1,g2,g3⟩
      exact ⟨rfl,g1,.inr ⟨mb,n,_,rfl,g2,hk1,hk2,hk3⟩,.inr ⟨F,ks,mb,n,rfl,rfl,by omega,g2⟩,g3⟩
   have HME:=Lib.hid hmerge;have HFI:=Lib.hid hfin;have HT1:=Lib.hid htf1;have HQE:=Lib.hid h4
   have HT0:=Lib.hid t0;have H83:=Lib.hid m83
   clear hmerge hfin htf1 h4 hm h1 t0 tne m0 m120 m103 m76 m75 m83
   obtain ⟨zl,hzl⟩:∃z,ln.toList.isEmpty=z:=⟨_,rfl⟩
   obtain ⟨zk,hzk⟩:∃z,lk.toList.isEmpty=z:=⟨_,rfl⟩
   have HZL:Hid (zl= !decide (0 < ln.size)):=Lib.hid (by
    by_cases h:0 < ln.size
    ·rw [←hzl,neEmpty h];simp [h]
    ·rw [←hzl,isEmpty0 h];simp [h])
   have HZK:Hid (zk= !decide (0 < lk.size)):=Lib.hid (by
    by_cases h:0 < lk.size
    ·rw [←hzk,neEmpty h];simp [h]
    ·rw [←hzk,isEmpty0 h];simp [h])
   obtain ⟨N,hNN⟩:∃N:ByteArray,(if 0 < ln.size then ln else th1.name)=N:=⟨_,rfl⟩
   obtain ⟨M,hMM⟩:∃M:ByteArray,(if 0 < lk.size then lk else th1.link)=M:=⟨_,rfl⟩
   have HNN:=Lib.hid hNN;have HMM:=Lib.hid hMM
   clear hNN hMM
   go_upto_if 87 with (go_at_call 151;refine HME.out.mono ?_;rintro e w9 ⟨rfl,hh9,hn9,hx9,g9⟩;have H9:=Lib.hid hh9;have N9:=Lib.hid hn9;have X9:=Lib.hid hx9;have G9:=Lib.hid g9;have c1:=hh9.c 1 _ rfl;have f1:=hh9.f 1;clear hh9 hn9 hx9 g9)
   clear t120 t103 t76 t75 c0
   clear hzl
   go_cut [] (fun w'=>HdrB hp { th1 with name:=N,recs:=u4 } w'∧Chg [hp] w9 w')
   case first=>
    cases zl
    ·have hl:0 < ln.size:=by have:=HZL.out;simpa using this
     have HL:=Lib.hid hl
     clear hl
     go_wp2
     go_meet
     case rel=>exact ⟨by rw [←HNN.out,if_pos HL.out];exact H9.out.set 1 (.string ln) _ rfl,(Chg.refl _ _).setCell (.inl (by simp)) _⟩
    ·have hl:¬0 < ln.size:=by have:=HZL.out;simpa using this
     have HL:=Lib.hid hl
     clear hl
     go_wp2
     go_meet
     case rel=>exact ⟨by rw [←HNN.out,if_neg HL.out];exact H9.out,Chg.refl _ _⟩
   case rest=>
    obtain ⟨h10,g10⟩:=hcut
    have H10:=Lib.hid h10;have G10:=Lib.hid (G9.out.trans g10)
    have N10:=Lib.hid (N9.out.chg g10 H9.out.ex);have X10:=Lib.hid (X9.out.chgH g10 H9.out.ex)
    have c2:=h10.c 2 _ rfl;have f2:=h10.f 2
    clear h10 g10 H9 G9 N9 X9 c1 f1
    go_upto_if 93 with (fail)
    clear hzk
    go_cut [] (fun w'=>HdrB hp { th1 with name:=N,link:=M,recs:=u4 } w'∧Chg [hp] wc w')
    case first=>
     cases zk
     ·have hl:0 < lk.size:=by have:=HZK.out;simpa using this
      have HL:=Lib.hid hl
      clear hl
      go_wp2
      go_meet
      case rel=>exact ⟨by rw [←HMM.out,if_pos HL.out];exact H10.out.set 2 (.string lk) _ rfl,(Chg.refl _ _).setCell (.inl (by simp)) _⟩
     ·have hl:¬0 < lk.size:=by have:=HZK.out;simpa using this
      have HL:=Lib.hid hl
      clear hl
      go_wp2
      go_meet
      case rel=>exact ⟨by rw [←HMM.out,if_neg HL.out];exact H10.out,Chg.refl _ _⟩
    case rest=>
     obtain ⟨h11,g11⟩:=hcut
     rename_i wd
     have hFF:({ th1 with name:=N,link:=M,recs:=u4 }:TH)={ fin with recs:=u4 }:=by rw [HFI.out,HNN.out,HMM.out]
     rw [hFF] at h11
     have g12:=G10.out.trans g11
     have K12:=Lib.hid (K8.out.chg g12 (by simp;omega));have R12:=Lib.hid (R8.out.chg' g12 (by simp;omega) (by simp;omega));have F12:=Lib.hid (g12.heap F8.out (by simp;omega));have N12:=Lib.hid (N10.out.chg g11 H10.out.ex);have X12:=Lib.hid (X10.out.chgH g11 H10.out.ex)
     have H12:=Lib.hid h11;have G12:=Lib.hid g12
     have hft:fin.tf=th.tf:=by rw [HFI.out];exact HT1.out
     have c0:=h11.c 0 (.int .u8 fin.tf.toNat) rfl
     have t0:((fin.tf.toNat:Int) == 0)=false:=by rw [hft];exact HT0.out
     have hf83:fin.tf≠83:=by rw [hft];exact H83.out
     have HF83:=Lib.hid hf83
     clear h11 g11 g12 hFF hft hf83 N10 X10 c2 f2 H10 G10 K8 E8 HH8 R8 F8 HME HFI
     go_upto_region 36 with (first
      | (go_at_call 149;refine (regular_any tr br rr7 hp size _ cs7 _ _ K12.out H12.out HS.out hsz).mono ?_;rintro e w12 ⟨rfl,⟨rr12,cs12,hr12,k12,e12⟩,g12⟩;have K13:=Lib.hid k12;have E13:=Lib.hid e12;have G13:=Lib.hid (G12.out.mono (S':= [hp,tr]) (by simp) |>.trans (g12.mono (by simp)));have H13:=Lib.hid (H12.out.chg g12 (by simp;omega));have N13:=Lib.hid (N12.out.chg g12 K12.out.ex);have X13:=Lib.hid (X12.out.chgH g12 K12.out.ex);have F13:=Lib.hid (g12.heap F12.out (by simp;omega));have R13:=Lib.hid (R12.out.chg' g12 (by simp;exact htb.symm) (by simp;exact htd.symm));have HR13:=Lib.hid (Nat.le_trans G12.out.size hr12);clear k12 e12 g12 hr12 c0)
      | (go_at_call 154;refine (sparse_none tr hp _ _ _ H13.out N13.out HF83.out).mono ?_;rintro e w13 ⟨rfl,g14⟩;have K14:=Lib.hid (K13.out.chg g14 (by simp));have E14:=Lib.hid (E13.out.chg g14 (by simp));have G14:=Lib.hid (G13.out.trans (g14.mono (by simp)));have H14:=Lib.hid (H13.out.chg g14 (by simp));have X14:=Lib.hid (X13.out.chg g14 (by simp));have F14:=Lib.hid (g14.heap F13.out (by simp));have R14:=Lib.hid (R13.out.chg' g14 (by simp) (by simp));clear g14))
     have cf:w13.cell? ⟨fb,0,none⟩=some (.int .i64 f8):=by rw [cell_heap F14.out];rfl
     have ff:w13.frozen? ⟨fb,0,none⟩=false:=frozen_heap F14.out 0
     have c19:=H14.out.c 19 _ rfl;have f19:=H14.out.f 19
     have hw8:wr.heap.size≤w8.heap.size:=G8.out.size
     have hfin:∀w' g,Chg [hp,fb] w13 w'→HdrB hp { fin with recs:=u4,fmt:=g } w'→(HdrB hp { fin with recs:=u4,fmt:=g } w'∧PaxS w.heap.size pf u4 w')∧
       RdrAt br dr D qe w'∧(∃rr' cs',TarAt tr br rr' (padOf (dataLen fin.tf size)) cs' w'∧RegAt rr' br (dataLen fin.tf size) w'∧w.heap.size≤rr')∧Chg [br,tr] w w':=by
      intro w' g hc hh
      have hcell:∃cs t fr,w13.heap[fb]? =some (.cells cs t fr):=⟨_,_,_,F14.out⟩
      have hr14:w8.heap.size≤rr12:=HR13.out
      refine ⟨⟨hh,?_⟩,?_,⟨rr12,cs12,K14.out.chg hc (by simp;omega),E14.out.chg hc (by simp;omega),by omega⟩,?_⟩
      ·exact X14.out.chg2 hc H14.out.ex hcell
      ·rw [HQE.out];exact R14.out.chg' hc (by simp;omega) (by simp;omega)
      ·exact ((((HCW.out.mono (S':= [br,tr,fb,hp]) (by simp)).trans (G8.out.mono (by simp))).trans (G14.out.mono (by simp))).trans (hc.mono (by simp))).fresh (by simp;omega)
     have HFIN:=Lib.hid hfin
     clear hfin
     obtain ⟨b1,hb1⟩:∃b,(bits .and .i64 f8 2 != 0)=b:=⟨_,rfl⟩
     obtain ⟨b2,hb2⟩:∃b,(bits .and .i64 f8 4 != 0)=b:=⟨_,rfl⟩
     have h66a:=fun w=>has_gen f8 2 w
     have h66b:=fun w=>has_gen f8 4 w
     rw [hb1] at h66a
     rw [hb2] at h66b
     have HA:=Lib.hid h66a;have HB:=Lib.hid h66b
     clear h66a h66b hb1 hb2
     cases b1
     ·go_wp2_with (go_at_call 66;refine (HA.out _).mono ?_;rintro e u ⟨rfl,rfl⟩)
      go_ret2
      have q:=HFIN.out _ f8 ((Chg.refl [hp,fb] _).setCell (.inl (by simp)) _) (H14.out.set 19 (.int .i64 f8) _ rfl)
      exact ⟨⟨hp,u4,f8,rfl,q.1.1,q.1.2⟩,q.2⟩
     ·cases b2
      ·go_wp2_with (first | (go_at_call 66;refine (HA.out _).mono ?_;rintro e u ⟨rfl,rfl⟩) | (go_at_call 66;refine (HB.out _).mono ?_;rintro e u ⟨rfl,rfl⟩))
       go_ret2
       have q:=HFIN.out _ f8 ((Chg.refl [hp,fb] _).setCell (.inl (by simp)) _) (H14.out.set 19 (.int .i64 f8) _ rfl)
       exact ⟨⟨hp,u4,f8,rfl,q.1.1,q.1.2⟩,q.2⟩
      ·go_wp2_with (first | (go_at_call 66;refine (HA.out _).mono ?_;rintro e u ⟨rfl,rfl⟩) | (go_at_call 66;refine (HB.out _).mono ?_;rintro e u ⟨rfl,rfl⟩) | (go_at_call 123;refine (only_gen fb f8 2 _ cf ff).mono ?_;rintro e w14 ⟨rfl,hw14⟩;have g15:Chg [hp,fb] w13 w14:=(by rw [hw14];exact (Chg.refl _ _).setCell (.inl (by simp)) _);have f15:w14.heap[fb]? =some (.cells #[.int .i64 (bits .and .i64 f8 2)] 128 (0,0)):=(by rw [hw14,heap_setCell_at F14.out];rfl);have h15:HdrB hp { fin with recs:=u4 } w14:=(by rw [hw14];exact H14.out.chg ((Chg.refl [fb] _).setCell (.inl (by simp)) _) (by simp;exact hhf));have c15:w14.cell? ⟨fb,0,none⟩=some (.int .i64 (bits .and .i64 f8 2)):=(by rw [cell_heap f15];rfl);have e19:=h15.c 19 _ rfl;have e19':=h15.f 19;have G15:=Lib.hid g15;have H15:=Lib.hid h15;clear g15 f15 h15 hw14))
       go_ret2
       have q:=HFIN.out _ (bits .and .i64 f8 2) (G15.out.setCell (.inl (by simp)) _) (H15.out.set 19 (.int .i64 (bits .and .i64 f8 2)) _ rfl)
       exact ⟨⟨hp,u4,_,rfl,q.1.1,q.1.2⟩,q.2⟩
end Go.Proofs.YtkanmkcojlefbaaGreatDoor
