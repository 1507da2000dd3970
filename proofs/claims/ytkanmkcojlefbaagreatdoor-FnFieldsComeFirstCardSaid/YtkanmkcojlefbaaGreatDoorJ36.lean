/-
  headerOf (38): its third part, the records.
-/
import Derived.Test.YtkanmkcojlefbaaGreatDoorJ33
import Derived.Test.YtkanmkcojlefbaaGreatDoorJ35
import Derived.Deep.CutRange
import Derived.Deep.CutBlock
set_option linter.unusedVariables false
namespace Go.Proofs.YtkanmkcojlefbaaGreatDoor
open Go.RowKit
theorem ap_facts {r ob mb n cnt:Nat} {F:KV} {left:ByteArray→Bool} {A B:List Value} {a:Option Addr} {c:Nat} {L:List (ByteArray×ByteArray)} {wc w4:World} {o:Obj} {v':Value} (h:wc.ownsRow (r+1) 59 2 (.slice a L.length c) L.length (flatR L)) (hown:w4.ownsRow (r+1) 59 2 v' (L.length+1) (flatR L++ [.string ⟨#[]⟩,.string ⟨#[]⟩])) (hgrow:(wc.alloc o).grownBy w4 (Value.slice a L.length c).ownBlock) (hO:OutB ob A B (.slice a L.length c) wc) (hR:RngS mb r n F left cnt wc) (hol:ob < r) (hml:mb < r) :
  ∃g cap cur,v'=.slice (some ⟨g,0,none⟩) (L.length+1) cap∧r+1≤g∧w4.heap[g]? =some (.cells cur 59 (0,0))∧L.length+1≤cap∧cap≤maxLen∧cur.size=cap*2∧cur.toList.take ((L.length+1)*2)=flatR L++ [.string ⟨#[]⟩,.string ⟨#[]⟩]∧OutB ob A B (.slice a L.length c) w4∧RngS mb r n F left cnt w4∧Chg (Value.slice a L.length c).ownBlock.toList wc w4:=by
 have hcg:Chg (Value.slice a L.length c).ownBlock.toList (wc.alloc o) w4:=chg_grownV hgrow (by intro g hg;rw [hg];simp)
 have hc:Chg (Value.slice a L.length c).ownBlock.toList wc w4:=((Chg.refl _ _).alloc _).trans hcg
 have hlow:∀g∈(Value.slice a L.length c).ownBlock.toList,r+1≤g:=fun g hg=>(World.ownsRow.lt h g (by simpa using hg)).1
 have ho4:=hO.chg hc (fun hm=>by have:=hlow _ hm;omega)
 have hr4:=hR.chg hc (fun hm=>by have:=hlow _ hm;omega) (fun hm=>by have:=hlow _ hm;omega)
 rcases hown.2 with ⟨_,h0⟩ | ⟨g,cap,cur,e,hbg,hg,hnc,hcm,hcs,htk⟩
 ·omega
 ·exact ⟨g,cap,cur,e,hbg,hg,hnc,hcm,hcs,htk,ho4,hr4,hc⟩
theorem own_chg {base e size n:Nat} {v:Value} {xs:List Value} {S:List Nat} {w w':World} (h:w.ownsRow base e size v n xs) (k:Chg S w w') (hs:∀g,v.ownBlock=some g→g∉S):w'.ownsRow base e size v n xs:=by
 obtain ⟨h1,h2⟩:=h
 refine ⟨h1,h2.imp id ?_⟩
 rintro ⟨g,cap,cur,rfl,hbg,hg,r⟩
 exact ⟨g,cap,cur,rfl,hbg,k.heap hg (hs g rfl),r⟩
theorem OutB.one {ob:Nat} {A B:List Value} {a:Option Addr} {n c:Nat} {w:World} (h:OutB ob A B (.slice a n c) w) (hA1:∀v∈A,v.oneCell'=true) (hB1:∀v∈B,v.oneCell'=true):(A++.slice a n c::B).toArray.all (·.oneCell')=true:=by
 simp only [List.all_toArray,List.all_eq_true,List.mem_append,List.mem_cons]
 rintro x (hx | rfl | hx)
 ·exact hA1 x hx
 ·rfl
 ·exact hB1 x hx
attribute [-go_sem] run_slice_l
attribute [-go_sem] run_slice_any
set_option maxRecDepth 100000 in
set_option maxHeartbeats 4000000 in
theorem headerOf_3 (hp ro ob mb n:Nat) (th:TH) (F:KV) (A B:List Value) (ks:List ByteArray) (w:World) (hM:MapS mb n F w) (h18:th.recs=.map (some mb)) (hh:HdrB hp th w) (ho:OutB ob A B (.slice none 0 0) w) (hom:ob≠mb) (hoh:ob≠hp) (hks:∀k v,F k=some v→k∈ks) (hkl:ks.length≤1048576) (Z:Array Value) (hZ:w.heap[ro]? =some (.cells Z 26 (0,0))) (hZs:Z.size=21) (hno:ro≠ob) (hB:B.length=1) (hA1:∀v∈A,v.oneCell'=true) (hB1:∀v∈B,v.oneCell'=true) (Qp:Ending→World→Prop) (hfin:∀(a:Option Addr) (c:Nat) (L:List (ByteArray×ByteArray)) (wr:World),RecsIn a L.length c L wr→(∀ad:Addr,a=some ad→w.heap.size≤ad.block)→L.length≤1048576→(∀k v,k.size≤maxLen→((k,v)∈L↔F k=some v))→Chg [ro,ob] w wr→Qp (.returned (.agg (A++.slice a L.length c::B).toArray)) wr)
  {u10 u11 u12 u13 u14 u15 u16 u17 u18 u19 u20 u21 u22 u23 u24 u25 u26 u27 u28 u29 u30 u31 u32 u33 u34 u35 u36 u37 u38 u39 u40 u41 u42 u43 u44 u45 u46 u47 u48 u49 u50 u51 u52 u53 u54 u55 u56 u57 u58 u59 u60 u61 u62 u63 u64 u65 u66 u67 u68 u69 u70 u71 u72 u73 u74 u75 u76 u77 u78 u79 u80 u81 u82 u83 u84 u85 u86 u87 u88 u89 u90 u91 u92 u144:Value}:Code.wp Tryz.prog (dropSeq 5 (Tryz.f38.body.getD .skip)) (bodyPost Tryz.prog Tryz.f38 Qp) ⟨#[.pointer (some ⟨hp,0,none⟩),undef,.pointer (some ⟨ro,0,none⟩),.pointer (some ⟨ob,0,none⟩),undef,undef,undef,.pointer (some ⟨hp,0,none⟩),.bool false,undef,u10,u11,u12,u13,u14,u15,u16,u17,u18,u19,u20,u21,u22,u23,u24,u25,u26,u27,u28,u29,u30,u31,u32,u33,u34,u35,u36,u37,u38,u39,u40,u41,u42,u43,u44,u45,u46,u47,u48,u49,u50,u51,u52,u53,u54,u55,u56,u57,u58,u59,u60,u61,u62,u63,u64,u65,u66,u67,u68,u69,u70,u71,u72,u73,u74,u75,u76,u77,u78,u79,u80,u81,u82,u83,u84,u85,u86,u87,u88,u89,u90,u91,u92,undef,undef,undef,undef,undef,undef,undef,undef,undef,undef,undef,undef,undef,undef,undef,undef,undef,undef,undef,undef,undef,undef,undef,undef,undef,undef,undef,undef,undef,undef,undef,undef,undef,undef,undef,undef,undef,undef,undef,undef,undef,undef,undef,undef,undef,undef,undef,undef,undef,undef,undef,u144],[]⟩ w:=by
 obtain ⟨w1,cnt,hrun,hr1,hc1,hz1⟩:=hM.range
 have hlt:=hr1.lt
 have c18:w.cell? ⟨hp,18,none⟩=some (.map (some mb)):=by rw [hh.c 18 _ rfl,h18]
 have hol:ob < w.heap.size:=(Array.getElem?_eq_some_iff.1 ho.1).1
 have HO1:=Lib.hid (ho.chg hc1 (by simp));have HR1:=Lib.hid hr1;have HC1:=Lib.hid hc1;have HKS:=Lib.hid hks
 have hmlt:=hM.lt
 obtain ⟨i0,hi0,hj0,hj1,hj2⟩:∃i,Tryz.prog.info? 59=some i∧i.zero=some (.agg #[.string ⟨#[]⟩,.string ⟨#[]⟩])∧i.size=2∧i.bytes=32:=⟨_,rfl,rfl,rfl,rfl⟩
 have hzlt:=(Array.getElem?_eq_some_iff.1 hZ).1
 have HZ:=Lib.hid hZ;have HFIN:=Lib.hid hfin
 clear hfin
 have hs26:∀x:Value,(Tryz.prog.info? 26).map (·.size)=some (A++x::B).toArray.size:=fun x=>by rw [show (A++x::B).toArray.size=21 by simp [ho.2,hB]];exact s26
 clear hZ hh ho hr1 hc1 hks hM h18
 have hrm:w.heap.size≠mb:=by omega
 have hro:w.heap.size≠ob:=by omega
 have hz2:w.heap.size+1≤w1.heap.size:=by omega
 clear hz1
 generalize hrd:w.heap.size=r at*
 have HRD:=Lib.hid hrd
 clear hrd
 conv=>arg 2;whnf
 dsimp only
 go_wp2
 go_loopw [] (fun wr=>∃left cnt' L a c,RngS mb r n F left cnt' wr∧wr.ownsRow (r+1) 59 2 (.slice a L.length c) L.length (flatR L)∧OutB ob A B (.slice a L.length c) wr∧HoL F left L∧Chg [ob,r] w wr) (fun wr=>wr.rangeLeft mb r)
 case atStart=>exact ⟨_,_,[],none,0,HR1.out,World.ownsRow_nil _ _ _ _,HO1.out,HoL.nil,HC1.out.mono (by simp)⟩
 case round=>
  obtain ⟨left,cnt',L,a,c,hR,hW,hO,hL,hC⟩:=hrel
  have HLc:=Lib.hid hR.cnt_eq
  have hnx:=hR.next 0
  have HR:=Lib.hid hR;have HW:=Lib.hid hW;have HO:=Lib.hid hO;have HL:=Lib.hid hL;have HC:=Lib.hid hC
  have hlen:=hL.len HKS.out
  clear hR hW hO hL hC
  rcases hnx with ⟨hall,hn⟩ | ⟨k,v,w2,cnt2,hks,hvs,hlk,hFk,hn,hR2,hlt2,hc2,hen⟩
  ·go_upto_region 17 with (fail)
   refine wp_region_lit ?_
   have ho:=HO.out
   have hcr:=HC.out.heap HZ.out (by simp;exact ⟨hno,fun e=>by omega⟩)
   refine wpList_load_row rfl 26 (.tmp 3) rfl ob rfl 26 _ (0,0) _ ho.1 Tryz.underlying26 rfl (hs26 _) ?_
   refine wpList_store_row rfl 26 (.tmp 2) (.tmp 144) rfl ro _ rfl rfl 26 Z hcr (hs26 _) (by rw [hZs];simp [ho.2,hB]) (ho.one hA1 hB1) ?_
   go_wp2
   refine bodyPost_ret (results_cell_row rfl _ _ ro _ _ _ _ rfl (setRow_heap _ _ _ _ _ _ hcr) Tryz.underlying26 rfl (hs26 _)) rfl ?_
   have hown:=HW.out
   have hch:=HC.out
   obtain ⟨a',c',e,hrr,hfr⟩:=recsIn_own hown rfl
   injection e with e1 e2 e3
   subst e1;subst e3
   have hrd:=HRD.out
   have hcr2:Chg [ro] wr (wr.setRow ro (A++Value.slice a L.length c::B).toArray):=(Chg.refl _ _).setRow (.inl (by simp)) _
   refine HFIN.out a c L _ (hrr.chgS hcr2 (by intro ad had hm;have:=hfr ad had;simp at hm;omega)) (fun ad had=>by have:=hfr ad had;omega) (by omega) ?_ (((hch.mono (S':= [ro,ob,r]) (by simp)).trans (hcr2.mono (by simp))).fresh (by simp;omega))
   intro k v hk
   exact ⟨fun hm=>(HL.out.mem _ hm).1,fun hf=>HL.out.all k v hk hf (hall k hk)⟩
  ·have HR2:=Lib.hid hR2;have HLT:=Lib.hid hlt2;have HC2:=Lib.hid hc2;have HFK:=Lib.hid hFk;have HLK:=Lib.hid hlk;have HKZ:=Lib.hid hks
   have hO2:=HO.out.chg hc2 (by simp;exact hro.symm)
   have hw2:=own_chg HW.out hc2 (by intro g hg hm;have:=(World.ownsRow.lt HW.out g hg).1;simp at hm;omega)
   have c19:=hO2.c
   have f19:=hO2.f
   have HO2:=Lib.hid hO2;have HW2:=Lib.hid hw2
   clear hR2 hlt2 hc2 hFk hlk hks hvs hO2 hw2
   go_upto_block 2 with (fail)
   go_cut [6] from 106 to 120 (fun v' w'=>∃i:Nat,i≤L.length∧v'=.int .i64 i∧w'=w2)
   case first=>
    go_step
    go_loopw [6] (fun v' wr'=>∃i:Nat,i≤L.length∧v'=.int .i64 i∧wr'=w2) (fun v' _=>(intOf v').toNat)
    case atStart=>exact ⟨_,Nat.le_refl _,rfl,rfl⟩
    case round=>
     obtain ⟨i,hi,rfl,rfl⟩:=hrel
     rcases i with _ | i
     ·go_wp2
      go_meet
      case rel=>exact ⟨0,Nat.zero_le _,rfl,rfl⟩
     ·have hw2:=HW2.out
      obtain ⟨_,⟨_,h0⟩ | ⟨g,c',cur,e,_⟩⟩:=id hw2
      ·omega
      injection e with e1 e2 e3
      subst e1;subst e3
      have hk1:=(flatR_get L i (by omega)).1
      have hc1:=hw2.cells rfl _ _ hk1
      rw [add_addr] at hc1
      simp only [Nat.zero_add] at hc1
      generalize (L[i]'(by omega)).1=key at hc1
      have HI:=Lib.hid hi
      have hi1:i < L.length:=by omega
      clear hw2 hk1 hi
      go_wp2
      ·exact ⟨⟨i,by omega,rfl,trivial⟩,by simp [intOf]⟩
      ·go_meet
       case rel=>exact ⟨i+1,HI.out,rfl,rfl⟩
   case rest=>
    obtain ⟨i,hi,rfl,rfl⟩:=hcut
    have hone:∀u∈ [Value.string ⟨#[]⟩,Value.string ⟨#[]⟩],u.oneCell'=true:=by simp [Value.oneCell']
    have h63:L.length+1≤maxLen:=by unfold maxLen;omega
    have hby:(L.length+1)*32≤140737488355328:=by omega
    have hba:r+1≤(wc.alloc (.cells #[Value.string ⟨#[]⟩,Value.string ⟨#[]⟩] 59)).heap.size:=by have:=HR2.out.lt;simp;omega
    have HNE:=Lib.hid (cell2_new wc (.string ⟨#[]⟩) (.string ⟨#[]⟩) 59)
    go_upto_region 15 with (at_builtin;refine wpList_append_own _ rfl _ _ 24 rfl (r+1) 59 i0 (.agg #[.string ⟨#[]⟩,.string ⟨#[]⟩]) 2 32 Tryz.underlying24 hi0 hj0 hj1 hj2 rfl (by decide) _ _ _ rfl (HW2.out.alloc _) ⟨wc.heap.size,0,none⟩ 1 1 [.string ⟨#[]⟩,.string ⟨#[]⟩] rfl rfl HNE.out hone h63 hby hba ?_;intro v' w4 hown' hgrow hnil;have hq:=ap_facts HW2.out hown' hgrow HO2.out HR2.out hol hmlt;clear hown' hgrow hnil;obtain ⟨g,cap,cur,rfl,hbg,hg,hnc,hcm,hcs,htk,ho4,hr4,hc4⟩:=hq;have c19':=ho4.c;have f19':=ho4.f;have HG:=Lib.hid hg;have HTK:=Lib.hid htk;have HO4:=Lib.hid ho4;have HR4:=Lib.hid hr4;have HC4:=Lib.hid hc4;clear hg htk ho4 hr4 hc4)
    have ho5:=HO4.out.set (u:=.slice (some ⟨g,0,none⟩) (L.length+1) cap)
    have hob4:ob≠g:=by omega
    have hg5:(w4.setCell ⟨ob,19,none⟩ (.slice (some ⟨g,0,none⟩) (L.length+1) cap)).heap[g]? =some (.cells cur 59 (0,0)):=by rw [Below.heap_setCell _ _ _ _ (Ne.symm hob4)];exact HG.out
    have hr5:=HR4.out.heap_eq (w':=w4.setCell ⟨ob,19,none⟩ (.slice (some ⟨g,0,none⟩) (L.length+1) cap)) (Below.heap_setCell _ _ _ _ (Ne.symm hom)) (Below.heap_setCell _ _ _ _ (by show r≠ob;omega))
    have hc5:Chg (ob::(Value.slice a L.length c).ownBlock.toList) wc (w4.setCell ⟨ob,19,none⟩ (.slice (some ⟨g,0,none⟩) (L.length+1) cap)):=(HC4.out.mono (fun k hk=>List.mem_cons_of_mem _ hk)).setCell (.inl (by simp)) _
    generalize w4.setCell ⟨ob,19,none⟩ (.slice (some ⟨g,0,none⟩) (L.length+1) cap)=w5 at ho5 hg5 hr5 hc5⊢
    have HO5:=Lib.hid ho5;have HG5:=Lib.hid hg5;have HR5:=Lib.hid hr5;have HC5:=Lib.hid hc5
    have c20:=ho5.c
    have f20:=ho5.f
    clear ho5 hg5 hr5 hc5 c19' f19'
    have hi64:i≤1048576:=by omega
    have hwr:IntKind.i64.wrap ((i:Int)+1)=(i:Int)+1:=IntWalk.i64_in _ (by omega)
    have hs1:=fun w'=>sl24 g (L.length+1) cap (i+1) ((i:Int)+1) rfl (by omega) w'
    have hs2:=fun w'=>sl24 g (L.length+1) cap i (i:Int) rfl (by omega) w'
    obtain ⟨w6,cur',x,y,hcp,hg6,hcs6,htk6,hc6⟩:=copy_in w5.drew g i cap L cur HG5.out hi hnc hcs HTK.out
    rw [Nat.add_sub_add_right] at hcp
    obtain ⟨⟨p1,cp1⟩,⟨p2,cp2⟩,fp1,fp2⟩:=put_fact hg6 hi hnc hcs6
    have HG6:=Lib.hid hg6;have HTK6:=Lib.hid htk6;have HC6:=Lib.hid hc6
    have c21:=hc6.cell (show w5.drew.cell? ⟨ob,19,none⟩=_ from c20) (by simp;omega)
    clear hg6 htk6 hc6
    generalize slA g cap (i+1)=ad1 at hs1 hcp
    generalize slA g cap i=ad2 at hs2 hcp
    have hib:(i:Int) < ((L.length+1:Nat):Int):=by omega
    go_region_with (fail)
    all_goals
     clear hs1 hs2 hcp
     go_wp2
     have hrg:r+1≤g:=hbg
     have k7:Chg [g] w6 ((w6.setCell ⟨g,i*2,none⟩ (.string k)).setCell ⟨g,i*2+1,none⟩ (.string v)):=((Chg.refl _ _).setCell (.inl (by simp)) _).setCell (.inl (by simp)) _
     have k67:Chg [g] w5 _:=((Chg.refl _ _).drew.trans HC6.out).trans k7
     have hR7:=HR5.out.chg k67 (by simp;omega) (by simp;omega)
     have hO7:=HO5.out.chg k67 (by simp;omega)
     have hown:=put_in (base:=r+1) hrg HG6.out hi hnc hcm hcs6 HTK6.out k v
     have hlow:∀j∈ob::(Value.slice a L.length c).ownBlock.toList,j∈ [ob,r]∨w.heap.size≤j:=by
      intro j hj
      rcases List.mem_cons.1 hj with rfl | hj
      ·exact .inl (by simp)
      ·have:=(World.ownsRow.lt HW2.out j (by simpa using hj)).1
       have:=HRD.out
       exact .inr (by omega)
     have hC7:=((((HC.out.trans (HC2.out.mono (by simp))).transFresh HC5.out hlow)).transFresh k67 (by simp;have:=HRD.out;omega))
     have hlI:=insR_len L i (k,v) hi
     refine ⟨⟨_,_,insR L i (k,v),some ⟨g,0,none⟩,cap,hR7,by rw [hlI];exact hown,by rw [hlI];exact hO7,HL.out.ins i hi HKZ.out HLK.out HFK.out,hC7⟩,?_⟩
     have q1:=HLc.out
     have q2:=hR7.cnt_eq
     have q3:=HLT.out
     simp only [q1,q2]
     omega
end Go.Proofs.YtkanmkcojlefbaaGreatDoor
