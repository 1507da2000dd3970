/-
  impl.First (11): the header that was written is read back · Write of no file: two blocks of bytes 0.
-/
import Derived.Test.YtkanmkcojlefbaaGreatDoorJ03
import Derived.Test.YtkanmkcojlefbaaGreatDoorJ22
import Derived.Test.YtkanmkcojlefbaaGreatDoorJ37
import Derived.Test.YtkanmkcojlefbaaGreatDoorJ31
import Derived.Test.YtkanmkcojlefbaaGreatDoorJ08
set_option linter.unusedVariables false
namespace Go.Proofs.YtkanmkcojlefbaaGreatDoor
open Go.RowKit
theorem longW_len {fl:UInt8} {s:ByteArray} {bs bs':List UInt8} {pad pad':Nat} (h:LongW fl s bs pad bs' pad') (hs:s.size≤1000000) (hp:pad≤511):bs'.length≤bs.length+1002000∧pad'≤511:=by
 rcases h with ⟨_,rfl,rfl⟩ | ⟨_,b,hb,rfl,rfl⟩
 ·exact ⟨by omega,hp⟩
 ·refine ⟨?_,by unfold padOf;omega⟩
  have hz:s.data.toList.length=s.size:=(Lib.size_eq s).symm
  simp only [List.length_append,List.length_replicate,seal_len' hb.ok hb.tl,List.length_cons,List.length_nil,hz]
  omega
set_option maxHeartbeats 4000000 in
theorem outH_len {eff:TH} {F:KV} {u p g:Bool} {bs':List UInt8} (H:EffOk eff F) (hO:OutH eff F u p g [] bs'):bs'.length≤10000000:=by
 rcases hO with ⟨_,p,q,b0,hU,hs,rfl⟩ | ⟨_,_,hP⟩ | ⟨_,_,_,hG⟩
 ·have k0:b0.Ok:=hU.ok (by
   rcases hs with h | ⟨rfl,_⟩
   ·exact h.p2
   ·decide)
  have e:=seal_len' (gnu:=false) k0 hU.tm.tl
  rw [List.nil_append]
  exact Nat.le_trans (Nat.le_of_eq e) (show (512:Nat)≤10000000 by decide)
 ·rcases hP with ⟨b0,h0,tm,rfl⟩ | ⟨ks,data,b1,b0,hnd,hne,hks,hdt,hb1,tm,rfl⟩
  ·have e:=seal_len' (gnu:=false) tm.ok tm.tl
   rw [List.nil_append]
   exact Nat.le_trans (Nat.le_of_eq e) (show (512:Nat)≤10000000 by decide)
  ·have ht:=H.tot ks hnd (fun k hk=>((hks k).1 hk).2)
   rw [←hdt] at ht
   have hp:padOf data.size≤511:=by unfold padOf;omega
   simp only [List.nil_append,List.length_append,List.length_replicate,seal_len' tm.ok tm.tl,seal_len' hb1.ok hb1.tl]
   omega
 ·obtain ⟨bs1,pad1,bs2,pad2,b0,h1,h2,hB,rfl⟩:=hG
  obtain ⟨a1,a2⟩:=longW_len h1 H.nm (by decide)
  obtain ⟨c1,c2⟩:=longW_len h2 H.ln a2
  simp only [List.length_append,List.length_replicate,seal_len' hB.ok hB.tm.tl,List.length_nil] at*
  omega
noncomputable def recF (pf:Option Recs):KV:=match pf with
 | none=>fun _=>none
 | some (F,ks)=>restr F ks
theorem paxS_recs {B:Nat} {pf:Option Recs} {v:Value} {w:World} (h:PaxS B pf v w) (th:TH) (e:th.recs=v):RecsM th w (recF pf):=by
 rcases h with ⟨rfl,rfl⟩ | ⟨F,ks,mb,n,rfl,rfl,_,hM⟩
 ·exact .inl ⟨e,fun _=>rfl⟩
 ·exact .inr ⟨mb,n,e,hM⟩
theorem timOk_fin {fin:TH} (h:TimOk fin) (rv:Value) (f:Int):TimOk { fin with recs:=rv,fmt:=f }:=⟨h.m,h.a,h.c⟩
attribute [-go_sem] Instr.storeAt
set_option maxRecDepth 100000 in
set_option maxHeartbeats 4000000 in
theorem first_any (g c:Nat) (D:List UInt8) (eof:Addr) (fin th0:TH) (pf:Option Recs) (size qe:Nat) (ks:List ByteArray) (w:World) (hD:D.length≤140737488355328) (hg:∀j,j < D.length→w.cell? ⟨g,j,none⟩=(D[j]?).map bv)
  (hP:Pend D fin pf qe 0 none ⟨#[]⟩ ⟨#[]⟩ th0) (hs:fin.size=size) (hsz:size≤9223372036854775807) (he:Sent w 0 eof) (hT:TimOk fin) (hks:∀k v,recF pf k=some v→k∈ks) (hkl:ks.length≤1048576) :
  Calls Tryz.prog 11 #[.slice (some ⟨g,0,none⟩) D.length c] w fun e w'=>∃fv a c' l,e=.returned (.tuple #[.agg (outOf fin (decide (fin.ats=-62135596800∧fin.atn=0)) (decide (fin.cts=-62135596800∧fin.ctn=0)) fv a (l:List (ByteArray×ByteArray)).length c').icells,.int .i64 0])∧
   RecsIn a l.length c' l w'∧l.length≤1048576∧(∀k v,k.size≤maxLen→((k,v)∈l↔recF pf k=some v))∧Chg [] w w':=by
 generalize hQ:(fun (e:Ending) (w':World)=>∃fv a c' l,e=.returned (.tuple #[.agg (outOf fin (decide (fin.ats=-62135596800∧fin.atn=0)) (decide (fin.cts=-62135596800∧fin.ctn=0)) fv a (l:List (ByteArray×ByteArray)).length c').icells,.int .i64 0])∧
   RecsIn a l.length c' l w'∧l.length≤1048576∧(∀k v,k.size≤maxLen→((k,v)∈l↔recF pf k=some v))∧Chg [] w w')=Q
 have HQ:=Lib.hid hQ
 have hs0:0 < w.heap.size:=(World.block_lt_of_cell? w _ he)
 have HG:=Lib.hid hg;have HE:=Lib.hid he;have HP:=Lib.hid hP;have HS:=Lib.hid hs;have HT:=Lib.hid hT;have HKS:=Lib.hid hks
 clear hQ hg he hP hs hT hks
 obtain ⟨Z,hZ⟩:∃Z:Array Value,#[.int .u8 0,.string ⟨#[]⟩,.string ⟨#[]⟩,.int .i64 0,.int .i64 0,.int .i64 0,.int .i64 0,.string ⟨#[]⟩,.string ⟨#[]⟩,.int .i64 0,.int .i64 0,.bool false,.int .i64 0,.int .i64 0,.bool false,.int .i64 0,.int .i64 0,.int .i64 0,.int .i64 0,.slice none 0 0,.int .i64 0]=Z:=⟨_,rfl⟩
 have hzs:Z.size=21:=by rw [←hZ];rfl
 have HZS:=Lib.hid hzs
 clear hzs
 go_enter Tryz.func11,Tryz.ntmps11
 go_upto_region 1 with (fail)
 have hr0:=heap_alloc_new w (.cells Z 26)
 have hk0:Chg [] w (w.alloc (.cells Z 26)):=(Chg.refl [] w).alloc _
 have hz0:(w.alloc (.cells Z 26)).heap.size=w.heap.size+1:=Array.size_push _
 generalize w.alloc (.cells Z 26)=w0 at hr0 hk0 hz0⊢
 generalize hgg:w.heap.size=g0 at*
 have HGG:=Lib.hid hgg
 have HR0:=Lib.hid hr0;have HK0:=Lib.hid hk0;have HZ0:=Lib.hid hz0
 have hg0:∀j,j < D.length→w0.cell? ⟨g,j,none⟩=(D[j]?).map bv:=fun j hj=>by
  have h:=HG.out j hj
  rw [List.getElem?_eq_getElem hj] at h⊢
  exact hk0.cell h (by simp)
 have HG0:=Lib.hid hg0
 clear hr0 hk0 hz0 hg0 hgg hZ
 go_wp2_with fail
 refine (clone_row g c D _ hD HG0.out).mono ?_
 rintro e w1 ⟨dr,cap,cur,rfl,hdr,hle,hcap,hcs,htk,hBdr,hb1⟩
 have hch1:=Chg.ofBelow hb1
 have hdl:dr < w1.heap.size:=(Array.getElem?_eq_some_iff.1 hdr).1
 have HDR:=Lib.hid hdr;have HTK:=Lib.hid htk;have HCH1:=Lib.hid hch1;have HCS:=Lib.hid hcs
 clear hb1 hdr htk hch1 hcs
 go_wp2_with fail
 refine (newBytes _ _ _ _).mono ?_
 rintro e w2 ⟨rfl,hw2⟩
 have hbr2:w2.heap[w1.heap.size]? =some (.cells #[.slice (some ⟨dr,0,none⟩) D.length cap,.int .i64 0,.int .i64 (-1)] 154 (0,0)):=by rw [hw2];exact heap_alloc_new _ _
 have hch2:Chg [] w1 w2:=by rw [hw2];exact (Chg.refl _ w1).alloc _
 have hs2:w2.heap.size=w1.heap.size+1:=by rw [hw2];simp
 have hr2:RdrAt w1.heap.size dr D 0 w2:=⟨by omega,hD,Nat.zero_le _,cap,-1,cur,hbr2,hle,hcap,hch2.heap HDR.out (by simp),HCS.out,HTK.out⟩
 have HR2:=Lib.hid hr2;have HCH2:=Lib.hid (HCH1.out.trans hch2);have HS2:=Lib.hid hs2
 clear hw2 hbr2 hch2 hr2 hs2
 go_wp2_with fail
 refine (newTar _ _).mono ?_
 rintro e w3 ⟨cs,rfl,ht3,hrr3,hc3⟩
 have hwl:w0.heap.size≤w1.heap.size:=HCH1.out.size
 have hr3:=HR2.out.chg hc3 (by simp) (by simp)
 have hch3:=HCH2.out.trans hc3
 have HR3:=Lib.hid hr3;have HT3:=Lib.hid ht3;have HRR3:=Lib.hid hrr3;have HCH3:=Lib.hid hch3
 clear hr3 ht3 hrr3 hch3 hc3 HR2 HCH2
 go_wp2_with fail
 have hbs:=HS2.out
 have hz0:=HZ0.out
 have HNX:=Lib.hid (Next_ok (w2.heap.size+1) w1.heap.size w2.heap.size dr 0 cs D 0 eof fin th0 pf size qe w3 HT3.out HR3.out HRR3.out HP.out (by omega) HS.out hsz (by omega) (by omega) ⟨by omega,by omega,by omega⟩ (HE.out.chg (HK0.out.trans HCH3.out) (by simp)) ⟨by omega,by omega⟩)
 clear hz0 hbs
 refine HNX.out.mono ?_
 rintro e w4 ⟨⟨hp,rv,f,rfl,hh4,hx4⟩,hr4,hq4,hc4⟩
 have hch4:Chg [] w0 w4:=HCH3.out.transFresh hc4 (by
  intro i hi
  have:=HS2.out
  simp at hi
  rcases hi with rfl | rfl
  ·exact .inr (by omega)
  ·exact .inr (by omega))
 have HC4:=Lib.hid hch4
 have HHO:=Lib.hid (headerOf_any hp _ (recF pf) ks w4 hh4 (timOk_fin HT.out rv f) (paxS_recs hx4 _ rfl) HKS.out hkl)
 clear hc4 hh4 hx4 hr4 hq4 hch4
 go_wp2_with fail
 refine HHO.out.mono ?_
 rintro e w5 ⟨fv,a,c5,l,rfl,hl5,hf5,hn5,hm5,hc5⟩
 have hch5:Chg [] w0 w5:=HC4.out.trans hc5
 have hb5:=hch5.heap HR0.out (by simp)
 have HL5:=Lib.hid hl5;have HM5:=Lib.hid hm5;have HC5:=Lib.hid hch5;have HF5:=Lib.hid hf5
 have HSZ4:=Lib.hid HC4.out.size
 clear hl5 hm5 hc5 hch5 hf5
 have h1:=icells_one (outOf fin (decide (fin.ats=-62135596800∧fin.atn=0)) (decide (fin.cts=-62135596800∧fin.ctn=0)) fv a l.length c5)
 have h2:=icells_size (outOf fin (decide (fin.ats=-62135596800∧fin.atn=0)) (decide (fin.cts=-62135596800∧fin.ctn=0)) fv a l.length c5)
 obtain ⟨C,hC⟩:∃C,(outOf fin (decide (fin.ats=-62135596800∧fin.atn=0)) (decide (fin.cts=-62135596800∧fin.ctn=0)) fv a l.length c5).icells=C:=⟨_,rfl⟩
 have hC':(outOf { fin with recs:=rv,fmt:=f } (decide (fin.ats=-62135596800∧fin.atn=0)) (decide (fin.cts=-62135596800∧fin.ctn=0)) fv a l.length c5).icells=C:=hC
 rw [hC] at h1 h2
 have HCC:=Lib.hid hC
 rw [hC']
 clear hC hC'
 have hS:=fun (w':World) (g:Nat) (hg:w'.heap[g]? =some (.cells Z 26 (0,0)))=>sto26 C Z h2 HZS.out h1 w' g hg
 clear h1
 have H2:=Lib.hid h2
 clear h2
 go_wp2_with (go_at_call 33;refine (end_nil _).mono ?_;rintro e w6 ⟨rfl,rfl⟩)
 refine bodyPost_ret (results_cellrow_tmp rfl _ _ g0 26 C (0,0) _ rfl (setRow_heap _ _ _ _ _ _ hb5) Tryz.underlying26 rfl (by rw [H2.out];exact s26)) rfl ?_
 rw [←HQ.out]
 have hk:Chg [g0] w5 (w5.setRow g0 C):=(Chg.refl _ _).setRow (.inl (by simp)) _
 refine ⟨fv,a,c5,l,by rw [HCC.out];rfl,HL5.out.chgS hk (fun ad e hm=> ?_),hn5,HM5.out,(HK0.out.trans HC5.out).transFresh hk (fun i hi=> ?_)⟩
 ·have:=HF5.out ad e
  have h3:=HSZ4.out
  have h4:=HZ0.out
  rw [List.mem_singleton] at hm
  omega
 ·rw [List.mem_singleton] at hi
  have:=HGG.out
  exact .inr (by omega)
end Go.Proofs.YtkanmkcojlefbaaGreatDoor
namespace Go.Proofs.YtkanmkcojlefbaaGreatDoor
open Go.RowKit
theorem bytes_row (B b:Nat) (bs:List UInt8) (w:World) (h0:0 < bs.length) (h:Lib.IsBuffer 70 5 B b (bvs bs) w) :
  Calls Tryz.prog 32 #[.pointer (some ⟨b,0,none⟩)] w fun e w'=>∃g cap,e=.returned (.slice (some ⟨g,0,none⟩) bs.length cap)∧(∀j,j < bs.length→w'.cell? ⟨g,j,none⟩=(bs[j]?).map bv)∧bs.length≤cap∧cap≤maxLen∧Chg [] w w':=by
 refine (Tryz.Buffer_Bytes B b (bvs bs) w h).mono ?_
 rintro e w' ⟨v,rfl,hown,n,rfl⟩
 rw [bvs_length] at hown
 rcases hown.2 with ⟨rfl,h1⟩ | ⟨g,cap,cur,rfl,hB,hg,h1,h2,h3,h4⟩
 ·omega
 ·refine ⟨g,cap,rfl,fun j hj=> ?_,h1,h2,Chg.drewNof n⟩
  rw [cell_heap hg,←bvs_get,←h4,List.getElem?_take,if_pos (by omega)]
  simp
end Go.Proofs.YtkanmkcojlefbaaGreatDoor
