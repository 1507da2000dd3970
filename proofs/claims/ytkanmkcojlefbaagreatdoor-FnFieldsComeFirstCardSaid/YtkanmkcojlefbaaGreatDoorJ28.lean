/-
  impl.header (31): the tar.Header of a header.
-/
import Derived.Test.YtkanmkcojlefbaaGreatDoorJ22
import Derived.Test.YtkanmkcojlefbaaGreatDoorJ27
set_option linter.unusedVariables false
namespace Go.Proofs.YtkanmkcojlefbaaGreatDoor
open Go.RowKit
def SH.icells (h:SH):Array Value:=#[.int .u8 h.tf.toNat,.string h.name,.string h.link,.int .i64 h.size,.int .i64 h.mode,.int .i64 h.uid,.int .i64 h.gid,.string h.un,.string h.gn,.int .i64 h.ms,.int .i64 h.mn,.bool h.ha,.int .i64 h.ats,.int .i64 h.atn,.bool h.hc,.int .i64 h.cts,.int .i64 h.ctn,.int .i64 h.dj,.int .i64 h.dn,.slice h.ra h.rn h.rc,.int .i64 h.fmt]
def fmI (n:Int):Int:=fm (n == 1) (n == 2) (n == 3)
theorem format_any (n:Int) (w:World):Calls Tryz.prog 71 #[.int .i64 n] w fun e w'=>e=.returned (.int .i64 (fmI n))∧w=w':=by
 unfold fmI
 by_cases h1:n=1
 ·subst h1;go_enter Tryz.func71,Tryz.ntmps71;go_wp2;go_ret;exact ⟨rfl,rfl⟩
 ·by_cases h2:n=2
  ·subst h2;go_enter Tryz.func71,Tryz.ntmps71;go_wp2;go_ret;exact ⟨rfl,rfl⟩
  ·by_cases h3:n=3
   ·subst h3;go_enter Tryz.func71,Tryz.ntmps71;go_wp2;go_ret;exact ⟨rfl,rfl⟩
   ·have e1:(n == 1)=false:=by simpa using h1
    have e2:(n == 2)=false:=by simpa using h2
    have e3:(n == 3)=false:=by simpa using h3
    rw [e1,e2,e3]
    go_enter Tryz.func71,Tryz.ntmps71
    go_wp2
    go_ret
    exact ⟨rfl,rfl⟩
def SH.th (h:SH) (recs:Value):TH:=
 { tf:=h.tf,name:=h.name,link:=h.link,size:=h.size,mode:=h.mode,uid:=h.uid,gid:=h.gid,un:=h.un,gn:=h.gn,ms:=h.ms,mn:=h.mn.toNat,ats:=if h.ha=true then h.ats else -62135596800,atn:=if h.ha=true then h.atn.toNat else 0,cts:=if h.hc=true then h.cts else -62135596800,ctn:=if h.hc=true then h.ctn.toNat else 0,dj:=h.dj,dn:=h.dn,xa:=.map none,recs:=recs,fmt:=fmI h.fmt }
def kvOf (l:List (ByteArray×ByteArray)):KV:=l.foldl (fun f p=>KV.set f p.1 p.2) (fun _=>none)
theorem kvOf_take (l:List (ByteArray×ByteArray)) (j:Nat) (h:j < l.length):kvOf (l.take (j+1))=KV.set (kvOf (l.take j)) (l[j]).1 (l[j]).2:=by
 unfold kvOf
 rw [List.take_succ_eq_append_getElem h,List.foldl_append]
 rfl
def TOk (s ns:Int):Prop:=0≤ns∧ns < 1000000000∧-4000000000000000000≤s∧s≤4000000000000000000
theorem i26 (h:SH) {g:Nat} {w:World} (hb:w.heap[g]? =some (.cells h.icells 26 (0,0))) (i:Nat) (v:Value) (hv:h.icells[i]? =some v):w.cell? ⟨g,i,none⟩=some v:=by rw [cell_heap hb,hv]
theorem cf_chg {g:Nat} {tf:UInt8} {name link un gn:ByteArray} {size mode uid gid ms mn dj dn fmt:Int} {w w':World} (k:Chg [] w w') (h:w.cell? ⟨g,0,none⟩=some (.int .u8 tf.toNat)∧w.cell? ⟨g,1,none⟩=some (.string name)∧w.cell? ⟨g,2,none⟩=some (.string link)∧w.cell? ⟨g,3,none⟩=some (.int .i64 size)∧w.cell? ⟨g,4,none⟩=some (.int .i64 mode)∧w.cell? ⟨g,5,none⟩=some (.int .i64 uid)∧w.cell? ⟨g,6,none⟩=some (.int .i64 gid)∧w.cell? ⟨g,7,none⟩=some (.string un)∧w.cell? ⟨g,8,none⟩=some (.string gn)∧w.cell? ⟨g,9,none⟩=some (.int .i64 ms)∧w.cell? ⟨g,10,none⟩=some (.int .i64 mn)∧w.cell? ⟨g,17,none⟩=some (.int .i64 dj)∧w.cell? ⟨g,18,none⟩=some (.int .i64 dn)∧w.cell? ⟨g,20,none⟩=some (.int .i64 fmt)):w'.cell? ⟨g,0,none⟩=some (.int .u8 tf.toNat)∧w'.cell? ⟨g,1,none⟩=some (.string name)∧w'.cell? ⟨g,2,none⟩=some (.string link)∧w'.cell? ⟨g,3,none⟩=some (.int .i64 size)∧w'.cell? ⟨g,4,none⟩=some (.int .i64 mode)∧w'.cell? ⟨g,5,none⟩=some (.int .i64 uid)∧w'.cell? ⟨g,6,none⟩=some (.int .i64 gid)∧w'.cell? ⟨g,7,none⟩=some (.string un)∧w'.cell? ⟨g,8,none⟩=some (.string gn)∧w'.cell? ⟨g,9,none⟩=some (.int .i64 ms)∧w'.cell? ⟨g,10,none⟩=some (.int .i64 mn)∧w'.cell? ⟨g,17,none⟩=some (.int .i64 dj)∧w'.cell? ⟨g,18,none⟩=some (.int .i64 dn)∧w'.cell? ⟨g,20,none⟩=some (.int .i64 fmt):=by
 obtain ⟨h0,h1,h2,h3,h4,h5,h6,h7,h8,h9,h10,h17,h18,h20⟩:=h
 exact ⟨k.cell h0 (by simp),k.cell h1 (by simp),k.cell h2 (by simp),k.cell h3 (by simp),k.cell h4 (by simp),k.cell h5 (by simp),k.cell h6 (by simp),k.cell h7 (by simp),k.cell h8 (by simp),k.cell h9 (by simp),k.cell h10 (by simp),k.cell h17 (by simp),k.cell h18 (by simp),k.cell h20 (by simp)⟩
structure HdSt (h:SH) (recs:Value) (C:Array Value) (g hp:Nat) (w w':World):Prop where
 lo:w.heap.size≤hp
 ne:g≠hp
 hd:w'.heap[hp]? =some (.cells (h.th recs).cells.toArray 130 (0,0))
 src:w'.heap[g]? =some (.cells C 26 (0,0))
 chg:Chg [] w w'
theorem HdSt.step {h:SH} {recs:Value} {C:Array Value} {g hp:Nat} {w w' w'':World} (k:HdSt h recs C g hp w w') (c:Chg [] w' w''):HdSt h recs C g hp w w'':=⟨k.lo,k.ne,c.heap k.hd (by simp),c.heap k.src (by simp),k.chg.trans c⟩
theorem HdSt.two {h h':SH} {recs recs':Value} {C:Array Value} {g hp:Nat} {w w':World} (k:HdSt h recs C g hp w w') (i:Nat) (u v:Value) (e:(((h.th recs).cells.set i u).set (i+1) v)=(h'.th recs').cells):HdSt h' recs' C g hp w ((w'.setCell ⟨hp,i,none⟩ u).setCell ⟨hp,i+1,none⟩ v):=by
 refine ⟨k.lo,k.ne,?_,?_,(k.chg.setCell (.inr k.lo) _).setCell (.inr k.lo) _⟩
 ·rw [heap_setCell_at (heap_setCell_at k.hd i u) (i+1) v,List.setIfInBounds_toArray,List.setIfInBounds_toArray,e]
 ·exact (((Chg.refl [hp] w').setCell (.inl (by simp)) _).setCell (.inl (by simp)) _).heap k.src (by simpa using k.ne)
theorem HdSt.one {h h':SH} {recs recs':Value} {C:Array Value} {g hp:Nat} {w w':World} (k:HdSt h recs C g hp w w') (i:Nat) (u:Value) (e:(h.th recs).cells.set i u=(h'.th recs').cells):HdSt h' recs' C g hp w (w'.setCell ⟨hp,i,none⟩ u):=by
 refine ⟨k.lo,k.ne,?_,?_,k.chg.setCell (.inr k.lo) _⟩
 ·rw [heap_setCell_at k.hd i u,List.setIfInBounds_toArray,e]
 ·exact ((Chg.refl [hp] w').setCell (.inl (by simp)) _).heap k.src (by simpa using k.ne)
theorem HdSt.map {h:SH} {recs:Value} {C:Array Value} {g hp mb:Nat} {w w' w'':World} (k:HdSt h recs C g hp w w') (c:Chg [mb] w' w'') (h1:mb≠hp) (h2:mb≠g) (h3:w.heap.size≤mb):HdSt h recs C g hp w w'':=
 ⟨k.lo,k.ne,c.heap k.hd (by simpa using h1.symm),c.heap k.src (by simpa using h2.symm),k.chg.transFresh c fun i hi=>.inr (by rw [List.mem_singleton.1 hi];exact h3)⟩
set_option maxRecDepth 100000 in
set_option maxHeartbeats 4000000 in
theorem header_any (h:SH) (l:List (ByteArray×ByteArray)) (w:World) (hsl:sumR l≤1099511627776) (hR:RecsIn h.ra h.rn h.rc l w) (hm:TOk h.ms h.mn) (ha:h.ha=true→TOk h.ats h.atn) (hc:h.hc=true→TOk h.cts h.ctn) :
  Calls Tryz.prog 31 #[.agg h.icells] w fun e w'=>∃hp recs,e=.returned (.pointer (some ⟨hp,0,none⟩))∧w.heap.size≤hp∧w'.heap[hp]? =some (.cells (h.th recs).cells.toArray 130 (0,0))∧
   ((h.rn=0∧recs=.map none)∨(0 < h.rn∧∃mb,recs=.map (some mb)∧MapS mb h.rn (kvOf l) w'))∧Chg [] w w':=by
 generalize hQ:(fun (e:Ending) (w':World)=>∃hp recs,e=.returned (.pointer (some ⟨hp,0,none⟩))∧w.heap.size≤hp∧w'.heap[hp]? =some (.cells (h.th recs).cells.toArray 130 (0,0))∧
   ((h.rn=0∧recs=.map none)∨(0 < h.rn∧∃mb,recs=.map (some mb)∧MapS mb h.rn (kvOf l) w'))∧Chg [] w w')=Q
 have HQ:=Lib.hid hQ
 clear hQ
 obtain ⟨tf,name,link,size,mode,uid,gid,un,gn,ms,mn,hA,hC,ats,atn,cts,ctn,dj,dn,ra,rn,rc,fmt⟩:=h
 simp only at hR hm ha hc
 obtain ⟨mn,rfl⟩:=Int.eq_ofNat_of_zero_le hm.1
 have HM:=Lib.hid hm;have HA:=Lib.hid ha;have HC:=Lib.hid hc;have HR:=Lib.hid hR
 clear hm ha hc hR
 simp only [SH.icells]
 obtain ⟨C,hCC⟩:∃C:Array Value,#[.int .u8 tf.toNat,.string name,.string link,.int .i64 size,.int .i64 mode,.int .i64 uid,.int .i64 gid,.string un,.string gn,.int .i64 ms,.int .i64 mn,.bool hA,.int .i64 ats,.int .i64 atn,.bool hC,.int .i64 cts,.int .i64 ctn,.int .i64 dj,.int .i64 dn,.slice ra rn rc,.int .i64 fmt]=C:=⟨_,rfl⟩
 rw [hCC]
 have HCC:=Lib.hid hCC
 clear hCC
 go_enter Tryz.func31,Tryz.ntmps31
 go_upto_region 1 with (fail)
 have hb:=heap_alloc_new w (.cells C 26)
 have hkw:Chg [] w (w.alloc (.cells C 26)):=(Chg.refl _ w).alloc _
 generalize w.alloc (.cells C 26)=w0 at hb hkw⊢
 obtain ⟨g,hg⟩:∃g,w.heap.size=g:=⟨_,rfl⟩
 rw [hg] at hb⊢
 have HB:=Lib.hid hb;have HKW:=Lib.hid hkw;have HG:=Lib.hid hg
 clear hb hkw hg
 have hcf:w0.cell? ⟨g,0,none⟩=some (.int .u8 tf.toNat)∧w0.cell? ⟨g,1,none⟩=some (.string name)∧w0.cell? ⟨g,2,none⟩=some (.string link)∧w0.cell? ⟨g,3,none⟩=some (.int .i64 size)∧w0.cell? ⟨g,4,none⟩=some (.int .i64 mode)∧w0.cell? ⟨g,5,none⟩=some (.int .i64 uid)∧w0.cell? ⟨g,6,none⟩=some (.int .i64 gid)∧w0.cell? ⟨g,7,none⟩=some (.string un)∧w0.cell? ⟨g,8,none⟩=some (.string gn)∧w0.cell? ⟨g,9,none⟩=some (.int .i64 ms)∧w0.cell? ⟨g,10,none⟩=some (.int .i64 mn)∧w0.cell? ⟨g,17,none⟩=some (.int .i64 dj)∧w0.cell? ⟨g,18,none⟩=some (.int .i64 dn)∧w0.cell? ⟨g,20,none⟩=some (.int .i64 fmt):=by
  have hb:=HB.out
  rw [←HCC.out] at hb
  exact ⟨(cell_heap hb 0).trans rfl,(cell_heap hb 1).trans rfl,(cell_heap hb 2).trans rfl,(cell_heap hb 3).trans rfl,(cell_heap hb 4).trans rfl,(cell_heap hb 5).trans rfl,(cell_heap hb 6).trans rfl,(cell_heap hb 7).trans rfl,(cell_heap hb 8).trans rfl,(cell_heap hb 9).trans rfl,(cell_heap hb 10).trans rfl,(cell_heap hb 17).trans rfl,(cell_heap hb 18).trans rfl,(cell_heap hb 20).trans rfl⟩
 obtain ⟨d0,d1,d2,d3,d4,d5,d6,d7,d8,d9,d10,d17,d18,d20⟩:=hcf
 go_region_held3 (fun w'=>w'.cell? ⟨g,0,none⟩=some (.int .u8 tf.toNat)∧w'.cell? ⟨g,1,none⟩=some (.string name)∧w'.cell? ⟨g,2,none⟩=some (.string link)∧w'.cell? ⟨g,3,none⟩=some (.int .i64 size)∧w'.cell? ⟨g,4,none⟩=some (.int .i64 mode)∧w'.cell? ⟨g,5,none⟩=some (.int .i64 uid)∧w'.cell? ⟨g,6,none⟩=some (.int .i64 gid)∧w'.cell? ⟨g,7,none⟩=some (.string un)∧w'.cell? ⟨g,8,none⟩=some (.string gn)∧w'.cell? ⟨g,9,none⟩=some (.int .i64 ms)∧w'.cell? ⟨g,10,none⟩=some (.int .i64 mn)∧w'.cell? ⟨g,17,none⟩=some (.int .i64 dj)∧w'.cell? ⟨g,18,none⟩=some (.int .i64 dn)∧w'.cell? ⟨g,20,none⟩=some (.int .i64 fmt)) (first | assumption | (refine cf_chg ((Chg.refl [] _).alloc _) ?_;repeat' (first | assumption | apply And.intro)) | (repeat' (first | assumption | apply And.intro))) ((first | (go_at_call 71;refine (format_any _ _).mono ?_;rintro e u ⟨rfl,rfl⟩) | (go_at_call 70;refine (unix_any ms mn _ (by have:=HM.out.2.1;omega) HM.out.2.2.1 HM.out.2.2.2).mono ?_;rintro e u ⟨rfl,hu⟩;simp only [tm];have hk:=cf_chg hu (by repeat' (first | assumption | apply And.intro));have HU:=Lib.hid hu;clear hu)))
 have h1:HdSt ⟨tf,name,link,size,mode,uid,gid,un,gn,ms,mn,false,false,ats,atn,cts,ctn,dj,dn,ra,rn,rc,fmt⟩ (.map none) C g u.heap.size w (u.alloc (.cells #[.int .u8 tf.toNat,.string name,.string link,.int .i64 size,.int .i64 mode,.int .i64 uid,.int .i64 gid,.string un,.string gn,.int .u64 mn,.int .i64 (ms+62135596800),.int .u64 0,.int .i64 0,.int .u64 0,.int .i64 0,.int .i64 dj,.int .i64 dn,.map none,.map none,.int .i64 (fmI fmt)] 130)):=by
  have hu:=HU.out
  have hw1:Chg [] w u:=HKW.out.trans ((Chg.refl [] w0).drew.trans hu)
  have hs:=hu.heap (show w0.drew.heap[g]? =_ from HB.out) (by simp)
  have hlt:=(Array.getElem?_eq_some_iff.1 hs).1
  exact ⟨hw1.size,by omega,heap_alloc_new _ _,((Chg.refl [] u).alloc _).heap hs (by simp),hw1.alloc _⟩
 obtain ⟨hp,hhp⟩:∃hp,u.heap.size=hp:=⟨_,rfl⟩
 rw [hhp] at h1⊢
 clear hhp
 have a12:C[12]? =some (.int .i64 ats):=by rw [←HCC.out];rfl
 have a13:C[13]? =some (.int .i64 atn):=by rw [←HCC.out];rfl
 have a11:C[11]? =some (.bool hA):=by rw [←HCC.out];rfl
 have a14:C[14]? =some (.bool hC):=by rw [←HCC.out];rfl
 have a15:C[15]? =some (.int .i64 cts):=by rw [←HCC.out];rfl
 have a16:C[16]? =some (.int .i64 ctn):=by rw [←HCC.out];rfl
 have a19:C[19]? =some (.slice ra rn rc):=by rw [←HCC.out];rfl
 have A12:=Lib.hid a12;have A13:=Lib.hid a13;have A14:=Lib.hid a14;have A15:=Lib.hid a15;have A16:=Lib.hid a16;have A19:=Lib.hid a19
 generalize u.alloc _=w1 at h1⊢
 have b11:w1.cell? ⟨g,11,none⟩=some (.bool hA):=(cell_heap h1.src 11).trans a11
 have H1:=Lib.hid h1
 clear h1 a11 a12 a13 a14 a15 a16 a19 HU hk
 go_upto_if 41 with (fail)
 go_cut [] (fun w'=>HdSt ⟨tf,name,link,size,mode,uid,gid,un,gn,ms,mn,hA,false,ats,atn,cts,ctn,dj,dn,ra,rn,rc,fmt⟩ (.map none) C g hp w w')
 case first=>
  cases hA
  ·go_wp2
   go_meet
   case rel=>exact H1.out
  ·obtain ⟨an,rfl⟩:=Int.eq_ofNat_of_zero_le (HA.out rfl).1
   have b12:w1.cell? ⟨g,12,none⟩=some (.int .i64 ats):=(cell_heap H1.out.src 12).trans A12.out
   have b13:w1.cell? ⟨g,13,none⟩=some (.int .i64 (an:Nat)):=(cell_heap H1.out.src 13).trans A13.out
   go_wp2_with (go_at_call 70;refine (unix_any ats an _ (by have:=(HA.out rfl).2.1;omega) (HA.out rfl).2.2.1 (HA.out rfl).2.2.2).mono ?_;rintro e u2 ⟨rfl,hu2⟩;simp only [tm];have h2:=H1.out.step hu2;have e11:u2.cell? ⟨hp,11,none⟩=some (.int .u64 0):=(cell_heap h2.hd 11).trans rfl;have e12:u2.cell? ⟨hp,12,none⟩=some (.int .i64 0):=(cell_heap h2.hd 12).trans rfl;have f11:=frozen_heap h2.hd 11;have f12:=frozen_heap h2.hd 12;have H2:=Lib.hid h2;clear h2 hu2)
   go_meet
   case rel=>exact H2.out.two 11 _ _ rfl
 case rest=>
  have H3:=Lib.hid hcut
  clear hcut H1
  have b14:wc.cell? ⟨g,14,none⟩=some (.bool hC):=(cell_heap H3.out.src 14).trans A14.out
  go_upto_if 53 with (fail)
  go_cut [] (fun w'=>HdSt ⟨tf,name,link,size,mode,uid,gid,un,gn,ms,mn,hA,hC,ats,atn,cts,ctn,dj,dn,ra,rn,rc,fmt⟩ (.map none) C g hp w w')
  case first=>
   cases hC
   ·go_wp2
    go_meet
    case rel=>exact H3.out
   ·obtain ⟨cn,rfl⟩:=Int.eq_ofNat_of_zero_le (HC.out rfl).1
    have b15:wc.cell? ⟨g,15,none⟩=some (.int .i64 cts):=(cell_heap H3.out.src 15).trans A15.out
    have b16:wc.cell? ⟨g,16,none⟩=some (.int .i64 (cn:Nat)):=(cell_heap H3.out.src 16).trans A16.out
    go_wp2_with (go_at_call 70;refine (unix_any cts cn _ (by have:=(HC.out rfl).2.1;omega) (HC.out rfl).2.2.1 (HC.out rfl).2.2.2).mono ?_;rintro e u2 ⟨rfl,hu2⟩;simp only [tm];have h2:=H3.out.step hu2;have e13:u2.cell? ⟨hp,13,none⟩=some (.int .u64 0):=(cell_heap h2.hd 13).trans rfl;have e14:u2.cell? ⟨hp,14,none⟩=some (.int .i64 0):=(cell_heap h2.hd 14).trans rfl;have f13:=frozen_heap h2.hd 13;have f14:=frozen_heap h2.hd 14;have H2:=Lib.hid h2;clear h2 hu2)
    go_meet
    case rel=>exact H2.out.two 13 _ _ rfl
  case rest=>
   have H4:=Lib.hid hcut
   clear hcut H3 b14
   have b19:wc.cell? ⟨g,19,none⟩=some (.slice ra rn rc):=(cell_heap H4.out.src 19).trans A19.out
   obtain ⟨r1,r2,r3,r4⟩:=HR.out
   unfold maxLen at r3
   have HR1:=Lib.hid r1;have HR4:=Lib.hid r4
   clear r1 r4
   rcases Nat.eq_zero_or_pos rn with rfl | hpos
   ·have hx:¬((0:Int) < ((0:Nat):Int)):=by decide
    go_wp2
    rw [←HQ.out]
    exact ⟨hp,.map none,rfl,H4.out.lo,H4.out.hd,Or.inl (by simp),H4.out.chg⟩
   ·have hx:(0:Int) < (rn:Int):=by omega
    rcases HR4.out with h0 | ⟨bb,off,hra,hcell⟩
    ·omega
    have HCE:=Lib.hid hcell
    clear hcell
    have e18:wc.cell? ⟨hp,18,none⟩=some (.map none):=(cell_heap H4.out.hd 18).trans rfl
    have f18:=frozen_heap H4.out.hd 18
    have hlt:=(Array.getElem?_eq_some_iff.1 H4.out.hd).1
    have hltg:=(Array.getElem?_eq_some_iff.1 H4.out.src).1
    have hmk:=@run_makeMap Tryz.prog
    go_wp2
    have h5:HdSt ⟨tf,name,link,size,mode,uid,gid,un,gn,ms,mn,hA,hC,ats,atn,cts,ctn,dj,dn,ra,rn,rc,fmt⟩ (.map (some wc.heap.size)) C g hp w ((wc.setCell ⟨hp,18,none⟩ (.map (some wc.heap.size))).alloc (.map #[] 0)):=(H4.out.one (recs':=.map (some wc.heap.size)) 18 _ rfl).step ((Chg.refl _ _).alloc _)
    have hM:MapS wc.heap.size 0 (fun _=>none) ((wc.setCell ⟨hp,18,none⟩ (.map (some wc.heap.size))).alloc (.map #[] 0)):=by
     have h:=MapS.made (wc.setCell ⟨hp,18,none⟩ (.map (some wc.heap.size)))
     rw [show (wc.setCell ⟨hp,18,none⟩ (.map (some wc.heap.size))).heap.size=wc.heap.size by simp] at h
     exact h
    subst hra
    have hlo:=H4.out.lo
    generalize (wc.setCell ⟨hp,18,none⟩ (.map (some wc.heap.size))).alloc (.map #[] 0)=w5 at h5 hM⊢
    obtain ⟨mb,hmb⟩:∃mb,wc.heap.size=mb:=⟨_,rfl⟩
    rw [hmb] at h5 hM hlt hltg
    have hm1:mb≠hp:=by omega
    have hm2:mb≠g:=by omega
    have hm3:w.heap.size≤mb:=by omega
    try rw [hmb]
    have H5:=Lib.hid h5;have HMM:=Lib.hid hM
    clear h5 hM hmb H4 e18 f18 b19 hlt hltg hlo
    go_loopw [75] (fun i wr=>∃j:Nat,j≤rn∧i=.int .i64 j∧HdSt ⟨tf,name,link,size,mode,uid,gid,un,gn,ms,mn,hA,hC,ats,atn,cts,ctn,dj,dn,some ⟨bb,off,none⟩,rn,rc,fmt⟩ (.map (some mb)) C g hp w wr∧MapS mb j (kvOf (l.take j)) wr) (fun i _=>rn - (intOf i).toNat)
    case atStart=>exact ⟨0,by omega,rfl,H5.out,HMM.out⟩
    case round=>
     obtain ⟨j,hj,rfl,h6,hM6⟩:=hrel
     by_cases hlt:j < rn
     ·have hlt':(j:Int) < rn:=by omega
      have hll:j < l.length:=by rw [HR1.out];exact hlt
      have hc1:=h6.chg.cell (HCE.out j hll).1 (by simp)
      have hc2:=h6.chg.cell (HCE.out j hll).2 (by simp)
      have kt:=kvOf_take l j hll
      have hst:=sumR_take l j hll
      have hsl':=sumR_le l (j+1)
      rw [hst] at hsl'
      generalize l[j]=kv at hc1 hc2 kt hst hsl'
      obtain ⟨k,v⟩:=kv
      simp only at hc1 hc2 kt hst hsl'
      have hk:k.size≤1099511627776:=by omega
      have hv:v.size≤1099511627776:=by omega
      have KT:=Lib.hid kt;have H6:=Lib.hid h6;have HM6:=Lib.hid hM6
      clear kt hst hsl' h6 hM6
      go_upto_region 11 with (fail)
      have ka:Chg [] wr (wr.alloc (.cells #[.string k,.string v] 59)):=(Chg.refl _ wr).alloc _
      have ba:=heap_alloc_new wr (.cells #[.string k,.string v] 59)
      generalize wr.alloc (.cells #[.string k,.string v] 59)=wa at ka ba⊢
      have hmt:=HM6.out.lt
      generalize wr.heap.size=t at ba hmt⊢
      have htm:t∉ [mb]:=by simp;omega
      have d1:wa.cell? ⟨t,0,none⟩=some (.string k):=(cell_heap ba 0).trans rfl
      have d2:wa.cell? ⟨t,1,none⟩=some (.string v):=(cell_heap ba 1).trans rfl
      have h7:=H6.out.step ka.drew
      have d3:wa.cell? ⟨hp,18,none⟩=some (.map (some mb)):=(cell_heap (H6.out.step ka).hd 18).trans rfl
      obtain ⟨w8,hrun,hM8,hc8⟩:=(HM6.out.chg ka.drew (by simp)).store (by unfold maxLen;omega) k v (by unfold maxLen;omega) (by unfold maxLen;omega)
      have h8:=h7.map hc8 hm1 hm2 hm3
      have q1:=hc8.cell (show wa.drew.cell? ⟨t,0,none⟩=_ from d1) htm
      have q2:=hc8.cell (show wa.drew.cell? ⟨t,1,none⟩=_ from d2) htm
      have q3:w8.cell? ⟨hp,18,none⟩=some (.map (some mb)):=(cell_heap h8.hd 18).trans rfl
      have H8:=Lib.hid h8;have HM8:=Lib.hid hM8
      clear h7 h8 hM8 hc8 ka ba
      go_region_held3 (fun w'=>w'.cell? ⟨hp,18,none⟩=some (.map (some mb))∧w'.cell? ⟨t,0,none⟩=some (.string k)∧w'.cell? ⟨t,1,none⟩=some (.string v)) (first | exact ⟨d3,d1,d2⟩ | exact ⟨q3,q1,q2⟩ | assumption) (fail)
      go_wp2_with fail
      go_roundw
      case rel=>exact ⟨j+1,by omega,by go_num,H8.out,by rw [KT.out];exact HM8.out⟩
      case measure=>simp [intOf];omega
     ·obtain rfl:j=rn:=by omega
      have hx:¬((j:Int) < j):=by omega
      have htk:l.take j=l:=List.take_of_length_le (by rw [HR1.out];omega)
      rw [htk] at hM6
      have H6:=Lib.hid h6;have HM6:=Lib.hid hM6
      clear h6 hM6
      go_wp2
      rw [←HQ.out]
      exact ⟨hp,.map (some mb),rfl,H6.out.lo,H6.out.hd,Or.inr ⟨hpos,mb,rfl,HM6.out⟩,H6.out.chg⟩
end Go.Proofs.YtkanmkcojlefbaaGreatDoor
