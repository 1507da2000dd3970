/-
  readAll and readSpecialFile: a small file (records, a long name) is read whole.
-/
import Derived.Test.YtkanmkcojlefbaaGreatDoorJ14
import Derived.Test.YtkanmkcojlefbaaGreatDoorJ06
set_option linter.unusedVariables false
namespace Go.Proofs.YtkanmkcojlefbaaGreatDoor
open Go.RowKit
def AllR (w0:World) (lr tr rr br dr ab:Nat) (D:List UInt8) (i nb N k:Nat) (v:Value) (w:World):Prop:=
 OwnB (ab+1) v ((D.drop i).take k) w∧RdrAt br dr D (i+k) w∧RegAt rr br ((nb - k:Nat):Int) w∧LimAt lr tr ((N - k:Nat):Int) w∧(∃cs:Array Value,w.heap[ab]? =some (.cells cs 131 (0,0))∧cs.size=512)∧Chg [br,rr,lr,ab] w0 w
theorem take_add' {α:Type} (l:List α) (k m:Nat):l.take (k+m)=l.take k++(l.drop k).take m:=List.take_add
theorem splice0_get (cs:Array Value) (m:Nat) (bs:List UInt8) (hm:bs.length=m) (hs:m≤cs.size) (j:Nat) (u:Value) (hj:(bvs bs)[j]? =some u):(splice cs.toList 0 (bvs bs)).toArray[j]? =some u:=by
 have hjl:j < m:=by
  have:=(List.getElem?_eq_some_iff.1 hj).1
  rw [bvs_length,hm] at this;exact this
 rw [List.getElem?_toArray,splice_get _ _ _ (by rw [bvs_length,hm];simpa using hs),if_pos (by rw [bvs_length];omega),Nat.sub_zero,hj]
theorem OwnB.low {base base':Nat} {v:Value} {l:List UInt8} {w:World} (h:OwnB base v l w) (hb:base'≤base):OwnB base' v l w:=by
 obtain ⟨h1,h2 | ⟨g,cap,cur,rfl,hb',hg,hn,hc,hs',ht⟩⟩:=h
 ·exact ⟨h1,.inl h2⟩
 ·exact ⟨h1,.inr ⟨g,cap,cur,rfl,by omega,hg,hn,hc,hs',ht⟩⟩
theorem own_low {base:Nat} {v:Value} {l:List UInt8} {w:World} (h:OwnB base v l w) {S:List Nat} (hS:∀i∈S,i < base):∀g,v.ownBlock=some g→g∉S:=by
 intro g hg hm
 have:=(World.ownsRow.lt h g hg).1
 have:=hS g hm
 omega
theorem allR_step {w0 w1 w4:World} {lr tr rr br dr ab i nb N k m x y c4:Nat} {a4:Option Addr} {v':Value} {D:List UInt8} {cs':Array Value} (hown':w4.ownsRow (ab+1) 5 1 v' (k+m) (bvs ((D.drop i).take k)++bvs ((D.drop (i+k)).take m))) (hgrow:w1.grownBy w4 (Value.slice a4 k c4).ownBlock)
  (ho1:w1.ownsRow (ab+1) 5 1 (.slice a4 k c4) k (bvs ((D.drop i).take k))) (g1:RdrAt br dr D (i+k+m) w1) (g2:RegAt rr br ((x:Nat):Int) w1) (hx:x=nb - (k+m)) (g3:LimAt lr tr ((y:Nat):Int) w1) (hy:y=N - (k+m)) (g4:w1.heap[ab]? =some (.cells cs' 131 (0,0))) (hcs':cs'.size=512)
  (W2:Chg [br,rr,lr,ab] w0 w1) (hlo:br < ab∧dr < ab∧rr < ab∧lr < ab) (hlen:i+(k+m)≤D.length) (hw0:w0.heap.size≤ab):AllR w0 lr tr rr br dr ab D i nb N (k+m) v' w4∧∃a c,v'=.slice a (k+m) c:=by
 subst hx;subst hy
 have hS:∀g,(Value.slice a4 k c4).ownBlock=some g→g∈(Value.slice a4 k c4).ownBlock.toList:=by intro g hg;rw [hg];simp
 have hc:=chg_grownV hgrow hS
 have hlow:∀g∈(Value.slice a4 k c4).ownBlock.toList,ab+1≤g:=by
  intro g hg
  exact (World.ownsRow.lt ho1 g (by simpa using hg)).1
 have hn:∀z,z≤ab→z∉(Value.slice a4 k c4).ownBlock.toList:=fun z hz hm=>by have:=hlow z hm;omega
 refine ⟨⟨?_,?_,g2.chg hc (hn _ (by omega)),g3.chg hc (hn _ (by omega)),⟨cs',hc.heap g4 (hn _ (by omega)),hcs'⟩,W2.transFresh hc (fun g hg=>.inr (by have:=hlow g hg;omega))⟩,?_⟩
 ·unfold OwnB
  rw [take_add',bvs_append,List.drop_drop]
  have e:((D.drop i).take k++(D.drop (i+k)).take m).length=k+m:=by
   rw [List.length_append,List.length_take,List.length_take,List.length_drop,List.length_drop];omega
  rw [e]
  exact hown'
 ·rw [←Nat.add_assoc]
  exact g1.chg' hc (hn _ (by omega)) (hn _ (by omega))
 ·obtain ⟨_,⟨rfl,h2⟩ | ⟨g,cap,cur,rfl,_⟩⟩:=hown'
  ·exact ⟨_,_,by rw [h2]⟩
  ·exact ⟨_,_,rfl⟩
set_option maxRecDepth 100000 in
set_option maxHeartbeats 2000000 in
theorem readAll_ok (lr tr rr br dr:Nat) (D:List UInt8) (i nb:Nat) (eof:Addr) (w:World) (h:RdrAt br dr D i w) (hr:RegAt rr br nb w) (hl:LimAt lr tr 1048577 w) (T2:w.cell? ⟨tr,2,none⟩=some (.iface 146 (.pointer (some ⟨rr,0,none⟩)))) (T5:w.cell? ⟨tr,515,none⟩=some .nilIface) (hi:i+nb≤D.length)
  (hrb:rr≠br) (hrd:rr≠dr) (hnb:0 < nb) (hN:nb≤1048576) (he:Sent w 0 eof) (h0:0≠br∧0≠rr∧0≠lr) (hlx:lr≠br∧lr≠rr∧lr≠dr) (htx:tr≠br∧tr≠rr∧tr≠lr) :
  Calls Tryz.prog 210 #[.iface 319 (.pointer (some ⟨lr,0,none⟩))] w fun e w'=>(∃v,e=.returned (.tuple #[v,.nilIface])∧OwnB w.heap.size v ((D.drop i).take nb) w')∧
   RdrAt br dr D (i+nb) w'∧RegAt rr br 0 w'∧Chg [br,rr,lr] w w':=by
 obtain ⟨i0,hi0,hz0,hz1,hz2⟩:=info_parts i5
 have hah:=ahead319
 have hbl:br < w.heap.size:=by obtain ⟨_,_,_,_,_,_,hb,_⟩:=h;exact (Array.getElem?_eq_some_iff.1 hb).1
 have hdl:dr < w.heap.size:=by obtain ⟨_,_,_,_,_,_,_,_,_,hb,_⟩:=h;exact (Array.getElem?_eq_some_iff.1 hb).1
 have hrl:rr < w.heap.size:=(Array.getElem?_eq_some_iff.1 hr).1
 have hll:lr < w.heap.size:=(Array.getElem?_eq_some_iff.1 hl).1
 have htl:tr < w.heap.size:=World.block_lt_of_cell? w _ T2
 have h0l:0 < w.heap.size:=World.block_lt_of_cell? w _ he
 have hns:=eql_same
 have H:=Lib.hid h;have HR:=Lib.hid hr;have HL:=Lib.hid hl;have HT2:=Lib.hid T2;have HT5:=Lib.hid T5;have HE:=Lib.hid he
 clear h hr hl T2 T5 he
 go_enter Tryz.func210,Tryz.ntmps210
 go_wp2
 have hk0:Chg [] w (w.alloc (.cells Tryz.zeroCells131 131)):=(Chg.refl _ w).alloc _
 have hab:(w.alloc (.cells Tryz.zeroCells131 131)).heap[w.heap.size]? =some (.cells Tryz.zeroCells131 131 (0,0)):=heap_alloc_new w _
 have hz:Tryz.zeroCells131.size=512:=by kernel_rfl
 have hA:AllR w lr tr rr br dr w.heap.size D i nb 1048577 0 (.slice none 0 0) (w.alloc (.cells Tryz.zeroCells131 131)):=
  ⟨⟨rfl,.inl ⟨rfl,rfl⟩⟩,H.out.chg' hk0 (by simp) (by simp),HR.out.chg hk0 (by simp),HL.out.chg hk0 (by simp),⟨_,hab,hz⟩,hk0.mono (by simp)⟩
 generalize w.alloc (.cells Tryz.zeroCells131 131)=w0 at hA⊢
 have HA:=Lib.hid hA
 clear hA hk0 hab hz
 go_loopw [4] (fun v wr=>∃k:Nat,k < nb∧(∃a c,v=.slice a k c)∧AllR w lr tr rr br dr w.heap.size D i nb 1048577 k v wr) (fun v _=>nb - (match v with | .slice _ n _=>n | _=>0))
 case atStart=>exact ⟨0,hnb,⟨_,_,rfl⟩,HA.out⟩
 case round=>
  obtain ⟨k,hk,⟨a4,c4,rfl⟩,hA⟩:=hrel
  obtain ⟨hown,hrd',hrg,hlm,⟨cs,hcs,hcz⟩,hch⟩:=hA
  have hsz:=hch.size
  have hlen:((D.drop i).take k).length=k:=by rw [List.length_take,List.length_drop];omega
  have T2:wr.cell? ⟨tr,2,none⟩=some (.iface 146 (.pointer (some ⟨rr,0,none⟩))):=hch.cell HT2.out (by simp;omega)
  have T5:wr.cell? ⟨tr,515,none⟩=some .nilIface:=hch.cell HT5.out (by simp;omega)
  have hE:Sent wr 0 eof:=HE.out.chg hch (by simp;omega)
  have HOWN:=Lib.hid hown;have HRD:=Lib.hid hrd';have HRG:=Lib.hid hrg;have HLM:=Lib.hid hlm;have HCS:=Lib.hid hcs;have HCZ:=Lib.hid hcz;have HCH:=Lib.hid hch;have HLEN:=Lib.hid hlen;have HT2':=Lib.hid T2;have HT5':=Lib.hid T5;have HE':=Lib.hid hE
  clear hown hrd' hrg hlm hcs hcz hch hlen T2 T5 hE
  by_cases hlt:512 < nb - k
  ·have hread:=lim_some lr tr rr br dr D (i+k) (nb - k) (1048577 - k) w.heap.size 0 512 512 cs 131 eof wr.drew (HRD.out.chg' (Chg.refl [] wr).drew (by simp) (by simp)) (HRG.out.chg (Chg.refl [] wr).drew (by simp)) (HLM.out.chg (Chg.refl [] wr).drew (by simp)) HT2'.out HT5'.out (by omega) HCS.out (by omega) (by omega) (by omega) hrb hrd (by omega) hlt (by omega) (by omega) (by unfold maxLen;omega) (by rw [HCZ.out];omega) HE'.out ⟨h0.1,by omega,h0.2.1⟩ ⟨hlx.1,by omega,hlx.2.1,hlx.2.2⟩ (by omega)
   have HREAD:=Lib.hid hread
   clear hread
   go_wp2
   go_region_with (first | (go_at_call 360;refine HREAD.out.mono ?_;rintro e w1 ⟨rfl,g1,g2,g3,g4,g5⟩))
   all_goals
    have W2:Chg [br,w.heap.size,rr,lr] wr w1:=(Chg.refl [br,w.heap.size,rr,lr] wr).drew.trans g5
    have hw1:=W2.size
    have ho1:OwnB (w.heap.size+1) (.slice a4 k c4) ((D.drop i).take k) w1:=HOWN.out.kept W2 (own_low HOWN.out (by simp;omega))
    unfold OwnB at ho1
    rw [HLEN.out] at ho1
    have hne:∀j u,(bvs (((D.drop (i+k)).take 512)))[j]? =some u→w1.cell? ((⟨w.heap.size,0,none⟩:Addr).add j)=some u:=by
     intro j u hj
     rw [add_addr,Nat.zero_add,cell_heap g4]
     exact splice0_get cs 512 _ (by rw [List.length_take,List.length_drop];omega) (by rw [HCZ.out];omega) j u hj
    have hnl:(bvs ((D.drop (i+k)).take 512)).length=512*1:=by rw [bvs_length,List.length_take,List.length_drop];omega
    have hbs:w.heap.size+1≤w1.heap.size:=by have:=(Array.getElem?_eq_some_iff.1 g4).1;omega
    have H1:=Lib.hid g1;have H2:=Lib.hid g2;have H3:=Lib.hid g3;have H4:=Lib.hid g4;have H5:=Lib.hid W2;have HO1:=Lib.hid ho1;have HNE:=Lib.hid hne;have HNL:=Lib.hid hnl;have HONE:=Lib.hid (bvs_one ((D.drop (i+k)).take 512))
    clear g1 g2 g3 g4 g5 W2 ho1 hne hnl HREAD
    go_wp2_with (at_builtin;refine wpList_append_own _ rfl _ _ 35 rfl (w.heap.size+1) 5 i0 (.int .u8 0) 1 1 Tryz.underlying35 hi0 hz0 hz1 hz2 rfl (by decide) (.slice a4 k c4) k _ rfl HO1.out ⟨w.heap.size,0,none⟩ 512 512 _ rfl HNL.out HNE.out HONE.out (by unfold maxLen;omega) (by omega) hbs ?_;intro v' w4 hown' hgrow hnil)
    have hst:=allR_step (nb:=nb) (N:=1048577) (tr:=tr) hown' hgrow HO1.out H1.out H2.out (by omega) H3.out (by omega) H4.out (by rw [List.size_toArray,length_splice _ _ _ (by rw [bvs_length,List.length_take,List.length_drop];have:=HCZ.out;simp;omega)];simpa using HCZ.out) (HCH.out.trans (H5.out.mono (by simp))) (by omega) (by omega) (Nat.le_refl _)
    obtain ⟨hst,a,c,rfl⟩:=hst
    refine ⟨⟨k+512,by omega,⟨a,c,rfl⟩,hst⟩,?_⟩
    show nb - (k+512) < nb - k
    omega
  ·obtain ⟨m,hm⟩:∃m,nb - k=m:=⟨_,rfl⟩
   have HRG:=Lib.hid (show RegAt rr br (m:Int) wr by rw [←hm];exact HRG.out)
   have hkm:k+m=nb:=by omega
   have hm0:0 < m:=by omega
   have hm5:m≤512:=by omega
   have hm5':(m:Int)≤512:=by omega
   clear hm
   by_cases hcut:1048577 - k < 512
   ·have hread:=lim_lastCut lr tr rr br dr D (i+k) m (1048577 - k) w.heap.size 0 512 512 cs 131 eof wr.drew (HRD.out.chg' (Chg.refl [] wr).drew (by simp) (by simp)) (HRG.out.chg (Chg.refl [] wr).drew (by simp)) (HLM.out.chg (Chg.refl [] wr).drew (by simp)) HT2'.out HT5'.out (by omega) HCS.out (by omega) (by omega) (by omega) hrb hrd (by omega) (by omega) (by omega) (by omega) (by omega) (by omega) (by unfold maxLen;omega) (by rw [HCZ.out];omega) HE'.out ⟨h0.1,by omega,h0.2.1⟩ ⟨hlx.1,by omega,hlx.2.1,hlx.2.2⟩ (by omega)
    have HREAD:=Lib.hid hread
    clear hread
    go_wp2
    go_region_with (first | (go_at_call 360;refine HREAD.out.mono ?_;rintro e w1 ⟨rfl,g1,g2,g3,g4,g5⟩))
    all_goals
     have W2:Chg [br,w.heap.size,rr,lr] wr w1:=(Chg.refl [br,w.heap.size,rr,lr] wr).drew.trans g5
     have hw1:=W2.size
     have ho1:OwnB (w.heap.size+1) (.slice a4 k c4) ((D.drop i).take k) w1:=HOWN.out.kept W2 (own_low HOWN.out (by simp;omega))
     unfold OwnB at ho1
     rw [HLEN.out] at ho1
     have hne:∀j u,(bvs (((D.drop (i+k)).take m)))[j]? =some u→w1.cell? ((⟨w.heap.size,0,none⟩:Addr).add j)=some u:=by
      intro j u hj
      rw [add_addr,Nat.zero_add,cell_heap g4]
      exact splice0_get cs m _ (by rw [List.length_take,List.length_drop];omega) (by rw [HCZ.out];omega) j u hj
     have hnl:(bvs ((D.drop (i+k)).take m)).length=m*1:=by rw [bvs_length,List.length_take,List.length_drop];omega
     have hbs:w.heap.size+1≤w1.heap.size:=by have:=(Array.getElem?_eq_some_iff.1 g4).1;omega
     have H1:=Lib.hid g1;have H2:=Lib.hid g2;have H3:=Lib.hid g3;have H4:=Lib.hid g4;have H5:=Lib.hid W2;have HO1:=Lib.hid ho1;have HNE:=Lib.hid hne;have HNL:=Lib.hid hnl;have HONE:=Lib.hid (bvs_one ((D.drop (i+k)).take m))
     clear g1 g2 g3 g4 g5 W2 ho1 hne hnl HREAD
     have hE1:Sent w1 0 eof:=HE.out.chg (HCH.out.trans (H5.out.mono (by simp))) (by simp;omega)
     have HE1:=Lib.hid hE1
     clear hE1
     go_wp2_with (at_builtin;refine wpList_append_own _ rfl _ _ 35 rfl (w.heap.size+1) 5 i0 (.int .u8 0) 1 1 Tryz.underlying35 hi0 hz0 hz1 hz2 rfl (by decide) (.slice a4 k c4) k _ rfl HO1.out ⟨w.heap.size,0,none⟩ m 512 _ rfl HNL.out HNE.out HONE.out (by unfold maxLen;omega) (by omega) hbs ?_;intro v' w4 hown' hgrow hnil;have hE4:Sent w4 0 eof:=HE1.out.chg (chg_grownV hgrow (S:=(Value.slice a4 k c4).ownBlock.toList) (by intro g hg;have hq:(Value.slice a4 k c4).ownBlock=some g:=hg;rw [hq];simp)) (by intro hm;have hq:=(World.ownsRow.lt HO1.out 0 (by simpa using hm)).1;omega);unfold Sent at hE4)
     have hst:=allR_step (nb:=nb) (N:=1048577) (tr:=tr) hown' hgrow HO1.out H1.out (show RegAt rr br ((0:Nat):Int) w1 from H2.out) (by omega) H3.out (by omega) H4.out (by rw [List.size_toArray,length_splice _ _ _ (by rw [bvs_length,List.length_take,List.length_drop];have:=HCZ.out;simp;omega)];simpa using HCZ.out) (HCH.out.trans (H5.out.mono (by simp))) (by omega) (by omega) (Nat.le_refl _)
     rw [hkm] at hst
     obtain ⟨hst,a,c,rfl⟩:=hst
     go_ret2
     obtain ⟨q1,q2,q3,q4,q5,q6⟩:=hst
     refine ⟨⟨_,rfl,q1.low (Nat.le_succ _)⟩,q2,?_,q6.fresh (by simp)⟩
     rw [Nat.sub_self] at q3
     exact q3
   ·have hread:=lim_last lr tr rr br dr D (i+k) m (1048577 - k) w.heap.size 0 512 512 cs 131 eof wr.drew (HRD.out.chg' (Chg.refl [] wr).drew (by simp) (by simp)) (HRG.out.chg (Chg.refl [] wr).drew (by simp)) (HLM.out.chg (Chg.refl [] wr).drew (by simp)) HT2'.out HT5'.out (by omega) HCS.out (by omega) (by omega) (by omega) hrb hrd (by omega) (by omega) (by omega) (by omega) (by omega) (by omega) (by unfold maxLen;omega) (by rw [HCZ.out];omega) HE'.out ⟨h0.1,by omega,h0.2.1⟩ ⟨hlx.1,by omega,hlx.2.1,hlx.2.2⟩ (by omega)
    have HREAD:=Lib.hid hread
    clear hread
    go_wp2
    go_region_with (first | (go_at_call 360;refine HREAD.out.mono ?_;rintro e w1 ⟨rfl,g1,g2,g3,g4,g5⟩))
    all_goals
     have W2:Chg [br,w.heap.size,rr,lr] wr w1:=(Chg.refl [br,w.heap.size,rr,lr] wr).drew.trans g5
     have hw1:=W2.size
     have ho1:OwnB (w.heap.size+1) (.slice a4 k c4) ((D.drop i).take k) w1:=HOWN.out.kept W2 (own_low HOWN.out (by simp;omega))
     unfold OwnB at ho1
     rw [HLEN.out] at ho1
     have hne:∀j u,(bvs (((D.drop (i+k)).take m)))[j]? =some u→w1.cell? ((⟨w.heap.size,0,none⟩:Addr).add j)=some u:=by
      intro j u hj
      rw [add_addr,Nat.zero_add,cell_heap g4]
      exact splice0_get cs m _ (by rw [List.length_take,List.length_drop];omega) (by rw [HCZ.out];omega) j u hj
     have hnl:(bvs ((D.drop (i+k)).take m)).length=m*1:=by rw [bvs_length,List.length_take,List.length_drop];omega
     have hbs:w.heap.size+1≤w1.heap.size:=by have:=(Array.getElem?_eq_some_iff.1 g4).1;omega
     have H1:=Lib.hid g1;have H2:=Lib.hid g2;have H3:=Lib.hid g3;have H4:=Lib.hid g4;have H5:=Lib.hid W2;have HO1:=Lib.hid ho1;have HNE:=Lib.hid hne;have HNL:=Lib.hid hnl;have HONE:=Lib.hid (bvs_one ((D.drop (i+k)).take m))
     clear g1 g2 g3 g4 g5 W2 ho1 hne hnl HREAD
     have hE1:Sent w1 0 eof:=HE.out.chg (HCH.out.trans (H5.out.mono (by simp))) (by simp;omega)
     have HE1:=Lib.hid hE1
     clear hE1
     go_wp2_with (at_builtin;refine wpList_append_own _ rfl _ _ 35 rfl (w.heap.size+1) 5 i0 (.int .u8 0) 1 1 Tryz.underlying35 hi0 hz0 hz1 hz2 rfl (by decide) (.slice a4 k c4) k _ rfl HO1.out ⟨w.heap.size,0,none⟩ m 512 _ rfl HNL.out HNE.out HONE.out (by unfold maxLen;omega) (by omega) hbs ?_;intro v' w4 hown' hgrow hnil;have hE4:Sent w4 0 eof:=HE1.out.chg (chg_grownV hgrow (S:=(Value.slice a4 k c4).ownBlock.toList) (by intro g hg;have hq:(Value.slice a4 k c4).ownBlock=some g:=hg;rw [hq];simp)) (by intro hm;have hq:=(World.ownsRow.lt HO1.out 0 (by simpa using hm)).1;omega);unfold Sent at hE4)
     have hst:=allR_step (nb:=nb) (N:=1048577) (tr:=tr) hown' hgrow HO1.out H1.out (show RegAt rr br ((0:Nat):Int) w1 from H2.out) (by omega) H3.out (by omega) H4.out (by rw [List.size_toArray,length_splice _ _ _ (by rw [bvs_length,List.length_take,List.length_drop];have:=HCZ.out;simp;omega)];simpa using HCZ.out) (HCH.out.trans (H5.out.mono (by simp))) (by omega) (by omega) (Nat.le_refl _)
     rw [hkm] at hst
     obtain ⟨hst,a,c,rfl⟩:=hst
     go_ret2
     obtain ⟨q1,q2,q3,q4,q5,q6⟩:=hst
     refine ⟨⟨_,rfl,q1.low (Nat.le_succ _)⟩,q2,?_,q6.fresh (by simp)⟩
     rw [Nat.sub_self] at q3
     exact q3
set_option maxRecDepth 100000 in
set_option maxHeartbeats 1000000 in
theorem special_ok (tr rr br dr : Nat) (D : List UInt8) (i nb : Nat) (eof : Addr) (w : World) (h : RdrAt br dr D i w) (hr : RegAt rr br nb w) (T2 : w.cell? ⟨tr, 2, none⟩ = some (.iface 146 (.pointer (some ⟨rr, 0, none⟩)))) (T5 : w.cell? ⟨tr, 515, none⟩ = some .nilIface) (hi : i + nb ≤ D.length)
    (hrb : rr ≠ br) (hrd : rr ≠ dr) (hnb : 0 < nb) (hN : nb ≤ 1048576) (he : Sent w 0 eof) (h0 : 0 ≠ br ∧ 0 ≠ rr) (htx : tr ≠ br ∧ tr ≠ rr) :
    Calls Tryz.prog 152 #[.iface 82 (.pointer (some ⟨tr, 0, none⟩))] w fun e w' => (∃ a c, e = .returned (.tuple #[.slice a nb c, .nilIface]) ∧ OwnB w.heap.size (.slice a nb c) ((D.drop i).take nb) w') ∧
      RdrAt br dr D (i + nb) w' ∧ RegAt rr br 0 w' ∧ Chg [br, rr] w w' := by
  have hbl : br < w.heap.size := by obtain ⟨_, _, _, _, _, _, hb, _⟩ := h; exact (Array.getElem?_eq_some_iff.1 hb).1
  have hdl : dr < w.heap.size := by obtain ⟨_, _, _, _, _, _, _, _, _, hb, _⟩ := h; exact (Array.getElem?_eq_some_iff.1 hb).1
  have hrl : rr < w.heap.size := (Array.getElem?_eq_some_iff.1 hr).1
  have htl : tr < w.heap.size := World.block_lt_of_cell? w _ T2
  have h0l : 0 < w.heap.size := World.block_lt_of_cell? w _ he
  have h211 : Calls Tryz.prog 211 #[.iface 82 (.pointer (some ⟨tr, 0, none⟩)), .int .i64 1048577] w fun e w' => e = .returned (.iface 319 (.pointer (some ⟨w.heap.size, 0, none⟩))) ∧ LimAt w.heap.size tr 1048577 w' ∧ Chg [] w w' ∧ w'.heap.size = w.heap.size + 1 := by
    clear h hr T2 T5 he
    go_enter Tryz.func211, Tryz.ntmps211
    go_wp2
    go_ret
    exact ⟨rfl, heap_alloc_new w _, (Chg.refl _ w).alloc _, by simp⟩
  have hlen : ((D.drop i).take nb).length = nb := by rw [List.length_take, List.length_drop]; omega
  have H := Lib.hid h; have HR := Lib.hid hr; have HT2 := Lib.hid T2; have HT5 := Lib.hid T5; have HE := Lib.hid he; have H211 := Lib.hid h211; have HLEN := Lib.hid hlen
  clear h hr T2 T5 he h211 hlen
  have hq : ¬ ((1048576 : Int) < nb) := by omega
  go_enter Tryz.func152, Tryz.ntmps152
  go_wp2_with (first
    | (go_at_call 211; refine H211.out.mono ?_; rintro e w1 ⟨rfl, hl1, hc1, hs1⟩; have HL1 := Lib.hid hl1; have HC1 := Lib.hid hc1; have HS1 := Lib.hid hs1; clear hl1 hc1 hs1)
    | (go_at_call 210; refine (readAll_ok w.heap.size tr rr br dr D i nb eof _ (H.out.chg' HC1.out (by simp) (by simp)) (HR.out.chg HC1.out (by simp)) HL1.out (HC1.out.cell HT2.out (by simp)) (HC1.out.cell HT5.out (by simp)) hi hrb hrd hnb hN (HE.out.chg HC1.out (by simp)) ⟨h0.1, h0.2, by omega⟩ ⟨by omega, by omega, by omega⟩ ⟨htx.1, htx.2, by omega⟩).mono ?_
       rintro e w2 ⟨⟨v, rfl, ho⟩, g1, g2, g3⟩
       obtain ⟨a, c, rfl⟩ : ∃ a c, v = .slice a nb c := (by obtain ⟨_, ⟨rfl, h2⟩ | ⟨g, cap, cur, rfl, _⟩⟩ := ho; (exact ⟨_, _, by rw [← HLEN.out, h2]⟩); (exact ⟨_, _, by rw [HLEN.out]⟩))
       have HO := Lib.hid (ho.low (base' := w.heap.size) (by rw [HS1.out]; omega)); have H1 := Lib.hid g1; have H2 := Lib.hid g2; clear ho g1 g2))
  go_ret2
  exact ⟨⟨a, c, rfl, HO.out⟩, H1.out, H2.out, ((HC1.out.mono (S' := [br, rr]) (by simp)).transFresh g3 (by simp))⟩
end Go.Proofs.YtkanmkcojlefbaaGreatDoor
