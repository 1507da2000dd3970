/-
  Writer over a bytes.Buffer: Flush · What the package-level variables hold, carried from world to world · Decimal numerals, records of PAX, and times of PAX, as lists of bytes: what is written is read · Times: no monotonic clock; seconds and nanoseconds.
-/
import Derived.Test.YtkanmkcojlefbaaGreatDoorJ03
import Derived.Deep.RegionHeld3
import Derived.Lib.BufferOld
import Derived.Test.YtkanmkcojlefbaaGreatDoorJ04
import Derived.Lib.ItoaNum
import Derived.Lib.ParseIntB
set_option linter.unusedVariables false
namespace Go.Proofs.YtkanmkcojlefbaaGreatDoor
open Go.RowKit
structure FrW (B:Nat) (S:List Nat) (w w':World):Prop where
 below:Below B w w'
 kept:∀k o,w.heap[k]? =some o→k∉S→(∀c fz,o≠.cells c 5 fz)→w'.heap[k]? =some o
theorem FrW.refl (B:Nat) (S:List Nat) (w:World):FrW B S w w:=⟨Below.refl _ _,fun _ _ h _ _=>h⟩
theorem FrW.trans {B:Nat} {S:List Nat} {a b c:World} (h:FrW B S a b) (k:FrW B S b c):FrW B S a c:=
 ⟨h.below.trans k.below,fun i o hi hn ho=>k.kept i o (h.kept i o hi hn ho) hn ho⟩
theorem FrW.mono {B:Nat} {S S':List Nat} {a b:World} (h:FrW B S a b) (hs:∀k∈S,k∈S'):FrW B S' a b:=
 ⟨h.below,fun i o hi hn ho=>h.kept i o hi (fun hm=>hn (hs i hm)) ho⟩
theorem FrW.ofChg {B:Nat} {S:List Nat} {a b:World} (h:Chg S a b) (hB:B≤a.heap.size) (hs:∀k∈S,B≤k):FrW B S a b:=
 ⟨h.below hB hs,fun _ _ hi hn _=>h.heap hi hn⟩
theorem FrW.ofKept {B b:Nat} {w w':World} (h:Below B w w') (k:Lib.OthersKept 5 (some b) w w'):FrW B [b] w w':=
 ⟨h,fun i o hi hn ho=>k i o hi (by simpa using hn) ho⟩
theorem FrW.heap {B:Nat} {S:List Nat} {w w':World} (h:FrW B S w w') {k:Nat} {cs:Array Value} {t:TypeId} {fr:Nat×Nat} (hk:w.heap[k]? =some (.cells cs t fr)) (hn:k∉S) (ht:t≠5):w'.heap[k]? =some (.cells cs t fr):=
 h.kept k _ hk hn (fun c fz e=>ht (by injection e))
structure WrAt (tw b rw:Nat) (pad nb:Int) (cs:Array Value) (w:World):Prop where
 heap:w.heap[tw]? =some (.cells cs 134 (0,0))
 size:cs.size=536
 c0:cs[0]? =some (.iface 75 (.pointer (some ⟨b,0,none⟩)))
 c1:cs[1]? =some (.int .i64 pad)
 c2:cs[2]? =some (.iface 119 (.pointer (some ⟨rw,0,none⟩)))
 c535:cs[535]? =some .nilIface
 reg:w.heap[rw]? =some (.cells #[.iface 75 (.pointer (some ⟨b,0,none⟩)),.int .i64 nb] 121 (0,0))
theorem WrAt.frame {tw b rw:Nat} {pad nb:Int} {cs:Array Value} {B:Nat} {S:List Nat} {w w':World} (h:WrAt tw b rw pad nb cs w) (k:FrW B S w w') (h1:tw∉S) (h2:rw∉S):WrAt tw b rw pad nb cs w':=
 ⟨k.heap h.heap h1 (by decide),h.size,h.c0,h.c1,h.c2,h.c535,k.heap h.reg h2 (by decide)⟩
theorem ahead75 (a:Addr) (w:World):(nilAhead 511 75 (.pointer (some a)) "Write").run Tryz.prog w=.ok (some false) w:=by kernel_rfl
theorem zeros_new (w:World) (p:Nat) (hp:p≤512) (j:Nat) (v:Value) (hj:(bvs (List.replicate p 0))[j]? =some v):(w.alloc (.cells Tryz.zeroCells132 132)).cell? ((⟨w.heap.size,0,none⟩:Addr).add j)=some v:=by
 have hjp:j < p:=by have:=(List.getElem?_eq_some_iff.1 hj).1;simpa using this
 rw [add_addr,Nat.zero_add,World.cell?_alloc_new,zero132,List.getElem?_toArray,bvs_get,List.getElem?_replicate,if_pos (by omega)]
 rw [bvs_get,List.getElem?_replicate,if_pos hjp] at hj
 exact hj
theorem logw_any (b:Nat) (nb:Int) (w:World) :
  Calls Tryz.prog 343 #[.agg #[.iface 75 (.pointer (some ⟨b,0,none⟩)),.int .i64 nb]] w fun e w'=>e=.returned (.int .i64 nb)∧Chg [] w w':=by
 go_enter Tryz.func343,Tryz.ntmps343
 go_wp2
 go_ret
 exact ⟨rfl,(Chg.refl _ w).alloc _⟩
theorem isBuf_setOther {B b:Nat} {bs:List Value} {w:World} (h:Lib.IsBuffer 70 5 B b bs w) {g:Nat} {cs:Array Value} {t:TypeId} {fr:Nat×Nat} (hg:w.heap[g]? =some (.cells cs t fr)) (ht:t≠5) (hgb:g≠b) (i:Nat) (v:Value) :
  Lib.IsBuffer 70 5 B b bs (w.setCell ⟨g,i,none⟩ v):=by
 obtain ⟨hB,v0,lr,hbk,hown,hne⟩:=h
 refine ⟨hB,v0,lr,(Below.heap_setCell _ _ _ _ (by exact Ne.symm hgb)).trans hbk,⟨hown.1,?_⟩,hne⟩
 rcases hown.2 with hn | ⟨g',cap,cur,hv,hBg,hgg,rest⟩
 ·exact .inl hn
 ·refine .inr ⟨g',cap,cur,hv,hBg,(Below.heap_setCell _ _ _ _ (fun e=> ?_)).trans hgg,rest⟩
  subst e
  rw [hg] at hgg
  exact ht (by injection hgg with e;injection e)
def FlS (tw b p B:Nat) (w1 w':World):Prop:=w'.cell? ⟨tw,0,none⟩=some (.iface 75 (.pointer (some ⟨b,0,none⟩)))∧w'.cell? ⟨tw,1,none⟩=some (.int .i64 p)∧w'.cell? ⟨tw,535,none⟩=some .nilIface∧w'.frozen? ⟨tw,535,none⟩=false∧FrW B [tw,b] w1 w'
theorem keepS {tw b rw p:Nat} {nb:Int} {cs:Array Value} {B:Nat} {w1 w':World} (h:WrAt tw b rw p nb cs w1) (k:FrW B [b] w1 w') (htb:tw≠b) (hrb:rw≠b):FlS tw b p B w1 w':=by
 have h':=h.frame k (by simp;exact htb) (by simp;exact hrb)
 exact ⟨(cell_heap h'.heap 0).trans h'.c0,(cell_heap h'.heap 1).trans h'.c1,(cell_heap h'.heap 535).trans h'.c535,frozen_heap h'.heap 535,k.mono (by simp)⟩
theorem keepF {tw b rw p:Nat} {nb:Int} {cs:Array Value} {B:Nat} {w1 w':World} (h:WrAt tw b rw p nb cs w1) (k:FrW B [] w1 w') (htb:tw≠b) (hrb:rw≠b) (htr:tw≠rw) :
  w'.cell? ⟨tw,0,none⟩=some (.iface 75 (.pointer (some ⟨b,0,none⟩)))∧w'.cell? ⟨tw,1,none⟩=some (.int .i64 p)∧w'.cell? ⟨tw,535,none⟩=some .nilIface∧w'.frozen? ⟨tw,535,none⟩=false∧FrW B [tw,b] w1 w':=
 keepS h (k.mono (by simp)) htb hrb
theorem keepG {tw b p:Nat} {B:Nat} {w1 w':World} (h:FlS tw b p B w1 w') :
  w'.cell? ⟨tw,0,none⟩=some (.iface 75 (.pointer (some ⟨b,0,none⟩)))∧w'.cell? ⟨tw,1,none⟩=some (.int .i64 p)∧w'.cell? ⟨tw,535,none⟩=some .nilIface∧w'.frozen? ⟨tw,535,none⟩=false∧FrW B [tw,b] w1 w':=h
theorem FrW.setCell {B:Nat} {S:List Nat} {a w:World} (h:FrW B S a w) {p:Addr} (hp:p.block∈S) (hB:B≤p.block) (u:Value):FrW B S a (w.setCell p u):=
 ⟨h.below.setCell hB u,fun k o hi hn ho=>(Below.heap_setCell _ _ _ _ (fun e=>hn (by rw [e];exact hp))).trans (h.kept k o hi hn ho)⟩
theorem keepH {tw b p:Nat} {B:Nat} {w1 w':World} (hB:B≤tw) (h:FlS tw b p B w1 w'):FlS tw b p B w1 (w'.setCell ⟨tw,535,none⟩ .nilIface):=by
 obtain ⟨h0,h1,h2,h3,h4⟩:=h
 refine ⟨?_,?_,?_,?_,h4.setCell (by simp) hB _⟩
 ·simpa [go_sem] using h0
 ·simpa [go_sem] using h1
 ·simp [go_sem,h2]
 ·simpa [go_sem] using h3
set_option maxRecDepth 100000 in
set_option maxHeartbeats 800000 in
theorem flush_any (tw b rw p:Nat) (nb:Int) (cs:Array Value) (B:Nat) (bs:List UInt8) (w:World) (h:WrAt tw b rw p nb cs w) (hp:p≤512) (hnb:nb≤0) (htb:tw≠b) (htr:tw≠rw) (hrb:rw≠b)
  (hI:Lib.IsBuffer 70 5 B b (bvs bs) w) (hB:B≤w.heap.size) (hBt:B≤tw) (hlim:bs.length+p≤140737488355328) :
  Calls Tryz.prog 62 #[.pointer (some ⟨tw,0,none⟩)] w fun e w'=>e=.returned .nilIface∧(∃cs',WrAt tw b rw 0 nb cs' w'∧(∀i,2≤i→cs'[i]? =cs[i]?))∧
   Lib.IsBuffer 70 5 B b (bvs (bs++List.replicate p 0)) w'∧FrW B [tw,b] w w':=by
 have d535:w.cell? ⟨tw,535,none⟩=some .nilIface:=by rw [cell_heap h.heap];exact h.c535
 have d0:w.cell? ⟨tw,0,none⟩=some (.iface 75 (.pointer (some ⟨b,0,none⟩))):=by rw [cell_heap h.heap];exact h.c0
 have d1:w.cell? ⟨tw,1,none⟩=some (.int .i64 p):=by rw [cell_heap h.heap];exact h.c1
 have d2:w.cell? ⟨tw,2,none⟩=some (.iface 119 (.pointer (some ⟨rw,0,none⟩))):=by rw [cell_heap h.heap];exact h.c2
 have e0:w.cell? ⟨rw,0,none⟩=some (.iface 75 (.pointer (some ⟨b,0,none⟩))):=by rw [cell_heap h.reg];rfl
 have e1:w.cell? ⟨rw,1,none⟩=some (.int .i64 nb):=by rw [cell_heap h.reg];rfl
 have hm:=meth_logw rw _ _ w e0 e1
 have H:=Lib.hid h;have HI:=Lib.hid hI
 clear h hI
 have hnb':¬(0 < nb):=by omega
 go_enter Tryz.func62,Tryz.ntmps62
 go_wp2_with (go_at_call 343;refine (logw_any b nb _).mono ?_;rintro e w1 ⟨rfl,hc1⟩;refine Hid.out ?_)
 refine Lib.hid ?_
 go_wp2
 have hf1:FrW B [] w w1:=FrW.ofChg hc1 hB (by simp)
 have h1:=H.out.frame hf1 (by simp) (by simp)
 have hI1:Lib.IsBuffer 70 5 B b (bvs bs) w1:=Lib.IsBuffer.old HI.out (Chg.below hc1 (Nat.le_refl _) (by simp))
 have htl:tw < w1.heap.size:=(Array.getElem?_eq_some_iff.1 h1.heap).1
 have hbl:b < w1.heap.size:=hI1.lt
 have hB1:B≤w1.heap.size:=by have:=hc1.size;omega
 clear d535 d0 d1 d2 e0 e1 hm
 have d535:w1.cell? ⟨tw,535,none⟩=some .nilIface:=by rw [cell_heap h1.heap];exact h1.c535
 have d0:w1.cell? ⟨tw,0,none⟩=some (.iface 75 (.pointer (some ⟨b,0,none⟩))):=by rw [cell_heap h1.heap];exact h1.c0
 have d1:w1.cell? ⟨tw,1,none⟩=some (.int .i64 p):=by rw [cell_heap h1.heap];exact h1.c1
 have H1:=Lib.hid h1;have HI1:=Lib.hid hI1;have HF1:=Lib.hid hf1
 clear h1 hI1 hf1 hc1 H HI
 have hah:=ahead75
 have hBb:B≤b:=HI1.out.1
 have hsp:(p:Int)≤512:=by omega
 have hsp0:(0:Int)≤p:=by omega
 go_region_held3 (fun w'=>w'.cell? ⟨tw,0,none⟩=some (.iface 75 (.pointer (some ⟨b,0,none⟩)))∧w'.cell? ⟨tw,1,none⟩=some (.int .i64 p)∧w'.cell? ⟨tw,535,none⟩=some .nilIface∧w'.frozen? ⟨tw,535,none⟩=false∧FrW B [tw,b] w1 w') (first | exact keepF H1.out (FrW.refl _ _ _) htb hrb htr | exact keepF H1.out (FrW.ofChg (Chg.refl _ w1).drew hB1 (fun k hk=>by cases hk)) htb hrb htr | exact keepF H1.out (FrW.ofChg ((Chg.refl _ w1).alloc _) hB1 (fun k hk=>by cases hk)) htb hrb htr | exact keepF H1.out (FrW.ofChg ((Chg.refl _ w1).alloc _).drew hB1 (fun k hk=>by cases hk)) htb hrb htr | exact keepG (by assumption) | exact keepH hBt (by assumption)) ((first | (go_at_call 284;refine (Tryz.Buffer_Write_any B b (bvs bs) (bvs (List.replicate p 0)) ⟨w1.heap.size,0,none⟩ p 512 _ (by exact (HI1.out.alloc _).drew) (by simp;omega) (bvs_one _) (by simp) (by show w1.heap.size≠b;omega) (by exact zeros_new w1 p hp) (bvs_one _) (by simp;omega)).mono ?_;rintro e w2 ⟨rfl,hI2,hb2,hk2⟩;have hf2:FrW B [b] w1 w2:=FrW.trans (FrW.ofChg ((Chg.refl _ w1).alloc _).drew hB1 (by simp;exact hBb)) (FrW.ofKept hb2 hk2);have h2:=keepS H1.out hf2 htb hrb;have HF2:=Lib.hid hf2;have HI2:=Lib.hid hI2;clear hf2 hI2 hb2 hk2)))
 have hw2:=H1.out.frame HF2.out (by simp;exact htb) (by simp;exact hrb)
 have hs2:=hw2.size
 have h3:WrAt tw b rw p nb (cs.setIfInBounds 535 .nilIface) (w2.setCell ⟨tw,535,none⟩ .nilIface):=by
  refine ⟨heap_setCell_at hw2.heap 535 _,by simpa using hs2,?_,?_,?_,?_,?_⟩
  ·rw [Array.getElem?_setIfInBounds_ne (by omega)];exact hw2.c0
  ·rw [Array.getElem?_setIfInBounds_ne (by omega)];exact hw2.c1
  ·rw [Array.getElem?_setIfInBounds_ne (by omega)];exact hw2.c2
  ·rw [Array.getElem?_setIfInBounds_self,if_pos (by omega)]
  ·rw [Below.heap_setCell _ _ _ _ (by exact Ne.symm htr)];exact hw2.reg
 have hI3:Lib.IsBuffer 70 5 B b (bvs bs++bvs (List.replicate p 0)) (w2.setCell ⟨tw,535,none⟩ .nilIface):=isBuf_setOther HI2.out hw2.heap (by decide) htb _ _
 have hf3:FrW B [tw,b] w (w2.setCell ⟨tw,535,none⟩ .nilIface):=((HF1.out.mono (by simp)).trans (HF2.out.mono (by simp))).setCell (by simp) hBt _
 have hcs3:∀i,2≤i→(cs.setIfInBounds 535 .nilIface)[i]? =cs[i]? :=by
  intro i hi
  by_cases e:535=i
  ·subst e;rw [Array.getElem?_setIfInBounds_self,if_pos (by omega)];exact hw2.c535.symm
  ·rw [Array.getElem?_setIfInBounds_ne e]
 clear hw2 h2 d535 d0 d1 H1 HI1 HF1 HF2 HI2
 generalize w2.setCell ⟨tw,535,none⟩ .nilIface=w3 at*
 have d535:w3.cell? ⟨tw,535,none⟩=some .nilIface:=by rw [cell_heap h3.heap];exact h3.c535
 have d1:w3.cell? ⟨tw,1,none⟩=some (.int .i64 p):=by rw [cell_heap h3.heap];exact h3.c1
 have f1:w3.frozen? ⟨tw,1,none⟩=false:=frozen_heap h3.heap 1
 have H3:=Lib.hid h3;have HI3:=Lib.hid hI3;have HF3:=Lib.hid hf3;have HS2:=Lib.hid hs2;have HC3:=Lib.hid hcs3
 clear h3 hI3 hf3 hs2 hcs3
 go_wp2
 go_ret
 have h3:=H3.out
 have hs3:=h3.size
 refine ⟨rfl,⟨(cs.setIfInBounds 535 .nilIface).setIfInBounds 1 (.int .i64 0),⟨heap_setCell_at h3.heap 1 _,by simpa using HS2.out,?_,?_,?_,?_,?_⟩,?_⟩,?_,HF3.out.setCell (by simp) hBt _⟩
 ·rw [Array.getElem?_setIfInBounds_ne (by omega)];exact h3.c0
 ·rw [Array.getElem?_setIfInBounds_self,if_pos (by omega)]
 ·rw [Array.getElem?_setIfInBounds_ne (by omega)];exact h3.c2
 ·rw [Array.getElem?_setIfInBounds_ne (by omega)];exact h3.c535
 ·rw [Below.heap_setCell _ _ _ _ (by exact Ne.symm htr)];exact h3.reg
 ·intro i hi
  rw [Array.getElem?_setIfInBounds_ne (by omega)];exact HC3.out i hi
 ·rw [bvs_append];exact isBuf_setOther HI3.out h3.heap (by decide) htb _ _
end Go.Proofs.YtkanmkcojlefbaaGreatDoor
namespace Go.Proofs.YtkanmkcojlefbaaGreatDoor
open Go.RowKit Go.Maps Go.WideMaps
def EqB (B:Nat) (w w':World):Prop:=∀k,k < B→w'.heap[k]? =w.heap[k]?
theorem EqB.refl (B:Nat) (w:World):EqB B w w:=fun _ _=>rfl
theorem EqB.trans {B:Nat} {a b c:World} (h:EqB B a b) (k:EqB B b c):EqB B a c:=fun i hi=>(k i hi).trans (h i hi)
theorem EqB.cell {B:Nat} {w w':World} (h:EqB B w w') {p:Addr} {v:Value} (hc:w.cell? p=some v) (hp:p.block < B):w'.cell? p=some v:=
 (World.cell?_of_block (w:=w) (h p.block hp)).trans hc
theorem Chg.eqB {S:List Nat} {w w':World} (h:Chg S w w') {B:Nat} (hB:B≤w.heap.size) (hs:∀k∈S,B≤k):EqB B w w':=
 fun k hk=>h.block k (by omega) (fun hm=>by have:=hs k hm;omega)
theorem EqB.ofBelow {B:Nat} {w w':World} (h:Below B w w'):EqB B w w':=fun k hk=>h.block k hk
theorem FrW.eqB {B:Nat} {S:List Nat} {w w':World} (h:FrW B S w w'):EqB B w w':=EqB.ofBelow h.below
structure Env (B:Nat) (sn:Nat→Addr) (kb:Nat) (w:World):Prop where
 b22:19≤B
 size:B≤w.heap.size
 kbB:kb < B
 s0:Sent w 0 (sn 0)
 s1:Sent w 1 (sn 1)
 s2:Sent w 2 (sn 2)
 s3:Sent w 3 (sn 3)
 s4:Sent w 4 (sn 4)
 s5:Sent w 5 (sn 5)
 s6:Sent w 6 (sn 6)
 t15:w.cell? ⟨15,7,none⟩=some (.int .u8 3)
 t10:Lib.TabIs Tryz.prog w "internal/strconv.uint64pow10" .u64 Lib.pow10Tab
 c7:w.cell? ⟨7,0,none⟩=some (.map (some kb))
 bk:∃(D:DataW Unit) (n:Nat),w.ownsMap Tryz.prog 9 (plainElem Tryz.prog 4) kb n D∧∀s:ByteArray,s.size≤maxLen→∀z,D.atKey (kl s) z=if s.data.toList∈ [[112,97,116,104],[108,105,110,107,112,97,116,104],[115,105,122,101],[117,105,100],[103,105,100],[117,110,97,109,101],[103,110,97,109,101],[109,116,105,109,101],[97,116,105,109,101],[99,116,105,109,101]] then .lit (.bool true) else z
theorem g10:Tryz.prog.globalNamed "internal/strconv.uint64pow10" =some 10:=by kernel_rfl
theorem tab_eqB {B:Nat} {w w':World} (h:EqB B w w') (hB:19≤B) (ht:Lib.TabIs Tryz.prog w "internal/strconv.uint64pow10" .u64 Lib.pow10Tab):Lib.TabIs Tryz.prog w' "internal/strconv.uint64pow10" .u64 Lib.pow10Tab:=by
 unfold Lib.TabIs World.var? at ht⊢
 rw [g10] at ht⊢
 simp only [Option.bind_some] at ht⊢
 rw [h 10 (by omega)]
 exact ht
theorem Env.eqB {B:Nat} {sn:Nat→Addr} {kb:Nat} {w w':World} (h:Env B sn kb w) (k:EqB B w w') (hs:w.heap.size≤w'.heap.size):Env B sn kb w':=by
 have hb:=h.b22
 refine ⟨h.b22,Nat.le_trans h.size hs,h.kbB,k.cell h.s0 (by show 0 < B;omega),k.cell h.s1 (by show 1 < B;omega),k.cell h.s2 (by show 2 < B;omega),k.cell h.s3 (by show 3 < B;omega),k.cell h.s4 (by show 4 < B;omega),k.cell h.s5 (by show 5 < B;omega),k.cell h.s6 (by show 6 < B;omega),k.cell h.t15 (by show 15 < B;omega),tab_eqB k hb h.t10,k.cell h.c7 (by show 7 < B;omega),?_⟩
 obtain ⟨D,n,⟨es,clock,hh,F,hs,hD⟩,hat⟩:=h.bk
 exact ⟨D,n,⟨es,clock,(k kb h.kbB).trans hh,F,hs,hD⟩,hat⟩
theorem Env.chg {B:Nat} {sn:Nat→Addr} {kb:Nat} {S:List Nat} {w w':World} (h:Env B sn kb w) (k:Chg S w w') (hs:∀i∈S,B≤i):Env B sn kb w':=h.eqB (k.eqB h.size hs) k.size
theorem Env.chg0 {B:Nat} {sn:Nat→Addr} {kb:Nat} {w w':World} (h:Env B sn kb w) (k:Chg [] w w'):Env B sn kb w':=h.chg k (by simp)
theorem Env.frw {B:Nat} {sn:Nat→Addr} {kb:Nat} {S:List Nat} {w w':World} (h:Env B sn kb w) (k:FrW B S w w'):Env B sn kb w':=h.eqB k.eqB k.below.size
theorem Env.drew {B:Nat} {sn:Nat→Addr} {kb:Nat} {w:World} (h:Env B sn kb w):Env B sn kb w.drew:=h.eqB (fun _ _=>rfl) (Nat.le_refl _)
theorem Env.drewN {B:Nat} {sn:Nat→Addr} {kb:Nat} {w:World} (h:Env B sn kb w) (n:Nat):Env B sn kb (w.drewN n):=h.eqB (fun _ _=>rfl) (Nat.le_refl _)
theorem chg_grow (w:World) (os:Array Obj):Chg [] w (Sort.grow w os):=
 ⟨rfl,rfl,rfl,by simp [Sort.grow],fun k hk _=>by
  show (w.heap++os)[k]? =_
  rw [Array.getElem?_append_left hk]⟩
theorem chg_bytesWorld (w:World) (e:TypeId) (s:ByteArray):Chg [] w (Lib.bytesWorld w e s):=
 ⟨rfl,rfl,rfl,by rw [Lib.bytesWorld_size];omega,fun k hk _=>Lib.bytesWorld_at_old w e s k hk⟩
end Go.Proofs.YtkanmkcojlefbaaGreatDoor
namespace Go.Proofs.YtkanmkcojlefbaaGreatDoor
open Go.Lib
def AllDig (l:List UInt8):Prop:=∀c∈l,48≤c.toNat∧c.toNat≤57
theorem AllDig.append {l m:List UInt8} (h:AllDig l) (k:AllDig m):AllDig (l++m):=by
 intro c hc
 rcases List.mem_append.1 hc with h1 | h1
 ·exact h c h1
 ·exact k c h1
theorem dig_byte {d:Nat} (h:d < 10):(UInt8.ofNat (48+d)).toNat=48+d:=UInt8.toNat_ofNat_of_lt' (by show 48+d < 256;omega)
theorem allDig_dec (u:Nat):AllDig (decDigits u):=by
 induction u using Nat.strongRecOn with
 | _ u ih=>
  by_cases h:u < 10
  ·rw [decDigits,dif_pos h]
   intro c hc
   obtain rfl:=List.mem_singleton.1 hc
   rw [dig_byte h];omega
  ·rw [decDigits,dif_neg h]
   refine (ih (u / 10) (by omega)).append ?_
   intro c hc
   obtain rfl:=List.mem_singleton.1 hc
   rw [dig_byte (by omega)];omega
theorem dec_ne (u:Nat):decDigits u≠ []:=by
 intro h
 have:=decDigits_length u
 rw [h] at this
 have:=nDigits_pos u
 simp at *;omega
def decVal (a:Nat) (l:List UInt8):Nat:=l.foldl (fun a c=>a*10+(c.toNat - 48)) a
theorem decVal_cons (a:Nat) (c:UInt8) (l:List UInt8):decVal a (c::l)=decVal (a*10+(c.toNat - 48)) l:=by simp only [decVal,List.foldl_cons]
theorem decVal_append (a:Nat) (l m:List UInt8):decVal a (l++m)=decVal (decVal a l) m:=by simp [decVal,List.foldl_append]
theorem decVal_mono:∀(l:List UInt8) (a:Nat),a≤decVal a l
 | [],a=>Nat.le_refl _
 | c::r,a=>by
  rw [decVal_cons]
  exact Nat.le_trans (by omega) (decVal_mono r _)
theorem decVal_dec (u:Nat):decVal 0 (decDigits u)=u:=by
 induction u using Nat.strongRecOn with
 | _ u ih=>
  by_cases h:u < 10
  ·rw [decDigits,dif_pos h,decVal_cons,dig_byte h]
   show 0*10+(48+u - 48)=u
   omega
  ·rw [decDigits,dif_neg h,decVal_append,ih (u / 10) (by omega),decVal_cons,dig_byte (by omega)]
   show u / 10*10+(48+u % 10 - 48)=u
   omega
theorem pu_cons (M a:Nat) (c:UInt8) (r:List UInt8) (hc:48≤c.toNat∧c.toNat≤57) (h1:¬1844674407370955162≤a) (h2:¬M < a*10+(c.toNat - 48)):parseUintM M a (c::r)=parseUintM M (a*10+(c.toNat - 48)) r:=by
 simp only [parseUintM]
 rw [if_pos hc,if_neg h1,if_neg h2]
theorem pu_small (M a x v:Nat) (hM:M < 18446744073709551616) (h1:a*10+x≤v) (h2:v≤M):¬1844674407370955162≤a∧¬M < a*10+x:=by omega
theorem parseUintM_ok (M:Nat) (hM:M < 18446744073709551616) (l:List UInt8):∀(a:Nat),AllDig l→decVal a l≤M→parseUintM M a l=.ok (decVal a l):=by
 induction l with
 | nil=>intro a _ _;rfl
 | cons c r ih=>
  intro a hd hv
  have hc:=hd c (by simp)
  have hm:=decVal_mono r (a*10+(c.toNat - 48))
  rw [decVal_cons] at hv⊢
  obtain ⟨h1,h2⟩:=pu_small M a (c.toNat - 48) _ hM hm hv
  rw [pu_cons M a c r hc h1 h2]
  exact ih _ (fun x hx=>hd x (by simp [hx])) hv
theorem parseUint_digits (l:List UInt8) (hd:AllDig l) (hn:l≠ []) (hv:decVal 0 l < 18446744073709551616):parseUintB 64 l=.ok (decVal 0 l):=by
 rw [parseUintB,if_neg hn]
 exact parseUintM_ok _ (by decide) l 0 hd (by simp;omega)
theorem parseInt_digits (l:List UInt8) (hd:AllDig l) (hn:l≠ []) (hv:decVal 0 l < 9223372036854775808):parseIntB 64 l=.ok (decVal 0 l:Int):=by
 match l,hn with
 | c::r,_=>
  have hc:=hd c (by simp)
  have h1:¬(c.toNat=43∨c.toNat=45):=by omega
  have h2:¬c.toNat=45:=by omega
  simp only [parseIntB,if_neg h1,parseUint_digits (c::r) hd (by simp) (by omega)]
  rw [if_neg (by simp;omega),if_neg (fun h=>h2 h.1),if_neg h2]
theorem parseInt_minus (l:List UInt8) (hd:AllDig l) (hn:l≠ []) (hv:decVal 0 l≤9223372036854775808):parseIntB 64 (45::l)=.ok (-(decVal 0 l:Int)):=by
 have h1:((45:UInt8).toNat=43∨(45:UInt8).toNat=45):=.inr rfl
 have h2:(45:UInt8).toNat=45:=rfl
 simp only [parseIntB,if_pos h1,parseUint_digits l hd hn (by omega)]
 rw [if_neg (fun h=>h.1 h2),if_neg (by simp;omega),if_pos h2]
theorem parseInt_dec (u:Nat) (h:u < 9223372036854775808):parseIntB 64 (decDigits u)=.ok (u:Int):=by
 have:=parseInt_digits (decDigits u) (allDig_dec u) (dec_ne u) (by rw [decVal_dec];exact h)
 rw [decVal_dec] at this
 exact this
theorem parseInt_itoa (n:Int) (h0 : -9223372036854775808≤n) (h1:n < 9223372036854775808):parseIntB 64 (itoa n)=.ok n:=by
 unfold itoa
 by_cases h:n < 0
 ·rw [if_pos h,parseInt_minus _ (allDig_dec _) (dec_ne _) (by rw [decVal_dec];omega),decVal_dec]
  congr 1;omega
 ·rw [if_neg h,parseInt_dec _ (by omega)]
  congr 1;omega
theorem nDigits_lower (u:Nat) (h:1≤u):10 ^ (nDigits u - 1)≤u:=by
 induction u using Nat.strongRecOn with
 | _ u ih=>
  by_cases h10:u < 10
  ·rw [nDigits_small h10];simpa using h
  ·rw [nDigits_big h10,Nat.add_sub_cancel]
   have h2:=ih (u / 10) (by omega) (by omega)
   have h3:=nDigits_pos (u / 10)
   obtain ⟨k,hk⟩:∃k,nDigits (u / 10)=k+1:=⟨nDigits (u / 10) - 1,by omega⟩
   rw [hk] at h2⊢
   rw [Nat.pow_succ]
   simp only [Nat.add_sub_cancel] at h2
   omega
theorem lt_ten_pow (d:Nat):d+1≤10 ^ d:=by
 induction d with
 | zero=>simp
 | succ d ih=>rw [Nat.pow_succ];omega
theorem nDigits_add (s e:Nat) (hs:1≤s) (he:e≤nDigits s+1):nDigits (s+e)=nDigits s∨(nDigits (s+e)=nDigits s+1∧10 ^ nDigits s≤s+e):=by
 have h1:=nDigits_lower s hs
 have h2:=lt_pow_nDigits s
 have h3:=nDigits_pos s
 obtain ⟨k,hk⟩:∃k,nDigits s=k+1:=⟨nDigits s - 1,by omega⟩
 rw [hk] at h1 h2 he⊢
 simp only [Nat.add_sub_cancel] at h1
 by_cases h:s+e < 10 ^ (k+1)
 ·exact .inl (nDigits_unique k _ (by omega) h)
 ·refine .inr ⟨nDigits_unique (k+1) _ (by omega) ?_,by omega⟩
  have:=lt_ten_pow (k+1)
  rw [Nat.pow_succ]
  omega
def recLen (L:Nat):Nat:=if L+3+nDigits (L+3+nDigits (L+3))=L+3+nDigits (L+3) then L+3+nDigits (L+3) else L+3+nDigits (L+3+nDigits (L+3))
theorem recLen_fix (L:Nat):recLen L=L+3+nDigits (recLen L):=by
 unfold recLen
 by_cases h:L+3+nDigits (L+3+nDigits (L+3))=L+3+nDigits (L+3)
 ·rw [if_pos h];omega
 ·rw [if_neg h]
  rcases nDigits_add (L+3) (nDigits (L+3)) (by omega) (by omega) with h1 | ⟨h1,h2⟩
  ·omega
  ·rw [h1]
   have h3:=nDigits_pos (L+3)
   rcases nDigits_add (L+3) (nDigits (L+3)+1) (by omega) (by omega) with h4 | ⟨h4,h5⟩
   ·exfalso
    have:=lt_pow_nDigits (L+3+(nDigits (L+3)+1))
    rw [h4] at this
    omega
   ·rw [h4]
theorem recLen_le (L:Nat) (h:L < 1000000000):recLen L≤L+13:=by
 have h1:=recLen_fix L
 have h2:∀n,n < 10 ^ 10→nDigits n≤10:=by
  intro n hn
  rcases Nat.eq_zero_or_pos n with rfl | hp
  ·rw [nDigits_small (by decide)];decide
  ·have:=nDigits_lower n hp
   have h3:10 ^ (nDigits n - 1) < 10 ^ 10:=by omega
   have:=(Nat.pow_lt_pow_iff_right (by decide:1 < 10)).1 h3
   omega
 have h3:recLen L≤L+3+30:=by
  unfold recLen
  have a:=h2 (L+3) (by omega)
  have b:=h2 (L+3+nDigits (L+3)) (by omega)
  split<;>omega
 have:=h2 (recLen L) (by omega)
 omega
theorem dec_no (c:UInt8) (u:Nat) (h:c.toNat < 48∨57 < c.toNat):c∉decDigits u:=by
 intro hm
 have:=allDig_dec u c hm
 omega
def nine (n:Nat):List UInt8:=List.replicate (9 - nDigits n) 48++decDigits n
theorem nDigits_nine {n:Nat} (h:n < 1000000000):nDigits n≤9:=by
 rcases Nat.eq_zero_or_pos n with rfl | hp
 ·rw [nDigits_small (by decide)];decide
 ·have:=nDigits_lower n hp
  have h3:10 ^ (nDigits n - 1) < 10 ^ 9:=by omega
  have:=(Nat.pow_lt_pow_iff_right (by decide:1 < 10)).1 h3
  omega
theorem nine_length {n:Nat} (h:n < 1000000000):(nine n).length=9:=by
 have:=nDigits_nine h
 simp [nine,decDigits_length];omega
theorem allDig_rep (k:Nat):AllDig (List.replicate k 48):=by
 intro c hc
 obtain ⟨_,rfl⟩:=List.mem_replicate.1 hc
 decide
theorem allDig_nine (n:Nat):AllDig (nine n):=(allDig_rep _).append (allDig_dec n)
theorem decVal_zeros (k:Nat):decVal 0 (List.replicate k 48)=0:=by
 induction k with
 | zero=>rfl
 | succ k ih=>rw [List.replicate_succ,decVal_cons];exact ih
theorem decVal_nine (n:Nat):decVal 0 (nine n)=n:=by rw [nine,decVal_append,decVal_zeros,decVal_dec]
def trim0 (l:List UInt8):List UInt8:=(l.reverse.dropWhile (· == 48)).reverse
theorem trim0_pad (l:List UInt8):trim0 l++List.replicate (l.length - (trim0 l).length) 48=l:=by
 have h:=List.takeWhile_append_dropWhile (p:=fun c:UInt8=>c == 48) (l:=l.reverse)
 have hr:l=(l.reverse.dropWhile (· == 48)).reverse++(l.reverse.takeWhile (· == 48)).reverse:=by
  rw [←List.reverse_append,h,List.reverse_reverse]
 have ht:(l.reverse.takeWhile (· == 48)).reverse=List.replicate (l.length - (trim0 l).length) 48:=by
  rw [List.eq_replicate_iff]
  constructor
  ·have:=congrArg List.length hr
   simp only [List.length_append,List.length_reverse] at this
   simp only [trim0,List.length_reverse]
   omega
  ·intro c hc
   have:=List.all_eq_true.1 (List.all_takeWhile (p:=fun c:UInt8=>c == 48) (l:=l.reverse)) c (List.mem_reverse.1 hc)
   simpa using this
 unfold trim0 at ht⊢
 rw [←ht]
 exact hr.symm
theorem trim0_ne (l:List UInt8) (hd:AllDig l) (h:decVal 0 l≠0):trim0 l≠ []:=by
 intro e
 have:=trim0_pad l
 rw [e] at this
 simp only [List.nil_append,List.length_nil,Nat.sub_zero] at this
 rw [←this,decVal_zeros] at h
 exact h rfl
theorem trim0_sub (l:List UInt8):∀c∈trim0 l,c∈l:=by
 intro c hc
 have:=trim0_pad l
 rw [←this]
 exact List.mem_append.2 (.inl hc)
theorem trim0_le (l:List UInt8):(trim0 l).length≤l.length:=by
 have:=congrArg List.length (trim0_pad l)
 simp only [List.length_append] at this
 omega
def paxTime (s:Int) (ns:Nat):List UInt8:=
 if ns=0 then itoa s
 else if s < 0 then 45::decDigits (-(s+1)).toNat++46::trim0 (nine (1000000000 - ns))
 else decDigits s.toNat++46::trim0 (nine ns)
end Go.Proofs.YtkanmkcojlefbaaGreatDoor
namespace Go.Proofs.YtkanmkcojlefbaaGreatDoor
open Go.RowKit
def tm (s:Int) (ns:Nat):Value:=.agg #[.int .u64 ns,.int .i64 (s+62135596800)]
def TmAt (g:Nat) (s:Int) (ns:Nat) (w:World):Prop:=w.heap[g]? =some (.cells #[.int .u64 ns,.int .i64 (s+62135596800)] 126 (0,0))
theorem u64_hasMono (n:Nat) (h:n < 1000000000):bits .and .u64 (n:Int) 9223372036854775808=0:=by
 have h1:(BitVec.ofInt 64 (n:Int) &&& BitVec.ofInt 64 9223372036854775808).toNat=0:=by
  rw [BitVec.toNat_and,BitVec.toNat_ofInt]
  have e1:(BitVec.ofInt 64 9223372036854775808).toNat=2 ^ 63:=by decide
  rw [e1]
  have e2:((n:Int) % (2:Int) ^ 64).toNat=n:=by omega
  have:n &&& 2 ^ 63=0:=by
   apply Nat.eq_of_testBit_eq
   intro i
   rw [Nat.testBit_and,Nat.testBit_two_pow,Nat.zero_testBit]
   by_cases hi:63=i
   ·subst hi;rw [Nat.testBit_lt_two_pow (show n < 2 ^ 63 by omega)];rfl
   ·simp [hi]
  have e3:(((n:Int)) % ↑(2 ^ 64:Nat)).toNat=n:=by omega
  rw [e3]
  exact this
 show IntKind.wrap .u64 ((BitVec.ofInt 64 (n:Int) &&& BitVec.ofInt 64 9223372036854775808).toNat:Int)=_
 rw [h1]
 rfl
theorem u64_nsec (n:Nat) (h:n < 1000000000):bits .and .u64 (n:Int) 1073741823=(n:Int):=by
 have h1:(BitVec.ofInt 64 (n:Int) &&& BitVec.ofInt 64 1073741823).toNat=n:=by
  rw [BitVec.toNat_and,BitVec.toNat_ofInt]
  have e1:(BitVec.ofInt 64 1073741823).toNat=2 ^ 30 - 1:=by decide
  have e3:(((n:Int)) % ↑(2 ^ 64:Nat)).toNat=n:=by omega
  rw [e1,e3,Nat.and_two_pow_sub_one_eq_mod]
  omega
 show IntKind.wrap .u64 ((BitVec.ofInt 64 (n:Int) &&& BitVec.ofInt 64 1073741823).toNat:Int)=_
 rw [h1]
 have hb:IntKind.u64.bits=64:=rfl
 simp only [IntKind.wrap,hb]
 simp
 omega
theorem s126:(Tryz.prog.info? 126).map (·.size)=some 2:=by kernel_rfl
theorem sec_any (g:Nat) (s:Int) (ns:Nat) (w:World) (h:TmAt g s ns w) (hn:ns < 1000000000):Calls Tryz.prog 163 #[.pointer (some ⟨g,0,none⟩)] w fun e w'=>e=.returned (.int .i64 (s+62135596800))∧w=w':=by
 have c0:w.cell? ⟨g,0,none⟩=some (.int .u64 ns):=by rw [cell_heap h];rfl
 have c1:w.cell? ⟨g,1,none⟩=some (.int .i64 (s+62135596800)):=by rw [cell_heap h];rfl
 have e:=u64_hasMono ns hn
 go_enter Tryz.func163,Tryz.ntmps163
 go_wp2
 go_ret
 exact ⟨rfl,rfl⟩
theorem nsec_any (g:Nat) (s:Int) (ns:Nat) (w:World) (h:TmAt g s ns w) (hn:ns < 1000000000):Calls Tryz.prog 164 #[.pointer (some ⟨g,0,none⟩)] w fun e w'=>e=.returned (.int .i32 ns)∧w=w':=by
 have c0:w.cell? ⟨g,0,none⟩=some (.int .u64 ns):=by rw [cell_heap h];rfl
 have e:=u64_nsec ns hn
 go_enter Tryz.func164,Tryz.ntmps164
 go_wp2
 go_ret
 exact ⟨by go_num,rfl⟩
theorem unixSec_any (g:Nat) (s:Int) (ns:Nat) (w:World) (h:TmAt g s ns w) (hn:ns < 1000000000) (h1 : -4000000000000000000≤s) (h2:s≤4000000000000000000):Calls Tryz.prog 169 #[.pointer (some ⟨g,0,none⟩)] w fun e w'=>e=.returned (.int .i64 s)∧w=w':=by
 go_enter Tryz.func169,Tryz.ntmps169
 go_wp2_with (go_at_call 163;refine (sec_any g s ns _ h hn).mono ?_;rintro e w1 ⟨rfl,rfl⟩)
 go_ret
 exact ⟨by go_num,rfl⟩
theorem Unix_any (s:Int) (ns:Nat) (w:World) (hn:ns < 1000000000) (h1 : -4000000000000000000≤s) (h2:s≤4000000000000000000):Calls Tryz.prog 103 #[tm s ns] w fun e w'=>e=.returned (.int .i64 s)∧Chg [] w w':=by
 unfold tm
 go_enter Tryz.func103,Tryz.ntmps103
 go_wp2_with (go_at_call 169;refine (unixSec_any _ s ns _ (heap_alloc_new _ _) hn h1 h2).mono ?_;rintro e w1 ⟨rfl,rfl⟩)
 go_ret
 exact ⟨by go_num,(Chg.refl _ _).alloc _⟩
theorem Nano_any (s:Int) (ns:Nat) (w:World) (hn:ns < 1000000000):Calls Tryz.prog 104 #[tm s ns] w fun e w'=>e=.returned (.int .i64 ns)∧Chg [] w w':=by
 unfold tm
 go_enter Tryz.func104,Tryz.ntmps104
 go_wp2_with (go_at_call 164;refine (nsec_any _ s ns _ (heap_alloc_new _ _) hn).mono ?_;rintro e w1 ⟨rfl,rfl⟩)
 go_ret
 exact ⟨by go_num,(Chg.refl _ _).alloc _⟩
theorem isZero_any (s:Int) (ns:Nat) (w:World) (hn:ns < 1000000000) (h1 : -4000000000000000000≤s) (h2:s≤4000000000000000000):Calls Tryz.prog 74 #[tm s ns] w fun e w'=>e=.returned (.bool (decide (s=-62135596800∧ns=0)))∧Chg [] w w':=by
 unfold tm
 by_cases h0:ns=0
 ·subst h0
  go_enter Tryz.func74,Tryz.ntmps74
  go_wp2
  go_ret
  refine ⟨?_,(Chg.refl _ _).alloc _⟩
  have e:(s+62135596800 == 0)=decide (s=-62135596800∧True):=by
   rw [Bool.eq_iff_iff];simp;omega
  show _=Ending.returned (Value.bool (decide (s=-62135596800∧True)))
  rw [←e]
  rfl
 ·go_enter Tryz.func74,Tryz.ntmps74
  go_wp2
  go_ret
  refine ⟨?_,(Chg.refl _ _).alloc _⟩
  simp [h0]
theorem unixTime_any (s:Int) (ns:Nat) (w:World) (hn:ns < 1000000000) (h1 : -4000000000000000000≤s) (h2:s≤4000000000000000000):Calls Tryz.prog 145 #[.int .i64 s,.int .i32 ns] w fun e w'=>e=.returned (tm s ns)∧Chg [] w w':=by
 unfold tm
 go_enter Tryz.func145,Tryz.ntmps145
 go_wp2
 refine bodyPost_ret (results_cell_row rfl _ _ _ _ _ _ _ rfl (heap_alloc_new _ _) Tryz.underlying126 rfl s126) rfl ?_
 exact ⟨rfl,(Chg.refl _ _).alloc _⟩
theorem unix_any (s:Int) (ns:Nat) (w:World) (hn:ns < 1000000000) (h1 : -4000000000000000000≤s) (h2:s≤4000000000000000000):Calls Tryz.prog 70 #[.int .i64 s,.int .i64 ns] w fun e w'=>e=.returned (tm s ns)∧Chg [] w w':=by
 have hn1:¬((ns:Int) < 0):=by omega
 have hn2:¬(1000000000≤(ns:Int)):=by omega
 go_enter Tryz.func70,Tryz.ntmps70
 go_wp2_with (go_at_call 145;refine (unixTime_any s ns _ hn h1 h2).mono ?_;rintro e w1 ⟨rfl,hc⟩;simp only [tm];have hb:=hc.heap (heap_alloc_new w _) (by simp);have c0:=cell_heap hb 0;have c1:=cell_heap hb 1;have f0:=frozen_heap hb 0;have f1:=frozen_heap hb 1)
 have h3:=heap_setCell_at (heap_setCell_at hb 0 (.int .u64 ns)) 1 (.int .i64 (s+62135596800))
 refine bodyPost_ret (results_cell_row rfl _ _ _ _ _ _ _ rfl h3 Tryz.underlying126 rfl s126) rfl ?_
 exact ⟨rfl,((((Chg.refl [] w).alloc _).trans hc).setCell (.inr (Nat.le_refl _)) _).setCell (.inr (Nat.le_refl _)) _⟩
theorem unix_neg (s:Int) (ns:Nat) (w:World) (hn:ns < 1000000000) (hn0:0 < ns) (h1 : -4000000000000000000≤s - 1) (h2:s≤4000000000000000000):Calls Tryz.prog 70 #[.int .i64 s,.int .i64 (-(ns:Int))] w fun e w'=>e=.returned (tm (s - 1) (1000000000 - ns))∧Chg [] w w':=by
 have hn1:(-(ns:Int) < 0):=by omega
 have hq:Int.tdiv (-(ns:Int)) 1000000000=0:=by rw [Int.neg_tdiv,Int.tdiv_eq_ediv_of_nonneg (by omega)];omega
 have hsub : -(ns:Int)+1000000000=((1000000000 - ns:Nat):Int):=by omega
 have hsub':1000000000+-(ns:Int)=((1000000000 - ns:Nat):Int):=by omega
 have hlt:1000000000 - ns < 1000000000:=by omega
 go_enter Tryz.func70,Tryz.ntmps70
 go_wp2_with (go_at_call 145;refine (unixTime_any (s - 1) (1000000000 - ns) _ hlt h1 (by omega)).mono ?_;rintro e w1 ⟨rfl,hc⟩;simp only [tm];have hb:=hc.heap (heap_alloc_new w _) (by simp);have c0:=cell_heap hb 0;have c1:=cell_heap hb 1;have f0:=frozen_heap hb 0;have f1:=frozen_heap hb 1)
 have h3:=heap_setCell_at (heap_setCell_at hb 0 (.int .u64 (1000000000 - ns:Nat))) 1 (.int .i64 (s - 1+62135596800))
 refine bodyPost_ret (results_cell_row rfl _ _ _ _ _ _ _ rfl h3 Tryz.underlying126 rfl s126) rfl ?_
 exact ⟨rfl,((((Chg.refl [] w).alloc _).trans hc).setCell (.inr (Nat.le_refl _)) _).setCell (.inr (Nat.le_refl _)) _⟩
theorem strip_any (g:Nat) (s:Int) (ns:Nat) (w:World) (h:TmAt g s ns w) (hn:ns < 1000000000):Calls Tryz.prog 89 #[.pointer (some ⟨g,0,none⟩)] w fun e w'=>e=.returned (.tuple #[])∧w=w':=by
 have c0:w.cell? ⟨g,0,none⟩=some (.int .u64 ns):=by rw [cell_heap h];rfl
 have e:=u64_hasMono ns hn
 go_enter Tryz.func89,Tryz.ntmps89
 go_wp2
 go_end0
 exact ⟨rfl,rfl⟩
theorem half_any (x:Nat) (w:World) (hx:x < 1000000000):Calls Tryz.prog 91 #[.int .i64 x,.int .i64 1000000000] w fun e w'=>e=.returned (.bool (decide (x < 500000000)))∧w=w':=by
 go_enter Tryz.func91,Tryz.ntmps91
 go_wp2
 go_ret
 refine ⟨?_,rfl⟩
 have e:decide ((x:Int)+x < 1000000000)=decide (x < 500000000):=by rw [Bool.eq_iff_iff];simp;omega
 rw [←e]
 rfl
theorem addSec_any (g:Nat) (s d:Int) (ns:Nat) (w:World) (h:TmAt g s ns w) (hn:ns < 1000000000) (h1 : -4000000000000000000≤s) (h2:s≤4000000000000000000) (hd:d=0∨d=1) :
  Calls Tryz.prog 165 #[.pointer (some ⟨g,0,none⟩),.int .i64 d] w fun e w'=>e=.returned (.tuple #[])∧w'=w.setCell ⟨g,1,none⟩ (.int .i64 (s+d+62135596800)):=by
 have c0:w.cell? ⟨g,0,none⟩=some (.int .u64 ns):=by rw [cell_heap h];rfl
 have c1:w.cell? ⟨g,1,none⟩=some (.int .i64 (s+62135596800)):=by rw [cell_heap h];rfl
 have f1:=frozen_heap h 1
 have e:=u64_hasMono ns hn
 rcases hd with rfl | rfl
 ·have e2:s+0+62135596800=s+62135596800:=by omega
  rw [e2]
  clear e2
  go_enter Tryz.func165,Tryz.ntmps165
  go_wp2
  go_end0
  exact ⟨rfl,rfl⟩
 ·have e2:s+1+62135596800=s+62135596800+1:=by omega
  rw [e2]
  clear e2
  go_enter Tryz.func165,Tryz.ntmps165
  go_wp2
  go_end0
  exact ⟨rfl,rfl⟩
theorem u64_clear (n:Nat) (h:n < 1000000000):bits .andNot .u64 (n:Int) 1073741823=0:=by
 have h1:(BitVec.ofInt 64 (n:Int) &&& ~~~ BitVec.ofInt 64 1073741823).toNat=0:=by
  have:BitVec.ofInt 64 (n:Int) &&& ~~~ BitVec.ofInt 64 1073741823=0#64:=by
   apply BitVec.eq_of_getLsbD_eq
   intro i hi
   rw [BitVec.getLsbD_and,BitVec.getLsbD_not]
   have e1:BitVec.ofInt 64 1073741823=BitVec.ofNat 64 (2 ^ 30 - 1):=by decide
   have e2:BitVec.ofInt 64 (n:Int)=BitVec.ofNat 64 n:=by simp
   rw [e1,e2,BitVec.getLsbD_ofNat,BitVec.getLsbD_ofNat,Nat.testBit_two_pow_sub_one]
   by_cases h30:i < 30
   ·simp [h30]
   ·rw [Nat.testBit_lt_two_pow (show n < 2 ^ i from Nat.lt_of_lt_of_le (show n < 2 ^ 30 by omega) (Nat.pow_le_pow_right (by decide) (by omega)))]
    simp
  rw [this];rfl
 show IntKind.wrap .u64 ((BitVec.ofInt 64 (n:Int) &&& ~~~ BitVec.ofInt 64 1073741823).toNat:Int)=_
 rw [h1]
 rfl
theorem alloc2_0 (w:World) (A B:Obj):((w.alloc A).alloc B).heap[w.heap.size]? =some A:=(Below.heap_alloc _ _ _ (by simp)).trans (heap_alloc_new _ _)
theorem alloc2_1 (w:World) (A B:Obj):((w.alloc A).alloc B).heap[w.heap.size+1]? =some B:=by
 have:=heap_alloc_new (w.alloc A) B
 simpa using this
set_option maxHeartbeats 1000000 in
theorem add_down (s:Int) (ns:Nat) (w:World) (hn:ns < 1000000000) (h1 : -4000000000000000000≤s) (h2:s≤4000000000000000000):Calls Tryz.prog 92 #[tm s ns,.int .i64 (-(ns:Int))] w fun e w'=>e=.returned (tm s 0)∧Chg [] w w':=by
 have hq:Int.tdiv (-(ns:Int)) 1000000000=0:=by rw [Int.neg_tdiv,Int.tdiv_eq_ediv_of_nonneg (by omega)];omega
 have hr:Int.tmod (-(ns:Int)) 1000000000=-(ns:Int):=by rw [Int.neg_tmod,Int.tmod_eq_emod_of_nonneg (by omega)];omega
 have e3:=u64_clear ns hn
 have hz:(ns:Int)+-(ns:Int)=0:=by omega
 have ho:bits .or .u64 0 0=0:=by decide
 have em:bits .and .u64 0 9223372036854775808=0:=by decide
 unfold tm
 go_enter Tryz.func92,Tryz.ntmps92
 go_wp2_with (first
  | (go_at_call 164;refine (nsec_any _ s ns _ (by exact alloc2_0 _ _ _) hn).mono ?_;rintro e w1 ⟨rfl,rfl⟩)
  | (go_at_call 165;refine (addSec_any _ s 0 0 _ (by exact alloc2_0 _ _ _) (by decide) h1 h2 (.inl rfl)).mono ?_;rintro e w1 ⟨rfl,rfl⟩))
 refine bodyPost_ret (results_cell_row rfl _ _ _ _ _ _ _ rfl (alloc2_1 _ _ _) Tryz.underlying126 rfl s126) rfl ?_
 exact ⟨rfl,((Chg.refl _ _).alloc _).alloc _⟩
set_option maxHeartbeats 1000000 in
theorem add_up (s:Int) (ns:Nat) (w:World) (hn:ns < 1000000000) (hn0:0 < ns) (h1 : -4000000000000000000≤s) (h2:s≤4000000000000000000 - 1):Calls Tryz.prog 92 #[tm s ns,.int .i64 (1000000000 - (ns:Int))] w fun e w'=>e=.returned (tm (s+1) 0)∧Chg [] w w':=by
 have hq:Int.tdiv (1000000000 - (ns:Int)) 1000000000=0:=by rw [Int.tdiv_eq_ediv_of_nonneg (by omega)];omega
 have hr:Int.tmod (1000000000 - (ns:Int)) 1000000000=1000000000 - (ns:Int):=by rw [Int.tmod_eq_emod_of_nonneg (by omega)];omega
 have e3:=u64_clear ns hn
 have hz:(ns:Int)+(1000000000 - (ns:Int))=1000000000:=by omega
 have ho:bits .or .u64 0 0=0:=by decide
 have em:bits .and .u64 0 9223372036854775808=0:=by decide
 unfold tm
 go_enter Tryz.func92,Tryz.ntmps92
 go_wp2_with (first
  | (go_at_call 164;refine (nsec_any _ s ns _ (by exact alloc2_0 _ _ _) hn).mono ?_;rintro e w1 ⟨rfl,rfl⟩)
  | (go_at_call 165;refine (addSec_any _ s 1 0 _ (by exact alloc2_0 _ _ _) (by decide) h1 (by omega) (.inr rfl)).mono ?_;rintro e w1 ⟨rfl,rfl⟩))
 refine bodyPost_ret (results_cell_row rfl _ _ _ _ _ _ _ rfl (alloc2_1 _ _ _) Tryz.underlying126 rfl s126) rfl ?_
 exact ⟨rfl,((Chg.refl _ _).alloc _).alloc _⟩
theorem tup2 (q r:Int) (n:Int) (h:r=n):Ending.returned (Value.tuple #[Value.int .i64 q,Value.int .i64 r])=Ending.returned (Value.tuple #[Value.int .i64 q,Value.int .i64 n]):=by rw [h]
set_option maxHeartbeats 2000000 in
theorem div_any (s:Int) (ns:Nat) (w:World) (hn:ns < 1000000000) (h1 : -4000000000000000000≤s) (h2:s≤4000000000000000000):Calls Tryz.prog 90 #[tm s ns,.int .i64 1000000000] w fun e w'=>(∃q,e=.returned (.tuple #[.int .i64 q,.int .i64 ns]))∧Chg [] w w':=by
 unfold tm
 go_enter Tryz.func90,Tryz.ntmps90
 go_wp2_with (first
  | (go_at_call 164;refine (nsec_any _ s ns _ (heap_alloc_new _ _) hn).mono ?_;rintro e w1 ⟨rfl,rfl⟩)
  | (go_at_call 163;refine (sec_any _ s ns _ (heap_alloc_new _ _) hn).mono ?_;rintro e w1 ⟨rfl,rfl⟩))
 all_goals
  go_ret2
  exact ⟨⟨_,tup2 _ _ _ (by omega)⟩,(Chg.refl _ _).alloc _⟩
set_option maxHeartbeats 1000000 in
theorem round_down (s:Int) (ns:Nat) (w:World) (hn:ns < 500000000) (h1 : -4000000000000000000≤s) (h2:s≤4000000000000000000):Calls Tryz.prog 64 #[tm s ns,.int .i64 1000000000] w fun e w'=>e=.returned (tm s 0)∧Chg [] w w':=by
 have hd:decide (ns < 500000000)=true:=decide_eq_true hn
 unfold tm
 go_enter Tryz.func64,Tryz.ntmps64
 go_wp2_with (first
  | (go_at_call 89;refine (strip_any _ s ns _ (by exact alloc2_0 _ _ _) (by omega)).mono ?_;rintro e w1 ⟨rfl,rfl⟩)
  | (go_at_call 90;refine (div_any s ns _ (by omega) h1 h2).mono ?_;rintro e w1 ⟨⟨q,rfl⟩,hc1⟩;have hb:=hc1.heap (alloc2_0 w _ _) (by simp);have hb2:=hc1.heap (alloc2_1 w _ _) (by simp);have c0:=cell_heap hb 0;have c1:=cell_heap hb 1;have HB2:=Lib.hid hb2;clear hb2)
  | (go_at_call 91;refine (half_any ns _ (by omega)).mono ?_;rw [hd];rintro e w2 ⟨rfl,rfl⟩)
  | (go_at_call 92;refine (add_down s ns _ (by omega) h1 h2).mono ?_;rintro e w2 ⟨rfl,hc2⟩;simp only [tm];have hb3:=hc2.heap HB2.out (by simp);have c2:=cell_heap hb3 0;have c3:=cell_heap hb3 1;have f2:=frozen_heap hb3 0;have f3:=frozen_heap hb3 1))
 have h3:=heap_setCell_at (heap_setCell_at hb3 0 (.int .u64 (0:Nat))) 1 (.int .i64 (s+62135596800))
 refine bodyPost_ret (results_cell_row rfl _ _ _ _ _ _ _ rfl h3 Tryz.underlying126 rfl s126) rfl ?_
 exact ⟨rfl,((((((Chg.refl [] w).alloc _).alloc _).trans hc1).trans hc2).setCell (.inr (by show _≤w.heap.size+1;omega)) _).setCell (.inr (by show _≤w.heap.size+1;omega)) _⟩
set_option maxHeartbeats 1000000 in
theorem round_up (s:Int) (ns:Nat) (w:World) (hn0:500000000 < ns) (hn:ns < 1000000000) (h1 : -4000000000000000000≤s) (h2:s≤4000000000000000000 - 1):Calls Tryz.prog 64 #[tm s ns,.int .i64 1000000000] w fun e w'=>e=.returned (tm (s+1) 0)∧Chg [] w w':=by
 have hd:decide (ns < 500000000)=false:=decide_eq_false (by omega)
 unfold tm
 go_enter Tryz.func64,Tryz.ntmps64
 go_wp2_with (first
  | (go_at_call 89;refine (strip_any _ s ns _ (by exact alloc2_0 _ _ _) (by omega)).mono ?_;rintro e w1 ⟨rfl,rfl⟩)
  | (go_at_call 90;refine (div_any s ns _ (by omega) h1 (by omega)).mono ?_;rintro e w1 ⟨⟨q,rfl⟩,hc1⟩;have hb:=hc1.heap (alloc2_0 w _ _) (by simp);have hb2:=hc1.heap (alloc2_1 w _ _) (by simp);have c0:=cell_heap hb 0;have c1:=cell_heap hb 1;have HB2:=Lib.hid hb2;clear hb2)
  | (go_at_call 91;refine (half_any ns _ (by omega)).mono ?_;rw [hd];rintro e w2 ⟨rfl,rfl⟩)
  | (go_at_call 92;refine (add_up s ns _ (by omega) (by omega) h1 h2).mono ?_;rintro e w2 ⟨rfl,hc2⟩;simp only [tm];have hb3:=hc2.heap HB2.out (by simp);have c2:=cell_heap hb3 0;have c3:=cell_heap hb3 1;have f2:=frozen_heap hb3 0;have f3:=frozen_heap hb3 1))
 have h3:=heap_setCell_at (heap_setCell_at hb3 0 (.int .u64 (0:Nat))) 1 (.int .i64 (s+1+62135596800))
 refine bodyPost_ret (results_cell_row rfl _ _ _ _ _ _ _ rfl h3 Tryz.underlying126 rfl s126) rfl ?_
 exact ⟨rfl,((((((Chg.refl [] w).alloc _).alloc _).trans hc1).trans hc2).setCell (.inr (by show _≤w.heap.size+1;omega)) _).setCell (.inr (by show _≤w.heap.size+1;omega)) _⟩
end Go.Proofs.YtkanmkcojlefbaaGreatDoor
