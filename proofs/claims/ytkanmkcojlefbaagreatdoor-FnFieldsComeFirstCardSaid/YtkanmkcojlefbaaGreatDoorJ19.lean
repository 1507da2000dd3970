/-
  The state of a Writer over a buffer, with its surroundings · handleRegularFile, handleSparseFile (no sparse file), mayOnlyBe over any format · writeUSTARHeader: a header of USTAR goes to the buffer as one block · The data of a file goes to the buffer: regFileWriter.Write, Writer.Write, io.WriteString · writeRawFile: a small file with a name, a flag and data (the records of PAX, the long names of GNU) · slices.Sorted(maps.Keys(m)): the keys of a map, each once, in a new row · (*strings.Builder).WriteString, laid by hand off the shelf (lay-plain leaves it out).
-/
import Derived.Test.YtkanmkcojlefbaaGreatDoorJ16
import Derived.Test.YtkanmkcojlefbaaGreatDoorJ17
import Derived.Test.YtkanmkcojlefbaaGreatDoorJ18
import Derived.Test.YtkanmkcojlefbaaGreatDoorJ10
import Derived.Test.YtkanmkcojlefbaaGreatDoorJ15
import Derived.Test.YtkanmkcojlefbaaGreatDoorJ03
import Derived.Stop.Asserts
import Derived.Test.YtkanmkcojlefbaaGreatDoorJ04
import Derived.Test.YtkanmkcojlefbaaGreatDoorJ02
import Derived.Shelf.Strings.BuilderK
set_option linter.unusedVariables false
namespace Go.Proofs.YtkanmkcojlefbaaGreatDoor
open Go.RowKit
theorem isBuf_chg {B b:Nat} {bs:List Value} {S:List Nat} {w w':World} (h:Lib.IsBuffer 70 5 B b bs w) (k:Chg S w w') (hS:∀i∈S,i≠b∧∀cs fr,w.heap[i]? ≠some (.cells cs 5 fr)):Lib.IsBuffer 70 5 B b bs w':=by
 obtain ⟨hB,v0,lr,hbk,hown,hne⟩:=h
 refine ⟨hB,v0,lr,k.heap hbk (fun hm=>(hS b hm).1 rfl),⟨hown.1,?_⟩,hne⟩
 rcases hown.2 with hn | ⟨g',cap,cur,hv,hBg,hgg,rest⟩
 ·exact .inl hn
 ·exact .inr ⟨g',cap,cur,hv,hBg,k.heap hgg (fun hm=>(hS g' hm).2 _ _ hgg),rest⟩
structure WS (B:Nat) (sn:Nat→Addr) (kb tw b rw pad:Nat) (nb:Int) (th:TH) (L bs:List UInt8) (w:World):Prop where
 env:Env B sn kb w
 wb:WB tw (.iface 75 (.pointer (some ⟨b,0,none⟩))) (.int .i64 pad) (.iface 119 (.pointer (some ⟨rw,0,none⟩))) th L .nilIface w
 len:L.length=512
 row:w.heap[rw]? =some (.cells #[.iface 75 (.pointer (some ⟨b,0,none⟩)),.int .i64 nb] 121 (0,0))
 buf:Lib.IsBuffer 70 5 B b (bvs bs) w
 tb:tw≠b
 tr:tw≠rw
 rb:rw≠b
 bt:B≤tw
 br:B≤rw
 pd:pad≤512
theorem WS.size {B:Nat} {sn:Nat→Addr} {kb tw b rw pad:Nat} {nb:Int} {th:TH} {L bs:List UInt8} {w:World} (h:WS B sn kb tw b rw pad nb th L bs w):B≤w.heap.size:=h.env.size
theorem WS.bb {B:Nat} {sn:Nat→Addr} {kb tw b rw pad:Nat} {nb:Int} {th:TH} {L bs:List UInt8} {w:World} (h:WS B sn kb tw b rw pad nb th L bs w):B≤b:=h.buf.1
theorem WS.tlt {B:Nat} {sn:Nat→Addr} {kb tw b rw pad:Nat} {nb:Int} {th:TH} {L bs:List UInt8} {w:World} (h:WS B sn kb tw b rw pad nb th L bs w):tw < w.heap.size:=(Array.getElem?_eq_some_iff.1 h.wb).1
theorem WS.blt {B:Nat} {sn:Nat→Addr} {kb tw b rw pad:Nat} {nb:Int} {th:TH} {L bs:List UInt8} {w:World} (h:WS B sn kb tw b rw pad nb th L bs w):b < w.heap.size:=h.buf.lt
theorem WS.rlt {B:Nat} {sn:Nat→Addr} {kb tw b rw pad:Nat} {nb:Int} {th:TH} {L bs:List UInt8} {w:World} (h:WS B sn kb tw b rw pad nb th L bs w):rw < w.heap.size:=(Array.getElem?_eq_some_iff.1 h.row).1
theorem WS.put {B:Nat} {sn:Nat→Addr} {kb tw b rw pad:Nat} {nb:Int} {th th':TH} {L L' bs:List UInt8} {S:List Nat} {w w':World} (h:WS B sn kb tw b rw pad nb th L bs w) (k:Chg S w w') (hS:∀i∈S,B≤i∧i≠b∧i≠rw∧∀cs fr,w.heap[i]? ≠some (.cells cs 5 fr))
  (hw:WB tw (.iface 75 (.pointer (some ⟨b,0,none⟩))) (.int .i64 pad) (.iface 119 (.pointer (some ⟨rw,0,none⟩))) th' L' .nilIface w') (hL:L'.length=512):WS B sn kb tw b rw pad nb th' L' bs w':=
 ⟨h.env.chg k (fun i hi=>(hS i hi).1),hw,hL,k.heap h.row (fun hm=>(hS rw hm).2.2.1 rfl),isBuf_chg h.buf k (fun i hi=>⟨(hS i hi).2.1,(hS i hi).2.2.2⟩),h.tb,h.tr,h.rb,h.bt,h.br,h.pd⟩
theorem WS.not5 {B:Nat} {sn:Nat→Addr} {kb tw b rw pad:Nat} {nb:Int} {th:TH} {L bs:List UInt8} {w:World} (h:WS B sn kb tw b rw pad nb th L bs w):∀cs fr,w.heap[tw]? ≠some (.cells cs 5 fr):=by
 intro cs fr e
 have h1:=h.wb
 unfold WB BlkIn at h1
 rw [h1] at e
 injection e with e
 injection e with e1 e2
 exact absurd e2 (by decide)
theorem WS.chg {B:Nat} {sn:Nat→Addr} {kb tw b rw pad:Nat} {nb:Int} {th:TH} {L bs:List UInt8} {S:List Nat} {w w':World} (h:WS B sn kb tw b rw pad nb th L bs w) (k:Chg S w w') (hS:∀i∈S,w.heap.size≤i):WS B sn kb tw b rw pad nb th L bs w':=
 h.put k (fun i hi=>by
  have h0:=hS i hi
  have h1:=h.size
  have h2:=h.blt
  have h3:=h.rlt
  exact ⟨by omega,by omega,by omega,fun cs fr e=>by have:=(Array.getElem?_eq_some_iff.1 e).1;omega⟩) (h.wb.chg k (fun hm=>by have:=hS tw hm;have:=h.tlt;omega)) h.len
theorem WS.chg0 {B:Nat} {sn:Nat→Addr} {kb tw b rw pad:Nat} {nb:Int} {th:TH} {L bs:List UInt8} {w w':World} (h:WS B sn kb tw b rw pad nb th L bs w) (k:Chg [] w w'):WS B sn kb tw b rw pad nb th L bs w':=h.chg k (by simp)
def headOnly (tf:UInt8):Bool:=decide (49≤tf.toNat) && decide (tf.toNat≤54)
def dataLen (tf:UInt8) (size:Nat):Nat:=if headOnly tf=true then 0 else size
theorem wb_of_cells {tw:Nat} {cs cs':Array Value} {c0 c1 c2 c0' c1' c2' er:Value} {th:TH} {L:List UInt8} {w w':World} (hcs:cs=(c0::c1::c2::th.cells++bvs L++ [er]).toArray) (h:w'.heap[tw]? =some (.cells cs' 134 (0,0))) (hs:cs'.size=cs.size)
  (h0:cs'[0]? =some c0') (h1:cs'[1]? =some c1') (h2:cs'[2]? =some c2') (h3:∀i,3≤i→cs'[i]? =cs[i]?):WB tw c0' c1' c2' th L er w':=by
 unfold WB BlkIn
 rw [h]
 congr 1
 have:cs'=(c0'::c1'::c2'::th.cells++bvs L++ [er]).toArray:=by
  apply Array.ext_getElem?
  intro i
  match i with
  | 0=>simpa using h0
  | 1=>simpa using h1
  | 2=>simpa using h2
  | n+3=>rw [h3 (n+3) (by omega),hcs];simp
 rw [this]
theorem writeRaw_ws (B:Nat) (sn:Nat→Addr) (kb tw b rw pad:Nat) (nb:Int) (th:TH) (L bs:List UInt8) (size:Nat) (tf:UInt8) (w:World) (h:WS B sn kb tw b rw pad nb th L bs w) (hnb:nb≤0) (hlim:bs.length+pad+512≤140737488355328) (hsz:size≤9223372036854775807) :
  Calls Tryz.prog 133 #[.pointer (some ⟨tw,0,none⟩),.pointer (some ⟨tw,23,none⟩),.int .i64 size,.int .u8 tf.toNat] w fun e w'=>e=.returned .nilIface∧
   (∃rw',WS B sn kb tw b rw' (padOf (dataLen tf size)) (dataLen tf size) th L (bs++List.replicate pad 0++L) w')∧FrW B [tw,b] w w':=by
 have hlt:=h.tlt
 refine (writeRaw_any tw b rw pad nb (wcells b rw pad th L) B bs L size (dataLen tf size) tf.toNat w (WrAt.ofWB h.wb h.len h.row) h.pd hnb h.tb h.tr h.rb h.buf h.size h.bt hlim h.len (fun j hj=>wcells_blk b rw pad th L h.len j hj) hsz ?_).mono ?_
 ·unfold dataLen headOnly
  by_cases h1:49≤tf.toNat∧tf.toNat≤54
  ·left;refine ⟨by omega,by omega,?_⟩;simp [h1.1,h1.2]
  ·right;refine ⟨by omega,?_⟩;rw [if_neg];simp;omega
 ·rintro e w' ⟨rfl,⟨rw',cs',hw,h3,hrs⟩,hI,hf⟩
  refine ⟨rfl,⟨rw',?_⟩,hf⟩
  have hwb:WB tw (.iface 75 (.pointer (some ⟨b,0,none⟩))) (.int .i64 (padOf (dataLen tf size))) (.iface 119 (.pointer (some ⟨rw',0,none⟩))) th L .nilIface w':=by
   refine wb_of_cells (w:=w) rfl hw.heap ?_ hw.c0 hw.c1 hw.c2 h3
   rw [hw.size,←wcells_size b rw pad th L h.len]
   rfl
  have hbl:=h.blt
  have htl:=h.tlt
  exact ⟨h.env.frw hf,hwb,h.len,hw.reg,hI,h.tb,by omega,by omega,h.bt,by have:=h.size;omega,by unfold padOf;omega⟩
end Go.Proofs.YtkanmkcojlefbaaGreatDoor
namespace Go.Proofs.YtkanmkcojlefbaaGreatDoor
open Go.RowKit
theorem only_gen (b:Nat) (f c:Int) (w:World) (hc:w.cell? ⟨b,0,none⟩=some (.int .i64 f)) (hf:w.frozen? ⟨b,0,none⟩=false) :
  Calls Tryz.prog 123 #[.pointer (some ⟨b,0,none⟩),.int .i64 c] w fun e w'=>e=.returned (.tuple #[])∧w'=w.setCell ⟨b,0,none⟩ (.int .i64 (bits .and .i64 f c)):=by
 go_enter Tryz.func123,Tryz.ntmps123
 go_wp2
 go_end0
 exact ⟨rfl,rfl⟩
theorem TarAt.setCur {tr br rr:Nat} {pad:Int} {cs:Array Value} {w:World} (h:TarAt tr br rr pad cs w) (r:Nat) :
  TarAt tr br r pad (cs.setIfInBounds 2 (.iface 146 (.pointer (some ⟨r,0,none⟩)))) (w.setCell ⟨tr,2,none⟩ (.iface 146 (.pointer (some ⟨r,0,none⟩)))):=by
 have hs:=h.size
 refine ⟨heap_setCell_at h.heap 2 _,by simpa using hs,?_,?_,?_,?_⟩
 ·rw [Array.getElem?_setIfInBounds_ne (by omega)];exact h.c0
 ·rw [Array.getElem?_setIfInBounds_ne (by omega)];exact h.c1
 ·rw [Array.getElem?_setIfInBounds_self,if_pos (by omega)]
 ·rw [Array.getElem?_setIfInBounds_ne (by omega)];exact h.c515
theorem TarAt.cl {tr br rr:Nat} {pad:Int} {cs:Array Value} {w:World} (h:TarAt tr br rr pad cs w) (i:Nat) (v:Value) (hv:cs[i]? =some v):w.cell? ⟨tr,i,none⟩=some v:=by rw [cell_heap h.heap,hv]
set_option maxRecDepth 100000 in
set_option maxHeartbeats 1000000 in
theorem regular_any (tr br rr hp size:Nat) (pad:Int) (cs:Array Value) (th:TH) (w:World) (h:TarAt tr br rr pad cs w) (hh:HdrB hp th w) (hs:th.size=size) (hsz:size≤9223372036854775807) :
  Calls Tryz.prog 149 #[.pointer (some ⟨tr,0,none⟩),.pointer (some ⟨hp,0,none⟩)] w fun e w'=>e=.returned .nilIface∧
   (∃rr' cs',w.heap.size≤rr'∧TarAt tr br rr' (padOf (dataLen th.tf size)) cs' w'∧RegAt rr' br (dataLen th.tf size) w')∧Chg [tr] w w':=by
 have c3:w.cell? ⟨hp,3,none⟩=some (.int .i64 size):=by rw [←hs];exact hh.c 3 _ rfl
 have c0:=hh.c 0 (.int .u8 th.tf.toNat) rfl
 have t0:=h.cl 0 _ h.c0;have t1:=h.cl 1 _ h.c1;have t2:=h.cl 2 _ h.c2
 have u1:w.frozen? ⟨tr,1,none⟩=false:=frozen_heap h.heap 1
 have u2:w.frozen? ⟨tr,2,none⟩=false:=frozen_heap h.heap 2
 have hd:dataLen th.tf size=if headOnly th.tf=true then 0 else size:=rfl
 have htl:tr < w.heap.size:=(Array.getElem?_eq_some_iff.1 h.heap).1
 have hne:∀p:Nat,(∃rr' cs',w.heap.size≤rr'∧TarAt tr br rr' (padOf p) cs' (((w.setCell ⟨tr,1,none⟩ (.int .i64 (padOf p))).setCell ⟨tr,2,none⟩ (.iface 146 (.pointer (some ⟨w.heap.size,0,none⟩)))).alloc (.cells #[.iface 84 (.pointer (some ⟨br,0,none⟩)),.int .i64 p] 148))∧RegAt rr' br p (((w.setCell ⟨tr,1,none⟩ (.int .i64 (padOf p))).setCell ⟨tr,2,none⟩ (.iface 146 (.pointer (some ⟨w.heap.size,0,none⟩)))).alloc (.cells #[.iface 84 (.pointer (some ⟨br,0,none⟩)),.int .i64 p] 148)))∧Chg [tr] w (((w.setCell ⟨tr,1,none⟩ (.int .i64 (padOf p))).setCell ⟨tr,2,none⟩ (.iface 146 (.pointer (some ⟨w.heap.size,0,none⟩)))).alloc (.cells #[.iface 84 (.pointer (some ⟨br,0,none⟩)),.int .i64 p] 148)):=by
  intro p
  have k2:=(h.setPad (padOf p)).setCur w.heap.size
  have hsz1:((w.setCell ⟨tr,1,none⟩ (.int .i64 (padOf p))).setCell ⟨tr,2,none⟩ (.iface 146 (.pointer (some ⟨w.heap.size,0,none⟩)))).heap.size=w.heap.size:=by simp [World.setCell]
  have k3:=heap_alloc_new ((w.setCell ⟨tr,1,none⟩ (.int .i64 (padOf p))).setCell ⟨tr,2,none⟩ (.iface 146 (.pointer (some ⟨w.heap.size,0,none⟩)))) (.cells #[.iface 84 (.pointer (some ⟨br,0,none⟩)),.int .i64 p] 148)
  rw [hsz1] at k3
  exact ⟨⟨w.heap.size,_,Nat.le_refl _,k2.chg ((Chg.refl [] _).alloc _) (by simp),k3⟩,(((Chg.refl [tr] w).setCell (.inl (by simp)) _).setCell (.inl (by simp)) _).alloc _⟩
 have HNE:=Lib.hid hne;have HD:=Lib.hid hd
 clear h hh hs hne hd
 by_cases h1:49≤th.tf.toNat∧th.tf.toNat≤54
 ·have he:dataLen th.tf size=0:=by rw [HD.out];unfold headOnly;simp [h1.1,h1.2]
  rw [he]
  have HN:=HNE.out 0
  have HN':=Lib.hid HN
  clear HN HNE he
  go_enter Tryz.func149,Tryz.ntmps149
  go_wp2_with (first | (go_at_call 124;refine (hdrOnly_yes _ _ (by omega) (by omega)).mono ?_;rintro e u ⟨rfl,rfl⟩) | (go_at_call 186;refine (padding_any 0 _ (by decide)).mono ?_;rintro e u ⟨rfl,rfl⟩))
  go_ret
  exact ⟨rfl,HN'.out⟩
 ·have he:dataLen th.tf size=size:=by
   rw [HD.out,if_neg]
   unfold headOnly;simp;omega
  rw [he]
  have HN:=HNE.out size
  have HN':=Lib.hid HN
  clear HN HNE he
  have hq:¬((size:Int) < 0):=by omega
  go_enter Tryz.func149,Tryz.ntmps149
  go_wp2_with (first | (go_at_call 124;refine (hdrOnly_no _ _ (by omega)).mono ?_;rintro e u ⟨rfl,rfl⟩) | (go_at_call 186;refine (padding_any size _ hsz).mono ?_;rintro e u ⟨rfl,rfl⟩))
  go_ret
  exact ⟨rfl,HN'.out⟩
abbrev kMaj:ByteArray:=⟨#[71,78,85,46,115,112,97,114,115,101,46,109,97,106,111,114]⟩
abbrev kMin:ByteArray:=⟨#[71,78,85,46,115,112,97,114,115,101,46,109,105,110,111,114]⟩
abbrev kMap:ByteArray:=⟨#[71,78,85,46,115,112,97,114,115,101,46,109,97,112]⟩
def NoSp (v:Value) (w:World):Prop:=v=.map none∨∃mb n F,v=.map (some mb)∧MapS mb n F w∧F kMaj=none∧F kMin=none∧F kMap=none
theorem NoSp.look {v:Value} {w:World} (h:NoSp v w) (s:ByteArray) (hs:s=kMaj∨s=kMin∨s=kMap) (w':World) (k:Chg [] w w'):(Instr.lookup 127 v (.string s) false).run Tryz.prog w'=.ok (.string ⟨#[]⟩) w':=by
 have hl:s.size≤maxLen:=by rcases hs with rfl | rfl | rfl<;>decide
 rcases h with rfl | ⟨mb,n,F,rfl,hM,h1,h2,h3⟩
 ·exact look_nilMap s hl w'
 ·have:=(hM.chg k (by simp)).look s hl
  rw [this]
  rcases hs with rfl | rfl | rfl
  ·rw [h1];rfl
  ·rw [h2];rfl
  ·rw [h3];rfl
theorem nil218 (w:World):(binOp .neq 218 (.slice none 0 0) (.slice none 0 0)).run Tryz.prog w=.ok (.bool false) w:=by kernel_rfl
set_option maxRecDepth 100000 in
set_option maxHeartbeats 1000000 in
theorem noSparse (tv:Value) (hp:Nat) (th:TH) (w:World) (hh:HdrB hp th w) (hn:NoSp th.recs w) :
  Calls Tryz.prog 214 #[tv,.pointer (some ⟨hp,0,none⟩)] w fun e w'=>e=.returned (.tuple #[.slice none 0 0,.nilIface])∧∃k,w'=w.drewN k:=by
 have c18:=hh.c 18 _ rfl
 have l1:=fun n=>hn.look kMaj (by simp) (w.drewN n) (Chg.drewNof n)
 have l2:=fun n=>hn.look kMin (by simp) (w.drewN n) (Chg.drewNof n)
 have l3:=fun n=>hn.look kMap (by simp) (w.drewN n) (Chg.drewNof n)
 have l4:=hn.look kMaj (by simp) w.drew (Chg.refl [] w).drew
 have l5:=hn.look kMin (by simp) w.drew (Chg.refl [] w).drew
 generalize th.recs=rv at c18 l1 l2 l3 l4 l5
 clear hh hn
 go_enter Tryz.func214,Tryz.ntmps214
 go_wp2
 go_quiet (fail)
 go_wp2
 go_ret2
 exact ⟨rfl,_,rfl⟩
set_option maxRecDepth 100000 in
set_option maxHeartbeats 1000000 in
theorem sparse_none (tr hp:Nat) (bp:Value) (th:TH) (w:World) (hh:HdrB hp th w) (hn:NoSp th.recs w) (ht:th.tf≠83) :
  Calls Tryz.prog 154 #[.pointer (some ⟨tr,0,none⟩),.pointer (some ⟨hp,0,none⟩),bp] w fun e w'=>e=.returned .nilIface∧Chg [] w w':=by
 have c0:=hh.c 0 (.int .u8 th.tf.toNat) rfl
 have h83:((th.tf.toNat:Int) == 83)=false:=by
  simp only [beq_eq_false_iff_ne,ne_eq]
  intro e
  exact ht (UInt8.toNat_inj.1 (by show _=83;omega))
 have hs:=noSparse (.pointer (some ⟨tr,0,none⟩)) hp th w hh hn
 have hn8:=nil218
 have HS:=Lib.hid hs
 clear hs hh hn
 go_enter Tryz.func154,Tryz.ntmps154
 go_wp2_with (go_at_call 214;refine HS.out.mono ?_;rintro e w1 ⟨rfl,k,rfl⟩)
 go_ret
 exact ⟨rfl,Chg.drewNof k⟩
end Go.Proofs.YtkanmkcojlefbaaGreatDoor
namespace Go.Proofs.YtkanmkcojlefbaaGreatDoor
open Go.RowKit
theorem fat_new (w:World) (v:Value):FAt w.heap.size v (w.alloc (.cells #[v] 196)):=heap_alloc_new w _
theorem FAt.not5 {f:Nat} {v:Value} {w:World} (h:FAt f v w):∀cs fr,w.heap[f]? ≠some (.cells cs 5 fr):=by
 intro cs fr e
 unfold FAt at h
 rw [h] at e
 injection e with e
 injection e with e1 e2
 exact absurd e2 (by decide)
structure UsBlk (th:TH) (p q:ByteArray) (b:HB):Prop where
 tm:TmOk (fun n s x=>x=txt n s) OctOut { th with name:=q } { b with px:=List.replicate 155 0 }
 px:b.px=txt 155 p
theorem UsBlk.ok {th:TH} {p q:ByteArray} {b:HB} (h:UsBlk th p q b) (hp:p.size≤155):b.Ok:=by
 have k:=h.tm.ok
 exact ⟨k.nm,k.md,k.ui,k.gi,k.sz,k.mt,k.ck,k.tf,k.ln,k.mg,k.un,k.gn,k.dj,k.dn,by rw [h.px];exact txt_length hp,k.tl⟩
theorem WB.setName {tw:Nat} {c0 c1 c2 er:Value} {th:TH} {L:List UInt8} {w:World} (h:WB tw c0 c1 c2 th L er w) (q:ByteArray):WB tw c0 c1 c2 { th with name:=q } L er (w.setCell ⟨tw,4,none⟩ (.string q)):=by
 unfold WB BlkIn at h⊢
 rw [heap_setCell_at h]
 rfl
theorem WS.f1 {B:Nat} {sn:Nat→Addr} {kb tw b rw pad:Nat} {nb:Int} {th:TH} {L bs:List UInt8} {w:World} (h:WS B sn kb tw b rw pad nb th L bs w):∀i∈ [tw],B≤i∧i≠b∧i≠rw∧∀cs fr,w.heap[i]? ≠some (.cells cs 5 fr):=by
 intro i hi
 rw [List.mem_singleton] at hi
 subst hi
 exact ⟨h.bt,h.tb,h.tr,h.not5⟩
theorem sums_length (L:List UInt8) (hL:L.length=512):(sums L).length=512:=by
 have h1:(txt 7 (octStr 7 (sumTo L 512))).length=7:=txt_length (by rw [octStr_size (octs_sum L)];omega)
 unfold sums
 rw [splice_length _ _ _ (by rw [List.length_append,h1,hL];simp),hL]
theorem WS.setName {B:Nat} {sn:Nat→Addr} {kb tw b rw pad:Nat} {nb:Int} {th:TH} {L bs:List UInt8} {w:World} (h:WS B sn kb tw b rw pad nb th L bs w) (q:ByteArray):WS B sn kb tw b rw pad nb { th with name:=q } L bs (w.setCell ⟨tw,4,none⟩ (.string q)):=
 h.put (S:= [tw]) ((Chg.refl _ w).setCell (.inl (by simp)) _) h.f1 (h.wb.setName q) h.len
theorem WS.f2 {B:Nat} {sn:Nat→Addr} {kb tw b rw pad f:Nat} {nb:Int} {th:TH} {L bs:List UInt8} {v:Value} {w:World} (h:WS B sn kb tw b rw pad nb th L bs w) (hf:FAt f v w) (hBf:B≤f) (hfb:f≠b) (hfr:f≠rw):∀i∈ [tw,f],B≤i∧i≠b∧i≠rw∧∀cs fr,w.heap[i]? ≠some (.cells cs 5 fr):=by
 intro i hi
 simp at hi
 rcases hi with rfl | rfl
 ·exact ⟨h.bt,h.tb,h.tr,h.not5⟩
 ·exact ⟨hBf,hfb,hfr,hf.not5⟩
theorem UsBlk.mk' {th:TH} {p q:ByteArray} {b:HB} (h:TmOk (fun n s x=>x=txt n s) OctOut { th with name:=q } b):UsBlk th p q { b with px:=txt 155 p }:=by
 have k:=h.ok
 exact ⟨⟨⟨k.nm,k.md,k.ui,k.gi,k.sz,k.mt,k.ck,k.tf,k.ln,k.mg,k.un,k.gn,k.dj,k.dn,List.length_replicate,k.tl⟩,h.nm,h.ln,h.md,h.ui,h.gi,h.sz,h.mt,h.un,h.gn,h.dj,h.dn,h.tf,h.ck,h.mg,rfl,h.tl⟩,rfl⟩
set_option maxRecDepth 100000 in
set_option maxHeartbeats 4000000 in
theorem ustar_whole (B:Nat) (sn:Nat→Addr) (kb tw b rw pad:Nat) (nb:Int) (th:TH) (L bs:List UInt8) (size:Nat) (w:World) (h:WS B sn kb tw b rw pad nb th L bs w) (hnb:nb≤0) (hlim:bs.length+pad+512≤140737488355328) (hsp:SplitAs th.name ⟨#[]⟩ ⟨#[]⟩ false)
  (hm:th.mn < 1000000000) (hs1 : -4000000000000000000≤th.ms) (hs2:th.ms≤4000000000000000000) (hQ:TmQ (fun n s=>s.size≤n) fit8 th) (hsz:th.size=size) :
  Calls Tryz.prog 67 #[.pointer (some ⟨tw,0,none⟩),.pointer (some ⟨tw,3,none⟩)] w fun e w'=>e=.returned .nilIface∧
   (∃rw' b0,UsBlk th ⟨#[]⟩ th.name b0∧WS B sn kb tw b rw' (padOf (dataLen th.tf size)) (dataLen th.tf size) th (sums (splice b0.bytes 257 (magicOf false))) (bs++List.replicate pad 0++sums (splice b0.bytes 257 (magicOf false))) w')∧FrW B [tw,b] w w':=by
 have d4:w.cell? ⟨tw,4,none⟩=some (.string th.name):=wb_cell h.wb 4 _ rfl
 have H:=Lib.hid h;have HS:=Lib.hid hsp;have HQ:=Lib.hid hQ;have HZ:=Lib.hid hsz
 have hszl:size≤9223372036854775807:=by have:=hQ.sz.2;simp at this;omega
 have htl:=h.tlt
 have hbl:=h.blt
 have hrl:=h.rlt
 have hsB:=h.size
 clear h hsp hQ hsz
 go_enter Tryz.func67,Tryz.ntmps67
 go_wp2_with (first
  | (go_at_call 97;refine (HS.out _).mono ?_;rintro e w1 ⟨rfl,hc1⟩;have h1:=H.out.chg0 hc1;have H1:=Lib.hid h1;have HC1:=Lib.hid hc1;have hs1':=hc1.size;clear h1 hc1)
  | (go_at_call 128;refine (template_us tw w1.heap.size B sn kb (by omega) H1.out.bt (Nat.le_trans hsB hs1') _ _ _ _ th L _ (H1.out.chg0 ((Chg.refl [] w1).alloc _)).wb H1.out.len (H1.out.chg0 ((Chg.refl [] w1).alloc _)).env (fat_new w1 .nilIface) hm hs1 hs2 HQ.out).mono ?_;rintro e w2 ⟨rfl,⟨b0,hb0,hwb2⟩,hf2,hg2⟩;have h2:=(H1.out.chg0 ((Chg.refl [] w1).alloc (.cells #[.nilIface] 196))).put hg2 (WS.f2 (H1.out.chg0 ((Chg.refl [] w1).alloc _)) (fat_new w1 .nilIface) (Nat.le_trans hsB hs1') (by omega) (by omega)) hwb2 hb0.ok.length;have H2:=Lib.hid h2;have HF2:=Lib.hid hf2;have HB0:=Lib.hid hb0;have HG2:=Lib.hid (((Chg.refl [tw,w1.heap.size] w1).alloc (.cells #[.nilIface] 196)).trans hg2);clear h2 hf2 hb0 hg2 hwb2)
  | (go_at_call 107;refine (toUSTAR tw 23 _).mono ?_;rintro e w3 ⟨rfl,rfl⟩)
  | (go_at_call 131;refine (us_prefix tw 23 _).mono ?_;rintro e w3 ⟨rfl,rfl⟩)
  | (go_at_call 129;refine (fmtS_us tw w1.heap.size B sn kb (by omega) H1.out.bt (Nat.le_trans hsB hs1') _ _ _ 23 345 155 _ ⟨#[]⟩ _ (by exact H2.out.wb) rfl (Nat.le_trans (show 345+155≤512 by decide) (Nat.le_of_eq HB0.out.ok.length.symm)) (HB0.out.ok.zero_px HB0.out.px) (by decide) (by decide) H2.out.env HF2.out (by decide)).mono ?_;rintro e w4 ⟨rfl,⟨x,hx,hb4⟩,hf4,hg4⟩;rw [HB0.out.ok.put_px x (by subst hx;exact txt_length (by decide))] at hb4;have h4:=H2.out.put hg4 (H2.out.f2 HF2.out (Nat.le_trans hsB hs1') (by omega) (by omega)) hb4 (HB0.out.ok.set_px x (by subst hx;exact txt_length (by decide))).length;have H4:=Lib.hid h4;have HF4:=Lib.hid hf4;have HX:=Lib.hid hx;have HG4:=Lib.hid hg4;clear h4 hf4 hx hg4 hb4)
  | (go_at_call 132;refine (seal_posix true false rfl tw 134 _ _ _ 23 _ H4.out.wb rfl H4.out.len ((HB0.out.ok.set_px x (by rw [HX.out];exact txt_length (by decide))).zero_ck HB0.out.ck) (by exact H4.out.env.h15) (by have:=H4.out.env.b22;have:=H4.out.bt;omega)).mono ?_;rintro e w5 ⟨rfl,hb5,hg5⟩;have hF5:=HF4.out.chg hg5 (by simp;omega);have c5:=cell_heap hF5 0;have h5:=H4.out.put hg5 H4.out.f1 hb5 (sums_length _ (sealed_magic false _ H4.out.len));have H5:=Lib.hid h5;have HG5:=Lib.hid hg5;have d6:=wb_cell hb5 6 _ rfl;have d3:=wb_cell hb5 3 _ rfl;clear h5 hb5 hg5 hF5))
 have d:w5.cell? ⟨tw,3,none⟩=some (.int .u8 th.tf.toNat)∧w5.cell? ⟨tw,6,none⟩=some (.int .i64 (size:Int)):=⟨wb_cell H5.out.wb 3 _ rfl,by rw [←HZ.out];exact wb_cell H5.out.wb 6 _ rfl⟩
 clear d6 d3 c5 d4
 have hsg:FrW B [tw,b] w w5:=by
  have k1:=(HC1.out.mono (S':= [tw,w1.heap.size]) (by simp)).trans (HG2.out.trans (HG4.out.trans (HG5.out.mono (by simp))))
  have k0:=(FrW.ofChg HC1.out H.out.size (by simp)).mono (S':= [tw,b]) (by simp)
  have kn:Chg [tw] w1 w5:=(HG2.out.trans (HG4.out.trans (HG5.out.mono (by simp)))).fresh (by simp)
  exact k0.trans ((FrW.ofChg kn (Nat.le_trans hsB hs1') (by simp;exact H.out.bt)).mono (by simp))
 have HSG:=Lib.hid hsg
 clear hsg
 go_region_held3 (fun w'=>w'.cell? ⟨tw,3,none⟩=some (.int .u8 th.tf.toNat)∧w'.cell? ⟨tw,6,none⟩=some (.int .i64 (size:Int))) (first | exact d | assumption) ((first | (go_at_call 133;refine (writeRaw_ws B sn kb tw b rw pad nb th _ bs size th.tf _ (by exact H5.out.chg0 (Chg.refl [] w5).drew) hnb hlim hszl).mono ?_;rintro e w6 ⟨rfl,⟨rw',hw6⟩,hf6⟩;have d':=And.intro (wb_cell hw6.wb 3 _ rfl) (show w6.cell? ⟨tw,6,none⟩=some (.int .i64 (size:Int)) by rw [←HZ.out];exact wb_cell hw6.wb 6 _ rfl);have H6:=Lib.hid hw6;have HF6:=Lib.hid hf6;clear hw6 hf6)))
 go_wp2
 go_ret
 rw [HX.out] at H6
 exact ⟨rfl,⟨rw',_,UsBlk.mk' HB0.out,H6.out⟩,HSG.out.trans ((FrW.ofChg (Chg.refl [] w5).drew H5.out.size (by simp)).mono (by simp) |>.trans HF6.out)⟩
set_option maxRecDepth 100000 in
set_option maxHeartbeats 4000000 in
theorem ustar_parts (B:Nat) (sn:Nat→Addr) (kb tw b rw pad:Nat) (nb:Int) (th:TH) (L bs:List UInt8) (size:Nat) (w:World) (h:WS B sn kb tw b rw pad nb th L bs w) (hnb:nb≤0) (hlim:bs.length+pad+512≤140737488355328) (p q:ByteArray) (th2:TH) (hth2:th2={ th with name:=q }) (hp:p.size≤155) (hsp:SplitAs th.name p q true)
  (hm:th2.mn < 1000000000) (hs1 : -4000000000000000000≤th2.ms) (hs2:th2.ms≤4000000000000000000) (hQ:TmQ (fun n s=>s.size≤n) fit8 th2) (hsz:th2.size=size) :
  Calls Tryz.prog 67 #[.pointer (some ⟨tw,0,none⟩),.pointer (some ⟨tw,3,none⟩)] w fun e w'=>e=.returned .nilIface∧
   (∃rw' b0,TmOk (fun n s x=>x=txt n s) OctOut th2 b0∧WS B sn kb tw b rw' (padOf (dataLen th2.tf size)) (dataLen th2.tf size) th2 (sums (splice ({ b0 with px:=txt 155 p }:HB).bytes 257 (magicOf false))) (bs++List.replicate pad 0++sums (splice ({ b0 with px:=txt 155 p }:HB).bytes 257 (magicOf false))) w')∧FrW B [tw,b] w w':=by
 have d4:w.cell? ⟨tw,4,none⟩=some (.string th.name):=wb_cell h.wb 4 _ rfl
 have HTH:=Lib.hid hth2;have H:=Lib.hid h;have HS:=Lib.hid hsp;have HQ:=Lib.hid hQ;have HZ:=Lib.hid hsz
 have hszl:size≤9223372036854775807:=by have:=hQ.sz.2;simp at this;omega
 have htl:=h.tlt
 have hbl:=h.blt
 have hrl:=h.rlt
 have hsB:=h.size
 clear h hsp hQ hsz hth2
 go_enter Tryz.func67,Tryz.ntmps67
 go_wp2_with (first
  | (go_at_call 97;refine (HS.out _).mono ?_;rintro e w1 ⟨rfl,hc1⟩;have h1:=H.out.chg0 hc1;have d4':=wb_cell h1.wb 4 _ rfl;have f4:=h1.wb.frozen 4;have H1:=Lib.hid h1;have HC1:=Lib.hid hc1;have hs1':=hc1.size;clear h1 hc1)
  | (go_at_call 128;have hsn:WS B sn kb tw b rw pad nb th2 L bs (w1.setCell ⟨tw,4,none⟩ (.string q)):=(by rw [HTH.out];exact H1.out.setName q);have hkn:Chg [tw] w1 (w1.setCell ⟨tw,4,none⟩ (.string q)):=(Chg.refl _ w1).setCell (.inl (by simp)) _;have hzn:(w1.setCell ⟨tw,4,none⟩ (.string q)).heap.size=w1.heap.size:=size_setCell _ _ _;generalize w1.setCell ⟨tw,4,none⟩ (.string q)=u1 at hsn hkn hzn ⊢;have HU1:=Lib.hid hsn;have HK1:=Lib.hid hkn;clear hsn hkn d4' f4;have hfn:FAt w1.heap.size .nilIface (u1.alloc (.cells #[.nilIface] 196)):=(by rw [←hzn];exact fat_new u1 _);refine (template_us tw w1.heap.size B sn kb (by omega) HU1.out.bt (by omega) _ _ _ _ th2 L _ (HU1.out.chg0 ((Chg.refl [] u1).alloc _)).wb HU1.out.len (HU1.out.chg0 ((Chg.refl [] u1).alloc _)).env hfn hm hs1 hs2 HQ.out).mono ?_;rintro e w2 ⟨rfl,⟨b0,hb0,hwb2⟩,hf2,hg2⟩;have h2:=(HU1.out.chg0 ((Chg.refl [] u1).alloc (.cells #[.nilIface] 196))).put hg2 (WS.f2 (HU1.out.chg0 ((Chg.refl [] u1).alloc _)) hfn (by omega) (by omega) (by omega)) hwb2 hb0.ok.length;have H2:=Lib.hid h2;have HF2:=Lib.hid hf2;have HB0:=Lib.hid hb0;have HG2:=Lib.hid (((Chg.refl [tw,w1.heap.size] u1).alloc (.cells #[.nilIface] 196)).trans hg2);clear h2 hf2 hb0 hg2 hwb2 hfn)
  | (go_at_call 107;refine (toUSTAR tw 23 _).mono ?_;rintro e w3 ⟨rfl,rfl⟩)
  | (go_at_call 131;refine (us_prefix tw 23 _).mono ?_;rintro e w3 ⟨rfl,rfl⟩)
  | (go_at_call 129;refine (fmtS_us tw w1.heap.size B sn kb (by omega) HU1.out.bt (by omega) _ _ _ 23 345 155 _ p _ (by exact H2.out.wb) rfl (Nat.le_trans (show 345+155≤512 by decide) (Nat.le_of_eq HB0.out.ok.length.symm)) (HB0.out.ok.zero_px HB0.out.px) (by decide) (by decide) H2.out.env HF2.out hp).mono ?_;rintro e w4 ⟨rfl,⟨x,hx,hb4⟩,hf4,hg4⟩;rw [HB0.out.ok.put_px x (by subst hx;exact txt_length hp)] at hb4;have h4:=H2.out.put hg4 (H2.out.f2 HF2.out (by omega) (by omega) (by omega)) hb4 (HB0.out.ok.set_px x (by subst hx;exact txt_length hp)).length;have H4:=Lib.hid h4;have HF4:=Lib.hid hf4;have HX:=Lib.hid hx;have HG4:=Lib.hid hg4;clear h4 hf4 hx hg4 hb4)
  | (go_at_call 132;refine (seal_posix true false rfl tw 134 _ _ _ 23 _ H4.out.wb rfl H4.out.len ((HB0.out.ok.set_px x (by rw [HX.out];exact txt_length hp)).zero_ck HB0.out.ck) (by exact H4.out.env.h15) (by have:=H4.out.env.b22;have:=H4.out.bt;omega)).mono ?_;rintro e w5 ⟨rfl,hb5,hg5⟩;have hF5:=HF4.out.chg hg5 (by simp;omega);have c5:=cell_heap hF5 0;have h5:=H4.out.put hg5 H4.out.f1 hb5 (sums_length _ (sealed_magic false _ H4.out.len));have H5:=Lib.hid h5;have HG5:=Lib.hid hg5;have d6:=wb_cell hb5 6 _ rfl;have d3:=wb_cell hb5 3 _ rfl;clear h5 hb5 hg5 hF5))
 have d:w5.cell? ⟨tw,3,none⟩=some (.int .u8 th2.tf.toNat)∧w5.cell? ⟨tw,6,none⟩=some (.int .i64 (size:Int)):=⟨wb_cell H5.out.wb 3 _ rfl,by rw [←HZ.out];exact wb_cell H5.out.wb 6 _ rfl⟩
 clear d6 d3 c5 d4
 have hsg:FrW B [tw,b] w w5:=by
  have k0:=(FrW.ofChg HC1.out H.out.size (by simp)).mono (S':= [tw,b]) (by simp)
  have kn:Chg [tw] w1 w5:=HK1.out.trans ((HG2.out.trans (HG4.out.trans (HG5.out.mono (by simp)))).fresh (by simp;omega))
  exact k0.trans ((FrW.ofChg kn (Nat.le_trans hsB hs1') (by simp;exact H.out.bt)).mono (by simp))
 have HSG:=Lib.hid hsg
 clear hsg
 go_region_held3 (fun w'=>w'.cell? ⟨tw,3,none⟩=some (.int .u8 th2.tf.toNat)∧w'.cell? ⟨tw,6,none⟩=some (.int .i64 (size:Int))) (first | exact d | assumption) ((first | (go_at_call 133;refine (writeRaw_ws B sn kb tw b rw pad nb th2 _ bs size th2.tf _ (by exact H5.out.chg0 (Chg.refl [] w5).drew) hnb hlim hszl).mono ?_;rintro e w6 ⟨rfl,⟨rw',hw6⟩,hf6⟩;have d':=And.intro (wb_cell hw6.wb 3 _ rfl) (show w6.cell? ⟨tw,6,none⟩=some (.int .i64 (size:Int)) by rw [←HZ.out];exact wb_cell hw6.wb 6 _ rfl);have H6:=Lib.hid hw6;have HF6:=Lib.hid hf6;clear hw6 hf6)))
 go_wp2
 go_ret
 rw [HX.out] at H6
 exact ⟨rfl,⟨rw',_,HB0.out,H6.out⟩,HSG.out.trans ((FrW.ofChg (Chg.refl [] w5).drew H5.out.size (by simp)).mono (by simp) |>.trans HF6.out)⟩
end Go.Proofs.YtkanmkcojlefbaaGreatDoor
namespace Go.Proofs.YtkanmkcojlefbaaGreatDoor
open Go.RowKit
set_option maxRecDepth 100000 in
set_option maxHeartbeats 2000000 in
theorem reg_write (B b rw:Nat) (nb n c:Nat) (a:Addr) (bs D:List UInt8) (w:World) (hr:w.heap[rw]? =some (.cells #[.iface 75 (.pointer (some ⟨b,0,none⟩)),.int .i64 nb] 121 (0,0))) (hI:Lib.IsBuffer 70 5 B b (bvs bs) w) (hB:B≤w.heap.size) (hBr:B≤rw) (hrb:rw≠b)
  (hn:D.length=n) (hn1:1≤n) (hnb:n≤nb) (hnb2:nb≤9223372036854775807) (hnc:n≤c) (hc:c≤9223372036854775807) (hab:a.block≠b) (hsrc:∀j v,(bvs D)[j]? =some v→w.cell? (a.add j)=some v) (hlim:bs.length+n≤140737488355328) :
  Calls Tryz.prog 342 #[.pointer (some ⟨rw,0,none⟩),.slice (some a) n c] w fun e w'=>e=.returned (.tuple #[.int .i64 n,.nilIface])∧w'.heap[rw]? =some (.cells #[.iface 75 (.pointer (some ⟨b,0,none⟩)),.int .i64 ((nb:Int) - n)] 121 (0,0))∧Lib.IsBuffer 70 5 B b (bvs (bs++D)) w'∧FrW B [rw,b] w w':=by
 have c0:=cell_heap hr 0
 have c1:=cell_heap hr 1
 have HR:=Lib.hid hr;have HI:=Lib.hid hI;have HS:=Lib.hid hsrc;have HN:=Lib.hid hn
 have hbB:=hI.1
 clear hr hI hsrc hn
 go_enter Tryz.func342,Tryz.ntmps342
 go_wp2_with (go_at_call 284;refine (Tryz.Buffer_Write_any B b (bvs bs) (bvs D) a n c _ HI.out hB (bvs_one _) (by simp;exact HN.out) hab HS.out (bvs_one _) (by simp;omega)).mono ?_;rintro e w2 ⟨rfl,hI2,hb2,hk2⟩;rw [←bvs_append] at hI2;have hf2:FrW B [b] w w2:=FrW.ofKept hb2 hk2;have hr2:=hf2.heap HR.out (by simp;exact hrb) (by decide);have d0:=cell_heap hr2 0;have d1:=cell_heap hr2 1;have f1:=frozen_heap hr2 1;have HI2:=Lib.hid hI2;have HF2:=Lib.hid hf2;have HR2:=Lib.hid hr2;clear hI2 hb2 hk2 hf2 hr2)
 go_ret2
 have h3:=heap_setCell_at HR2.out 1 (.int .i64 ((nb:Int) - n))
 exact ⟨rfl,h3,isBuf_setOther HI2.out HR2.out (by decide) hrb 1 _,((HF2.out.mono (by simp)).setCell (by simp) hBr _)⟩
theorem FrW.fresh {B n:Nat} {S:List Nat} {w w':World} (h:FrW B (S++ [n]) w w') (hn:w.heap.size≤n):FrW B S w w':=
 ⟨h.below,fun k o hk hm ho=>h.kept k o hk (fun e=>by
  rcases List.mem_append.1 e with e | e
  ·exact hm e
  ·rw [List.mem_singleton] at e
   have:=(Array.getElem?_eq_some_iff.1 hk).1
   omega) ho⟩
def Src (a:Addr) (D:List UInt8) (w:World):Prop:=∀j v,(bvs D)[j]? =some v→w.cell? (a.add j)=some v
set_option maxRecDepth 100000 in
set_option maxHeartbeats 2000000 in
theorem ws_write (B:Nat) (sn:Nat→Addr) (kb tw b rw pad nb n c:Nat) (a:Addr) (th:TH) (L bs D:List UInt8) (w:World) (h:WS B sn kb tw b rw pad nb th L bs w)
  (hn:D.length=n) (hn1:1≤n) (hnb:n≤nb) (hnb2:nb≤9223372036854775807) (hnc:n≤c) (hc:c≤9223372036854775807) (hab:a.block≠b) (hsrc:Src a D w) (hlim:bs.length+n≤140737488355328) :
  Calls Tryz.prog 40 #[.pointer (some ⟨tw,0,none⟩),.slice (some a) n c] w fun e w'=>e=.returned (.tuple #[.int .i64 n,.nilIface])∧WS B sn kb tw b rw pad ((nb:Int) - n) th L (bs++D) w'∧FrW B [rw,b] w w':=by
 have c2:w.cell? ⟨tw,2,none⟩=some (.iface 119 (.pointer (some ⟨rw,0,none⟩))):=wb_cell h.wb 2 _ rfl
 have c535:w.cell? ⟨tw,535,none⟩=some .nilIface:=by
  rw [cell_heap (WrAt.ofWB h.wb h.len h.row).heap]
  exact (WrAt.ofWB h.wb h.len h.row).c535
 have H:=Lib.hid h;have HS:=Lib.hid hsrc;have HN:=Lib.hid hn
 clear h hsrc hn
 go_enter Tryz.func40,Tryz.ntmps40
 go_wp2_with (go_at_call 342;refine (reg_write B b rw nb n c a bs D _ H.out.row H.out.buf H.out.size H.out.br H.out.rb HN.out hn1 hnb hnb2 hnc hc hab HS.out hlim).mono ?_;rintro e w2 ⟨rfl,hr2,hI2,hf2⟩;have HR2:=Lib.hid hr2;have HI2:=Lib.hid hI2;have HF2:=Lib.hid hf2;clear hr2 hI2 hf2)
 go_ret2
 exact ⟨rfl,⟨H.out.env.frw HF2.out,HF2.out.heap H.out.wb (by simp;exact ⟨H.out.tr,H.out.tb⟩) (by decide),H.out.len,HR2.out,HI2.out,H.out.tb,H.out.tr,H.out.rb,H.out.bt,H.out.br,H.out.pd⟩,HF2.out⟩
theorem noSW (a:Addr) (w:World):(Instr.typeAssert (.iface 73 (.pointer (some a))) 118 312 true).run Tryz.prog w=.ok (.tuple #[.nilIface,.bool false]) w:=run_typeAssert_lacksB Tryz.underlying312 (by kernel_rfl) (by kernel_rfl) _ 118 w
set_option maxRecDepth 100000 in
set_option maxHeartbeats 2000000 in
theorem ws_writeString (B:Nat) (sn:Nat→Addr) (kb tw b rw pad nb:Nat) (s:ByteArray) (th:TH) (L bs:List UInt8) (w:World) (h:WS B sn kb tw b rw pad nb th L bs w)
  (hn1:1≤s.size) (hnb:s.size≤nb) (hnb2:nb≤9223372036854775807) (hlim:bs.length+s.size≤140737488355328) :
  Calls Tryz.prog 194 #[.iface 73 (.pointer (some ⟨tw,0,none⟩)),.string s] w fun e w'=>e=.returned (.tuple #[.int .i64 s.size,.nilIface])∧WS B sn kb tw b rw pad ((nb:Int) - s.size) th L (bs++s.data.toList) w'∧FrW B [rw,b] w w':=by
 have hna:=noSW ⟨tw,0,none⟩
 have hcv:=Lib.run_convert_string_bytes (P:=Tryz.prog) w 9 35 5 s (u:=.string) Tryz.underlying9 Tryz.underlying35 Tryz.underlying5
 have hch:=bytesWorld_chg w 5 s
 have hsrc:Src ⟨w.heap.size,0,none⟩ s.data.toList (Lib.bytesWorld w 5 s):=by
  intro j v hj
  have hjl:j < s.size:=by have:=(List.getElem?_eq_some_iff.1 hj).1;simpa using this
  rw [add_addr,Nat.zero_add,Lib.bytesWorld_cell w 5 s j hjl]
  rw [bvs_get] at hj
  rw [List.getD_eq_getElem?_getD,←hj,List.getElem?_eq_getElem (by simpa using hjl)]
  rfl
 have hcap:=And.intro (grownCap_ge w s.size 0 5) (show grownCap w s.size 0 5≤9223372036854775807 from grownCap_le_maxLen w s.size 0 5 (Nat.le_trans (show s.size≤140737488355328 by omega) (by decide)))
 have hws:=h.chg0 hch
 have hbl:=h.blt
 have hrl:=h.rlt
 have hsB:=h.size
 have hfr:FrW B [] w (Lib.bytesWorld w 5 s):=FrW.ofChg hch hsB (by simp)
 generalize grownCap w s.size 0 5=c at hcv hcap
 generalize Lib.bytesWorld w 5 s=w0 at hcv hsrc hws hfr
 have H:=Lib.hid hws;have HS:=Lib.hid hsrc;have HFR:=Lib.hid hfr
 clear h hws hsrc hch hfr
 go_enter Tryz.func194,Tryz.ntmps194
 go_wp2_with (go_at_call 40;refine (ws_write B sn kb tw b rw pad nb s.size c ⟨w.heap.size,0,none⟩ th L bs s.data.toList _ H.out (by simp) hn1 hnb hnb2 hcap.1 hcap.2 (by show w.heap.size≠b;omega) HS.out hlim).mono ?_;rintro e w2 ⟨rfl,h2,hf2⟩;have H2:=Lib.hid h2;have HF2:=Lib.hid hf2;clear h2 hf2)
 go_ret2
 exact ⟨rfl,H2.out,(HFR.out.mono (by simp)).trans HF2.out⟩
end Go.Proofs.YtkanmkcojlefbaaGreatDoor
namespace Go.Proofs.YtkanmkcojlefbaaGreatDoor
open Go.RowKit
theorem trimR_any (s:ByteArray) (w:World) (hs:s.size≤140737488355328):Calls Tryz.prog 170 #[.string s,.string ⟨#[47]⟩] w fun e w'=>(∃m,e=.returned (.string m)∧m.size≤s.size∧∀c∈m.data.toList,c∈s.data.toList)∧Chg [] w w':=by
 obtain ⟨m,hm,h1,h2⟩:=trim_ex s 47 s.size (Nat.le_refl _) (fun j hj h=>by omega)
 refine (zzTrim_any s 47 m w hs hm h1 h2).mono ?_
 rintro e w' ⟨rfl,k,rfl⟩
 refine ⟨⟨_,rfl,by simp;omega,fun c hc=> ?_⟩,(Chg.refl [] w).drewN k⟩
 have h1:(s.extract 0 m).data.toList=s.data.toList.take m:=by simp [ByteArray.data_extract]
 rw [h1] at hc
 exact List.mem_of_mem_take hc
theorem seal_any (gnu:Bool) (t:Nat) (T:TypeId) (pre post:List Value) (L:List UInt8) (k:Nat) (w:World) (h:BlkIn t T pre L post w) (hk:pre.length=k) (hL:L.length=512)
  (hz:∀i,148≤i→i < 156→L[i]? =some 0) (htab:w.cell? ⟨15,7,none⟩=some (.int .u8 3)) (h15:t≠15) :
  Calls Tryz.prog 132 #[.pointer (some ⟨t,k,none⟩),.int .i64 (fm false (!gnu) gnu)] w fun e w'=>e=.returned (.tuple #[])∧BlkIn t T pre (sums (splice L 257 (magicOf gnu))) post w'∧Chg [t] w w':=by
 cases gnu
 ·exact seal_posix false true rfl t T pre post L k w h hk hL hz htab h15
 ·exact seal_gnu t T pre post L k w h hk hL hz htab h15
structure RawBlk (fl:UInt8) (n:Nat) (b:HB):Prop where
 ok:b.Ok
 nm:∀c∈b.nm,c.toNat < 128
 md:OctOut 8 0 b.md
 ui:OctOut 8 0 b.ui
 gi:OctOut 8 0 b.gi
 sz:OctOut 12 n b.sz
 mt:OctOut 12 0 b.mt
 tf:b.tf= [fl]
 ck:b.ck=List.replicate 8 0
 ln:b.ln=List.replicate 100 0
 mg:b.mg=List.replicate 8 0
 un:b.un=List.replicate 32 0
 gn:b.gn=List.replicate 32 0
 dj:b.dj=List.replicate 8 0
 dn:b.dn=List.replicate 8 0
 px:b.px=List.replicate 155 0
 tl:b.tl=List.replicate 12 0
theorem txt_ascii {n:Nat} {s:ByteArray} (h:∀c∈s.data.toList,c.toNat < 128):∀c∈txt n s,c.toNat < 128:=by
 intro c hc
 rcases txt_mem n s c hc with h1 | rfl
 ·exact h c h1
 ·decide
theorem writeRaw_ws2 (B:Nat) (sn:Nat→Addr) (kb tw b rw pad:Nat) (nb:Int) (th:TH) (L bs:List UInt8) (size:Nat) (tf:UInt8) (w:World) (h:WS B sn kb tw b rw pad nb th L bs w) (hnb:nb≤0) (hlim:bs.length+pad+512≤140737488355328) (hsz:size≤9223372036854775807) :
  Calls Tryz.prog 133 #[.pointer (some ⟨tw,0,none⟩),.pointer (some ⟨tw,23,none⟩),.int .i64 size,.int .u8 tf.toNat] w fun e w'=>e=.returned .nilIface∧
   (∃rw',w.heap.size≤rw'∧WS B sn kb tw b rw' (padOf (dataLen tf size)) (dataLen tf size) th L (bs++List.replicate pad 0++L) w')∧FrW B [tw,b] w w':=by
 have hlt:=h.tlt
 refine (writeRaw_any tw b rw pad nb (wcells b rw pad th L) B bs L size (dataLen tf size) tf.toNat w (WrAt.ofWB h.wb h.len h.row) h.pd hnb h.tb h.tr h.rb h.buf h.size h.bt hlim h.len (fun j hj=>wcells_blk b rw pad th L h.len j hj) hsz ?_).mono ?_
 ·unfold dataLen headOnly
  by_cases h1:49≤tf.toNat∧tf.toNat≤54
  ·left;refine ⟨by omega,by omega,?_⟩;simp [h1.1,h1.2]
  ·right;refine ⟨by omega,?_⟩;rw [if_neg];simp;omega
 ·rintro e w' ⟨rfl,⟨rw',cs',hw,h3,hrs⟩,hI,hf⟩
  refine ⟨rfl,⟨rw',hrs,?_⟩,hf⟩
  have hwb:WB tw (.iface 75 (.pointer (some ⟨b,0,none⟩))) (.int .i64 (padOf (dataLen tf size))) (.iface 119 (.pointer (some ⟨rw',0,none⟩))) th L .nilIface w':=by
   refine wb_of_cells (w:=w) rfl hw.heap ?_ hw.c0 hw.c1 hw.c2 h3
   rw [hw.size,←wcells_size b rw pad th L h.len]
   rfl
  have hbl:=h.blt
  have htl:=h.tlt
  exact ⟨h.env.frw hf,hwb,h.len,hw.reg,hI,h.tb,by omega,by omega,h.bt,by have:=h.size;omega,by unfold padOf;omega⟩
set_option maxRecDepth 100000 in
set_option maxHeartbeats 8000000 in
theorem rawFile_ws (B:Nat) (sn:Nat→Addr) (kb tw b rw pad:Nat) (nb:Int) (th:TH) (L bs:List UInt8) (name data:ByteArray) (fl:UInt8) (gnu:Bool) (w:World) (h:WS B sn kb tw b rw pad nb th L bs w) (hnb:nb≤0) (hlim:bs.length+pad+512+data.size≤140737488355328)
  (hname:name.size≤140737488355328) (hd1:1≤data.size) (hd2:data.size < 8589934592) (hfl:headOnly fl=false) :
  Calls Tryz.prog 141 #[.pointer (some ⟨tw,0,none⟩),.string name,.string data,.int .u8 fl.toNat,.int .i64 (fm false (!gnu) gnu)] w fun e w'=>e=.returned .nilIface∧
   (∃rw' b0,RawBlk fl data.size b0∧WS B sn kb tw b rw' (padOf data.size) 0 th (sums (splice b0.bytes 257 (magicOf gnu))) (bs++List.replicate pad 0++sums (splice b0.bytes 257 (magicOf gnu))++data.data.toList) w')∧FrW B [tw,b] w w':=by
 have H:=Lib.hid h
 have hszf:fit8 12 ((data.size:Nat):Int):=⟨by omega,by simp;omega⟩
 have hdl:dataLen fl data.size=data.size:=by unfold dataLen;rw [hfl];rfl
 have HDL:=Lib.hid hdl
 have htl:=h.tlt
 have hbl:=h.blt
 have hrl:=h.rlt
 have hsB:=h.size
 have hbt:=h.bt
 obtain ⟨F,hF⟩:∃F:Int,F=fm false (!gnu) gnu:=⟨_,rfl⟩
 have hseal:=fun t T pre post L k w h hk hL hz htab h15=>seal_any gnu t T pre post L k w h hk hL hz htab h15
 rw [←hF] at hseal⊢
 have HSL:=Lib.hid hseal
 clear h hdl hF hseal hfl
 go_enter Tryz.func141,Tryz.ntmps141
 go_wp2_with (first
  | (go_at_call 173;refine (reset_any tw 134 _ _ L 23 _ H.out.wb rfl H.out.len).mono ?_;rintro e w1 ⟨rfl,hb1,hg1⟩;rw [←HB.zero_bytes] at hb1;have H1:=Lib.hid (H.out.put hg1 H.out.f1 hb1 HB.zero_ok.length);have HG1:=Lib.hid hg1;clear hb1 hg1)
  | (go_at_call 143;refine (toASCII_any name _ hname).mono ?_;rintro e w2 ⟨⟨s',rfl,hs'⟩,hc2⟩;have H2:=Lib.hid (H1.out.chg0 hc2);have HG2:=Lib.hid (HG1.out.trans (hc2.mono (by simp)));have HS':=Lib.hid hs';have hsl:s'.size≤140737488355328:=Nat.le_trans hs'.2.1 hname;clear hs' hc2 H1 HG1)
  | (go_at_call 170;refine (trimR_any _ _ (by first | exact hsl | (simp;omega))).mono ?_;rintro e w3 ⟨⟨nm,rfl,hnm,hnc⟩,hc3⟩;have hnm1:nm.size≤100:=(by first | omega | (simp at hnm;omega));have hnc1:∀c∈nm.data.toList,c.toNat < 128:=(fun c hc=>HS'.out.1 c (by have hq:=hnc c hc;first | exact hq | (simp only [ByteArray.data_extract] at hq;simp at hq;exact List.mem_of_mem_take hq)));have H3:=Lib.hid (H2.out.chg0 hc3);have HG3:=Lib.hid (HG2.out.trans (hc3.mono (by simp)));have HN:=Lib.hid hnc1;have hz3:w.heap.size≤w3.heap.size:=HG3.out.size;have hft:w3.heap.size≠tw:=(by omega);have hfB:B≤w3.heap.size:=(by omega);have hfb:w3.heap.size≠b:=(by omega);have hfr:w3.heap.size≠rw:=(by omega);clear hnm hnc hc3 H2 HG2 hnc1)
  | (go_at_call 106;refine (toV7 tw 23 _).mono ?_;rintro e u ⟨rfl,rfl⟩)
  | (go_at_call 174;refine (v7_typeFlag tw 23 _).mono ?_;rintro e u ⟨rfl,rfl⟩;have H4:=H3.out.chg0 ((Chg.refl [] w3).alloc (.cells #[.nilIface] 196));have hF4:=fat_new w3 .nilIface;have HG4:=Lib.hid (HG3.out.trans (((Chg.refl [] w3).alloc (.cells #[.nilIface] 196)).mono (by simp)));generalize w3.alloc (.cells #[.nilIface] 196)=u4 at H4 hF4 HG4 ⊢;have d179:u4.cell? ⟨tw,179,none⟩=some (bv 0):=(by have:=H4.wb.cell 23 156 rfl (by rw [HB.zero_ok.length];decide);rw [HB.zero_bytes] at this;simpa using this);have f179:u4.frozen? ⟨tw,179,none⟩=false:=H4.wb.frozen 179;have H4':=Lib.hid H4;have HF4:=Lib.hid hF4;clear H4 hF4 H3 HG3)
  | (go_at_call 109;have h1:=H4'.out.wb.set 23 156 fl rfl (by rw [HB.zero_ok.length];decide);rw [set_splice _ _ _ (by rw [HB.zero_ok.length];decide),HB.zero_ok.put_tf [fl] rfl] at h1;have OK4:=HB.zero_ok.set_tf [fl] rfl;have k4:Chg [tw] u4 (u4.setCell ⟨tw,179,none⟩ (bv fl)):=(Chg.refl _ u4).setCell (.inl (by simp)) _;have h4:=H4'.out.put k4 H4'.out.f1 h1 OK4.length;have hf4:=HF4.out.chg k4 (by simp;exact hft);have HG4':=Lib.hid (HG4.out.trans k4);have hbe:(Value.int .u8 (fl.toNat:Int))=bv fl:=rfl;rw [hbe];generalize u4.setCell ⟨tw,179,none⟩ (bv fl)=w4 at h4 hf4 HG4' ⊢;have HB4:=Lib.hid h4;have HF4':=Lib.hid hf4;clear k4 h4 hf4 h1 hbe H4' HF4 HG4 d179 f179;refine (v7_name tw 23 _).mono ?_;rintro e u ⟨rfl,rfl⟩)
  | (go_at_call 129;refine (fmtS_us tw w3.heap.size B sn kb hft HB4.out.bt hfB _ _ _ 23 0 100 _ nm _ (by exact HB4.out.wb) rfl (by rw [OK4.length];decide) (OK4.zero_nm rfl) (by decide) (by decide) HB4.out.env HF4'.out hnm1).mono ?_;rintro e w5 ⟨rfl,⟨x5,hx5,hb5⟩,hf5,hg5⟩;have hx5l:x5.length=100:=(by rw [hx5];exact txt_length hnm1);rw [OK4.put_nm _ hx5l] at hb5;have OK5:=OK4.set_nm _ hx5l;have HB5:=Lib.hid (HB4.out.put hg5 (HB4.out.f2 HF4'.out hfB hfb hfr) hb5 OK5.length);have HF5:=Lib.hid hf5;have HX5:=Lib.hid hx5;have HG5:=Lib.hid ((HG4'.out.mono (S':= [tw,w3.heap.size]) (by simp)).trans hg5);clear hb5 hf5 hx5 hg5 HB4 HF4' HG4')
  | (go_at_call 113;refine (v7_mode tw 23 _).mono ?_;rintro e u ⟨rfl,rfl⟩)
  | (go_at_call 130;refine (fmtN_us tw w3.heap.size B sn kb hft HB5.out.bt hfB _ _ _ 23 100 8 _ 0 _ (by exact HB5.out.wb) rfl (by rw [OK5.length];decide) (OK5.zero_md rfl) (by decide) HB5.out.env HF5.out (by constructor<;>decide)).mono ?_;rintro e w6 ⟨rfl,⟨x6,hx6,hb6⟩,hf6,hg6⟩;rw [OK5.put_md _ hx6.1] at hb6;have OK6:=OK5.set_md _ hx6.1;have HB6:=Lib.hid (HB5.out.put hg6 (HB5.out.f2 HF5.out hfB hfb hfr) hb6 OK6.length);have HF6:=Lib.hid hf6;have HX6:=Lib.hid hx6;have HG6:=Lib.hid (HG5.out.trans hg6);clear hb6 hf6 hx6 hg6 HB5 HF5 HG5)
  | (go_at_call 114;refine (v7_uid tw 23 _).mono ?_;rintro e u ⟨rfl,rfl⟩)
  | (go_at_call 130;refine (fmtN_us tw w3.heap.size B sn kb hft HB6.out.bt hfB _ _ _ 23 108 8 _ 0 _ (by exact HB6.out.wb) rfl (by rw [OK6.length];decide) (OK6.zero_ui rfl) (by decide) HB6.out.env HF6.out (by constructor<;>decide)).mono ?_;rintro e w7 ⟨rfl,⟨x7,hx7,hb7⟩,hf7,hg7⟩;rw [OK6.put_ui _ hx7.1] at hb7;have OK7:=OK6.set_ui _ hx7.1;have HB7:=Lib.hid (HB6.out.put hg7 (HB6.out.f2 HF6.out hfB hfb hfr) hb7 OK7.length);have HF7:=Lib.hid hf7;have HX7:=Lib.hid hx7;have HG7:=Lib.hid (HG6.out.trans hg7);clear hb7 hf7 hx7 hg7 HB6 HF6 HG6)
  | (go_at_call 115;refine (v7_gid tw 23 _).mono ?_;rintro e u ⟨rfl,rfl⟩)
  | (go_at_call 130;refine (fmtN_us tw w3.heap.size B sn kb hft HB7.out.bt hfB _ _ _ 23 116 8 _ 0 _ (by exact HB7.out.wb) rfl (by rw [OK7.length];decide) (OK7.zero_gi rfl) (by decide) HB7.out.env HF7.out (by constructor<;>decide)).mono ?_;rintro e w8 ⟨rfl,⟨x8,hx8,hb8⟩,hf8,hg8⟩;rw [OK7.put_gi _ hx8.1] at hb8;have OK8:=OK7.set_gi _ hx8.1;have HB8:=Lib.hid (HB7.out.put hg8 (HB7.out.f2 HF7.out hfB hfb hfr) hb8 OK8.length);have HF8:=Lib.hid hf8;have HX8:=Lib.hid hx8;have HG8:=Lib.hid (HG7.out.trans hg8);clear hb8 hf8 hx8 hg8 HB7 HF7 HG7)
  | (go_at_call 116;refine (v7_size tw 23 _).mono ?_;rintro e u ⟨rfl,rfl⟩)
  | (go_at_call 130;refine (fmtN_us tw w3.heap.size B sn kb hft HB8.out.bt hfB _ _ _ 23 124 12 _ ((data.size:Nat):Int) _ (by exact HB8.out.wb) rfl (by rw [OK8.length];decide) (OK8.zero_sz rfl) (by decide) HB8.out.env HF8.out hszf).mono ?_;rintro e w9 ⟨rfl,⟨x9,hx9,hb9⟩,hf9,hg9⟩;rw [OK8.put_sz _ hx9.1] at hb9;have OK9:=OK8.set_sz _ hx9.1;have HB9:=Lib.hid (HB8.out.put hg9 (HB8.out.f2 HF8.out hfB hfb hfr) hb9 OK9.length);have HF9:=Lib.hid hf9;have HX9:=Lib.hid hx9;have HG9:=Lib.hid (HG8.out.trans hg9);clear hb9 hf9 hx9 hg9 HB8 HF8 HG8)
  | (go_at_call 119;refine (v7_modTime tw 23 _).mono ?_;rintro e u ⟨rfl,rfl⟩)
  | (go_at_call 130;refine (fmtN_us tw w3.heap.size B sn kb hft HB9.out.bt hfB _ _ _ 23 136 12 _ 0 _ (by exact HB9.out.wb) rfl (by rw [OK9.length];decide) (OK9.zero_mt rfl) (by decide) HB9.out.env HF9.out (by constructor<;>decide)).mono ?_;rintro e w10 ⟨rfl,⟨x10,hx10,hb10⟩,hf10,hg10⟩;rw [OK9.put_mt _ hx10.1] at hb10;have OK10:=OK9.set_mt _ hx10.1;have HB10:=Lib.hid (HB9.out.put hg10 (HB9.out.f2 HF9.out hfB hfb hfr) hb10 OK10.length);have HF10:=Lib.hid hf10;have HX10:=Lib.hid hx10;have HG10:=Lib.hid (HG9.out.trans hg10);clear hb10 hf10 hx10 hg10 HB9 HF9 HG9)
  | (go_at_call 132;refine (HSL.out tw 134 _ _ _ 23 _ HB10.out.wb rfl HB10.out.len (OK10.zero_ck rfl) HB10.out.env.h15 (by have:=HB10.out.env.b22;omega)).mono ?_;rintro e w11 ⟨rfl,hb11,hg11⟩;have h11:=HB10.out.put hg11 HB10.out.f1 hb11 (sums_length _ (sealed_magic gnu _ HB10.out.len));have hf11:=HF10.out.chg hg11 (by simp;exact hft);have c11:=cell_heap hf11 0;have HB11:=Lib.hid h11;have HG11:=Lib.hid (HG10.out.trans (hg11.mono (by simp)));clear h11 hf11 hg11 hb11 HB10 HF10 HG10)
  | (go_at_call 133;refine (writeRaw_ws2 B sn kb tw b rw pad nb th _ bs data.size fl _ (by exact HB11.out) hnb (by omega) (by omega)).mono ?_;rw [HDL.out];rintro e w12 ⟨rfl,⟨rw',hrw',h12⟩,hf12⟩;have HB12:=Lib.hid h12;have HF12:=Lib.hid hf12;have htl':=h12.tlt;clear h12 hf12)
  | (go_at_call 194;refine (ws_writeString B sn kb tw b rw' (padOf data.size) data.size data th _ _ _ (by exact HB12.out) hd1 (Nat.le_refl _) (by omega) (by have hq:=HB11.out.len;simp only [List.length_append,List.length_replicate];rw [sums_length _ (sealed_magic gnu _ OK10.length)];omega)).mono ?_;rintro e w13 ⟨rfl,h13,hf13⟩;have HB13:=Lib.hid h13;have HF13:=Lib.hid hf13;clear h13 hf13)
  )
 all_goals
  go_ret
  have h13:=HB13.out
  rw [Int.sub_self] at h13
  have k1:Chg [tw] w w11:=HG11.out.fresh (by simp;omega)
  have k2:FrW B [tw,b] w w12:=((FrW.ofChg k1 hsB (by simp;exact hbt)).mono (by simp)).trans HF12.out
  have k3:FrW B [tw,b,rw'] w w13:=(k2.mono (by simp)).trans (HF13.out.mono (by simp))
  have hw11:=k1.size
  exact ⟨rfl,⟨rw',_,⟨OK10,by rw [HX5.out];exact txt_ascii HN.out,HX6.out,HX7.out,HX8.out,HX9.out,HX10.out,rfl,rfl,rfl,rfl,rfl,rfl,rfl,rfl,rfl,rfl⟩,h13⟩,FrW.fresh (S:= [tw,b]) (n:=rw') k3 (by omega)⟩
end Go.Proofs.YtkanmkcojlefbaaGreatDoor
namespace Go.Proofs.YtkanmkcojlefbaaGreatDoor
open Go.RowKit Go.Maps
theorem has_iff {es:List (Lit×DataW Unit)} (hk:∀p∈es,∃x,p.1=.string x) (x:List UInt8):Go.Maps.has (.map es) (.string x)=true↔x∈strKeys (.map es):=by
 rw [has_eq,List.any_eq_true]
 show _↔x∈es.map fun p=>strOf p.1
 rw [List.mem_map]
 constructor
 ·rintro ⟨p,hp,hs⟩
  obtain ⟨a,ha⟩:=hk p hp
  refine ⟨p,hp,?_⟩
  rw [ha] at hs⊢
  simpa [Lit.sameKey,strOf] using hs
 ·rintro ⟨p,hp,rfl⟩
  obtain ⟨a,ha⟩:=hk p hp
  exact ⟨p,hp,by rw [ha];simp [Lit.sameKey,strOf]⟩
theorem strKeys_nodup {es:List (Lit×DataW Unit)} (hp:es.Pairwise (fun p q=>p.1≠q.1)) (hk:∀p∈es,∃x,p.1=.string x):(strKeys (.map es)).Nodup:=by
 show (es.map fun p=>strOf p.1).Nodup
 refine List.pairwise_map.2 (hp.imp_of_mem fun {p q} hp' hq' hne e=>hne ?_)
 obtain ⟨a,ha⟩:=hk p hp'
 obtain ⟨b,hb⟩:=hk q hq'
 rw [ha,hb] at e⊢
 exact congrArg _ e
def StrRow (v:Value) (ks:List ByteArray) (B:Nat) (w:World):Prop:=
 (ks= []∧v=.slice none 0 0)∨∃g cap cur,v=.slice (some ⟨g,0,none⟩) ks.length cap∧B≤g∧w.heap[g]? =some (.cells cur 9 (0,0))∧ks.length≤cap∧cap≤maxLen∧∀i (h:i < ks.length),cur[i]? =some (.string ks[i])
theorem StrRow.chg {v:Value} {ks:List ByteArray} {B:Nat} {S:List Nat} {w w':World} (h:StrRow v ks B w) (k:Chg S w w') (hS:∀i∈S,i < B):StrRow v ks B w':=by
 rcases h with h | ⟨g,cap,cur,h1,h2,h3,h4⟩
 ·exact .inl h
 ·exact .inr ⟨g,cap,cur,h1,h2,k.heap h3 (fun hm=>by have:=hS g hm;omega),h4⟩
theorem chg_of_below {w w':World} (h:Below w.heap.size w w'):Chg [] w w':=⟨h.os,h.tape,h.output,h.size,fun k hk _=>h.block k hk⟩
set_option maxRecDepth 100000 in
theorem keys_sorted (b nn:Nat) (F:KV) (w:World) (h:MapS b nn F w) (hnn:nn≤1099511627776) :
  Calls Tryz.prog 134 #[.func (.func 189) #[] #[.pointer (some ⟨w.heap.size,0,none⟩)]] (w.alloc (.cells #[.map (some b)] 127)) fun e w'=>∃(v:Value) (ks:List ByteArray),e=.returned v∧ks.Nodup∧(∀k:ByteArray,k∈ks↔k.size≤maxLen∧(F k).isSome=true)∧ks.length≤nn∧
   StrRow v ks (w.heap.size+1) w'∧Chg [] (w.alloc (.cells #[.map (some b)] 127)) w':=by
 obtain ⟨D,ho,ht⟩:=h
 have hle:=ho.size_le
 refine (callsIn_wide.1 (Tryz.slices_Sorted_keys_134_135 b nn D _ w ho (Nat.le_trans hle (Nat.le_trans hnn (by decide))) (by omega))).mono ?_
 rintro e w' ⟨v,ss,rfl,hp,hrow,hnil,hb⟩
 obtain ⟨es,hD,hpw,_⟩:=ho.entries laws9
 obtain ⟨es',hD',hko⟩:=ho.keysOf
 obtain rfl:es=es':=by rw [hD] at hD';simpa using hD'
 have hk:∀p∈es,∃x,p.1=.string x:=fun p hp=>by
  obtain ⟨v,hv⟩:=hko p hp
  obtain ⟨x,_,hx,_⟩:=Maps.keyOf_str Tryz.underlying9 hv
  exact ⟨x,hx⟩
 subst hD
 have hle2:=strKeys_le ho Tryz.underlying9
 have hpm:(ss.mergeSort (fun x y=>decide (x≤y))).Perm (strKeys (.map es)):=(List.mergeSort_perm ss _).trans hp
 have hsl:ss.length=(ss.mergeSort (fun x y=>decide (x≤y))).length:=(List.mergeSort_perm ss _).length_eq.symm
 rw [hsl] at hrow
 generalize ss.mergeSort (fun x y=>decide (x≤y))=l at hpm hrow hsl
 obtain ⟨ks,hks⟩:∃ks:List ByteArray,ks=l.map fun x=>⟨x.toArray⟩:=⟨_,rfl⟩
 have hkl:ks.length=l.length:=by rw [hks];simp
 have hmem:∀k:ByteArray,k∈ks↔k.data.toList∈l:=by
  intro k
  rw [hks,List.mem_map]
  constructor
  ·rintro ⟨x,hx,rfl⟩;simpa using hx
  ·intro hx;exact ⟨_,hx,by simp⟩
 have hsz:Maps.size (DataW.map es)=(strKeys (.map es)).length:=by simp [Maps.size,strKeys]
 refine ⟨v,ks,rfl,?_,fun k=> ?_,?_,?_,chg_of_below hb⟩
 ·rw [hks]
  refine List.pairwise_map.2 ((hpm.nodup_iff.2 (strKeys_nodup hpw hk)).imp fun {a b} hne e=>hne ?_)
  have:=congrArg (fun z:ByteArray=>z.data.toList) e
  simpa using this
 ·rw [hmem,hpm.mem_iff]
  constructor
  ·intro hx
   have h1:=hle2 _ hx
   have h2:k.size≤maxLen:=by rw [Lib.size_eq];exact h1
   refine ⟨h2,?_⟩
   rw [←(ht k h2).1]
   exact (has_iff hk _).2 hx
  ·rintro ⟨h1,h2⟩
   rw [←(ht k h1).1] at h2
   exact (has_iff hk _).1 h2
 ·rw [hkl,hpm.length_eq,←hsz];exact hle
 ·have hgs:(w.alloc (.cells #[.map (some b)] 127)).heap.size=w.heap.size+1:=Array.size_push _
  rw [hgs] at hrow
  rcases hrow.2 with ⟨hv,h0⟩ | ⟨g,cap,cur,hv,hB,hg,hn,hc,hcs,htk⟩
  ·exact .inl ⟨List.eq_nil_of_length_eq_zero (by omega),hv⟩
  ·refine .inr ⟨g,cap,cur,by rw [hkl];exact hv,hB,hg,by omega,hc,fun i hi=> ?_⟩
   have h1:(cur.toList.take (l.length*1))[i]? =some (encStr (l[i]'(by omega))):=by
    rw [htk,List.getElem?_map,List.getElem?_eq_getElem (by omega)]
    rfl
   rw [List.getElem?_take,if_pos (by omega)] at h1
   have h2:cur[i]? =cur.toList[i]? :=by simp
   rw [h2,h1]
   congr 1
   simp [hks]
end Go.Proofs.YtkanmkcojlefbaaGreatDoor
namespace Go.Proofs
open Go.Shelf
def Tryz.lays166_ren:Go.Shelf.Ren:=⟨fun | 166=>137 | 240=>191 | 276=>232 | n=>n,fun | 70=>201 | 72=>203 | 37=>35 | 75=>72 | 80=>214 | 164=>305 | n=>n,fun | n=>n⟩
theorem Tryz.lays166:Go.Proofs.Lays.n166 Tryz.prog Tryz.lays166_ren:={
 mixed:=by kernel_rfl
 f166:=Tryz.func137.trans (congrArg some (by kernel_rfl))
 f240:=Tryz.func191.trans (congrArg some (by kernel_rfl))
 f276:=Tryz.func232.trans (congrArg some (by kernel_rfl))
 t0:=Tryz.underlying0
 a0:=Tryz.isAgg0
 z0:=Tryz.sizeOf0
 v0:=Tryz.zeroValue0
 t3:=Tryz.underlying3
 a3:=Tryz.isAgg3
 z3:=Tryz.sizeOf3
 v3:=Tryz.zeroValue3
 t4:=Tryz.underlying4
 a4:=Tryz.isAgg4
 z4:=Tryz.sizeOf4
 v4:=Tryz.zeroValue4
 t9:=Tryz.underlying9
 a9:=Tryz.isAgg9
 z9:=Tryz.sizeOf9
 v9:=Tryz.zeroValue9
 t20:=Tryz.underlying20
 a20:=Tryz.isAgg20
 z20:=Tryz.sizeOf20
 v20:=Tryz.zeroValue20
 t37:=Tryz.underlying35
 a37:=Tryz.isAgg35
 z37:=Tryz.sizeOf35
 v37:=Tryz.zeroValue35
 t70:=Tryz.underlying201
 a70:=Tryz.isAgg201
 z70:=Tryz.sizeOf201
 v70:=Tryz.zeroValue201
 t72:=Tryz.underlying203
 a72:=Tryz.isAgg203
 z72:=Tryz.sizeOf203
 v72:=Tryz.zeroValue203
 t75:=Tryz.underlying72
 a75:=Tryz.isAgg72
 z75:=Tryz.sizeOf72
 v75:=Tryz.zeroValue72
 t164:=Tryz.underlying305
 a164:=Tryz.isAgg305
 z164:=Tryz.sizeOf305
 v164:=Tryz.zeroValue305 }
theorem Tryz.Builder_Extra_166:Builder.Extra Tryz.prog Tryz.lays166_ren:={
 sizeBuilder:=by kernel_rfl
 liesBuilder:=by kernel_rfl
 t5:=Tryz.underlying5
 a5:=Tryz.isAgg5
 z5:=Tryz.sizeOf5
 v5:=Tryz.zeroValue5
 infoByte:=by kernel_rfl
 cellsByte:=by kernel_rfl
 sizeByte:=by kernel_rfl
 neB5:=by decide }
open Go.RowKit in
theorem Tryz.Builder_WriteString_k (B b:Nat) (bs:List Value) (s:ByteArray) (w:World) (h:Lib.IsBuilderF 203 5 B b bs w) (hlen:bs.length+s.size≤140737488355328) (hBw:B≤w.heap.size) :
  Calls Tryz.prog 137 #[.pointer (some ⟨b,0,none⟩),.string s] w fun e w'=>e=.returned (.tuple #[.int .i64 s.size,.nilIface])∧(Lib.BuilderAtF 203 5 B b (.pointer (some ⟨b,0,none⟩)) (bs++Lib.strCells s) w'∧Below B w w'∧Lib.OthersKept 5 (some b) w w'):=Any.Builder_WriteString_k Tryz.lays166 Tryz.Builder_Extra_166 B b bs s w h hlen hBw
end Go.Proofs
