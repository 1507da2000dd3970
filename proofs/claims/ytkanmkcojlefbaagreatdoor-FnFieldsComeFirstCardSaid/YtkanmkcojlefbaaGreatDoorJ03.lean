/-
  readHeader at the end of the archive: two blocks of bytes 0 · Next at the end of the archive; files and Read of an archive of two blocks of bytes 0 · files and Read of an archive that begins with two blocks of bytes 0 · isASCII: whether a string is a C-style ASCII text · Small functions over strings: zzIndex, zzContains, hasNUL, zzCut; isHeaderOnlyType · Fmt · Octal digits: strconv.FormatInt at base 8 · strconv.ParseUint at base 8, where the digits are octal and the number is small.
-/
import Derived.Test.YtkanmkcojlefbaaGreatDoorJ01
import Derived.Test.YtkanmkcojlefbaaGreatDoorJ02
import Derived.Deep.RegionHeld3
import Derived.Test.YtkanmkcojlefbaaGreatDoorJ00
import Derived.Lib.OthersKept
import Derived.Lib.VarintMem
import Derived.Lib.Strings
import Derived.Lib.IndexBytes
import Derived.Lib.ItoaMem
import Derived.Lib.ConvBytes
set_option linter.unusedVariables false
namespace Go.Proofs.YtkanmkcojlefbaaGreatDoor
open Go.RowKit
theorem zero132:Tryz.zeroCells132=(bvs (List.replicate 512 0)).toArray:=by kernel_rfl
structure TarAt (tr br rr:Nat) (pad:Int) (cs:Array Value) (w:World):Prop where
 heap:w.heap[tr]? =some (.cells cs 152 (0,0))
 size:cs.size=516
 c0:cs[0]? =some (.iface 84 (.pointer (some ⟨br,0,none⟩)))
 c1:cs[1]? =some (.int .i64 pad)
 c2:cs[2]? =some (.iface 146 (.pointer (some ⟨rr,0,none⟩)))
 c515:cs[515]? =some .nilIface
theorem row_equal (p q:Addr) (n m c d:Nat) (xs ys:List UInt8) (w:World) (hx:xs.length=n) (hy:ys.length=m) (h1:∀i,i < xs.length→w.cell? (p.add i)=(xs[i]?).map bv) (h2:∀i,i < ys.length→w.cell? (q.add i)=(ys[i]?).map bv) :
  Calls Tryz.prog 197 #[.slice (some p) n c,.slice (some q) m d] w fun e w'=>e=.returned (.bool (xs == ys))∧w=w':=by
 subst hx;subst hy
 have hb:∀l:List UInt8,Lib.bytesOf (l.map fun c=>(c.toNat:Int))=l:=by
  intro l;rw [Lib.bytesOf,List.map_map]
  exact (List.map_congr_left (g:=id) (fun x _=>by simp)).trans (by simp)
 have hg:∀(l:List UInt8) i,i < l.length→(l.map fun c=>(c.toNat:Int)).getD i 0=(l[i]?.map fun c=>(c.toNat:Int)).getD 0:=by
  intro l i hi;simp [List.getD]
 refine (Tryz.bytes_Equal_all (some p) (some q) xs.length c ys.length d (xs.map fun c=>(c.toNat:Int)) (ys.map fun c=>(c.toNat:Int)) w (by simp) (by simp) (Lib.BytesIn.of_cells fun i hi=> ?_) (Lib.BytesIn.of_cells fun i hi=> ?_)).mono ?_
 ·rw [h1 i hi,hg xs i hi,List.getElem?_eq_getElem hi];rfl
 ·rw [h2 i hi,hg ys i hi,List.getElem?_eq_getElem hi];rfl
 ·rintro e w' ⟨rfl,rfl⟩;rw [hb,hb];exact ⟨rfl,rfl⟩
theorem zero_row (w:World) (Z:List UInt8) (hZ:Z=List.replicate 512 0) (i:Nat):(w.alloc (.cells Tryz.zeroCells132 132)).cell? ((⟨w.heap.size,0,none⟩:Addr).add i)=(Z[i]?).map bv:=by
 rw [add_addr,Nat.zero_add,World.cell?_alloc_new,zero132,←hZ,List.getElem?_toArray,bvs_get]
theorem blk_row {w:World} {tr:Nat} {cs:Array Value} {t:TypeId} (Z:List UInt8) (hs:3+Z.length≤cs.size) (h:w.heap[tr]? =some (.cells (splice cs.toList 3 (bvs Z)).toArray t (0,0))) (i:Nat) (hi:i < Z.length) :
  w.cell? ((⟨tr,3,none⟩:Addr).add i)=(Z[i]?).map bv:=by
 rw [add_addr,cell_heap h]
 have:=splice_get cs.toList 3 (bvs Z) (by simpa using hs) (3+i)
 rw [List.getElem?_toArray,this,if_pos (by simp;omega),bvs_get]
 congr 2;omega
theorem RdrAt.chg {br dr:Nat} {D:List UInt8} {i:Nat} {S:List Nat} {w w':World} (h:RdrAt br dr D i w) (hc:Chg S w w') (h1:br∉S) (h2:dr∉S):RdrAt br dr D i w':=by
 obtain ⟨hne,hD,hi,cap,pr,cur,hbr,hc1,hc2,hdr,hcs,htk⟩:=h
 exact ⟨hne,hD,hi,cap,pr,cur,hc.heap hbr h1,hc1,hc2,hc.heap hdr h2,hcs,htk⟩
theorem TarAt.chg {tr br rr:Nat} {pad:Int} {cs:Array Value} {S:List Nat} {w w':World} (h:TarAt tr br rr pad cs w) (hc:Chg S w w') (h1:tr∉S):TarAt tr br rr pad cs w':=
 ⟨hc.heap h.heap h1,h.size,h.c0,h.c1,h.c2,h.c515⟩
theorem TarAt.spliced {tr br rr:Nat} {pad:Int} {cs:Array Value} {w w':World} (h:TarAt tr br rr pad cs w) (Z:List UInt8) (hz:Z.length≤512)
  (hh:w'.heap[tr]? =some (.cells (splice cs.toList 3 (bvs Z)).toArray 152 (0,0))):TarAt tr br rr pad (splice cs.toList 3 (bvs Z)).toArray w':=by
 have hs:=h.size
 have hl:3+(bvs Z).length≤cs.toList.length:=by simp;omega
 have g:=splice_get cs.toList 3 (bvs Z) hl
 refine ⟨hh,?_,?_,?_,?_,?_⟩
 ·rw [List.size_toArray,length_splice _ _ _ hl];simpa using hs
 ·rw [List.getElem?_toArray,g,if_neg (by omega)];simpa using h.c0
 ·rw [List.getElem?_toArray,g,if_neg (by omega)];simpa using h.c1
 ·rw [List.getElem?_toArray,g,if_neg (by omega)];simpa using h.c2
 ·rw [List.getElem?_toArray,g,if_neg (by simp;omega)];simpa using h.c515
end Go.Proofs.YtkanmkcojlefbaaGreatDoor
namespace Go.Proofs.YtkanmkcojlefbaaGreatDoor
open Go.RowKit
theorem phys_any (rr br:Nat) (nb:Int) (w:World) :
  Calls Tryz.prog 348 #[.agg #[.iface 84 (.pointer (some ⟨br,0,none⟩)),.int .i64 nb]] w fun e w'=>e=.returned (.int .i64 nb)∧Chg [] w w':=by
 go_enter Tryz.func348,Tryz.ntmps348
 go_wp2
 go_ret
 exact ⟨rfl,(Chg.refl _ w).alloc _⟩
theorem TarAt.setPad {tr br rr:Nat} {pad:Int} {cs:Array Value} {w:World} (h:TarAt tr br rr pad cs w) (p:Int) :
  TarAt tr br rr p (cs.setIfInBounds 1 (.int .i64 p)) (w.setCell ⟨tr,1,none⟩ (.int .i64 p)):=by
 have hs:=h.size
 refine ⟨heap_setCell_at h.heap 1 _,by simpa using hs,?_,?_,?_,?_⟩
 ·rw [Array.getElem?_setIfInBounds_ne (by omega)];exact h.c0
 ·rw [Array.getElem?_setIfInBounds_self,if_pos (by omega)]
 ·rw [Array.getElem?_setIfInBounds_ne (by omega)];exact h.c2
 ·rw [Array.getElem?_setIfInBounds_ne (by omega)];exact h.c515
theorem last4 {A B C D:Prop} (h:A∧B∧C∧D):D:=h.2.2.2
theorem keep1 {w1 w':World} {tr rr br:Nat} {n:Int} (d0:w1.cell? ⟨tr,0,none⟩=some (.iface 84 (.pointer (some ⟨br,0,none⟩)))) (d2:w1.cell? ⟨tr,2,none⟩=some (.iface 146 (.pointer (some ⟨rr,0,none⟩))))
  (e0:w1.cell? ⟨rr,0,none⟩=some (.iface 84 (.pointer (some ⟨br,0,none⟩)))) (e1:w1.cell? ⟨rr,1,none⟩=some (.int .i64 n)) (hc:Chg [] w1 w') :
  w'.cell? ⟨tr,0,none⟩=some (.iface 84 (.pointer (some ⟨br,0,none⟩)))∧w'.cell? ⟨tr,2,none⟩=some (.iface 146 (.pointer (some ⟨rr,0,none⟩)))∧(method 511 146 (.pointer (some ⟨rr,0,none⟩)) "tapearchives/pub/gotar.physicalRemaining").run Tryz.prog w'=.ok (348,.agg #[.iface 84 (.pointer (some ⟨br,0,none⟩)),.int .i64 n]) w'∧Chg [] w1 w':=
 ⟨hc.cell d0 (by simp),hc.cell d2 (by simp),meth_phys rr _ _ w' (hc.cell e0 (by simp)) (hc.cell e1 (by simp)),hc⟩
end Go.Proofs.YtkanmkcojlefbaaGreatDoor
namespace Go.Proofs.YtkanmkcojlefbaaGreatDoor
open Go.RowKit
set_option maxHeartbeats 400000 in
theorem end_nil (w:World) :
  Calls Tryz.prog 33 #[.nilIface] w fun e w'=>e=.returned (.int .i64 0)∧w=w':=by
 go_enter Tryz.func33,Tryz.ntmps33
 go_wp2
 go_ret
 exact ⟨rfl,rfl⟩
set_option maxRecDepth 100000 in
set_option maxHeartbeats 800000 in
theorem newBytes (a:Option Addr) (n c:Nat) (w:World) :
  Calls Tryz.prog 35 #[.slice a n c] w fun e w'=>e=.returned (.pointer (some ⟨w.heap.size,0,none⟩))∧w'=w.alloc (.cells #[.slice a n c,.int .i64 0,.int .i64 (-1)] 154):=by
 go_enter Tryz.func35,Tryz.ntmps35
 go_wp2
 go_ret
 exact ⟨rfl,rfl⟩
theorem zero152:Tryz.zeroCells152.size=516∧Tryz.zeroCells152[1]? =some (.int .i64 0)∧Tryz.zeroCells152[515]? =some .nilIface:=by
 refine ⟨by kernel_rfl,by kernel_rfl,by kernel_rfl⟩
set_option maxRecDepth 100000 in
set_option maxHeartbeats 800000 in
theorem newTar (b:Nat) (w:World) :
  Calls Tryz.prog 34 #[.iface 84 (.pointer (some ⟨b,0,none⟩))] w fun e w'=>∃cs,e=.returned (.pointer (some ⟨w.heap.size+1,0,none⟩))∧TarAt (w.heap.size+1) b w.heap.size 0 cs w'∧
   w'.heap[w.heap.size]? =some (.cells #[.iface 84 (.pointer (some ⟨b,0,none⟩)),.int .i64 0] 148 (0,0))∧Chg [] w w':=by
 have hz:=zero152
 have HZ:=Lib.hid hz;clear hz
 go_enter Tryz.func34,Tryz.ntmps34
 go_wp2
 go_ret
 have hz:=HZ.out
 refine ⟨_,rfl,⟨heap_alloc2_new _ _ _,?_,?_,?_,?_,?_⟩,?_,((Chg.refl _ w).alloc _).alloc _⟩
 ·simp
 ·rw [Array.getElem?_setIfInBounds_ne (by omega),Array.getElem?_setIfInBounds_self,if_pos (by rw [hz.1];omega)]
 ·rw [Array.getElem?_setIfInBounds_ne (by omega),Array.getElem?_setIfInBounds_ne (by omega)];exact hz.2.1
 ·rw [Array.getElem?_setIfInBounds_self,if_pos (by simp)]
 ·rw [Array.getElem?_setIfInBounds_ne (by omega),Array.getElem?_setIfInBounds_ne (by omega)];exact hz.2.2
 ·rw [Below.heap_alloc _ _ _ (by simp)];exact heap_alloc_new _ _
theorem clone_row (g c:Nat) (D:List UInt8) (w:World) (hD:D.length≤140737488355328) (hg:∀j,j < D.length→w.cell? ⟨g,j,none⟩=(D[j]?).map bv) :
  Calls Tryz.prog 36 #[.slice (some ⟨g,0,none⟩) D.length c] w fun e w'=>∃dr cap cur,e=.returned (.slice (some ⟨dr,0,none⟩) D.length cap)∧w'.heap[dr]? =some (.cells cur 5 (0,0))∧D.length≤cap∧cap≤maxLen∧cur.size=cap∧
   cur.toList.take D.length=bvs D∧w.heap.size≤dr∧Below w.heap.size w w':=by
 refine (Tryz.bytes_Clone_at ⟨g,0,none⟩ D.length c (D.map fun c=>(c.toNat:Int)) w (by simp) hD (fun i hi=> ?_)).mono ?_
 ·rw [add_addr,Nat.zero_add,hg i hi]
  simp [List.getD,hi]
 rintro e w1 ⟨v,rfl,hown,hv,hb1⟩
 rcases hown.2 with ⟨rfl,_⟩ | ⟨g1,cap,cur,rfl,hB,hh,h1,h2,h3,h4⟩
 ·exact absurd rfl hv
 ·exact ⟨g1,cap,cur,rfl,hh,h1,h2,by simpa using h3,by rw [Nat.mul_one] at h4;rw [h4];simp [bvs],hB,hb1⟩
end Go.Proofs.YtkanmkcojlefbaaGreatDoor
namespace Go.Proofs.YtkanmkcojlefbaaGreatDoor
open Go.RowKit
def ascii (l:List UInt8):Bool:=l.all fun c=>c != 0 && decide (c.toNat < 128)
theorem ascii_take {l:List UInt8} {n:Nat} (h:n < l.length) (h1:ascii (l.take n)=true) (h2:l[n]≠0) (h3:(l[n]).toNat < 128):ascii (l.take (n+1))=true:=by
 rw [List.take_succ_eq_append_getElem h]
 simp only [ascii,List.all_append,List.all_cons,List.all_nil,Bool.and_true,Bool.and_eq_true,bne_iff_ne,decide_eq_true_eq] at h1⊢
 exact ⟨h1,h2,h3⟩
theorem ascii_not {l:List UInt8} {n:Nat} (h:n < l.length) (h2:l[n]=0∨128≤(l[n]).toNat):ascii l=false:=by
 rw [ascii,List.all_eq_false]
 refine ⟨l[n],List.getElem_mem h,?_⟩
 rcases h2 with h2 | h2
 ·simp [h2]
 ·simp;intro _;omega
theorem iterAt_chg {a w:World} (h:Chg [] a w) (k:Nat) (hk:a.heap.size≤k) (s:ByteArray) (q:Nat):Chg [] a (w.iterAt k s q):=
 ⟨h.os,h.tape,h.output,by rw [Lib.iterAt_size];exact h.size,fun i hi hn=>(Lib.iterAt_other w k i s q (by omega)).trans (h.block i hi hn)⟩
set_option maxRecDepth 100000 in
set_option maxHeartbeats 800000 in
theorem isASCII_any (s:ByteArray) (w:World) :
  Calls Tryz.prog 96 #[.string s] w fun e w'=>e=.returned (.bool (ascii s.data.toList))∧Chg [] w w':=by
 go_enter Tryz.func96,Tryz.ntmps96
 go_wp2
 go_loopw [] (fun wr=>∃pos:Nat,pos≤s.size∧wr.heap[w.heap.size]? =some (.stringIter s pos)∧Chg [] w wr∧ascii (s.data.toList.take pos)=true) (fun wr=>s.size - wr.iterPos w.heap.size)
 case atStart=>exact ⟨0,Nat.zero_le _,World.iter_heap _ _ _,(Chg.refl _ w).alloc _,rfl⟩
 case round=>
  obtain ⟨pos,hp,hit,hch,has⟩:=hrel
  have HIT:=Lib.hid hit;have HCH:=Lib.hid hch;have HAS:=Lib.hid has
  clear hit hch has
  by_cases hlt:pos < s.size
  ·have hll:pos < s.data.toList.length:=by simpa using hlt
   have hget:s.data.toList[pos]=s[pos]:=rfl
   have HCI:Hid (∀q,Chg [] w (wr.iterAt w.heap.size s q)):=fun q=>iterAt_chg HCH.out w.heap.size (Nat.le_refl _) s q
   have HIA:Hid (∀q,(wr.iterAt w.heap.size s q).heap[w.heap.size]? =some (.stringIter s q)):=fun q=>Lib.iterAt_heap wr w.heap.size s pos q HIT.out
   by_cases ha:(s[pos]).toNat < 128
   ·by_cases h0:(s[pos]).toNat=0
    ·have hnx:∀ty,(Instr.next (.pointer (some ⟨w.heap.size,0,none⟩)) true ty).run Tryz.prog wr=_:=fun ty=>Lib.run_next_ascii_at wr w.heap.size s pos ty HIT.out hlt ha
     rw [h0] at hnx
     go_wp2
     go_ret
     refine ⟨?_,HCI.out _⟩
     rw [ascii_not hll (.inl (by rw [hget];exact UInt8.toNat_inj.1 (by simpa using h0)))]
     rfl
    ·have hnx:∀ty,(Instr.next (.pointer (some ⟨w.heap.size,0,none⟩)) true ty).run Tryz.prog wr=_:=fun ty=>Lib.run_next_ascii_at wr w.heap.size s pos ty HIT.out hlt ha
     have hz:(((s[pos]).toNat:Int) == 0)=false:=by simp;omega
     go_wp2
     go_roundw
     case rel=>
      refine ⟨pos+1,by omega,HIA.out _,HCI.out _,ascii_take hll HAS.out (fun e=>h0 ?_) (by rw [hget];exact ha)⟩
      rw [hget] at e;rw [e];rfl
     case measure=>
      have e1:=HIA.out (pos+1)
      have e2:=HIT.out
      simp only [World.iterPos,e1,e2]
      omega
   ·have hd:=decode_high s pos hlt (by omega)
    have hnx:∀ty,(Instr.next (.pointer (some ⟨w.heap.size,0,none⟩)) true ty).run Tryz.prog wr=_:=fun ty=>Lib.run_next_any_at wr w.heap.size s pos ty HIT.out hlt
    have hge:(128:Int)≤((Utf8.decode s pos).1:Int):=by omega
    clear hd
    go_wp2
    go_ret
    refine ⟨?_,HCI.out _⟩
    rw [ascii_not hll (.inr (by rw [hget];omega))]
    rfl
  ·have hnx:∀ty,(Instr.next (.pointer (some ⟨w.heap.size,0,none⟩)) true ty).run Tryz.prog wr=_:=fun ty=>Lib.run_next_end_at wr w.heap.size s pos ty HIT.out hlt
   go_wp2
   go_ret
   refine ⟨?_,HCH.out⟩
   have e:s.data.toList.take pos=s.data.toList:=List.take_of_length_le (by simp;omega)
   have has:=HAS.out
   rw [e] at has
   rw [has]
   rfl
end Go.Proofs.YtkanmkcojlefbaaGreatDoor
namespace Go.Proofs.YtkanmkcojlefbaaGreatDoor
open Go.RowKit
def has (l:List UInt8) (c:UInt8):Bool:=l.contains c
theorem has_true {l:List UInt8} {c:UInt8}:has l c=true↔c∈l:=List.contains_iff_mem
theorem has_false {l:List UInt8} {c:UInt8}:has l c=false↔c∉l:=by rw [←has_true];simp
theorem extract_one (s:ByteArray) (k:Nat) (h:k < s.size) (c:UInt8):((s.extract k (k+1)).toList == [c])=(s[k] == c):=by
 have hl:k < s.data.toList.length:=by simpa using h
 have:(s.extract k (k+1)).toList= [s[k]]:=by
  rw [Lib.extract_toList,Nat.add_sub_cancel_left,List.drop_eq_getElem_cons hl]
  rfl
 rw [this]
 by_cases e:s[k]=c
 ·subst e;simp
 ·simp
set_option maxRecDepth 100000 in
set_option maxHeartbeats 400000 in
theorem zzIndex_found (s:ByteArray) (c:UInt8) (k:Nat) (w:World) (hs:s.size≤140737488355328) (hk:k < s.size) (hc:s[k]=c) (hb:∀j (h:j < k),s[j]'(by omega)≠c) :
  Calls Tryz.prog 219 #[.string s,.string ⟨#[c]⟩] w fun e w'=>e=.returned (.int .i64 k)∧w=w':=by
 have HB:=Lib.hid hb;have HC:=Lib.hid hc
 clear hb hc
 go_enter Tryz.func219,Tryz.ntmps219
 go_wp2
 go_loop [5] (fun i=>∃j:Nat,j≤k∧i=.int .i64 j) (fun i=>k - (intOf i).toNat)
 case atStart=>exact ⟨0,by omega,rfl⟩
 case round=>
  obtain ⟨j,hj,rfl⟩:=hrel
  have hjs:j < s.size:=by omega
  by_cases hjk:j < k
  ·have ht:((s.extract j (j+1)).toList == [c])=false:=by rw [extract_one s j hjs];simpa using HB.out j hjk
   go_wp2
   go_round
   case rel=>exact ⟨j+1,by omega,by go_num⟩
   case measure=>simp [intOf];omega
  ·obtain rfl:j=k:=by omega
   have ht:((s.extract j (j+1)).toList == [c])=true:=by rw [extract_one s j hjs];simpa using HC.out
   go_wp2
   go_ret
   exact ⟨rfl,rfl⟩
set_option maxRecDepth 100000 in
set_option maxHeartbeats 400000 in
theorem zzIndex_none (s:ByteArray) (c:UInt8) (w:World) (hs:s.size≤140737488355328) (hb:c∉s.data.toList) :
  Calls Tryz.prog 219 #[.string s,.string ⟨#[c]⟩] w fun e w'=>e=.returned (.int .i64 (-1))∧w=w':=by
 have HB:=Lib.hid hb
 clear hb
 go_enter Tryz.func219,Tryz.ntmps219
 go_wp2
 go_loop [5] (fun i=>∃j:Nat,j≤s.size∧i=.int .i64 j) (fun i=>s.size - (intOf i).toNat)
 case atStart=>exact ⟨0,by omega,rfl⟩
 case round=>
  obtain ⟨j,hj,rfl⟩:=hrel
  by_cases hjk:j < s.size
  ·have ht:((s.extract j (j+1)).toList == [c])=false:=by
    rw [extract_one s j hjk]
    have:s[j]∈s.data.toList:=List.getElem_mem (l:=s.data.toList) (by simpa using hjk)
    simp only [beq_eq_false_iff_ne,ne_eq]
    intro e;exact HB.out (e ▸ this)
   go_wp2
   go_round
   case rel=>exact ⟨j+1,by omega,by go_num⟩
   case measure=>simp [intOf];omega
  ·go_wp2
   go_ret
   exact ⟨rfl,rfl⟩
theorem first_at (s:ByteArray) (c:UInt8) (h:c∈s.data.toList):∃k,∃hk:k < s.size,s[k]=c∧∀j (hj:j < k),s[j]'(by omega)≠c:=by
 obtain ⟨n,hn,he⟩:=List.mem_iff_getElem.1 h
 have key:∀m,(∃j,∃hj:j < s.size,j≤m∧s[j]=c)→∃k,∃hk:k < s.size,s[k]=c∧∀j (hj:j < k),s[j]'(by omega)≠c:=by
  intro m
  induction m with
  | zero=>
   rintro ⟨j,hj,hm,hc⟩
   exact ⟨j,hj,hc,fun i hi=>by omega⟩
  | succ m ih=>
   intro hex
   by_cases hs:∃j,∃hj:j < s.size,j≤m∧s[j]=c
   ·exact ih hs
   ·obtain ⟨j,hj,hm,hc⟩:=hex
    refine ⟨j,hj,hc,fun i hi e=>hs ⟨i,by omega,by omega,e⟩⟩
 exact key n ⟨n,by simpa using hn,Nat.le_refl _,he⟩
set_option maxHeartbeats 400000 in
theorem zzContains_any (s:ByteArray) (c:UInt8) (w:World) (hs:s.size≤140737488355328) :
  Calls Tryz.prog 166 #[.string s,.string ⟨#[c]⟩] w fun e w'=>e=.returned (.bool (has s.data.toList c))∧w=w':=by
 by_cases h:c∈s.data.toList
 ·obtain ⟨k,hk,hc,hb⟩:=first_at s c h
  rw [has_true.2 h]
  clear h
  go_enter Tryz.func166,Tryz.ntmps166
  go_wp2_with (go_at_call 219;refine (zzIndex_found s c k _ hs hk hc hb).mono ?_;rintro e w1 ⟨rfl,rfl⟩)
  go_ret
  exact ⟨by simp,rfl⟩
 ·rw [has_false.2 h]
  go_enter Tryz.func166,Tryz.ntmps166
  go_wp2_with (go_at_call 219;refine (zzIndex_none s c _ hs h).mono ?_;rintro e w1 ⟨rfl,rfl⟩)
  go_ret
  exact ⟨rfl,rfl⟩
theorem hasNUL_any (s:ByteArray) (w:World) (hs:s.size≤140737488355328) :
  Calls Tryz.prog 94 #[.string s] w fun e w'=>e=.returned (.bool (has s.data.toList 0))∧w=w':=by
 go_enter Tryz.func94,Tryz.ntmps94
 go_wp2_with (go_at_call 166;refine (zzContains_any s 0 _ hs).mono ?_;rintro e w1 ⟨rfl,rfl⟩)
 go_ret
 exact ⟨rfl,rfl⟩
set_option maxRecDepth 100000 in
set_option maxHeartbeats 400000 in
theorem zzCut_found (s:ByteArray) (c:UInt8) (k:Nat) (w:World) (hs:s.size≤140737488355328) (hk:k < s.size) (hc:s[k]=c) (hb:∀j (h:j < k),s[j]'(by omega)≠c) :
  Calls Tryz.prog 239 #[.string s,.string ⟨#[c]⟩] w fun e w'=>e=.returned (.tuple #[.string (s.extract 0 k),.string (s.extract (k+1) s.size),.bool true])∧∃n,w'=w.drewN n:=by
 have HB:=Lib.hid hb;have HC:=Lib.hid hc
 clear hb hc
 go_enter Tryz.func239,Tryz.ntmps239
 go_wp2_with (go_at_call 219;refine (zzIndex_found s c k _ hs hk HC.out HB.out).mono ?_;rintro e w1 ⟨rfl,rfl⟩)
 go_quiet (fail)
 go_wp2
 go_ret3
 exact ⟨rfl,_,rfl⟩
set_option maxRecDepth 100000 in
set_option maxHeartbeats 400000 in
theorem zzCut_none (s:ByteArray) (c:UInt8) (w:World) (hs:s.size≤140737488355328) (hb:c∉s.data.toList) :
  Calls Tryz.prog 239 #[.string s,.string ⟨#[c]⟩] w fun e w'=>e=.returned (.tuple #[.string s,.string ⟨#[]⟩,.bool false])∧w=w':=by
 go_enter Tryz.func239,Tryz.ntmps239
 go_wp2_with (go_at_call 219;refine (zzIndex_none s c _ hs hb).mono ?_;rintro e w1 ⟨rfl,rfl⟩)
 go_ret3
 exact ⟨rfl,rfl⟩
theorem hdrOnly_yes (c:Int) (w:World) (h0:49≤c) (h1:c≤54):Calls Tryz.prog 124 #[.int .u8 c] w fun e w'=>e=.returned (.bool true)∧w=w':=by
 rcases (by omega:c=49∨c=50∨c=51∨c=52∨c=53∨c=54) with rfl | rfl | rfl | rfl | rfl | rfl
 all_goals
  go_enter Tryz.func124,Tryz.ntmps124
  go_wp2
  go_ret
  exact ⟨rfl,rfl⟩
theorem hdrOnly_no (c:Int) (w:World) (h:c < 49∨54 < c):Calls Tryz.prog 124 #[.int .u8 c] w fun e w'=>e=.returned (.bool false)∧w=w':=by
 have h1:(c == 49)=false:=by simp;omega
 have h2:(c == 50)=false:=by simp;omega
 have h3:(c == 51)=false:=by simp;omega
 have h4:(c == 52)=false:=by simp;omega
 have h5:(c == 53)=false:=by simp;omega
 have h6:(c == 54)=false:=by simp;omega
 go_enter Tryz.func124,Tryz.ntmps124
 go_wp2
 go_ret
 exact ⟨rfl,rfl⟩
end Go.Proofs.YtkanmkcojlefbaaGreatDoor
namespace Go.Proofs.YtkanmkcojlefbaaGreatDoor
open Go.RowKit
def fm (u p g:Bool):Int:=(if u then 2 else 0)+(if p then 4 else 0)+(if g then 8 else 0)
set_option maxHeartbeats 400000 in
theorem has_ustar (u p g:Bool) (w:World):Calls Tryz.prog 66 #[.int .i64 (fm u p g),.int .i64 2] w fun e w'=>e=.returned (.bool u)∧w=w':=by
 cases u<;>cases p<;>cases g<;>(simp only [fm];go_enter Tryz.func66,Tryz.ntmps66;go_wp2;go_ret;exact ⟨rfl,rfl⟩)
theorem has_pax (u p g:Bool) (w:World):Calls Tryz.prog 66 #[.int .i64 (fm u p g),.int .i64 4] w fun e w'=>e=.returned (.bool p)∧w=w':=by
 cases u<;>cases p<;>cases g<;>(simp only [fm];go_enter Tryz.func66,Tryz.ntmps66;go_wp2;go_ret;exact ⟨rfl,rfl⟩)
theorem has_gnu (u p g:Bool) (w:World):Calls Tryz.prog 66 #[.int .i64 (fm u p g),.int .i64 8] w fun e w'=>e=.returned (.bool g)∧w=w':=by
 cases u<;>cases p<;>cases g<;>(simp only [fm];go_enter Tryz.func66,Tryz.ntmps66;go_wp2;go_ret;exact ⟨rfl,rfl⟩)
theorem not_ustar (u p g:Bool) (b:Nat) (w:World) (hc:w.cell? ⟨b,0,none⟩=some (.int .i64 (fm u p g))) (hf:w.frozen? ⟨b,0,none⟩=false) :
  Calls Tryz.prog 95 #[.pointer (some ⟨b,0,none⟩),.int .i64 2] w fun e w'=>e=.returned (.tuple #[])∧w'=w.setCell ⟨b,0,none⟩ (.int .i64 (fm false p g)):=by
 cases u<;>cases p<;>cases g<;>(simp only [fm] at hc ⊢;go_enter Tryz.func95,Tryz.ntmps95;go_wp2;go_end0;exact ⟨rfl,rfl⟩)
theorem not_pax (u p g:Bool) (b:Nat) (w:World) (hc:w.cell? ⟨b,0,none⟩=some (.int .i64 (fm u p g))) (hf:w.frozen? ⟨b,0,none⟩=false) :
  Calls Tryz.prog 95 #[.pointer (some ⟨b,0,none⟩),.int .i64 4] w fun e w'=>e=.returned (.tuple #[])∧w'=w.setCell ⟨b,0,none⟩ (.int .i64 (fm u false g)):=by
 cases u<;>cases p<;>cases g<;>(simp only [fm] at hc ⊢;go_enter Tryz.func95,Tryz.ntmps95;go_wp2;go_end0;exact ⟨rfl,rfl⟩)
theorem not_gnu (u p g:Bool) (b:Nat) (w:World) (hc:w.cell? ⟨b,0,none⟩=some (.int .i64 (fm u p g))) (hf:w.frozen? ⟨b,0,none⟩=false) :
  Calls Tryz.prog 95 #[.pointer (some ⟨b,0,none⟩),.int .i64 8] w fun e w'=>e=.returned (.tuple #[])∧w'=w.setCell ⟨b,0,none⟩ (.int .i64 (fm u p false)):=by
 cases u<;>cases p<;>cases g<;>(simp only [fm] at hc ⊢;go_enter Tryz.func95,Tryz.ntmps95;go_wp2;go_end0;exact ⟨rfl,rfl⟩)
theorem only_any (u p g u' p' g':Bool) (b:Nat) (w:World) (hc:w.cell? ⟨b,0,none⟩=some (.int .i64 (fm u p g))) (hf:w.frozen? ⟨b,0,none⟩=false) :
  Calls Tryz.prog 123 #[.pointer (some ⟨b,0,none⟩),.int .i64 (fm u' p' g')] w fun e w'=>e=.returned (.tuple #[])∧w'=w.setCell ⟨b,0,none⟩ (.int .i64 (fm (u && u') (p && p') (g && g'))):=by
 cases u<;>cases p<;>cases g<;>cases u'<;>cases p'<;>cases g'<;>(simp only [fm] at hc ⊢;go_enter Tryz.func123,Tryz.ntmps123;go_wp2;go_end0;exact ⟨rfl,rfl⟩)
theorem may_ustar (u p g:Bool) (b:Nat) (w:World) (hc:w.cell? ⟨b,0,none⟩=some (.int .i64 (fm u p g))) (hf:w.frozen? ⟨b,0,none⟩=false) :
  Calls Tryz.prog 127 #[.pointer (some ⟨b,0,none⟩),.int .i64 2] w fun e w'=>e=.returned (.tuple #[])∧w'=w.setCell ⟨b,0,none⟩ (.int .i64 (fm true p g)):=by
 cases u<;>cases p<;>cases g<;>(simp only [fm] at hc ⊢;go_enter Tryz.func127,Tryz.ntmps127;go_wp2;go_end0;exact ⟨rfl,rfl⟩)
theorem octal7_yes (x:Int) (w:World) (h0:0≤x) (h1:x < 262144):Calls Tryz.prog 100 #[.int .i64 7,.int .i64 x] w fun e w'=>e=.returned (.bool true)∧w=w':=by
 go_enter Tryz.func100,Tryz.ntmps100
 go_wp2
 go_ret
 exact ⟨rfl,rfl⟩
theorem octal8_yes (x:Int) (w:World) (h0:0≤x) (h1:x < 2097152):Calls Tryz.prog 100 #[.int .i64 8,.int .i64 x] w fun e w'=>e=.returned (.bool true)∧w=w':=by
 go_enter Tryz.func100,Tryz.ntmps100
 go_wp2
 go_ret
 exact ⟨rfl,rfl⟩
theorem octal8_neg (x:Int) (w:World) (h0:x < 0):Calls Tryz.prog 100 #[.int .i64 8,.int .i64 x] w fun e w'=>e=.returned (.bool false)∧w=w':=by
 go_enter Tryz.func100,Tryz.ntmps100
 go_wp2
 go_ret
 exact ⟨rfl,rfl⟩
theorem octal8_big (x:Int) (w:World) (h0:0≤x) (h1:2097152≤x):Calls Tryz.prog 100 #[.int .i64 8,.int .i64 x] w fun e w'=>e=.returned (.bool false)∧w=w':=by
 go_enter Tryz.func100,Tryz.ntmps100
 go_wp2
 go_ret
 refine ⟨?_,rfl⟩;simp;omega
theorem octal12_yes (x:Int) (w:World) (h0:0≤x) (h1:x < 8589934592):Calls Tryz.prog 100 #[.int .i64 12,.int .i64 x] w fun e w'=>e=.returned (.bool true)∧w=w':=by
 go_enter Tryz.func100,Tryz.ntmps100
 go_wp2
 go_ret
 exact ⟨rfl,rfl⟩
theorem octal12_neg (x:Int) (w:World) (h0:x < 0):Calls Tryz.prog 100 #[.int .i64 12,.int .i64 x] w fun e w'=>e=.returned (.bool false)∧w=w':=by
 go_enter Tryz.func100,Tryz.ntmps100
 go_wp2
 go_ret
 exact ⟨rfl,rfl⟩
theorem octal12_big (x:Int) (w:World) (h0:0≤x) (h1:8589934592≤x):Calls Tryz.prog 100 #[.int .i64 12,.int .i64 x] w fun e w'=>e=.returned (.bool false)∧w=w':=by
 go_enter Tryz.func100,Tryz.ntmps100
 go_wp2
 go_ret
 refine ⟨?_,rfl⟩;simp;omega
theorem b256_8_yes (x:Int) (w:World) (h0 : -72057594037927936≤x) (h1:x < 72057594037927936):Calls Tryz.prog 99 #[.int .i64 8,.int .i64 x] w fun e w'=>e=.returned (.bool true)∧w=w':=by
 go_enter Tryz.func99,Tryz.ntmps99
 go_wp2
 go_ret
 exact ⟨rfl,rfl⟩
theorem b256_8_low (x:Int) (w:World) (h0:x < -72057594037927936):Calls Tryz.prog 99 #[.int .i64 8,.int .i64 x] w fun e w'=>e=.returned (.bool false)∧w=w':=by
 go_enter Tryz.func99,Tryz.ntmps99
 go_wp2
 go_ret
 exact ⟨rfl,rfl⟩
theorem b256_8_big (x:Int) (w:World) (h0 : -72057594037927936≤x) (h1:72057594037927936≤x):Calls Tryz.prog 99 #[.int .i64 8,.int .i64 x] w fun e w'=>e=.returned (.bool false)∧w=w':=by
 go_enter Tryz.func99,Tryz.ntmps99
 go_wp2
 go_ret
 refine ⟨?_,rfl⟩;simp;omega
theorem b256_12 (x:Int) (w:World):Calls Tryz.prog 99 #[.int .i64 12,.int .i64 x] w fun e w'=>e=.returned (.bool true)∧w=w':=by
 go_enter Tryz.func99,Tryz.ntmps99
 go_wp2
 go_ret
 exact ⟨rfl,rfl⟩
def padOf (n:Nat):Nat:=(512 - n % 512) % 512
theorem bits_pad (n:Nat):bits .and .i64 (-(n:Int)) 511=(padOf n:Int):=by
 have h1:(BitVec.ofInt 64 (-(n:Int)) &&& BitVec.ofInt 64 511).toNat=padOf n:=by
  rw [BitVec.toNat_and]
  have:(BitVec.ofInt 64 511).toNat=2 ^ 9 - 1:=by decide
  rw [this,Nat.and_two_pow_sub_one_eq_mod,BitVec.toNat_ofInt]
  unfold padOf
  omega
 show IntKind.wrap .i64 ((BitVec.ofInt 64 (-(n:Int)) &&& BitVec.ofInt 64 511).toNat:Int)=_
 rw [h1]
 have:padOf n < 512:=by unfold padOf;omega
 have hb:IntKind.i64.bits=64:=rfl
 simp only [IntKind.wrap,hb]
 simp
 omega
theorem padding_any (n:Nat) (w:World) (hn:n≤9223372036854775807):Calls Tryz.prog 186 #[.int .i64 n] w fun e w'=>e=.returned (.int .i64 (padOf n))∧w=w':=by
 go_enter Tryz.func186,Tryz.ntmps186
 go_wp2
 go_ret
 refine ⟨?_,rfl⟩
 rw [←bits_pad]
 rfl
set_option maxRecDepth 100000 in
set_option maxHeartbeats 800000 in
theorem zzTrim_any (s:ByteArray) (c:UInt8) (n:Nat) (w:World) (hs:s.size≤140737488355328) (hn:n≤s.size) (h1:∀j (h:j < s.size),n≤j→s[j]=c) (h2:∀h:0 < n,s[n - 1]'(by omega)≠c) :
  Calls Tryz.prog 170 #[.string s,.string ⟨#[c]⟩] w fun e w'=>e=.returned (.string (s.extract 0 n))∧∃k,w'=w.drewN k:=by
 have H1:=Lib.hid h1;have H2:=Lib.hid h2
 clear h1 h2
 go_enter Tryz.func170,Tryz.ntmps170
 go_wp2
 go_loopw [5,6,7] (fun i _ _ w'=>∃j:Nat,n≤j∧j≤s.size∧i=.int .i64 j∧∃k,w'=w.drewN k) (fun i _ _ _=>(intOf i).toNat)
 case atStart=>exact ⟨s.size,hn,Nat.le_refl _,rfl,0,rfl⟩
 case round=>
  obtain ⟨j,hj,hjs,rfl,k,rfl⟩:=hrel
  by_cases h0:j=0
  ·go_wp2
   go_ret
   have:n=0:=by omega
   exact ⟨by rw [this];simp,k,rfl⟩
  ·have hx:j - 1 < s.size:=by omega
   have hjj:((j:Int) - 1)=((j - 1:Nat):Int):=by omega
   by_cases hjn:n < j
   ·have hc:s[j - 1]=c:=H1.out _ hx (by omega)
    have ht:((((⟨#[c]⟩:ByteArray)[0]'(Nat.zero_lt_one)).toNat:Int) == ((s[j - 1]).toNat:Int))=true:=by rw [hc];exact beq_self_eq_true _
    clear hc
    go_wp2
    refine wp_loop_rounds 2 ?_
    rw [rounds_succ]
    go_wp2
    go_quiet (fail)
    go_wp2
    rw [rounds_succ]
    go_wp2
    go_round
    case rel=>exact ⟨j - 1,by omega,by omega,by go_num,_,rfl⟩
    case measure=>simp [intOf];omega
   ·obtain rfl:n=j:=by omega
    have hc:c≠s[n - 1]:=(H2.out (by omega)).symm
    have ht:((((⟨#[c]⟩:ByteArray)[0]'(Nat.zero_lt_one)).toNat:Int) == ((s[n - 1]).toNat:Int))=false:=by
     simp only [beq_eq_false_iff_ne,ne_eq]
     intro e
     have e':(c.toNat:Int)=(s[n - 1].toNat:Int):=e
     exact hc (UInt8.toNat_inj.1 (by omega))
    clear hc
    go_wp2
    refine wp_loop_rounds 2 ?_
    rw [rounds_succ]
    go_wp2
    go_quiet (fail)
    go_wp2
    rw [rounds_succ]
    go_wp2
    go_ret
    exact ⟨rfl,_,rfl⟩
end Go.Proofs.YtkanmkcojlefbaaGreatDoor
namespace Go.Proofs.YtkanmkcojlefbaaGreatDoor
open Go.RowKit
def octs (n:Nat):List UInt8:=if h:n < 8 then [UInt8.ofNat (48+n)] else octs (n / 8)++ [UInt8.ofNat (48+n % 8)]
termination_by n
decreasing_by omega
theorem octs_small {n:Nat} (h:n < 8):octs n= [UInt8.ofNat (48+n)]:=by rw [octs];simp [h]
theorem octs_big {n:Nat} (h:8≤n):octs n=octs (n / 8)++ [UInt8.ofNat (48+n % 8)]:=by rw [octs];simp [show ¬n < 8 by omega]
theorem octs_length (k:Nat):∀n,n < 8 ^ k→0 < k→(octs n).length≤k:=by
 induction k with
 | zero=>intro n h h0;omega
 | succ k ih=>
  intro n h h0
  by_cases h8:n < 8
  ·rw [octs_small h8];simp
  ·rw [octs_big (by omega)]
   have hk:0 < k:=by
    rcases Nat.eq_zero_or_pos k with rfl | h'
    ·simp at h;omega
    ·exact h'
   have:=ih (n / 8) (by rw [Nat.pow_succ] at h;omega) hk
   simp;omega
theorem zero336:Tryz.zeroCells336=(List.replicate 65 (Value.int .u8 0)++bvs []).toArray:=by kernel_rfl
theorem u64_and7 (m:Nat) (hm:m < 9223372036854775808):bits .and .u64 (m:Int) 7=((m % 8:Nat):Int):=by
 have h1:(BitVec.ofInt 64 (m:Int) &&& BitVec.ofInt 64 7).toNat=m % 8:=by
  rw [BitVec.toNat_and]
  have:(BitVec.ofInt 64 7).toNat=2 ^ 3 - 1:=by decide
  rw [this,Nat.and_two_pow_sub_one_eq_mod,BitVec.toNat_ofInt]
  omega
 show IntKind.wrap .u64 ((BitVec.ofInt 64 (m:Int) &&& BitVec.ofInt 64 7).toNat:Int)=_
 rw [h1]
 have hb:IntKind.u64.bits=64:=rfl
 simp only [IntKind.wrap,hb]
 simp
 omega
theorem heap_alloc_new (w:World) (o:Obj):(w.alloc o).heap[w.heap.size]? =some o:=by rw [World.alloc];simp
theorem set_rep (k:Nat) (rest:List UInt8) (d:UInt8) (v:Value) (hv:v=bv d) :
  ((List.replicate (k+1) (Value.int .u8 0)++bvs rest).toArray.setIfInBounds k v)=(List.replicate k (Value.int .u8 0)++bvs (d::rest)).toArray:=by
 subst hv
 apply Array.ext'
 rw [Array.toList_setIfInBounds]
 simp only [List.replicate_succ',List.append_assoc]
 rw [List.set_append]
 simp [bvs]
theorem dig8:∀k (h:k < 8),(⟨#[48,49,50,51,52,53,54,55,56,57,97,98,99,100,101,102,103,104,105,106,107,108,109,110,111,112,113,114,115,116,117,118,119,120,121,122]⟩:ByteArray)[k]'(by show k < 36;omega)=UInt8.ofNat (48+k):=by decide
theorem conv_row {w:World} {g off len cap:Nat} {cs:Array Value} {t:TypeId} (l:List UInt8) (hg:w.heap[g]? =some (.cells cs t (0,0))) (hl:l.length=len) (hc:∀j,j < len→cs[off+j]? =(bvs l)[j]?) :
  (convert 35 9 (.slice (some ⟨g,off,none⟩) len cap)).run Tryz.prog w=.ok (.string ⟨l.toArray⟩) w:=by
 subst hl
 refine run_convert_bytes_back w 35 9 5 _ cap l Tryz.underlying35 Tryz.underlying5 Tryz.underlying9 (fun j hj=> ?_)
 rw [add_addr,cell_heap hg,hc j hj,bvs_get,List.getElem?_eq_getElem hj]
 rfl
theorem pow2_8 (w:World):Calls Tryz.prog 260 #[.int .i64 8] w fun e w'=>e=.returned (.bool true)∧w=w':=by
 go_enter Tryz.func260,Tryz.ntmps260
 go_wp2
 go_ret
 exact ⟨rfl,rfl⟩
theorem tz64_8 (w:World) (h:w.cell? ⟨15,7,none⟩=some (.int .u8 3)):Calls Tryz.prog 289 #[.int .u64 8] w fun e w'=>e=.returned (.int .i64 3)∧w=w':=by
 have h':w.cell? ⟨15,(IntKind.u64.wrap (bits BinOp.and IntKind.u64 8 (IntKind.u64.wrap (-8))*285870213051353865) / 288230376151711744).toNat,none⟩=some (.int .u8 3):=h
 clear h
 go_enter Tryz.func289,Tryz.ntmps289
 go_wp2
 go_ret
 exact ⟨rfl,rfl⟩
theorem tz_8 (w:World) (h:w.cell? ⟨15,7,none⟩=some (.int .u8 3)):Calls Tryz.prog 261 #[.int .u64 8] w fun e w'=>e=.returned (.int .i64 3)∧w=w':=by
 have H:=Lib.hid h
 clear h
 go_enter Tryz.func261,Tryz.ntmps261
 go_wp2_with (go_at_call 289;refine (tz64_8 _ H.out).mono ?_;rintro e w1 ⟨rfl,rfl⟩)
 go_ret
 exact ⟨rfl,rfl⟩
set_option maxRecDepth 100000 in
set_option maxHeartbeats 1000000 in
theorem formatBits_8 (n:Nat) (w:World) (hn:n < 9223372036854775808) (h:w.cell? ⟨15,7,none⟩=some (.int .u8 3)) :
  Calls Tryz.prog 224 #[.slice none 0 0,.int .u64 n,.int .i64 8,.bool false,.bool false] w fun e w'=>e=.returned (.tuple #[.slice none 0 0,.string ⟨(octs n).toArray⟩])∧Chg [] w w':=by
 have H:=Lib.hid h
 clear h
 go_enter Tryz.func224,Tryz.ntmps224
 go_wp2_with (first | (go_at_call 260;refine (pow2_8 _).mono ?_;rintro e w1 ⟨rfl,rfl⟩) | (go_at_call 261;refine (tz_8 _ (((Chg.refl [] w).alloc _).cell H.out (by simp))).mono ?_;rintro e w1 ⟨rfl,rfl⟩))
 have hz:(w.alloc (Obj.cells Tryz.zeroCells336 336)).heap[w.heap.size]? =some (.cells (List.replicate 65 (Value.int .u8 0)++bvs []).toArray 336 (0,0)):=by
  rw [zero336];exact heap_alloc_new _ _
 have HZ:=Lib.hid hz
 clear hz
 go_loopw [1,13] (fun u i w'=>∃(m k:Nat) (rest:List UInt8),u=.int .u64 m∧i=.int .i64 ((k:Int)+1)∧k+rest.length=64∧m < 9223372036854775808∧octs n=octs m++rest∧w'.heap[w.heap.size]? =some (.cells (List.replicate (k+1) (Value.int .u8 0)++bvs rest).toArray 336 (0,0))∧Chg [] w w') (fun u _ _=>(intOf u).toNat)
 case atStart=>exact ⟨n,64,[],rfl,rfl,rfl,hn,by simp,HZ.out,(Chg.refl _ w).alloc _⟩
 case round=>
  obtain ⟨m,k,rest,rfl,rfl,hk,hm,ho,hg,hch⟩:=hrel
  have hl:44≤k:=by
   have h1:=octs_length 21 n (by omega) (by omega)
   have h2:0 < (octs m).length:=by
    by_cases h8:m < 8
    ·rw [octs_small h8];simp
    ·rw [octs_big (by omega)];simp
   rw [ho,List.length_append] at h1
   omega
  have hk64:k≤64:=by omega
  have HO:=Lib.hid ho;have HG:=Lib.hid hg;have HC:=Lib.hid hch;have HK:=Lib.hid hk
  clear ho hg hch hk
  have cd:wr.cell? ⟨w.heap.size,k,none⟩=some (.int .u8 0):=by
   rw [cell_heap HG.out,List.getElem?_toArray,List.getElem?_append_left (by simp),List.getElem?_replicate,if_pos (by omega)]
  have fd:wr.frozen? ⟨w.heap.size,k,none⟩=false:=frozen_heap HG.out _
  by_cases h8:8≤m
  ·have e7:=u64_and7 m hm
   obtain ⟨k,rfl⟩:∃j,k=j+1:=⟨k - 1,by omega⟩
   go_wp2
   refine ⟨⟨m / 8,k,UInt8.ofNat (48+m % 8)::rest,by go_num,by go_num,by simp;have:=HK.out;omega,by omega,?_,?_,HC.out.setCell (.inr (Nat.le_refl _)) _⟩,by simp [intOf];omega⟩
   ·rw [HO.out,octs_big h8];simp
   ·rw [heap_setCell_at HG.out,set_rep (k+1) rest (UInt8.ofNat (48+m % 8)) _ (by rw [dig8 _ (Nat.mod_lt _ (by decide))])]
  ·have hk65:(k:Int)≤65:=by omega
   have hk':(65:Nat)≠k:=by omega
   go_wp2
   rw [conv_row (octs n) (heap_setCell_at HG.out k _) (by rw [HO.out,octs_small (by omega)];have:=HK.out;simp;omega) (by
    intro j hj
    rw [set_rep k rest (UInt8.ofNat (48+m)) _ (by rw [dig8 _ (by omega)]),HO.out,octs_small (by omega),List.getElem?_toArray,List.getElem?_append_right (by simp)]
    simp)]
   go_wp2
   go_ret2
   exact ⟨rfl,HC.out.setCell (.inr (Nat.le_refl _)) _⟩
theorem formatInt_8i (n:Nat) (w:World) (hn:n < 9223372036854775808) (h:w.cell? ⟨15,7,none⟩=some (.int .u8 3)) :
  Calls Tryz.prog 168 #[.int .i64 n,.int .i64 8] w fun e w'=>e=.returned (.string ⟨(octs n).toArray⟩)∧Chg [] w w':=by
 have H:=Lib.hid h
 clear h
 go_enter Tryz.func168,Tryz.ntmps168
 go_wp2_with (go_at_call 224;refine (formatBits_8 n _ hn H.out).mono ?_;rintro e w1 ⟨rfl,hc⟩)
 go_ret
 exact ⟨rfl,hc⟩
theorem formatInt_8 (n:Nat) (w:World) (hn:n < 9223372036854775808) (h:w.cell? ⟨15,7,none⟩=some (.int .u8 3)) :
  Calls Tryz.prog 101 #[.int .i64 n,.int .i64 8] w fun e w'=>e=.returned (.string ⟨(octs n).toArray⟩)∧Chg [] w w':=by
 have H:=Lib.hid h
 clear h
 go_enter Tryz.func101,Tryz.ntmps101
 go_wp2_with (go_at_call 168;refine (formatInt_8i n _ hn H.out).mono ?_;rintro e w1 ⟨rfl,hc⟩)
 go_ret
 exact ⟨rfl,hc⟩
end Go.Proofs.YtkanmkcojlefbaaGreatDoor
namespace Go.Proofs.YtkanmkcojlefbaaGreatDoor
open Go.RowKit
def OctDig (l:List UInt8):Prop:=∀c∈l,48≤c.toNat∧c.toNat≤55
def octVal (a:Nat) (l:List UInt8):Nat:=l.foldl (fun a c=>a*8+(c.toNat - 48)) a
theorem octVal_append (a:Nat) (l m:List UInt8):octVal a (l++m)=octVal (octVal a l) m:=by simp [octVal,List.foldl_append]
theorem octVal_cons (a:Nat) (c:UInt8) (l:List UInt8):octVal a (c::l)=octVal (a*8+(c.toNat - 48)) l:=by simp only [octVal,List.foldl_cons]
theorem octVal_nil (a:Nat):octVal a []=a:=rfl
theorem octVal_mono:∀(l:List UInt8) (a:Nat),a≤octVal a l
 | [],a=>Nat.le_refl _
 | c::r,a=>by
  rw [octVal_cons]
  exact Nat.le_trans (by omega) (octVal_mono r _)
theorem octVal_take {l:List UInt8} {k:Nat} (h:k < l.length):octVal 0 (l.take (k+1))=octVal 0 (l.take k)*8+((l[k]).toNat - 48):=by
 rw [List.take_succ_eq_append_getElem h,octVal_append,octVal_cons,octVal_nil]
theorem octVal_take_le (l:List UInt8) (k:Nat):octVal 0 (l.take k)≤octVal 0 l:=by
 conv=>rhs;rw [←List.take_append_drop k l,octVal_append]
 exact octVal_mono _ _
theorem bytesWorld_chg (w:World) (e:TypeId) (s:ByteArray):Chg [] w (Lib.bytesWorld w e s):=
 ⟨rfl,rfl,rfl,by rw [Lib.bytesWorld_size];omega,fun k hk _=>Lib.bytesWorld_at_old w e s k hk⟩
set_option maxRecDepth 100000 in
set_option maxHeartbeats 2000000 in
theorem pu8 (s:ByteArray) (w:World) (hs:s.size≤1000) (h0:0 < s.size) (hd:OctDig s.data.toList) (hv:octVal 0 s.data.toList < 1099511627776) :
  Calls Tryz.prog 278 #[.string s,.int .i64 8,.int .i64 64] w fun e w'=>e=.returned (.tuple #[.int .u64 (octVal 0 s.data.toList),.nilIface])∧Chg [] w w':=by
 have hcv:=Lib.run_convert_string_bytes (P:=Tryz.prog) w 9 35 5 s (u:=.string) Tryz.underlying9 Tryz.underlying35 Tryz.underlying5
 have hch:=bytesWorld_chg w 5 s
 have hcell:=Lib.bytesWorld_cell w 5 s
 have he:s.toList.isEmpty=false:=by
  have hl:s.toList.length=s.size:=by rw [Lib.toList_data];simp
  cases hx:s.toList with
  | nil=>rw [hx] at hl;simp at hl;omega
  | cons _ _=>rfl
 generalize Lib.bytesWorld w 5 s=W1 at hcv hch hcell
 have HD:=Lib.hid hd;have HC:=Lib.hid hch;have HL:=Lib.hid hcell;have HV:=Lib.hid hv
 clear hd hch hcell hv
 go_enter Tryz.func278,Tryz.ntmps278
 go_wp2
 generalize hC:(2305843009213693952:Int)=C
 generalize hM:IntKind.u64.wrap (IntKind.u64.wrap 18446744073709551616 - 1)=M
 have hC1:1099511627776≤C:=by omega
 have hM1:8796093022208≤M:=by rw [←hM];decide
 clear hC hM
 go_loopw [12,13,15,16,17,101] (fun u n _ _ _ i w'=>∃k:Nat,k≤s.size∧u=.bool false∧n=.int .u64 (octVal 0 (s.data.toList.take k))∧i=.int .i64 k∧w'=W1) (fun _ _ _ _ _ i _=>s.size - (intOf i).toNat)
 case atStart=>exact ⟨0,Nat.zero_le _,rfl,rfl,rfl,rfl⟩
 case round=>
  obtain ⟨k,hk,rfl,rfl,rfl,rfl⟩:=hrel
  by_cases hlt:k < s.size
  ·have hll:k < s.data.toList.length:=by simpa using hlt
   have hcd:wr.cell? ⟨w.heap.size,k,none⟩=some (.int .u8 (s.data.toList[k]).toNat):=by
    have:=HL.out k hlt
    rw [List.getD_eq_getElem?_getD,List.getElem?_eq_getElem hll] at this
    exact this
   have hb:=HD.out (s.data.toList[k]) (List.getElem_mem hll)
   have ht:=octVal_take hll
   have hle:=octVal_take_le s.data.toList k
   have hle1:=octVal_take_le s.data.toList (k+1)
   have hv:=HV.out
   have hn8:octVal 0 (s.data.toList.take k)*8 < 1099511627776:=by omega
   have HT:=Lib.hid ht
   clear ht hle hle1 hv
   generalize s.data.toList[k]=c at hcd hb HT
   generalize octVal 0 (s.data.toList.take k)=n at hn8 HT
   obtain ⟨hb1,hb2⟩:=hb
   go_wp2
   refine ⟨⟨k+1,by omega,rfl,?_,by go_num,trivial⟩,by simp [intOf];omega⟩
   rw [HT.out]
   push_cast
   congr 2
   omega
  ·obtain rfl:k=s.size:=by omega
   go_wp2
   go_ret2
   have e:s.data.toList.take s.size=s.data.toList:=List.take_of_length_le (by simp)
   rw [e]
   exact ⟨rfl,HC.out⟩
end Go.Proofs.YtkanmkcojlefbaaGreatDoor
