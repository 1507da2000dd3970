/-
  The fields of a header block: formatString, formatOctal, formatNumeric into a block of bytes · formatNumeric: octal, or base 256 · contracts of the library's functions, written by the kit's lay-shelf and lay-plain · The parser of a header's fields: parseString, parseOctal, parseNumeric · Maps from strings to strings that the program makes: what they hold as a function; look-ups, stores, lengths, ranges.
-/
import Derived.Test.YtkanmkcojlefbaaGreatDoorJ03
import Derived.Test.YtkanmkcojlefbaaGreatDoorJ02
import Derived.Lib.BufferWrite
import Derived.Shelf.SlGeneric
import Derived.Shelf.SlIter.Nil
import Derived.Shelf.SortM.Plain
import Derived.Shelf.SortM.SortNone
import Derived.Ground.GgzProg
import Derived.Ground.SlgmProg
import Derived.Ground.SlbvProg
import Derived.Shelf.Bytes.SlTrim
import Derived.Test.YtkanmkcojlefbaaGreatDoorProg
import Derived.Lib.IndexLaws
import Derived.Test.YtkanmkcojlefbaaGreatDoorJ00
import Derived.Maps.OwnSet
import Derived.Maps.RangeWalk
import Derived.Maps.StringElems
set_option linter.unusedVariables false
namespace Go.Proofs.YtkanmkcojlefbaaGreatDoor
open Go.RowKit
def BlkIn (t:Nat) (T:TypeId) (pre:List Value) (L:List UInt8) (post:List Value) (w:World):Prop:=
 w.heap[t]? =some (.cells (pre++bvs L++post).toArray T (0,0))
theorem BlkIn.chg {t:Nat} {T:TypeId} {pre post:List Value} {L:List UInt8} {S:List Nat} {w w':World} (h:BlkIn t T pre L post w) (k:Chg S w w') (hn:t∉S):BlkIn t T pre L post w':=k.heap h hn
theorem BlkIn.cell {t:Nat} {T:TypeId} {pre post:List Value} {L:List UInt8} {w:World} (h:BlkIn t T pre L post w) (k i:Nat) (hk:pre.length=k) (hi:i < L.length):w.cell? ⟨t,k+i,none⟩=(L[i]?).map bv:=by
 subst hk
 rw [cell_heap h,List.getElem?_toArray,List.append_assoc,List.getElem?_append_right (by omega),Nat.add_sub_cancel_left,List.getElem?_append_left (by simpa using hi),bvs_get]
theorem BlkIn.frozen {t:Nat} {T:TypeId} {pre post:List Value} {L:List UInt8} {w:World} (h:BlkIn t T pre L post w) (i:Nat):w.frozen? ⟨t,i,none⟩=false:=frozen_heap h i
theorem splice_length {α:Type} (L:List α) (o:Nat) (bs:List α) (h:o+bs.length≤L.length):(splice L o bs).length=L.length:=by
 unfold splice;simp;omega
theorem bvs_splice (L:List UInt8) (o:Nat) (bs:List UInt8):bvs (splice L o bs)=splice (bvs L) o (bvs bs):=by
 unfold splice;simp [bvs,List.map_take,List.map_drop]
theorem splice_mid {α:Type} (pre X post:List α) (k o:Nat) (cs:List α) (hk:pre.length=k) (h:o+cs.length≤X.length):splice (pre++X++post) (k+o) cs=pre++splice X o cs++post:=by
 subst hk
 unfold splice
 rw [List.append_assoc,List.take_append,List.take_of_length_le (by omega),Nat.add_sub_cancel_left,List.take_append_of_le_length (by omega)]
 rw [Nat.add_assoc,List.drop_append,List.drop_of_length_le (by omega),List.nil_append,Nat.add_sub_cancel_left,List.drop_append_of_le_length (by omega)]
 simp [List.append_assoc]
theorem BlkIn.put {t:Nat} {T:TypeId} {pre post:List Value} {L:List UInt8} {w:World} (h:BlkIn t T pre L post w) (k o:Nat) (bs:List UInt8) (hk:pre.length=k) (ho:o+bs.length≤L.length) :
  BlkIn t T pre (splice L o bs) post (w.setRow t (splice (pre++bvs L++post) (k+o) (bvs bs)).toArray):=by
 unfold BlkIn at h⊢
 rw [splice_mid _ _ _ k o _ hk (by simpa using ho),←bvs_splice]
 have hlt:=(Array.getElem?_eq_some_iff.1 h).1
 simp [World.setRow,Array.getElem?_modify,h]
theorem splice_set {α:Type} (L:List α) (o:Nat) (bs:List α) (i:Nat) (v:α) (hi:i < bs.length) (ho:o+bs.length≤L.length):(splice L o bs).set (o+i) v=splice L o (bs.set i v):=by
 apply List.ext_getElem?
 intro j
 rw [List.getElem?_set,splice_get _ _ _ ho,splice_get _ _ _ (by simpa using ho),splice_length _ _ _ ho,List.length_set,List.getElem?_set]
 by_cases h1:o≤j∧j < o+bs.length
 ·rw [if_pos h1,if_pos h1]
  by_cases h2:o+i=j
  ·rw [if_pos h2,if_pos (by omega),if_pos (by omega),if_pos hi]
  ·rw [if_neg h2,if_neg (by omega)]
 ·rw [if_neg h1,if_neg h1,if_neg (by omega)]
theorem set_mid {α:Type} (pre X post:List α) (k i:Nat) (v:α) (hk:pre.length=k) (hi:i < X.length):(pre++X++post).set (k+i) v=pre++X.set i v++post:=by
 subst hk
 rw [List.append_assoc,List.set_append,if_neg (by omega),Nat.add_sub_cancel_left,List.set_append,if_pos hi,List.append_assoc]
theorem BlkIn.set {t:Nat} {T:TypeId} {pre post:List Value} {L:List UInt8} {w:World} (h:BlkIn t T pre L post w) (k i:Nat) (c:UInt8) (hk:pre.length=k) (hi:i < L.length) :
  BlkIn t T pre (L.set i c) post (w.setCell ⟨t,k+i,none⟩ (bv c)):=by
 unfold BlkIn
 rw [heap_setCell_at h]
 have:(pre++bvs L++post).toArray.setIfInBounds (k+i) (bv c)=(pre++bvs (L.set i c)++post).toArray:=by
  apply Array.ext'
  rw [Array.toList_setIfInBounds]
  show (pre++bvs L++post).set (k+i) (bv c)=_
  rw [set_mid _ _ _ k i _ hk (by simpa using hi)]
  simp [bvs,List.map_set]
 rw [this]
theorem copy_str (w:World) (ty:TypeId) (g o dLen dCap:Nat) (s:ByteArray) (cur:Array Value) (t:TypeId) (hg:w.heap[g]? =some (.cells cur t (0,0))) (hfit:o+min s.size dLen≤cur.size) :
  (Builtin.copy_ #[35,9] ty #[.slice (some ⟨g,o,none⟩) dLen dCap,.string s]).run Tryz.prog w=
   .ok (goInt (min s.size dLen)) (w.setRow g (splice cur.toList o (bvs (s.data.toList.take dLen))).toArray):=by
 have hl:(bvs (s.data.toList.take dLen)).length=min s.size dLen:=by simp [Nat.min_comm]
 have hst:=run_storeCells_at Tryz.prog g o t (bvs (s.data.toList.take dLen)) 0 cur w hg (by rw [hl];simpa using hfit) (bvs_one _)
 have hmin:Nat.min s.size dLen=min s.size dLen:=rfl
 have htk:List.take (Nat.min s.size dLen) (List.map (fun b:UInt8=>Value.int IntKind.u8 (b.toNat:Int)) s.data.toList)=bvs (s.data.toList.take dLen):=by
  rw [←List.map_take]
  show List.map _ _=List.map _ _
  congr 1
  by_cases h:s.size≤dLen
  ·rw [show Nat.min s.size dLen=s.size from Nat.min_eq_left h,List.take_of_length_le (by simp),List.take_of_length_le (by simpa using h)]
  ·rw [show Nat.min s.size dLen=dLen from Nat.min_eq_right (by omega)]
 rw [hl] at hst
 simp only [Nat.add_zero] at hst
 cases hq:Tryz.prog.info? 5 with
 | none=>have:=s5;simp [hq] at this
 | some i=>
  have hi:i.size=1:=by have:=s5;simpa [hq] using this
  simp [Builtin.copy_,run_underlying u35,Builtin.lenOf,Builtin.firstCells,sizeOf,typeInfo,hq]
  rw [htk,hst]
  simp only [Result.andThen,splice,hl,hmin]
  have hm:((min s.size dLen:Nat):Int)=min (s.size:Int) (dLen:Int):=by omega
  rw [hm]
  simp
def txt (n:Nat) (s:ByteArray):List UInt8:=s.data.toList++List.replicate (n - s.size) 0
theorem txt_length {n:Nat} {s:ByteArray} (h:s.size≤n):(txt n s).length=n:=by simp [txt];omega
theorem txt_get (n:Nat) (s:ByteArray) (i:Nat) (h:s.size≤n) (hi:i < n):(txt n s)[i]? =if i < s.size then s.data.toList[i]? else some 0:=by
 unfold txt
 by_cases h1:i < s.size
 ·rw [if_pos h1,List.getElem?_append_left (by simpa using h1)]
 ·rw [if_neg h1,List.getElem?_append_right (by simp;omega),List.getElem?_replicate,if_pos (by simp;omega)]
theorem txt_zero (L:List UInt8) (o n:Nat) (s:ByteArray) (hs:s.size≤n) (ho:o+n≤L.length) (hz:∀i,o≤i→i < o+n→L[i]? =some 0):splice L o (s.data.toList)=splice L o (txt n s):=by
 apply List.ext_getElem?
 intro j
 have hsl:s.data.toList.length=s.size:=by simp
 rw [splice_get _ _ _ (by rw [hsl];omega),splice_get _ _ _ (by rw [txt_length hs];omega),txt_length hs,hsl]
 by_cases h1:o≤j∧j < o+n
 ·rw [if_pos h1,txt_get n s _ hs (by omega)]
  by_cases h2:j < o+s.size
  ·rw [if_pos ⟨h1.1,h2⟩,if_pos (by omega)]
  ·rw [if_neg (by omega),if_neg (by omega),hz j h1.1 h1.2]
 ·rw [if_neg h1,if_neg (by omega)]
theorem txt_set (L:List UInt8) (o n:Nat) (s:ByteArray) (hs:s.size < n) (ho:o+n≤L.length) (hz:∀i,o≤i→i < o+n→L[i]? =some 0):(splice L o (s.data.toList)).set (o+s.size) 0=splice L o (txt n s):=by
 rw [txt_zero L o n s (by omega) ho hz,splice_set _ _ _ _ _ (by rw [txt_length (by omega)];omega) (by rw [txt_length (by omega)];omega)]
 congr 1
 apply List.ext_getElem?
 intro j
 rw [List.getElem?_set,txt_length (by omega)]
 by_cases h:s.size=j
 ·rw [if_pos h,if_pos hs,txt_get n s j (by omega) (by omega),if_neg (by omega)]
 ·rw [if_neg h]
set_option maxRecDepth 100000 in
set_option maxHeartbeats 1000000 in
theorem fmtStr_fits (pf:Value) (t:Nat) (T:TypeId) (pre post:List Value) (L:List UInt8) (k o n cap:Nat) (s:ByteArray) (w:World) (h:BlkIn t T pre L post w) (hk:pre.length=k) (ho:o+n≤L.length)
  (hz:∀i,o≤i→i < o+n→L[i]? =some 0) (hs:s.size≤n) (hn:n≤1000) :
  Calls Tryz.prog 129 #[pf,.slice (some ⟨t,k+o,none⟩) n cap,.string s] w fun e w'=>e=.returned (.tuple #[])∧BlkIn t T pre (splice L o (txt n s)) post w'∧Chg [t] w w':=by
 have hcp:=copy_str w 3 t (k+o) n cap s _ T h (by simp;omega)
 have h1:=h.put k o (s.data.toList.take n) hk (by simp;omega)
 have hc1:Chg [t] w (w.setRow t (splice (pre++bvs L++post) (k+o) (bvs (s.data.toList.take n))).toArray):=(Chg.refl [t] w).setRow (.inl (by simp)) _
 have htk:s.data.toList.take n=s.data.toList:=List.take_of_length_le (by simpa using hs)
 rw [htk] at h1 hc1
 rw [htk] at hcp
 generalize w.setRow t (splice (pre++bvs L++post) (k+o) (bvs (s.data.toList))).toArray=w1 at h1 hc1 hcp
 have HZ:=Lib.hid hz;have H1:=Lib.hid h1;have HC:=Lib.hid hc1
 clear h hz h1 hc1 htk
 by_cases hlt:s.size < n
 ·have cd:w1.cell? ⟨t,k+o+s.size,none⟩=((splice L o s.data.toList)[o+s.size]?).map bv:=by rw [Nat.add_assoc];exact H1.out.cell k (o+s.size) hk (by rw [splice_length _ _ _ (by simp;omega)];omega)
  obtain ⟨c,hc⟩:∃c,(splice L o s.data.toList)[o+s.size]? =some c:=⟨_,List.getElem?_eq_getElem (by rw [splice_length _ _ _ (by simp;omega)];omega)⟩
  rw [hc] at cd
  simp only [Option.map_some] at cd
  have fd:w1.frozen? ⟨t,k+o+s.size,none⟩=false:=H1.out.frozen _
  clear hc
  go_enter Tryz.func129,Tryz.ntmps129
  go_wp2
  go_end0
  refine ⟨rfl,?_,HC.out.setCell (.inl (by simp)) _⟩
  have:=H1.out.set k (o+s.size) 0 hk (by rw [splice_length _ _ _ (by simp;omega)];omega)
  rw [txt_set L o n s hlt ho HZ.out,←Nat.add_assoc] at this
  exact this
 ·have hnn:¬n < s.size:=by omega
  go_enter Tryz.func129,Tryz.ntmps129
  go_wp2
  go_end0
  exact ⟨rfl,by rw [←txt_zero L o n s hs ho HZ.out];exact H1.out,HC.out⟩
theorem repeat0 (c:Nat) (w:World) (h1:1≤c) (hc:c≤1000):Calls Tryz.prog 175 #[.string ⟨#[48]⟩,.int .i64 c] w fun e w'=>e=.returned (.string ⟨(List.replicate c 48).toArray⟩)∧Chg [] w w':=by
 by_cases h2:c=1
 ·subst h2
  exact (Tryz.strings_Repeat_one ⟨#[48]⟩ w).mono fun e w' h=>⟨h.1,by rw [h.2];exact Chg.refl _ _⟩
 ·refine (Tryz.strings_Repeat_main ⟨#[48]⟩ c w (by omega) (by omega) (by show 1*c≤_;omega) (by decide)).mono fun e w' h=>⟨?_,Chg.ofBelow h.2⟩
  rw [h.1]
  have hr:∀c,Lib.repeatL [(48:UInt8)] c=List.replicate c 48:=by
   intro c
   induction c with
   | zero=>rfl
   | succ c ih=>rw [Lib.repeatL,ih];rfl
  have:=hr c
  show Ending.returned (Value.string ⟨(Lib.repeatL [(48:UInt8)] c).toArray⟩)=_
  rw [this]
def octStr (n x:Nat):ByteArray:=⟨(List.replicate (n - 1 - (octs x).length) 48++octs x).toArray⟩
theorem octs_pos (x:Nat):0 < (octs x).length:=by
 by_cases h8:x < 8
 ·rw [octs_small h8];simp
 ·rw [octs_big (by omega)];simp
theorem octStr_size {n x:Nat} (h:(octs x).length+1≤n):(octStr n x).size=n - 1:=by
 show (List.replicate (n - 1 - (octs x).length) (48:UInt8)++octs x).toArray.size=_
 simp;omega
set_option maxRecDepth 100000 in
set_option maxHeartbeats 1000000 in
theorem fmtOct_fits (pf:Value) (t:Nat) (T:TypeId) (pre post:List Value) (L:List UInt8) (k o n cap x:Nat) (w:World) (h:BlkIn t T pre L post w) (hk:pre.length=k) (ho:o+n≤L.length)
  (hz:∀i,o≤i→i < o+n→L[i]? =some 0) (hn:n≤1000) (hx:(octs x).length+1≤n) (hx':x < 9223372036854775808)
  (h100:Calls Tryz.prog 100 #[.int .i64 n,.int .i64 x] w fun e w'=>e=.returned (.bool true)∧w=w') (htab:w.cell? ⟨15,7,none⟩=some (.int .u8 3)) :
  Calls Tryz.prog 130 #[pf,.slice (some ⟨t,k+o,none⟩) n cap,.int .i64 x] w fun e w'=>e=.returned (.tuple #[])∧BlkIn t T pre (splice L o (txt n (octStr n x))) post w'∧Chg [t] w w':=by
 have H:=Lib.hid h;have HZ:=Lib.hid hz;have H100:=Lib.hid h100;have HT:=Lib.hid htab;have HX:=Lib.hid hx
 have hp:=octs_pos x
 obtain ⟨c,hc⟩:∃c,c=n - 1 - (octs x).length:=⟨_,rfl⟩
 have hw:wrap64 (wrap64 ((n:Int) - ((octs x).length:Int)) - 1)=(c:Int):=by unfold wrap64;omega
 have hw':wrap64 ((n:Int) - ((octs x).length:Int) - 1)=(c:Int):=by unfold wrap64;omega
 have HC:=Lib.hid hc
 have hs1:(octStr n x).size≤n:=by rw [octStr_size hx];omega
 clear h hz h100 htab hx
 by_cases h0:c=0
 ·have hs:octStr n x=⟨(octs x).toArray⟩:=by unfold octStr;rw [←hc,h0];rfl
  rw [hs] at hs1⊢
  have hw2:¬(0:Int) < wrap64 (wrap64 ((n:Int) - ((octs x).length:Int)) - 1):=by omega
  clear hc hs hw hw'
  go_enter Tryz.func130,Tryz.ntmps130
  go_wp2_with (first
   | (go_at_call 100;refine H100.out.mono ?_;rintro e w1 ⟨rfl,rfl⟩)
   | (go_at_call 101;refine (formatInt_8 x _ hx' HT.out).mono ?_;rintro e w1 ⟨rfl,hc1⟩)
   | (go_at_call 129;refine (fmtStr_fits pf t T pre post L k o n cap _ _ (H.out.chg hc1 (by simp)) hk ho HZ.out hs1 hn).mono ?_;rintro e w2 ⟨rfl,hb,hc2⟩))
  go_end0
  exact ⟨rfl,hb,(hc1.mono (by simp)).trans hc2⟩
 ·have hs:octStr n x=⟨(List.replicate c 48++octs x).toArray⟩:=by unfold octStr;rw [←hc]
  rw [hs] at hs1⊢
  have hcp:1≤c:=by omega
  have hcn:c≤1000:=by omega
  have hc0:0 < c:=by omega
  have es:(⟨(List.replicate c (48:UInt8)).toArray⟩:ByteArray)++(⟨(octs x).toArray⟩:ByteArray)=⟨(List.replicate c 48++octs x).toArray⟩:=by
   apply ByteArray.ext;simp
  generalize hS:(⟨(List.replicate c 48++octs x).toArray⟩:ByteArray)=S at es hs1⊢
  generalize hA:(⟨(List.replicate c (48:UInt8)).toArray⟩:ByteArray)=A at es
  have hAz:A.size=c:=by rw [←hA];show (List.replicate c (48:UInt8)).toArray.size=c;simp
  generalize hD:(⟨(octs x).toArray⟩:ByteArray)=D at es
  have hDz:D.size=(octs x).length:=by rw [←hD];show (octs x).toArray.size=_;simp
  have hlt:¬9223372036854775807 < A.size+D.size:=by have:=HX.out;omega
  have r101:∀w1,Chg [] w w1→True:=fun _ _=>trivial
  have R1:=Lib.hid hA;have R2:=Lib.hid hD;have R3:=Lib.hid hS
  have hf:Calls Tryz.prog 101 #[.int .i64 x,.int .i64 8] w fun e w'=>e=.returned (.string D)∧Chg [] w w':=by rw [←hD];exact formatInt_8 x _ hx' HT.out
  have hr:∀w,Calls Tryz.prog 175 #[.string ⟨#[48]⟩,.int .i64 c] w fun e w'=>e=.returned (.string A)∧Chg [] w w':=fun w=>by rw [←hA];exact repeat0 c w hcp hcn
  have HF:=Lib.hid hf;have HR:=Lib.hid hr
  have hsub:(n:Int) - (D.size:Int)=(c:Int)+1:=by rw [hDz];have:=HX.out;omega
  clear hf hr hA hD hS hAz hDz hw hw'
  clear hc hs h0
  go_enter Tryz.func130,Tryz.ntmps130
  go_wp2_with (first
   | (go_at_call 100;refine H100.out.mono ?_;rintro e w1 ⟨rfl,rfl⟩)
   | (go_at_call 101;refine HF.out.mono ?_;rintro e w1 ⟨rfl,hc1⟩)
   | (go_at_call 175;refine (HR.out _).mono ?_;rintro e w1 ⟨rfl,hc3⟩)
   | (go_at_call 129;refine (fmtStr_fits pf t T pre post L k o n cap _ _ ((H.out.chg hc1 (by simp)).chg hc3 (by simp)) hk ho HZ.out hs1 hn).mono ?_;rintro e w2 ⟨rfl,hb,hc2⟩))
  go_end0
  exact ⟨rfl,hb,((hc1.trans hc3).mono (by simp)).trans hc2⟩
def FAt (f:Nat) (v:Value) (w:World):Prop:=w.heap[f]? =some (.cells #[v] 196 (0,0))
theorem FAt.chg {f:Nat} {v:Value} {S:List Nat} {w w':World} (h:FAt f v w) (k:Chg S w w') (hn:f∉S):FAt f v w':=k.heap h hn
theorem FAt.set {f:Nat} {v u:Value} {w:World} (h:FAt f v w):FAt f u (w.setCell ⟨f,0,none⟩ u):=by
 unfold FAt at h⊢
 rw [heap_setCell_at h]
 rfl
theorem octs0:octs 0= [48]:=by rw [octs_small (by decide)];rfl
set_option maxRecDepth 100000 in
set_option maxHeartbeats 1000000 in
theorem fmtOct_big (f:Nat) (v:Value) (e3:Addr) (t:Nat) (T:TypeId) (pre post:List Value) (L:List UInt8) (k o n cap:Nat) (x:Int) (w:World) (h:BlkIn t T pre L post w) (hk:pre.length=k) (ho:o+n≤L.length)
  (hz:∀i,o≤i→i < o+n→L[i]? =some 0) (hn:n≤1000) (hn3:3≤n) (hF:FAt f v w) (hft:f≠t) (h3:Sent w 3 e3) (hf15:f≠15)
  (h100:Calls Tryz.prog 100 #[.int .i64 n,.int .i64 x] w fun e w'=>e=.returned (.bool false)∧w=w') (htab:w.cell? ⟨15,7,none⟩=some (.int .u8 3)) :
  Calls Tryz.prog 130 #[.pointer (some ⟨f,0,none⟩),.slice (some ⟨t,k+o,none⟩) n cap,.int .i64 x] w fun e w'=>e=.returned (.tuple #[])∧BlkIn t T pre (splice L o (txt n (octStr n 0))) post w'∧FAt f (.iface 245 (.pointer (some e3))) w'∧Chg [t,f] w w':=by
 have cf:w.cell? ⟨f,0,none⟩=some v:=by rw [cell_heap hF];rfl
 have ff:w.frozen? ⟨f,0,none⟩=false:=frozen_heap hF 0
 have hx0:(octs 0).length+1≤n:=by rw [octs0];simp;omega
 obtain ⟨c,hc⟩:∃c,c=n - 2:=⟨_,rfl⟩
 have HC:=Lib.hid hc
 have hs1:(octStr n 0).size≤n:=by rw [octStr_size hx0];omega
 have hs:octStr n 0=⟨(List.replicate c (48:UInt8)++ [48]).toArray⟩:=by
  unfold octStr;rw [octs0,hc];rfl
 rw [hs] at hs1⊢
 have hcp:1≤c:=by omega
 have hcn:c≤1000:=by omega
 have hc0:0 < c:=by omega
 have es:(⟨(List.replicate c (48:UInt8)).toArray⟩:ByteArray)++(⟨#[48]⟩:ByteArray)=⟨(List.replicate c (48:UInt8)++ [48]).toArray⟩:=by
  apply ByteArray.ext
  simp
  apply Array.ext'
  simp
 generalize hS:(⟨(List.replicate c (48:UInt8)++ [48]).toArray⟩:ByteArray)=S at es hs1⊢
 generalize hA:(⟨(List.replicate c (48:UInt8)).toArray⟩:ByteArray)=A at es
 have hAz:A.size=c:=by rw [←hA];show (List.replicate c (48:UInt8)).toArray.size=c;simp
 generalize hD:(⟨#[48]⟩:ByteArray)=D at es
 have hDz:D.size=1:=by rw [←hD];rfl
 have hlt:¬9223372036854775807 < A.size+D.size:=by omega
 have hFw:FAt f (.iface 245 (.pointer (some e3))) (w.setCell ⟨f,0,none⟩ (.iface 245 (.pointer (some e3)))):=hF.set
 have hCw:Chg [f] w (w.setCell ⟨f,0,none⟩ (.iface 245 (.pointer (some e3)))):=(Chg.refl [f] w).setCell (.inl (by simp)) _
 generalize hw0:w.setCell ⟨f,0,none⟩ (.iface 245 (.pointer (some e3)))=w0 at hFw hCw
 have HB:=Lib.hid (h.chg hCw (by simp;exact fun e=>hft e.symm))
 have HT:=Lib.hid (hCw.cell htab (by simp;exact fun e=>hf15 e.symm))
 have hf:Calls Tryz.prog 101 #[.int .i64 0,.int .i64 8] w0 fun e w'=>e=.returned (.string D)∧Chg [] w0 w':=by
  have:=formatInt_8 0 w0 (by omega) HT.out
  rw [octs0] at this
  rw [←hD];exact this
 have hr:∀w,Calls Tryz.prog 175 #[.string ⟨#[48]⟩,.int .i64 c] w fun e w'=>e=.returned (.string A)∧Chg [] w w':=fun w=>by rw [←hA];exact repeat0 c w hcp hcn
 have HF:=Lib.hid hf;have HR:=Lib.hid hr;have HFw:=Lib.hid hFw;have HCw:=Lib.hid hCw;have H100:=Lib.hid h100;have HZ:=Lib.hid hz;have H3:=Lib.hid h3
 have hsub:(n:Int) - (D.size:Int)=(c:Int)+1:=by rw [hDz];omega
 clear hf hr hA hD hS hAz hDz hFw hCw h100 hz h htab hc hs hF hx0 h3
 have h3:w.cell? ⟨3,0,none⟩=some (.iface 245 (.pointer (some e3))):=H3.out
 go_enter Tryz.func130,Tryz.ntmps130
 go_wp2_with (first
  | (go_at_call 100;refine H100.out.mono ?_;rintro e w1 ⟨rfl,rfl⟩)
  | (go_at_call 101;refine HF.out.mono ?_;rintro e w1 ⟨rfl,hc1⟩)
  | (go_at_call 175;refine (HR.out _).mono ?_;rintro e w1 ⟨rfl,hc3⟩)
  | (go_at_call 129;refine (fmtStr_fits _ t T pre post L k o n cap _ _ ((HB.out.chg hc1 (by simp)).chg hc3 (by simp)) hk ho HZ.out hs1 hn).mono ?_;rintro e w2 ⟨rfl,hb,hc2⟩))
 go_end0
 exact ⟨rfl,hb,((HFw.out.chg hc1 (by simp)).chg hc3 (by simp)).chg hc2 (by simp;exact hft),((HCw.out.mono (by simp)).trans ((hc1.trans hc3).mono (by simp))).trans (hc2.mono (by simp))⟩
end Go.Proofs.YtkanmkcojlefbaaGreatDoor
namespace Go.Proofs.YtkanmkcojlefbaaGreatDoor
open Go.RowKit
def lows:Nat→Int→List UInt8
 | 0,_=> []
 | m+1,x=>lows m (x / 256)++ [UInt8.ofNat (x % 256).toNat]
theorem lows_length:∀m x,(lows m x).length=m
 | 0,_=>rfl
 | m+1,x=>by rw [lows];simp [lows_length m]
def b256 (n:Nat) (x:Int):List UInt8:=(if x < 0 then 255 else 128)::lows (n - 1) x
theorem byte_low (y:Int):y % 256=((UInt8.ofNat (y % 256).toNat).toNat:Int):=by
 have h1:(y % 256).toNat < 256:=by omega
 rw [UInt8.toNat_ofNat_of_lt' h1]
 omega
end Go.Proofs.YtkanmkcojlefbaaGreatDoor
namespace Go.Proofs
open Go.Shelf
def Tryz.laysV6_ren:Go.Shelf.Ren:=⟨fun | 6=>275 | 10=>298 | 9=>297 | 11=>299 | 13=>301 | 12=>300 | 15=>303 | 14=>302 | 16=>312 | 19=>314 | 18=>313 | 17=>277 | 21=>318 | 20=>304 | n=>n,fun | 22=>35 | 9=>9 | 3=>3 | 4=>4 | 5=>5 | 28=>372 | 27=>371 | 0=>0 | 31=>375 | 21=>21 | 33=>353 | 36=>387 | 37=>167 | 40=>390 | 39=>389 | n=>n,fun | 0=>16 | 1=>17 | n=>n⟩
theorem Tryz.laysV6:Go.Proofs.SlLaysV.n6 Tryz.prog Tryz.laysV6_ren:={
 mixed:=by kernel_rfl
 f6:=Tryz.func275.trans (congrArg some (by kernel_rfl))
 f9:=Tryz.func297.trans (congrArg some (by kernel_rfl))
 f10:=Tryz.func298.trans (congrArg some (by kernel_rfl))
 f11:=Tryz.func299.trans (congrArg some (by kernel_rfl))
 f12:=Tryz.func300.trans (congrArg some (by kernel_rfl))
 f13:=Tryz.func301.trans (congrArg some (by kernel_rfl))
 f14:=Tryz.func302.trans (congrArg some (by kernel_rfl))
 f15:=Tryz.func303.trans (congrArg some (by kernel_rfl))
 f16:=Tryz.func312.trans (congrArg some (by kernel_rfl))
 f17:=Tryz.func277.trans (congrArg some (by kernel_rfl))
 f18:=Tryz.func313.trans (congrArg some (by kernel_rfl))
 f19:=Tryz.func314.trans (congrArg some (by kernel_rfl))
 f20:=Tryz.func304.trans (congrArg some (by kernel_rfl))
 f21:=Tryz.func318.trans (congrArg some (by kernel_rfl))
 t0:=Tryz.underlying0
 a0:=Tryz.isAgg0
 z0:=Tryz.sizeOf0
 v0:=Tryz.zeroValue0
 t3:=Tryz.underlying3
 a3:=Tryz.isAgg3
 z3:=Tryz.sizeOf3
 v3:=Tryz.zeroValue3
 t4:=Tryz.underlying4
 a4:=Tryz.isAgg4
 z4:=Tryz.sizeOf4
 v4:=Tryz.zeroValue4
 t5:=Tryz.underlying5
 a5:=Tryz.isAgg5
 z5:=Tryz.sizeOf5
 v5:=Tryz.zeroValue5
 t9:=Tryz.underlying9
 a9:=Tryz.isAgg9
 z9:=Tryz.sizeOf9
 v9:=Tryz.zeroValue9
 t21:=Tryz.underlying21
 a21:=Tryz.isAgg21
 z21:=Tryz.sizeOf21
 v21:=Tryz.zeroValue21
 t22:=Tryz.underlying35
 a22:=Tryz.isAgg35
 z22:=Tryz.sizeOf35
 v22:=Tryz.zeroValue35
 t27:=Tryz.underlying371
 a27:=Tryz.isAgg371
 z27:=Tryz.sizeOf371
 t28:=Tryz.underlying372
 a28:=Tryz.isAgg372
 z28:=Tryz.sizeOf372
 v28:=Tryz.zeroValue372
 t31:=Tryz.underlying375
 a31:=Tryz.isAgg375
 z31:=Tryz.sizeOf375
 v31:=Tryz.zeroValue375
 t33:=Tryz.underlying353
 a33:=Tryz.isAgg353
 z33:=Tryz.sizeOf353
 v33:=Tryz.zeroValue353
 t36:=Tryz.underlying387
 a36:=Tryz.isAgg387
 z36:=Tryz.sizeOf387
 t37:=Tryz.underlying167
 a37:=Tryz.isAgg167
 z37:=Tryz.sizeOf167
 v37:=Tryz.zeroValue167
 t39:=Tryz.underlying389
 a39:=Tryz.isAgg389
 z39:=Tryz.sizeOf389
 v39:=Tryz.zeroValue389
 t40:=Tryz.underlying390
 a40:=Tryz.isAgg390
 z40:=Tryz.sizeOf390
 v40:=Tryz.zeroValue390 }
def Tryz.keys135_ren:Go.Shelf.Ren:=⟨fun | 7=>135 | 10=>189 | n=>n,fun | 23=>127 | 26=>9 | 3=>9 | 28=>206 | 0=>0 | 27=>205 | 33=>56 | 4=>4 | n=>n,fun | n=>n⟩
theorem Tryz.keys135:Go.Proofs.SlLaysZ.n7 Tryz.prog Tryz.keys135_ren:={
 mixed:=by kernel_rfl
 f7:=⟨Tryz.f135.name,by decide,Tryz.func135.trans (congrArg some (by kernel_rfl))⟩
 f10:=⟨Tryz.f189.name,by decide,Tryz.func189.trans (congrArg some (by kernel_rfl))⟩
 t0:=Tryz.underlying0
 a0:=Tryz.isAgg0
 z0:=Tryz.sizeOf0
 v0:=Tryz.zeroValue0
 t4:=Tryz.underlying4
 a4:=Tryz.isAgg4
 z4:=Tryz.sizeOf4
 v4:=Tryz.zeroValue4
 t23:=Tryz.underlying127
 a23:=Tryz.isAgg127
 z23:=Tryz.sizeOf127
 v23:=Tryz.zeroValue127
 t26:=Tryz.underlying9
 a26:=Tryz.isAgg9
 z26:=Tryz.sizeOf9
 v26:=Tryz.zeroValue9
 t27:=Tryz.underlying205
 a27:=Tryz.isAgg205
 z27:=Tryz.sizeOf205
 v27:=Tryz.zeroValue205
 t28:=Tryz.underlying206
 a28:=Tryz.isAgg206
 z28:=Tryz.sizeOf206
 v28:=Tryz.zeroValue206
 t33:=Tryz.underlying56
 a33:=Tryz.isAgg56
 z33:=Tryz.sizeOf56
 v33:=Tryz.zeroValue56 }
def Tryz.sorted134_ren:Go.Shelf.Ren:=⟨fun | 6=>134 | 8=>187 | 9=>188 | 11=>228 | 13=>230 | 12=>229 | 23=>274 | 24=>258 | 14=>265 | 15=>266 | 16=>267 | 17=>268 | 18=>269 | 19=>270 | 20=>271 | 21=>272 | 22=>273 | 25=>291 | 26=>292 | 27=>293 | 28=>294 | 29=>295 | 30=>296 | 31=>311 | n=>n,fun | 26=>9 | 28=>206 | 24=>54 | 0=>0 | 3=>3 | 37=>167 | 48=>331 | 50=>124 | 4=>4 | 40=>342 | 39=>341 | 45=>346 | 5=>5 | 9=>9 | 51=>363 | 55=>367 | 57=>383 | 58=>384 | 33=>56 | n=>n,fun | n=>n⟩
theorem Tryz.sorted134:Go.Proofs.SlLaysZ.n6 Tryz.prog Tryz.sorted134_ren:={
 mixed:=by kernel_rfl
 f6:=⟨Tryz.f134.name,by decide,Tryz.func134.trans (congrArg some (by kernel_rfl))⟩
 f8:=⟨Tryz.f187.name,by decide,Tryz.func187.trans (congrArg some (by kernel_rfl))⟩
 f11:=⟨Tryz.f228.name,by decide,Tryz.func228.trans (congrArg some (by kernel_rfl))⟩
 t0:=Tryz.underlying0
 a0:=Tryz.isAgg0
 z0:=Tryz.sizeOf0
 v0:=Tryz.zeroValue0
 t24:=Tryz.underlying54
 a24:=Tryz.isAgg54
 z24:=Tryz.sizeOf54
 v24:=Tryz.zeroValue54
 t26:=Tryz.underlying9
 a26:=Tryz.isAgg9
 z26:=Tryz.sizeOf9
 v26:=Tryz.zeroValue9
 t28:=Tryz.underlying206
 a28:=Tryz.isAgg206
 z28:=Tryz.sizeOf206
 v28:=Tryz.zeroValue206
 i26:=by kernel_rfl }
def Tryz.sort188_ren:Go.Shelf.Ren:=⟨fun | 6=>188 | 8=>230 | 9=>229 | 19=>274 | 20=>258 | 21=>265 | 22=>266 | 23=>267 | 24=>268 | 25=>269 | 26=>270 | 27=>271 | 28=>272 | 29=>273 | 36=>291 | 31=>292 | 32=>293 | 37=>294 | 38=>295 | 39=>296 | 41=>311 | n=>n,fun | 27=>54 | 29=>9 | 3=>3 | 32=>167 | 26=>54 | 0=>0 | 44=>331 | 46=>124 | 4=>4 | 36=>342 | 35=>341 | 41=>346 | 5=>5 | 9=>9 | 53=>363 | 57=>367 | 63=>383 | 64=>384 | n=>n,fun | n=>n⟩
theorem Tryz.sort188:Go.Proofs.SlLaysM.n6 Tryz.prog Tryz.sort188_ren:={
 mixed:=by kernel_rfl
 f6:=⟨Tryz.f188.name,by decide,Tryz.func188.trans (congrArg some (by kernel_rfl))⟩
 f8:=Tryz.func230.trans (congrArg some (by kernel_rfl))
 f9:=⟨Tryz.f229.name,by decide,Tryz.func229.trans (congrArg some (by kernel_rfl))⟩
 f19:=Tryz.func274.trans (congrArg some (by kernel_rfl))
 f20:=Tryz.func258.trans (congrArg some (by kernel_rfl))
 f21:=⟨Tryz.f265.name,by decide,Tryz.func265.trans (congrArg some (by kernel_rfl))⟩
 f22:=⟨Tryz.f266.name,by decide,Tryz.func266.trans (congrArg some (by kernel_rfl))⟩
 f23:=⟨Tryz.f267.name,by decide,Tryz.func267.trans (congrArg some (by kernel_rfl))⟩
 f24:=⟨Tryz.f268.name,by decide,Tryz.func268.trans (congrArg some (by kernel_rfl))⟩
 f25:=⟨Tryz.f269.name,by decide,Tryz.func269.trans (congrArg some (by kernel_rfl))⟩
 f26:=⟨Tryz.f270.name,by decide,Tryz.func270.trans (congrArg some (by kernel_rfl))⟩
 f27:=⟨Tryz.f271.name,by decide,Tryz.func271.trans (congrArg some (by kernel_rfl))⟩
 f28:=⟨Tryz.f272.name,by decide,Tryz.func272.trans (congrArg some (by kernel_rfl))⟩
 f29:=⟨Tryz.f273.name,by decide,Tryz.func273.trans (congrArg some (by kernel_rfl))⟩
 f31:=Tryz.func292.trans (congrArg some (by kernel_rfl))
 f32:=Tryz.func293.trans (congrArg some (by kernel_rfl))
 f36:=⟨Tryz.f291.name,by decide,Tryz.func291.trans (congrArg some (by kernel_rfl))⟩
 f37:=⟨Tryz.f294.name,by decide,Tryz.func294.trans (congrArg some (by kernel_rfl))⟩
 f38:=⟨Tryz.f295.name,by decide,Tryz.func295.trans (congrArg some (by kernel_rfl))⟩
 f39:=⟨Tryz.f296.name,by decide,Tryz.func296.trans (congrArg some (by kernel_rfl))⟩
 f41:=⟨Tryz.f311.name,by decide,Tryz.func311.trans (congrArg some (by kernel_rfl))⟩
 t0:=Tryz.underlying0
 a0:=Tryz.isAgg0
 z0:=Tryz.sizeOf0
 v0:=Tryz.zeroValue0
 t3:=Tryz.underlying3
 a3:=Tryz.isAgg3
 z3:=Tryz.sizeOf3
 v3:=Tryz.zeroValue3
 t4:=Tryz.underlying4
 a4:=Tryz.isAgg4
 z4:=Tryz.sizeOf4
 v4:=Tryz.zeroValue4
 t5:=Tryz.underlying5
 a5:=Tryz.isAgg5
 z5:=Tryz.sizeOf5
 v5:=Tryz.zeroValue5
 t9:=Tryz.underlying9
 a9:=Tryz.isAgg9
 z9:=Tryz.sizeOf9
 v9:=Tryz.zeroValue9
 t26:=Tryz.underlying54
 a26:=Tryz.isAgg54
 z26:=Tryz.sizeOf54
 v26:=Tryz.zeroValue54
 t27:=Tryz.underlying54
 a27:=Tryz.isAgg54
 z27:=Tryz.sizeOf54
 v27:=Tryz.zeroValue54
 t29:=Tryz.underlying9
 a29:=Tryz.isAgg9
 z29:=Tryz.sizeOf9
 v29:=Tryz.zeroValue9
 t32:=Tryz.underlying167
 a32:=Tryz.isAgg167
 z32:=Tryz.sizeOf167
 v32:=Tryz.zeroValue167
 t35:=Tryz.underlying341
 a35:=Tryz.isAgg341
 z35:=Tryz.sizeOf341
 v35:=Tryz.zeroValue341
 t36:=Tryz.underlying342
 a36:=Tryz.isAgg342
 z36:=Tryz.sizeOf342
 v36:=Tryz.zeroValue342
 t41:=Tryz.underlying346
 a41:=Tryz.isAgg346
 z41:=Tryz.sizeOf346
 v41:=Tryz.zeroValue346
 t44:=Tryz.underlying331
 a44:=Tryz.isAgg331
 z44:=Tryz.sizeOf331
 v44:=Tryz.zeroValue331
 t46:=Tryz.underlying124
 a46:=Tryz.isAgg124
 z46:=Tryz.sizeOf124
 v46:=Tryz.zeroValue124
 t53:=Tryz.underlying363
 a53:=Tryz.isAgg363
 z53:=Tryz.sizeOf363
 v53:=Tryz.zeroValue363
 t57:=Tryz.underlying367
 a57:=Tryz.isAgg367
 z57:=Tryz.sizeOf367
 v57:=Tryz.zeroValue367
 t63:=Tryz.underlying383
 a63:=Tryz.isAgg383
 z63:=Tryz.sizeOf383
 v63:=Tryz.zeroValue383
 t64:=Tryz.underlying384
 a64:=Tryz.isAgg384
 z64:=Tryz.sizeOf384
 v64:=Tryz.zeroValue384 }
open Go.RowKit Go.Maps Go.Sort
theorem Tryz.sorts134 (m : Nat) : AnyZ.SortsIn Tryz.prog Tryz.sorted134_ren Fence.wide m :=
  ⟨fun blk off cap ss W hH hblk hsz => callsIn_wide.2 (AnyM.slices_Sort_string Tryz.sort188 blk off cap ss W hH hblk hsz),
   fun p cap W => callsIn_wide.2 (AnyM.slices_Sort_string_none Tryz.sort188 p cap W)⟩
theorem Tryz.maps_Keys_135 (mb:Option Nat) (W:World):CallsIn Fence.wide 5 Tryz.prog 135 #[.map mb] W fun e w'=>e=.returned (.func (.func 189) #[] #[.pointer (some ⟨W.heap.size,0,none⟩)])∧w'=W.alloc (.cells #[.map mb] 127):=
 AnyZ.keys_in Tryz.keys135 Fence.wide 5 trivial rfl mb W
set_option maxHeartbeats 1000000 in
theorem Tryz.slices_Sorted_keys_134_135 {H:Type} (b nn:Nat) (D0:DataW H) (R:Value→Option (DataW H×List MemPlace)) (w:World) (hown:w.ownsMap Tryz.prog 9 R b nn D0) (hmax:Maps.size D0≤maxLen) (hbytes:Maps.size D0*16≤140737488355328) :
  CallsIn Fence.wide 5 Tryz.prog 134 #[.func (.func 189) #[] #[.pointer (some ⟨w.heap.size,0,none⟩)]] (w.alloc (.cells #[.map (some b)] 127)) fun e w'=>∃(v:Value) (ss:List (List UInt8)),e=.returned v∧ss.Perm (strKeys D0)∧
   w'.ownsRow (w.alloc (.cells #[.map (some b)] 127)).heap.size 9 1 v ss.length ((ss.mergeSort (fun x y=>decide (x≤y))).map encStr)∧(v=.slice none 0 0↔ss= [])∧Below (w.alloc (.cells #[.map (some b)] 127)).heap.size (w.alloc (.cells #[.map (some b)] 127)) w':=by
 have hbl:=hown.lt
 have hseq:SeqGives Fence.wide 2 Tryz.prog 189 #[.pointer (some ⟨w.heap.size,0,none⟩)] encStr (fun ss=>ss.Perm (strKeys D0)) (Maps.size D0) (w.alloc (.cells #[.map (some b)] 127)):=
  AnyZ.keys_gives (ρ:=Tryz.keys135_ren) { Tryz.keys135 with } Fence.wide _ trivial rfl (by omega) w.heap.size b nn D0 _ (by simp) (by simp) (by
   obtain ⟨es,clock,hb,Ft,hs,hD⟩:=hown
   exact ⟨es,clock,(Below.heap_alloc _ _ b hbl).trans hb,Ft,hs,hD⟩)
 exact AnyZ.sorted_in Tryz.sorted134 Fence.wide 5 trivial trivial trivial trivial rfl (by omega) (Tryz.sorts134 _) (enters_of Tryz.func188 (by kernel_rfl) rfl) 189 #[.pointer (some ⟨w.heap.size,0,none⟩)] trivial (enters_of Tryz.func189 (by kernel_rfl) rfl) _ _ hmax hbytes _ hseq
end Go.Proofs
namespace Go.Proofs.YtkanmkcojlefbaaGreatDoor
open Go.RowKit
def ByAt (t q:Nat) (l:List UInt8) (w:World):Prop:=∀j (h:j < l.length),w.cell? ⟨t,q+j,none⟩=some (bv l[j])
theorem ByAt.chg {t q:Nat} {l:List UInt8} {S:List Nat} {w w':World} (h:ByAt t q l w) (k:Chg S w w') (hn:t∉S):ByAt t q l w':=fun j hj=>k.cell (p:=⟨t,q+j,none⟩) (h j hj) hn
theorem ByAt.take {t q:Nat} {l:List UInt8} {w:World} (h:ByAt t q l w) (k:Nat):ByAt t q (l.take k) w:=by
 intro j hj
 have:j < l.length:=by rw [List.length_take] at hj;omega
 rw [List.getElem_take]
 exact h j this
theorem BlkIn.byAt {t:Nat} {T:TypeId} {pre post:List Value} {L:List UInt8} {w:World} (h:BlkIn t T pre L post w) (k o n:Nat) (hk:pre.length=k) (ho:o+n≤L.length):ByAt t (k+o) ((L.drop o).take n) w:=by
 intro j hj
 have hjn:j < n:=by rw [List.length_take] at hj;omega
 rw [Nat.add_assoc,h.cell k (o+j) hk (by omega),List.getElem?_eq_getElem (by omega),List.getElem_take,List.getElem_drop]
 rfl
theorem ByAt.conv {t q:Nat} {l:List UInt8} {w:World} (h:ByAt t q l w) (n cap:Nat) (hn:l.length=n):(convert 35 9 (.slice (some ⟨t,q,none⟩) n cap)).run Tryz.prog w=.ok (.string ⟨l.toArray⟩) w:=by
 subst hn
 exact run_convert_bytes_back w 35 9 5 _ cap l Tryz.underlying35 Tryz.underlying5 Tryz.underlying9 (fun j hj=>by rw [add_addr];exact h j hj)
def cstr (l:List UInt8):List UInt8:=l.takeWhile (· != 0)
theorem cstr_none {l:List UInt8} (h:(0:UInt8)∉l):cstr l=l:=by
 have:=List.takeWhile_append_of_pos (p:=fun c:UInt8=>c != 0) (l₁:=l) (l₂:= []) (fun c hc=>by
  simp only [bne_iff_ne,ne_eq]
  intro e;subst e;exact h hc)
 simpa [cstr] using this
theorem cstr_some (a b:List UInt8) (h:(0:UInt8)∉a):cstr (a++0::b)=a:=by
 unfold cstr
 rw [List.takeWhile_append_of_pos]
 ·simp
 ·intro c hc
  simp only [bne_iff_ne,ne_eq]
  intro e;subst e;exact h hc
theorem cstr_take {l:List UInt8} {k:Nat} (hk:l[k]? =some 0) (hb:∀j,j < k→l[j]? ≠some 0):cstr l=l.take k∧k < l.length:=by
 obtain ⟨hlt,he⟩:=List.getElem?_eq_some_iff.1 hk
 have e:l=l.take k++0::l.drop (k+1):=by
  conv=>lhs;rw [←List.take_append_drop k l,List.drop_eq_getElem_cons hlt,he]
 refine ⟨?_,hlt⟩
 conv=>lhs;rw [e]
 refine cstr_some _ _ (fun hm=> ?_)
 obtain ⟨j,hj,hv⟩:=List.mem_iff_getElem.1 hm
 rw [List.length_take] at hj
 rw [List.getElem_take] at hv
 exact hb j (by omega) (by rw [List.getElem?_eq_getElem (by omega),hv])
theorem cstr_txt (n:Nat) (s:ByteArray) (h:(0:UInt8)∉s.data.toList) (hs:s.size≤n):cstr (txt n s)=s.data.toList:=by
 by_cases e:s.size=n
 ·have:txt n s=s.data.toList:=by
   apply List.ext_getElem?
   intro j
   by_cases hj:j < n
   ·rw [txt_get n s j hs hj,if_pos (by omega)]
   ·rw [List.getElem?_eq_none (by rw [txt_length hs];omega),List.getElem?_eq_none (by simp;omega)]
  rw [this,cstr_none h]
 ·have:=cstr_take (l:=txt n s) (k:=s.size) (by rw [txt_get n s _ hs (by omega),if_neg (by omega)]) (by
   intro j hj
   rw [txt_get n s j hs (by omega),if_pos hj]
   intro hm
   exact h (List.mem_of_getElem? hm))
  rw [this.1]
  apply List.ext_getElem?
  intro j
  rw [List.getElem?_take]
  by_cases hj:j < s.size
  ·rw [if_pos hj,txt_get n s j hs (by omega),if_pos hj]
  ·rw [if_neg hj,List.getElem?_eq_none (by simp;omega)]
theorem numsOf (l:List UInt8):Lib.bytesOf (l.map fun c=>(c.toNat:Int))=l:=by
 unfold Lib.bytesOf
 rw [List.map_map]
 conv=>rhs;rw [←List.map_id l]
 apply List.map_congr_left
 intro c _
 simp
set_option maxRecDepth 100000 in
set_option maxHeartbeats 800000 in
theorem parseString_any (pf:Value) (t q n cap:Nat) (l:List UInt8) (w:World) (h:ByAt t q l w) (hl:l.length=n) (hnc:n≤cap) (hcap:cap≤140737488355328) :
  Calls Tryz.prog 153 #[pf,.slice (some ⟨t,q,none⟩) n cap] w fun e w'=>e=.returned (.string ⟨(cstr l).toArray⟩)∧w=w':=by
 have hib:Calls Tryz.prog 212 #[.slice (some ⟨t,q,none⟩) n cap,.int .u8 0] w fun e w'=>e=.returned (.int .i64 (Lib.indexByte l 0))∧w'=w:=by
  have:=Tryz.bytes_IndexByte_at ⟨t,q,none⟩ n cap (l.map fun c=>(c.toNat:Int)) 0 w (by simpa using hl) (fun i hi=>by
   rw [add_addr,h i (by omega)]
   simp [List.getElem?_eq_getElem (show i < l.length by omega)])
  rw [numsOf] at this
  exact this
 have hge:=Lib.indexByte_ge l 0
 generalize hz:Lib.indexByte l 0=z at hib hge
 by_cases h0:0≤z
 ·obtain ⟨k,rfl⟩:=Int.eq_ofNat_of_zero_le h0
  obtain ⟨h1,h2⟩:=Lib.indexByte_some hz
  obtain ⟨h3,h4⟩:=cstr_take h1 h2
  have hcv:=(h.take k).conv k cap (by rw [List.length_take];omega)
  rw [h3]
  have hkn:k≤n:=by omega
  have hkc:k≤cap:=by omega
  have HB:=Lib.hid hib
  clear hib hz h1 h2 h3 h
  go_enter Tryz.func153,Tryz.ntmps153
  go_wp2_with (go_at_call 212;refine HB.out.mono ?_;rintro e w1 ⟨rfl,rfl⟩)
  go_ret
  exact ⟨rfl,rfl⟩
 ·obtain rfl:z=-1:=by omega
  have hcv:=h.conv n cap hl
  rw [cstr_none (fun hm=>by
   obtain ⟨j,hj,hv⟩:=List.mem_iff_getElem.1 hm
   exact Lib.indexByte_none hz j (by rw [List.getElem?_eq_getElem hj,hv]))]
  have HB:=Lib.hid hib
  clear hib hz h
  go_enter Tryz.func153,Tryz.ntmps153
  go_wp2_with (go_at_call 212;refine HB.out.mono ?_;rintro e w1 ⟨rfl,rfl⟩)
  go_ret
  exact ⟨rfl,rfl⟩
def OctF (l:List UInt8) (x:Nat):Prop:=∃d tl,l=d++tl∧OctDig d∧d≠ []∧(∀c∈tl,c=0∨c=32)∧octVal 0 d=x∧x < 1099511627776
theorem octDig_set (c:UInt8) (h:48≤c.toNat∧c.toNat≤55):([32,0]:List UInt8).contains c=false:=by
 have h1:c≠32:=fun e=>by subst e;exact absurd h.1 (by decide)
 have h2:c≠0:=fun e=>by subst e;exact absurd h.1 (by decide)
 simp [h1,h2]
theorem octF_right {d tl:List UInt8} (hd:OctDig d) (hn:d≠ []) (ht:∀c∈tl,c=0∨c=32):Lib.trimRightS (d++tl) [32,0]=d:=by
 rw [Lib.trimRightS_take (d++tl) [32,0] d.length (by simp) (fun j b hj hb=> ?_) (fun b h0 hb=> ?_),List.take_left]
 ·rw [List.getElem?_append_right hj] at hb
  rcases ht b (List.mem_of_getElem? hb) with rfl | rfl<;>decide
 ·rw [List.getElem?_append_left (by omega)] at hb
  exact octDig_set b (hd b (List.mem_of_getElem? hb))
theorem octF_trim {d tl:List UInt8} (hd:OctDig d) (hn:d≠ []) (ht:∀c∈tl,c=0∨c=32):Lib.trimS (d++tl) [32,0]=d:=by
 unfold Lib.trimS
 rw [octF_right hd hn ht,Lib.trimLeftS_drop d [32,0] 0 (by omega) (fun j b hj=>by omega) (fun b hb=>octDig_set b (hd b (List.mem_of_getElem? hb)))]
 rfl
theorem ascii320:∀(j:Nat) b,(⟨#[32,0]⟩:ByteArray).data.toList[j]? =some b→b.toNat < 128:=by
 intro j b h
 have:b=32∨b=0:=by simpa using List.mem_of_getElem? h
 rcases this with rfl | rfl<;>decide
theorem i371:(Tryz.prog.info? 371).map (fun i=>(i.zero,i.size))=some (some (.agg (Array.replicate 256 (.bool false))),256):=by kernel_rfl
set_option maxRecDepth 100000 in
set_option maxHeartbeats 800000 in
theorem trim_oct (t q n cap:Nat) (d tl:List UInt8) (w:World) (h:ByAt t q (d++tl) w) (hl:(d++tl).length=n) (hnc:n≤cap) (hcap:cap≤140737488355328) (hd:OctDig d) (hn:d≠ []) (ht:∀c∈tl,c=0∨c=32) :
  Calls Tryz.prog 275 #[.slice (some ⟨t,q,none⟩) n cap,.string ⟨#[32,0]⟩] w fun e w'=>e=.returned (.slice (some ⟨t,q,none⟩) d.length cap)∧Chg [] w w':=by
 have hdl:0 < d.length:=List.length_pos_iff.2 hn
 refine (Any.bytes_Trim_ascii Tryz.laysV6 (zero_of_info i371).1 (zero_of_info i371).2 (some ⟨t,q,none⟩) n cap (d++tl) ⟨#[32,0]⟩ w hl hnc (by omega) (fun _=>⟨t,q,rfl,fun i hi=> ?_⟩) (by decide) ascii320).mono ?_
 ·rw [h i (by omega),List.getD_eq_getElem?_getD,List.getElem?_eq_getElem (by omega)]
  rfl
 ·rintro e w' ⟨rfl,hb⟩
  refine ⟨?_,Chg.ofBelow hb⟩
  have e1:Lib.trimRightS (d++tl) (⟨#[32,0]⟩:ByteArray).data.toList=d:=octF_right hd hn ht
  have e2:Lib.trimS (d++tl) (⟨#[32,0]⟩:ByteArray).data.toList=d:=octF_trim hd hn ht
  rw [e1,e2,Nat.sub_self]
  unfold Lib.leftV Lib.fromV
  rw [if_neg (by omega)]
  by_cases hc:cap=0
  ·rw [if_pos hc];subst hc;simp
  ·rw [if_neg hc];simp [add_addr]
set_option maxRecDepth 100000 in
set_option maxHeartbeats 800000 in
theorem parseUint_8 (s:ByteArray) (w:World) (hs:s.size≤1000) (h0:0 < s.size) (hd:OctDig s.data.toList) (hv:octVal 0 s.data.toList < 1099511627776) :
  Calls Tryz.prog 276 #[.string s,.int .i64 8,.int .i64 64] w fun e w'=>e=.returned (.tuple #[.int .u64 (octVal 0 s.data.toList),.nilIface])∧Chg [] w w':=by
 have HD:=Lib.hid hd;have HV:=Lib.hid hv
 clear hd hv
 go_enter Tryz.func276,Tryz.ntmps276
 go_wp2_with (go_at_call 278;refine (pu8 s _ hs h0 HD.out HV.out).mono ?_;rintro e w1 ⟨rfl,hc⟩)
 go_ret2
 exact ⟨rfl,hc⟩
set_option maxRecDepth 100000 in
set_option maxHeartbeats 800000 in
theorem parseOctal_ok (pf:Value) (t q n cap x:Nat) (l:List UInt8) (w:World) (h:ByAt t q l w) (hl:l.length=n) (hn:n≤512) (hnc:n≤cap) (hcap:cap≤140737488355328) (hx:OctF l x) :
  Calls Tryz.prog 237 #[pf,.slice (some ⟨t,q,none⟩) n cap] w fun e w'=>e=.returned (.int .i64 x)∧Chg [] w w':=by
 obtain ⟨d,tl,rfl,hd,hne,ht,rfl,hlt⟩:=hx
 have hdl:0 < d.length:=List.length_pos_iff.2 hne
 have hdn:d.length≤n:=by rw [←hl];simp
 have htr:=trim_oct t q n cap d tl w h hl hnc hcap hd hne ht
 have hby:ByAt t q d w:=by
  have:=h.take d.length
  rw [List.take_left] at this
  exact this
 have h00:(0:UInt8)∉d:=fun hm=>absurd (hd 0 hm).1 (by decide)
 have hps:∀w1,Chg [] w w1→Calls Tryz.prog 153 #[pf,.slice (some ⟨t,q,none⟩) d.length cap] w1 fun e w'=>e=.returned (.string ⟨d.toArray⟩)∧w1=w':=by
  intro w1 hc
  have:=parseString_any pf t q d.length cap d w1 (hby.chg hc (by simp)) rfl (by omega) hcap
  rw [cstr_none h00] at this
  exact this
 have hpu:=fun w1=>parseUint_8 ⟨d.toArray⟩ w1 (by show d.toArray.size≤1000;simp;omega) (by show 0 < d.toArray.size;simpa using hdl) hd hlt
 have hcv:(convert 124 2 (.int .u64 (octVal 0 d)))=(convert 124 2 (.int .u64 (octVal 0 d))):=rfl
 have hd0:¬((d.length:Int)=0):=by omega
 have HT:=Lib.hid htr;have HP:=Lib.hid hps;have HU:=Lib.hid hpu
 clear htr hps hpu hcv h hl hd ht hby h00
 generalize octVal 0 d=x at*
 go_enter Tryz.func237,Tryz.ntmps237
 go_wp2_with (first
  | (go_at_call 275;refine HT.out.mono ?_;rintro e w1 ⟨rfl,hc1⟩)
  | (go_at_call 153;refine (HP.out _ hc1).mono ?_;rintro e w2 ⟨rfl,rfl⟩)
  | (go_at_call 276;refine (HU.out _).mono ?_;rintro e w3 ⟨rfl,hc3⟩))
 go_ret
 exact ⟨rfl,hc1.trans hc3⟩
theorem and128_low (c:UInt8) (h:c.toNat < 128):bits .and .u8 (c.toNat:Int) 128=0:=by
 have:∀n:Fin 128,bits .and .u8 ((n.val:Nat):Int) 128=0:=by decide+kernel
 exact this ⟨c.toNat,h⟩
def ParsesN (l:List UInt8) (x:Int):Prop:=∀(pf:Value) (t q n cap:Nat) (w:World),ByAt t q l w→l.length=n→n≤512→n≤cap→cap≤140737488355328→
 Calls Tryz.prog 199 #[pf,.slice (some ⟨t,q,none⟩) n cap] w fun e w'=>e=.returned (.int .i64 x)∧Chg [] w w'
set_option maxRecDepth 100000 in
set_option maxHeartbeats 800000 in
theorem parses_oct {l:List UInt8} {x:Nat} (hx:OctF l x):ParsesN l x:=by
 intro pf t q n cap w h hl hn hnc hcap
 have hpo:=parseOctal_ok pf t q n cap x l w h hl hn hnc hcap hx
 obtain ⟨d,tl,hde,hd,hne,ht,_,_⟩:=hx
 have hdl:0 < d.length:=List.length_pos_iff.2 hne
 have hln:0 < l.length:=by rw [hde];simp;omega
 have hc:=h 0 hln
 rw [Nat.add_zero] at hc
 have hb:(l[0]).toNat < 128:=by
  have:l[0]∈d:=by
   have:l[0]=d[0]:=by
    have e:l[0]? =d[0]? :=by rw [hde,List.getElem?_append_left hdl]
    rw [List.getElem?_eq_getElem hln,List.getElem?_eq_getElem hdl] at e
    injection e
   rw [this];exact List.getElem_mem hdl
  have:=hd _ this
  omega
 have h128:=and128_low _ hb
 have hn0:(0:Int) < n:=by omega
 have hn1:0 < n:=by omega
 have HP:=Lib.hid hpo
 clear hpo hde hd ht h hne hdl hb hl
 generalize l[0]=c at hc h128
 go_enter Tryz.func199,Tryz.ntmps199
 go_wp2_with (go_at_call 237;refine HP.out.mono ?_;rintro e w1 ⟨rfl,hc1⟩)
 go_ret
 exact ⟨rfl,hc1⟩
end Go.Proofs.YtkanmkcojlefbaaGreatDoor
namespace Go.Proofs.YtkanmkcojlefbaaGreatDoor
open Go.RowKit Go.Maps Go.WideMaps
open Go.WideElems (Fit rd rg pl rd_key rd_val rg_of)
abbrev KV:=ByteArray→Option ByteArray
def kl (s:ByteArray):Lit:=.string s.data.toList
theorem kl_inj {s t:ByteArray} (h:kl s=kl t):s=t:=by
 unfold kl at h
 injection h with h
 exact ByteArray.ext (Array.ext' h)
def KV.set (f:KV) (k v:ByteArray):KV:=fun x=>if x=k then some v else f x
theorem KV.set_same (f:KV) (k v:ByteArray):KV.set f k v k=some v:=if_pos rfl
theorem KV.set_other (f:KV) (k v x:ByteArray) (h:x≠k):KV.set f k v x=f x:=if_neg h
theorem keyS {s:ByteArray} (h:s.size≤maxLen):keyOf Tryz.prog 9 (.string s)=some (kl s):=keyOf_string_mk Tryz.underlying9 h
theorem keyS_inv {v:Value} {k:Lit} (h:keyOf Tryz.prog 9 v=some k):∃s,v=.string s∧k=kl s∧s.size≤maxLen:=by
 cases v<;>simp [keyOf,Tryz.underlying9,mapKey] at h
 obtain ⟨h1,rfl⟩:=h
 exact ⟨_,rfl,rfl,h1⟩
theorem laws9:Keyed Tryz.prog 9:=string_keyed Tryz.underlying9
theorem u127:Tryz.prog.underlying 127=some (.map 9 9):=by kernel_rfl
theorem zero9 (w:World):(zeroValue 9).run Tryz.prog w=.ok (.string ⟨#[]⟩) w:=by kernel_rfl
def Tells (D:DataW Unit) (f:KV):Prop:=∀s:ByteArray,s.size≤maxLen→Maps.has D (kl s)=(f s).isSome∧∀v,f s=some v→∀z,D.atKey (kl s) z=.lit (.string v.data.toList)
def MapS (b n:Nat) (f:KV) (w:World):Prop:=∃D:DataW Unit,w.ownsMap Tryz.prog 9 (plainElem Tryz.prog 9) b n D∧Tells D f
theorem MapS.heap_eq {b n:Nat} {f:KV} {w w':World} (h:MapS b n f w) (e:w'.heap[b]? =w.heap[b]?):MapS b n f w':=by
 obtain ⟨D,⟨es,clock,hb,F,hs,hD⟩,ht⟩:=h
 exact ⟨D,⟨es,clock,e.trans hb,F,hs,hD⟩,ht⟩
theorem MapS.lt {b n:Nat} {f:KV} {w:World} (h:MapS b n f w):b < w.heap.size:=by
 obtain ⟨D,ho,_⟩:=h
 exact ho.lt
theorem MapS.chg {b n:Nat} {f:KV} {S:List Nat} {w w':World} (h:MapS b n f w) (k:Chg S w w') (hn:b∉S):MapS b n f w':=h.heap_eq (k.block b h.lt hn)
theorem MapS.mono {b n m:Nat} {f:KV} {w:World} (h:MapS b n f w) (hm:n≤m):MapS b m f w:=by
 obtain ⟨D,ho,ht⟩:=h
 exact ⟨D,ho.mono hm,ht⟩
theorem MapS.made (w:World):MapS w.heap.size 0 (fun _=>none) (w.alloc (.map #[] 0)):=
 ⟨_,World.ownsMap_made w _ _ _,fun s _=>⟨rfl,fun v h=>by cases h⟩⟩
theorem MapS.obj {b n:Nat} {f:KV} {w:World} (h:MapS b n f w):∃es clock,w.heap[b]? =some (.map es clock):=by
 obtain ⟨D,⟨es,clock,hb,_⟩,_⟩:=h
 exact ⟨es,clock,hb⟩
set_option maxRecDepth 100000 in
theorem MapS.look {b n:Nat} {f:KV} {w:World} (h:MapS b n f w) (s:ByteArray) (hs:s.size≤maxLen):(Instr.lookup 127 (.map (some b)) (.string s) false).run Tryz.prog w=.ok (.string ((f s).getD ⟨#[]⟩)) w:=by
 obtain ⟨D,ho,ht⟩:=h
 obtain ⟨h1,h2⟩:=ht s hs
 obtain ⟨v,ps,hrun,hv⟩:=ho.lookup laws9 u127 (zero9 w) (plainElem_string Tryz.underlying9 (s:=⟨#[]⟩) (Nat.zero_le _)) (keyS hs)
 obtain ⟨s',rfl,hz,_⟩:=plainElem_string_inv Tryz.underlying9 hv
 refine hrun.trans (congrArg (fun x=>Result.ok (Value.string x) w) ?_)
 simp only [Prod.mk.injEq] at hz
 cases hf:f s with
 | none=>
  rw [hf] at h1
  rw [atKey_of_not_has h1] at hz
  have e:=hz.1
  injection e with e
  injection e with e
  exact (ByteArray.ext (Array.ext' e)).symm
 | some u=>
  rw [h2 u hf] at hz
  have e:=hz.1
  injection e with e
  injection e with e
  exact (ByteArray.ext (Array.ext' e)).symm
set_option maxRecDepth 100000 in
theorem MapS.lookOk {b n:Nat} {f:KV} {w:World} (h:MapS b n f w) (s:ByteArray) (hs:s.size≤maxLen):(Instr.lookup 127 (.map (some b)) (.string s) true).run Tryz.prog w=.ok (.tuple #[.string ((f s).getD ⟨#[]⟩),.bool (f s).isSome]) w:=by
 obtain ⟨D,ho,ht⟩:=h
 obtain ⟨h1,h2⟩:=ht s hs
 obtain ⟨v,ps,hrun,hv⟩:=ho.look_ok laws9 u127 (zero9 w) (plainElem_string Tryz.underlying9 (s:=⟨#[]⟩) (Nat.zero_le _)) (keyS hs)
 obtain ⟨s',rfl,hz,_⟩:=plainElem_string_inv Tryz.underlying9 hv
 rw [hrun,h1]
 have:s'=(f s).getD ⟨#[]⟩:=by
  simp only [Prod.mk.injEq] at hz
  cases hf:f s with
  | none=>
   rw [hf] at h1
   rw [atKey_of_not_has h1] at hz
   have e:=hz.1
   injection e with e
   injection e with e
   exact (ByteArray.ext (Array.ext' e)).symm
  | some u=>
   rw [h2 u hf] at hz
   have e:=hz.1
   injection e with e
   injection e with e
   exact (ByteArray.ext (Array.ext' e)).symm
 rw [this]
theorem look_nilMap (s:ByteArray) (hs:s.size≤maxLen) (w:World):(Instr.lookup 127 (.map none) (.string s) false).run Tryz.prog w=.ok (.string ⟨#[]⟩) w:=by
 have:=Maps.look_nil (t:=127) false laws9 u127 (zero9 w) (keyS hs)
 simpa using this
theorem look_nilOk (s:ByteArray) (hs:s.size≤maxLen) (w:World):(Instr.lookup 127 (.map none) (.string s) true).run Tryz.prog w=.ok (.tuple #[.string ⟨#[]⟩,.bool false]) w:=by
 have:=Maps.look_nil (t:=127) true laws9 u127 (zero9 w) (keyS hs)
 simpa using this
theorem isKey_kl (s:ByteArray) (h:s.size≤maxLen):WideAt.IsKeyLit (kl s):=laws9.key (keyS h)
set_option maxRecDepth 100000 in
theorem MapS.store {b n:Nat} {f:KV} {w:World} (h:MapS b n f w) (hn:n < maxLen) (s v:ByteArray) (hs:s.size≤maxLen) (hv:v.size≤maxLen) :
  ∃w',(Instr.mapUpdate 127 (.map (some b)) (.string s) (.string v)).run Tryz.prog w=.ok () w'∧MapS b (n+1) (KV.set f s v) w'∧Chg [b] w w':=by
 obtain ⟨D,ho,ht⟩:=h
 obtain ⟨w',hrun,ho',htu⟩:=ho.store laws9 u127 hn (keyS hs) (plainElem_string Tryz.underlying9 hv)
 refine ⟨w',hrun,⟨_,ho',fun x hx=> ?_⟩,?_⟩
 ·by_cases e:x=s
  ·subst e
   refine ⟨by rw [has_put_same ho.isMap (isKey_kl x hs),KV.set_same];rfl,fun u hu z=> ?_⟩
   rw [atKey_put_same ho.isMap (isKey_kl x hs)]
   rw [KV.set_same] at hu
   injection hu with hu
   rw [hu]
  ·have hne:kl x≠kl s:=fun h=>e (kl_inj h)
   rw [has_put_other hne]
   obtain ⟨h1,h2⟩:=ht x hx
   rw [KV.set_other _ _ _ _ e]
   refine ⟨h1,fun u hu z=> ?_⟩
   rw [atKey_put_other hne]
   exact h2 u hu z
 ·have hg:=htu.grown
  exact ⟨hg.os,hg.tape,hg.output,hg.size,fun k hk hne=>hg.block k hk (fun e=>hne (by cases e;simp))⟩
set_option maxRecDepth 100000 in
theorem MapS.len {b n:Nat} {f:KV} {w:World} (h:MapS b n f w) (ty:TypeId):∃m:Nat,(Builtin.len_ #[127] ty #[.map (some b)]).run Tryz.prog w=.ok (.int .i64 m) w∧m≤n∧((∃s v,s.size≤maxLen∧f s=some v)→0 < m)∧((∀s,f s=none)→m=0):=by
 obtain ⟨D,ho,ht⟩:=h
 obtain ⟨es,rfl,hp,hk⟩:=ho.entries laws9
 refine ⟨_,ho.len u127 ty,ho.size_le,fun ⟨s,v,hs,hv⟩=> ?_,fun hf=> ?_⟩
 ·have h1:=(ht s hs).1
  rw [hv] at h1
  rw [Maps.size_eq]
  cases es with
  | nil=>simp [Maps.has] at h1
  | cons p r=>simp
 ·rw [Maps.size_eq]
  obtain ⟨es',clock,hb,F,hs,hD⟩:=ho
  have hstr:∀p∈es,∃s:ByteArray,p.1=kl s∧s.size≤maxLen:=by
   intro p hpm
   injection hD with hD
   rw [hD] at hpm
   obtain ⟨x,hx,rfl⟩:=List.mem_map.1 (mem_sorted.1 hpm)
   obtain ⟨y,hy⟩:=F.reads x hx
   rw [rg_of hy]
   obtain ⟨s,_,h2,h3⟩:=keyS_inv (rd_key hy)
   exact ⟨s,h2,h3⟩
  cases es with
  | nil=>rfl
  | cons p r=>
   obtain ⟨s,h1,h2⟩:=hstr p (by simp)
   have h3:=(ht s h2).1
   rw [hf s,Maps.has_eq] at h3
   simp [h1,WideAt.sameKey_self (isKey_kl s h2)] at h3
def RngS (b r n:Nat) (f:KV) (left:ByteArray→Bool) (cnt:Nat) (w:World):Prop:=
 ∃(D:DataW Unit) (l:Lit→Bool),w.ranges Tryz.prog 9 (plainElem Tryz.prog 9) b r n D l cnt∧Tells D f∧∀s,s.size≤maxLen→left s=l (kl s)
theorem chg_of_grown {w w':World} {r:Nat} (hg:w.grownBy w' (some r)):Chg [r] w w':=⟨hg.os,hg.tape,hg.output,hg.size,fun k hk hne=>hg.block k hk (fun e=>hne (by cases e;simp))⟩
theorem chg_of_grown0 {w w':World} (hg:w.grownBy w' none):Chg [] w w':=⟨hg.os,hg.tape,hg.output,hg.size,fun k hk hne=>hg.block k hk (by simp)⟩
theorem MapS.range {b n:Nat} {f:KV} {w:World} (h:MapS b n f w) :
  ∃w' cnt,(Instr.range 127 (.map (some b))).run Tryz.prog w=.ok (.pointer (some ⟨w.heap.size,0,none⟩)) w'∧RngS b w.heap.size n f (fun s=>(f s).isSome) cnt w'∧Chg [] w w'∧w'.heap.size=w.heap.size+1:=by
 obtain ⟨D,ho,ht⟩:=h
 obtain ⟨w',h1,h2,h3,h4⟩:=ho.range laws9 u127
 exact ⟨w',_,h1,⟨D,_,h2,ht,fun s hs=>((ht s hs).1).symm⟩,chg_of_grown0 h3,h4⟩
theorem RngS.map {b r n:Nat} {f:KV} {left:ByteArray→Bool} {cnt:Nat} {w:World} (h:RngS b r n f left cnt w):MapS b n f w:=by
 obtain ⟨D,l,h1,ht,_⟩:=h
 exact ⟨D,h1.owns,ht⟩
theorem RngS.heap_eq {b r n:Nat} {f:KV} {left:ByteArray→Bool} {cnt:Nat} {w w':World} (h:RngS b r n f left cnt w) (e1:w'.heap[b]? =w.heap[b]?) (e2:w'.heap[r]? =w.heap[r]?):RngS b r n f left cnt w':=by
 obtain ⟨D,l,⟨es,clock,since,seen,c0,hb,F,hs,hD,hr,rest⟩,ht,hl⟩:=h
 exact ⟨D,l,⟨es,clock,since,seen,c0,e1.trans hb,F,hs,hD,e2.trans hr,rest⟩,ht,hl⟩
theorem RngS.lt {b r n:Nat} {f:KV} {left:ByteArray→Bool} {cnt:Nat} {w:World} (h:RngS b r n f left cnt w):r < w.heap.size:=by
 obtain ⟨D,l,h1,_⟩:=h
 exact h1.lt
theorem RngS.chg {b r n:Nat} {f:KV} {left:ByteArray→Bool} {cnt:Nat} {S:List Nat} {w w':World} (h:RngS b r n f left cnt w) (k:Chg S w w') (h1:b∉S) (h2:r∉S):RngS b r n f left cnt w':=
 h.heap_eq (k.block b h.map.lt h1) (k.block r h.lt h2)
theorem RngS.cnt_eq {b r n:Nat} {f:KV} {left:ByteArray→Bool} {cnt:Nat} {w:World} (h:RngS b r n f left cnt w):w.rangeLeft b r=cnt:=by
 obtain ⟨D,l,h1,_⟩:=h
 exact h1.left_eq
set_option maxRecDepth 100000 in
theorem RngS.next {b r n:Nat} {f:KV} {left:ByteArray→Bool} {cnt:Nat} {w:World} (h:RngS b r n f left cnt w) (ty:TypeId) :
  ((∀s,s.size≤maxLen→left s=false)∧(Instr.next (.pointer (some ⟨r,0,none⟩)) false ty).run Tryz.prog w=.ok (.tuple #[.bool false]) w)∨
  ∃s v w' cnt',s.size≤maxLen∧v.size≤maxLen∧left s=true∧f s=some v∧(Instr.next (.pointer (some ⟨r,0,none⟩)) false ty).run Tryz.prog w=.ok (.tuple #[.bool true,.string s,.string v]) w'∧
   RngS b r n f (fun x=>left x && !decide (x=s)) cnt' w'∧cnt' < cnt∧Chg [r] w w'∧(Instr.entry (.pointer (some ⟨r,0,none⟩))).run Tryz.prog w'=.ok (.tuple #[.string s,.string v]) w':=by
 obtain ⟨D,l,h1,ht,hl⟩:=h
 rcases h1.next laws9 ty with ⟨_,h2,h3⟩ | ⟨key,v,k,y,w',cnt',hk,hlk,hv,hat,hrun,hr,hlt,hg,_,hen⟩
 ·exact .inl ⟨fun s hs=>by rw [hl s hs];exact h2 _,h3⟩
 ·obtain ⟨s,rfl,rfl,hs⟩:=keyS_inv hk
  obtain ⟨u,rfl,rfl,hu⟩:=plainElem_string_inv Tryz.underlying9 hv
  have hhas:=has_true_of_atKey hat
  obtain ⟨t1,t2⟩:=ht s hs
  rw [hhas] at t1
  obtain ⟨u',hu'⟩:=Option.isSome_iff_exists.1 t1.symm
  have e:=(t2 u' hu' (.lit (.bool true))).symm.trans (hat (.lit (.bool true)))
  injection e with e
  injection e with e
  have:u'=u:=ByteArray.ext (Array.ext' e)
  subst this
  refine .inr ⟨s,u',w',cnt',hs,hu,by rw [hl s hs];exact hlk,hu',hrun,⟨D,_,hr,ht,fun x hx=> ?_⟩,hlt,chg_of_grown hg,hen⟩
  show (left x && !decide (x=s))=(l (kl x) && !(kl x).sameKey (kl s))
  rw [hl x hx]
  congr 1
  by_cases e2:x=s
  ·subst e2
   rw [WideAt.sameKey_self (isKey_kl x hx)]
   simp
  ·rw [sameKey_ne (fun h=>e2 (kl_inj h))]
   simp [e2]
theorem RngS.ne {b r n:Nat} {f:KV} {left:ByteArray→Bool} {cnt:Nat} {w:World} (h:RngS b r n f left cnt w):r≠b:=by
 obtain ⟨D,l,h1,_⟩:=h
 exact h1.ne
end Go.Proofs.YtkanmkcojlefbaaGreatDoor
