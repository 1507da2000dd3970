/-
  splitUSTARPath · writeUSTARHeader: a header of USTAR goes to the buffer as one block · splitUSTARPath: what it makes of any name · What templateV7Plus makes of a header, in one form for all formats.
-/
import Derived.Test.YtkanmkcojlefbaaGreatDoorJ03
import Derived.Test.YtkanmkcojlefbaaGreatDoorJ02
import Derived.Test.YtkanmkcojlefbaaGreatDoorJ08
import Derived.Test.YtkanmkcojlefbaaGreatDoorJ06
set_option linter.unusedVariables false
namespace Go.Proofs.YtkanmkcojlefbaaGreatDoor
open Go.RowKit
theorem split_short (s:ByteArray) (w:World) (h:s.size≤100):Calls Tryz.prog 97 #[.string s] w fun e w'=>e=.returned (.tuple #[.string ⟨#[]⟩,.string ⟨#[]⟩,.bool false])∧Chg [] w w':=by
 go_enter Tryz.func97,Tryz.ntmps97
 go_wp2
 go_ret3
 exact ⟨rfl,Chg.refl _ _⟩
theorem split_raw (s:ByteArray) (w:World) (hs:s.size≤140737488355328) (hl:100 < s.size) (h:ascii s.data.toList=false):Calls Tryz.prog 97 #[.string s] w fun e w'=>e=.returned (.tuple #[.string ⟨#[]⟩,.string ⟨#[]⟩,.bool false])∧Chg [] w w':=by
 have hl':¬s.size≤100:=by omega
 go_enter Tryz.func97,Tryz.ntmps97
 go_wp2_with (go_at_call 96;refine (isASCII_any s _).mono ?_;rw [h];rintro e w1 ⟨rfl,hc⟩)
 go_ret3
 exact ⟨rfl,hc⟩
def SpLen (s:ByteArray) (n:Nat):Prop:=(156 < s.size∧n=156)∨(s.size≤156∧∃h:s.size - 1 < s.size,s[s.size - 1]=47∧n=s.size - 1)∨(s.size≤156∧∃h:s.size - 1 < s.size,s[s.size - 1]≠47∧n=s.size)
set_option maxRecDepth 100000 in
set_option maxHeartbeats 1000000 in
theorem split_fail (s:ByteArray) (n:Nat) (z:Int) (w:World) (hs:s.size≤140737488355328) (hl:100 < s.size) (h:ascii s.data.toList=true) (hn:SpLen s n) (hi:Lib.lastIndexByte (s.extract 0 n) 47=z) (hzl : -1≤z) (hzu:z≤155) (hbad:z≤0∨100 < (s.size:Int) - z - 1) :
  Calls Tryz.prog 97 #[.string s] w fun e w'=>e=.returned (.tuple #[.string ⟨#[]⟩,.string ⟨#[]⟩,.bool false])∧Chg [] w w':=by
 have hl':¬s.size≤100:=by omega
 have hsz:(s.extract 0 n).size < 4611686018427387904:=by simp;omega
 rcases hn with ⟨ha,rfl⟩ | ⟨ha,hb,hc,rfl⟩ | ⟨ha,hb,hc,rfl⟩
 ·go_enter Tryz.func97,Tryz.ntmps97
  go_wp2_with (first | (go_at_call 96;refine (isASCII_any s _).mono ?_;rw [h];rintro e w1 ⟨rfl,hc1⟩) | (go_at_call 167;refine (Tryz.strings_LastIndex_one (s.extract 0 156) ⟨#[47]⟩ rfl hsz _).mono ?_;rintro e w2 ⟨rfl,rfl⟩;(show _ ;rw [show Lib.lastIndexByte (s.extract 0 156) ((((⟨#[47]⟩:ByteArray)[0]'(by decide)).toNat:Nat):Int)=z from hi])))
  all_goals
   first
    | (go_ret3;exact ⟨rfl,hc1⟩)
    | (exfalso;omega)
 ·have ha':¬156 < s.size:=by omega
  have ht:(((s[s.size - 1]).toNat:Int) == 47)=true:=by rw [hc];rfl
  have hjj:((s.size:Int) - 1)=((s.size - 1:Nat):Int):=by omega
  clear hc
  go_enter Tryz.func97,Tryz.ntmps97
  go_wp2_with (first | (go_at_call 96;refine (isASCII_any s _).mono ?_;rw [h];rintro e w1 ⟨rfl,hc1⟩) | (go_at_call 167;refine (Tryz.strings_LastIndex_one (s.extract 0 (s.size - 1)) ⟨#[47]⟩ rfl hsz _).mono ?_;rintro e w2 ⟨rfl,rfl⟩;(show _ ;rw [show Lib.lastIndexByte (s.extract 0 (s.size - 1)) ((((⟨#[47]⟩:ByteArray)[0]'(by decide)).toNat:Nat):Int)=z from hi])))
  all_goals
   first
    | (go_ret3;exact ⟨rfl,hc1⟩)
    | (exfalso;omega)
 ·have ha':¬156 < s.size:=by omega
  have ht:(((s[s.size - 1]).toNat:Int) == 47)=false:=by
   simp only [beq_eq_false_iff_ne,ne_eq]
   intro e
   exact hc (UInt8.toNat_inj.1 (by show _=47;omega))
  have hjj:((s.size:Int) - 1)=((s.size - 1:Nat):Int):=by omega
  have hfull:s.extract 0 s.size=s:=ByteArray.extract_zero_size
  rw [hfull] at hi hsz
  clear hc
  go_enter Tryz.func97,Tryz.ntmps97
  go_wp2_with (first | (go_at_call 96;refine (isASCII_any s _).mono ?_;rw [h];rintro e w1 ⟨rfl,hc1⟩) | (go_at_call 167;refine (Tryz.strings_LastIndex_one s ⟨#[47]⟩ rfl hsz _).mono ?_;rintro e w2 ⟨rfl,rfl⟩;(show _ ;rw [show Lib.lastIndexByte s ((((⟨#[47]⟩:ByteArray)[0]'(by decide)).toNat:Nat):Int)=z from hi])))
  all_goals
   first
    | (go_ret3;exact ⟨rfl,hc1⟩)
    | (exfalso;omega)
end Go.Proofs.YtkanmkcojlefbaaGreatDoor
namespace Go.Proofs.YtkanmkcojlefbaaGreatDoor
open Go.RowKit
def SplitAs (s p q:ByteArray) (ok:Bool):Prop:=∀w,Calls Tryz.prog 97 #[.string s] w fun e w'=>e=.returned (.tuple #[.string p,.string q,.bool ok])∧Chg [] w w'
def wcells (b rw:Nat) (pad:Int) (th:TH) (L:List UInt8):Array Value:=
 (Value.iface 75 (.pointer (some ⟨b,0,none⟩))::.int .i64 pad::.iface 119 (.pointer (some ⟨rw,0,none⟩))::th.cells++bvs L++ [Value.nilIface]).toArray
theorem wcells_size (b rw:Nat) (pad:Int) (th:TH) (L:List UInt8) (hL:L.length=512):(wcells b rw pad th L).size=536:=by
 simp [wcells,TH.cells,hL]
theorem wcells_535 (b rw:Nat) (pad:Int) (th:TH) (L:List UInt8) (hL:L.length=512):(wcells b rw pad th L)[535]? =some .nilIface:=by
 unfold wcells
 rw [List.getElem?_toArray,List.getElem?_append_right (by simp [TH.cells,hL])]
 simp [TH.cells,hL]
theorem wcells_blk (b rw:Nat) (pad:Int) (th:TH) (L:List UInt8) (hL:L.length=512) (j:Nat) (hj:j < 512):(wcells b rw pad th L)[23+j]? =(bvs L)[j]? :=by
 unfold wcells
 rw [List.getElem?_toArray,List.getElem?_append_left (by simp [TH.cells,hL];omega),List.getElem?_append_right (by simp [TH.cells])]
 congr 1
 simp [TH.cells]
theorem WrAt.ofWB {tw b rw:Nat} {pad nb:Int} {th:TH} {L:List UInt8} {w:World} (h:WB tw (.iface 75 (.pointer (some ⟨b,0,none⟩))) (.int .i64 pad) (.iface 119 (.pointer (some ⟨rw,0,none⟩))) th L .nilIface w) (hL:L.length=512)
  (hr:w.heap[rw]? =some (.cells #[.iface 75 (.pointer (some ⟨b,0,none⟩)),.int .i64 nb] 121 (0,0))):WrAt tw b rw pad nb (wcells b rw pad th L) w:=
 ⟨h,wcells_size _ _ _ _ _ hL,rfl,rfl,rfl,wcells_535 _ _ _ _ _ hL,hr⟩
end Go.Proofs.YtkanmkcojlefbaaGreatDoor
namespace Go.Proofs.YtkanmkcojlefbaaGreatDoor
open Go.RowKit
set_option maxRecDepth 100000 in
set_option maxHeartbeats 1000000 in
theorem split_ok (s:ByteArray) (n i:Nat) (w:World) (hs:s.size≤140737488355328) (hl:100 < s.size) (h:ascii s.data.toList=true) (hn:SpLen s n) (hi:Lib.lastIndexByte (s.extract 0 n) 47=(i:Int)) (hi0:1≤i) (hin:i≤155) (his:i+1 < s.size) (hok:s.size - i - 1≤100) :
  Calls Tryz.prog 97 #[.string s] w fun e w'=>e=.returned (.tuple #[.string (s.extract 0 i),.string (s.extract (i+1) s.size),.bool true])∧Chg [] w w':=by
 have hl':¬s.size≤100:=by omega
 have hsz:(s.extract 0 n).size < 4611686018427387904:=by simp;omega
 have hi1:((i:Int)+1)=((i+1:Nat):Int):=by omega
 have d1:decide ((i:Int)≤0)=false:=decide_eq_false (by omega)
 have d2:decide (100 < (s.size:Int) - i - 1)=false:=decide_eq_false (by omega)
 have d3:((s.size:Int) - i - 1 == 0)=false:=by simp only [beq_eq_false_iff_ne,ne_eq];omega
 have d4:decide (155 < (i:Int))=false:=decide_eq_false (by omega)
 have w1:IntKind.i64.wrap ((i:Int)+1)=((i+1:Nat):Int):=by rw [IntKind.wrap_i64];omega
 rcases hn with ⟨ha,rfl⟩ | ⟨ha,hb,hc,rfl⟩ | ⟨ha,hb,hc,rfl⟩
 ·go_enter Tryz.func97,Tryz.ntmps97
  go_wp2_with (first | (go_at_call 96;refine (isASCII_any s _).mono ?_;rw [h];rintro e w1 ⟨rfl,hc1⟩) | (go_at_call 167;refine (Tryz.strings_LastIndex_one (s.extract 0 156) ⟨#[47]⟩ rfl hsz _).mono ?_;rintro e w2 ⟨rfl,rfl⟩;(show _ ;rw [show Lib.lastIndexByte (s.extract 0 156) ((((⟨#[47]⟩:ByteArray)[0]'(by decide)).toNat:Nat):Int)=(i:Int) from hi])))
  clear hi1
  go_quiet (fail)
  go_wp2
  go_ret3
  exact ⟨rfl,hc1.drewN _⟩
 ·have ha':¬156 < s.size:=by omega
  have ht:(((s[s.size - 1]).toNat:Int) == 47)=true:=by rw [hc];rfl
  have hjj:((s.size:Int) - 1)=((s.size - 1:Nat):Int):=by omega
  clear hc
  go_enter Tryz.func97,Tryz.ntmps97
  go_wp2_with (first | (go_at_call 96;refine (isASCII_any s _).mono ?_;rw [h];rintro e w1 ⟨rfl,hc1⟩) | (go_at_call 167;refine (Tryz.strings_LastIndex_one (s.extract 0 (s.size - 1)) ⟨#[47]⟩ rfl hsz _).mono ?_;rintro e w2 ⟨rfl,rfl⟩;(show _ ;rw [show Lib.lastIndexByte (s.extract 0 (s.size - 1)) ((((⟨#[47]⟩:ByteArray)[0]'(by decide)).toNat:Nat):Int)=(i:Int) from hi])))
  clear hi1
  go_quiet (fail)
  go_wp2
  go_ret3
  exact ⟨rfl,hc1.drewN _⟩
 ·have ha':¬156 < s.size:=by omega
  have ht:(((s[s.size - 1]).toNat:Int) == 47)=false:=by
   simp only [beq_eq_false_iff_ne,ne_eq]
   intro e
   exact hc (UInt8.toNat_inj.1 (by show _=47;omega))
  have hjj:((s.size:Int) - 1)=((s.size - 1:Nat):Int):=by omega
  have hfull:s.extract 0 s.size=s:=ByteArray.extract_zero_size
  rw [hfull] at hi hsz
  clear hc
  go_enter Tryz.func97,Tryz.ntmps97
  go_wp2_with (first | (go_at_call 96;refine (isASCII_any s _).mono ?_;rw [h];rintro e w1 ⟨rfl,hc1⟩) | (go_at_call 167;refine (Tryz.strings_LastIndex_one s ⟨#[47]⟩ rfl hsz _).mono ?_;rintro e w2 ⟨rfl,rfl⟩;(show _ ;rw [show Lib.lastIndexByte s ((((⟨#[47]⟩:ByteArray)[0]'(by decide)).toNat:Nat):Int)=(i:Int) from hi])))
  clear hi1
  go_quiet (fail)
  go_wp2
  go_ret3
  exact ⟨rfl,hc1.drewN _⟩
structure SplitOk (s p q:ByteArray):Prop where
 asc:ascii s.data.toList=true
 big:100 < s.size
 cat:s.data.toList=p.data.toList++47::q.data.toList
 p1:1≤p.size
 p2:p.size≤155
 q1:1≤q.size
 q2:q.size≤100
theorem spLen_ex (s:ByteArray) (hl:100 < s.size):∃n,SpLen s n∧n≤s.size∧n≤156∧(∀h:s.size - 1 < s.size,n=s.size→s[s.size - 1]≠47):=by
 by_cases h1:156 < s.size
 ·exact ⟨156,.inl ⟨h1,rfl⟩,by omega,by omega,fun _ h=>by omega⟩
 ·by_cases h2:s[s.size - 1]'(by omega)=47
  ·exact ⟨s.size - 1,.inr (.inl ⟨by omega,by omega,h2,rfl⟩),by omega,by omega,fun _ h=>by omega⟩
  ·exact ⟨s.size,.inr (.inr ⟨by omega,by omega,h2,rfl⟩),by omega,by omega,fun _ _=>h2⟩
theorem cut_at (s:ByteArray) (i:Nat) (h:i < s.size) (hc:s[i]=47):s.data.toList=(s.extract 0 i).data.toList++47::(s.extract (i+1) s.size).data.toList:=by
 have h1:(s.extract 0 i).data.toList=s.data.toList.take i:=by simp [ByteArray.data_extract]
 have h2:(s.extract (i+1) s.size).data.toList=s.data.toList.drop (i+1):=by
  rw [ByteArray.data_extract]
  simp
  have:(s.data.toList.drop (i+1)).length=s.size - (i+1):=by simp
  rw [←this,List.take_length]
 rw [h1,h2]
 have hl:i < s.data.toList.length:=by simpa using h
 have he:s.data.toList[i]=47:=hc
 rw [←he,←List.drop_eq_getElem_cons hl,List.take_append_drop]
theorem split_any (s:ByteArray) (hs:s.size≤140737488355328):(∃p q,SplitOk s p q∧SplitAs s p q true)∨SplitAs s ⟨#[]⟩ ⟨#[]⟩ false:=by
 by_cases hl:s.size≤100
 ·exact .inr fun w=>split_short s w hl
 cases ha:ascii s.data.toList with
 | false=>exact .inr fun w=>split_raw s w hs (by omega) ha
 | true=>
  obtain ⟨n,hn,hns,hn6,hlast⟩:=spLen_ex s (by omega)
  have hsz:(s.extract 0 n).size=n:=by simp;omega
  rcases Lib.lastIndexByte_spec (s.extract 0 n) 47 with ⟨e,_⟩ | ⟨i,hi,e,hc,_⟩
  ·exact .inr fun w=>split_fail s n (-1) w hs (by omega) ha hn e (by omega) (by omega) (by omega)
  ·rw [hsz] at hi
   by_cases hbad:i≤0∨100 < s.size - i - 1
   ·exact .inr fun w=>split_fail s n i w hs (by omega) ha hn e (by omega) (by omega) (by omega)
   ·have hc1:s[i]'(by omega)=47:=by
     have h1:(s.extract 0 n).data[i]! =s[i]'(by omega):=by
      rw [getElem!_pos _ _ (by show i < (s.extract 0 n).size;omega)]
      show (s.extract 0 n)[i]'(by omega)=_
      rw [ByteArray.getElem_extract]
      simp
     rw [h1] at hc
     exact UInt8.toNat_inj.1 (by show _=47;omega)
    have his:i+1 < s.size:=by
     by_cases hh:i+1=s.size
     ·exfalso
      have h2:=hlast (by omega) (by omega)
      apply h2
      have:s.size - 1=i:=by omega
      simp only [this]
      exact hc1
     ·omega
    refine .inl ⟨s.extract 0 i,s.extract (i+1) s.size,⟨ha,by omega,cut_at s i (by omega) hc1,by simp;omega,by simp;omega,by simp;omega,by simp;omega⟩,fun w=>split_ok s n i w hs (by omega) ha hn e (by omega) (by omega) his (by omega)⟩
end Go.Proofs.YtkanmkcojlefbaaGreatDoor
namespace Go.Proofs.YtkanmkcojlefbaaGreatDoor
open Go.RowKit
def TH.mts (th:TH):Int:=if th.ms=-62135596800∧th.mn=0 then 0 else th.ms
structure TmQ (QS:Nat→ByteArray→Prop) (QN:Nat→Int→Prop) (th:TH):Prop where
 nm:QS 100 th.name
 ln:QS 100 th.link
 md:QN 8 th.mode
 ui:QN 8 th.uid
 gi:QN 8 th.gid
 sz:QN 12 th.size
 mt:QN 12 th.mts
 un:QS 32 th.un
 gn:QS 32 th.gn
 dj:QN 8 th.dj
 dn:QN 8 th.dn
structure TmOk (PS:Nat→ByteArray→List UInt8→Prop) (PN:Nat→Int→List UInt8→Prop) (th:TH) (b:HB):Prop where
 ok:b.Ok
 nm:PS 100 th.name b.nm
 ln:PS 100 th.link b.ln
 md:PN 8 th.mode b.md
 ui:PN 8 th.uid b.ui
 gi:PN 8 th.gid b.gi
 sz:PN 12 th.size b.sz
 mt:PN 12 th.mts b.mt
 un:PS 32 th.un b.un
 gn:PS 32 th.gn b.gn
 dj:PN 8 th.dj b.dj
 dn:PN 8 th.dn b.dn
 tf:b.tf= [th.tf]
 ck:b.ck=List.replicate 8 0
 mg:b.mg=List.replicate 8 0
 px:b.px=List.replicate 155 0
 tl:b.tl=List.replicate 12 0
end Go.Proofs.YtkanmkcojlefbaaGreatDoor
