/-
  The reference's small functions: whether a text is ASCII, has a byte 0, is UTF-8; whether a path can be parted; verdicts.
-/
import Derived.Test.YtkanmkcojlefbaaGreatDoorJ03
import Derived.IntWalk
set_option linter.unusedVariables false
namespace Go.Proofs.YtkanmkcojlefbaaGreatDoor
open Go.RowKit
def VR (v:Int) (P:Prop):Prop:=(v=0∨v=1∨v=2)∧(v=1→P)
def RetV (e:Ending) (P:Prop):Prop:=∃v,e=.returned (.int .i64 v)∧VR v P
def RetN (e:Ending) (P:Prop):Prop:=∃b,e=.returned (.bool b)∧(b=false→P)
theorem RetN.yes {P:Prop}:RetN (.returned (.bool true)) P:=⟨true,rfl,fun h=>by cases h⟩
theorem RetN.no {P:Prop} (h:P):RetN (.returned (.bool false)) P:=⟨false,rfl,fun _=>h⟩
def RetB (e:Ending) (P:Prop):Prop:=∃b,e=.returned (.bool b)∧(b=true→P)
theorem VR.mono {v:Int} {P Q:Prop} (h:VR v P) (k:P→Q):VR v Q:=⟨h.1,fun e=>k (h.2 e)⟩
theorem RetV.zero {P:Prop}:RetV (.returned (.int .i64 0)) P:=⟨0,rfl,.inl rfl,fun h=>by cases h⟩
theorem RetV.two {P:Prop}:RetV (.returned (.int .i64 2)) P:=⟨2,rfl,.inr (.inr rfl),fun h=>by cases h⟩
theorem RetV.one {P:Prop} (h:P):RetV (.returned (.int .i64 1)) P:=⟨1,rfl,.inr (.inl rfl),fun _=>h⟩
theorem RetB.no {P:Prop}:RetB (.returned (.bool false)) P:=⟨false,rfl,fun h=>by cases h⟩
theorem RetB.yes {P:Prop} (h:P):RetB (.returned (.bool true)) P:=⟨true,rfl,fun _=>h⟩
theorem RetB.dec {P p:Prop} [Decidable p] (h:p→P):RetB (.returned (.bool (decide p))) P:=⟨_,rfl,fun e=>h (of_decide_eq_true e)⟩
theorem has_take_succ {l:List UInt8} {c:UInt8} {k:Nat} (hk:k < l.length) (h:has (l.take k) c=false) (hc:l[k]≠c):has (l.take (k+1)) c=false:=by
 rw [has_false] at h⊢
 rw [List.take_succ_eq_append_getElem hk]
 simp only [List.mem_append,List.mem_singleton,not_or]
 exact ⟨h,fun e=>hc e.symm⟩
set_option maxRecDepth 100000 in
set_option maxHeartbeats 400000 in
theorem sNUL_any (s:ByteArray) (w:World) (hs:s.size≤140737488355328):Calls Tryz.prog 82 #[.string s] w fun e w'=>RetN e (has s.data.toList 0=false)∧w=w':=by
 go_enter Tryz.func82,Tryz.ntmps82
 go_wp2
 go_loop [6] (fun i=>∃j:Nat,j≤s.size∧i=.int .i64 j∧has (s.data.toList.take j) 0=false) (fun i=>s.size - (intOf i).toNat)
 case atStart=>exact ⟨0,by omega,rfl,rfl⟩
 case round=>
  obtain ⟨j,hj,rfl,hh⟩:=hrel
  have HH:=Lib.hid hh
  clear hh
  by_cases hlt:j < s.size
  ·have hll:j < s.data.toList.length:=by simpa using hlt
   by_cases h0:s[j]=0
   ·have hz:((s[j]).toNat:Int)=0:=by rw [h0];rfl
    have hz':(((s[j]).toNat:Int) == 0)=true:=by rw [hz];rfl
    clear hz
    go_wp2
    go_ret
    exact ⟨RetN.yes,rfl⟩
   ·have hz':(((s[j]).toNat:Int) == 0)=false:=by
     simp only [beq_eq_false_iff_ne,ne_eq]
     intro e;exact h0 (UInt8.toNat_inj.1 (by show _=0;omega))
    go_wp2
    go_round
    case rel=>exact ⟨j+1,by omega,by go_num,has_take_succ hll HH.out h0⟩
    case measure=>simp [intOf];omega
  ·go_wp2
   go_ret
   refine ⟨RetN.no ?_,rfl⟩
   have:=HH.out
   rwa [List.take_of_length_le (by simp;omega)] at this
set_option maxRecDepth 100000 in
set_option maxHeartbeats 400000 in
theorem sASCII_any (s:ByteArray) (w:World) (hs:s.size≤140737488355328):Calls Tryz.prog 83 #[.string s] w fun e w'=>RetB e (ascii s.data.toList=true)∧w=w':=by
 go_enter Tryz.func83,Tryz.ntmps83
 go_wp2
 go_loop [6] (fun i=>∃j:Nat,j≤s.size∧i=.int .i64 j∧ascii (s.data.toList.take j)=true) (fun i=>s.size - (intOf i).toNat)
 case atStart=>exact ⟨0,by omega,rfl,rfl⟩
 case round=>
  obtain ⟨j,hj,rfl,hh⟩:=hrel
  have HH:=Lib.hid hh
  clear hh
  by_cases hlt:j < s.size
  ·have hll:j < s.data.toList.length:=by simpa using hlt
   have hget:s.data.toList[j]=s[j]:=rfl
   by_cases h1:128≤(s[j]).toNat
   ·have hz:(128:Int)≤(s[j]).toNat:=by omega
    go_wp2
    go_ret
    exact ⟨RetB.no,rfl⟩
   ·have hz:¬(128:Int)≤(s[j]).toNat:=by omega
    by_cases h0:s[j]=0
    ·have hz':(((s[j]).toNat:Int) == 0)=true:=by rw [h0];rfl
     go_wp2
     go_ret
     exact ⟨RetB.no,rfl⟩
    ·have hz':(((s[j]).toNat:Int) == 0)=false:=by
      simp only [beq_eq_false_iff_ne,ne_eq]
      intro e;exact h0 (UInt8.toNat_inj.1 (by show _=0;omega))
     go_wp2
     go_round
     case rel=>exact ⟨j+1,by omega,by go_num,ascii_take hll HH.out (by rw [hget];exact h0) (by rw [hget];omega)⟩
     case measure=>simp [intOf];omega
  ·go_wp2
   go_ret
   refine ⟨RetB.yes ?_,rfl⟩
   have:=HH.out
   rwa [List.take_of_length_le (by simp;omega)] at this
theorem when_any (b:Bool) (w:World):Calls Tryz.prog 55 #[.bool b] w fun e w'=>RetV e (b=true)∧w=w':=by
 cases b
 all_goals
  go_enter Tryz.func55,Tryz.ntmps55
  go_wp2
  go_ret
  first | exact ⟨RetV.two,rfl⟩ | exact ⟨RetV.one (by simp),rfl⟩
set_option maxRecDepth 100000 in
set_option maxHeartbeats 800000 in
theorem all_any (g n c:Nat) (xs:List Int) (w:World) (hl:xs.length=n) (hn:n≤10) (hnc:n≤c) (hcm:c≤100) (hc:∀j (h:j < xs.length),w.cell? ⟨g,j,none⟩=some (.int .i64 xs[j])) (hx:∀x∈xs,x=0∨x=1∨x=2) :
  Calls Tryz.prog 57 #[.slice (some ⟨g,0,none⟩) n c] w fun e w'=>RetV e (∀x∈xs,x=1)∧w=w':=by
 have HC:=Lib.hid hc;have HX:=Lib.hid hx;have HL:=Lib.hid hl
 clear hc hx hl
 go_enter Tryz.func57,Tryz.ntmps57
 go_wp2
 go_loop [3,8] (fun v i=>∃j:Nat,j≤n∧i=.int .i64 j∧∃x,v=.int .i64 x∧VR x (∀y∈xs.take j,y=1)) (fun _ i=>n - (intOf i).toNat)
 case atStart=>exact ⟨0,by omega,rfl,1,rfl,.inr (.inl rfl),fun _=>by simp⟩
 case round=>
  obtain ⟨j,hj,rfl,x,rfl,hv⟩:=hrel
  by_cases hlt:j < n
  ·have hll:j < xs.length:=by rw [HL.out];exact hlt
   have hcell:=HC.out j hll
   have htk:xs.take (j+1)=xs.take j++ [xs[j]]:=List.take_succ_eq_append_getElem hll
   have hy:=HX.out _ (List.getElem_mem hll)
   generalize xs[j]=y at hcell htk hy
   have HT:=Lib.hid htk
   obtain ⟨hv1,hv2⟩:=hv
   have HV:=Lib.hid hv2
   clear htk hv2
   rcases hy with rfl | rfl | rfl
   all_goals rcases hv1 with rfl | rfl | rfl
   all_goals
    go_wp2
    go_round
    case rel=>
     refine ⟨j+1,by omega,by go_num,_,rfl,by simp,fun h=> ?_⟩
     first
      | exact absurd h (by decide)
      | (rw [HT.out];intro z hz;rcases List.mem_append.1 hz with hz | hz;exact HV.out rfl z hz;simpa using hz)
    case measure=>simp [intOf];omega
  ·go_wp2
   go_ret
   refine ⟨⟨x,rfl,hv.1,fun h=> ?_⟩,rfl⟩
   have:=hv.2 h
   rwa [List.take_of_length_le (by rw [HL.out];omega)] at this
def slashB (s:ByteArray):Bool:=decide (0 < s.size) && (s.data.toList.getLast? == some 47)
theorem slash_get (s:ByteArray) (h:s.size - 1 < s.size):slashB s=(s[s.size - 1] == 47):=by
 unfold slashB
 have hl:s.data.toList.length - 1 < s.data.toList.length:=by simp;omega
 have e:s.data.toList.getLast? =some s[s.size - 1]:=by
  rw [List.getLast?_eq_getElem?,List.getElem?_eq_getElem hl]
  rfl
 rw [e,decide_eq_true (by omega:0 < s.size)]
 by_cases hc:s[s.size - 1]=47
 ·simp [hc]
 ·simp
theorem neEmpty {s:ByteArray} (h:0 < s.size):s.toList.isEmpty=false:=by
 rw [Lib.toList_data]
 cases hx:s.data.toList with
 | nil=>rw [Lib.size_eq,hx] at h;simp at h
 | cons _ _=>rfl
theorem isEmpty0 {s:ByteArray} (h:¬0 < s.size):s.toList.isEmpty=true:=by
 rw [Lib.toList_data]
 cases hx:s.data.toList with
 | nil=>rfl
 | cons _ _=>rw [Lib.size_eq,hx] at h;simp at h
set_option maxRecDepth 100000 in
theorem slashed_any (s:ByteArray) (w:World) (hs:s.size≤140737488355328):Calls Tryz.prog 53 #[.string s] w fun e w'=>e=.returned (.bool (slashB s))∧w=w':=by
 by_cases h:0 < s.size
 ·have he:=neEmpty h
  have hlt:s.size - 1 < s.size:=by omega
  have hi:((s.size:Int) - 1)=((s.size - 1:Nat):Int):=by omega
  have h1:(1:Int)≤s.size:=by omega
  rw [slash_get s hlt]
  by_cases hc:s[s.size - 1]=47
  ·have hz:(((s[s.size - 1]).toNat:Int) == 47)=true:=by rw [hc];rfl
   rw [hc]
   clear hc
   go_enter Tryz.func53,Tryz.ntmps53
   go_wp2
   go_ret
   exact ⟨rfl,rfl⟩
  ·have hz:(((s[s.size - 1]).toNat:Int) == 47)=false:=by
    simp only [beq_eq_false_iff_ne,ne_eq]
    intro e;exact hc (UInt8.toNat_inj.1 (by show _=47;omega))
   rw [show (s[s.size - 1] == 47)=false by simpa using hc]
   clear hc
   go_enter Tryz.func53,Tryz.ntmps53
   go_wp2
   go_ret
   exact ⟨rfl,rfl⟩
 ·have he:=isEmpty0 h
  rw [show slashB s=false by unfold slashB;rw [decide_eq_false h];rfl]
  go_enter Tryz.func53,Tryz.ntmps53
  go_wp2
  go_ret
  exact ⟨rfl,rfl⟩
def SplitAt (s:ByteArray) (i:Nat):Prop:=1≤i∧i≤155∧i+1 < s.size∧s.size - i - 1≤100∧s.data.toList[i]? =some 47
set_option maxRecDepth 100000 in
set_option maxHeartbeats 800000 in
theorem sSplit_any (s:ByteArray) (i:Nat) (w:World) (hs:s.size≤140737488355328) (hi:i < s.size):Calls Tryz.prog 84 #[.string s,.int .i64 i] w fun e w'=>RetB e (SplitAt s i)∧w=w':=by
 have hget:s.data.toList[i]? =some s[i]:=List.getElem?_eq_getElem (l:=s.data.toList) (by simpa using hi)
 have HG:=Lib.hid hget
 clear hget
 by_cases h1:1≤i
 ·have h1':(1:Int)≤i:=by omega
  by_cases h2:i≤155
  ·have h2':(i:Int)≤155:=by omega
   by_cases h3:s[i]=47
   ·have hz:(((s[i]).toNat:Int) == 47)=true:=by rw [h3];rfl
    have HH:=Lib.hid h3
    clear h3
    have hw:IntKind.i64.wrap ((s.size:Int) - i)=(s.size:Int) - i:=IntWalk.i64_in _ (by omega)
    go_enter Tryz.func84,Tryz.ntmps84
    go_wp2
    all_goals go_ret
    ·exact ⟨RetB.dec (fun h=>⟨h1,h2,by omega,by omega,by rw [HG.out,HH.out]⟩),rfl⟩
    ·exact ⟨RetB.no,rfl⟩
   ·have hz:(((s[i]).toNat:Int) == 47)=false:=by
     simp only [beq_eq_false_iff_ne,ne_eq]
     intro e;exact h3 (UInt8.toNat_inj.1 (by show _=47;omega))
    clear h3
    go_enter Tryz.func84,Tryz.ntmps84
    go_wp2
    go_ret
    exact ⟨RetB.no,rfl⟩
  ·have h2':¬(i:Int)≤155:=by omega
   go_enter Tryz.func84,Tryz.ntmps84
   go_wp2
   go_ret
   exact ⟨RetB.no,rfl⟩
 ·have h1':¬(1:Int)≤i:=by omega
  go_enter Tryz.func84,Tryz.ntmps84
  go_wp2
  go_ret
  exact ⟨RetB.no,rfl⟩
set_option maxRecDepth 100000 in
set_option maxHeartbeats 400000 in
theorem sSplits_any (s:ByteArray) (w:World) (hs:s.size≤140737488355328):Calls Tryz.prog 56 #[.string s] w fun e w'=>RetB e (∃i,SplitAt s i)∧w=w':=by
 go_enter Tryz.func56,Tryz.ntmps56
 go_wp2
 go_loop [6] (fun i=>∃j:Nat,j≤s.size∧i=.int .i64 j) (fun i=>s.size - (intOf i).toNat)
 case atStart=>exact ⟨0,by omega,rfl⟩
 case round=>
  obtain ⟨j,hj,rfl⟩:=hrel
  by_cases hlt:j < s.size
  ·go_wp2_with (go_at_call 84;refine (sSplit_any s j _ hs hlt).mono ?_;rintro e w1 ⟨⟨b,rfl,hb⟩,rfl⟩;have HB:=Lib.hid hb;clear hb)
   ·go_ret
    exact ⟨RetB.yes ⟨j,HB.out (by assumption)⟩,rfl⟩
   ·go_round
    case rel=>exact ⟨j+1,by omega,by go_num⟩
    case measure=>simp [intOf];omega
  ·go_wp2
   go_ret
   exact ⟨RetB.no,rfl⟩
def SparseR (s:ByteArray) (e:Ending):Prop:=RetN e (s.data.toList.take 11≠ [71,78,85,46,115,112,97,114,115,101,46])
theorem take_eq (s:ByteArray) (n:Nat):(s.extract 0 n).toList=s.data.toList.take n:=by rw [Lib.extract_toList];simp
set_option maxRecDepth 100000 in
theorem sparse_any (s:ByteArray) (w:World) (hs:s.size≤140737488355328):Calls Tryz.prog 85 #[.string s] w fun e w'=>SparseR s e∧w=w':=by
 by_cases h:11≤s.size
 ·have h':(11:Int)≤s.size:=by omega
  go_enter Tryz.func85,Tryz.ntmps85
  go_wp2
  go_ret
  refine ⟨⟨_,rfl,fun hb=> ?_⟩,rfl⟩
  rw [take_eq] at hb
  simpa using hb
 ·have h':¬(11:Int)≤s.size:=by omega
  go_enter Tryz.func85,Tryz.ntmps85
  go_wp2
  go_ret
  refine ⟨RetN.no (fun e=> ?_),rfl⟩
  have:=congrArg List.length e
  simp at this
  omega
def CutR (s:ByteArray) (c:UInt8) (e:Ending):Prop:=∃a b:ByteArray,∃f,e=.returned (.tuple #[.string a,.string b,.bool f])∧a.size≤s.size∧(f=true→s.data.toList=a.data.toList++c::b.data.toList)
theorem cut_list (s:ByteArray) (i:Nat) (h:i < s.size):s.data.toList=(s.extract 0 i).data.toList++s[i]::(s.extract (i+1) s.size).data.toList:=by
 rw [Lib.extract_data,Lib.extract_data]
 have hl:i < s.data.toList.length:=by simpa using h
 have e:s.data.toList.take i++s.data.toList.drop i=s.data.toList:=List.take_append_drop _ _
 rw [List.drop_eq_getElem_cons hl] at e
 rw [List.drop_zero,Nat.sub_zero,List.take_of_length_le (l:=List.drop (i+1) s.data.toList) (by simp)]
 exact e.symm
set_option maxRecDepth 100000 in
set_option maxHeartbeats 400000 in
theorem cut_any (s:ByteArray) (c:UInt8) (w:World) (hs:s.size≤140737488355328):Calls Tryz.prog 86 #[.string s,.int .u8 c.toNat] w fun e w'=>CutR s c e∧Chg [] w w':=by
 go_enter Tryz.func86,Tryz.ntmps86
 go_wp2
 go_loop [10] (fun i=>∃j:Nat,j≤s.size∧i=.int .i64 j) (fun i=>s.size - (intOf i).toNat)
 case atStart=>exact ⟨0,by omega,rfl⟩
 case round=>
  obtain ⟨j,hj,rfl⟩:=hrel
  by_cases hlt:j < s.size
  ·by_cases hc:s[j]=c
   ·have hz:(((s[j]).toNat:Int) == (c.toNat:Int))=true:=by rw [hc];simp
    have HC:=Lib.hid hc
    clear hc
    go_wp2
    go_quiet (fail)
    go_wp2
    go_ret3
    refine ⟨⟨_,_,_,rfl,?_,fun _=> ?_⟩,(Chg.refl _ w).drewN nq⟩
    ·simp;omega
    ·rw [←HC.out];exact cut_list s j hlt
   ·have hz:(((s[j]).toNat:Int) == (c.toNat:Int))=false:=by
     simp only [beq_eq_false_iff_ne,ne_eq]
     intro e;exact hc (UInt8.toNat_inj.1 (by omega))
    go_wp2
    go_round
    case rel=>exact ⟨j+1,by omega,by go_num⟩
    case measure=>simp [intOf];omega
  ·go_wp2
   go_ret3
   exact ⟨⟨_,_,_,rfl,Nat.le_refl _,fun h=>by cases h⟩,Chg.refl _ _⟩
theorem and192 (c:UInt8) (h:c.toNat < 128):(bits .and .u8 (c.toNat:Int) 192 != 128)=true:=by
 have:∀n:Fin 128,(bits .and .u8 ((n.val:Nat):Int) 192 != 128)=true:=by decide+kernel
 exact this ⟨_,h⟩
def WidR (s:ByteArray) (e:Ending):Prop:=∃n:Nat,e=.returned (.int .i64 n)∧(n=0∨(1≤n∧n≤s.size∧∀j,1≤j→j < n→∃c,s.data.toList[j]? =some c∧128≤c.toNat))
theorem WidR.zero {s:ByteArray}:WidR s (.returned (.int .i64 0)):=⟨0,rfl,.inl rfl⟩
set_option maxRecDepth 100000 in
set_option maxHeartbeats 1000000 in
theorem width_2 (s:ByteArray) (w:World) (hs:s.size≤140737488355328) (h0:0 < s.size) (h1:(194:Int)≤(s[0]).toNat) (h2:((s[0]).toNat:Int) < 224):Calls Tryz.prog 50 #[.string s] w fun e w'=>WidR s e∧w=w':=by
 have h3:¬((s[0]).toNat:Int) < 128:=by omega
 by_cases hn:2≤s.size
 ·have hn':¬(s.size:Int) < 2:=by omega
  go_enter Tryz.func50,Tryz.ntmps50
  go_wp2
  go_loop [5,7] (fun v i=>∃j:Nat,1≤j∧j≤2∧i=.int .i64 j∧(∃x:Int,v=.int .i64 x)∧∀k,1≤k→k < j→∃c,s.data.toList[k]? =some c∧128≤c.toNat) (fun _ i=>2 - (intOf i).toNat)
  case atStart=>exact ⟨1,by omega,by omega,rfl,⟨_,rfl⟩,fun k _ _=>by omega⟩
  case round=>
   obtain ⟨j,hj1,hj2,rfl,⟨x,rfl⟩,hh⟩:=hrel
   have HH:=Lib.hid hh
   clear hh
   by_cases hlt:j < 2
   ·have hjs:j < s.size:=by omega
    have hget:s.data.toList[j]? =some s[j]:=List.getElem?_eq_getElem (l:=s.data.toList) (by simpa using hjs)
    have HG:=Lib.hid hget
    clear hget
    by_cases hb:(s[j]).toNat < 128
    ·have ha:=and192 s[j] hb
     go_wp2
     go_ret
     exact ⟨WidR.zero,rfl⟩
    ·go_wp2
     ·go_ret
      exact ⟨WidR.zero,rfl⟩
     ·go_round
      case rel=>
       refine ⟨j+1,by omega,by omega,by go_num,⟨_,rfl⟩,fun k k1 k2=> ?_⟩
       by_cases e:k=j
       ·exact ⟨_,by rw [e];exact HG.out,by omega⟩
       ·exact HH.out k k1 (by omega)
      case measure=>simp [intOf];omega
   ·obtain rfl:j=2:=by omega
    go_wp2
    all_goals
     go_ret
     first
      | exact ⟨WidR.zero,rfl⟩
      | exact ⟨⟨2,rfl,.inr ⟨by omega,hn,HH.out⟩⟩,rfl⟩
 ·have hn':(s.size:Int) < 2:=by omega
  go_enter Tryz.func50,Tryz.ntmps50
  go_wp2
  go_ret
  exact ⟨WidR.zero,rfl⟩
set_option maxRecDepth 100000 in
set_option maxHeartbeats 1000000 in
theorem width_3 (s:ByteArray) (w:World) (hs:s.size≤140737488355328) (h0:0 < s.size) (h1:(224:Int)≤(s[0]).toNat) (h2:((s[0]).toNat:Int) < 240):Calls Tryz.prog 50 #[.string s] w fun e w'=>WidR s e∧w=w':=by
 have h3:¬((s[0]).toNat:Int) < 128:=by omega
 by_cases hn:3≤s.size
 ·have hn':¬(s.size:Int) < 3:=by omega
  go_enter Tryz.func50,Tryz.ntmps50
  go_wp2
  go_loop [5,7] (fun v i=>∃j:Nat,1≤j∧j≤3∧i=.int .i64 j∧(∃x:Int,v=.int .i64 x)∧∀k,1≤k→k < j→∃c,s.data.toList[k]? =some c∧128≤c.toNat) (fun _ i=>3 - (intOf i).toNat)
  case atStart=>exact ⟨1,by omega,by omega,rfl,⟨_,rfl⟩,fun k _ _=>by omega⟩
  case round=>
   obtain ⟨j,hj1,hj2,rfl,⟨x,rfl⟩,hh⟩:=hrel
   have HH:=Lib.hid hh
   clear hh
   by_cases hlt:j < 3
   ·have hjs:j < s.size:=by omega
    have hget:s.data.toList[j]? =some s[j]:=List.getElem?_eq_getElem (l:=s.data.toList) (by simpa using hjs)
    have HG:=Lib.hid hget
    clear hget
    by_cases hb:(s[j]).toNat < 128
    ·have ha:=and192 s[j] hb
     go_wp2
     go_ret
     exact ⟨WidR.zero,rfl⟩
    ·go_wp2
     ·go_ret
      exact ⟨WidR.zero,rfl⟩
     ·go_round
      case rel=>
       refine ⟨j+1,by omega,by omega,by go_num,⟨_,rfl⟩,fun k k1 k2=> ?_⟩
       by_cases e:k=j
       ·exact ⟨_,by rw [e];exact HG.out,by omega⟩
       ·exact HH.out k k1 (by omega)
      case measure=>simp [intOf];omega
   ·obtain rfl:j=3:=by omega
    go_wp2
    all_goals
     go_ret
     first
      | exact ⟨WidR.zero,rfl⟩
      | exact ⟨⟨3,rfl,.inr ⟨by omega,hn,HH.out⟩⟩,rfl⟩
 ·have hn':(s.size:Int) < 3:=by omega
  go_enter Tryz.func50,Tryz.ntmps50
  go_wp2
  go_ret
  exact ⟨WidR.zero,rfl⟩
set_option maxRecDepth 100000 in
set_option maxHeartbeats 1000000 in
theorem width_4 (s:ByteArray) (w:World) (hs:s.size≤140737488355328) (h0:0 < s.size) (h1:(240:Int)≤(s[0]).toNat) (h2:((s[0]).toNat:Int) < 245):Calls Tryz.prog 50 #[.string s] w fun e w'=>WidR s e∧w=w':=by
 have h3:¬((s[0]).toNat:Int) < 128:=by omega
 by_cases hn:4≤s.size
 ·have hn':¬(s.size:Int) < 4:=by omega
  go_enter Tryz.func50,Tryz.ntmps50
  go_wp2
  go_loop [5,7] (fun v i=>∃j:Nat,1≤j∧j≤4∧i=.int .i64 j∧(∃x:Int,v=.int .i64 x)∧∀k,1≤k→k < j→∃c,s.data.toList[k]? =some c∧128≤c.toNat) (fun _ i=>4 - (intOf i).toNat)
  case atStart=>exact ⟨1,by omega,by omega,rfl,⟨_,rfl⟩,fun k _ _=>by omega⟩
  case round=>
   obtain ⟨j,hj1,hj2,rfl,⟨x,rfl⟩,hh⟩:=hrel
   have HH:=Lib.hid hh
   clear hh
   by_cases hlt:j < 4
   ·have hjs:j < s.size:=by omega
    have hget:s.data.toList[j]? =some s[j]:=List.getElem?_eq_getElem (l:=s.data.toList) (by simpa using hjs)
    have HG:=Lib.hid hget
    clear hget
    by_cases hb:(s[j]).toNat < 128
    ·have ha:=and192 s[j] hb
     go_wp2
     go_ret
     exact ⟨WidR.zero,rfl⟩
    ·go_wp2
     ·go_ret
      exact ⟨WidR.zero,rfl⟩
     ·go_round
      case rel=>
       refine ⟨j+1,by omega,by omega,by go_num,⟨_,rfl⟩,fun k k1 k2=> ?_⟩
       by_cases e:k=j
       ·exact ⟨_,by rw [e];exact HG.out,by omega⟩
       ·exact HH.out k k1 (by omega)
      case measure=>simp [intOf];omega
   ·obtain rfl:j=4:=by omega
    go_wp2
    all_goals
     go_ret
     first
      | exact ⟨WidR.zero,rfl⟩
      | exact ⟨⟨4,rfl,.inr ⟨by omega,hn,HH.out⟩⟩,rfl⟩
 ·have hn':(s.size:Int) < 4:=by omega
  go_enter Tryz.func50,Tryz.ntmps50
  go_wp2
  go_ret
  exact ⟨WidR.zero,rfl⟩
set_option maxRecDepth 100000 in
set_option maxHeartbeats 1000000 in
theorem width_any (s:ByteArray) (w:World) (hs:s.size≤140737488355328) (h0:0 < s.size):Calls Tryz.prog 50 #[.string s] w fun e w'=>WidR s e∧w=w':=by
 by_cases a1:(s[0]).toNat < 128
 ·have b1:((s[0]).toNat:Int) < 128:=by omega
  go_enter Tryz.func50,Tryz.ntmps50
  go_wp2
  go_ret
  exact ⟨⟨1,rfl,.inr ⟨by omega,by omega,fun j h1 h2=>by omega⟩⟩,rfl⟩
 ·by_cases a2:194≤(s[0]).toNat∧(s[0]).toNat < 224
  ·exact width_2 s w hs h0 (by omega) (by omega)
  ·by_cases a3:224≤(s[0]).toNat∧(s[0]).toNat < 240
   ·exact width_3 s w hs h0 (by omega) (by omega)
   ·by_cases a4:240≤(s[0]).toNat∧(s[0]).toNat < 245
    ·exact width_4 s w hs h0 (by omega) (by omega)
    ·have b1:¬((s[0]).toNat:Int) < 128:=by omega
     have b2:¬((s[0]).toNat:Int) < 240∨((s[0]).toNat:Int) < 194:=by omega
     rcases b2 with b2 | b2
     ·have c1:(194:Int)≤(s[0]).toNat:=by omega
      have c2:(224:Int)≤(s[0]).toNat:=by omega
      have c3:(240:Int)≤(s[0]).toNat:=by omega
      have c4:¬((s[0]).toNat:Int) < 224:=by omega
      have c5:¬((s[0]).toNat:Int) < 245:=by omega
      have c6:((s[0]).toNat:Int) < 256:=by have:=(s[0]).toNat_lt;omega
      clear a1 a2 a3 a4
      go_enter Tryz.func50,Tryz.ntmps50
      go_wp2
      go_ret
      exact ⟨WidR.zero,rfl⟩
     ·have c1:¬(194:Int)≤(s[0]).toNat:=by omega
      have c2:¬(224:Int)≤(s[0]).toNat:=by omega
      have c3:¬(240:Int)≤(s[0]).toNat:=by omega
      clear a1 a2 a3 a4
      go_enter Tryz.func50,Tryz.ntmps50
      go_wp2
      go_ret
      exact ⟨WidR.zero,rfl⟩
theorem utf8_step {l:List UInt8} {j n:Nat} (h:has (l.take j) 0=false) (hc:∀k,j≤k→k < j+n→∃c,l[k]? =some c∧c≠0):has (l.take (j+n)) 0=false:=by
 rw [has_false] at h⊢
 intro hm
 obtain ⟨k,hk,e⟩:=List.mem_iff_getElem.1 hm
 rw [List.length_take] at hk
 rw [List.getElem_take] at e
 by_cases hkj:k < j
 ·exact h (List.mem_iff_getElem.2 ⟨k,by rw [List.length_take];omega,by rw [List.getElem_take];exact e⟩)
 ·obtain ⟨c,h1,h2⟩:=hc k (by omega) (by omega)
  rw [List.getElem?_eq_getElem (by omega)] at h1
  injection h1 with h1
  exact h2 (h1.symm.trans e)
set_option maxRecDepth 100000 in
set_option maxHeartbeats 1000000 in
theorem utf8_any (s:ByteArray) (w:World) (hs:s.size≤140737488355328):Calls Tryz.prog 21 #[.string s] w fun e w'=>RetB e (has s.data.toList 0=false)∧w=w':=by
 go_enter Tryz.func21,Tryz.ntmps21
 go_wp2
 go_loop [3] (fun i=>∃j:Nat,j≤s.size∧i=.int .i64 j∧has (s.data.toList.take j) 0=false) (fun i=>s.size - (intOf i).toNat)
 case atStart=>exact ⟨0,by omega,rfl,rfl⟩
 case round=>
  obtain ⟨j,hj,rfl,hh⟩:=hrel
  have HH:=Lib.hid hh
  clear hh
  by_cases hlt:j < s.size
  ·have hlt':(j:Int) < s.size:=by omega
   have hx:(s.extract j s.size).size=s.size - j:=by simp
   have hget:∀k,(s.extract j s.size).data.toList[k]? =s.data.toList[j+k]? :=by
    intro k
    rw [Lib.extract_data,List.take_of_length_le (by simp),List.getElem?_drop]
   have h0:s.data.toList[j]? =some s[j]:=List.getElem?_eq_getElem (l:=s.data.toList) (by simpa using hlt)
   have HX:=Lib.hid hx;have HG:=Lib.hid hget;have HJ:=Lib.hid h0
   clear hx hget h0
   go_wp2_with (go_at_call 50;refine (width_any _ _ (by have:=HX.out;omega) (by have:=HX.out;omega)).mono ?_;rintro e w1 ⟨⟨n,rfl,hw⟩,rfl⟩;rw [HX.out] at hw;have hn:n≤s.size - j:=(by omega);have hn':(n:Int)+j≤s.size:=(by omega);have HW:=Lib.hid hw;clear hw)
   ·go_ret
    exact ⟨RetB.no,rfl⟩
   ·go_ret
    exact ⟨RetB.no,rfl⟩
   ·go_round
    case rel=>
     have hw:=HW.out.resolve_left (by intro e;subst e;simp at *)
     refine ⟨j+n,by omega,by go_num,utf8_step HH.out (fun k k1 k2=> ?_)⟩
     by_cases e:k=j
     ·exact ⟨_,by rw [e];exact HJ.out,by intro e;simp [e] at *⟩
     ·obtain ⟨c,c1,c2⟩:=hw.2.2 (k - j) (by omega) (by omega)
      rw [HG.out,show j+(k - j)=k by omega] at c1
      exact ⟨c,c1,by intro e;subst e;simp at c2⟩
    case measure=>
     have hw:=HW.out.resolve_left (by intro e;subst e;simp at *)
     simp [intOf];omega
  ·go_wp2
   go_ret
   refine ⟨RetB.yes ?_,rfl⟩
   have:=HH.out
   rwa [List.take_of_length_le (by simp;omega)] at this
end Go.Proofs.YtkanmkcojlefbaaGreatDoor
