/-
  mergePAX: what the records say takes the place of what the header's block says (printed by genmg.py).
-/
import Derived.Test.YtkanmkcojlefbaaGreatDoorJ08
import Derived.Test.YtkanmkcojlefbaaGreatDoorJ04
import Derived.Test.YtkanmkcojlefbaaGreatDoorJ09
set_option linter.unusedVariables false
namespace Go.Proofs.YtkanmkcojlefbaaGreatDoor
open Go.RowKit
abbrev kP:ByteArray:=⟨#[112,97,116,104]⟩
abbrev kL:ByteArray:=⟨#[108,105,110,107,112,97,116,104]⟩
abbrev kUn:ByteArray:=⟨#[117,110,97,109,101]⟩
abbrev kGn:ByteArray:=⟨#[103,110,97,109,101]⟩
abbrev kUi:ByteArray:=⟨#[117,105,100]⟩
abbrev kGi:ByteArray:=⟨#[103,105,100]⟩
abbrev kAt:ByteArray:=⟨#[97,116,105,109,101]⟩
abbrev kMt:ByteArray:=⟨#[109,116,105,109,101]⟩
abbrev kCt:ByteArray:=⟨#[99,116,105,109,101]⟩
abbrev kSz:ByteArray:=⟨#[115,105,122,101]⟩
def NumV (F:KV) (k:ByteArray) (x0 x1:Int):Prop:=(F k=none∧x1=x0)∨∃v,F k=some v∧Lib.parseIntB 64 v.data.toList=.ok x1∧v.size≤1000000
def TimV (F:KV) (k:ByteArray) (s0:Int) (n0:Nat) (s1:Int) (n1:Nat):Prop:=(F k=none∧s1=s0∧n1=n0)∨∃v,F k=some v∧ParsesT v s1 n1
structure MergeOk (F:KV) (a b:TH):Prop where
 tf:b.tf=a.tf
 mode:b.mode=a.mode
 dj:b.dj=a.dj
 dn:b.dn=a.dn
 xa:b.xa=a.xa
 fmt:b.fmt=a.fmt
 name:b.name=(F kP).getD a.name
 link:b.link=(F kL).getD a.link
 un:b.un=(F kUn).getD a.un
 gn:b.gn=(F kGn).getD a.gn
 uid:NumV F kUi a.uid b.uid
 gid:NumV F kGi a.gid b.gid
 size:NumV F kSz a.size b.size
 mt:TimV F kMt a.ms a.mn b.ms b.mn
 at':TimV F kAt a.ats a.atn b.ats b.atn
 ct:TimV F kCt a.cts a.ctn b.cts b.ctn
 ne:∀k v,F k=some v→0 < v.size
 xt:∀k v,F k=some v→Lib.hasPrefix k.data.toList [83,67,72,73,76,89,46,120,97,116,116,114,46]=false
def curTH (a b:TH) (L:ByteArray→Bool):TH:=
 { a with
  name:=if L kP=true then a.name else b.name,link:=if L kL=true then a.link else b.link,un:=if L kUn=true then a.un else b.un,gn:=if L kGn=true then a.gn else b.gn,uid:=if L kUi=true then a.uid else b.uid,gid:=if L kGi=true then a.gid else b.gid,ats:=if L kAt=true then a.ats else b.ats,atn:=if L kAt=true then a.atn else b.atn,ms:=if L kMt=true then a.ms else b.ms,mn:=if L kMt=true then a.mn else b.mn,cts:=if L kCt=true then a.cts else b.cts,ctn:=if L kCt=true then a.ctn else b.ctn,size:=if L kSz=true then a.size else b.size }
theorem cur_start {F:KV} {a b:TH} (h:MergeOk F a b):curTH a b (fun s=>(F s).isSome)=a:=by
 obtain ⟨h1,h2,h3,h4,h5,h6,h7,h8,h9,h10,h11,h12,h13,h14,h15,h16,_,_⟩:=h
 have S:∀(k x y:ByteArray),y=(F k).getD x→(if (F k).isSome=true then x else y)=x:=by
  intro k x y hy
  cases hk:F k with
  | none=>rw [hk] at hy;simp [hy]
  | some v=>simp
 have N:∀(k:ByteArray) (x y:Int),NumV F k x y→(if (F k).isSome=true then x else y)=x:=by
  intro k x y hy
  rcases hy with ⟨hk,rfl⟩ | ⟨v,hk,_⟩<;>simp [hk]
 have T1:∀(k:ByteArray) (x y:Int) (m n:Nat),TimV F k x m y n→(if (F k).isSome=true then x else y)=x:=by
  intro k x y m n hy
  rcases hy with ⟨hk,rfl,_⟩ | ⟨v,hk,_⟩<;>simp [hk]
 have T2:∀(k:ByteArray) (x y:Int) (m n:Nat),TimV F k x m y n→(if (F k).isSome=true then m else n)=m:=by
  intro k x y m n hy
  rcases hy with ⟨hk,_,rfl⟩ | ⟨v,hk,_⟩<;>simp [hk]
 unfold curTH
 rw [S _ _ _ h7,S _ _ _ h8,S _ _ _ h9,S _ _ _ h10,N _ _ _ h11,N _ _ _ h12,N _ _ _ h13,T1 _ _ _ _ _ h14,T2 _ _ _ _ _ h14,T1 _ _ _ _ _ h15,T2 _ _ _ _ _ h15,T1 _ _ _ _ _ h16,T2 _ _ _ _ _ h16]
theorem cur_end {F:KV} {a b:TH} (h:MergeOk F a b) {L:ByteArray→Bool} (hL:∀s:ByteArray,s.size≤maxLen→L s=false):curTH a b L={ b with recs:=a.recs }:=by
 have e:∀k:ByteArray,k.size≤100→L k=false:=fun k hk=>hL k (Nat.le_trans hk (by decide))
 unfold curTH
 rw [e kP (by decide),e kL (by decide),e kUn (by decide),e kGn (by decide),e kUi (by decide),e kGi (by decide),e kAt (by decide),e kMt (by decide),e kCt (by decide),e kSz (by decide)]
 simp only [Bool.false_eq_true,if_false,←h.tf,←h.mode,←h.dj,←h.dn,←h.xa,←h.fmt]
theorem cur_other {a b:TH} {L:ByteArray→Bool} {s:ByteArray} (h:∀k∈([kP,kL,kUn,kGn,kUi,kGi,kAt,kMt,kCt,kSz]:List ByteArray),k≠s):curTH a b (fun x=>L x && !decide (x=s))=curTH a b L:=by
 have e:∀k∈([kP,kL,kUn,kGn,kUi,kGi,kAt,kMt,kCt,kSz]:List ByteArray),(L k && !decide (k=s))=L k:=fun k hk=>by simp [h k hk]
 unfold curTH
 simp only [e kP (by simp),e kL (by simp),e kUn (by simp),e kGn (by simp),e kUi (by simp),e kGi (by simp),e kAt (by simp),e kMt (by simp),e kCt (by simp),e kSz (by simp)]
theorem cur_kP (a b:TH) (L:ByteArray→Bool):curTH a b (fun x=>L x && !decide (x=kP))={ curTH a b L with name:=b.name }:=by
 unfold curTH
 simp only [show (decide (kL=kP))=false from by decide,show (decide (kUn=kP))=false from by decide,show (decide (kGn=kP))=false from by decide,show (decide (kUi=kP))=false from by decide,show (decide (kGi=kP))=false from by decide,show (decide (kAt=kP))=false from by decide,show (decide (kMt=kP))=false from by decide,show (decide (kCt=kP))=false from by decide,show (decide (kSz=kP))=false from by decide]
 simp
theorem cur_kL (a b:TH) (L:ByteArray→Bool):curTH a b (fun x=>L x && !decide (x=kL))={ curTH a b L with link:=b.link }:=by
 unfold curTH
 simp only [show (decide (kP=kL))=false from by decide,show (decide (kUn=kL))=false from by decide,show (decide (kGn=kL))=false from by decide,show (decide (kUi=kL))=false from by decide,show (decide (kGi=kL))=false from by decide,show (decide (kAt=kL))=false from by decide,show (decide (kMt=kL))=false from by decide,show (decide (kCt=kL))=false from by decide,show (decide (kSz=kL))=false from by decide]
 simp
theorem cur_kUn (a b:TH) (L:ByteArray→Bool):curTH a b (fun x=>L x && !decide (x=kUn))={ curTH a b L with un:=b.un }:=by
 unfold curTH
 simp only [show (decide (kP=kUn))=false from by decide,show (decide (kL=kUn))=false from by decide,show (decide (kGn=kUn))=false from by decide,show (decide (kUi=kUn))=false from by decide,show (decide (kGi=kUn))=false from by decide,show (decide (kAt=kUn))=false from by decide,show (decide (kMt=kUn))=false from by decide,show (decide (kCt=kUn))=false from by decide,show (decide (kSz=kUn))=false from by decide]
 simp
theorem cur_kGn (a b:TH) (L:ByteArray→Bool):curTH a b (fun x=>L x && !decide (x=kGn))={ curTH a b L with gn:=b.gn }:=by
 unfold curTH
 simp only [show (decide (kP=kGn))=false from by decide,show (decide (kL=kGn))=false from by decide,show (decide (kUn=kGn))=false from by decide,show (decide (kUi=kGn))=false from by decide,show (decide (kGi=kGn))=false from by decide,show (decide (kAt=kGn))=false from by decide,show (decide (kMt=kGn))=false from by decide,show (decide (kCt=kGn))=false from by decide,show (decide (kSz=kGn))=false from by decide]
 simp
theorem cur_kUi (a b:TH) (L:ByteArray→Bool):curTH a b (fun x=>L x && !decide (x=kUi))={ curTH a b L with uid:=b.uid }:=by
 unfold curTH
 simp only [show (decide (kP=kUi))=false from by decide,show (decide (kL=kUi))=false from by decide,show (decide (kUn=kUi))=false from by decide,show (decide (kGn=kUi))=false from by decide,show (decide (kGi=kUi))=false from by decide,show (decide (kAt=kUi))=false from by decide,show (decide (kMt=kUi))=false from by decide,show (decide (kCt=kUi))=false from by decide,show (decide (kSz=kUi))=false from by decide]
 simp
theorem cur_kGi (a b:TH) (L:ByteArray→Bool):curTH a b (fun x=>L x && !decide (x=kGi))={ curTH a b L with gid:=b.gid }:=by
 unfold curTH
 simp only [show (decide (kP=kGi))=false from by decide,show (decide (kL=kGi))=false from by decide,show (decide (kUn=kGi))=false from by decide,show (decide (kGn=kGi))=false from by decide,show (decide (kUi=kGi))=false from by decide,show (decide (kAt=kGi))=false from by decide,show (decide (kMt=kGi))=false from by decide,show (decide (kCt=kGi))=false from by decide,show (decide (kSz=kGi))=false from by decide]
 simp
theorem cur_kAt (a b:TH) (L:ByteArray→Bool):curTH a b (fun x=>L x && !decide (x=kAt))={ curTH a b L with ats:=b.ats,atn:=b.atn }:=by
 unfold curTH
 simp only [show (decide (kP=kAt))=false from by decide,show (decide (kL=kAt))=false from by decide,show (decide (kUn=kAt))=false from by decide,show (decide (kGn=kAt))=false from by decide,show (decide (kUi=kAt))=false from by decide,show (decide (kGi=kAt))=false from by decide,show (decide (kMt=kAt))=false from by decide,show (decide (kCt=kAt))=false from by decide,show (decide (kSz=kAt))=false from by decide]
 simp
theorem cur_kMt (a b:TH) (L:ByteArray→Bool):curTH a b (fun x=>L x && !decide (x=kMt))={ curTH a b L with ms:=b.ms,mn:=b.mn }:=by
 unfold curTH
 simp only [show (decide (kP=kMt))=false from by decide,show (decide (kL=kMt))=false from by decide,show (decide (kUn=kMt))=false from by decide,show (decide (kGn=kMt))=false from by decide,show (decide (kUi=kMt))=false from by decide,show (decide (kGi=kMt))=false from by decide,show (decide (kAt=kMt))=false from by decide,show (decide (kCt=kMt))=false from by decide,show (decide (kSz=kMt))=false from by decide]
 simp
theorem cur_kCt (a b:TH) (L:ByteArray→Bool):curTH a b (fun x=>L x && !decide (x=kCt))={ curTH a b L with cts:=b.cts,ctn:=b.ctn }:=by
 unfold curTH
 simp only [show (decide (kP=kCt))=false from by decide,show (decide (kL=kCt))=false from by decide,show (decide (kUn=kCt))=false from by decide,show (decide (kGn=kCt))=false from by decide,show (decide (kUi=kCt))=false from by decide,show (decide (kGi=kCt))=false from by decide,show (decide (kAt=kCt))=false from by decide,show (decide (kMt=kCt))=false from by decide,show (decide (kSz=kCt))=false from by decide]
 simp
theorem cur_kSz (a b:TH) (L:ByteArray→Bool):curTH a b (fun x=>L x && !decide (x=kSz))={ curTH a b L with size:=b.size }:=by
 unfold curTH
 simp only [show (decide (kP=kSz))=false from by decide,show (decide (kL=kSz))=false from by decide,show (decide (kUn=kSz))=false from by decide,show (decide (kGn=kSz))=false from by decide,show (decide (kUi=kSz))=false from by decide,show (decide (kGi=kSz))=false from by decide,show (decide (kAt=kSz))=false from by decide,show (decide (kMt=kSz))=false from by decide,show (decide (kCt=kSz))=false from by decide]
 simp
theorem numV_get {F:KV} {k v:ByteArray} {x y:Int} (h:NumV F k x y) (hv:F k=some v):Lib.parseIntB 64 v.data.toList=.ok y∧v.size≤1000000:=by
 rcases h with ⟨hk,_⟩ | ⟨u,hk,h1,h2⟩
 ·rw [hv] at hk;cases hk
 ·rw [hv] at hk;injection hk with hk;subst hk;exact ⟨h1,h2⟩
theorem timV_get {F:KV} {k v:ByteArray} {x y:Int} {m n:Nat} (h:TimV F k x m y n) (hv:F k=some v):ParsesT v y n:=by
 rcases h with ⟨hk,_⟩ | ⟨u,hk,h1⟩
 ·rw [hv] at hk;cases hk
 ·have e:=Option.some.inj (hv.symm.trans hk)
  rw [e];exact h1
theorem strV_get {F:KV} {k v x y:ByteArray} (h:y=(F k).getD x) (hv:F k=some v):y=v:=by rw [h,hv,Option.getD_some]
theorem toList_ne {k:ByteArray} {l:List UInt8} (h:k≠⟨l.toArray⟩):(k.toList == l)=false:=by
 simp only [beq_eq_false_iff_ne,ne_eq]
 intro e
 rw [Lib.toList_data] at e
 exact h (ByteArray.ext (Array.ext' e))
def HdrB (hp:Nat) (th:TH) (w:World):Prop:=w.heap[hp]? =some (.cells th.cells.toArray 130 (0,0))
theorem HdrB.chg {hp:Nat} {th:TH} {S:List Nat} {w w':World} (h:HdrB hp th w) (k:Chg S w w') (hn:hp∉S):HdrB hp th w':=k.heap h hn
theorem HdrB.set {hp:Nat} {th:TH} {w:World} (h:HdrB hp th w) (i:Nat) (v:Value) (th':TH) (e:th.cells.toArray.setIfInBounds i v=th'.cells.toArray):HdrB hp th' (w.setCell ⟨hp,i,none⟩ v):=by
 unfold HdrB at h⊢
 rw [heap_setCell_at h,e]
theorem HdrB.c {hp:Nat} {th:TH} {w:World} (h:HdrB hp th w) (i:Nat) (v:Value) (hv:th.cells[i]? =some v):w.cell? ⟨hp,i,none⟩=some v:=by
 rw [cell_heap h,List.getElem?_toArray,hv]
theorem HdrB.f {hp:Nat} {th:TH} {w:World} (h:HdrB hp th w) (i:Nat):w.frozen? ⟨hp,i,none⟩=false:=frozen_heap h i
theorem HdrB.lt {hp:Nat} {th:TH} {w:World} (h:HdrB hp th w):hp < w.heap.size:=(Array.getElem?_eq_some_iff.1 h).1
set_option maxRecDepth 100000 in
set_option maxHeartbeats 4000000 in
theorem merge_any (hp mb n:Nat) (F:KV) (a b:TH) (w:World) (h:HdrB hp a w) (hM:MapS mb n F w) (hne:hp≠mb) (hk:MergeOk F a b) :
  Calls Tryz.prog 151 #[.pointer (some ⟨hp,0,none⟩),.map (some mb)] w fun e w'=>e=.returned .nilIface∧HdrB hp { b with recs:=.map (some mb) } w'∧MapS mb n F w'∧Chg [hp] w w':=by
 obtain ⟨w1,cnt,hrun,hr,hc1,hz1⟩:=hM.range
 have h1:=h.chg hc1 (by simp)
 have hlt:=h.lt
 rw [←cur_start hk] at h1
 have H1:=Lib.hid h1;have HR:=Lib.hid hr;have HC1:=Lib.hid hc1;have HK:=Lib.hid hk
 have hrr:w.heap.size≠hp:=by omega
 have hmlt:=hM.lt
 have hrm:w.heap.size≠mb:=by omega
 clear h hM hk h1 hr hc1 hz1
 have hmm:=hrun
 clear hrun
 go_enter Tryz.func151,Tryz.ntmps151
 go_wp2
 generalize hrd:w.heap.size=r at*
 have HRD:=Lib.hid hrd
 clear hrd
 go_loopw [4] (fun s4 wr=>s4=.nilIface∧∃left cnt',RngS mb r n F left cnt' wr∧HdrB hp (curTH a b left) wr∧Chg [hp,r] w wr) (fun _ wr=>wr.rangeLeft mb r)
 case atStart=>exact ⟨rfl,_,_,HR.out,H1.out,HC1.out.mono (by simp)⟩
 case round=>
  obtain ⟨rfl,left,cnt',hR,hH,hC⟩:=hrel
  have HL:=Lib.hid hR.cnt_eq
  have hnx:=hR.next 0
  have HR':=Lib.hid hR;have HH:=Lib.hid hH;have HC:=Lib.hid hC
  clear hR hH hC
  rcases hnx with ⟨hall,hn⟩ | ⟨k,v,w2,cnt2,hks,hvs,hlk,hFk,hn,hR2,hlt2,hc2,hen⟩
  ·have hE:HdrB hp { b with recs:=a.recs } wr:=by rw [←cur_end HK.out hall];exact HH.out
   have f18:=hE.f 18;have c18:=hE.c 18 _ rfl
   have HE:=Lib.hid hE
   clear hE hall
   go_wp2
   go_ret
   have hs:=HE.out.set 18 (.map (some mb)) { b with recs:=.map (some mb) } rfl
   have hcs:Chg [hp] wr (wr.setCell ⟨hp,18,none⟩ (.map (some mb))):=(Chg.refl _ wr).setCell (.inl (by simp)) _
   exact ⟨rfl,hs,HR'.out.map.chg hcs (by simp;exact Ne.symm hne),(HC.out.trans (hcs.mono (by simp))).fresh (by have:=HRD.out;simp;omega)⟩
  ·have HR2:=Lib.hid hR2;have HLT:=Lib.hid hlt2;have HC2:=Lib.hid hc2;have HCN:=Lib.hid hR2.cnt_eq;have HFK:=Lib.hid hFk
   have hv0:=HK.out.ne _ _ hFk
   have hxt:=HK.out.xt _ _ hFk
   have he:v.toList.isEmpty=false:=neEmpty hv0
   have HH2:=Lib.hid (HH.out.chg hc2 (by simp;omega))
   have HXT:=Lib.hid hxt
   clear hR2 hlt2 hc2 hFk hxt hv0 hks hvs hlk
   by_cases e0:k=kP
   ·subst e0
    have HH3:=HH2.out
    have f1:=HH3.f 1;have c1:=HH3.c 1 _ rfl
    clear HH3
    have hv:=strV_get HK.out.name HFK.out
    have HV:=Lib.hid hv
    clear hv
    go_wp2
    go_roundw
    case rel=>exact ⟨rfl,_,_,HR2.out.chg ((Chg.refl [hp] _).setCell (.inl (by simp)) _) (by simp;exact Ne.symm hne) (by simp;exact hrr),(by rw [cur_kP];exact HH2.out.set 1 _ _ (by rw [HV.out];rfl)),(HC.out.trans (HC2.out.mono (by simp))).setCell (.inl (by simp)) _⟩
    case measure=>rw [(HR2.out.chg ((Chg.refl [hp] _).setCell (.inl (by simp)) _) (by simp;exact Ne.symm hne) (by simp;exact hrr)).cnt_eq,HL.out];exact HLT.out
   by_cases e1:k=kL
   ·subst e1
    have HH3:=HH2.out
    have f2:=HH3.f 2;have c2:=HH3.c 2 _ rfl
    clear HH3
    have hv:=strV_get HK.out.link HFK.out
    have HV:=Lib.hid hv
    clear hv
    go_wp2
    go_roundw
    case rel=>exact ⟨rfl,_,_,HR2.out.chg ((Chg.refl [hp] _).setCell (.inl (by simp)) _) (by simp;exact Ne.symm hne) (by simp;exact hrr),(by rw [cur_kL];exact HH2.out.set 2 _ _ (by rw [HV.out];rfl)),(HC.out.trans (HC2.out.mono (by simp))).setCell (.inl (by simp)) _⟩
    case measure=>rw [(HR2.out.chg ((Chg.refl [hp] _).setCell (.inl (by simp)) _) (by simp;exact Ne.symm hne) (by simp;exact hrr)).cnt_eq,HL.out];exact HLT.out
   by_cases e2:k=kUn
   ·subst e2
    have HH3:=HH2.out
    have f7:=HH3.f 7;have c7:=HH3.c 7 _ rfl
    clear HH3
    have hv:=strV_get HK.out.un HFK.out
    have HV:=Lib.hid hv
    clear hv
    go_wp2
    go_roundw
    case rel=>exact ⟨rfl,_,_,HR2.out.chg ((Chg.refl [hp] _).setCell (.inl (by simp)) _) (by simp;exact Ne.symm hne) (by simp;exact hrr),(by rw [cur_kUn];exact HH2.out.set 7 _ _ (by rw [HV.out];rfl)),(HC.out.trans (HC2.out.mono (by simp))).setCell (.inl (by simp)) _⟩
    case measure=>rw [(HR2.out.chg ((Chg.refl [hp] _).setCell (.inl (by simp)) _) (by simp;exact Ne.symm hne) (by simp;exact hrr)).cnt_eq,HL.out];exact HLT.out
   by_cases e3:k=kGn
   ·subst e3
    have HH3:=HH2.out
    have f8:=HH3.f 8;have c8:=HH3.c 8 _ rfl
    clear HH3
    have hv:=strV_get HK.out.gn HFK.out
    have HV:=Lib.hid hv
    clear hv
    go_wp2
    go_roundw
    case rel=>exact ⟨rfl,_,_,HR2.out.chg ((Chg.refl [hp] _).setCell (.inl (by simp)) _) (by simp;exact Ne.symm hne) (by simp;exact hrr),(by rw [cur_kGn];exact HH2.out.set 8 _ _ (by rw [HV.out];rfl)),(HC.out.trans (HC2.out.mono (by simp))).setCell (.inl (by simp)) _⟩
    case measure=>rw [(HR2.out.chg ((Chg.refl [hp] _).setCell (.inl (by simp)) _) (by simp;exact Ne.symm hne) (by simp;exact hrr)).cnt_eq,HL.out];exact HLT.out
   by_cases e4:k=kUi
   ·subst e4
    have hv:=numV_get HK.out.uid HFK.out
    have HV:=Lib.hid hv
    clear hv
    go_wp2_with (go_at_call 208;refine (parseInt64_any v (by have:=HV.out.2;omega) _ HV.out.1 _).mono ?_;rintro e w3 ⟨rfl,hc3⟩;have HC3:=Lib.hid hc3;have HH3:=HH2.out.chg hc3 (by simp);have f5:=HH3.f 5;have c5:=HH3.c 5 _ rfl;clear HH3 hc3)
    go_roundw
    all_goals have hcc:Chg [hp] w2 (w3.setCell ⟨hp,5,none⟩ (.int .i64 b.uid)):=(HC3.out.mono (by simp)).setCell (.inl (by simp)) _
    case rel=>exact ⟨rfl,_,_,HR2.out.chg hcc (by simp;exact Ne.symm hne) (by simp;exact hrr),(by rw [cur_kUi];exact (HH2.out.chg HC3.out (by simp)).set 5 _ _ rfl),(HC.out.trans (HC2.out.mono (by simp))).trans (hcc.mono (by simp))⟩
    case measure=>rw [(HR2.out.chg hcc (by simp;exact Ne.symm hne) (by simp;exact hrr)).cnt_eq,HL.out];exact HLT.out
   by_cases e5:k=kGi
   ·subst e5
    have hv:=numV_get HK.out.gid HFK.out
    have HV:=Lib.hid hv
    clear hv
    go_wp2_with (go_at_call 208;refine (parseInt64_any v (by have:=HV.out.2;omega) _ HV.out.1 _).mono ?_;rintro e w3 ⟨rfl,hc3⟩;have HC3:=Lib.hid hc3;have HH3:=HH2.out.chg hc3 (by simp);have f6:=HH3.f 6;have c6:=HH3.c 6 _ rfl;clear HH3 hc3)
    go_roundw
    all_goals have hcc:Chg [hp] w2 (w3.setCell ⟨hp,6,none⟩ (.int .i64 b.gid)):=(HC3.out.mono (by simp)).setCell (.inl (by simp)) _
    case rel=>exact ⟨rfl,_,_,HR2.out.chg hcc (by simp;exact Ne.symm hne) (by simp;exact hrr),(by rw [cur_kGi];exact (HH2.out.chg HC3.out (by simp)).set 6 _ _ rfl),(HC.out.trans (HC2.out.mono (by simp))).trans (hcc.mono (by simp))⟩
    case measure=>rw [(HR2.out.chg hcc (by simp;exact Ne.symm hne) (by simp;exact hrr)).cnt_eq,HL.out];exact HLT.out
   by_cases e6:k=kAt
   ·subst e6
    have hv:∀w:World,Calls Tryz.prog 209 #[.string v] w fun e w'=>e=.returned (.tuple #[.agg #[.int .u64 b.atn,.int .i64 (b.ats+62135596800)],.nilIface])∧Chg [] w w':=timV_get HK.out.at' HFK.out
    have HV:=Lib.hid hv
    clear hv
    go_wp2_with (go_at_call 209;refine (HV.out _).mono ?_;rintro e w3 ⟨rfl,hc3⟩;have HC3:=Lib.hid hc3;have HH3:=HH2.out.chg hc3 (by simp);have f11:=HH3.f 11;have c11:=HH3.c 11 _ rfl;have f12:=HH3.f 12;have c12:=HH3.c 12 _ rfl;clear HH3 hc3)
    go_roundw
    all_goals have hcc:Chg [hp] w2 ((w3.setCell ⟨hp,11,none⟩ (.int .u64 b.atn)).setCell ⟨hp,12,none⟩ (.int .i64 (b.ats+62135596800))):=((HC3.out.mono (by simp)).setCell (.inl (by simp)) _).setCell (.inl (by simp)) _
    case rel=>exact ⟨rfl,_,_,HR2.out.chg hcc (by simp;exact Ne.symm hne) (by simp;exact hrr),(by rw [cur_kAt];exact ((HH2.out.chg HC3.out (by simp)).set 11 _ { curTH a b left with atn:=b.atn } rfl).set 12 _ _ rfl),(HC.out.trans (HC2.out.mono (by simp))).trans (hcc.mono (by simp))⟩
    case measure=>rw [(HR2.out.chg hcc (by simp;exact Ne.symm hne) (by simp;exact hrr)).cnt_eq,HL.out];exact HLT.out
   by_cases e7:k=kMt
   ·subst e7
    have hv:∀w:World,Calls Tryz.prog 209 #[.string v] w fun e w'=>e=.returned (.tuple #[.agg #[.int .u64 b.mn,.int .i64 (b.ms+62135596800)],.nilIface])∧Chg [] w w':=timV_get HK.out.mt HFK.out
    have HV:=Lib.hid hv
    clear hv
    go_wp2_with (go_at_call 209;refine (HV.out _).mono ?_;rintro e w3 ⟨rfl,hc3⟩;have HC3:=Lib.hid hc3;have HH3:=HH2.out.chg hc3 (by simp);have f9:=HH3.f 9;have c9:=HH3.c 9 _ rfl;have f10:=HH3.f 10;have c10:=HH3.c 10 _ rfl;clear HH3 hc3)
    go_roundw
    all_goals have hcc:Chg [hp] w2 ((w3.setCell ⟨hp,9,none⟩ (.int .u64 b.mn)).setCell ⟨hp,10,none⟩ (.int .i64 (b.ms+62135596800))):=((HC3.out.mono (by simp)).setCell (.inl (by simp)) _).setCell (.inl (by simp)) _
    case rel=>exact ⟨rfl,_,_,HR2.out.chg hcc (by simp;exact Ne.symm hne) (by simp;exact hrr),(by rw [cur_kMt];exact ((HH2.out.chg HC3.out (by simp)).set 9 _ { curTH a b left with mn:=b.mn } rfl).set 10 _ _ rfl),(HC.out.trans (HC2.out.mono (by simp))).trans (hcc.mono (by simp))⟩
    case measure=>rw [(HR2.out.chg hcc (by simp;exact Ne.symm hne) (by simp;exact hrr)).cnt_eq,HL.out];exact HLT.out
   by_cases e8:k=kCt
   ·subst e8
    have hv:∀w:World,Calls Tryz.prog 209 #[.string v] w fun e w'=>e=.returned (.tuple #[.agg #[.int .u64 b.ctn,.int .i64 (b.cts+62135596800)],.nilIface])∧Chg [] w w':=timV_get HK.out.ct HFK.out
    have HV:=Lib.hid hv
    clear hv
    go_wp2_with (go_at_call 209;refine (HV.out _).mono ?_;rintro e w3 ⟨rfl,hc3⟩;have HC3:=Lib.hid hc3;have HH3:=HH2.out.chg hc3 (by simp);have f13:=HH3.f 13;have c13:=HH3.c 13 _ rfl;have f14:=HH3.f 14;have c14:=HH3.c 14 _ rfl;clear HH3 hc3)
    go_roundw
    all_goals have hcc:Chg [hp] w2 ((w3.setCell ⟨hp,13,none⟩ (.int .u64 b.ctn)).setCell ⟨hp,14,none⟩ (.int .i64 (b.cts+62135596800))):=((HC3.out.mono (by simp)).setCell (.inl (by simp)) _).setCell (.inl (by simp)) _
    case rel=>exact ⟨rfl,_,_,HR2.out.chg hcc (by simp;exact Ne.symm hne) (by simp;exact hrr),(by rw [cur_kCt];exact ((HH2.out.chg HC3.out (by simp)).set 13 _ { curTH a b left with ctn:=b.ctn } rfl).set 14 _ _ rfl),(HC.out.trans (HC2.out.mono (by simp))).trans (hcc.mono (by simp))⟩
    case measure=>rw [(HR2.out.chg hcc (by simp;exact Ne.symm hne) (by simp;exact hrr)).cnt_eq,HL.out];exact HLT.out
   by_cases e9:k=kSz
   ·subst e9
    have hv:=numV_get HK.out.size HFK.out
    have HV:=Lib.hid hv
    clear hv
    go_wp2_with (go_at_call 208;refine (parseInt64_any v (by have:=HV.out.2;omega) _ HV.out.1 _).mono ?_;rintro e w3 ⟨rfl,hc3⟩;have HC3:=Lib.hid hc3;have HH3:=HH2.out.chg hc3 (by simp);have f3:=HH3.f 3;have c3:=HH3.c 3 _ rfl;clear HH3 hc3)
    go_roundw
    all_goals have hcc:Chg [hp] w2 (w3.setCell ⟨hp,3,none⟩ (.int .i64 b.size)):=(HC3.out.mono (by simp)).setCell (.inl (by simp)) _
    case rel=>exact ⟨rfl,_,_,HR2.out.chg hcc (by simp;exact Ne.symm hne) (by simp;exact hrr),(by rw [cur_kSz];exact (HH2.out.chg HC3.out (by simp)).set 3 _ _ rfl),(HC.out.trans (HC2.out.mono (by simp))).trans (hcc.mono (by simp))⟩
    case measure=>rw [(HR2.out.chg hcc (by simp;exact Ne.symm hne) (by simp;exact hrr)).cnt_eq,HL.out];exact HLT.out
   have hco:=cur_other (a:=a) (b:=b) (L:=left) (s:=k) (by simp;exact ⟨Ne.symm e0,Ne.symm e1,Ne.symm e2,Ne.symm e3,Ne.symm e4,Ne.symm e5,Ne.symm e6,Ne.symm e7,Ne.symm e8,Ne.symm e9⟩)
   have HCO:=Lib.hid hco
   clear hco
   have g0:(k.toList == [112,97,116,104])=false:=toList_ne e0
   have g1:(k.toList == [108,105,110,107,112,97,116,104])=false:=toList_ne e1
   have g2:(k.toList == [117,110,97,109,101])=false:=toList_ne e2
   have g3:(k.toList == [103,110,97,109,101])=false:=toList_ne e3
   have g4:(k.toList == [117,105,100])=false:=toList_ne e4
   have g5:(k.toList == [103,105,100])=false:=toList_ne e5
   have g6:(k.toList == [97,116,105,109,101])=false:=toList_ne e6
   have g7:(k.toList == [109,116,105,109,101])=false:=toList_ne e7
   have g8:(k.toList == [99,116,105,109,101])=false:=toList_ne e8
   have g9:(k.toList == [115,105,122,101])=false:=toList_ne e9
   clear e0 e1 e2 e3 e4 e5 e6 e7 e8 e9
   go_wp2_with (go_at_call 125;refine (Tryz.strings_HasPrefix k ⟨#[83,67,72,73,76,89,46,120,97,116,116,114,46]⟩ _).mono ?_;rw [show Lib.hasPrefix k.data.toList (⟨#[83,67,72,73,76,89,46,120,97,116,116,114,46]⟩:ByteArray).data.toList=false from HXT.out];rintro e w3 ⟨rfl,rfl⟩)
   go_roundw
   case rel=>exact ⟨rfl,_,_,HR2.out,(by rw [HCO.out];exact HH2.out),HC.out.trans (HC2.out.mono (by simp))⟩
   case measure=>rw [HCN.out,HL.out];exact HLT.out
end Go.Proofs.YtkanmkcojlefbaaGreatDoor
