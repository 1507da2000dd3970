/-
  laws.records (28): records as package spec has them.
-/
import Derived.Test.YtkanmkcojlefbaaGreatDoorJ29
import Derived.Test.YtkanmkcojlefbaaGreatDoorJ06
set_option linter.unusedVariables false
namespace Go.Proofs.YtkanmkcojlefbaaGreatDoor
open Go.RowKit
def flatR (l:List (ByteArray×ByteArray)):List Value:=l.flatMap fun p=> [.string p.1,.string p.2]
theorem flatR_append (a b:List (ByteArray×ByteArray)):flatR (a++b)=flatR a++flatR b:=List.flatMap_append
theorem flatR_len:∀l:List (ByteArray×ByteArray),(flatR l).length=l.length*2
 | []=>rfl
 | p::t=>by
  have e:flatR (p::t)= [.string p.1,.string p.2]++flatR t:=rfl
  rw [e,List.length_append,flatR_len t,List.length_cons]
  simp only [List.length_cons,List.length_nil]
  omega
theorem flatR_take (l:List (ByteArray×ByteArray)) (j:Nat) (h:j < l.length):flatR (l.take (j+1))=flatR (l.take j)++ [.string (l[j]).1,.string (l[j]).2]:=by
 rw [List.take_succ_eq_append_getElem h,flatR_append]
 rfl
theorem flatR_get:∀(l:List (ByteArray×ByteArray)) (j:Nat) (h:j < l.length),(flatR l)[j*2]? =some (.string (l[j]).1)∧(flatR l)[j*2+1]? =some (.string (l[j]).2)
 | p::t,0,_=>⟨rfl,rfl⟩
 | p::t,j+1,h=>by
  have e:flatR (p::t)= [.string p.1,.string p.2]++flatR t:=rfl
  have ih:=flatR_get t j (by simpa using h)
  rw [e]
  constructor
  ·rw [List.getElem?_append_right (by simp;omega)]
   have:(j+1)*2 - [Value.string p.1,Value.string p.2].length=j*2:=by simp;omega
   rw [this];exact ih.1
  ·rw [List.getElem?_append_right (by simp;omega)]
   have:(j+1)*2+1 - [Value.string p.1,Value.string p.2].length=j*2+1:=by simp;omega
   rw [this];exact ih.2
theorem recsIn_own {base n:Nat} {e:TypeId} {v:Value} {l:List (ByteArray×ByteArray)} {w:World} (h:w.ownsRow base e 2 v n (flatR l)) (hl:l.length=n):∃a c,v=.slice a n c∧RecsIn a n c l w∧∀ad:Addr,a=some ad→base≤ad.block:=by
 rcases h.2 with ⟨rfl,rfl⟩ | ⟨g,cap,cur,rfl,hbg,hg,hnc,hcm,hcs,htake⟩
 ·exact ⟨none,0,rfl,⟨hl,Nat.le_refl _,Nat.zero_le _,.inl rfl⟩,fun ad h=>by cases h⟩
 ·refine ⟨_,_,rfl,⟨hl,hnc,hcm,.inr ⟨g,0,rfl,fun j hj=> ?_⟩⟩,fun ad h=>by injection h with h;subst h;exact hbg⟩
  have hc:=h.cells (g:=g) rfl
  obtain ⟨h1,h2⟩:=flatR_get l j hj
  have a1:=hc _ _ h1
  have a2:=hc _ _ h2
  rw [add_addr] at a1 a2
  exact ⟨by simpa using a1,by simpa [Nat.add_assoc] using a2⟩
theorem cell2_new (w:World) (u v:Value) (T:TypeId):∀j x,([u,v]:List Value)[j]? =some x→(w.alloc (.cells #[u,v] T)).cell? ((⟨w.heap.size,0,none⟩:Addr).add j)=some x:=by
 intro j x h
 rw [add_addr,Nat.zero_add,World.cell?_alloc_new]
 simpa using h
set_option maxRecDepth 100000 in
set_option maxHeartbeats 1000000 in
theorem records_any (a:Option Addr) (n c:Nat) (l:List (ByteArray×ByteArray)) (w:World) (hR:RecsIn a n c l w) (hn:n≤1099511627776) :
  Calls Tryz.prog 28 #[.slice a n c] w fun e w'=>∃a' c',e=.returned (.slice a' n c')∧RecsIn a' n c' l w'∧(∀ad:Addr,a'=some ad→w.heap.size≤ad.block)∧Chg [] w w':=by
 obtain ⟨r1,r2,r3,r4⟩:=hR
 unfold maxLen at r3
 have HR1:=Lib.hid r1
 clear r1
 obtain ⟨i0,hi,hz0,hz1,hz2⟩:∃i,Tryz.prog.info? 108=some i∧i.zero=some (.agg #[.string ⟨#[]⟩,.string ⟨#[]⟩])∧i.size=2∧i.bytes=32:=⟨_,rfl,rfl,rfl,rfl⟩
 rcases r4 with rfl | ⟨bb,off,rfl,hcell⟩
 ·refine (records_none a c w).mono ?_
  rintro e w' ⟨rfl,rfl⟩
  exact ⟨none,0,rfl,⟨HR1.out,Nat.le_refl _,Nat.zero_le _,.inl rfl⟩,(fun ad h=>by cases h),Chg.refl _ _⟩
 ·have HCE:=Lib.hid hcell
  clear hcell
  go_enter Tryz.func28,Tryz.ntmps28
  go_wp2
  go_loopw [3,8] (fun v i wr=>∃j:Nat,j≤n∧i=.int .i64 j∧wr.ownsRow w.heap.size 108 2 v j (flatR (l.take j))∧Chg [] w wr) (fun _ i _=>n - (intOf i).toNat)
  case atStart=>exact ⟨0,by omega,rfl,by rw [List.take_zero];exact World.ownsRow_nil _ _ _ _,Chg.refl _ _⟩
  case round=>
   obtain ⟨j,hj,rfl,ho,hch⟩:=hrel
   have HO:=Lib.hid ho;have HCH:=Lib.hid hch
   clear ho hch
   by_cases hlt:j < n
   ·have hlt':(j:Int) < n:=by omega
    have hll:j < l.length:=by rw [HR1.out];exact hlt
    have hc1:=HCH.out.cell (HCE.out j hll).1 (by simp)
    have hc2:=HCH.out.cell (HCE.out j hll).2 (by simp)
    have htk:=flatR_take l j hll
    generalize l[j]=kv at hc1 hc2 htk
    obtain ⟨k,v⟩:=kv
    simp only at hc1 hc2 htk
    have HTK:=Lib.hid htk
    clear htk
    have hone:∀u∈ [Value.string k,Value.string v],u.oneCell'=true:=by simp [Value.oneCell']
    have h63:j+1≤maxLen:=by unfold maxLen;omega
    have hby:(j+1)*32≤140737488355328:=by omega
    have hba:w.heap.size≤((wr.alloc (.cells #[Value.string k,Value.string v] 59)).alloc (.cells #[Value.string k,Value.string v] 108)).heap.size:=by have:=HCH.out.size;simp;omega
    have hne:∀i u,([Value.string k,Value.string v]:List Value)[i]? =some u→((wr.alloc (.cells #[Value.string k,Value.string v] 59)).alloc (.cells #[Value.string k,Value.string v] 108)).cell? ((⟨wr.heap.size+1,0,none⟩:Addr).add i)=some u:=by
     have:=cell2_new (wr.alloc (.cells #[Value.string k,Value.string v] 59)) (.string k) (.string v) 108
     rwa [show (wr.alloc (.cells #[Value.string k,Value.string v] 59)).heap.size=wr.heap.size+1 from Array.size_push _] at this
    have HNE:=Lib.hid hne
    clear hne
    go_wp2_with (at_builtin;refine wpList_append_own _ rfl _ _ 29 rfl w.heap.size 108 i0 (.agg #[.string ⟨#[]⟩,.string ⟨#[]⟩]) 2 32 Tryz.underlying29 hi hz0 hz1 hz2 rfl (by decide) _ _ _ rfl ((HO.out.alloc _).alloc _) ⟨wr.heap.size+1,0,none⟩ 1 1 [.string k,.string v] rfl rfl HNE.out hone h63 hby hba ?_;intro v' w4 hown' hgrow hnil)
    have hS:∀g,u3.ownBlock=some g→g∈u3.ownBlock.toList:=by intro g hg;rw [hg];simp
    have hcg:=chg_grownV hgrow hS
    have hlow:∀g∈u3.ownBlock.toList,g∈([]:List Nat)∨w.heap.size≤g:=by
     intro g hg
     exact .inr (World.ownsRow.lt HO.out g (by simpa using hg)).1
    have hc4:Chg [] w w4:=((HCH.out.alloc _).alloc _).transFresh hcg hlow
    go_roundw
    case rel=>exact ⟨j+1,by omega,by go_num,by rw [HTK.out];exact hown',hc4⟩
    case measure=>simp [intOf];omega
   ·obtain rfl:j=n:=by omega
    have htk:l.take j=l:=List.take_of_length_le (by rw [HR1.out];omega)
    have HTK:=Lib.hid htk
    clear htk
    go_wp2
    go_ret
    have ho:=HO.out
    rw [HTK.out] at ho
    obtain ⟨a',c',rfl,hrr,hfr⟩:=recsIn_own ho HR1.out
    exact ⟨a',c',rfl,hrr,hfr,HCH.out⟩
theorem RecsIn.chgS {a:Option Addr} {n c:Nat} {l:List (ByteArray×ByteArray)} {S:List Nat} {w w':World} (h:RecsIn a n c l w) (k:Chg S w w') (hS:∀ad:Addr,a=some ad→ad.block∉S):RecsIn a n c l w':=by
 obtain ⟨h1,h2,h3,h4⟩:=h
 refine ⟨h1,h2,h3,h4.imp id fun ⟨b,off,e,hc⟩=>⟨b,off,e,fun j hj=> ?_⟩⟩
 have hb:=hS _ e
 exact ⟨k.cell (hc j hj).1 hb,k.cell (hc j hj).2 hb⟩
end Go.Proofs.YtkanmkcojlefbaaGreatDoor
