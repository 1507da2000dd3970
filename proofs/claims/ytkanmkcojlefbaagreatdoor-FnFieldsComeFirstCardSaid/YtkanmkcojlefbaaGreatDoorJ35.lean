/-
  copy of records inside a row: elements of two cells · headerOf (38): the plain law of its records: put in by their keys · headerOf (38): room is made among the records, and one is put in.
-/
import Derived.Test.YtkanmkcojlefbaaGreatDoorJ31
import Derived.Laws.CopyOwn
import Derived.Test.YtkanmkcojlefbaaGreatDoorJ29
set_option linter.unusedVariables false
namespace Go.Proofs.YtkanmkcojlefbaaGreatDoor
open Go.RowKit
theorem run_copy2 {P:Program} (w:World) (dT sT ty elem:TypeId) (g o dLen dCap:Nat) (a:Addr) (sLen sCap:Nat) (cur:Array Value) (t:TypeId) (cs:List Value) (n:Nat)
  (hu:P.underlying dT=some (.slice elem)) (hs:(P.info? elem).map (·.size)=some 2) (hg:w.heap[g]? =some (.cells cur t (0,0))) (hnn:Nat.min sLen dLen=n) (hn:n*2=cs.length)
  (hsrc:∀j v,cs[j]? =some v→w.cell? (a.add j)=some v) (hfit:o+cs.length≤cur.size) (h1:∀v∈cs,v.oneCell'=true) :
  (Builtin.copy_ #[dT,sT] ty #[.slice (some ⟨g,o,none⟩) dLen dCap,.slice (some a) sLen sCap]).run P w=
   .ok (goInt n) (w.setRow g (cur.toList.take o++cs++cur.toList.drop (o+cs.length)).toArray):=by
 have hl:=run_loadCells_list (P:=P) w a cs hsrc
 have hst:=run_storeCells_at P g o t cs 0 cur w hg (by simpa using hfit) h1
 cases hq:P.info? elem with
 | none=>simp [hq] at hs
 | some i=>
  have hi:i.size=2:=by simpa [hq] using hs
  simp [Builtin.copy_,run_underlying hu,Builtin.lenOf,Builtin.firstCells,sizeOf,typeInfo,hq,hi,hnn,hn,hl,hst]
theorem run_copy2_0 {P:Program} (w:World) (dT sT ty elem:TypeId) (d s:Option Addr) (dLen dCap sLen sCap:Nat) (hu:P.underlying dT=some (.slice elem)) (hs:(P.info? elem).map (·.size)=some 2) (hn:Nat.min sLen dLen=0) :
  (Builtin.copy_ #[dT,sT] ty #[.slice d dLen dCap,.slice s sLen sCap]).run P w=.ok (goInt 0) w:=by
 cases hq:P.info? elem with
 | none=>simp [hq] at hs
 | some i=>
  cases d<;>cases s<;>simp [Builtin.copy_,run_underlying hu,Builtin.lenOf,Builtin.firstCells,sizeOf,typeInfo,hq,hn,loadCells,loadCellsFrom,storeCells]
theorem flatR_ins (l:List (ByteArray×ByteArray)) (i:Nat) (p:ByteArray×ByteArray):flatR (l.take i++p::l.drop i)=(flatR l).take (i*2)++ [.string p.1,.string p.2]++(flatR l).drop (i*2):=by
 have h1:flatR (l.take i)=(flatR l).take (i*2):=by
  by_cases hi:i≤l.length
  ·have e:flatR l=flatR (l.take i)++flatR (l.drop i):=by rw [←flatR_append,List.take_append_drop]
   have hl:(flatR (l.take i)).length=i*2:=by rw [flatR_len,List.length_take];omega
   rw [e,List.take_left' hl]
  ·rw [List.take_of_length_le (by omega),List.take_of_length_le (by rw [flatR_len];omega)]
 have h2:flatR (l.drop i)=(flatR l).drop (i*2):=by
  by_cases hi:i≤l.length
  ·have e:flatR l=flatR (l.take i)++flatR (l.drop i):=by rw [←flatR_append,List.take_append_drop]
   have hl:(flatR (l.take i)).length=i*2:=by rw [flatR_len,List.length_take];omega
   rw [e,List.drop_left' hl]
  ·rw [List.drop_of_length_le (by omega),List.drop_of_length_le (by rw [flatR_len];omega)];rfl
 have h3:l.take i++p::l.drop i=l.take i++ [p]++l.drop i:=by simp
 rw [h3,flatR_append,flatR_append,h1,h2]
 rfl
end Go.Proofs.YtkanmkcojlefbaaGreatDoor
namespace Go.Proofs.YtkanmkcojlefbaaGreatDoor
open Go.RowKit
theorem nodup_len:∀(l ks:List ByteArray),l.Nodup→(∀k∈l,k∈ks)→l.length≤ks.length
 | [],ks,_,_=>by simp
 | k::r,ks,hn,h=>by
  have hr:=List.nodup_cons.1 hn
  have hk:=h k (by simp)
  obtain ⟨a,b,rfl⟩:=List.append_of_mem hk
  have ih:=nodup_len r (a++b) hr.2 (fun x hx=>by
   have:=h x (List.mem_cons_of_mem _ hx)
   rcases List.mem_append.1 this with h1 | h1
   ·exact List.mem_append.2 (.inl h1)
   ·rcases List.mem_cons.1 h1 with rfl | h1
    ·exact absurd hx hr.1
    ·exact List.mem_append.2 (.inr h1))
  simp only [List.length_append,List.length_cons] at ih⊢
  omega
def insR (L:List (ByteArray×ByteArray)) (i:Nat) (p:ByteArray×ByteArray):List (ByteArray×ByteArray):=L.take i++p::L.drop i
theorem insR_len (L:List (ByteArray×ByteArray)) (i:Nat) (p:ByteArray×ByteArray) (h:i≤L.length):(insR L i p).length=L.length+1:=by
 unfold insR
 simp only [List.length_append,List.length_take,List.length_cons,List.length_drop]
 omega
theorem insR_mem (L:List (ByteArray×ByteArray)) (i:Nat) (p q:ByteArray×ByteArray):q∈insR L i p↔q=p∨q∈L:=by
 unfold insR
 have e:q∈L↔q∈L.take i∨q∈L.drop i:=by rw [←List.mem_append,List.take_append_drop]
 rw [e,List.mem_append,List.mem_cons]
 constructor
 ·rintro (h | h | h)
  ·exact .inr (.inl h)
  ·exact .inl h
  ·exact .inr (.inr h)
 ·rintro (h | h | h)
  ·exact .inr (.inl h)
  ·exact .inl h
  ·exact .inr (.inr h)
structure HoL (F:KV) (left:ByteArray→Bool) (L:List (ByteArray×ByteArray)):Prop where
 nd:(L.map (·.1)).Nodup
 mem:∀p∈L,F p.1=some p.2∧left p.1=false∧p.1.size≤maxLen
 all:∀k v,k.size≤maxLen→F k=some v→left k=false→(k,v)∈L
theorem HoL.nil {F:KV}:HoL F (fun s=>(F s).isSome) []:=
 ⟨List.nodup_nil,(fun p h=>by cases h),(fun k v _ h1 h2=>by rw [h1] at h2;cases h2)⟩
theorem HoL.ins {F:KV} {left:ByteArray→Bool} {L:List (ByteArray×ByteArray)} (h:HoL F left L) {k v:ByteArray} (i:Nat) (hi:i≤L.length) (hk:k.size≤maxLen) (hl:left k=true) (hF:F k=some v):HoL F (fun x=>left x && !decide (x=k)) (insR L i (k,v)):=by
 refine ⟨?_,?_,?_⟩
 ·have hk':k∉L.map (·.1):=fun hm=>by
   obtain ⟨p,hp,rfl⟩:=List.mem_map.1 hm
   rw [(h.mem p hp).2.1] at hl;cases hl
  unfold insR
  rw [List.map_append,List.map_cons]
  have e:L.map (·.1)=(L.take i).map (·.1)++(L.drop i).map (·.1):=by rw [←List.map_append,List.take_append_drop]
  have hn:=h.nd
  rw [e] at hn hk'
  rw [List.nodup_append] at hn⊢
  obtain ⟨n1,n2,n3⟩:=hn
  refine ⟨n1,List.nodup_cons.2 ⟨fun hm=>hk' (List.mem_append.2 (.inr hm)),n2⟩,?_⟩
  intro a ha b hb
  rcases List.mem_cons.1 hb with rfl | hb
  ·rintro rfl;exact hk' (List.mem_append.2 (.inl ha))
  ·exact n3 a ha b hb
 ·intro p hp
  rcases (insR_mem L i (k,v) p).1 hp with rfl | hp
  ·exact ⟨hF,by simp,hk⟩
  ·obtain ⟨a,b,c⟩:=h.mem p hp
   exact ⟨a,by simp [b],c⟩
 ·intro x u hx hu hlx
  rw [insR_mem]
  by_cases e:x=k
  ·subst e
   rw [hF] at hu
   exact .inl (by rw [Option.some.inj hu])
  ·refine .inr (h.all x u hx hu ?_)
   simpa [e] using hlx
theorem HoL.len {F:KV} {left:ByteArray→Bool} {L:List (ByteArray×ByteArray)} (h:HoL F left L) {ks:List ByteArray} (hks:∀k v,F k=some v→k∈ks):L.length≤ks.length:=by
 have:=nodup_len (L.map (·.1)) ks h.nd (fun k hk=>by
  obtain ⟨p,hp,rfl⟩:=List.mem_map.1 hk
  exact hks _ _ (h.mem p hp).1)
 simpa using this
def OutB (ob:Nat) (A B:List Value) (v:Value) (w:World):Prop:=w.heap[ob]? =some (.cells (A++v::B).toArray 26 (0,0))∧A.length=19
theorem OutB.c {ob:Nat} {A B:List Value} {v:Value} {w:World} (h:OutB ob A B v w):w.cell? ⟨ob,19,none⟩=some v:=by
 rw [cell_heap h.1,List.getElem?_toArray,List.getElem?_append_right (by rw [h.2];exact Nat.le_refl _),h.2]
 rfl
theorem OutB.f {ob:Nat} {A B:List Value} {v:Value} {w:World} (h:OutB ob A B v w):w.frozen? ⟨ob,19,none⟩=false:=frozen_heap h.1 19
theorem OutB.set {ob:Nat} {A B:List Value} {v u:Value} {w:World} (h:OutB ob A B v w):OutB ob A B u (w.setCell ⟨ob,19,none⟩ u):=by
 refine ⟨?_,h.2⟩
 rw [heap_setCell_at h.1 19 u]
 congr 2
 rw [List.setIfInBounds_toArray]
 congr 1
 rw [List.set_append_right _ _ (by rw [h.2];exact Nat.le_refl _),h.2]
 rfl
theorem OutB.chg {ob:Nat} {A B:List Value} {v:Value} {S:List Nat} {w w':World} (h:OutB ob A B v w) (k:Chg S w w') (hn:ob∉S):OutB ob A B v w':=⟨k.heap h.1 hn,h.2⟩
end Go.Proofs.YtkanmkcojlefbaaGreatDoor
namespace Go.Proofs.YtkanmkcojlefbaaGreatDoor
open Go.RowKit
theorem s59:(Tryz.prog.info? 59).map (·.size)=some 2:=by kernel_rfl
theorem sz59 (w:World):(Go.sizeOf 59).run Tryz.prog w=.ok 2 w:=by
 cases hq:Tryz.prog.info? 59 with
 | none=>have:=s59;rw [hq] at this;cases this
 | some i=>
  have hi:i.size=2:=by have:=s59;rw [hq] at this;simpa using this
  simp [sizeOf,typeInfo,hq,hi]
def slA (g cap l:Nat):Addr:=if cap=l then ⟨g,0,none⟩ else ⟨g,l*2,none⟩
theorem sl24 (g n cap l:Nat) (x:Int) (hx:x=l) (hl:l≤n) (w:World):(Instr.slice 24 (.slice (some ⟨g,0,none⟩) n cap) (some (.int .i64 x)) none none).run Tryz.prog w=.ok (.slice (some (slA g cap l)) (n - l) (cap - l)) w:=by
 subst hx
 have ht:Tryz.prog.underlying 24=some (.slice (Tryz.prog.elem 24)):=by simp [Program.elem,Tryz.underlying24]
 have he:Tryz.prog.elem 24=59:=by simp [Program.elem,Tryz.underlying24]
 rw [run_slice_l w 24 _ _ _ ht .i64 _ (by omega) (by omega),he,sz59]
 unfold slA
 by_cases h0:cap=l
 ·simp [Result.andThen,sliced,h0]
 ·simp [Result.andThen,sliced,Addr.add,h0]
  omega
theorem flatR_one (l:List (ByteArray×ByteArray)):∀v∈flatR l,v.oneCell'=true:=by
 intro v hv
 simp only [flatR,List.mem_flatMap] at hv
 obtain ⟨p,_,hp⟩:=hv
 simp only [List.mem_cons,List.not_mem_nil,or_false] at hp
 rcases hp with rfl | rfl<;>rfl
theorem take_two {α:Type} (l:List α) (k:Nat) (h:k+2≤l.length):∃x y,l.take (k+2)=l.take k++ [x,y]:=by
 refine ⟨l[k],l[k+1],?_⟩
 have a:=List.take_succ_eq_append_getElem (by omega:k+1 < l.length)
 have b:=List.take_succ_eq_append_getElem (by omega:k < l.length)
 rw [show k+2=k+1+1 by omega,a,b,List.append_assoc]
 rfl
theorem copy_in (w:World) (g i cap:Nat) (L:List (ByteArray×ByteArray)) (cur:Array Value) (hg:w.heap[g]? =some (.cells cur 59 (0,0))) (hi:i≤L.length) (hn:L.length+1≤cap) (hcs:cur.size=cap*2) (htk:cur.toList.take ((L.length+1)*2)=flatR L++ [.string ⟨#[]⟩,.string ⟨#[]⟩]) :
  ∃w' cur' x y,(Builtin.copy_ #[24,24] 3 #[.slice (some (slA g cap (i+1))) (L.length+1 - (i+1)) (cap - (i+1)),.slice (some (slA g cap i)) (L.length+1 - i) (cap - i)]).run Tryz.prog w=.ok (.int .i64 ((L.length - i:Nat):Int)) w'∧
   w'.heap[g]? =some (.cells cur' 59 (0,0))∧cur'.size=cap*2∧cur'.toList.take ((L.length+1)*2)=(flatR L).take (i*2)++ [x,y]++(flatR L).drop (i*2)∧Chg [g] w w':=by
 have hlr:=flatR_len L
 have hlen:cur.toList.length=cap*2:=by simpa using hcs
 obtain ⟨x,y,hxy⟩:=take_two cur.toList (i*2) (by omega)
 have hA:cur.toList.take (i*2)=(flatR L).take (i*2):=by
  have e:cur.toList.take (i*2)=(cur.toList.take ((L.length+1)*2)).take (i*2):=by rw [List.take_take];congr 1;omega
  rw [e,htk,List.take_append_of_le_length (by omega)]
 by_cases hl:i=L.length
 ·subst hl
  refine ⟨w,cur,.string ⟨#[]⟩,.string ⟨#[]⟩,?_,hg,hcs,?_,Chg.refl _ _⟩
  ·rw [run_copy2_0 w 24 24 3 59 _ _ _ _ _ _ Tryz.underlying24 s59 (by simp)]
   simp [goInt]
  ·rw [htk,List.take_of_length_le (by omega),List.drop_of_length_le (by omega),List.append_nil]
 ·have hl1:slA g cap (i+1)=⟨g,(i+1)*2,none⟩:=if_neg (by omega)
  have hl2:slA g cap i=⟨g,i*2,none⟩:=if_neg (by omega)
  have hdl:((flatR L).drop (i*2)).length=(L.length - i)*2:=by rw [List.length_drop];omega
  have hcp:=run_copy2 (P:=Tryz.prog) w 24 24 3 59 g ((i+1)*2) (L.length+1 - (i+1)) (cap - (i+1)) ⟨g,i*2,none⟩ (L.length+1 - i) (cap - i) cur 59 ((flatR L).drop (i*2)) (L.length - i) Tryz.underlying24 s59 hg
   (by show min _ _=_;omega) hdl.symm
   (by
    intro j v hv
    rw [add_addr,cell_heap hg]
    rw [List.getElem?_drop] at hv
    have hlt:i*2+j < (flatR L).length:=(List.getElem?_eq_some_iff.1 hv).1
    have:cur.toList[i*2+j]? =(cur.toList.take ((L.length+1)*2))[i*2+j]? :=by rw [List.getElem?_take,if_pos (by omega)]
    rw [←Array.getElem?_toList,this,htk,List.getElem?_append_left hlt,hv])
   (by rw [hdl,hcs];omega) (fun v hv=>flatR_one L v (List.mem_of_mem_drop hv))
  refine ⟨_,_,x,y,by rw [hl1,hl2];exact hcp,setRow_heap _ _ _ _ _ _ hg,?_,?_,(Chg.refl _ _).setRow (.inl (by simp)) _⟩
  ·simp only [List.size_toArray,List.length_append,List.length_take,List.length_drop];omega
  ·rw [List.toList_toArray,List.take_append_of_le_length (by simp only [List.length_append,List.length_take,List.length_drop];omega),List.take_of_length_le (by simp only [List.length_append,List.length_take,List.length_drop];omega),
    show (i+1)*2=i*2+2 by omega,hxy,hA]
theorem put_in {w:World} {base g i cap:Nat} {L:List (ByteArray×ByteArray)} {cur:Array Value} {x y:Value} (hb:base≤g) (hg:w.heap[g]? =some (.cells cur 59 (0,0))) (hi:i≤L.length) (hn:L.length+1≤cap) (hcm:cap≤maxLen) (hcs:cur.size=cap*2) (htk:cur.toList.take ((L.length+1)*2)=(flatR L).take (i*2)++ [x,y]++(flatR L).drop (i*2)) (k v:ByteArray) :
  ((w.setCell ⟨g,i*2,none⟩ (.string k)).setCell ⟨g,i*2+1,none⟩ (.string v)).ownsRow base 59 2 (.slice (some ⟨g,0,none⟩) (L.length+1) cap) (L.length+1) (flatR (insR L i (k,v))):=by
 have hlr:=flatR_len L
 have h1:=heap_setCell_at hg (i*2) (.string k)
 have h2:=heap_setCell_at h1 (i*2+1) (.string v)
 refine ⟨by rw [flatR_len,insR_len _ _ _ hi],.inr ⟨g,cap,_,rfl,hb,h2,hn,hcm,by simpa using hcs,?_⟩⟩
 rw [insR,flatR_ins]
 simp only [Array.toList_setIfInBounds]
 rw [List.take_set,List.take_set,htk]
 have hl:((flatR L).take (i*2)).length=i*2:=by rw [List.length_take];omega
 rw [List.append_assoc,List.set_append_right _ _ (by omega),hl,List.set_append_right _ _ (by omega),hl,List.append_assoc]
 simp
theorem put_fact {w:World} {g i cap:Nat} {L:List (ByteArray×ByteArray)} {cur:Array Value} (hg:w.heap[g]? =some (.cells cur 59 (0,0))) (hi:i≤L.length) (hn:L.length+1≤cap) (hcs:cur.size=cap*2) :
  (∃u,w.cell? ⟨g,i*2,none⟩=some u)∧(∃u,w.cell? ⟨g,i*2+1,none⟩=some u)∧w.frozen? ⟨g,i*2,none⟩=false∧w.frozen? ⟨g,i*2+1,none⟩=false:=by
 refine ⟨⟨cur[i*2]'(by omega),?_⟩,⟨cur[i*2+1]'(by omega),?_⟩,frozen_heap hg _,frozen_heap hg _⟩
 ·rw [cell_heap hg,Array.getElem?_eq_getElem]
 ·rw [cell_heap hg,Array.getElem?_eq_getElem]
end Go.Proofs.YtkanmkcojlefbaaGreatDoor
