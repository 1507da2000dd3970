/-
  NewWriter over the whole state.
-/
import Derived.Test.YtkanmkcojlefbaaGreatDoorJ28
import Derived.Test.YtkanmkcojlefbaaGreatDoorJ38
set_option linter.unusedVariables false
namespace Go.Proofs.YtkanmkcojlefbaaGreatDoor
open Go.RowKit
def thZ:TH:={ tf:=0,name:=⟨#[]⟩,link:=⟨#[]⟩,size:=0,mode:=0,uid:=0,gid:=0,un:=⟨#[]⟩,gn:=⟨#[]⟩,ms:=-62135596800,mn:=0,ats:=-62135596800,atn:=0,cts:=-62135596800,ctn:=0,dj:=0,dn:=0,xa:=.map none,recs:=.map none,fmt:=0 }
set_option maxRecDepth 100000 in
theorem zero134_cells:Tryz.zeroCells134.toList=(Value.nilIface::.int .i64 0::.nilIface::thZ.cells++bvs (List.replicate 512 0)++ [Value.nilIface]):=by
 rfl
theorem zero134_eq:Tryz.zeroCells134=(Value.nilIface::.int .i64 0::.nilIface::(thZ.cells++(bvs (List.replicate 512 0)++ [Value.nilIface]))).toArray:=by
 apply Array.ext'
 rw [zero134_cells]
 generalize thZ.cells=C
 generalize bvs (List.replicate 512 0)=L
 simp only [List.cons_append,List.append_assoc]
set_option maxRecDepth 100000 in
set_option maxHeartbeats 800000 in
theorem newWriter_cells (b:Nat) (w:World) :
  Calls Tryz.prog 29 #[.iface 75 (.pointer (some ⟨b,0,none⟩))] w fun e w'=>e=.returned (.pointer (some ⟨w.heap.size+1,0,none⟩))∧
   w'.heap[w.heap.size+1]? =some (.cells (wcells b w.heap.size 0 thZ (List.replicate 512 0)) 134 (0,0))∧w'.heap[w.heap.size]? =some (.cells #[.iface 75 (.pointer (some ⟨b,0,none⟩)),.int .i64 0] 121 (0,0))∧Chg [] w w':=by
 go_enter Tryz.func29,Tryz.ntmps29
 go_wp2
 go_ret
 refine ⟨rfl,?_,?_,((Chg.refl _ w).alloc _).alloc _⟩
 ·refine (heap_alloc2_new _ _ _).trans ?_
  rw [zero134_eq]
  unfold wcells
  generalize thZ.cells=C
  generalize bvs (List.replicate 512 0)=L
  simp
 ·rw [Below.heap_alloc _ _ _ (by simp)];exact heap_alloc_new _ _
theorem newWriter_ws (B:Nat) (sn:Nat→Addr) (kb b:Nat) (w:World) (hE:Env B sn kb w) (hI:Lib.IsBuffer 70 5 B b (bvs []) w) :
  Calls Tryz.prog 29 #[.iface 75 (.pointer (some ⟨b,0,none⟩))] w fun e w'=>e=.returned (.pointer (some ⟨w.heap.size+1,0,none⟩))∧
   WS B sn kb (w.heap.size+1) b w.heap.size 0 0 thZ (List.replicate 512 0) [] w'∧Chg [] w w':=by
 have hs:=hE.size
 have hb:b < w.heap.size:=by
  obtain ⟨_,v,lr,hb,_⟩:=hI
  exact (Array.getElem?_eq_some_iff.1 hb).1
 refine (newWriter_cells b w).mono ?_
 rintro e w' ⟨rfl,h1,h2,hc⟩
 exact ⟨rfl,⟨hE.chg hc (by simp),h1,List.length_replicate ..,h2,isBuf_chg hI hc (by simp),by omega,by omega,by omega,by omega,by omega,by omega⟩,hc⟩
end Go.Proofs.YtkanmkcojlefbaaGreatDoor
