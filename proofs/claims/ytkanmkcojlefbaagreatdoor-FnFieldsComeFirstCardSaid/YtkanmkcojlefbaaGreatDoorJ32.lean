/-
  laws.plain (9): a header as package spec has it, with its records.
-/
import Derived.Test.YtkanmkcojlefbaaGreatDoorJ30
import Derived.Test.YtkanmkcojlefbaaGreatDoorJ31
set_option linter.unusedVariables false
namespace Go.Proofs.YtkanmkcojlefbaaGreatDoor
open Go.RowKit
attribute [go_sem] Instr.storeAt
theorem lp0 (h:SH) (w:World) (g:Nat) (hg:w.heap[g]? =some (.cells h.icells 26 (0,0))):(Instr.loadAt 5 (.pointer (some ⟨g,0,none⟩))).run Tryz.prog w=.ok (.int .u8 h.tf.toNat) w:=by
 have c1:w.cell? ⟨g,0,none⟩=some (.int .u8 h.tf.toNat):=by rw [cell_heap hg];rfl
 clear hg
 go_simp
theorem lp1 (h:SH) (w:World) (g:Nat) (hg:w.heap[g]? =some (.cells h.icells 26 (0,0))):(Instr.loadAt 9 (.pointer (some ⟨g,1,none⟩))).run Tryz.prog w=.ok (.string h.name) w:=by
 have c1:w.cell? ⟨g,1,none⟩=some (.string h.name):=by rw [cell_heap hg];rfl
 clear hg
 go_simp
theorem lp2 (h:SH) (w:World) (g:Nat) (hg:w.heap[g]? =some (.cells h.icells 26 (0,0))):(Instr.loadAt 9 (.pointer (some ⟨g,2,none⟩))).run Tryz.prog w=.ok (.string h.link) w:=by
 have c1:w.cell? ⟨g,2,none⟩=some (.string h.link):=by rw [cell_heap hg];rfl
 clear hg
 go_simp
theorem lp3 (h:SH) (w:World) (g:Nat) (hg:w.heap[g]? =some (.cells h.icells 26 (0,0))):(Instr.loadAt 2 (.pointer (some ⟨g,3,none⟩))).run Tryz.prog w=.ok (.int .i64 h.size) w:=by
 have c1:w.cell? ⟨g,3,none⟩=some (.int .i64 h.size):=by rw [cell_heap hg];rfl
 clear hg
 go_simp
theorem lp4 (h:SH) (w:World) (g:Nat) (hg:w.heap[g]? =some (.cells h.icells 26 (0,0))):(Instr.loadAt 2 (.pointer (some ⟨g,4,none⟩))).run Tryz.prog w=.ok (.int .i64 h.mode) w:=by
 have c1:w.cell? ⟨g,4,none⟩=some (.int .i64 h.mode):=by rw [cell_heap hg];rfl
 clear hg
 go_simp
theorem lp5 (h:SH) (w:World) (g:Nat) (hg:w.heap[g]? =some (.cells h.icells 26 (0,0))):(Instr.loadAt 3 (.pointer (some ⟨g,5,none⟩))).run Tryz.prog w=.ok (.int .i64 h.uid) w:=by
 have c1:w.cell? ⟨g,5,none⟩=some (.int .i64 h.uid):=by rw [cell_heap hg];rfl
 clear hg
 go_simp
theorem lp6 (h:SH) (w:World) (g:Nat) (hg:w.heap[g]? =some (.cells h.icells 26 (0,0))):(Instr.loadAt 3 (.pointer (some ⟨g,6,none⟩))).run Tryz.prog w=.ok (.int .i64 h.gid) w:=by
 have c1:w.cell? ⟨g,6,none⟩=some (.int .i64 h.gid):=by rw [cell_heap hg];rfl
 clear hg
 go_simp
theorem lp7 (h:SH) (w:World) (g:Nat) (hg:w.heap[g]? =some (.cells h.icells 26 (0,0))):(Instr.loadAt 9 (.pointer (some ⟨g,7,none⟩))).run Tryz.prog w=.ok (.string h.un) w:=by
 have c1:w.cell? ⟨g,7,none⟩=some (.string h.un):=by rw [cell_heap hg];rfl
 clear hg
 go_simp
theorem lp8 (h:SH) (w:World) (g:Nat) (hg:w.heap[g]? =some (.cells h.icells 26 (0,0))):(Instr.loadAt 9 (.pointer (some ⟨g,8,none⟩))).run Tryz.prog w=.ok (.string h.gn) w:=by
 have c1:w.cell? ⟨g,8,none⟩=some (.string h.gn):=by rw [cell_heap hg];rfl
 clear hg
 go_simp
theorem lp9 (h:SH) (w:World) (g:Nat) (hg:w.heap[g]? =some (.cells h.icells 26 (0,0))):(Instr.loadAt 23 (.pointer (some ⟨g,9,none⟩))).run Tryz.prog w=.ok (.agg #[.int .i64 h.ms,.int .i64 h.mn]) w:=by
 have c1:w.cell? ⟨g,9,none⟩=some (.int .i64 h.ms):=by rw [cell_heap hg];rfl
 have c2:w.cell? ⟨g,10,none⟩=some (.int .i64 h.mn):=by rw [cell_heap hg];rfl
 clear hg
 go_simp
theorem lp11 (h:SH) (w:World) (g:Nat) (hg:w.heap[g]? =some (.cells h.icells 26 (0,0))):(Instr.loadAt 4 (.pointer (some ⟨g,11,none⟩))).run Tryz.prog w=.ok (.bool h.ha) w:=by
 have c1:w.cell? ⟨g,11,none⟩=some (.bool h.ha):=by rw [cell_heap hg];rfl
 clear hg
 go_simp
theorem lp12 (h:SH) (w:World) (g:Nat) (hg:w.heap[g]? =some (.cells h.icells 26 (0,0))):(Instr.loadAt 23 (.pointer (some ⟨g,12,none⟩))).run Tryz.prog w=.ok (.agg #[.int .i64 h.ats,.int .i64 h.atn]) w:=by
 have c1:w.cell? ⟨g,12,none⟩=some (.int .i64 h.ats):=by rw [cell_heap hg];rfl
 have c2:w.cell? ⟨g,13,none⟩=some (.int .i64 h.atn):=by rw [cell_heap hg];rfl
 clear hg
 go_simp
theorem lp14 (h:SH) (w:World) (g:Nat) (hg:w.heap[g]? =some (.cells h.icells 26 (0,0))):(Instr.loadAt 4 (.pointer (some ⟨g,14,none⟩))).run Tryz.prog w=.ok (.bool h.hc) w:=by
 have c1:w.cell? ⟨g,14,none⟩=some (.bool h.hc):=by rw [cell_heap hg];rfl
 clear hg
 go_simp
theorem lp15 (h:SH) (w:World) (g:Nat) (hg:w.heap[g]? =some (.cells h.icells 26 (0,0))):(Instr.loadAt 23 (.pointer (some ⟨g,15,none⟩))).run Tryz.prog w=.ok (.agg #[.int .i64 h.cts,.int .i64 h.ctn]) w:=by
 have c1:w.cell? ⟨g,15,none⟩=some (.int .i64 h.cts):=by rw [cell_heap hg];rfl
 have c2:w.cell? ⟨g,16,none⟩=some (.int .i64 h.ctn):=by rw [cell_heap hg];rfl
 clear hg
 go_simp
theorem lp17 (h:SH) (w:World) (g:Nat) (hg:w.heap[g]? =some (.cells h.icells 26 (0,0))):(Instr.loadAt 2 (.pointer (some ⟨g,17,none⟩))).run Tryz.prog w=.ok (.int .i64 h.dj) w:=by
 have c1:w.cell? ⟨g,17,none⟩=some (.int .i64 h.dj):=by rw [cell_heap hg];rfl
 clear hg
 go_simp
theorem lp18 (h:SH) (w:World) (g:Nat) (hg:w.heap[g]? =some (.cells h.icells 26 (0,0))):(Instr.loadAt 2 (.pointer (some ⟨g,18,none⟩))).run Tryz.prog w=.ok (.int .i64 h.dn) w:=by
 have c1:w.cell? ⟨g,18,none⟩=some (.int .i64 h.dn):=by rw [cell_heap hg];rfl
 clear hg
 go_simp
theorem lp19 (h:SH) (w:World) (g:Nat) (hg:w.heap[g]? =some (.cells h.icells 26 (0,0))):(Instr.loadAt 24 (.pointer (some ⟨g,19,none⟩))).run Tryz.prog w=.ok (.slice h.ra h.rn h.rc) w:=by
 have c1:w.cell? ⟨g,19,none⟩=some (.slice h.ra h.rn h.rc):=by rw [cell_heap hg];rfl
 clear hg
 go_simp
theorem lp20 (h:SH) (w:World) (g:Nat) (hg:w.heap[g]? =some (.cells h.icells 26 (0,0))):(Instr.loadAt 3 (.pointer (some ⟨g,20,none⟩))).run Tryz.prog w=.ok (.int .i64 h.fmt) w:=by
 have c1:w.cell? ⟨g,20,none⟩=some (.int .i64 h.fmt):=by rw [cell_heap hg];rfl
 clear hg
 go_simp
theorem row_keep {w:World} {g b:Nat} {cs:Array Value} {o:Obj} (hne:g≠b) (h:w.heap[g]? =some o):(w.setRow b cs).heap[g]? =some o:=by
 rw [setRow_other w b g cs hne];exact h
attribute [-go_sem] Instr.storeAt
attribute [-go_sem] Instr.loadAt
set_option maxRecDepth 100000 in
set_option maxHeartbeats 4000000 in
theorem plain_any (h:SH) (l:List (ByteArray×ByteArray)) (w:World) (hR:RecsIn h.ra h.rn h.rc l w) (hn:h.rn≤1099511627776) :
  Calls Tryz.prog 9 #[.agg h.icells] w fun e w'=>∃a' c',e=.returned (SH.agg { h with ra:=a',rc:=c' })∧RecsIn a' h.rn c' l w'∧Chg [] w w':=by
 generalize hQ:(fun (e:Ending) (w':World)=>∃a' c',e=.returned (SH.agg { h with ra:=a',rc:=c' })∧RecsIn a' h.rn c' l w'∧Chg [] w w')=Q
 have HQ:=Lib.hid hQ
 clear hQ
 have hrec:∀w',Chg [] w w'→Calls Tryz.prog 28 #[.slice h.ra h.rn h.rc] w' fun e w''=>∃a' c',e=.returned (.slice a' h.rn c')∧RecsIn a' h.rn c' l w''∧(∀ad:Addr,a'=some ad→w'.heap.size≤ad.block)∧Chg [] w' w'':=fun w' k=>records_any h.ra h.rn h.rc l w' (hR.chg k) hn
 have HREC:=Lib.hid hrec
 clear hrec hR
 obtain ⟨g,hg⟩:∃g,w.heap.size=g:=⟨_,rfl⟩
 have hL0:=fun (w':World) (hg:w'.heap[g]? =some (.cells h.icells 26 (0,0)))=>lp0 h w' g hg
 have hL1:=fun (w':World) (hg:w'.heap[g]? =some (.cells h.icells 26 (0,0)))=>lp1 h w' g hg
 have hL2:=fun (w':World) (hg:w'.heap[g]? =some (.cells h.icells 26 (0,0)))=>lp2 h w' g hg
 have hL3:=fun (w':World) (hg:w'.heap[g]? =some (.cells h.icells 26 (0,0)))=>lp3 h w' g hg
 have hL4:=fun (w':World) (hg:w'.heap[g]? =some (.cells h.icells 26 (0,0)))=>lp4 h w' g hg
 have hL5:=fun (w':World) (hg:w'.heap[g]? =some (.cells h.icells 26 (0,0)))=>lp5 h w' g hg
 have hL6:=fun (w':World) (hg:w'.heap[g]? =some (.cells h.icells 26 (0,0)))=>lp6 h w' g hg
 have hL7:=fun (w':World) (hg:w'.heap[g]? =some (.cells h.icells 26 (0,0)))=>lp7 h w' g hg
 have hL8:=fun (w':World) (hg:w'.heap[g]? =some (.cells h.icells 26 (0,0)))=>lp8 h w' g hg
 have hL9:=fun (w':World) (hg:w'.heap[g]? =some (.cells h.icells 26 (0,0)))=>lp9 h w' g hg
 have hL11:=fun (w':World) (hg:w'.heap[g]? =some (.cells h.icells 26 (0,0)))=>lp11 h w' g hg
 have hL12:=fun (w':World) (hg:w'.heap[g]? =some (.cells h.icells 26 (0,0)))=>lp12 h w' g hg
 have hL14:=fun (w':World) (hg:w'.heap[g]? =some (.cells h.icells 26 (0,0)))=>lp14 h w' g hg
 have hL15:=fun (w':World) (hg:w'.heap[g]? =some (.cells h.icells 26 (0,0)))=>lp15 h w' g hg
 have hL17:=fun (w':World) (hg:w'.heap[g]? =some (.cells h.icells 26 (0,0)))=>lp17 h w' g hg
 have hL18:=fun (w':World) (hg:w'.heap[g]? =some (.cells h.icells 26 (0,0)))=>lp18 h w' g hg
 have hL19:=fun (w':World) (hg:w'.heap[g]? =some (.cells h.icells 26 (0,0)))=>lp19 h w' g hg
 have hL20:=fun (w':World) (hg:w'.heap[g]? =some (.cells h.icells 26 (0,0)))=>lp20 h w' g hg
 have hst:=st31
 obtain ⟨C,hC⟩:∃C,h.icells=C:=⟨_,rfl⟩
 rw [hC] at hL0 hL1 hL2 hL3 hL4 hL5 hL6 hL7 hL8 hL9 hL11 hL12 hL14 hL15 hL17 hL18 hL19 hL20⊢
 clear hC
 go_enter Tryz.func9,Tryz.ntmps9
 go_upto_region 1 with (fail)
 have hg0:=heap_alloc2_old w (.cells C 26) (.cells #[.int .u8 0,.string ⟨#[]⟩,.string ⟨#[]⟩,.int .i64 0,.int .i64 0,.int .i64 0,.int .i64 0,.string ⟨#[]⟩,.string ⟨#[]⟩,.int .i64 0,.int .i64 0,.bool false,.bool false,.int .i64 0,.int .i64 0,.int .i64 0,.int .i64 0,.int .i64 0,.int .i64 0,.slice none 0 0,.int .i64 0] 31)
 have hb0:=heap_alloc2_new w (.cells C 26) (.cells #[.int .u8 0,.string ⟨#[]⟩,.string ⟨#[]⟩,.int .i64 0,.int .i64 0,.int .i64 0,.int .i64 0,.string ⟨#[]⟩,.string ⟨#[]⟩,.int .i64 0,.int .i64 0,.bool false,.bool false,.int .i64 0,.int .i64 0,.int .i64 0,.int .i64 0,.int .i64 0,.int .i64 0,.slice none 0 0,.int .i64 0] 31)
 have hk0:Chg [] w ((w.alloc (.cells C 26)).alloc (.cells #[.int .u8 0,.string ⟨#[]⟩,.string ⟨#[]⟩,.int .i64 0,.int .i64 0,.int .i64 0,.int .i64 0,.string ⟨#[]⟩,.string ⟨#[]⟩,.int .i64 0,.int .i64 0,.bool false,.bool false,.int .i64 0,.int .i64 0,.int .i64 0,.int .i64 0,.int .i64 0,.int .i64 0,.slice none 0 0,.int .i64 0] 31)):=((Chg.refl [] w).alloc _).alloc _
 generalize ((w.alloc (.cells C 26)).alloc (.cells #[.int .u8 0,.string ⟨#[]⟩,.string ⟨#[]⟩,.int .i64 0,.int .i64 0,.int .i64 0,.int .i64 0,.string ⟨#[]⟩,.string ⟨#[]⟩,.int .i64 0,.int .i64 0,.bool false,.bool false,.int .i64 0,.int .i64 0,.int .i64 0,.int .i64 0,.int .i64 0,.int .i64 0,.slice none 0 0,.int .i64 0] 31))=w1 at hg0 hb0 hk0⊢
 have hlt:=(Array.getElem?_eq_some_iff.1 hb0).1
 rw [hg] at hg0 hb0 hlt
 have HG:=Lib.hid hg
 clear hg
 have HK0:=Lib.hid hk0
 clear hk0
 first
  | (go_region_held3 (fun w'=>w'.heap[g]? =some (.cells C 26 (0,0))) (first | assumption | exact hg0 | (refine row_keep (by omega) ?_;assumption)) ((first
   | (go_at_call 28;have HCALL:=Lib.hid (HREC.out _ (HK0.out.drew));refine HCALL.out.mono ?_;rintro e w2 ⟨a',c',rfl,hr2,hf2,hc2⟩;have hh2:=hc2.heap (show w1.drew.heap[g]? =_ from hg0) (by simp);have hbb2:=hc2.heap (show w1.drew.heap[g+1]? =_ from hb0) (by simp);have HR2:=Lib.hid hr2;have HF2:=Lib.hid hf2;have HC2:=Lib.hid hc2;clear hr2 hf2 hc2))))
  | fail
 rename_i hHeld
 go_wp2_with fail
 refine bodyPost_ret (ret31 rfl _ _ (g+1) _ rfl (setRow_heap _ _ _ _ _ _ hbb2) rfl) rfl ?_
 rw [←HQ.out]
 have hk:Chg [g+1] w2 (w2.setRow (g+1) (SH.cells { h with ra:=a',rc:=c' })):=(Chg.refl _ w2).setRow (.inl (by simp)) _
 refine ⟨a',c',rfl,HR2.out.chgS hk (fun ad e hm=> ?_),(HK0.out.drew.trans HC2.out).transFresh hk (fun i hi=> ?_)⟩
 ·have:=HF2.out ad e
  have h2:w1.drew.heap.size=w1.heap.size:=rfl
  rw [List.mem_singleton] at hm
  omega
 ·rw [List.mem_singleton] at hi
  have:=HG.out
  exact .inr (by omega)
end Go.Proofs.YtkanmkcojlefbaaGreatDoor
