/-
  headerOf (38): a header of the package as plain data; the first part.
-/
import Derived.Test.YtkanmkcojlefbaaGreatDoorJ29
import Derived.Test.YtkanmkcojlefbaaGreatDoorJ32
import Derived.Deep.CutRange
set_option linter.unusedVariables false
namespace Go.Proofs.YtkanmkcojlefbaaGreatDoor
open Go.RowKit
theorem s26:(Tryz.prog.info? 26).map (·.size)=some 21:=by kernel_rfl
theorem st26 (w:World) (b:Nat) (x0:Int) (x1:ByteArray) (x2:ByteArray) (x3:Int) (x4:Int) (x5:Int) (x6:Int) (x7:ByteArray) (x8:ByteArray) (x9:Int) (x10:Int) (x11:Bool) (x12:Int) (x13:Int) (x14:Bool) (x15:Int) (x16:Int) (x17:Int) (x18:Int) (x20:Int) (hz:w.heap[b]? =some (.cells #[.int .u8 0,.string ⟨#[]⟩,.string ⟨#[]⟩,.int .i64 0,.int .i64 0,.int .i64 0,.int .i64 0,.string ⟨#[]⟩,.string ⟨#[]⟩,.int .i64 0,.int .i64 0,.bool false,.int .i64 0,.int .i64 0,.bool false,.int .i64 0,.int .i64 0,.int .i64 0,.int .i64 0,.slice none 0 0,.int .i64 0] 26 (0,0))):(Instr.storeAt 26 (.pointer (some ⟨b,0,none⟩)) (.agg #[.int .u8 x0,.string x1,.string x2,.int .i64 x3,.int .i64 x4,.int .i64 x5,.int .i64 x6,.string x7,.string x8,.int .i64 x9,.int .i64 x10,.bool x11,.int .i64 x12,.int .i64 x13,.bool x14,.int .i64 x15,.int .i64 x16,.int .i64 x17,.int .i64 x18,.slice none 0 0,.int .i64 x20])).run Tryz.prog w=.ok () (w.setRow b #[.int .u8 x0,.string x1,.string x2,.int .i64 x3,.int .i64 x4,.int .i64 x5,.int .i64 x6,.string x7,.string x8,.int .i64 x9,.int .i64 x10,.bool x11,.int .i64 x12,.int .i64 x13,.bool x14,.int .i64 x15,.int .i64 x16,.int .i64 x17,.int .i64 x18,.slice none 0 0,.int .i64 x20]):=by
 simp only [Instr.storeAt,Instr.sureAddr,Sem.run_bind,Sem.run_pure,Result.andThen]
 exact run_storeVar_row _ _ 26 26 #[.int .u8 0,.string ⟨#[]⟩,.string ⟨#[]⟩,.int .i64 0,.int .i64 0,.int .i64 0,.int .i64 0,.string ⟨#[]⟩,.string ⟨#[]⟩,.int .i64 0,.int .i64 0,.bool false,.int .i64 0,.int .i64 0,.bool false,.int .i64 0,.int .i64 0,.int .i64 0,.int .i64 0,.slice none 0 0,.int .i64 0] #[.int .u8 x0,.string x1,.string x2,.int .i64 x3,.int .i64 x4,.int .i64 x5,.int .i64 x6,.string x7,.string x8,.int .i64 x9,.int .i64 x10,.bool x11,.int .i64 x12,.int .i64 x13,.bool x14,.int .i64 x15,.int .i64 x16,.int .i64 x17,.int .i64 x18,.slice none 0 0,.int .i64 x20] hz s26 rfl (by simp [Value.oneCell'])
theorem st26n (w:World) (x0:Int) (x1:ByteArray) (x2:ByteArray) (x3:Int) (x4:Int) (x5:Int) (x6:Int) (x7:ByteArray) (x8:ByteArray) (x9:Int) (x10:Int) (x11:Bool) (x12:Int) (x13:Int) (x14:Bool) (x15:Int) (x16:Int) (x17:Int) (x18:Int) (x20:Int):(Instr.storeAt 26 (.pointer (some ⟨w.heap.size,0,none⟩)) (.agg #[.int .u8 x0,.string x1,.string x2,.int .i64 x3,.int .i64 x4,.int .i64 x5,.int .i64 x6,.string x7,.string x8,.int .i64 x9,.int .i64 x10,.bool x11,.int .i64 x12,.int .i64 x13,.bool x14,.int .i64 x15,.int .i64 x16,.int .i64 x17,.int .i64 x18,.slice none 0 0,.int .i64 x20])).run Tryz.prog (w.alloc (.cells #[.int .u8 0,.string ⟨#[]⟩,.string ⟨#[]⟩,.int .i64 0,.int .i64 0,.int .i64 0,.int .i64 0,.string ⟨#[]⟩,.string ⟨#[]⟩,.int .i64 0,.int .i64 0,.bool false,.int .i64 0,.int .i64 0,.bool false,.int .i64 0,.int .i64 0,.int .i64 0,.int .i64 0,.slice none 0 0,.int .i64 0] 26))=.ok () (w.alloc (.cells #[.int .u8 x0,.string x1,.string x2,.int .i64 x3,.int .i64 x4,.int .i64 x5,.int .i64 x6,.string x7,.string x8,.int .i64 x9,.int .i64 x10,.bool x11,.int .i64 x12,.int .i64 x13,.bool x14,.int .i64 x15,.int .i64 x16,.int .i64 x17,.int .i64 x18,.slice none 0 0,.int .i64 x20] 26)):=run_storeAt_new w 26 _ _ s26 rfl (by simp [Value.oneCell'])
theorem lh0 (th:TH) (w:World) (g:Nat) (hg:w.heap[g]? =some (.cells th.cells.toArray 130 (0,0))):(Instr.loadAt 5 (.pointer (some ⟨g,0,none⟩))).run Tryz.prog w=.ok (.int .u8 th.tf.toNat) w:=by
 have c1:w.cell? ⟨g,0,none⟩=some (.int .u8 th.tf.toNat):=by rw [cell_heap hg];rfl
 clear hg
 go_simp
theorem lh1 (th:TH) (w:World) (g:Nat) (hg:w.heap[g]? =some (.cells th.cells.toArray 130 (0,0))):(Instr.loadAt 9 (.pointer (some ⟨g,1,none⟩))).run Tryz.prog w=.ok (.string th.name) w:=by
 have c1:w.cell? ⟨g,1,none⟩=some (.string th.name):=by rw [cell_heap hg];rfl
 clear hg
 go_simp
theorem lh2 (th:TH) (w:World) (g:Nat) (hg:w.heap[g]? =some (.cells th.cells.toArray 130 (0,0))):(Instr.loadAt 9 (.pointer (some ⟨g,2,none⟩))).run Tryz.prog w=.ok (.string th.link) w:=by
 have c1:w.cell? ⟨g,2,none⟩=some (.string th.link):=by rw [cell_heap hg];rfl
 clear hg
 go_simp
theorem lh3 (th:TH) (w:World) (g:Nat) (hg:w.heap[g]? =some (.cells th.cells.toArray 130 (0,0))):(Instr.loadAt 2 (.pointer (some ⟨g,3,none⟩))).run Tryz.prog w=.ok (.int .i64 th.size) w:=by
 have c1:w.cell? ⟨g,3,none⟩=some (.int .i64 th.size):=by rw [cell_heap hg];rfl
 clear hg
 go_simp
theorem lh4 (th:TH) (w:World) (g:Nat) (hg:w.heap[g]? =some (.cells th.cells.toArray 130 (0,0))):(Instr.loadAt 2 (.pointer (some ⟨g,4,none⟩))).run Tryz.prog w=.ok (.int .i64 th.mode) w:=by
 have c1:w.cell? ⟨g,4,none⟩=some (.int .i64 th.mode):=by rw [cell_heap hg];rfl
 clear hg
 go_simp
theorem lh5 (th:TH) (w:World) (g:Nat) (hg:w.heap[g]? =some (.cells th.cells.toArray 130 (0,0))):(Instr.loadAt 3 (.pointer (some ⟨g,5,none⟩))).run Tryz.prog w=.ok (.int .i64 th.uid) w:=by
 have c1:w.cell? ⟨g,5,none⟩=some (.int .i64 th.uid):=by rw [cell_heap hg];rfl
 clear hg
 go_simp
theorem lh6 (th:TH) (w:World) (g:Nat) (hg:w.heap[g]? =some (.cells th.cells.toArray 130 (0,0))):(Instr.loadAt 3 (.pointer (some ⟨g,6,none⟩))).run Tryz.prog w=.ok (.int .i64 th.gid) w:=by
 have c1:w.cell? ⟨g,6,none⟩=some (.int .i64 th.gid):=by rw [cell_heap hg];rfl
 clear hg
 go_simp
theorem lh7 (th:TH) (w:World) (g:Nat) (hg:w.heap[g]? =some (.cells th.cells.toArray 130 (0,0))):(Instr.loadAt 9 (.pointer (some ⟨g,7,none⟩))).run Tryz.prog w=.ok (.string th.un) w:=by
 have c1:w.cell? ⟨g,7,none⟩=some (.string th.un):=by rw [cell_heap hg];rfl
 clear hg
 go_simp
theorem lh8 (th:TH) (w:World) (g:Nat) (hg:w.heap[g]? =some (.cells th.cells.toArray 130 (0,0))):(Instr.loadAt 9 (.pointer (some ⟨g,8,none⟩))).run Tryz.prog w=.ok (.string th.gn) w:=by
 have c1:w.cell? ⟨g,8,none⟩=some (.string th.gn):=by rw [cell_heap hg];rfl
 clear hg
 go_simp
theorem lh9 (th:TH) (w:World) (g:Nat) (hg:w.heap[g]? =some (.cells th.cells.toArray 130 (0,0))):(Instr.loadAt 126 (.pointer (some ⟨g,9,none⟩))).run Tryz.prog w=.ok (.agg #[.int .u64 th.mn,.int .i64 (th.ms+62135596800)]) w:=by
 have c1:w.cell? ⟨g,9,none⟩=some (.int .u64 th.mn):=by rw [cell_heap hg];rfl
 have c2:w.cell? ⟨g,10,none⟩=some (.int .i64 (th.ms+62135596800)):=by rw [cell_heap hg];rfl
 clear hg
 go_simp
theorem lh11 (th:TH) (w:World) (g:Nat) (hg:w.heap[g]? =some (.cells th.cells.toArray 130 (0,0))):(Instr.loadAt 126 (.pointer (some ⟨g,11,none⟩))).run Tryz.prog w=.ok (.agg #[.int .u64 th.atn,.int .i64 (th.ats+62135596800)]) w:=by
 have c1:w.cell? ⟨g,11,none⟩=some (.int .u64 th.atn):=by rw [cell_heap hg];rfl
 have c2:w.cell? ⟨g,12,none⟩=some (.int .i64 (th.ats+62135596800)):=by rw [cell_heap hg];rfl
 clear hg
 go_simp
theorem lh13 (th:TH) (w:World) (g:Nat) (hg:w.heap[g]? =some (.cells th.cells.toArray 130 (0,0))):(Instr.loadAt 126 (.pointer (some ⟨g,13,none⟩))).run Tryz.prog w=.ok (.agg #[.int .u64 th.ctn,.int .i64 (th.cts+62135596800)]) w:=by
 have c1:w.cell? ⟨g,13,none⟩=some (.int .u64 th.ctn):=by rw [cell_heap hg];rfl
 have c2:w.cell? ⟨g,14,none⟩=some (.int .i64 (th.cts+62135596800)):=by rw [cell_heap hg];rfl
 clear hg
 go_simp
theorem lh15 (th:TH) (w:World) (g:Nat) (hg:w.heap[g]? =some (.cells th.cells.toArray 130 (0,0))):(Instr.loadAt 2 (.pointer (some ⟨g,15,none⟩))).run Tryz.prog w=.ok (.int .i64 th.dj) w:=by
 have c1:w.cell? ⟨g,15,none⟩=some (.int .i64 th.dj):=by rw [cell_heap hg];rfl
 clear hg
 go_simp
theorem lh16 (th:TH) (w:World) (g:Nat) (hg:w.heap[g]? =some (.cells th.cells.toArray 130 (0,0))):(Instr.loadAt 2 (.pointer (some ⟨g,16,none⟩))).run Tryz.prog w=.ok (.int .i64 th.dn) w:=by
 have c1:w.cell? ⟨g,16,none⟩=some (.int .i64 th.dn):=by rw [cell_heap hg];rfl
 clear hg
 go_simp
theorem lh19 (th:TH) (w:World) (g:Nat) (hg:w.heap[g]? =some (.cells th.cells.toArray 130 (0,0))):(Instr.loadAt 128 (.pointer (some ⟨g,19,none⟩))).run Tryz.prog w=.ok (.int .i64 th.fmt) w:=by
 have c1:w.cell? ⟨g,19,none⟩=some (.int .i64 th.fmt):=by rw [cell_heap hg];rfl
 clear hg
 go_simp
structure TimOk (th:TH):Prop where
 m:th.mn < 1000000000∧-4000000000000000000≤th.ms∧th.ms≤4000000000000000000
 a:th.atn < 1000000000∧-4000000000000000000≤th.ats∧th.ats≤4000000000000000000
 c:th.ctn < 1000000000∧-4000000000000000000≤th.cts∧th.cts≤4000000000000000000
theorem isZero_c (s:Int) (ns:Nat) (w:World) (hn:ns < 1000000000) (h1 : -4000000000000000000≤s) (h2:s≤4000000000000000000):Calls Tryz.prog 74 #[.agg #[.int .u64 ns,.int .i64 (s+62135596800)]] w fun e w'=>e=.returned (.bool (decide (s=-62135596800∧ns=0)))∧Chg [] w w':=isZero_any s ns w hn h1 h2
theorem ho_chg {hp:Nat} {C:Array Value} {w1 u u':World} (k:Chg [] u u') (h:u.heap[hp]? =some (.cells C 130 (0,0))∧Chg [] w1 u):u'.heap[hp]? =some (.cells C 130 (0,0))∧Chg [] w1 u':=⟨k.heap h.1 (by simp),h.2.trans k⟩
theorem ho_row {hp b:Nat} {C:Array Value} {w1 u:World} (hb:w1.heap.size≤b) (hpl:hp < w1.heap.size) (h:u.heap[hp]? =some (.cells C 130 (0,0))∧Chg [] w1 u) (cs:Array Value):(u.setRow b cs).heap[hp]? =some (.cells C 130 (0,0))∧Chg [] w1 (u.setRow b cs):=⟨row_keep (by omega) h.1,h.2.setRow (.inr hb) _⟩
theorem ho_new {X u1:World} {o:Obj} (hu:Chg [] (X.alloc o) u1):u1.heap[X.heap.size]? =some o:=by
 rw [hu.block _ (by rw [show (X.alloc o).heap.size=X.heap.size+1 from Array.size_push _];omega) (by simp)]
 exact heap_alloc_new X o
theorem ho_new' {X u1:World} {o:Obj} (hu:Chg [] (X.alloc o).drew u1):u1.heap[X.heap.size]? =some o:=ho_new ⟨hu.os,hu.tape,hu.output,hu.size,hu.block⟩
theorem ho_old {X u1:World} {k:Nat} (hu:Chg [] X u1) (hk:X.heap[k]? =some (.cells #[.int .u8 0,.string ⟨#[]⟩,.string ⟨#[]⟩,.int .i64 0,.int .i64 0,.int .i64 0,.int .i64 0,.string ⟨#[]⟩,.string ⟨#[]⟩,.int .i64 0,.int .i64 0,.bool false,.int .i64 0,.int .i64 0,.bool false,.int .i64 0,.int .i64 0,.int .i64 0,.int .i64 0,.slice none 0 0,.int .i64 0] 26 (0,0))):u1.heap[k]? =some (.cells #[.int .u8 0,.string ⟨#[]⟩,.string ⟨#[]⟩,.int .i64 0,.int .i64 0,.int .i64 0,.int .i64 0,.string ⟨#[]⟩,.string ⟨#[]⟩,.int .i64 0,.int .i64 0,.bool false,.int .i64 0,.int .i64 0,.bool false,.int .i64 0,.int .i64 0,.int .i64 0,.int .i64 0,.slice none 0 0,.int .i64 0] 26 (0,0)):=hu.heap hk (by simp)
theorem ho_old' {X u1:World} {k:Nat} (hu:Chg [] X.drew u1) (hk:X.heap[k]? =some (.cells #[.int .u8 0,.string ⟨#[]⟩,.string ⟨#[]⟩,.int .i64 0,.int .i64 0,.int .i64 0,.int .i64 0,.string ⟨#[]⟩,.string ⟨#[]⟩,.int .i64 0,.int .i64 0,.bool false,.int .i64 0,.int .i64 0,.bool false,.int .i64 0,.int .i64 0,.int .i64 0,.int .i64 0,.slice none 0 0,.int .i64 0] 26 (0,0))):u1.heap[k]? =some (.cells #[.int .u8 0,.string ⟨#[]⟩,.string ⟨#[]⟩,.int .i64 0,.int .i64 0,.int .i64 0,.int .i64 0,.string ⟨#[]⟩,.string ⟨#[]⟩,.int .i64 0,.int .i64 0,.bool false,.int .i64 0,.int .i64 0,.bool false,.int .i64 0,.int .i64 0,.int .i64 0,.int .i64 0,.slice none 0 0,.int .i64 0] 26 (0,0)):=ho_old (⟨hu.os,hu.tape,hu.output,hu.size,hu.block⟩:Chg [] X u1) hk
attribute [-go_sem] Instr.storeAt
attribute [-go_sem] Instr.loadAt
set_option maxRecDepth 100000 in
set_option maxHeartbeats 40000000 in
theorem headerOf_1 (hp:Nat) (th:TH) (w:World) (h:HdrB hp th w) (hT:TimOk th) (za zc:Bool) (hza:decide (th.ats=-62135596800∧th.atn=0)=za) (hzc:decide (th.cts=-62135596800∧th.ctn=0)=zc) (Qp:Ending→World→Prop)
  (hrest:∀(ob:Nat) (fv:Int) (w':World) {u10 u11 u12 u13 u14 u15 u16 u17 u18 u19 u20 u21 u22 u23 u24 u25 u26 u27 u28 u29 u30 u31 u32 u33 u34 u35 u36 u37 u38 u39 u40 u41 u42 u43 u44 u45 u46 u47 u48 u49 u50 u51 u52 u53 u54 u55 u56 u57 u58 u59 u60 u61 u62 u63 u64 u65 u66 u67 u68 u69 u70 u71 u72 u73 u74 u75 u76 u144:Value},w.heap.size < ob→w'.heap[w.heap.size]? =some (.cells #[.int .u8 0,.string ⟨#[]⟩,.string ⟨#[]⟩,.int .i64 0,.int .i64 0,.int .i64 0,.int .i64 0,.string ⟨#[]⟩,.string ⟨#[]⟩,.int .i64 0,.int .i64 0,.bool false,.int .i64 0,.int .i64 0,.bool false,.int .i64 0,.int .i64 0,.int .i64 0,.int .i64 0,.slice none 0 0,.int .i64 0] 26 (0,0))→w'.heap[ob]? =some (.cells #[.int .u8 th.tf.toNat,.string th.name,.string th.link,.int .i64 th.size,.int .i64 th.mode,.int .i64 th.uid,.int .i64 th.gid,.string th.un,.string th.gn,.int .i64 th.ms,.int .i64 th.mn,.bool (!za),.int .i64 0,.int .i64 0,.bool (!zc),.int .i64 0,.int .i64 0,.int .i64 th.dj,.int .i64 th.dn,.slice none 0 0,.int .i64 fv] 26 (0,0))→HdrB hp th w'→Chg [] w w'→Code.wp Tryz.prog (dropSeq 3 (Tryz.f38.body.getD .skip)) (bodyPost Tryz.prog Tryz.f38 Qp) ⟨#[.pointer (some ⟨hp,0,none⟩),undef,.pointer (some ⟨w.heap.size,0,none⟩),.pointer (some ⟨ob,0,none⟩),undef,undef,undef,.pointer (some ⟨hp,0,none⟩),.bool false,undef,u10,u11,u12,u13,u14,u15,u16,u17,u18,u19,u20,u21,u22,u23,u24,u25,u26,u27,u28,u29,u30,u31,u32,u33,u34,u35,u36,u37,u38,u39,u40,u41,u42,u43,u44,u45,u46,u47,u48,u49,u50,u51,u52,u53,u54,u55,u56,u57,u58,u59,u60,u61,u62,u63,u64,u65,u66,u67,u68,u69,u70,u71,u72,u73,u74,u75,u76,undef,undef,undef,undef,undef,undef,undef,undef,undef,undef,undef,undef,undef,undef,undef,undef,undef,undef,undef,undef,undef,undef,undef,undef,undef,undef,undef,undef,undef,undef,undef,undef,undef,undef,undef,undef,undef,undef,undef,undef,undef,undef,undef,undef,undef,undef,undef,undef,undef,undef,undef,undef,undef,undef,undef,undef,undef,undef,undef,undef,undef,undef,undef,undef,undef,undef,undef,u144],[]⟩ w') :
  Calls Tryz.prog 38 #[.pointer (some ⟨hp,0,none⟩)] w Qp:=by
 have hA:∀w',Calls Tryz.prog 74 #[.agg #[.int .u64 th.atn,.int .i64 (th.ats+62135596800)]] w' fun e w''=>e=.returned (.bool za)∧Chg [] w' w'':=fun w'=>by rw [←hza];exact isZero_c th.ats th.atn w' hT.a.1 hT.a.2.1 hT.a.2.2
 have hC:∀w',Calls Tryz.prog 74 #[.agg #[.int .u64 th.ctn,.int .i64 (th.cts+62135596800)]] w' fun e w''=>e=.returned (.bool zc)∧Chg [] w' w'':=fun w'=>by rw [←hzc];exact isZero_c th.cts th.ctn w' hT.c.1 hT.c.2.1 hT.c.2.2
 have hM:=fun w'=>timeOf_any th.ms th.mn w' hT.m.1 hT.m.2.1 hT.m.2.2
 have HA:=Lib.hid hA;have HC:=Lib.hid hC;have HM:=Lib.hid hM;have HREST:=Lib.hid hrest
 clear hA hC hM hza hzc hT hrest
 have hL0:=fun (w':World) (hg:w'.heap[hp]? =some (.cells th.cells.toArray 130 (0,0)))=>lh0 th w' hp hg
 have hL1:=fun (w':World) (hg:w'.heap[hp]? =some (.cells th.cells.toArray 130 (0,0)))=>lh1 th w' hp hg
 have hL2:=fun (w':World) (hg:w'.heap[hp]? =some (.cells th.cells.toArray 130 (0,0)))=>lh2 th w' hp hg
 have hL3:=fun (w':World) (hg:w'.heap[hp]? =some (.cells th.cells.toArray 130 (0,0)))=>lh3 th w' hp hg
 have hL4:=fun (w':World) (hg:w'.heap[hp]? =some (.cells th.cells.toArray 130 (0,0)))=>lh4 th w' hp hg
 have hL5:=fun (w':World) (hg:w'.heap[hp]? =some (.cells th.cells.toArray 130 (0,0)))=>lh5 th w' hp hg
 have hL6:=fun (w':World) (hg:w'.heap[hp]? =some (.cells th.cells.toArray 130 (0,0)))=>lh6 th w' hp hg
 have hL7:=fun (w':World) (hg:w'.heap[hp]? =some (.cells th.cells.toArray 130 (0,0)))=>lh7 th w' hp hg
 have hL8:=fun (w':World) (hg:w'.heap[hp]? =some (.cells th.cells.toArray 130 (0,0)))=>lh8 th w' hp hg
 have hL9:=fun (w':World) (hg:w'.heap[hp]? =some (.cells th.cells.toArray 130 (0,0)))=>lh9 th w' hp hg
 have hL11:=fun (w':World) (hg:w'.heap[hp]? =some (.cells th.cells.toArray 130 (0,0)))=>lh11 th w' hp hg
 have hL13:=fun (w':World) (hg:w'.heap[hp]? =some (.cells th.cells.toArray 130 (0,0)))=>lh13 th w' hp hg
 have hL15:=fun (w':World) (hg:w'.heap[hp]? =some (.cells th.cells.toArray 130 (0,0)))=>lh15 th w' hp hg
 have hL16:=fun (w':World) (hg:w'.heap[hp]? =some (.cells th.cells.toArray 130 (0,0)))=>lh16 th w' hp hg
 have hL19:=fun (w':World) (hg:w'.heap[hp]? =some (.cells th.cells.toArray 130 (0,0)))=>lh19 th w' hp hg
 obtain ⟨C,hCC⟩:∃C,th.cells.toArray=C:=⟨_,rfl⟩
 unfold HdrB at h
 rw [hCC] at hL0 hL1 hL2 hL3 hL4 hL5 hL6 hL7 hL8 hL9 hL11 hL13 hL15 hL16 hL19 h
 have H:=Lib.hid h
 have HCC:=Lib.hid hCC
 clear hCC h
 have hst:=st26
 have hst2:=st26n
 go_enter Tryz.func38,Tryz.ntmps38
 go_upto_region 3 with (fail)
 have hk0:Chg [] w (w.alloc (.cells #[.int .u8 0,.string ⟨#[]⟩,.string ⟨#[]⟩,.int .i64 0,.int .i64 0,.int .i64 0,.int .i64 0,.string ⟨#[]⟩,.string ⟨#[]⟩,.int .i64 0,.int .i64 0,.bool false,.int .i64 0,.int .i64 0,.bool false,.int .i64 0,.int .i64 0,.int .i64 0,.int .i64 0,.slice none 0 0,.int .i64 0] 26)):=(Chg.refl _ w).alloc _
 have hr0:=heap_alloc_new w (.cells #[.int .u8 0,.string ⟨#[]⟩,.string ⟨#[]⟩,.int .i64 0,.int .i64 0,.int .i64 0,.int .i64 0,.string ⟨#[]⟩,.string ⟨#[]⟩,.int .i64 0,.int .i64 0,.bool false,.int .i64 0,.int .i64 0,.bool false,.int .i64 0,.int .i64 0,.int .i64 0,.int .i64 0,.slice none 0 0,.int .i64 0] 26)
 have hsz:(w.alloc (.cells #[.int .u8 0,.string ⟨#[]⟩,.string ⟨#[]⟩,.int .i64 0,.int .i64 0,.int .i64 0,.int .i64 0,.string ⟨#[]⟩,.string ⟨#[]⟩,.int .i64 0,.int .i64 0,.bool false,.int .i64 0,.int .i64 0,.bool false,.int .i64 0,.int .i64 0,.int .i64 0,.int .i64 0,.slice none 0 0,.int .i64 0] 26)).heap.size=w.heap.size+1:=Array.size_push _
 generalize w.alloc (.cells #[.int .u8 0,.string ⟨#[]⟩,.string ⟨#[]⟩,.int .i64 0,.int .i64 0,.int .i64 0,.int .i64 0,.string ⟨#[]⟩,.string ⟨#[]⟩,.int .i64 0,.int .i64 0,.bool false,.int .i64 0,.int .i64 0,.bool false,.int .i64 0,.int .i64 0,.int .i64 0,.int .i64 0,.slice none 0 0,.int .i64 0] 26)=w1 at hk0 hr0 hsz⊢
 have HSZ:=Lib.hid hsz
 clear hsz
 have hh1:=hk0.heap H.out (by simp)
 have hpl:=(Array.getElem?_eq_some_iff.1 hh1).1
 have HK0:=Lib.hid hk0;have HR0:=Lib.hid hr0
 clear hk0 hr0
 generalize hro:w.heap.size=ro at*
 have HRO:=Lib.hid hro
 clear hro
 have hS0:=And.intro hh1 (Chg.refl [] w1)
 go_cut [3] from 144 to 144 (fun v w'=>∃ob fv,v=.pointer (some ⟨ob,0,none⟩)∧w1.heap.size≤ob∧w'.heap[ob]? =some (.cells #[.int .u8 th.tf.toNat,.string th.name,.string th.link,.int .i64 th.size,.int .i64 th.mode,.int .i64 th.uid,.int .i64 th.gid,.string th.un,.string th.gn,.int .i64 th.ms,.int .i64 th.mn,.bool (!za),.int .i64 0,.int .i64 0,.bool (!zc),.int .i64 0,.int .i64 0,.int .i64 th.dj,.int .i64 th.dn,.slice none 0 0,.int .i64 fv] 26 (0,0))∧w'.heap[hp]? =some (.cells C 130 (0,0))∧Chg [] w1 w')
 case first=>
  dsimp only [List.append]
  first
   | (go_region_held3 (fun w'=>w'.heap[hp]? =some (.cells C 130 (0,0))∧Chg [] w1 w') ((repeat (first | assumption | exact ⟨hh1,Chg.refl [] w1⟩ | refine ho_chg (Chg.refl [] _).drew ?_ | refine ho_chg ((Chg.refl [] _).alloc _) ?_ | refine ho_row (by omega) hpl ?_ _))) ((first
    | (go_at_call 73;refine (HM.out _).mono ?_;rintro e u1 ⟨rfl,hu⟩;have hS1:u1.heap[hp]? =some (.cells C 130 (0,0))∧Chg [] w1 u1:=ho_chg hu (by (repeat (first | assumption | exact ⟨hh1,Chg.refl [] w1⟩ | refine ho_chg (Chg.refl [] _).drew ?_ | refine ho_chg ((Chg.refl [] _).alloc _) ?_)));have hsa:=hS1.2.size;(try have hza:=ho_new hu);(try have hza:=ho_new' hu);(try have hya:=ho_old hu (by assumption));(try have hya:=ho_old' hu (by assumption));clear hu)
    | (go_at_call 74;refine Calls.mono (by first | (with_reducible exact HA.out _) | (with_reducible exact HC.out _)) ?_;rintro e u1 ⟨rfl,hu⟩;have hS1:u1.heap[hp]? =some (.cells C 130 (0,0))∧Chg [] w1 u1:=ho_chg hu (by (repeat (first | assumption | exact ⟨hh1,Chg.refl [] w1⟩ | refine ho_chg (Chg.refl [] _).drew ?_ | refine ho_chg ((Chg.refl [] _).alloc _) ?_)));have hsb:=hS1.2.size;(try have hzb:=ho_new hu);(try have hzb:=ho_new' hu);(try have hyb:=ho_old hu (by assumption));(try have hyb:=ho_old' hu (by assumption));clear hu)
    | (go_at_call 75;refine (formatOf_any _ _).mono ?_;rintro e u4 ⟨rfl,rfl⟩))))
   | fail
  all_goals
   rename_i hHeld
   go_wp2_with fail
   go_meet
   case rel=>
    first
     | exact ⟨_,_,rfl,by omega,heap_alloc_new _ _,hHeld.1,hHeld.2⟩
     | exact ⟨_,_,rfl,by omega,setRow_heap _ _ _ _ _ _ (by assumption),hHeld.1,hHeld.2⟩
 case rest=>
  obtain ⟨ob,fv,rfl,hob,hrow,hhp,hch⟩:=hcut
  have hro:=HRO.out
  subst hro
  have hpt:HdrB hp th wc:=by
   unfold HdrB
   rw [HCC.out];exact hhp
  go_step
  exact HREST.out ob fv wc (by have:=HSZ.out;omega) (hch.heap HR0.out (by simp)) hrow hpt (HK0.out.trans hch)
end Go.Proofs.YtkanmkcojlefbaaGreatDoor
