/-
  timeOf and formatOf: what plain data have of a time and a format · laws.records (28) of no records.
-/
import Derived.Test.YtkanmkcojlefbaaGreatDoorJ21
import Derived.Test.YtkanmkcojlefbaaGreatDoorJ28
import Derived.Test.YtkanmkcojlefbaaGreatDoorJ22
set_option linter.unusedVariables false
namespace Go.Proofs.YtkanmkcojlefbaaGreatDoor
open Go.RowKit
def fmO (f:Int):Int:=if f=2 then 1 else if f=4 then 2 else if f=8 then 3 else 0
theorem formatOf_any (f:Int) (w:World):Calls Tryz.prog 75 #[.int .i64 f] w fun e w'=>e=.returned (.int .i64 (fmO f))∧w=w':=by
 unfold fmO
 by_cases h1:f=2
 ·subst h1
  go_enter Tryz.func75,Tryz.ntmps75
  go_wp2
  go_ret
  exact ⟨rfl,rfl⟩
 ·by_cases h2:f=4
  ·subst h2
   go_enter Tryz.func75,Tryz.ntmps75
   go_wp2
   go_ret
   exact ⟨rfl,rfl⟩
  ·by_cases h3:f=8
   ·subst h3
    go_enter Tryz.func75,Tryz.ntmps75
    go_wp2
    go_ret
    exact ⟨rfl,rfl⟩
   ·have g1:(f == 2)=false:=by simpa using h1
    have g2:(f == 4)=false:=by simpa using h2
    have g3:(f == 8)=false:=by simpa using h3
    rw [if_neg h1,if_neg h2,if_neg h3]
    clear h1 h2 h3
    go_enter Tryz.func75,Tryz.ntmps75
    go_wp2
    go_ret
    exact ⟨rfl,rfl⟩
theorem s23:(Tryz.prog.info? 23).map (·.size)=some 2:=by kernel_rfl
theorem tf_keep {w1 w2:World} {z:Nat} {a b:Value} (h:w1.cell? ⟨z,0,none⟩=some a∧w1.cell? ⟨z,1,none⟩=some b) (k:Chg [] w1 w2):w2.cell? ⟨z,0,none⟩=some a∧w2.cell? ⟨z,1,none⟩=some b:=⟨k.cell h.1 (by simp),k.cell h.2 (by simp)⟩
theorem tf_keep2 {w1:World} {z:Nat} {a b u v:Value} (h:w1.cell? ⟨z,0,none⟩=some a∧w1.cell? ⟨z,1,none⟩=some b):((w1.setCell ⟨z+1,0,none⟩ u).setCell ⟨z+1,1,none⟩ v).cell? ⟨z,0,none⟩=some a∧((w1.setCell ⟨z+1,0,none⟩ u).setCell ⟨z+1,1,none⟩ v).cell? ⟨z,1,none⟩=some b:=by
 have k:Chg [z+1] w1 ((w1.setCell ⟨z+1,0,none⟩ u).setCell ⟨z+1,1,none⟩ v):=((Chg.refl _ _).setCell (.inl (by simp)) _).setCell (.inl (by simp)) _
 exact ⟨k.cell h.1 (by simp),k.cell h.2 (by simp)⟩
set_option maxRecDepth 100000 in
set_option maxHeartbeats 1000000 in
theorem timeOf_any (s:Int) (ns:Nat) (w:World) (hn:ns < 1000000000) (h1 : -4000000000000000000≤s) (h2:s≤4000000000000000000) :
  Calls Tryz.prog 73 #[.agg #[.int .u64 ns,.int .i64 (s+62135596800)]] w fun e w'=>e=.returned (.agg #[.int .i64 s,.int .i64 ns])∧Chg [] w w':=by
 have hU:=fun w=>Unix_any s ns w hn h1 h2
 have hN:=fun w=>Nano_any s ns w hn
 unfold tm at hU hN
 have HU:=Lib.hid hU;have HN:=Lib.hid hN
 clear hU hN
 go_enter Tryz.func73,Tryz.ntmps73
 go_wp2
 have k1:Chg [] w ((w.alloc (.cells #[.int .u64 ns,.int .i64 (s+62135596800)] 126)).alloc (.cells #[.int .i64 0,.int .i64 0] 23)):=((Chg.refl _ w).alloc _).alloc _
 have b0:((w.alloc (.cells #[.int .u64 ns,.int .i64 (s+62135596800)] 126)).alloc (.cells #[.int .i64 0,.int .i64 0] 23)).heap[w.heap.size]? =some (.cells #[.int .u64 ns,.int .i64 (s+62135596800)] 126 (0,0)):=by
  rw [Below.heap_alloc _ _ _ (by simp)];exact heap_alloc_new _ _
 have b1:((w.alloc (.cells #[.int .u64 ns,.int .i64 (s+62135596800)] 126)).alloc (.cells #[.int .i64 0,.int .i64 0] 23)).heap[w.heap.size+1]? =some (.cells #[.int .i64 0,.int .i64 0] 23 (0,0)):=heap_alloc_new' _ _ _
 generalize hg:(w.alloc (.cells #[.int .u64 ns,.int .i64 (s+62135596800)] 126)).alloc (.cells #[.int .i64 0,.int .i64 0] 23)=w1 at*
 clear hg
 generalize hz:w.heap.size=z at*
 have d0:w1.cell? ⟨z,0,none⟩=some (.int .u64 ns):=(cell_heap b0 0).trans rfl
 have d1:w1.cell? ⟨z,1,none⟩=some (.int .i64 (s+62135596800)):=(cell_heap b0 1).trans rfl
 have r0:w1.cell? ⟨z+1,0,none⟩=some (.int .i64 0):=(cell_heap b1 0).trans rfl
 have r1:w1.cell? ⟨z+1,1,none⟩=some (.int .i64 0):=(cell_heap b1 1).trans rfl
 have q0:w1.frozen? ⟨z+1,0,none⟩=false:=frozen_heap b1 0
 have q1:w1.frozen? ⟨z+1,1,none⟩=false:=frozen_heap b1 1
 have B0:=Lib.hid b0;have B1:=Lib.hid b1;have K1:=Lib.hid k1;have HZ:=Lib.hid hz
 clear b0 b1 k1 hz
 go_region_held3 (fun w'=>w'.cell? ⟨z,0,none⟩=some (.int .u64 ns)∧w'.cell? ⟨z,1,none⟩=some (.int .i64 (s+62135596800))) (first | exact ⟨d0,d1⟩ | exact tf_keep2 (by assumption) | exact tf_keep (by assumption) (by assumption)) ((first | (go_at_call 103;refine (HU.out _).mono ?_;rintro e w2 ⟨rfl,hc2⟩;have B2:=Lib.hid (hc2.heap (show w1.drew.heap[z+1]? =_ from B1.out) (by simp));have K2:=Lib.hid (K1.out.trans ((Chg.refl [] w1).drew.trans hc2))) | (go_at_call 104;refine (HN.out _).mono ?_;rintro e w3 ⟨rfl,hc3⟩;have b3:=hc3.heap B2.out (by simp);have K3:=Lib.hid (K2.out.trans hc3);have r0:w3.cell? ⟨z+1,0,none⟩=some (.int .i64 0):=(cell_heap b3 0).trans rfl;have r1:w3.cell? ⟨z+1,1,none⟩=some (.int .i64 0):=(cell_heap b3 1).trans rfl;have q0:w3.frozen? ⟨z+1,0,none⟩=false:=frozen_heap b3 0;have q1:w3.frozen? ⟨z+1,1,none⟩=false:=frozen_heap b3 1;have B3:=Lib.hid b3;clear b3)))
 go_wp2
 have h5:=heap_setCell_at (heap_setCell_at B3.out 0 (.int .i64 s)) 1 (.int .i64 ns)
 refine bodyPost_ret (results_cell_row rfl _ _ (z+1) _ _ _ _ rfl h5 Tryz.underlying23 rfl s23) rfl ?_
 exact ⟨rfl,(K3.out.setCell (.inr (by show w.heap.size≤z+1;have:=HZ.out;omega)) _).setCell (.inr (by show w.heap.size≤z+1;have:=HZ.out;omega)) _⟩
end Go.Proofs.YtkanmkcojlefbaaGreatDoor
namespace Go.Proofs.YtkanmkcojlefbaaGreatDoor
open Go.RowKit
set_option maxRecDepth 100000 in
set_option maxHeartbeats 1000000 in
theorem records_none (a:Option Addr) (c:Nat) (w:World) :
  Calls Tryz.prog 28 #[.slice a 0 c] w fun e w'=>e=.returned (.slice none 0 0)∧w=w':=by
 go_enter Tryz.func28,Tryz.ntmps28
 go_wp2
 refine wp_loop_rounds 1 ?_
 rw [rounds_succ]
 go_wp2
 go_ret
 exact ⟨rfl,rfl⟩
end Go.Proofs.YtkanmkcojlefbaaGreatDoor
