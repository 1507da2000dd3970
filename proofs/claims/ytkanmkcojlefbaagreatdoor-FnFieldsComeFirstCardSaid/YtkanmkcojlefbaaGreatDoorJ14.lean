/-
  Reader.Read and LimitedReader.Read over the data of a file.
-/
import Derived.Test.YtkanmkcojlefbaaGreatDoorJ13
set_option linter.unusedVariables false
namespace Go.Proofs.YtkanmkcojlefbaaGreatDoor
open Go.RowKit
theorem ahead146 (a:Addr) (w:World):(nilAhead 511 146 (.pointer (some a)) "Read").run Tryz.prog w=.ok (some false) w:=by kernel_rfl
theorem neq_same (a:Addr) (w:World):(binOp .neq 72 (.iface 245 (.pointer (some a))) (.iface 245 (.pointer (some a)))).run Tryz.prog w=.ok (.bool false) w:=by
 cases hi:Tryz.prog.info? 245 with
 | none=>have:=c245;simp [hi] at this
 | some i=>
  cases hj:Tryz.prog.info? 247 with
  | none=>have:=s247;simp [hj] at this
  | some j=>
   simp only [binOp]
   simp [Op.equal,Op.maxDepth,run_equalIn_iface_ptr_same w 9998 a u72 u245 hi (by have:=c245;simpa [hi] using this) hj]
set_option maxRecDepth 100000 in
set_option maxHeartbeats 1000000 in
theorem tarR_last (tr rr br dr:Nat) (D:List UInt8) (i nb g off n c:Nat) (cs:Array Value) (t:TypeId) (eof:Addr) (w:World) (h:RdrAt br dr D i w) (hr:RegAt rr br nb w) (ht2:w.cell? ⟨tr,2,none⟩=some (.iface 146 (.pointer (some ⟨rr,0,none⟩)))) (ht5:w.cell? ⟨tr,515,none⟩=some .nilIface) (hi:i+nb≤D.length)
  (hg:w.heap[g]? =some (.cells cs t (0,0))) (hgb:g≠br) (hgd:g≠dr) (hgr:g≠rr) (hrb:rr≠br) (hrd:rr≠dr) (hn:0 < n) (hnb:0 < nb) (hlt:nb≤n) (hnc:n≤c) (hcm:c≤maxLen) (hfit:off+n≤cs.size) (he:Sent w 0 eof) (h0:0≠br∧0≠g∧0≠rr) :
  Calls Tryz.prog 81 #[.pointer (some ⟨tr,0,none⟩),.slice (some ⟨g,off,none⟩) n c] w fun e w'=>e=.returned (.tuple #[.int .i64 nb,.iface 245 (.pointer (some eof))])∧
   RdrAt br dr D (i+nb) w'∧RegAt rr br 0 w'∧w'.heap[g]? =some (.cells (splice cs.toList off (bvs ((D.drop i).take nb))).toArray t (0,0))∧Chg [br,g,rr] w w':=by
 have H:=Lib.hid h;have HG:=Lib.hid hg;have HE:=Lib.hid he;have HR:=Lib.hid hr
 clear h hg he hr
 have hah:=ahead146
 have hns:=neq_same
 go_enter Tryz.func81,Tryz.ntmps81
 go_wp2_with (go_at_call 346;refine (regR_last rr br dr D i nb g off n c cs t eof _ H.out HR.out hi HG.out hgb hgd hgr hrb hrd hn hnb hlt hnc hcm hfit HE.out h0).mono ?_;rintro e w1 ⟨rfl,h1,h2,h3,h4⟩;have he1:Sent w1 0 eof:=HE.out.chg h4 (by simp [h0.1,h0.2.1,h0.2.2]);unfold Sent at he1;have H1:=Lib.hid h1;have H2:=Lib.hid h2;have H3:=Lib.hid h3;have H4:=Lib.hid h4;clear h1 h2 h3 h4)
 go_ret2
 exact ⟨rfl,H1.out,H2.out,H3.out,H4.out⟩
set_option maxRecDepth 100000 in
set_option maxHeartbeats 1000000 in
theorem tarR_some (tr rr br dr:Nat) (D:List UInt8) (i nb g off n c:Nat) (cs:Array Value) (t:TypeId) (eof:Addr) (w:World) (h:RdrAt br dr D i w) (hr:RegAt rr br nb w) (ht2:w.cell? ⟨tr,2,none⟩=some (.iface 146 (.pointer (some ⟨rr,0,none⟩)))) (ht5:w.cell? ⟨tr,515,none⟩=some .nilIface) (hi:i+nb≤D.length)
  (hg:w.heap[g]? =some (.cells cs t (0,0))) (hgb:g≠br) (hgd:g≠dr) (hgr:g≠rr) (hrb:rr≠br) (hrd:rr≠dr) (hn:0 < n) (hlt:n < nb) (hnc:n≤c) (hcm:c≤maxLen) (hfit:off+n≤cs.size) (he:Sent w 0 eof) (h0:0≠br∧0≠g∧0≠rr) :
  Calls Tryz.prog 81 #[.pointer (some ⟨tr,0,none⟩),.slice (some ⟨g,off,none⟩) n c] w fun e w'=>e=.returned (.tuple #[.int .i64 n,.nilIface])∧
   RdrAt br dr D (i+n) w'∧RegAt rr br ((nb - n:Nat):Int) w'∧w'.heap[g]? =some (.cells (splice cs.toList off (bvs ((D.drop i).take n))).toArray t (0,0))∧Chg [br,g,rr] w w':=by
 have H:=Lib.hid h;have HG:=Lib.hid hg;have HE:=Lib.hid he;have HR:=Lib.hid hr
 clear h hg he hr
 have hah:=ahead146
 have hns:=neq_same
 go_enter Tryz.func81,Tryz.ntmps81
 go_wp2_with (go_at_call 346;refine (regR_some rr br dr D i nb g off n c cs t eof _ H.out HR.out hi HG.out hgb hgd hgr hrb hrd hn hlt hnc hcm hfit HE.out h0).mono ?_;rintro e w1 ⟨rfl,h1,h2,h3,h4⟩;have he1:Sent w1 0 eof:=HE.out.chg h4 (by simp [h0.1,h0.2.1,h0.2.2]);unfold Sent at he1;have H1:=Lib.hid h1;have H2:=Lib.hid h2;have H3:=Lib.hid h3;have H4:=Lib.hid h4;clear h1 h2 h3 h4)
 go_ret2
 exact ⟨rfl,H1.out,H2.out,H3.out,H4.out⟩
def LimAt (lr tr:Nat) (N:Int) (w:World):Prop:=w.heap[lr]? =some (.cells #[.iface 82 (.pointer (some ⟨tr,0,none⟩)),.int .i64 N] 321 (0,0))
theorem LimAt.chg {lr tr:Nat} {N:Int} {S:List Nat} {w w':World} (h:LimAt lr tr N w) (k:Chg S w w') (hn:lr∉S):LimAt lr tr N w':=k.heap h hn
theorem LimAt.set {lr tr:Nat} {N N':Int} {w:World} (h:LimAt lr tr N w):LimAt lr tr N' (w.setCell ⟨lr,1,none⟩ (.int .i64 N')):=by
 unfold LimAt at h⊢
 rw [heap_setCell_at h]
 rfl
theorem ahead82 (a:Addr) (w:World):(nilAhead 511 82 (.pointer (some a)) "Read").run Tryz.prog w=.ok (some false) w:=by kernel_rfl
theorem ahead319 (a:Addr) (w:World):(nilAhead 511 319 (.pointer (some a)) "Read").run Tryz.prog w=.ok (some false) w:=by kernel_rfl
theorem RdrAt.chg' {br dr:Nat} {D:List UInt8} {i:Nat} {S:List Nat} {w w':World} (h:RdrAt br dr D i w) (hk:Chg S w w') (h1:br∉S) (h2:dr∉S):RdrAt br dr D i w':=by
 obtain ⟨a1,a2,a3,cap,pr,cur,a4,a5,a6,a7,a8,a9⟩:=h
 exact ⟨a1,a2,a3,cap,pr,cur,hk.heap a4 h1,a5,a6,hk.heap a7 h2,a8,a9⟩
set_option maxRecDepth 100000 in
set_option maxHeartbeats 1000000 in
theorem lim_some (lr tr rr br dr:Nat) (D:List UInt8) (i nb N g off n c:Nat) (cs:Array Value) (t:TypeId) (eof:Addr) (w:World) (h:RdrAt br dr D i w) (hr:RegAt rr br nb w) (hl:LimAt lr tr N w) (T2:w.cell? ⟨tr,2,none⟩=some (.iface 146 (.pointer (some ⟨rr,0,none⟩)))) (T5:w.cell? ⟨tr,515,none⟩=some .nilIface) (hi:i+nb≤D.length)
  (hg:w.heap[g]? =some (.cells cs t (0,0))) (hgb:g≠br) (hgd:g≠dr) (hgr:g≠rr) (hrb:rr≠br) (hrd:rr≠dr) (hn:0 < n) (hlt:n < nb) (hN:nb < N) (hnc:n≤c) (hcm:c≤maxLen) (hfit:off+n≤cs.size) (he:Sent w 0 eof) (h0:0≠br∧0≠g∧0≠rr) (hlx:lr≠br∧lr≠g∧lr≠rr∧lr≠dr) (hNm:N≤1048577) :
  Calls Tryz.prog 360 #[.pointer (some ⟨lr,0,none⟩),.slice (some ⟨g,off,none⟩) n c] w fun e w'=>e=.returned (.tuple #[.int .i64 n,.nilIface])∧
   RdrAt br dr D (i+n) w'∧RegAt rr br ((nb - n:Nat):Int) w'∧LimAt lr tr ((N - n:Nat):Int) w'∧w'.heap[g]? =some (.cells (splice cs.toList off (bvs ((D.drop i).take n))).toArray t (0,0))∧Chg [br,g,rr,lr] w w':=by
 have l0:w.cell? ⟨lr,0,none⟩=some (.iface 82 (.pointer (some ⟨tr,0,none⟩))):=by rw [cell_heap hl];rfl
 have l1:w.cell? ⟨lr,1,none⟩=some (.int .i64 N):=by rw [cell_heap hl];rfl
 have H:=Lib.hid h;have HG:=Lib.hid hg;have HE:=Lib.hid he;have HR:=Lib.hid hr;have HL:=Lib.hid hl
 clear h hg he hr hl
 have hah:=ahead82
 have hz:¬((N:Int)≤0):=by omega
 have hcm':=hcm
 unfold maxLen at hcm'
 have hq:¬((N:Int) < n):=by omega
 have HT2:=Lib.hid T2;have HT5:=Lib.hid T5
 clear T2 T5
 go_enter Tryz.func360,Tryz.ntmps360
 go_wp2_with (go_at_call 81;refine (tarR_some tr rr br dr D i nb g off n c cs t eof _ H.out HR.out HT2.out HT5.out hi HG.out hgb hgd hgr hrb hrd hn hlt hnc hcm hfit HE.out h0).mono ?_;rintro e w1 ⟨rfl,h1,h2,h3,h4⟩;have l1:w1.cell? ⟨lr,1,none⟩=some (.int .i64 N):=(by rw [cell_heap (HL.out.chg h4 (by simp;exact ⟨hlx.1,hlx.2.1,hlx.2.2.1⟩))];rfl);have f1:w1.frozen? ⟨lr,1,none⟩=false:=frozen_heap (HL.out.chg h4 (by simp;exact ⟨hlx.1,hlx.2.1,hlx.2.2.1⟩)) 1;have H1:=Lib.hid h1;have H2:=Lib.hid h2;have H3:=Lib.hid h3;have H4:=Lib.hid h4;clear h1 h2 h3 h4)
 go_ret2
 have hk:Chg [lr] w1 (w1.setCell ⟨lr,1,none⟩ (.int .i64 ((N:Int) - n))):=(Chg.refl _ _).setCell (.inl (by simp)) _
 refine ⟨rfl,?_,?_,?_,?_,?_⟩
 ·exact H1.out.chg' hk (by simp;exact hlx.1.symm) (by simp;exact hlx.2.2.2.symm)
 ·exact H2.out.chg hk (by simp;exact hlx.2.2.1.symm)
 ·have:=(HL.out.chg H4.out (by simp;exact ⟨hlx.1,hlx.2.1,hlx.2.2.1⟩)).set (N':=(N:Int) - n)
  rw [show ((N - n:Nat):Int)=(N:Int) - n by omega]
  exact this
 ·exact hk.heap H3.out (by simp;exact hlx.2.1.symm)
 ·exact (H4.out.mono (by simp)).trans (hk.mono (by simp))
set_option maxRecDepth 100000 in
set_option maxHeartbeats 1000000 in
theorem lim_last (lr tr rr br dr:Nat) (D:List UInt8) (i nb N g off n c:Nat) (cs:Array Value) (t:TypeId) (eof:Addr) (w:World) (h:RdrAt br dr D i w) (hr:RegAt rr br nb w) (hl:LimAt lr tr N w) (T2:w.cell? ⟨tr,2,none⟩=some (.iface 146 (.pointer (some ⟨rr,0,none⟩)))) (T5:w.cell? ⟨tr,515,none⟩=some .nilIface) (hi:i+nb≤D.length)
  (hg:w.heap[g]? =some (.cells cs t (0,0))) (hgb:g≠br) (hgd:g≠dr) (hgr:g≠rr) (hrb:rr≠br) (hrd:rr≠dr) (hn:0 < n) (hnb:0 < nb) (hlt:nb≤n) (hN:nb < N) (hcut:n≤N) (hnc:n≤c) (hcm:c≤maxLen) (hfit:off+n≤cs.size) (he:Sent w 0 eof) (h0:0≠br∧0≠g∧0≠rr) (hlx:lr≠br∧lr≠g∧lr≠rr∧lr≠dr) (hNm:N≤1048577) :
  Calls Tryz.prog 360 #[.pointer (some ⟨lr,0,none⟩),.slice (some ⟨g,off,none⟩) n c] w fun e w'=>e=.returned (.tuple #[.int .i64 nb,.iface 245 (.pointer (some eof))])∧
   RdrAt br dr D (i+nb) w'∧RegAt rr br 0 w'∧LimAt lr tr ((N - nb:Nat):Int) w'∧w'.heap[g]? =some (.cells (splice cs.toList off (bvs ((D.drop i).take nb))).toArray t (0,0))∧Chg [br,g,rr,lr] w w':=by
 have l0:w.cell? ⟨lr,0,none⟩=some (.iface 82 (.pointer (some ⟨tr,0,none⟩))):=by rw [cell_heap hl];rfl
 have l1:w.cell? ⟨lr,1,none⟩=some (.int .i64 N):=by rw [cell_heap hl];rfl
 have H:=Lib.hid h;have HG:=Lib.hid hg;have HE:=Lib.hid he;have HR:=Lib.hid hr;have HL:=Lib.hid hl
 clear h hg he hr hl
 have hah:=ahead82
 have hz:¬((N:Int)≤0):=by omega
 have hcm':=hcm
 unfold maxLen at hcm'
 have hq:¬((N:Int) < n):=by omega
 have HT2:=Lib.hid T2;have HT5:=Lib.hid T5
 clear T2 T5
 go_enter Tryz.func360,Tryz.ntmps360
 go_wp2_with (go_at_call 81;refine (tarR_last tr rr br dr D i nb g off n c cs t eof _ H.out HR.out HT2.out HT5.out hi HG.out hgb hgd hgr hrb hrd (by omega) hnb (by omega) (by omega) hcm (by omega) HE.out h0).mono ?_;rintro e w1 ⟨rfl,h1,h2,h3,h4⟩;have l1:w1.cell? ⟨lr,1,none⟩=some (.int .i64 N):=(by rw [cell_heap (HL.out.chg h4 (by simp;exact ⟨hlx.1,hlx.2.1,hlx.2.2.1⟩))];rfl);have f1:w1.frozen? ⟨lr,1,none⟩=false:=frozen_heap (HL.out.chg h4 (by simp;exact ⟨hlx.1,hlx.2.1,hlx.2.2.1⟩)) 1;have H1:=Lib.hid h1;have H2:=Lib.hid h2;have H3:=Lib.hid h3;have H4:=Lib.hid h4;clear h1 h2 h3 h4)
 go_ret2
 have hk:Chg [lr] w1 (w1.setCell ⟨lr,1,none⟩ (.int .i64 ((N:Int) - nb))):=(Chg.refl _ _).setCell (.inl (by simp)) _
 refine ⟨rfl,?_,?_,?_,?_,?_⟩
 ·exact H1.out.chg' hk (by simp;exact hlx.1.symm) (by simp;exact hlx.2.2.2.symm)
 ·exact H2.out.chg hk (by simp;exact hlx.2.2.1.symm)
 ·have:=(HL.out.chg H4.out (by simp;exact ⟨hlx.1,hlx.2.1,hlx.2.2.1⟩)).set (N':=(N:Int) - nb)
  rw [show ((N - nb:Nat):Int)=(N:Int) - nb by omega]
  exact this
 ·exact hk.heap H3.out (by simp;exact hlx.2.1.symm)
 ·exact (H4.out.mono (by simp)).trans (hk.mono (by simp))
set_option maxRecDepth 100000 in
set_option maxHeartbeats 1000000 in
theorem lim_lastCut (lr tr rr br dr:Nat) (D:List UInt8) (i nb N g off n c:Nat) (cs:Array Value) (t:TypeId) (eof:Addr) (w:World) (h:RdrAt br dr D i w) (hr:RegAt rr br nb w) (hl:LimAt lr tr N w) (T2:w.cell? ⟨tr,2,none⟩=some (.iface 146 (.pointer (some ⟨rr,0,none⟩)))) (T5:w.cell? ⟨tr,515,none⟩=some .nilIface) (hi:i+nb≤D.length)
  (hg:w.heap[g]? =some (.cells cs t (0,0))) (hgb:g≠br) (hgd:g≠dr) (hgr:g≠rr) (hrb:rr≠br) (hrd:rr≠dr) (hn:0 < n) (hnb:0 < nb) (hlt:nb≤n) (hN:nb < N) (hcut:N < n) (hnc:n≤c) (hcm:c≤maxLen) (hfit:off+n≤cs.size) (he:Sent w 0 eof) (h0:0≠br∧0≠g∧0≠rr) (hlx:lr≠br∧lr≠g∧lr≠rr∧lr≠dr) (hNm:N≤1048577) :
  Calls Tryz.prog 360 #[.pointer (some ⟨lr,0,none⟩),.slice (some ⟨g,off,none⟩) n c] w fun e w'=>e=.returned (.tuple #[.int .i64 nb,.iface 245 (.pointer (some eof))])∧
   RdrAt br dr D (i+nb) w'∧RegAt rr br 0 w'∧LimAt lr tr ((N - nb:Nat):Int) w'∧w'.heap[g]? =some (.cells (splice cs.toList off (bvs ((D.drop i).take nb))).toArray t (0,0))∧Chg [br,g,rr,lr] w w':=by
 have l0:w.cell? ⟨lr,0,none⟩=some (.iface 82 (.pointer (some ⟨tr,0,none⟩))):=by rw [cell_heap hl];rfl
 have l1:w.cell? ⟨lr,1,none⟩=some (.int .i64 N):=by rw [cell_heap hl];rfl
 have H:=Lib.hid h;have HG:=Lib.hid hg;have HE:=Lib.hid he;have HR:=Lib.hid hr;have HL:=Lib.hid hl
 clear h hg he hr hl
 have hah:=ahead82
 have hz:¬((N:Int)≤0):=by omega
 have hcm':=hcm
 unfold maxLen at hcm'
 have hq:(N:Int) < n:=by omega
 have hq2:(N:Int)≤c:=by omega
 have hq3:N≤c:=by omega
 have HT2:=Lib.hid T2;have HT5:=Lib.hid T5
 clear T2 T5
 go_enter Tryz.func360,Tryz.ntmps360
 go_wp2_with (go_at_call 81;refine (tarR_last tr rr br dr D i nb g off N c cs t eof _ H.out HR.out HT2.out HT5.out hi HG.out hgb hgd hgr hrb hrd (by omega) hnb (by omega) (by omega) hcm (by omega) HE.out h0).mono ?_;rintro e w1 ⟨rfl,h1,h2,h3,h4⟩;have l1:w1.cell? ⟨lr,1,none⟩=some (.int .i64 N):=(by rw [cell_heap (HL.out.chg h4 (by simp;exact ⟨hlx.1,hlx.2.1,hlx.2.2.1⟩))];rfl);have f1:w1.frozen? ⟨lr,1,none⟩=false:=frozen_heap (HL.out.chg h4 (by simp;exact ⟨hlx.1,hlx.2.1,hlx.2.2.1⟩)) 1;have H1:=Lib.hid h1;have H2:=Lib.hid h2;have H3:=Lib.hid h3;have H4:=Lib.hid h4;clear h1 h2 h3 h4)
 go_ret2
 have hk:Chg [lr] w1 (w1.setCell ⟨lr,1,none⟩ (.int .i64 ((N:Int) - nb))):=(Chg.refl _ _).setCell (.inl (by simp)) _
 refine ⟨rfl,?_,?_,?_,?_,?_⟩
 ·exact H1.out.chg' hk (by simp;exact hlx.1.symm) (by simp;exact hlx.2.2.2.symm)
 ·exact H2.out.chg hk (by simp;exact hlx.2.2.1.symm)
 ·have:=(HL.out.chg H4.out (by simp;exact ⟨hlx.1,hlx.2.1,hlx.2.2.1⟩)).set (N':=(N:Int) - nb)
  rw [show ((N - nb:Nat):Int)=(N:Int) - nb by omega]
  exact this
 ·exact hk.heap H3.out (by simp;exact hlx.2.1.symm)
 ·exact (H4.out.mono (by simp)).trans (hk.mono (by simp))
end Go.Proofs.YtkanmkcojlefbaaGreatDoor
