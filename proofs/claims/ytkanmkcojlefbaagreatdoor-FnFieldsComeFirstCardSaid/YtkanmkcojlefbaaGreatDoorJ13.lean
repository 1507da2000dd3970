/-
  The reader of a file's data: regFileReader.Read over a bytes.Reader.
-/
import Derived.Test.YtkanmkcojlefbaaGreatDoorJ01
set_option linter.unusedVariables false
namespace Go.Proofs.YtkanmkcojlefbaaGreatDoor
open Go.RowKit
def RegAt (rr br:Nat) (nb:Int) (w:World):Prop:=w.heap[rr]? =some (.cells #[.iface 84 (.pointer (some ⟨br,0,none⟩)),.int .i64 nb] 148 (0,0))
theorem RegAt.chg {rr br:Nat} {nb:Int} {S:List Nat} {w w':World} (h:RegAt rr br nb w) (k:Chg S w w') (hn:rr∉S):RegAt rr br nb w':=k.heap h hn
theorem RegAt.set {rr br:Nat} {nb nb':Int} {w:World} (h:RegAt rr br nb w):RegAt rr br nb' (w.setCell ⟨rr,1,none⟩ (.int .i64 nb')):=by
 unfold RegAt at h⊢
 rw [heap_setCell_at h]
 rfl
set_option maxRecDepth 100000 in
set_option maxHeartbeats 1000000 in
theorem regR_some (rr br dr:Nat) (D:List UInt8) (i nb g off n c:Nat) (cs:Array Value) (t:TypeId) (eof:Addr) (w:World) (h:RdrAt br dr D i w) (hr:RegAt rr br nb w) (hi:i+nb≤D.length)
  (hg:w.heap[g]? =some (.cells cs t (0,0))) (hgb:g≠br) (hgd:g≠dr) (hgr:g≠rr) (hrb:rr≠br) (hrd:rr≠dr) (hn:0 < n) (hlt:n < nb) (hnc:n≤c) (hcm:c≤maxLen) (hfit:off+n≤cs.size) (he:Sent w 0 eof) (h0:0≠br∧0≠g∧0≠rr) :
  Calls Tryz.prog 346 #[.pointer (some ⟨rr,0,none⟩),.slice (some ⟨g,off,none⟩) n c] w fun e w'=>e=.returned (.tuple #[.int .i64 n,.nilIface])∧
   RdrAt br dr D (i+n) w'∧RegAt rr br ((nb - n:Nat):Int) w'∧w'.heap[g]? =some (.cells (splice cs.toList off (bvs ((D.drop i).take n))).toArray t (0,0))∧Chg [br,g,rr] w w':=by
 unfold maxLen at hcm
 have hD:=h.2.1
 have r0:w.cell? ⟨rr,0,none⟩=some (.iface 84 (.pointer (some ⟨br,0,none⟩))):=by rw [cell_heap hr];rfl
 have r1:w.cell? ⟨rr,1,none⟩=some (.int .i64 nb):=by rw [cell_heap hr];rfl
 have H:=Lib.hid h;have HG:=Lib.hid hg;have HE:=Lib.hid he;have HR:=Lib.hid hr
 clear h hg he hr
 have hah:=ahead84
 have hnl:=eql_nil
 have hn0:(0:Int) < n:=by omega
 have hle:¬((nb:Int) < n):=by omega
 have hz:¬((nb:Int) - n=0):=by omega
 go_enter Tryz.func346,Tryz.ntmps346
 go_wp2_with (go_at_call 340;refine (rdr_read br dr D i g off n c n cs t _ (by exact H.out) (by omega) (by exact HG.out) hgb hgd hn hnc (by unfold maxLen;exact hcm) (by omega) hfit).mono ?_;rintro e w1 ⟨rfl,h1,h2,h3⟩;have r1:w1.cell? ⟨rr,1,none⟩=some (.int .i64 nb):=(by rw [cell_heap (HR.out.chg h3 (by simp;exact ⟨hrb,hgr.symm⟩))];rfl);have f1:w1.frozen? ⟨rr,1,none⟩=false:=frozen_heap (HR.out.chg h3 (by simp;exact ⟨hrb,hgr.symm⟩)) 1;have he1:Sent w1 0 eof:=HE.out.chg h3 (by simp [h0.1,h0.2.1]);unfold Sent at he1;have H1:=Lib.hid h1;have H2:=Lib.hid h2;have H3:=Lib.hid h3;clear h1 h2 h3)
 go_ret2
 have hk:Chg [rr] w1 (w1.setCell ⟨rr,1,none⟩ (.int .i64 ((nb:Int) - n))):=(Chg.refl _ _).setCell (.inl (by simp)) _
 refine ⟨rfl,?_,?_,?_,?_⟩
 ·obtain ⟨a1,a2,a3,cap,pr,cur,a4,a5,a6,a7,a8,a9⟩:=H1.out
  exact ⟨a1,a2,a3,cap,pr,cur,hk.heap a4 (by simp;exact hrb.symm),a5,a6,hk.heap a7 (by simp;exact hrd.symm),a8,a9⟩
 ·have:=(HR.out.chg H3.out (by simp;exact ⟨hrb,hgr.symm⟩)).set (nb':=(nb:Int) - n)
  rw [show ((nb - n:Nat):Int)=(nb:Int) - n by omega]
  exact this
 ·exact hk.heap H2.out (by simp;exact hgr)
 ·exact (H3.out.mono (by simp)).trans (hk.mono (by simp))
set_option maxRecDepth 100000 in
set_option maxHeartbeats 1000000 in
theorem regR_last (rr br dr:Nat) (D:List UInt8) (i nb g off n c:Nat) (cs:Array Value) (t:TypeId) (eof:Addr) (w:World) (h:RdrAt br dr D i w) (hr:RegAt rr br nb w) (hi:i+nb≤D.length)
  (hg:w.heap[g]? =some (.cells cs t (0,0))) (hgb:g≠br) (hgd:g≠dr) (hgr:g≠rr) (hrb:rr≠br) (hrd:rr≠dr) (hn:0 < n) (hnb:0 < nb) (hlt:nb≤n) (hnc:n≤c) (hcm:c≤maxLen) (hfit:off+n≤cs.size) (he:Sent w 0 eof) (h0:0≠br∧0≠g∧0≠rr) :
  Calls Tryz.prog 346 #[.pointer (some ⟨rr,0,none⟩),.slice (some ⟨g,off,none⟩) n c] w fun e w'=>e=.returned (.tuple #[.int .i64 nb,.iface 245 (.pointer (some eof))])∧
   RdrAt br dr D (i+nb) w'∧RegAt rr br 0 w'∧w'.heap[g]? =some (.cells (splice cs.toList off (bvs ((D.drop i).take nb))).toArray t (0,0))∧Chg [br,g,rr] w w':=by
 unfold maxLen at hcm
 have hD:=h.2.1
 have r0:w.cell? ⟨rr,0,none⟩=some (.iface 84 (.pointer (some ⟨br,0,none⟩))):=by rw [cell_heap hr];rfl
 have r1:w.cell? ⟨rr,1,none⟩=some (.int .i64 nb):=by rw [cell_heap hr];rfl
 have H:=Lib.hid h;have HG:=Lib.hid hg;have HE:=Lib.hid he;have HR:=Lib.hid hr
 clear h hg he hr
 have hah:=ahead84
 have hnl:=eql_nil
 have hnb0:(0:Int) < nb:=by omega
 have hnbc:((nb:Nat):Int)≤c:=by omega
 have hnbc':nb≤c:=by omega
 by_cases hgt:nb < n
 ·have hgt':(nb:Int) < n:=by omega
  have hle:¬((nb:Int) < nb):=by omega
  go_enter Tryz.func346,Tryz.ntmps346
  go_wp2_with (go_at_call 340;refine (rdr_read br dr D i g off nb c nb cs t _ (by exact H.out) (by omega) (by exact HG.out) hgb hgd hnb hnbc' (by unfold maxLen;exact hcm) (by omega) (by omega)).mono ?_;rintro e w1 ⟨rfl,h1,h2,h3⟩;have r1:w1.cell? ⟨rr,1,none⟩=some (.int .i64 nb):=(by rw [cell_heap (HR.out.chg h3 (by simp;exact ⟨hrb,hgr.symm⟩))];rfl);have f1:w1.frozen? ⟨rr,1,none⟩=false:=frozen_heap (HR.out.chg h3 (by simp;exact ⟨hrb,hgr.symm⟩)) 1;have he1:Sent w1 0 eof:=HE.out.chg h3 (by simp [h0.1,h0.2.1]);unfold Sent at he1;have H1:=Lib.hid h1;have H2:=Lib.hid h2;have H3:=Lib.hid h3;clear h1 h2 h3)
  go_quiet (fail)
  go_wp2
  go_ret2
  have hk:Chg [rr] w1 ((w1.setCell ⟨rr,1,none⟩ (.int .i64 0)).drewN nq):=((Chg.refl _ _).setCell (.inl (by simp)) _).drewN nq
  refine ⟨rfl,?_,?_,?_,?_⟩
  ·obtain ⟨a1,a2,a3,cap,pr,cur,a4,a5,a6,a7,a8,a9⟩:=H1.out
   exact ⟨a1,a2,a3,cap,pr,cur,hk.heap a4 (by simp;exact hrb.symm),a5,a6,hk.heap a7 (by simp;exact hrd.symm),a8,a9⟩
  ·exact (HR.out.chg H3.out (by simp;exact ⟨hrb,hgr.symm⟩)).set (nb':=0)
  ·exact hk.heap H2.out (by simp;exact hgr)
  ·exact (H3.out.mono (by simp)).trans (hk.mono (by simp))
 ·obtain rfl:n=nb:=by omega
  have hle:¬((n:Int) < n):=by omega
  go_enter Tryz.func346,Tryz.ntmps346
  go_wp2_with (go_at_call 340;refine (rdr_read br dr D i g off n c n cs t _ (by exact H.out) (by omega) (by exact HG.out) hgb hgd hn hnc (by unfold maxLen;exact hcm) (by omega) (by omega)).mono ?_;rintro e w1 ⟨rfl,h1,h2,h3⟩;have r1:w1.cell? ⟨rr,1,none⟩=some (.int .i64 n):=(by rw [cell_heap (HR.out.chg h3 (by simp;exact ⟨hrb,hgr.symm⟩))];rfl);have f1:w1.frozen? ⟨rr,1,none⟩=false:=frozen_heap (HR.out.chg h3 (by simp;exact ⟨hrb,hgr.symm⟩)) 1;have he1:Sent w1 0 eof:=HE.out.chg h3 (by simp [h0.1,h0.2.1]);unfold Sent at he1;have H1:=Lib.hid h1;have H2:=Lib.hid h2;have H3:=Lib.hid h3;clear h1 h2 h3)
  go_quiet (fail)
  go_wp2
  go_ret2
  have hk:Chg [rr] w1 ((w1.setCell ⟨rr,1,none⟩ (.int .i64 0)).drewN nq):=((Chg.refl _ _).setCell (.inl (by simp)) _).drewN nq
  refine ⟨rfl,?_,?_,?_,?_⟩
  ·obtain ⟨a1,a2,a3,cap,pr,cur,a4,a5,a6,a7,a8,a9⟩:=H1.out
   exact ⟨a1,a2,a3,cap,pr,cur,hk.heap a4 (by simp;exact hrb.symm),a5,a6,hk.heap a7 (by simp;exact hrd.symm),a8,a9⟩
  ·exact (HR.out.chg H3.out (by simp;exact ⟨hrb,hgr.symm⟩)).set (nb':=0)
  ·exact hk.heap H2.out (by simp;exact hgr)
  ·exact (H3.out.mono (by simp)).trans (hk.mono (by simp))
end Go.Proofs.YtkanmkcojlefbaaGreatDoor
