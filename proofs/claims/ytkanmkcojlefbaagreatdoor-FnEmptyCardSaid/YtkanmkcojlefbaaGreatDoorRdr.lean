/-
  bytes.Reader: what Read gives; io.ReadAtLeast, io.ReadFull and tryReadFull over it, where enough bytes are left.
-/
import Derived.Test.YtkanmkcojlefbaaGreatDoorBase
namespace Go.Proofs.YtkanmkcojlefbaaGreatDoor
set_option linter.unusedVariables false
open Go.RowKit

/-- A bytes.Reader in block br over the row dr: its data D, of which i bytes are read. -/
def RdrAt (br dr : Nat) (D : List UInt8) (i : Nat) (w : World) : Prop :=
  br ≠ dr ∧ D.length ≤ 140737488355328 ∧ i ≤ D.length ∧ ∃ (cap : Nat) (pr : Int) (cur : Array Value), w.heap[br]? = some (.cells #[.slice (some ⟨dr, 0, none⟩) D.length cap, .int .i64 i, .int .i64 pr] 154 (0, 0)) ∧ D.length ≤ cap ∧ cap ≤ maxLen ∧
    w.heap[dr]? = some (.cells cur 5 (0, 0)) ∧ cur.size = cap ∧ cur.toList.take D.length = bvs D

set_option maxRecDepth 100000 in
set_option maxHeartbeats 400000 in
theorem rdr_eof (br dr : Nat) (D : List UInt8) (a : Option Addr) (n c : Nat) (eof : Addr) (w : World) (h : RdrAt br dr D D.length w) (he : Sent w 0 eof) :
    Calls Tryz.prog 340 #[.pointer (some ⟨br, 0, none⟩), .slice a n c] w fun e w' => e = .returned (.tuple #[.int .i64 0, .iface 245 (.pointer (some eof))]) ∧ ∃ k, w' = w.drewN k := by
  obtain ⟨hne, hD, hi, cap, pr, cur, hbr, hc1, hc2, hdr, hcs, htk⟩ := h
  unfold Sent at he
  have d0 : w.cell? ⟨br, 0, none⟩ = some (.slice (some ⟨dr, 0, none⟩) D.length cap) := by rw [cell_heap hbr]; rfl
  have d1 : w.cell? ⟨br, 1, none⟩ = some (.int .i64 D.length) := by rw [cell_heap hbr]; rfl
  clear hbr hdr htk hcs
  go_enter Tryz.func340, Tryz.ntmps340
  go_wp2
  go_quiet (fail)
  go_wp2
  go_quiet (fail)
  go_wp2
  go_ret2
  exact ⟨rfl, _, World.drewN_drewN _ _ _⟩

set_option maxRecDepth 100000 in
set_option maxHeartbeats 800000 in
/-- The next bytes: as many as there is room for, or as are left. -/
theorem rdr_read (br dr : Nat) (D : List UInt8) (i : Nat) (g off n c m : Nat) (cs : Array Value) (t : TypeId) (w : World) (h : RdrAt br dr D i w) (hi : i < D.length)
    (hg : w.heap[g]? = some (.cells cs t (0, 0))) (hgb : g ≠ br) (hgd : g ≠ dr) (hn : 0 < n) (hnc : n ≤ c) (hcm : c ≤ maxLen) (hm : m = min n (D.length - i)) (hfit : off + n ≤ cs.size) :
    Calls Tryz.prog 340 #[.pointer (some ⟨br, 0, none⟩), .slice (some ⟨g, off, none⟩) n c] w fun e w' => e = .returned (.tuple #[.int .i64 m, .nilIface]) ∧
      RdrAt br dr D (i + m) w' ∧ w'.heap[g]? = some (.cells (splice cs.toList off (bvs ((D.drop i).take m))).toArray t (0, 0)) ∧ Chg [br, g] w w' := by
  obtain ⟨hne, hD, hiD, cap, pr, cur, hbr, hc1, hc2, hdr, hcs, htk⟩ := h
  have d0 : w.cell? ⟨br, 0, none⟩ = some (.slice (some ⟨dr, 0, none⟩) D.length cap) := by rw [cell_heap hbr]; rfl
  have d1 : w.cell? ⟨br, 1, none⟩ = some (.int .i64 i) := by rw [cell_heap hbr]; rfl
  have d2 : w.cell? ⟨br, 2, none⟩ = some (.int .i64 pr) := by rw [cell_heap hbr]; rfl
  have f2 : w.frozen? ⟨br, 2, none⟩ = false := frozen_heap hbr 2
  have f1 : w.frozen? ⟨br, 1, none⟩ = false := frozen_heap hbr 1
  have hlen : (bvs ((D.drop i).take m)).length = m := by simp [bvs, List.length_take]; omega
  unfold maxLen at hc2 hcm
  have HM := Lib.hid hm
  clear hm
  have HBR := Lib.hid hbr; have HDR := Lib.hid hdr; have HG := Lib.hid hg; have HCS := Lib.hid hcs; have HTK := Lib.hid htk; have HL := Lib.hid hlen
  clear hbr hdr hg hcs htk hlen
  go_enter Tryz.func340, Tryz.ntmps340
  go_wp2
  go_quiet (fail)
  go_wp2
  have hbr := HBR.out; have hdr := HDR.out; have hg := HG.out
  have hbr2 : ((w.drewN nq).setCell ⟨br, 2, none⟩ (.int .i64 (-1))).heap[br]? = some (.cells #[.slice (some ⟨dr, 0, none⟩) D.length cap, .int .i64 i, .int .i64 (-1)] 154 (0, 0)) := by
    rw [heap_setCell_at (w := w.drewN nq) hbr]; rfl
  have hdr2 : ((w.drewN nq).setCell ⟨br, 2, none⟩ (.int .i64 (-1))).heap[dr]? = some (.cells cur 5 (0, 0)) := by
    rw [Below.heap_setCell _ _ _ _ (by exact Ne.symm hne)]; exact hdr
  have hg2 : ((w.drewN nq).setCell ⟨br, 2, none⟩ (.int .i64 (-1))).heap[g]? = some (.cells cs t (0, 0)) := by
    rw [Below.heap_setCell _ _ _ _ (by exact hgb)]; exact hg
  have hch2 : Chg [br, g] w ((w.drewN nq).setCell ⟨br, 2, none⟩ (.int .i64 (-1))) := ((Chg.refl _ w).drewN nq).setCell (by simp) _
  generalize (w.drewN nq).setCell ⟨br, 2, none⟩ (.int .i64 (-1)) = W2 at *
  clear d0 d1 d2 f2 f1 hbr hdr hg HBR HDR HG
  have d0 : W2.cell? ⟨br, 0, none⟩ = some (.slice (some ⟨dr, 0, none⟩) D.length cap) := by rw [cell_heap hbr2]; rfl
  have d1 : W2.cell? ⟨br, 1, none⟩ = some (.int .i64 i) := by rw [cell_heap hbr2]; rfl
  have HBR := Lib.hid hbr2; have HDR := Lib.hid hdr2; have HG := Lib.hid hg2; have HCH := Lib.hid hch2
  have HSRC : Hid (∀ j v, (bvs ((D.drop i).take m))[j]? = some v → W2.cell? ((⟨dr, i, none⟩ : Addr).add j) = some v) := by
    intro j v hj
    rw [add_addr, cell_heap hdr2]
    have hjm : j < m := by
      have := List.getElem?_eq_some_iff.1 hj; obtain ⟨h, _⟩ := this; rwa [HL.out] at h
    have hlm : m ≤ D.length - i := by have := HM.out; omega
    have e1 : cur[i + j]? = (cur.toList.take D.length)[i + j]? := by rw [List.getElem?_take, if_pos (by omega)]; simp
    rw [e1, HTK.out, bvs_get]
    rw [bvs_get, List.getElem?_take, if_pos hjm, List.getElem?_drop] at hj
    exact hj
  clear hbr2 hdr2 hg2 hch2
  have hcap : ¬ cap = i := by omega
  have HLM : Hid ((bvs ((D.drop i).take m)).length = Nat.min (D.length - i) n) := by
    have := HL.out; have := HM.out; show _ = min (D.length - i) n; rw [Nat.min_comm]; omega
  go_region_law (refine step_copy_row rfl (.tmp 20) (.tmp 29) 35 35 rfl 5 u35 s5 g off n c ⟨dr, i, none⟩ (D.length - i) (cap - i) (by simp [Act.eval, Act.put]) (by simp [Act.eval, Act.put]) cs t HG.out (bvs ((D.drop i).take m)) HLM.out HSRC.out (by rw [HL.out]; have := HM.out; omega) (bvs_one _) m HL.out ?_; intro w3 H3)
  all_goals
    have hbr3 : w3.heap[br]? = some (.cells #[.slice (some ⟨dr, 0, none⟩) D.length cap, .int .i64 i, .int .i64 (-1)] 154 (0, 0)) := by
      rw [H3.out, setRow_other _ _ _ _ (Ne.symm hgb)]; exact HBR.out
    have hdr3 : w3.heap[dr]? = some (.cells cur 5 (0, 0)) := by
      rw [H3.out, setRow_other _ _ _ _ (Ne.symm hgd)]; exact HDR.out
    have hg3 : w3.heap[g]? = some (.cells (splice cs.toList off (bvs ((D.drop i).take m))).toArray t (0, 0)) := by
      rw [H3.out]; exact setRow_heap W2.drew g cs _ t _ HG.out
    have hch3 : Chg [br, g] w w3 := by rw [H3.out]; exact HCH.out.drew.setRow (by simp) _
    have hml : m ≤ D.length - i := by have := HM.out; omega
    clear d0 d1 HBR HDR HG HSRC H3
    have d1 : w3.cell? ⟨br, 1, none⟩ = some (.int .i64 i) := by rw [cell_heap hbr3]; rfl
    have f1 : w3.frozen? ⟨br, 1, none⟩ = false := frozen_heap hbr3 1
    have HBR := Lib.hid hbr3; have HDR := Lib.hid hdr3; have HG := Lib.hid hg3; have HCH := Lib.hid hch3
    clear hbr3 hdr3 hg3 hch3
    go_wp2
    go_ret2
    refine ⟨rfl, ⟨hne, hD, by omega, cap, -1, cur, ?_, hc1, hc2, ?_, HCS.out, HTK.out⟩, ?_, ?_⟩
    · rw [heap_setCell_at HBR.out]; simp
    · rw [Below.heap_setCell _ _ _ _ (Ne.symm hne)]; exact HDR.out
    · rw [Below.heap_setCell _ _ _ _ hgb]; exact HG.out
    · exact HCH.out.setCell (by simp) _
end Go.Proofs.YtkanmkcojlefbaaGreatDoor
