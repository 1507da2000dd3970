/-
  Next at the end of the archive; files and Read of an archive of two blocks of bytes 0.
-/
import Derived.Test.YtkanmkcojlefbaaGreatDoorHdrEof
import Derived.Deep.RegionHeld3
namespace Go.Proofs.YtkanmkcojlefbaaGreatDoor
open Go.RowKit
set_option linter.unusedVariables false

theorem phys_any (rr br : Nat) (nb : Int) (w : World) :
    Calls Tryz.prog 348 #[.agg #[.iface 84 (.pointer (some ⟨br, 0, none⟩)), .int .i64 nb]] w fun e w' => e = .returned (.int .i64 nb) ∧ Chg [] w w' := by
  go_enter Tryz.func348, Tryz.ntmps348
  go_wp2
  go_ret
  exact ⟨rfl, (Chg.refl _ w).alloc _⟩

theorem TarAt.setPad {tr br rr : Nat} {pad : Int} {cs : Array Value} {w : World} (h : TarAt tr br rr pad cs w) (p : Int) :
    TarAt tr br rr p (cs.setIfInBounds 1 (.int .i64 p)) (w.setCell ⟨tr, 1, none⟩ (.int .i64 p)) := by
  have hs := h.size
  refine ⟨heap_setCell_at h.heap 1 _, by simpa using hs, ?_, ?_, ?_, ?_⟩
  · rw [Array.getElem?_setIfInBounds_ne (by omega)]; exact h.c0
  · rw [Array.getElem?_setIfInBounds_self, if_pos (by omega)]
  · rw [Array.getElem?_setIfInBounds_ne (by omega)]; exact h.c2
  · rw [Array.getElem?_setIfInBounds_ne (by omega)]; exact h.c515
theorem last4 {A B C D : Prop} (h : A ∧ B ∧ C ∧ D) : D := h.2.2.2
theorem keep1 {w1 w' : World} {tr rr br : Nat} {n : Int} (d0 : w1.cell? ⟨tr, 0, none⟩ = some (.iface 84 (.pointer (some ⟨br, 0, none⟩)))) (d2 : w1.cell? ⟨tr, 2, none⟩ = some (.iface 146 (.pointer (some ⟨rr, 0, none⟩))))
    (e0 : w1.cell? ⟨rr, 0, none⟩ = some (.iface 84 (.pointer (some ⟨br, 0, none⟩)))) (e1 : w1.cell? ⟨rr, 1, none⟩ = some (.int .i64 n)) (hc : Chg [] w1 w') :
    w'.cell? ⟨tr, 0, none⟩ = some (.iface 84 (.pointer (some ⟨br, 0, none⟩))) ∧ w'.cell? ⟨tr, 2, none⟩ = some (.iface 146 (.pointer (some ⟨rr, 0, none⟩))) ∧ (method 511 146 (.pointer (some ⟨rr, 0, none⟩)) "tapearchives/pub/gotar.physicalRemaining").run Tryz.prog w' = .ok (348, .agg #[.iface 84 (.pointer (some ⟨br, 0, none⟩)), .int .i64 n]) w' ∧ Chg [] w1 w' :=
  ⟨hc.cell d0 (by simp), hc.cell d2 (by simp), meth_phys rr _ _ w' (hc.cell e0 (by simp)) (hc.cell e1 (by simp)), hc⟩

set_option maxRecDepth 100000 in
set_option maxHeartbeats 800000 in
theorem next_eof (tr br rr dr : Nat) (cs : Array Value) (D : List UInt8) (i : Nat) (eof : Addr) (w : World) (h : TarAt tr br rr 0 cs w) (hr : RdrAt br dr D i w) (hi : i + 1024 ≤ D.length)
    (hrr : w.heap[rr]? = some (.cells #[.iface 84 (.pointer (some ⟨br, 0, none⟩)), .int .i64 0] 148 (0, 0)))
    (hz : (D.drop i).take 1024 = List.replicate 1024 0) (htb : tr ≠ br) (htd : tr ≠ dr) (he : Sent w 0 eof) (h0 : 0 ≠ br ∧ 0 ≠ tr) :
    Calls Tryz.prog 72 #[.pointer (some ⟨tr, 0, none⟩)] w fun e w' => e = .returned (.tuple #[.pointer none, .iface 245 (.pointer (some eof))]) ∧
      RdrAt br dr D (i + 1024) w' ∧ (∃ cs', TarAt tr br rr 0 cs' w') ∧ Chg [br, tr] w w' := by
  have H := Lib.hid h; have HR := Lib.hid hr; have HE := Lib.hid he; have HZ := Lib.hid hz; have HRR := Lib.hid hrr
  clear h hr he hz hrr
  have hn35 := eql_nil
  go_enter Tryz.func72, Tryz.ntmps72
  go_wp2
  have hch : Chg [] w (w.alloc (.cells #[.int .i64 14] 128)) := (Chg.refl _ w).alloc _
  have h1 := H.out.chg hch (by simp)
  have hr1 := HR.out.chg hch (by simp) (by simp)
  have hrr1 := hch.heap HRR.out (by simp)
  have he1 := HE.out.chg hch (by simp)
  generalize w.alloc (.cells #[.int .i64 14] 128) = w1 at *
  have d0 : w1.cell? ⟨tr, 0, none⟩ = some (.iface 84 (.pointer (some ⟨br, 0, none⟩))) := by rw [cell_heap h1.heap]; exact h1.c0
  have d2 : w1.cell? ⟨tr, 2, none⟩ = some (.iface 146 (.pointer (some ⟨rr, 0, none⟩))) := by rw [cell_heap h1.heap]; exact h1.c2
  have e0 : w1.cell? ⟨rr, 0, none⟩ = some (.iface 84 (.pointer (some ⟨br, 0, none⟩))) := by rw [cell_heap hrr1]; rfl
  have e1 : w1.cell? ⟨rr, 1, none⟩ = some (.int .i64 0) := by rw [cell_heap hrr1]; rfl
  have hmp : (method 511 146 (.pointer (some ⟨rr, 0, none⟩)) "tapearchives/pub/gotar.physicalRemaining").run Tryz.prog w1.drew = .ok (348, .agg #[.iface 84 (.pointer (some ⟨br, 0, none⟩)), .int .i64 0]) w1.drew := meth_phys rr _ _ w1.drew e0 e1
  have H1 := Lib.hid h1; have HR1 := Lib.hid hr1; have HCH := Lib.hid hch; have HE1 := Lib.hid he1
  clear h1 hr1 hrr1 hch he1 H HR HE HRR
  refine wp_loop_rounds 1 ?_
  rw [rounds_succ]
  go_wp2
  go_region_held3 (fun w' => w'.cell? ⟨tr, 0, none⟩ = some (.iface 84 (.pointer (some ⟨br, 0, none⟩))) ∧ w'.cell? ⟨tr, 2, none⟩ = some (.iface 146 (.pointer (some ⟨rr, 0, none⟩))) ∧ (method 511 146 (.pointer (some ⟨rr, 0, none⟩)) "tapearchives/pub/gotar.physicalRemaining").run Tryz.prog w' = .ok (348, .agg #[.iface 84 (.pointer (some ⟨br, 0, none⟩)), .int .i64 0]) w' ∧ Chg [] w1 w') (first | exact keep1 d0 d2 e0 e1 (Chg.refl _ _) | exact keep1 d0 d2 e0 e1 (Chg.refl _ _).drew | exact keep1 d0 d2 e0 e1 (by assumption)) ((first | (go_at_call 348; refine (phys_any rr br 0 _).mono ?_; rintro e w2 ⟨rfl, hp⟩; have hp1 : Chg [] w1 w2 := Chg.trans (last4 (by assumption)) hp; clear hp) | (go_at_call 146; refine (discard_none br eof _ (by exact HE1.out.chg (last4 (by assumption)) (by simp))).mono ?_; rintro e w3 ⟨rfl, hp2⟩; have hp3 : Chg [] w1 w3 := Chg.trans (last4 (by assumption)) hp2; clear hp2)))
  have h3 := H1.out.chg hp3 (by simp)
  have hr3 := HR1.out.chg hp3 (by simp) (by simp)
  have he3 := HE1.out.chg hp3 (by simp)
  have hch3 : Chg [br, tr] w w3 := (HCH.out.trans hp3).mono (by simp)
  have H3 := Lib.hid h3; have HR3 := Lib.hid hr3; have HE3 := Lib.hid he3; have HCH3 := Lib.hid hch3
  have t0 : w3.cell? ⟨tr, 0, none⟩ = some (.iface 84 (.pointer (some ⟨br, 0, none⟩))) := by rw [cell_heap h3.heap]; exact h3.c0
  have t1 : w3.cell? ⟨tr, 1, none⟩ = some (.int .i64 0) := by rw [cell_heap h3.heap]; exact h3.c1
  clear d0 d2 e0 e1 hmp H1 HR1 HE1 HCH hp3 h3 hr3 he3 hch3
  go_wp2
  go_quiet ((go_at_call 147; exact Calls.quiet_of_same ((tryFull_none _ _ _ eof _ (by exact HE3.out)).mono fun e w' h => ⟨h.1, h.2.symm⟩)))
  have f1 : w3.frozen? ⟨tr, 1, none⟩ = false := frozen_heap H3.out.heap 1
  go_wp2_with fail
  have hch4 : Chg [tr] w3 ((w3.drewN nq).setCell ⟨tr, 1, none⟩ (.int .i64 0)) := ((Chg.refl _ w3).drewN nq).setCell (by simp) _
  have h4 : TarAt tr br rr 0 (cs.setIfInBounds 1 (.int .i64 0)) ((w3.drewN nq).setCell ⟨tr, 1, none⟩ (.int .i64 0)) := (H3.out.chg (Chg.drewNof nq) (by simp)).setPad 0
  have hr4 := HR3.out.chg hch4 (by simp; exact Ne.symm htb) (by simp; exact Ne.symm htd)
  have he4 := HE3.out.chg hch4 (by simp; exact h0.2)
  have hch5 := HCH3.out.trans (hch4.mono (S' := [br, tr]) (by simp))
  have H4 := Lib.hid h4; have HR4 := Lib.hid hr4; have HE4 := Lib.hid he4; have HCH5 := Lib.hid hch5
  clear t0 t1 f1 H3 HR3 HE3 HCH3 hch4 h4 hr4 he4 hch5
  refine (readHeader_eof tr br rr dr 0 _ D i eof _ H4.out HR4.out hi HZ.out htb htd HE4.out h0).mono ?_
  rintro e w5 ⟨rfl, hr5, ⟨cs5, ht5⟩, hc5⟩
  have HR5 := Lib.hid hr5; have HT5 := Lib.hid ht5; have HC5 := Lib.hid hc5
  clear hr5 ht5 hc5
  go_wp2
  go_ret2
  exact ⟨rfl, HR5.out, ⟨cs5, HT5.out⟩, HCH5.out.trans HC5.out⟩
end Go.Proofs.YtkanmkcojlefbaaGreatDoor
