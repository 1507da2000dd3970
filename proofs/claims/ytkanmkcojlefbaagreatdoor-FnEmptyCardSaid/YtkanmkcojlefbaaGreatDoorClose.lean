/-
  Writer over a bytes.Buffer: Close; Write of no file.
-/
import Derived.Test.YtkanmkcojlefbaaGreatDoorFlush
namespace Go.Proofs.YtkanmkcojlefbaaGreatDoor
open Go.RowKit
set_option linter.unusedVariables false

theorem keepC {tw b rw : Nat} {p nb : Int} {cs : Array Value} {B : Nat} {w1 w' : World} (h : WrAt tw b rw p nb cs w1) (k : FrW B [b] w1 w') (htb : tw ≠ b) (hrb : rw ≠ b) :
    w'.cell? ⟨tw, 0, none⟩ = some (.iface 75 (.pointer (some ⟨b, 0, none⟩))) ∧ FrW B [b] w1 w' := by
  have h' := h.frame k (by simp; exact htb) (by simp; exact hrb)
  exact ⟨(cell_heap h'.heap 0).trans h'.c0, k⟩

set_option maxRecDepth 100000 in
set_option maxHeartbeats 1600000 in
theorem close_any (tw b rw p : Nat) (nb : Int) (cs : Array Value) (B : Nat) (bs : List UInt8) (wac : Addr) (w : World) (h : WrAt tw b rw p nb cs w) (hp : p ≤ 512) (hnb : nb ≤ 0) (htb : tw ≠ b) (htr : tw ≠ rw) (hrb : rw ≠ b)
    (hI : Lib.IsBuffer 70 5 B b (bvs bs) w) (hB : B ≤ w.heap.size) (hBt : B ≤ tw) (hlim : bs.length + p + 1024 ≤ 140737488355328) (he : Sent w 4 wac) (hB4 : 4 < B) :
    Calls Tryz.prog 41 #[.pointer (some ⟨tw, 0, none⟩)] w fun e w' => e = .returned .nilIface ∧
      Lib.IsBuffer 70 5 B b (bvs (bs ++ List.replicate p 0 ++ List.replicate 1024 0)) w' ∧ FrW B [tw, b] w w' := by
  have d535 : w.cell? ⟨tw, 535, none⟩ = some .nilIface := by rw [cell_heap h.heap]; exact h.c535
  have e4 : w.cell? ⟨4, 0, none⟩ = some (.iface 245 (.pointer (some wac))) := he
  have H := Lib.hid h; have HI := Lib.hid hI; have HE := Lib.hid he
  clear h hI he
  have hnl := eql_nil
  go_enter Tryz.func41, Tryz.ntmps41
  go_wp2
  go_quiet (fail)
  go_wp2_with fail
  refine (flush_any tw b rw p nb cs B bs _ (H.out.frame (FrW.ofChg (Chg.drewNof _) hB (by simp)) (by simp) (by simp)) hp hnb htb htr hrb (by exact HI.out.drewN _) (by exact hB) hBt (by omega)).mono ?_
  rintro e w1 ⟨rfl, ⟨cs1, h1, _⟩, hI1, hf1⟩
  have hf1' : FrW B [tw, b] w w1 := (FrW.ofChg ((Chg.drewNof _).mono (by simp)) hB (by simp; exact ⟨hBt, HI.out.1⟩)).trans hf1
  have H1 := Lib.hid h1; have HI1 := Lib.hid hI1; have HF1 := Lib.hid hf1'
  clear h1 hI1 hf1 hf1' d535 e4 H HI
  go_wp2
  have hBb : B ≤ b := HI1.out.1
  refine wp_loop_rounds 3 ?_
  rw [rounds_succ]
  go_wp2
  have d0 : w1.cell? ⟨tw, 0, none⟩ = some (.iface 75 (.pointer (some ⟨b, 0, none⟩))) := by rw [cell_heap H1.out.heap]; exact H1.out.c0
  have hbl : b < w1.heap.size := HI1.out.lt
  have hB1 : B ≤ w1.heap.size := by have := HF1.out.below.size; omega
  go_region_held3 (fun w' => w'.cell? ⟨tw, 0, none⟩ = some (.iface 75 (.pointer (some ⟨b, 0, none⟩))) ∧ FrW B [b] w1 w') (first | exact keepC H1.out (FrW.refl _ _ _) htb hrb | exact keepC H1.out (FrW.ofChg (Chg.refl _ w1).drew hB1 (by simp; exact hBb)) htb hrb | exact keepC H1.out (FrW.ofChg ((Chg.refl _ w1).alloc _) hB1 (by simp; exact hBb)) htb hrb | exact keepC H1.out (FrW.ofChg ((Chg.refl _ w1).alloc _).drew hB1 (by simp; exact hBb)) htb hrb | exact keepC H1.out (by assumption) htb hrb) ((first | (go_at_call 284; refine (Tryz.Buffer_Write_any B b (bvs (bs ++ List.replicate p 0)) (bvs (List.replicate 512 0)) ⟨w1.heap.size, 0, none⟩ 512 512 _ (by exact (HI1.out.alloc _).drew) (by simp; omega) (bvs_one _) (by simp) (by show w1.heap.size ≠ b; omega) (by exact zeros_new w1 512 (by omega)) (bvs_one _) (by simp; omega)).mono ?_; rintro e w2 ⟨rfl, hI2, hb2, hk2⟩; have hf2 : FrW B [b] w1 w2 := FrW.trans (FrW.ofChg ((Chg.refl _ w1).alloc _).drew hB1 (by simp; exact hBb)) (FrW.ofKept hb2 hk2); rw [← bvs_append] at hI2; have HI2 := Lib.hid hI2; clear hI2 hb2 hk2)))
  have HF2 := Lib.hid hf2
  clear hf2 d0 hbl hB1
  have h2 := H1.out.frame HF2.out (by simp; exact htb) (by simp; exact hrb)
  have hf12 : FrW B [tw, b] w w2 := HF1.out.trans (HF2.out.mono (by simp))
  have H2 := Lib.hid h2; have HF12 := Lib.hid hf12
  clear h2 hf12 H1 HI1 HF1 HF2
  go_wp2
  rw [rounds_succ]
  go_wp2
  have d0 : w2.cell? ⟨tw, 0, none⟩ = some (.iface 75 (.pointer (some ⟨b, 0, none⟩))) := by rw [cell_heap H2.out.heap]; exact H2.out.c0
  have hbl : b < w2.heap.size := HI2.out.lt
  have hB1 : B ≤ w2.heap.size := by have := HF12.out.below.size; omega
  go_region_held3 (fun w' => w'.cell? ⟨tw, 0, none⟩ = some (.iface 75 (.pointer (some ⟨b, 0, none⟩))) ∧ FrW B [b] w2 w') (first | exact keepC H2.out (FrW.refl _ _ _) htb hrb | exact keepC H2.out (FrW.ofChg (Chg.refl _ w2).drew hB1 (by simp; exact hBb)) htb hrb | exact keepC H2.out (FrW.ofChg ((Chg.refl _ w2).alloc _) hB1 (by simp; exact hBb)) htb hrb | exact keepC H2.out (FrW.ofChg ((Chg.refl _ w2).alloc _).drew hB1 (by simp; exact hBb)) htb hrb | exact keepC H2.out (by assumption) htb hrb) ((first | (go_at_call 284; refine (Tryz.Buffer_Write_any B b (bvs (bs ++ List.replicate p 0 ++ List.replicate 512 0)) (bvs (List.replicate 512 0)) ⟨w2.heap.size, 0, none⟩ 512 512 _ (by exact (HI2.out.alloc _).drew) (by simp; omega) (bvs_one _) (by simp) (by show w2.heap.size ≠ b; omega) (by exact zeros_new w2 512 (by omega)) (bvs_one _) (by simp; omega)).mono ?_; rintro e w3 ⟨rfl, hI2, hb2, hk2⟩; have hf2 : FrW B [b] w2 w3 := FrW.trans (FrW.ofChg ((Chg.refl _ w2).alloc _).drew hB1 (by simp; exact hBb)) (FrW.ofKept hb2 hk2); have HI3 := Lib.hid hI2; clear hI2 hb2 hk2)))
  have HF2 := Lib.hid hf2
  clear hf2 d0 hbl hB1
  have h2 := H2.out.frame HF2.out (by simp; exact htb) (by simp; exact hrb)
  have hf12 : FrW B [tw, b] w w3 := HF12.out.trans (HF2.out.mono (by simp))
  have H3 := Lib.hid h2; have HF23 := Lib.hid hf12
  clear h2 hf12 H2 HI2 HF12 HF2
  go_wp2
  rw [rounds_succ]
  have e4 : w3.cell? ⟨4, 0, none⟩ = some (.iface 245 (.pointer (some wac))) := (HF23.out.below.cell (p := ⟨4, 0, none⟩) hB4).trans HE.out
  have f535 : w3.frozen? ⟨tw, 535, none⟩ = false := frozen_heap H3.out.heap 535
  have d535 : w3.cell? ⟨tw, 535, none⟩ = some .nilIface := by rw [cell_heap H3.out.heap]; exact H3.out.c535
  go_wp2
  go_ret
  refine ⟨rfl, ?_, HF23.out.setCell (by simp) hBt _⟩
  have := isBuf_setOther HI3.out H3.out.heap (by decide) htb 535 (.iface 245 (.pointer (some wac)))
  have e1 : bs ++ List.replicate p 0 ++ List.replicate 1024 0 = bs ++ List.replicate p 0 ++ List.replicate 512 0 ++ List.replicate 512 (0 : UInt8) := by
    rw [List.append_assoc (bs ++ List.replicate p 0), List.replicate_append_replicate]
  rw [e1, bvs_append]
  exact this
end Go.Proofs.YtkanmkcojlefbaaGreatDoor
