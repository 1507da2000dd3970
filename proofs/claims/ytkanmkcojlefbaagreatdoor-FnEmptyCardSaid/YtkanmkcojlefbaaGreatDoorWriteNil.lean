/-
  Write of no file: two blocks of bytes 0.
-/
import Derived.Test.YtkanmkcojlefbaaGreatDoorClose
import Derived.Test.YtkanmkcojlefbaaGreatDoorReadEof
namespace Go.Proofs.YtkanmkcojlefbaaGreatDoor
open Go.RowKit
set_option linter.unusedVariables false

theorem zero134 : Tryz.zeroCells134.size = 536 ∧ Tryz.zeroCells134[1]? = some (.int .i64 0) ∧ Tryz.zeroCells134[535]? = some .nilIface := by
  refine ⟨by kernel_rfl, by kernel_rfl, by kernel_rfl⟩

set_option maxRecDepth 100000 in
set_option maxHeartbeats 800000 in
theorem newWriter (b : Nat) (w : World) :
    Calls Tryz.prog 29 #[.iface 75 (.pointer (some ⟨b, 0, none⟩))] w fun e w' => ∃ cs, e = .returned (.pointer (some ⟨w.heap.size + 1, 0, none⟩)) ∧ WrAt (w.heap.size + 1) b w.heap.size 0 0 cs w' ∧ Chg [] w w' := by
  have hz := zero134
  have HZ := Lib.hid hz; clear hz
  go_enter Tryz.func29, Tryz.ntmps29
  go_wp2
  go_ret
  have hz := HZ.out
  refine ⟨_, rfl, ⟨heap_alloc2_new _ _ _, ?_, ?_, ?_, ?_, ?_, ?_⟩, ((Chg.refl _ w).alloc _).alloc _⟩
  · simp
  · rw [Array.getElem?_setIfInBounds_ne (by omega), Array.getElem?_setIfInBounds_self, if_pos (by rw [hz.1]; omega)]
  · rw [Array.getElem?_setIfInBounds_ne (by omega), Array.getElem?_setIfInBounds_ne (by omega)]; exact hz.2.1
  · rw [Array.getElem?_setIfInBounds_self, if_pos (by simp)]
  · rw [Array.getElem?_setIfInBounds_ne (by omega), Array.getElem?_setIfInBounds_ne (by omega)]; exact hz.2.2
  · rw [Below.heap_alloc _ _ _ (by simp)]; exact heap_alloc_new _ _

/-- What Bytes hands back of a buffer that holds a byte: a row with these bytes. -/
theorem bytes_row (B b : Nat) (bs : List UInt8) (w : World) (h0 : 0 < bs.length) (h : Lib.IsBuffer 70 5 B b (bvs bs) w) :
    Calls Tryz.prog 32 #[.pointer (some ⟨b, 0, none⟩)] w fun e w' => ∃ g cap, e = .returned (.slice (some ⟨g, 0, none⟩) bs.length cap) ∧ (∀ j, j < bs.length → w'.cell? ⟨g, j, none⟩ = (bs[j]?).map bv) ∧ bs.length ≤ cap ∧ cap ≤ maxLen ∧ Chg [] w w' := by
  refine (Tryz.Buffer_Bytes B b (bvs bs) w h).mono ?_
  rintro e w' ⟨v, rfl, hown, n, rfl⟩
  rw [bvs_length] at hown
  rcases hown.2 with ⟨rfl, h1⟩ | ⟨g, cap, cur, rfl, hB, hg, h1, h2, h3, h4⟩
  · omega
  · refine ⟨g, cap, rfl, fun j hj => ?_, h1, h2, Chg.drewNof n⟩
    rw [cell_heap hg, ← bvs_get, ← h4, List.getElem?_take, if_pos (by omega)]
    simp

set_option maxRecDepth 100000 in
set_option maxHeartbeats 800000 in
theorem write_nil (wac : Addr) (w : World) (he : Sent w 4 wac) :
    Calls Tryz.prog 13 #[.slice none 0 0] w fun e w' => ∃ g cap, e = .returned (.tuple #[.slice (some ⟨g, 0, none⟩) 1024 cap, .int .i64 0]) ∧
      (∀ j, j < 1024 → w'.cell? ⟨g, j, none⟩ = some (.int .u8 0)) ∧ 1024 ≤ cap ∧ cap ≤ maxLen ∧ Below w.heap.size w w' := by
  have h4 : 4 < w.heap.size := World.block_lt_of_cell? w _ he
  have HE := Lib.hid he
  clear he
  go_enter Tryz.func13, Tryz.ntmps13
  go_wp2_with fail
  have hI := Lib.fresh_isBuffer 70 5 w
  have hch : Chg [] w (w.alloc (.cells #[.slice none 0 0, .int .i64 0, .int .i8 0] 70)) := (Chg.refl _ w).alloc _
  have hs : (w.alloc (.cells #[.slice none 0 0, .int .i64 0, .int .i8 0] 70)).heap.size = w.heap.size + 1 := by simp
  generalize w.alloc (.cells #[.slice none 0 0, .int .i64 0, .int .i8 0] 70) = w1 at *
  have HI := Lib.hid hI; have HCH := Lib.hid hch; have HS := Lib.hid hs
  clear hI hch hs
  refine (newWriter w.heap.size w1).mono ?_
  rintro e w2 ⟨cs, rfl, h2, hc2⟩
  have H2 := Lib.hid h2; have HC2 := Lib.hid hc2
  clear h2 hc2
  go_wp2
  refine wp_loop_rounds 1 ?_
  rw [rounds_succ]
  go_wp2_with fail
  have hs := HS.out
  have hI2 : Lib.IsBuffer 70 5 w.heap.size w.heap.size (bvs []) w2 := Lib.IsBuffer.old HI.out (Chg.below HC2.out (Nat.le_refl _) (by simp))
  have hz2 : w1.heap.size ≤ w2.heap.size := HC2.out.size
  refine (close_any (w1.heap.size + 1) w.heap.size w1.heap.size 0 0 cs w.heap.size [] wac w2 H2.out (by omega) (by omega) (by omega) (by omega) (by omega) hI2 (by omega) (by omega) (by simp) (HE.out.chg (HCH.out.trans HC2.out) (by simp)) h4).mono ?_
  rintro e w3 ⟨rfl, hI3, hf3⟩
  have hb3 : Below w.heap.size w w3 := ((HCH.out.trans HC2.out).below (Nat.le_refl _) (by simp)).trans hf3.below
  have HI3 := Lib.hid hI3; have HB3 := Lib.hid hb3
  clear hs hI2 hz2 hI3 hf3 hb3
  go_wp2_with fail
  refine (bytes_row w.heap.size w.heap.size _ w3 (by simp) HI3.out).mono ?_
  rintro e w4 ⟨g, cap, rfl, hc4, hl4, hm4, hch4⟩
  have HC4 := Lib.hid hc4; have HCH4 := Lib.hid hch4
  clear hc4 hch4
  go_wp2_with (go_at_call 33; refine (end_nil _).mono ?_; rintro e w5 ⟨rfl, rfl⟩)
  go_ret2
  refine ⟨g, cap, rfl, ?_, by simpa using hl4, hm4, HB3.out.trans (HCH4.out.below HB3.out.size (by simp))⟩
  intro j hj
  have := HC4.out j (by simpa using hj)
  rw [this, List.nil_append, List.replicate_zero, List.nil_append, List.getElem?_replicate, if_pos hj]
  rfl
end Go.Proofs.YtkanmkcojlefbaaGreatDoor
