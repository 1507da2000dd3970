/-
  FnEmpty: the walk.
-/
import Derived.Test.YtkanmkcojlefbaaGreatDoorWriteNil
namespace Go.Proofs.YtkanmkcojlefbaaGreatDoor
open Go.RowKit
set_option linter.unusedVariables false

set_option maxHeartbeats 400000 in
theorem below_any (x : Int) (w : World) (h0 : -9223372036854775808 ≤ x) (h1 : x ≤ 9223372036854775807) :
    Calls Tryz.prog 16 #[.int .i64 x, .int .i64 4096] w fun e w' => (∃ r : Int, e = .returned (.int .i64 r)) ∧ w = w' := by
  go_enter Tryz.func16, Tryz.ntmps16
  go_wp2
  all_goals
    go_ret
    exact ⟨⟨_, rfl⟩, rfl⟩

set_option maxRecDepth 100000 in
set_option maxHeartbeats 800000 in
theorem decode_zeros (g c : Nat) (w : World) (hc : 1024 ≤ c) (hcm : c ≤ maxLen) (h : ∀ j, j < 1024 → w.cell? ⟨g, j, none⟩ = some (.int .u8 0)) :
    Calls Tryz.prog 14 #[.slice (some ⟨g, 0, none⟩) 1024 c] w fun e w' => e = .returned (.tuple #[.slice none 0 0, .bool true]) ∧ w = w' := by
  unfold maxLen at hcm
  have H := Lib.hid h; clear h
  go_enter Tryz.func14, Tryz.ntmps14
  go_wp2
  refine wp_loop_rounds 1 ?_
  rw [rounds_succ]
  go_wp2_with fail
  refine (zero_any g 0 512 _ _ (by omega) (fun j hj => by rw [Nat.zero_add]; exact H.out j (by omega))).mono ?_
  rintro e w1 ⟨rfl, rfl⟩
  go_wp2_with fail
  refine (zero_any g 512 512 _ _ (by omega) (fun j hj => H.out (512 + j) (by omega))).mono ?_
  rintro e w1 ⟨rfl, rfl⟩
  go_wp2
  go_ret2
  exact ⟨rfl, rfl⟩

set_option maxRecDepth 100000 in
set_option maxHeartbeats 800000 in
theorem empty_walk (lim : Int) (eof wac : Addr) (w : World) (h0 : -9223372036854775808 ≤ lim) (h1 : lim ≤ 9223372036854775807) (he : Sent w 0 eof) (hw : Sent w 4 wac) :
    Calls Tryz.prog 4 #[.int .i64 lim] w fun e w' => e = .returned (.bool true) ∧ Below w.heap.size w w' := by
  have h4 : 4 < w.heap.size := World.block_lt_of_cell? w _ hw
  have HE := Lib.hid he; have HW := Lib.hid hw
  clear he hw
  go_enter Tryz.func4, Tryz.ntmps4
  go_wp2_with fail
  refine (write_nil wac _ HW.out).mono ?_
  rintro e w1 ⟨g, cap, rfl, hz, hc1, hc2, hb⟩
  have HZ := Lib.hid hz; have HB := Lib.hid hb
  clear hz hb
  go_wp2_with fail
  refine (decode_zeros g cap _ hc1 hc2 HZ.out).mono ?_
  rintro e w2 ⟨rfl, rfl⟩
  go_wp2_with fail
  refine (below_any lim _ h0 h1).mono ?_
  rintro e w2 ⟨⟨r, rfl⟩, rfl⟩
  go_wp2_with fail
  obtain ⟨Z, hZ⟩ : ∃ Z : List UInt8, Z = List.replicate 1024 0 := ⟨_, rfl⟩
  have hl : Z.length = 1024 := by rw [hZ]; simp
  have q := read_eof g cap Z eof r w1 (by omega) (fun j hj => by rw [HZ.out j (by omega), hZ, List.getElem?_replicate, if_pos (by omega)]; rfl) (by omega) (by rw [← hZ]; exact List.take_of_length_le (by omega))
    ((HB.out.cell (p := ⟨0, 0, none⟩) (by show 0 < w.heap.size; omega)).trans HE.out)
  rw [hl] at q
  clear hZ hl
  refine q.mono ?_
  rintro e w2 ⟨rfl, hc⟩
  have HC := Lib.hid hc
  clear hc q
  go_wp2
  go_ret
  exact ⟨rfl, HB.out.trans (HC.out.below HB.out.size (by simp))⟩
end Go.Proofs.YtkanmkcojlefbaaGreatDoor
