/-
  files and Read of an archive that begins with two blocks of bytes 0.
-/
import Derived.Test.YtkanmkcojlefbaaGreatDoorNextEof
namespace Go.Proofs.YtkanmkcojlefbaaGreatDoor
open Go.RowKit
set_option linter.unusedVariables false

set_option maxRecDepth 100000 in
set_option maxHeartbeats 800000 in
theorem Next_eof (tr br rr dr : Nat) (cs : Array Value) (D : List UInt8) (i : Nat) (eof : Addr) (w : World) (h : TarAt tr br rr 0 cs w) (hr : RdrAt br dr D i w) (hi : i + 1024 ≤ D.length)
    (hrr : w.heap[rr]? = some (.cells #[.iface 84 (.pointer (some ⟨br, 0, none⟩)), .int .i64 0] 148 (0, 0)))
    (hz : (D.drop i).take 1024 = List.replicate 1024 0) (htb : tr ≠ br) (htd : tr ≠ dr) (he : Sent w 0 eof) (h0 : 0 ≠ br ∧ 0 ≠ tr) :
    Calls Tryz.prog 37 #[.pointer (some ⟨tr, 0, none⟩)] w fun e w' => e = .returned (.tuple #[.pointer none, .iface 245 (.pointer (some eof))]) ∧ Chg [br, tr] w w' := by
  have d515 : w.cell? ⟨tr, 515, none⟩ = some .nilIface := by rw [cell_heap h.heap]; exact h.c515
  have H := Lib.hid h; have HR := Lib.hid hr; have HE := Lib.hid he; have HZ := Lib.hid hz; have HRR := Lib.hid hrr
  clear h hr he hz hrr
  go_enter Tryz.func37, Tryz.ntmps37
  go_wp2_with fail
  refine (next_eof tr br rr dr cs D i eof _ H.out HR.out hi HRR.out HZ.out htb htd HE.out h0).mono ?_
  rintro e w5 ⟨rfl, hr5, ⟨cs5, ht5⟩, hc5⟩
  have hsz := ht5.size
  have c515 : w5.cell? ⟨tr, 515, none⟩ = some .nilIface := by rw [cell_heap ht5.heap]; exact ht5.c515
  have f515 : w5.frozen? ⟨tr, 515, none⟩ = false := frozen_heap ht5.heap 515
  have HC5 := Lib.hid hc5
  clear hr5 ht5 hc5
  go_wp2
  go_ret2
  exact ⟨rfl, HC5.out.setCell (by simp) _⟩

set_option maxHeartbeats 400000 in
theorem end_nil (w : World) :
    Calls Tryz.prog 33 #[.nilIface] w fun e w' => e = .returned (.int .i64 0) ∧ w = w' := by
  go_enter Tryz.func33, Tryz.ntmps33
  go_wp2
  go_ret
  exact ⟨rfl, rfl⟩

set_option maxHeartbeats 400000 in
theorem end_eof (a : Addr) (w : World) (h : Sent w 0 a) :
    Calls Tryz.prog 33 #[.iface 245 (.pointer (some a))] w fun e w' => e = .returned (.int .i64 1) ∧ w = w' := by
  unfold Sent at h
  have he := fun w => eql_same a w
  go_enter Tryz.func33, Tryz.ntmps33
  go_wp2
  go_ret
  exact ⟨rfl, rfl⟩

set_option maxHeartbeats 400000 in
theorem zero_any (g o : Nat) (n c : Nat) (w : World) (hn : n ≤ 9223372036854775807) (h : ∀ j, j < n → w.cell? ⟨g, o + j, none⟩ = some (.int .u8 0)) :
    Calls Tryz.prog 42 #[.slice (some ⟨g, o, none⟩) n c] w fun e w' => e = .returned (.bool true) ∧ w = w' := by
  have H := Lib.hid h; clear h
  go_enter Tryz.func42, Tryz.ntmps42
  go_wp2
  go_loop [7] (fun i => ∃ k : Nat, k ≤ n ∧ i = .int .i64 k) (fun i => n - (intOf i).toNat)
  case atStart => exact ⟨0, by omega, rfl⟩
  case round =>
    obtain ⟨k, hk, rfl⟩ := hrel
    by_cases hlt : k < n
    · have hc := H.out k hlt
      go_wp2
      go_round
      case rel => exact ⟨k + 1, by omega, by go_num⟩
      case measure => simp [intOf]; omega
    · go_wp2
      go_ret
      exact ⟨rfl, rfl⟩

set_option maxRecDepth 100000 in
set_option maxHeartbeats 800000 in
theorem files_eof (tr br rr dr : Nat) (cs : Array Value) (D : List UInt8) (i : Nat) (eof : Addr) (lim : Int) (w : World) (h : TarAt tr br rr 0 cs w) (hr : RdrAt br dr D i w) (hi : i + 1024 ≤ D.length)
    (hrr : w.heap[rr]? = some (.cells #[.iface 84 (.pointer (some ⟨br, 0, none⟩)), .int .i64 0] 148 (0, 0)))
    (hz : (D.drop i).take 1024 = List.replicate 1024 0) (htb : tr ≠ br) (htd : tr ≠ dr) (he : Sent w 0 eof) (h0 : 0 ≠ br ∧ 0 ≠ tr) :
    Calls Tryz.prog 46 #[.pointer (some ⟨tr, 0, none⟩), .int .i64 lim] w fun e w' => e = .returned (.tuple #[.slice none 0 0, .int .i64 1]) ∧ Chg [br, tr] w w' := by
  have H := Lib.hid h; have HR := Lib.hid hr; have HE := Lib.hid he; have HZ := Lib.hid hz; have HRR := Lib.hid hrr
  clear h hr he hz hrr
  go_enter Tryz.func46, Tryz.ntmps46
  go_wp2
  refine wp_loop_rounds 1 ?_
  rw [rounds_succ]
  go_wp2_with fail
  refine (Next_eof tr br rr dr cs D i eof _ H.out HR.out hi HRR.out HZ.out htb htd HE.out h0).mono ?_
  rintro e w5 ⟨rfl, hc5⟩
  have he5 := HE.out.chg hc5 (by simp; exact h0)
  have HE5 := Lib.hid he5
  have HC5 := Lib.hid hc5
  clear hc5 he5
  go_wp2_with (go_at_call 33; refine (end_eof eof _ HE5.out).mono ?_; rintro e w6 ⟨rfl, rfl⟩)
  go_ret2
  exact ⟨rfl, HC5.out⟩

set_option maxRecDepth 100000 in
set_option maxHeartbeats 800000 in
theorem newBytes (a : Option Addr) (n c : Nat) (w : World) :
    Calls Tryz.prog 35 #[.slice a n c] w fun e w' => e = .returned (.pointer (some ⟨w.heap.size, 0, none⟩)) ∧ w' = w.alloc (.cells #[.slice a n c, .int .i64 0, .int .i64 (-1)] 154) := by
  go_enter Tryz.func35, Tryz.ntmps35
  go_wp2
  go_ret
  exact ⟨rfl, rfl⟩

theorem zero152 : Tryz.zeroCells152.size = 516 ∧ Tryz.zeroCells152[1]? = some (.int .i64 0) ∧ Tryz.zeroCells152[515]? = some .nilIface := by
  refine ⟨by kernel_rfl, by kernel_rfl, by kernel_rfl⟩

set_option maxRecDepth 100000 in
set_option maxHeartbeats 800000 in
theorem newTar (b : Nat) (w : World) :
    Calls Tryz.prog 34 #[.iface 84 (.pointer (some ⟨b, 0, none⟩))] w fun e w' => ∃ cs, e = .returned (.pointer (some ⟨w.heap.size + 1, 0, none⟩)) ∧ TarAt (w.heap.size + 1) b w.heap.size 0 cs w' ∧
      w'.heap[w.heap.size]? = some (.cells #[.iface 84 (.pointer (some ⟨b, 0, none⟩)), .int .i64 0] 148 (0, 0)) ∧ Chg [] w w' := by
  have hz := zero152
  have HZ := Lib.hid hz; clear hz
  go_enter Tryz.func34, Tryz.ntmps34
  go_wp2
  go_ret
  have hz := HZ.out
  refine ⟨_, rfl, ⟨heap_alloc2_new _ _ _, ?_, ?_, ?_, ?_, ?_⟩, ?_, ((Chg.refl _ w).alloc _).alloc _⟩
  · simp
  · rw [Array.getElem?_setIfInBounds_ne (by omega), Array.getElem?_setIfInBounds_self, if_pos (by rw [hz.1]; omega)]
  · rw [Array.getElem?_setIfInBounds_ne (by omega), Array.getElem?_setIfInBounds_ne (by omega)]; exact hz.2.1
  · rw [Array.getElem?_setIfInBounds_self, if_pos (by simp)]
  · rw [Array.getElem?_setIfInBounds_ne (by omega), Array.getElem?_setIfInBounds_ne (by omega)]; exact hz.2.2
  · rw [Below.heap_alloc _ _ _ (by simp)]; exact heap_alloc_new _ _

/-- bytes.Clone of a row: a row of its own. -/
theorem clone_row (g c : Nat) (D : List UInt8) (w : World) (hD : D.length ≤ 140737488355328) (hg : ∀ j, j < D.length → w.cell? ⟨g, j, none⟩ = (D[j]?).map bv) :
    Calls Tryz.prog 36 #[.slice (some ⟨g, 0, none⟩) D.length c] w fun e w' => ∃ dr cap cur, e = .returned (.slice (some ⟨dr, 0, none⟩) D.length cap) ∧ w'.heap[dr]? = some (.cells cur 5 (0, 0)) ∧ D.length ≤ cap ∧ cap ≤ maxLen ∧ cur.size = cap ∧
      cur.toList.take D.length = bvs D ∧ w.heap.size ≤ dr ∧ Below w.heap.size w w' := by
  refine (Tryz.bytes_Clone_at ⟨g, 0, none⟩ D.length c (D.map fun c => (c.toNat : Int)) w (by simp) hD (fun i hi => ?_)).mono ?_
  · rw [add_addr, Nat.zero_add, hg i hi]
    simp [List.getD, hi]
  rintro e w1 ⟨v, rfl, hown, hv, hb1⟩
  rcases hown.2 with ⟨rfl, _⟩ | ⟨g1, cap, cur, rfl, hB, hh, h1, h2, h3, h4⟩
  · exact absurd rfl hv
  · exact ⟨g1, cap, cur, rfl, hh, h1, h2, by simpa using h3, by rw [Nat.mul_one] at h4; rw [h4]; simp [bvs], hB, hb1⟩

set_option maxRecDepth 100000 in
set_option maxHeartbeats 800000 in
/-- Read of an archive that begins with two blocks of bytes 0. -/
theorem read_eof (g c : Nat) (D : List UInt8) (eof : Addr) (lim : Int) (w : World) (hD : D.length ≤ 140737488355328) (hg : ∀ j, j < D.length → w.cell? ⟨g, j, none⟩ = (D[j]?).map bv)
    (hi : 1024 ≤ D.length) (hz : D.take 1024 = List.replicate 1024 0) (he : Sent w 0 eof) :
    Calls Tryz.prog 15 #[.slice (some ⟨g, 0, none⟩) D.length c, .int .i64 lim] w fun e w' => e = .returned (.tuple #[.slice none 0 0, .int .i64 1]) ∧ Chg [] w w' := by
  have hs0 : 0 < w.heap.size := (World.block_lt_of_cell? w _ he)
  have HG := Lib.hid hg; have HZ := Lib.hid hz; have HE := Lib.hid he
  clear hg hz he
  go_enter Tryz.func15, Tryz.ntmps15
  go_wp2_with fail
  refine (clone_row g c D _ hD HG.out).mono ?_
  rintro e w1 ⟨dr, cap, cur, rfl, hdr, hle, hcap, hcs, htk, hBdr, hb1⟩
  have hch1 := Chg.ofBelow hb1
  have hdl : dr < w1.heap.size := (Array.getElem?_eq_some_iff.1 hdr).1
  have HDR := Lib.hid hdr; have HTK := Lib.hid htk; have HCH1 := Lib.hid hch1; have HCS := Lib.hid hcs
  clear hb1 hdr htk hch1 hcs
  go_wp2_with fail
  refine (newBytes _ _ _ _).mono ?_
  rintro e w2 ⟨rfl, hw2⟩
  have hbr2 : w2.heap[w1.heap.size]? = some (.cells #[.slice (some ⟨dr, 0, none⟩) D.length cap, .int .i64 0, .int .i64 (-1)] 154 (0, 0)) := by rw [hw2]; exact heap_alloc_new _ _
  have hch2 : Chg [] w1 w2 := by rw [hw2]; exact (Chg.refl _ w1).alloc _
  have hs2 : w2.heap.size = w1.heap.size + 1 := by rw [hw2]; simp
  have hr2 : RdrAt w1.heap.size dr D 0 w2 := ⟨by omega, hD, Nat.zero_le _, cap, -1, cur, hbr2, hle, hcap, hch2.heap HDR.out (by simp), HCS.out, HTK.out⟩
  have HR2 := Lib.hid hr2; have HCH2 := Lib.hid (HCH1.out.trans hch2); have HS2 := Lib.hid hs2
  clear hw2 hbr2 hch2 hr2 hs2
  go_wp2_with fail
  refine (newTar _ _).mono ?_
  rintro e w3 ⟨cs, rfl, ht3, hrr3, hc3⟩
  have hwl : w.heap.size ≤ w1.heap.size := HCH1.out.size
  have hr3 := HR2.out.chg hc3 (by simp) (by simp)
  have hch3 := HCH2.out.trans hc3
  have HR3 := Lib.hid hr3; have HT3 := Lib.hid ht3; have HRR3 := Lib.hid hrr3; have HCH3 := Lib.hid hch3
  clear hr3 ht3 hrr3 hch3 hc3 HR2 HCH2
  go_wp2_with fail
  have hbs := HS2.out
  refine (files_eof (w2.heap.size + 1) w1.heap.size w2.heap.size dr cs D 0 eof lim _ HT3.out HR3.out (by omega) HRR3.out (by simpa using HZ.out) (by omega) (by omega) (HE.out.chg HCH3.out (by simp)) ⟨by omega, by omega⟩).mono ?_
  rintro e w4 ⟨rfl, hc4⟩
  have HC4 := Lib.hid hc4
  clear hc4 hbs
  go_wp2
  go_ret2
  exact ⟨rfl, HCH3.out.transFresh HC4.out (by
    intro i hi
    have := HS2.out
    simp at hi
    rcases hi with rfl | rfl
    · exact .inr (by omega)
    · exact .inr (by omega))⟩
end Go.Proofs.YtkanmkcojlefbaaGreatDoor
