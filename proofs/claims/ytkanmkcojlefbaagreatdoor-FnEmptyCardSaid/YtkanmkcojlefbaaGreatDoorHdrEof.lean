/-
  readHeader at the end of the archive: two blocks of bytes 0.
-/
import Derived.Test.YtkanmkcojlefbaaGreatDoorFull
import Derived.Test.YtkanmkcojlefbaaGreatDoorShelf
namespace Go.Proofs.YtkanmkcojlefbaaGreatDoor
open Go.RowKit
set_option linter.unusedVariables false

theorem zero132 : Tryz.zeroCells132 = (bvs (List.replicate 512 0)).toArray := by kernel_rfl

/-- A tar.Reader in block tr over the bytes.Reader br, its current file's reader in block rr; 'err' is nil. -/
structure TarAt (tr br rr : Nat) (pad : Int) (cs : Array Value) (w : World) : Prop where
  heap : w.heap[tr]? = some (.cells cs 152 (0, 0))
  size : cs.size = 516
  c0 : cs[0]? = some (.iface 84 (.pointer (some ⟨br, 0, none⟩)))
  c1 : cs[1]? = some (.int .i64 pad)
  c2 : cs[2]? = some (.iface 146 (.pointer (some ⟨rr, 0, none⟩)))
  c515 : cs[515]? = some .nilIface

theorem row_equal (p q : Addr) (n m c d : Nat) (xs ys : List UInt8) (w : World) (hx : xs.length = n) (hy : ys.length = m) (h1 : ∀ i, i < xs.length → w.cell? (p.add i) = (xs[i]?).map bv) (h2 : ∀ i, i < ys.length → w.cell? (q.add i) = (ys[i]?).map bv) :
    Calls Tryz.prog 197 #[.slice (some p) n c, .slice (some q) m d] w fun e w' => e = .returned (.bool (xs == ys)) ∧ w = w' := by
  subst hx; subst hy
  have hb : ∀ l : List UInt8, Lib.bytesOf (l.map fun c => (c.toNat : Int)) = l := by
    intro l; rw [Lib.bytesOf, List.map_map]
    exact (List.map_congr_left (g := id) (fun x _ => by simp)).trans (by simp)
  have hg : ∀ (l : List UInt8) i, i < l.length → (l.map fun c => (c.toNat : Int)).getD i 0 = (l[i]?.map fun c => (c.toNat : Int)).getD 0 := by
    intro l i hi; simp [List.getD]
  refine (Tryz.bytes_Equal_all (some p) (some q) xs.length c ys.length d (xs.map fun c => (c.toNat : Int)) (ys.map fun c => (c.toNat : Int)) w (by simp) (by simp) (Lib.BytesIn.of_cells fun i hi => ?_) (Lib.BytesIn.of_cells fun i hi => ?_)).mono ?_
  · rw [h1 i hi, hg xs i hi, List.getElem?_eq_getElem hi]; rfl
  · rw [h2 i hi, hg ys i hi, List.getElem?_eq_getElem hi]; rfl
  · rintro e w' ⟨rfl, rfl⟩; rw [hb, hb]; exact ⟨rfl, rfl⟩

theorem zero_row (w : World) (Z : List UInt8) (hZ : Z = List.replicate 512 0) (i : Nat) : (w.alloc (.cells Tryz.zeroCells132 132)).cell? ((⟨w.heap.size, 0, none⟩ : Addr).add i) = (Z[i]?).map bv := by
  rw [add_addr, Nat.zero_add, World.cell?_alloc_new, zero132, ← hZ, List.getElem?_toArray, bvs_get]

/-- A row of the reader's block, read. -/
theorem blk_row {w : World} {tr : Nat} {cs : Array Value} {t : TypeId} (Z : List UInt8) (hs : 3 + Z.length ≤ cs.size) (h : w.heap[tr]? = some (.cells (splice cs.toList 3 (bvs Z)).toArray t (0, 0))) (i : Nat) (hi : i < Z.length) :
    w.cell? ((⟨tr, 3, none⟩ : Addr).add i) = (Z[i]?).map bv := by
  rw [add_addr, cell_heap h]
  have := splice_get cs.toList 3 (bvs Z) (by simpa using hs) (3 + i)
  rw [List.getElem?_toArray, this, if_pos (by simp; omega), bvs_get]
  congr 2; omega

theorem RdrAt.chg {br dr : Nat} {D : List UInt8} {i : Nat} {S : List Nat} {w w' : World} (h : RdrAt br dr D i w) (hc : Chg S w w') (h1 : br ∉ S) (h2 : dr ∉ S) : RdrAt br dr D i w' := by
  obtain ⟨hne, hD, hi, cap, pr, cur, hbr, hc1, hc2, hdr, hcs, htk⟩ := h
  exact ⟨hne, hD, hi, cap, pr, cur, hc.heap hbr h1, hc1, hc2, hc.heap hdr h2, hcs, htk⟩
theorem TarAt.chg {tr br rr : Nat} {pad : Int} {cs : Array Value} {S : List Nat} {w w' : World} (h : TarAt tr br rr pad cs w) (hc : Chg S w w') (h1 : tr ∉ S) : TarAt tr br rr pad cs w' :=
  ⟨hc.heap h.heap h1, h.size, h.c0, h.c1, h.c2, h.c515⟩
theorem TarAt.spliced {tr br rr : Nat} {pad : Int} {cs : Array Value} {w w' : World} (h : TarAt tr br rr pad cs w) (Z : List UInt8) (hz : Z.length ≤ 512)
    (hh : w'.heap[tr]? = some (.cells (splice cs.toList 3 (bvs Z)).toArray 152 (0, 0))) : TarAt tr br rr pad (splice cs.toList 3 (bvs Z)).toArray w' := by
  have hs := h.size
  have hl : 3 + (bvs Z).length ≤ cs.toList.length := by simp; omega
  have g := splice_get cs.toList 3 (bvs Z) hl
  refine ⟨hh, ?_, ?_, ?_, ?_, ?_⟩
  · rw [List.size_toArray, length_splice _ _ _ hl]; simpa using hs
  · rw [List.getElem?_toArray, g, if_neg (by omega)]; simpa using h.c0
  · rw [List.getElem?_toArray, g, if_neg (by omega)]; simpa using h.c1
  · rw [List.getElem?_toArray, g, if_neg (by omega)]; simpa using h.c2
  · rw [List.getElem?_toArray, g, if_neg (by simp; omega)]; simpa using h.c515

set_option maxRecDepth 100000 in
set_option maxHeartbeats 800000 in
theorem readHeader_eof (tr br rr dr : Nat) (pad : Int) (cs : Array Value) (D : List UInt8) (i : Nat) (eof : Addr) (w : World) (h : TarAt tr br rr pad cs w) (hr : RdrAt br dr D i w) (hi : i + 1024 ≤ D.length)
    (hz : (D.drop i).take 1024 = List.replicate 1024 0) (htb : tr ≠ br) (htd : tr ≠ dr) (he : Sent w 0 eof) (h0 : 0 ≠ br ∧ 0 ≠ tr) :
    Calls Tryz.prog 148 #[.pointer (some ⟨tr, 0, none⟩)] w fun e w' => e = .returned (.tuple #[.pointer none, .pointer none, .iface 245 (.pointer (some eof))]) ∧
      RdrAt br dr D (i + 1024) w' ∧ (∃ cs', TarAt tr br rr pad cs' w') ∧ Chg [br, tr] w w' := by
  have hsz := h.size
  have d0 : w.cell? ⟨tr, 0, none⟩ = some (.iface 84 (.pointer (some ⟨br, 0, none⟩))) := by rw [cell_heap h.heap]; exact h.c0
  obtain ⟨Z, hZ⟩ : ∃ Z : List UInt8, Z = List.replicate 512 0 := ⟨_, rfl⟩
  have hZl : Z.length = 512 := by rw [hZ]; simp
  have z1 : (D.drop i).take 512 = Z := by
    have : (D.drop i).take 512 = ((D.drop i).take 1024).take 512 := by rw [List.take_take]; simp
    rw [this, hz, hZ]; simp
  have z2 : (D.drop (i + 512)).take 512 = Z := by
    have : (D.drop (i + 512)).take 512 = ((D.drop i).take 1024).drop 512 := by rw [List.drop_take, List.drop_drop]
    rw [this, hz, hZ]; simp
  have hzz : (Z == Z) = true := by simp
  have H := Lib.hid h; have HR := Lib.hid hr; have HE := Lib.hid he; have HZ := Lib.hid hZ; have HZL := Lib.hid hZl; have Z1 := Lib.hid z1; have Z2 := Lib.hid z2; have HSZ := Lib.hid hsz
  clear h hr he hZ hZl z1 z2 hsz hz
  go_enter Tryz.func148, Tryz.ntmps148
  go_wp2
  go_region_with (first | (go_at_call 196; refine (readFull_ok br dr D i tr 3 512 512 cs 152 _ (by exact HR.out) (by omega) (by exact H.out.heap) htb htd (by omega) (by omega) (by unfold maxLen; omega) (by rw [HSZ.out]; omega)).mono ?_; rintro e w1 ⟨rfl, h1, h2, h3⟩))
  rw [Z1.out] at h2
  have H1 := H.out.spliced Z (by rw [HZL.out]; omega) h2
  have hrow := blk_row Z (by rw [HSZ.out, HZL.out]; omega) h2
  have hch1 : Chg [br, tr] w w1 := (Chg.refl _ w).drew.trans h3
  generalize hc1 : (splice cs.toList 3 (bvs Z)).toArray = cs1 at *
  have d0 : w1.cell? ⟨tr, 0, none⟩ = some (.iface 84 (.pointer (some ⟨br, 0, none⟩))) := by rw [cell_heap H1.heap]; exact H1.c0
  have HR1 := Lib.hid h1; have HT1 := Lib.hid H1; have HROW := Lib.hid hrow; have HCH1 := Lib.hid hch1
  clear h1 h2 h3 H1 hrow hch1 hc1
  go_wp2
  have HA : Hid (∀ i, i < Z.length → ((w1.alloc (.cells Tryz.zeroCells132 132)).drew).cell? ((⟨tr, 3, none⟩ : Addr).add i) = (Z[i]?).map bv) := fun i hi => by
    have h := HROW.out i hi
    rw [add_addr] at h ⊢
    exact (World.cell?_alloc_lt w1 (.cells Tryz.zeroCells132 132) ⟨tr, 3 + i, none⟩ (Array.getElem?_eq_some_iff.1 HT1.out.heap).1).trans h
  have HB : Hid (∀ i, i < Z.length → ((w1.alloc (.cells Tryz.zeroCells132 132)).drew).cell? ((⟨w1.heap.size, 0, none⟩ : Addr).add i) = (Z[i]?).map bv) := fun i hi => zero_row w1 Z HZ.out i
  go_region_with (first | (go_at_call 197; refine (row_equal ⟨tr, 3, none⟩ ⟨w1.heap.size, 0, none⟩ 512 512 512 512 Z Z _ HZL.out HZL.out HA.out HB.out).mono ?_; rintro e w2 ⟨rfl, rfl⟩))
  have hch2 : Chg [br, tr] w (w1.alloc (.cells Tryz.zeroCells132 132)).drew := (HCH1.out.alloc _).drew
  have hch12 : Chg [] w1 (w1.alloc (.cells Tryz.zeroCells132 132)).drew := ((Chg.refl _ w1).alloc _).drew
  have hr2 := HR1.out.chg hch12 (by simp) (by simp)
  have ht2 := HT1.out.chg hch12 (by simp)
  clear HA HB HROW HCH1 HR1 d0
  generalize (w1.alloc (.cells Tryz.zeroCells132 132)).drew = w2 at *
  have d0 : w2.cell? ⟨tr, 0, none⟩ = some (.iface 84 (.pointer (some ⟨br, 0, none⟩))) := by rw [cell_heap ht2.heap]; exact ht2.c0
  have hsz2 := ht2.size
  have HR2 := Lib.hid hr2; have HT2 := Lib.hid ht2; have HCH2 := Lib.hid hch2; have HSZ2 := Lib.hid hsz2
  clear hr2 ht2 hch2 hsz2 hch12 HT1
  go_wp2
  go_region_with (first | (go_at_call 196; refine (readFull_ok br dr D (i + 512) tr 3 512 512 cs1 152 _ (by exact HR2.out) (by omega) (by exact HT2.out.heap) htb htd (by omega) (by omega) (by unfold maxLen; omega) (by rw [HSZ2.out]; omega)).mono ?_; rintro e w3 ⟨rfl, h1, h2, h3⟩))
  rw [Z2.out] at h2
  have H1 := HT2.out.spliced Z (by rw [HZL.out]; omega) h2
  have hrow := blk_row Z (by rw [HSZ2.out, HZL.out]; omega) h2
  have hch3 : Chg [br, tr] w w3 := HCH2.out.trans ((Chg.refl _ w2).drew.trans h3)
  generalize hc1 : (splice cs1.toList 3 (bvs Z)).toArray = cs2 at *
  have d0 : w3.cell? ⟨tr, 0, none⟩ = some (.iface 84 (.pointer (some ⟨br, 0, none⟩))) := by rw [cell_heap H1.heap]; exact H1.c0
  have HR1 := Lib.hid h1; have HT1 := Lib.hid H1; have HROW := Lib.hid hrow; have HCH1 := Lib.hid hch3
  clear h1 h2 h3 H1 hrow hch3 hc1
  go_wp2
  have HA : Hid (∀ i, i < Z.length → ((w3.alloc (.cells Tryz.zeroCells132 132)).drew).cell? ((⟨tr, 3, none⟩ : Addr).add i) = (Z[i]?).map bv) := fun i hi => by
    have h := HROW.out i hi
    rw [add_addr] at h ⊢
    exact (World.cell?_alloc_lt w3 (.cells Tryz.zeroCells132 132) ⟨tr, 3 + i, none⟩ (Array.getElem?_eq_some_iff.1 HT1.out.heap).1).trans h
  have HB : Hid (∀ i, i < Z.length → ((w3.alloc (.cells Tryz.zeroCells132 132)).drew).cell? ((⟨w3.heap.size, 0, none⟩ : Addr).add i) = (Z[i]?).map bv) := fun i hi => zero_row w3 Z HZ.out i
  go_region_with (first | (go_at_call 197; refine (row_equal ⟨tr, 3, none⟩ ⟨w3.heap.size, 0, none⟩ 512 512 512 512 Z Z _ HZL.out HZL.out HA.out HB.out).mono ?_; rintro e w2 ⟨rfl, rfl⟩))
  have he3 : Sent (w3.alloc (.cells Tryz.zeroCells132 132)).drew 0 eof := HE.out.chg ((HCH1.out.alloc _).drew) (by simp [h0.1, h0.2])
  have hch4 : Chg [br, tr] w (w3.alloc (.cells Tryz.zeroCells132 132)).drew := (HCH1.out.alloc _).drew
  have hch34 : Chg [] w3 (w3.alloc (.cells Tryz.zeroCells132 132)).drew := ((Chg.refl _ w3).alloc _).drew
  have hr4 := HR1.out.chg hch34 (by simp) (by simp)
  have ht4 := HT1.out.chg hch34 (by simp)
  clear HA HB HROW HCH1 HR1 d0
  generalize (w3.alloc (.cells Tryz.zeroCells132 132)).drew = w4 at *
  unfold Sent at he3
  have HR4 := Lib.hid hr4; have HT4 := Lib.hid ht4; have HCH4 := Lib.hid hch4
  clear hr4 ht4 hch4 hch34 HT1
  go_wp2
  go_quiet (fail)
  go_wp2
  go_ret3
  exact ⟨rfl, HR4.out.chg (Chg.drewNof (w := w4) _) (by simp) (by simp), ⟨_, HT4.out.chg (Chg.drewNof (w := w4) _) (by simp)⟩, HCH4.out.drewN _⟩
end Go.Proofs.YtkanmkcojlefbaaGreatDoor
