/-
  Writer over a bytes.Buffer: Flush.
-/
import Derived.Test.YtkanmkcojlefbaaGreatDoorHdrEof
import Derived.Deep.RegionHeld3
import Derived.Lib.BufferOld
namespace Go.Proofs.YtkanmkcojlefbaaGreatDoor
open Go.RowKit
set_option linter.unusedVariables false

/-- The frame of a Writer over a bytes.Buffer: below B nothing has changed; above, only the blocks of S and rows of bytes. -/
structure FrW (B : Nat) (S : List Nat) (w w' : World) : Prop where
  below : Below B w w'
  kept : ∀ k o, w.heap[k]? = some o → k ∉ S → (∀ c fz, o ≠ .cells c 5 fz) → w'.heap[k]? = some o
theorem FrW.refl (B : Nat) (S : List Nat) (w : World) : FrW B S w w := ⟨Below.refl _ _, fun _ _ h _ _ => h⟩
theorem FrW.trans {B : Nat} {S : List Nat} {a b c : World} (h : FrW B S a b) (k : FrW B S b c) : FrW B S a c :=
  ⟨h.below.trans k.below, fun i o hi hn ho => k.kept i o (h.kept i o hi hn ho) hn ho⟩
theorem FrW.mono {B : Nat} {S S' : List Nat} {a b : World} (h : FrW B S a b) (hs : ∀ k ∈ S, k ∈ S') : FrW B S' a b :=
  ⟨h.below, fun i o hi hn ho => h.kept i o hi (fun hm => hn (hs i hm)) ho⟩
theorem FrW.ofChg {B : Nat} {S : List Nat} {a b : World} (h : Chg S a b) (hB : B ≤ a.heap.size) (hs : ∀ k ∈ S, B ≤ k) : FrW B S a b :=
  ⟨h.below hB hs, fun _ _ hi hn _ => h.heap hi hn⟩
theorem FrW.ofKept {B b : Nat} {w w' : World} (h : Below B w w') (k : Lib.OthersKept 5 (some b) w w') : FrW B [b] w w' :=
  ⟨h, fun i o hi hn ho => k i o hi (by simpa using hn) ho⟩
theorem FrW.heap {B : Nat} {S : List Nat} {w w' : World} (h : FrW B S w w') {k : Nat} {cs : Array Value} {t : TypeId} {fr : Nat × Nat} (hk : w.heap[k]? = some (.cells cs t fr)) (hn : k ∉ S) (ht : t ≠ 5) : w'.heap[k]? = some (.cells cs t fr) :=
  h.kept k _ hk hn (fun c fz e => ht (by injection e))

/-- A Writer in block tw over the buffer b, its current file's writer in block rw; 'err' is nil. -/
structure WrAt (tw b rw : Nat) (pad nb : Int) (cs : Array Value) (w : World) : Prop where
  heap : w.heap[tw]? = some (.cells cs 134 (0, 0))
  size : cs.size = 536
  c0 : cs[0]? = some (.iface 75 (.pointer (some ⟨b, 0, none⟩)))
  c1 : cs[1]? = some (.int .i64 pad)
  c2 : cs[2]? = some (.iface 119 (.pointer (some ⟨rw, 0, none⟩)))
  c535 : cs[535]? = some .nilIface
  reg : w.heap[rw]? = some (.cells #[.iface 75 (.pointer (some ⟨b, 0, none⟩)), .int .i64 nb] 121 (0, 0))

theorem WrAt.frame {tw b rw : Nat} {pad nb : Int} {cs : Array Value} {B : Nat} {S : List Nat} {w w' : World} (h : WrAt tw b rw pad nb cs w) (k : FrW B S w w') (h1 : tw ∉ S) (h2 : rw ∉ S) : WrAt tw b rw pad nb cs w' :=
  ⟨k.heap h.heap h1 (by decide), h.size, h.c0, h.c1, h.c2, h.c535, k.heap h.reg h2 (by decide)⟩

theorem ahead75 (a : Addr) (w : World) : (nilAhead 511 75 (.pointer (some a)) "Write").run Tryz.prog w = .ok (some false) w := by kernel_rfl
/-- The first p bytes of a new block of zeros. -/
theorem zeros_new (w : World) (p : Nat) (hp : p ≤ 512) (j : Nat) (v : Value) (hj : (bvs (List.replicate p 0))[j]? = some v) : (w.alloc (.cells Tryz.zeroCells132 132)).cell? ((⟨w.heap.size, 0, none⟩ : Addr).add j) = some v := by
  have hjp : j < p := by have := (List.getElem?_eq_some_iff.1 hj).1; simpa using this
  rw [add_addr, Nat.zero_add, World.cell?_alloc_new, zero132, List.getElem?_toArray, bvs_get, List.getElem?_replicate, if_pos (by omega)]
  rw [bvs_get, List.getElem?_replicate, if_pos hjp] at hj
  exact hj
theorem logw_any (b : Nat) (nb : Int) (w : World) :
    Calls Tryz.prog 343 #[.agg #[.iface 75 (.pointer (some ⟨b, 0, none⟩)), .int .i64 nb]] w fun e w' => e = .returned (.int .i64 nb) ∧ Chg [] w w' := by
  go_enter Tryz.func343, Tryz.ntmps343
  go_wp2
  go_ret
  exact ⟨rfl, (Chg.refl _ w).alloc _⟩

/-- A store into a block that is neither the buffer nor a row of bytes. -/
theorem isBuf_setOther {B b : Nat} {bs : List Value} {w : World} (h : Lib.IsBuffer 70 5 B b bs w) {g : Nat} {cs : Array Value} {t : TypeId} {fr : Nat × Nat} (hg : w.heap[g]? = some (.cells cs t fr)) (ht : t ≠ 5) (hgb : g ≠ b) (i : Nat) (v : Value) :
    Lib.IsBuffer 70 5 B b bs (w.setCell ⟨g, i, none⟩ v) := by
  obtain ⟨hB, v0, lr, hbk, hown, hne⟩ := h
  refine ⟨hB, v0, lr, (Below.heap_setCell _ _ _ _ (by exact Ne.symm hgb)).trans hbk, ⟨hown.1, ?_⟩, hne⟩
  rcases hown.2 with hn | ⟨g', cap, cur, hv, hBg, hgg, rest⟩
  · exact .inl hn
  · refine .inr ⟨g', cap, cur, hv, hBg, (Below.heap_setCell _ _ _ _ (fun e => ?_)).trans hgg, rest⟩
    subst e
    rw [hg] at hgg
    exact ht (by injection hgg with e; injection e)
/-- what Flush's region leans on, in each of its worlds -/
def FlS (tw b p B : Nat) (w1 w' : World) : Prop := w'.cell? ⟨tw, 0, none⟩ = some (.iface 75 (.pointer (some ⟨b, 0, none⟩))) ∧ w'.cell? ⟨tw, 1, none⟩ = some (.int .i64 p) ∧ w'.cell? ⟨tw, 535, none⟩ = some .nilIface ∧ w'.frozen? ⟨tw, 535, none⟩ = false ∧ FrW B [tw, b] w1 w'
theorem keepS {tw b rw p : Nat} {nb : Int} {cs : Array Value} {B : Nat} {w1 w' : World} (h : WrAt tw b rw p nb cs w1) (k : FrW B [b] w1 w') (htb : tw ≠ b) (hrb : rw ≠ b) : FlS tw b p B w1 w' := by
  have h' := h.frame k (by simp; exact htb) (by simp; exact hrb)
  exact ⟨(cell_heap h'.heap 0).trans h'.c0, (cell_heap h'.heap 1).trans h'.c1, (cell_heap h'.heap 535).trans h'.c535, frozen_heap h'.heap 535, k.mono (by simp)⟩
theorem keepF {tw b rw p : Nat} {nb : Int} {cs : Array Value} {B : Nat} {w1 w' : World} (h : WrAt tw b rw p nb cs w1) (k : FrW B [] w1 w') (htb : tw ≠ b) (hrb : rw ≠ b) (htr : tw ≠ rw) :
    w'.cell? ⟨tw, 0, none⟩ = some (.iface 75 (.pointer (some ⟨b, 0, none⟩))) ∧ w'.cell? ⟨tw, 1, none⟩ = some (.int .i64 p) ∧ w'.cell? ⟨tw, 535, none⟩ = some .nilIface ∧ w'.frozen? ⟨tw, 535, none⟩ = false ∧ FrW B [tw, b] w1 w' :=
  keepS h (k.mono (by simp)) htb hrb
theorem keepG {tw b p : Nat} {B : Nat} {w1 w' : World} (h : FlS tw b p B w1 w') :
    w'.cell? ⟨tw, 0, none⟩ = some (.iface 75 (.pointer (some ⟨b, 0, none⟩))) ∧ w'.cell? ⟨tw, 1, none⟩ = some (.int .i64 p) ∧ w'.cell? ⟨tw, 535, none⟩ = some .nilIface ∧ w'.frozen? ⟨tw, 535, none⟩ = false ∧ FrW B [tw, b] w1 w' := h
theorem FrW.setCell {B : Nat} {S : List Nat} {a w : World} (h : FrW B S a w) {p : Addr} (hp : p.block ∈ S) (hB : B ≤ p.block) (u : Value) : FrW B S a (w.setCell p u) :=
  ⟨h.below.setCell hB u, fun k o hi hn ho => (Below.heap_setCell _ _ _ _ (fun e => hn (by rw [e]; exact hp))).trans (h.kept k o hi hn ho)⟩
theorem keepH {tw b p : Nat} {B : Nat} {w1 w' : World} (hB : B ≤ tw) (h : FlS tw b p B w1 w') : FlS tw b p B w1 (w'.setCell ⟨tw, 535, none⟩ .nilIface) := by
  obtain ⟨h0, h1, h2, h3, h4⟩ := h
  refine ⟨?_, ?_, ?_, ?_, h4.setCell (by simp) hB _⟩
  · simpa [go_sem] using h0
  · simpa [go_sem] using h1
  · simp [go_sem, h2]
  · simpa [go_sem] using h3

set_option maxRecDepth 100000 in
set_option maxHeartbeats 800000 in
theorem flush_any (tw b rw p : Nat) (nb : Int) (cs : Array Value) (B : Nat) (bs : List UInt8) (w : World) (h : WrAt tw b rw p nb cs w) (hp : p ≤ 512) (hnb : nb ≤ 0) (htb : tw ≠ b) (htr : tw ≠ rw) (hrb : rw ≠ b)
    (hI : Lib.IsBuffer 70 5 B b (bvs bs) w) (hB : B ≤ w.heap.size) (hBt : B ≤ tw) (hlim : bs.length + p ≤ 140737488355328) :
    Calls Tryz.prog 62 #[.pointer (some ⟨tw, 0, none⟩)] w fun e w' => e = .returned .nilIface ∧ (∃ cs', WrAt tw b rw 0 nb cs' w' ∧ (∀ i, 2 ≤ i → cs'[i]? = cs[i]?)) ∧
      Lib.IsBuffer 70 5 B b (bvs (bs ++ List.replicate p 0)) w' ∧ FrW B [tw, b] w w' := by
  have d535 : w.cell? ⟨tw, 535, none⟩ = some .nilIface := by rw [cell_heap h.heap]; exact h.c535
  have d0 : w.cell? ⟨tw, 0, none⟩ = some (.iface 75 (.pointer (some ⟨b, 0, none⟩))) := by rw [cell_heap h.heap]; exact h.c0
  have d1 : w.cell? ⟨tw, 1, none⟩ = some (.int .i64 p) := by rw [cell_heap h.heap]; exact h.c1
  have d2 : w.cell? ⟨tw, 2, none⟩ = some (.iface 119 (.pointer (some ⟨rw, 0, none⟩))) := by rw [cell_heap h.heap]; exact h.c2
  have e0 : w.cell? ⟨rw, 0, none⟩ = some (.iface 75 (.pointer (some ⟨b, 0, none⟩))) := by rw [cell_heap h.reg]; rfl
  have e1 : w.cell? ⟨rw, 1, none⟩ = some (.int .i64 nb) := by rw [cell_heap h.reg]; rfl
  have hm := meth_logw rw _ _ w e0 e1
  have H := Lib.hid h; have HI := Lib.hid hI
  clear h hI
  have hnb' : ¬ (0 < nb) := by omega
  go_enter Tryz.func62, Tryz.ntmps62
  go_wp2_with (go_at_call 343; refine (logw_any b nb _).mono ?_; rintro e w1 ⟨rfl, hc1⟩; refine Hid.out ?_)
  refine Lib.hid ?_
  go_wp2
  have hf1 : FrW B [] w w1 := FrW.ofChg hc1 hB (by simp)
  have h1 := H.out.frame hf1 (by simp) (by simp)
  have hI1 : Lib.IsBuffer 70 5 B b (bvs bs) w1 := Lib.IsBuffer.old HI.out (Chg.below hc1 (Nat.le_refl _) (by simp))
  have htl : tw < w1.heap.size := (Array.getElem?_eq_some_iff.1 h1.heap).1
  have hbl : b < w1.heap.size := hI1.lt
  have hB1 : B ≤ w1.heap.size := by have := hc1.size; omega
  clear d535 d0 d1 d2 e0 e1 hm
  have d535 : w1.cell? ⟨tw, 535, none⟩ = some .nilIface := by rw [cell_heap h1.heap]; exact h1.c535
  have d0 : w1.cell? ⟨tw, 0, none⟩ = some (.iface 75 (.pointer (some ⟨b, 0, none⟩))) := by rw [cell_heap h1.heap]; exact h1.c0
  have d1 : w1.cell? ⟨tw, 1, none⟩ = some (.int .i64 p) := by rw [cell_heap h1.heap]; exact h1.c1
  have H1 := Lib.hid h1; have HI1 := Lib.hid hI1; have HF1 := Lib.hid hf1
  clear h1 hI1 hf1 hc1 H HI
  have hah := ahead75
  have hBb : B ≤ b := HI1.out.1
  have hsp : (p : Int) ≤ 512 := by omega
  have hsp0 : (0 : Int) ≤ p := by omega
  go_region_held3 (fun w' => w'.cell? ⟨tw, 0, none⟩ = some (.iface 75 (.pointer (some ⟨b, 0, none⟩))) ∧ w'.cell? ⟨tw, 1, none⟩ = some (.int .i64 p) ∧ w'.cell? ⟨tw, 535, none⟩ = some .nilIface ∧ w'.frozen? ⟨tw, 535, none⟩ = false ∧ FrW B [tw, b] w1 w') (first | exact keepF H1.out (FrW.refl _ _ _) htb hrb htr | exact keepF H1.out (FrW.ofChg (Chg.refl _ w1).drew hB1 (fun k hk => by cases hk)) htb hrb htr | exact keepF H1.out (FrW.ofChg ((Chg.refl _ w1).alloc _) hB1 (fun k hk => by cases hk)) htb hrb htr | exact keepF H1.out (FrW.ofChg ((Chg.refl _ w1).alloc _).drew hB1 (fun k hk => by cases hk)) htb hrb htr | exact keepG (by assumption) | exact keepH hBt (by assumption)) ((first | (go_at_call 284; refine (Tryz.Buffer_Write_any B b (bvs bs) (bvs (List.replicate p 0)) ⟨w1.heap.size, 0, none⟩ p 512 _ (by exact (HI1.out.alloc _).drew) (by simp; omega) (bvs_one _) (by simp) (by show w1.heap.size ≠ b; omega) (by exact zeros_new w1 p hp) (bvs_one _) (by simp; omega)).mono ?_; rintro e w2 ⟨rfl, hI2, hb2, hk2⟩; have hf2 : FrW B [b] w1 w2 := FrW.trans (FrW.ofChg ((Chg.refl _ w1).alloc _).drew hB1 (by simp; exact hBb)) (FrW.ofKept hb2 hk2); have h2 := keepS H1.out hf2 htb hrb; have HF2 := Lib.hid hf2; have HI2 := Lib.hid hI2; clear hf2 hI2 hb2 hk2)))
  have hw2 := H1.out.frame HF2.out (by simp; exact htb) (by simp; exact hrb)
  have hs2 := hw2.size
  have h3 : WrAt tw b rw p nb (cs.setIfInBounds 535 .nilIface) (w2.setCell ⟨tw, 535, none⟩ .nilIface) := by
    refine ⟨heap_setCell_at hw2.heap 535 _, by simpa using hs2, ?_, ?_, ?_, ?_, ?_⟩
    · rw [Array.getElem?_setIfInBounds_ne (by omega)]; exact hw2.c0
    · rw [Array.getElem?_setIfInBounds_ne (by omega)]; exact hw2.c1
    · rw [Array.getElem?_setIfInBounds_ne (by omega)]; exact hw2.c2
    · rw [Array.getElem?_setIfInBounds_self, if_pos (by omega)]
    · rw [Below.heap_setCell _ _ _ _ (by exact Ne.symm htr)]; exact hw2.reg
  have hI3 : Lib.IsBuffer 70 5 B b (bvs bs ++ bvs (List.replicate p 0)) (w2.setCell ⟨tw, 535, none⟩ .nilIface) := isBuf_setOther HI2.out hw2.heap (by decide) htb _ _
  have hf3 : FrW B [tw, b] w (w2.setCell ⟨tw, 535, none⟩ .nilIface) := ((HF1.out.mono (by simp)).trans (HF2.out.mono (by simp))).setCell (by simp) hBt _
  have hcs3 : ∀ i, 2 ≤ i → (cs.setIfInBounds 535 .nilIface)[i]? = cs[i]? := by
    intro i hi
    by_cases e : 535 = i
    · subst e; rw [Array.getElem?_setIfInBounds_self, if_pos (by omega)]; exact hw2.c535.symm
    · rw [Array.getElem?_setIfInBounds_ne e]
  clear hw2 h2 d535 d0 d1 H1 HI1 HF1 HF2 HI2
  generalize w2.setCell ⟨tw, 535, none⟩ .nilIface = w3 at *
  have d535 : w3.cell? ⟨tw, 535, none⟩ = some .nilIface := by rw [cell_heap h3.heap]; exact h3.c535
  have d1 : w3.cell? ⟨tw, 1, none⟩ = some (.int .i64 p) := by rw [cell_heap h3.heap]; exact h3.c1
  have f1 : w3.frozen? ⟨tw, 1, none⟩ = false := frozen_heap h3.heap 1
  have H3 := Lib.hid h3; have HI3 := Lib.hid hI3; have HF3 := Lib.hid hf3; have HS2 := Lib.hid hs2; have HC3 := Lib.hid hcs3
  clear h3 hI3 hf3 hs2 hcs3
  go_wp2
  go_ret
  have h3 := H3.out
  have hs3 := h3.size
  refine ⟨rfl, ⟨(cs.setIfInBounds 535 .nilIface).setIfInBounds 1 (.int .i64 0), ⟨heap_setCell_at h3.heap 1 _, by simpa using HS2.out, ?_, ?_, ?_, ?_, ?_⟩, ?_⟩, ?_, HF3.out.setCell (by simp) hBt _⟩
  · rw [Array.getElem?_setIfInBounds_ne (by omega)]; exact h3.c0
  · rw [Array.getElem?_setIfInBounds_self, if_pos (by omega)]
  · rw [Array.getElem?_setIfInBounds_ne (by omega)]; exact h3.c2
  · rw [Array.getElem?_setIfInBounds_ne (by omega)]; exact h3.c535
  · rw [Below.heap_setCell _ _ _ _ (by exact Ne.symm htr)]; exact h3.reg
  · intro i hi
    rw [Array.getElem?_setIfInBounds_ne (by omega)]; exact HC3.out i hi
  · rw [bvs_append]; exact isBuf_setOther HI3.out h3.heap (by decide) htb _ _
end Go.Proofs.YtkanmkcojlefbaaGreatDoor
