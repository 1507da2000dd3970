/-
  templateV7Plus, as us calls it (printed by gentm2.py).
-/
import Derived.Test.YtkanmkcojlefbaaGreatDoorJ16
set_option linter.unusedVariables false
namespace Go.Proofs.YtkanmkcojlefbaaGreatDoor
open Go.RowKit
set_option maxRecDepth 100000 in
set_option maxHeartbeats 4000000 in
theorem template_usN (tw f B:Nat) (sn:Nat→Addr) (kb:Nat) (htf:f≠tw) (hBt:B≤tw) (hBf:B≤f) (c0 c1 c2 er:Value) (th:TH) (L:List UInt8) (w:World) (h:WB tw c0 c1 c2 th L er w) (hL:L.length=512) (hE:Env B sn kb w) (hF:FAt f .nilIface w)
  (hm:th.mn < 1000000000) (hs1 : -4000000000000000000≤th.ms) (hs2:th.ms≤4000000000000000000) (hQ:TmQ (fun n s=>s.size≤n) fit8 th) (hz:¬(th.ms=-62135596800∧th.mn=0)) :
  Calls Tryz.prog 128 #[.pointer (some ⟨tw,0,none⟩),.pointer (some ⟨tw,3,none⟩),.func (.func 129) #[.pointer (some ⟨f,0,none⟩)] #[],.func (.func 130) #[.pointer (some ⟨f,0,none⟩)] #[]] w fun e w'=>
   e=.returned (.pointer (some ⟨tw,23,none⟩))∧(∃b,TmOk (fun n s x=>x=txt n s) OctOut th b∧WB tw c0 c1 c2 th b.bytes er w')∧(FAt f .nilIface w')∧Chg [tw,f] w w':=by
 obtain ⟨Q4,Q5,Q6,Q7,Q8,Q9,Q10,Q11,Q12,Q13,Q14⟩:=hQ
 have m0:w.cell? ⟨tw,12,none⟩=some (.int .u64 th.mn):=wb_cell h 12 _ rfl
 have m1:w.cell? ⟨tw,13,none⟩=some (.int .i64 (th.ms+62135596800)):=wb_cell h 13 _ rfl
 have hzd:decide (th.ms=-62135596800∧th.mn=0)=false:=decide_eq_false hz
 have hT:th.mts=th.ms:=if_neg hz
 rw [hT] at Q10
 have HTT:=Lib.hid hT
 have H:=Lib.hid h;have HE:=Lib.hid hE;have HF:=Lib.hid hF
 have TQ4:=Q4;have TQ5:=Q5;have TQ11:=Q11;have TQ12:=Q12
 have hfl:f < w.heap.size:=(Array.getElem?_eq_some_iff.1 hF).1
 clear h hE hF hz hT
 go_enter Tryz.func128,Tryz.ntmps128
 go_wp2_with (first
  | (go_at_call 173;refine (reset_any tw 134 _ _ L 23 _ H.out rfl hL).mono ?_;rintro e w1 ⟨rfl,hb1,hg1⟩;have m0:=wb_cell hb1 12 _ rfl;have m1:=wb_cell hb1 13 _ rfl)
  | (go_at_call 74;refine (isZero_any th.ms th.mn _ hm hs1 hs2).mono ?_;rw [hzd];rintro e w2 ⟨rfl,hg2⟩)
  | (go_at_call 106;refine (toV7 tw 23 _).mono ?_;rintro e w3 ⟨rfl,rfl⟩))
 have HB2:=Lib.hid (show WB tw c0 c1 c2 th (List.replicate 512 0) er w2 from hb1.chg (((Chg.refl [] w1).alloc _).trans hg2) (by simp))
 have HG2:=Lib.hid (show Chg [tw,f] w w2 from (hg1.mono (by simp)).trans ((((Chg.refl [] w1).alloc _).trans hg2).mono (by simp)))
 have hgt:=hg2.heap (heap_alloc_new w1 (.cells #[.int .u64 th.mn,.int .i64 (th.ms+62135596800)] 126)) (by simp)
 have HGT:=Lib.hid hgt
 have htl:tw < w1.heap.size:=(Array.getElem?_eq_some_iff.1 hb1).1
 have hfl1:f < w1.heap.size:=Nat.lt_of_lt_of_le hfl hg1.size
 have HF2:=Lib.hid (show FAt f .nilIface w2 from hg2.heap ((Chg.refl [] w1).alloc _ |>.heap (hg1.heap HF.out (by simp;exact htf)) (by simp)) (by simp))
 clear hb1 hg1 hg2 m0 m1 hgt
 have d3:w2.cell? ⟨tw,3,none⟩=some (.int .u8 th.tf.toNat):=wb_cell HB2.out 3 _ rfl
 have d179:w2.cell? ⟨tw,179,none⟩=some (bv 0):=by have:=HB2.out.cell 23 156 rfl (by simp);simpa using this
 have f179:w2.frozen? ⟨tw,179,none⟩=false:=HB2.out.frozen 179
 go_wp2
 go_region_held3 (fun w'=>w'.cell? ⟨tw,3,none⟩=some (.int .u8 th.tf.toNat)) (first | exact d3 | simpa [go_sem] using d3) ((first | (go_at_call 174;refine (v7_typeFlag tw 23 _).mono ?_;rintro e w3 ⟨rfl,rfl⟩)))
 have HB3:=Lib.hid (show WB tw c0 c1 c2 th ({ HB.zero with tf:= [th.tf] }:HB).bytes er ((w2.setCell ⟨tw,179,none⟩ (.int .u8 th.tf.toNat)).drew) from by
  have h1:=HB2.out.set 23 156 th.tf rfl (by simp)
  rw [set_splice _ _ _ (by simp),←HB.zero_bytes,HB.zero_ok.put_tf [th.tf] rfl] at h1
  exact h1)
 have HG3:=Lib.hid (show Chg [tw,f] w ((w2.setCell ⟨tw,179,none⟩ (.int .u8 th.tf.toNat)).drew) from (HG2.out.setCell (.inl (by simp)) _).drew)
 have HF3:=Lib.hid (show FAt f .nilIface ((w2.setCell ⟨tw,179,none⟩ (.int .u8 th.tf.toNat)).drew) from (Below.heap_setCell _ _ _ _ (by show f≠tw;exact htf)).trans HF2.out)
 have hgt3:((w2.setCell ⟨tw,179,none⟩ (.int .u8 th.tf.toNat)).drew).heap[w1.heap.size]? =_:=(Below.heap_setCell _ _ _ _ (by show w1.heap.size≠tw;omega)).trans HGT.out
 generalize (w2.setCell ⟨tw,179,none⟩ (.int .u8 th.tf.toNat)).drew=w3 at HB3 HG3 hgt3 HF3⊢
 have HGT3:=Lib.hid hgt3
 clear hgt3 d3 d179 f179 HB2 HG2 HGT HF2 HF
 have OK3:=HB.zero_ok.set_tf [th.tf] rfl
 generalize w1.heap.size=g at HGT3 htl hfl1⊢
 have hgt:g≠tw:=by omega
 have hgf:g≠f:=by omega
 have hBS:∀i∈ [tw,f],B≤i:=by simp;exact ⟨hBt,hBf⟩
 have d:w3.cell? ⟨tw,4,none⟩=some (.string th.name):=wb_cell HB3.out 4 _ rfl
 go_wp2
 go_region_held3 (fun w'=>w'.cell? ⟨tw,4,none⟩=some (.string th.name)) (first | exact d | assumption) ((first | (go_at_call 109;refine (v7_name tw 23 _).mono ?_;rintro e u ⟨rfl,rfl⟩) | (go_at_call 129;refine (fmtS_us tw f B sn kb htf hBt hBf _ _ _ 23 0 100 _ th.name _ (by exact HB3.out) rfl (by rw [OK3.length];decide) (OK3.zero_nm rfl) (by decide) (by decide) (by exact HE.out.chg (HG3.out.drew) hBS) (by exact HF3.out) Q4).mono ?_;rintro e w4 ⟨rfl,⟨x4,hx4,hb4⟩,hf4,hg4⟩;have d':=wb_cell hb4 4 _ rfl)))
 clear d d'
 have hl:x4.length=100:=(by have:=hx4;subst this;exact txt_length TQ4)
 rw [OK3.put_nm _ hl] at hb4
 have OK4:=OK3.set_nm _ hl
 have HX4:=Lib.hid hx4
 have HB4:=Lib.hid hb4
 have HG4:=Lib.hid (HG3.out.drew.trans hg4)
 have HF4:=Lib.hid hf4
 have HGT4:=Lib.hid (hg4.heap (by exact HGT3.out) (by simp;exact ⟨hgt,hgf⟩))
 clear hb4 hg4 hf4 hl hx4 HB3 HG3 HGT3 HF3
 have d:w4.cell? ⟨tw,5,none⟩=some (.string th.link):=wb_cell HB4.out 5 _ rfl
 go_wp2
 go_region_held3 (fun w'=>w'.cell? ⟨tw,5,none⟩=some (.string th.link)) (first | exact d | assumption) ((first | (go_at_call 110;refine (v7_linkName tw 23 _).mono ?_;rintro e u ⟨rfl,rfl⟩) | (go_at_call 129;refine (fmtS_us tw f B sn kb htf hBt hBf _ _ _ 23 157 100 _ th.link _ (by exact HB4.out) rfl (by rw [OK4.length];decide) (OK4.zero_ln rfl) (by decide) (by decide) (by exact HE.out.chg (HG4.out.drew) hBS) (by exact HF4.out) Q5).mono ?_;rintro e w5 ⟨rfl,⟨x5,hx5,hb5⟩,hf5,hg5⟩;have d':=wb_cell hb5 5 _ rfl)))
 clear d d'
 have hl:x5.length=100:=(by have:=hx5;subst this;exact txt_length TQ5)
 rw [OK4.put_ln _ hl] at hb5
 have OK5:=OK4.set_ln _ hl
 have HX5:=Lib.hid hx5
 have HB5:=Lib.hid hb5
 have HG5:=Lib.hid (HG4.out.drew.trans hg5)
 have HF5:=Lib.hid hf5
 have HGT5:=Lib.hid (hg5.heap (by exact HGT4.out) (by simp;exact ⟨hgt,hgf⟩))
 clear hb5 hg5 hf5 hl hx5 HB4 HG4 HGT4 HF4
 have d:w5.cell? ⟨tw,7,none⟩=some (.int .i64 th.mode):=wb_cell HB5.out 7 _ rfl
 go_wp2
 go_region_held3 (fun w'=>w'.cell? ⟨tw,7,none⟩=some (.int .i64 th.mode)) (first | exact d | assumption) ((first | (go_at_call 113;refine (v7_mode tw 23 _).mono ?_;rintro e u ⟨rfl,rfl⟩) | (go_at_call 130;refine (fmtN_us tw f B sn kb htf hBt hBf _ _ _ 23 100 8 _ th.mode _ (by exact HB5.out) rfl (by rw [OK5.length];decide) (OK5.zero_md rfl) (by decide) (by exact HE.out.chg (HG5.out.drew) hBS) (by exact HF5.out) Q6).mono ?_;rintro e w6 ⟨rfl,⟨x6,hx6,hb6⟩,hf6,hg6⟩;have d':=wb_cell hb6 7 _ rfl)))
 clear d d'
 have hl:x6.length=8:=hx6.1
 rw [OK5.put_md _ hl] at hb6
 have OK6:=OK5.set_md _ hl
 have HX6:=Lib.hid hx6
 have HB6:=Lib.hid hb6
 have HG6:=Lib.hid (HG5.out.drew.trans hg6)
 have HF6:=Lib.hid hf6
 have HGT6:=Lib.hid (hg6.heap (by exact HGT5.out) (by simp;exact ⟨hgt,hgf⟩))
 clear hb6 hg6 hf6 hl hx6 HB5 HG5 HGT5 HF5
 have d:w6.cell? ⟨tw,8,none⟩=some (.int .i64 th.uid):=wb_cell HB6.out 8 _ rfl
 go_wp2
 go_region_held3 (fun w'=>w'.cell? ⟨tw,8,none⟩=some (.int .i64 th.uid)) (first | exact d | assumption) ((first | (go_at_call 114;refine (v7_uid tw 23 _).mono ?_;rintro e u ⟨rfl,rfl⟩) | (go_at_call 130;refine (fmtN_us tw f B sn kb htf hBt hBf _ _ _ 23 108 8 _ th.uid _ (by exact HB6.out) rfl (by rw [OK6.length];decide) (OK6.zero_ui rfl) (by decide) (by exact HE.out.chg (HG6.out.drew) hBS) (by exact HF6.out) Q7).mono ?_;rintro e w7 ⟨rfl,⟨x7,hx7,hb7⟩,hf7,hg7⟩;have d':=wb_cell hb7 8 _ rfl)))
 clear d d'
 have hl:x7.length=8:=hx7.1
 rw [OK6.put_ui _ hl] at hb7
 have OK7:=OK6.set_ui _ hl
 have HX7:=Lib.hid hx7
 have HB7:=Lib.hid hb7
 have HG7:=Lib.hid (HG6.out.drew.trans hg7)
 have HF7:=Lib.hid hf7
 have HGT7:=Lib.hid (hg7.heap (by exact HGT6.out) (by simp;exact ⟨hgt,hgf⟩))
 clear hb7 hg7 hf7 hl hx7 HB6 HG6 HGT6 HF6
 have d:w7.cell? ⟨tw,9,none⟩=some (.int .i64 th.gid):=wb_cell HB7.out 9 _ rfl
 go_wp2
 go_region_held3 (fun w'=>w'.cell? ⟨tw,9,none⟩=some (.int .i64 th.gid)) (first | exact d | assumption) ((first | (go_at_call 115;refine (v7_gid tw 23 _).mono ?_;rintro e u ⟨rfl,rfl⟩) | (go_at_call 130;refine (fmtN_us tw f B sn kb htf hBt hBf _ _ _ 23 116 8 _ th.gid _ (by exact HB7.out) rfl (by rw [OK7.length];decide) (OK7.zero_gi rfl) (by decide) (by exact HE.out.chg (HG7.out.drew) hBS) (by exact HF7.out) Q8).mono ?_;rintro e w8 ⟨rfl,⟨x8,hx8,hb8⟩,hf8,hg8⟩;have d':=wb_cell hb8 9 _ rfl)))
 clear d d'
 have hl:x8.length=8:=hx8.1
 rw [OK7.put_gi _ hl] at hb8
 have OK8:=OK7.set_gi _ hl
 have HX8:=Lib.hid hx8
 have HB8:=Lib.hid hb8
 have HG8:=Lib.hid (HG7.out.drew.trans hg8)
 have HF8:=Lib.hid hf8
 have HGT8:=Lib.hid (hg8.heap (by exact HGT7.out) (by simp;exact ⟨hgt,hgf⟩))
 clear hb8 hg8 hf8 hl hx8 HB7 HG7 HGT7 HF7
 have d:w8.cell? ⟨tw,6,none⟩=some (.int .i64 th.size):=wb_cell HB8.out 6 _ rfl
 go_wp2
 go_region_held3 (fun w'=>w'.cell? ⟨tw,6,none⟩=some (.int .i64 th.size)) (first | exact d | assumption) ((first | (go_at_call 116;refine (v7_size tw 23 _).mono ?_;rintro e u ⟨rfl,rfl⟩) | (go_at_call 130;refine (fmtN_us tw f B sn kb htf hBt hBf _ _ _ 23 124 12 _ th.size _ (by exact HB8.out) rfl (by rw [OK8.length];decide) (OK8.zero_sz rfl) (by decide) (by exact HE.out.chg (HG8.out.drew) hBS) (by exact HF8.out) Q9).mono ?_;rintro e w9 ⟨rfl,⟨x9,hx9,hb9⟩,hf9,hg9⟩;have d':=wb_cell hb9 6 _ rfl)))
 clear d d'
 have hl:x9.length=12:=hx9.1
 rw [OK8.put_sz _ hl] at hb9
 have OK9:=OK8.set_sz _ hl
 have HX9:=Lib.hid hx9
 have HB9:=Lib.hid hb9
 have HG9:=Lib.hid (HG8.out.drew.trans hg9)
 have HF9:=Lib.hid hf9
 have HGT9:=Lib.hid (hg9.heap (by exact HGT8.out) (by simp;exact ⟨hgt,hgf⟩))
 clear hb9 hg9 hf9 hl hx9 HB8 HG8 HGT8 HF8
 have d:w9.cell? ⟨g,0,none⟩=some (.int .u64 (th.mn:Nat)):=cell_heap HGT9.out 0
 have d2:w9.cell? ⟨g,1,none⟩=some (.int .i64 (th.ms+62135596800)):=cell_heap HGT9.out 1
 go_wp2
 go_region_held3 (fun w'=>w'.cell? ⟨g,0,none⟩=some (.int .u64 (th.mn:Nat))∧w'.cell? ⟨g,1,none⟩=some (.int .i64 (th.ms+62135596800))) (first | exact ⟨d,d2⟩ | exact ⟨cell_heap (HGT9.out) 0,cell_heap (HGT9.out) 1⟩ | assumption) ((first | (go_at_call 119;refine (v7_modTime tw 23 _).mono ?_;rintro e u ⟨rfl,rfl⟩) | (go_at_call 103;refine (Unix_any (th.ms) (th.mn) _ hm hs1 hs2).mono ?_;rintro e u ⟨rfl,hu103⟩;have hk103:=And.intro (hu103.cell (p:=⟨g,0,none⟩) (by exact d) (by simp)) (hu103.cell (p:=⟨g,1,none⟩) (by exact d2) (by simp));have HU:=Lib.hid (show Chg [] w9 u from (Chg.drew (Chg.refl [] w9)).trans hu103);clear hu103) | (go_at_call 130;refine (fmtN_us tw f B sn kb htf hBt hBf _ _ _ 23 136 12 _ (th.ms) _ (by exact HB9.out.chg HU.out (by simp)) rfl (by rw [OK9.length];decide) (OK9.zero_mt rfl) (by decide) (by exact HE.out.chg (HG9.out.trans (HU.out.mono (by simp))) hBS) (by exact HF9.out.chg HU.out (by simp)) Q10).mono ?_;rintro e w10 ⟨rfl,⟨x10,hx10,hb10⟩,hf10,hg10⟩;have hk104:=And.intro (hg10.cell (p:=⟨g,0,none⟩) (by exact hk103.1) (by simp;exact ⟨hgt,hgf⟩)) (hg10.cell (p:=⟨g,1,none⟩) (by exact hk103.2) (by simp;exact ⟨hgt,hgf⟩)))))
 clear d d2 hk103 hk104
 have hl:x10.length=12:=hx10.1
 rw [OK9.put_mt _ hl] at hb10
 have OK10:=OK9.set_mt _ hl
 have HX10:=Lib.hid hx10
 have HB10:=Lib.hid hb10
 have HG10:=Lib.hid ((HG9.out.trans (HU.out.mono (by simp))).trans hg10)
 have HF10:=Lib.hid hf10
 have HGT10:=Lib.hid (hg10.heap (by exact HU.out.heap HGT9.out (by simp)) (by simp;exact ⟨hgt,hgf⟩))
 clear hb10 hg10 hf10 hl hx10 HB9 HG9 HGT9 HF9
 have d:w10.cell? ⟨tw,10,none⟩=some (.string th.un):=wb_cell HB10.out 10 _ rfl
 go_wp2
 go_region_held3 (fun w'=>w'.cell? ⟨tw,10,none⟩=some (.string th.un)) (first | exact d | assumption) ((first | (go_at_call 111;refine (us_userName tw 23 _).mono ?_;rintro e u ⟨rfl,rfl⟩) | (go_at_call 129;refine (fmtS_us tw f B sn kb htf hBt hBf _ _ _ 23 265 32 _ th.un _ (by exact HB10.out) rfl (by rw [OK10.length];decide) (OK10.zero_un rfl) (by decide) (by decide) (by exact HE.out.chg (HG10.out.drew) hBS) (by exact HF10.out) Q11).mono ?_;rintro e w11 ⟨rfl,⟨x11,hx11,hb11⟩,hf11,hg11⟩;have d':=wb_cell hb11 10 _ rfl)))
 clear d d'
 have hl:x11.length=32:=(by have:=hx11;subst this;exact txt_length TQ11)
 rw [OK10.put_un _ hl] at hb11
 have OK11:=OK10.set_un _ hl
 have HX11:=Lib.hid hx11
 have HB11:=Lib.hid hb11
 have HG11:=Lib.hid (HG10.out.drew.trans hg11)
 have HF11:=Lib.hid hf11
 have HGT11:=Lib.hid (hg11.heap (by exact HGT10.out) (by simp;exact ⟨hgt,hgf⟩))
 clear hb11 hg11 hf11 hl hx11 HB10 HG10 HGT10 HF10
 have d:w11.cell? ⟨tw,11,none⟩=some (.string th.gn):=wb_cell HB11.out 11 _ rfl
 go_wp2
 go_region_held3 (fun w'=>w'.cell? ⟨tw,11,none⟩=some (.string th.gn)) (first | exact d | assumption) ((first | (go_at_call 112;refine (us_groupName tw 23 _).mono ?_;rintro e u ⟨rfl,rfl⟩) | (go_at_call 129;refine (fmtS_us tw f B sn kb htf hBt hBf _ _ _ 23 297 32 _ th.gn _ (by exact HB11.out) rfl (by rw [OK11.length];decide) (OK11.zero_gn rfl) (by decide) (by decide) (by exact HE.out.chg (HG11.out.drew) hBS) (by exact HF11.out) Q12).mono ?_;rintro e w12 ⟨rfl,⟨x12,hx12,hb12⟩,hf12,hg12⟩;have d':=wb_cell hb12 11 _ rfl)))
 clear d d'
 have hl:x12.length=32:=(by have:=hx12;subst this;exact txt_length TQ12)
 rw [OK11.put_gn _ hl] at hb12
 have OK12:=OK11.set_gn _ hl
 have HX12:=Lib.hid hx12
 have HB12:=Lib.hid hb12
 have HG12:=Lib.hid (HG11.out.drew.trans hg12)
 have HF12:=Lib.hid hf12
 have HGT12:=Lib.hid (hg12.heap (by exact HGT11.out) (by simp;exact ⟨hgt,hgf⟩))
 clear hb12 hg12 hf12 hl hx12 HB11 HG11 HGT11 HF11
 have d:w12.cell? ⟨tw,18,none⟩=some (.int .i64 th.dj):=wb_cell HB12.out 18 _ rfl
 go_wp2
 go_region_held3 (fun w'=>w'.cell? ⟨tw,18,none⟩=some (.int .i64 th.dj)) (first | exact d | assumption) ((first | (go_at_call 117;refine (us_devMajor tw 23 _).mono ?_;rintro e u ⟨rfl,rfl⟩) | (go_at_call 130;refine (fmtN_us tw f B sn kb htf hBt hBf _ _ _ 23 329 8 _ th.dj _ (by exact HB12.out) rfl (by rw [OK12.length];decide) (OK12.zero_dj rfl) (by decide) (by exact HE.out.chg (HG12.out.drew) hBS) (by exact HF12.out) Q13).mono ?_;rintro e w13 ⟨rfl,⟨x13,hx13,hb13⟩,hf13,hg13⟩;have d':=wb_cell hb13 18 _ rfl)))
 clear d d'
 have hl:x13.length=8:=hx13.1
 rw [OK12.put_dj _ hl] at hb13
 have OK13:=OK12.set_dj _ hl
 have HX13:=Lib.hid hx13
 have HB13:=Lib.hid hb13
 have HG13:=Lib.hid (HG12.out.drew.trans hg13)
 have HF13:=Lib.hid hf13
 have HGT13:=Lib.hid (hg13.heap (by exact HGT12.out) (by simp;exact ⟨hgt,hgf⟩))
 clear hb13 hg13 hf13 hl hx13 HB12 HG12 HGT12 HF12
 have d:w13.cell? ⟨tw,19,none⟩=some (.int .i64 th.dn):=wb_cell HB13.out 19 _ rfl
 go_wp2
 go_region_held3 (fun w'=>w'.cell? ⟨tw,19,none⟩=some (.int .i64 th.dn)) (first | exact d | assumption) ((first | (go_at_call 118;refine (us_devMinor tw 23 _).mono ?_;rintro e u ⟨rfl,rfl⟩) | (go_at_call 130;refine (fmtN_us tw f B sn kb htf hBt hBf _ _ _ 23 337 8 _ th.dn _ (by exact HB13.out) rfl (by rw [OK13.length];decide) (OK13.zero_dn rfl) (by decide) (by exact HE.out.chg (HG13.out.drew) hBS) (by exact HF13.out) Q14).mono ?_;rintro e w14 ⟨rfl,⟨x14,hx14,hb14⟩,hf14,hg14⟩;have d':=wb_cell hb14 19 _ rfl)))
 clear d d'
 have hl:x14.length=8:=hx14.1
 rw [OK13.put_dn _ hl] at hb14
 have OK14:=OK13.set_dn _ hl
 have HX14:=Lib.hid hx14
 have HB14:=Lib.hid hb14
 have HG14:=Lib.hid (HG13.out.drew.trans hg14)
 have HF14:=Lib.hid hf14
 have HGT14:=Lib.hid (hg14.heap (by exact HGT13.out) (by simp;exact ⟨hgt,hgf⟩))
 clear hb14 hg14 hf14 hl hx14 HB13 HG13 HGT13 HF13
 go_wp2
 go_ret
 exact ⟨rfl,⟨_,⟨OK14,HX4.out,HX5.out,HX6.out,HX7.out,HX8.out,HX9.out,by rw [HTT.out];exact HX10.out,HX11.out,HX12.out,HX13.out,HX14.out,rfl,rfl,rfl,rfl,rfl⟩,HB14.out⟩,HF14.out,HG14.out⟩
set_option maxRecDepth 100000 in
set_option maxHeartbeats 4000000 in
theorem template_usZ (tw f B:Nat) (sn:Nat→Addr) (kb:Nat) (htf:f≠tw) (hBt:B≤tw) (hBf:B≤f) (c0 c1 c2 er:Value) (th:TH) (L:List UInt8) (w:World) (h:WB tw c0 c1 c2 th L er w) (hL:L.length=512) (hE:Env B sn kb w) (hF:FAt f .nilIface w)
  (hm:th.mn < 1000000000) (hs1 : -4000000000000000000≤th.ms) (hs2:th.ms≤4000000000000000000) (hQ:TmQ (fun n s=>s.size≤n) fit8 th) (hz:(th.ms=-62135596800∧th.mn=0)) :
  Calls Tryz.prog 128 #[.pointer (some ⟨tw,0,none⟩),.pointer (some ⟨tw,3,none⟩),.func (.func 129) #[.pointer (some ⟨f,0,none⟩)] #[],.func (.func 130) #[.pointer (some ⟨f,0,none⟩)] #[]] w fun e w'=>
   e=.returned (.pointer (some ⟨tw,23,none⟩))∧(∃b,TmOk (fun n s x=>x=txt n s) OctOut th b∧WB tw c0 c1 c2 th b.bytes er w')∧(FAt f .nilIface w')∧Chg [tw,f] w w':=by
 obtain ⟨Q4,Q5,Q6,Q7,Q8,Q9,Q10,Q11,Q12,Q13,Q14⟩:=hQ
 have m0:w.cell? ⟨tw,12,none⟩=some (.int .u64 th.mn):=wb_cell h 12 _ rfl
 have m1:w.cell? ⟨tw,13,none⟩=some (.int .i64 (th.ms+62135596800)):=wb_cell h 13 _ rfl
 have hzd:decide (th.ms=-62135596800∧th.mn=0)=true:=decide_eq_true hz
 have hT:th.mts=0:=if_pos hz
 rw [hT] at Q10
 have HTT:=Lib.hid hT
 have H:=Lib.hid h;have HE:=Lib.hid hE;have HF:=Lib.hid hF
 have TQ4:=Q4;have TQ5:=Q5;have TQ11:=Q11;have TQ12:=Q12
 have hfl:f < w.heap.size:=(Array.getElem?_eq_some_iff.1 hF).1
 clear h hE hF hz hT
 go_enter Tryz.func128,Tryz.ntmps128
 go_wp2_with (first
  | (go_at_call 173;refine (reset_any tw 134 _ _ L 23 _ H.out rfl hL).mono ?_;rintro e w1 ⟨rfl,hb1,hg1⟩;have m0:=wb_cell hb1 12 _ rfl;have m1:=wb_cell hb1 13 _ rfl)
  | (go_at_call 74;refine (isZero_any th.ms th.mn _ hm hs1 hs2).mono ?_;rw [hzd];rintro e w2 ⟨rfl,hg2⟩)
  | (go_at_call 70;refine (unix_any 0 0 _ (by decide) (by decide) (by decide)).mono ?_;rintro e w2z ⟨rfl,hg2z⟩;simp only [tm];have hgtz:=hg2z.heap (hg2.heap (heap_alloc_new w1 _) (by simp)) (by simp);have z0:=cell_heap hgtz 0;have z1:=cell_heap hgtz 1;have zf0:=frozen_heap hgtz 0;have zf1:=frozen_heap hgtz 1)
  | (go_at_call 106;refine (toV7 tw 23 _).mono ?_;rintro e w3 ⟨rfl,rfl⟩))
 have hgs:=heap_setCell_at (heap_setCell_at hgtz 0 (.int .u64 0)) 1 (.int .i64 62135596800)
 have hbs:=hb1.chg (((Chg.refl [] w1).alloc (.cells #[.int .u64 th.mn,.int .i64 (th.ms+62135596800)] 126)).trans (hg2.trans hg2z)) (by simp)
 have htl:tw < w1.heap.size:=(Array.getElem?_eq_some_iff.1 hb1).1
 have hgz:=((((hg1.mono (S':= [tw,f]) (by simp)).trans (((Chg.refl [] w1).alloc (.cells #[.int .u64 th.mn,.int .i64 (th.ms+62135596800)] 126)).mono (by simp))).trans (hg2.mono (by simp))).trans (hg2z.mono (by simp)))
 have hgz1:=(hgz.setCell (p:=⟨w1.heap.size,0,none⟩) (.inr hg1.size) (.int .u64 0)).setCell (p:=⟨w1.heap.size,1,none⟩) (.inr hg1.size) (.int .i64 62135596800)
 have HB2:=Lib.hid (show WB tw c0 c1 c2 th (List.replicate 512 0) er ((w2z.setCell ⟨w1.heap.size,0,none⟩ (.int .u64 0)).setCell ⟨w1.heap.size,1,none⟩ (.int .i64 62135596800)) from by
  unfold WB BlkIn
  rw [Below.heap_setCell _ _ _ _ (show tw≠w1.heap.size by omega),Below.heap_setCell _ _ _ _ (show tw≠w1.heap.size by omega)]
  exact hbs)
 have HG2:=Lib.hid hgz1
 have HGT:=Lib.hid (show ((w2z.setCell ⟨w1.heap.size,0,none⟩ (.int .u64 0)).setCell ⟨w1.heap.size,1,none⟩ (.int .i64 62135596800)).heap[w1.heap.size]? =some (.cells #[.int .u64 0,.int .i64 62135596800] 126 (0,0)) from hgs)
 have hfl1:f < w1.heap.size:=Nat.lt_of_lt_of_le hfl hg1.size
 have HF2:=Lib.hid (HG2.out)
 clear HF2
 have hFF:=HF.out
 have HF2:=Lib.hid (show FAt f .nilIface ((w2z.setCell ⟨w1.heap.size,0,none⟩ (.int .u64 0)).setCell ⟨w1.heap.size,1,none⟩ (.int .i64 62135596800)) from by
  unfold FAt
  rw [Below.heap_setCell _ _ _ _ (show f≠w1.heap.size by omega),Below.heap_setCell _ _ _ _ (show f≠w1.heap.size by omega)]
  exact hg2z.heap (hg2.heap ((Chg.refl [] w1).alloc _ |>.heap (hg1.heap hFF (by simp;exact htf)) (by simp)) (by simp)) (by simp))
 generalize ((w2z.setCell ⟨w1.heap.size,0,none⟩ (.int .u64 0)).setCell ⟨w1.heap.size,1,none⟩ (.int .i64 62135596800))=w3z at HB2 HG2 HGT HF2⊢
 clear hb1 hg1 hg2 hg2z m0 m1 hgs hbs hgz hgz1 hgtz z0 z1 zf0 zf1 hFF
 have d3:w3z.cell? ⟨tw,3,none⟩=some (.int .u8 th.tf.toNat):=wb_cell HB2.out 3 _ rfl
 have d179:w3z.cell? ⟨tw,179,none⟩=some (bv 0):=by have:=HB2.out.cell 23 156 rfl (by simp);simpa using this
 have f179:w3z.frozen? ⟨tw,179,none⟩=false:=HB2.out.frozen 179
 go_wp2
 go_region_held3 (fun w'=>w'.cell? ⟨tw,3,none⟩=some (.int .u8 th.tf.toNat)) (first | exact d3 | simpa [go_sem] using d3) ((first | (go_at_call 174;refine (v7_typeFlag tw 23 _).mono ?_;rintro e w3 ⟨rfl,rfl⟩)))
 have HB3:=Lib.hid (show WB tw c0 c1 c2 th ({ HB.zero with tf:= [th.tf] }:HB).bytes er ((w3z.setCell ⟨tw,179,none⟩ (.int .u8 th.tf.toNat)).drew) from by
  have h1:=HB2.out.set 23 156 th.tf rfl (by simp)
  rw [set_splice _ _ _ (by simp),←HB.zero_bytes,HB.zero_ok.put_tf [th.tf] rfl] at h1
  exact h1)
 have HG3:=Lib.hid (show Chg [tw,f] w ((w3z.setCell ⟨tw,179,none⟩ (.int .u8 th.tf.toNat)).drew) from (HG2.out.setCell (.inl (by simp)) _).drew)
 have HF3:=Lib.hid (show FAt f .nilIface ((w3z.setCell ⟨tw,179,none⟩ (.int .u8 th.tf.toNat)).drew) from (Below.heap_setCell _ _ _ _ (by show f≠tw;exact htf)).trans HF2.out)
 have hgt3:((w3z.setCell ⟨tw,179,none⟩ (.int .u8 th.tf.toNat)).drew).heap[w1.heap.size]? =_:=(Below.heap_setCell _ _ _ _ (by show w1.heap.size≠tw;omega)).trans HGT.out
 generalize (w3z.setCell ⟨tw,179,none⟩ (.int .u8 th.tf.toNat)).drew=w3 at HB3 HG3 hgt3 HF3⊢
 have HGT3:=Lib.hid hgt3
 clear hgt3 d3 d179 f179 HB2 HG2 HGT HF2 HF
 have OK3:=HB.zero_ok.set_tf [th.tf] rfl
 generalize w1.heap.size=g at HGT3 htl hfl1⊢
 have hgt:g≠tw:=by omega
 have hgf:g≠f:=by omega
 have hBS:∀i∈ [tw,f],B≤i:=by simp;exact ⟨hBt,hBf⟩
 have d:w3.cell? ⟨tw,4,none⟩=some (.string th.name):=wb_cell HB3.out 4 _ rfl
 go_wp2
 go_region_held3 (fun w'=>w'.cell? ⟨tw,4,none⟩=some (.string th.name)) (first | exact d | assumption) ((first | (go_at_call 109;refine (v7_name tw 23 _).mono ?_;rintro e u ⟨rfl,rfl⟩) | (go_at_call 129;refine (fmtS_us tw f B sn kb htf hBt hBf _ _ _ 23 0 100 _ th.name _ (by exact HB3.out) rfl (by rw [OK3.length];decide) (OK3.zero_nm rfl) (by decide) (by decide) (by exact HE.out.chg (HG3.out.drew) hBS) (by exact HF3.out) Q4).mono ?_;rintro e w4 ⟨rfl,⟨x4,hx4,hb4⟩,hf4,hg4⟩;have d':=wb_cell hb4 4 _ rfl)))
 clear d d'
 have hl:x4.length=100:=(by have:=hx4;subst this;exact txt_length TQ4)
 rw [OK3.put_nm _ hl] at hb4
 have OK4:=OK3.set_nm _ hl
 have HX4:=Lib.hid hx4
 have HB4:=Lib.hid hb4
 have HG4:=Lib.hid (HG3.out.drew.trans hg4)
 have HF4:=Lib.hid hf4
 have HGT4:=Lib.hid (hg4.heap (by exact HGT3.out) (by simp;exact ⟨hgt,hgf⟩))
 clear hb4 hg4 hf4 hl hx4 HB3 HG3 HGT3 HF3
 have d:w4.cell? ⟨tw,5,none⟩=some (.string th.link):=wb_cell HB4.out 5 _ rfl
 go_wp2
 go_region_held3 (fun w'=>w'.cell? ⟨tw,5,none⟩=some (.string th.link)) (first | exact d | assumption) ((first | (go_at_call 110;refine (v7_linkName tw 23 _).mono ?_;rintro e u ⟨rfl,rfl⟩) | (go_at_call 129;refine (fmtS_us tw f B sn kb htf hBt hBf _ _ _ 23 157 100 _ th.link _ (by exact HB4.out) rfl (by rw [OK4.length];decide) (OK4.zero_ln rfl) (by decide) (by decide) (by exact HE.out.chg (HG4.out.drew) hBS) (by exact HF4.out) Q5).mono ?_;rintro e w5 ⟨rfl,⟨x5,hx5,hb5⟩,hf5,hg5⟩;have d':=wb_cell hb5 5 _ rfl)))
 clear d d'
 have hl:x5.length=100:=(by have:=hx5;subst this;exact txt_length TQ5)
 rw [OK4.put_ln _ hl] at hb5
 have OK5:=OK4.set_ln _ hl
 have HX5:=Lib.hid hx5
 have HB5:=Lib.hid hb5
 have HG5:=Lib.hid (HG4.out.drew.trans hg5)
 have HF5:=Lib.hid hf5
 have HGT5:=Lib.hid (hg5.heap (by exact HGT4.out) (by simp;exact ⟨hgt,hgf⟩))
 clear hb5 hg5 hf5 hl hx5 HB4 HG4 HGT4 HF4
 have d:w5.cell? ⟨tw,7,none⟩=some (.int .i64 th.mode):=wb_cell HB5.out 7 _ rfl
 go_wp2
 go_region_held3 (fun w'=>w'.cell? ⟨tw,7,none⟩=some (.int .i64 th.mode)) (first | exact d | assumption) ((first | (go_at_call 113;refine (v7_mode tw 23 _).mono ?_;rintro e u ⟨rfl,rfl⟩) | (go_at_call 130;refine (fmtN_us tw f B sn kb htf hBt hBf _ _ _ 23 100 8 _ th.mode _ (by exact HB5.out) rfl (by rw [OK5.length];decide) (OK5.zero_md rfl) (by decide) (by exact HE.out.chg (HG5.out.drew) hBS) (by exact HF5.out) Q6).mono ?_;rintro e w6 ⟨rfl,⟨x6,hx6,hb6⟩,hf6,hg6⟩;have d':=wb_cell hb6 7 _ rfl)))
 clear d d'
 have hl:x6.length=8:=hx6.1
 rw [OK5.put_md _ hl] at hb6
 have OK6:=OK5.set_md _ hl
 have HX6:=Lib.hid hx6
 have HB6:=Lib.hid hb6
 have HG6:=Lib.hid (HG5.out.drew.trans hg6)
 have HF6:=Lib.hid hf6
 have HGT6:=Lib.hid (hg6.heap (by exact HGT5.out) (by simp;exact ⟨hgt,hgf⟩))
 clear hb6 hg6 hf6 hl hx6 HB5 HG5 HGT5 HF5
 have d:w6.cell? ⟨tw,8,none⟩=some (.int .i64 th.uid):=wb_cell HB6.out 8 _ rfl
 go_wp2
 go_region_held3 (fun w'=>w'.cell? ⟨tw,8,none⟩=some (.int .i64 th.uid)) (first | exact d | assumption) ((first | (go_at_call 114;refine (v7_uid tw 23 _).mono ?_;rintro e u ⟨rfl,rfl⟩) | (go_at_call 130;refine (fmtN_us tw f B sn kb htf hBt hBf _ _ _ 23 108 8 _ th.uid _ (by exact HB6.out) rfl (by rw [OK6.length];decide) (OK6.zero_ui rfl) (by decide) (by exact HE.out.chg (HG6.out.drew) hBS) (by exact HF6.out) Q7).mono ?_;rintro e w7 ⟨rfl,⟨x7,hx7,hb7⟩,hf7,hg7⟩;have d':=wb_cell hb7 8 _ rfl)))
 clear d d'
 have hl:x7.length=8:=hx7.1
 rw [OK6.put_ui _ hl] at hb7
 have OK7:=OK6.set_ui _ hl
 have HX7:=Lib.hid hx7
 have HB7:=Lib.hid hb7
 have HG7:=Lib.hid (HG6.out.drew.trans hg7)
 have HF7:=Lib.hid hf7
 have HGT7:=Lib.hid (hg7.heap (by exact HGT6.out) (by simp;exact ⟨hgt,hgf⟩))
 clear hb7 hg7 hf7 hl hx7 HB6 HG6 HGT6 HF6
 have d:w7.cell? ⟨tw,9,none⟩=some (.int .i64 th.gid):=wb_cell HB7.out 9 _ rfl
 go_wp2
 go_region_held3 (fun w'=>w'.cell? ⟨tw,9,none⟩=some (.int .i64 th.gid)) (first | exact d | assumption) ((first | (go_at_call 115;refine (v7_gid tw 23 _).mono ?_;rintro e u ⟨rfl,rfl⟩) | (go_at_call 130;refine (fmtN_us tw f B sn kb htf hBt hBf _ _ _ 23 116 8 _ th.gid _ (by exact HB7.out) rfl (by rw [OK7.length];decide) (OK7.zero_gi rfl) (by decide) (by exact HE.out.chg (HG7.out.drew) hBS) (by exact HF7.out) Q8).mono ?_;rintro e w8 ⟨rfl,⟨x8,hx8,hb8⟩,hf8,hg8⟩;have d':=wb_cell hb8 9 _ rfl)))
 clear d d'
 have hl:x8.length=8:=hx8.1
 rw [OK7.put_gi _ hl] at hb8
 have OK8:=OK7.set_gi _ hl
 have HX8:=Lib.hid hx8
 have HB8:=Lib.hid hb8
 have HG8:=Lib.hid (HG7.out.drew.trans hg8)
 have HF8:=Lib.hid hf8
 have HGT8:=Lib.hid (hg8.heap (by exact HGT7.out) (by simp;exact ⟨hgt,hgf⟩))
 clear hb8 hg8 hf8 hl hx8 HB7 HG7 HGT7 HF7
 have d:w8.cell? ⟨tw,6,none⟩=some (.int .i64 th.size):=wb_cell HB8.out 6 _ rfl
 go_wp2
 go_region_held3 (fun w'=>w'.cell? ⟨tw,6,none⟩=some (.int .i64 th.size)) (first | exact d | assumption) ((first | (go_at_call 116;refine (v7_size tw 23 _).mono ?_;rintro e u ⟨rfl,rfl⟩) | (go_at_call 130;refine (fmtN_us tw f B sn kb htf hBt hBf _ _ _ 23 124 12 _ th.size _ (by exact HB8.out) rfl (by rw [OK8.length];decide) (OK8.zero_sz rfl) (by decide) (by exact HE.out.chg (HG8.out.drew) hBS) (by exact HF8.out) Q9).mono ?_;rintro e w9 ⟨rfl,⟨x9,hx9,hb9⟩,hf9,hg9⟩;have d':=wb_cell hb9 6 _ rfl)))
 clear d d'
 have hl:x9.length=12:=hx9.1
 rw [OK8.put_sz _ hl] at hb9
 have OK9:=OK8.set_sz _ hl
 have HX9:=Lib.hid hx9
 have HB9:=Lib.hid hb9
 have HG9:=Lib.hid (HG8.out.drew.trans hg9)
 have HF9:=Lib.hid hf9
 have HGT9:=Lib.hid (hg9.heap (by exact HGT8.out) (by simp;exact ⟨hgt,hgf⟩))
 clear hb9 hg9 hf9 hl hx9 HB8 HG8 HGT8 HF8
 have d:w9.cell? ⟨g,0,none⟩=some (.int .u64 0):=cell_heap HGT9.out 0
 have d2:w9.cell? ⟨g,1,none⟩=some (.int .i64 62135596800):=cell_heap HGT9.out 1
 go_wp2
 go_region_held3 (fun w'=>w'.cell? ⟨g,0,none⟩=some (.int .u64 0)∧w'.cell? ⟨g,1,none⟩=some (.int .i64 62135596800)) (first | exact ⟨d,d2⟩ | exact ⟨cell_heap (HGT9.out) 0,cell_heap (HGT9.out) 1⟩ | assumption) ((first | (go_at_call 119;refine (v7_modTime tw 23 _).mono ?_;rintro e u ⟨rfl,rfl⟩) | (go_at_call 103;refine (Unix_any (0) (0) _ (by decide) (by decide) (by decide)).mono ?_;rintro e u ⟨rfl,hu103⟩;have hk103:=And.intro (hu103.cell (p:=⟨g,0,none⟩) (by exact d) (by simp)) (hu103.cell (p:=⟨g,1,none⟩) (by exact d2) (by simp));have HU:=Lib.hid (show Chg [] w9 u from (Chg.drew (Chg.refl [] w9)).trans hu103);clear hu103) | (go_at_call 130;refine (fmtN_us tw f B sn kb htf hBt hBf _ _ _ 23 136 12 _ (0) _ (by exact HB9.out.chg HU.out (by simp)) rfl (by rw [OK9.length];decide) (OK9.zero_mt rfl) (by decide) (by exact HE.out.chg (HG9.out.trans (HU.out.mono (by simp))) hBS) (by exact HF9.out.chg HU.out (by simp)) Q10).mono ?_;rintro e w10 ⟨rfl,⟨x10,hx10,hb10⟩,hf10,hg10⟩;have hk104:=And.intro (hg10.cell (p:=⟨g,0,none⟩) (by exact hk103.1) (by simp;exact ⟨hgt,hgf⟩)) (hg10.cell (p:=⟨g,1,none⟩) (by exact hk103.2) (by simp;exact ⟨hgt,hgf⟩)))))
 clear d d2 hk103 hk104
 have hl:x10.length=12:=hx10.1
 rw [OK9.put_mt _ hl] at hb10
 have OK10:=OK9.set_mt _ hl
 have HX10:=Lib.hid hx10
 have HB10:=Lib.hid hb10
 have HG10:=Lib.hid ((HG9.out.trans (HU.out.mono (by simp))).trans hg10)
 have HF10:=Lib.hid hf10
 have HGT10:=Lib.hid (hg10.heap (by exact HU.out.heap HGT9.out (by simp)) (by simp;exact ⟨hgt,hgf⟩))
 clear hb10 hg10 hf10 hl hx10 HB9 HG9 HGT9 HF9
 have d:w10.cell? ⟨tw,10,none⟩=some (.string th.un):=wb_cell HB10.out 10 _ rfl
 go_wp2
 go_region_held3 (fun w'=>w'.cell? ⟨tw,10,none⟩=some (.string th.un)) (first | exact d | assumption) ((first | (go_at_call 111;refine (us_userName tw 23 _).mono ?_;rintro e u ⟨rfl,rfl⟩) | (go_at_call 129;refine (fmtS_us tw f B sn kb htf hBt hBf _ _ _ 23 265 32 _ th.un _ (by exact HB10.out) rfl (by rw [OK10.length];decide) (OK10.zero_un rfl) (by decide) (by decide) (by exact HE.out.chg (HG10.out.drew) hBS) (by exact HF10.out) Q11).mono ?_;rintro e w11 ⟨rfl,⟨x11,hx11,hb11⟩,hf11,hg11⟩;have d':=wb_cell hb11 10 _ rfl)))
 clear d d'
 have hl:x11.length=32:=(by have:=hx11;subst this;exact txt_length TQ11)
 rw [OK10.put_un _ hl] at hb11
 have OK11:=OK10.set_un _ hl
 have HX11:=Lib.hid hx11
 have HB11:=Lib.hid hb11
 have HG11:=Lib.hid (HG10.out.drew.trans hg11)
 have HF11:=Lib.hid hf11
 have HGT11:=Lib.hid (hg11.heap (by exact HGT10.out) (by simp;exact ⟨hgt,hgf⟩))
 clear hb11 hg11 hf11 hl hx11 HB10 HG10 HGT10 HF10
 have d:w11.cell? ⟨tw,11,none⟩=some (.string th.gn):=wb_cell HB11.out 11 _ rfl
 go_wp2
 go_region_held3 (fun w'=>w'.cell? ⟨tw,11,none⟩=some (.string th.gn)) (first | exact d | assumption) ((first | (go_at_call 112;refine (us_groupName tw 23 _).mono ?_;rintro e u ⟨rfl,rfl⟩) | (go_at_call 129;refine (fmtS_us tw f B sn kb htf hBt hBf _ _ _ 23 297 32 _ th.gn _ (by exact HB11.out) rfl (by rw [OK11.length];decide) (OK11.zero_gn rfl) (by decide) (by decide) (by exact HE.out.chg (HG11.out.drew) hBS) (by exact HF11.out) Q12).mono ?_;rintro e w12 ⟨rfl,⟨x12,hx12,hb12⟩,hf12,hg12⟩;have d':=wb_cell hb12 11 _ rfl)))
 clear d d'
 have hl:x12.length=32:=(by have:=hx12;subst this;exact txt_length TQ12)
 rw [OK11.put_gn _ hl] at hb12
 have OK12:=OK11.set_gn _ hl
 have HX12:=Lib.hid hx12
 have HB12:=Lib.hid hb12
 have HG12:=Lib.hid (HG11.out.drew.trans hg12)
 have HF12:=Lib.hid hf12
 have HGT12:=Lib.hid (hg12.heap (by exact HGT11.out) (by simp;exact ⟨hgt,hgf⟩))
 clear hb12 hg12 hf12 hl hx12 HB11 HG11 HGT11 HF11
 have d:w12.cell? ⟨tw,18,none⟩=some (.int .i64 th.dj):=wb_cell HB12.out 18 _ rfl
 go_wp2
 go_region_held3 (fun w'=>w'.cell? ⟨tw,18,none⟩=some (.int .i64 th.dj)) (first | exact d | assumption) ((first | (go_at_call 117;refine (us_devMajor tw 23 _).mono ?_;rintro e u ⟨rfl,rfl⟩) | (go_at_call 130;refine (fmtN_us tw f B sn kb htf hBt hBf _ _ _ 23 329 8 _ th.dj _ (by exact HB12.out) rfl (by rw [OK12.length];decide) (OK12.zero_dj rfl) (by decide) (by exact HE.out.chg (HG12.out.drew) hBS) (by exact HF12.out) Q13).mono ?_;rintro e w13 ⟨rfl,⟨x13,hx13,hb13⟩,hf13,hg13⟩;have d':=wb_cell hb13 18 _ rfl)))
 clear d d'
 have hl:x13.length=8:=hx13.1
 rw [OK12.put_dj _ hl] at hb13
 have OK13:=OK12.set_dj _ hl
 have HX13:=Lib.hid hx13
 have HB13:=Lib.hid hb13
 have HG13:=Lib.hid (HG12.out.drew.trans hg13)
 have HF13:=Lib.hid hf13
 have HGT13:=Lib.hid (hg13.heap (by exact HGT12.out) (by simp;exact ⟨hgt,hgf⟩))
 clear hb13 hg13 hf13 hl hx13 HB12 HG12 HGT12 HF12
 have d:w13.cell? ⟨tw,19,none⟩=some (.int .i64 th.dn):=wb_cell HB13.out 19 _ rfl
 go_wp2
 go_region_held3 (fun w'=>w'.cell? ⟨tw,19,none⟩=some (.int .i64 th.dn)) (first | exact d | assumption) ((first | (go_at_call 118;refine (us_devMinor tw 23 _).mono ?_;rintro e u ⟨rfl,rfl⟩) | (go_at_call 130;refine (fmtN_us tw f B sn kb htf hBt hBf _ _ _ 23 337 8 _ th.dn _ (by exact HB13.out) rfl (by rw [OK13.length];decide) (OK13.zero_dn rfl) (by decide) (by exact HE.out.chg (HG13.out.drew) hBS) (by exact HF13.out) Q14).mono ?_;rintro e w14 ⟨rfl,⟨x14,hx14,hb14⟩,hf14,hg14⟩;have d':=wb_cell hb14 19 _ rfl)))
 clear d d'
 have hl:x14.length=8:=hx14.1
 rw [OK13.put_dn _ hl] at hb14
 have OK14:=OK13.set_dn _ hl
 have HX14:=Lib.hid hx14
 have HB14:=Lib.hid hb14
 have HG14:=Lib.hid (HG13.out.drew.trans hg14)
 have HF14:=Lib.hid hf14
 have HGT14:=Lib.hid (hg14.heap (by exact HGT13.out) (by simp;exact ⟨hgt,hgf⟩))
 clear hb14 hg14 hf14 hl hx14 HB13 HG13 HGT13 HF13
 go_wp2
 go_ret
 exact ⟨rfl,⟨_,⟨OK14,HX4.out,HX5.out,HX6.out,HX7.out,HX8.out,HX9.out,by rw [HTT.out];exact HX10.out,HX11.out,HX12.out,HX13.out,HX14.out,rfl,rfl,rfl,rfl,rfl⟩,HB14.out⟩,HF14.out,HG14.out⟩
theorem template_us (tw f B:Nat) (sn:Nat→Addr) (kb:Nat) (htf:f≠tw) (hBt:B≤tw) (hBf:B≤f) (c0 c1 c2 er:Value) (th:TH) (L:List UInt8) (w:World) (h:WB tw c0 c1 c2 th L er w) (hL:L.length=512) (hE:Env B sn kb w) (hF:FAt f .nilIface w)
  (hm:th.mn < 1000000000) (hs1 : -4000000000000000000≤th.ms) (hs2:th.ms≤4000000000000000000) (hQ:TmQ (fun n s=>s.size≤n) fit8 th) :
  Calls Tryz.prog 128 #[.pointer (some ⟨tw,0,none⟩),.pointer (some ⟨tw,3,none⟩),.func (.func 129) #[.pointer (some ⟨f,0,none⟩)] #[],.func (.func 130) #[.pointer (some ⟨f,0,none⟩)] #[]] w fun e w'=>
   e=.returned (.pointer (some ⟨tw,23,none⟩))∧(∃b,TmOk (fun n s x=>x=txt n s) OctOut th b∧WB tw c0 c1 c2 th b.bytes er w')∧(FAt f .nilIface w')∧Chg [tw,f] w w':=by
 by_cases hz:th.ms=-62135596800∧th.mn=0
 ·exact template_usZ tw f B sn kb htf hBt hBf c0 c1 c2 er th L w h hL hE hF hm hs1 hs2 hQ hz
 ·exact template_usN tw f B sn kb htf hBt hBf c0 c1 c2 er th L w h hL hE hF hm hs1 hs2 hQ hz
end Go.Proofs.YtkanmkcojlefbaaGreatDoor
