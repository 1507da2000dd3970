/-
  readHeader (148) over a block of GNU (printed by genrhg.py).
-/
import Derived.Test.YtkanmkcojlefbaaGreatDoorJ11
set_option linter.unusedVariables false
namespace Go.Proofs.YtkanmkcojlefbaaGreatDoor
open Go.RowKit
def RdT (l:List UInt8) (s:Int):Prop:=(l[0]? =some 0∧s=-62135596800)∨∃c,l[0]? =some c∧c≠0∧ParsesN l s∧-4000000000000000000≤s∧s≤4000000000000000000
structure RdG (h:HB) (ats cts:Int):Prop where
 at':RdT (h.px.take 12) ats
 ct:RdT ((h.px.drop 12).take 12) cts
set_option maxRecDepth 100000 in
set_option maxHeartbeats 8000000 in
theorem readHeader_gnu (tr br rr dr:Nat) (pad:Int) (cs:Array Value) (D:List UInt8) (i:Nat) (h:HB) (tf:UInt8) (size mode uid gid ms dj dn:Int) (ats cts:Int) (HX:RdG h ats cts) (w:World) (hT:TarAt tr br rr pad cs w) (hr:RdrAt br dr D i w) (hD:(D.drop i).take 512=h.bytes) (H:RdC true h tf size mode uid gid ms dj dn) (htb:tr≠br) (htd:tr≠dr) :
  Calls Tryz.prog 148 #[.pointer (some ⟨tr,0,none⟩)] w fun e w'=>(∃hp,e=.returned (.tuple #[.pointer (some ⟨hp,0,none⟩),.pointer (some ⟨tr,3,none⟩),.nilIface])∧w.heap.size≤hp∧HdrB hp (rdTH tf (strOf h.nm) (strOf h.ln) size mode uid gid (strOf h.un) (strOf h.gn) ms ats cts dj dn 8) w')∧
   RdrAt br dr D (i+512) w'∧(∃cs',TarAt tr br rr pad cs' w')∧Chg [br,tr] w w':=by
 have hlen:=H.rb.ok.length
 have hi:i+512≤D.length:=by
  have:=congrArg List.length hD
  rw [hlen,List.length_take,List.length_drop] at this
  omega
 have hsz:=hT.size
 have d0:w.cell? ⟨tr,0,none⟩=some (.iface 84 (.pointer (some ⟨br,0,none⟩))):=by rw [cell_heap hT.heap];exact hT.c0
 have hnz:(h.bytes == List.replicate 512 0)=false:=bytes_ne H.rb
 have HT:=Lib.hid hT;have HR:=Lib.hid hr;have HD:=Lib.hid hD;have HC:=Lib.hid H;have HL:=Lib.hid hlen;have HSZ:=Lib.hid hsz;have HNZ:=Lib.hid hnz;have HXX:=Lib.hid HX
 clear hT hr hD H hlen hsz hnz HX
 go_enter Tryz.func148,Tryz.ntmps148
 go_wp2
 go_region_with (first | (go_at_call 196;refine (readFull_ok br dr D i tr 3 512 512 cs 152 _ (by exact HR.out) (by omega) (by exact HT.out.heap) htb htd (by omega) (by omega) (by unfold maxLen;omega) (by rw [HSZ.out];omega)).mono ?_;rintro e w1 ⟨rfl,h1,h2,h3⟩))
 rw [HD.out] at h2
 have H1:=HT.out.spliced h.bytes (by rw [HL.out];omega) h2
 have hrow:=blk_row h.bytes (by rw [HSZ.out,HL.out];omega) h2
 have hblk:=tar_blk h.bytes HL.out HSZ.out h2
 have hch1:Chg [br,tr] w w1:=(Chg.refl _ w).drew.trans h3
 have hz1:=hch1.size
 generalize hc1:(splice cs.toList 3 (bvs h.bytes)).toArray=cs1 at*
 have d0:w1.cell? ⟨tr,0,none⟩=some (.iface 84 (.pointer (some ⟨br,0,none⟩))):=by rw [cell_heap H1.heap];exact H1.c0
 have HR1:=Lib.hid h1;have HT1:=Lib.hid H1;have HROW:=Lib.hid hrow;have HCH1:=Lib.hid hch1;have HBLK:=Lib.hid hblk
 clear h1 h2 h3 H1 hrow hch1 hc1 hblk
 go_wp2
 have HA:Hid (∀i,i < h.bytes.length→((w1.alloc (.cells Tryz.zeroCells132 132)).drew).cell? ((⟨tr,3,none⟩:Addr).add i)=(h.bytes[i]?).map bv):=fun i hi=>by
  have hq:=HROW.out i hi
  rw [add_addr] at hq⊢
  exact (World.cell?_alloc_lt w1 (.cells Tryz.zeroCells132 132) ⟨tr,3+i,none⟩ (Array.getElem?_eq_some_iff.1 HT1.out.heap).1).trans hq
 obtain ⟨Z,hZ⟩:∃Z:List UInt8,Z=List.replicate 512 0:=⟨_,rfl⟩
 have HZ:=Lib.hid hZ
 have HZL:=Lib.hid (show Z.length=512 by rw [hZ];simp)
 have hnz2:(h.bytes == Z)=false:=by rw [hZ];exact HNZ.out
 clear hZ
 have HB:Hid (∀i,i < Z.length→((w1.alloc (.cells Tryz.zeroCells132 132)).drew).cell? ((⟨w1.heap.size,0,none⟩:Addr).add i)=(Z[i]?).map bv):=fun i hi=>zero_row w1 Z HZ.out i
 go_region_with (first | (go_at_call 197;refine (row_equal ⟨tr,3,none⟩ ⟨w1.heap.size,0,none⟩ 512 512 512 512 h.bytes Z _ HL.out HZL.out HA.out HB.out).mono ?_;rintro e w2 ⟨rfl,rfl⟩))
 have hch2:Chg [] w1 (w1.alloc (.cells Tryz.zeroCells132 132)).drew:=((Chg.refl _ w1).alloc _).drew
 clear HA HB HROW
 generalize (w1.alloc (.cells Tryz.zeroCells132 132)).drew=w2 at*
 have HC2:=Lib.hid hch2
 clear hch2
 have f9:=HBLK.out.chg HC2.out (by simp)
 have HB2:=Lib.hid f9
 clear f9
 go_upto_region 14 with (go_at_call 198;refine (getFormat_any true tr 152 _ _ h 3 _ HB2.out (tar_pre HSZ.out) HC.out.rb).mono ?_;rintro e w3 ⟨rfl,hc3⟩;have HC3:=Lib.hid (HC2.out.trans hc3);clear hc3)
 go_upto_region 16 with (fail)
 have hS:RhS w3 w3.heap.size (w3.heap.size+1) (rdTH 0 ⟨#[]⟩ ⟨#[]⟩ 0 0 0 0 ⟨#[]⟩ ⟨#[]⟩ (-62135596800) (-62135596800) (-62135596800) 0 0 0) ((w3.alloc (.cells #[.nilIface] 231)).alloc (.cells zc130 130)):=rhs_start w3
 have hlo:w3.heap.size=w3.heap.size:=rfl
 generalize hpb:w3.heap.size=pb at*
 have HPB:=Lib.hid hpb
 clear hpb hlo
 generalize (w3.alloc (.cells #[.nilIface] 231)).alloc (.cells zc130 130)=w4 at*
 have HBW:Hid (∀w',Chg [] w3 w'→BlkIn tr 152 (cs.toList.take 3) h.bytes (cs.toList.drop 515) w'):=fun w' hc=>(HBLK.out.chg HC3.out (by simp)).chg hc (by simp)
 have c0:=hS.c 0 _ rfl;have f0:=hS.f 0
 have HS:=Lib.hid hS
 clear hS
 have d159:w4.cell? ⟨tr,159,none⟩=some (.int .u8 tf.toNat):=by
  have hq:=(HBW.out _ HS.out.chg).cell 3 156 (tar_pre HSZ.out) (by rw [HL.out];decide)
  rw [show (3+156:Nat)=159 from rfl] at hq
  rw [hq,HC.out.rb.ok.get_tf 0 (by decide),HC.out.tf]
  rfl
 go_upto_region 18 with (first | (go_at_call 106;refine (toV7 tr 3 _).mono ?_;rintro e u ⟨rfl,rfl⟩) | (go_at_call 174;refine (v7_typeFlag tr 3 _).mono ?_;rintro e u ⟨rfl,rfl⟩))
 have hS:=HS.out.set 0 (.int .u8 tf.toNat) (rdTH tf ⟨#[]⟩ ⟨#[]⟩ 0 0 0 0 ⟨#[]⟩ ⟨#[]⟩ (-62135596800) (-62135596800) (-62135596800) 0 0 0) rfl
 clear c0 f0 HS d159
 generalize World.setCell _ _ (Value.int .u8 tf.toNat)=w5 at*
 have c1:=hS.c 1 _ rfl;have f1:=hS.f 1
 have HS:=Lib.hid hS
 clear hS
 go_upto_region 19 with (first | (go_at_call 109;refine (v7_name tr 3 _).mono ?_;rintro e u ⟨rfl,rfl⟩) | (go_at_call 153;refine (parseString_any _ tr (3+0) 100 512 h.nm _ (fld_nm (HBW.out _ (HS.out).chg) (tar_pre HSZ.out) HC.out.rb.ok) HC.out.rb.ok.nm (by decide) (by decide)).mono ?_;rintro e u ⟨rfl,rfl⟩))
 have hS:=HS.out.set 1 (.string (strOf h.nm)) (rdTH tf (strOf h.nm) ⟨#[]⟩ 0 0 0 0 ⟨#[]⟩ ⟨#[]⟩ (-62135596800) (-62135596800) (-62135596800) 0 0 0) rfl
 clear c1 f1 HS
 change RhS w3 pb (pb+1) (rdTH tf (strOf h.nm) ⟨#[]⟩ 0 0 0 0 ⟨#[]⟩ ⟨#[]⟩ (-62135596800) (-62135596800) (-62135596800) 0 0 0) (World.setCell _ _ (Value.string ⟨(cstr h.nm).toArray⟩)) at hS
 generalize World.setCell _ _ (Value.string ⟨(cstr h.nm).toArray⟩)=w6 at*
 have c2:=hS.c 2 _ rfl;have f2:=hS.f 2
 have HS:=Lib.hid hS
 clear hS
 go_upto_region 20 with (first | (go_at_call 110;refine (v7_linkName tr 3 _).mono ?_;rintro e u ⟨rfl,rfl⟩) | (go_at_call 153;refine (parseString_any _ tr (3+157) 100 355 h.ln _ (fld_ln (HBW.out _ (HS.out).chg) (tar_pre HSZ.out) HC.out.rb.ok) HC.out.rb.ok.ln (by decide) (by decide)).mono ?_;rintro e u ⟨rfl,rfl⟩))
 have hS:=HS.out.set 2 (.string (strOf h.ln)) (rdTH tf (strOf h.nm) (strOf h.ln) 0 0 0 0 ⟨#[]⟩ ⟨#[]⟩ (-62135596800) (-62135596800) (-62135596800) 0 0 0) rfl
 clear c2 f2 HS
 change RhS w3 pb (pb+1) (rdTH tf (strOf h.nm) (strOf h.ln) 0 0 0 0 ⟨#[]⟩ ⟨#[]⟩ (-62135596800) (-62135596800) (-62135596800) 0 0 0) (World.setCell _ _ (Value.string ⟨(cstr h.ln).toArray⟩)) at hS
 generalize World.setCell _ _ (Value.string ⟨(cstr h.ln).toArray⟩)=w7 at*
 have HS:=Lib.hid hS
 clear hS
 go_upto_region 21 with (first | (go_at_call 116;refine (v7_size tr 3 _).mono ?_;rintro e u ⟨rfl,rfl⟩) | (go_at_call 199;refine (HC.out.sz _ tr (3+124) 12 388 _ (fld_sz (HBW.out _ (HS.out).chg) (tar_pre HSZ.out) HC.out.rb.ok) HC.out.rb.ok.sz (by decide) (by decide) (by decide)).mono ?_;rintro e u ⟨rfl,hcu⟩;have hS:=HS.out.on hcu;have c3:=hS.c 3 _ rfl;have f3:=hS.f 3;have HS:=Lib.hid hS;clear hS hcu))
 have hS:=HS.out.set 3 (.int .i64 size) (rdTH tf (strOf h.nm) (strOf h.ln) size 0 0 0 ⟨#[]⟩ ⟨#[]⟩ (-62135596800) (-62135596800) (-62135596800) 0 0 0) rfl
 clear c3 f3 HS
 generalize World.setCell _ _ (Value.int .i64 size)=w8 at*
 have HS:=Lib.hid hS
 clear hS
 go_upto_region 22 with (first | (go_at_call 113;refine (v7_mode tr 3 _).mono ?_;rintro e u ⟨rfl,rfl⟩) | (go_at_call 199;refine (HC.out.md _ tr (3+100) 8 412 _ (fld_md (HBW.out _ (HS.out).chg) (tar_pre HSZ.out) HC.out.rb.ok) HC.out.rb.ok.md (by decide) (by decide) (by decide)).mono ?_;rintro e u ⟨rfl,hcu⟩;have hS:=HS.out.on hcu;have c4:=hS.c 4 _ rfl;have f4:=hS.f 4;have HS:=Lib.hid hS;clear hS hcu))
 have hS:=HS.out.set 4 (.int .i64 mode) (rdTH tf (strOf h.nm) (strOf h.ln) size mode 0 0 ⟨#[]⟩ ⟨#[]⟩ (-62135596800) (-62135596800) (-62135596800) 0 0 0) rfl
 clear c4 f4 HS
 generalize World.setCell _ _ (Value.int .i64 mode)=w9 at*
 have HS:=Lib.hid hS
 clear hS
 go_upto_region 23 with (first | (go_at_call 114;refine (v7_uid tr 3 _).mono ?_;rintro e u ⟨rfl,rfl⟩) | (go_at_call 199;refine (HC.out.ui _ tr (3+108) 8 404 _ (fld_ui (HBW.out _ (HS.out).chg) (tar_pre HSZ.out) HC.out.rb.ok) HC.out.rb.ok.ui (by decide) (by decide) (by decide)).mono ?_;rintro e u ⟨rfl,hcu⟩;have hS:=HS.out.on hcu;have c5:=hS.c 5 _ rfl;have f5:=hS.f 5;have HS:=Lib.hid hS;clear hS hcu))
 have hS:=HS.out.set 5 (.int .i64 uid) (rdTH tf (strOf h.nm) (strOf h.ln) size mode uid 0 ⟨#[]⟩ ⟨#[]⟩ (-62135596800) (-62135596800) (-62135596800) 0 0 0) rfl
 clear c5 f5 HS
 generalize World.setCell _ _ (Value.int .i64 uid)=w10 at*
 have HS:=Lib.hid hS
 clear hS
 go_upto_region 24 with (first | (go_at_call 115;refine (v7_gid tr 3 _).mono ?_;rintro e u ⟨rfl,rfl⟩) | (go_at_call 199;refine (HC.out.gi _ tr (3+116) 8 396 _ (fld_gi (HBW.out _ (HS.out).chg) (tar_pre HSZ.out) HC.out.rb.ok) HC.out.rb.ok.gi (by decide) (by decide) (by decide)).mono ?_;rintro e u ⟨rfl,hcu⟩;have hS:=HS.out.on hcu;have c6:=hS.c 6 _ rfl;have f6:=hS.f 6;have HS:=Lib.hid hS;clear hS hcu))
 have hS:=HS.out.set 6 (.int .i64 gid) (rdTH tf (strOf h.nm) (strOf h.ln) size mode uid gid ⟨#[]⟩ ⟨#[]⟩ (-62135596800) (-62135596800) (-62135596800) 0 0 0) rfl
 clear c6 f6 HS
 generalize World.setCell _ _ (Value.int .i64 gid)=w11 at*
 have HS:=Lib.hid hS
 clear hS
 go_upto_region 25 with (first | (go_at_call 119;refine (v7_modTime tr 3 _).mono ?_;rintro e u ⟨rfl,rfl⟩) | (go_at_call 199;refine (HC.out.mt _ tr (3+136) 12 376 _ (fld_mt (HBW.out _ (HS.out).chg) (tar_pre HSZ.out) HC.out.rb.ok) HC.out.rb.ok.mt (by decide) (by decide) (by decide)).mono ?_;rintro e u ⟨rfl,hcu⟩;have HS1:=Lib.hid (HS.out.on hcu);clear hcu) | (go_at_call 70;refine (unix0 ms _ HC.out.ms1 HC.out.ms2).mono ?_;rintro e u2 ⟨rfl,hcu⟩;have hS:=HS1.out.on hcu;have c9:=hS.c 9 _ rfl;have f9:=hS.f 9;have c10:=hS.c 10 _ rfl;have f10:=hS.f 10;have HS2:=Lib.hid hS;clear hS hcu))
 have hS:=(HS2.out.set 9 (.int .u64 ((0:Nat):Int)) _ rfl).set 10 (.int .i64 (ms+62135596800)) (rdTH tf (strOf h.nm) (strOf h.ln) size mode uid gid ⟨#[]⟩ ⟨#[]⟩ ms (-62135596800) (-62135596800) 0 0 0) rfl
 clear c9 f9 c10 f10 HS HS1 HS2
 have hS':RhS w3 pb (pb+1) (rdTH tf (strOf h.nm) (strOf h.ln) size mode uid gid ⟨#[]⟩ ⟨#[]⟩ ms (-62135596800) (-62135596800) 0 0 0) ((World.setCell u2 ⟨pb+1,9,none⟩ (Value.int .u64 0)).setCell ⟨pb+1,10,none⟩ (Value.int .i64 (ms+62135596800))):=hS
 clear hS
 have hS:=hS'
 clear hS'
 generalize (World.setCell u2 ⟨pb+1,9,none⟩ (Value.int .u64 0)).setCell ⟨pb+1,10,none⟩ (Value.int .i64 (ms+62135596800))=w12 at*
 go_upto_region 26 with (fail)
 go_upto_region 27 with (go_at_call 107;refine (toUSTAR tr 3 _).mono ?_;rintro e u ⟨rfl,rfl⟩)
 have c7:=hS.c 7 _ rfl;have f7:=hS.f 7
 have HS:=Lib.hid hS
 clear hS
 go_upto_region 28 with (first | (go_at_call 111;refine (us_userName tr 3 _).mono ?_;rintro e u ⟨rfl,rfl⟩) | (go_at_call 153;refine (parseString_any _ tr (3+265) 32 247 h.un _ (fld_un (HBW.out _ (HS.out).chg) (tar_pre HSZ.out) HC.out.rb.ok) HC.out.rb.ok.un (by decide) (by decide)).mono ?_;rintro e u ⟨rfl,rfl⟩))
 have hS:=HS.out.set 7 (.string (strOf h.un)) (rdTH tf (strOf h.nm) (strOf h.ln) size mode uid gid (strOf h.un) ⟨#[]⟩ ms (-62135596800) (-62135596800) 0 0 0) rfl
 clear c7 f7 HS
 change RhS w3 pb (pb+1) (rdTH tf (strOf h.nm) (strOf h.ln) size mode uid gid (strOf h.un) ⟨#[]⟩ ms (-62135596800) (-62135596800) 0 0 0) (World.setCell _ _ (Value.string ⟨(cstr h.un).toArray⟩)) at hS
 generalize World.setCell _ _ (Value.string ⟨(cstr h.un).toArray⟩)=w13 at*
 have c8:=hS.c 8 _ rfl;have f8:=hS.f 8
 have HS:=Lib.hid hS
 clear hS
 go_upto_region 29 with (first | (go_at_call 112;refine (us_groupName tr 3 _).mono ?_;rintro e u ⟨rfl,rfl⟩) | (go_at_call 153;refine (parseString_any _ tr (3+297) 32 215 h.gn _ (fld_gn (HBW.out _ (HS.out).chg) (tar_pre HSZ.out) HC.out.rb.ok) HC.out.rb.ok.gn (by decide) (by decide)).mono ?_;rintro e u ⟨rfl,rfl⟩))
 have hS:=HS.out.set 8 (.string (strOf h.gn)) (rdTH tf (strOf h.nm) (strOf h.ln) size mode uid gid (strOf h.un) (strOf h.gn) ms (-62135596800) (-62135596800) 0 0 0) rfl
 clear c8 f8 HS
 change RhS w3 pb (pb+1) (rdTH tf (strOf h.nm) (strOf h.ln) size mode uid gid (strOf h.un) (strOf h.gn) ms (-62135596800) (-62135596800) 0 0 0) (World.setCell _ _ (Value.string ⟨(cstr h.gn).toArray⟩)) at hS
 generalize World.setCell _ _ (Value.string ⟨(cstr h.gn).toArray⟩)=w14 at*
 have HS:=Lib.hid hS
 clear hS
 go_upto_region 30 with (first | (go_at_call 117;refine (us_devMajor tr 3 _).mono ?_;rintro e u ⟨rfl,rfl⟩) | (go_at_call 199;refine (HC.out.dj _ tr (3+329) 8 183 _ (fld_dj (HBW.out _ (HS.out).chg) (tar_pre HSZ.out) HC.out.rb.ok) HC.out.rb.ok.dj (by decide) (by decide) (by decide)).mono ?_;rintro e u ⟨rfl,hcu⟩;have hS:=HS.out.on hcu;have c15:=hS.c 15 _ rfl;have f15:=hS.f 15;have HS:=Lib.hid hS;clear hS hcu))
 have hS:=HS.out.set 15 (.int .i64 dj) (rdTH tf (strOf h.nm) (strOf h.ln) size mode uid gid (strOf h.un) (strOf h.gn) ms (-62135596800) (-62135596800) dj 0 0) rfl
 clear c15 f15 HS
 generalize World.setCell _ _ (Value.int .i64 dj)=w15 at*
 have HS:=Lib.hid hS
 clear hS
 go_upto_region 31 with (first | (go_at_call 118;refine (us_devMinor tr 3 _).mono ?_;rintro e u ⟨rfl,rfl⟩) | (go_at_call 199;refine (HC.out.dn _ tr (3+337) 8 175 _ (fld_dn (HBW.out _ (HS.out).chg) (tar_pre HSZ.out) HC.out.rb.ok) HC.out.rb.ok.dn (by decide) (by decide) (by decide)).mono ?_;rintro e u ⟨rfl,hcu⟩;have hS:=HS.out.on hcu;have c16:=hS.c 16 _ rfl;have f16:=hS.f 16;have HS:=Lib.hid hS;clear hS hcu))
 have hS:=HS.out.set 16 (.int .i64 dn) (rdTH tf (strOf h.nm) (strOf h.ln) size mode uid gid (strOf h.un) (strOf h.gn) ms (-62135596800) (-62135596800) dj dn 0) rfl
 clear c16 f16 HS
 generalize World.setCell _ _ (Value.int .i64 dn)=w16 at*
 go_upto_region 32 with (fail)
 have c19:=hS.c 19 _ rfl;have f19:=hS.f 19
 have HS:=Lib.hid hS
 clear hS
 go_upto_region 42 with (go_at_call 66;refine (has_gen 8 6 _).mono ?_;rw [show (bits .and .i64 8 6 != 0)=false from rfl];rintro e u ⟨rfl,rfl⟩)
 go_upto_region 47 with (go_at_call 66;refine (has_gen 8 16 _).mono ?_;rw [show (bits .and .i64 8 16 != 0)=false from rfl];rintro e u ⟨rfl,rfl⟩)
 go_upto_region 49 with (go_at_call 66;refine (has_gen 8 8 _).mono ?_;rw [show (bits .and .i64 8 8 != 0)=true from rfl];rintro e u ⟨rfl,rfl⟩)
 have hS:=HS.out.set 19 (.int .i64 8) (rdTH tf (strOf h.nm) (strOf h.ln) size mode uid gid (strOf h.un) (strOf h.gn) ms (-62135596800) (-62135596800) dj dn 8) rfl
 clear c19 f19 HS
 generalize World.setCell _ _ (Value.int .i64 8)=w17 at*
 have HS:=Lib.hid hS
 clear hS
 go_upto_region 50 with (fail)
 have hS:=HS.out.on ((Chg.refl [] w17).alloc (.cells #[.nilIface] 231))
 have hq0:(w17.alloc (.cells #[.nilIface] 231)).heap[w17.heap.size]? =some (.cells #[.nilIface] 231 (0,0)):=heap_alloc_new w17 _
 have hqp:w17.heap.size≠pb+1:=by have:=HS.out.hdr.lt;omega
 generalize hqb:w17.heap.size=qb at*
 clear hqb HS
 generalize w17.alloc (.cells #[.nilIface] 231)=w18 at*
 have HQ:=Lib.hid hq0
 clear hq0
 have HS:=Lib.hid hS
 clear hS
 have hfin:∀th' u,RhS w3 pb (pb+1) th' u→RdrAt br dr D (i+512) u∧(∃cs',TarAt tr br rr pad cs' u)∧Chg [br,tr] w u:=fun th' u hu=>by
  have hc:=HC3.out.trans hu.chg
  exact ⟨HR1.out.chg hc (by simp) (by simp),⟨cs1,HT1.out.chg hc (by simp)⟩,HCH1.out.trans (hc.mono (by simp))⟩
 have hpw:w.heap.size≤pb+1:=by have:=HC3.out.size;have:=HPB.out;omega
 have HFIN:=Lib.hid hfin;have HPW:=Lib.hid hpw
 clear hfin hpw
 have HPX:=Lib.hid (fld_px (HBW.out _ HS.out.chg) (tar_pre HSZ.out) HC.out.rb.ok)
 have HQP:=Lib.hid hqp
 clear hqp
 have q0:w18.cell? ⟨qb,0,none⟩=some .nilIface:=by rw [cell_heap HQ.out];rfl
 have HAT:=Lib.hid HXX.out.at';have HCT:=Lib.hid HXX.out.ct
 go_upto_region 52 with (first | (go_at_call 108;refine (toGNU tr 3 _).mono ?_;rintro e u ⟨rfl,rfl⟩) | (go_at_call 120;refine (gnu_accessTime tr 3 _).mono ?_;rintro e u ⟨rfl,rfl⟩))
 rcases HAT.out with ⟨hz,rfl⟩ | ⟨c,hc,hcn,hpa,hb1,hb2⟩
 ·skip
  have hby:ByAt tr 348 (h.px.take 12) w18:=(HPX.out.sub 0 12 (by rw [HC.out.rb.ok.px];decide))
  have hbl:(h.px.take 12).length=12:=by simp [HC.out.rb.ok.px]
  have d0:w18.cell? ⟨tr,348,none⟩=some (.int .u8 0):=by
   have hq:=hby 0 (by rw [hbl];decide)
   rw [Nat.add_zero] at hq
   rw [hq,(List.getElem?_eq_some_iff.1 hz).2]
   rfl
  clear hby hbl hz
  go_upto_region 54 with (fail)
  clear d0
  go_upto_region 55 with (go_at_call 121;refine (gnu_changeTime tr 3 _).mono ?_;rintro e u ⟨rfl,rfl⟩)
  rcases HCT.out with ⟨hz,rfl⟩ | ⟨c,hc,hcn,hpa,hb1,hb2⟩
  ·skip
   have hby:ByAt tr 360 ((h.px.drop 12).take 12) w18:=(HPX.out.sub 12 12 (by rw [HC.out.rb.ok.px];decide))
   have hbl:((h.px.drop 12).take 12).length=12:=by simp [HC.out.rb.ok.px]
   have d0:w18.cell? ⟨tr,360,none⟩=some (.int .u8 0):=by
    have hq:=hby 0 (by rw [hbl];decide)
    rw [Nat.add_zero] at hq
    rw [hq,(List.getElem?_eq_some_iff.1 hz).2]
    rfl
   clear hby hbl hz
   go_upto_region 57 with (fail)
   clear d0
   have p0:w18.cell? ⟨pb,0,none⟩=some .nilIface:=by rw [cell_heap HS.out.prs];rfl
   go_wp2
   go_quiet (fail)
   go_wp2
   go_ret3
   exact ⟨⟨_,rfl,HPW.out,(HS.out.on (Chg.drewNof _)).hdr⟩,HFIN.out _ _ (HS.out.on (Chg.drewNof _))⟩
  ·skip
   have hby:ByAt tr 360 ((h.px.drop 12).take 12) w18:=(HPX.out.sub 12 12 (by rw [HC.out.rb.ok.px];decide))
   have hbl:((h.px.drop 12).take 12).length=12:=by simp [HC.out.rb.ok.px]
   have d0:w18.cell? ⟨tr,360,none⟩=some (.int .u8 c.toNat):=by
    have hq:=hby 0 (by rw [hbl];decide)
    rw [Nat.add_zero] at hq
    rw [hq,(List.getElem?_eq_some_iff.1 hc).2]
   have hcz:((c.toNat:Int) != 0)=true:=by
    simp only [bne_iff_ne,ne_eq]
    intro e
    exact hcn (UInt8.toNat_inj.1 (by show _=0;omega))
   have HBY:=Lib.hid hby;have HBL:=Lib.hid hbl;have HPA:=Lib.hid hpa
   clear hby hbl hpa hc hcn
   go_upto_region 57 with (first | (go_at_call 199;refine (HPA.out _ tr 360 12 155 _ HBY.out HBL.out (by decide) (by decide) (by decide)).mono ?_;rintro e u ⟨rfl,hcu⟩;have HS1:=Lib.hid (HS.out.on hcu);have HQ1:=Lib.hid (hcu.heap HQ.out (by simp));clear hcu) | (go_at_call 70;refine (unix0 cts _ hb1 hb2).mono ?_;rintro e u2 ⟨rfl,hcu⟩;have hS:=HS1.out.on hcu;have c13:=hS.c 13 _ rfl;have f13:=hS.f 13;have c14:=hS.c 14 _ rfl;have f14:=hS.f 14;have HS2:=Lib.hid hS;have HQ2:=Lib.hid (hcu.heap HQ1.out (by simp));clear hS hcu))
   have hS:RhS w3 pb (pb+1) (rdTH tf (strOf h.nm) (strOf h.ln) size mode uid gid (strOf h.un) (strOf h.gn) ms (-62135596800) cts dj dn 8) ((World.setCell u2 ⟨pb+1,13,none⟩ (Value.int .u64 0)).setCell ⟨pb+1,14,none⟩ (Value.int .i64 (cts+62135596800))):=(HS2.out.set 13 (.int .u64 ((0:Nat):Int)) _ rfl).set 14 (.int .i64 (cts+62135596800)) (rdTH tf (strOf h.nm) (strOf h.ln) size mode uid gid (strOf h.un) (strOf h.gn) ms (-62135596800) cts dj dn 8) rfl
   have hq:((World.setCell u2 ⟨pb+1,13,none⟩ (Value.int .u64 0)).setCell ⟨pb+1,14,none⟩ (Value.int .i64 (cts+62135596800))).heap[qb]? =some (.cells #[.nilIface] 231 (0,0)):=(((Chg.refl [pb+1] u2).setCell (.inl (by simp)) _).setCell (.inl (by simp)) _).heap HQ2.out (by simp;exact HQP.out)
   clear c13 f13 c14 f14 HS HS1 HS2 HQ HQ1 HQ2 d0 hcz q0 HPX
   generalize ((World.setCell u2 ⟨pb+1,13,none⟩ (Value.int .u64 0)).setCell ⟨pb+1,14,none⟩ (Value.int .i64 (cts+62135596800)))=w19 at*
   have q0:w19.cell? ⟨qb,0,none⟩=some .nilIface:=by rw [cell_heap hq];rfl
   have HS:=Lib.hid hS;have HQ:=Lib.hid hq
   clear hS hq
   have HPX:=Lib.hid (fld_px (HBW.out _ HS.out.chg) (tar_pre HSZ.out) HC.out.rb.ok)
   have p0:w19.cell? ⟨pb,0,none⟩=some .nilIface:=by rw [cell_heap HS.out.prs];rfl
   go_wp2
   go_quiet (fail)
   go_wp2
   go_ret3
   exact ⟨⟨_,rfl,HPW.out,(HS.out.on (Chg.drewNof _)).hdr⟩,HFIN.out _ _ (HS.out.on (Chg.drewNof _))⟩
 ·skip
  have hby:ByAt tr 348 (h.px.take 12) w18:=(HPX.out.sub 0 12 (by rw [HC.out.rb.ok.px];decide))
  have hbl:(h.px.take 12).length=12:=by simp [HC.out.rb.ok.px]
  have d0:w18.cell? ⟨tr,348,none⟩=some (.int .u8 c.toNat):=by
   have hq:=hby 0 (by rw [hbl];decide)
   rw [Nat.add_zero] at hq
   rw [hq,(List.getElem?_eq_some_iff.1 hc).2]
  have hcz:((c.toNat:Int) != 0)=true:=by
   simp only [bne_iff_ne,ne_eq]
   intro e
   exact hcn (UInt8.toNat_inj.1 (by show _=0;omega))
  have HBY:=Lib.hid hby;have HBL:=Lib.hid hbl;have HPA:=Lib.hid hpa
  clear hby hbl hpa hc hcn
  go_upto_region 54 with (first | (go_at_call 199;refine (HPA.out _ tr 348 12 167 _ HBY.out HBL.out (by decide) (by decide) (by decide)).mono ?_;rintro e u ⟨rfl,hcu⟩;have HS1:=Lib.hid (HS.out.on hcu);have HQ1:=Lib.hid (hcu.heap HQ.out (by simp));clear hcu) | (go_at_call 70;refine (unix0 ats _ hb1 hb2).mono ?_;rintro e u2 ⟨rfl,hcu⟩;have hS:=HS1.out.on hcu;have c11:=hS.c 11 _ rfl;have f11:=hS.f 11;have c12:=hS.c 12 _ rfl;have f12:=hS.f 12;have HS2:=Lib.hid hS;have HQ2:=Lib.hid (hcu.heap HQ1.out (by simp));clear hS hcu))
  have hS:RhS w3 pb (pb+1) (rdTH tf (strOf h.nm) (strOf h.ln) size mode uid gid (strOf h.un) (strOf h.gn) ms ats (-62135596800) dj dn 8) ((World.setCell u2 ⟨pb+1,11,none⟩ (Value.int .u64 0)).setCell ⟨pb+1,12,none⟩ (Value.int .i64 (ats+62135596800))):=(HS2.out.set 11 (.int .u64 ((0:Nat):Int)) _ rfl).set 12 (.int .i64 (ats+62135596800)) (rdTH tf (strOf h.nm) (strOf h.ln) size mode uid gid (strOf h.un) (strOf h.gn) ms ats (-62135596800) dj dn 8) rfl
  have hq:((World.setCell u2 ⟨pb+1,11,none⟩ (Value.int .u64 0)).setCell ⟨pb+1,12,none⟩ (Value.int .i64 (ats+62135596800))).heap[qb]? =some (.cells #[.nilIface] 231 (0,0)):=(((Chg.refl [pb+1] u2).setCell (.inl (by simp)) _).setCell (.inl (by simp)) _).heap HQ2.out (by simp;exact HQP.out)
  clear c11 f11 c12 f12 HS HS1 HS2 HQ HQ1 HQ2 d0 hcz q0 HPX
  generalize ((World.setCell u2 ⟨pb+1,11,none⟩ (Value.int .u64 0)).setCell ⟨pb+1,12,none⟩ (Value.int .i64 (ats+62135596800)))=w19 at*
  have q0:w19.cell? ⟨qb,0,none⟩=some .nilIface:=by rw [cell_heap hq];rfl
  have HS:=Lib.hid hS;have HQ:=Lib.hid hq
  clear hS hq
  have HPX:=Lib.hid (fld_px (HBW.out _ HS.out.chg) (tar_pre HSZ.out) HC.out.rb.ok)
  go_upto_region 55 with (go_at_call 121;refine (gnu_changeTime tr 3 _).mono ?_;rintro e u ⟨rfl,rfl⟩)
  rcases HCT.out with ⟨hz,rfl⟩ | ⟨c,hc,hcn,hpa,hb1,hb2⟩
  ·skip
   have hby:ByAt tr 360 ((h.px.drop 12).take 12) w19:=(HPX.out.sub 12 12 (by rw [HC.out.rb.ok.px];decide))
   have hbl:((h.px.drop 12).take 12).length=12:=by simp [HC.out.rb.ok.px]
   have d0:w19.cell? ⟨tr,360,none⟩=some (.int .u8 0):=by
    have hq:=hby 0 (by rw [hbl];decide)
    rw [Nat.add_zero] at hq
    rw [hq,(List.getElem?_eq_some_iff.1 hz).2]
    rfl
   clear hby hbl hz
   go_upto_region 57 with (fail)
   clear d0
   have p0:w19.cell? ⟨pb,0,none⟩=some .nilIface:=by rw [cell_heap HS.out.prs];rfl
   go_wp2
   go_quiet (fail)
   go_wp2
   go_ret3
   exact ⟨⟨_,rfl,HPW.out,(HS.out.on (Chg.drewNof _)).hdr⟩,HFIN.out _ _ (HS.out.on (Chg.drewNof _))⟩
  ·skip
   have hby:ByAt tr 360 ((h.px.drop 12).take 12) w19:=(HPX.out.sub 12 12 (by rw [HC.out.rb.ok.px];decide))
   have hbl:((h.px.drop 12).take 12).length=12:=by simp [HC.out.rb.ok.px]
   have d0:w19.cell? ⟨tr,360,none⟩=some (.int .u8 c.toNat):=by
    have hq:=hby 0 (by rw [hbl];decide)
    rw [Nat.add_zero] at hq
    rw [hq,(List.getElem?_eq_some_iff.1 hc).2]
   have hcz:((c.toNat:Int) != 0)=true:=by
    simp only [bne_iff_ne,ne_eq]
    intro e
    exact hcn (UInt8.toNat_inj.1 (by show _=0;omega))
   have HBY:=Lib.hid hby;have HBL:=Lib.hid hbl;have HPA:=Lib.hid hpa
   clear hby hbl hpa hc hcn
   go_upto_region 57 with (first | (go_at_call 199;refine (HPA.out _ tr 360 12 155 _ HBY.out HBL.out (by decide) (by decide) (by decide)).mono ?_;rintro e u ⟨rfl,hcu⟩;have HS1:=Lib.hid (HS.out.on hcu);have HQ1:=Lib.hid (hcu.heap HQ.out (by simp));clear hcu) | (go_at_call 70;refine (unix0 cts _ hb1 hb2).mono ?_;rintro e u2 ⟨rfl,hcu⟩;have hS:=HS1.out.on hcu;have c13:=hS.c 13 _ rfl;have f13:=hS.f 13;have c14:=hS.c 14 _ rfl;have f14:=hS.f 14;have HS2:=Lib.hid hS;have HQ2:=Lib.hid (hcu.heap HQ1.out (by simp));clear hS hcu))
   have hS:RhS w3 pb (pb+1) (rdTH tf (strOf h.nm) (strOf h.ln) size mode uid gid (strOf h.un) (strOf h.gn) ms ats cts dj dn 8) ((World.setCell u2 ⟨pb+1,13,none⟩ (Value.int .u64 0)).setCell ⟨pb+1,14,none⟩ (Value.int .i64 (cts+62135596800))):=(HS2.out.set 13 (.int .u64 ((0:Nat):Int)) _ rfl).set 14 (.int .i64 (cts+62135596800)) (rdTH tf (strOf h.nm) (strOf h.ln) size mode uid gid (strOf h.un) (strOf h.gn) ms ats cts dj dn 8) rfl
   have hq:((World.setCell u2 ⟨pb+1,13,none⟩ (Value.int .u64 0)).setCell ⟨pb+1,14,none⟩ (Value.int .i64 (cts+62135596800))).heap[qb]? =some (.cells #[.nilIface] 231 (0,0)):=(((Chg.refl [pb+1] u2).setCell (.inl (by simp)) _).setCell (.inl (by simp)) _).heap HQ2.out (by simp;exact HQP.out)
   clear c13 f13 c14 f14 HS HS1 HS2 HQ HQ1 HQ2 d0 hcz q0 HPX
   generalize ((World.setCell u2 ⟨pb+1,13,none⟩ (Value.int .u64 0)).setCell ⟨pb+1,14,none⟩ (Value.int .i64 (cts+62135596800)))=w20 at*
   have q0:w20.cell? ⟨qb,0,none⟩=some .nilIface:=by rw [cell_heap hq];rfl
   have HS:=Lib.hid hS;have HQ:=Lib.hid hq
   clear hS hq
   have HPX:=Lib.hid (fld_px (HBW.out _ HS.out.chg) (tar_pre HSZ.out) HC.out.rb.ok)
   have p0:w20.cell? ⟨pb,0,none⟩=some .nilIface:=by rw [cell_heap HS.out.prs];rfl
   go_wp2
   go_quiet (fail)
   go_wp2
   go_ret3
   exact ⟨⟨_,rfl,HPW.out,(HS.out.on (Chg.drewNof _)).hdr⟩,HFIN.out _ _ (HS.out.on (Chg.drewNof _))⟩
end Go.Proofs.YtkanmkcojlefbaaGreatDoor
