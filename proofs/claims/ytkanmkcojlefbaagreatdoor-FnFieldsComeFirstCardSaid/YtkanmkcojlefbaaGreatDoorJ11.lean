/-
  readHeader (148): the header of a block that a Writer has sealed (printed by genrh.py).
-/
import Derived.Test.YtkanmkcojlefbaaGreatDoorJ08
import Derived.Test.YtkanmkcojlefbaaGreatDoorJ10
set_option linter.unusedVariables false
namespace Go.Proofs.YtkanmkcojlefbaaGreatDoor
open Go.RowKit
def strOf (l:List UInt8):ByteArray:=⟨(cstr l).toArray⟩
def rdTH (tf:UInt8) (name link:ByteArray) (size mode uid gid:Int) (un gn:ByteArray) (ms ats cts dj dn fmt:Int):TH:=
 { tf:=tf,name:=name,link:=link,size:=size,mode:=mode,uid:=uid,gid:=gid,un:=un,gn:=gn,ms:=ms,mn:=0,ats:=ats,atn:=0,cts:=cts,ctn:=0,dj:=dj,dn:=dn,xa:=.map none,recs:=.map none,fmt:=fmt }
structure RdC (gnu:Bool) (h:HB) (tf:UInt8) (size mode uid gid ms dj dn:Int):Prop where
 rb:RdB gnu h
 tf:h.tf= [tf]
 sz:ParsesN h.sz size
 md:ParsesN h.md mode
 ui:ParsesN h.ui uid
 gi:ParsesN h.gi gid
 mt:ParsesN h.mt ms
 dj:ParsesN h.dj dj
 dn:ParsesN h.dn dn
 ms1 : -4000000000000000000≤ms
 ms2:ms≤4000000000000000000
def thE:TH:=rdTH 0 ⟨#[]⟩ ⟨#[]⟩ 0 0 0 0 ⟨#[]⟩ ⟨#[]⟩ (-62135596800) (-62135596800) (-62135596800) 0 0 0
abbrev zc130:Array Value:=#[.int .u8 0,.string ⟨#[]⟩,.string ⟨#[]⟩,.int .i64 0,.int .i64 0,.int .i64 0,.int .i64 0,.string ⟨#[]⟩,.string ⟨#[]⟩,.int .u64 0,.int .i64 0,.int .u64 0,.int .i64 0,.int .u64 0,.int .i64 0,.int .i64 0,.int .i64 0,.map none,.map none,.int .i64 0]
theorem zero130:zc130=thE.cells.toArray:=by rfl
structure RhS (w1:World) (pb hp:Nat) (th:TH) (w:World):Prop where
 chg:Chg [] w1 w
 hdr:HdrB hp th w
 prs:w.heap[pb]? =some (.cells #[.nilIface] 231 (0,0))
 lo:w1.heap.size≤pb∧w1.heap.size≤hp∧pb≠hp
theorem RhS.on {w1:World} {pb hp:Nat} {th:TH} {w w':World} (h:RhS w1 pb hp th w) (k:Chg [] w w'):RhS w1 pb hp th w':=
 ⟨h.chg.trans k,h.hdr.chg k (by simp),k.heap h.prs (by simp),h.lo⟩
theorem RhS.set {w1:World} {pb hp:Nat} {th:TH} {w:World} (h:RhS w1 pb hp th w) (i:Nat) (v:Value) (th':TH) (e:th.cells.toArray.setIfInBounds i v=th'.cells.toArray):RhS w1 pb hp th' (w.setCell ⟨hp,i,none⟩ v):=
 ⟨h.chg.setCell (.inr h.lo.2.1) _,h.hdr.set i v th' e,(((Chg.refl [hp] w).setCell (.inl (by simp)) v)).heap h.prs (by simp;exact h.lo.2.2),h.lo⟩
theorem RhS.c {w1:World} {pb hp:Nat} {th:TH} {w:World} (h:RhS w1 pb hp th w) (i:Nat) (v:Value) (hv:th.cells[i]? =some v):w.cell? ⟨hp,i,none⟩=some v:=h.hdr.c i v hv
theorem RhS.f {w1:World} {pb hp:Nat} {th:TH} {w:World} (h:RhS w1 pb hp th w) (i:Nat):w.frozen? ⟨hp,i,none⟩=false:=h.hdr.f i
theorem unix0 (s:Int) (w:World) (h1 : -4000000000000000000≤s) (h2:s≤4000000000000000000):Calls Tryz.prog 70 #[.int .i64 s,.int .i64 0] w fun e w'=>e=.returned (.agg #[.int .u64 ((0:Nat):Int),.int .i64 (s+62135596800)])∧Chg [] w w':=by
 have h:=unix_any s 0 w (by decide) h1 h2
 exact h
theorem tar_pre {cs:Array Value} (h:cs.size=516):(cs.toList.take 3).length=3:=by rw [List.length_take];simp;omega
theorem tar_blk {tr:Nat} {cs:Array Value} {w:World} (L:List UInt8) (hL:L.length=512) (hs:cs.size=516) (h:w.heap[tr]? =some (.cells (splice cs.toList 3 (bvs L)).toArray 152 (0,0))):BlkIn tr 152 (cs.toList.take 3) L (cs.toList.drop 515) w:=by
 unfold BlkIn
 rw [h]
 unfold splice
 rw [bvs_length,hL,List.append_assoc]
theorem bytes_ne {gnu:Bool} {h:HB} (H:RdB gnu h):(h.bytes == List.replicate 512 0)=false:=by
 simp only [beq_eq_false_iff_ne,ne_eq]
 intro e
 have h1:=H.ok.get_mg 0 (by decide)
 rw [H.mg,e,List.getElem?_replicate] at h1
 cases gnu<;>cases h1
theorem rhs_start (w:World):RhS w w.heap.size (w.heap.size+1) thE ((w.alloc (.cells #[.nilIface] 231)).alloc (.cells zc130 130)):=by
 refine ⟨((Chg.refl _ w).alloc _).alloc _,?_,?_,by omega,by omega,by omega⟩
 ·unfold HdrB
  rw [←zero130]
  have:=heap_alloc_new (w.alloc (.cells #[.nilIface] 231)) (.cells zc130 130)
  rw [show (w.alloc (.cells #[.nilIface] 231)).heap.size=w.heap.size+1 from Array.size_push _] at this
  exact this
 ·rw [Below.heap_alloc _ _ _ (by simp)]
  exact heap_alloc_new w _
theorem fld_nm {t:Nat} {T:TypeId} {pre post:List Value} {h:HB} {w:World} (hb:BlkIn t T pre h.bytes post w) (hk:pre.length=3) (k:h.Ok):ByAt t (3+0) h.nm w:=by
 have:=hb.byAt 3 0 100 hk (by rw [k.length];decide)
 rw [k.field_nm] at this
 exact this
theorem fld_md {t:Nat} {T:TypeId} {pre post:List Value} {h:HB} {w:World} (hb:BlkIn t T pre h.bytes post w) (hk:pre.length=3) (k:h.Ok):ByAt t (3+100) h.md w:=by
 have:=hb.byAt 3 100 8 hk (by rw [k.length];decide)
 rw [k.field_md] at this
 exact this
theorem fld_ui {t:Nat} {T:TypeId} {pre post:List Value} {h:HB} {w:World} (hb:BlkIn t T pre h.bytes post w) (hk:pre.length=3) (k:h.Ok):ByAt t (3+108) h.ui w:=by
 have:=hb.byAt 3 108 8 hk (by rw [k.length];decide)
 rw [k.field_ui] at this
 exact this
theorem fld_gi {t:Nat} {T:TypeId} {pre post:List Value} {h:HB} {w:World} (hb:BlkIn t T pre h.bytes post w) (hk:pre.length=3) (k:h.Ok):ByAt t (3+116) h.gi w:=by
 have:=hb.byAt 3 116 8 hk (by rw [k.length];decide)
 rw [k.field_gi] at this
 exact this
theorem fld_sz {t:Nat} {T:TypeId} {pre post:List Value} {h:HB} {w:World} (hb:BlkIn t T pre h.bytes post w) (hk:pre.length=3) (k:h.Ok):ByAt t (3+124) h.sz w:=by
 have:=hb.byAt 3 124 12 hk (by rw [k.length];decide)
 rw [k.field_sz] at this
 exact this
theorem fld_mt {t:Nat} {T:TypeId} {pre post:List Value} {h:HB} {w:World} (hb:BlkIn t T pre h.bytes post w) (hk:pre.length=3) (k:h.Ok):ByAt t (3+136) h.mt w:=by
 have:=hb.byAt 3 136 12 hk (by rw [k.length];decide)
 rw [k.field_mt] at this
 exact this
theorem fld_ln {t:Nat} {T:TypeId} {pre post:List Value} {h:HB} {w:World} (hb:BlkIn t T pre h.bytes post w) (hk:pre.length=3) (k:h.Ok):ByAt t (3+157) h.ln w:=by
 have:=hb.byAt 3 157 100 hk (by rw [k.length];decide)
 rw [k.field_ln] at this
 exact this
theorem fld_un {t:Nat} {T:TypeId} {pre post:List Value} {h:HB} {w:World} (hb:BlkIn t T pre h.bytes post w) (hk:pre.length=3) (k:h.Ok):ByAt t (3+265) h.un w:=by
 have:=hb.byAt 3 265 32 hk (by rw [k.length];decide)
 rw [k.field_un] at this
 exact this
theorem fld_gn {t:Nat} {T:TypeId} {pre post:List Value} {h:HB} {w:World} (hb:BlkIn t T pre h.bytes post w) (hk:pre.length=3) (k:h.Ok):ByAt t (3+297) h.gn w:=by
 have:=hb.byAt 3 297 32 hk (by rw [k.length];decide)
 rw [k.field_gn] at this
 exact this
theorem fld_dj {t:Nat} {T:TypeId} {pre post:List Value} {h:HB} {w:World} (hb:BlkIn t T pre h.bytes post w) (hk:pre.length=3) (k:h.Ok):ByAt t (3+329) h.dj w:=by
 have:=hb.byAt 3 329 8 hk (by rw [k.length];decide)
 rw [k.field_dj] at this
 exact this
theorem fld_dn {t:Nat} {T:TypeId} {pre post:List Value} {h:HB} {w:World} (hb:BlkIn t T pre h.bytes post w) (hk:pre.length=3) (k:h.Ok):ByAt t (3+337) h.dn w:=by
 have:=hb.byAt 3 337 8 hk (by rw [k.length];decide)
 rw [k.field_dn] at this
 exact this
theorem fld_px {t:Nat} {T:TypeId} {pre post:List Value} {h:HB} {w:World} (hb:BlkIn t T pre h.bytes post w) (hk:pre.length=3) (k:h.Ok):ByAt t (3+345) h.px w:=by
 have:=hb.byAt 3 345 155 hk (by rw [k.length];decide)
 rw [k.field_px] at this
 exact this
structure RdP (h:HB):Prop where
 asc:∀c∈h.bytes,c.toNat < 128
 sz:h.sz[11]? =some 0
 md:h.md[7]? =some 0
 ui:h.ui[7]? =some 0
 gi:h.gi[7]? =some 0
 mt:h.mt[11]? =some 0
 dj:h.dj[7]? =some 0
 dn:h.dn[7]? =some 0
theorem nulAll {h:HB} (H:RdP h) (k:h.Ok) {t:Nat} {T:TypeId} {pre post:List Value} {w:World} (hb:BlkIn t T pre h.bytes post w) (hk:pre.length=3) :
  ∀(q n cap:Nat),(q,n)∈([(127,12),(103,8),(111,8),(119,8),(139,12),(332,8),(340,8)]:List (Nat×Nat))→Calls Tryz.prog 202 #[.slice (some ⟨t,q,none⟩) n cap] w fun e w'=>e=.returned (.bool true)∧w=w':=by
 intro q n cap hm
 simp only [List.mem_cons,Prod.mk.injEq,List.not_mem_nil,or_false] at hm
 rcases hm with ⟨rfl,rfl⟩ | ⟨rfl,rfl⟩ | ⟨rfl,rfl⟩ | ⟨rfl,rfl⟩ | ⟨rfl,rfl⟩ | ⟨rfl,rfl⟩ | ⟨rfl,rfl⟩
 ·exact nulEnd t _ 12 cap h.sz w (fld_sz hb hk k) k.sz (by decide) (by decide) H.sz
 ·exact nulEnd t _ 8 cap h.md w (fld_md hb hk k) k.md (by decide) (by decide) H.md
 ·exact nulEnd t _ 8 cap h.ui w (fld_ui hb hk k) k.ui (by decide) (by decide) H.ui
 ·exact nulEnd t _ 8 cap h.gi w (fld_gi hb hk k) k.gi (by decide) (by decide) H.gi
 ·exact nulEnd t _ 12 cap h.mt w (fld_mt hb hk k) k.mt (by decide) (by decide) H.mt
 ·exact nulEnd t _ 8 cap h.dj w (fld_dj hb hk k) k.dj (by decide) (by decide) H.dj
 ·exact nulEnd t _ 8 cap h.dn w (fld_dn hb hk k) k.dn (by decide) (by decide) H.dn
theorem blk_by {t:Nat} {T:TypeId} {pre post:List Value} {L:List UInt8} {w:World} (hb:BlkIn t T pre L post w) (hk:pre.length=3):ByAt t 3 L w:=by
 intro j hj
 rw [hb.cell 3 j hk hj,List.getElem?_eq_getElem hj]
 rfl
theorem strOf_le (l:List UInt8):(strOf l).size≤l.length:=by
 show (cstr l).toArray.size≤l.length
 rw [List.size_toArray]
 exact (List.takeWhile_sublist _).length_le
def joinP (p n:ByteArray):ByteArray:=if p.size=0 then n else p++⟨#[47]⟩++n
set_option maxRecDepth 100000 in
set_option maxHeartbeats 8000000 in
theorem readHeader_posix (tr br rr dr:Nat) (pad:Int) (cs:Array Value) (D:List UInt8) (i:Nat) (h:HB) (tf:UInt8) (size mode uid gid ms dj dn:Int) (HX:RdP h) (w:World) (hT:TarAt tr br rr pad cs w) (hr:RdrAt br dr D i w) (hD:(D.drop i).take 512=h.bytes) (H:RdC false h tf size mode uid gid ms dj dn) (htb:tr≠br) (htd:tr≠dr) :
  Calls Tryz.prog 148 #[.pointer (some ⟨tr,0,none⟩)] w fun e w'=>(∃hp,e=.returned (.tuple #[.pointer (some ⟨hp,0,none⟩),.pointer (some ⟨tr,3,none⟩),.nilIface])∧w.heap.size≤hp∧HdrB hp (rdTH tf (joinP (strOf h.px) (strOf h.nm)) (strOf h.ln) size mode uid gid (strOf h.un) (strOf h.gn) ms (-62135596800) (-62135596800) dj dn 6) w')∧
   RdrAt br dr D (i+512) w'∧(∃cs',TarAt tr br rr pad cs' w')∧Chg [br,tr] w w':=by
 have hlen:=H.rb.ok.length
 have hi:i+512≤D.length:=by
  have:=congrArg List.length hD
  rw [hlen,List.length_take,List.length_drop] at this
  omega
 have hsz:=hT.size
 have d0:w.cell? ⟨tr,0,none⟩=some (.iface 84 (.pointer (some ⟨br,0,none⟩))):=by rw [cell_heap hT.heap];exact hT.c0
 have hnz:(h.bytes == List.replicate 512 0)=false:=bytes_ne H.rb
 have HT:=Lib.hid hT;have HR:=Lib.hid hr;have HD:=Lib.hid hD;have HC:=Lib.hid H;have HL:=Lib.hid hlen;have HSZ:=Lib.hid hsz;have HNZ:=Lib.hid hnz;have HXX:=Lib.hid HX
 clear hT hr hD H hlen hsz hnz HX
 obtain ⟨sp,hsp⟩:∃sp:ByteArray,sp=strOf h.px:=⟨_,rfl⟩
 obtain ⟨sn,hsn⟩:∃sn:ByteArray,sn=strOf h.nm:=⟨_,rfl⟩
 rw [←hsp,←hsn]
 obtain ⟨sj,hsj⟩:∃sj:ByteArray,joinP sp sn=sj:=⟨_,rfl⟩
 rw [hsj]
 have HSP:=Lib.hid hsp;have HSN:=Lib.hid hsn;have HSJ:=Lib.hid hsj
 clear hsp hsn hsj
 go_enter Tryz.func148,Tryz.ntmps148
 go_wp2
 go_region_with (first | (go_at_call 196;refine (readFull_ok br dr D i tr 3 512 512 cs 152 _ (by exact HR.out) (by omega) (by exact HT.out.heap) htb htd (by omega) (by omega) (by unfold maxLen;omega) (by rw [HSZ.out];omega)).mono ?_;rintro e w1 ⟨rfl,h1,h2,h3⟩))
 rw [HD.out] at h2
 have H1:=HT.out.spliced h.bytes (by rw [HL.out];omega) h2
 have hrow:=blk_row h.bytes (by rw [HSZ.out,HL.out];omega) h2
 have hblk:=tar_blk h.bytes HL.out HSZ.out h2
 have hch1:Chg [br,tr] w w1:=(Chg.refl _ w).drew.trans h3
 have hz1:=hch1.size
 generalize hc1:(splice cs.toList 3 (bvs h.bytes)).toArray=cs1 at*
 have d0:w1.cell? ⟨tr,0,none⟩=some (.iface 84 (.pointer (some ⟨br,0,none⟩))):=by rw [cell_heap H1.heap];exact H1.c0
 have HR1:=Lib.hid h1;have HT1:=Lib.hid H1;have HROW:=Lib.hid hrow;have HCH1:=Lib.hid hch1;have HBLK:=Lib.hid hblk
 clear h1 h2 h3 H1 hrow hch1 hc1 hblk
 go_wp2
 have HA:Hid (∀i,i < h.bytes.length→((w1.alloc (.cells Tryz.zeroCells132 132)).drew).cell? ((⟨tr,3,none⟩:Addr).add i)=(h.bytes[i]?).map bv):=fun i hi=>by
  have hq:=HROW.out i hi
  rw [add_addr] at hq⊢
  exact (World.cell?_alloc_lt w1 (.cells Tryz.zeroCells132 132) ⟨tr,3+i,none⟩ (Array.getElem?_eq_some_iff.1 HT1.out.heap).1).trans hq
 obtain ⟨Z,hZ⟩:∃Z:List UInt8,Z=List.replicate 512 0:=⟨_,rfl⟩
 have HZ:=Lib.hid hZ
 have HZL:=Lib.hid (show Z.length=512 by rw [hZ];simp)
 have hnz2:(h.bytes == Z)=false:=by rw [hZ];exact HNZ.out
 clear hZ
 have HB:Hid (∀i,i < Z.length→((w1.alloc (.cells Tryz.zeroCells132 132)).drew).cell? ((⟨w1.heap.size,0,none⟩:Addr).add i)=(Z[i]?).map bv):=fun i hi=>zero_row w1 Z HZ.out i
 go_region_with (first | (go_at_call 197;refine (row_equal ⟨tr,3,none⟩ ⟨w1.heap.size,0,none⟩ 512 512 512 512 h.bytes Z _ HL.out HZL.out HA.out HB.out).mono ?_;rintro e w2 ⟨rfl,rfl⟩))
 have hch2:Chg [] w1 (w1.alloc (.cells Tryz.zeroCells132 132)).drew:=((Chg.refl _ w1).alloc _).drew
 clear HA HB HROW
 generalize (w1.alloc (.cells Tryz.zeroCells132 132)).drew=w2 at*
 have HC2:=Lib.hid hch2
 clear hch2
 have f9:=HBLK.out.chg HC2.out (by simp)
 have HB2:=Lib.hid f9
 clear f9
 go_upto_region 14 with (go_at_call 198;refine (getFormat_any false tr 152 _ _ h 3 _ HB2.out (tar_pre HSZ.out) HC.out.rb).mono ?_;rintro e w3 ⟨rfl,hc3⟩;have HC3:=Lib.hid (HC2.out.trans hc3);clear hc3)
 go_upto_region 16 with (fail)
 have hS:RhS w3 w3.heap.size (w3.heap.size+1) (rdTH 0 ⟨#[]⟩ ⟨#[]⟩ 0 0 0 0 ⟨#[]⟩ ⟨#[]⟩ (-62135596800) (-62135596800) (-62135596800) 0 0 0) ((w3.alloc (.cells #[.nilIface] 231)).alloc (.cells zc130 130)):=rhs_start w3
 have hlo:w3.heap.size=w3.heap.size:=rfl
 generalize hpb:w3.heap.size=pb at*
 have HPB:=Lib.hid hpb
 clear hpb hlo
 generalize (w3.alloc (.cells #[.nilIface] 231)).alloc (.cells zc130 130)=w4 at*
 have HBW:Hid (∀w',Chg [] w3 w'→BlkIn tr 152 (cs.toList.take 3) h.bytes (cs.toList.drop 515) w'):=fun w' hc=>(HBLK.out.chg HC3.out (by simp)).chg hc (by simp)
 have c0:=hS.c 0 _ rfl;have f0:=hS.f 0
 have HS:=Lib.hid hS
 clear hS
 have d159:w4.cell? ⟨tr,159,none⟩=some (.int .u8 tf.toNat):=by
  have hq:=(HBW.out _ HS.out.chg).cell 3 156 (tar_pre HSZ.out) (by rw [HL.out];decide)
  rw [show (3+156:Nat)=159 from rfl] at hq
  rw [hq,HC.out.rb.ok.get_tf 0 (by decide),HC.out.tf]
  rfl
 go_upto_region 18 with (first | (go_at_call 106;refine (toV7 tr 3 _).mono ?_;rintro e u ⟨rfl,rfl⟩) | (go_at_call 174;refine (v7_typeFlag tr 3 _).mono ?_;rintro e u ⟨rfl,rfl⟩))
 have hS:=HS.out.set 0 (.int .u8 tf.toNat) (rdTH tf ⟨#[]⟩ ⟨#[]⟩ 0 0 0 0 ⟨#[]⟩ ⟨#[]⟩ (-62135596800) (-62135596800) (-62135596800) 0 0 0) rfl
 clear c0 f0 HS d159
 generalize World.setCell _ _ (Value.int .u8 tf.toNat)=w5 at*
 have c1:=hS.c 1 _ rfl;have f1:=hS.f 1
 have HS:=Lib.hid hS
 clear hS
 go_upto_region 19 with (first | (go_at_call 109;refine (v7_name tr 3 _).mono ?_;rintro e u ⟨rfl,rfl⟩) | (go_at_call 153;refine (parseString_any _ tr (3+0) 100 512 h.nm _ (fld_nm (HBW.out _ (HS.out).chg) (tar_pre HSZ.out) HC.out.rb.ok) HC.out.rb.ok.nm (by decide) (by decide)).mono ?_;rintro e u ⟨rfl,rfl⟩))
 have hS:=HS.out.set 1 (.string (strOf h.nm)) (rdTH tf (strOf h.nm) ⟨#[]⟩ 0 0 0 0 ⟨#[]⟩ ⟨#[]⟩ (-62135596800) (-62135596800) (-62135596800) 0 0 0) rfl
 clear c1 f1 HS
 change RhS w3 pb (pb+1) (rdTH tf (strOf h.nm) ⟨#[]⟩ 0 0 0 0 ⟨#[]⟩ ⟨#[]⟩ (-62135596800) (-62135596800) (-62135596800) 0 0 0) (World.setCell _ _ (Value.string ⟨(cstr h.nm).toArray⟩)) at hS
 generalize World.setCell _ _ (Value.string ⟨(cstr h.nm).toArray⟩)=w6 at*
 have c2:=hS.c 2 _ rfl;have f2:=hS.f 2
 have HS:=Lib.hid hS
 clear hS
 go_upto_region 20 with (first | (go_at_call 110;refine (v7_linkName tr 3 _).mono ?_;rintro e u ⟨rfl,rfl⟩) | (go_at_call 153;refine (parseString_any _ tr (3+157) 100 355 h.ln _ (fld_ln (HBW.out _ (HS.out).chg) (tar_pre HSZ.out) HC.out.rb.ok) HC.out.rb.ok.ln (by decide) (by decide)).mono ?_;rintro e u ⟨rfl,rfl⟩))
 have hS:=HS.out.set 2 (.string (strOf h.ln)) (rdTH tf (strOf h.nm) (strOf h.ln) 0 0 0 0 ⟨#[]⟩ ⟨#[]⟩ (-62135596800) (-62135596800) (-62135596800) 0 0 0) rfl
 clear c2 f2 HS
 change RhS w3 pb (pb+1) (rdTH tf (strOf h.nm) (strOf h.ln) 0 0 0 0 ⟨#[]⟩ ⟨#[]⟩ (-62135596800) (-62135596800) (-62135596800) 0 0 0) (World.setCell _ _ (Value.string ⟨(cstr h.ln).toArray⟩)) at hS
 generalize World.setCell _ _ (Value.string ⟨(cstr h.ln).toArray⟩)=w7 at*
 have HS:=Lib.hid hS
 clear hS
 go_upto_region 21 with (first | (go_at_call 116;refine (v7_size tr 3 _).mono ?_;rintro e u ⟨rfl,rfl⟩) | (go_at_call 199;refine (HC.out.sz _ tr (3+124) 12 388 _ (fld_sz (HBW.out _ (HS.out).chg) (tar_pre HSZ.out) HC.out.rb.ok) HC.out.rb.ok.sz (by decide) (by decide) (by decide)).mono ?_;rintro e u ⟨rfl,hcu⟩;have hS:=HS.out.on hcu;have c3:=hS.c 3 _ rfl;have f3:=hS.f 3;have HS:=Lib.hid hS;clear hS hcu))
 have hS:=HS.out.set 3 (.int .i64 size) (rdTH tf (strOf h.nm) (strOf h.ln) size 0 0 0 ⟨#[]⟩ ⟨#[]⟩ (-62135596800) (-62135596800) (-62135596800) 0 0 0) rfl
 clear c3 f3 HS
 generalize World.setCell _ _ (Value.int .i64 size)=w8 at*
 have HS:=Lib.hid hS
 clear hS
 go_upto_region 22 with (first | (go_at_call 113;refine (v7_mode tr 3 _).mono ?_;rintro e u ⟨rfl,rfl⟩) | (go_at_call 199;refine (HC.out.md _ tr (3+100) 8 412 _ (fld_md (HBW.out _ (HS.out).chg) (tar_pre HSZ.out) HC.out.rb.ok) HC.out.rb.ok.md (by decide) (by decide) (by decide)).mono ?_;rintro e u ⟨rfl,hcu⟩;have hS:=HS.out.on hcu;have c4:=hS.c 4 _ rfl;have f4:=hS.f 4;have HS:=Lib.hid hS;clear hS hcu))
 have hS:=HS.out.set 4 (.int .i64 mode) (rdTH tf (strOf h.nm) (strOf h.ln) size mode 0 0 ⟨#[]⟩ ⟨#[]⟩ (-62135596800) (-62135596800) (-62135596800) 0 0 0) rfl
 clear c4 f4 HS
 generalize World.setCell _ _ (Value.int .i64 mode)=w9 at*
 have HS:=Lib.hid hS
 clear hS
 go_upto_region 23 with (first | (go_at_call 114;refine (v7_uid tr 3 _).mono ?_;rintro e u ⟨rfl,rfl⟩) | (go_at_call 199;refine (HC.out.ui _ tr (3+108) 8 404 _ (fld_ui (HBW.out _ (HS.out).chg) (tar_pre HSZ.out) HC.out.rb.ok) HC.out.rb.ok.ui (by decide) (by decide) (by decide)).mono ?_;rintro e u ⟨rfl,hcu⟩;have hS:=HS.out.on hcu;have c5:=hS.c 5 _ rfl;have f5:=hS.f 5;have HS:=Lib.hid hS;clear hS hcu))
 have hS:=HS.out.set 5 (.int .i64 uid) (rdTH tf (strOf h.nm) (strOf h.ln) size mode uid 0 ⟨#[]⟩ ⟨#[]⟩ (-62135596800) (-62135596800) (-62135596800) 0 0 0) rfl
 clear c5 f5 HS
 generalize World.setCell _ _ (Value.int .i64 uid)=w10 at*
 have HS:=Lib.hid hS
 clear hS
 go_upto_region 24 with (first | (go_at_call 115;refine (v7_gid tr 3 _).mono ?_;rintro e u ⟨rfl,rfl⟩) | (go_at_call 199;refine (HC.out.gi _ tr (3+116) 8 396 _ (fld_gi (HBW.out _ (HS.out).chg) (tar_pre HSZ.out) HC.out.rb.ok) HC.out.rb.ok.gi (by decide) (by decide) (by decide)).mono ?_;rintro e u ⟨rfl,hcu⟩;have hS:=HS.out.on hcu;have c6:=hS.c 6 _ rfl;have f6:=hS.f 6;have HS:=Lib.hid hS;clear hS hcu))
 have hS:=HS.out.set 6 (.int .i64 gid) (rdTH tf (strOf h.nm) (strOf h.ln) size mode uid gid ⟨#[]⟩ ⟨#[]⟩ (-62135596800) (-62135596800) (-62135596800) 0 0 0) rfl
 clear c6 f6 HS
 generalize World.setCell _ _ (Value.int .i64 gid)=w11 at*
 have HS:=Lib.hid hS
 clear hS
 go_upto_region 25 with (first | (go_at_call 119;refine (v7_modTime tr 3 _).mono ?_;rintro e u ⟨rfl,rfl⟩) | (go_at_call 199;refine (HC.out.mt _ tr (3+136) 12 376 _ (fld_mt (HBW.out _ (HS.out).chg) (tar_pre HSZ.out) HC.out.rb.ok) HC.out.rb.ok.mt (by decide) (by decide) (by decide)).mono ?_;rintro e u ⟨rfl,hcu⟩;have HS1:=Lib.hid (HS.out.on hcu);clear hcu) | (go_at_call 70;refine (unix0 ms _ HC.out.ms1 HC.out.ms2).mono ?_;rintro e u2 ⟨rfl,hcu⟩;have hS:=HS1.out.on hcu;have c9:=hS.c 9 _ rfl;have f9:=hS.f 9;have c10:=hS.c 10 _ rfl;have f10:=hS.f 10;have HS2:=Lib.hid hS;clear hS hcu))
 have hS:=(HS2.out.set 9 (.int .u64 ((0:Nat):Int)) _ rfl).set 10 (.int .i64 (ms+62135596800)) (rdTH tf (strOf h.nm) (strOf h.ln) size mode uid gid ⟨#[]⟩ ⟨#[]⟩ ms (-62135596800) (-62135596800) 0 0 0) rfl
 clear c9 f9 c10 f10 HS HS1 HS2
 have hS':RhS w3 pb (pb+1) (rdTH tf (strOf h.nm) (strOf h.ln) size mode uid gid ⟨#[]⟩ ⟨#[]⟩ ms (-62135596800) (-62135596800) 0 0 0) ((World.setCell u2 ⟨pb+1,9,none⟩ (Value.int .u64 0)).setCell ⟨pb+1,10,none⟩ (Value.int .i64 (ms+62135596800))):=hS
 clear hS
 have hS:=hS'
 clear hS'
 generalize (World.setCell u2 ⟨pb+1,9,none⟩ (Value.int .u64 0)).setCell ⟨pb+1,10,none⟩ (Value.int .i64 (ms+62135596800))=w12 at*
 go_upto_region 26 with (fail)
 go_upto_region 27 with (go_at_call 107;refine (toUSTAR tr 3 _).mono ?_;rintro e u ⟨rfl,rfl⟩)
 have c7:=hS.c 7 _ rfl;have f7:=hS.f 7
 have HS:=Lib.hid hS
 clear hS
 go_upto_region 28 with (first | (go_at_call 111;refine (us_userName tr 3 _).mono ?_;rintro e u ⟨rfl,rfl⟩) | (go_at_call 153;refine (parseString_any _ tr (3+265) 32 247 h.un _ (fld_un (HBW.out _ (HS.out).chg) (tar_pre HSZ.out) HC.out.rb.ok) HC.out.rb.ok.un (by decide) (by decide)).mono ?_;rintro e u ⟨rfl,rfl⟩))
 have hS:=HS.out.set 7 (.string (strOf h.un)) (rdTH tf (strOf h.nm) (strOf h.ln) size mode uid gid (strOf h.un) ⟨#[]⟩ ms (-62135596800) (-62135596800) 0 0 0) rfl
 clear c7 f7 HS
 change RhS w3 pb (pb+1) (rdTH tf (strOf h.nm) (strOf h.ln) size mode uid gid (strOf h.un) ⟨#[]⟩ ms (-62135596800) (-62135596800) 0 0 0) (World.setCell _ _ (Value.string ⟨(cstr h.un).toArray⟩)) at hS
 generalize World.setCell _ _ (Value.string ⟨(cstr h.un).toArray⟩)=w13 at*
 have c8:=hS.c 8 _ rfl;have f8:=hS.f 8
 have HS:=Lib.hid hS
 clear hS
 go_upto_region 29 with (first | (go_at_call 112;refine (us_groupName tr 3 _).mono ?_;rintro e u ⟨rfl,rfl⟩) | (go_at_call 153;refine (parseString_any _ tr (3+297) 32 215 h.gn _ (fld_gn (HBW.out _ (HS.out).chg) (tar_pre HSZ.out) HC.out.rb.ok) HC.out.rb.ok.gn (by decide) (by decide)).mono ?_;rintro e u ⟨rfl,rfl⟩))
 have hS:=HS.out.set 8 (.string (strOf h.gn)) (rdTH tf (strOf h.nm) (strOf h.ln) size mode uid gid (strOf h.un) (strOf h.gn) ms (-62135596800) (-62135596800) 0 0 0) rfl
 clear c8 f8 HS
 change RhS w3 pb (pb+1) (rdTH tf (strOf h.nm) (strOf h.ln) size mode uid gid (strOf h.un) (strOf h.gn) ms (-62135596800) (-62135596800) 0 0 0) (World.setCell _ _ (Value.string ⟨(cstr h.gn).toArray⟩)) at hS
 generalize World.setCell _ _ (Value.string ⟨(cstr h.gn).toArray⟩)=w14 at*
 have HS:=Lib.hid hS
 clear hS
 go_upto_region 30 with (first | (go_at_call 117;refine (us_devMajor tr 3 _).mono ?_;rintro e u ⟨rfl,rfl⟩) | (go_at_call 199;refine (HC.out.dj _ tr (3+329) 8 183 _ (fld_dj (HBW.out _ (HS.out).chg) (tar_pre HSZ.out) HC.out.rb.ok) HC.out.rb.ok.dj (by decide) (by decide) (by decide)).mono ?_;rintro e u ⟨rfl,hcu⟩;have hS:=HS.out.on hcu;have c15:=hS.c 15 _ rfl;have f15:=hS.f 15;have HS:=Lib.hid hS;clear hS hcu))
 have hS:=HS.out.set 15 (.int .i64 dj) (rdTH tf (strOf h.nm) (strOf h.ln) size mode uid gid (strOf h.un) (strOf h.gn) ms (-62135596800) (-62135596800) dj 0 0) rfl
 clear c15 f15 HS
 generalize World.setCell _ _ (Value.int .i64 dj)=w15 at*
 have HS:=Lib.hid hS
 clear hS
 go_upto_region 31 with (first | (go_at_call 118;refine (us_devMinor tr 3 _).mono ?_;rintro e u ⟨rfl,rfl⟩) | (go_at_call 199;refine (HC.out.dn _ tr (3+337) 8 175 _ (fld_dn (HBW.out _ (HS.out).chg) (tar_pre HSZ.out) HC.out.rb.ok) HC.out.rb.ok.dn (by decide) (by decide) (by decide)).mono ?_;rintro e u ⟨rfl,hcu⟩;have hS:=HS.out.on hcu;have c16:=hS.c 16 _ rfl;have f16:=hS.f 16;have HS:=Lib.hid hS;clear hS hcu))
 have hS:=HS.out.set 16 (.int .i64 dn) (rdTH tf (strOf h.nm) (strOf h.ln) size mode uid gid (strOf h.un) (strOf h.gn) ms (-62135596800) (-62135596800) dj dn 0) rfl
 clear c16 f16 HS
 generalize World.setCell _ _ (Value.int .i64 dn)=w16 at*
 go_upto_region 32 with (fail)
 have c19:=hS.c 19 _ rfl;have f19:=hS.f 19
 have HS:=Lib.hid hS
 clear hS
 go_upto_region 34 with (go_at_call 66;refine (has_gen 6 6 _).mono ?_;rw [show (bits .and .i64 6 6 != 0)=true from rfl];rintro e u ⟨rfl,rfl⟩)
 have hS:=HS.out.set 19 (.int .i64 6) (rdTH tf (strOf h.nm) (strOf h.ln) size mode uid gid (strOf h.un) (strOf h.gn) ms (-62135596800) (-62135596800) dj dn 6) rfl
 clear c19 f19 HS
 generalize World.setCell _ _ (Value.int .i64 6)=w17 at*
 have HS:=Lib.hid hS
 have hnul:=nulAll HXX.out HC.out.rb.ok (HBW.out _ hS.chg) (tar_pre HSZ.out)
 have HNUL:=Lib.hid hnul
 have c1:w17.cell? ⟨pb+1,1,none⟩=some (.string sn):=by rw [HSN.out];exact hS.c 1 _ rfl
 have f1:=hS.f 1
 have p0:w17.cell? ⟨pb,0,none⟩=some .nilIface:=by rw [cell_heap hS.prs];rfl
 have hasc:=indexFunc_ascii tr 3 512 512 h.bytes w17 (blk_by (HBW.out _ hS.chg) (tar_pre HSZ.out)) HC.out.rb.ok.length (by decide) (by decide) (by decide) HXX.out.asc
 have HASC:=Lib.hid hasc
 clear hS hnul hasc
 go_upto_region 37 with (first | (go_at_call 107;refine (toUSTAR tr 3 _).mono ?_;rintro e u ⟨rfl,rfl⟩) | (go_at_call 131;refine (us_prefix tr 3 _).mono ?_;rintro e u ⟨rfl,rfl⟩) | (go_at_call 153;refine (parseString_any _ tr (3+345) 155 167 h.px _ (fld_px (HBW.out _ (HS.out).chg) (tar_pre HSZ.out) HC.out.rb.ok) HC.out.rb.ok.px (by decide) (by decide)).mono ?_;rw [show (⟨(cstr h.px).toArray⟩:ByteArray)=sp from HSP.out.symm];rintro e u ⟨rfl,rfl⟩))
 go_upto_region 40 with (go_at_call 201;refine HASC.out.mono ?_;rintro e u ⟨rfl,rfl⟩)
 go_upto_region 64 with (first | (go_at_call 202;refine (HNUL.out _ _ _ (by simp)).mono ?_;rintro e u ⟨rfl,rfl⟩) | (go_at_call 116;refine (v7_size tr 3 _).mono ?_;rintro e u ⟨rfl,rfl⟩) | (go_at_call 113;refine (v7_mode tr 3 _).mono ?_;rintro e u ⟨rfl,rfl⟩) | (go_at_call 114;refine (v7_uid tr 3 _).mono ?_;rintro e u ⟨rfl,rfl⟩) | (go_at_call 115;refine (v7_gid tr 3 _).mono ?_;rintro e u ⟨rfl,rfl⟩) | (go_at_call 119;refine (v7_modTime tr 3 _).mono ?_;rintro e u ⟨rfl,rfl⟩) | (go_at_call 117;refine (us_devMajor tr 3 _).mono ?_;rintro e u ⟨rfl,rfl⟩) | (go_at_call 118;refine (us_devMinor tr 3 _).mono ?_;rintro e u ⟨rfl,rfl⟩))
 clear HNUL HASC
 have hS:=HS.out
 rw [←HSN.out] at hS
 have HS:=Lib.hid hS
 clear hS
 have hfin:∀th' u,RhS w3 pb (pb+1) th' u→RdrAt br dr D (i+512) u∧(∃cs',TarAt tr br rr pad cs' u)∧Chg [br,tr] w u:=fun th' u hu=>by
  have hc:=HC3.out.trans hu.chg
  exact ⟨HR1.out.chg hc (by simp) (by simp),⟨cs1,HT1.out.chg hc (by simp)⟩,HCH1.out.trans (hc.mono (by simp))⟩
 have hpw:w.heap.size≤pb+1:=by have:=HC3.out.size;have:=HPB.out;omega
 have HFIN:=Lib.hid hfin;have HPW:=Lib.hid hpw
 clear hfin hpw
 by_cases h0:0 < sp.size
 ·have HJ:=Lib.hid (show sj=sp++⟨#[47]⟩++sn by rw [←HSJ.out];exact if_neg (by omega))
  have h0':(0:Int) < sp.size:=by omega
  have hs1:sp.size≤155:=by rw [HSP.out];exact Nat.le_trans (strOf_le _) (Nat.le_of_eq HC.out.rb.ok.px)
  have hs2:sn.size≤100:=by rw [HSN.out];exact Nat.le_trans (strOf_le _) (Nat.le_of_eq HC.out.rb.ok.nm)
  go_wp2
  have hS:=HS.out.set 1 (.string (sp++⟨#[47]⟩++sn)) (rdTH tf (sp++⟨#[47]⟩++sn) (strOf h.ln) size mode uid gid (strOf h.un) (strOf h.gn) ms (-62135596800) (-62135596800) dj dn 6) rfl
  have p0:(World.setCell w17 ⟨pb+1,1,none⟩ (.string (sp++⟨#[47]⟩++sn))).cell? ⟨pb,0,none⟩=some .nilIface:=by rw [cell_heap hS.prs];rfl
  have HS2:=Lib.hid hS
  clear hS c1 f1 HS
  generalize World.setCell w17 ⟨pb+1,1,none⟩ (.string (sp++⟨#[47]⟩++sn))=wz at*
  go_quiet (fail)
  go_wp2
  go_ret3
  exact ⟨⟨_,rfl,HPW.out,by rw [HJ.out];exact (HS2.out.on (Chg.drewNof _)).hdr⟩,HFIN.out _ _ (HS2.out.on (Chg.drewNof _))⟩
 ·have HJ:=Lib.hid (show sj=sn by rw [←HSJ.out];exact if_pos (by omega))
  have h0':¬(0:Int) < sp.size:=by omega
  go_wp2
  go_quiet (fail)
  go_wp2
  go_ret3
  exact ⟨⟨_,rfl,HPW.out,by rw [HJ.out];exact (HS.out.on (Chg.drewNof _)).hdr⟩,HFIN.out _ _ (HS.out.on (Chg.drewNof _))⟩
end Go.Proofs.YtkanmkcojlefbaaGreatDoor
