/-
  The writer's block: reset, setFormat, the check sum · A header block as its fields (printed by genhb.py) · A header block that a Writer has sealed, as a Reader sees it: its magic words, its check sum · A number in base 256: what its bytes say.
-/
import Derived.Test.YtkanmkcojlefbaaGreatDoorJ06
import Derived.Test.YtkanmkcojlefbaaGreatDoorJ04
set_option linter.unusedVariables false
namespace Go.Proofs.YtkanmkcojlefbaaGreatDoor
open Go.RowKit
theorem zero132':Tryz.zeroCells132.toList=bvs (List.replicate 512 0):=by kernel_rfl
set_option maxRecDepth 100000 in
set_option maxHeartbeats 1000000 in
theorem reset_any (t:Nat) (T:TypeId) (pre post:List Value) (L:List UInt8) (k:Nat) (w:World) (h:BlkIn t T pre L post w) (hk:pre.length=k) (hL:L.length=512) :
  Calls Tryz.prog 173 #[.pointer (some ⟨t,k,none⟩)] w fun e w'=>e=.returned (.tuple #[])∧BlkIn t T pre (List.replicate 512 0) post w'∧Chg [t] w w':=by
 have hz:=zero132'
 have hst:=run_storeCells_at Tryz.prog t k T (bvs (List.replicate 512 0)) 0 _ w h (by simp [hL];omega) (bvs_one _)
 rw [←hz] at hst
 have h1:=h.put k 0 (List.replicate 512 0) hk (by simp [hL])
 have hc1:Chg [t] w (w.setRow t (splice (pre++bvs L++post) (k+0) (bvs (List.replicate 512 0))).toArray):=(Chg.refl [t] w).setRow (.inl (by simp)) _
 have he:splice L 0 (List.replicate 512 (0:UInt8))=List.replicate 512 0:=by unfold splice;simp [hL]
 rw [he] at h1
 have hst':(storeCells ⟨t,k,none⟩ Tryz.zeroCells132.toList).run Tryz.prog w=.ok () (w.setRow t (splice (pre++bvs L++post) (k+0) (bvs (List.replicate 512 0))).toArray):=by
  have:=hst
  simp only [Nat.add_zero] at this⊢
  rw [this]
  rw [hz]
  unfold splice
  simp
 generalize w.setRow t (splice (pre++bvs L++post) (k+0) (bvs (List.replicate 512 0))).toArray=w1 at h1 hc1 hst'
 have H1:=Lib.hid h1;have HC:=Lib.hid hc1
 clear h h1 hc1 hst he hz
 go_enter Tryz.func173,Tryz.ntmps173
 go_wp2
 go_end0
 exact ⟨rfl,H1.out,HC.out⟩
def sumTo (L:List UInt8):Nat→Nat
 | 0=>0
 | i+1=>sumTo L i+(if 148≤i∧i < 156 then 32 else (L.getD i 0).toNat)
theorem sumTo_le (L:List UInt8):∀i,sumTo L i≤255*i
 | 0=>by simp [sumTo]
 | i+1=>by
  rw [sumTo]
  have:=sumTo_le L i
  have h2:=(L.getD i 0).toNat_lt
  split<;>omega
theorem i8_wrap (c:UInt8) : -128≤IntKind.i8.wrap (c.toNat:Int)∧IntKind.i8.wrap (c.toNat:Int)≤127:=by
 have hb:IntKind.i8.bits=8:=rfl
 have hs:IntKind.i8.signed=true:=rfl
 have h:=c.toNat_lt
 simp only [IntKind.wrap,hb,hs]
 simp
 omega
set_option maxRecDepth 100000 in
set_option maxHeartbeats 2000000 in
theorem checksum_any (t:Nat) (T:TypeId) (pre post:List Value) (L:List UInt8) (k:Nat) (w:World) (h:BlkIn t T pre L post w) (hk:pre.length=k) (hL:L.length=512) :
  Calls Tryz.prog 185 #[.pointer (some ⟨t,k,none⟩)] w fun e w'=>(∃s,e=.returned (.tuple #[.int .i64 (sumTo L 512),.int .i64 s]))∧Chg [] w w':=by
 have H:=Lib.hid h
 clear h
 go_enter Tryz.func185,Tryz.ntmps185
 go_wp2
 go_loopw [2,3,4,5,7] (fun u s _ _ i w'=>∃(j:Nat) (z:Int),u=.int .i64 (sumTo L j)∧s=.int .i64 z∧-128*(j:Int)≤z∧z≤128*(j:Int)∧i=.int .i64 j∧j≤512∧Chg [] w w') (fun _ _ _ _ i _=>512 - (intOf i).toNat)
 case atStart=>exact ⟨0,0,rfl,rfl,by omega,by omega,rfl,by omega,Chg.refl _ _⟩
 case round=>
  obtain ⟨j,z,rfl,rfl,hz1,hz2,rfl,hj,hc⟩:=hrel
  have HC:=Lib.hid hc
  clear hc
  by_cases hlt:j < 512
  ·have cd:wr.cell? ⟨t,k+j,none⟩=some (bv (L.getD j 0)):=by
    rw [(H.out.chg HC.out (by simp)).cell k j hk (by omega),List.getElem?_eq_getElem (by omega),List.getD_eq_getElem?_getD,List.getElem?_eq_getElem (by omega)]
    rfl
   have hs:=sumTo_le L j
   have hb:=(L.getD j 0).toNat_lt
   have hi8:=i8_wrap (L.getD j 0)
   have hs1:sumTo L (j+1)=sumTo L j+(if 148≤j∧j < 156 then 32 else (L.getD j 0).toNat):=rfl
   have HS:=Lib.hid hs1
   clear hs1
   generalize L.getD j 0=c at cd hb hi8 HS
   go_wp2
   go_quiet (fail)
   go_wp2
   all_goals
    refine ⟨⟨j+1,_,?_,rfl,by push_cast;omega,by push_cast;omega,by go_num,by omega,HC.out.drewN _⟩,by simp [intOf];omega⟩
    rw [HS.out]
    first
     | rw [if_pos (by omega)];push_cast;rfl
     | rw [if_neg (by omega)];push_cast;rfl
  ·obtain rfl:j=512:=by omega
   go_wp2
   go_ret2
   exact ⟨⟨_,rfl⟩,HC.out⟩
theorem has_gen (F c:Int) (w:World):Calls Tryz.prog 66 #[.int .i64 F,.int .i64 c] w fun e w'=>e=.returned (.bool (bits .and .i64 F c != 0))∧w=w':=by
 go_enter Tryz.func66,Tryz.ntmps66
 go_wp2
 go_ret
 exact ⟨rfl,rfl⟩
def magicOf (gnu:Bool):List UInt8:=if gnu then [117,115,116,97,114,32,32,0] else [117,115,116,97,114,0,48,48]
theorem copy_blk (w:World) (ty:TypeId) (t:Nat) (T:TypeId) (pre post:List Value) (L:List UInt8) (k o n cap:Nat) (s:ByteArray) (h:BlkIn t T pre L post w) (hk:pre.length=k) (hs:s.size=n) (ho:o+n≤L.length) :
  ∃w',(Builtin.copy_ #[35,9] ty #[.slice (some ⟨t,k+o,none⟩) n cap,.string s]).run Tryz.prog w=.ok (goInt n) w'∧BlkIn t T pre (splice L o s.data.toList) post w'∧Chg [t] w w':=by
 have hcp:=copy_str w ty t (k+o) n cap s _ T h (by simp;omega)
 have h1:=h.put k o (s.data.toList.take n) hk (by simp;omega)
 have htk:s.data.toList.take n=s.data.toList:=List.take_of_length_le (by simp;omega)
 rw [htk] at h1 hcp
 rw [hs] at hcp
 have e:min (n:Int) (n:Int)=(n:Int):=by omega
 rw [e] at hcp
 exact ⟨_,hcp,h1,(Chg.refl [t] w).setRow (.inl (by simp)) _⟩
theorem sealed_magic (gnu:Bool) (L:List UInt8) (hL:L.length=512):(splice L 257 (magicOf gnu)).length=512:=by
 rw [splice_length _ _ _ (by cases gnu<;>simp [magicOf]<;>omega),hL]
theorem splice_splice (L:List UInt8) (o:Nat) (a b:List UInt8) (h:o+a.length+b.length≤L.length):splice (splice L o a) (o+a.length) b=splice L o (a++b):=by
 apply List.ext_getElem?
 intro j
 rw [splice_get _ _ _ (by rw [splice_length _ _ _ (by omega)];omega),splice_get _ _ _ (by omega),splice_get _ _ _ (by simp;omega),List.length_append]
 by_cases h1:o≤j∧j < o+a.length
 ·rw [if_neg (by omega),if_pos h1,if_pos (by omega),List.getElem?_append_left (by omega)]
 ·by_cases h2:o+a.length≤j∧j < o+a.length+b.length
  ·rw [if_pos h2,if_pos (by omega),List.getElem?_append_right (by omega)]
   congr 1;omega
  ·rw [if_neg h2,if_neg h1,if_neg (by omega)]
def sums (L:List UInt8):List UInt8:=splice L 148 (txt 7 (octStr 7 (sumTo L 512))++ [32])
theorem octs_sum (L:List UInt8):(octs (sumTo L 512)).length+1≤7:=by
 have h:=sumTo_le L 512
 have:=octs_length 6 (sumTo L 512) (by omega) (by omega)
 omega
theorem sums_set (L:List UInt8) (hL:L.length=512):(splice L 148 (txt 7 (octStr 7 (sumTo L 512)))).set 155 32=sums L:=by
 have ht:(txt 7 (octStr 7 (sumTo L 512))).length=7:=txt_length (by rw [octStr_size (octs_sum L)];omega)
 have h1:=splice_splice L 148 (txt 7 (octStr 7 (sumTo L 512))) [32] (by rw [ht,hL];decide)
 unfold sums
 rw [←h1,ht]
 apply List.ext_getElem?
 intro j
 rw [List.getElem?_set,splice_get _ (148+7) [32] (by rw [splice_length _ _ _ (by omega)];simp [hL]),splice_length _ _ _ (by omega)]
 by_cases h:155=j
 ·subst h;simp [hL]
 ·rw [if_neg h,if_neg (by simp;omega)]
set_option maxRecDepth 100000 in
set_option maxHeartbeats 2000000 in
theorem seal_posix (u p:Bool) (hup:(u || p)=true) (t:Nat) (T:TypeId) (pre post:List Value) (L:List UInt8) (k:Nat) (w:World) (h:BlkIn t T pre L post w) (hk:pre.length=k) (hL:L.length=512)
  (hz:∀i,148≤i→i < 156→L[i]? =some 0) (htab:w.cell? ⟨15,7,none⟩=some (.int .u8 3)) (h15:t≠15) :
  Calls Tryz.prog 132 #[.pointer (some ⟨t,k,none⟩),.int .i64 (fm u p false)] w fun e w'=>e=.returned (.tuple #[])∧BlkIn t T pre (sums (splice L 257 (magicOf false))) post w'∧Chg [t] w w':=by
 obtain ⟨w1,hc1,hb1,hg1⟩:=copy_blk w 3 t T pre post L k 257 6 255 ⟨#[117,115,116,97,114,0]⟩ h hk rfl (by omega)
 obtain ⟨w2,hc2,hb2,hg2⟩:=copy_blk w1 3 t T pre post _ k 263 2 249 ⟨#[48,48]⟩ hb1 hk rfl (by rw [splice_length _ _ _ (by simp;omega)];omega)
 have h2e:=splice_splice L 257 [117,115,116,97,114,0] [48,48] (by simp [hL])
 have hL2:=sealed_magic false L hL
 have hz2:∀i,148≤i→i < 148+7→(splice L 257 (magicOf false))[i]? =some 0:=by
  intro i h1 h3
  rw [splice_get _ _ _ (by simp [magicOf,hL]),if_neg (by omega),hz i h1 (by omega)]
 change splice (splice L 257 [117,115,116,97,114,0]) 263 [48,48]=splice L 257 (magicOf false) at h2e
 change BlkIn t T pre (splice (splice L 257 [117,115,116,97,114,0]) 263 [48,48]) post w2 at hb2
 rw [h2e] at hb2
 generalize splice L 257 (magicOf false)=M at hb2 hL2 hz2⊢
 have HZ:=Lib.hid hz2;have HT:=Lib.hid htab
 have HB:=Lib.hid hb2;have HG:=Lib.hid (hg1.trans hg2)
 clear h hz htab hb1 hb2 hg1 hg2 hz2 h2e
 have h1:(bits .and .i64 (fm u p false) 1 != 0)=false:=by cases u<;>cases p<;>rfl
 have h8:(bits .and .i64 (fm u p false) 8 != 0)=false:=by cases u<;>cases p<;>rfl
 have h16:(bits .and .i64 (fm u p false) 16 != 0)=false:=by cases u<;>cases p<;>rfl
 have h6:(bits .and .i64 (fm u p false) 6 != 0)=true:=by cases u<;>cases p<;>first | rfl | cases hup
 have H1:=Lib.hid h1;have H8:=Lib.hid h8;have H16:=Lib.hid h16;have H6:=Lib.hid h6
 clear h1 h8 h16 h6
 generalize fm u p false=F at H1 H8 H16 H6⊢
 have hx:(octs (sumTo M 512)).length+1≤7:=octs_sum M
 have hle:=sumTo_le M 512
 have hx7:((sumTo M 512:Nat):Int) < 262144:=by omega
 have hset:=sums_set M hL2
 have hck:=fun w' h'=>checksum_any t T pre post M k w' h' hk hL2
 have hl2:(splice M 148 (txt 7 (octStr 7 (sumTo M 512)))).length=512:=by rw [splice_length _ _ _ (by rw [txt_length (by rw [octStr_size hx];omega),hL2];decide),hL2]
 generalize hSu:sumTo M 512=S at hx hle hx7 hset hck hl2
 generalize sums M=Z at hset⊢
 have HX:=Lib.hid hx;have HS:=Lib.hid hset;have HL2:=Lib.hid hL2;have HCK:=Lib.hid hck;have Hl2:=Lib.hid hl2
 clear hx hset hL2 hL hck hSu hl2
 go_enter Tryz.func132,Tryz.ntmps132
 go_wp2_with (first
  | (go_at_call 66;refine (has_gen F _ _).mono ?_;(first | rw [H1.out] | rw [H8.out] | rw [H16.out] | rw [H6.out]);rintro e w1 ⟨rfl,rfl⟩)
  | (go_at_call 107;refine (toUSTAR t k _).mono ?_;rintro e w1 ⟨rfl,rfl⟩)
  | (go_at_call 182;refine (us_magic t k _).mono ?_;rintro e w1 ⟨rfl,rfl⟩)
  | (go_at_call 183;refine (us_version t k _).mono ?_;rintro e w1 ⟨rfl,rfl⟩)
  | (go_at_call 106;refine (toV7 t k _).mono ?_;rintro e w1 ⟨rfl,rfl⟩)
  | (go_at_call 184;refine (v7_chksum t k _).mono ?_;rintro e w1 ⟨rfl,rfl⟩)
  | (go_at_call 185;refine (HCK.out _ (HB.out.chg ((Chg.refl [] _).alloc _) (by simp))).mono ?_;rintro e w5 ⟨⟨s,rfl⟩,hg5⟩))
 refine (fmtOct_fits _ t T pre post M k 148 7 _ S _ (((HB.out.chg ((Chg.refl [] _).alloc _) (by simp))).chg hg5 (by simp)) hk (by have:=HL2.out;omega) HZ.out (by decide) HX.out (by omega) (octal7_yes _ _ (by omega) hx7) (hg5.cell (((Chg.refl [] _).alloc _).cell (HG.out.cell HT.out (by simp;exact fun e=>h15 e.symm)) (by simp)) (by simp))).mono ?_
 rintro e w6 ⟨rfl,hb6,hg6⟩
 have h7:(txt 7 (octStr 7 S)).length=7:=txt_length (by rw [octStr_size HX.out];omega)
 obtain ⟨c,hc⟩:∃c,(splice M 148 (txt 7 (octStr 7 S)))[155]? =some c:=⟨_,List.getElem?_eq_getElem (by rw [Hl2.out];decide)⟩
 have cd:w6.cell? ⟨t,k+148+7,none⟩=some (bv c):=by rw [Nat.add_assoc,hb6.cell k (148+7) hk (by rw [Hl2.out];decide),hc];rfl
 have fd:w6.frozen? ⟨t,k+148+7,none⟩=false:=hb6.frozen _
 have cd2:w6.cell? ⟨t,k+155,none⟩=some (bv c):=cd
 have fd2:w6.frozen? ⟨t,k+155,none⟩=false:=fd
 clear h7 hc
 have HB6:=Lib.hid hb6
 clear hb6
 go_wp2
 go_end0
 refine ⟨rfl,?_,?_⟩
 ·have:=HB6.out.set k 155 32 hk (by rw [Hl2.out];decide)
  rw [HS.out] at this
  exact this
 ·exact ((HG.out.trans ((((Chg.refl [] _).alloc _).trans hg5).mono (by simp))).trans hg6).setCell (.inl (by simp)) _
set_option maxRecDepth 100000 in
set_option maxHeartbeats 2000000 in
theorem seal_gnu (t:Nat) (T:TypeId) (pre post:List Value) (L:List UInt8) (k:Nat) (w:World) (h:BlkIn t T pre L post w) (hk:pre.length=k) (hL:L.length=512)
  (hz:∀i,148≤i→i < 156→L[i]? =some 0) (htab:w.cell? ⟨15,7,none⟩=some (.int .u8 3)) (h15:t≠15) :
  Calls Tryz.prog 132 #[.pointer (some ⟨t,k,none⟩),.int .i64 (fm false false true)] w fun e w'=>e=.returned (.tuple #[])∧BlkIn t T pre (sums (splice L 257 (magicOf true))) post w'∧Chg [t] w w':=by
 obtain ⟨w1,hc1,hb1,hg1⟩:=copy_blk w 3 t T pre post L k 257 6 255 ⟨#[117,115,116,97,114,32]⟩ h hk rfl (by omega)
 obtain ⟨w2,hc2,hb2,hg2⟩:=copy_blk w1 3 t T pre post _ k 263 2 249 ⟨#[32,0]⟩ hb1 hk rfl (by rw [splice_length _ _ _ (by simp;omega)];omega)
 have h2e:=splice_splice L 257 [117,115,116,97,114,32] [32,0] (by simp [hL])
 have hL2:=sealed_magic true L hL
 have hz2:∀i,148≤i→i < 148+7→(splice L 257 (magicOf true))[i]? =some 0:=by
  intro i h1 h3
  rw [splice_get _ _ _ (by simp [magicOf,hL]),if_neg (by omega),hz i h1 (by omega)]
 change splice (splice L 257 [117,115,116,97,114,32]) 263 [32,0]=splice L 257 (magicOf true) at h2e
 change BlkIn t T pre (splice (splice L 257 [117,115,116,97,114,32]) 263 [32,0]) post w2 at hb2
 rw [h2e] at hb2
 generalize splice L 257 (magicOf true)=M at hb2 hL2 hz2⊢
 have HZ:=Lib.hid hz2;have HT:=Lib.hid htab
 have HB:=Lib.hid hb2;have HG:=Lib.hid (hg1.trans hg2)
 clear h hz htab hb1 hb2 hg1 hg2 hz2 h2e
 have h1:(bits .and .i64 (fm false false true) 1 != 0)=false:=by rfl
 have h8:(bits .and .i64 (fm false false true) 8 != 0)=true:=by rfl
 have H1:=Lib.hid h1;have H8:=Lib.hid h8
 clear h1 h8
 generalize fm false false true=F at H1 H8⊢
 have hx:(octs (sumTo M 512)).length+1≤7:=octs_sum M
 have hle:=sumTo_le M 512
 have hx7:((sumTo M 512:Nat):Int) < 262144:=by omega
 have hset:=sums_set M hL2
 have hck:=fun w' h'=>checksum_any t T pre post M k w' h' hk hL2
 have hl2:(splice M 148 (txt 7 (octStr 7 (sumTo M 512)))).length=512:=by rw [splice_length _ _ _ (by rw [txt_length (by rw [octStr_size hx];omega),hL2];decide),hL2]
 generalize hSu:sumTo M 512=S at hx hle hx7 hset hck hl2
 generalize sums M=Z at hset⊢
 have HX:=Lib.hid hx;have HS:=Lib.hid hset;have HL2:=Lib.hid hL2;have HCK:=Lib.hid hck;have Hl2:=Lib.hid hl2
 clear hx hset hL2 hL hck hSu hl2
 go_enter Tryz.func132,Tryz.ntmps132
 go_wp2_with (first
  | (go_at_call 66;refine (has_gen F _ _).mono ?_;(first | rw [H1.out] | rw [H8.out]);rintro e w1 ⟨rfl,rfl⟩)
  | (go_at_call 108;refine (toGNU t k _).mono ?_;rintro e w1 ⟨rfl,rfl⟩)
  | (go_at_call 176;refine (gnu_magic t k _).mono ?_;rintro e w1 ⟨rfl,rfl⟩)
  | (go_at_call 177;refine (gnu_version t k _).mono ?_;rintro e w1 ⟨rfl,rfl⟩)
  | (go_at_call 106;refine (toV7 t k _).mono ?_;rintro e w1 ⟨rfl,rfl⟩)
  | (go_at_call 184;refine (v7_chksum t k _).mono ?_;rintro e w1 ⟨rfl,rfl⟩)
  | (go_at_call 185;refine (HCK.out _ (HB.out.chg ((Chg.refl [] _).alloc _) (by simp))).mono ?_;rintro e w5 ⟨⟨s,rfl⟩,hg5⟩))
 refine (fmtOct_fits _ t T pre post M k 148 7 _ S _ (((HB.out.chg ((Chg.refl [] _).alloc _) (by simp))).chg hg5 (by simp)) hk (by have:=HL2.out;omega) HZ.out (by decide) HX.out (by omega) (octal7_yes _ _ (by omega) hx7) (hg5.cell (((Chg.refl [] _).alloc _).cell (HG.out.cell HT.out (by simp;exact fun e=>h15 e.symm)) (by simp)) (by simp))).mono ?_
 rintro e w6 ⟨rfl,hb6,hg6⟩
 have h7:(txt 7 (octStr 7 S)).length=7:=txt_length (by rw [octStr_size HX.out];omega)
 obtain ⟨c,hc⟩:∃c,(splice M 148 (txt 7 (octStr 7 S)))[155]? =some c:=⟨_,List.getElem?_eq_getElem (by rw [Hl2.out];decide)⟩
 have cd:w6.cell? ⟨t,k+148+7,none⟩=some (bv c):=by rw [Nat.add_assoc,hb6.cell k (148+7) hk (by rw [Hl2.out];decide),hc];rfl
 have fd:w6.frozen? ⟨t,k+148+7,none⟩=false:=hb6.frozen _
 have cd2:w6.cell? ⟨t,k+155,none⟩=some (bv c):=cd
 have fd2:w6.frozen? ⟨t,k+155,none⟩=false:=fd
 clear h7 hc
 have HB6:=Lib.hid hb6
 clear hb6
 go_wp2
 go_end0
 refine ⟨rfl,?_,?_⟩
 ·have:=HB6.out.set k 155 32 hk (by rw [Hl2.out];decide)
  rw [HS.out] at this
  exact this
 ·exact ((HG.out.trans ((((Chg.refl [] _).alloc _).trans hg5).mono (by simp))).trans hg6).setCell (.inl (by simp)) _
end Go.Proofs.YtkanmkcojlefbaaGreatDoor
namespace Go.Proofs.YtkanmkcojlefbaaGreatDoor
open Go.RowKit
set_option linter.unusedSimpArgs false
structure HB where
 (nm md ui gi sz mt ck tf ln mg un gn dj dn px tl:List UInt8)
structure HB.Ok (h:HB):Prop where
 nm:h.nm.length=100
 md:h.md.length=8
 ui:h.ui.length=8
 gi:h.gi.length=8
 sz:h.sz.length=12
 mt:h.mt.length=12
 ck:h.ck.length=8
 tf:h.tf.length=1
 ln:h.ln.length=100
 mg:h.mg.length=8
 un:h.un.length=32
 gn:h.gn.length=32
 dj:h.dj.length=8
 dn:h.dn.length=8
 px:h.px.length=155
 tl:h.tl.length=12
def HB.bytes (h:HB):List UInt8:=h.nm++h.md++h.ui++h.gi++h.sz++h.mt++h.ck++h.tf++h.ln++h.mg++h.un++h.gn++h.dj++h.dn++h.px++h.tl
theorem HB.Ok.length {h:HB} (k:h.Ok):h.bytes.length=512:=by
 simp only [HB.bytes,List.length_append,k.nm,k.md,k.ui,k.gi,k.sz,k.mt,k.ck,k.tf,k.ln,k.mg,k.un,k.gn,k.dj,k.dn,k.px,k.tl]
theorem splice_whole {α:Type} (X x:List α) (h:X.length=x.length):splice X 0 x=x:=by
 unfold splice;simp;omega
theorem HB.cut_nm (h:HB):h.bytes=(([]:List UInt8))++h.nm++(h.md++h.ui++h.gi++h.sz++h.mt++h.ck++h.tf++h.ln++h.mg++h.un++h.gn++h.dj++h.dn++h.px++h.tl):=by
 simp only [HB.bytes,List.append_assoc,List.nil_append,List.append_nil]
theorem HB.Ok.at_nm {h:HB} (k:h.Ok):(([]:List UInt8)).length=0:=by
 simp only [List.length_append,List.length_nil]
theorem HB.Ok.sub_nm {h:HB} (k:h.Ok) (j:Nat) (x:List UInt8) (hx:j+x.length≤100):splice h.bytes (0+j) x={ h with nm:=splice h.nm j x }.bytes:=by
 rw [HB.cut_nm h,splice_mid _ _ _ 0 j x k.at_nm (by rw [k.nm];exact hx)]
 exact (HB.cut_nm { h with nm:=splice h.nm j x }).symm
theorem HB.Ok.put_nm {h:HB} (k:h.Ok) (x:List UInt8) (hx:x.length=100):splice h.bytes 0 x={ h with nm:=x }.bytes:=by
 have:=k.sub_nm 0 x (by omega)
 rw [splice_whole h.nm x (by rw [k.nm,hx])] at this
 exact this
theorem HB.Ok.set_nm {h:HB} (k:h.Ok) (x:List UInt8) (hx:x.length=100):({ h with nm:=x }:HB).Ok:=⟨hx,k.md,k.ui,k.gi,k.sz,k.mt,k.ck,k.tf,k.ln,k.mg,k.un,k.gn,k.dj,k.dn,k.px,k.tl⟩
theorem HB.Ok.get_nm {h:HB} (k:h.Ok) (i:Nat) (hi:i < 100):h.bytes[0+i]? =h.nm[i]? :=by
 rw [HB.cut_nm h,List.append_assoc,List.getElem?_append_right (by rw [k.at_nm];omega),k.at_nm,Nat.add_sub_cancel_left,List.getElem?_append_left (by rw [k.nm];exact hi)]
theorem HB.Ok.field_nm {h:HB} (k:h.Ok):(h.bytes.drop 0).take 100=h.nm:=by
 have e:=List.drop_left' (l₂:=h.nm++(h.md++h.ui++h.gi++h.sz++h.mt++h.ck++h.tf++h.ln++h.mg++h.un++h.gn++h.dj++h.dn++h.px++h.tl)) k.at_nm
 rw [HB.cut_nm h,List.append_assoc,e,List.take_left' k.nm]
theorem HB.Ok.zero_nm {h:HB} (k:h.Ok) (hz:h.nm=List.replicate 100 0) (i:Nat) (h1:0≤i) (h2:i < 0+100):h.bytes[i]? =some 0:=by
 have:=k.get_nm (i - 0) (by omega)
 rw [show 0+(i - 0)=i by omega] at this
 rw [this,hz,List.getElem?_replicate,if_pos (by omega)]
theorem HB.cut_md (h:HB):h.bytes=(h.nm)++h.md++(h.ui++h.gi++h.sz++h.mt++h.ck++h.tf++h.ln++h.mg++h.un++h.gn++h.dj++h.dn++h.px++h.tl):=by
 simp only [HB.bytes,List.append_assoc,List.nil_append,List.append_nil]
theorem HB.Ok.at_md {h:HB} (k:h.Ok):(h.nm).length=100:=by
 simp only [List.length_append,List.length_nil,k.nm]
theorem HB.Ok.sub_md {h:HB} (k:h.Ok) (j:Nat) (x:List UInt8) (hx:j+x.length≤8):splice h.bytes (100+j) x={ h with md:=splice h.md j x }.bytes:=by
 rw [HB.cut_md h,splice_mid _ _ _ 100 j x k.at_md (by rw [k.md];exact hx)]
 exact (HB.cut_md { h with md:=splice h.md j x }).symm
theorem HB.Ok.put_md {h:HB} (k:h.Ok) (x:List UInt8) (hx:x.length=8):splice h.bytes 100 x={ h with md:=x }.bytes:=by
 have:=k.sub_md 0 x (by omega)
 rw [splice_whole h.md x (by rw [k.md,hx])] at this
 exact this
theorem HB.Ok.set_md {h:HB} (k:h.Ok) (x:List UInt8) (hx:x.length=8):({ h with md:=x }:HB).Ok:=⟨k.nm,hx,k.ui,k.gi,k.sz,k.mt,k.ck,k.tf,k.ln,k.mg,k.un,k.gn,k.dj,k.dn,k.px,k.tl⟩
theorem HB.Ok.get_md {h:HB} (k:h.Ok) (i:Nat) (hi:i < 8):h.bytes[100+i]? =h.md[i]? :=by
 rw [HB.cut_md h,List.append_assoc,List.getElem?_append_right (by rw [k.at_md];omega),k.at_md,Nat.add_sub_cancel_left,List.getElem?_append_left (by rw [k.md];exact hi)]
theorem HB.Ok.field_md {h:HB} (k:h.Ok):(h.bytes.drop 100).take 8=h.md:=by
 have e:=List.drop_left' (l₂:=h.md++(h.ui++h.gi++h.sz++h.mt++h.ck++h.tf++h.ln++h.mg++h.un++h.gn++h.dj++h.dn++h.px++h.tl)) k.at_md
 rw [HB.cut_md h,List.append_assoc,e,List.take_left' k.md]
theorem HB.Ok.zero_md {h:HB} (k:h.Ok) (hz:h.md=List.replicate 8 0) (i:Nat) (h1:100≤i) (h2:i < 100+8):h.bytes[i]? =some 0:=by
 have:=k.get_md (i - 100) (by omega)
 rw [show 100+(i - 100)=i by omega] at this
 rw [this,hz,List.getElem?_replicate,if_pos (by omega)]
theorem HB.cut_ui (h:HB):h.bytes=(h.nm++h.md)++h.ui++(h.gi++h.sz++h.mt++h.ck++h.tf++h.ln++h.mg++h.un++h.gn++h.dj++h.dn++h.px++h.tl):=by
 simp only [HB.bytes,List.append_assoc,List.nil_append,List.append_nil]
theorem HB.Ok.at_ui {h:HB} (k:h.Ok):(h.nm++h.md).length=108:=by
 simp only [List.length_append,List.length_nil,k.nm,k.md]
theorem HB.Ok.sub_ui {h:HB} (k:h.Ok) (j:Nat) (x:List UInt8) (hx:j+x.length≤8):splice h.bytes (108+j) x={ h with ui:=splice h.ui j x }.bytes:=by
 rw [HB.cut_ui h,splice_mid _ _ _ 108 j x k.at_ui (by rw [k.ui];exact hx)]
 exact (HB.cut_ui { h with ui:=splice h.ui j x }).symm
theorem HB.Ok.put_ui {h:HB} (k:h.Ok) (x:List UInt8) (hx:x.length=8):splice h.bytes 108 x={ h with ui:=x }.bytes:=by
 have:=k.sub_ui 0 x (by omega)
 rw [splice_whole h.ui x (by rw [k.ui,hx])] at this
 exact this
theorem HB.Ok.set_ui {h:HB} (k:h.Ok) (x:List UInt8) (hx:x.length=8):({ h with ui:=x }:HB).Ok:=⟨k.nm,k.md,hx,k.gi,k.sz,k.mt,k.ck,k.tf,k.ln,k.mg,k.un,k.gn,k.dj,k.dn,k.px,k.tl⟩
theorem HB.Ok.get_ui {h:HB} (k:h.Ok) (i:Nat) (hi:i < 8):h.bytes[108+i]? =h.ui[i]? :=by
 rw [HB.cut_ui h,List.append_assoc,List.getElem?_append_right (by rw [k.at_ui];omega),k.at_ui,Nat.add_sub_cancel_left,List.getElem?_append_left (by rw [k.ui];exact hi)]
theorem HB.Ok.field_ui {h:HB} (k:h.Ok):(h.bytes.drop 108).take 8=h.ui:=by
 have e:=List.drop_left' (l₂:=h.ui++(h.gi++h.sz++h.mt++h.ck++h.tf++h.ln++h.mg++h.un++h.gn++h.dj++h.dn++h.px++h.tl)) k.at_ui
 rw [HB.cut_ui h,List.append_assoc,e,List.take_left' k.ui]
theorem HB.Ok.zero_ui {h:HB} (k:h.Ok) (hz:h.ui=List.replicate 8 0) (i:Nat) (h1:108≤i) (h2:i < 108+8):h.bytes[i]? =some 0:=by
 have:=k.get_ui (i - 108) (by omega)
 rw [show 108+(i - 108)=i by omega] at this
 rw [this,hz,List.getElem?_replicate,if_pos (by omega)]
theorem HB.cut_gi (h:HB):h.bytes=(h.nm++h.md++h.ui)++h.gi++(h.sz++h.mt++h.ck++h.tf++h.ln++h.mg++h.un++h.gn++h.dj++h.dn++h.px++h.tl):=by
 simp only [HB.bytes,List.append_assoc,List.nil_append,List.append_nil]
theorem HB.Ok.at_gi {h:HB} (k:h.Ok):(h.nm++h.md++h.ui).length=116:=by
 simp only [List.length_append,List.length_nil,k.nm,k.md,k.ui]
theorem HB.Ok.sub_gi {h:HB} (k:h.Ok) (j:Nat) (x:List UInt8) (hx:j+x.length≤8):splice h.bytes (116+j) x={ h with gi:=splice h.gi j x }.bytes:=by
 rw [HB.cut_gi h,splice_mid _ _ _ 116 j x k.at_gi (by rw [k.gi];exact hx)]
 exact (HB.cut_gi { h with gi:=splice h.gi j x }).symm
theorem HB.Ok.put_gi {h:HB} (k:h.Ok) (x:List UInt8) (hx:x.length=8):splice h.bytes 116 x={ h with gi:=x }.bytes:=by
 have:=k.sub_gi 0 x (by omega)
 rw [splice_whole h.gi x (by rw [k.gi,hx])] at this
 exact this
theorem HB.Ok.set_gi {h:HB} (k:h.Ok) (x:List UInt8) (hx:x.length=8):({ h with gi:=x }:HB).Ok:=⟨k.nm,k.md,k.ui,hx,k.sz,k.mt,k.ck,k.tf,k.ln,k.mg,k.un,k.gn,k.dj,k.dn,k.px,k.tl⟩
theorem HB.Ok.get_gi {h:HB} (k:h.Ok) (i:Nat) (hi:i < 8):h.bytes[116+i]? =h.gi[i]? :=by
 rw [HB.cut_gi h,List.append_assoc,List.getElem?_append_right (by rw [k.at_gi];omega),k.at_gi,Nat.add_sub_cancel_left,List.getElem?_append_left (by rw [k.gi];exact hi)]
theorem HB.Ok.field_gi {h:HB} (k:h.Ok):(h.bytes.drop 116).take 8=h.gi:=by
 have e:=List.drop_left' (l₂:=h.gi++(h.sz++h.mt++h.ck++h.tf++h.ln++h.mg++h.un++h.gn++h.dj++h.dn++h.px++h.tl)) k.at_gi
 rw [HB.cut_gi h,List.append_assoc,e,List.take_left' k.gi]
theorem HB.Ok.zero_gi {h:HB} (k:h.Ok) (hz:h.gi=List.replicate 8 0) (i:Nat) (h1:116≤i) (h2:i < 116+8):h.bytes[i]? =some 0:=by
 have:=k.get_gi (i - 116) (by omega)
 rw [show 116+(i - 116)=i by omega] at this
 rw [this,hz,List.getElem?_replicate,if_pos (by omega)]
theorem HB.cut_sz (h:HB):h.bytes=(h.nm++h.md++h.ui++h.gi)++h.sz++(h.mt++h.ck++h.tf++h.ln++h.mg++h.un++h.gn++h.dj++h.dn++h.px++h.tl):=by
 simp only [HB.bytes,List.append_assoc,List.nil_append,List.append_nil]
theorem HB.Ok.at_sz {h:HB} (k:h.Ok):(h.nm++h.md++h.ui++h.gi).length=124:=by
 simp only [List.length_append,List.length_nil,k.nm,k.md,k.ui,k.gi]
theorem HB.Ok.sub_sz {h:HB} (k:h.Ok) (j:Nat) (x:List UInt8) (hx:j+x.length≤12):splice h.bytes (124+j) x={ h with sz:=splice h.sz j x }.bytes:=by
 rw [HB.cut_sz h,splice_mid _ _ _ 124 j x k.at_sz (by rw [k.sz];exact hx)]
 exact (HB.cut_sz { h with sz:=splice h.sz j x }).symm
theorem HB.Ok.put_sz {h:HB} (k:h.Ok) (x:List UInt8) (hx:x.length=12):splice h.bytes 124 x={ h with sz:=x }.bytes:=by
 have:=k.sub_sz 0 x (by omega)
 rw [splice_whole h.sz x (by rw [k.sz,hx])] at this
 exact this
theorem HB.Ok.set_sz {h:HB} (k:h.Ok) (x:List UInt8) (hx:x.length=12):({ h with sz:=x }:HB).Ok:=⟨k.nm,k.md,k.ui,k.gi,hx,k.mt,k.ck,k.tf,k.ln,k.mg,k.un,k.gn,k.dj,k.dn,k.px,k.tl⟩
theorem HB.Ok.get_sz {h:HB} (k:h.Ok) (i:Nat) (hi:i < 12):h.bytes[124+i]? =h.sz[i]? :=by
 rw [HB.cut_sz h,List.append_assoc,List.getElem?_append_right (by rw [k.at_sz];omega),k.at_sz,Nat.add_sub_cancel_left,List.getElem?_append_left (by rw [k.sz];exact hi)]
theorem HB.Ok.field_sz {h:HB} (k:h.Ok):(h.bytes.drop 124).take 12=h.sz:=by
 have e:=List.drop_left' (l₂:=h.sz++(h.mt++h.ck++h.tf++h.ln++h.mg++h.un++h.gn++h.dj++h.dn++h.px++h.tl)) k.at_sz
 rw [HB.cut_sz h,List.append_assoc,e,List.take_left' k.sz]
theorem HB.Ok.zero_sz {h:HB} (k:h.Ok) (hz:h.sz=List.replicate 12 0) (i:Nat) (h1:124≤i) (h2:i < 124+12):h.bytes[i]? =some 0:=by
 have:=k.get_sz (i - 124) (by omega)
 rw [show 124+(i - 124)=i by omega] at this
 rw [this,hz,List.getElem?_replicate,if_pos (by omega)]
theorem HB.cut_mt (h:HB):h.bytes=(h.nm++h.md++h.ui++h.gi++h.sz)++h.mt++(h.ck++h.tf++h.ln++h.mg++h.un++h.gn++h.dj++h.dn++h.px++h.tl):=by
 simp only [HB.bytes,List.append_assoc,List.nil_append,List.append_nil]
theorem HB.Ok.at_mt {h:HB} (k:h.Ok):(h.nm++h.md++h.ui++h.gi++h.sz).length=136:=by
 simp only [List.length_append,List.length_nil,k.nm,k.md,k.ui,k.gi,k.sz]
theorem HB.Ok.sub_mt {h:HB} (k:h.Ok) (j:Nat) (x:List UInt8) (hx:j+x.length≤12):splice h.bytes (136+j) x={ h with mt:=splice h.mt j x }.bytes:=by
 rw [HB.cut_mt h,splice_mid _ _ _ 136 j x k.at_mt (by rw [k.mt];exact hx)]
 exact (HB.cut_mt { h with mt:=splice h.mt j x }).symm
theorem HB.Ok.put_mt {h:HB} (k:h.Ok) (x:List UInt8) (hx:x.length=12):splice h.bytes 136 x={ h with mt:=x }.bytes:=by
 have:=k.sub_mt 0 x (by omega)
 rw [splice_whole h.mt x (by rw [k.mt,hx])] at this
 exact this
theorem HB.Ok.set_mt {h:HB} (k:h.Ok) (x:List UInt8) (hx:x.length=12):({ h with mt:=x }:HB).Ok:=⟨k.nm,k.md,k.ui,k.gi,k.sz,hx,k.ck,k.tf,k.ln,k.mg,k.un,k.gn,k.dj,k.dn,k.px,k.tl⟩
theorem HB.Ok.get_mt {h:HB} (k:h.Ok) (i:Nat) (hi:i < 12):h.bytes[136+i]? =h.mt[i]? :=by
 rw [HB.cut_mt h,List.append_assoc,List.getElem?_append_right (by rw [k.at_mt];omega),k.at_mt,Nat.add_sub_cancel_left,List.getElem?_append_left (by rw [k.mt];exact hi)]
theorem HB.Ok.field_mt {h:HB} (k:h.Ok):(h.bytes.drop 136).take 12=h.mt:=by
 have e:=List.drop_left' (l₂:=h.mt++(h.ck++h.tf++h.ln++h.mg++h.un++h.gn++h.dj++h.dn++h.px++h.tl)) k.at_mt
 rw [HB.cut_mt h,List.append_assoc,e,List.take_left' k.mt]
theorem HB.Ok.zero_mt {h:HB} (k:h.Ok) (hz:h.mt=List.replicate 12 0) (i:Nat) (h1:136≤i) (h2:i < 136+12):h.bytes[i]? =some 0:=by
 have:=k.get_mt (i - 136) (by omega)
 rw [show 136+(i - 136)=i by omega] at this
 rw [this,hz,List.getElem?_replicate,if_pos (by omega)]
theorem HB.cut_ck (h:HB):h.bytes=(h.nm++h.md++h.ui++h.gi++h.sz++h.mt)++h.ck++(h.tf++h.ln++h.mg++h.un++h.gn++h.dj++h.dn++h.px++h.tl):=by
 simp only [HB.bytes,List.append_assoc,List.nil_append,List.append_nil]
theorem HB.Ok.at_ck {h:HB} (k:h.Ok):(h.nm++h.md++h.ui++h.gi++h.sz++h.mt).length=148:=by
 simp only [List.length_append,List.length_nil,k.nm,k.md,k.ui,k.gi,k.sz,k.mt]
theorem HB.Ok.sub_ck {h:HB} (k:h.Ok) (j:Nat) (x:List UInt8) (hx:j+x.length≤8):splice h.bytes (148+j) x={ h with ck:=splice h.ck j x }.bytes:=by
 rw [HB.cut_ck h,splice_mid _ _ _ 148 j x k.at_ck (by rw [k.ck];exact hx)]
 exact (HB.cut_ck { h with ck:=splice h.ck j x }).symm
theorem HB.Ok.put_ck {h:HB} (k:h.Ok) (x:List UInt8) (hx:x.length=8):splice h.bytes 148 x={ h with ck:=x }.bytes:=by
 have:=k.sub_ck 0 x (by omega)
 rw [splice_whole h.ck x (by rw [k.ck,hx])] at this
 exact this
theorem HB.Ok.set_ck {h:HB} (k:h.Ok) (x:List UInt8) (hx:x.length=8):({ h with ck:=x }:HB).Ok:=⟨k.nm,k.md,k.ui,k.gi,k.sz,k.mt,hx,k.tf,k.ln,k.mg,k.un,k.gn,k.dj,k.dn,k.px,k.tl⟩
theorem HB.Ok.get_ck {h:HB} (k:h.Ok) (i:Nat) (hi:i < 8):h.bytes[148+i]? =h.ck[i]? :=by
 rw [HB.cut_ck h,List.append_assoc,List.getElem?_append_right (by rw [k.at_ck];omega),k.at_ck,Nat.add_sub_cancel_left,List.getElem?_append_left (by rw [k.ck];exact hi)]
theorem HB.Ok.field_ck {h:HB} (k:h.Ok):(h.bytes.drop 148).take 8=h.ck:=by
 have e:=List.drop_left' (l₂:=h.ck++(h.tf++h.ln++h.mg++h.un++h.gn++h.dj++h.dn++h.px++h.tl)) k.at_ck
 rw [HB.cut_ck h,List.append_assoc,e,List.take_left' k.ck]
theorem HB.Ok.zero_ck {h:HB} (k:h.Ok) (hz:h.ck=List.replicate 8 0) (i:Nat) (h1:148≤i) (h2:i < 148+8):h.bytes[i]? =some 0:=by
 have:=k.get_ck (i - 148) (by omega)
 rw [show 148+(i - 148)=i by omega] at this
 rw [this,hz,List.getElem?_replicate,if_pos (by omega)]
theorem HB.cut_tf (h:HB):h.bytes=(h.nm++h.md++h.ui++h.gi++h.sz++h.mt++h.ck)++h.tf++(h.ln++h.mg++h.un++h.gn++h.dj++h.dn++h.px++h.tl):=by
 simp only [HB.bytes,List.append_assoc,List.nil_append,List.append_nil]
theorem HB.Ok.at_tf {h:HB} (k:h.Ok):(h.nm++h.md++h.ui++h.gi++h.sz++h.mt++h.ck).length=156:=by
 simp only [List.length_append,List.length_nil,k.nm,k.md,k.ui,k.gi,k.sz,k.mt,k.ck]
theorem HB.Ok.sub_tf {h:HB} (k:h.Ok) (j:Nat) (x:List UInt8) (hx:j+x.length≤1):splice h.bytes (156+j) x={ h with tf:=splice h.tf j x }.bytes:=by
 rw [HB.cut_tf h,splice_mid _ _ _ 156 j x k.at_tf (by rw [k.tf];exact hx)]
 exact (HB.cut_tf { h with tf:=splice h.tf j x }).symm
theorem HB.Ok.put_tf {h:HB} (k:h.Ok) (x:List UInt8) (hx:x.length=1):splice h.bytes 156 x={ h with tf:=x }.bytes:=by
 have:=k.sub_tf 0 x (by omega)
 rw [splice_whole h.tf x (by rw [k.tf,hx])] at this
 exact this
theorem HB.Ok.set_tf {h:HB} (k:h.Ok) (x:List UInt8) (hx:x.length=1):({ h with tf:=x }:HB).Ok:=⟨k.nm,k.md,k.ui,k.gi,k.sz,k.mt,k.ck,hx,k.ln,k.mg,k.un,k.gn,k.dj,k.dn,k.px,k.tl⟩
theorem HB.Ok.get_tf {h:HB} (k:h.Ok) (i:Nat) (hi:i < 1):h.bytes[156+i]? =h.tf[i]? :=by
 rw [HB.cut_tf h,List.append_assoc,List.getElem?_append_right (by rw [k.at_tf];omega),k.at_tf,Nat.add_sub_cancel_left,List.getElem?_append_left (by rw [k.tf];exact hi)]
theorem HB.cut_ln (h:HB):h.bytes=(h.nm++h.md++h.ui++h.gi++h.sz++h.mt++h.ck++h.tf)++h.ln++(h.mg++h.un++h.gn++h.dj++h.dn++h.px++h.tl):=by
 simp only [HB.bytes,List.append_assoc,List.nil_append,List.append_nil]
theorem HB.Ok.at_ln {h:HB} (k:h.Ok):(h.nm++h.md++h.ui++h.gi++h.sz++h.mt++h.ck++h.tf).length=157:=by
 simp only [List.length_append,List.length_nil,k.nm,k.md,k.ui,k.gi,k.sz,k.mt,k.ck,k.tf]
theorem HB.Ok.sub_ln {h:HB} (k:h.Ok) (j:Nat) (x:List UInt8) (hx:j+x.length≤100):splice h.bytes (157+j) x={ h with ln:=splice h.ln j x }.bytes:=by
 rw [HB.cut_ln h,splice_mid _ _ _ 157 j x k.at_ln (by rw [k.ln];exact hx)]
 exact (HB.cut_ln { h with ln:=splice h.ln j x }).symm
theorem HB.Ok.put_ln {h:HB} (k:h.Ok) (x:List UInt8) (hx:x.length=100):splice h.bytes 157 x={ h with ln:=x }.bytes:=by
 have:=k.sub_ln 0 x (by omega)
 rw [splice_whole h.ln x (by rw [k.ln,hx])] at this
 exact this
theorem HB.Ok.set_ln {h:HB} (k:h.Ok) (x:List UInt8) (hx:x.length=100):({ h with ln:=x }:HB).Ok:=⟨k.nm,k.md,k.ui,k.gi,k.sz,k.mt,k.ck,k.tf,hx,k.mg,k.un,k.gn,k.dj,k.dn,k.px,k.tl⟩
theorem HB.Ok.get_ln {h:HB} (k:h.Ok) (i:Nat) (hi:i < 100):h.bytes[157+i]? =h.ln[i]? :=by
 rw [HB.cut_ln h,List.append_assoc,List.getElem?_append_right (by rw [k.at_ln];omega),k.at_ln,Nat.add_sub_cancel_left,List.getElem?_append_left (by rw [k.ln];exact hi)]
theorem HB.Ok.field_ln {h:HB} (k:h.Ok):(h.bytes.drop 157).take 100=h.ln:=by
 have e:=List.drop_left' (l₂:=h.ln++(h.mg++h.un++h.gn++h.dj++h.dn++h.px++h.tl)) k.at_ln
 rw [HB.cut_ln h,List.append_assoc,e,List.take_left' k.ln]
theorem HB.Ok.zero_ln {h:HB} (k:h.Ok) (hz:h.ln=List.replicate 100 0) (i:Nat) (h1:157≤i) (h2:i < 157+100):h.bytes[i]? =some 0:=by
 have:=k.get_ln (i - 157) (by omega)
 rw [show 157+(i - 157)=i by omega] at this
 rw [this,hz,List.getElem?_replicate,if_pos (by omega)]
theorem HB.cut_mg (h:HB):h.bytes=(h.nm++h.md++h.ui++h.gi++h.sz++h.mt++h.ck++h.tf++h.ln)++h.mg++(h.un++h.gn++h.dj++h.dn++h.px++h.tl):=by
 simp only [HB.bytes,List.append_assoc,List.nil_append,List.append_nil]
theorem HB.Ok.at_mg {h:HB} (k:h.Ok):(h.nm++h.md++h.ui++h.gi++h.sz++h.mt++h.ck++h.tf++h.ln).length=257:=by
 simp only [List.length_append,List.length_nil,k.nm,k.md,k.ui,k.gi,k.sz,k.mt,k.ck,k.tf,k.ln]
theorem HB.Ok.sub_mg {h:HB} (k:h.Ok) (j:Nat) (x:List UInt8) (hx:j+x.length≤8):splice h.bytes (257+j) x={ h with mg:=splice h.mg j x }.bytes:=by
 rw [HB.cut_mg h,splice_mid _ _ _ 257 j x k.at_mg (by rw [k.mg];exact hx)]
 exact (HB.cut_mg { h with mg:=splice h.mg j x }).symm
theorem HB.Ok.put_mg {h:HB} (k:h.Ok) (x:List UInt8) (hx:x.length=8):splice h.bytes 257 x={ h with mg:=x }.bytes:=by
 have:=k.sub_mg 0 x (by omega)
 rw [splice_whole h.mg x (by rw [k.mg,hx])] at this
 exact this
theorem HB.Ok.set_mg {h:HB} (k:h.Ok) (x:List UInt8) (hx:x.length=8):({ h with mg:=x }:HB).Ok:=⟨k.nm,k.md,k.ui,k.gi,k.sz,k.mt,k.ck,k.tf,k.ln,hx,k.un,k.gn,k.dj,k.dn,k.px,k.tl⟩
theorem HB.Ok.get_mg {h:HB} (k:h.Ok) (i:Nat) (hi:i < 8):h.bytes[257+i]? =h.mg[i]? :=by
 rw [HB.cut_mg h,List.append_assoc,List.getElem?_append_right (by rw [k.at_mg];omega),k.at_mg,Nat.add_sub_cancel_left,List.getElem?_append_left (by rw [k.mg];exact hi)]
theorem HB.Ok.field_mg {h:HB} (k:h.Ok):(h.bytes.drop 257).take 8=h.mg:=by
 have e:=List.drop_left' (l₂:=h.mg++(h.un++h.gn++h.dj++h.dn++h.px++h.tl)) k.at_mg
 rw [HB.cut_mg h,List.append_assoc,e,List.take_left' k.mg]
theorem HB.cut_un (h:HB):h.bytes=(h.nm++h.md++h.ui++h.gi++h.sz++h.mt++h.ck++h.tf++h.ln++h.mg)++h.un++(h.gn++h.dj++h.dn++h.px++h.tl):=by
 simp only [HB.bytes,List.append_assoc,List.nil_append,List.append_nil]
theorem HB.Ok.at_un {h:HB} (k:h.Ok):(h.nm++h.md++h.ui++h.gi++h.sz++h.mt++h.ck++h.tf++h.ln++h.mg).length=265:=by
 simp only [List.length_append,List.length_nil,k.nm,k.md,k.ui,k.gi,k.sz,k.mt,k.ck,k.tf,k.ln,k.mg]
theorem HB.Ok.sub_un {h:HB} (k:h.Ok) (j:Nat) (x:List UInt8) (hx:j+x.length≤32):splice h.bytes (265+j) x={ h with un:=splice h.un j x }.bytes:=by
 rw [HB.cut_un h,splice_mid _ _ _ 265 j x k.at_un (by rw [k.un];exact hx)]
 exact (HB.cut_un { h with un:=splice h.un j x }).symm
theorem HB.Ok.put_un {h:HB} (k:h.Ok) (x:List UInt8) (hx:x.length=32):splice h.bytes 265 x={ h with un:=x }.bytes:=by
 have:=k.sub_un 0 x (by omega)
 rw [splice_whole h.un x (by rw [k.un,hx])] at this
 exact this
theorem HB.Ok.set_un {h:HB} (k:h.Ok) (x:List UInt8) (hx:x.length=32):({ h with un:=x }:HB).Ok:=⟨k.nm,k.md,k.ui,k.gi,k.sz,k.mt,k.ck,k.tf,k.ln,k.mg,hx,k.gn,k.dj,k.dn,k.px,k.tl⟩
theorem HB.Ok.get_un {h:HB} (k:h.Ok) (i:Nat) (hi:i < 32):h.bytes[265+i]? =h.un[i]? :=by
 rw [HB.cut_un h,List.append_assoc,List.getElem?_append_right (by rw [k.at_un];omega),k.at_un,Nat.add_sub_cancel_left,List.getElem?_append_left (by rw [k.un];exact hi)]
theorem HB.Ok.field_un {h:HB} (k:h.Ok):(h.bytes.drop 265).take 32=h.un:=by
 have e:=List.drop_left' (l₂:=h.un++(h.gn++h.dj++h.dn++h.px++h.tl)) k.at_un
 rw [HB.cut_un h,List.append_assoc,e,List.take_left' k.un]
theorem HB.Ok.zero_un {h:HB} (k:h.Ok) (hz:h.un=List.replicate 32 0) (i:Nat) (h1:265≤i) (h2:i < 265+32):h.bytes[i]? =some 0:=by
 have:=k.get_un (i - 265) (by omega)
 rw [show 265+(i - 265)=i by omega] at this
 rw [this,hz,List.getElem?_replicate,if_pos (by omega)]
theorem HB.cut_gn (h:HB):h.bytes=(h.nm++h.md++h.ui++h.gi++h.sz++h.mt++h.ck++h.tf++h.ln++h.mg++h.un)++h.gn++(h.dj++h.dn++h.px++h.tl):=by
 simp only [HB.bytes,List.append_assoc,List.nil_append,List.append_nil]
theorem HB.Ok.at_gn {h:HB} (k:h.Ok):(h.nm++h.md++h.ui++h.gi++h.sz++h.mt++h.ck++h.tf++h.ln++h.mg++h.un).length=297:=by
 simp only [List.length_append,List.length_nil,k.nm,k.md,k.ui,k.gi,k.sz,k.mt,k.ck,k.tf,k.ln,k.mg,k.un]
theorem HB.Ok.sub_gn {h:HB} (k:h.Ok) (j:Nat) (x:List UInt8) (hx:j+x.length≤32):splice h.bytes (297+j) x={ h with gn:=splice h.gn j x }.bytes:=by
 rw [HB.cut_gn h,splice_mid _ _ _ 297 j x k.at_gn (by rw [k.gn];exact hx)]
 exact (HB.cut_gn { h with gn:=splice h.gn j x }).symm
theorem HB.Ok.put_gn {h:HB} (k:h.Ok) (x:List UInt8) (hx:x.length=32):splice h.bytes 297 x={ h with gn:=x }.bytes:=by
 have:=k.sub_gn 0 x (by omega)
 rw [splice_whole h.gn x (by rw [k.gn,hx])] at this
 exact this
theorem HB.Ok.set_gn {h:HB} (k:h.Ok) (x:List UInt8) (hx:x.length=32):({ h with gn:=x }:HB).Ok:=⟨k.nm,k.md,k.ui,k.gi,k.sz,k.mt,k.ck,k.tf,k.ln,k.mg,k.un,hx,k.dj,k.dn,k.px,k.tl⟩
theorem HB.Ok.get_gn {h:HB} (k:h.Ok) (i:Nat) (hi:i < 32):h.bytes[297+i]? =h.gn[i]? :=by
 rw [HB.cut_gn h,List.append_assoc,List.getElem?_append_right (by rw [k.at_gn];omega),k.at_gn,Nat.add_sub_cancel_left,List.getElem?_append_left (by rw [k.gn];exact hi)]
theorem HB.Ok.field_gn {h:HB} (k:h.Ok):(h.bytes.drop 297).take 32=h.gn:=by
 have e:=List.drop_left' (l₂:=h.gn++(h.dj++h.dn++h.px++h.tl)) k.at_gn
 rw [HB.cut_gn h,List.append_assoc,e,List.take_left' k.gn]
theorem HB.Ok.zero_gn {h:HB} (k:h.Ok) (hz:h.gn=List.replicate 32 0) (i:Nat) (h1:297≤i) (h2:i < 297+32):h.bytes[i]? =some 0:=by
 have:=k.get_gn (i - 297) (by omega)
 rw [show 297+(i - 297)=i by omega] at this
 rw [this,hz,List.getElem?_replicate,if_pos (by omega)]
theorem HB.cut_dj (h:HB):h.bytes=(h.nm++h.md++h.ui++h.gi++h.sz++h.mt++h.ck++h.tf++h.ln++h.mg++h.un++h.gn)++h.dj++(h.dn++h.px++h.tl):=by
 simp only [HB.bytes,List.append_assoc,List.nil_append,List.append_nil]
theorem HB.Ok.at_dj {h:HB} (k:h.Ok):(h.nm++h.md++h.ui++h.gi++h.sz++h.mt++h.ck++h.tf++h.ln++h.mg++h.un++h.gn).length=329:=by
 simp only [List.length_append,List.length_nil,k.nm,k.md,k.ui,k.gi,k.sz,k.mt,k.ck,k.tf,k.ln,k.mg,k.un,k.gn]
theorem HB.Ok.sub_dj {h:HB} (k:h.Ok) (j:Nat) (x:List UInt8) (hx:j+x.length≤8):splice h.bytes (329+j) x={ h with dj:=splice h.dj j x }.bytes:=by
 rw [HB.cut_dj h,splice_mid _ _ _ 329 j x k.at_dj (by rw [k.dj];exact hx)]
 exact (HB.cut_dj { h with dj:=splice h.dj j x }).symm
theorem HB.Ok.put_dj {h:HB} (k:h.Ok) (x:List UInt8) (hx:x.length=8):splice h.bytes 329 x={ h with dj:=x }.bytes:=by
 have:=k.sub_dj 0 x (by omega)
 rw [splice_whole h.dj x (by rw [k.dj,hx])] at this
 exact this
theorem HB.Ok.set_dj {h:HB} (k:h.Ok) (x:List UInt8) (hx:x.length=8):({ h with dj:=x }:HB).Ok:=⟨k.nm,k.md,k.ui,k.gi,k.sz,k.mt,k.ck,k.tf,k.ln,k.mg,k.un,k.gn,hx,k.dn,k.px,k.tl⟩
theorem HB.Ok.get_dj {h:HB} (k:h.Ok) (i:Nat) (hi:i < 8):h.bytes[329+i]? =h.dj[i]? :=by
 rw [HB.cut_dj h,List.append_assoc,List.getElem?_append_right (by rw [k.at_dj];omega),k.at_dj,Nat.add_sub_cancel_left,List.getElem?_append_left (by rw [k.dj];exact hi)]
theorem HB.Ok.field_dj {h:HB} (k:h.Ok):(h.bytes.drop 329).take 8=h.dj:=by
 have e:=List.drop_left' (l₂:=h.dj++(h.dn++h.px++h.tl)) k.at_dj
 rw [HB.cut_dj h,List.append_assoc,e,List.take_left' k.dj]
theorem HB.Ok.zero_dj {h:HB} (k:h.Ok) (hz:h.dj=List.replicate 8 0) (i:Nat) (h1:329≤i) (h2:i < 329+8):h.bytes[i]? =some 0:=by
 have:=k.get_dj (i - 329) (by omega)
 rw [show 329+(i - 329)=i by omega] at this
 rw [this,hz,List.getElem?_replicate,if_pos (by omega)]
theorem HB.cut_dn (h:HB):h.bytes=(h.nm++h.md++h.ui++h.gi++h.sz++h.mt++h.ck++h.tf++h.ln++h.mg++h.un++h.gn++h.dj)++h.dn++(h.px++h.tl):=by
 simp only [HB.bytes,List.append_assoc,List.nil_append,List.append_nil]
theorem HB.Ok.at_dn {h:HB} (k:h.Ok):(h.nm++h.md++h.ui++h.gi++h.sz++h.mt++h.ck++h.tf++h.ln++h.mg++h.un++h.gn++h.dj).length=337:=by
 simp only [List.length_append,List.length_nil,k.nm,k.md,k.ui,k.gi,k.sz,k.mt,k.ck,k.tf,k.ln,k.mg,k.un,k.gn,k.dj]
theorem HB.Ok.sub_dn {h:HB} (k:h.Ok) (j:Nat) (x:List UInt8) (hx:j+x.length≤8):splice h.bytes (337+j) x={ h with dn:=splice h.dn j x }.bytes:=by
 rw [HB.cut_dn h,splice_mid _ _ _ 337 j x k.at_dn (by rw [k.dn];exact hx)]
 exact (HB.cut_dn { h with dn:=splice h.dn j x }).symm
theorem HB.Ok.put_dn {h:HB} (k:h.Ok) (x:List UInt8) (hx:x.length=8):splice h.bytes 337 x={ h with dn:=x }.bytes:=by
 have:=k.sub_dn 0 x (by omega)
 rw [splice_whole h.dn x (by rw [k.dn,hx])] at this
 exact this
theorem HB.Ok.set_dn {h:HB} (k:h.Ok) (x:List UInt8) (hx:x.length=8):({ h with dn:=x }:HB).Ok:=⟨k.nm,k.md,k.ui,k.gi,k.sz,k.mt,k.ck,k.tf,k.ln,k.mg,k.un,k.gn,k.dj,hx,k.px,k.tl⟩
theorem HB.Ok.get_dn {h:HB} (k:h.Ok) (i:Nat) (hi:i < 8):h.bytes[337+i]? =h.dn[i]? :=by
 rw [HB.cut_dn h,List.append_assoc,List.getElem?_append_right (by rw [k.at_dn];omega),k.at_dn,Nat.add_sub_cancel_left,List.getElem?_append_left (by rw [k.dn];exact hi)]
theorem HB.Ok.field_dn {h:HB} (k:h.Ok):(h.bytes.drop 337).take 8=h.dn:=by
 have e:=List.drop_left' (l₂:=h.dn++(h.px++h.tl)) k.at_dn
 rw [HB.cut_dn h,List.append_assoc,e,List.take_left' k.dn]
theorem HB.Ok.zero_dn {h:HB} (k:h.Ok) (hz:h.dn=List.replicate 8 0) (i:Nat) (h1:337≤i) (h2:i < 337+8):h.bytes[i]? =some 0:=by
 have:=k.get_dn (i - 337) (by omega)
 rw [show 337+(i - 337)=i by omega] at this
 rw [this,hz,List.getElem?_replicate,if_pos (by omega)]
theorem HB.cut_px (h:HB):h.bytes=(h.nm++h.md++h.ui++h.gi++h.sz++h.mt++h.ck++h.tf++h.ln++h.mg++h.un++h.gn++h.dj++h.dn)++h.px++(h.tl):=by
 simp only [HB.bytes,List.append_assoc,List.nil_append,List.append_nil]
theorem HB.Ok.at_px {h:HB} (k:h.Ok):(h.nm++h.md++h.ui++h.gi++h.sz++h.mt++h.ck++h.tf++h.ln++h.mg++h.un++h.gn++h.dj++h.dn).length=345:=by
 simp only [List.length_append,List.length_nil,k.nm,k.md,k.ui,k.gi,k.sz,k.mt,k.ck,k.tf,k.ln,k.mg,k.un,k.gn,k.dj,k.dn]
theorem HB.Ok.sub_px {h:HB} (k:h.Ok) (j:Nat) (x:List UInt8) (hx:j+x.length≤155):splice h.bytes (345+j) x={ h with px:=splice h.px j x }.bytes:=by
 rw [HB.cut_px h,splice_mid _ _ _ 345 j x k.at_px (by rw [k.px];exact hx)]
 exact (HB.cut_px { h with px:=splice h.px j x }).symm
theorem HB.Ok.put_px {h:HB} (k:h.Ok) (x:List UInt8) (hx:x.length=155):splice h.bytes 345 x={ h with px:=x }.bytes:=by
 have:=k.sub_px 0 x (by omega)
 rw [splice_whole h.px x (by rw [k.px,hx])] at this
 exact this
theorem HB.Ok.set_px {h:HB} (k:h.Ok) (x:List UInt8) (hx:x.length=155):({ h with px:=x }:HB).Ok:=⟨k.nm,k.md,k.ui,k.gi,k.sz,k.mt,k.ck,k.tf,k.ln,k.mg,k.un,k.gn,k.dj,k.dn,hx,k.tl⟩
theorem HB.Ok.get_px {h:HB} (k:h.Ok) (i:Nat) (hi:i < 155):h.bytes[345+i]? =h.px[i]? :=by
 rw [HB.cut_px h,List.append_assoc,List.getElem?_append_right (by rw [k.at_px];omega),k.at_px,Nat.add_sub_cancel_left,List.getElem?_append_left (by rw [k.px];exact hi)]
theorem HB.Ok.field_px {h:HB} (k:h.Ok):(h.bytes.drop 345).take 155=h.px:=by
 have e:=List.drop_left' (l₂:=h.px++(h.tl)) k.at_px
 rw [HB.cut_px h,List.append_assoc,e,List.take_left' k.px]
theorem HB.Ok.zero_px {h:HB} (k:h.Ok) (hz:h.px=List.replicate 155 0) (i:Nat) (h1:345≤i) (h2:i < 345+155):h.bytes[i]? =some 0:=by
 have:=k.get_px (i - 345) (by omega)
 rw [show 345+(i - 345)=i by omega] at this
 rw [this,hz,List.getElem?_replicate,if_pos (by omega)]
theorem HB.cut_tl (h:HB):h.bytes=(h.nm++h.md++h.ui++h.gi++h.sz++h.mt++h.ck++h.tf++h.ln++h.mg++h.un++h.gn++h.dj++h.dn++h.px)++h.tl++(([]:List UInt8)):=by
 simp only [HB.bytes,List.append_assoc,List.nil_append,List.append_nil]
theorem HB.Ok.at_tl {h:HB} (k:h.Ok):(h.nm++h.md++h.ui++h.gi++h.sz++h.mt++h.ck++h.tf++h.ln++h.mg++h.un++h.gn++h.dj++h.dn++h.px).length=500:=by
 simp only [List.length_append,List.length_nil,k.nm,k.md,k.ui,k.gi,k.sz,k.mt,k.ck,k.tf,k.ln,k.mg,k.un,k.gn,k.dj,k.dn,k.px]
theorem HB.Ok.field_tl {h:HB} (k:h.Ok):(h.bytes.drop 500).take 12=h.tl:=by
 have e:=List.drop_left' (l₂:=h.tl++(([]:List UInt8))) k.at_tl
 rw [HB.cut_tl h,List.append_assoc,e,List.take_left' k.tl]
def HB.zero:HB:=⟨List.replicate 100 0,List.replicate 8 0,List.replicate 8 0,List.replicate 8 0,List.replicate 12 0,List.replicate 12 0,List.replicate 8 0,List.replicate 1 0,List.replicate 100 0,List.replicate 8 0,List.replicate 32 0,List.replicate 32 0,List.replicate 8 0,List.replicate 8 0,List.replicate 155 0,List.replicate 12 0⟩
theorem HB.zero_ok:HB.zero.Ok:=⟨List.length_replicate,List.length_replicate,List.length_replicate,List.length_replicate,List.length_replicate,List.length_replicate,List.length_replicate,List.length_replicate,List.length_replicate,List.length_replicate,List.length_replicate,List.length_replicate,List.length_replicate,List.length_replicate,List.length_replicate,List.length_replicate⟩
theorem HB.zero_bytes:HB.zero.bytes=List.replicate 512 0:=by
 simp only [HB.bytes,HB.zero,List.replicate_append_replicate]
end Go.Proofs.YtkanmkcojlefbaaGreatDoor
namespace Go.Proofs.YtkanmkcojlefbaaGreatDoor
open Go.RowKit
theorem sumTo_congr (L M:List UInt8):∀n,(∀i,i < n→¬(148≤i∧i < 156)→L.getD i 0=M.getD i 0)→sumTo L n=sumTo M n
 | 0,_=>rfl
 | n+1,h=>by
  rw [sumTo,sumTo,sumTo_congr L M n (fun i hi=>h i (by omega))]
  by_cases hc:148≤n∧n < 156
  ·rw [if_pos hc,if_pos hc]
  ·rw [if_neg hc,if_neg hc,h n (by omega) hc]
structure RdB (gnu:Bool) (h:HB):Prop where
 ok:h.Ok
 mg:h.mg=magicOf gnu
 ck:OctF h.ck (sumTo h.bytes 512)
 tl:h.tl=List.replicate 12 0
def ckOf (gnu:Bool) (b:HB):List UInt8:=txt 7 (octStr 7 (sumTo (splice b.bytes 257 (magicOf gnu)) 512))++ [32]
def sealB (gnu:Bool) (b:HB):HB:={ b with mg:=magicOf gnu,ck:=ckOf gnu b }
theorem magicOf_length (gnu:Bool):(magicOf gnu).length=8:=by cases gnu<;>rfl
theorem ckOf_length (gnu:Bool) (b:HB):(ckOf gnu b).length=8:=by
 unfold ckOf
 rw [List.length_append,octStr_txt_len (octs_sum _)]
 rfl
theorem seal_bytes {gnu:Bool} {b:HB} (k:b.Ok):sums (splice b.bytes 257 (magicOf gnu))=(sealB gnu b).bytes:=by
 have h1:=k.put_mg (magicOf gnu) (magicOf_length gnu)
 have k1:=k.set_mg (magicOf gnu) (magicOf_length gnu)
 unfold sums
 have h2:=k1.put_ck (ckOf gnu b) (ckOf_length gnu b)
 show splice (splice b.bytes 257 (magicOf gnu)) 148 (ckOf gnu b)=_
 rw [h1]
 exact h2
theorem rdB_seal {gnu:Bool} {b:HB} (k:b.Ok) (ht:b.tl=List.replicate 12 0):RdB gnu (sealB gnu b):=by
 have k1:=k.set_mg (magicOf gnu) (magicOf_length gnu)
 have k2:=k1.set_ck (ckOf gnu b) (ckOf_length gnu b)
 refine ⟨k2,rfl,?_,ht⟩
 have hl:(splice b.bytes 257 (magicOf gnu)).length=512:=sealed_magic gnu _ k.length
 have hs:sumTo (sealB gnu b).bytes 512=sumTo (splice b.bytes 257 (magicOf gnu)) 512:=by
  rw [←seal_bytes k]
  refine sumTo_congr _ _ _ (fun i hi hc=> ?_)
  unfold sums
  rw [List.getD_eq_getElem?_getD,List.getD_eq_getElem?_getD,splice_get _ _ _ (by rw [show (txt 7 (octStr 7 (sumTo (splice b.bytes 257 (magicOf gnu)) 512))++ [32])=ckOf gnu b from rfl,ckOf_length,hl];decide),if_neg (by rw [show (txt 7 (octStr 7 (sumTo (splice b.bytes 257 (magicOf gnu)) 512))++ [32])=ckOf gnu b from rfl,ckOf_length];omega)]
 rw [hs]
 show OctF (ckOf gnu b) _
 unfold ckOf
 have hle:=sumTo_le (splice b.bytes 257 (magicOf gnu)) 512
 obtain ⟨d,tl,h1,h2,h3,h4,h5,h6⟩:=octF_txt (octs_sum (splice b.bytes 257 (magicOf gnu))) (by omega)
 refine ⟨d,tl++ [32],by rw [h1,List.append_assoc],h2,h3,?_,h5,h6⟩
 intro c hc
 rcases List.mem_append.1 hc with hc | hc
 ·exact h4 c hc
 ·rw [List.mem_singleton] at hc;exact .inr hc
theorem rdB_ascii {h:HB} (k:RdB false h) (h1:∀c∈h.nm,c.toNat < 128) (h2:∀c∈h.md,c.toNat < 128) (h3:∀c∈h.ui,c.toNat < 128) (h4:∀c∈h.gi,c.toNat < 128) (h5:∀c∈h.sz,c.toNat < 128) (h6:∀c∈h.mt,c.toNat < 128) (h7:∀c∈h.tf,c.toNat < 128) (h8:∀c∈h.ln,c.toNat < 128)
  (h9:∀c∈h.un,c.toNat < 128) (h10:∀c∈h.gn,c.toNat < 128) (h11:∀c∈h.dj,c.toNat < 128) (h12:∀c∈h.dn,c.toNat < 128) (h13:∀c∈h.px,c.toNat < 128):∀c∈h.bytes,c.toNat < 128:=by
 intro c hc
 simp only [HB.bytes,List.mem_append] at hc
 rcases hc with ((((((((((((((hc | hc) | hc) | hc) | hc) | hc) | hc) | hc) | hc) | hc) | hc) | hc) | hc) | hc) | hc) | hc
 ·exact h1 c hc
 ·exact h2 c hc
 ·exact h3 c hc
 ·exact h4 c hc
 ·exact h5 c hc
 ·exact h6 c hc
 ·exact octF_ascii k.ck c hc
 ·exact h7 c hc
 ·exact h8 c hc
 ·rw [k.mg] at hc
  have:∀c∈magicOf false,c.toNat < 128:=by decide
  exact this c hc
 ·exact h9 c hc
 ·exact h10 c hc
 ·exact h11 c hc
 ·exact h12 c hc
 ·exact h13 c hc
 ·rw [k.tl] at hc
  rw [(List.mem_replicate.1 hc).2];decide
theorem rep_ascii (n:Nat):∀c∈List.replicate n (0:UInt8),c.toNat < 128:=by
 intro c hc
 rw [(List.mem_replicate.1 hc).2];decide
theorem octOut_ascii {n:Nat} {x:Int} {y:List UInt8} (h:OctOut n x y):∀c∈y,c.toNat < 128:=by
 obtain ⟨_,⟨z,hz,_⟩,_⟩:=h
 exact octF_ascii hz
end Go.Proofs.YtkanmkcojlefbaaGreatDoor
namespace Go.Proofs.YtkanmkcojlefbaaGreatDoor
open Go.RowKit
def be (a:Nat) (l:List UInt8):Nat:=l.foldl (fun a c=>a*256+c.toNat) a
theorem be_append (a:Nat) (l m:List UInt8):be a (l++m)=be (be a l) m:=by simp [be,List.foldl_append]
theorem be_cons (a:Nat) (c:UInt8) (l:List UInt8):be a (c::l)=be (a*256+c.toNat) l:=by simp only [be,List.foldl_cons]
theorem be_nil (a:Nat):be a []=a:=rfl
theorem be_mono:∀(l:List UInt8) (a:Nat),a≤be a l
 | [],a=>Nat.le_refl _
 | c::r,a=>by
  rw [be_cons]
  exact Nat.le_trans (by omega) (be_mono r _)
theorem be_mono2:∀(l:List UInt8) (a:Nat),l≠ []→a*256≤be a l
 | [],a,h=>absurd rfl h
 | c::r,a,_=>by
  rw [be_cons]
  exact Nat.le_trans (by omega) (be_mono r _)
theorem be_take {l:List UInt8} {k:Nat} (h:k < l.length):be 0 (l.take (k+1))=be 0 (l.take k)*256+(l[k]).toNat:=by
 rw [List.take_succ_eq_append_getElem h,be_append,be_cons,be_nil]
theorem be_take_le (l:List UInt8) (k:Nat) (h:k < l.length):be 0 (l.take k)*256≤be 0 l:=by
 conv=>rhs;rw [←List.take_append_drop k l,be_append]
 exact be_mono2 _ _ (by intro e;have:=congrArg List.length e;simp at this;omega)
theorem be_lows:∀(m:Nat) (x:Int),(be 0 (lows m x):Int)=x % (256:Int) ^ m
 | 0,x=>by simp [lows,be_nil]
 | m+1,x=>by
  have ih:=be_lows m (x / 256)
  have hp:(0:Int) < (256:Int) ^ m:=Int.pow_pos (by decide)
  rw [lows,be_append,be_cons,be_nil,Int.pow_succ]
  have hb:=byte_low x
  rw [Int.natCast_add,Int.natCast_mul,ih,←hb]
  show x / 256 % (256:Int) ^ m*256+x % 256=_
  generalize (256:Int) ^ m=P at*
  have h1:=Int.emod_nonneg (x / 256) (show P≠0 by omega)
  have h2:=Int.emod_lt_of_pos (x / 256) hp
  have h3:=Int.mul_ediv_add_emod (x / 256) P
  have h4:=Int.mul_ediv_add_emod x 256
  have h5:=Int.emod_nonneg x (show (256:Int)≠0 by decide)
  have h6:=Int.emod_lt_of_pos x (show (0:Int) < 256 by decide)
  generalize (x / 256) % P=b at*
  generalize (x / 256) / P=a at*
  have e:x=(b*256+x % 256)+(P*256)*a:=by
   have:P*256*a=256*(P*a):=by rw [Int.mul_comm P 256,Int.mul_assoc]
   rw [this]
   omega
  have hlt:b*256+x % 256 < P*256:=by omega
  conv=>rhs;rw [e,Int.add_mul_emod_self_left,Int.emod_eq_of_lt (by omega) hlt]
def invB (c:UInt8):UInt8:=UInt8.ofNat (255 - c.toNat)
theorem invB_nat (c:UInt8):(invB c).toNat=255 - c.toNat:=by
 have:=c.toNat_lt
 exact UInt8.toNat_ofNat_of_lt' (by show 255 - c.toNat < 256;omega)
theorem be_inv:∀(l:List UInt8) (a b:Nat),be a (l.map invB)+be b l+1=(a+b+1)*256 ^ l.length
 | [],a,b=>by simp [be_nil]
 | c::r,a,b=>by
  rw [List.map_cons,be_cons,be_cons,be_inv r,invB_nat,List.length_cons,Nat.pow_succ]
  have:=c.toNat_lt
  have e:a*256+(255 - c.toNat)+(b*256+c.toNat)+1=(a+b+1)*256:=by omega
  rw [e,Nat.mul_assoc,Nat.mul_comm 256]
def tr256 (n:Nat) (x:Int):List UInt8:=0::(if x < 0 then (lows (n - 1) x).map invB else lows (n - 1) x)
theorem tr256_length {n:Nat} (x:Int) (hn:1≤n):(tr256 n x).length=n:=by
 unfold tr256
 split<;>simp [lows_length]<;>omega
theorem b256_length {n:Nat} (x:Int) (hn:1≤n):(b256 n x).length=n:=by
 unfold b256
 simp [lows_length];omega
theorem tr256_val {n:Nat} {x:Int} (h:fitG n x):(be 0 (tr256 n x):Int)=if x < 0 then -x - 1 else x:=by
 unfold tr256
 rw [be_cons]
 show ((be 0 _:Nat):Int)=_
 have hl:=be_lows (n - 1) x
 obtain ⟨h1,h2⟩:=h
 have hp:(0:Int) < (256:Int) ^ (n - 1):=Int.pow_pos (by decide)
 by_cases hx:x < 0
 ·rw [if_pos hx,if_pos hx]
  have hi:=be_inv (lows (n - 1) x) 0 0
  rw [lows_length] at hi
  have hi':(be 0 ((lows (n - 1) x).map invB):Int)+(be 0 (lows (n - 1) x):Int)+1=(256:Int) ^ (n - 1):=by
   have h3:=congrArg (Nat.cast:Nat→Int) hi
   rw [Int.natCast_add,Int.natCast_add,Int.natCast_mul,Int.natCast_pow] at h3
   rw [show (((0+0+1:Nat)):Int)=1 from rfl,Int.one_mul] at h3
   exact h3
  have e:x % (256:Int) ^ (n - 1)=x+(256:Int) ^ (n - 1):=by
   have:=Int.add_mul_emod_self_left x ((256:Int) ^ (n - 1)) 1
   rw [Int.mul_one] at this
   rw [←this,Int.emod_eq_of_lt (by omega) (by omega)]
  rw [hl,e] at hi'
  omega
 ·rw [if_neg hx,if_neg hx,hl,Int.emod_eq_of_lt (by omega) h2]
theorem tr256_get {n:Nat} {x:Int} (k:Nat):((tr256 n x).getD k 0).toNat=if k=0 then 0 else if x < 0 then (if k < n then 255 - ((b256 n x).getD k 0).toNat else 0) else ((b256 n x).getD k 0).toNat:=by
 unfold tr256 b256
 cases k with
 | zero=>rfl
 | succ j=>
  rw [if_neg (show ¬(j+1=0) by omega)]
  by_cases hx:x < 0
  ·simp only [if_pos hx,List.getD_cons_succ]
   by_cases hk:j+1 < n
   ·rw [if_pos hk,List.getD_eq_getElem?_getD,List.getD_eq_getElem?_getD,List.getElem?_map,List.getElem?_eq_getElem (by rw [lows_length];omega)]
    exact invB_nat _
   ·rw [if_neg hk,List.getD_eq_getElem?_getD,List.getElem?_map,List.getElem?_eq_none (by rw [lows_length];omega)]
    rfl
  ·simp only [if_neg hx,List.getD_cons_succ]
theorem b256_head (n:Nat) (x:Int):((b256 n x).getD 0 0).toNat=if x < 0 then 255 else 128:=by
 unfold b256
 split<;>rfl
end Go.Proofs.YtkanmkcojlefbaaGreatDoor
