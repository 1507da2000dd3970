/-
  The numbers of a header's fields: in base 256, and where a field is blank · getFormat (198): a block that a Writer has sealed · bytes.IndexFunc over a row of ASCII: none of its bytes is found to be another · Times of PAX: formatPAXTime, parsePAXTime · Writer over a bytes.Buffer: Close; Write of no file · writeRawHeader: a header block goes to the buffer, and the writer is laid for a file of so many bytes · templateV7Plus: the fields of a header go to the writer's block.
-/
import Derived.Test.YtkanmkcojlefbaaGreatDoorJ07
import Derived.Lib.EndianBits
import Derived.Test.YtkanmkcojlefbaaGreatDoorJ06
import Derived.Test.YtkanmkcojlefbaaGreatDoorJ04
import Derived.Deep.RegionHeld3
import Derived.Lib.ItoaLen
import Derived.Test.YtkanmkcojlefbaaGreatDoorJ05
set_option linter.unusedVariables false
namespace Go.Proofs.YtkanmkcojlefbaaGreatDoor
open Go.RowKit
theorem and128_high (c:UInt8) (h:128≤c.toNat):bits .and .u8 (c.toNat:Int) 128=128:=by
 have:∀n:Fin 256,128≤n.val→bits .and .u8 ((n.val:Nat):Int) 128=128:=by decide+kernel
 exact this ⟨c.toNat,c.toNat_lt⟩ h
theorem xor255 (c:UInt8):bits .xor .u8 (c.toNat:Int) 255=((255 - c.toNat:Nat):Int):=by
 have:∀n:Fin 256,bits .xor .u8 ((n.val:Nat):Int) 255=((255 - n.val:Nat):Int):=by decide+kernel
 exact this ⟨c.toNat,c.toNat_lt⟩
theorem xor0 (c:UInt8):bits .xor .u8 (c.toNat:Int) 0=(c.toNat:Int):=by
 have:∀n:Fin 256,bits .xor .u8 ((n.val:Nat):Int) 0=((n.val:Nat):Int):=by decide+kernel
 exact this ⟨c.toNat,c.toNat_lt⟩
theorem or_comm64 (x y:Int):bits .or .u64 x y=bits .or .u64 y x:=by
 show IntKind.wrap .u64 ((BitVec.ofInt 64 x ||| BitVec.ofInt 64 y).toNat:Int)=IntKind.wrap .u64 ((BitVec.ofInt 64 y ||| BitVec.ofInt 64 x).toNat:Int)
 rw [BitVec.or_comm]
theorem or_low (b t:Nat) (ht:t < 256) (hb:b*256+t < 9223372036854775808):bits .or .u64 ((b:Int)*256) (t:Int)=(b:Int)*256+(t:Int):=by
 have h:=u64_or8 (y:=(t:Int)) (x:=(b:Int)*256) (by omega) (by omega) (by omega) (by omega) (by omega)
 rw [or_comm64,h]
 omega
theorem xorm1 (b:Nat) (h:b < 9223372036854775808):bits .xor .i64 (-1) (b:Int)=-(b:Int) - 1:=by
 have h1:(BitVec.ofInt 64 (-1) ^^^ BitVec.ofInt 64 (b:Int)).toNat=18446744073709551615 - b:=by
  have e:BitVec.ofInt 64 (-1)=BitVec.allOnes 64:=by decide
  rw [e,←BitVec.not_def,BitVec.toNat_not,BitVec.toNat_ofInt]
  omega
 show IntKind.wrap .i64 ((BitVec.ofInt 64 (-1) ^^^ BitVec.ofInt 64 (b:Int)).toNat:Int)=_
 rw [h1]
 have hb:IntKind.i64.bits=64:=rfl
 have hs:IntKind.i64.signed=true:=rfl
 simp only [IntKind.wrap,hb,hs]
 simp
 omega
set_option maxRecDepth 100000 in
set_option maxHeartbeats 1000000 in
theorem parse_256 (pf:Value) (t q n cap:Nat) (x:Int) (w:World) (h:ByAt t q (b256 n x) w) (hn:n=8∨n=12) (hcap:cap≤140737488355328) (hx:fitG n x) (h1 : -9223372036854775808≤x) (h2:x < 9223372036854775808) :
  Calls Tryz.prog 199 #[pf,.slice (some ⟨t,q,none⟩) n cap] w fun e w'=>e=.returned (.int .i64 x)∧w=w':=by
 have hn1:1≤n:=by omega
 have hn2:n≤12:=by omega
 have hln:=b256_length x hn1
 have hlt:=tr256_length x hn1
 have hval:=tr256_val hx
 have hc0:w.cell? ⟨t,q,none⟩=some (bv ((b256 n x).getD 0 0)):=by
  have:=h 0 (by omega)
  rw [Nat.add_zero] at this
  rw [this,List.getD_eq_getElem?_getD,List.getElem?_eq_getElem (by omega)]
  rfl
 have hd0:=b256_head n x
 have hB:be 0 (tr256 n x) < 9223372036854775808:=by
  by_cases hx0:x < 0
  ·rw [if_pos hx0] at hval;omega
  ·rw [if_neg hx0] at hval;omega
 have h128:bits .and .u8 (((b256 n x).getD 0 0).toNat:Int) 128=128:=and128_high _ (by rw [hd0];split<;>omega)
 have hnp:(0:Int) < n:=by omega
 have hnp':0 < n:=by omega
 obtain ⟨inv,hinv,hi64⟩:∃inv:Int,((x < 0∧inv=255)∨(¬x < 0∧inv=0))∧bits .and .u8 (((b256 n x).getD 0 0).toNat:Int) 64=(if x < 0 then 64 else 0):=by
  by_cases hx0:x < 0
  ·exact ⟨255,.inl ⟨hx0,rfl⟩,by rw [hd0,if_pos hx0,if_pos hx0];decide⟩
  ·exact ⟨0,.inr ⟨hx0,rfl⟩,by rw [hd0,if_neg hx0,if_neg hx0];decide⟩
 have H:=Lib.hid h;have HV:=Lib.hid hval;have HD0:=Lib.hid hd0;have HLN:=Lib.hid hln;have HLT:=Lib.hid hlt;have HB:=Lib.hid hB
 clear h hval hd0 hln hlt hB hx
 generalize hC:(b256 n x).getD 0 0=c0 at hc0 h128 hi64
 have HC:=Lib.hid hC
 clear hC
 rcases hinv with ⟨hx0,rfl⟩ | ⟨hx0,rfl⟩
 ·rw [if_pos hx0] at hi64
  go_enter Tryz.func199,Tryz.ntmps199
  go_wp2
  go_loop [6,7,8,26] (fun a _ _ k=>∃j:Nat,j≤n∧a=.int .u64 (be 0 ((tr256 n x).take j))∧k=.int .i64 j) (fun _ _ _ k=>n - (intOf k).toNat)
  case atStart=>exact ⟨0,Nat.zero_le _,rfl,rfl⟩
  case round=>
   obtain ⟨j,hj,rfl,rfl⟩:=hrel
   by_cases hlt:j < n
   ·have hlt':(j:Int) < n:=by omega
    have hcj:w.cell? ⟨t,q+j,none⟩=some (bv ((b256 n x).getD j 0)):=by
     rw [H.out j (by rw [HLN.out];exact hlt),List.getD_eq_getElem?_getD,List.getElem?_eq_getElem (by rw [HLN.out];exact hlt)]
     rfl
    have hT:=tr256_get (n:=n) (x:=x) j
    have htk:=be_take (l:=tr256 n x) (k:=j) (by rw [HLT.out];exact hlt)
    have hle:=be_take_le (tr256 n x) j (by rw [HLT.out];exact hlt)
    have hle1:be 0 ((tr256 n x).take (j+1))≤be 0 (tr256 n x):=by
     conv=>rhs;rw [←List.take_append_drop (j+1) (tr256 n x),be_append]
     exact be_mono _ _
    rw [htk] at hle1
    have hgd:((tr256 n x)[j]'(by rw [HLT.out];exact hlt))=(tr256 n x).getD j 0:=by
     rw [List.getD_eq_getElem?_getD,List.getElem?_eq_getElem (by rw [HLT.out];exact hlt)];rfl
    rw [hgd] at htk hle1
    have hBB:=HB.out
    generalize be 0 ((tr256 n x).take j)=b at htk hle hle1
    generalize (tr256 n x).getD j 0=tv at hT htk hle1
    rw [if_pos hx0] at hT
    have hb55:b < 72057594037927936:=by omega
    have hbt:b*256+tv.toNat < 9223372036854775808:=by omega
    have HTK:=Lib.hid htk
    clear htk hle hle1 hgd hBB
    have hor:=or_low b tv.toNat tv.toNat_lt hbt
    by_cases hj0:j=0
    ·have hje:((j:Int) == 0)=true:=by subst hj0;rfl
     have hc0':(b256 n x).getD j 0=c0:=by rw [hj0];exact HC.out
     rw [hc0'] at hcj
     have hxr:bits .xor .u8 (c0.toNat:Int) 255=0:=by rw [xor255,←HC.out,HD0.out,if_pos hx0];rfl
     have htv:tv.toNat=0:=by rw [hT,if_pos hj0]
     have h127:bits .and .u8 0 127=(tv.toNat:Int):=by rw [htv];decide
     have HTV:=Lib.hid htv
     clear hT hj0 hc0' htv
     go_wp2
     refine ⟨⟨j+1,by omega,?_,by go_num⟩,by simp [intOf];omega⟩
     rw [HTK.out];push_cast;rfl
    ·have hje:((j:Int) == 0)=false:=by simp only [beq_eq_false_iff_ne,ne_eq];omega
     rw [if_neg hj0,if_pos hlt] at hT
     have hxr:bits .xor .u8 (((b256 n x).getD j 0).toNat:Int) 255=(tv.toNat:Int):=by rw [xor255,hT]
     clear hT hj0
     generalize (b256 n x).getD j 0=cj at hcj hxr
     go_wp2
     refine ⟨⟨j+1,by omega,?_,by go_num⟩,by simp [intOf];omega⟩
     rw [HTK.out];push_cast;rfl
   ·obtain rfl:j=n:=by omega
    have htl:(tr256 j x).take j=tr256 j x:=List.take_of_length_le (by rw [HLT.out];omega)
    have hv:=HV.out
    rw [if_pos hx0] at hv
    rw [htl]
    have hlt':¬((j:Int) < j):=by omega
    have hb2:=HB.out
    generalize be 0 (tr256 j x)=b at hv hb2
    have HVV:=Lib.hid hv
    clear htl hv
    go_wp2
    go_ret
    have:=HVV.out
    refine ⟨?_,rfl⟩
    show Ending.returned (Value.int .i64 (bits .xor .i64 (-1) (b:Int)))=_
    rw [xorm1 b hb2,this,show -(-x - 1) - 1=x by omega]
 ·rw [if_neg hx0] at hi64
  go_enter Tryz.func199,Tryz.ntmps199
  go_wp2
  go_loop [6,7,8,26] (fun a _ _ k=>∃j:Nat,j≤n∧a=.int .u64 (be 0 ((tr256 n x).take j))∧k=.int .i64 j) (fun _ _ _ k=>n - (intOf k).toNat)
  case atStart=>exact ⟨0,Nat.zero_le _,rfl,rfl⟩
  case round=>
   obtain ⟨j,hj,rfl,rfl⟩:=hrel
   by_cases hlt:j < n
   ·have hlt':(j:Int) < n:=by omega
    have hcj:w.cell? ⟨t,q+j,none⟩=some (bv ((b256 n x).getD j 0)):=by
     rw [H.out j (by rw [HLN.out];exact hlt),List.getD_eq_getElem?_getD,List.getElem?_eq_getElem (by rw [HLN.out];exact hlt)]
     rfl
    have hT:=tr256_get (n:=n) (x:=x) j
    have htk:=be_take (l:=tr256 n x) (k:=j) (by rw [HLT.out];exact hlt)
    have hle:=be_take_le (tr256 n x) j (by rw [HLT.out];exact hlt)
    have hle1:be 0 ((tr256 n x).take (j+1))≤be 0 (tr256 n x):=by
     conv=>rhs;rw [←List.take_append_drop (j+1) (tr256 n x),be_append]
     exact be_mono _ _
    rw [htk] at hle1
    have hgd:((tr256 n x)[j]'(by rw [HLT.out];exact hlt))=(tr256 n x).getD j 0:=by
     rw [List.getD_eq_getElem?_getD,List.getElem?_eq_getElem (by rw [HLT.out];exact hlt)];rfl
    rw [hgd] at htk hle1
    have hBB:=HB.out
    generalize be 0 ((tr256 n x).take j)=b at htk hle hle1
    generalize (tr256 n x).getD j 0=tv at hT htk hle1
    rw [if_neg (show ¬x < 0 by omega)] at hT
    have hb55:b < 72057594037927936:=by omega
    have hbt:b*256+tv.toNat < 9223372036854775808:=by omega
    have HTK:=Lib.hid htk
    clear htk hle hle1 hgd hBB
    have hor:=or_low b tv.toNat tv.toNat_lt hbt
    by_cases hj0:j=0
    ·have hje:((j:Int) == 0)=true:=by subst hj0;rfl
     have hc0':(b256 n x).getD j 0=c0:=by rw [hj0];exact HC.out
     rw [hc0'] at hcj
     have hxr:bits .xor .u8 (c0.toNat:Int) 0=128:=by rw [xor0,←HC.out,HD0.out,if_neg (show ¬x < 0 by omega)];rfl
     have htv:tv.toNat=0:=by rw [hT,if_pos hj0]
     have h127:bits .and .u8 128 127=(tv.toNat:Int):=by rw [htv];decide
     have HTV:=Lib.hid htv
     clear hT hj0 hc0' htv
     go_wp2
     refine ⟨⟨j+1,by omega,?_,by go_num⟩,by simp [intOf];omega⟩
     rw [HTK.out];push_cast;rfl
    ·have hje:((j:Int) == 0)=false:=by simp only [beq_eq_false_iff_ne,ne_eq];omega
     rw [if_neg hj0] at hT
     have hxr:bits .xor .u8 (((b256 n x).getD j 0).toNat:Int) 0=(tv.toNat:Int):=by rw [xor0,hT]
     clear hT hj0
     generalize (b256 n x).getD j 0=cj at hcj hxr
     go_wp2
     refine ⟨⟨j+1,by omega,?_,by go_num⟩,by simp [intOf];omega⟩
     rw [HTK.out];push_cast;rfl
   ·obtain rfl:j=n:=by omega
    have htl:(tr256 j x).take j=tr256 j x:=List.take_of_length_le (by rw [HLT.out];omega)
    have hv:=HV.out
    rw [if_neg (show ¬x < 0 by omega)] at hv
    rw [htl]
    have hlt':¬((j:Int) < j):=by omega
    have hb2:=HB.out
    generalize be 0 (tr256 j x)=b at hv hb2
    have HVV:=Lib.hid hv
    clear htl hv
    go_wp2
    go_ret
    have:=HVV.out
    refine ⟨?_,rfl⟩
    show Ending.returned (Value.int .i64 (b:Int))=_
    rw [this]
theorem parsesN_256 {n:Nat} {x:Int} (hn:n=8∨n=12) (hx:fitG n x) (h1 : -9223372036854775808≤x) (h2:x < 9223372036854775808):ParsesN (b256 n x) x:=by
 intro pf t q m cap w h hl hm hmc hcap
 rw [b256_length x (by omega)] at hl
 subst hl
 refine (parse_256 pf t q n cap x w h hn hcap hx h1 h2).mono ?_
 rintro e w' ⟨rfl,rfl⟩
 exact ⟨rfl,Chg.refl _ _⟩
theorem numOut_parses {n:Nat} {x:Int} {y:List UInt8} (hn:n=8∨n=12) (h:NumOut n x y) (hx:fitG n x) (h1 : -9223372036854775808≤x) (h2:x < 9223372036854775808):ParsesN y x:=by
 rcases h.2 with ⟨h0,ho⟩ | rfl
 ·have:=parses_oct ho
  rw [show ((x.toNat:Nat):Int)=x by omega] at this
  exact this
 ·exact parsesN_256 hn hx h1 h2
theorem trimS_zeros (n:Nat):Lib.trimRightS (List.replicate n 0) [32,0]= []:=by
 rw [Lib.trimRightS_take (List.replicate n 0) [32,0] 0 (Nat.zero_le _) (fun j b _ hb=> ?_) (fun b h0 hb=>absurd h0 (by omega)),List.take_zero]
 rw [(List.mem_replicate.1 (List.mem_of_getElem? hb)).2]
 decide
set_option maxRecDepth 100000 in
set_option maxHeartbeats 800000 in
theorem trim_blank (t q n cap:Nat) (w:World) (h:ByAt t q (List.replicate n 0) w) (hnc:n≤cap) (hcap:cap≤140737488355328) :
  Calls Tryz.prog 275 #[.slice (some ⟨t,q,none⟩) n cap,.string ⟨#[32,0]⟩] w fun e w'=>(∃a c,e=.returned (.slice a 0 c))∧Chg [] w w':=by
 refine (Any.bytes_Trim_ascii Tryz.laysV6 (zero_of_info i371).1 (zero_of_info i371).2 (some ⟨t,q,none⟩) n cap (List.replicate n 0) ⟨#[32,0]⟩ w List.length_replicate hnc (by omega) (fun _=>⟨t,q,rfl,fun i hi=> ?_⟩) (by decide) ascii320).mono ?_
 ·rw [h i (by rw [List.length_replicate];exact hi),List.getD_eq_getElem?_getD,List.getElem?_eq_getElem (by rw [List.length_replicate];exact hi)]
  rfl
 ·rintro e w' ⟨rfl,hb⟩
  refine ⟨?_,Chg.ofBelow hb⟩
  have e1:Lib.trimRightS (List.replicate n 0) (⟨#[32,0]⟩:ByteArray).data.toList= []:=trimS_zeros n
  have e2:Lib.trimS (List.replicate n 0) (⟨#[32,0]⟩:ByteArray).data.toList= []:=by
   unfold Lib.trimS
   rw [e1];rfl
  rw [e1,e2]
  unfold Lib.leftV
  simp
set_option maxRecDepth 100000 in
set_option maxHeartbeats 800000 in
theorem parses_blank (n0:Nat) (hn0:1≤n0):ParsesN (List.replicate n0 0) 0:=by
 intro pf t q n cap w h hl hn hnc hcap
 rw [List.length_replicate] at hl
 subst hl
 have htr:=trim_blank t q n0 cap w h hnc hcap
 have h237:Calls Tryz.prog 237 #[pf,.slice (some ⟨t,q,none⟩) n0 cap] w fun e w'=>e=.returned (.int .i64 0)∧Chg [] w w':=by
  have HT:=Lib.hid htr
  clear htr h
  go_enter Tryz.func237,Tryz.ntmps237
  go_wp2_with (go_at_call 275;refine HT.out.mono ?_;rintro e w1 ⟨⟨a,c,rfl⟩,hc1⟩)
  go_ret
  exact ⟨rfl,hc1⟩
 have hc:=h 0 (by rw [List.length_replicate];omega)
 rw [Nat.add_zero,List.getElem_replicate] at hc
 have h128:bits .and .u8 (((0:UInt8).toNat:Nat):Int) 128=0:=and128_low 0 (by decide)
 have hnp:(0:Int) < n0:=by omega
 have hnp':0 < n0:=by omega
 have HP:=Lib.hid h237
 clear h237 htr h
 generalize (0:UInt8)=c at hc h128
 go_enter Tryz.func199,Tryz.ntmps199
 go_wp2_with (go_at_call 237;refine HP.out.mono ?_;rintro e w1 ⟨rfl,hc1⟩)
 go_ret
 exact ⟨rfl,hc1⟩
end Go.Proofs.YtkanmkcojlefbaaGreatDoor
namespace Go.Proofs.YtkanmkcojlefbaaGreatDoor
open Go.RowKit
theorem ByAt.sub {t q:Nat} {l:List UInt8} {w:World} (h:ByAt t q l w) (o n:Nat) (ho:o+n≤l.length):ByAt t (q+o) ((l.drop o).take n) w:=by
 intro j hj
 have hjn:j < n:=by rw [List.length_take] at hj;omega
 rw [Nat.add_assoc,h (o+j) (by omega),List.getElem_take,List.getElem_drop]
set_option maxRecDepth 100000 in
set_option maxHeartbeats 1000000 in
theorem getFormat_any (gnu : Bool) (t : Nat) (T : TypeId) (pre post : List Value) (h : HB) (k : Nat) (w : World) (hb : BlkIn t T pre h.bytes post w) (hk : pre.length = k) (H : RdB gnu h) :
    Calls Tryz.prog 198 #[.pointer (some ⟨t, k, none⟩)] w fun e w' => e = .returned (.int .i64 (if gnu = true then 8 else 6)) ∧ Chg [] w w' := by
  have hL := H.ok.length
  have f1 := hb.byAt k 148 8 hk (by omega)
  rw [H.ok.field_ck] at f1
  have f2 := hb.byAt k 257 8 hk (by omega)
  rw [H.ok.field_mg, H.mg] at f2
  have f3 := hb.byAt k 500 12 hk (by omega)
  rw [H.ok.field_tl, H.tl] at f3
  have hck := H.ck
  have hcl := H.ok.ck
  have htr : ByAt t (k + 508) [0, 0, 0, 0] w := by have := f3.sub 8 4 (by decide); rw [Nat.add_assoc] at this; exact this
  have hsum := fun w1 (hc : Chg [] w w1) => checksum_any t T pre post h.bytes k w1 (hb.chg hc (by simp)) hk hL
  have hpo := fun pf => parseOctal_ok pf t (k + 148) 8 364 (sumTo h.bytes 512) h.ck
  generalize sumTo h.bytes 512 = S at hck hsum hpo
  have HB := Lib.hid hb; have HCK := Lib.hid hck; have HF1 := Lib.hid f1; have HTR := Lib.hid htr; have HSUM := Lib.hid hsum; have HPO := Lib.hid hpo
  clear hb hck f1 f3 htr hsum hpo H
  cases gnu
  all_goals
    have f4 := f2.sub 6 2 (by decide)
    rw [Nat.add_assoc] at f4
    first
      | (have hm6 : ByAt t (k + 257) [117, 115, 116, 97, 114, 0] w := f2.sub 0 6 (by decide)
         have hm2 : ByAt t (k + 263) [48, 48] w := f4)
      | (have hm6 : ByAt t (k + 257) [117, 115, 116, 97, 114, 32] w := f2.sub 0 6 (by decide)
         have hm2 : ByAt t (k + 263) [32, 0] w := f4)
    have HM6 := Lib.hid hm6; have HM2 := Lib.hid hm2
    clear f2 f4 hm6 hm2
    go_enter Tryz.func198, Tryz.ntmps198
    go_wp2_with (first
      | (go_at_call 106; refine (toV7 t k _).mono ?_; rintro e u ⟨rfl, rfl⟩)
      | (go_at_call 184; refine (v7_chksum t k _).mono ?_; rintro e u ⟨rfl, rfl⟩)
      | (go_at_call 237; refine (HPO.out _ _ (HF1.out.chg ((Chg.refl [] w).alloc _) (by simp)) hcl (by omega) (by omega) (by omega) HCK.out).mono ?_; rintro e w1 ⟨rfl, hc1⟩; have hp1 : w1.cell? ⟨w.heap.size, 0, none⟩ = some .nilIface := (by rw [cell_heap (hc1.heap (heap_alloc_new w _) (by simp))]; rfl); have HC1 := Lib.hid (((Chg.refl [] w).alloc _).trans hc1); clear hc1)
      | (go_at_call 185; refine (HSUM.out _ HC1.out).mono ?_; rintro e w2 ⟨⟨s, rfl⟩, hc2⟩; have hp2 : w2.cell? ⟨w.heap.size, 0, none⟩ = some .nilIface := hc2.cell hp1 (by simp); have hcv6 := (HM6.out.chg (HC1.out.trans hc2) (by simp)).conv 6 255 (by decide); have hcv2 := (HM2.out.chg (HC1.out.trans hc2) (by simp)).conv 2 249 (by decide); have hcv4 := (HTR.out.chg (HC1.out.trans hc2) (by simp)).conv 4 4 (by decide); have HC2 := Lib.hid (HC1.out.trans hc2); clear hc2 hp1)
      | (go_at_call 107; refine (toUSTAR t k _).mono ?_; rintro e u ⟨rfl, rfl⟩)
      | (go_at_call 182; refine (us_magic t k _).mono ?_; rintro e u ⟨rfl, rfl⟩)
      | (go_at_call 183; refine (us_version t k _).mono ?_; rintro e u ⟨rfl, rfl⟩)
      | (go_at_call 178; refine (toSTAR t k _).mono ?_; rintro e u ⟨rfl, rfl⟩)
      | (go_at_call 181; refine (star_trailer t k _).mono ?_; rintro e u ⟨rfl, rfl⟩))
    go_ret
    exact ⟨rfl, HC2.out⟩
end Go.Proofs.YtkanmkcojlefbaaGreatDoor
namespace Go.Proofs.YtkanmkcojlefbaaGreatDoor
open Go.RowKit
set_option maxRecDepth 100000 in
theorem decodeRune_ascii (t q n cap:Nat) (c:UInt8) (w:World) (hn:0 < n) (hc:w.cell? ⟨t,q,none⟩=some (bv c)) (ha:c.toNat < 128) :
  Calls Tryz.prog 277 #[.slice (some ⟨t,q,none⟩) n cap] w fun e w'=>e=.returned (.tuple #[.int .i32 c.toNat,.int .i64 1])∧w=w':=by
 have hn':(0:Int) < n:=by omega
 have ha':(c.toNat:Int) < 128:=by omega
 go_enter Tryz.func277,Tryz.ntmps277
 go_wp2
 refine wp_loop_rounds 1 ?_
 rw [rounds_succ]
 go_wp2
 go_ret2
 exact ⟨rfl,rfl⟩
theorem notASCII_low (c:UInt8) (w:World) (ha:c.toNat < 128):Calls Tryz.prog 200 #[.int .i32 c.toNat] w fun e w'=>e=.returned (.bool false)∧w=w':=by
 have ha':(c.toNat:Int) < 128:=by omega
 have ha'':decide ((128:Int)≤c.toNat)=false:=by simp;omega
 go_enter Tryz.func200,Tryz.ntmps200
 go_wp2
 go_ret
 exact ⟨rfl,rfl⟩
set_option maxRecDepth 100000 in
set_option maxHeartbeats 1000000 in
theorem indexFunc_ascii (t q n cap:Nat) (l:List UInt8) (w:World) (h:ByAt t q l w) (hl:l.length=n) (hn:n≤1000) (hnc:n≤cap) (hcap:cap≤1000) (ha:∀c∈l,c.toNat < 128) :
  Calls Tryz.prog 201 #[.slice (some ⟨t,q,none⟩) n cap,.func (.func 200) #[] #[]] w fun e w'=>e=.returned (.int .i64 (-1))∧w=w':=by
 have h238:Calls Tryz.prog 238 #[.slice (some ⟨t,q,none⟩) n cap,.func (.func 200) #[] #[],.bool true] w fun e w'=>e=.returned (.int .i64 (-1))∧w=w':=by
  have H:=Lib.hid h;have HA:=Lib.hid ha;have HL:=Lib.hid hl
  clear h ha hl
  go_enter Tryz.func238,Tryz.ntmps238
  go_wp2
  go_loop [7] (fun i=>∃k:Nat,k≤n∧i=.int .i64 k) (fun i=>n - (intOf i).toNat)
  case atStart=>exact ⟨0,Nat.zero_le _,rfl⟩
  case round=>
   obtain ⟨k,hk,rfl⟩:=hrel
   by_cases hlt:k < n
   ·have hlt':(k:Int) < n:=by omega
    have hcap':¬cap=k:=by omega
    have hll:k < l.length:=by rw [HL.out];exact hlt
    have hc:=H.out k hll
    have hlo:=HA.out l[k] (List.getElem_mem hll)
    generalize l[k]=c at hc hlo
    have hk0:(k:Int)≤n:=by omega
    have hkc:(k:Int)≤cap:=by omega
    go_wp2_with (first
     | (go_at_call 277;refine (decodeRune_ascii t (q+k) (n - k) (cap - k) c _ (by omega) hc hlo).mono ?_;rintro e u ⟨rfl,rfl⟩)
     | (go_at_call 200;refine (notASCII_low c _ hlo).mono ?_;rintro e u ⟨rfl,rfl⟩))
    go_round
    case rel=>exact ⟨k+1,by omega,by go_num⟩
    case measure=>simp [intOf];omega
   ·obtain rfl:k=n:=by omega
    have hlt':¬((k:Int) < k):=by omega
    go_wp2
    go_ret
    exact ⟨rfl,rfl⟩
 have H:=Lib.hid h238
 clear h238 h ha
 go_enter Tryz.func201,Tryz.ntmps201
 go_wp2_with (go_at_call 238;refine H.out.mono ?_;rintro e u ⟨rfl,rfl⟩)
 go_ret
 exact ⟨rfl,rfl⟩
theorem nulEnd (t q n cap:Nat) (l:List UInt8) (w:World) (h:ByAt t q l w) (hl:l.length=n) (hn0:1≤n) (hn:n≤1000) (hz:l[n - 1]? =some 0) :
  Calls Tryz.prog 202 #[.slice (some ⟨t,q,none⟩) n cap] w fun e w'=>e=.returned (.bool true)∧w=w':=by
 have hc:w.cell? ⟨t,q+(n - 1),none⟩=some (.int .u8 0):=by
  rw [h (n - 1) (by omega)]
  have:=(List.getElem?_eq_some_iff.1 hz).2
  rw [this]
  rfl
 have h1:(n:Int) - 1=((n - 1:Nat):Int):=by omega
 have h2:((n - 1:Nat):Int) < n:=by omega
 have h3:(0:Int)≤(n:Int) - 1:=by omega
 have h4:(n:Int) - 1 < n:=by omega
 obtain ⟨m,rfl⟩:∃m,n=m+1:=⟨n - 1,by omega⟩
 simp only [Nat.add_sub_cancel] at hc
 clear h h1 h2 h3 h4 hl hz
 have h5:((m+1:Nat):Int) - 1=(m:Int):=by omega
 have h6:(m:Int) < ((m+1:Nat):Int):=by omega
 have H5:=Lib.hid h5
 clear h5
 go_enter Tryz.func202,Tryz.ntmps202
 go_wp2
 go_ret
 exact ⟨rfl,rfl⟩
end Go.Proofs.YtkanmkcojlefbaaGreatDoor
namespace Go.Proofs.YtkanmkcojlefbaaGreatDoor
open Go.RowKit
theorem timS_zero (s:Int):timS s 0=⟨(Lib.itoa s).toArray⟩:=by unfold timS paxTime;rw [if_pos rfl]
theorem itoaS_size (n:Int) (h0 : -9223372036854775808≤n) (h1:n≤9223372036854775807):(⟨(Lib.itoa n).toArray⟩:ByteArray).size≤21:=by
 show (Lib.itoa n).toArray.size≤21
 rw [List.size_toArray]
 exact Lib.itoa_length_le n h0 h1
set_option maxRecDepth 100000 in
set_option maxHeartbeats 2000000 in
theorem fmtTime {B:Nat} {sn:Nat→Addr} {kb:Nat} (s:Int) (ns:Nat) (w:World) (hn:ns < 1000000000) (h1 : -4000000000000000000≤s) (h2:s≤4000000000000000000) (hE:Env B sn kb w) :
  Calls Tryz.prog 105 #[tm s ns] w fun e w'=>e=.returned (.string (timS s ns))∧Chg [] w w':=by
 have hc0:Chg [] w (w.alloc (.cells #[.int .u64 ns,.int .i64 (s+62135596800)] 126)):=(Chg.refl [] w).alloc _
 have hg0:=heap_alloc_new w (.cells #[.int .u64 ns,.int .i64 (s+62135596800)] 126)
 have HE:=Lib.hid hE
 clear hE
 unfold tm
 go_enter Tryz.func105,Tryz.ntmps105
 go_wp2
 generalize hW:w.alloc (.cells #[.int .u64 ns,.int .i64 (s+62135596800)] 126)=W1 at*
 generalize hG:w.heap.size=g at*
 clear hW
 have d:=cell_heap hg0 0
 have d2:=cell_heap hg0 1
 have HC0:=Lib.hid hc0;have HG0:=Lib.hid hg0
 clear hc0 hg0
 go_region_held3 (fun w'=>w'.cell? ⟨g,0,none⟩=some (.int .u64 ns)∧w'.cell? ⟨g,1,none⟩=some (.int .i64 (s+62135596800))) (first | exact ⟨d,d2⟩ | exact ⟨cell_heap (HG0.out) 0,cell_heap (HG0.out) 1⟩ | assumption) ((first | (go_at_call 103;refine (Unix_any s ns _ hn h1 h2).mono ?_;rintro e u ⟨rfl,hu103⟩;have hk103:=And.intro (hu103.cell (p:=⟨g,0,none⟩) (by exact d) (by simp)) (hu103.cell (p:=⟨g,1,none⟩) (by exact d2) (by simp));have HU:=Lib.hid (show Chg [] W1 u from (Chg.drew (Chg.refl [] W1)).trans hu103);clear hu103) | (go_at_call 104;refine (Nano_any s ns _ hn).mono ?_;rintro e u2 ⟨rfl,hu104⟩;have hk104:=And.intro (hu104.cell (p:=⟨g,0,none⟩) (by exact hk103.1) (by simp)) (hu104.cell (p:=⟨g,1,none⟩) (by exact hk103.2) (by simp));have HV:=Lib.hid (show Chg [] W1 u2 from HU.out.trans hu104);clear hu104)))
 have HV':=Lib.hid (show Chg [] w u2 from HC0.out.trans HV.out)
 have hgg:True:=trivial
 clear d d2 hk103 hk104 HU HV HC0 HG0
 by_cases h0:ns=0
 ·subst h0
  go_wp2_with (go_at_call 101;refine (formatInt_any s (by omega) (by omega) _ (HE.out.chg0 HV'.out)).mono ?_;rintro e w3 ⟨rfl,hc3⟩)
  go_ret
  exact ⟨by rw [timS_zero];rfl,HV'.out.trans hc3⟩
 ·by_cases hs:s < 0
  ·have z1:=itoaS_size (-(s+1)) (by omega) (by omega)
   have z2:=Lib.itoa_length_le (-(s+1)) (by omega) (by omega)
   have e1:Lib.itoa (-(s+1))=Lib.decDigits (-(s+1)).toNat:=itoa_pos (by omega)
   have hres:timS s ns=⟨(((⟨#[45]⟩:ByteArray)++(⟨(Lib.itoa (-(s+1))).toArray⟩:ByteArray)++⟨#[46]⟩:ByteArray).data.toList++trim0 (nine (1000000000 - ns))).toArray⟩:=by
    apply ba_ext
    rw [e1]
    unfold timS paxTime
    rw [if_neg h0,if_pos hs]
    simp
   have hps:((⟨#[45]⟩:ByteArray)++(⟨(Lib.itoa (-(s+1))).toArray⟩:ByteArray)++⟨#[46]⟩:ByteArray).size≤100:=by
    rw [ByteArray.size_append,ByteArray.size_append]
    have:((⟨#[45]⟩:ByteArray):ByteArray).size≤1:=by decide
    have:(⟨#[46]⟩:ByteArray).size=1:=rfl
    omega
   have htr:=fun w=>trimS_of ((⟨#[45]⟩:ByteArray)++(⟨(Lib.itoa (-(s+1))).toArray⟩:ByteArray)++⟨#[46]⟩:ByteArray) (1000000000 - ns) (by omega) (by omega) w hps
   have z9:(⟨(nine (1000000000 - ns)).toArray⟩:ByteArray).size=9:=by
    show (nine (1000000000 - ns)).toArray.size=9
    rw [List.size_toArray,nine_length (by omega)]
   have hneg : -((ns:Int) - 1000000000)=((1000000000 - ns:Nat):Int):=by omega
   have HT:=Lib.hid htr;have HR:=Lib.hid hres
   clear htr hres hps e1 z1
   go_wp2_with (first
    | (go_at_call 101;refine (formatInt_any (-(s+1)) (by omega) (by omega) _ (HE.out.chg0 HV'.out)).mono ?_;rintro e w3 ⟨rfl,hc3⟩)
    | (go_at_call 171;refine (nine_any (1000000000 - ns) (by omega) _ (HE.out.chg0 (HV'.out.trans hc3))).mono ?_;rintro e w4 ⟨rfl,hc4⟩)
    | (go_at_call 170;refine (HT.out _).mono ?_;rintro e w5 ⟨rfl,k5,rfl⟩))
   go_ret
   exact ⟨by rw [HR.out];simp,(((HV'.out.trans hc3).trans hc4).drewN k5)⟩
  ·have z1:=itoaS_size (s) (by omega) (by omega)
   have z2:=Lib.itoa_length_le (s) (by omega) (by omega)
   have e1:Lib.itoa (s)=Lib.decDigits (s).toNat:=itoa_pos (by omega)
   have hres:timS s ns=⟨(((⟨#[]⟩:ByteArray)++(⟨(Lib.itoa (s)).toArray⟩:ByteArray)++⟨#[46]⟩:ByteArray).data.toList++trim0 (nine (ns))).toArray⟩:=by
    apply ba_ext
    rw [e1]
    unfold timS paxTime
    rw [if_neg h0,if_neg hs]
    simp
   have hps:((⟨#[]⟩:ByteArray)++(⟨(Lib.itoa (s)).toArray⟩:ByteArray)++⟨#[46]⟩:ByteArray).size≤100:=by
    rw [ByteArray.size_append,ByteArray.size_append]
    have:((⟨#[]⟩:ByteArray):ByteArray).size≤1:=by decide
    have:(⟨#[46]⟩:ByteArray).size=1:=rfl
    omega
   have htr:=fun w=>trimS_of ((⟨#[]⟩:ByteArray)++(⟨(Lib.itoa (s)).toArray⟩:ByteArray)++⟨#[46]⟩:ByteArray) (ns) (by omega) (by omega) w hps
   have z9:(⟨(nine (ns)).toArray⟩:ByteArray).size=9:=by
    show (nine (ns)).toArray.size=9
    rw [List.size_toArray,nine_length (by omega)]
   have HT:=Lib.hid htr;have HR:=Lib.hid hres
   clear htr hres hps e1 z1
   go_wp2_with (first
    | (go_at_call 101;refine (formatInt_any (s) (by omega) (by omega) _ (HE.out.chg0 HV'.out)).mono ?_;rintro e w3 ⟨rfl,hc3⟩)
    | (go_at_call 171;refine (nine_any (ns) (by omega) _ (HE.out.chg0 (HV'.out.trans hc3))).mono ?_;rintro e w4 ⟨rfl,hc4⟩)
    | (go_at_call 170;refine (HT.out _).mono ?_;rintro e w5 ⟨rfl,k5,rfl⟩))
   go_ret
   exact ⟨by rw [HR.out];simp,(((HV'.out.trans hc3).trans hc4).drewN k5)⟩
theorem results_cellrow_tmp {P:Program} {fn:Func} {p u:Tmp} {ty:TypeId} (h:fn.results=#[.cell p ty,.tmp u]) (tmps:Array Value) (w:World) (g:Nat) (t:TypeId) (cs:Array Value) (fr:Nat×Nat) (d:TypeDesc)
  (hp:tmps.getD p undef=.pointer (some ⟨g,0,none⟩)) (hg:w.heap[g]? =some (.cells cs t fr)) (hu:P.underlying ty=some d) (hd:(match d with | .struct _ | .array _ _=>true | _=>false)=true) (hi:(P.info? ty).map (·.size)=some cs.size) :
  (results fn tmps).run P w=.ok (.tuple #[.agg cs,tmps.getD u undef]) w:=by
 rw [results_cell_tmp h,hp]
 simp [asAddr,run_loadVar_row w g t ty cs fr d hg hu hd hi,Result.andThen]
def ParsesT (x:ByteArray) (s:Int) (ns:Nat):Prop:=∀w:World,Calls Tryz.prog 209 #[.string x] w fun e w'=>e=.returned (.tuple #[tm s ns,.nilIface])∧Chg [] w w'
set_option maxRecDepth 100000 in
set_option maxHeartbeats 2000000 in
theorem parseTime_whole (x:ByteArray) (s:Int) (hx:x.size≤100) (hp:Lib.parseIntB 64 x.data.toList=.ok s) (hd:(46:UInt8)∉x.data.toList) (h1 : -4000000000000000000≤s) (h2:s≤4000000000000000000):ParsesT x s 0:=by
 intro w
 have HP:=Lib.hid hp;have HD:=Lib.hid hd
 clear hp hd
 unfold tm
 go_enter Tryz.func209,Tryz.ntmps209
 go_wp2_with (first
  | (go_at_call 239;refine (zzCut_none x 46 _ (by omega) HD.out).mono ?_;rintro e w1 ⟨rfl,rfl⟩)
  | (go_at_call 208;refine (parseInt64_any x (by omega) s HP.out _).mono ?_;rintro e w2 ⟨rfl,hc2⟩)
  | (go_at_call 70;refine (unix_any s 0 _ (by omega) h1 h2).mono ?_;rintro e w3 ⟨rfl,hc3⟩;simp only [tm];have hb:=(hc2.trans hc3).heap (heap_alloc_new w _) (by simp);have c0:=cell_heap hb 0;have c1:=cell_heap hb 1;have f0:=frozen_heap hb 0;have f1:=frozen_heap hb 1))
 have h3:=heap_setCell_at (heap_setCell_at hb 0 (.int .u64 0)) 1 (.int .i64 (s+62135596800))
 refine bodyPost_ret (results_cellrow_tmp rfl _ _ _ _ _ _ _ rfl h3 Tryz.underlying126 rfl s126) rfl ?_
 exact ⟨rfl,((((Chg.refl [] w).alloc _).trans (hc2.trans hc3)).setCell (.inr (Nat.le_refl _)) _).setCell (.inr (Nat.le_refl _)) _⟩
set_option maxRecDepth 100000 in
set_option maxHeartbeats 2000000 in
theorem parseTime_part (x ss:ByteArray) (D:List UInt8) (q:Int) (m:Nat) (neg:Bool) (s:Int) (ns:Nat) (hx:x.data.toList=ss.data.toList++46::D) (hss:ss.size≤100) (hs0:0 < ss.size) (hDl:D.length≤9) (hD0:0 < D.length)
  (hd:(46:UInt8)∉ss.data.toList) (hp:Lib.parseIntB 64 ss.data.toList=.ok q) (hdig:AllDig D) (hm:Lib.parseIntB 64 (D++List.replicate (9 - D.length) 48)=.ok (m:Int)) (hm1:0 < m) (hm2:m < 1000000000)
  (hneg:(ss[0]'hs0=45∧s=q - 1∧ns=1000000000 - m∧neg=true)∨(ss[0]'hs0≠45∧s=q∧ns=m∧neg=false)) (h1 : -4000000000000000000≤s) (h2:s≤3000000000000000000):ParsesT x s ns:=by
 intro w
 have hxs:x.size=ss.size+1+D.length:=by rw [Lib.size_eq,hx,Lib.size_eq ss];simp;omega
 have hsl:ss.data.toList.length=ss.size:=(Lib.size_eq ss).symm
 have getx:∀j (hj:j < x.size),(ss.data.toList++46::D)[j]? =some (x[j]):=by
  intro j hj
  rw [←hx,List.getElem?_eq_getElem (by rw [←Lib.size_eq];exact hj)]
  rfl
 have hcut:Calls Tryz.prog 239 #[.string x,.string ⟨#[46]⟩] (w.alloc (.cells #[.int .u64 0,.int .i64 0] 126)) fun e w'=>e=.returned (.tuple #[.string ss,.string ⟨D.toArray⟩,.bool true])∧∃n,w'=(w.alloc (.cells #[.int .u64 0,.int .i64 0] 126)).drewN n:=by
  have:=zzCut_found x 46 ss.size (w.alloc (.cells #[.int .u64 0,.int .i64 0] 126)) (by omega) (by omega) (by
   have:=getx ss.size (by omega)
   rw [List.getElem?_append_right (by omega)] at this
   simp [hsl] at this
   exact this.symm) (by
   intro j hj he
   have:=getx j (by omega)
   rw [List.getElem?_append_left (by omega),he] at this
   exact hd (List.mem_of_getElem? this))
  have e1:x.extract 0 ss.size=ss:=by
   apply ba_ext
   rw [extract_list,hx]
   simp only [List.drop_zero,Nat.sub_zero]
   rw [List.take_left' hsl]
  have e2:x.extract (ss.size+1) x.size=⟨D.toArray⟩:=by
   apply ba_ext
   have:ss.data.toList++46::D=(ss.data.toList++ [46])++D:=by simp
   rw [extract_list,hx,this,List.drop_left' (by rw [List.length_append,hsl];rfl),List.take_of_length_le (by rw [hxs];omega)]
  rw [e1,e2] at this
  exact this
 obtain ⟨DS,hDS⟩:∃DS:ByteArray,DS=⟨D.toArray⟩:=⟨_,rfl⟩
 rw [←hDS] at hcut
 have hDl':DS.data.toList=D:=by rw [hDS]
 have hDs:DS.size=D.length:=by rw [Lib.size_eq,hDl']
 have HDl:=Lib.hid hDl'
 have hDz:((D.length:Int) == 0)=false:=by simp only [beq_eq_false_iff_ne,ne_eq];omega
 clear hDS hDl'
 have HP:=Lib.hid hp;have HC:=Lib.hid hcut;have HM:=Lib.hid hm;have HG:=Lib.hid hdig;have HN:=Lib.hid hneg
 clear hp hcut hm hdig hneg hx hxs hsl getx hd
 unfold tm
 go_enter Tryz.func209,Tryz.ntmps209
 go_wp2_with (first
  | (go_at_call 239;refine HC.out.mono ?_;rintro e w1 ⟨rfl,n1,rfl⟩)
  | (go_at_call 208;((with_reducible refine (parseInt64_any ss (by omega) q HP.out _).mono ?_);rintro e w2 ⟨rfl,hc2⟩)))
 have hb2:w2.heap[w.heap.size]? =some (.cells #[.int .u64 0,.int .i64 0] 126 (0,0)):=hc2.heap (heap_alloc_new w _) (by simp)
 have hlt2:w.heap.size < w2.heap.size:=(Array.getElem?_eq_some_iff.1 hb2).1
 have hg9:(w2.alloc (.cells (bvs (List.replicate 9 48)).toArray 318)).heap[w2.heap.size]? =some (.cells (bvs (List.replicate 9 48)).toArray 318 (0,0)):=heap_alloc_new _ _
 have hch:Chg [] w (w2.alloc (.cells (bvs (List.replicate 9 48)).toArray 318)):=((((Chg.refl [] w).alloc _).drewN n1).trans hc2).alloc _
 have hb3:(w2.alloc (.cells (bvs (List.replicate 9 48)).toArray 318)).heap[w.heap.size]? =some (.cells #[.int .u64 0,.int .i64 0] 126 (0,0)):=(Below.heap_alloc _ _ _ hlt2).trans hb2
 change Code.wp _ _ _ _ (w2.alloc (.cells (bvs (List.replicate 9 48)).toArray 318))
 generalize hW3:w2.alloc (.cells (bvs (List.replicate 9 48)).toArray 318)=W3 at*
 generalize hg:w2.heap.size=g at*
 generalize hr:w.heap.size=r at*
 have hwg:w.heap.size≤g:=by omega
 have hgr:g≠r:=by omega
 have HG9:=Lib.hid hg9;have HB3:=Lib.hid hb3;have HCH:=Lib.hid hch;have HR:=Lib.hid hr
 clear hW3 hg9 hb3 hch hb2 hc2 hlt2 hg hr
 go_loopw [3,10,11,37] (fun _ _ _ i w'=>∃j:Nat,j≤D.length∧i=.int .i64 j∧w'.heap[g]? =some (.cells (bvs (D.take j++List.replicate (9 - j) 48)).toArray 318 (0,0))∧Chg [g] W3 w') (fun _ _ _ i _=>D.length - (intOf i).toNat)
 case atStart=>exact ⟨0,Nat.zero_le _,rfl,by simpa using HG9.out,Chg.refl _ _⟩
 case round=>
  obtain ⟨j,hj,rfl,hbj,hcj⟩:=hrel
  have HBJ:=Lib.hid hbj;have HCJ:=Lib.hid hcj
  clear hbj hcj
  by_cases hlt:j < D.length
  ·have hlt':j < DS.size:=by omega
   have hbj:=HBJ.out
   have cd:=cell_heap hbj j
   have fd:=frozen_heap hbj j
   obtain ⟨c0,hc0⟩:∃c0,(bvs (D.take j++List.replicate (9 - j) 48)).toArray[j]? =some c0:=⟨_,Array.getElem?_eq_getElem (by simp;omega)⟩
   rw [hc0] at cd
   have hDj:D[j]? =some DS[j]:=by
    rw [←HDl.out,List.getElem?_eq_getElem (by rw [←Lib.size_eq];exact hlt')]
    rfl
   have hc:=HG.out DS[j] (List.mem_of_getElem? hDj)
   have HDj:=Lib.hid hDj
   have hq1:(48:Int)≤(DS[j].toNat:Int):=by omega
   have hq2:(DS[j].toNat:Int)≤57:=by omega
   clear hc0 hbj hDj hc
   go_wp2
   refine ⟨⟨j+1,by omega,by go_num,?_,HCJ.out.setCell (.inl (by simp)) _⟩,by simp [intOf];omega⟩
   rw [heap_setCell_at HBJ.out]
   congr 2
   have e1:D.take (j+1)=D.take j++ [DS[j]]:=by
    have hjd:=List.getElem?_eq_some_iff.1 HDj.out
    obtain ⟨h3,h4⟩:=hjd
    rw [List.take_succ_eq_append_getElem h3,h4]
   have e2:List.replicate (9 - j) (48:UInt8)=48::List.replicate (9 - (j+1)) 48:=by
    rw [←List.replicate_succ];congr 1;omega
   apply Array.ext'
   rw [Array.toList_setIfInBounds,e1,e2]
   simp only [bvs_append,List.append_assoc]
   rw [List.set_append,if_neg (by simp;omega)]
   simp [bvs,Nat.min_eq_left hj]
  ·have hjD:j=D.length:=by omega
   have hbj:=HBJ.out
   rw [hjD,List.take_length] at hbj
   have hcv:=conv_row (t:=318) (cap:=9) (len:=9) (off:=0) (D++List.replicate (9 - D.length) 48) hbj (by simp;omega) (fun i hi=>by simp)
   have hNl:(D++List.replicate (9 - D.length) 48).length=9:=by simp;omega
   have hpm:=HM.out
   obtain ⟨NS,hNS⟩:∃NS:ByteArray,NS=⟨(D++List.replicate (9 - D.length) 48).toArray⟩:=⟨_,rfl⟩
   rw [←hNS] at hcv
   have hNSl:NS.data.toList=D++List.replicate (9 - D.length) 48:=by rw [hNS]
   have hNz:NS.size=9:=by rw [Lib.size_eq,hNSl,hNl]
   rw [←hNSl] at hpm
   have hch2:Chg [] w wr:=HCH.out.transFresh HCJ.out (by simp;omega)
   have hbr:wr.heap[r]? =some (.cells #[.int .u64 0,.int .i64 0] 126 (0,0)):=HCJ.out.heap HB3.out (by simp;omega)
   have HPM:=Lib.hid hpm;have HCH2:=Lib.hid hch2;have HBR:=Lib.hid hbr
   clear hbj hNS hNSl hNl hpm hch2 hbr
   have hnz:NS.size≤9223372036854775806:=by omega
   clear hNz
   rcases HN.out with ⟨hc,hs,hn,hg⟩ | ⟨hc,hs,hn,hg⟩
   ·have ht:(((ss[0]'hs0).toNat:Int) == 45)=true:=by rw [hc];rfl
    have hq:q=s+1:=by omega
    have hm1':(-1:Int)*(m:Int)=-(m:Int):=by omega
    have e1:s+1 - 1=s:=by omega
    have hss0:(0:Int) < (ss.size:Int):=by omega
    clear hc hg hs
    subst hq hn
    go_wp2_with (first
     | (go_at_call 208;((with_reducible refine (parseInt64_any NS hnz m HPM.out _).mono ?_);rintro e w5 ⟨rfl,hc5⟩))
     | (go_at_call 70;refine (unix_neg (s+1) m _ (by omega) hm1 (by omega) (by omega)).mono ?_;rw [e1];rintro e w6 ⟨rfl,hc6⟩;simp only [tm];have hb:=(hc5.trans hc6).heap HBR.out (by simp);have c0:=cell_heap hb 0;have c1:=cell_heap hb 1;have f0:=frozen_heap hb 0;have f1:=frozen_heap hb 1))
    have h3:=heap_setCell_at (heap_setCell_at hb 0 (.int .u64 (1000000000 - m:Nat))) 1 (.int .i64 (s+62135596800))
    refine bodyPost_ret (results_cellrow_tmp rfl _ _ _ _ _ _ _ rfl h3 Tryz.underlying126 rfl s126) rfl ?_
    have hrw:w.heap.size≤r:=by rw [HR.out];exact Nat.le_refl _
    exact ⟨rfl,((HCH2.out.trans (hc5.trans hc6)).setCell (.inr hrw) _).setCell (.inr hrw) _⟩
   ·have ht:(((ss[0]'hs0).toNat:Int) == 45)=false:=by
     simp only [beq_eq_false_iff_ne,ne_eq]
     intro e
     exact hc (UInt8.toNat_inj.1 (by show _=45;omega))
    have hss0:(0:Int) < (ss.size:Int):=by omega
    clear hc hg
    subst hs hn
    go_wp2_with (first
     | (go_at_call 208;((with_reducible refine (parseInt64_any NS hnz ns HPM.out _).mono ?_);rintro e w5 ⟨rfl,hc5⟩))
     | (go_at_call 70;refine (unix_any s ns _ hm2 h1 (by omega)).mono ?_;rintro e w6 ⟨rfl,hc6⟩;simp only [tm];have hb:=(hc5.trans hc6).heap HBR.out (by simp);have c0:=cell_heap hb 0;have c1:=cell_heap hb 1;have f0:=frozen_heap hb 0;have f1:=frozen_heap hb 1))
    have h3:=heap_setCell_at (heap_setCell_at hb 0 (.int .u64 ns)) 1 (.int .i64 (s+62135596800))
    refine bodyPost_ret (results_cellrow_tmp rfl _ _ _ _ _ _ _ rfl h3 Tryz.underlying126 rfl s126) rfl ?_
    have hrw:w.heap.size≤r:=by rw [HR.out];exact Nat.le_refl _
    exact ⟨rfl,((HCH2.out.trans (hc5.trans hc6)).setCell (.inr hrw) _).setCell (.inr hrw) _⟩
theorem getElem_mk0 (c:UInt8) (r:List UInt8) (h:0 < (⟨(c::r).toArray⟩:ByteArray).size):(⟨(c::r).toArray⟩:ByteArray)[0]'h=c:=rfl
theorem mk_size (l:List UInt8):(⟨l.toArray⟩:ByteArray).size=l.length:=by show l.toArray.size=_;simp
theorem ten19 {n:Nat} (h:n < 10000000000000000000):Lib.nDigits n≤19:=by
 rcases Nat.eq_zero_or_pos n with rfl | hp
 ·rw [Lib.nDigits_small (by decide)];decide
 ·have:=nDigits_lower n hp
  have h3:10 ^ (Lib.nDigits n - 1) < 10 ^ 19:=by omega
  have:=(Nat.pow_lt_pow_iff_right (by decide:1 < 10)).1 h3
  omega
theorem nine_parses {m:Nat} (h0:0 < m) (h:m < 1000000000):Lib.parseIntB 64 (trim0 (nine m)++List.replicate (9 - (trim0 (nine m)).length) 48)=.ok (m:Int)∧AllDig (trim0 (nine m))∧0 < (trim0 (nine m)).length∧(trim0 (nine m)).length≤9:=by
 have hp:=trim0_pad (nine m)
 have hl:=nine_length h
 have hle:=trim0_le (nine m)
 rw [hl] at hp hle
 refine ⟨?_,fun c hc=>allDig_nine m c (trim0_sub _ c hc),List.length_pos_iff.2 (trim0_ne _ (allDig_nine m) (by rw [decVal_nine];omega)),hle⟩
 rw [hp,parseInt_digits _ (allDig_nine m) (by intro e;rw [e] at hl;simp at hl) (by rw [decVal_nine];omega),decVal_nine]
theorem parses_timS (s:Int) (ns:Nat) (hn:ns < 1000000000) (h1 : -2000000000000000000≤s) (h2:s≤2000000000000000000):ParsesT (timS s ns) s ns:=by
 by_cases h0:ns=0
 ·subst h0
  rw [timS_zero]
  refine parseTime_whole _ s (by have:=itoaS_size s (by omega) (by omega);omega) (parseInt_itoa s (by omega) (by omega)) ?_ (by omega) (by omega)
  show (46:UInt8)∉(Lib.itoa s).toArray.toList
  rw [List.toList_toArray]
  unfold Lib.itoa
  by_cases hs:s < 0
  ·rw [if_pos hs]
   intro hm
   rcases List.mem_cons.1 hm with e | e
   ·exact absurd e (by decide)
   ·exact dec_no 46 _ (by decide) e
  ·rw [if_neg hs]
   exact dec_no 46 _ (by decide)
 ·by_cases hs:s < 0
  ·obtain ⟨p1,p2,p3,p4⟩:=nine_parses (m:=1000000000 - ns) (by omega) (by omega)
   have hl:(45::Lib.decDigits (-(s+1)).toNat).length≤20:=by
    have:=ten19 (n:=(-(s+1)).toNat) (by omega)
    simp [Lib.decDigits_length];omega
   refine parseTime_part _ ⟨(45::Lib.decDigits (-(s+1)).toNat).toArray⟩ (trim0 (nine (1000000000 - ns))) (s+1) (1000000000 - ns) true s ns ?_ (by rw [mk_size];omega) (by rw [mk_size];simp) p4 p3 ?_ ?_ p2 p1 (by omega) (by omega) (.inl ⟨getElem_mk0 _ _ _,by omega,by omega,rfl⟩) (by omega) (by omega)
   ·unfold timS paxTime
    rw [if_neg h0,if_pos hs]
   ·intro hm
    have hm':(46:UInt8)∈Lib.decDigits (-(s+1)).toNat:=by simpa using hm
    exact dec_no 46 _ (by decide) hm'
   ·have:=parseInt_minus (Lib.decDigits (-(s+1)).toNat) (allDig_dec _) (dec_ne _) (by rw [decVal_dec];omega)
    rw [decVal_dec] at this
    show Lib.parseIntB 64 (45::Lib.decDigits (-(s+1)).toNat)=_
    rw [this]
    congr 1
    omega
  ·obtain ⟨p1,p2,p3,p4⟩:=nine_parses (m:=ns) (by omega) hn
   have hl:(Lib.decDigits s.toNat).length≤19:=by
    have:=ten19 (n:=s.toNat) (by omega)
    rw [Lib.decDigits_length];omega
   have hpos:0 < (Lib.decDigits s.toNat).length:=List.length_pos_iff.2 (dec_ne _)
   refine parseTime_part _ ⟨(Lib.decDigits s.toNat).toArray⟩ (trim0 (nine ns)) s ns false s ns ?_ (by rw [mk_size];omega) (by rw [mk_size];exact hpos) p4 p3 ?_ ?_ p2 p1 (by omega) (by omega) (.inr ⟨?_,rfl,rfl,rfl⟩) (by omega) (by omega)
   ·unfold timS paxTime
    rw [if_neg h0,if_neg hs]
   ·exact dec_no 46 _ (by decide)
   ·show Lib.parseIntB 64 (Lib.decDigits s.toNat)=_
    rw [parseInt_dec _ (by omega)]
    congr 1
    omega
   ·intro e
    cases hd:Lib.decDigits s.toNat with
    | nil=>exact dec_ne _ hd
    | cons c r=>
     simp only [hd] at e
     rw [getElem_mk0] at e
     exact dec_no 45 s.toNat (by decide) (by rw [hd,e];simp)
end Go.Proofs.YtkanmkcojlefbaaGreatDoor
namespace Go.Proofs.YtkanmkcojlefbaaGreatDoor
open Go.RowKit
theorem keepC {tw b rw:Nat} {p nb:Int} {cs:Array Value} {B:Nat} {w1 w':World} (h:WrAt tw b rw p nb cs w1) (k:FrW B [b] w1 w') (htb:tw≠b) (hrb:rw≠b) :
  w'.cell? ⟨tw,0,none⟩=some (.iface 75 (.pointer (some ⟨b,0,none⟩)))∧FrW B [b] w1 w':=by
 have h':=h.frame k (by simp;exact htb) (by simp;exact hrb)
 exact ⟨(cell_heap h'.heap 0).trans h'.c0,k⟩
end Go.Proofs.YtkanmkcojlefbaaGreatDoor
namespace Go.Proofs.YtkanmkcojlefbaaGreatDoor
open Go.RowKit
def newCur (w:World) (tw b:Nat) (n pad:Int):World:=
 ((w.setCell ⟨tw,2,none⟩ (.iface 119 (.pointer (some ⟨w.heap.size,0,none⟩)))).setCell ⟨tw,1,none⟩ (.int .i64 pad)).alloc (.cells #[.iface 75 (.pointer (some ⟨b,0,none⟩)),.int .i64 n] 121)
theorem size_setCell (w:World) (p:Addr) (v:Value):(w.setCell p v).heap.size=w.heap.size:=by simp [World.setCell]
theorem set21 (cs:Array Value) (u v:Value) (i:Nat) (hi:3≤i):((cs.setIfInBounds 2 u).setIfInBounds 1 v)[i]? =cs[i]? :=by
 rw [Array.getElem?_setIfInBounds_ne (by omega),Array.getElem?_setIfInBounds_ne (by omega)]
theorem newCur_facts {tw b rw p:Nat} {nb:Int} {cs:Array Value} {B:Nat} {bs:List UInt8} {w:World} (n pad:Int) (h:WrAt tw b rw p nb cs w) (htb:tw≠b) (hI:Lib.IsBuffer 70 5 B b (bvs bs) w) (hB:B≤w.heap.size) (hBt:B≤tw) :
  WrAt tw b w.heap.size pad n ((cs.setIfInBounds 2 (.iface 119 (.pointer (some ⟨w.heap.size,0,none⟩)))).setIfInBounds 1 (.int .i64 pad)) (newCur w tw b n pad)∧Lib.IsBuffer 70 5 B b (bvs bs) (newCur w tw b n pad)∧FrW B [tw,b] w (newCur w tw b n pad):=by
 have htl:tw < w.heap.size:=(Array.getElem?_eq_some_iff.1 h.heap).1
 have hs:=h.size
 have h1:=heap_setCell_at h.heap 2 (.iface 119 (.pointer (some ⟨w.heap.size,0,none⟩)))
 have hI1:=isBuf_setOther hI h.heap (by decide) htb 2 (.iface 119 (.pointer (some ⟨w.heap.size,0,none⟩)))
 have h2:=heap_setCell_at h1 1 (.int .i64 pad)
 have hI2:=isBuf_setOther hI1 h1 (by decide) htb 1 (.int .i64 pad)
 have hsz:((w.setCell ⟨tw,2,none⟩ (.iface 119 (.pointer (some ⟨w.heap.size,0,none⟩)))).setCell ⟨tw,1,none⟩ (.int .i64 pad)).heap.size=w.heap.size:=by rw [size_setCell,size_setCell]
 have h3:(newCur w tw b n pad).heap[tw]? =_:=(Below.heap_alloc _ _ _ (by rw [hsz];exact htl)).trans h2
 have hI3:=hI2.alloc (.cells #[.iface 75 (.pointer (some ⟨b,0,none⟩)),.int .i64 n] 121)
 have hr:(newCur w tw b n pad).heap[w.heap.size]? =some (.cells #[.iface 75 (.pointer (some ⟨b,0,none⟩)),.int .i64 n] 121 (0,0)):=by
  rw [←hsz]
  exact heap_alloc_new _ _
 refine ⟨⟨h3,by simpa using hs,?_,?_,?_,?_,hr⟩,hI3,?_⟩
 ·rw [Array.getElem?_setIfInBounds_ne (by omega),Array.getElem?_setIfInBounds_ne (by omega)];exact h.c0
 ·rw [Array.getElem?_setIfInBounds_self,if_pos (by simp;omega)]
 ·rw [Array.getElem?_setIfInBounds_ne (by omega),Array.getElem?_setIfInBounds_self,if_pos (by omega)]
 ·rw [Array.getElem?_setIfInBounds_ne (by omega),Array.getElem?_setIfInBounds_ne (by omega)];exact h.c535
 ·exact FrW.ofChg ((((Chg.refl [tw,b] w).setCell (.inl (by simp)) _).setCell (.inl (by simp)) _).alloc _) hB (by simp;exact ⟨hBt,hI.1⟩)
set_option maxRecDepth 100000 in
set_option maxHeartbeats 1600000 in
theorem writeRaw_any (tw b rw p:Nat) (nb:Int) (cs:Array Value) (B:Nat) (bs L:List UInt8) (size n:Nat) (flag:Int) (w:World) (h:WrAt tw b rw p nb cs w) (hp:p≤512) (hnb:nb≤0) (htb:tw≠b) (htr:tw≠rw) (hrb:rw≠b)
  (hI:Lib.IsBuffer 70 5 B b (bvs bs) w) (hB:B≤w.heap.size) (hBt:B≤tw) (hlim:bs.length+p+512≤140737488355328) (hL:L.length=512) (hLc:∀j,j < 512→cs[23+j]? =(bvs L)[j]?) (hsz:size≤9223372036854775807)
  (hflag:(49≤flag∧flag≤54∧n=0)∨((flag < 49∨54 < flag)∧n=size)) :
  Calls Tryz.prog 133 #[.pointer (some ⟨tw,0,none⟩),.pointer (some ⟨tw,23,none⟩),.int .i64 size,.int .u8 flag] w fun e w'=>e=.returned .nilIface∧
   (∃rw' cs',WrAt tw b rw' (padOf n) n cs' w'∧(∀i,3≤i→cs'[i]? =cs[i]?)∧w.heap.size≤rw')∧Lib.IsBuffer 70 5 B b (bvs (bs++List.replicate p 0++L)) w'∧FrW B [tw,b] w w':=by
 have H:=Lib.hid h;have HI:=Lib.hid hI;have HLc:=Lib.hid hLc;have HF:=Lib.hid hflag;have HL:=Lib.hid hL
 clear h hI hLc hflag hL
 go_enter Tryz.func133,Tryz.ntmps133
 go_wp2_with (go_at_call 62;refine (flush_any tw b rw p nb cs B bs _ H.out hp hnb htb htr hrb HI.out hB hBt (by omega)).mono ?_;rintro e w1 ⟨rfl,⟨cs1,h1,hcs1⟩,hI1,hf1⟩)
 have hLc1:∀j v,(bvs L)[j]? =some v→w1.cell? ((⟨tw,23,none⟩:Addr).add j)=some v:=by
  intro j v hv
  have hj:j < 512:=by have:=(List.getElem?_eq_some_iff.1 hv).1;rw [bvs_length,HL.out] at this;exact this
  rw [add_addr,cell_heap h1.heap,hcs1 (23+j) (by omega),HLc.out j hj,hv]
 have hll:(bvs L).length=512:=by rw [bvs_length,HL.out]
 have hB1:B≤w1.heap.size:=by have:=hf1.below.size;omega
 have hBb:B≤b:=hI1.1
 have d0:w1.cell? ⟨tw,0,none⟩=some (.iface 75 (.pointer (some ⟨b,0,none⟩))):=by rw [cell_heap h1.heap];exact h1.c0
 have HC1:=Lib.hid hcs1;have H1:=Lib.hid h1;have HI1:=Lib.hid hI1;have HF1:=Lib.hid hf1;have HLc1:=Lib.hid hLc1;have Hll:=Lib.hid hll
 clear h1 hI1 hf1 hcs1 hLc1 hll H HI
 have hah:=ahead75
 go_region_held3 (fun w'=>w'.cell? ⟨tw,0,none⟩=some (.iface 75 (.pointer (some ⟨b,0,none⟩)))∧FrW B [b] w1 w') (first | exact keepC H1.out (FrW.refl _ _ _) htb hrb | exact keepC H1.out (FrW.ofChg (Chg.refl _ w1).drew hB1 (by simp;exact hBb)) htb hrb | exact keepC H1.out (by assumption) htb hrb) ((first | (go_at_call 284;refine (Tryz.Buffer_Write_any B b (bvs (bs++List.replicate p 0)) (bvs L) ⟨tw,23,none⟩ 512 512 _ (by exact HI1.out.drew) (by simp;omega) (bvs_one _) Hll.out (by show tw≠b;exact htb) (by exact HLc1.out) (bvs_one _) (by simp;omega)).mono ?_;rintro e w2 ⟨rfl,hI2,hb2,hk2⟩;have hf2:FrW B [b] w1 w2:=FrW.trans (FrW.ofChg (Chg.refl _ w1).drew hB1 (by simp;exact hBb)) (FrW.ofKept hb2 hk2);rw [←bvs_append] at hI2;have HI2:=Lib.hid hI2;clear hI2 hb2 hk2)))
 have HF2:=Lib.hid hf2
 clear hf2 d0
 have h2:=H1.out.frame HF2.out (by simp;exact htb) (by simp;exact hrb)
 have hf12:FrW B [tw,b] w w2:=HF1.out.trans (HF2.out.mono (by simp))
 have d0:w2.cell? ⟨tw,0,none⟩=some (.iface 75 (.pointer (some ⟨b,0,none⟩))):=by rw [cell_heap h2.heap];exact h2.c0
 have d1:w2.cell? ⟨tw,1,none⟩=some (.int .i64 0):=by rw [cell_heap h2.heap];exact h2.c1
 have d2:w2.cell? ⟨tw,2,none⟩=some (.iface 119 (.pointer (some ⟨rw,0,none⟩))):=by rw [cell_heap h2.heap];exact h2.c2
 have f1:w2.frozen? ⟨tw,1,none⟩=false:=frozen_heap h2.heap 1
 have f2:w2.frozen? ⟨tw,2,none⟩=false:=frozen_heap h2.heap 2
 have htl:tw < w2.heap.size:=(Array.getElem?_eq_some_iff.1 h2.heap).1
 have H2:=Lib.hid h2;have HF12:=Lib.hid hf12
 clear h2 hf12 H1 HI1 HF1 HF2 HLc1
 rcases HF.out with ⟨hf1,hf2,rfl⟩ | ⟨hf,rfl⟩
 ·go_wp2_with (first
   | (go_at_call 124;refine (hdrOnly_yes flag _ hf1 hf2).mono ?_;rintro e w3 ⟨rfl,rfl⟩)
   | (go_at_call 186;refine (padding_any 0 _ (by omega)).mono ?_;rintro e w3 ⟨rfl,rfl⟩))
  go_ret
  have hc:=newCur_facts 0 0 H2.out htb HI2.out (by have:=HF12.out.below.size;omega) hBt
  exact ⟨rfl,⟨_,_,hc.1,fun i hi=>(set21 _ _ _ i hi).trans (HC1.out i (by omega)),HF12.out.below.size⟩,hc.2.1,HF12.out.trans hc.2.2⟩
 ·go_wp2_with (first
   | (go_at_call 124;refine (hdrOnly_no flag _ hf).mono ?_;rintro e w3 ⟨rfl,rfl⟩)
   | (go_at_call 186;refine (padding_any n _ (by omega)).mono ?_;rintro e w3 ⟨rfl,rfl⟩))
  go_ret
  have hc:=newCur_facts n (padOf n) H2.out htb HI2.out (by have:=HF12.out.below.size;omega) hBt
  exact ⟨rfl,⟨_,_,hc.1,fun i hi=>(set21 _ _ _ i hi).trans (HC1.out i (by omega)),HF12.out.below.size⟩,hc.2.1,HF12.out.trans hc.2.2⟩
end Go.Proofs.YtkanmkcojlefbaaGreatDoor
namespace Go.Proofs.YtkanmkcojlefbaaGreatDoor
open Go.RowKit
structure TH where
 tf:UInt8
 name:ByteArray
 link:ByteArray
 size:Int
 mode:Int
 uid:Int
 gid:Int
 un:ByteArray
 gn:ByteArray
 ms:Int
 mn:Nat
 ats:Int
 atn:Nat
 cts:Int
 ctn:Nat
 dj:Int
 dn:Int
 xa:Value
 recs:Value
 fmt:Int
def TH.cells (h:TH):List Value:=
 [.int .u8 h.tf.toNat,.string h.name,.string h.link,.int .i64 h.size,.int .i64 h.mode,.int .i64 h.uid,.int .i64 h.gid,.string h.un,.string h.gn,.int .u64 h.mn,.int .i64 (h.ms+62135596800),.int .u64 h.atn,.int .i64 (h.ats+62135596800),.int .u64 h.ctn,.int .i64 (h.cts+62135596800),.int .i64 h.dj,.int .i64 h.dn,h.xa,h.recs,.int .i64 h.fmt]
def WB (tw:Nat) (c0 c1 c2:Value) (th:TH) (L:List UInt8) (er:Value) (w:World):Prop:=BlkIn tw 134 (c0::c1::c2::th.cells) L [er] w
theorem wb_cell {tw:Nat} {c0 c1 c2:Value} {th:TH} {L:List UInt8} {er:Value} {w:World} (h:WB tw c0 c1 c2 th L er w) (i:Nat) (v:Value) (hv:(c0::c1::c2::th.cells)[i]? =some v):w.cell? ⟨tw,i,none⟩=some v:=by
 have hi:=(List.getElem?_eq_some_iff.1 hv).1
 rw [cell_heap h,List.getElem?_toArray,List.append_assoc,List.getElem?_append_left hi,hv]
theorem set_splice {α:Type} (L:List α) (i:Nat) (c:α) (h:i < L.length):L.set i c=splice L i [c]:=by
 apply List.ext_getElem?
 intro j
 rw [List.getElem?_set,splice_get _ _ _ (by simp;omega)]
 by_cases e:i=j
 ·subst e;simp [h]
 ·rw [if_neg e,if_neg (by simp;omega)]
end Go.Proofs.YtkanmkcojlefbaaGreatDoor
