/-
  Records and times of PAX: formatPAXRecord, parsePAXRecord, formatPAXTime, parsePAXTime · formatString at a string that is too long for its field; toASCII; the fields of PAX · toASCII: a text of ASCII alone; one that is ASCII stays as it is · The formatters in one form each: strings and numbers as USTAR, PAX and GNU lay them into a block · The accessors of a header block: each is a slice of it (printed by genslices.py).
-/
import Derived.Test.YtkanmkcojlefbaaGreatDoorJ05
import Derived.Test.YtkanmkcojlefbaaGreatDoorJ03
import Derived.Test.YtkanmkcojlefbaaGreatDoorJ02
import Derived.IntWalk
import Derived.Test.YtkanmkcojlefbaaGreatDoorJ04
import Derived.Laws.AppendOwn
import Derived.Laws.MakeOwn
import Derived.Laws.OwnMore
import Derived.OwnWalk
import Derived.Laws.BytesArg
import Derived.Lib.DecodeN
set_option linter.unusedVariables false
namespace Go.Proofs.YtkanmkcojlefbaaGreatDoor
open Go.RowKit
theorem isEmpty_of {s:ByteArray} (h:0 < s.size):s.toList.isEmpty=false:=by
 rw [Lib.toList_data]
 cases hx:s.data.toList with
 | nil=>rw [Lib.size_eq,hx] at h;simp at h
 | cons _ _=>rfl
theorem hasNUL_no (s:ByteArray) (w:World) (hs:s.size≤140737488355328) (h:has s.data.toList 0=false):Calls Tryz.prog 94 #[.string s] w fun e w'=>e=.returned (.bool false)∧w=w':=by
 have:=hasNUL_any s w hs
 rw [h] at this
 exact this
theorem zzContains_no (s:ByteArray) (c:UInt8) (w:World) (hs:s.size≤140737488355328) (h:has s.data.toList c=false):Calls Tryz.prog 166 #[.string s,.string ⟨#[c]⟩] w fun e w'=>e=.returned (.bool false)∧w=w':=by
 have:=zzContains_any s c w hs
 rw [h] at this
 exact this
theorem results_tmp4 {fn:Func} {t u v x:Tmp} (h:fn.results=#[.tmp t,.tmp u,.tmp v,.tmp x]) (tmps:Array Value) (P:Program) (w:World) :
  (results fn tmps).run P w=.ok (.tuple #[tmps.getD t undef,tmps.getD u undef,tmps.getD v undef,tmps.getD x undef]) w:=by
 simp [results,h]
structure RecOk (k v:ByteArray):Prop where
 kpos:0 < k.size
 ksz:k.size≤4294967296
 vsz:v.size≤4294967296
 eq:has k.data.toList 61=false
 k0:has k.data.toList 0=false
 v0:has v.data.toList 0=false
set_option maxRecDepth 100000 in
set_option maxHeartbeats 800000 in
theorem valid_ok (k v:ByteArray) (w:World) (h:RecOk k v):Calls Tryz.prog 126 #[.string k,.string v] w fun e w'=>e=.returned (.bool true)∧w=w':=by
 obtain ⟨h1,h2,h3,h4,h5,h6⟩:=h
 have he:=isEmpty_of h1
 have H4:=Lib.hid h4;have H5:=Lib.hid h5;have H6:=Lib.hid h6
 clear h4 h5 h6
 go_enter Tryz.func126,Tryz.ntmps126
 go_wp2_with (first
  | (go_at_call 166;refine (zzContains_no k 61 _ (by omega) H4.out).mono ?_;rintro e w1 ⟨rfl,rfl⟩)
  | (go_at_call 94;((with_reducible refine (hasNUL_no k _ (by omega) H5.out).mono ?_);rintro e w1 ⟨rfl,rfl⟩))
  | (go_at_call 94;((with_reducible refine (hasNUL_no v _ (by omega) H6.out).mono ?_);rintro e w1 ⟨rfl,rfl⟩)))
 all_goals
  go_ret
  exact ⟨rfl,rfl⟩
theorem itoa_any {B:Nat} {sn:Nat→Addr} {kb:Nat} (n:Int) (h0 : -9223372036854775808≤n) (h1:n≤9223372036854775807) (w:World) (hE:Env B sn kb w) :
  Calls Tryz.prog 190 #[.int .i64 n] w fun e w'=>e=.returned (.string ⟨(Lib.itoa n).toArray⟩)∧Chg [] w w':=by
 refine (Tryz.strconv_Itoa n h0 h1 w hE.t10).mono ?_
 rintro e w' ⟨he,k,os,rfl⟩
 exact ⟨he,(Chg.drewNof k).trans (chg_grow _ os)⟩
theorem formatInt_any {B:Nat} {sn:Nat→Addr} {kb:Nat} (n:Int) (h0 : -9223372036854775808≤n) (h1:n≤9223372036854775807) (w:World) (hE:Env B sn kb w) :
  Calls Tryz.prog 101 #[.int .i64 n,.int .i64 10] w fun e w'=>e=.returned (.string ⟨(Lib.itoa n).toArray⟩)∧Chg [] w w':=by
 refine (Tryz.strconv_FormatInt_10 n h0 h1 w hE.t10).mono ?_
 rintro e w' ⟨he,k,os,rfl⟩
 exact ⟨he,(Chg.drewNof k).trans (chg_grow _ os)⟩
theorem parseInt64_any (s:ByteArray) (hmax:s.size≤9223372036854775806) (v:Int) (h:Lib.parseIntB 64 s.data.toList=.ok v) (w:World) :
  Calls Tryz.prog 208 #[.string s,.int .i64 10,.int .i64 64] w fun e w'=>e=.returned (.tuple #[.int .i64 v,.nilIface])∧Chg [] w w':=by
 refine (Tryz.strconv_ParseInt_10_at64_ok s hmax v h w).mono ?_
 rintro e w' ⟨he,hw⟩
 refine ⟨he,?_⟩
 rcases hw with rfl | ⟨t,rfl⟩
 ·exact Chg.refl _ _
 ·exact chg_bytesWorld _ _ _
theorem parseInt0_any (s:ByteArray) (hmax:s.size≤9223372036854775806) (v:Int) (h:Lib.parseIntB 64 s.data.toList=.ok v) (w:World) :
  Calls Tryz.prog 208 #[.string s,.int .i64 10,.int .i64 0] w fun e w'=>e=.returned (.tuple #[.int .i64 v,.nilIface])∧Chg [] w w':=by
 refine (Tryz.strconv_ParseInt_10_at0_ok s hmax v h w).mono ?_
 rintro e w' ⟨he,hw⟩
 refine ⟨he,?_⟩
 rcases hw with rfl | ⟨t,rfl⟩
 ·exact Chg.refl _ _
 ·exact chg_bytesWorld _ _ _
def decS (n:Nat):ByteArray:=⟨(Lib.decDigits n).toArray⟩
theorem decS_size (n:Nat):(decS n).size=Lib.nDigits n:=by
 show (Lib.decDigits n).toArray.size=_
 simp [Lib.decDigits_length]
theorem itoa_nat {B:Nat} {sn:Nat→Addr} {kb:Nat} (n:Nat) (h1:n≤9223372036854775807) (w:World) (hE:Env B sn kb w) :
  Calls Tryz.prog 190 #[.int .i64 n] w fun e w'=>e=.returned (.string (decS n))∧Chg [] w w':=by
 have:=itoa_any (n:Int) (by omega) (by omega) w hE
 have e:Lib.itoa (n:Int)=Lib.decDigits n:=by unfold Lib.itoa;rw [if_neg (by omega)];simp
 rw [e] at this
 exact this
def recS (n:Nat) (k v:ByteArray):ByteArray:=decS n++⟨#[32]⟩++k++⟨#[61]⟩++v++⟨#[10]⟩
theorem recS_data (n:Nat) (k v:ByteArray):(recS n k v).data.toList=Lib.decDigits n++32::(k.data.toList++61::(v.data.toList++ [10])):=by
 simp [recS,decS]
theorem recS_size (n:Nat) (k v:ByteArray):(recS n k v).size=Lib.nDigits n+k.size+v.size+3:=by
 rw [Lib.size_eq,recS_data,Lib.size_eq,Lib.size_eq]
 simp [Lib.decDigits_length]
 omega
theorem nDigits_le10 {n:Nat} (h:n < 10000000000):Lib.nDigits n≤10:=by
 rcases Nat.eq_zero_or_pos n with rfl | hp
 ·rw [Lib.nDigits_small (by decide)];decide
 ·have:=nDigits_lower n hp
  have h3:10 ^ (Lib.nDigits n - 1) < 10 ^ 10:=by omega
  have:=(Nat.pow_lt_pow_iff_right (by decide:1 < 10)).1 h3
  omega
set_option maxRecDepth 100000 in
set_option maxHeartbeats 1000000 in
theorem fmtRec {B:Nat} {sn:Nat→Addr} {kb:Nat} (k v:ByteArray) (w:World) (h:RecOk k v) (hE:Env B sn kb w) :
  Calls Tryz.prog 136 #[.string k,.string v] w fun e w'=>e=.returned (.tuple #[.string (recS (recLen (k.size+v.size)) k v),.nilIface])∧Chg [] w w':=by
 have hv:=valid_ok k v
 have h2:=h.ksz;have h3:=h.vsz
 obtain ⟨s0,hs0⟩:∃s,s=k.size+v.size+3:=⟨_,rfl⟩
 obtain ⟨s1,hs1⟩:∃s,s=s0+Lib.nDigits s0:=⟨_,rfl⟩
 have d0:Lib.nDigits s0≤10:=nDigits_le10 (by omega)
 have d1:Lib.nDigits s1≤10:=nDigits_le10 (by omega)
 have z0:=decS_size s0
 have hz:(recS s1 k v).size=Lib.nDigits s1+k.size+v.size+3:=recS_size s1 k v
 obtain ⟨s2,hs2⟩:∃s,s=s0+Lib.nDigits s1:=⟨_,rfl⟩
 have hL:recLen (k.size+v.size)=if s2=s1 then s1 else s2:=by
  unfold recLen;rw [hs2,hs1,hs0]
 have HV:=Lib.hid (hv w h)
 have HE:=Lib.hid hE
 have HL:=Lib.hid hL
 have hc0:(k.size:Int)+v.size+3=(s0:Int):=by omega
 have hq1:(s0:Int)+(decS s0).size=(s1:Int):=by rw [z0];omega
 have z1:=decS_size s1
 have hq2:((decS s1).size:Int)+1+k.size+1+v.size+1=(s2:Int):=by rw [z1];omega
 have l0:(s0:Int)≤8589934595:=by omega
 have l1:(s1:Int)≤8589934605:=by omega
 have l2:(s2:Int)≤8589934605:=by omega
 have l3:(decS s1).size≤10:=by rw [z1];exact d1
 have l4:(decS s2).size≤10:=by rw [decS_size];exact nDigits_le10 (by omega)
 clear hL hs0 hs1 hs2 z0 z1 hz d0 d1 hv hE h
 by_cases hcs:s2=s1
 ·subst hcs
  rw [HL.out,if_pos rfl]
  clear HL
  go_enter Tryz.func136,Tryz.ntmps136
  go_wp2_with (first
   | (go_at_call 126;refine HV.out.mono ?_;rintro e w1 ⟨rfl,rfl⟩)
   | (go_at_call 190;((with_reducible refine (itoa_nat s0 (by omega) _ HE.out).mono ?_);rintro e w1 ⟨rfl,hc1⟩))
   | (go_at_call 190;((with_reducible refine (itoa_nat s2 (by omega) _ (HE.out.chg0 hc1)).mono ?_);rintro e w2 ⟨rfl,hc2⟩)))
  go_ret2
  exact ⟨rfl,hc1.trans hc2⟩
 ·have ht:((s2:Int) != (s1:Int))=true:=by simp;omega
  rw [HL.out,if_neg hcs]
  clear HL hcs
  go_enter Tryz.func136,Tryz.ntmps136
  go_wp2_with (first
   | (go_at_call 126;refine HV.out.mono ?_;rintro e w1 ⟨rfl,rfl⟩)
   | (go_at_call 190;((with_reducible refine (itoa_nat s0 (by omega) _ HE.out).mono ?_);rintro e w1 ⟨rfl,hc1⟩))
   | (go_at_call 190;((with_reducible refine (itoa_nat s1 (by omega) _ (HE.out.chg0 hc1)).mono ?_);rintro e w2 ⟨rfl,hc2⟩))
   | (go_at_call 190;((with_reducible refine (itoa_nat s2 (by omega) _ (HE.out.chg0 (hc1.trans hc2))).mono ?_);rintro e w3 ⟨rfl,hc3⟩)))
  go_ret2
  exact ⟨rfl,(hc1.trans hc2).trans hc3⟩
def padS (k n:Nat):ByteArray:=⟨(List.replicate k 48++Lib.decDigits n).toArray⟩
theorem padS_size (k n:Nat):(padS k n).size=k+Lib.nDigits n:=by
 show (List.replicate k (48:UInt8)++Lib.decDigits n).toArray.size=_
 simp [Lib.decDigits_length]
theorem padS_succ (k n:Nat):(⟨#[48]⟩:ByteArray)++padS k n=padS (k+1) n:=by
 apply ByteArray.ext
 apply Array.ext'
 simp [padS,List.replicate_succ]
def szOf:Value→Nat
 | .string s=>s.size
 | _=>0
set_option maxRecDepth 100000 in
set_option maxHeartbeats 1000000 in
theorem nine_any {B:Nat} {sn:Nat→Addr} {kb:Nat} (n:Nat) (hn:n < 1000000000) (w:World) (hE:Env B sn kb w) :
  Calls Tryz.prog 171 #[.int .i64 n] w fun e w'=>e=.returned (.string ⟨(nine n).toArray⟩)∧Chg [] w w':=by
 have hd:=nDigits_nine hn
 have HE:=Lib.hid hE
 have h0:decS n=padS 0 n:=by apply ByteArray.ext;simp [decS,padS]
 have hi:Calls Tryz.prog 190 #[.int .i64 n] w fun e w'=>e=.returned (.string (padS 0 n))∧Chg [] w w':=by
  have:=itoa_nat n (by omega) w hE
  rw [h0] at this
  exact this
 have HI:=Lib.hid hi
 clear hE h0 hi
 go_enter Tryz.func171,Tryz.ntmps171
 go_wp2_with (go_at_call 190;refine HI.out.mono ?_;rintro e w1 ⟨rfl,hc1⟩)
 have HC1:=Lib.hid hc1
 clear hc1
 go_loop [3] (fun v=>∃k:Nat,k+Lib.nDigits n≤9∧v=.string (padS k n)) (fun v=>9 - szOf v)
 case atStart=>exact ⟨0,by omega,rfl⟩
 case round=>
  obtain ⟨k,hk,rfl⟩:=hrel
  have hz:=padS_size k n
  have hs:=padS_succ k n
  have hz2:=padS_size (k+1) n
  by_cases hlt:k+Lib.nDigits n < 9
  ·go_wp2
   go_round
   case rel=>exact ⟨k+1,by omega,rfl⟩
   case measure=>simp [szOf,hz,hz2];omega
  ·have e:padS k n=⟨(nine n).toArray⟩:=by
    have:k=9 - Lib.nDigits n:=by omega
    rw [this];rfl
   have E:=Lib.hid e
   clear hs hz2 e
   go_wp2
   go_ret
   exact ⟨by rw [E.out];rfl,HC1.out⟩
def timS (s:Int) (ns:Nat):ByteArray:=⟨(paxTime s ns).toArray⟩
theorem sl_to (R:ByteArray) (j:Nat) (h:j≤R.size) (w:World):(Instr.slice 9 (.string R) none (some (.int .i64 (j:Int))) none).run Tryz.prog w=.ok (.string (R.extract 0 j)) w:=by
 rw [run_slice_string_h (ht:=Tryz.underlying9) (h0:=by omega) (h2:=by omega)]
 rfl
theorem sl_from (R:ByteArray) (j:Nat) (h:j≤R.size) (w:World):(Instr.slice 9 (.string R) (some (.int .i64 (j:Int))) none none).run Tryz.prog w=.ok (.string (R.extract j R.size)) w:=by
 rw [run_slice_string_l (ht:=Tryz.underlying9) (h0:=by omega) (h1:=by omega)]
 rfl
theorem sl_mid (R:ByteArray) (i j:Nat) (h:j≤R.size) (hij:i≤j) (w:World):(Instr.slice 9 (.string R) (some (.int .i64 (i:Int))) (some (.int .i64 (j:Int))) none).run Tryz.prog w=.ok (.string (R.extract i j)) w:=by
 rw [run_slice_string (h:=Tryz.underlying9) (h0:=by omega) (h1:=by omega) (h2:=by omega)]
 rfl
theorem ba_ext {a b:ByteArray} (h:a.data.toList=b.data.toList):a=b:=ByteArray.ext (Array.ext' h)
theorem extract_list (s:ByteArray) (a b:Nat):(s.extract a b).data.toList=(s.data.toList.drop a).take (b - a):=Lib.extract_data s a b
set_option maxRecDepth 100000 in
set_option maxHeartbeats 2000000 in
theorem parseRec (k v s rest:ByteArray) (w:World) (h:RecOk k v) (hsz:s.size≤140737488355328) (hs:s.data.toList=(recS (recLen (k.size+v.size)) k v).data.toList++rest.data.toList) :
  Calls Tryz.prog 206 #[.string s] w fun e w'=>e=.returned (.tuple #[.string k,.string v,.string rest,.nilIface])∧Chg [] w w':=by
 have hfix:=recLen_fix (k.size+v.size)
 have hle:=recLen_le (k.size+v.size)
 have h2:=h.ksz;have h3:=h.vsz;have h1:=h.kpos
 generalize recLen (k.size+v.size)=n at hs hfix hle
 rw [recS_data] at hs
 have hnd:=Lib.decDigits_length n
 obtain ⟨q,hq⟩:∃q,q=Lib.nDigits n:=⟨_,rfl⟩
 obtain ⟨m,hm⟩:∃m,m=k.size+v.size+2:=⟨_,rfl⟩
 have hkl:k.data.toList.length=k.size:=(Lib.size_eq k).symm
 have hvl:v.data.toList.length=v.size:=(Lib.size_eq v).symm
 have hsl:s.size=q+1+(m+rest.size):=by
  rw [Lib.size_eq,hs,Lib.size_eq rest]
  simp [hnd];omega
 have hqs:q < s.size:=by omega
 have hsq:s[q]=32:=by
  have e:s.data.toList[q]? =some 32:=by
   rw [hs,List.append_assoc,List.getElem?_append_right (by omega)]
   simp [hnd,hq]
  have e2:s.data.toList[q]? =some s[q]:=by
   rw [List.getElem?_eq_getElem (by simpa using hqs)]
   rfl
  rw [e2] at e
  injection e
 have hsj:∀j (hj:j < q),s[j]'(by omega)≠32:=by
  intro j hj he
  have e2:s.data.toList[j]? =some (s[j]'(by omega)):=by
   rw [List.getElem?_eq_getElem (by simp;omega)]
   rfl
  rw [hs,List.append_assoc,List.getElem?_append_left (by omega),he] at e2
  exact dec_no 32 n (by decide) (List.mem_of_getElem? e2)
 have hcut:∀w,Calls Tryz.prog 239 #[.string s,.string ⟨#[32]⟩] w fun e w'=>e=.returned (.tuple #[.string (decS n),.string (s.extract (q+1) s.size),.bool true])∧∃n,w'=w.drewN n:=by
  intro w
  have:=zzCut_found s 32 q w hsz hqs hsq hsj
  have e:s.extract 0 q=decS n:=by
   apply ba_ext
   rw [extract_list,hs]
   simp only [List.drop_zero,Nat.sub_zero]
   rw [List.append_assoc,List.take_left' (by omega)]
   rfl
  rw [e] at this
  exact this
 obtain ⟨R,hR⟩:∃R,R=s.extract (q+1) s.size:=⟨_,rfl⟩
 rw [←hR] at hcut
 have hRl:R.data.toList=k.data.toList++61::(v.data.toList++10::rest.data.toList):=by
  rw [hR,extract_list,hs,hsl,List.take_of_length_le (by simp [hnd];omega)]
  have:(Lib.decDigits n++32::(k.data.toList++61::(v.data.toList++ [10]))++rest.data.toList)=(Lib.decDigits n++ [32])++(k.data.toList++61::(v.data.toList++10::rest.data.toList)):=by simp
  rw [this,List.drop_left' (by simp [hnd];omega)]
 have hRs:R.size=m+rest.size:=by
  rw [Lib.size_eq,hRl,Lib.size_eq rest];simp;omega
 obtain ⟨A,hA⟩:∃A,A=R.extract 0 (m - 1):=⟨_,rfl⟩
 have hAl:A.data.toList=k.data.toList++61::v.data.toList:=by
  rw [hA,extract_list,hRl]
  have:k.data.toList++61::(v.data.toList++10::rest.data.toList)=(k.data.toList++61::v.data.toList)++(10::rest.data.toList):=by simp
  rw [this]
  simp only [List.drop_zero]
  rw [List.take_left' (by simp;omega)]
 have hN:R.extract (m - 1) m=⟨#[10]⟩:=by
  apply ba_ext
  rw [extract_list,hRl]
  have:k.data.toList++61::(v.data.toList++10::rest.data.toList)=(k.data.toList++61::v.data.toList)++(10::rest.data.toList):=by simp
  rw [this,List.drop_left' (by simp;omega),show m - (m - 1)=1 by omega]
  first | rfl | skip
 have hT:R.extract m R.size=rest:=by
  apply ba_ext
  rw [extract_list,hRl,hRs]
  have:k.data.toList++61::(v.data.toList++10::rest.data.toList)=(k.data.toList++61::(v.data.toList++ [10]))++rest.data.toList:=by simp
  rw [this,List.drop_left' (by simp;omega),List.take_of_length_le (by rw [←Lib.size_eq];omega)]
 have hAs:A.size=k.size+1+v.size:=by
  rw [Lib.size_eq A,hAl];simp only [List.length_append,List.length_cons,hkl,hvl];omega
 have hcut2:∀w,Calls Tryz.prog 239 #[.string A,.string ⟨#[61]⟩] w fun e w'=>e=.returned (.tuple #[.string k,.string v,.bool true])∧∃n,w'=w.drewN n:=by
  intro w
  have hka:k.size < A.size:=by omega
  have g1:A[k.size]=61:=by
   have e:A.data.toList[k.size]? =some 61:=by
    rw [hAl,List.getElem?_append_right (by omega)];simp [hkl]
   have e2:A.data.toList[k.size]? =some A[k.size]:=by
    rw [List.getElem?_eq_getElem (by simpa using hka)]
    rfl
   rw [e2] at e
   injection e
  have g2:∀j (hj:j < k.size),A[j]'(by omega)≠61:=by
   intro j hj he
   have e2:A.data.toList[j]? =some (A[j]'(by omega)):=by
    rw [List.getElem?_eq_getElem (by simp;omega)]
    rfl
   rw [hAl,List.getElem?_append_left (by omega),he] at e2
   exact has_false.1 h.eq (List.mem_of_getElem? e2)
  have:=zzCut_found A 61 k.size w (by omega) hka g1 g2
  have e1:A.extract 0 k.size=k:=by
   apply ba_ext
   rw [extract_list,hAl]
   simp only [List.drop_zero,Nat.sub_zero]
   rw [List.take_left' hkl]
  have e2:A.extract (k.size+1) A.size=v:=by
   apply ba_ext
   have:k.data.toList++61::v.data.toList=(k.data.toList++ [61])++v.data.toList:=by simp
   rw [extract_list,hAl,this,List.drop_left' (by rw [List.length_append,hkl];rfl),List.take_of_length_le (by rw [hAs];omega)]
  rw [e1,e2] at this
  exact this
 have hpi:∀w,Calls Tryz.prog 208 #[.string (decS n),.int .i64 10,.int .i64 0] w fun e w'=>e=.returned (.tuple #[.int .i64 n,.nilIface])∧Chg [] w w':=fun w=>
  parseInt0_any (decS n) (by rw [decS_size];omega) n (parseInt_dec n (by omega)) w
 have hvo:=valid_ok k v
 have hds:((decS n).size:Int)=(q:Int):=by rw [decS_size,hq]
 have hnm:(n:Int) - ((q:Int)+1)=(m:Int):=by omega
 have hqp:=Lib.nDigits_pos n
 have a1:(5:Int)≤n:=by omega
 have a2:(n:Int)≤s.size:=by omega
 have a3:(2:Int)≤m:=by omega
 have a4:(m:Int)≤R.size:=by omega
 have HC:=Lib.hid hcut;have HC2:=Lib.hid hcut2;have HP:=Lib.hid hpi;have HV:=Lib.hid (fun w=>hvo w h)
 clear hcut hcut2 hpi hvo hs hsl hsq hsj hR hRl hAl hAs hkl hvl hq hm hnd hfix h hle hqp
 have HH:=Lib.hid hA
 clear hA hRs
 go_enter Tryz.func206,Tryz.ntmps206
 go_wp2_with (first
  | (go_at_call 239;((with_reducible refine (HC.out _).mono ?_);rintro e w1 ⟨rfl,n1,rfl⟩))
  | (go_at_call 208;refine (HP.out _).mono ?_;rintro e w2 ⟨rfl,hc2⟩))
 have k1:=fun w=>sl_to R (m - 1) (by omega) w
 have k2:=fun w=>sl_mid R (m - 1) m (by omega) (by omega) w
 have k3:=fun w=>sl_from R m (by omega) w
 have HN:=Lib.hid hN;have HT:=Lib.hid hT
 clear hN hT
 have hmm:IntKind.i64.wrap ((m:Int) - 1)=((m - 1:Nat):Int):=by rw [IntWalk.i64_in _ (by omega)];omega
 have hmm2:(m:Int) - 1=((m - 1:Nat):Int):=by omega
 have b1:(0:Int)≤((m - 1:Nat):Int):=by omega
 have b2:((m - 1:Nat):Int)≤(R.size:Int):=by omega
 have b3:((m - 1:Nat):Int)≤(m:Int):=by omega
 go_quiet (fail)
 clear k1 k2 k3 hmm hmm2 b1 b2 b3
 have hA':R.extract 0 (m - 1)=A:=HH.out.symm
 have hN:=HN.out
 have hT:=HT.out
 go_wp2_with (first
  | (go_at_call 239;((with_reducible refine (HC2.out _).mono ?_);rintro e w3 ⟨rfl,n2,rfl⟩))
  | (go_at_call 126;refine (HV.out _).mono ?_;rintro e w4 ⟨rfl,rfl⟩))
 refine bodyPost_ret (results_tmp4 rfl _ _ _) rfl ?_
 exact ⟨rfl,((Chg.drewNof n1).trans hc2).drewN _⟩
theorem itoa_pos {s:Int} (h:¬s < 0):Lib.itoa s=Lib.decDigits s.toNat:=by unfold Lib.itoa;rw [if_neg h]
theorem trim0_last (l:List UInt8):(trim0 l)[(trim0 l).length - 1]? ≠some 48:=by
 unfold trim0
 have h4:=List.head?_dropWhile_not (fun c:UInt8=>c == 48) l.reverse
 cases hx:l.reverse.dropWhile (· == 48) with
 | nil=>simp
 | cons a r=>
  rw [hx] at h4
  simp at h4
  rw [List.length_reverse,List.getElem?_reverse (by simp)]
  simp
  exact h4
theorem trimS_of (p:ByteArray) (ns:Nat) (h0:0 < ns) (hn:ns < 1000000000) (w:World) (hp:p.size≤100) :
  Calls Tryz.prog 170 #[.string (p++⟨(nine ns).toArray⟩),.string ⟨#[48]⟩] w fun e w'=>e=.returned (.string ⟨(p.data.toList++trim0 (nine ns)).toArray⟩)∧∃k,w'=w.drewN k:=by
 have hne:=trim0_ne (nine ns) (allDig_nine ns) (by rw [decVal_nine];omega)
 have hlen:=nine_length hn
 have hpad:=trim0_pad (nine ns)
 have hle:=trim0_le (nine ns)
 have hlast:=trim0_last (nine ns)
 obtain ⟨X,hX⟩:∃X,X=p++(⟨(nine ns).toArray⟩:ByteArray):=⟨_,rfl⟩
 rw [←hX]
 have hsl:X.data.toList=p.data.toList++nine ns:=by rw [hX];simp
 have hpl:p.data.toList.length=p.size:=(Lib.size_eq p).symm
 have hss:X.size=p.size+9:=by rw [Lib.size_eq,hsl];simp only [List.length_append,hlen,hpl]
 generalize trim0 (nine ns)=T at hne hpad hle hlast⊢
 rw [←hpad] at hsl
 rw [hlen] at hle hsl
 clear hpad hlen hX
 have hTl:0 < T.length:=List.length_pos_iff.2 hne
 have get:∀j (hj:j < X.size),(p.data.toList++(T++List.replicate (9 - T.length) 48))[j]? =some X[j]:=by
  intro j hj
  rw [←hsl,List.getElem?_eq_getElem (by rw [←Lib.size_eq];exact hj)]
  rfl
 have hz:=zzTrim_any X 48 (p.size+T.length) w (by omega) (by omega) (by
  intro j hj h1
  have:=get j hj
  rw [List.getElem?_append_right (by omega),List.getElem?_append_right (by omega),List.getElem?_replicate,if_pos (by omega)] at this
  injection this with this
  exact this.symm) (by
  intro h1 he
  have:=get (p.size+T.length - 1) (by omega)
  rw [he,List.getElem?_append_right (by omega),List.getElem?_append_left (by omega)] at this
  have e:p.size+T.length - 1 - p.data.toList.length=T.length - 1:=by omega
  rw [e] at this
  exact hlast this)
 have e:X.extract 0 (p.size+T.length)=⟨(p.data.toList++T).toArray⟩:=by
  apply ba_ext
  rw [extract_list,hsl]
  simp only [List.drop_zero,Nat.sub_zero]
  rw [←List.append_assoc,List.take_left' (by simp [hpl])]
 rw [e] at hz
 exact hz
end Go.Proofs.YtkanmkcojlefbaaGreatDoor
namespace Go.Proofs.YtkanmkcojlefbaaGreatDoor
open Go.RowKit
theorem trim_ex (s:ByteArray) (c:UInt8):∀n,n≤s.size→(∀j (h:j < s.size),n≤j→s[j]=c)→∃m,∃hm:m≤s.size,(∀j (h:j < s.size),m≤j→s[j]=c)∧(∀h:0 < m,s[m - 1]'(by omega)≠c)
 | 0,h,h1=>⟨0,by omega,h1,fun h=>by omega⟩
 | n+1,h,h1=>by
  by_cases e:s[n]'(by omega)=c
  ·refine trim_ex s c n (by omega) (fun j hj hn=> ?_)
   by_cases hjn:j=n
   ·subst hjn;exact e
   ·exact h1 j hj (by omega)
  ·exact ⟨n+1,h,h1,fun _=>e⟩
set_option maxRecDepth 100000 in
set_option maxHeartbeats 2000000 in
theorem fmtStr_long (f:Nat) (v:Value) (e3:Addr) (t:Nat) (T:TypeId) (pre post:List Value) (L:List UInt8) (k o n cap:Nat) (s:ByteArray) (w:World) (h:BlkIn t T pre L post w) (hk:pre.length=k) (ho:o+n≤L.length)
  (hs:n < s.size) (hsz:s.size≤140737488355328) (hn:n≤1000) (hn1:1≤n) (hF:FAt f v w) (hft:f≠t) (h3:Sent w 3 e3) :
  Calls Tryz.prog 129 #[.pointer (some ⟨f,0,none⟩),.slice (some ⟨t,k+o,none⟩) n cap,.string s] w fun e w'=>e=.returned (.tuple #[])∧(∃x,x.length=n∧(∀c∈x,c∈s.data.toList∨c=0)∧BlkIn t T pre (splice L o x) post w')∧FAt f (.iface 245 (.pointer (some e3))) w'∧Chg [t,f] w w':=by
 have cf:w.cell? ⟨f,0,none⟩=some v:=by rw [cell_heap hF];rfl
 have ff:w.frozen? ⟨f,0,none⟩=false:=frozen_heap hF 0
 have hFw:FAt f (.iface 245 (.pointer (some e3))) (w.setCell ⟨f,0,none⟩ (.iface 245 (.pointer (some e3)))):=hF.set
 have hCw:Chg [t,f] w (w.setCell ⟨f,0,none⟩ (.iface 245 (.pointer (some e3)))):=(Chg.refl _ w).setCell (.inl (by simp)) _
 have hB0:BlkIn t T pre L post (w.setCell ⟨f,0,none⟩ (.iface 245 (.pointer (some e3)))):=h.chg ((Chg.refl [f] w).setCell (.inl (by simp)) _) (by simp;exact fun e=>hft e.symm)
 have h3c:w.cell? ⟨3,0,none⟩=some (.iface 245 (.pointer (some e3))):=h3
 have hcp:=copy_str (w.setCell ⟨f,0,none⟩ (.iface 245 (.pointer (some e3)))) 3 t (k+o) n cap s _ T hB0 (by simp;omega)
 generalize hw0:w.setCell ⟨f,0,none⟩ (.iface 245 (.pointer (some e3)))=w0 at hFw hCw hB0 hcp
 have h1:=hB0.put k o (s.data.toList.take n) hk (by simp;omega)
 have hc1:Chg [t] w0 (w0.setRow t (splice (pre++bvs L++post) (k+o) (bvs (s.data.toList.take n))).toArray):=(Chg.refl [t] w0).setRow (.inl (by simp)) _
 have hmin:min s.size n=n:=by omega
 have hg1:min (s.size:Int) (n:Int)=(n:Int):=by omega
 have hgi:goInt (min (s.size:Int) (n:Int))=.int .i64 n:=by rw [hg1];rfl
 rw [hgi] at hcp
 have hl2:((pre++bvs L++post).toArray.toList)=pre++bvs L++post:=rfl
 generalize w0.setRow t (splice (pre++bvs L++post) (k+o) (bvs (s.data.toList.take n))).toArray=w1 at h1 hc1 hcp
 have htl:(s.data.toList.take n).length=n:=by rw [List.length_take];simp;omega
 obtain ⟨cl,hsn⟩:∃cl,s.data.toList[n - 1]? =some cl:=⟨_,List.getElem?_eq_getElem (by rw [←Lib.size_eq];omega)⟩
 have hlen:(splice L o (s.data.toList.take n)).length=L.length:=splice_length _ _ _ (by omega)
 have cd:w1.cell? ⟨t,k+o+(n - 1),none⟩=some (bv cl):=by
  rw [Nat.add_assoc,h1.cell k (o+(n - 1)) hk (by omega),splice_get _ _ _ (by omega),if_pos (by omega),show o+(n - 1) - o=n - 1 by omega,List.getElem?_take,if_pos (by omega),hsn]
  rfl
 have hF1:FAt f (.iface 245 (.pointer (some e3))) w1:=hFw.chg hc1 (by simp;exact hft)
 have hC1:Chg [t,f] w w1:=hCw.trans (hc1.mono (by simp))
 obtain ⟨X,hX⟩:∃X,X=s.extract 0 (n - 1):=⟨_,rfl⟩
 have hXs:X.size=n - 1:=by rw [hX];simp;omega
 obtain ⟨m,hm,ht1,ht2⟩:=trim_ex X 47 X.size (Nat.le_refl _) (fun j hj h=>by omega)
 have htr:=fun w=>zzTrim_any X 47 m w (by omega) hm ht1 ht2
 have hXm:(X.extract 0 m).size=m:=by simp;omega
 have hn2:(n:Int) - 1=((n - 1:Nat):Int):=by omega
 have hlt1:¬s.size < n:=by omega
 have hx':s.extract 0 (n - 1)=X:=hX.symm
 have fd:∀i,w1.frozen? ⟨t,i,none⟩=false:=fun i=>h1.frozen i
 obtain ⟨c0,hc0⟩:∃c0,(splice L o (s.data.toList.take n))[o+m]? =some c0:=⟨_,List.getElem?_eq_getElem (by omega)⟩
 have cm:w1.cell? ⟨t,k+o+m,none⟩=some (bv c0):=by rw [Nat.add_assoc,h1.cell k (o+m) hk (by omega),hc0];rfl
 have fm:=fd (k+o+m)
 have HTL:=Lib.hid htl;have H1:=Lib.hid h1;have HF1:=Lib.hid hF1;have HC1:=Lib.hid hC1;have HT:=Lib.hid htr;have HHL:=Lib.hid hlen;have HM:=Lib.hid hm;have HXS:=Lib.hid hXs
 have hmn:m < n:=by omega
 clear h hF h3 hFw hCw hB0 h1 hc1 htl hsn hlen hF1 hC1 hX hXs hm ht1 ht2 htr fd hc0 hgi hl2 hmin hg1
 have hfin:∀x:List UInt8,x.length=n→(∀c∈x,c∈s.data.toList∨c=0)→True:=fun _ _ _=>trivial
 have htake:∀c∈s.data.toList.take n,c∈s.data.toList∨c=0:=fun c hc=>.inl (List.mem_of_mem_take hc)
 have HTK:=Lib.hid htake
 clear hfin htake
 by_cases h47:cl=47
 ·have ht:((cl.toNat:Int) == 47)=true:=by rw [h47];rfl
  clear h47
  go_enter Tryz.func129,Tryz.ntmps129
  go_wp2_with (go_at_call 170;refine (HT.out _).mono ?_;rintro e w2 ⟨rfl,n2,rfl⟩)
  go_end0
  have hb:BlkIn t T pre ((splice L o (s.data.toList.take n)).set (o+m) 0) post (((w1.drewN n2)).setCell ⟨t,k+(o+m),none⟩ (bv 0)):=(show BlkIn t T pre _ post (w1.drewN n2) from H1.out).set k (o+m) 0 hk (by rw [HHL.out];omega)
  rw [splice_set _ _ _ _ _ (by rw [HTL.out];exact hmn) (by rw [HTL.out];exact ho),←Nat.add_assoc] at hb
  refine ⟨rfl,⟨_,by rw [List.length_set];exact HTL.out,fun c hc=> ?_,hb⟩,(show FAt f _ (w1.drewN n2) from HF1.out).chg ((Chg.refl [t] _).setCell (.inl (by simp)) _) (by simp;exact hft),(HC1.out.drewN n2).setCell (.inl (by simp)) _⟩
  rcases List.mem_or_eq_of_mem_set hc with h | h
  ·exact HTK.out c h
  ·exact .inr h
 ·have ht:((cl.toNat:Int) == 47)=false:=by
   simp only [beq_eq_false_iff_ne,ne_eq]
   intro e
   exact h47 (UInt8.toNat_inj.1 (by show _=47;omega))
  clear h47
  go_enter Tryz.func129,Tryz.ntmps129
  go_wp2
  go_end0
  exact ⟨rfl,⟨_,HTL.out,HTK.out,H1.out⟩,HF1.out,HC1.out⟩
def Fits (n:Nat) (s:ByteArray) (x:List UInt8):Prop:=x.length=n∧(∀c∈x,c∈s.data.toList∨c=0)∧(s.size≤n→x=txt n s)
theorem txt_mem (n:Nat) (s:ByteArray):∀c∈txt n s,c∈s.data.toList∨c=0:=by
 intro c hc
 unfold txt at hc
 rcases List.mem_append.1 hc with h | h
 ·exact .inl h
 ·exact .inr (List.mem_replicate.1 h).2
theorem fmtStr_any (f:Nat) (v:Value) (e3:Addr) (t:Nat) (T:TypeId) (pre post:List Value) (L:List UInt8) (k o n cap:Nat) (s:ByteArray) (w:World) (h:BlkIn t T pre L post w) (hk:pre.length=k) (ho:o+n≤L.length)
  (hz:∀i,o≤i→i < o+n→L[i]? =some 0) (hsz:s.size≤140737488355328) (hn:n≤1000) (hn1:1≤n) (hF:FAt f v w) (hft:f≠t) (h3:Sent w 3 e3) :
  Calls Tryz.prog 129 #[.pointer (some ⟨f,0,none⟩),.slice (some ⟨t,k+o,none⟩) n cap,.string s] w fun e w'=>e=.returned (.tuple #[])∧(∃x,Fits n s x∧BlkIn t T pre (splice L o x) post w')∧(∃v',FAt f v' w')∧Chg [t,f] w w':=by
 by_cases hs:s.size≤n
 ·refine (fmtStr_fits _ t T pre post L k o n cap s w h hk ho hz hs hn).mono ?_
  rintro e w' ⟨rfl,hb,hc⟩
  exact ⟨rfl,⟨_,⟨txt_length hs,txt_mem n s,fun _=>rfl⟩,hb⟩,⟨v,hF.chg hc (by simp;exact hft)⟩,hc.mono (by simp)⟩
 ·refine (fmtStr_long f v e3 t T pre post L k o n cap s w h hk ho (by omega) hsz hn hn1 hF hft h3).mono ?_
  rintro e w' ⟨rfl,⟨x,hx1,hx2,hb⟩,hf,hc⟩
  exact ⟨rfl,⟨x,⟨hx1,hx2,fun h=>absurd h hs⟩,hb⟩,⟨_,hf⟩,hc⟩
end Go.Proofs.YtkanmkcojlefbaaGreatDoor
namespace Go.Proofs.YtkanmkcojlefbaaGreatDoor
open Go.RowKit
theorem i5:(Tryz.prog.info? 5).map (fun i=>(i.zero,i.size,i.bytes))=some (some (.int .u8 0),1,1):=by kernel_rfl
def OwnB (base:Nat) (v:Value) (l:List UInt8) (w:World):Prop:=w.ownsRow base 5 1 v l.length (bvs l)
theorem OwnB.conv {base:Nat} {v:Value} {l:List UInt8} {w:World} (h:OwnB base v l w):(convert 35 9 v).run Tryz.prog w=.ok (.string ⟨l.toArray⟩) w:=by
 obtain ⟨h1,h2 | ⟨g,cap,cur,rfl,hb,hg,hn,hc,hs,ht⟩⟩:=h
 ·obtain ⟨rfl,hn⟩:=h2
  have:l= []:=List.eq_nil_of_length_eq_zero hn
  subst this
  exact run_convert_bytes_nil (w:=w) 35 5 Tryz.underlying35 Tryz.underlying5 0 0 9 Tryz.underlying9
 ·refine run_convert_bytes_back w 35 9 5 _ cap l Tryz.underlying35 Tryz.underlying5 Tryz.underlying9 (fun j hj=> ?_)
  rw [add_addr,Nat.zero_add,cell_heap hg]
  have e:cur.toList[j]? =(bvs l)[j]? :=by rw [←ht,List.getElem?_take,if_pos (by omega)]
  have e2:cur[j]? =cur.toList[j]? :=by simp
  rw [e2,e,bvs_get,List.getElem?_eq_getElem hj]
  rfl
theorem OwnB.kept {base:Nat} {v:Value} {l:List UInt8} {S:List Nat} {w w':World} (h:OwnB base v l w) (k:Chg S w w') (hs:∀g,v.ownBlock=some g→g∉S):OwnB base v l w':=by
 obtain ⟨h1,h2 | ⟨g,cap,cur,rfl,hb,hg,hn,hc,hs',ht⟩⟩:=h
 ·exact ⟨h1,.inl h2⟩
 ·exact ⟨h1,.inr ⟨g,cap,cur,rfl,hb,k.heap hg (hs g rfl),hn,hc,hs',ht⟩⟩
theorem OwnB.made (w:World) (c:Nat) (hc:c≤maxLen) (base:Nat) (hb:base≤w.heap.size):OwnB base (.slice (some ⟨w.heap.size,0,none⟩) 0 c) [] (w.alloc (.cells (madeCells #[.int .u8 0] c) 5)):=
 ⟨rfl,.inr ⟨_,c,_,rfl,hb,heap_alloc_new _ _,Nat.zero_le _,hc,by simp [size_madeCells],rfl⟩⟩
theorem chg_grownV {w w':World} {v:Value} (hg:w.grownBy w' v.ownBlock) {S:List Nat} (hs:∀g,v.ownBlock=some g→g∈S):Chg S w w':=
 ⟨hg.os,hg.tape,hg.output,hg.size,fun k hk hne=>hg.block k hk (fun e=>hne (hs k e.symm))⟩
theorem iterAt_chg' (w:World) (r:Nat) (s:ByteArray) (q:Nat):Chg [r] w (w.iterAt r s q):=
 ⟨rfl,rfl,rfl,by rw [Lib.iterAt_size];exact Nat.le_refl _,fun i hi hn=>Lib.iterAt_other w r i s q (by simpa using hn)⟩
theorem decode_len (s:ByteArray) (i:Nat) (h:i < s.size):1≤(Utf8.decode s i).2∧i+(Utf8.decode s i).2≤s.size:=by
 rw [Lib.decode_at]
 unfold Lib.decodeN
 repeat' split
 all_goals first | (constructor<;>(simp only;omega)) | skip
def AscOf (s s':ByteArray):Prop:=(∀c∈s'.data.toList,c.toNat < 128)∧s'.size≤s.size∧(ascii s.data.toList=true→s'=s)
theorem ascii_lt {l:List UInt8} (h:ascii l=true):∀c∈l,c.toNat < 128:=by
 intro c hc
 have:=List.all_eq_true.1 h c hc
 simp at this
 exact this.2
set_option maxRecDepth 100000 in
set_option maxHeartbeats 2000000 in
theorem toASCII_any (s:ByteArray) (w:World) (hs:s.size≤140737488355328):Calls Tryz.prog 143 #[.string s] w fun e w'=>(∃s',e=.returned (.string s')∧AscOf s s')∧Chg [] w w':=by
 cases has:ascii s.data.toList with
 | true=>
  go_enter Tryz.func143,Tryz.ntmps143
  go_wp2_with (go_at_call 96;refine (isASCII_any s _).mono ?_;rw [has];rintro e w1 ⟨rfl,hc1⟩)
  go_ret
  exact ⟨⟨s,rfl,ascii_lt has,Nat.le_refl _,fun _=>rfl⟩,hc1⟩
 | false=>
  have hfin:∀s':ByteArray,(∀c∈s'.data.toList,c.toNat < 128)→s'.size≤s.size→AscOf s s':=fun s' h1 h2=>⟨h1,h2,fun h=>by rw [has] at h;cases h⟩
  obtain ⟨i0,hi,hz0,hz1,hz2⟩:=info_parts i5
  have hmk:∀w:World,(Instr.makeSlice 35 (.int .i64 0) (.int .i64 (s.size:Int))).run Tryz.prog w=.ok (.slice (some ⟨w.heap.size,0,none⟩) 0 s.size) (w.alloc (.cells (madeCells #[.int .u8 0] s.size) 5)):=by
   intro w
   have:=run_make (P:=Tryz.prog) (w:=w) 35 5 i0 (.int .u8 0) Tryz.underlying35 hi hz0 .i64 .i64 0 (s.size:Int) (by omega) (by omega) (by rw [hz2];omega) (by omega)
   rw [hz1] at this
   simpa [Value.cells] using this
  have HFin:=Lib.hid hfin;have HAs:=Lib.hid has
  clear hfin
  go_enter Tryz.func143,Tryz.ntmps143
  go_wp2_with (go_at_call 96;refine (isASCII_any s _).mono ?_;rw [has];rintro e w1 ⟨rfl,hc1⟩)
  have hc2:Chg [] w (w1.alloc (.cells (madeCells #[.int .u8 0] s.size) 5)):=hc1.alloc _
  have ho2:OwnB w.heap.size (.slice (some ⟨w1.heap.size,0,none⟩) 0 s.size) [] (w1.alloc (.cells (madeCells #[.int .u8 0] s.size) 5)):=OwnB.made w1 s.size (by unfold maxLen;omega) _ hc1.size
  have hsz2:(w1.alloc (.cells (madeCells #[.int .u8 0] s.size) 5)).heap.size=w1.heap.size+1:=by simp
  generalize w1.alloc (.cells (madeCells #[.int .u8 0] s.size) 5)=W2 at*
  have hit3:(W2.iter s 0).heap[W2.heap.size]? =some (.stringIter s 0):=World.iter_heap _ _ _
  have hc3:Chg [] w (W2.iter s 0):=hc2.alloc _
  have ho3:OwnB w.heap.size (.slice (some ⟨w1.heap.size,0,none⟩) 0 s.size) [] (W2.iter s 0):=ho2.kept ((Chg.refl [] W2).alloc _) (by simp)
  rw [hsz2] at hit3
  have hrw:w.heap.size≤w1.heap.size+1:=by have:=hc1.size;omega
  generalize W2.iter s 0=W3 at*
  generalize hr:w1.heap.size+1=r at*
  have HIT3:=Lib.hid hit3;have HC3:=Lib.hid hc3;have HO3:=Lib.hid ho3
  clear hit3 hc3 ho3 hc2 ho2 hsz2 hc1 hr hmk
  go_loopw [3,5] (fun v _ wr=>∃(pos:Nat) (l:List UInt8),pos≤s.size∧wr.heap[r]? =some (.stringIter s pos)∧Chg [] w wr∧(∀c∈l,c.toNat < 128)∧l.length≤pos∧OwnB w.heap.size v l wr) (fun _ _ wr=>s.size - wr.iterPos r)
  case atStart=>exact ⟨0,[],Nat.zero_le _,HIT3.out,HC3.out,by simp,by simp,HO3.out⟩
  case round=>
   obtain ⟨pos,l,hp,hit,hch,hl1,hl2,hown⟩:=hrel
   have hob:∀g,(Value.ownBlock u3)=some g→g≠r:=by
    intro g hg e
    subst e
    obtain ⟨_,h2 | ⟨g',cap,cur,rfl,_,hg',_⟩⟩:=hown
    ·obtain ⟨rfl,_⟩:=h2;cases hg
    ·have:g'=g:=by simpa [Value.ownBlock] using hg
     subst this
     rw [hit] at hg';cases hg'
   have HIT:=Lib.hid hit;have HCH:=Lib.hid hch;have HL1:=Lib.hid hl1;have HO:=Lib.hid hown;have HOB:=Lib.hid hob
   clear hit hch hl1 hown hob
   have HCI:Hid (∀q,Chg [] w (wr.iterAt r s q)):=fun q=>iterAt_chg HCH.out r hrw s q
   have HIA:Hid (∀q,(wr.iterAt r s q).heap[r]? =some (.stringIter s q)):=fun q=>Lib.iterAt_heap wr r s pos q HIT.out
   have HOI:Hid (∀q,OwnB w.heap.size u3 l (wr.iterAt r s q)):=fun q=>HO.out.kept (iterAt_chg' wr r s q) (fun g hg=>by simp;exact HOB.out g hg)
   have hiter:∀q,(wr.iterAt r s q).iterPos r=q:=fun q=>by have:=HIA.out q;simp only [World.iterPos,this]
   have hiter0:wr.iterPos r=pos:=by have:=HIT.out;simp only [World.iterPos,this]
   have HI1:=Lib.hid hiter;have HI0:=Lib.hid hiter0
   clear hiter hiter0
   by_cases hlt:pos < s.size
   ·by_cases ha:(s[pos]).toNat < 128
    ·have hnx:∀ty,(Instr.next (.pointer (some ⟨r,0,none⟩)) true ty).run Tryz.prog wr=_:=fun ty=>Lib.run_next_ascii_at wr r s pos ty HIT.out hlt ha
     by_cases h0:(s[pos]).toNat=0
     ·rw [h0] at hnx
      go_wp2
      go_roundw
      case rel=>exact ⟨pos+1,l,by omega,HIA.out _,HCI.out _,HL1.out,by omega,HOI.out _⟩
      case measure=>rw [HI1.out,HI0.out];omega
     ·have hz:(((s[pos]).toNat:Int) == 0)=false:=by simp;omega
      have hlo:((s[pos]).toNat:Int) < 128:=by omega
      have hone:∀u∈ [bv (s[pos])],u.oneCell'=true:=by simp [bv,Value.oneCell']
      have h63:l.length+1≤maxLen:=by unfold maxLen;omega
      have hby:(l.length+1)*1≤140737488355328:=by omega
      have hba:w.heap.size≤((wr.iterAt r s (pos+1)).alloc (.cells #[bv (s[pos])] 5)).heap.size:=by have:=(HCI.out (pos+1)).size;simp;omega
      have HOA:=Lib.hid ((show w.heap.size≤_ from hba))
      go_wp2_with (at_builtin;refine wpList_append_own _ rfl _ _ 35 rfl w.heap.size 5 i0 (.int .u8 0) 1 1 Tryz.underlying35 hi hz0 hz1 hz2 rfl (by decide) _ _ _ rfl ((HOI.out (pos+1)).alloc _) ⟨(wr.iterAt r s (pos+1)).heap.size,0,none⟩ 1 1 [bv (s[pos])] rfl rfl (cell_one_new _ _ _) hone h63 hby hba ?_;intro v' w4 hown' hgrow hnil)
      have hS:∀g,u3.ownBlock=some g→g∈u3.ownBlock.toList:=by intro g hg;rw [hg];simp
      have hcg:=chg_grownV hgrow hS
      have hlow:∀g∈u3.ownBlock.toList,g∈([]:List Nat)∨w.heap.size≤g:=by
       intro g hg
       exact .inr (World.ownsRow.lt HO.out g (by simpa using hg)).1
      have hc4:Chg [] w w4:=((HCI.out (pos+1)).alloc _).transFresh hcg hlow
      have hi4:w4.heap[r]? =some (.stringIter s (pos+1)):=hcg.heap ((Below.heap_alloc _ _ _ (Array.getElem?_eq_some_iff.1 (HIA.out (pos+1))).1).trans (HIA.out (pos+1))) (by
       intro hm
       exact HOB.out r (by simpa using hm) rfl)
      have ho4:OwnB w.heap.size v' (l++ [s[pos]]) w4:=by
       unfold OwnB
       rw [List.length_append,bvs_append]
       exact hown'
      have hit4:w4.iterPos r=pos+1:=by simp only [World.iterPos,hi4]
      have hl4:∀c∈l++ [s[pos]],c.toNat < 128:=by
       intro c hc
       rcases List.mem_append.1 hc with h | h
       ·exact HL1.out c h
       ·rw [List.mem_singleton.1 h];exact ha
      have H4:=Lib.hid hc4;have HI4:=Lib.hid hi4;have HO4:=Lib.hid ho4;have HT4:=Lib.hid hit4;have HL4:=Lib.hid hl4
      clear hS hcg hlow hc4 hi4 ho4 hit4 hl4 hown' hgrow hnil hone h63 hby hba
      go_wp2
      go_roundw
      case rel=>exact ⟨pos+1,_,by omega,HI4.out,H4.out,HL4.out,by simp;omega,HO4.out⟩
      case measure=>rw [HT4.out,HI0.out];omega
    ·have hd:=decode_high s pos hlt (by omega)
     obtain ⟨hw1,hw2⟩:=decode_len s pos hlt
     have hnx:∀ty,(Instr.next (.pointer (some ⟨r,0,none⟩)) true ty).run Tryz.prog wr=_:=fun ty=>Lib.run_next_any_at wr r s pos ty HIT.out hlt
     have hge:(128:Int)≤((Utf8.decode s pos).1:Int):=by omega
     clear hd
     generalize Utf8.decode s pos=dd at hnx hge hw1 hw2
     go_wp2
     go_roundw
     case rel=>exact ⟨_,l,hw2,HIA.out _,HCI.out _,HL1.out,by omega,HOI.out _⟩
     case measure=>rw [HI1.out,HI0.out];omega
   ·have hnx:∀ty,(Instr.next (.pointer (some ⟨r,0,none⟩)) true ty).run Tryz.prog wr=_:=fun ty=>Lib.run_next_end_at wr r s pos ty HIT.out hlt
    have hcv:=HO.out.conv
    go_wp2
    go_ret
    exact ⟨⟨_,rfl,HFin.out _ HL1.out (by show l.toArray.size≤_;simp;omega)⟩,HCH.out⟩
end Go.Proofs.YtkanmkcojlefbaaGreatDoor
namespace Go.Proofs.YtkanmkcojlefbaaGreatDoor
open Go.RowKit
theorem octs_dig:∀(n:Nat),OctDig (octs n)
 | n=>by
  by_cases h:n < 8
  ·rw [octs_small h]
   intro c hc
   simp only [List.mem_singleton] at hc
   subst hc
   rw [UInt8.toNat_ofNat']
   omega
  ·rw [octs_big (by omega)]
   intro c hc
   rcases List.mem_append.1 hc with h1 | h1
   ·exact octs_dig (n / 8) c h1
   ·simp only [List.mem_singleton] at h1
    subst h1
    rw [UInt8.toNat_ofNat']
    omega
termination_by n=>n
decreasing_by omega
theorem octs_val:∀(n:Nat),octVal 0 (octs n)=n
 | n=>by
  by_cases h:n < 8
  ·rw [octs_small h,octVal_cons,octVal_nil,UInt8.toNat_ofNat']
   omega
  ·rw [octs_big (by omega),octVal_append,octs_val (n / 8),octVal_cons,octVal_nil,UInt8.toNat_ofNat']
   omega
termination_by n=>n
decreasing_by omega
theorem octVal_zeros:∀k,octVal 0 (List.replicate k 48)=0
 | 0=>rfl
 | k+1=>by rw [List.replicate_succ,octVal_cons];exact octVal_zeros k
theorem octF_txt {n x:Nat} (h:(octs x).length+1≤n) (hx:x < 1099511627776):OctF (txt n (octStr n x)) x:=by
 refine ⟨(octStr n x).data.toList,List.replicate (n - (octStr n x).size) 0,rfl,?_,?_,?_,?_,hx⟩
 ·intro c hc
  rcases List.mem_append.1 (show c∈List.replicate (n - 1 - (octs x).length) 48++octs x from hc) with h1 | h1
  ·rw [(List.mem_replicate.1 h1).2];decide
  ·exact octs_dig x c h1
 ·intro e
  have h1:(octStr n x).size=0:=by rw [Lib.size_eq,e];rfl
  rw [octStr_size h] at h1
  have:=octs_pos x
  omega
 ·intro c hc
  exact .inl (List.mem_replicate.1 hc).2
 ·show octVal 0 (List.replicate (n - 1 - (octs x).length) 48++octs x)=x
  rw [octVal_append,octVal_zeros,octs_val]
theorem octF_ascii {l:List UInt8} {x:Nat} (h:OctF l x):∀c∈l,c.toNat < 128:=by
 obtain ⟨d,tl,rfl,hd,_,ht,_,_⟩:=h
 intro c hc
 rcases List.mem_append.1 hc with h1 | h1
 ·have:=(hd c h1).2;omega
 ·rcases ht c h1 with rfl | rfl<;>decide
def fit8 (n:Nat) (x:Int):Prop:=0≤x∧x < (8:Int) ^ (n - 1)
def fitG (n:Nat) (x:Int):Prop:=-((256:Int) ^ (n - 1))≤x∧x < (256:Int) ^ (n - 1)
def OctOut (n:Nat) (x:Int) (y:List UInt8):Prop:=y.length=n∧(∃z,OctF y z∧(fit8 n x→(z:Int)=x))∧y[n - 1]? =some 0
def NumOut (n:Nat) (x:Int) (y:List UInt8):Prop:=y.length=n∧((0≤x∧OctF y x.toNat)∨y=b256 n x)
def FitsA (n:Nat) (s:ByteArray) (x:List UInt8):Prop:=x.length=n∧(∀c∈x,c.toNat < 128)∧(ascii s.data.toList=true→s.size≤n→x=txt n s)
theorem octStr_last {n x:Nat} (h:(octs x).length+1≤n):(txt n (octStr n x))[n - 1]? =some 0:=by
 rw [txt_get n _ (n - 1) (by rw [octStr_size h];omega) (by omega),if_neg (by rw [octStr_size h];omega)]
theorem octStr_txt_len {n x:Nat} (h:(octs x).length+1≤n):(txt n (octStr n x)).length=n:=txt_length (by rw [octStr_size h];omega)
theorem octal_yes (n:Nat) (hn:n=8∨n=12) (x:Int) (h:fit8 n x) (w:World):Calls Tryz.prog 100 #[.int .i64 n,.int .i64 x] w fun e w'=>e=.returned (.bool true)∧w=w':=by
 rcases hn with rfl | rfl
 ·exact octal8_yes x w h.1 (by have:=h.2;simp at this;omega)
 ·exact octal12_yes x w h.1 (by have:=h.2;simp at this;omega)
theorem octal_no (n:Nat) (hn:n=8∨n=12) (x:Int) (h:¬fit8 n x) (w:World):Calls Tryz.prog 100 #[.int .i64 n,.int .i64 x] w fun e w'=>e=.returned (.bool false)∧w=w':=by
 by_cases h0:x < 0
 ·rcases hn with rfl | rfl
  ·exact octal8_neg x w h0
  ·exact octal12_neg x w h0
 ·rcases hn with rfl | rfl
  ·exact octal8_big x w (by omega) (by unfold fit8 at h;simp at h;omega)
  ·exact octal12_big x w (by omega) (by unfold fit8 at h;simp at h;omega)
theorem fit8_len {n:Nat} (hn:n=8∨n=12) {x:Int} (h:fit8 n x):(octs x.toNat).length+1≤n∧x.toNat < 1099511627776:=by
 rcases hn with rfl | rfl
 ·obtain ⟨h0,h1⟩:=h
  have h1':x < 2097152:=by simpa using h1
  exact ⟨by have:=octs_length 7 x.toNat (by simp;omega) (by omega);omega,by omega⟩
 ·obtain ⟨h0,h1⟩:=h
  have h1':x < 8589934592:=by simpa using h1
  exact ⟨by have:=octs_length 11 x.toNat (by simp;omega) (by omega);omega,by omega⟩
theorem Env.h15 {B:Nat} {sn:Nat→Addr} {kb:Nat} {w:World} (h:Env B sn kb w):w.cell? ⟨15,7,none⟩=some (.int .u8 3):=h.t15
theorem fmtS_us (tw f B:Nat) (sn:Nat→Addr) (kb:Nat) (htf:f≠tw) (hBt:B≤tw) (hBf:B≤f) (pre post:List Value) (L:List UInt8) (k o n cap:Nat) (s:ByteArray) (w:World) (h:BlkIn tw 134 pre L post w) (hk:pre.length=k) (ho:o+n≤L.length)
  (hz:∀i,o≤i→i < o+n→L[i]? =some 0) (hn:n≤1000) (hn1:1≤n) (hE:Env B sn kb w) (hF:FAt f .nilIface w) (hq:s.size≤n) :
  Calls Tryz.prog 129 #[.pointer (some ⟨f,0,none⟩),.slice (some ⟨tw,k+o,none⟩) n cap,.string s] w fun e w'=>e=.returned (.tuple #[])∧(∃x,x=txt n s∧BlkIn tw 134 pre (splice L o x) post w')∧FAt f .nilIface w'∧Chg [tw,f] w w':=by
 refine (fmtStr_fits _ tw 134 pre post L k o n cap s w h hk ho hz hq hn).mono ?_
 rintro e w' ⟨rfl,hb,hc⟩
 exact ⟨rfl,⟨_,rfl,hb⟩,hF.chg hc (by simp;exact htf),hc.mono (by simp)⟩
theorem fmtS_gn (tw f B:Nat) (sn:Nat→Addr) (kb:Nat) (htf:f≠tw) (hBt:B≤tw) (hBf:B≤f) (v:Value) (pre post:List Value) (L:List UInt8) (k o n cap:Nat) (s:ByteArray) (w:World) (h:BlkIn tw 134 pre L post w) (hk:pre.length=k) (ho:o+n≤L.length)
  (hz:∀i,o≤i→i < o+n→L[i]? =some 0) (hn:n≤1000) (hn1:1≤n) (hE:Env B sn kb w) (hF:FAt f v w) (hq:s.size≤140737488355328) :
  Calls Tryz.prog 129 #[.pointer (some ⟨f,0,none⟩),.slice (some ⟨tw,k+o,none⟩) n cap,.string s] w fun e w'=>e=.returned (.tuple #[])∧(∃x,Fits n s x∧BlkIn tw 134 pre (splice L o x) post w')∧(∃v',FAt f v' w')∧Chg [tw,f] w w':=
 fmtStr_any f v (sn 3) tw 134 pre post L k o n cap s w h hk ho hz hq hn hn1 hF htf hE.s3
set_option maxRecDepth 100000 in
theorem fmtS_px (tw f B:Nat) (sn:Nat→Addr) (kb:Nat) (htf:f≠tw) (hBt:B≤tw) (hBf:B≤f) (v:Value) (pre post:List Value) (L:List UInt8) (k o n cap:Nat) (s:ByteArray) (w:World) (h:BlkIn tw 134 pre L post w) (hk:pre.length=k) (ho:o+n≤L.length)
  (hz:∀i,o≤i→i < o+n→L[i]? =some 0) (hn:n≤1000) (hn1:1≤n) (hE:Env B sn kb w) (hF:FAt f v w) (hq:s.size≤140737488355328) :
  Calls Tryz.prog 142 #[.slice (some ⟨tw,k+o,none⟩) n cap,.string s,.pointer (some ⟨f,0,none⟩)] w fun e w'=>e=.returned (.tuple #[])∧(∃x,FitsA n s x∧BlkIn tw 134 pre (splice L o x) post w')∧(∃v',FAt f v' w')∧Chg [tw,f] w w':=by
 have H:=Lib.hid h;have HZ:=Lib.hid hz;have HE:=Lib.hid hE;have HF:=Lib.hid hF
 clear h hz hE hF
 go_enter Tryz.func142,Tryz.ntmps142
 go_wp2_with (first
  | (go_at_call 143;refine (toASCII_any s _ hq).mono ?_;rintro e w1 ⟨⟨s',rfl,hs'⟩,hc1⟩;have HS':=Lib.hid hs';clear hs')
  | (go_at_call 129;refine (fmtS_gn tw f B sn kb htf hBt hBf v pre post L k o n cap s' _ (H.out.chg hc1 (by simp)) hk ho HZ.out hn hn1 (HE.out.chg0 hc1) (HF.out.chg hc1 (by simp)) (Nat.le_trans HS'.out.2.1 hq)).mono ?_;rintro e w2 ⟨rfl,⟨x,hx,hb⟩,hv,hc2⟩))
 go_end0
 refine ⟨rfl,⟨x,⟨hx.1,fun c hc=> ?_,fun h1 h2=> ?_⟩,hb⟩,hv,(hc1.mono (by simp)).trans hc2⟩
 ·rcases hx.2.1 c hc with h1 | rfl
  ·exact HS'.out.1 c h1
  ·decide
 ·have e:=HS'.out.2.2 h1
  subst e
  exact hx.2.2 h2
theorem fmtN_us (tw f B:Nat) (sn:Nat→Addr) (kb:Nat) (htf:f≠tw) (hBt:B≤tw) (hBf:B≤f) (pre post:List Value) (L:List UInt8) (k o n cap:Nat) (x:Int) (w:World) (h:BlkIn tw 134 pre L post w) (hk:pre.length=k) (ho:o+n≤L.length)
  (hz:∀i,o≤i→i < o+n→L[i]? =some 0) (hn:n=8∨n=12) (hE:Env B sn kb w) (hF:FAt f .nilIface w) (hq:fit8 n x) :
  Calls Tryz.prog 130 #[.pointer (some ⟨f,0,none⟩),.slice (some ⟨tw,k+o,none⟩) n cap,.int .i64 x] w fun e w'=>e=.returned (.tuple #[])∧(∃y,OctOut n x y∧BlkIn tw 134 pre (splice L o y) post w')∧FAt f .nilIface w'∧Chg [tw,f] w w':=by
 obtain ⟨hl,hlt⟩:=fit8_len hn hq
 have hx:(x.toNat:Int)=x:=by have:=hq.1;omega
 have:=fmtOct_fits (.pointer (some ⟨f,0,none⟩)) tw 134 pre post L k o n cap x.toNat w h hk ho hz (by omega) hl (by omega) (by rw [hx];exact octal_yes n hn x hq w) hE.h15
 rw [hx] at this
 refine this.mono ?_
 rintro e w' ⟨rfl,hb,hc⟩
 exact ⟨rfl,⟨_,⟨octStr_txt_len hl,⟨_,octF_txt hl hlt,fun _=>hx⟩,octStr_last hl⟩,hb⟩,hF.chg hc (by simp;exact htf),hc.mono (by simp)⟩
theorem fmtN_px (tw f B:Nat) (sn:Nat→Addr) (kb:Nat) (htf:f≠tw) (hBt:B≤tw) (hBf:B≤f) (v:Value) (pre post:List Value) (L:List UInt8) (k o n cap:Nat) (x:Int) (w:World) (h:BlkIn tw 134 pre L post w) (hk:pre.length=k) (ho:o+n≤L.length)
  (hz:∀i,o≤i→i < o+n→L[i]? =some 0) (hn:n=8∨n=12) (hE:Env B sn kb w) (hF:FAt f v w) (hq:True) :
  Calls Tryz.prog 130 #[.pointer (some ⟨f,0,none⟩),.slice (some ⟨tw,k+o,none⟩) n cap,.int .i64 x] w fun e w'=>e=.returned (.tuple #[])∧(∃y,OctOut n x y∧BlkIn tw 134 pre (splice L o y) post w')∧(∃v',FAt f v' w')∧Chg [tw,f] w w':=by
 by_cases hq:fit8 n x
 ·obtain ⟨hl,hlt⟩:=fit8_len hn hq
  have hx:(x.toNat:Int)=x:=by have:=hq.1;omega
  have:=fmtOct_fits (.pointer (some ⟨f,0,none⟩)) tw 134 pre post L k o n cap x.toNat w h hk ho hz (by omega) hl (by omega) (by rw [hx];exact octal_yes n hn x hq w) hE.h15
  rw [hx] at this
  refine this.mono ?_
  rintro e w' ⟨rfl,hb,hc⟩
  exact ⟨rfl,⟨_,⟨octStr_txt_len hl,⟨_,octF_txt hl hlt,fun _=>hx⟩,octStr_last hl⟩,hb⟩,⟨v,hF.chg hc (by simp;exact htf)⟩,hc.mono (by simp)⟩
 ·have hb22:=hE.b22
  refine (fmtOct_big f v (sn 3) tw 134 pre post L k o n cap x w h hk ho hz (by omega) (by omega) hF htf hE.s3 (by omega) (octal_no n hn x hq w) hE.h15).mono ?_
  rintro e w' ⟨rfl,hb,hf,hc⟩
  have hl:(octs 0).length+1≤n:=by rw [octs0];simp;omega
  exact ⟨rfl,⟨_,⟨octStr_txt_len hl,⟨_,octF_txt hl (by decide),fun h=>absurd h hq⟩,octStr_last hl⟩,hb⟩,⟨_,hf⟩,hc⟩
end Go.Proofs.YtkanmkcojlefbaaGreatDoor
namespace Go.Proofs.YtkanmkcojlefbaaGreatDoor
open Go.RowKit
theorem v7_name (t k:Nat) (w:World):Calls Tryz.prog 109 #[.pointer (some ⟨t,k,none⟩)] w fun e w'=>e=.returned (.slice (some ⟨t,k+0,none⟩) 100 512)∧w=w':=by
 go_enter Tryz.func109,Tryz.ntmps109
 go_wp2
 go_ret
 exact ⟨rfl,rfl⟩
theorem v7_linkName (t k:Nat) (w:World):Calls Tryz.prog 110 #[.pointer (some ⟨t,k,none⟩)] w fun e w'=>e=.returned (.slice (some ⟨t,k+157,none⟩) 100 355)∧w=w':=by
 go_enter Tryz.func110,Tryz.ntmps110
 go_wp2
 go_ret
 exact ⟨rfl,rfl⟩
theorem v7_mode (t k:Nat) (w:World):Calls Tryz.prog 113 #[.pointer (some ⟨t,k,none⟩)] w fun e w'=>e=.returned (.slice (some ⟨t,k+100,none⟩) 8 412)∧w=w':=by
 go_enter Tryz.func113,Tryz.ntmps113
 go_wp2
 go_ret
 exact ⟨rfl,rfl⟩
theorem v7_uid (t k:Nat) (w:World):Calls Tryz.prog 114 #[.pointer (some ⟨t,k,none⟩)] w fun e w'=>e=.returned (.slice (some ⟨t,k+108,none⟩) 8 404)∧w=w':=by
 go_enter Tryz.func114,Tryz.ntmps114
 go_wp2
 go_ret
 exact ⟨rfl,rfl⟩
theorem v7_gid (t k:Nat) (w:World):Calls Tryz.prog 115 #[.pointer (some ⟨t,k,none⟩)] w fun e w'=>e=.returned (.slice (some ⟨t,k+116,none⟩) 8 396)∧w=w':=by
 go_enter Tryz.func115,Tryz.ntmps115
 go_wp2
 go_ret
 exact ⟨rfl,rfl⟩
theorem v7_size (t k:Nat) (w:World):Calls Tryz.prog 116 #[.pointer (some ⟨t,k,none⟩)] w fun e w'=>e=.returned (.slice (some ⟨t,k+124,none⟩) 12 388)∧w=w':=by
 go_enter Tryz.func116,Tryz.ntmps116
 go_wp2
 go_ret
 exact ⟨rfl,rfl⟩
theorem v7_modTime (t k:Nat) (w:World):Calls Tryz.prog 119 #[.pointer (some ⟨t,k,none⟩)] w fun e w'=>e=.returned (.slice (some ⟨t,k+136,none⟩) 12 376)∧w=w':=by
 go_enter Tryz.func119,Tryz.ntmps119
 go_wp2
 go_ret
 exact ⟨rfl,rfl⟩
theorem v7_typeFlag (t k:Nat) (w:World):Calls Tryz.prog 174 #[.pointer (some ⟨t,k,none⟩)] w fun e w'=>e=.returned (.slice (some ⟨t,k+156,none⟩) 1 356)∧w=w':=by
 go_enter Tryz.func174,Tryz.ntmps174
 go_wp2
 go_ret
 exact ⟨rfl,rfl⟩
theorem v7_chksum (t k:Nat) (w:World):Calls Tryz.prog 184 #[.pointer (some ⟨t,k,none⟩)] w fun e w'=>e=.returned (.slice (some ⟨t,k+148,none⟩) 8 364)∧w=w':=by
 go_enter Tryz.func184,Tryz.ntmps184
 go_wp2
 go_ret
 exact ⟨rfl,rfl⟩
theorem us_userName (t k:Nat) (w:World):Calls Tryz.prog 111 #[.pointer (some ⟨t,k,none⟩)] w fun e w'=>e=.returned (.slice (some ⟨t,k+265,none⟩) 32 247)∧w=w':=by
 go_enter Tryz.func111,Tryz.ntmps111
 go_wp2
 go_ret
 exact ⟨rfl,rfl⟩
theorem us_groupName (t k:Nat) (w:World):Calls Tryz.prog 112 #[.pointer (some ⟨t,k,none⟩)] w fun e w'=>e=.returned (.slice (some ⟨t,k+297,none⟩) 32 215)∧w=w':=by
 go_enter Tryz.func112,Tryz.ntmps112
 go_wp2
 go_ret
 exact ⟨rfl,rfl⟩
theorem us_devMajor (t k:Nat) (w:World):Calls Tryz.prog 117 #[.pointer (some ⟨t,k,none⟩)] w fun e w'=>e=.returned (.slice (some ⟨t,k+329,none⟩) 8 183)∧w=w':=by
 go_enter Tryz.func117,Tryz.ntmps117
 go_wp2
 go_ret
 exact ⟨rfl,rfl⟩
theorem us_devMinor (t k:Nat) (w:World):Calls Tryz.prog 118 #[.pointer (some ⟨t,k,none⟩)] w fun e w'=>e=.returned (.slice (some ⟨t,k+337,none⟩) 8 175)∧w=w':=by
 go_enter Tryz.func118,Tryz.ntmps118
 go_wp2
 go_ret
 exact ⟨rfl,rfl⟩
theorem us_prefix (t k:Nat) (w:World):Calls Tryz.prog 131 #[.pointer (some ⟨t,k,none⟩)] w fun e w'=>e=.returned (.slice (some ⟨t,k+345,none⟩) 155 167)∧w=w':=by
 go_enter Tryz.func131,Tryz.ntmps131
 go_wp2
 go_ret
 exact ⟨rfl,rfl⟩
theorem us_magic (t k:Nat) (w:World):Calls Tryz.prog 182 #[.pointer (some ⟨t,k,none⟩)] w fun e w'=>e=.returned (.slice (some ⟨t,k+257,none⟩) 6 255)∧w=w':=by
 go_enter Tryz.func182,Tryz.ntmps182
 go_wp2
 go_ret
 exact ⟨rfl,rfl⟩
theorem us_version (t k:Nat) (w:World):Calls Tryz.prog 183 #[.pointer (some ⟨t,k,none⟩)] w fun e w'=>e=.returned (.slice (some ⟨t,k+263,none⟩) 2 249)∧w=w':=by
 go_enter Tryz.func183,Tryz.ntmps183
 go_wp2
 go_ret
 exact ⟨rfl,rfl⟩
theorem gnu_accessTime (t k:Nat) (w:World):Calls Tryz.prog 120 #[.pointer (some ⟨t,k,none⟩)] w fun e w'=>e=.returned (.slice (some ⟨t,k+345,none⟩) 12 167)∧w=w':=by
 go_enter Tryz.func120,Tryz.ntmps120
 go_wp2
 go_ret
 exact ⟨rfl,rfl⟩
theorem gnu_changeTime (t k:Nat) (w:World):Calls Tryz.prog 121 #[.pointer (some ⟨t,k,none⟩)] w fun e w'=>e=.returned (.slice (some ⟨t,k+357,none⟩) 12 155)∧w=w':=by
 go_enter Tryz.func121,Tryz.ntmps121
 go_wp2
 go_ret
 exact ⟨rfl,rfl⟩
theorem gnu_magic (t k:Nat) (w:World):Calls Tryz.prog 176 #[.pointer (some ⟨t,k,none⟩)] w fun e w'=>e=.returned (.slice (some ⟨t,k+257,none⟩) 6 255)∧w=w':=by
 go_enter Tryz.func176,Tryz.ntmps176
 go_wp2
 go_ret
 exact ⟨rfl,rfl⟩
theorem gnu_version (t k:Nat) (w:World):Calls Tryz.prog 177 #[.pointer (some ⟨t,k,none⟩)] w fun e w'=>e=.returned (.slice (some ⟨t,k+263,none⟩) 2 249)∧w=w':=by
 go_enter Tryz.func177,Tryz.ntmps177
 go_wp2
 go_ret
 exact ⟨rfl,rfl⟩
theorem star_trailer (t k:Nat) (w:World):Calls Tryz.prog 181 #[.pointer (some ⟨t,k,none⟩)] w fun e w'=>e=.returned (.slice (some ⟨t,k+508,none⟩) 4 4)∧w=w':=by
 go_enter Tryz.func181,Tryz.ntmps181
 go_wp2
 go_ret
 exact ⟨rfl,rfl⟩
theorem toV7 (t k:Nat) (w:World):Calls Tryz.prog 106 #[.pointer (some ⟨t,k,none⟩)] w fun e w'=>e=.returned (.pointer (some ⟨t,k,none⟩))∧w=w':=by
 go_enter Tryz.func106,Tryz.ntmps106
 go_wp2
 go_ret
 exact ⟨rfl,rfl⟩
theorem toUSTAR (t k:Nat) (w:World):Calls Tryz.prog 107 #[.pointer (some ⟨t,k,none⟩)] w fun e w'=>e=.returned (.pointer (some ⟨t,k,none⟩))∧w=w':=by
 go_enter Tryz.func107,Tryz.ntmps107
 go_wp2
 go_ret
 exact ⟨rfl,rfl⟩
theorem toGNU (t k:Nat) (w:World):Calls Tryz.prog 108 #[.pointer (some ⟨t,k,none⟩)] w fun e w'=>e=.returned (.pointer (some ⟨t,k,none⟩))∧w=w':=by
 go_enter Tryz.func108,Tryz.ntmps108
 go_wp2
 go_ret
 exact ⟨rfl,rfl⟩
theorem toSTAR (t k:Nat) (w:World):Calls Tryz.prog 178 #[.pointer (some ⟨t,k,none⟩)] w fun e w'=>e=.returned (.pointer (some ⟨t,k,none⟩))∧w=w':=by
 go_enter Tryz.func178,Tryz.ntmps178
 go_wp2
 go_ret
 exact ⟨rfl,rfl⟩
end Go.Proofs.YtkanmkcojlefbaaGreatDoor
