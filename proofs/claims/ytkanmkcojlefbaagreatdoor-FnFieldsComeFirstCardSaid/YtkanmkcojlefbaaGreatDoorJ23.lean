/-
  allowedFormats: verifyString (93) · allowedFormats: verifyTime (102) · allowedFormats (65): its thirteen fields (printed by genafm.py) · The records of a header beside those of its fields.
-/
import Derived.Test.YtkanmkcojlefbaaGreatDoorJ22
import Derived.Test.YtkanmkcojlefbaaGreatDoorJ06
import Derived.Test.YtkanmkcojlefbaaGreatDoorJ16
import Derived.Test.YtkanmkcojlefbaaGreatDoorJ09
import Derived.Deep.CutBlock
set_option linter.unusedVariables false
namespace Go.Proofs.YtkanmkcojlefbaaGreatDoor
open Go.RowKit
def strF1 (key x:ByteArray) (b:Bool) (F:KV):KV:=if b=true then KV.set F key x else F
def strF2 (key x:ByteArray) (R F:KV):KV:=if R key=some x then KV.set F key x else F
theorem AFW.usNo' {s n:Nat} {th:TH} {R F:KV} {u p g pf:Bool} {w0 w w1:World} {y:ByteArray} (h:AFW s th R w0 u p g pf F n w) (e:w1=(w.setCell ⟨s+4,0,none⟩ (.string y)).setCell ⟨s+1,0,none⟩ (.int .i64 (fm false p g))):AFW s th R w0 false p g pf F n w1:=by
 subst e;exact h.usNo
theorem AFW.cast {s n:Nat} {th:TH} {R F F':KV} {u p g pf u' p' g' pf':Bool} {w0 w:World} (h:AFW s th R w0 u p g pf F n w) (hu:u=u') (hp:p=p') (hg:g=g') (hpf:pf=pf') (hF:F=F'):AFW s th R w0 u' p' g' pf' F' n w:=by
 subst hu hp hg hpf hF;exact h
set_option maxRecDepth 100000 in
set_option maxHeartbeats 4000000 in
theorem str_any (B:Nat) (sn:Nat→Addr) (kb s n:Nat) (th:TH) (R F:KV) (u p g pf:Bool) (x:ByteArray) (sz:Nat) (name key:ByteArray) (w0 w:World) (h:AFW s th R w0 u p g pf F n w) (hxm:x.size≤140737488355328) (hsz:sz≤256)
  (hkm:key.size≤maxLen) (hnm:name.size≤100) (hn:n+2 < maxLen) (hnul:has x.data.toList 0=false) (hke:key.toList.isEmpty=false) (tl ac kp kl sp:Bool) (a b:ByteArray) (htl:decide (sz < x.size)=tl) (has':ascii x.data.toList=ac)
  (hkp:(key.toList == [112,97,116,104])=kp) (hkl:(key.toList == [108,105,110,107,112,97,116,104])=kl) (hsp:SplitAs x a b sp) :
  Calls Tryz.prog 93 #[.string x,.int .i64 sz,.string name,.string key,.pointer (some ⟨s+6,0,none⟩),.pointer (some ⟨s+1,0,none⟩),.pointer (some ⟨s+4,0,none⟩),.pointer (some ⟨s+5,0,none⟩),.pointer (some ⟨s+2,0,none⟩),.pointer (some ⟨s,0,none⟩)] w fun e w'=>e=.returned (.tuple #[])∧
   AFW s th R w0 (u && !((!ac || tl) && !(kp && sp))) p (g && !(tl && !(kp || kl))) pf (strF2 key x R (strF1 key x (!ac || tl) F)) (n+2) w':=by
 have H0:=Lib.hid h;have HN:=Lib.hid hn;have HKM:=Lib.hid hkm;have HNU:=Lib.hid hnul;have HAS:=Lib.hid has';have HKP:=Lib.hid hkp;have HKL:=Lib.hid hkl;have HSP:=Lib.hid hsp
 have hke':¬key.toList= []:=by intro e;rw [e] at hke;cases hke
 have HTL:(tl=true∧(sz:Int) < x.size)∨(tl=false∧¬(sz:Int) < x.size):=by
  cases tl
  ·exact .inr ⟨rfl,by have:=of_decide_eq_false htl;omega⟩
  ·exact .inl ⟨rfl,by have:=of_decide_eq_true htl;omega⟩
 clear h hn hkm hnul has' hkp hkl hsp htl
 rcases HTL with ⟨htl,hlt⟩ | ⟨htl,hlt⟩
 all_goals
  have HT:=Lib.hid htl
  clear htl
  go_enter Tryz.func93,Tryz.ntmps93
  go_upto_region 1 with (fail)
  go_cut [15] (fun s15 w'=>s15=.bool (kp || kl)∧AFW s th R w0 u p g pf F n w')
  case first=>
   have hkp:=HKP.out;have hkl:=HKL.out
   cases kp
   all_goals cases kl
   all_goals
    go_wp2
    go_meet
    case rel=>exact ⟨rfl,H0.out⟩
  case rest=>
   obtain ⟨rfl,hcut⟩:=hcut
   have H1:=Lib.hid hcut
   clear hcut H0
   generalize hal:(kp || kl)=al
   have HAL:=Lib.hid hal
   clear hal
   go_upto_if 40 with (go_at_call 94;refine (hasNUL_any x _ hxm).mono ?_;rw [HNU.out];rintro e u1 ⟨rfl,rfl⟩)
   go_cut [] (fun w'=>AFW s th R w0 u p (g && !(tl && !al)) pf F n w')
   case first=>
    obtain ⟨x6,c6⟩:=H1.out.af.c6;have f6:=H1.out.af.f6
    cases al
    all_goals
     go_wp2_with (go_at_call 95;refine (not_gnu u p g (s+1) _ (H1.out.af.set6 _).cf (H1.out.af.set6 _).ff).mono ?_;rintro e w1 ⟨rfl,rfl⟩)
     go_meet
     case rel=>
      first
       | exact H1.out.gnuNo.cast rfl rfl (by simp [HT.out]) rfl rfl
       | exact H1.out.cast rfl rfl (by simp [HT.out]) rfl rfl
   case rest=>
    rw [←HAL.out] at hcut
    have H2:=Lib.hid hcut
    clear hcut H1 HAL
    go_upto_region 5 with (fail)
    go_cut [49] (fun s49 w'=>s49=.bool (!ac || tl)∧AFW s th R w0 u p (g && !(tl && !(kp || kl))) pf F n w')
    case first=>
     cases ac
     all_goals
      go_wp2_with (go_at_call 96;refine (isASCII_any x _).mono ?_;rw [HAS.out];rintro e w2 ⟨rfl,hc2⟩;have H3:=Lib.hid (H2.out.chg0 hc2);clear hc2)
      go_meet
      case rel=>exact ⟨by simp [HT.out],H3.out⟩
    case rest=>
     obtain ⟨rfl,hcut⟩:=hcut
     have H3:=Lib.hid hcut
     clear hcut H2
     generalize hcn:(!ac || tl)=cn
     have HCN:=Lib.hid hcn
     clear hcn
     go_upto_if 49 with (fail)
     go_cut [] (fun w'=>AFW s th R w0 (u && !(cn && !(kp && sp))) p (g && !(tl && !(kp || kl))) pf (strF1 key x cn F) (n+1) w')
     case first=>
      cases cn
      ·go_wp2
       go_meet
       case rel=>exact (H3.out.mono (by omega)).cast (by simp) rfl rfl rfl (by unfold strF1;simp)
      ·have hkp:=HKP.out
       cases kp
       all_goals cases sp
       all_goals
        go_wp2_with (first
         | (go_at_call 97;refine (HSP.out _).mono ?_;rintro e w2 ⟨rfl,hc2⟩;have h4:=H3.out.chg0 hc2;have cm4:=h4.af.cm;obtain ⟨x4,c4⟩:=h4.af.c4;have f4:=h4.af.f4;obtain ⟨w5,hrun,h5⟩:=h4.put (by have:=HN.out;omega) key x HKM.out (by unfold maxLen;omega);have H4:=Lib.hid h4;have H5:=Lib.hid h5;clear h4 h5 hc2)
         | (go_at_call 95;refine (not_ustar u p _ (s+1) _ (H4.out.af.set4 _).cf (H4.out.af.set4 _).ff).mono ?_;rintro e w6 ⟨rfl,hw6⟩;have h6:=H4.out.usNo' hw6;have cm6:=h6.af.cm;clear hrun H5 hw6;obtain ⟨w7,hrun,h7⟩:=h6.put (by have:=HN.out;omega) key x HKM.out (by unfold maxLen;omega);have H5:=Lib.hid h7;clear h6 h7 c4 f4))
        go_meet
        case rel=>exact H5.out.cast (by simp) rfl rfl rfl (by unfold strF1;simp)
     case rest=>
      have H4:=Lib.hid hcut
      clear hcut H3
      have hl:=H4.out.af.look key HKM.out
      have c18:=H4.out.af.c18
      rw [HCN.out.symm] at H4
      cases hr:R key with
      | none=>
       rw [hr] at hl
       have HRR:=Lib.hid hr
       clear hr
       go_wp2
       go_end0
       exact ⟨rfl,by unfold strF2;rw [if_neg (by rw [HRR.out];simp)];exact H4.out.mono (by omega)⟩
      | some v=>
       rw [hr] at hl
       have HRR:=Lib.hid hr
       clear hr
       by_cases hv:v=x
       ·subst hv
        have cm:=H4.out.af.cm
        obtain ⟨w7,hrun,h7⟩:=H4.out.put (by have:=HN.out;omega) key v HKM.out (by unfold maxLen;omega)
        have H7:=Lib.hid h7
        clear h7
        go_wp2
        go_end0
        exact ⟨rfl,by unfold strF2;rw [if_pos HRR.out];exact H7.out⟩
       ·have hv':(v.toList == x.toList)=false:=by
         simp only [beq_eq_false_iff_ne,ne_eq]
         intro e
         exact hv (ByteArray.ext (Array.ext' (by rw [←Lib.toList_data,←Lib.toList_data];exact e)))
        have HV:=Lib.hid hv
        clear hv
        go_wp2
        go_end0
        exact ⟨rfl,by unfold strF2;rw [if_neg (by rw [HRR.out];intro e;injection e with e;exact HV.out e)];exact H4.out.mono (by omega)⟩
end Go.Proofs.YtkanmkcojlefbaaGreatDoor
namespace Go.Proofs.YtkanmkcojlefbaaGreatDoor
open Go.RowKit
structure AFT (s:Nat) (th:TH) (R:KV) (w0:World) (b:Nat) (sec:Int) (ns:Nat) (u p g pf:Bool) (F:KV) (n:Nat) (w:World):Prop where
 af:AFW s th R w0 u p g pf F n w
 tm:TmAt b sec ns w
 ne:s+7 < b
section
variable {s n b ns:Nat} {sec:Int} {th:TH} {R F:KV} {u p g pf:Bool} {w0 w w1:World}
theorem AFT.chg0 (h:AFT s th R w0 b sec ns u p g pf F n w) (k:Chg [] w w1):AFT s th R w0 b sec ns u p g pf F n w1:=⟨h.af.chg0 k,k.heap h.tm (by simp),h.ne⟩
theorem AFT.usNo {y:ByteArray} (h:AFT s th R w0 b sec ns u p g pf F n w) (e:w1=(w.setCell ⟨s+4,0,none⟩ (.string y)).setCell ⟨s+1,0,none⟩ (.int .i64 (fm false p g))):AFT s th R w0 b sec ns false p g pf F n w1:=by
 have hn:=h.ne
 subst e
 refine ⟨h.af.usNo,?_,hn⟩
 have k:Chg [s+4,s+1] w ((w.setCell ⟨s+4,0,none⟩ (.string y)).setCell ⟨s+1,0,none⟩ (.int .i64 (fm false p g))):=((Chg.refl _ w).setCell (.inl (by simp)) _).setCell (.inl (by simp)) _
 exact k.heap h.tm (by simp;omega)
theorem AFT.setP (h:AFT s th R w0 b sec ns u p g pf F n w):AFT s th R w0 b sec ns u p g true F n (w.setCell ⟨s+7,0,none⟩ (.bool true)):=by
 have hn:=h.ne
 refine ⟨⟨h.af.af.setP true,h.af.chg.setCell (.inl (by simp [afS])) _⟩,?_,hn⟩
 have k:Chg [s+7] w (w.setCell ⟨s+7,0,none⟩ (.bool true)):=(Chg.refl _ w).setCell (.inl (by simp)) _
 exact k.heap h.tm (by simp;omega)
theorem AFT.put (h:AFT s th R w0 b sec ns u p g pf F n w) (hn:n < maxLen) (k v:ByteArray) (hk:k.size≤maxLen) (hv:v.size≤maxLen) :
  ∃w',(Instr.mapUpdate 127 (.map (some (s+3))) (.string k) (.string v)).run Tryz.prog w=.ok () w'∧AFT s th R w0 b sec ns u p g pf (KV.set F k v) (n+1) w':=by
 obtain ⟨w',h1,h2,c⟩:=h.af.af.putM hn k v hk hv
 have hne:=h.ne
 exact ⟨w',h1,⟨h2,h.af.chg.trans (c.mono (by simp [afS]))⟩,c.heap h.tm (by simp;omega),hne⟩
theorem AFT.mono {m:Nat} (h:AFT s th R w0 b sec ns u p g pf F n w) (hm:n≤m):AFT s th R w0 b sec ns u p g pf F m w:=⟨h.af.mono hm,h.tm,h.ne⟩
theorem AFT.c7 (h:AFT s th R w0 b sec ns u p g pf F n w):w.cell? ⟨s+7,0,none⟩=some (.bool pf):=by rw [cell_heap h.af.af.b7];rfl
theorem AFT.c0 (h:AFT s th R w0 b sec ns u p g pf F n w):w.cell? ⟨b,0,none⟩=some (.int .u64 ns):=by rw [cell_heap h.tm];rfl
theorem AFT.c1 (h:AFT s th R w0 b sec ns u p g pf F n w):w.cell? ⟨b,1,none⟩=some (.int .i64 (sec+62135596800)):=by rw [cell_heap h.tm];rfl
theorem AFT.cast {u' p' g' pf':Bool} {F':KV} (h:AFT s th R w0 b sec ns u p g pf F n w) (hu:u=u') (hp:p=p') (hg:g=g') (hpf:pf=pf') (hF:F=F'):AFT s th R w0 b sec ns u' p' g' pf' F' n w:=by
 subst hu hp hg hpf hF;exact h
end
theorem AF.lt {s n:Nat} {th:TH} {R F:KV} {u p g pf:Bool} {w:World} (h:AF s th R u p g pf F n w):s+7 < w.heap.size:=(Array.getElem?_eq_some_iff.1 h.b7).1
set_option maxRecDepth 100000 in
theorem time_zero (s n:Nat) (th:TH) (R F:KV) (u p g pf:Bool) (sec:Int) (ns:Nat) (sz:Int) (name key:ByteArray) (a1 a2 a3 a4 a5 a6 a7:Value) (w0 w:World) (h:AFW s th R w0 u p g pf F n w) (hns:ns < 1000000000) (h1 : -4000000000000000000≤sec) (h2:sec≤4000000000000000000) (hz:sec=-62135596800∧ns=0) :
  Calls Tryz.prog 102 #[tm sec ns,.int .i64 sz,.string name,.string key,a1,a2,a3,a4,a5,a6,a7] w fun e w'=>e=.returned (.tuple #[])∧AFW s th R w0 u p g pf F n w':=by
 have H:=Lib.hid h;have HZ:=Lib.hid hz
 clear h hz
 unfold tm
 go_enter Tryz.func102,Tryz.ntmps102
 go_wp2_with (go_at_call 74;refine (isZero_any sec ns _ hns h1 h2).mono ?_;rw [decide_eq_true HZ.out];rintro e w1 ⟨rfl,hc1⟩;have H1:=Lib.hid (H.out.chg0 (((Chg.refl _ w).alloc _).trans hc1));clear hc1)
 refine bodyPost_ret (results_none rfl _ _ _) rfl ⟨rfl,H1.out⟩
theorem timS_size (s:Int) (ns:Nat) (hn:ns < 1000000000) (h1 : -4000000000000000000≤s) (h2:s≤4000000000000000000):(timS s ns).size≤100:=by
 have hd:∀n:Int,0≤n→n≤9223372036854775807→(Lib.decDigits n.toNat).length≤21:=fun n a b=>by
  have:=itoaS_size n (by omega) b
  rwa [Lib.size_eq,show (⟨(Lib.itoa n).toArray⟩:ByteArray).data.toList=Lib.itoa n by simp,itoa_pos (by omega)] at this
 rw [Lib.size_eq,show (timS s ns).data.toList=paxTime s ns by simp [timS]]
 unfold paxTime
 split
 ·have:=itoaS_size s (by omega) (by omega)
  rw [Lib.size_eq,show (⟨(Lib.itoa s).toArray⟩:ByteArray).data.toList=Lib.itoa s by simp] at this
  omega
 ·split
  ·have k1:=hd (-(s+1)) (by omega) (by omega)
   have k2:=trim0_le (nine (1000000000 - ns))
   rw [nine_length (by omega)] at k2
   simp only [List.length_cons,List.length_append]
   omega
  ·have k1:=hd s (by omega) (by omega)
   have k2:=trim0_le (nine ns)
   rw [nine_length (by omega)] at k2
   simp only [List.length_cons,List.length_append]
   omega
set_option maxRecDepth 100000 in
set_option maxHeartbeats 4000000 in
theorem time_any (B:Nat) (sn:Nat→Addr) (kb s n:Nat) (th:TH) (R F:KV) (u p g pf:Bool) (sec:Int) (ns:Nat) (name key:ByteArray) (w0 w:World) (h:AFW s th R w0 u p g pf F n w) (hE:Env B sn kb w0) (hBs:B≤s)
  (hns:ns < 1000000000) (h1 : -4000000000000000000≤sec) (h2:sec≤4000000000000000000) (hz:¬(sec=-62135596800∧ns=0))
  (hkm:key.size≤maxLen) (hnm:name.size≤100) (hn:n+2 < maxLen) (hke:key.toList.isEmpty=false) (km fo nn:Bool) (hkp:(key.toList == [109,116,105,109,101])=km) (hfo:decide (fit8 12 sec)=fo) (hnn:((ns:Int) != 0)=nn) :
  Calls Tryz.prog 102 #[tm sec ns,.int .i64 12,.string name,.string key,.pointer (some ⟨s+6,0,none⟩),.pointer (some ⟨s+1,0,none⟩),.pointer (some ⟨s+4,0,none⟩),.pointer (some ⟨s+7,0,none⟩),.pointer (some ⟨s+5,0,none⟩),.pointer (some ⟨s+2,0,none⟩),.pointer (some ⟨s,0,none⟩)] w fun e w'=>e=.returned (.tuple #[])∧
   AFW s th R w0 (u && (km && fo)) p g (pf || !(km && fo) || nn) (strF2 key (timS sec ns) R (strF1 key (timS sec ns) (!(km && fo) || nn) F)) (n+2) w':=by
 have hTm:(timS sec ns).size≤maxLen:=Nat.le_trans (timS_size sec ns hns h1 h2) (by unfold maxLen;decide)
 have H0:=Lib.hid h;have HE:=Lib.hid hE;have HN:=Lib.hid hn;have HKM:=Lib.hid hkm;have HFO:=Lib.hid hfo;have HKP:=Lib.hid hkp;have HZ:=Lib.hid hz;have HNN:=Lib.hid hnn;have HTM:=Lib.hid hTm
 have hke':¬key.toList= []:=by intro e;rw [e] at hke;cases hke
 have HB:=Lib.hid (Nat.lt_of_lt_of_le (h.af.lt) (Nat.le_refl _))
 clear h hE hn hkm hfo hkp hz hnn hTm
 obtain ⟨b,hb⟩:∃b,b=w.heap.size:=⟨_,rfl⟩
 have HBB:=Lib.hid hb
 clear hb
 unfold tm
 go_enter Tryz.func102,Tryz.ntmps102
 go_upto_if 26 with (first
  | (go_at_call 74;refine (isZero_any sec ns _ hns h1 h2).mono ?_;rw [decide_eq_false HZ.out];rintro e w1 ⟨rfl,hc1⟩;have h3:AFT s th R w0 w.heap.size sec ns u p g pf F n w1:=⟨H0.out.chg0 (((Chg.refl _ w).alloc _).trans hc1),hc1.heap (heap_alloc_new w _) (by simp),HB.out⟩;have c0:=h3.c0;have c1:=h3.c1;have H3:=Lib.hid h3;clear h3 hc1)
  | (go_at_call 103;refine (Unix_any sec ns _ hns h1 h2).mono ?_;rintro e w2 ⟨rfl,hc2⟩;have h4:=H3.out.chg0 hc2;clear c0 c1;have c0:=h4.c0;have c1:=h4.c1;have H4:=Lib.hid h4;clear h4 hc2)
  | (go_at_call 99;refine (fits256 12 (.inr rfl) sec (by omega) (by omega) _).mono ?_;rw [decide_eq_true (show fitG 12 sec by unfold fitG;simp;omega)];rintro e u1 ⟨rfl,rfl⟩))
 go_cut [] (fun w'=>AFT s th R w0 w.heap.size sec ns u p g pf F n w')
 case first=>
  go_wp2
  go_meet
  case rel=>exact H4.out
 case rest=>
  have H5:=Lib.hid hcut
  clear hcut H3 H4 c0 c1
  have hkp:=HKP.out
  have c0:=H5.out.c0;have c1:=H5.out.c1
  go_upto_region 7 with (first
   | (go_at_call 103;refine (Unix_any sec ns _ hns h1 h2).mono ?_;rintro e w2 ⟨rfl,hc2⟩;have h6:=H5.out.chg0 hc2;clear c0 c1;have c0:=h6.c0;have c1:=h6.c1;have H6:=Lib.hid h6;clear h6 hc2)
   | (go_at_call 100;refine (fitsOct 12 (.inr rfl) sec _).mono ?_;rw [HFO.out];rintro e u1 ⟨rfl,rfl⟩))
  clear hkp
  go_cut [44] (fun s44 w'=>s44=.bool (!(km && fo))∧AFT s th R w0 w.heap.size sec ns u p g pf F n w')
  case first=>
   cases km
   all_goals cases fo
   all_goals
    go_wp2
    go_meet
    case rel=>exact ⟨rfl,H6.out⟩
  case rest=>
   obtain ⟨rfl,hcut⟩:=hcut
   have H7:=Lib.hid hcut
   clear hcut H5 H6 c0 c1
   generalize hcm:(km && fo)=cm
   have HCM:=Lib.hid hcm
   clear hcm
   go_upto_if 44 with (fail)
   go_cut [] (fun w'=>AFT s th R w0 w.heap.size sec ns (u && cm) p g pf F n w')
   case first=>
    obtain ⟨x4,c4⟩:=H7.out.af.af.c4;have f4:=H7.out.af.af.f4
    cases cm
    ·go_wp2_with (go_at_call 95;refine (not_ustar u p g (s+1) _ (H7.out.af.af.set4 _).cf (H7.out.af.af.set4 _).ff).mono ?_;rintro e w8 ⟨rfl,hw8⟩;have H8:=Lib.hid (H7.out.usNo hw8);clear hw8)
     go_meet
     case rel=>exact H8.out.cast (by simp) rfl rfl rfl rfl
    ·go_wp2
     go_meet
     case rel=>exact H7.out.cast (by simp) rfl rfl rfl rfl
   case rest=>
    have H8:=Lib.hid hcut
    clear hcut H7
    have c0:=H8.out.c0;have c1:=H8.out.c1
    have hnn:=HNN.out
    go_upto_region 11 with (go_at_call 104;refine (Nano_any sec ns _ hns).mono ?_;rintro e w2 ⟨rfl,hc2⟩;have H9:=Lib.hid (H8.out.chg0 hc2);clear c0 c1 hc2)
    clear hnn
    go_cut [59] (fun s59 w'=>s59=.bool (!(km && fo) || nn)∧AFT s th R w0 w.heap.size sec ns (u && cm) p g pf F n w')
    case first=>
     cases km
     all_goals cases fo
     all_goals
      go_wp2
      go_meet
      case rel=>exact ⟨by simp,H9.out⟩
    case rest=>
     obtain ⟨rfl,hcut⟩:=hcut
     have H10:=Lib.hid hcut
     clear hcut H8 H9
     generalize hcn:(!(km && fo) || nn)=cn
     have HCN:=Lib.hid hcn
     clear hcn
     go_upto_if 59 with (fail)
     go_cut [] (fun w'=>AFT s th R w0 w.heap.size sec ns (u && cm) p g (pf || cn) (strF1 key (timS sec ns) cn F) (n+1) w')
     case first=>
      cases cn
      ·go_wp2
       go_meet
       case rel=>exact (H10.out.mono (by omega)).cast rfl rfl rfl (by simp) (by unfold strF1;simp)
      ·have c7:=H10.out.c7;have f7:=H10.out.af.af.f7
       go_wp2_with fail
       have h11:=H10.out.setP
       clear c7 f7
       generalize wc.setCell ⟨s+7,0,none⟩ (.bool true)=w11 at h11⊢
       have d:=And.intro h11.af.af.cm (And.intro h11.c0 h11.c1)
       have H11:=Lib.hid h11
       have HE2:=Lib.hid (HE.out.chg h11.af.chg (afS_ge hBs))
       clear h11
       go_region_held3 (fun w'=>w'.cell? ⟨s+2,0,none⟩=some (.map (some (s+3)))∧w'.cell? ⟨w.heap.size,0,none⟩=some (.int .u64 ns)∧w'.cell? ⟨w.heap.size,1,none⟩=some (.int .i64 (sec+62135596800))) (first | exact d | exact d3 | assumption)
        ((first | (go_at_call 105;refine (fmtTime sec ns _ hns h1 h2 HE2.out.drew).mono ?_;rintro e w12 ⟨rfl,hc12⟩;have h12:=H11.out.chg0 ((Chg.refl [] w11).drew.trans hc12);have d3:=And.intro h12.af.af.cm (And.intro h12.c0 h12.c1);obtain ⟨w13,hrun,h13⟩:=h12.put (by have:=HN.out;omega) key (timS sec ns) HKM.out HTM.out;have d4:=And.intro h13.af.af.cm (And.intro h13.c0 h13.c1);have H13:=Lib.hid h13;clear h12 h13 hc12)))
       go_wp2_with fail
       go_meet
       case rel=>exact H13.out.cast rfl rfl rfl (by simp) (by unfold strF1;simp)
     case rest=>
      have H11:=Lib.hid hcut
      clear hcut H10
      have hl:=H11.out.af.af.look key HKM.out
      have c18:=H11.out.af.af.c18
      have c0:=H11.out.c0;have c1:=H11.out.c1
      rw [HCN.out.symm,HCM.out.symm] at H11
      have HP:(pf || (!(km && fo) || nn))=(pf || !(km && fo) || nn):=by rw [Bool.or_assoc]
      have HPP:=Lib.hid HP
      clear HP
      have HE2:=Lib.hid (HE.out.chg H11.out.af.chg (afS_ge hBs))
      cases hr:R key with
      | none=>
       rw [hr] at hl
       have HRR:=Lib.hid hr
       clear hr
       go_wp2
       go_end0
       exact ⟨rfl,by unfold strF2;rw [if_neg (by rw [HRR.out];simp)];exact (H11.out.af.mono (by omega)).cast rfl rfl rfl HPP.out rfl⟩
      | some v=>
       rw [hr] at hl
       have HRR:=Lib.hid hr
       clear hr
       by_cases hv:v=timS sec ns
       ·have hv':(v.toList == (timS sec ns).toList)=true:=by rw [hv];simp
        have HV:=Lib.hid hv
        clear hv
        go_wp2_with (go_at_call 105;refine (fmtTime sec ns _ hns h1 h2 HE2.out).mono ?_;rintro e w12 ⟨rfl,hc12⟩;have h12:=H11.out.chg0 hc12;have cm12:=h12.af.af.cm;obtain ⟨w13,hrun,h13⟩:=h12.put (by have:=HN.out;omega) key v HKM.out (by rw [HV.out];exact HTM.out);have H13:=Lib.hid h13;clear h12 h13 hc12)
        go_end0
        exact ⟨rfl,by unfold strF2;rw [if_pos (by rw [HRR.out,HV.out])];have:=H13.out;rw [HV.out] at this;exact this.af.cast rfl rfl rfl HPP.out rfl⟩
       ·have hv':(v.toList == (timS sec ns).toList)=false:=by
         simp only [beq_eq_false_iff_ne,ne_eq]
         intro e
         exact hv (ByteArray.ext (Array.ext' (by rw [←Lib.toList_data,←Lib.toList_data];exact e)))
        have HV:=Lib.hid hv
        clear hv
        go_wp2_with (go_at_call 105;refine (fmtTime sec ns _ hns h1 h2 HE2.out).mono ?_;rintro e w12 ⟨rfl,hc12⟩;have H12:=Lib.hid (H11.out.chg0 hc12);clear hc12)
        go_end0
        exact ⟨rfl,by unfold strF2;rw [if_neg (by rw [HRR.out];intro e;injection e with e;exact HV.out e)];exact (H12.out.af.mono (by omega)).cast rfl rfl rfl HPP.out rfl⟩
end Go.Proofs.YtkanmkcojlefbaaGreatDoor
namespace Go.Proofs.YtkanmkcojlefbaaGreatDoor
open Go.RowKit
def strU (x:ByteArray) (n:Nat) (b:Bool):Bool:= !((!ascii x.data.toList || decide (n < x.size)) && !b)
def strG (x:ByteArray) (n:Nat) (b:Bool):Bool:= !(decide (n < x.size) && !b)
def stepF (key v:ByteArray) (c:Bool) (R F:KV):KV:=fun k=>if k=key then (if c=true∨R key=some v then some v else F key) else F k
def timZ (s:Int) (ns:Nat):Bool:=decide (s=-62135596800∧ns=0)
def timU (km:Bool) (s:Int) (ns:Nat):Bool:=timZ s ns || (km && decide (fit8 12 s))
def timP (km:Bool) (s:Int) (ns:Nat):Bool:= !timZ s ns && (!(km && decide (fit8 12 s)) || ((ns:Int) != 0))
def timF (key:ByteArray) (km:Bool) (s:Int) (ns:Nat) (R F:KV):KV:=if timZ s ns=true then F else stepF key (timS s ns) (!(km && decide (fit8 12 s)) || ((ns:Int) != 0)) R F
theorem step_str (key v:ByteArray) (c:Bool) (R F:KV):strF2 key v R (strF1 key v c F)=stepF key v c R F:=by
 funext k
 unfold strF2 strF1 stepF KV.set
 by_cases h1:k=key
 ·subst h1
  by_cases h3:R k=some v
  ·simp [h3]
  ·by_cases h2:c=true<;>simp [h2,h3]
 ·by_cases h2:c=true<;>by_cases h3:R key=some v<;>simp [h1,h2,h3]
theorem step_num (key:ByteArray) (x:Int) (c:Bool) (R F:KV):numF2 key x R (numF1 key x c F)=stepF key (itoaS x) (!c) R F:=by
 rw [←step_str]
 unfold numF2 numF1 strF2 strF1
 cases c<;>rfl
section
variable (B:Nat) (sn:Nat→Addr) (kb s n:Nat) (th:TH) (R F:KV) (u p g pf:Bool) (name key:ByteArray) (w0 w:World)
theorem str_all (x:ByteArray) (sz:Nat) (kp kl sp:Bool) (a b:ByteArray) (h:AFW s th R w0 u p g pf F n w) (hxm:x.size≤140737488355328) (hsz:sz≤256) (hkm:key.size≤maxLen) (hnm:name.size≤100) (hn:n+2 < maxLen) (hnul:has x.data.toList 0=false) (hke:key.toList.isEmpty=false)
  (hkp:(key.toList == [112,97,116,104])=kp) (hkl:(key.toList == [108,105,110,107,112,97,116,104])=kl) (hsp:SplitAs x a b sp) :
  Calls Tryz.prog 93 #[.string x,.int .i64 sz,.string name,.string key,.pointer (some ⟨s+6,0,none⟩),.pointer (some ⟨s+1,0,none⟩),.pointer (some ⟨s+4,0,none⟩),.pointer (some ⟨s+5,0,none⟩),.pointer (some ⟨s+2,0,none⟩),.pointer (some ⟨s,0,none⟩)] w fun e w'=>e=.returned (.tuple #[])∧
   AFW s th R w0 (u && strU x sz (kp && sp)) p (g && strG x sz (kp || kl)) pf (stepF key x (!ascii x.data.toList || decide (sz < x.size)) R F) (n+2) w':=by
 refine (str_any 0 (fun _=>⟨0,0,none⟩) 0 s n th R F u p g pf x sz name key w0 w h hxm hsz hkm hnm hn hnul hke _ _ kp kl sp a b rfl rfl hkp hkl hsp).mono ?_
 rintro e w' ⟨rfl,h'⟩
 exact ⟨rfl,h'.cast rfl rfl rfl rfl (step_str _ _ _ _ _)⟩
theorem num_all (x:Int) (sz:Nat) (ke:Bool) (h:AFW s th R w0 u p g pf F n w) (hE:Env B sn kb w0) (hBs:B≤s) (hsz:sz=8∨sz=12) (hx0 : -9223372036854775808≤x) (hx1:x < 9223372036854775808)
  (hkm:key.size≤maxLen) (hnm:name.size≤100) (hn:n+2 < maxLen) (hke:key.toList.isEmpty=ke) :
  Calls Tryz.prog 98 #[.int .i64 x,.int .i64 sz,.string name,.string key,.pointer (some ⟨s+6,0,none⟩),.pointer (some ⟨s+1,0,none⟩),.pointer (some ⟨s+4,0,none⟩),.pointer (some ⟨s+5,0,none⟩),.pointer (some ⟨s+2,0,none⟩),.pointer (some ⟨s,0,none⟩)] w fun e w'=>e=.returned (.tuple #[])∧
   AFW s th R w0 (u && decide (fit8 sz x)) (p && (decide (fit8 sz x) || !ke)) (g && decide (fitG sz x)) pf (stepF key (itoaS x) (!(decide (fit8 sz x) || ke)) R F) (n+2) w':=by
 refine (num_any B sn kb s n th R F u p g pf x sz name key w0 w h hE hBs hsz hx0 hx1 hkm hnm hn _ _ ke rfl rfl hke).mono ?_
 rintro e w' ⟨rfl,h'⟩
 exact ⟨rfl,h'.cast rfl rfl rfl rfl (step_num _ _ _ _ _)⟩
theorem time_all (sec:Int) (ns:Nat) (km:Bool) (h:AFW s th R w0 u p g pf F n w) (hE:Env B sn kb w0) (hBs:B≤s) (hns:ns < 1000000000) (h1 : -4000000000000000000≤sec) (h2:sec≤4000000000000000000)
  (hkm:key.size≤maxLen) (hnm:name.size≤100) (hn:n+2 < maxLen) (hke:key.toList.isEmpty=false) (hkp:(key.toList == [109,116,105,109,101])=km) :
  Calls Tryz.prog 102 #[.agg #[.int .u64 ns,.int .i64 (sec+62135596800)],.int .i64 12,.string name,.string key,.pointer (some ⟨s+6,0,none⟩),.pointer (some ⟨s+1,0,none⟩),.pointer (some ⟨s+4,0,none⟩),.pointer (some ⟨s+7,0,none⟩),.pointer (some ⟨s+5,0,none⟩),.pointer (some ⟨s+2,0,none⟩),.pointer (some ⟨s,0,none⟩)] w fun e w'=>e=.returned (.tuple #[])∧
   AFW s th R w0 (u && timU km sec ns) p g (pf || timP km sec ns) (timF key km sec ns R F) (n+2) w':=by
 by_cases hz:sec=-62135596800∧ns=0
 ·refine (time_zero s n th R F u p g pf sec ns 12 name key _ _ _ _ _ _ _ w0 w h hns h1 h2 hz).mono ?_
  rintro e w' ⟨rfl,h'⟩
  exact ⟨rfl,(h'.mono (by omega)).cast (by simp [timU,timZ,hz]) rfl rfl (by simp [timP,timZ,hz]) (by simp [timF,timZ,hz])⟩
 ·refine (time_any B sn kb s n th R F u p g pf sec ns name key w0 w h hE hBs hns h1 h2 hz hkm hnm hn hke km _ _ hkp rfl rfl).mono ?_
  rintro e w' ⟨rfl,h'⟩
  exact ⟨rfl,h'.cast (by simp [timU,timZ,hz]) rfl rfl (by simp [timP,timZ,hz,Bool.or_assoc]) (by rw [step_str];simp [timF,timZ,hz])⟩
end
theorem split_ex (x:ByteArray) (h:x.size≤140737488355328):∃a b sp,SplitAs x a b sp:=by
 rcases split_any x h with ⟨p,q,_,h⟩ | h
 ·exact ⟨p,q,true,h⟩
 ·exact ⟨_,_,false,h⟩
structure FldOk (th:TH):Prop where
 n1:th.name.size≤1099511627776
 n2:th.link.size≤1099511627776
 n3:th.un.size≤1099511627776
 n4:th.gn.size≤1099511627776
 z1:has th.name.data.toList 0=false
 z2:has th.link.data.toList 0=false
 z3:has th.un.data.toList 0=false
 z4:has th.gn.data.toList 0=false
 md : -9223372036854775808≤th.mode∧th.mode < 9223372036854775808
 ui : -9223372036854775808≤th.uid∧th.uid < 9223372036854775808
 gi : -9223372036854775808≤th.gid∧th.gid < 9223372036854775808
 sz : -9223372036854775808≤th.size∧th.size < 9223372036854775808
 dj : -9223372036854775808≤th.dj∧th.dj < 9223372036854775808
 dn : -9223372036854775808≤th.dn∧th.dn < 9223372036854775808
 mt:th.mn < 1000000000∧-4000000000000000000≤th.ms∧th.ms≤4000000000000000000
 at':th.atn < 1000000000∧-4000000000000000000≤th.ats∧th.ats≤4000000000000000000
 ct:th.ctn < 1000000000∧-4000000000000000000≤th.cts∧th.cts≤4000000000000000000
def afU (th:TH) (sp:Bool):Bool:=(((((((((((((true && strU th.name 100 sp) && strU th.link 100 false) && strU th.un 32 false) && strU th.gn 32 false) && decide (fit8 8 th.mode)) && decide (fit8 8 th.uid)) && decide (fit8 8 th.gid)) && decide (fit8 12 th.size)) && decide (fit8 8 th.dj)) && decide (fit8 8 th.dn)) && timU true th.ms th.mn) && timU false th.ats th.atn) && timU false th.cts th.ctn)
def afP (th:TH):Bool:=(((true && decide (fit8 8 th.mode)) && decide (fit8 8 th.dj)) && decide (fit8 8 th.dn))
def afG (th:TH):Bool:=((((((((((true && strG th.name 100 true) && strG th.link 100 true) && strG th.un 32 false) && strG th.gn 32 false) && decide (fitG 8 th.mode)) && decide (fitG 8 th.uid)) && decide (fitG 8 th.gid)) && decide (fitG 12 th.size)) && decide (fitG 8 th.dj)) && decide (fitG 8 th.dn))
def afPF (th:TH):Bool:=(((false || timP true th.ms th.mn) || timP false th.ats th.atn) || timP false th.cts th.ctn)
def afF (th:TH) (R:KV):KV:=(timF ⟨#[99,116,105,109,101]⟩ false th.cts th.ctn R (timF ⟨#[97,116,105,109,101]⟩ false th.ats th.atn R (timF ⟨#[109,116,105,109,101]⟩ true th.ms th.mn R (stepF ⟨#[115,105,122,101]⟩ (itoaS th.size) (!decide (fit8 12 th.size)) R (stepF ⟨#[103,105,100]⟩ (itoaS th.gid) (!decide (fit8 8 th.gid)) R (stepF ⟨#[117,105,100]⟩ (itoaS th.uid) (!decide (fit8 8 th.uid)) R (stepF ⟨#[103,110,97,109,101]⟩ th.gn (!ascii th.gn.data.toList || decide (32 < th.gn.size)) R (stepF ⟨#[117,110,97,109,101]⟩ th.un (!ascii th.un.data.toList || decide (32 < th.un.size)) R (stepF ⟨#[108,105,110,107,112,97,116,104]⟩ th.link (!ascii th.link.data.toList || decide (100 < th.link.size)) R (stepF ⟨#[112,97,116,104]⟩ th.name (!ascii th.name.data.toList || decide (100 < th.name.size)) R (fun _=>none)))))))))))
theorem stepF_none (key v:ByteArray) (R F:KV) (h:R key≠some v):stepF key v false R F=F:=by
 funext k
 unfold stepF
 by_cases e:k=key
 ·subst e;simp [h]
 ·simp [e]
noncomputable def afW0 (w:World) (C:Array Value):World:=
 (((((((((w.alloc (.cells C 130)).alloc (.cells #[.int .i64 14] 128)).alloc (.cells #[.map (some (w.heap.size+3))] 127)).alloc (.map #[] 0)).alloc (.cells #[.string ⟨#[]⟩] 9)).alloc (.cells #[.string ⟨#[]⟩] 9)).alloc (.cells #[.string ⟨#[]⟩] 9)).alloc (.cells #[.bool false] 4)).alloc (.cells Tryz.zeroCells132 132))
theorem size_al (w:World) (o:Obj):(w.alloc o).heap.size=w.heap.size+1:=Array.size_push _
theorem alloc_get (w:World) (o:Obj) (k:Nat):(w.alloc o).heap[k]? =if k=w.heap.size then some o else w.heap[k]? :=by
 rw [World.alloc]
 simp [Array.getElem?_push]
theorem afW0_chg (w:World) (C:Array Value):Chg [] w (afW0 w C):=((((((((((Chg.refl [] w).alloc _).alloc _).alloc _).alloc _).alloc _).alloc _).alloc _).alloc _).alloc _)
set_option maxHeartbeats 1000000 in
theorem afW0_af (th:TH) (R:KV) (w:World) (hR:RecsAt th.recs w.heap.size R w):AF w.heap.size th R true true true false (fun _=>none) 0 (afW0 w th.cells.toArray):=by
 have hm:=MapS.made (((w.alloc (.cells th.cells.toArray 130)).alloc (.cells #[.int .i64 14] 128)).alloc (.cells #[.map (some (w.heap.size+3))] 127))
 have hz:(((w.alloc (.cells th.cells.toArray 130)).alloc (.cells #[.int .i64 14] 128)).alloc (.cells #[.map (some (w.heap.size+3))] 127)).heap.size=w.heap.size+3:=by simp
 rw [hz] at hm
 refine ⟨?_,?_,?_,hm.chg ((((((Chg.refl [] _).alloc _).alloc _).alloc _).alloc _).alloc _) (by simp),⟨⟨#[]⟩,?_⟩,⟨⟨#[]⟩,?_⟩,⟨⟨#[]⟩,?_⟩,?_,hR.chg (afW0_chg w _) (by simp)⟩
 all_goals
  unfold afW0
  simp only [alloc_get,size_al]
  repeat' split
  all_goals first | rfl | (exfalso;omega) | exact absurd trivial (by assumption)
theorem AFW.hc {s n:Nat} {th:TH} {R F:KV} {u p g pf:Bool} {w0 w:World} (h:AFW s th R w0 u p g pf F n w) (i:Nat) (v:Value) (hv:th.cells[i]? =some v):w.cell? ⟨s,i,none⟩=some v:=by
 rw [cell_heap h.af.hd,List.getElem?_toArray,hv]
def TfOk (th:TH):Prop:=th.tf.toNat=48∨th.tf.toNat=49∨th.tf.toNat=50∨th.tf.toNat=51∨th.tf.toNat=52∨th.tf.toNat=53∨th.tf.toNat=54∨th.tf.toNat=55
theorem getLast_suffix (l:List UInt8):([47]:List UInt8).isSuffixOf l=(l.getLast? == some 47):=by
 rcases List.eq_nil_or_concat l with rfl | ⟨a,b,rfl⟩
 ·rfl
 ·by_cases hb:b=47
  ·subst hb
   have:([47]:List UInt8) <:+ (a++ [47]):=List.suffix_append _ _
   simp [List.isSuffixOf_iff_suffix.2 this]
  ·have h1:¬([47]:List UInt8) <:+ (a++ [b]):=by
    rintro ⟨t,ht⟩
    have:=congrArg List.getLast? ht
    simp at this
    exact hb this.symm
   have h2:([47]:List UInt8).isSuffixOf (a++ [b])=false:=by
    rw [Bool.eq_false_iff];intro e;exact h1 (List.isSuffixOf_iff_suffix.1 e)
   simp [h2,hb]
theorem hasSuffix_slash (s:ByteArray):Lib.hasSuffix s.data.toList (⟨#[47]⟩:ByteArray).data.toList=slashB s:=by
 unfold Lib.hasSuffix slashB
 rw [show (⟨#[47]⟩:ByteArray).data.toList= [47] from rfl,getLast_suffix]
 by_cases h:0 < s.size
 ·rw [decide_eq_true h,Bool.true_and]
 ·rw [decide_eq_false h,Bool.false_and]
  have:s.data.toList= []:=by
   cases hx:s.data.toList with
   | nil=>rfl
   | cons _ _=>rw [Lib.size_eq,hx] at h;simp at h
  rw [this];rfl
theorem len_nil127 (w:World) (ty:TypeId):(Builtin.len_ #[127] ty #[.map none]).run Tryz.prog w=.ok (.int .i64 0) w:=by kernel_rfl
end Go.Proofs.YtkanmkcojlefbaaGreatDoor
namespace Go.Proofs.YtkanmkcojlefbaaGreatDoor
open Go.RowKit Go.Maps Go.WideMaps
def basicB (s:ByteArray):Bool:=decide (s.data.toList∈([[112,97,116,104],[108,105,110,107,112,97,116,104],[115,105,122,101],[117,105,100],[103,105,100],[117,110,97,109,101],[103,110,97,109,101],[109,116,105,109,101],[97,116,105,109,101],[99,116,105,109,101]]:List (List UInt8)))
def sparseB (s:ByteArray):Bool:=Lib.hasPrefix s.data.toList [71,78,85,46,115,112,97,114,115,101,46]
def okKey (k:ByteArray):Bool:= !basicB k && !sparseB k
def mergeL (F R:KV) (left:ByteArray→Bool):KV:=fun k=>match F k with
 | some v=>some v
 | none=>if okKey k=true∧left k=false then R k else none
def mergeF (F R:KV):KV:=mergeL F R fun _=>false
theorem mergeL_start (F R:KV):mergeL F R (fun s=>(R s).isSome)=F:=by
 funext k
 unfold mergeL
 cases hf:F k with
 | some v=>simp
 | none=>
  cases hr:R k with
  | none=>simp
  | some v=>simp [hr]
theorem mergeF_none (F R:KV) (h:∀k,R k=none):mergeF F R=F:=by
 funext k
 unfold mergeF mergeL
 cases F k with
 | some v=>rfl
 | none=>simp [h]
theorem mergeL_left {F R:KV} {left:ByteArray→Bool} {k:ByteArray} (h:left k=true):mergeL F R left k=F k:=by
 unfold mergeL
 cases F k with
 | some v=>rfl
 | none=>simp [h]
theorem mergeL_skip {F R:KV} {left:ByteArray→Bool} {k:ByteArray} (h:(F k).isSome=true∨okKey k=false) (hl:left k=true):mergeL F R (fun x=>left x && !decide (x=k))=mergeL F R left:=by
 funext x
 unfold mergeL
 by_cases e:x=k
 ·subst e
  cases hf:F x with
  | some v=>rfl
  | none=>
   rw [hf] at h
   have h2:okKey x=false:=h.resolve_left (by simp)
   simp [h2]
 ·simp [e]
theorem mergeL_put {F R:KV} {left:ByteArray→Bool} {k v:ByteArray} (hf:F k=none) (ho:okKey k=true) (hl:left k=true) (hr:R k=some v):KV.set (mergeL F R left) k v=mergeL F R (fun x=>left x && !decide (x=k)):=by
 funext x
 unfold mergeL KV.set
 by_cases e:x=k
 ·subst e;simp [hf,ho,hr]
 ·simp [e]
theorem MapS.congr {b n:Nat} {f g:KV} {w:World} (h:MapS b n f w) (e:∀s:ByteArray,s.size≤maxLen→f s=g s):MapS b n g w:=by
 obtain ⟨D,ho,ht⟩:=h
 exact ⟨D,ho,fun s hs=>by rw [←e s hs];exact ht s hs⟩
theorem mergeL_end {F R:KV} {left:ByteArray→Bool} (h:∀s:ByteArray,s.size≤maxLen→left s=false):∀s:ByteArray,s.size≤maxLen→mergeL F R left s=mergeF F R s:=by
 intro s hs
 unfold mergeF mergeL
 rw [h s hs]
theorem RngS.cnt_le {b r n:Nat} {f:KV} {left:ByteArray→Bool} {cnt:Nat} {w:World} (h:RngS b r n f left cnt w):cnt≤n:=by
 obtain ⟨D,l,⟨es,clock,since,seen,c0,_,_,hs,_,_,_,hc,_⟩,_⟩:=h
 rw [←hc]
 exact Nat.le_trans Array.size_filter_le hs
theorem u194:Tryz.prog.underlying 194=some (.map 9 4):=by kernel_rfl
theorem zero4 (w:World):(zeroValue 4).run Tryz.prog w=.ok (.bool false) w:=by kernel_rfl
theorem plainElem_bool_inv {P:Program} {e:TypeId} (he:P.underlying e=some .bool) {v:Value} {z:DataW Unit×List MemPlace} (h:plainElem P e v=some z):∃a,v=.bool a∧z=(.lit (.bool a),[]):=by
 unfold plainElem at h
 rw [he] at h
 cases v<;>simp at h
 exact ⟨_,rfl,h.symm⟩
set_option maxRecDepth 100000 in
theorem Env.basic {B:Nat} {sn:Nat→Addr} {kb:Nat} {w:World} (h:Env B sn kb w) (s:ByteArray) (hs:s.size≤maxLen):(Instr.lookup 194 (.map (some kb)) (.string s) false).run Tryz.prog w=.ok (.bool (basicB s)) w:=by
 obtain ⟨D,n,ho,hat⟩:=h.bk
 obtain ⟨v,ps,hrun,hv⟩:=ho.lookup laws9 u194 (zero4 w) (plainElem_bool Tryz.underlying4 false) (keyS hs)
 obtain ⟨a,rfl,hz⟩:=plainElem_bool_inv Tryz.underlying4 hv
 rw [hrun]
 have hb:a=basicB s:=by
  have h2:=hat s hs (.lit (.bool false))
  rw [h2] at hz
  have e:=congrArg Prod.fst hz
  clear hz h2 hat ho hrun hv
  unfold basicB
  generalize ([[112,97,116,104],[108,105,110,107,112,97,116,104],[115,105,122,101],[117,105,100],[103,105,100],[117,110,97,109,101],[103,110,97,109,101],[109,116,105,109,101],[97,116,105,109,101],[99,116,105,109,101]]:List (List UInt8))=L at e⊢
  by_cases hm:s.data.toList∈L
  ·rw [decide_eq_true hm]
   simp only [if_pos hm] at e
   injection e with e;injection e with e;exact e.symm
  ·rw [decide_eq_false hm]
   simp only [if_neg hm] at e
   injection e with e;injection e with e;exact e.symm
 rw [hb]
end Go.Proofs.YtkanmkcojlefbaaGreatDoor
