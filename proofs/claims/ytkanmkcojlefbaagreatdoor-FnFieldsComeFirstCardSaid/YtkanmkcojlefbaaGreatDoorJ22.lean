/-
  Reader.Next (37) where a file's header is read: next (72), and the error kept · The reference's verdicts on one field each · The reference's header in memory: promoted, Strange · What writeGNUHeader lays: long names as small files, the header's block with its times · allowedFormats: the state that its closures turn · allowedFormats: verifyNumeric (98).
-/
import Derived.Test.YtkanmkcojlefbaaGreatDoorJ21
import Derived.Test.YtkanmkcojlefbaaGreatDoorJ09
import Derived.Deep.DeepCutAuto
import Derived.Deep.RegionHeld3
import Derived.Test.YtkanmkcojlefbaaGreatDoorJ03
import Derived.Test.YtkanmkcojlefbaaGreatDoorJ19
import Derived.Test.YtkanmkcojlefbaaGreatDoorJ08
import Derived.Test.YtkanmkcojlefbaaGreatDoorJ06
import Derived.Test.YtkanmkcojlefbaaGreatDoorJ16
set_option linter.unusedVariables false
namespace Go.Proofs.YtkanmkcojlefbaaGreatDoor
open Go.RowKit
theorem TarAt.setErr {tr br rr:Nat} {pad:Int} {cs:Array Value} {w:World} (h:TarAt tr br rr pad cs w) :
  TarAt tr br rr pad (cs.setIfInBounds 515 .nilIface) (w.setCell ⟨tr,515,none⟩ .nilIface):=by
 have hs:=h.size
 refine ⟨heap_setCell_at h.heap 515 _,by simpa using hs,?_,?_,?_,?_⟩
 ·rw [Array.getElem?_setIfInBounds_ne (by omega)];exact h.c0
 ·rw [Array.getElem?_setIfInBounds_ne (by omega)];exact h.c1
 ·rw [Array.getElem?_setIfInBounds_ne (by omega)];exact h.c2
 ·rw [Array.getElem?_setIfInBounds_self,if_pos (by omega)]
set_option maxRecDepth 100000 in
set_option maxHeartbeats 800000 in
theorem Next_ok (tr br rr dr pd:Nat) (cs:Array Value) (D:List UInt8) (i:Nat) (eof:Addr) (fin th0:TH) (pf:Option Recs) (size qe:Nat) (w:World) (hT:TarAt tr br rr pd cs w) (hr:RdrAt br dr D i w) (hg:RegAt rr br 0 w) (hP:Pend D fin pf qe (i+pd) none ⟨#[]⟩ ⟨#[]⟩ th0) (hpd:pd≤511) (hs:fin.size=size) (hsz:size≤9223372036854775807)
  (htb:tr≠br) (htd:tr≠dr) (hrr:rr≠br∧rr≠dr∧rr≠tr) (he:Sent w 0 eof) (h0:0≠br∧0≠tr) :
  Calls Tryz.prog 37 #[.pointer (some ⟨tr,0,none⟩)] w fun e w'=>(∃hp rv f,e=.returned (.tuple #[.pointer (some ⟨hp,0,none⟩),.nilIface])∧HdrB hp { fin with recs:=rv,fmt:=f } w'∧PaxS w.heap.size pf rv w')∧
   RdrAt br dr D qe w'∧(∃rr' cs',TarAt tr br rr' (padOf (dataLen fin.tf size)) cs' w'∧RegAt rr' br (dataLen fin.tf size) w'∧w.heap.size≤rr')∧Chg [br,tr] w w':=by
 have d515:w.cell? ⟨tr,515,none⟩=some .nilIface:=by rw [cell_heap hT.heap];exact hT.c515
 have htl:tr < w.heap.size:=(Array.getElem?_eq_some_iff.1 hT.heap).1
 have HN:=Lib.hid (next_ok tr br rr dr pd cs D i eof fin th0 pf size qe w hT hr hg hP hpd hs hsz htb htd hrr he h0)
 clear hT hr hg hP he hs
 go_enter Tryz.func37,Tryz.ntmps37
 go_wp2_with fail
 refine HN.out.mono ?_
 rintro e w5 ⟨⟨hp,rv,f,rfl,hh,hx⟩,hr5,⟨rr5,cs5,ht5,hg5,hl5⟩,hc5⟩
 have c515:w5.cell? ⟨tr,515,none⟩=some .nilIface:=by rw [cell_heap ht5.heap];exact ht5.c515
 have f515:w5.frozen? ⟨tr,515,none⟩=false:=frozen_heap ht5.heap 515
 have hpt:hp≠tr:=by
  rintro rfl
  have h1:=ht5.heap
  rw [show w5.heap[hp]? =_ from hh] at h1
  injection h1 with h1
  injection h1 with h1 h2 h3
  exact absurd h2 (by decide)
 have kk:Chg [tr] w5 (w5.setCell ⟨tr,515,none⟩ .nilIface):=(Chg.refl _ w5).setCell (by simp) _
 have H1:=Lib.hid (hh.chg kk (by simpa using hpt))
 have H2:=Lib.hid (hx.chg kk (by intro i hi;simp at hi;omega))
 have H3:=Lib.hid (hr5.chg kk (by simpa using Ne.symm htb) (by simpa using Ne.symm htd))
 have H4:=Lib.hid ht5.setErr
 have H5:=Lib.hid (hg5.chg kk (by simp;omega))
 have HC5:=Lib.hid hc5
 clear hh hx hr5 ht5 hg5 hc5 kk
 go_wp2
 go_ret2
 exact ⟨⟨hp,rv,f,rfl,H1.out,H2.out⟩,H3.out,⟨rr5,_,H4.out,H5.out,hl5⟩,HC5.out.setCell (by simp) _⟩
end Go.Proofs.YtkanmkcojlefbaaGreatDoor
namespace Go.Proofs.YtkanmkcojlefbaaGreatDoor
open Go.RowKit
def TextR (s:ByteArray) (n:Nat) (f:Int):Prop:=has s.data.toList 0=false∧(f=1→ascii s.data.toList=true∧s.size≤n)
set_option maxRecDepth 100000 in
theorem text_any (s:ByteArray) (n:Nat) (f:Int) (w:World) (hs:s.size≤140737488355328) (hn:n≤256) (hf:f=1∨f=2∨f=3):Calls Tryz.prog 54 #[.string s,.int .i64 n,.int .i64 f] w fun e w'=>RetV e (TextR s n f)∧w=w':=by
 rcases hf with rfl | rfl | rfl
 all_goals
  go_enter Tryz.func54,Tryz.ntmps54
  go_wp2_with (first
   | (go_at_call 82;refine (sNUL_any s _ hs).mono ?_;rintro e w1 ⟨⟨b1,rfl,hb1⟩,rfl⟩;have HB1:=Lib.hid hb1;clear hb1)
   | (go_at_call 83;refine (sASCII_any s _ hs).mono ?_;rintro e w1 ⟨⟨b2,rfl,hb2⟩,rfl⟩;have HB2:=Lib.hid hb2;clear hb2)
   | (go_at_call 21;refine (utf8_any s _ hs).mono ?_;rintro e w1 ⟨⟨b3,rfl,hb3⟩,rfl⟩;have HB3:=Lib.hid hb3;clear hb3)
   | (go_at_call 55;refine (when_any _ _).mono ?_;rintro e w1 ⟨⟨v,rfl,hv⟩,rfl⟩;have HV:=Lib.hid hv;clear hv))
  all_goals
   go_ret
   first
    | exact ⟨RetV.zero,rfl⟩
    | exact ⟨RetV.one ⟨HB1.out (by assumption),fun h=>absurd h (by decide)⟩,rfl⟩
    | exact ⟨⟨v,rfl,HV.out.mono (fun hb=>⟨HB1.out (by assumption),fun _=>⟨HB2.out (by assumption),of_decide_eq_true hb⟩⟩)⟩,rfl⟩
    | exact ⟨⟨v,rfl,HV.out.mono (fun hb=>by cases hb)⟩,rfl⟩
theorem cells_new (xs:List Int) (w:World) (T:TypeId):∀j (h:j < xs.length),(w.alloc (.cells (xs.map (Value.int .i64 ·)).toArray T)).cell? ⟨w.heap.size,j,none⟩=some (.int .i64 xs[j]):=by
 intro j h
 rw [World.cell?_alloc_new,List.getElem?_toArray,List.getElem?_map,List.getElem?_eq_getElem h]
 rfl
theorem VR.val {v:Int} {P:Prop} (h:VR v P):v=0∨v=1∨v=2:=h.1
structure OwnerR (s:ByteArray) (f:Int):Prop where
 tx:TextR s 32 f
 gnu:f=3→s.size≤32
 no32:f≠2→s.size≠32
set_option maxRecDepth 100000 in
theorem owner_any (s:ByteArray) (f:Int) (w:World) (hs:s.size≤140737488355328) (hf:f=1∨f=2∨f=3):Calls Tryz.prog 58 #[.string s,.int .i64 f] w fun e w'=>RetV e (OwnerR s f)∧Chg [] w w':=by
 have HF:=Lib.hid hf
 by_cases h32:s.size=32
 ·have hb:((s.size:Int) == 32)=true:=by rw [h32];rfl
  have hl:¬(32:Int) < s.size:=by omega
  have HE:=Lib.hid h32
  clear h32
  rcases hf with rfl | rfl | rfl
  all_goals
   go_enter Tryz.func58,Tryz.ntmps58
   go_wp2_with (first
    | (go_at_call 54;refine (text_any s 32 _ _ hs (by decide) HF.out).mono ?_;rintro e w1 ⟨⟨v,rfl,hv⟩,rfl⟩;have hv1:=hv.val;have HV:=Lib.hid hv;clear hv)
    | (go_at_call 57;refine (all_any _ 2 2 [v,0] _ rfl (by decide) (by decide) (by decide) (cells_new [v,0] _ _) (by simp;exact hv1)).mono ?_;rintro e w1 ⟨⟨x,rfl,hx⟩,rfl⟩;have HX:=Lib.hid hx;clear hx))
   go_ret
   first
    | exact ⟨⟨x,rfl,HX.out.mono (fun h=>absurd (h 0 (by simp)) (by decide))⟩,(Chg.refl _ w).alloc _⟩
    | exact ⟨⟨v,rfl,HV.out.mono (fun h=>⟨h,fun e=>absurd e (by decide),fun e=>absurd rfl e⟩)⟩,Chg.refl _ w⟩
 ·have hb:((s.size:Int) == 32)=false:=by
   simp only [beq_eq_false_iff_ne,ne_eq];omega
  have HE:=Lib.hid h32
  clear h32
  by_cases hl:(32:Int) < s.size
  all_goals
   rcases hf with rfl | rfl | rfl
   all_goals
    go_enter Tryz.func58,Tryz.ntmps58
    go_wp2_with (first
     | (go_at_call 54;refine (text_any s 32 _ _ hs (by decide) HF.out).mono ?_;rintro e w1 ⟨⟨v,rfl,hv⟩,rfl⟩;have hv1:=hv.val;have HV:=Lib.hid hv;clear hv))
    go_ret
    first
     | exact ⟨RetV.two,Chg.refl _ w⟩
     | exact ⟨⟨v,rfl,HV.out.mono (fun h=>⟨h,fun e=>by first | exact absurd e (by decide) | omega,fun _=>HE.out⟩)⟩,Chg.refl _ w⟩
structure SmallR (n f:Int) (pax:Bool):Prop where
 gnu:f=3→0≤n∧n < 72057594037927936
 px:f=2→pax=true→0≤n
 oct:f=1∨(f=2∧pax=false)→0≤n∧n < 2097152
theorem SmallR.g {n:Int} {pax:Bool} (h0:0≤n) (h1:n < 72057594037927936):SmallR n 3 pax:=⟨fun _=>⟨h0,h1⟩,fun h=>absurd h (by decide),fun h=>by simp at h⟩
theorem SmallR.p {n:Int} (h0:0≤n):SmallR n 2 true:=⟨fun h=>absurd h (by decide),fun _ _=>h0,fun h=>by simp at h⟩
theorem SmallR.o1 {n:Int} {pax:Bool} (h0:0≤n) (h1:n < 2097152):SmallR n 1 pax:=⟨fun h=>absurd h (by decide),fun h=>absurd h (by decide),fun _=>⟨h0,h1⟩⟩
theorem SmallR.o2 {n:Int} (h0:0≤n) (h1:n < 2097152):SmallR n 2 false:=⟨fun h=>absurd h (by decide),fun _ h=>(by cases h),fun _=>⟨h0,h1⟩⟩
theorem beqT {a b:Int} (h:a=b):(a == b)=true:=beq_iff_eq.2 h
theorem beqF {a b:Int} (h:¬a=b):(a == b)=false:=beq_eq_false_iff_ne.2 h
theorem bneT {a b:Int} (h:¬a=b):(a != b)=true:=bne_iff_ne.2 h
theorem bneF {a b:Int} (h:a=b):(a != b)=false:=by rw [h];simp
set_option maxRecDepth 100000 in
theorem small_any (n f:Int) (pax:Bool) (w:World) (hf:f=1∨f=2∨f=3):Calls Tryz.prog 59 #[.int .i64 n,.int .i64 f,.bool pax] w fun e w'=>RetV e (SmallR n f pax)∧w=w':=by
 rcases hf with rfl | rfl | rfl
 all_goals cases pax
 all_goals
  go_enter Tryz.func59,Tryz.ntmps59
  go_wp2_with (first
   | (go_at_call 55;refine (when_any _ _).mono ?_;rintro e w1 ⟨⟨v,rfl,hv⟩,rfl⟩;have HV:=Lib.hid hv;clear hv))
  all_goals
   go_ret
   first
    | exact ⟨RetV.zero,rfl⟩
    | exact ⟨RetV.one (SmallR.p (by assumption)),rfl⟩
    | exact ⟨⟨v,rfl,HV.out.mono (fun hb=>SmallR.g (by assumption) (of_decide_eq_true hb))⟩,rfl⟩
    | exact ⟨⟨v,rfl,HV.out.mono (fun hb=>SmallR.o1 (by assumption) (of_decide_eq_true hb))⟩,rfl⟩
    | exact ⟨⟨v,rfl,HV.out.mono (fun hb=>SmallR.o2 (by assumption) (of_decide_eq_true hb))⟩,rfl⟩
    | exact ⟨⟨v,rfl,HV.out.mono (fun hb=>by cases hb)⟩,rfl⟩
def MomR (s ns f:Int):Prop:=-100000000000000000≤s∧s≤100000000000000000∧(f≠2→ns=0)
set_option maxRecDepth 100000 in
theorem moment_any (s ns f:Int) (w:World) (hf:f=1∨f=2∨f=3):Calls Tryz.prog 60 #[.agg #[.int .i64 s,.int .i64 ns],.int .i64 f] w fun e w'=>RetV e (MomR s ns f)∧Chg [] w w':=by
 rcases hf with rfl | rfl | rfl
 all_goals
  by_cases h0:ns=0
  all_goals
   first
    | (have hb:=bneF h0;have HZ:=Lib.hid h0;clear h0)
    | (have hb:=bneT h0;have HZ:=Lib.hid h0;clear h0)
   go_enter Tryz.func60,Tryz.ntmps60
   go_wp2
   all_goals
    go_ret
    first
     | exact ⟨RetV.zero,(Chg.refl _ w).alloc _⟩
     | exact ⟨RetV.one ⟨by omega,by omega,fun _=>HZ.out⟩,(Chg.refl _ w).alloc _⟩
     | exact ⟨RetV.one ⟨by omega,by omega,fun h=>absurd rfl h⟩,(Chg.refl _ w).alloc _⟩
def OddR (s ns:Int):Prop:=¬(s=-62135596800∧ns=0)∧0≤ns∧ns≤999999999
set_option maxRecDepth 100000 in
theorem odd_any (s ns:Int) (w:World):Calls Tryz.prog 52 #[.agg #[.int .i64 s,.int .i64 ns]] w fun e w'=>RetN e (OddR s ns)∧Chg [] w w':=by
 by_cases h1:s=-62135596800
 all_goals
  by_cases h0:ns=0
  all_goals
   first
    | (have hs:=beqT h1;have HS:=Lib.hid h1;clear h1)
    | (have hs:=beqF h1;have HS:=Lib.hid h1;clear h1)
   first
    | (have hb:=beqT h0;have HZ:=Lib.hid h0;clear h0)
    | (have hb:=beqF h0;have HZ:=Lib.hid h0;clear h0)
   go_enter Tryz.func52,Tryz.ntmps52
   go_wp2
   all_goals
    go_ret
    first
     | exact ⟨RetN.yes,(Chg.refl _ w).alloc _⟩
     | (refine ⟨⟨_,rfl,fun hb=> ?_⟩,(Chg.refl _ w).alloc _⟩;have hs1:=HS.out;have hz1:=HZ.out;rw [Bool.or_eq_false_iff] at hb;have a1:=of_decide_eq_false hb.1;have a2:=of_decide_eq_false hb.2;exact ⟨by omega,by omega,by omega⟩)
structure RecR (k v:ByteArray):Prop where
 sparse:k.data.toList.take 11≠ [71,78,85,46,115,112,97,114,115,101,46]
 eq:has k.data.toList 61=false
 kpos:0 < k.size
 vpos:0 < v.size
 k0:has k.data.toList 0=false
 v0:has v.data.toList 0=false
 schily:k.data.toList.take 7≠ [83,67,72,73,76,89,46]
 vendor:∃a b:List UInt8,k.data.toList=a++46::b∧a≠ []∧∀c∈a,65≤c.toNat∧c.toNat≤90
theorem empty_of {s:ByteArray} (h:s.toList.isEmpty=false):0 < s.size:=by
 rw [Lib.toList_data] at h
 rw [Lib.size_eq]
 cases hx:s.data.toList with
 | nil=>rw [hx] at h;cases h
 | cons _ _=>simp
set_option maxRecDepth 100000 in
set_option maxHeartbeats 2000000 in
theorem recFits_any (k v : ByteArray) (w : World) (hk : k.size ≤ 140737488355328) (hv : v.size ≤ 140737488355328) : Calls Tryz.prog 61 #[.agg #[.string k, .string v]] w fun e w' => RetV e (RecR k v) ∧ Chg [] w w' := by
  go_enter Tryz.func61, Tryz.ntmps61
  go_wp2_with (go_at_call 85; refine (sparse_any k _ hk).mono ?_; rintro e w1 ⟨⟨b, rfl, hb⟩, rfl⟩; have HB := Lib.hid hb; clear hb)
  · go_ret
    exact ⟨RetV.zero, (Chg.refl _ w).alloc _⟩
  go_loop [14] (fun i => ∃ j : Nat, j ≤ k.size ∧ i = .int .i64 j ∧ has (k.data.toList.take j) 61 = false) (fun i => k.size - (intOf i).toNat)
  case atStart => exact ⟨0, by omega, rfl, rfl⟩
  case round =>
    obtain ⟨j, hj, rfl, hh⟩ := hrel
    have HH := Lib.hid hh
    clear hh
    by_cases hlt : j < k.size
    · have hll : j < k.data.toList.length := by simpa using hlt
      by_cases h0 : k[j] = 61
      · have hz' : (((k[j]).toNat : Int) == 61) = true := by rw [h0]; rfl
        clear h0
        go_wp2
        go_ret
        exact ⟨RetV.two, (Chg.refl _ w).alloc _⟩
      · have hz' : (((k[j]).toNat : Int) == 61) = false := by
          simp only [beq_eq_false_iff_ne, ne_eq]
          intro e; exact h0 (UInt8.toNat_inj.1 (by show _ = 61; omega))
        go_wp2
        go_round
        case rel => exact ⟨j + 1, by omega, by go_num, has_take_succ hll HH.out h0⟩
        case measure => simp [intOf]; omega
    · have HQ : Hid (has k.data.toList 61 = false) := by
        have := HH.out
        rwa [List.take_of_length_le (by simp; omega)] at this
      clear HH
      by_cases hk0 : 0 < k.size
      · have e1 := neEmpty hk0
        have e1' : ¬ k.toList = [] := by intro e; rw [e] at e1; cases e1
        by_cases hv0 : 0 < v.size
        · have e2 := neEmpty hv0
          have e2' : ¬ v.toList = [] := by intro e; rw [e] at e2; cases e2
          by_cases h7 : (7 : Int) ≤ k.size
          all_goals
            have H7 := Lib.hid h7
            go_wp2_with (first
              | (go_at_call 21; refine (utf8_any _ _ (by first | exact hk | exact hv)).mono ?_; rintro e w1 ⟨⟨b, rfl, hb⟩, rfl⟩; have HU := Lib.hid hb; clear hb)
              | (go_at_call 86; refine (cut_any k 46 _ hk).mono ?_; rintro e w2 ⟨⟨a, b, f, rfl, hab, hf⟩, hc2⟩; have HC2 := Lib.hid hc2; have HF := Lib.hid hf; clear hc2 hf; have ha : a.size ≤ 140737488355328 := (by omega)))
            all_goals
              first
                | (go_ret; first | exact ⟨RetV.zero, (Chg.refl _ w).alloc _⟩ | exact ⟨RetV.zero, ((Chg.refl _ w).alloc _).trans HC2.out⟩)
                | skip
            subst_vars
            obtain ⟨q1, q2⟩ : a.toList.isEmpty = false ∧ b.toList.isEmpty = false := by assumption
            simp only [q1, q2, Bool.or_self]
            go_loop [72] (fun i => ∃ j : Nat, j ≤ a.size ∧ i = .int .i64 j ∧ ∀ c ∈ a.data.toList.take j, 65 ≤ c.toNat ∧ c.toNat ≤ 90) (fun i => a.size - (intOf i).toNat)
            case atStart => exact ⟨0, by omega, rfl, by simp⟩
            case round =>
              obtain ⟨j, hj, rfl, hh⟩ := hrel
              have HH := Lib.hid hh
              clear hh
              by_cases hlt : j < a.size
              · have hll : j < a.data.toList.length := by simpa using hlt
                have hget : a.data.toList[j] = a[j] := rfl
                have HG := Lib.hid hget
                clear hget
                go_wp2
                all_goals
                  first
                    | (go_ret; exact ⟨RetV.zero, ((Chg.refl _ w).alloc _).trans HC2.out⟩)
                    | skip
                · go_round
                  case rel =>
                    refine ⟨j + 1, by omega, by go_num, ?_⟩
                    rw [List.take_succ_eq_append_getElem hll, HG.out]
                    intro c hc
                    rcases List.mem_append.1 hc with hc | hc
                    · exact HH.out c hc
                    · rw [List.mem_singleton] at hc
                      subst hc
                      exact ⟨by omega, by omega⟩
                  case measure => simp [intOf]; omega
              · go_wp2
                go_ret
                refine ⟨RetV.one ⟨HB.out trivial, HQ.out, hk0, hv0, (‹Hid (True → has k.data.toList 0 = false)›).out trivial, (‹Hid (True → has v.data.toList 0 = false)›).out trivial, ?_, a.data.toList, b.data.toList, HF.out trivial, ?_, ?_⟩, ((Chg.refl _ w).alloc _).trans HC2.out⟩
                · intro e
                  first
                    | (have hz : ((k.extract 0 7).toList == [83, 67, 72, 73, 76, 89, 46]) = false := (by assumption)
                       rw [take_eq, e] at hz
                       cases hz)
                    | (have hz := congrArg List.length e
                       simp at hz
                       omega)
                · intro e
                  have hz : ¬ a.toList = [] := by assumption
                  exact hz (by rw [Lib.toList_data]; exact e)
                · intro c hc
                  exact HH.out c (by rw [List.take_of_length_le (by simp; omega)]; exact hc)
        · have e2 := isEmpty0 hv0
          have e2' : v.toList = [] := List.isEmpty_iff.1 e2
          go_wp2
          go_ret
          exact ⟨RetV.zero, (Chg.refl _ w).alloc _⟩
      · have e1 := isEmpty0 hk0
        have e1' : k.toList = [] := List.isEmpty_iff.1 e1
        go_wp2
        go_ret
        exact ⟨RetV.two, (Chg.refl _ w).alloc _⟩
end Go.Proofs.YtkanmkcojlefbaaGreatDoor
namespace Go.Proofs.YtkanmkcojlefbaaGreatDoor
open Go.RowKit
structure SH where
 tf:UInt8
 name:ByteArray
 link:ByteArray
 size:Int
 mode:Int
 uid:Int
 gid:Int
 un:ByteArray
 gn:ByteArray
 ms:Int
 mn:Int
 ha:Bool
 hc:Bool
 ats:Int
 atn:Int
 cts:Int
 ctn:Int
 dj:Int
 dn:Int
 ra:Option Addr
 rn:Nat
 rc:Nat
 fmt:Int
def SH.cells (h:SH):Array Value:=#[.int .u8 h.tf.toNat,.string h.name,.string h.link,.int .i64 h.size,.int .i64 h.mode,.int .i64 h.uid,.int .i64 h.gid,.string h.un,.string h.gn,.int .i64 h.ms,.int .i64 h.mn,.bool h.ha,.bool h.hc,.int .i64 h.ats,.int .i64 h.atn,.int .i64 h.cts,.int .i64 h.ctn,.int .i64 h.dj,.int .i64 h.dn,.slice h.ra h.rn h.rc,.int .i64 h.fmt]
abbrev SH.agg (h:SH):Value:=.agg h.cells
def promTf (h:SH):UInt8:=if h.tf=0 then (if slashB h.name=true then 53 else 48) else h.tf
def SH.prom (h:SH):SH:={ h with tf:=promTf h }
theorem s31:(Tryz.prog.info? 31).map (·.size)=some 21:=by kernel_rfl
theorem heap_alloc_new' (w:World) (o o':Obj):((w.alloc o).alloc o').heap[w.heap.size+1]? =some o':=by
 have:=heap_alloc_new (w.alloc o) o'
 rwa [show (w.alloc o).heap.size=w.heap.size+1 from Array.size_push _] at this
theorem ret31 {fn:Func} {p:Tmp} (h:fn.results=#[.cell p 31]) (tmps:Array Value) (w:World) (g:Nat) (cs:Array Value) (ht:tmps.getD p undef=.pointer (some ⟨g,0,none⟩)) (hg:w.heap[g]? =some (.cells cs 31 (0,0))) (hs:cs.size=21) :
  (results fn tmps).run Tryz.prog w=.ok (.agg cs) w:=results_cell_row h tmps w g 31 cs (0,0) _ ht hg Tryz.underlying31 rfl (by rw [hs];exact s31)
theorem load31 {ops:Array Oper} {rest:List Oper} {o:Oper} {a:Act} {w:World} {Q:Exit→Act→World→Prop} (x:Operand) (g:Nat) (cs:Array Value) (hgd:o.guard=none) (ho:o.op=.load 31 x) (hx:a.eval x=.pointer (some ⟨g,0,none⟩)) (hg:w.heap[g]? =some (.cells cs 31 (0,0))) (hs:cs.size=21)
  (h:wpList Tryz.prog ops Q rest (a.put o.dst (.agg cs)) w):wpList Tryz.prog ops Q (o::rest) a w:=
 wpList_load_row hgd 31 x ho g hx 31 cs (0,0) _ hg Tryz.underlying31 rfl (by rw [hs];exact s31) h
theorem store31 {ops:Array Oper} {rest:List Oper} {o:Oper} {a:Act} {w:World} {Q:Exit→Act→World→Prop} (x y:Operand) (g:Nat) (cs old:Array Value) (hgd:o.guard=none) (ho:o.op=.store 31 x y) (hx:a.eval x=.pointer (some ⟨g,0,none⟩)) (hy:a.eval y=.agg cs) (hg:w.heap[g]? =some (.cells old 31 (0,0))) (hs:cs.size=21) (hs':old.size=21)
  (h1:cs.all (·.oneCell')=true) (h:wpList Tryz.prog ops Q rest (a.put o.dst undef) (w.setRow g cs)):wpList Tryz.prog ops Q (o::rest) a w:=
 wpList_store_row hgd 31 x y ho g cs hx hy 31 old hg (by rw [hs];exact s31) (by rw [hs,hs']) h1 h
set_option maxRecDepth 100000 in
set_option maxHeartbeats 400000 in
theorem promoted_any (h:SH) (w:World) (hn:h.name.size≤140737488355328):Calls Tryz.prog 26 #[h.agg] w fun e w'=>e=.returned h.prom.agg∧Chg [] w w':=by
 have hp:h.prom={ h with tf:=promTf h }:=rfl
 by_cases h0:h.tf=0
 ·have hb:(((h.tf).toNat:Int) == 0)=true:=by rw [h0];rfl
  have hpt:promTf h=if slashB h.name=true then 53 else 48:=if_pos h0
  rw [hp,hpt]
  clear hp hpt h0
  cases hs:slashB h.name
  all_goals
   simp only [if_true,Bool.false_eq_true,if_false]
   generalize hx:Ending.returned (SH.agg { h with tf:=_ })=x
   have HX:=Lib.hid hx;have HS:=Lib.hid hs
   clear hx hs
   obtain ⟨tf,name,link,size,mode,uid,gid,un,gn,ms,mn,ha,hc,ats,atn,cts,ctn,dj,dn,ra,rn,rc,fmt⟩:=h
   simp only [SH.agg,SH.cells] at*
   go_enter Tryz.func26,Tryz.ntmps26
   go_upto_region 5 with (go_at_call 53;refine (slashed_any _ _ hn).mono ?_;rw [HS.out];rintro e w1 ⟨rfl,rfl⟩)
   refine wp_region_lit ?_
   refine load31 (.tmp 1) w.heap.size _ rfl rfl rfl (heap_alloc2_old _ _ _) rfl ?_
   refine store31 (.tmp 2) (.tmp 11) (w.heap.size+1) _ _ rfl rfl rfl rfl (heap_alloc2_new _ _ _) rfl rfl (by simp [Value.oneCell']) ?_
   go_wp2
   refine bodyPost_ret (ret31 rfl _ _ (w.heap.size+1) _ rfl (setRow_heap _ _ _ _ _ _ (heap_alloc2_new _ _ _)) rfl) rfl ?_
   exact ⟨HX.out,(((Chg.refl [] w).alloc _).alloc _).setRow (.inr (by omega)) _⟩
 ·have hb:(((h.tf).toNat:Int) == 0)=false:=by
   simp only [beq_eq_false_iff_ne,ne_eq]
   intro e;exact h0 (UInt8.toNat_inj.1 (by show _=0;omega))
  have hpt:promTf h=h.tf:=if_neg h0
  rw [hp,hpt]
  clear hp hpt h0
  generalize hx:Ending.returned (SH.agg { h with tf:=h.tf })=x
  have HX:=Lib.hid hx
  clear hx
  obtain ⟨tf,name,link,size,mode,uid,gid,un,gn,ms,mn,ha,hc,ats,atn,cts,ctn,dj,dn,ra,rn,rc,fmt⟩:=h
  simp only [SH.agg,SH.cells] at*
  go_enter Tryz.func26,Tryz.ntmps26
  go_upto_region 5 with (fail)
  refine wp_region_lit ?_
  refine load31 (.tmp 1) w.heap.size _ rfl rfl rfl (heap_alloc2_old _ _ _) rfl ?_
  refine store31 (.tmp 2) (.tmp 11) (w.heap.size+1) _ _ rfl rfl rfl rfl (heap_alloc2_new _ _ _) rfl rfl (by simp [Value.oneCell']) ?_
  go_wp2
  refine bodyPost_ret (ret31 rfl _ _ (w.heap.size+1) _ rfl (setRow_heap _ _ _ _ _ _ (heap_alloc2_new _ _ _)) rfl) rfl ?_
  exact ⟨HX.out,(((Chg.refl [] w).alloc _).alloc _).setRow (.inr (by omega)) _⟩
def RecsIn (a:Option Addr) (n c:Nat) (l:List (ByteArray×ByteArray)) (w:World):Prop:=
 l.length=n∧n≤c∧c≤maxLen∧(n=0∨∃b off,a=some ⟨b,off,none⟩∧∀j (h:j < l.length),w.cell? ⟨b,off+j*2,none⟩=some (.string (l[j]).1)∧w.cell? ⟨b,off+j*2+1,none⟩=some (.string (l[j]).2))
theorem RecsIn.chg {a:Option Addr} {n c:Nat} {l:List (ByteArray×ByteArray)} {w w':World} (h:RecsIn a n c l w) (k:Chg [] w w'):RecsIn a n c l w':=by
 obtain ⟨h1,h2,h3,h4⟩:=h
 refine ⟨h1,h2,h3,h4.imp id fun ⟨b,off,e,hc⟩=>⟨b,off,e,fun j hj=> ?_⟩⟩
 exact ⟨k.cell (hc j hj).1 (by simp),k.cell (hc j hj).2 (by simp)⟩
def sumR (l:List (ByteArray×ByteArray)):Nat:=(l.map fun p=>p.1.size+p.2.size+24).sum
theorem sumR_take (l:List (ByteArray×ByteArray)) (j:Nat) (h:j < l.length):sumR (l.take (j+1))=sumR (l.take j)+((l[j]).1.size+(l[j]).2.size+24):=by
 unfold sumR
 rw [List.take_succ_eq_append_getElem h,List.map_append,List.sum_append]
 simp
theorem sumR_le (l:List (ByteArray×ByteArray)) (j:Nat):sumR (l.take j)≤sumR l:=by
 unfold sumR
 conv=>rhs;rw [←List.take_append_drop j l]
 rw [List.map_append,List.sum_append]
 omega
structure PlainR (h:SH) (l:List (ByteArray×ByteArray)):Prop where
 sum:h.name.size+h.link.size+h.un.size+h.gn.size+sumR l≤524288
 fmt:0≤h.fmt∧h.fmt≤3
 mod:OddR h.ms h.mn
 acc:h.ha=true→OddR h.ats h.atn
 chn:h.hc=true→OddR h.cts h.ctn
set_option maxRecDepth 100000 in
set_option maxHeartbeats 1000000 in
theorem strange_any (h:SH) (l:List (ByteArray×ByteArray)) (w:World) (hl:h.name.size+h.link.size+h.un.size+h.gn.size+sumR l≤1099511627776) (hR:RecsIn h.ra h.rn h.rc l w):Calls Tryz.prog 25 #[h.agg] w fun e w'=>RetN e (PlainR h l)∧Chg [] w w':=by
 obtain ⟨P,hP⟩:∃P,P=PlainR h l:=⟨_,rfl⟩
 rw [←hP]
 have HP:=Lib.hid hP
 clear hP
 obtain ⟨tf,name,link,size,mode,uid,gid,un,gn,ms,mn,ha,hc,ats,atn,cts,ctn,dj,dn,ra,rn,rc,fmt⟩:=h
 simp only [SH.agg,SH.cells] at*
 obtain ⟨r1,r2,r3,r4⟩:=hR
 have HR1:=Lib.hid r1
 unfold maxLen at r3
 clear r1
 rcases r4 with rfl | ⟨bb,off,rfl,hcell⟩
 ·go_enter Tryz.func25,Tryz.ntmps25
  go_wp2
  have hkw:Chg [] w (w.alloc (.cells #[.int .u8 tf.toNat,.string name,.string link,.int .i64 size,.int .i64 mode,.int .i64 uid,.int .i64 gid,.string un,.string gn,.int .i64 ms,.int .i64 mn,.bool ha,.bool hc,.int .i64 ats,.int .i64 atn,.int .i64 cts,.int .i64 ctn,.int .i64 dj,.int .i64 dn,.slice ra 0 rc,.int .i64 fmt] 31)):=(Chg.refl _ w).alloc _
  have hbw:=heap_alloc_new w (.cells #[.int .u8 tf.toNat,.string name,.string link,.int .i64 size,.int .i64 mode,.int .i64 uid,.int .i64 gid,.string un,.string gn,.int .i64 ms,.int .i64 mn,.bool ha,.bool hc,.int .i64 ats,.int .i64 atn,.int .i64 cts,.int .i64 ctn,.int .i64 dj,.int .i64 dn,.slice ra 0 rc,.int .i64 fmt] 31)
  generalize w.alloc (.cells #[.int .u8 tf.toNat,.string name,.string link,.int .i64 size,.int .i64 mode,.int .i64 uid,.int .i64 gid,.string un,.string gn,.int .i64 ms,.int .i64 mn,.bool ha,.bool hc,.int .i64 ats,.int .i64 atn,.int .i64 cts,.int .i64 ctn,.int .i64 dj,.int .i64 dn,.slice ra 0 rc,.int .i64 fmt] 31)=w0 at hkw hbw⊢
  have HKW:=Lib.hid hkw;have HBW:=Lib.hid hbw
  clear hkw hbw
  go_loopw [3,24] (fun v i wr=>∃j:Nat,j≤0∧i=.int .i64 j∧v=.int .i64 ((name.size+link.size+un.size+gn.size+sumR (l.take j):Nat))∧Chg [] w0 wr) (fun _ i _=>0 - (intOf i).toNat)
  case atStart=>exact ⟨0,by omega,rfl,by simp [sumR],Chg.refl _ _⟩
  case round=>
   obtain ⟨j,hj,rfl,rfl,hch⟩:=hrel
   by_cases hlt:j < 0
   ·exfalso;omega
   ·obtain rfl:j=0:=by omega
    have htk:l.take 0=l:=List.take_of_length_le (by rw [HR1.out];omega)
    rw [htk]
    generalize hS:name.size+link.size+un.size+gn.size+sumR l=S at hl⊢
    have HS:=Lib.hid hS
    have HB:=Lib.hid (hch.heap HBW.out (by simp));have HCH:=Lib.hid (HKW.out.trans hch)
    clear hch htk hS
    have c20:=cell_heap HB.out 20;have c9:=cell_heap HB.out 9;have c10:=cell_heap HB.out 10;have c11:=cell_heap HB.out 11;have c12:=cell_heap HB.out 12;have c13:=cell_heap HB.out 13;have c14:=cell_heap HB.out 14;have c15:=cell_heap HB.out 15;have c16:=cell_heap HB.out 16;simp only [List.getElem?_toArray,List.getElem?_cons_succ,List.getElem?_cons_zero] at c20 c9 c10 c11 c12 c13 c14 c15 c16
    go_wp2_with (go_at_call 52;refine (odd_any _ _ _).mono ?_;rintro e w2 ⟨⟨b,rfl,hb⟩,hc2⟩;have HO:=Lib.hid hb;have HB':=Lib.hid (hc2.heap HB.out (by simp));have HCH':=Lib.hid (HCH.out.trans hc2);clear HB HCH c20 c9 c10 c11 c12 c13 c14 c15 c16 hb hc2;have HB:=HB';have HCH:=HCH';clear HB' HCH';have c20:=cell_heap HB.out 20;have c9:=cell_heap HB.out 9;have c10:=cell_heap HB.out 10;have c11:=cell_heap HB.out 11;have c12:=cell_heap HB.out 12;have c13:=cell_heap HB.out 13;have c14:=cell_heap HB.out 14;have c15:=cell_heap HB.out 15;have c16:=cell_heap HB.out 16;simp only [List.getElem?_toArray,List.getElem?_cons_succ,List.getElem?_cons_zero] at c20 c9 c10 c11 c12 c13 c14 c15 c16)
    all_goals
     go_ret
     first
      | exact ⟨RetN.yes,HCH.out⟩
      | skip
    all_goals
     refine ⟨⟨_,rfl,fun hb=> ?_⟩,HCH.out⟩
     rw [HP.out]
     refine ⟨?_,⟨by assumption,by assumption⟩,?_,?_,?_⟩
     ·have:=HS.out
      show name.size+link.size+un.size+gn.size+sumR l≤524288
      omega
     ·first
       | exact (‹Hid (_=false→OddR ms mn)›).out hb
       | exact (‹Hid (_=false→OddR ms mn)›).out (Bool.or_eq_false_iff.1 hb).2
       | exact (‹Hid (_=false→OddR ms mn)›).out (Bool.eq_false_iff.2 (by assumption))
     ·first
       | exact fun h=>absurd h (by assumption)
       | exact fun _=>(‹Hid (_=false→OddR ats atn)›).out hb
       | exact fun _=>(‹Hid (_=false→OddR ats atn)›).out (Bool.or_eq_false_iff.1 hb).2
       | exact fun _=>(‹Hid (_=false→OddR ats atn)›).out (Bool.eq_false_iff.2 (by assumption))
     ·first
       | exact fun h=>absurd h (by assumption)
       | exact fun _=>(‹Hid (_=false→OddR cts ctn)›).out hb
       | exact fun _=>(‹Hid (_=false→OddR cts ctn)›).out (Bool.or_eq_false_iff.1 hb).2
       | exact fun _=>(‹Hid (_=false→OddR cts ctn)›).out (Bool.eq_false_iff.2 (by assumption))
 ·have HCE:=Lib.hid hcell
  clear hcell
  go_enter Tryz.func25,Tryz.ntmps25
  go_wp2
  have hkw:Chg [] w (w.alloc (.cells #[.int .u8 tf.toNat,.string name,.string link,.int .i64 size,.int .i64 mode,.int .i64 uid,.int .i64 gid,.string un,.string gn,.int .i64 ms,.int .i64 mn,.bool ha,.bool hc,.int .i64 ats,.int .i64 atn,.int .i64 cts,.int .i64 ctn,.int .i64 dj,.int .i64 dn,.slice (some ⟨bb,off,none⟩) rn rc,.int .i64 fmt] 31)):=(Chg.refl _ w).alloc _
  have hbw:=heap_alloc_new w (.cells #[.int .u8 tf.toNat,.string name,.string link,.int .i64 size,.int .i64 mode,.int .i64 uid,.int .i64 gid,.string un,.string gn,.int .i64 ms,.int .i64 mn,.bool ha,.bool hc,.int .i64 ats,.int .i64 atn,.int .i64 cts,.int .i64 ctn,.int .i64 dj,.int .i64 dn,.slice (some ⟨bb,off,none⟩) rn rc,.int .i64 fmt] 31)
  generalize w.alloc (.cells #[.int .u8 tf.toNat,.string name,.string link,.int .i64 size,.int .i64 mode,.int .i64 uid,.int .i64 gid,.string un,.string gn,.int .i64 ms,.int .i64 mn,.bool ha,.bool hc,.int .i64 ats,.int .i64 atn,.int .i64 cts,.int .i64 ctn,.int .i64 dj,.int .i64 dn,.slice (some ⟨bb,off,none⟩) rn rc,.int .i64 fmt] 31)=w0 at hkw hbw⊢
  have HKW:=Lib.hid hkw;have HBW:=Lib.hid hbw
  clear hkw hbw
  go_loopw [3,24] (fun v i wr=>∃j:Nat,j≤rn∧i=.int .i64 j∧v=.int .i64 ((name.size+link.size+un.size+gn.size+sumR (l.take j):Nat))∧Chg [] w0 wr) (fun _ i _=>rn - (intOf i).toNat)
  case atStart=>exact ⟨0,by omega,rfl,by simp [sumR],Chg.refl _ _⟩
  case round=>
   obtain ⟨j,hj,rfl,rfl,hch⟩:=hrel
   by_cases hlt:j < rn
   ·have hlt':(j:Int) < rn:=by omega
    have hll:j < l.length:=by rw [HR1.out];exact hlt
    have hc1:=(HKW.out.trans hch).cell (HCE.out j hll).1 (by simp)
    have hc2:=(HKW.out.trans hch).cell (HCE.out j hll).2 (by simp)
    have hst:=sumR_take l j hll
    have hsl:=sumR_le l (j+1)
    rw [hst] at hsl
    generalize l[j]=kv at hc1 hc2 hst hsl
    obtain ⟨k,v⟩:=kv
    simp only at hc1 hc2 hst hsl
    have HST:=Lib.hid hst;have HCH:=Lib.hid hch
    clear hst hch
    go_wp2
    go_roundw
    case rel=>exact ⟨j+1,by omega,by go_num,by rw [HST.out];go_num,HCH.out.alloc _⟩
    case measure=>simp [intOf];omega
   ·obtain rfl:j=rn:=by omega
    have hx:¬((j:Int) < j):=by omega
    have htk:l.take j=l:=List.take_of_length_le (by rw [HR1.out];omega)
    rw [htk]
    generalize hS:name.size+link.size+un.size+gn.size+sumR l=S at hl⊢
    have HS:=Lib.hid hS
    have HB:=Lib.hid (hch.heap HBW.out (by simp));have HCH:=Lib.hid (HKW.out.trans hch)
    clear hch htk hS
    have c20:=cell_heap HB.out 20;have c9:=cell_heap HB.out 9;have c10:=cell_heap HB.out 10;have c11:=cell_heap HB.out 11;have c12:=cell_heap HB.out 12;have c13:=cell_heap HB.out 13;have c14:=cell_heap HB.out 14;have c15:=cell_heap HB.out 15;have c16:=cell_heap HB.out 16;simp only [List.getElem?_toArray,List.getElem?_cons_succ,List.getElem?_cons_zero] at c20 c9 c10 c11 c12 c13 c14 c15 c16
    go_wp2_with (go_at_call 52;refine (odd_any _ _ _).mono ?_;rintro e w2 ⟨⟨b,rfl,hb⟩,hc2⟩;have HO:=Lib.hid hb;have HB':=Lib.hid (hc2.heap HB.out (by simp));have HCH':=Lib.hid (HCH.out.trans hc2);clear HB HCH c20 c9 c10 c11 c12 c13 c14 c15 c16 hb hc2;have HB:=HB';have HCH:=HCH';clear HB' HCH';have c20:=cell_heap HB.out 20;have c9:=cell_heap HB.out 9;have c10:=cell_heap HB.out 10;have c11:=cell_heap HB.out 11;have c12:=cell_heap HB.out 12;have c13:=cell_heap HB.out 13;have c14:=cell_heap HB.out 14;have c15:=cell_heap HB.out 15;have c16:=cell_heap HB.out 16;simp only [List.getElem?_toArray,List.getElem?_cons_succ,List.getElem?_cons_zero] at c20 c9 c10 c11 c12 c13 c14 c15 c16)
    all_goals
     go_ret
     first
      | exact ⟨RetN.yes,HCH.out⟩
      | skip
    all_goals
     refine ⟨⟨_,rfl,fun hb=> ?_⟩,HCH.out⟩
     rw [HP.out]
     refine ⟨?_,⟨by assumption,by assumption⟩,?_,?_,?_⟩
     ·have:=HS.out
      show name.size+link.size+un.size+gn.size+sumR l≤524288
      omega
     ·first
       | exact (‹Hid (_=false→OddR ms mn)›).out hb
       | exact (‹Hid (_=false→OddR ms mn)›).out (Bool.or_eq_false_iff.1 hb).2
       | exact (‹Hid (_=false→OddR ms mn)›).out (Bool.eq_false_iff.2 (by assumption))
     ·first
       | exact fun h=>absurd h (by assumption)
       | exact fun _=>(‹Hid (_=false→OddR ats atn)›).out hb
       | exact fun _=>(‹Hid (_=false→OddR ats atn)›).out (Bool.or_eq_false_iff.1 hb).2
       | exact fun _=>(‹Hid (_=false→OddR ats atn)›).out (Bool.eq_false_iff.2 (by assumption))
     ·first
       | exact fun h=>absurd h (by assumption)
       | exact fun _=>(‹Hid (_=false→OddR cts ctn)›).out hb
       | exact fun _=>(‹Hid (_=false→OddR cts ctn)›).out (Bool.or_eq_false_iff.1 hb).2
       | exact fun _=>(‹Hid (_=false→OddR cts ctn)›).out (Bool.eq_false_iff.2 (by assumption))
end Go.Proofs.YtkanmkcojlefbaaGreatDoor
namespace Go.Proofs.YtkanmkcojlefbaaGreatDoor
open Go.RowKit
def LongW (fl:UInt8) (s:ByteArray) (bs:List UInt8) (pad:Nat) (bs':List UInt8) (pad':Nat):Prop:=
 (s.size≤100∧bs'=bs∧pad'=pad)∨(100 < s.size∧∃b,RawBlk fl (s.size+1) b∧bs'=bs++List.replicate pad 0++sums (splice b.bytes 257 (magicOf true))++(s.data.toList++ [0])∧pad'=padOf (s.size+1))
structure GnuBlk (th:TH) (b:HB):Prop where
 ok:b.Ok
 tm:TmOk Fits NumOut th { b with px:=List.replicate 155 0 }
 px:∃at' ct',b.px=at'++ct'++List.replicate 131 0∧((th.ats=-62135596800∧th.atn=0∧at'=List.replicate 12 0)∨(¬(th.ats=-62135596800∧th.atn=0)∧NumOut 12 th.ats at'))∧
  ((th.cts=-62135596800∧th.ctn=0∧ct'=List.replicate 12 0)∨(¬(th.cts=-62135596800∧th.ctn=0)∧NumOut 12 th.cts ct'))
def GnuW:Prop:=∀(B:Nat) (sn:Nat→Addr) (kb tw b rw pad:Nat) (nb:Int) (th:TH) (L bs:List UInt8) (size:Nat) (w:World) (h:WS B sn kb tw b rw pad nb th L bs w) (hnb:nb≤0) (hlim:bs.length+pad+10000+th.name.size+th.link.size≤140737488355328) (hnm:th.name.size≤1073741824) (hlk:th.link.size≤1073741824)
  (hm:th.mn < 1000000000) (hs1 : -4000000000000000000≤th.ms) (hs2:th.ms≤4000000000000000000) (hma:th.atn < 1000000000) (ha1 : -4000000000000000000≤th.ats) (ha2:th.ats≤4000000000000000000) (hmc:th.ctn < 1000000000) (hc1 : -4000000000000000000≤th.cts) (hc2:th.cts≤4000000000000000000)
  (hQ:TmQ (fun _ s=>s.size≤140737488355328) (fun n x=>fitG n x∧-9223372036854775808≤x∧x < 9223372036854775808) th) (hsz:th.size=size) (hszl:size≤9223372036854775807),
  Calls Tryz.prog 69 #[.pointer (some ⟨tw,0,none⟩),.pointer (some ⟨tw,3,none⟩)] w fun e w'=>e=.returned .nilIface∧
   (∃rw' bs1 pad1 bs2 pad2 b0,LongW 76 th.name bs pad bs1 pad1∧LongW 75 th.link bs1 pad1 bs2 pad2∧GnuBlk th b0∧
    WS B sn kb tw b rw' (padOf (dataLen th.tf size)) (dataLen th.tf size) th (sums (splice b0.bytes 257 (magicOf true))) (bs2++List.replicate pad2 0++sums (splice b0.bytes 257 (magicOf true))) w')∧FrW B [tw,b] w w'
end Go.Proofs.YtkanmkcojlefbaaGreatDoor
namespace Go.Proofs.YtkanmkcojlefbaaGreatDoor
open Go.RowKit
def RecsAt (v:Value) (s:Nat) (R:KV) (w:World):Prop:=(v=.map none∧∀k,R k=none)∨∃b m,v=.map (some b)∧b < s∧MapS b m R w
structure AF (s:Nat) (th:TH) (R:KV) (u p g pf:Bool) (F:KV) (n:Nat) (w:World):Prop where
 hd:w.heap[s]? =some (.cells th.cells.toArray 130 (0,0))
 fm':w.heap[s+1]? =some (.cells #[.int .i64 (fm u p g)] 128 (0,0))
 mc:w.heap[s+2]? =some (.cells #[.map (some (s+3))] 127 (0,0))
 mp:MapS (s+3) n F w
 y4:∃x,w.heap[s+4]? =some (.cells #[.string x] 9 (0,0))
 y5:∃x,w.heap[s+5]? =some (.cells #[.string x] 9 (0,0))
 y6:∃x,w.heap[s+6]? =some (.cells #[.string x] 9 (0,0))
 b7:w.heap[s+7]? =some (.cells #[.bool pf] 4 (0,0))
 rc:RecsAt th.recs s R w
theorem RecsAt.chg {v:Value} {s:Nat} {R:KV} {S:List Nat} {w w':World} (h:RecsAt v s R w) (k:Chg S w w') (hS:∀i∈S,s≤i):RecsAt v s R w':=by
 rcases h with h | ⟨b,m,h1,h2,h3⟩
 ·exact .inl h
 ·exact .inr ⟨b,m,h1,h2,h3.chg k (fun hm=>by have:=hS b hm;omega)⟩
section
variable {s n:Nat} {th:TH} {R F:KV} {u p g pf:Bool} {w w':World}
theorem AF.chg0 (h:AF s th R u p g pf F n w) (k:Chg [] w w'):AF s th R u p g pf F n w':=
 ⟨k.heap h.hd (by simp),k.heap h.fm' (by simp),k.heap h.mc (by simp),h.mp.chg k (by simp),h.y4.imp fun _ e=>k.heap e (by simp),h.y5.imp fun _ e=>k.heap e (by simp),h.y6.imp fun _ e=>k.heap e (by simp),k.heap h.b7 (by simp),h.rc.chg k (by simp)⟩
theorem AF.set4 (h:AF s th R u p g pf F n w) (x:ByteArray):AF s th R u p g pf F n (w.setCell ⟨s+4,0,none⟩ (.string x)):=by
 obtain ⟨y,hy⟩:=h.y4
 have k:Chg [s+4] w (w.setCell ⟨s+4,0,none⟩ (.string x)):=(Chg.refl _ w).setCell (.inl (by simp)) _
 exact ⟨k.heap h.hd (by simp),k.heap h.fm' (by simp),k.heap h.mc (by simp),h.mp.chg k (by simp),⟨x,heap_setCell_at hy 0 _⟩,h.y5.imp fun _ e=>k.heap e (by simp),h.y6.imp fun _ e=>k.heap e (by simp),k.heap h.b7 (by simp),h.rc.chg k (by simp)⟩
theorem AF.set5 (h:AF s th R u p g pf F n w) (x:ByteArray):AF s th R u p g pf F n (w.setCell ⟨s+5,0,none⟩ (.string x)):=by
 obtain ⟨y,hy⟩:=h.y5
 have k:Chg [s+5] w (w.setCell ⟨s+5,0,none⟩ (.string x)):=(Chg.refl _ w).setCell (.inl (by simp)) _
 exact ⟨k.heap h.hd (by simp),k.heap h.fm' (by simp),k.heap h.mc (by simp),h.mp.chg k (by simp),h.y4.imp fun _ e=>k.heap e (by simp),⟨x,heap_setCell_at hy 0 _⟩,h.y6.imp fun _ e=>k.heap e (by simp),k.heap h.b7 (by simp),h.rc.chg k (by simp)⟩
theorem AF.set6 (h:AF s th R u p g pf F n w) (x:ByteArray):AF s th R u p g pf F n (w.setCell ⟨s+6,0,none⟩ (.string x)):=by
 obtain ⟨y,hy⟩:=h.y6
 have k:Chg [s+6] w (w.setCell ⟨s+6,0,none⟩ (.string x)):=(Chg.refl _ w).setCell (.inl (by simp)) _
 exact ⟨k.heap h.hd (by simp),k.heap h.fm' (by simp),k.heap h.mc (by simp),h.mp.chg k (by simp),h.y4.imp fun _ e=>k.heap e (by simp),h.y5.imp fun _ e=>k.heap e (by simp),⟨x,heap_setCell_at hy 0 _⟩,k.heap h.b7 (by simp),h.rc.chg k (by simp)⟩
theorem AF.setF (h:AF s th R u p g pf F n w) (u' p' g':Bool):AF s th R u' p' g' pf F n (w.setCell ⟨s+1,0,none⟩ (.int .i64 (fm u' p' g'))):=by
 have k:Chg [s+1] w (w.setCell ⟨s+1,0,none⟩ (.int .i64 (fm u' p' g'))):=(Chg.refl _ w).setCell (.inl (by simp)) _
 exact ⟨k.heap h.hd (by simp),heap_setCell_at h.fm' 0 _,k.heap h.mc (by simp),h.mp.chg k (by simp),h.y4.imp fun _ e=>k.heap e (by simp),h.y5.imp fun _ e=>k.heap e (by simp),h.y6.imp fun _ e=>k.heap e (by simp),k.heap h.b7 (by simp),h.rc.chg k (by simp)⟩
theorem AF.setP (h:AF s th R u p g pf F n w) (q:Bool):AF s th R u p g q F n (w.setCell ⟨s+7,0,none⟩ (.bool q)):=by
 have k:Chg [s+7] w (w.setCell ⟨s+7,0,none⟩ (.bool q)):=(Chg.refl _ w).setCell (.inl (by simp)) _
 exact ⟨k.heap h.hd (by simp),k.heap h.fm' (by simp),k.heap h.mc (by simp),h.mp.chg k (by simp),h.y4.imp fun _ e=>k.heap e (by simp),h.y5.imp fun _ e=>k.heap e (by simp),h.y6.imp fun _ e=>k.heap e (by simp),heap_setCell_at h.b7 0 _,h.rc.chg k (by simp)⟩
theorem AF.putM (h:AF s th R u p g pf F n w) (hn:n < maxLen) (k v:ByteArray) (hk:k.size≤maxLen) (hv:v.size≤maxLen) :
  ∃w',(Instr.mapUpdate 127 (.map (some (s+3))) (.string k) (.string v)).run Tryz.prog w=.ok () w'∧AF s th R u p g pf (KV.set F k v) (n+1) w'∧Chg [s+3] w w':=by
 obtain ⟨w',h1,h2,c⟩:=h.mp.store hn k v hk hv
 exact ⟨w',h1,⟨c.heap h.hd (by simp),c.heap h.fm' (by simp),c.heap h.mc (by simp),h2,h.y4.imp fun _ e=>c.heap e (by simp),h.y5.imp fun _ e=>c.heap e (by simp),h.y6.imp fun _ e=>c.heap e (by simp),c.heap h.b7 (by simp),h.rc.chg c (by simp)⟩,c⟩
theorem AF.look (h:AF s th R u p g pf F n w) (k:ByteArray) (hk:k.size≤maxLen):(Instr.lookup 127 th.recs (.string k) true).run Tryz.prog w=.ok (.tuple #[.string ((R k).getD ⟨#[]⟩),.bool (R k).isSome]) w:=by
 rcases h.rc with ⟨h1,h2⟩ | ⟨b,m,h1,_,h3⟩
 ·rw [h1,h2 k]
  exact look_nilOk k hk w
 ·rw [h1]
  exact h3.lookOk k hk
theorem AF.cf (h:AF s th R u p g pf F n w):w.cell? ⟨s+1,0,none⟩=some (.int .i64 (fm u p g)):=by rw [cell_heap h.fm'];rfl
theorem AF.ff (h:AF s th R u p g pf F n w):w.frozen? ⟨s+1,0,none⟩=false:=frozen_heap h.fm' 0
theorem AF.cm (h:AF s th R u p g pf F n w):w.cell? ⟨s+2,0,none⟩=some (.map (some (s+3))):=by rw [cell_heap h.mc];rfl
theorem AF.c18 (h:AF s th R u p g pf F n w):w.cell? ⟨s,18,none⟩=some th.recs:=by rw [cell_heap h.hd];rfl
theorem AF.f4 (h:AF s th R u p g pf F n w):w.frozen? ⟨s+4,0,none⟩=false:=by obtain ⟨_,e⟩:=h.y4;exact frozen_heap e 0
theorem AF.f5 (h:AF s th R u p g pf F n w):w.frozen? ⟨s+5,0,none⟩=false:=by obtain ⟨_,e⟩:=h.y5;exact frozen_heap e 0
theorem AF.f6 (h:AF s th R u p g pf F n w):w.frozen? ⟨s+6,0,none⟩=false:=by obtain ⟨_,e⟩:=h.y6;exact frozen_heap e 0
theorem AF.f7 (h:AF s th R u p g pf F n w):w.frozen? ⟨s+7,0,none⟩=false:=frozen_heap h.b7 0
theorem AF.c4 (h:AF s th R u p g pf F n w):∃x,w.cell? ⟨s+4,0,none⟩=some (.string x):=h.y4.imp fun _ e=>by rw [cell_heap e];rfl
theorem AF.c5 (h:AF s th R u p g pf F n w):∃x,w.cell? ⟨s+5,0,none⟩=some (.string x):=h.y5.imp fun _ e=>by rw [cell_heap e];rfl
theorem AF.c6 (h:AF s th R u p g pf F n w):∃x,w.cell? ⟨s+6,0,none⟩=some (.string x):=h.y6.imp fun _ e=>by rw [cell_heap e];rfl
end
instance (n:Nat) (x:Int):Decidable (fitG n x):=by unfold fitG;infer_instance
instance (n:Nat) (x:Int):Decidable (fit8 n x):=by unfold fit8;infer_instance
theorem fits256 (n:Nat) (hn:n=8∨n=12) (x:Int) (h0 : -9223372036854775808≤x) (h1:x < 9223372036854775808) (w:World):Calls Tryz.prog 99 #[.int .i64 n,.int .i64 x] w fun e w'=>e=.returned (.bool (decide (fitG n x)))∧w=w':=by
 rcases hn with rfl | rfl
 ·by_cases hl:x < -72057594037927936
  ·rw [decide_eq_false (by unfold fitG;simp;omega)];exact b256_8_low x w hl
  ·by_cases hb:72057594037927936≤x
   ·rw [decide_eq_false (by unfold fitG;simp;omega)];exact b256_8_big x w (by omega) hb
   ·rw [decide_eq_true (by unfold fitG;simp;omega)];exact b256_8_yes x w (by omega) (by omega)
 ·rw [decide_eq_true (by unfold fitG;simp;omega)];exact b256_12 x w
theorem fitsOct (n:Nat) (hn:n=8∨n=12) (x:Int) (w:World):Calls Tryz.prog 100 #[.int .i64 n,.int .i64 x] w fun e w'=>e=.returned (.bool (decide (fit8 n x)))∧w=w':=by
 by_cases h:fit8 n x
 ·rw [decide_eq_true h];exact octal_yes n hn x h w
 ·rw [decide_eq_false h];exact octal_no n hn x h w
end Go.Proofs.YtkanmkcojlefbaaGreatDoor
namespace Go.Proofs.YtkanmkcojlefbaaGreatDoor
open Go.RowKit
abbrev itoaS (x:Int):ByteArray:=⟨(Lib.itoa x).toArray⟩
theorem AF.mono {s n m:Nat} {th:TH} {R F:KV} {u p g pf:Bool} {w:World} (h:AF s th R u p g pf F n w) (hm:n≤m):AF s th R u p g pf F m w:=
 ⟨h.hd,h.fm',h.mc,h.mp.mono hm,h.y4,h.y5,h.y6,h.b7,h.rc⟩
def afS (s:Nat):List Nat:= [s+1,s+3,s+4,s+5,s+6,s+7]
theorem afS_ge {B s:Nat} (h:B≤s):∀i∈afS s,B≤i:=by
 intro i hi
 simp [afS] at hi
 omega
theorem itoaS_le (x:Int) (h0 : -9223372036854775808≤x) (h1:x < 9223372036854775808):(itoaS x).size≤maxLen:=by
 have:=Lib.itoa_length_le x h0 (by omega)
 show (Lib.itoa x).toArray.size≤_
 simp only [List.size_toArray]
 unfold maxLen
 omega
structure AFW (s:Nat) (th:TH) (R:KV) (w0:World) (u p g pf:Bool) (F:KV) (n:Nat) (w:World):Prop where
 af:AF s th R u p g pf F n w
 chg:Chg (afS s) w0 w
section
variable {s n:Nat} {th:TH} {R F:KV} {u p g pf:Bool} {w0 w w':World}
theorem AFW.chg0 (h:AFW s th R w0 u p g pf F n w) (k:Chg [] w w'):AFW s th R w0 u p g pf F n w':=⟨h.af.chg0 k,h.chg.trans (k.mono (by simp))⟩
theorem AFW.gnuNo {y:ByteArray} (h:AFW s th R w0 u p g pf F n w):AFW s th R w0 u p false pf F n ((w.setCell ⟨s+6,0,none⟩ (.string y)).setCell ⟨s+1,0,none⟩ (.int .i64 (fm u p false))):=
 ⟨(h.af.set6 y).setF u p false,(h.chg.setCell (.inl (by simp [afS])) _).setCell (.inl (by simp [afS])) _⟩
theorem AFW.usNo {y:ByteArray} (h:AFW s th R w0 u p g pf F n w):AFW s th R w0 false p g pf F n ((w.setCell ⟨s+4,0,none⟩ (.string y)).setCell ⟨s+1,0,none⟩ (.int .i64 (fm false p g))):=
 ⟨(h.af.set4 y).setF false p g,(h.chg.setCell (.inl (by simp [afS])) _).setCell (.inl (by simp [afS])) _⟩
theorem AFW.pxNo {y:ByteArray} (h:AFW s th R w0 u p g pf F n w):AFW s th R w0 u false g pf F n ((w.setCell ⟨s+5,0,none⟩ (.string y)).setCell ⟨s+1,0,none⟩ (.int .i64 (fm u false g))):=
 ⟨(h.af.set5 y).setF u false g,(h.chg.setCell (.inl (by simp [afS])) _).setCell (.inl (by simp [afS])) _⟩
theorem AFW.mono {m:Nat} (h:AFW s th R w0 u p g pf F n w) (hm:n≤m):AFW s th R w0 u p g pf F m w:=⟨h.af.mono hm,h.chg⟩
theorem AFW.put (h:AFW s th R w0 u p g pf F n w) (hn:n < maxLen) (k v:ByteArray) (hk:k.size≤maxLen) (hv:v.size≤maxLen) :
  ∃w',(Instr.mapUpdate 127 (.map (some (s+3))) (.string k) (.string v)).run Tryz.prog w=.ok () w'∧AFW s th R w0 u p g pf (KV.set F k v) (n+1) w':=by
 obtain ⟨w',h1,h2,c⟩:=h.af.putM hn k v hk hv
 exact ⟨w',h1,h2,h.chg.trans (c.mono (by simp [afS]))⟩
end
def numF1 (key:ByteArray) (x:Int) (b:Bool) (F:KV):KV:=if b=true then F else KV.set F key (itoaS x)
def numF2 (key:ByteArray) (x:Int) (R F:KV):KV:=if R key=some (itoaS x) then KV.set F key (itoaS x) else F
set_option maxRecDepth 100000 in
set_option maxHeartbeats 1000000 in
theorem num_any (B:Nat) (sn:Nat→Addr) (kb s n:Nat) (th:TH) (R F:KV) (u p g pf:Bool) (x:Int) (sz:Nat) (name key:ByteArray) (w0 w:World) (h:AFW s th R w0 u p g pf F n w) (hE:Env B sn kb w0) (hBs:B≤s) (hsz:sz=8∨sz=12) (hx0 : -9223372036854775808≤x) (hx1:x < 9223372036854775808)
  (hkm:key.size≤maxLen) (hnm:name.size≤100) (hn:n+2 < maxLen) (fb fo ke:Bool) (hfb:decide (fitG sz x)=fb) (hfo:decide (fit8 sz x)=fo) (hke:key.toList.isEmpty=ke) :
  Calls Tryz.prog 98 #[.int .i64 x,.int .i64 sz,.string name,.string key,.pointer (some ⟨s+6,0,none⟩),.pointer (some ⟨s+1,0,none⟩),.pointer (some ⟨s+4,0,none⟩),.pointer (some ⟨s+5,0,none⟩),.pointer (some ⟨s+2,0,none⟩),.pointer (some ⟨s,0,none⟩)] w fun e w'=>e=.returned (.tuple #[])∧
   AFW s th R w0 (u && fo) (p && (fo || !ke)) (g && fb) pf (numF2 key x R (numF1 key x (fo || ke) F)) (n+2) w':=by
 have H0:=Lib.hid h;have HE:=Lib.hid hE;have HN:=Lib.hid hn;have HKM:=Lib.hid hkm;have HFB:=Lib.hid hfb;have HFO:=Lib.hid hfo;have HKE:=Lib.hid hke
 clear h hE hn hkm hfb hfo hke
 go_enter Tryz.func98,Tryz.ntmps98
 go_upto_if 19 with (go_at_call 99;refine (fits256 sz hsz x hx0 hx1 _).mono ?_;rw [HFB.out];rintro e u1 ⟨rfl,rfl⟩)
 go_cut [] (fun w'=>AFW s th R w0 u p (g && fb) pf F n w')
 case first=>
  obtain ⟨x6,c6⟩:=H0.out.af.c6;have f6:=H0.out.af.f6
  cases fb
  ·go_wp2_with (go_at_call 95;refine (not_gnu u p g (s+1) _ (H0.out.af.set6 _).cf (H0.out.af.set6 _).ff).mono ?_;rintro e w1 ⟨rfl,rfl⟩)
   go_meet
   case rel=>rw [Bool.and_false];exact H0.out.gnuNo
  ·go_wp2
   go_meet
   case rel=>rw [Bool.and_true];exact H0.out
 case rest=>
  have H1:=Lib.hid hcut
  clear hcut H0
  go_upto_if 26 with (go_at_call 100;refine (fitsOct sz hsz x _).mono ?_;rw [HFO.out];rintro e u1 ⟨rfl,rfl⟩)
  go_cut [] (fun w'=>AFW s th R w0 (u && fo) (p && (fo || !ke)) (g && fb) pf (numF1 key x (fo || ke) F) (n+1) w')
  case first=>
   obtain ⟨x4,c4⟩:=H1.out.af.c4;have f4:=H1.out.af.f4
   cases fo
   ·cases ke
    ·have hk:=HKE.out
     have hk':¬key.toList= []:=by intro e;rw [e] at hk;cases hk
     go_wp2_with (go_at_call 95;refine (not_ustar u p (g && fb) (s+1) _ (H1.out.af.set4 _).cf (H1.out.af.set4 _).ff).mono ?_;rintro e w2 ⟨rfl,hw2⟩;have H2:=Lib.hid (show AFW s th R w0 false p (g && fb) pf F n w2 by rw [hw2];exact H1.out.usNo);clear hw2 c4 f4)
     have cm:=H2.out.af.cm
     have HE2:=Lib.hid (HE.out.chg H2.out.chg (afS_ge hBs))
     go_region_held3 (fun w'=>w'.cell? ⟨s+2,0,none⟩=some (.map (some (s+3)))) (first | exact cm | assumption) ((first | (go_at_call 101;refine (formatInt_any x hx0 (by omega) _ HE2.out.drew).mono ?_;rintro e w3 ⟨rfl,hc3⟩;have h3:=H2.out.chg0 ((Chg.refl [] w2).drew.trans hc3);have cm3:=h3.af.cm;obtain ⟨w4,hrun,h4⟩:=h3.put (by have:=HN.out;omega) key (itoaS x) HKM.out (itoaS_le x hx0 hx1);have cm4:=h4.af.cm;have H4:=Lib.hid h4;clear h3 h4 hc3)))
     go_wp2_with fail
     go_meet
     case rel=>rw [Bool.and_false,show (p && (false || !false))=p by cases p<;>rfl];exact H4.out
    ·have hk:=HKE.out
     have hk':key.toList= []:=List.isEmpty_iff.1 hk
     have mk2:True:=trivial
     go_wp2_with (first
      | (go_at_call 95;have mkx:=mk2;clear mk2 mkx;refine (not_ustar u p (g && fb) (s+1) _ (H1.out.af.set4 _).cf (H1.out.af.set4 _).ff).mono ?_;rintro e w2 ⟨rfl,hw2⟩;have H2:=Lib.hid (show AFW s th R w0 false p (g && fb) pf F n w2 by rw [hw2];exact H1.out.usNo);clear hw2 c4 f4;obtain ⟨x5,c5⟩:=H2.out.af.c5;have f5:=H2.out.af.f5)
      | (go_at_call 95;refine (not_pax false p (g && fb) (s+1) _ (H2.out.af.set5 _).cf (H2.out.af.set5 _).ff).mono ?_;rintro e w3 ⟨rfl,rfl⟩))
     go_meet
     case rel=>rw [Bool.and_false];simp only [Bool.false_or,Bool.not_true,Bool.and_false];exact H2.out.pxNo.mono (by omega)
   ·go_wp2
    go_meet
    case rel=>rw [Bool.and_true];simp only [Bool.true_or,Bool.and_true];exact H1.out.mono (by omega)
  case rest=>
   have H2:=Lib.hid hcut
   clear hcut H1
   have hl:=H2.out.af.look key HKM.out
   have c18:=H2.out.af.c18
   cases hr:R key with
   | none=>
    rw [hr] at hl
    have HRR:=Lib.hid hr
    clear hr
    go_wp2
    go_end0
    exact ⟨rfl,by unfold numF2;rw [if_neg (by rw [HRR.out];simp)];exact H2.out.mono (by omega)⟩
   | some v=>
    rw [hr] at hl
    have HRR:=Lib.hid hr
    clear hr
    have HE2:=Lib.hid (HE.out.chg H2.out.chg (afS_ge hBs))
    by_cases hv:v=itoaS x
    ·have hv':(v.toList == Lib.itoa x)=true:=by rw [hv];simp [Lib.toList_data]
     have HV:=Lib.hid hv
     clear hv
     go_wp2_with (go_at_call 101;refine (formatInt_any x hx0 (by omega) _ HE2.out).mono ?_;rintro e w3 ⟨rfl,hc3⟩;have h3:=H2.out.chg0 hc3;have cm3:=h3.af.cm;obtain ⟨w4,hrun,h4⟩:=h3.put (by have:=HN.out;omega) key v HKM.out (by rw [HV.out];exact itoaS_le x hx0 hx1);have H4:=Lib.hid h4;clear h3 h4 hc3)
     go_end0
     exact ⟨rfl,by unfold numF2;rw [if_pos (by rw [HRR.out,HV.out])];have:=H4.out;rw [HV.out] at this;exact this⟩
    ·have hv':(v.toList == Lib.itoa x)=false:=by
      simp only [beq_eq_false_iff_ne,ne_eq]
      intro e
      exact hv (ByteArray.ext (Array.ext' (by rw [←Lib.toList_data];exact e)))
     have HV:=Lib.hid hv
     clear hv
     go_wp2_with (go_at_call 101;refine (formatInt_any x hx0 (by omega) _ HE2.out).mono ?_;rintro e w3 ⟨rfl,hc3⟩;have H3:=Lib.hid (H2.out.chg0 hc3);clear hc3)
     go_end0
     exact ⟨rfl,by unfold numF2;rw [if_neg (by rw [HRR.out];intro e;injection e with e;exact HV.out e)];exact H3.out.mono (by omega)⟩
end Go.Proofs.YtkanmkcojlefbaaGreatDoor
