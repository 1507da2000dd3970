/-
  headerOf (38): its second part, the times.
-/
import Derived.Test.YtkanmkcojlefbaaGreatDoorJ29
import Derived.Deep.CutRange
set_option linter.unusedVariables false
namespace Go.Proofs.YtkanmkcojlefbaaGreatDoor
open Go.RowKit
set_option maxRecDepth 100000 in
set_option maxHeartbeats 4000000 in
theorem headerOf_2 (hp ro ob:Nat) (th:TH) (za zc:Bool) (fv:Int) (w:World) (hA:th.atn < 1000000000∧-4000000000000000000≤th.ats∧th.ats≤4000000000000000000) (hC:th.ctn < 1000000000∧-4000000000000000000≤th.cts∧th.cts≤4000000000000000000)
  (hob:ob≠hp) (hor:ob≠ro) (hr:w.heap[ro]? =some (.cells #[.int .u8 0,.string ⟨#[]⟩,.string ⟨#[]⟩,.int .i64 0,.int .i64 0,.int .i64 0,.int .i64 0,.string ⟨#[]⟩,.string ⟨#[]⟩,.int .i64 0,.int .i64 0,.bool false,.int .i64 0,.int .i64 0,.bool false,.int .i64 0,.int .i64 0,.int .i64 0,.int .i64 0,.slice none 0 0,.int .i64 0] 26 (0,0))) (ho:w.heap[ob]? =some (.cells #[.int .u8 th.tf.toNat,.string th.name,.string th.link,.int .i64 th.size,.int .i64 th.mode,.int .i64 th.uid,.int .i64 th.gid,.string th.un,.string th.gn,.int .i64 th.ms,.int .i64 th.mn,.bool (!za),.int .i64 0,.int .i64 0,.bool (!zc),.int .i64 0,.int .i64 0,.int .i64 th.dj,.int .i64 th.dn,.slice none 0 0,.int .i64 fv] 26 (0,0))) (hh:HdrB hp th w) (Qp:Ending→World→Prop)
  (hrest:∀(w':World) {u10 u11 u12 u13 u14 u15 u16 u17 u18 u19 u20 u21 u22 u23 u24 u25 u26 u27 u28 u29 u30 u31 u32 u33 u34 u35 u36 u37 u38 u39 u40 u41 u42 u43 u44 u45 u46 u47 u48 u49 u50 u51 u52 u53 u54 u55 u56 u57 u58 u59 u60 u61 u62 u63 u64 u65 u66 u67 u68 u69 u70 u71 u72 u73 u74 u75 u76 u77 u78 u79 u80 u81 u82 u83 u84 u85 u86 u87 u88 u89 u90 u91 u92 u144:Value},w'.heap[ro]? =some (.cells #[.int .u8 0,.string ⟨#[]⟩,.string ⟨#[]⟩,.int .i64 0,.int .i64 0,.int .i64 0,.int .i64 0,.string ⟨#[]⟩,.string ⟨#[]⟩,.int .i64 0,.int .i64 0,.bool false,.int .i64 0,.int .i64 0,.bool false,.int .i64 0,.int .i64 0,.int .i64 0,.int .i64 0,.slice none 0 0,.int .i64 0] 26 (0,0))→w'.heap[ob]? =some (.cells #[.int .u8 th.tf.toNat,.string th.name,.string th.link,.int .i64 th.size,.int .i64 th.mode,.int .i64 th.uid,.int .i64 th.gid,.string th.un,.string th.gn,.int .i64 th.ms,.int .i64 th.mn,.bool (!za),.int .i64 (if za=true then 0 else th.ats),.int .i64 (if za=true then (0:Int) else (th.atn:Int)),.bool (!zc),.int .i64 (if zc=true then 0 else th.cts),.int .i64 (if zc=true then (0:Int) else (th.ctn:Int)),.int .i64 th.dj,.int .i64 th.dn,.slice none 0 0,.int .i64 fv] 26 (0,0))→HdrB hp th w'→Chg [ob] w w'→Code.wp Tryz.prog (dropSeq 5 (Tryz.f38.body.getD .skip)) (bodyPost Tryz.prog Tryz.f38 Qp) ⟨#[.pointer (some ⟨hp,0,none⟩),undef,.pointer (some ⟨ro,0,none⟩),.pointer (some ⟨ob,0,none⟩),undef,undef,undef,.pointer (some ⟨hp,0,none⟩),.bool false,undef,u10,u11,u12,u13,u14,u15,u16,u17,u18,u19,u20,u21,u22,u23,u24,u25,u26,u27,u28,u29,u30,u31,u32,u33,u34,u35,u36,u37,u38,u39,u40,u41,u42,u43,u44,u45,u46,u47,u48,u49,u50,u51,u52,u53,u54,u55,u56,u57,u58,u59,u60,u61,u62,u63,u64,u65,u66,u67,u68,u69,u70,u71,u72,u73,u74,u75,u76,u77,u78,u79,u80,u81,u82,u83,u84,u85,u86,u87,u88,u89,u90,u91,u92,undef,undef,undef,undef,undef,undef,undef,undef,undef,undef,undef,undef,undef,undef,undef,undef,undef,undef,undef,undef,undef,undef,undef,undef,undef,undef,undef,undef,undef,undef,undef,undef,undef,undef,undef,undef,undef,undef,undef,undef,undef,undef,undef,undef,undef,undef,undef,undef,undef,undef,undef,u144],[]⟩ w')
  {u10 u11 u12 u13 u14 u15 u16 u17 u18 u19 u20 u21 u22 u23 u24 u25 u26 u27 u28 u29 u30 u31 u32 u33 u34 u35 u36 u37 u38 u39 u40 u41 u42 u43 u44 u45 u46 u47 u48 u49 u50 u51 u52 u53 u54 u55 u56 u57 u58 u59 u60 u61 u62 u63 u64 u65 u66 u67 u68 u69 u70 u71 u72 u73 u74 u75 u76 u144:Value}:Code.wp Tryz.prog (dropSeq 3 (Tryz.f38.body.getD .skip)) (bodyPost Tryz.prog Tryz.f38 Qp) ⟨#[.pointer (some ⟨hp,0,none⟩),undef,.pointer (some ⟨ro,0,none⟩),.pointer (some ⟨ob,0,none⟩),undef,undef,undef,.pointer (some ⟨hp,0,none⟩),.bool false,undef,u10,u11,u12,u13,u14,u15,u16,u17,u18,u19,u20,u21,u22,u23,u24,u25,u26,u27,u28,u29,u30,u31,u32,u33,u34,u35,u36,u37,u38,u39,u40,u41,u42,u43,u44,u45,u46,u47,u48,u49,u50,u51,u52,u53,u54,u55,u56,u57,u58,u59,u60,u61,u62,u63,u64,u65,u66,u67,u68,u69,u70,u71,u72,u73,u74,u75,u76,undef,undef,undef,undef,undef,undef,undef,undef,undef,undef,undef,undef,undef,undef,undef,undef,undef,undef,undef,undef,undef,undef,undef,undef,undef,undef,undef,undef,undef,undef,undef,undef,undef,undef,undef,undef,undef,undef,undef,undef,undef,undef,undef,undef,undef,undef,undef,undef,undef,undef,undef,undef,undef,undef,undef,undef,undef,undef,undef,undef,undef,undef,undef,undef,undef,undef,undef,u144],[]⟩ w:=by
 have HREST:=Lib.hid hrest;have HA:=Lib.hid hA;have HC:=Lib.hid hC
 have HR:=Lib.hid hr;have HO:=Lib.hid ho;have HH:=Lib.hid hh
 clear hrest hA hC hr ho hh
 have c11:w.cell? ⟨ob,11,none⟩=some (.bool (!za)):=by rw [cell_heap HO.out];rfl
 conv=>arg 2;whnf
 dsimp only
 go_upto_if 78 with (fail)
 go_cut [] from 144 to 144 (fun w'=>w'.heap[ob]? =some (.cells #[.int .u8 th.tf.toNat,.string th.name,.string th.link,.int .i64 th.size,.int .i64 th.mode,.int .i64 th.uid,.int .i64 th.gid,.string th.un,.string th.gn,.int .i64 th.ms,.int .i64 th.mn,.bool (!za),.int .i64 (if za=true then 0 else th.ats),.int .i64 (if za=true then (0:Int) else (th.atn:Int)),.bool (!zc),.int .i64 0,.int .i64 0,.int .i64 th.dj,.int .i64 th.dn,.slice none 0 0,.int .i64 fv] 26 (0,0))∧Chg [ob] w w')
 case first=>
  cases za
  ·have d11:=HH.out.c 11 _ rfl
   have d12:=HH.out.c 12 _ rfl
   have f12:=frozen_heap HO.out 12
   have f13:=frozen_heap HO.out 13
   have c12:w.cell? ⟨ob,12,none⟩=some (.int .i64 0):=by rw [cell_heap HO.out];rfl
   have c13:w.cell? ⟨ob,13,none⟩=some (.int .i64 0):=by rw [cell_heap HO.out];rfl
   go_wp2_with (go_at_call 73;refine (timeOf_any th.ats th.atn _ HA.out.1 HA.out.2.1 HA.out.2.2).mono ?_;rintro e u1 ⟨rfl,hu⟩;have ho1:=hu.heap HO.out (by simp);have HO1:=Lib.hid ho1;have c12:u1.cell? ⟨ob,12,none⟩=some (.int .i64 0):=(by rw [cell_heap ho1];rfl);have c13:u1.cell? ⟨ob,13,none⟩=some (.int .i64 0):=(by rw [cell_heap ho1];rfl);have f12:=frozen_heap ho1 12;have f13:=frozen_heap ho1 13;have HU:=Lib.hid hu;clear hu ho1)
   go_meet
   case rel=>exact ⟨by rw [heap_setCell_at (heap_setCell_at HO1.out 12 _) 13 _];rfl,((HU.out.mono (by simp)).setCell (.inl (by simp)) _).setCell (.inl (by simp)) _⟩
  ·go_wp2
   go_meet
   case rel=>exact ⟨HO.out,Chg.refl _ _⟩
 case rest=>
  obtain ⟨ho2,hc2⟩:=hcut
  have HO2:=Lib.hid ho2;have HC2:=Lib.hid hc2
  clear ho2 hc2 c11
  generalize wc=w2 at*
  have hh2:=HH.out.chg HC2.out (by simpa using hob.symm)
  have HH2:=Lib.hid hh2
  clear hh2
  have c14:w2.cell? ⟨ob,14,none⟩=some (.bool (!zc)):=by rw [cell_heap HO2.out];rfl
  go_upto_if 86 with (fail)
  go_cut [] from 144 to 144 (fun w'=>w'.heap[ob]? =some (.cells #[.int .u8 th.tf.toNat,.string th.name,.string th.link,.int .i64 th.size,.int .i64 th.mode,.int .i64 th.uid,.int .i64 th.gid,.string th.un,.string th.gn,.int .i64 th.ms,.int .i64 th.mn,.bool (!za),.int .i64 (if za=true then 0 else th.ats),.int .i64 (if za=true then (0:Int) else (th.atn:Int)),.bool (!zc),.int .i64 (if zc=true then 0 else th.cts),.int .i64 (if zc=true then (0:Int) else (th.ctn:Int)),.int .i64 th.dj,.int .i64 th.dn,.slice none 0 0,.int .i64 fv] 26 (0,0))∧Chg [ob] w2 w')
  case first=>
   cases zc
   ·have d13:=HH2.out.c 13 _ rfl
    have d14:=HH2.out.c 14 _ rfl
    go_wp2_with (go_at_call 73;refine (timeOf_any th.cts th.ctn _ HC.out.1 HC.out.2.1 HC.out.2.2).mono ?_;rintro e u1 ⟨rfl,hu⟩;have ho1:=hu.heap HO2.out (by simp);have HO1:=Lib.hid ho1;have c15:u1.cell? ⟨ob,15,none⟩=some (.int .i64 0):=(by rw [cell_heap ho1];rfl);have c16:u1.cell? ⟨ob,16,none⟩=some (.int .i64 0):=(by rw [cell_heap ho1];rfl);have f15:=frozen_heap ho1 15;have f16:=frozen_heap ho1 16;have HU:=Lib.hid hu;clear hu ho1)
    go_meet
    case rel=>exact ⟨by rw [heap_setCell_at (heap_setCell_at HO1.out 15 _) 16 _];rfl,((HU.out.mono (by simp)).setCell (.inl (by simp)) _).setCell (.inl (by simp)) _⟩
   ·go_wp2
    go_meet
    case rel=>exact ⟨HO2.out,Chg.refl _ _⟩
  case rest=>
   obtain ⟨ho3,hc3⟩:=hcut
   go_step
   exact HREST.out wc ((hc3.heap (HC2.out.heap HR.out (by simpa using hor.symm)) (by simpa using hor.symm))) ho3 (HH2.out.chg hc3 (by simpa using hob.symm)) (HC2.out.trans hc3)
end Go.Proofs.YtkanmkcojlefbaaGreatDoor
