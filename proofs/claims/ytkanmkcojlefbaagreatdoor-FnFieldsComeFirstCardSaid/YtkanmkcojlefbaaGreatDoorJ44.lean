/-
  spec.Choose (8) of a header that names its format · spec.Find (76): the last value of a key.
-/
import Derived.Test.YtkanmkcojlefbaaGreatDoorJ43
import Derived.Test.YtkanmkcojlefbaaGreatDoorJ08
import Derived.Test.YtkanmkcojlefbaaGreatDoorJ32
import Derived.Test.YtkanmkcojlefbaaGreatDoorJ22
set_option linter.unusedVariables false
namespace Go.Proofs.YtkanmkcojlefbaaGreatDoor
open Go.RowKit
attribute [go_sem] Instr.storeAt
attribute [go_sem] Instr.loadAt
theorem ld31 (C:Array Value) (hs:C.size=21) (w:World) (g:Nat) (hg:w.heap[g]? =some (.cells C 31 (0,0))):(Instr.loadAt 31 (.pointer (some ⟨g,0,none⟩))).run Tryz.prog w=.ok (.agg C) w:=by
 simp only [Instr.loadAt,Instr.sureAddr,Sem.run_bind,Sem.run_pure,Result.andThen]
 exact run_loadVar_row w g 31 31 C (0,0) _ hg Tryz.underlying31 rfl (by rw [hs];exact s31)
theorem sto31 (C old:Array Value) (hs:C.size=21) (ho:old.size=21) (h1:C.all (·.oneCell')=true) (w:World) (g:Nat) (hg:w.heap[g]? =some (.cells old 31 (0,0))):(Instr.storeAt 31 (.pointer (some ⟨g,0,none⟩)) (.agg C)).run Tryz.prog w=.ok () (w.setRow g C):=by
 simp only [Instr.storeAt,Instr.sureAddr,Sem.run_bind,Sem.run_pure,Result.andThen]
 exact run_storeVar_row w g 31 31 old C hg (by rw [hs];exact s31) (by rw [hs,ho]) h1
theorem ldf (h:SH) (w:World) (g:Nat) (hg:w.heap[g]? =some (.cells h.cells 31 (0,0))):(Instr.loadAt 3 (.pointer (some ⟨g,20,none⟩))).run Tryz.prog w=.ok (.int .i64 h.fmt) w:=by
 have c1:w.cell? ⟨g,20,none⟩=some (.int .i64 h.fmt):=by rw [cell_heap hg];rfl
 clear hg
 go_simp
theorem cells_one (h:SH):h.cells.all (·.oneCell')=true:=by simp [SH.cells,Value.oneCell']
attribute [-go_sem] Instr.storeAt
attribute [-go_sem] Instr.loadAt
set_option maxRecDepth 100000 in
set_option maxHeartbeats 4000000 in
theorem choose_fmt (h:SH) (l:List (ByteArray×ByteArray)) (w:World) (h0:h.fmt≠0) (hl:h.name.size+h.link.size+h.un.size+h.gn.size+sumR l≤1099511627776) (hR:RecsIn h.ra h.rn h.rc l w) :
  Calls Tryz.prog 8 #[h.agg] w fun e w'=>(∃q:SH,∃v:Int,e=.returned (.tuple #[q.agg,.int .i64 v])∧VR v (q=h.prom∧(h.fmt=1∨h.fmt=2∨h.fmt=3)∧CanR h l h.fmt))∧Chg [] w w':=by
 generalize hQ:(fun (e:Ending) (w':World)=>(∃q:SH,∃v:Int,e=.returned (.tuple #[q.agg,.int .i64 v])∧VR v (q=h.prom∧(h.fmt=1∨h.fmt=2∨h.fmt=3)∧CanR h l h.fmt))∧Chg [] w w')=Q
 have HQ:=Lib.hid hQ
 have hst:∀w',Chg [] w w'→Calls Tryz.prog 25 #[h.agg] w' fun e w''=>RetN e (PlainR h l)∧Chg [] w' w'':=fun w' k=>strange_any h l w' hl (hR.chg k)
 have hpr:∀w',Calls Tryz.prog 26 #[h.agg] w' fun e w''=>e=.returned (.agg h.prom.cells)∧Chg [] w' w'':=fun w'=>promoted_any h w' (by omega)
 have hcan:∀w',Chg [] w w'→(h.fmt=1∨h.fmt=2∨h.fmt=3)→Calls Tryz.prog 27 #[h.agg,.int .i64 h.fmt] w' fun e w''=>RetV e (CanR h l h.fmt)∧Chg [] w' w'':=fun w' k hf=>can_any h l h.fmt w' hf hl (hR.chg k)
 have HST:=Lib.hid hst;have HPR:=Lib.hid hpr;have HCAN:=Lib.hid hcan
 have hne:(h.fmt != 0)=true:=by simpa using h0
 have H0:=Lib.hid h0
 clear hQ hst hpr hcan hl hR h0
 have hs1:h.cells.size=21:=rfl
 have hs2:h.prom.cells.size=21:=rfl
 have hone1:=cells_one h
 have hone2:=cells_one h.prom
 have hL:=fun (w':World) (g:Nat) (hg:w'.heap[g]? =some (.cells h.cells 31 (0,0)))=>ld31 h.cells rfl w' g hg
 have hF:=fun (w':World) (g:Nat) (hg:w'.heap[g]? =some (.cells h.cells 31 (0,0)))=>ldf h w' g hg
 obtain ⟨Z,hZ⟩:∃Z:Array Value,#[.int .u8 0,.string ⟨#[]⟩,.string ⟨#[]⟩,.int .i64 0,.int .i64 0,.int .i64 0,.int .i64 0,.string ⟨#[]⟩,.string ⟨#[]⟩,.int .i64 0,.int .i64 0,.bool false,.bool false,.int .i64 0,.int .i64 0,.int .i64 0,.int .i64 0,.int .i64 0,.int .i64 0,.slice none 0 0,.int .i64 0]=Z:=⟨_,rfl⟩
 have hs3:Z.size=21:=by rw [←hZ];rfl
 have hS1:=fun (w':World) (g:Nat) (hg:w'.heap[g]? =some (.cells Z 31 (0,0)))=>sto31 h.cells Z rfl hs3 hone1 w' g hg
 have hS2:=fun (w':World) (g:Nat) (hg:w'.heap[g]? =some (.cells Z 31 (0,0)))=>sto31 h.prom.cells Z rfl hs3 hone2 w' g hg
 obtain ⟨C2,hC2⟩:∃C,h.prom.cells=C:=⟨_,rfl⟩
 rw [hC2] at HPR hS2 hs2
 have HC2:=Lib.hid hC2
 clear hC2 hone2 hone1 hs3
 have e0:h.agg=.agg h.cells:=rfl
 rw [e0] at HST HPR HCAN⊢
 obtain ⟨C,hC⟩:∃C,h.cells=C:=⟨_,rfl⟩
 rw [hC] at HST HPR HCAN hL hF hS1 hs1⊢
 have HC:=Lib.hid hC
 clear hC e0
 go_enter Tryz.func8,Tryz.ntmps8
 go_upto_region 1 with (fail)
 have hg0:=heap_alloc2_old w (.cells C 31) (.cells Z 31)
 have hb0:=heap_alloc2_new w (.cells C 31) (.cells Z 31)
 have hk0:Chg [] w ((w.alloc (.cells C 31)).alloc (.cells Z 31)):=((Chg.refl [] w).alloc _).alloc _
 generalize ((w.alloc (.cells C 31)).alloc (.cells Z 31))=w1 at hg0 hb0 hk0⊢
 have hlt:=(Array.getElem?_eq_some_iff.1 hb0).1
 generalize hgg:w.heap.size=g at*
 have HGG:=Lib.hid hgg;have HK0:=Lib.hid hk0
 clear hgg hk0 hZ
 go_upto_if 7 with (go_at_call 25;refine (HST.out _ HK0.out).mono ?_;rintro e w2 ⟨⟨b,rfl,hb⟩,hc1⟩;have hg1:=hc1.heap hg0 (by simp);have hb1:=hc1.heap hb0 (by simp);have HB:=Lib.hid hb;have HC1:=Lib.hid hc1;clear hb hc1)
 cases b
 case true=>
  go_wp2
  refine bodyPost_ret (results_cellrow_tmp rfl _ _ (g+1) 31 C (0,0) _ rfl (setRow_heap _ _ _ _ _ _ hb1) Tryz.underlying31 rfl (by rw [hs1];exact s31)) rfl ?_
  rw [←HQ.out]
  refine ⟨⟨h,0,by rw [SH.agg,HC.out];rfl,.inl rfl,fun e=>by cases e⟩,(HK0.out.trans HC1.out).setRow (.inr (by have:=HGG.out;omega)) _⟩
 case false=>
  have hpl:=HB.out rfl
  have hf13:h.fmt=1∨h.fmt=2∨h.fmt=3:=by
   have:=hpl.fmt;have:=H0.out;omega
  have HF13:=Lib.hid hf13
  clear hpl hf13
  go_upto_region 4 with (fail)
  first
   | (go_region_held3 (fun w'=>w'.heap[g]? =some (.cells C 31 (0,0))) (first | assumption | exact hg1 | (refine row_keep (by omega) ?_;assumption)) ((first
    | (go_at_call 26;refine (HPR.out _).mono ?_;rintro e w3 ⟨rfl,hc3⟩;have hg3:=hc3.heap (show w2.drew.heap[g]? =_ from hg1) (by simp);have hb3:=hc3.heap (show w2.drew.heap[g+1]? =_ from hb1) (by simp);have HC3:=Lib.hid hc3;clear hc3)
    | (go_at_call 27;refine (HCAN.out _ (HK0.out.trans (HC1.out.trans ((Chg.refl _ _).drew.trans HC3.out))) HF13.out).mono ?_;rintro e w4 ⟨⟨v,rfl,hv⟩,hc4⟩;have hg4:=hc4.heap hg3 (by simp);have hb4:=hc4.heap hb3 (by simp);have HV:=Lib.hid hv;have HC4:=Lib.hid hc4;clear hv hc4))))
   | fail
  rename_i hHeld
  go_wp2_with fail
  refine bodyPost_ret (results_cellrow_tmp rfl _ _ (g+1) 31 C2 (0,0) _ rfl (setRow_heap _ _ _ _ _ _ hb4) Tryz.underlying31 rfl (by rw [hs2];exact s31)) rfl ?_
  rw [←HQ.out]
  refine ⟨⟨h.prom,v,by rw [SH.agg,HC2.out];rfl,HV.out.mono fun e=>⟨rfl,HF13.out,e⟩⟩,(HK0.out.trans (HC1.out.trans ((Chg.refl _ _).drew.trans (HC3.out.trans HC4.out)))).setRow (.inr (by have:=HGG.out;omega)) _⟩
end Go.Proofs.YtkanmkcojlefbaaGreatDoor
namespace Go.Proofs.YtkanmkcojlefbaaGreatDoor
open Go.RowKit
theorem str_ne {x y:ByteArray} (h:¬x=y):(x.toList == y.toList)=false:=by
 simp only [beq_eq_false_iff_ne,ne_eq]
 intro e
 apply h
 apply ByteArray.ext
 apply Array.ext'
 rw [←Lib.toList_data,←Lib.toList_data,e]
end Go.Proofs.YtkanmkcojlefbaaGreatDoor
