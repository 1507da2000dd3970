/-
  bytes.Reader: what Read gives; io.ReadAtLeast, io.ReadFull and tryReadFull over it, where enough bytes are left · io.ReadAtLeast, io.ReadFull, tryReadFull and discard over a bytes.Reader, where enough bytes are left or none is asked for.
-/
import Derived.Test.YtkanmkcojlefbaaGreatDoorJ00
set_option linter.unusedVariables false
namespace Go.Proofs.YtkanmkcojlefbaaGreatDoor
open Go.RowKit
def RdrAt (br dr:Nat) (D:List UInt8) (i:Nat) (w:World):Prop:=
 br≠dr∧D.length≤140737488355328∧i≤D.length∧∃(cap:Nat) (pr:Int) (cur:Array Value),w.heap[br]? =some (.cells #[.slice (some ⟨dr,0,none⟩) D.length cap,.int .i64 i,.int .i64 pr] 154 (0,0))∧D.length≤cap∧cap≤maxLen∧
  w.heap[dr]? =some (.cells cur 5 (0,0))∧cur.size=cap∧cur.toList.take D.length=bvs D
set_option maxRecDepth 100000 in
set_option maxHeartbeats 800000 in
theorem rdr_read (br dr:Nat) (D:List UInt8) (i:Nat) (g off n c m:Nat) (cs:Array Value) (t:TypeId) (w:World) (h:RdrAt br dr D i w) (hi:i < D.length)
  (hg:w.heap[g]? =some (.cells cs t (0,0))) (hgb:g≠br) (hgd:g≠dr) (hn:0 < n) (hnc:n≤c) (hcm:c≤maxLen) (hm:m=min n (D.length - i)) (hfit:off+n≤cs.size) :
  Calls Tryz.prog 340 #[.pointer (some ⟨br,0,none⟩),.slice (some ⟨g,off,none⟩) n c] w fun e w'=>e=.returned (.tuple #[.int .i64 m,.nilIface])∧
   RdrAt br dr D (i+m) w'∧w'.heap[g]? =some (.cells (splice cs.toList off (bvs ((D.drop i).take m))).toArray t (0,0))∧Chg [br,g] w w':=by
 obtain ⟨hne,hD,hiD,cap,pr,cur,hbr,hc1,hc2,hdr,hcs,htk⟩:=h
 have d0:w.cell? ⟨br,0,none⟩=some (.slice (some ⟨dr,0,none⟩) D.length cap):=by rw [cell_heap hbr];rfl
 have d1:w.cell? ⟨br,1,none⟩=some (.int .i64 i):=by rw [cell_heap hbr];rfl
 have d2:w.cell? ⟨br,2,none⟩=some (.int .i64 pr):=by rw [cell_heap hbr];rfl
 have f2:w.frozen? ⟨br,2,none⟩=false:=frozen_heap hbr 2
 have f1:w.frozen? ⟨br,1,none⟩=false:=frozen_heap hbr 1
 have hlen:(bvs ((D.drop i).take m)).length=m:=by simp [bvs,List.length_take];omega
 unfold maxLen at hc2 hcm
 have HM:=Lib.hid hm
 clear hm
 have HBR:=Lib.hid hbr;have HDR:=Lib.hid hdr;have HG:=Lib.hid hg;have HCS:=Lib.hid hcs;have HTK:=Lib.hid htk;have HL:=Lib.hid hlen
 clear hbr hdr hg hcs htk hlen
 go_enter Tryz.func340,Tryz.ntmps340
 go_wp2
 go_quiet (fail)
 go_wp2
 have hbr:=HBR.out;have hdr:=HDR.out;have hg:=HG.out
 have hbr2:((w.drewN nq).setCell ⟨br,2,none⟩ (.int .i64 (-1))).heap[br]? =some (.cells #[.slice (some ⟨dr,0,none⟩) D.length cap,.int .i64 i,.int .i64 (-1)] 154 (0,0)):=by
  rw [heap_setCell_at (w:=w.drewN nq) hbr];rfl
 have hdr2:((w.drewN nq).setCell ⟨br,2,none⟩ (.int .i64 (-1))).heap[dr]? =some (.cells cur 5 (0,0)):=by
  rw [Below.heap_setCell _ _ _ _ (by exact Ne.symm hne)];exact hdr
 have hg2:((w.drewN nq).setCell ⟨br,2,none⟩ (.int .i64 (-1))).heap[g]? =some (.cells cs t (0,0)):=by
  rw [Below.heap_setCell _ _ _ _ (by exact hgb)];exact hg
 have hch2:Chg [br,g] w ((w.drewN nq).setCell ⟨br,2,none⟩ (.int .i64 (-1))):=((Chg.refl _ w).drewN nq).setCell (by simp) _
 generalize (w.drewN nq).setCell ⟨br,2,none⟩ (.int .i64 (-1))=W2 at*
 clear d0 d1 d2 f2 f1 hbr hdr hg HBR HDR HG
 have d0:W2.cell? ⟨br,0,none⟩=some (.slice (some ⟨dr,0,none⟩) D.length cap):=by rw [cell_heap hbr2];rfl
 have d1:W2.cell? ⟨br,1,none⟩=some (.int .i64 i):=by rw [cell_heap hbr2];rfl
 have HBR:=Lib.hid hbr2;have HDR:=Lib.hid hdr2;have HG:=Lib.hid hg2;have HCH:=Lib.hid hch2
 have HSRC:Hid (∀j v,(bvs ((D.drop i).take m))[j]? =some v→W2.cell? ((⟨dr,i,none⟩:Addr).add j)=some v):=by
  intro j v hj
  rw [add_addr,cell_heap hdr2]
  have hjm:j < m:=by
   have:=List.getElem?_eq_some_iff.1 hj;obtain ⟨h,_⟩:=this;rwa [HL.out] at h
  have hlm:m≤D.length - i:=by have:=HM.out;omega
  have e1:cur[i+j]? =(cur.toList.take D.length)[i+j]? :=by rw [List.getElem?_take,if_pos (by omega)];simp
  rw [e1,HTK.out,bvs_get]
  rw [bvs_get,List.getElem?_take,if_pos hjm,List.getElem?_drop] at hj
  exact hj
 clear hbr2 hdr2 hg2 hch2
 have hcap:¬cap=i:=by omega
 have HLM:Hid ((bvs ((D.drop i).take m)).length=Nat.min (D.length - i) n):=by
  have:=HL.out;have:=HM.out;show _=min (D.length - i) n;rw [Nat.min_comm];omega
 go_region_law (refine step_copy_row rfl (.tmp 20) (.tmp 29) 35 35 rfl 5 u35 s5 g off n c ⟨dr,i,none⟩ (D.length - i) (cap - i) (by simp [Act.eval,Act.put]) (by simp [Act.eval,Act.put]) cs t HG.out (bvs ((D.drop i).take m)) HLM.out HSRC.out (by rw [HL.out];have:=HM.out;omega) (bvs_one _) m HL.out ?_;intro w3 H3)
 all_goals
  have hbr3:w3.heap[br]? =some (.cells #[.slice (some ⟨dr,0,none⟩) D.length cap,.int .i64 i,.int .i64 (-1)] 154 (0,0)):=by
   rw [H3.out,setRow_other _ _ _ _ (Ne.symm hgb)];exact HBR.out
  have hdr3:w3.heap[dr]? =some (.cells cur 5 (0,0)):=by
   rw [H3.out,setRow_other _ _ _ _ (Ne.symm hgd)];exact HDR.out
  have hg3:w3.heap[g]? =some (.cells (splice cs.toList off (bvs ((D.drop i).take m))).toArray t (0,0)):=by
   rw [H3.out];exact setRow_heap W2.drew g cs _ t _ HG.out
  have hch3:Chg [br,g] w w3:=by rw [H3.out];exact HCH.out.drew.setRow (by simp) _
  have hml:m≤D.length - i:=by have:=HM.out;omega
  clear d0 d1 HBR HDR HG HSRC H3
  have d1:w3.cell? ⟨br,1,none⟩=some (.int .i64 i):=by rw [cell_heap hbr3];rfl
  have f1:w3.frozen? ⟨br,1,none⟩=false:=frozen_heap hbr3 1
  have HBR:=Lib.hid hbr3;have HDR:=Lib.hid hdr3;have HG:=Lib.hid hg3;have HCH:=Lib.hid hch3
  clear hbr3 hdr3 hg3 hch3
  go_wp2
  go_ret2
  refine ⟨rfl,⟨hne,hD,by omega,cap,-1,cur,?_,hc1,hc2,?_,HCS.out,HTK.out⟩,?_,?_⟩
  ·rw [heap_setCell_at HBR.out];simp
  ·rw [Below.heap_setCell _ _ _ _ (Ne.symm hne)];exact HDR.out
  ·rw [Below.heap_setCell _ _ _ _ hgb];exact HG.out
  ·exact HCH.out.setCell (by simp) _
end Go.Proofs.YtkanmkcojlefbaaGreatDoor
namespace Go.Proofs.YtkanmkcojlefbaaGreatDoor
open Go.RowKit
theorem eql_nil (tp:TypeId) (v:Value) (w:World):(binOp .eql 72 .nilIface (.iface tp v)).run Tryz.prog w=.ok (.bool false) w:=run_eql_iface_nil_left w tp v u72
theorem seeker84 (b:Nat) (w:World):(Instr.typeAssert (.iface 84 (.pointer (some ⟨b,0,none⟩))) 145 267 true).run Tryz.prog w=.ok (.tuple #[.iface 84 (.pointer (some ⟨b,0,none⟩)),.bool true]) w:=by kernel_rfl
theorem ahead84 (a:Addr) (w:World):(nilAhead 511 84 (.pointer (some a)) "Read").run Tryz.prog w=.ok (some false) w:=by kernel_rfl
set_option maxRecDepth 100000 in
set_option maxHeartbeats 800000 in
theorem atLeast_ok (br dr:Nat) (D:List UInt8) (i:Nat) (g off n c:Nat) (cs:Array Value) (t:TypeId) (w:World) (h:RdrAt br dr D i w) (hi:i+n≤D.length)
  (hg:w.heap[g]? =some (.cells cs t (0,0))) (hgb:g≠br) (hgd:g≠dr) (hn:0 < n) (hnc:n≤c) (hcm:c≤maxLen) (hfit:off+n≤cs.size) :
  Calls Tryz.prog 236 #[.iface 84 (.pointer (some ⟨br,0,none⟩)),.slice (some ⟨g,off,none⟩) n c,.int .i64 n] w fun e w'=>e=.returned (.tuple #[.int .i64 n,.nilIface])∧
   RdrAt br dr D (i+n) w'∧w'.heap[g]? =some (.cells (splice cs.toList off (bvs ((D.drop i).take n))).toArray t (0,0))∧Chg [br,g] w w':=by
 unfold maxLen at hcm
 have hD:=h.2.1
 have H:=Lib.hid h
 have HG:=Lib.hid hg
 clear h hg
 have hah:=ahead84
 have hn0:¬((n:Int)≤0):=by omega
 go_enter Tryz.func236,Tryz.ntmps236
 go_wp2
 refine wp_loop_rounds 2 ?_
 rw [rounds_succ]
 go_wp2
 go_region_with (first | (go_at_call 340;refine (rdr_read br dr D i g off n c n cs t _ (by exact H.out) (by omega) (by exact HG.out) hgb hgd hn hnc (by unfold maxLen;exact hcm) (by omega) hfit).mono ?_;rintro e w1 ⟨rfl,h1,h2,h3⟩))
 have H1:=Lib.hid h1;have H2:=Lib.hid h2;have H3:=Lib.hid h3
 clear h1 h2 h3
 go_wp2
 rw [rounds_succ]
 go_wp2
 go_ret2
 exact ⟨rfl,H1.out,H2.out,(Chg.refl _ w).drew.trans H3.out⟩
set_option maxRecDepth 100000 in
set_option maxHeartbeats 800000 in
theorem readFull_ok (br dr:Nat) (D:List UInt8) (i:Nat) (g off n c:Nat) (cs:Array Value) (t:TypeId) (w:World) (h:RdrAt br dr D i w) (hi:i+n≤D.length)
  (hg:w.heap[g]? =some (.cells cs t (0,0))) (hgb:g≠br) (hgd:g≠dr) (hn:0 < n) (hnc:n≤c) (hcm:c≤maxLen) (hfit:off+n≤cs.size) :
  Calls Tryz.prog 196 #[.iface 84 (.pointer (some ⟨br,0,none⟩)),.slice (some ⟨g,off,none⟩) n c] w fun e w'=>e=.returned (.tuple #[.int .i64 n,.nilIface])∧
   RdrAt br dr D (i+n) w'∧w'.heap[g]? =some (.cells (splice cs.toList off (bvs ((D.drop i).take n))).toArray t (0,0))∧Chg [br,g] w w':=by
 have H:=Lib.hid h
 have HG:=Lib.hid hg
 clear h hg
 go_enter Tryz.func196,Tryz.ntmps196
 go_wp2_with (go_at_call 236;refine (atLeast_ok br dr D i g off n c cs t _ (by exact H.out) hi (by exact HG.out) hgb hgd hn hnc hcm hfit).mono ?_;rintro e w1 ⟨rfl,h1,h2,h3⟩;have H1:=Lib.hid h1;have H2:=Lib.hid h2;have H3:=Lib.hid h3;clear h1 h2 h3)
 go_ret2
 exact ⟨rfl,H1.out,H2.out,H3.out⟩
set_option maxRecDepth 100000 in
set_option maxHeartbeats 400000 in
theorem tryFull_none (r:Value) (a:Option Addr) (c:Nat) (eof:Addr) (w:World) (he:Sent w 0 eof) :
  Calls Tryz.prog 147 #[r,.slice a 0 c] w fun e w'=>e=.returned (.tuple #[.int .i64 0,.nilIface])∧w=w':=by
 unfold Sent at he
 have hnl:=eql_nil
 go_enter Tryz.func147,Tryz.ntmps147
 go_wp2
 refine wp_loop_rounds 1 ?_
 rw [rounds_succ]
 go_wp2
 go_ret2
 exact ⟨rfl,rfl⟩
set_option maxRecDepth 100000 in
set_option maxHeartbeats 800000 in
theorem tryFull_ok (br dr:Nat) (D:List UInt8) (i:Nat) (g off n c:Nat) (cs:Array Value) (t:TypeId) (eof:Addr) (w:World) (h:RdrAt br dr D i w) (hi:i+n≤D.length)
  (hg:w.heap[g]? =some (.cells cs t (0,0))) (hgb:g≠br) (hgd:g≠dr) (hn:0 < n) (hnc:n≤c) (hcm:c≤maxLen) (hfit:off+n≤cs.size) (he:Sent w 0 eof) (hb0:0≠br) (hg0:0≠g) :
  Calls Tryz.prog 147 #[.iface 84 (.pointer (some ⟨br,0,none⟩)),.slice (some ⟨g,off,none⟩) n c] w fun e w'=>e=.returned (.tuple #[.int .i64 n,.nilIface])∧
   RdrAt br dr D (i+n) w'∧w'.heap[g]? =some (.cells (splice cs.toList off (bvs ((D.drop i).take n))).toArray t (0,0))∧Chg [br,g] w w':=by
 unfold maxLen at hcm
 have hD:=h.2.1
 have H:=Lib.hid h
 have HG:=Lib.hid hg
 have HE:=Lib.hid he
 clear h hg he
 have hn0:¬((n:Int)≤0):=by omega
 have hah:=ahead84
 have hnl:=eql_nil
 go_enter Tryz.func147,Tryz.ntmps147
 go_wp2
 refine wp_loop_rounds 2 ?_
 rw [rounds_succ]
 go_wp2
 go_region_with (first | (go_at_call 340;refine (rdr_read br dr D i g off n c n cs t _ (by exact H.out) (by omega) (by exact HG.out) hgb hgd hn hnc (by unfold maxLen;exact hcm) (by omega) hfit).mono ?_;rintro e w1 ⟨rfl,h1,h2,h3⟩))
 have he1:Sent w1 0 eof:=HE.out.chg ((Chg.refl _ w).drew.trans h3) (by simp [hb0,hg0])
 have H1:=Lib.hid h1;have H2:=Lib.hid h2;have H3:=Lib.hid h3
 clear h1 h2 h3
 unfold Sent at he1
 go_wp2
 rw [rounds_succ]
 go_wp2
 go_ret2
 exact ⟨rfl,H1.out,H2.out,(Chg.refl _ w).drew.trans H3.out⟩
set_option maxRecDepth 100000 in
set_option maxHeartbeats 400000 in
theorem discardN_none (r:Value) (w:World) :
  Calls Tryz.prog 195 #[r,.int .i64 0] w fun e w'=>e=.returned (.tuple #[.int .i64 0,.nilIface])∧Chg [] w w':=by
 go_enter Tryz.func195,Tryz.ntmps195
 go_wp2
 refine wp_loop_rounds 1 ?_
 rw [rounds_succ]
 go_wp2
 go_ret2
 exact ⟨rfl,(Chg.refl _ w).alloc _⟩
set_option maxRecDepth 100000 in
set_option maxHeartbeats 400000 in
theorem discard_none (br:Nat) (eof:Addr) (w:World) (he:Sent w 0 eof) :
  Calls Tryz.prog 146 #[.iface 84 (.pointer (some ⟨br,0,none⟩)),.int .i64 0] w fun e w'=>e=.returned .nilIface∧Chg [] w w':=by
 have HE:=Lib.hid he;clear he
 have hnl:=eql_nil
 have hsk:=seeker84
 go_enter Tryz.func146,Tryz.ntmps146
 go_wp2_with (go_at_call 195;refine (discardN_none _ _).mono ?_;rintro e w1 ⟨rfl,h1⟩;have he1:=HE.out.chg h1 (by simp);unfold Sent at he1;have H1:=Lib.hid h1;clear h1)
 go_ret
 exact ⟨rfl,H1.out⟩
theorem run_wrapNil {P:Program} {w:World} (ts:Array TypeId) (ty:TypeId) (a:Addr) (s t:String):(Builtin.ssaWrapNilChk_ ts ty #[.pointer (some a),strVal s,strVal t]).run P w=.ok (.pointer (some a)) w:=rfl
theorem method_deref {P:Program} {w:World} {fuel t elem:Nat} {i:TypeInfo} {name:String} {f:FuncId} (hi:P.info? t=some i)
  (hm:((i.methods.find? (·.name == name)).map fun m=>(m.func,m.path))=some (some (f,false),#[])) (hu:P.underlying t=some (.pointer elem)) (a:Addr) :
  (method (fuel+1) t (.pointer (some a)) name).run P w=((loadVar elem a).run P w).andThen fun v w'=>.ok (f,v) w':=by
 cases h:i.methods.find? (·.name == name) with
 | none=>simp [h] at hm
 | some m=>
  rw [h] at hm
  simp only [Option.map_some,Option.some.injEq,Prod.mk.injEq] at hm
  obtain ⟨h1,h2⟩:=hm
  unfold method
  simp only [typeInfo,Sem.run_bind]
  simp [hi,h,h1,h2,follow,receiverAt,run_underlying hu,Place.get,run_wrapNil,Result.andThen,asAddr]
theorem u146:Tryz.prog.underlying 146=some (.pointer 148):=by kernel_rfl
theorem m146:(Tryz.prog.info? 146).map (fun i=>(i.methods.find? (·.name == "tapearchives/pub/gotar.physicalRemaining")).map fun m=>(m.func,m.path))=some (some (some (348,false),#[])):=by kernel_rfl
theorem u119:Tryz.prog.underlying 119=some (.pointer 121):=by kernel_rfl
theorem m119:(Tryz.prog.info? 119).map (fun i=>(i.methods.find? (·.name == "tapearchives/pub/gotar.logicalRemaining")).map fun m=>(m.func,m.path))=some (some (some (343,false),#[])):=by kernel_rfl
theorem meth_phys (r : Nat) (a b : Value) (w : World) (ha : w.cell? ⟨r, 0, none⟩ = some a) (hb : w.cell? ⟨r, 1, none⟩ = some b) :
   (method 511 146 (.pointer (some ⟨r, 0, none⟩)) "tapearchives/pub/gotar.physicalRemaining").run Tryz.prog w = .ok (348, .agg #[a, b]) w := by
  cases hi : Tryz.prog.info? 146 with
  | none => have := m146; simp [hi] at this
  | some i =>
    rw [method_deref (f := 348) hi (by have := m146; rw [hi] at this; simpa using this) u146]
    go_simp
theorem meth_logw (r : Nat) (a b : Value) (w : World) (ha : w.cell? ⟨r, 0, none⟩ = some a) (hb : w.cell? ⟨r, 1, none⟩ = some b) :
   (method 511 119 (.pointer (some ⟨r, 0, none⟩)) "tapearchives/pub/gotar.logicalRemaining").run Tryz.prog w = .ok (343, .agg #[a, b]) w := by
  cases hi : Tryz.prog.info? 119 with
  | none => have := m119; simp [hi] at this
  | some i =>
    rw [method_deref (f := 343) hi (by have := m119; rw [hi] at this; simpa using this) u119]
    go_simp
end Go.Proofs.YtkanmkcojlefbaaGreatDoor
