/-
  WriteHeader (30): flushing, copying the header, setting its fields · WriteHeader (30): the facts that the three writers want · WriteHeader (30).
-/
import Derived.Test.YtkanmkcojlefbaaGreatDoorJ22
import Derived.Test.YtkanmkcojlefbaaGreatDoorJ20
import Derived.Test.YtkanmkcojlefbaaGreatDoorJ19
import Derived.Test.YtkanmkcojlefbaaGreatDoorJ26
import Derived.Deep.MidRow
set_option linter.unusedVariables false
namespace Go.Proofs.YtkanmkcojlefbaaGreatDoor
open Go.RowKit
section
variable {B:Nat} {sn:Nat→Addr} {kb tw b rw pad:Nat} {nb:Int} {th:TH} {L bs:List UInt8} {w w':World}
theorem flush_ws (h:WS B sn kb tw b rw pad nb th L bs w) (hnb:nb≤0) (hlim:bs.length+pad≤140737488355328) :
  Calls Tryz.prog 62 #[.pointer (some ⟨tw,0,none⟩)] w fun e w'=>e=.returned .nilIface∧WS B sn kb tw b rw 0 nb th L (bs++List.replicate pad 0) w'∧FrW B [tw,b] w w':=by
 refine (flush_any tw b rw pad nb (wcells b rw pad th L) B bs w (WrAt.ofWB h.wb h.len h.row) h.pd hnb h.tb h.tr h.rb h.buf h.size h.bt hlim).mono ?_
 rintro e w' ⟨rfl,⟨cs',hw,h3⟩,hI,hf⟩
 refine ⟨rfl,?_,hf⟩
 have hwb:WB tw (.iface 75 (.pointer (some ⟨b,0,none⟩))) (.int .i64 ((0:Nat):Int)) (.iface 119 (.pointer (some ⟨rw,0,none⟩))) th L .nilIface w':=by
  refine wb_of_cells (w:=w) rfl hw.heap ?_ hw.c0 hw.c1 hw.c2 (fun i hi=>h3 i (by omega))
  rw [hw.size,←wcells_size b rw pad th L h.len]
  rfl
 exact ⟨h.env.frw hf,hwb,h.len,hw.reg,hI,h.tb,h.tr,h.rb,h.bt,h.br,by omega⟩
theorem WS.set (h:WS B sn kb tw b rw pad nb th L bs w) (i:Nat) (v:Value) (th':TH) (hi:i < 20) (hth:th'.cells=th.cells.set i v):WS B sn kb tw b rw pad nb th' L bs (w.setCell ⟨tw,3+i,none⟩ v):=by
 refine h.put (S:= [tw]) ((Chg.refl _ w).setCell (.inl (by simp)) _) h.f1 ?_ h.len
 have hw:=h.wb
 unfold WB BlkIn at hw⊢
 rw [heap_setCell_at hw,hth]
 congr 2
 apply Array.ext'
 rw [List.setIfInBounds_toArray]
 have e:=set_mid [(.iface 75 (.pointer (some ⟨b,0,none⟩)):Value),.int .i64 pad,.iface 119 (.pointer (some ⟨rw,0,none⟩))] th.cells (bvs L++ [.nilIface]) 3 i v rfl (by show i < 20;exact hi)
 simpa [List.append_assoc] using e
theorem setCells_heap (b:Nat) (t:TypeId):∀(vs:List Value) (o:Nat) (cs:List Value) (w:World),w.heap[b]? =some (.cells cs.toArray t (0,0))→o+vs.length≤cs.length→(w.setCells b o vs).heap[b]? =some (.cells (splice cs o vs).toArray t (0,0))
 | [],o,cs,w,h,hl=>by
  simp only [World.setCells]
  rw [h]
  have:splice cs o []=cs:=by simp [splice]
  rw [this]
 | v::r,o,cs,w,h,hl=>by
  simp only [World.setCells]
  simp only [List.length_cons] at hl
  have h1:(w.setCell ⟨b,o,none⟩ v).heap[b]? =some (.cells (cs.set o v).toArray t (0,0)):=by
   rw [heap_setCell_at h,List.setIfInBounds_toArray]
  rw [setCells_heap b t r (o+1) (cs.set o v) _ h1 (by simp;omega)]
  congr 3
  unfold splice
  have e1:(cs.set o v).take (o+1)=cs.take o++ [v]:=by
   rw [List.take_succ_eq_append_getElem (by simp;omega)]
   simp [List.take_set_of_le]
  have e2:(cs.set o v).drop (o+1+r.length)=cs.drop (o+(r.length+1)):=by
   rw [List.drop_set_of_lt (by omega)]
   congr 1;omega
  rw [e1,e2]
  simp
theorem setCells_chg (b:Nat):∀(vs:List Value) (o:Nat) (w:World),Chg [b] w (w.setCells b o vs)
 | [],_,w=>Chg.refl _ w
 | v::r,o,w=>((Chg.refl [b] w).setCell (.inl (by simp)) v).trans (setCells_chg b r (o+1) _)
theorem WS.setHdr (h:WS B sn kb tw b rw pad nb th L bs w) (th':TH):WS B sn kb tw b rw pad nb th' L bs (w.setCells tw 3 th'.cells):=by
 refine h.put (S:= [tw]) (setCells_chg tw _ _ w) h.f1 ?_ h.len
 have hw:=h.wb
 unfold WB BlkIn at hw⊢
 rw [setCells_heap tw 134 th'.cells 3 _ w hw (by simp [TH.cells])]
 congr 2
theorem WS.hc (h:WS B sn kb tw b rw pad nb th L bs w) (i:Nat) (v:Value) (hv:th.cells[i]? =some v):w.cell? ⟨tw,3+i,none⟩=some v:=by
 refine wb_cell h.wb (3+i) v ?_
 rw [show 3+i=i+3 by omega]
 simpa using hv
theorem WS.hf (h:WS B sn kb tw b rw pad nb th L bs w) (i:Nat):w.frozen? ⟨tw,i,none⟩=false:=h.wb.frozen i
end
end Go.Proofs.YtkanmkcojlefbaaGreatDoor
namespace Go.Proofs.YtkanmkcojlefbaaGreatDoor
open Go.RowKit
structure SplitC (s pn qn:ByteArray) (sp:Bool):Prop where
 as':SplitAs s pn qn sp
 yes:sp=true→SplitOk s pn qn
 no:sp=false→pn=⟨#[]⟩∧qn=⟨#[]⟩
theorem splitC_ex (s:ByteArray) (hs:s.size≤140737488355328):∃pn qn sp,SplitC s pn qn sp:=by
 rcases split_any s hs with ⟨p,q,h1,h2⟩ | h
 ·exact ⟨p,q,true,h2,fun _=>h1,by simp⟩
 ·exact ⟨_,_,false,h,by simp,fun _=>⟨rfl,rfl⟩⟩
theorem us_q (th:TH) (sp PF hr wu wp wg:Bool) (h:finU (afU th sp) PF hr wu wp wg=true):TmQ (fun n s=>s.size≤n) fit8 { th with name:=⟨#[]⟩ }∧(th.name.size≤100∨sp=true)∧hr=false:=by
 have h1:afU th sp=true:=by
  unfold finU at h
  cases e:afU th sp
  ·rw [e] at h;simp at h
  ·rfl
 have h2:hr=false:=by
  unfold finU at h
  cases e:hr
  ·rfl
  ·rw [e] at h;simp at h
 unfold afU strU timU at h1
 simp only [Bool.and_eq_true,Bool.true_and,Bool.not_eq_true',Bool.and_eq_false_iff,Bool.or_eq_false_iff,Bool.not_false,Bool.not_eq_false',decide_eq_true_eq,decide_eq_false_iff_not,Bool.or_eq_true,Nat.not_lt,Bool.true_eq_false,or_false] at h1
 obtain ⟨⟨⟨⟨⟨⟨⟨⟨⟨⟨⟨⟨a1,a2⟩,a3⟩,a4⟩,a5⟩,a6⟩,a7⟩,a8⟩,a9⟩,a10⟩,a11⟩,a12⟩,a13⟩:=h1
 refine ⟨⟨by show (0:Nat)≤100;omega,a2.2,a5,a6,a7,a8,?_,a3.2,a4.2,a9,a10⟩,a1.imp (fun x=>x.2) id,h2⟩
 show fit8 12 (TH.mts { th with name:=⟨#[]⟩ })
 unfold TH.mts
 split
 ·exact ⟨by omega,by decide⟩
 ·rename_i hc
  rcases a11 with hz | hf
  ·exact absurd (by simpa [timZ] using hz) hc
  ·exact hf
theorem px_q (th:TH) (h:FldOk th):TmQ (fun _ s=>s.size≤140737488355328) (fun _ _=>True) th:=
 ⟨Nat.le_trans h.n1 (by decide),Nat.le_trans h.n2 (by decide),trivial,trivial,trivial,trivial,trivial,Nat.le_trans h.n3 (by decide),Nat.le_trans h.n4 (by decide),trivial,trivial⟩
theorem mts_bounds (th:TH) (h:FldOk th) : -4000000000000000000≤th.mts∧th.mts≤4000000000000000000:=by
 have:=h.mt
 unfold TH.mts
 split<;>omega
theorem gn_q (th:TH) (hF:FldOk th) (hr wu wp wg:Bool) (h:finG (afG th) hr wu wp wg=true):TmQ (fun _ s=>s.size≤140737488355328) (fun n x=>fitG n x∧-9223372036854775808≤x∧x < 9223372036854775808) th∧hr=false:=by
 have h1:afG th=true:=by
  unfold finG at h
  cases e:afG th
  ·rw [e] at h;simp at h
  ·rfl
 have h2:hr=false:=by
  unfold finG at h
  cases e:hr
  ·rfl
  ·rw [e] at h;simp at h
 unfold afG at h1
 simp only [Bool.and_eq_true,Bool.true_and,decide_eq_true_eq] at h1
 obtain ⟨⟨⟨⟨⟨⟨⟨⟨⟨a1,a2⟩,a3⟩,a4⟩,a5⟩,a6⟩,a7⟩,a8⟩,a9⟩,a10⟩:=h1
 have hb:=mts_bounds th hF
 refine ⟨⟨Nat.le_trans hF.n1 (by decide),Nat.le_trans hF.n2 (by decide),⟨a5,hF.md⟩,⟨a6,hF.ui⟩,⟨a7,hF.gi⟩,⟨a8,hF.sz⟩,⟨⟨Int.le_trans (by decide) hb.1,Int.lt_of_le_of_lt hb.2 (by decide)⟩,by omega,by omega⟩,Nat.le_trans hF.n3 (by decide),Nat.le_trans hF.n4 (by decide),⟨a9,hF.dj⟩,⟨a10,hF.dn⟩⟩,h2⟩
theorem RecsN.frw {v:Value} {R:KV} {nR:Nat} {hr:Bool} {B tw b:Nat} {w w':World} (h:RecsN v w.heap.size R nR hr w) (f:FrW B [tw,b] w w') (ht:∃cs t fr,w.heap[tw]? =some (.cells cs t fr)) (hb:∃cs t fr,w.heap[b]? =some (.cells cs t fr)):RecsN v w'.heap.size R nR hr w':=by
 rcases h with h | ⟨h1,h2,m,h3,h4,h5⟩
 ·exact .inl h
 ·obtain ⟨es,cl,ho⟩:=h5.obj
  obtain ⟨_,_,_,ht⟩:=ht
  obtain ⟨_,_,_,hb⟩:=hb
  have e:=f.kept m _ ho (by
   intro hm
   rcases List.mem_cons.1 hm with rfl | hm
   ·rw [ho] at ht;injection ht with ht;injection ht
   ·rw [List.mem_singleton.1 hm,hb] at ho;injection ho with ho;injection ho) (by intro c fz hc;injection hc)
  have h6:MapS m nR R w':=h5.heap_eq (e.trans ho.symm)
  exact .inr ⟨h1,h2,m,h3,h6.lt,h6⟩
section
variable {B:Nat} {sn:Nat→Addr} {kb tw b rw pad:Nat} {nb:Int} {th:TH} {L bs:List UInt8} {w w':World}
theorem WS.tcells (h:WS B sn kb tw b rw pad nb th L bs w):∃cs t fr,w.heap[tw]? =some (.cells cs t fr):=⟨_,_,_,h.wb⟩
theorem WS.bcells (h:WS B sn kb tw b rw pad nb th L bs w):∃cs t fr,w.heap[b]? =some (.cells cs t fr):=by
 obtain ⟨_,v,lr,hb,_⟩:=h.buf
 exact ⟨_,_,_,hb⟩
end
theorem writeUSTAR_sp (B:Nat) (sn:Nat→Addr) (kb tw b rw pad:Nat) (nb:Int) (th:TH) (L bs:List UInt8) (size:Nat) (w:World) (pn qn:ByteArray) (sp:Bool) (hS:SplitC th.name pn qn sp) (h:WS B sn kb tw b rw pad nb th L bs w) (hnb:nb≤0) (hlim:bs.length+pad+512≤140737488355328)
  (hm:th.mn < 1000000000) (hs1 : -4000000000000000000≤th.ms) (hs2:th.ms≤4000000000000000000) (hN:th.name.size≤100∨sp=true) (hQ:TmQ (fun n s=>s.size≤n) fit8 { th with name:=⟨#[]⟩ }) (hsz:th.size=size) :
  Calls Tryz.prog 67 #[.pointer (some ⟨tw,0,none⟩),.pointer (some ⟨tw,3,none⟩)] w fun e w'=>e=.returned .nilIface∧
   (∃rw' p q b0,UsBlk th p q b0∧(SplitOk th.name p q∨(p=⟨#[]⟩∧q=th.name∧th.name.size≤100))∧WS B sn kb tw b rw' (padOf (dataLen th.tf size)) (dataLen th.tf size) { th with name:=q } (sums (splice b0.bytes 257 (magicOf false))) (bs++List.replicate pad 0++sums (splice b0.bytes 257 (magicOf false))) w')∧FrW B [tw,b] w w':=by
 obtain ⟨hsp,hy,hn⟩:=hS
 cases sp
 ·obtain ⟨rfl,rfl⟩:=hn rfl
  have h100:th.name.size≤100:=hN.elim id (fun hc=>by cases hc)
  refine (ustar_whole B sn kb tw b rw pad nb th L bs size w h hnb hlim hsp hm hs1 hs2 ⟨h100,hQ.ln,hQ.md,hQ.ui,hQ.gi,hQ.sz,hQ.mt,hQ.un,hQ.gn,hQ.dj,hQ.dn⟩ hsz).mono ?_
  rintro e w' ⟨rfl,⟨rw',b0,h1,h2⟩,hf⟩
  exact ⟨rfl,⟨rw',_,_,b0,h1,.inr ⟨rfl,rfl,h100⟩,h2⟩,hf⟩
 ·have hok:=hy rfl
  refine (ustar_parts B sn kb tw b rw pad nb th L bs size w h hnb hlim pn qn _ rfl hok.p2 hsp hm hs1 hs2 ⟨hok.q2,hQ.ln,hQ.md,hQ.ui,hQ.gi,hQ.sz,hQ.mt,hQ.un,hQ.gn,hQ.dj,hQ.dn⟩ hsz).mono ?_
  rintro e w' ⟨rfl,⟨rw',b0,h1,h2⟩,hf⟩
  exact ⟨rfl,⟨rw',pn,qn,_,UsBlk.mk' h1,.inl hok,h2⟩,hf⟩
end Go.Proofs.YtkanmkcojlefbaaGreatDoor
namespace Go.Proofs.YtkanmkcojlefbaaGreatDoor
open Go.RowKit
theorem s130:(Tryz.prog.info? 130).map (·.size)=some 20:=by kernel_rfl
theorem th_one (th:TH) (hxa:th.xa=.map none) (hr:th.recs.oneCell'=true):th.cells.toArray.all (·.oneCell')=true:=by
 apply all_oneCell_toArray
 intro v hv
 simp only [TH.cells,List.mem_cons,List.not_mem_nil,or_false] at hv
 rcases hv with rfl | rfl | rfl | rfl | rfl | rfl | rfl | rfl | rfl | rfl | rfl | rfl | rfl | rfl | rfl | rfl | rfl | rfl | rfl | rfl
 all_goals first | rfl | exact hr | (rw [hxa];rfl)
def TH.promo (th:TH):TH:=if th.tf=0 then { th with tf:=if slashB th.name=true then 53 else 48 } else th
def rndS (s:Int) (ns:Nat):Int:=if 500000000 < ns then s+1 else s
def TH.rnd (th:TH):TH:=if th.fmt=0 then { th with ms:=rndS th.ms th.mn,mn:=0,ats:=-62135596800,atn:=0,cts:=-62135596800,ctn:=0 } else th
theorem round_any (s:Int) (ns:Nat) (w:World) (hn:ns < 1000000000) (h5:ns≠500000000) (h1 : -4000000000000000000≤s) (h2:s≤4000000000000000000 - 1):Calls Tryz.prog 64 #[tm s ns,.int .i64 1000000000] w fun e w'=>e=.returned (.agg #[.int .u64 ((0:Nat):Int),.int .i64 (rndS s ns+62135596800)])∧Chg [] w w':=by
 unfold rndS
 by_cases h:500000000 < ns
 ·rw [if_pos h];exact round_up s ns w h hn h1 h2
 ·rw [if_neg h];exact round_down s ns w (by omega) h1 (by omega)
theorem load130 {ops:Array Oper} {rest:List Oper} {o:Oper} {a:Act} {w:World} {Q:Exit→Act→World→Prop} (x:Operand) (g:Nat) (cs:Array Value) (hgd:o.guard=none) (ho:o.op=.load 130 x) (hx:a.eval x=.pointer (some ⟨g,0,none⟩)) (hg:w.heap[g]? =some (.cells cs 130 (0,0))) (hs:cs.size=20)
  (h:wpList Tryz.prog ops Q rest (a.put o.dst (.agg cs)) w):wpList Tryz.prog ops Q (o::rest) a w:=
 wpList_load_row hgd 130 x ho g hx 130 cs (0,0) _ hg Tryz.underlying130 rfl (by rw [hs];exact s130) h
theorem store130 {ops:Array Oper} {rest:List Oper} {o:Oper} {a:Act} {w:World} {Q:Exit→Act→World→Prop} (x y:Operand) (g k:Nat) (cs:Array Value) (hgd:o.guard=none) (ho:o.op=.store 130 x y) (hx:a.eval x=.pointer (some ⟨g,k,none⟩)) (hy:a.eval y=.agg cs) (ht:w.there g k 20) (hs:cs.size=20)
  (h1:cs.all (·.oneCell')=true) (h:wpList Tryz.prog ops Q rest (a.put o.dst undef) (w.setCells g k cs.toList)):wpList Tryz.prog ops Q (o::rest) a w:=
 wpList_store_mid hgd 130 x y ho g k cs hx hy (by rw [hs];exact ht) (by rw [hs];exact s130) h1 h
theorem there_of {tw:Nat} {c0 c1 c2 er:Value} {th:TH} {L:List UInt8} {w:World} (h:WB tw c0 c1 c2 th L er w):w.there tw 3 20:=by
 intro j hj
 refine ⟨?_,h.frozen _⟩
 rw [cell_heap h,List.getElem?_toArray,List.getElem?_eq_getElem (by simp [TH.cells];omega)]
 rfl
theorem loadmid130 {ops:Array Oper} {rest:List Oper} {o:Oper} {a:Act} {w:World} {Q:Exit→Act→World→Prop} (x:Operand) (g k:Nat) (cs:List Value) (hgd:o.guard=none) (ho:o.op=.load 130 x) (hx:a.eval x=.pointer (some ⟨g,k,none⟩)) (hg:w.rangeAt g k cs) (hs:cs.length=20)
  (h:wpList Tryz.prog ops Q rest (a.put o.dst (.agg cs.toArray)) w):wpList Tryz.prog ops Q (o::rest) a w:=
 wpList_load_mid hgd 130 x ho g k hx cs _ hg Tryz.underlying130 rfl (by rw [hs];exact s130) h
theorem hdrRange {tw:Nat} {c0 c1 c2 er:Value} {th:TH} {L:List UInt8} {w:World} (h:WB tw c0 c1 c2 th L er w):w.rangeAt tw 3 th.cells:=by
 intro j v hv
 refine wb_cell h (3+j) v ?_
 rw [show 3+j=j+3 by omega]
 simpa using hv
def OutU (eff:TH) (bs bs':List UInt8):Prop:=∃p q b0,UsBlk eff p q b0∧(SplitOk eff.name p q∨(p=⟨#[]⟩∧q=eff.name∧eff.name.size≤100))∧bs'=bs++sums (splice b0.bytes 257 (magicOf false))
def OutP (eff:TH) (F:KV) (bs bs':List UInt8):Prop:=
 (∃b0,(∀s:ByteArray,s.size≤maxLen→F s=none)∧TmOk FitsA OctOut eff b0∧bs'=bs++sums (splice b0.bytes 257 (magicOf false)))∨
 ∃ks,∃data:ByteArray,∃b1 b0,ks.Nodup∧ks≠ []∧(∀k:ByteArray,k∈ks↔k.size≤maxLen∧(F k).isSome=true)∧data.data.toList=recsOf F ks∧RawBlk 120 data.size b1∧TmOk FitsA OctOut eff b0∧
  bs'=bs++sums (splice b1.bytes 257 (magicOf false))++data.data.toList++List.replicate (padOf data.size) 0++sums (splice b0.bytes 257 (magicOf false))
def OutG (eff:TH) (bs bs':List UInt8):Prop:=∃bs1 pad1 bs2 pad2 b0,LongW 76 eff.name bs 0 bs1 pad1∧LongW 75 eff.link bs1 pad1 bs2 pad2∧GnuBlk eff b0∧bs'=bs2++List.replicate pad2 0++sums (splice b0.bytes 257 (magicOf true))
def OutH (eff:TH) (F:KV) (u p g:Bool) (bs bs':List UInt8):Prop:=(u=true∧OutU eff bs bs')∨(u=false∧p=true∧OutP eff F bs bs')∨(u=false∧p=false∧g=true∧OutG eff bs bs')
theorem WS.setErr {B:Nat} {sn:Nat→Addr} {kb tw b rw pad:Nat} {nb:Int} {th:TH} {L bs:List UInt8} {w:World} (h:WS B sn kb tw b rw pad nb th L bs w):WS B sn kb tw b rw pad nb th L bs (w.setCell ⟨tw,535,none⟩ .nilIface):=by
 refine h.put (S:= [tw]) ((Chg.refl _ w).setCell (.inl (by simp)) _) h.f1 ?_ h.len
 have hw:=h.wb
 unfold WB BlkIn at hw⊢
 rw [heap_setCell_at hw]
 congr 2
 apply Array.ext_getElem?
 intro i
 by_cases e:535=i
 ·subst e
  rw [Array.getElem?_setIfInBounds_self]
  have hl:=h.len
  have h1:=wcells_535 b rw pad th L hl
  have h2:=wcells_size b rw pad th L hl
  unfold wcells at h1 h2
  rw [if_pos (by rw [h2];omega),h1]
 ·rw [Array.getElem?_setIfInBounds_ne e]
theorem WS.c535 {B:Nat} {sn:Nat→Addr} {kb tw b rw pad:Nat} {nb:Int} {th:TH} {L bs:List UInt8} {w:World} (h:WS B sn kb tw b rw pad nb th L bs w):w.cell? ⟨tw,535,none⟩=some .nilIface:=by
 rw [cell_heap h.wb]
 exact wcells_535 b rw pad th L h.len
def WhOut (B:Nat) (sn:Nat→Addr) (kb tw b:Nat) (nb:Int) (pad:Nat) (eff:TH) (F:KV) (u p g:Bool) (size:Nat) (bs:List UInt8) (w':World):Prop:=
 ∃rw' th' L' bs',OutH eff F u p g (bs++List.replicate pad 0) bs'∧WS B sn kb tw b rw' (padOf (dataLen eff.tf size)) (dataLen eff.tf size) th' L' bs' w'
def TH.mtOk (th:TH):Prop:=th.mn < 1000000000∧(th.fmt=0→th.mn≠500000000)∧-3000000000000000000≤th.ms∧th.ms≤3000000000000000000
set_option maxRecDepth 100000 in
set_option maxHeartbeats 4000000 in
theorem writeHeader_ws (B:Nat) (sn:Nat→Addr) (kb tw b rw pad hp:Nat) (nb:Int) (th0 th tq eff:TH) (L bs:List UInt8) (w:World) (h:WS B sn kb tw b rw pad nb th0 L bs w) (hnb:nb≤0) (hlim:bs.length+pad+1060000≤140737488355328) (hh:w.heap[hp]? =some (.cells th.cells.toArray 130 (0,0))) (hpt:hp≠tw) (hpb:hp≠b) (hxa:th.xa=.map none) (hrc:th.recs.oneCell'=true) (hns:th.name.size≤1099511627776)
  (hpq:th.promo=tq) (hqe:tq.rnd=eff) (hmt:tq.mtOk)
  (nR size:Nat) (R:KV) (pn qn:ByteArray) (sp hr wu wp wg:Bool) (hsp:SplitC eff.name pn qn sp) (hR0:R ⟨#[]⟩=none) (hF:FldOk eff) (htf:TfOk eff) (hslash:eff.tf.toNat=53∨slashB eff.name=false) (hsz:eff.size=(size:Int)) (hxe:eff.xa=.map none)
  (hRN:RecsN eff.recs w.heap.size R nR hr w) (hnR:nR≤549755813888) (hval:∀k v,mergeF (afF eff R) R k=some v→RecOk k v) (hfm:eff.fmt=fm wu wp wg) (hok:(finU (afU eff sp) (afPF eff) hr wu wp wg || finP (afP eff) wu wp wg || finG (afG eff) hr wu wp wg)=true)
  (htot:∀ks:List ByteArray,ks.Nodup→(∀k∈ks,(mergeF (afF eff R) R k).isSome=true)→(recsOf (mergeF (afF eff R) R) ks).length≤1048576)
  (hnm:eff.name.size≤1000000) (hlk:eff.link.size≤1000000) (hlim2:bs.length+pad+4000000≤140737488355328) (hgw:finG (afG eff) hr wu wp wg=true→GnuW) :
  Calls Tryz.prog 30 #[.pointer (some ⟨tw,0,none⟩),.pointer (some ⟨hp,0,none⟩)] w fun e w'=>e=.returned .nilIface∧WhOut B sn kb tw b nb pad eff (mergeF (afF eff R) R) (finU (afU eff sp) (afPF eff) hr wu wp wg) (finP (afP eff) wu wp wg) (finG (afG eff) hr wu wp wg) size bs w'∧FrW B [tw,b] w w':=by
 have hsz0:0≤eff.size:=by omega
 have hszl:size≤9223372036854775807:=by have:=hF.sz;omega
 have HGW:=Lib.hid hgw
 clear hgw
 have HPQ:=Lib.hid hpq;have HQE:=Lib.hid hqe;have HMT:=Lib.hid hmt
 have HSP:=Lib.hid hsp;have HR0:=Lib.hid hR0;have HFO:=Lib.hid hF;have HTF:=Lib.hid htf;have HSL':=Lib.hid hslash;have HSIZE:=Lib.hid hsz;have HSZ:=Lib.hid hsz0;have HXA':=Lib.hid hxe;have HRN:=Lib.hid hRN;have HNR:=Lib.hid hnR;have HVAL:=Lib.hid hval;have HFM:=Lib.hid hfm;have HOK:=Lib.hid hok;have HTOT:=Lib.hid htot
 have HTC:=Lib.hid h.tcells;have HBC:=Lib.hid h.bcells
 obtain ⟨F,hFF⟩:∃F,mergeF (afF eff R) R=F:=⟨_,rfl⟩
 obtain ⟨fU,hfU⟩:∃x,finU (afU eff sp) (afPF eff) hr wu wp wg=x:=⟨_,rfl⟩
 obtain ⟨fP,hfP⟩:∃x,finP (afP eff) wu wp wg=x:=⟨_,rfl⟩
 obtain ⟨fG,hfG⟩:∃x,finG (afG eff) hr wu wp wg=x:=⟨_,rfl⟩
 rw [hFF,hfU,hfP,hfG]
 have HFF:=Lib.hid hFF;have HFU:=Lib.hid hfU;have HFP:=Lib.hid hfP;have HFG:=Lib.hid hfG
 have h103:eff.tf≠103:=by
  intro e
  have:=htf
  unfold TfOk at this
  rw [e] at this
  revert this
  decide
 have H103:=Lib.hid h103
 clear h103
 clear hpq hqe hmt hsp hR0 hF htf hslash hsz hxe hRN hnR hval hfm hok htot hsz0 hFF hfU hfP hfG
 have H:=Lib.hid h;have HH:=Lib.hid hh
 clear h hh
 go_enter Tryz.func30,Tryz.ntmps30
 go_upto_region 4 with (go_at_call 62;refine (flush_ws H.out hnb (by omega)).mono ?_;rintro e w1 ⟨rfl,h1,hf1⟩;have H1:=Lib.hid h1;have HH1:=Lib.hid (hf1.heap HH.out (by simp;exact ⟨hpt,hpb⟩) (by decide));have HF1:=Lib.hid hf1;clear h1 hf1)
 have h2:=H1.out.setHdr th
 have hc2:=setCells_chg tw th.cells 3 w1
 have hs1':=th_one th hxa hrc
 have H2:=Lib.hid h2;have HC2:=Lib.hid hc2;have HS1:=Lib.hid hs1'
 clear h2 hc2 hs1'
 iterate 10 go_step
 refine load130 (.tmp 16) hp _ rfl rfl rfl HH1.out rfl ?_
 iterate 6 go_step
 refine store130 (.tmp 19) (.tmp 17) tw 3 th.cells.toArray rfl rfl rfl rfl (there_of H1.out.wb) rfl HS1.out ?_
 simp only
 generalize w1.setCells tw 3 th.cells=w2 at H2 HC2⊢
 obtain ⟨z,hz⟩:∃z,((th.tf.toNat:Int) == 0)=z:=⟨_,rfl⟩
 have HZ:=Lib.hid hz
 have c3:w2.cell? ⟨tw,3,none⟩=some (.int .u8 th.tf.toNat):=H2.out.hc 0 _ rfl
 have c4:w2.cell? ⟨tw,4,none⟩=some (.string th.name):=H2.out.hc 1 _ rfl
 have f3:=H2.out.hf 3
 go_upto_if 25 with (fail)
 clear hz
 go_cut [] (fun w'=>WS B sn kb tw b rw 0 nb tq L (bs++List.replicate pad 0) w'∧Chg [tw] w2 w')
 case first=>
  cases z
  ·go_wp2
   go_meet
   case rel=>exact ⟨by rw [←HPQ.out,show th.promo=th from if_neg (by intro e;have:=HZ.out;rw [e] at this;simp at this)];exact H2.out,Chg.refl _ _⟩
  ·have ht0:th.tf=0:=UInt8.toNat_inj.1 (by have:=HZ.out;simp at this;simpa using this)
   have HT0:=Lib.hid ht0
   clear ht0
   cases hs:slashB th.name
   all_goals
    have HSL:=Lib.hid hs
    clear hs
    go_wp2_with (go_at_call 63;refine (Tryz.strings_HasSuffix th.name _ _ (by omega)).mono ?_;rw [hasSuffix_slash,HSL.out];rintro e w1 ⟨rfl,hw1⟩;rw [hw1];clear hw1)
    go_meet
    case rel=>
     have hp:th.promo={ th with tf:=if slashB th.name=true then 53 else 48 }:=if_pos HT0.out
     rw [HSL.out,HPQ.out] at hp
     exact ⟨by rw [hp];exact H2.out.set 0 _ _ (by omega) rfl,(Chg.refl _ _).setCell (.inl (by simp)) _⟩
 case rest=>
  obtain ⟨h3,hc3⟩:=hcut
  have H3:=Lib.hid h3;have HC3:=Lib.hid (HC2.out.trans hc3)
  clear h3 hc3 H2 HC2 c3 c4 f3
  clear HZ
  obtain ⟨z2,hz2⟩:∃z2,(tq.fmt == 0)=z2:=⟨_,rfl⟩
  have HZ2:=Lib.hid hz2
  have c22:wc.cell? ⟨tw,22,none⟩=some (.int .i64 tq.fmt):=H3.out.hc 19 _ rfl
  have c12:wc.cell? ⟨tw,12,none⟩=some (.int .u64 tq.mn):=H3.out.hc 9 _ rfl
  have c13:wc.cell? ⟨tw,13,none⟩=some (.int .i64 (tq.ms+62135596800)):=H3.out.hc 10 _ rfl
  have f22:=H3.out.hf 22
  go_upto_if 45 with (fail)
  clear hz2
  go_cut [] (fun w'=>WS B sn kb tw b rw 0 nb eff L (bs++List.replicate pad 0) w'∧Chg [tw] wc w')
  case first=>
   cases z2
   ·go_wp2
    go_meet
    case rel=>exact ⟨by rw [←HQE.out,show tq.rnd=tq from if_neg (by intro e;have:=HZ2.out;rw [e] at this;simp at this)];exact H3.out,Chg.refl _ _⟩
   ·have hf0:tq.fmt=0:=by have:=HZ2.out;simpa using this
    have HF0:=Lib.hid hf0
    clear hf0
    go_wp2_with (go_at_call 64;refine (round_any tq.ms tq.mn _ HMT.out.1 (HMT.out.2.1 HF0.out) (by have:=HMT.out.2.2;omega) (by have:=HMT.out.2.2;omega)).mono ?_;rintro e w5 ⟨rfl,hc5⟩;have H5:=Lib.hid (H3.out.chg0 hc5);have HC5:=Lib.hid hc5;have f12:=H5.out.hf 12;have f13:=H5.out.hf 13;have f14:=H5.out.hf 14;have f15:=H5.out.hf 15;have f16:=H5.out.hf 16;have f17:=H5.out.hf 17;have c12:w5.cell? ⟨tw,12,none⟩=some (.int .u64 tq.mn):=H5.out.hc 9 _ rfl;have c13:w5.cell? ⟨tw,13,none⟩=some (.int .i64 (tq.ms+62135596800)):=H5.out.hc 10 _ rfl;have c14:w5.cell? ⟨tw,14,none⟩=some (.int .u64 tq.atn):=H5.out.hc 11 _ rfl;have c15:w5.cell? ⟨tw,15,none⟩=some (.int .i64 (tq.ats+62135596800)):=H5.out.hc 12 _ rfl;have c16:w5.cell? ⟨tw,16,none⟩=some (.int .u64 tq.ctn):=H5.out.hc 13 _ rfl;have c17:w5.cell? ⟨tw,17,none⟩=some (.int .i64 (tq.cts+62135596800)):=H5.out.hc 14 _ rfl;clear hc5)
    go_meet
    case rel=>
     have s1:=H5.out.set (th':={ tq with mn:=0 }) 9 (.int .u64 0) (by omega) rfl
     have s2:=s1.set (th':={ tq with mn:=0,ms:=rndS tq.ms tq.mn }) 10 (.int .i64 (rndS tq.ms tq.mn+62135596800)) (by omega) rfl
     have s3:=s2.set (th':={ tq with mn:=0,ms:=rndS tq.ms tq.mn,atn:=0 }) 11 (.int .u64 0) (by omega) rfl
     have s4:=s3.set (th':={ tq with mn:=0,ms:=rndS tq.ms tq.mn,atn:=0,ats:=-62135596800 }) 12 (.int .i64 0) (by omega) rfl
     have s5:=s4.set (th':={ tq with mn:=0,ms:=rndS tq.ms tq.mn,atn:=0,ats:=-62135596800,ctn:=0 }) 13 (.int .u64 0) (by omega) rfl
     have s6:=s5.set (th':={ tq with mn:=0,ms:=rndS tq.ms tq.mn,atn:=0,ats:=-62135596800,ctn:=0,cts:=-62135596800 }) 14 (.int .i64 0) (by omega) rfl
     have he:eff={ tq with mn:=0,ms:=rndS tq.ms tq.mn,atn:=0,ats:=-62135596800,ctn:=0,cts:=-62135596800 }:=by rw [←HQE.out];exact if_pos HF0.out
     rw [he]
     exact ⟨s6,(((((((HC5.out.mono (by simp)).setCell (.inl (by simp)) _).setCell (.inl (by simp)) _).setCell (.inl (by simp)) _).setCell (.inl (by simp)) _).setCell (.inl (by simp)) _).setCell (.inl (by simp)) _)⟩
  case rest=>
   obtain ⟨h6,hc6⟩:=hcut
   have hf6:=HF1.out.trans ((FrW.ofChg (HC3.out.trans hc6) H1.out.size (by intro k hk;rw [List.mem_singleton.1 hk];exact H1.out.bt)).mono (by simp))
   have H6:=Lib.hid h6;have HF6:=Lib.hid hf6
   clear h6 hf6 hc6 HC3 H3 HH1 HF1 HS1 c22 c12 c13 f22 HZ2
   iterate 11 go_step
   first
    | refine loadmid130 (.tmp 69) tw 3 eff.cells rfl rfl rfl (hdrRange H6.out.wb) rfl ?_
    | (go_step;refine loadmid130 (.tmp 69) tw 3 eff.cells rfl rfl rfl (hdrRange H6.out.wb) rfl ?_)
    | (go_step;go_step;refine loadmid130 (.tmp 69) tw 3 eff.cells rfl rfl rfl (hdrRange H6.out.wb) rfl ?_)
   have hrn:=HRN.out.frw HF6.out HTC.out HBC.out
   have HRN6:=Lib.hid hrn
   clear hrn
   go_upto_if 76 with (first | (go_at_call 65;refine (allowed_any B sn kb nR eff R pn qn sp hr _ HSP.out.as' H6.out.env HR0.out HFO.out HTF.out HSL'.out HSZ.out HXA'.out HRN6.out HNR.out HVAL.out wu wp wg HFM.out HOK.out).mono ?_;rintro e w7 ⟨mb,rfl,hM,hmb,hc7⟩;have HM:=Lib.hid hM;have H7:=Lib.hid (H6.out.chg0 hc7);have HF7:=Lib.hid (HF6.out.trans ((FrW.ofChg hc7 H6.out.size (by simp)).mono (by simp)));clear hM hc7 hmb) | (go_at_call 66;refine (has_ustar _ _ _ _).mono ?_;rintro e w8 ⟨rfl,rfl⟩))
   rw [HFU.out,HFP.out,HFG.out]
   have hM:=HM.out
   rw [HFF.out] at hM
   have HM':=Lib.hid hM
   clear hM HM
   have hf0:=HFO.out.mt
   have HF0:=Lib.hid hf0
   clear hf0
   cases fU
   ·cases fP
    ·cases fG
     ·exfalso
      have:=HOK.out
      rw [HFU.out,HFP.out,HFG.out] at this
      cases this
     ·have hq:=gn_q eff HFO.out hr wu wp wg HFG.out
      have HQ:=Lib.hid hq.1
      clear hq
      go_upto_if 91 with (go_at_call 66;refine (has_pax _ _ _ _).mono ?_;rintro e w8 ⟨rfl,rfl⟩)
      go_wp2_with (first | (go_at_call 66;refine (has_gnu _ _ _ _).mono ?_;rintro e w8 ⟨rfl,rfl⟩) | (go_at_call 69;refine ((HGW.out HFG.out) B sn kb tw b rw 0 nb eff L (bs++List.replicate pad 0) size _ H7.out hnb (by simp;omega) (by omega) (by omega) HF0.out.1 HF0.out.2.1 HF0.out.2.2 HFO.out.at'.1 HFO.out.at'.2.1 HFO.out.at'.2.2 HFO.out.ct.1 HFO.out.ct.2.1 HFO.out.ct.2.2 HQ.out HSIZE.out (by omega)).mono ?_;rintro e w9 ⟨rfl,⟨rw',bs1,pad1,bs2,pad2,b0,hl1,hl2,hb0,h9⟩,hf9⟩;have H9:=Lib.hid h9;have HF9:=Lib.hid hf9;have HL:=Lib.hid (And.intro hl1 (And.intro hl2 hb0));have c9:=h9.c535;have f9:=h9.hf 535;clear h9 hf9 hl1 hl2 hb0))
      go_ret
      refine ⟨rfl,⟨rw',eff,sums (splice b0.bytes 257 (magicOf true)),_,.inr (.inr ⟨rfl,rfl,rfl,bs1,pad1,bs2,pad2,b0,HL.out.1,HL.out.2.1,HL.out.2.2,rfl⟩),H9.out.setErr⟩,?_⟩
      exact (HF7.out.trans HF9.out).setCell (by simp) H.out.bt _
    ·rcases Classical.em (∃s v,ByteArray.size s≤maxLen∧F s=some v) with hex | hex
     ·have HEX:=Lib.hid hex
      clear hex
      have hv:=HVAL.out
      have ht:=HTOT.out
      rw [HFF.out] at hv ht
      have HV:=Lib.hid hv;have HT:=Lib.hid ht
      clear hv ht
      go_wp2_with (first | (go_at_call 66;(refine (has_pax _ _ _ _).mono ?_;rintro e w8 ⟨rfl,rfl⟩)) | (go_at_call 68;refine (pax_recs B sn kb tw b rw 0 mb (26+nR) nb eff L (bs++List.replicate pad 0) size F _ H7.out HM'.out (by have:=HNR.out;omega) HEX.out hnb HV.out HT.out (by simp;omega) (by omega) HF0.out.1 HF0.out.2.1 HF0.out.2.2 (px_q eff HFO.out) HSIZE.out (by omega) H103.out).mono ?_;rintro e w9 ⟨rfl,⟨rw',ks,data,b1,b0,hk1,hk2,hk3,hk4,hb1,hb0,h9⟩,hf9⟩;have H9:=Lib.hid h9;have HF9:=Lib.hid hf9;have HL:=Lib.hid (And.intro hk1 (And.intro hk2 (And.intro hk3 (And.intro hk4 (And.intro hb1 hb0)))));have c9:=h9.c535;have f9:=h9.hf 535;clear h9 hf9 hk1 hk2 hk3 hk4 hb1 hb0))
      go_ret
      refine ⟨rfl,⟨rw',eff,sums (splice b0.bytes 257 (magicOf false)),_,.inr (.inl ⟨rfl,rfl,.inr ⟨ks,data,b1,b0,HL.out.1,HL.out.2.1,HL.out.2.2.1,HL.out.2.2.2.1,HL.out.2.2.2.2.1,HL.out.2.2.2.2.2,rfl⟩⟩),?_⟩,?_⟩
      ·have h9:=H9.out.setErr
       rw [List.replicate_zero,List.append_nil] at h9;exact h9
      ·exact (HF7.out.trans HF9.out).setCell (by simp) H.out.bt _
     ·have hno:∀s:ByteArray,s.size≤maxLen→F s=none:=by
       intro s hs
       cases hFs:F s with
       | none=>rfl
       | some v=>exact absurd ⟨s,v,hs,hFs⟩ hex
      have HNO:=Lib.hid hno
      have HM2:=Lib.hid (HM'.out.congr (g:=fun _=>none) hno)
      clear hno hex
      go_wp2_with (first | (go_at_call 66;(refine (has_pax _ _ _ _).mono ?_;rintro e w8 ⟨rfl,rfl⟩)) | (go_at_call 68;refine (pax_none B sn kb tw b rw 0 mb (26+nR) nb eff L (bs++List.replicate pad 0) size (fun _=>none) _ H7.out HM2.out (fun _=>rfl) hnb (by simp;omega) HF0.out.1 HF0.out.2.1 HF0.out.2.2 (px_q eff HFO.out) HSIZE.out (by omega) H103.out).mono ?_;rintro e w9 ⟨rfl,⟨rw',b0,hb0,h9⟩,hf9⟩;have H9:=Lib.hid h9;have HF9:=Lib.hid hf9;have HL:=Lib.hid hb0;have c9:=h9.c535;have f9:=h9.hf 535;clear h9 hf9 hb0))
      go_ret
      refine ⟨rfl,⟨rw',eff,sums (splice b0.bytes 257 (magicOf false)),_,.inr (.inl ⟨rfl,rfl,.inl ⟨b0,HNO.out,HL.out,rfl⟩⟩),?_⟩,?_⟩
      ·have h9:=H9.out.setErr
       rw [List.replicate_zero,List.append_nil] at h9;exact h9
      ·exact (HF7.out.trans HF9.out).setCell (by simp) H.out.bt _
   ·have hq:=us_q eff sp (afPF eff) hr wu wp wg HFU.out
    have HQ:=Lib.hid hq
    clear hq
    go_wp2_with (first | (go_at_call 67;refine (writeUSTAR_sp B sn kb tw b rw 0 nb eff L (bs++List.replicate pad 0) size _ pn qn sp HSP.out H7.out hnb (by simp;omega) HF0.out.1 HF0.out.2.1 HF0.out.2.2 HQ.out.2.1 HQ.out.1 HSIZE.out).mono ?_;rintro e w9 ⟨rfl,⟨rw',p,q,b0,hb0,hpq,h9⟩,hf9⟩;have H9:=Lib.hid h9;have HF9:=Lib.hid hf9;have HL:=Lib.hid (And.intro hb0 hpq);have c9:=h9.c535;have f9:=h9.hf 535;clear h9 hf9 hb0 hpq))
    go_ret
    refine ⟨rfl,⟨rw',{ eff with name:=q },sums (splice b0.bytes 257 (magicOf false)),_,.inl ⟨rfl,p,q,b0,HL.out.1,HL.out.2,rfl⟩,?_⟩,?_⟩
    ·have h9:=H9.out.setErr
     rw [List.replicate_zero,List.append_nil] at h9;exact h9
    ·exact (HF7.out.trans HF9.out).setCell (by simp) H.out.bt _
end Go.Proofs.YtkanmkcojlefbaaGreatDoor
