/-
  FnFieldsComeFirst: what the fields of a header tell comes ahead of records of its own with the keys of fields: the row and its tied card, for every header and every list of values.
-/
import Derived.Test.YtkanmkcojlefbaaGreatDoorCards
import Derived.Test.YtkanmkcojlefbaaGreatDoorTie
import Derived.Test.YtkanmkcojlefbaaGreatDoorJ46
import Derived.Test.YtkanmkcojlefbaaGreatDoorJ47
import Derived.Test.YtkanmkcojlefbaaGreatDoorJ48
import Derived.Test.YtkanmkcojlefbaaGreatDoorJ49
import Derived.Test.YtkanmkcojlefbaaGreatDoorJ50
import Derived.Carry
import Derived.WalkKit
import Derived.ProofKit
import Derived.OpenShut
import Derived.SevenTiedAt
set_option linter.unusedVariables false
namespace Go.Proofs.YtkanmkcojlefbaaGreatDoor
open Go.ChangeShapes Go.WideShapes Go.ChangeAt Go.RowKit
namespace fnFieldsComeFirst
theorem laidOut:laidOutB Tryz.prog=true:=by kernel_rfl
def arg0:Value:=.agg #[.int .u8 0,.string ⟨#[]⟩,.string ⟨#[]⟩,.int .i64 0,.int .i64 0,.int .i64 0,.int .i64 0,.string ⟨#[]⟩,.string ⟨#[]⟩,.int .i64 0,.int .i64 0,.bool false,.int .i64 0,.int .i64 0,.bool false,.int .i64 0,.int .i64 0,.int .i64 0,.int .i64 0,.slice none 0 0,.int .i64 0]
set_option maxRecDepth 100000 in
theorem lifted (os:Os) (started:os.Started) (H:Type) (enc:TypeId×Value→H) :
  ReturnsInHanded {} Tryz.checked os 6 .any (fun w args=>(Rows.fnFieldsComeFirstSpec.pre enc Tryz.prog Tryz.f6 [] false w args∧laidMetH Tryz.prog Rows.fnFieldsComeFirstRow.laid w)∧sizedMet enc Tryz.prog Tryz.f6 (OpenSpec.ofChange Rows.fnFieldsComeFirstSpec) false w args)
   (Rows.fnFieldsComeFirstSpec.post enc Tryz.prog Tryz.f6 false true false false):=by
 refine returnsInHanded_of_change_and (C:=Tryz.checked) (X:=fun w _=>laidMetH Tryz.prog Rows.fnFieldsComeFirstRow.laid w) (fun _ _ _ hh h=>h.of_heap hh) listedW.own started (by kernel_rfl) Tryz.func6
  (ChangeSpec.witness_shaped (enc:=enc) (C:=Tryz.checked) (os:=os) (X:=fun w _=>laidMetH Tryz.prog Rows.fnFieldsComeFirstRow.laid w) false (listedW.wit os) #[arg0,.slice none 0 0] 8 (listedW.wit_os os)
   (listedW.wit_shaped os _) (by kernel_rfl) (by kernel_rfl) (by kernel_rfl) (listedW.wit_met os _)) ?_
 intro W base args ds gs before hval0 hW _ _ hL _
 have hval:∀(j:Nat) t v,Tryz.f6.params[j]? =some t→args[j]? =some v→Value.okWide Tryz.prog W .any base t v:=hval0
 have hW':=hW
 obtain ⟨p,q,hA0,hV,rfl,_,_⟩:=hW
 have hA:DataW.TrodAll enc Tryz.prog W 0 (fun _=>true) true Tryz.f6.params.toList args.toList ds p:=hA0
 rw [Tryz.params6] at hA hval
 obtain ⟨v0,v1,d0,d1,p0,p1,rfl,rfl,rfl,h0,h1⟩:=trodAll_two hA
 obtain ⟨rfl,rfl⟩:=trodVars_none hV
 simp only [List.append_nil] at hW'
 have hlt0:∀x∈p0,x.block < W.heap.size:=fun x hx=>hW'.lt x (List.mem_append_left _ hx)
 have hlt1:∀x∈p1,x.block < W.heap.size:=fun x hx=>hW'.lt x (List.mem_append_right _ hx)
 have hargs0:∀(W':World),Below W.heap.size W W'→DataW.Trod enc Tryz.prog W' 0 (fun b=>decide (b < W.heap.size)) true 26 v0 d0 p0:=
  fun W' hn=>Below.trod laidOut (by kernel_rfl) (of_decide_eq_true (by kernel_rfl)) h0 hn hlt0
 have hargs1:∀(W':World),Below W.heap.size W W'→DataW.Trod enc Tryz.prog W' 0 (fun b=>decide (b < W.heap.size)) true 54 v1 d1 p1:=
  fun W' hn=>Below.trod laidOut (by kernel_rfl) (of_decide_eq_true (by kernel_rfl)) h1 hn hlt1
 obtain ⟨g,l,e0,hR,hK,hT⟩:=open_hdr (hval 0 26 v0 rfl rfl) h0
 obtain ⟨a,n,c,vs,e1,hS⟩:=open_vals (hval 1 54 v1 rfl rfl) h1
 rw [MakeChecks.laidMetH_plain _ _ _ (by kernel_rfl)] at hL
 obtain ⟨sn,kb,hE⟩:=env_of hL
 have hwalk:Calls Tryz.prog 6 #[v0,v1] W fun e W'=>e=.returned (.bool true)∧Below W.heap.size W W':=by
  rw [e0,e1]
  exact (fields_walk sn kb g l a n c vs W hE hR hK hS).mono fun e W' h=>⟨h.1,h.2.below (Nat.le_refl _) (by simp)⟩
 refine hwalk.mono fun e W' ⟨he,hb⟩=> ?_
 subst he
 exact ⟨_,rfl,_,_,_,[],p0++p1,[],hW',trodAll_mk1 (shut_bool Tryz.underlying4 _),trodAll_mk2 (hargs0 _ hb) (hargs1 _ hb),rfl,hb.frame _,fun h=>by cases h⟩
theorem said:Rows.FnFieldsComeFirstSaid:=
 OpenClaim.holds_of_wide 6 Tryz.f6 rfl rfl rfl rfl rfl rfl rfl ⟨rfl,rfl,rfl,rfl,rfl⟩ rfl rfl rfl rfl rfl (by kernel_rfl) Tryz.func6 closed c_inst c_wrap
  (fun os started H enc _=>lifted os started H enc)
theorem plain (f:FuncId) (fn:Func) (hf:Tryz.pinned.checked.prog.funcNamed "tapearchives/laws.FnFieldsComeFirst" =some f) (hfn:Tryz.pinned.checked.prog.funcs[f]? =some fn) :
  true=Tryz.pinned.checked.prog.looks []∧∀(j:Nat) t,fn.params[j]? =some t→Tryz.pinned.checked.prog.wantsStandIn t=false:=by
 obtain rfl:f=6:=Option.some.inj ((show Tryz.prog.funcNamed "tapearchives/laws.FnFieldsComeFirst" =some 6 by kernel_rfl).symm.trans hf) |>.symm
 obtain rfl:fn=Tryz.f6:=(Option.some.inj (Tryz.func6.symm.trans hfn)).symm
 refine ⟨by kernel_rfl,fun j t ht=> ?_⟩
 rw [Tryz.params6] at ht
 have h:=Array.mem_of_getElem? ht
 simp only [List.mem_toArray,List.mem_cons,List.not_mem_nil,or_false] at h
 rcases h with rfl | rfl
 ·exact (show Tryz.prog.wantsStandIn 26=false by kernel_rfl)
 ·exact (show Tryz.prog.wantsStandIn 54=false by kernel_rfl)
theorem card:Rows.FnFieldsComeFirstCardSaid:=
 Claim7.holds_tied_plain_at .later [] _ _ _ _ said (fun _ h=>by cases h) (by kernel_rfl) (fun _ h=>by cases h) fnFieldsComeFirst_row_tie rfl ⟨rfl,rfl⟩ (by kernel_rfl) rfl plain (by kernel_rfl)
#print axioms card
end fnFieldsComeFirst
end Go.Proofs.YtkanmkcojlefbaaGreatDoor
