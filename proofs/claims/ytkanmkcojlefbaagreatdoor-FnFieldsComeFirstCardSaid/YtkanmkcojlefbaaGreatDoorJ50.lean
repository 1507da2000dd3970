/-
  The closed facts of the row of FnFieldsComeFirst, each by itself (together they outgrow the memory limit).
-/
import Derived.Test.YtkanmkcojlefbaaGreatDoorRows
import Derived.ProofKit
import Derived.JoinedOf
import Derived.KernelRfl
set_option linter.unusedVariables false
namespace Go.Proofs.YtkanmkcojlefbaaGreatDoor
namespace fnFieldsComeFirst
theorem c_inPlace:(Rows.fnFieldsComeFirstRow.inPlace == Tryz.prog.inPlace 6)=true:=by kernel_rfl
theorem c_unf:(Rows.fnFieldsComeFirstRow.unfollowed == Tryz.prog.unfollowed 6)=true:=by kernel_rfl
theorem c_rec:(Rows.fnFieldsComeFirstRow.recurses == Tryz.prog.recurses 6)=true:=by kernel_rfl
theorem c_named:(Rows.fnFieldsComeFirstRow.named == Tryz.prog.varsNamed 6)=true:=by kernel_rfl
theorem closed:joinedFacts Tryz.prog 6 Tryz.f6 Rows.fnFieldsComeFirstSpec Rows.fnFieldsComeFirstRow=true:=by
 unfold joinedFacts
 rw [c_inPlace,c_unf,c_rec,c_named]
 kernel_rfl
theorem c_inst:Tryz.f6.isInstance Tryz.pinned.checked.prog Rows.fnFieldsComeFirstRow.origin Rows.fnFieldsComeFirstRow.targs:=of_decide_eq_true (by kernel_rfl)
theorem c_wrap:Tryz.f6.isWrapper Tryz.pinned.checked.prog Rows.fnFieldsComeFirstRow.wrapper Rows.fnFieldsComeFirstRow.mainSum:=by unfold Func.isWrapper;first | (rw [if_pos (by decide+kernel)];kernel_rfl) | (rw [if_neg (by decide+kernel)];exact ⟨rfl,rfl⟩)
end fnFieldsComeFirst
end Go.Proofs.YtkanmkcojlefbaaGreatDoor
