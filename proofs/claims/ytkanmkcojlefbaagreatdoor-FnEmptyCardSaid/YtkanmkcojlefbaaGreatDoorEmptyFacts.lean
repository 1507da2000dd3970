/-
  The closed facts of the row of FnEmpty, each by itself (together they outgrow the memory limit).
-/
import Derived.Test.YtkanmkcojlefbaaGreatDoorRows
import Derived.ProofKit
import Derived.JoinedOf
import Derived.KernelRfl
namespace Go.Proofs.YtkanmkcojlefbaaGreatDoor
namespace fnEmpty
theorem c_inPlace : (Rows.fnEmptyRow.inPlace == Tryz.prog.inPlace 4) = true := by kernel_rfl
theorem c_unf : (Rows.fnEmptyRow.unfollowed == Tryz.prog.unfollowed 4) = true := by kernel_rfl
theorem c_rec : (Rows.fnEmptyRow.recurses == Tryz.prog.recurses 4) = true := by kernel_rfl
theorem c_named : (Rows.fnEmptyRow.named == Tryz.prog.varsNamed 4) = true := by kernel_rfl
theorem closed : joinedFacts Tryz.prog 4 Tryz.f4 Rows.fnEmptySpec Rows.fnEmptyRow = true := by
  unfold joinedFacts
  rw [c_inPlace, c_unf, c_rec, c_named]
  kernel_rfl
theorem c_inst : Tryz.f4.isInstance Tryz.pinned.checked.prog Rows.fnEmptyRow.origin Rows.fnEmptyRow.targs := of_decide_eq_true (by kernel_rfl)
theorem c_wrap : Tryz.f4.isWrapper Tryz.pinned.checked.prog Rows.fnEmptyRow.wrapper Rows.fnEmptyRow.mainSum := by unfold Func.isWrapper; first | (rw [if_pos (by decide +kernel)]; kernel_rfl) | (rw [if_neg (by decide +kernel)]; exact ⟨rfl, rfl⟩)
end fnEmpty
end Go.Proofs.YtkanmkcojlefbaaGreatDoor
