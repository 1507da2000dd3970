/-
  FnEmpty: an archive of no file is at least two blocks of bytes 0, and is read as no file: the row and its tied card, for every limit.
-/
import Derived.Test.YtkanmkcojlefbaaGreatDoorCards
import Derived.Test.YtkanmkcojlefbaaGreatDoorTie
import Derived.Test.YtkanmkcojlefbaaGreatDoorEmptyWalk
import Derived.Test.YtkanmkcojlefbaaGreatDoorEmptyWit
import Derived.Test.YtkanmkcojlefbaaGreatDoorEmptyFacts
import Derived.WalkKit
import Derived.ProofKit
import Derived.OpenShut
import Derived.LaidMore
import Derived.Lay
import Derived.LaidOnce
import Derived.SevenTiedAt
import Derived.Stop.LaidErr
namespace Go.Proofs.YtkanmkcojlefbaaGreatDoor
open Go.ChangeShapes Go.WideShapes Go.ChangeAt Go.RowKit
namespace fnEmpty
set_option linter.unusedVariables false

theorem star : "*" ++ "errors.errorString" = "*errors.errorString" := by decide
theorem row245 (u : TypeId) (h : Tryz.prog.typeName? 3 u = some "*errors.errorString") : u = 245 :=
  typeName_ptr_named (nm := "errors.errorString") (by rw [star]; kernel_rfl) (by kernel_rfl) (by decide) u (by rw [star]; exact h)
/-- A listed sentinel's cell. -/
theorem sent_of {n : String} {g : Nat} {text : List UInt8} {r : List (String × DataW Unit)} {W : World} (h : laidMet Tryz.prog ((n, .iface "*errors.errorString" (.ptr (.agg [.lit (.string text)]))) :: r) W)
    (hg : Tryz.prog.globalNamed n = some g) (ht : (Tryz.prog.globals[g]?).map (·.type) = some 72) : ∃ a, Sent W g a := by
  obtain ⟨a, s, hv, _⟩ := laid_sentinel (f := ⟨ "s", 9, 0, false, "", "errors", 0⟩) (te := 247) (ts := 9) (tp := 245) h hg ht u72 row245 u245 (by kernel_rfl) rfl rfl Tryz.underlying9 (by kernel_rfl) (by kernel_rfl)
  exact ⟨a, by have := World.var?_cell hg hv 0; simpa [Sent] using this⟩

theorem sentinels {W : World} (h : laidMet Tryz.prog Rows.fnEmptyRow.laid W) : (∃ a, Sent W 0 a) ∧ ∃ a, Sent W 4 a := by
  have h7 := h.tail.tail.tail.tail.tail.tail.tail
  have h13 := h7.tail.tail.tail.tail.tail.tail
  exact ⟨sent_of h7 (by kernel_rfl) (by kernel_rfl), sent_of h13 (by kernel_rfl) (by kernel_rfl)⟩

set_option maxRecDepth 100000 in
theorem lifted (os : Os) (started : os.Started) (H : Type) (enc : TypeId × Value → H) :
    ReturnsInHanded {} Tryz.checked os 4 .any (fun w args => (Rows.fnEmptySpec.pre enc Tryz.prog Tryz.f4 [] false w args ∧ laidMetH Tryz.prog Rows.fnEmptyRow.laid w) ∧ sizedMet enc Tryz.prog Tryz.f4 (OpenSpec.ofChange Rows.fnEmptySpec) false w args)
      (Rows.fnEmptySpec.post enc Tryz.prog Tryz.f4 false true false false) := by
  refine returnsInHanded_of_change_and (C := Tryz.checked) (X := fun w _ => laidMetH Tryz.prog Rows.fnEmptyRow.laid w) (fun _ _ _ hh h => h.of_heap hh) own started (by kernel_rfl) Tryz.func4
    (ChangeSpec.witness_shaped (enc := enc) (C := Tryz.checked) (os := os) (X := fun w _ => laidMetH Tryz.prog Rows.fnEmptyRow.laid w) false (wit os) #[.int .i64 0] 8 (wit_os os)
      (wit_shaped os _) (by kernel_rfl) (by kernel_rfl) (by kernel_rfl) (wit_met os _)) ?_
  intro W base args ds gs before hval0 hW _ _ hL _
  have hval : ∀ (j : Nat) t v, Tryz.f4.params[j]? = some t → args[j]? = some v → Value.okWide Tryz.prog W .any base t v := hval0
  have hW' := hW
  obtain ⟨p, q, hA0, hV, rfl, _, _⟩ := hW
  have hA : DataW.TrodAll enc Tryz.prog W 0 (fun _ => true) true Tryz.f4.params.toList args.toList ds p := hA0
  rw [Tryz.params4] at hA hval
  obtain ⟨v0, d0, rfl, rfl, h0⟩ := trodAll_one hA
  obtain ⟨rfl, rfl⟩ := trodVars_none hV
  obtain ⟨x, rfl, rfl, rfl, wx⟩ := open_int Tryz.underlying3 (hval 0 3 v0 rfl rfl) h0
  simp only [List.append_nil] at hW'
  have hx : -9223372036854775808 ≤ x ∧ x ≤ 9223372036854775807 := by simpa [Lit.wf, IntKind.min, IntKind.max, IntKind.signed, IntKind.bits] using wx
  rw [MakeChecks.laidMetH_plain _ _ _ (by kernel_rfl)] at hL
  obtain ⟨⟨eof, he⟩, ⟨wac, hw⟩⟩ := sentinels hL
  refine (empty_walk x eof wac W hx.1 hx.2 he hw).mono fun e W' ⟨he, hb⟩ => ?_
  subst he
  exact ⟨_, rfl, _, _, _, [], [], [], hW', trodAll_mk1 (shut_bool Tryz.underlying4 _), trodAll_mk1 (shut_int Tryz.underlying3 wx), rfl, hb.frame _, fun h => by cases h⟩

theorem said : Rows.FnEmptySaid :=
  OpenClaim.holds_of_wide 4 Tryz.f4 rfl rfl rfl rfl rfl rfl rfl ⟨rfl, rfl, rfl, rfl, rfl⟩ rfl rfl rfl rfl rfl (by kernel_rfl) Tryz.func4 closed c_inst c_wrap
    (fun os started H enc _ => lifted os started H enc)

theorem plain (f : FuncId) (fn : Func) (hf : Tryz.pinned.checked.prog.funcNamed "tapearchives/laws.FnEmpty" = some f) (hfn : Tryz.pinned.checked.prog.funcs[f]? = some fn) :
    true = Tryz.pinned.checked.prog.looks [] ∧ ∀ (j : Nat) t, fn.params[j]? = some t → Tryz.pinned.checked.prog.wantsStandIn t = false := by
  obtain rfl : f = 4 := Option.some.inj ((show Tryz.prog.funcNamed "tapearchives/laws.FnEmpty" = some 4 by kernel_rfl).symm.trans hf) |>.symm
  obtain rfl : fn = Tryz.f4 := (Option.some.inj (Tryz.func4.symm.trans hfn)).symm
  refine ⟨by kernel_rfl, fun j t ht => ?_⟩
  rw [Tryz.params4] at ht
  obtain rfl : t = 3 := by simpa using Array.mem_of_getElem? ht
  exact (show Tryz.prog.wantsStandIn 3 = false by kernel_rfl)

theorem card : Rows.FnEmptyCardSaid :=
  Claim7.holds_tied_plain_at .later [] _ _ _ _ said (fun _ h => by cases h) (by kernel_rfl) (fun _ h => by cases h) fnEmpty_row_tie rfl ⟨rfl, rfl⟩ (by kernel_rfl) rfl plain (by kernel_rfl)
#print axioms card
end fnEmpty
end Go.Proofs.YtkanmkcojlefbaaGreatDoor
