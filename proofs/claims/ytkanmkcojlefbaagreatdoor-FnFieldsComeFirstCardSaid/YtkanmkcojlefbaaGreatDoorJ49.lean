/-
  A world for the witnesses: what the row lists, laid.
-/
import Derived.Test.YtkanmkcojlefbaaGreatDoorCards
import Derived.Test.YtkanmkcojlefbaaGreatDoorJ48
import Derived.WalkKit
import Derived.ProofKit
import Derived.OpenShut
import Derived.LaidMore
import Derived.Lay
import Derived.LaidOnce
import Derived.SevenTiedAt
import Derived.Stop.LaidErr
set_option linter.unusedVariables false
namespace Go.Proofs.YtkanmkcojlefbaaGreatDoor
open Go.ChangeShapes Go.WideShapes Go.ChangeAt Go.RowKit
namespace listedW
theorem own:ownKnob Tryz.prog.godebug=none:=by kernel_rfl
noncomputable def wit (os:Os):World:=(World.doorLaid Tryz.prog 374 os).layVars Tryz.prog (listed.filter fun x=> ["unicode/utf8.first"].contains x.1)
noncomputable def blocks:List Nat:=(List.range (World.doorLaid Tryz.prog 374 default).heap.size).filter (· != 16)
theorem w1 (os:Os):(World.doorLaid Tryz.prog 374 os).layFits Tryz.prog (listed.filter fun x=> ["unicode/utf8.first"].contains x.1) blocks=true:=by kernel_rfl
theorem w2 (os:Os):(World.doorLaid Tryz.prog 374 os).layIfaces Tryz.prog (listed.filter fun x=> ["unicode/utf8.first"].contains x.1) (wit os)=true:=by kernel_rfl
theorem w3 (os:Os):LaidIn Tryz.prog (wit os) (listed.filter fun x=> !["unicode/utf8.first"].contains x.1) blocks:=
 LaidIn.of_run blocks 8 (by kernel_rfl) (by kernel_rfl) (by kernel_rfl) (by kernel_rfl)
theorem wit_os (os:Os):(wit os).os=os:=(World.layVars_os _ _ _).trans rfl
theorem wit_met (os:Os) (args:Array Value):laidMetH Tryz.prog listed ((wit os).forCall (fun _ _=>0) ⟨#[],args,[]⟩).memory:=by
 rw [MakeChecks.laidMetH_plain _ _ _ (by kernel_rfl)]
 have h:laidMet Tryz.prog listed (wit os):=laidMet_layVars (w0:=World.doorLaid Tryz.prog 374 os) ["unicode/utf8.first"] blocks rfl (w1 os) (w2 os) (w3 os)
 exact h.of_heap (by simp [World.memory,World.forCall,Input.heap])
theorem wit_shaped (os:Os) (args:Array Value):((wit os).forCall (fun _ _=>0) ⟨#[],args,[]⟩).Shaped Tryz.prog:=
 World.shaped_of_ZipB (by kernel_rfl) (by kernel_rfl)
end listedW
end Go.Proofs.YtkanmkcojlefbaaGreatDoor
