/-
  laws.plain (9) of a header without records.
-/
import Derived.Test.YtkanmkcojlefbaaGreatDoorJ29
import Derived.Test.YtkanmkcojlefbaaGreatDoorJ28
import Derived.Deep.WholeRow
set_option linter.unusedVariables false
namespace Go.Proofs.YtkanmkcojlefbaaGreatDoor
open Go.RowKit
theorem st31 (w:World) (b:Nat) (x0:Int) (x1:ByteArray) (x2:ByteArray) (x3:Int) (x4:Int) (x5:Int) (x6:Int) (x7:ByteArray) (x8:ByteArray) (x9:Int) (x10:Int) (x11:Bool) (x12:Bool) (x13:Int) (x14:Int) (x15:Int) (x16:Int) (x17:Int) (x18:Int) (x20:Int) (x19:Option Addr) (y19 z19:Nat) (hz:w.heap[b]? =some (.cells #[.int .u8 0,.string ⟨#[]⟩,.string ⟨#[]⟩,.int .i64 0,.int .i64 0,.int .i64 0,.int .i64 0,.string ⟨#[]⟩,.string ⟨#[]⟩,.int .i64 0,.int .i64 0,.bool false,.bool false,.int .i64 0,.int .i64 0,.int .i64 0,.int .i64 0,.int .i64 0,.int .i64 0,.slice none 0 0,.int .i64 0] 31 (0,0))):(Instr.storeAt 31 (.pointer (some ⟨b,0,none⟩)) (.agg #[.int .u8 x0,.string x1,.string x2,.int .i64 x3,.int .i64 x4,.int .i64 x5,.int .i64 x6,.string x7,.string x8,.int .i64 x9,.int .i64 x10,.bool x11,.bool x12,.int .i64 x13,.int .i64 x14,.int .i64 x15,.int .i64 x16,.int .i64 x17,.int .i64 x18,.slice x19 y19 z19,.int .i64 x20])).run Tryz.prog w=.ok () (w.setRow b #[.int .u8 x0,.string x1,.string x2,.int .i64 x3,.int .i64 x4,.int .i64 x5,.int .i64 x6,.string x7,.string x8,.int .i64 x9,.int .i64 x10,.bool x11,.bool x12,.int .i64 x13,.int .i64 x14,.int .i64 x15,.int .i64 x16,.int .i64 x17,.int .i64 x18,.slice x19 y19 z19,.int .i64 x20]):=by
 simp only [Instr.storeAt,Instr.sureAddr,Sem.run_bind,Sem.run_pure,Result.andThen]
 exact run_storeVar_row _ _ 31 31 #[.int .u8 0,.string ⟨#[]⟩,.string ⟨#[]⟩,.int .i64 0,.int .i64 0,.int .i64 0,.int .i64 0,.string ⟨#[]⟩,.string ⟨#[]⟩,.int .i64 0,.int .i64 0,.bool false,.bool false,.int .i64 0,.int .i64 0,.int .i64 0,.int .i64 0,.int .i64 0,.int .i64 0,.slice none 0 0,.int .i64 0] #[.int .u8 x0,.string x1,.string x2,.int .i64 x3,.int .i64 x4,.int .i64 x5,.int .i64 x6,.string x7,.string x8,.int .i64 x9,.int .i64 x10,.bool x11,.bool x12,.int .i64 x13,.int .i64 x14,.int .i64 x15,.int .i64 x16,.int .i64 x17,.int .i64 x18,.slice x19 y19 z19,.int .i64 x20] hz s31 rfl (by simp [Value.oneCell'])
attribute [-go_sem] Instr.storeAt
end Go.Proofs.YtkanmkcojlefbaaGreatDoor
