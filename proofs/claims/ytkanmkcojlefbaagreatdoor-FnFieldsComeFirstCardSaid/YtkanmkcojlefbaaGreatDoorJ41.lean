/-
  What the verdict Right of spec.Can says of a header.
-/
import Derived.Test.YtkanmkcojlefbaaGreatDoorJ22
set_option linter.unusedVariables false
namespace Go.Proofs.YtkanmkcojlefbaaGreatDoor
open Go.RowKit
structure CanR (h:SH) (l:List (ByteArray×ByteArray)) (f:Int):Prop where
 pl:PlainR h l
 tf:h.tf=0∨(48≤h.tf.toNat∧h.tf.toNat≤55)
 nm:0 < h.name.size
 sl:slashB h.name=true→promTf h=53
 tn:TextR h.name 256 f
 sp:f=1→h.name.size≤100∨∃i,SplitAt h.name i
 tl:TextR h.link 100 f
 ou:OwnerR h.un f
 og:OwnerR h.gn f
 md:SmallR h.mode f false
 ui:SmallR h.uid f true
 gi:SmallR h.gid f true
 dj:SmallR h.dj f false
 dn:SmallR h.dn f false
 sz:0≤h.size∧(f=1→h.size < 8589934592)
 mo:MomR h.ms h.mn f
 us:f=1→0≤h.ms∧h.ms < 8589934592∧h.ha=false∧h.hc=false
 ma:h.ha=true→MomR h.ats h.atn f
 mc:h.hc=true→MomR h.cts h.ctn f
 rc:0 < h.rn→f=2
 each:∀p∈l,RecR p.1 p.2
end Go.Proofs.YtkanmkcojlefbaaGreatDoor
