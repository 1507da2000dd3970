/-
  spec.Same (23): headers that tell the same.
-/
import Derived.Test.YtkanmkcojlefbaaGreatDoorJ44
set_option linter.unusedVariables false
namespace Go.Proofs.YtkanmkcojlefbaaGreatDoor
open Go.RowKit
set_option maxRecDepth 100000 in
set_option maxHeartbeats 4000000 in
theorem Same_yes (h:SH) (ats' cts' fmt':Int) (atn' ctn':Int) (ra':Option Addr) (rn' rc':Nat) (w:World) (h1:h.ha=true→ats'=h.ats∧atn'=h.atn) (h2:h.hc=true→cts'=h.cts∧ctn'=h.ctn) :
  Calls Tryz.prog 23 #[h.agg,SH.agg { h with ats:=ats',atn:=atn',cts:=cts',ctn:=ctn',ra:=ra',rn:=rn',rc:=rc',fmt:=fmt' }] w fun e w'=>e=.returned (.bool true)∧Chg [] w w':=by
 obtain ⟨tf,name,link,size,mode,uid,gid,un,gn,ms,mn,ha,hc,ats,atn,cts,ctn,dj,dn,ra,rn,rc,fmt⟩:=h
 simp only [SH.agg,SH.cells] at*
 cases ha<;>cases hc
 all_goals
  try (obtain ⟨rfl,rfl⟩:=h1 rfl)
  try (obtain ⟨rfl,rfl⟩:=h2 rfl)
  clear h1 h2
  go_enter Tryz.func23,Tryz.ntmps23
  dsimp only [List.append]
  go_wp2
  go_ret
  exact ⟨rfl,((Chg.refl [] w).alloc _).alloc _⟩
end Go.Proofs.YtkanmkcojlefbaaGreatDoor
