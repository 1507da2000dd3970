/-
  What the rows list of the package-level variables, as the walks want it.
-/
import Derived.Test.YtkanmkcojlefbaaGreatDoorRows
import Derived.Test.YtkanmkcojlefbaaGreatDoorJ05
import Derived.WalkKit
import Derived.ProofKit
import Derived.OpenShut
import Derived.LaidMore
import Derived.Lay
import Derived.LaidOnce
import Derived.Stop.LaidErr
import Derived.Lib.LaidTab
import Derived.WideKeyElems2
import Derived.WideKeyArgs
set_option linter.unusedVariables false
namespace Go.Proofs.YtkanmkcojlefbaaGreatDoor
open Go.ChangeShapes Go.WideShapes Go.ChangeAt Go.RowKit Go.Maps Go.WideMaps
theorem starN : "*" ++ "errors.errorString" = "*errors.errorString" :=by decide
theorem rowN245 (u:TypeId) (h:Tryz.prog.typeName? 3 u=some "*errors.errorString"):u=245:=
 typeName_ptr_named (nm:= "errors.errorString") (by rw [starN];kernel_rfl) (by kernel_rfl) (by decide) u (by rw [starN];exact h)
theorem sentOf {n:String} {g:Nat} {text:List UInt8} {r:List (String×DataW Unit)} {W:World} (h:laidMet Tryz.prog ((n,.iface "*errors.errorString" (.ptr (.agg [.lit (.string text)])))::r) W)
  (hg:Tryz.prog.globalNamed n=some g) (ht:(Tryz.prog.globals[g]?).map (·.type)=some 72):∃a,Sent W g a:=by
 obtain ⟨a,s,hv,_⟩:=laid_sentinel (f:=⟨ "s", 9,0,false,"", "errors", 0⟩) (te:=247) (ts:=9) (tp:=245) h hg ht u72 rowN245 u245 (by kernel_rfl) rfl rfl Tryz.underlying9 (by kernel_rfl) (by kernel_rfl)
 exact ⟨a,by have:=World.var?_cell hg hv 0;simpa [Sent] using this⟩
def fieldKeys:List (List UInt8):= [[97,116,105,109,101],[99,116,105,109,101],[103,105,100],[103,110,97,109,101],[108,105,110,107,112,97,116,104],[109,116,105,109,101],[112,97,116,104],[115,105,122,101],[117,105,100],[117,110,97,109,101]]
theorem keyAt:∀(ks:List (List UInt8)) (s:ByteArray) (z:DataW Unit),(DataW.map (ks.map fun k=>((.string k,.lit (.bool true)):Lit×DataW Unit))).atKey (kl s) z=if s.data.toList∈ks then .lit (.bool true) else z
 | [],s,z=>by rw [if_neg (by simp)];rfl
 | k::r,s,z=>by
  have ih:=keyAt r s z
  unfold DataW.atKey at ih⊢
  simp only [List.map_cons,List.find?_cons] at ih⊢
  by_cases e:k=s.data.toList
  ·subst e
   have:(Lit.string s.data.toList).sameKey (kl s)=true:=by simp [kl,Lit.sameKey]
   rw [this,if_pos (by simp)]
  ·have:(Lit.string k).sameKey (kl s)=false:=by simp [kl,Lit.sameKey,e]
   rw [this]
   simp only [List.mem_cons,Ne.symm e,false_or]
   exact ih
theorem c194:Tryz.prog.underlying 194=some (.map 9 4):=by kernel_rfl
theorem basicOf {r:List (String×DataW Unit)} {W:World} (h:laidMet Tryz.prog (("tapearchives/pub/gotar.basicKeys", Rows.laid_tapearchives_pub_gotar_basicKeys)::r) W) :
  ∃kb,kb < W.heap.size∧W.cell? ⟨7,0,none⟩=some (.map (some kb))∧∃(D:DataW Unit) (n:Nat),W.ownsMap Tryz.prog 9 (plainElem Tryz.prog 4) kb n D∧∀s:ByteArray,s.size≤maxLen→∀z,D.atKey (kl s) z=if s.data.toList∈fieldKeys then .lit (.bool true) else z:=by
 obtain ⟨ps,⟨g0,t0,cs0,f0,p0,q0,hg0,ht0,hv0,hd0,_,e0⟩,_,_⟩:=h
 obtain rfl:g0=7:=Option.some.inj (hg0.symm.trans (by kernel_rfl))
 obtain rfl:t0=194:=Option.some.inj (ht0.symm.trans (by kernel_rfl))
 rcases Go.WideElems.open_map c194 hd0 with ⟨_,hx⟩ | ⟨bm,es,clock,m,rfl,hcs,hb,_,F,hx⟩
 ·simp [Rows.laid_tapearchives_pub_gotar_basicKeys] at hx
 simp only [Prod.mk.injEq] at hx
 have hcell:W.cell? ⟨7,0,none⟩=some (.map (some bm)):=by
  have:=World.var?_cell hg0 hv0 0
  rw [Array.eq_one_of_toList hcs] at this
  simpa using this
 have hown:=World.ownsMap_of_fit (R:=plainElem Tryz.prog 4) hb F (fun x _ z hz=>by
  obtain ⟨b,e1,rfl⟩:=Go.WideElems.elemAt_bool Tryz.underlying4 hz
  rw [e1]
  exact plainElem_bool Tryz.underlying4 b)
 rw [←hx.1] at hown
 exact ⟨bm,(Array.getElem?_eq_some_iff.1 hb).1,hcell,_,_,hown,fun s _ z=>keyAt fieldKeys s z⟩
def deB64:List Int:= [0,1,56,2,57,49,28,3,61,58,42,50,38,29,17,4,62,47,59,36,45,43,51,22,53,39,33,30,24,18,12,5,63,55,48,27,60,41,37,16,46,35,44,21,52,32,23,11,54,26,40,15,34,20,31,10,25,14,19,9,13,8,7,6]
def listed:List (String×DataW Unit):=Rows.fnFieldsComeFirstRow.laid
theorem env_of {W:World} (h:laidMet Tryz.prog listed W):∃sn kb,Env W.heap.size sn kb W:=by
 have h0:=h
 unfold listed Rows.fnFieldsComeFirstRow at h0
 simp only at h0
 have h2:=h0.tail.tail
 have h7:=h2.tail.tail.tail.tail.tail
 have h8:=h7.tail
 have h10:=h8.tail.tail
 have h11:=h10.tail
 have h12:=h11.tail
 have h13:=h12.tail
 have h14:=h13.tail
 have h16:=h14.tail.tail
 have h1:=h0.tail
 have h9:=h8.tail
 obtain ⟨a0,s0⟩:=sentOf h7 (by kernel_rfl) (by kernel_rfl)
 obtain ⟨a5,s5⟩:=sentOf h8 (by kernel_rfl) (by kernel_rfl)
 obtain ⟨a18,s18⟩:=sentOf h9 (by kernel_rfl) (by kernel_rfl)
 obtain ⟨a1,s1⟩:=sentOf h10 (by kernel_rfl) (by kernel_rfl)
 obtain ⟨a2,s2⟩:=sentOf h11 (by kernel_rfl) (by kernel_rfl)
 obtain ⟨a3,s3⟩:=sentOf h12 (by kernel_rfl) (by kernel_rfl)
 obtain ⟨a4,s4⟩:=sentOf h13 (by kernel_rfl) (by kernel_rfl)
 obtain ⟨a6,s6⟩:=sentOf h14 (by kernel_rfl) (by kernel_rfl)
 obtain ⟨kb,hkb,c7,hbk⟩:=basicOf h16
 have hsz:18 < W.heap.size:=World.block_lt_of_cell? W _ s18
 have hT15:Lib.TabIs Tryz.prog W "math/bits.deBruijn64tab" .u8 deB64:=Lib.tabIs_of_head (g:=15) (t:=382) (e:=5) (n:=64) (by kernel_rfl) (by kernel_rfl) (by kernel_rfl) Tryz.underlying5 (by kernel_rfl) (by kernel_rfl) h1
 have hT10:Lib.TabIs Tryz.prog W "internal/strconv.uint64pow10" .u64 Lib.pow10Tab:=Lib.tabIs_of_head (g:=10) (t:=335) (e:=124) (n:=20) (by kernel_rfl) (by kernel_rfl) (by kernel_rfl) (by kernel_rfl) (by kernel_rfl) (by kernel_rfl) h2
 refine ⟨fun i=>match i with | 0=>a0 | 1=>a1 | 2=>a2 | 3=>a3 | 4=>a4 | 5=>a5 | _=>a6,kb,⟨hsz,Nat.le_refl _,hkb,s0,s1,s2,s3,s4,s5,s6,?_,hT10,c7,?_⟩⟩
 ·exact hT15.cell (by kernel_rfl) 7 (by decide)
 ·obtain ⟨D,n,ho,hat⟩:=hbk
  refine ⟨D,n,ho,fun s hs z=> ?_⟩
  rw [hat s hs z]
  have he:s.data.toList∈fieldKeys↔s.data.toList∈([[112,97,116,104],[108,105,110,107,112,97,116,104],[115,105,122,101],[117,105,100],[103,105,100],[117,110,97,109,101],[103,110,97,109,101],[109,116,105,109,101],[97,116,105,109,101],[99,116,105,109,101]]:List (List UInt8)):=by
   simp only [fieldKeys,List.mem_cons,List.not_mem_nil,or_false]
   constructor
   ·rintro (h | h | h | h | h | h | h | h | h | h)<;>simp only [h,true_or,or_true]
   ·rintro (h | h | h | h | h | h | h | h | h | h)<;>simp only [h,true_or,or_true]
  by_cases hp:s.data.toList∈fieldKeys
  ·rw [if_pos hp,if_pos (he.1 hp)]
  ·rw [if_neg hp,if_neg (fun q=>hp (he.2 q))]
end Go.Proofs.YtkanmkcojlefbaaGreatDoor
