/-
  The words that all walks of this seat share: which blocks may have changed ('Chg'), the sentinels' cells ('Sent'), one error held against itself, a row of memory behind a copy.
-/
import Derived.Test.YtkanmkcojlefbaaGreatDoorProg
import Derived.Handy
import Derived.WalkSpells
import Derived.WalkLawsBesides
import Derived.Lib.Hide
import Derived.LaidEql
import Derived.BigQuiet
import Derived.Deep.QuietTactic
import Derived.Deep.RegionLaw
import Derived.Deep.RegionWith
import Derived.Laws.CopyOwn
import Derived.Lib.BufferWrite
set_option linter.unusedVariables false
namespace Go.Proofs.YtkanmkcojlefbaaGreatDoor
open Go.RowKit
structure Chg (S:List Nat) (w w':World):Prop where
 os:w'.os=w.os
 tape:w'.tape=w.tape
 output:w'.output=w.output
 size:w.heap.size≤w'.heap.size
 block:∀k,k < w.heap.size→k∉S→w'.heap[k]? =w.heap[k]?
theorem Chg.refl (S:List Nat) (w:World):Chg S w w:=⟨rfl,rfl,rfl,Nat.le_refl _,fun _ _ _=>rfl⟩
theorem Chg.trans {S:List Nat} {a b c:World} (h:Chg S a b) (k:Chg S b c):Chg S a c:=
 ⟨k.os.trans h.os,k.tape.trans h.tape,k.output.trans h.output,Nat.le_trans h.size k.size,fun i hi hn=>(k.block i (Nat.lt_of_lt_of_le hi h.size) hn).trans (h.block i hi hn)⟩
theorem Chg.mono {S S':List Nat} {a b:World} (h:Chg S a b) (hs:∀k∈S,k∈S'):Chg S' a b:=
 ⟨h.os,h.tape,h.output,h.size,fun i hi hn=>h.block i hi (fun hm=>hn (hs i hm))⟩
theorem Chg.fresh {S S':List Nat} {a b:World} (h:Chg S a b) (hs:∀k∈S,k∈S'∨a.heap.size≤k):Chg S' a b:=
 ⟨h.os,h.tape,h.output,h.size,fun i hi hn=>h.block i hi (fun hm=>(hs i hm).elim hn (fun hle=>by omega))⟩
theorem Chg.transFresh {S S':List Nat} {a b c:World} (h:Chg S a b) (k:Chg S' b c) (hs:∀i∈S',i∈S∨a.heap.size≤i):Chg S a c:=
 ⟨k.os.trans h.os,k.tape.trans h.tape,k.output.trans h.output,Nat.le_trans h.size k.size,
  fun i hi hn=>(k.block i (Nat.lt_of_lt_of_le hi h.size) (fun hm=>(hs i hm).elim hn (fun hle=>by omega))).trans (h.block i hi hn)⟩
theorem Chg.drew {S:List Nat} {a w:World} (h:Chg S a w):Chg S a w.drew:=⟨h.os,h.tape,h.output,h.size,h.block⟩
theorem Chg.drewN {S:List Nat} {a w:World} (h:Chg S a w) (n:Nat):Chg S a (w.drewN n):=⟨h.os,h.tape,h.output,h.size,h.block⟩
theorem Chg.alloc {S:List Nat} {a w:World} (h:Chg S a w) (o:Obj):Chg S a (w.alloc o):=
 h.trans ⟨rfl,rfl,rfl,by simp,fun k hk _=>Below.heap_alloc _ _ _ hk⟩
theorem Chg.setCell {S:List Nat} {a w:World} (h:Chg S a w) {p:Addr} (hp:p.block∈S∨a.heap.size≤p.block) (u:Value):Chg S a (w.setCell p u):=
 ⟨h.os,h.tape,h.output,by simpa [World.setCell] using h.size,fun k hk hn=>(Below.heap_setCell _ _ _ _ (fun e=>by subst e;exact hp.elim hn (fun hle=>by omega))).trans (h.block k hk hn)⟩
theorem Chg.setRow {S:List Nat} {a w:World} (h:Chg S a w) {g:Nat} (hp:g∈S∨a.heap.size≤g) (cs:Array Value):Chg S a (w.setRow g cs):=
 ⟨h.os,h.tape,h.output,by simpa [World.setRow] using h.size,fun k hk hn=>(setRow_other w g k cs (fun e=>by subst e;exact hp.elim hn (fun hle=>by omega))).trans (h.block k hk hn)⟩
theorem Chg.heap {S:List Nat} {w w':World} (h:Chg S w w') {k:Nat} {o:Obj} (hk:w.heap[k]? =some o) (hn:k∉S):w'.heap[k]? =some o:=
 (h.block k (Array.getElem?_eq_some_iff.1 hk).1 hn).trans hk
theorem Chg.below {S:List Nat} {w w':World} (h:Chg S w w') {B:Nat} (hB:B≤w.heap.size) (hs:∀k∈S,B≤k):Below B w w':=
 ⟨h.os,h.tape,h.output,h.size,fun k hk=>h.block k (by omega) (fun hm=>by have:=hs k hm;omega)⟩
theorem Chg.cell {S:List Nat} {w w':World} (h:Chg S w w') {p:Addr} {v:Value} (hc:w.cell? p=some v) (hn:p.block∉S):w'.cell? p=some v:=
 (World.cell?_of_block (w:=w) (h.block p.block (World.block_lt_of_cell? w p hc) hn)).trans hc
theorem Chg.ofBelow {w w':World} (h:Below w.heap.size w w'):Chg [] w w':=⟨h.os,h.tape,h.output,h.size,fun k hk _=>h.block k hk⟩
theorem Chg.drewNof {w:World} (n:Nat):Chg [] w (w.drewN n):=⟨rfl,rfl,rfl,Nat.le_refl _,fun _ _ _=>rfl⟩
def Sent (w:World) (g:Nat) (a:Addr):Prop:=w.cell? ⟨g,0,none⟩=some (.iface 245 (.pointer (some a)))
theorem Sent.chg {S:List Nat} {w w':World} {g:Nat} {a:Addr} (h:Sent w g a) (hc:Chg S w w') (hn:g∉S):Sent w' g a:=hc.cell (p:=⟨g,0,none⟩) h hn
theorem u72:Tryz.prog.underlying 72=some (.interface #[("Error", 214)]):=by kernel_rfl
theorem u245:Tryz.prog.underlying 245=some (.pointer 247):=by kernel_rfl
theorem c245:(Tryz.prog.info? 245).map (·.comparable)=some true:=by kernel_rfl
theorem s247:(Tryz.prog.info? 247).map (·.size)=some 1:=by kernel_rfl
theorem u35:Tryz.prog.underlying 35=some (.slice 5):=by kernel_rfl
theorem s5:(Tryz.prog.info? 5).map (·.size)=some 1:=by kernel_rfl
theorem eql_same (a:Addr) (w:World):(binOp .eql 72 (.iface 245 (.pointer (some a))) (.iface 245 (.pointer (some a)))).run Tryz.prog w=.ok (.bool true) w:=by
 cases hi:Tryz.prog.info? 245 with
 | none=>have:=c245;simp [hi] at this
 | some i=>
  cases hj:Tryz.prog.info? 247 with
  | none=>have:=s247;simp [hj] at this
  | some j=>exact run_eql_iface_ptr_same w a u72 u245 hi (by have:=c245;simpa [hi] using this) hj
theorem step_copy_row {P:Program} {ops:Array Oper} {o:Oper} {a:Act} {w:World} {K:Act→World→Prop} {Q:Exit→Act→World→Prop} {E:Prop} (hgd:o.guard=none) (d s:Operand) (dT sT:TypeId)
  (ho:o.op=.call { callee:=.builtin .copy,args:=#[d,s],argTypes:=#[dT,sT] }) (elem:TypeId) (hu:P.underlying dT=some (.slice elem)) (hsz:(P.info? elem).map (·.size)=some 1)
  (g off dLen dCap:Nat) (ad:Addr) (sLen sCap:Nat) (hd:a.eval d=.slice (some ⟨g,off,none⟩) dLen dCap) (hs:a.eval s=.slice (some ad) sLen sCap)
  (cur:Array Value) (t:TypeId) (hg:w.heap[g]? =some (.cells cur t (0,0))) (cs:List Value) (hn:cs.length=Nat.min sLen dLen)
  (hsrc:∀j v,cs[j]? =some v→w.cell? (ad.add j)=some v) (hfit:off+cs.length≤cur.size) (h1:∀v∈cs,v.oneCell'=true) (m:Nat) (hm:cs.length=m)
  (h:∀w',Hid (w'=w.setRow g (splice cur.toList off cs).toArray)→K (a.put o.dst (.int .i64 m)) w') :
  if Region.wanted o (yielded ops a.tmps)=true then Oper.wp P o a w K Q else E:=by
 subst hm
 have hw:Region.wanted o (yielded ops a.tmps)=true:=by simp [Region.wanted,hgd]
 rw [if_pos hw]
 have hrun:=run_copy_row (P:=P) w dT sT o.type elem g off dLen dCap ad sLen sCap cur t cs hu hsz hg hn hsrc hfit h1
 unfold Oper.wp
 simp [execOp,ho,resolve,invoke,builtin,hd,hs,hrun,Result.andThen]
 exact h _ (show _=_ by simp [splice])
theorem splice_get {α:Type} (L:List α) (off:Nat) (cs:List α) (h:off+cs.length≤L.length) (i:Nat) :
  (splice L off cs)[i]? =if off≤i∧i < off+cs.length then cs[i - off]? else L[i]? :=by
 unfold splice
 have hl:(L.take off).length=off:=by rw [List.length_take];omega
 by_cases h1:i < off
 ·rw [List.getElem?_append_left (by omega),List.getElem?_take,if_pos h1,if_neg (by omega)]
 ·rw [List.getElem?_append_right (by omega),hl]
  by_cases h2:i < off+cs.length
  ·rw [if_pos ⟨by omega,h2⟩,List.getElem?_append_left (by omega)]
  ·rw [if_neg (by omega),List.getElem?_append_right (by omega),List.getElem?_drop]
   congr 1;omega
abbrev bv (c:UInt8):Value:=.int .u8 c.toNat
def bvs (l:List UInt8):List Value:=l.map bv
@[simp] theorem bvs_length (l:List UInt8):(bvs l).length=l.length:=by simp [bvs]
theorem bvs_one (l:List UInt8):∀v∈bvs l,v.oneCell'=true:=by
 intro v hv;simp only [bvs,List.mem_map] at hv;obtain ⟨c,_,rfl⟩:=hv;rfl
theorem bvs_append (l m:List UInt8):bvs (l++m)=bvs l++bvs m:=by simp [bvs]
theorem bvs_get (l:List UInt8) (i:Nat):(bvs l)[i]? =(l[i]?).map bv:=by simp [bvs]
theorem heap_setCell_at {w:World} {b:Nat} {cs:Array Value} {t:TypeId} {fr:Nat×Nat} (h:w.heap[b]? =some (.cells cs t fr)) (i:Nat) (v:Value) :
  (w.setCell ⟨b,i,none⟩ v).heap[b]? =some (.cells (cs.setIfInBounds i v) t fr):=by
 have hlt:=(Array.getElem?_eq_some_iff.1 h).1
 simp [World.setCell,Array.getElem?_modify,h]
theorem add_addr (b o j:Nat):(⟨b,o,none⟩:Addr).add j=⟨b,o+j,none⟩:=Lib.addr_add b o j
theorem cell_heap {w:World} {b:Nat} {cs:Array Value} {t:TypeId} {fr:Nat×Nat} (h:w.heap[b]? =some (.cells cs t fr)) (i:Nat):w.cell? ⟨b,i,none⟩=cs[i]? :=Lib.cell_of_heap h i
theorem frozen_heap {w:World} {b:Nat} {cs:Array Value} {t:TypeId} (h:w.heap[b]? =some (.cells cs t (0,0))) (i:Nat):w.frozen? ⟨b,i,none⟩=false:=Lib.frozen_of_heap h i
end Go.Proofs.YtkanmkcojlefbaaGreatDoor
