/-
  FnFieldsComeFirst: the walk: it answers true, whatever the header and the values are.
-/
import Derived.Test.YtkanmkcojlefbaaGreatDoorJ42
import Derived.Test.YtkanmkcojlefbaaGreatDoorJ44
import Derived.Test.YtkanmkcojlefbaaGreatDoorJ45
import Derived.Deep.CutRange
import Derived.Deep.CutBlock
import Derived.Deep.AppendLies
set_option linter.unusedVariables false
namespace Go.Proofs.YtkanmkcojlefbaaGreatDoor
open Go.RowKit
attribute [go_sem] Instr.storeAt
attribute [go_sem] Instr.loadAt
theorem ldc9 (w:World) (p:Addr) (s:ByteArray) (h:w.cell? p=some (.string s)):(Instr.loadAt 9 (.pointer (some p))).run Tryz.prog w=.ok (.string s) w:=by go_simp
theorem ldc4 (w:World) (p:Addr) (s:Bool) (h:w.cell? p=some (.bool s)):(Instr.loadAt 4 (.pointer (some p))).run Tryz.prog w=.ok (.bool s) w:=by go_simp
theorem ldc24 (w:World) (p:Addr) (a:Option Addr) (n c:Nat) (h:w.cell? p=some (.slice a n c)):(Instr.loadAt 24 (.pointer (some p))).run Tryz.prog w=.ok (.slice a n c) w:=by go_simp
theorem stc3 (C:Array Value) (T:TypeId) (k:Nat) (hk:k < C.size) (x:Int) (w:World) (g:Nat) (hg:w.heap[g]? =some (.cells C T (0,0))):(Instr.storeAt 3 (.pointer (some ⟨g,k,none⟩)) (.int .i64 x)).run Tryz.prog w=.ok () (w.setCell ⟨g,k,none⟩ (.int .i64 x)):=by
 have c1:w.cell? ⟨g,k,none⟩=some C[k]:=by rw [cell_heap hg,Array.getElem?_eq_getElem hk]
 have f1:=frozen_heap hg k
 clear hg
 go_simp
theorem stc4 (C:Array Value) (T:TypeId) (k:Nat) (hk:k < C.size) (x:Bool) (w:World) (g:Nat) (hg:w.heap[g]? =some (.cells C T (0,0))):(Instr.storeAt 4 (.pointer (some ⟨g,k,none⟩)) (.bool x)).run Tryz.prog w=.ok () (w.setCell ⟨g,k,none⟩ (.bool x)):=by
 have c1:w.cell? ⟨g,k,none⟩=some C[k]:=by rw [cell_heap hg,Array.getElem?_eq_getElem hk]
 have f1:=frozen_heap hg k
 clear hg
 go_simp
theorem stc24 (C:Array Value) (T:TypeId) (k:Nat) (hk:k < C.size) (a:Option Addr) (n c:Nat) (w:World) (g:Nat) (hg:w.heap[g]? =some (.cells C T (0,0))):(Instr.storeAt 24 (.pointer (some ⟨g,k,none⟩)) (.slice a n c)).run Tryz.prog w=.ok () (w.setCell ⟨g,k,none⟩ (.slice a n c)):=by
 have c1:w.cell? ⟨g,k,none⟩=some C[k]:=by rw [cell_heap hg,Array.getElem?_eq_getElem hk]
 have f1:=frozen_heap hg k
 clear hg
 go_simp
theorem stc28 (C:Array Value) (T:TypeId) (k:Nat) (hk:k+1 < C.size) (x y:Int) (w:World) (g:Nat) (hg:w.heap[g]? =some (.cells C T (0,0))):(Instr.storeAt 28 (.pointer (some ⟨g,k,none⟩)) (.agg #[.int .i64 x,.int .i64 y])).run Tryz.prog w=.ok () ((w.setCell ⟨g,k,none⟩ (.int .i64 x)).setCell ⟨g,k+1,none⟩ (.int .i64 y)):=by
 have c1:w.cell? ⟨g,k,none⟩=some C[k]:=by rw [cell_heap hg,Array.getElem?_eq_getElem (by omega)]
 have f1:=frozen_heap hg k
 have c2:w.cell? ⟨g,k+1,none⟩=some C[k+1]:=by rw [cell_heap hg,Array.getElem?_eq_getElem hk]
 have f2:=frozen_heap hg (k+1)
 clear hg
 go_simp
theorem sto31n (C:Array Value) (Z:Array Value) (hs:C.size=21) (hz:Z.size=21) (h1:C.all (·.oneCell')=true) (w:World):(Instr.storeAt 31 (.pointer (some ⟨w.heap.size,0,none⟩)) (.agg C)).run Tryz.prog (w.alloc (.cells Z 31))=.ok () ((w.alloc (.cells Z 31)).setRow w.heap.size C):=sto31 C Z hs hz h1 _ _ (heap_alloc_new w _)
theorem sto26n (C:Array Value) (Z:Array Value) (hs:C.size=21) (hz:Z.size=21) (h1:C.all (·.oneCell')=true) (w:World):(Instr.storeAt 26 (.pointer (some ⟨w.heap.size,0,none⟩)) (.agg C)).run Tryz.prog (w.alloc (.cells Z 26))=.ok () ((w.alloc (.cells Z 26)).setRow w.heap.size C):=sto26 C Z hs hz h1 _ _ (heap_alloc_new w _)
theorem str_isE {s:ByteArray} (h:¬s=⟨#[]⟩):s.toList.isEmpty=false:=by
 have e:(s.toList == (⟨#[]⟩:ByteArray).toList)=false:=str_ne h
 have e0:(⟨#[]⟩:ByteArray).toList= []:=by first | rfl | decide | simp
 rw [e0] at e
 cases hs:s.toList with
 | nil=>rw [hs] at e;cases e
 | cons a l=>rfl
theorem str_pos {s:ByteArray} (h:¬s=⟨#[]⟩):0 < s.size:=by
 rcases Nat.eq_zero_or_pos s.size with h0 | h0
 ·exfalso;exact h (ByteArray.ext (Array.eq_empty_of_size_eq_zero h0))
 ·exact h0
theorem fk_chg {g:Nat} {C:Array Value} {W u u':World} (k:Chg [] u u') (h:u.heap[g]? =some (.cells C 26 (0,0))∧Chg [] W u):u'.heap[g]? =some (.cells C 26 (0,0))∧Chg [] W u':=⟨k.heap h.1 (by simp),h.2.trans k⟩
theorem ld24c (C:Array Value) (a:Option Addr) (n c:Nat) (hc:C[19]? =some (.slice a n c)) (w:World) (g:Nat) (hg:w.heap[g]? =some (.cells C 26 (0,0))):(Instr.loadAt 24 (.pointer (some ⟨g,19,none⟩))).run Tryz.prog w=.ok (.slice a n c) w:=ldc24 w _ a n c (by rw [cell_heap hg];exact hc)
theorem chg_frw {W a b:World} (h:Chg [] W a) (k:FrW W.heap.size [] a b):Chg [] W b:=
 ⟨k.below.os.trans h.os,k.below.tape.trans h.tape,k.below.output.trans h.output,Nat.le_trans h.size k.below.size,fun i hi hn=>(k.below.block i hi).trans (h.block i hi hn)⟩
theorem same_out (h0 h o x x1 x2:SH) (a2:Option Addr) (c2:Nat) (he:h0={ h with ra:=h0.ra,rn:=h0.rn,rc:=h0.rc }) (hs:SameOut o h) (hx:{ o with ra:=a2,rc:=c2 }=x) (hx1:(if h.ha=true then x else { x with ha:=false,ats:=0,atn:=0 })=x1) (hx2:(if h.hc=true then x1 else { x1 with hc:=false,cts:=0,ctn:=0 })=x2) (w:World) :
  Calls Tryz.prog 23 #[.agg x2.cells,.agg h0.prom.cells] w fun e w'=>e=.returned (.bool true)∧Chg [] w w':=by
 obtain ⟨ats',atn',cts',ctn',fv,a,n,c,rfl,h1,h2⟩:=hs
 obtain ⟨tf,name,link,size,mode,uid,gid,un,gn,ms,mn,ha,hc,ats,atn,cts,ctn,dj,dn,ra,rn,rc,fmt⟩:=h
 have hp:h0.prom={ x2 with ats:=h0.ats,atn:=h0.atn,cts:=h0.cts,ctn:=h0.ctn,ra:=h0.ra,rn:=h0.rn,rc:=h0.rc,fmt:=h0.fmt }:=by
  rw [he]
  subst hx2;subst hx1;subst hx
  cases ha<;>cases hc<;>rfl
 have q1:x2.ha=true→h0.ats=x2.ats∧h0.atn=x2.atn:=by
  rw [he]
  subst hx2;subst hx1;subst hx
  cases ha<;>cases hc<;>first | (intro e;cases e;done) | (intro _;obtain ⟨k1,k2⟩:=h1 rfl;exact ⟨k1.symm,k2.symm⟩)
 have q2:x2.hc=true→h0.cts=x2.cts∧h0.ctn=x2.ctn:=by
  rw [he]
  subst hx2;subst hx1;subst hx
  cases ha<;>cases hc<;>first | (intro e;cases e;done) | (intro _;obtain ⟨k1,k2⟩:=h2 rfl;exact ⟨k1.symm,k2.symm⟩)
 have:=Same_yes x2 h0.ats h0.cts h0.fmt h0.atn h0.ctn h0.ra h0.rn h0.rc w q1 q2
 rw [←hp] at this
 exact this
theorem StrsIn.chg {a:Option Addr} {n c:Nat} {l:List ByteArray} {w w':World} (h:StrsIn a n c l w) (k:Chg [] w w'):StrsIn a n c l w':=by
 obtain ⟨h1,h2,h3,h4⟩:=h
 exact ⟨h1,h2,h3,h4.imp id fun ⟨b,off,e,hc⟩=>⟨b,off,e,fun j hj=>k.cell (hc j hj) (by simp)⟩⟩
attribute [-go_sem] Instr.storeAt
attribute [-go_sem] Instr.loadAt
attribute [-go_sem] Builtin.append_
set_option maxRecDepth 100000 in
set_option maxHeartbeats 4000000 in
theorem fields_walk (sn : Nat → Addr) (kb : Nat) (g : SH) (l : List (ByteArray × ByteArray)) (a : Option Addr) (n c : Nat) (vs : List ByteArray) (W : World) (hE : Env W.heap.size sn kb W) (hR : RecsIn g.ra g.rn g.rc l W) (hK : Ran g) (hS : StrsIn a n c vs W) :
    Calls Tryz.prog 6 #[.agg g.icells, .slice a n c] W fun e w' => e = .returned (.bool true) ∧ Chg [] W w' := by
  generalize hQ : (fun (e : Ending) (w' : World) => e = .returned (.bool true) ∧ Chg [] W w') = Q
  have HQ := Lib.hid hQ
  have HF3 := Lib.hid fun w' (k : Chg [] W w') => fits3_any g l w' (hR.chg k)
  have HF6 := Lib.hid fun w' (k : Chg [] W w') => fits6_any a n c vs w' (hS.chg k)
  have HSV := Lib.hid hS; have HE := Lib.hid hE; have HK := Lib.hid hK
  clear hQ hR hS hE hK
  have hld := fun (w' : World) (b : Nat) (hg : w'.heap[b]? = some (.cells g.icells 26 (0, 0))) => ld26c g.icells rfl w' b hg
  have hs20 := fun (w' : World) (b : Nat) (hg : w'.heap[b]? = some (.cells g.icells 26 (0, 0))) => stc3 g.icells 26 20 (by rw [icells_size]; decide) 2 w' b hg
  have hs19 := fun (w' : World) (b : Nat) (hg : w'.heap[b]? = some (.cells (SH.icells { g with fmt := 2 }) 26 (0, 0))) => stc24 (SH.icells { g with fmt := 2 }) 26 19 (by rw [icells_size]; decide) none 0 0 w' b hg
  have hi1 : ∀ v, g.icells.setIfInBounds 20 (.int .i64 2) = v → (SH.icells { g with fmt := 2 }) = v := fun v h => h
  obtain ⟨C, hC⟩ : ∃ C, g.icells = C := ⟨_, rfl⟩
  obtain ⟨C1, hC1⟩ : ∃ C, (SH.icells { g with fmt := 2 }) = C := ⟨_, rfl⟩
  obtain ⟨C2, hC2⟩ : ∃ C, (SH.icells { g with fmt := 2, ra := none, rn := 0, rc := 0 }) = C := ⟨_, rfl⟩
  have e1 : C.setIfInBounds 20 (.int .i64 2) = C1 := by rw [← hC, ← hC1]; rfl
  have e2 : C1.setIfInBounds 19 (.slice none 0 0) = C2 := by rw [← hC1, ← hC2]; rfl
  rw [hC] at HF3 hld hs20 ⊢
  rw [hC1] at hs19
  have HC := Lib.hid hC; have HC1 := Lib.hid hC1; have HC2 := Lib.hid hC2; have E1 := Lib.hid e1; have E2 := Lib.hid e2
  clear hC hC1 hC2 e1 e2 hi1
  go_enter Tryz.func6, Tryz.ntmps6
  go_upto_region 1 with (fail)
  have hb0 := heap_alloc_new W (.cells C 26)
  have hk0 : Chg [] W (W.alloc (.cells C 26)) := (Chg.refl [] W).alloc _
  have hz0 : (W.alloc (.cells C 26)).heap.size = W.heap.size + 1 := Array.size_push _
  generalize W.alloc (.cells C 26) = w0 at hb0 hk0 hz0 ⊢
  generalize hgg : W.heap.size = g0 at *
  have HGG := Lib.hid hgg; have HK0 := Lib.hid hk0; have HZ0 := Lib.hid hz0
  clear hgg hk0 hz0
  go_upto_if 21 with (first
    | (go_at_call 7; refine (HF3.out _ HK0.out).mono ?_; rintro e w1 ⟨⟨b, rfl, hb⟩, hc1⟩; have hb1 := hc1.heap hb0 (by simp); have HB := Lib.hid hb; have KC1 := Lib.hid (HK0.out.trans hc1); clear hb hc1; cases b)
    | (go_at_call 20; refine (HF6.out _ KC1.out).mono ?_; rintro e w2 ⟨⟨b, rfl, hb⟩, rfl⟩; have HB2 := Lib.hid hb; clear hb; cases b))
  all_goals first
    | (go_wp2
       rw [← HQ.out]
       first | exact ⟨rfl, KC1.out⟩)
    | skip
  have HBig := Lib.hid (HB.out (by trivial)); have HVs := Lib.hid (HB2.out (by trivial))
  clear HB HB2 HF3 HF6 hld
  have hb1a := heap_setCell_at hb1 20 (.int .i64 2)
  rw [E1.out] at hb1a
  have hb1b := heap_setCell_at hb1a 19 (.slice none 0 0)
  rw [E2.out] at hb1b
  go_upto_region 5 with (fail)
  have hk2 : Chg [] W ((w1.setCell ⟨g0, 20, none⟩ (.int .i64 2)).setCell ⟨g0, 19, none⟩ (.slice none 0 0)) := (KC1.out.setCell (.inr (by rw [HGG.out]; exact Nat.le_refl _)) _).setCell (.inr (by rw [HGG.out]; exact Nat.le_refl _)) _
  clear hb1a hb1 hb0 hs20 hs19
  generalize (w1.setCell ⟨g0, 20, none⟩ (.int .i64 2)).setCell ⟨g0, 19, none⟩ (.slice none 0 0) = w2 at hb1b hk2 ⊢
  have hld := fun (w' : World) (b : Nat) (hg : w'.heap[b]? = some (.cells (SH.icells { g with fmt := 2, ra := none, rn := 0, rc := 0 }) 26 (0, 0))) => ld26c (SH.icells { g with fmt := 2, ra := none, rn := 0, rc := 0 }) rfl w' b hg
  have hpl := fun w' => plain_any { g with fmt := 2, ra := none, rn := 0, rc := 0 } [] w' ⟨rfl, Nat.le_refl _, Nat.zero_le _, .inl rfl⟩ (by show 0 ≤ _; decide)
  rw [HC2.out] at hld hpl
  have HPL := Lib.hid hpl; have HK2 := Lib.hid hk2
  clear hpl hk2
  obtain ⟨Z, hZ⟩ : ∃ Z : Array Value, #[.int .u8 0, .string ⟨#[]⟩, .string ⟨#[]⟩, .int .i64 0, .int .i64 0, .int .i64 0, .int .i64 0, .string ⟨#[]⟩, .string ⟨#[]⟩, .int .i64 0, .int .i64 0, .bool false, .bool false, .int .i64 0, .int .i64 0, .int .i64 0, .int .i64 0, .int .i64 0, .int .i64 0, .slice none 0 0, .int .i64 0] = Z := ⟨_, rfl⟩
  have hzs : Z.size = 21 := by rw [← hZ]; rfl
  have HZS := Lib.hid hzs
  clear hzs
  go_upto_if 31 with (first
    | (go_at_call 9; refine (HPL.out _).mono ?_; rintro e w3 ⟨a', c', rfl, hr3, hc3⟩; have hb3 := hc3.heap hb1b (by simp); have HR3 := Lib.hid hr3; have HC3 := Lib.hid (HK2.out.trans hc3); clear hr3 hc3)
    | (go_at_call 8; refine (choose_fmt { g with fmt := 2, ra := a', rn := 0, rc := c' } [] _ (by show (2 : Int) ≠ 0; decide) (by have h := HBig.out; have h1 := h.nm; have h2 := h.ln; have h3 := h.un; have h4 := h.gn; show g.name.size + g.link.size + g.un.size + g.gn.size + sumR [] ≤ _; have h5 : sumR [] = 0 := rfl; omega) HR3.out).mono ?_; rintro e w4 ⟨⟨q, v, rfl, hv⟩, hc4⟩; have hb4 := hc4.heap hb3 (by simp); have hqs : q.cells.size = 21 := rfl; have hst := fun w' => sto31n q.cells Z hqs HZS.out (cells_one q) w'; obtain ⟨D, hD⟩ : ∃ D, q.cells = D := ⟨_, rfl⟩; rw [SH.agg, hD]; rw [hD] at hst; have HD := Lib.hid hD; have HV := Lib.hid hv; have HC4 := Lib.hid (HC3.out.trans hc4); clear hv hc4 hqs hD))
  have hb5 : ((w4.alloc (.cells Z 31)).setRow w4.heap.size D).heap[g0]? = some (.cells C2 26 (0, 0)) := by
    have hlt := (Array.getElem?_eq_some_iff.1 hb4).1
    rw [setRow_other _ _ _ _ (by omega), Below.heap_alloc _ _ _ hlt]; exact hb4
  have hd5 : ((w4.alloc (.cells Z 31)).setRow w4.heap.size D).heap[w4.heap.size]? = some (.cells D 31 (0, 0)) := setRow_heap _ _ _ _ _ _ (heap_alloc_new w4 _)
  have hk5 : Chg [] W ((w4.alloc (.cells Z 31)).setRow w4.heap.size D) := (HC4.out.alloc _).setRow (.inr HC4.out.size) _
  have hgt : g0 < w4.heap.size := (Array.getElem?_eq_some_iff.1 hb4).1
  clear hst hld hb1b hb3 hb4 hZ
  generalize (w4.alloc (.cells Z 31)).setRow w4.heap.size D = w5 at hb5 hd5 hk5 ⊢
  generalize w4.heap.size = tb at hd5 hgt ⊢
  have HB5 := Lib.hid hb5; have HD5 := Lib.hid hd5; have HK5 := Lib.hid hk5; have HGT := Lib.hid hgt
  clear hb5 hd5 hk5 hgt
  have hv3 := HV.out.1
  rcases hv3 with rfl | rfl | rfl
  · go_wp2
    rw [← HQ.out]
    exact ⟨rfl, HK5.out⟩
  rotate_left
  · go_wp2
    rw [← HQ.out]
    exact ⟨rfl, HK5.out⟩
  obtain ⟨rfl, _, hcan⟩ := HV.out.2 rfl
  have HCAN := Lib.hid hcan
  clear hcan HV
  obtain ⟨A, hA⟩ : ∃ A : List Value, [.int .u8 g.tf.toNat, .string g.name, .string g.link, .int .i64 g.size, .int .i64 g.mode, .int .i64 g.uid, .int .i64 g.gid, .string g.un, .string g.gn, .int .i64 g.ms, .int .i64 g.mn, .bool g.ha, .int .i64 g.ats, .int .i64 g.atn, .bool g.hc, .int .i64 g.cts, .int .i64 g.ctn, .int .i64 g.dj, .int .i64 g.dn] = A := ⟨_, rfl⟩
  have hal : A.length = 19 := by rw [← hA]; rfl
  have hO5 : OutB g0 A [.int .i64 2] (.slice none 0 0) w5 := ⟨by rw [HB5.out, ← HC2.out, ← hA]; rfl, hal⟩
  have HA := Lib.hid hA; have HAL := Lib.hid hal; have HO5 := Lib.hid hO5
  clear hA hal hO5
  obtain ⟨b5, hb5⟩ : ∃ b, w5.heap.size = b := ⟨_, rfl⟩
  have HB5S := Lib.hid hb5
  clear hb5
  obtain ⟨i0, hi0, hj0, hj1, hj2⟩ : ∃ i, Tryz.prog.info? 59 = some i ∧ i.zero = some (.agg #[.string ⟨#[]⟩, .string ⟨#[]⟩]) ∧ i.size = 2 ∧ i.bytes = 32 := ⟨_, rfl, rfl, rfl, rfl⟩
  have hn31 : n ≤ 2147483647 := HVs.out.1
  have hbn : ((1 : Int) != 1) = false := rfl
  rw [hbn]
  clear hbn
  go_wp2
  go_loopw [34] (fun i wr => ∃ (j : Nat) (L : List (ByteArray × ByteArray)) (aa : Option Addr) (cc : Nat), j ≤ n ∧ i = .int .i64 j ∧ L.length = j ∧ j ≤ 10 ∧ wr.ownsRow b5 59 2 (.slice aa j cc) j (flatR L) ∧ OutB g0 A [.int .i64 2] (.slice aa j cc) wr ∧ (∀ p ∈ L, p.1 ∈ tenKeys ∧ 0 < p.2.size ∧ p.2.size ≤ 2147483647) ∧ wr.heap[tb]? = some (.cells D 31 (0, 0)) ∧ b5 ≤ wr.heap.size ∧ Chg [] W wr) (fun i _ => n - (intOf i).toNat)
  case atStart => exact ⟨0, [], none, 0, Nat.zero_le _, rfl, rfl, by decide, World.ownsRow_nil _ _ _ _, HO5.out, (by intro p hp; cases hp), HD5.out, by rw [HB5S.out]; exact Nat.le_refl _, HK5.out⟩
  case round =>
    obtain ⟨j, L, aa, cc, hj, rfl, hLl, hj10, hown, hO, hLp, hd, hbs, hch⟩ := hrel
    have HLL := Lib.hid hLl; have HOWN := Lib.hid hown; have HO := Lib.hid hO; have HLP := Lib.hid hLp; have HDD := Lib.hid hd; have HBS := Lib.hid hbs; have HCH := Lib.hid hch
    clear hLl hown hO hLp hd hbs hch
    by_cases hlt : j < n
    · have hlt' : (j : Int) < n := by omega
      obtain ⟨s1, s2, s3, s4⟩ := HSV.out
      rcases s4 with s4 | ⟨bb, off, rfl, s4⟩
      · omega
      have hll : j < vs.length := by omega
      have hc1 := HCH.out.cell (s4 j hll) (by simp)
      have hsz := HVs.out.2 vs[j] (List.getElem_mem hll)
      generalize vs[j] = s at hc1 hsz
      have hl9 := ldc9 wr ⟨bb, off + j, none⟩ s hc1
      have hU := Lib.hid (utf8_any s wr (by omega))
      have HKY := Lib.hid (keys_any wr)
      clear s1 s2 s3 s4 hc1
      by_cases hs0 : s = ⟨#[]⟩
      · subst hs0
        go_upto_if 51 with (first
          | (go_at_call 21; refine hU.out.mono ?_; rintro e u1 ⟨⟨b, rfl, hb⟩, rfl⟩; have HBU := Lib.hid hb; clear hb; cases b))
        all_goals
          go_wp2
          rw [← HQ.out]
          exact ⟨rfl, HCH.out⟩
      · have hse := str_isE hs0
        have HSP := Lib.hid (str_pos hs0)
        clear hs0
        by_cases hjt : (j : Int) ≥ 10
        · go_upto_if 51 with (first
            | (go_at_call 21; refine hU.out.mono ?_; rintro e u1 ⟨⟨b, rfl, hb⟩, rfl⟩; have HBU := Lib.hid hb; clear hb; cases b)
            | (go_at_call 22; refine HKY.out.mono ?_; rintro e u2 ⟨rfl, hu2⟩; have HU2 := Lib.hid hu2; clear hu2))
          all_goals
            go_wp2
            rw [← HQ.out]
            first | exact ⟨rfl, HCH.out⟩ | exact ⟨rfl, by rw [HU2.out]; exact HCH.out.alloc _⟩
        · have hjlt : (j : Int) < 10 := by omega
          go_upto_if 51 with (first
            | (go_at_call 21; refine hU.out.mono ?_; rintro e u1 ⟨⟨b, rfl, hb⟩, rfl⟩; have HBU := Lib.hid hb; clear hb; cases b)
            | (go_at_call 22; refine HKY.out.mono ?_; rintro e u2 ⟨rfl, hu2⟩; have HU2 := Lib.hid hu2; clear hu2))
          · go_wp2
            rw [← HQ.out]
            exact ⟨rfl, HCH.out⟩
          · go_upto_region 13 with (fail)
            obtain ⟨Ch, hCh⟩ : ∃ Ch, (A ++ Value.slice aa j cc :: [.int .i64 2]).toArray = Ch := ⟨_, rfl⟩
            have hob := HO.out.1
            have hc19 : Ch[19]? = some (.slice aa j cc) := by rw [← hCh, List.getElem?_toArray, List.getElem?_append_right (by rw [HAL.out]; exact Nat.le_refl _), HAL.out]; rfl
            have hcs : 19 < Ch.size := (Array.getElem?_eq_some_iff.1 hc19).1
            rw [hCh] at hob
            have HCH' := Lib.hid hCh
            clear hCh
            have hcu : Chg [] wr u2 := by rw [HU2.out]; exact (Chg.refl [] _).alloc _
            have hq2 : u2.heap[g0]? = some (.cells Ch 26 (0, 0)) ∧ Chg [] W u2 := ⟨hcu.heap hob (by simp), HCH.out.trans hcu⟩
            have hl24 := fun (w' : World) (hg : w'.heap[g0]? = some (.cells Ch 26 (0, 0))) => ld24c Ch aa j cc hc19 w' g0 hg
            have hs24 := fun (a : Option Addr) (n c : Nat) (w' : World) (hg : w'.heap[g0]? = some (.cells Ch 26 (0, 0))) => stc24 Ch 26 19 hcs a n c w' g0 hg
            have HCU := Lib.hid hcu
            clear hcu hob hc19 hcs hl9
            have hkl : j < tenKeys.length := by have : tenKeys.length = 10 := rfl; omega
            have hkm : tenKeys[j] ∈ tenKeys := List.getElem_mem hkl
            have hck := fun u : World => keys_cell u j hkl
            generalize tenKeys[j] = key at hkm hck
            have HCK := Lib.hid hck; have HKM := Lib.hid hkm
            have hgb : g0 < b5 := by have h1 := (Array.getElem?_eq_some_iff.1 HB5.out).1; have h2 := HB5S.out; omega
            have hwb : W.heap.size ≤ b5 := by have h1 := HK5.out.size; have h2 := HB5S.out; omega
            have HWB := Lib.hid hwb
            have hone : ∀ u ∈ [Value.string key, Value.string s], u.oneCell' = true := by simp [Value.oneCell']
            have h63 : j + 1 ≤ maxLen := by unfold maxLen; omega
            have hby : (j + 1) * 32 ≤ 140737488355328 := by omega
            clear hck hkm hkl hwb
            obtain ⟨O1, hO1⟩ : ∃ O : Obj, Obj.cells (tenKeys.map (Value.string ·)).toArray 9 = O := ⟨_, rfl⟩
            have hkeys := fun u : World => keys_any u
            rw [hO1] at hkeys
            have hcK := HCK.out u2
            rw [hO1] at hcK
            have hl9k := ldc9 (u2.alloc O1).drew ⟨u2.heap.size, j, none⟩ key hcK
            have hk0 : Chg [] u2 u2.drew := (Chg.refl [] u2).drew
            have hk1 : Chg [] u2 (u2.alloc O1).drew := ((Chg.refl [] u2).alloc _).drew
            have hk2 : Chg [] u2 ((u2.alloc O1).alloc (.cells #[.string key, .string s] 59)).drew := (((Chg.refl [] u2).alloc _).alloc _).drew
            have q0 := (fk_chg hk0 hq2).1
            have q1 := (fk_chg hk1 hq2).1
            have q2 := (fk_chg hk2 hq2).1
            have hsz2 : (u2.alloc O1).heap.size = u2.heap.size + 1 := Array.size_push _
            have hne := cell2_new (u2.alloc O1) (.string key) (.string s) 59
            rw [hsz2] at hne
            have hbs2 : b5 ≤ ((u2.alloc O1).alloc (.cells #[.string key, .string s] 59)).drew.heap.size := by have h1 := hk2.size; have h2 := HBS.out; have h3 := HCU.out.size; omega
            obtain ⟨g6, cap, w6, happ, hown6, hgrow, hat, hlt6⟩ := run_append_lies (P := Tryz.prog) ((u2.alloc O1).alloc (.cells #[.string key, .string s] 59)).drew 24 24 b5 59 i0 (.agg #[.string ⟨#[]⟩, .string ⟨#[]⟩]) 2 32 Tryz.underlying24 hi0 hj0 hj1 hj2 rfl (by decide) (.slice aa j cc) j (flatR L) (own_chg HOWN.out (HCU.out.trans hk2) (fun _ _ hm => by cases hm)) ⟨u2.heap.size + 1, 0, none⟩ 1 1 [.string key, .string s] rfl hne hone (by decide) h63 hby hbs2 _ rfl
            have hcg := chg_grownV hgrow (S := (Value.slice aa j cc).ownBlock.toList) (by intro g hg; rw [hg]; simp)
            have hlow : ∀ g ∈ (Value.slice aa j cc).ownBlock.toList, b5 ≤ g := fun g hg => (World.ownsRow.lt HOWN.out g (by simpa using hg)).1
            have hb6 := hcg.heap q2 (fun hm => by have := hlow _ hm; omega)
            have hg6 : b5 ≤ g6 := (World.ownsRow.lt hown6 g6 rfl).1
            have hsb : g0 ≠ tb := by have := HGT.out; omega
            have htb5 : tb < b5 := by have h1 := (Array.getElem?_eq_some_iff.1 HD5.out).1; have h2 := HB5S.out; omega
            have hO6 : OutB g0 A [.int .i64 2] (.slice aa j cc) w6 := ⟨by rw [hb6, HCH'.out], HAL.out⟩
            have hO7 := hO6.set (u := .slice (some ⟨g6, 0, none⟩) (j + 1) cap)
            have kk7 : Chg [g0] w6 (w6.setCell ⟨g0, 19, none⟩ (.slice (some ⟨g6, 0, none⟩) (j + 1) cap)) := (Chg.refl _ _).setCell (.inl (by simp)) _
            have hown7 := own_chg hown6 kk7 (fun g hg hm => by have h1 := (World.ownsRow.lt hown6 g hg).1; have h2 := List.mem_singleton.1 hm; omega)
            have hd7 := kk7.heap (hcg.heap ((HCU.out.trans hk2).heap HDD.out (by simp)) (fun hm => by have := hlow _ hm; omega)) (by simpa using Ne.symm hsb)
            have hk6 : Chg [] W w6 := (HCH.out.trans (HCU.out.trans hk2)).transFresh hcg (fun i hi => .inr (by have := hlow i hi; have := HWB.out; omega))
            have hk7 := hk6.transFresh kk7 (fun i hi => .inr (by have e := List.mem_singleton.1 hi; have := HGG.out; omega))
            have hbs7 : b5 ≤ (w6.setCell ⟨g0, 19, none⟩ (.slice (some ⟨g6, 0, none⟩) (j + 1) cap)).heap.size := by have h1 := kk7.size; omega
            have HREL := Lib.hid (show ∃ (L' : List (ByteArray × ByteArray)) (aa' : Option Addr) (cc' : Nat), L'.length = j + 1 ∧ (w6.setCell ⟨g0, 19, none⟩ (.slice (some ⟨g6, 0, none⟩) (j + 1) cap)).ownsRow b5 59 2 (.slice aa' (j + 1) cc') (j + 1) (flatR L') ∧ OutB g0 A [.int .i64 2] (.slice aa' (j + 1) cc') (w6.setCell ⟨g0, 19, none⟩ (.slice (some ⟨g6, 0, none⟩) (j + 1) cap)) ∧ (∀ p ∈ L', p.1 ∈ tenKeys ∧ 0 < p.2.size ∧ p.2.size ≤ 2147483647) ∧ (w6.setCell ⟨g0, 19, none⟩ (.slice (some ⟨g6, 0, none⟩) (j + 1) cap)).heap[tb]? = some (.cells D 31 (0, 0)) ∧ b5 ≤ (w6.setCell ⟨g0, 19, none⟩ (.slice (some ⟨g6, 0, none⟩) (j + 1) cap)).heap.size ∧ Chg [] W (w6.setCell ⟨g0, 19, none⟩ (.slice (some ⟨g6, 0, none⟩) (j + 1) cap)) from by
              refine ⟨L ++ [(key, s)], some ⟨g6, 0, none⟩, cap, by rw [List.length_append, HLL.out]; rfl, by rw [flatR_append]; exact hown7, hO7, ?_, hd7, hbs7, hk7⟩
              intro p hp
              rcases List.mem_append.1 hp with hp | hp
              · exact HLP.out p hp
              · obtain rfl := List.mem_singleton.1 hp
                exact ⟨HKM.out, HSP.out, hsz⟩)
            clear hown6 hgrow hat hcg hlow hne hsz2 hbs2 hk0 hk1 hk2 hcK hO1 hq2 hO6 hO7 kk7 hown7 hd7 hk6 hk7 hbs7 htb5 hsb
            go_region_with (go_at_call 22; refine (hkeys _).mono ?_; rintro e u3 ⟨rfl, rfl⟩)
            all_goals
              go_wp2
              go_roundw
              case rel =>
                obtain ⟨L', aa', cc', r1, r2, r3, r4, r5, r6, r7⟩ := HREL.out
                exact ⟨j + 1, L', aa', cc', by omega, by go_num, r1, by omega, r2, r3, r4, r5, r6, r7⟩
              case measure => simp [intOf]; omega
    · obtain rfl : j = n := by omega
      clear hj hlt
      have hLLo := HLL.out
      have hhd := head_ten g0 sn kb g a' c' HCAN.out HK.out L aa cc HLP.out (by omega) wr (by exact HE.out.chg0 HCH.out) (by
        obtain ⟨a2, c2, e2, h2, _⟩ := recsIn_own HOWN.out HLL.out
        injection e2 with e3 e4 e5
        subst e3; subst e5
        rw [hLLo]; exact h2)
      have hb5 : wr.heap[g0]? = some (.cells (SH.icells { g with fmt := 2, ra := aa, rn := j, rc := cc }) 26 (0, 0)) := by
        rw [HO.out.1, ← HA.out]; rfl
      rw [hLLo] at hhd
      have hst5 := icells_size { g with fmt := 2, ra := aa, rn := j, rc := cc }
      have hld5 := fun (w' : World) (b : Nat) (hg : w'.heap[b]? = some (.cells (SH.icells { g with fmt := 2, ra := aa, rn := j, rc := cc }) 26 (0, 0))) => ld26c _ hst5 w' b hg
      have hha5 := fun (w' : World) (hg : w'.heap[g0]? = some (.cells (SH.icells { g with fmt := 2, ra := aa, rn := j, rc := cc }) 26 (0, 0))) => ldc4 w' ⟨g0, 11, none⟩ g.ha (by rw [cell_heap hg]; rfl)
      have hhc5 := fun (w' : World) (hg : w'.heap[g0]? = some (.cells (SH.icells { g with fmt := 2, ra := aa, rn := j, rc := cc }) 26 (0, 0))) => ldc4 w' ⟨g0, 14, none⟩ g.hc (by rw [cell_heap hg]; rfl)
      obtain ⟨C5, hC5⟩ : ∃ C, (SH.icells { g with fmt := 2, ra := aa, rn := j, rc := cc }) = C := ⟨_, rfl⟩
      rw [hC5] at hhd hb5 hld5 hha5 hhc5
      have HHD := Lib.hid hhd
      clear hhd hst5 hC5
      obtain ⟨Zi, hZi⟩ : ∃ Z : Array Value, #[.int .u8 0, .string ⟨#[]⟩, .string ⟨#[]⟩, .int .i64 0, .int .i64 0, .int .i64 0, .int .i64 0, .string ⟨#[]⟩, .string ⟨#[]⟩, .int .i64 0, .int .i64 0, .bool false, .int .i64 0, .int .i64 0, .bool false, .int .i64 0, .int .i64 0, .int .i64 0, .int .i64 0, .slice none 0 0, .int .i64 0] = Z := ⟨_, rfl⟩
      have hzis : Zi.size = 21 := by rw [← hZi]; rfl
      have HZIS := Lib.hid hzis
      clear hzis
      go_upto_region 16 with (go_at_call 10; refine HHD.out.mono ?_; rintro e v1 ⟨gb, nb, cap, rfl, hF1, hfi⟩; have hb6 := hF1.heap hb5 (by simp) (by decide); have hd6 := hF1.heap HDD.out (by simp) (by decide); have HFI := Lib.hid (hfi v1 (Chg.refl _ _)); have HF1 := Lib.hid hF1; clear hfi hF1)
      have hk6 : Chg [] W v1 := chg_frw HCH.out (by rw [HGG.out]; exact HF1.out)
      have HK6 := Lib.hid hk6
      clear hk6 hb5
      unfold FirstOf at HFI
      go_upto_region 19 with (go_at_call 11; refine HFI.out.mono ?_; rintro e v2 ⟨o, l', rfl, hso, hrr, hrn, _, hc2⟩; have hb7 := hc2.heap hb6 (by simp); have hd7 := hc2.heap hd6 (by simp); have hst6 := fun w' => sto26n o.icells Zi (icells_size o) HZIS.out (icells_one o) w'; have hld6 := fun (w' : World) (b : Nat) (hg : w'.heap[b]? = some (.cells o.icells 26 (0, 0))) => ld26c o.icells (icells_size o) w' b hg; have hpl6 := fun w' (k : Chg [] v2 w') => plain_any o l' w' (hrr.chg k) (by omega); obtain ⟨Co, hCo⟩ : ∃ C, o.icells = C := ⟨_, rfl⟩; rw [hCo] at hst6 hld6 hpl6 ⊢; have HPL6 := Lib.hid hpl6; have HSO := Lib.hid hso; have HRR := Lib.hid hrr; have HC2 := Lib.hid hc2; clear hso hrr hc2 hpl6 hCo)
      have hi7 : ((v2.alloc (.cells Zi 26)).setRow v2.heap.size Co).heap[v2.heap.size]? = some (.cells Co 26 (0, 0)) := setRow_heap _ _ _ _ _ _ (heap_alloc_new v2 _)
      have hgl := (Array.getElem?_eq_some_iff.1 hb7).1
      have htl := (Array.getElem?_eq_some_iff.1 hd7).1
      have hk7 : Chg [] v2 ((v2.alloc (.cells Zi 26)).setRow v2.heap.size Co) := ((Chg.refl [] _).alloc _).setRow (.inr (Nat.le_refl _)) _
      have hb8 := hk7.heap hb7 (by simp)
      have hd8 := hk7.heap hd7 (by simp)
      clear hst6 hb7 hd7 hb6 hd6 hZi hld5
      generalize (v2.alloc (.cells Zi 26)).setRow v2.heap.size Co = v3 at hi7 hk7 hb8 hd8 ⊢
      generalize v2.heap.size = ti at hi7 hgl htl ⊢
      have HK7 := Lib.hid hk7
      clear hk7
      obtain ⟨Z3, hZ3⟩ : ∃ Z : Array Value, #[.int .u8 0, .string ⟨#[]⟩, .string ⟨#[]⟩, .int .i64 0, .int .i64 0, .int .i64 0, .int .i64 0, .string ⟨#[]⟩, .string ⟨#[]⟩, .int .i64 0, .int .i64 0, .bool false, .bool false, .int .i64 0, .int .i64 0, .int .i64 0, .int .i64 0, .int .i64 0, .int .i64 0, .slice none 0 0, .int .i64 0] = Z := ⟨_, rfl⟩
      have hz3 : Z3.size = 21 := by rw [← hZ3]; rfl
      have HZ3 := Lib.hid hz3
      clear hz3
      go_upto_region 20 with (go_at_call 9; refine (HPL6.out _ HK7.out).mono ?_; rintro e v4 ⟨a2, c2, rfl, _, hc4⟩; have hb9 := hc4.heap hb8 (by simp); have hd9 := hc4.heap hd8 (by simp); obtain ⟨x, hx⟩ : ∃ x : SH, { o with ra := a2, rc := c2 } = x := ⟨_, rfl⟩; have hst7 := fun w' => sto31n x.cells Z3 rfl HZ3.out (cells_one x) w'; rw [hx]; obtain ⟨D2, hD2⟩ : ∃ D, x.cells = D := ⟨_, rfl⟩; rw [SH.agg, hD2]; rw [hD2] at hst7; have HX := Lib.hid hx; have HD2 := Lib.hid hD2; have HC4b := Lib.hid hc4; clear hx hD2 hc4)
      have hx9 : ((v4.alloc (.cells Z3 31)).setRow v4.heap.size D2).heap[v4.heap.size]? = some (.cells D2 31 (0, 0)) := setRow_heap _ _ _ _ _ _ (heap_alloc_new v4 _)
      have hk9 : Chg [] v4 ((v4.alloc (.cells Z3 31)).setRow v4.heap.size D2) := ((Chg.refl [] _).alloc _).setRow (.inr (Nat.le_refl _)) _
      have hb10 := hk9.heap hb9 (by simp)
      have hd10 := hk9.heap hd9 (by simp)
      have hgx := (Array.getElem?_eq_some_iff.1 hb9).1
      have htx := (Array.getElem?_eq_some_iff.1 hd9).1
      have hWx : W.heap.size ≤ v4.heap.size := by have h1 := HK6.out.size; have h2 := HC2.out.size; have h3 := HK7.out.size; have h4 := HC4b.out.size; omega
      have hKx : Chg [] W ((v4.alloc (.cells Z3 31)).setRow v4.heap.size D2) := HK6.out.trans (HC2.out.trans (HK7.out.trans (HC4b.out.trans hk9)))
      clear hst7 hb9 hd9 hb8 hd8 hZ3 hk9 hld6 hi7
      generalize (v4.alloc (.cells Z3 31)).setRow v4.heap.size D2 = v5 at hx9 hb10 hd10 hKx ⊢
      generalize v4.heap.size = tx at hx9 hgx htx hWx ⊢
      rw [← HD2.out] at hx9
      have HKX := Lib.hid hKx; have HWX := Lib.hid hWx; have HX9 := Lib.hid hx9
      clear hKx hWx
      have hsA := fun (w' : World) (hg : w'.heap[tx]? = some (.cells x.cells 31 (0, 0))) => stc4 x.cells 31 11 (by show 11 < 21; decide) false w' tx hg
      have hsB := fun (w' : World) (hg : w'.heap[tx]? = some (.cells (x.cells.setIfInBounds 11 (.bool false)) 31 (0, 0))) => stc28 (x.cells.setIfInBounds 11 (.bool false)) 31 13 (by rw [Array.size_setIfInBounds]; show 14 < 21; decide) 0 0 w' tx hg
      have hxa := heap_setCell_at hx9 11 (.bool false)
      obtain ⟨b1, hb1⟩ : ∃ b, g.ha = b := ⟨_, rfl⟩
      obtain ⟨b2, hb2⟩ : ∃ b, g.hc = b := ⟨_, rfl⟩
      rw [hb1] at hha5
      rw [hb2] at hhc5
      have HB1 := Lib.hid hb1; have HB2 := Lib.hid hb2
      clear hb1 hb2
      obtain ⟨x1, v6, hx1, hx6, hb11, hd11, hk11⟩ : ∃ (x1 : SH) (v6 : World), (if b1 = true then x else { x with ha := false, ats := 0, atn := 0 }) = x1 ∧ v6.heap[tx]? = some (.cells x1.cells 31 (0, 0)) ∧ v6.heap[g0]? = some (.cells C5 26 (0, 0)) ∧ v6.heap[tb]? = some (.cells D 31 (0, 0)) ∧ Chg [tx] v5 v6 ∧ v6 = (if b1 = true then v5 else ((v5.setCell ⟨tx, 11, none⟩ (.bool false)).setCell ⟨tx, 13, none⟩ (.int .i64 0)).setCell ⟨tx, 14, none⟩ (.int .i64 0)) := by
        cases b1
        · have kk : Chg [tx] v5 (((v5.setCell ⟨tx, 11, none⟩ (.bool false)).setCell ⟨tx, 13, none⟩ (.int .i64 0)).setCell ⟨tx, 14, none⟩ (.int .i64 0)) := (((Chg.refl [tx] v5).setCell (.inl (by simp)) _).setCell (.inl (by simp)) _).setCell (.inl (by simp)) _
          refine ⟨_, _, rfl, heap_setCell_at (heap_setCell_at hxa 13 (.int .i64 0)) 14 (.int .i64 0), kk.heap hb10 (by simp; omega), kk.heap hd10 (by simp; omega), kk, rfl⟩
        · exact ⟨x, v5, rfl, hx9, hb10, hd10, Chg.refl _ _, rfl⟩
      obtain ⟨hk11, hv6⟩ := hk11
      go_upto_if 84 with (fail)
      go_cut [] from 82 to 87 (fun w' => w' = v6)
      case first =>
        cases b1
        · simp only [Bool.false_eq_true, if_false] at hv6
          go_wp2
          go_meet
          case rel => exact hv6.symm
        · simp only [if_true] at hv6
          go_wp2
          go_meet
          case rel => exact hv6.symm
      case rest =>
        obtain rfl := hcut
        have HK11 := Lib.hid hk11; have HX1 := Lib.hid hx1
        have hsA := fun (w' : World) (hg : w'.heap[tx]? = some (.cells x1.cells 31 (0, 0))) => stc4 x1.cells 31 12 (by show 12 < 21; decide) false w' tx hg
        have hsB := fun (w' : World) (hg : w'.heap[tx]? = some (.cells (x1.cells.setIfInBounds 12 (.bool false)) 31 (0, 0))) => stc28 (x1.cells.setIfInBounds 12 (.bool false)) 31 15 (by rw [Array.size_setIfInBounds]; show 16 < 21; decide) 0 0 w' tx hg
        have hxa := heap_setCell_at hx6 12 (.bool false)
        clear hk11 hx1 hv6 hb10 hd10 hha5
        obtain ⟨x2, v7, hx2, hx7, hb12, hd12, hk12⟩ : ∃ (x2 : SH) (v7 : World), (if b2 = true then x1 else { x1 with hc := false, cts := 0, ctn := 0 }) = x2 ∧ v7.heap[tx]? = some (.cells x2.cells 31 (0, 0)) ∧ v7.heap[g0]? = some (.cells C5 26 (0, 0)) ∧ v7.heap[tb]? = some (.cells D 31 (0, 0)) ∧ Chg [tx] wc v7 ∧ v7 = (if b2 = true then wc else ((wc.setCell ⟨tx, 12, none⟩ (.bool false)).setCell ⟨tx, 15, none⟩ (.int .i64 0)).setCell ⟨tx, 16, none⟩ (.int .i64 0)) := by
          cases b2
          · have kk : Chg [tx] wc (((wc.setCell ⟨tx, 12, none⟩ (.bool false)).setCell ⟨tx, 15, none⟩ (.int .i64 0)).setCell ⟨tx, 16, none⟩ (.int .i64 0)) := (((Chg.refl [tx] wc).setCell (.inl (by simp)) _).setCell (.inl (by simp)) _).setCell (.inl (by simp)) _
            refine ⟨_, _, rfl, heap_setCell_at (heap_setCell_at hxa 15 (.int .i64 0)) 16 (.int .i64 0), kk.heap hb11 (by simp; omega), kk.heap hd11 (by simp; omega), kk, rfl⟩
          · exact ⟨x1, wc, rfl, hx6, hb11, hd11, Chg.refl _ _, rfl⟩
        obtain ⟨hk12, hv7⟩ := hk12
        go_upto_if 90 with (fail)
        go_cut [] from 88 to 93 (fun w' => w' = v7)
        case first =>
          cases b2
          · simp only [Bool.false_eq_true, if_false] at hv7
            go_wp2
            go_meet
            case rel => exact hv7.symm
          · simp only [if_true] at hv7
            go_wp2
            go_meet
            case rel => exact hv7.symm
        case rest =>
          obtain rfl := hcut
          have hsame : ∀ w', Calls Tryz.prog 23 #[.agg x2.cells, .agg D] w' fun e w'' => e = .returned (.bool true) ∧ Chg [] w' w'' := fun w' => by
            rw [← HD.out]
            exact same_out { g with fmt := 2, ra := a', rn := 0, rc := c' } { g with fmt := 2, ra := aa, rn := j, rc := cc } o x x1 x2 a2 c2 rfl HSO.out HX.out (by rw [show ({ g with fmt := 2, ra := aa, rn := j, rc := cc } : SH).ha = g.ha from rfl, HB1.out]; exact HX1.out) (by rw [show ({ g with fmt := 2, ra := aa, rn := j, rc := cc } : SH).hc = g.hc from rfl, HB2.out]; exact hx2) w'
          have hldx := fun (w' : World) (hg : w'.heap[tx]? = some (.cells x2.cells 31 (0, 0))) => ld31 x2.cells rfl w' tx hg
          have hds : D.size = 21 := by rw [← HD.out]; rfl
          have hldd := fun (w' : World) (hg : w'.heap[tb]? = some (.cells D 31 (0, 0))) => ld31 D hds w' tb hg
          obtain ⟨D3, hD3⟩ : ∃ C, x2.cells = C := ⟨_, rfl⟩
          rw [hD3] at hsame hldx hx7
          have HSAME := Lib.hid hsame
          have HKF := Lib.hid (HKX.out.transFresh (HK11.out.trans hk12) (fun i hi => .inr (by have e := List.mem_singleton.1 hi; have := HWX.out; omega)))
          clear hsame hD3 hds hk12 hv7 hx2 hsA hsB hxa hx6 hb11 hd11
          go_wp2_with (go_at_call 23; refine (HSAME.out _).mono ?_; rintro e v8 ⟨rfl, hc8⟩)
          rw [← HQ.out]
          exact ⟨rfl, HKF.out.trans hc8⟩
end Go.Proofs.YtkanmkcojlefbaaGreatDoor
