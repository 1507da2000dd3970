/-
  The arguments of the statements, opened: a header as its cells, records, strings.
-/
import Derived.Test.YtkanmkcojlefbaaGreatDoorJ42
import Derived.ChangeArms
import Derived.WideShapes
import Derived.ChangeSame
import Derived.ChangeShapes
import Derived.Deep.SlicePairs
import Derived.SliceStrings
set_option linter.unusedVariables false
namespace Go.Proofs.YtkanmkcojlefbaaGreatDoor
open Go.RowKit Go.ChangeShapes Go.WideShapes
section
variable {H:Type} {enc:TypeId×Value→H} {w:World} {base:Nat} {sp:Nat→Bool} {held:Bool}
def I64 (n:Int):Prop:=-9223372036854775808≤n∧n < 9223372036854775808
theorem i64_wf {n:Int} (h:(Lit.int .i64 n).wf=true):I64 n:=by
 have : -9223372036854775808≤n∧n≤9223372036854775807:=by simpa [Lit.wf,IntKind.min,IntKind.max,IntKind.signed,IntKind.bits] using h
 unfold I64;omega
theorem cell_addr {a:Addr} {i:Nat} {v:Value} (h:w.cell? (a.add i)=some v) (hi:i=0):a=⟨a.block,a.off,none⟩:=by
 obtain ⟨b,o,s⟩:=a
 cases s with
 | none=>rfl
 | some k=>
  exfalso
  simp only [World.cell?,Addr.add] at h
  subst hi
  simp only [if_true] at h
  split at h<;>simp at h
theorem open_recs {fuel:Nat} {v:Value} {x:DataW H×List MemPlace} (h:DataW.trod enc Tryz.prog w base sp held fuel 24 [v]=some x) :
  ∃a n c l,v=.slice a n c∧RecsIn a n c l w:=by
 rcases Go.Deep.open_slice_pairs Tryz.underlying24 Tryz.underlying59 (by kernel_rfl) rfl rfl (by kernel_rfl) (by kernel_rfl) h with ⟨h0,_⟩ | ⟨a,n,c,m,k,V0,V1,D0,D1,P0,P1,h0,_,hl,hc,hm,_,hat⟩
 ·obtain rfl:=List.singleton_inj.1 h0
  exact ⟨none,0,0,[],rfl,rfl,Nat.le_refl _,Nat.zero_le _,.inl rfl⟩
 ·obtain rfl:=List.singleton_inj.1 h0
  have hnm:n≤m:=by rw [hm];split<;>omega
  have hs:∀i,i < n→∃p:ByteArray×ByteArray,V0 i=.string p.1∧V1 i=.string p.2:=by
   intro i hi
   obtain ⟨_,_,t0,t1⟩:=hat i (by omega)
   obtain ⟨s0,e0,_⟩:=DataW.trod_string Tryz.underlying9 t0
   obtain ⟨s1,e1,_⟩:=DataW.trod_string Tryz.underlying9 t1
   exact ⟨(s0,s1),List.singleton_inj.1 e0,List.singleton_inj.1 e1⟩
  obtain ⟨f,hf⟩:∃f:Nat→ByteArray×ByteArray,∀i,i < n→V0 i=.string (f i).1∧V1 i=.string (f i).2:=by
   refine ⟨fun i=>if h:i < n then (hs i h).choose else (⟨#[]⟩,⟨#[]⟩),fun i hi=> ?_⟩
   simp only [dif_pos hi]
   exact (hs i hi).choose_spec
  refine ⟨some a,n,c,(List.range n).map f,rfl,by simp,hl,hc,?_⟩
  by_cases h0:n=0
  ·exact .inl h0
  ·refine .inr ⟨a.block,a.off,?_,fun j hj=> ?_⟩
   ·rw [cell_addr (hat 0 (by omega)).1 rfl]
   ·have hj':j < n:=by simpa using hj
    obtain ⟨k0,k1,_,_⟩:=hat j (by omega)
    have ea:=cell_addr (hat 0 (by omega)).1 rfl
    rw [(hf j hj').1] at k0
    rw [(hf j hj').2] at k1
    rw [ea] at k0 k1
    rw [add_addr] at k0 k1
    simp only [List.getElem_map,List.getElem_range]
    exact ⟨k0,by rw [←Nat.add_assoc] at k1;exact k1⟩
set_option maxRecDepth 100000 in
theorem open_vals {r:Reach} {b0:Nat} {v:Value} {d:DataW H} {p:List MemPlace} (hv:Value.okWide Tryz.prog w r b0 54 v) (h:DataW.Trod enc Tryz.prog w base sp held 54 v d p) :
  ∃a n c l,v=.slice a n c∧StrsIn a n c l w:=by
 obtain ⟨fuel,hf⟩:=h
 have one:∀c:Value,v.cells.toList= [c]→v=c:=fun c hc=>by
  cases v<;>simp only [Value.cells,List.cons.injEq,and_true] at hc<;>first | exact hc | skip
  simp [Value.okWide,Cell.okWide,Tryz.underlying54,Cell.ok] at hv
 rcases open_strings Tryz.underlying54 Tryz.underlying9 (by kernel_rfl) hf with ⟨h0,_⟩ | ⟨a,n,c,ss,h0,_,hl,hc,hm,_,hat,_⟩
 ·obtain rfl:=one _ h0
  exact ⟨none,0,0,[],rfl,rfl,Nat.le_refl _,Nat.zero_le _,.inl rfl⟩
 ·obtain rfl:=one _ h0
  have hnm:n≤ss.length:=by rw [hm];split<;>omega
  refine ⟨some a,n,c,ss.take n,rfl,by rw [List.length_take];omega,hl,hc,?_⟩
  by_cases h0:n=0
  ·exact .inl h0
  ·refine .inr ⟨a.block,a.off,?_,fun j hj=> ?_⟩
   ·rw [cell_addr (hat 0 (by omega)) rfl]
   ·have hj':j < n:=by rw [List.length_take] at hj;omega
    have k0:=hat j (by omega)
    have ea:=cell_addr (hat 0 (by omega)) rfl
    rw [ea,add_addr] at k0
    rw [k0,List.getElem_take]
    rw [List.getD_eq_getElem?_getD,List.getElem?_eq_getElem (by omega),Option.getD_some]
set_option maxRecDepth 100000 in
theorem open_time {fuel:Nat} {cs:List Value} {x:DataW H×List MemPlace} (h:DataW.trod enc Tryz.prog w base sp held fuel 23 cs=some x):∃a b:Int,cs= [.int .i64 a,.int .i64 b]∧I64 a∧I64 b:=by
 obtain ⟨xs,n,_,_,hl,hlen,hg⟩:=DataW.trod_struct Tryz.underlying23 h
 have c23:Tryz.prog.cellsOf 23=2:=by kernel_rfl
 have c2:Tryz.prog.cellsOf 2=1:=by kernel_rfl
 have get:∀i,i < 2→∃y,xs[i]? =some y:=fun i hi=>⟨xs[i]'(by rw [hlen];exact hi),List.getElem?_eq_getElem _⟩
 match cs,hl.trans c23 with
 | [u,v],_=>
  obtain ⟨y0,e0⟩:=get 0 (by decide)
  have h0:=hg 0 _ rfl
  rw [e0] at h0
  obtain ⟨n0,k0,_,w0⟩:=DataW.trod_int Tryz.underlying2 h0
  simp [c2] at k0
  obtain ⟨y1,e1⟩:=get 1 (by decide)
  have h1:=hg 1 _ rfl
  rw [e1] at h1
  obtain ⟨n1,k1,_,w1⟩:=DataW.trod_int Tryz.underlying2 h1
  simp [c2] at k1
  subst k0;subst k1
  exact ⟨n0,n1,rfl,i64_wf w0,i64_wf w1⟩
structure RanT (g:SH):Prop where
 ms:I64 g.ms
 mn:I64 g.mn
 ats:I64 g.ats
 atn:I64 g.atn
 cts:I64 g.cts
 ctn:I64 g.ctn
 fmt:I64 g.fmt
theorem u8_of {n:Int} (h:(Lit.int .u8 n).wf=true):∃c:UInt8,n=c.toNat:=by
 have h2:0≤n∧n≤255:=by simpa [Lit.wf,IntKind.min,IntKind.max,IntKind.signed,IntKind.bits] using h
 refine ⟨UInt8.ofNat n.toNat,?_⟩
 rw [UInt8.toNat_ofNat']
 omega
set_option maxRecDepth 100000 in
set_option maxHeartbeats 4000000 in
theorem open_hdr {r:Reach} {b0:Nat} {v:Value} {d:DataW H} {p:List MemPlace} (hv:Value.okWide Tryz.prog w r b0 26 v) (h:DataW.Trod enc Tryz.prog w base sp held 26 v d p) :
  ∃(g:SH) (l:List (ByteArray×ByteArray)),v=.agg g.icells∧RecsIn g.ra g.rn g.rc l w∧Ran g∧RanT g:=by
 obtain ⟨cs,rfl,hsz⟩:=okWide_struct Tryz.underlying26 hv
 obtain ⟨cl⟩:=cs
 obtain ⟨fuel,hf⟩:=h
 obtain ⟨xs,n,_,_,_,hlen,hg⟩:=DataW.trod_struct Tryz.underlying26 hf
 have c26:Tryz.prog.cellsOf 26=21:=by kernel_rfl
 have c5:Tryz.prog.cellsOf 5=1:=by kernel_rfl
 have c9:Tryz.prog.cellsOf 9=1:=by kernel_rfl
 have c2:Tryz.prog.cellsOf 2=1:=by kernel_rfl
 have c3:Tryz.prog.cellsOf 3=1:=by kernel_rfl
 have c4:Tryz.prog.cellsOf 4=1:=by kernel_rfl
 have c24:Tryz.prog.cellsOf 24=1:=by kernel_rfl
 have c23:Tryz.prog.cellsOf 23=2:=by kernel_rfl
 have get:∀i,i < 18→∃y,xs[i]? =some y:=fun i hi=>⟨xs[i]'(by rw [hlen];exact hi),List.getElem?_eq_getElem _⟩
 match cl,hsz.trans c26 with
 | [v0,v1,v2,v3,v4,v5,v6,v7,v8,v9,v10,v11,v12,v13,v14,v15,v16,v17,v18,v19,v20],_=>
  obtain ⟨y0,e0⟩:=get 0 (by decide)
  have h0:=hg 0 _ rfl
  rw [e0] at h0
  obtain ⟨n0,k0,_,w0⟩:=DataW.trod_int Tryz.underlying5 h0
  obtain ⟨tf,rfl⟩:=u8_of w0
  simp [Value.cells,c5] at k0
  obtain ⟨y1,e1⟩:=get 1 (by decide)
  have h1:=hg 1 _ rfl
  rw [e1] at h1
  obtain ⟨n1,k1,_,_⟩:=DataW.trod_string Tryz.underlying9 h1
  simp [Value.cells,c9] at k1
  obtain ⟨y2,e2⟩:=get 2 (by decide)
  have h2:=hg 2 _ rfl
  rw [e2] at h2
  obtain ⟨n2,k2,_,_⟩:=DataW.trod_string Tryz.underlying9 h2
  simp [Value.cells,c9] at k2
  obtain ⟨y3,e3⟩:=get 3 (by decide)
  have h3:=hg 3 _ rfl
  rw [e3] at h3
  obtain ⟨n3,k3,_,w3⟩:=DataW.trod_int Tryz.underlying2 h3
  simp [Value.cells,c2] at k3
  obtain ⟨y4,e4⟩:=get 4 (by decide)
  have h4:=hg 4 _ rfl
  rw [e4] at h4
  obtain ⟨n4,k4,_,w4⟩:=DataW.trod_int Tryz.underlying2 h4
  simp [Value.cells,c2] at k4
  obtain ⟨y5,e5⟩:=get 5 (by decide)
  have h5:=hg 5 _ rfl
  rw [e5] at h5
  obtain ⟨n5,k5,_,w5⟩:=DataW.trod_int Tryz.underlying3 h5
  simp [Value.cells,c3] at k5
  obtain ⟨y6,e6⟩:=get 6 (by decide)
  have h6:=hg 6 _ rfl
  rw [e6] at h6
  obtain ⟨n6,k6,_,w6⟩:=DataW.trod_int Tryz.underlying3 h6
  simp [Value.cells,c3] at k6
  obtain ⟨y7,e7⟩:=get 7 (by decide)
  have h7:=hg 7 _ rfl
  rw [e7] at h7
  obtain ⟨n7,k7,_,_⟩:=DataW.trod_string Tryz.underlying9 h7
  simp [Value.cells,c9] at k7
  obtain ⟨y8,e8⟩:=get 8 (by decide)
  have h8:=hg 8 _ rfl
  rw [e8] at h8
  obtain ⟨n8,k8,_,_⟩:=DataW.trod_string Tryz.underlying9 h8
  simp [Value.cells,c9] at k8
  obtain ⟨y9,e9⟩:=get 9 (by decide)
  have h9:=hg 9 _ rfl
  rw [e9] at h9
  obtain ⟨n9,m9,k9,w9,x9⟩:=open_time h9
  simp [Value.cells,c23] at k9
  obtain ⟨y10,e10⟩:=get 10 (by decide)
  have h10:=hg 10 _ rfl
  rw [e10] at h10
  obtain ⟨n10,k10,_⟩:=DataW.trod_bool Tryz.underlying4 h10
  simp [Value.cells,c4] at k10
  obtain ⟨y11,e11⟩:=get 11 (by decide)
  have h11:=hg 11 _ rfl
  rw [e11] at h11
  obtain ⟨n11,m11,k11,w11,x11⟩:=open_time h11
  simp [Value.cells,c23] at k11
  obtain ⟨y12,e12⟩:=get 12 (by decide)
  have h12:=hg 12 _ rfl
  rw [e12] at h12
  obtain ⟨n12,k12,_⟩:=DataW.trod_bool Tryz.underlying4 h12
  simp [Value.cells,c4] at k12
  obtain ⟨y13,e13⟩:=get 13 (by decide)
  have h13:=hg 13 _ rfl
  rw [e13] at h13
  obtain ⟨n13,m13,k13,w13,x13⟩:=open_time h13
  simp [Value.cells,c23] at k13
  obtain ⟨y14,e14⟩:=get 14 (by decide)
  have h14:=hg 14 _ rfl
  rw [e14] at h14
  obtain ⟨n14,k14,_,w14⟩:=DataW.trod_int Tryz.underlying2 h14
  simp [Value.cells,c2] at k14
  obtain ⟨y15,e15⟩:=get 15 (by decide)
  have h15:=hg 15 _ rfl
  rw [e15] at h15
  obtain ⟨n15,k15,_,w15⟩:=DataW.trod_int Tryz.underlying2 h15
  simp [Value.cells,c2] at k15
  obtain ⟨y16,e16⟩:=get 16 (by decide)
  have h16:=hg 16 _ rfl
  rw [e16] at h16
  have k16:((Value.cells (.agg #[v0,v1,v2,v3,v4,v5,v6,v7,v8,v9,v10,v11,v12,v13,v14,v15,v16,v17,v18,v19,v20])).toList.drop 19).take (Tryz.prog.cellsOf 24)= [v19]:=by rw [c24];rfl
  have h16b:DataW.trod enc Tryz.prog w base sp held n 24 (((Value.cells (.agg #[v0,v1,v2,v3,v4,v5,v6,v7,v8,v9,v10,v11,v12,v13,v14,v15,v16,v17,v18,v19,v20])).toList.drop 19).take (Tryz.prog.cellsOf 24))=some y16:=h16
  rw [k16] at h16b
  obtain ⟨ra,rn,rc,l,q16,hR⟩:=open_recs h16b
  obtain ⟨y17,e17⟩:=get 17 (by decide)
  have h17:=hg 17 _ rfl
  rw [e17] at h17
  obtain ⟨n17,k17,_,w17⟩:=DataW.trod_int Tryz.underlying3 h17
  simp [Value.cells,c3] at k17
  subst k0
  subst k1
  subst k2
  subst k3
  subst k4
  subst k5
  subst k6
  subst k7
  subst k8
  obtain ⟨rfl,rfl⟩:=k9
  subst k10
  obtain ⟨rfl,rfl⟩:=k11
  subst k12
  obtain ⟨rfl,rfl⟩:=k13
  subst k14
  subst k15
  subst q16
  subst k17
  exact ⟨⟨tf,n1,n2,n3,n4,n5,n6,n7,n8,n9,m9,n10,n12,n11,m11,n13,m13,n14,n15,ra,rn,rc,n17⟩,l,rfl,hR,⟨i64_wf w4,i64_wf w5,i64_wf w6,i64_wf w3,i64_wf w14,i64_wf w15⟩,⟨w9,x9,w11,x11,w13,x13,i64_wf w17⟩⟩
end
end Go.Proofs.YtkanmkcojlefbaaGreatDoor
