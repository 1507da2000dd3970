/-
  What Can and Choose tell of a header, and that Head then has what it wants · Head has what it wants, of a header that names its format · There and back: what First gives of the header that Head has written · The bounds of the statements' arguments: zzFits5 (51), zzFits4 (24), zzFits3 (7), zzFits6 (20) · keys (22): the keys that the fields of a header stand for · FnFieldsComeFirst: the plain law of what Head is given, and of what comes back · impl.Head (10): a header is written; the walk · Head, and First of what it wrote, of a header that names its format.
-/
import Derived.Test.YtkanmkcojlefbaaGreatDoorJ40
import Derived.Test.YtkanmkcojlefbaaGreatDoorJ41
import Derived.Test.YtkanmkcojlefbaaGreatDoorJ38
import Derived.Test.YtkanmkcojlefbaaGreatDoorJ31
import Derived.Test.YtkanmkcojlefbaaGreatDoorJ28
import Derived.Test.YtkanmkcojlefbaaGreatDoorJ10
set_option linter.unusedVariables false
namespace Go.Proofs.YtkanmkcojlefbaaGreatDoor
open Go.RowKit
structure Ran (g:SH):Prop where
 md : -9223372036854775808≤g.mode∧g.mode < 9223372036854775808
 ui : -9223372036854775808≤g.uid∧g.uid < 9223372036854775808
 gi : -9223372036854775808≤g.gid∧g.gid < 9223372036854775808
 sz : -9223372036854775808≤g.size∧g.size < 9223372036854775808
 dj : -9223372036854775808≤g.dj∧g.dj < 9223372036854775808
 dn : -9223372036854775808≤g.dn∧g.dn < 9223372036854775808
structure RecsP (l:List (ByteArray×ByteArray)):Prop where
 each:∀p∈l,okKey p.1=true→RecR p.1 p.2
 pos:∀p∈l,0 < p.2.size
 sum:sumR (l.filter fun p=>okKey p.1)≤524288
 all:sumR l≤1099511627776
def effC (g:SH) (x:Int):TH:={ g.th (.map none) with tf:=promTf g,fmt:=fmI x }
theorem promTf_ok {g:SH} (h:g.tf=0∨(48≤g.tf.toNat∧g.tf.toNat≤55)):48≤(promTf g).toNat∧(promTf g).toNat≤55:=by
 unfold promTf
 rcases h with h | h
 ·rw [if_pos h]
  split<;>decide
 ·rw [if_neg (by intro e;rw [e] at h;exact absurd h.1 (by decide))]
  exact h
theorem ascii_nil {s:ByteArray} (h:s.size=0):ascii s.data.toList=true:=by
 have:s.data.toList= []:=List.length_eq_zero_iff.1 (by rw [←Lib.size_eq];exact h)
 rw [this];rfl
theorem strC_pos {s:ByteArray} {n:Nat} (h:(!ascii s.data.toList || decide (n < s.size))=true):0 < s.size:=by
 rcases Nat.eq_zero_or_pos s.size with h0 | h0
 ·rw [ascii_nil h0,h0] at h
  simp at h
 ·exact h0
theorem strO_pos {s v:ByteArray} {n:Nat} {R:KV} {k:ByteArray} (h:(if (!ascii s.data.toList || decide (n < s.size))=true∨R k=some s then some s else none)=some v):0 < v.size∨R k=some v:=by
 split at h
 ·rename_i hc
  rw [←Option.some.inj h]
  exact hc.imp strC_pos id
 ·cases h
theorem itoa_pos' (x:Int):0 < (itoaS x).size:=numT_size (itoa_numT x)
theorem tim_pos (s:Int) (ns:Nat):0 < (timS s ns).size:=numT_size (tim_numT s ns)
theorem afF_pos {th:TH} {R:KV} {k v:ByteArray} (h:afF th R k=some v):0 < v.size∨R k=some v:=by
 cases hb:basicB k with
 | false=>rw [afF_other th R k hb] at h;cases h
 | true=>
  rcases basic_cases hb with rfl | rfl | rfl | rfl | rfl | rfl | rfl | rfl | rfl | rfl
  ·rw [afF_kP] at h;exact strO_pos h
  ·rw [afF_kL] at h;exact strO_pos h
  ·rw [afF_kSz] at h;rw [ite_some h];exact .inl (itoa_pos' _)
  ·rw [afF_kUi] at h;rw [ite_some h];exact .inl (itoa_pos' _)
  ·rw [afF_kGi] at h;rw [ite_some h];exact .inl (itoa_pos' _)
  ·rw [afF_kUn] at h;exact strO_pos h
  ·rw [afF_kGn] at h;exact strO_pos h
  ·rw [afF_kMt] at h
   split at h
   ·cases h
   ·rw [ite_some h];exact .inl (tim_pos _ _)
  ·rw [afF_kAt] at h;rw [ite_some' h];exact .inl (tim_pos _ _)
  ·rw [afF_kCt] at h;rw [ite_some' h];exact .inl (tim_pos _ _)
theorem merge_pos {th:TH} {l:List (ByteArray×ByteArray)} (K:RecsP l) {k v:ByteArray} (h:mergeF (afF th (kvOf l)) (kvOf l) k=some v):0 < v.size:=by
 unfold mergeF mergeL at h
 cases e:afF th (kvOf l) k with
 | some u=>
  rw [e] at h
  simp only [Option.some.injEq] at h
  subst h
  exact (afF_pos e).elim id fun h=>K.pos _ (kvOf_mem h)
 | none=>
  rw [e] at h
  simp only [and_true] at h
  split at h
  ·exact K.pos _ (kvOf_mem h)
  ·cases h
theorem sumR_mem {p:ByteArray×ByteArray}:∀ {l:List (ByteArray×ByteArray)},p∈l→p.1.size+p.2.size+24≤sumR l
 | [],h=>by cases h
 | q::t,h=>by
  rw [sumR_cons]
  rcases List.mem_cons.1 h with rfl | h
  ·omega
  ·have:=sumR_mem h;omega
theorem sumR_append (a b:List (ByteArray×ByteArray)):sumR (a++b)=sumR a+sumR b:=by
 unfold sumR
 rw [List.map_append,List.sum_append]
theorem basic_ok {k:ByteArray} (h:basicB k=true):0 < k.size∧k.size≤8∧has k.data.toList 61=false∧has k.data.toList 0=false∧Lib.hasPrefix k.data.toList [83,67,72,73,76,89,46,120,97,116,116,114,46]=false:=by
 rcases basic_cases h with rfl | rfl | rfl | rfl | rfl | rfl | rfl | rfl | rfl | rfl<;>exact ⟨by decide,by decide,rfl,rfl,rfl⟩
theorem lb_basic {th:TH} {k v:ByteArray} (h:(k,v)∈lbOf th):basicB k=true:=by
 simp only [lbOf,List.mem_cons,Prod.mk.injEq,List.not_mem_nil,or_false] at h
 rcases h with h | h | h | h | h | h | h | h | h | h<;>rw [h.1]<;>decide
theorem schily_no {k:ByteArray} (h:k.data.toList.take 7≠ [83,67,72,73,76,89,46]):Lib.hasPrefix k.data.toList [83,67,72,73,76,89,46,120,97,116,116,114,46]=false:=by
 cases e:Lib.hasPrefix k.data.toList [83,67,72,73,76,89,46,120,97,116,116,114,46] with
 | false=>rfl
 | true=>
  exfalso
  apply h
  have hp:[83,67,72,73,76,89,46,120,97,116,116,114,46] <+: k.data.toList:=by simpa [Lib.hasPrefix] using e
  obtain ⟨t,ht⟩:=hp
  rw [←ht]
  rfl
section
variable {g:SH} {l0 l:List (ByteArray×ByteArray)} {f x:Int}
theorem effC_fld (C:CanR g l0 f) (K:Ran g):FldOk (effC g x):=by
 have hs:=C.pl.sum
 have hm:=C.pl.mod
 have hmo:=C.mo
 refine ⟨?_,?_,?_,?_,C.tn.1,C.tl.1,C.ou.tx.1,C.og.tx.1,K.md,K.ui,K.gi,K.sz,K.dj,K.dn,?_,?_,?_⟩
 ·show g.name.size≤_;omega
 ·show g.link.size≤_;omega
 ·show g.un.size≤_;omega
 ·show g.gn.size≤_;omega
 ·obtain ⟨_,h1,h2⟩:=hm
  obtain ⟨h3,h4,_⟩:=hmo
  show g.mn.toNat < 1000000000∧-4000000000000000000≤g.ms∧g.ms≤4000000000000000000
  omega
 ·show (if g.ha=true then g.atn.toNat else 0) < 1000000000∧-4000000000000000000≤(if g.ha=true then g.ats else -62135596800)∧(if g.ha=true then g.ats else -62135596800)≤4000000000000000000
  by_cases h:g.ha=true
  ·obtain ⟨_,h1,h2⟩:=C.pl.acc h
   obtain ⟨h3,h4,_⟩:=C.ma h
   rw [if_pos h,if_pos h];omega
  ·rw [if_neg h,if_neg h];omega
 ·show (if g.hc=true then g.ctn.toNat else 0) < 1000000000∧-4000000000000000000≤(if g.hc=true then g.cts else -62135596800)∧(if g.hc=true then g.cts else -62135596800)≤4000000000000000000
  by_cases h:g.hc=true
  ·obtain ⟨_,h1,h2⟩:=C.pl.chn h
   obtain ⟨h3,h4,_⟩:=C.mc h
   rw [if_pos h,if_pos h];omega
  ·rw [if_neg h,if_neg h];omega
theorem effC_tf (C:CanR g l0 f):TfOk (effC g x):=by
 have:=promTf_ok C.tf
 unfold TfOk
 show (promTf g).toNat=48∨(promTf g).toNat=49∨(promTf g).toNat=50∨(promTf g).toNat=51∨(promTf g).toNat=52∨(promTf g).toNat=53∨(promTf g).toNat=54∨(promTf g).toNat=55
 omega
theorem effC_b (C:CanR g l0 f):(-2000000000000000000≤(effC g x).ats∧(effC g x).ats≤2000000000000000000)∧-2000000000000000000≤(effC g x).cts∧(effC g x).cts≤2000000000000000000:=by
 show (-2000000000000000000≤(if g.ha=true then g.ats else -62135596800)∧(if g.ha=true then g.ats else -62135596800)≤2000000000000000000)∧-2000000000000000000≤(if g.hc=true then g.cts else -62135596800)∧(if g.hc=true then g.cts else -62135596800)≤2000000000000000000
 constructor
 ·by_cases h:g.ha=true
  ·obtain ⟨h3,h4,_⟩:=C.ma h
   rw [if_pos h];omega
  ·rw [if_neg h];omega
 ·by_cases h:g.hc=true
  ·obtain ⟨h3,h4,_⟩:=C.mc h
   rw [if_pos h];omega
  ·rw [if_neg h];omega
theorem lb_sum (C:CanR g l0 f) (K:Ran g):sumR (lbOf (effC g x))≤g.name.size+g.link.size+g.un.size+g.gn.size+1000:=by
 have F:=effC_fld (x:=x) C K
 have hs:=C.pl.sum
 have hm:=F.mt
 have ha:=F.at'
 have hc:=F.ct
 have t1:=timS_size (effC g x).ms (effC g x).mn hm.1 hm.2.1 hm.2.2
 have t2:=timS_size (effC g x).ats (effC g x).atn ha.1 ha.2.1 ha.2.2
 have t3:=timS_size (effC g x).cts (effC g x).ctn hc.1 hc.2.1 hc.2.2
 have it:∀z:Int,-9223372036854775808≤z→z < 9223372036854775808→(itoaS z).size≤21:=fun z h0 h1=>by
  have:=Lib.itoa_length_le z h0 (by omega)
  show (Lib.itoa z).toArray.size≤_
  simp only [List.size_toArray]
  omega
 have i1:=it _ F.ui.1 F.ui.2
 have i2:=it _ F.gi.1 F.gi.2
 have i3:=it _ F.sz.1 F.sz.2
 unfold lbOf
 simp only [sumR_cons]
 have e0:sumR []=0:=rfl
 rw [e0]
 have k1:kP.size=4:=rfl
 have k2:kL.size=8:=rfl
 have k3:kUn.size=5:=rfl
 have k4:kGn.size=5:=rfl
 have k5:kUi.size=3:=rfl
 have k6:kGi.size=3:=rfl
 have k7:kSz.size=4:=rfl
 have k8:kMt.size=5:=rfl
 have k9:kAt.size=5:=rfl
 have k10:kCt.size=5:=rfl
 rw [k1,k2,k3,k4,k5,k6,k7,k8,k9,k10]
 have n1:(effC g x).name.size=g.name.size:=rfl
 have n2:(effC g x).link.size=g.link.size:=rfl
 have n3:(effC g x).un.size=g.un.size:=rfl
 have n4:(effC g x).gn.size=g.gn.size:=rfl
 rw [n1,n2,n3,n4]
 omega
theorem effC_ok (C:CanR g l0 f) (K:Ran g) (L:RecsP l) (hsum:g.name.size+g.link.size+g.un.size+g.gn.size+sumR (l.filter fun p=>okKey p.1)≤524288):EffOk (effC g x) (mergeF (afF (effC g x) (kvOf l)) (kvOf l)):=by
 have F:=effC_fld (x:=x) C K
 have hs:=C.pl.sum
 have hlb:=lb_sum (x:=x) C K
 refine ⟨F,effC_tf C,C.sz.1,?_,?_,(effC_b C).1,(effC_b C).2,?_,?_,?_,?_⟩
 ·show ¬(g.ms=-62135596800∧g.mn.toNat=0)
  obtain ⟨h1,h2,h3⟩:=C.pl.mod
  intro e
  exact h1 ⟨e.1,by omega⟩
 ·obtain ⟨h3,h4,_⟩:=C.mo
  show -2000000000000000000≤g.ms∧g.ms≤2000000000000000000
  omega
 ·show g.name.size≤_;omega
 ·show g.link.size≤_;omega
 ·intro k v h
  have hp:=merge_pos L h
  rcases mergeF_mem h with hm | ⟨ho,hm⟩
  ·obtain ⟨b1,b2,b3,b4,b5⟩:=basic_ok (lb_basic hm)
   have hz:=sumR_mem hm
   refine ⟨⟨b1,by omega,?_,b3,b4,?_⟩,hp,b5⟩
   ·have:v.size≤sumR (lbOf (effC g x)):=by
     have:(k,v).2.size=v.size:=rfl
     omega
    omega
   ·simp only [lbOf,List.mem_cons,Prod.mk.injEq,List.not_mem_nil,or_false] at hm
    rcases hm with h | h | h | h | h | h | h | h | h | h<;>rw [h.2]
    ·exact F.z1
    ·exact F.z2
    ·exact F.z3
    ·exact F.z4
    ·exact has_false.2 (itoa_numT _).2
    ·exact has_false.2 (itoa_numT _).2
    ·exact has_false.2 (itoa_numT _).2
    ·exact has_false.2 (tim_numT _ _).2
    ·exact has_false.2 (tim_numT _ _).2
    ·exact has_false.2 (tim_numT _ _).2
  ·have hr:=L.each _ hm ho
   have hf:(k,v)∈l.filter fun p=>okKey p.1:=List.mem_filter.2 ⟨hm,ho⟩
   have hz:=sumR_mem hf
   have hsm:=L.sum
   have e1:(k,v).1.size=k.size:=rfl
   have e2:(k,v).2.size=v.size:=rfl
   exact ⟨⟨hr.kpos,by omega,by omega,hr.eq,hr.k0,hr.v0⟩,hp,schily_no hr.schily⟩
 ·intro ks hn hk
  have h1:=sum_recs (mergeF (afF (effC g x) (kvOf l)) (kvOf l)) (lbOf (effC g x)++l.filter fun p=>okKey p.1) ks hn (fun k hk'=>by
   have:=hk k hk'
   cases e:mergeF (afF (effC g x) (kvOf l)) (kvOf l) k with
   | none=>rw [e] at this;cases this
   | some v=>
    refine ⟨v,rfl,?_⟩
    rcases mergeF_mem e with hm | ⟨ho,hm⟩
    ·exact List.mem_append.2 (.inl hm)
    ·exact List.mem_append.2 (.inr (List.mem_filter.2 ⟨hm,ho⟩)))
  rw [sumR_append] at h1
  have hsm:=L.sum
  have h2:=recsOf_len (mergeF (afF (effC g x) (kvOf l)) (kvOf l)) ks (by omega)
  omega
theorem can_U (C:CanR g l0 1) (pn qn:ByteArray) (sp:Bool) (hsp:ascii g.name.data.toList=true→100 < g.name.size→(∃i,SplitAt g.name i)→sp=true):afU (effC g x) sp=true:=by
 have f8:∀ {n:Int},0≤n∧n < 2097152→fit8 8 n:=fun h=>⟨h.1,by show _ < (2097152:Int);exact h.2⟩
 have f12:∀ {n:Int},0≤n∧n < 8589934592→fit8 12 n:=fun h=>⟨h.1,by show _ < (8589934592:Int);exact h.2⟩
 have e1:(effC g x).name=g.name:=rfl
 have e2:(effC g x).link=g.link:=rfl
 have e3:(effC g x).un=g.un:=rfl
 have e4:(effC g x).gn=g.gn:=rfl
 have e5:(effC g x).mode=g.mode:=rfl
 have e6:(effC g x).uid=g.uid:=rfl
 have e7:(effC g x).gid=g.gid:=rfl
 have e8:(effC g x).size=g.size:=rfl
 have e9:(effC g x).dj=g.dj:=rfl
 have e10:(effC g x).dn=g.dn:=rfl
 have e11:(effC g x).ms=g.ms:=rfl
 obtain ⟨u1,u2,u3,u4⟩:=C.us rfl
 have e12:(effC g x).ats=-62135596800:=if_neg (by rw [u3];decide)
 have e13:(effC g x).atn=0:=if_neg (by rw [u3];decide)
 have e14:(effC g x).cts=-62135596800:=if_neg (by rw [u4];decide)
 have e15:(effC g x).ctn=0:=if_neg (by rw [u4];decide)
 have hn:=C.tn.2 rfl
 have hl:=C.tl.2 rfl
 have hu:=C.ou.tx.2 rfl
 have hg:=C.og.tx.2 rfl
 unfold afU strU timU
 rw [e1,e2,e3,e4,e5,e6,e7,e8,e9,e10,e11,e12,e13,e14,e15]
 have d1:=decide_eq_true (f8 (C.md.oct (.inl rfl)))
 have d2:=decide_eq_true (f8 (C.ui.oct (.inl rfl)))
 have d3:=decide_eq_true (f8 (C.gi.oct (.inl rfl)))
 have d4:=decide_eq_true (f12 ⟨C.sz.1,C.sz.2 rfl⟩)
 have d5:=decide_eq_true (f8 (C.dj.oct (.inl rfl)))
 have d6:=decide_eq_true (f8 (C.dn.oct (.inl rfl)))
 have d7:=decide_eq_true (f12 ⟨u1,u2⟩)
 rw [d1,d2,d3,d4,d5,d6,d7,hl.1,hu.1,hg.1,hn.1]
 have a1:decide (100 < g.link.size)=false:=decide_eq_false (by omega)
 have a2:decide (32 < g.un.size)=false:=decide_eq_false (by omega)
 have a3:decide (32 < g.gn.size)=false:=decide_eq_false (by omega)
 have a4:(decide (100 < g.name.size) && !sp)=false:=by
  by_cases h:100 < g.name.size
  ·have hs:=(C.sp rfl).resolve_left (by omega)
   rw [hsp hn.1 h hs];simp
  ·rw [decide_eq_false h];rfl
 have a5:timZ (-62135596800) 0=true:=by decide
 rw [a1,a2,a3,a5]
 simp [a4]
theorem can_P (C:CanR g l0 2):afP (effC g x)=true:=by
 have f8:∀ {n:Int},0≤n∧n < 2097152→fit8 8 n:=fun h=>⟨h.1,by show _ < (2097152:Int);exact h.2⟩
 unfold afP
 rw [show (effC g x).mode=g.mode from rfl,show (effC g x).dj=g.dj from rfl,show (effC g x).dn=g.dn from rfl,decide_eq_true (f8 (C.md.oct (.inr ⟨rfl,rfl⟩))),decide_eq_true (f8 (C.dj.oct (.inr ⟨rfl,rfl⟩))),decide_eq_true (f8 (C.dn.oct (.inr ⟨rfl,rfl⟩)))]
 rfl
theorem can_G (C:CanR g l0 3) (K:Ran g):afG (effC g x)=true:=by
 have f8:∀ {n:Int},0≤n∧n < 72057594037927936→fitG 8 n:=fun h=>⟨by show -(72057594037927936:Int)≤_;omega,by show _ < (72057594037927936:Int);omega⟩
 have f12:fitG 12 g.size:=by
  have e:(256:Int) ^ 11=309485009821345068724781056:=by decide
  have:=K.sz
  show -((256:Int) ^ 11)≤g.size∧g.size < (256:Int) ^ 11
  rw [e];omega
 unfold afG strG
 have a2:decide (32 < g.un.size)=false:=decide_eq_false (by have:=C.ou.gnu rfl;omega)
 have a3:decide (32 < g.gn.size)=false:=decide_eq_false (by have:=C.og.gnu rfl;omega)
 rw [show (effC g x).mode=g.mode from rfl,show (effC g x).dj=g.dj from rfl,show (effC g x).dn=g.dn from rfl,show (effC g x).uid=g.uid from rfl,show (effC g x).gid=g.gid from rfl,show (effC g x).size=g.size from rfl,show (effC g x).un=g.un from rfl,show (effC g x).gn=g.gn from rfl,
  decide_eq_true (f8 (C.md.gnu rfl)),decide_eq_true (f8 (C.dj.gnu rfl)),decide_eq_true (f8 (C.dn.gnu rfl)),decide_eq_true (f8 (C.ui.gnu rfl)),decide_eq_true (f8 (C.gi.gnu rfl)),decide_eq_true f12,a2,a3]
 simp
end
end Go.Proofs.YtkanmkcojlefbaaGreatDoor
namespace Go.Proofs.YtkanmkcojlefbaaGreatDoor
open Go.RowKit
theorem promo_th (h:SH) (r:Value):(h.th r).promo={ h.th r with tf:=promTf h }:=by
 unfold TH.promo promTf
 by_cases h0:h.tf=0
 ·rw [if_pos (show (h.th r).tf=0 from h0),if_pos h0]
  rfl
 ·rw [if_neg (show ¬(h.th r).tf=0 from h0),if_neg h0]
  rfl
theorem eff_A {h:SH} (hf:h.fmt=1∨h.fmt=2∨h.fmt=3):effOf h=effC h h.fmt:=by
 unfold effOf
 rw [promo_th]
 unfold TH.rnd
 rw [if_neg]
 ·rfl
 ·show ¬fmI h.fmt=0
  rcases hf with e | e | e<;>rw [e]<;>decide
theorem kvOf_some {l:List (ByteArray×ByteArray)} (h:0 < l.length) (hs:sumR l≤1099511627776):∃k v,ByteArray.size k≤maxLen∧kvOf l k=some v:=by
 have h1:=kvOf_take l (l.length - 1) (by omega)
 rw [show l.length - 1+1=l.length by omega,List.take_length] at h1
 refine ⟨(l[l.length - 1]'(by omega)).1,(l[l.length - 1]'(by omega)).2,?_,?_⟩
 ·have:=sumR_mem (List.getElem_mem (show l.length - 1 < l.length by omega))
  unfold maxLen
  omega
 ·rw [h1,KV.set_same]
theorem kvOf_nil0 {l:List (ByteArray×ByteArray)} (L:RecsP l):kvOf l ⟨#[]⟩=none:=by
 cases e:kvOf l ⟨#[]⟩ with
 | none=>rfl
 | some v=>
  have:=(L.each _ (kvOf_mem e) (show okKey ⟨#[]⟩=true by decide)).kpos
  exact absurd this (show ¬0 < (⟨#[]⟩:ByteArray).size by decide)
structure HeadB (h:SH) (l:List (ByteArray×ByteArray)) (pn qn:ByteArray) (sp wu wp wg hr:Bool) (size:Nat):Prop where
 hd:HeadH h l pn qn sp wu wp wg hr size
 eo:EffOk (effOf h) (mergeF (afF (effOf h) (kvOf l)) (kvOf l))
 mn:finU (afU (effOf h) sp) (afPF (effOf h)) hr wu wp wg=true∨finP (afP (effOf h)) wu wp wg=false→(effOf h).mn=0∧(effOf h).atn=0∧(effOf h).ctn=0
 hr':hr=false↔h.rn=0
theorem headB_A {h h0:SH} {l0 l:List (ByteArray×ByteArray)} {a:Option Addr} {n c:Nat} (he:h0={ h with ra:=a,rn:=n,rc:=c }) (hf:h.fmt=1∨h.fmt=2∨h.fmt=3) (C:CanR h0 l0 h.fmt) (K:Ran h) (L:RecsP l) (hsum:h.name.size+h.link.size+h.un.size+h.gn.size+sumR (l.filter fun p=>okKey p.1)≤524288) (hl:l.length=h.rn) (hno:h.fmt≠2→h.rn=0) (hgw:h.fmt=3→GnuW) :
  ∃pn qn sp wu wp wg hr size,HeadB h l pn qn sp wu wp wg hr size:=by
 have e1:effC h0 h.fmt=effC h h.fmt:=by subst he;rfl
 have K0:Ran h0:=by subst he;exact ⟨K.md,K.ui,K.gi,K.sz,K.dj,K.dn⟩
 have eA:=eff_A hf
 have F:=effC_fld (x:=h.fmt) C K0
 have T:=effC_tf (x:=h.fmt) C
 have E:=effC_ok (x:=h.fmt) C K0 L (by subst he;exact hsum)
 rw [e1] at F T E
 have hpl:=C.pl
 have hs:h.name.size+h.link.size+h.un.size+h.gn.size+sumR l0≤524288:=by
  have:=hpl.sum
  subst he;exact this
 obtain ⟨pn,qn,sp,hsp,hyes⟩:=splitC_yes h.name (by omega)
 have hyes0:ascii h0.name.data.toList=true→100 < h0.name.size→(∃i,SplitAt h0.name i)→sp=true:=by subst he;exact hyes
 have hU:h.fmt=1→afU (effC h h.fmt) sp=true:=fun e=>by
  rw [←e1]
  rw [e] at C
  exact can_U (x:=h.fmt) C pn qn sp hyes0
 have hP:h.fmt=2→afP (effC h h.fmt)=true:=fun e=>by
  rw [←e1]
  rw [e] at C
  exact can_P (x:=h.fmt) C
 have hG:h.fmt=3→afG (effC h h.fmt)=true:=fun e=>by
  rw [←e1]
  rw [e] at C
  exact can_G (x:=h.fmt) C K0
 have hm0:OddR h.ms h.mn∧MomR h.ms h.mn h.fmt:=by
  have a1:=hpl.mod;have a2:=C.mo
  subst he;exact ⟨a1,a2⟩
 have ha0:h.ha=true→OddR h.ats h.atn∧MomR h.ats h.atn h.fmt:=by
  have a1:=hpl.acc;have a2:=C.ma
  subst he;exact fun e=>⟨a1 e,a2 e⟩
 have hc0:h.hc=true→OddR h.cts h.ctn∧MomR h.cts h.ctn h.fmt:=by
  have a1:=hpl.chn;have a2:=C.mc
  subst he;exact fun e=>⟨a1 e,a2 e⟩
 have hus:h.fmt=1→h.ha=false∧h.hc=false:=by
  have a1:=C.us
  subst he;exact fun e=>⟨(a1 e).2.2.1,(a1 e).2.2.2⟩
 have hsl:slashB h.name=true→promTf h=53:=by
  have a1:=C.sl
  subst he;exact a1
 have hz0:0≤h.size:=by
  have a1:=C.sz.1
  subst he;exact a1
 have tok:∀s ns f,OddR s ns∧MomR s ns f→TOk s ns:=fun s ns f ⟨⟨_,b1,b2⟩,b3,b4,_⟩=>⟨by omega,by omega,by omega,by omega⟩
 have hzero:h.fmt≠2→h.mn=0∧(h.ha=true→h.atn=0)∧(h.hc=true→h.ctn=0):=fun e=>⟨hm0.2.2.2 e,fun k=>(ha0 k).2.2.2 e,fun k=>(hc0 k).2.2.2 e⟩
 obtain ⟨hr,hhr⟩:∃b,decide (0 < h.rn)=b:=⟨_,rfl⟩
 have hr1:hr=false↔h.rn=0:=by
  rw [←hhr,decide_eq_false_iff_not];omega
 refine ⟨pn,qn,sp,(h.fmt == 1),(h.fmt == 2),(h.fmt == 3),hr,h.size.toNat,?_⟩
 have HH:HeadH h l pn qn sp (h.fmt == 1) (h.fmt == 2) (h.fmt == 3) hr h.size.toNat:=by
  refine { sumr:=L.all,hm:=tok _ _ _ hm0,ha:=fun e=>tok _ _ _ (ha0 e),hc:=fun e=>tok _ _ _ (hc0 e),nm:=by omega,mt:= ?_,nm':= ?_,ln':= ?_,spl:= ?_,r0:=kvOf_nil0 L,fld:= ?_,tf:= ?_,sl:= ?_,sz:= ?_,xa:= ?_,rc:= ?_,rn:= ?_,val:= ?_,fmt:= ?_,ok:= ?_,tot:= ?_,gw:= ?_ }
  ·rw [promo_th]
   obtain ⟨⟨_,b1,b2⟩,b3,b4,_⟩:=hm0
   refine ⟨?_,?_,?_,?_⟩
   ·show h.mn.toNat < 1000000000;omega
   ·intro e
    exfalso
    have e:fmI h.fmt=0:=e
    revert e
    rcases hf with e | e | e<;>rw [e]<;>decide
   ·show -3000000000000000000≤h.ms;omega
   ·show h.ms≤3000000000000000000;omega
  ·rw [eA];show h.name.size≤_;omega
  ·rw [eA];show h.link.size≤_;omega
  ·rw [eA];exact hsp
  ·rw [eA];exact F
  ·rw [eA];exact T
  ·rw [eA]
   show (promTf h).toNat=53∨slashB h.name=false
   cases e:slashB h.name with
   | false=>exact .inr rfl
   | true=>rw [hsl e];exact .inl rfl
  ·rw [eA];show h.size=_;omega
  ·rw [eA];rfl
  ·by_cases h0:h.rn=0
   ·refine .inl ⟨h0,hr1.2 h0,fun k=> ?_⟩
    have:l= []:=List.length_eq_zero_iff.1 (by omega)
    rw [this];rfl
   ·refine .inr ⟨by omega,?_,kvOf_some (by omega) L.all⟩
    cases e:hr with
    | true=>rfl
    | false=>exact absurd (hr1.1 e) h0
  ·have:∀l:List (ByteArray×ByteArray),24*l.length≤sumR l:=fun l=>by
    induction l with
    | nil=>simp
    | cons p t ih=>rw [sumR_cons,List.length_cons];omega
   have:=this l
   have:=L.all
   omega
  ·rw [eA];exact fun k v e=>(E.val k v e).1
  ·rw [eA];rfl
  ·rw [eA]
   rcases hf with e | e | e
   ·have h0:=hno (by omega)
    rw [hU e,hr1.2 h0,e]
    simp [finU]
   ·rw [hP e,e]
    simp [finP]
   ·have h0:=hno (by omega)
    rw [hG e,hr1.2 h0,e]
    simp [finG]
  ·rw [eA];exact E.tot
  ·intro e
   rcases hf with e1 | e1 | e1
   ·rw [e1] at e;simp [finG] at e
   ·rw [e1] at e;simp [finG] at e
   ·exact hgw e1
 refine ⟨HH,by rw [eA];exact E,?_,hr1⟩
 rw [eA]
 intro hor
 have z1:(effC h h.fmt).mn=h.mn.toNat:=rfl
 have z2:(effC h h.fmt).atn=if h.ha=true then h.atn.toNat else 0:=rfl
 have z3:(effC h h.fmt).ctn=if h.hc=true then h.ctn.toNat else 0:=rfl
 by_cases e2:h.fmt=2
 ·rcases hor with hor | hor
  ·have hpf:afPF (effC h h.fmt)=false:=by
    cases e:afPF (effC h h.fmt) with
    | false=>rfl
    | true=>
     rw [e,e2] at hor
     simp [finU] at hor
   unfold afPF timP timZ at hpf
   simp only [Bool.or_eq_false_iff,Bool.and_eq_false_iff,Bool.not_eq_false',decide_eq_true_eq,Bool.false_and,Bool.not_false,Bool.true_or,Bool.true_eq_false,or_false,Bool.true_and,bne_eq_false_iff_eq,true_and] at hpf
   obtain ⟨⟨p1,p2⟩,p3⟩:=hpf
   refine ⟨?_,p2.2,p3.2⟩
   rcases p1 with p1 | p1
   ·exact p1.2
   ·have:=p1.2
    omega
  ·rw [hP e2,e2] at hor
   simp [finP] at hor
 ·obtain ⟨k1,k2,k3⟩:=hzero e2
  rw [z1,z2,z3]
  refine ⟨by omega,?_,?_⟩
  ·split
   ·rename_i e;have:=k2 e;omega
   ·rfl
  ·split
   ·rename_i e;have:=k3 e;omega
   ·rfl
end Go.Proofs.YtkanmkcojlefbaaGreatDoor
namespace Go.Proofs.YtkanmkcojlefbaaGreatDoor
open Go.RowKit
theorem nodup_of:∀ks:List ByteArray,∃l:List ByteArray,l.Nodup∧∀k,k∈l↔k∈ks
 | []=>⟨[],List.nodup_nil,fun _=>Iff.rfl⟩
 | k::r=>by
  obtain ⟨l,h1,h2⟩:=nodup_of r
  by_cases h:k∈l
  ·refine ⟨l,h1,fun x=> ?_⟩
   rw [List.mem_cons,h2 x]
   exact ⟨.inr,fun o=>o.elim (fun e=>by subst e;exact (h2 _).1 h) id⟩
  ·refine ⟨k::l,List.nodup_cons.2 ⟨h,h1⟩,fun x=> ?_⟩
   rw [List.mem_cons,List.mem_cons,h2 x]
theorem recOf_pos1 (F:KV) (k:ByteArray):1≤(recOf F k).data.toList.length:=by
 have:=recsOf_pos F [k] (by simp)
 simpa [recsOf] using this
theorem recsOf_ge (F:KV):∀ks:List ByteArray,ks.length≤(recsOf F ks).length
 | []=>by simp
 | k::r=>by
  have h1:=recOf_pos1 F k
  have h2:=recsOf_ge F r
  have e:recsOf F (k::r)=(recOf F k).data.toList++recsOf F r:=rfl
  rw [e,List.length_append,List.length_cons]
  omega
theorem recF_of {F:KV} {pf:Option Recs} {hr:Bool} (h:(pf=none∧(hr=false∨∀k:ByteArray,k.size≤maxLen→F k=none))∨∃ks,pf=some (F,ks)∧∀k:ByteArray,k∈ks↔k.size≤maxLen∧(F k).isSome=true) :
  (hr=false∨∀k:ByteArray,k.size≤maxLen→recF pf k=F k)∧∃ks:List ByteArray,ks.Nodup∧(∀k v,recF pf k=some v→k∈ks)∧∀k∈ks,(F k).isSome=true:=by
 rcases h with ⟨rfl,h⟩ | ⟨ks,rfl,hk⟩
 ·refine ⟨h.imp id (fun h k hs=>(h k hs).symm),[],List.nodup_nil,(fun k v e=>by cases e),(by simp)⟩
 ·refine ⟨.inr fun k hs=> ?_,?_⟩
  ·show restr F ks k=F k
   unfold restr
   by_cases hm:k∈ks
   ·rw [if_pos hm]
   ·rw [if_neg hm]
    cases e:F k with
    | none=>rfl
    | some v=>exact absurd ((hk k).2 ⟨hs,by rw [e];rfl⟩) hm
  ·obtain ⟨l,h1,h2⟩:=nodup_of ks
   refine ⟨l,h1,fun k v e=> ?_,fun k hm=>((hk k).1 ((h2 k).1 hm)).2⟩
   rw [h2]
   have e:restr F ks k=some v:=e
   unfold restr at e
   by_cases hm:k∈ks
   ·exact hm
   ·rw [if_neg hm] at e;cases e
theorem EffOk.recs {eff:TH} {F:KV} (H:EffOk eff F) (r:Value):EffOk { eff with recs:=r } F:=
 ⟨⟨H.fld.n1,H.fld.n2,H.fld.n3,H.fld.n4,H.fld.z1,H.fld.z2,H.fld.z3,H.fld.z4,H.fld.md,H.fld.ui,H.fld.gi,H.fld.sz,H.fld.dj,H.fld.dn,H.fld.mt,H.fld.at',H.fld.ct⟩,H.tf,H.sz,H.mz,H.mb,H.ab,H.cb,H.nm,H.ln,H.val,H.tot⟩
theorem first_of {h:SH} {l:List (ByteArray×ByteArray)} {pn qn:ByteArray} {sp wu wp wg hr:Bool} {size:Nat} (H:HeadB h l pn qn sp wu wp wg hr size) {recs:Value} {bs':List UInt8}
  (hO:OutH { effOf h with recs:=recs } (mergeF (afF (effOf h) (kvOf l)) (kvOf l)) (finU (afU (effOf h) sp) (afPF (effOf h)) hr wu wp wg) (finP (afP (effOf h)) wu wp wg) (finG (afG (effOf h)) hr wu wp wg) [] bs')
  (g c:Nat) (eof:Addr) (w:World) (hg:∀j,j < bs'.length→w.cell? ⟨g,j,none⟩=(bs'[j]?).map bv) (he:Sent w 0 eof) :
  Calls Tryz.prog 11 #[.slice (some ⟨g,0,none⟩) bs'.length c] w fun e w'=>∃fv a c' l',e=.returned (.tuple #[.agg (outOf (effOf h) (decide ((effOf h).ats=-62135596800∧(effOf h).atn=0)) (decide ((effOf h).cts=-62135596800∧(effOf h).ctn=0)) fv a (l':List (ByteArray×ByteArray)).length c').icells,.int .i64 0])∧
   RecsIn a l'.length c' l' w'∧l'.length≤1048576∧(h.rn=0∨∀k v,k.size≤maxLen→((k,v)∈l'↔mergeF (afF (effOf h) (kvOf l)) (kvOf l) k=some v))∧Chg [] w w':=by
 have E:=H.eo.recs recs
 have hlen:=outH_len E hO
 have hfl:=H.eo.fld
 obtain ⟨f,pf,th0,hP,hpf⟩:=pend_out (eff:={ effOf h with recs:=recs }) (R:=kvOf l) (A:= []) (hr:=hr) (wu:=wu) (wp:=wp) (wg:=wg) E H.hd.spl H.mn hO []
 rw [List.append_nil] at hP
 obtain ⟨h1,ks,hnd,hks,hsm⟩:=recF_of hpf
 have htot:=H.eo.tot ks hnd hsm
 have hge:=recsOf_ge (mergeF (afF (effOf h) (kvOf l)) (kvOf l)) ks
 refine (first_any g c bs' eof _ th0 pf size bs'.length ks w (by omega) hg hP H.hd.sz (by have:=hfl.sz;have:=H.hd.sz;omega) he ⟨hfl.mt,hfl.at',hfl.ct⟩ hks (by omega)).mono ?_
 rintro e w' ⟨fv,a,c',l',rfl,q1,q4,q2,q3⟩
 refine ⟨fv,a,c',l',rfl,q1,q4,?_,q3⟩
 rcases h1 with h1 | h1
 ·exact .inl (H.hr'.1 h1)
 ·exact .inr fun k v hk=>by rw [q2 k v hk,h1 k hk];exact Iff.rfl
end Go.Proofs.YtkanmkcojlefbaaGreatDoor
namespace Go.Proofs.YtkanmkcojlefbaaGreatDoor
open Go.RowKit
def Small2 (p:ByteArray×ByteArray):Prop:=p.1.size≤2147483647∧p.2.size≤2147483647
set_option maxRecDepth 100000 in
theorem fits5_any (k v:ByteArray) (w:World):Calls Tryz.prog 51 #[.agg #[.string k,.string v]] w fun e w'=>RetB e (Small2 (k,v))∧Chg [] w w':=by
 go_enter Tryz.func51,Tryz.ntmps51
 go_wp2
 all_goals
  go_ret
  first
   | exact ⟨RetB.no,(Chg.refl _ w).alloc _⟩
   | exact ⟨RetB.yes ⟨by show k.size≤_;omega,by show v.size≤_;omega⟩,(Chg.refl _ w).alloc _⟩
set_option maxRecDepth 100000 in
set_option maxHeartbeats 1000000 in
theorem fits4_any (a:Option Addr) (n c:Nat) (l:List (ByteArray×ByteArray)) (w:World) (hR:RecsIn a n c l w) :
  Calls Tryz.prog 24 #[.slice a n c] w fun e w'=>RetB e (n≤2147483647∧∀p∈l,Small2 p)∧Chg [] w w':=by
 obtain ⟨r1,r2,r3,r4⟩:=hR
 unfold maxLen at r3
 have HR1:=Lib.hid r1
 clear r1
 rcases r4 with rfl | ⟨bb,off,rfl,hcell⟩
 ·have hl0:l= []:=List.length_eq_zero_iff.1 HR1.out
  go_enter Tryz.func24,Tryz.ntmps24
  go_wp2
  refine wp_loop_rounds 1 ?_
  rw [rounds_succ]
  go_wp2
  go_ret
  exact ⟨RetB.yes ⟨by omega,by rw [hl0];intro p hp;cases hp⟩,Chg.refl _ _⟩
 ·have HCE:=Lib.hid hcell
  clear hcell
  by_cases hbig:(2147483647:Int) < n
  ·go_enter Tryz.func24,Tryz.ntmps24
   go_wp2
   go_ret
   exact ⟨RetB.no,Chg.refl _ _⟩
  ·go_enter Tryz.func24,Tryz.ntmps24
   go_wp2
   go_loopw [10] (fun i wr=>∃j:Nat,j≤n∧i=.int .i64 j∧(∀p∈l.take j,Small2 p)∧Chg [] w wr) (fun i _=>n - (intOf i).toNat)
   case atStart=>exact ⟨0,by omega,rfl,fun p hp=>(by rw [List.take_zero] at hp;cases hp),Chg.refl _ _⟩
   case round=>
    obtain ⟨j,hj,rfl,hsm,hch⟩:=hrel
    have HSM:=Lib.hid hsm;have HCH:=Lib.hid hch
    clear hsm hch
    by_cases hlt:j < n
    ·have hlt':(j:Int) < n:=by omega
     have hll:j < l.length:=by rw [HR1.out];exact hlt
     have hc1:=HCH.out.cell (HCE.out j hll).1 (by simp)
     have hc2:=HCH.out.cell (HCE.out j hll).2 (by simp)
     have htk:∀p∈l.take (j+1),p∈l.take j∨p=l[j]:=fun p hp=>by
      rw [List.take_succ_eq_append_getElem hll] at hp
      rcases List.mem_append.1 hp with h1 | h1
      ·exact .inl h1
      ·exact .inr (List.mem_singleton.1 h1)
     generalize l[j]=kv at hc1 hc2 htk
     obtain ⟨k,v⟩:=kv
     simp only at hc1 hc2
     have HTK:=Lib.hid htk
     clear htk
     go_wp2_with (go_at_call 51;refine (fits5_any k v _).mono ?_;rintro e u1 ⟨⟨b,rfl,hb⟩,hu1⟩;have HB:=Lib.hid hb;have HU:=Lib.hid hu1;clear hb hu1;cases b)
     all_goals first
      | (go_ret;exact ⟨RetB.no,(HCH.out.alloc _).trans HU.out⟩)
      | skip
     go_roundw
     case rel=>
      refine ⟨j+1,by omega,by go_num,fun p hp=> ?_,(HCH.out.alloc _).trans HU.out⟩
      rcases HTK.out p hp with h1 | rfl
      ·exact HSM.out p h1
      ·exact HB.out (by trivial)
     case measure=>simp [intOf];omega
    ·obtain rfl:j=n:=by omega
     have htk:l.take j=l:=List.take_of_length_le (by rw [HR1.out];omega)
     have HTK:=Lib.hid htk
     clear htk
     go_wp2
     go_ret
     have hsm:=HSM.out
     rw [HTK.out] at hsm
     exact ⟨RetB.yes ⟨by omega,hsm⟩,HCH.out⟩
def StrsIn (a:Option Addr) (n c:Nat) (l:List ByteArray) (w:World):Prop:=
 l.length=n∧n≤c∧c≤maxLen∧(n=0∨∃b off,a=some ⟨b,off,none⟩∧∀j (h:j < l.length),w.cell? ⟨b,off+j,none⟩=some (.string (l[j])))
set_option maxRecDepth 100000 in
set_option maxHeartbeats 1000000 in
theorem fits6_any (a:Option Addr) (n c:Nat) (l:List ByteArray) (w:World) (hR:StrsIn a n c l w) :
  Calls Tryz.prog 20 #[.slice a n c] w fun e w'=>RetB e (n≤2147483647∧∀s∈l,s.size≤2147483647)∧w=w':=by
 obtain ⟨r1,r2,r3,r4⟩:=hR
 unfold maxLen at r3
 have HR1:=Lib.hid r1
 clear r1
 rcases r4 with rfl | ⟨bb,off,rfl,hcell⟩
 ·have hl0:l= []:=List.length_eq_zero_iff.1 HR1.out
  go_enter Tryz.func20,Tryz.ntmps20
  go_wp2
  refine wp_loop_rounds 1 ?_
  rw [rounds_succ]
  go_wp2
  go_ret
  exact ⟨RetB.yes ⟨by omega,by rw [hl0];intro p hp;cases hp⟩,rfl⟩
 ·have HCE:=Lib.hid hcell
  clear hcell
  by_cases hbig:(2147483647:Int) < n
  ·go_enter Tryz.func20,Tryz.ntmps20
   go_wp2
   go_ret
   exact ⟨RetB.no,rfl⟩
  ·go_enter Tryz.func20,Tryz.ntmps20
   go_wp2
   go_loop [10] (fun i=>∃j:Nat,j≤n∧i=.int .i64 j∧(∀s∈l.take j,s.size≤2147483647)) (fun i=>n - (intOf i).toNat)
   case atStart=>exact ⟨0,by omega,rfl,fun p hp=>(by rw [List.take_zero] at hp;cases hp)⟩
   case round=>
    obtain ⟨j,hj,rfl,hsm⟩:=hrel
    have HSM:=Lib.hid hsm
    clear hsm
    by_cases hlt:j < n
    ·have hlt':(j:Int) < n:=by omega
     have hll:j < l.length:=by rw [HR1.out];exact hlt
     have hc1:=HCE.out j hll
     have htk:∀p∈l.take (j+1),p∈l.take j∨p=l[j]:=fun p hp=>by
      rw [List.take_succ_eq_append_getElem hll] at hp
      rcases List.mem_append.1 hp with h1 | h1
      ·exact .inl h1
      ·exact .inr (List.mem_singleton.1 h1)
     generalize l[j]=s at hc1 htk
     have HTK:=Lib.hid htk
     clear htk
     by_cases hs:(2147483647:Int) < s.size
     ·go_wp2
      go_ret
      exact ⟨RetB.no,rfl⟩
     ·go_wp2
      go_round
      case rel=>
       refine ⟨j+1,by omega,by go_num,fun p hp=> ?_⟩
       rcases HTK.out p hp with h1 | rfl
       ·exact HSM.out p h1
       ·omega
      case measure=>simp [intOf];omega
    ·obtain rfl:j=n:=by omega
     have htk:l.take j=l:=List.take_of_length_le (by rw [HR1.out];omega)
     have HTK:=Lib.hid htk
     clear htk
     go_wp2
     go_ret
     have hsm:=HSM.out
     rw [HTK.out] at hsm
     exact ⟨RetB.yes ⟨by omega,hsm⟩,rfl⟩
structure Fit3 (h:SH) (l:List (ByteArray×ByteArray)):Prop where
 nm:h.name.size≤2147483647
 ln:h.link.size≤2147483647
 un:h.un.size≤2147483647
 gn:h.gn.size≤2147483647
 rn:h.rn≤2147483647
 each:∀p∈l,Small2 p
set_option maxRecDepth 100000 in
set_option maxHeartbeats 1000000 in
theorem fits3_any (h:SH) (l:List (ByteArray×ByteArray)) (w:World) (hR:RecsIn h.ra h.rn h.rc l w) :
  Calls Tryz.prog 7 #[.agg h.icells] w fun e w'=>RetB e (Fit3 h l)∧Chg [] w w':=by
 have hk0:Chg [] w (w.alloc (.cells h.icells 26)):=(Chg.refl [] w).alloc _
 have hb0:=heap_alloc_new w (.cells h.icells 26)
 have c1:=i26 h hb0 1 (.string h.name) rfl
 have c2:=i26 h hb0 2 (.string h.link) rfl
 have c7:=i26 h hb0 7 (.string h.un) rfl
 have c8:=i26 h hb0 8 (.string h.gn) rfl
 have c19:=i26 h hb0 19 (.slice h.ra h.rn h.rc) rfl
 have HF:=Lib.hid (fits4_any h.ra h.rn h.rc l (w.alloc (.cells h.icells 26)) (hR.chg hk0))
 have HK0:=Lib.hid hk0
 clear hk0 hb0 hR
 generalize h.icells=C at*
 go_enter Tryz.func7,Tryz.ntmps7
 go_wp2_with (go_at_call 24;refine HF.out.mono ?_;rintro e u1 ⟨⟨b,rfl,hb⟩,hu1⟩;have HB:=Lib.hid hb;have HU:=Lib.hid hu1;clear hb hu1;cases b)
 all_goals
  go_ret
  first
   | exact ⟨RetB.no,HK0.out⟩
   | exact ⟨RetB.no,HK0.out.trans HU.out⟩
   | exact ⟨RetB.yes ⟨by omega,by omega,by omega,by omega,(HB.out (by trivial)).1,(HB.out (by trivial)).2⟩,HK0.out.trans HU.out⟩
end Go.Proofs.YtkanmkcojlefbaaGreatDoor
namespace Go.Proofs.YtkanmkcojlefbaaGreatDoor
open Go.RowKit
def tenKeys:List ByteArray:= [kP,kL,kSz,kUi,kGi,kUn,kGn,kMt,kAt,kCt]
set_option maxRecDepth 100000 in
theorem keys_any (w:World):Calls Tryz.prog 22 #[] w fun e w'=>e=.returned (.slice (some ⟨w.heap.size,0,none⟩) 10 10)∧w'=w.alloc (.cells (tenKeys.map (Value.string ·)).toArray 9):=by
 go_enter Tryz.func22,Tryz.ntmps22
 go_wp2
 go_ret
 exact ⟨rfl,rfl⟩
theorem keys_cell (w:World) (j:Nat) (h:j < tenKeys.length):(w.alloc (.cells (tenKeys.map (Value.string ·)).toArray 9)).cell? ⟨w.heap.size,j,none⟩=some (.string tenKeys[j]):=by
 rw [World.cell?_alloc_new,List.getElem?_toArray,List.getElem?_map,List.getElem?_eq_getElem h]
 rfl
end Go.Proofs.YtkanmkcojlefbaaGreatDoor
namespace Go.Proofs.YtkanmkcojlefbaaGreatDoor
open Go.RowKit
theorem isZ (b:Bool) (s ns:Int) (h:b=true→OddR s ns):decide ((if b=true then s else -62135596800)=-62135596800∧(if b=true then ns.toNat else 0)=0)= !b:=by
 cases b
 ·rfl
 ·obtain ⟨h1,h2,h3⟩:=h rfl
  simp only [if_true,Bool.not_true,decide_eq_false_iff_not,not_and]
  intro e e2
  exact h1 ⟨e,by omega⟩
theorem out_want {h:SH} {l:List (ByteArray×ByteArray)} (hf:h.fmt=1∨h.fmt=2∨h.fmt=3) (hm:OddR h.ms h.mn) (ha:h.ha=true→OddR h.ats h.atn) (hc:h.hc=true→OddR h.cts h.ctn) (fv:Int) (a:Option Addr) (n c:Nat) :
  ∃ats' atn' cts' ctn':Int,outOf (effOf h) (decide ((effOf h).ats=-62135596800∧(effOf h).atn=0)) (decide ((effOf h).cts=-62135596800∧(effOf h).ctn=0)) fv a n c={ h.prom with ats:=ats',atn:=atn',cts:=cts',ctn:=ctn',ra:=a,rn:=n,rc:=c,fmt:=fv }∧
   (h.ha=true→ats'=h.ats∧atn'=h.atn)∧(h.hc=true→cts'=h.cts∧ctn'=h.ctn):=by
 rw [eff_A hf]
 have za:decide ((effC h h.fmt).ats=-62135596800∧(effC h h.fmt).atn=0)= !h.ha:=isZ h.ha h.ats h.atn ha
 have zc:decide ((effC h h.fmt).cts=-62135596800∧(effC h h.fmt).ctn=0)= !h.hc:=isZ h.hc h.cts h.ctn hc
 rw [za,zc]
 obtain ⟨_,m1,m2⟩:=hm
 have e:outOf (effC h h.fmt) (!h.ha) (!h.hc) fv a n c={ h.prom with mn:=((h.mn.toNat:Nat):Int),ha:= !!h.ha,hc:= !!h.hc,ats:=if (!h.ha)=true then 0 else (if h.ha=true then h.ats else -62135596800),atn:=if (!h.ha)=true then (0:Int) else ((if h.ha=true then h.atn.toNat else 0:Nat):Int),cts:=if (!h.hc)=true then 0 else (if h.hc=true then h.cts else -62135596800),ctn:=if (!h.hc)=true then (0:Int) else ((if h.hc=true then h.ctn.toNat else 0:Nat):Int),ra:=a,rn:=n,rc:=c,fmt:=fv }:=rfl
 rw [e,Bool.not_not,Bool.not_not,Int.toNat_of_nonneg m1]
 refine ⟨_,_,_,_,rfl,?_,?_⟩
 ·intro h1
  obtain ⟨_,k1,k2⟩:=ha h1
  simp only [h1,Bool.not_true,Bool.false_eq_true,if_false,if_true]
  exact ⟨trivial,Int.toNat_of_nonneg k1⟩
 ·intro h1
  obtain ⟨_,k1,k2⟩:=hc h1
  simp only [h1,Bool.not_true,Bool.false_eq_true,if_false,if_true]
  exact ⟨trivial,Int.toNat_of_nonneg k1⟩
theorem ten_basic:∀k∈tenKeys,okKey k=false:=by
 intro k hk
 simp only [tenKeys,List.mem_cons,List.not_mem_nil,or_false] at hk
 rcases hk with rfl | rfl | rfl | rfl | rfl | rfl | rfl | rfl | rfl | rfl<;>rfl
theorem ten_small:∀k∈tenKeys,k.size≤8:=by
 intro k hk
 simp only [tenKeys,List.mem_cons,List.not_mem_nil,or_false] at hk
 rcases hk with rfl | rfl | rfl | rfl | rfl | rfl | rfl | rfl | rfl | rfl<;>decide
theorem sumR_bound:∀(l:List (ByteArray×ByteArray)) (m:Nat),(∀p∈l,p.1.size+p.2.size+24≤m)→sumR l≤m*l.length
 | [],m,_=>by simp [sumR]
 | p::r,m,h=>by
  have h1:=h p (by simp)
  have h2:=sumR_bound r m (fun q hq=>h q (List.mem_cons_of_mem _ hq))
  rw [sumR_cons,List.length_cons,Nat.mul_add]
  omega
theorem recsP_ten {l:List (ByteArray×ByteArray)} (hn:l.length≤10) (h:∀p∈l,p.1∈tenKeys∧0 < p.2.size∧p.2.size≤2147483647):RecsP l:=by
 refine ⟨fun p hp hk=> ?_,fun p hp=>(h p hp).2.1,?_,?_⟩
 ·rw [ten_basic _ (h p hp).1] at hk;cases hk
 ·have:(l.filter fun p=>okKey p.1)= []:=List.filter_eq_nil_iff.2 (fun p hp=>by rw [ten_basic _ (h p hp).1];decide)
  rw [this];decide
 ·have:=sumR_bound l 2147483679 (fun p hp=>by have h1:=ten_small _ (h p hp).1;have h2:=(h p hp).2.2;omega)
  have h3:2147483679*l.length≤2147483679*10:=Nat.mul_le_mul_left _ hn
  omega
theorem filter_ten {l:List (ByteArray×ByteArray)} (h:∀p∈l,p.1∈tenKeys):sumR (l.filter fun p=>okKey p.1)=0:=by
 have:(l.filter fun p=>okKey p.1)= []:=List.filter_eq_nil_iff.2 (fun p hp=>by rw [ten_basic _ (h p hp)];decide)
 rw [this];rfl
end Go.Proofs.YtkanmkcojlefbaaGreatDoor
namespace Go.Proofs.YtkanmkcojlefbaaGreatDoor
open Go.RowKit
theorem sums_pos (M:List UInt8):0 < (sums M).length:=by
 unfold sums splice
 simp only [List.length_append,List.length_cons,List.length_nil]
 omega
theorem outH_pos {eff:TH} {F:KV} {u p g:Bool} {bs bs':List UInt8} (h:OutH eff F u p g bs bs'):0 < bs'.length:=by
 rcases h with ⟨_,p,q,b0,_,_,rfl⟩ | ⟨_,_,⟨b0,_,_,rfl⟩ | ⟨ks,data,b1,b0,_,_,_,_,_,_,rfl⟩⟩ | ⟨_,_,_,bs1,pad1,bs2,pad2,b0,_,_,_,rfl⟩
 ·have:=sums_pos (splice b0.bytes 257 (magicOf false));rw [List.length_append];omega
 ·have:=sums_pos (splice b0.bytes 257 (magicOf false));rw [List.length_append];omega
 ·have:=sums_pos (splice b0.bytes 257 (magicOf false));rw [List.length_append];omega
 ·have:=sums_pos (splice b0.bytes 257 (magicOf true));rw [List.length_append];omega
theorem ld26 (h:SH) (w:World) (g:Nat) (hg:w.heap[g]? =some (.cells h.icells 26 (0,0))):(Instr.loadAt 26 (.pointer (some ⟨g,0,none⟩))).run Tryz.prog w=.ok (.agg h.icells) w:=by
 simp only [Instr.loadAt,Instr.sureAddr,Sem.run_bind,Sem.run_pure,Result.andThen]
 exact run_loadVar_row w g 26 26 h.icells (0,0) _ hg Tryz.underlying26 rfl (by rw [show h.icells.size=21 from rfl];kernel_rfl)
attribute [-go_sem] Instr.loadAt
set_option maxRecDepth 100000 in
set_option maxHeartbeats 4000000 in
theorem head_any (B:Nat) (sn:Nat→Addr) (kb:Nat) (h:SH) (l:List (ByteArray×ByteArray)) (pn qn:ByteArray) (sp wu wp wg hr:Bool) (size:Nat) (H:HeadH h l pn qn sp wu wp wg hr size) (w:World) (hE:Env B sn kb w) (hR:RecsIn h.ra h.rn h.rc l w) :
  Calls Tryz.prog 10 #[.agg h.icells] w fun e w'=>∃g cap recs bs',e=.returned (.tuple #[.slice (some ⟨g,0,none⟩) bs'.length cap,.int .i64 0])∧OutH { effOf h with recs:=recs } (mergeF (afF (effOf h) (kvOf l)) (kvOf l)) (finU (afU (effOf h) sp) (afPF (effOf h)) hr wu wp wg) (finP (afP (effOf h)) wu wp wg) (finG (afG (effOf h)) hr wu wp wg) [] bs'∧(∀j,j < bs'.length→w'.cell? ⟨g,j,none⟩=(bs'[j]?).map bv)∧bs'.length≤cap∧cap≤maxLen∧FrW B [] w w':=by
 generalize hQ:(fun (e:Ending) (w':World)=>∃g cap recs bs',e=.returned (.tuple #[.slice (some ⟨g,0,none⟩) (bs':List UInt8).length cap,.int .i64 0])∧OutH { effOf h with recs:=recs } (mergeF (afF (effOf h) (kvOf l)) (kvOf l)) (finU (afU (effOf h) sp) (afPF (effOf h)) hr wu wp wg) (finP (afP (effOf h)) wu wp wg) (finG (afG (effOf h)) hr wu wp wg) [] bs'∧(∀j,j < bs'.length→w'.cell? ⟨g,j,none⟩=(bs'[j]?).map bv)∧bs'.length≤cap∧cap≤maxLen∧FrW B [] w w')=Q
 have HQ:=Lib.hid hQ;have HH:=Lib.hid H;have HE:=Lib.hid hE;have HR:=Lib.hid hR
 clear hQ H hE hR
 have hld:∀(w':World) (g:Nat),w'.heap[g]? =some (.cells h.icells 26 (0,0))→(Instr.loadAt 26 (.pointer (some ⟨g,0,none⟩))).run Tryz.prog w'=.ok (.agg h.icells) w':=ld26 h
 have hhd:∀(w':World),Chg [] w w'→Calls Tryz.prog 31 #[.agg h.icells] w' fun e w''=>∃hp recs,e=.returned (.pointer (some ⟨hp,0,none⟩))∧w'.heap.size≤hp∧w''.heap[hp]? =some (.cells (h.th recs).cells.toArray 130 (0,0))∧((h.rn=0∧recs=.map none)∨(0 < h.rn∧∃mb,recs=.map (some mb)∧MapS mb h.rn (kvOf l) w''))∧Chg [] w' w'':=fun w' k=>header_any h l w' HH.out.sumr (HR.out.chg k) HH.out.hm HH.out.ha HH.out.hc
 have HHD:=Lib.hid hhd
 clear hhd
 obtain ⟨C,hC⟩:∃C,h.icells=C:=⟨_,rfl⟩
 rw [hC] at hld HHD⊢
 have HC:=Lib.hid hC
 clear hC
 go_enter Tryz.func10,Tryz.ntmps10
 go_upto_region 2 with (fail)
 have hb:((w.alloc (.cells C 26)).alloc (.cells #[.slice none 0 0,.int .i64 0,.int .i8 0] 70)).heap[w.heap.size]? =some (.cells C 26 (0,0)):=by
  rw [Below.heap_alloc _ _ _ (by simp)];exact heap_alloc_new _ _
 have hbb:((w.alloc (.cells C 26)).alloc (.cells #[.slice none 0 0,.int .i64 0,.int .i8 0] 70)).heap[w.heap.size+1]? =some (.cells #[.slice none 0 0,.int .i64 0,.int .i8 0] 70 (0,0)):=heap_alloc_new' _ _ _
 have hk1:Chg [] w ((w.alloc (.cells C 26)).alloc (.cells #[.slice none 0 0,.int .i64 0,.int .i8 0] 70)):=((Chg.refl [] _).alloc _).alloc _
 generalize ((w.alloc (.cells C 26)).alloc (.cells #[.slice none 0 0,.int .i64 0,.int .i8 0] 70))=w1 at hb hbb hk1⊢
 have hbs:=HE.out.size
 have hlt1:=(Array.getElem?_eq_some_iff.1 hbb).1
 have hI:Lib.IsBuffer 70 5 B (w.heap.size+1) (bvs []) w1.drew:=⟨by omega,.slice none 0 0,0,hbb,World.ownsRow_nil _ _ _ _,by simp [Value.ownBlock]⟩
 have HI:=Lib.hid hI;have HE1:=Lib.hid (HE.out.chg hk1.drew (by simp));have HK1:=Lib.hid hk1
 generalize hg0:w.heap.size=g0 at*
 have HG0:=Lib.hid hg0
 clear hI hk1 hg0 hbb
 (go_region_held3 (fun w'=>w'.heap[g0]? =some (.cells C 26 (0,0))) (first | assumption | exact hb) ((first
   | (go_at_call 29;have HCALL:=Lib.hid (newWriter_ws B sn kb (g0+1) _ HE1.out HI.out);refine HCALL.out.mono ?_;rintro e w2 ⟨rfl,k1,k3⟩;have HW2:=Lib.hid k1;have HC2:=Lib.hid k3;have hb2:=k3.heap (show w1.drew.heap[g0]? =_ from hb) (by simp);clear k1 k3)
   | (go_at_call 31;have HCALL2:=Lib.hid (HHD.out _ (HK1.out.trans ((Chg.refl _ _).drew.trans HC2.out)));refine HCALL2.out.mono ?_;rintro e w3 ⟨hp,recs,rfl,hlo,hhd,hrr,hc3⟩;have HW3:=Lib.hid (HW2.out.chg0 hc3);have HLO:=Lib.hid hlo;have HHH:=Lib.hid hhd;have HRR:=Lib.hid hrr;have HC3:=Lib.hid hc3;have hb3:=hc3.heap hb2 (by simp);clear hlo hhd hrr hc3)
   | (go_at_call 30;have HCALL3:=Lib.hid (write_of B sn kb _ (g0+1) _ hp h l pn qn sp wu wp wg hr size HH.out recs _ HW3.out HHH.out (by have:=HW2.out.tlt;have:=HLO.out;omega) (by have:=HW2.out.blt;have:=HLO.out;omega) HRR.out);refine HCALL3.out.mono ?_;rintro e w4 ⟨rfl,hout,hf4⟩;have HOUT:=Lib.hid hout;have HF4:=Lib.hid hf4;have hb4:=hf4.heap hb3 (by have:=hlt1;simp;omega) (by decide);clear hout hf4))))
 rename_i hHeld
 obtain ⟨rw',th',L',bs',hO,hWS⟩:=HOUT.out
 simp only [List.replicate_zero,List.append_nil] at hO
 have hpos:=outH_pos hO
 have HO:=Lib.hid hO;have HWS:=Lib.hid hWS
 have hfr:FrW B [w1.drew.heap.size+1,g0+1] w w4:=((FrW.ofChg (HK1.out.drew.trans (HC2.out.trans HC3.out)) HE.out.size (by simp)).mono (by simp)).trans HF4.out
 have HFR:=Lib.hid hfr
 have hg1:g0≤w1.heap.size:=by omega
 have HW:=Lib.hid HG0.out
 clear hO hWS hfr hHeld hb4 hb3 hb2 hb
 go_wp2_with (first
  | (go_at_call 32;have HCALL4:=Lib.hid (bytes_row B (g0+1) bs' _ hpos HWS.out.buf);refine HCALL4.out.mono ?_;rintro e w5 ⟨g5,cap5,rfl,q1,q2,q3,q4⟩;have Q1:=Lib.hid q1;have Q4:=Lib.hid q4;clear q1 q4)
  | (go_at_call 33;refine (end_nil _).mono ?_;rintro e w6 ⟨rfl,rfl⟩))
 rw [←HQ.out]
 have hfin:FrW B [w1.drew.heap.size+1,g0+1] w w5:=HFR.out.trans ((FrW.ofChg Q4.out (Nat.le_trans HE.out.size HFR.out.below.size) (by simp)).mono (by simp))
 have h1:FrW B [w1.drew.heap.size+1] w w5:=FrW.fresh (S:= [w1.drew.heap.size+1]) (n:=g0+1) hfin (by rw [HG0.out];omega)
 have h2:FrW B [] w w5:=FrW.fresh (S:= []) (n:=w1.drew.heap.size+1) h1 (by rw [HG0.out];show g0≤w1.heap.size+1;omega)
 exact ⟨g5,cap5,recs,bs',rfl,HO.out,Q1.out,q2,q3,h2⟩
end Go.Proofs.YtkanmkcojlefbaaGreatDoor
namespace Go.Proofs.YtkanmkcojlefbaaGreatDoor
open Go.RowKit
def SameOut (o h:SH):Prop:=∃(ats' atn' cts' ctn' fv:Int) (a:Option Addr) (n c:Nat),o={ h.prom with ats:=ats',atn:=atn',cts:=cts',ctn:=ctn',ra:=a,rn:=n,rc:=c,fmt:=fv }∧(h.ha=true→ats'=h.ats∧atn'=h.atn)∧(h.hc=true→cts'=h.cts∧ctn'=h.ctn)
def FirstOf (h:SH) (P:List (ByteArray×ByteArray)→Prop) (gb nb cap:Nat) (w2:World):Prop:=
 Calls Tryz.prog 11 #[.slice (some ⟨gb,0,none⟩) nb cap] w2 fun e2 w3=>∃(o:SH) (l':List (ByteArray×ByteArray)),e2=.returned (.tuple #[.agg o.icells,.int .i64 0])∧SameOut o h∧RecsIn o.ra o.rn o.rc l' w3∧o.rn≤1048576∧P l'∧Chg [] w2 w3
theorem head_first (B:Nat) (sn:Nat→Addr) (kb:Nat) {h:SH} {l:List (ByteArray×ByteArray)} {pn qn:ByteArray} {sp wu wp wg hr:Bool} {size:Nat} (H:HeadB h l pn qn sp wu wp wg hr size) (hf:h.fmt=1∨h.fmt=2∨h.fmt=3) (hm:OddR h.ms h.mn) (ha:h.ha=true→OddR h.ats h.atn) (hc:h.hc=true→OddR h.cts h.ctn) (w:World) (hE:Env B sn kb w) (hR:RecsIn h.ra h.rn h.rc l w) :
  Calls Tryz.prog 10 #[.agg h.icells] w fun e w1=>∃gb nb cap,e=.returned (.tuple #[.slice (some ⟨gb,0,none⟩) nb cap,.int .i64 0])∧FrW B [] w w1∧
   ∀w2,Chg [] w1 w2→FirstOf h (fun l'=>h.rn=0∨∀k v,k.size≤maxLen→((k,v)∈l'↔mergeF (afF (effOf h) (kvOf l)) (kvOf l) k=some v)) gb nb cap w2:=by
 refine (head_any B sn kb h l pn qn sp wu wp wg hr size H.hd w hE hR).mono ?_
 rintro e w1 ⟨g,cap,recs,bs',rfl,hO,hcell,h1,h2,hF⟩
 refine ⟨g,bs'.length,cap,rfl,hF,fun w2 k=> ?_⟩
 have he:Sent w2 0 (sn 0):=((hE.frw hF).chg0 k).s0
 refine (first_of H hO g cap (sn 0) w2 (fun j hj=> ?_) he).mono ?_
 ·have hv:=hcell j hj
  rw [List.getElem?_eq_getElem hj] at hv⊢
  exact k.cell hv (by simp)
 ·rintro e w' ⟨fv,a,c',l',rfl,q1,q4,q2,q3⟩
  obtain ⟨x1,x2,x3,x4,hx,hy,hz⟩:=out_want (l:=l) hf hm ha hc fv a l'.length c'
  exact ⟨_,l',rfl,⟨x1,x2,x3,x4,fv,a,l'.length,c',hx,hy,hz⟩,q1,q4,q2,q3⟩
theorem head_ten (B:Nat) (sn:Nat→Addr) (kb:Nat) (g:SH) (a':Option Addr) (c':Nat) (hcan:CanR { g with fmt:=2,ra:=a',rn:=0,rc:=c' } [] 2) (K:Ran g) (L:List (ByteArray×ByteArray)) (aa:Option Addr) (cc:Nat) (hLp:∀p∈L,p.1∈tenKeys∧0 < p.2.size∧p.2.size≤2147483647) (hn:L.length≤10) (w:World) (hE:Env B sn kb w) (hR:RecsIn aa L.length cc L w) :
  Calls Tryz.prog 10 #[.agg (SH.icells { g with fmt:=2,ra:=aa,rn:=L.length,rc:=cc })] w fun e w1=>∃gb nb cap,e=.returned (.tuple #[.slice (some ⟨gb,0,none⟩) nb cap,.int .i64 0])∧FrW B [] w w1∧
   ∀w2,Chg [] w1 w2→FirstOf { g with fmt:=2,ra:=aa,rn:=L.length,rc:=cc } (fun _=>True) gb nb cap w2:=by
 have hft:=filter_ten (l:=L) (fun p hp=>(hLp p hp).1)
 have hpl:=hcan.pl
 have hsum:g.name.size+g.link.size+g.un.size+g.gn.size+sumR (L.filter fun p=>okKey p.1)≤524288:=by
  have h1:g.name.size+g.link.size+g.un.size+g.gn.size+sumR []≤524288:=hpl.sum
  have h2:sumR []=0:=rfl
  omega
 obtain ⟨pn,qn,sp,wu,wp,wg,hr,size,H⟩:=headB_A (h:={ g with fmt:=2,ra:=aa,rn:=L.length,rc:=cc }) (h0:={ g with fmt:=2,ra:=a',rn:=0,rc:=c' }) (l0:= []) (l:=L) (a:=a') (n:=0) (c:=c') rfl (.inr (.inl rfl)) hcan ⟨K.md,K.ui,K.gi,K.sz,K.dj,K.dn⟩ (recsP_ten hn hLp) hsum rfl (fun e=>absurd rfl e) (fun e=>absurd (show (2:Int)=3 from e) (by decide))
 refine (head_first B sn kb H (.inr (.inl rfl)) hpl.mod hpl.acc hpl.chn w hE hR).mono ?_
 rintro e w1 ⟨gb,nb,cap,rfl,hF,hfi⟩
 refine ⟨gb,nb,cap,rfl,hF,fun w2 k=>(hfi w2 k).mono ?_⟩
 rintro e w3 ⟨o,l',h1,h2,h3,h4,_,h6⟩
 exact ⟨o,l',h1,h2,h3,h4,trivial,h6⟩
end Go.Proofs.YtkanmkcojlefbaaGreatDoor
