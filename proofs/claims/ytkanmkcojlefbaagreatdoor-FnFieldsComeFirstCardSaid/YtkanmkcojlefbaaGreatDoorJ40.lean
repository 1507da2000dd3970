/-
  The header that goes out: its records stand aside · impl.Head (10) · What Can tells of a header, and what Head wants of one.
-/
import Derived.Test.YtkanmkcojlefbaaGreatDoorJ39
import Derived.Test.YtkanmkcojlefbaaGreatDoorJ37
set_option linter.unusedVariables false
namespace Go.Proofs.YtkanmkcojlefbaaGreatDoor
open Go.RowKit
theorem promo_recs (th:TH) (r:Value):({ th with recs:=r }:TH).promo={ th.promo with recs:=r }:=by
 unfold TH.promo
 by_cases h:th.tf=0
 ·rw [if_pos h,if_pos h]
 ·rw [if_neg h,if_neg h]
theorem rnd_recs (th:TH) (r:Value):({ th with recs:=r }:TH).rnd={ th.rnd with recs:=r }:=by
 unfold TH.rnd
 by_cases h:th.fmt=0
 ·rw [if_pos h,if_pos h]
 ·rw [if_neg h,if_neg h]
def effOf (h:SH):TH:=(h.th (.map none)).promo.rnd
theorem eff_recs (h:SH) (r:Value):(h.th r).promo.rnd={ effOf h with recs:=r }:=by
 have e:h.th r={ h.th (.map none) with recs:=r }:=rfl
 rw [e,promo_recs,rnd_recs]
 rfl
theorem fld_recs {th:TH} (h:FldOk th) (r:Value):FldOk { th with recs:=r }:=⟨h.n1,h.n2,h.n3,h.n4,h.z1,h.z2,h.z3,h.z4,h.md,h.ui,h.gi,h.sz,h.dj,h.dn,h.mt,h.at',h.ct⟩
end Go.Proofs.YtkanmkcojlefbaaGreatDoor
namespace Go.Proofs.YtkanmkcojlefbaaGreatDoor
open Go.RowKit
structure HeadH (h:SH) (l:List (ByteArray×ByteArray)) (pn qn:ByteArray) (sp wu wp wg hr:Bool) (size:Nat):Prop where
 sumr:sumR l≤1099511627776
 hm:TOk h.ms h.mn
 ha:h.ha=true→TOk h.ats h.atn
 hc:h.hc=true→TOk h.cts h.ctn
 nm:h.name.size≤1000000
 mt:(h.th (.map none)).promo.mtOk
 nm':(effOf h).name.size≤1000000
 ln':(effOf h).link.size≤1000000
 spl:SplitC (effOf h).name pn qn sp
 r0:kvOf l ⟨#[]⟩=none
 fld:FldOk (effOf h)
 tf:TfOk (effOf h)
 sl:(effOf h).tf.toNat=53∨slashB (effOf h).name=false
 sz:(effOf h).size=(size:Int)
 xa:(effOf h).xa=.map none
 rc:(h.rn=0∧hr=false∧∀k,kvOf l k=none)∨(0 < h.rn∧hr=true∧∃k v,ByteArray.size k≤maxLen∧kvOf l k=some v)
 rn:h.rn≤549755813888
 val:∀k v,mergeF (afF (effOf h) (kvOf l)) (kvOf l) k=some v→RecOk k v
 fmt:(effOf h).fmt=fm wu wp wg
 ok:(finU (afU (effOf h) sp) (afPF (effOf h)) hr wu wp wg || finP (afP (effOf h)) wu wp wg || finG (afG (effOf h)) hr wu wp wg)=true
 tot:∀ks:List ByteArray,ks.Nodup→(∀k∈ks,(mergeF (afF (effOf h) (kvOf l)) (kvOf l) k).isSome=true)→(recsOf (mergeF (afF (effOf h) (kvOf l)) (kvOf l)) ks).length≤1048576
 gw:finG (afG (effOf h)) hr wu wp wg=true→GnuW
set_option maxHeartbeats 1000000 in
theorem write_of (B:Nat) (sn:Nat→Addr) (kb tw b rw hp:Nat) (h:SH) (l:List (ByteArray×ByteArray)) (pn qn:ByteArray) (sp wu wp wg hr:Bool) (size:Nat) (H:HeadH h l pn qn sp wu wp wg hr size) (recs:Value) (w:World) (hw:WS B sn kb tw b rw 0 0 thZ (List.replicate 512 0) [] w)
  (hh:w.heap[hp]? =some (.cells (h.th recs).cells.toArray 130 (0,0))) (hpt:hp≠tw) (hpb:hp≠b) (hrr:(h.rn=0∧recs=.map none)∨(0 < h.rn∧∃mb,recs=.map (some mb)∧MapS mb h.rn (kvOf l) w)) :
  Calls Tryz.prog 30 #[.pointer (some ⟨tw,0,none⟩),.pointer (some ⟨hp,0,none⟩)] w fun e w'=>e=.returned .nilIface∧WhOut B sn kb tw b 0 0 { effOf h with recs:=recs } (mergeF (afF (effOf h) (kvOf l)) (kvOf l)) (finU (afU (effOf h) sp) (afPF (effOf h)) hr wu wp wg) (finP (afP (effOf h)) wu wp wg) (finG (afG (effOf h)) hr wu wp wg) size [] w'∧FrW B [tw,b] w w':=by
 have hone:recs.oneCell'=true:=by
  rcases hrr with ⟨_,rfl⟩ | ⟨_,mb,rfl,_⟩<;>rfl
 have hRN:RecsN recs w.heap.size (kvOf l) h.rn hr w:=by
  rcases H.rc with ⟨h1,h2,h3⟩ | ⟨h1,h2,h3⟩
  ·rcases hrr with ⟨_,h4⟩ | ⟨h4,_⟩
   ·exact .inl ⟨h2,h4,h3⟩
   ·omega
  ·rcases hrr with ⟨h4,_⟩ | ⟨_,mb,h5,h6⟩
   ·omega
   ·exact .inr ⟨h2,h3,mb,h5,h6.lt,h6⟩
 have hq:(h.th recs).promo.mtOk:=by
  have e:h.th recs={ h.th (.map none) with recs:=recs }:=rfl
  rw [e,promo_recs]
  exact H.mt
 exact writeHeader_ws B sn kb tw b rw 0 hp 0 thZ (h.th recs) (h.th recs).promo { effOf h with recs:=recs } (List.replicate 512 0) [] w hw (by omega) (by simp) hh hpt hpb rfl hone (Nat.le_trans H.nm (by decide)) rfl (eff_recs h recs) hq
  h.rn size (kvOf l) pn qn sp hr wu wp wg H.spl H.r0 (fld_recs H.fld recs) H.tf H.sl H.sz H.xa hRN H.rn H.val H.fmt H.ok H.tot H.nm' H.ln' (by simp) H.gw
end Go.Proofs.YtkanmkcojlefbaaGreatDoor
namespace Go.Proofs.YtkanmkcojlefbaaGreatDoor
open Go.RowKit
theorem ext_get (s:ByteArray) (n j:Nat) (hj:j < n) (hn:n≤s.size):(s.extract 0 n).data[j]! =s[j]'(by omega):=by
 have hsz:(s.extract 0 n).size=n:=by simp;omega
 rw [getElem!_pos _ _ (by show j < (s.extract 0 n).size;omega)]
 show (s.extract 0 n)[j]'(by omega)=_
 rw [ByteArray.getElem_extract]
 simp
theorem split_yes (s:ByteArray) (hs:s.size≤140737488355328) (ha:ascii s.data.toList=true) (hl:100 < s.size) (h:∃i,SplitAt s i):∃p q,SplitOk s p q∧SplitAs s p q true:=by
 obtain ⟨i0,z1,z2,z3,z4,z5⟩:=h
 obtain ⟨n,hn,hns,hn6,hlast⟩:=spLen_ex s hl
 have hsz:(s.extract 0 n).size=n:=by simp;omega
 have hin:i0 < n:=by
  rcases hn with ⟨_,rfl⟩ | ⟨_,_,_,rfl⟩ | ⟨_,_,_,rfl⟩<;>omega
 have hv:s[i0]'(by omega)=47:=by
  obtain ⟨h1,h2⟩:=List.getElem?_eq_some_iff.1 z5
  exact h2
 have h0:(((s.extract 0 n).data[i0]!).toNat:Int)=47:=by rw [ext_get s n i0 hin hns,hv];rfl
 rcases Lib.lastIndexByte_spec (s.extract 0 n) 47 with ⟨e,hno⟩ | ⟨i,hi,e,hc,hmax⟩
 ·exact absurd h0 (hno i0 (by omega))
 ·have hii:i0≤i:=by
   rcases Nat.lt_or_ge i i0 with h | h
   ·exact absurd h0 (hmax i0 h (by omega))
   ·exact h
  rw [hsz] at hi
  have hc1:s[i]'(by omega)=47:=by
   rw [ext_get s n i hi hns] at hc
   exact UInt8.toNat_inj.1 (by show _=47;omega)
  have his:i+1 < s.size:=by
   by_cases hh:i+1=s.size
   ·exfalso
    have h2:=hlast (by omega) (by omega)
    apply h2
    have:s.size - 1=i:=by omega
    simp only [this]
    exact hc1
   ·omega
  exact ⟨s.extract 0 i,s.extract (i+1) s.size,⟨ha,by omega,cut_at s i (by omega) hc1,by simp;omega,by simp;omega,by simp;omega,by simp;omega⟩,fun w=>split_ok s n i w hs (by omega) ha hn e (by omega) (by omega) his (by omega)⟩
theorem splitC_yes (s:ByteArray) (hs:s.size≤140737488355328):∃pn qn sp,SplitC s pn qn sp∧(ascii s.data.toList=true→100 < s.size→(∃i,SplitAt s i)→sp=true):=by
 by_cases h:ascii s.data.toList=true∧100 < s.size∧∃i,SplitAt s i
 ·obtain ⟨p,q,h1,h2⟩:=split_yes s hs h.1 h.2.1 h.2.2
  exact ⟨p,q,true,⟨h2,fun _=>h1,by simp⟩,fun _ _ _=>rfl⟩
 ·obtain ⟨p,q,sp,h1⟩:=splitC_ex s hs
  exact ⟨p,q,sp,h1,fun a b c=>absurd ⟨a,b,c⟩ h⟩
theorem sum_rem (f:ByteArray→Nat) (a:ByteArray):∀ks:List ByteArray,ks.Nodup→a∈ks→(ks.map f).sum=f a+((ks.filter fun k=>decide (k≠a)).map f).sum
 | [],_,h=>by cases h
 | k::r,hn,h=>by
  have hr:=(List.nodup_cons.1 hn)
  by_cases e:k=a
  ·subst e
   have hf:r.filter (fun x=>decide (x≠k))=r:=List.filter_eq_self.2 (fun x hx=>decide_eq_true (fun e=>hr.1 (by rw [←e];exact hx)))
   rw [List.filter_cons_of_neg (by simp),hf,List.map_cons,List.sum_cons]
  ·rw [List.filter_cons_of_pos (by simpa using e),List.map_cons,List.sum_cons,List.map_cons,List.sum_cons,sum_rem f a r hr.2 (by
    rcases List.mem_cons.1 h with h | h
    ·exact absurd h.symm e
    ·exact h)]
   omega
def recW (F:KV) (k:ByteArray):Nat:=k.size+((F k).getD ⟨#[]⟩).size+24
theorem sumR_cons (p:ByteArray×ByteArray) (t:List (ByteArray×ByteArray)):sumR (p::t)=p.1.size+p.2.size+24+sumR t:=by
 unfold sumR
 rw [List.map_cons,List.sum_cons]
theorem sum_recs (F:KV):∀(l:List (ByteArray×ByteArray)) (ks:List ByteArray),ks.Nodup→(∀k∈ks,∃v,F k=some v∧(k,v)∈l)→(ks.map (recW F)).sum≤sumR l
 | [],ks,_,h=>by
  cases ks with
  | nil=>simp
  | cons k r=>
   obtain ⟨v,_,hm⟩:=h k (by simp)
   cases hm
 | p::t,ks,hn,h=>by
  rw [sumR_cons]
  by_cases hp:p.1∈ks∧F p.1=some p.2
  ·obtain ⟨h1,h2⟩:=hp
   rw [sum_rem (recW F) p.1 ks hn h1]
   have ih:=sum_recs F t (ks.filter fun k=>decide (k≠p.1)) (hn.filter _) (fun k hk=>by
    obtain ⟨h4,h3⟩:=List.mem_filter.1 hk
    have h3:=of_decide_eq_true h3
    obtain ⟨v,h5,h6⟩:=h k h4
    refine ⟨v,h5,?_⟩
    rcases List.mem_cons.1 h6 with h7 | h7
    ·exact absurd (congrArg Prod.fst h7) h3
    ·exact h7)
   have e:recW F p.1=p.1.size+p.2.size+24:=by unfold recW;rw [h2];rfl
   omega
  ·have ih:=sum_recs F t ks hn (fun k hk=>by
    obtain ⟨v,h5,h6⟩:=h k hk
    refine ⟨v,h5,?_⟩
    rcases List.mem_cons.1 h6 with h7 | h7
    ·subst h7
     exact absurd ⟨hk,h5⟩ hp
    ·exact h7)
   omega
theorem recOf_len (F:KV) (k:ByteArray) (h:recW F k < 1000000000):(recOf F k).data.toList.length≤recW F k:=by
 unfold recW at h⊢
 rw [←Lib.size_eq,recOf,recS_size]
 have h1:=recLen_fix (k.size+((F k).getD ⟨#[]⟩).size)
 have h2:=recLen_le (k.size+((F k).getD ⟨#[]⟩).size) (by omega)
 omega
theorem recsOf_len (F:KV):∀ks:List ByteArray,(ks.map (recW F)).sum < 1000000000→(recsOf F ks).length≤(ks.map (recW F)).sum
 | [],_=>by simp [recsOf]
 | k::r,h=>by
  rw [List.map_cons,List.sum_cons] at h⊢
  have h1:=recOf_len F k (by omega)
  have h2:=recsOf_len F r (by omega)
  have e:recsOf F (k::r)=(recOf F k).data.toList++recsOf F r:=by unfold recsOf;rw [List.flatMap_cons]
  rw [e,List.length_append]
  omega
def lbOf (th:TH):List (ByteArray×ByteArray):= [(kP,th.name),(kL,th.link),(kUn,th.un),(kGn,th.gn),(kUi,itoaS th.uid),(kGi,itoaS th.gid),(kSz,itoaS th.size),(kMt,timS th.ms th.mn),(kAt,timS th.ats th.atn),(kCt,timS th.cts th.ctn)]
theorem basic_cases {k:ByteArray} (h:basicB k=true):k=kP∨k=kL∨k=kSz∨k=kUi∨k=kGi∨k=kUn∨k=kGn∨k=kMt∨k=kAt∨k=kCt:=by
 unfold basicB at h
 have h:=of_decide_eq_true h
 simp only [List.mem_cons,List.not_mem_nil,or_false] at h
 have e:∀l:List UInt8,k.data.toList=l→k=⟨l.toArray⟩:=fun l hl=>ByteArray.ext (Array.ext' (by rw [hl]))
 rcases h with h | h | h | h | h | h | h | h | h | h
 ·exact .inl (e _ h)
 ·exact .inr (.inl (e _ h))
 ·exact .inr (.inr (.inl (e _ h)))
 ·exact .inr (.inr (.inr (.inl (e _ h))))
 ·exact .inr (.inr (.inr (.inr (.inl (e _ h)))))
 ·exact .inr (.inr (.inr (.inr (.inr (.inl (e _ h))))))
 ·exact .inr (.inr (.inr (.inr (.inr (.inr (.inl (e _ h)))))))
 ·exact .inr (.inr (.inr (.inr (.inr (.inr (.inr (.inl (e _ h))))))))
 ·exact .inr (.inr (.inr (.inr (.inr (.inr (.inr (.inr (.inl (e _ h)))))))))
 ·exact .inr (.inr (.inr (.inr (.inr (.inr (.inr (.inr (.inr (e _ h)))))))))
theorem ite_some {c:Prop} [Decidable c] {a v:ByteArray} (h:(if c then some a else none)=some v):v=a:=by
 split at h
 ·exact (Option.some.inj h).symm
 ·cases h
theorem ite_some' {c:Prop} [Decidable c] {a v:ByteArray} (h:(if c then none else some a)=some v):v=a:=by
 split at h
 ·cases h
 ·exact (Option.some.inj h).symm
theorem afF_mem {th:TH} {R:KV} {k v:ByteArray} (h:afF th R k=some v):(k,v)∈lbOf th:=by
 cases hb:basicB k with
 | false=>rw [afF_other th R k hb] at h;cases h
 | true=>
  rcases basic_cases hb with rfl | rfl | rfl | rfl | rfl | rfl | rfl | rfl | rfl | rfl
  ·rw [afF_kP] at h;rw [ite_some h];simp [lbOf]
  ·rw [afF_kL] at h;rw [ite_some h];simp [lbOf]
  ·rw [afF_kSz] at h;rw [ite_some h];simp [lbOf]
  ·rw [afF_kUi] at h;rw [ite_some h];simp [lbOf]
  ·rw [afF_kGi] at h;rw [ite_some h];simp [lbOf]
  ·rw [afF_kUn] at h;rw [ite_some h];simp [lbOf]
  ·rw [afF_kGn] at h;rw [ite_some h];simp [lbOf]
  ·rw [afF_kMt] at h
   split at h
   ·cases h
   ·rw [ite_some h];simp [lbOf]
  ·rw [afF_kAt] at h;rw [ite_some' h];simp [lbOf]
  ·rw [afF_kCt] at h;rw [ite_some' h];simp [lbOf]
theorem foldl_mem:∀(l:List (ByteArray×ByteArray)) (f:KV) {k v:ByteArray},l.foldl (fun f p=>KV.set f p.1 p.2) f k=some v→f k=some v∨(k,v)∈l
 | [],f,k,v,h=>.inl h
 | p::t,f,k,v,h=>by
  rw [List.foldl_cons] at h
  rcases foldl_mem t _ h with h1 | h1
  ·unfold KV.set at h1
   split at h1
   ·rename_i e
    refine .inr ?_
    have:=Option.some.inj h1
    rw [e,←this];simp
   ·exact .inl h1
  ·exact .inr (List.mem_cons_of_mem _ h1)
theorem kvOf_mem {l:List (ByteArray×ByteArray)} {k v:ByteArray} (h:kvOf l k=some v):(k,v)∈l:=by
 rcases foldl_mem l _ h with h | h
 ·cases h
 ·exact h
theorem mergeF_mem {th:TH} {l:List (ByteArray×ByteArray)} {k v:ByteArray} (h:mergeF (afF th (kvOf l)) (kvOf l) k=some v):(k,v)∈lbOf th∨(okKey k=true∧(k,v)∈l):=by
 unfold mergeF mergeL at h
 cases e:afF th (kvOf l) k with
 | some u=>
  rw [e] at h
  simp only [Option.some.injEq] at h
  subst h
  exact .inl (afF_mem e)
 | none=>
  rw [e] at h
  simp only [and_true] at h
  split at h
  ·rename_i ho
   exact .inr ⟨ho,kvOf_mem h⟩
  ·cases h
def NumT (l:List UInt8):Prop:=l≠ []∧(0:UInt8)∉l
theorem allDig_no0 {l:List UInt8} (h:AllDig l):(0:UInt8)∉l:=fun hm=>absurd (h 0 hm).1 (by decide)
theorem dec_numT (n:Nat):NumT (Lib.decDigits n):=⟨dec_ne n,allDig_no0 (allDig_dec n)⟩
theorem itoa_numT (x:Int):NumT (itoaS x).data.toList:=by
 have e:(itoaS x).data.toList=Lib.itoa x:=by simp
 rw [e]
 unfold Lib.itoa
 split
 ·refine ⟨by simp,fun hm=> ?_⟩
  rcases List.mem_cons.1 hm with h | h
  ·cases h
  ·exact (dec_numT _).2 h
 ·exact dec_numT _
theorem tim_numT (s:Int) (ns:Nat):NumT (timS s ns).data.toList:=by
 have e:(timS s ns).data.toList=paxTime s ns:=by simp [timS]
 have ht:∀n,(0:UInt8)∉trim0 (nine n):=fun n hm=>allDig_no0 (allDig_nine n) (trim0_sub _ _ hm)
 rw [e]
 unfold paxTime
 split
 ·have:=itoa_numT s
  simpa using this
 ·split
  ·refine ⟨by simp,fun hm=> ?_⟩
   simp only [List.cons_append,List.mem_cons,List.mem_append] at hm
   rcases hm with h | h | h | h
   ·cases h
   ·exact (dec_numT _).2 h
   ·cases h
   ·exact ht _ h
  ·refine ⟨by simp,fun hm=> ?_⟩
   simp only [List.mem_cons,List.mem_append] at hm
   rcases hm with h | h | h
   ·exact (dec_numT _).2 h
   ·cases h
   ·exact ht _ h
theorem numT_size {s:ByteArray} (h:NumT s.data.toList):0 < s.size:=by
 rw [Lib.size_eq]
 exact List.length_pos_iff.2 h.1
end Go.Proofs.YtkanmkcojlefbaaGreatDoor
