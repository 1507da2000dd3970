/-
  writePAXHeader: the records as a small file, then the header as a block · parsePAX: the records that a Writer has laid are read back · The parts of next: any header block, the padding ahead of it, no records.
-/
import Derived.Test.YtkanmkcojlefbaaGreatDoorJ19
import Derived.Lib.CleanLen
import Derived.Test.YtkanmkcojlefbaaGreatDoorJ06
import Derived.Test.YtkanmkcojlefbaaGreatDoorJ12
import Derived.Laws.IdiomRangeMap
set_option linter.unusedVariables false
namespace Go.Proofs.YtkanmkcojlefbaaGreatDoor
open Go.RowKit
set_option maxRecDepth 100000 in
set_option maxHeartbeats 8000000 in
theorem pax_none (B:Nat) (sn:Nat→Addr) (kb tw b rw pad mb nn:Nat) (nb:Int) (th:TH) (L bs:List UInt8) (size:Nat) (F:KV) (w:World) (h:WS B sn kb tw b rw pad nb th L bs w) (hM:MapS mb nn F w) (hF:∀s,F s=none) (hnb:nb≤0) (hlim:bs.length+pad+512≤140737488355328)
  (hm:th.mn < 1000000000) (hs1 : -4000000000000000000≤th.ms) (hs2:th.ms≤4000000000000000000) (hQ:TmQ (fun _ s=>s.size≤140737488355328) (fun _ _=>True) th) (hsz:th.size=size) (hszl:size≤9223372036854775807) (htf:th.tf≠103) :
  Calls Tryz.prog 68 #[.pointer (some ⟨tw,0,none⟩),.pointer (some ⟨tw,3,none⟩),.map (some mb)] w fun e w'=>e=.returned .nilIface∧
   (∃rw' b0,TmOk FitsA OctOut th b0∧WS B sn kb tw b rw' (padOf (dataLen th.tf size)) (dataLen th.tf size) th (sums (splice b0.bytes 257 (magicOf false))) (bs++List.replicate pad 0++sums (splice b0.bytes 257 (magicOf false))) w')∧FrW B [tw,b] w w':=by
 have e4:w.cell? ⟨tw,4,none⟩=some (.string th.name):=wb_cell h.wb 4 _ rfl
 have e3:w.cell? ⟨tw,3,none⟩=some (.int .u8 th.tf.toNat):=wb_cell h.wb 3 _ rfl
 have e6:w.cell? ⟨tw,6,none⟩=some (.int .i64 (size:Int)):=by rw [←hsz];exact wb_cell h.wb 6 _ rfl
 have hg:((th.tf.toNat:Int) == 103)=false:=by
  simp only [beq_eq_false_iff_ne,ne_eq]
  intro e
  exact htf (UInt8.toNat_inj.1 (by show _=103;omega))
 have HM:=Lib.hid hM;have HF:=Lib.hid hF
 have H:=Lib.hid h;have HQ:=Lib.hid hQ;have HZ:=Lib.hid hsz
 have htl:=h.tlt
 have hbl:=h.blt
 have hrl:=h.rlt
 have hsB:=h.size
 clear h hQ hsz hM hF htf
 go_enter Tryz.func68,Tryz.ntmps68
 go_wp2
 go_quiet (fail)
 have h0:=H.out.chg0 ((Chg.refl [] w).drewN nq)
 have hM0:=HM.out.chg ((Chg.refl [] w).drewN nq) (by simp)
 have hk0:FrW B [tw,b] w (w.drewN nq):=(FrW.ofChg ((Chg.refl [] w).drewN nq) hsB (by simp)).mono (by simp)
 have hz0:w.heap.size≤(w.drewN nq).heap.size:=Nat.le_refl _
 generalize w.drewN nq=w0 at h0 hM0 hk0 hz0⊢
 have e3:w0.cell? ⟨tw,3,none⟩=some (.int .u8 th.tf.toNat):=wb_cell h0.wb 3 _ rfl
 obtain ⟨m,hlen,_,_,hm0⟩:=hM0.len 3
 obtain rfl:=hm0 HF.out
 have H0:=Lib.hid h0;have HK0:=Lib.hid hk0
 clear h0 hk0 hM0 e4 e6
 go_wp2_with (first
  | (go_at_call 128;refine (template_px tw w0.heap.size B sn kb (by omega) H0.out.bt (by omega) .nilIface _ _ _ _ th L _ (H0.out.chg0 ((Chg.refl [] w0).alloc _)).wb H0.out.len (H0.out.chg0 ((Chg.refl [] w0).alloc _)).env (fat_new w0 .nilIface) hm hs1 hs2 HQ.out).mono ?_;rintro e w2 ⟨rfl,⟨b0,hb0,hwb2⟩,⟨v2,hf2⟩,hg2⟩;have h2:=(H0.out.chg0 ((Chg.refl [] w0).alloc (.cells #[.nilIface] 196))).put hg2 (WS.f2 (H0.out.chg0 ((Chg.refl [] w0).alloc _)) (fat_new w0 .nilIface) (by omega) (by omega) (by omega)) hwb2 hb0.ok.length;have H2:=Lib.hid h2;have HB0:=Lib.hid hb0;have HG2:=Lib.hid (((Chg.refl [tw,w0.heap.size] w0).alloc (.cells #[.nilIface] 196)).trans hg2);clear h2 hf2 hb0 hg2 hwb2)
  | (go_at_call 132;refine (seal_posix false true rfl tw 134 _ _ _ 23 _ H2.out.wb rfl H2.out.len (HB0.out.ok.zero_ck HB0.out.ck) (by exact H2.out.env.h15) (by have:=H2.out.env.b22;have:=H2.out.bt;omega)).mono ?_;rintro e w5 ⟨rfl,hb5,hg5⟩;have h5:=H2.out.put hg5 H2.out.f1 hb5 (sums_length _ (sealed_magic false _ H2.out.len));have H5:=Lib.hid h5;have HG5:=Lib.hid hg5;clear h5 hb5 hg5))
 have d:w5.cell? ⟨tw,3,none⟩=some (.int .u8 th.tf.toNat)∧w5.cell? ⟨tw,6,none⟩=some (.int .i64 (size:Int)):=⟨wb_cell H5.out.wb 3 _ rfl,by rw [←HZ.out];exact wb_cell H5.out.wb 6 _ rfl⟩
 have hsg:FrW B [tw,b] w0 w5:=by
  have kn:Chg [tw] w0 w5:=(HG2.out.trans (HG5.out.mono (by simp))).fresh (by simp)
  exact (FrW.ofChg kn (by omega) (by simp;exact H0.out.bt)).mono (by simp)
 have HSG:=Lib.hid hsg
 clear hsg
 go_region_held3 (fun w'=>w'.cell? ⟨tw,3,none⟩=some (.int .u8 th.tf.toNat)∧w'.cell? ⟨tw,6,none⟩=some (.int .i64 (size:Int))) (first | exact d | assumption) ((first | (go_at_call 133;refine (writeRaw_ws B sn kb tw b rw pad nb th _ bs size th.tf _ (by exact H5.out.chg0 (Chg.refl [] w5).drew) hnb hlim hszl).mono ?_;rintro e w6 ⟨rfl,⟨rw',hw6⟩,hf6⟩;have d':=And.intro (wb_cell hw6.wb 3 _ rfl) (show w6.cell? ⟨tw,6,none⟩=some (.int .i64 (size:Int)) by rw [←HZ.out];exact wb_cell hw6.wb 6 _ rfl);have H6:=Lib.hid hw6;have HF6:=Lib.hid hf6;clear hw6 hf6)))
 go_wp2
 go_ret
 exact ⟨rfl,⟨rw',b0,HB0.out,H6.out⟩,HK0.out.trans (HSG.out.trans (((FrW.ofChg (Chg.refl [] w5).drew H5.out.size (by simp)).mono (by simp)).trans HF6.out))⟩
def recOf (F:KV) (k:ByteArray):ByteArray:=recS (recLen (k.size+((F k).getD ⟨#[]⟩).size)) k ((F k).getD ⟨#[]⟩)
def recsOf (F:KV) (ks:List ByteArray):List UInt8:=ks.flatMap fun k=>(recOf F k).data.toList
theorem recsOf_take (F:KV) (ks:List ByteArray) (k:Nat) (h:k < ks.length):recsOf F (ks.take (k+1))=recsOf F (ks.take k)++(recOf F ks[k]).data.toList:=by
 unfold recsOf
 rw [List.take_succ_eq_append_getElem h,List.flatMap_append]
 simp
theorem recsOf_le (F:KV) (ks:List ByteArray) (k:Nat):(recsOf F (ks.take k)).length≤(recsOf F ks).length:=by
 conv=>rhs;rw [←List.take_append_drop k ks]
 unfold recsOf
 rw [List.flatMap_append,List.length_append]
 omega
theorem recsOf_pos (F:KV):∀(ks:List ByteArray),ks≠ []→1≤(recsOf F ks).length
 | [],h=>absurd rfl h
 | k::r,_=>by
  unfold recsOf
  rw [List.flatMap_cons,List.length_append]
  have h1:=Lib.size_eq (recOf F k)
  have h2:(recOf F k).size=_:=recS_size _ _ _
  omega
theorem join_cells (w:World) (dir fil:ByteArray):∀(j:Nat) (x:ByteArray),([dir,⟨#[80,97,120,72,101,97,100,101,114,115,46,48]⟩,fil]:List ByteArray)[j]? =some x→(w.alloc (.cells #[.string dir,.string ⟨#[80,97,120,72,101,97,100,101,114,115,46,48]⟩,.string fil] 9)).cell? ⟨w.heap.size,0+j,none⟩=some (.string x):=by
 intro j x h
 rw [cell_heap (heap_alloc_new w _),Nat.zero_add]
 match j,h with
 | 0,h=>simp at h;subst h;rfl
 | 1,h=>simp at h;subst h;rfl
 | 2,h=>simp at h;subst h;rfl
 | n+3,h=>simp at h
theorem byteCells_append (a b:List UInt8):Lib.byteCells (a++b)=Lib.byteCells a++Lib.byteCells b:=by simp [Lib.byteCells]
theorem bldF_chg {B b:Nat} {bs:List Value} {w w':World} (h:Lib.IsBuilderF 203 5 B b bs w) (k:Chg [] w w'):Lib.IsBuilderF 203 5 B b bs w':=by
 have hg:w.grownBy w' none:=⟨k.os,k.tape,k.output,k.size,fun i hi _=>k.block i hi (by simp)⟩
 rcases h with ⟨hB,v,hb,hown,hne⟩ | ⟨hB,v,hb,hown,hne⟩
 ·exact .inl ⟨hB,v,k.heap hb (by simp),hown.kept hg (by cases hv:v.ownBlock with | none=>exact .inl rfl | some _=>exact .inr (by simp)),hne⟩
 ·exact .inr ⟨hB,v,k.heap hb (by simp),hown.kept hg (by cases hv:v.ownBlock with | none=>exact .inl rfl | some _=>exact .inr (by simp)),hne⟩
theorem chg_of_below' {B:Nat} {a w w':World} (h:Chg [] a w) (k:Below B w w') (hB:a.heap.size≤B):Chg [] a w':=
 ⟨k.os.trans h.os,k.tape.trans h.tape,k.output.trans h.output,Nat.le_trans h.size k.size,fun i hi hn=>(k.block i (by omega)).trans (h.block i hi hn)⟩
def PaxR (w0:World) (F:KV) (ks:List ByteArray) (g:Nat) (cur:Array Value) (k:Nat) (w:World):Prop:=
 Chg [] w0 w∧w0.heap.size≤w.heap.size∧Lib.IsBuilderF 203 5 w0.heap.size w0.heap.size (Lib.byteCells (recsOf F (ks.take k))) w∧w.heap[g]? =some (.cells cur 9 (0,0))
set_option maxRecDepth 100000 in
set_option maxHeartbeats 8000000 in
theorem pax_recs (B : Nat) (sn : Nat → Addr) (kb tw b rw pad mb nn : Nat) (nb : Int) (th : TH) (L bs : List UInt8) (size : Nat) (F : KV) (w : World) (h : WS B sn kb tw b rw pad nb th L bs w) (hM : MapS mb nn F w) (hnn : nn ≤ 1099511627776) (hne : ∃ s v, s.size ≤ maxLen ∧ F s = some v) (hnb : nb ≤ 0)
    (hR : ∀ k v, F k = some v → RecOk k v) (hT : ∀ ks : List ByteArray, ks.Nodup → (∀ k ∈ ks, (F k).isSome = true) → (recsOf F ks).length ≤ 1048576) (hlim : bs.length + pad + 1050112 ≤ 140737488355328) (hname : th.name.size ≤ 70368744177664)
    (hm : th.mn < 1000000000) (hs1 : -4000000000000000000 ≤ th.ms) (hs2 : th.ms ≤ 4000000000000000000) (hQ : TmQ (fun _ s => s.size ≤ 140737488355328) (fun _ _ => True) th) (hsz : th.size = size) (hszl : size ≤ 9223372036854775807) (htf : th.tf ≠ 103) :
    Calls Tryz.prog 68 #[.pointer (some ⟨tw, 0, none⟩), .pointer (some ⟨tw, 3, none⟩), .map (some mb)] w fun e w' => e = .returned .nilIface ∧
      (∃ rw' ks, ∃ data : ByteArray, ∃ b1 b0, ks.Nodup ∧ ks ≠ [] ∧ (∀ k : ByteArray, k ∈ ks ↔ k.size ≤ maxLen ∧ (F k).isSome = true) ∧ data.data.toList = recsOf F ks ∧ RawBlk 120 data.size b1 ∧ TmOk FitsA OctOut th b0 ∧
        WS B sn kb tw b rw' (padOf (dataLen th.tf size)) (dataLen th.tf size) th (sums (splice b0.bytes 257 (magicOf false)))
          (bs ++ List.replicate pad 0 ++ sums (splice b1.bytes 257 (magicOf false)) ++ data.data.toList ++ List.replicate (padOf data.size) 0 ++ sums (splice b0.bytes 257 (magicOf false))) w') ∧ FrW B [tw, b] w w' := by
  have e4 : w.cell? ⟨tw, 4, none⟩ = some (.string th.name) := wb_cell h.wb 4 _ rfl
  have e3 : w.cell? ⟨tw, 3, none⟩ = some (.int .u8 th.tf.toNat) := wb_cell h.wb 3 _ rfl
  have e6 : w.cell? ⟨tw, 6, none⟩ = some (.int .i64 (size : Int)) := by rw [← hsz]; exact wb_cell h.wb 6 _ rfl
  have hg : ((th.tf.toNat : Int) == 103) = false := by
    simp only [beq_eq_false_iff_ne, ne_eq]
    intro e
    exact htf (UInt8.toNat_inj.1 (by show _ = 103; omega))
  have HM := Lib.hid hM; have HR := Lib.hid hR; have HTT := Lib.hid hT; have HNE := Lib.hid hne
  have H := Lib.hid h; have HQ := Lib.hid hQ; have HZ := Lib.hid hsz
  have htl := h.tlt
  have hbl := h.blt
  have hrl := h.rlt
  have hsB := h.size
  clear h hQ hsz hM hR hT htf hne
  go_enter Tryz.func68, Tryz.ntmps68
  go_wp2
  go_quiet (fail)
  have h0 := H.out.chg0 ((Chg.refl [] w).drewN nq)
  have hM0 := HM.out.chg ((Chg.refl [] w).drewN nq) (by simp)
  have hk0 : FrW B [tw, b] w (w.drewN nq) := (FrW.ofChg ((Chg.refl [] w).drewN nq) hsB (by simp)).mono (by simp)
  have hz0 : w.heap.size ≤ (w.drewN nq).heap.size := Nat.le_refl _
  generalize w.drewN nq = w0 at h0 hM0 hk0 hz0 ⊢
  have e3 : w0.cell? ⟨tw, 3, none⟩ = some (.int .u8 th.tf.toNat) := wb_cell h0.wb 3 _ rfl
  obtain ⟨m, hlen, _, hm1, _⟩ := hM0.len 3
  have hmp : 0 < m := hm1 HNE.out
  have hM1 := hM0.chg ((Chg.refl [] w0).alloc (.cells #[.pointer none, .slice none 0 0] 203)) (by simp)
  have hB0 : Lib.IsBuilderF 203 5 w0.heap.size w0.heap.size [] (w0.alloc (.cells #[.pointer none, .slice none 0 0] 203)) := Lib.IsBuilderF.of (Lib.fresh_isBuilder 203 5 w0)
  have hmlt := hM0.lt
  have hka := keys_sorted mb nn F _ hM1 hnn
  rw [show (w0.alloc (.cells #[.pointer none, .slice none 0 0] 203)).heap.size = w0.heap.size + 1 from Array.size_push _] at hka
  have HKA := Lib.hid hka
  have H0 := Lib.hid h0; have HK0 := Lib.hid hk0; have HM0 := Lib.hid hM0; have HM1 := Lib.hid hM1; have HB0 := Lib.hid hB0
  clear h0 hk0 hM0 e4 e6 hm1 hM1 hB0 hka
  go_wp2_with (first
    | (go_at_call 135; refine (callsIn_wide.1 (Tryz.maps_Keys_135 (some mb) _)).mono ?_; rintro e w2 ⟨rfl, rfl⟩)
    | (go_at_call 134; refine HKA.out.mono ?_; rintro e w3 ⟨v, ks, rfl, hnd, hmem, hkl, hrow, hc3⟩
       have hks : ks ≠ [] := (by intro hk; obtain ⟨s, v, h1, h2⟩ := HNE.out; have := (hmem s).2 ⟨h1, by rw [h2]; rfl⟩; rw [hk] at this; cases this)
       obtain ⟨g, cap, cur, rfl, hgB, hg3, hkc, hcm, hcur⟩ := hrow.resolve_left (fun hh => hks hh.1)
       have hc03 : Chg [] w0 w3 := (((Chg.refl [] w0).alloc _).alloc _).trans hc3
       have hB3 := bldF_chg HB0.out (((Chg.refl [] _).alloc _).trans hc3)
       have hP3 : PaxR w0 F ks g cur 0 w3 := ⟨hc03, hc03.size, hB3, hg3⟩
       have HP3 := Lib.hid hP3; have HND := Lib.hid hnd; have HME := Lib.hid hmem; have HCU := Lib.hid hcur; have HKS := Lib.hid hks; have hgw : w0.heap.size < g := (by omega)
       clear hP3 hnd hmem hcur hks hrow hc3 hc03 hB3 hg3 hgB))
  have hcg : Chg [] w0 w3 := HP3.out.1
  have henv : Env B sn kb w0 := H0.out.env
  have HEN := Lib.hid henv; have HCG := Lib.hid hcg
  clear henv hcg
  go_loopw [6, 12, 13, 14, 49, 53] (fun s6 _ _ _ i _ wr => s6 = .nilIface ∧ ∃ k : Nat, k ≤ ks.length ∧ i = .int .i64 k ∧ PaxR w0 F ks g cur k wr) (fun _ _ _ _ i _ _ => ks.length - (intOf i).toNat)
  case atStart => exact ⟨rfl, 0, Nat.zero_le _, rfl, HP3.out⟩
  case round =>
    obtain ⟨rfl, k, hk, rfl, hP⟩ := hrel
    by_cases hlt : k < ks.length
    · have hlti : ((k : Int) < (ks.length : Int)) := by omega
      obtain ⟨hc, hsz, hB, hgc⟩ := hP
      have hcell : wr.cell? ⟨g, k, none⟩ = some (.string ks[k]) := by rw [cell_heap hgc]; exact HCU.out k hlt
      have hkin : ks[k] ∈ ks := List.getElem_mem hlt
      have hkm := (HME.out _).1 hkin
      have hlook := (HM0.out.chg hc (by simp)).look ks[k] hkm.1
      obtain ⟨vv, hvv⟩ := Option.isSome_iff_exists.1 hkm.2
      have hrok := HR.out _ _ hvv
      have htk := recsOf_take F ks k hlt
      have hle := recsOf_le F ks (k + 1)
      have htot := HTT.out ks HND.out (fun x hx => ((HME.out x).1 hx).2)
      have hrec : recOf F ks[k] = recS (recLen (ks[k].size + vv.size)) ks[k] vv := by unfold recOf; rw [hvv]; rfl
      have hrs : (recOf F ks[k]).size = (recOf F ks[k]).data.toList.length := Lib.size_eq _
      have hln : (Lib.byteCells (recsOf F (ks.take k))).length + (recOf F ks[k]).size ≤ 140737488355328 := by
        rw [Lib.byteCells_length, hrs]
        rw [htk, List.length_append] at hle
        omega
      rw [hvv] at hlook
      rw [hrec] at hln htk
      have hBt : w0.heap.size ≤ wr.heap.size := hsz
      have HLN := Lib.hid hln; have HTK := Lib.hid htk; have HRO := Lib.hid hrok; have HB := Lib.hid hB; have HC := Lib.hid hc; have HG := Lib.hid hgc
      clear hln htk hrok hB hc hgc hle htot hrec hrs hkin hkm hvv hsz
      generalize ks[k] = key at hcell hlook HLN HTK HRO
      simp only [Option.getD_some] at hlook
      go_wp2_with (first
        | (go_at_call 136; refine (fmtRec key vv _ HRO.out (HEN.out.chg0 HC.out)).mono ?_; rintro e w4 ⟨rfl, hc4⟩; have hB4 := bldF_chg HB.out hc4; have hsz4 : w0.heap.size ≤ w4.heap.size := Nat.le_trans hBt hc4.size; have HB4 := Lib.hid hB4; have HC4 := Lib.hid (HC.out.trans hc4); have HG4 := Lib.hid (hc4.heap HG.out (by simp)); clear hB4 hc4)
        | (go_at_call 137; refine (Tryz.Builder_WriteString_k w0.heap.size w0.heap.size _ _ _ HB4.out HLN.out hsz4).mono ?_; rintro e w5 ⟨rfl, hB5, hb5, hk5⟩; have hP5 : PaxR w0 F ks g cur (k + 1) w5 := ⟨chg_of_below' HC4.out hb5 (Nat.le_refl _), Nat.le_trans hsz4 hb5.size, (by rw [HTK.out, byteCells_append]; exact .inr hB5), hk5 _ _ HG4.out (by simp; omega) (by intro c fz e; injection e with e1 e2; exact absurd e2 (by decide))⟩; have HP5 := Lib.hid hP5; clear hB5 hb5 hk5 hP5))
      go_roundw
      case rel => exact ⟨rfl, k + 1, by omega, by go_num, HP5.out⟩
      case measure => simp [intOf]; omega
    · obtain rfl : k = ks.length := by omega
      have hlti : ¬ (((ks.length : Nat) : Int) < (ks.length : Int)) := by omega
      have HP := Lib.hid hP
      clear hP
      obtain ⟨dir, hdir⟩ : ∃ d : ByteArray, d = ⟨(Lib.Pa.split th.name.data.toList).1.toArray⟩ := ⟨_, rfl⟩
      obtain ⟨fil, hfil⟩ : ∃ d : ByteArray, d = ⟨(Lib.Pa.split th.name.data.toList).2.toArray⟩ := ⟨_, rfl⟩
      have hdf : dir.size + fil.size = th.name.size := by
        rw [Lib.size_eq, Lib.size_eq, Lib.size_eq, hdir, hfil]
        simp [Lib.Pa.split]
        omega
      obtain ⟨data, hdata⟩ : ∃ d : ByteArray, d = ⟨(recsOf F ks).toArray⟩ := ⟨_, rfl⟩
      have hds : data.size = (recsOf F ks).length := by rw [Lib.size_eq, hdata]
      have hd2 : data.size ≤ 1048576 := by rw [hds]; exact HTT.out ks HND.out (fun x hx => ((HME.out x).1 hx).2)
      have hd1 : 1 ≤ data.size := by rw [hds]; exact recsOf_pos F ks HKS.out
      have HDA := Lib.hid hdata
      have HDI := Lib.hid hdir; have HFI := Lib.hid hfil
      clear hdir hfil hdata hds
      go_wp2_with (first
        | (go_at_call 138; refine (Tryz.path_Split th.name _ (by omega)).mono ?_; rw [← HDI.out, ← HFI.out]; rintro e w6 ⟨rfl, n6, rfl⟩; have hc6 : Chg [] wr (wr.drewN n6) := (Chg.refl [] wr).drewN n6; generalize wr.drewN n6 = w6 at hc6 ⊢; have HC6 := Lib.hid hc6; clear hc6)
        | (go_at_call 139; refine (Tryz.path_Join w6.heap.size 0 3 [dir, ⟨#[80, 97, 120, 72, 101, 97, 100, 101, 114, 115, 46, 48]⟩, fil] _ (join_cells w6 dir fil) (by rw [show ∀ o, (w6.alloc o).heap.size = w6.heap.size + 1 from fun o => Array.size_push _]; omega) (by simp [Lib.Pa.lens]; omega)).mono ?_; rintro e w7 ⟨rfl, hb7⟩
           have hnl := Lib.Pa.joinL_length_le ([dir, (⟨#[80, 97, 120, 72, 101, 97, 100, 101, 114, 115, 46, 48]⟩ : ByteArray), fil].map (·.data.toList))
           have hnl2 : (⟨(Lib.Pa.joinL ([dir, (⟨#[80, 97, 120, 72, 101, 97, 100, 101, 114, 115, 46, 48]⟩ : ByteArray), fil].map (·.data.toList))).toArray⟩ : ByteArray).size ≤ 140737488355328 := (by rw [Lib.size_eq]; refine Nat.le_trans hnl ?_; simp [Lib.Pa.lens]; omega)
           have hc7 : Chg [] wr w7 := HC6.out.trans (((Chg.refl [] w6).alloc _).trans (chg_of_below hb7))
           have hB7 := bldF_chg HP.out.2.2.1 hc7
           have hC7 := HP.out.1.trans hc7
           rw [List.take_length] at hB7
           have HB7 := Lib.hid hB7; have HC7 := Lib.hid hC7
           have hz7 : w0.heap.size ≤ w7.heap.size := hC7.size
           clear hnl hb7 hB7 hC7 hc7
           generalize (⟨(Lib.Pa.joinL ([dir, (⟨#[80, 97, 120, 72, 101, 97, 100, 101, 114, 115, 46, 48]⟩ : ByteArray), fil].map (·.data.toList))).toArray⟩ : ByteArray) = nm at hnl2 ⊢)
        | (go_at_call 140; refine (Tryz.Builder_String_any_k w0.heap.size w0.heap.size (recsOf F ks) _ HB7.out hz7).mono ?_; rw [← HDA.out]; rintro e w8 ⟨rfl, _, hb8, _⟩; have h8 := H0.out.chg0 (chg_of_below' HC7.out hb8 (Nat.le_refl _)); have H8 := Lib.hid h8; have HC8 := Lib.hid (chg_of_below' HC7.out hb8 (Nat.le_refl _)); clear hb8 h8)
        | (go_at_call 141; refine (rawFile_ws B sn kb tw b rw pad nb th L bs nm data 120 false _ H8.out hnb (by omega) hnl2 hd1 (by omega) rfl).mono ?_; rintro e w9 ⟨rfl, ⟨rw1, b1, hb1, h9⟩, hf9⟩; have H9 := Lib.hid h9; have HB1 := Lib.hid hb1; have HF9 := Lib.hid ((FrW.ofChg HC8.out H0.out.size (by simp)).mono (S' := [tw, b]) (by simp) |>.trans hf9); have hz9 : w0.heap.size ≤ w9.heap.size := Nat.le_trans HC8.out.size hf9.below.size; have hs9 := h9.size; have ht9 := h9.tlt; have hb9 := h9.blt; have hr9 := h9.rlt; clear h9 hb1 hf9)
        | (go_at_call 128; refine (template_px tw w9.heap.size B sn kb (by omega) H9.out.bt (by omega) .nilIface _ _ _ _ th _ _ (H9.out.chg0 ((Chg.refl [] w9).alloc _)).wb H9.out.len (H9.out.chg0 ((Chg.refl [] w9).alloc _)).env (fat_new w9 .nilIface) hm hs1 hs2 HQ.out).mono ?_; rintro e w2 ⟨rfl, ⟨b0, hb0, hwb2⟩, ⟨v2, hf2⟩, hg2⟩; have h2 := (H9.out.chg0 ((Chg.refl [] w9).alloc (.cells #[.nilIface] 196))).put hg2 (WS.f2 (H9.out.chg0 ((Chg.refl [] w9).alloc _)) (fat_new w9 .nilIface) (by omega) (by omega) (by omega)) hwb2 hb0.ok.length; have H2 := Lib.hid h2; have HB0' := Lib.hid hb0; have HG2 := Lib.hid (((Chg.refl [tw, w9.heap.size] w9).alloc (.cells #[.nilIface] 196)).trans hg2); clear h2 hf2 hb0 hg2 hwb2)
        | (go_at_call 132; refine (seal_posix false true rfl tw 134 _ _ _ 23 _ H2.out.wb rfl H2.out.len (HB0'.out.ok.zero_ck HB0'.out.ck) (by exact H2.out.env.h15) (by have := H2.out.env.b22; have := H2.out.bt; omega)).mono ?_; rintro e w5 ⟨rfl, hb5, hg5⟩; have h5 := H2.out.put hg5 H2.out.f1 hb5 (sums_length _ (sealed_magic false _ H2.out.len)); have H5 := Lib.hid h5; have HG5 := Lib.hid hg5; clear h5 hb5 hg5))
      have d : w5.cell? ⟨tw, 3, none⟩ = some (.int .u8 th.tf.toNat) ∧ w5.cell? ⟨tw, 6, none⟩ = some (.int .i64 (size : Int)) := ⟨wb_cell H5.out.wb 3 _ rfl, by rw [← HZ.out]; exact wb_cell H5.out.wb 6 _ rfl⟩
      have hsg : FrW B [tw, b] w9 w5 := by
        have kn : Chg [tw] w9 w5 := (HG2.out.trans (HG5.out.mono (by simp))).fresh (by simp)
        exact (FrW.ofChg kn (by omega) (by simp; exact H9.out.bt)).mono (by simp)
      have HSG := Lib.hid hsg
      have hbl9 : (bs ++ List.replicate pad 0 ++ sums (splice b1.bytes 257 (magicOf false)) ++ data.data.toList).length + padOf data.size + 512 ≤ 140737488355328 := by
        have h1 := sums_length _ (sealed_magic false _ HB1.out.ok.length)
        have h2 : padOf data.size ≤ 511 := by unfold padOf; omega
        have h3 : data.data.toList.length = data.size := (Lib.size_eq _).symm
        simp only [List.length_append, List.length_replicate, h1, h3]
        omega
      clear hsg
      go_region_held3 (fun w' => w'.cell? ⟨tw, 3, none⟩ = some (.int .u8 th.tf.toNat) ∧ w'.cell? ⟨tw, 6, none⟩ = some (.int .i64 (size : Int))) (first | exact d | assumption) ((first | (go_at_call 133; refine (writeRaw_ws B sn kb tw b rw1 (padOf data.size) 0 th _ (bs ++ List.replicate pad 0 ++ sums (splice b1.bytes 257 (magicOf false)) ++ data.data.toList) size th.tf _ (by exact H5.out.chg0 (Chg.refl [] w5).drew) (by decide) hbl9 hszl).mono ?_; rintro e w6 ⟨rfl, ⟨rw', hw6⟩, hf6⟩; have d' := And.intro (wb_cell hw6.wb 3 _ rfl) (show w6.cell? ⟨tw, 6, none⟩ = some (.int .i64 (size : Int)) by rw [← HZ.out]; exact wb_cell hw6.wb 6 _ rfl); have H6 := Lib.hid hw6; have HF6 := Lib.hid hf6; clear hw6 hf6)))
      go_wp2
      go_ret
      have h6 := H6.out
      have hbe : bs ++ List.replicate pad 0 ++ sums (splice b1.bytes 257 (magicOf false)) ++ data.data.toList ++ List.replicate (padOf data.size) 0 ++ sums (splice b0.bytes 257 (magicOf false)) = bs ++ List.replicate pad 0 ++ sums (splice b1.bytes 257 (magicOf false)) ++ data.data.toList ++ List.replicate (padOf data.size) 0 ++ sums (splice b0.bytes 257 (magicOf false)) := rfl
      exact ⟨rfl, ⟨rw', ks, data, b1, b0, HND.out, HKS.out, HME.out, by rw [HDA.out], HB1.out, HB0'.out, h6⟩, HK0.out.trans (HF9.out.trans (HSG.out.trans (((FrW.ofChg (Chg.refl [] w5).drew H5.out.size (by simp)).mono (by simp)).trans HF6.out)))⟩
end Go.Proofs.YtkanmkcojlefbaaGreatDoor
namespace Go.Proofs.YtkanmkcojlefbaaGreatDoor
open Go.RowKit
noncomputable def restr (F:KV) (ks:List ByteArray):KV:=fun k=>@ite _ (k∈ks) (Classical.propDecidable _) (F k) none
theorem restr_nil (F:KV):restr F []=fun _=>none:=by funext k;unfold restr;rw [if_neg (by simp)]
theorem restr_snoc (F:KV) (ks:List ByteArray) (j:Nat) (hj:j < ks.length) (v:ByteArray) (hv:F ks[j]=some v):KV.set (restr F (ks.take j)) ks[j] v=restr F (ks.take (j+1)):=by
 have hm:∀x,x∈ks.take (j+1)↔x∈ks.take j∨x=ks[j]:=by
  intro x
  rw [List.take_succ_eq_append_getElem hj]
  simp only [List.mem_append,List.mem_singleton]
 funext x
 unfold KV.set restr
 by_cases h1:x=ks[j]
 ·rw [if_pos h1,if_pos ((hm x).2 (.inr h1)),h1,hv]
 ·rw [if_neg h1]
  by_cases h2:x∈ks.take j
  ·rw [if_pos h2,if_pos ((hm x).2 (.inl h2))]
  ·rw [if_neg h2,if_neg (fun h=>((hm x).1 h).elim h2 h1)]
abbrev kOff:ByteArray:=⟨#[71,78,85,46,115,112,97,114,115,101,46,111,102,102,115,101,116]⟩
abbrev kNum:ByteArray:=⟨#[71,78,85,46,115,112,97,114,115,101,46,110,117,109,98,121,116,101,115]⟩
theorem recsOf_cons (F:KV) (ks:List ByteArray) (j:Nat) (h:j < ks.length):recsOf F (ks.drop j)=(recOf F ks[j]).data.toList++recsOf F (ks.drop (j+1)):=by
 rw [List.drop_eq_getElem_cons h]
 unfold recsOf
 rw [List.flatMap_cons]
theorem recOf_pos (F:KV) (k:ByteArray):0 < (recOf F k).data.toList.length:=by
 have:=recsOf_pos F [k] (by simp)
 unfold recsOf at this
 simp only [List.flatMap_cons,List.flatMap_nil,List.append_nil] at this
 omega
set_option maxRecDepth 100000 in
set_option maxHeartbeats 2000000 in
theorem parsePAX_ok (tr rr br dr:Nat) (D:List UInt8) (i nb:Nat) (eof:Addr) (F:KV) (ks:List ByteArray) (w:World) (h:RdrAt br dr D i w) (hr:RegAt rr br nb w) (T2:w.cell? ⟨tr,2,none⟩=some (.iface 146 (.pointer (some ⟨rr,0,none⟩)))) (T5:w.cell? ⟨tr,515,none⟩=some .nilIface) (hi:i+nb≤D.length)
  (hrb:rr≠br) (hrd:rr≠dr) (hnb:0 < nb) (hN:nb≤1048576) (he:Sent w 0 eof) (h0:0≠br∧0≠rr) (htx:tr≠br∧tr≠rr)
  (hdata:(D.drop i).take nb=recsOf F ks) (hok:∀k∈ks,∃v,F k=some v∧RecOk k v∧k≠kOff∧k≠kNum) :
  Calls Tryz.prog 150 #[.iface 82 (.pointer (some ⟨tr,0,none⟩))] w fun e w'=>(∃mb,e=.returned (.tuple #[.map (some mb),.nilIface])∧w.heap.size≤mb∧MapS mb ks.length (restr F ks) w')∧
   RdrAt br dr D (i+nb) w'∧RegAt rr br 0 w'∧Chg [br,rr] w w':=by
 have hbl:br < w.heap.size∧dr < w.heap.size∧rr < w.heap.size:=by
  refine ⟨?_,?_,(Array.getElem?_eq_some_iff.1 hr).1⟩
  ·obtain ⟨_,_,_,_,_,_,hb,_⟩:=h;exact (Array.getElem?_eq_some_iff.1 hb).1
  ·obtain ⟨_,_,_,_,_,_,_,_,_,hb,_⟩:=h;exact (Array.getElem?_eq_some_iff.1 hb).1
 have hsp:=special_ok tr rr br dr D i nb eof w h hr T2 T5 hi hrb hrd hnb hN he h0 htx
 have hlen:(recsOf F ks).length=nb:=by rw [←hdata,List.length_take,List.length_drop];omega
 rw [hdata] at hsp
 have hkl:∀ks:List ByteArray,ks.length≤(recsOf F ks).length:=by
  intro ks
  induction ks with
  | nil=>simp
  | cons k r ih=>
   have:=recOf_pos F k
   unfold recsOf at ih⊢
   rw [List.flatMap_cons,List.length_append,List.length_cons]
   omega
 have hks:=hkl ks
 rw [hlen] at hks
 have hmk:=@run_makeMap Tryz.prog
 have hq:¬((nb:Int) < 0):=by omega
 have HSP:=Lib.hid hsp;have HLEN:=Lib.hid hlen;have HOK:=Lib.hid hok
 clear hsp hlen hok h hr T2 T5 he hdata hkl
 go_enter Tryz.func150,Tryz.ntmps150
 go_upto_region 5 with (go_at_call 152;refine HSP.out.mono ?_;rintro e w1 ⟨⟨a,c,rfl,ho⟩,g1,g2,g3⟩;have hcv:=ho.conv;have H1:=Lib.hid g1;have H2:=Lib.hid g2;have H3:=Lib.hid g3;clear ho g1 g2 g3)
 go_wp2
 have hM:=MapS.made w1
 have hc0:Chg [] w1 (w1.alloc (.map #[] 0)):=(Chg.refl _ w1).alloc _
 have hmb:w.heap.size≤w1.heap.size:=H3.out.size
 generalize w1.heap.size=mb at hM hmb⊢
 generalize w1.alloc (.map #[] 0)=w2 at hM hc0⊢
 have HM:=Lib.hid hM;have HC:=Lib.hid hc0
 clear hM hc0 hcv
 go_loopw [6,7] (fun s6 s7 wr=>s7=.slice none 0 0∧∃j,∃sb:ByteArray,j≤ks.length∧s6=.string sb∧sb.data.toList=recsOf F (ks.drop j)∧MapS mb j (restr F (ks.take j)) wr∧Chg [mb] w1 wr) (fun s6 _ _=>match s6 with | .string s=>s.size | _=>0)
 case atStart=>exact ⟨rfl,0,_,Nat.zero_le _,rfl,by simp,by rw [List.take_zero,restr_nil];exact HM.out,HC.out.mono (by simp)⟩
 case round=>
  obtain ⟨rfl,j,sb,hj,rfl,hsb,hM,hC⟩:=hrel
  have HM':=Lib.hid hM;have HC':=Lib.hid hC
  clear hM hC
  by_cases hlt:j < ks.length
  ·rw [recsOf_cons F ks j hlt] at hsb
   have hp:=recOf_pos F ks[j]
   have hss:sb.size=(recOf F ks[j]).data.toList.length+(recsOf F (ks.drop (j+1))).length:=by rw [Lib.size_eq,hsb,List.length_append]
   have hsn:sb.size≤nb:=by
    rw [Lib.size_eq,hsb,←recsOf_cons F ks j hlt,←HLEN.out]
    conv=>rhs;rw [←List.take_append_drop j ks]
    unfold recsOf
    rw [List.flatMap_append,List.length_append]
    omega
   obtain ⟨v,hv,hro,hk1,hk2⟩:=HOK.out _ (List.getElem_mem hlt)
   have hrec:recOf F ks[j]=recS (recLen (ks[j].size+v.size)) ks[j] v:=by unfold recOf;rw [hv];rfl
   have hsnoc:=restr_snoc F ks j hlt v hv
   have g1:(ks[j].toList == [71,78,85,46,115,112,97,114,115,101,46,111,102,102,115,101,116])=false:=toList_ne hk1
   have g2:(ks[j].toList == [71,78,85,46,115,112,97,114,115,101,46,110,117,109,98,121,116,101,115])=false:=toList_ne hk2
   have hpr:=fun w'=>parseRec ks[j] v sb ⟨(recsOf F (ks.drop (j+1))).toArray⟩ w' hro (by omega) (by rw [hsb,hrec])
   have hsp:(0:Int) < sb.size:=by omega
   have hrl:(⟨(recsOf F (ks.drop (j+1))).toArray⟩:ByteArray).size < sb.size:=by
    show (recsOf F (ks.drop (j+1))).toArray.size < _
    rw [List.size_toArray];omega
   have hks1:ks[j].size≤maxLen:=Nat.le_trans hro.ksz (by decide)
   have hvs1:v.size≤maxLen:=Nat.le_trans hro.vsz (by decide)
   have HPR:=Lib.hid hpr;have HSN:=Lib.hid hsnoc;have HRL:=Lib.hid hrl;have HK1:=Lib.hid hks1;have HV1:=Lib.hid hvs1
   clear hpr hsnoc hrl hks1 hvs1 hro hk1 hk2 hrec hv hss hsb hp
   generalize ks[j]=key at HPR HSN g1 g2 HK1
   have HRD:Hid ((⟨(recsOf F (ks.drop (j+1))).toArray⟩:ByteArray).data.toList=recsOf F (ks.drop (j+1))):=by apply Lib.hid;simp
   generalize (⟨(recsOf F (ks.drop (j+1))).toArray⟩:ByteArray)=rest at HPR HRL HRD
   go_wp2_with (go_at_call 206;refine (HPR.out _).mono ?_;rintro e w4 ⟨rfl,hc4⟩;obtain ⟨w5,hst,hM5,hc5⟩:=(HM'.out.chg hc4 (by simp)).store (by unfold maxLen;omega) key v HK1.out HV1.out;have HM5:=Lib.hid hM5;have HC5:=Lib.hid ((HC'.out.trans (hc4.mono (by simp))).trans hc5);clear hM5 hc5 hc4)
   refine ⟨⟨rfl,j+1,rest,by omega,rfl,HRD.out,by rw [←HSN.out];exact HM5.out,HC5.out⟩,?_⟩
   exact HRL.out
  ·obtain rfl:j=ks.length:=by omega
   have hz:sb.size=0:=by rw [Lib.size_eq,hsb,List.drop_length];rfl
   have hz':¬((0:Int) < sb.size):=by omega
   have hM:=HM'.out
   rw [List.take_length] at hM
   have HM2:=Lib.hid hM
   clear hM hsb
   go_wp2
   go_ret2
   refine ⟨⟨mb,rfl,hmb,HM2.out⟩,H1.out.chg' HC'.out (by simp;omega) (by simp;omega),H2.out.chg HC'.out (by simp;omega),H3.out.transFresh HC'.out (by simp;omega)⟩
end Go.Proofs.YtkanmkcojlefbaaGreatDoor
namespace Go.Proofs.YtkanmkcojlefbaaGreatDoor
open Go.RowKit
def RdAny (h:HB) (th:TH):Prop:=
 (∃tf size mode uid gid ms dj dn,RdC false h tf size mode uid gid ms dj dn∧RdP h∧th=rdTH tf (joinP (strOf h.px) (strOf h.nm)) (strOf h.ln) size mode uid gid (strOf h.un) (strOf h.gn) ms (-62135596800) (-62135596800) dj dn 6)∨
 (∃tf size mode uid gid ms dj dn ats cts,RdC true h tf size mode uid gid ms dj dn∧RdG h ats cts∧th=rdTH tf (strOf h.nm) (strOf h.ln) size mode uid gid (strOf h.un) (strOf h.gn) ms ats cts dj dn 8)
theorem RdAny.len {h:HB} {th:TH} (H:RdAny h th):h.bytes.length=512:=by
 rcases H with ⟨_,_,_,_,_,_,_,_,H,_⟩ | ⟨_,_,_,_,_,_,_,_,_,_,H,_⟩<;>exact H.rb.ok.length
theorem RdAny.recs {h:HB} {th:TH} (H:RdAny h th):th.recs=.map none:=by
 rcases H with ⟨_,_,_,_,_,_,_,_,_,_,rfl⟩ | ⟨_,_,_,_,_,_,_,_,_,_,_,_,rfl⟩<;>rfl
theorem readHeader_any (tr br rr dr:Nat) (pad:Int) (cs:Array Value) (D:List UInt8) (i:Nat) (h:HB) (th:TH) (w:World) (hT:TarAt tr br rr pad cs w) (hr:RdrAt br dr D i w) (hD:(D.drop i).take 512=h.bytes) (H:RdAny h th) (htb:tr≠br) (htd:tr≠dr) :
  Calls Tryz.prog 148 #[.pointer (some ⟨tr,0,none⟩)] w fun e w'=>(∃hp,e=.returned (.tuple #[.pointer (some ⟨hp,0,none⟩),.pointer (some ⟨tr,3,none⟩),.nilIface])∧w.heap.size≤hp∧HdrB hp th w')∧
   RdrAt br dr D (i+512) w'∧(∃cs',TarAt tr br rr pad cs' w')∧Chg [br,tr] w w':=by
 rcases H with ⟨tf,size,mode,uid,gid,ms,dj,dn,H,HX,rfl⟩ | ⟨tf,size,mode,uid,gid,ms,dj,dn,ats,cts,H,HX,rfl⟩
 ·exact readHeader_posix tr br rr dr pad cs D i h tf size mode uid gid ms dj dn HX w hT hr hD H htb htd
 ·exact readHeader_gnu tr br rr dr pad cs D i h tf size mode uid gid ms dj dn ats cts HX w hT hr hD H htb htd
theorem tryFull_pad (tr br rr dr p c:Nat) (pad:Int) (cs:Array Value) (D:List UInt8) (i:Nat) (eof:Addr) (w:World) (hT:TarAt tr br rr pad cs w) (h:RdrAt br dr D i w) (hi:i+p≤D.length) (hp:p≤512) (hc:c=512) (he:Sent w 0 eof) (htb:tr≠br) (htd:tr≠dr) (h0:0≠br∧0≠tr) :
  Calls Tryz.prog 147 #[.iface 84 (.pointer (some ⟨br,0,none⟩)),.slice (some ⟨tr,3,none⟩) p c] w fun e w'=>e=.returned (.tuple #[.int .i64 p,.nilIface])∧
   RdrAt br dr D (i+p) w'∧(∃cs',TarAt tr br rr pad cs' w')∧Chg [br,tr] w w':=by
 subst hc
 by_cases h1:p=0
 ·subst h1
  refine (tryFull_none _ _ 512 eof w he).mono ?_
  rintro e w' ⟨rfl,rfl⟩
  exact ⟨rfl,h,⟨cs,hT⟩,Chg.refl _ _⟩
 ·have hs:=hT.size
  refine (tryFull_ok br dr D i tr 3 p 512 cs 152 eof w h hi hT.heap htb htd (by omega) hp (by unfold maxLen;omega) (by omega) he h0.1 h0.2).mono ?_
  rintro e w' ⟨rfl,g1,g2,g3⟩
  exact ⟨rfl,g1,⟨_,hT.spliced ((D.drop i).take p) (by rw [List.length_take];omega) g2⟩,g3⟩
theorem own_by {base:Nat} {a:Option Addr} {n c:Nat} {l:List UInt8} {w:World} (h:OwnB base (.slice a n c) l w) (hn:0 < n) (hl:l.length=n):∃g,a=some ⟨g,0,none⟩∧ByAt g 0 l w∧n≤c∧c≤maxLen:=by
 obtain ⟨h1,⟨h2,h3⟩ | ⟨g,cap,cur,h2,hb,hg,hnc,hc,hs,ht⟩⟩:=h
 ·exfalso;omega
 ·injection h2 with e1 e2 e3
  subst e1;subst e3
  refine ⟨g,rfl,fun j hj=> ?_,by omega,hc⟩
  rw [Nat.zero_add,cell_heap hg]
  have e:cur.toList[j]? =(bvs l)[j]? :=by rw [←ht,List.getElem?_take,if_pos (by omega)]
  have e2:cur[j]? =cur.toList[j]? :=by simp
  rw [e2,e,bvs_get,List.getElem?_eq_getElem hj]
  rfl
set_option maxRecDepth 100000 in
set_option maxHeartbeats 800000 in
theorem parseString_0 (pf:Value) (t n cap:Nat) (s:ByteArray) (w:World) (h:ByAt t 0 (s.data.toList++ [0]) w) (hl:n=s.size+1) (hnc:n≤cap) (hcap:cap≤maxLen) (h0:(0:UInt8)∉s.data.toList) :
  Calls Tryz.prog 153 #[pf,.slice (some ⟨t,0,none⟩) n cap] w fun e w'=>e=.returned (.string s)∧w=w':=by
 have hll:(s.data.toList++ [0]).length=n:=by rw [hl,List.length_append,←Lib.size_eq];rfl
 have hz:Lib.indexByte (s.data.toList++ [0]) 0=(s.size:Int):=by
  have hge:=Lib.indexByte_ge (s.data.toList++ [0]) 0
  have hat:(s.data.toList++ [0])[s.size]? =some (0:UInt8):=by
   rw [List.getElem?_append_right (by rw [←Lib.size_eq];exact Nat.le_refl _),←Lib.size_eq,Nat.sub_self];rfl
  generalize hz:Lib.indexByte (s.data.toList++ [0]) 0=z at hge
  by_cases h1:0≤z
  ·obtain ⟨o,rfl⟩:=Int.eq_ofNat_of_zero_le h1
   obtain ⟨h2,h3⟩:=Lib.indexByte_some hz
   have h4:o≤s.size:=by
    rcases Nat.lt_or_ge s.size o with h5 | h5
    ·exact absurd hat (h3 _ h5)
    ·exact h5
   have h5:¬o < s.size:=by
    intro h5
    rw [List.getElem?_append_left (by rw [←Lib.size_eq];exact h5)] at h2
    exact h0 (List.mem_of_getElem? h2)
   have:o=s.size:=by omega
   rw [this]
  ·obtain rfl:z=-1:=by omega
   exact absurd hat (Lib.indexByte_none hz _)
 have hib:Calls Tryz.prog 212 #[.slice (some ⟨t,0,none⟩) n cap,.int .u8 0] w fun e w'=>e=.returned (.int .i64 (s.size:Int))∧w'=w:=by
  have:=Tryz.bytes_IndexByte_at ⟨t,0,none⟩ n cap ((s.data.toList++ [0]).map fun c:UInt8=>(c.toNat:Int)) 0 w (by rw [List.length_map];exact hll) (fun i hi=>by
   rw [add_addr,h i (by omega)]
   simp only [List.getD,List.getElem?_map,List.getElem?_eq_getElem (show i < (s.data.toList++ [0]).length by omega),Option.map_some,Option.getD_some])
  rw [numsOf,show (Int.toNat 0).toUInt8=(0:UInt8) from rfl,hz] at this
  exact this
 have hcv:=(h.take s.size).conv s.size cap (by rw [List.length_take,hll];omega)
 rw [List.take_left' (by rw [←Lib.size_eq])] at hcv
 have hss:(⟨s.data.toList.toArray⟩:ByteArray)=s:=by simp
 rw [hss] at hcv
 have hkn:s.size≤n:=by omega
 have hkc:s.size≤cap:=by omega
 unfold maxLen at hcap
 have HB:=Lib.hid hib
 clear hib hz h h0 hll hss
 have hge1:(0:Int)≤s.size:=by omega
 have hls:(s.size:Int)≤n:=by omega
 clear hl
 go_enter Tryz.func153,Tryz.ntmps153
 go_wp2_with (go_at_call 212;refine HB.out.mono ?_;rintro e w1 ⟨rfl,rfl⟩)
 go_ret
 exact ⟨rfl,rfl⟩
set_option maxRecDepth 100000 in
set_option maxHeartbeats 1000000 in
theorem merge_nil (hp:Nat) (a:TH) (w:World) (h:HdrB hp a w) :
  Calls Tryz.prog 151 #[.pointer (some ⟨hp,0,none⟩),.map none] w fun e w'=>e=.returned .nilIface∧HdrB hp { a with recs:=.map none } w'∧Chg [hp] w w':=by
 have c18:=h.c 18 _ rfl
 have f18:=h.f 18
 have H:=Lib.hid h
 clear h
 have hr0:=run_range_nilMap (P:=Tryz.prog) w 127 9 9 u127
 have hn0:=run_next_nilMap (P:=Tryz.prog) w 0 0 0 #[]
 have hcw:Chg [] w (w.alloc (.mapIter none 0 #[] 0)):=(Chg.refl _ w).alloc _
 have c18':=(H.out.chg hcw (by simp)).c 18 _ rfl
 have f18':=(H.out.chg hcw (by simp)).f 18
 have HC:=Lib.hid hcw
 clear hcw c18 f18
 go_enter Tryz.func151,Tryz.ntmps151
 go_wp2
 generalize w.alloc (.mapIter none 0 #[] 0)=w1 at*
 refine wp_loop_rounds 1 ?_
 rw [rounds_succ]
 go_wp2
 go_ret
 exact ⟨rfl,(H.out.chg HC.out (by simp)).set 18 (.map none) _ rfl,(HC.out.mono (by simp)).setCell (.inl (by simp)) _⟩
end Go.Proofs.YtkanmkcojlefbaaGreatDoor
