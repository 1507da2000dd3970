/-
  spec.Can (27): what its verdict Right says of a header.
-/
import Derived.Test.YtkanmkcojlefbaaGreatDoorJ41
import Derived.Deep.CutRange
set_option linter.unusedVariables false
namespace Go.Proofs.YtkanmkcojlefbaaGreatDoor
open Go.RowKit
theorem q31 (q:SH) {g:Nat} {w:World} (hb:w.heap[g]? =some (.cells q.cells 31 (0,0))) (i:Nat) (v:Value) (hv:q.cells[i]? =some v):w.cell? ⟨g,i,none⟩=some v:=by rw [cell_heap hb,hv]
theorem promTf_ne (h:SH):promTf h≠0:=by
 unfold promTf
 by_cases h0:h.tf=0
 ·rw [if_pos h0];split<;>decide
 ·rw [if_neg h0];exact h0
theorem promTf_back {h:SH} (h1:48≤(promTf h).toNat) (h2:(promTf h).toNat≤55):h.tf=0∨(48≤h.tf.toNat∧h.tf.toNat≤55):=by
 unfold promTf at h1 h2
 by_cases h0:h.tf=0
 ·exact .inl h0
 ·rw [if_neg h0] at h1 h2;exact .inr ⟨h1,h2⟩
structure CaS (g:Nat) (q:SH) (w0 w:World):Prop where
 hb:w.heap[g]? =some (.cells q.cells 31 (0,0))
 chg:Chg [] w0 w
theorem CaS.on {g:Nat} {q:SH} {w0 w w':World} (h:CaS g q w0 w) (k:Chg [] w w'):CaS g q w0 w':=⟨k.heap h.hb (by simp),h.chg.trans k⟩
theorem CaS.c {g:Nat} {q:SH} {w0 w:World} (h:CaS g q w0 w) (i:Nat) (v:Value) (hv:q.cells[i]? =some v):w.cell? ⟨g,i,none⟩=some v:=q31 q h.hb i v hv
structure Ca1 (h:SH):Prop where
 tf:h.tf=0∨(48≤h.tf.toNat∧h.tf.toNat≤55)
 nm:0 < h.name.size
 sl:slashB h.name=true→promTf h=53
theorem rc10a {f y:Int} {b1 n1:Bool} (h1:(f == 1)=b1) (h2:(y == 1)=n1) (k:b1=true):(n1=true→f=1∧y=1)∧(n1=false→f=1→y≠1):=by
 subst h1 h2
 exact ⟨fun e=>⟨by simpa using k,by simpa using e⟩,fun e _=>by simpa using e⟩
theorem rc10b {f y:Int} {b1:Bool} (h1:(f == 1)=b1) (k:¬b1=true):(false=true→f=1∧y=1)∧(false=false→f=1→y≠1):=by
 subst h1
 exact ⟨fun e=>(by cases e),fun _ e=>absurd (by rw [e];rfl) k⟩
theorem ck3 {p1 p2 p3:Addr} {v1 v2 v3:Value} {w0 w w':World} (k:Chg [] w w') (h:w.cell? p1=some v1∧w.cell? p2=some v2∧w.cell? p3=some v3∧Chg [] w0 w):w'.cell? p1=some v1∧w'.cell? p2=some v2∧w'.cell? p3=some v3∧Chg [] w0 w':=
 ⟨k.cell h.1 (by simp),k.cell h.2.1 (by simp),k.cell h.2.2.1 (by simp),h.2.2.2.trans k⟩
theorem ck4 {p1 p2 p3 p4:Addr} {v1 v2 v3 v4:Value} {w0 w w':World} (k:Chg [] w w') (h:w.cell? p1=some v1∧w.cell? p2=some v2∧w.cell? p3=some v3∧w.cell? p4=some v4∧Chg [] w0 w):w'.cell? p1=some v1∧w'.cell? p2=some v2∧w'.cell? p3=some v3∧w'.cell? p4=some v4∧Chg [] w0 w':=
 ⟨k.cell h.1 (by simp),k.cell h.2.1 (by simp),k.cell h.2.2.1 (by simp),k.cell h.2.2.2.1 (by simp),h.2.2.2.2.trans k⟩
theorem ck5 {p1 p2 p3 p4 p5:Addr} {v1 v2 v3 v4 v5:Value} {w0 w w':World} (k:Chg [] w w') (h:w.cell? p1=some v1∧w.cell? p2=some v2∧w.cell? p3=some v3∧w.cell? p4=some v4∧w.cell? p5=some v5∧Chg [] w0 w):w'.cell? p1=some v1∧w'.cell? p2=some v2∧w'.cell? p3=some v3∧w'.cell? p4=some v4∧w'.cell? p5=some v5∧Chg [] w0 w':=
 ⟨k.cell h.1 (by simp),k.cell h.2.1 (by simp),k.cell h.2.2.1 (by simp),k.cell h.2.2.2.1 (by simp),k.cell h.2.2.2.2.1 (by simp),h.2.2.2.2.2.trans k⟩
structure Ca2 (h:SH) (f:Int):Prop where
 a:Ca1 h
 tn:TextR h.name 256 f∧(f=1→h.name.size≤100∨∃i,SplitAt h.name i)
 tl:TextR h.link 100 f
 ou:OwnerR h.un f
 og:OwnerR h.gn f
structure Ca3 (h:SH) (f:Int):Prop where
 a:Ca2 h f
 md:SmallR h.mode f false
 ui:SmallR h.uid f true
 gi:SmallR h.gid f true
 dj:SmallR h.dj f false
 dn:SmallR h.dn f false
structure Ca4 (h:SH) (f:Int):Prop where
 a:Ca3 h f
 sz:0≤h.size→f=1→h.size < 8589934592
 mo:MomR h.ms h.mn f
theorem hasData_any (t:Nat) (w:World):Calls Tryz.prog 44 #[.int .u8 t] w fun e w'=>e=.returned (.bool (decide ((t:Int) < 49) || decide (54 < (t:Int))))∧w=w':=by
 go_enter Tryz.func44,Tryz.ntmps44
 go_wp2
 all_goals
  go_ret
  first
   | exact ⟨rfl,rfl⟩
   | (refine ⟨?_,rfl⟩;rw [decide_eq_true (by assumption)];rfl)
theorem Chg.ondrew {S:List Nat} {w w':World} (k:Chg S w w'):Chg S w.drew w':=⟨k.os,k.tape,k.output,k.size,k.block⟩
theorem ca1_of {h:SH} {t:Nat} {sb nE:Bool} (HT:(promTf h).toNat=t) (HSB:slashB h.name=sb) (HNE:h.name.toList.isEmpty=nE) (h1:48≤(t:Int)) (h2:(t:Int)≤55) (h3:¬nE=true) (h4:sb=true→(t:Int)=53):Ca1 h:=by
 subst HT HSB HNE
 refine ⟨promTf_back (by omega) (by omega),empty_of (by simpa using h3),fun e=>UInt8.toNat_inj.1 ?_⟩
 have:=h4 e
 show _=53
 omega
set_option maxRecDepth 100000 in
set_option maxHeartbeats 40000000 in
theorem can_any (h:SH) (l:List (ByteArray×ByteArray)) (f:Int) (w:World) (hf:f=1∨f=2∨f=3) (hl:h.name.size+h.link.size+h.un.size+h.gn.size+sumR l≤1099511627776) (hR:RecsIn h.ra h.rn h.rc l w):Calls Tryz.prog 27 #[h.agg,.int .i64 f] w fun e w'=>RetV e (CanR h l f)∧Chg [] w w':=by
 obtain ⟨P,hP⟩:∃P,P=CanR h l f:=⟨_,rfl⟩
 rw [←hP]
 have HP:=Lib.hid hP
 have hst:∀w',Chg [] w w'→Calls Tryz.prog 25 #[h.agg] w' fun e w''=>RetN e (PlainR h l)∧Chg [] w' w'':=fun w' k=>strange_any h l w' hl (hR.chg k)
 have hpr:∀w',Calls Tryz.prog 26 #[h.agg] w' fun e w''=>e=.returned h.prom.agg∧Chg [] w' w'':=fun w'=>promoted_any h w' (by omega)
 have hn1:h.name.size≤140737488355328:=by omega
 have hn2:h.link.size≤140737488355328:=by omega
 have hn3:h.un.size≤140737488355328:=by omega
 have hn4:h.gn.size≤140737488355328:=by omega
 have HST:=Lib.hid hst;have HPR:=Lib.hid hpr;have HF:=Lib.hid hf;have HL:=Lib.hid hl;have HR:=Lib.hid hR
 clear hP hst hpr hf hl hR
 obtain ⟨C,hC⟩:∃C,h.cells=C:=⟨_,rfl⟩
 have hs0:C.size=21:=by rw [←hC];rfl
 have e0:h.agg=.agg C:=by rw [←hC]
 rw [e0] at HST HPR⊢
 have HC:=Lib.hid hC
 clear hC e0
 go_enter Tryz.func27,Tryz.ntmps27
 go_upto_region 1 with (fail)
 have hk0:Chg [] w (w.alloc (.cells C 31)):=(Chg.refl _ w).alloc _
 have hb0:=heap_alloc_new w (.cells C 31)
 have hg:w.heap.size < (w.alloc (.cells C 31)).heap.size:=by simp
 generalize hgg:w.heap.size=g at*
 generalize w.alloc (.cells C 31)=w0 at*
 refine wp_region_lit ?_
 refine load31 (.tmp 2) g C rfl rfl rfl hb0 hs0 ?_
 have HK0:=Lib.hid hk0;have HB0:=Lib.hid hb0
 clear hk0 hb0
 go_upto_if 10 with (go_at_call 25;refine (HST.out _ HK0.out).mono ?_;rintro e w1 ⟨⟨b,rfl,hb⟩,hc1⟩;have HB:=Lib.hid hb;have HC1:=Lib.hid hc1;clear hb hc1)
 cases b
 case true=>
  go_wp2
  go_ret
  exact ⟨RetV.zero,HK0.out.trans HC1.out⟩
 have HPL:=Lib.hid (HB.out rfl)
 have hb1:=HC1.out.heap HB0.out (by simp)
 go_upto_region 4 with (fail)
 refine wp_region_lit ?_
 refine load31 (.tmp 2) g C rfl rfl rfl hb1 hs0 ?_
 go_wp2_with fail
 refine (HPR.out _).mono ?_
 rintro e w2 ⟨rfl,hc2⟩
 have hb2:=hc2.heap hb1 (by simp)
 rename_i aK
 refine aK _ _ ?_
 clear aK
 refine store31 (.tmp 2) (.tmp 12) g h.prom.cells C rfl rfl rfl rfl hb2 rfl hs0 (by simp [SH.cells,Value.oneCell']) ?_
 have hS3:CaS g h.prom w (w2.setRow g h.prom.cells):=⟨setRow_heap _ _ _ _ _ _ hb2,((HK0.out.trans HC1.out).trans hc2).setRow (.inr (by omega)) _⟩
 simp only
 generalize w2.setRow g h.prom.cells=w3 at*
 have HS3:=Lib.hid hS3
 clear hS3 hb2 hc2 hb1
 clear HC1 HST HPR HB0 HB HK0 hs0 HC
 have c0:w3.cell? ⟨g,0,none⟩=some (.int .u8 (promTf h).toNat):=HS3.out.c 0 _ rfl
 have c1:w3.cell? ⟨g,1,none⟩=some (.string h.name):=HS3.out.c 1 _ rfl
 have c2:w3.cell? ⟨g,2,none⟩=some (.string h.link):=HS3.out.c 2 _ rfl
 have hq0:((((promTf h).toNat:Nat):Int) != 0)=true:=by
  simp only [bne_iff_ne,ne_eq]
  intro e
  exact promTf_ne h (UInt8.toNat_inj.1 (by show _=0;omega))
 obtain ⟨t,ht⟩:∃t:Nat,(promTf h).toNat=t:=⟨_,rfl⟩
 simp only [ht] at c0 hq0
 have HT:=Lib.hid ht
 clear ht
 obtain ⟨sb,hsb⟩:∃b,slashB h.name=b:=⟨_,rfl⟩
 have HSB:=Lib.hid hsb
 clear hsb
 obtain ⟨nE,hnE⟩:∃b,h.name.toList.isEmpty=b:=⟨_,rfl⟩
 obtain ⟨lE,hlE⟩:∃b,h.link.toList.isEmpty=b:=⟨_,rfl⟩
 have HNE:=Lib.hid hnE
 go_upto_region 5 with (fail)
 simp only [Act.put]
 go_cut [60] from 252 to 252 (fun v w'=>∃b,v=.bool b∧(b=false→Ca1 h)∧w3=w')
 case first=>
  go_wp2_with (go_at_call 53;refine (slashed_any _ _ hn1).mono ?_;rw [HSB.out];rintro e w4 ⟨rfl,rfl⟩)
  all_goals
   go_meet
   case rel=>
    refine ⟨_,rfl,fun hb=> ?_,rfl⟩
    first
     | (cases hb;done)
     | exact ca1_of HT.out HSB.out HNE.out (by assumption) (by assumption) (by assumption) (by first | exact fun _=>(by assumption) | exact fun e=>absurd e (by assumption))
 case rest=>
  obtain ⟨b,rfl,hb,rfl⟩:=hcut
  have HB1:=Lib.hid hb
  have hx:∃v,(if b=true then 0 else 1:Int)=v:=⟨_,rfl⟩
  clear hb
  go_upto_if 60 with (fail)
  go_cut [5] from 252 to 252 (fun v w'=>∃x,v=.int .i64 x∧VR x (Ca1 h)∧w3=w')
  case first=>
   cases b
   ·go_wp2
    go_meet
    case rel=>exact ⟨1,rfl,⟨.inr (.inl rfl),fun _=>HB1.out (by trivial)⟩,rfl⟩
   ·go_wp2
    go_meet
    case rel=>exact ⟨0,rfl,⟨.inl rfl,fun e=>by cases e⟩,rfl⟩
  case rest=>
   obtain ⟨x1,rfl,hx1,rfl⟩:=hcut
   have HX1:=Lib.hid hx1
   clear hx1 HB1
   have c17:w3.cell? ⟨g,17,none⟩=some (.int .i64 h.dj):=HS3.out.c 17 _ rfl
   have c18:w3.cell? ⟨g,18,none⟩=some (.int .i64 h.dn):=HS3.out.c 18 _ rfl
   go_upto_region 7 with (fail)
   go_cut [78] from 252 to 252 (fun v w'=>∃b,v=.bool b∧w3=w')
   case first=>
    go_wp2
    all_goals
     go_meet
     case rel=>exact ⟨_,rfl,rfl⟩
   case rest=>
    obtain ⟨b2,rfl,rfl⟩:=hcut
    go_upto_if 78 with (fail)
    go_cut [5] from 252 to 252 (fun v w'=>∃x,v=.int .i64 x∧VR x (Ca1 h)∧w3=w')
    case first=>
     cases b2
     ·go_wp2
      go_meet
      case rel=>exact ⟨x1,rfl,HX1.out,rfl⟩
     ·go_wp2
      go_meet
      case rel=>exact ⟨0,rfl,⟨.inl rfl,fun e=>by cases e⟩,rfl⟩
    case rest=>
     obtain ⟨x2,rfl,hx2,rfl⟩:=hcut
     have hv2:=hx2.val
     have HX2:=Lib.hid hx2
     clear hx2 HX1 c17 c18 hv2
     obtain ⟨b1,hb1⟩:∃b,(f == 1)=b:=⟨_,rfl⟩
     have HF1:=Lib.hid hb1
     go_upto_region 10 with (go_at_call 54;refine (text_any _ _ _ _ hn1 (by decide) HF.out).mono ?_;rintro e w4 ⟨⟨y1,rfl,hy1⟩,rfl⟩;have HY1:=Lib.hid hy1;clear hy1;obtain ⟨n1,hn1b⟩:∃b,(y1 == 1)=b:=⟨_,rfl⟩;have HN1:=Lib.hid hn1b)
     go_cut [88] from 252 to 252 (fun v w'=>∃b,v=.bool b∧((b=true→f=1∧y1=1)∧(b=false→f=1→y1≠1))∧w3=w')
     case first=>
      go_wp2
      all_goals
       go_meet
       case rel=>
        first
         | exact ⟨_,rfl,rc10a HF1.out HN1.out (by assumption),rfl⟩
         | exact ⟨_,rfl,rc10b HF1.out (by assumption),rfl⟩
     case rest=>
      obtain ⟨b3,rfl,⟨hb3,hb4⟩,rfl⟩:=hcut
      have HB3:=Lib.hid hb3;have HB4:=Lib.hid hb4
      clear hb3 hb4
      have hlen:∃b,decide ((h.name.size:Int)≤100)=b:=⟨_,rfl⟩
      obtain ⟨le,hle⟩:=hlen
      have HLE:=Lib.hid hle
      go_upto_if 88 with (fail)
      go_cut [6] from 252 to 252 (fun v w'=>∃x,v=.int .i64 x∧VR x (TextR h.name 256 f∧(f=1→h.name.size≤100∨∃i,SplitAt h.name i))∧w3=w')
      case first=>
       cases b3
       ·go_wp2
        go_meet
        case rel=>exact ⟨y1,rfl,⟨HY1.out.1,fun e=>⟨HY1.out.2 e,fun e1=>absurd e (HB4.out (by trivial) e1)⟩⟩,rfl⟩
       ·go_wp2_with (first | (go_at_call 56;refine (sSplits_any _ _ hn1).mono ?_;rintro e w4 ⟨⟨z1,rfl,hz1⟩,rfl⟩;have HZ1:=Lib.hid hz1;clear hz1) | (go_at_call 55;refine (when_any _ _).mono ?_;rintro e w4 ⟨⟨z2,rfl,hz2⟩,rfl⟩;have HZ2:=Lib.hid hz2;clear hz2))
        all_goals
         go_meet
         case rel=>
          refine ⟨_,rfl,HZ2.out.mono fun e=>⟨HY1.out.2 (HB3.out (by trivial)).2,fun _=> ?_⟩,rfl⟩
          first
           | exact .inr (HZ1.out e)
           | exact .inl (by have a:=of_decide_eq_true (HLE.out.trans (by assumption));omega)
      case rest=>
       obtain ⟨y2,rfl,hy2,rfl⟩:=hcut
       have HY2:=Lib.hid hy2
       have hvy:=hy2.val
       have hvx:=HX2.out.val
       clear hy2 HY1 hn1b hle HN1 HB3 HB4 HLE
       have c7:w3.cell? ⟨g,7,none⟩=some (.string h.un):=HS3.out.c 7 _ rfl
       have c8:w3.cell? ⟨g,8,none⟩=some (.string h.gn):=HS3.out.c 8 _ rfl
       have hq:=Chg.refl [] w3
       have hS0:=And.intro c2 (And.intro c7 (And.intro c8 hq))
       clear c0 c1
       go_upto_region 12 with (fail)
       first | (go_region_held3 (fun w'=>w'.cell? ⟨g,2,none⟩=some (.string h.link)∧w'.cell? ⟨g,7,none⟩=some (.string h.un)∧w'.cell? ⟨g,8,none⟩=some (.string h.gn)∧Chg [] w3 w') (((repeat (first | assumption | refine ck3 (Chg.refl [] _).drew ?_ | refine ck3 ((Chg.refl [] _).alloc _) ?_));try exact ⟨c2,c7,c8,hq⟩)) ((first
        | (go_at_call 54;refine (text_any _ _ _ _ hn2 (by decide) HF.out).mono ?_;rintro e u1 ⟨⟨va,rfl,hva⟩,rfl⟩;have hva1:=hva.val;have HVA:=Lib.hid hva;clear hva)
        | (go_at_call 58;refine (owner_any _ _ _ (by assumption) HF.out).mono ?_;rintro e u1 ⟨⟨vb,rfl,hvb⟩,hu1⟩;have hvb1:=hvb.val;have HVB:=Lib.hid hvb;have hqq:=ck3 hu1 (by (repeat (first | assumption | refine ck3 (Chg.refl [] _).drew ?_ | refine ck3 ((Chg.refl [] _).alloc _) ?_));try exact ⟨c2,c7,c8,hq⟩);clear hvb hu1)
        | (go_at_call 57;refine (all_any _ 5 5 [_,_,_,_,_] _ rfl (by decide) (by decide) (by decide) (cells_new [_,_,_,_,_] _ _) (by intro x hx;simp only [List.mem_cons,List.not_mem_nil,or_false] at hx;rcases hx with rfl | rfl | rfl | rfl | rfl<;>assumption)).mono ?_;rintro e u1 ⟨⟨vz,rfl,hvz⟩,rfl⟩;have HVZ:=Lib.hid hvz;clear hvz)))) | fail
       rename_i hHeld
       have HS4:=Lib.hid (HS3.out.on hHeld.2.2.2)
       have H12:=Lib.hid (show VR vz (Ca2 h f) from HVZ.out.mono fun e=>⟨HX2.out.2 (e _ (by simp)),HY2.out.2 (e _ (by simp)),HVA.out.2 (e _ (by simp)),(‹Hid (VR _ (OwnerR h.un f))›).out.2 (e _ (by simp)),HVB.out.2 (e _ (by simp))⟩)
       have hvz:=H12.out.val
       clear hHeld hqq hvb1 hva1 HVB HVA HVZ HX2 HY2 hvy hvx
       try clear hqq
       try clear hvb1
       try clear HVB
       clear c2 c7 c8 hq hS0 HS3
       generalize u1.alloc _=w4 at*
       have c4:w4.cell? ⟨g,4,none⟩=some (.int .i64 h.mode):=HS4.out.c 4 _ rfl
       have c5:w4.cell? ⟨g,5,none⟩=some (.int .i64 h.uid):=HS4.out.c 5 _ rfl
       have c6:w4.cell? ⟨g,6,none⟩=some (.int .i64 h.gid):=HS4.out.c 6 _ rfl
       have c17:w4.cell? ⟨g,17,none⟩=some (.int .i64 h.dj):=HS4.out.c 17 _ rfl
       have c18:w4.cell? ⟨g,18,none⟩=some (.int .i64 h.dn):=HS4.out.c 18 _ rfl
       have hq:=Chg.refl [] w4
       have hS0:=And.intro c4 (And.intro c5 (And.intro c6 (And.intro c17 (And.intro c18 hq))))
       go_upto_region 13 with (fail)
       first | (go_region_held3 (fun w'=>w'.cell? ⟨g,4,none⟩=some (.int .i64 h.mode)∧w'.cell? ⟨g,5,none⟩=some (.int .i64 h.uid)∧w'.cell? ⟨g,6,none⟩=some (.int .i64 h.gid)∧w'.cell? ⟨g,17,none⟩=some (.int .i64 h.dj)∧w'.cell? ⟨g,18,none⟩=some (.int .i64 h.dn)∧Chg [] w4 w') (((repeat (first | assumption | refine ck5 (Chg.refl [] _).drew ?_ | refine ck5 ((Chg.refl [] _).alloc _) ?_));try exact ⟨c4,c5,c6,c17,c18,hq⟩)) ((first
        | (go_at_call 59;refine (small_any _ _ _ _ HF.out).mono ?_;rintro e u1 ⟨⟨va,rfl,hva⟩,rfl⟩;have hva1:=hva.val;have HVA:=Lib.hid hva;clear hva)
        | (go_at_call 57;refine Calls.mono (all_any _ 6 6 [_,_,_,_,_,_] _ rfl (by decide) (by decide) (by decide) (cells_new [_,_,_,_,_,_] _ _) ?_) ?_;(intro x hx;simp only [List.mem_cons,List.not_mem_nil,or_false] at hx;rcases hx with rfl | rfl | rfl | rfl | rfl | rfl<;>assumption);rintro e u1 ⟨⟨vy,rfl,hvz'⟩,rfl⟩;have HVZ:=Lib.hid hvz';clear hvz')))) | fail
       rename_i hHeld
       have HS5:=Lib.hid (HS4.out.on hHeld.2.2.2.2.2)
       have H13:=Lib.hid (show VR vy (Ca3 h f) from HVZ.out.mono fun e=>⟨H12.out.2 (e _ (by simp)),(‹Hid (VR _ (SmallR h.mode f false))›).out.2 (e _ (by simp)),(‹Hid (VR _ (SmallR h.uid f true))›).out.2 (e _ (by simp)),(‹Hid (VR _ (SmallR h.gid f true))›).out.2 (e _ (by simp)),(‹Hid (VR _ (SmallR h.dj f false))›).out.2 (e _ (by simp)),(‹Hid (VR _ (SmallR h.dn f false))›).out.2 (e _ (by simp))⟩)
       have hvy:=H13.out.val
       clear hHeld HVZ H12 hvz
       try clear HVA
       try clear hva1
       try clear HVA
       try clear hva1
       try clear HVA
       try clear hva1
       try clear HVA
       try clear hva1
       try clear HVA
       try clear hva1
       clear c4 c5 c6 c17 c18 hq hS0 HS4
       generalize w4.alloc _=w5 at*
       have c0:w5.cell? ⟨g,0,none⟩=some (.int .u8 (promTf h).toNat):=HS5.out.c 0 _ rfl
       have c3:w5.cell? ⟨g,3,none⟩=some (.int .i64 h.size):=HS5.out.c 3 _ rfl
       have c9:w5.cell? ⟨g,9,none⟩=some (.int .i64 h.ms):=HS5.out.c 9 _ rfl
       have c10:w5.cell? ⟨g,10,none⟩=some (.int .i64 h.mn):=HS5.out.c 10 _ rfl
       have hq:=Chg.refl [] w5
       have hS0:=And.intro c0 (And.intro c3 (And.intro c9 (And.intro c10 hq)))
       go_upto_region 14 with (fail)
       go_cut [5] from 252 to 252 (fun v w'=>∃x,v=.int .i64 x∧VR x (Ca4 h f)∧CaS g h.prom w w')
       case first=>
        have ht:=HT.out
        rw [ht] at c0
        have hund:∀b:Bool,(some undef=some (Value.bool b))=False:=fun b=>by simp [undef]
        clear hS0
        clear ht
        obtain ⟨vd,hvd⟩:∃b,(decide ((t:Int) < 49) || decide (54 < (t:Int)))=b:=⟨_,rfl⟩
        have HVD:=Lib.hid hvd
        clear hvd
        by_cases s0:0≤h.size
        ·have HS0:=Lib.hid s0
         cases b1
         ·have s3:(f != 1)=true:=by rw [bne,HF1.out];rfl
          have hS0:=And.intro c0 (And.intro c3 (And.intro c9 (And.intro c10 hq)))
          refine wp_region_held_drew (S:=(fun w'=>w'.cell? ⟨g,0,none⟩=some (.int .u8 t)∧w'.cell? ⟨g,3,none⟩=some (.int .i64 h.size)∧w'.cell? ⟨g,9,none⟩=some (.int .i64 h.ms)∧w'.cell? ⟨g,10,none⟩=some (.int .i64 h.mn)∧Chg [] w5 w')) (by kernel_rfl) ?_ (fun hHeld=> ?_)
          ·((repeat (first | assumption | refine ck4 (Chg.refl [] _).drew ?_ | refine ck4 ((Chg.refl [] _).alloc _) ?_));try exact ⟨c0,c3,c9,c10,hq⟩)
          refine wpAnyH_take (i:=0) (oi:={ dst:=some 138,op:=Op.move (Operand.tmp 5),type:=3,pos:= "header.go:173", after:=#[],guard:=none }) (v:= ?_) rfl (by kernel_rfl) (by kernel_rfl) (by kernel_rfl) (fun _ _ _ h=>h) (Or.inl ⟨by rfl,?_⟩) hHeld ?_
          rotate_left
          ·(intro w hSw;(try dsimp only at hSw);go_simp;try (with_reducible rfl))
          try simp only [Act.put,List.setIfInBounds_toArray,List.set_cons_zero,List.set_cons_succ]
          refine wpAnyH_take (i:=1) (oi:={ dst:=some 139,op:=Op.fieldAddr 31 (Operand.tmp 2) 3,type:=0,pos:= "header.go:173", after:=#[],guard:=none }) (v:= ?_) rfl (by kernel_rfl) (by kernel_rfl) (by kernel_rfl) (fun _ _ _ h=>h) (Or.inl ⟨by rfl,?_⟩) hHeld ?_
          rotate_left
          ·(intro w hSw;(try dsimp only at hSw);go_simp;try (with_reducible rfl))
          try simp only [Act.put,List.setIfInBounds_toArray,List.set_cons_zero,List.set_cons_succ]
          refine wpAnyH_take (i:=2) (oi:={ dst:=some 140,op:=Op.load 2 (Operand.tmp 139),type:=2,pos:= "header.go:173", after:=#[{ on:=1,ground:=Ground.data }],guard:=none }) (v:= ?_) rfl (by kernel_rfl) (by kernel_rfl) (by kernel_rfl) (fun _ _ _ h=>h) (Or.inl ⟨by rfl,?_⟩) hHeld ?_
          rotate_left
          ·(intro w hSw;(try dsimp only at hSw);go_simp;try (with_reducible rfl))
          try simp only [Act.put,List.setIfInBounds_toArray,List.set_cons_zero,List.set_cons_succ]
          refine wpAnyH_take (i:=3) (oi:={ dst:=some 141,op:=Op.binOp BinOp.geq 2 (Operand.tmp 140) (Operand.const (Value.int IntKind.i64 0)) 2,type:=4,pos:= "header.go:173", after:=#[{ on:=2,ground:=Ground.data }],guard:=none }) (v:= ?_) rfl (by kernel_rfl) (by kernel_rfl) (by kernel_rfl) (fun _ _ _ h=>h) (Or.inl ⟨by rfl,?_⟩) hHeld ?_
          rotate_left
          ·(intro w hSw;(try dsimp only at hSw);go_simp;try (with_reducible rfl))
          try simp only [Act.put,List.setIfInBounds_toArray,List.set_cons_zero,List.set_cons_succ]
          refine wpAnyH_take (i:=4) (oi:={ dst:=some 142,op:=Op.move (Operand.tmp 141),type:=4,pos:= "header.go:173", after:=#[{ on:=3,ground:=Ground.data }],guard:=none }) (v:= ?_) rfl (by kernel_rfl) (by kernel_rfl) (by kernel_rfl) (fun _ _ _ h=>h) (Or.inl ⟨by rfl,?_⟩) hHeld ?_
          rotate_left
          ·(intro w hSw;(try dsimp only at hSw);go_simp;try (with_reducible rfl))
          try simp only [Act.put,List.setIfInBounds_toArray,List.set_cons_zero,List.set_cons_succ]
          refine wpAnyH_take (i:=20) (oi:={ dst:=some 158,op:=Op.fieldAddr 31 (Operand.tmp 2) 9,type:=0,pos:= "header.go:173", after:=#[],guard:=none }) (v:= ?_) rfl (by kernel_rfl) (by kernel_rfl) (by kernel_rfl) (fun _ _ _ h=>h) (Or.inl ⟨by rfl,?_⟩) hHeld ?_
          rotate_left
          ·(intro w hSw;(try dsimp only at hSw);go_simp;try (with_reducible rfl))
          try simp only [Act.put,List.setIfInBounds_toArray,List.set_cons_zero,List.set_cons_succ]
          refine wpAnyH_take (i:=21) (oi:={ dst:=some 159,op:=Op.load 28 (Operand.tmp 158),type:=28,pos:= "header.go:173", after:=#[{ on:=20,ground:=Ground.data }],guard:=none }) (v:= ?_) rfl (by kernel_rfl) (by kernel_rfl) (by kernel_rfl) (fun _ _ _ h=>h) (Or.inl ⟨by rfl,?_⟩) hHeld ?_
          rotate_left
          ·(intro w hSw;(try dsimp only at hSw);go_simp;try (with_reducible rfl))
          try simp only [Act.put,List.setIfInBounds_toArray,List.set_cons_zero,List.set_cons_succ]
          refine wpAnyH_take (i:=22) (oi:={ dst:=some 160,op:=Op.move (Operand.tmp 1),type:=3,pos:= "header.go:173", after:=#[],guard:=none }) (v:= ?_) rfl (by kernel_rfl) (by kernel_rfl) (by kernel_rfl) (fun _ _ _ h=>h) (Or.inl ⟨by rfl,?_⟩) hHeld ?_
          rotate_left
          ·(intro w hSw;(try dsimp only at hSw);go_simp;try (with_reducible rfl))
          try simp only [Act.put,List.setIfInBounds_toArray,List.set_cons_zero,List.set_cons_succ]
          refine wpAnyH_take (i:=5) (oi:={ dst:=some 143,op:=Op.fieldAddr 31 (Operand.tmp 2) 0,type:=0,pos:= "header.go:173", after:=#[{ on:=4,ground:=Ground.guard }],guard:=some (4,false) }) (v:=undef) rfl (by kernel_rfl) (by kernel_rfl) (by kernel_rfl) (fun _ _ _ h=>h) (Or.inr ⟨by rfl,rfl⟩) hHeld ?_
          try simp only [Act.put,List.setIfInBounds_toArray,List.set_cons_zero,List.set_cons_succ]
          refine wpAnyH_take (i:=6) (oi:={ dst:=some 144,op:=Op.load 5 (Operand.tmp 143),type:=5,pos:= "header.go:173", after:=#[{ on:=5,ground:=Ground.data },{ on:=4,ground:=Ground.guard }],guard:=some (4,false) }) (v:=undef) rfl (by kernel_rfl) (by kernel_rfl) (by kernel_rfl) (fun _ _ _ h=>h) (Or.inr ⟨by rfl,rfl⟩) hHeld ?_
          try simp only [Act.put,List.setIfInBounds_toArray,List.set_cons_zero,List.set_cons_succ]
          refine wpAnyH_ready (rs:= [7]) (by kernel_rfl) (by simp) ?_
          refine AllReadyH.cons (o:={ dst:=some 145,op:=Op.call { callee:=Callee.value (Operand.func 44),args:=#[Operand.tmp 144],argTypes:=#[5] },type:=4,pos:= "header.go:173", after:=#[{ on:=6,ground:=Ground.data },{ on:=4,ground:=Ground.chain },{ on:=4,ground:=Ground.guard }],guard:=some (4,false) }) rfl (fun K hK=> ?_) AllReadyH.nil
          go_simp
          refine hK.out _ _ ?_ (fun hHeld=> ?_)
          ·((repeat (first | assumption | refine ck4 (Chg.refl [] _).drew ?_ | refine ck4 ((Chg.refl [] _).alloc _) ?_));try exact ⟨c0,c3,c9,c10,hq⟩)
          clear hK K
          try simp only [Act.put,List.setIfInBounds_toArray,List.set_cons_zero,List.set_cons_succ]
          refine wpAnyH_take (i:=8) (oi:={ dst:=some 146,op:=Op.unOp UnOp.not 4 (Operand.tmp 145),type:=4,pos:= "header.go:173", after:=#[{ on:=7,ground:=Ground.data },{ on:=4,ground:=Ground.guard }],guard:=some (4,false) }) (v:=undef) rfl (by kernel_rfl) (by kernel_rfl) (by kernel_rfl) (fun _ _ _ h=>h) (Or.inr ⟨by rfl,rfl⟩) hHeld ?_
          try simp only [Act.put,List.setIfInBounds_toArray,List.set_cons_zero,List.set_cons_succ]
          refine wpAnyH_take (i:=9) (oi:={ dst:=some 147,op:=Op.pick (Operand.tmp 142) (Operand.const (Value.bool true)) (Operand.tmp 146),type:=4,pos:= "header.go:173", after:=#[{ on:=4,ground:=Ground.data },{ on:=8,ground:=Ground.data }],guard:=none }) (v:= ?_) rfl (by kernel_rfl) (by kernel_rfl) (by kernel_rfl) (fun _ _ _ h=>h) (Or.inl ⟨by rfl,?_⟩) hHeld ?_
          rotate_left
          ·(intro w hSw;(try dsimp only at hSw);go_simp;try (with_reducible rfl))
          try simp only [Act.put,List.setIfInBounds_toArray,List.set_cons_zero,List.set_cons_succ]
          refine wpAnyH_take (i:=10) (oi:={ dst:=some 148,op:=Op.move (Operand.tmp 147),type:=4,pos:= "header.go:173", after:=#[{ on:=9,ground:=Ground.data },{ on:=7,ground:=Ground.chain }],guard:=none }) (v:= ?_) rfl (by kernel_rfl) (by kernel_rfl) (by kernel_rfl) (fun _ _ _ h=>h) (Or.inl ⟨by rfl,?_⟩) hHeld ?_
          rotate_left
          ·(intro w hSw;(try dsimp only at hSw);go_simp;try (with_reducible rfl))
          try simp only [Act.put,List.setIfInBounds_toArray,List.set_cons_zero,List.set_cons_succ]
          refine wpAnyH_take (i:=11) (oi:={ dst:=some 149,op:=Op.move (Operand.tmp 1),type:=3,pos:= "header.go:173", after:=#[{ on:=10,ground:=Ground.guard }],guard:=some (10,true) }) (v:= ?_) rfl (by kernel_rfl) (by kernel_rfl) (by kernel_rfl) (fun _ _ _ h=>h) (Or.inl ⟨by rfl,?_⟩) hHeld ?_
          rotate_left
          ·(intro w hSw;(try dsimp only at hSw);go_simp;try (with_reducible rfl))
          try simp only [Act.put,List.setIfInBounds_toArray,List.set_cons_zero,List.set_cons_succ]
          refine wpAnyH_take (i:=12) (oi:={ dst:=some 150,op:=Op.binOp BinOp.neq 3 (Operand.tmp 149) (Operand.const (Value.int IntKind.i64 1)) 3,type:=4,pos:= "header.go:173", after:=#[{ on:=11,ground:=Ground.data },{ on:=10,ground:=Ground.guard }],guard:=some (10,true) }) (v:= ?_) rfl (by kernel_rfl) (by kernel_rfl) (by kernel_rfl) (fun _ _ _ h=>h) (Or.inl ⟨by rfl,?_⟩) hHeld ?_
          rotate_left
          ·(intro w hSw;(try dsimp only at hSw);go_simp;try (with_reducible rfl))
          try simp only [Act.put,List.setIfInBounds_toArray,List.set_cons_zero,List.set_cons_succ]
          refine wpAnyH_take (i:=13) (oi:={ dst:=some 151,op:=Op.move (Operand.tmp 150),type:=4,pos:= "header.go:173", after:=#[{ on:=12,ground:=Ground.data },{ on:=10,ground:=Ground.chain },{ on:=10,ground:=Ground.guard }],guard:=some (10,true) }) (v:= ?_) rfl (by kernel_rfl) (by kernel_rfl) (by kernel_rfl) (fun _ _ _ h=>h) (Or.inl ⟨by rfl,?_⟩) hHeld ?_
          rotate_left
          ·(intro w hSw;(try dsimp only at hSw);go_simp;try (with_reducible rfl))
          try simp only [Act.put,List.setIfInBounds_toArray,List.set_cons_zero,List.set_cons_succ]
          refine wpAnyH_take (i:=14) (oi:={ dst:=some 152,op:=Op.fieldAddr 31 (Operand.tmp 2) 3,type:=0,pos:= "header.go:173", after:=#[{ on:=13,ground:=Ground.guard }],guard:=some (13,false) }) (v:=undef) rfl (by kernel_rfl) (by kernel_rfl) (by kernel_rfl) (fun _ _ _ h=>h) (Or.inr ⟨by rfl,rfl⟩) hHeld ?_
          try simp only [Act.put,List.setIfInBounds_toArray,List.set_cons_zero,List.set_cons_succ]
          refine wpAnyH_take (i:=15) (oi:={ dst:=some 153,op:=Op.load 2 (Operand.tmp 152),type:=2,pos:= "header.go:173", after:=#[{ on:=14,ground:=Ground.data },{ on:=13,ground:=Ground.guard }],guard:=some (13,false) }) (v:=undef) rfl (by kernel_rfl) (by kernel_rfl) (by kernel_rfl) (fun _ _ _ h=>h) (Or.inr ⟨by rfl,rfl⟩) hHeld ?_
          try simp only [Act.put,List.setIfInBounds_toArray,List.set_cons_zero,List.set_cons_succ]
          refine wpAnyH_take (i:=16) (oi:={ dst:=some 154,op:=Op.binOp BinOp.lss 2 (Operand.tmp 153) (Operand.const (Value.int IntKind.i64 8589934592)) 2,type:=4,pos:= "header.go:173", after:=#[{ on:=15,ground:=Ground.data },{ on:=13,ground:=Ground.guard }],guard:=some (13,false) }) (v:=undef) rfl (by kernel_rfl) (by kernel_rfl) (by kernel_rfl) (fun _ _ _ h=>h) (Or.inr ⟨by rfl,rfl⟩) hHeld ?_
          try simp only [Act.put,List.setIfInBounds_toArray,List.set_cons_zero,List.set_cons_succ]
          refine wpAnyH_take (i:=17) (oi:={ dst:=some 155,op:=Op.pick (Operand.tmp 151) (Operand.const (Value.bool true)) (Operand.tmp 154),type:=4,pos:= "header.go:173", after:=#[{ on:=13,ground:=Ground.data },{ on:=16,ground:=Ground.data },{ on:=10,ground:=Ground.guard }],guard:=some (10,true) }) (v:= ?_) rfl (by kernel_rfl) (by kernel_rfl) (by kernel_rfl) (fun _ _ _ h=>h) (Or.inl ⟨by rfl,?_⟩) hHeld ?_
          rotate_left
          ·(intro w hSw;(try dsimp only at hSw);go_simp;try (with_reducible rfl))
          try simp only [Act.put,List.setIfInBounds_toArray,List.set_cons_zero,List.set_cons_succ]
          refine wpAnyH_take (i:=18) (oi:={ dst:=some 156,op:=Op.pick (Operand.tmp 148) (Operand.tmp 155) (Operand.const (Value.bool false)),type:=4,pos:= "header.go:173", after:=#[{ on:=10,ground:=Ground.data },{ on:=17,ground:=Ground.data }],guard:=none }) (v:= ?_) rfl (by kernel_rfl) (by kernel_rfl) (by kernel_rfl) (fun _ _ _ h=>h) (Or.inl ⟨by rfl,?_⟩) hHeld ?_
          rotate_left
          ·(intro w hSw;(try dsimp only at hSw);go_simp;try (with_reducible rfl))
          try simp only [Act.put,List.setIfInBounds_toArray,List.set_cons_zero,List.set_cons_succ]
          refine wpAnyH_ready (rs:= [19]) (by kernel_rfl) (by simp) ?_
          refine AllReadyH.cons (o:={ dst:=some 157,op:=Op.call { callee:=Callee.value (Operand.func 55),args:=#[Operand.tmp 156],argTypes:=#[4] },type:=3,pos:= "header.go:173", after:=#[{ on:=18,ground:=Ground.data },{ on:=13,ground:=Ground.chain }],guard:=none }) rfl (fun K hK=> ?_) AllReadyH.nil
          go_simp
          (refine (when_any _ _).mono ?_;rintro e u1 ⟨⟨va,rfl,hva⟩,rfl⟩;have hva1:=hva.val;have HVA:=Lib.hid hva;clear hva;simp only)
          refine hK.out _ _ ?_ (fun hHeld=> ?_)
          ·((repeat (first | assumption | refine ck4 (Chg.refl [] _).drew ?_ | refine ck4 ((Chg.refl [] _).alloc _) ?_));try exact ⟨c0,c3,c9,c10,hq⟩)
          clear hK K
          try simp only [Act.put,List.setIfInBounds_toArray,List.set_cons_zero,List.set_cons_succ]
          refine wpAnyH_ready (rs:= [23]) (by kernel_rfl) (by simp) ?_
          refine AllReadyH.cons (o:={ dst:=some 161,op:=Op.call { callee:=Callee.value (Operand.func 60),args:=#[Operand.tmp 159,Operand.tmp 160],argTypes:=#[28,3] },type:=3,pos:= "header.go:173", after:=#[{ on:=21,ground:=Ground.data },{ on:=22,ground:=Ground.data },{ on:=19,ground:=Ground.chain }],guard:=none }) rfl (fun K hK=> ?_) AllReadyH.nil
          go_simp
          (refine (moment_any _ _ _ _ HF.out).mono ?_;rintro e u1 ⟨⟨vb,rfl,hvb⟩,hu1⟩;have hvb1:=hvb.val;have HVB:=Lib.hid hvb;have hqq:=ck4 hu1 hHeld;clear hvb hu1;simp only)
          refine hK.out _ _ ?_ (fun hHeld=> ?_)
          ·((repeat (first | assumption | refine ck4 (Chg.refl [] _).drew ?_ | refine ck4 ((Chg.refl [] _).alloc _) ?_));try exact ⟨c0,c3,c9,c10,hq⟩)
          clear hK K
          try simp only [Act.put,List.setIfInBounds_toArray,List.set_cons_zero,List.set_cons_succ]
          refine wpAnyH_ready (rs:= [24]) (by kernel_rfl) (by simp) ?_
          refine AllReadyH.cons (o:={ dst:=some 162,op:=Op.buildSlice 169 3 #[(0,Operand.tmp 138),(1,Operand.tmp 157),(2,Operand.tmp 161)],type:=169,pos:= "header.go:173", after:=#[{ on:=0,ground:=Ground.data },{ on:=19,ground:=Ground.data },{ on:=23,ground:=Ground.data }],guard:=none }) rfl (fun K hK=> ?_) AllReadyH.nil
          go_simp
          refine hK.out _ _ ?_ (fun hHeld=> ?_)
          ·((repeat (first | assumption | refine ck4 (Chg.refl [] _).drew ?_ | refine ck4 ((Chg.refl [] _).alloc _) ?_));try exact ⟨c0,c3,c9,c10,hq⟩)
          clear hK K
          try simp only [Act.put,List.setIfInBounds_toArray,List.set_cons_zero,List.set_cons_succ]
          refine wpAnyH_ready (rs:= [25]) (by kernel_rfl) (by simp) ?_
          refine AllReadyH.cons (o:={ dst:=some 163,op:=Op.call { callee:=Callee.value (Operand.func 57),args:=#[Operand.tmp 162],argTypes:=#[169] },type:=3,pos:= "header.go:173", after:=#[{ on:=24,ground:=Ground.data },{ on:=23,ground:=Ground.chain }],guard:=none }) rfl (fun K hK=> ?_) AllReadyH.nil
          go_simp
          (refine Calls.mono (all_any _ 3 3 [_,_,_] _ rfl (by decide) (by decide) (by decide) (cells_new [_,_,_] _ _) ?_) ?_;(intro x hx;simp only [List.mem_cons,List.not_mem_nil,or_false] at hx;rcases hx with rfl | rfl | rfl<;>assumption);rintro e u1 ⟨⟨vz,rfl,hvz'⟩,rfl⟩;have HVZ:=Lib.hid hvz';clear hvz';simp only)
          refine hK.out _ _ ?_ (fun hHeld=> ?_)
          ·((repeat (first | assumption | refine ck4 (Chg.refl [] _).drew ?_ | refine ck4 ((Chg.refl [] _).alloc _) ?_));try exact ⟨c0,c3,c9,c10,hq⟩)
          clear hK K
          try simp only [Act.put,List.setIfInBounds_toArray,List.set_cons_zero,List.set_cons_succ]
          refine wpAnyH_take (i:=26) (oi:={ dst:=some 5,op:=Op.assign (Operand.tmp 163),type:=3,pos:= "header.go:173", after:=#[{ on:=25,ground:=Ground.data },{ on:=25,ground:=Ground.chain },{ on:=0,ground:=Ground.phase },{ on:=1,ground:=Ground.phase },{ on:=2,ground:=Ground.phase },{ on:=3,ground:=Ground.phase },{ on:=4,ground:=Ground.phase },{ on:=5,ground:=Ground.phase },{ on:=6,ground:=Ground.phase },{ on:=7,ground:=Ground.phase },{ on:=8,ground:=Ground.phase },{ on:=9,ground:=Ground.phase },{ on:=10,ground:=Ground.phase },{ on:=11,ground:=Ground.phase },{ on:=12,ground:=Ground.phase },{ on:=13,ground:=Ground.phase },{ on:=14,ground:=Ground.phase },{ on:=15,ground:=Ground.phase },{ on:=16,ground:=Ground.phase },{ on:=17,ground:=Ground.phase },{ on:=18,ground:=Ground.phase },{ on:=19,ground:=Ground.phase },{ on:=20,ground:=Ground.phase },{ on:=21,ground:=Ground.phase },{ on:=22,ground:=Ground.phase },{ on:=23,ground:=Ground.phase },{ on:=24,ground:=Ground.phase },{ on:=25,ground:=Ground.phase }],guard:=none }) (v:= ?_) rfl (by kernel_rfl) (by kernel_rfl) (by kernel_rfl) (fun _ _ _ h=>h) (Or.inl ⟨by rfl,?_⟩) hHeld ?_
          rotate_left
          ·(intro w hSw;(try dsimp only at hSw);go_simp;try (with_reducible rfl))
          try simp only [Act.put,List.setIfInBounds_toArray,List.set_cons_zero,List.set_cons_succ]
          refine wpAnyH_done (by kernel_rfl) ?_ _
          go_wp2_with fail
          go_meet
          case rel=>
           refine ⟨_,rfl,HVZ.out.mono fun e=>⟨H13.out.2 (e _ (by simp)),fun _ e1=>absurd ((show (f == 1)=true by simp [e1]).symm.trans HF1.out) (by decide),HVB.out.2 (e _ (by simp))⟩,HS5.out.on (by first | exact hHeld.2.2.2.2 | exact Chg.ondrew hHeld.2.2.2.2)⟩
         ·have s3:(f != 1)=false:=by rw [bne,HF1.out];rfl
          have hS0:=And.intro c0 (And.intro c3 (And.intro c9 (And.intro c10 hq)))
          refine wp_region_held_drew (S:=(fun w'=>w'.cell? ⟨g,0,none⟩=some (.int .u8 t)∧w'.cell? ⟨g,3,none⟩=some (.int .i64 h.size)∧w'.cell? ⟨g,9,none⟩=some (.int .i64 h.ms)∧w'.cell? ⟨g,10,none⟩=some (.int .i64 h.mn)∧Chg [] w5 w')) (by kernel_rfl) ?_ (fun hHeld=> ?_)
          ·((repeat (first | assumption | refine ck4 (Chg.refl [] _).drew ?_ | refine ck4 ((Chg.refl [] _).alloc _) ?_));try exact ⟨c0,c3,c9,c10,hq⟩)
          refine wpAnyH_take (i:=0) (oi:={ dst:=some 138,op:=Op.move (Operand.tmp 5),type:=3,pos:= "header.go:173", after:=#[],guard:=none }) (v:= ?_) rfl (by kernel_rfl) (by kernel_rfl) (by kernel_rfl) (fun _ _ _ h=>h) (Or.inl ⟨by rfl,?_⟩) hHeld ?_
          rotate_left
          ·(intro w hSw;(try dsimp only at hSw);go_simp;try (with_reducible rfl))
          try simp only [Act.put,List.setIfInBounds_toArray,List.set_cons_zero,List.set_cons_succ]
          refine wpAnyH_take (i:=1) (oi:={ dst:=some 139,op:=Op.fieldAddr 31 (Operand.tmp 2) 3,type:=0,pos:= "header.go:173", after:=#[],guard:=none }) (v:= ?_) rfl (by kernel_rfl) (by kernel_rfl) (by kernel_rfl) (fun _ _ _ h=>h) (Or.inl ⟨by rfl,?_⟩) hHeld ?_
          rotate_left
          ·(intro w hSw;(try dsimp only at hSw);go_simp;try (with_reducible rfl))
          try simp only [Act.put,List.setIfInBounds_toArray,List.set_cons_zero,List.set_cons_succ]
          refine wpAnyH_take (i:=2) (oi:={ dst:=some 140,op:=Op.load 2 (Operand.tmp 139),type:=2,pos:= "header.go:173", after:=#[{ on:=1,ground:=Ground.data }],guard:=none }) (v:= ?_) rfl (by kernel_rfl) (by kernel_rfl) (by kernel_rfl) (fun _ _ _ h=>h) (Or.inl ⟨by rfl,?_⟩) hHeld ?_
          rotate_left
          ·(intro w hSw;(try dsimp only at hSw);go_simp;try (with_reducible rfl))
          try simp only [Act.put,List.setIfInBounds_toArray,List.set_cons_zero,List.set_cons_succ]
          refine wpAnyH_take (i:=3) (oi:={ dst:=some 141,op:=Op.binOp BinOp.geq 2 (Operand.tmp 140) (Operand.const (Value.int IntKind.i64 0)) 2,type:=4,pos:= "header.go:173", after:=#[{ on:=2,ground:=Ground.data }],guard:=none }) (v:= ?_) rfl (by kernel_rfl) (by kernel_rfl) (by kernel_rfl) (fun _ _ _ h=>h) (Or.inl ⟨by rfl,?_⟩) hHeld ?_
          rotate_left
          ·(intro w hSw;(try dsimp only at hSw);go_simp;try (with_reducible rfl))
          try simp only [Act.put,List.setIfInBounds_toArray,List.set_cons_zero,List.set_cons_succ]
          refine wpAnyH_take (i:=4) (oi:={ dst:=some 142,op:=Op.move (Operand.tmp 141),type:=4,pos:= "header.go:173", after:=#[{ on:=3,ground:=Ground.data }],guard:=none }) (v:= ?_) rfl (by kernel_rfl) (by kernel_rfl) (by kernel_rfl) (fun _ _ _ h=>h) (Or.inl ⟨by rfl,?_⟩) hHeld ?_
          rotate_left
          ·(intro w hSw;(try dsimp only at hSw);go_simp;try (with_reducible rfl))
          try simp only [Act.put,List.setIfInBounds_toArray,List.set_cons_zero,List.set_cons_succ]
          refine wpAnyH_take (i:=20) (oi:={ dst:=some 158,op:=Op.fieldAddr 31 (Operand.tmp 2) 9,type:=0,pos:= "header.go:173", after:=#[],guard:=none }) (v:= ?_) rfl (by kernel_rfl) (by kernel_rfl) (by kernel_rfl) (fun _ _ _ h=>h) (Or.inl ⟨by rfl,?_⟩) hHeld ?_
          rotate_left
          ·(intro w hSw;(try dsimp only at hSw);go_simp;try (with_reducible rfl))
          try simp only [Act.put,List.setIfInBounds_toArray,List.set_cons_zero,List.set_cons_succ]
          refine wpAnyH_take (i:=21) (oi:={ dst:=some 159,op:=Op.load 28 (Operand.tmp 158),type:=28,pos:= "header.go:173", after:=#[{ on:=20,ground:=Ground.data }],guard:=none }) (v:= ?_) rfl (by kernel_rfl) (by kernel_rfl) (by kernel_rfl) (fun _ _ _ h=>h) (Or.inl ⟨by rfl,?_⟩) hHeld ?_
          rotate_left
          ·(intro w hSw;(try dsimp only at hSw);go_simp;try (with_reducible rfl))
          try simp only [Act.put,List.setIfInBounds_toArray,List.set_cons_zero,List.set_cons_succ]
          refine wpAnyH_take (i:=22) (oi:={ dst:=some 160,op:=Op.move (Operand.tmp 1),type:=3,pos:= "header.go:173", after:=#[],guard:=none }) (v:= ?_) rfl (by kernel_rfl) (by kernel_rfl) (by kernel_rfl) (fun _ _ _ h=>h) (Or.inl ⟨by rfl,?_⟩) hHeld ?_
          rotate_left
          ·(intro w hSw;(try dsimp only at hSw);go_simp;try (with_reducible rfl))
          try simp only [Act.put,List.setIfInBounds_toArray,List.set_cons_zero,List.set_cons_succ]
          refine wpAnyH_take (i:=5) (oi:={ dst:=some 143,op:=Op.fieldAddr 31 (Operand.tmp 2) 0,type:=0,pos:= "header.go:173", after:=#[{ on:=4,ground:=Ground.guard }],guard:=some (4,false) }) (v:=undef) rfl (by kernel_rfl) (by kernel_rfl) (by kernel_rfl) (fun _ _ _ h=>h) (Or.inr ⟨by rfl,rfl⟩) hHeld ?_
          try simp only [Act.put,List.setIfInBounds_toArray,List.set_cons_zero,List.set_cons_succ]
          refine wpAnyH_take (i:=6) (oi:={ dst:=some 144,op:=Op.load 5 (Operand.tmp 143),type:=5,pos:= "header.go:173", after:=#[{ on:=5,ground:=Ground.data },{ on:=4,ground:=Ground.guard }],guard:=some (4,false) }) (v:=undef) rfl (by kernel_rfl) (by kernel_rfl) (by kernel_rfl) (fun _ _ _ h=>h) (Or.inr ⟨by rfl,rfl⟩) hHeld ?_
          try simp only [Act.put,List.setIfInBounds_toArray,List.set_cons_zero,List.set_cons_succ]
          refine wpAnyH_ready (rs:= [7]) (by kernel_rfl) (by simp) ?_
          refine AllReadyH.cons (o:={ dst:=some 145,op:=Op.call { callee:=Callee.value (Operand.func 44),args:=#[Operand.tmp 144],argTypes:=#[5] },type:=4,pos:= "header.go:173", after:=#[{ on:=6,ground:=Ground.data },{ on:=4,ground:=Ground.chain },{ on:=4,ground:=Ground.guard }],guard:=some (4,false) }) rfl (fun K hK=> ?_) AllReadyH.nil
          go_simp
          refine hK.out _ _ ?_ (fun hHeld=> ?_)
          ·((repeat (first | assumption | refine ck4 (Chg.refl [] _).drew ?_ | refine ck4 ((Chg.refl [] _).alloc _) ?_));try exact ⟨c0,c3,c9,c10,hq⟩)
          clear hK K
          try simp only [Act.put,List.setIfInBounds_toArray,List.set_cons_zero,List.set_cons_succ]
          refine wpAnyH_take (i:=8) (oi:={ dst:=some 146,op:=Op.unOp UnOp.not 4 (Operand.tmp 145),type:=4,pos:= "header.go:173", after:=#[{ on:=7,ground:=Ground.data },{ on:=4,ground:=Ground.guard }],guard:=some (4,false) }) (v:=undef) rfl (by kernel_rfl) (by kernel_rfl) (by kernel_rfl) (fun _ _ _ h=>h) (Or.inr ⟨by rfl,rfl⟩) hHeld ?_
          try simp only [Act.put,List.setIfInBounds_toArray,List.set_cons_zero,List.set_cons_succ]
          refine wpAnyH_take (i:=9) (oi:={ dst:=some 147,op:=Op.pick (Operand.tmp 142) (Operand.const (Value.bool true)) (Operand.tmp 146),type:=4,pos:= "header.go:173", after:=#[{ on:=4,ground:=Ground.data },{ on:=8,ground:=Ground.data }],guard:=none }) (v:= ?_) rfl (by kernel_rfl) (by kernel_rfl) (by kernel_rfl) (fun _ _ _ h=>h) (Or.inl ⟨by rfl,?_⟩) hHeld ?_
          rotate_left
          ·(intro w hSw;(try dsimp only at hSw);go_simp;try (with_reducible rfl))
          try simp only [Act.put,List.setIfInBounds_toArray,List.set_cons_zero,List.set_cons_succ]
          refine wpAnyH_take (i:=10) (oi:={ dst:=some 148,op:=Op.move (Operand.tmp 147),type:=4,pos:= "header.go:173", after:=#[{ on:=9,ground:=Ground.data },{ on:=7,ground:=Ground.chain }],guard:=none }) (v:= ?_) rfl (by kernel_rfl) (by kernel_rfl) (by kernel_rfl) (fun _ _ _ h=>h) (Or.inl ⟨by rfl,?_⟩) hHeld ?_
          rotate_left
          ·(intro w hSw;(try dsimp only at hSw);go_simp;try (with_reducible rfl))
          try simp only [Act.put,List.setIfInBounds_toArray,List.set_cons_zero,List.set_cons_succ]
          refine wpAnyH_take (i:=11) (oi:={ dst:=some 149,op:=Op.move (Operand.tmp 1),type:=3,pos:= "header.go:173", after:=#[{ on:=10,ground:=Ground.guard }],guard:=some (10,true) }) (v:= ?_) rfl (by kernel_rfl) (by kernel_rfl) (by kernel_rfl) (fun _ _ _ h=>h) (Or.inl ⟨by rfl,?_⟩) hHeld ?_
          rotate_left
          ·(intro w hSw;(try dsimp only at hSw);go_simp;try (with_reducible rfl))
          try simp only [Act.put,List.setIfInBounds_toArray,List.set_cons_zero,List.set_cons_succ]
          refine wpAnyH_take (i:=12) (oi:={ dst:=some 150,op:=Op.binOp BinOp.neq 3 (Operand.tmp 149) (Operand.const (Value.int IntKind.i64 1)) 3,type:=4,pos:= "header.go:173", after:=#[{ on:=11,ground:=Ground.data },{ on:=10,ground:=Ground.guard }],guard:=some (10,true) }) (v:= ?_) rfl (by kernel_rfl) (by kernel_rfl) (by kernel_rfl) (fun _ _ _ h=>h) (Or.inl ⟨by rfl,?_⟩) hHeld ?_
          rotate_left
          ·(intro w hSw;(try dsimp only at hSw);go_simp;try (with_reducible rfl))
          try simp only [Act.put,List.setIfInBounds_toArray,List.set_cons_zero,List.set_cons_succ]
          refine wpAnyH_take (i:=13) (oi:={ dst:=some 151,op:=Op.move (Operand.tmp 150),type:=4,pos:= "header.go:173", after:=#[{ on:=12,ground:=Ground.data },{ on:=10,ground:=Ground.chain },{ on:=10,ground:=Ground.guard }],guard:=some (10,true) }) (v:= ?_) rfl (by kernel_rfl) (by kernel_rfl) (by kernel_rfl) (fun _ _ _ h=>h) (Or.inl ⟨by rfl,?_⟩) hHeld ?_
          rotate_left
          ·(intro w hSw;(try dsimp only at hSw);go_simp;try (with_reducible rfl))
          try simp only [Act.put,List.setIfInBounds_toArray,List.set_cons_zero,List.set_cons_succ]
          refine wpAnyH_take (i:=14) (oi:={ dst:=some 152,op:=Op.fieldAddr 31 (Operand.tmp 2) 3,type:=0,pos:= "header.go:173", after:=#[{ on:=13,ground:=Ground.guard }],guard:=some (13,false) }) (v:= ?_) rfl (by kernel_rfl) (by kernel_rfl) (by kernel_rfl) (fun _ _ _ h=>h) (Or.inl ⟨by rfl,?_⟩) hHeld ?_
          rotate_left
          ·(intro w hSw;(try dsimp only at hSw);go_simp;try (with_reducible rfl))
          try simp only [Act.put,List.setIfInBounds_toArray,List.set_cons_zero,List.set_cons_succ]
          refine wpAnyH_take (i:=15) (oi:={ dst:=some 153,op:=Op.load 2 (Operand.tmp 152),type:=2,pos:= "header.go:173", after:=#[{ on:=14,ground:=Ground.data },{ on:=13,ground:=Ground.guard }],guard:=some (13,false) }) (v:= ?_) rfl (by kernel_rfl) (by kernel_rfl) (by kernel_rfl) (fun _ _ _ h=>h) (Or.inl ⟨by rfl,?_⟩) hHeld ?_
          rotate_left
          ·(intro w hSw;(try dsimp only at hSw);go_simp;try (with_reducible rfl))
          try simp only [Act.put,List.setIfInBounds_toArray,List.set_cons_zero,List.set_cons_succ]
          refine wpAnyH_take (i:=16) (oi:={ dst:=some 154,op:=Op.binOp BinOp.lss 2 (Operand.tmp 153) (Operand.const (Value.int IntKind.i64 8589934592)) 2,type:=4,pos:= "header.go:173", after:=#[{ on:=15,ground:=Ground.data },{ on:=13,ground:=Ground.guard }],guard:=some (13,false) }) (v:= ?_) rfl (by kernel_rfl) (by kernel_rfl) (by kernel_rfl) (fun _ _ _ h=>h) (Or.inl ⟨by rfl,?_⟩) hHeld ?_
          rotate_left
          ·(intro w hSw;(try dsimp only at hSw);go_simp;try (with_reducible rfl))
          try simp only [Act.put,List.setIfInBounds_toArray,List.set_cons_zero,List.set_cons_succ]
          refine wpAnyH_take (i:=17) (oi:={ dst:=some 155,op:=Op.pick (Operand.tmp 151) (Operand.const (Value.bool true)) (Operand.tmp 154),type:=4,pos:= "header.go:173", after:=#[{ on:=13,ground:=Ground.data },{ on:=16,ground:=Ground.data },{ on:=10,ground:=Ground.guard }],guard:=some (10,true) }) (v:= ?_) rfl (by kernel_rfl) (by kernel_rfl) (by kernel_rfl) (fun _ _ _ h=>h) (Or.inl ⟨by rfl,?_⟩) hHeld ?_
          rotate_left
          ·(intro w hSw;(try dsimp only at hSw);go_simp;try (with_reducible rfl))
          try simp only [Act.put,List.setIfInBounds_toArray,List.set_cons_zero,List.set_cons_succ]
          refine wpAnyH_take (i:=18) (oi:={ dst:=some 156,op:=Op.pick (Operand.tmp 148) (Operand.tmp 155) (Operand.const (Value.bool false)),type:=4,pos:= "header.go:173", after:=#[{ on:=10,ground:=Ground.data },{ on:=17,ground:=Ground.data }],guard:=none }) (v:= ?_) rfl (by kernel_rfl) (by kernel_rfl) (by kernel_rfl) (fun _ _ _ h=>h) (Or.inl ⟨by rfl,?_⟩) hHeld ?_
          rotate_left
          ·(intro w hSw;(try dsimp only at hSw);go_simp;try (with_reducible rfl))
          try simp only [Act.put,List.setIfInBounds_toArray,List.set_cons_zero,List.set_cons_succ]
          refine wpAnyH_ready (rs:= [19]) (by kernel_rfl) (by simp) ?_
          refine AllReadyH.cons (o:={ dst:=some 157,op:=Op.call { callee:=Callee.value (Operand.func 55),args:=#[Operand.tmp 156],argTypes:=#[4] },type:=3,pos:= "header.go:173", after:=#[{ on:=18,ground:=Ground.data },{ on:=13,ground:=Ground.chain }],guard:=none }) rfl (fun K hK=> ?_) AllReadyH.nil
          go_simp
          (refine (when_any _ _).mono ?_;rintro e u1 ⟨⟨va,rfl,hva⟩,rfl⟩;have hva1:=hva.val;have HVA:=Lib.hid hva;clear hva;simp only)
          refine hK.out _ _ ?_ (fun hHeld=> ?_)
          ·((repeat (first | assumption | refine ck4 (Chg.refl [] _).drew ?_ | refine ck4 ((Chg.refl [] _).alloc _) ?_));try exact ⟨c0,c3,c9,c10,hq⟩)
          clear hK K
          try simp only [Act.put,List.setIfInBounds_toArray,List.set_cons_zero,List.set_cons_succ]
          refine wpAnyH_ready (rs:= [23]) (by kernel_rfl) (by simp) ?_
          refine AllReadyH.cons (o:={ dst:=some 161,op:=Op.call { callee:=Callee.value (Operand.func 60),args:=#[Operand.tmp 159,Operand.tmp 160],argTypes:=#[28,3] },type:=3,pos:= "header.go:173", after:=#[{ on:=21,ground:=Ground.data },{ on:=22,ground:=Ground.data },{ on:=19,ground:=Ground.chain }],guard:=none }) rfl (fun K hK=> ?_) AllReadyH.nil
          go_simp
          (refine (moment_any _ _ _ _ HF.out).mono ?_;rintro e u1 ⟨⟨vb,rfl,hvb⟩,hu1⟩;have hvb1:=hvb.val;have HVB:=Lib.hid hvb;have hqq:=ck4 hu1 hHeld;clear hvb hu1;simp only)
          refine hK.out _ _ ?_ (fun hHeld=> ?_)
          ·((repeat (first | assumption | refine ck4 (Chg.refl [] _).drew ?_ | refine ck4 ((Chg.refl [] _).alloc _) ?_));try exact ⟨c0,c3,c9,c10,hq⟩)
          clear hK K
          try simp only [Act.put,List.setIfInBounds_toArray,List.set_cons_zero,List.set_cons_succ]
          refine wpAnyH_ready (rs:= [24]) (by kernel_rfl) (by simp) ?_
          refine AllReadyH.cons (o:={ dst:=some 162,op:=Op.buildSlice 169 3 #[(0,Operand.tmp 138),(1,Operand.tmp 157),(2,Operand.tmp 161)],type:=169,pos:= "header.go:173", after:=#[{ on:=0,ground:=Ground.data },{ on:=19,ground:=Ground.data },{ on:=23,ground:=Ground.data }],guard:=none }) rfl (fun K hK=> ?_) AllReadyH.nil
          go_simp
          refine hK.out _ _ ?_ (fun hHeld=> ?_)
          ·((repeat (first | assumption | refine ck4 (Chg.refl [] _).drew ?_ | refine ck4 ((Chg.refl [] _).alloc _) ?_));try exact ⟨c0,c3,c9,c10,hq⟩)
          clear hK K
          try simp only [Act.put,List.setIfInBounds_toArray,List.set_cons_zero,List.set_cons_succ]
          refine wpAnyH_ready (rs:= [25]) (by kernel_rfl) (by simp) ?_
          refine AllReadyH.cons (o:={ dst:=some 163,op:=Op.call { callee:=Callee.value (Operand.func 57),args:=#[Operand.tmp 162],argTypes:=#[169] },type:=3,pos:= "header.go:173", after:=#[{ on:=24,ground:=Ground.data },{ on:=23,ground:=Ground.chain }],guard:=none }) rfl (fun K hK=> ?_) AllReadyH.nil
          go_simp
          (refine Calls.mono (all_any _ 3 3 [_,_,_] _ rfl (by decide) (by decide) (by decide) (cells_new [_,_,_] _ _) ?_) ?_;(intro x hx;simp only [List.mem_cons,List.not_mem_nil,or_false] at hx;rcases hx with rfl | rfl | rfl<;>assumption);rintro e u1 ⟨⟨vz,rfl,hvz'⟩,rfl⟩;have HVZ:=Lib.hid hvz';clear hvz';simp only)
          refine hK.out _ _ ?_ (fun hHeld=> ?_)
          ·((repeat (first | assumption | refine ck4 (Chg.refl [] _).drew ?_ | refine ck4 ((Chg.refl [] _).alloc _) ?_));try exact ⟨c0,c3,c9,c10,hq⟩)
          clear hK K
          try simp only [Act.put,List.setIfInBounds_toArray,List.set_cons_zero,List.set_cons_succ]
          refine wpAnyH_take (i:=26) (oi:={ dst:=some 5,op:=Op.assign (Operand.tmp 163),type:=3,pos:= "header.go:173", after:=#[{ on:=25,ground:=Ground.data },{ on:=25,ground:=Ground.chain },{ on:=0,ground:=Ground.phase },{ on:=1,ground:=Ground.phase },{ on:=2,ground:=Ground.phase },{ on:=3,ground:=Ground.phase },{ on:=4,ground:=Ground.phase },{ on:=5,ground:=Ground.phase },{ on:=6,ground:=Ground.phase },{ on:=7,ground:=Ground.phase },{ on:=8,ground:=Ground.phase },{ on:=9,ground:=Ground.phase },{ on:=10,ground:=Ground.phase },{ on:=11,ground:=Ground.phase },{ on:=12,ground:=Ground.phase },{ on:=13,ground:=Ground.phase },{ on:=14,ground:=Ground.phase },{ on:=15,ground:=Ground.phase },{ on:=16,ground:=Ground.phase },{ on:=17,ground:=Ground.phase },{ on:=18,ground:=Ground.phase },{ on:=19,ground:=Ground.phase },{ on:=20,ground:=Ground.phase },{ on:=21,ground:=Ground.phase },{ on:=22,ground:=Ground.phase },{ on:=23,ground:=Ground.phase },{ on:=24,ground:=Ground.phase },{ on:=25,ground:=Ground.phase }],guard:=none }) (v:= ?_) rfl (by kernel_rfl) (by kernel_rfl) (by kernel_rfl) (fun _ _ _ h=>h) (Or.inl ⟨by rfl,?_⟩) hHeld ?_
          rotate_left
          ·(intro w hSw;(try dsimp only at hSw);go_simp;try (with_reducible rfl))
          try simp only [Act.put,List.setIfInBounds_toArray,List.set_cons_zero,List.set_cons_succ]
          refine wpAnyH_done (by kernel_rfl) ?_ _
          go_wp2_with fail
          go_meet
          case rel=>
           refine ⟨_,rfl,HVZ.out.mono fun e=>⟨H13.out.2 (e _ (by simp)),fun _ _=>of_decide_eq_true (HVA.out.2 (e _ (by simp))),HVB.out.2 (e _ (by simp))⟩,HS5.out.on (by first | exact hHeld.2.2.2.2 | exact Chg.ondrew hHeld.2.2.2.2)⟩
        ·have HS0:=Lib.hid s0
         cases vd
         ·cases b1
          ·have s3:(f != 1)=true:=by rw [bne,HF1.out];rfl
           have hS0:=And.intro c0 (And.intro c3 (And.intro c9 (And.intro c10 hq)))
           refine wp_region_held_drew (S:=(fun w'=>w'.cell? ⟨g,0,none⟩=some (.int .u8 t)∧w'.cell? ⟨g,3,none⟩=some (.int .i64 h.size)∧w'.cell? ⟨g,9,none⟩=some (.int .i64 h.ms)∧w'.cell? ⟨g,10,none⟩=some (.int .i64 h.mn)∧Chg [] w5 w')) (by kernel_rfl) ?_ (fun hHeld=> ?_)
           ·((repeat (first | assumption | refine ck4 (Chg.refl [] _).drew ?_ | refine ck4 ((Chg.refl [] _).alloc _) ?_));try exact ⟨c0,c3,c9,c10,hq⟩)
           refine wpAnyH_take (i:=0) (oi:={ dst:=some 138,op:=Op.move (Operand.tmp 5),type:=3,pos:= "header.go:173", after:=#[],guard:=none }) (v:= ?_) rfl (by kernel_rfl) (by kernel_rfl) (by kernel_rfl) (fun _ _ _ h=>h) (Or.inl ⟨by rfl,?_⟩) hHeld ?_
           rotate_left
           ·(intro w hSw;(try dsimp only at hSw);go_simp;try (with_reducible rfl))
           try simp only [Act.put,List.setIfInBounds_toArray,List.set_cons_zero,List.set_cons_succ]
           refine wpAnyH_take (i:=1) (oi:={ dst:=some 139,op:=Op.fieldAddr 31 (Operand.tmp 2) 3,type:=0,pos:= "header.go:173", after:=#[],guard:=none }) (v:= ?_) rfl (by kernel_rfl) (by kernel_rfl) (by kernel_rfl) (fun _ _ _ h=>h) (Or.inl ⟨by rfl,?_⟩) hHeld ?_
           rotate_left
           ·(intro w hSw;(try dsimp only at hSw);go_simp;try (with_reducible rfl))
           try simp only [Act.put,List.setIfInBounds_toArray,List.set_cons_zero,List.set_cons_succ]
           refine wpAnyH_take (i:=2) (oi:={ dst:=some 140,op:=Op.load 2 (Operand.tmp 139),type:=2,pos:= "header.go:173", after:=#[{ on:=1,ground:=Ground.data }],guard:=none }) (v:= ?_) rfl (by kernel_rfl) (by kernel_rfl) (by kernel_rfl) (fun _ _ _ h=>h) (Or.inl ⟨by rfl,?_⟩) hHeld ?_
           rotate_left
           ·(intro w hSw;(try dsimp only at hSw);go_simp;try (with_reducible rfl))
           try simp only [Act.put,List.setIfInBounds_toArray,List.set_cons_zero,List.set_cons_succ]
           refine wpAnyH_take (i:=3) (oi:={ dst:=some 141,op:=Op.binOp BinOp.geq 2 (Operand.tmp 140) (Operand.const (Value.int IntKind.i64 0)) 2,type:=4,pos:= "header.go:173", after:=#[{ on:=2,ground:=Ground.data }],guard:=none }) (v:= ?_) rfl (by kernel_rfl) (by kernel_rfl) (by kernel_rfl) (fun _ _ _ h=>h) (Or.inl ⟨by rfl,?_⟩) hHeld ?_
           rotate_left
           ·(intro w hSw;(try dsimp only at hSw);go_simp;try (with_reducible rfl))
           try simp only [Act.put,List.setIfInBounds_toArray,List.set_cons_zero,List.set_cons_succ]
           refine wpAnyH_take (i:=4) (oi:={ dst:=some 142,op:=Op.move (Operand.tmp 141),type:=4,pos:= "header.go:173", after:=#[{ on:=3,ground:=Ground.data }],guard:=none }) (v:= ?_) rfl (by kernel_rfl) (by kernel_rfl) (by kernel_rfl) (fun _ _ _ h=>h) (Or.inl ⟨by rfl,?_⟩) hHeld ?_
           rotate_left
           ·(intro w hSw;(try dsimp only at hSw);go_simp;try (with_reducible rfl))
           try simp only [Act.put,List.setIfInBounds_toArray,List.set_cons_zero,List.set_cons_succ]
           refine wpAnyH_take (i:=20) (oi:={ dst:=some 158,op:=Op.fieldAddr 31 (Operand.tmp 2) 9,type:=0,pos:= "header.go:173", after:=#[],guard:=none }) (v:= ?_) rfl (by kernel_rfl) (by kernel_rfl) (by kernel_rfl) (fun _ _ _ h=>h) (Or.inl ⟨by rfl,?_⟩) hHeld ?_
           rotate_left
           ·(intro w hSw;(try dsimp only at hSw);go_simp;try (with_reducible rfl))
           try simp only [Act.put,List.setIfInBounds_toArray,List.set_cons_zero,List.set_cons_succ]
           refine wpAnyH_take (i:=21) (oi:={ dst:=some 159,op:=Op.load 28 (Operand.tmp 158),type:=28,pos:= "header.go:173", after:=#[{ on:=20,ground:=Ground.data }],guard:=none }) (v:= ?_) rfl (by kernel_rfl) (by kernel_rfl) (by kernel_rfl) (fun _ _ _ h=>h) (Or.inl ⟨by rfl,?_⟩) hHeld ?_
           rotate_left
           ·(intro w hSw;(try dsimp only at hSw);go_simp;try (with_reducible rfl))
           try simp only [Act.put,List.setIfInBounds_toArray,List.set_cons_zero,List.set_cons_succ]
           refine wpAnyH_take (i:=22) (oi:={ dst:=some 160,op:=Op.move (Operand.tmp 1),type:=3,pos:= "header.go:173", after:=#[],guard:=none }) (v:= ?_) rfl (by kernel_rfl) (by kernel_rfl) (by kernel_rfl) (fun _ _ _ h=>h) (Or.inl ⟨by rfl,?_⟩) hHeld ?_
           rotate_left
           ·(intro w hSw;(try dsimp only at hSw);go_simp;try (with_reducible rfl))
           try simp only [Act.put,List.setIfInBounds_toArray,List.set_cons_zero,List.set_cons_succ]
           refine wpAnyH_take (i:=5) (oi:={ dst:=some 143,op:=Op.fieldAddr 31 (Operand.tmp 2) 0,type:=0,pos:= "header.go:173", after:=#[{ on:=4,ground:=Ground.guard }],guard:=some (4,false) }) (v:= ?_) rfl (by kernel_rfl) (by kernel_rfl) (by kernel_rfl) (fun _ _ _ h=>h) (Or.inl ⟨by rfl,?_⟩) hHeld ?_
           rotate_left
           ·(intro w hSw;(try dsimp only at hSw);go_simp;try (with_reducible rfl))
           try simp only [Act.put,List.setIfInBounds_toArray,List.set_cons_zero,List.set_cons_succ]
           refine wpAnyH_take (i:=6) (oi:={ dst:=some 144,op:=Op.load 5 (Operand.tmp 143),type:=5,pos:= "header.go:173", after:=#[{ on:=5,ground:=Ground.data },{ on:=4,ground:=Ground.guard }],guard:=some (4,false) }) (v:= ?_) rfl (by kernel_rfl) (by kernel_rfl) (by kernel_rfl) (fun _ _ _ h=>h) (Or.inl ⟨by rfl,?_⟩) hHeld ?_
           rotate_left
           ·(intro w hSw;(try dsimp only at hSw);go_simp;try (with_reducible rfl))
           try simp only [Act.put,List.setIfInBounds_toArray,List.set_cons_zero,List.set_cons_succ]
           refine wpAnyH_ready (rs:= [7]) (by kernel_rfl) (by simp) ?_
           refine AllReadyH.cons (o:={ dst:=some 145,op:=Op.call { callee:=Callee.value (Operand.func 44),args:=#[Operand.tmp 144],argTypes:=#[5] },type:=4,pos:= "header.go:173", after:=#[{ on:=6,ground:=Ground.data },{ on:=4,ground:=Ground.chain },{ on:=4,ground:=Ground.guard }],guard:=some (4,false) }) rfl (fun K hK=> ?_) AllReadyH.nil
           go_simp
           (refine (hasData_any t _).mono ?_;rw [HVD.out];rintro e u1 ⟨rfl,rfl⟩;simp only)
           refine hK.out _ _ ?_ (fun hHeld=> ?_)
           ·((repeat (first | assumption | refine ck4 (Chg.refl [] _).drew ?_ | refine ck4 ((Chg.refl [] _).alloc _) ?_));try exact ⟨c0,c3,c9,c10,hq⟩)
           clear hK K
           try simp only [Act.put,List.setIfInBounds_toArray,List.set_cons_zero,List.set_cons_succ]
           refine wpAnyH_take (i:=8) (oi:={ dst:=some 146,op:=Op.unOp UnOp.not 4 (Operand.tmp 145),type:=4,pos:= "header.go:173", after:=#[{ on:=7,ground:=Ground.data },{ on:=4,ground:=Ground.guard }],guard:=some (4,false) }) (v:= ?_) rfl (by kernel_rfl) (by kernel_rfl) (by kernel_rfl) (fun _ _ _ h=>h) (Or.inl ⟨by rfl,?_⟩) hHeld ?_
           rotate_left
           ·(intro w hSw;(try dsimp only at hSw);go_simp;try (with_reducible rfl))
           try simp only [Act.put,List.setIfInBounds_toArray,List.set_cons_zero,List.set_cons_succ]
           refine wpAnyH_take (i:=9) (oi:={ dst:=some 147,op:=Op.pick (Operand.tmp 142) (Operand.const (Value.bool true)) (Operand.tmp 146),type:=4,pos:= "header.go:173", after:=#[{ on:=4,ground:=Ground.data },{ on:=8,ground:=Ground.data }],guard:=none }) (v:= ?_) rfl (by kernel_rfl) (by kernel_rfl) (by kernel_rfl) (fun _ _ _ h=>h) (Or.inl ⟨by rfl,?_⟩) hHeld ?_
           rotate_left
           ·(intro w hSw;(try dsimp only at hSw);go_simp;try (with_reducible rfl))
           try simp only [Act.put,List.setIfInBounds_toArray,List.set_cons_zero,List.set_cons_succ]
           refine wpAnyH_take (i:=10) (oi:={ dst:=some 148,op:=Op.move (Operand.tmp 147),type:=4,pos:= "header.go:173", after:=#[{ on:=9,ground:=Ground.data },{ on:=7,ground:=Ground.chain }],guard:=none }) (v:= ?_) rfl (by kernel_rfl) (by kernel_rfl) (by kernel_rfl) (fun _ _ _ h=>h) (Or.inl ⟨by rfl,?_⟩) hHeld ?_
           rotate_left
           ·(intro w hSw;(try dsimp only at hSw);go_simp;try (with_reducible rfl))
           try simp only [Act.put,List.setIfInBounds_toArray,List.set_cons_zero,List.set_cons_succ]
           refine wpAnyH_take (i:=11) (oi:={ dst:=some 149,op:=Op.move (Operand.tmp 1),type:=3,pos:= "header.go:173", after:=#[{ on:=10,ground:=Ground.guard }],guard:=some (10,true) }) (v:= ?_) rfl (by kernel_rfl) (by kernel_rfl) (by kernel_rfl) (fun _ _ _ h=>h) (Or.inl ⟨by rfl,?_⟩) hHeld ?_
           rotate_left
           ·(intro w hSw;(try dsimp only at hSw);go_simp;try (with_reducible rfl))
           try simp only [Act.put,List.setIfInBounds_toArray,List.set_cons_zero,List.set_cons_succ]
           refine wpAnyH_take (i:=12) (oi:={ dst:=some 150,op:=Op.binOp BinOp.neq 3 (Operand.tmp 149) (Operand.const (Value.int IntKind.i64 1)) 3,type:=4,pos:= "header.go:173", after:=#[{ on:=11,ground:=Ground.data },{ on:=10,ground:=Ground.guard }],guard:=some (10,true) }) (v:= ?_) rfl (by kernel_rfl) (by kernel_rfl) (by kernel_rfl) (fun _ _ _ h=>h) (Or.inl ⟨by rfl,?_⟩) hHeld ?_
           rotate_left
           ·(intro w hSw;(try dsimp only at hSw);go_simp;try (with_reducible rfl))
           try simp only [Act.put,List.setIfInBounds_toArray,List.set_cons_zero,List.set_cons_succ]
           refine wpAnyH_take (i:=13) (oi:={ dst:=some 151,op:=Op.move (Operand.tmp 150),type:=4,pos:= "header.go:173", after:=#[{ on:=12,ground:=Ground.data },{ on:=10,ground:=Ground.chain },{ on:=10,ground:=Ground.guard }],guard:=some (10,true) }) (v:= ?_) rfl (by kernel_rfl) (by kernel_rfl) (by kernel_rfl) (fun _ _ _ h=>h) (Or.inl ⟨by rfl,?_⟩) hHeld ?_
           rotate_left
           ·(intro w hSw;(try dsimp only at hSw);go_simp;try (with_reducible rfl))
           try simp only [Act.put,List.setIfInBounds_toArray,List.set_cons_zero,List.set_cons_succ]
           refine wpAnyH_take (i:=14) (oi:={ dst:=some 152,op:=Op.fieldAddr 31 (Operand.tmp 2) 3,type:=0,pos:= "header.go:173", after:=#[{ on:=13,ground:=Ground.guard }],guard:=some (13,false) }) (v:=undef) rfl (by kernel_rfl) (by kernel_rfl) (by kernel_rfl) (fun _ _ _ h=>h) (Or.inr ⟨by rfl,rfl⟩) hHeld ?_
           try simp only [Act.put,List.setIfInBounds_toArray,List.set_cons_zero,List.set_cons_succ]
           refine wpAnyH_take (i:=15) (oi:={ dst:=some 153,op:=Op.load 2 (Operand.tmp 152),type:=2,pos:= "header.go:173", after:=#[{ on:=14,ground:=Ground.data },{ on:=13,ground:=Ground.guard }],guard:=some (13,false) }) (v:=undef) rfl (by kernel_rfl) (by kernel_rfl) (by kernel_rfl) (fun _ _ _ h=>h) (Or.inr ⟨by rfl,rfl⟩) hHeld ?_
           try simp only [Act.put,List.setIfInBounds_toArray,List.set_cons_zero,List.set_cons_succ]
           refine wpAnyH_take (i:=16) (oi:={ dst:=some 154,op:=Op.binOp BinOp.lss 2 (Operand.tmp 153) (Operand.const (Value.int IntKind.i64 8589934592)) 2,type:=4,pos:= "header.go:173", after:=#[{ on:=15,ground:=Ground.data },{ on:=13,ground:=Ground.guard }],guard:=some (13,false) }) (v:=undef) rfl (by kernel_rfl) (by kernel_rfl) (by kernel_rfl) (fun _ _ _ h=>h) (Or.inr ⟨by rfl,rfl⟩) hHeld ?_
           try simp only [Act.put,List.setIfInBounds_toArray,List.set_cons_zero,List.set_cons_succ]
           refine wpAnyH_take (i:=17) (oi:={ dst:=some 155,op:=Op.pick (Operand.tmp 151) (Operand.const (Value.bool true)) (Operand.tmp 154),type:=4,pos:= "header.go:173", after:=#[{ on:=13,ground:=Ground.data },{ on:=16,ground:=Ground.data },{ on:=10,ground:=Ground.guard }],guard:=some (10,true) }) (v:= ?_) rfl (by kernel_rfl) (by kernel_rfl) (by kernel_rfl) (fun _ _ _ h=>h) (Or.inl ⟨by rfl,?_⟩) hHeld ?_
           rotate_left
           ·(intro w hSw;(try dsimp only at hSw);go_simp;try (with_reducible rfl))
           try simp only [Act.put,List.setIfInBounds_toArray,List.set_cons_zero,List.set_cons_succ]
           refine wpAnyH_take (i:=18) (oi:={ dst:=some 156,op:=Op.pick (Operand.tmp 148) (Operand.tmp 155) (Operand.const (Value.bool false)),type:=4,pos:= "header.go:173", after:=#[{ on:=10,ground:=Ground.data },{ on:=17,ground:=Ground.data }],guard:=none }) (v:= ?_) rfl (by kernel_rfl) (by kernel_rfl) (by kernel_rfl) (fun _ _ _ h=>h) (Or.inl ⟨by rfl,?_⟩) hHeld ?_
           rotate_left
           ·(intro w hSw;(try dsimp only at hSw);go_simp;try (with_reducible rfl))
           try simp only [Act.put,List.setIfInBounds_toArray,List.set_cons_zero,List.set_cons_succ]
           refine wpAnyH_ready (rs:= [19]) (by kernel_rfl) (by simp) ?_
           refine AllReadyH.cons (o:={ dst:=some 157,op:=Op.call { callee:=Callee.value (Operand.func 55),args:=#[Operand.tmp 156],argTypes:=#[4] },type:=3,pos:= "header.go:173", after:=#[{ on:=18,ground:=Ground.data },{ on:=13,ground:=Ground.chain }],guard:=none }) rfl (fun K hK=> ?_) AllReadyH.nil
           go_simp
           (refine (when_any _ _).mono ?_;rintro e u1 ⟨⟨va,rfl,hva⟩,rfl⟩;have hva1:=hva.val;have HVA:=Lib.hid hva;clear hva;simp only)
           refine hK.out _ _ ?_ (fun hHeld=> ?_)
           ·((repeat (first | assumption | refine ck4 (Chg.refl [] _).drew ?_ | refine ck4 ((Chg.refl [] _).alloc _) ?_));try exact ⟨c0,c3,c9,c10,hq⟩)
           clear hK K
           try simp only [Act.put,List.setIfInBounds_toArray,List.set_cons_zero,List.set_cons_succ]
           refine wpAnyH_ready (rs:= [23]) (by kernel_rfl) (by simp) ?_
           refine AllReadyH.cons (o:={ dst:=some 161,op:=Op.call { callee:=Callee.value (Operand.func 60),args:=#[Operand.tmp 159,Operand.tmp 160],argTypes:=#[28,3] },type:=3,pos:= "header.go:173", after:=#[{ on:=21,ground:=Ground.data },{ on:=22,ground:=Ground.data },{ on:=19,ground:=Ground.chain }],guard:=none }) rfl (fun K hK=> ?_) AllReadyH.nil
           go_simp
           (refine (moment_any _ _ _ _ HF.out).mono ?_;rintro e u1 ⟨⟨vb,rfl,hvb⟩,hu1⟩;have hvb1:=hvb.val;have HVB:=Lib.hid hvb;have hqq:=ck4 hu1 hHeld;clear hvb hu1;simp only)
           refine hK.out _ _ ?_ (fun hHeld=> ?_)
           ·((repeat (first | assumption | refine ck4 (Chg.refl [] _).drew ?_ | refine ck4 ((Chg.refl [] _).alloc _) ?_));try exact ⟨c0,c3,c9,c10,hq⟩)
           clear hK K
           try simp only [Act.put,List.setIfInBounds_toArray,List.set_cons_zero,List.set_cons_succ]
           refine wpAnyH_ready (rs:= [24]) (by kernel_rfl) (by simp) ?_
           refine AllReadyH.cons (o:={ dst:=some 162,op:=Op.buildSlice 169 3 #[(0,Operand.tmp 138),(1,Operand.tmp 157),(2,Operand.tmp 161)],type:=169,pos:= "header.go:173", after:=#[{ on:=0,ground:=Ground.data },{ on:=19,ground:=Ground.data },{ on:=23,ground:=Ground.data }],guard:=none }) rfl (fun K hK=> ?_) AllReadyH.nil
           go_simp
           refine hK.out _ _ ?_ (fun hHeld=> ?_)
           ·((repeat (first | assumption | refine ck4 (Chg.refl [] _).drew ?_ | refine ck4 ((Chg.refl [] _).alloc _) ?_));try exact ⟨c0,c3,c9,c10,hq⟩)
           clear hK K
           try simp only [Act.put,List.setIfInBounds_toArray,List.set_cons_zero,List.set_cons_succ]
           refine wpAnyH_ready (rs:= [25]) (by kernel_rfl) (by simp) ?_
           refine AllReadyH.cons (o:={ dst:=some 163,op:=Op.call { callee:=Callee.value (Operand.func 57),args:=#[Operand.tmp 162],argTypes:=#[169] },type:=3,pos:= "header.go:173", after:=#[{ on:=24,ground:=Ground.data },{ on:=23,ground:=Ground.chain }],guard:=none }) rfl (fun K hK=> ?_) AllReadyH.nil
           go_simp
           (refine Calls.mono (all_any _ 3 3 [_,_,_] _ rfl (by decide) (by decide) (by decide) (cells_new [_,_,_] _ _) ?_) ?_;(intro x hx;simp only [List.mem_cons,List.not_mem_nil,or_false] at hx;rcases hx with rfl | rfl | rfl<;>assumption);rintro e u1 ⟨⟨vz,rfl,hvz'⟩,rfl⟩;have HVZ:=Lib.hid hvz';clear hvz';simp only)
           refine hK.out _ _ ?_ (fun hHeld=> ?_)
           ·((repeat (first | assumption | refine ck4 (Chg.refl [] _).drew ?_ | refine ck4 ((Chg.refl [] _).alloc _) ?_));try exact ⟨c0,c3,c9,c10,hq⟩)
           clear hK K
           try simp only [Act.put,List.setIfInBounds_toArray,List.set_cons_zero,List.set_cons_succ]
           refine wpAnyH_take (i:=26) (oi:={ dst:=some 5,op:=Op.assign (Operand.tmp 163),type:=3,pos:= "header.go:173", after:=#[{ on:=25,ground:=Ground.data },{ on:=25,ground:=Ground.chain },{ on:=0,ground:=Ground.phase },{ on:=1,ground:=Ground.phase },{ on:=2,ground:=Ground.phase },{ on:=3,ground:=Ground.phase },{ on:=4,ground:=Ground.phase },{ on:=5,ground:=Ground.phase },{ on:=6,ground:=Ground.phase },{ on:=7,ground:=Ground.phase },{ on:=8,ground:=Ground.phase },{ on:=9,ground:=Ground.phase },{ on:=10,ground:=Ground.phase },{ on:=11,ground:=Ground.phase },{ on:=12,ground:=Ground.phase },{ on:=13,ground:=Ground.phase },{ on:=14,ground:=Ground.phase },{ on:=15,ground:=Ground.phase },{ on:=16,ground:=Ground.phase },{ on:=17,ground:=Ground.phase },{ on:=18,ground:=Ground.phase },{ on:=19,ground:=Ground.phase },{ on:=20,ground:=Ground.phase },{ on:=21,ground:=Ground.phase },{ on:=22,ground:=Ground.phase },{ on:=23,ground:=Ground.phase },{ on:=24,ground:=Ground.phase },{ on:=25,ground:=Ground.phase }],guard:=none }) (v:= ?_) rfl (by kernel_rfl) (by kernel_rfl) (by kernel_rfl) (fun _ _ _ h=>h) (Or.inl ⟨by rfl,?_⟩) hHeld ?_
           rotate_left
           ·(intro w hSw;(try dsimp only at hSw);go_simp;try (with_reducible rfl))
           try simp only [Act.put,List.setIfInBounds_toArray,List.set_cons_zero,List.set_cons_succ]
           refine wpAnyH_done (by kernel_rfl) ?_ _
           go_wp2_with fail
           go_meet
           case rel=>
            refine ⟨_,rfl,HVZ.out.mono fun e=>⟨H13.out.2 (e _ (by simp)),fun e0=>absurd e0 (by have:=HS0.out;omega),HVB.out.2 (e _ (by simp))⟩,HS5.out.on (by first | exact hHeld.2.2.2.2 | exact Chg.ondrew hHeld.2.2.2.2)⟩
          ·have s3:(f != 1)=false:=by rw [bne,HF1.out];rfl
           have hS0:=And.intro c0 (And.intro c3 (And.intro c9 (And.intro c10 hq)))
           refine wp_region_held_drew (S:=(fun w'=>w'.cell? ⟨g,0,none⟩=some (.int .u8 t)∧w'.cell? ⟨g,3,none⟩=some (.int .i64 h.size)∧w'.cell? ⟨g,9,none⟩=some (.int .i64 h.ms)∧w'.cell? ⟨g,10,none⟩=some (.int .i64 h.mn)∧Chg [] w5 w')) (by kernel_rfl) ?_ (fun hHeld=> ?_)
           ·((repeat (first | assumption | refine ck4 (Chg.refl [] _).drew ?_ | refine ck4 ((Chg.refl [] _).alloc _) ?_));try exact ⟨c0,c3,c9,c10,hq⟩)
           refine wpAnyH_take (i:=0) (oi:={ dst:=some 138,op:=Op.move (Operand.tmp 5),type:=3,pos:= "header.go:173", after:=#[],guard:=none }) (v:= ?_) rfl (by kernel_rfl) (by kernel_rfl) (by kernel_rfl) (fun _ _ _ h=>h) (Or.inl ⟨by rfl,?_⟩) hHeld ?_
           rotate_left
           ·(intro w hSw;(try dsimp only at hSw);go_simp;try (with_reducible rfl))
           try simp only [Act.put,List.setIfInBounds_toArray,List.set_cons_zero,List.set_cons_succ]
           refine wpAnyH_take (i:=1) (oi:={ dst:=some 139,op:=Op.fieldAddr 31 (Operand.tmp 2) 3,type:=0,pos:= "header.go:173", after:=#[],guard:=none }) (v:= ?_) rfl (by kernel_rfl) (by kernel_rfl) (by kernel_rfl) (fun _ _ _ h=>h) (Or.inl ⟨by rfl,?_⟩) hHeld ?_
           rotate_left
           ·(intro w hSw;(try dsimp only at hSw);go_simp;try (with_reducible rfl))
           try simp only [Act.put,List.setIfInBounds_toArray,List.set_cons_zero,List.set_cons_succ]
           refine wpAnyH_take (i:=2) (oi:={ dst:=some 140,op:=Op.load 2 (Operand.tmp 139),type:=2,pos:= "header.go:173", after:=#[{ on:=1,ground:=Ground.data }],guard:=none }) (v:= ?_) rfl (by kernel_rfl) (by kernel_rfl) (by kernel_rfl) (fun _ _ _ h=>h) (Or.inl ⟨by rfl,?_⟩) hHeld ?_
           rotate_left
           ·(intro w hSw;(try dsimp only at hSw);go_simp;try (with_reducible rfl))
           try simp only [Act.put,List.setIfInBounds_toArray,List.set_cons_zero,List.set_cons_succ]
           refine wpAnyH_take (i:=3) (oi:={ dst:=some 141,op:=Op.binOp BinOp.geq 2 (Operand.tmp 140) (Operand.const (Value.int IntKind.i64 0)) 2,type:=4,pos:= "header.go:173", after:=#[{ on:=2,ground:=Ground.data }],guard:=none }) (v:= ?_) rfl (by kernel_rfl) (by kernel_rfl) (by kernel_rfl) (fun _ _ _ h=>h) (Or.inl ⟨by rfl,?_⟩) hHeld ?_
           rotate_left
           ·(intro w hSw;(try dsimp only at hSw);go_simp;try (with_reducible rfl))
           try simp only [Act.put,List.setIfInBounds_toArray,List.set_cons_zero,List.set_cons_succ]
           refine wpAnyH_take (i:=4) (oi:={ dst:=some 142,op:=Op.move (Operand.tmp 141),type:=4,pos:= "header.go:173", after:=#[{ on:=3,ground:=Ground.data }],guard:=none }) (v:= ?_) rfl (by kernel_rfl) (by kernel_rfl) (by kernel_rfl) (fun _ _ _ h=>h) (Or.inl ⟨by rfl,?_⟩) hHeld ?_
           rotate_left
           ·(intro w hSw;(try dsimp only at hSw);go_simp;try (with_reducible rfl))
           try simp only [Act.put,List.setIfInBounds_toArray,List.set_cons_zero,List.set_cons_succ]
           refine wpAnyH_take (i:=20) (oi:={ dst:=some 158,op:=Op.fieldAddr 31 (Operand.tmp 2) 9,type:=0,pos:= "header.go:173", after:=#[],guard:=none }) (v:= ?_) rfl (by kernel_rfl) (by kernel_rfl) (by kernel_rfl) (fun _ _ _ h=>h) (Or.inl ⟨by rfl,?_⟩) hHeld ?_
           rotate_left
           ·(intro w hSw;(try dsimp only at hSw);go_simp;try (with_reducible rfl))
           try simp only [Act.put,List.setIfInBounds_toArray,List.set_cons_zero,List.set_cons_succ]
           refine wpAnyH_take (i:=21) (oi:={ dst:=some 159,op:=Op.load 28 (Operand.tmp 158),type:=28,pos:= "header.go:173", after:=#[{ on:=20,ground:=Ground.data }],guard:=none }) (v:= ?_) rfl (by kernel_rfl) (by kernel_rfl) (by kernel_rfl) (fun _ _ _ h=>h) (Or.inl ⟨by rfl,?_⟩) hHeld ?_
           rotate_left
           ·(intro w hSw;(try dsimp only at hSw);go_simp;try (with_reducible rfl))
           try simp only [Act.put,List.setIfInBounds_toArray,List.set_cons_zero,List.set_cons_succ]
           refine wpAnyH_take (i:=22) (oi:={ dst:=some 160,op:=Op.move (Operand.tmp 1),type:=3,pos:= "header.go:173", after:=#[],guard:=none }) (v:= ?_) rfl (by kernel_rfl) (by kernel_rfl) (by kernel_rfl) (fun _ _ _ h=>h) (Or.inl ⟨by rfl,?_⟩) hHeld ?_
           rotate_left
           ·(intro w hSw;(try dsimp only at hSw);go_simp;try (with_reducible rfl))
           try simp only [Act.put,List.setIfInBounds_toArray,List.set_cons_zero,List.set_cons_succ]
           refine wpAnyH_take (i:=5) (oi:={ dst:=some 143,op:=Op.fieldAddr 31 (Operand.tmp 2) 0,type:=0,pos:= "header.go:173", after:=#[{ on:=4,ground:=Ground.guard }],guard:=some (4,false) }) (v:= ?_) rfl (by kernel_rfl) (by kernel_rfl) (by kernel_rfl) (fun _ _ _ h=>h) (Or.inl ⟨by rfl,?_⟩) hHeld ?_
           rotate_left
           ·(intro w hSw;(try dsimp only at hSw);go_simp;try (with_reducible rfl))
           try simp only [Act.put,List.setIfInBounds_toArray,List.set_cons_zero,List.set_cons_succ]
           refine wpAnyH_take (i:=6) (oi:={ dst:=some 144,op:=Op.load 5 (Operand.tmp 143),type:=5,pos:= "header.go:173", after:=#[{ on:=5,ground:=Ground.data },{ on:=4,ground:=Ground.guard }],guard:=some (4,false) }) (v:= ?_) rfl (by kernel_rfl) (by kernel_rfl) (by kernel_rfl) (fun _ _ _ h=>h) (Or.inl ⟨by rfl,?_⟩) hHeld ?_
           rotate_left
           ·(intro w hSw;(try dsimp only at hSw);go_simp;try (with_reducible rfl))
           try simp only [Act.put,List.setIfInBounds_toArray,List.set_cons_zero,List.set_cons_succ]
           refine wpAnyH_ready (rs:= [7]) (by kernel_rfl) (by simp) ?_
           refine AllReadyH.cons (o:={ dst:=some 145,op:=Op.call { callee:=Callee.value (Operand.func 44),args:=#[Operand.tmp 144],argTypes:=#[5] },type:=4,pos:= "header.go:173", after:=#[{ on:=6,ground:=Ground.data },{ on:=4,ground:=Ground.chain },{ on:=4,ground:=Ground.guard }],guard:=some (4,false) }) rfl (fun K hK=> ?_) AllReadyH.nil
           go_simp
           (refine (hasData_any t _).mono ?_;rw [HVD.out];rintro e u1 ⟨rfl,rfl⟩;simp only)
           refine hK.out _ _ ?_ (fun hHeld=> ?_)
           ·((repeat (first | assumption | refine ck4 (Chg.refl [] _).drew ?_ | refine ck4 ((Chg.refl [] _).alloc _) ?_));try exact ⟨c0,c3,c9,c10,hq⟩)
           clear hK K
           try simp only [Act.put,List.setIfInBounds_toArray,List.set_cons_zero,List.set_cons_succ]
           refine wpAnyH_take (i:=8) (oi:={ dst:=some 146,op:=Op.unOp UnOp.not 4 (Operand.tmp 145),type:=4,pos:= "header.go:173", after:=#[{ on:=7,ground:=Ground.data },{ on:=4,ground:=Ground.guard }],guard:=some (4,false) }) (v:= ?_) rfl (by kernel_rfl) (by kernel_rfl) (by kernel_rfl) (fun _ _ _ h=>h) (Or.inl ⟨by rfl,?_⟩) hHeld ?_
           rotate_left
           ·(intro w hSw;(try dsimp only at hSw);go_simp;try (with_reducible rfl))
           try simp only [Act.put,List.setIfInBounds_toArray,List.set_cons_zero,List.set_cons_succ]
           refine wpAnyH_take (i:=9) (oi:={ dst:=some 147,op:=Op.pick (Operand.tmp 142) (Operand.const (Value.bool true)) (Operand.tmp 146),type:=4,pos:= "header.go:173", after:=#[{ on:=4,ground:=Ground.data },{ on:=8,ground:=Ground.data }],guard:=none }) (v:= ?_) rfl (by kernel_rfl) (by kernel_rfl) (by kernel_rfl) (fun _ _ _ h=>h) (Or.inl ⟨by rfl,?_⟩) hHeld ?_
           rotate_left
           ·(intro w hSw;(try dsimp only at hSw);go_simp;try (with_reducible rfl))
           try simp only [Act.put,List.setIfInBounds_toArray,List.set_cons_zero,List.set_cons_succ]
           refine wpAnyH_take (i:=10) (oi:={ dst:=some 148,op:=Op.move (Operand.tmp 147),type:=4,pos:= "header.go:173", after:=#[{ on:=9,ground:=Ground.data },{ on:=7,ground:=Ground.chain }],guard:=none }) (v:= ?_) rfl (by kernel_rfl) (by kernel_rfl) (by kernel_rfl) (fun _ _ _ h=>h) (Or.inl ⟨by rfl,?_⟩) hHeld ?_
           rotate_left
           ·(intro w hSw;(try dsimp only at hSw);go_simp;try (with_reducible rfl))
           try simp only [Act.put,List.setIfInBounds_toArray,List.set_cons_zero,List.set_cons_succ]
           refine wpAnyH_take (i:=11) (oi:={ dst:=some 149,op:=Op.move (Operand.tmp 1),type:=3,pos:= "header.go:173", after:=#[{ on:=10,ground:=Ground.guard }],guard:=some (10,true) }) (v:= ?_) rfl (by kernel_rfl) (by kernel_rfl) (by kernel_rfl) (fun _ _ _ h=>h) (Or.inl ⟨by rfl,?_⟩) hHeld ?_
           rotate_left
           ·(intro w hSw;(try dsimp only at hSw);go_simp;try (with_reducible rfl))
           try simp only [Act.put,List.setIfInBounds_toArray,List.set_cons_zero,List.set_cons_succ]
           refine wpAnyH_take (i:=12) (oi:={ dst:=some 150,op:=Op.binOp BinOp.neq 3 (Operand.tmp 149) (Operand.const (Value.int IntKind.i64 1)) 3,type:=4,pos:= "header.go:173", after:=#[{ on:=11,ground:=Ground.data },{ on:=10,ground:=Ground.guard }],guard:=some (10,true) }) (v:= ?_) rfl (by kernel_rfl) (by kernel_rfl) (by kernel_rfl) (fun _ _ _ h=>h) (Or.inl ⟨by rfl,?_⟩) hHeld ?_
           rotate_left
           ·(intro w hSw;(try dsimp only at hSw);go_simp;try (with_reducible rfl))
           try simp only [Act.put,List.setIfInBounds_toArray,List.set_cons_zero,List.set_cons_succ]
           refine wpAnyH_take (i:=13) (oi:={ dst:=some 151,op:=Op.move (Operand.tmp 150),type:=4,pos:= "header.go:173", after:=#[{ on:=12,ground:=Ground.data },{ on:=10,ground:=Ground.chain },{ on:=10,ground:=Ground.guard }],guard:=some (10,true) }) (v:= ?_) rfl (by kernel_rfl) (by kernel_rfl) (by kernel_rfl) (fun _ _ _ h=>h) (Or.inl ⟨by rfl,?_⟩) hHeld ?_
           rotate_left
           ·(intro w hSw;(try dsimp only at hSw);go_simp;try (with_reducible rfl))
           try simp only [Act.put,List.setIfInBounds_toArray,List.set_cons_zero,List.set_cons_succ]
           refine wpAnyH_take (i:=14) (oi:={ dst:=some 152,op:=Op.fieldAddr 31 (Operand.tmp 2) 3,type:=0,pos:= "header.go:173", after:=#[{ on:=13,ground:=Ground.guard }],guard:=some (13,false) }) (v:= ?_) rfl (by kernel_rfl) (by kernel_rfl) (by kernel_rfl) (fun _ _ _ h=>h) (Or.inl ⟨by rfl,?_⟩) hHeld ?_
           rotate_left
           ·(intro w hSw;(try dsimp only at hSw);go_simp;try (with_reducible rfl))
           try simp only [Act.put,List.setIfInBounds_toArray,List.set_cons_zero,List.set_cons_succ]
           refine wpAnyH_take (i:=15) (oi:={ dst:=some 153,op:=Op.load 2 (Operand.tmp 152),type:=2,pos:= "header.go:173", after:=#[{ on:=14,ground:=Ground.data },{ on:=13,ground:=Ground.guard }],guard:=some (13,false) }) (v:= ?_) rfl (by kernel_rfl) (by kernel_rfl) (by kernel_rfl) (fun _ _ _ h=>h) (Or.inl ⟨by rfl,?_⟩) hHeld ?_
           rotate_left
           ·(intro w hSw;(try dsimp only at hSw);go_simp;try (with_reducible rfl))
           try simp only [Act.put,List.setIfInBounds_toArray,List.set_cons_zero,List.set_cons_succ]
           refine wpAnyH_take (i:=16) (oi:={ dst:=some 154,op:=Op.binOp BinOp.lss 2 (Operand.tmp 153) (Operand.const (Value.int IntKind.i64 8589934592)) 2,type:=4,pos:= "header.go:173", after:=#[{ on:=15,ground:=Ground.data },{ on:=13,ground:=Ground.guard }],guard:=some (13,false) }) (v:= ?_) rfl (by kernel_rfl) (by kernel_rfl) (by kernel_rfl) (fun _ _ _ h=>h) (Or.inl ⟨by rfl,?_⟩) hHeld ?_
           rotate_left
           ·(intro w hSw;(try dsimp only at hSw);go_simp;try (with_reducible rfl))
           try simp only [Act.put,List.setIfInBounds_toArray,List.set_cons_zero,List.set_cons_succ]
           refine wpAnyH_take (i:=17) (oi:={ dst:=some 155,op:=Op.pick (Operand.tmp 151) (Operand.const (Value.bool true)) (Operand.tmp 154),type:=4,pos:= "header.go:173", after:=#[{ on:=13,ground:=Ground.data },{ on:=16,ground:=Ground.data },{ on:=10,ground:=Ground.guard }],guard:=some (10,true) }) (v:= ?_) rfl (by kernel_rfl) (by kernel_rfl) (by kernel_rfl) (fun _ _ _ h=>h) (Or.inl ⟨by rfl,?_⟩) hHeld ?_
           rotate_left
           ·(intro w hSw;(try dsimp only at hSw);go_simp;try (with_reducible rfl))
           try simp only [Act.put,List.setIfInBounds_toArray,List.set_cons_zero,List.set_cons_succ]
           refine wpAnyH_take (i:=18) (oi:={ dst:=some 156,op:=Op.pick (Operand.tmp 148) (Operand.tmp 155) (Operand.const (Value.bool false)),type:=4,pos:= "header.go:173", after:=#[{ on:=10,ground:=Ground.data },{ on:=17,ground:=Ground.data }],guard:=none }) (v:= ?_) rfl (by kernel_rfl) (by kernel_rfl) (by kernel_rfl) (fun _ _ _ h=>h) (Or.inl ⟨by rfl,?_⟩) hHeld ?_
           rotate_left
           ·(intro w hSw;(try dsimp only at hSw);go_simp;try (with_reducible rfl))
           try simp only [Act.put,List.setIfInBounds_toArray,List.set_cons_zero,List.set_cons_succ]
           refine wpAnyH_ready (rs:= [19]) (by kernel_rfl) (by simp) ?_
           refine AllReadyH.cons (o:={ dst:=some 157,op:=Op.call { callee:=Callee.value (Operand.func 55),args:=#[Operand.tmp 156],argTypes:=#[4] },type:=3,pos:= "header.go:173", after:=#[{ on:=18,ground:=Ground.data },{ on:=13,ground:=Ground.chain }],guard:=none }) rfl (fun K hK=> ?_) AllReadyH.nil
           go_simp
           (refine (when_any _ _).mono ?_;rintro e u1 ⟨⟨va,rfl,hva⟩,rfl⟩;have hva1:=hva.val;have HVA:=Lib.hid hva;clear hva;simp only)
           refine hK.out _ _ ?_ (fun hHeld=> ?_)
           ·((repeat (first | assumption | refine ck4 (Chg.refl [] _).drew ?_ | refine ck4 ((Chg.refl [] _).alloc _) ?_));try exact ⟨c0,c3,c9,c10,hq⟩)
           clear hK K
           try simp only [Act.put,List.setIfInBounds_toArray,List.set_cons_zero,List.set_cons_succ]
           refine wpAnyH_ready (rs:= [23]) (by kernel_rfl) (by simp) ?_
           refine AllReadyH.cons (o:={ dst:=some 161,op:=Op.call { callee:=Callee.value (Operand.func 60),args:=#[Operand.tmp 159,Operand.tmp 160],argTypes:=#[28,3] },type:=3,pos:= "header.go:173", after:=#[{ on:=21,ground:=Ground.data },{ on:=22,ground:=Ground.data },{ on:=19,ground:=Ground.chain }],guard:=none }) rfl (fun K hK=> ?_) AllReadyH.nil
           go_simp
           (refine (moment_any _ _ _ _ HF.out).mono ?_;rintro e u1 ⟨⟨vb,rfl,hvb⟩,hu1⟩;have hvb1:=hvb.val;have HVB:=Lib.hid hvb;have hqq:=ck4 hu1 hHeld;clear hvb hu1;simp only)
           refine hK.out _ _ ?_ (fun hHeld=> ?_)
           ·((repeat (first | assumption | refine ck4 (Chg.refl [] _).drew ?_ | refine ck4 ((Chg.refl [] _).alloc _) ?_));try exact ⟨c0,c3,c9,c10,hq⟩)
           clear hK K
           try simp only [Act.put,List.setIfInBounds_toArray,List.set_cons_zero,List.set_cons_succ]
           refine wpAnyH_ready (rs:= [24]) (by kernel_rfl) (by simp) ?_
           refine AllReadyH.cons (o:={ dst:=some 162,op:=Op.buildSlice 169 3 #[(0,Operand.tmp 138),(1,Operand.tmp 157),(2,Operand.tmp 161)],type:=169,pos:= "header.go:173", after:=#[{ on:=0,ground:=Ground.data },{ on:=19,ground:=Ground.data },{ on:=23,ground:=Ground.data }],guard:=none }) rfl (fun K hK=> ?_) AllReadyH.nil
           go_simp
           refine hK.out _ _ ?_ (fun hHeld=> ?_)
           ·((repeat (first | assumption | refine ck4 (Chg.refl [] _).drew ?_ | refine ck4 ((Chg.refl [] _).alloc _) ?_));try exact ⟨c0,c3,c9,c10,hq⟩)
           clear hK K
           try simp only [Act.put,List.setIfInBounds_toArray,List.set_cons_zero,List.set_cons_succ]
           refine wpAnyH_ready (rs:= [25]) (by kernel_rfl) (by simp) ?_
           refine AllReadyH.cons (o:={ dst:=some 163,op:=Op.call { callee:=Callee.value (Operand.func 57),args:=#[Operand.tmp 162],argTypes:=#[169] },type:=3,pos:= "header.go:173", after:=#[{ on:=24,ground:=Ground.data },{ on:=23,ground:=Ground.chain }],guard:=none }) rfl (fun K hK=> ?_) AllReadyH.nil
           go_simp
           (refine Calls.mono (all_any _ 3 3 [_,_,_] _ rfl (by decide) (by decide) (by decide) (cells_new [_,_,_] _ _) ?_) ?_;(intro x hx;simp only [List.mem_cons,List.not_mem_nil,or_false] at hx;rcases hx with rfl | rfl | rfl<;>assumption);rintro e u1 ⟨⟨vz,rfl,hvz'⟩,rfl⟩;have HVZ:=Lib.hid hvz';clear hvz';simp only)
           refine hK.out _ _ ?_ (fun hHeld=> ?_)
           ·((repeat (first | assumption | refine ck4 (Chg.refl [] _).drew ?_ | refine ck4 ((Chg.refl [] _).alloc _) ?_));try exact ⟨c0,c3,c9,c10,hq⟩)
           clear hK K
           try simp only [Act.put,List.setIfInBounds_toArray,List.set_cons_zero,List.set_cons_succ]
           refine wpAnyH_take (i:=26) (oi:={ dst:=some 5,op:=Op.assign (Operand.tmp 163),type:=3,pos:= "header.go:173", after:=#[{ on:=25,ground:=Ground.data },{ on:=25,ground:=Ground.chain },{ on:=0,ground:=Ground.phase },{ on:=1,ground:=Ground.phase },{ on:=2,ground:=Ground.phase },{ on:=3,ground:=Ground.phase },{ on:=4,ground:=Ground.phase },{ on:=5,ground:=Ground.phase },{ on:=6,ground:=Ground.phase },{ on:=7,ground:=Ground.phase },{ on:=8,ground:=Ground.phase },{ on:=9,ground:=Ground.phase },{ on:=10,ground:=Ground.phase },{ on:=11,ground:=Ground.phase },{ on:=12,ground:=Ground.phase },{ on:=13,ground:=Ground.phase },{ on:=14,ground:=Ground.phase },{ on:=15,ground:=Ground.phase },{ on:=16,ground:=Ground.phase },{ on:=17,ground:=Ground.phase },{ on:=18,ground:=Ground.phase },{ on:=19,ground:=Ground.phase },{ on:=20,ground:=Ground.phase },{ on:=21,ground:=Ground.phase },{ on:=22,ground:=Ground.phase },{ on:=23,ground:=Ground.phase },{ on:=24,ground:=Ground.phase },{ on:=25,ground:=Ground.phase }],guard:=none }) (v:= ?_) rfl (by kernel_rfl) (by kernel_rfl) (by kernel_rfl) (fun _ _ _ h=>h) (Or.inl ⟨by rfl,?_⟩) hHeld ?_
           rotate_left
           ·(intro w hSw;(try dsimp only at hSw);go_simp;try (with_reducible rfl))
           try simp only [Act.put,List.setIfInBounds_toArray,List.set_cons_zero,List.set_cons_succ]
           refine wpAnyH_done (by kernel_rfl) ?_ _
           go_wp2_with fail
           go_meet
           case rel=>
            refine ⟨_,rfl,HVZ.out.mono fun e=>⟨H13.out.2 (e _ (by simp)),fun e0=>absurd e0 (by have:=HS0.out;omega),HVB.out.2 (e _ (by simp))⟩,HS5.out.on (by first | exact hHeld.2.2.2.2 | exact Chg.ondrew hHeld.2.2.2.2)⟩
         ·skip
          have hS0:=And.intro c0 (And.intro c3 (And.intro c9 (And.intro c10 hq)))
          refine wp_region_held_drew (S:=(fun w'=>w'.cell? ⟨g,0,none⟩=some (.int .u8 t)∧w'.cell? ⟨g,3,none⟩=some (.int .i64 h.size)∧w'.cell? ⟨g,9,none⟩=some (.int .i64 h.ms)∧w'.cell? ⟨g,10,none⟩=some (.int .i64 h.mn)∧Chg [] w5 w')) (by kernel_rfl) ?_ (fun hHeld=> ?_)
          ·((repeat (first | assumption | refine ck4 (Chg.refl [] _).drew ?_ | refine ck4 ((Chg.refl [] _).alloc _) ?_));try exact ⟨c0,c3,c9,c10,hq⟩)
          refine wpAnyH_take (i:=0) (oi:={ dst:=some 138,op:=Op.move (Operand.tmp 5),type:=3,pos:= "header.go:173", after:=#[],guard:=none }) (v:= ?_) rfl (by kernel_rfl) (by kernel_rfl) (by kernel_rfl) (fun _ _ _ h=>h) (Or.inl ⟨by rfl,?_⟩) hHeld ?_
          rotate_left
          ·(intro w hSw;(try dsimp only at hSw);go_simp;try (with_reducible rfl))
          try simp only [Act.put,List.setIfInBounds_toArray,List.set_cons_zero,List.set_cons_succ]
          refine wpAnyH_take (i:=1) (oi:={ dst:=some 139,op:=Op.fieldAddr 31 (Operand.tmp 2) 3,type:=0,pos:= "header.go:173", after:=#[],guard:=none }) (v:= ?_) rfl (by kernel_rfl) (by kernel_rfl) (by kernel_rfl) (fun _ _ _ h=>h) (Or.inl ⟨by rfl,?_⟩) hHeld ?_
          rotate_left
          ·(intro w hSw;(try dsimp only at hSw);go_simp;try (with_reducible rfl))
          try simp only [Act.put,List.setIfInBounds_toArray,List.set_cons_zero,List.set_cons_succ]
          refine wpAnyH_take (i:=2) (oi:={ dst:=some 140,op:=Op.load 2 (Operand.tmp 139),type:=2,pos:= "header.go:173", after:=#[{ on:=1,ground:=Ground.data }],guard:=none }) (v:= ?_) rfl (by kernel_rfl) (by kernel_rfl) (by kernel_rfl) (fun _ _ _ h=>h) (Or.inl ⟨by rfl,?_⟩) hHeld ?_
          rotate_left
          ·(intro w hSw;(try dsimp only at hSw);go_simp;try (with_reducible rfl))
          try simp only [Act.put,List.setIfInBounds_toArray,List.set_cons_zero,List.set_cons_succ]
          refine wpAnyH_take (i:=3) (oi:={ dst:=some 141,op:=Op.binOp BinOp.geq 2 (Operand.tmp 140) (Operand.const (Value.int IntKind.i64 0)) 2,type:=4,pos:= "header.go:173", after:=#[{ on:=2,ground:=Ground.data }],guard:=none }) (v:= ?_) rfl (by kernel_rfl) (by kernel_rfl) (by kernel_rfl) (fun _ _ _ h=>h) (Or.inl ⟨by rfl,?_⟩) hHeld ?_
          rotate_left
          ·(intro w hSw;(try dsimp only at hSw);go_simp;try (with_reducible rfl))
          try simp only [Act.put,List.setIfInBounds_toArray,List.set_cons_zero,List.set_cons_succ]
          refine wpAnyH_take (i:=4) (oi:={ dst:=some 142,op:=Op.move (Operand.tmp 141),type:=4,pos:= "header.go:173", after:=#[{ on:=3,ground:=Ground.data }],guard:=none }) (v:= ?_) rfl (by kernel_rfl) (by kernel_rfl) (by kernel_rfl) (fun _ _ _ h=>h) (Or.inl ⟨by rfl,?_⟩) hHeld ?_
          rotate_left
          ·(intro w hSw;(try dsimp only at hSw);go_simp;try (with_reducible rfl))
          try simp only [Act.put,List.setIfInBounds_toArray,List.set_cons_zero,List.set_cons_succ]
          refine wpAnyH_take (i:=20) (oi:={ dst:=some 158,op:=Op.fieldAddr 31 (Operand.tmp 2) 9,type:=0,pos:= "header.go:173", after:=#[],guard:=none }) (v:= ?_) rfl (by kernel_rfl) (by kernel_rfl) (by kernel_rfl) (fun _ _ _ h=>h) (Or.inl ⟨by rfl,?_⟩) hHeld ?_
          rotate_left
          ·(intro w hSw;(try dsimp only at hSw);go_simp;try (with_reducible rfl))
          try simp only [Act.put,List.setIfInBounds_toArray,List.set_cons_zero,List.set_cons_succ]
          refine wpAnyH_take (i:=21) (oi:={ dst:=some 159,op:=Op.load 28 (Operand.tmp 158),type:=28,pos:= "header.go:173", after:=#[{ on:=20,ground:=Ground.data }],guard:=none }) (v:= ?_) rfl (by kernel_rfl) (by kernel_rfl) (by kernel_rfl) (fun _ _ _ h=>h) (Or.inl ⟨by rfl,?_⟩) hHeld ?_
          rotate_left
          ·(intro w hSw;(try dsimp only at hSw);go_simp;try (with_reducible rfl))
          try simp only [Act.put,List.setIfInBounds_toArray,List.set_cons_zero,List.set_cons_succ]
          refine wpAnyH_take (i:=22) (oi:={ dst:=some 160,op:=Op.move (Operand.tmp 1),type:=3,pos:= "header.go:173", after:=#[],guard:=none }) (v:= ?_) rfl (by kernel_rfl) (by kernel_rfl) (by kernel_rfl) (fun _ _ _ h=>h) (Or.inl ⟨by rfl,?_⟩) hHeld ?_
          rotate_left
          ·(intro w hSw;(try dsimp only at hSw);go_simp;try (with_reducible rfl))
          try simp only [Act.put,List.setIfInBounds_toArray,List.set_cons_zero,List.set_cons_succ]
          refine wpAnyH_take (i:=5) (oi:={ dst:=some 143,op:=Op.fieldAddr 31 (Operand.tmp 2) 0,type:=0,pos:= "header.go:173", after:=#[{ on:=4,ground:=Ground.guard }],guard:=some (4,false) }) (v:= ?_) rfl (by kernel_rfl) (by kernel_rfl) (by kernel_rfl) (fun _ _ _ h=>h) (Or.inl ⟨by rfl,?_⟩) hHeld ?_
          rotate_left
          ·(intro w hSw;(try dsimp only at hSw);go_simp;try (with_reducible rfl))
          try simp only [Act.put,List.setIfInBounds_toArray,List.set_cons_zero,List.set_cons_succ]
          refine wpAnyH_take (i:=6) (oi:={ dst:=some 144,op:=Op.load 5 (Operand.tmp 143),type:=5,pos:= "header.go:173", after:=#[{ on:=5,ground:=Ground.data },{ on:=4,ground:=Ground.guard }],guard:=some (4,false) }) (v:= ?_) rfl (by kernel_rfl) (by kernel_rfl) (by kernel_rfl) (fun _ _ _ h=>h) (Or.inl ⟨by rfl,?_⟩) hHeld ?_
          rotate_left
          ·(intro w hSw;(try dsimp only at hSw);go_simp;try (with_reducible rfl))
          try simp only [Act.put,List.setIfInBounds_toArray,List.set_cons_zero,List.set_cons_succ]
          refine wpAnyH_ready (rs:= [7]) (by kernel_rfl) (by simp) ?_
          refine AllReadyH.cons (o:={ dst:=some 145,op:=Op.call { callee:=Callee.value (Operand.func 44),args:=#[Operand.tmp 144],argTypes:=#[5] },type:=4,pos:= "header.go:173", after:=#[{ on:=6,ground:=Ground.data },{ on:=4,ground:=Ground.chain },{ on:=4,ground:=Ground.guard }],guard:=some (4,false) }) rfl (fun K hK=> ?_) AllReadyH.nil
          go_simp
          (refine (hasData_any t _).mono ?_;rw [HVD.out];rintro e u1 ⟨rfl,rfl⟩;simp only)
          refine hK.out _ _ ?_ (fun hHeld=> ?_)
          ·((repeat (first | assumption | refine ck4 (Chg.refl [] _).drew ?_ | refine ck4 ((Chg.refl [] _).alloc _) ?_));try exact ⟨c0,c3,c9,c10,hq⟩)
          clear hK K
          try simp only [Act.put,List.setIfInBounds_toArray,List.set_cons_zero,List.set_cons_succ]
          refine wpAnyH_take (i:=8) (oi:={ dst:=some 146,op:=Op.unOp UnOp.not 4 (Operand.tmp 145),type:=4,pos:= "header.go:173", after:=#[{ on:=7,ground:=Ground.data },{ on:=4,ground:=Ground.guard }],guard:=some (4,false) }) (v:= ?_) rfl (by kernel_rfl) (by kernel_rfl) (by kernel_rfl) (fun _ _ _ h=>h) (Or.inl ⟨by rfl,?_⟩) hHeld ?_
          rotate_left
          ·(intro w hSw;(try dsimp only at hSw);go_simp;try (with_reducible rfl))
          try simp only [Act.put,List.setIfInBounds_toArray,List.set_cons_zero,List.set_cons_succ]
          refine wpAnyH_take (i:=9) (oi:={ dst:=some 147,op:=Op.pick (Operand.tmp 142) (Operand.const (Value.bool true)) (Operand.tmp 146),type:=4,pos:= "header.go:173", after:=#[{ on:=4,ground:=Ground.data },{ on:=8,ground:=Ground.data }],guard:=none }) (v:= ?_) rfl (by kernel_rfl) (by kernel_rfl) (by kernel_rfl) (fun _ _ _ h=>h) (Or.inl ⟨by rfl,?_⟩) hHeld ?_
          rotate_left
          ·(intro w hSw;(try dsimp only at hSw);go_simp;try (with_reducible rfl))
          try simp only [Act.put,List.setIfInBounds_toArray,List.set_cons_zero,List.set_cons_succ]
          refine wpAnyH_take (i:=10) (oi:={ dst:=some 148,op:=Op.move (Operand.tmp 147),type:=4,pos:= "header.go:173", after:=#[{ on:=9,ground:=Ground.data },{ on:=7,ground:=Ground.chain }],guard:=none }) (v:= ?_) rfl (by kernel_rfl) (by kernel_rfl) (by kernel_rfl) (fun _ _ _ h=>h) (Or.inl ⟨by rfl,?_⟩) hHeld ?_
          rotate_left
          ·(intro w hSw;(try dsimp only at hSw);go_simp;try (with_reducible rfl))
          try simp only [Act.put,List.setIfInBounds_toArray,List.set_cons_zero,List.set_cons_succ]
          refine wpAnyH_take (i:=11) (oi:={ dst:=some 149,op:=Op.move (Operand.tmp 1),type:=3,pos:= "header.go:173", after:=#[{ on:=10,ground:=Ground.guard }],guard:=some (10,true) }) (v:=undef) rfl (by kernel_rfl) (by kernel_rfl) (by kernel_rfl) (fun _ _ _ h=>h) (Or.inr ⟨by rfl,rfl⟩) hHeld ?_
          try simp only [Act.put,List.setIfInBounds_toArray,List.set_cons_zero,List.set_cons_succ]
          refine wpAnyH_take (i:=12) (oi:={ dst:=some 150,op:=Op.binOp BinOp.neq 3 (Operand.tmp 149) (Operand.const (Value.int IntKind.i64 1)) 3,type:=4,pos:= "header.go:173", after:=#[{ on:=11,ground:=Ground.data },{ on:=10,ground:=Ground.guard }],guard:=some (10,true) }) (v:=undef) rfl (by kernel_rfl) (by kernel_rfl) (by kernel_rfl) (fun _ _ _ h=>h) (Or.inr ⟨by rfl,rfl⟩) hHeld ?_
          try simp only [Act.put,List.setIfInBounds_toArray,List.set_cons_zero,List.set_cons_succ]
          refine wpAnyH_take (i:=13) (oi:={ dst:=some 151,op:=Op.move (Operand.tmp 150),type:=4,pos:= "header.go:173", after:=#[{ on:=12,ground:=Ground.data },{ on:=10,ground:=Ground.chain },{ on:=10,ground:=Ground.guard }],guard:=some (10,true) }) (v:=undef) rfl (by kernel_rfl) (by kernel_rfl) (by kernel_rfl) (fun _ _ _ h=>h) (Or.inr ⟨by rfl,rfl⟩) hHeld ?_
          try simp only [Act.put,List.setIfInBounds_toArray,List.set_cons_zero,List.set_cons_succ]
          refine wpAnyH_take (i:=14) (oi:={ dst:=some 152,op:=Op.fieldAddr 31 (Operand.tmp 2) 3,type:=0,pos:= "header.go:173", after:=#[{ on:=13,ground:=Ground.guard }],guard:=some (13,false) }) (v:=undef) rfl (by kernel_rfl) (by kernel_rfl) (by kernel_rfl) (fun _ _ _ h=>h) (Or.inr ⟨by rfl,rfl⟩) hHeld ?_
          try simp only [Act.put,List.setIfInBounds_toArray,List.set_cons_zero,List.set_cons_succ]
          refine wpAnyH_take (i:=15) (oi:={ dst:=some 153,op:=Op.load 2 (Operand.tmp 152),type:=2,pos:= "header.go:173", after:=#[{ on:=14,ground:=Ground.data },{ on:=13,ground:=Ground.guard }],guard:=some (13,false) }) (v:=undef) rfl (by kernel_rfl) (by kernel_rfl) (by kernel_rfl) (fun _ _ _ h=>h) (Or.inr ⟨by rfl,rfl⟩) hHeld ?_
          try simp only [Act.put,List.setIfInBounds_toArray,List.set_cons_zero,List.set_cons_succ]
          refine wpAnyH_take (i:=16) (oi:={ dst:=some 154,op:=Op.binOp BinOp.lss 2 (Operand.tmp 153) (Operand.const (Value.int IntKind.i64 8589934592)) 2,type:=4,pos:= "header.go:173", after:=#[{ on:=15,ground:=Ground.data },{ on:=13,ground:=Ground.guard }],guard:=some (13,false) }) (v:=undef) rfl (by kernel_rfl) (by kernel_rfl) (by kernel_rfl) (fun _ _ _ h=>h) (Or.inr ⟨by rfl,rfl⟩) hHeld ?_
          try simp only [Act.put,List.setIfInBounds_toArray,List.set_cons_zero,List.set_cons_succ]
          refine wpAnyH_take (i:=17) (oi:={ dst:=some 155,op:=Op.pick (Operand.tmp 151) (Operand.const (Value.bool true)) (Operand.tmp 154),type:=4,pos:= "header.go:173", after:=#[{ on:=13,ground:=Ground.data },{ on:=16,ground:=Ground.data },{ on:=10,ground:=Ground.guard }],guard:=some (10,true) }) (v:=undef) rfl (by kernel_rfl) (by kernel_rfl) (by kernel_rfl) (fun _ _ _ h=>h) (Or.inr ⟨by rfl,rfl⟩) hHeld ?_
          try simp only [Act.put,List.setIfInBounds_toArray,List.set_cons_zero,List.set_cons_succ]
          refine wpAnyH_take (i:=18) (oi:={ dst:=some 156,op:=Op.pick (Operand.tmp 148) (Operand.tmp 155) (Operand.const (Value.bool false)),type:=4,pos:= "header.go:173", after:=#[{ on:=10,ground:=Ground.data },{ on:=17,ground:=Ground.data }],guard:=none }) (v:= ?_) rfl (by kernel_rfl) (by kernel_rfl) (by kernel_rfl) (fun _ _ _ h=>h) (Or.inl ⟨by rfl,?_⟩) hHeld ?_
          rotate_left
          ·(intro w hSw;(try dsimp only at hSw);go_simp;try (with_reducible rfl))
          try simp only [Act.put,List.setIfInBounds_toArray,List.set_cons_zero,List.set_cons_succ]
          refine wpAnyH_ready (rs:= [19]) (by kernel_rfl) (by simp) ?_
          refine AllReadyH.cons (o:={ dst:=some 157,op:=Op.call { callee:=Callee.value (Operand.func 55),args:=#[Operand.tmp 156],argTypes:=#[4] },type:=3,pos:= "header.go:173", after:=#[{ on:=18,ground:=Ground.data },{ on:=13,ground:=Ground.chain }],guard:=none }) rfl (fun K hK=> ?_) AllReadyH.nil
          go_simp
          (refine (when_any _ _).mono ?_;rintro e u1 ⟨⟨va,rfl,hva⟩,rfl⟩;have hva1:=hva.val;have HVA:=Lib.hid hva;clear hva;simp only)
          refine hK.out _ _ ?_ (fun hHeld=> ?_)
          ·((repeat (first | assumption | refine ck4 (Chg.refl [] _).drew ?_ | refine ck4 ((Chg.refl [] _).alloc _) ?_));try exact ⟨c0,c3,c9,c10,hq⟩)
          clear hK K
          try simp only [Act.put,List.setIfInBounds_toArray,List.set_cons_zero,List.set_cons_succ]
          refine wpAnyH_ready (rs:= [23]) (by kernel_rfl) (by simp) ?_
          refine AllReadyH.cons (o:={ dst:=some 161,op:=Op.call { callee:=Callee.value (Operand.func 60),args:=#[Operand.tmp 159,Operand.tmp 160],argTypes:=#[28,3] },type:=3,pos:= "header.go:173", after:=#[{ on:=21,ground:=Ground.data },{ on:=22,ground:=Ground.data },{ on:=19,ground:=Ground.chain }],guard:=none }) rfl (fun K hK=> ?_) AllReadyH.nil
          go_simp
          (refine (moment_any _ _ _ _ HF.out).mono ?_;rintro e u1 ⟨⟨vb,rfl,hvb⟩,hu1⟩;have hvb1:=hvb.val;have HVB:=Lib.hid hvb;have hqq:=ck4 hu1 hHeld;clear hvb hu1;simp only)
          refine hK.out _ _ ?_ (fun hHeld=> ?_)
          ·((repeat (first | assumption | refine ck4 (Chg.refl [] _).drew ?_ | refine ck4 ((Chg.refl [] _).alloc _) ?_));try exact ⟨c0,c3,c9,c10,hq⟩)
          clear hK K
          try simp only [Act.put,List.setIfInBounds_toArray,List.set_cons_zero,List.set_cons_succ]
          refine wpAnyH_ready (rs:= [24]) (by kernel_rfl) (by simp) ?_
          refine AllReadyH.cons (o:={ dst:=some 162,op:=Op.buildSlice 169 3 #[(0,Operand.tmp 138),(1,Operand.tmp 157),(2,Operand.tmp 161)],type:=169,pos:= "header.go:173", after:=#[{ on:=0,ground:=Ground.data },{ on:=19,ground:=Ground.data },{ on:=23,ground:=Ground.data }],guard:=none }) rfl (fun K hK=> ?_) AllReadyH.nil
          go_simp
          refine hK.out _ _ ?_ (fun hHeld=> ?_)
          ·((repeat (first | assumption | refine ck4 (Chg.refl [] _).drew ?_ | refine ck4 ((Chg.refl [] _).alloc _) ?_));try exact ⟨c0,c3,c9,c10,hq⟩)
          clear hK K
          try simp only [Act.put,List.setIfInBounds_toArray,List.set_cons_zero,List.set_cons_succ]
          refine wpAnyH_ready (rs:= [25]) (by kernel_rfl) (by simp) ?_
          refine AllReadyH.cons (o:={ dst:=some 163,op:=Op.call { callee:=Callee.value (Operand.func 57),args:=#[Operand.tmp 162],argTypes:=#[169] },type:=3,pos:= "header.go:173", after:=#[{ on:=24,ground:=Ground.data },{ on:=23,ground:=Ground.chain }],guard:=none }) rfl (fun K hK=> ?_) AllReadyH.nil
          go_simp
          (refine Calls.mono (all_any _ 3 3 [_,_,_] _ rfl (by decide) (by decide) (by decide) (cells_new [_,_,_] _ _) ?_) ?_;(intro x hx;simp only [List.mem_cons,List.not_mem_nil,or_false] at hx;rcases hx with rfl | rfl | rfl<;>assumption);rintro e u1 ⟨⟨vz,rfl,hvz'⟩,rfl⟩;have HVZ:=Lib.hid hvz';clear hvz';simp only)
          refine hK.out _ _ ?_ (fun hHeld=> ?_)
          ·((repeat (first | assumption | refine ck4 (Chg.refl [] _).drew ?_ | refine ck4 ((Chg.refl [] _).alloc _) ?_));try exact ⟨c0,c3,c9,c10,hq⟩)
          clear hK K
          try simp only [Act.put,List.setIfInBounds_toArray,List.set_cons_zero,List.set_cons_succ]
          refine wpAnyH_take (i:=26) (oi:={ dst:=some 5,op:=Op.assign (Operand.tmp 163),type:=3,pos:= "header.go:173", after:=#[{ on:=25,ground:=Ground.data },{ on:=25,ground:=Ground.chain },{ on:=0,ground:=Ground.phase },{ on:=1,ground:=Ground.phase },{ on:=2,ground:=Ground.phase },{ on:=3,ground:=Ground.phase },{ on:=4,ground:=Ground.phase },{ on:=5,ground:=Ground.phase },{ on:=6,ground:=Ground.phase },{ on:=7,ground:=Ground.phase },{ on:=8,ground:=Ground.phase },{ on:=9,ground:=Ground.phase },{ on:=10,ground:=Ground.phase },{ on:=11,ground:=Ground.phase },{ on:=12,ground:=Ground.phase },{ on:=13,ground:=Ground.phase },{ on:=14,ground:=Ground.phase },{ on:=15,ground:=Ground.phase },{ on:=16,ground:=Ground.phase },{ on:=17,ground:=Ground.phase },{ on:=18,ground:=Ground.phase },{ on:=19,ground:=Ground.phase },{ on:=20,ground:=Ground.phase },{ on:=21,ground:=Ground.phase },{ on:=22,ground:=Ground.phase },{ on:=23,ground:=Ground.phase },{ on:=24,ground:=Ground.phase },{ on:=25,ground:=Ground.phase }],guard:=none }) (v:= ?_) rfl (by kernel_rfl) (by kernel_rfl) (by kernel_rfl) (fun _ _ _ h=>h) (Or.inl ⟨by rfl,?_⟩) hHeld ?_
          rotate_left
          ·(intro w hSw;(try dsimp only at hSw);go_simp;try (with_reducible rfl))
          try simp only [Act.put,List.setIfInBounds_toArray,List.set_cons_zero,List.set_cons_succ]
          refine wpAnyH_done (by kernel_rfl) ?_ _
          go_wp2_with fail
          go_meet
          case rel=>
           refine ⟨_,rfl,HVZ.out.mono fun e=>⟨H13.out.2 (e _ (by simp)),fun e0=>absurd e0 (by have:=HS0.out;omega),HVB.out.2 (e _ (by simp))⟩,HS5.out.on (by first | exact hHeld.2.2.2.2 | exact Chg.ondrew hHeld.2.2.2.2)⟩
       case rest=>
        obtain ⟨x5,rfl,hx5,hS6⟩:=hcut
        have HX5:=Lib.hid hx5;have HS6:=Lib.hid hS6
        clear hx5 hS6 HS5 H13 c0 c3 c9 c10 hq hS0 hvy
        have c3:wc.cell? ⟨g,3,none⟩=some (.int .i64 h.size):=HS6.out.c 3 _ rfl
        have c0:wc.cell? ⟨g,0,none⟩=some (.int .u8 (promTf h).toNat):=HS6.out.c 0 _ rfl
        generalize wc=w6 at*
        go_upto_region 15 with (fail)
        go_cut [181] from 252 to 252 (fun v w'=>∃b,v=.bool b∧(b=false→0≤h.size)∧w6=w')
        case first=>
         go_wp2
         all_goals
          go_meet
          case rel=>
           refine ⟨_,rfl,?_,rfl⟩
           first
            | (intro e;cases e;done)
            | (intro e;omega)
        case rest=>
         obtain ⟨b5,rfl,hb5,rfl⟩:=hcut
         have HB5:=Lib.hid hb5
         have hvx5:=HX5.out.val
         clear hb5
         go_upto_if 181 with (fail)
         go_cut [5] from 252 to 252 (fun v w'=>∃x,v=.int .i64 x∧VR x (Ca4 h f∧0≤h.size)∧CaS g h.prom w w')
         case first=>
          cases b5
          ·go_wp2
           go_meet
           case rel=>exact ⟨x5,rfl,HX5.out.mono fun e=>⟨e,HB5.out (by trivial)⟩,HS6.out⟩
          ·go_wp2_with (go_at_call 57;refine Calls.mono (all_any _ 2 2 [_,_] _ rfl (by decide) (by decide) (by decide) (cells_new [_,_] _ _) ?_) ?_;(intro x hx;simp only [List.mem_cons,List.not_mem_nil,or_false] at hx;rcases hx with rfl | rfl;assumption;decide);rintro e u1 ⟨⟨vz,rfl,hvz'⟩,rfl⟩;have HVZ:=Lib.hid hvz';clear hvz')
           go_meet
           case rel=>exact ⟨_,rfl,HVZ.out.mono fun e=>absurd (e 0 (by simp)) (by decide),HS6.out.on ((Chg.refl [] _).alloc _)⟩
         case rest=>
          obtain ⟨x6,rfl,hx6,hS7⟩:=hcut
          have HX6:=Lib.hid hx6;have HS7:=Lib.hid hS7
          clear hx6 hS7 HX5 HS6 hvx5 c3 c0
          generalize wc=w7 at*
          have c9:w7.cell? ⟨g,9,none⟩=some (.int .i64 h.ms):=HS7.out.c 9 _ rfl
          have c11:w7.cell? ⟨g,11,none⟩=some (.bool h.ha):=HS7.out.c 11 _ rfl
          have c12:w7.cell? ⟨g,12,none⟩=some (.bool h.hc):=HS7.out.c 12 _ rfl
          have hq:=Chg.refl [] w7
          have hvx6:=HX6.out.val
          go_upto_if 186 with (fail)
          go_cut [5] from 252 to 252 (fun v w'=>∃x,v=.int .i64 x∧VR x ((Ca4 h f∧0≤h.size)∧(f=1→0≤h.ms∧h.ms < 8589934592∧h.ha=false∧h.hc=false))∧CaS g h.prom w w')
          case first=>
           cases b1
           ·go_wp2
            go_meet
            case rel=>exact ⟨x6,rfl,HX6.out.mono fun e=>⟨e,fun e1=>absurd ((show (f == 1)=true by simp [e1]).symm.trans HF1.out) (by decide)⟩,HS7.out⟩
           ·go_upto_region 18 with (fail)
            by_cases s0:0≤h.ms<;>cases s2:h.ha
            all_goals
             rw [s2] at c11
             have HS0:=Lib.hid s0;have HS2:=Lib.hid s2
             clear s2
            case pos.false=>
             have hS0:=And.intro c9 (And.intro c11 (And.intro c12 hq))
             first | (go_region_held3 (fun w'=>w'.cell? ⟨g,9,none⟩=some (.int .i64 h.ms)∧w'.cell? ⟨g,11,none⟩=some (.bool false)∧w'.cell? ⟨g,12,none⟩=some (.bool h.hc)∧Chg [] w7 w') (((repeat (first | assumption | refine ck3 (Chg.refl [] _).drew ?_ | refine ck3 ((Chg.refl [] _).alloc _) ?_));try exact ⟨c9,c11,c12,hq⟩)) ((first
              | (go_at_call 55;refine (when_any _ _).mono ?_;rintro e u1 ⟨⟨va,rfl,hva⟩,rfl⟩;have hva1:=hva.val;have HVA:=Lib.hid hva;clear hva)
              | (go_at_call 57;refine Calls.mono (all_any _ 3 3 [_,_,_] _ rfl (by decide) (by decide) (by decide) (cells_new [_,_,_] _ _) ?_) ?_;(intro x hx;simp only [List.mem_cons,List.not_mem_nil,or_false] at hx;rcases hx with rfl | rfl | rfl<;>assumption);rintro e u1 ⟨⟨vz,rfl,hvz'⟩,rfl⟩;have HVZ:=Lib.hid hvz';clear hvz')))) | fail
             rename_i hHeld
             go_wp2_with fail
             go_meet
             case rel=>
              refine ⟨_,rfl,HVZ.out.mono fun e=>⟨HX6.out.2 (e _ (by simp)),fun _=> ?_⟩,HS7.out.on hHeld.2.2.2⟩
              first
               | exact absurd ((‹Hid (VR _ (false=true))›).out.2 (e _ (by simp))) (by decide)
               | exact ⟨HS0.out,of_decide_eq_true ((‹Hid (VR _ (decide (h.ms < 8589934592)=true))›).out.2 (e _ (by simp))),HS2.out,by have:=(‹Hid (VR _ ((!h.hc)=true))›).out.2 (e _ (by simp));simpa using this⟩
            case pos.true=>
             refine wp_region_held_drew (S:=(fun w'=>w'.cell? ⟨g,9,none⟩=some (.int .i64 h.ms)∧w'.cell? ⟨g,11,none⟩=some (.bool true)∧w'.cell? ⟨g,12,none⟩=some (.bool h.hc)∧Chg [] w7 w')) (by kernel_rfl) ?_ (fun hHeld=> ?_)
             ·((repeat (first | assumption | refine ck3 (Chg.refl [] _).drew ?_ | refine ck3 ((Chg.refl [] _).alloc _) ?_));try exact ⟨c9,c11,c12,hq⟩)
             refine wpAnyH_take (i:=0) (oi:={ dst:=some 187,op:=Op.move (Operand.tmp 5),type:=3,pos:= "header.go:178", after:=#[],guard:=none }) (v:= ?_) rfl (by kernel_rfl) (by kernel_rfl) (by kernel_rfl) (fun _ _ _ h=>h) (Or.inl ⟨by rfl,?_⟩) hHeld ?_
             rotate_left
             ·(intro w hSw;(try dsimp only at hSw);go_simp;try (with_reducible rfl))
             try simp only [Act.put,List.setIfInBounds_toArray,List.set_cons_zero,List.set_cons_succ]
             refine wpAnyH_take (i:=1) (oi:={ dst:=some 188,op:=Op.fieldAddr 31 (Operand.tmp 2) 9,type:=0,pos:= "header.go:178", after:=#[],guard:=none }) (v:= ?_) rfl (by kernel_rfl) (by kernel_rfl) (by kernel_rfl) (fun _ _ _ h=>h) (Or.inl ⟨by rfl,?_⟩) hHeld ?_
             rotate_left
             ·(intro w hSw;(try dsimp only at hSw);go_simp;try (with_reducible rfl))
             try simp only [Act.put,List.setIfInBounds_toArray,List.set_cons_zero,List.set_cons_succ]
             refine wpAnyH_take (i:=2) (oi:={ dst:=some 189,op:=Op.fieldAddr 28 (Operand.tmp 188) 0,type:=0,pos:= "header.go:178", after:=#[{ on:=1,ground:=Ground.data }],guard:=none }) (v:= ?_) rfl (by kernel_rfl) (by kernel_rfl) (by kernel_rfl) (fun _ _ _ h=>h) (Or.inl ⟨by rfl,?_⟩) hHeld ?_
             rotate_left
             ·(intro w hSw;(try dsimp only at hSw);go_simp;try (with_reducible rfl))
             try simp only [Act.put,List.setIfInBounds_toArray,List.set_cons_zero,List.set_cons_succ]
             refine wpAnyH_take (i:=3) (oi:={ dst:=some 190,op:=Op.load 2 (Operand.tmp 189),type:=2,pos:= "header.go:178", after:=#[{ on:=2,ground:=Ground.data }],guard:=none }) (v:= ?_) rfl (by kernel_rfl) (by kernel_rfl) (by kernel_rfl) (fun _ _ _ h=>h) (Or.inl ⟨by rfl,?_⟩) hHeld ?_
             rotate_left
             ·(intro w hSw;(try dsimp only at hSw);go_simp;try (with_reducible rfl))
             try simp only [Act.put,List.setIfInBounds_toArray,List.set_cons_zero,List.set_cons_succ]
             refine wpAnyH_take (i:=4) (oi:={ dst:=some 191,op:=Op.binOp BinOp.geq 2 (Operand.tmp 190) (Operand.const (Value.int IntKind.i64 0)) 2,type:=4,pos:= "header.go:178", after:=#[{ on:=3,ground:=Ground.data }],guard:=none }) (v:= ?_) rfl (by kernel_rfl) (by kernel_rfl) (by kernel_rfl) (fun _ _ _ h=>h) (Or.inl ⟨by rfl,?_⟩) hHeld ?_
             rotate_left
             ·(intro w hSw;(try dsimp only at hSw);go_simp;try (with_reducible rfl))
             try simp only [Act.put,List.setIfInBounds_toArray,List.set_cons_zero,List.set_cons_succ]
             refine wpAnyH_take (i:=5) (oi:={ dst:=some 192,op:=Op.move (Operand.tmp 191),type:=4,pos:= "header.go:178", after:=#[{ on:=4,ground:=Ground.data }],guard:=none }) (v:= ?_) rfl (by kernel_rfl) (by kernel_rfl) (by kernel_rfl) (fun _ _ _ h=>h) (Or.inl ⟨by rfl,?_⟩) hHeld ?_
             rotate_left
             ·(intro w hSw;(try dsimp only at hSw);go_simp;try (with_reducible rfl))
             try simp only [Act.put,List.setIfInBounds_toArray,List.set_cons_zero,List.set_cons_succ]
             refine wpAnyH_take (i:=6) (oi:={ dst:=some 193,op:=Op.fieldAddr 31 (Operand.tmp 2) 9,type:=0,pos:= "header.go:178", after:=#[{ on:=5,ground:=Ground.guard }],guard:=some (5,true) }) (v:= ?_) rfl (by kernel_rfl) (by kernel_rfl) (by kernel_rfl) (fun _ _ _ h=>h) (Or.inl ⟨by rfl,?_⟩) hHeld ?_
             rotate_left
             ·(intro w hSw;(try dsimp only at hSw);go_simp;try (with_reducible rfl))
             try simp only [Act.put,List.setIfInBounds_toArray,List.set_cons_zero,List.set_cons_succ]
             refine wpAnyH_take (i:=7) (oi:={ dst:=some 194,op:=Op.fieldAddr 28 (Operand.tmp 193) 0,type:=0,pos:= "header.go:178", after:=#[{ on:=6,ground:=Ground.data },{ on:=5,ground:=Ground.guard }],guard:=some (5,true) }) (v:= ?_) rfl (by kernel_rfl) (by kernel_rfl) (by kernel_rfl) (fun _ _ _ h=>h) (Or.inl ⟨by rfl,?_⟩) hHeld ?_
             rotate_left
             ·(intro w hSw;(try dsimp only at hSw);go_simp;try (with_reducible rfl))
             try simp only [Act.put,List.setIfInBounds_toArray,List.set_cons_zero,List.set_cons_succ]
             refine wpAnyH_take (i:=8) (oi:={ dst:=some 195,op:=Op.load 2 (Operand.tmp 194),type:=2,pos:= "header.go:178", after:=#[{ on:=7,ground:=Ground.data },{ on:=5,ground:=Ground.guard }],guard:=some (5,true) }) (v:= ?_) rfl (by kernel_rfl) (by kernel_rfl) (by kernel_rfl) (fun _ _ _ h=>h) (Or.inl ⟨by rfl,?_⟩) hHeld ?_
             rotate_left
             ·(intro w hSw;(try dsimp only at hSw);go_simp;try (with_reducible rfl))
             try simp only [Act.put,List.setIfInBounds_toArray,List.set_cons_zero,List.set_cons_succ]
             refine wpAnyH_take (i:=9) (oi:={ dst:=some 196,op:=Op.binOp BinOp.lss 2 (Operand.tmp 195) (Operand.const (Value.int IntKind.i64 8589934592)) 2,type:=4,pos:= "header.go:178", after:=#[{ on:=8,ground:=Ground.data },{ on:=5,ground:=Ground.guard }],guard:=some (5,true) }) (v:= ?_) rfl (by kernel_rfl) (by kernel_rfl) (by kernel_rfl) (fun _ _ _ h=>h) (Or.inl ⟨by rfl,?_⟩) hHeld ?_
             rotate_left
             ·(intro w hSw;(try dsimp only at hSw);go_simp;try (with_reducible rfl))
             try simp only [Act.put,List.setIfInBounds_toArray,List.set_cons_zero,List.set_cons_succ]
             refine wpAnyH_take (i:=10) (oi:={ dst:=some 197,op:=Op.pick (Operand.tmp 192) (Operand.tmp 196) (Operand.const (Value.bool false)),type:=4,pos:= "header.go:178", after:=#[{ on:=5,ground:=Ground.data },{ on:=9,ground:=Ground.data }],guard:=none }) (v:= ?_) rfl (by kernel_rfl) (by kernel_rfl) (by kernel_rfl) (fun _ _ _ h=>h) (Or.inl ⟨by rfl,?_⟩) hHeld ?_
             rotate_left
             ·(intro w hSw;(try dsimp only at hSw);go_simp;try (with_reducible rfl))
             try simp only [Act.put,List.setIfInBounds_toArray,List.set_cons_zero,List.set_cons_succ]
             refine wpAnyH_take (i:=12) (oi:={ dst:=some 199,op:=Op.fieldAddr 31 (Operand.tmp 2) 10,type:=0,pos:= "header.go:178", after:=#[],guard:=none }) (v:= ?_) rfl (by kernel_rfl) (by kernel_rfl) (by kernel_rfl) (fun _ _ _ h=>h) (Or.inl ⟨by rfl,?_⟩) hHeld ?_
             rotate_left
             ·(intro w hSw;(try dsimp only at hSw);go_simp;try (with_reducible rfl))
             try simp only [Act.put,List.setIfInBounds_toArray,List.set_cons_zero,List.set_cons_succ]
             refine wpAnyH_take (i:=13) (oi:={ dst:=some 200,op:=Op.load 4 (Operand.tmp 199),type:=4,pos:= "header.go:178", after:=#[{ on:=12,ground:=Ground.data }],guard:=none }) (v:= ?_) rfl (by kernel_rfl) (by kernel_rfl) (by kernel_rfl) (fun _ _ _ h=>h) (Or.inl ⟨by rfl,?_⟩) hHeld ?_
             rotate_left
             ·(intro w hSw;(try dsimp only at hSw);go_simp;try (with_reducible rfl))
             try simp only [Act.put,List.setIfInBounds_toArray,List.set_cons_zero,List.set_cons_succ]
             refine wpAnyH_take (i:=14) (oi:={ dst:=some 201,op:=Op.unOp UnOp.not 4 (Operand.tmp 200),type:=4,pos:= "header.go:178", after:=#[{ on:=13,ground:=Ground.data }],guard:=none }) (v:= ?_) rfl (by kernel_rfl) (by kernel_rfl) (by kernel_rfl) (fun _ _ _ h=>h) (Or.inl ⟨by rfl,?_⟩) hHeld ?_
             rotate_left
             ·(intro w hSw;(try dsimp only at hSw);go_simp;try (with_reducible rfl))
             try simp only [Act.put,List.setIfInBounds_toArray,List.set_cons_zero,List.set_cons_succ]
             refine wpAnyH_ready (rs:= [11]) (by kernel_rfl) (by simp) ?_
             refine AllReadyH.cons (o:={ dst:=some 198,op:=Op.call { callee:=Callee.value (Operand.func 55),args:=#[Operand.tmp 197],argTypes:=#[4] },type:=3,pos:= "header.go:178", after:=#[{ on:=10,ground:=Ground.data },{ on:=5,ground:=Ground.chain }],guard:=none }) rfl (fun K hK=> ?_) AllReadyH.nil
             go_simp
             (refine (when_any _ _).mono ?_;rintro e u1 ⟨⟨va,rfl,hva⟩,rfl⟩;have hva1:=hva.val;have HVA:=Lib.hid hva;clear hva;simp only)
             refine hK.out _ _ ?_ (fun hHeld=> ?_)
             ·((repeat (first | assumption | refine ck3 (Chg.refl [] _).drew ?_ | refine ck3 ((Chg.refl [] _).alloc _) ?_));try exact ⟨c9,c11,c12,hq⟩)
             clear hK K
             try simp only [Act.put,List.setIfInBounds_toArray,List.set_cons_zero,List.set_cons_succ]
             refine wpAnyH_take (i:=15) (oi:={ dst:=some 202,op:=Op.move (Operand.tmp 201),type:=4,pos:= "header.go:178", after:=#[{ on:=14,ground:=Ground.data },{ on:=11,ground:=Ground.chain }],guard:=none }) (v:= ?_) rfl (by kernel_rfl) (by kernel_rfl) (by kernel_rfl) (fun _ _ _ h=>h) (Or.inl ⟨by rfl,?_⟩) hHeld ?_
             rotate_left
             ·(intro w hSw;(try dsimp only at hSw);go_simp;try (with_reducible rfl))
             try simp only [Act.put,List.setIfInBounds_toArray,List.set_cons_zero,List.set_cons_succ]
             refine wpAnyH_take (i:=16) (oi:={ dst:=some 203,op:=Op.fieldAddr 31 (Operand.tmp 2) 11,type:=0,pos:= "header.go:178", after:=#[{ on:=15,ground:=Ground.guard }],guard:=some (15,true) }) (v:=undef) rfl (by kernel_rfl) (by kernel_rfl) (by kernel_rfl) (fun _ _ _ h=>h) (Or.inr ⟨by rfl,rfl⟩) hHeld ?_
             try simp only [Act.put,List.setIfInBounds_toArray,List.set_cons_zero,List.set_cons_succ]
             refine wpAnyH_take (i:=17) (oi:={ dst:=some 204,op:=Op.load 4 (Operand.tmp 203),type:=4,pos:= "header.go:178", after:=#[{ on:=16,ground:=Ground.data },{ on:=15,ground:=Ground.guard }],guard:=some (15,true) }) (v:=undef) rfl (by kernel_rfl) (by kernel_rfl) (by kernel_rfl) (fun _ _ _ h=>h) (Or.inr ⟨by rfl,rfl⟩) hHeld ?_
             try simp only [Act.put,List.setIfInBounds_toArray,List.set_cons_zero,List.set_cons_succ]
             refine wpAnyH_take (i:=18) (oi:={ dst:=some 205,op:=Op.unOp UnOp.not 4 (Operand.tmp 204),type:=4,pos:= "header.go:178", after:=#[{ on:=17,ground:=Ground.data },{ on:=15,ground:=Ground.guard }],guard:=some (15,true) }) (v:=undef) rfl (by kernel_rfl) (by kernel_rfl) (by kernel_rfl) (fun _ _ _ h=>h) (Or.inr ⟨by rfl,rfl⟩) hHeld ?_
             try simp only [Act.put,List.setIfInBounds_toArray,List.set_cons_zero,List.set_cons_succ]
             refine wpAnyH_take (i:=19) (oi:={ dst:=some 206,op:=Op.pick (Operand.tmp 202) (Operand.tmp 205) (Operand.const (Value.bool false)),type:=4,pos:= "header.go:178", after:=#[{ on:=15,ground:=Ground.data },{ on:=18,ground:=Ground.data }],guard:=none }) (v:= ?_) rfl (by kernel_rfl) (by kernel_rfl) (by kernel_rfl) (fun _ _ _ h=>h) (Or.inl ⟨by rfl,?_⟩) hHeld ?_
             rotate_left
             ·(intro w hSw;(try dsimp only at hSw);go_simp;try (with_reducible rfl))
             try simp only [Act.put,List.setIfInBounds_toArray,List.set_cons_zero,List.set_cons_succ]
             refine wpAnyH_ready (rs:= [20]) (by kernel_rfl) (by simp) ?_
             refine AllReadyH.cons (o:={ dst:=some 207,op:=Op.call { callee:=Callee.value (Operand.func 55),args:=#[Operand.tmp 206],argTypes:=#[4] },type:=3,pos:= "header.go:178", after:=#[{ on:=19,ground:=Ground.data },{ on:=15,ground:=Ground.chain }],guard:=none }) rfl (fun K hK=> ?_) AllReadyH.nil
             go_simp
             (refine (when_any _ _).mono ?_;rintro e u1 ⟨⟨va,rfl,hva⟩,rfl⟩;have hva1:=hva.val;have HVA:=Lib.hid hva;clear hva;simp only)
             refine hK.out _ _ ?_ (fun hHeld=> ?_)
             ·((repeat (first | assumption | refine ck3 (Chg.refl [] _).drew ?_ | refine ck3 ((Chg.refl [] _).alloc _) ?_));try exact ⟨c9,c11,c12,hq⟩)
             clear hK K
             try simp only [Act.put,List.setIfInBounds_toArray,List.set_cons_zero,List.set_cons_succ]
             refine wpAnyH_ready (rs:= [21]) (by kernel_rfl) (by simp) ?_
             refine AllReadyH.cons (o:={ dst:=some 208,op:=Op.buildSlice 169 3 #[(0,Operand.tmp 187),(1,Operand.tmp 198),(2,Operand.tmp 207)],type:=169,pos:= "header.go:178", after:=#[{ on:=0,ground:=Ground.data },{ on:=11,ground:=Ground.data },{ on:=20,ground:=Ground.data }],guard:=none }) rfl (fun K hK=> ?_) AllReadyH.nil
             go_simp
             refine hK.out _ _ ?_ (fun hHeld=> ?_)
             ·((repeat (first | assumption | refine ck3 (Chg.refl [] _).drew ?_ | refine ck3 ((Chg.refl [] _).alloc _) ?_));try exact ⟨c9,c11,c12,hq⟩)
             clear hK K
             try simp only [Act.put,List.setIfInBounds_toArray,List.set_cons_zero,List.set_cons_succ]
             refine wpAnyH_ready (rs:= [22]) (by kernel_rfl) (by simp) ?_
             refine AllReadyH.cons (o:={ dst:=some 209,op:=Op.call { callee:=Callee.value (Operand.func 57),args:=#[Operand.tmp 208],argTypes:=#[169] },type:=3,pos:= "header.go:178", after:=#[{ on:=21,ground:=Ground.data },{ on:=20,ground:=Ground.chain }],guard:=none }) rfl (fun K hK=> ?_) AllReadyH.nil
             go_simp
             (refine Calls.mono (all_any _ 3 3 [_,_,_] _ rfl (by decide) (by decide) (by decide) (cells_new [_,_,_] _ _) ?_) ?_;(intro x hx;simp only [List.mem_cons,List.not_mem_nil,or_false] at hx;rcases hx with rfl | rfl | rfl<;>assumption);rintro e u1 ⟨⟨vz,rfl,hvz'⟩,rfl⟩;have HVZ:=Lib.hid hvz';clear hvz';simp only)
             refine hK.out _ _ ?_ (fun hHeld=> ?_)
             ·((repeat (first | assumption | refine ck3 (Chg.refl [] _).drew ?_ | refine ck3 ((Chg.refl [] _).alloc _) ?_));try exact ⟨c9,c11,c12,hq⟩)
             clear hK K
             try simp only [Act.put,List.setIfInBounds_toArray,List.set_cons_zero,List.set_cons_succ]
             refine wpAnyH_take (i:=23) (oi:={ dst:=some 5,op:=Op.assign (Operand.tmp 209),type:=3,pos:= "header.go:178", after:=#[{ on:=22,ground:=Ground.data },{ on:=22,ground:=Ground.chain },{ on:=0,ground:=Ground.phase },{ on:=1,ground:=Ground.phase },{ on:=2,ground:=Ground.phase },{ on:=3,ground:=Ground.phase },{ on:=4,ground:=Ground.phase },{ on:=5,ground:=Ground.phase },{ on:=6,ground:=Ground.phase },{ on:=7,ground:=Ground.phase },{ on:=8,ground:=Ground.phase },{ on:=9,ground:=Ground.phase },{ on:=10,ground:=Ground.phase },{ on:=11,ground:=Ground.phase },{ on:=12,ground:=Ground.phase },{ on:=13,ground:=Ground.phase },{ on:=14,ground:=Ground.phase },{ on:=15,ground:=Ground.phase },{ on:=16,ground:=Ground.phase },{ on:=17,ground:=Ground.phase },{ on:=18,ground:=Ground.phase },{ on:=19,ground:=Ground.phase },{ on:=20,ground:=Ground.phase },{ on:=21,ground:=Ground.phase },{ on:=22,ground:=Ground.phase }],guard:=none }) (v:= ?_) rfl (by kernel_rfl) (by kernel_rfl) (by kernel_rfl) (fun _ _ _ h=>h) (Or.inl ⟨by rfl,?_⟩) hHeld ?_
             rotate_left
             ·(intro w hSw;(try dsimp only at hSw);go_simp;try (with_reducible rfl))
             try simp only [Act.put,List.setIfInBounds_toArray,List.set_cons_zero,List.set_cons_succ]
             refine wpAnyH_done (by kernel_rfl) ?_ _
             go_wp2_with fail
             go_meet
             case rel=>
              refine ⟨_,rfl,HVZ.out.mono fun e=>⟨HX6.out.2 (e _ (by simp)),fun _=> ?_⟩,HS7.out.on (by first | exact hHeld.2.2.2 | exact Chg.ondrew hHeld.2.2.2)⟩
              first
               | exact absurd ((‹Hid (VR _ (false=true))›).out.2 (e _ (by simp))) (by decide)
               | exact ⟨HS0.out,of_decide_eq_true ((‹Hid (VR _ (decide (h.ms < 8589934592)=true))›).out.2 (e _ (by simp))),HS2.out,by have:=(‹Hid (VR _ ((!h.hc)=true))›).out.2 (e _ (by simp));simpa using this⟩
            case neg.false=>
             refine wp_region_held_drew (S:=(fun w'=>w'.cell? ⟨g,9,none⟩=some (.int .i64 h.ms)∧w'.cell? ⟨g,11,none⟩=some (.bool false)∧w'.cell? ⟨g,12,none⟩=some (.bool h.hc)∧Chg [] w7 w')) (by kernel_rfl) ?_ (fun hHeld=> ?_)
             ·((repeat (first | assumption | refine ck3 (Chg.refl [] _).drew ?_ | refine ck3 ((Chg.refl [] _).alloc _) ?_));try exact ⟨c9,c11,c12,hq⟩)
             refine wpAnyH_take (i:=0) (oi:={ dst:=some 187,op:=Op.move (Operand.tmp 5),type:=3,pos:= "header.go:178", after:=#[],guard:=none }) (v:= ?_) rfl (by kernel_rfl) (by kernel_rfl) (by kernel_rfl) (fun _ _ _ h=>h) (Or.inl ⟨by rfl,?_⟩) hHeld ?_
             rotate_left
             ·(intro w hSw;(try dsimp only at hSw);go_simp;try (with_reducible rfl))
             try simp only [Act.put,List.setIfInBounds_toArray,List.set_cons_zero,List.set_cons_succ]
             refine wpAnyH_take (i:=1) (oi:={ dst:=some 188,op:=Op.fieldAddr 31 (Operand.tmp 2) 9,type:=0,pos:= "header.go:178", after:=#[],guard:=none }) (v:= ?_) rfl (by kernel_rfl) (by kernel_rfl) (by kernel_rfl) (fun _ _ _ h=>h) (Or.inl ⟨by rfl,?_⟩) hHeld ?_
             rotate_left
             ·(intro w hSw;(try dsimp only at hSw);go_simp;try (with_reducible rfl))
             try simp only [Act.put,List.setIfInBounds_toArray,List.set_cons_zero,List.set_cons_succ]
             refine wpAnyH_take (i:=2) (oi:={ dst:=some 189,op:=Op.fieldAddr 28 (Operand.tmp 188) 0,type:=0,pos:= "header.go:178", after:=#[{ on:=1,ground:=Ground.data }],guard:=none }) (v:= ?_) rfl (by kernel_rfl) (by kernel_rfl) (by kernel_rfl) (fun _ _ _ h=>h) (Or.inl ⟨by rfl,?_⟩) hHeld ?_
             rotate_left
             ·(intro w hSw;(try dsimp only at hSw);go_simp;try (with_reducible rfl))
             try simp only [Act.put,List.setIfInBounds_toArray,List.set_cons_zero,List.set_cons_succ]
             refine wpAnyH_take (i:=3) (oi:={ dst:=some 190,op:=Op.load 2 (Operand.tmp 189),type:=2,pos:= "header.go:178", after:=#[{ on:=2,ground:=Ground.data }],guard:=none }) (v:= ?_) rfl (by kernel_rfl) (by kernel_rfl) (by kernel_rfl) (fun _ _ _ h=>h) (Or.inl ⟨by rfl,?_⟩) hHeld ?_
             rotate_left
             ·(intro w hSw;(try dsimp only at hSw);go_simp;try (with_reducible rfl))
             try simp only [Act.put,List.setIfInBounds_toArray,List.set_cons_zero,List.set_cons_succ]
             refine wpAnyH_take (i:=4) (oi:={ dst:=some 191,op:=Op.binOp BinOp.geq 2 (Operand.tmp 190) (Operand.const (Value.int IntKind.i64 0)) 2,type:=4,pos:= "header.go:178", after:=#[{ on:=3,ground:=Ground.data }],guard:=none }) (v:= ?_) rfl (by kernel_rfl) (by kernel_rfl) (by kernel_rfl) (fun _ _ _ h=>h) (Or.inl ⟨by rfl,?_⟩) hHeld ?_
             rotate_left
             ·(intro w hSw;(try dsimp only at hSw);go_simp;try (with_reducible rfl))
             try simp only [Act.put,List.setIfInBounds_toArray,List.set_cons_zero,List.set_cons_succ]
             refine wpAnyH_take (i:=5) (oi:={ dst:=some 192,op:=Op.move (Operand.tmp 191),type:=4,pos:= "header.go:178", after:=#[{ on:=4,ground:=Ground.data }],guard:=none }) (v:= ?_) rfl (by kernel_rfl) (by kernel_rfl) (by kernel_rfl) (fun _ _ _ h=>h) (Or.inl ⟨by rfl,?_⟩) hHeld ?_
             rotate_left
             ·(intro w hSw;(try dsimp only at hSw);go_simp;try (with_reducible rfl))
             try simp only [Act.put,List.setIfInBounds_toArray,List.set_cons_zero,List.set_cons_succ]
             refine wpAnyH_take (i:=6) (oi:={ dst:=some 193,op:=Op.fieldAddr 31 (Operand.tmp 2) 9,type:=0,pos:= "header.go:178", after:=#[{ on:=5,ground:=Ground.guard }],guard:=some (5,true) }) (v:=undef) rfl (by kernel_rfl) (by kernel_rfl) (by kernel_rfl) (fun _ _ _ h=>h) (Or.inr ⟨by rfl,rfl⟩) hHeld ?_
             try simp only [Act.put,List.setIfInBounds_toArray,List.set_cons_zero,List.set_cons_succ]
             refine wpAnyH_take (i:=7) (oi:={ dst:=some 194,op:=Op.fieldAddr 28 (Operand.tmp 193) 0,type:=0,pos:= "header.go:178", after:=#[{ on:=6,ground:=Ground.data },{ on:=5,ground:=Ground.guard }],guard:=some (5,true) }) (v:=undef) rfl (by kernel_rfl) (by kernel_rfl) (by kernel_rfl) (fun _ _ _ h=>h) (Or.inr ⟨by rfl,rfl⟩) hHeld ?_
             try simp only [Act.put,List.setIfInBounds_toArray,List.set_cons_zero,List.set_cons_succ]
             refine wpAnyH_take (i:=8) (oi:={ dst:=some 195,op:=Op.load 2 (Operand.tmp 194),type:=2,pos:= "header.go:178", after:=#[{ on:=7,ground:=Ground.data },{ on:=5,ground:=Ground.guard }],guard:=some (5,true) }) (v:=undef) rfl (by kernel_rfl) (by kernel_rfl) (by kernel_rfl) (fun _ _ _ h=>h) (Or.inr ⟨by rfl,rfl⟩) hHeld ?_
             try simp only [Act.put,List.setIfInBounds_toArray,List.set_cons_zero,List.set_cons_succ]
             refine wpAnyH_take (i:=9) (oi:={ dst:=some 196,op:=Op.binOp BinOp.lss 2 (Operand.tmp 195) (Operand.const (Value.int IntKind.i64 8589934592)) 2,type:=4,pos:= "header.go:178", after:=#[{ on:=8,ground:=Ground.data },{ on:=5,ground:=Ground.guard }],guard:=some (5,true) }) (v:=undef) rfl (by kernel_rfl) (by kernel_rfl) (by kernel_rfl) (fun _ _ _ h=>h) (Or.inr ⟨by rfl,rfl⟩) hHeld ?_
             try simp only [Act.put,List.setIfInBounds_toArray,List.set_cons_zero,List.set_cons_succ]
             refine wpAnyH_take (i:=10) (oi:={ dst:=some 197,op:=Op.pick (Operand.tmp 192) (Operand.tmp 196) (Operand.const (Value.bool false)),type:=4,pos:= "header.go:178", after:=#[{ on:=5,ground:=Ground.data },{ on:=9,ground:=Ground.data }],guard:=none }) (v:= ?_) rfl (by kernel_rfl) (by kernel_rfl) (by kernel_rfl) (fun _ _ _ h=>h) (Or.inl ⟨by rfl,?_⟩) hHeld ?_
             rotate_left
             ·(intro w hSw;(try dsimp only at hSw);go_simp;try (with_reducible rfl))
             try simp only [Act.put,List.setIfInBounds_toArray,List.set_cons_zero,List.set_cons_succ]
             refine wpAnyH_take (i:=12) (oi:={ dst:=some 199,op:=Op.fieldAddr 31 (Operand.tmp 2) 10,type:=0,pos:= "header.go:178", after:=#[],guard:=none }) (v:= ?_) rfl (by kernel_rfl) (by kernel_rfl) (by kernel_rfl) (fun _ _ _ h=>h) (Or.inl ⟨by rfl,?_⟩) hHeld ?_
             rotate_left
             ·(intro w hSw;(try dsimp only at hSw);go_simp;try (with_reducible rfl))
             try simp only [Act.put,List.setIfInBounds_toArray,List.set_cons_zero,List.set_cons_succ]
             refine wpAnyH_take (i:=13) (oi:={ dst:=some 200,op:=Op.load 4 (Operand.tmp 199),type:=4,pos:= "header.go:178", after:=#[{ on:=12,ground:=Ground.data }],guard:=none }) (v:= ?_) rfl (by kernel_rfl) (by kernel_rfl) (by kernel_rfl) (fun _ _ _ h=>h) (Or.inl ⟨by rfl,?_⟩) hHeld ?_
             rotate_left
             ·(intro w hSw;(try dsimp only at hSw);go_simp;try (with_reducible rfl))
             try simp only [Act.put,List.setIfInBounds_toArray,List.set_cons_zero,List.set_cons_succ]
             refine wpAnyH_take (i:=14) (oi:={ dst:=some 201,op:=Op.unOp UnOp.not 4 (Operand.tmp 200),type:=4,pos:= "header.go:178", after:=#[{ on:=13,ground:=Ground.data }],guard:=none }) (v:= ?_) rfl (by kernel_rfl) (by kernel_rfl) (by kernel_rfl) (fun _ _ _ h=>h) (Or.inl ⟨by rfl,?_⟩) hHeld ?_
             rotate_left
             ·(intro w hSw;(try dsimp only at hSw);go_simp;try (with_reducible rfl))
             try simp only [Act.put,List.setIfInBounds_toArray,List.set_cons_zero,List.set_cons_succ]
             refine wpAnyH_ready (rs:= [11]) (by kernel_rfl) (by simp) ?_
             refine AllReadyH.cons (o:={ dst:=some 198,op:=Op.call { callee:=Callee.value (Operand.func 55),args:=#[Operand.tmp 197],argTypes:=#[4] },type:=3,pos:= "header.go:178", after:=#[{ on:=10,ground:=Ground.data },{ on:=5,ground:=Ground.chain }],guard:=none }) rfl (fun K hK=> ?_) AllReadyH.nil
             go_simp
             (refine (when_any _ _).mono ?_;rintro e u1 ⟨⟨va,rfl,hva⟩,rfl⟩;have hva1:=hva.val;have HVA:=Lib.hid hva;clear hva;simp only)
             refine hK.out _ _ ?_ (fun hHeld=> ?_)
             ·((repeat (first | assumption | refine ck3 (Chg.refl [] _).drew ?_ | refine ck3 ((Chg.refl [] _).alloc _) ?_));try exact ⟨c9,c11,c12,hq⟩)
             clear hK K
             try simp only [Act.put,List.setIfInBounds_toArray,List.set_cons_zero,List.set_cons_succ]
             refine wpAnyH_take (i:=15) (oi:={ dst:=some 202,op:=Op.move (Operand.tmp 201),type:=4,pos:= "header.go:178", after:=#[{ on:=14,ground:=Ground.data },{ on:=11,ground:=Ground.chain }],guard:=none }) (v:= ?_) rfl (by kernel_rfl) (by kernel_rfl) (by kernel_rfl) (fun _ _ _ h=>h) (Or.inl ⟨by rfl,?_⟩) hHeld ?_
             rotate_left
             ·(intro w hSw;(try dsimp only at hSw);go_simp;try (with_reducible rfl))
             try simp only [Act.put,List.setIfInBounds_toArray,List.set_cons_zero,List.set_cons_succ]
             refine wpAnyH_take (i:=16) (oi:={ dst:=some 203,op:=Op.fieldAddr 31 (Operand.tmp 2) 11,type:=0,pos:= "header.go:178", after:=#[{ on:=15,ground:=Ground.guard }],guard:=some (15,true) }) (v:= ?_) rfl (by kernel_rfl) (by kernel_rfl) (by kernel_rfl) (fun _ _ _ h=>h) (Or.inl ⟨by rfl,?_⟩) hHeld ?_
             rotate_left
             ·(intro w hSw;(try dsimp only at hSw);go_simp;try (with_reducible rfl))
             try simp only [Act.put,List.setIfInBounds_toArray,List.set_cons_zero,List.set_cons_succ]
             refine wpAnyH_take (i:=17) (oi:={ dst:=some 204,op:=Op.load 4 (Operand.tmp 203),type:=4,pos:= "header.go:178", after:=#[{ on:=16,ground:=Ground.data },{ on:=15,ground:=Ground.guard }],guard:=some (15,true) }) (v:= ?_) rfl (by kernel_rfl) (by kernel_rfl) (by kernel_rfl) (fun _ _ _ h=>h) (Or.inl ⟨by rfl,?_⟩) hHeld ?_
             rotate_left
             ·(intro w hSw;(try dsimp only at hSw);go_simp;try (with_reducible rfl))
             try simp only [Act.put,List.setIfInBounds_toArray,List.set_cons_zero,List.set_cons_succ]
             refine wpAnyH_take (i:=18) (oi:={ dst:=some 205,op:=Op.unOp UnOp.not 4 (Operand.tmp 204),type:=4,pos:= "header.go:178", after:=#[{ on:=17,ground:=Ground.data },{ on:=15,ground:=Ground.guard }],guard:=some (15,true) }) (v:= ?_) rfl (by kernel_rfl) (by kernel_rfl) (by kernel_rfl) (fun _ _ _ h=>h) (Or.inl ⟨by rfl,?_⟩) hHeld ?_
             rotate_left
             ·(intro w hSw;(try dsimp only at hSw);go_simp;try (with_reducible rfl))
             try simp only [Act.put,List.setIfInBounds_toArray,List.set_cons_zero,List.set_cons_succ]
             refine wpAnyH_take (i:=19) (oi:={ dst:=some 206,op:=Op.pick (Operand.tmp 202) (Operand.tmp 205) (Operand.const (Value.bool false)),type:=4,pos:= "header.go:178", after:=#[{ on:=15,ground:=Ground.data },{ on:=18,ground:=Ground.data }],guard:=none }) (v:= ?_) rfl (by kernel_rfl) (by kernel_rfl) (by kernel_rfl) (fun _ _ _ h=>h) (Or.inl ⟨by rfl,?_⟩) hHeld ?_
             rotate_left
             ·(intro w hSw;(try dsimp only at hSw);go_simp;try (with_reducible rfl))
             try simp only [Act.put,List.setIfInBounds_toArray,List.set_cons_zero,List.set_cons_succ]
             refine wpAnyH_ready (rs:= [20]) (by kernel_rfl) (by simp) ?_
             refine AllReadyH.cons (o:={ dst:=some 207,op:=Op.call { callee:=Callee.value (Operand.func 55),args:=#[Operand.tmp 206],argTypes:=#[4] },type:=3,pos:= "header.go:178", after:=#[{ on:=19,ground:=Ground.data },{ on:=15,ground:=Ground.chain }],guard:=none }) rfl (fun K hK=> ?_) AllReadyH.nil
             go_simp
             (refine (when_any _ _).mono ?_;rintro e u1 ⟨⟨va,rfl,hva⟩,rfl⟩;have hva1:=hva.val;have HVA:=Lib.hid hva;clear hva;simp only)
             refine hK.out _ _ ?_ (fun hHeld=> ?_)
             ·((repeat (first | assumption | refine ck3 (Chg.refl [] _).drew ?_ | refine ck3 ((Chg.refl [] _).alloc _) ?_));try exact ⟨c9,c11,c12,hq⟩)
             clear hK K
             try simp only [Act.put,List.setIfInBounds_toArray,List.set_cons_zero,List.set_cons_succ]
             refine wpAnyH_ready (rs:= [21]) (by kernel_rfl) (by simp) ?_
             refine AllReadyH.cons (o:={ dst:=some 208,op:=Op.buildSlice 169 3 #[(0,Operand.tmp 187),(1,Operand.tmp 198),(2,Operand.tmp 207)],type:=169,pos:= "header.go:178", after:=#[{ on:=0,ground:=Ground.data },{ on:=11,ground:=Ground.data },{ on:=20,ground:=Ground.data }],guard:=none }) rfl (fun K hK=> ?_) AllReadyH.nil
             go_simp
             refine hK.out _ _ ?_ (fun hHeld=> ?_)
             ·((repeat (first | assumption | refine ck3 (Chg.refl [] _).drew ?_ | refine ck3 ((Chg.refl [] _).alloc _) ?_));try exact ⟨c9,c11,c12,hq⟩)
             clear hK K
             try simp only [Act.put,List.setIfInBounds_toArray,List.set_cons_zero,List.set_cons_succ]
             refine wpAnyH_ready (rs:= [22]) (by kernel_rfl) (by simp) ?_
             refine AllReadyH.cons (o:={ dst:=some 209,op:=Op.call { callee:=Callee.value (Operand.func 57),args:=#[Operand.tmp 208],argTypes:=#[169] },type:=3,pos:= "header.go:178", after:=#[{ on:=21,ground:=Ground.data },{ on:=20,ground:=Ground.chain }],guard:=none }) rfl (fun K hK=> ?_) AllReadyH.nil
             go_simp
             (refine Calls.mono (all_any _ 3 3 [_,_,_] _ rfl (by decide) (by decide) (by decide) (cells_new [_,_,_] _ _) ?_) ?_;(intro x hx;simp only [List.mem_cons,List.not_mem_nil,or_false] at hx;rcases hx with rfl | rfl | rfl<;>assumption);rintro e u1 ⟨⟨vz,rfl,hvz'⟩,rfl⟩;have HVZ:=Lib.hid hvz';clear hvz';simp only)
             refine hK.out _ _ ?_ (fun hHeld=> ?_)
             ·((repeat (first | assumption | refine ck3 (Chg.refl [] _).drew ?_ | refine ck3 ((Chg.refl [] _).alloc _) ?_));try exact ⟨c9,c11,c12,hq⟩)
             clear hK K
             try simp only [Act.put,List.setIfInBounds_toArray,List.set_cons_zero,List.set_cons_succ]
             refine wpAnyH_take (i:=23) (oi:={ dst:=some 5,op:=Op.assign (Operand.tmp 209),type:=3,pos:= "header.go:178", after:=#[{ on:=22,ground:=Ground.data },{ on:=22,ground:=Ground.chain },{ on:=0,ground:=Ground.phase },{ on:=1,ground:=Ground.phase },{ on:=2,ground:=Ground.phase },{ on:=3,ground:=Ground.phase },{ on:=4,ground:=Ground.phase },{ on:=5,ground:=Ground.phase },{ on:=6,ground:=Ground.phase },{ on:=7,ground:=Ground.phase },{ on:=8,ground:=Ground.phase },{ on:=9,ground:=Ground.phase },{ on:=10,ground:=Ground.phase },{ on:=11,ground:=Ground.phase },{ on:=12,ground:=Ground.phase },{ on:=13,ground:=Ground.phase },{ on:=14,ground:=Ground.phase },{ on:=15,ground:=Ground.phase },{ on:=16,ground:=Ground.phase },{ on:=17,ground:=Ground.phase },{ on:=18,ground:=Ground.phase },{ on:=19,ground:=Ground.phase },{ on:=20,ground:=Ground.phase },{ on:=21,ground:=Ground.phase },{ on:=22,ground:=Ground.phase }],guard:=none }) (v:= ?_) rfl (by kernel_rfl) (by kernel_rfl) (by kernel_rfl) (fun _ _ _ h=>h) (Or.inl ⟨by rfl,?_⟩) hHeld ?_
             rotate_left
             ·(intro w hSw;(try dsimp only at hSw);go_simp;try (with_reducible rfl))
             try simp only [Act.put,List.setIfInBounds_toArray,List.set_cons_zero,List.set_cons_succ]
             refine wpAnyH_done (by kernel_rfl) ?_ _
             go_wp2_with fail
             go_meet
             case rel=>
              refine ⟨_,rfl,HVZ.out.mono fun e=>⟨HX6.out.2 (e _ (by simp)),fun _=> ?_⟩,HS7.out.on (by first | exact hHeld.2.2.2 | exact Chg.ondrew hHeld.2.2.2)⟩
              first
               | exact absurd ((‹Hid (VR _ (false=true))›).out.2 (e _ (by simp))) (by decide)
               | exact ⟨HS0.out,of_decide_eq_true ((‹Hid (VR _ (decide (h.ms < 8589934592)=true))›).out.2 (e _ (by simp))),HS2.out,by have:=(‹Hid (VR _ ((!h.hc)=true))›).out.2 (e _ (by simp));simpa using this⟩
            case neg.true=>
             refine wp_region_held_drew (S:=(fun w'=>w'.cell? ⟨g,9,none⟩=some (.int .i64 h.ms)∧w'.cell? ⟨g,11,none⟩=some (.bool true)∧w'.cell? ⟨g,12,none⟩=some (.bool h.hc)∧Chg [] w7 w')) (by kernel_rfl) ?_ (fun hHeld=> ?_)
             ·((repeat (first | assumption | refine ck3 (Chg.refl [] _).drew ?_ | refine ck3 ((Chg.refl [] _).alloc _) ?_));try exact ⟨c9,c11,c12,hq⟩)
             refine wpAnyH_take (i:=0) (oi:={ dst:=some 187,op:=Op.move (Operand.tmp 5),type:=3,pos:= "header.go:178", after:=#[],guard:=none }) (v:= ?_) rfl (by kernel_rfl) (by kernel_rfl) (by kernel_rfl) (fun _ _ _ h=>h) (Or.inl ⟨by rfl,?_⟩) hHeld ?_
             rotate_left
             ·(intro w hSw;(try dsimp only at hSw);go_simp;try (with_reducible rfl))
             try simp only [Act.put,List.setIfInBounds_toArray,List.set_cons_zero,List.set_cons_succ]
             refine wpAnyH_take (i:=1) (oi:={ dst:=some 188,op:=Op.fieldAddr 31 (Operand.tmp 2) 9,type:=0,pos:= "header.go:178", after:=#[],guard:=none }) (v:= ?_) rfl (by kernel_rfl) (by kernel_rfl) (by kernel_rfl) (fun _ _ _ h=>h) (Or.inl ⟨by rfl,?_⟩) hHeld ?_
             rotate_left
             ·(intro w hSw;(try dsimp only at hSw);go_simp;try (with_reducible rfl))
             try simp only [Act.put,List.setIfInBounds_toArray,List.set_cons_zero,List.set_cons_succ]
             refine wpAnyH_take (i:=2) (oi:={ dst:=some 189,op:=Op.fieldAddr 28 (Operand.tmp 188) 0,type:=0,pos:= "header.go:178", after:=#[{ on:=1,ground:=Ground.data }],guard:=none }) (v:= ?_) rfl (by kernel_rfl) (by kernel_rfl) (by kernel_rfl) (fun _ _ _ h=>h) (Or.inl ⟨by rfl,?_⟩) hHeld ?_
             rotate_left
             ·(intro w hSw;(try dsimp only at hSw);go_simp;try (with_reducible rfl))
             try simp only [Act.put,List.setIfInBounds_toArray,List.set_cons_zero,List.set_cons_succ]
             refine wpAnyH_take (i:=3) (oi:={ dst:=some 190,op:=Op.load 2 (Operand.tmp 189),type:=2,pos:= "header.go:178", after:=#[{ on:=2,ground:=Ground.data }],guard:=none }) (v:= ?_) rfl (by kernel_rfl) (by kernel_rfl) (by kernel_rfl) (fun _ _ _ h=>h) (Or.inl ⟨by rfl,?_⟩) hHeld ?_
             rotate_left
             ·(intro w hSw;(try dsimp only at hSw);go_simp;try (with_reducible rfl))
             try simp only [Act.put,List.setIfInBounds_toArray,List.set_cons_zero,List.set_cons_succ]
             refine wpAnyH_take (i:=4) (oi:={ dst:=some 191,op:=Op.binOp BinOp.geq 2 (Operand.tmp 190) (Operand.const (Value.int IntKind.i64 0)) 2,type:=4,pos:= "header.go:178", after:=#[{ on:=3,ground:=Ground.data }],guard:=none }) (v:= ?_) rfl (by kernel_rfl) (by kernel_rfl) (by kernel_rfl) (fun _ _ _ h=>h) (Or.inl ⟨by rfl,?_⟩) hHeld ?_
             rotate_left
             ·(intro w hSw;(try dsimp only at hSw);go_simp;try (with_reducible rfl))
             try simp only [Act.put,List.setIfInBounds_toArray,List.set_cons_zero,List.set_cons_succ]
             refine wpAnyH_take (i:=5) (oi:={ dst:=some 192,op:=Op.move (Operand.tmp 191),type:=4,pos:= "header.go:178", after:=#[{ on:=4,ground:=Ground.data }],guard:=none }) (v:= ?_) rfl (by kernel_rfl) (by kernel_rfl) (by kernel_rfl) (fun _ _ _ h=>h) (Or.inl ⟨by rfl,?_⟩) hHeld ?_
             rotate_left
             ·(intro w hSw;(try dsimp only at hSw);go_simp;try (with_reducible rfl))
             try simp only [Act.put,List.setIfInBounds_toArray,List.set_cons_zero,List.set_cons_succ]
             refine wpAnyH_take (i:=6) (oi:={ dst:=some 193,op:=Op.fieldAddr 31 (Operand.tmp 2) 9,type:=0,pos:= "header.go:178", after:=#[{ on:=5,ground:=Ground.guard }],guard:=some (5,true) }) (v:=undef) rfl (by kernel_rfl) (by kernel_rfl) (by kernel_rfl) (fun _ _ _ h=>h) (Or.inr ⟨by rfl,rfl⟩) hHeld ?_
             try simp only [Act.put,List.setIfInBounds_toArray,List.set_cons_zero,List.set_cons_succ]
             refine wpAnyH_take (i:=7) (oi:={ dst:=some 194,op:=Op.fieldAddr 28 (Operand.tmp 193) 0,type:=0,pos:= "header.go:178", after:=#[{ on:=6,ground:=Ground.data },{ on:=5,ground:=Ground.guard }],guard:=some (5,true) }) (v:=undef) rfl (by kernel_rfl) (by kernel_rfl) (by kernel_rfl) (fun _ _ _ h=>h) (Or.inr ⟨by rfl,rfl⟩) hHeld ?_
             try simp only [Act.put,List.setIfInBounds_toArray,List.set_cons_zero,List.set_cons_succ]
             refine wpAnyH_take (i:=8) (oi:={ dst:=some 195,op:=Op.load 2 (Operand.tmp 194),type:=2,pos:= "header.go:178", after:=#[{ on:=7,ground:=Ground.data },{ on:=5,ground:=Ground.guard }],guard:=some (5,true) }) (v:=undef) rfl (by kernel_rfl) (by kernel_rfl) (by kernel_rfl) (fun _ _ _ h=>h) (Or.inr ⟨by rfl,rfl⟩) hHeld ?_
             try simp only [Act.put,List.setIfInBounds_toArray,List.set_cons_zero,List.set_cons_succ]
             refine wpAnyH_take (i:=9) (oi:={ dst:=some 196,op:=Op.binOp BinOp.lss 2 (Operand.tmp 195) (Operand.const (Value.int IntKind.i64 8589934592)) 2,type:=4,pos:= "header.go:178", after:=#[{ on:=8,ground:=Ground.data },{ on:=5,ground:=Ground.guard }],guard:=some (5,true) }) (v:=undef) rfl (by kernel_rfl) (by kernel_rfl) (by kernel_rfl) (fun _ _ _ h=>h) (Or.inr ⟨by rfl,rfl⟩) hHeld ?_
             try simp only [Act.put,List.setIfInBounds_toArray,List.set_cons_zero,List.set_cons_succ]
             refine wpAnyH_take (i:=10) (oi:={ dst:=some 197,op:=Op.pick (Operand.tmp 192) (Operand.tmp 196) (Operand.const (Value.bool false)),type:=4,pos:= "header.go:178", after:=#[{ on:=5,ground:=Ground.data },{ on:=9,ground:=Ground.data }],guard:=none }) (v:= ?_) rfl (by kernel_rfl) (by kernel_rfl) (by kernel_rfl) (fun _ _ _ h=>h) (Or.inl ⟨by rfl,?_⟩) hHeld ?_
             rotate_left
             ·(intro w hSw;(try dsimp only at hSw);go_simp;try (with_reducible rfl))
             try simp only [Act.put,List.setIfInBounds_toArray,List.set_cons_zero,List.set_cons_succ]
             refine wpAnyH_take (i:=12) (oi:={ dst:=some 199,op:=Op.fieldAddr 31 (Operand.tmp 2) 10,type:=0,pos:= "header.go:178", after:=#[],guard:=none }) (v:= ?_) rfl (by kernel_rfl) (by kernel_rfl) (by kernel_rfl) (fun _ _ _ h=>h) (Or.inl ⟨by rfl,?_⟩) hHeld ?_
             rotate_left
             ·(intro w hSw;(try dsimp only at hSw);go_simp;try (with_reducible rfl))
             try simp only [Act.put,List.setIfInBounds_toArray,List.set_cons_zero,List.set_cons_succ]
             refine wpAnyH_take (i:=13) (oi:={ dst:=some 200,op:=Op.load 4 (Operand.tmp 199),type:=4,pos:= "header.go:178", after:=#[{ on:=12,ground:=Ground.data }],guard:=none }) (v:= ?_) rfl (by kernel_rfl) (by kernel_rfl) (by kernel_rfl) (fun _ _ _ h=>h) (Or.inl ⟨by rfl,?_⟩) hHeld ?_
             rotate_left
             ·(intro w hSw;(try dsimp only at hSw);go_simp;try (with_reducible rfl))
             try simp only [Act.put,List.setIfInBounds_toArray,List.set_cons_zero,List.set_cons_succ]
             refine wpAnyH_take (i:=14) (oi:={ dst:=some 201,op:=Op.unOp UnOp.not 4 (Operand.tmp 200),type:=4,pos:= "header.go:178", after:=#[{ on:=13,ground:=Ground.data }],guard:=none }) (v:= ?_) rfl (by kernel_rfl) (by kernel_rfl) (by kernel_rfl) (fun _ _ _ h=>h) (Or.inl ⟨by rfl,?_⟩) hHeld ?_
             rotate_left
             ·(intro w hSw;(try dsimp only at hSw);go_simp;try (with_reducible rfl))
             try simp only [Act.put,List.setIfInBounds_toArray,List.set_cons_zero,List.set_cons_succ]
             refine wpAnyH_ready (rs:= [11]) (by kernel_rfl) (by simp) ?_
             refine AllReadyH.cons (o:={ dst:=some 198,op:=Op.call { callee:=Callee.value (Operand.func 55),args:=#[Operand.tmp 197],argTypes:=#[4] },type:=3,pos:= "header.go:178", after:=#[{ on:=10,ground:=Ground.data },{ on:=5,ground:=Ground.chain }],guard:=none }) rfl (fun K hK=> ?_) AllReadyH.nil
             go_simp
             (refine (when_any _ _).mono ?_;rintro e u1 ⟨⟨va,rfl,hva⟩,rfl⟩;have hva1:=hva.val;have HVA:=Lib.hid hva;clear hva;simp only)
             refine hK.out _ _ ?_ (fun hHeld=> ?_)
             ·((repeat (first | assumption | refine ck3 (Chg.refl [] _).drew ?_ | refine ck3 ((Chg.refl [] _).alloc _) ?_));try exact ⟨c9,c11,c12,hq⟩)
             clear hK K
             try simp only [Act.put,List.setIfInBounds_toArray,List.set_cons_zero,List.set_cons_succ]
             refine wpAnyH_take (i:=15) (oi:={ dst:=some 202,op:=Op.move (Operand.tmp 201),type:=4,pos:= "header.go:178", after:=#[{ on:=14,ground:=Ground.data },{ on:=11,ground:=Ground.chain }],guard:=none }) (v:= ?_) rfl (by kernel_rfl) (by kernel_rfl) (by kernel_rfl) (fun _ _ _ h=>h) (Or.inl ⟨by rfl,?_⟩) hHeld ?_
             rotate_left
             ·(intro w hSw;(try dsimp only at hSw);go_simp;try (with_reducible rfl))
             try simp only [Act.put,List.setIfInBounds_toArray,List.set_cons_zero,List.set_cons_succ]
             refine wpAnyH_take (i:=16) (oi:={ dst:=some 203,op:=Op.fieldAddr 31 (Operand.tmp 2) 11,type:=0,pos:= "header.go:178", after:=#[{ on:=15,ground:=Ground.guard }],guard:=some (15,true) }) (v:=undef) rfl (by kernel_rfl) (by kernel_rfl) (by kernel_rfl) (fun _ _ _ h=>h) (Or.inr ⟨by rfl,rfl⟩) hHeld ?_
             try simp only [Act.put,List.setIfInBounds_toArray,List.set_cons_zero,List.set_cons_succ]
             refine wpAnyH_take (i:=17) (oi:={ dst:=some 204,op:=Op.load 4 (Operand.tmp 203),type:=4,pos:= "header.go:178", after:=#[{ on:=16,ground:=Ground.data },{ on:=15,ground:=Ground.guard }],guard:=some (15,true) }) (v:=undef) rfl (by kernel_rfl) (by kernel_rfl) (by kernel_rfl) (fun _ _ _ h=>h) (Or.inr ⟨by rfl,rfl⟩) hHeld ?_
             try simp only [Act.put,List.setIfInBounds_toArray,List.set_cons_zero,List.set_cons_succ]
             refine wpAnyH_take (i:=18) (oi:={ dst:=some 205,op:=Op.unOp UnOp.not 4 (Operand.tmp 204),type:=4,pos:= "header.go:178", after:=#[{ on:=17,ground:=Ground.data },{ on:=15,ground:=Ground.guard }],guard:=some (15,true) }) (v:=undef) rfl (by kernel_rfl) (by kernel_rfl) (by kernel_rfl) (fun _ _ _ h=>h) (Or.inr ⟨by rfl,rfl⟩) hHeld ?_
             try simp only [Act.put,List.setIfInBounds_toArray,List.set_cons_zero,List.set_cons_succ]
             refine wpAnyH_take (i:=19) (oi:={ dst:=some 206,op:=Op.pick (Operand.tmp 202) (Operand.tmp 205) (Operand.const (Value.bool false)),type:=4,pos:= "header.go:178", after:=#[{ on:=15,ground:=Ground.data },{ on:=18,ground:=Ground.data }],guard:=none }) (v:= ?_) rfl (by kernel_rfl) (by kernel_rfl) (by kernel_rfl) (fun _ _ _ h=>h) (Or.inl ⟨by rfl,?_⟩) hHeld ?_
             rotate_left
             ·(intro w hSw;(try dsimp only at hSw);go_simp;try (with_reducible rfl))
             try simp only [Act.put,List.setIfInBounds_toArray,List.set_cons_zero,List.set_cons_succ]
             refine wpAnyH_ready (rs:= [20]) (by kernel_rfl) (by simp) ?_
             refine AllReadyH.cons (o:={ dst:=some 207,op:=Op.call { callee:=Callee.value (Operand.func 55),args:=#[Operand.tmp 206],argTypes:=#[4] },type:=3,pos:= "header.go:178", after:=#[{ on:=19,ground:=Ground.data },{ on:=15,ground:=Ground.chain }],guard:=none }) rfl (fun K hK=> ?_) AllReadyH.nil
             go_simp
             (refine (when_any _ _).mono ?_;rintro e u1 ⟨⟨va,rfl,hva⟩,rfl⟩;have hva1:=hva.val;have HVA:=Lib.hid hva;clear hva;simp only)
             refine hK.out _ _ ?_ (fun hHeld=> ?_)
             ·((repeat (first | assumption | refine ck3 (Chg.refl [] _).drew ?_ | refine ck3 ((Chg.refl [] _).alloc _) ?_));try exact ⟨c9,c11,c12,hq⟩)
             clear hK K
             try simp only [Act.put,List.setIfInBounds_toArray,List.set_cons_zero,List.set_cons_succ]
             refine wpAnyH_ready (rs:= [21]) (by kernel_rfl) (by simp) ?_
             refine AllReadyH.cons (o:={ dst:=some 208,op:=Op.buildSlice 169 3 #[(0,Operand.tmp 187),(1,Operand.tmp 198),(2,Operand.tmp 207)],type:=169,pos:= "header.go:178", after:=#[{ on:=0,ground:=Ground.data },{ on:=11,ground:=Ground.data },{ on:=20,ground:=Ground.data }],guard:=none }) rfl (fun K hK=> ?_) AllReadyH.nil
             go_simp
             refine hK.out _ _ ?_ (fun hHeld=> ?_)
             ·((repeat (first | assumption | refine ck3 (Chg.refl [] _).drew ?_ | refine ck3 ((Chg.refl [] _).alloc _) ?_));try exact ⟨c9,c11,c12,hq⟩)
             clear hK K
             try simp only [Act.put,List.setIfInBounds_toArray,List.set_cons_zero,List.set_cons_succ]
             refine wpAnyH_ready (rs:= [22]) (by kernel_rfl) (by simp) ?_
             refine AllReadyH.cons (o:={ dst:=some 209,op:=Op.call { callee:=Callee.value (Operand.func 57),args:=#[Operand.tmp 208],argTypes:=#[169] },type:=3,pos:= "header.go:178", after:=#[{ on:=21,ground:=Ground.data },{ on:=20,ground:=Ground.chain }],guard:=none }) rfl (fun K hK=> ?_) AllReadyH.nil
             go_simp
             (refine Calls.mono (all_any _ 3 3 [_,_,_] _ rfl (by decide) (by decide) (by decide) (cells_new [_,_,_] _ _) ?_) ?_;(intro x hx;simp only [List.mem_cons,List.not_mem_nil,or_false] at hx;rcases hx with rfl | rfl | rfl<;>assumption);rintro e u1 ⟨⟨vz,rfl,hvz'⟩,rfl⟩;have HVZ:=Lib.hid hvz';clear hvz';simp only)
             refine hK.out _ _ ?_ (fun hHeld=> ?_)
             ·((repeat (first | assumption | refine ck3 (Chg.refl [] _).drew ?_ | refine ck3 ((Chg.refl [] _).alloc _) ?_));try exact ⟨c9,c11,c12,hq⟩)
             clear hK K
             try simp only [Act.put,List.setIfInBounds_toArray,List.set_cons_zero,List.set_cons_succ]
             refine wpAnyH_take (i:=23) (oi:={ dst:=some 5,op:=Op.assign (Operand.tmp 209),type:=3,pos:= "header.go:178", after:=#[{ on:=22,ground:=Ground.data },{ on:=22,ground:=Ground.chain },{ on:=0,ground:=Ground.phase },{ on:=1,ground:=Ground.phase },{ on:=2,ground:=Ground.phase },{ on:=3,ground:=Ground.phase },{ on:=4,ground:=Ground.phase },{ on:=5,ground:=Ground.phase },{ on:=6,ground:=Ground.phase },{ on:=7,ground:=Ground.phase },{ on:=8,ground:=Ground.phase },{ on:=9,ground:=Ground.phase },{ on:=10,ground:=Ground.phase },{ on:=11,ground:=Ground.phase },{ on:=12,ground:=Ground.phase },{ on:=13,ground:=Ground.phase },{ on:=14,ground:=Ground.phase },{ on:=15,ground:=Ground.phase },{ on:=16,ground:=Ground.phase },{ on:=17,ground:=Ground.phase },{ on:=18,ground:=Ground.phase },{ on:=19,ground:=Ground.phase },{ on:=20,ground:=Ground.phase },{ on:=21,ground:=Ground.phase },{ on:=22,ground:=Ground.phase }],guard:=none }) (v:= ?_) rfl (by kernel_rfl) (by kernel_rfl) (by kernel_rfl) (fun _ _ _ h=>h) (Or.inl ⟨by rfl,?_⟩) hHeld ?_
             rotate_left
             ·(intro w hSw;(try dsimp only at hSw);go_simp;try (with_reducible rfl))
             try simp only [Act.put,List.setIfInBounds_toArray,List.set_cons_zero,List.set_cons_succ]
             refine wpAnyH_done (by kernel_rfl) ?_ _
             go_wp2_with fail
             go_meet
             case rel=>
              refine ⟨_,rfl,HVZ.out.mono fun e=>⟨HX6.out.2 (e _ (by simp)),fun _=> ?_⟩,HS7.out.on (by first | exact hHeld.2.2.2 | exact Chg.ondrew hHeld.2.2.2)⟩
              first
               | exact absurd ((‹Hid (VR _ (false=true))›).out.2 (e _ (by simp))) (by decide)
               | exact ⟨HS0.out,of_decide_eq_true ((‹Hid (VR _ (decide (h.ms < 8589934592)=true))›).out.2 (e _ (by simp))),HS2.out,by have:=(‹Hid (VR _ ((!h.hc)=true))›).out.2 (e _ (by simp));simpa using this⟩
          case rest=>
           obtain ⟨x7,rfl,hx7,hS8⟩:=hcut
           have HX7:=Lib.hid hx7;have HS8:=Lib.hid hS8
           clear hx7 hS8 HX6 HS7 hvx6 c9 c11 c12 hq hb1
           generalize wc=w8 at*
           have hvx7:=HX7.out.val
           have c11:w8.cell? ⟨g,11,none⟩=some (.bool h.ha):=HS8.out.c 11 _ rfl
           have c13:w8.cell? ⟨g,13,none⟩=some (.int .i64 h.ats):=HS8.out.c 13 _ rfl
           have c14:w8.cell? ⟨g,14,none⟩=some (.int .i64 h.atn):=HS8.out.c 14 _ rfl
           obtain ⟨hA,hhA⟩:∃b,h.ha=b:=⟨_,rfl⟩
           rw [hhA] at c11
           have HHA:=Lib.hid hhA
           clear hhA
           go_upto_if 211 with (fail)
           go_cut [5] from 252 to 252 (fun v w'=>∃x,v=.int .i64 x∧VR x (((Ca4 h f∧0≤h.size)∧(f=1→0≤h.ms∧h.ms < 8589934592∧h.ha=false∧h.hc=false))∧(h.ha=true→MomR h.ats h.atn f))∧CaS g h.prom w w')
           case first=>
            cases hA
            ·go_wp2
             go_meet
             case rel=>exact ⟨x7,rfl,HX7.out.mono fun e=>⟨e,fun e1=>absurd (HHA.out.symm.trans e1) (by decide)⟩,HS8.out⟩
            ·go_wp2_with (first
              | (go_at_call 60;refine (moment_any _ _ _ _ HF.out).mono ?_;rintro e u1 ⟨⟨vb,rfl,hvb⟩,hu1⟩;have hvb1:=hvb.val;have HVB:=Lib.hid hvb;have HS9:=Lib.hid (HS8.out.on hu1);clear hvb hu1)
              | (go_at_call 57;refine Calls.mono (all_any _ 2 2 [_,_] _ rfl (by decide) (by decide) (by decide) (cells_new [_,_] _ _) ?_) ?_;(intro x hx;simp only [List.mem_cons,List.not_mem_nil,or_false] at hx;rcases hx with rfl | rfl<;>assumption);rintro e u1 ⟨⟨vz,rfl,hvz'⟩,rfl⟩;have HVZ:=Lib.hid hvz';clear hvz'))
             go_meet
             case rel=>exact ⟨_,rfl,HVZ.out.mono fun e=>⟨HX7.out.2 (e _ (by simp)),fun _=>HVB.out.2 (e _ (by simp))⟩,HS9.out.on ((Chg.refl [] _).alloc _)⟩
           case rest=>
            obtain ⟨x8,rfl,hx8,hS9⟩:=hcut
            have HX8:=Lib.hid hx8;have HS9:=Lib.hid hS9
            clear hx8 hS9 HX7 HS8 hvx7 c11 c13 c14
            generalize wc=w9 at*
            have hvx8:=HX8.out.val
            have c12:w9.cell? ⟨g,12,none⟩=some (.bool h.hc):=HS9.out.c 12 _ rfl
            have c15:w9.cell? ⟨g,15,none⟩=some (.int .i64 h.cts):=HS9.out.c 15 _ rfl
            have c16:w9.cell? ⟨g,16,none⟩=some (.int .i64 h.ctn):=HS9.out.c 16 _ rfl
            obtain ⟨hC,hhC⟩:∃b,h.hc=b:=⟨_,rfl⟩
            rw [hhC] at c12
            have HHC:=Lib.hid hhC
            clear hhC
            go_upto_if 220 with (fail)
            go_cut [5] from 252 to 252 (fun v w'=>∃x,v=.int .i64 x∧VR x ((((Ca4 h f∧0≤h.size)∧(f=1→0≤h.ms∧h.ms < 8589934592∧h.ha=false∧h.hc=false))∧(h.ha=true→MomR h.ats h.atn f))∧(h.hc=true→MomR h.cts h.ctn f))∧CaS g h.prom w w')
            case first=>
             cases hC
             ·go_wp2
              go_meet
              case rel=>exact ⟨x8,rfl,HX8.out.mono fun e=>⟨e,fun e1=>absurd (HHC.out.symm.trans e1) (by decide)⟩,HS9.out⟩
             ·go_wp2_with (first
               | (go_at_call 60;refine (moment_any _ _ _ _ HF.out).mono ?_;rintro e u1 ⟨⟨vb,rfl,hvb⟩,hu1⟩;have hvb1:=hvb.val;have HVB:=Lib.hid hvb;have HSA:=Lib.hid (HS9.out.on hu1);clear hvb hu1)
               | (go_at_call 57;refine Calls.mono (all_any _ 2 2 [_,_] _ rfl (by decide) (by decide) (by decide) (cells_new [_,_] _ _) ?_) ?_;(intro x hx;simp only [List.mem_cons,List.not_mem_nil,or_false] at hx;rcases hx with rfl | rfl<;>assumption);rintro e u1 ⟨⟨vz,rfl,hvz'⟩,rfl⟩;have HVZ:=Lib.hid hvz';clear hvz'))
              go_meet
              case rel=>exact ⟨_,rfl,HVZ.out.mono fun e=>⟨HX8.out.2 (e _ (by simp)),fun _=>HVB.out.2 (e _ (by simp))⟩,HSA.out.on ((Chg.refl [] _).alloc _)⟩
            case rest=>
             obtain ⟨x9,rfl,hx9,hSA⟩:=hcut
             have HX9:=Lib.hid hx9;have HSA:=Lib.hid hSA
             clear hx9 hSA HX8 HS9 hvx8 c12 c15 c16
             generalize wc=wA at*
             have hvx9:=HX9.out.val
             have c19:wA.cell? ⟨g,19,none⟩=some (.slice h.ra h.rn h.rc):=HSA.out.c 19 _ rfl
             obtain ⟨b2',hb2'⟩:∃b,(f != 2)=b:=⟨_,rfl⟩
             have HB2:=Lib.hid hb2'
             go_upto_region 23 with (fail)
             go_cut [235] from 252 to 252 (fun v w'=>∃b,v=.bool b∧(b=false→0 < h.rn→f=2)∧wA=w')
             case first=>
              go_wp2
              all_goals
               go_meet
               case rel=>
                refine ⟨_,rfl,fun e e1=> ?_,rfl⟩
                first
                 | (have a:=HB2.out;rw [e] at a;simpa using a)
                 | omega
             case rest=>
              obtain ⟨b6,rfl,hb6,rfl⟩:=hcut
              have HB6:=Lib.hid hb6
              clear hb6 hb2'
              go_upto_if 235 with (fail)
              go_cut [5] from 252 to 252 (fun v w'=>∃x,v=.int .i64 x∧VR x (((((Ca4 h f∧0≤h.size)∧(f=1→0≤h.ms∧h.ms < 8589934592∧h.ha=false∧h.hc=false))∧(h.ha=true→MomR h.ats h.atn f))∧(h.hc=true→MomR h.cts h.ctn f))∧(0 < h.rn→f=2))∧CaS g h.prom w w')
              case first=>
               cases b6
               ·go_wp2
                go_meet
                case rel=>exact ⟨x9,rfl,HX9.out.mono fun e=>⟨e,HB6.out (by trivial)⟩,HSA.out⟩
               ·go_wp2_with (go_at_call 57;refine Calls.mono (all_any _ 2 2 [_,_] _ rfl (by decide) (by decide) (by decide) (cells_new [_,_] _ _) ?_) ?_;(intro x hx;simp only [List.mem_cons,List.not_mem_nil,or_false] at hx;rcases hx with rfl | rfl;assumption;decide);rintro e u1 ⟨⟨vz,rfl,hvz'⟩,rfl⟩;have HVZ:=Lib.hid hvz';clear hvz')
                go_meet
                case rel=>exact ⟨_,rfl,HVZ.out.mono fun e=>absurd (e 2 (by simp)) (by decide),HSA.out.on ((Chg.refl [] _).alloc _)⟩
              case rest=>
               obtain ⟨xA,rfl,hxA,hSB⟩:=hcut
               have HXA:=Lib.hid hxA;have HSB:=Lib.hid hSB
               clear hxA hSB HX9 HSA hvx9 c19 HB2
               generalize wc=wB at*
               have c19:wB.cell? ⟨g,19,none⟩=some (.slice h.ra h.rn h.rc):=HSB.out.c 19 _ rfl
               obtain ⟨r1,r2,r3,r4⟩:=HR.out
               have HR1:=Lib.hid r1
               unfold maxLen at r3
               obtain ⟨ra,hra⟩:∃a,h.ra=a:=⟨_,rfl⟩
               obtain ⟨rn,hrn⟩:∃a,h.rn=a:=⟨_,rfl⟩
               obtain ⟨rc,hrc⟩:∃a,h.rc=a:=⟨_,rfl⟩
               rw [hra,hrn,hrc] at c19
               rw [hra,hrn] at r4
               rw [hrn] at r1 r2
               rw [hrc] at r2 r3
               have HRN:=Lib.hid hrn
               have HL2:=Lib.hid r1
               have HL3:=Lib.hid HL.out
               clear hra hrn hrc r1 HL
               rcases r4 with rfl | ⟨bb,off,rfl,hcell⟩
               ·have hl0:l= []:=List.length_eq_zero_iff.1 HL2.out
                go_wp2
                go_loopw [5,242] (fun v i wr=>v=.int .i64 xA∧i=.int .i64 0∧wr=wB) (fun _ i _=>0)
                case atStart=>exact ⟨rfl,rfl,rfl⟩
                case round=>
                 obtain ⟨rfl,rfl,rfl⟩:=hrel
                 go_wp2
                 go_ret
                 refine ⟨⟨_,rfl,HXA.out.mono fun e=> ?_⟩,HSB.out.chg⟩
                 rw [HP.out]
                 obtain ⟨⟨⟨⟨⟨e1,e2⟩,e3⟩,e4⟩,e5⟩,e6⟩:=e
                 obtain ⟨⟨⟨⟨q1,q2,q3⟩,⟨q4,q5⟩,q6,q7,q8⟩,q9,q10,q11,q12,q13⟩,q14,q15⟩:=e1
                 exact ⟨HPL.out,q1,q2,q3,q4,q5,q6,q7,q8,q9,q10,q11,q12,q13,⟨e2,q14 e2⟩,q15,e3,e4,e5,e6,by rw [hl0];intro p hp;cases hp⟩
               ·have HCE:=Lib.hid hcell
                clear hcell
                go_wp2
                go_loopw [5,242] (fun v i wr=>∃j:Nat,j≤rn∧i=.int .i64 j∧∃x,v=.int .i64 x∧VR x ((((((Ca4 h f∧0≤h.size)∧(f=1→0≤h.ms∧h.ms < 8589934592∧h.ha=false∧h.hc=false))∧(h.ha=true→MomR h.ats h.atn f))∧(h.hc=true→MomR h.cts h.ctn f))∧(0 < h.rn→f=2))∧∀p∈l.take j,RecR p.1 p.2)∧CaS g h.prom w wr) (fun _ i _=>rn - (intOf i).toNat)
                case atStart=>exact ⟨0,by omega,rfl,_,rfl,HXA.out.mono fun e=>⟨e,fun p hp=>(by rw [List.take_zero] at hp;cases hp)⟩,HSB.out⟩
                case round=>
                 obtain ⟨j,hj,rfl,x,rfl,hx,hS⟩:=hrel
                 have HX:=Lib.hid hx;have HS:=Lib.hid hS
                 have hvx:=hx.val
                 clear hx hS
                 by_cases hlt:j < rn
                 ·have hlt':(j:Int) < rn:=by omega
                  have hll:j < l.length:=by rw [HL2.out];exact hlt
                  have hc1:=HS.out.chg.cell (HCE.out j hll).1 (by simp)
                  have hc2:=HS.out.chg.cell (HCE.out j hll).2 (by simp)
                  have hst:=sumR_take l j hll
                  have hsl:=sumR_le l (j+1)
                  rw [hst] at hsl
                  have htk:∀p∈l.take (j+1),p∈l.take j∨p=l[j]:=fun p hp=>by
                   rw [List.take_succ_eq_append_getElem hll] at hp
                   rcases List.mem_append.1 hp with h1 | h1
                   ·exact .inl h1
                   ·exact .inr (List.mem_singleton.1 h1)
                  generalize l[j]=kv at hc1 hc2 hst hsl htk
                  obtain ⟨k,v⟩:=kv
                  simp only at hc1 hc2 hst hsl
                  have hks:k.size≤140737488355328:=by have:=HL3.out;omega
                  have hvs:v.size≤140737488355328:=by have:=HL3.out;omega
                  have HTK:=Lib.hid htk
                  clear htk hst hsl
                  go_wp2_with (first
                   | (go_at_call 61;refine (recFits_any k v _ hks hvs).mono ?_;rintro e u1 ⟨⟨vb,rfl,hvb⟩,hu1⟩;have hvb1:=hvb.val;have HVB:=Lib.hid hvb;have HU1:=Lib.hid hu1;clear hvb hu1)
                   | (go_at_call 57;refine Calls.mono (all_any _ 2 2 [_,_] _ rfl (by decide) (by decide) (by decide) (cells_new [_,_] _ _) ?_) ?_;(intro x hx;simp only [List.mem_cons,List.not_mem_nil,or_false] at hx;rcases hx with rfl | rfl<;>assumption);rintro e u1 ⟨⟨vz,rfl,hvz'⟩,rfl⟩;have HVZ:=Lib.hid hvz';clear hvz'))
                  go_roundw
                  case rel=>
                   refine ⟨j+1,by omega,by go_num,_,rfl,HVZ.out.mono fun e=> ?_,(HS.out.on (((Chg.refl [] _).alloc _).trans HU1.out)).on ((Chg.refl [] _).alloc _)⟩
                   have e1:=HX.out.2 (e _ (by simp))
                   refine ⟨e1.1,fun p hp=> ?_⟩
                   rcases HTK.out p hp with h1 | rfl
                   ·exact e1.2 p h1
                   ·exact HVB.out.2 (e _ (by simp))
                  case measure=>simp [intOf];omega
                 ·obtain rfl:j=rn:=by omega
                  have htk:l.take j=l:=List.take_of_length_le (by rw [HL2.out];omega)
                  have HTK:=Lib.hid htk
                  clear htk
                  go_wp2
                  go_ret
                  refine ⟨⟨_,rfl,HX.out.mono fun e=> ?_⟩,HS.out.chg⟩
                  rw [HP.out]
                  rw [HTK.out] at e
                  obtain ⟨⟨⟨⟨⟨⟨e1,e2⟩,e3⟩,e4⟩,e5⟩,e6⟩,e7⟩:=e
                  obtain ⟨⟨⟨⟨q1,q2,q3⟩,⟨q4,q5⟩,q6,q7,q8⟩,q9,q10,q11,q12,q13⟩,q14,q15⟩:=e1
                  exact ⟨HPL.out,q1,q2,q3,q4,q5,q6,q7,q8,q9,q10,q11,q12,q13,⟨e2,q14 e2⟩,q15,e3,e4,e5,e6,e7⟩
end Go.Proofs.YtkanmkcojlefbaaGreatDoor
