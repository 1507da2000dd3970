/-
  allowedFormats (65): behind the fields (printed by gentail.py).
-/
import Derived.Test.YtkanmkcojlefbaaGreatDoorJ23
import Derived.Deep.CutRange
import Derived.Deep.CutBlock
set_option linter.unusedVariables false
namespace Go.Proofs.YtkanmkcojlefbaaGreatDoor
open Go.RowKit
def dropSeq:Nat→Code→Code
 | 0,c=>c
 | n+1,.seq _ b=>dropSeq n b
 | _,c=>c
noncomputable def afCode (n:Nat):Code:=dropSeq n (Tryz.f65.body.getD .skip)
def finU (U PF hasR wu wp wg:Bool):Bool:=U && !hasR && ((!wu && !wp && !wg) || wu || (wp && !PF))
def finP (P wu wp wg:Bool):Bool:=P && ((!wu && !wp && !wg) || wp)
def finG (G hasR wu wp wg:Bool):Bool:=G && !hasR && ((!wu && !wp && !wg) || wg)
theorem fin_np (U P G PF wu wg:Bool) (h:(!wu && !false && !wg)= !true):(U && wu)=finU U PF false wu false wg∧(P && false)=finP P wu false wg∧(G && wg)=finG G false wu false wg:=by
 revert h
 cases wu<;>cases wg<;>simp [finU,finP,finG]
theorem AFW.hi {s n b:Nat} {th:TH} {R F:KV} {u p g pf:Bool} {w0 w w':World} (h:AFW s th R w0 u p g pf F n w) (k:Chg [b] w w') (hb:s+7 < b) (hb0:w0.heap.size≤b):AFW s th R w0 u p g pf F n w':=by
 have hn:∀i,i≤s+7→i∉([b]:List Nat):=fun i hi hm=>by rw [List.mem_singleton] at hm;omega
 have a:=h.af
 exact ⟨⟨k.heap a.hd (hn _ (by omega)),k.heap a.fm' (hn _ (by omega)),k.heap a.mc (hn _ (by omega)),a.mp.chg k (hn _ (by omega)),a.y4.imp fun _ e=>k.heap e (hn _ (by omega)),a.y5.imp fun _ e=>k.heap e (hn _ (by omega)),a.y6.imp fun _ e=>k.heap e (hn _ (by omega)),k.heap a.b7 (hn _ (by omega)),a.rc.chg k (by simp;omega)⟩,
  h.chg.transFresh k (by simp;exact .inr hb0)⟩
theorem AFW.only {s n:Nat} {th:TH} {R F:KV} {u p g pf u' p' g':Bool} {w0 w w':World} (h:AFW s th R w0 u p g pf F n w) (e:w'=w.setCell ⟨s+1,0,none⟩ (.int .i64 (fm u' p' g'))):AFW s th R w0 u' p' g' pf F n w':=by
 subst e
 exact ⟨h.af.setF u' p' g',h.chg.setCell (.inl (by simp [afS])) _⟩
def AfK (s:Nat) (th:TH) (R:KV) (w0:World) (u p g pf:Bool) (F:KV) (n:Nat) (w':World):Prop:=
 w'.cell? ⟨s+1,0,none⟩=some (.int .i64 (fm u p g))∧w'.cell? ⟨s+2,0,none⟩=some (.map (some (s+3)))∧w'.frozen? ⟨s+1,0,none⟩=false∧w'.frozen? ⟨s+2,0,none⟩=false∧AF s th R u p g pf F n w'∧Chg ((s+2)::afS s) w0 w'
section
variable {s n:Nat} {th:TH} {R F:KV} {u p g pf:Bool} {w0 w w':World}
theorem AfK.of (h:AF s th R u p g pf F n w) (k:Chg ((s+2)::afS s) w0 w):AfK s th R w0 u p g pf F n w:=⟨h.cf,h.cm,h.ff,frozen_heap h.mc 0,h,k⟩
theorem AfK.drew (h:AfK s th R w0 u p g pf F n w):AfK s th R w0 u p g pf F n w.drew:=.of (h.2.2.2.2.1.chg0 (Chg.refl [] _).drew) (h.2.2.2.2.2.drew)
theorem AfK.set1 (h:AfK s th R w0 u p g pf F n w):AfK s th R w0 u p g pf F n (w.setCell ⟨s+1,0,none⟩ (.int .i64 (fm u p g))):=.of (h.2.2.2.2.1.setF u p g) (h.2.2.2.2.2.setCell (.inl (by simp [afS])) _)
theorem AfK.set2 (h:AfK s th R w0 u p g pf F n w):AfK s th R w0 u p g pf F n (w.setCell ⟨s+2,0,none⟩ (.map (some (s+3)))):=by
 have a:=h.2.2.2.2.1
 have k:Chg [s+2] w (w.setCell ⟨s+2,0,none⟩ (.map (some (s+3)))):=(Chg.refl _ w).setCell (.inl (by simp)) _
 exact .of ⟨k.heap a.hd (by simp),k.heap a.fm' (by simp),heap_setCell_at a.mc 0 _,a.mp.chg k (by simp),a.y4.imp fun _ e=>k.heap e (by simp),a.y5.imp fun _ e=>k.heap e (by simp),a.y6.imp fun _ e=>k.heap e (by simp),k.heap a.b7 (by simp),a.rc.chg k (by simp)⟩ (h.2.2.2.2.2.setCell (.inl (by simp)) _)
end
def AfPost (s:Nat) (F:KV) (n:Nat) (u p g:Bool) (w0:World) (e:Ending) (w':World):Prop:=
 e=.returned (.tuple #[.int .i64 (fm u p g),.map (some (s+3)),.nilIface])∧MapS (s+3) n F w'∧Chg ((s+2)::afS s) w0 w'
set_option maxRecDepth 100000 in
set_option maxHeartbeats 4000000 in
theorem af_D (s n:Nat) (th:TH) (R F:KV) (U P G PF:Bool) (w0 w:World) (h:AFW s th R w0 U P G PF F n w) (wu wp wg:Bool) (hfm:th.fmt=fm wu wp wg) (hok:(finU U PF false wu wp wg || finP P wu wp wg || finG G false wu wp wg)=true) {C u9 u10 u11 u12 u13 u14 u15 u16 u17 u18 u19 u20 u21 u22 u23 u24 u25 u26 u27 u28 u29 u30 u31 u32 u33 u34 u35 u36 u37 u38 u39 u40 u41 u42 u43 u44 u45 u46 u47 u48 u49 u50 u51 u52 u53 u54 u55 u56 u57 u58 u59 u60 u61 u62 u63 u64 u65 u66 u67 u68 u69 u70 u71 u72 u73 u74 u75 u76 u77 u78 u79 u80 u81 u82 u83 u84 u85 u86 u87 u88 u89 u90 u91 u92 u93 u94 u95 u96 u97 u98 u99 u100 u101 u102 u103 u104 u105 u106 u107 u108 u109 u110 u111 u112 u113 u114 u115 u116 u117 u118 u119 u120 u121 u122 u123 u124 u125 u126 u127 u128 u129 u130 u131 u132 u133 u134 u135 u136 u137 u138 u139 u140 u141 u142 u143 u144 u145 u146 u147 u148 u149 u150 u151 u152 u153 u154 u155 u156 u157 u158 u159 u160 u161 u162 u163 u164 u165 u166 u167 u168 u169 u170 u171 u172 u173 u174 u175 u176 u177 u178 u179 u180 u181 u182 u183 u184 u185 u186 u187 u188 u189 u190 u191 u192 u193 u194 u195 u196 u197 u198 u199 u200 u201 u202 u203 u204 u205 u206 u207 u208 u209 u210 u211 u212 u213 u214 u215 u216 u217 u218 u219 u220 u221 u222 u223 u224 u225 u226 u227 u228 u229 u230 u231 u232 u233 u234 u235 u236 u237 u238 u239 u240 u241 u242 u243 u244 u245 u246 u247 u248 u249 u250 u251 u252 u253 u254 u255 u256 u257 u258 u259 u260 u261 u262 u263 u264 u265 u266 u267 u268 u269 u270 u271 u272 u273 u274 u275 u276 u277 u278 u279 u280 u281 u282 u283 u284 u285 u286 u287 u288 u289 u290 u291 u292:Value} :
  Code.wp Tryz.prog (afCode 31) (bodyPost Tryz.prog Tryz.f65 (AfPost s F n (finU U PF false wu wp wg) (finP P wu wp wg) (finG G false wu wp wg) w0)) ⟨#[C,.pointer (some ⟨s,0,none⟩),.pointer (some ⟨s+1,0,none⟩),.pointer (some ⟨s+2,0,none⟩),.nilIface,.pointer (some ⟨s+4,0,none⟩),.pointer (some ⟨s+5,0,none⟩),.pointer (some ⟨s+6,0,none⟩),.pointer (some ⟨s+7,0,none⟩),u9,u10,u11,u12,u13,u14,u15,u16,u17,u18,u19,u20,u21,u22,u23,u24,u25,u26,u27,u28,u29,u30,u31,u32,u33,u34,u35,u36,u37,u38,u39,u40,u41,u42,u43,u44,u45,u46,u47,u48,u49,u50,u51,u52,u53,u54,u55,u56,u57,u58,u59,u60,u61,u62,u63,u64,u65,u66,u67,u68,u69,u70,u71,u72,u73,u74,u75,u76,u77,u78,u79,u80,u81,u82,u83,u84,u85,u86,u87,u88,u89,u90,u91,u92,u93,u94,u95,u96,u97,u98,u99,u100,u101,u102,u103,u104,u105,u106,u107,u108,u109,u110,u111,u112,u113,u114,u115,u116,u117,u118,u119,u120,u121,u122,u123,u124,u125,u126,u127,u128,u129,u130,u131,u132,u133,u134,u135,u136,u137,u138,u139,u140,u141,u142,u143,u144,u145,u146,u147,u148,u149,u150,u151,u152,u153,u154,u155,u156,u157,u158,u159,u160,u161,u162,u163,u164,u165,u166,u167,u168,u169,u170,u171,u172,u173,u174,u175,u176,u177,u178,u179,u180,u181,u182,u183,u184,u185,u186,u187,u188,u189,u190,u191,u192,u193,u194,u195,u196,u197,u198,u199,u200,u201,u202,u203,u204,u205,u206,u207,u208,u209,u210,u211,u212,u213,u214,u215,u216,u217,u218,u219,u220,u221,u222,u223,u224,u225,u226,u227,u228,u229,u230,u231,u232,u233,u234,u235,u236,u237,u238,u239,u240,u241,u242,u243,u244,u245,u246,u247,u248,u249,u250,u251,u252,u253,u254,u255,u256,u257,u258,u259,u260,u261,u262,u263,u264,u265,u266,u267,u268,u269,u270,u271,u272,u273,u274,u275,u276,u277,u278,u279,u280,u281,u282,u283,u284,u285,u286,u287,u288,u289,u290,u291,u292],[]⟩ w:=by
 obtain ⟨Q,hQ⟩:∃Q,Q=AfPost s F n (finU U PF false wu wp wg) (finP P wu wp wg) (finG G false wu wp wg) w0:=⟨_,rfl⟩
 rw [←hQ]
 have HQ:=Lib.hid hQ;have H:=Lib.hid h;have HOK:=Lib.hid hok
 have c19:=h.hc 19 _ rfl
 rw [hfm] at c19
 clear hQ h hok hfm
 conv=>arg 2;whnf
 dsimp only
 go_upto_region 70 with (fail)
 go_cut [27] from 292 to 292 (fun s27 w'=>∃b,s27=.pointer (some ⟨b,0,none⟩)∧s+7 < b∧w0.heap.size≤b∧w'.heap[b]? =some (.cells #[.int .i64 (fm wu wp wg)] 128 (0,0))∧AFW s th R w0 U P G PF F n w')
 case first=>
  go_wp2
  go_meet
  case rel=>exact ⟨_,rfl,H.out.af.lt,H.out.chg.size,heap_alloc_new _ _,H.out.chg0 ((Chg.refl _ _).alloc _)⟩
 case rest=>
  obtain ⟨b,rfl,hb,hb0,hbl,hcut⟩:=hcut
  have H1:=Lib.hid hcut;have HB:=Lib.hid hbl;have HB0:=Lib.hid hb0
  have b0:=cell_heap hbl 0
  simp only [List.getElem?_toArray,List.getElem?_cons_zero] at b0
  have bf:=frozen_heap hbl 0
  clear hcut H c19 hbl hb0
  have c7:wc.cell? ⟨s+7,0,none⟩=some (.bool PF):=by rw [cell_heap H1.out.af.b7];rfl
  have cf:=H1.out.af.cf;have ff:=H1.out.af.ff
  obtain ⟨nz,hnz⟩:∃nz,(fm wu wp wg != 0)=nz:=⟨_,rfl⟩
  have hwu:(!wu && !wp && !wg)= !nz:=by rw [←hnz];cases wu<;>cases wp<;>cases wg<;>decide
  have HWU:=Lib.hid hwu
  clear hwu
  go_upto_if 250 with (fail)
  clear hnz
  go_cut [] from 292 to 292 (fun w'=>AFW s th R w0 (finU U PF false wu wp wg) (finP P wu wp wg) (finG G false wu wp wg) PF F n w')
  case first=>
   cases nz
   ·go_wp2
    go_meet
    case rel=>exact H1.out.cast (by simp [finU,HWU.out]) (by simp [finP,HWU.out]) (by simp [finG,HWU.out]) rfl rfl
   ·cases wp
    ·go_wp2_with (first
      | (go_at_call 66;refine (has_pax wu false wg _).mono ?_;rintro e w1 ⟨rfl,rfl⟩)
      | (go_at_call 123;refine (only_any U P G wu false wg (s+1) _ cf ff).mono ?_;rintro e w1 ⟨rfl,hw1⟩;have H2:=Lib.hid (H1.out.only hw1);clear hw1))
     go_meet
     case rel=>exact H2.out.cast (fin_np U P G PF wu wg HWU.out).1 (fin_np U P G PF wu wg HWU.out).2.1 (fin_np U P G PF wu wg HWU.out).2.2 rfl rfl
    ·cases PF
     ·go_wp2_with (first
       | (go_at_call 66;refine (has_pax wu true wg _).mono ?_;rintro e w1 ⟨rfl,rfl⟩)
       | (go_at_call 127;refine (may_ustar wu true wg b _ b0 bf).mono ?_;rintro e w1 ⟨rfl,hw1⟩;have h2:AFW s th R w0 U P G false F n w1:=(by rw [hw1];exact H1.out.hi ((Chg.refl _ _).setCell (.inl (by simp)) _) hb HB0.out);have b1:w1.cell? ⟨b,0,none⟩=some (.int .i64 (fm true true wg)):=(by rw [hw1,cell_heap (heap_setCell_at HB.out 0 _)];rfl);have cf1:=h2.af.cf;have ff1:=h2.af.ff;have H2:=Lib.hid h2;clear hw1 h2)
       | (go_at_call 123;refine (only_any U P G true true wg (s+1) _ cf1 ff1).mono ?_;rintro e w3 ⟨rfl,hw3⟩;have H3:=Lib.hid (H2.out.only hw3);clear hw3))
      go_meet
      case rel=>exact H3.out.cast (by simp [finU]) (by simp [finP]) (by simp [finG]) rfl rfl
     ·go_wp2_with (first
       | (go_at_call 66;refine (has_pax wu true wg _).mono ?_;rintro e w1 ⟨rfl,rfl⟩)
       | (go_at_call 123;refine (only_any U P G wu true wg (s+1) _ cf ff).mono ?_;rintro e w1 ⟨rfl,hw1⟩;have H2:=Lib.hid (H1.out.only hw1);clear hw1))
      go_meet
      case rel=>exact H2.out.cast (by simp [finU]) (by simp [finP]) (by simp [finG]) rfl rfl
  case rest=>
   have H2:=Lib.hid hcut
   clear hcut H1 HB b0 bf c7 cf ff
   have hnz:(fm (finU U PF false wu wp wg) (finP P wu wp wg) (finG G false wu wp wg) == 0)=false:=by
    have:=HOK.out
    revert this
    cases finU U PF false wu wp wg<;>cases finP P wu wp wg<;>cases finG G false wu wp wg<;>decide
   generalize finU U PF false wu wp wg=fu at*
   generalize finP P wu wp wg=fp at*
   generalize finG G false wu wp wg=fg at*
   have cf:=H2.out.af.cf;have ff:=H2.out.af.ff;have cm:=H2.out.af.cm
   have fmc:wc.frozen? ⟨s+2,0,none⟩=false:=frozen_heap H2.out.af.mc 0
   go_upto_region 84 with (fail)
   have hk0:AfK s th R w0 fu fp fg PF F n wc:=.of H2.out.af (H2.out.chg.mono (fun k hk=>List.mem_cons_of_mem _ hk))
   have HK0:=Lib.hid hk0
   clear hk0 H2 cf ff cm fmc
   go_region_held3 (fun w'=>w'.cell? ⟨s+1,0,none⟩=some (.int .i64 (fm fu fp fg))∧w'.cell? ⟨s+2,0,none⟩=some (.map (some (s+3)))∧w'.frozen? ⟨s+1,0,none⟩=false∧w'.frozen? ⟨s+2,0,none⟩=false∧AF s th R fu fp fg PF F n w'∧Chg ((s+2)::afS s) w0 w') (first | exact HK0.out.drew | exact HK0.out.set1.drew | exact HK0.out.set2.drew | exact HK0.out.set1.set2.drew | exact HK0.out.set2.set1.drew) (fail)
   all_goals
    go_wp2
    have hk1:=HK0.out.set1.set2.drew
    have hk2:=HK0.out.set2.set1.drew
    first
     | (have e1:=hk1.1;have e2:=hk1.2.1;clear hk2;refine bodyPost_ret (v:=.tuple #[.int .i64 (fm fu fp fg),.map (some (s+3)),.nilIface]) (by simp [results,Tryz.results65,go_sem,e1,e2]) rfl ?_;rw [HQ.out];exact ⟨rfl,hk1.2.2.2.2.1.mp,hk1.2.2.2.2.2⟩)
     | (have e1:=hk2.1;have e2:=hk2.2.1;clear hk1;refine bodyPost_ret (v:=.tuple #[.int .i64 (fm fu fp fg),.map (some (s+3)),.nilIface]) (by simp [results,Tryz.results65,go_sem,e1,e2]) rfl ?_;rw [HQ.out];exact ⟨rfl,hk2.2.2.2.2.1.mp,hk2.2.2.2.2.2⟩)
     | (fail "nothing on")
set_option maxRecDepth 100000 in
set_option maxHeartbeats 4000000 in
theorem af_C (s n:Nat) (th:TH) (R F:KV) (U P G PF:Bool) (w0 w:World) (h:AFW s th R w0 U P G PF F n w) (hval:∀k v,F k=some v→RecOk k v) (wu wp wg:Bool) (hfm:th.fmt=fm wu wp wg) (hok:(finU U PF false wu wp wg || finP P wu wp wg || finG G false wu wp wg)=true) {C u9 u10 u11 u12 u13 u14 u15 u16 u17 u18 u19 u20 u21 u22 u23 u24 u25 u26 u27 u28 u29 u30 u31 u32 u33 u34 u35 u36 u37 u38 u39 u40 u41 u42 u43 u44 u45 u46 u47 u48 u49 u50 u51 u52 u53 u54 u55 u56 u57 u58 u59 u60 u61 u62 u63 u64 u65 u66 u67 u68 u69 u70 u71 u72 u73 u74 u75 u76 u77 u78 u79 u80 u81 u82 u83 u84 u85 u86 u87 u88 u89 u90 u91 u92 u93 u94 u95 u96 u97 u98 u99 u100 u101 u102 u103 u104 u105 u106 u107 u108 u109 u110 u111 u112 u113 u114 u115 u116 u117 u118 u119 u120 u121 u122 u123 u124 u125 u126 u127 u128 u129 u130 u131 u132 u133 u134 u135 u136 u137 u138 u139 u140 u141 u142 u143 u144 u145 u146 u147 u148 u149 u150 u151 u152 u153 u154 u155 u156 u157 u158 u159 u160 u161 u162 u163 u164 u165 u166 u167 u168 u169 u170 u171 u172 u173 u174 u175 u176 u177 u178 u179 u180 u181 u182 u183 u184 u185 u186 u187 u188 u189 u190 u191 u192 u193 u194 u195 u196 u197 u198 u199 u200 u201 u202 u203 u204 u205 u206 u207 u208 u209 u210 u211 u212 u213 u214 u215 u216 u217 u218 u219 u220 u221 u222 u223 u224 u225 u226 u227 u228 u229 u230 u231 u232 u233 u234 u235 u236 u237 u238 u239 u240 u241 u242 u243 u244 u245 u246 u247 u248 u249 u250 u251 u252 u253 u254 u255 u256 u257 u258 u259 u260 u261 u262 u263 u264 u265 u266 u267 u268 u269 u270 u271 u272 u273 u274 u275 u276 u277 u278 u279 u280 u281 u282 u283 u284 u285 u286 u287 u288 u289 u290 u291 u292:Value} :
  Code.wp Tryz.prog (afCode 30) (bodyPost Tryz.prog Tryz.f65 (AfPost s F n (finU U PF false wu wp wg) (finP P wu wp wg) (finG G false wu wp wg) w0)) ⟨#[C,.pointer (some ⟨s,0,none⟩),.pointer (some ⟨s+1,0,none⟩),.pointer (some ⟨s+2,0,none⟩),.nilIface,.pointer (some ⟨s+4,0,none⟩),.pointer (some ⟨s+5,0,none⟩),.pointer (some ⟨s+6,0,none⟩),.pointer (some ⟨s+7,0,none⟩),u9,u10,u11,u12,u13,u14,u15,u16,u17,u18,u19,u20,u21,u22,u23,u24,u25,u26,u27,u28,u29,u30,u31,u32,u33,u34,u35,u36,u37,u38,u39,u40,u41,u42,u43,u44,u45,u46,u47,u48,u49,u50,u51,u52,u53,u54,u55,u56,u57,u58,u59,u60,u61,u62,u63,u64,u65,u66,u67,u68,u69,u70,u71,u72,u73,u74,u75,u76,u77,u78,u79,u80,u81,u82,u83,u84,u85,u86,u87,u88,u89,u90,u91,u92,u93,u94,u95,u96,u97,u98,u99,u100,u101,u102,u103,u104,u105,u106,u107,u108,u109,u110,u111,u112,u113,u114,u115,u116,u117,u118,u119,u120,u121,u122,u123,u124,u125,u126,u127,u128,u129,u130,u131,u132,u133,u134,u135,u136,u137,u138,u139,u140,u141,u142,u143,u144,u145,u146,u147,u148,u149,u150,u151,u152,u153,u154,u155,u156,u157,u158,u159,u160,u161,u162,u163,u164,u165,u166,u167,u168,u169,u170,u171,u172,u173,u174,u175,u176,u177,u178,u179,u180,u181,u182,u183,u184,u185,u186,u187,u188,u189,u190,u191,u192,u193,u194,u195,u196,u197,u198,u199,u200,u201,u202,u203,u204,u205,u206,u207,u208,u209,u210,u211,u212,u213,u214,u215,u216,u217,u218,u219,u220,u221,u222,u223,u224,u225,u226,u227,u228,u229,u230,u231,u232,u233,u234,u235,u236,u237,u238,u239,u240,u241,u242,u243,u244,u245,u246,u247,u248,u249,u250,u251,u252,u253,u254,u255,u256,u257,u258,u259,u260,u261,u262,u263,u264,u265,u266,u267,u268,u269,u270,u271,u272,u273,u274,u275,u276,u277,u278,u279,u280,u281,u282,u283,u284,u285,u286,u287,u288,u289,u290,u291,u292],[]⟩ w:=by
 obtain ⟨Q,hQ⟩:∃Q,Q=AfPost s F n (finU U PF false wu wp wg) (finP P wu wp wg) (finG G false wu wp wg) w0:=⟨_,rfl⟩
 rw [←hQ]
 have HQ:=Lib.hid hQ;have HOK:=Lib.hid hok;have HV:=Lib.hid hval;have HFM:=Lib.hid hfm
 have cm:=h.af.cm
 obtain ⟨w1,cnt,hrun,hr,hc1,hz1⟩:=h.af.mp.range
 have h1:=h.chg0 hc1
 have hb:s+7 < w.heap.size:=h.af.lt
 have hb0:w0.heap.size≤w.heap.size:=h.chg.size
 have H1:=Lib.hid h1;have HR:=Lib.hid hr;have HB:=Lib.hid hb;have HB0:=Lib.hid hb0
 clear hQ h hok hfm hval hc1 hz1 h1 hr hb hb0
 conv=>arg 2;whnf
 dsimp only
 go_upto_block 6 with (fail)
 generalize w.heap.size=r at*
 go_cut [4] from 292 to 292 (fun s4 w'=>s4=.nilIface∧AFW s th R w0 U P G PF F n w')
 case first=>
  go_wp2
  go_loopw [4] (fun s4 wr=>s4=.nilIface∧∃left cnt',RngS (s+3) r n F left cnt' wr∧AFW s th R w0 U P G PF F n wr) (fun _ wr=>wr.rangeLeft (s+3) r)
  case atStart=>exact ⟨rfl,_,_,HR.out,H1.out⟩
  case round=>
   obtain ⟨rfl,left,cnt',hR,hA⟩:=hrel
   have HL:=Lib.hid hR.cnt_eq
   have hnx:=hR.next 0
   have HA:=Lib.hid hA
   clear hA hR
   rcases hnx with ⟨_,hn⟩ | ⟨k,v,w2,cnt2,hks,hvs,hlk,hFk,hn,hR2,hlt,hc2,hen⟩
   ·go_wp2
    go_meet
    case rel=>exact ⟨rfl,HA.out⟩
   ·have HR2:=Lib.hid hR2;have HLT:=Lib.hid hlt;have HC2:=Lib.hid (HA.out.hi hc2 HB.out HB0.out);have HRO:=Lib.hid (HV.out _ _ hFk)
    clear hks hvs hlk hFk hR2 hlt hc2
    go_wp2_with (go_at_call 126;refine (valid_ok k v _ HRO.out).mono ?_;rintro e w3 ⟨rfl,rfl⟩)
    go_roundw
    case rel=>exact ⟨rfl,_,_,HR2.out,HC2.out⟩
    case measure=>rw [HR2.out.cnt_eq,HL.out];exact HLT.out
 case rest=>
  obtain ⟨rfl,hcut⟩:=hcut
  have hq:=HQ.out
  subst hq
  go_step
  exact af_D s n th R F U P G PF w0 wc hcut wu wp wg HFM.out HOK.out
theorem fin_has (U PF G wu wp wg hr:Bool):finU (U && !hr) PF false wu wp wg=finU U PF hr wu wp wg∧finG (G && !hr) false wu wp wg=finG G hr wu wp wg:=by
 cases hr<;>simp [finU,finG]
def RecsN (v:Value) (s:Nat) (R:KV) (nR:Nat) (hr:Bool) (w:World):Prop:=
 (hr=false∧v=.map none∧∀k,R k=none)∨(hr=true∧(∃k v,k.size≤maxLen∧R k=some v)∧∃b,v=.map (some b)∧b < s∧MapS b nR R w)
set_option maxRecDepth 100000 in
set_option maxHeartbeats 4000000 in
theorem af_B (B:Nat) (sn:Nat→Addr) (kb:Nat) (s n nR:Nat) (th:TH) (R F:KV) (U P G PF hr:Bool) (w0 w:World) (h:AFW s th R w0 U P G PF F n w) (hE:Env B sn kb w0) (hBs:B≤s) (htf:TfOk th) (hRN:RecsN th.recs s R nR hr w0) (hsum:n+nR < 1099511627776) (hval:∀k v,mergeF F R k=some v→RecOk k v) (wu wp wg:Bool) (hfm:th.fmt=fm wu wp wg) (hok:(finU U PF hr wu wp wg || finP P wu wp wg || finG G hr wu wp wg)=true) {C u9 u10 u11 u12 u13 u14 u15 u16 u17 u18 u19 u20 u21 u22 u23 u24 u25 u26 u27 u28 u29 u30 u31 u32 u33 u34 u35 u36 u37 u38 u39 u40 u41 u42 u43 u44 u45 u46 u47 u48 u49 u50 u51 u52 u53 u54 u55 u56 u57 u58 u59 u60 u61 u62 u63 u64 u65 u66 u67 u68 u69 u70 u71 u72 u73 u74 u75 u76 u77 u78 u79 u80 u81 u82 u83 u84 u85 u86 u87 u88 u89 u90 u91 u92 u93 u94 u95 u96 u97 u98 u99 u100 u101 u102 u103 u104 u105 u106 u107 u108 u109 u110 u111 u112 u113 u114 u115 u116 u117 u118 u119 u120 u121 u122 u123 u124 u125 u126 u127 u128 u129 u130 u131 u132 u133 u134 u135 u136 u137 u138 u139 u140 u141 u142 u143 u144 u145 u146 u147 u148 u149 u150 u151 u152 u153 u154 u155 u156 u157 u158 u159 u160 u161 u162 u163 u164 u165 u166 u167 u168 u169 u170 u171 u172 u173 u174 u175 u176 u177 u178 u179 u180 u181 u182 u183 u184 u185 u186 u187 u188 u189 u190 u191 u192 u193 u194 u195 u196 u197 u198 u199 u200 u201 u202 u203 u204 u205 u206 u207 u208 u209 u210 u211 u212 u213 u214 u215 u216 u217 u218 u219 u220 u221 u222 u223 u224 u225 u226 u227 u228 u229 u230 u231 u232 u233 u234 u235 u236 u237 u238 u239 u240 u241 u242 u243 u244 u245 u246 u247 u248 u249 u250 u251 u252 u253 u254 u255 u256 u257 u258 u259 u260 u261 u262 u263 u264 u265 u266 u267 u268 u269 u270 u271 u272 u273 u274 u275 u276 u277 u278 u279 u280 u281 u282 u283 u284 u285 u286 u287 u288 u289 u290 u291 u292:Value} :
  Code.wp Tryz.prog (afCode 29) (bodyPost Tryz.prog Tryz.f65 (AfPost s (mergeF F R) (n+nR) (finU U PF hr wu wp wg) (finP P wu wp wg) (finG G hr wu wp wg) w0)) ⟨#[C,.pointer (some ⟨s,0,none⟩),.pointer (some ⟨s+1,0,none⟩),.pointer (some ⟨s+2,0,none⟩),.nilIface,.pointer (some ⟨s+4,0,none⟩),.pointer (some ⟨s+5,0,none⟩),.pointer (some ⟨s+6,0,none⟩),.pointer (some ⟨s+7,0,none⟩),u9,u10,u11,u12,u13,u14,u15,u16,u17,u18,u19,u20,u21,u22,u23,u24,u25,u26,u27,u28,u29,u30,u31,u32,u33,u34,u35,u36,u37,u38,u39,u40,u41,u42,u43,u44,u45,u46,u47,u48,u49,u50,u51,u52,u53,u54,u55,u56,u57,u58,u59,u60,u61,u62,u63,u64,u65,u66,u67,u68,u69,u70,u71,u72,u73,u74,u75,u76,u77,u78,u79,u80,u81,u82,u83,u84,u85,u86,u87,u88,u89,u90,u91,u92,u93,u94,u95,u96,u97,u98,u99,u100,u101,u102,u103,u104,u105,u106,u107,u108,u109,u110,u111,u112,u113,u114,u115,u116,u117,u118,u119,u120,u121,u122,u123,u124,u125,u126,u127,u128,u129,u130,u131,u132,u133,u134,u135,u136,u137,u138,u139,u140,u141,u142,u143,u144,u145,u146,u147,u148,u149,u150,u151,u152,u153,u154,u155,u156,u157,u158,u159,u160,u161,u162,u163,u164,u165,u166,u167,u168,u169,u170,u171,u172,u173,u174,u175,u176,u177,u178,u179,u180,u181,u182,u183,u184,u185,u186,u187,u188,u189,u190,u191,u192,u193,u194,u195,u196,u197,u198,u199,u200,u201,u202,u203,u204,u205,u206,u207,u208,u209,u210,u211,u212,u213,u214,u215,u216,u217,u218,u219,u220,u221,u222,u223,u224,u225,u226,u227,u228,u229,u230,u231,u232,u233,u234,u235,u236,u237,u238,u239,u240,u241,u242,u243,u244,u245,u246,u247,u248,u249,u250,u251,u252,u253,u254,u255,u256,u257,u258,u259,u260,u261,u262,u263,u264,u265,u266,u267,u268,u269,u270,u271,u272,u273,u274,u275,u276,u277,u278,u279,u280,u281,u282,u283,u284,u285,u286,u287,u288,u289,u290,u291,u292],[]⟩ w:=by
 rw [←(fin_has U PF G wu wp wg hr).1,←(fin_has U PF G wu wp wg hr).2] at hok⊢
 have c18:=h.hc 18 _ rfl
 rcases hRN with ⟨rfl,hrec,hno⟩ | ⟨rfl,hex,b,hrec,hbs,hM⟩
 ·rw [mergeF_none F R hno] at hval⊢
  obtain ⟨Q,hQ⟩:∃Q,Q=AfPost s F (n+nR) (finU (U && !false) PF false wu wp wg) (finP P wu wp wg) (finG (G && !false) false wu wp wg) w0:=⟨_,rfl⟩
  rw [←hQ]
  rw [hrec] at c18
  have HQ:=Lib.hid hQ;have H:=Lib.hid h;have HOK:=Lib.hid hok;have HV:=Lib.hid hval;have HFM:=Lib.hid hfm
  clear hQ h hok hval hfm hrec hno htf
  have hln:=len_nil127
  conv=>arg 2;whnf
  dsimp only
  go_upto_if 196 with (fail)
  go_cut [] from 292 to 292 (fun w'=>AFW s th R w0 U P G PF F n w')
  case first=>
   go_wp2
   go_meet
   case rel=>exact H.out
  case rest=>
   have hq:=HQ.out
   subst hq
   go_step
   exact af_C s (n+nR) th R F (U && !false) P (G && !false) PF w0 wc ((hcut.mono (by omega)).cast (by simp) rfl (by simp) rfl rfl) HV.out wu wp wg HFM.out HOK.out
 ·obtain ⟨Q,hQ⟩:∃Q,Q=AfPost s (mergeF F R) (n+nR) (finU (U && !true) PF false wu wp wg) (finP P wu wp wg) (finG (G && !true) false wu wp wg) w0:=⟨_,rfl⟩
  rw [←hQ]
  rw [hrec] at c18
  have hMw:MapS b nR R w:=hM.chg h.chg (fun hm=>by have:=afS_ge (Nat.le_refl s) b hm;omega)
  have HQ:=Lib.hid hQ;have H:=Lib.hid h;have HOK:=Lib.hid hok;have HV:=Lib.hid hval;have HFM:=Lib.hid hfm;have HM:=Lib.hid hMw;have HX:=Lib.hid hex;have HREC:=Lib.hid hrec;have HE:=Lib.hid hE;have HTF:=Lib.hid htf;have HSUM:=Lib.hid hsum;have HBS:=Lib.hid hbs
  obtain ⟨m,hln,_,hm1,_⟩:=hMw.len 3
  have hmp:0 < m:=hm1 hex
  obtain ⟨w1,cnt,hrun,hr,hc1,hz1⟩:=hMw.range
  have h1:=h.chg0 hc1
  have hb:s+7 < w.heap.size:=h.af.lt
  have hb0:w0.heap.size≤w.heap.size:=h.chg.size
  have H1:=Lib.hid h1;have HR:=Lib.hid hr;have HB:=Lib.hid hb;have HB0:=Lib.hid hb0
  clear hQ h hok hval hfm hrec htf hM hMw hex hm1 hc1 hz1 h1 hr hb hb0 hE hsum hbs
  conv=>arg 2;whnf
  dsimp only
  go_upto_if 196 with (fail)
  generalize w.heap.size=r at*
  go_cut [] from 292 to 292 (fun w'=>AFW s th R w0 (U && !true) P (G && !true) PF (mergeF F R) (n+nR) w')
  case first=>
   go_wp2
   go_loopw [] (fun wr=>∃left cnt' n',n'+cnt'≤n+nR∧RngS b r nR R left cnt' wr∧AFW s th R w0 U P G PF (mergeL F R left) n' wr) (fun wr=>wr.rangeLeft b r)
   case atStart=>exact ⟨_,_,n,(by have:=HR.out.cnt_le;omega),HR.out,H1.out.cast rfl rfl rfl rfl (mergeL_start F R).symm⟩
   case round=>
    obtain ⟨left,cnt',n',hnn,hR,hA⟩:=hrel
    have HL:=Lib.hid hR.cnt_eq
    have hnx:=hR.next 0
    have HA:=Lib.hid hA;have HNN:=Lib.hid hnn
    clear hA hnn
    rcases hnx with ⟨hall,hn⟩ | ⟨k,v,w2,cnt2,hks,hvs,hlk,hFk,hn,hR2,hlt,hc2,hen⟩
    ·have hend:AFW s th R w0 U P G PF (mergeF F R) (n+nR) wr:=by
      have a:=HA.out.mono (Nat.le_trans (Nat.le_add_right _ _) HNN.out)
      exact ⟨⟨a.af.hd,a.af.fm',a.af.mc,a.af.mp.congr (mergeL_end hall),a.af.y4,a.af.y5,a.af.y6,a.af.b7,a.af.rc⟩,a.chg⟩
     have HEND:=Lib.hid hend
     have cf:=hend.af.cf;have ff:=hend.af.ff
     clear hend hall hR
     go_wp2_with (go_at_call 123;refine (only_any U P G false true false (s+1) _ cf ff).mono ?_;rintro e w3 ⟨rfl,hw3⟩;have H3:=Lib.hid (HEND.out.only hw3);clear hw3)
     go_meet
     case rel=>exact H3.out.cast (by simp) (by simp) (by simp) rfl rfl
    ·have hA2:=HA.out.hi hc2 HB.out HB0.out
     have hlook:=hA2.af.mp.lookOk k hks
     have cm:=hA2.af.cm
     have c0:=hA2.hc 0 _ rfl
     have hE2:=HE.out.chg hA2.chg (afS_ge hBs)
     have c7:=hE2.c7
     have hbas:=hE2.basic k hks
     have HR2:=Lib.hid hR2;have HLT:=Lib.hid hlt;have HA2:=Lib.hid hA2;have HLK:=Lib.hid hlk;have HFK:=Lib.hid hFk;have HKS:=Lib.hid hks;have HVS:=Lib.hid hvs;have HCNT:=Lib.hid hR2.cnt_eq
     rw [mergeL_left hlk] at hlook
     clear hlk hFk hR2 hlt hc2 hA2 hR hks hvs hE2
     cases hf:F k with
     | some x=>
      rw [hf] at hlook
      have HF:=Lib.hid hf
      clear hf
      go_wp2
      go_roundw
      case rel=>exact ⟨_,_,n',(by have:=HLT.out;have:=HNN.out;omega),HR2.out,HA2.out.cast rfl rfl rfl rfl (mergeL_skip (.inl (by rw [HF.out];rfl)) HLK.out).symm⟩
      case measure=>rw [HCNT.out,HL.out];exact HLT.out
     | none=>
      rw [hf] at hlook
      have HF:=Lib.hid hf
      have htf:(((th.tf.toNat:Nat):Int) == 103)=false:=by
       have:=HTF.out
       unfold TfOk at this
       simp only [beq_eq_false_iff_ne,ne_eq]
       omega
      clear hf
      cases hbs:basicB k
      ·rw [hbs] at hbas
       have HBSC:=Lib.hid hbs
       clear hbs
       obtain ⟨w3,hput,h3,hc3⟩:=HA2.out.af.putM (by have:=HNN.out;have:=HSUM.out;unfold maxLen;omega) k v HKS.out HVS.out
       have H3:Hid (AFW s th R w0 U P G PF (KV.set (mergeL F R left) k v) (n'+1) w3):=Lib.hid ⟨h3,HA2.out.chg.trans (hc3.mono (by simp [afS]))⟩
       have HC3:=Lib.hid hc3
       clear h3 hc3
       cases hsp:sparseB k
       ·have HSP:=Lib.hid hsp
        clear hsp
        go_wp2_with (go_at_call 125;refine (Tryz.strings_HasPrefix k ⟨#[71,78,85,46,115,112,97,114,115,101,46]⟩ _).mono ?_;rw [show Lib.hasPrefix k.data.toList (⟨#[71,78,85,46,115,112,97,114,115,101,46]⟩:ByteArray).data.toList=sparseB k from rfl,HSP.out];rintro e w4 ⟨rfl,hw4⟩;rw [hw4];clear hw4)
        go_roundw
        case rel=>exact ⟨_,_,n'+1,(by have:=HLT.out;have:=HNN.out;omega),HR2.out.chg HC3.out (by have:=HBS.out;simp;omega) (by have:=HB.out;simp;omega),H3.out.cast rfl rfl rfl rfl (mergeL_put HF.out (by unfold okKey;rw [HBSC.out,HSP.out];rfl) HLK.out HFK.out)⟩
        case measure=>rw [(HR2.out.chg HC3.out (by have:=HBS.out;simp;omega) (by have:=HB.out;simp;omega)).cnt_eq,HL.out];exact HLT.out
       ·have HSP:=Lib.hid hsp
        clear hsp hput
        go_wp2_with (go_at_call 125;refine (Tryz.strings_HasPrefix k ⟨#[71,78,85,46,115,112,97,114,115,101,46]⟩ _).mono ?_;rw [show Lib.hasPrefix k.data.toList (⟨#[71,78,85,46,115,112,97,114,115,101,46]⟩:ByteArray).data.toList=sparseB k from rfl,HSP.out];rintro e w4 ⟨rfl,hw4⟩;rw [hw4];clear hw4)
        go_roundw
        case rel=>exact ⟨_,_,n',(by have:=HLT.out;have:=HNN.out;omega),HR2.out,HA2.out.cast rfl rfl rfl rfl (mergeL_skip (.inr (by unfold okKey;rw [HSP.out];simp)) HLK.out).symm⟩
        case measure=>rw [HCNT.out,HL.out];exact HLT.out
      ·rw [hbs] at hbas
       have HBSC:=Lib.hid hbs
       clear hbs
       go_wp2
       go_roundw
       case rel=>exact ⟨_,_,n',(by have:=HLT.out;have:=HNN.out;omega),HR2.out,HA2.out.cast rfl rfl rfl rfl (mergeL_skip (.inr (by unfold okKey;rw [HBSC.out];rfl)) HLK.out).symm⟩
       case measure=>rw [HCNT.out,HL.out];exact HLT.out
  case rest=>
   have hq:=HQ.out
   subst hq
   go_step
   exact af_C s (n+nR) th R (mergeF F R) (U && !true) P (G && !true) PF w0 wc hcut HV.out wu wp wg HFM.out HOK.out
end Go.Proofs.YtkanmkcojlefbaaGreatDoor
