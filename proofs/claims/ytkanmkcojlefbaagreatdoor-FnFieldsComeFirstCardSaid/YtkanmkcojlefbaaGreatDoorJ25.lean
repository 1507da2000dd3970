/-
  allowedFormats (65): the types of files (printed by genafa.py).
-/
import Derived.Test.YtkanmkcojlefbaaGreatDoorJ24
import Derived.Test.YtkanmkcojlefbaaGreatDoorJ09
import Derived.Test.YtkanmkcojlefbaaGreatDoorJ03
set_option linter.unusedVariables false
namespace Go.Proofs.YtkanmkcojlefbaaGreatDoor
open Go.RowKit
set_option maxRecDepth 100000 in
set_option maxHeartbeats 4000000 in
theorem af_A (B:Nat) (sn:Nat→Addr) (kb:Nat) (s n nR:Nat) (th:TH) (R F:KV) (U P G PF hr:Bool) (w0 w:World) (h:AFW s th R w0 U P G PF F n w) (hE:Env B sn kb w0) (hBs:B≤s) (htf:TfOk th) (hns:th.name.size≤140737488355328) (hslash:th.tf.toNat=53∨slashB th.name=false) (hsz:0≤th.size) (hxa:th.xa=.map none) (hRN:RecsN th.recs s R nR hr w0) (hsum:n+nR < 1099511627776) (hval:∀k v,mergeF F R k=some v→RecOk k v) (wu wp wg:Bool) (hfm:th.fmt=fm wu wp wg) (hok:(finU U PF hr wu wp wg || finP P wu wp wg || finG G hr wu wp wg)=true) {C u9 u10 u11 u12 u13 u14 u15 u16 u17 u18 u19 u20 u21 u22 u23 u24 u25 u26 u27 u28 u29 u30 u31 u32 u33 u34 u35 u36 u37 u38 u39 u40 u41 u42 u43 u44 u45 u46 u47 u48 u49 u50 u51 u52 u53 u54 u55 u56 u57 u58 u59 u60 u61 u62 u63 u64 u65 u66 u67 u68 u69 u70 u71 u72 u73 u74 u75 u76 u77 u78 u79 u80 u81 u82 u83 u84 u85 u86 u87 u88 u89 u90 u91 u92 u93 u94 u95 u96 u97 u98 u99 u100 u101 u102 u103 u104 u105 u106 u107 u108 u109 u110 u111 u112 u113 u114 u115 u116 u117 u118 u119 u120 u121 u122 u123 u124 u125 u126 u127 u128 u129 u130 u131 u132 u133 u134 u135 u136 u137 u138 u139 u140 u141 u142 u143 u144 u145 u146 u147 u148 u149 u150 u151 u152 u153 u154 u155 u156 u157 u158 u159 u160 u161 u162 u163 u164 u165 u166 u167 u168 u169 u170 u171 u172 u173 u174 u175 u176 u177 u178 u179 u180 u181 u182 u183 u184 u185 u186 u187 u188 u189 u190 u191 u192 u193 u194 u195 u196 u197 u198 u199 u200 u201 u202 u203 u204 u205 u206 u207 u208 u209 u210 u211 u212 u213 u214 u215 u216 u217 u218 u219 u220 u221 u222 u223 u224 u225 u226 u227 u228 u229 u230 u231 u232 u233 u234 u235 u236 u237 u238 u239 u240 u241 u242 u243 u244 u245 u246 u247 u248 u249 u250 u251 u252 u253 u254 u255 u256 u257 u258 u259 u260 u261 u262 u263 u264 u265 u266 u267 u268 u269 u270 u271 u272 u273 u274 u275 u276 u277 u278 u279 u280 u281 u282 u283 u284 u285 u286 u287 u288 u289 u290 u291 u292:Value} :
  Code.wp Tryz.prog (afCode 25) (bodyPost Tryz.prog Tryz.f65 (AfPost s (mergeF F R) (n+nR) (finU U PF hr wu wp wg) (finP P wu wp wg) (finG G hr wu wp wg) w0)) ⟨#[C,.pointer (some ⟨s,0,none⟩),.pointer (some ⟨s+1,0,none⟩),.pointer (some ⟨s+2,0,none⟩),.nilIface,.pointer (some ⟨s+4,0,none⟩),.pointer (some ⟨s+5,0,none⟩),.pointer (some ⟨s+6,0,none⟩),.pointer (some ⟨s+7,0,none⟩),u9,u10,u11,u12,u13,u14,u15,u16,u17,u18,u19,u20,u21,u22,u23,u24,u25,u26,u27,u28,u29,u30,u31,u32,u33,u34,u35,u36,u37,u38,u39,u40,u41,u42,u43,u44,u45,u46,u47,u48,u49,u50,u51,u52,u53,u54,u55,u56,u57,u58,u59,u60,u61,u62,u63,u64,u65,u66,u67,u68,u69,u70,u71,u72,u73,u74,u75,u76,u77,u78,u79,u80,u81,u82,u83,u84,u85,u86,u87,u88,u89,u90,u91,u92,u93,u94,u95,u96,u97,u98,u99,u100,u101,u102,u103,u104,u105,u106,u107,u108,u109,u110,u111,u112,u113,u114,u115,u116,u117,u118,u119,u120,u121,u122,u123,u124,u125,u126,u127,u128,u129,u130,u131,u132,u133,u134,u135,u136,u137,u138,u139,u140,u141,u142,u143,u144,u145,u146,u147,u148,u149,u150,u151,u152,u153,u154,u155,u156,u157,u158,u159,u160,u161,u162,u163,u164,u165,u166,u167,u168,u169,u170,u171,u172,u173,u174,u175,u176,u177,u178,u179,u180,u181,u182,u183,u184,u185,u186,u187,u188,u189,u190,u191,u192,u193,u194,u195,u196,u197,u198,u199,u200,u201,u202,u203,u204,u205,u206,u207,u208,u209,u210,u211,u212,u213,u214,u215,u216,u217,u218,u219,u220,u221,u222,u223,u224,u225,u226,u227,u228,u229,u230,u231,u232,u233,u234,u235,u236,u237,u238,u239,u240,u241,u242,u243,u244,u245,u246,u247,u248,u249,u250,u251,u252,u253,u254,u255,u256,u257,u258,u259,u260,u261,u262,u263,u264,u265,u266,u267,u268,u269,u270,u271,u272,u273,u274,u275,u276,u277,u278,u279,u280,u281,u282,u283,u284,u285,u286,u287,u288,u289,u290,u291,u292],[]⟩ w:=by
 obtain ⟨Q,hQ⟩:∃Q,Q=AfPost s (mergeF F R) (n+nR) (finU U PF hr wu wp wg) (finP P wu wp wg) (finG G hr wu wp wg) w0:=⟨_,rfl⟩
 rw [←hQ]
 have c0:=h.hc 0 _ rfl
 have H:=Lib.hid h;have HQ:=Lib.hid hQ;have HE:=Lib.hid hE;have HTF:=Lib.hid htf;have HSL:=Lib.hid hslash;have HSZ:=Lib.hid hsz;have HXA:=Lib.hid hxa;have HRN:=Lib.hid hRN;have HSUM:=Lib.hid hsum;have HV:=Lib.hid hval;have HFM:=Lib.hid hfm;have HOK:=Lib.hid hok
 clear h hQ hE htf hslash hsz hxa hRN hsum hval hfm hok
 conv=>arg 2;whnf
 dsimp only
 go_upto_block 0 with (fail)
 go_cut [4,127] from 292 to 292 (fun s4 s127 w'=>s4=.nilIface∧AFW s th R w0 U P G PF F n w')
 case first=>
  have htf:=HTF.out
  have c1:=H.out.hc 1 _ rfl
  unfold TfOk at htf
  rcases htf with e | e | e | e | e | e | e | e
  all_goals
   go_wp2_with (go_at_call 63;refine (Tryz.strings_HasSuffix th.name _ _ (by omega)).mono ?_;rw [hasSuffix_slash,HSL.out.resolve_left (by omega)];rintro e w1 ⟨rfl,hw1⟩;rw [hw1];clear hw1)
   go_meet
   case rel=>exact ⟨rfl,H.out⟩
 case rest=>
  obtain ⟨rfl,hcut⟩:=hcut
  have H1:=Lib.hid hcut
  clear hcut H c0
  have c0:=H1.out.hc 0 _ rfl
  have c3:=H1.out.hc 3 _ rfl
  have hsz:=HSZ.out
  have hsz2:decide (th.size < 0)=false:=decide_eq_false (by omega)
  go_upto_region 44 with (fail)
  go_cut [173] from 292 to 292 (fun s173 w'=>s173=.bool false∧AFW s th R w0 U P G PF F n w')
  case first=>
   by_cases ho:49≤(th.tf.toNat:Int)∧(th.tf.toNat:Int)≤54
   ·obtain ⟨ho1,ho2⟩:=ho
    go_wp2_with (go_at_call 124;refine (hdrOnly_yes _ _ ho1 ho2).mono ?_;rintro e w1 ⟨rfl,rfl⟩)
    go_meet
    case rel=>exact ⟨rfl,H1.out⟩
   ·have HO:=Lib.hid ho
    clear ho
    go_wp2_with (go_at_call 124;refine (hdrOnly_no _ _ (by have:=HO.out;omega)).mono ?_;rintro e w1 ⟨rfl,rfl⟩)
    go_meet
    case rel=>exact ⟨rfl,H1.out⟩
  case rest=>
   obtain ⟨rfl,hcut⟩:=hcut
   have H2:=Lib.hid hcut
   clear hcut H1 c0 c3 hsz hsz2
   have c17:=H2.out.hc 17 _ rfl
   rw [HXA.out] at c17
   have hln:=len_nil127
   go_upto_if 179 with (fail)
   go_cut [] from 292 to 292 (fun w'=>AFW s th R w0 U P G PF F n w')
   case first=>
    go_wp2
    go_meet
    case rel=>exact H2.out
   case rest=>
    have hq:=HQ.out
    subst hq
    go_step
    exact af_B B sn kb s n nR th R F U P G PF hr w0 wc hcut HE.out hBs HTF.out HRN.out HSUM.out HV.out wu wp wg HFM.out HOK.out
end Go.Proofs.YtkanmkcojlefbaaGreatDoor
