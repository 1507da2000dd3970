/-
  DERIVED: THE SHELF's CONTRACTS AT THIS DUMP, IN PLAIN WORDS (tools/lay-plain.mjs out of 'TryzShelf.lean', which tools/lay-shelf.mjs wrote): THE SAME DECLARATIONS UNDER THE SAME NAMES: 'import', 'namespace', 'open', 'def', 'theorem' AND NOTHING ELSE: no command of the shelf's: FOR A HAND-IN. Each laying: the table of numbers ('.._ren') and one theorem, a field a fact of the dump's own or the kernel's comparison; each contract: ONE APPLICATION.
-/
import Derived.Shelf.Strings.BuilderK
import Derived.Shelf.LaysM
import Derived.Shelf.Strconv.Itoa3
import Derived.Shelf.Strconv.Itoa4
import Derived.Shelf.Bytes.Bytes
import Derived.Shelf.LaysC
import Derived.Shelf.Strconv.ParseIntPublic10
import Derived.Shelf.Strings.LastIndex
import Derived.Shelf.Strings.LastIndexAll
import Derived.Shelf.Bytes.WriteAny
import Derived.Shelf.Strings.Prefix
import Derived.Shelf.Strings.Repeat
import Derived.Shelf.Bytes.SlIndexAt
import Derived.Ground.SlbCloneProg
import Derived.Shelf.Bytes.SlClone
import Derived.Shelf.Bytes.SlEqualAll
import Derived.Ground.PaProg
import Derived.Shelf.Path.Small
import Derived.Shelf.Path.Join
import Derived.Test.YtkanmkcojlefbaaGreatDoorProg
namespace Go.Proofs
open Go.Shelf
def Tryz.lays169_ren : Go.Shelf.Ren := ⟨fun | 169 => 140 | n => n, fun | 70 => 201 | 9 => 9 | 0 => 0 | 72 => 203 | 37 => 35 | 127 => 264 | 3 => 3 | 5 => 5 | n => n, fun | n => n⟩
theorem Tryz.lays169 : Go.Proofs.Lays.n169 Tryz.prog Tryz.lays169_ren := {
  mixed := by kernel_rfl
  f169 := Tryz.func140.trans (congrArg some (by kernel_rfl))
  t0 := Tryz.underlying0
  a0 := Tryz.isAgg0
  z0 := Tryz.sizeOf0
  v0 := Tryz.zeroValue0
  t3 := Tryz.underlying3
  a3 := Tryz.isAgg3
  z3 := Tryz.sizeOf3
  v3 := Tryz.zeroValue3
  t9 := Tryz.underlying9
  a9 := Tryz.isAgg9
  z9 := Tryz.sizeOf9
  v9 := Tryz.zeroValue9
  t37 := Tryz.underlying35
  a37 := Tryz.isAgg35
  z37 := Tryz.sizeOf35
  v37 := Tryz.zeroValue35
  t70 := Tryz.underlying201
  a70 := Tryz.isAgg201
  z70 := Tryz.sizeOf201
  v70 := Tryz.zeroValue201
  t72 := Tryz.underlying203
  a72 := Tryz.isAgg203
  z72 := Tryz.sizeOf203
  v72 := Tryz.zeroValue203
  t127 := Tryz.underlying264
  a127 := Tryz.isAgg264
  z127 := Tryz.sizeOf264
  v127 := Tryz.zeroValue264 }
theorem Tryz.Builder_Extra_169 : Builder.Extra Tryz.prog Tryz.lays169_ren := {
  sizeBuilder := by kernel_rfl
  liesBuilder := by kernel_rfl
  t5 := Tryz.underlying5
  a5 := Tryz.isAgg5
  z5 := Tryz.sizeOf5
  v5 := Tryz.zeroValue5
  infoByte := by kernel_rfl
  cellsByte := by kernel_rfl
  sizeByte := by kernel_rfl
  neB5 := by decide }
open Go.RowKit in
/-- (*strings.Builder).String: "String returns the accumulated string.": WHATEVER THE BUILDER HOLDS; THE FORM '_k': OVER 'Lib.IsBuilderF' (a builder that 'String()' may have read), AND WITH THE FRAME THAT REACHES ABOVE THE BUILDER: 'Lib.OthersKept': every block that is not b and is no row of uint8's stands as it stood: the iterator of a range among them. (LAID: no walk: one application.) -/
theorem Tryz.Builder_String_any_k (B b : Nat) (l : List UInt8) (w : World) (h : Lib.IsBuilderF 203 5 B b (Lib.byteCells l) w) (hBw : B ≤ w.heap.size) :
    Calls Tryz.prog 140 #[.pointer (some ⟨b, 0, none⟩)] w fun e w' => e = .returned (.string ⟨l.toArray⟩) ∧ (Lib.IsBuilderF 203 5 B b (Lib.byteCells l) w' ∧ Below B w w' ∧ Lib.OthersKept 5 (some b) w w') := Any.Builder_String_any_k Tryz.lays169 Tryz.Builder_Extra_169 B b l w h hBw
def Tryz.laysM171_ren : Go.Shelf.Ren := ⟨fun | 171 => 190 | 243 => 231 | 246 => 168 | 283 => 221 | 284 => 222 | 285 => 223 | 286 => 224 | 129 => 258 | 317 => 257 | 318 => 259 | 319 => 260 | 320 => 261 | 337 => 288 | 338 => 289 | n => n, fun | 3 => 3 | 9 => 9 | 2 => 2 | 4 => 4 | 171 => 294 | 0 => 0 | 53 => 124 | 37 => 35 | 5 => 5 | 173 => 297 | 212 => 335 | 51 => 331 | 20 => 20 | 213 => 336 | 46 => 167 | 232 => 381 | 233 => 382 | n => n, fun | 17 => 10 | 18 => 14 | 19 => 15 | n => n⟩
theorem Tryz.laysM171 : Go.Proofs.LaysM.n171 Tryz.prog Tryz.laysM171_ren := {
  mixed := by kernel_rfl
  f129 := Tryz.func258.trans (congrArg some (by kernel_rfl))
  f171 := Tryz.func190.trans (congrArg some (by kernel_rfl))
  f243 := Tryz.func231.trans (congrArg some (by kernel_rfl))
  f246 := Tryz.func168.trans (congrArg some (by kernel_rfl))
  f283 := Tryz.func221.trans (congrArg some (by kernel_rfl))
  f284 := Tryz.func222.trans (congrArg some (by kernel_rfl))
  f285 := Tryz.func223.trans (congrArg some (by kernel_rfl))
  f286 := Tryz.func224.trans (congrArg some (by kernel_rfl))
  f317 := Tryz.func257.trans (congrArg some (by kernel_rfl))
  f318 := Tryz.func259.trans (congrArg some (by kernel_rfl))
  f319 := Tryz.func260.trans (congrArg some (by kernel_rfl))
  f320 := Tryz.func261.trans (congrArg some (by kernel_rfl))
  f337 := Tryz.func288.trans (congrArg some (by kernel_rfl))
  f338 := Tryz.func289.trans (congrArg some (by kernel_rfl))
  t0 := Tryz.underlying0
  a0 := Tryz.isAgg0
  z0 := Tryz.sizeOf0
  v0 := Tryz.zeroValue0
  t2 := Tryz.underlying2
  a2 := Tryz.isAgg2
  z2 := Tryz.sizeOf2
  v2 := Tryz.zeroValue2
  t3 := Tryz.underlying3
  a3 := Tryz.isAgg3
  z3 := Tryz.sizeOf3
  v3 := Tryz.zeroValue3
  t4 := Tryz.underlying4
  a4 := Tryz.isAgg4
  z4 := Tryz.sizeOf4
  v4 := Tryz.zeroValue4
  t5 := Tryz.underlying5
  a5 := Tryz.isAgg5
  z5 := Tryz.sizeOf5
  v5 := Tryz.zeroValue5
  t9 := Tryz.underlying9
  a9 := Tryz.isAgg9
  z9 := Tryz.sizeOf9
  v9 := Tryz.zeroValue9
  t20 := Tryz.underlying20
  a20 := Tryz.isAgg20
  z20 := Tryz.sizeOf20
  v20 := Tryz.zeroValue20
  t37 := Tryz.underlying35
  a37 := Tryz.isAgg35
  z37 := Tryz.sizeOf35
  v37 := Tryz.zeroValue35
  t46 := Tryz.underlying167
  a46 := Tryz.isAgg167
  z46 := Tryz.sizeOf167
  v46 := Tryz.zeroValue167
  t51 := Tryz.underlying331
  a51 := Tryz.isAgg331
  z51 := Tryz.sizeOf331
  v51 := Tryz.zeroValue331
  t53 := Tryz.underlying124
  a53 := Tryz.isAgg124
  z53 := Tryz.sizeOf124
  v53 := Tryz.zeroValue124
  t171 := Tryz.underlying294
  a171 := Tryz.isAgg294
  z171 := Tryz.sizeOf294
  v171 := Tryz.zeroValue294
  t173 := Tryz.underlying297
  a173 := Tryz.isAgg297
  z173 := Tryz.sizeOf297
  v173 := Tryz.zeroValue297
  t212 := Tryz.underlying335
  a212 := Tryz.isAgg335
  z212 := Tryz.sizeOf335
  v212 := Tryz.zeroValue335
  t213 := Tryz.underlying336
  a213 := Tryz.isAgg336
  z213 := Tryz.sizeOf336
  t232 := Tryz.underlying381
  a232 := Tryz.isAgg381
  z232 := Tryz.sizeOf381
  v232 := Tryz.zeroValue381
  t233 := Tryz.underlying382
  a233 := Tryz.isAgg382
  z233 := Tryz.sizeOf382
  v233 := Tryz.zeroValue382
  g17 := by kernel_rfl
  g18 := by kernel_rfl
  g19 := by kernel_rfl
  i0 := by kernel_rfl
  i2 := by kernel_rfl
  i3 := by kernel_rfl
  i4 := by kernel_rfl
  i5 := by kernel_rfl
  i9 := by kernel_rfl
  i20 := by kernel_rfl
  i37 := by kernel_rfl
  i46 := by kernel_rfl
  i51 := by kernel_rfl
  i53 := by kernel_rfl
  i171 := by kernel_rfl
  i173 := by kernel_rfl
  i212 := by kernel_rfl
  i232 := by kernel_rfl
  i233 := by kernel_rfl
  m17 := by kernel_rfl
  m18 := by kernel_rfl
  m19 := by kernel_rfl }
open Go.RowKit Go.Sort Go.Lib in
/-- strconv.Itoa: "Itoa is equivalent to FormatInt(int64(i), 10).": i's DECIMAL NUMERAL ('Lib.itoa': a '-' where i is negative, then the digits), FOR EVERY int. The world behind the call: the world before it, new blocks behind the heap (the library's 'var a [24]byte'), draws. (LAID: no walk: one application.) -/
theorem Tryz.strconv_Itoa (n : Int) (h0 : -9223372036854775808 ≤ n) (h1 : n ≤ 9223372036854775807) (w : World) (htab : Lib.TabIs Tryz.prog w "internal/strconv.uint64pow10" .u64 Lib.pow10Tab) :
    Calls Tryz.prog 190 #[.int .i64 n] w fun e w' => e = .returned (.string ⟨(Lib.itoa n).toArray⟩) ∧ ∃ k os, w' = grow (w.drewN k) os := Any.strconv_Itoa Tryz.laysM171 n h0 h1 w htab
def Tryz.laysM173_ren : Go.Shelf.Ren := ⟨fun | 173 => 101 | 246 => 168 | 283 => 221 | 284 => 222 | 285 => 223 | 286 => 224 | 129 => 258 | 317 => 257 | 318 => 259 | 319 => 260 | 320 => 261 | 337 => 288 | 338 => 289 | n => n, fun | 2 => 2 | 3 => 3 | 9 => 9 | 4 => 4 | 171 => 294 | 0 => 0 | 53 => 124 | 37 => 35 | 5 => 5 | 173 => 297 | 212 => 335 | 51 => 331 | 20 => 20 | 213 => 336 | 46 => 167 | 232 => 381 | 233 => 382 | n => n, fun | 17 => 10 | 18 => 14 | 19 => 15 | n => n⟩
theorem Tryz.laysM173 : Go.Proofs.LaysM.n173 Tryz.prog Tryz.laysM173_ren := {
  mixed := by kernel_rfl
  f129 := Tryz.func258.trans (congrArg some (by kernel_rfl))
  f173 := Tryz.func101.trans (congrArg some (by kernel_rfl))
  f246 := Tryz.func168.trans (congrArg some (by kernel_rfl))
  f283 := Tryz.func221.trans (congrArg some (by kernel_rfl))
  f284 := Tryz.func222.trans (congrArg some (by kernel_rfl))
  f285 := Tryz.func223.trans (congrArg some (by kernel_rfl))
  f286 := Tryz.func224.trans (congrArg some (by kernel_rfl))
  f317 := Tryz.func257.trans (congrArg some (by kernel_rfl))
  f318 := Tryz.func259.trans (congrArg some (by kernel_rfl))
  f319 := Tryz.func260.trans (congrArg some (by kernel_rfl))
  f320 := Tryz.func261.trans (congrArg some (by kernel_rfl))
  f337 := Tryz.func288.trans (congrArg some (by kernel_rfl))
  f338 := Tryz.func289.trans (congrArg some (by kernel_rfl))
  t0 := Tryz.underlying0
  a0 := Tryz.isAgg0
  z0 := Tryz.sizeOf0
  v0 := Tryz.zeroValue0
  t2 := Tryz.underlying2
  a2 := Tryz.isAgg2
  z2 := Tryz.sizeOf2
  v2 := Tryz.zeroValue2
  t3 := Tryz.underlying3
  a3 := Tryz.isAgg3
  z3 := Tryz.sizeOf3
  v3 := Tryz.zeroValue3
  t4 := Tryz.underlying4
  a4 := Tryz.isAgg4
  z4 := Tryz.sizeOf4
  v4 := Tryz.zeroValue4
  t5 := Tryz.underlying5
  a5 := Tryz.isAgg5
  z5 := Tryz.sizeOf5
  v5 := Tryz.zeroValue5
  t9 := Tryz.underlying9
  a9 := Tryz.isAgg9
  z9 := Tryz.sizeOf9
  v9 := Tryz.zeroValue9
  t20 := Tryz.underlying20
  a20 := Tryz.isAgg20
  z20 := Tryz.sizeOf20
  v20 := Tryz.zeroValue20
  t37 := Tryz.underlying35
  a37 := Tryz.isAgg35
  z37 := Tryz.sizeOf35
  v37 := Tryz.zeroValue35
  t46 := Tryz.underlying167
  a46 := Tryz.isAgg167
  z46 := Tryz.sizeOf167
  v46 := Tryz.zeroValue167
  t51 := Tryz.underlying331
  a51 := Tryz.isAgg331
  z51 := Tryz.sizeOf331
  v51 := Tryz.zeroValue331
  t53 := Tryz.underlying124
  a53 := Tryz.isAgg124
  z53 := Tryz.sizeOf124
  v53 := Tryz.zeroValue124
  t171 := Tryz.underlying294
  a171 := Tryz.isAgg294
  z171 := Tryz.sizeOf294
  v171 := Tryz.zeroValue294
  t173 := Tryz.underlying297
  a173 := Tryz.isAgg297
  z173 := Tryz.sizeOf297
  v173 := Tryz.zeroValue297
  t212 := Tryz.underlying335
  a212 := Tryz.isAgg335
  z212 := Tryz.sizeOf335
  v212 := Tryz.zeroValue335
  t213 := Tryz.underlying336
  a213 := Tryz.isAgg336
  z213 := Tryz.sizeOf336
  t232 := Tryz.underlying381
  a232 := Tryz.isAgg381
  z232 := Tryz.sizeOf381
  v232 := Tryz.zeroValue381
  t233 := Tryz.underlying382
  a233 := Tryz.isAgg382
  z233 := Tryz.sizeOf382
  v233 := Tryz.zeroValue382
  g17 := by kernel_rfl
  g18 := by kernel_rfl
  g19 := by kernel_rfl
  i0 := by kernel_rfl
  i2 := by kernel_rfl
  i3 := by kernel_rfl
  i4 := by kernel_rfl
  i5 := by kernel_rfl
  i9 := by kernel_rfl
  i20 := by kernel_rfl
  i37 := by kernel_rfl
  i46 := by kernel_rfl
  i51 := by kernel_rfl
  i53 := by kernel_rfl
  i171 := by kernel_rfl
  i173 := by kernel_rfl
  i212 := by kernel_rfl
  i232 := by kernel_rfl
  i233 := by kernel_rfl
  m17 := by kernel_rfl
  m18 := by kernel_rfl
  m19 := by kernel_rfl }
open Go.RowKit Go.Sort Go.Lib in
/-- strconv.FormatInt: "FormatInt returns the string representation of i in the given base": AT BASE 10: i's decimal numeral, for every int64. (LAID: no walk: one application.) -/
theorem Tryz.strconv_FormatInt_10 (n : Int) (h0 : -9223372036854775808 ≤ n) (h1 : n ≤ 9223372036854775807) (w : World) (htab : Lib.TabIs Tryz.prog w "internal/strconv.uint64pow10" .u64 Lib.pow10Tab) :
    Calls Tryz.prog 101 #[.int .i64 n, .int .i64 10] w fun e w' => e = .returned (.string ⟨(Lib.itoa n).toArray⟩) ∧ ∃ k os, w' = grow (w.drewN k) os := Any.strconv_FormatInt_10 Tryz.laysM173 n h0 h1 w htab
def Tryz.laysM183_ren : Go.Shelf.Ren := ⟨fun | 183 => 32 | n => n, fun | 130 => 75 | 37 => 35 | 0 => 0 | 93 => 70 | 3 => 3 | 5 => 5 | 91 => 68 | n => n, fun | n => n⟩
theorem Tryz.laysM183 : Go.Proofs.LaysM.n183 Tryz.prog Tryz.laysM183_ren := {
  mixed := by kernel_rfl
  f183 := Tryz.func32.trans (congrArg some (by kernel_rfl))
  t0 := Tryz.underlying0
  a0 := Tryz.isAgg0
  z0 := Tryz.sizeOf0
  v0 := Tryz.zeroValue0
  t3 := Tryz.underlying3
  a3 := Tryz.isAgg3
  z3 := Tryz.sizeOf3
  v3 := Tryz.zeroValue3
  t37 := Tryz.underlying35
  a37 := Tryz.isAgg35
  z37 := Tryz.sizeOf35
  v37 := Tryz.zeroValue35
  t93 := Tryz.underlying70
  a93 := Tryz.isAgg70
  z93 := Tryz.sizeOf70
  v93 := Tryz.zeroValue70
  t130 := Tryz.underlying75
  a130 := Tryz.isAgg75
  z130 := Tryz.sizeOf75
  v130 := Tryz.zeroValue75
  t5 := Tryz.underlying5
  a5 := Tryz.isAgg5
  z5 := Tryz.sizeOf5
  v5 := Tryz.zeroValue5
  t91 := Tryz.underlying68
  a91 := Tryz.isAgg68
  z91 := Tryz.sizeOf68
  v91 := Tryz.zeroValue68
  i0 := by kernel_rfl
  i3 := by kernel_rfl
  i5 := by kernel_rfl
  i37 := by kernel_rfl
  i91 := by kernel_rfl
  i93 := by kernel_rfl
  i130 := by kernel_rfl }
open Go.RowKit in
/-- (*bytes.Buffer).Bytes: "Bytes returns a slice of length b.Len() holding the unread portion of the buffer. .. The slice aliases the buffer content at least until the next buffer modification": A SLICE THAT OWNS THE CELLS bs ('World.ownsRow': nil where nothing was ever written). The world is as it was but for the count of draws. (LAID: no walk: one application.) -/
theorem Tryz.Buffer_Bytes (B b : Nat) (bs : List Value) (w : World) (h : Lib.IsBuffer 70 5 B b bs w) :
    Calls Tryz.prog 32 #[.pointer (some ⟨b, 0, none⟩)] w fun e w' => ∃ v, e = .returned v ∧ w'.ownsRow B 5 1 v bs.length bs ∧ ∃ n, w' = w.drewN n := Any.Buffer_Bytes Tryz.laysM183 B b bs w h
def Tryz.laysC174_ren : Go.Shelf.Ren := ⟨fun | 174 => 208 | 247 => 240 | 245 => 241 | 287 => 278 | 279 => 279 | 280 => 280 | 281 => 281 | 282 => 282 | 321 => 305 | 322 => 306 | 316 => 307 | 171 => 190 | 205 => 87 | 243 => 231 | 246 => 168 | 283 => 221 | 284 => 222 | 285 => 223 | 286 => 224 | 129 => 258 | 317 => 257 | 318 => 259 | 319 => 260 | 320 => 261 | 337 => 288 | 338 => 289 | n => n, fun | 9 => 9 | 3 => 3 | 2 => 2 | 75 => 72 | 85 => 269 | 4 => 4 | 167 => 355 | 5 => 5 | 53 => 124 | 175 => 351 | 46 => 167 | 168 => 356 | 37 => 35 | 0 => 0 | 210 => 378 | 21 => 21 | 127 => 264 | 145 => 247 | 143 => 245 | 171 => 294 | 173 => 297 | 212 => 335 | 51 => 331 | 20 => 20 | 213 => 336 | 232 => 381 | 233 => 382 | 80 => 214 | n => n, fun | 15 => 12 | 16 => 13 | 17 => 10 | 18 => 14 | 19 => 15 | n => n⟩
theorem Tryz.laysC174 : Go.Proofs.LaysC.n174 Tryz.prog Tryz.laysC174_ren := {
  mixed := by kernel_rfl
  f129 := Tryz.func258.trans (congrArg some (by kernel_rfl))
  f171 := Tryz.func190.trans (congrArg some (by kernel_rfl))
  f174 := Tryz.func208.trans (congrArg some (by kernel_rfl))
  f205 := Tryz.func87.trans (congrArg some (by kernel_rfl))
  f243 := Tryz.func231.trans (congrArg some (by kernel_rfl))
  f245 := Tryz.func241.trans (congrArg some (by kernel_rfl))
  f246 := Tryz.func168.trans (congrArg some (by kernel_rfl))
  f247 := Tryz.func240.trans (congrArg some (by kernel_rfl))
  f279 := Tryz.func279.trans (congrArg some (by kernel_rfl))
  f280 := Tryz.func280.trans (congrArg some (by kernel_rfl))
  f281 := Tryz.func281.trans (congrArg some (by kernel_rfl))
  f282 := Tryz.func282.trans (congrArg some (by kernel_rfl))
  f283 := Tryz.func221.trans (congrArg some (by kernel_rfl))
  f284 := Tryz.func222.trans (congrArg some (by kernel_rfl))
  f285 := Tryz.func223.trans (congrArg some (by kernel_rfl))
  f286 := Tryz.func224.trans (congrArg some (by kernel_rfl))
  f287 := Tryz.func278.trans (congrArg some (by kernel_rfl))
  f316 := Tryz.func307.trans (congrArg some (by kernel_rfl))
  f317 := Tryz.func257.trans (congrArg some (by kernel_rfl))
  f318 := Tryz.func259.trans (congrArg some (by kernel_rfl))
  f319 := Tryz.func260.trans (congrArg some (by kernel_rfl))
  f320 := Tryz.func261.trans (congrArg some (by kernel_rfl))
  f321 := Tryz.func305.trans (congrArg some (by kernel_rfl))
  f322 := Tryz.func306.trans (congrArg some (by kernel_rfl))
  f337 := Tryz.func288.trans (congrArg some (by kernel_rfl))
  f338 := Tryz.func289.trans (congrArg some (by kernel_rfl))
  t0 := Tryz.underlying0
  a0 := Tryz.isAgg0
  z0 := Tryz.sizeOf0
  v0 := Tryz.zeroValue0
  t2 := Tryz.underlying2
  a2 := Tryz.isAgg2
  z2 := Tryz.sizeOf2
  v2 := Tryz.zeroValue2
  t3 := Tryz.underlying3
  a3 := Tryz.isAgg3
  z3 := Tryz.sizeOf3
  v3 := Tryz.zeroValue3
  t4 := Tryz.underlying4
  a4 := Tryz.isAgg4
  z4 := Tryz.sizeOf4
  v4 := Tryz.zeroValue4
  t5 := Tryz.underlying5
  a5 := Tryz.isAgg5
  z5 := Tryz.sizeOf5
  v5 := Tryz.zeroValue5
  t9 := Tryz.underlying9
  a9 := Tryz.isAgg9
  z9 := Tryz.sizeOf9
  v9 := Tryz.zeroValue9
  t20 := Tryz.underlying20
  a20 := Tryz.isAgg20
  z20 := Tryz.sizeOf20
  v20 := Tryz.zeroValue20
  t21 := Tryz.underlying21
  a21 := Tryz.isAgg21
  z21 := Tryz.sizeOf21
  v21 := Tryz.zeroValue21
  t37 := Tryz.underlying35
  a37 := Tryz.isAgg35
  z37 := Tryz.sizeOf35
  v37 := Tryz.zeroValue35
  t46 := Tryz.underlying167
  a46 := Tryz.isAgg167
  z46 := Tryz.sizeOf167
  v46 := Tryz.zeroValue167
  t51 := Tryz.underlying331
  a51 := Tryz.isAgg331
  z51 := Tryz.sizeOf331
  v51 := Tryz.zeroValue331
  t53 := Tryz.underlying124
  a53 := Tryz.isAgg124
  z53 := Tryz.sizeOf124
  v53 := Tryz.zeroValue124
  t75 := Tryz.underlying72
  a75 := Tryz.isAgg72
  z75 := Tryz.sizeOf72
  v75 := Tryz.zeroValue72
  t85 := Tryz.underlying269
  a85 := Tryz.isAgg269
  z85 := Tryz.sizeOf269
  v85 := Tryz.zeroValue269
  t127 := Tryz.underlying264
  a127 := Tryz.isAgg264
  z127 := Tryz.sizeOf264
  v127 := Tryz.zeroValue264
  t143 := Tryz.underlying245
  a143 := Tryz.isAgg245
  z143 := Tryz.sizeOf245
  v143 := Tryz.zeroValue245
  t145 := Tryz.underlying247
  a145 := Tryz.isAgg247
  z145 := Tryz.sizeOf247
  v145 := Tryz.zeroValue247
  t167 := Tryz.underlying355
  a167 := Tryz.isAgg355
  z167 := Tryz.sizeOf355
  v167 := Tryz.zeroValue355
  t168 := Tryz.underlying356
  a168 := Tryz.isAgg356
  z168 := Tryz.sizeOf356
  v168 := Tryz.zeroValue356
  t171 := Tryz.underlying294
  a171 := Tryz.isAgg294
  z171 := Tryz.sizeOf294
  v171 := Tryz.zeroValue294
  t173 := Tryz.underlying297
  a173 := Tryz.isAgg297
  z173 := Tryz.sizeOf297
  v173 := Tryz.zeroValue297
  t175 := Tryz.underlying351
  a175 := Tryz.isAgg351
  z175 := Tryz.sizeOf351
  v175 := Tryz.zeroValue351
  t210 := Tryz.underlying378
  a210 := Tryz.isAgg378
  z210 := Tryz.sizeOf378
  v210 := Tryz.zeroValue378
  t212 := Tryz.underlying335
  a212 := Tryz.isAgg335
  z212 := Tryz.sizeOf335
  v212 := Tryz.zeroValue335
  t213 := Tryz.underlying336
  a213 := Tryz.isAgg336
  z213 := Tryz.sizeOf336
  t232 := Tryz.underlying381
  a232 := Tryz.isAgg381
  z232 := Tryz.sizeOf381
  v232 := Tryz.zeroValue381
  t233 := Tryz.underlying382
  a233 := Tryz.isAgg382
  z233 := Tryz.sizeOf382
  v233 := Tryz.zeroValue382
  g15 := by kernel_rfl
  g16 := by kernel_rfl
  g17 := by kernel_rfl
  g18 := by kernel_rfl
  g19 := by kernel_rfl
  t80 := Tryz.underlying214
  a80 := Tryz.isAgg214
  z80 := Tryz.sizeOf214
  v80 := Tryz.zeroValue214
  i0 := by kernel_rfl
  i2 := by kernel_rfl
  i3 := by kernel_rfl
  i4 := by kernel_rfl
  i5 := by kernel_rfl
  i9 := by kernel_rfl
  i20 := by kernel_rfl
  i21 := by kernel_rfl
  i37 := by kernel_rfl
  i46 := by kernel_rfl
  i51 := by kernel_rfl
  i53 := by kernel_rfl
  i75 := by kernel_rfl
  i80 := by kernel_rfl
  i85 := by kernel_rfl
  i127 := by kernel_rfl
  i143 := by kernel_rfl
  i145 := by kernel_rfl
  i167 := by kernel_rfl
  i168 := by kernel_rfl
  i171 := by kernel_rfl
  i173 := by kernel_rfl
  i175 := by kernel_rfl
  i210 := by kernel_rfl
  i212 := by kernel_rfl
  i232 := by kernel_rfl
  i233 := by kernel_rfl
  m15 := by kernel_rfl
  m16 := by kernel_rfl
  m17 := by kernel_rfl
  m18 := by kernel_rfl
  m19 := by kernel_rfl
  c0 := by kernel_rfl
  c2 := by kernel_rfl
  c3 := by kernel_rfl
  c4 := by kernel_rfl
  c5 := by kernel_rfl
  c9 := by kernel_rfl
  c20 := by kernel_rfl
  c21 := by kernel_rfl
  c37 := by kernel_rfl
  c46 := by kernel_rfl
  c51 := by kernel_rfl
  c53 := by kernel_rfl
  c75 := by kernel_rfl
  c80 := by kernel_rfl
  c85 := by kernel_rfl
  c127 := by kernel_rfl
  c143 := by kernel_rfl
  c145 := by kernel_rfl
  c167 := by kernel_rfl
  c168 := by kernel_rfl
  c171 := by kernel_rfl
  c173 := by kernel_rfl
  c175 := by kernel_rfl
  c210 := by kernel_rfl
  c212 := by kernel_rfl
  c213 := by kernel_rfl
  c232 := by kernel_rfl
  c233 := by kernel_rfl }
open Go.RowKit in
/-- strconv.ParseInt(s, 10, 0), AT EVERY STRING THAT SPELLS AN int64 ('Lib.parseIntB 64 s.data.toList = .ok v'): v, AND NO ERROR. (LAID: no walk: one application.) -/
theorem Tryz.strconv_ParseInt_10_at0_ok (s : ByteArray) (hmax : s.size ≤ 9223372036854775806) (v : Int) (h : Lib.parseIntB 64 s.data.toList = .ok v) (w : World) :
    Calls Tryz.prog 208 #[.string s, .int .i64 10, .int .i64 0] w fun e w' => e = .returned (.tuple #[.int .i64 v, .nilIface]) ∧ (w' = w ∨ ∃ t, w' = Lib.bytesWorld w 5 t) := Any.strconv_ParseInt_10_at0_ok Tryz.laysC174 s hmax v h w
open Go.RowKit in
/-- strconv.ParseInt(s, 10, 64), AT EVERY STRING THAT SPELLS AN int64 ('Lib.parseIntB 64 s.data.toList = .ok v'): v, AND NO ERROR. (LAID: no walk: one application.) -/
theorem Tryz.strconv_ParseInt_10_at64_ok (s : ByteArray) (hmax : s.size ≤ 9223372036854775806) (v : Int) (h : Lib.parseIntB 64 s.data.toList = .ok v) (w : World) :
    Calls Tryz.prog 208 #[.string s, .int .i64 10, .int .i64 64] w fun e w' => e = .returned (.tuple #[.int .i64 v, .nilIface]) ∧ (w' = w ∨ ∃ t, w' = Lib.bytesWorld w 5 t) := Any.strconv_ParseInt_10_at64_ok Tryz.laysC174 s hmax v h w
def Tryz.lays148_ren : Go.Shelf.Ren := ⟨fun | 148 => 167 | 222 => 192 | 223 => 220 | 269 => 256 | n => n, fun | 9 => 9 | 3 => 3 | 4 => 4 | 5 => 5 | 146 => 332 | 51 => 331 | 46 => 167 | n => n, fun | n => n⟩
theorem Tryz.lays148 : Go.Proofs.Lays.n148 Tryz.prog Tryz.lays148_ren := {
  mixed := by kernel_rfl
  f148 := Tryz.func167.trans (congrArg some (by kernel_rfl))
  f222 := Tryz.func192.trans (congrArg some (by kernel_rfl))
  f223 := Tryz.func220.trans (congrArg some (by kernel_rfl))
  f269 := Tryz.func256.trans (congrArg some (by kernel_rfl))
  t3 := Tryz.underlying3
  a3 := Tryz.isAgg3
  z3 := Tryz.sizeOf3
  v3 := Tryz.zeroValue3
  t4 := Tryz.underlying4
  a4 := Tryz.isAgg4
  z4 := Tryz.sizeOf4
  v4 := Tryz.zeroValue4
  t5 := Tryz.underlying5
  a5 := Tryz.isAgg5
  z5 := Tryz.sizeOf5
  v5 := Tryz.zeroValue5
  t9 := Tryz.underlying9
  a9 := Tryz.isAgg9
  z9 := Tryz.sizeOf9
  v9 := Tryz.zeroValue9
  t46 := Tryz.underlying167
  a46 := Tryz.isAgg167
  z46 := Tryz.sizeOf167
  v46 := Tryz.zeroValue167
  t51 := Tryz.underlying331
  a51 := Tryz.isAgg331
  z51 := Tryz.sizeOf331
  v51 := Tryz.zeroValue331
  t146 := Tryz.underlying332
  a146 := Tryz.isAgg332
  z146 := Tryz.sizeOf332
  v146 := Tryz.zeroValue332 }
open Go.RowKit Go.Lib in
/-- strings.LastIndex AT A substr OF ONE BYTE (as in 'strings.LastIndex(path, "/")'): the last place of that byte, or -1. (LAID: no walk: one application.) -/
theorem Tryz.strings_LastIndex_one (s sub : ByteArray) (h1 : sub.size = 1) (hs : s.size < 4611686018427387904) (w : World) :
    Calls Tryz.prog 167 #[.string s, .string sub] w fun e w' => e = .returned (.int .i64 (Lib.lastIndexByte s ((sub[0]'(by omega)).toNat : Int))) ∧ w' = w := Any.strings_LastIndex_one Tryz.lays148 s sub h1 hs w
def Tryz.laysM180_ren : Go.Shelf.Ren := ⟨fun | 180 => 284 | 251 => 308 | 252 => 309 | 181 => 315 | 184 => 316 | 290 => 317 | 324 => 319 | n => n, fun | 130 => 75 | 37 => 35 | 3 => 3 | 75 => 72 | 0 => 0 | 93 => 70 | 91 => 68 | 131 => 346 | 4 => 4 | 20 => 20 | 5 => 5 | 80 => 214 | 9 => 9 | n => n, fun | 14 => 18 | n => n⟩
theorem Tryz.laysM180 : Go.Proofs.LaysM.n180 Tryz.prog Tryz.laysM180_ren := {
  mixed := by kernel_rfl
  f180 := Tryz.func284.trans (congrArg some (by kernel_rfl))
  f181 := Tryz.func315.trans (congrArg some (by kernel_rfl))
  f184 := Tryz.func316.trans (congrArg some (by kernel_rfl))
  f251 := Tryz.func308.trans (congrArg some (by kernel_rfl))
  f252 := Tryz.func309.trans (congrArg some (by kernel_rfl))
  f290 := Tryz.func317.trans (congrArg some (by kernel_rfl))
  f324 := Tryz.func319.trans (congrArg some (by kernel_rfl))
  t0 := Tryz.underlying0
  a0 := Tryz.isAgg0
  z0 := Tryz.sizeOf0
  v0 := Tryz.zeroValue0
  t3 := Tryz.underlying3
  a3 := Tryz.isAgg3
  z3 := Tryz.sizeOf3
  v3 := Tryz.zeroValue3
  t4 := Tryz.underlying4
  a4 := Tryz.isAgg4
  z4 := Tryz.sizeOf4
  v4 := Tryz.zeroValue4
  t20 := Tryz.underlying20
  a20 := Tryz.isAgg20
  z20 := Tryz.sizeOf20
  v20 := Tryz.zeroValue20
  t37 := Tryz.underlying35
  a37 := Tryz.isAgg35
  z37 := Tryz.sizeOf35
  v37 := Tryz.zeroValue35
  t75 := Tryz.underlying72
  a75 := Tryz.isAgg72
  z75 := Tryz.sizeOf72
  v75 := Tryz.zeroValue72
  t91 := Tryz.underlying68
  a91 := Tryz.isAgg68
  z91 := Tryz.sizeOf68
  v91 := Tryz.zeroValue68
  t93 := Tryz.underlying70
  a93 := Tryz.isAgg70
  z93 := Tryz.sizeOf70
  v93 := Tryz.zeroValue70
  t130 := Tryz.underlying75
  a130 := Tryz.isAgg75
  z130 := Tryz.sizeOf75
  v130 := Tryz.zeroValue75
  t131 := Tryz.underlying346
  a131 := Tryz.isAgg346
  z131 := Tryz.sizeOf346
  v131 := Tryz.zeroValue346
  g14 := by kernel_rfl
  t5 := Tryz.underlying5
  a5 := Tryz.isAgg5
  z5 := Tryz.sizeOf5
  v5 := Tryz.zeroValue5
  t9 := Tryz.underlying9
  a9 := Tryz.isAgg9
  z9 := Tryz.sizeOf9
  v9 := Tryz.zeroValue9
  t80 := Tryz.underlying214
  a80 := Tryz.isAgg214
  z80 := Tryz.sizeOf214
  v80 := Tryz.zeroValue214
  i0 := by kernel_rfl
  i3 := by kernel_rfl
  i4 := by kernel_rfl
  i5 := by kernel_rfl
  i9 := by kernel_rfl
  i20 := by kernel_rfl
  i37 := by kernel_rfl
  i75 := by kernel_rfl
  i80 := by kernel_rfl
  i91 := by kernel_rfl
  i93 := by kernel_rfl
  i130 := by kernel_rfl
  i131 := by kernel_rfl
  m14 := by kernel_rfl }
open Go.RowKit in
/-- (*bytes.Buffer).Write: "Write appends the contents of p to the buffer, growing the buffer as needed. The return value n is the length of p; err is always nil." (LAID: no walk: one application.) -/
theorem Tryz.Buffer_Write_any (B b : Nat) (bs cs : List Value) (a : Addr) (n c : Nat) (w : World) (h : Lib.IsBuffer 70 5 B b bs w) (hBw : B ≤ w.heap.size) (h1 : ∀ v ∈ bs, v.oneCell' = true) (hn : cs.length = n) (hab : a.block ≠ b) (hsrc : ∀ j v, cs[j]? = some v → w.cell? (a.add j) = some v) (h1c : ∀ v ∈ cs, v.oneCell' = true) (hlim : bs.length + n ≤ 140737488355328) :
    Calls Tryz.prog 284 #[.pointer (some ⟨b, 0, none⟩), .slice (some a) n c] w fun e w' => e = .returned (.tuple #[.int .i64 n, .nilIface]) ∧ Lib.IsBuffer 70 5 B b (bs ++ cs) w' ∧ Below B w w' ∧ Lib.OthersKept 5 (some b) w w' := Any.Buffer_Write_any Tryz.laysM180 B b bs cs a n c w h hBw h1 hn hab hsrc h1c hlim
def Tryz.lays99_ren : Go.Shelf.Ren := ⟨fun | 99 => 125 | 206 => 172 | n => n, fun | 9 => 9 | 4 => 4 | 3 => 3 | n => n, fun | n => n⟩
theorem Tryz.lays99 : Go.Proofs.Lays.n99 Tryz.prog Tryz.lays99_ren := {
  mixed := by kernel_rfl
  f99 := Tryz.func125.trans (congrArg some (by kernel_rfl))
  f206 := Tryz.func172.trans (congrArg some (by kernel_rfl))
  t3 := Tryz.underlying3
  a3 := Tryz.isAgg3
  z3 := Tryz.sizeOf3
  v3 := Tryz.zeroValue3
  t4 := Tryz.underlying4
  a4 := Tryz.isAgg4
  z4 := Tryz.sizeOf4
  v4 := Tryz.zeroValue4
  t9 := Tryz.underlying9
  a9 := Tryz.isAgg9
  z9 := Tryz.sizeOf9
  v9 := Tryz.zeroValue9 }
open Go.RowKit Go.Lib in
/-- strings.HasPrefix: "HasPrefix reports whether the string s begins with prefix.": IT RETURNS 'Lib.hasPrefix s prefix'; the world is as it was. (LAID: no walk: one application.) -/
theorem Tryz.strings_HasPrefix (s p : ByteArray) (w : World) :
    Calls Tryz.prog 125 #[.string s, .string p] w fun e w' => e = .returned (.bool (Lib.hasPrefix s.data.toList p.data.toList)) ∧ w' = w := Any.strings_HasPrefix Tryz.lays99 s p w
def Tryz.lays100_ren : Go.Shelf.Ren := ⟨fun | 100 => 63 | 207 => 88 | n => n, fun | 9 => 9 | 4 => 4 | 3 => 3 | n => n, fun | n => n⟩
theorem Tryz.lays100 : Go.Proofs.Lays.n100 Tryz.prog Tryz.lays100_ren := {
  mixed := by kernel_rfl
  f100 := Tryz.func63.trans (congrArg some (by kernel_rfl))
  f207 := Tryz.func88.trans (congrArg some (by kernel_rfl))
  t3 := Tryz.underlying3
  a3 := Tryz.isAgg3
  z3 := Tryz.sizeOf3
  v3 := Tryz.zeroValue3
  t4 := Tryz.underlying4
  a4 := Tryz.isAgg4
  z4 := Tryz.sizeOf4
  v4 := Tryz.zeroValue4
  t9 := Tryz.underlying9
  a9 := Tryz.isAgg9
  z9 := Tryz.sizeOf9
  v9 := Tryz.zeroValue9 }
open Go.RowKit Go.Lib in
/-- strings.HasSuffix: "HasSuffix reports whether the string s ends with suffix.": IT RETURNS 'Lib.hasSuffix s suffix'; the world is as it was. ('hs': no Go string is longer: a caller has it of every string that it was handed.) (LAID: no walk: one application.) -/
theorem Tryz.strings_HasSuffix (s p : ByteArray) (w : World) (hs : s.size ≤ 9223372036854775807) :
    Calls Tryz.prog 63 #[.string s, .string p] w fun e w' => e = .returned (.bool (Lib.hasSuffix s.data.toList p.data.toList)) ∧ w' = w := Any.strings_HasSuffix Tryz.lays100 s p w hs
def Tryz.lays105_ren : Go.Shelf.Ren := ⟨fun | 105 => 175 | 212 => 225 | 99 => 125 | 165 => 226 | 166 => 137 | 170 => 227 | 169 => 140 | 263 => 262 | 264 => 263 | 206 => 172 | 240 => 191 | 241 => 264 | 276 => 232 | 277 => 290 | n => n, fun | 9 => 9 | 3 => 3 | 4 => 4 | 20 => 20 | 0 => 0 | 46 => 167 | 109 => 299 | 5 => 5 | 72 => 203 | 76 => 92 | 51 => 331 | 146 => 332 | 53 => 124 | 148 => 338 | 70 => 201 | 37 => 35 | 75 => 72 | 127 => 264 | 164 => 305 | 80 => 214 | n => n, fun | n => n⟩
theorem Tryz.lays105 : Go.Proofs.Lays.n105 Tryz.prog Tryz.lays105_ren := {
  mixed := by kernel_rfl
  f99 := Tryz.func125.trans (congrArg some (by kernel_rfl))
  f105 := Tryz.func175.trans (congrArg some (by kernel_rfl))
  f165 := Tryz.func226.trans (congrArg some (by kernel_rfl))
  f166 := Tryz.func137.trans (congrArg some (by kernel_rfl))
  f169 := Tryz.func140.trans (congrArg some (by kernel_rfl))
  f170 := Tryz.func227.trans (congrArg some (by kernel_rfl))
  f206 := Tryz.func172.trans (congrArg some (by kernel_rfl))
  f212 := Tryz.func225.trans (congrArg some (by kernel_rfl))
  f240 := Tryz.func191.trans (congrArg some (by kernel_rfl))
  f241 := Tryz.func264.trans (congrArg some (by kernel_rfl))
  f263 := Tryz.func262.trans (congrArg some (by kernel_rfl))
  f264 := Tryz.func263.trans (congrArg some (by kernel_rfl))
  f276 := Tryz.func232.trans (congrArg some (by kernel_rfl))
  f277 := Tryz.func290.trans (congrArg some (by kernel_rfl))
  t0 := Tryz.underlying0
  a0 := Tryz.isAgg0
  z0 := Tryz.sizeOf0
  v0 := Tryz.zeroValue0
  t3 := Tryz.underlying3
  a3 := Tryz.isAgg3
  z3 := Tryz.sizeOf3
  v3 := Tryz.zeroValue3
  t4 := Tryz.underlying4
  a4 := Tryz.isAgg4
  z4 := Tryz.sizeOf4
  v4 := Tryz.zeroValue4
  t5 := Tryz.underlying5
  a5 := Tryz.isAgg5
  z5 := Tryz.sizeOf5
  v5 := Tryz.zeroValue5
  t9 := Tryz.underlying9
  a9 := Tryz.isAgg9
  z9 := Tryz.sizeOf9
  v9 := Tryz.zeroValue9
  t20 := Tryz.underlying20
  a20 := Tryz.isAgg20
  z20 := Tryz.sizeOf20
  v20 := Tryz.zeroValue20
  t37 := Tryz.underlying35
  a37 := Tryz.isAgg35
  z37 := Tryz.sizeOf35
  v37 := Tryz.zeroValue35
  t46 := Tryz.underlying167
  a46 := Tryz.isAgg167
  z46 := Tryz.sizeOf167
  v46 := Tryz.zeroValue167
  t51 := Tryz.underlying331
  a51 := Tryz.isAgg331
  z51 := Tryz.sizeOf331
  v51 := Tryz.zeroValue331
  t53 := Tryz.underlying124
  a53 := Tryz.isAgg124
  z53 := Tryz.sizeOf124
  v53 := Tryz.zeroValue124
  t70 := Tryz.underlying201
  a70 := Tryz.isAgg201
  z70 := Tryz.sizeOf201
  v70 := Tryz.zeroValue201
  t72 := Tryz.underlying203
  a72 := Tryz.isAgg203
  z72 := Tryz.sizeOf203
  v72 := Tryz.zeroValue203
  t75 := Tryz.underlying72
  a75 := Tryz.isAgg72
  z75 := Tryz.sizeOf72
  v75 := Tryz.zeroValue72
  t76 := Tryz.underlying92
  a76 := Tryz.isAgg92
  z76 := Tryz.sizeOf92
  v76 := Tryz.zeroValue92
  t109 := Tryz.underlying299
  a109 := Tryz.isAgg299
  z109 := Tryz.sizeOf299
  v109 := Tryz.zeroValue299
  t127 := Tryz.underlying264
  a127 := Tryz.isAgg264
  z127 := Tryz.sizeOf264
  v127 := Tryz.zeroValue264
  t146 := Tryz.underlying332
  a146 := Tryz.isAgg332
  z146 := Tryz.sizeOf332
  v146 := Tryz.zeroValue332
  t148 := Tryz.underlying338
  a148 := Tryz.isAgg338
  z148 := Tryz.sizeOf338
  v148 := Tryz.zeroValue338
  t164 := Tryz.underlying305
  a164 := Tryz.isAgg305
  z164 := Tryz.sizeOf305
  v164 := Tryz.zeroValue305 }
theorem Tryz.Builder_Extra_105 : Builder.Extra Tryz.prog Tryz.lays105_ren := {
  sizeBuilder := by kernel_rfl
  liesBuilder := by kernel_rfl
  t5 := Tryz.underlying5
  a5 := Tryz.isAgg5
  z5 := Tryz.sizeOf5
  v5 := Tryz.zeroValue5
  infoByte := by kernel_rfl
  cellsByte := by kernel_rfl
  sizeByte := by kernel_rfl
  neB5 := by decide }
open Go.RowKit Go.Lib in
/-- THE MAIN CASE: at least two copies of a string that is not empty. (LAID: no walk: one application.) -/
theorem Tryz.strings_Repeat_main (s : ByteArray) (c : Nat) (w : World) (hc2 : 2 ≤ c) (hc : c ≤ 9223372036854775807) (hlen : s.size * c ≤ 140737488355328) (h0 : 0 < s.size) :
    Calls Tryz.prog 175 #[.string s, .int .i64 c] w fun e w' => e = .returned (.string ⟨(Lib.repeatL s.data.toList c).toArray⟩) ∧ Below w.heap.size w w' := Any.strings_Repeat_main Tryz.lays105 Tryz.Builder_Extra_105 s c w hc2 hc hlen h0
open Go.RowKit Go.Lib in
theorem Tryz.strings_Repeat_one (s : ByteArray) (w : World) :
    Calls Tryz.prog 175 #[.string s, .int .i64 1] w fun e w' => e = .returned (.string s) ∧ w' = w := Any.strings_Repeat_one Tryz.lays105 s w
def Tryz.lays187_ren : Go.Shelf.Ren := ⟨fun | 187 => 212 | 255 => 242 | n => n, fun | 37 => 35 | 5 => 5 | 3 => 3 | n => n, fun | n => n⟩
theorem Tryz.lays187 : Go.Proofs.Lays.n187 Tryz.prog Tryz.lays187_ren := {
  mixed := by kernel_rfl
  f187 := Tryz.func212.trans (congrArg some (by kernel_rfl))
  f255 := Tryz.func242.trans (congrArg some (by kernel_rfl))
  t3 := Tryz.underlying3
  a3 := Tryz.isAgg3
  z3 := Tryz.sizeOf3
  v3 := Tryz.zeroValue3
  t5 := Tryz.underlying5
  a5 := Tryz.isAgg5
  z5 := Tryz.sizeOf5
  v5 := Tryz.zeroValue5
  t37 := Tryz.underlying35
  a37 := Tryz.isAgg35
  z37 := Tryz.sizeOf35
  v37 := Tryz.zeroValue35 }
open Go.RowKit Go.Lib in
/-- bytes.IndexByte, b at whatever address: "IndexByte returns the index of the first instance of c in b, or -1 if c is not present in b." (LAID: no walk: one application.) -/
theorem Tryz.bytes_IndexByte_at (a : Addr) (n c : Nat) (xs : List Int) (cv : Int) (w : World) (hx : xs.length = n) (hc : ∀ i, i < n → w.cell? (a.add i) = some (.int .u8 (xs.getD i 0))) :
    Calls Tryz.prog 212 #[.slice (some a) n c, .int .u8 cv] w fun e w' => e = .returned (.int .i64 (Lib.indexByte (Lib.bytesOf xs) cv.toNat.toUInt8)) ∧ w' = w := Any.bytes_IndexByte_at Tryz.lays187 a n c xs cv w hx hc
def Tryz.laysSlK4_ren : Go.Shelf.Ren := ⟨fun | 4 => 36 | n => n, fun | 22 => 35 | 4 => 4 | 5 => 5 | n => n, fun | n => n⟩
theorem Tryz.laysSlK4 : Go.Proofs.SlLaysK.n4 Tryz.prog Tryz.laysSlK4_ren := {
  mixed := by kernel_rfl
  f4 := Tryz.func36.trans (congrArg some (by kernel_rfl))
  t4 := Tryz.underlying4
  a4 := Tryz.isAgg4
  z4 := Tryz.sizeOf4
  v4 := Tryz.zeroValue4
  t22 := Tryz.underlying35
  a22 := Tryz.isAgg35
  z22 := Tryz.sizeOf35
  v22 := Tryz.zeroValue35
  t5 := Tryz.underlying5
  i5 := by kernel_rfl }
open Go.RowKit Go.Lib in
/-- bytes.Clone: "Clone returns a copy of b[:len(b)]. The result may have additional unused capacity.": OF A SLICE THAT IS NOT nil IT RETURNS A SLICE THAT IS NOT nil, OF THE SAME BYTES, IN MEMORY OF THE CALL's OWN: in the how-to's words (6f): 'w'.ownsRow B e 1 v' n cells' · 'Below B w w'', B the heap's size at the call. b AT WHATEVER ADDRESS, its cells as 'open_ints' hands them ('a.add i'; the numbers 'xs'). No byte: no cell is asked for. (LAID: no walk: one application.) -/
theorem Tryz.bytes_Clone_at (a : Addr) (n c : Nat) (xs : List Int) (w : World) (hx : xs.length = n) (hbig : n ≤ 140737488355328) (hc : ∀ i, i < n → w.cell? (a.add i) = some (.int .u8 (xs.getD i 0))) :
    Calls Tryz.prog 36 #[.slice (some a) n c] w fun e w' => ∃ v', e = .returned v' ∧ w'.ownsRow w.heap.size 5 1 v' n (xs.map (Value.int .u8)) ∧ v' ≠ .slice none 0 0 ∧ Below w.heap.size w w' := Any.bytes_Clone_at Tryz.laysSlK4 a n c xs w hx hbig hc
def Tryz.laysnb115_ren : Go.Shelf.Ren := ⟨fun | 115 => 197 | n => n, fun | 37 => 35 | 4 => 4 | 9 => 9 | 5 => 5 | n => n, fun | n => n⟩
theorem Tryz.laysnb115 : Go.Proofs.Lays.nb115 Tryz.prog Tryz.laysnb115_ren := {
  mixed := by kernel_rfl
  f115 := Tryz.func197.trans (congrArg some (by kernel_rfl))
  t4 := Tryz.underlying4
  a4 := Tryz.isAgg4
  z4 := Tryz.sizeOf4
  v4 := Tryz.zeroValue4
  t9 := Tryz.underlying9
  a9 := Tryz.isAgg9
  z9 := Tryz.sizeOf9
  v9 := Tryz.zeroValue9
  t37 := Tryz.underlying35
  a37 := Tryz.isAgg35
  z37 := Tryz.sizeOf35
  v37 := Tryz.zeroValue35
  t5 := Tryz.underlying5
  a5 := Tryz.isAgg5
  z5 := Tryz.sizeOf5
  v5 := Tryz.zeroValue5 }
/-- bytes.Equal: WHOLE. (LAID: no walk: one application.) -/
theorem Tryz.bytes_Equal_all (p1 p2 : Option Addr) (n c m d : Nat) (xs ys : List Int) (w : World) (hx : xs.length = n) (hy : ys.length = m) (h1 : Lib.BytesIn w p1 n xs) (h2 : Lib.BytesIn w p2 m ys) :
    Calls Tryz.prog 197 #[.slice p1 n c, .slice p2 m d] w fun e w' => e = .returned (.bool (Lib.bytesOf xs == Lib.bytesOf ys)) ∧ w' = w := Any.bytes_Equal_all Tryz.laysnb115 p1 p2 n c m d xs ys w hx hy h1 h2
def Tryz.laysPa29_ren : Go.Shelf.Ren := ⟨fun | 29 => 138 | 45 => 192 | n => n, fun | 9 => 9 | 5 => 5 | 3 => 3 | 4 => 4 | n => n, fun | n => n⟩
theorem Tryz.laysPa29 : Go.Proofs.Lays.p29 Tryz.prog Tryz.laysPa29_ren := {
  mixed := by kernel_rfl
  f29 := Tryz.func138.trans (congrArg some (by kernel_rfl))
  f45 := Tryz.func192.trans (congrArg some (by kernel_rfl))
  t3 := Tryz.underlying3
  a3 := Tryz.isAgg3
  z3 := Tryz.sizeOf3
  v3 := Tryz.zeroValue3
  t4 := Tryz.underlying4
  a4 := Tryz.isAgg4
  z4 := Tryz.sizeOf4
  v4 := Tryz.zeroValue4
  t5 := Tryz.underlying5
  a5 := Tryz.isAgg5
  z5 := Tryz.sizeOf5
  v5 := Tryz.zeroValue5
  t9 := Tryz.underlying9
  a9 := Tryz.isAgg9
  z9 := Tryz.sizeOf9
  v9 := Tryz.zeroValue9 }
open Go.RowKit Go.Lib in
/-- path.Split: "Split splits path immediately following the final slash, separating it into a directory and file name component. If there is no slash in path, Split returns an empty dir and file set to path. The returned values have the property that path = dir+file.": IT RETURNS 'Pa.split path'; the world is as it was but for the count of draws. (LAID: no walk: one application.) -/
theorem Tryz.path_Split (s : ByteArray) (w : World) (hs : s.size ≤ 9223372036854775807) :
    Calls Tryz.prog 138 #[.string s] w fun e w' => e = .returned (.tuple #[.string ⟨(Pa.split s.data.toList).1.toArray⟩, .string ⟨(Pa.split s.data.toList).2.toArray⟩]) ∧ ∃ n, w' = w.drewN n := Any.path_Split Tryz.laysPa29 s w hs
def Tryz.laysPah31_ren : Go.Shelf.Ren := ⟨fun | 31 => 139 | 30 => 193 | 46 => 233 | 47 => 234 | 48 => 235 | n => n, fun | 26 => 54 | 9 => 9 | 3 => 3 | 0 => 0 | 4 => 4 | 30 => 35 | 5 => 5 | 42 => 308 | 48 => 349 | n => n, fun | n => n⟩
theorem Tryz.laysPah31 : Go.Proofs.Lays.ph31 Tryz.prog Tryz.laysPah31_ren := {
  mixed := by kernel_rfl
  f30 := Tryz.func193.trans (congrArg some (by kernel_rfl))
  f31 := Tryz.func139.trans (congrArg some (by kernel_rfl))
  f46 := Tryz.func233.trans (congrArg some (by kernel_rfl))
  f47 := Tryz.func234.trans (congrArg some (by kernel_rfl))
  f48 := Tryz.func235.trans (congrArg some (by kernel_rfl))
  t0 := Tryz.underlying0
  a0 := Tryz.isAgg0
  z0 := Tryz.sizeOf0
  v0 := Tryz.zeroValue0
  t3 := Tryz.underlying3
  a3 := Tryz.isAgg3
  z3 := Tryz.sizeOf3
  v3 := Tryz.zeroValue3
  t4 := Tryz.underlying4
  a4 := Tryz.isAgg4
  z4 := Tryz.sizeOf4
  v4 := Tryz.zeroValue4
  t5 := Tryz.underlying5
  a5 := Tryz.isAgg5
  z5 := Tryz.sizeOf5
  v5 := Tryz.zeroValue5
  t9 := Tryz.underlying9
  a9 := Tryz.isAgg9
  z9 := Tryz.sizeOf9
  v9 := Tryz.zeroValue9
  t26 := Tryz.underlying54
  a26 := Tryz.isAgg54
  z26 := Tryz.sizeOf54
  v26 := Tryz.zeroValue54
  t30 := Tryz.underlying35
  a30 := Tryz.isAgg35
  z30 := Tryz.sizeOf35
  v30 := Tryz.zeroValue35
  t42 := Tryz.underlying308
  a42 := Tryz.isAgg308
  z42 := Tryz.sizeOf308
  v42 := Tryz.zeroValue308
  t48 := Tryz.underlying349
  a48 := Tryz.isAgg349
  z48 := Tryz.sizeOf349
  v48 := Tryz.zeroValue349
  info5 := by kernel_rfl }
open Go.RowKit Go.Lib in
/-- path.Join: "Join joins any number of path elements into a single path, separating them with slashes. Empty elements are ignored. The result is Cleaned. However, if the argument list is empty or all its elements are empty, Join returns an empty string.": THE ARGUMENT AS strings.Join's CONTRACT HAS IT: a slice of xs.length strings at ⟨bk, o⟩ whose cells hold xs ('hcells'), in memory that was there ('hbk'). IT RETURNS 'Pa.joinL (the elements)' (Derived/Lib/JoinFns.lean); what was there before the call is as it was ('Below'). IT ASKS that the elements' lengths and their number together stay within 2^48 (makeslice's own limit). (LAID: no walk: one application.) -/
theorem Tryz.path_Join (bk o c : Nat) (xs : List ByteArray) (w : World) (hcells : ∀ (j : Nat) x, xs[j]? = some x → w.cell? ⟨bk, o + j, none⟩ = some (.string x)) (hbk : bk < w.heap.size) (hlen : Pa.lens (xs.map (·.data.toList)) + xs.length ≤ 281474976710656) :
    Calls Tryz.prog 139 #[.slice (some ⟨bk, o, none⟩) xs.length c] w fun e w' => e = .returned (.string ⟨(Pa.joinL (xs.map (·.data.toList))).toArray⟩) ∧ Below w.heap.size w w' := Any.path_Join Tryz.laysPah31 bk o c xs w hcells hbk hlen
end Go.Proofs
