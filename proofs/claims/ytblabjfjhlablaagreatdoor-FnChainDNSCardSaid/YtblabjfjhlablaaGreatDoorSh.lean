/- Contracts of Go's library that the kit has proved over any program, laid at this program's numbers: one application each. -/
import Derived.Shelf.Strings.Builder1
import Derived.Shelf.Strings.Builder2
import Derived.Shelf.Strings.OnBuilder
import Derived.Shelf.Small.Utf8
import Derived.Shelf.Small.Bits
import Derived.Shelf.Small.Strs
import Derived.Shelf.Strings.BuilderF
import Derived.Shelf.Strings.BuilderK
import Derived.Shelf.Strings.BuilderRune
import Derived.Shelf.Strconv.Itoa0
import Derived.Shelf.Strings.Search1
import Derived.Shelf.Strings.Prefix
import Derived.Shelf.Unicode.Latin
import Derived.Shelf.Unicode.DecodeSlow
import Derived.Shelf.Unicode.DecodeAny
import Derived.Shelf.Unicode.CaseLookup
import Derived.Shelf.Unicode.CaseConvert
import Derived.Shelf.Unicode.CaseTo
import Derived.Shelf.Unicode.CaseLaid
import Derived.Shelf.Strings.MapAny
import Derived.Shelf.Strings.CaseAny
import Derived.Shelf.Slices.Turned
import Derived.Ground.Names2Prog
import Derived.Shelf.Slices.ReverseS
import Derived.Shelf.Slices.Clone
import Derived.Ground.SlsfProg
import Derived.Shelf.SlSortCmp.Insertion
import Derived.Shelf.SlSortCmp.SiftDown1
import Derived.Shelf.SlSortCmp.HeapSort1
import Derived.Shelf.SlSortCmp.Insertion1
import Derived.Shelf.SlSortCmp.Median1
import Derived.Shelf.SlSortCmp.Pivot1
import Derived.Shelf.SlSortCmp.ReverseRange1
import Derived.Shelf.SlSortCmp.PartialInsertion1
import Derived.Shelf.SlSortCmp.PartitionEqual1
import Derived.Shelf.SlSortCmp.Partition1
import Derived.Shelf.SlSortCmp.Pdq1
import Derived.Shelf.SlSortCmp.Whole1
import Derived.Shelf.Bytes.SlEqualAll
import Derived.Ground.PaProg
import Derived.Shelf.Path.Small
import Derived.Shelf.Bytes.Small
import Derived.Ground.SlsgProg
import Derived.Ground.SlgfProg
import Derived.Ground.SlgnProg
import Derived.Shelf.SlCmpFuncs.BinarySearchFunc
import Derived.Shelf.SlCmpFuncs.None
import Derived.Shelf.SlicesQ.IndexFunc
import Derived.Shelf.SlicesE.IndexFunc
import Derived.Shelf.SlicesE.Clone
import Derived.Shelf.SlicesQ.Reverse
import Derived.Test.YtblabjfjhlablaaGreatDoorProg
set_option maxRecDepth 100000
namespace Go.Proofs
open Go.Shelf
def Tryz.lays159_ren : Go.Shelf.Ren := ⟨fun | 159 => 104 | 165 => 139 | 166 => 140 | 167 => 141 | 169 => 142 | 230 => 143 | 204 => 144 | 240 => 165 | 241 => 166 | 197 => 167 | 118 => 168 | 168 => 169 | 270 => 170 | 262 => 171 | 276 => 194 | 277 => 195 | 260 => 196 | 242 => 197 | 313 => 198 | 278 => 216 | 274 => 217 | 275 => 218 | n => n, fun | 9 => 9 | 4 => 4 | 3 => 3 | 5 => 5 | 72 => 197 | 0 => 0 | 76 => 199 | 75 => 55 | 107 => 203 | 70 => 195 | 20 => 20 | 37 => 43 | 127 => 229 | 21 => 21 | 105 => 230 | 164 => 256 | 162 => 262 | 203 => 260 | 119 => 193 | 46 => 228 | 139 => 280 | 138 => 279 | 51 => 241 | 160 => 281 | 208 => 292 | 206 => 290 | 80 => 86 | n => n, fun | 13 => 0 | 3 => 4 | 4 => 5 | n => n⟩
theorem Tryz.lays159 : Go.Proofs.Lays.n159 Tryz.prog Tryz.lays159_ren := {
  mixed := by kernel_rfl
  f118 := Tryz.func168.trans (congrArg some (by kernel_rfl))
  f159 := Tryz.func104.trans (congrArg some (by kernel_rfl))
  f165 := Tryz.func139.trans (congrArg some (by kernel_rfl))
  f166 := Tryz.func140.trans (congrArg some (by kernel_rfl))
  f167 := Tryz.func141.trans (congrArg some (by kernel_rfl))
  f168 := Tryz.func169.trans (congrArg some (by kernel_rfl))
  f169 := Tryz.func142.trans (congrArg some (by kernel_rfl))
  f197 := Tryz.func167.trans (congrArg some (by kernel_rfl))
  f204 := Tryz.func144.trans (congrArg some (by kernel_rfl))
  f230 := Tryz.func143.trans (congrArg some (by kernel_rfl))
  f240 := Tryz.func165.trans (congrArg some (by kernel_rfl))
  f241 := Tryz.func166.trans (congrArg some (by kernel_rfl))
  f242 := Tryz.func197.trans (congrArg some (by kernel_rfl))
  f260 := Tryz.func196.trans (congrArg some (by kernel_rfl))
  f262 := Tryz.func171.trans (congrArg some (by kernel_rfl))
  f270 := Tryz.func170.trans (congrArg some (by kernel_rfl))
  f274 := Tryz.func217.trans (congrArg some (by kernel_rfl))
  f275 := Tryz.func218.trans (congrArg some (by kernel_rfl))
  f276 := Tryz.func194.trans (congrArg some (by kernel_rfl))
  f277 := Tryz.func195.trans (congrArg some (by kernel_rfl))
  f278 := Tryz.func216.trans (congrArg some (by kernel_rfl))
  f313 := Tryz.func198.trans (congrArg some (by kernel_rfl))
  t0 := Tryz.underlying0
  a0 := Tryz.isAgg0
  z0 := Tryz.sizeOf0
  v0 := Tryz.zeroValue0
  t3 := Tryz.underlying3
  a3 := Tryz.isAgg3
  z3 := Tryz.sizeOf3
  v3 := Tryz.zeroValue3
  t4 := Tryz.underlying4
  a4 := Tryz.isAgg4
  z4 := Tryz.sizeOf4
  v4 := Tryz.zeroValue4
  t5 := Tryz.underlying5
  a5 := Tryz.isAgg5
  z5 := Tryz.sizeOf5
  v5 := Tryz.zeroValue5
  t9 := Tryz.underlying9
  a9 := Tryz.isAgg9
  z9 := Tryz.sizeOf9
  v9 := Tryz.zeroValue9
  t20 := Tryz.underlying20
  a20 := Tryz.isAgg20
  z20 := Tryz.sizeOf20
  v20 := Tryz.zeroValue20
  t21 := Tryz.underlying21
  a21 := Tryz.isAgg21
  z21 := Tryz.sizeOf21
  v21 := Tryz.zeroValue21
  t37 := Tryz.underlying43
  a37 := Tryz.isAgg43
  z37 := Tryz.sizeOf43
  v37 := Tryz.zeroValue43
  t46 := Tryz.underlying228
  a46 := Tryz.isAgg228
  z46 := Tryz.sizeOf228
  v46 := Tryz.zeroValue228
  t51 := Tryz.underlying241
  a51 := Tryz.isAgg241
  z51 := Tryz.sizeOf241
  v51 := Tryz.zeroValue241
  t70 := Tryz.underlying195
  a70 := Tryz.isAgg195
  z70 := Tryz.sizeOf195
  v70 := Tryz.zeroValue195
  t72 := Tryz.underlying197
  a72 := Tryz.isAgg197
  z72 := Tryz.sizeOf197
  v72 := Tryz.zeroValue197
  t75 := Tryz.underlying55
  a75 := Tryz.isAgg55
  z75 := Tryz.sizeOf55
  v75 := Tryz.zeroValue55
  t76 := Tryz.underlying199
  a76 := Tryz.isAgg199
  z76 := Tryz.sizeOf199
  v76 := Tryz.zeroValue199
  t105 := Tryz.underlying230
  a105 := Tryz.isAgg230
  z105 := Tryz.sizeOf230
  v105 := Tryz.zeroValue230
  t107 := Tryz.underlying203
  a107 := Tryz.isAgg203
  z107 := Tryz.sizeOf203
  v107 := Tryz.zeroValue203
  t119 := Tryz.underlying193
  a119 := Tryz.isAgg193
  z119 := Tryz.sizeOf193
  t127 := Tryz.underlying229
  a127 := Tryz.isAgg229
  z127 := Tryz.sizeOf229
  v127 := Tryz.zeroValue229
  t138 := Tryz.underlying279
  a138 := Tryz.isAgg279
  z138 := Tryz.sizeOf279
  v138 := Tryz.zeroValue279
  t139 := Tryz.underlying280
  a139 := Tryz.isAgg280
  z139 := Tryz.sizeOf280
  v139 := Tryz.zeroValue280
  t160 := Tryz.underlying281
  a160 := Tryz.isAgg281
  z160 := Tryz.sizeOf281
  v160 := Tryz.zeroValue281
  t162 := Tryz.underlying262
  a162 := Tryz.isAgg262
  z162 := Tryz.sizeOf262
  v162 := Tryz.zeroValue262
  t164 := Tryz.underlying256
  a164 := Tryz.isAgg256
  z164 := Tryz.sizeOf256
  v164 := Tryz.zeroValue256
  t203 := Tryz.underlying260
  a203 := Tryz.isAgg260
  z203 := Tryz.sizeOf260
  v203 := Tryz.zeroValue260
  t206 := Tryz.underlying290
  a206 := Tryz.isAgg290
  z206 := Tryz.sizeOf290
  v206 := Tryz.zeroValue290
  t208 := Tryz.underlying292
  a208 := Tryz.isAgg292
  z208 := Tryz.sizeOf292
  v208 := Tryz.zeroValue292
  g3 := by kernel_rfl
  g4 := by kernel_rfl
  g13 := by kernel_rfl }
theorem Tryz.Builder_Extra_159 : Builder.Extra Tryz.prog Tryz.lays159_ren := {
  sizeBuilder := by kernel_rfl
  liesBuilder := by kernel_rfl
  t5 := Tryz.underlying5
  a5 := Tryz.isAgg5
  z5 := Tryz.sizeOf5
  v5 := Tryz.zeroValue5
  infoByte := by kernel_rfl
  cellsByte := by kernel_rfl
  sizeByte := by kernel_rfl
  neB5 := by decide }
open Go.RowKit in
/-- strings.ToLower: "ToLower returns s with all Unicode letters mapped to their lower case.": ON ASCII TEXT OF AT MOST 2^47 BYTES. Below the heap's end the world is as it was: where a letter turns, the call makes a builder and its buffer. (LAID: no walk: one application.) -/
theorem Tryz.strings_ToLower_ascii (s : ByteArray) (w : World) (hs : s.size ≤ 140737488355328) (hascii : ∀ (j : Nat) (b : UInt8), s.data.toList[j]? = some b → b.toNat < 128) :
    Calls Tryz.prog 104 #[.string s] w fun e w' => e = .returned (.string ⟨(Lib.toLowerA s.data.toList).toArray⟩) ∧ Below w.heap.size w w' := Any.strings_ToLower_ascii Tryz.lays159 Tryz.Builder_Extra_159 s w hs hascii
def Tryz.lays137_ren : Go.Shelf.Ren := ⟨fun | 137 => 145 | 217 => 172 | 266 => 176 | n => n, fun | 9 => 9 | 5 => 5 | 3 => 3 | n => n, fun | n => n⟩
theorem Tryz.lays137 : Go.Proofs.Lays.n137 Tryz.prog Tryz.lays137_ren := {
  mixed := by kernel_rfl
  f137 := Tryz.func145.trans (congrArg some (by kernel_rfl))
  f217 := Tryz.func172.trans (congrArg some (by kernel_rfl))
  f266 := Tryz.func176.trans (congrArg some (by kernel_rfl))
  t3 := Tryz.underlying3
  a3 := Tryz.isAgg3
  z3 := Tryz.sizeOf3
  v3 := Tryz.zeroValue3
  t5 := Tryz.underlying5
  a5 := Tryz.isAgg5
  z5 := Tryz.sizeOf5
  v5 := Tryz.zeroValue5
  t9 := Tryz.underlying9
  a9 := Tryz.isAgg9
  z9 := Tryz.sizeOf9
  v9 := Tryz.zeroValue9 }
open Go.RowKit in
/-- strings.IndexByte: "IndexByte returns the index of the first instance of c in s, or -1 if c is not present in s.": IT RETURNS 'Lib.indexByte s c'; the world is as it was. (LAID: no walk: one application.) -/
theorem Tryz.strings_IndexByte (s : ByteArray) (c : Int) (w : World) :
    Calls Tryz.prog 145 #[.string s, .int .u8 c] w fun e w' => e = .returned (.int .i64 (Lib.indexByte s.data.toList c.toNat.toUInt8)) ∧ w' = w := Any.strings_IndexByte Tryz.lays137 s c w
def Tryz.lays99_ren : Go.Shelf.Ren := ⟨fun | 99 => 124 | 206 => 153 | n => n, fun | 9 => 9 | 4 => 4 | 3 => 3 | n => n, fun | n => n⟩
theorem Tryz.lays99 : Go.Proofs.Lays.n99 Tryz.prog Tryz.lays99_ren := {
  mixed := by kernel_rfl
  f99 := Tryz.func124.trans (congrArg some (by kernel_rfl))
  f206 := Tryz.func153.trans (congrArg some (by kernel_rfl))
  t3 := Tryz.underlying3
  a3 := Tryz.isAgg3
  z3 := Tryz.sizeOf3
  v3 := Tryz.zeroValue3
  t4 := Tryz.underlying4
  a4 := Tryz.isAgg4
  z4 := Tryz.sizeOf4
  v4 := Tryz.zeroValue4
  t9 := Tryz.underlying9
  a9 := Tryz.isAgg9
  z9 := Tryz.sizeOf9
  v9 := Tryz.zeroValue9 }
open Go.RowKit Go.Lib in
/-- strings.HasPrefix: "HasPrefix reports whether the string s begins with prefix.": IT RETURNS 'Lib.hasPrefix s prefix'; the world is as it was. (LAID: no walk: one application.) -/
theorem Tryz.strings_HasPrefix (s p : ByteArray) (w : World) :
    Calls Tryz.prog 124 #[.string s, .string p] w fun e w' => e = .returned (.bool (Lib.hasPrefix s.data.toList p.data.toList)) ∧ w' = w := Any.strings_HasPrefix Tryz.lays99 s p w
def Tryz.lays100_ren : Go.Shelf.Ren := ⟨fun | 100 => 121 | 207 => 148 | n => n, fun | 9 => 9 | 4 => 4 | 3 => 3 | n => n, fun | n => n⟩
theorem Tryz.lays100 : Go.Proofs.Lays.n100 Tryz.prog Tryz.lays100_ren := {
  mixed := by kernel_rfl
  f100 := Tryz.func121.trans (congrArg some (by kernel_rfl))
  f207 := Tryz.func148.trans (congrArg some (by kernel_rfl))
  t3 := Tryz.underlying3
  a3 := Tryz.isAgg3
  z3 := Tryz.sizeOf3
  v3 := Tryz.zeroValue3
  t4 := Tryz.underlying4
  a4 := Tryz.isAgg4
  z4 := Tryz.sizeOf4
  v4 := Tryz.zeroValue4
  t9 := Tryz.underlying9
  a9 := Tryz.isAgg9
  z9 := Tryz.sizeOf9
  v9 := Tryz.zeroValue9 }
open Go.RowKit Go.Lib in
/-- strings.HasSuffix: "HasSuffix reports whether the string s ends with suffix.": IT RETURNS 'Lib.hasSuffix s suffix'; the world is as it was. ('hs': no Go string is longer: a caller has it of every string that it was handed.) (LAID: no walk: one application.) -/
theorem Tryz.strings_HasSuffix (s p : ByteArray) (w : World) (hs : s.size ≤ 9223372036854775807) :
    Calls Tryz.prog 121 #[.string s, .string p] w fun e w' => e = .returned (.bool (Lib.hasSuffix s.data.toList p.data.toList)) ∧ w' = w := Any.strings_HasSuffix Tryz.lays100 s p w hs
open Go.RowKit Go.Lib in
/-- **strings.ToLower AT EVERY STRING, VALID UTF-8 OR NOT.** (LAID: no walk: one application.) -/
theorem Tryz.strings_ToLower_any (s : ByteArray) (w : World) (hs : s.size < 35184372088832) (hV : CaseVar 0 caseA w) (hT : Lib.Utf8Tabs 4 5 w) :
    Calls Tryz.prog 104 #[.string s] w fun e w' => e = .returned (.string ⟨(Lib.toLowerD s.data.toList).toArray⟩) ∧ Below w.heap.size w w' := Any.strings_ToLower_any Tryz.lays159 Tryz.Builder_Extra_159 s w hs hV hT
def Tryz.lays108_ren : Go.Shelf.Ren := ⟨fun | 108 => 161 | n => n, fun | 28 => 108 | 3 => 3 | 0 => 0 | 4 => 4 | n => n, fun | n => n⟩
theorem Tryz.lays108 : Go.Proofs.Lays.n108 Tryz.prog Tryz.lays108_ren := {
  mixed := by kernel_rfl
  f108 := Tryz.func161.trans (congrArg some (by kernel_rfl))
  t0 := Tryz.underlying0
  a0 := Tryz.isAgg0
  z0 := Tryz.sizeOf0
  v0 := Tryz.zeroValue0
  t3 := Tryz.underlying3
  a3 := Tryz.isAgg3
  z3 := Tryz.sizeOf3
  v3 := Tryz.zeroValue3
  t4 := Tryz.underlying4
  a4 := Tryz.isAgg4
  z4 := Tryz.sizeOf4
  v4 := Tryz.zeroValue4
  t28 := Tryz.underlying108
  a28 := Tryz.isAgg108
  z28 := Tryz.sizeOf108
  v28 := Tryz.zeroValue108 }
open Go.Lib in
/-- slices.Index at []int: "Index returns the index of the first occurrence of v in s, or -1 if not present.": IT RETURNS 'Lib.idxOf (the elements) v'; the world is as it was. 'zs': what the cells behind the slice's address hold (its spare capacity too, if you have it); 'zs.take n': its elements. (LAID: no walk: one application.) -/
theorem Tryz.slices_Index_int (b off n c : Nat) (zs : List Int) (x : Int) (w : World) (hz : n ≤ zs.length) (hbig : n ≤ 9223372036854775807) (hc : ∀ j, j < zs.length → w.cell? ⟨b, off + j, none⟩ = some (.int .i64 (zs.getD j 0))) :
    Calls Tryz.prog 161 #[.slice (some ⟨b, off, none⟩) n c, .int .i64 x] w fun e w' => e = .returned (.int .i64 (Lib.idxOf (zs.take n) x)) ∧ w' = w := Any.slices_Index_int Tryz.lays108 b off n c zs x w hz hbig hc
open Go.Lib in
/-- The same at a slice of length 0, a nil one too: no cell is known, none is asked for. (LAID: no walk: one application.) -/
theorem Tryz.slices_Index_int_empty (a : Option Addr) (c : Nat) (x : Int) (w : World) :
    Calls Tryz.prog 161 #[.slice a 0 c, .int .i64 x] w fun e w' => e = .returned (.int .i64 (Lib.idxOf [] x)) ∧ w' = w := Any.slices_Index_int_empty Tryz.lays108 a c x w
def Tryz.lays107_ren : Go.Shelf.Ren := ⟨fun | 107 => 132 | 108 => 161 | n => n, fun | 28 => 108 | 3 => 3 | 4 => 4 | 0 => 0 | n => n, fun | n => n⟩
theorem Tryz.lays107 : Go.Proofs.Lays.n107 Tryz.prog Tryz.lays107_ren := {
  mixed := by kernel_rfl
  f107 := Tryz.func132.trans (congrArg some (by kernel_rfl))
  f108 := Tryz.func161.trans (congrArg some (by kernel_rfl))
  t0 := Tryz.underlying0
  a0 := Tryz.isAgg0
  z0 := Tryz.sizeOf0
  v0 := Tryz.zeroValue0
  t3 := Tryz.underlying3
  a3 := Tryz.isAgg3
  z3 := Tryz.sizeOf3
  v3 := Tryz.zeroValue3
  t4 := Tryz.underlying4
  a4 := Tryz.isAgg4
  z4 := Tryz.sizeOf4
  v4 := Tryz.zeroValue4
  t28 := Tryz.underlying108
  a28 := Tryz.isAgg108
  z28 := Tryz.sizeOf108
  v28 := Tryz.zeroValue108 }
open Go.Lib in
/-- slices.Contains at []int: "Contains reports whether v is present in s.": IT RETURNS 'elements.contains v'; the world is as it was. ITS CALLEE slices.Index IS MET BY ITS OWN CONTRACT OFF THE SHELF (lay that first): no loop is walked here. (LAID: no walk: one application.) -/
theorem Tryz.slices_Contains_int (b off n c : Nat) (zs : List Int) (x : Int) (w : World) (hz : n ≤ zs.length) (hbig : n ≤ 9223372036854775807) (hc : ∀ j, j < zs.length → w.cell? ⟨b, off + j, none⟩ = some (.int .i64 (zs.getD j 0))) :
    Calls Tryz.prog 132 #[.slice (some ⟨b, off, none⟩) n c, .int .i64 x] w fun e w' => e = .returned (.bool ((zs.take n).contains x)) ∧ w' = w := Any.slices_Contains_int Tryz.lays107 b off n c zs x w hz hbig hc
open Go.Lib in
/-- The same at a slice of length 0, a nil one too. (LAID: no walk: one application.) -/
theorem Tryz.slices_Contains_int_empty (a : Option Addr) (c : Nat) (x : Int) (w : World) :
    Calls Tryz.prog 132 #[.slice a 0 c, .int .i64 x] w fun e w' => e = .returned (.bool false) ∧ w' = w := Any.slices_Contains_int_empty Tryz.lays107 a c x w
def Tryz.laysNm217_ren : Go.Shelf.Ren := ⟨fun | 17 => 63 | n => n, fun | 24 => 22 | 9 => 9 | 3 => 3 | 4 => 4 | 0 => 0 | n => n, fun | n => n⟩
theorem Tryz.laysNm217 : Go.Proofs.Lays2.n17 Tryz.prog Tryz.laysNm217_ren := {
  mixed := by kernel_rfl
  f17 := Tryz.func63.trans (congrArg some (by kernel_rfl))
  t0 := Tryz.underlying0
  a0 := Tryz.isAgg0
  z0 := Tryz.sizeOf0
  v0 := Tryz.zeroValue0
  t3 := Tryz.underlying3
  a3 := Tryz.isAgg3
  z3 := Tryz.sizeOf3
  v3 := Tryz.zeroValue3
  t4 := Tryz.underlying4
  a4 := Tryz.isAgg4
  z4 := Tryz.sizeOf4
  v4 := Tryz.zeroValue4
  t9 := Tryz.underlying9
  a9 := Tryz.isAgg9
  z9 := Tryz.sizeOf9
  v9 := Tryz.zeroValue9
  t24 := Tryz.underlying22
  a24 := Tryz.isAgg22
  z24 := Tryz.sizeOf22
  v24 := Tryz.zeroValue22 }
open Go.RowKit Go.Lib Go.Sort in
/-- slices.Reverse at []string: "Reverse reverses the elements of the slice in place.": THE SLICE's CELLS HOLD 'zs.reverse' BEHIND THE CALL; all else is as it was, but for the count of draws (the exchange 's[i], s[j] = s[j], s[i]' draws its order, once a round). IN THE WORDS OF slices.Sort's CONTRACT: 'Holds': the cells hold zs and none is frozen; 'putRow': the world with those cells holding another array. A slice of length 0 that is not nil is among them ('zs = []'); nil: '.._nil'. (LAID: no walk: one application.) -/
theorem Tryz.slices_Reverse_string (blk off cap : Nat) (zs : List (List UInt8)) (w : World) (hH : Holds encStr w blk off zs.toArray) (hsz : zs.length ≤ 9223372036854775807) :
    Calls Tryz.prog 63 #[.slice (some ⟨blk, off, none⟩) zs.length cap] w fun e w' => e = .returned (.tuple #[]) ∧ ∃ n, w' = putRow encStr (Sort.ahead w n) blk off zs.reverse.toArray := Any.slices_Reverse_string Tryz.laysNm217 blk off cap zs w hH hsz
open Go.RowKit Go.Lib Go.Sort in
/-- The same at a slice of length 0, a nil one too: nothing is read, nothing written, nothing drawn. (LAID: no walk: one application.) -/
theorem Tryz.slices_Reverse_string_empty (a : Option Addr) (cap : Nat) (w : World) :
    Calls Tryz.prog 63 #[.slice a 0 cap] w fun e w' => e = .returned (.tuple #[]) ∧ w' = w := Any.slices_Reverse_string_empty Tryz.laysNm217 a cap w
def Tryz.laysNm216_ren : Go.Shelf.Ren := ⟨fun | 16 => 62 | n => n, fun | 24 => 22 | 9 => 9 | 4 => 4 | n => n, fun | n => n⟩
theorem Tryz.laysNm216 : Go.Proofs.Lays2.n16 Tryz.prog Tryz.laysNm216_ren := {
  mixed := by kernel_rfl
  f16 := Tryz.func62.trans (congrArg some (by kernel_rfl))
  t4 := Tryz.underlying4
  a4 := Tryz.isAgg4
  z4 := Tryz.sizeOf4
  v4 := Tryz.zeroValue4
  t9 := Tryz.underlying9
  a9 := Tryz.isAgg9
  z9 := Tryz.sizeOf9
  v9 := Tryz.zeroValue9
  t24 := Tryz.underlying22
  a24 := Tryz.isAgg22
  z24 := Tryz.sizeOf22
  v24 := Tryz.zeroValue22
  i9 := by kernel_rfl }
open Go.RowKit Go.Lib in
/-- slices.Clone at []string: "Clone returns a copy of the slice. The elements are copied using assignment, so this is a shallow clone. The result may have additional unused capacity. The result preserves the nilness of s.": OF A SLICE THAT IS NOT nil IT RETURNS A SLICE THAT IS NOT nil, OF THE SAME ELEMENTS, IN MEMORY OF THE CALL's OWN: in the how-to's words (6f): 'w'.ownsRow B e 1 v' n cells': v' begins at the head of a row among the blocks from B on (B: the heap's size at the call), not frozen, whose first cells are the elements · 'Below B w w'': below B all is as it was. The capacity is whatever the run-time gives. 'zs': what the cells behind the slice's address hold; 'zs.take n': its elements. (LAID: no walk: one application.) -/
theorem Tryz.slices_Clone_string (b off n c : Nat) (zs : List ByteArray) (w : World) (hz : n ≤ zs.length) (hbig : n * 16 ≤ 140737488355328) (hc : ∀ j, j < zs.length → w.cell? ⟨b, off + j, none⟩ = some (.string (zs.getD j ByteArray.empty))) :
    Calls Tryz.prog 62 #[.slice (some ⟨b, off, none⟩) n c] w fun e w' => ∃ v', e = .returned v' ∧ w'.ownsRow w.heap.size 9 1 v' n ((zs.take n).map (Value.string)) ∧ v' ≠ .slice none 0 0 ∧ Below w.heap.size w w' := Any.slices_Clone_string Tryz.laysNm216 b off n c zs w hz hbig hc
open Go.RowKit Go.Lib in
/-- The same at nil: nil comes back; the world is as it was. (LAID: no walk: one application.) -/
theorem Tryz.slices_Clone_string_nil (n c : Nat) (w : World) :
    Calls Tryz.prog 62 #[.slice none n c] w fun e w' => e = .returned (.slice none 0 0) ∧ w' = w := Any.slices_Clone_string_nil Tryz.laysNm216 n c w
open Go.RowKit Go.Lib in
/-- The same at a slice of length 0 that is not nil, WHATEVER ITS ADDRESS (no cell is asked for): a slice that is not nil and owns nothing comes back. (LAID: no walk: one application.) -/
theorem Tryz.slices_Clone_string_zero (a : Addr) (c : Nat) (w : World) :
    Calls Tryz.prog 62 #[.slice (some a) 0 c] w fun e w' => ∃ v', e = .returned v' ∧ w'.ownsRow w.heap.size 9 1 v' 0 [] ∧ v' ≠ .slice none 0 0 ∧ Below w.heap.size w w' := Any.slices_Clone_string_zero Tryz.laysNm216 a c w
def Tryz.laysSlF6_f137_ren : Go.Shelf.Ren := ⟨fun | 6 => 137 | 15 => 164 | 14 => 163 | 28 => 192 | 29 => 193 | 20 => 184 | 21 => 185 | 22 => 186 | 23 => 187 | 24 => 188 | 25 => 189 | 26 => 190 | 27 => 191 | 46 => 211 | 47 => 212 | 48 => 213 | 49 => 214 | 50 => 215 | 57 => 222 | n => n, fun | 22 => 22 | 24 => 9 | 25 => 123 | 3 => 3 | 39 => 228 | 0 => 0 | 53 => 241 | 55 => 165 | 4 => 4 | 46 => 249 | 45 => 248 | 50 => 159 | 5 => 5 | 9 => 9 | 66 => 272 | 70 => 276 | 76 => 286 | 77 => 287 | n => n, fun | n => n⟩
theorem Tryz.laysSlF6_f137 : Go.Proofs.SlLaysF.n6 Tryz.prog Tryz.laysSlF6_f137_ren := {
  mixed := by kernel_rfl
  f6 := ⟨Tryz.f137.name, by decide, Tryz.func137.trans (congrArg some (by kernel_rfl))⟩
  f14 := ⟨Tryz.f163.name, by decide, Tryz.func163.trans (congrArg some (by kernel_rfl))⟩
  f15 := Tryz.func164.trans (congrArg some (by kernel_rfl))
  f20 := ⟨Tryz.f184.name, by decide, Tryz.func184.trans (congrArg some (by kernel_rfl))⟩
  f21 := ⟨Tryz.f185.name, by decide, Tryz.func185.trans (congrArg some (by kernel_rfl))⟩
  f22 := ⟨Tryz.f186.name, by decide, Tryz.func186.trans (congrArg some (by kernel_rfl))⟩
  f23 := ⟨Tryz.f187.name, by decide, Tryz.func187.trans (congrArg some (by kernel_rfl))⟩
  f24 := ⟨Tryz.f188.name, by decide, Tryz.func188.trans (congrArg some (by kernel_rfl))⟩
  f25 := ⟨Tryz.f189.name, by decide, Tryz.func189.trans (congrArg some (by kernel_rfl))⟩
  f26 := ⟨Tryz.f190.name, by decide, Tryz.func190.trans (congrArg some (by kernel_rfl))⟩
  f27 := ⟨Tryz.f191.name, by decide, Tryz.func191.trans (congrArg some (by kernel_rfl))⟩
  f28 := Tryz.func192.trans (congrArg some (by kernel_rfl))
  f29 := Tryz.func193.trans (congrArg some (by kernel_rfl))
  f46 := ⟨Tryz.f211.name, by decide, Tryz.func211.trans (congrArg some (by kernel_rfl))⟩
  f47 := Tryz.func212.trans (congrArg some (by kernel_rfl))
  f48 := Tryz.func213.trans (congrArg some (by kernel_rfl))
  f49 := ⟨Tryz.f214.name, by decide, Tryz.func214.trans (congrArg some (by kernel_rfl))⟩
  f50 := ⟨Tryz.f215.name, by decide, Tryz.func215.trans (congrArg some (by kernel_rfl))⟩
  f57 := ⟨Tryz.f222.name, by decide, Tryz.func222.trans (congrArg some (by kernel_rfl))⟩
  t0 := Tryz.underlying0
  a0 := Tryz.isAgg0
  z0 := Tryz.sizeOf0
  v0 := Tryz.zeroValue0
  t3 := Tryz.underlying3
  a3 := Tryz.isAgg3
  z3 := Tryz.sizeOf3
  v3 := Tryz.zeroValue3
  t4 := Tryz.underlying4
  a4 := Tryz.isAgg4
  z4 := Tryz.sizeOf4
  v4 := Tryz.zeroValue4
  t5 := Tryz.underlying5
  a5 := Tryz.isAgg5
  z5 := Tryz.sizeOf5
  v5 := Tryz.zeroValue5
  t9 := Tryz.underlying9
  a9 := Tryz.isAgg9
  z9 := Tryz.sizeOf9
  v9 := Tryz.zeroValue9
  t22 := Tryz.underlying22
  a22 := Tryz.isAgg22
  z22 := Tryz.sizeOf22
  v22 := Tryz.zeroValue22
  a24 := Tryz.isAgg9
  z24 := Tryz.sizeOf9
  t25 := Tryz.underlying123
  a25 := Tryz.isAgg123
  z25 := Tryz.sizeOf123
  v25 := Tryz.zeroValue123
  t39 := Tryz.underlying228
  a39 := Tryz.isAgg228
  z39 := Tryz.sizeOf228
  v39 := Tryz.zeroValue228
  t45 := Tryz.underlying248
  a45 := Tryz.isAgg248
  z45 := Tryz.sizeOf248
  v45 := Tryz.zeroValue248
  t46 := Tryz.underlying249
  a46 := Tryz.isAgg249
  z46 := Tryz.sizeOf249
  v46 := Tryz.zeroValue249
  t50 := Tryz.underlying159
  a50 := Tryz.isAgg159
  z50 := Tryz.sizeOf159
  v50 := Tryz.zeroValue159
  t53 := Tryz.underlying241
  a53 := Tryz.isAgg241
  z53 := Tryz.sizeOf241
  v53 := Tryz.zeroValue241
  t55 := Tryz.underlying165
  a55 := Tryz.isAgg165
  z55 := Tryz.sizeOf165
  v55 := Tryz.zeroValue165
  t66 := Tryz.underlying272
  a66 := Tryz.isAgg272
  z66 := Tryz.sizeOf272
  v66 := Tryz.zeroValue272
  t70 := Tryz.underlying276
  a70 := Tryz.isAgg276
  z70 := Tryz.sizeOf276
  v70 := Tryz.zeroValue276
  t76 := Tryz.underlying286
  a76 := Tryz.isAgg286
  z76 := Tryz.sizeOf286
  v76 := Tryz.zeroValue286
  t77 := Tryz.underlying287
  a77 := Tryz.isAgg287
  z77 := Tryz.sizeOf287
  v77 := Tryz.zeroValue287 }
open Go.RowKit Go.Lib Go.Sort in
/-- **slices.SortFunc, IN THE DOCUMENTATION's OWN TERMS: A PERMUTATION OF WHAT THE ROW HELD, SORTED BY 'cmp(a, b) < 0'.** Which of two equals comes first is left open ("The sort is not guaranteed to be stable"). (LAID AT THE INSTANCE 'slices.SortFunc[[]string,string]': no walk: one application.) -/
theorem Tryz.slices_SortFunc {α : Type} [Inhabited α] (enc : α → Value) (h1 : OneCell enc) (cf : α → α → Int) (hO : SWO (ltOf cf)) (g : Nat) (cb : Array Value) (blk off cap : Nat) (d : Array α) (w : World) (eg : ∀ args w, (callFunc g args).run Tryz.prog w = .ok (.enter g args) w) (hcmp : CmpLays1 Tryz.prog g cb enc cf blk off d.size w) (hH : Holds enc w blk off d) (hblk : blk < w.heap.size) (hsz : d.size < 4611686018427387904) :
    Calls Tryz.prog 137 #[.slice (some ⟨blk, off, none⟩) d.size cap, .func (.func g) #[] cb] w fun e w' =>
      e = .returned (.tuple #[]) ∧ ∃ d' n os, PermIn 0 d.size d d' ∧ SortedIn (ltOf cf) 0 d.size d' ∧ w' = sortWorld enc w blk off n d' os := Any.slices_SortFunc Tryz.laysSlF6_f137 enc h1 cf hO g cb blk off cap d w eg hcmp hH hblk hsz
def Tryz.laysnb115_ren : Go.Shelf.Ren := ⟨fun | 115 => 155 | n => n, fun | 37 => 43 | 4 => 4 | 9 => 9 | 5 => 5 | n => n, fun | n => n⟩
theorem Tryz.laysnb115 : Go.Proofs.Lays.nb115 Tryz.prog Tryz.laysnb115_ren := {
  mixed := by kernel_rfl
  f115 := Tryz.func155.trans (congrArg some (by kernel_rfl))
  t4 := Tryz.underlying4
  a4 := Tryz.isAgg4
  z4 := Tryz.sizeOf4
  v4 := Tryz.zeroValue4
  t9 := Tryz.underlying9
  a9 := Tryz.isAgg9
  z9 := Tryz.sizeOf9
  v9 := Tryz.zeroValue9
  t37 := Tryz.underlying43
  a37 := Tryz.isAgg43
  z37 := Tryz.sizeOf43
  v37 := Tryz.zeroValue43
  t5 := Tryz.underlying5
  a5 := Tryz.isAgg5
  z5 := Tryz.sizeOf5
  v5 := Tryz.zeroValue5 }
/-- bytes.Equal: WHOLE. (LAID: no walk: one application.) -/
theorem Tryz.bytes_Equal_all (p1 p2 : Option Addr) (n c m d : Nat) (xs ys : List Int) (w : World) (hx : xs.length = n) (hy : ys.length = m) (h1 : Lib.BytesIn w p1 n xs) (h2 : Lib.BytesIn w p2 m ys) :
    Calls Tryz.prog 155 #[.slice p1 n c, .slice p2 m d] w fun e w' => e = .returned (.bool (Lib.bytesOf xs == Lib.bytesOf ys)) ∧ w' = w := Any.bytes_Equal_all Tryz.laysnb115 p1 p2 n c m d xs ys w hx hy h1 h2
def Tryz.lays115_ren : Go.Shelf.Ren := ⟨fun | 115 => 155 | n => n, fun | 37 => 43 | 4 => 4 | 9 => 9 | 5 => 5 | n => n, fun | n => n⟩
theorem Tryz.lays115 : Go.Proofs.Lays.n115 Tryz.prog Tryz.lays115_ren := {
  mixed := by kernel_rfl
  f115 := Tryz.func155.trans (congrArg some (by kernel_rfl))
  t4 := Tryz.underlying4
  a4 := Tryz.isAgg4
  z4 := Tryz.sizeOf4
  v4 := Tryz.zeroValue4
  t9 := Tryz.underlying9
  a9 := Tryz.isAgg9
  z9 := Tryz.sizeOf9
  v9 := Tryz.zeroValue9
  t37 := Tryz.underlying43
  a37 := Tryz.isAgg43
  z37 := Tryz.sizeOf43
  v37 := Tryz.zeroValue43 }
/-- bytes.Equal: "Equal reports whether a and b are the same length and contain the same bytes. A nil argument is equivalent to an empty slice.": IT RETURNS 'the bytes of the one == the bytes of the other'; the world is as it was. THE TWO ARGUMENTS COME AS WHATEVER VALUES, each with the one fact that the walk wants of it: what 'string(..)' of it gives: for a slice whose cells you know: 'run_convert_bytes_arg' (Derived/Laws/BytesArg.lean) hands that fact; for a nil one: 'run_convert_bytes_nil' (with xs := []). (LAID: no walk: one application.) -/
theorem Tryz.bytes_Equal (v1 v2 : Value) (xs ys : List Int) (w : World) (h1 : (convert 43 9 v1).run Tryz.prog w = .ok (.string (strOfNums xs)) w) (h2 : (convert 43 9 v2).run Tryz.prog w = .ok (.string (strOfNums ys)) w) :
    Calls Tryz.prog 155 #[v1, v2] w fun e w' => e = .returned (.bool (Lib.bytesOf xs == Lib.bytesOf ys)) ∧ w' = w := Any.bytes_Equal Tryz.lays115 v1 v2 xs ys w h1 h2
def Tryz.laysSort157_ren : Go.Shelf.Ren := ⟨fun | 6 => 157 | 15 => 164 | 14 => 180 | 28 => 192 | 29 => 193 | 20 => 202 | 21 => 203 | 22 => 204 | 23 => 205 | 24 => 206 | 25 => 207 | 26 => 208 | 27 => 209 | 46 => 219 | 47 => 212 | 48 => 213 | 49 => 220 | 50 => 221 | 57 => 223 | n => n, fun | 22 => 78 | 24 => 121 | 25 => 184 | 3 => 3 | 39 => 228 | 0 => 0 | 53 => 241 | 55 => 165 | 4 => 4 | 46 => 249 | 45 => 248 | 50 => 159 | 5 => 5 | 9 => 9 | 66 => 272 | 70 => 276 | 76 => 286 | 77 => 287 | n => n, fun | n => n⟩
theorem Tryz.laysSort157 : Go.Proofs.SlLaysF.n6 Tryz.prog Tryz.laysSort157_ren := {
  mixed := by kernel_rfl
  f6 := ⟨Tryz.f157.name, by decide, Tryz.func157.trans (congrArg some (by kernel_rfl))⟩
  f14 := ⟨Tryz.f180.name, by decide, Tryz.func180.trans (congrArg some (by kernel_rfl))⟩
  f15 := Tryz.func164.trans (congrArg some (by kernel_rfl))
  f20 := ⟨Tryz.f202.name, by decide, Tryz.func202.trans (congrArg some (by kernel_rfl))⟩
  f21 := ⟨Tryz.f203.name, by decide, Tryz.func203.trans (congrArg some (by kernel_rfl))⟩
  f22 := ⟨Tryz.f204.name, by decide, Tryz.func204.trans (congrArg some (by kernel_rfl))⟩
  f23 := ⟨Tryz.f205.name, by decide, Tryz.func205.trans (congrArg some (by kernel_rfl))⟩
  f24 := ⟨Tryz.f206.name, by decide, Tryz.func206.trans (congrArg some (by kernel_rfl))⟩
  f25 := ⟨Tryz.f207.name, by decide, Tryz.func207.trans (congrArg some (by kernel_rfl))⟩
  f26 := ⟨Tryz.f208.name, by decide, Tryz.func208.trans (congrArg some (by kernel_rfl))⟩
  f27 := ⟨Tryz.f209.name, by decide, Tryz.func209.trans (congrArg some (by kernel_rfl))⟩
  f28 := Tryz.func192.trans (congrArg some (by kernel_rfl))
  f29 := Tryz.func193.trans (congrArg some (by kernel_rfl))
  f46 := ⟨Tryz.f219.name, by decide, Tryz.func219.trans (congrArg some (by kernel_rfl))⟩
  f47 := Tryz.func212.trans (congrArg some (by kernel_rfl))
  f48 := Tryz.func213.trans (congrArg some (by kernel_rfl))
  f49 := ⟨Tryz.f220.name, by decide, Tryz.func220.trans (congrArg some (by kernel_rfl))⟩
  f50 := ⟨Tryz.f221.name, by decide, Tryz.func221.trans (congrArg some (by kernel_rfl))⟩
  f57 := ⟨Tryz.f223.name, by decide, Tryz.func223.trans (congrArg some (by kernel_rfl))⟩
  t0 := Tryz.underlying0
  a0 := Tryz.isAgg0
  z0 := Tryz.sizeOf0
  v0 := Tryz.zeroValue0
  t3 := Tryz.underlying3
  a3 := Tryz.isAgg3
  z3 := Tryz.sizeOf3
  v3 := Tryz.zeroValue3
  t4 := Tryz.underlying4
  a4 := Tryz.isAgg4
  z4 := Tryz.sizeOf4
  v4 := Tryz.zeroValue4
  t5 := Tryz.underlying5
  a5 := Tryz.isAgg5
  z5 := Tryz.sizeOf5
  v5 := Tryz.zeroValue5
  t9 := Tryz.underlying9
  a9 := Tryz.isAgg9
  z9 := Tryz.sizeOf9
  v9 := Tryz.zeroValue9
  t22 := Tryz.underlying78
  a22 := Tryz.isAgg78
  z22 := Tryz.sizeOf78
  v22 := Tryz.zeroValue78
  a24 := Tryz.isAgg121
  z24 := Tryz.sizeOf121
  t25 := Tryz.underlying184
  a25 := Tryz.isAgg184
  z25 := Tryz.sizeOf184
  v25 := Tryz.zeroValue184
  t39 := Tryz.underlying228
  a39 := Tryz.isAgg228
  z39 := Tryz.sizeOf228
  v39 := Tryz.zeroValue228
  t45 := Tryz.underlying248
  a45 := Tryz.isAgg248
  z45 := Tryz.sizeOf248
  v45 := Tryz.zeroValue248
  t46 := Tryz.underlying249
  a46 := Tryz.isAgg249
  z46 := Tryz.sizeOf249
  v46 := Tryz.zeroValue249
  t50 := Tryz.underlying159
  a50 := Tryz.isAgg159
  z50 := Tryz.sizeOf159
  v50 := Tryz.zeroValue159
  t53 := Tryz.underlying241
  a53 := Tryz.isAgg241
  z53 := Tryz.sizeOf241
  v53 := Tryz.zeroValue241
  t55 := Tryz.underlying165
  a55 := Tryz.isAgg165
  z55 := Tryz.sizeOf165
  v55 := Tryz.zeroValue165
  t66 := Tryz.underlying272
  a66 := Tryz.isAgg272
  z66 := Tryz.sizeOf272
  v66 := Tryz.zeroValue272
  t70 := Tryz.underlying276
  a70 := Tryz.isAgg276
  z70 := Tryz.sizeOf276
  v70 := Tryz.zeroValue276
  t76 := Tryz.underlying286
  a76 := Tryz.isAgg286
  z76 := Tryz.sizeOf286
  v76 := Tryz.zeroValue286
  t77 := Tryz.underlying287
  a77 := Tryz.isAgg287
  z77 := Tryz.sizeOf287
  v77 := Tryz.zeroValue287 }
def Tryz.laysBin242_ren : Go.Shelf.Ren := ⟨fun | 14 => 242 | n => n, fun | 22 => 22 | 24 => 9 | 29 => 9 | 32 => 123 | 3 => 3 | 4 => 4 | 35 => 228 | 0 => 0 | n => n, fun | n => n⟩
theorem Tryz.laysBin242 : Go.Proofs.SlLaysG2.n14 Tryz.prog Tryz.laysBin242_ren := {
  mixed := by kernel_rfl
  f14 := ⟨Tryz.f242.name, by decide, Tryz.func242.trans (congrArg some (by kernel_rfl))⟩
  t0 := Tryz.underlying0
  a0 := Tryz.isAgg0
  z0 := Tryz.sizeOf0
  v0 := Tryz.zeroValue0
  t3 := Tryz.underlying3
  a3 := Tryz.isAgg3
  z3 := Tryz.sizeOf3
  v3 := Tryz.zeroValue3
  t4 := Tryz.underlying4
  a4 := Tryz.isAgg4
  z4 := Tryz.sizeOf4
  v4 := Tryz.zeroValue4
  t22 := Tryz.underlying22
  a22 := Tryz.isAgg22
  z22 := Tryz.sizeOf22
  v22 := Tryz.zeroValue22
  a24 := Tryz.isAgg9
  z24 := Tryz.sizeOf9
  a29 := Tryz.isAgg9
  z29 := Tryz.sizeOf9
  t32 := Tryz.underlying123
  a32 := Tryz.isAgg123
  z32 := Tryz.sizeOf123
  v32 := Tryz.zeroValue123
  t35 := Tryz.underlying228
  a35 := Tryz.isAgg228
  z35 := Tryz.sizeOf228
  v35 := Tryz.zeroValue228 }
def Tryz.laysBin255_ren : Go.Shelf.Ren := ⟨fun | 14 => 255 | n => n, fun | 22 => 78 | 24 => 121 | 29 => 80 | 32 => 312 | 3 => 3 | 4 => 4 | 35 => 228 | 0 => 0 | n => n, fun | n => n⟩
theorem Tryz.laysBin255 : Go.Proofs.SlLaysG2.n14 Tryz.prog Tryz.laysBin255_ren := {
  mixed := by kernel_rfl
  f14 := ⟨Tryz.f255.name, by decide, Tryz.func255.trans (congrArg some (by kernel_rfl))⟩
  t0 := Tryz.underlying0
  a0 := Tryz.isAgg0
  z0 := Tryz.sizeOf0
  v0 := Tryz.zeroValue0
  t3 := Tryz.underlying3
  a3 := Tryz.isAgg3
  z3 := Tryz.sizeOf3
  v3 := Tryz.zeroValue3
  t4 := Tryz.underlying4
  a4 := Tryz.isAgg4
  z4 := Tryz.sizeOf4
  v4 := Tryz.zeroValue4
  t22 := Tryz.underlying78
  a22 := Tryz.isAgg78
  z22 := Tryz.sizeOf78
  v22 := Tryz.zeroValue78
  a24 := Tryz.isAgg121
  z24 := Tryz.sizeOf121
  a29 := Tryz.isAgg80
  z29 := Tryz.sizeOf80
  t32 := Tryz.underlying312
  a32 := Tryz.isAgg312
  z32 := Tryz.sizeOf312
  v32 := Tryz.zeroValue312
  t35 := Tryz.underlying228
  a35 := Tryz.isAgg228
  z35 := Tryz.sizeOf228
  v35 := Tryz.zeroValue228 }
def Tryz.laysCont49_ren : Go.Shelf.Ren := ⟨fun | 8 => 49 | 6 => 83 | n => n, fun | 22 => 22 | 23 => 9 | 25 => 24 | 4 => 4 | 3 => 3 | 0 => 0 | n => n, fun | n => n⟩
theorem Tryz.laysCont49 : Go.Proofs.SlLaysH.n8 Tryz.prog Tryz.laysCont49_ren := {
  mixed := by kernel_rfl
  f6 := ⟨Tryz.f83.name, by decide, Tryz.func83.trans (congrArg some (by kernel_rfl))⟩
  f8 := ⟨Tryz.f49.name, by decide, Tryz.func49.trans (congrArg some (by kernel_rfl))⟩
  t0 := Tryz.underlying0
  a0 := Tryz.isAgg0
  z0 := Tryz.sizeOf0
  v0 := Tryz.zeroValue0
  t3 := Tryz.underlying3
  a3 := Tryz.isAgg3
  z3 := Tryz.sizeOf3
  v3 := Tryz.zeroValue3
  t4 := Tryz.underlying4
  a4 := Tryz.isAgg4
  z4 := Tryz.sizeOf4
  v4 := Tryz.zeroValue4
  t22 := Tryz.underlying22
  a22 := Tryz.isAgg22
  z22 := Tryz.sizeOf22
  v22 := Tryz.zeroValue22
  a23 := Tryz.isAgg9
  z23 := Tryz.sizeOf9
  t25 := Tryz.underlying24
  a25 := Tryz.isAgg24
  z25 := Tryz.sizeOf24
  v25 := Tryz.zeroValue24 }
def Tryz.laysCont51_ren : Go.Shelf.Ren := ⟨fun | 8 => 51 | 6 => 84 | n => n, fun | 22 => 28 | 23 => 43 | 25 => 64 | 4 => 4 | 3 => 3 | 0 => 0 | n => n, fun | n => n⟩
theorem Tryz.laysCont51 : Go.Proofs.SlLaysH.n8 Tryz.prog Tryz.laysCont51_ren := {
  mixed := by kernel_rfl
  f6 := ⟨Tryz.f84.name, by decide, Tryz.func84.trans (congrArg some (by kernel_rfl))⟩
  f8 := ⟨Tryz.f51.name, by decide, Tryz.func51.trans (congrArg some (by kernel_rfl))⟩
  t0 := Tryz.underlying0
  a0 := Tryz.isAgg0
  z0 := Tryz.sizeOf0
  v0 := Tryz.zeroValue0
  t3 := Tryz.underlying3
  a3 := Tryz.isAgg3
  z3 := Tryz.sizeOf3
  v3 := Tryz.zeroValue3
  t4 := Tryz.underlying4
  a4 := Tryz.isAgg4
  z4 := Tryz.sizeOf4
  v4 := Tryz.zeroValue4
  t22 := Tryz.underlying28
  a22 := Tryz.isAgg28
  z22 := Tryz.sizeOf28
  v22 := Tryz.zeroValue28
  a23 := Tryz.isAgg43
  z23 := Tryz.sizeOf43
  t25 := Tryz.underlying64
  a25 := Tryz.isAgg64
  z25 := Tryz.sizeOf64
  v25 := Tryz.zeroValue64 }
def Tryz.laysCont81_ren : Go.Shelf.Ren := ⟨fun | 8 => 81 | 6 => 117 | n => n, fun | 22 => 108 | 23 => 3 | 25 => 110 | 4 => 4 | 3 => 3 | 0 => 0 | n => n, fun | n => n⟩
theorem Tryz.laysCont81 : Go.Proofs.SlLaysH.n8 Tryz.prog Tryz.laysCont81_ren := {
  mixed := by kernel_rfl
  f6 := ⟨Tryz.f117.name, by decide, Tryz.func117.trans (congrArg some (by kernel_rfl))⟩
  f8 := ⟨Tryz.f81.name, by decide, Tryz.func81.trans (congrArg some (by kernel_rfl))⟩
  t0 := Tryz.underlying0
  a0 := Tryz.isAgg0
  z0 := Tryz.sizeOf0
  v0 := Tryz.zeroValue0
  t3 := Tryz.underlying3
  a3 := Tryz.isAgg3
  z3 := Tryz.sizeOf3
  v3 := Tryz.zeroValue3
  t4 := Tryz.underlying4
  a4 := Tryz.isAgg4
  z4 := Tryz.sizeOf4
  v4 := Tryz.zeroValue4
  t22 := Tryz.underlying108
  a22 := Tryz.isAgg108
  z22 := Tryz.sizeOf108
  v22 := Tryz.zeroValue108
  a23 := Tryz.isAgg3
  z23 := Tryz.sizeOf3
  t25 := Tryz.underlying110
  a25 := Tryz.isAgg110
  z25 := Tryz.sizeOf110
  v25 := Tryz.zeroValue110 }
def Tryz.laysQ49_ren : Go.Shelf.Ren := ⟨fun | 8 => 49 | 6 => 83 | n => n, fun | 22 => 22 | 23 => 9 | 25 => 24 | 4 => 4 | 3 => 3 | 0 => 0 | n => n, fun | n => n⟩
theorem Tryz.laysQ49 : Go.Proofs.SlLaysH0.n8 Tryz.prog Tryz.laysQ49_ren := {
  mixed := by kernel_rfl
  f6 := ⟨Tryz.f83.name, by decide, Tryz.func83.trans (congrArg some (by kernel_rfl))⟩
  f8 := ⟨Tryz.f49.name, by decide, Tryz.func49.trans (congrArg some (by kernel_rfl))⟩
  t0 := Tryz.underlying0
  a0 := Tryz.isAgg0
  z0 := Tryz.sizeOf0
  v0 := Tryz.zeroValue0
  t3 := Tryz.underlying3
  a3 := Tryz.isAgg3
  z3 := Tryz.sizeOf3
  v3 := Tryz.zeroValue3
  t4 := Tryz.underlying4
  a4 := Tryz.isAgg4
  z4 := Tryz.sizeOf4
  v4 := Tryz.zeroValue4
  t22 := Tryz.underlying22
  a22 := Tryz.isAgg22
  z22 := Tryz.sizeOf22
  v22 := Tryz.zeroValue22
  t25 := Tryz.underlying24
  a25 := Tryz.isAgg24
  z25 := Tryz.sizeOf24
  v25 := Tryz.zeroValue24 }
def Tryz.laysQ51_ren : Go.Shelf.Ren := ⟨fun | 8 => 51 | 6 => 84 | n => n, fun | 22 => 28 | 23 => 43 | 25 => 64 | 4 => 4 | 3 => 3 | 0 => 0 | n => n, fun | n => n⟩
theorem Tryz.laysQ51 : Go.Proofs.SlLaysH0.n8 Tryz.prog Tryz.laysQ51_ren := {
  mixed := by kernel_rfl
  f6 := ⟨Tryz.f84.name, by decide, Tryz.func84.trans (congrArg some (by kernel_rfl))⟩
  f8 := ⟨Tryz.f51.name, by decide, Tryz.func51.trans (congrArg some (by kernel_rfl))⟩
  t0 := Tryz.underlying0
  a0 := Tryz.isAgg0
  z0 := Tryz.sizeOf0
  v0 := Tryz.zeroValue0
  t3 := Tryz.underlying3
  a3 := Tryz.isAgg3
  z3 := Tryz.sizeOf3
  v3 := Tryz.zeroValue3
  t4 := Tryz.underlying4
  a4 := Tryz.isAgg4
  z4 := Tryz.sizeOf4
  v4 := Tryz.zeroValue4
  t22 := Tryz.underlying28
  a22 := Tryz.isAgg28
  z22 := Tryz.sizeOf28
  v22 := Tryz.zeroValue28
  t25 := Tryz.underlying64
  a25 := Tryz.isAgg64
  z25 := Tryz.sizeOf64
  v25 := Tryz.zeroValue64 }
def Tryz.laysQ81_ren : Go.Shelf.Ren := ⟨fun | 8 => 81 | 6 => 117 | n => n, fun | 22 => 108 | 23 => 3 | 25 => 110 | 4 => 4 | 3 => 3 | 0 => 0 | n => n, fun | n => n⟩
theorem Tryz.laysQ81 : Go.Proofs.SlLaysH0.n8 Tryz.prog Tryz.laysQ81_ren := {
  mixed := by kernel_rfl
  f6 := ⟨Tryz.f117.name, by decide, Tryz.func117.trans (congrArg some (by kernel_rfl))⟩
  f8 := ⟨Tryz.f81.name, by decide, Tryz.func81.trans (congrArg some (by kernel_rfl))⟩
  t0 := Tryz.underlying0
  a0 := Tryz.isAgg0
  z0 := Tryz.sizeOf0
  v0 := Tryz.zeroValue0
  t3 := Tryz.underlying3
  a3 := Tryz.isAgg3
  z3 := Tryz.sizeOf3
  v3 := Tryz.zeroValue3
  t4 := Tryz.underlying4
  a4 := Tryz.isAgg4
  z4 := Tryz.sizeOf4
  v4 := Tryz.zeroValue4
  t22 := Tryz.underlying108
  a22 := Tryz.isAgg108
  z22 := Tryz.sizeOf108
  v22 := Tryz.zeroValue108
  t25 := Tryz.underlying110
  a25 := Tryz.isAgg110
  z25 := Tryz.sizeOf110
  v25 := Tryz.zeroValue110 }
def Tryz.laysQ78_ren : Go.Shelf.Ren := ⟨fun | 8 => 78 | 6 => 114 | n => n, fun | 22 => 25 | 23 => 72 | 25 => 76 | 4 => 4 | 3 => 3 | 0 => 0 | n => n, fun | n => n⟩
theorem Tryz.laysQ78 : Go.Proofs.SlLaysH0.n8 Tryz.prog Tryz.laysQ78_ren := {
  mixed := by kernel_rfl
  f6 := ⟨Tryz.f114.name, by decide, Tryz.func114.trans (congrArg some (by kernel_rfl))⟩
  f8 := ⟨Tryz.f78.name, by decide, Tryz.func78.trans (congrArg some (by kernel_rfl))⟩
  t0 := Tryz.underlying0
  a0 := Tryz.isAgg0
  z0 := Tryz.sizeOf0
  v0 := Tryz.zeroValue0
  t3 := Tryz.underlying3
  a3 := Tryz.isAgg3
  z3 := Tryz.sizeOf3
  v3 := Tryz.zeroValue3
  t4 := Tryz.underlying4
  a4 := Tryz.isAgg4
  z4 := Tryz.sizeOf4
  v4 := Tryz.zeroValue4
  t22 := Tryz.underlying25
  a22 := Tryz.isAgg25
  z22 := Tryz.sizeOf25
  v22 := Tryz.zeroValue25
  t25 := Tryz.underlying76
  a25 := Tryz.isAgg76
  z25 := Tryz.sizeOf76
  v25 := Tryz.zeroValue76 }
def Tryz.laysQ25_ren : Go.Shelf.Ren := ⟨fun | 8 => 25 | 6 => 58 | n => n, fun | 22 => 37 | 23 => 30 | 25 => 34 | 4 => 4 | 3 => 3 | 0 => 0 | n => n, fun | n => n⟩
theorem Tryz.laysQ25 : Go.Proofs.SlLaysH0.n8 Tryz.prog Tryz.laysQ25_ren := {
  mixed := by kernel_rfl
  f6 := ⟨Tryz.f58.name, by decide, Tryz.func58.trans (congrArg some (by kernel_rfl))⟩
  f8 := ⟨Tryz.f25.name, by decide, Tryz.func25.trans (congrArg some (by kernel_rfl))⟩
  t0 := Tryz.underlying0
  a0 := Tryz.isAgg0
  z0 := Tryz.sizeOf0
  v0 := Tryz.zeroValue0
  t3 := Tryz.underlying3
  a3 := Tryz.isAgg3
  z3 := Tryz.sizeOf3
  v3 := Tryz.zeroValue3
  t4 := Tryz.underlying4
  a4 := Tryz.isAgg4
  z4 := Tryz.sizeOf4
  v4 := Tryz.zeroValue4
  t22 := Tryz.underlying37
  a22 := Tryz.isAgg37
  z22 := Tryz.sizeOf37
  v22 := Tryz.zeroValue37
  t25 := Tryz.underlying34
  a25 := Tryz.isAgg34
  z25 := Tryz.sizeOf34
  v25 := Tryz.zeroValue34 }
def Tryz.laysClone60_ren : Go.Shelf.Ren := ⟨fun | 41 => 60 | n => n, fun | 22 => 25 | 23 => 72 | 4 => 4 | n => n, fun | n => n⟩
theorem Tryz.laysClone60 : Go.Proofs.SlLaysE0.n41 Tryz.prog Tryz.laysClone60_ren := {
  mixed := by kernel_rfl
  f41 := ⟨Tryz.f60.name, by decide, Tryz.func60.trans (congrArg some (by kernel_rfl))⟩
  t4 := Tryz.underlying4
  a4 := Tryz.isAgg4
  z4 := Tryz.sizeOf4
  v4 := Tryz.zeroValue4
  t22 := Tryz.underlying25
  a22 := Tryz.isAgg25
  z22 := Tryz.sizeOf25
  v22 := Tryz.zeroValue25 }
def Tryz.laysClone35_ren : Go.Shelf.Ren := ⟨fun | 41 => 35 | n => n, fun | 22 => 37 | 23 => 30 | 4 => 4 | n => n, fun | n => n⟩
theorem Tryz.laysClone35 : Go.Proofs.SlLaysE0.n41 Tryz.prog Tryz.laysClone35_ren := {
  mixed := by kernel_rfl
  f41 := ⟨Tryz.f35.name, by decide, Tryz.func35.trans (congrArg some (by kernel_rfl))⟩
  t4 := Tryz.underlying4
  a4 := Tryz.isAgg4
  z4 := Tryz.sizeOf4
  v4 := Tryz.zeroValue4
  t22 := Tryz.underlying37
  a22 := Tryz.isAgg37
  z22 := Tryz.sizeOf37
  v22 := Tryz.zeroValue37 }
def Tryz.laysRev61_ren : Go.Shelf.Ren := ⟨fun | 35 => 61 | n => n, fun | 22 => 25 | 23 => 72 | 3 => 3 | 4 => 4 | 0 => 0 | n => n, fun | n => n⟩
theorem Tryz.laysRev61 : Go.Proofs.SlLaysE0.n35 Tryz.prog Tryz.laysRev61_ren := {
  mixed := by kernel_rfl
  f35 := ⟨Tryz.f61.name, by decide, Tryz.func61.trans (congrArg some (by kernel_rfl))⟩
  t0 := Tryz.underlying0
  a0 := Tryz.isAgg0
  z0 := Tryz.sizeOf0
  v0 := Tryz.zeroValue0
  t3 := Tryz.underlying3
  a3 := Tryz.isAgg3
  z3 := Tryz.sizeOf3
  v3 := Tryz.zeroValue3
  t4 := Tryz.underlying4
  a4 := Tryz.isAgg4
  z4 := Tryz.sizeOf4
  v4 := Tryz.zeroValue4
  t22 := Tryz.underlying25
  a22 := Tryz.isAgg25
  z22 := Tryz.sizeOf25
  v22 := Tryz.zeroValue25 }
def Tryz.laysRev136_ren : Go.Shelf.Ren := ⟨fun | 35 => 136 | n => n, fun | 22 => 37 | 23 => 30 | 3 => 3 | 4 => 4 | 0 => 0 | n => n, fun | n => n⟩
theorem Tryz.laysRev136 : Go.Proofs.SlLaysE0.n35 Tryz.prog Tryz.laysRev136_ren := {
  mixed := by kernel_rfl
  f35 := ⟨Tryz.f136.name, by decide, Tryz.func136.trans (congrArg some (by kernel_rfl))⟩
  t0 := Tryz.underlying0
  a0 := Tryz.isAgg0
  z0 := Tryz.sizeOf0
  v0 := Tryz.zeroValue0
  t3 := Tryz.underlying3
  a3 := Tryz.isAgg3
  z3 := Tryz.sizeOf3
  v3 := Tryz.zeroValue3
  t4 := Tryz.underlying4
  a4 := Tryz.isAgg4
  z4 := Tryz.sizeOf4
  v4 := Tryz.zeroValue4
  t22 := Tryz.underlying37
  a22 := Tryz.isAgg37
  z22 := Tryz.sizeOf37
  v22 := Tryz.zeroValue37 }
end Go.Proofs
