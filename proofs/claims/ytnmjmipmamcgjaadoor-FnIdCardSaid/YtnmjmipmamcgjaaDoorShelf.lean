/-
  DERIVED: THE SHELF's CONTRACTS AT THIS DUMP, IN PLAIN WORDS (tools/lay-plain.mjs out of 'TrydShelf.lean', which tools/lay-shelf.mjs wrote): THE SAME DECLARATIONS UNDER THE SAME NAMES: 'import', 'namespace', 'open', 'def', 'theorem' AND NOTHING ELSE: no command of the shelf's: FOR A HAND-IN. Each laying: the table of numbers ('.._ren') and one theorem, a field a fact of the dump's own or the kernel's comparison; each contract: ONE APPLICATION.
-/
import Derived.Shelf.Unicode.Props
import Derived.Shelf.Unicode.Decode
import Derived.Shelf.Unicode.DecodeSlow
import Derived.Shelf.Unicode.DecodeAny
import Derived.Shelf.Unicode.Is16White
import Derived.Shelf.Unicode.IsSpaceAny
import Derived.Shelf.Unicode.Is16Any
import Derived.Shelf.Unicode.Is32Any
import Derived.Shelf.Unicode.ExclAny
import Derived.Shelf.Unicode.PredsAny
import Derived.Shelf.Unicode.PredsPay
import Derived.Test.YtnmjmipmamcgjaaDoorProg
namespace Go.Proofs
open Go.Shelf
def Tryd.lays201_ren : Go.Shelf.Ren := ⟨fun | 201 => 15 | 261 => 17 | 311 => 18 | 312 => 19 | n => n, fun | 21 => 21 | 4 => 4 | 51 => 38 | 5 => 5 | 119 => 39 | 0 => 0 | 141 => 41 | 196 => 49 | 193 => 46 | 3 => 3 | 198 => 52 | 49 => 50 | 194 => 47 | 201 => 55 | 226 => 57 | 46 => 42 | 227 => 58 | n => n, fun | 7 => 0 | 9 => 1 | n => n⟩
theorem Tryd.lays201 : Go.Proofs.Lays.n201 Tryd.prog Tryd.lays201_ren := {
  mixed := by kernel_rfl
  f201 := Tryd.func15.trans (congrArg some (by kernel_rfl))
  f261 := Tryd.func17.trans (congrArg some (by kernel_rfl))
  f311 := Tryd.func18.trans (congrArg some (by kernel_rfl))
  f312 := Tryd.func19.trans (congrArg some (by kernel_rfl))
  t0 := Tryd.underlying0
  a0 := Tryd.isAgg0
  z0 := Tryd.sizeOf0
  v0 := Tryd.zeroValue0
  t3 := Tryd.underlying3
  a3 := Tryd.isAgg3
  z3 := Tryd.sizeOf3
  v3 := Tryd.zeroValue3
  t4 := Tryd.underlying4
  a4 := Tryd.isAgg4
  z4 := Tryd.sizeOf4
  v4 := Tryd.zeroValue4
  t5 := Tryd.underlying5
  a5 := Tryd.isAgg5
  z5 := Tryd.sizeOf5
  v5 := Tryd.zeroValue5
  t21 := Tryd.underlying21
  a21 := Tryd.isAgg21
  z21 := Tryd.sizeOf21
  v21 := Tryd.zeroValue21
  t46 := Tryd.underlying42
  a46 := Tryd.isAgg42
  z46 := Tryd.sizeOf42
  v46 := Tryd.zeroValue42
  t49 := Tryd.underlying50
  a49 := Tryd.isAgg50
  z49 := Tryd.sizeOf50
  v49 := Tryd.zeroValue50
  t51 := Tryd.underlying38
  a51 := Tryd.isAgg38
  z51 := Tryd.sizeOf38
  v51 := Tryd.zeroValue38
  t119 := Tryd.underlying39
  a119 := Tryd.isAgg39
  z119 := Tryd.sizeOf39
  t141 := Tryd.underlying41
  a141 := Tryd.isAgg41
  z141 := Tryd.sizeOf41
  v141 := Tryd.zeroValue41
  t193 := Tryd.underlying46
  a193 := Tryd.isAgg46
  z193 := Tryd.sizeOf46
  v193 := Tryd.zeroValue46
  t194 := Tryd.underlying47
  a194 := Tryd.isAgg47
  z194 := Tryd.sizeOf47
  v194 := Tryd.zeroValue47
  t196 := Tryd.underlying49
  a196 := Tryd.isAgg49
  z196 := Tryd.sizeOf49
  v196 := Tryd.zeroValue49
  t198 := Tryd.underlying52
  a198 := Tryd.isAgg52
  z198 := Tryd.sizeOf52
  v198 := Tryd.zeroValue52
  t201 := Tryd.underlying55
  a201 := Tryd.isAgg55
  z201 := Tryd.sizeOf55
  v201 := Tryd.zeroValue55
  t226 := Tryd.underlying57
  a226 := Tryd.isAgg57
  z226 := Tryd.sizeOf57
  v226 := Tryd.zeroValue57
  t227 := Tryd.underlying58
  a227 := Tryd.isAgg58
  z227 := Tryd.sizeOf58
  v227 := Tryd.zeroValue58
  g7 := by kernel_rfl
  g9 := by kernel_rfl }
open Go.RowKit Go.Lib in
theorem Tryd.unicode_IsUpper (c : Nat) (w : World) (hc : c < 256) (htab : Lib.TabIs Tryd.prog w "unicode.properties" .u8 Lib.propertiesTab) :
    Calls Tryd.prog 15 #[.int .i32 c] w fun e w' => e = .returned (.bool (Lib.isUpperL c)) ∧ w' = w := Any.unicode_IsUpper Tryd.lays201 (by kernel_rfl) c w hc htab
def Tryd.lays197_ren : Go.Shelf.Ren := ⟨fun | 197 => 14 | 260 => 16 | n => n, fun | 9 => 9 | 21 => 21 | 3 => 3 | 4 => 4 | 5 => 5 | 105 => 35 | 119 => 39 | 0 => 0 | 46 => 42 | 139 => 45 | 138 => 44 | n => n, fun | 3 => 2 | 4 => 3 | n => n⟩
theorem Tryd.lays197 : Go.Proofs.Lays.n197 Tryd.prog Tryd.lays197_ren := {
  mixed := by kernel_rfl
  f197 := Tryd.func14.trans (congrArg some (by kernel_rfl))
  f260 := Tryd.func16.trans (congrArg some (by kernel_rfl))
  t0 := Tryd.underlying0
  a0 := Tryd.isAgg0
  z0 := Tryd.sizeOf0
  v0 := Tryd.zeroValue0
  t3 := Tryd.underlying3
  a3 := Tryd.isAgg3
  z3 := Tryd.sizeOf3
  v3 := Tryd.zeroValue3
  t4 := Tryd.underlying4
  a4 := Tryd.isAgg4
  z4 := Tryd.sizeOf4
  v4 := Tryd.zeroValue4
  t5 := Tryd.underlying5
  a5 := Tryd.isAgg5
  z5 := Tryd.sizeOf5
  v5 := Tryd.zeroValue5
  t9 := Tryd.underlying9
  a9 := Tryd.isAgg9
  z9 := Tryd.sizeOf9
  v9 := Tryd.zeroValue9
  t21 := Tryd.underlying21
  a21 := Tryd.isAgg21
  z21 := Tryd.sizeOf21
  v21 := Tryd.zeroValue21
  t46 := Tryd.underlying42
  a46 := Tryd.isAgg42
  z46 := Tryd.sizeOf42
  v46 := Tryd.zeroValue42
  t105 := Tryd.underlying35
  a105 := Tryd.isAgg35
  z105 := Tryd.sizeOf35
  v105 := Tryd.zeroValue35
  t119 := Tryd.underlying39
  a119 := Tryd.isAgg39
  z119 := Tryd.sizeOf39
  t138 := Tryd.underlying44
  a138 := Tryd.isAgg44
  z138 := Tryd.sizeOf44
  v138 := Tryd.zeroValue44
  t139 := Tryd.underlying45
  a139 := Tryd.isAgg45
  z139 := Tryd.sizeOf45
  v139 := Tryd.zeroValue45
  g3 := by kernel_rfl
  g4 := by kernel_rfl }
open Go.RowKit Go.Lib in
/-- unicode/utf8.DecodeRuneInString: "DecodeRuneInString is like DecodeRune but its input is a string.": ("DecodeRune unpacks the first UTF-8 encoding in p and returns the rune and its width in bytes."): WHERE s BEGINS WITH AN ASCII BYTE x: (x, 1). (LAID: no walk: one application.) -/
theorem Tryd.utf8_DecodeRuneInString_ascii (s : ByteArray) (x : UInt8) (w : World) (h0 : s.data.toList[0]? = some x) (hx : x.toNat < 128) :
    Calls Tryd.prog 14 #[.string s] w fun e w' => e = .returned (.tuple #[.int .i32 x.toNat, .int .i64 1]) ∧ w' = w := Any.utf8_DecodeRuneInString_ascii Tryd.lays197 s x w h0 hx
def Tryd.lays260_ren : Go.Shelf.Ren := ⟨fun | 260 => 16 | n => n, fun | 9 => 9 | 21 => 21 | 3 => 3 | 4 => 4 | 5 => 5 | 119 => 39 | 0 => 0 | 46 => 42 | 139 => 45 | 138 => 44 | n => n, fun | 3 => 2 | 4 => 3 | n => n⟩
theorem Tryd.lays260 : Go.Proofs.Lays.n260 Tryd.prog Tryd.lays260_ren := {
  mixed := by kernel_rfl
  f260 := Tryd.func16.trans (congrArg some (by kernel_rfl))
  t0 := Tryd.underlying0
  a0 := Tryd.isAgg0
  z0 := Tryd.sizeOf0
  v0 := Tryd.zeroValue0
  t3 := Tryd.underlying3
  a3 := Tryd.isAgg3
  z3 := Tryd.sizeOf3
  v3 := Tryd.zeroValue3
  t4 := Tryd.underlying4
  a4 := Tryd.isAgg4
  z4 := Tryd.sizeOf4
  v4 := Tryd.zeroValue4
  t5 := Tryd.underlying5
  a5 := Tryd.isAgg5
  z5 := Tryd.sizeOf5
  v5 := Tryd.zeroValue5
  t9 := Tryd.underlying9
  a9 := Tryd.isAgg9
  z9 := Tryd.sizeOf9
  v9 := Tryd.zeroValue9
  t21 := Tryd.underlying21
  a21 := Tryd.isAgg21
  z21 := Tryd.sizeOf21
  v21 := Tryd.zeroValue21
  t46 := Tryd.underlying42
  a46 := Tryd.isAgg42
  z46 := Tryd.sizeOf42
  v46 := Tryd.zeroValue42
  t119 := Tryd.underlying39
  a119 := Tryd.isAgg39
  z119 := Tryd.sizeOf39
  t138 := Tryd.underlying44
  a138 := Tryd.isAgg44
  z138 := Tryd.sizeOf44
  v138 := Tryd.zeroValue44
  t139 := Tryd.underlying45
  a139 := Tryd.isAgg45
  z139 := Tryd.sizeOf45
  v139 := Tryd.zeroValue45
  g3 := by kernel_rfl
  g4 := by kernel_rfl }
open Go.RowKit Go.Lib in
theorem Tryd.utf8_decodeRuneInStringSlow (s : ByteArray) (w : World) (hT : Lib.Utf8Tabs 2 3 w) :
    Calls Tryd.prog 16 #[.string s] w fun e w' => e = .returned (.tuple #[.int .i32 (Lib.decodeGo s).1, .int .i64 (Lib.decodeGo s).2]) ∧ Below w.heap.size w w' := Any.utf8_decodeRuneInStringSlow Tryd.lays260 s w hT
open Go.RowKit Go.Lib in
/-- **unicode/utf8.DecodeRuneInString AT EVERY STRING.** (LAID: no walk: one application.) -/
theorem Tryd.utf8_DecodeRuneInString (s : ByteArray) (w : World) (hT : Lib.Utf8Tabs 2 3 w) :
    Calls Tryd.prog 14 #[.string s] w fun e w' => e = .returned (.tuple #[.int .i32 (Lib.decodeGo s).1, .int .i64 (Lib.decodeGo s).2]) ∧ Below w.heap.size w w' := Any.utf8_DecodeRuneInString Tryd.lays197 s w hT
def Tryd.lays311_ren : Go.Shelf.Ren := ⟨fun | 311 => 18 | n => n, fun | 193 => 46 | 49 => 50 | 4 => 4 | 3 => 3 | 0 => 0 | 226 => 57 | 198 => 52 | 46 => 42 | n => n, fun | n => n⟩
theorem Tryd.lays311 : Go.Proofs.Lays.n311 Tryd.prog Tryd.lays311_ren := {
  mixed := by kernel_rfl
  f311 := Tryd.func18.trans (congrArg some (by kernel_rfl))
  t0 := Tryd.underlying0
  a0 := Tryd.isAgg0
  z0 := Tryd.sizeOf0
  v0 := Tryd.zeroValue0
  t3 := Tryd.underlying3
  a3 := Tryd.isAgg3
  z3 := Tryd.sizeOf3
  v3 := Tryd.zeroValue3
  t4 := Tryd.underlying4
  a4 := Tryd.isAgg4
  z4 := Tryd.sizeOf4
  v4 := Tryd.zeroValue4
  t46 := Tryd.underlying42
  a46 := Tryd.isAgg42
  z46 := Tryd.sizeOf42
  v46 := Tryd.zeroValue42
  t49 := Tryd.underlying50
  a49 := Tryd.isAgg50
  z49 := Tryd.sizeOf50
  v49 := Tryd.zeroValue50
  t193 := Tryd.underlying46
  a193 := Tryd.isAgg46
  z193 := Tryd.sizeOf46
  v193 := Tryd.zeroValue46
  t198 := Tryd.underlying52
  a198 := Tryd.isAgg52
  z198 := Tryd.sizeOf52
  v198 := Tryd.zeroValue52
  t226 := Tryd.underlying57
  a226 := Tryd.isAgg57
  z226 := Tryd.sizeOf57
  v226 := Tryd.zeroValue57 }
open Go.RowKit Go.Lib in
theorem Tryd.unicode_is16_white (R oR : Nat) (z : Nat) (w : World) (hz : z < 65536) (hz0 : 255 < z) (c6 : w.cell? ⟨R, oR + 6, none⟩ = some (.int .u16 160)) (c7 : w.cell? ⟨R, oR + 7, none⟩ = some (.int .u16 5760)) (c8 : w.cell? ⟨R, oR + 8, none⟩ = some (.int .u16 5600)) (c9 : w.cell? ⟨R, oR + 9, none⟩ = some (.int .u16 8192)) (c10 : w.cell? ⟨R, oR + 10, none⟩ = some (.int .u16 8202)) (c11 : w.cell? ⟨R, oR + 11, none⟩ = some (.int .u16 1)) (c12 : w.cell? ⟨R, oR + 12, none⟩ = some (.int .u16 8232)) (c13 : w.cell? ⟨R, oR + 13, none⟩ = some (.int .u16 8233)) (c14 : w.cell? ⟨R, oR + 14, none⟩ = some (.int .u16 1)) (c15 : w.cell? ⟨R, oR + 15, none⟩ = some (.int .u16 8239)) (c16 : w.cell? ⟨R, oR + 16, none⟩ = some (.int .u16 8287)) (c17 : w.cell? ⟨R, oR + 17, none⟩ = some (.int .u16 48)) (c18 : w.cell? ⟨R, oR + 18, none⟩ = some (.int .u16 12288)) (c19 : w.cell? ⟨R, oR + 19, none⟩ = some (.int .u16 12288)) (c20 : w.cell? ⟨R, oR + 20, none⟩ = some (.int .u16 1)) :
    Calls Tryd.prog 18 #[.slice (some ⟨R, oR + 6, none⟩) 5 5, .int .u16 z] w fun e w' => e = .returned (.bool (Lib.isSpaceR z)) ∧ Below w.heap.size w w' := Any.unicode_is16_white Tryd.lays311 R oR z w hz hz0 c6 c7 c8 c9 c10 c11 c12 c13 c14 c15 c16 c17 c18 c19 c20
def Tryd.lays261_ren : Go.Shelf.Ren := ⟨fun | 261 => 17 | 311 => 18 | 312 => 19 | n => n, fun | 141 => 41 | 21 => 21 | 4 => 4 | 0 => 0 | 196 => 49 | 193 => 46 | 3 => 3 | 51 => 38 | 198 => 52 | 49 => 50 | 194 => 47 | 201 => 55 | 226 => 57 | 46 => 42 | 227 => 58 | n => n, fun | n => n⟩
theorem Tryd.lays261 : Go.Proofs.Lays.n261 Tryd.prog Tryd.lays261_ren := {
  mixed := by kernel_rfl
  f261 := Tryd.func17.trans (congrArg some (by kernel_rfl))
  f311 := Tryd.func18.trans (congrArg some (by kernel_rfl))
  f312 := Tryd.func19.trans (congrArg some (by kernel_rfl))
  t0 := Tryd.underlying0
  a0 := Tryd.isAgg0
  z0 := Tryd.sizeOf0
  v0 := Tryd.zeroValue0
  t3 := Tryd.underlying3
  a3 := Tryd.isAgg3
  z3 := Tryd.sizeOf3
  v3 := Tryd.zeroValue3
  t4 := Tryd.underlying4
  a4 := Tryd.isAgg4
  z4 := Tryd.sizeOf4
  v4 := Tryd.zeroValue4
  t21 := Tryd.underlying21
  a21 := Tryd.isAgg21
  z21 := Tryd.sizeOf21
  v21 := Tryd.zeroValue21
  t46 := Tryd.underlying42
  a46 := Tryd.isAgg42
  z46 := Tryd.sizeOf42
  v46 := Tryd.zeroValue42
  t49 := Tryd.underlying50
  a49 := Tryd.isAgg50
  z49 := Tryd.sizeOf50
  v49 := Tryd.zeroValue50
  t51 := Tryd.underlying38
  a51 := Tryd.isAgg38
  z51 := Tryd.sizeOf38
  v51 := Tryd.zeroValue38
  t141 := Tryd.underlying41
  a141 := Tryd.isAgg41
  z141 := Tryd.sizeOf41
  v141 := Tryd.zeroValue41
  t193 := Tryd.underlying46
  a193 := Tryd.isAgg46
  z193 := Tryd.sizeOf46
  v193 := Tryd.zeroValue46
  t194 := Tryd.underlying47
  a194 := Tryd.isAgg47
  z194 := Tryd.sizeOf47
  v194 := Tryd.zeroValue47
  t196 := Tryd.underlying49
  a196 := Tryd.isAgg49
  z196 := Tryd.sizeOf49
  v196 := Tryd.zeroValue49
  t198 := Tryd.underlying52
  a198 := Tryd.isAgg52
  z198 := Tryd.sizeOf52
  v198 := Tryd.zeroValue52
  t201 := Tryd.underlying55
  a201 := Tryd.isAgg55
  z201 := Tryd.sizeOf55
  v201 := Tryd.zeroValue55
  t226 := Tryd.underlying57
  a226 := Tryd.isAgg57
  z226 := Tryd.sizeOf57
  v226 := Tryd.zeroValue57
  t227 := Tryd.underlying58
  a227 := Tryd.isAgg58
  z227 := Tryd.sizeOf58
  v227 := Tryd.zeroValue58 }
open Go.RowKit Go.Lib in
/-- unicode.isExcludingLatin(White_Space, r), r beyond U+00FF or negative. (LAID: no walk: one application.) -/
theorem Tryd.unicode_isExcludingLatin_white (T oT R oR : Nat) (r : Int) (w : World) (hlo : -2147483648 ≤ r) (hhi : r ≤ 2147483647) (hr : r < 0 ∨ 255 < r) (h2 : w.cell? ⟨T, oT, none⟩ = some (.slice (some ⟨R, oR, none⟩) 7 7)) (h3 : w.cell? ⟨T, oT + 1, none⟩ = some (.slice none 0 0)) (h4 : w.cell? ⟨T, oT + 2, none⟩ = some (.int .i64 2)) (h5 : ∀ i, i < 21 → w.cell? ⟨R, oR + i, none⟩ = some (.int .u16 (whiteT.getD i 0))) :
    Calls Tryd.prog 17 #[.pointer (some ⟨T, oT, none⟩), .int .i32 r] w fun e w' => e = .returned (.bool (Lib.isSpaceZ r)) ∧ Below w.heap.size w w' := Any.unicode_isExcludingLatin_white Tryd.lays261 T oT R oR r w hlo hhi hr h2 h3 h4 h5
open Go.RowKit Go.Lib in
theorem Tryd.unicode_is16_any (T : Array Rg) (R oR cap : Nat) (z : Nat) (w : World) (hz : z < 65536) (hT : RgTab .u16 R oR T w) (hok : RgOk 65536 T) (hn : T.size ≤ 1000000000) :
    Calls Tryd.prog 18 #[.slice (some ⟨R, oR, none⟩) T.size cap, .int .u16 z] w fun e w' => e = .returned (.bool (is16Go T z)) ∧ ∃ q, w' = w.drewN q := Any.unicode_is16_any Tryd.lays311 T R oR cap z w hz hT hok hn
def Tryd.lays312_ren : Go.Shelf.Ren := ⟨fun | 312 => 19 | n => n, fun | 194 => 47 | 51 => 38 | 4 => 4 | 3 => 3 | 0 => 0 | 227 => 58 | 201 => 55 | 46 => 42 | n => n, fun | n => n⟩
theorem Tryd.lays312 : Go.Proofs.Lays.n312 Tryd.prog Tryd.lays312_ren := {
  mixed := by kernel_rfl
  f312 := Tryd.func19.trans (congrArg some (by kernel_rfl))
  t0 := Tryd.underlying0
  a0 := Tryd.isAgg0
  z0 := Tryd.sizeOf0
  v0 := Tryd.zeroValue0
  t3 := Tryd.underlying3
  a3 := Tryd.isAgg3
  z3 := Tryd.sizeOf3
  v3 := Tryd.zeroValue3
  t4 := Tryd.underlying4
  a4 := Tryd.isAgg4
  z4 := Tryd.sizeOf4
  v4 := Tryd.zeroValue4
  t46 := Tryd.underlying42
  a46 := Tryd.isAgg42
  z46 := Tryd.sizeOf42
  v46 := Tryd.zeroValue42
  t51 := Tryd.underlying38
  a51 := Tryd.isAgg38
  z51 := Tryd.sizeOf38
  v51 := Tryd.zeroValue38
  t194 := Tryd.underlying47
  a194 := Tryd.isAgg47
  z194 := Tryd.sizeOf47
  v194 := Tryd.zeroValue47
  t201 := Tryd.underlying55
  a201 := Tryd.isAgg55
  z201 := Tryd.sizeOf55
  v201 := Tryd.zeroValue55
  t227 := Tryd.underlying58
  a227 := Tryd.isAgg58
  z227 := Tryd.sizeOf58
  v227 := Tryd.zeroValue58 }
open Go.RowKit Go.Lib in
theorem Tryd.unicode_is32_any (T : Array Rg) (R oR cap : Nat) (z : Nat) (w : World) (hz : z < 4294967296) (hT : RgTab .u32 R oR T w) (hok : RgOk 4294967296 T) (hn : T.size ≤ 1000000000) :
    Calls Tryd.prog 19 #[.slice (some ⟨R, oR, none⟩) T.size cap, .int .u32 z] w fun e w' => e = .returned (.bool (is32Go T z)) ∧ Below w.heap.size w w' := Any.unicode_is32_any Tryd.lays312 T R oR cap z w hz hT hok hn
open Go.RowKit Go.Lib in
theorem Tryd.unicode_isExcludingLatin_any (Tb oT : Nat) (T : RTab) (r : Int) (w : World) (hlo : -2147483648 ≤ r) (hhi : r ≤ 2147483647) (hA : RTabAt Tb oT T w) (hok : RTabOk T) :
    Calls Tryd.prog 17 #[.pointer (some ⟨Tb, oT, none⟩), .int .i32 r] w fun e w' => e = .returned (.bool (exclGo T r)) ∧ Below w.heap.size w w' := Any.unicode_isExcludingLatin_any Tryd.lays261 Tb oT T r w hlo hhi hA hok
open Go.RowKit Go.Lib in
/-- unicode.IsUpper(r) AT EVERY int32, over whatever table the variable unicode.Upper leads to. (LAID: no walk: one application.) -/
theorem Tryd.unicode_IsUpper_any (T : RTab) (r : Int) (w : World) (hlo : -2147483648 ≤ r) (hhi : r ≤ 2147483647) (htab : Lib.TabIs Tryd.prog w "unicode.properties" .u8 Lib.propertiesTab) (hV : RVar 1 T w) (hok : RTabOk T) :
    Calls Tryd.prog 15 #[.int .i32 r] w fun e w' => e = .returned (.bool (if latin1 r then isUpperL r else exclGo T r)) ∧ Below w.heap.size w w' := Any.unicode_IsUpper_any Tryd.lays201 (by kernel_rfl) T r w hlo hhi htab hV hok
open Go.RowKit Go.Lib in
/-- unicode.IsUpper(r) AT EVERY int32, the tables as their initialisers lay them: 'Lib.isUpperU r'. (LAID: no walk: one application.) -/
theorem Tryd.unicode_IsUpper_all (r : Int) (w : World) (hlo : -2147483648 ≤ r) (hhi : r ≤ 2147483647) (htab : Lib.TabIs Tryd.prog w "unicode.properties" .u8 Lib.propertiesTab) (hV : RVar 1 upperT w) :
    Calls Tryd.prog 15 #[.int .i32 r] w fun e w' => e = .returned (.bool (isUpperU r)) ∧ Below w.heap.size w w' := Any.unicode_IsUpper_all Tryd.lays201 (by kernel_rfl) r w hlo hhi htab hV
end Go.Proofs
