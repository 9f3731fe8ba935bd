import Derived.Shelf.Small.Bits
import Derived.Shelf.Small.Strs
import Derived.Shelf.Strconv.Itoa0
import Derived.Shelf.Unicode.Props
import Derived.Shelf.Unicode.DecodeSlow
import Derived.Shelf.Unicode.DecodeAny
import Derived.Shelf.Unicode.Is16White
import Derived.Shelf.Unicode.IsSpaceAny
import Derived.Shelf.Unicode.Is16Any
import Derived.Shelf.Unicode.Is32Any
import Derived.Shelf.Unicode.ExclAny
import Derived.Shelf.Unicode.PredsAny
import Derived.Shelf.Unicode.PredsPay
import Derived.Test.YtmfhclggkjjcdaaGreatDoorProg
import Derived.Shelf.SlGeneric
import Derived.Shelf.SlSortCmp.Whole1
import Derived.Shelf.SlSortCmp.NoneTotal
import Derived.Ground.SlsfProg
import Derived.WalkKit
import Derived.WalkSpells
import Derived.WalkLawsBesides
set_option linter.all false
namespace Go.Proofs
open Go.Shelf
def Tryz.lays106_ren : Go.Shelf.Ren := ⟨fun | 106 => 184 | 213 => 197 | 265 => 204 | n => n, fun | 9 => 9 | 3 => 3 | n => n, fun | n => n⟩
theorem Tryz.lays106 : Go.Proofs.Lays.n106 Tryz.prog Tryz.lays106_ren := {
  mixed := by kernel_rfl
  f106 := Tryz.func184.trans (congrArg some (by kernel_rfl))
  f213 := Tryz.func197.trans (congrArg some (by kernel_rfl))
  f265 := Tryz.func204.trans (congrArg some (by kernel_rfl))
  t3 := Tryz.underlying3
  a3 := Tryz.isAgg3
  z3 := Tryz.sizeOf3
  v3 := Tryz.zeroValue3
  t9 := Tryz.underlying9
  a9 := Tryz.isAgg9
  z9 := Tryz.sizeOf9
  v9 := Tryz.zeroValue9 }
open Go.RowKit in
theorem Tryz.strings_Compare (a b : ByteArray) (w : World) :
    Calls Tryz.prog 184 #[.string a, .string b] w fun e w' => e = .returned (.int .i64 (Lib.compareBytes a.data.toList b.data.toList)) ∧ w' = w := Any.strings_Compare Tryz.lays106 a b w
def Tryz.lays201_ren : Go.Shelf.Ren := ⟨fun | 201 => 118 | 261 => 147 | 311 => 172 | 312 => 173 | n => n, fun | 21 => 21 | 4 => 4 | 51 => 134 | 5 => 5 | 119 => 287 | 0 => 0 | 141 => 289 | 196 => 348 | 193 => 345 | 3 => 3 | 198 => 350 | 49 => 321 | 194 => 346 | 201 => 353 | 226 => 374 | 46 => 292 | 227 => 375 | n => n, fun | 7 => 0 | 9 => 1 | n => n⟩
theorem Tryz.lays201 : Go.Proofs.Lays.n201 Tryz.prog Tryz.lays201_ren := {
  mixed := by kernel_rfl
  f201 := Tryz.func118.trans (congrArg some (by kernel_rfl))
  f261 := Tryz.func147.trans (congrArg some (by kernel_rfl))
  f311 := Tryz.func172.trans (congrArg some (by kernel_rfl))
  f312 := Tryz.func173.trans (congrArg some (by kernel_rfl))
  t0 := Tryz.underlying0
  a0 := Tryz.isAgg0
  z0 := Tryz.sizeOf0
  v0 := Tryz.zeroValue0
  t3 := Tryz.underlying3
  a3 := Tryz.isAgg3
  z3 := Tryz.sizeOf3
  v3 := Tryz.zeroValue3
  t4 := Tryz.underlying4
  a4 := Tryz.isAgg4
  z4 := Tryz.sizeOf4
  v4 := Tryz.zeroValue4
  t5 := Tryz.underlying5
  a5 := Tryz.isAgg5
  z5 := Tryz.sizeOf5
  v5 := Tryz.zeroValue5
  t21 := Tryz.underlying21
  a21 := Tryz.isAgg21
  z21 := Tryz.sizeOf21
  v21 := Tryz.zeroValue21
  t46 := Tryz.underlying292
  a46 := Tryz.isAgg292
  z46 := Tryz.sizeOf292
  v46 := Tryz.zeroValue292
  t49 := Tryz.underlying321
  a49 := Tryz.isAgg321
  z49 := Tryz.sizeOf321
  v49 := Tryz.zeroValue321
  t51 := Tryz.underlying134
  a51 := Tryz.isAgg134
  z51 := Tryz.sizeOf134
  v51 := Tryz.zeroValue134
  t119 := Tryz.underlying287
  a119 := Tryz.isAgg287
  z119 := Tryz.sizeOf287
  t141 := Tryz.underlying289
  a141 := Tryz.isAgg289
  z141 := Tryz.sizeOf289
  v141 := Tryz.zeroValue289
  t193 := Tryz.underlying345
  a193 := Tryz.isAgg345
  z193 := Tryz.sizeOf345
  v193 := Tryz.zeroValue345
  t194 := Tryz.underlying346
  a194 := Tryz.isAgg346
  z194 := Tryz.sizeOf346
  v194 := Tryz.zeroValue346
  t196 := Tryz.underlying348
  a196 := Tryz.isAgg348
  z196 := Tryz.sizeOf348
  v196 := Tryz.zeroValue348
  t198 := Tryz.underlying350
  a198 := Tryz.isAgg350
  z198 := Tryz.sizeOf350
  v198 := Tryz.zeroValue350
  t201 := Tryz.underlying353
  a201 := Tryz.isAgg353
  z201 := Tryz.sizeOf353
  v201 := Tryz.zeroValue353
  t226 := Tryz.underlying374
  a226 := Tryz.isAgg374
  z226 := Tryz.sizeOf374
  v226 := Tryz.zeroValue374
  t227 := Tryz.underlying375
  a227 := Tryz.isAgg375
  z227 := Tryz.sizeOf375
  v227 := Tryz.zeroValue375
  g7 := by kernel_rfl
  g9 := by kernel_rfl }
open Go.RowKit Go.Lib in
theorem Tryz.unicode_IsUpper (c : Nat) (w : World) (hc : c < 256) (htab : Lib.TabIs Tryz.prog w "unicode.properties" .u8 Lib.propertiesTab) :
    Calls Tryz.prog 118 #[.int .i32 c] w fun e w' => e = .returned (.bool (Lib.isUpperL c)) ∧ w' = w := Any.unicode_IsUpper Tryz.lays201 (by kernel_rfl) c w hc htab
def Tryz.lays260_ren : Go.Shelf.Ren := ⟨fun | 260 => 146 | n => n, fun | 9 => 9 | 21 => 21 | 3 => 3 | 4 => 4 | 5 => 5 | 119 => 287 | 0 => 0 | 46 => 292 | 139 => 344 | 138 => 343 | n => n, fun | 3 => 5 | 4 => 6 | n => n⟩
theorem Tryz.lays260 : Go.Proofs.Lays.n260 Tryz.prog Tryz.lays260_ren := {
  mixed := by kernel_rfl
  f260 := Tryz.func146.trans (congrArg some (by kernel_rfl))
  t0 := Tryz.underlying0
  a0 := Tryz.isAgg0
  z0 := Tryz.sizeOf0
  v0 := Tryz.zeroValue0
  t3 := Tryz.underlying3
  a3 := Tryz.isAgg3
  z3 := Tryz.sizeOf3
  v3 := Tryz.zeroValue3
  t4 := Tryz.underlying4
  a4 := Tryz.isAgg4
  z4 := Tryz.sizeOf4
  v4 := Tryz.zeroValue4
  t5 := Tryz.underlying5
  a5 := Tryz.isAgg5
  z5 := Tryz.sizeOf5
  v5 := Tryz.zeroValue5
  t9 := Tryz.underlying9
  a9 := Tryz.isAgg9
  z9 := Tryz.sizeOf9
  v9 := Tryz.zeroValue9
  t21 := Tryz.underlying21
  a21 := Tryz.isAgg21
  z21 := Tryz.sizeOf21
  v21 := Tryz.zeroValue21
  t46 := Tryz.underlying292
  a46 := Tryz.isAgg292
  z46 := Tryz.sizeOf292
  v46 := Tryz.zeroValue292
  t119 := Tryz.underlying287
  a119 := Tryz.isAgg287
  z119 := Tryz.sizeOf287
  t138 := Tryz.underlying343
  a138 := Tryz.isAgg343
  z138 := Tryz.sizeOf343
  v138 := Tryz.zeroValue343
  t139 := Tryz.underlying344
  a139 := Tryz.isAgg344
  z139 := Tryz.sizeOf344
  v139 := Tryz.zeroValue344
  g3 := by kernel_rfl
  g4 := by kernel_rfl }
def Tryz.lays197_ren : Go.Shelf.Ren := ⟨fun | 197 => 117 | 260 => 146 | n => n, fun | 9 => 9 | 21 => 21 | 3 => 3 | 4 => 4 | 5 => 5 | 105 => 238 | 119 => 287 | 0 => 0 | 46 => 292 | 139 => 344 | 138 => 343 | n => n, fun | 3 => 5 | 4 => 6 | n => n⟩
theorem Tryz.lays197 : Go.Proofs.Lays.n197 Tryz.prog Tryz.lays197_ren := {
  mixed := by kernel_rfl
  f197 := Tryz.func117.trans (congrArg some (by kernel_rfl))
  f260 := Tryz.func146.trans (congrArg some (by kernel_rfl))
  t0 := Tryz.underlying0
  a0 := Tryz.isAgg0
  z0 := Tryz.sizeOf0
  v0 := Tryz.zeroValue0
  t3 := Tryz.underlying3
  a3 := Tryz.isAgg3
  z3 := Tryz.sizeOf3
  v3 := Tryz.zeroValue3
  t4 := Tryz.underlying4
  a4 := Tryz.isAgg4
  z4 := Tryz.sizeOf4
  v4 := Tryz.zeroValue4
  t5 := Tryz.underlying5
  a5 := Tryz.isAgg5
  z5 := Tryz.sizeOf5
  v5 := Tryz.zeroValue5
  t9 := Tryz.underlying9
  a9 := Tryz.isAgg9
  z9 := Tryz.sizeOf9
  v9 := Tryz.zeroValue9
  t21 := Tryz.underlying21
  a21 := Tryz.isAgg21
  z21 := Tryz.sizeOf21
  v21 := Tryz.zeroValue21
  t46 := Tryz.underlying292
  a46 := Tryz.isAgg292
  z46 := Tryz.sizeOf292
  v46 := Tryz.zeroValue292
  t105 := Tryz.underlying238
  a105 := Tryz.isAgg238
  z105 := Tryz.sizeOf238
  v105 := Tryz.zeroValue238
  t119 := Tryz.underlying287
  a119 := Tryz.isAgg287
  z119 := Tryz.sizeOf287
  t138 := Tryz.underlying343
  a138 := Tryz.isAgg343
  z138 := Tryz.sizeOf343
  v138 := Tryz.zeroValue343
  t139 := Tryz.underlying344
  a139 := Tryz.isAgg344
  z139 := Tryz.sizeOf344
  v139 := Tryz.zeroValue344
  g3 := by kernel_rfl
  g4 := by kernel_rfl }
open Go.RowKit Go.Lib in
theorem Tryz.utf8_DecodeRuneInString (s : ByteArray) (w : World) (hT : Lib.Utf8Tabs 5 6 w) :
    Calls Tryz.prog 117 #[.string s] w fun e w' => e = .returned (.tuple #[.int .i32 (Lib.decodeGo s).1, .int .i64 (Lib.decodeGo s).2]) ∧ Below w.heap.size w w' := Any.utf8_DecodeRuneInString Tryz.lays197 s w hT
def Tryz.lays311_ren : Go.Shelf.Ren := ⟨fun | 311 => 172 | n => n, fun | 193 => 345 | 49 => 321 | 4 => 4 | 3 => 3 | 0 => 0 | 226 => 374 | 198 => 350 | 46 => 292 | n => n, fun | n => n⟩
theorem Tryz.lays311 : Go.Proofs.Lays.n311 Tryz.prog Tryz.lays311_ren := {
  mixed := by kernel_rfl
  f311 := Tryz.func172.trans (congrArg some (by kernel_rfl))
  t0 := Tryz.underlying0
  a0 := Tryz.isAgg0
  z0 := Tryz.sizeOf0
  v0 := Tryz.zeroValue0
  t3 := Tryz.underlying3
  a3 := Tryz.isAgg3
  z3 := Tryz.sizeOf3
  v3 := Tryz.zeroValue3
  t4 := Tryz.underlying4
  a4 := Tryz.isAgg4
  z4 := Tryz.sizeOf4
  v4 := Tryz.zeroValue4
  t46 := Tryz.underlying292
  a46 := Tryz.isAgg292
  z46 := Tryz.sizeOf292
  v46 := Tryz.zeroValue292
  t49 := Tryz.underlying321
  a49 := Tryz.isAgg321
  z49 := Tryz.sizeOf321
  v49 := Tryz.zeroValue321
  t193 := Tryz.underlying345
  a193 := Tryz.isAgg345
  z193 := Tryz.sizeOf345
  v193 := Tryz.zeroValue345
  t198 := Tryz.underlying350
  a198 := Tryz.isAgg350
  z198 := Tryz.sizeOf350
  v198 := Tryz.zeroValue350
  t226 := Tryz.underlying374
  a226 := Tryz.isAgg374
  z226 := Tryz.sizeOf374
  v226 := Tryz.zeroValue374 }
def Tryz.lays261_ren : Go.Shelf.Ren := ⟨fun | 261 => 147 | 311 => 172 | 312 => 173 | n => n, fun | 141 => 289 | 21 => 21 | 4 => 4 | 0 => 0 | 196 => 348 | 193 => 345 | 3 => 3 | 51 => 134 | 198 => 350 | 49 => 321 | 194 => 346 | 201 => 353 | 226 => 374 | 46 => 292 | 227 => 375 | n => n, fun | n => n⟩
theorem Tryz.lays261 : Go.Proofs.Lays.n261 Tryz.prog Tryz.lays261_ren := {
  mixed := by kernel_rfl
  f261 := Tryz.func147.trans (congrArg some (by kernel_rfl))
  f311 := Tryz.func172.trans (congrArg some (by kernel_rfl))
  f312 := Tryz.func173.trans (congrArg some (by kernel_rfl))
  t0 := Tryz.underlying0
  a0 := Tryz.isAgg0
  z0 := Tryz.sizeOf0
  v0 := Tryz.zeroValue0
  t3 := Tryz.underlying3
  a3 := Tryz.isAgg3
  z3 := Tryz.sizeOf3
  v3 := Tryz.zeroValue3
  t4 := Tryz.underlying4
  a4 := Tryz.isAgg4
  z4 := Tryz.sizeOf4
  v4 := Tryz.zeroValue4
  t21 := Tryz.underlying21
  a21 := Tryz.isAgg21
  z21 := Tryz.sizeOf21
  v21 := Tryz.zeroValue21
  t46 := Tryz.underlying292
  a46 := Tryz.isAgg292
  z46 := Tryz.sizeOf292
  v46 := Tryz.zeroValue292
  t49 := Tryz.underlying321
  a49 := Tryz.isAgg321
  z49 := Tryz.sizeOf321
  v49 := Tryz.zeroValue321
  t51 := Tryz.underlying134
  a51 := Tryz.isAgg134
  z51 := Tryz.sizeOf134
  v51 := Tryz.zeroValue134
  t141 := Tryz.underlying289
  a141 := Tryz.isAgg289
  z141 := Tryz.sizeOf289
  v141 := Tryz.zeroValue289
  t193 := Tryz.underlying345
  a193 := Tryz.isAgg345
  z193 := Tryz.sizeOf345
  v193 := Tryz.zeroValue345
  t194 := Tryz.underlying346
  a194 := Tryz.isAgg346
  z194 := Tryz.sizeOf346
  v194 := Tryz.zeroValue346
  t196 := Tryz.underlying348
  a196 := Tryz.isAgg348
  z196 := Tryz.sizeOf348
  v196 := Tryz.zeroValue348
  t198 := Tryz.underlying350
  a198 := Tryz.isAgg350
  z198 := Tryz.sizeOf350
  v198 := Tryz.zeroValue350
  t201 := Tryz.underlying353
  a201 := Tryz.isAgg353
  z201 := Tryz.sizeOf353
  v201 := Tryz.zeroValue353
  t226 := Tryz.underlying374
  a226 := Tryz.isAgg374
  z226 := Tryz.sizeOf374
  v226 := Tryz.zeroValue374
  t227 := Tryz.underlying375
  a227 := Tryz.isAgg375
  z227 := Tryz.sizeOf375
  v227 := Tryz.zeroValue375 }
open Go.RowKit Go.Lib in
theorem Tryz.unicode_is16_any (T : Array Rg) (R oR cap : Nat) (z : Nat) (w : World) (hz : z < 65536) (hT : RgTab .u16 R oR T w) (hok : RgOk 65536 T) (hn : T.size ≤ 1000000000) :
    Calls Tryz.prog 172 #[.slice (some ⟨R, oR, none⟩) T.size cap, .int .u16 z] w fun e w' => e = .returned (.bool (is16Go T z)) ∧ ∃ q, w' = w.drewN q := Any.unicode_is16_any Tryz.lays311 T R oR cap z w hz hT hok hn
open Go.RowKit Go.Lib in
theorem Tryz.unicode_IsUpper_all (r : Int) (w : World) (hlo : -2147483648 ≤ r) (hhi : r ≤ 2147483647) (htab : Lib.TabIs Tryz.prog w "unicode.properties" .u8 Lib.propertiesTab) (hV : RVar 1 upperT w) :
    Calls Tryz.prog 118 #[.int .i32 r] w fun e w' => e = .returned (.bool (isUpperU r)) ∧ Below w.heap.size w w' := Any.unicode_IsUpper_all Tryz.lays201 (by kernel_rfl) r w hlo hhi htab hV
end Go.Proofs
namespace Go.Proofs
open Go.Shelf
def Tryz.slF6_ren : Go.Shelf.Ren := ⟨fun | 6 => 120 | 15 => 149 | 14 => 148 | 28 => 182 | 29 => 183 | 20 => 174 | 21 => 175 | 22 => 176 | 23 => 177 | 24 => 178 | 25 => 179 | 26 => 180 | 27 => 181 | 46 => 192 | 47 => 193 | 48 => 194 | 49 => 195 | 50 => 196 | 57 => 203 | n => n, fun | 22 => 129 | 24 => 106 | 25 => 250 | 3 => 3 | 39 => 292 | 0 => 0 | 53 => 134 | 55 => 364 | 4 => 4 | 46 => 357 | 45 => 356 | 50 => 285 | 5 => 5 | 9 => 9 | 66 => 376 | 70 => 380 | 76 => 390 | 77 => 391 | n => n, fun | n => n⟩
theorem Tryz.slF6 : Go.Proofs.SlLaysF.n6 Tryz.prog Tryz.slF6_ren := {
  mixed := by kernel_rfl
  f6 := ⟨Tryz.f120.name, by decide, Tryz.func120.trans (congrArg some (by kernel_rfl))⟩
  f14 := ⟨Tryz.f148.name, by decide, Tryz.func148.trans (congrArg some (by kernel_rfl))⟩
  f15 := Tryz.func149.trans (congrArg some (by kernel_rfl))
  f20 := ⟨Tryz.f174.name, by decide, Tryz.func174.trans (congrArg some (by kernel_rfl))⟩
  f21 := ⟨Tryz.f175.name, by decide, Tryz.func175.trans (congrArg some (by kernel_rfl))⟩
  f22 := ⟨Tryz.f176.name, by decide, Tryz.func176.trans (congrArg some (by kernel_rfl))⟩
  f23 := ⟨Tryz.f177.name, by decide, Tryz.func177.trans (congrArg some (by kernel_rfl))⟩
  f24 := ⟨Tryz.f178.name, by decide, Tryz.func178.trans (congrArg some (by kernel_rfl))⟩
  f25 := ⟨Tryz.f179.name, by decide, Tryz.func179.trans (congrArg some (by kernel_rfl))⟩
  f26 := ⟨Tryz.f180.name, by decide, Tryz.func180.trans (congrArg some (by kernel_rfl))⟩
  f27 := ⟨Tryz.f181.name, by decide, Tryz.func181.trans (congrArg some (by kernel_rfl))⟩
  f28 := Tryz.func182.trans (congrArg some (by kernel_rfl))
  f29 := Tryz.func183.trans (congrArg some (by kernel_rfl))
  f46 := ⟨Tryz.f192.name, by decide, Tryz.func192.trans (congrArg some (by kernel_rfl))⟩
  f47 := Tryz.func193.trans (congrArg some (by kernel_rfl))
  f48 := Tryz.func194.trans (congrArg some (by kernel_rfl))
  f49 := ⟨Tryz.f195.name, by decide, Tryz.func195.trans (congrArg some (by kernel_rfl))⟩
  f50 := ⟨Tryz.f196.name, by decide, Tryz.func196.trans (congrArg some (by kernel_rfl))⟩
  f57 := ⟨Tryz.f203.name, by decide, Tryz.func203.trans (congrArg some (by kernel_rfl))⟩
  t0 := Tryz.underlying0
  a0 := Tryz.isAgg0
  z0 := Tryz.sizeOf0
  v0 := Tryz.zeroValue0
  t3 := Tryz.underlying3
  a3 := Tryz.isAgg3
  z3 := Tryz.sizeOf3
  v3 := Tryz.zeroValue3
  t4 := Tryz.underlying4
  a4 := Tryz.isAgg4
  z4 := Tryz.sizeOf4
  v4 := Tryz.zeroValue4
  t5 := Tryz.underlying5
  a5 := Tryz.isAgg5
  z5 := Tryz.sizeOf5
  v5 := Tryz.zeroValue5
  t9 := Tryz.underlying9
  a9 := Tryz.isAgg9
  z9 := Tryz.sizeOf9
  v9 := Tryz.zeroValue9
  t22 := Tryz.underlying129
  a22 := Tryz.isAgg129
  z22 := Tryz.sizeOf129
  v22 := Tryz.zeroValue129
  a24 := Tryz.isAgg106
  z24 := Tryz.sizeOf106
  t25 := Tryz.underlying250
  a25 := Tryz.isAgg250
  z25 := Tryz.sizeOf250
  v25 := Tryz.zeroValue250
  t39 := Tryz.underlying292
  a39 := Tryz.isAgg292
  z39 := Tryz.sizeOf292
  v39 := Tryz.zeroValue292
  t45 := Tryz.underlying356
  a45 := Tryz.isAgg356
  z45 := Tryz.sizeOf356
  v45 := Tryz.zeroValue356
  t46 := Tryz.underlying357
  a46 := Tryz.isAgg357
  z46 := Tryz.sizeOf357
  v46 := Tryz.zeroValue357
  t50 := Tryz.underlying285
  a50 := Tryz.isAgg285
  z50 := Tryz.sizeOf285
  v50 := Tryz.zeroValue285
  t53 := Tryz.underlying134
  a53 := Tryz.isAgg134
  z53 := Tryz.sizeOf134
  v53 := Tryz.zeroValue134
  t55 := Tryz.underlying364
  a55 := Tryz.isAgg364
  z55 := Tryz.sizeOf364
  v55 := Tryz.zeroValue364
  t66 := Tryz.underlying376
  a66 := Tryz.isAgg376
  z66 := Tryz.sizeOf376
  v66 := Tryz.zeroValue376
  t70 := Tryz.underlying380
  a70 := Tryz.isAgg380
  z70 := Tryz.sizeOf380
  v70 := Tryz.zeroValue380
  t76 := Tryz.underlying390
  a76 := Tryz.isAgg390
  z76 := Tryz.sizeOf390
  v76 := Tryz.zeroValue390
  t77 := Tryz.underlying391
  a77 := Tryz.isAgg391
  z77 := Tryz.sizeOf391
  v77 := Tryz.zeroValue391 }
def Tryz.slF06_ren : Go.Shelf.Ren := ⟨fun | 6 => 120 | 15 => 149 | 14 => 148 | 28 => 182 | 29 => 183 | 20 => 174 | 21 => 175 | 22 => 176 | 23 => 177 | 24 => 178 | 25 => 179 | 26 => 180 | 27 => 181 | 46 => 192 | 47 => 193 | 48 => 194 | 49 => 195 | 50 => 196 | 57 => 203 | n => n, fun | 22 => 129 | 24 => 106 | 25 => 250 | 3 => 3 | 39 => 292 | 0 => 0 | 53 => 134 | 55 => 364 | 4 => 4 | 46 => 357 | 45 => 356 | 50 => 285 | 5 => 5 | 9 => 9 | 66 => 376 | 70 => 380 | 76 => 390 | 77 => 391 | n => n, fun | n => n⟩
theorem Tryz.slF06 : Go.Proofs.SlLaysF0.n6 Tryz.prog Tryz.slF06_ren := {
  mixed := by kernel_rfl
  f6 := ⟨Tryz.f120.name, by decide, Tryz.func120.trans (congrArg some (by kernel_rfl))⟩
  f14 := ⟨Tryz.f148.name, by decide, Tryz.func148.trans (congrArg some (by kernel_rfl))⟩
  f15 := Tryz.func149.trans (congrArg some (by kernel_rfl))
  f20 := ⟨Tryz.f174.name, by decide, Tryz.func174.trans (congrArg some (by kernel_rfl))⟩
  f21 := ⟨Tryz.f175.name, by decide, Tryz.func175.trans (congrArg some (by kernel_rfl))⟩
  f22 := ⟨Tryz.f176.name, by decide, Tryz.func176.trans (congrArg some (by kernel_rfl))⟩
  f23 := ⟨Tryz.f177.name, by decide, Tryz.func177.trans (congrArg some (by kernel_rfl))⟩
  f24 := ⟨Tryz.f178.name, by decide, Tryz.func178.trans (congrArg some (by kernel_rfl))⟩
  f25 := ⟨Tryz.f179.name, by decide, Tryz.func179.trans (congrArg some (by kernel_rfl))⟩
  f26 := ⟨Tryz.f180.name, by decide, Tryz.func180.trans (congrArg some (by kernel_rfl))⟩
  f27 := ⟨Tryz.f181.name, by decide, Tryz.func181.trans (congrArg some (by kernel_rfl))⟩
  f28 := Tryz.func182.trans (congrArg some (by kernel_rfl))
  f29 := Tryz.func183.trans (congrArg some (by kernel_rfl))
  f46 := ⟨Tryz.f192.name, by decide, Tryz.func192.trans (congrArg some (by kernel_rfl))⟩
  f47 := Tryz.func193.trans (congrArg some (by kernel_rfl))
  f48 := Tryz.func194.trans (congrArg some (by kernel_rfl))
  f49 := ⟨Tryz.f195.name, by decide, Tryz.func195.trans (congrArg some (by kernel_rfl))⟩
  f50 := ⟨Tryz.f196.name, by decide, Tryz.func196.trans (congrArg some (by kernel_rfl))⟩
  f57 := ⟨Tryz.f203.name, by decide, Tryz.func203.trans (congrArg some (by kernel_rfl))⟩
  t0 := Tryz.underlying0
  a0 := Tryz.isAgg0
  z0 := Tryz.sizeOf0
  v0 := Tryz.zeroValue0
  t3 := Tryz.underlying3
  a3 := Tryz.isAgg3
  z3 := Tryz.sizeOf3
  v3 := Tryz.zeroValue3
  t4 := Tryz.underlying4
  a4 := Tryz.isAgg4
  z4 := Tryz.sizeOf4
  v4 := Tryz.zeroValue4
  t5 := Tryz.underlying5
  a5 := Tryz.isAgg5
  z5 := Tryz.sizeOf5
  v5 := Tryz.zeroValue5
  t9 := Tryz.underlying9
  a9 := Tryz.isAgg9
  z9 := Tryz.sizeOf9
  v9 := Tryz.zeroValue9
  t22 := Tryz.underlying129
  a22 := Tryz.isAgg129
  z22 := Tryz.sizeOf129
  v22 := Tryz.zeroValue129
  t25 := Tryz.underlying250
  a25 := Tryz.isAgg250
  z25 := Tryz.sizeOf250
  v25 := Tryz.zeroValue250
  t39 := Tryz.underlying292
  a39 := Tryz.isAgg292
  z39 := Tryz.sizeOf292
  v39 := Tryz.zeroValue292
  t45 := Tryz.underlying356
  a45 := Tryz.isAgg356
  z45 := Tryz.sizeOf356
  v45 := Tryz.zeroValue356
  t46 := Tryz.underlying357
  a46 := Tryz.isAgg357
  z46 := Tryz.sizeOf357
  v46 := Tryz.zeroValue357
  t50 := Tryz.underlying285
  a50 := Tryz.isAgg285
  z50 := Tryz.sizeOf285
  v50 := Tryz.zeroValue285
  t53 := Tryz.underlying134
  a53 := Tryz.isAgg134
  z53 := Tryz.sizeOf134
  v53 := Tryz.zeroValue134
  t55 := Tryz.underlying364
  a55 := Tryz.isAgg364
  z55 := Tryz.sizeOf364
  v55 := Tryz.zeroValue364
  t66 := Tryz.underlying376
  a66 := Tryz.isAgg376
  z66 := Tryz.sizeOf376
  v66 := Tryz.zeroValue376
  t70 := Tryz.underlying380
  a70 := Tryz.isAgg380
  z70 := Tryz.sizeOf380
  v70 := Tryz.zeroValue380
  t76 := Tryz.underlying390
  a76 := Tryz.isAgg390
  z76 := Tryz.sizeOf390
  v76 := Tryz.zeroValue390
  t77 := Tryz.underlying391
  a77 := Tryz.isAgg391
  z77 := Tryz.sizeOf391
  v77 := Tryz.zeroValue391 }
end Go.Proofs
namespace Go.Proofs.YtmfhclggkjjcdaaGreatDoor
open Go Go.RowKit
theorem zd:type_of% @World.size_alloc:=@World.size_alloc
theorem ze:type_of% @List.setIfInBounds_toArray:=@List.setIfInBounds_toArray
@[defeq] theorem zh:type_of% @List.getElem_cons_succ:=@List.getElem_cons_succ
@[defeq] theorem zi:type_of% @List.getElem_cons_zero:=@List.getElem_cons_zero
theorem zj:type_of% @World.block_lt_of_cell?:=@World.block_lt_of_cell?
@[defeq] theorem zk:type_of% @List.getElem_toArray:=@List.getElem_toArray
theorem zl:type_of% @Nat.le_refl:=@Nat.le_refl
@[defeq] theorem zm:type_of% @List.set_cons_succ:=@List.set_cons_succ
@[defeq] theorem zn:type_of% @List.set_cons_zero:=@List.set_cons_zero
theorem zp:type_of% @Below.refl:=@Below.refl
theorem zq:type_of% @Below.size:=@Below.size
theorem zr:type_of% @List.getElem?_eq_getElem:=@List.getElem?_eq_getElem
@[defeq] theorem zt:type_of% @List.getElem?_cons_zero:=@List.getElem?_cons_zero
@[defeq] theorem zu:type_of% @List.getElem?_cons_succ:=@List.getElem?_cons_succ
theorem zv:type_of% @List.getD_eq_getElem?_getD:=@List.getD_eq_getElem?_getD
theorem zw:type_of% @Nat.lt_succ_self:=@Nat.lt_succ_self
theorem zx:type_of% @List.mem_append_right:=@List.mem_append_right
theorem zy:type_of% @List.mem_cons_of_mem:=@List.mem_cons_of_mem
theorem z6:type_of% @List.mem_cons_self:=@List.mem_cons_self
theorem z7:type_of% @List.mem_append_left:=@List.mem_append_left
theorem z8:type_of% @List.getElem_mem:=@List.getElem_mem
theorem zab:type_of% @Array.getElem?_eq_some_iff:=@Array.getElem?_eq_some_iff
theorem zbb:type_of% @Option.map_eq_some_iff:=@Option.map_eq_some_iff
theorem zcb:type_of% @Nat.le_add_right:=@Nat.le_add_right
theorem zdb:type_of% @World.ownsRow_nil:=@World.ownsRow_nil
theorem zeb:type_of% @List.take_length:=@List.take_length
theorem zfb:type_of% @List.mem_singleton:=@List.mem_singleton
theorem zgb:type_of% @List.mem_cons:=@List.mem_cons
theorem zhb:type_of% @List.all_eq_true:=@List.all_eq_true
theorem zib:type_of% @List.mem_append:=@List.mem_append
theorem zjb:type_of% @List.getElem?_eq_some_iff:=@List.getElem?_eq_some_iff
theorem zkb:type_of% @List.mem_map:=@List.mem_map
theorem zlb:type_of% @World.cell?_of_block:=@World.cell?_of_block
theorem hid {p:Prop} (h:p):Hid p:=h
structure Meth where
 name:Int
 ptr:Bool
mutual
inductive Ty where
 | mk (kind num:Int) (elem:List Ty) (fields:List Fd) (methods:List Meth) (embeds:List Ty)
inductive Fd where
 | mk (name:Int) (embedded:Bool) (of:Ty)
end
def Ty.kind:Ty→Int | .mk k _ _ _ _ _=>k
def Ty.num:Ty→Int | .mk _ n _ _ _ _=>n
def Ty.elem:Ty→List Ty | .mk _ _ e _ _ _=>e
def Ty.fields:Ty→List Fd | .mk _ _ _ f _ _=>f
def Ty.methods:Ty→List Meth | .mk _ _ _ _ m _=>m
def Ty.embeds:Ty→List Ty | .mk _ _ _ _ _ e=>e
def Fd.name:Fd→Int | .mk n _ _=>n
def Fd.embedded:Fd→Bool | .mk _ e _=>e
def Fd.of:Fd→Ty | .mk _ _ t=>t
mutual
def Ty.bulk:Ty→Nat
 | .mk _ _ el fs ms em=>1+qbt el+qcm fs+ms.length+qbt em
def qbt:List Ty→Nat
 | []=>0
 | t::r=>t.bulk+qbt r
def qcm:List Fd→Nat
 | []=>0
 | .mk _ _ t::r=>1+t.bulk+qcm r
end
mutual
def Ty.size:Ty→Nat
 | .mk _ _ el fs ms em=>ms.length+qau el+qar fs+qau em
def qau:List Ty→Nat
 | []=>0
 | t::r=>t.size+qau r
def qar:List Fd→Nat
 | []=>0
 | .mk _ _ t::r=>1+t.size+qar r
end
theorem qd3 (t:Ty):1≤t.bulk:=by cases t;simp only[Ty.bulk];omega
theorem qa6:∀ (l:List Ty) (k:Nat) (hk:k<l.length),l[k].bulk≤qbt l
 | t::r,0,_=>by simp[qbt]
 | t::r,k+1,hk=>by
  have:=qa6 r k (by simpa using hk);simp only[List.getElem_cons_succ,qbt];omega
theorem qbx:∀ (l:List Fd) (k:Nat) (hk:k<l.length),l[k].of.bulk+1≤qcm l
 | .mk _ _ t::r,0,_=>by simp[qcm,Fd.of];omega
 | .mk _ _ t::r,k+1,hk=>by
  have:=qbx r k (by simpa using hk);simp only[List.getElem_cons_succ,qcm];omega
theorem qa3:∀ (l:List Ty),l.length≤qbt l
 | []=>by simp
 | t::r=>by have:=qa3 r;have:=qd3 t;simp only[List.length_cons,qbt];omega
theorem qbv:∀ (l:List Fd),l.length≤qcm l
 | []=>by simp
 | .mk _ _ t::r=>by have:=qbv r;simp only[List.length_cons,qcm];omega
mutual
theorem qba:∀ (t:Ty),t.size≤t.bulk
 | .mk _ _ el fs ms em=>by
  have:=qem el;have:=qh6 fs;have:=qem em;simp only[Ty.size,Ty.bulk];omega
theorem qem:∀ (l:List Ty),qau l≤qbt l
 | []=>by simp[qau]
 | t::r=>by have:=qba t;have:=qem r;simp only[qau,qbt];omega
theorem qh6:∀ (l:List Fd),qar l≤qcm l
 | []=>by simp[qar]
 | .mk _ _ t::r=>by have:=qba t;have:=qh6 r;simp only[qar,qcm];omega
end
theorem qc1:∀ (l:List Ty) (k:Nat) (hk:k<l.length),qau (l.take (k+1))=qau (l.take k)+l[k].size
 | t::r,0,_=>by simp[qau]
 | t::r,k+1,hk=>by
  have:=qc1 r k (by simpa using hk);simp only[List.take_succ_cons,List.getElem_cons_succ,qau,this];omega
theorem qdi:∀ (l:List Fd) (k:Nat) (hk:k<l.length),qar (l.take (k+1))=qar (l.take k)+(1+l[k].of.size)
 | .mk _ _ t::r,0,_=>by simp[qar,Fd.of]
 | .mk _ _ t::r,k+1,hk=>by
  have:=qdi r k (by simpa using hk);simp only[List.take_succ_cons,List.getElem_cons_succ,qar,this];omega
theorem qa5 (l:List Ty) (k:Nat):qau (l.take k)≤qau l:=by
 induction l generalizing k with
 | nil=>simp
 | cons t r ih=>cases k with
  | zero=>simp[qau]
  | succ k=>have:=ih k;simp only[List.take_succ_cons,qau];omega
theorem qbj (l:List Fd) (k:Nat):qar (l.take k)≤qar l:=by
 induction l generalizing k with
 | nil=>simp
 | cons t r ih=>cases t;cases k with
  | zero=>simp[qar]
  | succ k=>have:=ih k;simp only[List.take_succ_cons,qar];omega
def qac (w W:World):Prop:=∀ ad v,w.cell? ad=some v→W.cell? ad=some v
theorem qac.refl (w:World):qac w w:=fun _ _ h=>h
theorem qac.trans {a b c:World} (h:qac a b) (k:qac b c):qac a c:=fun ad v hv=>k ad v (h ad v hv)
theorem qac.below {w W:World} (h:Below w.heap.size w W):qac w W:=fun ad v hv=>
 (h.cell (World.block_lt_of_cell? w ad hv)).trans hv
theorem qac.belowGe {B:Nat} {w W:World} (h:Below B w W) (hB:w.heap.size≤B):qac w W:=qac.below (h.mono hB)
theorem qac.alloc (w:World) (o:Obj):qac w (w.alloc o):=qac.below ((Below.refl _ _).alloc (Nat.le_refl _) o)
def qat (w:World) (b o:Nat) (cs:List Value):Prop:=∀ j v,cs[j]?=some v→w.cell? ⟨b,o+j,none⟩=some v
theorem qat.keep {w W:World} {b o:Nat} {cs:List Value} (h:qat w b o cs) (k:qac w W):qat W b o cs:=fun j v hv=>k _ _ (h j v hv)
def i64 (n:Int):Prop := -9223372036854775808≤n∧n≤9223372036854775807
def MsR (w:World) (a:Option Addr):Nat→List Meth→Prop
 | _,[]=>True
 | i,m::r=>(∃ b o,a=some ⟨b,o,none⟩∧i64 m.name∧qat w b (o+i * 2) [.int .i64 m.name,.bool m.ptr])∧MsR w a (i+1) r
mutual
def TyC (w:World):Ty→List Value→Prop
 | .mk k n el fs ms em,cs=>∃ a1 c1 a2 c2 a3 c3 a4 c4,
   cs=[.int .i64 k,.int .i64 n,.slice a1 el.length c1,.slice a2 fs.length c2,.slice a3 ms.length c3,.slice a4 em.length c4]∧
   (el.length≤c1∧fs.length≤c2∧ms.length≤c3∧em.length≤c4)∧i64 k∧i64 n∧TysR w a1 0 el∧FdsR w a2 0 fs∧MsR w a3 0 ms∧TysR w a4 0 em
def TysR (w:World) (a:Option Addr):Nat→List Ty→Prop
 | _,[]=>True
 | i,t::r=>(∃ b o cs,a=some ⟨b,o,none⟩∧qat w b (o+i * 6) cs∧TyC w t cs)∧TysR w a (i+1) r
def FdsR (w:World) (a:Option Addr):Nat→List Fd→Prop
 | _,[]=>True
 | i,f::r=>FdE w a i f∧FdsR w a (i+1) r
def FdE (w:World) (a:Option Addr) (i:Nat):Fd→Prop
 | .mk n e t=>∃ b o cs,a=some ⟨b,o,none⟩∧i64 n∧qat w b (o+i * 8) (.int .i64 n :: .bool e::cs)∧TyC w t cs
end
theorem MsR.keep {w W:World} (k:qac w W) {a:Option Addr}:∀ {i:Nat} {l:List Meth},MsR w a i l→MsR W a i l
 | _,[],_=>trivial
 | i,m::r,⟨⟨b,o,e,hn,hc⟩,h⟩=>⟨⟨b,o,e,hn,hc.keep k⟩,MsR.keep k h⟩
mutual
theorem TyC.keep {w W:World} (k:qac w W):∀ {t:Ty} {cs:List Value},TyC w t cs→TyC W t cs
 | .mk _ _ el fs ms em,cs,h=>by
  simp only[TyC] at h ⊢;obtain⟨a1,c1,a2,c2,a3,c3,a4,c4,e,hcap,hk,hn,h1,h2,h3,h4⟩:=h;exact⟨a1,c1,a2,c2,a3,c3,a4,c4,e,hcap,hk,hn,TysR.keep k h1,FdsR.keep k h2,h3.keep k,TysR.keep k h4⟩
theorem TysR.keep {w W:World} (k:qac w W) {a:Option Addr}:∀ {i:Nat} {l:List Ty},TysR w a i l→TysR W a i l
 | _,[],_=>by simp[TysR]
 | i,t::r,h=>by
  simp only[TysR] at h ⊢;obtain⟨⟨b,o,cs,e,hc,ht⟩,h⟩:=h;exact⟨⟨b,o,cs,e,hc.keep k,TyC.keep k ht⟩,TysR.keep k h⟩
theorem FdsR.keep {w W:World} (k:qac w W) {a:Option Addr}:∀ {i:Nat} {l:List Fd},FdsR w a i l→FdsR W a i l
 | _,[],_=>by simp[FdsR]
 | i,.mk n e t::r,h=>by
  simp only[FdsR,FdE] at h ⊢;obtain⟨⟨b,o,cs,e,hn,hc,ht⟩,h⟩:=h;exact⟨⟨b,o,cs,e,hn,hc.keep k,TyC.keep k ht⟩,FdsR.keep k h⟩
end
theorem TysR.get {w:World} {a:Option Addr}:∀ {l:List Ty} {i:Nat} (h:TysR w a i l) (k:Nat) (hk:k<l.length),
  ∃ b o cs,a=some ⟨b,o,none⟩∧qat w b (o+(i+k) * 6) cs∧TyC w l[k] cs
 | t::r,i,h,0,_=>by simp only[TysR] at h;simpa using h.1
 | t::r,i,h,k+1,hk=>by
  simp only[TysR] at h;have:=TysR.get h.2 k (by simpa using hk);simpa[Nat.add_assoc,Nat.add_comm 1 k] using this
theorem FdsR.get {w:World} {a:Option Addr}:∀ {l:List Fd} {i:Nat} (h:FdsR w a i l) (k:Nat) (hk:k<l.length),
  ∃ b o cs,a=some ⟨b,o,none⟩∧i64 l[k].name∧qat w b (o+(i+k) * 8) (.int .i64 l[k].name :: .bool l[k].embedded::cs)∧TyC w l[k].of cs
 | .mk n e t::r,i,h,0,_=>by simp only[FdsR,FdE] at h;simpa[Fd.name,Fd.embedded,Fd.of] using h.1
 | .mk n e t::r,i,h,k+1,hk=>by
  simp only[FdsR] at h;have:=FdsR.get h.2 k (by simpa using hk);simpa[Nat.add_assoc,Nat.add_comm 1 k] using this
theorem MsR.get {w:World} {a:Option Addr}:∀ {l:List Meth} {i:Nat} (h:MsR w a i l) (k:Nat) (hk:k<l.length),
  ∃ b o,a=some ⟨b,o,none⟩∧i64 l[k].name∧qat w b (o+(i+k) * 2) [.int .i64 l[k].name,.bool l[k].ptr]
 | t::r,i,h,0,_=>by simp only[MsR] at h;simpa using h.1
 | t::r,i,h,k+1,hk=>by
  simp only[MsR] at h;have:=MsR.get h.2 k (by simpa using hk);simpa[Nat.add_assoc,Nat.add_comm 1 k] using this
theorem TyC.full {w:World} {t:Ty} {cs:List Value} (h:TyC w t cs):∃ a1 c1 a2 c2 a3 c3 a4 c4,
   cs=[.int .i64 t.kind,.int .i64 t.num,.slice a1 t.elem.length c1,.slice a2 t.fields.length c2,.slice a3 t.methods.length c3,.slice a4 t.embeds.length c4]∧
   (t.elem.length≤c1∧t.fields.length≤c2∧t.methods.length≤c3∧t.embeds.length≤c4)∧i64 t.kind∧i64 t.num∧TysR w a1 0 t.elem∧FdsR w a2 0 t.fields∧MsR w a3 0 t.methods∧TysR w a4 0 t.embeds∧
   TyC w t [.int .i64 t.kind,.int .i64 t.num,.slice a1 t.elem.length c1,.slice a2 t.fields.length c2,.slice a3 t.methods.length c3,.slice a4 t.embeds.length c4]:=by
 have h0:=h;cases t;simp only[TyC] at h;obtain⟨a1,c1,a2,c2,a3,c3,a4,c4,rfl,h⟩:=h;exact⟨a1,c1,a2,c2,a3,c3,a4,c4,rfl,h.1,h.2.1,h.2.2.1,h.2.2.2.1,h.2.2.2.2.1,h.2.2.2.2.2.1,h.2.2.2.2.2.2,h0⟩
theorem TyC.open {w:World} {t:Ty} {cs:List Value} (h:TyC w t cs):∃ a1 c1 a2 c2 a3 c3 a4 c4,
   cs=[.int .i64 t.kind,.int .i64 t.num,.slice a1 t.elem.length c1,.slice a2 t.fields.length c2,.slice a3 t.methods.length c3,.slice a4 t.embeds.length c4]∧
   (t.elem.length≤c1∧t.fields.length≤c2∧t.methods.length≤c3∧t.embeds.length≤c4)∧i64 t.kind∧i64 t.num∧TysR w a1 0 t.elem∧FdsR w a2 0 t.fields∧MsR w a3 0 t.methods∧TysR w a4 0 t.embeds:=by
 cases t;simp only[TyC] at h;exact h
theorem TyC.shut {w:World} {t:Ty} {cs:List Value} (h:∃ a1 c1 a2 c2 a3 c3 a4 c4,
   cs=[.int .i64 t.kind,.int .i64 t.num,.slice a1 t.elem.length c1,.slice a2 t.fields.length c2,.slice a3 t.methods.length c3,.slice a4 t.embeds.length c4]∧
   (t.elem.length≤c1∧t.fields.length≤c2∧t.methods.length≤c3∧t.embeds.length≤c4)∧i64 t.kind∧i64 t.num∧TysR w a1 0 t.elem∧FdsR w a2 0 t.fields∧MsR w a3 0 t.methods∧TysR w a4 0 t.embeds):TyC w t cs:=by
 cases t;simp only[TyC];exact h
theorem six {w:World} {b o:Nat} {v0 v1 v2 v3 v4 v5:Value} (h:qat w b o [v0,v1,v2,v3,v4,v5]):
  w.cell? ⟨b,o,none⟩=some v0∧w.cell? ⟨b,o+1,none⟩=some v1∧w.cell? ⟨b,o+2,none⟩=some v2∧w.cell? ⟨b,o+3,none⟩=some v3∧w.cell? ⟨b,o+4,none⟩=some v4∧w.cell? ⟨b,o+5,none⟩=some v5:=
 ⟨h 0 v0 rfl,h 1 v1 rfl,h 2 v2 rfl,h 3 v3 rfl,h 4 v4 rfl,h 5 v5 rfl⟩
theorem qhx {w:World} {b o:Nat} {u0 u1 v0 v1 v2 v3 v4 v5:Value} (h:qat w b o [u0,u1,v0,v1,v2,v3,v4,v5]):
  w.cell? ⟨b,o,none⟩=some u0∧w.cell? ⟨b,o+1,none⟩=some u1∧w.cell? ⟨b,o+2,none⟩=some v0∧w.cell? ⟨b,o+3,none⟩=some v1∧w.cell? ⟨b,o+4,none⟩=some v2∧w.cell? ⟨b,o+5,none⟩=some v3∧w.cell? ⟨b,o+6,none⟩=some v4∧w.cell? ⟨b,o+7,none⟩=some v5:=
 ⟨h 0 u0 rfl,h 1 u1 rfl,h 2 v0 rfl,h 3 v1 rfl,h 4 v2 rfl,h 5 v3 rfl,h 6 v4 rfl,h 7 v5 rfl⟩
structure Dc where
 name:Int
 pkg:Int
 alias:Bool
 of:Ty
 methods:List Meth
abbrev Wd:=List Dc
def Dc.bulk (d:Dc):Nat:=1+d.of.bulk+d.methods.length
def qbw:Wd→Nat
 | []=>0
 | d::r=>d.bulk+qbw r
theorem qee:∀ (l:Wd) (k:Nat) (hk:k<l.length),l[k].bulk≤qbw l
 | t::r,0,_=>by simp[qbw]
 | t::r,k+1,hk=>by
  have:=qee r k (by simpa using hk);simp only[List.getElem_cons_succ,qbw];omega
theorem qbk:∀ (l:Wd),l.length≤qbw l
 | []=>by simp
 | t::r=>by have:=qbk r;simp only[List.length_cons,qbw,Dc.bulk];omega
def DcC (w:World) (d:Dc) (cs:List Value):Prop:=∃ ts a c,cs=(.int .i64 d.name :: .int .i64 d.pkg :: .bool d.alias::ts)++[.slice a d.methods.length c]∧
 d.methods.length≤c∧i64 d.name∧i64 d.pkg∧TyC w d.of ts∧MsR w a 0 d.methods
theorem DcC.keep {w W:World} (k:qac w W) {d:Dc} {cs:List Value}:DcC w d cs→DcC W d cs
 | ⟨ts,a,c,e,h0,h1,h2,h3,h4⟩=>⟨ts,a,c,e,h0,h1,h2,TyC.keep k h3,h4.keep k⟩
def WdR (w:World) (a:Option Addr) (l:Wd):Prop:=∀ (k:Nat) (hk:k<l.length),∃ b o cs,a=some ⟨b,o,none⟩∧qat w b (o+k * 10) cs∧DcC w l[k] cs
theorem WdR.keep {w W:World} (k:qac w W) {a:Option Addr} {l:Wd} (h:WdR w a l):WdR W a l:=fun i hi=>
 let ⟨b,o,cs,e,hc,hd⟩:=h i hi
 ⟨b,o,cs,e,hc.keep k,hd.keep k⟩
theorem ten {w:World} {b o:Nat} {u0 u1 u2 v0 v1 v2 v3 v4 v5 u3:Value} (h:qat w b o [u0,u1,u2,v0,v1,v2,v3,v4,v5,u3]):
  w.cell? ⟨b,o,none⟩=some u0∧w.cell? ⟨b,o+1,none⟩=some u1∧w.cell? ⟨b,o+2,none⟩=some u2∧w.cell? ⟨b,o+3,none⟩=some v0∧w.cell? ⟨b,o+4,none⟩=some v1∧w.cell? ⟨b,o+5,none⟩=some v2∧w.cell? ⟨b,o+6,none⟩=some v3∧w.cell? ⟨b,o+7,none⟩=some v4∧w.cell? ⟨b,o+8,none⟩=some v5∧w.cell? ⟨b,o+9,none⟩=some u3:=
 ⟨h 0 u0 rfl,h 1 u1 rfl,h 2 u2 rfl,h 3 v0 rfl,h 4 v1 rfl,h 5 v2 rfl,h 6 v3 rfl,h 7 v4 rfl,h 8 v5 rfl,h 9 u3 rfl⟩
theorem WdR.get {w:World} {a:Option Addr} {l:Wd} (h:WdR w a l) (k:Nat) (hk:k<l.length):
  ∃ b o a1 c1 a2 c2 a3 c3 a4 c4 a5 c5,a=some ⟨b,o,none⟩∧l[k].methods.length≤c5∧i64 l[k].name∧i64 l[k].pkg∧MsR w a5 0 l[k].methods∧
  TyC w l[k].of [.int .i64 l[k].of.kind,.int .i64 l[k].of.num,.slice a1 l[k].of.elem.length c1,.slice a2 l[k].of.fields.length c2,.slice a3 l[k].of.methods.length c3,.slice a4 l[k].of.embeds.length c4]∧
  qat w b (o+k * 10) [.int .i64 l[k].name,.int .i64 l[k].pkg,.bool l[k].alias,.int .i64 l[k].of.kind,.int .i64 l[k].of.num,.slice a1 l[k].of.elem.length c1,.slice a2 l[k].of.fields.length c2,.slice a3 l[k].of.methods.length c3,.slice a4 l[k].of.embeds.length c4,.slice a5 l[k].methods.length c5]:=by
 obtain⟨b,o,cs,e,hc,ts,a5,c5,rfl,h0,h1,h2,h3,h4⟩:=h k hk;have h3':=h3;obtain⟨a1,c1,a2,c2,a3,c3,a4,c4,rfl,-⟩:=h3.open;exact⟨b,o,a1,c1,a2,c2,a3,c3,a4,c4,a5,c5,e,h0,h1,h2,h4,h3',hc⟩
theorem b_set {B:Nat} {w0 w:World} {a:Addr} (h:Below B w0 w) (v:Value) (hb:B≤a.block:=by first|omega|(simp;done)|(simp;omega)):Below B w0 (w.setCell a v):=Below.setCell h hb v
theorem b_new {B:Nat} {w0 w:World} (h:Below B w0 w) (o:Obj) (hb:B≤w.heap.size:=by first|omega|(simp;done)|(simp;omega)):Below B w0 (w.alloc o):=Below.alloc h hb o
theorem qa4 {B C:Nat} {w0 X w1:World} (h1:Below C X w1) (h:Below B w0 X) (hB:B≤C:=by first|omega|(simp;done)|(simp;omega)):Below B w0 w1:=h.trans (h1.mono hB)
theorem bel {B:Nat} {w0 w:World} (h:Below B w0 w:=by repeat (first|(with_reducible assumption)|(with_reducible exact Below.refl _ _)|(with_reducible refine Below.drew ?_)|(with_reducible refine b_set ?_ _)|(with_reducible refine b_new ?_ _)|(refine qa4 (by with_reducible assumption) ?_))):Below B w0 w:=h
def qa2 (v:Value) (w:World) (e:Ending) (w':World):Prop:=e = .returned v∧Below w.heap.size w w'
theorem box {w wr:World} {O:Obj} {vs:List Value} {T:TypeId} (h:Below (w.heap.size+1) (w.alloc O) wr) (hO:O = .cells vs.toArray T):qat wr w.heap.size 0 vs:=by
 intro j v hv;rw[h.cell (by simp)];subst hO;rw[Nat.zero_add,World.cell?_alloc_new];simpa using hv
def ty0:Ty := .mk 0 0 [] [] [] []
def dc0:Dc:=⟨0,0,false,ty0,[]⟩
def dc (W:Wd) (d:Nat):Dc:=W.getD d dc0
theorem qcg {W:Wd} {d:Nat} (h:d<W.length):dc W d=W[d]:=by simp[dc,h]
def qi8 (d:Dc):Nat:=d.methods.length+d.of.size
def sumD:Wd→Nat
 | []=>0
 | d::r=>qi8 d+sumD r
def start (W:Wd) (d:Nat):Nat:=sumD (W.take d)
theorem qoh:∀ (l:Wd) (k:Nat) (hk:k<l.length),sumD (l.take (k+1))=sumD (l.take k)+qi8 l[k]
 | t::r,0,_=>by simp[sumD]
 | t::r,k+1,hk=>by
  have:=qoh r k (by simpa using hk);simp only[List.take_succ_cons,zh,sumD,this];omega
theorem qc2 {W:Wd} {k:Nat} (hk:k<W.length):start W (k+1)=start W k+qi8 (dc W k):=by
 rw[qcg hk];exact qoh W k hk
theorem qiz (l:Wd) (k:Nat):sumD (l.take k)≤sumD l:=by
 induction l generalizing k with
 | nil=>simp
 | cons t r ih=>cases k with
  | zero=>simp[sumD]
  | succ k=>have:=ih k;simp only[List.take_succ_cons,sumD];omega
theorem qsr:∀ (l:Wd),sumD l≤qbw l
 | []=>by simp[sumD]
 | t::r=>by have:=qsr r;have:=qba t.of;simp only[sumD,qbw,qi8,Dc.bulk];omega
theorem qcv (W:Wd) (k:Nat):start W k≤qbw W:=Nat.le_trans (qiz W k) (qsr W)
theorem qdk (W:Wd) {i j:Nat} (h:i≤j):start W i≤start W j:=by
 unfold start;have:W.take i=(W.take j).take i:=by rw[List.take_take,Nat.min_eq_left h]
 rw[this];exact qiz _ _
theorem spot_le {W:Wd} {d:Nat} (h:d<W.length):start W d+(dc W d).methods.length+(dc W d).of.size≤qbw W:=by
 have h1:=qc2 h;have h2:=qcv W (d+1);unfold qi8 at h1;omega
theorem qfe {W:Wd} {d:Nat} (h:d<W.length):(dc W d).bulk≤qbw W:=by rw[qcg h];exact qee W d h
structure Spot where
 of:Ty
 at_:Nat
 pkg:Int
def qad (W:Wd) (d:Nat):Spot:=⟨(dc W d).of,start W d+(dc W d).methods.length,(dc W d).pkg⟩
def operand (W:Wd) (t:Ty):Spot:=⟨t,start W W.length,0⟩
def qfy (W:Wd):Nat→Spot→Spot
 | 0,s=>s
 | n+1,s=>if s.of.kind=1∧(dc W s.of.num.toNat).alias=true then qfy W n (qad W s.of.num.toNat) else s
def plain (W:Wd) (s:Spot):Spot:=qfy W (W.length+1) s
def qb9 (W:Wd):Nat→Spot→Spot
 | 0,s=>s
 | n+1,s=>if s.of.kind=1 then qb9 W n (qad W s.of.num.toNat) else s
def under (W:Wd) (s:Spot):Spot:=qb9 W (W.length+1) s
def Ty.el0 (t:Ty):Ty:=t.elem.getD 0 ty0
def qaq (s:Spot):Spot:=⟨s.of.el0,s.at_,s.pkg⟩
def fd0:Fd := .mk 0 false ty0
def qao (s:Spot) (i:Nat):Spot:=⟨(s.of.fields.getD i fd0).of,s.at_+qar (s.of.fields.take i)+1,s.pkg⟩
def qav (s:Spot) (i:Nat):Spot:=⟨s.of.embeds.getD i ty0,s.at_+s.of.methods.length+qau (s.of.embeds.take i),s.pkg⟩
def fname (W:Wd) (f:Fd):Int:=
 if f.embedded=false then f.name
 else if f.of.kind=2 then(dc W f.of.el0.num.toNat).name
 else(dc W f.of.num.toNat).name
def IsNm (n:Int):Prop:=0≤n∧n<16
def qay (n:Int):Bool:=(decide (n≥4)&&decide (n≤7))||n==10||decide (n≥13)
def nmB:List (List UInt8):=[[97],[98],[99],[120],[65],[66],[67],[88],[95],[195,169],[195,137],[199,133],[228,184,150],[84],[83,116,114,105,110,103],[69,114,114,111,114]]
def qas (n:Int):ByteArray:=⟨(nmB.getD n.toNat []).toArray⟩
def idL (pkg name:Int):List UInt8:=if qay name then nmB.getD name.toNat [] else(if pkg=0 then 112 else 113)::46::nmB.getD name.toNat []
def idS (pkg name:Int):ByteArray:=⟨(idL pkg name).toArray⟩
mutual
def Ty.clo (n:Nat):Ty→Prop
 | .mk k m el fs ms em=>(k=1→0≤m∧m<n)∧cloT n el∧cloF n fs∧cloT n em
def cloT (n:Nat):List Ty→Prop
 | []=>True
 | t::r=>t.clo n∧cloT n r
def cloF (n:Nat):List Fd→Prop
 | []=>True
 | .mk _ _ t::r=>t.clo n∧cloF n r
end
def qdb (t:Ty):Prop:=t.kind=1∨t.kind=2∧t.elem.length=1∧t.el0.kind=1
mutual
def qam (W:Wd) (d:Int):Bool→Ty→Prop
 | val,.mk k n el fs ms em=>
  (k=0∧el=[]∧fs=[]∧ms=[]∧em=[]∧0≤n∧n≤2)∨
  (k=1∧el=[]∧fs=[]∧ms=[]∧em=[]∧0≤n∧n<W.length∧(d<n∨val=false∧(d<0∨(dc W d.toNat).alias=false∨(dc W n.toNat).alias=false)))∨
  ((k=2∨k=3)∧n=0∧fs=[]∧ms=[]∧em=[]∧qc5 W d el)∨
  (k=4∧n=0∧el=[]∧ms=[]∧em=[]∧qby W d val fs)∨
  (k=5∧n=0∧el=[]∧fs=[]∧(∀ m∈ms,IsNm m.name∧m.name≠8∧m.ptr=false)∧qbi W d em)
def qc5 (W:Wd) (d:Int):List Ty→Prop
 | []=>False
 | t::r=>r=[]∧qam W d false t
def qby (W:Wd) (d:Int):Bool→List Fd→Prop
 | _,[]=>True
 | val,.mk n e t::r=>(IsNm n∧(e=true→n=0∧qdb t)∧qam W d val t)∧qby W d val r
def qbi (W:Wd) (d:Int):List Ty→Prop
 | []=>True
 | t::r=>((t.kind=1∨t.kind=5)∧qam W d true t)∧qbi W d r
end
def qdo (W:Wd) (pkg:Int) (s:Spot):Prop:=
 let p:=s.of.kind=2
 let s':=if s.of.kind=2 then qaq s else s
 (under W s').of.kind≠2∧(p→(under W s').of.kind≠5)∧((dc W s'.of.num.toNat).pkg=pkg∨qay (dc W s'.of.num.toNat).name=true)
def qb1:List Int→Prop
 | []=>True
 | a::r=>(∀ b∈r,a≠b)∧qb1 r
mutual
def qdp (W:Wd) (pkg:Int):Ty→Nat→Prop
 | .mk k n el fs ms em,at_=>qb1 (ms.map Meth.name)∧qc0 W pkg em (at_+ms.length)∧qcr W pkg [] fs at_∧qjv W pkg el at_
def qjv (W:Wd) (pkg:Int):List Ty→Nat→Prop
 | [],_=>True
 | t::_,at_=>qdp W pkg t at_
def qc0 (W:Wd) (pkg:Int):List Ty→Nat→Prop
 | [],_=>True
 | t::r,at_=>((under W ⟨t,at_,pkg⟩).of.kind=5∧qdp W pkg t at_)∧qc0 W pkg r (at_+t.size)
def qcr (W:Wd) (pkg:Int):List Fd→List Fd→Nat→Prop
 | _,[],_=>True
 | prev,.mk n e t::r,at_=>((∀ g∈prev,fname W (.mk n e t)≠8→fname W (.mk n e t)≠fname W g)∧qdp W pkg t (at_+1)∧(e=true→qdo W pkg ⟨t,at_+1,pkg⟩))∧
   qcr W pkg (prev++[.mk n e t]) r (at_+(1+t.size))
end
def qcj (W:Wd) (s:Spot):Prop:=qdp W s.pkg s.of s.at_
def qen (W:Wd) (d:Nat):Prop:=
 let u:=under W (qad W d)
 let x:=dc W d
 ¬ (u.of.kind=2∧(under W (qaq u)).of.kind=2)∧(x.methods≠[]→u.of.kind≠2∧u.of.kind≠5)∧
 (∀ m∈x.methods,IsNm m.name∧m.name≠8)∧qb1 (x.methods.map Meth.name)∧
 (∀ m∈x.methods,∀ f∈u.of.fields,idL u.pkg (fname W f)≠idL x.pkg m.name)
structure qfz (W:Wd) (t:Ty):Prop where
 names:∀ d,d<W.length→IsNm (dc W d).name∧(dc W d).name≠8∧((dc W d).pkg=0∨(dc W d).pkg=1)∧qam W d true (dc W d).of∧((dc W d).alias=true→(dc W d).methods=[])
 distinct:∀ d e,d<e→e<W.length→(dc W d).name=(dc W e).name→(dc W d).pkg≠(dc W e).pkg
 formed:qam W (-1) true t
 valid:∀ d,d<W.length→qcj W (qad W d)
 declared:∀ d,d<W.length→qen W d
 validT:qcj W (operand W t)
