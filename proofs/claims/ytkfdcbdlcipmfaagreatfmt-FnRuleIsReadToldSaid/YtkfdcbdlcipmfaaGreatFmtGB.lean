/-
  DERIVED: THE SHELF's CONTRACTS AT THIS DUMP, IN PLAIN WORDS (tools/lay-plain.mjs out of 'TryzShelf.lean', which tools/lay-shelf.mjs wrote): THE SAME DECLARATIONS UNDER THE SAME NAMES: 'import', 'namespace', 'open', 'def', 'theorem' AND NOTHING ELSE: no command of the shelf's: FOR A HAND-IN. Each laying: the table of numbers ('.._ren') and one theorem, a field a fact of the dump's own or the kernel's comparison; each contract: ONE APPLICATION.
-/
import Derived.Shelf.Strings.Builder1
import Derived.Shelf.Strings.Builder2
import Derived.Shelf.Strings.OnBuilder
import Derived.Shelf.Small.Utf8
import Derived.Shelf.Small.Strs
import Derived.Shelf.Strings.BuilderF
import Derived.Shelf.Strings.BuilderK
import Derived.Shelf.Strings.BuilderRune
import Derived.Shelf.Strings.Builder2Cap
import Derived.Shelf.Strings.Search1
import Derived.Shelf.Strings.Prefix
import Derived.Shelf.Strings.Fold
import Derived.Shelf.Unicode.Latin
import Derived.Shelf.Unicode.Decode
import Derived.Shelf.Unicode.DecodeSlow
import Derived.Shelf.Unicode.DecodeAny
import Derived.Shelf.Unicode.CaseLookup
import Derived.Shelf.Unicode.CaseConvert
import Derived.Shelf.Unicode.CaseTo
import Derived.Shelf.Unicode.CaseLaid
import Derived.Shelf.Strings.MapAny
import Derived.Shelf.Strings.CaseAny
import Derived.Test.YtkfdcbdlcipmfaaGreatFmtProg
set_option linter.unusedVariables false
set_option linter.unusedSimpArgs false
namespace Go.Proofs
open Go.Shelf
def Tryz.lays169_ren : Go.Shelf.Ren := ⟨fun | 169 => 124 | n => n, fun | 70 => 319 | 9 => 9 | 0 => 0 | 72 => 321 | 37 => 117 | 127 => 374 | 3 => 3 | 5 => 5 | n => n, fun | n => n⟩
theorem Tryz.lays169 : Go.Proofs.Lays.n169 Tryz.prog Tryz.lays169_ren := {
 mixed := by kernel_rfl
 f169 := Tryz.func124.trans (congrArg some (by kernel_rfl))
 t0 := Tryz.underlying0
 a0 := Tryz.isAgg0
 z0 := Tryz.sizeOf0
 v0 := Tryz.zeroValue0
 t3 := Tryz.underlying3
 a3 := Tryz.isAgg3
 z3 := Tryz.sizeOf3
 v3 := Tryz.zeroValue3
 t9 := Tryz.underlying9
 a9 := Tryz.isAgg9
 z9 := Tryz.sizeOf9
 v9 := Tryz.zeroValue9
 t37 := Tryz.underlying117
 a37 := Tryz.isAgg117
 z37 := Tryz.sizeOf117
 v37 := Tryz.zeroValue117
 t70 := Tryz.underlying319
 a70 := Tryz.isAgg319
 z70 := Tryz.sizeOf319
 v70 := Tryz.zeroValue319
 t72 := Tryz.underlying321
 a72 := Tryz.isAgg321
 z72 := Tryz.sizeOf321
 v72 := Tryz.zeroValue321
 t127 := Tryz.underlying374
 a127 := Tryz.isAgg374
 z127 := Tryz.sizeOf374
 v127 := Tryz.zeroValue374 }
theorem Tryz.Builder_Extra_169 : Builder.Extra Tryz.prog Tryz.lays169_ren := {
 sizeBuilder := by kernel_rfl
 liesBuilder := by kernel_rfl
 t5 := Tryz.underlying5
 a5 := Tryz.isAgg5
 z5 := Tryz.sizeOf5
 v5 := Tryz.zeroValue5
 infoByte := by kernel_rfl
 cellsByte := by kernel_rfl
 sizeByte := by kernel_rfl
 neB5 := by decide }
open Go.RowKit in
theorem Tryz.Builder_String (B b : Nat) (l : List UInt8) (w : World) (h : Lib.IsBuilder 321 5 B b (Lib.byteCells l) w) (h0 : l ≠ []) :
  Calls Tryz.prog 124 #[.pointer (some ⟨b, 0, none⟩)] w fun e w' => e = .returned (.string ⟨l.toArray⟩) ∧ Below B w w' := Any.Builder_String Tryz.lays169 Tryz.Builder_Extra_169 B b l w h h0
open Go.RowKit in
theorem Tryz.Builder_String_empty (B b : Nat) (w : World) (h : Lib.IsBuilder 321 5 B b [] w) (hBw : B ≤ w.heap.size) :
  Calls Tryz.prog 124 #[.pointer (some ⟨b, 0, none⟩)] w fun e w' => e = .returned (.string ⟨#[]⟩) ∧ Below B w w' := Any.Builder_String_empty Tryz.lays169 Tryz.Builder_Extra_169 B b w h hBw
open Go.RowKit in
theorem Tryz.Builder_String_any (B b : Nat) (l : List UInt8) (w : World) (h : Lib.IsBuilder 321 5 B b (Lib.byteCells l) w) (hBw : B ≤ w.heap.size) :
  Calls Tryz.prog 124 #[.pointer (some ⟨b, 0, none⟩)] w fun e w' => e = .returned (.string ⟨l.toArray⟩) ∧ Below B w w' := Any.Builder_String_any Tryz.lays169 Tryz.Builder_Extra_169 B b l w h hBw
def Tryz.lays241_ren : Go.Shelf.Ren := ⟨fun | 241 => 146 | 277 => 159 | n => n, fun | 70 => 319 | 3 => 3 | 0 => 0 | 72 => 321 | 37 => 117 | 5 => 5 | n => n, fun | n => n⟩
theorem Tryz.lays241 : Go.Proofs.Lays.n241 Tryz.prog Tryz.lays241_ren := {
 mixed := by kernel_rfl
 f241 := Tryz.func146.trans (congrArg some (by kernel_rfl))
 f277 := Tryz.func159.trans (congrArg some (by kernel_rfl))
 t0 := Tryz.underlying0
 a0 := Tryz.isAgg0
 z0 := Tryz.sizeOf0
 v0 := Tryz.zeroValue0
 t3 := Tryz.underlying3
 a3 := Tryz.isAgg3
 z3 := Tryz.sizeOf3
 v3 := Tryz.zeroValue3
 t37 := Tryz.underlying117
 a37 := Tryz.isAgg117
 z37 := Tryz.sizeOf117
 v37 := Tryz.zeroValue117
 t70 := Tryz.underlying319
 a70 := Tryz.isAgg319
 z70 := Tryz.sizeOf319
 v70 := Tryz.zeroValue319
 t72 := Tryz.underlying321
 a72 := Tryz.isAgg321
 z72 := Tryz.sizeOf321
 v72 := Tryz.zeroValue321 }
theorem Tryz.Builder_Extra_241 : Builder.Extra Tryz.prog Tryz.lays241_ren := {
 sizeBuilder := by kernel_rfl
 liesBuilder := by kernel_rfl
 t5 := Tryz.underlying5
 a5 := Tryz.isAgg5
 z5 := Tryz.sizeOf5
 v5 := Tryz.zeroValue5
 infoByte := by kernel_rfl
 cellsByte := by kernel_rfl
 sizeByte := by kernel_rfl
 neB5 := by decide }
open Go.RowKit in
theorem Tryz.Builder_grow_fresh (B b n : Nat) (w : World) (hB : B ≤ b) (hbk : w.heap[b]? = some (.cells #[.pointer (some ⟨b, 0, none⟩), .slice none 0 0] 321 (0, 0))) (hBw : B ≤ w.heap.size) (hn : n ≤ 281474976710656) :
  Calls Tryz.prog 146 #[.pointer (some ⟨b, 0, none⟩), .int .i64 n] w fun e w' => e = .returned (.tuple #[]) ∧ (Lib.BuilderAt 321 5 B b (.pointer (some ⟨b, 0, none⟩)) [] w' ∧ Below B w w') := Any.Builder_grow_fresh Tryz.lays241 Tryz.Builder_Extra_241 B b n w hB hbk hBw hn
def Tryz.lays165_ren : Go.Shelf.Ren := ⟨fun | 165 => 122 | 240 => 145 | 241 => 146 | 276 => 158 | 277 => 159 | n => n, fun | 70 => 319 | 3 => 3 | 0 => 0 | 4 => 4 | 9 => 9 | 20 => 20 | 72 => 321 | 37 => 117 | 164 => 391 | 5 => 5 | n => n, fun | n => n⟩
theorem Tryz.lays165 : Go.Proofs.Lays.n165 Tryz.prog Tryz.lays165_ren := {
 mixed := by kernel_rfl
 f165 := Tryz.func122.trans (congrArg some (by kernel_rfl))
 f240 := Tryz.func145.trans (congrArg some (by kernel_rfl))
 f241 := Tryz.func146.trans (congrArg some (by kernel_rfl))
 f276 := Tryz.func158.trans (congrArg some (by kernel_rfl))
 f277 := Tryz.func159.trans (congrArg some (by kernel_rfl))
 t0 := Tryz.underlying0
 a0 := Tryz.isAgg0
 z0 := Tryz.sizeOf0
 v0 := Tryz.zeroValue0
 t3 := Tryz.underlying3
 a3 := Tryz.isAgg3
 z3 := Tryz.sizeOf3
 v3 := Tryz.zeroValue3
 t4 := Tryz.underlying4
 a4 := Tryz.isAgg4
 z4 := Tryz.sizeOf4
 v4 := Tryz.zeroValue4
 t9 := Tryz.underlying9
 a9 := Tryz.isAgg9
 z9 := Tryz.sizeOf9
 v9 := Tryz.zeroValue9
 t20 := Tryz.underlying20
 a20 := Tryz.isAgg20
 z20 := Tryz.sizeOf20
 v20 := Tryz.zeroValue20
 t37 := Tryz.underlying117
 a37 := Tryz.isAgg117
 z37 := Tryz.sizeOf117
 v37 := Tryz.zeroValue117
 t70 := Tryz.underlying319
 a70 := Tryz.isAgg319
 z70 := Tryz.sizeOf319
 v70 := Tryz.zeroValue319
 t72 := Tryz.underlying321
 a72 := Tryz.isAgg321
 z72 := Tryz.sizeOf321
 v72 := Tryz.zeroValue321
 t164 := Tryz.underlying391
 a164 := Tryz.isAgg391
 z164 := Tryz.sizeOf391
 v164 := Tryz.zeroValue391 }
theorem Tryz.Builder_Extra_165 : Builder.Extra Tryz.prog Tryz.lays165_ren := {
 sizeBuilder := by kernel_rfl
 liesBuilder := by kernel_rfl
 t5 := Tryz.underlying5
 a5 := Tryz.isAgg5
 z5 := Tryz.sizeOf5
 v5 := Tryz.zeroValue5
 infoByte := by kernel_rfl
 cellsByte := by kernel_rfl
 sizeByte := by kernel_rfl
 neB5 := by decide }
open Go.RowKit in
theorem Tryz.Builder_Grow_fresh (B b n : Nat) (w : World) (hB : B ≤ b) (hbk : w.heap[b]? = some (.cells #[.pointer none, .slice none 0 0] 321 (0, 0))) (hBw : B ≤ w.heap.size) (hn : n ≤ 281474976710656) :
  Calls Tryz.prog 122 #[.pointer (some ⟨b, 0, none⟩), .int .i64 n] w fun e w' => e = .returned (.tuple #[]) ∧ (Lib.BuilderAt 321 5 B b (.pointer (some ⟨b, 0, none⟩)) [] w' ∧ Below B w w') := Any.Builder_Grow_fresh Tryz.lays165 Tryz.Builder_Extra_165 B b n w hB hbk hBw hn
def Tryz.lays159_ren : Go.Shelf.Ren := ⟨fun | 159 => 136 | 165 => 122 | 166 => 123 | 167 => 134 | 169 => 124 | 230 => 154 | 204 => 155 | 240 => 145 | 241 => 146 | 197 => 100 | 118 => 116 | 168 => 160 | 270 => 161 | 262 => 162 | 276 => 158 | 277 => 159 | 260 => 131 | 242 => 164 | 313 => 165 | 278 => 166 | 274 => 149 | 275 => 150 | n => n, fun | 9 => 9 | 4 => 4 | 3 => 3 | 5 => 5 | 72 => 321 | 0 => 0 | 76 => 325 | 75 => 324 | 107 => 339 | 70 => 319 | 20 => 20 | 37 => 117 | 127 => 374 | 21 => 21 | 105 => 264 | 164 => 391 | 162 => 387 | 203 => 401 | 119 => 377 | 46 => 167 | 139 => 380 | 138 => 379 | 51 => 102 | 160 => 385 | 208 => 397 | 206 => 395 | 80 => 147 | n => n, fun | 13 => 5 | 3 => 1 | 4 => 2 | n => n⟩
theorem Tryz.lays159 : Go.Proofs.Lays.n159 Tryz.prog Tryz.lays159_ren := {
 mixed := by kernel_rfl
 f118 := Tryz.func116.trans (congrArg some (by kernel_rfl))
 f159 := Tryz.func136.trans (congrArg some (by kernel_rfl))
 f165 := Tryz.func122.trans (congrArg some (by kernel_rfl))
 f166 := Tryz.func123.trans (congrArg some (by kernel_rfl))
 f167 := Tryz.func134.trans (congrArg some (by kernel_rfl))
 f168 := Tryz.func160.trans (congrArg some (by kernel_rfl))
 f169 := Tryz.func124.trans (congrArg some (by kernel_rfl))
 f197 := Tryz.func100.trans (congrArg some (by kernel_rfl))
 f204 := Tryz.func155.trans (congrArg some (by kernel_rfl))
 f230 := Tryz.func154.trans (congrArg some (by kernel_rfl))
 f240 := Tryz.func145.trans (congrArg some (by kernel_rfl))
 f241 := Tryz.func146.trans (congrArg some (by kernel_rfl))
 f242 := Tryz.func164.trans (congrArg some (by kernel_rfl))
 f260 := Tryz.func131.trans (congrArg some (by kernel_rfl))
 f262 := Tryz.func162.trans (congrArg some (by kernel_rfl))
 f270 := Tryz.func161.trans (congrArg some (by kernel_rfl))
 f274 := Tryz.func149.trans (congrArg some (by kernel_rfl))
 f275 := Tryz.func150.trans (congrArg some (by kernel_rfl))
 f276 := Tryz.func158.trans (congrArg some (by kernel_rfl))
 f277 := Tryz.func159.trans (congrArg some (by kernel_rfl))
 f278 := Tryz.func166.trans (congrArg some (by kernel_rfl))
 f313 := Tryz.func165.trans (congrArg some (by kernel_rfl))
 t0 := Tryz.underlying0
 a0 := Tryz.isAgg0
 z0 := Tryz.sizeOf0
 v0 := Tryz.zeroValue0
 t3 := Tryz.underlying3
 a3 := Tryz.isAgg3
 z3 := Tryz.sizeOf3
 v3 := Tryz.zeroValue3
 t4 := Tryz.underlying4
 a4 := Tryz.isAgg4
 z4 := Tryz.sizeOf4
 v4 := Tryz.zeroValue4
 t5 := Tryz.underlying5
 a5 := Tryz.isAgg5
 z5 := Tryz.sizeOf5
 v5 := Tryz.zeroValue5
 t9 := Tryz.underlying9
 a9 := Tryz.isAgg9
 z9 := Tryz.sizeOf9
 v9 := Tryz.zeroValue9
 t20 := Tryz.underlying20
 a20 := Tryz.isAgg20
 z20 := Tryz.sizeOf20
 v20 := Tryz.zeroValue20
 t21 := Tryz.underlying21
 a21 := Tryz.isAgg21
 z21 := Tryz.sizeOf21
 v21 := Tryz.zeroValue21
 t37 := Tryz.underlying117
 a37 := Tryz.isAgg117
 z37 := Tryz.sizeOf117
 v37 := Tryz.zeroValue117
 t46 := Tryz.underlying167
 a46 := Tryz.isAgg167
 z46 := Tryz.sizeOf167
 v46 := Tryz.zeroValue167
 t51 := Tryz.underlying102
 a51 := Tryz.isAgg102
 z51 := Tryz.sizeOf102
 v51 := Tryz.zeroValue102
 t70 := Tryz.underlying319
 a70 := Tryz.isAgg319
 z70 := Tryz.sizeOf319
 v70 := Tryz.zeroValue319
 t72 := Tryz.underlying321
 a72 := Tryz.isAgg321
 z72 := Tryz.sizeOf321
 v72 := Tryz.zeroValue321
 t75 := Tryz.underlying324
 a75 := Tryz.isAgg324
 z75 := Tryz.sizeOf324
 v75 := Tryz.zeroValue324
 t76 := Tryz.underlying325
 a76 := Tryz.isAgg325
 z76 := Tryz.sizeOf325
 v76 := Tryz.zeroValue325
 t105 := Tryz.underlying264
 a105 := Tryz.isAgg264
 z105 := Tryz.sizeOf264
 v105 := Tryz.zeroValue264
 t107 := Tryz.underlying339
 a107 := Tryz.isAgg339
 z107 := Tryz.sizeOf339
 v107 := Tryz.zeroValue339
 t119 := Tryz.underlying377
 a119 := Tryz.isAgg377
 z119 := Tryz.sizeOf377
 t127 := Tryz.underlying374
 a127 := Tryz.isAgg374
 z127 := Tryz.sizeOf374
 v127 := Tryz.zeroValue374
 t138 := Tryz.underlying379
 a138 := Tryz.isAgg379
 z138 := Tryz.sizeOf379
 v138 := Tryz.zeroValue379
 t139 := Tryz.underlying380
 a139 := Tryz.isAgg380
 z139 := Tryz.sizeOf380
 v139 := Tryz.zeroValue380
 t160 := Tryz.underlying385
 a160 := Tryz.isAgg385
 z160 := Tryz.sizeOf385
 v160 := Tryz.zeroValue385
 t162 := Tryz.underlying387
 a162 := Tryz.isAgg387
 z162 := Tryz.sizeOf387
 v162 := Tryz.zeroValue387
 t164 := Tryz.underlying391
 a164 := Tryz.isAgg391
 z164 := Tryz.sizeOf391
 v164 := Tryz.zeroValue391
 t203 := Tryz.underlying401
 a203 := Tryz.isAgg401
 z203 := Tryz.sizeOf401
 v203 := Tryz.zeroValue401
 t206 := Tryz.underlying395
 a206 := Tryz.isAgg395
 z206 := Tryz.sizeOf395
 v206 := Tryz.zeroValue395
 t208 := Tryz.underlying397
 a208 := Tryz.isAgg397
 z208 := Tryz.sizeOf397
 v208 := Tryz.zeroValue397
 g3 := by kernel_rfl
 g4 := by kernel_rfl
 g13 := by kernel_rfl }
theorem Tryz.Builder_Extra_159 : Builder.Extra Tryz.prog Tryz.lays159_ren := {
 sizeBuilder := by kernel_rfl
 liesBuilder := by kernel_rfl
 t5 := Tryz.underlying5
 a5 := Tryz.isAgg5
 z5 := Tryz.sizeOf5
 v5 := Tryz.zeroValue5
 infoByte := by kernel_rfl
 cellsByte := by kernel_rfl
 sizeByte := by kernel_rfl
 neB5 := by decide }
open Go.RowKit in
theorem Tryz.strings_ToLower_ascii (s : ByteArray) (w : World) (hs : s.size ≤ 140737488355328) (hascii : ∀ (j : Nat) (b : UInt8), s.data.toList[j]? = some b → b.toNat < 128) :
  Calls Tryz.prog 136 #[.string s] w fun e w' => e = .returned (.string ⟨(Lib.toLowerA s.data.toList).toArray⟩) ∧ Below w.heap.size w w' := Any.strings_ToLower_ascii Tryz.lays159 Tryz.Builder_Extra_159 s w hs hascii
def Tryz.lays156_ren : Go.Shelf.Ren := ⟨fun | 156 => 87 | 165 => 122 | 166 => 123 | 169 => 124 | 240 => 145 | 241 => 146 | 276 => 158 | 277 => 159 | n => n, fun | 31 => 118 | 9 => 9 | 3 => 3 | 4 => 4 | 0 => 0 | 20 => 20 | 72 => 321 | 76 => 325 | 70 => 319 | 37 => 117 | 75 => 324 | 127 => 374 | 164 => 391 | 5 => 5 | 80 => 147 | n => n, fun | n => n⟩
theorem Tryz.lays156 : Go.Proofs.Lays.n156 Tryz.prog Tryz.lays156_ren := {
 mixed := by kernel_rfl
 f156 := Tryz.func87.trans (congrArg some (by kernel_rfl))
 f165 := Tryz.func122.trans (congrArg some (by kernel_rfl))
 f166 := Tryz.func123.trans (congrArg some (by kernel_rfl))
 f169 := Tryz.func124.trans (congrArg some (by kernel_rfl))
 f240 := Tryz.func145.trans (congrArg some (by kernel_rfl))
 f241 := Tryz.func146.trans (congrArg some (by kernel_rfl))
 f276 := Tryz.func158.trans (congrArg some (by kernel_rfl))
 f277 := Tryz.func159.trans (congrArg some (by kernel_rfl))
 t0 := Tryz.underlying0
 a0 := Tryz.isAgg0
 z0 := Tryz.sizeOf0
 v0 := Tryz.zeroValue0
 t3 := Tryz.underlying3
 a3 := Tryz.isAgg3
 z3 := Tryz.sizeOf3
 v3 := Tryz.zeroValue3
 t4 := Tryz.underlying4
 a4 := Tryz.isAgg4
 z4 := Tryz.sizeOf4
 v4 := Tryz.zeroValue4
 t9 := Tryz.underlying9
 a9 := Tryz.isAgg9
 z9 := Tryz.sizeOf9
 v9 := Tryz.zeroValue9
 t20 := Tryz.underlying20
 a20 := Tryz.isAgg20
 z20 := Tryz.sizeOf20
 v20 := Tryz.zeroValue20
 t31 := Tryz.underlying118
 a31 := Tryz.isAgg118
 z31 := Tryz.sizeOf118
 v31 := Tryz.zeroValue118
 t37 := Tryz.underlying117
 a37 := Tryz.isAgg117
 z37 := Tryz.sizeOf117
 v37 := Tryz.zeroValue117
 t70 := Tryz.underlying319
 a70 := Tryz.isAgg319
 z70 := Tryz.sizeOf319
 v70 := Tryz.zeroValue319
 t72 := Tryz.underlying321
 a72 := Tryz.isAgg321
 z72 := Tryz.sizeOf321
 v72 := Tryz.zeroValue321
 t75 := Tryz.underlying324
 a75 := Tryz.isAgg324
 z75 := Tryz.sizeOf324
 v75 := Tryz.zeroValue324
 t76 := Tryz.underlying325
 a76 := Tryz.isAgg325
 z76 := Tryz.sizeOf325
 v76 := Tryz.zeroValue325
 t127 := Tryz.underlying374
 a127 := Tryz.isAgg374
 z127 := Tryz.sizeOf374
 v127 := Tryz.zeroValue374
 t164 := Tryz.underlying391
 a164 := Tryz.isAgg391
 z164 := Tryz.sizeOf391
 v164 := Tryz.zeroValue391 }
theorem Tryz.Builder_Extra_156 : Builder.Extra Tryz.prog Tryz.lays156_ren := {
 sizeBuilder := by kernel_rfl
 liesBuilder := by kernel_rfl
 t5 := Tryz.underlying5
 a5 := Tryz.isAgg5
 z5 := Tryz.sizeOf5
 v5 := Tryz.zeroValue5
 infoByte := by kernel_rfl
 cellsByte := by kernel_rfl
 sizeByte := by kernel_rfl
 neB5 := by decide }
open Go.RowKit in
theorem Tryz.strings_Join_none (a : Option Addr) (c : Nat) (sep : ByteArray) (w : World) :
  Calls Tryz.prog 87 #[.slice a 0 c, .string sep] w fun e w' => e = .returned (.string ⟨#[]⟩) ∧ w' = w := Any.strings_Join_none Tryz.lays156 Tryz.Builder_Extra_156 a c sep w
open Go.RowKit in
theorem Tryz.strings_Join (bk o c : Nat) (xs : List ByteArray) (sep : ByteArray) (w : World) (hcells : ∀ (j : Nat) x, xs[j]? = some x → w.cell? ⟨bk, o + j, none⟩ = some (.string x)) (hbk : bk < w.heap.size) (hN : xs.length ≤ 140737488355328) (hcap : xs.length ≤ c) (hlen : (Lib.join (xs.map (·.data.toList)) sep.data.toList).length ≤ 140737488355328) :
  Calls Tryz.prog 87 #[.slice (some ⟨bk, o, none⟩) xs.length c, .string sep] w fun e w' => e = .returned (.string ⟨(Lib.join (xs.map (·.data.toList)) sep.data.toList).toArray⟩) ∧ Below w.heap.size w w' := Any.strings_Join Tryz.lays156 Tryz.Builder_Extra_156 bk o c xs sep w hcells hbk hN hcap hlen
def Tryz.lays118_ren : Go.Shelf.Ren := ⟨fun | 118 => 116 | n => n, fun | 21 => 21 | 3 => 3 | 4 => 4 | n => n, fun | n => n⟩
theorem Tryz.lays118 : Go.Proofs.Lays.n118 Tryz.prog Tryz.lays118_ren := {
 mixed := by kernel_rfl
 f118 := Tryz.func116.trans (congrArg some (by kernel_rfl))
 t3 := Tryz.underlying3
 a3 := Tryz.isAgg3
 z3 := Tryz.sizeOf3
 v3 := Tryz.zeroValue3
 t4 := Tryz.underlying4
 a4 := Tryz.isAgg4
 z4 := Tryz.sizeOf4
 v4 := Tryz.zeroValue4
 t21 := Tryz.underlying21
 a21 := Tryz.isAgg21
 z21 := Tryz.sizeOf21
 v21 := Tryz.zeroValue21 }
theorem Tryz.utf8_RuneLen (r : Int) (w : World) :
  Calls Tryz.prog 116 #[.int .i32 r] w fun e w' => e = .returned (.int .i64 (Lib.runeLen r)) ∧ w' = w := Any.utf8_RuneLen Tryz.lays118 r w
def Tryz.lays137_ren : Go.Shelf.Ren := ⟨fun | 137 => 121 | 217 => 144 | 266 => 157 | n => n, fun | 9 => 9 | 5 => 5 | 3 => 3 | n => n, fun | n => n⟩
theorem Tryz.lays137 : Go.Proofs.Lays.n137 Tryz.prog Tryz.lays137_ren := {
 mixed := by kernel_rfl
 f137 := Tryz.func121.trans (congrArg some (by kernel_rfl))
 f217 := Tryz.func144.trans (congrArg some (by kernel_rfl))
 f266 := Tryz.func157.trans (congrArg some (by kernel_rfl))
 t3 := Tryz.underlying3
 a3 := Tryz.isAgg3
 z3 := Tryz.sizeOf3
 v3 := Tryz.zeroValue3
 t5 := Tryz.underlying5
 a5 := Tryz.isAgg5
 z5 := Tryz.sizeOf5
 v5 := Tryz.zeroValue5
 t9 := Tryz.underlying9
 a9 := Tryz.isAgg9
 z9 := Tryz.sizeOf9
 v9 := Tryz.zeroValue9 }
open Go.RowKit in
theorem Tryz.strings_IndexByte (s : ByteArray) (c : Int) (w : World) :
  Calls Tryz.prog 121 #[.string s, .int .u8 c] w fun e w' => e = .returned (.int .i64 (Lib.indexByte s.data.toList c.toNat.toUInt8)) ∧ w' = w := Any.strings_IndexByte Tryz.lays137 s c w
open Go.RowKit in
theorem Tryz.Builder_String_f (B b : Nat) (l : List UInt8) (w : World) (h : Lib.IsBuilderF 321 5 B b (Lib.byteCells l) w) (h0 : l ≠ []) :
  Calls Tryz.prog 124 #[.pointer (some ⟨b, 0, none⟩)] w fun e w' => e = .returned (.string ⟨l.toArray⟩) ∧ (Lib.IsBuilderF 321 5 B b (Lib.byteCells l) w' ∧ Below B w w') := Any.Builder_String_f Tryz.lays169 Tryz.Builder_Extra_169 B b l w h h0
open Go.RowKit in
theorem Tryz.Builder_String_empty_f (B b : Nat) (w : World) (h : Lib.IsBuilderF 321 5 B b [] w) (hBw : B ≤ w.heap.size) :
  Calls Tryz.prog 124 #[.pointer (some ⟨b, 0, none⟩)] w fun e w' => e = .returned (.string ⟨#[]⟩) ∧ (Lib.IsBuilderF 321 5 B b [] w' ∧ Below B w w') := Any.Builder_String_empty_f Tryz.lays169 Tryz.Builder_Extra_169 B b w h hBw
open Go.RowKit in
theorem Tryz.Builder_String_any_f (B b : Nat) (l : List UInt8) (w : World) (h : Lib.IsBuilderF 321 5 B b (Lib.byteCells l) w) (hBw : B ≤ w.heap.size) :
  Calls Tryz.prog 124 #[.pointer (some ⟨b, 0, none⟩)] w fun e w' => e = .returned (.string ⟨l.toArray⟩) ∧ (Lib.IsBuilderF 321 5 B b (Lib.byteCells l) w' ∧ Below B w w') := Any.Builder_String_any_f Tryz.lays169 Tryz.Builder_Extra_169 B b l w h hBw
open Go.RowKit in
theorem Tryz.Builder_String_k (B b : Nat) (l : List UInt8) (w : World) (h : Lib.IsBuilderF 321 5 B b (Lib.byteCells l) w) (h0 : l ≠ []) :
  Calls Tryz.prog 124 #[.pointer (some ⟨b, 0, none⟩)] w fun e w' => e = .returned (.string ⟨l.toArray⟩) ∧ (Lib.IsBuilderF 321 5 B b (Lib.byteCells l) w' ∧ Below B w w' ∧ Lib.OthersKept 5 (some b) w w') := Any.Builder_String_k Tryz.lays169 Tryz.Builder_Extra_169 B b l w h h0
open Go.RowKit in
theorem Tryz.Builder_String_empty_k (B b : Nat) (w : World) (h : Lib.IsBuilderF 321 5 B b [] w) (hBw : B ≤ w.heap.size) :
  Calls Tryz.prog 124 #[.pointer (some ⟨b, 0, none⟩)] w fun e w' => e = .returned (.string ⟨#[]⟩) ∧ (Lib.IsBuilderF 321 5 B b [] w' ∧ Below B w w' ∧ Lib.OthersKept 5 (some b) w w') := Any.Builder_String_empty_k Tryz.lays169 Tryz.Builder_Extra_169 B b w h hBw
open Go.RowKit in
theorem Tryz.Builder_String_any_k (B b : Nat) (l : List UInt8) (w : World) (h : Lib.IsBuilderF 321 5 B b (Lib.byteCells l) w) (hBw : B ≤ w.heap.size) :
  Calls Tryz.prog 124 #[.pointer (some ⟨b, 0, none⟩)] w fun e w' => e = .returned (.string ⟨l.toArray⟩) ∧ (Lib.IsBuilderF 321 5 B b (Lib.byteCells l) w' ∧ Below B w w' ∧ Lib.OthersKept 5 (some b) w w') := Any.Builder_String_any_k Tryz.lays169 Tryz.Builder_Extra_169 B b l w h hBw
open Go.RowKit in
theorem Tryz.Builder_grow_fresh_cap (B b n : Nat) (w : World) (hB : B ≤ b) (hbk : w.heap[b]? = some (.cells #[.pointer (some ⟨b, 0, none⟩), .slice none 0 0] 321 (0, 0))) (hBw : B ≤ w.heap.size) (hn : n ≤ 281474976710656) :
  Calls Tryz.prog 146 #[.pointer (some ⟨b, 0, none⟩), .int .i64 n] w fun e w' => e = .returned (.tuple #[]) ∧ (Lib.BuilderAt 321 5 B b (.pointer (some ⟨b, 0, none⟩)) [] w' ∧ Below B w w') ∧ ∃ p cap, w'.cell? ⟨b, 1, none⟩ = some (.slice p 0 cap) ∧ n ≤ cap := Any.Builder_grow_fresh_cap Tryz.lays241 Tryz.Builder_Extra_241 B b n w hB hbk hBw hn
open Go.RowKit in
theorem Tryz.Builder_Grow_fresh_cap (B b n : Nat) (w : World) (hB : B ≤ b) (hbk : w.heap[b]? = some (.cells #[.pointer none, .slice none 0 0] 321 (0, 0))) (hBw : B ≤ w.heap.size) (hn : n ≤ 281474976710656) :
  Calls Tryz.prog 122 #[.pointer (some ⟨b, 0, none⟩), .int .i64 n] w fun e w' => e = .returned (.tuple #[]) ∧ (Lib.BuilderAt 321 5 B b (.pointer (some ⟨b, 0, none⟩)) [] w' ∧ Below B w w') ∧ ∃ p cap, w'.cell? ⟨b, 1, none⟩ = some (.slice p 0 cap) ∧ n ≤ cap := Any.Builder_Grow_fresh_cap Tryz.lays165 Tryz.Builder_Extra_165 B b n w hB hbk hBw hn
def Tryz.lays217_ren : Go.Shelf.Ren := ⟨fun | 217 => 144 | 266 => 157 | n => n, fun | 9 => 9 | 5 => 5 | 3 => 3 | n => n, fun | n => n⟩
theorem Tryz.lays217 : Go.Proofs.Lays.n217 Tryz.prog Tryz.lays217_ren := {
 mixed := by kernel_rfl
 f217 := Tryz.func144.trans (congrArg some (by kernel_rfl))
 f266 := Tryz.func157.trans (congrArg some (by kernel_rfl))
 t3 := Tryz.underlying3
 a3 := Tryz.isAgg3
 z3 := Tryz.sizeOf3
 v3 := Tryz.zeroValue3
 t5 := Tryz.underlying5
 a5 := Tryz.isAgg5
 z5 := Tryz.sizeOf5
 v5 := Tryz.zeroValue5
 t9 := Tryz.underlying9
 a9 := Tryz.isAgg9
 z9 := Tryz.sizeOf9
 v9 := Tryz.zeroValue9 }
open Go.RowKit Go.Lib in
theorem Tryz.stringslite_IndexByte (s : ByteArray) (c : Int) (w : World) :
  Calls Tryz.prog 144 #[.string s, .int .u8 c] w fun e w' => e = .returned (.int .i64 (Lib.indexByte s.data.toList c.toNat.toUInt8)) ∧ w' = w := Any.stringslite_IndexByte Tryz.lays217 s c w
def Tryz.lays206_ren : Go.Shelf.Ren := ⟨fun | 206 => 163 | n => n, fun | 9 => 9 | 4 => 4 | 3 => 3 | n => n, fun | n => n⟩
theorem Tryz.lays206 : Go.Proofs.Lays.n206 Tryz.prog Tryz.lays206_ren := {
 mixed := by kernel_rfl
 f206 := Tryz.func163.trans (congrArg some (by kernel_rfl))
 t3 := Tryz.underlying3
 a3 := Tryz.isAgg3
 z3 := Tryz.sizeOf3
 v3 := Tryz.zeroValue3
 t4 := Tryz.underlying4
 a4 := Tryz.isAgg4
 z4 := Tryz.sizeOf4
 v4 := Tryz.zeroValue4
 t9 := Tryz.underlying9
 a9 := Tryz.isAgg9
 z9 := Tryz.sizeOf9
 v9 := Tryz.zeroValue9 }
open Go.RowKit Go.Lib in
theorem Tryz.stringslite_HasPrefix (s p : ByteArray) (w : World) :
  Calls Tryz.prog 163 #[.string s, .string p] w fun e w' => e = .returned (.bool (Lib.hasPrefix s.data.toList p.data.toList)) ∧ w' = w := Any.stringslite_HasPrefix Tryz.lays206 s p w
def Tryz.lays99_ren : Go.Shelf.Ren := ⟨fun | 99 => 156 | 206 => 163 | n => n, fun | 9 => 9 | 4 => 4 | 3 => 3 | n => n, fun | n => n⟩
theorem Tryz.lays99 : Go.Proofs.Lays.n99 Tryz.prog Tryz.lays99_ren := {
 mixed := by kernel_rfl
 f99 := Tryz.func156.trans (congrArg some (by kernel_rfl))
 f206 := Tryz.func163.trans (congrArg some (by kernel_rfl))
 t3 := Tryz.underlying3
 a3 := Tryz.isAgg3
 z3 := Tryz.sizeOf3
 v3 := Tryz.zeroValue3
 t4 := Tryz.underlying4
 a4 := Tryz.isAgg4
 z4 := Tryz.sizeOf4
 v4 := Tryz.zeroValue4
 t9 := Tryz.underlying9
 a9 := Tryz.isAgg9
 z9 := Tryz.sizeOf9
 v9 := Tryz.zeroValue9 }
open Go.RowKit Go.Lib in
theorem Tryz.strings_HasPrefix (s p : ByteArray) (w : World) :
  Calls Tryz.prog 156 #[.string s, .string p] w fun e w' => e = .returned (.bool (Lib.hasPrefix s.data.toList p.data.toList)) ∧ w' = w := Any.strings_HasPrefix Tryz.lays99 s p w
def Tryz.lays164_ren : Go.Shelf.Ren := ⟨fun | 164 => 102 | 197 => 100 | 239 => 132 | 260 => 131 | 274 => 149 | 275 => 150 | n => n, fun | 9 => 9 | 4 => 4 | 3 => 3 | 5 => 5 | 0 => 0 | 21 => 21 | 105 => 264 | 156 => 381 | 49 => 74 | 157 => 382 | 46 => 167 | 159 => 384 | 162 => 387 | 160 => 385 | 119 => 377 | 139 => 380 | 138 => 379 | 208 => 397 | 51 => 102 | 206 => 395 | n => n, fun | 11 => 3 | 12 => 4 | 13 => 5 | 3 => 1 | 4 => 2 | n => n⟩
theorem Tryz.lays164 : Go.Proofs.Lays.n164 Tryz.prog Tryz.lays164_ren := {
 mixed := by kernel_rfl
 f164 := Tryz.func102.trans (congrArg some (by kernel_rfl))
 f197 := Tryz.func100.trans (congrArg some (by kernel_rfl))
 f239 := Tryz.func132.trans (congrArg some (by kernel_rfl))
 f260 := Tryz.func131.trans (congrArg some (by kernel_rfl))
 f274 := Tryz.func149.trans (congrArg some (by kernel_rfl))
 f275 := Tryz.func150.trans (congrArg some (by kernel_rfl))
 t0 := Tryz.underlying0
 a0 := Tryz.isAgg0
 z0 := Tryz.sizeOf0
 v0 := Tryz.zeroValue0
 t3 := Tryz.underlying3
 a3 := Tryz.isAgg3
 z3 := Tryz.sizeOf3
 v3 := Tryz.zeroValue3
 t4 := Tryz.underlying4
 a4 := Tryz.isAgg4
 z4 := Tryz.sizeOf4
 v4 := Tryz.zeroValue4
 t5 := Tryz.underlying5
 a5 := Tryz.isAgg5
 z5 := Tryz.sizeOf5
 v5 := Tryz.zeroValue5
 t9 := Tryz.underlying9
 a9 := Tryz.isAgg9
 z9 := Tryz.sizeOf9
 v9 := Tryz.zeroValue9
 t21 := Tryz.underlying21
 a21 := Tryz.isAgg21
 z21 := Tryz.sizeOf21
 v21 := Tryz.zeroValue21
 t46 := Tryz.underlying167
 a46 := Tryz.isAgg167
 z46 := Tryz.sizeOf167
 v46 := Tryz.zeroValue167
 t49 := Tryz.underlying74
 a49 := Tryz.isAgg74
 z49 := Tryz.sizeOf74
 v49 := Tryz.zeroValue74
 t51 := Tryz.underlying102
 a51 := Tryz.isAgg102
 z51 := Tryz.sizeOf102
 v51 := Tryz.zeroValue102
 t105 := Tryz.underlying264
 a105 := Tryz.isAgg264
 z105 := Tryz.sizeOf264
 v105 := Tryz.zeroValue264
 t119 := Tryz.underlying377
 a119 := Tryz.isAgg377
 z119 := Tryz.sizeOf377
 t138 := Tryz.underlying379
 a138 := Tryz.isAgg379
 z138 := Tryz.sizeOf379
 v138 := Tryz.zeroValue379
 t139 := Tryz.underlying380
 a139 := Tryz.isAgg380
 z139 := Tryz.sizeOf380
 v139 := Tryz.zeroValue380
 t156 := Tryz.underlying381
 a156 := Tryz.isAgg381
 z156 := Tryz.sizeOf381
 t157 := Tryz.underlying382
 a157 := Tryz.isAgg382
 z157 := Tryz.sizeOf382
 v157 := Tryz.zeroValue382
 t159 := Tryz.underlying384
 a159 := Tryz.isAgg384
 z159 := Tryz.sizeOf384
 v159 := Tryz.zeroValue384
 t160 := Tryz.underlying385
 a160 := Tryz.isAgg385
 z160 := Tryz.sizeOf385
 v160 := Tryz.zeroValue385
 t162 := Tryz.underlying387
 a162 := Tryz.isAgg387
 z162 := Tryz.sizeOf387
 v162 := Tryz.zeroValue387
 t206 := Tryz.underlying395
 a206 := Tryz.isAgg395
 z206 := Tryz.sizeOf395
 v206 := Tryz.zeroValue395
 t208 := Tryz.underlying397
 a208 := Tryz.isAgg397
 z208 := Tryz.sizeOf397
 v208 := Tryz.zeroValue397
 g3 := by kernel_rfl
 g4 := by kernel_rfl
 g11 := by kernel_rfl
 g12 := by kernel_rfl
 g13 := by kernel_rfl }
open Go.RowKit Go.Lib in
theorem Tryz.strings_EqualFold (s t : ByteArray) (w : World) (hs : s.size < 4294967281) (has : ∀ (j : Nat) b, s.data.toList[j]? = some b → b.toNat < 128) (hat : ∀ (j : Nat) b, t.data.toList[j]? = some b → b.toNat < 128) :
  Calls Tryz.prog 102 #[.string s, .string t] w fun e w' => e = .returned (.bool (Lib.equalFold s.data.toList t.data.toList)) ∧ w' = w := Any.strings_EqualFold Tryz.lays164 s t w hs has hat
def Tryz.lays204_ren : Go.Shelf.Ren := ⟨fun | 204 => 155 | 262 => 162 | 313 => 165 | 274 => 149 | 275 => 150 | n => n, fun | 21 => 21 | 4 => 4 | 3 => 3 | 162 => 387 | 203 => 401 | 160 => 385 | 46 => 167 | 0 => 0 | 208 => 397 | 51 => 102 | 206 => 395 | n => n, fun | 13 => 5 | n => n⟩
theorem Tryz.lays204 : Go.Proofs.Lays.n204 Tryz.prog Tryz.lays204_ren := {
 mixed := by kernel_rfl
 f204 := Tryz.func155.trans (congrArg some (by kernel_rfl))
 f262 := Tryz.func162.trans (congrArg some (by kernel_rfl))
 f274 := Tryz.func149.trans (congrArg some (by kernel_rfl))
 f275 := Tryz.func150.trans (congrArg some (by kernel_rfl))
 f313 := Tryz.func165.trans (congrArg some (by kernel_rfl))
 t0 := Tryz.underlying0
 a0 := Tryz.isAgg0
 z0 := Tryz.sizeOf0
 v0 := Tryz.zeroValue0
 t3 := Tryz.underlying3
 a3 := Tryz.isAgg3
 z3 := Tryz.sizeOf3
 v3 := Tryz.zeroValue3
 t4 := Tryz.underlying4
 a4 := Tryz.isAgg4
 z4 := Tryz.sizeOf4
 v4 := Tryz.zeroValue4
 t21 := Tryz.underlying21
 a21 := Tryz.isAgg21
 z21 := Tryz.sizeOf21
 v21 := Tryz.zeroValue21
 t46 := Tryz.underlying167
 a46 := Tryz.isAgg167
 z46 := Tryz.sizeOf167
 v46 := Tryz.zeroValue167
 t51 := Tryz.underlying102
 a51 := Tryz.isAgg102
 z51 := Tryz.sizeOf102
 v51 := Tryz.zeroValue102
 t160 := Tryz.underlying385
 a160 := Tryz.isAgg385
 z160 := Tryz.sizeOf385
 v160 := Tryz.zeroValue385
 t162 := Tryz.underlying387
 a162 := Tryz.isAgg387
 z162 := Tryz.sizeOf387
 v162 := Tryz.zeroValue387
 t203 := Tryz.underlying401
 a203 := Tryz.isAgg401
 z203 := Tryz.sizeOf401
 v203 := Tryz.zeroValue401
 t206 := Tryz.underlying395
 a206 := Tryz.isAgg395
 z206 := Tryz.sizeOf395
 v206 := Tryz.zeroValue395
 t208 := Tryz.underlying397
 a208 := Tryz.isAgg397
 z208 := Tryz.sizeOf397
 v208 := Tryz.zeroValue397
 g13 := by kernel_rfl }
open Go.RowKit Go.Lib in
theorem Tryz.unicode_ToLower (r : Int) (w : World) (h : r ≤ 127) :
  Calls Tryz.prog 155 #[.int .i32 r] w fun e w' => e = .returned (.int .i32 (Lib.toLowerR r)) ∧ w' = w := Any.unicode_ToLower Tryz.lays204 r w h
def Tryz.lays197_ren : Go.Shelf.Ren := ⟨fun | 197 => 100 | 260 => 131 | n => n, fun | 9 => 9 | 21 => 21 | 3 => 3 | 4 => 4 | 5 => 5 | 105 => 264 | 119 => 377 | 0 => 0 | 46 => 167 | 139 => 380 | 138 => 379 | n => n, fun | 3 => 1 | 4 => 2 | n => n⟩
theorem Tryz.lays197 : Go.Proofs.Lays.n197 Tryz.prog Tryz.lays197_ren := {
 mixed := by kernel_rfl
 f197 := Tryz.func100.trans (congrArg some (by kernel_rfl))
 f260 := Tryz.func131.trans (congrArg some (by kernel_rfl))
 t0 := Tryz.underlying0
 a0 := Tryz.isAgg0
 z0 := Tryz.sizeOf0
 v0 := Tryz.zeroValue0
 t3 := Tryz.underlying3
 a3 := Tryz.isAgg3
 z3 := Tryz.sizeOf3
 v3 := Tryz.zeroValue3
 t4 := Tryz.underlying4
 a4 := Tryz.isAgg4
 z4 := Tryz.sizeOf4
 v4 := Tryz.zeroValue4
 t5 := Tryz.underlying5
 a5 := Tryz.isAgg5
 z5 := Tryz.sizeOf5
 v5 := Tryz.zeroValue5
 t9 := Tryz.underlying9
 a9 := Tryz.isAgg9
 z9 := Tryz.sizeOf9
 v9 := Tryz.zeroValue9
 t21 := Tryz.underlying21
 a21 := Tryz.isAgg21
 z21 := Tryz.sizeOf21
 v21 := Tryz.zeroValue21
 t46 := Tryz.underlying167
 a46 := Tryz.isAgg167
 z46 := Tryz.sizeOf167
 v46 := Tryz.zeroValue167
 t105 := Tryz.underlying264
 a105 := Tryz.isAgg264
 z105 := Tryz.sizeOf264
 v105 := Tryz.zeroValue264
 t119 := Tryz.underlying377
 a119 := Tryz.isAgg377
 z119 := Tryz.sizeOf377
 t138 := Tryz.underlying379
 a138 := Tryz.isAgg379
 z138 := Tryz.sizeOf379
 v138 := Tryz.zeroValue379
 t139 := Tryz.underlying380
 a139 := Tryz.isAgg380
 z139 := Tryz.sizeOf380
 v139 := Tryz.zeroValue380
 g3 := by kernel_rfl
 g4 := by kernel_rfl }
open Go.RowKit Go.Lib in
theorem Tryz.utf8_DecodeRuneInString_ascii (s : ByteArray) (x : UInt8) (w : World) (h0 : s.data.toList[0]? = some x) (hx : x.toNat < 128) :
  Calls Tryz.prog 100 #[.string s] w fun e w' => e = .returned (.tuple #[.int .i32 x.toNat, .int .i64 1]) ∧ w' = w := Any.utf8_DecodeRuneInString_ascii Tryz.lays197 s x w h0 hx
def Tryz.lays260_ren : Go.Shelf.Ren := ⟨fun | 260 => 131 | n => n, fun | 9 => 9 | 21 => 21 | 3 => 3 | 4 => 4 | 5 => 5 | 119 => 377 | 0 => 0 | 46 => 167 | 139 => 380 | 138 => 379 | n => n, fun | 3 => 1 | 4 => 2 | n => n⟩
theorem Tryz.lays260 : Go.Proofs.Lays.n260 Tryz.prog Tryz.lays260_ren := {
 mixed := by kernel_rfl
 f260 := Tryz.func131.trans (congrArg some (by kernel_rfl))
 t0 := Tryz.underlying0
 a0 := Tryz.isAgg0
 z0 := Tryz.sizeOf0
 v0 := Tryz.zeroValue0
 t3 := Tryz.underlying3
 a3 := Tryz.isAgg3
 z3 := Tryz.sizeOf3
 v3 := Tryz.zeroValue3
 t4 := Tryz.underlying4
 a4 := Tryz.isAgg4
 z4 := Tryz.sizeOf4
 v4 := Tryz.zeroValue4
 t5 := Tryz.underlying5
 a5 := Tryz.isAgg5
 z5 := Tryz.sizeOf5
 v5 := Tryz.zeroValue5
 t9 := Tryz.underlying9
 a9 := Tryz.isAgg9
 z9 := Tryz.sizeOf9
 v9 := Tryz.zeroValue9
 t21 := Tryz.underlying21
 a21 := Tryz.isAgg21
 z21 := Tryz.sizeOf21
 v21 := Tryz.zeroValue21
 t46 := Tryz.underlying167
 a46 := Tryz.isAgg167
 z46 := Tryz.sizeOf167
 v46 := Tryz.zeroValue167
 t119 := Tryz.underlying377
 a119 := Tryz.isAgg377
 z119 := Tryz.sizeOf377
 t138 := Tryz.underlying379
 a138 := Tryz.isAgg379
 z138 := Tryz.sizeOf379
 v138 := Tryz.zeroValue379
 t139 := Tryz.underlying380
 a139 := Tryz.isAgg380
 z139 := Tryz.sizeOf380
 v139 := Tryz.zeroValue380
 g3 := by kernel_rfl
 g4 := by kernel_rfl }
open Go.RowKit Go.Lib in
theorem Tryz.utf8_decodeRuneInStringSlow (s : ByteArray) (w : World) (hT : Lib.Utf8Tabs 1 2 w) :
  Calls Tryz.prog 131 #[.string s] w fun e w' => e = .returned (.tuple #[.int .i32 (Lib.decodeGo s).1, .int .i64 (Lib.decodeGo s).2]) ∧ Below w.heap.size w w' := Any.utf8_decodeRuneInStringSlow Tryz.lays260 s w hT
open Go.RowKit Go.Lib in
theorem Tryz.utf8_DecodeRuneInString (s : ByteArray) (w : World) (hT : Lib.Utf8Tabs 1 2 w) :
  Calls Tryz.prog 100 #[.string s] w fun e w' => e = .returned (.tuple #[.int .i32 (Lib.decodeGo s).1, .int .i64 (Lib.decodeGo s).2]) ∧ Below w.heap.size w w' := Any.utf8_DecodeRuneInString Tryz.lays197 s w hT
def Tryz.lays274_ren : Go.Shelf.Ren := ⟨fun | 274 => 149 | n => n, fun | 21 => 21 | 162 => 387 | 160 => 385 | 3 => 3 | 4 => 4 | 46 => 167 | 0 => 0 | 208 => 397 | 51 => 102 | 206 => 395 | n => n, fun | n => n⟩
theorem Tryz.lays274 : Go.Proofs.Lays.n274 Tryz.prog Tryz.lays274_ren := {
 mixed := by kernel_rfl
 f274 := Tryz.func149.trans (congrArg some (by kernel_rfl))
 t0 := Tryz.underlying0
 a0 := Tryz.isAgg0
 z0 := Tryz.sizeOf0
 v0 := Tryz.zeroValue0
 t3 := Tryz.underlying3
 a3 := Tryz.isAgg3
 z3 := Tryz.sizeOf3
 v3 := Tryz.zeroValue3
 t4 := Tryz.underlying4
 a4 := Tryz.isAgg4
 z4 := Tryz.sizeOf4
 v4 := Tryz.zeroValue4
 t21 := Tryz.underlying21
 a21 := Tryz.isAgg21
 z21 := Tryz.sizeOf21
 v21 := Tryz.zeroValue21
 t46 := Tryz.underlying167
 a46 := Tryz.isAgg167
 z46 := Tryz.sizeOf167
 v46 := Tryz.zeroValue167
 t51 := Tryz.underlying102
 a51 := Tryz.isAgg102
 z51 := Tryz.sizeOf102
 v51 := Tryz.zeroValue102
 t160 := Tryz.underlying385
 a160 := Tryz.isAgg385
 z160 := Tryz.sizeOf385
 v160 := Tryz.zeroValue385
 t162 := Tryz.underlying387
 a162 := Tryz.isAgg387
 z162 := Tryz.sizeOf387
 v162 := Tryz.zeroValue387
 t208 := Tryz.underlying397
 a208 := Tryz.isAgg397
 z208 := Tryz.sizeOf397
 v208 := Tryz.zeroValue397 }
open Go.RowKit Go.Lib in
theorem Tryz.unicode_lookupCaseRange (T : Array CaseRow) (R oR cap : Nat) (r : Int) (w : World) (hT : CaseTab R oR T w) (hok : CaseOk T) (hn : T.size ≤ 1000000000) :
  Calls Tryz.prog 149 #[.int .i32 r, .slice (some ⟨R, oR, none⟩) T.size cap] w fun e w' =>
   e = .returned (match lookupIdx T r (T.size + 1) 0 T.size with | some i => .pointer (some ⟨R, oR + i * 5, none⟩) | none => .pointer none) ∧ w' = w := Any.unicode_lookupCaseRange Tryz.lays274 T R oR cap r w hT hok hn
def Tryz.lays275_ren : Go.Shelf.Ren := ⟨fun | 275 => 150 | n => n, fun | 3 => 3 | 21 => 21 | 160 => 385 | 0 => 0 | 208 => 397 | 206 => 395 | 4 => 4 | 51 => 102 | n => n, fun | n => n⟩
theorem Tryz.lays275 : Go.Proofs.Lays.n275 Tryz.prog Tryz.lays275_ren := {
 mixed := by kernel_rfl
 f275 := Tryz.func150.trans (congrArg some (by kernel_rfl))
 t0 := Tryz.underlying0
 a0 := Tryz.isAgg0
 z0 := Tryz.sizeOf0
 v0 := Tryz.zeroValue0
 t3 := Tryz.underlying3
 a3 := Tryz.isAgg3
 z3 := Tryz.sizeOf3
 v3 := Tryz.zeroValue3
 t4 := Tryz.underlying4
 a4 := Tryz.isAgg4
 z4 := Tryz.sizeOf4
 v4 := Tryz.zeroValue4
 t21 := Tryz.underlying21
 a21 := Tryz.isAgg21
 z21 := Tryz.sizeOf21
 v21 := Tryz.zeroValue21
 t51 := Tryz.underlying102
 a51 := Tryz.isAgg102
 z51 := Tryz.sizeOf102
 v51 := Tryz.zeroValue102
 t160 := Tryz.underlying385
 a160 := Tryz.isAgg385
 z160 := Tryz.sizeOf385
 v160 := Tryz.zeroValue385
 t206 := Tryz.underlying395
 a206 := Tryz.isAgg395
 z206 := Tryz.sizeOf395
 v206 := Tryz.zeroValue395
 t208 := Tryz.underlying397
 a208 := Tryz.isAgg397
 z208 := Tryz.sizeOf397
 v208 := Tryz.zeroValue397 }
open Go.RowKit Go.Lib in
theorem Tryz.unicode_convertCase (c : Nat) (hc : c < 3) (r : Int) (A o : Nat) (x : CaseRow) (w : World) (hlo : (x.1 : Int) ≤ r) (hhi : r ≤ (x.2.1 : Int)) (hH : x.2.1 < 2147483647) (c0 : w.cell? ⟨A, o, none⟩ = some (.int .u32 x.1)) (cD : w.cell? ⟨A, o + 2 + c, none⟩ = some (.int .i32 (x.delta c))) :
  Calls Tryz.prog 150 #[.int .i64 c, .int .i32 r, .pointer (some ⟨A, o, none⟩)] w fun e w' => e = .returned (.int .i32 (wrap32 (convertR c r x))) ∧ ∃ q, w' = w.drewN q := Any.unicode_convertCase Tryz.lays275 c hc r A o x w hlo hhi hH c0 cD
def Tryz.lays313_ren : Go.Shelf.Ren := ⟨fun | 313 => 165 | 274 => 149 | 275 => 150 | n => n, fun | 3 => 3 | 21 => 21 | 162 => 387 | 4 => 4 | 160 => 385 | 46 => 167 | 0 => 0 | 208 => 397 | 51 => 102 | 206 => 395 | n => n, fun | n => n⟩
theorem Tryz.lays313 : Go.Proofs.Lays.n313 Tryz.prog Tryz.lays313_ren := {
 mixed := by kernel_rfl
 f274 := Tryz.func149.trans (congrArg some (by kernel_rfl))
 f275 := Tryz.func150.trans (congrArg some (by kernel_rfl))
 f313 := Tryz.func165.trans (congrArg some (by kernel_rfl))
 t0 := Tryz.underlying0
 a0 := Tryz.isAgg0
 z0 := Tryz.sizeOf0
 v0 := Tryz.zeroValue0
 t3 := Tryz.underlying3
 a3 := Tryz.isAgg3
 z3 := Tryz.sizeOf3
 v3 := Tryz.zeroValue3
 t4 := Tryz.underlying4
 a4 := Tryz.isAgg4
 z4 := Tryz.sizeOf4
 v4 := Tryz.zeroValue4
 t21 := Tryz.underlying21
 a21 := Tryz.isAgg21
 z21 := Tryz.sizeOf21
 v21 := Tryz.zeroValue21
 t46 := Tryz.underlying167
 a46 := Tryz.isAgg167
 z46 := Tryz.sizeOf167
 v46 := Tryz.zeroValue167
 t51 := Tryz.underlying102
 a51 := Tryz.isAgg102
 z51 := Tryz.sizeOf102
 v51 := Tryz.zeroValue102
 t160 := Tryz.underlying385
 a160 := Tryz.isAgg385
 z160 := Tryz.sizeOf385
 v160 := Tryz.zeroValue385
 t162 := Tryz.underlying387
 a162 := Tryz.isAgg387
 z162 := Tryz.sizeOf387
 v162 := Tryz.zeroValue387
 t206 := Tryz.underlying395
 a206 := Tryz.isAgg395
 z206 := Tryz.sizeOf395
 v206 := Tryz.zeroValue395
 t208 := Tryz.underlying397
 a208 := Tryz.isAgg397
 z208 := Tryz.sizeOf397
 v208 := Tryz.zeroValue397 }
open Go.RowKit Go.Lib in
theorem Tryz.unicode_to (c : Nat) (hc : c < 3) (r : Int) (T : Array CaseRow) (R oR cap : Nat) (w : World) (hT : CaseTab R oR T w) (hok : CaseOk2 T) (hn : T.size ≤ 1000000000) :
  Calls Tryz.prog 165 #[.int .i64 c, .int .i32 r, .slice (some ⟨R, oR, none⟩) T.size cap] w fun e w' => e = .returned (.tuple #[.int .i32 (toW T c r), .bool (lookupIdx T r (T.size + 1) 0 T.size).isSome]) ∧ ∃ q, w' = w.drewN q := Any.unicode_to Tryz.lays313 c hc r T R oR cap w hT hok hn
def Tryz.lays262_ren : Go.Shelf.Ren := ⟨fun | 262 => 162 | 313 => 165 | 274 => 149 | 275 => 150 | n => n, fun | 3 => 3 | 21 => 21 | 162 => 387 | 203 => 401 | 4 => 4 | 160 => 385 | 46 => 167 | 0 => 0 | 208 => 397 | 51 => 102 | 206 => 395 | n => n, fun | 13 => 5 | n => n⟩
theorem Tryz.lays262 : Go.Proofs.Lays.n262 Tryz.prog Tryz.lays262_ren := {
 mixed := by kernel_rfl
 f262 := Tryz.func162.trans (congrArg some (by kernel_rfl))
 f274 := Tryz.func149.trans (congrArg some (by kernel_rfl))
 f275 := Tryz.func150.trans (congrArg some (by kernel_rfl))
 f313 := Tryz.func165.trans (congrArg some (by kernel_rfl))
 t0 := Tryz.underlying0
 a0 := Tryz.isAgg0
 z0 := Tryz.sizeOf0
 v0 := Tryz.zeroValue0
 t3 := Tryz.underlying3
 a3 := Tryz.isAgg3
 z3 := Tryz.sizeOf3
 v3 := Tryz.zeroValue3
 t4 := Tryz.underlying4
 a4 := Tryz.isAgg4
 z4 := Tryz.sizeOf4
 v4 := Tryz.zeroValue4
 t21 := Tryz.underlying21
 a21 := Tryz.isAgg21
 z21 := Tryz.sizeOf21
 v21 := Tryz.zeroValue21
 t46 := Tryz.underlying167
 a46 := Tryz.isAgg167
 z46 := Tryz.sizeOf167
 v46 := Tryz.zeroValue167
 t51 := Tryz.underlying102
 a51 := Tryz.isAgg102
 z51 := Tryz.sizeOf102
 v51 := Tryz.zeroValue102
 t160 := Tryz.underlying385
 a160 := Tryz.isAgg385
 z160 := Tryz.sizeOf385
 v160 := Tryz.zeroValue385
 t162 := Tryz.underlying387
 a162 := Tryz.isAgg387
 z162 := Tryz.sizeOf387
 v162 := Tryz.zeroValue387
 t203 := Tryz.underlying401
 a203 := Tryz.isAgg401
 z203 := Tryz.sizeOf401
 v203 := Tryz.zeroValue401
 t206 := Tryz.underlying395
 a206 := Tryz.isAgg395
 z206 := Tryz.sizeOf395
 v206 := Tryz.zeroValue395
 t208 := Tryz.underlying397
 a208 := Tryz.isAgg397
 z208 := Tryz.sizeOf397
 v208 := Tryz.zeroValue397
 g13 := by kernel_rfl }
open Go.RowKit Go.Lib in
theorem Tryz.unicode_To (c : Nat) (hc : c < 3) (r : Int) (T : Array CaseRow) (w : World) (hV : CaseVar 5 T w) (hok : CaseOk2 T) (hn : T.size ≤ 1000000000) :
  Calls Tryz.prog 162 #[.int .i64 c, .int .i32 r] w fun e w' => e = .returned (.int .i32 (toW T c r)) ∧ ∃ q, w' = w.drewN q := Any.unicode_To Tryz.lays262 c hc r T w hV hok hn
open Go.RowKit Go.Lib in
theorem Tryz.unicode_ToLower_any (r : Int) (T : Array CaseRow) (w : World) (hV : CaseVar 5 T w) (hok : CaseOk2 T) (hn : T.size ≤ 1000000000) :
  Calls Tryz.prog 155 #[.int .i32 r] w fun e w' => e = .returned (.int .i32 (Lib.toLowerW T r)) ∧ ∃ q, w' = w.drewN q := Any.unicode_ToLower_any Tryz.lays204 r T w hV hok hn
open Go.RowKit Go.Lib in
theorem Tryz.unicode_ToLower_laid (r : Int) (w : World) (hV : CaseVar 5 caseA w) :
  Calls Tryz.prog 155 #[.int .i32 r] w fun e w' => e = .returned (.int .i32 (toLowerU r)) ∧ ∃ q, w' = w.drewN q := Any.unicode_ToLower_laid Tryz.lays204 r w hV
def Tryz.lays270_ren : Go.Shelf.Ren := ⟨fun | 270 => 161 | n => n, fun | 70 => 319 | 3 => 3 | 0 => 0 | 72 => 321 | 37 => 117 | 5 => 5 | n => n, fun | n => n⟩
theorem Tryz.lays270 : Go.Proofs.Lays.n270 Tryz.prog Tryz.lays270_ren := {
 mixed := by kernel_rfl
 f270 := Tryz.func161.trans (congrArg some (by kernel_rfl))
 t0 := Tryz.underlying0
 a0 := Tryz.isAgg0
 z0 := Tryz.sizeOf0
 v0 := Tryz.zeroValue0
 t3 := Tryz.underlying3
 a3 := Tryz.isAgg3
 z3 := Tryz.sizeOf3
 v3 := Tryz.zeroValue3
 t37 := Tryz.underlying117
 a37 := Tryz.isAgg117
 z37 := Tryz.sizeOf117
 v37 := Tryz.zeroValue117
 t70 := Tryz.underlying319
 a70 := Tryz.isAgg319
 z70 := Tryz.sizeOf319
 v70 := Tryz.zeroValue319
 t72 := Tryz.underlying321
 a72 := Tryz.isAgg321
 z72 := Tryz.sizeOf321
 v72 := Tryz.zeroValue321 }
open Go.RowKit Go.Lib in
theorem Tryz.Builder_Cap_cell (b : Nat) (p : Option Addr) (n cap : Nat) (w : World) (c1 : w.cell? ⟨b, 1, none⟩ = some (.slice p n cap)) :
  Calls Tryz.prog 161 #[.pointer (some ⟨b, 0, none⟩)] w fun e w' => e = .returned (.int .i64 cap) ∧ w' = w := Any.Builder_Cap_cell Tryz.lays270 b p n cap w c1
def Tryz.lays230_ren : Go.Shelf.Ren := ⟨fun | 230 => 154 | 197 => 100 | 118 => 116 | 165 => 122 | 166 => 123 | 168 => 160 | 270 => 161 | 167 => 134 | 169 => 124 | 260 => 131 | 240 => 145 | 241 => 146 | 242 => 164 | 276 => 158 | 277 => 159 | 278 => 166 | n => n, fun | 107 => 339 | 9 => 9 | 72 => 321 | 0 => 0 | 4 => 4 | 3 => 3 | 21 => 21 | 105 => 264 | 76 => 325 | 5 => 5 | 75 => 324 | 70 => 319 | 20 => 20 | 37 => 117 | 127 => 374 | 119 => 377 | 46 => 167 | 139 => 380 | 138 => 379 | 164 => 391 | 51 => 102 | 80 => 147 | n => n, fun | 3 => 1 | 4 => 2 | n => n⟩
theorem Tryz.lays230 : Go.Proofs.Lays.n230 Tryz.prog Tryz.lays230_ren := {
 mixed := by kernel_rfl
 f118 := Tryz.func116.trans (congrArg some (by kernel_rfl))
 f165 := Tryz.func122.trans (congrArg some (by kernel_rfl))
 f166 := Tryz.func123.trans (congrArg some (by kernel_rfl))
 f167 := Tryz.func134.trans (congrArg some (by kernel_rfl))
 f168 := Tryz.func160.trans (congrArg some (by kernel_rfl))
 f169 := Tryz.func124.trans (congrArg some (by kernel_rfl))
 f197 := Tryz.func100.trans (congrArg some (by kernel_rfl))
 f230 := Tryz.func154.trans (congrArg some (by kernel_rfl))
 f240 := Tryz.func145.trans (congrArg some (by kernel_rfl))
 f241 := Tryz.func146.trans (congrArg some (by kernel_rfl))
 f242 := Tryz.func164.trans (congrArg some (by kernel_rfl))
 f260 := Tryz.func131.trans (congrArg some (by kernel_rfl))
 f270 := Tryz.func161.trans (congrArg some (by kernel_rfl))
 f276 := Tryz.func158.trans (congrArg some (by kernel_rfl))
 f277 := Tryz.func159.trans (congrArg some (by kernel_rfl))
 f278 := Tryz.func166.trans (congrArg some (by kernel_rfl))
 t0 := Tryz.underlying0
 a0 := Tryz.isAgg0
 z0 := Tryz.sizeOf0
 v0 := Tryz.zeroValue0
 t3 := Tryz.underlying3
 a3 := Tryz.isAgg3
 z3 := Tryz.sizeOf3
 v3 := Tryz.zeroValue3
 t4 := Tryz.underlying4
 a4 := Tryz.isAgg4
 z4 := Tryz.sizeOf4
 v4 := Tryz.zeroValue4
 t5 := Tryz.underlying5
 a5 := Tryz.isAgg5
 z5 := Tryz.sizeOf5
 v5 := Tryz.zeroValue5
 t9 := Tryz.underlying9
 a9 := Tryz.isAgg9
 z9 := Tryz.sizeOf9
 v9 := Tryz.zeroValue9
 t20 := Tryz.underlying20
 a20 := Tryz.isAgg20
 z20 := Tryz.sizeOf20
 v20 := Tryz.zeroValue20
 t21 := Tryz.underlying21
 a21 := Tryz.isAgg21
 z21 := Tryz.sizeOf21
 v21 := Tryz.zeroValue21
 t37 := Tryz.underlying117
 a37 := Tryz.isAgg117
 z37 := Tryz.sizeOf117
 v37 := Tryz.zeroValue117
 t46 := Tryz.underlying167
 a46 := Tryz.isAgg167
 z46 := Tryz.sizeOf167
 v46 := Tryz.zeroValue167
 t51 := Tryz.underlying102
 a51 := Tryz.isAgg102
 z51 := Tryz.sizeOf102
 v51 := Tryz.zeroValue102
 t70 := Tryz.underlying319
 a70 := Tryz.isAgg319
 z70 := Tryz.sizeOf319
 v70 := Tryz.zeroValue319
 t72 := Tryz.underlying321
 a72 := Tryz.isAgg321
 z72 := Tryz.sizeOf321
 v72 := Tryz.zeroValue321
 t75 := Tryz.underlying324
 a75 := Tryz.isAgg324
 z75 := Tryz.sizeOf324
 v75 := Tryz.zeroValue324
 t76 := Tryz.underlying325
 a76 := Tryz.isAgg325
 z76 := Tryz.sizeOf325
 v76 := Tryz.zeroValue325
 t105 := Tryz.underlying264
 a105 := Tryz.isAgg264
 z105 := Tryz.sizeOf264
 v105 := Tryz.zeroValue264
 t107 := Tryz.underlying339
 a107 := Tryz.isAgg339
 z107 := Tryz.sizeOf339
 v107 := Tryz.zeroValue339
 t119 := Tryz.underlying377
 a119 := Tryz.isAgg377
 z119 := Tryz.sizeOf377
 t127 := Tryz.underlying374
 a127 := Tryz.isAgg374
 z127 := Tryz.sizeOf374
 v127 := Tryz.zeroValue374
 t138 := Tryz.underlying379
 a138 := Tryz.isAgg379
 z138 := Tryz.sizeOf379
 v138 := Tryz.zeroValue379
 t139 := Tryz.underlying380
 a139 := Tryz.isAgg380
 z139 := Tryz.sizeOf380
 v139 := Tryz.zeroValue380
 t164 := Tryz.underlying391
 a164 := Tryz.isAgg391
 z164 := Tryz.sizeOf391
 v164 := Tryz.zeroValue391
 g3 := by kernel_rfl
 g4 := by kernel_rfl }
theorem Tryz.Builder_Extra_230 : Builder.Extra Tryz.prog Tryz.lays230_ren := {
 sizeBuilder := by kernel_rfl
 liesBuilder := by kernel_rfl
 t5 := Tryz.underlying5
 a5 := Tryz.isAgg5
 z5 := Tryz.sizeOf5
 v5 := Tryz.zeroValue5
 infoByte := by kernel_rfl
 cellsByte := by kernel_rfl
 sizeByte := by kernel_rfl
 neB5 := by decide }
open Go.RowKit Go.Lib in
theorem Tryz.strings_Map_runes (g : Nat) (lb : Array Value) (eg : ∀ args w, (callFunc g args).run Tryz.prog w = .ok (.enter g args) w) (f : Int → Int) (s : ByteArray) (w : World) (hs : s.size < 35184372088832) (hf : MapAtRunes Tryz.prog g lb f w) (hnn : ∀ x : Nat, x ≤ 1114111 → 0 ≤ f x ∧ f x ≤ 2147483647) (hT : Lib.Utf8Tabs 1 2 w) :
  Calls Tryz.prog 154 #[.func (.func g) #[] lb, .string s] w fun e w' => e = .returned (.string ⟨(Lib.mapD f s.data.toList).toArray⟩) ∧ Below w.heap.size w w' := Any.strings_Map_runes Tryz.lays230 Tryz.Builder_Extra_230 g lb eg f s w hs hf hnn hT
open Go.RowKit Go.Lib in
theorem Tryz.strings_ToLower_beyond (s : ByteArray) (w : World) (hs : s.size < 35184372088832) (hhigh : ∃ (j : Nat) (b : UInt8), s.data.toList[j]? = some b ∧ 128 ≤ b.toNat) (hV : CaseVar 5 caseA w) (hT : Lib.Utf8Tabs 1 2 w) :
  Calls Tryz.prog 136 #[.string s] w fun e w' => e = .returned (.string ⟨(Lib.toLowerD s.data.toList).toArray⟩) ∧ Below w.heap.size w w' := Any.strings_ToLower_beyond Tryz.lays159 Tryz.Builder_Extra_159 s w hs hhigh hV hT
open Go.RowKit Go.Lib in
theorem Tryz.strings_ToLower_any (s : ByteArray) (w : World) (hs : s.size < 35184372088832) (hV : CaseVar 5 caseA w) (hT : Lib.Utf8Tabs 1 2 w) :
  Calls Tryz.prog 136 #[.string s] w fun e w' => e = .returned (.string ⟨(Lib.toLowerD s.data.toList).toArray⟩) ∧ Below w.heap.size w w' := Any.strings_ToLower_any Tryz.lays159 Tryz.Builder_Extra_159 s w hs hV hT
end Go.Proofs
