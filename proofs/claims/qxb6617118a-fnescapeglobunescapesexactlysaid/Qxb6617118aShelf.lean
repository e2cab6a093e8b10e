/- THE SHELF's CONTRACTS LAID AT THIS DUMP, in plain words (lay-shelf.mjs, lay-plain.mjs); below them three layings by hand: copyCheck, WriteByte, WriteString. -/
import Derived.Shelf.Strings.Builder1
import Derived.Shelf.Strings.Builder2
import Derived.Shelf.Small.Utf8
import Derived.Shelf.Small.Strs
import Derived.Shelf.Strings.BuilderF
import Derived.Shelf.Strings.BuilderK
import Derived.Shelf.Strings.Search1
import Derived.Shelf.Strings.Prefix
import Derived.Shelf.Strings.Runes
import Derived.Shelf.Strings.IndexAny
import Derived.Shelf.Strings.AsciiSet
import Derived.Shelf.Strings.IndexAnyAll
import Derived.Test.Qxb6617118aProg
namespace Go.Proofs
open Go.Shelf
def Try.lays169_ren : Go.Shelf.Ren := ⟨fun | 169 => 23 | n => n, fun | 70 => 29 | 9 => 9 | 0 => 0 | 72 => 31 | 37 => 27 | 127 => 47 | 3 => 3 | 5 => 5 | n => n, fun | n => n⟩
theorem Try.lays169 : Go.Proofs.Lays.n169 Try.prog Try.lays169_ren := {
  mixed := by kernel_rfl
  f169 := Try.func23.trans (congrArg some (by kernel_rfl))
  t0 := Try.underlying0
  a0 := Try.isAgg0
  z0 := Try.sizeOf0
  v0 := Try.zeroValue0
  t3 := Try.underlying3
  a3 := Try.isAgg3
  z3 := Try.sizeOf3
  v3 := Try.zeroValue3
  t9 := Try.underlying9
  a9 := Try.isAgg9
  z9 := Try.sizeOf9
  v9 := Try.zeroValue9
  t37 := Try.underlying27
  a37 := Try.isAgg27
  z37 := Try.sizeOf27
  v37 := Try.zeroValue27
  t70 := Try.underlying29
  a70 := Try.isAgg29
  z70 := Try.sizeOf29
  v70 := Try.zeroValue29
  t72 := Try.underlying31
  a72 := Try.isAgg31
  z72 := Try.sizeOf31
  v72 := Try.zeroValue31
  t127 := Try.underlying47
  a127 := Try.isAgg47
  z127 := Try.sizeOf47
  v127 := Try.zeroValue47 }
theorem Try.Builder_Extra_169 : Builder.Extra Try.prog Try.lays169_ren := {
  sizeBuilder := by kernel_rfl
  liesBuilder := by kernel_rfl
  t5 := Try.underlying5
  a5 := Try.isAgg5
  z5 := Try.sizeOf5
  v5 := Try.zeroValue5
  infoByte := by kernel_rfl
  cellsByte := by kernel_rfl
  sizeByte := by kernel_rfl
  neB5 := by decide }
open Go.RowKit in
theorem Try.Builder_String (B b : Nat) (l : List UInt8) (w : World) (h : Lib.IsBuilder 31 5 B b (Lib.byteCells l) w) (h0 : l ≠ []) :
    Calls Try.prog 23 #[.pointer (some ⟨b, 0, none⟩)] w fun e w' => e = .returned (.string ⟨l.toArray⟩) ∧ Below B w w' := Any.Builder_String Try.lays169 Try.Builder_Extra_169 B b l w h h0
open Go.RowKit in
theorem Try.Builder_String_empty (B b : Nat) (w : World) (h : Lib.IsBuilder 31 5 B b [] w) (hBw : B ≤ w.heap.size) :
    Calls Try.prog 23 #[.pointer (some ⟨b, 0, none⟩)] w fun e w' => e = .returned (.string ⟨#[]⟩) ∧ Below B w w' := Any.Builder_String_empty Try.lays169 Try.Builder_Extra_169 B b w h hBw
open Go.RowKit in
theorem Try.Builder_String_any (B b : Nat) (l : List UInt8) (w : World) (h : Lib.IsBuilder 31 5 B b (Lib.byteCells l) w) (hBw : B ≤ w.heap.size) :
    Calls Try.prog 23 #[.pointer (some ⟨b, 0, none⟩)] w fun e w' => e = .returned (.string ⟨l.toArray⟩) ∧ Below B w w' := Any.Builder_String_any Try.lays169 Try.Builder_Extra_169 B b l w h hBw
def Try.lays241_ren : Go.Shelf.Ren := ⟨fun | 241 => 28 | 277 => 36 | n => n, fun | 70 => 29 | 3 => 3 | 0 => 0 | 72 => 31 | 37 => 27 | 5 => 5 | n => n, fun | n => n⟩
theorem Try.lays241 : Go.Proofs.Lays.n241 Try.prog Try.lays241_ren := {
  mixed := by kernel_rfl
  f241 := Try.func28.trans (congrArg some (by kernel_rfl))
  f277 := Try.func36.trans (congrArg some (by kernel_rfl))
  t0 := Try.underlying0
  a0 := Try.isAgg0
  z0 := Try.sizeOf0
  v0 := Try.zeroValue0
  t3 := Try.underlying3
  a3 := Try.isAgg3
  z3 := Try.sizeOf3
  v3 := Try.zeroValue3
  t37 := Try.underlying27
  a37 := Try.isAgg27
  z37 := Try.sizeOf27
  v37 := Try.zeroValue27
  t70 := Try.underlying29
  a70 := Try.isAgg29
  z70 := Try.sizeOf29
  v70 := Try.zeroValue29
  t72 := Try.underlying31
  a72 := Try.isAgg31
  z72 := Try.sizeOf31
  v72 := Try.zeroValue31 }
theorem Try.Builder_Extra_241 : Builder.Extra Try.prog Try.lays241_ren := {
  sizeBuilder := by kernel_rfl
  liesBuilder := by kernel_rfl
  t5 := Try.underlying5
  a5 := Try.isAgg5
  z5 := Try.sizeOf5
  v5 := Try.zeroValue5
  infoByte := by kernel_rfl
  cellsByte := by kernel_rfl
  sizeByte := by kernel_rfl
  neB5 := by decide }
open Go.RowKit in
theorem Try.Builder_grow_fresh (B b n : Nat) (w : World) (hB : B ≤ b) (hbk : w.heap[b]? = some (.cells #[.pointer (some ⟨b, 0, none⟩), .slice none 0 0] 31 (0, 0))) (hBw : B ≤ w.heap.size) (hn : n ≤ 281474976710656) :
    Calls Try.prog 28 #[.pointer (some ⟨b, 0, none⟩), .int .i64 n] w fun e w' => e = .returned (.tuple #[]) ∧ (Lib.BuilderAt 31 5 B b (.pointer (some ⟨b, 0, none⟩)) [] w' ∧ Below B w w') := Any.Builder_grow_fresh Try.lays241 Try.Builder_Extra_241 B b n w hB hbk hBw hn
def Try.lays165_ren : Go.Shelf.Ren := ⟨fun | 165 => 19 | 240 => 27 | 241 => 28 | 276 => 35 | 277 => 36 | n => n, fun | 70 => 29 | 3 => 3 | 0 => 0 | 4 => 4 | 9 => 9 | 20 => 20 | 72 => 31 | 37 => 27 | 164 => 48 | 5 => 5 | n => n, fun | n => n⟩
theorem Try.lays165 : Go.Proofs.Lays.n165 Try.prog Try.lays165_ren := {
  mixed := by kernel_rfl
  f165 := Try.func19.trans (congrArg some (by kernel_rfl))
  f240 := Try.func27.trans (congrArg some (by kernel_rfl))
  f241 := Try.func28.trans (congrArg some (by kernel_rfl))
  f276 := Try.func35.trans (congrArg some (by kernel_rfl))
  f277 := Try.func36.trans (congrArg some (by kernel_rfl))
  t0 := Try.underlying0
  a0 := Try.isAgg0
  z0 := Try.sizeOf0
  v0 := Try.zeroValue0
  t3 := Try.underlying3
  a3 := Try.isAgg3
  z3 := Try.sizeOf3
  v3 := Try.zeroValue3
  t4 := Try.underlying4
  a4 := Try.isAgg4
  z4 := Try.sizeOf4
  v4 := Try.zeroValue4
  t9 := Try.underlying9
  a9 := Try.isAgg9
  z9 := Try.sizeOf9
  v9 := Try.zeroValue9
  t20 := Try.underlying20
  a20 := Try.isAgg20
  z20 := Try.sizeOf20
  v20 := Try.zeroValue20
  t37 := Try.underlying27
  a37 := Try.isAgg27
  z37 := Try.sizeOf27
  v37 := Try.zeroValue27
  t70 := Try.underlying29
  a70 := Try.isAgg29
  z70 := Try.sizeOf29
  v70 := Try.zeroValue29
  t72 := Try.underlying31
  a72 := Try.isAgg31
  z72 := Try.sizeOf31
  v72 := Try.zeroValue31
  t164 := Try.underlying48
  a164 := Try.isAgg48
  z164 := Try.sizeOf48
  v164 := Try.zeroValue48 }
theorem Try.Builder_Extra_165 : Builder.Extra Try.prog Try.lays165_ren := {
  sizeBuilder := by kernel_rfl
  liesBuilder := by kernel_rfl
  t5 := Try.underlying5
  a5 := Try.isAgg5
  z5 := Try.sizeOf5
  v5 := Try.zeroValue5
  infoByte := by kernel_rfl
  cellsByte := by kernel_rfl
  sizeByte := by kernel_rfl
  neB5 := by decide }
open Go.RowKit in
theorem Try.Builder_Grow_fresh (B b n : Nat) (w : World) (hB : B ≤ b) (hbk : w.heap[b]? = some (.cells #[.pointer none, .slice none 0 0] 31 (0, 0))) (hBw : B ≤ w.heap.size) (hn : n ≤ 281474976710656) :
    Calls Try.prog 19 #[.pointer (some ⟨b, 0, none⟩), .int .i64 n] w fun e w' => e = .returned (.tuple #[]) ∧ (Lib.BuilderAt 31 5 B b (.pointer (some ⟨b, 0, none⟩)) [] w' ∧ Below B w w') := Any.Builder_Grow_fresh Try.lays165 Try.Builder_Extra_165 B b n w hB hbk hBw hn
def Try.lays119_ren : Go.Shelf.Ren := ⟨fun | 119 => 37 | n => n, fun | 21 => 21 | 4 => 4 | n => n, fun | n => n⟩
theorem Try.lays119 : Go.Proofs.Lays.n119 Try.prog Try.lays119_ren := {
  mixed := by kernel_rfl
  f119 := Try.func37.trans (congrArg some (by kernel_rfl))
  t4 := Try.underlying4
  a4 := Try.isAgg4
  z4 := Try.sizeOf4
  v4 := Try.zeroValue4
  t21 := Try.underlying21
  a21 := Try.isAgg21
  z21 := Try.sizeOf21
  v21 := Try.zeroValue21 }
theorem Try.utf8_ValidRune (r : Int) (w : World) :
    Calls Try.prog 37 #[.int .i32 r] w fun e w' => e = .returned (.bool (Lib.validRune r)) ∧ w' = w := Any.utf8_ValidRune Try.lays119 r w
def Try.lays137_ren : Go.Shelf.Ren := ⟨fun | 137 => 25 | 217 => 33 | 266 => 40 | n => n, fun | 9 => 9 | 5 => 5 | 3 => 3 | n => n, fun | n => n⟩
theorem Try.lays137 : Go.Proofs.Lays.n137 Try.prog Try.lays137_ren := {
  mixed := by kernel_rfl
  f137 := Try.func25.trans (congrArg some (by kernel_rfl))
  f217 := Try.func33.trans (congrArg some (by kernel_rfl))
  f266 := Try.func40.trans (congrArg some (by kernel_rfl))
  t3 := Try.underlying3
  a3 := Try.isAgg3
  z3 := Try.sizeOf3
  v3 := Try.zeroValue3
  t5 := Try.underlying5
  a5 := Try.isAgg5
  z5 := Try.sizeOf5
  v5 := Try.zeroValue5
  t9 := Try.underlying9
  a9 := Try.isAgg9
  z9 := Try.sizeOf9
  v9 := Try.zeroValue9 }
open Go.RowKit in
theorem Try.strings_IndexByte (s : ByteArray) (c : Int) (w : World) :
    Calls Try.prog 25 #[.string s, .int .u8 c] w fun e w' => e = .returned (.int .i64 (Lib.indexByte s.data.toList c.toNat.toUInt8)) ∧ w' = w := Any.strings_IndexByte Try.lays137 s c w
open Go.RowKit in
theorem Try.Builder_String_f (B b : Nat) (l : List UInt8) (w : World) (h : Lib.IsBuilderF 31 5 B b (Lib.byteCells l) w) (h0 : l ≠ []) :
    Calls Try.prog 23 #[.pointer (some ⟨b, 0, none⟩)] w fun e w' => e = .returned (.string ⟨l.toArray⟩) ∧ (Lib.IsBuilderF 31 5 B b (Lib.byteCells l) w' ∧ Below B w w') := Any.Builder_String_f Try.lays169 Try.Builder_Extra_169 B b l w h h0
open Go.RowKit in
theorem Try.Builder_String_empty_f (B b : Nat) (w : World) (h : Lib.IsBuilderF 31 5 B b [] w) (hBw : B ≤ w.heap.size) :
    Calls Try.prog 23 #[.pointer (some ⟨b, 0, none⟩)] w fun e w' => e = .returned (.string ⟨#[]⟩) ∧ (Lib.IsBuilderF 31 5 B b [] w' ∧ Below B w w') := Any.Builder_String_empty_f Try.lays169 Try.Builder_Extra_169 B b w h hBw
open Go.RowKit in
theorem Try.Builder_String_any_f (B b : Nat) (l : List UInt8) (w : World) (h : Lib.IsBuilderF 31 5 B b (Lib.byteCells l) w) (hBw : B ≤ w.heap.size) :
    Calls Try.prog 23 #[.pointer (some ⟨b, 0, none⟩)] w fun e w' => e = .returned (.string ⟨l.toArray⟩) ∧ (Lib.IsBuilderF 31 5 B b (Lib.byteCells l) w' ∧ Below B w w') := Any.Builder_String_any_f Try.lays169 Try.Builder_Extra_169 B b l w h hBw
open Go.RowKit in
theorem Try.Builder_String_k (B b : Nat) (l : List UInt8) (w : World) (h : Lib.IsBuilderF 31 5 B b (Lib.byteCells l) w) (h0 : l ≠ []) :
    Calls Try.prog 23 #[.pointer (some ⟨b, 0, none⟩)] w fun e w' => e = .returned (.string ⟨l.toArray⟩) ∧ (Lib.IsBuilderF 31 5 B b (Lib.byteCells l) w' ∧ Below B w w' ∧ Lib.OthersKept 5 (some b) w w') := Any.Builder_String_k Try.lays169 Try.Builder_Extra_169 B b l w h h0
open Go.RowKit in
theorem Try.Builder_String_empty_k (B b : Nat) (w : World) (h : Lib.IsBuilderF 31 5 B b [] w) (hBw : B ≤ w.heap.size) :
    Calls Try.prog 23 #[.pointer (some ⟨b, 0, none⟩)] w fun e w' => e = .returned (.string ⟨#[]⟩) ∧ (Lib.IsBuilderF 31 5 B b [] w' ∧ Below B w w' ∧ Lib.OthersKept 5 (some b) w w') := Any.Builder_String_empty_k Try.lays169 Try.Builder_Extra_169 B b w h hBw
open Go.RowKit in
theorem Try.Builder_String_any_k (B b : Nat) (l : List UInt8) (w : World) (h : Lib.IsBuilderF 31 5 B b (Lib.byteCells l) w) (hBw : B ≤ w.heap.size) :
    Calls Try.prog 23 #[.pointer (some ⟨b, 0, none⟩)] w fun e w' => e = .returned (.string ⟨l.toArray⟩) ∧ (Lib.IsBuilderF 31 5 B b (Lib.byteCells l) w' ∧ Below B w w' ∧ Lib.OthersKept 5 (some b) w w') := Any.Builder_String_any_k Try.lays169 Try.Builder_Extra_169 B b l w h hBw
def Try.lays217_ren : Go.Shelf.Ren := ⟨fun | 217 => 33 | 266 => 40 | n => n, fun | 9 => 9 | 5 => 5 | 3 => 3 | n => n, fun | n => n⟩
theorem Try.lays217 : Go.Proofs.Lays.n217 Try.prog Try.lays217_ren := {
  mixed := by kernel_rfl
  f217 := Try.func33.trans (congrArg some (by kernel_rfl))
  f266 := Try.func40.trans (congrArg some (by kernel_rfl))
  t3 := Try.underlying3
  a3 := Try.isAgg3
  z3 := Try.sizeOf3
  v3 := Try.zeroValue3
  t5 := Try.underlying5
  a5 := Try.isAgg5
  z5 := Try.sizeOf5
  v5 := Try.zeroValue5
  t9 := Try.underlying9
  a9 := Try.isAgg9
  z9 := Try.sizeOf9
  v9 := Try.zeroValue9 }
open Go.RowKit Go.Lib in
theorem Try.stringslite_IndexByte (s : ByteArray) (c : Int) (w : World) :
    Calls Try.prog 33 #[.string s, .int .u8 c] w fun e w' => e = .returned (.int .i64 (Lib.indexByte s.data.toList c.toNat.toUInt8)) ∧ w' = w := Any.stringslite_IndexByte Try.lays217 s c w
def Try.lays224_ren : Go.Shelf.Ren := ⟨fun | 224 => 38 | n => n, fun | 3 => 3 | n => n, fun | n => n⟩
theorem Try.lays224 : Go.Proofs.Lays.n224 Try.prog Try.lays224_ren := {
  mixed := by kernel_rfl
  f224 := Try.func38.trans (congrArg some (by kernel_rfl))
  t3 := Try.underlying3
  a3 := Try.isAgg3
  z3 := Try.sizeOf3
  v3 := Try.zeroValue3 }
open Go.RowKit Go.Lib in
theorem Try.bytealg_Cutover (n : Int) (h0 : 0 ≤ n) (h1 : n < 4611686018427387904) (w : World) :
    Calls Try.prog 38 #[.int .i64 n] w fun e w' => e = .returned (.int .i64 ((n + 16) / 8)) ∧ w' = w := Any.bytealg_Cutover Try.lays224 n h0 h1 w
def Try.lays206_ren : Go.Shelf.Ren := ⟨fun | 206 => 34 | n => n, fun | 9 => 9 | 4 => 4 | 3 => 3 | n => n, fun | n => n⟩
theorem Try.lays206 : Go.Proofs.Lays.n206 Try.prog Try.lays206_ren := {
  mixed := by kernel_rfl
  f206 := Try.func34.trans (congrArg some (by kernel_rfl))
  t3 := Try.underlying3
  a3 := Try.isAgg3
  z3 := Try.sizeOf3
  v3 := Try.zeroValue3
  t4 := Try.underlying4
  a4 := Try.isAgg4
  z4 := Try.sizeOf4
  v4 := Try.zeroValue4
  t9 := Try.underlying9
  a9 := Try.isAgg9
  z9 := Try.sizeOf9
  v9 := Try.zeroValue9 }
open Go.RowKit Go.Lib in
theorem Try.stringslite_HasPrefix (s p : ByteArray) (w : World) :
    Calls Try.prog 34 #[.string s, .string p] w fun e w' => e = .returned (.bool (Lib.hasPrefix s.data.toList p.data.toList)) ∧ w' = w := Any.stringslite_HasPrefix Try.lays206 s p w
def Try.lays99_ren : Go.Shelf.Ren := ⟨fun | 99 => 26 | 206 => 34 | n => n, fun | 9 => 9 | 4 => 4 | 3 => 3 | n => n, fun | n => n⟩
theorem Try.lays99 : Go.Proofs.Lays.n99 Try.prog Try.lays99_ren := {
  mixed := by kernel_rfl
  f99 := Try.func26.trans (congrArg some (by kernel_rfl))
  f206 := Try.func34.trans (congrArg some (by kernel_rfl))
  t3 := Try.underlying3
  a3 := Try.isAgg3
  z3 := Try.sizeOf3
  v3 := Try.zeroValue3
  t4 := Try.underlying4
  a4 := Try.isAgg4
  z4 := Try.sizeOf4
  v4 := Try.zeroValue4
  t9 := Try.underlying9
  a9 := Try.isAgg9
  z9 := Try.sizeOf9
  v9 := Try.zeroValue9 }
open Go.RowKit Go.Lib in
theorem Try.strings_HasPrefix (s p : ByteArray) (w : World) :
    Calls Try.prog 26 #[.string s, .string p] w fun e w' => e = .returned (.bool (Lib.hasPrefix s.data.toList p.data.toList)) ∧ w' = w := Any.strings_HasPrefix Try.lays99 s p w
def Try.lays152_ren : Go.Shelf.Ren := ⟨fun | 152 => 29 | 137 => 25 | 119 => 37 | 224 => 38 | 225 => 39 | 217 => 33 | 266 => 40 | n => n, fun | 9 => 9 | 21 => 21 | 3 => 3 | 4 => 4 | 5 => 5 | 0 => 0 | 46 => 53 | n => n, fun | n => n⟩
theorem Try.lays152 : Go.Proofs.Lays.n152 Try.prog Try.lays152_ren := {
  mixed := by kernel_rfl
  f119 := Try.func37.trans (congrArg some (by kernel_rfl))
  f137 := Try.func25.trans (congrArg some (by kernel_rfl))
  f152 := Try.func29.trans (congrArg some (by kernel_rfl))
  f217 := Try.func33.trans (congrArg some (by kernel_rfl))
  f224 := Try.func38.trans (congrArg some (by kernel_rfl))
  f225 := Try.func39.trans (congrArg some (by kernel_rfl))
  f266 := Try.func40.trans (congrArg some (by kernel_rfl))
  t0 := Try.underlying0
  a0 := Try.isAgg0
  z0 := Try.sizeOf0
  v0 := Try.zeroValue0
  t3 := Try.underlying3
  a3 := Try.isAgg3
  z3 := Try.sizeOf3
  v3 := Try.zeroValue3
  t4 := Try.underlying4
  a4 := Try.isAgg4
  z4 := Try.sizeOf4
  v4 := Try.zeroValue4
  t5 := Try.underlying5
  a5 := Try.isAgg5
  z5 := Try.sizeOf5
  v5 := Try.zeroValue5
  t9 := Try.underlying9
  a9 := Try.isAgg9
  z9 := Try.sizeOf9
  v9 := Try.zeroValue9
  t21 := Try.underlying21
  a21 := Try.isAgg21
  z21 := Try.sizeOf21
  v21 := Try.zeroValue21
  t46 := Try.underlying53
  a46 := Try.isAgg53
  z46 := Try.sizeOf53
  v46 := Try.zeroValue53 }
open Go.RowKit Go.Lib in
theorem Try.strings_IndexRune_ascii (s : ByteArray) (r : Int) (w : World) (h0 : 0 ≤ r) (h1 : r < 128) :
    Calls Try.prog 29 #[.string s, .int .i32 r] w fun e w' => e = .returned (.int .i64 (Lib.indexByte s.data.toList r.toNat.toUInt8)) ∧ w' = w := Any.strings_IndexRune_ascii Try.lays152 s r w h0 h1
def Try.lays226_ren : Go.Shelf.Ren := ⟨fun | 226 => 30 | n => n, fun | 3 => 3 | 4 => 4 | n => n, fun | n => n⟩
theorem Try.lays226 : Go.Proofs.Lays.n226 Try.prog Try.lays226_ren := {
  mixed := by kernel_rfl
  f226 := Try.func30.trans (congrArg some (by kernel_rfl))
  t3 := Try.underlying3
  a3 := Try.isAgg3
  z3 := Try.sizeOf3
  v3 := Try.zeroValue3
  t4 := Try.underlying4
  a4 := Try.isAgg4
  z4 := Try.sizeOf4
  v4 := Try.zeroValue4 }
open Go.RowKit Go.Lib in
theorem Try.strings_shouldUseASCIISet (n : Int) (w : World) :
    Calls Try.prog 30 #[.int .i64 n] w fun e w' => e = .returned (.bool (decide (8 < n))) ∧ w' = w := Any.strings_shouldUseASCIISet Try.lays226 n w
def Try.lays153_ren : Go.Shelf.Ren := ⟨fun | 153 => 20 | 152 => 29 | 226 => 30 | 227 => 31 | 228 => 32 | 137 => 25 | 119 => 37 | 224 => 38 | 225 => 39 | 217 => 33 | 266 => 40 | n => n, fun | 9 => 9 | 3 => 3 | 4 => 4 | 5 => 5 | 21 => 21 | 117 => 45 | 116 => 44 | 0 => 0 | 46 => 53 | 124 => 54 | n => n, fun | n => n⟩
theorem Try.lays153 : Go.Proofs.Lays.n153 Try.prog Try.lays153_ren := {
  mixed := by kernel_rfl
  f119 := Try.func37.trans (congrArg some (by kernel_rfl))
  f137 := Try.func25.trans (congrArg some (by kernel_rfl))
  f152 := Try.func29.trans (congrArg some (by kernel_rfl))
  f153 := Try.func20.trans (congrArg some (by kernel_rfl))
  f217 := Try.func33.trans (congrArg some (by kernel_rfl))
  f224 := Try.func38.trans (congrArg some (by kernel_rfl))
  f225 := Try.func39.trans (congrArg some (by kernel_rfl))
  f226 := Try.func30.trans (congrArg some (by kernel_rfl))
  f227 := Try.func31.trans (congrArg some (by kernel_rfl))
  f228 := Try.func32.trans (congrArg some (by kernel_rfl))
  f266 := Try.func40.trans (congrArg some (by kernel_rfl))
  t0 := Try.underlying0
  a0 := Try.isAgg0
  z0 := Try.sizeOf0
  v0 := Try.zeroValue0
  t3 := Try.underlying3
  a3 := Try.isAgg3
  z3 := Try.sizeOf3
  v3 := Try.zeroValue3
  t4 := Try.underlying4
  a4 := Try.isAgg4
  z4 := Try.sizeOf4
  v4 := Try.zeroValue4
  t5 := Try.underlying5
  a5 := Try.isAgg5
  z5 := Try.sizeOf5
  v5 := Try.zeroValue5
  t9 := Try.underlying9
  a9 := Try.isAgg9
  z9 := Try.sizeOf9
  v9 := Try.zeroValue9
  t21 := Try.underlying21
  a21 := Try.isAgg21
  z21 := Try.sizeOf21
  v21 := Try.zeroValue21
  t46 := Try.underlying53
  a46 := Try.isAgg53
  z46 := Try.sizeOf53
  v46 := Try.zeroValue53
  t116 := Try.underlying44
  a116 := Try.isAgg44
  z116 := Try.sizeOf44
  t117 := Try.underlying45
  a117 := Try.isAgg45
  z117 := Try.sizeOf45
  v117 := Try.zeroValue45
  t124 := Try.underlying54
  a124 := Try.isAgg54
  z124 := Try.sizeOf54
  v124 := Try.zeroValue54 }
open Go.RowKit Go.Lib in
theorem Try.strings_IndexAny_none (s chars : ByteArray) (w : World) (h0 : chars.size = 0) :
    Calls Try.prog 20 #[.string s, .string chars] w fun e w' => e = .returned (.int .i64 (Lib.indexAny s.data.toList chars.data.toList)) ∧ w' = w := Any.strings_IndexAny_none Try.lays153 s chars w h0
open Go.RowKit Go.Lib in
theorem Try.strings_IndexAny_one (s chars : ByteArray) (w : World) (h1 : chars.size = 1) (hascii : ∀ (j : Nat) b, chars.data.toList[j]? = some b → b.toNat < 128) :
    Calls Try.prog 20 #[.string s, .string chars] w fun e w' => e = .returned (.int .i64 (Lib.indexAny s.data.toList chars.data.toList)) ∧ w' = w := Any.strings_IndexAny_one Try.lays153 s chars w h1 hascii
open Go.RowKit Go.Lib in
theorem Try.strings_IndexAny_short (s chars : ByteArray) (w : World) (h2 : 2 ≤ chars.size) (h8 : s.size ≤ 8) (hascii : ∀ (j : Nat) b, s.data.toList[j]? = some b → b.toNat < 128) :
    Calls Try.prog 20 #[.string s, .string chars] w fun e w' => e = .returned (.int .i64 (Lib.indexAny s.data.toList chars.data.toList)) ∧ ∃ pos, w' = w.iter s pos := Any.strings_IndexAny_short Try.lays153 s chars w h2 h8 hascii
def Try.lays227_ren : Go.Shelf.Ren := ⟨fun | 227 => 31 | n => n, fun | 9 => 9 | 116 => 44 | 4 => 4 | 0 => 0 | 3 => 3 | 5 => 5 | n => n, fun | n => n⟩
theorem Try.lays227 : Go.Proofs.Lays.n227 Try.prog Try.lays227_ren := {
  mixed := by kernel_rfl
  f227 := Try.func31.trans (congrArg some (by kernel_rfl))
  t0 := Try.underlying0
  a0 := Try.isAgg0
  z0 := Try.sizeOf0
  v0 := Try.zeroValue0
  t3 := Try.underlying3
  a3 := Try.isAgg3
  z3 := Try.sizeOf3
  v3 := Try.zeroValue3
  t4 := Try.underlying4
  a4 := Try.isAgg4
  z4 := Try.sizeOf4
  v4 := Try.zeroValue4
  t5 := Try.underlying5
  a5 := Try.isAgg5
  z5 := Try.sizeOf5
  v5 := Try.zeroValue5
  t9 := Try.underlying9
  a9 := Try.isAgg9
  z9 := Try.sizeOf9
  v9 := Try.zeroValue9
  t116 := Try.underlying44
  a116 := Try.isAgg44
  z116 := Try.sizeOf44 }
open Go.RowKit Go.Lib in
theorem Try.strings_makeASCIISet (hv116 : ∀ w, (zeroValue 44).run Try.prog w = .ok (.agg (Array.replicate 256 (.bool false))) w) (chars : ByteArray) (w : World) (hs : chars.size < 4294967281) (hascii : ∀ (j : Nat) b, chars.data.toList[j]? = some b → b.toNat < 128) :
    Calls Try.prog 31 #[.string chars] w fun e w' => e = .returned (.tuple #[.agg (Lib.setCells chars.data.toList), .bool true]) ∧ w' = w.alloc (.cells (Lib.setCells chars.data.toList) 44) := Any.strings_makeASCIISet Try.lays227 hv116 (by kernel_rfl) chars w hs hascii
def Try.lays228_ren : Go.Shelf.Ren := ⟨fun | 228 => 32 | n => n, fun | 124 => 54 | 5 => 5 | 4 => 4 | 0 => 0 | 116 => 44 | n => n, fun | n => n⟩
theorem Try.lays228 : Go.Proofs.Lays.n228 Try.prog Try.lays228_ren := {
  mixed := by kernel_rfl
  f228 := Try.func32.trans (congrArg some (by kernel_rfl))
  t0 := Try.underlying0
  a0 := Try.isAgg0
  z0 := Try.sizeOf0
  v0 := Try.zeroValue0
  t4 := Try.underlying4
  a4 := Try.isAgg4
  z4 := Try.sizeOf4
  v4 := Try.zeroValue4
  t5 := Try.underlying5
  a5 := Try.isAgg5
  z5 := Try.sizeOf5
  v5 := Try.zeroValue5
  t116 := Try.underlying44
  a116 := Try.isAgg44
  z116 := Try.sizeOf44
  t124 := Try.underlying54
  a124 := Try.isAgg54
  z124 := Try.sizeOf54
  v124 := Try.zeroValue54 }
open Go.RowKit Go.Lib in
theorem Try.asciiSet_contains (b : Nat) (x : UInt8) (v : Bool) (w : World) (hc : w.cell? ⟨b, x.toNat, none⟩ = some (.bool v)) :
    Calls Try.prog 32 #[.pointer (some ⟨b, 0, none⟩), .int .u8 x.toNat] w fun e w' => e = .returned (.bool v) ∧ w' = w := Any.asciiSet_contains Try.lays228 b x v w hc
open Go.RowKit Go.Lib in
theorem Try.strings_IndexAny_long (hv116 : ∀ w, (zeroValue 44).run Try.prog w = .ok (.agg (Array.replicate 256 (.bool false))) w) (s chars : ByteArray) (w : World) (h2 : 2 ≤ chars.size) (h8 : 8 < s.size) (hs : s.size < 4294967281) (hcs : chars.size < 4294967281) (hascii : ∀ (j : Nat) b, chars.data.toList[j]? = some b → b.toNat < 128) :
    Calls Try.prog 20 #[.string s, .string chars] w fun e w' => e = .returned (.int .i64 (Lib.indexAny s.data.toList chars.data.toList)) ∧ w' = ((w.alloc (.cells (Lib.setCells chars.data.toList) 44)).alloc (.cells (Lib.setCells chars.data.toList) 44)) := Any.strings_IndexAny_long Try.lays153 hv116 (by kernel_rfl) s chars w h2 h8 hs hcs hascii
open Go.RowKit Go.Lib in
theorem Try.strings_IndexAny (hv116 : ∀ w, (zeroValue 44).run Try.prog w = .ok (.agg (Array.replicate 256 (.bool false))) w) (s chars : ByteArray) (w : World) (hs : s.size < 4294967281) (hcs : chars.size < 4294967281) (has : ∀ (j : Nat) b, s.data.toList[j]? = some b → b.toNat < 128) (hac : ∀ (j : Nat) b, chars.data.toList[j]? = some b → b.toNat < 128) :
    Calls Try.prog 20 #[.string s, .string chars] w fun e w' => e = .returned (.int .i64 (Lib.indexAny s.data.toList chars.data.toList)) ∧ Below w.heap.size w w' := Any.strings_IndexAny Try.lays153 hv116 (by kernel_rfl) s chars w hs hcs has hac
def Try.lays150_ren : Go.Shelf.Ren := ⟨fun | 150 => 24 | 153 => 20 | 152 => 29 | 226 => 30 | 227 => 31 | 228 => 32 | 137 => 25 | 119 => 37 | 224 => 38 | 225 => 39 | 217 => 33 | 266 => 40 | n => n, fun | 9 => 9 | 4 => 4 | 3 => 3 | 5 => 5 | 21 => 21 | 117 => 45 | 116 => 44 | 0 => 0 | 46 => 53 | 124 => 54 | n => n, fun | n => n⟩
theorem Try.lays150 : Go.Proofs.Lays.n150 Try.prog Try.lays150_ren := {
  mixed := by kernel_rfl
  f119 := Try.func37.trans (congrArg some (by kernel_rfl))
  f137 := Try.func25.trans (congrArg some (by kernel_rfl))
  f150 := Try.func24.trans (congrArg some (by kernel_rfl))
  f152 := Try.func29.trans (congrArg some (by kernel_rfl))
  f153 := Try.func20.trans (congrArg some (by kernel_rfl))
  f217 := Try.func33.trans (congrArg some (by kernel_rfl))
  f224 := Try.func38.trans (congrArg some (by kernel_rfl))
  f225 := Try.func39.trans (congrArg some (by kernel_rfl))
  f226 := Try.func30.trans (congrArg some (by kernel_rfl))
  f227 := Try.func31.trans (congrArg some (by kernel_rfl))
  f228 := Try.func32.trans (congrArg some (by kernel_rfl))
  f266 := Try.func40.trans (congrArg some (by kernel_rfl))
  t0 := Try.underlying0
  a0 := Try.isAgg0
  z0 := Try.sizeOf0
  v0 := Try.zeroValue0
  t3 := Try.underlying3
  a3 := Try.isAgg3
  z3 := Try.sizeOf3
  v3 := Try.zeroValue3
  t4 := Try.underlying4
  a4 := Try.isAgg4
  z4 := Try.sizeOf4
  v4 := Try.zeroValue4
  t5 := Try.underlying5
  a5 := Try.isAgg5
  z5 := Try.sizeOf5
  v5 := Try.zeroValue5
  t9 := Try.underlying9
  a9 := Try.isAgg9
  z9 := Try.sizeOf9
  v9 := Try.zeroValue9
  t21 := Try.underlying21
  a21 := Try.isAgg21
  z21 := Try.sizeOf21
  v21 := Try.zeroValue21
  t46 := Try.underlying53
  a46 := Try.isAgg53
  z46 := Try.sizeOf53
  v46 := Try.zeroValue53
  t116 := Try.underlying44
  a116 := Try.isAgg44
  z116 := Try.sizeOf44
  t117 := Try.underlying45
  a117 := Try.isAgg45
  z117 := Try.sizeOf45
  v117 := Try.zeroValue45
  t124 := Try.underlying54
  a124 := Try.isAgg54
  z124 := Try.sizeOf54
  v124 := Try.zeroValue54 }
open Go.RowKit Go.Lib in
theorem Try.strings_ContainsAny (hv116 : ∀ w, (zeroValue 44).run Try.prog w = .ok (.agg (Array.replicate 256 (.bool false))) w) (s chars : ByteArray) (w : World) (hs : s.size < 4294967281) (hcs : chars.size < 4294967281) (has : ∀ (j : Nat) b, s.data.toList[j]? = some b → b.toNat < 128) (hac : ∀ (j : Nat) b, chars.data.toList[j]? = some b → b.toNat < 128) :
    Calls Try.prog 24 #[.string s, .string chars] w fun e w' => e = .returned (.bool (Lib.containsAny s.data.toList chars.data.toList)) ∧ Below w.heap.size w w' := Any.strings_ContainsAny Try.lays150 hv116 (by kernel_rfl) s chars w hs hcs has hac
open Go.RowKit Go.Lib in
theorem Try.strings_IndexAny_laid (s chars : ByteArray) (w : World) (hs : s.size < 4294967281) (hcs : chars.size < 4294967281) (has : ∀ (j : Nat) b, s.data.toList[j]? = some b → b.toNat < 128) (hac : ∀ (j : Nat) b, chars.data.toList[j]? = some b → b.toNat < 128) :
    Calls Try.prog 20 #[.string s, .string chars] w fun e w' => e = .returned (.int .i64 (Lib.indexAny s.data.toList chars.data.toList)) ∧ Below w.heap.size w w' := Any.strings_IndexAny_laid Try.lays153 (by kernel_rfl) s chars w hs hcs has hac
open Go.RowKit Go.Lib in
theorem Try.strings_ContainsAny_laid (s chars : ByteArray) (w : World) (hs : s.size < 4294967281) (hcs : chars.size < 4294967281) (has : ∀ (j : Nat) b, s.data.toList[j]? = some b → b.toNat < 128) (hac : ∀ (j : Nat) b, chars.data.toList[j]? = some b → b.toNat < 128) :
    Calls Try.prog 24 #[.string s, .string chars] w fun e w' => e = .returned (.bool (Lib.containsAny s.data.toList chars.data.toList)) ∧ Below w.heap.size w w' := Any.strings_ContainsAny_laid Try.lays150 (by kernel_rfl) s chars w hs hcs has hac
def Try.laysB_ren : Go.Shelf.Ren := ⟨fun | 165 => 19 | 166 => 21 | 167 => 22 | 240 => 27 | 276 => 35 | n => n, fun | 70 => 29 | 3 => 3 | 0 => 0 | 4 => 4 | 9 => 9 | 20 => 20 | 72 => 31 | 37 => 27 | 164 => 48 | 5 => 5 | 75 => 35 | 80 => 39 | n => n, fun | n => n⟩
theorem Try.lays240 : Go.Proofs.Lays.n240 Try.prog Try.laysB_ren := {
  mixed := by kernel_rfl
  f240 := Try.func27.trans (congrArg some (by kernel_rfl))
  f276 := Try.func35.trans (congrArg some (by kernel_rfl))
  t0 := Try.underlying0
  a0 := Try.isAgg0
  z0 := Try.sizeOf0
  v0 := Try.zeroValue0
  t4 := Try.underlying4
  a4 := Try.isAgg4
  z4 := Try.sizeOf4
  v4 := Try.zeroValue4
  t9 := Try.underlying9
  a9 := Try.isAgg9
  z9 := Try.sizeOf9
  v9 := Try.zeroValue9
  t20 := Try.underlying20
  a20 := Try.isAgg20
  z20 := Try.sizeOf20
  v20 := Try.zeroValue20
  t70 := Try.underlying29
  a70 := Try.isAgg29
  z70 := Try.sizeOf29
  v70 := Try.zeroValue29
  t72 := Try.underlying31
  a72 := Try.isAgg31
  z72 := Try.sizeOf31
  v72 := Try.zeroValue31
  t164 := Try.underlying48
  a164 := Try.isAgg48
  z164 := Try.sizeOf48
  v164 := Try.zeroValue48 }
theorem Try.lays166 : Go.Proofs.Lays.n166 Try.prog Try.laysB_ren := {
  mixed := by kernel_rfl
  f166 := Try.func21.trans (congrArg some (by kernel_rfl))
  f240 := Try.func27.trans (congrArg some (by kernel_rfl))
  f276 := Try.func35.trans (congrArg some (by kernel_rfl))
  t0 := Try.underlying0
  a0 := Try.isAgg0
  z0 := Try.sizeOf0
  v0 := Try.zeroValue0
  t3 := Try.underlying3
  a3 := Try.isAgg3
  z3 := Try.sizeOf3
  v3 := Try.zeroValue3
  t4 := Try.underlying4
  a4 := Try.isAgg4
  z4 := Try.sizeOf4
  v4 := Try.zeroValue4
  t9 := Try.underlying9
  a9 := Try.isAgg9
  z9 := Try.sizeOf9
  v9 := Try.zeroValue9
  t20 := Try.underlying20
  a20 := Try.isAgg20
  z20 := Try.sizeOf20
  v20 := Try.zeroValue20
  t37 := Try.underlying27
  a37 := Try.isAgg27
  z37 := Try.sizeOf27
  v37 := Try.zeroValue27
  t70 := Try.underlying29
  a70 := Try.isAgg29
  z70 := Try.sizeOf29
  v70 := Try.zeroValue29
  t72 := Try.underlying31
  a72 := Try.isAgg31
  z72 := Try.sizeOf31
  v72 := Try.zeroValue31
  t75 := Try.underlying35
  a75 := Try.isAgg35
  z75 := Try.sizeOf35
  v75 := Try.zeroValue35
  t164 := Try.underlying48
  a164 := Try.isAgg48
  z164 := Try.sizeOf48
  v164 := Try.zeroValue48 }
theorem Try.lays167 : Go.Proofs.Lays.n167 Try.prog Try.laysB_ren := {
  mixed := by kernel_rfl
  f167 := Try.func22.trans (congrArg some (by kernel_rfl))
  f240 := Try.func27.trans (congrArg some (by kernel_rfl))
  f276 := Try.func35.trans (congrArg some (by kernel_rfl))
  t0 := Try.underlying0
  a0 := Try.isAgg0
  z0 := Try.sizeOf0
  v0 := Try.zeroValue0
  t4 := Try.underlying4
  a4 := Try.isAgg4
  z4 := Try.sizeOf4
  v4 := Try.zeroValue4
  t5 := Try.underlying5
  a5 := Try.isAgg5
  z5 := Try.sizeOf5
  v5 := Try.zeroValue5
  t9 := Try.underlying9
  a9 := Try.isAgg9
  z9 := Try.sizeOf9
  v9 := Try.zeroValue9
  t20 := Try.underlying20
  a20 := Try.isAgg20
  z20 := Try.sizeOf20
  v20 := Try.zeroValue20
  t37 := Try.underlying27
  a37 := Try.isAgg27
  z37 := Try.sizeOf27
  v37 := Try.zeroValue27
  t70 := Try.underlying29
  a70 := Try.isAgg29
  z70 := Try.sizeOf29
  v70 := Try.zeroValue29
  t72 := Try.underlying31
  a72 := Try.isAgg31
  z72 := Try.sizeOf31
  v72 := Try.zeroValue31
  t75 := Try.underlying35
  a75 := Try.isAgg35
  z75 := Try.sizeOf35
  v75 := Try.zeroValue35
  t164 := Try.underlying48
  a164 := Try.isAgg48
  z164 := Try.sizeOf48
  v164 := Try.zeroValue48 }
theorem Try.Builder_Extra_B : Builder.Extra Try.prog Try.laysB_ren := {
  sizeBuilder := by kernel_rfl
  liesBuilder := by kernel_rfl
  t5 := Try.underlying5
  a5 := Try.isAgg5
  z5 := Try.sizeOf5
  v5 := Try.zeroValue5
  infoByte := by kernel_rfl
  cellsByte := by kernel_rfl
  sizeByte := by kernel_rfl
  neB5 := by decide }
open Go.RowKit in
theorem Try.Builder_WriteByte_k (B b : Nat) (bs : List Value) (c : Int) (w : World) (h : Lib.IsBuilderF 31 5 B b bs w) (hlen : bs.length + 1 ≤ 140737488355328) (hBw : B ≤ w.heap.size) :
    Calls Try.prog 22 #[.pointer (some ⟨b, 0, none⟩), .int .u8 c] w fun e w' => e = .returned .nilIface ∧ (Lib.BuilderAtF 31 5 B b (.pointer (some ⟨b, 0, none⟩)) (bs ++ [.int .u8 c]) w' ∧ Below B w w' ∧ Lib.OthersKept 5 (some b) w w') := Any.Builder_WriteByte_k Try.lays167 Try.Builder_Extra_B B b bs c w h hlen hBw
open Go.RowKit in
theorem Try.Builder_WriteString_k (B b : Nat) (bs : List Value) (s : ByteArray) (w : World) (h : Lib.IsBuilderF 31 5 B b bs w) (hlen : bs.length + s.size ≤ 140737488355328) (hBw : B ≤ w.heap.size) :
    Calls Try.prog 21 #[.pointer (some ⟨b, 0, none⟩), .string s] w fun e w' => e = .returned (.tuple #[.int .i64 s.size, .nilIface]) ∧ (Lib.BuilderAtF 31 5 B b (.pointer (some ⟨b, 0, none⟩)) (bs ++ Lib.strCells s) w' ∧ Below B w w' ∧ Lib.OthersKept 5 (some b) w w') := Any.Builder_WriteString_k Try.lays166 Try.Builder_Extra_B B b bs s w h hlen hBw
end Go.Proofs
