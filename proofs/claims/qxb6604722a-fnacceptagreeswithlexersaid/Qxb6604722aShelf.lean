/- The shelf's contracts at this program, laid by the kit's own tool, remarks struck. -/
import Derived.Shelf.Strings.Builder1
import Derived.Shelf.Small.Utf8
import Derived.Shelf.Small.Strs
import Derived.Shelf.Strings.BuilderF
import Derived.Shelf.Strings.BuilderK
import Derived.Shelf.Strings.Search1
import Derived.Shelf.Strings.Prefix
import Derived.Shelf.Strings.Runes
import Derived.Shelf.Strings.IndexAny
import Derived.Shelf.Strings.AsciiSet
import Derived.Shelf.Strings.IndexAnyAll
import Derived.Test.Qxb6604722aProg
namespace Go.Proofs
open Go.Shelf
def Try.lays169_ren : Go.Shelf.Ren := ⟨fun | 169 => 30 | n => n, fun | 70 => 60 | 9 => 9 | 0 => 0 | 72 => 62 | 37 => 52 | 127 => 74 | 3 => 3 | 5 => 5 | n => n, fun | n => n⟩
theorem Try.lays169 : Go.Proofs.Lays.n169 Try.prog Try.lays169_ren := {
  mixed := by kernel_rfl
  f169 := Try.func30.trans (congrArg some (by kernel_rfl))
  t0 := Try.underlying0
  a0 := Try.isAgg0
  z0 := Try.sizeOf0
  v0 := Try.zeroValue0
  t3 := Try.underlying3
  a3 := Try.isAgg3
  z3 := Try.sizeOf3
  v3 := Try.zeroValue3
  t9 := Try.underlying9
  a9 := Try.isAgg9
  z9 := Try.sizeOf9
  v9 := Try.zeroValue9
  t37 := Try.underlying52
  a37 := Try.isAgg52
  z37 := Try.sizeOf52
  v37 := Try.zeroValue52
  t70 := Try.underlying60
  a70 := Try.isAgg60
  z70 := Try.sizeOf60
  v70 := Try.zeroValue60
  t72 := Try.underlying62
  a72 := Try.isAgg62
  z72 := Try.sizeOf62
  v72 := Try.zeroValue62
  t127 := Try.underlying74
  a127 := Try.isAgg74
  z127 := Try.sizeOf74
  v127 := Try.zeroValue74 }
theorem Try.Builder_Extra_169 : Builder.Extra Try.prog Try.lays169_ren := {
  sizeBuilder := by kernel_rfl
  liesBuilder := by kernel_rfl
  t5 := Try.underlying5
  a5 := Try.isAgg5
  z5 := Try.sizeOf5
  v5 := Try.zeroValue5
  infoByte := by kernel_rfl
  cellsByte := by kernel_rfl
  sizeByte := by kernel_rfl
  neB5 := by decide }
open Go.RowKit in
theorem Try.Builder_String (B b : Nat) (l : List UInt8) (w : World) (h : Lib.IsBuilder 62 5 B b (Lib.byteCells l) w) (h0 : l ≠ []) :
    Calls Try.prog 30 #[.pointer (some ⟨b, 0, none⟩)] w fun e w' => e = .returned (.string ⟨l.toArray⟩) ∧ Below B w w' := Any.Builder_String Try.lays169 Try.Builder_Extra_169 B b l w h h0
open Go.RowKit in
theorem Try.Builder_String_empty (B b : Nat) (w : World) (h : Lib.IsBuilder 62 5 B b [] w) (hBw : B ≤ w.heap.size) :
    Calls Try.prog 30 #[.pointer (some ⟨b, 0, none⟩)] w fun e w' => e = .returned (.string ⟨#[]⟩) ∧ Below B w w' := Any.Builder_String_empty Try.lays169 Try.Builder_Extra_169 B b w h hBw
open Go.RowKit in
theorem Try.Builder_String_any (B b : Nat) (l : List UInt8) (w : World) (h : Lib.IsBuilder 62 5 B b (Lib.byteCells l) w) (hBw : B ≤ w.heap.size) :
    Calls Try.prog 30 #[.pointer (some ⟨b, 0, none⟩)] w fun e w' => e = .returned (.string ⟨l.toArray⟩) ∧ Below B w w' := Any.Builder_String_any Try.lays169 Try.Builder_Extra_169 B b l w h hBw
def Try.lays119_ren : Go.Shelf.Ren := ⟨fun | 119 => 59 | n => n, fun | 21 => 21 | 4 => 4 | n => n, fun | n => n⟩
theorem Try.lays119 : Go.Proofs.Lays.n119 Try.prog Try.lays119_ren := {
  mixed := by kernel_rfl
  f119 := Try.func59.trans (congrArg some (by kernel_rfl))
  t4 := Try.underlying4
  a4 := Try.isAgg4
  z4 := Try.sizeOf4
  v4 := Try.zeroValue4
  t21 := Try.underlying21
  a21 := Try.isAgg21
  z21 := Try.sizeOf21
  v21 := Try.zeroValue21 }
theorem Try.utf8_ValidRune (r : Int) (w : World) :
    Calls Try.prog 59 #[.int .i32 r] w fun e w' => e = .returned (.bool (Lib.validRune r)) ∧ w' = w := Any.utf8_ValidRune Try.lays119 r w
def Try.lays137_ren : Go.Shelf.Ren := ⟨fun | 137 => 27 | 217 => 36 | 266 => 49 | n => n, fun | 9 => 9 | 5 => 5 | 3 => 3 | n => n, fun | n => n⟩
theorem Try.lays137 : Go.Proofs.Lays.n137 Try.prog Try.lays137_ren := {
  mixed := by kernel_rfl
  f137 := Try.func27.trans (congrArg some (by kernel_rfl))
  f217 := Try.func36.trans (congrArg some (by kernel_rfl))
  f266 := Try.func49.trans (congrArg some (by kernel_rfl))
  t3 := Try.underlying3
  a3 := Try.isAgg3
  z3 := Try.sizeOf3
  v3 := Try.zeroValue3
  t5 := Try.underlying5
  a5 := Try.isAgg5
  z5 := Try.sizeOf5
  v5 := Try.zeroValue5
  t9 := Try.underlying9
  a9 := Try.isAgg9
  z9 := Try.sizeOf9
  v9 := Try.zeroValue9 }
open Go.RowKit in
theorem Try.strings_IndexByte (s : ByteArray) (c : Int) (w : World) :
    Calls Try.prog 27 #[.string s, .int .u8 c] w fun e w' => e = .returned (.int .i64 (Lib.indexByte s.data.toList c.toNat.toUInt8)) ∧ w' = w := Any.strings_IndexByte Try.lays137 s c w
open Go.RowKit in
theorem Try.Builder_String_f (B b : Nat) (l : List UInt8) (w : World) (h : Lib.IsBuilderF 62 5 B b (Lib.byteCells l) w) (h0 : l ≠ []) :
    Calls Try.prog 30 #[.pointer (some ⟨b, 0, none⟩)] w fun e w' => e = .returned (.string ⟨l.toArray⟩) ∧ (Lib.IsBuilderF 62 5 B b (Lib.byteCells l) w' ∧ Below B w w') := Any.Builder_String_f Try.lays169 Try.Builder_Extra_169 B b l w h h0
open Go.RowKit in
theorem Try.Builder_String_empty_f (B b : Nat) (w : World) (h : Lib.IsBuilderF 62 5 B b [] w) (hBw : B ≤ w.heap.size) :
    Calls Try.prog 30 #[.pointer (some ⟨b, 0, none⟩)] w fun e w' => e = .returned (.string ⟨#[]⟩) ∧ (Lib.IsBuilderF 62 5 B b [] w' ∧ Below B w w') := Any.Builder_String_empty_f Try.lays169 Try.Builder_Extra_169 B b w h hBw
open Go.RowKit in
theorem Try.Builder_String_any_f (B b : Nat) (l : List UInt8) (w : World) (h : Lib.IsBuilderF 62 5 B b (Lib.byteCells l) w) (hBw : B ≤ w.heap.size) :
    Calls Try.prog 30 #[.pointer (some ⟨b, 0, none⟩)] w fun e w' => e = .returned (.string ⟨l.toArray⟩) ∧ (Lib.IsBuilderF 62 5 B b (Lib.byteCells l) w' ∧ Below B w w') := Any.Builder_String_any_f Try.lays169 Try.Builder_Extra_169 B b l w h hBw
open Go.RowKit in
theorem Try.Builder_String_k (B b : Nat) (l : List UInt8) (w : World) (h : Lib.IsBuilderF 62 5 B b (Lib.byteCells l) w) (h0 : l ≠ []) :
    Calls Try.prog 30 #[.pointer (some ⟨b, 0, none⟩)] w fun e w' => e = .returned (.string ⟨l.toArray⟩) ∧ (Lib.IsBuilderF 62 5 B b (Lib.byteCells l) w' ∧ Below B w w' ∧ Lib.OthersKept 5 (some b) w w') := Any.Builder_String_k Try.lays169 Try.Builder_Extra_169 B b l w h h0
open Go.RowKit in
theorem Try.Builder_String_empty_k (B b : Nat) (w : World) (h : Lib.IsBuilderF 62 5 B b [] w) (hBw : B ≤ w.heap.size) :
    Calls Try.prog 30 #[.pointer (some ⟨b, 0, none⟩)] w fun e w' => e = .returned (.string ⟨#[]⟩) ∧ (Lib.IsBuilderF 62 5 B b [] w' ∧ Below B w w' ∧ Lib.OthersKept 5 (some b) w w') := Any.Builder_String_empty_k Try.lays169 Try.Builder_Extra_169 B b w h hBw
open Go.RowKit in
theorem Try.Builder_String_any_k (B b : Nat) (l : List UInt8) (w : World) (h : Lib.IsBuilderF 62 5 B b (Lib.byteCells l) w) (hBw : B ≤ w.heap.size) :
    Calls Try.prog 30 #[.pointer (some ⟨b, 0, none⟩)] w fun e w' => e = .returned (.string ⟨l.toArray⟩) ∧ (Lib.IsBuilderF 62 5 B b (Lib.byteCells l) w' ∧ Below B w w' ∧ Lib.OthersKept 5 (some b) w w') := Any.Builder_String_any_k Try.lays169 Try.Builder_Extra_169 B b l w h hBw
def Try.lays217_ren : Go.Shelf.Ren := ⟨fun | 217 => 36 | 266 => 49 | n => n, fun | 9 => 9 | 5 => 5 | 3 => 3 | n => n, fun | n => n⟩
theorem Try.lays217 : Go.Proofs.Lays.n217 Try.prog Try.lays217_ren := {
  mixed := by kernel_rfl
  f217 := Try.func36.trans (congrArg some (by kernel_rfl))
  f266 := Try.func49.trans (congrArg some (by kernel_rfl))
  t3 := Try.underlying3
  a3 := Try.isAgg3
  z3 := Try.sizeOf3
  v3 := Try.zeroValue3
  t5 := Try.underlying5
  a5 := Try.isAgg5
  z5 := Try.sizeOf5
  v5 := Try.zeroValue5
  t9 := Try.underlying9
  a9 := Try.isAgg9
  z9 := Try.sizeOf9
  v9 := Try.zeroValue9 }
open Go.RowKit Go.Lib in
theorem Try.stringslite_IndexByte (s : ByteArray) (c : Int) (w : World) :
    Calls Try.prog 36 #[.string s, .int .u8 c] w fun e w' => e = .returned (.int .i64 (Lib.indexByte s.data.toList c.toNat.toUInt8)) ∧ w' = w := Any.stringslite_IndexByte Try.lays217 s c w
def Try.lays224_ren : Go.Shelf.Ren := ⟨fun | 224 => 60 | n => n, fun | 3 => 3 | n => n, fun | n => n⟩
theorem Try.lays224 : Go.Proofs.Lays.n224 Try.prog Try.lays224_ren := {
  mixed := by kernel_rfl
  f224 := Try.func60.trans (congrArg some (by kernel_rfl))
  t3 := Try.underlying3
  a3 := Try.isAgg3
  z3 := Try.sizeOf3
  v3 := Try.zeroValue3 }
open Go.RowKit Go.Lib in
theorem Try.bytealg_Cutover (n : Int) (h0 : 0 ≤ n) (h1 : n < 4611686018427387904) (w : World) :
    Calls Try.prog 60 #[.int .i64 n] w fun e w' => e = .returned (.int .i64 ((n + 16) / 8)) ∧ w' = w := Any.bytealg_Cutover Try.lays224 n h0 h1 w
def Try.lays206_ren : Go.Shelf.Ren := ⟨fun | 206 => 51 | n => n, fun | 9 => 9 | 4 => 4 | 3 => 3 | n => n, fun | n => n⟩
theorem Try.lays206 : Go.Proofs.Lays.n206 Try.prog Try.lays206_ren := {
  mixed := by kernel_rfl
  f206 := Try.func51.trans (congrArg some (by kernel_rfl))
  t3 := Try.underlying3
  a3 := Try.isAgg3
  z3 := Try.sizeOf3
  v3 := Try.zeroValue3
  t4 := Try.underlying4
  a4 := Try.isAgg4
  z4 := Try.sizeOf4
  v4 := Try.zeroValue4
  t9 := Try.underlying9
  a9 := Try.isAgg9
  z9 := Try.sizeOf9
  v9 := Try.zeroValue9 }
open Go.RowKit Go.Lib in
theorem Try.stringslite_HasPrefix (s p : ByteArray) (w : World) :
    Calls Try.prog 51 #[.string s, .string p] w fun e w' => e = .returned (.bool (Lib.hasPrefix s.data.toList p.data.toList)) ∧ w' = w := Any.stringslite_HasPrefix Try.lays206 s p w
def Try.lays99_ren : Go.Shelf.Ren := ⟨fun | 99 => 38 | 206 => 51 | n => n, fun | 9 => 9 | 4 => 4 | 3 => 3 | n => n, fun | n => n⟩
theorem Try.lays99 : Go.Proofs.Lays.n99 Try.prog Try.lays99_ren := {
  mixed := by kernel_rfl
  f99 := Try.func38.trans (congrArg some (by kernel_rfl))
  f206 := Try.func51.trans (congrArg some (by kernel_rfl))
  t3 := Try.underlying3
  a3 := Try.isAgg3
  z3 := Try.sizeOf3
  v3 := Try.zeroValue3
  t4 := Try.underlying4
  a4 := Try.isAgg4
  z4 := Try.sizeOf4
  v4 := Try.zeroValue4
  t9 := Try.underlying9
  a9 := Try.isAgg9
  z9 := Try.sizeOf9
  v9 := Try.zeroValue9 }
open Go.RowKit Go.Lib in
theorem Try.strings_HasPrefix (s p : ByteArray) (w : World) :
    Calls Try.prog 38 #[.string s, .string p] w fun e w' => e = .returned (.bool (Lib.hasPrefix s.data.toList p.data.toList)) ∧ w' = w := Any.strings_HasPrefix Try.lays99 s p w
def Try.lays152_ren : Go.Shelf.Ren := ⟨fun | 152 => 55 | 137 => 27 | 119 => 59 | 224 => 60 | 225 => 61 | 217 => 36 | 266 => 49 | n => n, fun | 9 => 9 | 21 => 21 | 3 => 3 | 4 => 4 | 5 => 5 | 0 => 0 | 46 => 92 | n => n, fun | n => n⟩
theorem Try.lays152 : Go.Proofs.Lays.n152 Try.prog Try.lays152_ren := {
  mixed := by kernel_rfl
  f119 := Try.func59.trans (congrArg some (by kernel_rfl))
  f137 := Try.func27.trans (congrArg some (by kernel_rfl))
  f152 := Try.func55.trans (congrArg some (by kernel_rfl))
  f217 := Try.func36.trans (congrArg some (by kernel_rfl))
  f224 := Try.func60.trans (congrArg some (by kernel_rfl))
  f225 := Try.func61.trans (congrArg some (by kernel_rfl))
  f266 := Try.func49.trans (congrArg some (by kernel_rfl))
  t0 := Try.underlying0
  a0 := Try.isAgg0
  z0 := Try.sizeOf0
  v0 := Try.zeroValue0
  t3 := Try.underlying3
  a3 := Try.isAgg3
  z3 := Try.sizeOf3
  v3 := Try.zeroValue3
  t4 := Try.underlying4
  a4 := Try.isAgg4
  z4 := Try.sizeOf4
  v4 := Try.zeroValue4
  t5 := Try.underlying5
  a5 := Try.isAgg5
  z5 := Try.sizeOf5
  v5 := Try.zeroValue5
  t9 := Try.underlying9
  a9 := Try.isAgg9
  z9 := Try.sizeOf9
  v9 := Try.zeroValue9
  t21 := Try.underlying21
  a21 := Try.isAgg21
  z21 := Try.sizeOf21
  v21 := Try.zeroValue21
  t46 := Try.underlying92
  a46 := Try.isAgg92
  z46 := Try.sizeOf92
  v46 := Try.zeroValue92 }
open Go.RowKit Go.Lib in
theorem Try.strings_IndexRune_ascii (s : ByteArray) (r : Int) (w : World) (h0 : 0 ≤ r) (h1 : r < 128) :
    Calls Try.prog 55 #[.string s, .int .i32 r] w fun e w' => e = .returned (.int .i64 (Lib.indexByte s.data.toList r.toNat.toUInt8)) ∧ w' = w := Any.strings_IndexRune_ascii Try.lays152 s r w h0 h1
def Try.lays226_ren : Go.Shelf.Ren := ⟨fun | 226 => 56 | n => n, fun | 3 => 3 | 4 => 4 | n => n, fun | n => n⟩
theorem Try.lays226 : Go.Proofs.Lays.n226 Try.prog Try.lays226_ren := {
  mixed := by kernel_rfl
  f226 := Try.func56.trans (congrArg some (by kernel_rfl))
  t3 := Try.underlying3
  a3 := Try.isAgg3
  z3 := Try.sizeOf3
  v3 := Try.zeroValue3
  t4 := Try.underlying4
  a4 := Try.isAgg4
  z4 := Try.sizeOf4
  v4 := Try.zeroValue4 }
open Go.RowKit Go.Lib in
theorem Try.strings_shouldUseASCIISet (n : Int) (w : World) :
    Calls Try.prog 56 #[.int .i64 n] w fun e w' => e = .returned (.bool (decide (8 < n))) ∧ w' = w := Any.strings_shouldUseASCIISet Try.lays226 n w
def Try.lays153_ren : Go.Shelf.Ren := ⟨fun | 153 => 53 | 152 => 55 | 226 => 56 | 227 => 57 | 228 => 58 | 137 => 27 | 119 => 59 | 224 => 60 | 225 => 61 | 217 => 36 | 266 => 49 | n => n, fun | 9 => 9 | 3 => 3 | 4 => 4 | 5 => 5 | 21 => 21 | 117 => 88 | 116 => 87 | 0 => 0 | 46 => 92 | 124 => 93 | n => n, fun | n => n⟩
theorem Try.lays153 : Go.Proofs.Lays.n153 Try.prog Try.lays153_ren := {
  mixed := by kernel_rfl
  f119 := Try.func59.trans (congrArg some (by kernel_rfl))
  f137 := Try.func27.trans (congrArg some (by kernel_rfl))
  f152 := Try.func55.trans (congrArg some (by kernel_rfl))
  f153 := Try.func53.trans (congrArg some (by kernel_rfl))
  f217 := Try.func36.trans (congrArg some (by kernel_rfl))
  f224 := Try.func60.trans (congrArg some (by kernel_rfl))
  f225 := Try.func61.trans (congrArg some (by kernel_rfl))
  f226 := Try.func56.trans (congrArg some (by kernel_rfl))
  f227 := Try.func57.trans (congrArg some (by kernel_rfl))
  f228 := Try.func58.trans (congrArg some (by kernel_rfl))
  f266 := Try.func49.trans (congrArg some (by kernel_rfl))
  t0 := Try.underlying0
  a0 := Try.isAgg0
  z0 := Try.sizeOf0
  v0 := Try.zeroValue0
  t3 := Try.underlying3
  a3 := Try.isAgg3
  z3 := Try.sizeOf3
  v3 := Try.zeroValue3
  t4 := Try.underlying4
  a4 := Try.isAgg4
  z4 := Try.sizeOf4
  v4 := Try.zeroValue4
  t5 := Try.underlying5
  a5 := Try.isAgg5
  z5 := Try.sizeOf5
  v5 := Try.zeroValue5
  t9 := Try.underlying9
  a9 := Try.isAgg9
  z9 := Try.sizeOf9
  v9 := Try.zeroValue9
  t21 := Try.underlying21
  a21 := Try.isAgg21
  z21 := Try.sizeOf21
  v21 := Try.zeroValue21
  t46 := Try.underlying92
  a46 := Try.isAgg92
  z46 := Try.sizeOf92
  v46 := Try.zeroValue92
  t116 := Try.underlying87
  a116 := Try.isAgg87
  z116 := Try.sizeOf87
  t117 := Try.underlying88
  a117 := Try.isAgg88
  z117 := Try.sizeOf88
  v117 := Try.zeroValue88
  t124 := Try.underlying93
  a124 := Try.isAgg93
  z124 := Try.sizeOf93
  v124 := Try.zeroValue93 }
open Go.RowKit Go.Lib in
theorem Try.strings_IndexAny_none (s chars : ByteArray) (w : World) (h0 : chars.size = 0) :
    Calls Try.prog 53 #[.string s, .string chars] w fun e w' => e = .returned (.int .i64 (Lib.indexAny s.data.toList chars.data.toList)) ∧ w' = w := Any.strings_IndexAny_none Try.lays153 s chars w h0
open Go.RowKit Go.Lib in
theorem Try.strings_IndexAny_one (s chars : ByteArray) (w : World) (h1 : chars.size = 1) (hascii : ∀ (j : Nat) b, chars.data.toList[j]? = some b → b.toNat < 128) :
    Calls Try.prog 53 #[.string s, .string chars] w fun e w' => e = .returned (.int .i64 (Lib.indexAny s.data.toList chars.data.toList)) ∧ w' = w := Any.strings_IndexAny_one Try.lays153 s chars w h1 hascii
open Go.RowKit Go.Lib in
theorem Try.strings_IndexAny_short (s chars : ByteArray) (w : World) (h2 : 2 ≤ chars.size) (h8 : s.size ≤ 8) (hascii : ∀ (j : Nat) b, s.data.toList[j]? = some b → b.toNat < 128) :
    Calls Try.prog 53 #[.string s, .string chars] w fun e w' => e = .returned (.int .i64 (Lib.indexAny s.data.toList chars.data.toList)) ∧ ∃ pos, w' = w.iter s pos := Any.strings_IndexAny_short Try.lays153 s chars w h2 h8 hascii
def Try.lays227_ren : Go.Shelf.Ren := ⟨fun | 227 => 57 | n => n, fun | 9 => 9 | 116 => 87 | 4 => 4 | 0 => 0 | 3 => 3 | 5 => 5 | n => n, fun | n => n⟩
theorem Try.lays227 : Go.Proofs.Lays.n227 Try.prog Try.lays227_ren := {
  mixed := by kernel_rfl
  f227 := Try.func57.trans (congrArg some (by kernel_rfl))
  t0 := Try.underlying0
  a0 := Try.isAgg0
  z0 := Try.sizeOf0
  v0 := Try.zeroValue0
  t3 := Try.underlying3
  a3 := Try.isAgg3
  z3 := Try.sizeOf3
  v3 := Try.zeroValue3
  t4 := Try.underlying4
  a4 := Try.isAgg4
  z4 := Try.sizeOf4
  v4 := Try.zeroValue4
  t5 := Try.underlying5
  a5 := Try.isAgg5
  z5 := Try.sizeOf5
  v5 := Try.zeroValue5
  t9 := Try.underlying9
  a9 := Try.isAgg9
  z9 := Try.sizeOf9
  v9 := Try.zeroValue9
  t116 := Try.underlying87
  a116 := Try.isAgg87
  z116 := Try.sizeOf87 }
open Go.RowKit Go.Lib in
theorem Try.strings_makeASCIISet (hv116 : ∀ w, (zeroValue 87).run Try.prog w = .ok (.agg (Array.replicate 256 (.bool false))) w) (chars : ByteArray) (w : World) (hs : chars.size < 4294967281) (hascii : ∀ (j : Nat) b, chars.data.toList[j]? = some b → b.toNat < 128) :
    Calls Try.prog 57 #[.string chars] w fun e w' => e = .returned (.tuple #[.agg (Lib.setCells chars.data.toList), .bool true]) ∧ w' = w.alloc (.cells (Lib.setCells chars.data.toList) 87) := Any.strings_makeASCIISet Try.lays227 hv116 (by kernel_rfl) chars w hs hascii
def Try.lays228_ren : Go.Shelf.Ren := ⟨fun | 228 => 58 | n => n, fun | 124 => 93 | 5 => 5 | 4 => 4 | 0 => 0 | 116 => 87 | n => n, fun | n => n⟩
theorem Try.lays228 : Go.Proofs.Lays.n228 Try.prog Try.lays228_ren := {
  mixed := by kernel_rfl
  f228 := Try.func58.trans (congrArg some (by kernel_rfl))
  t0 := Try.underlying0
  a0 := Try.isAgg0
  z0 := Try.sizeOf0
  v0 := Try.zeroValue0
  t4 := Try.underlying4
  a4 := Try.isAgg4
  z4 := Try.sizeOf4
  v4 := Try.zeroValue4
  t5 := Try.underlying5
  a5 := Try.isAgg5
  z5 := Try.sizeOf5
  v5 := Try.zeroValue5
  t116 := Try.underlying87
  a116 := Try.isAgg87
  z116 := Try.sizeOf87
  t124 := Try.underlying93
  a124 := Try.isAgg93
  z124 := Try.sizeOf93
  v124 := Try.zeroValue93 }
open Go.RowKit Go.Lib in
theorem Try.asciiSet_contains (b : Nat) (x : UInt8) (v : Bool) (w : World) (hc : w.cell? ⟨b, x.toNat, none⟩ = some (.bool v)) :
    Calls Try.prog 58 #[.pointer (some ⟨b, 0, none⟩), .int .u8 x.toNat] w fun e w' => e = .returned (.bool v) ∧ w' = w := Any.asciiSet_contains Try.lays228 b x v w hc
open Go.RowKit Go.Lib in
theorem Try.strings_IndexAny_long (hv116 : ∀ w, (zeroValue 87).run Try.prog w = .ok (.agg (Array.replicate 256 (.bool false))) w) (s chars : ByteArray) (w : World) (h2 : 2 ≤ chars.size) (h8 : 8 < s.size) (hs : s.size < 4294967281) (hcs : chars.size < 4294967281) (hascii : ∀ (j : Nat) b, chars.data.toList[j]? = some b → b.toNat < 128) :
    Calls Try.prog 53 #[.string s, .string chars] w fun e w' => e = .returned (.int .i64 (Lib.indexAny s.data.toList chars.data.toList)) ∧ w' = ((w.alloc (.cells (Lib.setCells chars.data.toList) 87)).alloc (.cells (Lib.setCells chars.data.toList) 87)) := Any.strings_IndexAny_long Try.lays153 hv116 (by kernel_rfl) s chars w h2 h8 hs hcs hascii
open Go.RowKit Go.Lib in
theorem Try.strings_IndexAny (hv116 : ∀ w, (zeroValue 87).run Try.prog w = .ok (.agg (Array.replicate 256 (.bool false))) w) (s chars : ByteArray) (w : World) (hs : s.size < 4294967281) (hcs : chars.size < 4294967281) (has : ∀ (j : Nat) b, s.data.toList[j]? = some b → b.toNat < 128) (hac : ∀ (j : Nat) b, chars.data.toList[j]? = some b → b.toNat < 128) :
    Calls Try.prog 53 #[.string s, .string chars] w fun e w' => e = .returned (.int .i64 (Lib.indexAny s.data.toList chars.data.toList)) ∧ Below w.heap.size w w' := Any.strings_IndexAny Try.lays153 hv116 (by kernel_rfl) s chars w hs hcs has hac
def Try.lays150_ren : Go.Shelf.Ren := ⟨fun | 150 => 47 | 153 => 53 | 152 => 55 | 226 => 56 | 227 => 57 | 228 => 58 | 137 => 27 | 119 => 59 | 224 => 60 | 225 => 61 | 217 => 36 | 266 => 49 | n => n, fun | 9 => 9 | 4 => 4 | 3 => 3 | 5 => 5 | 21 => 21 | 117 => 88 | 116 => 87 | 0 => 0 | 46 => 92 | 124 => 93 | n => n, fun | n => n⟩
theorem Try.lays150 : Go.Proofs.Lays.n150 Try.prog Try.lays150_ren := {
  mixed := by kernel_rfl
  f119 := Try.func59.trans (congrArg some (by kernel_rfl))
  f137 := Try.func27.trans (congrArg some (by kernel_rfl))
  f150 := Try.func47.trans (congrArg some (by kernel_rfl))
  f152 := Try.func55.trans (congrArg some (by kernel_rfl))
  f153 := Try.func53.trans (congrArg some (by kernel_rfl))
  f217 := Try.func36.trans (congrArg some (by kernel_rfl))
  f224 := Try.func60.trans (congrArg some (by kernel_rfl))
  f225 := Try.func61.trans (congrArg some (by kernel_rfl))
  f226 := Try.func56.trans (congrArg some (by kernel_rfl))
  f227 := Try.func57.trans (congrArg some (by kernel_rfl))
  f228 := Try.func58.trans (congrArg some (by kernel_rfl))
  f266 := Try.func49.trans (congrArg some (by kernel_rfl))
  t0 := Try.underlying0
  a0 := Try.isAgg0
  z0 := Try.sizeOf0
  v0 := Try.zeroValue0
  t3 := Try.underlying3
  a3 := Try.isAgg3
  z3 := Try.sizeOf3
  v3 := Try.zeroValue3
  t4 := Try.underlying4
  a4 := Try.isAgg4
  z4 := Try.sizeOf4
  v4 := Try.zeroValue4
  t5 := Try.underlying5
  a5 := Try.isAgg5
  z5 := Try.sizeOf5
  v5 := Try.zeroValue5
  t9 := Try.underlying9
  a9 := Try.isAgg9
  z9 := Try.sizeOf9
  v9 := Try.zeroValue9
  t21 := Try.underlying21
  a21 := Try.isAgg21
  z21 := Try.sizeOf21
  v21 := Try.zeroValue21
  t46 := Try.underlying92
  a46 := Try.isAgg92
  z46 := Try.sizeOf92
  v46 := Try.zeroValue92
  t116 := Try.underlying87
  a116 := Try.isAgg87
  z116 := Try.sizeOf87
  t117 := Try.underlying88
  a117 := Try.isAgg88
  z117 := Try.sizeOf88
  v117 := Try.zeroValue88
  t124 := Try.underlying93
  a124 := Try.isAgg93
  z124 := Try.sizeOf93
  v124 := Try.zeroValue93 }
open Go.RowKit Go.Lib in
theorem Try.strings_ContainsAny (hv116 : ∀ w, (zeroValue 87).run Try.prog w = .ok (.agg (Array.replicate 256 (.bool false))) w) (s chars : ByteArray) (w : World) (hs : s.size < 4294967281) (hcs : chars.size < 4294967281) (has : ∀ (j : Nat) b, s.data.toList[j]? = some b → b.toNat < 128) (hac : ∀ (j : Nat) b, chars.data.toList[j]? = some b → b.toNat < 128) :
    Calls Try.prog 47 #[.string s, .string chars] w fun e w' => e = .returned (.bool (Lib.containsAny s.data.toList chars.data.toList)) ∧ Below w.heap.size w w' := Any.strings_ContainsAny Try.lays150 hv116 (by kernel_rfl) s chars w hs hcs has hac
open Go.RowKit Go.Lib in
theorem Try.strings_IndexAny_laid (s chars : ByteArray) (w : World) (hs : s.size < 4294967281) (hcs : chars.size < 4294967281) (has : ∀ (j : Nat) b, s.data.toList[j]? = some b → b.toNat < 128) (hac : ∀ (j : Nat) b, chars.data.toList[j]? = some b → b.toNat < 128) :
    Calls Try.prog 53 #[.string s, .string chars] w fun e w' => e = .returned (.int .i64 (Lib.indexAny s.data.toList chars.data.toList)) ∧ Below w.heap.size w w' := Any.strings_IndexAny_laid Try.lays153 (by kernel_rfl) s chars w hs hcs has hac
open Go.RowKit Go.Lib in
theorem Try.strings_ContainsAny_laid (s chars : ByteArray) (w : World) (hs : s.size < 4294967281) (hcs : chars.size < 4294967281) (has : ∀ (j : Nat) b, s.data.toList[j]? = some b → b.toNat < 128) (hac : ∀ (j : Nat) b, chars.data.toList[j]? = some b → b.toNat < 128) :
    Calls Try.prog 47 #[.string s, .string chars] w fun e w' => e = .returned (.bool (Lib.containsAny s.data.toList chars.data.toList)) ∧ Below w.heap.size w w' := Any.strings_ContainsAny_laid Try.lays150 (by kernel_rfl) s chars w hs hcs has hac
end Go.Proofs
