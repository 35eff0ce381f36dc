/- The shelf's contracts at this program, laid by the kit's own tool, remarks struck; what no walk wants is left out. -/
import Derived.Shelf.Strings.OnBuilder
import Derived.Shelf.Strings.Search3
import Derived.Test.Qxb6605469aProg
namespace Go.Proofs
open Go.Shelf
def Try.lays156_ren : Go.Shelf.Ren := ⟨fun | 156 => 29 | 165 => 33 | 166 => 34 | 169 => 35 | 240 => 37 | 241 => 38 | 276 => 43 | 277 => 44 | n => n, fun | 31 => 24 | 9 => 9 | 3 => 3 | 4 => 4 | 0 => 0 | 20 => 20 | 72 => 68 | 76 => 72 | 70 => 66 | 37 => 23 | 75 => 71 | 127 => 75 | 164 => 78 | 5 => 5 | 80 => 74 | n => n, fun | n => n⟩
theorem Try.lays156 : Go.Proofs.Lays.n156 Try.prog Try.lays156_ren := {
  mixed := by kernel_rfl
  f156 := Try.func29.trans (congrArg some (by kernel_rfl))
  f165 := Try.func33.trans (congrArg some (by kernel_rfl))
  f166 := Try.func34.trans (congrArg some (by kernel_rfl))
  f169 := Try.func35.trans (congrArg some (by kernel_rfl))
  f240 := Try.func37.trans (congrArg some (by kernel_rfl))
  f241 := Try.func38.trans (congrArg some (by kernel_rfl))
  f276 := Try.func43.trans (congrArg some (by kernel_rfl))
  f277 := Try.func44.trans (congrArg some (by kernel_rfl))
  t0 := Try.underlying0
  a0 := Try.isAgg0
  z0 := Try.sizeOf0
  v0 := Try.zeroValue0
  t3 := Try.underlying3
  a3 := Try.isAgg3
  z3 := Try.sizeOf3
  v3 := Try.zeroValue3
  t4 := Try.underlying4
  a4 := Try.isAgg4
  z4 := Try.sizeOf4
  v4 := Try.zeroValue4
  t9 := Try.underlying9
  a9 := Try.isAgg9
  z9 := Try.sizeOf9
  v9 := Try.zeroValue9
  t20 := Try.underlying20
  a20 := Try.isAgg20
  z20 := Try.sizeOf20
  v20 := Try.zeroValue20
  t31 := Try.underlying24
  a31 := Try.isAgg24
  z31 := Try.sizeOf24
  v31 := Try.zeroValue24
  t37 := Try.underlying23
  a37 := Try.isAgg23
  z37 := Try.sizeOf23
  v37 := Try.zeroValue23
  t70 := Try.underlying66
  a70 := Try.isAgg66
  z70 := Try.sizeOf66
  v70 := Try.zeroValue66
  t72 := Try.underlying68
  a72 := Try.isAgg68
  z72 := Try.sizeOf68
  v72 := Try.zeroValue68
  t75 := Try.underlying71
  a75 := Try.isAgg71
  z75 := Try.sizeOf71
  v75 := Try.zeroValue71
  t76 := Try.underlying72
  a76 := Try.isAgg72
  z76 := Try.sizeOf72
  v76 := Try.zeroValue72
  t127 := Try.underlying75
  a127 := Try.isAgg75
  z127 := Try.sizeOf75
  v127 := Try.zeroValue75
  t164 := Try.underlying78
  a164 := Try.isAgg78
  z164 := Try.sizeOf78
  v164 := Try.zeroValue78 }
theorem Try.Builder_Extra_156 : Builder.Extra Try.prog Try.lays156_ren := {
  sizeBuilder := by kernel_rfl
  liesBuilder := by kernel_rfl
  t5 := Try.underlying5
  a5 := Try.isAgg5
  z5 := Try.sizeOf5
  v5 := Try.zeroValue5
  infoByte := by kernel_rfl
  cellsByte := by kernel_rfl
  sizeByte := by kernel_rfl
  neB5 := by decide }
open Go.RowKit in
theorem Try.strings_Join_none (a : Option Addr) (c : Nat) (sep : ByteArray) (w : World) :
    Calls Try.prog 29 #[.slice a 0 c, .string sep] w fun e w' => e = .returned (.string ⟨#[]⟩) ∧ w' = w := Any.strings_Join_none Try.lays156 Try.Builder_Extra_156 a c sep w
open Go.RowKit in
theorem Try.strings_Join (bk o c : Nat) (xs : List ByteArray) (sep : ByteArray) (w : World) (hcells : ∀ (j : Nat) x, xs[j]? = some x → w.cell? ⟨bk, o + j, none⟩ = some (.string x)) (hbk : bk < w.heap.size) (hN : xs.length ≤ 140737488355328) (hcap : xs.length ≤ c) (hlen : (Lib.join (xs.map (·.data.toList)) sep.data.toList).length ≤ 140737488355328) :
    Calls Try.prog 29 #[.slice (some ⟨bk, o, none⟩) xs.length c, .string sep] w fun e w' => e = .returned (.string ⟨(Lib.join (xs.map (·.data.toList)) sep.data.toList).toArray⟩) ∧ Below w.heap.size w w' := Any.strings_Join Try.lays156 Try.Builder_Extra_156 bk o c xs sep w hcells hbk hN hcap hlen
def Try.lays144_ren : Go.Shelf.Ren := ⟨fun | 144 => 28 | 143 => 32 | 219 => 36 | 217 => 39 | 225 => 40 | 224 => 41 | 267 => 42 | 266 => 45 | 314 => 46 | n => n, fun | 9 => 9 | 4 => 4 | 3 => 3 | 5 => 5 | 46 => 36 | 146 => 82 | 51 => 81 | n => n, fun | 1 => 0 | n => n⟩
theorem Try.lays144 : Go.Proofs.Lays.n144 Try.prog Try.lays144_ren := {
  mixed := by kernel_rfl
  f143 := Try.func32.trans (congrArg some (by kernel_rfl))
  f144 := Try.func28.trans (congrArg some (by kernel_rfl))
  f217 := Try.func39.trans (congrArg some (by kernel_rfl))
  f219 := Try.func36.trans (congrArg some (by kernel_rfl))
  f224 := Try.func41.trans (congrArg some (by kernel_rfl))
  f225 := Try.func40.trans (congrArg some (by kernel_rfl))
  f266 := Try.func45.trans (congrArg some (by kernel_rfl))
  f267 := Try.func42.trans (congrArg some (by kernel_rfl))
  f314 := Try.func46.trans (congrArg some (by kernel_rfl))
  t3 := Try.underlying3
  a3 := Try.isAgg3
  z3 := Try.sizeOf3
  v3 := Try.zeroValue3
  t4 := Try.underlying4
  a4 := Try.isAgg4
  z4 := Try.sizeOf4
  v4 := Try.zeroValue4
  t5 := Try.underlying5
  a5 := Try.isAgg5
  z5 := Try.sizeOf5
  v5 := Try.zeroValue5
  t9 := Try.underlying9
  a9 := Try.isAgg9
  z9 := Try.sizeOf9
  v9 := Try.zeroValue9
  t46 := Try.underlying36
  a46 := Try.isAgg36
  z46 := Try.sizeOf36
  v46 := Try.zeroValue36
  t51 := Try.underlying81
  a51 := Try.isAgg81
  z51 := Try.sizeOf81
  v51 := Try.zeroValue81
  t146 := Try.underlying82
  a146 := Try.isAgg82
  z146 := Try.sizeOf82
  v146 := Try.zeroValue82
  g1 := by kernel_rfl }
open Go.RowKit Go.Lib in
theorem Try.strings_Contains_one (s : ByteArray) (c : UInt8) (w : World) :
    Calls Try.prog 28 #[.string s, .string ⟨#[c]⟩] w fun e w' => e = .returned (.bool (decide (0 ≤ Lib.indexByte s.data.toList c))) ∧ w' = w := Any.strings_Contains_one Try.lays144 s c w
end Go.Proofs
