/-
  No cell of these rows narrows 'for every input' (looked for: loops, veiled, ifaces, maps, wideKeys, modest, calm, conditions, laid).
  DERIVED. THE GIVEN ROWS OF THIS SEAT. 5 by the template 'for every input the law returns true; each argument reads behind the call as it read before'; 0 by the template 'total and deterministic' (their statements: Qxb6605469aTotals.lean).
  GIVEN WITH THE SEED: the statements are not yours to turn. If you find one false, say at which input.
  Laid BY PROGRAM, IN A SANDBOX (cutbox-rows.mjs): the forced cells as the released guide's own fill.sh prints them over the translation 672747e93ec456b4… (all of the seat's roots in one cut). By AI agents, Wed Nov 11 2026. No macro, syntax, notation, axiom, sorry.
-/
import Derived.Test.Qxb6605469aChecked
import GoSem.Claim
import GoSem.ClaimJoined
import GoSem.ClaimMapViews
import Derived.JoinedTies
import Derived.KernelRfl
namespace Go.Proofs.Qxb6605469a
/- THE CELL 'sum', in the pinned program and in every row, IS THE sha256 OF THE DUMP (.gsa) THAT Qxb6605469aProg.lean LOADS. Nothing in Lean hashes anything: it is a label: what it is worth is what the hold of that sum in a sandbox is worth. -/
noncomputable def Try.pinned : Pinned := { name := "qxb6605469a", sum := "672747e93ec456b4750a75611c1687a037c13c3c646be000bd26d5b7c576672b", checked := Try.checked }
namespace Rows
def none {H : Type} : Left H := { results := [], args := [] }

/-- 'zzlaws_dns_b1.FnNewMessageExact': WHATEVER THE INPUT: true; the input reads as it did. -/
def fnNewMessageExactSpec : ChangeSpec := { name := "fnNewMessageExact", fn := fun _ => fun
  | [d1, d2, d3, d4, d5, d6, d7, d8, d9, d10, d11] => { results := [.lit (.bool true)], args := [d1, d2, d3, d4, d5, d6, d7, d8, d9, d10, d11] }
  | _ => none }
def fnNewMessageExactRow : OpenClaim := { program := "qxb6605469a", sum := "672747e93ec456b4750a75611c1687a037c13c3c646be000bd26d5b7c576672b", func := "example.com/rollcall/rollcall/zzlaws_dns_b1.FnNewMessageExact", spec := "fnNewMessageExact", inPlace := ["internal/bytealg.IndexByteString", "internal/bytealg.IndexString", "internal/abi.NoEscape", "internal/bytealg.MakeNoZero"], named := ["internal/bytealg.MaxLen"], apart := false }
def FnNewMessageExactSaid : Prop := fnNewMessageExactRow.holds Try.pinned (OpenSpec.ofChange fnNewMessageExactSpec)

/-- ITS FALSE NEIGHBOUR: 'it returns false'. Refute it at one input. -/
def fnNewMessageExactWrong : ChangeSpec := { name := "fnNewMessageExact", fn := fun _ => fun
  | [d1, d2, d3, d4, d5, d6, d7, d8, d9, d10, d11] => { results := [.lit (.bool false)], args := [d1, d2, d3, d4, d5, d6, d7, d8, d9, d10, d11] }
  | _ => none }
def FnNewMessageExactWrongFalsely : Prop := fnNewMessageExactRow.holds Try.pinned (OpenSpec.ofChange fnNewMessageExactWrong)

/-- 'zzlaws_dns_b1.FnNewMessageNameOffsetsReadBack': WHATEVER THE INPUT: true; the input reads as it did. -/
def fnNewMessageNameOffsetsReadBackSpec : ChangeSpec := { name := "fnNewMessageNameOffsetsReadBack", fn := fun _ => fun
  | [d1, d2, d3] => { results := [.lit (.bool true)], args := [d1, d2, d3] }
  | _ => none }
def fnNewMessageNameOffsetsReadBackRow : OpenClaim := { program := "qxb6605469a", sum := "672747e93ec456b4750a75611c1687a037c13c3c646be000bd26d5b7c576672b", func := "example.com/rollcall/rollcall/zzlaws_dns_b1.FnNewMessageNameOffsetsReadBack", spec := "fnNewMessageNameOffsetsReadBack", inPlace := ["internal/bytealg.IndexByteString", "internal/bytealg.IndexString", "internal/abi.NoEscape", "internal/bytealg.MakeNoZero"], named := ["internal/bytealg.MaxLen"], apart := false }
def FnNewMessageNameOffsetsReadBackSaid : Prop := fnNewMessageNameOffsetsReadBackRow.holds Try.pinned (OpenSpec.ofChange fnNewMessageNameOffsetsReadBackSpec)

/-- ITS FALSE NEIGHBOUR: 'it returns false'. Refute it at one input. -/
def fnNewMessageNameOffsetsReadBackWrong : ChangeSpec := { name := "fnNewMessageNameOffsetsReadBack", fn := fun _ => fun
  | [d1, d2, d3] => { results := [.lit (.bool false)], args := [d1, d2, d3] }
  | _ => none }
def FnNewMessageNameOffsetsReadBackWrongFalsely : Prop := fnNewMessageNameOffsetsReadBackRow.holds Try.pinned (OpenSpec.ofChange fnNewMessageNameOffsetsReadBackWrong)

/-- 'zzlaws_dns_b1.FnReaderNameReadsWrittenName': WHATEVER THE INPUT: true; the input reads as it did. -/
def fnReaderNameReadsWrittenNameSpec : ChangeSpec := { name := "fnReaderNameReadsWrittenName", fn := fun _ => fun
  | [d1, d2, d3] => { results := [.lit (.bool true)], args := [d1, d2, d3] }
  | _ => none }
def fnReaderNameReadsWrittenNameRow : OpenClaim := { program := "qxb6605469a", sum := "672747e93ec456b4750a75611c1687a037c13c3c646be000bd26d5b7c576672b", func := "example.com/rollcall/rollcall/zzlaws_dns_b1.FnReaderNameReadsWrittenName", spec := "fnReaderNameReadsWrittenName", apart := false }
def FnReaderNameReadsWrittenNameSaid : Prop := fnReaderNameReadsWrittenNameRow.holds Try.pinned (OpenSpec.ofChange fnReaderNameReadsWrittenNameSpec)

/-- ITS FALSE NEIGHBOUR: 'it returns false'. Refute it at one input. -/
def fnReaderNameReadsWrittenNameWrong : ChangeSpec := { name := "fnReaderNameReadsWrittenName", fn := fun _ => fun
  | [d1, d2, d3] => { results := [.lit (.bool false)], args := [d1, d2, d3] }
  | _ => none }
def FnReaderNameReadsWrittenNameWrongFalsely : Prop := fnReaderNameReadsWrittenNameRow.holds Try.pinned (OpenSpec.ofChange fnReaderNameReadsWrittenNameWrong)

/-- 'zzlaws_dns_b1.FnSkipNameAndNameOnWrittenNames': WHATEVER THE INPUT: true; the input reads as it did. -/
def fnSkipNameAndNameOnWrittenNamesSpec : ChangeSpec := { name := "fnSkipNameAndNameOnWrittenNames", fn := fun _ => fun
  | [d1, d2, d3, d4, d5, d6] => { results := [.lit (.bool true)], args := [d1, d2, d3, d4, d5, d6] }
  | _ => none }
def fnSkipNameAndNameOnWrittenNamesRow : OpenClaim := { program := "qxb6605469a", sum := "672747e93ec456b4750a75611c1687a037c13c3c646be000bd26d5b7c576672b", func := "example.com/rollcall/rollcall/zzlaws_dns_b1.FnSkipNameAndNameOnWrittenNames", spec := "fnSkipNameAndNameOnWrittenNames", apart := false }
def FnSkipNameAndNameOnWrittenNamesSaid : Prop := fnSkipNameAndNameOnWrittenNamesRow.holds Try.pinned (OpenSpec.ofChange fnSkipNameAndNameOnWrittenNamesSpec)

/-- ITS FALSE NEIGHBOUR: 'it returns false'. Refute it at one input. -/
def fnSkipNameAndNameOnWrittenNamesWrong : ChangeSpec := { name := "fnSkipNameAndNameOnWrittenNames", fn := fun _ => fun
  | [d1, d2, d3, d4, d5, d6] => { results := [.lit (.bool false)], args := [d1, d2, d3, d4, d5, d6] }
  | _ => none }
def FnSkipNameAndNameOnWrittenNamesWrongFalsely : Prop := fnSkipNameAndNameOnWrittenNamesRow.holds Try.pinned (OpenSpec.ofChange fnSkipNameAndNameOnWrittenNamesWrong)

/-- 'zzlaws_dns_b1.FnReaderNameStopTable': WHATEVER THE INPUT: true; the input reads as it did. -/
def fnReaderNameStopTableSpec : ChangeSpec := { name := "fnReaderNameStopTable", fn := fun _ => fun
  | [d1, d2] => { results := [.lit (.bool true)], args := [d1, d2] }
  | _ => none }
def fnReaderNameStopTableRow : OpenClaim := { program := "qxb6605469a", sum := "672747e93ec456b4750a75611c1687a037c13c3c646be000bd26d5b7c576672b", func := "example.com/rollcall/rollcall/zzlaws_dns_b1.FnReaderNameStopTable", spec := "fnReaderNameStopTable", apart := false }
def FnReaderNameStopTableSaid : Prop := fnReaderNameStopTableRow.holds Try.pinned (OpenSpec.ofChange fnReaderNameStopTableSpec)

/-- ITS FALSE NEIGHBOUR: 'it returns false'. Refute it at one input. -/
def fnReaderNameStopTableWrong : ChangeSpec := { name := "fnReaderNameStopTable", fn := fun _ => fun
  | [d1, d2] => { results := [.lit (.bool false)], args := [d1, d2] }
  | _ => none }
def FnReaderNameStopTableWrongFalsely : Prop := fnReaderNameStopTableRow.holds Try.pinned (OpenSpec.ofChange fnReaderNameStopTableWrong)

end Rows
end Go.Proofs.Qxb6605469a
