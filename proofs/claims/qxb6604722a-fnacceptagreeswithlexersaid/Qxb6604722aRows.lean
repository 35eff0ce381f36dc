/-
  No cell of these rows narrows 'for every input' (looked for: loops, veiled, ifaces, maps, wideKeys, modest, calm, conditions, laid).
  DERIVED. THE GIVEN ROWS OF THIS SEAT. 4 by the template 'for every input the law returns true; each argument reads behind the call as it read before'; 0 by the template 'total and deterministic' (their statements: Qxb6604722aTotals.lean).
  GIVEN WITH THE SEED: the statements are not yours to turn. If you find one false, say at which input.
  Laid BY PROGRAM, IN A SANDBOX (cutbox-rows.mjs): the forced cells as the released guide's own fill.sh prints them over the translation 52914ff3f2338a0d… (all of the seat's roots in one cut). By AI agents, Wed Nov 11 2026. No macro, syntax, notation, axiom, sorry.
-/
import Derived.Test.Qxb6604722aChecked
import GoSem.Claim
import GoSem.ClaimJoined
import GoSem.ClaimMapViews
import Derived.JoinedTies
import Derived.KernelRfl
namespace Go.Proofs.Qxb6604722a
/- THE CELL 'sum', in the pinned program and in every row, IS THE sha256 OF THE DUMP (.gsa) THAT Qxb6604722aProg.lean LOADS. Nothing in Lean hashes anything: it is a label: what it is worth is what the hold of that sum in a sandbox is worth. -/
noncomputable def Try.pinned : Pinned := { name := "qxb6604722a", sum := "52914ff3f2338a0d53204f2388df2060d01a4d5ba1e8c5c7e6857bd38b8ce9e2", checked := Try.checked }
namespace Rows
def none {H : Type} : Left H := { results := [], args := [] }

/-- 'zzlaws_internal_syntax_b1.FnQuotedMatchesByteScan': WHATEVER THE INPUT: true; the input reads as it did. -/
def fnQuotedMatchesByteScanSpec : ChangeSpec := { name := "fnQuotedMatchesByteScan", fn := fun _ => fun
  | [d1, d2, d3, d4, d5, d6, d7] => { results := [.lit (.bool true)], args := [d1, d2, d3, d4, d5, d6, d7] }
  | _ => none }
def fnQuotedMatchesByteScanRow : OpenClaim := { program := "qxb6604722a", sum := "52914ff3f2338a0d53204f2388df2060d01a4d5ba1e8c5c7e6857bd38b8ce9e2", func := "example.com/castpath/castpath/zzlaws_internal_syntax_b1.FnQuotedMatchesByteScan", spec := "fnQuotedMatchesByteScan", inPlace := ["internal/bytealg.IndexByteString", "internal/abi.NoEscape"], apart := false }
def FnQuotedMatchesByteScanSaid : Prop := fnQuotedMatchesByteScanRow.holds Try.pinned (OpenSpec.ofChange fnQuotedMatchesByteScanSpec)

/-- ITS FALSE NEIGHBOUR: 'it returns false'. Refute it at one input. -/
def fnQuotedMatchesByteScanWrong : ChangeSpec := { name := "fnQuotedMatchesByteScan", fn := fun _ => fun
  | [d1, d2, d3, d4, d5, d6, d7] => { results := [.lit (.bool false)], args := [d1, d2, d3, d4, d5, d6, d7] }
  | _ => none }
def FnQuotedMatchesByteScanWrongFalsely : Prop := fnQuotedMatchesByteScanRow.holds Try.pinned (OpenSpec.ofChange fnQuotedMatchesByteScanWrong)

/-- 'zzlaws_internal_syntax_b1.FnQuotedUndoesDoubling': WHATEVER THE INPUT: true; the input reads as it did. -/
def fnQuotedUndoesDoublingSpec : ChangeSpec := { name := "fnQuotedUndoesDoubling", fn := fun _ => fun
  | [d1, d2, d3, d4, d5] => { results := [.lit (.bool true)], args := [d1, d2, d3, d4, d5] }
  | _ => none }
def fnQuotedUndoesDoublingRow : OpenClaim := { program := "qxb6604722a", sum := "52914ff3f2338a0d53204f2388df2060d01a4d5ba1e8c5c7e6857bd38b8ce9e2", func := "example.com/castpath/castpath/zzlaws_internal_syntax_b1.FnQuotedUndoesDoubling", spec := "fnQuotedUndoesDoubling", inPlace := ["internal/bytealg.IndexByteString", "internal/abi.NoEscape"], apart := false }
def FnQuotedUndoesDoublingSaid : Prop := fnQuotedUndoesDoublingRow.holds Try.pinned (OpenSpec.ofChange fnQuotedUndoesDoublingSpec)

/-- ITS FALSE NEIGHBOUR: 'it returns false'. Refute it at one input. -/
def fnQuotedUndoesDoublingWrong : ChangeSpec := { name := "fnQuotedUndoesDoubling", fn := fun _ => fun
  | [d1, d2, d3, d4, d5] => { results := [.lit (.bool false)], args := [d1, d2, d3, d4, d5] }
  | _ => none }
def FnQuotedUndoesDoublingWrongFalsely : Prop := fnQuotedUndoesDoublingRow.holds Try.pinned (OpenSpec.ofChange fnQuotedUndoesDoublingWrong)

/-- 'zzlaws_internal_syntax_b1.FnAcceptAgreesWithLexer': WHATEVER THE INPUT: true; the input reads as it did. -/
def fnAcceptAgreesWithLexerSpec : ChangeSpec := { name := "fnAcceptAgreesWithLexer", fn := fun _ => fun
  | [d1, d2, d3, d4] => { results := [.lit (.bool true)], args := [d1, d2, d3, d4] }
  | _ => none }
def fnAcceptAgreesWithLexerRow : OpenClaim := { program := "qxb6604722a", sum := "52914ff3f2338a0d53204f2388df2060d01a4d5ba1e8c5c7e6857bd38b8ce9e2", func := "example.com/castpath/castpath/zzlaws_internal_syntax_b1.FnAcceptAgreesWithLexer", spec := "fnAcceptAgreesWithLexer", inPlace := ["internal/bytealg.IndexByteString", "internal/abi.NoEscape", "internal/bytealg.IndexString"], named := ["internal/bytealg.MaxLen"], apart := false }
def FnAcceptAgreesWithLexerSaid : Prop := fnAcceptAgreesWithLexerRow.holds Try.pinned (OpenSpec.ofChange fnAcceptAgreesWithLexerSpec)

/-- ITS FALSE NEIGHBOUR: 'it returns false'. Refute it at one input. -/
def fnAcceptAgreesWithLexerWrong : ChangeSpec := { name := "fnAcceptAgreesWithLexer", fn := fun _ => fun
  | [d1, d2, d3, d4] => { results := [.lit (.bool false)], args := [d1, d2, d3, d4] }
  | _ => none }
def FnAcceptAgreesWithLexerWrongFalsely : Prop := fnAcceptAgreesWithLexerRow.holds Try.pinned (OpenSpec.ofChange fnAcceptAgreesWithLexerWrong)

/-- 'zzlaws_internal_syntax_b1.FnAcceptWalksTheStatement': WHATEVER THE INPUT: true; the input reads as it did. -/
def fnAcceptWalksTheStatementSpec : ChangeSpec := { name := "fnAcceptWalksTheStatement", fn := fun _ => fun
  | [d1, d2] => { results := [.lit (.bool true)], args := [d1, d2] }
  | _ => none }
def fnAcceptWalksTheStatementRow : OpenClaim := { program := "qxb6604722a", sum := "52914ff3f2338a0d53204f2388df2060d01a4d5ba1e8c5c7e6857bd38b8ce9e2", func := "example.com/castpath/castpath/zzlaws_internal_syntax_b1.FnAcceptWalksTheStatement", spec := "fnAcceptWalksTheStatement", inPlace := ["internal/bytealg.IndexByteString", "internal/abi.NoEscape", "internal/bytealg.IndexString"], named := ["internal/bytealg.MaxLen"], apart := false }
def FnAcceptWalksTheStatementSaid : Prop := fnAcceptWalksTheStatementRow.holds Try.pinned (OpenSpec.ofChange fnAcceptWalksTheStatementSpec)

/-- ITS FALSE NEIGHBOUR: 'it returns false'. Refute it at one input. -/
def fnAcceptWalksTheStatementWrong : ChangeSpec := { name := "fnAcceptWalksTheStatement", fn := fun _ => fun
  | [d1, d2] => { results := [.lit (.bool false)], args := [d1, d2] }
  | _ => none }
def FnAcceptWalksTheStatementWrongFalsely : Prop := fnAcceptWalksTheStatementRow.holds Try.pinned (OpenSpec.ofChange fnAcceptWalksTheStatementWrong)

end Rows
end Go.Proofs.Qxb6604722a
