import Derived.Test.Qxb6604722aNum
namespace Go.Proofs.Qxb6604722a
open Go.ChangeShapes Go.WideShapes Go.ChangeAt Go.RowKit
open Pl Lx
set_option linter.unusedSimpArgs false
set_option linter.unusedVariables false

def msgStr : ByteArray := ⟨#[117, 110, 116, 101, 114, 109, 105, 110, 97, 116, 101, 100, 32, 113, 117, 111, 116, 101, 100, 32, 115, 116, 114, 105, 110, 103]⟩
def msgId : ByteArray := ⟨#[117, 110, 116, 101, 114, 109, 105, 110, 97, 116, 101, 100, 32, 113, 117, 111, 116, 101, 100, 32, 105, 100, 101, 110, 116, 105, 102, 105, 101, 114]⟩
def msgZero : ByteArray := ⟨#[122, 101, 114, 111, 45, 108, 101, 110, 103, 116, 104, 32, 113, 117, 111, 116, 101, 100, 32, 105, 100, 101, 110, 116, 105, 102, 105, 101, 114]⟩

/-- The token of a quoted identifier that stands at 'i'. -/
def idTok (s : ByteArray) (i : Nat) : Value :=
  match qv 34 (s.data.toList.drop (i + 1)) with
  | none => tkV 11 0 (s.extract i s.size) msgId 0
  | some (v, m) => if v = [] then tkV 11 0 (s.extract i (i + 1 + m)) msgZero 0 else tkV 2 0 (s.extract i (i + 1 + m)) (str v) 0

/-- Where the run of operator characters stops. -/
def orun (s : ByteArray) (mk : Bool) : Nat → Nat → Nat
  | 0, j => j
  | f + 1, j => if j < s.size ∧ opB mk (cb s j) = true ∧ cm s j = false then orun s mk f (j + 1) else j
/-- A run that must not end in a sign gives its last signs back. -/
def trim (s : ByteArray) (i : Nat) : Nat → Nat
  | 0 => 0
  | j + 1 => if i < j ∧ sgnP (cb s j) = true then trim s i j else j + 1
def special : ByteArray := ⟨#[126, 33, 64, 35, 37, 94, 38, 124, 96, 63]⟩
def opEnd (s : ByteArray) (mk : Bool) (i : Nat) : Nat :=
  if Lib.containsAny (s.extract i (orun s mk s.size (i + 1))).data.toList special.data.toList = true then orun s mk s.size (i + 1) else trim s i (orun s mk s.size (i + 1))
def numB (s : ByteArray) (i : Nat) : Bool := digB (cb s i) || (cb s i == 46 && decide (i + 1 < s.size) && digB (cb s (i + 1)))

/-- What read answers: the token (its place not yet set), where it stops, how many markers it has seen. -/
def rd (s : ByteArray) (mk : Bool) (md : Int) (i : Nat) : Value × Nat × Int :=
  if i < s.size then
    if wsB (cb s i) = true then (tkV 1 0 (s.extract i (run s wpB s.size i)) (low (s.extract i (run s wpB s.size i))) 0, run s wpB s.size i, md)
    else if numB s i = true then (numTok s i, numEnd s i, md)
    else if cb s i = 39 then (qtok s i 3 39 msgStr, qend s i 39, md)
    else if cb s i = 34 then (idTok s i, qend s i 34, md)
    else if cb s i = 59 then (tkV 10 0 ⟨#[59]⟩ ⟨#[]⟩ 0, i + 1, md)
    else if two s i 58 58 = true then (tkV 8 0 ⟨#[58, 58]⟩ ⟨#[]⟩ 0, i + 2, md)
    else if cb s i = 63 ∧ mk = true then (tkV 9 0 ⟨#[63]⟩ ⟨#[]⟩ md, i + 1, md + 1)
    else if opB mk (cb s i) = true then (tkV 6 0 (s.extract i (opEnd s mk i)) (s.extract i (opEnd s mk i)) 0, opEnd s mk i, md)
    else (tkV 7 0 (s.extract i (i + 1)) (s.extract i (i + 1)) 0, i + 1, md)
  else (tkV 0 0 ⟨#[]⟩ ⟨#[]⟩ 0, i, md)

def LM (w w' : World) (L o p : Nat) (md : Int) : Prop := Below w.heap.size ((w.setCell ⟨L, o + 1, none⟩ (.int .i64 p)).setCell ⟨L, o + 3, none⟩ (.int .i64 md)) w'
theorem LM.of {w w' : World} {L o : Nat} {src : ByteArray} {pos p : Nat} {mk : Bool} {md : Int} (h : LexAt w L o src pos mk md) (hb : Below w.heap.size (w.setCell ⟨L, o + 1, none⟩ (.int .i64 p)) w') : LM w w' L o p md := by
  have h1 : Below w.heap.size ((w.setCell ⟨L, o + 1, none⟩ (.int .i64 p)).setCell ⟨L, o + 3, none⟩ (.int .i64 md)) (w.setCell ⟨L, o + 1, none⟩ (.int .i64 p)) :=
    ⟨rfl, rfl, rfl, by rw [size_setCell]; exact Nat.le_refl _, fun k _ => (heap_setCell_id (h.setPos p).c3 k).symm⟩
  exact h1.trans hb

theorem LS.all {w wr : World} {L o : Nat} {src : ByteArray} {pos i : Nat} {mk : Bool} {md : Int} (h : LexAt w L o src pos mk md) (hs : LS w wr L o i) :
    wr.cell? ⟨L, o, none⟩ = some (.string src) ∧ wr.cell? ⟨L, o + 1, none⟩ = some (.int .i64 i) ∧ wr.frozen? ⟨L, o + 1, none⟩ = false ∧ wr.cell? ⟨L, o + 2, none⟩ = some (.bool mk) :=
  ⟨(LS.lex h hs).c0, (LS.lex h hs).c1, (LS.lex h hs).fr (o + 1), (LS.lex h hs).c2⟩

theorem rd_end {s : ByteArray} {mk : Bool} {md : Int} {i : Nat} (h : ¬ i < s.size) : rd s mk md i = (tkV 0 0 ⟨#[]⟩ ⟨#[]⟩ 0, i, md) := by unfold rd; rw [if_neg h]
end Go.Proofs.Qxb6604722a
