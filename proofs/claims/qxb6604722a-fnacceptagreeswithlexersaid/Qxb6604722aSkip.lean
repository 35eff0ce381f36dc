import Derived.Test.Qxb6604722aComment
import Derived.Test.Qxb6604722aQuoted
namespace Go.Proofs.Qxb6604722a
open Go.ChangeShapes Go.WideShapes Go.ChangeAt Go.RowKit
open Pl Lx
set_option linter.unusedSimpArgs false
set_option linter.unusedVariables false

/-- Where a line comment that stands at 'i' is left. -/
def nl (s : ByteArray) (i : Nat) : Nat := if Lib.indexByte (s.data.toList.drop i) 10 < 0 then s.size else i + (Lib.indexByte (s.data.toList.drop i) 10).toNat + 1

/-- What skipBlanks answers: whether it went well; where the open comment stands; where it stops. -/
def sk (s : ByteArray) : Nat → Nat → Bool × Nat × Nat
  | 0, i => (true, 0, i)
  | f + 1, i =>
    if i < s.size then
      if blB (cb s i) = true then sk s f (i + 1)
      else if two s i 45 45 = true then sk s f (nl s i)
      else if two s i 47 42 = true then (if (bc s s.size i 0).1 = true then sk s f (bc s s.size i 0).2 else (false, i, (bc s s.size i 0).2))
      else (true, 0, i)
    else (true, 0, i)

theorem nl_bounds {s : ByteArray} {i : Nat} (hi : i < s.size) : i < nl s i ∧ nl s i ≤ s.size := by
  unfold nl
  rcases ib_spec (s.data.toList.drop i) 10 with ⟨h1, _⟩ | ⟨m, h1, h2, _⟩
  · rw [h1, if_pos (by decide)]; omega
  · rw [h1, if_neg (by omega)]
    rw [List.length_drop, len_size] at h2
    omega
theorem bc_moves {s : ByteArray} {i : Nat} (ht : two s i 47 42 = true) : i < (bc s s.size i 0).2 ∧ (bc s s.size i 0).2 ≤ s.size := by
  have hl := two_lt ht
  obtain ⟨f, hf⟩ : ∃ f, s.size = f + 1 := ⟨s.size - 1, by omega⟩
  have h := bc_bounds (s := s) s.size i 0 (by omega)
  refine ⟨?_, h.2⟩
  rw [hf, bc, if_pos (by omega), if_pos ht]
  have := bc_bounds (s := s) f (i + 2) (0 + 1) (by omega)
  omega

def SK (s : ByteArray) (r : Bool × Nat × Nat) (f i : Nat) : Prop := r = sk s f i ∧ s.size ≤ i + f
theorem SK.start (s : ByteArray) (i : Nat) : SK s (sk s s.size i) s.size i := ⟨rfl, by omega⟩
theorem SK.blank {s : ByteArray} {r : Bool × Nat × Nat} {f i : Nat} (h : SK s r f i) (hi : i < s.size) (hb : blB (cb s i) = true) : ∃ f', f = f' + 1 ∧ SK s r f' (i + 1) := by
  obtain ⟨h1, h2⟩ := h
  cases f with
  | zero => omega
  | succ f => exact ⟨f, rfl, by rw [h1, sk, if_pos hi, if_pos hb], by omega⟩
theorem SK.line {s : ByteArray} {r : Bool × Nat × Nat} {f i : Nat} (h : SK s r f i) (hi : i < s.size) (hb : blB (cb s i) = false) (ht : two s i 45 45 = true) : ∃ f', f = f' + 1 ∧ SK s r f' (nl s i) := by
  obtain ⟨h1, h2⟩ := h
  have := (nl_bounds hi).1
  cases f with
  | zero => omega
  | succ f => exact ⟨f, rfl, by rw [h1, sk, if_pos hi, if_neg (by simp [hb]), if_pos ht], by omega⟩
theorem SK.block {s : ByteArray} {r : Bool × Nat × Nat} {f i : Nat} (h : SK s r f i) (hi : i < s.size) (hb : blB (cb s i) = false) (ht : two s i 45 45 = false) (hu : two s i 47 42 = true) (hg : (bc s s.size i 0).1 = true) : ∃ f', f = f' + 1 ∧ SK s r f' (bc s s.size i 0).2 := by
  obtain ⟨h1, h2⟩ := h
  have := (bc_moves hu).1
  cases f with
  | zero => omega
  | succ f => exact ⟨f, rfl, by rw [h1, sk, if_pos hi, if_neg (by simp [hb]), if_neg (by simp [ht]), if_pos hu, if_pos hg], by omega⟩
theorem SK.open {s : ByteArray} {r : Bool × Nat × Nat} {f i : Nat} (h : SK s r f i) (hi : i < s.size) (hb : blB (cb s i) = false) (ht : two s i 45 45 = false) (hu : two s i 47 42 = true) (hg : (bc s s.size i 0).1 = false) : r = (false, i, (bc s s.size i 0).2) := by
  obtain ⟨h1, h2⟩ := h
  cases f with
  | zero => omega
  | succ f => rw [h1, sk, if_pos hi, if_neg (by simp [hb]), if_neg (by simp [ht]), if_pos hu, if_neg (by simp [hg])]
theorem SK.stop {s : ByteArray} {r : Bool × Nat × Nat} {f i : Nat} (h : SK s r f i) (hi : i < s.size) (hb : blB (cb s i) = false) (ht : two s i 45 45 = false) (hu : two s i 47 42 = false) : r = (true, 0, i) := by
  obtain ⟨h1, h2⟩ := h
  cases f with
  | zero => omega
  | succ f => rw [h1, sk, if_pos hi, if_neg (by simp [hb]), if_neg (by simp [ht]), if_neg (by simp [hu])]
theorem SK.ended {s : ByteArray} {r : Bool × Nat × Nat} {f i : Nat} (h : SK s r f i) (hi : ¬ i < s.size) : r = (true, 0, i) := by
  obtain ⟨h1, h2⟩ := h
  cases f with
  | zero => exact h1
  | succ f => rw [h1, sk, if_neg hi]

theorem sk_bounds {s : ByteArray} : ∀ f i, i ≤ s.size → (sk s f i).2.2 ≤ s.size
  | 0, i, h => h
  | f + 1, i, h => by
    rw [sk]
    split
    · rename_i hi
      split
      · exact sk_bounds f (i + 1) hi
      · split
        · exact sk_bounds f _ (nl_bounds hi).2
        · split
          · rename_i hu
            split
            · exact sk_bounds f _ (bc_moves hu).2
            · exact (bc_moves hu).2
          · exact h
    · exact h

/-- A token as a value. -/
def tkV (k : Int) (pos : Int) (text val : ByteArray) (n : Int) : Value := .agg #[.int .i64 k, .int .i64 pos, .string text, .string val, .int .i64 n]
def openMsg : ByteArray := ⟨#[117, 110, 116, 101, 114, 109, 105, 110, 97, 116, 101, 100, 32, 47, 42, 32, 99, 111, 109, 109, 101, 110, 116]⟩
def skTok (r : Bool × Nat × Nat) : Value := if r.1 = true then tkV 0 0 ⟨#[]⟩ ⟨#[]⟩ 0 else tkV 11 r.2.1 ⟨#[47, 42]⟩ openMsg 0

/-- The lexer's memory inside a method that has laid its result's block: only the place has moved. -/
def LS (w wr : World) (L o i : Nat) : Prop := Below (w.heap.size + 1) ((w.alloc tok0).setCell ⟨L, o + 1, none⟩ (.int .i64 i)) wr

theorem LS.start {w : World} {L o : Nat} {src : ByteArray} {pos : Nat} {mk : Bool} {md : Int} (h : LexAt w L o src pos mk md) : LS w (w.alloc tok0) L o pos := (h.alloc tok0).still _
theorem LS.lex {w wr : World} {L o : Nat} {src : ByteArray} {pos i : Nat} {mk : Bool} {md : Int} (h : LexAt w L o src pos mk md) (hs : LS w wr L o i) : LexAt wr L o src i mk md :=
  ((h.alloc tok0).setPos i).below hs (by have := h.lt; omega)
theorem LS.move {w wr : World} {L o i : Nat} (hs : LS w wr L o i) (j : Nat) : LS w (wr.setCell ⟨L, o + 1, none⟩ (.int .i64 j)) L o j := Below.reset hs _
theorem LS.drewN {w wr : World} {L o i : Nat} (hs : LS w wr L o i) (m : Nat) : LS w (wr.drewN m) L o i := below_drewN hs m
theorem LS.size {w wr : World} {L o i : Nat} (hs : LS w wr L o i) : w.heap.size + 1 ≤ wr.heap.size := by
  have := Below.size hs; rw [size_setCell] at this; simpa using this
theorem LS.call {w wr w1 : World} {L o i j : Nat} (hs : LS w wr L o i) (hb : Below wr.heap.size (wr.setCell ⟨L, o + 1, none⟩ (.int .i64 j)) w1) : LS w w1 L o j :=
  (Below.trans (hs.move j) (hb.mono hs.size))
theorem LS.quiet {w wr w1 : World} {L o i : Nat} (hs : LS w wr L o i) (hb : Below wr.heap.size wr w1) : LS w w1 L o i := Below.trans hs (hb.mono hs.size)
theorem LS.tok {w wr : World} {L o i : Nat} (h : LS w wr L o i) (hL : L < w.heap.size) :
    wr.cell? ⟨w.heap.size, 0, none⟩ = some (.int .i64 0) ∧ wr.cell? ⟨w.heap.size, 1, none⟩ = some (.int .i64 0) ∧ wr.cell? ⟨w.heap.size, 2, none⟩ = some (.string ⟨#[]⟩) ∧ wr.cell? ⟨w.heap.size, 3, none⟩ = some (.string ⟨#[]⟩) ∧ wr.cell? ⟨w.heap.size, 4, none⟩ = some (.int .i64 0) ∧ ∀ j, wr.frozen? ⟨w.heap.size, j, none⟩ = false := by
  have hb : wr.heap[w.heap.size]? = some tok0 := by
    rw [Below.block h w.heap.size (by omega), Below.heap_setCell _ _ _ _ (by show w.heap.size ≠ L; omega)]
    exact heap_alloc_new w tok0
  refine ⟨?_, ?_, ?_, ?_, ?_, fun j => ?_⟩
  all_goals simp [World.cell?, World.frozen?, hb, tok0]
theorem LS.fin {w wr : World} {L o i : Nat} (h : LS w wr L o i) (hL : L < w.heap.size) : Below w.heap.size (w.setCell ⟨L, o + 1, none⟩ (.int .i64 i)) wr := by
  have hb : Below (w.heap.size + 1) ((w.alloc tok0).setCell ⟨L, o + 1, none⟩ (.int .i64 i)) wr := h
  have e : (w.alloc tok0).setCell ⟨L, o + 1, none⟩ (.int .i64 i) = (w.setCell ⟨L, o + 1, none⟩ (.int .i64 i)).alloc tok0 := World.setCell_alloc_past _ _ _ _ hL
  rw [e] at hb
  have hz : (w.setCell ⟨L, o + 1, none⟩ (.int .i64 i)).heap.size = w.heap.size := size_setCell _ _ _
  exact ((Below.refl w.heap.size (w.setCell ⟨L, o + 1, none⟩ (.int .i64 i))).alloc (by rw [hz]; exact Nat.le_refl _) tok0).trans (hb.mono (by simp))
end Go.Proofs.Qxb6604722a
