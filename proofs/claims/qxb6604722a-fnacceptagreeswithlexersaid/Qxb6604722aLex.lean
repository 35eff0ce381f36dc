import Derived.Test.Qxb6604722aDoubled
namespace Go.Proofs.Qxb6604722a
open Go.ChangeShapes Go.WideShapes Go.ChangeAt Go.RowKit
open Pl

/-- Two stores at one place: the second holds. -/
theorem heap_setCell_twice (v : World) (p : Addr) (x y : Value) (k : Nat) : ((v.setCell p x).setCell p y).heap[k]? = (v.setCell p y).heap[k]? := by
  simp only [World.setCell, Array.getElem?_modify]
  by_cases h : p.block = k
  · simp only [h, if_true]
    cases v.heap[k]? with
    | none => rfl
    | some o =>
      cases o <;> simp
      split <;> simp
  · simp only [h, if_false]

theorem heap_setCell_congr {a b : World} (p : Addr) (y : Value) {k : Nat} (h : b.heap[k]? = a.heap[k]?) : (b.setCell p y).heap[k]? = (a.setCell p y).heap[k]? := by
  simp only [World.setCell, Array.getElem?_modify, h]

theorem size_setCell (v : World) (p : Addr) (x : Value) : (v.setCell p x).heap.size = v.heap.size := by simp [World.setCell]

/-- Whatever stood at 'p': a store there on both sides. -/
theorem Below.reset {B : Nat} {v wr : World} {p : Addr} {x : Value} (h : Below B (v.setCell p x) wr) (y : Value) : Below B (v.setCell p y) (wr.setCell p y) := by
  refine ⟨h.os, h.tape, h.output, ?_, fun k hk => ?_⟩
  · have := h.size; rw [size_setCell] at this ⊢; rw [size_setCell]; exact this
  · rw [heap_setCell_congr p y (h.block k hk), heap_setCell_twice]

theorem builderAt_setCell {T e : TypeId} {B b : Nat} {p : Value} {bs : List Value} {w : World} (h : Lib.BuilderAt T e B b p bs w) {a : Addr} (ha : a.block < B) (u : Value) : Lib.BuilderAt T e B b p bs (w.setCell a u) := by
  obtain ⟨hB, v, hb, hown, hne⟩ := h
  refine ⟨hB, v, ?_, ownsRow_setCell_below hown ha u, hne⟩
  rw [Below.heap_setCell _ _ _ _ (by omega)]; exact hb
theorem isBuilder_setCell {T e : TypeId} {B b : Nat} {bs : List Value} {w : World} (h : Lib.IsBuilder T e B b bs w) {a : Addr} (ha : a.block < B) (u : Value) : Lib.IsBuilder T e B b bs (w.setCell a u) := by
  rcases h with h | h
  · exact .inl (builderAt_setCell h ha u)
  · exact .inr (builderAt_setCell h ha u)

/-- What 'quoted' holds in memory between two rounds: 'w' is the world ahead of the builder's block 'B', the lexer stands at 'i', the builder holds 'acc'. -/
structure QS (w wr : World) (p : Addr) (i : Nat) (acc : List UInt8) : Prop where
  bel : Below w.heap.size (w.setCell p (.int .i64 i)) wr
  bld : Lib.IsBuilder 62 5 w.heap.size w.heap.size (Lib.byteCells acc) wr

theorem QS.pos {w wr : World} {p : Addr} {i : Nat} {acc : List UInt8} (h : QS w wr p i acc) (hp : p.block < w.heap.size) (j : Nat) : QS w (wr.setCell p (.int .i64 j)) p j acc :=
  ⟨Below.reset h.bel _, isBuilder_setCell h.bld hp _⟩

theorem QS.drewN {w wr : World} {p : Addr} {i : Nat} {acc : List UInt8} (h : QS w wr p i acc) (m : Nat) : QS w (wr.drewN m) p i acc :=
  ⟨below_drewN h.bel m, h.bld⟩

theorem QS.wrote {w wr w1 : World} {p : Addr} {i : Nat} {acc acc' : List UInt8} {q : Value} (h : QS w wr p i acc) (hb : Below w.heap.size wr w1) (hB : Lib.BuilderAt 62 5 w.heap.size w.heap.size q (Lib.byteCells acc') w1) (hq : q = .pointer (some ⟨w.heap.size, 0, none⟩)) : QS w w1 p i acc' :=
  ⟨h.bel.trans hb, .inr (hq ▸ hB)⟩

theorem QS.size {w wr : World} {p : Addr} {i : Nat} {acc : List UInt8} (h : QS w wr p i acc) : w.heap.size ≤ wr.heap.size := by
  have := h.bel.size; rw [size_setCell] at this; exact this

theorem QS.cell {w wr : World} {p : Addr} {i : Nat} {acc : List UInt8} (h : QS w wr p i acc) {a : Addr} (ha : a.block < w.heap.size) : wr.cell? a = (w.setCell p (.int .i64 i)).cell? a := h.bel.cell ha
theorem QS.frozen {w wr : World} {p : Addr} {i : Nat} {acc : List UInt8} (h : QS w wr p i acc) {a : Addr} (ha : a.block < w.heap.size) : wr.frozen? a = (w.setCell p (.int .i64 i)).frozen? a := h.bel.frozen ha

/-- The lexer lies in memory at 'L', from place 'o' on. -/
structure LexAt (w : World) (L o : Nat) (src : ByteArray) (pos : Nat) (mk : Bool) (md : Int) : Prop where
  lt : L < w.heap.size
  c0 : w.cell? ⟨L, o, none⟩ = some (.string src)
  c1 : w.cell? ⟨L, o + 1, none⟩ = some (.int .i64 pos)
  c2 : w.cell? ⟨L, o + 2, none⟩ = some (.bool mk)
  c3 : w.cell? ⟨L, o + 3, none⟩ = some (.int .i64 md)
  fr : ∀ j, w.frozen? ⟨L, j, none⟩ = false

theorem cell_other {w : World} {a b : Addr} {v : Value} (h : a ≠ b) : (w.setCell a v).cell? b = w.cell? b := World.cell?_setCell_other _ _ _ _ h
theorem cell_same {w : World} {a : Addr} {v u : Value} (h : w.cell? a = some u) : (w.setCell a v).cell? a = some v := World.cell?_setCell_same _ _ _ h

theorem LexAt.setPos {w : World} {L o : Nat} {src : ByteArray} {pos : Nat} {mk : Bool} {md : Int} (h : LexAt w L o src pos mk md) (np : Nat) : LexAt (w.setCell ⟨L, o + 1, none⟩ (.int .i64 np)) L o src np mk md := by
  refine ⟨by rw [size_setCell]; exact h.lt, ?_, ?_, ?_, ?_, ?_⟩
  · rw [cell_other (by simp)]; exact h.c0
  · exact cell_same h.c1
  · rw [cell_other (by simp)]; exact h.c2
  · rw [cell_other (by simp)]; exact h.c3
  · intro j; rw [World.frozen?_setCell]; exact h.fr j

theorem LexAt.below {w w' : World} {B L o : Nat} {src : ByteArray} {pos : Nat} {mk : Bool} {md : Int} (h : LexAt w L o src pos mk md) (hb : Below B w w') (hB : L < B) : LexAt w' L o src pos mk md :=
  ⟨Nat.lt_of_lt_of_le h.lt hb.size, (hb.cell (p := ⟨L, o, none⟩) hB).trans h.c0, (hb.cell (p := ⟨L, o + 1, none⟩) hB).trans h.c1, (hb.cell (p := ⟨L, o + 2, none⟩) hB).trans h.c2, (hb.cell (p := ⟨L, o + 3, none⟩) hB).trans h.c3, fun j => (hb.frozen (p := ⟨L, j, none⟩) hB).trans (h.fr j)⟩

theorem LexAt.alloc {w : World} {L o : Nat} {src : ByteArray} {pos : Nat} {mk : Bool} {md : Int} (h : LexAt w L o src pos mk md) (x : Obj) : LexAt (w.alloc x) L o src pos mk md :=
  h.below ((Below.refl w.heap.size w).alloc (Nat.le_refl _) x) h.lt

theorem ib_spec (l : List UInt8) (c : UInt8) : (Lib.indexByte l c = -1 ∧ ∀ j (h : j < l.length), l[j] ≠ c) ∨ ∃ i : Nat, Lib.indexByte l c = i ∧ ∃ h : i < l.length, l[i] = c ∧ ∀ j (hj : j < i), l[j] ≠ c := by
  induction l with
  | nil => exact .inl ⟨rfl, fun j h => absurd h (Nat.not_lt_zero _)⟩
  | cons b l ih =>
    by_cases hb : b = c
    · exact .inr ⟨0, by simp [Lib.indexByte, hb], by simp, by simpa using hb, fun j hj => absurd hj (Nat.not_lt_zero _)⟩
    · rcases ih with ⟨h1, h2⟩ | ⟨i, h1, h2, h3, h4⟩
      · refine .inl ⟨by simp [Lib.indexByte, hb, h1], fun j hj => ?_⟩
        match j with
        | 0 => simpa using hb
        | j + 1 => simpa using h2 j (by simpa using hj)
      · refine .inr ⟨i + 1, ?_, by simpa using h2, by simpa using h3, fun j hj => ?_⟩
        · have : ¬ ((i : Int) = -1) := by omega
          simp [Lib.indexByte, hb, h1, this]
        · match j with
          | 0 => simpa using hb
          | j + 1 => simpa using h4 j (by omega)

theorem u8_back (q : UInt8) : ((q.toNat : Int).toNat).toUInt8 = q := by simp

/-- The rest of the string from 'i' on, as a list. -/
theorem rest_list (s : ByteArray) (i : Nat) : (s.extract i s.size).data.toList = s.data.toList.drop i := by
  rw [Lib.extract_data, List.take_of_length_le]
  rw [List.length_drop, len_size]
  exact Nat.le_refl _

def tokV (k : Int) (text val : ByteArray) : Value := .agg #[.int .i64 k, .int .i64 0, .string text, .string val, .int .i64 0]

def qtok (src : ByteArray) (pos : Nat) (kind : Int) (q : UInt8) (unt : ByteArray) : Value :=
  match qv q (src.data.toList.drop (pos + 1)) with
  | some r => tokV kind (src.extract pos (pos + 1 + r.2)) (str r.1)
  | none => tokV 11 (src.extract pos src.size) unt

def qend (src : ByteArray) (pos : Nat) (q : UInt8) : Nat :=
  match qv q (src.data.toList.drop (pos + 1)) with
  | some r => pos + 1 + r.2
  | none => src.size
end Go.Proofs.Qxb6604722a
