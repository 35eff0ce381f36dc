import Derived.Test.Qxb6605469aPlain
import Derived.BigRegion
set_option linter.unusedSimpArgs false
set_option linter.unusedVariables false
namespace Go.Proofs.Qxb6605469a
open Go.ChangeShapes Go.WideShapes Go.ChangeAt Go.RowKit
open Go.Maps

/-- The query in memory. -/
structure QAt (w : World) (Q : Nat) (i f qt qc pl ef ev : Int) (ed : Bool) (qv lv : Value) : Prop where
  lt : Q < w.heap.size
  c2 : w.cell? ⟨Q, 2, none⟩ = some qv
  c3 : w.cell? ⟨Q, 3, none⟩ = some lv
  c6 : w.cell? ⟨Q, 6, none⟩ = some (.bool ed)

def lim (ed : Bool) (size : Int) : Int := if ed then wrap64 (size - 11) else size
def row512 : List Value := (madeCells #[.int .u8 0] 512).toList
theorem hmk512 (w : World) : (Instr.makeSlice 23 (.int .i64 12) (.int .i64 512)).run Try.prog w = .ok (.slice (some ⟨w.heap.size, 0, none⟩) 12 512) (w.alloc (.cells row512.toArray 5)) := by
  obtain ⟨i0, hi, hz0, hz1, hz2⟩ := info_parts info5
  have := run_make (P := Try.prog) w 23 5 i0 (.int .u8 0) Try.underlying23 hi hz0 .i64 .i64 12 512 (by decide) (by decide) (by rw [hz2]; decide) (by decide)
  rw [this, hz1]
  rfl

/-- The message in memory. -/
structure MAt (w : World) (M : Nat) (bv : Value) (lm : Int) (mb : Nat) (av : Value) (cn : Int) : Prop where
  lt : M < w.heap.size
  c0 : w.cell? ⟨M, 0, none⟩ = some bv
  c1 : w.cell? ⟨M, 1, none⟩ = some (.int .i64 lm)
  c2 : w.cell? ⟨M, 2, none⟩ = some (.map (some mb))
  c3 : w.cell? ⟨M, 3, none⟩ = some av
  c4 : w.cell? ⟨M, 4, none⟩ = some (.int .u16 cn)
  c5 : w.cell? ⟨M, 5, none⟩ = some (.int .u16 0)
  c6 : w.cell? ⟨M, 6, none⟩ = some (.int .u16 0)
  c7 : w.cell? ⟨M, 7, none⟩ = some (.int .u16 0)
  c8 : w.cell? ⟨M, 8, none⟩ = some (.int .i64 1)
  c9 : w.cell? ⟨M, 9, none⟩ = some (.bool false)
  c10 : w.cell? ⟨M, 10, none⟩ = some (.bool false)
  fr : ∀ j, w.frozen? ⟨M, j, none⟩ = false

abbrev MObj (s : Nat) (size : Int) : Obj := .cells #[.slice (some ⟨s, 0, none⟩) 12 512, .int .i64 size, .map (some (s + 1)), .slice none 0 0, .int .u16 0, .int .u16 0, .int .u16 0, .int .u16 0, .int .i64 1, .bool false, .bool false] 54
abbrev W3 (w : World) (size : Int) : World := ((w.alloc (.cells row512.toArray 5)).alloc (.map #[] 0)).alloc (MObj w.heap.size size)

theorem law9 : Keyed Try.prog 9 := string_keyed Try.underlying9
theorem zero3 (w : World) : (zeroValue 3).run Try.prog w = .ok (.int .i64 0) w := by kernel_rfl

/-- What is made at the start. -/
structure Begun (w : World) (Q : Nat) (ed : Bool) (qv lv : Value) (lm : Int) (W : World) : Prop where
  below : Below w.heap.size w W
  msg : MAt W (w.heap.size + 2) (.slice (some ⟨w.heap.size, 0, none⟩) 12 512) lm (w.heap.size + 1) (.slice none 0 0) 0
  buf : W.heap[w.heap.size]? = some (.cells row512.toArray 5 (0, 0))
  names : W.ownsMap Try.prog 9 (plainElem (H := Unit) Try.prog 3) (w.heap.size + 1) 0 (.map [])
  q2 : W.cell? ⟨Q, 2, none⟩ = some qv
  q3 : W.cell? ⟨Q, 3, none⟩ = some lv
  q6 : W.cell? ⟨Q, 6, none⟩ = some (.bool ed)

theorem begun (Q : Nat) (i f qt qc pl ef ev : Int) (ed : Bool) (qv lv : Value) (size : Int) (w : World) (hQ : QAt w Q i f qt qc pl ef ev ed qv lv) : Begun w Q ed qv lv size (W3 w size) := by
  have hb : Below w.heap.size w (W3 w size) := (((Below.refl _ _).alloc (Nat.le_refl _) _).alloc (by simp) _).alloc (by simp; omega) _
  have hc : ∀ j : Nat, (W3 w size).cell? ⟨Q, j, none⟩ = w.cell? ⟨Q, j, none⟩ := fun j => hb.cell (by exact hQ.lt)
  have hs : ((w.alloc (.cells row512.toArray 5)).alloc (.map #[] 0)).heap.size = w.heap.size + 2 := by simp
  have hM : (W3 w size).heap[w.heap.size + 2]? = some (MObj w.heap.size size) := by rw [← hs]; exact heap_alloc_new _ _
  refine ⟨hb, ?_, ?_, ?_, (hc 2).trans hQ.c2, (hc 3).trans hQ.c3, (hc 6).trans hQ.c6⟩
  · have hl : w.heap.size + 2 < (W3 w size).heap.size := (Array.getElem?_eq_some_iff.1 hM).1
    refine ⟨hl, ?_, ?_, ?_, ?_, ?_, ?_, ?_, ?_, ?_, ?_, ?_, ?_⟩
    all_goals first | (simp only [World.cell?, hM]; rfl) | (intro j; simp only [World.frozen?, hM]; simp)
  · rw [heap_alloc_old _ _ (by simp; omega), heap_alloc_old _ _ (by simp)]
    exact heap_alloc_new _ _
  · refine (World.ownsMap.alloc ?_ _)
    have := World.ownsMap_made (H := Unit) (w.alloc (.cells row512.toArray 5)) Try.prog 9 (plainElem Try.prog 3)
    rw [show (w.alloc (.cells row512.toArray 5)).heap.size = w.heap.size + 1 by simp] at this
    exact this

theorem size_setCell (v : World) (p : Addr) (x : Value) : (v.setCell p x).heap.size = v.heap.size := by simp [World.setCell]
theorem cell_same {w : World} {a : Addr} {v u : Value} (h : w.cell? a = some u) : (w.setCell a v).cell? a = some v := World.cell?_setCell_same _ _ _ h

section
variable {w : World} {M : Nat} {bv : Value} {lm : Int} {mb : Nat} {av : Value} {cn : Int}
theorem MAt.other (j i : Nat) (u : Value) (hj : j ≠ i) : (w.setCell ⟨M, j, none⟩ u).cell? ⟨M, i, none⟩ = w.cell? ⟨M, i, none⟩ :=
  World.cell?_setCell_other w ⟨M, j, none⟩ ⟨M, i, none⟩ u (by intro e; injection e with _ e _; exact hj e)
theorem MAt.setLim (h : MAt w M bv lm mb av cn) (x : Int) : MAt (w.setCell ⟨M, 1, none⟩ (.int .i64 x)) M bv x mb av cn :=
  ⟨by rw [size_setCell]; exact h.lt, (MAt.other _ _ _ (by decide)).trans h.c0, cell_same h.c1, (MAt.other _ _ _ (by decide)).trans h.c2, (MAt.other _ _ _ (by decide)).trans h.c3, (MAt.other _ _ _ (by decide)).trans h.c4, (MAt.other _ _ _ (by decide)).trans h.c5, (MAt.other _ _ _ (by decide)).trans h.c6, (MAt.other _ _ _ (by decide)).trans h.c7, (MAt.other _ _ _ (by decide)).trans h.c8, (MAt.other _ _ _ (by decide)).trans h.c9, (MAt.other _ _ _ (by decide)).trans h.c10, fun j => by rw [World.frozen?_setCell]; exact h.fr j⟩
theorem MAt.setBuf (h : MAt w M bv lm mb av cn) (x : Value) : MAt (w.setCell ⟨M, 0, none⟩ x) M x lm mb av cn :=
  ⟨by rw [size_setCell]; exact h.lt, cell_same h.c0, (MAt.other _ _ _ (by decide)).trans h.c1, (MAt.other _ _ _ (by decide)).trans h.c2, (MAt.other _ _ _ (by decide)).trans h.c3, (MAt.other _ _ _ (by decide)).trans h.c4, (MAt.other _ _ _ (by decide)).trans h.c5, (MAt.other _ _ _ (by decide)).trans h.c6, (MAt.other _ _ _ (by decide)).trans h.c7, (MAt.other _ _ _ (by decide)).trans h.c8, (MAt.other _ _ _ (by decide)).trans h.c9, (MAt.other _ _ _ (by decide)).trans h.c10, fun j => by rw [World.frozen?_setCell]; exact h.fr j⟩
theorem MAt.setAdded (h : MAt w M bv lm mb av cn) (x : Value) : MAt (w.setCell ⟨M, 3, none⟩ x) M bv lm mb x cn :=
  ⟨by rw [size_setCell]; exact h.lt, (MAt.other _ _ _ (by decide)).trans h.c0, (MAt.other _ _ _ (by decide)).trans h.c1, (MAt.other _ _ _ (by decide)).trans h.c2, cell_same h.c3, (MAt.other _ _ _ (by decide)).trans h.c4, (MAt.other _ _ _ (by decide)).trans h.c5, (MAt.other _ _ _ (by decide)).trans h.c6, (MAt.other _ _ _ (by decide)).trans h.c7, (MAt.other _ _ _ (by decide)).trans h.c8, (MAt.other _ _ _ (by decide)).trans h.c9, (MAt.other _ _ _ (by decide)).trans h.c10, fun j => by rw [World.frozen?_setCell]; exact h.fr j⟩
theorem MAt.setCount (h : MAt w M bv lm mb av cn) (x : Int) : MAt (w.setCell ⟨M, 4, none⟩ (.int .u16 x)) M bv lm mb av x :=
  ⟨by rw [size_setCell]; exact h.lt, (MAt.other _ _ _ (by decide)).trans h.c0, (MAt.other _ _ _ (by decide)).trans h.c1, (MAt.other _ _ _ (by decide)).trans h.c2, (MAt.other _ _ _ (by decide)).trans h.c3, cell_same h.c4, (MAt.other _ _ _ (by decide)).trans h.c5, (MAt.other _ _ _ (by decide)).trans h.c6, (MAt.other _ _ _ (by decide)).trans h.c7, (MAt.other _ _ _ (by decide)).trans h.c8, (MAt.other _ _ _ (by decide)).trans h.c9, (MAt.other _ _ _ (by decide)).trans h.c10, fun j => by rw [World.frozen?_setCell]; exact h.fr j⟩
theorem MAt.kept (h : MAt w M bv lm mb av cn) {w' : World} (hs : w.heap.size ≤ w'.heap.size) (hb : w'.heap[M]? = w.heap[M]?) : MAt w' M bv lm mb av cn := by
  have hc : ∀ j : Nat, w'.cell? ⟨M, j, none⟩ = w.cell? ⟨M, j, none⟩ := fun j => World.cell?_of_block hb
  exact ⟨Nat.lt_of_lt_of_le h.lt hs, (hc _).trans h.c0, (hc _).trans h.c1, (hc _).trans h.c2, (hc _).trans h.c3, (hc _).trans h.c4, (hc _).trans h.c5, (hc _).trans h.c6, (hc _).trans h.c7, (hc _).trans h.c8, (hc _).trans h.c9, (hc _).trans h.c10, fun j => (World.frozen?_of_block hb).trans (h.fr j)⟩
end

theorem Begun.setLim {w : World} {Q : Nat} {ed : Bool} {qv lv : Value} {lm : Int} {W : World} (h : Begun w Q ed qv lv lm W) (hQ : Q < w.heap.size) (x : Int) : Begun w Q ed qv lv x (W.setCell ⟨w.heap.size + 2, 1, none⟩ (.int .i64 x)) := by
  have hc : ∀ j : Nat, (W.setCell ⟨w.heap.size + 2, 1, none⟩ (.int .i64 x)).cell? ⟨Q, j, none⟩ = W.cell? ⟨Q, j, none⟩ := fun j => World.cell?_setCell_other _ _ _ _ (by intro e; injection e with e _ _; omega)
  exact ⟨h.below.setCell (by show w.heap.size ≤ w.heap.size + 2; omega) _, h.msg.setLim x, (Below.heap_setCell _ _ _ _ (by show w.heap.size ≠ w.heap.size + 2; omega)).trans h.buf, h.names.setCell (by show w.heap.size + 1 ≠ w.heap.size + 2; omega) _, (hc 2).trans h.q2, (hc 3).trans h.q3, (hc 6).trans h.q6⟩

set_option maxHeartbeats 1000000 in
theorem newMessage_nil (Q : Nat) (i f qt qc pl ef ev : Int) (ed : Bool) (lv : Value) (size : Int) (w : World) (hQ : QAt w Q i f qt qc pl ef ev ed (.slice none 0 0) lv) :
    Calls Try.prog 24 #[.pointer (some ⟨Q, 0, none⟩), .int .i64 size] w fun e w' => e = .returned (.pointer (some ⟨w.heap.size + 2, 0, none⟩)) ∧ Begun w Q ed (.slice none 0 0) lv (lim ed size) w' := by
  have hmm := @run_makeMap Try.prog
  have hmk := hmk512
  have HB : Hid _ := begun Q i f qt qc pl ef ev ed _ lv size w hQ
  have hnil := fun wx : World => Lib.run_eql_slice_nil (P := Try.prog) wx 23 5 none 0 0 0 0 Try.underlying23
  have hQl := hQ.lt
  clear hQ
  go_enter Try.func24, Try.ntmps24
  go_upto_region 2 with fail
  rw [show w.heap.size + 1 + 1 = w.heap.size + 2 from rfl]
  generalize hW : ((w.alloc (.cells row512.toArray 5)).alloc (.map #[] 0)).alloc (MObj w.heap.size size) = W
  have HB1 : Hid (Begun w Q ed (.slice none 0 0) lv size W) := by rw [← hW]; exact HB
  clear hW HB hmm hmk
  have c2 := HB1.out.q2
  have c6 := HB1.out.q6
  cases ed
  · go_wp2
    go_ret
    exact ⟨rfl, HB1.out⟩
  · have m1 := HB1.out.msg.c1
    have f1 := HB1.out.msg.fr 1
    have d2 := (HB1.out.setLim hQl (wrap64 (size - 11))).q2
    go_wp2
    go_ret
    exact ⟨rfl, HB1.out.setLim hQl _⟩
end Go.Proofs.Qxb6605469a
