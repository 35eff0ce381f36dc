import Derived.Test.Qxb6604722aOp
namespace Go.Proofs.Qxb6604722a
open Go.ChangeShapes Go.WideShapes Go.ChangeAt Go.RowKit
open Pl Lx
set_option linter.unusedSimpArgs false
set_option linter.unusedVariables false

theorem rd_form (s : ByteArray) (mk : Bool) (md : Int) (i : Nat) : ∃ k tx vl n, (rd s mk md i).1 = tkV k 0 tx vl n := by
  unfold rd
  split
  · split
    · exact ⟨_, _, _, _, rfl⟩
    · split
      · exact ⟨_, _, _, _, rfl⟩
      · split
        · obtain ⟨k, tx, vl, h⟩ := qtok_form s i 3 39 msgStr
          exact ⟨k, tx, vl, 0, h⟩
        · split
          · show ∃ k tx vl n, idTok s i = tkV k 0 tx vl n
            unfold idTok
            split
            · exact ⟨_, _, _, _, rfl⟩
            · split
              · exact ⟨_, _, _, _, rfl⟩
              · exact ⟨_, _, _, _, rfl⟩
          · split
            · exact ⟨_, _, _, _, rfl⟩
            · split
              · exact ⟨_, _, _, _, rfl⟩
              · split
                · exact ⟨_, _, _, _, rfl⟩
                · split
                  · exact ⟨_, _, _, _, rfl⟩
                  · exact ⟨_, _, _, _, rfl⟩
  · exact ⟨_, _, _, _, rfl⟩

theorem qv_len (q : UInt8) : ∀ (l : List UInt8) (r : List UInt8 × Nat), qv q l = some r → r.2 ≤ l.length
  | [], r, h => by simp [qv] at h
  | [c], r, h => by
    by_cases hc : c = q
    · simp [qv, hc] at h; rw [← h]; simp
    · simp [qv, hc] at h
  | c :: c2 :: l, r, h => by
    by_cases hc : c = q
    · by_cases hc2 : c2 = q
      · cases hq : qv q l with
        | none => simp [qv, hc, hc2, hq] at h
        | some x =>
          simp [qv, hc, hc2, hq] at h
          have := qv_len q l x hq
          rw [← h]; simp; omega
      · simp [qv, hc, hc2] at h; rw [← h]; simp
    · cases hq : qv q (c2 :: l) with
      | none => simp [qv, hc, hq] at h
      | some x =>
        simp [qv, hc, hq] at h
        have := qv_len q (c2 :: l) x hq
        rw [← h]; simp at this ⊢; omega
theorem qend_le {s : ByteArray} {i : Nat} {q : UInt8} (h : i < s.size) : qend s i q ≤ s.size := by
  unfold qend
  split
  · rename_i r hr
    have := qv_len q _ r hr
    rw [List.length_drop, len_size] at this
    omega
  · exact Nat.le_refl _
theorem opEnd_le {s : ByteArray} {mk : Bool} {i : Nat} (h : i < s.size) : opEnd s mk i ≤ s.size := by
  have := orun_size (s := s) (mk := mk) s.size (i + 1) h
  unfold opEnd
  split
  · exact this
  · have := trim_le (s := s) (i := i) (orun s mk s.size (i + 1)); omega

theorem rd_bounds {s : ByteArray} {mk : Bool} {md : Int} {i : Nat} (h : i ≤ s.size) : (rd s mk md i).2.1 ≤ s.size ∧ md ≤ (rd s mk md i).2.2 ∧ (rd s mk md i).2.2 ≤ md + 1 := by
  unfold rd
  split
  · rename_i hi
    split
    · exact ⟨run_size _ _ h, by show md ≤ md; omega, by show md ≤ md + 1; omega⟩
    · split
      · exact ⟨numEnd_le h, by show md ≤ md; omega, by show md ≤ md + 1; omega⟩
      · split
        · exact ⟨qend_le hi, by show md ≤ md; omega, by show md ≤ md + 1; omega⟩
        · split
          · exact ⟨qend_le hi, by show md ≤ md; omega, by show md ≤ md + 1; omega⟩
          · split
            · exact ⟨hi, by show md ≤ md; omega, by show md ≤ md + 1; omega⟩
            · split
              · rename_i h2
                exact ⟨by have := two_lt h2; show i + 2 ≤ s.size; omega, by show md ≤ md; omega, by show md ≤ md + 1; omega⟩
              · split
                · exact ⟨hi, by show md ≤ md + 1; omega, by show md + 1 ≤ md + 1; omega⟩
                · split
                  · exact ⟨opEnd_le hi, by show md ≤ md; omega, by show md ≤ md + 1; omega⟩
                  · exact ⟨hi, by show md ≤ md; omega, by show md ≤ md + 1; omega⟩
  · exact ⟨h, by show md ≤ md; omega, by show md ≤ md + 1; omega⟩

def withPos : Value → Int → Value
  | .agg a, p => .agg (a.set! 1 (.int .i64 p))
  | v, _ => v
def kindOf : Value → Int
  | .agg a => (match (a[0]? : Option Value) with | some (Value.int _ k) => k | _ => 0)
  | _ => 0
theorem withPos_tk (k p p' n : Int) (tx vl : ByteArray) : withPos (tkV k p tx vl n) p' = tkV k p' tx vl n := rfl
theorem kindOf_tk (k p n : Int) (tx vl : ByteArray) : kindOf (tkV k p tx vl n) = k := rfl

/-- What next answers: the token, where it stops, the markers seen. -/
def nx (s : ByteArray) (mk : Bool) (md : Int) (i : Nat) : Value × Nat × Int :=
  if (sk s s.size i).1 = true then
    (withPos (rd s mk md (sk s s.size i).2.2).1 (sk s s.size i).2.2, (rd s mk md (sk s s.size i).2.2).2)
  else (skTok (sk s s.size i), (sk s s.size i).2.2, md)
theorem nx_form (s : ByteArray) (mk : Bool) (md : Int) (i : Nat) : ∃ k p tx vl n, (nx s mk md i).1 = tkV k p tx vl n := by
  unfold nx
  split
  · obtain ⟨k, tx, vl, n, h⟩ := rd_form s mk md (sk s s.size i).2.2
    exact ⟨_, _, _, _, _, by show withPos _ _ = _; rw [h, withPos_tk]⟩
  · rename_i h
    unfold skTok
    rw [if_neg h]
    exact ⟨_, _, _, _, _, rfl⟩
theorem nx_bounds {s : ByteArray} {mk : Bool} {md : Int} {i : Nat} (h : i ≤ s.size) : (nx s mk md i).2.1 ≤ s.size ∧ md ≤ (nx s mk md i).2.2 ∧ (nx s mk md i).2.2 ≤ md + 1 := by
  unfold nx
  split
  · exact rd_bounds (sk_bounds _ _ h)
  · exact ⟨sk_bounds _ _ h, by show md ≤ md; omega, by show md ≤ md + 1; omega⟩

def LT (w w3 : World) (L o p : Nat) (md : Int) : Prop := Below (w.heap.size + 1) (((w.alloc tok0).setCell ⟨L, o + 1, none⟩ (.int .i64 p)).setCell ⟨L, o + 3, none⟩ (.int .i64 md)) w3
theorem LT.of {w w2 w3 : World} {L o i p : Nat} {md : Int} (h : LS w w2 L o i) (hm : LM w2 w3 L o p md) : LT w w3 L o p md := by
  have h1 := Below.both (h.move p) ⟨L, o + 3, none⟩ (.int .i64 md)
  exact Below.trans h1 (Below.mono hm h.size)
theorem LT.size {w w3 : World} {L o p : Nat} {md : Int} (h : LT w w3 L o p md) : w.heap.size + 1 ≤ w3.heap.size := by
  have := Below.size h; rw [size_setCell, size_setCell] at this; simpa using this
theorem LT.tok {w wr : World} {L o p : Nat} {md : Int} (h : LT w wr L o p md) (hL : L < w.heap.size) :
    wr.cell? ⟨w.heap.size, 0, none⟩ = some (.int .i64 0) ∧ wr.cell? ⟨w.heap.size, 1, none⟩ = some (.int .i64 0) ∧ wr.cell? ⟨w.heap.size, 2, none⟩ = some (.string ⟨#[]⟩) ∧ wr.cell? ⟨w.heap.size, 3, none⟩ = some (.string ⟨#[]⟩) ∧ wr.cell? ⟨w.heap.size, 4, none⟩ = some (.int .i64 0) ∧ ∀ j, wr.frozen? ⟨w.heap.size, j, none⟩ = false := by
  have hb : wr.heap[w.heap.size]? = some tok0 := by
    rw [Below.block h w.heap.size (by omega), Below.heap_setCell _ _ _ _ (by show w.heap.size ≠ L; omega), Below.heap_setCell _ _ _ _ (by show w.heap.size ≠ L; omega)]
    exact heap_alloc_new w tok0
  refine ⟨?_, ?_, ?_, ?_, ?_, fun j => ?_⟩
  all_goals simp [World.cell?, World.frozen?, hb, tok0]
theorem LT.fin {w wr : World} {L o p : Nat} {md : Int} (h : LT w wr L o p md) (hL : L < w.heap.size) : LM w wr L o p md := by
  have hb : Below (w.heap.size + 1) (((w.alloc tok0).setCell ⟨L, o + 1, none⟩ (.int .i64 p)).setCell ⟨L, o + 3, none⟩ (.int .i64 md)) wr := h
  have e1 : (w.alloc tok0).setCell ⟨L, o + 1, none⟩ (.int .i64 p) = (w.setCell ⟨L, o + 1, none⟩ (.int .i64 p)).alloc tok0 := World.setCell_alloc_past _ _ _ _ hL
  have e2 : ((w.setCell ⟨L, o + 1, none⟩ (.int .i64 p)).alloc tok0).setCell ⟨L, o + 3, none⟩ (.int .i64 md) = ((w.setCell ⟨L, o + 1, none⟩ (.int .i64 p)).setCell ⟨L, o + 3, none⟩ (.int .i64 md)).alloc tok0 := World.setCell_alloc_past _ _ _ _ (by rw [size_setCell]; exact hL)
  rw [e1, e2] at hb
  have hz : ((w.setCell ⟨L, o + 1, none⟩ (.int .i64 p)).setCell ⟨L, o + 3, none⟩ (.int .i64 md)).heap.size = w.heap.size := by rw [size_setCell, size_setCell]
  exact ((Below.refl w.heap.size ((w.setCell ⟨L, o + 1, none⟩ (.int .i64 p)).setCell ⟨L, o + 3, none⟩ (.int .i64 md))).alloc (by rw [hz]; exact Nat.le_refl _) tok0).trans (hb.mono (by simp))

theorem LM.lex {w w' : World} {L o : Nat} {src : ByteArray} {pos p : Nat} {mk : Bool} {md md' : Int} (h : LexAt w L o src pos mk md) (hb : LM w w' L o p md') : LexAt w' L o src p mk md' := by
  have h1 := h.setPos p
  have h2 : LexAt ((w.setCell ⟨L, o + 1, none⟩ (.int .i64 p)).setCell ⟨L, o + 3, none⟩ (.int .i64 md')) L o src p mk md' :=
    ⟨by rw [size_setCell]; exact h1.lt, by rw [cell_other (by intro e; injection e with _ e _; omega)]; exact h1.c0, by rw [cell_other (by intro e; injection e with _ e _; omega)]; exact h1.c1, by rw [cell_other (by intro e; injection e with _ e _; omega)]; exact h1.c2, cell_same h1.c3, fun j => by rw [World.frozen?_setCell]; exact h1.fr j⟩
  exact h2.below hb h.lt
end Go.Proofs.Qxb6604722a
