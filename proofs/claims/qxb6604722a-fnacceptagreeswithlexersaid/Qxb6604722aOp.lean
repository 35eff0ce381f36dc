import Derived.Test.Qxb6604722aRd
namespace Go.Proofs.Qxb6604722a
open Go.ChangeShapes Go.WideShapes Go.ChangeAt Go.RowKit
open Pl Lx
set_option linter.unusedSimpArgs false
set_option linter.unusedVariables false

theorem opI_ascii {b : UInt8} (h : opI (b.toNat : Int) = true) : b.toNat < 128 := by
  unfold opI at h
  have h := of_decide_eq_true h
  rw [u8_back] at h
  rcases ib_spec (ByteArray.mk #[43, 45, 42, 47, 60, 62, 61, 126, 33, 64, 35, 37, 94, 38, 124, 96, 63]).data.toList b with ⟨h1, _⟩ | ⟨i, h1, h2, h3, _⟩
  · rw [h1] at h; exact absurd h (by decide)
  · have hall : ∀ x ∈ (ByteArray.mk #[43, 45, 42, 47, 60, 62, 61, 126, 33, 64, 35, 37, 94, 38, 124, 96, 63]).data.toList, x.toNat < 128 := by decide
    have := hall _ (List.getElem_mem h2)
    rw [h3] at this; exact this

theorem orun_le {s : ByteArray} {mk : Bool} : ∀ f j, j ≤ orun s mk f j
  | 0, j => Nat.le_refl _
  | f + 1, j => by
    rw [orun]; split
    · have := orun_le (s := s) (mk := mk) f (j + 1); omega
    · exact Nat.le_refl _
theorem orun_size {s : ByteArray} {mk : Bool} : ∀ f j, j ≤ s.size → orun s mk f j ≤ s.size
  | 0, j, h => h
  | f + 1, j, h => by
    rw [orun]; split
    · rename_i h2; exact orun_size f (j + 1) h2.1
    · exact h
theorem orun_all {s : ByteArray} {mk : Bool} : ∀ f j t, j ≤ t → t < orun s mk f j → opB mk (cb s t) = true
  | 0, j, t, h1, h2 => by rw [orun] at h2; omega
  | f + 1, j, t, h1, h2 => by
    rw [orun] at h2; split at h2
    · rename_i h3
      by_cases e : t = j
      · subst e; exact h3.2.1
      · exact orun_all f (j + 1) t (by omega) h2
    · omega
theorem op_ascii {s : ByteArray} {mk : Bool} {i : Nat} (hi : i < s.size) (h0 : opB mk (cb s i) = true) :
    ∀ (j : Nat) b, (s.extract i (orun s mk s.size (i + 1))).data.toList[j]? = some b → b.toNat < 128 := by
  intro j b hb
  have hz := orun_size (s := s) (mk := mk) s.size (i + 1) hi
  rw [Lib.extract_data] at hb
  have hb2 := List.getElem?_eq_some_iff.1 hb
  obtain ⟨hl, hb3⟩ := hb2
  rw [List.getElem_take, List.getElem_drop] at hb3
  rw [List.length_take] at hl
  have hk : i + j < s.size := by have := hl; rw [List.length_drop, len_size] at this; omega
  rw [at_list s (i + j) hk] at hb3
  have hop : opB mk (cb s (i + j)) = true := by
    by_cases e : j = 0
    · subst e; exact h0
    · exact orun_all s.size (i + 1) (i + j) (by omega) (by omega)
  rw [cb_at hk, hb3] at hop
  unfold opB at hop
  exact opI_ascii (by simp at hop; exact hop.1)
theorem special_ascii : ∀ (j : Nat) b, special.data.toList[j]? = some b → b.toNat < 128 := by
  intro j b hb
  have hall : ∀ x ∈ special.data.toList, x.toNat < 128 := by decide
  exact hall _ (List.mem_of_getElem? hb)

def OR (s : ByteArray) (mk : Bool) (en f j : Nat) : Prop := en = orun s mk f j ∧ s.size ≤ j + f
theorem OR.start (s : ByteArray) (mk : Bool) (j : Nat) : OR s mk (orun s mk s.size j) s.size j := ⟨rfl, by omega⟩
theorem OR.go {s : ByteArray} {mk : Bool} {en f j : Nat} (h : OR s mk en f j) (hj : j < s.size) (h1 : opB mk (cb s j) = true) (h2 : cm s j = false) : ∃ f', f = f' + 1 ∧ OR s mk en f' (j + 1) := by
  obtain ⟨ha, hb⟩ := h
  cases f with
  | zero => omega
  | succ f => exact ⟨f, rfl, by rw [ha, orun, if_pos ⟨hj, h1, h2⟩], by omega⟩
theorem OR.stop {s : ByteArray} {mk : Bool} {en f j : Nat} (h : OR s mk en f j) (hn : ¬ (j < s.size ∧ opB mk (cb s j) = true ∧ cm s j = false)) : en = j := by
  obtain ⟨ha, hb⟩ := h
  cases f with
  | zero => exact ha
  | succ f => rw [ha, orun, if_neg hn]
theorem trim_go {s : ByteArray} {i j : Nat} (h : i < j) (h2 : sgnP (cb s j) = true) : trim s i (j + 1) = trim s i j := by rw [trim, if_pos ⟨h, h2⟩]
theorem trim_stop {s : ByteArray} {i j : Nat} (hj : 0 < j) (h : ¬ (i < j - 1 ∧ sgnP (cb s (j - 1)) = true)) : trim s i j = j := by
  obtain ⟨k, rfl⟩ : ∃ k, j = k + 1 := ⟨j - 1, by omega⟩
  rw [trim, if_neg (by simpa using h)]
theorem trim_le {s : ByteArray} {i : Nat} : ∀ j, trim s i j ≤ j
  | 0 => Nat.le_refl _
  | j + 1 => by
    rw [trim]; split
    · have := trim_le (s := s) (i := i) j; omega
    · exact Nat.le_refl _

theorem Below.both {B : Nat} {a b : World} (h : Below B a b) (p : Addr) (x : Value) : Below B (a.setCell p x) (b.setCell p x) := by
  obtain ⟨h1, h2, h3, h4, h5⟩ := h
  exact ⟨h1, h2, h3, by rw [size_setCell, size_setCell]; exact h4, fun k hk => heap_setCell_congr p x (h5 k hk)⟩
theorem Below.five {B X : Nat} {a b : World} (h : Below B a b) (hX : B ≤ X) (p q r s t : Value) : Below B a (((((b.setCell ⟨X, 0, none⟩ p).setCell ⟨X, 1, none⟩ q).setCell ⟨X, 2, none⟩ r).setCell ⟨X, 3, none⟩ s).setCell ⟨X, 4, none⟩ t) :=
  (((((h.setCell hX _).setCell hX _).setCell hX _).setCell hX _).setCell hX _)
theorem qtok_form (s : ByteArray) (i : Nat) (k : Int) (q : UInt8) (m : ByteArray) : ∃ k' tx vl, qtok s i k q m = .agg #[.int .i64 k', .int .i64 0, .string tx, .string vl, .int .i64 0] := by
  unfold qtok
  split
  · exact ⟨_, _, _, rfl⟩
  · exact ⟨_, _, _, rfl⟩
theorem numTok_form (s : ByteArray) (i : Nat) : ∃ k' tx vl, numTok s i = .agg #[.int .i64 k', .int .i64 0, .string tx, .string vl, .int .i64 0] := ⟨_, _, _, rfl⟩
end Go.Proofs.Qxb6604722a
