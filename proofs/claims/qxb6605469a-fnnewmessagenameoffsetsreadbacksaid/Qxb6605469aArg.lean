import Derived.Test.Qxb6605469aExN
import Derived.SliceStrings
import Derived.ShutString
import Derived.ChangeOld
set_option linter.unusedSimpArgs false
set_option linter.unusedVariables false
namespace Go.Proofs.Qxb6605469a
open Go.ChangeShapes Go.WideShapes Go.ChangeAt Go.RowKit

/-- What the walk is told of a slice of integers that came in. -/
def IsRow (k : IntKind) (w : World) (a : Option Addr) (len cap : Nat) (zs : List Int) : Prop :=
  (a = none ∧ len = 0 ∧ cap = 0) ∨
  ∃ x, a = some x ∧ len ≤ cap ∧ cap ≤ maxLen ∧ len ≤ zs.length ∧ (∀ i, i < zs.length → w.cell? (x.add i) = some (.int k (zs.getD i 0))) ∧ ∀ n ∈ zs, (Lit.int k n).wf = true
/-- .. of strings. -/
def IsStrs (w : World) (a : Option Addr) (len cap : Nat) (ss : List ByteArray) : Prop :=
  (a = none ∧ len = 0 ∧ cap = 0) ∨
  ∃ x, a = some x ∧ len ≤ cap ∧ cap ≤ maxLen ∧ len ≤ ss.length ∧ (∀ i, i < ss.length → w.cell? (x.add i) = some (.string (ss.getD i ByteArray.empty))) ∧ ∀ s ∈ ss, s.size ≤ maxLen

theorem row_of {w : World} {x : Addr} {len : Nat} {vs : List Value} (hl : vs.length = len) (h : ∀ i v, vs[i]? = some v → w.cell? (x.add i) = some v) : Row w (some x) len vs := by
  refine ⟨hl, ?_⟩
  by_cases h0 : len = 0
  · exact .inl h0
  · right
    obtain ⟨b, off, spot⟩ := x
    have hc := h 0 _ (List.getElem?_eq_getElem (by omega))
    have hspot : spot = none := by simpa [Addr.add] using World.cell?_spot hc
    subst hspot
    have hB : b < w.heap.size := by simpa [Addr.add] using World.block_lt_of_cell? w _ hc
    exact ⟨b, off, rfl, hB, fun j v hj => by have := h j v hj; rw [add_plain] at this; exact this⟩

theorem strs_of {w : World} {a : Option Addr} {len cap : Nat} {ss : List ByteArray} (h : IsStrs w a len cap ss) : ∃ xs, Strs w a len xs ∧ (a = none → len = 0 ∧ cap = 0) ∧ len ≤ maxLen ∧ ∀ x ∈ xs, x.size ≤ maxLen := by
  rcases h with ⟨rfl, rfl, rfl⟩ | ⟨x, rfl, h1, h2, h3, h4, h5⟩
  · exact ⟨[], ⟨rfl, .inl rfl⟩, fun _ => ⟨rfl, rfl⟩, Nat.zero_le _, fun x hx => by cases hx⟩
  · refine ⟨ss.take len, row_of (by simp; omega) (fun i v hv => ?_), (fun h => by cases h), by omega, fun y hy => h5 y (List.mem_of_mem_take hy)⟩
    rw [List.getElem?_map, List.getElem?_take] at hv
    split at hv
    · rename_i hi
      rw [h4 i (by omega), List.getD_eq_getElem?_getD]
      rw [List.getElem?_eq_getElem (by omega : i < ss.length)] at hv ⊢
      exact hv
    · cases hv

theorem byts_of {w : World} {x : Addr} {len cap : Nat} {zs : List Int} (h : IsRow .u8 w (some x) len cap zs) : ∃ bs, Byts w (some x) len bs ∧ len ≤ maxLen := by
  rcases h with ⟨h, _⟩ | ⟨x', e, h1, h2, h3, h4, h5⟩
  · cases h
  · injection e with e; subst e
    refine ⟨(zs.take len).map (fun z => UInt8.ofNat z.toNat), row_of (by simp; omega) (fun i v hv => ?_), by omega⟩
    rw [List.getElem?_map, List.getElem?_map, List.getElem?_take] at hv
    split at hv
    · rename_i hi
      rw [h4 i (by omega), List.getD_eq_getElem?_getD]
      have hm := h5 zs[i] (List.getElem_mem (by omega))
      have hb := bounds_u8 hm
      rw [List.getElem?_eq_getElem (by omega : i < zs.length)] at hv ⊢
      simp only [Option.map_some, Option.some.injEq] at hv
      rw [← hv]
      simp only [Option.getD_some, bv, Option.some.injEq, Value.int.injEq, true_and]
      rw [UInt8.toNat_ofNat_of_lt' (by show zs[i].toNat < 256; omega)]
      omega
    · cases hv
end Go.Proofs.Qxb6605469a
