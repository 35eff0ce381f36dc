import Derived.Test.Qxb6605469aRun
import Derived.Test.Qxb6605469aShelf
set_option linter.unusedSimpArgs false
set_option linter.unusedVariables false
namespace Go.Proofs.Qxb6605469a
open Go.ChangeShapes Go.WideShapes Go.ChangeAt Go.RowKit
open Go.Maps

theorem join_any (a : Option Addr) (n c : Nat) (xs : List ByteArray) (w : World) (h : Strs w a n xs) (hc : n ≤ c) (hn : n ≤ 1048576) (ht : tot xs n ≤ 1048576) :
    Calls Try.prog 29 #[.slice a n c, .string ⟨#[46]⟩] w fun e w' => e = .returned (.string (key xs 0)) ∧ Below w.heap.size w w' := by
  have hl := h.len
  subst hl
  obtain ⟨_, h0 | ⟨b, o, rfl, hb, hcl⟩⟩ := h
  · obtain rfl := List.eq_nil_of_length_eq_zero h0
    refine (Try.strings_Join_none a c ⟨#[46]⟩ w).mono ?_
    rintro e w' ⟨rfl, rfl⟩
    exact ⟨rfl, Below.refl _ _⟩
  · refine (Try.strings_Join b o c xs ⟨#[46]⟩ w (fun j x hj => hcl j (sv x) (by rw [List.getElem?_map, hj]; rfl)) hb (by omega) hc ?_).mono ?_
    · show (jn xs).length ≤ _
      by_cases hz : xs.length = 0
      · obtain rfl := List.eq_nil_of_length_eq_zero hz
        exact Nat.zero_le _
      · have := key_len (xs := xs) (i := 0) (by omega)
        rw [fr_tot xs xs.length] at this
        simp only [List.drop_zero] at this
        omega
    · rintro e w' ⟨rfl, hb⟩
      exact ⟨rfl, hb⟩

theorem indexByte_list : ∀ l : List UInt8, decide (0 ≤ Lib.indexByte l 46) = l.contains 46
  | [] => rfl
  | b :: l => by
    have ih := indexByte_list l
    have hg := Lib.indexByte_ge l 46
    rw [Lib.indexByte, List.contains_cons]
    by_cases hb : b = 46
    · subst hb; simp
    · have h1 : (b == 46) = false := by simpa using hb
      have h2 : ((46 : UInt8) == b) = false := by simpa using fun e => hb e.symm
      rw [h1, h2, Bool.false_or, ← ih]
      by_cases hm : Lib.indexByte l 46 = -1
      · simp [hm]
      · have h3 : (Lib.indexByte l 46 == -1) = false := by simpa using hm
        simp only [h3, Bool.false_eq_true, if_false]
        rw [decide_eq_decide]; omega
theorem indexByte_dot (s : ByteArray) : decide (0 ≤ Lib.indexByte s.data.toList 46) = dot s := indexByte_list _
theorem contains_any (s : ByteArray) (w : World) : Calls Try.prog 28 #[.string s, .string ⟨#[46]⟩] w fun e w' => e = .returned (.bool (dot s)) ∧ w' = w := by
  have := Try.strings_Contains_one s 46 w
  rw [indexByte_dot] at this
  exact this
end Go.Proofs.Qxb6605469a
