import Derived.Test.Qxb6605469aCopy
import Derived.Lib.Join
import Derived.Maps.OwnSet
set_option linter.unusedSimpArgs false
set_option linter.unusedVariables false
namespace Go.Proofs.Qxb6605469a
open Go.Maps

def lbl (xs : List ByteArray) (i : Nat) : ByteArray := xs.getD i ByteArray.empty
def jn (xs : List ByteArray) : List UInt8 := Lib.join (xs.map (·.data.toList)) [46]
/-- The name that begins with label i. -/
def key (xs : List ByteArray) (i : Nat) : ByteArray := ⟨(jn (xs.drop i)).toArray⟩
/-- Where label i begins. -/
def fr (xs : List ByteArray) : Nat → Nat
  | 0 => 0
  | i + 1 => fr xs i + ((lbl xs i).size + 1)
def tot (xs : List ByteArray) : Nat → Nat
  | 0 => 0
  | i + 1 => tot xs i + (lbl xs i).size
theorem fr_tot (xs : List ByteArray) : ∀ i, fr xs i = tot xs i + i
  | 0 => rfl
  | i + 1 => by rw [fr, tot, fr_tot xs i]; omega
theorem tot_mono (xs : List ByteArray) {i j : Nat} (h : i ≤ j) : tot xs i ≤ tot xs j := by
  induction h with
  | refl => exact Nat.le_refl _
  | step _ ih => rw [tot]; omega
theorem fr_lt (xs : List ByteArray) {i j : Nat} (h : i < j) : fr xs i < fr xs j := by
  have := tot_mono xs (Nat.le_of_lt h)
  rw [fr_tot, fr_tot]; omega

theorem bytes_ext {a b : ByteArray} (h : a.data.toList = b.data.toList) : a = b := by
  cases a; cases b; simp only [ByteArray.mk.injEq]; exact Array.toList_inj.1 h
theorem len_size (s : ByteArray) : s.data.toList.length = s.size := rfl

theorem jn_cons (x y : ByteArray) (r : List ByteArray) : jn (x :: y :: r) = x.data.toList ++ 46 :: jn (y :: r) := by
  simp only [jn, List.map_cons]
  rw [Lib.join_cons, Lib.join_cons, Lib.joinTail, Lib.joinTail]
  simp
theorem jn_one (x : ByteArray) : jn [x] = x.data.toList := by simp only [jn, List.map_cons, List.map_nil]; exact Lib.join_one _ _
theorem jn_nil : jn [] = [] := rfl

theorem lbl_at {xs : List ByteArray} {i : Nat} (h : i < xs.length) : lbl xs i = xs[i] := by simp [lbl, List.getD, List.getElem?_eq_getElem h]
theorem drop_lbl {xs : List ByteArray} {i : Nat} (h : i < xs.length) : xs.drop i = lbl xs i :: xs.drop (i + 1) := by
  rw [lbl_at h, List.drop_eq_getElem_cons h]

theorem jn_step {xs : List ByteArray} {i : Nat} (h : i + 1 < xs.length) : jn (xs.drop i) = (lbl xs i).data.toList ++ 46 :: jn (xs.drop (i + 1)) := by
  rw [drop_lbl (by omega), drop_lbl h, jn_cons]
theorem jn_last {xs : List ByteArray} {i : Nat} (h : i + 1 = xs.length) : jn (xs.drop i) = (lbl xs i).data.toList := by
  rw [drop_lbl (by omega), List.drop_of_length_le (by omega), jn_one]

theorem jn_drop (xs : List ByteArray) : ∀ i, i < xs.length → fr xs i ≤ (jn xs).length ∧ (jn xs).drop (fr xs i) = jn (xs.drop i)
  | 0, h => ⟨Nat.zero_le _, by simp [fr]⟩
  | i + 1, h => by
    obtain ⟨h1, h2⟩ := jn_drop xs i (by omega)
    have h3 := jn_step h
    have hl := len_size (lbl xs i)
    have e : (jn xs).drop (fr xs (i + 1)) = jn (xs.drop (i + 1)) := by
      rw [fr, ← List.drop_drop, h2, h3, ← hl, List.drop_append, List.drop_of_length_le (by omega)]
      simp
    have hlen : (jn (xs.drop i)).length = (jn xs).length - fr xs i := by rw [← h2]; simp
    refine ⟨?_, e⟩
    rw [h3] at hlen
    simp only [List.length_append, List.length_cons, hl] at hlen
    rw [fr]; omega

theorem jn_len (xs : List ByteArray) : ∀ k i, i + (k + 1) = xs.length → (jn (xs.drop i)).length + 1 + fr xs i = fr xs xs.length
  | 0, i, h => by
    rw [jn_last h, len_size, ← h, fr]; omega
  | k + 1, i, h => by
    have ih := jn_len xs k (i + 1) (by omega)
    rw [jn_step (by omega), List.length_append, List.length_cons, len_size]
    rw [fr] at ih; omega
theorem key_len {xs : List ByteArray} {i : Nat} (h : i < xs.length) : (jn (xs.drop i)).length + 1 + fr xs i = fr xs xs.length := jn_len xs (xs.length - i - 1) i (by omega)
theorem key_size {xs : List ByteArray} {i : Nat} (h : i < xs.length) : (key xs i).size + 1 + fr xs i = fr xs xs.length := by
  rw [← len_size]; exact key_len h
theorem key_end (xs : List ByteArray) : key xs xs.length = ⟨#[]⟩ := by simp [key, jn_nil]
theorem key_last {xs : List ByteArray} {i : Nat} (h : i + 1 = xs.length) : key xs i = lbl xs i := by
  apply bytes_ext
  exact jn_last h
theorem key_step {xs : List ByteArray} {i : Nat} (h : i + 1 < xs.length) : lbl xs i ++ ⟨#[46]⟩ ++ key xs (i + 1) = key xs i := by
  apply bytes_ext
  show _ = jn (xs.drop i)
  rw [jn_step h]
  simp [key]
theorem key_ne {xs : List ByteArray} {i j : Nat} (hi : i < xs.length) (hj : j < xs.length) (h : i ≠ j) : jn (xs.drop i) ≠ jn (xs.drop j) := by
  intro e
  have h1 := key_len hi
  have h2 := key_len hj
  rw [e] at h1
  rcases Nat.lt_or_gt_of_ne h with h | h
  · have := fr_lt xs h; omega
  · have := fr_lt xs h; omega

/-- What is kept: the labels behind the last one with a dot. -/
def kp (xs : List ByteArray) : Nat → Nat
  | 0 => 0
  | i + 1 => if dot (lbl xs i) then i + 1 else kp xs i
theorem kp_le (xs : List ByteArray) : ∀ i, kp xs i ≤ i
  | 0 => Nat.le_refl _
  | i + 1 => by
    rw [kp]; split
    · exact Nat.le_refl _
    · exact Nat.le_succ_of_le (kp_le xs i)

def kl (xs : List ByteArray) (i : Nat) : Lit := .string (jn (xs.drop i))
def el (xs : List ByteArray) (i : Nat) : DataW Unit := .lit (.int .i64 (12 + fr xs i : Nat))
/-- The names after i rounds. -/
def nmD (xs : List ByteArray) (p : Nat) : Nat → DataW Unit
  | 0 => .map []
  | i + 1 => if p ≤ i then (nmD xs p i).put (kl xs i) (el xs i) else nmD xs p i
def kyL (xs : List ByteArray) (p : Nat) : Nat → List ByteArray
  | 0 => []
  | i + 1 => if p ≤ i then kyL xs p i ++ [key xs i] else kyL xs p i

theorem kyL_len (xs : List ByteArray) (p : Nat) : ∀ i, (kyL xs p i).length = i - p
  | 0 => by simp [kyL]
  | i + 1 => by
    rw [kyL]; split
    · rw [List.length_append, kyL_len xs p i]; simp; omega
    · rw [kyL_len xs p i]; omega
theorem kyL_at (xs : List ByteArray) (p : Nat) : ∀ i j, p ≤ j → j < i → (kyL xs p i)[j - p]? = some (key xs j)
  | 0, j, _, h => by omega
  | i + 1, j, hp, h => by
    rw [kyL, if_pos (by omega)]
    have hl := kyL_len xs p i
    by_cases e : j = i
    · subst e
      rw [List.getElem?_append_right (by omega), hl]; simp
    · rw [List.getElem?_append_left (by omega)]
      exact kyL_at xs p i j hp (by omega)

theorem isKey (l : List UInt8) : WideAt.IsKeyLit (.string l) := trivial
theorem nmD_tidy (xs : List ByteArray) (p : Nat) : ∀ i, Tidy (nmD xs p i)
  | 0 => tidy_empty
  | i + 1 => by
    rw [nmD]; split
    · exact (nmD_tidy xs p i).put (isKey _) _
    · exact nmD_tidy xs p i
theorem kl_ne {xs : List ByteArray} {i j : Nat} (hi : i < xs.length) (hj : j < xs.length) (h : i ≠ j) : kl xs i ≠ kl xs j := by
  intro e
  exact key_ne hi hj h (by injection e)
theorem nmD_not (xs : List ByteArray) (p : Nat) : ∀ i j, i ≤ j → j < xs.length → Maps.has (nmD xs p i) (kl xs j) = false
  | 0, j, _, _ => by simp [nmD, Maps.has]
  | i + 1, j, h, hj => by
    rw [nmD]; split
    · rw [has_put_other (kl_ne hj (by omega) (by omega))]
      exact nmD_not xs p i j (by omega) hj
    · exact nmD_not xs p i j (by omega) hj
theorem nmD_size (xs : List ByteArray) (p : Nat) : ∀ i, i ≤ xs.length → Maps.size (nmD xs p i) = i - p
  | 0, _ => by simp [nmD, Maps.size]
  | i + 1, h => by
    rw [nmD]; split
    · rw [size_put (nmD_tidy xs p i), nmD_not xs p i i (Nat.le_refl _) (by omega), nmD_size xs p i (by omega)]
      simp; omega
    · rw [nmD_size xs p i (by omega)]; omega
theorem nmD_at (xs : List ByteArray) (p : Nat) (z : DataW Unit) : ∀ i j, i ≤ xs.length → p ≤ j → j < i → (nmD xs p i).atKey (kl xs j) z = el xs j ∧ Maps.has (nmD xs p i) (kl xs j) = true
  | 0, j, _, _, h => by omega
  | i + 1, j, hi, hp, h => by
    rw [nmD, if_pos (by omega)]
    by_cases e : j = i
    · subst e
      exact ⟨atKey_put_same (nmD_tidy xs p j).isMap (isKey _) _ _, has_put_same (nmD_tidy xs p j).isMap (isKey _) _⟩
    · have := nmD_at xs p z i j (by omega) hp (by omega)
      rw [atKey_put_other (kl_ne (by omega) (by omega) e), has_put_other (kl_ne (by omega) (by omega) e)]
      exact this
end Go.Proofs.Qxb6605469a
