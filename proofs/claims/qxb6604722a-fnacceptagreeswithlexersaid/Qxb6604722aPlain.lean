/-
  The plain laws of the seat's first two statements (no Go in sight): what a quoted text reads as.
-/
namespace Go.Proofs.Qxb6604722a.Pl

/-- The text behind the opening quote 'q': its value and how many bytes it takes with its closing quote; none where it is not closed. -/
def qv (q : UInt8) : List UInt8 → Option (List UInt8 × Nat)
  | [] => none
  | [c] => if c = q then some ([], 1) else none
  | c :: c2 :: l =>
    if c = q then (if c2 = q then (qv q l).map (fun r => (q :: r.1, r.2 + 2)) else some ([], 1))
    else (qv q (c2 :: l)).map (fun r => (c :: r.1, r.2 + 1))

theorem qv_other {q c : UInt8} (h : c ≠ q) (l : List UInt8) : qv q (c :: l) = (qv q l).map (fun r => (c :: r.1, r.2 + 1)) := by
  cases l with
  | nil => simp [qv, h]
  | cons c2 l => simp [qv, h]

theorem qv_twice (q : UInt8) (l : List UInt8) : qv q (q :: q :: l) = (qv q l).map (fun r => (q :: r.1, r.2 + 2)) := by simp [qv]

theorem qv_close {q : UInt8} {l : List UInt8} (h : ∀ c l', l = c :: l' → c ≠ q) : qv q (q :: l) = some ([], 1) := by
  cases l with
  | nil => simp [qv]
  | cons c2 l => simp [qv, h c2 l rfl]

theorem qv_pre {q : UInt8} (pre l : List UInt8) (h : q ∉ pre) : qv q (pre ++ l) = (qv q l).map (fun r => (pre ++ r.1, r.2 + pre.length)) := by
  induction pre with
  | nil => cases hq : qv q l <;> simp [hq]
  | cons c pre ih =>
    have hc : c ≠ q := fun e => h (by simp [e])
    rw [List.cons_append, qv_other hc, ih (fun e => h (by simp [e]))]
    cases qv q l <;> simp [Nat.add_assoc]

theorem qv_none {q : UInt8} (l : List UInt8) (h : q ∉ l) : qv q l = none := by
  have := qv_pre l [] h
  rw [List.append_nil] at this
  rw [this]; rfl

/-- So far the scan from 'i' on has gathered 'acc'; what is left decides. -/
def Far (q : UInt8) (l : List UInt8) (a i : Nat) (acc : List UInt8) : Prop :=
  a ≤ i ∧ acc.length + a ≤ i ∧ qv q (l.drop a) = (qv q (l.drop i)).map (fun r => (acc ++ r.1, r.2 + (i - a)))

theorem Far.start (q : UInt8) (l : List UInt8) (a : Nat) : Far q l a a [] := by
  refine ⟨Nat.le_refl _, by simp, ?_⟩
  cases qv q (l.drop a) <;> simp

theorem drop_at {l : List UInt8} {i : Nat} (h : i < l.length) : l.drop i = l[i] :: l.drop (i + 1) := by
  rw [List.drop_eq_getElem_cons h]

theorem Far.other {q : UInt8} {l acc : List UInt8} {a i : Nat} (h : Far q l a i acc) (hi : i < l.length) (hc : l[i] ≠ q) : Far q l a (i + 1) (acc ++ [l[i]]) := by
  obtain ⟨h1, h2, h3⟩ := h
  refine ⟨by omega, by simp; omega, ?_⟩
  rw [h3, drop_at hi, qv_other hc]
  cases qv q (l.drop (i + 1)) with
  | none => simp
  | some r => simp; omega

theorem Far.twice {q : UInt8} {l acc : List UInt8} {a i : Nat} (h : Far q l a i acc) (hi : i + 1 < l.length) (hc : l[i] = q) (hc2 : l[i + 1] = q) : Far q l a (i + 2) (acc ++ [q]) := by
  obtain ⟨h1, h2, h3⟩ := h
  refine ⟨by omega, by simp; omega, ?_⟩
  rw [h3, drop_at (by omega : i < l.length), drop_at hi, hc, hc2, qv_twice]
  cases qv q (l.drop (i + 1 + 1)) with
  | none => simp
  | some r => simp; omega

theorem Far.close {q : UInt8} {l acc : List UInt8} {a i : Nat} (h : Far q l a i acc) (hi : i < l.length) (hc : l[i] = q) (hc2 : ∀ h2 : i + 1 < l.length, l[i + 1] ≠ q) : qv q (l.drop a) = some (acc, i + 1 - a) := by
  obtain ⟨h1, h2, h3⟩ := h
  rw [h3, drop_at hi, hc, qv_close]
  · simp; omega
  · intro c l' e
    by_cases hi2 : i + 1 < l.length
    · rw [drop_at hi2] at e
      cases e
      exact hc2 hi2
    · rw [List.drop_of_length_le (by omega)] at e
      cases e

theorem Far.ended {q : UInt8} {l acc : List UInt8} {a i : Nat} (h : Far q l a i acc) (hi : l.length ≤ i) : qv q (l.drop a) = none := by
  obtain ⟨_, _, h3⟩ := h
  rw [h3, List.drop_of_length_le hi]; rfl

/-- A stretch without the quote is passed at once. -/
theorem Far.stretch {q : UInt8} {l acc : List UInt8} {a i : Nat} (h : Far q l a i acc) (m : Nat) (hm : i + m ≤ l.length) (hq : ∀ j, j < m → ∀ hj : i + j < l.length, l[i + j] ≠ q) : Far q l a (i + m) (acc ++ (l.drop i).take m) := by
  induction m with
  | zero => simpa using h
  | succ m ih =>
    have h1 := ih (by omega) (fun j hj => hq j (by omega))
    have hi : i + m < l.length := by omega
    have h2 := h1.other hi (hq m (by omega) hi)
    rw [List.append_assoc] at h2
    have e : (l.drop i).take m ++ [l[i + m]] = (l.drop i).take (m + 1) := by
      rw [List.take_succ_eq_append_getElem (by simp; omega)]
      simp
    rw [e] at h2
    exact h2

theorem Far.stays {q : UInt8} {l acc : List UInt8} {a i : Nat} (h : Far q l a i acc) (hq : ∀ j, i ≤ j → ∀ hj : j < l.length, l[j] ≠ q) (hi : i ≤ l.length) : qv q (l.drop a) = none := by
  have := h.stretch (l.length - i) (by omega) (fun j _ hj => hq (i + j) (by omega) hj)
  exact this.ended (by omega)

/-- 'v' with every quote written twice. -/
def dbl (q : UInt8) : List UInt8 → List UInt8
  | [] => []
  | c :: l => if c = q then q :: q :: dbl q l else c :: dbl q l

theorem dbl_append (q : UInt8) (a b : List UInt8) : dbl q (a ++ b) = dbl q a ++ dbl q b := by
  induction a with
  | nil => rfl
  | cons c a ih =>
    by_cases h : c = q
    · simp [dbl, h, ih]
    · simp [dbl, h, ih]

theorem dbl_length (q : UInt8) (l : List UInt8) : l.length ≤ (dbl q l).length ∧ (dbl q l).length ≤ 2 * l.length := by
  induction l with
  | nil => simp [dbl]
  | cons c l ih =>
    by_cases h : c = q
    · simp [dbl, h]; omega
    · simp [dbl, h]; omega

/-- The round trip. -/
theorem qv_dbl (q : UInt8) (v suf : List UInt8) (h : ∀ c l', suf = c :: l' → c ≠ q) : qv q (dbl q v ++ q :: suf) = some (v, (dbl q v).length + 1) := by
  induction v with
  | nil => simpa [dbl] using qv_close h
  | cons c v ih =>
    by_cases hc : c = q
    · subst hc
      simp only [dbl, if_true, List.cons_append]
      rw [qv_twice, ih]
      simp
    · simp only [dbl, if_neg hc, List.cons_append]
      rw [qv_other hc, ih]
      simp

end Go.Proofs.Qxb6604722a.Pl
