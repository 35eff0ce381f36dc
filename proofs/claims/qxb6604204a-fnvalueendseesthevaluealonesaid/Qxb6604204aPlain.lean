/-
  The plain laws of the seat (no Go in sight): strings with escapes, the depth scan, and what 'valueEnd' answers.
  'd k' is the k-th byte, 'n' the number of bytes.
-/
namespace Go.Proofs.Qxb6604204a.Pl

/-- How many backslashes stand without a gap ahead of place 'a + m', none below 'a'. -/
def esc (d : Nat → Int) (a : Nat) : Nat → Nat
  | 0 => 0
  | m + 1 => if d (a + m) = 92 then esc d a m + 1 else 0

/-- The text that begins at 'a' is closed by the quote at 'q'. -/
def Str (d : Nat → Int) (n a q : Nat) : Prop :=
  a ≤ q ∧ q < n ∧ d q = 34 ∧ esc d a (q - a) % 2 = 0 ∧ ∀ j, a ≤ j → j < q → d j = 34 → esc d a (j - a) % 2 = 1

theorem esc_shift (d : Nat → Int) (i a m : Nat) : esc (fun k => d (i + k)) a m = esc d (i + a) m := by
  induction m with
  | zero => rfl
  | succ m ih => simp only [esc, ih, Nat.add_assoc]

theorem Str.shift {d : Nat → Int} {n i a q m : Nat} (h : Str d n (i + a) (i + q)) (hm : q < m) : Str (fun k => d (i + k)) m a q := by
  obtain ⟨h1, h2, h3, h4, h5⟩ := h
  refine ⟨by omega, hm, h3, ?_, ?_⟩
  · rw [esc_shift]; have : i + q - (i + a) = q - a := by omega
    rw [this] at h4; exact h4
  · intro j hj hq hd
    have := h5 (i + j) (by omega) (by omega) hd
    rw [esc_shift]; have e : i + j - (i + a) = j - a := by omega
    rw [e] at this; exact this

/-- The scanner's state: every quote between 'a' and 'q' is escaped, and 'q' itself stands free. -/
def Scan (d : Nat → Int) (a q : Nat) : Prop :=
  a ≤ q ∧ esc d a (q - a) % 2 = 0 ∧ ∀ j, a ≤ j → j < q → d j = 34 → esc d a (j - a) % 2 = 1

theorem Scan.start (d : Nat → Int) (a : Nat) : Scan d a a := by
  refine ⟨Nat.le_refl _, ?_, ?_⟩
  · rw [Nat.sub_self]; rfl
  · intro j h1 h2; omega

theorem esc_next (d : Nat → Int) (a q : Nat) (h : a ≤ q) : esc d a (q + 1 - a) = if d q = 92 then esc d a (q - a) + 1 else 0 := by
  have e : q + 1 - a = (q - a) + 1 := by omega
  rw [e, esc]; have : a + (q - a) = q := by omega
  rw [this]

theorem Scan.one {d : Nat → Int} {a q : Nat} (h : Scan d a q) (h1 : d q ≠ 34) (h2 : d q ≠ 92) : Scan d a (q + 1) := by
  obtain ⟨ha, he, hj⟩ := h
  refine ⟨by omega, ?_, ?_⟩
  · rw [esc_next d a q ha, if_neg h2]
  · intro j h3 h4 h5
    by_cases e : j = q
    · subst e; exact absurd h5 h1
    · exact hj j h3 (by omega) h5

theorem Scan.two {d : Nat → Int} {a q : Nat} (h : Scan d a q) (h2 : d q = 92) : Scan d a (q + 2) := by
  obtain ⟨ha, he, hj⟩ := h
  have e1 := esc_next d a q ha
  rw [if_pos h2] at e1
  refine ⟨by omega, ?_, ?_⟩
  · have e2 := esc_next d a (q + 1) (by omega)
    rw [e1] at e2
    rw [show q + 2 - a = q + 1 + 1 - a from by omega, e2]
    split <;> omega
  · intro j h3 h4 h5
    by_cases e : j = q
    · subst e; omega
    · by_cases e' : j = q + 1
      · subst e'; omega
      · exact hj j h3 (by omega) h5

theorem Scan.done {d : Nat → Int} {n a q : Nat} (h : Scan d a q) (hq : q < n) (h1 : d q = 34) : Str d n a q :=
  ⟨h.1, hq, h1, h.2.1, h.2.2⟩

/-- The inner loop of 'closingQuote' counts what 'esc' counts. -/
theorem esc_count {d : Nat → Int} (t : Nat) : ∀ i, t ≤ i → (∀ k, i - t ≤ k → k < i → d k = 92) → (i - t = 0 ∨ d (i - t - 1) ≠ 92) → esc d 0 i = t := by
  induction t with
  | zero =>
    intro i _ _ h
    match i with
    | 0 => rfl
    | i + 1 =>
      rcases h with h | h
      · omega
      · rw [esc]; simp only [Nat.zero_add]; rw [if_neg (by simpa using h)]
  | succ t ih =>
    intro i hi hk h
    match i with
    | 0 => omega
    | i + 1 =>
      rw [esc]; simp only [Nat.zero_add]
      rw [if_pos (hk i (by omega) (by omega))]
      rw [ih i (by omega) (fun k h1 h2 => hk k (by omega) (by omega)) (by rw [show i + 1 - (t + 1) = i - t from by omega] at h; exact h)]

/-! ### the depth scan -/
def opensB (c : Int) : Bool := c == 123 || c == 91
def closesB (c : Int) : Bool := c == 125 || c == 93

/-- With 'f' rounds to spend, the scan that stands at 'i' at depth 'k' ends with the answer 'e'. -/
def dep (d : Nat → Int) (n e : Nat) : Nat → Nat → Nat → Prop
  | 0, _, _ => False
  | f + 1, i, k => i < n ∧
      if d i = 34 then ∃ q, Str d n (i + 1) q ∧ dep d n e f (q + 1) k
      else if opensB (d i) = true then dep d n e f (i + 1) (k + 1)
      else if closesB (d i) = true then (if k = 1 then e = i + 1 else 2 ≤ k ∧ dep d n e f (i + 1) (k - 1))
      else dep d n e f (i + 1) k

def Dep (d : Nat → Int) (n e i k : Nat) : Prop := ∃ f, dep d n e f i k

theorem Dep.lt {d : Nat → Int} {n e i k : Nat} (h : Dep d n e i k) : i < n := by
  obtain ⟨f, h⟩ := h
  cases f with
  | zero => exact h.elim
  | succ f => exact h.1

theorem Dep.str {d : Nat → Int} {n e i k q : Nat} (h : Dep d n e (q + 1) k) (hi : i < n) (h1 : d i = 34) (hs : Str d n (i + 1) q) : Dep d n e i k := by
  obtain ⟨f, h⟩ := h
  refine ⟨f + 1, hi, ?_⟩
  rw [if_pos h1]; exact ⟨q, hs, h⟩

theorem Dep.up {d : Nat → Int} {n e i k : Nat} (h : Dep d n e (i + 1) (k + 1)) (hi : i < n) (h1 : opensB (d i) = true) : Dep d n e i k := by
  obtain ⟨f, h⟩ := h
  refine ⟨f + 1, hi, ?_⟩
  rw [if_neg (by intro e; rw [e] at h1; simp [opensB] at h1), if_pos h1]; exact h

theorem closes_not {c : Int} (h : closesB c = true) : c ≠ 34 ∧ ¬ opensB c = true := by
  simp only [closesB, Bool.or_eq_true, beq_iff_eq] at h
  rcases h with h | h <;> subst h <;> decide

theorem Dep.down {d : Nat → Int} {n e i k : Nat} (h : Dep d n e (i + 1) (k + 1)) (hi : i < n) (h1 : closesB (d i) = true) : Dep d n e i (k + 2) := by
  obtain ⟨f, h⟩ := h
  refine ⟨f + 1, hi, ?_⟩
  have c := closes_not h1
  rw [if_neg c.1, if_neg c.2, if_pos h1, if_neg (by omega)]
  exact ⟨by omega, h⟩

theorem Dep.last {d : Nat → Int} {n i : Nat} (hi : i < n) (h1 : closesB (d i) = true) : Dep d n (i + 1) i 1 := by
  refine ⟨1, hi, ?_⟩
  have c := closes_not h1
  rw [if_neg c.1, if_neg c.2, if_pos h1, if_pos rfl]

theorem Dep.plain {d : Nat → Int} {n e i k : Nat} (h : Dep d n e (i + 1) k) (hi : i < n) (h1 : d i ≠ 34) (h2 : opensB (d i) = false) (h3 : closesB (d i) = false) : Dep d n e i k := by
  obtain ⟨f, h⟩ := h
  refine ⟨f + 1, hi, ?_⟩
  rw [if_neg h1, if_neg (by simp [h2]), if_neg (by simp [h3])]; exact h

/-- The scan read forwards: what the next round does. -/
theorem Dep.step {d : Nat → Int} {n e i k : Nat} (h : Dep d n e i k) :
    i < n ∧ ((d i = 34 ∧ ∃ q, Str d n (i + 1) q ∧ Dep d n e (q + 1) k) ∨ (opensB (d i) = true ∧ Dep d n e (i + 1) (k + 1)) ∨
      (closesB (d i) = true ∧ k = 1 ∧ e = i + 1) ∨ (closesB (d i) = true ∧ 2 ≤ k ∧ Dep d n e (i + 1) (k - 1)) ∨
      (d i ≠ 34 ∧ opensB (d i) = false ∧ closesB (d i) = false ∧ Dep d n e (i + 1) k)) := by
  obtain ⟨f, h⟩ := h
  cases f with
  | zero => exact h.elim
  | succ f =>
    refine ⟨h.1, ?_⟩
    have h := h.2
    split at h
    · rename_i h1; obtain ⟨q, hs, hf⟩ := h; exact .inl ⟨h1, q, hs, f, hf⟩
    · rename_i h1
      split at h
      · rename_i h2; exact .inr (.inl ⟨h2, f, h⟩)
      · rename_i h2
        split at h
        · rename_i h3
          split at h
          · rename_i h4; exact .inr (.inr (.inl ⟨h3, h4, h⟩))
          · exact .inr (.inr (.inr (.inl ⟨h3, h.1, f, h.2⟩)))
        · rename_i h3
          exact .inr (.inr (.inr (.inr ⟨h1, by simpa using h2, by simpa using h3, f, h⟩)))

/-- The answer lies behind every place that the scan comes to, and inside the text. -/
theorem dep_bounds {d : Nat → Int} {n e : Nat} : ∀ f i k, dep d n e f i k → i < e ∧ e ≤ n
  | 0, _, _, h => h.elim
  | f + 1, i, k, h => by
    obtain ⟨hi, h⟩ := h
    split at h
    · obtain ⟨q, hs, hf⟩ := h; have := dep_bounds f _ _ hf; have := hs.1; omega
    · split at h
      · have := dep_bounds f _ _ h; omega
      · split at h
        · split at h
          · omega
          · have := dep_bounds f _ _ h.2; omega
        · have := dep_bounds f _ _ h; omega

/-- The scan over the cut 'd[i:e]' answers alike. -/
theorem dep_shift {d : Nat → Int} {n i e : Nat} : ∀ f j k, dep d n (i + e) f (i + j) k → dep (fun t => d (i + t)) e e f j k
  | 0, _, _, h => h.elim
  | f + 1, j, k, h => by
    have hb := dep_bounds (f + 1) _ _ h
    obtain ⟨hi, h⟩ := h
    refine ⟨by omega, ?_⟩
    show if d (i + j) = 34 then _ else _
    split at h
    · rename_i h1
      rw [if_pos h1]
      obtain ⟨q, hs, hf⟩ := h
      have hq := hs.1
      have hb2 := dep_bounds f _ _ hf
      obtain ⟨q', rfl⟩ : ∃ q', q = i + q' := ⟨q - i, by omega⟩
      refine ⟨q', Str.shift (n := n) hs (by omega), dep_shift f _ _ hf⟩
    · rename_i h1
      rw [if_neg h1]
      split at h
      · rename_i h2; rw [if_pos h2]; exact dep_shift f _ _ h
      · rename_i h2
        rw [if_neg h2]
        split at h
        · rename_i h3
          rw [if_pos h3]
          split at h
          · rename_i h4; rw [if_pos h4]; omega
          · rename_i h4; rw [if_neg h4]; exact ⟨h.1, dep_shift f _ _ h.2⟩
        · rename_i h3
          rw [if_neg h3]; exact dep_shift f _ _ h

/-! ### what 'valueEnd' answers -/
/-- A byte at which a number or a word ends. -/
def endsB (c : Int) : Bool := c == 44 || c == 125 || c == 93 || c == 32 || c == 9 || c == 13 || c == 10

/-- 'valueEnd' at 'i' answers 'e'; of a number or a word that ends at 'x' it is left open what follows. -/
def Good (d : Nat → Int) (n x i e : Nat) : Prop :=
  i < e ∧ e ≤ n ∧
    ((d i = 34 ∧ ∃ q, Str d n (i + 1) q ∧ e = q + 1) ∨
     (opensB (d i) = true ∧ Dep d n e i 0) ∨
     (d i ≠ 34 ∧ opensB (d i) = false ∧ (∀ k, i ≤ k → k < e → endsB (d k) = false) ∧ (e = n ∨ endsB (d e) = true ∨ e = x)))

theorem Good.alone {d : Nat → Int} {n i e : Nat} (h : Good d n n i e) : Good (fun k => d (i + k)) (e - i) (e - i) 0 (e - i) := by
  obtain ⟨h1, h2, h3⟩ := h
  refine ⟨by omega, Nat.le_refl _, ?_⟩
  rcases h3 with ⟨hq, q, hs, rfl⟩ | ⟨ho, f, hf⟩ | ⟨ha, hb, hc, hd⟩
  · refine .inl ⟨by simpa using hq, q - i, ?_, by have := hs.1; omega⟩
    have := hs.1
    have e : q = i + (q - i) := by omega
    rw [e] at hs
    exact Str.shift (n := n) hs (by omega)
  · refine .inr (.inl ⟨by simpa using ho, f, ?_⟩)
    have e1 : e = i + (e - i) := by omega
    rw [e1] at hf
    exact dep_shift (n := n) f 0 0 hf
  · exact .inr (.inr ⟨by simpa using ha, by simpa using hb, fun k h4 h5 => hc (i + k) (by omega) (by omega), .inl rfl⟩)


/-! ### the stack parser's invariant -/
/-- From 'p' the depth scan comes to 'p'' at the same depth. -/
def Adv (d : Nat → Int) (n p p' : Nat) : Prop := ∀ e k, Dep d n e p' k → Dep d n e p k

theorem Adv.refl (d : Nat → Int) (n p : Nat) : Adv d n p p := fun _ _ h => h
theorem Adv.trans {d : Nat → Int} {n p q r : Nat} (h1 : Adv d n p q) (h2 : Adv d n q r) : Adv d n p r := fun e k h => h1 e k (h2 e k h)

/-- A byte that the depth scan passes by. -/
def passB (c : Int) : Bool := !(c == 34) && !opensB c && !closesB c

theorem Adv.one {d : Nat → Int} {n p : Nat} (hp : p < n) (h : passB (d p) = true) : Adv d n p (p + 1) := by
  intro e k hd
  simp only [passB, Bool.and_eq_true, Bool.not_eq_true', beq_eq_false_iff_ne] at h
  exact hd.plain hp h.1.1 h.1.2 h.2

theorem Adv.many {d : Nat → Int} {n p : Nat} (m : Nat) (hn : p + m ≤ n) (h : ∀ k, p ≤ k → k < p + m → passB (d k) = true) : Adv d n p (p + m) := by
  induction m with
  | zero => exact Adv.refl d n p
  | succ m ih => exact (ih (by omega) (fun k h1 h2 => h k h1 (by omega))).trans (Adv.one (by omega) (h _ (by omega) (by omega)))

theorem Adv.to {d : Nat → Int} {n p q : Nat} (h1 : p ≤ q) (hn : q ≤ n) (h : ∀ k, p ≤ k → k < q → passB (d k) = true) : Adv d n p q := by
  obtain ⟨m, rfl⟩ : ∃ m, q = p + m := ⟨q - p, by omega⟩
  exact Adv.many m hn h

theorem Adv.str {d : Nat → Int} {n p q : Nat} (hp : p < n) (h : d p = 34) (hs : Str d n (p + 1) q) : Adv d n p (q + 1) :=
  fun _ _ hd => hd.str hp h hs

def wsB (c : Int) : Bool := c == 32 || c == 9 || c == 13 || c == 10

theorem ws_pass {c : Int} (h : wsB c = true) : passB c = true := by
  simp only [wsB, Bool.or_eq_true, beq_iff_eq] at h
  rcases h with ((h | h) | h) | h <;> subst h <;> decide
theorem ws_ends {c : Int} (h : wsB c = true) : endsB c = true := by
  simp only [wsB, Bool.or_eq_true, beq_iff_eq] at h
  rcases h with ((h | h) | h) | h <;> subst h <;> decide

/-- What a skip over blanks comes to. -/
def Skip (d : Nat → Int) (n p p' : Nat) : Prop := p ≤ p' ∧ p' ≤ n ∧ (∀ k, p ≤ k → k < p' → wsB (d k) = true) ∧ (p' = n ∨ wsB (d p') = false)

theorem Skip.adv {d : Nat → Int} {n p q : Nat} (h : Skip d n p q) : Adv d n p q := Adv.to h.1 h.2.1 fun k h1 h2 => ws_pass (h.2.2.1 k h1 h2)

/-- A byte of a number or a word. -/
def scalB (c : Int) : Bool := (c == 43 || c == 45 || c == 46) || (decide (48 ≤ c) && decide (c ≤ 57)) || c == 69 || (decide (97 ≤ c) && decide (c ≤ 122))

theorem scal_pass {c : Int} (h : scalB c = true) : passB c = true := by
  simp only [scalB, Bool.or_eq_true, Bool.and_eq_true, beq_iff_eq, decide_eq_true_eq] at h
  simp only [passB, opensB, closesB, Bool.and_eq_true, Bool.not_eq_true', Bool.or_eq_false_iff, beq_eq_false_iff_ne]
  omega
theorem scal_ends {c : Int} (h : scalB c = true) : endsB c = false := by
  simp only [scalB, Bool.or_eq_true, Bool.and_eq_true, beq_iff_eq, decide_eq_true_eq] at h
  simp only [endsB, Bool.or_eq_false_iff, beq_eq_false_iff_ne]
  omega

/-- What the scalar's reader comes to. -/
def Scal (d : Nat → Int) (n p e : Nat) : Prop := p < e ∧ e ≤ n ∧ ∀ k, p ≤ k → k < e → scalB (d k) = true

theorem Scal.adv {d : Nat → Int} {n p q : Nat} (h : Scal d n p q) : Adv d n p q := Adv.to (Nat.le_of_lt h.1) h.2.1 fun k h1 h2 => scal_pass (h.2.2 k h1 h2)

theorem Scal.good {d : Nat → Int} {n p e : Nat} (h : Scal d n p e) : Good d n e p e := by
  refine ⟨h.1, h.2.1, .inr (.inr ?_)⟩
  have hs := scal_pass (h.2.2 p (Nat.le_refl _) h.1)
  simp only [passB, Bool.and_eq_true, Bool.not_eq_true', beq_eq_false_iff_ne] at hs
  exact ⟨hs.1.1, hs.1.2, fun k h1 h2 => scal_ends (h.2.2 k h1 h2), .inr (.inr rfl)⟩

theorem Str.good {d : Nat → Int} {n p q : Nat} (x : Nat) (h : d p = 34) (hs : Str d n (p + 1) q) : Good d n x p (q + 1) :=
  ⟨by have := hs.1; omega, by have := hs.2.1; omega, .inl ⟨h, q, hs, rfl⟩⟩

theorem Good.any {d : Nat → Int} {n i e : Nat} (x : Nat) (h : Good d n n i e) : Good d n x i e := by
  obtain ⟨h1, h2, h3⟩ := h
  refine ⟨h1, h2, ?_⟩
  rcases h3 with h3 | h3 | ⟨ha, hb, hc, hd⟩
  · exact .inl h3
  · exact .inr (.inl h3)
  · refine .inr (.inr ⟨ha, hb, hc, ?_⟩)
    rcases hd with hd | hd | hd
    · exact .inl hd
    · exact .inr (.inl hd)
    · exact .inl hd

/-- What was left open at 'x' is settled by the byte that stands there, or by the text's end. -/
theorem Good.settle {d : Nat → Int} {n x i e : Nat} (h : Good d n x i e) (hx : x = n ∨ endsB (d x) = true) : Good d n n i e := by
  obtain ⟨h1, h2, h3⟩ := h
  refine ⟨h1, h2, ?_⟩
  rcases h3 with h3 | h3 | ⟨ha, hb, hc, hd⟩
  · exact .inl h3
  · exact .inr (.inl h3)
  · refine .inr (.inr ⟨ha, hb, hc, ?_⟩)
    rcases hd with hd | hd | rfl
    · exact .inl hd
    · exact .inr (.inl hd)
    · rcases hx with hx | hx
      · exact .inl hx
      · exact .inr (.inl hx)

/-- Every end that is written down is right. -/
def EndsOk (d : Nat → Int) (n x : Nat) (E : Nat → Int) : Prop := ∀ i, i < n → E i < 0 ∨ ∃ e : Nat, E i = (e : Int) ∧ Good d n x i e

def put (E : Nat → Int) (p : Nat) (v : Int) : Nat → Int := fun i => if i = p then v else E i

theorem EndsOk.start (d : Nat → Int) (n x : Nat) (E : Nat → Int) (h : ∀ i, i < n → E i = -1) : EndsOk d n x E := fun i hi => .inl (by rw [h i hi]; decide)

theorem EndsOk.put {d : Nat → Int} {n x : Nat} {E : Nat → Int} (h : EndsOk d n x E) {p e : Nat} (hg : Good d n x p e) : EndsOk d n x (put E p (e : Int)) := by
  intro i hi
  unfold Pl.put
  by_cases hp : i = p
  · subst hp; rw [if_pos rfl]; exact .inr ⟨e, rfl, hg⟩
  · rw [if_neg hp]; exact h i hi

theorem EndsOk.any {d : Nat → Int} {n : Nat} {E : Nat → Int} (h : EndsOk d n n E) (x : Nat) : EndsOk d n x E := by
  intro i hi
  rcases h i hi with h | ⟨e, h1, h2⟩
  · exact .inl h
  · exact .inr ⟨e, h1, h2.any x⟩

theorem EndsOk.settle {d : Nat → Int} {n x : Nat} {E : Nat → Int} (h : EndsOk d n x E) (hx : x = n ∨ endsB (d x) = true) : EndsOk d n n E := by
  intro i hi
  rcases h i hi with h | ⟨e, h1, h2⟩
  · exact .inl h
  · exact .inr ⟨e, h1, h2.settle hx⟩

/-- The open containers, the innermost last: each is left by the depth scan as many levels up as there are containers from it on. -/
def Frames (d : Nat → Int) (n p : Nat) (fs : List (Nat × Bool)) : Prop :=
  ∀ j (h : j < fs.length), fs[j].1 < n ∧ opensB (d fs[j].1) = true ∧ ∀ e, Dep d n e p (fs.length - j) → Dep d n e fs[j].1 0

theorem Frames.nil (d : Nat → Int) (n p : Nat) : Frames d n p [] := fun _ h => absurd h (Nat.not_lt_zero _)

theorem Frames.adv {d : Nat → Int} {n p q : Nat} {fs : List (Nat × Bool)} (h : Frames d n p fs) (ha : Adv d n p q) : Frames d n q fs :=
  fun j hj => ⟨(h j hj).1, (h j hj).2.1, fun e hd => (h j hj).2.2 e (ha e _ hd)⟩

theorem Frames.push {d : Nat → Int} {n p : Nat} {fs : List (Nat × Bool)} (h : Frames d n p fs) (hp : p < n) (ho : opensB (d p) = true) (b : Bool) : Frames d n (p + 1) (fs ++ [(p, b)]) := by
  intro j hj
  simp only [List.length_append, List.length_singleton] at hj ⊢
  by_cases hl : j < fs.length
  · rw [List.getElem_append_left hl]
    refine ⟨(h j hl).1, (h j hl).2.1, fun e hd => (h j hl).2.2 e ?_⟩
    rw [show fs.length + 1 - j = fs.length - j + 1 from by omega] at hd
    exact hd.up hp ho
  · have hj' : j = fs.length := by omega
    subst hj'
    rw [List.getElem_append_right (by omega)]
    simp only [Nat.sub_self, List.getElem_cons_zero]
    refine ⟨hp, ho, fun e hd => ?_⟩
    rw [show fs.length + 1 - fs.length = 0 + 1 from by omega] at hd
    exact hd.up hp ho

theorem Frames.top {d : Nat → Int} {n p s : Nat} {b : Bool} {fs : List (Nat × Bool)} (h : Frames d n p (fs ++ [(s, b)])) (hp : p < n) (hc : closesB (d p) = true) (x : Nat) : s < n ∧ Good d n x s (p + 1) := by
  have ht := h fs.length (by simp)
  rw [List.getElem_append_right (by omega)] at ht
  simp only [Nat.sub_self, List.getElem_cons_zero, List.length_append, List.length_singleton] at ht
  rw [show fs.length + 1 - fs.length = 1 from by omega] at ht
  have hd := ht.2.2 (p + 1) (Dep.last hp hc)
  have hb : s < p + 1 := by obtain ⟨f, hf⟩ := hd; exact (dep_bounds f _ _ hf).1
  exact ⟨ht.1, by omega, by omega, .inr (.inl ⟨ht.2.1, hd⟩)⟩

theorem Frames.pop {d : Nat → Int} {n p s : Nat} {b : Bool} {fs : List (Nat × Bool)} (h : Frames d n p (fs ++ [(s, b)])) (hp : p < n) (hc : closesB (d p) = true) : Frames d n (p + 1) fs := by
  intro j hj
  have ht := h j (by simp; omega)
  rw [List.getElem_append_left hj] at ht
  simp only [List.length_append, List.length_singleton] at ht
  refine ⟨ht.1, ht.2.1, fun e hd => ht.2.2 e ?_⟩
  obtain ⟨k, hk⟩ : ∃ k, fs.length - j = k + 1 := ⟨fs.length - j - 1, by omega⟩
  rw [hk] at hd
  rw [show fs.length + 1 - j = k + 2 from by omega]
  exact hd.down hp hc

theorem Good.empty {d : Nat → Int} {n p q : Nat} (x : Nat) (hp : p < n) (ho : opensB (d p) = true) (hs : Skip d n (p + 1) q) (hq : q < n) (hc : closesB (d q) = true) : Good d n x p (q + 1) := by
  have h1 : Dep d n (q + 1) (p + 1) 1 := hs.adv _ _ (Dep.last hq hc)
  exact ⟨by have := hs.1; omega, by omega, .inr (.inl ⟨ho, Dep.up h1 hp ho⟩)⟩

/-- A container that opens and closes is passed by the depth scan as a whole. -/
theorem Adv.empty {d : Nat → Int} {n p q : Nat} (hp : p < n) (ho : opensB (d p) = true) (hs : Skip d n (p + 1) q) (hq : q < n) (hc : closesB (d q) = true) : ∀ e k, Dep d n e (q + 1) (k + 1) → Dep d n e p (k + 1) :=
  fun _ _ h => Dep.up (hs.adv _ _ (Dep.down h hq hc)) hp ho

theorem Frames.empty {d : Nat → Int} {n p q : Nat} {fs : List (Nat × Bool)} (h : Frames d n p fs) (hp : p < n) (ho : opensB (d p) = true) (hs : Skip d n (p + 1) q) (hq : q < n) (hc : closesB (d q) = true) : Frames d n (q + 1) fs := by
  intro j hj
  refine ⟨(h j hj).1, (h j hj).2.1, fun e hd => (h j hj).2.2 e ?_⟩
  obtain ⟨k, hk⟩ : ∃ k, fs.length - j = k + 1 := ⟨fs.length - j - 1, by omega⟩
  rw [hk] at hd ⊢
  exact Adv.empty hp ho hs hq hc _ _ hd

end Go.Proofs.Qxb6604204a.Pl
