/-
  The lexer as plain functions of the text (no Go in sight): what each of its loops comes to.
-/
namespace Go.Proofs.Qxb6604722a.Lx

/-- The byte at 'i'. -/
def cb (s : ByteArray) (i : Nat) : Int := if h : i < s.size then (s[i].toNat : Int) else 0
theorem cb_at {s : ByteArray} {i : Nat} (h : i < s.size) : cb s i = (s[i].toNat : Int) := dif_pos h

def digB (c : Int) : Bool := decide (48 ≤ c) && decide (c ≤ 57)
def wsB (c : Int) : Bool := decide (97 ≤ c) && decide (c ≤ 122) || decide (65 ≤ c) && decide (c ≤ 90) || c == 95 || decide (128 ≤ c)
def wpB (c : Int) : Bool := wsB c || digB c || c == 36
def blB (c : Int) : Bool := c == 32 || c == 9 || c == 10 || c == 13 || c == 12 || c == 11

/-- Do the bytes 'a', 'b' stand at 'i'? -/
def two (s : ByteArray) (i : Nat) (a b : Int) : Bool := decide (i + 1 < s.size) && (cb s i == a) && (cb s (i + 1) == b)

theorem two_lt {s : ByteArray} {i : Nat} {a b : Int} (h : two s i a b = true) : i + 1 < s.size := by
  simp only [two, Bool.and_eq_true, decide_eq_true_eq] at h; exact h.1.1

/-- A loop that goes on while 'p' holds of the byte. -/
def run (s : ByteArray) (p : Int → Bool) : Nat → Nat → Nat
  | 0, j => j
  | f + 1, j => if j < s.size ∧ p (cb s j) = true then run s p f (j + 1) else j

theorem run_stop {s : ByteArray} {p : Int → Bool} {f j : Nat} (h : ¬ (j < s.size ∧ p (cb s j) = true)) : run s p f j = j := by
  cases f with
  | zero => rfl
  | succ f => rw [run, if_neg h]
theorem run_go {s : ByteArray} {p : Int → Bool} {f j : Nat} (h : j < s.size) (hp : p (cb s j) = true) : run s p (f + 1) j = run s p f (j + 1) := by
  rw [run, if_pos ⟨h, hp⟩]
theorem run_le {s : ByteArray} {p : Int → Bool} : ∀ f j, j ≤ run s p f j
  | 0, j => Nat.le_refl _
  | f + 1, j => by
    rw [run]; split
    · exact Nat.le_trans (Nat.le_succ _) (run_le f (j + 1))
    · exact Nat.le_refl _
theorem run_size {s : ByteArray} {p : Int → Bool} : ∀ f j, j ≤ s.size → run s p f j ≤ s.size
  | 0, j, h => h
  | f + 1, j, h => by
    rw [run]; split
    · rename_i h1; exact run_size f (j + 1) h1.1
    · exact h

/-- What is known in such a loop: it stands at 'j', 'f' rounds are left, and the end is where it began to be. -/
def Run (s : ByteArray) (p : Int → Bool) (e f j : Nat) : Prop := e = run s p f j ∧ s.size ≤ j + f

theorem Run.start (s : ByteArray) (p : Int → Bool) (j : Nat) : Run s p (run s p s.size j) s.size j := ⟨rfl, by omega⟩
theorem Run.go {s : ByteArray} {p : Int → Bool} {e f j : Nat} (h : Run s p e f j) (hj : j < s.size) (hp : p (cb s j) = true) : ∃ f', f = f' + 1 ∧ Run s p e f' (j + 1) := by
  obtain ⟨h1, h2⟩ := h
  cases f with
  | zero => omega
  | succ f => exact ⟨f, rfl, by rw [h1, run_go hj hp], by omega⟩
theorem Run.stop {s : ByteArray} {p : Int → Bool} {e f j : Nat} (h : Run s p e f j) (hp : ¬ (j < s.size ∧ p (cb s j) = true)) : e = j := by rw [h.1, run_stop hp]

/-! ### block comments -/
def bc (s : ByteArray) : Nat → Nat → Int → Bool × Nat
  | 0, i, _ => (false, i)
  | f + 1, i, d =>
    if i < s.size then
      if two s i 47 42 = true then bc s f (i + 2) (d + 1)
      else if two s i 42 47 = true then (if d - 1 = 0 then (true, i + 2) else bc s f (i + 2) (d - 1))
      else bc s f (i + 1) d
    else (false, i)

def BC (s : ByteArray) (r : Bool × Nat) (f i : Nat) (d : Int) : Prop := r = bc s f i d ∧ s.size ≤ i + f

theorem BC.start (s : ByteArray) (i : Nat) : BC s (bc s s.size i 0) s.size i 0 := ⟨rfl, by omega⟩
theorem BC.up {s : ByteArray} {r : Bool × Nat} {f i : Nat} {d : Int} (h : BC s r f i d) (hi : i < s.size) (ht : two s i 47 42 = true) : ∃ f', f = f' + 1 ∧ BC s r f' (i + 2) (d + 1) := by
  obtain ⟨h1, h2⟩ := h
  cases f with
  | zero => omega
  | succ f => exact ⟨f, rfl, by rw [h1, bc, if_pos hi, if_pos ht], by omega⟩
theorem BC.done {s : ByteArray} {r : Bool × Nat} {f i : Nat} {d : Int} (h : BC s r f i d) (hi : i < s.size) (ht : two s i 47 42 = false) (hu : two s i 42 47 = true) (hd : d - 1 = 0) : r = (true, i + 2) := by
  obtain ⟨h1, h2⟩ := h
  cases f with
  | zero => omega
  | succ f => rw [h1, bc, if_pos hi, if_neg (by simp [ht]), if_pos hu, if_pos hd]
theorem BC.down {s : ByteArray} {r : Bool × Nat} {f i : Nat} {d : Int} (h : BC s r f i d) (hi : i < s.size) (ht : two s i 47 42 = false) (hu : two s i 42 47 = true) (hd : ¬ d - 1 = 0) : ∃ f', f = f' + 1 ∧ BC s r f' (i + 2) (d - 1) := by
  obtain ⟨h1, h2⟩ := h
  cases f with
  | zero => omega
  | succ f => exact ⟨f, rfl, by rw [h1, bc, if_pos hi, if_neg (by simp [ht]), if_pos hu, if_neg hd], by omega⟩
theorem BC.next {s : ByteArray} {r : Bool × Nat} {f i : Nat} {d : Int} (h : BC s r f i d) (hi : i < s.size) (ht : two s i 47 42 = false) (hu : two s i 42 47 = false) : ∃ f', f = f' + 1 ∧ BC s r f' (i + 1) d := by
  obtain ⟨h1, h2⟩ := h
  cases f with
  | zero => omega
  | succ f => exact ⟨f, rfl, by rw [h1, bc, if_pos hi, if_neg (by simp [ht]), if_neg (by simp [hu])], by omega⟩
theorem BC.ended {s : ByteArray} {r : Bool × Nat} {f i : Nat} {d : Int} (h : BC s r f i d) (hi : ¬ i < s.size) : r = (false, i) := by
  obtain ⟨h1, h2⟩ := h
  cases f with
  | zero => exact h1
  | succ f => rw [h1, bc, if_neg hi]

theorem bc_bounds {s : ByteArray} : ∀ f i d, i ≤ s.size → i ≤ (bc s f i d).2 ∧ (bc s f i d).2 ≤ s.size
  | 0, i, d, h => ⟨Nat.le_refl _, h⟩
  | f + 1, i, d, h => by
    rw [bc]
    split
    · rename_i hi
      split
      · rename_i ht; have := two_lt ht; have := bc_bounds (s := s) f (i + 2) (d + 1) (by omega); omega
      · split
        · rename_i hu; have := two_lt hu
          split
          · show i ≤ i + 2 ∧ i + 2 ≤ s.size; omega
          · have := bc_bounds (s := s) f (i + 2) (d - 1) (by omega); omega
        · have := bc_bounds (s := s) f (i + 1) d (by omega); omega
    · exact ⟨Nat.le_refl _, h⟩

end Go.Proofs.Qxb6604722a.Lx
