import Derived.Test.Qxb6605469aRd
set_option linter.unusedSimpArgs false
set_option linter.unusedVariables false
namespace Go.Proofs.Qxb6605469a
open Go.ChangeShapes Go.WideShapes Go.ChangeAt Go.RowKit

theorem heap_setCell_twice (v : World) (p : Addr) (x y : Value) (k : Nat) : ((v.setCell p x).setCell p y).heap[k]? = (v.setCell p y).heap[k]? := by
  simp only [World.setCell, Array.getElem?_modify]
  by_cases h : p.block = k
  · simp only [h, if_true]
    cases v.heap[k]? with
    | none => rfl
    | some o =>
      cases o <;> simp
      split <;> simp
  · simp only [h, if_false]
theorem heap_setCell_congr {a b : World} (p : Addr) (y : Value) {k : Nat} (h : b.heap[k]? = a.heap[k]?) : (b.setCell p y).heap[k]? = (a.setCell p y).heap[k]? := by
  simp only [World.setCell, Array.getElem?_modify, h]
theorem Below.reset {B : Nat} {v wr : World} {p : Addr} {x : Value} (h : Below B (v.setCell p x) wr) (y : Value) : Below B (v.setCell p y) (wr.setCell p y) := by
  refine ⟨h.os, h.tape, h.output, ?_, fun k hk => ?_⟩
  · have := h.size; rw [size_setCell] at this ⊢; rw [size_setCell]; exact this
  · rw [heap_setCell_congr p y (h.block k hk), heap_setCell_twice]

/-! ### what the bytes say -/
theorem encF_split (xs : List ByteArray) (j : Nat) : ∀ m, ∃ r, encF xs (j + 1 + m) = encF xs j ++ (UInt8.ofNat (lbl xs j).size :: ((lbl xs j).data.toList ++ r))
  | 0 => ⟨[], by simp [encF]⟩
  | m + 1 => by
    obtain ⟨r, hr⟩ := encF_split xs j m
    exact ⟨r ++ (UInt8.ofNat (lbl xs (j + 1 + m)).size :: (lbl xs (j + 1 + m)).data.toList), by rw [show j + 1 + (m + 1) = (j + 1 + m) + 1 from rfl, encF, hr]; simp⟩
/-- The bytes of the message: the header, the labels, the root, the rest. -/
def msgB (xs : List ByteArray) (n : Nat) (tl : List UInt8) : List UInt8 := List.replicate 12 0 ++ (encF xs n ++ 0 :: tl)
theorem msgB_at {xs : List ByteArray} {n j : Nat} (tl : List UInt8) (h : j < n) : ∃ r, msgB xs n tl = (List.replicate 12 0 ++ encF xs j) ++ (UInt8.ofNat (lbl xs j).size :: ((lbl xs j).data.toList ++ r)) := by
  obtain ⟨r, hr⟩ := encF_split xs j (n - j - 1)
  rw [show j + 1 + (n - j - 1) = n by omega] at hr
  exact ⟨r ++ 0 :: tl, by rw [msgB, hr]; simp⟩
theorem pre_len (xs : List ByteArray) (j : Nat) : (List.replicate 12 (0 : UInt8) ++ encF xs j).length = 12 + fr xs j := by rw [List.length_append, encF_len]; simp
theorem getD_mid (p d r : List UInt8) (c : UInt8) (k : Nat) (hk : p.length = k) : (p ++ (c :: (d ++ r))).getD k 0 = c ∧ ∀ t, t < d.length → (p ++ (c :: (d ++ r))).getD (k + 1 + t) 0 = d.getD t 0 := by
  subst hk
  refine ⟨by rw [List.getD_eq_getElem?_getD, List.getElem?_append_right (Nat.le_refl _)]; simp, fun t ht => ?_⟩
  rw [List.getD_eq_getElem?_getD, List.getElem?_append_right (by omega), show p.length + 1 + t - p.length = t + 1 by omega, List.getElem?_cons_succ, List.getElem?_append_left ht, List.getD_eq_getElem?_getD]
theorem msg_label {xs : List ByteArray} {n j : Nat} (tl : List UInt8) (h : j < n) : (msgB xs n tl).getD (12 + fr xs j) 0 = UInt8.ofNat (lbl xs j).size ∧ ∀ t, t < (lbl xs j).size → (msgB xs n tl).getD (12 + fr xs j + 1 + t) 0 = (lbl xs j).data.toList.getD t 0 := by
  obtain ⟨r, hr⟩ := msgB_at (xs := xs) tl h
  have := getD_mid (List.replicate 12 0 ++ encF xs j) (lbl xs j).data.toList r (UInt8.ofNat (lbl xs j).size) (12 + fr xs j) (pre_len xs j)
  rw [hr]
  exact ⟨this.1, fun t ht => this.2 t (by rw [len_size]; exact ht)⟩
theorem msg_end (xs : List ByteArray) (n : Nat) (tl : List UInt8) : (msgB xs n tl).getD (12 + fr xs n) 0 = 0 := by
  have := (getD_mid (List.replicate 12 0 ++ encF xs n) tl [] 0 (12 + fr xs n) (pre_len xs n)).1
  rw [List.append_nil] at this
  rw [msgB, ← List.append_assoc]
  exact this

/-- The labels read so far, lowered. -/
def lowsT (xs : List ByteArray) (i : Nat) : Nat → List ByteArray
  | 0 => []
  | m + 1 => lowsT xs i m ++ [low (lbl xs (i + m))]
theorem lowsT_len (xs : List ByteArray) (i : Nat) : ∀ m, (lowsT xs i m).length = m
  | 0 => rfl
  | m + 1 => by rw [lowsT, List.length_append, lowsT_len xs i m]; rfl
theorem lowsT_at (xs : List ByteArray) (i : Nat) : ∀ m t, t < m → (lowsT xs i m).getD t ByteArray.empty = low (lbl xs (i + t))
  | 0, t, h => by omega
  | m + 1, t, h => by
    have hl := lowsT_len xs i m
    rw [lowsT, List.getD_eq_getElem?_getD]
    by_cases e : t = m
    · subst e; rw [List.getElem?_append_right (by omega), hl]; simp
    · rw [List.getElem?_append_left (by omega), ← List.getD_eq_getElem?_getD]
      exact lowsT_at xs i m t (by omega)

/-- While a name is read: 'W0' is the memory at the start of the call. -/
structure NM (W0 W : World) (R A : Nat) (v : Value) (ls : List ByteArray) : Prop where
  bel : Below W0.heap.size (W0.setCell ⟨R, 1, none⟩ (.int .i64 A)) W
  own : W.ownsRow W0.heap.size 9 1 v ls.length (ls.map sv)

section
variable {W0 W : World} {R A : Nat} {v : Value} {ls : List ByteArray}
theorem NM.size (h : NM W0 W R A v ls) : W0.heap.size ≤ W.heap.size := by have := h.bel.size; rw [size_setCell] at this; exact this
theorem NM.rat (h : NM W0 W R A v ls) {mv : Value} {A0 : Nat} (h0 : RAt W0 R mv A0) : RAt W R mv A := by
  refine ⟨Nat.lt_of_lt_of_le h0.lt h.size, ?_, ?_, fun j => ?_⟩
  · rw [h.bel.cell (p := ⟨R, 0, none⟩) h0.lt, World.cell?_setCell_other _ _ _ _ (by intro e; injection e with _ e _; omega)]; exact h0.c0
  · rw [h.bel.cell (p := ⟨R, 1, none⟩) h0.lt]; exact cell_same h0.c1
  · have hb := h.bel.block R h0.lt
    rw [World.frozen?_of_block (a := ⟨R, j, none⟩) hb, World.frozen?_setCell]; exact h0.fr j
theorem NM.byts (h : NM W0 W R A v ls) {gb N : Nat} {bs : List UInt8} (hb : Byts W0 (some ⟨gb, 0, none⟩) N bs) (hne : gb ≠ R) : Byts W (some ⟨gb, 0, none⟩) N bs := by
  obtain ⟨hl, h0 | ⟨b, o, e, hlt, hc⟩⟩ := hb
  · exact ⟨hl, .inl h0⟩
  · injection e with e; injection e with e1 e2 _; subst e1 e2
    refine ⟨hl, .inr ⟨gb, 0, rfl, Nat.lt_of_lt_of_le hlt h.size, fun j x hj => ?_⟩⟩
    rw [h.bel.cell (p := ⟨gb, 0 + j, none⟩) hlt, World.cell?_setCell_other _ _ _ _ (by intro e; injection e with e _ _; exact hne e.symm)]
    exact hc j x hj
theorem NM.drewN (h : NM W0 W R A v ls) (m : Nat) : NM W0 (W.drewN m) R A v ls := ⟨below_drewN h.bel m, h.own⟩
theorem NM.move (h : NM W0 W R A v ls) (hR : R < W0.heap.size) (A' : Nat) : NM W0 (W.setCell ⟨R, 1, none⟩ (.int .i64 A')) R A' v ls :=
  ⟨Below.reset h.bel _, ownsRow_setCell_below h.own hR _⟩
theorem NM.grown (h : NM W0 W R A v ls) {W' : World} (hb : Below W.heap.size W W') : NM W0 W' R A v ls :=
  ⟨h.bel.trans (hb.mono h.size), h.own.kept (grown_of_below hb none) (by
    cases hv : v.ownBlock with
    | none => exact .inl rfl
    | some x => exact .inr (by simp))⟩
theorem NM.alloc (h : NM W0 W R A v ls) (o : Obj) : NM W0 (W.alloc o) R A v ls := h.grown ((Below.refl _ _).alloc (Nat.le_refl _) o)
theorem NM.push (h : NM W0 W R A v ls) {W' : World} {v' : Value} {x : ByteArray} (ho : W'.ownsRow W0.heap.size 9 1 v' (ls.length + 1) (ls.map sv ++ [.string x])) (hg : W.grownBy W' v.ownBlock) : NM W0 W' R A v' (ls ++ [x]) :=
  ⟨h.bel.grown hg h.size (fun k hk => (h.own.lt k hk).1), by rw [List.map_append, List.length_append]; exact ho⟩
end
theorem enters31 : ∀ args w, (callFunc 31 args).run Try.prog w = .ok (.enter 31 args) w := enters_of Try.func31 (by kernel_rfl) rfl
end Go.Proofs.Qxb6605469a
