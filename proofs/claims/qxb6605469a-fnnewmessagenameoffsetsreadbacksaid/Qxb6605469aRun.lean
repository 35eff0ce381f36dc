import Derived.Test.Qxb6605469aMsg
set_option linter.unusedSimpArgs false
set_option linter.unusedVariables false
namespace Go.Proofs.Qxb6605469a
open Go.ChangeShapes Go.WideShapes Go.ChangeAt Go.RowKit
open Go.Maps

/-- While the message is written: 'w' is the memory at the start of the call. -/
structure Run (w : World) (gb : Nat) (O : Obj) (K : Nat) (bvl : Value) (lm cn : Int) (D : DataW Unit) (nm : Nat) (av : Value) (an : Nat) (keys : List ByteArray) (W : World) : Prop where
  below : Below w.heap.size w W
  msg : MAt W (w.heap.size + 2) bvl lm (w.heap.size + 1) av cn
  buf : W.heap[gb]? = some O
  names : W.ownsMap Try.prog 9 (plainElem (H := Unit) Try.prog 3) (w.heap.size + 1) nm D
  own : W.ownsRow K 9 1 av an (keys.map sv)
  hg0 : w.heap.size ≤ gb
  hg1 : gb < K
  hg2 : gb ≠ w.heap.size + 1
  hg3 : gb ≠ w.heap.size + 2
  hK : w.heap.size + 3 ≤ K
  hKW : K ≤ W.heap.size

theorem grown_of_below {W W' : World} (h : Below W.heap.size W W') (row : Option Nat) : W.grownBy W' row := ⟨h.os, h.tape, h.output, h.size, fun k hk _ => h.block k hk⟩

section
variable {w : World} {gb : Nat} {O : Obj} {K : Nat} {bvl : Value} {lm cn : Int} {D : DataW Unit} {nm : Nat} {av : Value} {an : Nat} {keys : List ByteArray} {W : World}
theorem Run.grown (h : Run w gb O K bvl lm cn D nm av an keys W) {W' : World} (hb : Below W.heap.size W W') : Run w gb O K bvl lm cn D nm av an keys W' :=
  ⟨h.below.trans (hb.mono h.below.size), h.msg.kept hb.size (hb.block _ h.msg.lt), (hb.block _ (Nat.lt_of_lt_of_le h.hg1 h.hKW)).trans h.buf, h.names.kept (grown_of_below hb none) (by simp), h.own.kept (grown_of_below hb none) (by
    cases hv : av.ownBlock with
    | none => exact .inl rfl
    | some x => exact .inr (by simp)), h.hg0, h.hg1, h.hg2, h.hg3, h.hK, Nat.le_trans h.hKW hb.size⟩
theorem Run.drewN (h : Run w gb O K bvl lm cn D nm av an keys W) (m : Nat) : Run w gb O K bvl lm cn D nm av an keys (W.drewN m) := h.grown (below_drewN (Below.refl _ _) m)
theorem Run.alloc (h : Run w gb O K bvl lm cn D nm av an keys W) (o : Obj) : Run w gb O K bvl lm cn D nm av an keys (W.alloc o) := h.grown ((Below.refl _ _).alloc (Nat.le_refl _) o)

/-- A name is stored. -/
theorem Run.put (h : Run w gb O K bvl lm cn D nm av an keys W) {W' : World} {D' : DataW Unit} (hn : W'.ownsMap Try.prog 9 (plainElem (H := Unit) Try.prog 3) (w.heap.size + 1) (nm + 1) D') (hg : W.grownBy W' (some (w.heap.size + 1))) : Run w gb O K bvl lm cn D' (nm + 1) av an keys W' := by
  have hb : ∀ k, k < W.heap.size → k ≠ w.heap.size + 1 → W'.heap[k]? = W.heap[k]? := fun k hk hne => hg.block k hk (by simpa using hne)
  refine ⟨h.below.grown hg h.below.size (fun k hk => by injection hk with hk; omega), h.msg.kept hg.size (hb _ h.msg.lt (by omega)), (hb _ (Nat.lt_of_lt_of_le h.hg1 h.hKW) h.hg2).trans h.buf, hn, h.own.kept hg ?_, h.hg0, h.hg1, h.hg2, h.hg3, h.hK, Nat.le_trans h.hKW hg.size⟩
  cases hv : av.ownBlock with
  | none => exact .inl rfl
  | some x =>
    have := (h.own.lt x hv).1
    have := h.hK
    exact .inr (by simp; omega)

/-- A name is appended; the slice is another. -/
theorem Run.added (h : Run w gb O K bvl lm cn D nm av an keys W) {W' : World} {av' : Value} {an' : Nat} {keys' : List ByteArray} (ho : W'.ownsRow K 9 1 av' an' (keys'.map sv)) (hg : W.grownBy W' av.ownBlock) :
    Run w gb O K bvl lm cn D nm av' an' keys' (W'.setCell ⟨w.heap.size + 2, 3, none⟩ av') := by
  have hrow : ∀ k, av.ownBlock = some k → K ≤ k := fun k hk => (h.own.lt k hk).1
  have hK := h.hK
  have hg1 := h.hg1
  have hb : ∀ k, k < K → W'.heap[k]? = W.heap[k]? := fun k hk => hg.block k (Nat.lt_of_lt_of_le hk h.hKW) (fun e => by have := hrow k e.symm; omega)
  have hm : MAt W' (w.heap.size + 2) bvl lm (w.heap.size + 1) av cn := h.msg.kept hg.size (hb _ (by omega))
  have hnm : W'.ownsMap Try.prog 9 (plainElem (H := Unit) Try.prog 3) (w.heap.size + 1) nm D := h.names.kept hg (fun e => by have := hrow _ e.symm; omega)
  refine ⟨(h.below.grown hg h.below.size (fun k hk => by have := hrow k hk; omega)).setCell (by show w.heap.size ≤ w.heap.size + 2; omega) _, hm.setAdded _, ?_, hnm.setCell (by show w.heap.size + 1 ≠ w.heap.size + 2; omega) _, ownsRow_setCell_below ho (by show w.heap.size + 2 < K; omega) _, h.hg0, h.hg1, h.hg2, h.hg3, h.hK, by rw [size_setCell]; exact Nat.le_trans h.hKW hg.size⟩
  rw [Below.heap_setCell _ _ _ _ (by show gb ≠ w.heap.size + 2; exact h.hg3), hb _ hg1]
  exact h.buf

theorem Run.count (h : Run w gb O K bvl lm cn D nm av an keys W) (x : Int) : Run w gb O K bvl lm x D nm av an keys (W.setCell ⟨w.heap.size + 2, 4, none⟩ (.int .u16 x)) := by
  have hK := h.hK
  refine ⟨h.below.setCell (by show w.heap.size ≤ w.heap.size + 2; omega) _, h.msg.setCount _, ?_, h.names.setCell (by show w.heap.size + 1 ≠ w.heap.size + 2; omega) _, ownsRow_setCell_below h.own (by show w.heap.size + 2 < K; omega) _, h.hg0, h.hg1, h.hg2, h.hg3, h.hK, by rw [size_setCell]; exact h.hKW⟩
  rw [Below.heap_setCell _ _ _ _ (by show gb ≠ w.heap.size + 2; exact h.hg3)]
  exact h.buf
end

theorem row512_take : row512.take 12 = List.replicate 12 (.int .u8 0) := by rw [row512, toList_madeCells_one]; rfl

/-- The question goes behind the header. -/
theorem Begun.append {w : World} {Q : Nat} {ed : Bool} {lv : Value} {lm : Int} {W : World} {ad : Addr} {qn qc : Nat} {qs : List UInt8} (h : Begun w Q ed (.slice (some ad) qn qc) lv lm W) (hq : Byts W (some ad) qn qs) (hn : qn ≤ 1048576) (m : Nat) :
    ∃ v' W' gb cap O, (Builtin.append_ #[23, 23] 23 #[.slice (some ⟨w.heap.size, 0, none⟩) 12 512, .slice (some ad) qn qc]).run Try.prog (W.drewN m) = .ok v' W' ∧ v' = .slice (some ⟨gb, 0, none⟩) (12 + qn) cap ∧ 12 + qn ≤ cap ∧
      MAt W' (w.heap.size + 2) (.slice (some ⟨w.heap.size, 0, none⟩) 12 512) lm (w.heap.size + 1) (.slice none 0 0) 0 ∧
      Run w gb O W'.heap.size v' lm 0 (.map []) 0 (.slice none 0 0) 0 [] (W'.setCell ⟨w.heap.size + 2, 0, none⟩ v') ∧ ∀ X : World, X.heap[gb]? = some O → Byts X (some ⟨gb, 0, none⟩) (12 + qn) (List.replicate 12 0 ++ qs) := by
  obtain ⟨i0, hi, hz0, hz1, hz2⟩ := info_parts info5
  have hbuf : (W.drewN m).heap[w.heap.size]? = some (.cells row512.toArray 5 (0, 0)) := h.buf
  have hs : w.heap.size + 2 < W.heap.size := h.msg.lt
  have hown : (W.drewN m).ownsRow w.heap.size 5 1 (.slice (some ⟨w.heap.size, 0, none⟩) 12 512) 12 (List.replicate 12 (.int .u8 0)) :=
    ⟨rfl, .inr ⟨w.heap.size, 512, _, rfl, Nat.le_refl _, hbuf, by decide, by unfold maxLen; decide, by simp [row512, size_madeCells], by rw [← row512_take]⟩⟩
  have hql : (qs.map bv).length = qn := hq.1
  have hsrc : ∀ j u, (qs.map bv)[j]? = some u → (W.drewN m).cell? (ad.add j) = some u := fun j u hj => by
    have hl : 0 < (qs.map bv).length := by have := (List.getElem?_eq_some_iff.1 hj).1; omega
    obtain ⟨ad', e, hc⟩ := Row.src (w' := W) hq (Below.refl _ _) hl
    injection e with e; subst e
    exact hc j u hj
  obtain ⟨v', W', hrun, ho, hg, hnil⟩ := run_append_own (P := Try.prog) (W.drewN m) w.heap.size 23 23 5 i0 (.int .u8 0) 1 1 Try.underlying23 hi hz0 hz1 hz2 rfl (by decide) _ 12 _ hown ad qn qc (qs.map bv) (by omega) hsrc (bv_one qs) (by unfold maxLen; omega) (by omega) (by show w.heap.size ≤ W.heap.size; omega)
  have hg' : W.grownBy W' (some w.heap.size) := ⟨hg.os, hg.tape, hg.output, hg.size, fun k hk hne => hg.block k hk hne⟩
  have hb : ∀ k, k < W.heap.size → k ≠ w.heap.size → W'.heap[k]? = W.heap[k]? := fun k hk hne => hg'.block k hk (by simpa using hne)
  have hm : MAt W' (w.heap.size + 2) (.slice (some ⟨w.heap.size, 0, none⟩) 12 512) lm (w.heap.size + 1) (.slice none 0 0) 0 := h.msg.kept hg'.size (hb _ hs (by omega))
  have hnm := h.names.kept hg' (by simp)
  obtain ⟨gb, cap, cur, hv, hgb, hcur, hcap, hmx, hsz, htk⟩ : ∃ g cap cur, v' = .slice (some ⟨g, 0, none⟩) (12 + qn) cap ∧ w.heap.size ≤ g ∧ W'.heap[g]? = some (.cells cur 5 (0, 0)) ∧ 12 + qn ≤ cap ∧ cap ≤ maxLen ∧ cur.size = cap * 1 ∧ cur.toList.take ((12 + qn) * 1) = List.replicate 12 (.int .u8 0) ++ qs.map bv := by
    rcases ho.2 with ⟨_, h0⟩ | h1
    · omega
    · exact h1
  have htk' : cur.toList.take (12 + qn) = (List.replicate 12 0 ++ qs).map bv := by rw [Nat.mul_one] at htk; rw [htk]; simp [bv]
  have hbyt : ∀ X : World, X.heap[gb]? = some (.cells cur 5 (0, 0)) → Byts X (some ⟨gb, 0, none⟩) (12 + qn) (List.replicate 12 0 ++ qs) := fun X hX => by
    refine ⟨by simp at hql ⊢; omega, .inr ⟨gb, 0, rfl, (Array.getElem?_eq_some_iff.1 hX).1, fun j x hj => ?_⟩⟩
    rw [← htk', List.getElem?_take] at hj
    split at hj
    · rw [Nat.zero_add]; simp [World.cell?, hX]; simpa using hj
    · cases hj
  have hne1 : gb ≠ w.heap.size + 1 := by
    intro e
    obtain ⟨es, clock, he, _⟩ := hnm
    rw [e, he] at hcur
    cases hcur
  have hne2 : gb ≠ w.heap.size + 2 := by
    intro e
    have hb0 := (hbyt W' hcur).at 0 (by omega)
    obtain ⟨b, o, e1, hc⟩ := hb0
    injection e1 with e1; injection e1 with e1 e2 _; subst e1 e2
    rw [e, Nat.zero_add, hm.c0] at hc
    cases hc
  have hgl : gb < W'.heap.size := (Array.getElem?_eq_some_iff.1 hcur).1
  refine ⟨v', W', gb, cap, _, hrun, hv, hcap, hm, ⟨?_, hm.setBuf _, ?_, hnm.setCell (by show w.heap.size + 1 ≠ w.heap.size + 2; omega) _, World.ownsRow_nil _ _ _ _, hgb, hgl, hne1, hne2, ?_, by rw [size_setCell]; exact Nat.le_refl _⟩, hbyt⟩
  · exact (h.below.grown hg' h.below.size (fun k hk => by injection hk with hk; omega)).setCell (by show w.heap.size ≤ w.heap.size + 2; omega) _
  · rw [Below.heap_setCell _ _ _ _ (by show gb ≠ w.heap.size + 2; exact hne2)]; exact hcur
  · have := hg'.size; omega
end Go.Proofs.Qxb6605469a
