import Derived.Test.Qxb6604722aMake
namespace Go.Proofs.Qxb6604722a
open Go.ChangeShapes Go.WideShapes Go.ChangeAt Go.RowKit
open Pl Lx
set_option linter.unusedSimpArgs false
set_option linter.unusedVariables false

def isTk (t : Value) : Prop := ∃ k p tx vl n, t = tkV k p tx vl n

theorem tksCells_at (k p n : Int) (tx vl : ByteArray) : ∀ (l : List Value) (hl : ∀ t ∈ l, isTk t) (i : Nat) (h : l[i]? = some (tkV k p tx vl n)) (j : Nat) (hj : j < 5),
    (tksCells l)[i * 5 + j]? = [Value.int .i64 k, .int .i64 p, .string tx, .string vl, .int .i64 n][j]?
  | [], _, i, h, _, _ => by simp at h
  | t :: l, hl, 0, h, j, hj => by
    simp at h
    subst h
    show (tkCells _ ++ tksCells l)[0 * 5 + j]? = _
    rw [List.getElem?_append_left (by show _ < 5; omega)]
    simp [tkCells, tkV]
  | t :: l, hl, i + 1, h, j, hj => by
    have ih := tksCells_at k p n tx vl l (fun t ht => hl t (List.mem_cons_of_mem _ ht)) i (by simpa using h) j hj
    obtain ⟨a, b, c, d, e, rfl⟩ := hl t (List.mem_cons_self ..)
    show (tkCells _ ++ tksCells l)[(i + 1) * 5 + j]? = _
    rw [List.getElem?_append_right (by show 5 ≤ _; omega)]
    show (tksCells l)[(i + 1) * 5 + j - 5]? = _
    rw [show (i + 1) * 5 + j - 5 = i * 5 + j by omega]
    exact ih

theorem PAt.at5 {W : World} {P : Nat} {src : ByteArray} {pos : Nat} {mk : Bool} {md : Int} {v : Value} {len : Nat} {l : List Value} {ip : Int} {fin : Bool} {en : Int} (h : PAt W P src pos mk md v len (tksCells l) ip fin en)
    (hl : ∀ t ∈ l, isTk t) (i : Nat) (hi : i < len) (k p n : Int) (tx vl : ByteArray) (ht : l[i]? = some (tkV k p tx vl n)) : At5 W v i k p tx vl n := by
  rcases h.own.2 with ⟨h1, h2⟩ | ⟨g, cap, cur, h1, h2, h3, h4, h5, h6, h7⟩
  · omega
  · have hc : ∀ j u, (tksCells l)[j]? = some u → W.cell? ⟨g, j, none⟩ = some u := fun j u hj => by
      rw [← h7, List.getElem?_take] at hj
      split at hj
      · simp [World.cell?, h3]; simpa using hj
      · cases hj
    have hx := tksCells_at k p n tx vl l hl i ht
    exact ⟨g, len, cap, h1, hi, (Array.getElem?_eq_some_iff.1 h3).1, hc _ _ (hx 0 (by omega)), hc _ _ (hx 1 (by omega)), hc _ _ (hx 2 (by omega)), hc _ _ (hx 3 (by omega)), hc _ _ (hx 4 (by omega))⟩

theorem isTk_zero : isTk zTok := ⟨_, _, _, _, _, rfl⟩
theorem isTk_seen (src : ByteArray) (mk : Bool) (k : Nat) : ∀ t ∈ seen src mk k, isTk t := by
  intro t ht
  simp only [seen, List.mem_map] at ht
  obtain ⟨j, _, rfl⟩ := ht
  exact stT_form src mk j
theorem seen_at (src : ByteArray) (mk : Bool) (k i : Nat) (h : i < k) : (seen src mk k)[i]? = some (stT src mk i) := by
  simp [seen, List.getElem?_map, List.getElem?_range h]

theorem filled_first {src : ByteArray} {mk : Bool} {P : Nat} {W : World} (h : Filled src mk P W) :
    ∃ (v : Value) (l : List Value) (p : Nat) (md : Int) (fin : Bool), PAt W P src p mk md v l.length (tksCells l) 0 fin 0 ∧ l.length ≤ 64 ∧ (∀ t ∈ l, isTk t) ∧
      ((endsV (stT src mk 0) = true ∧ fin = true ∧ l = List.replicate 5 zTok) ∨
       (endsV (stT src mk 0) = false ∧ 5 < l.length ∧ l[0]? = some (stT src mk 0) ∧ l[1]? = some (if endsV (stT src mk 1) then zTok else stT src mk 1))) := by
  obtain ⟨k, v, p, md, hne, ⟨rfl, hA⟩ | ⟨hk, hE, hA⟩⟩ := h
  · refine ⟨v, seen src mk 32, p, md, false, by rw [seen_length]; exact hA, by rw [seen_length]; omega, isTk_seen _ _ _, .inr ⟨hne 0 (by omega), by rw [seen_length]; omega, seen_at _ _ _ _ (by omega), ?_⟩⟩
    rw [hne 1 (by omega)]
    exact seen_at _ _ _ _ (by omega)
  · have hlen : (seen src mk k ++ List.replicate 5 zTok).length = k + 5 := by rw [List.length_append, seen_length]; rfl
    refine ⟨v, seen src mk k ++ List.replicate 5 zTok, p, md, true, by rw [hlen]; exact hA, by omega, ?_, ?_⟩
    · intro t ht
      rcases List.mem_append.1 ht with ht | ht
      · exact isTk_seen _ _ _ t ht
      · rw [List.eq_of_mem_replicate ht]; exact isTk_zero
    · match k, hk, hE, hne, hlen with
      | 0, _, hE, _, _ => exact .inl ⟨hE, rfl, rfl⟩
      | 1, _, hE, hne, hlen =>
        refine .inr ⟨hne 0 (by omega), by omega, ?_, ?_⟩
        · rw [List.getElem?_append_left (by rw [seen_length]; omega)]; exact seen_at _ _ _ _ (by omega)
        · rw [hE, List.getElem?_append_right (by rw [seen_length]; omega), seen_length]; rfl
      | k + 2, _, hE, hne, hlen =>
        refine .inr ⟨hne 0 (by omega), by omega, ?_, ?_⟩
        · rw [List.getElem?_append_left (by rw [seen_length]; omega)]; exact seen_at _ _ _ _ (by omega)
        · rw [hne 1 (by omega), List.getElem?_append_left (by rw [seen_length]; omega)]; exact seen_at _ _ _ _ (by omega)

/-- The parser shows this token; its last token ended there. -/
def Shows (W : World) (P : Nat) (k p : Int) (tx vl : ByteArray) (n : Int) (en : Int) : Prop :=
  ∃ (src : ByteArray) (pos : Nat) (mk : Bool) (md : Int) (v : Value) (len : Nat) (xs : List Value) (i : Nat) (fin : Bool), PAt W P src pos mk md v len xs i fin en ∧ i < len ∧ At5 W v i k p tx vl n

theorem Shows.below {W W' : World} {P : Nat} {k p n en : Int} {tx vl : ByteArray} (h : Shows W P k p tx vl n en) (hb : Below W.heap.size W W') : Shows W' P k p tx vl n en := by
  obtain ⟨src, pos, mk, md, v, len, xs, i, fin, hA, hi, h5⟩ := h
  exact ⟨src, pos, mk, md, v, len, xs, i, fin, hA.below hb, hi, h5.below hb⟩
theorem Shows.lt {W : World} {P : Nat} {k p n en : Int} {tx vl : ByteArray} (h : Shows W P k p tx vl n en) : P < W.heap.size := by
  obtain ⟨src, pos, mk, md, v, len, xs, i, fin, hA, hi, h5⟩ := h
  exact hA.lex.lt

theorem shown_s {W : World} {P : Nat} {k p n en : Int} {tx vl : ByteArray} (h : Shows W P k p tx vl n en) :
    Calls Try.prog 18 #[.pointer (some ⟨P, 0, none⟩)] W fun e w' => e = .returned (.tuple #[tkV k p tx vl n, .bool true]) ∧ Below W.heap.size W w' := by
  obtain ⟨src, pos, mk, md, v, len, xs, i, fin, hA, hi, h5⟩ := h
  exact shown_any i k p n tx vl hA hi h5
theorem state_s {W : World} {P : Nat} {k p n en : Int} {tx vl : ByteArray} (h : Shows W P k p tx vl n en) :
    Calls Try.prog 20 #[.pointer (some ⟨P, 0, none⟩)] W fun e w' => ∃ (a b : Int) (m : Nat), e = .returned (.tuple #[.int .i64 a, .int .i64 b, .int .i64 en]) ∧ w' = W.drewN m := by
  obtain ⟨src, pos, mk, md, v, len, xs, i, fin, hA, hi, h5⟩ := h
  obtain ⟨a, cap, rfl⟩ := hA.shape
  refine (state_any hA).mono ?_
  rintro e w' ⟨rfl, m, rfl⟩
  exact ⟨_, _, m, rfl, rfl⟩

/-- The parser stands at its first token, T; U is the next. -/
def Ready (W : World) (P : Nat) (T U : Value) : Prop :=
  ∃ (src : ByteArray) (pos : Nat) (mk : Bool) (md : Int) (v : Value) (l : List Value) (fin : Bool), PAt W P src pos mk md v l.length (tksCells l) 0 fin 0 ∧ l.length ≤ 64 ∧ (∀ t ∈ l, isTk t) ∧ l[0]? = some T ∧ l[1]? = some U ∧ (5 < l.length ∨ (l = List.replicate 5 zTok ∧ fin = true))

theorem Ready.shows {W : World} {P : Nat} {k p n : Int} {tx vl : ByteArray} {U : Value} (h : Ready W P (tkV k p tx vl n) U) : Shows W P k p tx vl n 0 := by
  obtain ⟨src, pos, mk, md, v, l, fin, hA, hl, ht, h0, h1, hz⟩ := h
  have hi : 0 < l.length := by rcases l with _ | ⟨a, l⟩ <;> simp at h0 ⊢
  exact ⟨src, pos, mk, md, v, _, _, 0, fin, hA, hi, hA.at5 ht 0 hi k p n tx vl h0⟩
theorem Ready.below {W W' : World} {P : Nat} {T U : Value} (h : Ready W P T U) (hb : Below W.heap.size W W') : Ready W' P T U := by
  obtain ⟨src, pos, mk, md, v, l, fin, hA, hl, ht, h0, h1, hz⟩ := h
  exact ⟨src, pos, mk, md, v, l, fin, hA.below hb, hl, ht, h0, h1, hz⟩

theorem filled_ready {src : ByteArray} {mk : Bool} {P : Nat} {W : World} (h : Filled src mk P W) :
    Ready W P (if endsV (stT src mk 0) then zTok else stT src mk 0) (if endsV (stT src mk 0) then zTok else if endsV (stT src mk 1) then zTok else stT src mk 1) := by
  obtain ⟨v, l, p, md, fin, hA, hl, ht, ⟨he, hf, rfl⟩ | ⟨he, h5, h0, h1⟩⟩ := filled_first h
  · rw [he]
    exact ⟨src, p, mk, md, v, _, fin, hA, hl, ht, rfl, rfl, .inr ⟨rfl, hf⟩⟩
  · rw [he]
    exact ⟨src, p, mk, md, v, l, fin, hA, hl, ht, h0, h1, .inl h5⟩

theorem accept_s {W : World} {P : Nat} {k p n k' p' n' : Int} {tx vl tx' vl' : ByteArray} (h : Ready W P (tkV k p tx vl n) (tkV k' p' tx' vl' n')) (kind : Int) (text : ByteArray) :
    Calls Try.prog 19 #[.pointer (some ⟨P, 0, none⟩), .int .i64 kind, .string text] W fun e w' => e = .returned (.bool (k == kind && vl.toList == text.toList)) ∧
      (((k == kind && vl.toList == text.toList) = true ∧ Below P W w' ∧ Shows w' P k' p' tx' vl' n' (wrap64 (p + tx.size))) ∨
       ((k == kind && vl.toList == text.toList) = false ∧ Below W.heap.size W w' ∧ Shows w' P k p tx vl n 0)) := by
  have hS := h.shows
  obtain ⟨src, pos, mk, md, v, l, fin, hA, hl, ht, h0, h1, hz⟩ := h
  have hi : 1 < l.length := by rcases l with _ | ⟨a, _ | ⟨b, l⟩⟩ <;> simp at h0 h1 ⊢
  have hz' : 5 < l.length ∨ (l.length = 5 ∧ fin = true ∧ tksCells l = tksCells (List.replicate 5 zTok)) := by
    rcases hz with h | h
    · exact .inl h
    · exact .inr ⟨by rw [h.1]; rfl, h.2, by rw [h.1]⟩
  refine (zzAccept_any _ (accept_any k p n tx vl hA (hA.at5 ht 0 (by omega) k p n tx vl h0) hz' hl kind text)).mono ?_
  rintro e w' ⟨rfl, ⟨hb, hbel, hr⟩ | ⟨hb, hbel⟩⟩
  · refine ⟨rfl, .inl ⟨hb, hbel, ?_⟩⟩
    rcases hr with ⟨h5, hA'⟩ | ⟨h5, v', hA'⟩
    · exact ⟨src, pos, mk, md, v, _, _, 1, fin, hA', hi, hA'.at5 ht 1 hi _ _ _ _ _ h1⟩
    · rcases hz with hz | ⟨rfl, _⟩
      · omega
      · have e1 : tkV k' p' tx' vl' n' = zTok := (Option.some.inj h1).symm
        exact ⟨src, pos, mk, md, v', _, _, 0, true, hA', by omega, hA'.at5 (l := List.replicate 4 zTok) (fun t ht => by rw [List.eq_of_mem_replicate ht]; exact isTk_zero) 0 (by omega) _ _ _ _ _ (by rw [e1]; rfl)⟩
  · exact ⟨rfl, .inr ⟨hb, hbel, hS.below hbel⟩⟩
end Go.Proofs.Qxb6604722a
