import Derived.Test.Qxb6604722aNx
import Derived.Deep.RegionLawGrows
namespace Go.Proofs.Qxb6604722a
open Go.ChangeShapes Go.WideShapes Go.ChangeAt Go.RowKit
open Pl Lx
set_option linter.unusedSimpArgs false
set_option linter.unusedVariables false

/-- append to a row of the call's own, as one step of a region that draws its order. -/
theorem step_append_own {P : Program} {ops : Array Oper} {o : Oper} {a : Act} {w : World} {K : Act → World → Prop} {Q : Exit → Act → World → Prop} {E : Prop}
    (hg : o.guard = none) (s x : Operand) (t : TypeId) (hop : o.op = Op.call { callee := Callee.builtin Builtin.append, args := #[s, x], argTypes := #[t, t] })
    (base : Nat) (e : TypeId) (i : TypeInfo) (z : Value) (size bytes : Nat) (h1 : P.underlying t = some (.slice e)) (h2 : P.info? e = some i) (h3 : i.zero = some z) (h4 : i.size = size) (h5 : i.bytes = bytes) (h6 : z.cells.size = size) (h7 : 0 < size)
    (v : Value) (n : Nat) (xs : List Value) (hs : a.eval s = v) (hown : w.ownsRow base e size v n xs)
    (ad : Addr) (m c : Nat) (news : List Value) (hx : a.eval x = .slice (some ad) m c) (hn : news.length = m * size) (hc : ∀ j u, news[j]? = some u → w.cell? (ad.add j) = some u) (h1c : ∀ u ∈ news, u.oneCell' = true)
    (b1 : n + m ≤ maxLen) (b2 : (n + m) * bytes ≤ 140737488355328) (hb : base ≤ w.heap.size)
    (hK : ∀ v' w', w'.ownsRow base e size v' (n + m) (xs ++ news) → w.grownBy w' v.ownBlock → K (a.put o.dst v') w') :
    if Region.wanted o (yielded ops a.tmps) = true then Oper.wp P o a w K Q else E := by
  have hw : Region.wanted o (yielded ops a.tmps) = true := by simp [Region.wanted, hg]
  rw [if_pos hw]
  obtain ⟨v', w', hrun, r1, r2, _⟩ := run_append_own (P := P) w base t o.type e i z size bytes h1 h2 h3 h4 h5 h6 h7 v n xs hown ad m c news hn hc h1c b1 b2 hb
  unfold Oper.wp
  simp [execOp, hop, resolve, invoke, builtin, hs, hx, hrun, Result.andThen]
  exact hK v' w' r1 r2

/-- The parser in memory, at 'P'. -/
structure PAt (W : World) (P : Nat) (src : ByteArray) (pos : Nat) (mk : Bool) (md : Int) (v : Value) (n : Nat) (xs : List Value) (ip : Int) (fin : Bool) (en : Int) : Prop where
  lex : LexAt W P 0 src pos mk md
  c4 : W.cell? ⟨P, 4, none⟩ = some v
  c5 : W.cell? ⟨P, 5, none⟩ = some (.int .i64 ip)
  c6 : W.cell? ⟨P, 6, none⟩ = some (.bool fin)
  c7 : W.cell? ⟨P, 7, none⟩ = some (.int .i64 en)
  own : W.ownsRow (P + 1) 50 5 v n xs

variable {W : World} {P : Nat} {src : ByteArray} {pos : Nat} {mk : Bool} {md : Int} {v : Value} {n : Nat} {xs : List Value} {ip : Int} {fin : Bool} {en : Int}

theorem PAt.alloc (h : PAt W P src pos mk md v n xs ip fin en) (o : Obj) : PAt (W.alloc o) P src pos mk md v n xs ip fin en :=
  ⟨h.lex.alloc o, (World.cell?_alloc_past o P 4 h.lex.lt).trans h.c4, (World.cell?_alloc_past o P 5 h.lex.lt).trans h.c5, (World.cell?_alloc_past o P 6 h.lex.lt).trans h.c6, (World.cell?_alloc_past o P 7 h.lex.lt).trans h.c7, h.own.alloc o⟩
theorem PAt.drewN (h : PAt W P src pos mk md v n xs ip fin en) (m : Nat) : PAt (W.drewN m) P src pos mk md v n xs ip fin en :=
  ⟨h.lex.drewN' m, h.c4, h.c5, h.c6, h.c7, h.own⟩
theorem PAt.setOther (h : PAt W P src pos mk md v n xs ip fin en) (a : Addr) (u : Value) (ha : a.block < P) : PAt (W.setCell a u) P src pos mk md v n xs ip fin en := by
  have hb := fun (j : Nat) => World.cell?_setCell_other W a ⟨P, j, none⟩ u (by intro e; rw [e] at ha; simp at ha)
  exact ⟨⟨by rw [size_setCell]; exact h.lex.lt, (hb _).trans h.lex.c0, (hb _).trans h.lex.c1, (hb _).trans h.lex.c2, (hb _).trans h.lex.c3, fun j => by rw [World.frozen?_setCell]; exact h.lex.fr j⟩, (hb _).trans h.c4, (hb _).trans h.c5, (hb _).trans h.c6, (hb _).trans h.c7, ownsRow_setCell_below h.own (by omega) u⟩
/-- The parser's place among its tokens moves. -/
theorem PAt.setNext (h : PAt W P src pos mk md v n xs ip fin en) (j : Int) : PAt (W.setCell ⟨P, 5, none⟩ (.int .i64 j)) P src pos mk md v n xs j fin en := by
  have hb := fun (j' : Nat) (hj : 5 ≠ j') => World.cell?_setCell_other W ⟨P, 5, none⟩ ⟨P, j', none⟩ (.int .i64 j) (by intro e; injection e with _ e _; exact hj e)
  exact ⟨⟨by rw [size_setCell]; exact h.lex.lt, (hb _ (by omega)).trans h.lex.c0, (hb _ (by omega)).trans h.lex.c1, (hb _ (by omega)).trans h.lex.c2, (hb _ (by omega)).trans h.lex.c3, fun j => by rw [World.frozen?_setCell]; exact h.lex.fr j⟩, (hb _ (by omega)).trans h.c4, cell_same h.c5, (hb _ (by omega)).trans h.c6, (hb _ (by omega)).trans h.c7, ownsRow_setCell_below h.own (by show P < P + 1; omega) _⟩
theorem PAt.setEnded (h : PAt W P src pos mk md v n xs ip fin en) (b : Bool) : PAt (W.setCell ⟨P, 6, none⟩ (.bool b)) P src pos mk md v n xs ip b en := by
  have hb := fun (j' : Nat) (hj : 6 ≠ j') => World.cell?_setCell_other W ⟨P, 6, none⟩ ⟨P, j', none⟩ (.bool b) (by intro e; injection e with _ e _; exact hj e)
  exact ⟨⟨by rw [size_setCell]; exact h.lex.lt, (hb _ (by omega)).trans h.lex.c0, (hb _ (by omega)).trans h.lex.c1, (hb _ (by omega)).trans h.lex.c2, (hb _ (by omega)).trans h.lex.c3, fun j => by rw [World.frozen?_setCell]; exact h.lex.fr j⟩, (hb _ (by omega)).trans h.c4, (hb _ (by omega)).trans h.c5, cell_same h.c6, (hb _ (by omega)).trans h.c7, ownsRow_setCell_below h.own (by show P < P + 1; omega) _⟩
theorem PAt.setEnd (h : PAt W P src pos mk md v n xs ip fin en) (j : Int) : PAt (W.setCell ⟨P, 7, none⟩ (.int .i64 j)) P src pos mk md v n xs ip fin j := by
  have hb := fun (j' : Nat) (hj : 7 ≠ j') => World.cell?_setCell_other W ⟨P, 7, none⟩ ⟨P, j', none⟩ (.int .i64 j) (by intro e; injection e with _ e _; exact hj e)
  exact ⟨⟨by rw [size_setCell]; exact h.lex.lt, (hb _ (by omega)).trans h.lex.c0, (hb _ (by omega)).trans h.lex.c1, (hb _ (by omega)).trans h.lex.c2, (hb _ (by omega)).trans h.lex.c3, fun j => by rw [World.frozen?_setCell]; exact h.lex.fr j⟩, (hb _ (by omega)).trans h.c4, (hb _ (by omega)).trans h.c5, (hb _ (by omega)).trans h.c6, cell_same h.c7, ownsRow_setCell_below h.own (by show P < P + 1; omega) _⟩
/-- The tokens' slice is another. -/
theorem PAt.setAhead (h : PAt W P src pos mk md v n xs ip fin en) {v' : Value} {n' : Nat} {xs' : List Value} (ho : W.ownsRow (P + 1) 50 5 v' n' xs') : PAt (W.setCell ⟨P, 4, none⟩ v') P src pos mk md v' n' xs' ip fin en := by
  have hb := fun (j' : Nat) (hj : 4 ≠ j') => World.cell?_setCell_other W ⟨P, 4, none⟩ ⟨P, j', none⟩ v' (by intro e; injection e with _ e _; exact hj e)
  exact ⟨⟨by rw [size_setCell]; exact h.lex.lt, (hb _ (by omega)).trans h.lex.c0, (hb _ (by omega)).trans h.lex.c1, (hb _ (by omega)).trans h.lex.c2, (hb _ (by omega)).trans h.lex.c3, fun j => by rw [World.frozen?_setCell]; exact h.lex.fr j⟩, cell_same h.c4, (hb _ (by omega)).trans h.c5, (hb _ (by omega)).trans h.c6, (hb _ (by omega)).trans h.c7, ownsRow_setCell_below ho (by show P < P + 1; omega) _⟩

/-- A call of the lexer's moves its place and its markers alone. -/
theorem PAt.lexed (h : PAt W P src pos mk md v n xs ip fin en) {W' : World} {p' : Nat} {md' : Int} (hb : LM W W' P 0 p' md') : PAt W' P src p' mk md' v n xs ip fin en := by
  have hP := h.lex.lt
  have hcell : ∀ j : Nat, 1 ≠ j → 3 ≠ j → W'.cell? ⟨P, j, none⟩ = W.cell? ⟨P, j, none⟩ := fun j h1 h3 => by
    rw [Below.cell hb (by show P < _; exact hP), World.cell?_setCell_other _ _ _ _ (by intro e; injection e with _ e _; omega), World.cell?_setCell_other _ _ _ _ (by intro e; injection e with _ e _; omega)]
  refine ⟨LM.lex h.lex hb, (hcell 4 (by omega) (by omega)).trans h.c4, (hcell 5 (by omega) (by omega)).trans h.c5, (hcell 6 (by omega) (by omega)).trans h.c6, (hcell 7 (by omega) (by omega)).trans h.c7, ?_⟩
  obtain ⟨h1, h2 | ⟨g, cap, cur, hv, hg, hcur, hr⟩⟩ := h.own
  · exact ⟨h1, .inl h2⟩
  · have hgl : g < W.heap.size := by
      have := Array.getElem?_eq_some_iff.1 hcur
      exact this.1
    refine ⟨h1, .inr ⟨g, cap, cur, hv, hg, ?_, hr⟩⟩
    rw [Below.block hb g hgl, Below.heap_setCell _ _ _ _ (by show g ≠ P; omega), Below.heap_setCell _ _ _ _ (by show g ≠ P; omega)]
    exact hcur

/-- The row of tokens has grown: the parser's own cells are as they were. -/
theorem PAt.grown (h : PAt W P src pos mk md v n xs ip fin en) {W' : World} (hg : W.grownBy W' v.ownBlock) : LexAt W' P 0 src pos mk md ∧ W'.cell? ⟨P, 4, none⟩ = some v ∧ W'.cell? ⟨P, 5, none⟩ = some (.int .i64 ip) ∧ W'.cell? ⟨P, 6, none⟩ = some (.bool fin) ∧ W'.cell? ⟨P, 7, none⟩ = some (.int .i64 en) := by
  have hP := h.lex.lt
  have hne : some P ≠ v.ownBlock := by
    intro e; have := (h.own.lt P e.symm).1; omega
  have hb := hg.block P hP hne
  have hc : ∀ j : Nat, W'.cell? ⟨P, j, none⟩ = W.cell? ⟨P, j, none⟩ := fun j => by simp only [World.cell?]; rw [hb]
  have hf : ∀ j : Nat, W'.frozen? ⟨P, j, none⟩ = W.frozen? ⟨P, j, none⟩ := fun j => by simp only [World.frozen?]; rw [hb]
  exact ⟨⟨Nat.lt_of_lt_of_le hP hg.size, (hc _).trans h.lex.c0, (hc _).trans h.lex.c1, (hc _).trans h.lex.c2, (hc _).trans h.lex.c3, fun j => (hf j).trans (h.lex.fr j)⟩, (hc _).trans h.c4, (hc _).trans h.c5, (hc _).trans h.c6, (hc _).trans h.c7⟩

theorem PAt.appended (h : PAt W P src pos mk md v n xs ip fin en) {W' : World} (hg : W.grownBy W' v.ownBlock) {v' : Value} {n' : Nat} {xs' : List Value} (ho : W'.ownsRow (P + 1) 50 5 v' n' xs') : PAt (W'.setCell ⟨P, 4, none⟩ v') P src pos mk md v' n' xs' ip fin en := by
  obtain ⟨hl, d4, d5, d6, d7⟩ := h.grown hg
  have hb := fun (j' : Nat) (hj : 4 ≠ j') => World.cell?_setCell_other W' ⟨P, 4, none⟩ ⟨P, j', none⟩ v' (by intro e; injection e with _ e _; exact hj e)
  exact ⟨⟨by rw [size_setCell]; exact hl.lt, (hb _ (by omega)).trans hl.c0, (hb _ (by omega)).trans hl.c1, (hb _ (by omega)).trans hl.c2, (hb _ (by omega)).trans hl.c3, fun j => by rw [World.frozen?_setCell]; exact hl.fr j⟩, cell_same d4, (hb _ (by omega)).trans d5, (hb _ (by omega)).trans d6, (hb _ (by omega)).trans d7, ownsRow_setCell_below ho (by show P < P + 1; omega) _⟩

/-- The cells of a token; of several. -/
def tkCells : Value → List Value
  | .agg a => a.toList
  | _ => []
def tksCells (l : List Value) : List Value := l.flatMap tkCells
theorem tksCells_snoc (l : List Value) (t : Value) : tksCells (l ++ [t]) = tksCells l ++ tkCells t := by simp [tksCells]
def zTok : Value := tkV 0 0 ⟨#[]⟩ ⟨#[]⟩ 0
/-- Does the token end the statement? -/
def endsV (t : Value) : Bool := kindOf t == 10 || kindOf t == 0

/-- The lexer's states and tokens, one behind the other. -/
def stS (s : ByteArray) (mk : Bool) : Nat → Nat × Int
  | 0 => (0, 0)
  | k + 1 => (nx s mk (stS s mk k).2 (stS s mk k).1).2
def stT (s : ByteArray) (mk : Bool) (k : Nat) : Value := (nx s mk (stS s mk k).2 (stS s mk k).1).1
theorem stS_bounds (s : ByteArray) (mk : Bool) : ∀ k, (stS s mk k).1 ≤ s.size ∧ 0 ≤ (stS s mk k).2 ∧ (stS s mk k).2 ≤ k
  | 0 => ⟨Nat.zero_le _, Int.le_refl _, Int.le_refl _⟩
  | k + 1 => by
    obtain ⟨h1, h2, h3⟩ := stS_bounds s mk k
    have := nx_bounds (s := s) (mk := mk) (md := (stS s mk k).2) h1
    rw [stS]
    refine ⟨this.1, ?_, ?_⟩
    · have := this.2.1; omega
    · have := this.2.2; omega
theorem stT_form (s : ByteArray) (mk : Bool) (k : Nat) : ∃ ki p tx vl n, stT s mk k = tkV ki p tx vl n := nx_form _ _ _ _
/-- The tokens read so far. -/
def seen (s : ByteArray) (mk : Bool) (k : Nat) : List Value := (List.range k).map (stT s mk)
theorem seen_succ (s : ByteArray) (mk : Bool) (k : Nat) : seen s mk (k + 1) = seen s mk k ++ [stT s mk k] := by simp [seen, List.range_succ]
theorem seen_length (s : ByteArray) (mk : Bool) (k : Nat) : (seen s mk k).length = k := by simp [seen]
end Go.Proofs.Qxb6604722a
