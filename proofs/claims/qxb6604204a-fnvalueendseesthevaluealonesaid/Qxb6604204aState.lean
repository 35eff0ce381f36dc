import Derived.Test.Qxb6604204aKey
namespace Go.Proofs.Qxb6604204a
open Go.ChangeShapes Go.WideShapes Go.ChangeAt Go.RowKit
open Pl

def frCells (fs : List (Nat × Bool)) : List Value := fs.flatMap fun f => [.int .i64 f.1, .bool f.2]

theorem frCells_length (fs : List (Nat × Bool)) : (frCells fs).length = fs.length * 2 := by
  induction fs with
  | nil => rfl
  | cons f fs ih => simp [frCells] at ih ⊢; omega
theorem frCells_snoc (fs : List (Nat × Bool)) (f : Nat × Bool) : frCells (fs ++ [f]) = frCells fs ++ [.int .i64 f.1, .bool f.2] := by
  simp [frCells]

/-- What the parser holds in memory: nothing old has turned, block B holds the ends, and the stack's cells are the frames. -/
structure Mem (w wr : World) (B n : Nat) (fs : List (Nat × Bool)) (v : Value) (E : Nat → Int) : Prop where
  bel : Below B w wr
  row : wr.rowIs B 3 n (fun j => .int .i64 (E j))
  own : wr.ownsRow (B + 1) 34 2 v fs.length (frCells fs)

theorem Mem.set {w wr : World} {B n : Nat} {fs : List (Nat × Bool)} {v : Value} {E : Nat → Int} (h : Mem w wr B n fs v E) (p : Nat) (e : Int) : Mem w (wr.setCell ⟨B, p, none⟩ (.int .i64 e)) B n fs v (put E p e) :=
  ⟨h.bel.setCell (Nat.le_refl _) _, (h.row.set p (.int .i64 e)).congr (fun j _ => by unfold put; split <;> rfl), ownsRow_setCell_below h.own (Nat.lt_succ_self _) _⟩

theorem Mem.alloc {w wr : World} {B n : Nat} {fs : List (Nat × Bool)} {v : Value} {E : Nat → Int} (h : Mem w wr B n fs v E) (o : Obj) : Mem w (wr.alloc o) B n fs v E :=
  ⟨h.bel.alloc (Nat.le_of_lt h.row.lt) _, h.row.alloc _, h.own.alloc _⟩

theorem Mem.drewN {w wr : World} {B n : Nat} {fs : List (Nat × Bool)} {v : Value} {E : Nat → Int} (h : Mem w wr B n fs v E) (m : Nat) : Mem w (wr.drewN m) B n fs v E :=
  ⟨below_drewN h.bel m, h.row, h.own⟩

theorem Mem.shape {w wr : World} {B n : Nat} {fs : List (Nat × Bool)} {v : Value} {E : Nat → Int} (h : Mem w wr B n fs v E) : ∃ a cap, v = .slice a fs.length cap := by
  rcases h.own.2 with ⟨h1, h2⟩ | ⟨g, cap, cur, h1, _⟩
  · exact ⟨none, 0, by rw [h1, h2]⟩
  · exact ⟨_, cap, h1⟩

theorem Mem.push {w wr w1 : World} {B n : Nat} {fs : List (Nat × Bool)} {v v' : Value} {E : Nat → Int} (h : Mem w wr B n fs v E) (p : Nat) (b : Bool)
    (hown : w1.ownsRow (B + 1) 34 2 v' (fs.length + 1) (frCells fs ++ [.int .i64 p, .bool b])) (hg : wr.grownBy w1 v.ownBlock) : Mem w w1 B n (fs ++ [(p, b)]) v' E := by
  have hB := h.row.lt
  have hv := h.own.lt
  refine ⟨h.bel.grown hg (Nat.le_of_lt hB) (fun k hk => by have := (hv k hk).1; omega), h.row.of_block (hg.block B hB ?_), ?_⟩
  · intro e; have := (hv B e.symm).1; omega
  · rw [frCells_snoc]; simpa using hown

theorem Mem.top {w wr : World} {B n : Nat} {fs : List (Nat × Bool)} {f : Nat × Bool} {v : Value} {E : Nat → Int} (h : Mem w wr B n (fs ++ [f]) v E) :
    ∃ g cap, v = .slice (some ⟨g, 0, none⟩) (fs.length + 1) cap ∧ wr.cell? ⟨g, fs.length * 2, none⟩ = some (.int .i64 f.1) ∧ wr.cell? ⟨g, fs.length * 2 + 1, none⟩ = some (.bool f.2) ∧
      fs.length + 1 ≤ cap ∧ Mem w wr B n fs (.slice (some ⟨g, 0, none⟩) fs.length cap) E := by
  have ho := h.own
  rcases h.own.2 with ⟨_, h2⟩ | ⟨g, cap, cur, h1, _, _, h4, _⟩
  · simp at h2
  · subst h1
    rw [List.length_append, List.length_singleton, frCells_snoc] at ho
    have hl := frCells_length fs
    refine ⟨g, cap, by simp, ?_, ?_, by simpa using h4, h.bel, h.row, ownsRow_pop hl (by simpa using ho)⟩
    · rw [ho.cellAt _ (by omega), List.getElem?_append_right (by omega), hl]; simp
    · rw [ho.cellAt _ (by omega), List.getElem?_append_right (by omega), hl]; simp

theorem Mem.bytes {w wr : World} {B n : Nat} {fs : List (Nat × Bool)} {v : Value} {E : Nat → Int} (h : Mem w wr B n fs v E) {b off m : Nat} {d : Nat → Int} (hb : Bytes w b off m d) (hB : b < B) : Bytes wr b off m d :=
  hb.below h.bel hB

/-- What the parser knows. -/
structure Know (d : Nat → Int) (n k x : Nat) (fs : List (Nat × Bool)) (E : Nat → Int) : Prop where
  frs : Frames d n k fs
  ends : EndsOk d n x E
  len : fs.length ≤ k
  le : k ≤ n

theorem Know.skip {d : Nat → Int} {n k q : Nat} {fs : List (Nat × Bool)} {E : Nat → Int} (h : Know d n k k fs E) (hs : Skip d n k q) : Know d n q q fs E := by
  refine ⟨h.frs.adv hs.adv, ?_, Nat.le_trans h.len hs.1, hs.2.1⟩
  by_cases e : k = q
  · subst e; exact h.ends
  · exact (h.ends.settle (.inr (ws_ends (hs.2.2.1 k (Nat.le_refl _) (by have := hs.1; omega))))).any q

theorem Know.settle {d : Nat → Int} {n k x : Nat} {fs : List (Nat × Bool)} {E : Nat → Int} (h : Know d n k k fs E) (hx : k = n ∨ endsB (d k) = true) : Know d n k x fs E :=
  ⟨h.frs, (h.ends.settle hx).any x, h.len, h.le⟩

theorem Know.any {d : Nat → Int} {n k : Nat} (x : Nat) {fs : List (Nat × Bool)} {E : Nat → Int} (h : Know d n k n fs E) : Know d n k x fs E :=
  ⟨h.frs, h.ends.any x, h.len, h.le⟩

theorem Know.adv {d : Nat → Int} {n k q x : Nat} {fs : List (Nat × Bool)} {E : Nat → Int} (h : Know d n k x fs E) (h1 : k ≤ q) (h2 : q ≤ n) (ha : Adv d n k q) : Know d n q x fs E :=
  ⟨h.frs.adv ha, h.ends, Nat.le_trans h.len h1, h2⟩

theorem Know.put {d : Nat → Int} {n k x p e : Nat} {fs : List (Nat × Bool)} {E : Nat → Int} (h : Know d n k x fs E) (hg : Pl.Good d n x p e) : Know d n k x fs (put E p (e : Int)) :=
  ⟨h.frs, h.ends.put hg, h.len, h.le⟩

/-- A string value, a number or a word read at 'k'. -/
theorem Know.string {d : Nat → Int} {n k e : Nat} {fs : List (Nat × Bool)} {E : Nat → Int} (h : Know d n k n fs E) (hs : StrTo d n k e) : Know d n e e fs (Pl.put E k (e : Int)) := by
  obtain ⟨q, rfl, h1, h2, h3⟩ := hs
  exact ((h.any (q + 1)).put (Str.good _ h2 h3)).adv (by have := h3.1; omega) (by have := h3.2.1; omega) (Adv.str h1 h2 h3)

theorem Know.scalar {d : Nat → Int} {n k e : Nat} {fs : List (Nat × Bool)} {E : Nat → Int} (h : Know d n k n fs E) (hs : Scal d n k e) : Know d n e e fs (Pl.put E k (e : Int)) :=
  ((h.any e).put hs.good).adv (Nat.le_of_lt hs.1) hs.2.1 hs.adv

/-- An empty container. -/
theorem Know.empty {d : Nat → Int} {n k q : Nat} {fs : List (Nat × Bool)} {E : Nat → Int} (h : Know d n k n fs E) (hk : k < n) (ho : opensB (d k) = true) (hs : Skip d n (k + 1) q) (hq : q < n) (hc : closesB (d q) = true) :
    Know d n (q + 1) (q + 1) fs (Pl.put E k ((q + 1 : Nat) : Int)) :=
  ⟨h.frs.empty hk ho hs hq hc, (h.ends.any _).put (Pl.Good.empty _ hk ho hs hq hc), by have := h.len; have := hs.1; omega, hq⟩

/-- A container opens. -/
theorem Know.push {d : Nat → Int} {n k q : Nat} {fs : List (Nat × Bool)} {E : Nat → Int} (h : Know d n k n fs E) (hk : k < n) (ho : opensB (d k) = true) (hs : Skip d n (k + 1) q) (b : Bool) : Know d n q n (fs ++ [(k, b)]) E :=
  ⟨(h.frs.push hk ho b).adv hs.adv, h.ends, by have := h.len; have := hs.1; simp; omega, hs.2.1⟩

/-- A key and its colon. -/
theorem Know.key {d : Nat → Int} {n k e q : Nat} {fs : List (Nat × Bool)} {E : Nat → Int} (h : Know d n k n fs E) (hs : StrTo d n k e) (ha : AdvTo d n k q) : Know d n q n fs (Pl.put E k (e : Int)) := by
  obtain ⟨r, rfl, h1, h2, h3⟩ := hs
  exact (h.put (Str.good _ h2 h3)).adv (Nat.le_of_lt ha.1) ha.2.1 ha.2.2

/-- A container closes. -/
theorem Know.pop {d : Nat → Int} {n k s : Nat} {b : Bool} {fs : List (Nat × Bool)} {E : Nat → Int} (h : Know d n k k (fs ++ [(s, b)]) E) (hk : k < n) (hc : closesB (d k) = true) (he : endsB (d k) = true) : s < n ∧ Know d n (k + 1) (k + 1) fs (Pl.put E s ((k + 1 : Nat) : Int)) := by
  have ht := h.frs.top hk hc (k + 1)
  exact ⟨ht.1, h.frs.pop hk hc, ((h.ends.settle (.inr he)).any _).put ht.2, by have := h.len; simp at this; omega, hk⟩

end Go.Proofs.Qxb6604204a
