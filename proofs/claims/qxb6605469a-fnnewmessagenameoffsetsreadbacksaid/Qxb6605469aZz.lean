import Derived.Test.Qxb6605469aDet
set_option linter.unusedSimpArgs false
set_option linter.unusedVariables false
namespace Go.Proofs.Qxb6605469a
open Go.ChangeShapes Go.WideShapes Go.ChangeAt Go.RowKit
open Go.Maps

theorem Row.four {w : World} {a : Option Addr} {n : Nat} {vs : List Value} (h : Row w a n vs) {X : Nat} (hX : n = 0 ∨ ∃ b o, a = some ⟨b, o, none⟩ ∧ b ≠ X) (p q r s : Value) : Row ((((w.setCell ⟨X, 0, none⟩ p).setCell ⟨X, 1, none⟩ q).setCell ⟨X, 2, none⟩ r).setCell ⟨X, 3, none⟩ s) a n vs := by
  obtain ⟨hlen, h0 | ⟨b, o, rfl, hb, hc⟩⟩ := h
  · exact ⟨hlen, .inl h0⟩
  · rcases hX with h0 | ⟨b', o', e, hX⟩
    · exact ⟨hlen, .inl h0⟩
    · injection e with e; injection e with e1 e2 _; subst e1 e2
      refine ⟨hlen, .inr ⟨b, o, rfl, by simp only [size_setCell]; exact hb, fun j x hj => ?_⟩⟩
      have hne : ∀ (W : World) (i : Nat) (u : Value), (W.setCell ⟨X, i, none⟩ u).cell? ⟨b, o + j, none⟩ = W.cell? ⟨b, o + j, none⟩ := fun W i u => World.cell?_setCell_other _ _ _ _ (by intro e; injection e with e _ _; exact hX e.symm)
      rw [hne, hne, hne, hne]
      exact hc j x hj
theorem map_four {w : World} {mb nm : Nat} {D : DataW Unit} (h : w.ownsMap Try.prog 9 (plainElem (H := Unit) Try.prog 3) mb nm D) {X : Nat} (hX : mb ≠ X) (p q r s : Value) : ((((w.setCell ⟨X, 0, none⟩ p).setCell ⟨X, 1, none⟩ q).setCell ⟨X, 2, none⟩ r).setCell ⟨X, 3, none⟩ s).ownsMap Try.prog 9 (plainElem (H := Unit) Try.prog 3) mb nm D :=
  (((h.setCell hX _).setCell hX _).setCell hX _).setCell hX _
theorem Below.four {B X : Nat} {a b : World} (h : Below B a b) (hX : B ≤ X) (p q r s : Value) : Below B a ((((b.setCell ⟨X, 0, none⟩ p).setCell ⟨X, 1, none⟩ q).setCell ⟨X, 2, none⟩ r).setCell ⟨X, 3, none⟩ s) :=
  ((((h.setCell hX _).setCell hX _).setCell hX _).setCell hX _)

theorem own_strs {W : World} {K : Nat} {aa : Option Addr} {m ac : Nat} {keys : List ByteArray} (h : W.ownsRow K 9 1 (.slice aa m ac) m (keys.map sv)) : Strs W aa m keys ∧ (m = 0 ∨ ∃ b o, aa = some ⟨b, o, none⟩ ∧ K ≤ b) := by
  obtain ⟨hl, ⟨h1, h2⟩ | ⟨g, cap, cur, h1, h2, h3, h4, h5, h6, h7⟩⟩ := h
  · subst h2
    exact ⟨⟨by omega, .inl rfl⟩, .inl rfl⟩
  · injection h1 with h1 _ _
    subst h1
    refine ⟨⟨by omega, .inr ⟨g, 0, rfl, (Array.getElem?_eq_some_iff.1 h3).1, fun j x hj => ?_⟩⟩, .inr ⟨g, 0, rfl, h2⟩⟩
    rw [← h7, List.getElem?_take] at hj
    split at hj
    · rw [Nat.zero_add]; simp [World.cell?, h3]; simpa using hj
    · cases hj

theorem four_same {W : World} {s : Nat} {a b c d : Value} {t : TypeId} (h : W.heap[s]? = some (.cells #[a, b, c, d] t (0, 0))) (p q r u : Value) :
    ((((W.setCell ⟨s, 0, none⟩ p).setCell ⟨s, 1, none⟩ q).setCell ⟨s, 2, none⟩ r).setCell ⟨s, 3, none⟩ u).heap[s]? = some (.cells #[p, q, r, u] t (0, 0)) := by
  have h0 := heap_setCell_same W s 0 _ t p h
  have h1 := heap_setCell_same _ s 1 _ t q h0
  have h2 := heap_setCell_same _ s 2 _ t r h1
  have h3 := heap_setCell_same _ s 3 _ t u h2
  rw [h3]; rfl

abbrev QObj (i f qt qc pl ef ev : Int) (ed : Bool) (qv lv : Value) : Obj := .cells #[.int .u16 i, .int .u16 f, qv, lv, .int .u16 qt, .int .u16 qc, .bool ed, .int .u16 pl, .int .u16 ef, .int .u8 ev] 50
abbrev ZObj : Obj := .cells #[.int .u16 0, .int .u16 0, .int .u16 0, .int .u16 0] 29

theorem qat (w : World) (i f qt qc pl ef ev : Int) (ed : Bool) (qv lv : Value) : QAt ((w.alloc ZObj).alloc (QObj i f qt qc pl ef ev ed qv lv)) (w.heap.size + 1) i f qt qc pl ef ev ed qv lv := by
  have hs : (w.alloc ZObj).heap.size = w.heap.size + 1 := by simp
  have hM : ((w.alloc ZObj).alloc (QObj i f qt qc pl ef ev ed qv lv)).heap[w.heap.size + 1]? = some (QObj i f qt qc pl ef ev ed qv lv) := by rw [← hs]; exact heap_alloc_new _ _
  refine ⟨(Array.getElem?_eq_some_iff.1 hM).1, ?_, ?_, ?_⟩
  all_goals (simp only [World.cell?, hM]; rfl)

set_option maxRecDepth 20000 in
set_option maxHeartbeats 4000000 in
theorem zzNew_of (i f qt qc pl ef ev : Int) (ed : Bool) (qa : Option Addr) (qn qk : Nat) (la : Option Addr) (n lc : Nat) (size : Int) (w : World) (R : Nat → World → World → Value → Int → Nat → Value → Int → Prop)
    (h24 : ∀ W1 : World, Below w.heap.size w W1 → QAt W1 (w.heap.size + 1) i f qt qc pl ef ev ed (.slice qa qn qk) (.slice la n lc) → Calls Try.prog 24 #[.pointer (some ⟨w.heap.size + 1, 0, none⟩), .int .i64 size] W1 fun e W2 => ∃ M bv lm mb av cn, e = .returned (.pointer (some ⟨M, 0, none⟩)) ∧ W1.heap.size ≤ M ∧ Below W1.heap.size W1 W2 ∧ MAt W2 M bv lm mb av cn ∧ R W1.heap.size W1 W2 bv lm mb av cn) :
    Calls Try.prog 11 #[.int .u16 i, .int .u16 f, .slice qa qn qk, .slice la n lc, .int .u16 qt, .int .u16 qc, .bool ed, .int .u16 pl, .int .u16 ef, .int .u8 ev, .int .i64 size] w fun e w' =>
      ∃ bv lm mb av cn W1 W2, e = .returned (.tuple #[bv, .int .i64 lm, .map (some mb), av, .agg #[.int .u16 cn, .int .u16 0, .int .u16 0, .int .u16 0], .int .i64 1, .bool false, .bool false]) ∧ w.heap.size + 1 < W1.heap.size ∧ Below w.heap.size w W1 ∧ Below W1.heap.size W1 W2 ∧
        R W1.heap.size W1 W2 bv lm mb av cn ∧ ∃ m, w' = ((((W2.setCell ⟨w.heap.size, 0, none⟩ (.int .u16 cn)).setCell ⟨w.heap.size, 1, none⟩ (.int .u16 0)).setCell ⟨w.heap.size, 2, none⟩ (.int .u16 0)).setCell ⟨w.heap.size, 3, none⟩ (.int .u16 0)).drewN m := by
  go_enter Try.func11, Try.ntmps11
  go_upto_region 2 with fail
  have hQ := qat w i f qt qc pl ef ev ed (.slice qa qn qk) (.slice la n lc)
  have HB1 : Hid (Below w.heap.size w ((w.alloc ZObj).alloc (QObj i f qt qc pl ef ev ed (.slice qa qn qk) (.slice la n lc)))) := ((Below.refl _ _).alloc (Nat.le_refl _) _).alloc (by simp) _
  have HZ1 : Hid (((w.alloc ZObj).alloc (QObj i f qt qc pl ef ev ed (.slice qa qn qk) (.slice la n lc))).heap[w.heap.size]? = some ZObj) := by
    unfold Hid
    rw [heap_alloc_old _ _ (by simp)]; exact heap_alloc_new _ _
  generalize (w.alloc ZObj).alloc (QObj i f qt qc pl ef ev ed (.slice qa qn qk) (.slice la n lc)) = W1 at *
  have hs1 : w.heap.size + 1 < W1.heap.size := hQ.lt
  go_wp2_with fail
  refine (h24 W1 HB1.out hQ).mono ?_
  rintro e W2 ⟨M, bv, lm, mb, av, cn, rfl, hM, hb2, hMA, hR⟩
  have HB : Hid (Below W1.heap.size W1 W2) := hb2
  have HR : Hid _ := hR
  have HMA : Hid (MAt W2 M bv lm mb av cn) := hMA
  have HZ2 : Hid (W2.heap[w.heap.size]? = some ZObj) := (hb2.block _ (by omega)).trans HZ1.out
  clear hb2 hR hMA hQ HZ1 h24
  have hMs : w.heap.size ≠ M := by omega
  go_upto_region 5 with fail
  have c0 := HMA.out.c0
  have c1 := HMA.out.c1
  have c2 := HMA.out.c2
  have c3 := HMA.out.c3
  have c4 := HMA.out.c4
  have c5 := HMA.out.c5
  have c6 := HMA.out.c6
  have c7 := HMA.out.c7
  have c8 := HMA.out.c8
  have c9 := HMA.out.c9
  have c10 := HMA.out.c10
  have z0 : W2.cell? ⟨w.heap.size, 0, none⟩ = some (.int .u16 0) := by have := HZ2.out; simp [World.cell?, this]
  have z1 : W2.cell? ⟨w.heap.size, 1, none⟩ = some (.int .u16 0) := by have := HZ2.out; simp [World.cell?, this]
  have z2 : W2.cell? ⟨w.heap.size, 2, none⟩ = some (.int .u16 0) := by have := HZ2.out; simp [World.cell?, this]
  have z3 : W2.cell? ⟨w.heap.size, 3, none⟩ = some (.int .u16 0) := by have := HZ2.out; simp [World.cell?, this]
  have zf : ∀ j, W2.frozen? ⟨w.heap.size, j, none⟩ = false := fun j => by have := HZ2.out; simp [World.frozen?, this]
  obtain ⟨Wa, hWa⟩ : ∃ Wa, Wa = W2.drew := ⟨_, rfl⟩
  obtain ⟨Wb, hWb⟩ : ∃ Wb, Wb = ((((W2.setCell ⟨w.heap.size, 0, none⟩ (.int .u16 cn)).setCell ⟨w.heap.size, 1, none⟩ (.int .u16 0)).setCell ⟨w.heap.size, 2, none⟩ (.int .u16 0)).setCell ⟨w.heap.size, 3, none⟩ (.int .u16 0)).drew := ⟨_, rfl⟩
  have hca : ∀ j : Nat, Wa.cell? ⟨M, j, none⟩ = W2.cell? ⟨M, j, none⟩ := fun j => by rw [hWa]; rfl
  have hcb : ∀ j : Nat, Wb.cell? ⟨M, j, none⟩ = W2.cell? ⟨M, j, none⟩ := fun j => by
    have hx : ∀ (X : World) (a : Nat) (u : Value), (X.setCell ⟨w.heap.size, a, none⟩ u).cell? ⟨M, j, none⟩ = X.cell? ⟨M, j, none⟩ := fun X a u => World.cell?_setCell_other _ _ _ _ (by intro e; injection e with e _ _; exact hMs e)
    rw [hWb]
    show ((((W2.setCell _ _).setCell _ _).setCell _ _).setCell _ _).cell? _ = _
    rw [hx, hx, hx, hx]
  have a0 := (hca 0).trans c0
  have b0 := (hcb 0).trans c0
  have a1 := (hca 1).trans c1
  have b1 := (hcb 1).trans c1
  have a2 := (hca 2).trans c2
  have b2 := (hcb 2).trans c2
  have a3 := (hca 3).trans c3
  have b3 := (hcb 3).trans c3
  have a4 := (hca 4).trans c4
  have b4 := (hcb 4).trans c4
  have a5 := (hca 5).trans c5
  have b5 := (hcb 5).trans c5
  have a6 := (hca 6).trans c6
  have b6 := (hcb 6).trans c6
  have a7 := (hca 7).trans c7
  have b7 := (hcb 7).trans c7
  have a8 := (hca 8).trans c8
  have b8 := (hcb 8).trans c8
  have a9 := (hca 9).trans c9
  have b9 := (hcb 9).trans c9
  have a10 := (hca 10).trans c10
  have b10 := (hcb 10).trans c10
  clear hca hcb c0 c1 c2 c3 c4 c5 c6 c7 c8 c9 c10
  refine wp_region_det { tmps := #[Value.int IntKind.u16 i, Value.int IntKind.u16 f, Value.slice qa qn qk, Value.slice la n lc, Value.int IntKind.u16 qt, Value.int IntKind.u16 qc, Value.bool ed, Value.int IntKind.u16 pl, Value.int IntKind.u16 ef, Value.int IntKind.u8 ev, Value.int IntKind.i64 size, undef, undef, undef, undef, undef, undef, undef, undef, undef, undef, undef, bv, Value.int .i64 lm, Value.map (some mb), av, Value.pointer (some { block := w.heap.size, off := 0 }), Value.int .i64 1, Value.bool false, Value.bool false, Value.pointer (some { block := w.heap.size + 1, off := 0 }), Value.pointer (some { block := M, off := 0 }), Value.int IntKind.u16 i, Value.int IntKind.u16 f, Value.slice qa qn qk, Value.slice la n lc, Value.int IntKind.u16 qt, Value.int IntKind.u16 qc, Value.bool ed, Value.int IntKind.u16 pl, Value.int IntKind.u16 ef, Value.int IntKind.u8 ev, Value.agg #[Value.int IntKind.u16 i, Value.int IntKind.u16 f, Value.slice qa qn qk, Value.slice la n lc, Value.int IntKind.u16 qt, Value.int IntKind.u16 qc, Value.bool ed, Value.int IntKind.u16 pl, Value.int IntKind.u16 ef, Value.int IntKind.u8 ev], Value.pointer (some { block := w.heap.size + 1, off := 0 }), Value.pointer (some { block := w.heap.size + 1, off := 0 }), Value.int IntKind.i64 size, Value.pointer (some { block := M, off := 0 }), Value.pointer (some { block := M, off := 0 }), Value.bool false, undef, Value.pointer (some ⟨M, 0, none⟩), Value.pointer (some ⟨M, 0, none⟩), Value.pointer (some ⟨M, 0, none⟩), bv, Value.pointer (some ⟨M, 0, none⟩), Value.pointer (some ⟨M, 0, none⟩), Value.pointer (some ⟨M, 1, none⟩), Value.int .i64 lm, Value.pointer (some ⟨M, 0, none⟩), Value.pointer (some ⟨M, 0, none⟩), Value.pointer (some ⟨M, 2, none⟩), Value.map (some mb), Value.pointer (some ⟨M, 0, none⟩), Value.pointer (some ⟨M, 0, none⟩), Value.pointer (some ⟨M, 3, none⟩), av, Value.pointer (some ⟨M, 0, none⟩), Value.pointer (some ⟨M, 0, none⟩), Value.pointer (some ⟨M, 4, none⟩), Value.agg #[Value.int .u16 cn, Value.int .u16 0, Value.int .u16 0, Value.int .u16 0], Value.pointer (some ⟨M, 0, none⟩), Value.pointer (some ⟨M, 0, none⟩), Value.pointer (some ⟨M, 8, none⟩), Value.int .i64 1, Value.pointer (some ⟨M, 0, none⟩), Value.pointer (some ⟨M, 0, none⟩), Value.pointer (some ⟨M, 9, none⟩), Value.bool false, Value.pointer (some ⟨M, 0, none⟩), Value.pointer (some ⟨M, 0, none⟩), Value.pointer (some ⟨M, 10, none⟩), Value.bool false], defers := [] } Wa Wb 36 hWa.symm (by kernel_rfl) (by kernel_rfl) rfl rfl ?_ ?_ ?_ ?_
  · intro k hk
    match k, hk with
    | 0, _ => rfl
    | 1, _ => rfl
    | 2, _ => rfl
    | 3, _ => rfl
    | 4, _ => rfl
    | 5, _ => rfl
    | 6, _ => rfl
    | 7, _ => rfl
    | 8, _ => rfl
    | 9, _ => rfl
    | 10, _ => rfl
    | 11, _ => rfl
    | 12, _ => rfl
    | 13, _ => rfl
    | 14, _ => rfl
    | 15, _ => rfl
    | 16, _ => rfl
    | 17, _ => rfl
    | 18, _ => rfl
    | 19, _ => rfl
    | 20, _ => rfl
    | 21, _ => rfl
    | 22, hk => exact absurd rfl (hk 32 _ rfl)
    | 23, hk => exact absurd rfl (hk 33 _ rfl)
    | 24, hk => exact absurd rfl (hk 34 _ rfl)
    | 25, hk => exact absurd rfl (hk 35 _ rfl)
    | 26, _ => rfl
    | 27, hk => exact absurd rfl (hk 37 _ rfl)
    | 28, hk => exact absurd rfl (hk 38 _ rfl)
    | 29, hk => exact absurd rfl (hk 39 _ rfl)
    | 30, _ => rfl
    | 31, _ => rfl
    | 32, _ => rfl
    | 33, _ => rfl
    | 34, _ => rfl
    | 35, _ => rfl
    | 36, _ => rfl
    | 37, _ => rfl
    | 38, _ => rfl
    | 39, _ => rfl
    | 40, _ => rfl
    | 41, _ => rfl
    | 42, _ => rfl
    | 43, _ => rfl
    | 44, _ => rfl
    | 45, _ => rfl
    | 46, _ => rfl
    | 47, _ => rfl
    | 48, _ => rfl
    | 49, _ => rfl
    | 50, hk => exact absurd rfl (hk 0 _ rfl)
    | 51, hk => exact absurd rfl (hk 1 _ rfl)
    | 52, hk => exact absurd rfl (hk 2 _ rfl)
    | 53, hk => exact absurd rfl (hk 3 _ rfl)
    | 54, hk => exact absurd rfl (hk 4 _ rfl)
    | 55, hk => exact absurd rfl (hk 5 _ rfl)
    | 56, hk => exact absurd rfl (hk 6 _ rfl)
    | 57, hk => exact absurd rfl (hk 7 _ rfl)
    | 58, hk => exact absurd rfl (hk 8 _ rfl)
    | 59, hk => exact absurd rfl (hk 9 _ rfl)
    | 60, hk => exact absurd rfl (hk 10 _ rfl)
    | 61, hk => exact absurd rfl (hk 11 _ rfl)
    | 62, hk => exact absurd rfl (hk 12 _ rfl)
    | 63, hk => exact absurd rfl (hk 13 _ rfl)
    | 64, hk => exact absurd rfl (hk 14 _ rfl)
    | 65, hk => exact absurd rfl (hk 15 _ rfl)
    | 66, hk => exact absurd rfl (hk 16 _ rfl)
    | 67, hk => exact absurd rfl (hk 17 _ rfl)
    | 68, hk => exact absurd rfl (hk 18 _ rfl)
    | 69, hk => exact absurd rfl (hk 19 _ rfl)
    | 70, hk => exact absurd rfl (hk 20 _ rfl)
    | 71, hk => exact absurd rfl (hk 21 _ rfl)
    | 72, hk => exact absurd rfl (hk 22 _ rfl)
    | 73, hk => exact absurd rfl (hk 23 _ rfl)
    | 74, hk => exact absurd rfl (hk 24 _ rfl)
    | 75, hk => exact absurd rfl (hk 25 _ rfl)
    | 76, hk => exact absurd rfl (hk 26 _ rfl)
    | 77, hk => exact absurd rfl (hk 27 _ rfl)
    | 78, hk => exact absurd rfl (hk 28 _ rfl)
    | 79, hk => exact absurd rfl (hk 29 _ rfl)
    | 80, hk => exact absurd rfl (hk 30 _ rfl)
    | 81, hk => exact absurd rfl (hk 31 _ rfl)
    | k + 82, _ => rfl
  · intro j oj hj hne wx hwx
    have x0 := (show wx.cell? ⟨M, 0, none⟩ = Wa.cell? ⟨M, 0, none⟩ from by rcases hwx with h | h <;> rw [h]; rw [a0, b0]).trans a0
    have x1 := (show wx.cell? ⟨M, 1, none⟩ = Wa.cell? ⟨M, 1, none⟩ from by rcases hwx with h | h <;> rw [h]; rw [a1, b1]).trans a1
    have x2 := (show wx.cell? ⟨M, 2, none⟩ = Wa.cell? ⟨M, 2, none⟩ from by rcases hwx with h | h <;> rw [h]; rw [a2, b2]).trans a2
    have x3 := (show wx.cell? ⟨M, 3, none⟩ = Wa.cell? ⟨M, 3, none⟩ from by rcases hwx with h | h <;> rw [h]; rw [a3, b3]).trans a3
    have x4 := (show wx.cell? ⟨M, 4, none⟩ = Wa.cell? ⟨M, 4, none⟩ from by rcases hwx with h | h <;> rw [h]; rw [a4, b4]).trans a4
    have x5 := (show wx.cell? ⟨M, 5, none⟩ = Wa.cell? ⟨M, 5, none⟩ from by rcases hwx with h | h <;> rw [h]; rw [a5, b5]).trans a5
    have x6 := (show wx.cell? ⟨M, 6, none⟩ = Wa.cell? ⟨M, 6, none⟩ from by rcases hwx with h | h <;> rw [h]; rw [a6, b6]).trans a6
    have x7 := (show wx.cell? ⟨M, 7, none⟩ = Wa.cell? ⟨M, 7, none⟩ from by rcases hwx with h | h <;> rw [h]; rw [a7, b7]).trans a7
    have x8 := (show wx.cell? ⟨M, 8, none⟩ = Wa.cell? ⟨M, 8, none⟩ from by rcases hwx with h | h <;> rw [h]; rw [a8, b8]).trans a8
    have x9 := (show wx.cell? ⟨M, 9, none⟩ = Wa.cell? ⟨M, 9, none⟩ from by rcases hwx with h | h <;> rw [h]; rw [a9, b9]).trans a9
    have x10 := (show wx.cell? ⟨M, 10, none⟩ = Wa.cell? ⟨M, 10, none⟩ from by rcases hwx with h | h <;> rw [h]; rw [a10, b10]).trans a10
    clear hWa hWb hwx a0 b0 a1 b1 a2 b2 a3 b3 a4 b4 a5 b5 a6 b6 a7 b7 a8 b8 a9 b9 a10 b10 z0 z1 z2 z3 zf
    match j, hj, hne with
    | 0, hj, _ => (obtain rfl := Option.some.inj hj.symm; exact ⟨Value.pointer (some ⟨M, 0, none⟩), by rfl, fun d hd => by injection hd with hd; subst hd; rfl⟩)
    | 1, hj, _ => (obtain rfl := Option.some.inj hj.symm; exact ⟨Value.pointer (some ⟨M, 0, none⟩), by rfl, fun d hd => by injection hd with hd; subst hd; rfl⟩)
    | 2, hj, _ => (obtain rfl := Option.some.inj hj.symm; exact ⟨Value.pointer (some ⟨M, 0, none⟩), by go_simp, fun d hd => by injection hd with hd; subst hd; rfl⟩)
    | 3, hj, _ => (obtain rfl := Option.some.inj hj.symm; exact ⟨bv, by go_simp, fun d hd => by injection hd with hd; subst hd; rfl⟩)
    | 4, hj, _ => (obtain rfl := Option.some.inj hj.symm; exact ⟨Value.pointer (some ⟨M, 0, none⟩), by rfl, fun d hd => by injection hd with hd; subst hd; rfl⟩)
    | 5, hj, _ => (obtain rfl := Option.some.inj hj.symm; exact ⟨Value.pointer (some ⟨M, 0, none⟩), by rfl, fun d hd => by injection hd with hd; subst hd; rfl⟩)
    | 6, hj, _ => (obtain rfl := Option.some.inj hj.symm; exact ⟨Value.pointer (some ⟨M, 1, none⟩), by go_simp, fun d hd => by injection hd with hd; subst hd; rfl⟩)
    | 7, hj, _ => (obtain rfl := Option.some.inj hj.symm; exact ⟨Value.int .i64 lm, by go_simp, fun d hd => by injection hd with hd; subst hd; rfl⟩)
    | 8, hj, _ => (obtain rfl := Option.some.inj hj.symm; exact ⟨Value.pointer (some ⟨M, 0, none⟩), by rfl, fun d hd => by injection hd with hd; subst hd; rfl⟩)
    | 9, hj, _ => (obtain rfl := Option.some.inj hj.symm; exact ⟨Value.pointer (some ⟨M, 0, none⟩), by rfl, fun d hd => by injection hd with hd; subst hd; rfl⟩)
    | 10, hj, _ => (obtain rfl := Option.some.inj hj.symm; exact ⟨Value.pointer (some ⟨M, 2, none⟩), by go_simp, fun d hd => by injection hd with hd; subst hd; rfl⟩)
    | 11, hj, _ => (obtain rfl := Option.some.inj hj.symm; exact ⟨Value.map (some mb), by go_simp, fun d hd => by injection hd with hd; subst hd; rfl⟩)
    | 12, hj, _ => (obtain rfl := Option.some.inj hj.symm; exact ⟨Value.pointer (some ⟨M, 0, none⟩), by rfl, fun d hd => by injection hd with hd; subst hd; rfl⟩)
    | 13, hj, _ => (obtain rfl := Option.some.inj hj.symm; exact ⟨Value.pointer (some ⟨M, 0, none⟩), by rfl, fun d hd => by injection hd with hd; subst hd; rfl⟩)
    | 14, hj, _ => (obtain rfl := Option.some.inj hj.symm; exact ⟨Value.pointer (some ⟨M, 3, none⟩), by go_simp, fun d hd => by injection hd with hd; subst hd; rfl⟩)
    | 15, hj, _ => (obtain rfl := Option.some.inj hj.symm; exact ⟨av, by go_simp, fun d hd => by injection hd with hd; subst hd; rfl⟩)
    | 16, hj, _ => (obtain rfl := Option.some.inj hj.symm; exact ⟨Value.pointer (some ⟨M, 0, none⟩), by rfl, fun d hd => by injection hd with hd; subst hd; rfl⟩)
    | 17, hj, _ => (obtain rfl := Option.some.inj hj.symm; exact ⟨Value.pointer (some ⟨M, 0, none⟩), by rfl, fun d hd => by injection hd with hd; subst hd; rfl⟩)
    | 18, hj, _ => (obtain rfl := Option.some.inj hj.symm; exact ⟨Value.pointer (some ⟨M, 4, none⟩), by go_simp, fun d hd => by injection hd with hd; subst hd; rfl⟩)
    | 19, hj, _ => (obtain rfl := Option.some.inj hj.symm; exact ⟨Value.agg #[Value.int .u16 cn, Value.int .u16 0, Value.int .u16 0, Value.int .u16 0], by go_simp, fun d hd => by injection hd with hd; subst hd; rfl⟩)
    | 20, hj, _ => (obtain rfl := Option.some.inj hj.symm; exact ⟨Value.pointer (some ⟨M, 0, none⟩), by rfl, fun d hd => by injection hd with hd; subst hd; rfl⟩)
    | 21, hj, _ => (obtain rfl := Option.some.inj hj.symm; exact ⟨Value.pointer (some ⟨M, 0, none⟩), by rfl, fun d hd => by injection hd with hd; subst hd; rfl⟩)
    | 22, hj, _ => (obtain rfl := Option.some.inj hj.symm; exact ⟨Value.pointer (some ⟨M, 8, none⟩), by go_simp, fun d hd => by injection hd with hd; subst hd; rfl⟩)
    | 23, hj, _ => (obtain rfl := Option.some.inj hj.symm; exact ⟨Value.int .i64 1, by go_simp, fun d hd => by injection hd with hd; subst hd; rfl⟩)
    | 24, hj, _ => (obtain rfl := Option.some.inj hj.symm; exact ⟨Value.pointer (some ⟨M, 0, none⟩), by rfl, fun d hd => by injection hd with hd; subst hd; rfl⟩)
    | 25, hj, _ => (obtain rfl := Option.some.inj hj.symm; exact ⟨Value.pointer (some ⟨M, 0, none⟩), by rfl, fun d hd => by injection hd with hd; subst hd; rfl⟩)
    | 26, hj, _ => (obtain rfl := Option.some.inj hj.symm; exact ⟨Value.pointer (some ⟨M, 9, none⟩), by go_simp, fun d hd => by injection hd with hd; subst hd; rfl⟩)
    | 27, hj, _ => (obtain rfl := Option.some.inj hj.symm; exact ⟨Value.bool false, by go_simp, fun d hd => by injection hd with hd; subst hd; rfl⟩)
    | 28, hj, _ => (obtain rfl := Option.some.inj hj.symm; exact ⟨Value.pointer (some ⟨M, 0, none⟩), by rfl, fun d hd => by injection hd with hd; subst hd; rfl⟩)
    | 29, hj, _ => (obtain rfl := Option.some.inj hj.symm; exact ⟨Value.pointer (some ⟨M, 0, none⟩), by rfl, fun d hd => by injection hd with hd; subst hd; rfl⟩)
    | 30, hj, _ => (obtain rfl := Option.some.inj hj.symm; exact ⟨Value.pointer (some ⟨M, 10, none⟩), by go_simp, fun d hd => by injection hd with hd; subst hd; rfl⟩)
    | 31, hj, _ => (obtain rfl := Option.some.inj hj.symm; exact ⟨Value.bool false, by go_simp, fun d hd => by injection hd with hd; subst hd; rfl⟩)
    | 32, hj, _ => (obtain rfl := Option.some.inj hj.symm; exact ⟨bv, by rfl, fun d hd => by injection hd with hd; subst hd; rfl⟩)
    | 33, hj, _ => (obtain rfl := Option.some.inj hj.symm; exact ⟨Value.int .i64 lm, by rfl, fun d hd => by injection hd with hd; subst hd; rfl⟩)
    | 34, hj, _ => (obtain rfl := Option.some.inj hj.symm; exact ⟨Value.map (some mb), by rfl, fun d hd => by injection hd with hd; subst hd; rfl⟩)
    | 35, hj, _ => (obtain rfl := Option.some.inj hj.symm; exact ⟨av, by rfl, fun d hd => by injection hd with hd; subst hd; rfl⟩)
    | 36, _, hne => exact absurd rfl hne
    | 37, hj, _ => (obtain rfl := Option.some.inj hj.symm; exact ⟨Value.int .i64 1, by rfl, fun d hd => by injection hd with hd; subst hd; rfl⟩)
    | 38, hj, _ => (obtain rfl := Option.some.inj hj.symm; exact ⟨Value.bool false, by rfl, fun d hd => by injection hd with hd; subst hd; rfl⟩)
    | 39, hj, _ => (obtain rfl := Option.some.inj hj.symm; exact ⟨Value.bool false, by rfl, fun d hd => by injection hd with hd; subst hd; rfl⟩)
    | j + 40, hj, _ => cases hj
  · refine ⟨_, rfl, rfl, ?_⟩
    go_simp
  · have hcells : ∀ j : Nat, Wb.cell? ⟨w.heap.size, j, none⟩ = (#[Value.int .u16 cn, Value.int .u16 0, Value.int .u16 0, Value.int .u16 0] : Array Value)[j]? := fun j => by
      have hf := four_same HZ2.out (.int .u16 cn) (.int .u16 0) (.int .u16 0) (.int .u16 0)
      have hg : Wb.heap[w.heap.size]? = some (.cells #[.int .u16 cn, .int .u16 0, .int .u16 0, .int .u16 0] 29 (0, 0)) := by rw [hWb]; exact hf
      simp [World.cell?, hg]
    have y0 : Wb.cell? ⟨w.heap.size, 0, none⟩ = some (.int .u16 cn) := hcells 0
    have y1 : Wb.cell? ⟨w.heap.size, 1, none⟩ = some (.int .u16 0) := hcells 1
    have y2 : Wb.cell? ⟨w.heap.size, 2, none⟩ = some (.int .u16 0) := hcells 2
    have y3 : Wb.cell? ⟨w.heap.size, 3, none⟩ = some (.int .u16 0) := hcells 3
    have HWb : Hid _ := hWb
    clear hcells hWa hWb z0 z1 z2 z3 zf a0 b0 a1 b1 a2 b2 a3 b3 a4 b4 a5 b5 a6 b6 a7 b7 a8 b8 a9 b9 a10 b10
    dsimp only
    go_wp2
    refine bodyPost_ret (v := .tuple #[bv, .int .i64 lm, .map (some mb), av, .agg #[.int .u16 cn, .int .u16 0, .int .u16 0, .int .u16 0], .int .i64 1, .bool false, .bool false]) (by simp [results, Try.results11, go_sem, y0, y1, y2, y3]) rfl ⟨bv, lm, mb, av, cn, W1, W2, rfl, hs1, HB1.out, HB.out, HR.out, 1, HWb.out⟩
end Go.Proofs.Qxb6605469a
