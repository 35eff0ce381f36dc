import Derived.Test.Qxb6604722aAgain
namespace Go.Proofs.Qxb6604722a
open Go.ChangeShapes Go.WideShapes Go.ChangeAt Go.RowKit
open Pl Lx
set_option linter.unusedSimpArgs false
set_option linter.unusedVariables false

/-- The parser's slice of tokens holds this token at this place. -/
def At5 (W : World) (v : Value) (i : Nat) (k p : Int) (tx vl : ByteArray) (n : Int) : Prop :=
  ∃ g len cap, v = .slice (some ⟨g, 0, none⟩) len cap ∧ i < len ∧ g < W.heap.size ∧ W.cell? ⟨g, i * 5, none⟩ = some (.int .i64 k) ∧ W.cell? ⟨g, i * 5 + 1, none⟩ = some (.int .i64 p) ∧ W.cell? ⟨g, i * 5 + 2, none⟩ = some (.string tx) ∧ W.cell? ⟨g, i * 5 + 3, none⟩ = some (.string vl) ∧ W.cell? ⟨g, i * 5 + 4, none⟩ = some (.int .i64 n)

set_option maxHeartbeats 2000000 in
theorem aheadAt_any (W : World) (P : Nat) (v : Value) (i : Nat) (k p n : Int) (tx vl : ByteArray) (hP : P < W.heap.size) (c4 : W.cell? ⟨P, 4, none⟩ = some v) (h : At5 W v i k p tx vl n) :
    Calls Try.prog 25 #[.pointer (some ⟨P, 0, none⟩), .int .i64 i] W fun e w' => e = .returned (.tuple #[.int .i64 k, .int .i64 p, .string tx, .string vl, .int .i64 n]) ∧ Below W.heap.size W w' := by
  obtain ⟨g, len, cap, rfl, hi, hg, d0, d1, d2, d3, d4⟩ := h
  have hi' : (i : Int) < (len : Int) := by omega
  have hi0 : (0 : Int) ≤ (i : Int) := by omega
  go_enter Try.func25, Try.ntmps25
  go_wp2
  go_quiet (fail)
  go_wp2
  refine bodyPost_ret (v := .tuple #[.int .i64 k, .int .i64 p, .string tx, .string vl, .int .i64 n]) (by simp [results, Try.results25, go_sem]) rfl ⟨rfl, ?_⟩
  exact below_drewN ((Below.refl _ _).alloc (Nat.le_refl _) _) _

set_option maxHeartbeats 2000000 in
theorem state_any {W : World} {P : Nat} {src : ByteArray} {pos : Nat} {mk : Bool} {md : Int} {a : Option Addr} {cap n : Nat} {xs : List Value} {ip : Int} {fin : Bool} {en : Int} (h : PAt W P src pos mk md (.slice a n cap) n xs ip fin en) :
    Calls Try.prog 20 #[.pointer (some ⟨P, 0, none⟩)] W fun e w' => e = .returned (.tuple #[.int .i64 ip, .int .i64 n, .int .i64 en]) ∧ ∃ m, w' = W.drewN m := by
  have c4 := h.c4
  have c5 := h.c5
  have c7 := h.c7
  go_enter Try.func20, Try.ntmps20
  go_wp2_with fail
  go_quiet (fail)
  go_wp2
  refine bodyPost_ret (v := .tuple #[.int .i64 ip, .int .i64 n, .int .i64 en]) (by simp [results, Try.results20, go_sem]) rfl ⟨rfl, _, rfl⟩

theorem At5.below {W W' : World} {v : Value} {i : Nat} {k p n : Int} {tx vl : ByteArray} (h : At5 W v i k p tx vl n) (hb : Below W.heap.size W W') : At5 W' v i k p tx vl n := by
  obtain ⟨g, len, cap, rfl, hi, hg, d0, d1, d2, d3, d4⟩ := h
  exact ⟨g, len, cap, rfl, hi, Nat.lt_of_lt_of_le hg hb.size, (hb.cell (by exact hg)).trans d0, (hb.cell (by exact hg)).trans d1, (hb.cell (by exact hg)).trans d2, (hb.cell (by exact hg)).trans d3, (hb.cell (by exact hg)).trans d4⟩

theorem PAt.below {W : World} {P : Nat} {src : ByteArray} {pos : Nat} {mk : Bool} {md : Int} {v : Value} {n : Nat} {xs : List Value} {ip : Int} {fin : Bool} {en : Int} (h : PAt W P src pos mk md v n xs ip fin en) {W' : World} (hb : Below W.heap.size W W') : PAt W' P src pos mk md v n xs ip fin en := by
  have hP := h.lex.lt
  have hc : ∀ j : Nat, W'.cell? ⟨P, j, none⟩ = W.cell? ⟨P, j, none⟩ := fun j => hb.cell (by exact hP)
  refine ⟨h.lex.below hb hP, (hc _).trans h.c4, (hc _).trans h.c5, (hc _).trans h.c6, (hc _).trans h.c7, ?_⟩
  obtain ⟨h1, h2 | ⟨g, cap, cur, hv, hg, hcur, hr⟩⟩ := h.own
  · exact ⟨h1, .inl h2⟩
  · have hgl : g < W.heap.size := (Array.getElem?_eq_some_iff.1 hcur).1
    exact ⟨h1, .inr ⟨g, cap, cur, hv, hg, (hb.block g hgl).trans hcur, hr⟩⟩

set_option maxRecDepth 20000 in
set_option maxHeartbeats 2000000 in
theorem shown_any {W : World} {P : Nat} {src : ByteArray} {pos : Nat} {mk : Bool} {md : Int} {v : Value} {len : Nat} {xs : List Value} {fin : Bool} {en : Int} (i : Nat) (k p n : Int) (tx vl : ByteArray) (h : PAt W P src pos mk md v len xs i fin en) (hi : i < len) (ha : At5 W v i k p tx vl n) :
    Calls Try.prog 18 #[.pointer (some ⟨P, 0, none⟩)] W fun e w' => e = .returned (.tuple #[tkV k p tx vl n, .bool true]) ∧ Below W.heap.size W w' := by
  obtain ⟨a, cap, rfl⟩ := h.shape
  have HA : Hid (PAt W P src pos mk md (.slice a len cap) len xs i fin en) := h
  have H5 : Hid (At5 W (.slice a len cap) i k p tx vl n) := ha
  have hP : P < W.heap.size := h.lex.lt
  clear h ha
  have hi1 : ¬ (i : Int) < 0 := by omega
  have hd1 : decide ((i : Int) < 0) = false := decide_eq_false hi1
  have hi2 : ¬ (len : Int) ≤ (i : Int) := by omega
  have hd2 : decide ((len : Int) ≤ (i : Int)) = false := decide_eq_false (by omega)
  go_enter Try.func18, Try.ntmps18
  go_upto_region 1 with fail
  have hB1 : Below W.heap.size W (W.alloc (.cells #[.int .i64 0, .int .i64 0, .string ⟨#[]⟩, .string ⟨#[]⟩, .int .i64 0] 35)) := (Below.refl _ _).alloc (Nat.le_refl _) _
  have HB1 : Hid (Below (W.heap.size + 1) (W.alloc (.cells #[.int .i64 0, .int .i64 0, .string ⟨#[]⟩, .string ⟨#[]⟩, .int .i64 0] 35)) (W.alloc (.cells #[.int .i64 0, .int .i64 0, .string ⟨#[]⟩, .string ⟨#[]⟩, .int .i64 0] 35))) := Below.refl _ _
  go_wp2_with fail
  refine (state_any (HA.out.alloc _)).mono ?_
  rintro e w1 ⟨rfl, m, rfl⟩
  go_wp2_with fail
  refine (aheadAt_any _ P _ i k p n tx vl (by simp; omega) ((HA.out.alloc _).drewN m).c4 ((H5.out.below hB1).below (below_drewN (Below.refl _ _) m))).mono ?_
  rintro e w2 ⟨rfl, hb2⟩
  have hb3 : Below (W.heap.size + 1) (W.alloc (.cells #[.int .i64 0, .int .i64 0, .string ⟨#[]⟩, .string ⟨#[]⟩, .int .i64 0] 35)) w2 := (below_drewN (Below.refl _ _) m).trans (hb2.mono (by simp))
  have hbk : w2.heap[W.heap.size]? = some (.cells #[.int .i64 0, .int .i64 0, .string ⟨#[]⟩, .string ⟨#[]⟩, .int .i64 0] 35) := (hb3.block _ (by omega)).trans (heap_alloc_new W _)
  have t0 : w2.cell? ⟨W.heap.size, 0, none⟩ = some (.int .i64 0) := by simp [World.cell?, hbk]
  have t1 : w2.cell? ⟨W.heap.size, 1, none⟩ = some (.int .i64 0) := by simp [World.cell?, hbk]
  have t2 : w2.cell? ⟨W.heap.size, 2, none⟩ = some (.string ⟨#[]⟩) := by simp [World.cell?, hbk]
  have t3 : w2.cell? ⟨W.heap.size, 3, none⟩ = some (.string ⟨#[]⟩) := by simp [World.cell?, hbk]
  have t4 : w2.cell? ⟨W.heap.size, 4, none⟩ = some (.int .i64 0) := by simp [World.cell?, hbk]
  have tf : ∀ j, w2.frozen? ⟨W.heap.size, j, none⟩ = false := fun j => by simp [World.frozen?, hbk]
  have HB3 : Hid (Below W.heap.size W w2) := hB1.trans (hb3.mono (by omega))
  clear hb2 hb3 hbk hB1 HB1
  go_wp2
  refine bodyPost_ret (v := .tuple #[tkV k p tx vl n, .bool true]) (by simp [results, Try.results18, go_sem, tkV, t0, t1, t2, t3, t4]) rfl ⟨rfl, ?_⟩
  exact Below.five HB3.out (Nat.le_refl _) _ _ _ _ _

set_option maxRecDepth 20000 in
set_option maxHeartbeats 2000000 in
theorem peek_any {W : World} {P : Nat} {src : ByteArray} {pos : Nat} {mk : Bool} {md : Int} {v : Value} {len : Nat} {xs : List Value} {fin : Bool} {en : Int} (i : Nat) (k p n : Int) (tx vl : ByteArray) (h : PAt W P src pos mk md v len xs i fin en) (ha : At5 W v i k p tx vl n) :
    Calls Try.prog 34 #[.pointer (some ⟨P, 0, none⟩)] W fun e w' => e = .returned (tkV k p tx vl n) ∧ Below W.heap.size W w' := by
  obtain ⟨g, len, cap, rfl, hi, hg, d0, d1, d2, d3, d4⟩ := ha
  have hP : P < W.heap.size := h.lex.lt
  have c4 := h.c4
  have c5 := h.c5
  clear h
  have hi' : (i : Int) < (len : Int) := by omega
  have hi0 : (0 : Int) ≤ (i : Int) := by omega
  go_enter Try.func34, Try.ntmps34
  go_wp2_with fail
  go_region
  all_goals (try go_wp2_with fail)
  all_goals
    refine bodyPost_ret (v := tkV k p tx vl n) (by simp [results, Try.results34, go_sem, tkV]) rfl ⟨rfl, ?_⟩
    exact below_drewN ((Below.refl _ _).alloc (Nat.le_refl _) _) 1
end Go.Proofs.Qxb6604722a
