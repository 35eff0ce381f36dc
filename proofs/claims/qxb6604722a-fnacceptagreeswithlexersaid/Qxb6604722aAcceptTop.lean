import Derived.Test.Qxb6604722aShow
import Derived.OpenShut
set_option linter.unusedSimpArgs false
set_option linter.unusedVariables false
namespace Go.Proofs.Qxb6604722a
open Go.ChangeShapes Go.WideShapes Go.ChangeAt Go.RowKit
open Pl Lx

/-- A token as the law keeps it. -/
def TB (W : World) (B : Nat) (k p : Int) (tx vl : ByteArray) (n : Int) : Prop := W.heap[B]? = some (.cells #[.int .i64 k, .int .i64 p, .string tx, .string vl, .int .i64 n] 35 (0, 0))
section
variable {W W' : World} {B : Nat} {k p : Int} {tx vl : ByteArray} {n : Int}
theorem TB.lt (h : TB W B k p tx vl n) : B < W.heap.size := (Array.getElem?_eq_some_iff.1 h).1
theorem TB.c0 (h : TB W B k p tx vl n) : W.cell? ⟨B, 0, none⟩ = some (.int .i64 k) := by unfold TB at h; simp [World.cell?, h]
theorem TB.c1 (h : TB W B k p tx vl n) : W.cell? ⟨B, 1, none⟩ = some (.int .i64 p) := by unfold TB at h; simp [World.cell?, h]
theorem TB.c2 (h : TB W B k p tx vl n) : W.cell? ⟨B, 2, none⟩ = some (.string tx) := by unfold TB at h; simp [World.cell?, h]
theorem TB.c3 (h : TB W B k p tx vl n) : W.cell? ⟨B, 3, none⟩ = some (.string vl) := by unfold TB at h; simp [World.cell?, h]
theorem TB.c4 (h : TB W B k p tx vl n) : W.cell? ⟨B, 4, none⟩ = some (.int .i64 n) := by unfold TB at h; simp [World.cell?, h]
theorem TB.fr (h : TB W B k p tx vl n) (j : Nat) : W.frozen? ⟨B, j, none⟩ = false := by unfold TB at h; simp [World.frozen?, h]
theorem TB.below (h : TB W B k p tx vl n) {C : Nat} (hb : Below C W W') (hC : B < C) : TB W' B k p tx vl n := (hb.block _ hC).trans h
theorem TB.other (h : TB W B k p tx vl n) {X : Nat} (hX : B ≠ X) (a b c d e : Value) : TB (((((W.setCell ⟨X, 0, none⟩ a).setCell ⟨X, 1, none⟩ b).setCell ⟨X, 2, none⟩ c).setCell ⟨X, 3, none⟩ d).setCell ⟨X, 4, none⟩ e) B k p tx vl n := by
  unfold TB at h ⊢
  rw [Below.heap_setCell _ _ _ _ hX, Below.heap_setCell _ _ _ _ hX, Below.heap_setCell _ _ _ _ hX, Below.heap_setCell _ _ _ _ hX, Below.heap_setCell _ _ _ _ hX]
  exact h
theorem TB.store (h : TB W B k p tx vl n) (k' p' n' : Int) (tx' vl' : ByteArray) : TB (((((W.setCell ⟨B, 0, none⟩ (.int .i64 k')).setCell ⟨B, 1, none⟩ (.int .i64 p')).setCell ⟨B, 2, none⟩ (.string tx')).setCell ⟨B, 3, none⟩ (.string vl')).setCell ⟨B, 4, none⟩ (.int .i64 n')) B k' p' tx' vl' n' := by
  unfold TB at h ⊢
  have h0 := heap_setCell_same W B 0 _ 35 (.int .i64 k') h
  have h1 := heap_setCell_same _ B 1 _ 35 (.int .i64 p') h0
  have h2 := heap_setCell_same _ B 2 _ 35 (.string tx') h1
  have h3 := heap_setCell_same _ B 3 _ 35 (.string vl') h2
  have h4 := heap_setCell_same _ B 4 _ 35 (.int .i64 n') h3
  rw [h4]; rfl
theorem TB.new (W : World) (k p n : Int) (tx vl : ByteArray) : TB (W.alloc (.cells #[.int .i64 k, .int .i64 p, .string tx, .string vl, .int .i64 n] 35)) W.heap.size k p tx vl n := heap_alloc_new _ _
theorem TB.alloc (h : TB W B k p tx vl n) (o : Obj) : TB (W.alloc o) B k p tx vl n := (heap_alloc_old _ _ h.lt).trans h
end
theorem TB.lexed {W W' : World} {B : Nat} {k p : Int} {tx vl : ByteArray} {n : Int} (h : TB W B k p tx vl n) {L o p' : Nat} {md : Int} (hm : LM W W' L o p' md) (hL : B ≠ L) : TB W' B k p tx vl n := by
  unfold TB
  rw [Below.block hm B h.lt, Below.heap_setCell _ _ _ _ hL, Below.heap_setCell _ _ _ _ hL]
  exact h
theorem empt (t : ByteArray) : ((⟨#[]⟩ : ByteArray).toList == t.toList) = t.toList.isEmpty := by
  have e : (⟨#[]⟩ : ByteArray).toList = [] := by simp
  rw [e]
  cases t.toList <;> rfl
theorem wz : wrap64 0 = 0 := by unfold wrap64; decide
theorem size_alloc (W : World) (o : Obj) : (W.alloc o).heap.size = W.heap.size + 1 := by simp

set_option maxRecDepth 20000 in
set_option maxHeartbeats 4000000 in
theorem accept_main (src text : ByteArray) (mk : Bool) (kind : Int) (w : World) (hs : src.size + text.size ≤ 1048576) :
    Calls Try.prog 5 #[.string src, .bool mk, .int .i64 kind, .string text] w fun e w' => e = .returned (.bool true) ∧ Below w.heap.size w w' := by
  obtain ⟨k1, p1, x1, y1, n1, ht1⟩ := stT_form src mk 0
  obtain ⟨k2, p2, x2, y2, n2, ht2⟩ := stT_form src mk 1
  have HN1 : Hid ((nx src mk 0 ((0 : Nat))).1 = tkV k1 p1 x1 y1 n1) := ht1
  have HN2 : Hid ((nx src mk (stS src mk 1).2 (stS src mk 1).1).1 = tkV k2 p2 x2 y2 n2) := ht2
  have HST : Hid _ := stS_bounds src mk 1
  have HF : Hid (∀ P W, Filled src mk P W → Ready W P (if (k1 == 10 || k1 == 0) then zTok else tkV k1 p1 x1 y1 n1) (if (k1 == 10 || k1 == 0) then zTok else if (k2 == 10 || k2 == 0) then zTok else tkV k2 p2 x2 y2 n2)) := by
    intro P W h
    have := filled_ready h
    rw [ht1, ht2] at this
    exact this
  clear ht1 ht2
  go_enter Try.func5, Try.ntmps5
  go_upto_region 8 with (go_at_call 14; go_in)
  generalize hW1 : w.alloc (.cells #[.int .i64 0, .int .i64 0, .string ⟨#[]⟩, .string ⟨#[]⟩, .int .i64 0] 35) = W1
  have HT9 : Hid (TB W1 w.heap.size 0 0 ⟨#[]⟩ ⟨#[]⟩ 0) := by rw [← hW1]; exact TB.new w 0 0 0 ⟨#[]⟩ ⟨#[]⟩
  have HB1 : Hid (Below w.heap.size w W1) := by rw [← hW1]; exact (Below.refl _ _).alloc (Nat.le_refl _) _
  have HS1 : Hid (W1.heap.size = w.heap.size + 1) := by rw [← hW1]; exact size_alloc _ _
  clear hW1
  go_wp2_with fail
  refine (newLexer0_any src mk W1).mono ?_
  rintro e W2 ⟨rfl, hb2, hL2⟩
  have HL2 : Hid (LexAt W2 W1.heap.size 0 src 0 mk 0) := hL2
  have HB2 : Hid (Below W1.heap.size W1 W2) := hb2
  clear hb2 hL2
  go_wp2_with fail
  refine (lexNext_any W1.heap.size 0 src 0 mk 0 W2 (Nat.zero_le _) (by omega) (by decide) (by decide) HL2.out k1 p1 n1 x1 y1 HN1.out).mono ?_
  rintro e W3 ⟨rfl, hm⟩
  have HL3 : Hid (LexAt W3 W1.heap.size 0 src (stS src mk 1).1 mk (stS src mk 1).2) := LM.lex HL2.out hm
  have HB3 : Hid (Below W1.heap.size W1 W3) := Below.trans (Below.setP (Below.setP HB2.out _ _) _ _) (Below.mono hm (Nat.le_of_lt HL2.out.lt))
  clear hm HB2 HL2 HN1
  have hSz : W1.heap.size = w.heap.size + 1 := HS1.out
  rw [hSz]
  have HL3' : Hid (LexAt W3 (w.heap.size + 1) 0 src (stS src mk 1).1 mk (stS src mk 1).2) := hSz ▸ HL3.out
  have HB3' : Hid (Below (w.heap.size + 1) W1 W3) := hSz ▸ HB3.out
  clear HL3 HB3 hSz HS1
  go_upto_region 11 with fail
  generalize hW4 : W3.alloc (.cells #[.int .i64 k1, .int .i64 p1, .string x1, .string y1, .int .i64 n1] 35) = W4
  have HT16 : Hid (TB W4 W3.heap.size k1 p1 x1 y1 n1) := by rw [← hW4]; exact TB.new W3 k1 p1 n1 x1 y1
  have HB4 : Hid (Below (w.heap.size + 1) W1 W4) := by rw [← hW4]; exact HB3'.out.alloc (Nat.le_of_lt HL3'.out.lt) _
  have HL4 : Hid (LexAt W4 (w.heap.size + 1) 0 src (stS src mk 1).1 mk (stS src mk 1).2) := by rw [← hW4]; exact HL3'.out.alloc _
  have HS4 : Hid (w.heap.size + 1 < W3.heap.size ∧ W4.heap.size = W3.heap.size + 1) := by rw [← hW4]; exact ⟨HL3'.out.lt, size_alloc _ _⟩
  clear hW4 HB3' HL3'
  generalize W3.heap.size = B16 at HT16 HS4 ⊢
  have t9 := HT9.out.below HB4.out (by omega)
  have t90 := t9.c0
  have t91 := t9.c1
  have t92 := t9.c2
  have t93 := t9.c3
  have t94 := t9.c4
  clear t9
  go_upto_region 12 with fail
  clear t90 t91 t92 t93 t94
  generalize hW5 : W4.alloc (.cells #[.int .i64 0, .int .i64 0, .string ⟨#[]⟩, .string ⟨#[]⟩, .int .i64 0] 35) = W5
  have HT17 : Hid (TB W5 (B16 + 1) 0 0 ⟨#[]⟩ ⟨#[]⟩ 0) := by rw [← hW5, ← HS4.out.2]; exact TB.new W4 0 0 0 ⟨#[]⟩ ⟨#[]⟩
  have HT16' : Hid (TB W5 B16 k1 p1 x1 y1 n1) := by rw [← hW5]; exact HT16.out.alloc _
  have HB5 : Hid (Below (w.heap.size + 1) W1 W5) := by rw [← hW5]; exact HB4.out.alloc (by have := HS4.out; omega) _
  have HL5 : Hid (LexAt W5 (w.heap.size + 1) 0 src (stS src mk 1).1 mk (stS src mk 1).2) := by rw [← hW5]; exact HL4.out.alloc _
  have HS5 : Hid (w.heap.size + 1 < B16 ∧ W5.heap.size = B16 + 2) := by rw [← hW5]; exact ⟨HS4.out.1, by rw [size_alloc]; have := HS4.out.2; omega⟩
  have hb16 : w.heap.size + 1 < B16 := HS4.out.1
  rw [HS4.out.2]
  clear hW5 HB4 HL4 HT16 HS4
  go_wp2_with fail
  refine (endsB1_any k1 W5).mono ?_
  rintro e X5 ⟨rfl, rfl⟩
  generalize hE1 : (k1 == 10 || k1 == 0) = E1 at HF ⊢
  have HB5w : Hid (Below w.heap.size w X5) := HB1.out.trans (HB5.out.mono (by omega))
  cases E1
  case true =>
    have HR : Hid (∀ P W, Filled src mk P W → Ready W P (tkV 0 0 ⟨#[]⟩ ⟨#[]⟩ 0) (tkV 0 0 ⟨#[]⟩ ⟨#[]⟩ 0)) := HF
    have t9 := HT9.out.below HB5.out (by omega)
    have t90 := t9.c0
    have t91 := t9.c1
    have t92 := t9.c2
    have t93 := t9.c3
    have t94 := t9.c4
    have s0 := HT16'.out.c0
    have s1 := HT16'.out.c1
    have s2 := HT16'.out.c2
    have s3 := HT16'.out.c3
    have s4 := HT16'.out.c4
    have sf := HT16'.out.fr
    clear t9 HF HN2 HST
    go_upto_region 17 with fail
    generalize hW6 : ((((X5.setCell ⟨B16, 0, none⟩ (.int .i64 0)).setCell ⟨B16, 1, none⟩ (.int .i64 0)).setCell ⟨B16, 2, none⟩ (.string ⟨#[]⟩)).setCell ⟨B16, 3, none⟩ (.string ⟨#[]⟩)).setCell ⟨B16, 4, none⟩ (.int .i64 0) = W6
    have HT6 : Hid (TB W6 B16 0 0 ⟨#[]⟩ ⟨#[]⟩ 0) := by rw [← hW6]; exact HT16'.out.store _ _ _ _ _
    have HU6 : Hid (TB W6 (B16 + 1) 0 0 ⟨#[]⟩ ⟨#[]⟩ 0) := by rw [← hW6]; exact HT17.out.other (by omega) _ _ _ _ _
    have HB6w : Hid (Below w.heap.size w W6) := by rw [← hW6]; exact Below.five HB5w.out (by omega) _ _ _ _ _
    clear hW6 HB5 HB5w HT16' HT17 HL5 HS5 HT9 HB1 t90 t91 t92 t93 t94 s0 s1 s2 s3 s4 sf
    go_wp2_with fail
    have hB6 : B16 + 1 < W6.heap.size := HU6.out.lt
    refine (newParser_any src mk W6 (by omega)).mono ?_
    rintro e W7 ⟨rfl, hb7, hf⟩
    have HR7 : Hid (Ready W7 W6.heap.size (tkV 0 0 ⟨#[]⟩ ⟨#[]⟩ 0) (tkV 0 0 ⟨#[]⟩ ⟨#[]⟩ 0)) := HR.out _ _ hf
    have HT7 : Hid (TB W7 B16 0 0 ⟨#[]⟩ ⟨#[]⟩ 0) := HT6.out.below hb7 (by omega)
    have HU7 : Hid (TB W7 (B16 + 1) 0 0 ⟨#[]⟩ ⟨#[]⟩ 0) := HU6.out.below hb7 (by omega)
    have HB7w : Hid (Below w.heap.size w W7) := HB6w.out.trans (hb7.mono HB6w.out.size)
    have hP6 : W6.heap.size < W7.heap.size := HR7.out.shows.lt
    have hw6 : w.heap.size ≤ W6.heap.size := HB6w.out.size
    clear hb7 hf HR HT6 HU6 HB6w
    generalize W6.heap.size = P at *
    go_wp2_with fail
    refine (shown_s HR7.out.shows).mono ?_
    rintro e W8 ⟨rfl, hb8⟩
    have HR8 : Hid (Ready W8 P (tkV 0 0 ⟨#[]⟩ ⟨#[]⟩ 0) (tkV 0 0 ⟨#[]⟩ ⟨#[]⟩ 0)) := HR7.out.below hb8
    have HT8 : Hid (TB W8 B16 0 0 ⟨#[]⟩ ⟨#[]⟩ 0) := HT7.out.below hb8 (by omega)
    have HU8 : Hid (TB W8 (B16 + 1) 0 0 ⟨#[]⟩ ⟨#[]⟩ 0) := HU7.out.below hb8 (by omega)
    have HB8w : Hid (Below w.heap.size w W8) := HB7w.out.trans (hb8.mono HB7w.out.size)
    have hz8 : P < W8.heap.size := Nat.lt_of_lt_of_le hP6 hb8.size
    clear hb8 HR7 HT7 HU7 HB7w
    unfold tkV
    go_upto_region 19 with fail
    generalize hW9 : W8.alloc (.cells #[.int .i64 0, .int .i64 0, .string ⟨#[]⟩, .string ⟨#[]⟩, .int .i64 0] 35) = W9
    have HT24 : Hid (TB W9 W8.heap.size 0 0 ⟨#[]⟩ ⟨#[]⟩ 0) := by rw [← hW9]; exact TB.new _ _ _ _ _ _
    have HR9 : Hid (Ready W9 P (tkV 0 0 ⟨#[]⟩ ⟨#[]⟩ 0) (tkV 0 0 ⟨#[]⟩ ⟨#[]⟩ 0)) := by rw [← hW9]; exact HR8.out.below ((Below.refl _ _).alloc (Nat.le_refl _) _)
    have HT9a : Hid (TB W9 B16 0 0 ⟨#[]⟩ ⟨#[]⟩ 0) := by rw [← hW9]; exact HT8.out.alloc _
    have HU9 : Hid (TB W9 (B16 + 1) 0 0 ⟨#[]⟩ ⟨#[]⟩ 0) := by rw [← hW9]; exact HU8.out.alloc _
    have HB9w : Hid (Below w.heap.size w W9) := by rw [← hW9]; exact HB8w.out.alloc HB8w.out.size _
    clear hW9 HR8 HT8 HU8 HB8w
    have c0 := HT9a.out.c0
    have c1 := HT9a.out.c1
    have c2 := HT9a.out.c2
    have c3 := HT9a.out.c3
    have c4 := HT9a.out.c4
    have d0 := HT24.out.c0
    have d1 := HT24.out.c1
    have d2 := HT24.out.c2
    have d3 := HT24.out.c3
    have d4 := HT24.out.c4
    go_wp2_with fail
    clear c0 c1 c2 c3 c4 d0 d1 d2 d3 d4
    refine (accept_s HR9.out kind text).mono ?_
    rintro e W10 ⟨rfl, ⟨hb, hbel, hS⟩ | ⟨hb, hbel, hS⟩⟩
    · rw [hb]
      have HB10 : Hid (Below P W9 W10) := hbel
      clear hbel

      have HS10 : Hid (Shows W10 P 0 0 ⟨#[]⟩ ⟨#[]⟩ 0 (wrap64 (0 + (⟨#[]⟩ : ByteArray).size))) := hS
      have HT10 : Hid (TB W10 B16 0 0 ⟨#[]⟩ ⟨#[]⟩ 0) := HT9a.out.below HB10.out (by omega)
      have HU10 : Hid (TB W10 (B16 + 1) 0 0 ⟨#[]⟩ ⟨#[]⟩ 0) := HU9.out.below HB10.out (by omega)
      have HB10w : Hid (Below w.heap.size w W10) := HB9w.out.trans (HB10.out.mono (by omega))
      clear hS HB10 HB9w HT9a HU9 HR9
      go_wp2_with fail
      refine (shown_s HS10.out).mono ?_
      rintro e W11 ⟨rfl, hb11⟩
      have hPl := HS10.out.lt
      have HS11 : Hid (Shows W11 P 0 0 ⟨#[]⟩ ⟨#[]⟩ 0 (wrap64 (0 + (⟨#[]⟩ : ByteArray).size))) := HS10.out.below hb11
      have HT11 : Hid (TB W11 B16 0 0 ⟨#[]⟩ ⟨#[]⟩ 0) := HT10.out.below hb11 (by omega)
      have HU11 : Hid (TB W11 (B16 + 1) 0 0 ⟨#[]⟩ ⟨#[]⟩ 0) := HU10.out.below hb11 (by omega)
      have HB11w : Hid (Below w.heap.size w W11) := HB10w.out.trans (hb11.mono (by omega))
      clear hb11 HS10 HT10 HU10 HB10w
      unfold tkV
      go_upto_region 23 with fail
      generalize hW12 : W11.alloc (.cells #[.int .i64 0, .int .i64 0, .string ⟨#[]⟩, .string ⟨#[]⟩, .int .i64 0] 35) = W12
      have HT27 : Hid (TB W12 W11.heap.size 0 0 ⟨#[]⟩ ⟨#[]⟩ 0) := by rw [← hW12]; exact TB.new _ _ _ _ _ _
      have HS12 : Hid (Shows W12 P 0 0 ⟨#[]⟩ ⟨#[]⟩ 0 (wrap64 (0 + (⟨#[]⟩ : ByteArray).size))) := by rw [← hW12]; exact HS11.out.below ((Below.refl _ _).alloc (Nat.le_refl _) _)
      have HT12 : Hid (TB W12 B16 0 0 ⟨#[]⟩ ⟨#[]⟩ 0) := by rw [← hW12]; exact HT11.out.alloc _
      have HU12 : Hid (TB W12 (B16 + 1) 0 0 ⟨#[]⟩ ⟨#[]⟩ 0) := by rw [← hW12]; exact HU11.out.alloc _
      have HB12w : Hid (Below w.heap.size w W12) := by rw [← hW12]; exact HB11w.out.alloc HB11w.out.size _
      clear hW12 HS11 HT11 HU11 HB11w
      go_wp2_with fail
      refine (state_s HS12.out).mono ?_
      rintro e W13 ⟨ia, ib, m, rfl, rfl⟩
      have c0 := HT12.out.c0
      have c1 := HT12.out.c1
      have c2 := HT12.out.c2
      have c3 := HT12.out.c3
      have c4 := HT12.out.c4
      have d0 := HU12.out.c0
      have d1 := HU12.out.c1
      have d2 := HU12.out.c2
      have d3 := HU12.out.c3
      have d4 := HU12.out.c4
      have e0 := HT27.out.c0
      have e1 := HT27.out.c1
      have e2 := HT27.out.c2
      have e3 := HT27.out.c3
      have e4 := HT27.out.c4
      obtain ⟨hk, hv⟩ := Bool.and_eq_true_iff.1 hb
      have hv2 : text.toList.isEmpty = true := (empt text).symm.trans hv
      have hwz := wz
      go_wp2
      go_ret
      exact ⟨ret_bool (by simp), below_drewN HB12w.out m⟩
    · rw [hb]
      have HB10 : Hid (Below P W9 W10) := hbel.mono (Nat.le_of_lt HR9.out.shows.lt)
      clear hbel

      have HS10 : Hid (Shows W10 P 0 0 ⟨#[]⟩ ⟨#[]⟩ 0 0) := hS
      have HT10 : Hid (TB W10 B16 0 0 ⟨#[]⟩ ⟨#[]⟩ 0) := HT9a.out.below HB10.out (by omega)
      have HU10 : Hid (TB W10 (B16 + 1) 0 0 ⟨#[]⟩ ⟨#[]⟩ 0) := HU9.out.below HB10.out (by omega)
      have HB10w : Hid (Below w.heap.size w W10) := HB9w.out.trans (HB10.out.mono (by omega))
      clear hS HB10 HB9w HT9a HU9 HR9
      go_wp2_with fail
      refine (shown_s HS10.out).mono ?_
      rintro e W11 ⟨rfl, hb11⟩
      have hPl := HS10.out.lt
      have HS11 : Hid (Shows W11 P 0 0 ⟨#[]⟩ ⟨#[]⟩ 0 0) := HS10.out.below hb11
      have HT11 : Hid (TB W11 B16 0 0 ⟨#[]⟩ ⟨#[]⟩ 0) := HT10.out.below hb11 (by omega)
      have HU11 : Hid (TB W11 (B16 + 1) 0 0 ⟨#[]⟩ ⟨#[]⟩ 0) := HU10.out.below hb11 (by omega)
      have HB11w : Hid (Below w.heap.size w W11) := HB10w.out.trans (hb11.mono (by omega))
      clear hb11 HS10 HT10 HU10 HB10w
      unfold tkV
      go_upto_region 23 with fail
      generalize hW12 : W11.alloc (.cells #[.int .i64 0, .int .i64 0, .string ⟨#[]⟩, .string ⟨#[]⟩, .int .i64 0] 35) = W12
      have HT27 : Hid (TB W12 W11.heap.size 0 0 ⟨#[]⟩ ⟨#[]⟩ 0) := by rw [← hW12]; exact TB.new _ _ _ _ _ _
      have HS12 : Hid (Shows W12 P 0 0 ⟨#[]⟩ ⟨#[]⟩ 0 0) := by rw [← hW12]; exact HS11.out.below ((Below.refl _ _).alloc (Nat.le_refl _) _)
      have HT12 : Hid (TB W12 B16 0 0 ⟨#[]⟩ ⟨#[]⟩ 0) := by rw [← hW12]; exact HT11.out.alloc _
      have HU12 : Hid (TB W12 (B16 + 1) 0 0 ⟨#[]⟩ ⟨#[]⟩ 0) := by rw [← hW12]; exact HU11.out.alloc _
      have HB12w : Hid (Below w.heap.size w W12) := by rw [← hW12]; exact HB11w.out.alloc HB11w.out.size _
      clear hW12 HS11 HT11 HU11 HB11w
      go_wp2_with fail
      refine (state_s HS12.out).mono ?_
      rintro e W13 ⟨ia, ib, m, rfl, rfl⟩
      have c0 := HT12.out.c0
      have c1 := HT12.out.c1
      have c2 := HT12.out.c2
      have c3 := HT12.out.c3
      have c4 := HT12.out.c4
      have d0 := HU12.out.c0
      have d1 := HU12.out.c1
      have d2 := HU12.out.c2
      have d3 := HU12.out.c3
      have d4 := HU12.out.c4
      have e0 := HT27.out.c0
      have e1 := HT27.out.c1
      have e2 := HT27.out.c2
      have e3 := HT27.out.c3
      have e4 := HT27.out.c4
      cases hk : ((0 : Int) == kind)
      · go_wp2
        go_ret
        exact ⟨ret_bool (by simp), below_drewN HB12w.out m⟩
      · have hv : ((⟨#[]⟩ : ByteArray).toList == text.toList) = false := by rw [hk, Bool.true_and] at hb; exact hb
        have hv2 : text.toList.isEmpty = false := (empt text).symm.trans hv
        go_wp2
        go_ret
        exact ⟨ret_bool (by simp), below_drewN HB12w.out m⟩

  case false =>
    go_wp2_with fail
    refine (lexNext_any (w.heap.size + 1) 0 src (stS src mk 1).1 mk (stS src mk 1).2 X5 HST.out.1 (by omega) HST.out.2.1 (by have := HST.out.2.2; omega) HL5.out k2 p2 n2 x2 y2 HN2.out).mono ?_
    rintro e Y5 ⟨rfl, hm⟩
    have HT16m : Hid (TB Y5 B16 k1 p1 x1 y1 n1) := HT16'.out.lexed hm (by omega)
    have HT17m : Hid (TB Y5 (B16 + 1) 0 0 ⟨#[]⟩ ⟨#[]⟩ 0) := HT17.out.lexed hm (by omega)
    have HBm : Hid (Below (w.heap.size + 1) W1 Y5) := Below.trans (Below.setP (Below.setP HB5.out _ _) _ _) (Below.mono hm (by have := HS5.out; omega))
    have HBmw : Hid (Below w.heap.size w Y5) := HB1.out.trans (HBm.out.mono (by omega))
    clear hm HB5 HB5w HT16' HT17 HL5 HS5 HT9 HB1 HBm HST HN2
    go_wp2_with fail
    refine (endsB1_any k2 Y5).mono ?_
    rintro e W6 ⟨rfl, rfl⟩
    generalize hE2 : (k2 == 10 || k2 == 0) = E2 at HF ⊢
    cases E2
    case true =>
      have HR : Hid (∀ P W, Filled src mk P W → Ready W P (tkV k1 p1 x1 y1 n1) (tkV 0 0 ⟨#[]⟩ ⟨#[]⟩ 0)) := HF
      have HT6 : Hid (TB W6 B16 k1 p1 x1 y1 n1) := HT16m
      have HU6 : Hid (TB W6 (B16 + 1) 0 0 ⟨#[]⟩ ⟨#[]⟩ 0) := HT17m
      have HB6w : Hid (Below w.heap.size w W6) := HBmw
      clear HF HT16m HT17m HBmw
      go_wp2_with fail
      have hB6 : B16 + 1 < W6.heap.size := HU6.out.lt
      refine (newParser_any src mk W6 (by omega)).mono ?_
      rintro e W7 ⟨rfl, hb7, hf⟩
      have HR7 : Hid (Ready W7 W6.heap.size (tkV k1 p1 x1 y1 n1) (tkV 0 0 ⟨#[]⟩ ⟨#[]⟩ 0)) := HR.out _ _ hf
      have HT7 : Hid (TB W7 B16 k1 p1 x1 y1 n1) := HT6.out.below hb7 (by omega)
      have HU7 : Hid (TB W7 (B16 + 1) 0 0 ⟨#[]⟩ ⟨#[]⟩ 0) := HU6.out.below hb7 (by omega)
      have HB7w : Hid (Below w.heap.size w W7) := HB6w.out.trans (hb7.mono HB6w.out.size)
      have hP6 : W6.heap.size < W7.heap.size := HR7.out.shows.lt
      have hw6 : w.heap.size ≤ W6.heap.size := HB6w.out.size
      clear hb7 hf HR HT6 HU6 HB6w
      generalize W6.heap.size = P at *
      go_wp2_with fail
      refine (shown_s HR7.out.shows).mono ?_
      rintro e W8 ⟨rfl, hb8⟩
      have HR8 : Hid (Ready W8 P (tkV k1 p1 x1 y1 n1) (tkV 0 0 ⟨#[]⟩ ⟨#[]⟩ 0)) := HR7.out.below hb8
      have HT8 : Hid (TB W8 B16 k1 p1 x1 y1 n1) := HT7.out.below hb8 (by omega)
      have HU8 : Hid (TB W8 (B16 + 1) 0 0 ⟨#[]⟩ ⟨#[]⟩ 0) := HU7.out.below hb8 (by omega)
      have HB8w : Hid (Below w.heap.size w W8) := HB7w.out.trans (hb8.mono HB7w.out.size)
      have hz8 : P < W8.heap.size := Nat.lt_of_lt_of_le hP6 hb8.size
      clear hb8 HR7 HT7 HU7 HB7w
      unfold tkV
      go_upto_region 19 with fail
      generalize hW9 : W8.alloc (.cells #[.int .i64 k1, .int .i64 p1, .string x1, .string y1, .int .i64 n1] 35) = W9
      have HT24 : Hid (TB W9 W8.heap.size k1 p1 x1 y1 n1) := by rw [← hW9]; exact TB.new _ _ _ _ _ _
      have HR9 : Hid (Ready W9 P (tkV k1 p1 x1 y1 n1) (tkV 0 0 ⟨#[]⟩ ⟨#[]⟩ 0)) := by rw [← hW9]; exact HR8.out.below ((Below.refl _ _).alloc (Nat.le_refl _) _)
      have HT9a : Hid (TB W9 B16 k1 p1 x1 y1 n1) := by rw [← hW9]; exact HT8.out.alloc _
      have HU9 : Hid (TB W9 (B16 + 1) 0 0 ⟨#[]⟩ ⟨#[]⟩ 0) := by rw [← hW9]; exact HU8.out.alloc _
      have HB9w : Hid (Below w.heap.size w W9) := by rw [← hW9]; exact HB8w.out.alloc HB8w.out.size _
      clear hW9 HR8 HT8 HU8 HB8w
      have c0 := HT9a.out.c0
      have c1 := HT9a.out.c1
      have c2 := HT9a.out.c2
      have c3 := HT9a.out.c3
      have c4 := HT9a.out.c4
      have d0 := HT24.out.c0
      have d1 := HT24.out.c1
      have d2 := HT24.out.c2
      have d3 := HT24.out.c3
      have d4 := HT24.out.c4
      go_wp2_with fail
      clear c0 c1 c2 c3 c4 d0 d1 d2 d3 d4
      refine (accept_s HR9.out kind text).mono ?_
      rintro e W10 ⟨rfl, ⟨hb, hbel, hS⟩ | ⟨hb, hbel, hS⟩⟩
      · rw [hb]
        have HB10 : Hid (Below P W9 W10) := hbel
        clear hbel

        have HS10 : Hid (Shows W10 P 0 0 ⟨#[]⟩ ⟨#[]⟩ 0 (wrap64 (p1 + (x1 : ByteArray).size))) := hS
        have HT10 : Hid (TB W10 B16 k1 p1 x1 y1 n1) := HT9a.out.below HB10.out (by omega)
        have HU10 : Hid (TB W10 (B16 + 1) 0 0 ⟨#[]⟩ ⟨#[]⟩ 0) := HU9.out.below HB10.out (by omega)
        have HB10w : Hid (Below w.heap.size w W10) := HB9w.out.trans (HB10.out.mono (by omega))
        clear hS HB10 HB9w HT9a HU9 HR9
        go_wp2_with fail
        refine (shown_s HS10.out).mono ?_
        rintro e W11 ⟨rfl, hb11⟩
        have hPl := HS10.out.lt
        have HS11 : Hid (Shows W11 P 0 0 ⟨#[]⟩ ⟨#[]⟩ 0 (wrap64 (p1 + (x1 : ByteArray).size))) := HS10.out.below hb11
        have HT11 : Hid (TB W11 B16 k1 p1 x1 y1 n1) := HT10.out.below hb11 (by omega)
        have HU11 : Hid (TB W11 (B16 + 1) 0 0 ⟨#[]⟩ ⟨#[]⟩ 0) := HU10.out.below hb11 (by omega)
        have HB11w : Hid (Below w.heap.size w W11) := HB10w.out.trans (hb11.mono (by omega))
        clear hb11 HS10 HT10 HU10 HB10w
        unfold tkV
        go_upto_region 23 with fail
        generalize hW12 : W11.alloc (.cells #[.int .i64 0, .int .i64 0, .string ⟨#[]⟩, .string ⟨#[]⟩, .int .i64 0] 35) = W12
        have HT27 : Hid (TB W12 W11.heap.size 0 0 ⟨#[]⟩ ⟨#[]⟩ 0) := by rw [← hW12]; exact TB.new _ _ _ _ _ _
        have HS12 : Hid (Shows W12 P 0 0 ⟨#[]⟩ ⟨#[]⟩ 0 (wrap64 (p1 + (x1 : ByteArray).size))) := by rw [← hW12]; exact HS11.out.below ((Below.refl _ _).alloc (Nat.le_refl _) _)
        have HT12 : Hid (TB W12 B16 k1 p1 x1 y1 n1) := by rw [← hW12]; exact HT11.out.alloc _
        have HU12 : Hid (TB W12 (B16 + 1) 0 0 ⟨#[]⟩ ⟨#[]⟩ 0) := by rw [← hW12]; exact HU11.out.alloc _
        have HB12w : Hid (Below w.heap.size w W12) := by rw [← hW12]; exact HB11w.out.alloc HB11w.out.size _
        clear hW12 HS11 HT11 HU11 HB11w
        go_wp2_with fail
        refine (state_s HS12.out).mono ?_
        rintro e W13 ⟨ia, ib, m, rfl, rfl⟩
        have c0 := HT12.out.c0
        have c1 := HT12.out.c1
        have c2 := HT12.out.c2
        have c3 := HT12.out.c3
        have c4 := HT12.out.c4
        have d0 := HU12.out.c0
        have d1 := HU12.out.c1
        have d2 := HU12.out.c2
        have d3 := HU12.out.c3
        have d4 := HU12.out.c4
        have e0 := HT27.out.c0
        have e1 := HT27.out.c1
        have e2 := HT27.out.c2
        have e3 := HT27.out.c3
        have e4 := HT27.out.c4
        obtain ⟨hk, hv⟩ := Bool.and_eq_true_iff.1 hb
        go_wp2
        go_ret
        exact ⟨ret_bool (by simp), below_drewN HB12w.out m⟩
      · rw [hb]
        have HB10 : Hid (Below P W9 W10) := hbel.mono (Nat.le_of_lt HR9.out.shows.lt)
        clear hbel

        have HS10 : Hid (Shows W10 P k1 p1 x1 y1 n1 0) := hS
        have HT10 : Hid (TB W10 B16 k1 p1 x1 y1 n1) := HT9a.out.below HB10.out (by omega)
        have HU10 : Hid (TB W10 (B16 + 1) 0 0 ⟨#[]⟩ ⟨#[]⟩ 0) := HU9.out.below HB10.out (by omega)
        have HB10w : Hid (Below w.heap.size w W10) := HB9w.out.trans (HB10.out.mono (by omega))
        clear hS HB10 HB9w HT9a HU9 HR9
        go_wp2_with fail
        refine (shown_s HS10.out).mono ?_
        rintro e W11 ⟨rfl, hb11⟩
        have hPl := HS10.out.lt
        have HS11 : Hid (Shows W11 P k1 p1 x1 y1 n1 0) := HS10.out.below hb11
        have HT11 : Hid (TB W11 B16 k1 p1 x1 y1 n1) := HT10.out.below hb11 (by omega)
        have HU11 : Hid (TB W11 (B16 + 1) 0 0 ⟨#[]⟩ ⟨#[]⟩ 0) := HU10.out.below hb11 (by omega)
        have HB11w : Hid (Below w.heap.size w W11) := HB10w.out.trans (hb11.mono (by omega))
        clear hb11 HS10 HT10 HU10 HB10w
        unfold tkV
        go_upto_region 23 with fail
        generalize hW12 : W11.alloc (.cells #[.int .i64 k1, .int .i64 p1, .string x1, .string y1, .int .i64 n1] 35) = W12
        have HT27 : Hid (TB W12 W11.heap.size k1 p1 x1 y1 n1) := by rw [← hW12]; exact TB.new _ _ _ _ _ _
        have HS12 : Hid (Shows W12 P k1 p1 x1 y1 n1 0) := by rw [← hW12]; exact HS11.out.below ((Below.refl _ _).alloc (Nat.le_refl _) _)
        have HT12 : Hid (TB W12 B16 k1 p1 x1 y1 n1) := by rw [← hW12]; exact HT11.out.alloc _
        have HU12 : Hid (TB W12 (B16 + 1) 0 0 ⟨#[]⟩ ⟨#[]⟩ 0) := by rw [← hW12]; exact HU11.out.alloc _
        have HB12w : Hid (Below w.heap.size w W12) := by rw [← hW12]; exact HB11w.out.alloc HB11w.out.size _
        clear hW12 HS11 HT11 HU11 HB11w
        go_wp2_with fail
        refine (state_s HS12.out).mono ?_
        rintro e W13 ⟨ia, ib, m, rfl, rfl⟩
        have c0 := HT12.out.c0
        have c1 := HT12.out.c1
        have c2 := HT12.out.c2
        have c3 := HT12.out.c3
        have c4 := HT12.out.c4
        have d0 := HU12.out.c0
        have d1 := HU12.out.c1
        have d2 := HU12.out.c2
        have d3 := HU12.out.c3
        have d4 := HU12.out.c4
        have e0 := HT27.out.c0
        have e1 := HT27.out.c1
        have e2 := HT27.out.c2
        have e3 := HT27.out.c3
        have e4 := HT27.out.c4
        cases hk : ((k1 : Int) == kind)
        · go_wp2
          go_ret
          exact ⟨ret_bool (by simp), below_drewN HB12w.out m⟩
        · have hv : ((y1 : ByteArray).toList == text.toList) = false := by rw [hk, Bool.true_and] at hb; exact hb
          go_wp2
          go_ret
          exact ⟨ret_bool (by simp), below_drewN HB12w.out m⟩


    case false =>
      have HR : Hid (∀ P W, Filled src mk P W → Ready W P (tkV k1 p1 x1 y1 n1) (tkV k2 p2 x2 y2 n2)) := HF
      clear HF
      have s0 := HT17m.out.c0
      have s1 := HT17m.out.c1
      have s2 := HT17m.out.c2
      have s3 := HT17m.out.c3
      have s4 := HT17m.out.c4
      have sf := HT17m.out.fr
      go_upto_region 17 with fail
      generalize hW6 : ((((W6.setCell ⟨B16 + 1, 0, none⟩ (.int .i64 k2)).setCell ⟨B16 + 1, 1, none⟩ (.int .i64 p2)).setCell ⟨B16 + 1, 2, none⟩ (.string x2)).setCell ⟨B16 + 1, 3, none⟩ (.string y2)).setCell ⟨B16 + 1, 4, none⟩ (.int .i64 n2) = X6
      have HT6 : Hid (TB X6 B16 k1 p1 x1 y1 n1) := by rw [← hW6]; exact HT16m.out.other (by omega) _ _ _ _ _
      have HU6 : Hid (TB X6 (B16 + 1) k2 p2 x2 y2 n2) := by rw [← hW6]; exact HT17m.out.store _ _ _ _ _
      have HB6w : Hid (Below w.heap.size w X6) := by rw [← hW6]; exact Below.five HBmw.out (by omega) _ _ _ _ _
      clear hW6 HT16m HT17m HBmw s0 s1 s2 s3 s4 sf
      go_wp2_with fail
      have hB6 : B16 + 1 < X6.heap.size := HU6.out.lt
      refine (newParser_any src mk X6 (by omega)).mono ?_
      rintro e W7 ⟨rfl, hb7, hf⟩
      have HR7 : Hid (Ready W7 X6.heap.size (tkV k1 p1 x1 y1 n1) (tkV k2 p2 x2 y2 n2)) := HR.out _ _ hf
      have HT7 : Hid (TB W7 B16 k1 p1 x1 y1 n1) := HT6.out.below hb7 (by omega)
      have HU7 : Hid (TB W7 (B16 + 1) k2 p2 x2 y2 n2) := HU6.out.below hb7 (by omega)
      have HB7w : Hid (Below w.heap.size w W7) := HB6w.out.trans (hb7.mono HB6w.out.size)
      have hP6 : X6.heap.size < W7.heap.size := HR7.out.shows.lt
      have hw6 : w.heap.size ≤ X6.heap.size := HB6w.out.size
      clear hb7 hf HR HT6 HU6 HB6w
      generalize X6.heap.size = P at *
      go_wp2_with fail
      refine (shown_s HR7.out.shows).mono ?_
      rintro e W8 ⟨rfl, hb8⟩
      have HR8 : Hid (Ready W8 P (tkV k1 p1 x1 y1 n1) (tkV k2 p2 x2 y2 n2)) := HR7.out.below hb8
      have HT8 : Hid (TB W8 B16 k1 p1 x1 y1 n1) := HT7.out.below hb8 (by omega)
      have HU8 : Hid (TB W8 (B16 + 1) k2 p2 x2 y2 n2) := HU7.out.below hb8 (by omega)
      have HB8w : Hid (Below w.heap.size w W8) := HB7w.out.trans (hb8.mono HB7w.out.size)
      have hz8 : P < W8.heap.size := Nat.lt_of_lt_of_le hP6 hb8.size
      clear hb8 HR7 HT7 HU7 HB7w
      unfold tkV
      go_upto_region 19 with fail
      generalize hW9 : W8.alloc (.cells #[.int .i64 k1, .int .i64 p1, .string x1, .string y1, .int .i64 n1] 35) = W9
      have HT24 : Hid (TB W9 W8.heap.size k1 p1 x1 y1 n1) := by rw [← hW9]; exact TB.new _ _ _ _ _ _
      have HR9 : Hid (Ready W9 P (tkV k1 p1 x1 y1 n1) (tkV k2 p2 x2 y2 n2)) := by rw [← hW9]; exact HR8.out.below ((Below.refl _ _).alloc (Nat.le_refl _) _)
      have HT9a : Hid (TB W9 B16 k1 p1 x1 y1 n1) := by rw [← hW9]; exact HT8.out.alloc _
      have HU9 : Hid (TB W9 (B16 + 1) k2 p2 x2 y2 n2) := by rw [← hW9]; exact HU8.out.alloc _
      have HB9w : Hid (Below w.heap.size w W9) := by rw [← hW9]; exact HB8w.out.alloc HB8w.out.size _
      clear hW9 HR8 HT8 HU8 HB8w
      have c0 := HT9a.out.c0
      have c1 := HT9a.out.c1
      have c2 := HT9a.out.c2
      have c3 := HT9a.out.c3
      have c4 := HT9a.out.c4
      have d0 := HT24.out.c0
      have d1 := HT24.out.c1
      have d2 := HT24.out.c2
      have d3 := HT24.out.c3
      have d4 := HT24.out.c4
      go_wp2_with fail
      clear c0 c1 c2 c3 c4 d0 d1 d2 d3 d4
      refine (accept_s HR9.out kind text).mono ?_
      rintro e W10 ⟨rfl, ⟨hb, hbel, hS⟩ | ⟨hb, hbel, hS⟩⟩
      · rw [hb]
        have HB10 : Hid (Below P W9 W10) := hbel
        clear hbel

        have HS10 : Hid (Shows W10 P k2 p2 x2 y2 n2 (wrap64 (p1 + (x1 : ByteArray).size))) := hS
        have HT10 : Hid (TB W10 B16 k1 p1 x1 y1 n1) := HT9a.out.below HB10.out (by omega)
        have HU10 : Hid (TB W10 (B16 + 1) k2 p2 x2 y2 n2) := HU9.out.below HB10.out (by omega)
        have HB10w : Hid (Below w.heap.size w W10) := HB9w.out.trans (HB10.out.mono (by omega))
        clear hS HB10 HB9w HT9a HU9 HR9
        go_wp2_with fail
        refine (shown_s HS10.out).mono ?_
        rintro e W11 ⟨rfl, hb11⟩
        have hPl := HS10.out.lt
        have HS11 : Hid (Shows W11 P k2 p2 x2 y2 n2 (wrap64 (p1 + (x1 : ByteArray).size))) := HS10.out.below hb11
        have HT11 : Hid (TB W11 B16 k1 p1 x1 y1 n1) := HT10.out.below hb11 (by omega)
        have HU11 : Hid (TB W11 (B16 + 1) k2 p2 x2 y2 n2) := HU10.out.below hb11 (by omega)
        have HB11w : Hid (Below w.heap.size w W11) := HB10w.out.trans (hb11.mono (by omega))
        clear hb11 HS10 HT10 HU10 HB10w
        unfold tkV
        go_upto_region 23 with fail
        generalize hW12 : W11.alloc (.cells #[.int .i64 k2, .int .i64 p2, .string x2, .string y2, .int .i64 n2] 35) = W12
        have HT27 : Hid (TB W12 W11.heap.size k2 p2 x2 y2 n2) := by rw [← hW12]; exact TB.new _ _ _ _ _ _
        have HS12 : Hid (Shows W12 P k2 p2 x2 y2 n2 (wrap64 (p1 + (x1 : ByteArray).size))) := by rw [← hW12]; exact HS11.out.below ((Below.refl _ _).alloc (Nat.le_refl _) _)
        have HT12 : Hid (TB W12 B16 k1 p1 x1 y1 n1) := by rw [← hW12]; exact HT11.out.alloc _
        have HU12 : Hid (TB W12 (B16 + 1) k2 p2 x2 y2 n2) := by rw [← hW12]; exact HU11.out.alloc _
        have HB12w : Hid (Below w.heap.size w W12) := by rw [← hW12]; exact HB11w.out.alloc HB11w.out.size _
        clear hW12 HS11 HT11 HU11 HB11w
        go_wp2_with fail
        refine (state_s HS12.out).mono ?_
        rintro e W13 ⟨ia, ib, m, rfl, rfl⟩
        have c0 := HT12.out.c0
        have c1 := HT12.out.c1
        have c2 := HT12.out.c2
        have c3 := HT12.out.c3
        have c4 := HT12.out.c4
        have d0 := HU12.out.c0
        have d1 := HU12.out.c1
        have d2 := HU12.out.c2
        have d3 := HU12.out.c3
        have d4 := HU12.out.c4
        have e0 := HT27.out.c0
        have e1 := HT27.out.c1
        have e2 := HT27.out.c2
        have e3 := HT27.out.c3
        have e4 := HT27.out.c4
        obtain ⟨hk, hv⟩ := Bool.and_eq_true_iff.1 hb
        go_wp2
        go_ret
        exact ⟨ret_bool (by simp), below_drewN HB12w.out m⟩
      · rw [hb]
        have HB10 : Hid (Below P W9 W10) := hbel.mono (Nat.le_of_lt HR9.out.shows.lt)
        clear hbel

        have HS10 : Hid (Shows W10 P k1 p1 x1 y1 n1 0) := hS
        have HT10 : Hid (TB W10 B16 k1 p1 x1 y1 n1) := HT9a.out.below HB10.out (by omega)
        have HU10 : Hid (TB W10 (B16 + 1) k2 p2 x2 y2 n2) := HU9.out.below HB10.out (by omega)
        have HB10w : Hid (Below w.heap.size w W10) := HB9w.out.trans (HB10.out.mono (by omega))
        clear hS HB10 HB9w HT9a HU9 HR9
        go_wp2_with fail
        refine (shown_s HS10.out).mono ?_
        rintro e W11 ⟨rfl, hb11⟩
        have hPl := HS10.out.lt
        have HS11 : Hid (Shows W11 P k1 p1 x1 y1 n1 0) := HS10.out.below hb11
        have HT11 : Hid (TB W11 B16 k1 p1 x1 y1 n1) := HT10.out.below hb11 (by omega)
        have HU11 : Hid (TB W11 (B16 + 1) k2 p2 x2 y2 n2) := HU10.out.below hb11 (by omega)
        have HB11w : Hid (Below w.heap.size w W11) := HB10w.out.trans (hb11.mono (by omega))
        clear hb11 HS10 HT10 HU10 HB10w
        unfold tkV
        go_upto_region 23 with fail
        generalize hW12 : W11.alloc (.cells #[.int .i64 k1, .int .i64 p1, .string x1, .string y1, .int .i64 n1] 35) = W12
        have HT27 : Hid (TB W12 W11.heap.size k1 p1 x1 y1 n1) := by rw [← hW12]; exact TB.new _ _ _ _ _ _
        have HS12 : Hid (Shows W12 P k1 p1 x1 y1 n1 0) := by rw [← hW12]; exact HS11.out.below ((Below.refl _ _).alloc (Nat.le_refl _) _)
        have HT12 : Hid (TB W12 B16 k1 p1 x1 y1 n1) := by rw [← hW12]; exact HT11.out.alloc _
        have HU12 : Hid (TB W12 (B16 + 1) k2 p2 x2 y2 n2) := by rw [← hW12]; exact HU11.out.alloc _
        have HB12w : Hid (Below w.heap.size w W12) := by rw [← hW12]; exact HB11w.out.alloc HB11w.out.size _
        clear hW12 HS11 HT11 HU11 HB11w
        go_wp2_with fail
        refine (state_s HS12.out).mono ?_
        rintro e W13 ⟨ia, ib, m, rfl, rfl⟩
        have c0 := HT12.out.c0
        have c1 := HT12.out.c1
        have c2 := HT12.out.c2
        have c3 := HT12.out.c3
        have c4 := HT12.out.c4
        have d0 := HU12.out.c0
        have d1 := HU12.out.c1
        have d2 := HU12.out.c2
        have d3 := HU12.out.c3
        have d4 := HU12.out.c4
        have e0 := HT27.out.c0
        have e1 := HT27.out.c1
        have e2 := HT27.out.c2
        have e3 := HT27.out.c3
        have e4 := HT27.out.c4
        cases hk : ((k1 : Int) == kind)
        · go_wp2
          go_ret
          exact ⟨ret_bool (by simp), below_drewN HB12w.out m⟩
        · have hv : ((y1 : ByteArray).toList == text.toList) = false := by rw [hk, Bool.true_and] at hb; exact hb
          go_wp2
          go_ret
          exact ⟨ret_bool (by simp), below_drewN HB12w.out m⟩


end Go.Proofs.Qxb6604722a
