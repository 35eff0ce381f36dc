import Derived.Test.Qxb6604722aShown
namespace Go.Proofs.Qxb6604722a
open Go.ChangeShapes Go.WideShapes Go.ChangeAt Go.RowKit
open Pl Lx
set_option linter.unusedSimpArgs false
set_option linter.unusedVariables false

set_option maxHeartbeats 1000000 in
theorem end_any (k p n : Int) (tx vl : ByteArray) (w : World) : Calls Try.prog 48 #[tkV k p tx vl n] w fun e w' => e = .returned (.int .i64 (wrap64 (p + tx.size))) ∧ w' = w.alloc (.cells #[.int .i64 k, .int .i64 p, .string tx, .string vl, .int .i64 n] 50) := by
  unfold tkV
  go_enter Try.func48, Try.ntmps48
  go_wp2
  go_ret
  exact ⟨rfl, rfl⟩

set_option maxRecDepth 20000 in
set_option maxHeartbeats 2000000 in
/-- skip(1) at the first token, its end laid; the tokens are read on only where all are empty. -/
theorem skip_any {W : World} {P : Nat} {src : ByteArray} {pos : Nat} {mk : Bool} {md : Int} {v : Value} {len : Nat} {xs : List Value} {fin : Bool} (k p n : Int) (tx vl : ByteArray) (h : PAt W P src pos mk md v len xs 0 fin 0) (ha : At5 W v 0 k p tx vl n)
    (hz : 5 < len ∨ (len = 5 ∧ fin = true ∧ xs = tksCells (List.replicate 5 zTok))) (hl : len ≤ 64) :
    Calls Try.prog 35 #[.pointer (some ⟨P, 0, none⟩), .int .i64 1] W fun e w' => e = .returned (.tuple #[]) ∧ Below P W w' ∧
      ((5 < len ∧ PAt w' P src pos mk md v len xs 1 fin (wrap64 (p + tx.size))) ∨ (len = 5 ∧ ∃ v', PAt w' P src pos mk md v' 4 (tksCells (List.replicate 4 zTok)) 0 true (wrap64 (p + tx.size)))) := by
  obtain ⟨g, len', cap, rfl, hi, hg, d0, d1, d2, d3, d4⟩ := ha
  obtain ⟨a', cap', hv⟩ := h.shape
  injection hv with hv1 hv2 hv3
  subst hv2
  have hP : P < W.heap.size := h.lex.lt
  have hgP : P < g := by
    have := (h.own.lt g rfl).1; omega
  have HA : Hid (PAt W P src pos mk md (.slice (some ⟨g, 0, none⟩) len' cap) len' xs 0 fin 0) := h
  have c5 := h.c5
  have f5 := h.lex.fr 5
  clear h hv1 hv3
  go_enter Try.func35, Try.ntmps35
  go_upto_region 1 with fail
  have HA1 : Hid (PAt (W.setCell ⟨P, 5, none⟩ (.int .i64 1)) P src pos mk md (.slice (some ⟨g, 0, none⟩) len' cap) len' xs 1 fin 0) := HA.out.setNext 1
  have HB1 : Hid (Below P W (W.setCell ⟨P, 5, none⟩ (.int .i64 1))) := Below.setP (Below.refl _ _) _ _
  have hne : ∀ j, (⟨P, 5, none⟩ : Addr) ≠ ⟨g, j, none⟩ := fun j e => by injection e with e _ _; omega
  have e0 := (World.cell?_setCell_other W ⟨P, 5, none⟩ ⟨g, 0, none⟩ (.int .i64 1) (hne _)).trans d0
  have e1 := (World.cell?_setCell_other W ⟨P, 5, none⟩ ⟨g, 1, none⟩ (.int .i64 1) (hne _)).trans d1
  have e2 := (World.cell?_setCell_other W ⟨P, 5, none⟩ ⟨g, 2, none⟩ (.int .i64 1) (hne _)).trans d2
  have e3 := (World.cell?_setCell_other W ⟨P, 5, none⟩ ⟨g, 3, none⟩ (.int .i64 1) (hne _)).trans d3
  have e4 := (World.cell?_setCell_other W ⟨P, 5, none⟩ ⟨g, 4, none⟩ (.int .i64 1) (hne _)).trans d4
  generalize W.setCell ⟨P, 5, none⟩ (.int .i64 1) = w1 at HA1 HB1 e0 e1 e2 e3 e4 ⊢
  clear d0 d1 d2 d3 d4 c5 f5 HA hne
  have c4 := HA1.out.c4
  have c5 := HA1.out.c5
  have c7 := HA1.out.c7
  have f7 := HA1.out.lex.fr 7
  have hP1 : P < w1.heap.size := HA1.out.lex.lt
  have hlen : (0 : Int) < (len' : Int) := by omega
  have hnz : ¬ len' = 0 := by omega
  have hw0 : IntKind.i64.wrap 0 = 0 := rfl
  have h1le : 1 ≤ len' := by omega
  have hnl : ¬ (len' : Int) ≤ 0 := by omega
  go_cut [26] from 12 to 25 (fun _ wx => Below P W wx ∧ PAt wx P src pos mk md (.slice (some ⟨g, 0, none⟩) len' cap) len' xs 1 fin (wrap64 (p + tx.size)))
  case first =>
    go_region_with (go_at_call 48; refine (end_any k p n tx vl _).mono ?_; rintro e w2 ⟨rfl, rfl⟩)
    all_goals (try go_wp2_with fail)
    all_goals go_meet
    all_goals exact ⟨below_drewN (Below.alloc (Below.setP HB1.out _ _) (by rw [size_setCell]; omega) _) 1, ((HA1.out.setEnd _).alloc _).drewN 1⟩
  case rest =>
    obtain ⟨hb2, hA2⟩ := hcut
    have HA2 : Hid (PAt wc P src pos mk md (.slice (some ⟨g, 0, none⟩) len' cap) len' xs 1 fin (wrap64 (p + tx.size))) := hA2
    have HB2 : Hid (Below P W wc) := hb2
    clear c4 c5 c7 f7 e0 e1 e2 e3 e4 HA1 HB1 hP1
    have c4 := hA2.c4
    have c5 := hA2.c5
    clear hA2 hb2
    have hwl : IntKind.i64.wrap ((len' : Int) - 1) = (len' : Int) - 1 := by rw [IntKind.wrap_i64]; omega
    rcases hz with h5 | ⟨rfl, rfl, rfl⟩
    · have hc : ¬ (len' : Int) - 1 ≤ 4 := by omega
      go_wp2_with fail
      go_quiet (fail)
      go_wp2
      exact bodyPost_end (v := .tuple #[]) (by simp [results, Try.results35, go_sem]) rfl ⟨rfl, below_drewN HB2.out _, .inl ⟨h5, HA2.out.drewN _⟩⟩
    · go_wp2_with fail
      go_quiet (fail)
      go_wp2_with fail
      refine (readAhead_again src mk P pos md _ _ _ (HA2.out.drewN _)).mono ?_
      rintro e w3 ⟨rfl, hb3, v', hA3⟩
      go_wp2
      exact bodyPost_end (v := .tuple #[]) (by simp [results, Try.results35, go_sem]) rfl ⟨rfl, (below_drewN HB2.out _).trans hb3, v', hA3⟩
end Go.Proofs.Qxb6604722a
