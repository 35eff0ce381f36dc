import Derived.Test.Qxb6604722aSkip1
namespace Go.Proofs.Qxb6604722a
open Go.ChangeShapes Go.WideShapes Go.ChangeAt Go.RowKit
open Pl Lx
set_option linter.unusedSimpArgs false
set_option linter.unusedVariables false

set_option maxRecDepth 20000 in
set_option maxHeartbeats 2000000 in
theorem accept_any {W : World} {P : Nat} {src : ByteArray} {pos : Nat} {mk : Bool} {md : Int} {v : Value} {len : Nat} {xs : List Value} {fin : Bool} (k p n : Int) (tx vl : ByteArray) (h : PAt W P src pos mk md v len xs 0 fin 0) (ha : At5 W v 0 k p tx vl n)
    (hz : 5 < len ∨ (len = 5 ∧ fin = true ∧ xs = tksCells (List.replicate 5 zTok))) (hl : len ≤ 64) (kind : Int) (text : ByteArray) :
    Calls Try.prog 26 #[.pointer (some ⟨P, 0, none⟩), .int .i64 kind, .string text] W fun e w' => e = .returned (.bool (k == kind && vl.toList == text.toList)) ∧
      (((k == kind && vl.toList == text.toList) = true ∧ Below P W w' ∧ ((5 < len ∧ PAt w' P src pos mk md v len xs 1 fin (wrap64 (p + tx.size))) ∨ (len = 5 ∧ ∃ v', PAt w' P src pos mk md v' 4 (tksCells (List.replicate 4 zTok)) 0 true (wrap64 (p + tx.size))))) ∨
       ((k == kind && vl.toList == text.toList) = false ∧ Below W.heap.size W w')) := by
  have HA : Hid (PAt W P src pos mk md v len xs 0 fin 0) := h
  have H5 : Hid (At5 W v 0 k p tx vl n) := ha
  have HZ : Hid (5 < len ∨ (len = 5 ∧ fin = true ∧ xs = tksCells (List.replicate 5 zTok))) := hz
  have hP : P < W.heap.size := h.lex.lt
  clear h ha hz
  go_enter Try.func26, Try.ntmps26
  go_wp2_with fail
  refine (peek_any 0 k p n tx vl HA.out H5.out).mono ?_
  rintro e w1 ⟨rfl, hb1⟩
  have HB1 : Hid (Below W.heap.size W w1) := hb1
  have hw1 := hb1.size
  clear hb1
  unfold tkV
  cases hk : (k == kind)
  · go_wp2
    go_ret
    exact ⟨ret_bool (by simp only [hk, Bool.false_and]), .inr ⟨by simp only [hk, Bool.false_and], Below.alloc HB1.out hw1 _⟩⟩
  · cases hv : (vl.toList == text.toList)
    · go_wp2
      go_ret
      exact ⟨ret_bool (by simp only [hk, hv, Bool.and_false]), .inr ⟨by simp only [hk, hv, Bool.and_false], Below.alloc HB1.out hw1 _⟩⟩
    · go_wp2_with fail
      refine (skip_any k p n tx vl ((HA.out.below HB1.out).alloc _) ((H5.out.below HB1.out).below ((Below.refl _ _).alloc (Nat.le_refl _) _)) HZ.out hl).mono ?_
      rintro e w2 ⟨rfl, hb2, hr⟩
      have HR : Hid _ := hr
      go_wp2
      go_ret
      exact ⟨ret_bool (by simp only [hk, hv, Bool.and_self]), .inl ⟨by simp only [hk, hv, Bool.and_self], ((HB1.out.mono (Nat.le_of_lt hP)).alloc (by omega) _).trans hb2, HR.out⟩⟩

set_option maxHeartbeats 1000000 in
theorem zzAccept_any {W : World} {P : Nat} {kind : Int} {text : ByteArray} {Q : Ending → World → Prop} (b : Bool) (h : Calls Try.prog 26 #[.pointer (some ⟨P, 0, none⟩), .int .i64 kind, .string text] W fun e w' => e = .returned (.bool b) ∧ Q e w') :
    Calls Try.prog 19 #[.pointer (some ⟨P, 0, none⟩), .int .i64 kind, .string text] W fun e w' => e = .returned (.bool b) ∧ Q (.returned (.bool b)) w' := by
  go_enter Try.func19, Try.ntmps19
  go_wp2_with fail
  refine h.mono ?_
  rintro e w1 ⟨rfl, hq⟩
  have HQ : Hid _ := hq
  go_wp2
  go_ret
  exact ⟨ret_bool rfl, HQ.out⟩
end Go.Proofs.Qxb6604722a
