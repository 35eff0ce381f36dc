import Derived.Test.Qxb6604722aLex
import Derived.Test.Qxb6604722aLexF
namespace Go.Proofs.Qxb6604722a
open Go.ChangeShapes Go.WideShapes Go.ChangeAt Go.RowKit
open Pl Lx
set_option linter.unusedSimpArgs false
set_option linter.unusedVariables false

set_option maxHeartbeats 400000 in
theorem isDigit_any (c : Int) (w : World) : Calls Try.prog 43 #[.int .u8 c] w fun e w' => e = .returned (.bool (digB c)) ∧ w' = w := by
  by_cases h1 : 48 ≤ c
  · go_enter Try.func43, Try.ntmps43
    go_wp2
    go_ret
    exact ⟨ret_bool (by simp [digB, h1]), rfl⟩
  · have hd : decide (48 ≤ c) = false := decide_eq_false h1
    go_enter Try.func43, Try.ntmps43
    go_wp2
    go_ret
    exact ⟨ret_bool (by simp [digB, hd]), rfl⟩

set_option maxHeartbeats 1000000 in
theorem isWordStart_any (c : Int) (w : World) : Calls Try.prog 40 #[.int .u8 c] w fun e w' => e = .returned (.bool (wsB c)) ∧ w' = w := by
  by_cases h1 : 97 ≤ c
  · by_cases h2 : c ≤ 122
    · go_enter Try.func40, Try.ntmps40
      go_wp2
      go_ret
      exact ⟨ret_bool (by simp [wsB, h1, h2]), rfl⟩
    · have hd : decide (c ≤ 122) = false := decide_eq_false h2
      have h3 : ¬ c ≤ 90 := by omega
      have h4 : (c == 95) = false := by simp; omega
      go_enter Try.func40, Try.ntmps40
      go_wp2
      go_ret
      exact ⟨ret_bool (by simp [wsB, h1, h2, h3, h4]; omega), rfl⟩
  · have hd : decide (97 ≤ c) = false := decide_eq_false h1
    by_cases h3 : 65 ≤ c
    · by_cases h4 : c ≤ 90
      · go_enter Try.func40, Try.ntmps40
        go_wp2
        go_ret
        exact ⟨ret_bool (by simp [wsB, h1, h3, h4]), rfl⟩
      · have hd2 : decide (c ≤ 90) = false := decide_eq_false h4
        cases h5 : (c == 95)
        · go_enter Try.func40, Try.ntmps40
          go_wp2
          go_ret
          exact ⟨ret_bool (by simp [wsB, h1, h3, h4, h5]; omega), rfl⟩
        · go_enter Try.func40, Try.ntmps40
          go_wp2
          go_ret
          exact ⟨ret_bool (by simp [wsB, h1, h3, h4, h5]), rfl⟩
    · have hd2 : decide (65 ≤ c) = false := decide_eq_false h3
      have h5 : (c == 95) = false := by simp; omega
      go_enter Try.func40, Try.ntmps40
      go_wp2
      go_ret
      exact ⟨ret_bool (by simp [wsB, h1, h3, h5]; omega), rfl⟩

set_option maxHeartbeats 400000 in
theorem isWordPart_any (c : Int) (w : World) : Calls Try.prog 41 #[.int .u8 c] w fun e w' => e = .returned (.bool (wpB c)) ∧ w' = w := by
  cases h1 : wsB c
  · cases h2 : digB c
    · go_enter Try.func41, Try.ntmps41
      go_wp2_with (first | (go_at_call 40; refine (isWordStart_any _ _).mono ?_; rintro e w' ⟨rfl, rfl⟩) | (go_at_call 43; refine (isDigit_any _ _).mono ?_; rintro e w' ⟨rfl, rfl⟩))
      go_ret
      exact ⟨ret_bool (by simp [wpB, h1, h2]), rfl⟩
    · go_enter Try.func41, Try.ntmps41
      go_wp2_with (first | (go_at_call 40; refine (isWordStart_any _ _).mono ?_; rintro e w' ⟨rfl, rfl⟩) | (go_at_call 43; refine (isDigit_any _ _).mono ?_; rintro e w' ⟨rfl, rfl⟩))
      go_ret
      exact ⟨ret_bool (by simp [wpB, h1, h2]), rfl⟩
  · go_enter Try.func41, Try.ntmps41
    go_wp2_with (first | (go_at_call 40; refine (isWordStart_any _ _).mono ?_; rintro e w' ⟨rfl, rfl⟩) | (go_at_call 43; refine (isDigit_any _ _).mono ?_; rintro e w' ⟨rfl, rfl⟩))
    go_ret
    exact ⟨ret_bool (by simp [wpB, h1]), rfl⟩

set_option maxHeartbeats 1000000 in
theorem skipDigits_any (s : ByteArray) (i : Nat) (w : World) (hs : s.size ≤ 1048576) (hi : i ≤ s.size) :
    Calls Try.prog 54 #[.string s, .int .i64 i] w fun e w' => e = .returned (.int .i64 (run s digB s.size i)) ∧ w' = w := by
  have hR := Run.start s digB i
  generalize run s digB s.size i = en at hR
  go_enter Try.func54, Try.ntmps54
  go_wp2
  go_loopg [1] s.size (fun g p wr => ∃ j : Nat, i ≤ j ∧ j ≤ s.size ∧ p = .int .i64 j ∧ Run s digB en g j ∧ w = wr)
  case atStart => exact ⟨i, Nat.le_refl _, hi, rfl, hR, rfl⟩
  case round =>
    clear hR
    obtain ⟨j, hj1, hj2, rfl, hR, rfl⟩ := hrel
    by_cases hlt : j < s.size
    · have hcb := cb_at hlt
      cases hd : digB (s[j].toNat : Int)
      · have he := hR.stop (fun h => by rw [hcb, hd] at h; exact absurd h.2 (by simp))
        have HE : Hid (en = j) := he
        clear he hR hcb
        go_wp2_with (go_at_call 43; refine (isDigit_any _ _).mono ?_; rintro e w' ⟨rfl, rfl⟩)
        go_ret
        exact ⟨ret_int (by rw [HE.out]), rfl⟩
      · obtain ⟨g', hg, hR'⟩ := hR.go hlt (by rw [hcb]; exact hd)
        have HG : Hid (gk = g' + 1) := hg
        clear hg hR hcb
        go_wp2_with (go_at_call 43; refine (isDigit_any _ _).mono ?_; rintro e w' ⟨rfl, rfl⟩)
        go_roundg g'
        case measure => rw [HG.out]; omega
        case rel => exact ⟨j + 1, by omega, by omega, by go_num, hR', rfl⟩
    · have HE : Hid (en = j) := hR.stop (fun h => hlt h.1)
      clear hR
      go_wp2
      go_ret
      exact ⟨ret_int (by rw [HE.out]), rfl⟩
end Go.Proofs.Qxb6604722a
