import Derived.Test.Qxb6604204aQuote
namespace Go.Proofs.Qxb6604204a
open Go.ChangeShapes Go.WideShapes Go.ChangeAt Go.RowKit
open Pl

theorem idx_fin : ∀ k : _root_.Fin 256, decide (Lib.indexByte [44, 125, 93, 32, 9, 13, 10] k.val.toUInt8 < 0) = !(endsB (k.val : Int)) := by decide +kernel

theorem idx_neg (c : Int) (h0 : 0 ≤ c) (h1 : c ≤ 255) : decide (Lib.indexByte (ByteArray.mk #[44, 125, 93, 32, 9, 13, 10]).data.toList c.toNat.toUInt8 < 0) = !(endsB c) := by
  have h := idx_fin ⟨c.toNat, by omega⟩
  have e : ((c.toNat : Nat) : Int) = c := by omega
  simp only [e] at h
  exact h

theorem Bytes.at1 {w : World} {b off n : Nat} {d : Nat → Int} (h : Bytes w b off n d) (k : Nat) : Bytes w b (off + (k + 1)) (n - (k + 1)) (fun t => d (k + 1 + t)) := h.from (k + 1)

theorem str_cut {d : Nat → Int} {n i q : Nat} (h : Str d n (i + 1) q) : Str (fun t => d (i + 1 + t)) (n - (i + 1)) 0 (q - (i + 1)) := by
  have h1 := h.1
  have h2 := h.2.1
  have e : q = i + 1 + (q - (i + 1)) := by omega
  rw [e] at h
  exact Str.shift (n := n) (a := 0) h (by omega)

set_option maxHeartbeats 1000000 in
theorem valueEnd_string (b off n c : Nat) (d : Nat → Int) (i q : Nat) (w : World) (hn : n ≤ 1048576) (hnc : n ≤ c) (hb : Bytes w b off n d) (hi : i < n) (hd : d i = 34) (hs : Str d n (i + 1) q) :
    Calls Try.prog 23 #[.slice (some ⟨b, off, none⟩) n c, .int .i64 i] w fun x w' => x = .returned (.int .i64 (q + 1 : Nat)) ∧ w' = w := by
  have hc := (hb i hi).1
  rw [hd] at hc
  have HS : Hid (Str d n (i + 1) q) := hs
  have h1 := hs.1
  have h2 := hs.2.1
  clear hd hs
  go_enter Try.func23, Try.ntmps23
  go_wp2_with fail
  refine (closing_any b (off + (i + 1)) (n - (i + 1)) (c - (i + 1)) _ (q - (i + 1)) _ (by omega) (by omega) (hb.at1 i) (str_cut HS.out)).mono ?_
  rintro e w' ⟨rfl, rfl⟩
  go_wp2
  go_ret
  exact ⟨ret_int (by omega), rfl⟩

set_option maxHeartbeats 1000000 in
theorem valueEnd_scalar (b off n c : Nat) (d : Nat → Int) (i e : Nat) (w : World) (hn : n ≤ 1048576) (hb : Bytes w b off n d) (hi : i < n) (hie : i ≤ e) (hen : e ≤ n) (hd : d i ≠ 34) (ho : opensB (d i) = false)
    (hin : ∀ k, i ≤ k → k < e → endsB (d k) = false) (hout : e = n ∨ endsB (d e) = true) :
    Calls Try.prog 23 #[.slice (some ⟨b, off, none⟩) n c, .int .i64 i] w fun x w' => x = .returned (.int .i64 e) ∧ w' = w := by
  have hc := (hb i hi).1
  have h34 : (d i == 34) = false := by simpa using hd
  have h123 : (d i == 123) = false := by simp [opensB] at ho; simpa using ho.1
  have h91 : (d i == 91) = false := by simp [opensB] at ho; simpa using ho.2
  have HI : Hid (∀ k, i ≤ k → k < e → endsB (d k) = false) := hin
  have HO : Hid (e = n ∨ endsB (d e) = true) := hout
  clear hd ho hin hout
  go_enter Try.func23, Try.ntmps23
  go_wp2_with fail
  clear h34 h123 h91 hc
  go_loopg [1] (n - i) (fun g j wr => ∃ k : Nat, i ≤ k ∧ k ≤ e ∧ k + g = n ∧ j = .int .i64 k ∧ w = wr)
  case atStart => exact ⟨i, Nat.le_refl _, hie, by omega, rfl, rfl⟩
  case round =>
    obtain ⟨k, hk1, hk2, hg, rfl, rfl⟩ := hrel
    by_cases hkn : k < n
    · have hc := (hb k hkn).1
      have hc1 := (hb k hkn).2
      have hx := idx_neg (d k) hc1.1 hc1.2
      by_cases hke : k < e
      · have hen2 := HI.out k hk1 hke
        rw [hen2] at hx
        have HX : Hid (decide (Lib.indexByte (ByteArray.mk #[44, 125, 93, 32, 9, 13, 10]).data.toList (d k).toNat.toUInt8 < 0) = true) := hx
        clear hx hen2
        go_wp2_with fail
        refine (Try.strings_IndexByte _ _ _).mono ?_
        rintro x w' ⟨rfl, rfl⟩
        generalize Lib.indexByte (ByteArray.mk #[44, 125, 93, 32, 9, 13, 10]).data.toList (d k).toNat.toUInt8 = r at HX
        have hr : r < 0 := of_decide_eq_true HX.out
        go_wp2
        go_roundg (gk - 1)
        case measure => omega
        case rel => exact ⟨k + 1, by omega, by omega, by omega, by go_num, rfl⟩
      · have hke2 : k = e := by omega
        have hen2 : endsB (d k) = true := by
          rcases HO.out with h | h
          · omega
          · rw [hke2]; exact h
        have HE : Hid (k = e) := hke2
        rw [hen2] at hx
        have HX : Hid (decide (Lib.indexByte (ByteArray.mk #[44, 125, 93, 32, 9, 13, 10]).data.toList (d k).toNat.toUInt8 < 0) = false) := hx
        clear hx hen2 hke2
        go_wp2_with fail
        refine (Try.strings_IndexByte _ _ _).mono ?_
        rintro x w' ⟨rfl, rfl⟩
        generalize Lib.indexByte (ByteArray.mk #[44, 125, 93, 32, 9, 13, 10]).data.toList (d k).toNat.toUInt8 = r at HX
        have hr : ¬ r < 0 := of_decide_eq_false HX.out
        go_wp2
        go_ret
        exact ⟨ret_int (by have := HE.out; omega), rfl⟩
    · go_wp2
      go_ret
      exact ⟨ret_int (by omega), rfl⟩

theorem closes_bools {c : Int} (h : closesB c = true) : (c == 34) = false ∧ (c == 123) = false ∧ (c == 91) = false ∧ ((c == 125) = true ∨ ((c == 125) = false ∧ (c == 93) = true)) := by
  have : c = 125 ∨ c = 93 := by simpa [closesB] using h
  rcases this with h | h <;> subst h <;> decide

set_option maxHeartbeats 2000000 in
theorem valueEnd_deep (b off n c : Nat) (d : Nat → Int) (i e : Nat) (w : World) (hn : n ≤ 1048576) (hnc : n ≤ c) (hb : Bytes w b off n d) (ho : opensB (d i) = true) (hd : Dep d n e i 0) :
    Calls Try.prog 23 #[.slice (some ⟨b, off, none⟩) n c, .int .i64 i] w fun x w' => x = .returned (.int .i64 e) ∧ w' = w := by
  have hi : i < n := hd.lt
  have hc := (hb i hi).1
  have h34 : (d i == 34) = false := by
    have : d i = 123 ∨ d i = 91 := by simpa [opensB] using ho
    rcases this with h | h <;> rw [h] <;> decide
  have hop : (d i == 123) = true ∨ ((d i == 123) = false ∧ (d i == 91) = true) := by
    have : d i = 123 ∨ d i = 91 := by simpa [opensB] using ho
    rcases this with h | h <;> rw [h] <;> decide
  have HD : Hid (Dep d n e i 0) := hd
  clear hd ho
  rcases hop with h1 | ⟨h1, h2⟩
  all_goals
    go_enter Try.func23, Try.ntmps23
    go_wp2_with fail
    go_loopg [1, 5] (n - i) (fun g j k wr => ∃ (x y : Nat), y ≤ x ∧ x + g = n ∧ j = .int .i64 x ∧ k = .int .i64 y ∧ Dep d n e x y ∧ w = wr)
    case atStart => exact ⟨i, 0, Nat.zero_le _, by omega, rfl, rfl, HD.out, rfl⟩
    case round =>
      clear HD
      obtain ⟨x, y, hyx, hg, rfl, rfl, hD, rfl⟩ := hrel
      obtain ⟨hxn, hst⟩ := hD.step
      have hcx := (hb x hxn).1
      clear hD
      rcases hst with ⟨hq, q, hs, hD⟩ | ⟨hq, hD⟩ | ⟨hq, rfl, hD⟩ | ⟨hq, hy, hD⟩ | ⟨hq1, hq2, hq3, hD⟩
      · rw [hq] at hcx
        have HS : Hid (Str d n (x + 1) q) := hs
        have hs1 := hs.1
        have hs2 := hs.2.1
        clear hq hs
        go_wp2_with fail
        refine (closing_any b (off + (x + 1)) (n - (x + 1)) (c - (x + 1)) _ (q - (x + 1)) _ (by omega) (by omega) (hb.at1 x) (str_cut HS.out)).mono ?_
        rintro z w' ⟨rfl, rfl⟩
        go_wp2
        go_roundg (n - (q + 1))
        case measure => omega
        case rel => exact ⟨q + 1, y, by omega, by omega, by congr 1; omega, rfl, hD, rfl⟩
      · have h34' : (d x == 34) = false := by
          have : d x = 123 ∨ d x = 91 := by simpa [opensB] using hq
          rcases this with h | h <;> rw [h] <;> decide
        have hop : (d x == 123) = true ∨ ((d x == 123) = false ∧ (d x == 91) = true) := by
          have : d x = 123 ∨ d x = 91 := by simpa [opensB] using hq
          rcases this with h | h <;> rw [h] <;> decide
        clear hq
        rcases hop with hp1 | ⟨hp1, hp2⟩
        all_goals
          go_wp2
          go_roundg (n - (x + 1))
          case measure => omega
          case rel => exact ⟨x + 1, y + 1, by omega, by omega, by go_num, by go_num, hD, rfl⟩
      · have hcs := closes_bools hq
        obtain ⟨ha, hb1, hb2, hcl⟩ := hcs
        have HE : Hid (e = x + 1) := hD
        clear hq hD
        rcases hcl with hp1 | ⟨hp1, hp2⟩
        all_goals
          go_wp2
          go_ret
          exact ⟨ret_int (by have := HE.out; omega), rfl⟩
      · have hcs := closes_bools hq
        obtain ⟨ha, hb1, hb2, hcl⟩ := hcs
        have hy2 : ((y : Int) - 1 == 0) = false := by simp; omega
        clear hq
        rcases hcl with hp1 | ⟨hp1, hp2⟩
        all_goals
          go_wp2
          go_roundg (n - (x + 1))
          case measure => omega
          case rel => exact ⟨x + 1, y - 1, by omega, by omega, by go_num, by congr 1; omega, hD, rfl⟩
      · have ha : (d x == 34) = false := by simpa using hq1
        have hb1 : (d x == 123) = false := by simp [opensB] at hq2; simpa using hq2.1
        have hb2 : (d x == 91) = false := by simp [opensB] at hq2; simpa using hq2.2
        have hc1 : (d x == 125) = false := by simp [closesB] at hq3; simpa using hq3.1
        have hc2 : (d x == 93) = false := by simp [closesB] at hq3; simpa using hq3.2
        clear hq1 hq2 hq3
        go_wp2
        go_roundg (n - (x + 1))
        case measure => omega
        case rel => exact ⟨x + 1, y, by omega, by omega, by go_num, rfl, hD, rfl⟩

theorem valueEnd_any (b off n c : Nat) (d : Nat → Int) (i e : Nat) (w : World) (hn : n ≤ 1048576) (hnc : n ≤ c) (hb : Bytes w b off n d) (hg : Pl.Good d n n i e) :
    Calls Try.prog 23 #[.slice (some ⟨b, off, none⟩) n c, .int .i64 i] w fun x w' => x = .returned (.int .i64 e) ∧ w' = w := by
  obtain ⟨h1, h2, h3⟩ := hg
  rcases h3 with ⟨hq, q, hs, rfl⟩ | ⟨ho, hd⟩ | ⟨ha, hb', hc, hd⟩
  · exact valueEnd_string b off n c d i q w hn hnc hb (by omega) hq hs
  · exact valueEnd_deep b off n c d i e w hn hnc hb ho hd
  · refine valueEnd_scalar b off n c d i e w hn hb (by omega) (Nat.le_of_lt h1) h2 ha hb' hc ?_
    rcases hd with h | h | h
    · exact .inl h
    · exact .inr h
    · exact .inl h

set_option maxHeartbeats 400000 in
theorem zzValueEnd_any (b off n c : Nat) (d : Nat → Int) (i e : Nat) (w : World) (hn : n ≤ 1048576) (hnc : n ≤ c) (hb : Bytes w b off n d) (hg : Pl.Good d n n i e) :
    Calls Try.prog 16 #[.slice (some ⟨b, off, none⟩) n c, .int .i64 i] w fun x w' => x = .returned (.int .i64 e) ∧ w' = w := by
  go_enter Try.func16, Try.ntmps16
  go_wp2_with (go_at_call 23; refine (valueEnd_any b off n c d i e _ hn hnc hb hg).mono ?_; rintro x w' ⟨rfl, rfl⟩)
  go_ret
  exact ⟨rfl, rfl⟩
end Go.Proofs.Qxb6604204a
