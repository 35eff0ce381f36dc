import Derived.Test.Qxb6604722aLeaf
namespace Go.Proofs.Qxb6604722a
open Go.ChangeShapes Go.WideShapes Go.ChangeAt Go.RowKit
open Pl Lx
set_option linter.unusedSimpArgs false
set_option linter.unusedVariables false

def atB (s : ByteArray) (n : Nat) (p : Int → Bool) : Bool := decide (n < s.size) && p (cb s n)
def dotP (c : Int) : Bool := c == 46
def expP (c : Int) : Bool := c == 101 || c == 69
def sgnP (c : Int) : Bool := c == 43 || c == 45
def snX (s : ByteArray) (x : Nat) : Nat := if atB s x sgnP = true then x + 1 else x
def snE (s : ByteArray) (n : Nat) (d : Bool) : Nat × Bool :=
  if atB s n expP = true then (if atB s (snX s (n + 1)) digB = true then (run s digB s.size (snX s (n + 1)), false) else (n, d)) else (n, d)
/-- What ScanNumber answers. -/
def sn (s : ByteArray) : Nat × Bool :=
  if atB s (run s digB s.size 0) dotP = true then
    (if run s digB s.size (run s digB s.size 0 + 1) = 1 then (0, false) else snE s (run s digB s.size (run s digB s.size 0 + 1)) false)
  else if run s digB s.size 0 = 0 then (0, false) else snE s (run s digB s.size 0) true

theorem atB_no {s : ByteArray} {n : Nat} {p : Int → Bool} (h : ¬ n < s.size) : atB s n p = false := by simp [atB, h]
theorem atB_at {s : ByteArray} {n : Nat} {p : Int → Bool} (h : n < s.size) : atB s n p = p (s[n].toNat : Int) := by simp [atB, h, cb_at h]
theorem atB_lt {s : ByteArray} {n : Nat} {p : Int → Bool} (h : atB s n p = true) : n < s.size := by
  simp only [atB, Bool.and_eq_true, decide_eq_true_eq] at h; exact h.1

theorem snX_le {s : ByteArray} {x : Nat} (h : x ≤ s.size) : snX s x ≤ s.size ∧ x ≤ snX s x := by
  unfold snX; split
  · rename_i h1; have := atB_lt h1; omega
  · omega
theorem snE_le {s : ByteArray} {n : Nat} (d : Bool) (h : n ≤ s.size) : (snE s n d).1 ≤ s.size := by
  unfold snE; split
  · rename_i h1
    have h2 := atB_lt h1
    split
    · exact run_size _ _ (snX_le (by omega)).1
    · exact h
  · exact h
theorem sn_le (s : ByteArray) : (sn s).1 ≤ s.size := by
  have h0 := run_size (s := s) (p := digB) s.size 0 (Nat.zero_le _)
  unfold sn; split
  · rename_i h1
    have h2 := atB_lt h1
    split
    · exact Nat.zero_le _
    · exact snE_le _ (run_size _ _ (by omega))
  · split
    · exact Nat.zero_le _
    · exact snE_le _ h0

set_option maxRecDepth 20000 in
set_option maxHeartbeats 2000000 in
theorem scanNumber_any (s : ByteArray) (w : World) (hs : s.size ≤ 1048576) :
    Calls Try.prog 52 #[.string s] w fun e w' => e = .returned (.tuple #[.int .i64 ((sn s).1 : Nat), .bool (sn s).2]) ∧ w' = w := by
  have hn0 := run_size (s := s) (p := digB) s.size 0 (Nat.zero_le _)
  go_enter Try.func52, Try.ntmps52
  go_wp2_with fail
  refine (skipDigits_any s 0 _ hs (Nat.zero_le _)).mono ?_
  rintro e w' ⟨rfl, rfl⟩
  obtain ⟨n0, hn⟩ : ∃ n0, n0 = run s digB s.size 0 := ⟨_, rfl⟩
  rw [← hn] at hn0 ⊢
  have HN : Hid (n0 = run s digB s.size 0) := hn
  clear hn
  go_upto_region 3 with fail
  go_cut [16] from 7 to 15 (fun t wx => t = .bool (atB s n0 dotP) ∧ w' = wx)
  case first =>
    by_cases hlt : n0 < s.size
    · go_wp2
      go_meet
      case rel => exact ⟨by rw [atB_at hlt]; rfl, rfl⟩
    · go_wp2
      go_meet
      case rel => exact ⟨by rw [atB_no hlt], rfl⟩
  case rest =>
    obtain ⟨rfl, rfl⟩ := hcut
    go_upto_if 16 with fail
    go_cut [2, 3] from 7 to 22 (fun a b wx => (∃ (n : Nat) (d : Bool), a = .int .i64 n ∧ b = .bool d ∧ n ≤ s.size ∧ Hid (sn s = if n = 0 then (0, false) else snE s n d)) ∧ w' = wx)
    case first =>
      cases hdot : atB s n0 dotP
      · go_wp2
        go_meet
        case rel => exact ⟨⟨n0, true, rfl, rfl, hn0, by unfold Hid sn; rw [← HN.out, hdot]; simp⟩, rfl⟩
      · have hlt := atB_lt hdot
        go_wp2_with fail
        rw [show ((n0 : Int) + 1) = ((n0 + 1 : Nat) : Int) from by omega]
        refine (skipDigits_any s (n0 + 1) _ hs (by omega)).mono ?_
        rintro e w' ⟨rfl, rfl⟩
        obtain ⟨n1, hn1⟩ : ∃ n1, n1 = run s digB s.size (n0 + 1) := ⟨_, rfl⟩
        rw [← hn1]
        have hn1a : n1 ≤ s.size := by rw [hn1]; exact run_size _ _ (by omega)
        have hn1b : n0 + 1 ≤ n1 := by rw [hn1]; exact run_le _ _
        have HN1 : Hid (n1 = run s digB s.size (n0 + 1)) := hn1
        clear hn1
        by_cases h1 : n1 = 1
        · have q : ((n1 : Int) == 1) = true := by simp; omega
          have HS : Hid (sn s = (0, false)) := by unfold Hid sn; rw [← HN.out, hdot, ← HN1.out]; simp [h1]
          clear h1
          go_wp2
          go_ret2
          exact ⟨by rw [HS.out]; rfl, rfl⟩
        · have q : ((n1 : Int) == 1) = false := by simp; omega
          have HS : Hid (sn s = if n1 = 0 then (0, false) else snE s n1 false) := by unfold Hid sn; rw [← HN.out, hdot, ← HN1.out, if_neg (by omega : ¬ n1 = 0)]; simp [h1]
          clear h1
          go_wp2
          go_meet
          case rel => exact ⟨⟨n1, false, rfl, rfl, hn1a, HS⟩, rfl⟩
    case rest =>
      obtain ⟨⟨n, d, rfl, rfl, hns, HS⟩, rfl⟩ := hcut
      clear hn0 HN
      by_cases hz : n = 0
      · have q : ((n : Int) == 0) = true := by simp; omega
        have HS2 : Hid (sn s = (0, false)) := by unfold Hid; rw [HS.out, if_pos hz]
        clear hz HS
        go_wp2
        go_ret2
        exact ⟨by rw [HS2.out]; rfl, rfl⟩
      have q : ((n : Int) == 0) = false := by simp; omega
      have HS2 : Hid (sn s = snE s n d) := by unfold Hid; rw [HS.out, if_neg hz]
      clear hz HS
      go_upto_region 10 with fail
      go_cut [40] from 25 to 39 (fun t wx => t = .bool (atB s n expP) ∧ w' = wx)
      case first =>
        by_cases hlt : n < s.size
        · cases h1 : ((s[n].toNat : Int) == 101)
          · go_wp2
            go_meet
            case rel => exact ⟨by rw [atB_at hlt, expP, h1]; rfl, rfl⟩
          · go_wp2
            go_meet
            case rel => exact ⟨by rw [atB_at hlt, expP, h1]; rfl, rfl⟩
        · go_wp2
          go_meet
          case rel => exact ⟨by rw [atB_no hlt], rfl⟩
      case rest =>
        obtain ⟨rfl, rfl⟩ := hcut
        cases hexp : atB s n expP
        · have HS3 : Hid (sn s = (n, d)) := by unfold Hid; rw [HS2.out]; unfold snE; rw [hexp]; rfl
          clear HS2
          go_wp2
          go_ret2
          exact ⟨by rw [HS3.out]; rfl, rfl⟩
        · have hlt := atB_lt hexp
          go_upto_region 12 with fail
          go_cut [58] from 43 to 57 (fun t wx => t = .bool (atB s (n + 1) sgnP) ∧ w' = wx)
          case first =>
            by_cases hlt2 : n + 1 < s.size
            · have hl2 : (n : Int) + 1 < s.size := by omega
              cases h1 : ((s[n + 1].toNat : Int) == 43)
              · go_wp2
                go_meet
                case rel => exact ⟨by rw [atB_at hlt2, sgnP, h1]; rfl, rfl⟩
              · go_wp2
                go_meet
                case rel => exact ⟨by rw [atB_at hlt2, sgnP, h1]; rfl, rfl⟩
            · go_wp2
              go_meet
              case rel => exact ⟨by rw [atB_no hlt2], rfl⟩
          case rest =>
            obtain ⟨rfl, rfl⟩ := hcut
            go_upto_if 58 with fail
            go_cut [4] from 43 to 60 (fun a wx => a = .int .i64 (snX s (n + 1)) ∧ w' = wx)
            case first =>
              cases hsg : atB s (n + 1) sgnP
              · go_wp2
                go_meet
                case rel => exact ⟨by unfold snX; rw [hsg]; simp, rfl⟩
              · go_wp2
                go_meet
                case rel => exact ⟨by unfold snX; rw [hsg]; simp, rfl⟩
            case rest =>
              obtain ⟨rfl, rfl⟩ := hcut
              obtain ⟨x, hx⟩ : ∃ x, x = snX s (n + 1) := ⟨_, rfl⟩
              have hxs : x ≤ s.size := by rw [hx]; exact (snX_le (by omega)).1
              rw [← hx]
              have HX : Hid (x = snX s (n + 1)) := hx
              clear hx
              go_upto_region 14 with fail
              go_cut [70] from 61 to 69 (fun t wx => t = .bool (atB s x digB) ∧ w' = wx)
              case first =>
                by_cases hlt2 : x < s.size
                · go_wp2_with (go_at_call 43; refine (isDigit_any _ _).mono ?_; rintro e w' ⟨rfl, rfl⟩)
                  go_meet
                  case rel => exact ⟨by rw [atB_at hlt2], rfl⟩
                · go_wp2
                  go_meet
                  case rel => exact ⟨by rw [atB_no hlt2], rfl⟩
              case rest =>
                obtain ⟨rfl, rfl⟩ := hcut
                cases hdg : atB s x digB
                · have HS3 : Hid (sn s = (n, d)) := by unfold Hid; rw [HS2.out]; unfold snE; rw [hexp, ← HX.out, hdg]; rfl
                  clear HS2
                  go_wp2
                  go_ret2
                  exact ⟨by rw [HS3.out]; rfl, rfl⟩
                · have HS3 : Hid (sn s = (run s digB s.size x, false)) := by unfold Hid; rw [HS2.out]; unfold snE; rw [hexp, ← HX.out, hdg]; rfl
                  clear HS2
                  go_wp2_with fail
                  refine (skipDigits_any s x _ hs hxs).mono ?_
                  rintro e w' ⟨rfl, rfl⟩
                  go_wp2
                  go_ret2
                  exact ⟨by rw [HS3.out]; rfl, rfl⟩
end Go.Proofs.Qxb6604722a
