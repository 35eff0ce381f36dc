/-
  The walks of the small readers: zzIsWS, zzSkipWS, zzDigitsEnd, zzStringEnd, zzHasWord.
-/
import Derived.Test.Qxb6604204aRows
import Derived.Test.Qxb6604204aPlain
import Derived.WalkKit
import Derived.ProofKit
import Derived.WalkSpells
import Derived.WalkLawsBesides
import Derived.Below
import Derived.Outline
import Derived.RegionTactic
import Derived.ChangeAlike
import Derived.Deep.QuietTactic
import Derived.BigQuiet
import Derived.Deep.DeepCutAuto
import Derived.Deep.CutBlock
namespace Go.Proofs.Qxb6604204a
open Go.ChangeShapes Go.WideShapes Go.ChangeAt Go.RowKit
open Pl
theorem ret_bool {a b : Bool} (h : a = b) : Ending.returned (.bool a) = .returned (.bool b) := by rw [h]
theorem ret_int {k : IntKind} {a b : Int} (h : a = b) : Ending.returned (.int k a) = .returned (.int k b) := by rw [h]

/-- The bytes 'd 0', 'd 1', .. lie in memory from place 'off' of block 'b' on. -/
def Bytes (w : World) (b off n : Nat) (d : Nat → Int) : Prop := ∀ i, i < n → w.cell? ⟨b, off + i, none⟩ = some (.int .u8 (d i)) ∧ 0 ≤ d i ∧ d i ≤ 255

def StrAt (d : Nat → Int) (n p q : Nat) : Prop := p < n ∧ d p = 34 ∧ Str d n (p + 1) q
/-- The string that begins at 'p' ends just ahead of 'e'. -/
def StrTo (d : Nat → Int) (n p e : Nat) : Prop := ∃ q, e = q + 1 ∧ StrAt d n p q
theorem StrAt.mk' {d : Nat → Int} {n p q : Nat} (h1 : p < n) (h2 : d p = 34) (h3 : Str d n (p + 1) q) : StrAt d n p q := ⟨h1, h2, h3⟩

set_option maxHeartbeats 400000 in
theorem isWS_any (c : Int) (w : World) : Calls Try.prog 25 #[.int .u8 c] w fun e w' => e = .returned (.bool (wsB c)) ∧ w' = w := by
  go_enter Try.func25, Try.ntmps25
  go_wp2
  all_goals (go_ret; exact ⟨ret_bool (by simp [wsB, *]), rfl⟩)

set_option maxHeartbeats 400000 in
theorem skipWS_any (b off n c : Nat) (d : Nat → Int) (p : Nat) (w : World) (hn : n ≤ 1048576) (hp : p ≤ n) (hb : Bytes w b off n d) :
    Calls Try.prog 19 #[.slice (some ⟨b, off, none⟩) n c, .int .i64 p] w fun e w' => (∃ q : Nat, e = .returned (.int .i64 q) ∧ Skip d n p q) ∧ w' = w := by
  go_enter Try.func19, Try.ntmps19
  go_wp2
  go_loop [1] (fun i => ∃ k : Nat, p ≤ k ∧ k ≤ n ∧ i = .int .i64 k ∧ ∀ t, p ≤ t → t < k → wsB (d t) = true) (fun i => n - (intOf i).toNat)
  case atStart => exact ⟨p, Nat.le_refl _, hp, rfl, fun t h1 h2 => by omega⟩
  case round =>
    obtain ⟨k, hk1, hk2, rfl, hk3⟩ := hrel
    have HK : Hid (∀ t, p ≤ t → t < k → wsB (d t) = true) := hk3
    clear hk3
    by_cases hlt : k < n
    · have hc := (hb k hlt).1
      have hc1 := (hb k hlt).2
      cases hw : wsB (d k) with
      | true =>
        go_wp2_with (go_at_call 25; refine (isWS_any _ _).mono ?_; rintro e w' ⟨rfl, rfl⟩)
        go_round
        case rel => exact ⟨k + 1, by omega, by omega, by go_num, fun t h1 h2 => by
          by_cases ht : t = k
          · subst ht; exact hw
          · exact HK.out t h1 (by omega)⟩
        case measure => simp [intOf]; omega
      | false =>
        go_wp2_with (go_at_call 25; refine (isWS_any _ _).mono ?_; rintro e w' ⟨rfl, rfl⟩)
        go_ret
        exact ⟨⟨k, rfl, hk1, hk2, HK.out, .inr hw⟩, rfl⟩
    · go_wp2
      go_ret
      exact ⟨⟨k, rfl, hk1, hk2, HK.out, .inl (by omega)⟩, rfl⟩

set_option maxHeartbeats 400000 in
theorem digits_any (b off n c : Nat) (d : Nat → Int) (p : Nat) (w : World) (hn : n ≤ 1048576) (hp : p ≤ n) (hb : Bytes w b off n d) :
    Calls Try.prog 27 #[.slice (some ⟨b, off, none⟩) n c, .int .i64 p] w fun e w' => (∃ q : Nat, e = .returned (.int .i64 q) ∧ p ≤ q ∧ q ≤ n ∧ (∀ t, p ≤ t → t < q → scalB (d t) = true) ∧ (p < n → 48 ≤ d p → d p ≤ 57 → p < q)) ∧ w' = w := by
  go_enter Try.func27, Try.ntmps27
  go_wp2
  go_loop [1] (fun i => ∃ k : Nat, p ≤ k ∧ k ≤ n ∧ i = .int .i64 k ∧ ∀ t, p ≤ t → t < k → scalB (d t) = true) (fun i => n - (intOf i).toNat)
  case atStart => exact ⟨p, Nat.le_refl _, hp, rfl, fun t h1 h2 => by omega⟩
  case round =>
    obtain ⟨k, hk1, hk2, rfl, hk3⟩ := hrel
    have HK : Hid (∀ t, p ≤ t → t < k → scalB (d t) = true) := hk3
    clear hk3
    by_cases hlt : k < n
    · have hc := (hb k hlt).1
      have hc1 := (hb k hlt).2
      by_cases hw : 48 ≤ d k ∧ d k ≤ 57
      · obtain ⟨hw1, hw2⟩ := hw
        go_wp2
        go_round
        case rel => exact ⟨k + 1, by omega, by omega, by go_num, fun t h1 h2 => by
          by_cases ht : t = k
          · subst ht; simp [scalB, hw1, hw2]
          · exact HK.out t h1 (by omega)⟩
        case measure => simp [intOf]; omega
      · have hw' : d k < 48 ∨ 57 < d k := by omega
        have HW : Hid (d k < 48 ∨ 57 < d k) := hw'
        clear hw
        rcases hw' with hw' | hw'
        all_goals
          go_wp2
          go_ret
          refine ⟨⟨k, rfl, hk1, hk2, HK.out, fun h1 h2 h3 => ?_⟩, rfl⟩
          have := HW.out
          by_cases e : p = k
          · subst e; omega
          · omega
    · go_wp2
      go_ret
      exact ⟨⟨k, rfl, hk1, hk2, HK.out, fun h1 h2 h3 => by omega⟩, rfl⟩

set_option maxHeartbeats 400000 in
theorem stringEnd_any (b off n c : Nat) (d : Nat → Int) (p : Nat) (w : World) (hn : n ≤ 1048576) (hp : p ≤ n) (hb : Bytes w b off n d) :
    Calls Try.prog 21 #[.slice (some ⟨b, off, none⟩) n c, .int .i64 p] w fun e w' => (e = .returned (.int .i64 (-1)) ∨ ∃ q : Nat, e = .returned (.int .i64 q) ∧ StrTo d n p q) ∧ w' = w := by
  by_cases hpn : p < n
  · have hc := (hb p hpn).1
    by_cases h34 : d p = 34
    · have H34 : Hid (d p = 34) := h34
      rw [h34] at hc
      clear h34
      go_enter Try.func21, Try.ntmps21
      go_wp2
      clear hc
      go_loop [5] (fun i => ∃ k : Nat, p + 1 ≤ k ∧ k ≤ n + 1 ∧ i = .int .i64 k ∧ Scan d (p + 1) k) (fun i => n + 1 - (intOf i).toNat)
      case atStart => exact ⟨p + 1, Nat.le_refl _, by omega, by go_num, Scan.start d _⟩
      case round =>
        obtain ⟨k, hk1, hk2, rfl, hk3⟩ := hrel
        have HK : Hid (Scan d (p + 1) k) := hk3
        clear hk3
        by_cases hlt : k < n
        · have hc := (hb k hlt).1
          have hc1 := (hb k hlt).2
          by_cases hq : d k = 34
          · have HQ : Hid (d k = 34) := hq
            rw [hq] at hc
            clear hq hc1
            go_wp2
            go_ret
            exact ⟨.inr ⟨k + 1, by go_num, k, rfl, StrAt.mk' hpn H34.out (HK.out.done hlt HQ.out)⟩, rfl⟩
          · have hqb : (d k == 34) = false := by simpa using hq
            by_cases hs : d k = 92
            · have HQ : Hid (d k = 92) := hs
              rw [hs] at hc
              clear hq hs hc1 hqb
              go_wp2
              go_round
              case rel => exact ⟨k + 2, by omega, by omega, by go_num, HK.out.two HQ.out⟩
              case measure => simp [intOf]; omega
            · go_wp2
              go_round
              case rel => exact ⟨k + 1, by omega, by omega, by go_num, HK.out.one hq hs⟩
              case measure => simp [intOf]; omega
        · go_wp2
          go_ret
          exact ⟨.inl rfl, rfl⟩
    · have h34b : (d p != 34) = true := by simpa using h34
      go_enter Try.func21, Try.ntmps21
      go_wp2
      go_ret
      exact ⟨.inl rfl, rfl⟩
  · go_enter Try.func21, Try.ntmps21
    go_wp2
    go_ret
    exact ⟨.inl rfl, rfl⟩

set_option maxHeartbeats 400000 in
theorem hasWord_any (b off n c : Nat) (d : Nat → Int) (p : Nat) (s : ByteArray) (w : World) (hn : n ≤ 1048576) (hp : p ≤ n) (hs : s.size ≤ 10) (hb : Bytes w b off n d) :
    Calls Try.prog 26 #[.slice (some ⟨b, off, none⟩) n c, .int .i64 p, .string s] w fun e w' => (e = .returned (.bool false) ∨ (e = .returned (.bool true) ∧ p + s.size ≤ n ∧ ∀ t (h : t < s.size), d (p + t) = (s[t].toNat : Int))) ∧ ∃ m, w' = w.drewN m := by
  by_cases hl : n - p < s.size
  · go_enter Try.func26, Try.ntmps26
    go_wp2
    go_ret
    exact ⟨.inl rfl, 0, rfl⟩
  · have hl' : p + s.size ≤ n := by omega
    go_enter Try.func26, Try.ntmps26
    go_wp2
    go_loopw [7] (fun i wr => ∃ k : Nat, k ≤ s.size ∧ i = .int .i64 k ∧ (∀ t (h : t < s.size), t < k → d (p + t) = (s[t].toNat : Int)) ∧ ∃ m, wr = w.drewN m) (fun i _ => s.size - (intOf i).toNat)
    case atStart => exact ⟨0, Nat.zero_le _, rfl, fun t h1 h2 => by omega, 0, rfl⟩
    case round =>
      obtain ⟨k, hk1, rfl, hk2, m, rfl⟩ := hrel
      have HK : Hid (∀ t (h : t < s.size), t < k → d (p + t) = (s[t].toNat : Int)) := hk2
      clear hk2
      by_cases hlt : k < s.size
      · have hc := (hb (p + k) (by omega)).1
        have hc1 := (hb (p + k) (by omega)).2
        have hi1 : (p : Int) + k < n := by omega
        have hi2 : 0 ≤ (p : Int) + k := by omega
        by_cases hq : d (p + k) = (s[k].toNat : Int)
        · have HQ : Hid (d (p + k) = (s[k].toNat : Int)) := hq
          rw [hq] at hc
          clear hq hc1
          go_wp2
          go_region
          go_wp2
          go_roundw
          case rel => exact ⟨k + 1, by omega, by go_num, fun t h1 h2 => by
            by_cases ht : t = k
            · subst ht; exact HQ.out
            · exact HK.out t h1 (by omega), m + 1, rfl⟩
          case measure => simp [intOf]; omega
        · have hqb : (d (p + k) != (s[k].toNat : Int)) = true := by simpa using hq
          go_wp2
          go_region
          go_wp2
          go_ret
          exact ⟨.inl rfl, m + 1, rfl⟩
      · go_wp2
        go_ret
        exact ⟨.inr ⟨rfl, hl', fun t h => HK.out t h (by omega)⟩, m, rfl⟩
end Go.Proofs.Qxb6604204a
