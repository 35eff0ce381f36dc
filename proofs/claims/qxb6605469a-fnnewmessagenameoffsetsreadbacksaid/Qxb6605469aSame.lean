import Derived.Test.Qxb6605469aLow
set_option linter.unusedSimpArgs false
set_option linter.unusedVariables false
namespace Go.Proofs.Qxb6605469a
open Go.ChangeShapes Go.WideShapes Go.ChangeAt Go.RowKit

def lowI (c : Int) : Int := if upB c = true then c + 32 else c
theorem lowI_u (b : UInt8) : ((lowU b).toNat : Int) = lowI (b.toNat : Int) := by
  unfold lowI
  cases h : upB (b.toNat : Int)
  · rw [low_same h]; simp
  · rw [low_toNat h]; simp
theorem low_size (s : ByteArray) : (low s).size = s.size := by
  show (s.data.toList.map lowU).toArray.size = _
  rw [List.size_toArray, List.length_map, len_size]
theorem low_at (s : ByteArray) (t : Nat) (h1 : t < (low s).size) (h2 : t < s.size) : ((low s)[t].toNat : Int) = lowI (s[t].toNat : Int) := by
  rw [← lowI_u]
  have e1 := getD_at (low s) t h1
  have e2 : (low s).data.toList.getD t 0 = lowU s[t] := by
    show (s.data.toList.map lowU).getD t 0 = _
    rw [List.getD_eq_getElem?_getD, List.getElem?_map, List.getElem?_eq_getElem (by rw [len_size]; exact h2), at_list s t h2]
    rfl
  rw [← e1, e2]

set_option maxHeartbeats 400000 in
theorem lowerByte_any (b : UInt8) (w : World) : Calls Try.prog 26 #[.int .u8 b.toNat] w fun e w' => e = .returned (.int .u8 (lowI (b.toNat : Int))) ∧ w' = w := by
  have hb : b.toNat < 256 := b.toNat_lt
  by_cases h1 : (65 : Int) ≤ (b.toNat : Int)
  · by_cases h2 : (b.toNat : Int) ≤ 90
    · have hl : Hid (lowI (b.toNat : Int) = (b.toNat : Int) + 32) := by simp [Hid, lowI, upB, h1, h2]
      go_enter Try.func26, Try.ntmps26
      go_wp2
      go_ret
      exact ⟨by rw [hl.out]; rfl, rfl⟩
    · have hl : Hid (lowI (b.toNat : Int) = (b.toNat : Int)) := by simp [Hid, lowI, upB, h1, h2]
      go_enter Try.func26, Try.ntmps26
      go_wp2
      go_ret
      exact ⟨by rw [hl.out]; rfl, rfl⟩
  · have hl : Hid (lowI (b.toNat : Int) = (b.toNat : Int)) := by simp [Hid, lowI, upB, h1]
    go_enter Try.func26, Try.ntmps26
    go_wp2
    go_ret
    exact ⟨by rw [hl.out]; rfl, rfl⟩

set_option maxHeartbeats 1000000 in
theorem sameLower_any (x : ByteArray) (w : World) (hs : x.size ≤ 1048576) : Calls Try.prog 16 #[.string (low x), .string x] w fun e w' => e = .returned (.bool true) ∧ ∃ m, w' = w.drewN m := by
  have hsz := low_size x
  have HA : Hid (∀ t (h1 : t < (low x).size) (h2 : t < x.size), ((low x)[t].toNat : Int) = lowI (x[t].toNat : Int)) := low_at x
  generalize low x = g at hsz HA
  go_enter Try.func16, Try.ntmps16
  go_wp2_with fail
  go_loopw [5] (fun v wx => ∃ m, wx = w.drewN m ∧ ∃ t : Nat, t ≤ x.size ∧ v = .int .i64 t) (fun v _ => x.size - (intOf v).toNat)
  case atStart => exact ⟨0, rfl, 0, Nat.zero_le _, rfl⟩
  case round =>
    obtain ⟨m, rfl, t, ht, rfl⟩ := hrel
    by_cases htx : t < x.size
    · have htg : t < g.size := by omega
      have hv : ((g[t].toNat : Int) != lowI (x[t].toNat : Int)) = false := by rw [HA.out t htg htx]; simp
      obtain ⟨w1, hw1⟩ : ∃ w1, w1 = w.drewN m := ⟨_, rfl⟩
      have HW : Hid (w1 = w.drewN m) := hw1
      rw [← hw1]
      clear hw1
      have g1 : (t : Int) < (x.size : Int) := by omega
      have g2 : (0 : Int) ≤ (t : Int) := by omega
      have g3 : (t : Int) < (g.size : Int) := by omega
      go_upto_region 6 with fail
      go_quiet ((go_at_call 26; exact Calls.quiet_of_same (lowerByte_any x[t] _)))
      go_wp2
      go_roundw
      case rel => exact ⟨m + nq, by rw [HW.out]; exact World.drewN_drewN _ _ _, t + 1, by omega, by go_num⟩
      case measure => simp [intOf]; omega
    · go_wp2
      go_ret
      exact ⟨rfl, m, rfl⟩
end Go.Proofs.Qxb6605469a
