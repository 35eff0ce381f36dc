import Derived.Test.Qxb6605509aRows
import Derived.Test.Qxb6605509aShelf
import Derived.WalkKit
import Derived.ProofKit
import Derived.WalkSpells
import Derived.WalkLawsBesides
import Derived.Below
import Derived.Outline
import Derived.RegionTactic
import Derived.ChangeAlike
import Derived.Deep.QuietTactic
import Derived.BigQuiet
import Derived.Deep.DeepCutAuto
import Derived.Deep.CutBlock
import Derived.Deep.OwnRows
import Derived.Laws.CopyOwn
namespace Go.Proofs.Qxb6605509a
open Go.ChangeShapes Go.WideShapes Go.ChangeAt Go.RowKit
set_option linter.unusedSimpArgs false
set_option linter.unusedVariables false
theorem ret_bool {a b : Bool} (h : a = b) : Ending.returned (.bool a) = .returned (.bool b) := by rw [h]

/-- The bytes 'd 0', 'd 1', .. lie in memory from place 'off' of block 'b' on. -/
def Bytes (w : World) (b off n : Nat) (d : Nat → Int) : Prop := ∀ i, i < n → w.cell? ⟨b, off + i, none⟩ = some (.int .u8 (d i)) ∧ 0 ≤ d i ∧ d i ≤ 255

theorem Bytes.below {w w' : World} {b off n B : Nat} {d : Nat → Int} (h : Bytes w b off n d) (hb : Below B w w') (hB : b < B) : Bytes w' b off n d :=
  fun i hi => ⟨(hb.cell (p := ⟨b, off + i, none⟩) hB).trans (h i hi).1, (h i hi).2⟩

def blankB (c : Int) : Bool := c == 32 || c == 9 || c == 13 || c == 10 || c == 0 || decide (128 ≤ c)
def indB (c : Int) : Bool := c == 44 || c == 91 || c == 93 || c == 123 || c == 125 || c == 63 || c == 58 || c == 34 || c == 39
def plainB (c : Int) : Bool := !blankB c && !indB c

set_option maxHeartbeats 400000 in
theorem zzBlank_any (c : Int) (w : World) : Calls Try.prog 13 #[.int .u8 c] w fun e w' => e = .returned (.bool (blankB c)) ∧ w' = w := by
  go_enter Try.func13, Try.ntmps13
  go_wp2
  all_goals (go_ret; exact ⟨ret_bool (by simp [blankB, *]), rfl⟩)

set_option maxHeartbeats 400000 in
theorem zzInd_any (c : Int) (w : World) : Calls Try.prog 17 #[.int .u8 c] w fun e w' => e = .returned (.bool (indB c)) ∧ w' = w := by
  go_enter Try.func17, Try.ntmps17
  go_wp2
  all_goals (go_ret; exact ⟨ret_bool (by simp [indB, *]), rfl⟩)

set_option maxHeartbeats 400000 in
theorem yamlBlank_any (c : Int) (w : World) : Calls Try.prog 18 #[.int .u8 c] w fun e w' => e = .returned (.bool (blankB c)) ∧ w' = w := by
  go_enter Try.func18, Try.ntmps18
  go_wp2
  all_goals (go_ret; exact ⟨ret_bool (by simp [blankB, *]), rfl⟩)

set_option maxHeartbeats 400000 in
theorem zzPlain_any (c : Int) (w : World) : Calls Try.prog 14 #[.int .u8 c] w fun e w' => e = .returned (.bool (plainB c)) ∧ w' = w := by
  cases hb : blankB c
  · go_enter Try.func14, Try.ntmps14
    go_wp2_with (first | (go_at_call 13; refine (zzBlank_any _ _).mono ?_; rintro e w' ⟨rfl, rfl⟩) | (go_at_call 17; refine (zzInd_any _ _).mono ?_; rintro e w' ⟨rfl, rfl⟩))
    go_ret
    exact ⟨ret_bool (by simp [plainB, hb]), rfl⟩
  · go_enter Try.func14, Try.ntmps14
    go_wp2_with (first | (go_at_call 13; refine (zzBlank_any _ _).mono ?_; rintro e w' ⟨rfl, rfl⟩) | (go_at_call 17; refine (zzInd_any _ _).mono ?_; rintro e w' ⟨rfl, rfl⟩))
    go_ret
    exact ⟨ret_bool (by simp [plainB, hb]), rfl⟩

theorem ind_fin : ∀ k : Fin 128, decide (0 ≤ Lib.indexByte [44, 91, 93, 123, 125, 63, 58, 34, 39] k.val.toUInt8) = indB (k.val : Int) := by decide +kernel

theorem ind_idx (c : Int) (h0 : 0 ≤ c) (h1 : c < 128) : decide (0 ≤ Lib.indexByte (ByteArray.mk #[44, 91, 93, 123, 125, 63, 58, 34, 39]).data.toList c.toNat.toUInt8) = indB c := by
  have h := ind_fin ⟨c.toNat, by omega⟩
  have e : ((c.toNat : Nat) : Int) = c := by omega
  simp only [e] at h
  exact h

theorem blank_lt {c : Int} (h : blankB c = false) : c < 128 := by
  simp only [blankB, Bool.or_eq_false_iff, decide_eq_false_iff_not] at h; omega

set_option maxHeartbeats 400000 in
theorem yamlPlain_any (c : Int) (w : World) (h0 : 0 ≤ c) (h1 : c ≤ 255) : Calls Try.prog 19 #[.int .u8 c] w fun e w' => e = .returned (.bool (plainB c)) ∧ w' = w := by
  cases hb : blankB c
  · have hlt := blank_lt hb
    have hi := ind_idx c h0 hlt
    have HI : Hid (decide (0 ≤ Lib.indexByte (ByteArray.mk #[44, 91, 93, 123, 125, 63, 58, 34, 39]).data.toList c.toNat.toUInt8) = indB c) := hi
    clear hi
    go_enter Try.func19, Try.ntmps19
    go_wp2_with (go_at_call 18; refine (yamlBlank_any _ _).mono ?_; rintro e w' ⟨rfl, rfl⟩)
    refine (Try.strings_ContainsRune_ascii _ _ _ (by omega) (by omega)).mono ?_
    rintro e w' ⟨rfl, rfl⟩
    rw [HI.out]
    go_wp2
    go_ret
    exact ⟨ret_bool (by simp [plainB, hb]), rfl⟩
  · go_enter Try.func19, Try.ntmps19
    go_wp2_with (go_at_call 18; refine (yamlBlank_any _ _).mono ?_; rintro e w' ⟨rfl, rfl⟩)
    go_ret
    exact ⟨ret_bool (by simp [plainB, hb]), rfl⟩

/-- Does the byte behind 'i' let what stands at 'i' end a token? -/
def after (d : Nat → Int) (n i : Nat) : Bool := decide (i + 1 = n) || blankB (d (i + 1))
def openB (c : Int) : Bool := c == 44 || c == 91 || c == 123 || c == 63
def dotB (d : Nat → Int) (i : Nat) : Bool := decide (i = 0) || d (i - 1) == 10 || d (i - 1) == 13 || decide (128 ≤ d (i - 1))

/-- What 'yamlMark' answers at 'i'. -/
def mk (d : Nat → Int) (n i : Nat) : Bool :=
  if openB (d i) = true then true
  else if d i = 45 then after d n i
  else if d i = 58 then (after d n i || decide (i = 0) || !plainB (d (i - 1)))
  else if d i = 46 then dotB d i
  else false

theorem mk_45 {d : Nat → Int} {n i : Nat} (h : d i = 45) : mk d n i = after d n i := by
  unfold mk; rw [h, if_neg (by decide), if_pos rfl]
theorem mk_58 {d : Nat → Int} {n i : Nat} (h : d i = 58) : mk d n i = (after d n i || decide (i = 0) || !plainB (d (i - 1))) := by
  unfold mk; rw [h, if_neg (by decide), if_neg (by decide), if_pos rfl]
theorem mk_46 {d : Nat → Int} {n i : Nat} (h : d i = 46) : mk d n i = dotB d i := by
  unfold mk; rw [h, if_neg (by decide), if_neg (by decide), if_neg (by decide), if_pos rfl]

set_option maxHeartbeats 2000000 in
theorem yamlMark_any (b off n c : Nat) (d : Nat → Int) (i : Nat) (w : World) (hn : n ≤ 1048576) (hi : i < n) (hb : Bytes w b off n d) :
    Calls Try.prog 16 #[.slice (some ⟨b, off, none⟩) n c, .int .i64 i] w fun e w' => e = .returned (.bool (mk d n i)) ∧ w' = w := by
  have hc := (hb i hi).1
  have HB : Hid (Bytes w b off n d) := hb
  clear hb
  go_enter Try.func16, Try.ntmps16
  go_upto_region 1 with fail
  go_cut [5] from 6 to 18 (fun t wx => t = .bool (after d n i) ∧ w = wx)
  case first =>
    by_cases he : i + 1 = n
    · have h1 : ((i : Int) + 1 == (n : Int)) = true := by simp; omega
      have HE : Hid (i + 1 = n) := he
      clear he
      go_wp2
      go_meet
      case rel => exact ⟨by simp [after, HE.out], rfl⟩
    · have h1 : ((i : Int) + 1 == (n : Int)) = false := by simp; omega
      have h2 := (HB.out (i + 1) (by omega)).1
      have h3 : (i : Int) + 1 < n := by omega
      have HE : Hid (¬ i + 1 = n) := he
      clear he
      go_wp2_with (go_at_call 18; refine (yamlBlank_any _ _).mono ?_; rintro e w' ⟨rfl, rfl⟩)
      go_meet
      case rel => exact ⟨by simp [after, HE.out], rfl⟩
  case rest =>
    obtain ⟨rfl, rfl⟩ := hcut
    have HA : Hid (∃ af, af = after d n i) := ⟨_, rfl⟩
    by_cases ho : openB (d i) = true
    · have hm : mk d n i = true := by simp [mk, ho]
      have ho' : (d i == 44) = true ∨ ((d i == 44) = false ∧ (d i == 91) = true) ∨ ((d i == 44) = false ∧ (d i == 91) = false ∧ (d i == 123) = true) ∨ ((d i == 44) = false ∧ (d i == 91) = false ∧ (d i == 123) = false ∧ (d i == 63) = true) := by
        revert ho; unfold openB
        cases (d i == 44) <;> cases (d i == 91) <;> cases (d i == 123) <;> cases (d i == 63) <;> simp
      clear ho
      rcases ho' with q1 | ⟨q1, q2⟩ | ⟨q1, q2, q3⟩ | ⟨q1, q2, q3, q4⟩
      all_goals
        go_wp2
        go_ret
        exact ⟨ret_bool hm.symm, rfl⟩
    · have q1 : (d i == 44) = false := by simp [openB] at ho; simp; omega
      have q2 : (d i == 91) = false := by simp [openB] at ho; simp; omega
      have q3 : (d i == 123) = false := by simp [openB] at ho; simp; omega
      have q4 : (d i == 63) = false := by simp [openB] at ho; simp; omega
      have hno : openB (d i) = false := by simpa using ho
      clear ho
      by_cases h45 : d i = 45
      · have hm : mk d n i = after d n i := mk_45 h45
        have q5 : (d i == 45) = true := by simp [h45]
        have HM : Hid (mk d n i = after d n i) := hm
        clear h45 hm
        go_wp2
        go_ret
        exact ⟨ret_bool HM.out.symm, rfl⟩
      have q5 : (d i == 45) = false := by simpa using h45
      by_cases h58 : d i = 58
      · have hm : mk d n i = (after d n i || decide (i = 0) || !plainB (d (i - 1))) := mk_58 h58
        have q6 : (d i == 58) = true := by simp [h58]
        have HM : Hid (mk d n i = (after d n i || decide (i = 0) || !plainB (d (i - 1)))) := hm
        clear h45 h58 hm
        cases hA : after d n i
        · by_cases hz : i = 0
          · have q7 : ((i : Int) == 0) = true := by simp; omega
            have HZ : Hid (i = 0) := hz
            clear hz
            go_wp2
            go_ret
            exact ⟨ret_bool (by rw [HM.out, HZ.out]; simp), rfl⟩
          · have q7 : ((i : Int) == 0) = false := by simp; omega
            have hp := HB.out (i - 1) (by omega)
            have hp1 := hp.1
            have hp2 := hp.2
            have hi1 : (i : Int) - 1 < n := by omega
            have hi2 : 0 ≤ (i : Int) - 1 := by omega
            have hi3 : ((i : Int) - 1).toNat = i - 1 := by omega
            have HZ : Hid (¬ i = 0) := hz
            clear hz hp
            go_wp2_with (go_at_call 19; refine (yamlPlain_any _ _ (by omega) (by omega)).mono ?_; rintro e w' ⟨rfl, rfl⟩)
            go_ret
            exact ⟨ret_bool (by rw [HM.out, hA]; simp [HZ.out]), rfl⟩
        · go_wp2
          go_ret
          exact ⟨ret_bool (by rw [HM.out, hA]; simp), rfl⟩
      have q6 : (d i == 58) = false := by simpa using h58
      by_cases h46 : d i = 46
      · have hm : mk d n i = dotB d i := mk_46 h46
        have q7 : (d i == 46) = true := by simp [h46]
        have HM : Hid (mk d n i = dotB d i) := hm
        clear h45 h58 h46 hm
        by_cases hz : i = 0
        · have q8 : ((i : Int) == 0) = true := by simp; omega
          have HZ : Hid (i = 0) := hz
          clear hz
          go_wp2
          go_ret
          exact ⟨ret_bool (by rw [HM.out, HZ.out]; simp [dotB]), rfl⟩
        · have q8 : ((i : Int) == 0) = false := by simp; omega
          have hp := HB.out (i - 1) (by omega)
          have hp1 := hp.1
          have hi1 : (i : Int) - 1 < n := by omega
          have hi2 : 0 ≤ (i : Int) - 1 := by omega
          have hi3 : ((i : Int) - 1).toNat = i - 1 := by omega
          have HZ : Hid (¬ i = 0) := hz
          clear hz hp
          cases r1 : (d (i - 1) == 10)
          · cases r2 : (d (i - 1) == 13)
            · go_wp2
              go_ret
              exact ⟨ret_bool (by rw [HM.out]; simp [dotB, HZ.out, r1, r2]), rfl⟩
            · go_wp2
              go_ret
              exact ⟨ret_bool (by rw [HM.out]; simp [dotB, HZ.out, r1, r2]), rfl⟩
          · go_wp2
            go_ret
            exact ⟨ret_bool (by rw [HM.out]; simp [dotB, HZ.out, r1]), rfl⟩
      have q7 : (d i == 46) = false := by simpa using h46
      have hm : mk d n i = false := by simp [mk, hno, h45, h58, h46]
      clear h45 h58 h46
      go_wp2
      go_ret
      exact ⟨ret_bool hm.symm, rfl⟩

set_option maxHeartbeats 400000 in
theorem zzYamlMark_any (b off n c : Nat) (d : Nat → Int) (i : Nat) (w : World) (hn : n ≤ 1048576) (hi : i < n) (hb : Bytes w b off n d) :
    Calls Try.prog 12 #[.slice (some ⟨b, off, none⟩) n c, .int .i64 i] w fun e w' => e = .returned (.bool (mk d n i)) ∧ w' = w := by
  go_enter Try.func12, Try.ntmps12
  go_wp2_with (go_at_call 16; refine (yamlMark_any b off n c d i _ hn hi hb).mono ?_; rintro x w' ⟨rfl, rfl⟩)
  go_ret
  exact ⟨rfl, rfl⟩
end Go.Proofs.Qxb6605509a
