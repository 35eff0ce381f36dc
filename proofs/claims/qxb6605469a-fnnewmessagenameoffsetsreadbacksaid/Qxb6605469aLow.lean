import Derived.Test.Qxb6605469aNew
import Derived.Lib.ConvBytes
namespace Go.Proofs.Qxb6605469a
open Go.ChangeShapes Go.WideShapes Go.ChangeAt Go.RowKit
set_option linter.unusedSimpArgs false
set_option linter.unusedVariables false

def upB (c : Int) : Bool := decide (65 ≤ c) && decide (c ≤ 90)
def lowU (b : UInt8) : UInt8 := if upB (b.toNat : Int) = true then b + 32 else b
/-- The text with its capital letters lowered. -/
def low (s : ByteArray) : ByteArray := ⟨(s.data.toList.map lowU).toArray⟩
theorem at_list (s : ByteArray) (i : Nat) (h : i < s.size) : s.data.toList[i]'(by rw [len_size]; exact h) = s[i] := by
  rw [Array.getElem_toList]; rfl

def Cells (w : World) (B n : Nat) (f : Nat → Value) : Prop := ∀ j, j < n → w.cell? ⟨B, j, none⟩ = some (f j) ∧ w.frozen? ⟨B, j, none⟩ = false

theorem Cells.set {w : World} {B n : Nat} {f : Nat → Value} (h : Cells w B n f) {i : Nat} (hi : i < n) (v : Value) {g : Nat → Value} (hg : ∀ j, j < n → g j = if j = i then v else f j) : Cells (w.setCell ⟨B, i, none⟩ v) B n g := by
  intro j hj
  refine ⟨?_, by rw [World.frozen?_setCell]; exact (h j hj).2⟩
  rw [hg j hj]
  by_cases e : j = i
  · subst e; rw [if_pos rfl]; exact cell_same (h j hj).1
  · rw [if_neg e, World.cell?_setCell_other _ _ _ _ (fun h => e (by injection h with _ h2 _; exact h2.symm))]; exact (h j hj).1

theorem Cells.congr {w : World} {B n : Nat} {f g : Nat → Value} (h : Cells w B n f) (hg : ∀ j, j < n → g j = f j) : Cells w B n g := fun j hj => by rw [hg j hj]; exact h j hj

theorem bytes_cells (w : World) (s : ByteArray) : Cells (Lib.bytesWorld w 5 s) w.heap.size s.size (fun j => .int .u8 ((s.data.toList.getD j 0).toNat : Int)) := by
  intro j hj
  refine ⟨Lib.bytesWorld_cell w 5 s j hj, ?_⟩
  have hb := Lib.bytesWorld_at_new w 5 s
  have hl : j < (Lib.bytesCells w 5 s).size := by
    have hc := Lib.bytesWorld_cell w 5 s j hj
    rcases Nat.lt_or_ge j (Lib.bytesCells w 5 s).size with h | h
    · exact h
    · simp [World.cell?, hb, Array.getElem?_eq_none h] at hc
  simp only [World.frozen?, hb]
  simp; omega

theorem bytes_below (w : World) (s : ByteArray) : Below w.heap.size w (Lib.bytesWorld w 5 s) :=
  ⟨rfl, rfl, rfl, by rw [Lib.bytesWorld_size]; omega, fun k hk => Lib.bytesWorld_at_old w 5 s k hk⟩

/-- Lowered from 'k' up to 'j', as it was behind it. -/
def mix (s : ByteArray) (j t : Nat) : Int := if t < j then ((lowU (s.data.toList.getD t 0)).toNat : Int) else ((s.data.toList.getD t 0).toNat : Int)

theorem low_toNat {b : UInt8} (h : upB (b.toNat : Int) = true) : ((lowU b).toNat : Int) = (b.toNat : Int) + 32 := by
  simp only [lowU, h, if_true]
  simp only [upB, Bool.and_eq_true, decide_eq_true_eq] at h
  rw [UInt8.toNat_add]
  show (((b.toNat + 32) % 256 : Nat) : Int) = _
  omega
theorem low_same {b : UInt8} (h : upB (b.toNat : Int) = false) : lowU b = b := by simp [lowU, h]

theorem getD_at (s : ByteArray) (j : Nat) (h : j < s.size) : s.data.toList.getD j 0 = s[j] := by
  rw [List.getD_eq_getElem?_getD, List.getElem?_eq_getElem (by rw [len_size]; exact h), Option.getD_some, at_list s j h]

theorem low_all {s : ByteArray} (h : ∀ t (ht : t < s.size), upB (s[t].toNat : Int) = false) : low s = s := by
  apply bytes_ext
  show s.data.toList.map lowU = s.data.toList
  apply List.ext_getElem
  · simp
  · intro n h1 h2
    rw [List.getElem_map, at_list s n (by rw [← len_size]; exact h2)]
    exact low_same (h n (by rw [← len_size]; exact h2))

theorem mix_start {s : ByteArray} {j : Nat} (h : ∀ t (ht : t < s.size), t < j → upB (s[t].toNat : Int) = false) : ∀ t, t < s.size → mix s j t = ((s.data.toList.getD t 0).toNat : Int) := by
  intro t ht
  unfold mix
  split
  · rename_i h1
    rw [getD_at s t ht, low_same (h t ht h1)]
  · rfl

theorem mix_keep {s : ByteArray} {k : Nat} (hk : k < s.size) (hup : upB (s[k].toNat : Int) = false) (t : Nat) : mix s (k + 1) t = mix s k t := by
  unfold mix
  by_cases e : t = k
  · subst e; rw [if_pos (Nat.lt_succ_self _), if_neg (Nat.lt_irrefl _), getD_at s t hk, low_same hup]
  · by_cases h : t < k
    · rw [if_pos (by omega), if_pos h]
    · rw [if_neg (by omega), if_neg h]
theorem mix_put {s : ByteArray} {k : Nat} (hk : k < s.size) (hup : upB (s[k].toNat : Int) = true) (t : Nat) : Value.int .u8 (mix s (k + 1) t) = if t = k then Value.int .u8 ((s[k].toNat : Int) + 32) else .int .u8 (mix s k t) := by
  unfold mix
  by_cases e : t = k
  · subst e; rw [if_pos (Nat.lt_succ_self _), if_pos rfl, getD_at s t hk, low_toNat hup]
  · rw [if_neg e]
    by_cases h : t < k
    · rw [if_pos (by omega), if_pos h]
    · rw [if_neg (by omega), if_neg h]

set_option maxRecDepth 20000 in
set_option maxHeartbeats 2000000 in
theorem lowerASCII_any (s : ByteArray) (w : World) (hs : s.size ≤ 1048576) :
    Calls Try.prog 31 #[.string s] w fun e w' => e = .returned (.string (low s)) ∧ Below w.heap.size w w' := by
  have hcv := fun wx : World => Lib.run_convert_string_bytes (P := Try.prog) wx 9 23 5 s Try.underlying9 Try.underlying23 Try.underlying5
  go_enter Try.func31, Try.ntmps31
  go_wp2
  go_loopg [3] s.size (fun g p wr => ∃ j : Nat, j + g = s.size ∧ p = .int .i64 j ∧ Hid (∀ t (ht : t < s.size), t < j → upB (s[t].toNat : Int) = false) ∧ w = wr)
  case atStart => exact ⟨0, by omega, rfl, fun t _ h => absurd h (Nat.not_lt_zero _), rfl⟩
  case round =>
    obtain ⟨j, hg, rfl, HU, rfl⟩ := hrel
    by_cases hlt : j < s.size
    · cases hup : upB (s[j].toNat : Int)
      · have hup' : decide ((65 : Int) ≤ (s[j].toNat : Int)) = false ∨ (decide ((65 : Int) ≤ (s[j].toNat : Int)) = true ∧ decide ((s[j].toNat : Int) ≤ 90) = false) := by
          revert hup; unfold upB
          cases decide ((65 : Int) ≤ (s[j].toNat : Int)) <;> cases decide ((s[j].toNat : Int) ≤ 90) <;> simp
        have HU2 : Hid (∀ t (ht : t < s.size), t < j + 1 → upB (s[t].toNat : Int) = false) := by
          intro t ht h
          by_cases e : t = j
          · subst e; exact hup
          · exact HU.out t ht (by omega)
        clear hup hcv
        rcases hup' with h1 | ⟨h1, h2⟩
        · have h1' : ¬ ((65 : Int) ≤ (s[j].toNat : Int)) := of_decide_eq_false h1
          clear h1
          go_wp2
          go_roundg (gk - 1)
          case measure => omega
          case rel => exact ⟨j + 1, by omega, by go_num, HU2, rfl⟩
        · have h1' : ((65 : Int) ≤ (s[j].toNat : Int)) := of_decide_eq_true h1
          have h2' : ¬ ((s[j].toNat : Int) ≤ 90) := of_decide_eq_false h2
          clear h1 h2
          go_wp2
          go_roundg (gk - 1)
          case measure => omega
          case rel => exact ⟨j + 1, by omega, by go_num, HU2, rfl⟩
      · have h1 : (65 : Int) ≤ (s[j].toNat : Int) := by simp [upB] at hup; exact hup.1
        have h2 : (s[j].toNat : Int) ≤ 90 := by simp [upB] at hup; exact hup.2
        have hC0 : Cells (Lib.bytesWorld w 5 s) w.heap.size s.size (fun t => .int .u8 (mix s j t)) := (bytes_cells w s).congr (fun t ht => by rw [mix_start HU.out t ht])
        have HC0 : Hid (Cells (Lib.bytesWorld w 5 s) w.heap.size s.size (fun t => .int .u8 (mix s j t))) := hC0
        have hB0 := bytes_below w s
        clear hC0 HU
        go_wp2
        clear hcv hup h1 h2
        go_loopg [5] (s.size - j) (fun g p wr => ∃ k : Nat, k + g = s.size ∧ p = .int .i64 k ∧ Hid (Cells wr w.heap.size s.size (fun t => .int .u8 (mix s k t))) ∧ Below w.heap.size w wr)
        case atStart => exact ⟨j, by omega, rfl, HC0, hB0⟩
        case round =>
          clear HC0 hB0
          obtain ⟨k, hgk, rfl, HC, hbel⟩ := hrel
          by_cases hk : k < s.size
          · have hmk : mix s k k = (s[k].toNat : Int) := by unfold mix; rw [if_neg (Nat.lt_irrefl _), getD_at s k hk]
            have hc := (HC.out k hk).1
            have hf := (HC.out k hk).2
            simp only [hmk] at hc
            clear hmk
            cases hup : upB (s[k].toNat : Int)
            · have hup' : decide ((65 : Int) ≤ (s[k].toNat : Int)) = false ∨ (decide ((65 : Int) ≤ (s[k].toNat : Int)) = true ∧ decide ((s[k].toNat : Int) ≤ 90) = false) := by
                revert hup; unfold upB
                cases decide ((65 : Int) ≤ (s[k].toNat : Int)) <;> cases decide ((s[k].toNat : Int) ≤ 90) <;> simp
              have HC2 : Hid (Cells wr w.heap.size s.size (fun t => .int .u8 (mix s (k + 1) t))) := HC.out.congr (fun t ht => by rw [mix_keep hk hup])
              clear hup
              rcases hup' with h1 | ⟨h1, h2⟩
              · have h1' : ¬ ((65 : Int) ≤ (s[k].toNat : Int)) := of_decide_eq_false h1
                clear h1
                go_wp2
                go_roundg (gk - 1)
                case measure => omega
                case rel => exact ⟨k + 1, by omega, by go_num, HC2, hbel⟩
              · have h1' : ((65 : Int) ≤ (s[k].toNat : Int)) := of_decide_eq_true h1
                have h2' : ¬ ((s[k].toNat : Int) ≤ 90) := of_decide_eq_false h2
                clear h1 h2
                go_wp2
                go_roundg (gk - 1)
                case measure => omega
                case rel => exact ⟨k + 1, by omega, by go_num, HC2, hbel⟩
            · have h1 : (65 : Int) ≤ (s[k].toNat : Int) := by simp [upB] at hup; exact hup.1
              have h2 : (s[k].toNat : Int) ≤ 90 := by simp [upB] at hup; exact hup.2
              have HC2 : Hid (Cells (wr.setCell ⟨w.heap.size, k, none⟩ (.int .u8 ((s[k].toNat : Int) + 32))) w.heap.size s.size (fun t => .int .u8 (mix s (k + 1) t))) := HC.out.set hk _ (fun t ht => mix_put hk hup t)
              clear hup
              go_wp2
              go_roundg (gk - 1)
              case measure => omega
              case rel => exact ⟨k + 1, by omega, by go_num, HC2, hbel.setCell (Nat.le_refl _) _⟩
          · have hconv := run_convert_bytes_back (P := Try.prog) wr 23 9 5 ⟨w.heap.size, 0, none⟩ (grownCap w s.size 0 5) (s.data.toList.map lowU) Try.underlying23 Try.underlying5 Try.underlying9 (fun t ht => by
              rw [List.length_map, len_size] at ht
              rw [add_plain, Nat.zero_add, (HC.out t ht).1, List.getElem_map, at_list s t ht]
              show some (Value.int .u8 (mix s k t)) = _
              unfold mix
              rw [if_pos (by omega), getD_at s t ht])
            rw [List.length_map, len_size] at hconv
            go_wp2
            go_ret
            exact ⟨rfl, hbel⟩
    · have HE : Hid (low s = s) := low_all (fun t ht => HU.out t ht (by omega))
      clear HU hcv
      go_wp2
      go_ret
      exact ⟨by rw [HE.out]; rfl, Below.refl _ _⟩
end Go.Proofs.Qxb6605469a
