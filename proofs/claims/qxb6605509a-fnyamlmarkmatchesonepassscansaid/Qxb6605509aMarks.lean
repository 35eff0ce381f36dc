import Derived.Test.Qxb6605509aMark
namespace Go.Proofs.Qxb6605509a
open Go.ChangeShapes Go.WideShapes Go.ChangeAt Go.RowKit
set_option linter.unusedSimpArgs false
set_option linter.unusedVariables false

theorem info5 : (Try.prog.info? 5).map (fun i => (i.zero, i.size, i.bytes)) = some (some (.int .u8 0), 1, 1) := by kernel_rfl
theorem info4 : (Try.prog.info? 4).map (fun i => (i.zero, i.size, i.bytes)) = some (some (.bool false), 1, 1) := by kernel_rfl
theorem size5 : (Try.prog.info? 5).map (·.size) = some 1 := by kernel_rfl

theorem copied {w : World} {n : Nat} {d : Nat → Int} (hd : ∀ i, i < n → 0 ≤ d i ∧ d i ≤ 255) (cs : List Value) (hcs : cs = (List.range n).map (fun i => Value.int .u8 (d i))) (X : Array Value) (hX : X = cs.toArray) :
    Bytes ((w.alloc (.cells (madeCells #[.int .u8 0] n) 5)).setRow w.heap.size X) w.heap.size 0 n d := by
  intro i hi
  refine ⟨?_, hd i hi⟩
  have hb : ((w.alloc (.cells (madeCells #[.int .u8 0] n) 5)).setRow w.heap.size X).heap[w.heap.size]? = some (.cells X 5 (0, 0)) := setRow_heap _ _ _ _ _ _ (heap_alloc_new w _)
  have e : ((w.alloc (.cells (madeCells #[.int .u8 0] n) 5)).setRow w.heap.size X).cell? ⟨w.heap.size, 0 + i, none⟩ = X[0 + i]? := by simp only [World.cell?, hb]; rfl
  rw [e, hX, hcs]
  simp [hi]

set_option maxHeartbeats 1000000 in
theorem clone_any (b off n c : Nat) (d : Nat → Int) (w : World) (hn : n ≤ 1048576) (hb : Bytes w b off n d) (hB : b < w.heap.size) :
    Calls Try.prog 7 #[.slice (some ⟨b, off, none⟩) n c] w fun e w' => e = .returned (.slice (some ⟨w.heap.size, 0, none⟩) n n) ∧ Below w.heap.size w w' ∧ w.heap.size < w'.heap.size ∧ Bytes w' w.heap.size 0 n d := by
  have hmk := run_make_row' (P := Try.prog) 22 5 (.int .u8 0) 1 Try.underlying22 info5 rfl .i64 .i64 n (by omega) (by omega)
  have hnil := fun wx : World => Lib.run_eql_slice_nil (P := Try.prog) wx 22 5 (some ⟨b, off, none⟩) n c 0 0 Try.underlying22
  obtain ⟨cs, hcs⟩ : ∃ cs, cs = (List.range n).map (fun i => Value.int .u8 (d i)) := ⟨_, rfl⟩
  have HC : Hid (cs = (List.range n).map (fun i => Value.int .u8 (d i))) := hcs
  have hl : cs.length = n := by rw [hcs]; simp
  have HL : Hid (cs.length = n) := hl
  clear hl hcs
  go_enter Try.func7, Try.ntmps7
  go_wp2_with (refine wpList_copy_own rfl _ _ 22 22 rfl 5 Try.underlying22 size5 w.heap.size 0 n n ⟨b, off, none⟩ n c rfl rfl (madeCells #[.int .u8 0] n) 5 (heap_alloc_new w _) cs (by rw [HL.out]; exact (Nat.min_self n).symm) ?c1 ?c2 ?c3 ?_)
  case c1 =>
    intro j v hj
    rw [HC.out] at hj
    have hjn : j < n := by
      have := (List.getElem?_eq_some_iff.1 hj).1
      simpa using this
    simp [hjn] at hj
    subst hj
    rw [add_plain]
    exact (((Below.refl w.heap.size w).alloc (Nat.le_refl _) _).cell (p := ⟨b, off + j, none⟩) hB).trans (hb j hjn).1
  case c2 => rw [size_madeCells, HL.out]; omega
  case c3 =>
    intro v hv
    rw [HC.out] at hv
    simp at hv
    obtain ⟨x, _, rfl⟩ := hv
    rfl
  go_ret
  refine ⟨rfl, below_setRow ((Below.refl w.heap.size w).alloc (Nat.le_refl _) _) (Nat.le_refl _) _, by simp, copied (fun i hi => (hb i hi).2) cs HC.out _ ?_⟩
  have hdrop : (madeCells #[Value.int IntKind.u8 0] n).toList.drop cs.length = [] := by
    rw [List.drop_of_length_le]
    rw [Array.length_toList, size_madeCells, HL.out]; exact Nat.le_refl _
  first | (simp [hdrop]; done) | (simp only [List.take_zero, Nat.zero_add, List.nil_append, hdrop, List.append_nil]; done) | (simp [HL.out]; done)

/-- Is the byte ahead of 'k' left pending? -/
def pend (d : Nat → Int) (k : Nat) : Bool := decide (0 < k) && (d (k - 1) == 45 || (d (k - 1) == 58 && !(decide (k - 1 = 0) || !plainB (d (k - 1 - 1)))))
def done (d : Nat → Int) (n k j : Nat) : Bool := if j < k then mk d n j else false
def rowF (d : Nat → Int) (n k j : Nat) : Bool := if j + 1 = k ∧ pend d k = true then false else done d n k j

theorem pend_mk {d : Nat → Int} {n k : Nat} (h : pend d (k + 1) = true) : mk d n k = after d n k := by
  simp only [pend, Nat.add_sub_cancel, Bool.and_eq_true, Bool.or_eq_true, beq_iff_eq, Bool.not_eq_true', Bool.or_eq_false_iff, Bool.not_eq_false', decide_eq_false_iff_not] at h
  obtain ⟨_, h | ⟨h, h1, h2⟩⟩ := h
  · exact mk_45 h
  · rw [mk_58 h]
    simp [h1, h2]


theorem row_blank {wr : World} {B n k : Nat} {d : Nat → Int} (h : wr.rowIs B 4 n (fun j => .bool (rowF d n (k + 1) j))) (hp : pend d (k + 1) = true) (hk : k + 1 < n) (hb : blankB (d (k + 1)) = true) :
    (wr.setCell ⟨B, k, none⟩ (.bool true)).rowIs B 4 n (fun j => .bool (done d n (k + 1) j)) :=
  (h.set k (.bool true)).congr (fun j _ => by
    by_cases e : j = k
    · subst e
      have : mk d n j = true := by rw [pend_mk hp]; simp [after, hb]
      simp [done, this]
    · have e2 : ¬ (j + 1 = k + 1) := by omega
      simp [e, rowF])

theorem row_dark {wr : World} {B n k : Nat} {d : Nat → Int} (h : wr.rowIs B 4 n (fun j => .bool (rowF d n (k + 1) j))) (hp : pend d (k + 1) = true) (hk : k + 1 < n) (hb : blankB (d (k + 1)) = false) :
    wr.rowIs B 4 n (fun j => .bool (done d n (k + 1) j)) :=
  h.congr (fun j _ => by
    by_cases e : j = k
    · subst e
      have : mk d n j = false := by rw [pend_mk hp]; simp [after, hb]; omega
      simp [done, this, rowF, hp]
    · have e2 : ¬ (j + 1 = k + 1) := by omega
      simp [e, rowF])

theorem row_last {wr : World} {B k : Nat} {d : Nat → Int} (h : wr.rowIs B 4 (k + 1) (fun j => .bool (rowF d (k + 1) (k + 1) j))) (hp : pend d (k + 1) = true) :
    (wr.setCell ⟨B, k, none⟩ (.bool true)).rowIs B 4 (k + 1) (fun j => .bool (mk d (k + 1) j)) :=
  (h.set k (.bool true)).congr (fun j hj => by
    by_cases e : j = k
    · subst e
      have : mk d (j + 1) j = true := by rw [pend_mk hp]; simp [after]
      simp [this]
    · have e2 : ¬ (j + 1 = k + 1) := by omega
      simp [e, rowF, done, hj])

theorem row_free {wr : World} {B n k : Nat} {d : Nat → Int} (h : wr.rowIs B 4 n (fun j => .bool (rowF d n k j))) (hp : pend d k = false) : wr.rowIs B 4 n (fun j => .bool (done d n k j)) :=
  h.congr (fun j _ => by simp [rowF, hp])

theorem row_set {wr : World} {B n k : Nat} {d : Nat → Int} {v : Bool} (h : wr.rowIs B 4 n (fun j => .bool (done d n k j))) (hp : pend d (k + 1) = false) (hv : mk d n k = v) :
    (wr.setCell ⟨B, k, none⟩ (.bool v)).rowIs B 4 n (fun j => .bool (rowF d n (k + 1) j)) :=
  (h.set k (.bool v)).congr (fun j _ => by
    by_cases e : j = k
    · subst e; simp [rowF, hp, done, hv]
    · by_cases e2 : j < k
      · simp [e, rowF, hp, done, e2, Nat.lt_succ_of_lt e2]
      · have e3 : ¬ j < k + 1 := by omega
        simp [e, rowF, hp, done, e2, e3])

theorem row_wait {wr : World} {B n k : Nat} {d : Nat → Int} (h : wr.rowIs B 4 n (fun j => .bool (done d n k j))) (hp : pend d (k + 1) = true) : wr.rowIs B 4 n (fun j => .bool (rowF d n (k + 1) j)) :=
  h.congr (fun j _ => by
    by_cases e : j = k
    · subst e; simp [rowF, hp, done]
    · by_cases e2 : j < k
      · simp [e, rowF, hp, done, e2, Nat.lt_succ_of_lt e2]
      · have e3 : ¬ j < k + 1 := by omega
        simp [e, rowF, hp, done, e2, e3])

theorem row_none {wr : World} {B n k : Nat} {d : Nat → Int} (h : wr.rowIs B 4 n (fun j => .bool (done d n k j))) (hp : pend d (k + 1) = false) (hv : mk d n k = false) : wr.rowIs B 4 n (fun j => .bool (rowF d n (k + 1) j)) :=
  h.congr (fun j _ => by
    by_cases e : j = k
    · subst e; simp [rowF, hp, done, hv]
    · by_cases e2 : j < k
      · simp [e, rowF, hp, done, e2, Nat.lt_succ_of_lt e2]
      · have e3 : ¬ j < k + 1 := by omega
        simp [e, rowF, hp, done, e2, e3])

theorem pend_no {d : Nat → Int} {k : Nat} (h1 : d k ≠ 45) (h2 : d k ≠ 58) : pend d (k + 1) = false := by simp [pend, h1, h2]
theorem pend_45 {d : Nat → Int} {k : Nat} (h1 : d k = 45) : pend d (k + 1) = true := by simp [pend, h1]
theorem pend_58 {d : Nat → Int} {k : Nat} (h1 : d k = 58) : pend d (k + 1) = !(decide (k = 0) || !plainB (d (k - 1))) := by simp [pend, h1]
theorem mk_open {d : Nat → Int} {n k : Nat} (h : openB (d k) = true) : mk d n k = true := by simp [mk, h]
theorem mk_else {d : Nat → Int} {n k : Nat} (h : openB (d k) = false) (h1 : d k ≠ 45) (h2 : d k ≠ 58) (h3 : d k ≠ 46) : mk d n k = false := by simp [mk, h, h1, h2, h3]

def pv (d : Nat → Int) (k : Nat) : Int := if k = 0 then 0 else d (k - 1)

set_option maxHeartbeats 4000000 in
theorem marks_any (b off n c : Nat) (d : Nat → Int) (w : World) (hn : n ≤ 1048576) (hb : Bytes w b off n d) (hB : b < w.heap.size) :
    Calls Try.prog 8 #[.slice (some ⟨b, off, none⟩) n c] w fun e w' => e = .returned (.slice (some ⟨w.heap.size, 0, none⟩) n n) ∧ Below w.heap.size w w' ∧ w'.rowIs w.heap.size 4 n (fun j => .bool (mk d n j)) := by
  have hmk := run_make_row' (P := Try.prog) 25 4 (.bool false) 1 Try.underlying25 info4 rfl .i64 .i64 n (by omega) (by omega)
  go_enter Try.func8, Try.ntmps8
  go_wp2
  clear hmk
  go_loopg [4, 5, 6] n (fun g p q i wr => ∃ k : Nat, k + g = n ∧ i = .int .i64 k ∧ p = .bool (pend d k) ∧ q = .int .u8 (pv d k) ∧ Below w.heap.size w wr ∧ wr.rowIs w.heap.size 4 n (fun j => .bool (rowF d n k j)))
  case atStart => exact ⟨0, by omega, rfl, rfl, rfl, (Below.refl _ _).alloc (Nat.le_refl _) _, (World.rowIs_made w (.bool false) n 4).congr (fun i _ => by simp [rowF, done])⟩
  case round =>
    obtain ⟨k, hg, rfl, rfl, rfl, hbel, hrow⟩ := hrel
    by_cases hkn : k < n
    · have hc := (hb.below hbel hB k hkn).1
      have hc1 := (hb k hkn).2
      go_upto_if 21 with fail
      go_cut [4] from 17 to 27 (fun p wx => p = .bool false ∧ Below w.heap.size w wx ∧ wx.rowIs w.heap.size 4 n (fun j => .bool (done d n k j)))
      case first =>
        cases hp : pend d k
        · go_wp2
          go_meet
          case rel => exact ⟨rfl, hbel, row_free hrow hp⟩
        · have hk0 : 0 < k := by
            rcases Nat.eq_zero_or_pos k with h | h
            · subst h; simp [pend] at hp
            · exact h
          obtain ⟨k1, hk1⟩ : ∃ k1, k = k1 + 1 := ⟨k - 1, by omega⟩
          subst hk1
          have hcr := hrow.cell (i := k1) (by omega)
          have hfr := hrow.frozen k1
          cases hbl : blankB (d (k1 + 1))
          · go_wp2_with (go_at_call 13; refine (zzBlank_any _ _).mono ?_; rintro e w' ⟨rfl, rfl⟩)
            go_meet
            case rel => exact ⟨rfl, hbel, row_dark hrow hp hkn hbl⟩
          · go_wp2_with (go_at_call 13; refine (zzBlank_any _ _).mono ?_; rintro e w' ⟨rfl, rfl⟩)
            go_meet
            case rel => exact ⟨rfl, hbel.setCell (Nat.le_refl _) _, row_blank hrow hp hkn hbl⟩
      case rest =>
        obtain ⟨rfl, hbel2, hrow2⟩ := hcut
        clear hrow hbel hc
        have hcr := hrow2.cell hkn
        have hfr := hrow2.frozen k
        have HR : Hid (wc.rowIs w.heap.size 4 n (fun j => .bool (done d n k j))) := hrow2
        clear hrow2
        by_cases ho : openB (d k) = true
        · have hne : d k ≠ 45 ∧ d k ≠ 58 := by simp [openB] at ho; omega
          have HP : Hid (pend d (k + 1) = false) := pend_no hne.1 hne.2
          have HV : Hid (mk d n k = true) := mk_open ho
          have ho' : (d k == 44) = true ∨ ((d k == 44) = false ∧ (d k == 91) = true) ∨ ((d k == 44) = false ∧ (d k == 91) = false ∧ (d k == 123) = true) ∨ ((d k == 44) = false ∧ (d k == 91) = false ∧ (d k == 123) = false ∧ (d k == 63) = true) := by
            revert ho; unfold openB
            cases (d k == 44) <;> cases (d k == 91) <;> cases (d k == 123) <;> cases (d k == 63) <;> simp
          clear ho hne
          rcases ho' with q1 | ⟨q1, q2⟩ | ⟨q1, q2, q3⟩ | ⟨q1, q2, q3, q4⟩
          all_goals
            go_wp2
            go_roundg (gk - 1)
            case measure => omega
            case rel => exact ⟨k + 1, by omega, by go_num, by rw [HP.out], by simp [pv], hbel2.setCell (Nat.le_refl _) _, row_set HR.out HP.out HV.out⟩
        · have q1 : (d k == 44) = false := by simp [openB] at ho; simp; omega
          have q2 : (d k == 91) = false := by simp [openB] at ho; simp; omega
          have q3 : (d k == 123) = false := by simp [openB] at ho; simp; omega
          have q4 : (d k == 63) = false := by simp [openB] at ho; simp; omega
          have HO : Hid (openB (d k) = false) := by unfold Hid; simpa using ho
          clear ho
          by_cases h45 : d k = 45
          · have q5 : (d k == 45) = true := by simp [h45]
            have HP : Hid (pend d (k + 1) = true) := pend_45 h45
            clear h45
            go_wp2
            go_roundg (gk - 1)
            case measure => omega
            case rel => exact ⟨k + 1, by omega, by go_num, by rw [HP.out], by simp [pv], hbel2, row_wait HR.out HP.out⟩
          have q5 : (d k == 45) = false := by simpa using h45
          by_cases h58 : d k = 58
          · have q6 : (d k == 58) = true := by simp [h58]
            have HP : Hid (pend d (k + 1) = !(decide (k = 0) || !plainB (d (k - 1)))) := pend_58 h58
            have HM : Hid (mk d n k = (after d n k || decide (k = 0) || !plainB (d (k - 1)))) := mk_58 h58
            clear h45 h58
            by_cases hz : k = 0
            · have q7 : ((k : Int) == 0) = true := by simp; omega
              have HP2 : Hid (pend d (k + 1) = false) := by unfold Hid; rw [HP.out]; simp [hz]
              have HV : Hid (mk d n k = true) := by unfold Hid; rw [HM.out]; simp [hz]
              clear hz
              go_wp2
              go_roundg (gk - 1)
              case measure => omega
              case rel => exact ⟨k + 1, by omega, by go_num, by rw [HP2.out], by simp [pv], hbel2.setCell (Nat.le_refl _) _, row_set HR.out HP2.out HV.out⟩
            · have q7 : ((k : Int) == 0) = false := by simp; omega
              have hpv : pv d k = d (k - 1) := by simp [pv, hz]
              cases hpl : plainB (d (k - 1))
              · have HP2 : Hid (pend d (k + 1) = false) := by unfold Hid; rw [HP.out, hpl]; simp
                have HV : Hid (mk d n k = true) := by unfold Hid; rw [HM.out, hpl]; simp
                clear hz
                go_wp2_with (go_at_call 14; refine (zzPlain_any _ _).mono ?_; rintro e w' ⟨rfl, rfl⟩)
                go_roundg (gk - 1)
                case measure => omega
                case rel => exact ⟨k + 1, by omega, by go_num, by rw [HP2.out], by simp [pv], hbel2.setCell (Nat.le_refl _) _, row_set HR.out HP2.out HV.out⟩
              · have HP2 : Hid (pend d (k + 1) = true) := by unfold Hid; rw [HP.out, hpl]; simp [hz]
                clear hz
                go_wp2_with (go_at_call 14; refine (zzPlain_any _ _).mono ?_; rintro e w' ⟨rfl, rfl⟩)
                go_roundg (gk - 1)
                case measure => omega
                case rel => exact ⟨k + 1, by omega, by go_num, by rw [HP2.out], by simp [pv], hbel2, row_wait HR.out HP2.out⟩
          have q6 : (d k == 58) = false := by simpa using h58
          have HP : Hid (pend d (k + 1) = false) := pend_no h45 h58
          by_cases h46 : d k = 46
          · have q7 : (d k == 46) = true := by simp [h46]
            have HM : Hid (mk d n k = dotB d k) := mk_46 h46
            clear h45 h58 h46
            by_cases hz : k = 0
            · have q8 : ((k : Int) == 0) = true := by simp; omega
              have HV : Hid (mk d n k = true) := by unfold Hid; rw [HM.out]; simp [dotB, hz]
              clear hz
              go_wp2
              go_roundg (gk - 1)
              case measure => omega
              case rel => exact ⟨k + 1, by omega, by go_num, by rw [HP.out], by simp [pv], hbel2.setCell (Nat.le_refl _) _, row_set HR.out HP.out HV.out⟩
            · have q8 : ((k : Int) == 0) = false := by simp; omega
              have hpv : pv d k = d (k - 1) := by simp [pv, hz]
              cases r1 : (d (k - 1) == 10)
              · cases r2 : (d (k - 1) == 13)
                · have HV : Hid (mk d n k = decide (128 ≤ d (k - 1))) := by unfold Hid; rw [HM.out]; simp [dotB, hz, r1, r2]
                  clear hz
                  go_wp2
                  go_roundg (gk - 1)
                  case measure => omega
                  case rel => exact ⟨k + 1, by omega, by go_num, by rw [HP.out], by simp [pv], hbel2.setCell (Nat.le_refl _) _, row_set HR.out HP.out HV.out⟩
                · have HV : Hid (mk d n k = true) := by unfold Hid; rw [HM.out]; simp [dotB, hz, r1, r2]
                  clear hz
                  go_wp2
                  go_roundg (gk - 1)
                  case measure => omega
                  case rel => exact ⟨k + 1, by omega, by go_num, by rw [HP.out], by simp [pv], hbel2.setCell (Nat.le_refl _) _, row_set HR.out HP.out HV.out⟩
              · have HV : Hid (mk d n k = true) := by unfold Hid; rw [HM.out]; simp [dotB, hz, r1]
                clear hz
                go_wp2
                go_roundg (gk - 1)
                case measure => omega
                case rel => exact ⟨k + 1, by omega, by go_num, by rw [HP.out], by simp [pv], hbel2.setCell (Nat.le_refl _) _, row_set HR.out HP.out HV.out⟩
          have q7 : (d k == 46) = false := by simpa using h46
          have HV : Hid (mk d n k = false) := mk_else HO.out h45 h58 h46
          clear h45 h58 h46
          go_wp2
          go_roundg (gk - 1)
          case measure => omega
          case rel => exact ⟨k + 1, by omega, by go_num, by rw [HP.out], by simp [pv], hbel2, row_none HR.out HP.out HV.out⟩
    · have hke : k = n := by omega
      subst hke
      cases hp : pend d k
      · go_wp2
        go_ret
        exact ⟨rfl, hbel, (row_free hrow hp).congr (fun j hj => by simp [done, hj])⟩
      · have hk0 : 0 < k := by
          rcases Nat.eq_zero_or_pos k with h | h
          · subst h; simp [pend] at hp
          · exact h
        obtain ⟨k1, hk1⟩ : ∃ k1, k = k1 + 1 := ⟨k - 1, by omega⟩
        subst hk1
        have hcr := hrow.cell (i := k1) (by omega)
        have hfr := hrow.frozen k1
        go_wp2
        go_ret
        exact ⟨rfl, hbel.setCell (Nat.le_refl _) _, row_last hrow hp⟩
end Go.Proofs.Qxb6605509a
