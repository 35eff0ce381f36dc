import Derived.Test.Qxb6604722aFold
namespace Go.Proofs.Qxb6604722a
open Go.ChangeShapes Go.WideShapes Go.ChangeAt Go.RowKit
open Pl Lx
set_option linter.unusedSimpArgs false
set_option linter.unusedVariables false

def opI (c : Int) : Bool := decide (0 ≤ Lib.indexByte (ByteArray.mk #[43, 45, 42, 47, 60, 62, 61, 126, 33, 64, 35, 37, 94, 38, 124, 96, 63]).data.toList c.toNat.toUInt8)
def opB (mk : Bool) (c : Int) : Bool := opI c && !(c == 63 && mk)
def cm (s : ByteArray) (i : Nat) : Bool := two s i 45 45 || two s i 47 42

theorem pre_two (s : ByteArray) (i : Nat) (a b : UInt8) : Lib.hasPrefix (s.data.toList.drop i) [a, b] = two s i (a.toNat : Int) (b.toNat : Int) := by
  unfold Lib.hasPrefix two
  have u : ∀ x y : UInt8, ((x.toNat : Int) == (y.toNat : Int)) = (y == x) := fun x y => by
    rw [Bool.eq_iff_iff]; simp only [beq_iff_eq]
    constructor
    · intro h; exact UInt8.toNat_inj.1 (by omega)
    · intro h; rw [h]
  by_cases h0 : i < s.size
  · rw [drop_at (by rw [len_size]; exact h0), at_list s i h0]
    by_cases h1 : i + 1 < s.size
    · rw [drop_at (by rw [len_size]; exact h1), at_list s (i + 1) h1, cb_at h0, cb_at h1, u, u]
      simp [h1, List.isPrefixOf]
    · rw [List.drop_of_length_le (by rw [len_size]; omega)]
      simp [h1, List.isPrefixOf]
  · rw [List.drop_of_length_le (by rw [len_size]; omega)]
    have : ¬ i + 1 < s.size := by omega
    simp [this]

set_option maxHeartbeats 400000 in
theorem operatorChar_any (L o : Nat) (src : ByteArray) (pos : Nat) (mk : Bool) (md : Int) (c : Int) (w : World) (hL : LexAt w L o src pos mk md) :
    Calls Try.prog 45 #[.pointer (some ⟨L, o, none⟩), .int .u8 c] w fun e w' => e = .returned (.bool (opB mk c)) ∧ w' = w := by
  have c2 := hL.c2
  go_enter Try.func45, Try.ntmps45
  go_wp2_with fail
  refine (Try.strings_IndexByte _ _ _).mono ?_
  rintro e w' ⟨rfl, rfl⟩
  obtain ⟨r, hr⟩ : ∃ r, r = Lib.indexByte (ByteArray.mk #[43, 45, 42, 47, 60, 62, 61, 126, 33, 64, 35, 37, 94, 38, 124, 96, 63]).data.toList c.toNat.toUInt8 := ⟨_, rfl⟩
  rw [← hr]
  have HO : Hid (opI c = decide (0 ≤ r)) := by unfold Hid opI; rw [← hr]
  clear hr
  by_cases h0 : 0 ≤ r
  · cases h63 : (c == 63)
    · go_wp2
      go_ret
      exact ⟨ret_bool (by simp [opB, HO.out, h0, h63]), rfl⟩
    · go_wp2
      go_ret
      exact ⟨ret_bool (by simp [opB, HO.out, h0, h63]), rfl⟩
  · go_wp2
    go_ret
    exact ⟨ret_bool (by rw [opB, HO.out, show decide (0 ≤ r) = false from decide_eq_false (by omega)]; simp), rfl⟩

set_option maxHeartbeats 1000000 in
theorem commentAhead_any (L o : Nat) (src : ByteArray) (pos : Nat) (mk : Bool) (md : Int) (w : World) (hp : pos ≤ src.size) (hs : src.size ≤ 1048576) (hL : LexAt w L o src pos mk md) :
    Calls Try.prog 46 #[.pointer (some ⟨L, o, none⟩)] w fun e w' => e = .returned (.bool (cm src pos)) ∧ ∃ m, w' = w.drewN m := by
  have c0 := hL.c0
  have c1 := hL.c1
  have hp' : (pos : Int) ≤ (src.size : Int) := by omega
  have hp0 : (0 : Int) ≤ (pos : Int) := by omega
  go_enter Try.func46, Try.ntmps46
  go_wp2_with fail
  go_quiet (fail)
  go_wp2_with fail
  refine (Try.strings_HasPrefix _ _ _).mono ?_
  rintro e w' ⟨rfl, rfl⟩
  rw [rest_list]
  rw [show Lib.hasPrefix (src.data.toList.drop pos) (ByteArray.mk #[45, 45]).data.toList = two src pos 45 45 from pre_two src pos 45 45]
  cases h1 : two src pos 45 45
  · go_wp2_with fail
    refine (Try.strings_HasPrefix _ _ _).mono ?_
    rintro e w' ⟨rfl, rfl⟩
    rw [rest_list]
    rw [show Lib.hasPrefix (src.data.toList.drop pos) (ByteArray.mk #[47, 42]).data.toList = two src pos 47 42 from pre_two src pos 47 42]
    go_wp2
    go_ret
    exact ⟨ret_bool (by simp [cm, h1]), _, rfl⟩
  · go_wp2
    go_ret
    exact ⟨ret_bool (by simp [cm, h1]), _, rfl⟩

/-- The lexer as a call leaves it: only its place may have moved. -/
theorem LexAt.after {w w' : World} {L o : Nat} {src : ByteArray} {pos np : Nat} {mk : Bool} {md : Int} (h : LexAt w L o src pos mk md) (hb : Below w.heap.size (w.setCell ⟨L, o + 1, none⟩ (.int .i64 np)) w') : LexAt w' L o src np mk md :=
  (h.setPos np).below hb h.lt

theorem LexAt.drewN' {w : World} {L o : Nat} {src : ByteArray} {pos : Nat} {mk : Bool} {md : Int} (h : LexAt w L o src pos mk md) (m : Nat) : LexAt (w.drewN m) L o src pos mk md :=
  ⟨h.lt, h.c0, h.c1, h.c2, h.c3, h.fr⟩

/-- A store of the value that is there already turns nothing. -/
theorem heap_setCell_id {w : World} {p : Addr} {v : Value} (h : w.cell? p = some v) (k : Nat) : (w.setCell p v).heap[k]? = w.heap[k]? := by
  simp only [World.setCell, Array.getElem?_modify]
  by_cases hk : p.block = k
  · subst hk
    simp only [if_true]
    unfold World.cell? at h
    split at h
    · rename_i c e f hb
      rw [hb]
      simp only [Option.map_some]
      congr 2
      split at h
      · cases h
      · rename_i hsp
        rw [if_neg hsp]
        apply Array.ext
        · simp
        · intro i h1 h2
          rw [Array.getElem_setIfInBounds]
          by_cases e2 : p.off = i
          · subst e2
            rw [if_pos rfl]
            have := Array.getElem?_eq_some_iff.1 h
            exact this.2.symm
          · rw [if_neg e2]
    · cases h
  · simp [hk]

theorem LexAt.still {w : World} {L o : Nat} {src : ByteArray} {pos : Nat} {mk : Bool} {md : Int} (h : LexAt w L o src pos mk md) (B : Nat) : Below B (w.setCell ⟨L, o + 1, none⟩ (.int .i64 pos)) w :=
  ⟨rfl, rfl, rfl, by rw [size_setCell]; exact Nat.le_refl _, fun k _ => (heap_setCell_id h.c1 k).symm⟩

theorem Below.moved {B : Nat} {v wr : World} {p : Addr} {x : Value} (h : Below B (v.setCell p x) wr) (y : Value) : Below B (v.setCell p y) (wr.setCell p y) := Below.reset h y

set_option maxRecDepth 20000 in
set_option maxHeartbeats 2000000 in
theorem blockComment_any (L o : Nat) (src : ByteArray) (pos : Nat) (mk : Bool) (md : Int) (w : World) (hp : pos ≤ src.size) (hs : src.size ≤ 1048576) (hL : LexAt w L o src pos mk md) :
    Calls Try.prog 39 #[.pointer (some ⟨L, o, none⟩)] w fun e w' => e = .returned (.bool (bc src src.size pos 0).1) ∧ Below w.heap.size (w.setCell ⟨L, o + 1, none⟩ (.int .i64 (bc src src.size pos 0).2)) w' := by
  have hB := BC.start src pos
  generalize bc src src.size pos 0 = r at hB
  have HL : Hid (LexAt w L o src pos mk md) := hL
  have hS := hL.still w.heap.size
  have hlt := hL.lt
  clear hL
  go_enter Try.func39, Try.ntmps39
  go_wp2_with fail
  go_loopg [3] src.size (fun g dp wr => ∃ (i : Nat) (d : Int), i ≤ src.size ∧ -(i : Int) ≤ d ∧ d ≤ i ∧ dp = .int .i64 d ∧ BC src r g i d ∧ Below w.heap.size (w.setCell ⟨L, o + 1, none⟩ (.int .i64 i)) wr)
  case atStart => exact ⟨pos, 0, hp, by omega, by omega, rfl, hB, hS⟩
  case round =>
    clear hB hS
    obtain ⟨i, d, hi, hd1, hd2, rfl, hB, hbel⟩ := hrel
    have hLr := HL.out.after hbel
    have c0 := hLr.c0
    have c1 := hLr.c1
    have f1 := hLr.fr (o + 1)
    have HB : Hid (BC src r gk i d) := hB
    have HW : Hid (Below w.heap.size (w.setCell ⟨L, o + 1, none⟩ (.int .i64 i)) wr) := hbel
    clear hLr hB hbel
    have hi' : (i : Int) ≤ (src.size : Int) := by omega
    have hi0 : (0 : Int) ≤ (i : Int) := by omega
    by_cases hlt2 : i < src.size
    · have hlt' : (i : Int) < (src.size : Int) := by omega
      go_wp2_with fail
      go_quiet (fail)
      go_wp2_with fail
      have HW1 : Hid (Below w.heap.size (w.setCell ⟨L, o + 1, none⟩ (.int .i64 i)) (wr.drewN nq)) := below_drewN HW.out nq
      generalize wr.drewN nq = w1 at HW1 ⊢
      clear c0 c1 f1 HW
      have hL1 := HL.out.after HW1.out
      have c0 := hL1.c0
      have c1 := hL1.c1
      clear hL1
      go_quiet ((go_at_call 38; exact Calls.quiet_of_same (Try.strings_HasPrefix _ _ _)))
      rw [rest_list]
      rw [show Lib.hasPrefix (src.data.toList.drop i) (ByteArray.mk #[47, 42]).data.toList = two src i 47 42 from pre_two src i 47 42]
      have HW2 : Hid (Below w.heap.size (w.setCell ⟨L, o + 1, none⟩ (.int .i64 i)) (w1.drewN nq)) := below_drewN HW1.out nq
      generalize w1.drewN nq = w2 at HW2 ⊢
      clear c0 c1 HW1
      have hL2 := HL.out.after HW2.out
      have c0 := hL2.c0
      have c1 := hL2.c1
      have f1 := hL2.fr (o + 1)
      clear hL2
      cases ht : two src i 47 42
      · go_wp2_with fail
        go_quiet ((go_at_call 38; exact Calls.quiet_of_same (Try.strings_HasPrefix _ _ _)))
        rw [rest_list]
        rw [show Lib.hasPrefix (src.data.toList.drop i) (ByteArray.mk #[42, 47]).data.toList = two src i 42 47 from pre_two src i 42 47]
        have HW3 : Hid (Below w.heap.size (w.setCell ⟨L, o + 1, none⟩ (.int .i64 i)) (w2.drewN nq)) := below_drewN HW2.out nq
        generalize w2.drewN nq = w3 at HW3 ⊢
        clear c0 c1 f1 HW2
        have hL3 := HL.out.after HW3.out
        have c1 := hL3.c1
        have f1 := hL3.fr (o + 1)
        clear hL3
        cases hu : two src i 42 47
        · obtain ⟨g', hg, hB'⟩ := HB.out.next hlt2 ht hu
          have HG : Hid (gk = g' + 1) := hg
          clear hg
          go_wp2
          go_roundg g'
          case measure => rw [HG.out]; omega
          case rel => exact ⟨i + 1, d, by omega, by omega, by omega, rfl, hB', Below.moved HW3.out _⟩
        · have h2 := two_lt hu
          by_cases hd : d - 1 = 0
          · have HE : Hid (r = (true, i + 2)) := HB.out.done hlt2 ht hu hd
            have hdb : (d - 1 == 0) = true := by simp; omega
            clear hd
            go_wp2
            go_ret
            exact ⟨ret_bool (by rw [HE.out]), by rw [HE.out]; exact Below.moved HW3.out _⟩
          · have hdb : (d - 1 == 0) = false := by simp; omega
            obtain ⟨g', hg, hB'⟩ := HB.out.down hlt2 ht hu hd
            have HG : Hid (gk = g' + 1) := hg
            clear hg hd
            go_wp2
            go_roundg g'
            case measure => rw [HG.out]; omega
            case rel => exact ⟨i + 2, d - 1, by omega, by omega, by omega, by go_num, hB', Below.moved HW3.out _⟩
      · have h2 := two_lt ht
        obtain ⟨g', hg, hB'⟩ := HB.out.up hlt2 ht
        have HG : Hid (gk = g' + 1) := hg
        clear hg
        go_wp2
        go_roundg g'
        case measure => rw [HG.out]; omega
        case rel => exact ⟨i + 2, d + 1, by omega, by omega, by omega, by go_num, hB', Below.moved HW2.out _⟩
    · have hlt' : ¬ (i : Int) < (src.size : Int) := by omega
      have HE : Hid (r = (false, i)) := HB.out.ended hlt2
      go_wp2_with fail
      go_quiet (fail)
      go_wp2
      go_ret
      exact ⟨ret_bool (by rw [HE.out]), by rw [HE.out]; exact below_drewN HW.out _⟩
end Go.Proofs.Qxb6604722a
