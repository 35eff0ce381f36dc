import Derived.Test.Qxb6604204aKey
import Derived.Test.Qxb6604204aShelf
namespace Go.Proofs.Qxb6604204a
open Go.ChangeShapes Go.WideShapes Go.ChangeAt Go.RowKit
open Pl

theorem ib_spec (l : List UInt8) (c : UInt8) : (Lib.indexByte l c = -1 ∧ ∀ j (h : j < l.length), l[j] ≠ c) ∨ ∃ i : Nat, Lib.indexByte l c = i ∧ ∃ h : i < l.length, l[i] = c ∧ ∀ j (hj : j < i), l[j] ≠ c := by
  induction l with
  | nil => exact .inl ⟨rfl, fun j h => absurd h (Nat.not_lt_zero _)⟩
  | cons b l ih =>
    by_cases hb : b = c
    · exact .inr ⟨0, by simp [Lib.indexByte, hb], by simp, by simpa using hb, fun j hj => absurd hj (Nat.not_lt_zero _)⟩
    · rcases ih with ⟨h1, h2⟩ | ⟨i, h1, h2, h3, h4⟩
      · refine .inl ⟨by simp [Lib.indexByte, hb, h1], fun j hj => ?_⟩
        match j with
        | 0 => simpa using hb
        | j + 1 => simpa using h2 j (by simpa using hj)
      · refine .inr ⟨i + 1, ?_, by simpa using h2, by simpa using h3, fun j hj => ?_⟩
        · have : ¬ ((i : Int) = -1) := by omega
          simp [Lib.indexByte, hb, h1, this]
        · match j with
          | 0 => simpa using hb
          | j + 1 => simpa using h4 j (by omega)

theorem u8_eq {x y : Int} (hx : 0 ≤ x) (hx2 : x ≤ 255) (hy : 0 ≤ y) (hy2 : y ≤ 255) : (UInt8.ofNat x.toNat = y.toNat.toUInt8) ↔ x = y := by
  constructor
  · intro h
    have h1 : (UInt8.ofNat x.toNat).toNat = (UInt8.ofNat y.toNat).toNat := congrArg UInt8.toNat h
    rw [UInt8.toNat_ofNat_of_lt' (by show x.toNat < 256; omega), UInt8.toNat_ofNat_of_lt' (by show y.toNat < 256; omega)] at h1
    omega
  · rintro rfl; rfl

set_option maxHeartbeats 400000 in
theorem idx_any (b off n c : Nat) (d : Nat → Int) (cv : Int) (w : World) (hb : Bytes w b off n d) (h0 : 0 ≤ cv) (h1 : cv ≤ 255) :
    Calls Try.prog 24 #[.slice (some ⟨b, off, none⟩) n c, .int .u8 cv] w fun e w' => ((e = .returned (.int .i64 (-1)) ∧ ∀ j, j < n → d j ≠ cv) ∨ ∃ i : Nat, e = .returned (.int .i64 i) ∧ i < n ∧ d i = cv ∧ ∀ j, j < i → d j ≠ cv) ∧ w' = w := by
  refine (Try.bytes_IndexByte b off n c ((List.range n).map d) cv w (by simp) (fun i hi => by rw [(hb i hi).1]; simp [hi])).mono ?_
  rintro e w' ⟨rfl, rfl⟩
  refine ⟨?_, rfl⟩
  have hl : (Lib.bytesOf ((List.range n).map d)).length = n := by simp [Lib.bytesOf]
  have hg : ∀ j (h : j < (Lib.bytesOf ((List.range n).map d)).length), (Lib.bytesOf ((List.range n).map d))[j] = UInt8.ofNat (d j).toNat := fun j h => by simp [Lib.bytesOf]
  rcases ib_spec (Lib.bytesOf ((List.range n).map d)) cv.toNat.toUInt8 with ⟨h2, h3⟩ | ⟨i, h2, h3, h4, h5⟩
  · refine .inl ⟨by rw [h2], fun j hj e => h3 j (by omega) ?_⟩
    rw [hg]; exact (u8_eq (hb j hj).2.1 (hb j hj).2.2 h0 h1).2 e
  · have hi : i < n := by omega
    refine .inr ⟨i, by rw [h2], hi, ?_, fun j hj e => h5 j hj ?_⟩
    · rw [hg] at h4; exact (u8_eq (hb i hi).2.1 (hb i hi).2.2 h0 h1).1 h4
    · rw [hg]; exact (u8_eq (hb j (by omega)).2.1 (hb j (by omega)).2.2 h0 h1).2 e

theorem Bytes.from {w : World} {b off n : Nat} {d : Nat → Int} (h : Bytes w b off n d) (k : Nat) : Bytes w b (off + k) (n - k) (fun t => d (k + t)) :=
  fun i hi => by have := h (k + i) (by omega); rw [← Nat.add_assoc] at this; exact this

theorem par {d : Nat → Int} {n q j0 t : Nat} (h : Str d n 0 q) (hj : j0 ≤ q) (hd : d j0 = 34) (ht : esc d 0 j0 = t) : (j0 = q ∧ t % 2 = 0) ∨ (j0 < q ∧ t % 2 = 1) := by
  obtain ⟨_, _, _, h4, h5⟩ := h
  by_cases e : j0 = q
  · subst e; rw [Nat.sub_zero, ht] at h4; exact .inl ⟨rfl, h4⟩
  · have := h5 j0 (Nat.zero_le _) (by omega) hd
    rw [Nat.sub_zero, ht] at this
    exact .inr ⟨by omega, this⟩

set_option maxHeartbeats 1000000 in
theorem closing_any (b off n c : Nat) (d : Nat → Int) (q : Nat) (w : World) (hn : n ≤ 1048576) (hnc : n ≤ c) (hb : Bytes w b off n d) (hs : Str d n 0 q) :
    Calls Try.prog 18 #[.slice (some ⟨b, off, none⟩) n c] w fun e w' => e = .returned (.int .i64 q) ∧ w' = w := by
  have HS : Hid (Str d n 0 q) := hs
  have hqn : q < n := hs.2.1
  clear hs
  go_enter Try.func18, Try.ntmps18
  go_wp2
  go_loopg [3] (q + 1) (fun g i wr => ∃ k : Nat, k ≤ q ∧ k + g = q + 1 ∧ i = .int .i64 k ∧ w = wr)
  case atStart => exact ⟨0, Nat.zero_le _, by omega, rfl, rfl⟩
  case round =>
    obtain ⟨k, hk, hg, rfl, rfl⟩ := hrel
    go_wp2_with fail
    refine (idx_any b (off + k) (n - k) (c - k) (fun t => d (k + t)) 34 _ (hb.from k) (by omega) (by omega)).mono ?_
    rintro e w' ⟨h, rfl⟩
    rcases h with ⟨_, h⟩ | ⟨i, rfl, hi1, hi2, hi3⟩
    · exact absurd HS.out.2.2.1 (by have := h (q - k) (by omega); rw [show k + (q - k) = q from by omega] at this; exact this)
    obtain ⟨j0, hj0⟩ : ∃ j0, j0 = k + i := ⟨_, rfl⟩
    have hjq : j0 ≤ q := by
      rcases Nat.lt_or_ge q j0 with h | h
      · exact absurd HS.out.2.2.1 (by have := hi3 (q - k) (by omega); rw [show k + (q - k) = q from by omega] at this; exact this)
      · exact h
    have HD : Hid (d j0 = 34) := by rw [hj0]; exact hi2
    have HJ : Hid (j0 = k + i) := hj0
    clear hi2 hi3 hi1
    go_wp2_with fail
    rw [show ((k : Int) + (i : Int)) = (j0 : Int) from by omega]
    clear hj0
    go_loopg [5, 6] j0 (fun g e j wr => ∃ t : Nat, t + g = j0 ∧ e = .int .i64 t ∧ j = .int .i64 ((j0 : Int) - 1 - t) ∧ (∀ x, j0 - t ≤ x → x < j0 → d x = 92) ∧ w' = wr)
    case atStart => exact ⟨0, by omega, rfl, by simp, fun x h1 h2 => by omega, rfl⟩
    case round =>
      obtain ⟨t, ht, rfl, rfl, h92, rfl⟩ := hrel
      have H92 : Hid (∀ x, j0 - t ≤ x → x < j0 → d x = 92) := h92
      clear h92
      have hth : (t < j0 ∧ (d (j0 - 1 - t) == 92) = true) ∨ (t < j0 ∧ (d (j0 - 1 - t) == 92) = false) ∨ ¬ t < j0 := by
        by_cases hz : t < j0
        · cases hx : (d (j0 - 1 - t) == 92)
          · exact .inr (.inl ⟨hz, rfl⟩)
          · exact .inl ⟨hz, rfl⟩
        · exact .inr (.inr hz)
      rcases hth with ⟨hz, hx⟩ | hrest
      · have hcx := (hb (j0 - 1 - t) (by omega)).1
        go_wp2
        go_roundg (gk - 1)
        case measure => omega
        case rel => exact ⟨t + 1, by omega, by go_num, by go_num, fun x h1 h2 => by
          by_cases e : x = j0 - 1 - t
          · subst e; exact eq_of_beq hx
          · exact H92.out x (by omega) h2, rfl⟩
      · have hex : esc d 0 j0 = t := by
          refine esc_count t j0 (by omega) H92.out ?_
          rcases hrest with ⟨hz, hx⟩ | hz
          · exact .inr (by rw [show j0 - t - 1 = j0 - 1 - t from by omega]; simpa using hx)
          · exact .inl (by omega)
        have hpar := par HS.out hjq HD.out hex
        have hcx : t < j0 → w'.cell? ⟨b, off + (j0 - 1 - t), none⟩ = some (.int .u8 (d (j0 - 1 - t))) := fun h => (hb (j0 - 1 - t) (by omega)).1
        clear hex
        rcases hpar with ⟨hjq2, hp⟩ | ⟨hjq2, hp⟩
        · have HE : Hid (j0 = q) := hjq2
          have hpb : ((t : Int) % 2 == 0) = true := by simp; omega
          clear hjq2 hp
          rcases hrest with ⟨hz, hx⟩ | hz
          all_goals
            try (replace hcx := hcx hz)
            go_wp2
            go_ret
            exact ⟨ret_int (by have := HE.out; omega), rfl⟩
        · have hpb : ((t : Int) % 2 == 0) = false := by simp; omega
          have hjk : k ≤ j0 := by rw [HJ.out]; omega
          clear hp
          rcases hrest with ⟨hz, hx⟩ | hz
          all_goals
            try (replace hcx := hcx hz)
            go_wp2
            go_roundg (q + 1 - (j0 + 1))
            case measure => omega
            case rel => exact ⟨j0 + 1, by omega, by omega, by go_num, rfl⟩
end Go.Proofs.Qxb6604204a
