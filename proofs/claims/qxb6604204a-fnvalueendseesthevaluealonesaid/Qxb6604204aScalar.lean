import Derived.Test.Qxb6604204aLeaves
namespace Go.Proofs.Qxb6604204a
open Go.ChangeShapes Go.WideShapes Go.ChangeAt Go.RowKit
open Pl

theorem Bytes.drewN {w : World} {b off n : Nat} {d : Nat → Int} (h : Bytes w b off n d) (m : Nat) : Bytes (w.drewN m) b off n d := h

theorem scal_word (d : Nat → Int) (n p : Nat) (s : ByteArray) (h0 : 0 < s.size) (h1 : p + s.size ≤ n) (h2 : ∀ t (h : t < s.size), d (p + t) = (s[t].toNat : Int)) (h3 : ∀ t (h : t < s.size), scalB (s[t].toNat : Int) = true) : Scal d n p (p + s.size) := by
  refine ⟨by omega, h1, fun k hk1 hk2 => ?_⟩
  obtain ⟨t, rfl⟩ : ∃ t, k = p + t := ⟨k - p, by omega⟩
  rw [h2 t (by omega)]; exact h3 t (by omega)

def STo (d : Nat → Int) (p k : Nat) : Prop := ∀ t, p ≤ t → t < k → scalB (d t) = true
theorem STo.refl (d : Nat → Int) (p : Nat) : STo d p p := fun t h1 h2 => by omega
theorem STo.next {d : Nat → Int} {p k : Nat} (h : STo d p k) (h1 : scalB (d k) = true) : STo d p (k + 1) := fun t h2 h3 => by
  by_cases e : t = k
  · subst e; exact h1
  · exact h t h2 (by omega)
theorem STo.to {d : Nat → Int} {p k q : Nat} (h : STo d p k) (h1 : ∀ t, k ≤ t → t < q → scalB (d t) = true) : STo d p q := fun t h2 h3 => by
  by_cases e : t < k
  · exact h t h2 e
  · exact h1 t (by omega) h3


/-- The reader's place behind an 'if': it has come to 'k', and all that it passed are bytes of a number. -/
def At (d : Nat → Int) (n p lo : Nat) (v : Value) (k : Nat) : Prop := v = .int .i64 k ∧ lo ≤ k ∧ k ≤ n ∧ STo d p k

def Sign (d : Nat → Int) (n k : Nat) (t : Bool) : Prop := t = true → k < n ∧ scalB (d k) = true

set_option maxHeartbeats 2000000 in
theorem scalar_any (b off n c : Nat) (d : Nat → Int) (p : Nat) (w : World) (hn : n ≤ 1048576) (hp : p < n) (hb : Bytes w b off n d) :
    Calls Try.prog 22 #[.slice (some ⟨b, off, none⟩) n c, .int .i64 p] w fun e w' => (e = .returned (.int .i64 (-1)) ∨ ∃ q : Nat, e = .returned (.int .i64 q) ∧ Scal d n p q) ∧ ∃ m, w' = w.drewN m := by
  have hc := (hb p hp).1
  have hc1 := (hb p hp).2
  go_enter Try.func22, Try.ntmps22
  go_wp2_with fail
  refine (hasWord_any b off n c d p _ _ hn (by omega) (by decide) hb).mono ?_
  rintro e w' ⟨h, m1, rfl⟩
  rcases h with rfl | ⟨rfl, h1, h2⟩
  rotate_left
  · go_wp2
    go_ret
    exact ⟨.inr ⟨p + 4, by go_num, scal_word d n p _ (by decide) h1 h2 (by decide)⟩, _, rfl⟩
  go_wp2_with fail
  refine (hasWord_any b off n c d p _ _ hn (by omega) (by decide) (hb.drewN _)).mono ?_
  rintro e w' ⟨h, m2, rfl⟩
  rcases h with rfl | ⟨rfl, h1, h2⟩
  rotate_left
  · go_wp2
    go_ret
    exact ⟨.inr ⟨p + 5, by go_num, scal_word d n p _ (by decide) h1 h2 (by decide)⟩, _, rfl⟩
  go_wp2_with fail
  refine (hasWord_any b off n c d p _ _ hn (by omega) (by decide) (hb.drewN _)).mono ?_
  rintro e w' ⟨h, m3, rfl⟩
  rcases h with rfl | ⟨rfl, h1, h2⟩
  rotate_left
  · go_wp2
    go_ret
    exact ⟨.inr ⟨p + 4, by go_num, scal_word d n p _ (by decide) h1 h2 (by decide)⟩, _, rfl⟩
  go_upto_if 34 with fail
  go_cut [5] from 24 to 36 (fun q wx => (∃ k : Nat, At d n p p q k) ∧ wx = w.drewN (m1 + m2 + m3))
  case first =>
    by_cases h45 : d p = 45
    · have hq : (d p == 45) = true := by simp [h45]
      have HQ : Hid (d p = 45) := h45
      clear h45 hc1
      go_wp2
      go_meet
      case rel => exact ⟨⟨p + 1, by go_num, by omega, by omega, (STo.refl d p).next (by rw [HQ.out]; decide)⟩, rfl⟩
    · have hq : (d p == 45) = false := by simpa using h45
      clear hc1
      go_wp2
      go_meet
      case rel => exact ⟨⟨p, rfl, by omega, by omega, STo.refl d p⟩, rfl⟩
  case rest =>
    clear hc hc1
    obtain ⟨⟨k, rfl, hk1, hk2, hk3⟩, rfl⟩ := hcut
    have HK : Hid (STo d p k) := hk3
    clear hk3
    by_cases hkn : k < n
    rotate_left
    · go_wp2
      go_ret
      exact ⟨.inl rfl, _, rfl⟩
    have hc := (hb k hkn).1
    have hc1 := (hb k hkn).2
    go_upto_if 45 with fail
    go_cut [5] from 37 to 62 (fun q wx => (∃ k : Nat, At d n p (p + 1) q k) ∧ wx = w.drewN (m1 + m2 + m3))
    case first =>
      by_cases h48 : d k = 48
      · have hq : (d k == 48) = true := by simp [h48]
        have HQ : Hid (d k = 48) := h48
        clear h48 hc1
        go_wp2
        go_meet
        case rel => exact ⟨⟨k + 1, by go_num, by omega, by omega, HK.out.next (by rw [HQ.out]; decide)⟩, rfl⟩
      · have hq : (d k == 48) = false := by simpa using h48
        by_cases h49 : 49 ≤ d k ∧ d k ≤ 57
        · obtain ⟨h49, h57⟩ := h49
          go_wp2_with fail
          refine (digits_any b off n c d k _ hn (by omega) (hb.drewN _)).mono ?_
          rintro e w' ⟨⟨r, rfl, hr1, hr2, hr3, hr4⟩, rfl⟩
          have HR : Hid (∀ t, k ≤ t → t < r → scalB (d t) = true) := hr3
          have hr5 := hr4 hkn (by omega) (by omega)
          clear hr4 hr3
          go_wp2
          go_meet
          case rel => exact ⟨⟨r, rfl, by omega, hr2, HK.out.to HR.out⟩, rfl⟩
        · have h49' : d k < 49 ∨ 57 < d k := by omega
          clear h49
          rcases h49' with h49 | h49
          all_goals
            go_wp2
            go_ret
            exact ⟨.inl rfl, _, rfl⟩
    case rest =>
      clear hc hc1 HK hk1 hk2 hkn
      obtain ⟨⟨k, rfl, hk1, hk2, hk3⟩, rfl⟩ := hcut
      have HK : Hid (STo d p k) := hk3
      clear hk3
      by_cases hkn : k < n
      rotate_left
      · go_wp2
        go_ret
        exact ⟨.inr ⟨k, rfl, by omega, hk2, HK.out⟩, _, rfl⟩
      have hc := (hb k hkn).1
      go_upto_if 73 with fail
      go_cut [5] from 63 to 82 (fun q wx => (∃ k : Nat, At d n p (p + 1) q k) ∧ wx = w.drewN (m1 + m2 + m3))
      case first =>
        by_cases h46 : d k = 46
        · have hq : (d k == 46) = true := by simp [h46]
          have HQ : Hid (d k = 46) := h46
          clear h46
          go_wp2_with fail
          rw [show ((k : Int) + 1) = ((k + 1 : Nat) : Int) from by omega]
          refine (digits_any b off n c d (k + 1) _ hn (by omega) (hb.drewN _)).mono ?_
          rintro e w' ⟨⟨r, rfl, hr1, hr2, hr3, hr4⟩, rfl⟩
          have HR : Hid (∀ t, k + 1 ≤ t → t < r → scalB (d t) = true) := hr3
          clear hr4 hr3
          by_cases hrk : r = k + 1
          · have hq2 : ((r : Int) == (k : Int) + 1) = true := by simp; omega
            clear hrk
            go_wp2
            go_ret
            exact ⟨.inl rfl, _, rfl⟩
          · have hq2 : ((r : Int) == (k : Int) + 1) = false := by simp; omega
            go_wp2
            go_meet
            case rel => exact ⟨⟨r, rfl, by omega, hr2, (HK.out.next (by rw [HQ.out]; decide)).to HR.out⟩, rfl⟩
        · have hq : (d k == 46) = false := by simpa using h46
          go_wp2
          go_meet
          case rel => exact ⟨⟨k, rfl, by omega, hk2, HK.out⟩, rfl⟩
      case rest =>
        clear hc HK hk1 hk2 hkn
        obtain ⟨⟨k, rfl, hk1, hk2, hk3⟩, rfl⟩ := hcut
        have HK : Hid (STo d p k) := hk3
        clear hk3
        by_cases hkn : k < n
        rotate_left
        · go_wp2
          go_ret
          exact ⟨.inr ⟨k, rfl, by omega, hk2, HK.out⟩, _, rfl⟩
        have hc := (hb k hkn).1
        by_cases hE : d k = 101 ∨ d k = 69
        rotate_left
        · have hq : (d k == 101) = false := by simp; omega
          have hq2 : (d k == 69) = false := by simp; omega
          go_wp2
          go_ret
          exact ⟨.inr ⟨k, rfl, by omega, hk2, HK.out⟩, _, rfl⟩
        have HE : Hid (STo d p (k + 1)) := HK.out.next (by rcases hE with h | h <;> rw [h] <;> decide)
        clear HK
        have hEb : ((d k == 101) = true) ∨ ((d k == 101) = false ∧ (d k == 69) = true) := by
          rcases hE with h | h <;> simp [h]
        clear hE
        rcases hEb with hq | ⟨hq, hq2⟩
        all_goals
          go_upto_region 24 with fail
          go_cut [120] from 101 to 119 (fun t wx => (∃ tb : Bool, t = .bool tb ∧ Sign d n (k + 1) tb) ∧ wx = w.drewN (m1 + m2 + m3))
          case first =>
            by_cases hkn2 : k + 1 < n
            · have hc2 := (hb (k + 1) hkn2).1
              have hi : (k : Int) + 1 < n := by omega
              by_cases hS : d (k + 1) = 43 ∨ d (k + 1) = 45
              · have HS : Hid (scalB (d (k + 1)) = true) := (by rcases hS with h | h <;> rw [h] <;> decide : scalB (d (k + 1)) = true)
                have hSb : ((d (k + 1) == 43) = true) ∨ ((d (k + 1) == 43) = false ∧ (d (k + 1) == 45) = true) := by
                  rcases hS with h | h <;> simp [h]
                clear hS
                rcases hSb with hs | ⟨hs, hs2⟩
                all_goals
                  go_wp2
                  go_meet
                  case rel => exact ⟨⟨true, rfl, fun _ => ⟨hkn2, HS.out⟩⟩, rfl⟩
              · have hs : (d (k + 1) == 43) = false := by simp; omega
                have hs2 : (d (k + 1) == 45) = false := by simp; omega
                go_wp2
                go_meet
                case rel => exact ⟨⟨false, rfl, fun h => by cases h⟩, rfl⟩
            · go_wp2
              go_meet
              case rel => exact ⟨⟨false, rfl, fun h => by cases h⟩, rfl⟩
          case rest =>
            obtain ⟨⟨tb, rfl, hsg⟩, rfl⟩ := hcut
            obtain ⟨k2, hk3, hk4, hk5, hk6⟩ : ∃ k2 : Nat, k + 1 ≤ k2 ∧ k2 ≤ n ∧ (k2 = if tb = true then k + 1 + 1 else k + 1) ∧ STo d p k2 := by
              cases tb with
              | true => exact ⟨k + 1 + 1, by omega, (hsg rfl).1, rfl, HE.out.next (hsg rfl).2⟩
              | false => exact ⟨k + 1, by omega, by omega, rfl, HE.out⟩
            have HK2 : Hid (STo d p k2) := hk6
            have HK5 : Hid (k2 = if tb = true then k + 1 + 1 else k + 1) := hk5
            clear hk5 hk6 hsg
            cases tb
            all_goals
              go_wp2_with fail
              have hk5 := HK5.out
              simp only [if_true, Bool.false_eq_true, if_false] at hk5
              first | rw [show ((k : Int) + 1 + 1) = (k2 : Int) from by omega] | rw [show ((k : Int) + 1) = (k2 : Int) from by omega]
              clear hk5
              refine (digits_any b off n c d k2 _ hn (by omega) (hb.drewN _)).mono ?_
              rintro e w' ⟨⟨r, rfl, hr1, hr2, hr3, hr4⟩, rfl⟩
              have HR : Hid (∀ t, k2 ≤ t → t < r → scalB (d t) = true) := hr3
              clear hr4 hr3
              by_cases hrk : r = k2
              · have hq3 : ((r : Int) == (k2 : Int)) = true := by simp; omega
                clear hrk
                go_wp2
                go_ret
                exact ⟨.inl rfl, _, rfl⟩
              · have hq3 : ((r : Int) == (k2 : Int)) = false := by simp; omega
                go_wp2
                go_ret
                exact ⟨.inr ⟨r, rfl, by omega, hr2, HK2.out.to HR.out⟩, _, rfl⟩
end Go.Proofs.Qxb6604204a
