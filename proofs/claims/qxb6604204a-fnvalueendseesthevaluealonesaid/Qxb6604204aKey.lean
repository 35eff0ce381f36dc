import Derived.Test.Qxb6604204aClone
namespace Go.Proofs.Qxb6604204a
open Go.ChangeShapes Go.WideShapes Go.ChangeAt Go.RowKit
open Pl

def AdvTo (d : Nat → Int) (n p p' : Nat) : Prop := p < p' ∧ p' ≤ n ∧ Adv d n p p'

theorem key_adv {d : Nat → Int} {n p q r s : Nat} (h1 : StrTo d n p q) (h2 : Skip d n q r) (hr : r < n) (hc : d r = 58) (h3 : Skip d n (r + 1) s) : AdvTo d n p s := by
  obtain ⟨q, rfl, h1⟩ := h1
  refine ⟨by have := h1.2.2.1; have := h2.1; have := h3.1; omega, h3.2.1, ?_⟩
  exact (Adv.str h1.1 h1.2.1 h1.2.2).trans (h2.adv.trans ((Adv.one hr (by rw [hc]; decide)).trans h3.adv))

theorem StrTo.lt {d : Nat → Int} {n p e : Nat} (h : StrTo d n p e) : p < n := by obtain ⟨q, _, h⟩ := h; exact h.1
theorem StrTo.le {d : Nat → Int} {n p e : Nat} (h : StrTo d n p e) : e ≤ n := by obtain ⟨q, rfl, h⟩ := h; have := h.2.2.2.1; omega

set_option maxHeartbeats 1000000 in
theorem afterKey_any (b off n c be : Nat) (d : Nat → Int) (E : Nat → Int) (p : Nat) (w : World) (hn : n ≤ 1048576) (hp : p ≤ n) (hb : Bytes w b off n d) (hbe : b ≠ be) (hrow : w.rowIs be 3 n (fun j => .int .i64 (E j))) :
    Calls Try.prog 20 #[.slice (some ⟨b, off, none⟩) n c, .int .i64 p, .slice (some ⟨be, 0, none⟩) n n] w fun e w' =>
      (e = .returned (.int .i64 (-1)) ∧ ∀ B, B ≤ be → Below B w w') ∨ ∃ p' q : Nat, e = .returned (.int .i64 p') ∧ StrTo d n p q ∧ AdvTo d n p p' ∧ w' = w.setCell ⟨be, p, none⟩ (.int .i64 q) := by
  go_enter Try.func20, Try.ntmps20
  go_wp2_with fail
  refine (stringEnd_any b off n c d p _ hn hp hb).mono ?_
  rintro e w' ⟨h, rfl⟩
  rcases h with rfl | ⟨q, rfl, hq⟩
  · go_wp2
    go_ret
    exact .inl ⟨rfl, fun B _ => Below.refl _ _⟩
  · have hpn : p < n := hq.lt
    have hqn : q ≤ n := hq.le
    have hcr := hrow.cell hpn
    have hfr := hrow.frozen p
    have HQ : Hid (StrTo d n p q) := hq
    clear hq
    have hb2 : Bytes (w'.setCell ⟨be, p, none⟩ (.int .i64 q)) b off n d := fun i hi => ⟨by
      rw [World.cell?_of_block (w := w')]
      · exact (hb i hi).1
      · exact Below.heap_setCell _ _ _ _ hbe, (hb i hi).2⟩
    go_wp2_with fail
    refine (skipWS_any b off n c d q _ hn (by omega) hb2).mono ?_
    rintro e w1 ⟨⟨r, rfl, hr⟩, rfl⟩
    have hrn : r ≤ n := hr.2.1
    have HR : Hid (Skip d n q r) := hr
    clear hr
    by_cases hrl : r < n
    · have hc := (hb2 r hrl).1
      by_cases h58 : d r = 58
      · have h58b : (d r != 58) = false := by simp [h58]
        have H58 : Hid (d r = 58) := h58
        clear h58
        go_wp2_with fail
        rw [show ((r : Int) + 1) = ((r + 1 : Nat) : Int) from by omega]
        refine (skipWS_any b off n c d (r + 1) _ hn (by omega) hb2).mono ?_
        rintro e w1 ⟨⟨s, rfl, hs⟩, rfl⟩
        have HS : Hid (Skip d n (r + 1) s) := hs
        clear hs
        go_wp2
        go_ret
        exact .inr ⟨s, q, rfl, HQ.out, key_adv HQ.out HR.out hrl H58.out HS.out, rfl⟩
      · have h58b : (d r != 58) = true := by simpa using h58
        go_wp2
        go_ret
        exact .inl ⟨rfl, fun B hB => (Below.refl _ _).setCell hB _⟩
    · go_wp2
      go_ret
      exact .inl ⟨rfl, fun B hB => (Below.refl _ _).setCell hB _⟩
end Go.Proofs.Qxb6604204a
