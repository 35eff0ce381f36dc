import Derived.Test.Qxb6604204aParse
import Derived.Test.Qxb6604204aValue
import Derived.OpenShut
namespace Go.Proofs.Qxb6604204a
open Go.ChangeShapes Go.WideShapes Go.ChangeAt Go.RowKit
open Pl

set_option maxHeartbeats 1000000 in
theorem matches_main (b off n c i : Nat) (d : Nat → Int) (w : World) (hn : n ≤ 1048576) (hi : i < n) (hb : Bytes w b off n d) (hB : b < w.heap.size) :
    Calls Try.prog 6 #[.slice (some ⟨b, off, none⟩) n c, .int .i64 i] w fun e w' => e = .returned (.bool true) ∧ Below w.heap.size w w' := by
  go_enter Try.func6, Try.ntmps6
  go_wp2_with (go_at_call 14; go_in)
  refine (clone_any b off n c d w hn hb hB).mono ?_
  rintro e w1 ⟨rfl, hbel, hsz, hb1⟩
  go_wp2_with fail
  refine (jsonEnds_any w.heap.size 0 n n d w1 hn hb1 hsz).mono ?_
  rintro e w2 ⟨hbel2, h⟩
  rcases h with rfl | ⟨E, rfl, hrow, hE⟩
  · go_wp2
    go_ret
    exact ⟨rfl, hbel.trans (hbel2.mono (Nat.le_of_lt hsz))⟩
  · have hcE := hrow.cell hi
    have hb2 : Bytes w2 w.heap.size 0 n d := hb1.below hbel2 hsz
    rcases hE i hi with hneg | ⟨e, he, hg⟩
    · go_wp2
      go_ret
      exact ⟨rfl, hbel.trans (hbel2.mono (Nat.le_of_lt hsz))⟩
    · rw [he] at hcE
      clear he
      go_wp2_with fail
      have hi2 : (i : Int) < (n : Int) := by omega
      have hi0 : (0 : Int) ≤ (i : Int) := by omega
      go_quiet ((go_at_call 16; exact Calls.quiet_of_same (zzValueEnd_any w.heap.size 0 n n d i e _ hn (Nat.le_refl _) hb2 hg)))
      go_wp2
      go_ret
      exact ⟨by simp, below_drewN (hbel.trans (hbel2.mono (Nat.le_of_lt hsz))) _⟩

set_option maxHeartbeats 1000000 in
theorem alone_main (b off n c i : Nat) (d : Nat → Int) (w : World) (hn : n ≤ 1048576) (hi : i < n) (hb : Bytes w b off n d) (hB : b < w.heap.size) :
    Calls Try.prog 7 #[.slice (some ⟨b, off, none⟩) n c, .int .i64 i] w fun e w' => e = .returned (.bool true) ∧ Below w.heap.size w w' := by
  go_enter Try.func7, Try.ntmps7
  go_wp2_with (go_at_call 17; go_in)
  refine (clone_any b off n c d w hn hb hB).mono ?_
  rintro e w1 ⟨rfl, hbel, hsz, hb1⟩
  go_wp2_with fail
  refine (jsonEnds_any w.heap.size 0 n n d w1 hn hb1 hsz).mono ?_
  rintro e w2 ⟨hbel2, h⟩
  rcases h with rfl | ⟨E, rfl, hrow, hE⟩
  · go_wp2
    go_ret
    exact ⟨rfl, hbel.trans (hbel2.mono (Nat.le_of_lt hsz))⟩
  · have hcE := hrow.cell hi
    have hb2 : Bytes w2 w.heap.size 0 n d := hb1.below hbel2 hsz
    rcases hE i hi with hneg | ⟨e, he, hg⟩
    · go_wp2
      go_ret
      exact ⟨rfl, hbel.trans (hbel2.mono (Nat.le_of_lt hsz))⟩
    · rw [he] at hcE
      clear he
      have hie : i < e := hg.1
      have hen : e ≤ n := hg.2.1
      have hb3 : Bytes w2 w.heap.size i (e - i) (fun k => d (i + k)) := fun k hk => by
        have := hb2 (i + k) (by omega)
        rw [Nat.zero_add] at this
        exact this
      go_wp2_with fail
      refine (zzValueEnd_any w.heap.size 0 n n d i e _ hn (Nat.le_refl _) hb2 hg).mono ?_
      rintro x w' ⟨rfl, rfl⟩
      go_wp2_with fail
      refine (zzValueEnd_any w.heap.size i (e - i) (n - i) (fun k => d (i + k)) 0 (e - i) _ (by omega) (by omega) hb3 hg.alone).mono ?_
      rintro x w'' ⟨rfl, rfl⟩
      have hsub : (((e - i : Nat) : Int) == (e : Int) - (i : Int)) = true := by simp; omega
      go_wp2
      go_ret
      exact ⟨by simp, hbel.trans (hbel2.mono (Nat.le_of_lt hsz))⟩

theorem nat_of_bounds {a : Int} {n : Nat} (h0 : 0 ≤ a) (h1 : a < n) : ∃ i : Nat, a = i ∧ i < n := ⟨a.toNat, by omega, by omega⟩

end Go.Proofs.Qxb6604204a
