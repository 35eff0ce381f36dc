import Derived.Test.Qxb6605509aMarks
import Derived.OpenShut
namespace Go.Proofs.Qxb6605509a
open Go.ChangeShapes Go.WideShapes Go.ChangeAt Go.RowKit
set_option linter.unusedSimpArgs false
set_option linter.unusedVariables false

set_option maxHeartbeats 1000000 in
theorem mark_main (b off n c i : Nat) (d : Nat → Int) (w : World) (hn : n ≤ 1048576) (hi : i < n) (hb : Bytes w b off n d) (hB : b < w.heap.size) :
    Calls Try.prog 5 #[.slice (some ⟨b, off, none⟩) n c, .int .i64 i] w fun e w' => e = .returned (.bool true) ∧ Below w.heap.size w w' := by
  go_enter Try.func5, Try.ntmps5
  go_wp2_with (go_at_call 11; go_in)
  refine (clone_any b off n c d w hn hb hB).mono ?_
  rintro e w1 ⟨rfl, hbel, hsz, hb1⟩
  go_wp2_with fail
  refine (zzYamlMark_any w.heap.size 0 n n d i _ hn hi hb1).mono ?_
  rintro e w2 ⟨rfl, rfl⟩
  go_wp2_with fail
  refine (marks_any w.heap.size 0 n n d _ hn hb1 hsz).mono ?_
  rintro e w3 ⟨rfl, hbel3, hrow⟩
  have hcE := hrow.cell hi
  go_wp2
  go_ret
  exact ⟨by simp, hbel.trans (hbel3.mono (Nat.le_of_lt hsz))⟩

theorem nat_of_bounds {a : Int} {n : Nat} (h0 : 0 ≤ a) (h1 : a < n) : ∃ i : Nat, a = i ∧ i < n := ⟨a.toNat, by omega, by omega⟩
end Go.Proofs.Qxb6605509a
