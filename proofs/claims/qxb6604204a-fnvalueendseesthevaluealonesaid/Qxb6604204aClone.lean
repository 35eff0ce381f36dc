import Derived.Test.Qxb6604204aScalar
import Derived.Deep.OwnRows
namespace Go.Proofs.Qxb6604204a
open Go.ChangeShapes Go.WideShapes Go.ChangeAt Go.RowKit
open Pl

theorem info5 : (Try.prog.info? 5).map (fun i => (i.zero, i.size, i.bytes)) = some (some (.int .u8 0), 1, 1) := by kernel_rfl
theorem info3 : (Try.prog.info? 3).map (fun i => (i.zero, i.size, i.bytes)) = some (some (.int .i64 0), 1, 8) := by kernel_rfl

theorem Bytes.below {w w' : World} {b off n B : Nat} {d : Nat → Int} (h : Bytes w b off n d) (hb : Below B w w') (hB : b < B) : Bytes w' b off n d :=
  fun i hi => ⟨(hb.cell (p := ⟨b, off + i, none⟩) hB).trans (h i hi).1, (h i hi).2⟩

theorem Bytes.ofRow {w : World} {b n : Nat} {d : Nat → Int} {f : Nat → Value} (h : w.rowIs b 5 n f) (hf : ∀ i, i < n → f i = .int .u8 (d i)) (hd : ∀ i, i < n → 0 ≤ d i ∧ d i ≤ 255) : Bytes w b 0 n d :=
  fun i hi => ⟨by rw [Nat.zero_add, h.cell hi, hf i hi], hd i hi⟩

set_option maxHeartbeats 1000000 in
theorem clone_any (b off n c : Nat) (d : Nat → Int) (w : World) (hn : n ≤ 1048576) (hb : Bytes w b off n d) (hB : b < w.heap.size) :
    Calls Try.prog 9 #[.slice (some ⟨b, off, none⟩) n c] w fun e w' => e = .returned (.slice (some ⟨w.heap.size, 0, none⟩) n n) ∧ Below w.heap.size w w' ∧ w.heap.size < w'.heap.size ∧ Bytes w' w.heap.size 0 n d := by
  have hmk := run_make_row' (P := Try.prog) 22 5 (.int .u8 0) 1 Try.underlying22 info5 rfl .i64 .i64 n (by omega) (by omega)
  have hnil := fun wx : World => Lib.run_eql_slice_nil (P := Try.prog) wx 22 5 (some ⟨b, off, none⟩) n c 0 0 Try.underlying22
  go_enter Try.func9, Try.ntmps9
  go_wp2
  clear hmk hnil
  go_loopw [4] (fun i wr => ∃ k : Nat, k ≤ n ∧ i = .int .i64 k ∧ Below w.heap.size w wr ∧ wr.rowIs w.heap.size 5 n (fun j => .int .u8 (if j < k then d j else 0))) (fun i _ => n - (intOf i).toNat)
  case atStart => exact ⟨0, Nat.zero_le _, rfl, (Below.refl _ _).alloc (Nat.le_refl _) _, (World.rowIs_made w (.int .u8 0) n 5).congr (fun i _ => by simp)⟩
  case round =>
    obtain ⟨k, hk, rfl, hbel, hrow⟩ := hrel
    by_cases hlt : k < n
    · have hc := (hb.below hbel hB k hlt).1
      have hcr := hrow.cell hlt
      have hfr := hrow.frozen k
      go_wp2
      go_roundw
      case rel => exact ⟨k + 1, by omega, by go_num, hbel.setCell (Nat.le_refl _) _, (hrow.set k (.int .u8 (d k))).congr (fun j hj => by
        by_cases e : j = k
        · subst e; simp
        · by_cases e2 : j < k
          · simp [e, e2, Nat.lt_succ_of_lt e2]
          · have : ¬ j < k + 1 := by omega
            simp [e, e2, this])⟩
      case measure => simp [intOf]; omega
    · go_wp2
      go_ret
      exact ⟨rfl, hbel, hrow.lt, Bytes.ofRow hrow (fun i hi => by have : i < k := by omega
                                                                  simp [this]) (fun i hi => (hb i hi).2)⟩
end Go.Proofs.Qxb6604204a
