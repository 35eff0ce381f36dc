import Derived.Test.Qxb6605469aLeaf
set_option linter.unusedSimpArgs false
set_option linter.unusedVariables false
namespace Go.Proofs.Qxb6605469a
open Go.ChangeShapes Go.WideShapes Go.ChangeAt Go.RowKit

theorem splice_all {α : Type} (L cs : List α) (h : cs.length = L.length) : splice L 0 cs = cs := by
  simp [splice, h]

set_option maxHeartbeats 1000000 in
theorem copyStrings_nil (w : World) : Calls Try.prog 10 #[.slice none 0 0] w fun e w' => e = .returned (.slice none 0 0) ∧ w' = w := by
  have hnil := fun wx : World => Lib.run_eql_slice_nil (P := Try.prog) wx 24 9 none 0 0 0 0 Try.underlying24
  go_enter Try.func10, Try.ntmps10
  go_wp2
  go_ret
  exact ⟨rfl, rfl⟩
set_option maxHeartbeats 1000000 in
theorem copyBytes_nil (w : World) : Calls Try.prog 9 #[.slice none 0 0] w fun e w' => e = .returned (.slice none 0 0) ∧ w' = w := by
  have hnil := fun wx : World => Lib.run_eql_slice_nil (P := Try.prog) wx 23 5 none 0 0 0 0 Try.underlying23
  go_enter Try.func9, Try.ntmps9
  go_wp2
  go_ret
  exact ⟨rfl, rfl⟩

set_option maxHeartbeats 1000000 in
theorem copyStrings_some (x : Addr) (n c : Nat) (xs : List ByteArray) (w : World) (hn : n ≤ 1048576) (h : Strs w (some x) n xs) : Calls Try.prog 10 #[.slice (some x) n c] w fun e w' => e = .returned (.slice (some ⟨w.heap.size, 0, none⟩) n n) ∧ Below w.heap.size w w' ∧ w'.heap[w.heap.size]? = some (.cells (xs.map sv).toArray 9 (0, 0)) := by
  have hmk := run_make_row' (P := Try.prog) 24 9 (Value.string ⟨#[]⟩) 16 Try.underlying24 info9 rfl .i64 .i64 n (by omega) (by omega)
  have hnil := fun wx : World => Lib.run_eql_slice_nil (P := Try.prog) wx 24 9 (some x) n c 0 0 Try.underlying24
  have hlen : (xs.map sv).length = n := h.1
  obtain ⟨cur, hcur⟩ : ∃ cur : List Value, cur = (madeCells #[Value.string ⟨#[]⟩] n).toList := ⟨_, rfl⟩
  have hcl : cur.length = n := by rw [hcur]; simp [size_madeCells]
  have hW : (w.alloc (.cells (madeCells #[Value.string ⟨#[]⟩] n) 9)).heap[w.heap.size]? = some (.cells cur.toArray 9 (0, 0)) := by rw [hcur]; exact heap_alloc_new w _
  have hb1 : Below w.heap.size w (w.alloc (.cells (madeCells #[Value.string ⟨#[]⟩] n) 9)) := (Below.refl _ _).alloc (Nat.le_refl _) _
  have hsrc := h.src hb1
  have h1 := sv_one xs
  obtain ⟨cs, hcs⟩ : ∃ cs, cs = xs.map sv := ⟨_, rfl⟩
  rw [← hcs] at hlen hsrc h1
  have HC : Hid (cs = xs.map sv) := hcs
  have HW : Hid _ := hW
  clear hW hcs
  go_enter Try.func10, Try.ntmps10
  go_upto_region 4 with fail
  go_wp2_with (refine wpList_copy_splice rfl _ _ 24 24 rfl 9 Try.underlying24 (by kernel_rfl) _ _ _ _ _ _ rfl rfl w.heap.size 0 cur 9 HW.out cs (by rw [hlen]; exact (Nat.min_self n).symm) (fun h0 => ⟨rfl, hsrc h0⟩) (by omega) h1 w.heap.size w hb1 (Nat.le_refl _) ?_; intro w2 HG2 hB2)
  go_ret
  refine ⟨rfl, hB2, ?_⟩
  rw [← HC.out, HG2.out, splice_all cur cs (by omega)]

set_option maxHeartbeats 1000000 in
theorem copyBytes_some (x : Addr) (n c : Nat) (xs : List UInt8) (w : World) (hn : n ≤ 1048576) (h : Byts w (some x) n xs) : Calls Try.prog 9 #[.slice (some x) n c] w fun e w' => e = .returned (.slice (some ⟨w.heap.size, 0, none⟩) n n) ∧ Below w.heap.size w w' ∧ w'.heap[w.heap.size]? = some (.cells (xs.map bv).toArray 5 (0, 0)) := by
  have hmk := run_make_row' (P := Try.prog) 23 5 (Value.int .u8 0) 1 Try.underlying23 info5 rfl .i64 .i64 n (by omega) (by omega)
  have hnil := fun wx : World => Lib.run_eql_slice_nil (P := Try.prog) wx 23 5 (some x) n c 0 0 Try.underlying23
  have hlen : (xs.map bv).length = n := h.1
  obtain ⟨cur, hcur⟩ : ∃ cur : List Value, cur = (madeCells #[Value.int .u8 0] n).toList := ⟨_, rfl⟩
  have hcl : cur.length = n := by rw [hcur]; simp [size_madeCells]
  have hW : (w.alloc (.cells (madeCells #[Value.int .u8 0] n) 5)).heap[w.heap.size]? = some (.cells cur.toArray 5 (0, 0)) := by rw [hcur]; exact heap_alloc_new w _
  have hb1 : Below w.heap.size w (w.alloc (.cells (madeCells #[Value.int .u8 0] n) 5)) := (Below.refl _ _).alloc (Nat.le_refl _) _
  have hsrc := h.src hb1
  have h1 := bv_one xs
  obtain ⟨cs, hcs⟩ : ∃ cs, cs = xs.map bv := ⟨_, rfl⟩
  rw [← hcs] at hlen hsrc h1
  have HC : Hid (cs = xs.map bv) := hcs
  have HW : Hid _ := hW
  clear hW hcs
  go_enter Try.func9, Try.ntmps9
  go_upto_region 4 with fail
  go_wp2_with (refine wpList_copy_splice rfl _ _ 23 23 rfl 5 Try.underlying23 (by kernel_rfl) _ _ _ _ _ _ rfl rfl w.heap.size 0 cur 5 HW.out cs (by rw [hlen]; exact (Nat.min_self n).symm) (fun h0 => ⟨rfl, hsrc h0⟩) (by omega) h1 w.heap.size w hb1 (Nat.le_refl _) ?_; intro w2 HG2 hB2)
  go_ret
  refine ⟨rfl, hB2, ?_⟩
  rw [← HC.out, HG2.out, splice_all cur cs (by omega)]


theorem copyStrings_any (a : Option Addr) (n c : Nat) (xs : List ByteArray) (w : World) (hn : n ≤ 1048576) (h : Strs w a n xs) (hz : a = none → n = 0 ∧ c = 0) : Calls Try.prog 10 #[.slice a n c] w fun e w' => ∃ a' , e = .returned (.slice a' n n) ∧ Below w.heap.size w w' ∧ Strs w' a' n xs ∧ (a' = none → n = 0) ∧ (a' = none ∨ a' = some ⟨w.heap.size, 0, none⟩) := by
  cases a with
  | none =>
    obtain ⟨rfl, rfl⟩ := hz rfl
    refine (copyStrings_nil w).mono ?_
    rintro e w' ⟨rfl, rfl⟩
    exact ⟨none, rfl, Below.refl _ _, h, fun _ => rfl, .inl rfl⟩
  | some x =>
    refine (copyStrings_some x n c xs w hn h).mono ?_
    rintro e w' ⟨rfl, hb, hg⟩
    refine ⟨_, rfl, hb, ?_, (fun h => by cases h), .inr rfl⟩
    have := Row.ofCells hg
    rw [h.1] at this
    exact this
end Go.Proofs.Qxb6605469a
