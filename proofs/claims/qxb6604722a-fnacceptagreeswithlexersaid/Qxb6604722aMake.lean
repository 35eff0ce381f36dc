import Derived.Test.Qxb6604722aAccept
namespace Go.Proofs.Qxb6604722a
open Go.ChangeShapes Go.WideShapes Go.ChangeAt Go.RowKit
open Pl Lx
set_option linter.unusedSimpArgs false
set_option linter.unusedVariables false

def par0 (src : ByteArray) (mk : Bool) : Obj := .cells #[.string src, .int .i64 0, .bool mk, .int .i64 0, .slice none 0 0, .int .i64 0, .bool false, .int .i64 0, .int .i64 0, .map none, .bool false] 57
theorem par0_at (src : ByteArray) (mk : Bool) (w : World) : PAt (w.alloc (par0 src mk)) w.heap.size src 0 mk 0 (.slice none 0 0) 0 [] 0 false 0 :=
  ⟨⟨by simp, by simp [par0], by simp [par0], by simp [par0], by simp [par0], fun j => World.frozen?_alloc_at _ _ _ j rfl⟩, by simp [par0], by simp [par0], by simp [par0], by simp [par0], World.ownsRow_nil _ _ _ _⟩

set_option maxHeartbeats 1000000 in
theorem newParser_any (src : ByteArray) (mk : Bool) (w : World) (hs : src.size ≤ 1048576) :
    Calls Try.prog 17 #[.string src, .bool mk] w fun e w' => e = .returned (.pointer (some ⟨w.heap.size, 0, none⟩)) ∧ Below w.heap.size w w' ∧ Filled src mk w.heap.size w' := by
  go_enter Try.func17, Try.ntmps17
  go_wp2_with fail
  refine (readAhead_first src mk w.heap.size _ hs (par0_at src mk w)).mono ?_
  rintro e w1 ⟨rfl, hb, hf⟩
  have HB : Hid (Below w.heap.size w w1) := ((Below.refl _ _).alloc (Nat.le_refl _) _).trans hb
  have HF : Hid (Filled src mk w.heap.size w1) := hf
  clear hb hf
  go_wp2
  go_ret
  exact ⟨rfl, HB.out, HF.out⟩

set_option maxHeartbeats 1000000 in
theorem newLexer0_any (src : ByteArray) (mk : Bool) (w : World) :
    Calls Try.prog 8 #[.string src, .int .i64 0, .bool mk, .int .i64 0] w fun e w' => e = .returned (.pointer (some ⟨w.heap.size, 0, none⟩)) ∧ Below w.heap.size w w' ∧ LexAt w' w.heap.size 0 src 0 mk 0 := by
  go_enter Try.func8, Try.ntmps8
  go_wp2
  go_ret
  exact ⟨rfl, (Below.refl _ _).alloc (Nat.le_refl _) _, by simp, by simp, by simp, by simp, by simp, fun j => World.frozen?_alloc_at _ _ _ j rfl⟩

set_option maxHeartbeats 2000000 in
theorem lexNext_any (L o : Nat) (src : ByteArray) (pos : Nat) (mk : Bool) (md : Int) (w : World) (hp : pos ≤ src.size) (hs : src.size ≤ 1048576) (hm0 : 0 ≤ md) (hm1 : md ≤ 1048576) (hL : LexAt w L o src pos mk md)
    (k p n : Int) (tx vl : ByteArray) (ht : (nx src mk md pos).1 = tkV k p tx vl n) :
    Calls Try.prog 15 #[.pointer (some ⟨L, o, none⟩)] w fun e w' => e = .returned (.tuple #[.int .i64 k, .int .i64 p, .string tx, .string vl, .int .i64 n]) ∧ LM w w' L o (nx src mk md pos).2.1 (nx src mk md pos).2.2 := by
  go_enter Try.func15, Try.ntmps15
  go_wp2_with fail
  refine (next_any L o src pos mk md _ hp hs hm0 hm1 hL).mono ?_
  rintro e w1 ⟨rfl, hm⟩
  rw [ht]
  have HM : Hid (LM w w1 L o (nx src mk md pos).2.1 (nx src mk md pos).2.2) := hm
  have hz : w.heap.size ≤ w1.heap.size := by have := Below.size hm; rw [size_setCell, size_setCell] at this; exact this
  clear hm ht
  unfold tkV
  go_wp2
  go_quiet (fail)
  go_wp2
  refine bodyPost_ret (v := .tuple #[.int .i64 k, .int .i64 p, .string tx, .string vl, .int .i64 n]) (by simp [results, Try.results15, go_sem]) rfl ⟨rfl, ?_⟩
  exact below_drewN (Below.alloc HM.out hz _) _

set_option maxHeartbeats 1000000 in
theorem endsB1_any (k : Int) (w : World) : Calls Try.prog 16 #[.int .i64 k] w fun e w' => e = .returned (.bool (k == 10 || k == 0)) ∧ w' = w := by
  cases h : (k == 0)
  · go_enter Try.func16, Try.ntmps16
    go_wp2
    go_ret
    exact ⟨ret_bool (by simp), rfl⟩
  · go_enter Try.func16, Try.ntmps16
    go_wp2
    go_ret
    exact ⟨ret_bool (by simp), rfl⟩
end Go.Proofs.Qxb6604722a
