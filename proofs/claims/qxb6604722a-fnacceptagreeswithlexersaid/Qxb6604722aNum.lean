import Derived.Test.Qxb6604722aBlank
namespace Go.Proofs.Qxb6604722a
open Go.ChangeShapes Go.WideShapes Go.ChangeAt Go.RowKit
open Pl Lx
set_option linter.unusedSimpArgs false
set_option linter.unusedVariables false

def numEnd (s : ByteArray) (i : Nat) : Nat := i + (sn (s.extract i s.size)).1
def numTok (s : ByteArray) (i : Nat) : Value := tkV (if (sn (s.extract i s.size)).2 = true then 4 else 5) 0 (s.extract i (numEnd s i)) (s.extract i (numEnd s i)) 0

theorem numEnd_le {s : ByteArray} {i : Nat} (h : i ≤ s.size) : numEnd s i ≤ s.size := by
  have := sn_le (s.extract i s.size)
  unfold numEnd
  rw [ByteArray.size_extract] at this
  omega

set_option maxRecDepth 20000 in
set_option maxHeartbeats 4000000 in
theorem number_any (L o : Nat) (src : ByteArray) (pos : Nat) (mk : Bool) (md : Int) (w : World) (hp : pos ≤ src.size) (hs : src.size ≤ 1048576) (hL : LexAt w L o src pos mk md) :
    Calls Try.prog 44 #[.pointer (some ⟨L, o, none⟩)] w fun e w' => e = .returned (numTok src pos) ∧ Below w.heap.size (w.setCell ⟨L, o + 1, none⟩ (.int .i64 (numEnd src pos))) w' := by
  have HL : Hid (LexAt w L o src pos mk md) := hL
  have hS := LS.start hL
  have hlt := hL.lt
  have hN := numEnd_le hp
  have hN2 : pos ≤ numEnd src pos := by unfold numEnd; omega
  obtain ⟨ne, hne⟩ : ∃ ne, ne = numEnd src pos := ⟨_, rfl⟩
  have HN : Hid (ne = numEnd src pos) := hne
  rw [← hne] at hN hN2 ⊢
  have hz : (src.extract pos src.size).size ≤ 1048576 := by rw [ByteArray.size_extract]; omega
  have hsn : (pos : Int) + ((sn (src.extract pos src.size)).1 : Int) = (ne : Int) := by rw [hne]; unfold numEnd; omega
  clear hL hne
  have hp' : (pos : Int) ≤ (src.size : Int) := by omega
  have hp0 : (0 : Int) ≤ (pos : Int) := by omega
  have HW : Hid (LS w (w.alloc (.cells #[.int .i64 0, .int .i64 0, .string ⟨#[]⟩, .string ⟨#[]⟩, .int .i64 0] 50)) L o pos) := hS
  obtain ⟨c0, c1, f1⟩ := LS.cells HL.out HW.out
  clear hS
  go_enter Try.func44, Try.ntmps44
  go_upto_region 1 with fail
  generalize (w.alloc (.cells #[.int .i64 0, .int .i64 0, .string ⟨#[]⟩, .string ⟨#[]⟩, .int .i64 0] 50)) = w1 at HW c0 c1 f1 ⊢
  go_wp2_with fail
  refine (scanNumber_any _ _ hz).mono ?_
  rintro e w' ⟨rfl, rfl⟩
  have hk : ((sn (src.extract pos src.size)).1 : Int) ≤ 1048576 := by omega
  go_upto_region 4 with fail
  have HW2 : Hid (LS w (w'.setCell ⟨L, o + 1, none⟩ (.int .i64 ne)) L o ne) := LS.move HW.out _
  generalize w'.setCell ⟨L, o + 1, none⟩ (.int .i64 (ne : Int)) = w2 at HW2 ⊢
  clear c0 c1 f1 HW
  obtain ⟨c0, c1, f1⟩ := LS.cells HL.out HW2.out
  have hN' : (ne : Int) ≤ (src.size : Int) := by omega
  have hN2' : (pos : Int) ≤ (ne : Int) := by omega
  cases hb : (sn (src.extract pos src.size)).2
  all_goals
    have HB : Hid ((sn (src.extract pos src.size)).2 = _) := hb
    clear hb
    go_wp2_with fail
    go_quiet (fail)
    have HW3 : Hid (LS w (w2.drewN nq) L o ne) := LS.drewN HW2.out nq
    generalize w2.drewN nq = w3 at HW3 ⊢
    obtain ⟨t0, t1, t2, t3, t4, tf⟩ := LS.tok HW3.out hlt
    clear c0 c1 f1 HW2
    go_wp2
    refine bodyPost_ret (v := numTok src pos) (by simp [results, Try.results44, go_sem, numTok, HB.out, ← HN.out, tkV, t0, t1, t2, t3, t4]) rfl ⟨rfl, ?_⟩
    exact LS.done HW3.out hlt _ _ _ _ _
end Go.Proofs.Qxb6604722a
